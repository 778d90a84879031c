import JvmDerived
import JvmDerived.Pilot.@@N@@Statement
import JvmDerived.Pilot.@@N@@Code
set_option linter.unusedVariables false
set_option linter.unusedSimpArgs false
namespace Jvm.Own
open Jvm Sem ClassFile Op Lib Jvm.Stand Jvm.Free Jvm.LawKit Jvm.RoadKit Bundle
/-- from the state U on the body comes to its end, and what it leaves answers to Q -/
def Ends (tb : Tables) (e : Env) (below : List Frame) (Q : Option Value → Heap → List Loc → Prop) (F : Outcome → State → List Loc → Prop) (U : State) : Prop :=
  ∃ s₂ o, Steps tb e below U s₂ ∧ s₂.status = .running ∧ Ended s₂ below o ∧ ∃ v L, o = .returned v ∧ Q v s₂.heap L ∧ F o s₂ L
/-- the frame that a body keeps; the wide one of a body that may load a String constant -/
abbrev FE (s : State) (C S : Nat) : Outcome → State → List Loc → Prop := fun o t L => FrameEnd s o t L C S
abbrev FW (s : State) (C S : Nat) : Outcome → State → List Loc → Prop := fun o t L => ReturnedEndW s o t L C S
section Walk
variable {p : Program} {l : Launch} {e : Env} {R : Room} {s : State} {m : MethodId} {args : Array Value} {below : List Frame} {meth : Method} {c : Code} {T : State} {locs : List Loc} {cells slots : Nat} {Q : Option Value → Heap → List Loc → Prop} {F : Outcome → State → List Loc → Prop} {C S : Nat} {pc : Nat} {Ls : Array Slot} {st : List Value} {Z : State} {a0 : Array Value} {h : Heap}
theorem Ends.step {tb : Tables} {U V : State} (k : Ends tb e below Q F V) (hs : ∀ t, Steps tb e below V t → Steps tb e below U t) : Ends tb e below Q F U := by
  obtain ⟨s₂, o, h1, r⟩ := k
  exact ⟨s₂, o, hs _ h1, r⟩
theorem Ends.mono {tb : Tables} {U : State} {Q' : Option Value → Heap → List Loc → Prop} (k : Ends tb e below Q' F U) (hq : ∀ v h L, Q' v h L → Q v h L) : Ends tb e below Q F U := by
  obtain ⟨s₂, o, h1, h2, h3, v, L, h4, h5, h6⟩ := k
  exact ⟨s₂, o, h1, h2, h3, v, L, h4, hq _ _ _ h5, h6⟩
theorem iload (n : Nat) (X : Stand p l e R s m args below meth c T locs cells slots) (hx : p.tables.exec = Jvm.exec) {k : Nat} {v : Int32} (hd : decode c.code pc = .ok (.iload k, 2)) (hn : pc + 2 = n) (hl : Ls[k]? = some (.val (.int v))) (K : Ends p.tables e below Q F (T.setTop (mkF m n Ls (.int v :: st)))) : Ends p.tables e below Q F (T.setTop (mkF m pc Ls (st))) := by
  subst hn; exact K.step fun t k => XS.iload (g := mkF m pc Ls (st)) X.here hx rfl hd hl k
theorem iloadN (n : Nat) (X : Stand p l e R s m args below meth c T locs cells slots) (hx : p.tables.exec = Jvm.exec) {k : Fin 4} {v : Int32} (hd : decode c.code pc = .ok (.iload_n k, 1)) (hn : pc + 1 = n) (hl : Ls[k.val]? = some (.val (.int v))) (K : Ends p.tables e below Q F (T.setTop (mkF m n Ls (.int v :: st)))) : Ends p.tables e below Q F (T.setTop (mkF m pc Ls (st))) := by
  subst hn; exact K.step fun t k => XS.iloadN (g := mkF m pc Ls (st)) X.here hx rfl hd hl k
theorem lload (n : Nat) (X : Stand p l e R s m args below meth c T locs cells slots) (hx : p.tables.exec = Jvm.exec) {k : Nat} {v : Int64} (hd : decode c.code pc = .ok (.lload k, 2)) (hn : pc + 2 = n) (hl : Ls[k]? = some (.val (.long v))) (K : Ends p.tables e below Q F (T.setTop (mkF m n Ls (.long v :: st)))) : Ends p.tables e below Q F (T.setTop (mkF m pc Ls (st))) := by
  subst hn; exact K.step fun t k => XS.lload (g := mkF m pc Ls (st)) X.here hx rfl hd hl k
theorem lloadN (n : Nat) (X : Stand p l e R s m args below meth c T locs cells slots) (hx : p.tables.exec = Jvm.exec) {k : Fin 4} {v : Int64} (hd : decode c.code pc = .ok (.lload_n k, 1)) (hn : pc + 1 = n) (hl : Ls[k.val]? = some (.val (.long v))) (K : Ends p.tables e below Q F (T.setTop (mkF m n Ls (.long v :: st)))) : Ends p.tables e below Q F (T.setTop (mkF m pc Ls (st))) := by
  subst hn; exact K.step fun t k => XS.lloadN (g := mkF m pc Ls (st)) X.here hx rfl hd hl k
theorem aload (n : Nat) (X : Stand p l e R s m args below meth c T locs cells slots) (hx : p.tables.exec = Jvm.exec) {k : Nat} {v : Value} (hd : decode c.code pc = .ok (.aload k, 2)) (hn : pc + 2 = n) (hl : Ls[k]? = some (.val v)) (hv : v.isRef = true) (K : Ends p.tables e below Q F (T.setTop (mkF m n Ls (v :: st)))) : Ends p.tables e below Q F (T.setTop (mkF m pc Ls (st))) := by
  subst hn; exact K.step fun t k => XS.aload (g := mkF m pc Ls (st)) X.here hx rfl hd hl hv k
theorem aloadN (n : Nat) (X : Stand p l e R s m args below meth c T locs cells slots) (hx : p.tables.exec = Jvm.exec) {k : Fin 4} {v : Value} (hd : decode c.code pc = .ok (.aload_n k, 1)) (hn : pc + 1 = n) (hl : Ls[k.val]? = some (.val v)) (hv : v.isRef = true) (K : Ends p.tables e below Q F (T.setTop (mkF m n Ls (v :: st)))) : Ends p.tables e below Q F (T.setTop (mkF m pc Ls (st))) := by
  subst hn; exact K.step fun t k => XS.aloadN (g := mkF m pc Ls (st)) X.here hx rfl hd hl hv k
theorem iconst (n : Nat) (X : Stand p l e R s m args below meth c T locs cells slots) (hx : p.tables.exec = Jvm.exec) {i : Int} (v : Int32) (hd : decode c.code pc = .ok (.iconst i, 1)) (hn : pc + 1 = n) (hv : Int32.ofInt i = v) (K : Ends p.tables e below Q F (T.setTop (mkF m n Ls (.int v :: st)))) : Ends p.tables e below Q F (T.setTop (mkF m pc Ls (st))) := by
  subst hn; exact K.step fun t k => XS.iconst (g := mkF m pc Ls (st)) X.here hx rfl hd (hv ▸ k)
theorem bipush (n : Nat) (X : Stand p l e R s m args below meth c T locs cells slots) (hx : p.tables.exec = Jvm.exec) {i : Int} (v : Int32) (hd : decode c.code pc = .ok (.bipush i, 2)) (hn : pc + 2 = n) (hv : (Int8.ofInt i).toInt32 = v) (K : Ends p.tables e below Q F (T.setTop (mkF m n Ls (.int v :: st)))) : Ends p.tables e below Q F (T.setTop (mkF m pc Ls (st))) := by
  subst hn; exact K.step fun t k => XS.bipush (g := mkF m pc Ls (st)) X.here hx rfl hd (hv ▸ k)
theorem sipush (n : Nat) (X : Stand p l e R s m args below meth c T locs cells slots) (hx : p.tables.exec = Jvm.exec) {i : Int} (v : Int32) (hd : decode c.code pc = .ok (.sipush i, 3)) (hn : pc + 3 = n) (hv : (Int16.ofInt i).toInt32 = v) (K : Ends p.tables e below Q F (T.setTop (mkF m n Ls (.int v :: st)))) : Ends p.tables e below Q F (T.setTop (mkF m pc Ls (st))) := by
  subst hn; exact K.step fun t k => XS.sipush (g := mkF m pc Ls (st)) X.here hx rfl hd (hv ▸ k)
theorem lconst (n : Nat) (X : Stand p l e R s m args below meth c T locs cells slots) (hx : p.tables.exec = Jvm.exec) {i : Fin 2} (v : Int64) (hd : decode c.code pc = .ok (.lconst i, 1)) (hn : pc + 1 = n) (hv : Int64.ofNat i = v) (K : Ends p.tables e below Q F (T.setTop (mkF m n Ls (.long v :: st)))) : Ends p.tables e below Q F (T.setTop (mkF m pc Ls (st))) := by
  subst hn; exact K.step fun t k => XS.lconst (g := mkF m pc Ls (st)) X.here hx rfl hd (hv ▸ k)
theorem aconstNull (n : Nat) (X : Stand p l e R s m args below meth c T locs cells slots) (hx : p.tables.exec = Jvm.exec)  (hd : decode c.code pc = .ok (.aconst_null, 1)) (hn : pc + 1 = n)  (K : Ends p.tables e below Q F (T.setTop (mkF m n Ls (.null :: st)))) : Ends p.tables e below Q F (T.setTop (mkF m pc Ls (st))) := by
  subst hn; exact K.step fun t k => XS.aconstNull (g := mkF m pc Ls (st)) X.here hx rfl hd k
theorem iadd (n : Nat) (X : Stand p l e R s m args below meth c T locs cells slots) (hx : p.tables.exec = Jvm.exec) {x y r : Int32} {rest : List Value} (hd : decode c.code pc = .ok (.iadd, 1)) (hn : pc + 1 = n) (hr : x + y = r) (K : Ends p.tables e below Q F (T.setTop (mkF m n Ls (.int r :: rest)))) : Ends p.tables e below Q F (T.setTop (mkF m pc Ls (.int y :: .int x :: rest))) := by
  subst hn; exact K.step fun t k => XS.iadd (g := mkF m pc Ls (.int y :: .int x :: rest)) X.here hx rfl hd rfl (hr ▸ k)
theorem isub (n : Nat) (X : Stand p l e R s m args below meth c T locs cells slots) (hx : p.tables.exec = Jvm.exec) {x y r : Int32} {rest : List Value} (hd : decode c.code pc = .ok (.isub, 1)) (hn : pc + 1 = n) (hr : x - y = r) (K : Ends p.tables e below Q F (T.setTop (mkF m n Ls (.int r :: rest)))) : Ends p.tables e below Q F (T.setTop (mkF m pc Ls (.int y :: .int x :: rest))) := by
  subst hn; exact K.step fun t k => XS.isub (g := mkF m pc Ls (.int y :: .int x :: rest)) X.here hx rfl hd rfl (hr ▸ k)
theorem iand (n : Nat) (X : Stand p l e R s m args below meth c T locs cells slots) (hx : p.tables.exec = Jvm.exec) {x y r : Int32} {rest : List Value} (hd : decode c.code pc = .ok (.iand, 1)) (hn : pc + 1 = n) (hr : x &&& y = r) (K : Ends p.tables e below Q F (T.setTop (mkF m n Ls (.int r :: rest)))) : Ends p.tables e below Q F (T.setTop (mkF m pc Ls (.int y :: .int x :: rest))) := by
  subst hn; exact K.step fun t k => XS.iand (g := mkF m pc Ls (.int y :: .int x :: rest)) X.here hx rfl hd rfl (hr ▸ k)
theorem imul (n : Nat) (X : Stand p l e R s m args below meth c T locs cells slots) (hx : p.tables.exec = Jvm.exec) {x y r : Int32} {rest : List Value} (hd : decode c.code pc = .ok (.imul, 1)) (hn : pc + 1 = n) (hr : x * y = r) (K : Ends p.tables e below Q F (T.setTop (mkF m n Ls (.int r :: rest)))) : Ends p.tables e below Q F (T.setTop (mkF m pc Ls (.int y :: .int x :: rest))) := by
  subst hn; exact K.step fun t k => XS.imul (g := mkF m pc Ls (.int y :: .int x :: rest)) X.here hx rfl hd rfl (hr ▸ k)
theorem ior (n : Nat) (X : Stand p l e R s m args below meth c T locs cells slots) (hx : p.tables.exec = Jvm.exec) {x y r : Int32} {rest : List Value} (hd : decode c.code pc = .ok (.ior, 1)) (hn : pc + 1 = n) (hr : x ||| y = r) (K : Ends p.tables e below Q F (T.setTop (mkF m n Ls (.int r :: rest)))) : Ends p.tables e below Q F (T.setTop (mkF m pc Ls (.int y :: .int x :: rest))) := by
  subst hn; exact K.step fun t k => XS.ior (g := mkF m pc Ls (.int y :: .int x :: rest)) X.here hx rfl hd rfl (hr ▸ k)
theorem ixor (n : Nat) (X : Stand p l e R s m args below meth c T locs cells slots) (hx : p.tables.exec = Jvm.exec) {x y r : Int32} {rest : List Value} (hd : decode c.code pc = .ok (.ixor, 1)) (hn : pc + 1 = n) (hr : x ^^^ y = r) (K : Ends p.tables e below Q F (T.setTop (mkF m n Ls (.int r :: rest)))) : Ends p.tables e below Q F (T.setTop (mkF m pc Ls (.int y :: .int x :: rest))) := by
  subst hn; exact K.step fun t k => XS.ixor (g := mkF m pc Ls (.int y :: .int x :: rest)) X.here hx rfl hd rfl (hr ▸ k)
theorem ishl (n : Nat) (X : Stand p l e R s m args below meth c T locs cells slots) (hx : p.tables.exec = Jvm.exec) {x y r : Int32} {rest : List Value} (hd : decode c.code pc = .ok (.ishl, 1)) (hn : pc + 1 = n) (hr : x <<< (y &&& 31) = r) (K : Ends p.tables e below Q F (T.setTop (mkF m n Ls (.int r :: rest)))) : Ends p.tables e below Q F (T.setTop (mkF m pc Ls (.int y :: .int x :: rest))) := by
  subst hn; exact K.step fun t k => XS.ishl (g := mkF m pc Ls (.int y :: .int x :: rest)) X.here hx rfl hd rfl (hr ▸ k)
theorem ishr (n : Nat) (X : Stand p l e R s m args below meth c T locs cells slots) (hx : p.tables.exec = Jvm.exec) {x y r : Int32} {rest : List Value} (hd : decode c.code pc = .ok (.ishr, 1)) (hn : pc + 1 = n) (hr : x >>> (y &&& 31) = r) (K : Ends p.tables e below Q F (T.setTop (mkF m n Ls (.int r :: rest)))) : Ends p.tables e below Q F (T.setTop (mkF m pc Ls (.int y :: .int x :: rest))) := by
  subst hn; exact K.step fun t k => XS.ishr (g := mkF m pc Ls (.int y :: .int x :: rest)) X.here hx rfl hd rfl (hr ▸ k)
theorem iushr (n : Nat) (X : Stand p l e R s m args below meth c T locs cells slots) (hx : p.tables.exec = Jvm.exec) {x y r : Int32} {rest : List Value} (hd : decode c.code pc = .ok (.iushr, 1)) (hn : pc + 1 = n) (hr : (x.toUInt32 >>> (y &&& 31).toUInt32).toInt32 = r) (K : Ends p.tables e below Q F (T.setTop (mkF m n Ls (.int r :: rest)))) : Ends p.tables e below Q F (T.setTop (mkF m pc Ls (.int y :: .int x :: rest))) := by
  subst hn; exact K.step fun t k => XS.iushr (g := mkF m pc Ls (.int y :: .int x :: rest)) X.here hx rfl hd rfl (hr ▸ k)
theorem ladd (n : Nat) (X : Stand p l e R s m args below meth c T locs cells slots) (hx : p.tables.exec = Jvm.exec) {x y r : Int64} {rest : List Value} (hd : decode c.code pc = .ok (.ladd, 1)) (hn : pc + 1 = n) (hr : x + y = r) (K : Ends p.tables e below Q F (T.setTop (mkF m n Ls (.long r :: rest)))) : Ends p.tables e below Q F (T.setTop (mkF m pc Ls (.long y :: .long x :: rest))) := by
  subst hn; exact K.step fun t k => XS.ladd (g := mkF m pc Ls (.long y :: .long x :: rest)) X.here hx rfl hd rfl (hr ▸ k)
theorem lsub (n : Nat) (X : Stand p l e R s m args below meth c T locs cells slots) (hx : p.tables.exec = Jvm.exec) {x y r : Int64} {rest : List Value} (hd : decode c.code pc = .ok (.lsub, 1)) (hn : pc + 1 = n) (hr : x - y = r) (K : Ends p.tables e below Q F (T.setTop (mkF m n Ls (.long r :: rest)))) : Ends p.tables e below Q F (T.setTop (mkF m pc Ls (.long y :: .long x :: rest))) := by
  subst hn; exact K.step fun t k => XS.lsub (g := mkF m pc Ls (.long y :: .long x :: rest)) X.here hx rfl hd rfl (hr ▸ k)
theorem land (n : Nat) (X : Stand p l e R s m args below meth c T locs cells slots) (hx : p.tables.exec = Jvm.exec) {x y r : Int64} {rest : List Value} (hd : decode c.code pc = .ok (.land, 1)) (hn : pc + 1 = n) (hr : x &&& y = r) (K : Ends p.tables e below Q F (T.setTop (mkF m n Ls (.long r :: rest)))) : Ends p.tables e below Q F (T.setTop (mkF m pc Ls (.long y :: .long x :: rest))) := by
  subst hn; exact K.step fun t k => XS.land (g := mkF m pc Ls (.long y :: .long x :: rest)) X.here hx rfl hd rfl (hr ▸ k)
theorem lmul (n : Nat) (X : Stand p l e R s m args below meth c T locs cells slots) (hx : p.tables.exec = Jvm.exec) {x y r : Int64} {rest : List Value} (hd : decode c.code pc = .ok (.lmul, 1)) (hn : pc + 1 = n) (hr : x * y = r) (K : Ends p.tables e below Q F (T.setTop (mkF m n Ls (.long r :: rest)))) : Ends p.tables e below Q F (T.setTop (mkF m pc Ls (.long y :: .long x :: rest))) := by
  subst hn; exact K.step fun t k => XS.lmul (g := mkF m pc Ls (.long y :: .long x :: rest)) X.here hx rfl hd rfl (hr ▸ k)
theorem lor (n : Nat) (X : Stand p l e R s m args below meth c T locs cells slots) (hx : p.tables.exec = Jvm.exec) {x y r : Int64} {rest : List Value} (hd : decode c.code pc = .ok (.lor, 1)) (hn : pc + 1 = n) (hr : x ||| y = r) (K : Ends p.tables e below Q F (T.setTop (mkF m n Ls (.long r :: rest)))) : Ends p.tables e below Q F (T.setTop (mkF m pc Ls (.long y :: .long x :: rest))) := by
  subst hn; exact K.step fun t k => XS.lor (g := mkF m pc Ls (.long y :: .long x :: rest)) X.here hx rfl hd rfl (hr ▸ k)
theorem lxor (n : Nat) (X : Stand p l e R s m args below meth c T locs cells slots) (hx : p.tables.exec = Jvm.exec) {x y r : Int64} {rest : List Value} (hd : decode c.code pc = .ok (.lxor, 1)) (hn : pc + 1 = n) (hr : x ^^^ y = r) (K : Ends p.tables e below Q F (T.setTop (mkF m n Ls (.long r :: rest)))) : Ends p.tables e below Q F (T.setTop (mkF m pc Ls (.long y :: .long x :: rest))) := by
  subst hn; exact K.step fun t k => XS.lxor (g := mkF m pc Ls (.long y :: .long x :: rest)) X.here hx rfl hd rfl (hr ▸ k)
theorem lshl (n : Nat) (X : Stand p l e R s m args below meth c T locs cells slots) (hx : p.tables.exec = Jvm.exec) {x r : Int64} {y : Int32} {rest : List Value} (hd : decode c.code pc = .ok (.lshl, 1)) (hn : pc + 1 = n) (hr : x <<< (y &&& 0x3f).toInt64 = r) (K : Ends p.tables e below Q F (T.setTop (mkF m n Ls (.long r :: rest)))) : Ends p.tables e below Q F (T.setTop (mkF m pc Ls (.int y :: .long x :: rest))) := by
  subst hn; exact K.step fun t k => XS.lshl (g := mkF m pc Ls (.int y :: .long x :: rest)) X.here hx rfl hd rfl (hr ▸ k)
theorem lshr (n : Nat) (X : Stand p l e R s m args below meth c T locs cells slots) (hx : p.tables.exec = Jvm.exec) {x r : Int64} {y : Int32} {rest : List Value} (hd : decode c.code pc = .ok (.lshr, 1)) (hn : pc + 1 = n) (hr : x >>> (y &&& 0x3f).toInt64 = r) (K : Ends p.tables e below Q F (T.setTop (mkF m n Ls (.long r :: rest)))) : Ends p.tables e below Q F (T.setTop (mkF m pc Ls (.int y :: .long x :: rest))) := by
  subst hn; exact K.step fun t k => XS.lshr (g := mkF m pc Ls (.int y :: .long x :: rest)) X.here hx rfl hd rfl (hr ▸ k)
theorem lushr (n : Nat) (X : Stand p l e R s m args below meth c T locs cells slots) (hx : p.tables.exec = Jvm.exec) {x r : Int64} {y : Int32} {rest : List Value} (hd : decode c.code pc = .ok (.lushr, 1)) (hn : pc + 1 = n) (hr : (x.toUInt64 >>> (y &&& 0x3f).toInt64.toUInt64).toInt64 = r) (K : Ends p.tables e below Q F (T.setTop (mkF m n Ls (.long r :: rest)))) : Ends p.tables e below Q F (T.setTop (mkF m pc Ls (.int y :: .long x :: rest))) := by
  subst hn; exact K.step fun t k => XS.lushr (g := mkF m pc Ls (.int y :: .long x :: rest)) X.here hx rfl hd rfl (hr ▸ k)
theorem idiv (n : Nat) (X : Stand p l e R s m args below meth c T locs cells slots) (hx : p.tables.exec = Jvm.exec) {x y r : Int32} {rest : List Value} (hd : decode c.code pc = .ok (.idiv, 1)) (hn : pc + 1 = n) (hy : y ≠ 0) (hr : x / y = r) (K : Ends p.tables e below Q F (T.setTop (mkF m n Ls (.int r :: rest)))) : Ends p.tables e below Q F (T.setTop (mkF m pc Ls (.int y :: .int x :: rest))) := by
  subst hn; exact K.step fun t k => XS.idiv (g := mkF m pc Ls (.int y :: .int x :: rest)) X.here hx rfl hd rfl hy (hr ▸ k)
theorem irem (n : Nat) (X : Stand p l e R s m args below meth c T locs cells slots) (hx : p.tables.exec = Jvm.exec) {x y r : Int32} {rest : List Value} (hd : decode c.code pc = .ok (.irem, 1)) (hn : pc + 1 = n) (hy : y ≠ 0) (hr : x % y = r) (K : Ends p.tables e below Q F (T.setTop (mkF m n Ls (.int r :: rest)))) : Ends p.tables e below Q F (T.setTop (mkF m pc Ls (.int y :: .int x :: rest))) := by
  subst hn; exact K.step fun t k => iremM (g := mkF m pc Ls (.int y :: .int x :: rest)) X hx rfl hd rfl hy (hr ▸ k)
theorem ldiv (n : Nat) (X : Stand p l e R s m args below meth c T locs cells slots) (hx : p.tables.exec = Jvm.exec) {x y r : Int64} {rest : List Value} (hd : decode c.code pc = .ok (.ldiv, 1)) (hn : pc + 1 = n) (hy : y ≠ 0) (hr : x / y = r) (K : Ends p.tables e below Q F (T.setTop (mkF m n Ls (.long r :: rest)))) : Ends p.tables e below Q F (T.setTop (mkF m pc Ls (.long y :: .long x :: rest))) := by
  subst hn; exact K.step fun t k => XS.ldiv (g := mkF m pc Ls (.long y :: .long x :: rest)) X.here hx rfl hd rfl hy (hr ▸ k)
theorem lrem (n : Nat) (X : Stand p l e R s m args below meth c T locs cells slots) (hx : p.tables.exec = Jvm.exec) {x y r : Int64} {rest : List Value} (hd : decode c.code pc = .ok (.lrem, 1)) (hn : pc + 1 = n) (hy : y ≠ 0) (hr : x % y = r) (K : Ends p.tables e below Q F (T.setTop (mkF m n Ls (.long r :: rest)))) : Ends p.tables e below Q F (T.setTop (mkF m pc Ls (.long y :: .long x :: rest))) := by
  subst hn; exact K.step fun t k => XS.lrem (g := mkF m pc Ls (.long y :: .long x :: rest)) X.here hx rfl hd rfl hy (by rw [lrem_mod, hr]; exact k)
theorem ineg (n : Nat) (X : Stand p l e R s m args below meth c T locs cells slots) (hx : p.tables.exec = Jvm.exec) {x : Int32} {r : Int32} {rest : List Value} (hd : decode c.code pc = .ok (.ineg, 1)) (hn : pc + 1 = n) (hr : -x = r) (K : Ends p.tables e below Q F (T.setTop (mkF m n Ls (.int r :: rest)))) : Ends p.tables e below Q F (T.setTop (mkF m pc Ls (.int x :: rest))) := by
  subst hn; exact K.step fun t k => XS.ineg (g := mkF m pc Ls (.int x :: rest)) X.here hx rfl hd rfl (hr ▸ k)
theorem lneg (n : Nat) (X : Stand p l e R s m args below meth c T locs cells slots) (hx : p.tables.exec = Jvm.exec) {x : Int64} {r : Int64} {rest : List Value} (hd : decode c.code pc = .ok (.lneg, 1)) (hn : pc + 1 = n) (hr : -x = r) (K : Ends p.tables e below Q F (T.setTop (mkF m n Ls (.long r :: rest)))) : Ends p.tables e below Q F (T.setTop (mkF m pc Ls (.long x :: rest))) := by
  subst hn; exact K.step fun t k => XS.lneg (g := mkF m pc Ls (.long x :: rest)) X.here hx rfl hd rfl (hr ▸ k)
theorem i2l (n : Nat) (X : Stand p l e R s m args below meth c T locs cells slots) (hx : p.tables.exec = Jvm.exec) {x : Int32} {r : Int64} {rest : List Value} (hd : decode c.code pc = .ok (.i2l, 1)) (hn : pc + 1 = n) (hr : x.toInt64 = r) (K : Ends p.tables e below Q F (T.setTop (mkF m n Ls (.long r :: rest)))) : Ends p.tables e below Q F (T.setTop (mkF m pc Ls (.int x :: rest))) := by
  subst hn; exact K.step fun t k => XS.i2l (g := mkF m pc Ls (.int x :: rest)) X.here hx rfl hd rfl (hr ▸ k)
theorem l2i (n : Nat) (X : Stand p l e R s m args below meth c T locs cells slots) (hx : p.tables.exec = Jvm.exec) {x : Int64} {r : Int32} {rest : List Value} (hd : decode c.code pc = .ok (.l2i, 1)) (hn : pc + 1 = n) (hr : x.toInt32 = r) (K : Ends p.tables e below Q F (T.setTop (mkF m n Ls (.int r :: rest)))) : Ends p.tables e below Q F (T.setTop (mkF m pc Ls (.long x :: rest))) := by
  subst hn; exact K.step fun t k => XS.l2i (g := mkF m pc Ls (.long x :: rest)) X.here hx rfl hd rfl (hr ▸ k)
theorem i2b (n : Nat) (X : Stand p l e R s m args below meth c T locs cells slots) (hx : p.tables.exec = Jvm.exec) {x : Int32} {r : Int32} {rest : List Value} (hd : decode c.code pc = .ok (.i2b, 1)) (hn : pc + 1 = n) (hr : x.toInt8.toInt32 = r) (K : Ends p.tables e below Q F (T.setTop (mkF m n Ls (.int r :: rest)))) : Ends p.tables e below Q F (T.setTop (mkF m pc Ls (.int x :: rest))) := by
  subst hn; exact K.step fun t k => XS.i2b (g := mkF m pc Ls (.int x :: rest)) X.here hx rfl hd rfl (hr ▸ k)
theorem i2c (n : Nat) (X : Stand p l e R s m args below meth c T locs cells slots) (hx : p.tables.exec = Jvm.exec) {x : Int32} {r : Int32} {rest : List Value} (hd : decode c.code pc = .ok (.i2c, 1)) (hn : pc + 1 = n) (hr : x.toUInt32.toUInt16.toUInt32.toInt32 = r) (K : Ends p.tables e below Q F (T.setTop (mkF m n Ls (.int r :: rest)))) : Ends p.tables e below Q F (T.setTop (mkF m pc Ls (.int x :: rest))) := by
  subst hn; exact K.step fun t k => XS.i2c (g := mkF m pc Ls (.int x :: rest)) X.here hx rfl hd rfl (hr ▸ k)
theorem i2s (n : Nat) (X : Stand p l e R s m args below meth c T locs cells slots) (hx : p.tables.exec = Jvm.exec) {x : Int32} {r : Int32} {rest : List Value} (hd : decode c.code pc = .ok (.i2s, 1)) (hn : pc + 1 = n) (hr : x.toInt16.toInt32 = r) (K : Ends p.tables e below Q F (T.setTop (mkF m n Ls (.int r :: rest)))) : Ends p.tables e below Q F (T.setTop (mkF m pc Ls (.int x :: rest))) := by
  subst hn; exact K.step fun t k => XS.i2s (g := mkF m pc Ls (.int x :: rest)) X.here hx rfl hd rfl (hr ▸ k)
theorem dup (n : Nat) (X : Stand p l e R s m args below meth c T locs cells slots) (hx : p.tables.exec = Jvm.exec) {x : Value} {rest : List Value} (hd : decode c.code pc = .ok (.dup, 1)) (hn : pc + 1 = n) (hc : x.category = 1) (K : Ends p.tables e below Q F (T.setTop (mkF m n Ls (x :: x :: rest)))) : Ends p.tables e below Q F (T.setTop (mkF m pc Ls (x :: rest))) := by
  subst hn; exact K.step fun t k => XS.dup (g := mkF m pc Ls (x :: rest)) X.here hx rfl hd rfl hc k
theorem pop (n : Nat) (X : Stand p l e R s m args below meth c T locs cells slots) (hx : p.tables.exec = Jvm.exec) {x : Value} {rest : List Value} (hd : decode c.code pc = .ok (.pop, 1)) (hn : pc + 1 = n) (hc : x.category = 1) (K : Ends p.tables e below Q F (T.setTop (mkF m n Ls (rest)))) : Ends p.tables e below Q F (T.setTop (mkF m pc Ls (x :: rest))) := by
  subst hn; exact K.step fun t k => XS.pop (g := mkF m pc Ls (x :: rest)) X.here hx rfl hd rfl hc k
theorem dupX1 (n : Nat) (X : Stand p l e R s m args below meth c T locs cells slots) (hx : p.tables.exec = Jvm.exec) {x y : Value} {rest : List Value} (hd : decode c.code pc = .ok (.dup_x1, 1)) (hn : pc + 1 = n) (hc : x.category = 1) (hc2 : y.category = 1) (K : Ends p.tables e below Q F (T.setTop (mkF m n Ls (x :: y :: x :: rest)))) : Ends p.tables e below Q F (T.setTop (mkF m pc Ls (x :: y :: rest))) := by
  subst hn; exact K.step fun t k => XS.dupX1 (g := mkF m pc Ls (x :: y :: rest)) X.here hx rfl hd rfl hc hc2 k
theorem istore (n : Nat) (Fs : Int32 → Array Slot) (X : Stand p l e R s m args below meth c T locs cells slots) (hx : p.tables.exec = Jvm.exec) {k : Nat} {x : Int32} {rest : List Value} (hd : decode c.code pc = .ok (.istore k, 2)) (hn : pc + 2 = n) (hl : ∀ z, storeLocals Ls k (.int z) = some (Fs z)) (K : ∀ z, z = x → Ends p.tables e below Q F (T.setTop (mkF m n (Fs z) (rest)))) : Ends p.tables e below Q F (T.setTop (mkF m pc Ls (.int x :: rest))) := by
  subst hn; exact (K x rfl).step fun t k => XS.istore (g := mkF m pc Ls (.int x :: rest)) X.here hx rfl hd rfl (hl x) k
theorem istoreV (n : Nat) (L1 : Array Slot) (X : Stand p l e R s m args below meth c T locs cells slots) (hx : p.tables.exec = Jvm.exec) {k : Nat} {x : Int32} {rest : List Value} (hd : decode c.code pc = .ok (.istore k, 2)) (hn : pc + 2 = n) (hl : storeLocals Ls k (.int x) = some L1) (K : Ends p.tables e below Q F (T.setTop (mkF m n L1 (rest)))) : Ends p.tables e below Q F (T.setTop (mkF m pc Ls (.int x :: rest))) := by
  subst hn; exact K.step fun t k => XS.istore (g := mkF m pc Ls (.int x :: rest)) X.here hx rfl hd rfl hl k
theorem istoreN (n : Nat) (Fs : Int32 → Array Slot) (X : Stand p l e R s m args below meth c T locs cells slots) (hx : p.tables.exec = Jvm.exec) {k : Fin 4} {x : Int32} {rest : List Value} (hd : decode c.code pc = .ok (.istore_n k, 1)) (hn : pc + 1 = n) (hl : ∀ z, storeLocals Ls k.val (.int z) = some (Fs z)) (K : ∀ z, z = x → Ends p.tables e below Q F (T.setTop (mkF m n (Fs z) (rest)))) : Ends p.tables e below Q F (T.setTop (mkF m pc Ls (.int x :: rest))) := by
  subst hn; exact (K x rfl).step fun t k => XS.istoreN (g := mkF m pc Ls (.int x :: rest)) X.here hx rfl hd rfl (hl x) k
theorem istoreNV (n : Nat) (L1 : Array Slot) (X : Stand p l e R s m args below meth c T locs cells slots) (hx : p.tables.exec = Jvm.exec) {k : Fin 4} {x : Int32} {rest : List Value} (hd : decode c.code pc = .ok (.istore_n k, 1)) (hn : pc + 1 = n) (hl : storeLocals Ls k.val (.int x) = some L1) (K : Ends p.tables e below Q F (T.setTop (mkF m n L1 (rest)))) : Ends p.tables e below Q F (T.setTop (mkF m pc Ls (.int x :: rest))) := by
  subst hn; exact K.step fun t k => XS.istoreN (g := mkF m pc Ls (.int x :: rest)) X.here hx rfl hd rfl hl k
theorem lstore (n : Nat) (Fs : Int64 → Array Slot) (X : Stand p l e R s m args below meth c T locs cells slots) (hx : p.tables.exec = Jvm.exec) {k : Nat} {x : Int64} {rest : List Value} (hd : decode c.code pc = .ok (.lstore k, 2)) (hn : pc + 2 = n) (hl : ∀ z, storeLocals Ls k (.long z) = some (Fs z)) (K : ∀ z, z = x → Ends p.tables e below Q F (T.setTop (mkF m n (Fs z) (rest)))) : Ends p.tables e below Q F (T.setTop (mkF m pc Ls (.long x :: rest))) := by
  subst hn; exact (K x rfl).step fun t k => XS.lstore (g := mkF m pc Ls (.long x :: rest)) X.here hx rfl hd rfl (hl x) k
theorem lstoreV (n : Nat) (L1 : Array Slot) (X : Stand p l e R s m args below meth c T locs cells slots) (hx : p.tables.exec = Jvm.exec) {k : Nat} {x : Int64} {rest : List Value} (hd : decode c.code pc = .ok (.lstore k, 2)) (hn : pc + 2 = n) (hl : storeLocals Ls k (.long x) = some L1) (K : Ends p.tables e below Q F (T.setTop (mkF m n L1 (rest)))) : Ends p.tables e below Q F (T.setTop (mkF m pc Ls (.long x :: rest))) := by
  subst hn; exact K.step fun t k => XS.lstore (g := mkF m pc Ls (.long x :: rest)) X.here hx rfl hd rfl hl k
theorem lstoreN (n : Nat) (Fs : Int64 → Array Slot) (X : Stand p l e R s m args below meth c T locs cells slots) (hx : p.tables.exec = Jvm.exec) {k : Fin 4} {x : Int64} {rest : List Value} (hd : decode c.code pc = .ok (.lstore_n k, 1)) (hn : pc + 1 = n) (hl : ∀ z, storeLocals Ls k.val (.long z) = some (Fs z)) (K : ∀ z, z = x → Ends p.tables e below Q F (T.setTop (mkF m n (Fs z) (rest)))) : Ends p.tables e below Q F (T.setTop (mkF m pc Ls (.long x :: rest))) := by
  subst hn; exact (K x rfl).step fun t k => XS.lstoreN (g := mkF m pc Ls (.long x :: rest)) X.here hx rfl hd rfl (hl x) k
theorem lstoreNV (n : Nat) (L1 : Array Slot) (X : Stand p l e R s m args below meth c T locs cells slots) (hx : p.tables.exec = Jvm.exec) {k : Fin 4} {x : Int64} {rest : List Value} (hd : decode c.code pc = .ok (.lstore_n k, 1)) (hn : pc + 1 = n) (hl : storeLocals Ls k.val (.long x) = some L1) (K : Ends p.tables e below Q F (T.setTop (mkF m n L1 (rest)))) : Ends p.tables e below Q F (T.setTop (mkF m pc Ls (.long x :: rest))) := by
  subst hn; exact K.step fun t k => XS.lstoreN (g := mkF m pc Ls (.long x :: rest)) X.here hx rfl hd rfl hl k
theorem astore (n : Nat) (L1 : Array Slot) (X : Stand p l e R s m args below meth c T locs cells slots) (hx : p.tables.exec = Jvm.exec) {k : Nat} {x : Value} {rest : List Value} (hd : decode c.code pc = .ok (.astore k, 2)) (hn : pc + 2 = n) (hv : x.isRef = true) (hl : storeLocals Ls k x = some L1) (K : Ends p.tables e below Q F (T.setTop (mkF m n L1 (rest)))) : Ends p.tables e below Q F (T.setTop (mkF m pc Ls (x :: rest))) := by
  subst hn; exact K.step fun t k => XS.astore (g := mkF m pc Ls (x :: rest)) X.here hx rfl hd rfl hv hl k
theorem astoreN (n : Nat) (L1 : Array Slot) (X : Stand p l e R s m args below meth c T locs cells slots) (hx : p.tables.exec = Jvm.exec) {k : Fin 4} {x : Value} {rest : List Value} (hd : decode c.code pc = .ok (.astore_n k, 1)) (hn : pc + 1 = n) (hv : x.isRef = true) (hl : storeLocals Ls k.val x = some L1) (K : Ends p.tables e below Q F (T.setTop (mkF m n L1 (rest)))) : Ends p.tables e below Q F (T.setTop (mkF m pc Ls (x :: rest))) := by
  subst hn; exact K.step fun t k => XS.astoreN (g := mkF m pc Ls (x :: rest)) X.here hx rfl hd rfl hv hl k
theorem iinc (n : Nat) (Fs : Int32 → Array Slot) (X : Stand p l e R s m args below meth c T locs cells slots) (hx : p.tables.exec = Jvm.exec) {k : Nat} {cst : Int} {x : Int32} (d : Int32) (hd : decode c.code pc = .ok (.iinc k cst, 3)) (hn : pc + 3 = n) (hc : Int32.ofInt cst = d) (hl : Ls[k]? = some (.val (.int x))) (hl2 : ∀ z, storeLocals Ls k (.int z) = some (Fs z)) (K : ∀ z, z = x + d → Ends p.tables e below Q F (T.setTop (mkF m n (Fs z) (st)))) : Ends p.tables e below Q F (T.setTop (mkF m pc Ls (st))) := by
  subst hn hc; exact (K _ rfl).step fun t k => XS.iinc (g := mkF m pc Ls st) X.here hx rfl hd hl (hl2 _) k
theorem goto (n : Nat) (X : Stand p l e R s m args below meth c T locs cells slots) (hx : p.tables.exec = Jvm.exec) {o : Int} (hd : decode c.code pc = .ok (.goto o, 3)) (hn : 0 ≤ (pc : Int) + o ∧ ((pc : Int) + o).toNat = n) (K : Ends p.tables e below Q F (T.setTop (mkF m n Ls (st)))) : Ends p.tables e below Q F (T.setTop (mkF m pc Ls (st))) :=
  K.step fun t k => XS.goto (g := mkF m pc Ls st) X.here hx rfl (pc0 := pc) (pc' := n) rfl hd hn.1 hn.2 k
theorem icmpB (nY nN : Nat) (X : Stand p l e R s m args below meth c T locs cells slots) (hx : p.tables.exec = Jvm.exec) {cd : ClassFile.Cond} {o : Int} {x y : Int32} {rest : List Value} (hd : decode c.code pc = .ok (.if_icmp cd o, 3)) (hY : 0 ≤ (pc : Int) + o ∧ ((pc : Int) + o).toNat = nY) (hN : pc + 3 = nN) (KY : if_icmp.holds cd x y = true → Ends p.tables e below Q F (T.setTop (mkF m nY Ls (rest)))) (KN : if_icmp.holds cd x y = false → Ends p.tables e below Q F (T.setTop (mkF m nN Ls (rest)))) : Ends p.tables e below Q F (T.setTop (mkF m pc Ls (.int y :: .int x :: rest))) := by
  subst hN
  cases hb : if_icmp.holds cd x y with
  | true => exact (KY hb).step fun t k => XS.icmpYes (g := mkF m pc Ls (.int y :: .int x :: rest)) X.here hx rfl (pc0 := pc) (pc' := nY) rfl hd rfl hb hY.1 hY.2 k
  | false => exact (KN hb).step fun t k => XS.icmpNo (g := mkF m pc Ls (.int y :: .int x :: rest)) X.here hx rfl hd rfl hb k
theorem ifB (nY nN : Nat) (X : Stand p l e R s m args below meth c T locs cells slots) (hx : p.tables.exec = Jvm.exec) {cd : ClassFile.Cond} {o : Int} {x : Int32} {rest : List Value} (hd : decode c.code pc = .ok (.ifCond cd o, 3)) (hY : 0 ≤ (pc : Int) + o ∧ ((pc : Int) + o).toNat = nY) (hN : pc + 3 = nN) (KY : if_icmp.holds cd x 0 = true → Ends p.tables e below Q F (T.setTop (mkF m nY Ls (rest)))) (KN : if_icmp.holds cd x 0 = false → Ends p.tables e below Q F (T.setTop (mkF m nN Ls (rest)))) : Ends p.tables e below Q F (T.setTop (mkF m pc Ls (.int x :: rest))) := by
  subst hN
  cases hb : if_icmp.holds cd x 0 with
  | true => exact (KY hb).step fun t k => XS.ifYes (g := mkF m pc Ls (.int x :: rest)) X.here hx rfl (pc0 := pc) (pc' := nY) rfl hd rfl ((if0 _ _).trans hb) hY.1 hY.2 k
  | false => exact (KN hb).step fun t k => XS.ifNo (g := mkF m pc Ls (.int x :: rest)) X.here hx rfl hd rfl ((if0 _ _).trans hb) k
theorem h_lt {x y : Int32} : (if_icmp.holds .lt x y = true → x < y) ∧ (if_icmp.holds .lt x y = false → ¬ x < y) := by simp [if_icmp.holds]
theorem h_ge {x y : Int32} : (if_icmp.holds .ge x y = true → ¬ x < y) ∧ (if_icmp.holds .ge x y = false → x < y) := by simp [if_icmp.holds, Int32.not_lt, Int32.not_le]
theorem h_gt {x y : Int32} : (if_icmp.holds .gt x y = true → y < x) ∧ (if_icmp.holds .gt x y = false → ¬ y < x) := by simp [if_icmp.holds, Int32.not_lt, Int32.not_le]
theorem h_le {x y : Int32} : (if_icmp.holds .le x y = true → ¬ y < x) ∧ (if_icmp.holds .le x y = false → y < x) := by simp [if_icmp.holds, Int32.not_lt, Int32.not_le]
theorem h_eq {x y : Int32} : (if_icmp.holds .eq x y = true → x = y) ∧ (if_icmp.holds .eq x y = false → ¬ x = y) := by simp [if_icmp.holds]
theorem h_ne {x y : Int32} : (if_icmp.holds .ne x y = true → ¬ x = y) ∧ (if_icmp.holds .ne x y = false → x = y) := by simp [if_icmp.holds]
theorem icmp_lt (nY nN : Nat) (X : Stand p l e R s m args below meth c T locs cells slots) (hx : p.tables.exec = Jvm.exec) {o : Int} {x y : Int32} {rest : List Value} (hd : decode c.code pc = .ok (.if_icmp .lt o, 3)) (hY : 0 ≤ (pc : Int) + o ∧ ((pc : Int) + o).toNat = nY) (hN : pc + 3 = nN) (KY : x < y → Ends p.tables e below Q F (T.setTop (mkF m nY Ls (rest)))) (KN : ¬ x < y → Ends p.tables e below Q F (T.setTop (mkF m nN Ls (rest)))) : Ends p.tables e below Q F (T.setTop (mkF m pc Ls (.int y :: .int x :: rest))) :=
  icmpB nY nN X hx hd hY hN (fun hb => KY (h_lt.1 hb)) (fun hb => KN (h_lt.2 hb))
theorem if_lt (nY nN : Nat) (X : Stand p l e R s m args below meth c T locs cells slots) (hx : p.tables.exec = Jvm.exec) {o : Int} {x : Int32} {rest : List Value} (hd : decode c.code pc = .ok (.ifCond .lt o, 3)) (hY : 0 ≤ (pc : Int) + o ∧ ((pc : Int) + o).toNat = nY) (hN : pc + 3 = nN) (KY : x < 0 → Ends p.tables e below Q F (T.setTop (mkF m nY Ls (rest)))) (KN : ¬ x < 0 → Ends p.tables e below Q F (T.setTop (mkF m nN Ls (rest)))) : Ends p.tables e below Q F (T.setTop (mkF m pc Ls (.int x :: rest))) :=
  ifB nY nN X hx hd hY hN (fun hb => KY (h_lt.1 hb)) (fun hb => KN (h_lt.2 hb))
theorem icmp_ge (nY nN : Nat) (X : Stand p l e R s m args below meth c T locs cells slots) (hx : p.tables.exec = Jvm.exec) {o : Int} {x y : Int32} {rest : List Value} (hd : decode c.code pc = .ok (.if_icmp .ge o, 3)) (hY : 0 ≤ (pc : Int) + o ∧ ((pc : Int) + o).toNat = nY) (hN : pc + 3 = nN) (KY : ¬ x < y → Ends p.tables e below Q F (T.setTop (mkF m nY Ls (rest)))) (KN : x < y → Ends p.tables e below Q F (T.setTop (mkF m nN Ls (rest)))) : Ends p.tables e below Q F (T.setTop (mkF m pc Ls (.int y :: .int x :: rest))) :=
  icmpB nY nN X hx hd hY hN (fun hb => KY (h_ge.1 hb)) (fun hb => KN (h_ge.2 hb))
theorem if_ge (nY nN : Nat) (X : Stand p l e R s m args below meth c T locs cells slots) (hx : p.tables.exec = Jvm.exec) {o : Int} {x : Int32} {rest : List Value} (hd : decode c.code pc = .ok (.ifCond .ge o, 3)) (hY : 0 ≤ (pc : Int) + o ∧ ((pc : Int) + o).toNat = nY) (hN : pc + 3 = nN) (KY : ¬ x < 0 → Ends p.tables e below Q F (T.setTop (mkF m nY Ls (rest)))) (KN : x < 0 → Ends p.tables e below Q F (T.setTop (mkF m nN Ls (rest)))) : Ends p.tables e below Q F (T.setTop (mkF m pc Ls (.int x :: rest))) :=
  ifB nY nN X hx hd hY hN (fun hb => KY (h_ge.1 hb)) (fun hb => KN (h_ge.2 hb))
theorem icmp_gt (nY nN : Nat) (X : Stand p l e R s m args below meth c T locs cells slots) (hx : p.tables.exec = Jvm.exec) {o : Int} {x y : Int32} {rest : List Value} (hd : decode c.code pc = .ok (.if_icmp .gt o, 3)) (hY : 0 ≤ (pc : Int) + o ∧ ((pc : Int) + o).toNat = nY) (hN : pc + 3 = nN) (KY : y < x → Ends p.tables e below Q F (T.setTop (mkF m nY Ls (rest)))) (KN : ¬ y < x → Ends p.tables e below Q F (T.setTop (mkF m nN Ls (rest)))) : Ends p.tables e below Q F (T.setTop (mkF m pc Ls (.int y :: .int x :: rest))) :=
  icmpB nY nN X hx hd hY hN (fun hb => KY (h_gt.1 hb)) (fun hb => KN (h_gt.2 hb))
theorem if_gt (nY nN : Nat) (X : Stand p l e R s m args below meth c T locs cells slots) (hx : p.tables.exec = Jvm.exec) {o : Int} {x : Int32} {rest : List Value} (hd : decode c.code pc = .ok (.ifCond .gt o, 3)) (hY : 0 ≤ (pc : Int) + o ∧ ((pc : Int) + o).toNat = nY) (hN : pc + 3 = nN) (KY : 0 < x → Ends p.tables e below Q F (T.setTop (mkF m nY Ls (rest)))) (KN : ¬ 0 < x → Ends p.tables e below Q F (T.setTop (mkF m nN Ls (rest)))) : Ends p.tables e below Q F (T.setTop (mkF m pc Ls (.int x :: rest))) :=
  ifB nY nN X hx hd hY hN (fun hb => KY (h_gt.1 hb)) (fun hb => KN (h_gt.2 hb))
theorem icmp_le (nY nN : Nat) (X : Stand p l e R s m args below meth c T locs cells slots) (hx : p.tables.exec = Jvm.exec) {o : Int} {x y : Int32} {rest : List Value} (hd : decode c.code pc = .ok (.if_icmp .le o, 3)) (hY : 0 ≤ (pc : Int) + o ∧ ((pc : Int) + o).toNat = nY) (hN : pc + 3 = nN) (KY : ¬ y < x → Ends p.tables e below Q F (T.setTop (mkF m nY Ls (rest)))) (KN : y < x → Ends p.tables e below Q F (T.setTop (mkF m nN Ls (rest)))) : Ends p.tables e below Q F (T.setTop (mkF m pc Ls (.int y :: .int x :: rest))) :=
  icmpB nY nN X hx hd hY hN (fun hb => KY (h_le.1 hb)) (fun hb => KN (h_le.2 hb))
theorem if_le (nY nN : Nat) (X : Stand p l e R s m args below meth c T locs cells slots) (hx : p.tables.exec = Jvm.exec) {o : Int} {x : Int32} {rest : List Value} (hd : decode c.code pc = .ok (.ifCond .le o, 3)) (hY : 0 ≤ (pc : Int) + o ∧ ((pc : Int) + o).toNat = nY) (hN : pc + 3 = nN) (KY : ¬ 0 < x → Ends p.tables e below Q F (T.setTop (mkF m nY Ls (rest)))) (KN : 0 < x → Ends p.tables e below Q F (T.setTop (mkF m nN Ls (rest)))) : Ends p.tables e below Q F (T.setTop (mkF m pc Ls (.int x :: rest))) :=
  ifB nY nN X hx hd hY hN (fun hb => KY (h_le.1 hb)) (fun hb => KN (h_le.2 hb))
theorem icmp_eq (nY nN : Nat) (X : Stand p l e R s m args below meth c T locs cells slots) (hx : p.tables.exec = Jvm.exec) {o : Int} {x y : Int32} {rest : List Value} (hd : decode c.code pc = .ok (.if_icmp .eq o, 3)) (hY : 0 ≤ (pc : Int) + o ∧ ((pc : Int) + o).toNat = nY) (hN : pc + 3 = nN) (KY : x = y → Ends p.tables e below Q F (T.setTop (mkF m nY Ls (rest)))) (KN : ¬ x = y → Ends p.tables e below Q F (T.setTop (mkF m nN Ls (rest)))) : Ends p.tables e below Q F (T.setTop (mkF m pc Ls (.int y :: .int x :: rest))) :=
  icmpB nY nN X hx hd hY hN (fun hb => KY (h_eq.1 hb)) (fun hb => KN (h_eq.2 hb))
theorem if_eq (nY nN : Nat) (X : Stand p l e R s m args below meth c T locs cells slots) (hx : p.tables.exec = Jvm.exec) {o : Int} {x : Int32} {rest : List Value} (hd : decode c.code pc = .ok (.ifCond .eq o, 3)) (hY : 0 ≤ (pc : Int) + o ∧ ((pc : Int) + o).toNat = nY) (hN : pc + 3 = nN) (KY : x = 0 → Ends p.tables e below Q F (T.setTop (mkF m nY Ls (rest)))) (KN : ¬ x = 0 → Ends p.tables e below Q F (T.setTop (mkF m nN Ls (rest)))) : Ends p.tables e below Q F (T.setTop (mkF m pc Ls (.int x :: rest))) :=
  ifB nY nN X hx hd hY hN (fun hb => KY (h_eq.1 hb)) (fun hb => KN (h_eq.2 hb))
theorem icmp_ne (nY nN : Nat) (X : Stand p l e R s m args below meth c T locs cells slots) (hx : p.tables.exec = Jvm.exec) {o : Int} {x y : Int32} {rest : List Value} (hd : decode c.code pc = .ok (.if_icmp .ne o, 3)) (hY : 0 ≤ (pc : Int) + o ∧ ((pc : Int) + o).toNat = nY) (hN : pc + 3 = nN) (KY : ¬ x = y → Ends p.tables e below Q F (T.setTop (mkF m nY Ls (rest)))) (KN : x = y → Ends p.tables e below Q F (T.setTop (mkF m nN Ls (rest)))) : Ends p.tables e below Q F (T.setTop (mkF m pc Ls (.int y :: .int x :: rest))) :=
  icmpB nY nN X hx hd hY hN (fun hb => KY (h_ne.1 hb)) (fun hb => KN (h_ne.2 hb))
theorem if_ne (nY nN : Nat) (X : Stand p l e R s m args below meth c T locs cells slots) (hx : p.tables.exec = Jvm.exec) {o : Int} {x : Int32} {rest : List Value} (hd : decode c.code pc = .ok (.ifCond .ne o, 3)) (hY : 0 ≤ (pc : Int) + o ∧ ((pc : Int) + o).toNat = nY) (hN : pc + 3 = nN) (KY : ¬ x = 0 → Ends p.tables e below Q F (T.setTop (mkF m nY Ls (rest)))) (KN : x = 0 → Ends p.tables e below Q F (T.setTop (mkF m nN Ls (rest)))) : Ends p.tables e below Q F (T.setTop (mkF m pc Ls (.int x :: rest))) :=
  ifB nY nN X hx hd hY hN (fun hb => KY (h_ne.1 hb)) (fun hb => KN (h_ne.2 hb))
theorem w_lt {x y : Int64} : lcmpW x y < 0 → x < y := (lw_lt x y).mp
theorem w_nlt {x y : Int64} : ¬ lcmpW x y < 0 → ¬ x < y := fun q r => q ((lw_lt x y).mpr r)
theorem w_gt {x y : Int64} : 0 < lcmpW x y → y < x := (lw_gt x y).mp
theorem w_ngt {x y : Int64} : ¬ 0 < lcmpW x y → ¬ y < x := fun q r => q ((lw_gt x y).mpr r)
theorem w_eq {x y : Int64} : lcmpW x y = 0 → x = y := (lw_eq x y).mp
theorem w_neq {x y : Int64} : ¬ lcmpW x y = 0 → ¬ x = y := fun q r => q ((lw_eq x y).mpr r)
theorem lif_lt (nY nN : Nat) (X : Stand p l e R s m args below meth c T locs cells slots) (hx : p.tables.exec = Jvm.exec) {o : Int} {x y : Int64} {rest : List Value} (hd0 : decode c.code pc = .ok (.lcmp, 1)) {pc1 : Nat} (hp : pc + 1 = pc1) (hd : decode c.code pc1 = .ok (.ifCond .lt o, 3)) (hY : 0 ≤ (pc1 : Int) + o ∧ ((pc1 : Int) + o).toNat = nY) (hN : pc1 + 3 = nN) (KY : x < y → Ends p.tables e below Q F (T.setTop (mkF m nY Ls (rest)))) (KN : ¬ x < y → Ends p.tables e below Q F (T.setTop (mkF m nN Ls (rest)))) : Ends p.tables e below Q F (T.setTop (mkF m pc Ls (.long y :: .long x :: rest))) := by
  subst hp
  refine Ends.step ?_ fun t k => XS.lcmp (g := mkF m pc Ls (.long y :: .long x :: rest)) X.here hx rfl hd0 rfl k
  exact if_lt nY nN X hx hd hY hN (fun hb => KY (w_lt hb)) (fun hb => KN (w_nlt hb))
theorem lif_ge (nY nN : Nat) (X : Stand p l e R s m args below meth c T locs cells slots) (hx : p.tables.exec = Jvm.exec) {o : Int} {x y : Int64} {rest : List Value} (hd0 : decode c.code pc = .ok (.lcmp, 1)) {pc1 : Nat} (hp : pc + 1 = pc1) (hd : decode c.code pc1 = .ok (.ifCond .ge o, 3)) (hY : 0 ≤ (pc1 : Int) + o ∧ ((pc1 : Int) + o).toNat = nY) (hN : pc1 + 3 = nN) (KY : ¬ x < y → Ends p.tables e below Q F (T.setTop (mkF m nY Ls (rest)))) (KN : x < y → Ends p.tables e below Q F (T.setTop (mkF m nN Ls (rest)))) : Ends p.tables e below Q F (T.setTop (mkF m pc Ls (.long y :: .long x :: rest))) := by
  subst hp
  refine Ends.step ?_ fun t k => XS.lcmp (g := mkF m pc Ls (.long y :: .long x :: rest)) X.here hx rfl hd0 rfl k
  exact if_ge nY nN X hx hd hY hN (fun hb => KY (w_nlt hb)) (fun hb => KN (w_lt hb))
theorem lif_gt (nY nN : Nat) (X : Stand p l e R s m args below meth c T locs cells slots) (hx : p.tables.exec = Jvm.exec) {o : Int} {x y : Int64} {rest : List Value} (hd0 : decode c.code pc = .ok (.lcmp, 1)) {pc1 : Nat} (hp : pc + 1 = pc1) (hd : decode c.code pc1 = .ok (.ifCond .gt o, 3)) (hY : 0 ≤ (pc1 : Int) + o ∧ ((pc1 : Int) + o).toNat = nY) (hN : pc1 + 3 = nN) (KY : y < x → Ends p.tables e below Q F (T.setTop (mkF m nY Ls (rest)))) (KN : ¬ y < x → Ends p.tables e below Q F (T.setTop (mkF m nN Ls (rest)))) : Ends p.tables e below Q F (T.setTop (mkF m pc Ls (.long y :: .long x :: rest))) := by
  subst hp
  refine Ends.step ?_ fun t k => XS.lcmp (g := mkF m pc Ls (.long y :: .long x :: rest)) X.here hx rfl hd0 rfl k
  exact if_gt nY nN X hx hd hY hN (fun hb => KY (w_gt hb)) (fun hb => KN (w_ngt hb))
theorem lif_le (nY nN : Nat) (X : Stand p l e R s m args below meth c T locs cells slots) (hx : p.tables.exec = Jvm.exec) {o : Int} {x y : Int64} {rest : List Value} (hd0 : decode c.code pc = .ok (.lcmp, 1)) {pc1 : Nat} (hp : pc + 1 = pc1) (hd : decode c.code pc1 = .ok (.ifCond .le o, 3)) (hY : 0 ≤ (pc1 : Int) + o ∧ ((pc1 : Int) + o).toNat = nY) (hN : pc1 + 3 = nN) (KY : ¬ y < x → Ends p.tables e below Q F (T.setTop (mkF m nY Ls (rest)))) (KN : y < x → Ends p.tables e below Q F (T.setTop (mkF m nN Ls (rest)))) : Ends p.tables e below Q F (T.setTop (mkF m pc Ls (.long y :: .long x :: rest))) := by
  subst hp
  refine Ends.step ?_ fun t k => XS.lcmp (g := mkF m pc Ls (.long y :: .long x :: rest)) X.here hx rfl hd0 rfl k
  exact if_le nY nN X hx hd hY hN (fun hb => KY (w_ngt hb)) (fun hb => KN (w_gt hb))
theorem lif_eq (nY nN : Nat) (X : Stand p l e R s m args below meth c T locs cells slots) (hx : p.tables.exec = Jvm.exec) {o : Int} {x y : Int64} {rest : List Value} (hd0 : decode c.code pc = .ok (.lcmp, 1)) {pc1 : Nat} (hp : pc + 1 = pc1) (hd : decode c.code pc1 = .ok (.ifCond .eq o, 3)) (hY : 0 ≤ (pc1 : Int) + o ∧ ((pc1 : Int) + o).toNat = nY) (hN : pc1 + 3 = nN) (KY : x = y → Ends p.tables e below Q F (T.setTop (mkF m nY Ls (rest)))) (KN : ¬ x = y → Ends p.tables e below Q F (T.setTop (mkF m nN Ls (rest)))) : Ends p.tables e below Q F (T.setTop (mkF m pc Ls (.long y :: .long x :: rest))) := by
  subst hp
  refine Ends.step ?_ fun t k => XS.lcmp (g := mkF m pc Ls (.long y :: .long x :: rest)) X.here hx rfl hd0 rfl k
  exact if_eq nY nN X hx hd hY hN (fun hb => KY (w_eq hb)) (fun hb => KN (w_neq hb))
theorem lif_ne (nY nN : Nat) (X : Stand p l e R s m args below meth c T locs cells slots) (hx : p.tables.exec = Jvm.exec) {o : Int} {x y : Int64} {rest : List Value} (hd0 : decode c.code pc = .ok (.lcmp, 1)) {pc1 : Nat} (hp : pc + 1 = pc1) (hd : decode c.code pc1 = .ok (.ifCond .ne o, 3)) (hY : 0 ≤ (pc1 : Int) + o ∧ ((pc1 : Int) + o).toNat = nY) (hN : pc1 + 3 = nN) (KY : ¬ x = y → Ends p.tables e below Q F (T.setTop (mkF m nY Ls (rest)))) (KN : x = y → Ends p.tables e below Q F (T.setTop (mkF m nN Ls (rest)))) : Ends p.tables e below Q F (T.setTop (mkF m pc Ls (.long y :: .long x :: rest))) := by
  subst hp
  refine Ends.step ?_ fun t k => XS.lcmp (g := mkF m pc Ls (.long y :: .long x :: rest)) X.here hx rfl hd0 rfl k
  exact if_ne nY nN X hx hd hY hN (fun hb => KY (w_neq hb)) (fun hb => KN (w_eq hb))
theorem ifnull (nY nN : Nat) (X : Stand p l e R s m args below meth c T locs cells slots) (hx : p.tables.exec = Jvm.exec) {o : Int} {v : Value} {rest : List Value} (hd : decode c.code pc = .ok (.ifnull o, 3)) (hv : v.isRef = true) (hY : 0 ≤ (pc : Int) + o ∧ ((pc : Int) + o).toNat = nY) (hN : pc + 3 = nN) (KY : v = .null → Ends p.tables e below Q F (T.setTop (mkF m nY Ls (rest)))) (KN : ∀ a, v = .ref a → Ends p.tables e below Q F (T.setTop (mkF m nN Ls (rest)))) : Ends p.tables e below Q F (T.setTop (mkF m pc Ls (v :: rest))) := by
  subst hN
  rcases ref_cases hv with rfl | ⟨a, rfl⟩
  · exact (KY rfl).step fun t k => XS.ifnullYes (g := mkF m pc Ls (.null :: rest)) X.here hx rfl (pc0 := pc) (pc' := nY) rfl hd rfl hY.1 hY.2 k
  · exact (KN a rfl).step fun t k => XS.ifnullNo (g := mkF m pc Ls (.ref a :: rest)) X.here hx rfl hd rfl k
theorem ifnonnull (nY nN : Nat) (X : Stand p l e R s m args below meth c T locs cells slots) (hx : p.tables.exec = Jvm.exec) {o : Int} {v : Value} {rest : List Value} (hd : decode c.code pc = .ok (.ifnonnull o, 3)) (hv : v.isRef = true) (hY : 0 ≤ (pc : Int) + o ∧ ((pc : Int) + o).toNat = nY) (hN : pc + 3 = nN) (KY : ∀ a, v = .ref a → Ends p.tables e below Q F (T.setTop (mkF m nY Ls (rest)))) (KN : v = .null → Ends p.tables e below Q F (T.setTop (mkF m nN Ls (rest)))) : Ends p.tables e below Q F (T.setTop (mkF m pc Ls (v :: rest))) := by
  subst hN
  rcases ref_cases hv with rfl | ⟨a, rfl⟩
  · exact (KN rfl).step fun t k => XS.ifnonnullNo (g := mkF m pc Ls (.null :: rest)) X.here hx rfl hd rfl k
  · exact (KY a rfl).step fun t k => XS.ifnonnullYes (g := mkF m pc Ls (.ref a :: rest)) X.here hx rfl (pc0 := pc) (pc' := nY) rfl hd rfl hY.1 hY.2 k
theorem retI (X : Stand p l e R s m args below meth c T locs cells slots) (hx : p.tables.exec = Jvm.exec) {pc : Nat} {Ls : Array Slot} {z : Int32} {rest : List Value} (hret : meth.sig.returnType = some .int) (hd : decode c.code pc = .ok (.ireturn, 1)) {fs : List Frame}
    (hl : ∀ (f : JFrame) (acts : List Action), f.method = m → f.locked = none → f.entered = [] → (doReturn e (T.setTop f) acts (some (.int z))).1 = T.setFrames fs) : Steps p.tables e below (T.setTop (mkF m pc Ls (.int z :: rest))) (T.setFrames fs) := by
  have hm' : T.vm.method? m = some meth := X.method'
  have hn : narrow .int (.int z) = .int z := rfl
  show Steps p.tables e below (T.setTop { method := m, pc := pc, locals := Ls, stack := _ :: rest, locked := none }) _
  jvm_step X.here [X.here.top, hx, hd, hm', hret, hn]
  first | (intro acts; rw [hl _ acts rfl rfl rfl]) | rw [hl _ _ rfl rfl rfl]
  exact Steps.refl _
theorem fin {fs : List Frame} {v : Option Value} {U : State} (X : Stand p l e R s m args below meth c T locs cells slots) (hst : Steps p.tables e below U (T.setFrames fs)) (hrun : (T.setFrames fs).status = .running) (hend : Ended (T.setFrames fs) below (.returned v)) (hW : s.WarmedH (T.setFrames fs).vm) (hsame : s.sameButNew ({ T.setFrames fs with vm := s.vm } : State) locs cells slots) (q : Q v T.heap locs) (hC : cells ≤ C) (hS : slots ≤ S) : Ends p.tables e below Q (FE s C S) U :=
  ⟨_, _, hst, hrun, hend, _, _, rfl, q, ⟨_, rfl⟩, hW, hsame.mono hC hS⟩
theorem retInt (X : Stand p l e R s m args below meth c T locs cells slots) (hx : p.tables.exec = Jvm.exec) {z : Int32} {rest : List Value} (hlk : meth.locks = false) (hret : meth.sig.returnType = some .int) (hd : decode c.code pc = .ok (.ireturn, 1)) (hC : cells ≤ C) (hS : slots ≤ S) (q : Q (some (.int z)) T.heap locs) : Ends p.tables e below Q (FE s C S) (T.setTop (mkF m pc Ls (.int z :: rest))) := by
  obtain ⟨fs, hr, hrun, hended, hW, hsame⟩ := X.leave (v := some (.int z)) (fun h => by rw [hret] at h; cases h) hlk
  exact fin X (retI X hx hret hd hr) hrun hended hW hsame q hC hS
theorem retBool (X : Stand p l e R s m args below meth c T locs cells slots) (hx : p.tables.exec = Jvm.exec) {z : Int32} {rest : List Value} (hlk : meth.locks = false) (hret : meth.sig.returnType = some .boolean) (hd : decode c.code pc = .ok (.ireturn, 1)) (hC : cells ≤ C) (hS : slots ≤ S) (q : Q (some (.int (nar .boolean z))) T.heap locs) : Ends p.tables e below Q (FE s C S) (T.setTop (mkF m pc Ls (.int z :: rest))) := by
  obtain ⟨fs, hr, hrun, hended, hW, hsame⟩ := X.leave (v := some (.int (nar .boolean z))) (fun h => by rw [hret] at h; cases h) hlk
  exact fin X (retN X hx hret (Or.inl rfl) hd hr) hrun hended hW hsame q hC hS
theorem retLong (X : Stand p l e R s m args below meth c T locs cells slots) (hx : p.tables.exec = Jvm.exec) {z : Int64} (hlk : meth.locks = false) (hret : meth.sig.returnType = some .long) (hd : decode c.code pc = .ok (.lreturn, 1)) (hC : cells ≤ C) (hS : slots ≤ S) (q : Q (some (.long z)) T.heap locs) : Ends p.tables e below Q (FE s C S) (T.setTop (mkF m pc Ls ([.long z]))) := by
  obtain ⟨fs, hr, hrun, hended, hW, hsame⟩ := X.leave (v := some (.long z)) (fun h => by rw [hret] at h; cases h) hlk
  exact fin X (X.lreturnOut hx hret hd hr) hrun hended hW hsame q hC hS
theorem retRef (X : Stand p l e R s m args below meth c T locs cells slots) (hx : p.tables.exec = Jvm.exec) {v : Value} {t : FieldType} (hlk : meth.locks = false) (hv : v.isRef = true) (hret : meth.sig.returnType = some t) (ht : t.isReference = true) (hd : decode c.code pc = .ok (.areturn, 1)) (hC : cells ≤ C) (hS : slots ≤ S) (q : Q (some v) T.heap locs) : Ends p.tables e below Q (FE s C S) (T.setTop (mkF m pc Ls ([v]))) := by
  obtain ⟨fs, hr, hrun, hended, hW, hsame⟩ := X.leave (v := some v) (fun h => by rw [hret] at h; cases h) hlk
  exact fin X (X.areturnOut hx hv hret ht hd hr) hrun hended hW hsame q hC hS
theorem retVoid (X : Stand p l e R s m args below meth c T locs cells slots) (hx : p.tables.exec = Jvm.exec) (hlk : meth.locks = false) (hret : meth.sig.returnType = none) (hd : decode c.code pc = .ok (.return_, 1)) (hC : cells ≤ C) (hS : slots ≤ S) (q : Q none T.heap locs) : Ends p.tables e below Q (FE s C S) (T.setTop (mkF m pc Ls ([]))) := by
  obtain ⟨fs, hr, hrun, hended, hW, hsame⟩ := X.leave (v := none) (fun _ => rfl) hlk
  exact fin X (X.returnOut hx hret hd hr) hrun hended hW hsame q hC hS
theorem ldcInt (n : Nat) (X : Stand p l e R s m args below meth c T locs cells slots) (hx : p.tables.exec = Jvm.exec) (hZ : Z.Warmed39 s.vm) {own : String} {index : Nat} (v : Int32) (hown : s.vm.findClass own = some m.cls) (w : (Cond.constant own index v).before a0 Z = true) (hd : decode c.code pc = .ok (.ldc index, 2)) (hn : pc + 2 = n) (K : Ends p.tables e below Q F (T.setTop (mkF m n Ls (.int v :: st)))) : Ends p.tables e below Q F (T.setTop (mkF m pc Ls (st))) := by
  subst hn; exact K.step fun t k => X.ldcInt hx hown (mvT hZ w) (g := mkF m pc Ls st) rfl hd _ k
theorem ldcwInt (n : Nat) (X : Stand p l e R s m args below meth c T locs cells slots) (hx : p.tables.exec = Jvm.exec) (hZ : Z.Warmed39 s.vm) {own : String} {index : Nat} (v : Int32) (hown : s.vm.findClass own = some m.cls) (w : (Cond.constant own index v).before a0 Z = true) (hd : decode c.code pc = .ok (.ldc_w index, 3)) (hn : pc + 3 = n) (K : Ends p.tables e below Q F (T.setTop (mkF m n Ls (.int v :: st)))) : Ends p.tables e below Q F (T.setTop (mkF m pc Ls (st))) := by
  subst hn; exact K.step fun t k => X.ldcwInt hx hown (mvT hZ w) (g := mkF m pc Ls st) rfl hd _ k
theorem ldc2Long (n : Nat) (X : Stand p l e R s m args below meth c T locs cells slots) (hx : p.tables.exec = Jvm.exec) (hZ : Z.Warmed39 s.vm) {own : String} {index : Nat} (v : Int64) (hown : s.vm.findClass own = some m.cls) (w : (Cond.constantLong own index v).before a0 Z = true) (hd : decode c.code pc = .ok (.ldc2_w index, 3)) (hn : pc + 3 = n) (K : Ends p.tables e below Q F (T.setTop (mkF m n Ls (.long v :: st)))) : Ends p.tables e below Q F (T.setTop (mkF m pc Ls (st))) := by
  subst hn; exact K.step fun t k => X.ldc2Long hx hown (mvT hZ w) (g := mkF m pc Ls st) rfl hd _ k
theorem getFld (n : Nat) (X : Stand p l e R s m args below meth c T locs cells slots) (hx : p.tables.exec = Jvm.exec) (hZ : Z.Warmed39 s.vm) {own R0 O nm d host : String} {index : Nat} (hown : s.vm.findClass own = some m.cls) (w : (Cond.fieldLink own index R0 nm d).before a0 Z = true ∨ (Cond.fieldLinkNest own index R0 nm d host).before a0 Z = true) (via : Via Z R0 O nm d) (eT : T.heap = h) {a : Addr} {v : Value} (Fd : Fld Z h a O nm d v) {rest : List Value} (hd : decode c.code pc = .ok (.getfield index, 3)) (hn : pc + 3 = n) (K : ∀ T', Stand p l e R s m args below meth c T' locs cells slots → T'.heap = h → Ends p.tables e below Q F (T'.setTop (mkF m n Ls (v :: rest)))) : Ends p.tables e below Q F (T.setTop (mkF m pc Ls (.ref a :: rest))) := by
  subst hn
  obtain ⟨T1, X1, e1, st1⟩ := getF X hx hZ hown w via eT Fd (g := mkF m pc Ls (.ref a :: rest)) rfl rfl hd
  exact (K T1 X1 e1).step st1
theorem getSta (n : Nat) (X : Stand p l e R s m args below meth c T locs cells slots) (hx : p.tables.exec = Jvm.exec) (hZ : Z.Warmed39 s.vm) {own R0 O nm d host : String} {index : Nat} (hown : s.vm.findClass own = some m.cls) (w : (Cond.fieldLink own index R0 nm d).before a0 Z = true ∨ (Cond.fieldLinkNest own index R0 nm d host).before a0 Z = true) (via : Via Z R0 O nm d) (eT : T.heap = h) {v : Value} (Fd : Sta Z h O nm d v) (hd : decode c.code pc = .ok (.getstatic index, 3)) (hn : pc + 3 = n) (K : ∀ T', Stand p l e R s m args below meth c T' locs cells slots → T'.heap = h → Ends p.tables e below Q F (T'.setTop (mkF m n Ls (v :: st)))) : Ends p.tables e below Q F (T.setTop (mkF m pc Ls (st))) := by
  subst hn
  obtain ⟨T1, X1, e1, st1⟩ := getS2 X hx hZ hown w via eT Fd (g := mkF m pc Ls st) rfl hd
  exact (K T1 X1 e1).step st1
theorem putFld (n : Nat) (X : Stand p l e R s m args below meth c T locs cells slots) (hx : p.tables.exec = Jvm.exec) (hZ : Z.Warmed39 s.vm) {own R0 O nm d host CC : String} {index kk : Nat} {ty : FieldType} (hown : s.vm.findClass own = some m.cls) (w : (Cond.fieldLink own index R0 nm d).before a0 Z = true ∨ (Cond.fieldLinkNest own index R0 nm d host).before a0 Z = true) (via : Via Z R0 O nm d) (eT : T.heap = h) {a : Addr} {v old : Value} (Fd : Fld Z h a O nm d old) (E : Exa Z h a CC) (L : (Cond.lays CC O nm d).before a0 Z = true ∨ ((Cond.laysFinal CC O nm d).before a0 Z = true ∧ own = O ∧ meth.name = "<init>")) (wi : (Cond.instantiable CC kk).before a0 Z = true) (hty : parseFieldDescriptor d = some ty) (hnw : narrow ty v = v) (hf : fits ty v = true) {rest : List Value} (hd : decode c.code pc = .ok (.putfield index, 3)) (hn : pc + 3 = n) (K : ∀ T' h', Stand p l e R s m args below meth c T' (locs ++ [⟨a, Jvm.RoadKit.slotOf Z O nm d⟩]) cells slots → T'.heap = h' → Wr h h' a (Jvm.RoadKit.slotOf Z O nm d) v → Ends p.tables e below Q F (T'.setTop (mkF m n Ls (rest)))) : Ends p.tables e below Q F (T.setTop (mkF m pc Ls (v :: .ref a :: rest))) := by
  subst hn
  obtain ⟨T1, h1, X1, e1, W1, st1⟩ := putF X hx hZ hown w via eT Fd E L wi hty hnw hf (g := mkF m pc Ls (v :: .ref a :: rest)) rfl rfl hd
  exact (K T1 h1 X1 e1 W1).step st1
theorem newObj (n : Nat) (X : Stand p l e R s m args below meth c T locs cells slots) (hx : p.tables.exec = Jvm.exec) (hZ : Z.Warmed39 s.vm) {own CC : String} {index sz : Nat} (hown : s.vm.findClass own = some m.cls) (w : (Cond.classLink own index CC).before a0 Z = true) (wi : (Cond.instantiable CC sz).before a0 Z = true) (wz : (Cond.initialized CC).before a0 Z = true) (eT : T.heap = h) (hd : decode c.code pc = .ok (.new index, 3)) (hn : pc + 3 = n) (hc : cells + 1 ≤ R.cells) (hl : slots + sz ≤ R.slots) (K : ∀ T' h' a, a = h.size → Stand p l e R s m args below meth c T' locs (cells + 1) (slots + sz) → T'.heap = h' → Ext h h' → Exa Z h' a CC → (∀ {O nm d : String} {ty : FieldType}, Laid Z a0 CC O nm d → parseFieldDescriptor d = some ty → Fld Z h' a O nm d (defaultValue ty)) → Ends p.tables e below Q F (T'.setTop (mkF m n Ls (.ref a :: st)))) : Ends p.tables e below Q F (T.setTop (mkF m pc Ls (st))) := by
  subst hn
  obtain ⟨T1, h1, X1, e1, E1, A1, D1, -, st1⟩ := newO X hx hZ hown w wi wz eT (g := mkF m pc Ls st) rfl hd hc hl
  exact (K T1 h1 _ rfl X1 e1 E1 A1 (fun L q => D1 L q)).step st1
theorem initObj (n W : Nat) (X : Stand p l e R s m args below meth c T locs cells slots) (hx : p.tables.exec = Jvm.exec) (hZ : Z.Warmed39 s.vm) {own : String} {index : Nat} (hown : s.vm.findClass own = some m.cls) (w1 : (Cond.methodLink own index Lib.objectInit).before a0 Z = true) (w2 : (Cond.instanceMethod Lib.objectInit).before a0 Z = true) (w3 : (Cond.code Lib.objectInit ⟨#[0xb1]⟩ 1 none).before a0 Z = true) (eT : T.heap = h) {a : Addr} {rest : List Value} (hsz : Ls.size = c.maxLocals) (hd : decode c.code pc = .ok (.invokespecial index, 3)) (hn : pc + 3 = n) (hf : 1 ≤ R.frames) (hW : (rest.map fun v => v.category).sum ≤ W) (hl : W + 12 ≤ R.locals) (K : ∀ T', Stand p l e R s m args below meth c T' locs cells slots → T'.heap = h → Ends p.tables e below Q F (T'.setTop (mkF m n Ls (rest)))) : Ends p.tables e below Q F (T.setTop (mkF m pc Ls (.ref a :: rest))) := by
  subst hn
  obtain ⟨T1, X1, e1, st1⟩ := initO X hx hZ hown w1 w2 w3 eT (g := mkF m pc Ls (.ref a :: rest)) rfl hsz rfl hd hf (W := W) (by show 2 * 0 + _ ≤ _; omega) hl
  exact (K T1 X1 e1).step st1
/-- the contract of a body: entered with these arguments at this heap it returns, and what it leaves answers to QQ -/
def Met (l : Launch) (Z : State) (y : MethodName) (bytes : ByteArray) (maxL : Nat) (ret : Option FieldType) (ws : List Cond) (rm : Room) (as : Array Value) (h : Heap) (QQ : Option Value → Heap → List Loc → Prop) : Prop :=
  MetFree l y (head1 (Cond.code y bytes maxL ret :: ws) rm) (fun a U => a = as ∧ Z.Warmed39 U.vm ∧ U.heap = h) (fun _ _ _ _ _ => True) (fun _ U o U' => ∃ v L, o = .returned v ∧ QQ v U'.heap L ∧ FrameEnd U o U' L rm.cells rm.slots)
theorem Met.of {y : MethodName} {bytes : ByteArray} {maxL : Nat} {ret : Option FieldType} {ws : List Cond} {rm : Room} {as : Array Value} {QQ : Option Value → Heap → List Loc → Prop} (hp : plainFor y = true)
    (body : ∀ (p : Program) (e : Env) (s : State) (m : MethodId) (below : List Frame) (meth : Method) (c : Code) (T : State), p.tables.exec = Jvm.exec → c.code = bytes → c.maxLocals = maxL → s.vm.findClass y.cls = some m.cls → meth.name = y.name → meth.sig.returnType = ret → meth.locks = false → Z.Warmed39 s.vm → Stand p l e rm s m as below meth c T [] 0 0 → T.heap = h → Ends p.tables e below QQ (FE s rm.cells rm.slots) (T.setTop (entryFrame m as maxL))) :
    Met l Z y bytes maxL ret ws rm as h QQ := by
  refine MetFree.of_bodySF hp hisR ?_
  intro p e s m args below meth c s₁ Bd hml0 hP hK
  obtain ⟨rfl, hZ, hh⟩ := hP
  exact body p e s m below meth c s₁ Bd.exec Bd.bytes hml0 (findClass_of_methodNamed Bd.named) (name_of_methodNamed Bd.named Bd.method).1 Bd.returns Bd.notSynchronized hZ (Stand.of_body Bd) (by rw [← hh, Bd.state]; rfl)
theorem callSt (n W : Nat) (argsL rest : List Value) (X : Stand p l e R s m args below meth c T locs cells slots) (hx : p.tables.exec = Jvm.exec) (hZ : Z.Warmed39 s.vm) {own : String} {index : Nat} {y : MethodName} {bytes : ByteArray} {maxL : Nat} {ret : Option FieldType} {rm : Room} {QQ : Option Value → Heap → List Loc → Prop} (hown : s.vm.findClass own = some m.cls) (hM : Met l Z y bytes maxL ret [] rm argsL.toArray h QQ) (wl : (Cond.methodLink own index y).before a0 Z = true) (ws : (Cond.static y).before a0 Z = true) (wi : (Cond.initialized y.cls).before a0 Z = true) (wc : (Cond.code y bytes maxL ret).before a0 Z = true) (hy : y.cls ≠ "java/lang/invoke/MethodHandle" ∧ y.cls ≠ "java/lang/invoke/VarHandle") (eT : T.heap = h) (hfr : rm.frames + 1 ≤ R.frames) (hlc : W + (maxL + 11) + rm.locals ≤ R.locals) (hc : cells + rm.cells ≤ R.cells) (hs : slots + rm.slots ≤ R.slots) (hsz : Ls.size = c.maxLocals) (hlen : ∀ sig, parseMethodDescriptor y.desc = some sig → argsL.length = sig.parameters.length) (hst : st = argsL.reverse ++ rest) (hW : (rest.map fun v => v.category).sum ≤ W) (hd : decode c.code pc = .ok (.invokestatic index, 3)) (hn : pc + 3 = n) (K : ∀ v T' L', Stand p l e R s m args below meth c T' (locs ++ L') (cells + rm.cells) (slots + rm.slots) → QQ v T'.heap L' → Ends p.tables e below Q F (T'.setTop (mkF m n Ls (v.toList ++ rest)))) : Ends p.tables e below Q F (T.setTop (mkF m pc Ls (st))) := by
  subst hn
  obtain ⟨v, vm1, ⟨T1, L1, k1, n1⟩, -, X1, ⟨Lc, hQ, l1, y1, z1⟩, st1⟩ := Jvm.LawKit.callS X hx (y := y) hown (mvT hZ wl) (mvT hZ ws) (mvT hZ wi) (mvT hZ wc) hy (backOf (W := W) hM hZ wc wi hfr hlc) (g := mkF m pc Ls st) rfl hsz (argsL := argsL) (rest := rest) hlen hst (by show 2 * 0 + _ ≤ _; omega) hd (fun _ _ => ⟨rfl, eT, hc, hs⟩)
  dsimp only [Pt.U, Pt.locs, Pt.cells, Pt.slots] at X1 l1 y1 z1 st1 hQ
  subst l1 y1 z1
  exact (K v T1 Lc X1 hQ).step st1
theorem callInit (n W : Nat) (a : Addr) (argsL rest : List Value) (X : Stand p l e R s m args below meth c T locs cells slots) (hx : p.tables.exec = Jvm.exec) (hZ : Z.Warmed39 s.vm) {own : String} {index : Nat} {y : MethodName} {bytes : ByteArray} {maxL : Nat} {rm : Room} {QQ : Option Value → Heap → List Loc → Prop} (hown : s.vm.findClass own = some m.cls) (hM : Met l Z y bytes maxL none [] rm (.ref a :: argsL).toArray h QQ) (hy1 : y.name = "<init>") (wl : (Cond.methodLink own index y).before a0 Z = true) (ws : (Cond.instanceMethod y).before a0 Z = true) (wi : (Cond.initialized y.cls).before a0 Z = true) (wc : (Cond.code y bytes maxL none).before a0 Z = true) (hy : y.cls ≠ "java/lang/invoke/MethodHandle" ∧ y.cls ≠ "java/lang/invoke/VarHandle") (eT : T.heap = h) (hfr : rm.frames + 1 ≤ R.frames) (hlc : W + (maxL + 11) + rm.locals ≤ R.locals) (hc : cells + rm.cells ≤ R.cells) (hs : slots + rm.slots ≤ R.slots) (hsz : Ls.size = c.maxLocals) (hlen : ∀ sig, parseMethodDescriptor y.desc = some sig → argsL.length = sig.parameters.length) (hst : st = argsL.reverse ++ .ref a :: rest) (hW : (rest.map fun v => v.category).sum ≤ W) (hd : decode c.code pc = .ok (.invokespecial index, 3)) (hn : pc + 3 = n) (K : ∀ v T' L', Stand p l e R s m args below meth c T' (locs ++ L') (cells + rm.cells) (slots + rm.slots) → QQ v T'.heap L' → Ends p.tables e below Q F (T'.setTop (mkF m n Ls (v.toList ++ rest)))) : Ends p.tables e below Q F (T.setTop (mkF m pc Ls (st))) := by
  subst hn
  obtain ⟨v, vm1, ⟨T1, L1, k1, n1⟩, -, X1, ⟨Lc, hQ, l1, y1, z1⟩, st1⟩ := X.specialBack hx (y := y) hy1 hown (mvT hZ wl) (mvT hZ ws) (mvT hZ wc) hy (backOf (W := W) hM hZ wc wi hfr hlc) (g := mkF m pc Ls st) rfl hsz (Steps.refl _) (a := a) (argsL := argsL) (rest := rest) hlen hst (by show 2 * 0 + _ ≤ _; omega) hd (fun _ _ => ⟨rfl, eT, hc, hs⟩)
  dsimp only [Pt.U, Pt.locs, Pt.cells, Pt.slots] at X1 l1 y1 z1 st1 hQ
  subst l1 y1 z1
  exact (K v T1 Lc X1 hQ).step fun t k => st1.trans k
theorem callVt (n W : Nat) (a : Addr) (argsL rest : List Value) (X : Stand p l e R s m args below meth c T locs cells slots) (hx : p.tables.exec = Jvm.exec) (hZ : Z.Warmed39 s.vm) {own CC : String} {index : Nat} {y z : MethodName} {bytes : ByteArray} {maxL : Nat} {ret : Option FieldType} {rm : Room} {QQ : Option Value → Heap → List Loc → Prop} (hown : s.vm.findClass own = some m.cls) (hM : Met l Z z bytes maxL ret [] rm (.ref a :: argsL).toArray h QQ) (E : Exa Z h a CC) (hnf : NotFace s y) (wl : (Cond.methodLink own index y).before a0 Z = true) (wd : (Cond.declares y).before a0 Z = true) (wsel : (Cond.selects CC y z).before a0 Z = true) (ws : (Cond.instanceMethod z).before a0 Z = true) (wi : (Cond.initialized z.cls).before a0 Z = true) (wc : (Cond.code z bytes maxL ret).before a0 Z = true) (hy : y.cls ≠ "java/lang/invoke/MethodHandle" ∧ y.cls ≠ "java/lang/invoke/VarHandle") (eT : T.heap = h) (hfr : rm.frames + 1 ≤ R.frames) (hlc : W + (maxL + 11) + rm.locals ≤ R.locals) (hc : cells + rm.cells ≤ R.cells) (hs : slots + rm.slots ≤ R.slots) (hsz : Ls.size = c.maxLocals) (hlen : ∀ sig, parseMethodDescriptor y.desc = some sig → argsL.length = sig.parameters.length) (hst : st = argsL.reverse ++ .ref a :: rest) (hW : (rest.map fun v => v.category).sum ≤ W) (hd : decode c.code pc = .ok (.invokevirtual index, 3)) (hn : pc + 3 = n) (K : ∀ v T' L', Stand p l e R s m args below meth c T' (locs ++ L') (cells + rm.cells) (slots + rm.slots) → QQ v T'.heap L' → Ends p.tables e below Q F (T'.setTop (mkF m n Ls (v.toList ++ rest)))) : Ends p.tables e below Q F (T.setTop (mkF m pc Ls (st))) := by
  subst hn
  obtain ⟨cq, kq, qa, qb, qc⟩ := isOf hZ eT E
  obtain ⟨v, vm1, ⟨T1, L1, k1, n1⟩, -, X1, ⟨Lc, hQ, l1, y1, z1⟩, st1⟩ := X.virtualBack hx (y := y) (z := z) hown (mvT hZ wl) (mvT hZ wd) hnf (mvT hZ wsel) (mvT hZ ws) hy (backOf (W := W) hM hZ wc wi hfr hlc) qa qc (g := mkF m pc Ls st) rfl hsz (Steps.refl _) (argsL := argsL) (rest := rest) hlen hst (by show 2 * 0 + _ ≤ _; omega) hd (fun _ _ => ⟨rfl, eT, hc, hs⟩)
  dsimp only [Pt.U, Pt.locs, Pt.cells, Pt.slots] at X1 l1 y1 z1 st1 hQ
  subst l1 y1 z1
  exact (K v T1 Lc X1 hQ).step fun t k => st1.trans k
theorem callPr (n W : Nat) (a : Addr) (argsL rest : List Value) (X : Stand p l e R s m args below meth c T locs cells slots) (hx : p.tables.exec = Jvm.exec) (hZ : Z.Warmed39 s.vm) {own CC : String} {index : Nat} {y : MethodName} {bytes : ByteArray} {maxL : Nat} {ret : Option FieldType} {rm : Room} {QQ : Option Value → Heap → List Loc → Prop} (hown : s.vm.findClass own = some m.cls) (hM : Met l Z y bytes maxL ret [] rm (.ref a :: argsL).toArray h QQ) (E : Exa Z h a CC) (wl : (Cond.methodLink own index y).before a0 Z = true) (wp : (Cond.privateMethod y).before a0 Z = true) {kk : Nat} (wk : (Cond.instantiable y.cls kk).before a0 Z = true) (ws : (Cond.instanceMethod y).before a0 Z = true) (wi : (Cond.initialized y.cls).before a0 Z = true) (wc : (Cond.code y bytes maxL ret).before a0 Z = true) (hy : y.cls ≠ "java/lang/invoke/MethodHandle" ∧ y.cls ≠ "java/lang/invoke/VarHandle") (eT : T.heap = h) (hfr : rm.frames + 1 ≤ R.frames) (hlc : W + (maxL + 11) + rm.locals ≤ R.locals) (hc : cells + rm.cells ≤ R.cells) (hs : slots + rm.slots ≤ R.slots) (hsz : Ls.size = c.maxLocals) (hlen : ∀ sig, parseMethodDescriptor y.desc = some sig → argsL.length = sig.parameters.length) (hst : st = argsL.reverse ++ .ref a :: rest) (hW : (rest.map fun v => v.category).sum ≤ W) (hd : decode c.code pc = .ok (.invokevirtual index, 3)) (hn : pc + 3 = n) (K : ∀ v T' L', Stand p l e R s m args below meth c T' (locs ++ L') (cells + rm.cells) (slots + rm.slots) → QQ v T'.heap L' → Ends p.tables e below Q F (T'.setTop (mkF m n Ls (v.toList ++ rest)))) : Ends p.tables e below Q F (T.setTop (mkF m pc Ls (st))) := by
  subst hn
  obtain ⟨cq, qa, qb⟩ := E.cell
  obtain ⟨cI, kI, i1, i2, -, i4, -⟩ := Cond.instantiable_spec (mvT (args := args) hZ wk)
  obtain ⟨v, vm1, ⟨T1, L1, k1, n1⟩, -, X1, ⟨Lc, hQ, l1, y1, z1⟩, st1⟩ := X.privateBack hx (y := y) hown (mvT hZ wl) (mvT hZ ws) (selects_self_of_private i1 i2 (by simpa using (Bool.or_eq_false_iff.mp i4).1) (Cond.privateMethod_at (mvP hZ wp (args := #[]))) (mvT hZ ws) hy) (Cond.privateMethod_at (mvP hZ wp (args := #[]))) (mvT hZ wc) hy (backOf (W := W) hM hZ wc wi hfr hlc) (g := mkF m pc Ls st) rfl hsz (Steps.refl _) (a := a) (by rw [eT]; exact qa) qb (argsL := argsL) (rest := rest) hlen hst (by show 2 * 0 + _ ≤ _; omega) hd (fun _ _ => ⟨rfl, eT, hc, hs⟩)
  dsimp only [Pt.U, Pt.locs, Pt.cells, Pt.slots] at X1 l1 y1 z1 st1 hQ
  subst l1 y1 z1
  exact (K v T1 Lc X1 hQ).step fun t k => st1.trans k
theorem arrLen (n : Nat) (X : Stand p l e R s m args below meth c T locs cells slots) (hx : p.tables.exec = Jvm.exec) (hZ : Z.Warmed39 s.vm) (eT : T.heap = h) {a : Addr} {k : ClassId} {ty : FieldType} {z : Int32} {vs : List Value} {dv : Value} {rest : List Value} (A : Arv Z h a k ty z vs dv) (hd : decode c.code pc = .ok (.arraylength, 1)) (hn : pc + 1 = n) (K : Ends p.tables e below Q F (T.setTop (mkF m n Ls (.int z :: rest)))) : Ends p.tables e below Q F (T.setTop (mkF m pc Ls (.ref a :: rest))) := by
  subst hn
  obtain ⟨cl, Ar, -, Sz, Nz, -, -⟩ := A
  refine K.step fun t kk => X.arraylength hx (by rw [eT]; exact Ar.1) (State.isArrayOf_alike hZ.alike Ar.2.1) (g := mkF m pc Ls (.ref a :: rest)) rfl rfl hd _ ?_
  rw [len_of Sz Nz]; exact kk
theorem iaload (n : Nat) (X : Stand p l e R s m args below meth c T locs cells slots) (hx : p.tables.exec = Jvm.exec) (hZ : Z.Warmed39 s.vm) (eT : T.heap = h) {a : Addr} {k : ClassId} {z j : Int32} (v : Int32) {vs : List Value} {dv : Value} {rest : List Value} (A : Arv Z h a k .int z vs dv) (hj : ¬ j < 0 ∧ j < z) (hv : vs.getD j.toNatClampNeg dv = .int v) (hd : decode c.code pc = .ok (.iaload, 1)) (hn : pc + 1 = n) (K : Ends p.tables e below Q F (T.setTop (mkF m n Ls (.int v :: rest)))) : Ends p.tables e below Q F (T.setTop (mkF m pc Ls (.int j :: .ref a :: rest))) := by
  subst hn
  obtain ⟨cl, Ar, -, Sz, Nz, Hs, -⟩ := A
  have hin := inb_of Sz hj
  exact K.step fun t kk => X.iaload hx (j := j) (v := .int v) (by rw [eT]; exact Ar.1) (State.isArrayOf_alike hZ.alike Ar.2.1) Ar.2.2 hin (Hs.at hin hv) (g := mkF m pc Ls (.int j :: .ref a :: rest)) rfl rfl hd _ kk
theorem laload (n : Nat) (X : Stand p l e R s m args below meth c T locs cells slots) (hx : p.tables.exec = Jvm.exec) (hZ : Z.Warmed39 s.vm) (eT : T.heap = h) {a : Addr} {k : ClassId} {z j : Int32} (v : Int64) {vs : List Value} {dv : Value} {rest : List Value} (A : Arv Z h a k .long z vs dv) (hj : ¬ j < 0 ∧ j < z) (hv : vs.getD j.toNatClampNeg dv = .long v) (hd : decode c.code pc = .ok (.laload, 1)) (hn : pc + 1 = n) (K : Ends p.tables e below Q F (T.setTop (mkF m n Ls (.long v :: rest)))) : Ends p.tables e below Q F (T.setTop (mkF m pc Ls (.int j :: .ref a :: rest))) := by
  subst hn
  obtain ⟨cl, Ar, -, Sz, Nz, Hs, -⟩ := A
  have hin := inb_of Sz hj
  exact K.step fun t kk => X.laload hx (j := j) (v := .long v) (by rw [eT]; exact Ar.1) (State.isArrayOf_alike hZ.alike Ar.2.1) Ar.2.2 hin (Hs.at hin hv) (g := mkF m pc Ls (.int j :: .ref a :: rest)) rfl rfl hd _ kk
theorem baload (n : Nat) (X : Stand p l e R s m args below meth c T locs cells slots) (hx : p.tables.exec = Jvm.exec) (hZ : Z.Warmed39 s.vm) (eT : T.heap = h) {a : Addr} {k : ClassId} {z j : Int32} (v : Int32) {vs : List Value} {dv : Value} {rest : List Value} (A : Arv Z h a k .byte z vs dv) (hj : ¬ j < 0 ∧ j < z) (hv : vs.getD j.toNatClampNeg dv = .int v) (hd : decode c.code pc = .ok (.baload, 1)) (hn : pc + 1 = n) (K : Ends p.tables e below Q F (T.setTop (mkF m n Ls (.int v :: rest)))) : Ends p.tables e below Q F (T.setTop (mkF m pc Ls (.int j :: .ref a :: rest))) := by
  subst hn
  obtain ⟨cl, Ar, -, Sz, Nz, Hs, -⟩ := A
  have hin := inb_of Sz hj
  exact K.step fun t kk => X.baloadBytes hx (j := j) (v := .int v) (by rw [eT]; exact Ar.1) (State.isArrayOf_alike hZ.alike Ar.2.1) Ar.2.2 hin (Hs.at hin hv) (g := mkF m pc Ls (.int j :: .ref a :: rest)) rfl rfl hd _ kk
theorem caload (n : Nat) (X : Stand p l e R s m args below meth c T locs cells slots) (hx : p.tables.exec = Jvm.exec) (hZ : Z.Warmed39 s.vm) (eT : T.heap = h) {a : Addr} {k : ClassId} {z j : Int32} (v : Int32) {vs : List Value} {dv : Value} {rest : List Value} (A : Arv Z h a k .char z vs dv) (hj : ¬ j < 0 ∧ j < z) (hv : vs.getD j.toNatClampNeg dv = .int v) (hd : decode c.code pc = .ok (.caload, 1)) (hn : pc + 1 = n) (K : Ends p.tables e below Q F (T.setTop (mkF m n Ls (.int v :: rest)))) : Ends p.tables e below Q F (T.setTop (mkF m pc Ls (.int j :: .ref a :: rest))) := by
  subst hn
  obtain ⟨cl, Ar, -, Sz, Nz, Hs, -⟩ := A
  have hin := inb_of Sz hj
  exact K.step fun t kk => X.caload hx (j := j) (v := .int v) (by rw [eT]; exact Ar.1) (State.isArrayOf_alike hZ.alike Ar.2.1) Ar.2.2 hin (Hs.at hin hv) (g := mkF m pc Ls (.int j :: .ref a :: rest)) rfl rfl hd _ kk
theorem aaload (n : Nat) (X : Stand p l e R s m args below meth c T locs cells slots) (hx : p.tables.exec = Jvm.exec) (hZ : Z.Warmed39 s.vm) (eT : T.heap = h) {a : Addr} {k : ClassId} {z j : Int32} {ty : FieldType} (v : Value) {vs : List Value} {dv : Value} {rest : List Value} (A : Arv Z h a k ty z vs dv) (hty : ty.isReference = true) (hj : ¬ j < 0 ∧ j < z) (hv : vs.getD j.toNatClampNeg dv = v) (hd : decode c.code pc = .ok (.aaload, 1)) (hn : pc + 1 = n) (K : Ends p.tables e below Q F (T.setTop (mkF m n Ls (v :: rest)))) : Ends p.tables e below Q F (T.setTop (mkF m pc Ls (.int j :: .ref a :: rest))) := by
  subst hn
  obtain ⟨cl, Ar, -, Sz, Nz, Hs, -⟩ := A
  have hin := inb_of Sz hj
  exact K.step fun t kk => X.aaload hx (j := j) (v := v) (by rw [eT]; exact Ar.1) (State.isArrayOf_alike hZ.alike Ar.2.1) hty Ar.2.2 hin (Hs.at hin hv) (g := mkF m pc Ls (.int j :: .ref a :: rest)) rfl rfl hd _ kk
theorem iastore (n : Nat) (X : Stand p l e R s m args below meth c T locs cells slots) (hx : p.tables.exec = Jvm.exec) (hZ : Z.Warmed39 s.vm) (eT : T.heap = h) {a : Addr} {k : ClassId} {z j : Int32} {x : Int32} {vs : List Value} {dv : Value} {rest : List Value} (A : Arv Z h a k .int z vs dv) (hj : ¬ j < 0 ∧ j < z) (hlen : j.toNatClampNeg < vs.length) (hd : decode c.code pc = .ok (.iastore, 1)) (hn : pc + 1 = n) (K : ∀ T' h', Stand p l e R s m args below meth c T' (locs ++ [⟨a, j.toNatClampNeg⟩]) cells slots → T'.heap = h' → Wr h h' a j.toNatClampNeg (.int x) → Arv Z h' a k .int z (vs.set j.toNatClampNeg (.int x)) dv → Ends p.tables e below Q F (T'.setTop (mkF m n Ls (rest)))) : Ends p.tables e below Q F (T.setTop (mkF m pc Ls (.int x :: .int j :: .ref a :: rest))) := by
  subst hn
  obtain ⟨cl, Ar, q1, Sz, Nz, Hs, Gs⟩ := A
  obtain ⟨T1, h1, X1, e1, W1, st1⟩ := stI X hx hZ eT Ar (j := j) (inb_of Sz hj) (g := mkF m pc Ls (.int x :: .int j :: .ref a :: rest)) rfl rfl hd
  exact (K T1 h1 X1 e1 W1 (Arv.set Ar q1 Sz Nz Hs Gs rfl W1 _ rfl hlen)).step st1
theorem lastore (n : Nat) (X : Stand p l e R s m args below meth c T locs cells slots) (hx : p.tables.exec = Jvm.exec) (hZ : Z.Warmed39 s.vm) (eT : T.heap = h) {a : Addr} {k : ClassId} {z j : Int32} {x : Int64} {vs : List Value} {dv : Value} {rest : List Value} (A : Arv Z h a k .long z vs dv) (hj : ¬ j < 0 ∧ j < z) (hlen : j.toNatClampNeg < vs.length) (hd : decode c.code pc = .ok (.lastore, 1)) (hn : pc + 1 = n) (K : ∀ T' h', Stand p l e R s m args below meth c T' (locs ++ [⟨a, j.toNatClampNeg⟩]) cells slots → T'.heap = h' → Wr h h' a j.toNatClampNeg (.long x) → Arv Z h' a k .long z (vs.set j.toNatClampNeg (.long x)) dv → Ends p.tables e below Q F (T'.setTop (mkF m n Ls (rest)))) : Ends p.tables e below Q F (T.setTop (mkF m pc Ls (.long x :: .int j :: .ref a :: rest))) := by
  subst hn
  obtain ⟨cl, Ar, q1, Sz, Nz, Hs, Gs⟩ := A
  obtain ⟨T1, h1, X1, e1, W1, st1⟩ := stJ X hx hZ eT Ar (j := j) (inb_of Sz hj) (g := mkF m pc Ls (.long x :: .int j :: .ref a :: rest)) rfl rfl hd
  exact (K T1 h1 X1 e1 W1 (Arv.set Ar q1 Sz Nz Hs Gs rfl W1 _ rfl hlen)).step st1
theorem bastore (n : Nat) (X : Stand p l e R s m args below meth c T locs cells slots) (hx : p.tables.exec = Jvm.exec) (hZ : Z.Warmed39 s.vm) (eT : T.heap = h) {a : Addr} {k : ClassId} {z j : Int32} {x : Int32} {vs : List Value} {dv : Value} {rest : List Value} (A : Arv Z h a k .byte z vs dv) (hj : ¬ j < 0 ∧ j < z) (hlen : j.toNatClampNeg < vs.length) (hd : decode c.code pc = .ok (.bastore, 1)) (hn : pc + 1 = n) (K : ∀ T' h', Stand p l e R s m args below meth c T' (locs ++ [⟨a, j.toNatClampNeg⟩]) cells slots → T'.heap = h' → Wr h h' a j.toNatClampNeg (.int x.toInt8.toInt32) → Arv Z h' a k .byte z (vs.set j.toNatClampNeg (.int x.toInt8.toInt32)) dv → Ends p.tables e below Q F (T'.setTop (mkF m n Ls (rest)))) : Ends p.tables e below Q F (T.setTop (mkF m pc Ls (.int x :: .int j :: .ref a :: rest))) := by
  subst hn
  obtain ⟨cl, Ar, q1, Sz, Nz, Hs, Gs⟩ := A
  obtain ⟨T1, h1, X1, e1, W1, st1⟩ := stB X hx hZ eT Ar (j := j) (inb_of Sz hj) (g := mkF m pc Ls (.int x :: .int j :: .ref a :: rest)) rfl rfl hd
  exact (K T1 h1 X1 e1 W1 (Arv.set Ar q1 Sz Nz Hs Gs (fits_nar_byte _) W1 _ rfl hlen)).step st1
theorem castore (n : Nat) (X : Stand p l e R s m args below meth c T locs cells slots) (hx : p.tables.exec = Jvm.exec) (hZ : Z.Warmed39 s.vm) (eT : T.heap = h) {a : Addr} {k : ClassId} {z j : Int32} {x : Int32} {vs : List Value} {dv : Value} {rest : List Value} (A : Arv Z h a k .char z vs dv) (hj : ¬ j < 0 ∧ j < z) (hlen : j.toNatClampNeg < vs.length) (hd : decode c.code pc = .ok (.castore, 1)) (hn : pc + 1 = n) (K : ∀ T' h', Stand p l e R s m args below meth c T' (locs ++ [⟨a, j.toNatClampNeg⟩]) cells slots → T'.heap = h' → Wr h h' a j.toNatClampNeg (.int (nar .char x)) → Arv Z h' a k .char z (vs.set j.toNatClampNeg (.int (nar .char x))) dv → Ends p.tables e below Q F (T'.setTop (mkF m n Ls (rest)))) : Ends p.tables e below Q F (T.setTop (mkF m pc Ls (.int x :: .int j :: .ref a :: rest))) := by
  subst hn
  obtain ⟨cl, Ar, q1, Sz, Nz, Hs, Gs⟩ := A
  obtain ⟨T1, h1, X1, e1, W1, st1⟩ := stC X hx hZ eT Ar (j := j) (inb_of Sz hj) (g := mkF m pc Ls (.int x :: .int j :: .ref a :: rest)) rfl rfl hd
  exact (K T1 h1 X1 e1 W1 (Arv.set Ar q1 Sz Nz Hs Gs (fits_nar_char _) W1 _ rfl hlen)).step st1
theorem newArr (n cap : Nat) (X : Stand p l e R s m args below meth c T locs cells slots) (hx : p.tables.exec = Jvm.exec) (hZ : Z.Warmed39 s.vm) {aty : ArrayType} (w : (Cond.arrayClass (newarray.typeOf aty)).before a0 Z = true) (eT : T.heap = h) {z : Int32} {rest : List Value} (hz : ¬ z < 0) (hcap : z.toNatClampNeg ≤ cap) (hb : cap * 8 ≤ 536870912) (hd : decode c.code pc = .ok (.newarray aty, 2)) (hn : pc + 2 = n) (hc : cells + 1 ≤ R.cells) (hl : slots + cap ≤ R.slots) (K : ∀ T' h' a k, a = h.size → Stand p l e R s m args below meth c T' locs (cells + 1) (slots + cap) → T'.heap = h' → Ext h h' → Arv Z h' a k (newarray.typeOf aty) z (List.replicate z.toNatClampNeg (defaultValue (newarray.typeOf aty))) (defaultValue (newarray.typeOf aty)) → Ends p.tables e below Q F (T'.setTop (mkF m n Ls (.ref a :: rest)))) : Ends p.tables e below Q F (T.setTop (mkF m pc Ls (.int z :: rest))) := by
  subst hn
  obtain ⟨T1, h1, k1, X1, e1, E1, A1, st1⟩ := newP X hx hZ w eT (g := mkF m pc Ls (.int z :: rest)) rfl hd rfl hz (cap := cap) hcap hb hc hl
  exact (K T1 h1 _ k1 rfl X1 e1 E1 ((Arv.new A1 hz).pad (pad_rep [] _ _))).step st1
theorem arrCopy (n W : Nat) (X : Stand p l e R s m args below meth c T locs cells slots) (hx : p.tables.exec = Jvm.exec) (hZ : Z.Warmed39 s.vm) {own : String} {index : Nat} (hown : s.vm.findClass own = some m.cls) (w1 : (Cond.methodLink own index Jvm.Stand.acN).before a0 Z = true) (w2 : (Cond.native Jvm.Stand.acN).before a0 Z = true) (w3 : (Cond.static Jvm.Stand.acN).before a0 Z = true) (w4 : (Cond.initialized "java/lang/System").before a0 Z = true) (eT : T.heap = h) {a b : Addr} {k k2 : ClassId} {ty : FieldType} {z z2 sp dp nn : Int32} {vs vd : List Value} {dv dd : Value} (A : Arv Z h a k ty z vs dv) (B : Arv Z h b k2 ty z2 vd dd) (hty : refKind ty = false) (h1 : ¬ sp < 0) (h2 : ¬ dp < 0) (h3 : ¬ nn < 0) (h4 : sp.toNatClampNeg + nn.toNatClampNeg ≤ z.toNatClampNeg) (h5 : dp.toNatClampNeg + nn.toNatClampNeg ≤ z2.toNatClampNeg) (hl : dp.toNatClampNeg + nn.toNatClampNeg ≤ vd.length) {n0 : Nat} (N : Fr n0 locs) (ge : n0 ≤ b) (hsz : Ls.size = c.maxLocals) {rest : List Value} (hd : decode c.code pc = .ok (.invokestatic index, 3)) (hn : pc + 3 = n) (hf : 1 ≤ R.frames) (hW : (rest.map fun v => v.category).sum ≤ W) (hlo : W + (nativeFrameWords "java/lang/System" "arraycopy" 5 + 11) ≤ R.locals) (K : ∀ T' h' L vs', Stand p l e R s m args below meth c T' L cells slots → T'.heap = h' → Fr n0 L → Keep h h' [b] → vs' = vd.take dp.toNatClampNeg ++ ((List.range nn.toNatClampNeg).map fun i => vs.getD (sp.toNatClampNeg + i) dv) ++ vd.drop (dp.toNatClampNeg + nn.toNatClampNeg) → vs'.length = vd.length → Arv Z h' b k2 ty z2 vs' dd → Ends p.tables e below Q F (T'.setTop (mkF m n Ls (rest)))) : Ends p.tables e below Q F (T.setTop (mkF m pc Ls (.int nn :: .int dp :: .ref b :: .int sp :: .ref a :: rest))) := by
  subst hn
  obtain ⟨T1, hh1, L1, X1, e1, N1, K1, V1, st1⟩ := cpA X hx hZ hown w1 w2 w3 w4 eT A B (Or.inl ⟨rfl, hty⟩) h1 h2 h3 h4 h5 rfl hl N ge (g := mkF m pc Ls (.int nn :: .int dp :: .ref b :: .int sp :: .ref a :: rest)) rfl hsz rfl hd hf (W := W) (by show 2 * 0 + _ ≤ _; omega) hlo
  exact (K T1 hh1 L1 _ X1 e1 N1 K1 rfl (by simp; omega) V1).step st1
/-- an array of this kind and length, whatever it holds -/
def Ax (Z : State) (h : Heap) (a : Addr) (ty : FieldType) (z : Int32) : Prop := ∃ (k : ClassId) (vs : List Value), vs.length = z.toNatClampNeg ∧ Arv Z h a k ty z vs (defaultValue ty)
theorem Ax.lt {a : Addr} {ty : FieldType} {z : Int32} (F : Ax Z h a ty z) : a < h.size := by obtain ⟨k, vs, -, A⟩ := F; exact A.lt
theorem Ax.ext {h' : Heap} {a : Addr} {ty : FieldType} {z : Int32} (F : Ax Z h a ty z) (E : Ext h h') : Ax Z h' a ty z := by obtain ⟨k, vs, q, A⟩ := F; exact ⟨k, vs, q, A.ext E⟩
theorem Ax.keep {h' : Heap} {a : Addr} {ty : FieldType} {z : Int32} {ws : List Addr} (F : Ax Z h a ty z) (K : Keep h h' ws) (q : a ∉ ws) : Ax Z h' a ty z := by obtain ⟨k, vs, r, A⟩ := F; exact ⟨k, vs, r, A.keep K q⟩
theorem Ax.other {h' : Heap} {a b : Addr} {sl : Nat} {v : Value} {ty : FieldType} {z : Int32} (F : Ax Z h a ty z) (W : Wr h h' b sl v) (q : a ≠ b) : Ax Z h' a ty z := by obtain ⟨k, vs, r, A⟩ := F; exact ⟨k, vs, r, A.other W q⟩
theorem Ax.nn {a : Addr} {ty : FieldType} {z : Int32} (F : Ax Z h a ty z) : ¬ z < 0 := by obtain ⟨k, vs, -, c, -, -, -, N, -⟩ := F; exact N
theorem axLen (n : Nat) (X : Stand p l e R s m args below meth c T locs cells slots) (hx : p.tables.exec = Jvm.exec) (hZ : Z.Warmed39 s.vm) (eT : T.heap = h) {a : Addr} {ty : FieldType} {z : Int32} {rest : List Value} (A : Ax Z h a ty z) (hd : decode c.code pc = .ok (.arraylength, 1)) (hn : pc + 1 = n) (K : Ends p.tables e below Q F (T.setTop (mkF m n Ls (.int z :: rest)))) : Ends p.tables e below Q F (T.setTop (mkF m pc Ls (.ref a :: rest))) := by
  obtain ⟨k, vs, -, A⟩ := A
  exact arrLen n X hx hZ eT A hd hn K
theorem axLoadI (n : Nat) (X : Stand p l e R s m args below meth c T locs cells slots) (hx : p.tables.exec = Jvm.exec) (hZ : Z.Warmed39 s.vm) (eT : T.heap = h) {a : Addr} {z j : Int32} {rest : List Value} (A : Ax Z h a .int z) (hj : ¬ j < 0 ∧ j < z) (hd : decode c.code pc = .ok (.iaload, 1)) (hn : pc + 1 = n) (K : ∀ v : Int32, Ends p.tables e below Q F (T.setTop (mkF m n Ls (.int v :: rest)))) : Ends p.tables e below Q F (T.setTop (mkF m pc Ls (.int j :: .ref a :: rest))) := by
  obtain ⟨k, vs, -, A⟩ := A
  have A1 := A
  obtain ⟨cl, Ar, -, Sz, Nz, Hs, Gs⟩ := A1
  have hin := inb_of Sz hj
  have G := Gs j.toNatClampNeg (Nat.lt_of_not_le fun y => hin (Or.inr y))
  obtain ⟨v, hv⟩ := fit_I G (Or.inl rfl)
  exact iaload n X hx hZ eT v A hj hv hd hn (K v)
theorem axLoadJ (n : Nat) (X : Stand p l e R s m args below meth c T locs cells slots) (hx : p.tables.exec = Jvm.exec) (hZ : Z.Warmed39 s.vm) (eT : T.heap = h) {a : Addr} {z j : Int32} {rest : List Value} (A : Ax Z h a .long z) (hj : ¬ j < 0 ∧ j < z) (hd : decode c.code pc = .ok (.laload, 1)) (hn : pc + 1 = n) (K : ∀ v : Int64, Ends p.tables e below Q F (T.setTop (mkF m n Ls (.long v :: rest)))) : Ends p.tables e below Q F (T.setTop (mkF m pc Ls (.int j :: .ref a :: rest))) := by
  obtain ⟨k, vs, -, A⟩ := A
  have A1 := A
  obtain ⟨cl, Ar, -, Sz, Nz, Hs, Gs⟩ := A1
  have hin := inb_of Sz hj
  have G := Gs j.toNatClampNeg (Nat.lt_of_not_le fun y => hin (Or.inr y))
  obtain ⟨v, hv⟩ := fit_J G
  exact laload n X hx hZ eT v A hj hv hd hn (K v)
theorem axLoadB (n : Nat) (X : Stand p l e R s m args below meth c T locs cells slots) (hx : p.tables.exec = Jvm.exec) (hZ : Z.Warmed39 s.vm) (eT : T.heap = h) {a : Addr} {z j : Int32} {rest : List Value} (A : Ax Z h a .byte z) (hj : ¬ j < 0 ∧ j < z) (hd : decode c.code pc = .ok (.baload, 1)) (hn : pc + 1 = n) (K : ∀ v : Int32, Ends p.tables e below Q F (T.setTop (mkF m n Ls (.int v :: rest)))) : Ends p.tables e below Q F (T.setTop (mkF m pc Ls (.int j :: .ref a :: rest))) := by
  obtain ⟨k, vs, -, A⟩ := A
  have A1 := A
  obtain ⟨cl, Ar, -, Sz, Nz, Hs, Gs⟩ := A1
  have hin := inb_of Sz hj
  have G := Gs j.toNatClampNeg (Nat.lt_of_not_le fun y => hin (Or.inr y))
  obtain ⟨v, hv⟩ := fit_I G (Or.inr (Or.inr (Or.inl rfl)))
  exact baload n X hx hZ eT v A hj hv hd hn (K v)
theorem axStoreI (n : Nat) (X : Stand p l e R s m args below meth c T locs cells slots) (hx : p.tables.exec = Jvm.exec) (hZ : Z.Warmed39 s.vm) (eT : T.heap = h) {a : Addr} {z j : Int32} {x : Int32} {rest : List Value} (A : Ax Z h a .int z) (hj : ¬ j < 0 ∧ j < z) (hd : decode c.code pc = .ok (.iastore, 1)) (hn : pc + 1 = n) (K : ∀ T' h', Stand p l e R s m args below meth c T' (locs ++ [⟨a, j.toNatClampNeg⟩]) cells slots → T'.heap = h' → Wr h h' a j.toNatClampNeg (.int x) → Ax Z h' a .int z → Ends p.tables e below Q F (T'.setTop (mkF m n Ls (rest)))) : Ends p.tables e below Q F (T.setTop (mkF m pc Ls (.int x :: .int j :: .ref a :: rest))) := by
  obtain ⟨k, vs, hl, A⟩ := A
  have hjz : j.toNatClampNeg < z.toNatClampNeg := by
    have h1 := nat_of hj.1
    have h2 := hj.2
    have h3 := nat_of (Ax.nn ⟨k, vs, hl, A⟩)
    rw [Int32.lt_iff_toInt_lt] at h2
    omega
  exact iastore n X hx hZ eT A hj (by rw [hl]; exact hjz) hd hn (fun T1 h1 X1 e1 W1 A1 => K T1 h1 X1 e1 W1 ⟨k, _, by rw [List.length_set, hl], A1⟩)
theorem axStoreJ (n : Nat) (X : Stand p l e R s m args below meth c T locs cells slots) (hx : p.tables.exec = Jvm.exec) (hZ : Z.Warmed39 s.vm) (eT : T.heap = h) {a : Addr} {z j : Int32} {x : Int64} {rest : List Value} (A : Ax Z h a .long z) (hj : ¬ j < 0 ∧ j < z) (hd : decode c.code pc = .ok (.lastore, 1)) (hn : pc + 1 = n) (K : ∀ T' h', Stand p l e R s m args below meth c T' (locs ++ [⟨a, j.toNatClampNeg⟩]) cells slots → T'.heap = h' → Wr h h' a j.toNatClampNeg (.long x) → Ax Z h' a .long z → Ends p.tables e below Q F (T'.setTop (mkF m n Ls (rest)))) : Ends p.tables e below Q F (T.setTop (mkF m pc Ls (.long x :: .int j :: .ref a :: rest))) := by
  obtain ⟨k, vs, hl, A⟩ := A
  have hjz : j.toNatClampNeg < z.toNatClampNeg := by
    have h1 := nat_of hj.1
    have h2 := hj.2
    have h3 := nat_of (Ax.nn ⟨k, vs, hl, A⟩)
    rw [Int32.lt_iff_toInt_lt] at h2
    omega
  exact lastore n X hx hZ eT A hj (by rw [hl]; exact hjz) hd hn (fun T1 h1 X1 e1 W1 A1 => K T1 h1 X1 e1 W1 ⟨k, _, by rw [List.length_set, hl], A1⟩)
theorem axStoreB (n : Nat) (X : Stand p l e R s m args below meth c T locs cells slots) (hx : p.tables.exec = Jvm.exec) (hZ : Z.Warmed39 s.vm) (eT : T.heap = h) {a : Addr} {z j : Int32} {x : Int32} {rest : List Value} (A : Ax Z h a .byte z) (hj : ¬ j < 0 ∧ j < z) (hd : decode c.code pc = .ok (.bastore, 1)) (hn : pc + 1 = n) (K : ∀ T' h', Stand p l e R s m args below meth c T' (locs ++ [⟨a, j.toNatClampNeg⟩]) cells slots → T'.heap = h' → Wr h h' a j.toNatClampNeg (.int x.toInt8.toInt32) → Ax Z h' a .byte z → Ends p.tables e below Q F (T'.setTop (mkF m n Ls (rest)))) : Ends p.tables e below Q F (T.setTop (mkF m pc Ls (.int x :: .int j :: .ref a :: rest))) := by
  obtain ⟨k, vs, hl, A⟩ := A
  have hjz : j.toNatClampNeg < z.toNatClampNeg := by
    have h1 := nat_of hj.1
    have h2 := hj.2
    have h3 := nat_of (Ax.nn ⟨k, vs, hl, A⟩)
    rw [Int32.lt_iff_toInt_lt] at h2
    omega
  exact bastore n X hx hZ eT A hj (by rw [hl]; exact hjz) hd hn (fun T1 h1 X1 e1 W1 A1 => K T1 h1 X1 e1 W1 ⟨k, _, by rw [List.length_set, hl], A1⟩)
theorem axNew (n cap : Nat) (X : Stand p l e R s m args below meth c T locs cells slots) (hx : p.tables.exec = Jvm.exec) (hZ : Z.Warmed39 s.vm) {aty : ArrayType} (w : (Cond.arrayClass (newarray.typeOf aty)).before a0 Z = true) (eT : T.heap = h) {z : Int32} {rest : List Value} (hz : ¬ z < 0) (hcap : z.toNatClampNeg ≤ cap) (hb : cap * 8 ≤ 536870912) (hd : decode c.code pc = .ok (.newarray aty, 2)) (hn : pc + 2 = n) (hc : cells + 1 ≤ R.cells) (hl : slots + cap ≤ R.slots) (K : ∀ T' h' a, a = h.size → Stand p l e R s m args below meth c T' locs (cells + 1) (slots + cap) → T'.heap = h' → Ext h h' → Ax Z h' a (newarray.typeOf aty) z → Ends p.tables e below Q F (T'.setTop (mkF m n Ls (.ref a :: rest)))) : Ends p.tables e below Q F (T.setTop (mkF m pc Ls (.int z :: rest))) :=
  newArr n cap X hx hZ w eT hz hcap hb hd hn hc hl (fun T1 h1 a k q X1 e1 E1 A1 => K T1 h1 a q X1 e1 E1 ⟨k, _, List.length_replicate, A1⟩)
theorem axCopy (n W : Nat) (X : Stand p l e R s m args below meth c T locs cells slots) (hx : p.tables.exec = Jvm.exec) (hZ : Z.Warmed39 s.vm) {own : String} {index : Nat} (hown : s.vm.findClass own = some m.cls) (w1 : (Cond.methodLink own index Jvm.Stand.acN).before a0 Z = true) (w2 : (Cond.native Jvm.Stand.acN).before a0 Z = true) (w3 : (Cond.static Jvm.Stand.acN).before a0 Z = true) (w4 : (Cond.initialized "java/lang/System").before a0 Z = true) (eT : T.heap = h) {a b : Addr} {ty : FieldType} {z z2 sp dp nn : Int32} (A : Ax Z h a ty z) (B : Ax Z h b ty z2) (hty : refKind ty = false) (h1 : ¬ sp < 0) (h2 : ¬ dp < 0) (h3 : ¬ nn < 0) (h4 : sp.toNatClampNeg + nn.toNatClampNeg ≤ z.toNatClampNeg) (h5 : dp.toNatClampNeg + nn.toNatClampNeg ≤ z2.toNatClampNeg) {n0 : Nat} (N : Fr n0 locs) (ge : n0 ≤ b) (hsz : Ls.size = c.maxLocals) {rest : List Value} (hd : decode c.code pc = .ok (.invokestatic index, 3)) (hn : pc + 3 = n) (hf : 1 ≤ R.frames) (hW : (rest.map fun v => v.category).sum ≤ W) (hlo : W + (nativeFrameWords "java/lang/System" "arraycopy" 5 + 11) ≤ R.locals) (K : ∀ T' h' L, Stand p l e R s m args below meth c T' L cells slots → T'.heap = h' → Fr n0 L → Keep h h' [b] → Ax Z h' b ty z2 → Ends p.tables e below Q F (T'.setTop (mkF m n Ls (rest)))) : Ends p.tables e below Q F (T.setTop (mkF m pc Ls (.int nn :: .int dp :: .ref b :: .int sp :: .ref a :: rest))) := by
  obtain ⟨k, vs, hl, A⟩ := A
  obtain ⟨k2, vd, hl2, B⟩ := B
  exact arrCopy n W X hx hZ hown w1 w2 w3 w4 eT A B hty h1 h2 h3 h4 h5 (by rw [hl2]; exact h5) N ge hsz hd hn hf hW hlo (fun T1 hh1 L1 vs1 X1 e1 N1 K1 _ q V1 => K T1 hh1 L1 X1 e1 N1 K1 ⟨k2, vs1, q.trans hl2, V1⟩)
theorem acmp_ne (nY nN : Nat) (X : Stand p l e R s m args below meth c T locs cells slots) (hx : p.tables.exec = Jvm.exec) {o : Int} {x y : Value} {rest : List Value} (hd : decode c.code pc = .ok (.if_acmp .ne o, 3)) (h1 : x.isRef = true) (h2 : y.isRef = true) (hY : 0 ≤ (pc : Int) + o ∧ ((pc : Int) + o).toNat = nY) (hN : pc + 3 = nN) (KY : ¬ x = y → Ends p.tables e below Q F (T.setTop (mkF m nY Ls (rest)))) (KN : x = y → Ends p.tables e below Q F (T.setTop (mkF m nN Ls (rest)))) : Ends p.tables e below Q F (T.setTop (mkF m pc Ls (y :: x :: rest))) := by
  subst hN
  by_cases q : x = y
  · exact (KN q).step fun t k => acmp (g := mkF m pc Ls (y :: x :: rest)) X hx rfl h1 h2 (pc0 := pc) (pc' := pc + 3) (same := true) rfl hd rfl (decide_eq_true q) hY.1 rfl k
  · exact (KY q).step fun t k => acmp (g := mkF m pc Ls (y :: x :: rest)) X hx rfl h1 h2 (pc0 := pc) (pc' := nY) (same := false) rfl hd rfl (decide_eq_false q) hY.1 hY.2.symm k
theorem acmp_eq (nY nN : Nat) (X : Stand p l e R s m args below meth c T locs cells slots) (hx : p.tables.exec = Jvm.exec) {o : Int} {x y : Value} {rest : List Value} (hd : decode c.code pc = .ok (.if_acmp .eq o, 3)) (h1 : x.isRef = true) (h2 : y.isRef = true) (hY : 0 ≤ (pc : Int) + o ∧ ((pc : Int) + o).toNat = nY) (hN : pc + 3 = nN) (KY : x = y → Ends p.tables e below Q F (T.setTop (mkF m nY Ls (rest)))) (KN : ¬ x = y → Ends p.tables e below Q F (T.setTop (mkF m nN Ls (rest)))) : Ends p.tables e below Q F (T.setTop (mkF m pc Ls (y :: x :: rest))) := by
  subst hN
  by_cases q : x = y
  · exact (KY q).step fun t k => acmp (g := mkF m pc Ls (y :: x :: rest)) X hx rfl h1 h2 (pc0 := pc) (pc' := nY) (same := true) rfl hd rfl (decide_eq_true q) hY.1 hY.2.symm k
  · exact (KN q).step fun t k => acmp (g := mkF m pc Ls (y :: x :: rest)) X hx rfl h1 h2 (pc0 := pc) (pc' := pc + 3) (same := false) rfl hd rfl (decide_eq_false q) hY.1 rfl k
theorem callInitB (n W rc rs : Nat) (a : Addr) (argsL rest : List Value) (X : Stand p l e R s m args below meth c T locs cells slots) (hx : p.tables.exec = Jvm.exec) (hZ : Z.Warmed39 s.vm) {own : String} {index : Nat} {y : MethodName} {bytes : ByteArray} {maxL : Nat} {QQ : Option Value → Heap → List Loc → Prop} (hown : s.vm.findClass own = some m.cls) (hB : Back l R p e below s args y 3 W (fun P a' => a' = (.ref a :: argsL).toArray ∧ P.U.heap = h ∧ P.cells + rc ≤ R.cells ∧ P.slots + rs ≤ R.slots) (fun P _ v B => ∃ L, QQ v B.U.heap L ∧ B.locs = P.locs ++ L ∧ B.cells = P.cells + rc ∧ B.slots = P.slots + rs)) (hy1 : y.name = "<init>") (wl : (Cond.methodLink own index y).before a0 Z = true) (ws : (Cond.instanceMethod y).before a0 Z = true) (wc : (Cond.code y bytes maxL none).before a0 Z = true) (hy : y.cls ≠ "java/lang/invoke/MethodHandle" ∧ y.cls ≠ "java/lang/invoke/VarHandle") (eT : T.heap = h) (hc : cells + rc ≤ R.cells) (hs : slots + rs ≤ R.slots) (hsz : Ls.size = c.maxLocals) (hlen : ∀ sig, parseMethodDescriptor y.desc = some sig → argsL.length = sig.parameters.length) (hst : st = argsL.reverse ++ .ref a :: rest) (hW : (rest.map fun v => v.category).sum ≤ W) (hd : decode c.code pc = .ok (.invokespecial index, 3)) (hn : pc + 3 = n) (K : ∀ v T' L', Stand p l e R s m args below meth c T' (locs ++ L') (cells + rc) (slots + rs) → QQ v T'.heap L' → Ends p.tables e below Q F (T'.setTop (mkF m n Ls (v.toList ++ rest)))) : Ends p.tables e below Q F (T.setTop (mkF m pc Ls (st))) := by
  subst hn
  obtain ⟨v, vm1, ⟨T1, L1, k1, n1⟩, -, X1, ⟨Lc, hQ, l1, y1, z1⟩, st1⟩ := X.specialBack hx (y := y) hy1 hown (mvT hZ wl) (mvT hZ ws) (mvT hZ wc) hy hB (g := mkF m pc Ls st) rfl hsz (Steps.refl _) (a := a) (argsL := argsL) (rest := rest) hlen hst (by show 2 * 0 + _ ≤ _; omega) hd (fun _ _ => ⟨rfl, eT, hc, hs⟩)
  dsimp only [Pt.U, Pt.locs, Pt.cells, Pt.slots] at X1 l1 y1 z1 st1 hQ
  subst l1 y1 z1
  exact (K v T1 Lc X1 hQ).step fun t k => st1.trans k
theorem callVtB (n W rc rs : Nat) (a : Addr) (argsL rest : List Value) (X : Stand p l e R s m args below meth c T locs cells slots) (hx : p.tables.exec = Jvm.exec) (hZ : Z.Warmed39 s.vm) {own CC : String} {index : Nat} {y z : MethodName} {QQ : Option Value → Heap → List Loc → Prop} (hown : s.vm.findClass own = some m.cls) (hB : Back l R p e below s args z 3 W (fun P a' => a' = (.ref a :: argsL).toArray ∧ P.U.heap = h ∧ P.cells + rc ≤ R.cells ∧ P.slots + rs ≤ R.slots) (fun P _ v B => ∃ L, QQ v B.U.heap L ∧ B.locs = P.locs ++ L ∧ B.cells = P.cells + rc ∧ B.slots = P.slots + rs)) (E : Exa Z h a CC) (hnf : NotFace s y) (wl : (Cond.methodLink own index y).before a0 Z = true) (wd : (Cond.declares y).before a0 Z = true) (wsel : (Cond.selects CC y z).before a0 Z = true) (ws : (Cond.instanceMethod z).before a0 Z = true) (hy : y.cls ≠ "java/lang/invoke/MethodHandle" ∧ y.cls ≠ "java/lang/invoke/VarHandle") (eT : T.heap = h) (hc : cells + rc ≤ R.cells) (hs : slots + rs ≤ R.slots) (hsz : Ls.size = c.maxLocals) (hlen : ∀ sig, parseMethodDescriptor y.desc = some sig → argsL.length = sig.parameters.length) (hst : st = argsL.reverse ++ .ref a :: rest) (hW : (rest.map fun v => v.category).sum ≤ W) (hd : decode c.code pc = .ok (.invokevirtual index, 3)) (hn : pc + 3 = n) (K : ∀ v T' L', Stand p l e R s m args below meth c T' (locs ++ L') (cells + rc) (slots + rs) → QQ v T'.heap L' → Ends p.tables e below Q F (T'.setTop (mkF m n Ls (v.toList ++ rest)))) : Ends p.tables e below Q F (T.setTop (mkF m pc Ls (st))) := by
  subst hn
  obtain ⟨cq, kq, qa, qb, qc⟩ := isOf hZ eT E
  obtain ⟨v, vm1, ⟨T1, L1, k1, n1⟩, -, X1, ⟨Lc, hQ, l1, y1, z1⟩, st1⟩ := X.virtualBack hx (y := y) (z := z) hown (mvT hZ wl) (mvT hZ wd) hnf (mvT hZ wsel) (mvT hZ ws) hy hB qa qc (g := mkF m pc Ls st) rfl hsz (Steps.refl _) (argsL := argsL) (rest := rest) hlen hst (by show 2 * 0 + _ ≤ _; omega) hd (fun _ _ => ⟨rfl, eT, hc, hs⟩)
  dsimp only [Pt.U, Pt.locs, Pt.cells, Pt.slots] at X1 l1 y1 z1 st1 hQ
  subst l1 y1 z1
  exact (K v T1 Lc X1 hQ).step fun t k => st1.trans k
theorem eqI_v {t : Term} {k : Int32} {as : Array Value} (q : (Cond.eq t (.int k)).value as s none s [] = some true) : t.eval as s none [] s = some (.int k) := by
  cases ht : t.eval as s none [] s with
  | none => simp [Cond.value, ht] at q
  | some x => cases x <;> simp [Cond.value, Term.eval, ht] at q ⊢; exact q
theorem eqR_v {t u : Term} {b : Addr} {as : Array Value} (hu : u.eval as s none [] s = some (.ref b)) (q : (Cond.eq t u).value as s none s [] = some true) : t.eval as s none [] s = some (.ref b) := by
  cases ht : t.eval as s none [] s with
  | none => simp [Cond.value, ht] at q
  | some x => cases x <;> simp [Cond.value, hu, ht] at q ⊢; exact q
theorem Ends.wide {tb : Tables} {U : State} (k : Ends tb e below Q (FE s C S) U) : Ends tb e below Q (FW s C S) U := by
  obtain ⟨s₂, o, h1, h2, h3, v, L, h4, h5, h6⟩ := k
  exact ⟨s₂, o, h1, h2, h3, v, L, h4, h5, Jvm.RoadKit.wide h6⟩
theorem Ends.since {tb : Tables} {U : State} {vm1 : Vm} {k1 : Nat} (hS : s.Since vm1 k1) (k : Ends tb e below (fun v hh L => Q v hh L ∧ k1 ≤ hh.size) (FE (s.setVm vm1) C S) U) : Ends tb e below Q (FW s C S) U := by
  obtain ⟨s₂, o, h1, h2, h3, v, L, h4, ⟨h5, hk⟩, h6, h7, h8⟩ := k
  obtain ⟨a, b, d⟩ := hS.ended (U := s₂) h7 hk h8
  exact ⟨s₂, o, h1, h2, h3, v, L, h4, h5, h6, a, b, d⟩
theorem ldcStr (n cap : Nat) (X : Stand p l e R s m args below meth c T locs cells slots) (hx : p.tables.exec = Jvm.exec) (hZ : Z.Warmed39 s.vm) {own text : String} {index : Nat} (hown : s.vm.findClass own = some m.cls) (w : (Cond.stringLink own index text).before a0 Z = true) (wS : ∀ a ∈ Bundle.stringAtoms, a.before a0 Z = true) (eT : T.heap = h) (hd : decode c.code pc = .ok (.ldc index, 2)) (hn : pc + 2 = n) (hcap : 4 * text.toList.length ≤ cap) (hbig : cap ≤ 536870912) (hc : cells + 2 ≤ R.cells) (hl : slots + (cap + 4) ≤ R.slots) (K : ∀ (a : Addr) (T' : State) (h' : Heap), Stand p l e R (s.setVm T'.vm) m args below meth c T' locs (cells + 2) (slots + (cap + 4)) → T'.heap = h' → Ext h h' → Z.Warmed39 (s.setVm T'.vm).vm → (s.setVm T'.vm).vm.findClass own = some m.cls → Ends p.tables e below (fun v hh L => Q v hh L ∧ h'.size ≤ hh.size) (FE (s.setVm T'.vm) C S) (T'.setTop (mkF m n Ls (.ref a :: st)))) : Ends p.tables e below Q (FW s C S) (T.setTop (mkF m pc Ls st)) := by
  subst hn
  obtain ⟨a, T1, h1, k1, X1, e1, E1, S1, hk1, Z1, o1, st1⟩ := ldcS (s := s) (vm0 := s.vm) X hx hZ hown w wS eT (k0 := 0) ⟨State.Warmed39.refl s, fun j p hj hp => absurd (Array.getElem?_eq_some_iff.mp hp).1 (Nat.not_lt.mpr hj)⟩ (Nat.zero_le _) (g := mkF m pc Ls st) rfl hd hcap hbig hc hl
  exact Ends.since S1 (Ends.mono ((K a T1 h1 X1 e1 E1 Z1 o1).step st1) (fun v hh L q => ⟨q.1, Nat.le_trans hk1 q.2⟩))
/-- the contract of a body that may load a String constant -/
def MetW (l : Launch) (Z : State) (y : MethodName) (bytes : ByteArray) (maxL : Nat) (ret : Option FieldType) (ws : List Cond) (rm : Room) (as : Array Value) (h : Heap) (QQ : Option Value → Heap → List Loc → Prop) : Prop :=
  MetFree l y (head1 (Cond.code y bytes maxL ret :: ws) rm) (fun a U => a = as ∧ Z.Warmed39 U.vm ∧ U.heap = h) (fun _ _ _ _ _ => True) (fun _ U o U' => ∃ v L, o = .returned v ∧ QQ v U'.heap L ∧ ReturnedEndW U o U' L rm.cells rm.slots)
theorem MetW.of {y : MethodName} {bytes : ByteArray} {maxL : Nat} {ret : Option FieldType} {ws : List Cond} {rm : Room} {as : Array Value} {QQ : Option Value → Heap → List Loc → Prop} (hp : plainFor y = true)
    (body : ∀ (p : Program) (e : Env) (s : State) (m : MethodId) (below : List Frame) (meth : Method) (c : Code) (T : State), p.tables.exec = Jvm.exec → c.code = bytes → c.maxLocals = maxL → s.vm.findClass y.cls = some m.cls → meth.name = y.name → meth.sig.returnType = ret → meth.locks = false → Z.Warmed39 s.vm → Stand p l e rm s m as below meth c T [] 0 0 → T.heap = h → Ends p.tables e below QQ (FW s rm.cells rm.slots) (T.setTop (entryFrame m as maxL))) :
    MetW l Z y bytes maxL ret ws rm as h QQ := by
  refine MetFree.of_bodySF hp hisR ?_
  intro p e s m args below meth c s₁ Bd hml0 hP hK
  obtain ⟨rfl, hZ, hh⟩ := hP
  exact body p e s m below meth c s₁ Bd.exec Bd.bytes hml0 (findClass_of_methodNamed Bd.named) (name_of_methodNamed Bd.named Bd.method).1 Bd.returns Bd.notSynchronized hZ (Stand.of_body Bd) (by rw [← hh, Bd.state]; rfl)
theorem newRefArr (n cap : Nat) (X : Stand p l e R s m args below meth c T locs cells slots) (hx : p.tables.exec = Jvm.exec) (hZ : Z.Warmed39 s.vm) {own CC : String} {index : Nat} (hown : s.vm.findClass own = some m.cls) (w1 : (Cond.classLink own index CC).before a0 Z = true) (w2 : (Cond.arrayOver (.object CC)).before a0 Z = true) (eT : T.heap = h) {z : Int32} {rest : List Value} (hz : ¬ z < 0) (hcap : z.toNatClampNeg ≤ cap) (hb : cap * 8 ≤ 536870912) (hd : decode c.code pc = .ok (.anewarray index, 3)) (hn : pc + 3 = n) (hc : cells + 1 ≤ R.cells) (hl : slots + cap ≤ R.slots) (K : ∀ T' h' a k, a = h.size → Stand p l e R s m args below meth c T' locs (cells + 1) (slots + cap) → T'.heap = h' → Ext h h' → Arv Z h' a k (.object CC) z (List.replicate z.toNatClampNeg .null) .null → Ovr Z k CC → Ends p.tables e below Q F (T'.setTop (mkF m n Ls (.ref a :: rest)))) : Ends p.tables e below Q F (T.setTop (mkF m pc Ls (.int z :: rest))) := by
  subst hn
  obtain ⟨T1, h1, k1, X1, e1, E1, A1, O1, st1⟩ := newR X hx hZ hown w1 w2 eT (g := mkF m pc Ls (.int z :: rest)) rfl hd rfl hz (cap := cap) hcap hb hc hl
  exact (K T1 h1 _ k1 rfl X1 e1 E1 ((Arv.new A1 hz).pad (pad_rep [] _ _)) O1).step st1
theorem aastore (n : Nat) (X : Stand p l e R s m args below meth c T locs cells slots) (hx : p.tables.exec = Jvm.exec) (hZ : Z.Warmed39 s.vm) (eT : T.heap = h) {a : Addr} {k : ClassId} {z j : Int32} {ty : FieldType} {v : Value} {vs : List Value} {dv : Value} {rest : List Value} (A : Arv Z h a k ty z vs dv) (hty : ty.isReference = true) (hv : fits ty v = true) (hS : Sto Z h a v) (hj : ¬ j < 0 ∧ j < z) (hlen : j.toNatClampNeg < vs.length) (hd : decode c.code pc = .ok (.aastore, 1)) (hn : pc + 1 = n) (K : ∀ T' h', Stand p l e R s m args below meth c T' (locs ++ [⟨a, j.toNatClampNeg⟩]) cells slots → T'.heap = h' → Wr h h' a j.toNatClampNeg v → Arv Z h' a k ty z (vs.set j.toNatClampNeg v) dv → Ends p.tables e below Q F (T'.setTop (mkF m n Ls (rest)))) : Ends p.tables e below Q F (T.setTop (mkF m pc Ls (v :: .int j :: .ref a :: rest))) := by
  subst hn
  obtain ⟨cl, Ar, q1, Sz, Nz, Hs, Gs⟩ := A
  obtain ⟨T1, h1, X1, e1, W1, st1⟩ := stR X hx hZ eT Ar (j := j) (inb_of Sz hj) hty hS (g := mkF m pc Ls (v :: .int j :: .ref a :: rest)) rfl rfl hd
  exact (K T1 h1 X1 e1 W1 (Arv.set Ar q1 Sz Nz Hs Gs hv W1 _ rfl hlen)).step st1
theorem cat_ref {v : Value} (hv : v.isRef = true) : v.category = 1 := by rcases ref_cases hv with rfl | ⟨a, rfl⟩ <;> rfl
theorem fits_obj {v : Value} {C : String} (hv : v.isRef = true) : fits (.object C) v = true := by rcases ref_cases hv with rfl | ⟨a, rfl⟩ <;> rfl
/-- a reference that may be null; if not, one of this class -/
def Opt (Z : State) (h : Heap) (v : Value) (C : String) : Prop := v = .null ∨ ∃ a, v = .ref a ∧ Exa Z h a C
theorem Opt.isRef {v : Value} {CC : String} (F : Opt Z h v CC) : v.isRef = true := by rcases F with rfl | ⟨a, rfl, -⟩ <;> rfl
theorem Opt.ext {h' : Heap} {v : Value} {CC : String} (F : Opt Z h v CC) (E : Ext h h') : Opt Z h' v CC := F.imp id fun ⟨a, q, r⟩ => ⟨a, q, r.ext E⟩
theorem Opt.wr {h' : Heap} {v : Value} {CC : String} {a : Addr} {sl : Nat} {u : Value} (F : Opt Z h v CC) (W : Wr h h' a sl u) : Opt Z h' v CC := F.imp id fun ⟨a, q, r⟩ => ⟨a, q, r.wr W⟩
theorem Opt.keep {h' : Heap} {v : Value} {CC : String} {ws : List Addr} (F : Opt Z h v CC) (K : Keep h h' ws) : Opt Z h' v CC := F.imp id fun ⟨a, q, r⟩ => ⟨a, q, r.keep K⟩
theorem Opt.sto {v : Value} {CC : String} {a : Addr} {k : ClassId} {ty : FieldType} {z : Int32} {vs : List Value} {dv : Value} (F : Opt Z h v CC) (A : Arv Z h a k ty z vs dv) (O : Ovr Z k CC) : Sto Z h a v := by
  rcases F with rfl | ⟨y, rfl, E⟩
  · exact Or.inl rfl
  · obtain ⟨cq, Aq, qq, -⟩ := A
    exact Sto.ofV Aq qq O (Ins.self E)
theorem astoreV (n : Nat) (L1 : Array Slot) (X : Stand p l e R s m args below meth c T locs cells slots) (hx : p.tables.exec = Jvm.exec) {k : Nat} {x : Value} {o : Slot} {rest : List Value} (hd : decode c.code pc = .ok (.astore k, 2)) (hn : pc + 2 = n) (hv : x.isRef = true) (hold : Ls[k]? = some o) (ho : One o) (hL : Ls.setIfInBounds k (.val x) = L1) (K : Ends p.tables e below Q F (T.setTop (mkF m n (Ls.setIfInBounds k (.val x)) (rest)))) : Ends p.tables e below Q F (T.setTop (mkF m pc Ls (x :: rest))) := by
  subst hn hL; exact K.step fun t k => XS.astore (g := mkF m pc Ls (x :: rest)) X.here hx rfl hd rfl hv (XS.store1 hold ho (cat_ref hv)) k
theorem astoreNV (n : Nat) (L1 : Array Slot) (X : Stand p l e R s m args below meth c T locs cells slots) (hx : p.tables.exec = Jvm.exec) {k : Fin 4} {x : Value} {o : Slot} {rest : List Value} (hd : decode c.code pc = .ok (.astore_n k, 1)) (hn : pc + 1 = n) (hv : x.isRef = true) (hold : Ls[k.val]? = some o) (ho : One o) (hL : Ls.setIfInBounds k.val (.val x) = L1) (K : Ends p.tables e below Q F (T.setTop (mkF m n (Ls.setIfInBounds k.val (.val x)) (rest)))) : Ends p.tables e below Q F (T.setTop (mkF m pc Ls (x :: rest))) := by
  subst hn hL; exact K.step fun t k => XS.astoreN (g := mkF m pc Ls (x :: rest)) X.here hx rfl hd rfl hv (XS.store1 hold ho (cat_ref hv)) k
end Walk
end Jvm.Own

namespace Jvm.Own
open Jvm Sem ClassFile Op Lib Jvm.Stand Jvm.Free Jvm.LawKit Jvm.RoadKit Bundle
section Walk2
variable {p : Program} {l : Launch} {e : Env} {R : Room} {s : State} {m : MethodId} {args : Array Value} {below : List Frame} {meth : Method} {c : Code} {T : State} {locs : List Loc} {cells slots : Nat} {Q : Option Value → Heap → List Loc → Prop} {F : Outcome → State → List Loc → Prop} {C S : Nat} {pc : Nat} {Ls : Array Slot} {st : List Value} {Z : State} {a0 : Array Value} {h : Heap}
theorem castOk (n : Nat) (X : Stand p l e R s m args below meth c T locs cells slots) (hx : p.tables.exec = Jvm.exec) (hZ : Z.Warmed39 s.vm) {own CC : String} {index : Nat} (hown : s.vm.findClass own = some m.cls) (w : (Cond.classLink own index CC).before a0 Z = true) (eT : T.heap = h) {a : Addr} (I : Ins Z h a CC true) {rest : List Value} (hd : decode c.code pc = .ok (.checkcast index, 3)) (hn : pc + 3 = n) (K : ∀ T', Stand p l e R s m args below meth c T' locs cells slots → T'.heap = h → Ends p.tables e below Q F (T'.setTop (mkF m n Ls (.ref a :: rest)))) : Ends p.tables e below Q F (T.setTop (mkF m pc Ls (.ref a :: rest))) := by
  subst hn
  obtain ⟨T1, X1, e1, st1⟩ := castY X hx hZ hown w eT I (g := mkF m pc Ls (.ref a :: rest)) rfl rfl hd
  exact (K T1 X1 e1).step st1
theorem instN0 (n : Nat) (X : Stand p l e R s m args below meth c T locs cells slots) (hx : p.tables.exec = Jvm.exec) (hZ : Z.Warmed39 s.vm) {own CC K1 : String} {index : Nat} (hown : s.vm.findClass own = some m.cls) (w : (Cond.classLink own index K1).before a0 Z = true) (eT : T.heap = h) {a : Addr} (Ex : Exa Z h a CC) (I : ∃ cc t, Z.vm.findClass CC = some cc ∧ Z.vm.findClass K1 = some t ∧ Z.vm.assignable cc t = false) {rest : List Value} (hd : decode c.code pc = .ok (.instanceof index, 3)) (hn : pc + 3 = n) (K : ∀ T', Stand p l e R s m args below meth c T' locs cells slots → T'.heap = h → Ends p.tables e below Q F (T'.setTop (mkF m n Ls (.int 0 :: rest)))) : Ends p.tables e below Q F (T.setTop (mkF m pc Ls (.ref a :: rest))) := by
  subst hn
  obtain ⟨T1, X1, e1, st1⟩ := instNo X hx hZ hown w eT Ex I (g := mkF m pc Ls (.ref a :: rest)) rfl rfl hd
  exact (K T1 X1 e1).step st1
theorem ns_root {O K1 : String} {kk : Nat} (w : (Cond.noSuperclass O).before a0 Z = true) (wk : (Cond.instantiable K1 kk).before a0 Z = true) (hn : O ≠ K1) : NS Z O K1 := by
  obtain ⟨c0, k, h1, h2, h3, -, -⟩ := Cond.noSuperclass_spec w
  obtain ⟨t, kt, g1, -⟩ := Cond.instantiable_spec wk
  have ne := ids_ne h1 g1 hn
  refine ⟨c0, t, h1, g1, fun fuel => ?_⟩
  cases fuel with
  | zero => rfl
  | succ f => simp [Vm.isSubclassAux, ne, h2, h3]
theorem ns_no {CC K1 SS : String} {kk : Nat} (w : (Cond.superclass CC SS).before a0 Z = true) (wk : (Cond.instantiable K1 kk).before a0 Z = true) (n : NS Z CC K1) (hn : CC ≠ K1) : ∃ cc t, Z.vm.findClass CC = some cc ∧ Z.vm.findClass K1 = some t ∧ Z.vm.assignable cc t = false := by
  obtain ⟨c0, t, h0, g0, n3⟩ := n
  obtain ⟨p, k, kp, h1, h2, h3, h4, h5, -, h7⟩ := Cond.superclass_spec h0 w
  obtain ⟨t', kt, g1, g2, g3, g4, -⟩ := Cond.instantiable_spec wk
  cases g0.symm.trans g1
  have ne := ids_ne h0 g0 hn
  have gi := (Bool.or_eq_false_iff.mp g4).1
  refine ⟨c0, t, h0, g0, ?_⟩
  show Z.vm.assignableAux (255 + 1) c0 t = false
  simp [Vm.assignableAux, ne, h2, g2, h5, g3, gi, Vm.isSubclass, n3]
theorem callIf (n W : Nat) (a : Addr) (argsL rest : List Value) (X : Stand p l e R s m args below meth c T locs cells slots) (hx : p.tables.exec = Jvm.exec) (hZ : Z.Warmed39 s.vm) {own CC : String} {index count : Nat} {xi y : MethodName} {bytes : ByteArray} {maxL : Nat} {ret : Option FieldType} {rm : Room} {QQ : Option Value → Heap → List Loc → Prop} (hown : s.vm.findClass own = some m.cls) (hM : Met l Z y bytes maxL ret [] rm (.ref a :: argsL).toArray h QQ) (Ex : Exa Z h a CC) (wl : (Cond.methodLink own index xi).before a0 Z = true) (wd : (Cond.declares xi).before a0 Z = true) (wf : (Cond.interfaceMethod xi.cls xi.cls xi.name xi.desc).before args s = true) (wsel : (Cond.selects CC xi y).before a0 Z = true) (ws : (Cond.instanceMethod y).before a0 Z = true) (wp : (Cond.publicMethod y).before a0 Z = true) (wu : (Cond.unhidden CC xi.name xi.desc).before args s = true) (wk : (Cond.castable CC xi.cls).before a0 Z = true) (wi : (Cond.initialized y.cls).before a0 Z = true) (wc : (Cond.code y bytes maxL ret).before a0 Z = true) (hy : xi.cls ≠ "java/lang/invoke/MethodHandle" ∧ xi.cls ≠ "java/lang/invoke/VarHandle") (eT : T.heap = h) (hfr : rm.frames + 1 ≤ R.frames) (hlc : W + (maxL + 11) + rm.locals ≤ R.locals) (hc : cells + rm.cells ≤ R.cells) (hs : slots + rm.slots ≤ R.slots) (hsz : Ls.size = c.maxLocals) (hlen : ∀ sig, parseMethodDescriptor xi.desc = some sig → argsL.length = sig.parameters.length) (hst : st = argsL.reverse ++ .ref a :: rest) (hW : (rest.map fun v => v.category).sum ≤ W) (hd : decode c.code pc = .ok (.invokeinterface index count, 5)) (hn : pc + 5 = n) (K : ∀ v T' L', Stand p l e R s m args below meth c T' (locs ++ L') (cells + rm.cells) (slots + rm.slots) → QQ v T'.heap L' → Ends p.tables e below Q F (T'.setTop (mkF m n Ls (v.toList ++ rest)))) : Ends p.tables e below Q F (T.setTop (mkF m pc Ls (st))) := by
  subst hn
  obtain ⟨cq, kq, qa, qb, qc⟩ := isOf hZ eT Ex
  obtain ⟨v, vm1, ⟨T1, L1, k1, n1⟩, -, X1, ⟨Lc, hQ, l1, y1, z1⟩, st1⟩ := X.interfaceBack hx (xi := xi) (y := y) hown (mvT hZ wl) (mvT hZ wd) wf (mvT hZ wsel) (mvT hZ ws) (mvT hZ wp) wu (mvT hZ wk) hy (backOf (W := W) hM hZ wc wi hfr hlc) qa qb qc (g := mkF m pc Ls st) rfl hsz (Steps.refl _) (argsL := argsL) (rest := rest) hlen hst (by show 2 * 0 + _ ≤ _; omega) hd (fun _ _ => ⟨rfl, eT, hc, hs⟩)
  dsimp only [Pt.U, Pt.locs, Pt.cells, Pt.slots] at X1 l1 y1 z1 st1 hQ
  subst l1 y1 z1
  exact (K v T1 Lc X1 hQ).step fun t k => st1.trans k
theorem tswI (n : Nat) (X : Stand p l e R s m args below meth c T locs cells slots) (hx : p.tables.exec = Jvm.exec) {dflt low high : Int} {offs : Array Int} {len : Nat} {o : Int} {i : Int32} {rest : List Value} (hd : decode c.code pc = .ok (.tableswitch dflt low high offs, len)) (hin : ¬ (i.toInt < low ∨ i.toInt > high)) (hoff : offs[(i.toInt - low).toNat]? = some o) (hn : 0 ≤ (pc : Int) + o ∧ ((pc : Int) + o).toNat = n) (K : Ends p.tables e below Q F (T.setTop (mkF m n Ls (rest)))) : Ends p.tables e below Q F (T.setTop (mkF m pc Ls (.int i :: rest))) :=
  K.step fun t k => XS.tswIn (g := mkF m pc Ls (.int i :: rest)) X.here hx rfl (pc0 := pc) rfl hd rfl hin hoff hn.1 hn.2 k
theorem tswO (n : Nat) (X : Stand p l e R s m args below meth c T locs cells slots) (hx : p.tables.exec = Jvm.exec) {dflt low high : Int} {offs : Array Int} {len : Nat} {i : Int32} {rest : List Value} (hd : decode c.code pc = .ok (.tableswitch dflt low high offs, len)) (hout : i.toInt < low ∨ i.toInt > high) (hn : 0 ≤ (pc : Int) + dflt ∧ ((pc : Int) + dflt).toNat = n) (K : Ends p.tables e below Q F (T.setTop (mkF m n Ls (rest)))) : Ends p.tables e below Q F (T.setTop (mkF m pc Ls (.int i :: rest))) :=
  K.step fun t k => XS.tswOut (g := mkF m pc Ls (.int i :: rest)) X.here hx rfl (pc0 := pc) rfl hd rfl hout hn.1 hn.2 k
theorem arrCopyR (n W : Nat) (us : List Value) (X : Stand p l e R s m args below meth c T locs cells slots) (hx : p.tables.exec = Jvm.exec) (hZ : Z.Warmed39 s.vm) {own : String} {index : Nat} (hown : s.vm.findClass own = some m.cls) (w1 : (Cond.methodLink own index Jvm.Stand.acN).before a0 Z = true) (w2 : (Cond.native Jvm.Stand.acN).before a0 Z = true) (w3 : (Cond.static Jvm.Stand.acN).before a0 Z = true) (w4 : (Cond.initialized "java/lang/System").before a0 Z = true) (eT : T.heap = h) {a b : Addr} {k k2 : ClassId} {ty ty2 : FieldType} {z z2 sp dp nn : Int32} {vs vd : List Value} {dv dd : Value} (A : Arv Z h a k ty z vs dv) (B : Arv Z h b k2 ty2 z2 vd dd) (hty : refKind ty = true) (hty2 : refKind ty2 = true) (hSt : StoL Z h b us) (h1 : ¬ sp < 0) (h2 : ¬ dp < 0) (h3 : ¬ nn < 0) (h4 : sp.toNatClampNeg + nn.toNatClampNeg ≤ z.toNatClampNeg) (h5 : dp.toNatClampNeg + nn.toNatClampNeg ≤ z2.toNatClampNeg) (hus : us = (List.range nn.toNatClampNeg).map fun i => vs.getD (sp.toNatClampNeg + i) dv) (hl : dp.toNatClampNeg + nn.toNatClampNeg ≤ vd.length) {n0 : Nat} (N : Fr n0 locs) (ge : n0 ≤ b) (hsz : Ls.size = c.maxLocals) {rest : List Value} (hd : decode c.code pc = .ok (.invokestatic index, 3)) (hn : pc + 3 = n) (hf : 1 ≤ R.frames) (hW : (rest.map fun v => v.category).sum ≤ W) (hlo : W + (nativeFrameWords "java/lang/System" "arraycopy" 5 + 11) ≤ R.locals) (K : ∀ T' h' L, Stand p l e R s m args below meth c T' L cells slots → T'.heap = h' → Fr n0 L → Keep h h' [b] → Arv Z h' b k2 ty2 z2 (vd.take dp.toNatClampNeg ++ us ++ vd.drop (dp.toNatClampNeg + nn.toNatClampNeg)) dd → Ends p.tables e below Q F (T'.setTop (mkF m n Ls (rest)))) : Ends p.tables e below Q F (T.setTop (mkF m pc Ls (.int nn :: .int dp :: .ref b :: .int sp :: .ref a :: rest))) := by
  subst hn
  obtain ⟨T1, hh1, L1, X1, e1, N1, K1, V1, st1⟩ := cpA X hx hZ hown w1 w2 w3 w4 eT A B (Or.inr ⟨hty, hty2, hSt⟩) h1 h2 h3 h4 h5 hus hl N ge (g := mkF m pc Ls (.int nn :: .int dp :: .ref b :: .int sp :: .ref a :: rest)) rfl hsz rfl hd hf (W := W) (by show 2 * 0 + _ ≤ _; omega) hlo
  exact (K T1 hh1 L1 X1 e1 N1 K1 V1).step st1
/-- the Class object of a class has been made -/
def Mi (Z : State) (CC : String) (mr : Addr) : Prop := ∃ (cc : ClassId) (k : Class), Z.vm.findClass CC = some cc ∧ Z.vm.classes[cc]? = some k ∧ k.mirror = some mr
theorem getCls (n W : Nat) (X : Stand p l e R s m args below meth c T locs cells slots) (hx : p.tables.exec = Jvm.exec) (hZ : Z.Warmed39 s.vm) {own CC : String} {index : Nat} (hown : s.vm.findClass own = some m.cls) (w1 : (Cond.methodLink own index ⟨"java/lang/Object", "getClass", "()Ljava/lang/Class;"⟩).before a0 Z = true) (w2 : (Cond.declares ⟨"java/lang/Object", "getClass", "()Ljava/lang/Class;"⟩).before a0 Z = true) (w3 : (Cond.noSuperclass "java/lang/Object").before a0 Z = true) (w4 : (Cond.selects CC ⟨"java/lang/Object", "getClass", "()Ljava/lang/Class;"⟩ ⟨"java/lang/Object", "getClass", "()Ljava/lang/Class;"⟩).before a0 Z = true) (w5 : (Cond.instanceMethod ⟨"java/lang/Object", "getClass", "()Ljava/lang/Class;"⟩).before a0 Z = true) (w6 : (Cond.native ⟨"java/lang/Object", "getClass", "()Ljava/lang/Class;"⟩).before a0 Z = true) (eT : T.heap = h) {a mr : Addr} (Ex : Exa Z h a CC) (M : Mi Z CC mr) {rest : List Value} (hsz : Ls.size = c.maxLocals) (hd : decode c.code pc = .ok (.invokevirtual index, 3)) (hn : pc + 3 = n) (hf : 1 ≤ R.frames) (hW : (rest.map fun v => v.category).sum ≤ W) (hl : W + (nativeFrameWords "java/lang/Object" "getClass" 1 + 11) ≤ R.locals) (K : ∀ T', Stand p l e R s m args below meth c T' locs cells slots → T'.heap = h → Ends p.tables e below Q F (T'.setTop (mkF m n Ls (.ref mr :: rest)))) : Ends p.tables e below Q F (T.setTop (mkF m pc Ls (.ref a :: rest))) := by
  subst hn
  obtain ⟨cB, kB, i1, i2, i3⟩ := isOf hZ eT Ex
  obtain ⟨cc, kc, m1, m2, m3⟩ := M
  rw [hZ.alike.findClass] at i1
  cases i1.symm.trans m1
  obtain ⟨k', q, ek⟩ := hZ.alike.2.2 _ _ m2
  obtain ⟨vm', X', st1⟩ := X.getClassOf hx hown (mvT hZ w1) (mvT hZ w2) (nf_top (args := #[]) (mvT hZ w3)) (mvT hZ w4) (mvT hZ w5) (mvT hZ w6) (by rw [hZ.alike.findClass]; exact m1) i3 q (by rw [ek]; exact m3) (g := mkF m pc Ls (.ref a :: rest)) rfl hsz rfl hd hf (by show 2 * 0 + (rest.map fun v => v.category).sum + _ ≤ _; omega)
  exact (K _ X' eT).step st1
theorem mir_ev {CC : String} {mr : Addr} {as : Array Value} (hZ : Z.Warmed39 s.vm) (M : Mi Z CC mr) : (Term.mirror CC).eval as s none [] s = some (.ref mr) := by
  obtain ⟨cc, kc, m1, m2, m3⟩ := M
  obtain ⟨k', q, ek⟩ := hZ.alike.2.2 _ _ m2
  have f1 : s.vm.findClass CC = some cc := by rw [hZ.alike.findClass]; exact m1
  have f3 : k'.mirror = some mr := by rw [ek]; exact m3
  simp [Term.eval, f1, q, f3]
theorem ldcCls (n : Nat) (X : Stand p l e R s m args below meth c T locs cells slots) (hx : p.tables.exec = Jvm.exec) (hZ : Z.Warmed39 s.vm) {own CC : String} {index : Nat} (hown : s.vm.findClass own = some m.cls) (w : (Cond.classLink own index CC).before a0 Z = true) {mr : Addr} (M : Mi Z CC mr) (eT : T.heap = h) (hd : decode c.code pc = .ok (.ldc index, 2)) (hn : pc + 2 = n) (K : ∀ T', Stand p l e R s m args below meth c T' locs cells slots → T'.heap = h → Ends p.tables e below Q F (T'.setTop (mkF m n Ls (.ref mr :: st)))) : Ends p.tables e below Q F (T.setTop (mkF m pc Ls (st))) := by
  subst hn
  obtain ⟨vm1, X1, st1⟩ := X.ldcMirror hx hown (mvT hZ w) (mir_ev hZ M) (g := mkF m pc Ls st) rfl hd
  exact (K _ X1 eT).step st1
theorem newRefArrE (n cap : Nat) (X : Stand p l e R s m args below meth c T locs cells slots) (hx : p.tables.exec = Jvm.exec) (hZ : Z.Warmed39 s.vm) {own CC : String} {index : Nat} (hown : s.vm.findClass own = some m.cls) (w1 : (Cond.classLink own index CC).before a0 Z = true) (w2 : (Cond.arrayOver (.object CC)).before a0 Z = true) (eT : T.heap = h) {z : Int32} {rest : List Value} (hz : ¬ z < 0) (hcap : z.toNatClampNeg ≤ cap) (hb : cap * 8 ≤ 536870912) {ad : String} (had : "[" ++ (FieldType.object CC).toString = ad) (hd : decode c.code pc = .ok (.anewarray index, 3)) (hn : pc + 3 = n) (hc : cells + 1 ≤ R.cells) (hl : slots + cap ≤ R.slots) (K : ∀ T' h' a k, a = h.size → Stand p l e R s m args below meth c T' locs (cells + 1) (slots + cap) → T'.heap = h' → Ext h h' → Arv Z h' a k (.object CC) z (List.replicate z.toNatClampNeg .null) .null → Ovr Z k CC → Exa Z h' a ad → Ends p.tables e below Q F (T'.setTop (mkF m n Ls (.ref a :: rest)))) : Ends p.tables e below Q F (T.setTop (mkF m pc Ls (.int z :: rest))) := by
  subst hn
  obtain ⟨T1, h1, k1, X1, e1, E1, A1, Ex1, O1, st1⟩ := newRE X hx hZ hown w1 w2 eT (g := mkF m pc Ls (.int z :: rest)) rfl hd rfl hz (cap := cap) hcap hb hc hl had
  exact (K T1 h1 _ k1 rfl X1 e1 E1 ((Arv.new A1 hz).pad (pad_rep [] _ _)) O1 Ex1).step st1
theorem mvM {own host : String} {index : Nat} {y : MethodName} (hZ : Z.Warmed39 s.vm) (w : (Cond.methodLinkNest own index y host).before a0 Z = true) : (Cond.methodLinkNest own index y host).before args s = true := (Cond.methodLinkNest_wide hZ w :)
theorem callInitN (n W : Nat) (a : Addr) (argsL rest : List Value) (X : Stand p l e R s m args below meth c T locs cells slots) (hx : p.tables.exec = Jvm.exec) (hZ : Z.Warmed39 s.vm) {own host : String} {index : Nat} {y : MethodName} {bytes : ByteArray} {maxL : Nat} {rm : Room} {QQ : Option Value → Heap → List Loc → Prop} (hown : s.vm.findClass own = some m.cls) (hM : Met l Z y bytes maxL none [] rm (.ref a :: argsL).toArray h QQ) (hy1 : y.name = "<init>") (wl : (Cond.methodLinkNest own index y host).before args s = true) (ws : (Cond.instanceMethod y).before a0 Z = true) (wi : (Cond.initialized y.cls).before a0 Z = true) (wc : (Cond.code y bytes maxL none).before a0 Z = true) (hy : y.cls ≠ "java/lang/invoke/MethodHandle" ∧ y.cls ≠ "java/lang/invoke/VarHandle") (eT : T.heap = h) (hfr : rm.frames + 1 ≤ R.frames) (hlc : W + (maxL + 11) + rm.locals ≤ R.locals) (hc : cells + rm.cells ≤ R.cells) (hs : slots + rm.slots ≤ R.slots) (hsz : Ls.size = c.maxLocals) (hlen : ∀ sig, parseMethodDescriptor y.desc = some sig → argsL.length = sig.parameters.length) (hst : st = argsL.reverse ++ .ref a :: rest) (hW : (rest.map fun v => v.category).sum ≤ W) (hd : decode c.code pc = .ok (.invokespecial index, 3)) (hn : pc + 3 = n) (K : ∀ v T' L', Stand p l e R s m args below meth c T' (locs ++ L') (cells + rm.cells) (slots + rm.slots) → QQ v T'.heap L' → Ends p.tables e below Q F (T'.setTop (mkF m n Ls (v.toList ++ rest)))) : Ends p.tables e below Q F (T.setTop (mkF m pc Ls (st))) := by
  subst hn
  obtain ⟨v, vm1, ⟨T1, L1, k1, n1⟩, -, X1, ⟨Lc, hQ, l1, y1, z1⟩, st1⟩ := X.specialBackNest hx (y := y) hy1 hown wl (mvT hZ ws) (mvT hZ wc) hy (backOf (W := W) hM hZ wc wi hfr hlc) (g := mkF m pc Ls st) rfl hsz (Steps.refl _) (a := a) (argsL := argsL) (rest := rest) hlen hst (by show 2 * 0 + _ ≤ _; omega) hd (fun _ _ => ⟨rfl, eT, hc, hs⟩)
  dsimp only [Pt.U, Pt.locs, Pt.cells, Pt.slots] at X1 l1 y1 z1 st1 hQ
  subst l1 y1 z1
  exact (K v T1 Lc X1 hQ).step fun t k => st1.trans k
theorem putFldN (n : Nat) (v2 : Value) (X : Stand p l e R s m args below meth c T locs cells slots) (hx : p.tables.exec = Jvm.exec) (hZ : Z.Warmed39 s.vm) {own R0 O nm d CC : String} {index kk : Nat} {ty : FieldType} (hown : s.vm.findClass own = some m.cls) (w : (Cond.fieldLink own index R0 nm d).before a0 Z = true) (via : Via Z R0 O nm d) (eT : T.heap = h) {a : Addr} {v old : Value} (Fd : Fld Z h a O nm d old) (E : Exa Z h a CC) (L : (Cond.lays CC O nm d).before a0 Z = true ∨ ((Cond.laysFinal CC O nm d).before a0 Z = true ∧ own = O ∧ meth.name = "<init>")) (wi : (Cond.instantiable CC kk).before a0 Z = true) (hty : parseFieldDescriptor d = some ty) (hnw : narrow ty v = v2) (hf : fits ty v2 = true) {rest : List Value} (hd : decode c.code pc = .ok (.putfield index, 3)) (hn : pc + 3 = n) (K : ∀ T' h', Stand p l e R s m args below meth c T' (locs ++ [⟨a, Jvm.RoadKit.slotOf Z O nm d⟩]) cells slots → T'.heap = h' → Wr h h' a (Jvm.RoadKit.slotOf Z O nm d) v2 → Ends p.tables e below Q F (T'.setTop (mkF m n Ls (rest)))) : Ends p.tables e below Q F (T.setTop (mkF m pc Ls (v :: .ref a :: rest))) := by
  subst hn
  obtain ⟨T1, h1, X1, e1, W1, st1⟩ := putFN X hx hZ hown w via eT Fd E L wi hty hnw hf (g := mkF m pc Ls (v :: .ref a :: rest)) rfl rfl hd
  exact (K T1 h1 X1 e1 W1).step st1
theorem len0 {ty : FieldType} {a : Addr} {cl : Cell} {t : Term} {as : Array Value} (ev : t.eval as Z none [] Z = some (.ref a)) (wl : (Cond.eq (.length t) (.int (0 : Int32))).value as Z none Z [] = some true) (A : Arr Z Z.heap a cl ty) : cl.slots.size = 0 := by
  have hev := Own.eqI_v (s := Z) wl
  obtain ⟨b, c2, e2, a2, lt, r⟩ := Jvm.Lib.length_spec hev
  cases ev.symm.trans e2
  cases (IntBox.arrayAt_of A.1 A.2.1 A.2.2).symm.trans a2
  have q : (0 : Int32) = cl.slots.size.toInt32 := by injection r
  have q2 := congrArg Int32.toInt q
  rw [show (0 : Int32).toInt = 0 from by decide] at q2
  have q3 : (cl.slots.size.toInt32).toInt = (cl.slots.size : Int) := by
    rw [Nat.toInt32, Int32.toInt_ofNat_of_lt lt]
  omega
theorem arv0 {ty : FieldType} {a : Addr} {dv : Value} {t : Term} {as : Array Value} (ev : t.eval as Z none [] Z = some (.ref a)) (wa : (Cond.arrayOf t ty).value as Z none Z [] = some true) (wl : (Cond.eq (.length t) (.int (0 : Int32))).value as Z none Z [] = some true) : ∃ k, Arv Z Z.heap a k ty (0 : Int32) [] dv := by
  obtain ⟨cl, A⟩ := Arr.start ev wa
  have q1 := len0 ev wl A
  exact ⟨_, cl, A, rfl, by rw [q1]; rfl, by decide, fun i hi => absurd hi (by omega), fun i hi => absurd hi (by omega)⟩
end Walk2
end Jvm.Own
/- laws to paste: Road.backV (cut by pick.py; bodies as the Statement names them) -/
namespace Jvm.Pilot.@@N@@
namespace StrChars
open Jvm Sem ClassFile Op Lib Jvm.Stand Jvm.Free.XT Jvm.Free.ALB Jvm.Free.JM Jvm.Free
open Jvm.Lib.Cold (StaticIs)
/-- a char array whose places are chars -/
def Ch (a : Addr) (A : Cell) (U : State) : Prop := Arr .char a A U ∧ Typed .char A
theorem Ch.mv {a : Addr} {A : Cell} {U U' : State} (h : Ch a A U) (hal : U.vm.Alike U'.vm) (hh : U'.heap = U.heap) : Ch a A U' := ⟨h.1.mv hal hh, h.2⟩
theorem Ch.keep {a : Addr} {A : Cell} {U U' : State} (h : Ch a A U) (hal : U.vm.Alike U'.vm) (hk : U'.heap[a]? = some A) : Ch a A U' := ⟨h.1.keep hal hk, h.2⟩
/-- what place i of a char[]'s cell holds -/
def cv (A : Cell) (i : Nat) : Int32 := match A.slots[i]? with | some (.int x) => x | _ => 0
theorem Ch.get {a : Addr} {A : Cell} {U : State} (h : Ch a A U) {i : Nat} (hi : i < A.slots.size) : A.slots[i]? = some (.int (cv A i)) := by
  have e := Array.getElem?_eq_getElem hi
  have f := h.2 i _ e
  unfold cv; rw [e]
  generalize A.slots[i] = v at f
  cases v <;> simp [fits] at f ⊢
/-- the byte that i2b leaves of a char -/
def lo8 (x : Int32) : Int32 := x.toInt8.toInt32
theorem fits_lo8 (y : Int32) : fits .byte (.int (lo8 y)) = true := by
  have h1 := y.toInt8.le_toInt
  have h2 := y.toInt8.toInt_lt
  simp only [lo8, fits, Bool.and_eq_true, decide_eq_true_eq, Int32.le_iff_toInt_le, Int8.toInt_toInt32, show (-128 : Int32).toInt = -128 from by decide, show (127 : Int32).toInt = 127 from by decide]
  omega
/-- A' is A but that each place j of lo .. hi - 1 holds f j -/
def Laid (A A' : Cell) (lo hi : Nat) (f : Nat → Value) : Prop := A'.cls = A.cls ∧ A'.vm = A.vm ∧ A'.slots.size = A.slots.size ∧ ∀ i, A'.slots[i]? = if lo ≤ i ∧ i < hi then some (f i) else A.slots[i]?
theorem Laid.zero (A : Cell) (lo : Nat) (f : Nat → Value) : Laid A A lo (lo + 0) f := ⟨rfl, rfl, rfl, fun i => by rw [if_neg (by omega)]⟩
theorem Laid.step {A Ak : Cell} {lo k : Nat} {f : Nat → Value} {v : Value} (h : Laid A Ak lo k f) (hlo : lo ≤ k) (hk : k < Ak.slots.size) (hv : v = f k) : Laid A (Ak.setSlot k v) lo (k + 1) f := by
  refine ⟨h.1, h.2.1, by simpa [Cell.setSlot] using h.2.2.1, fun i => ?_⟩
  by_cases e : k = i
  · subst e; rw [Cell.slots_setSlot_self v hk, if_pos (by omega), hv]
  · rw [Cell.slots_setSlot_ne v e, h.2.2.2 i]
    by_cases q : lo ≤ i ∧ i < k
    · rw [if_pos q, if_pos (by omega)]
    · rw [if_neg q, if_neg (by omega)]
def U16 : String := "java/lang/StringUTF16"
namespace Cmp5
def yN : MethodName := ⟨"java/lang/StringUTF16", "compress", "([CI[BII)I"⟩
abbrev yB : ByteArray := jdk_52_method_21_code
theorem d0 : decode yB 0 = .ok (.iconst 0, 1) := by decide +kernel
theorem d1 : decode yB 1 = .ok (.istore 5, 2) := by decide +kernel
theorem d3 : decode yB 3 = .ok (.iload 5, 2) := by decide +kernel
theorem d5 : decode yB 5 = .ok (.iload 4, 2) := by decide +kernel
theorem d7 : decode yB 7 = .ok (.if_icmp (.ge) 37, 3) := by decide +kernel
theorem d10 : decode yB 10 = .ok (.aload_n 0, 1) := by decide +kernel
theorem d11 : decode yB 11 = .ok (.iload_n 1, 1) := by decide +kernel
theorem d12 : decode yB 12 = .ok (.caload, 1) := by decide +kernel
theorem d13 : decode yB 13 = .ok (.istore 6, 2) := by decide +kernel
theorem d15 : decode yB 15 = .ok (.iload 6, 2) := by decide +kernel
theorem d17 : decode yB 17 = .ok (.sipush 255, 3) := by decide +kernel
theorem d20 : decode yB 20 = .ok (.if_icmp (.le) 6, 3) := by decide +kernel
theorem d26 : decode yB 26 = .ok (.aload_n 2, 1) := by decide +kernel
theorem d27 : decode yB 27 = .ok (.iload_n 3, 1) := by decide +kernel
theorem d28 : decode yB 28 = .ok (.iload 6, 2) := by decide +kernel
theorem d30 : decode yB 30 = .ok (.i2b, 1) := by decide +kernel
theorem d31 : decode yB 31 = .ok (.bastore, 1) := by decide +kernel
theorem d32 : decode yB 32 = .ok (.iinc 1 1, 3) := by decide +kernel
theorem d35 : decode yB 35 = .ok (.iinc 3 1, 3) := by decide +kernel
theorem d38 : decode yB 38 = .ok (.iinc 5 1, 3) := by decide +kernel
theorem d41 : decode yB 41 = .ok (.goto (-38), 3) := by decide +kernel
theorem d44 : decode yB 44 = .ok (.iload 4, 2) := by decide +kernel
theorem d46 : decode yB 46 = .ok (.ireturn, 1) := by decide +kernel
def site : List Cond := []
def tab : Cond := tabOf yN yB 7 (some .int) site
def P (b : Addr) (A : Cell) (d : Addr) (B : Cell) (o q len : Nat) (args : Array Value) (s : State) : Prop := args = #[.ref b, .int (Int32.ofNat o), .ref d, .int (Int32.ofNat q), .int (Int32.ofNat len)] ∧ Ch b A s ∧ Arr .byte d B s ∧ b ≠ d ∧ o + len ≤ A.slots.size ∧ q + len ≤ B.slots.size ∧ ∀ i, i < len → ¬ 255 < cv A (o + i)
def E (b : Addr) (A : Cell) (d : Addr) (B : Cell) (o q len : Nat) (r : Option Value) (s u : State) : Prop := r = some (.int (Int32.ofNat len)) ∧ ∃ B', Put d B' s u ∧ Laid B B' q (q + len) (fun j => Value.int (lo8 (cv A (o + (j - q)))))
/-- no char of the range above 255: len; the places written hold each char's low byte -/
theorem law (l : Launch) (b : Addr) (A : Cell) (d : Addr) (B : Cell) (o q len : Nat) : Law l yN 5 5 0 0 yB 7 (some .int) site (P b A d B o q len) (E b A d B o q len) (copyLocs d q len) 0 0 := by
  refine Law.of_walk (plainFor_of_name (by decide +kernel)) (by decide +kernel) (by decide +kernel) (by decide) (fun _ _ h => by rw [h.1]; rfl) (fun _ U U' hal hh h => ⟨h.1, h.2.1.mv hal hh, h.2.2.1.mv hal hh, h.2.2.2⟩) (fun r U U' V V' h1 hal h2 h => ⟨h.1, h.2.elim fun B' q => ⟨B', q.1.mv h1 h2, q.2⟩⟩) ?_
  intro p e s m args below meth c s₁ X0 hexec hbytes hml hret hlk hnm hown hh0 W hP
  obtain ⟨rfl, hA, hB, hne, l1, l2, hp⟩ := hP
  have c1 : Steps p.tables e below (s₁.setTop (entryFrame m #[.ref b, .int (Int32.ofNat o), .ref d, .int (Int32.ofNat q), .int (Int32.ofNat len)] 7)) (s₁.setTop (mkF m 0 #[.val (.ref b), .val (.int (Int32.ofNat o)), .val (.ref d), .val (.int (Int32.ofNat q)), .val (.int (Int32.ofNat len)), .unset, .unset] [])) := entry rfl
  have hA0 := hA.1.mv X0.warmed.alike hh0
  have hB0 := hB.mv X0.warmed.alike hh0
  have a31 := hA.1.2.2.2
  have c2 : Steps p.tables e below (s₁.setTop (entryFrame m #[.ref b, .int (Int32.ofNat o), .ref d, .int (Int32.ofNat q), .int (Int32.ofNat len)] 7)) (s₁.setTop (mkF m 3 #[.val (.ref b), .val (.int (Int32.ofNat o)), .val (.ref d), .val (.int (Int32.ofNat q)), .val (.int (Int32.ofNat len)), .val (.int 0), .unset] [])) := c1.trans (by
    refine iconstV X0.here hexec rfl 0 (hb hbytes d0) (by decide) ?_
    refine XS.istore X0.here hexec rfl (hb hbytes d1) rfl rfl ?_
    exact Steps.refl _)
  have loop : ∀ (r i : Nat), i + r = len → ∀ (z : Slot), (z = .unset ∨ ∃ w, z = .val w ∧ w.category = 1) → ∀ (Tl : State) (Bk : Cell), Stand p l e { frames := 0, locals := 0, cells := 0, slots := 0 } s m #[.ref b, .int (Int32.ofNat o), .ref d, .int (Int32.ofNat q), .int (Int32.ofNat len)] below meth c Tl ([] ++ copyLocs d q i) 0 0 → Put d Bk s₁ Tl → Laid B Bk q (q + i) (fun j => Value.int (lo8 (cv A (o + (j - q))))) →
      Steps p.tables e below (s₁.setTop (entryFrame m #[.ref b, .int (Int32.ofNat o), .ref d, .int (Int32.ofNat q), .int (Int32.ofNat len)] 7)) (Tl.setTop (mkF m 3 #[.val (.ref b), .val (.int (Int32.ofNat (o + i))), .val (.ref d), .val (.int (Int32.ofNat (q + i))), .val (.int (Int32.ofNat len)), .val (.int (Int32.ofNat i)), z] [])) → ∃ (T' : State) (B' : Cell) (z' : Slot), Stand p l e { frames := 0, locals := 0, cells := 0, slots := 0 } s m #[.ref b, .int (Int32.ofNat o), .ref d, .int (Int32.ofNat q), .int (Int32.ofNat len)] below meth c T' ([] ++ copyLocs d q len) 0 0 ∧ Put d B' s₁ T' ∧ Laid B B' q (q + len) (fun j => Value.int (lo8 (cv A (o + (j - q))))) ∧
      Steps p.tables e below (s₁.setTop (entryFrame m #[.ref b, .int (Int32.ofNat o), .ref d, .int (Int32.ofNat q), .int (Int32.ofNat len)] 7)) (T'.setTop (mkF m 3 #[.val (.ref b), .val (.int (Int32.ofNat (o + len))), .val (.ref d), .val (.int (Int32.ofNat (q + len))), .val (.int (Int32.ofNat len)), .val (.int (Int32.ofNat len)), z'] [])) := by
    intro r
    induction r with
    | zero =>
      intro i hi z hz Tl Bk Xl pl fl cl
      have hil : i = len := by omega
      rw [hil] at Xl fl cl
      exact ⟨Tl, Bk, z, Xl, pl, fl, cl⟩
    | succ r ih =>
      intro i hi z hz Tl Bk Xl pl fl cl
      have all := X0.warmed.alike.symm.trans Xl.warmed.alike
      have hAl := hA0.keep all (pl.other hne hA0.1)
      have hBk := hB0.like all pl.1 fl.1 fl.2.1 fl.2.2.1
      have hlt : q + i < Bk.slots.size := by rw [fl.2.2.1]; omega
      have c3 : Steps p.tables e below (s₁.setTop (entryFrame m #[.ref b, .int (Int32.ofNat o), .ref d, .int (Int32.ofNat q), .int (Int32.ofNat len)] 7)) (Tl.setTop (mkF m 12 #[.val (.ref b), .val (.int (Int32.ofNat (o + i))), .val (.ref d), .val (.int (Int32.ofNat (q + i))), .val (.int (Int32.ofNat len)), .val (.int (Int32.ofNat i)), z] [.int (Int32.ofNat (o + i)), .ref b])) := cl.trans (by
        refine XS.iload Xl.here hexec rfl (hb hbytes d3) rfl ?_
        refine XS.iload Xl.here hexec rfl (hb hbytes d5) rfl ?_
        refine XS.icmpNo Xl.here hexec rfl (hb hbytes d7) rfl (ii_ge_f (lt32 (by omega) (by omega))) ?_
        refine XS.aloadN Xl.here hexec rfl (hb hbytes d10) rfl rfl ?_
        refine XS.iloadN Xl.here hexec rfl (hb hbytes d11) rfl ?_
        exact Steps.refl _)
      have c4 : Steps p.tables e below (s₁.setTop (entryFrame m #[.ref b, .int (Int32.ofNat o), .ref d, .int (Int32.ofNat q), .int (Int32.ofNat len)] 7)) (Tl.setTop (mkF m 13 #[.val (.ref b), .val (.int (Int32.ofNat (o + i))), .val (.ref d), .val (.int (Int32.ofNat (q + i))), .val (.int (Int32.ofNat len)), .val (.int (Int32.ofNat i)), z] [.int (cv A (o + i))])) := c3.trans (by
        refine Xl.aget hexec hAl rfl (hA.get (i := o + i) (by omega)) rfl rfl (hb hbytes d12) ?_
        exact Steps.refl _)
      have c5 : Steps p.tables e below (s₁.setTop (entryFrame m #[.ref b, .int (Int32.ofNat o), .ref d, .int (Int32.ofNat q), .int (Int32.ofNat len)] 7)) (Tl.setTop (mkF m 15 #[.val (.ref b), .val (.int (Int32.ofNat (o + i))), .val (.ref d), .val (.int (Int32.ofNat (q + i))), .val (.int (Int32.ofNat len)), .val (.int (Int32.ofNat i)), .val (.int (cv A (o + i)))] [])) := c4.trans (by
        refine XS.istoreS Xl.here hexec rfl (hb hbytes d13) rfl rfl hz ?_
        exact Steps.refl _)
      have c6 : Steps p.tables e below (s₁.setTop (entryFrame m #[.ref b, .int (Int32.ofNat o), .ref d, .int (Int32.ofNat q), .int (Int32.ofNat len)] 7)) (Tl.setTop (mkF m 31 #[.val (.ref b), .val (.int (Int32.ofNat (o + i))), .val (.ref d), .val (.int (Int32.ofNat (q + i))), .val (.int (Int32.ofNat len)), .val (.int (Int32.ofNat i)), .val (.int (cv A (o + i)))] [.int (lo8 (cv A (o + i))), .int (Int32.ofNat (q + i)), .ref d])) := c5.trans (by
        refine XS.iload Xl.here hexec rfl (hb hbytes d15) rfl ?_
        refine sipushV Xl.here hexec rfl 255 (hb hbytes d17) (by decide) ?_
        refine XS.icmpYes Xl.here hexec rfl (pc0 := 20) rfl (hb hbytes d20) rfl (ii_le_t (hp i (by omega))) (by decide) rfl ?_
        refine XS.aloadN Xl.here hexec rfl (hb hbytes d26) rfl rfl ?_
        refine XS.iloadN Xl.here hexec rfl (hb hbytes d27) rfl ?_
        refine XS.iload Xl.here hexec rfl (hb hbytes d28) rfl ?_
        refine i2b Xl.here hexec rfl (hb hbytes d30) rfl ?_
        exact Steps.refl _)
      obtain ⟨T7, X7, p7, st7⟩ := Xl.aput hexec hBk rfl hlt rfl (fits_lo8 (cv A (o + i))) (g := (mkF m 31 #[.val (.ref b), .val (.int (Int32.ofNat (o + i))), .val (.ref d), .val (.int (Int32.ofNat (q + i))), .val (.int (Int32.ofNat len)), .val (.int (Int32.ofNat i)), .val (.int (cv A (o + i)))] [.int (lo8 (cv A (o + i))), .int (Int32.ofNat (q + i)), .ref d])) rfl (rest := []) rfl (hb hbytes d31)
      have c8 : Steps p.tables e below (s₁.setTop (entryFrame m #[.ref b, .int (Int32.ofNat o), .ref d, .int (Int32.ofNat q), .int (Int32.ofNat len)] 7)) (T7.setTop (mkF m 32 #[.val (.ref b), .val (.int (Int32.ofNat (o + i))), .val (.ref d), .val (.int (Int32.ofNat (q + i))), .val (.int (Int32.ofNat len)), .val (.int (Int32.ofNat i)), .val (.int (cv A (o + i)))] [])) := c6.trans (st7 _ (Steps.refl _))
      have c9 : Steps p.tables e below (s₁.setTop (entryFrame m #[.ref b, .int (Int32.ofNat o), .ref d, .int (Int32.ofNat q), .int (Int32.ofNat len)] 7)) (T7.setTop (mkF m 3 #[.val (.ref b), .val (.int (Int32.ofNat (o + i) + 1)), .val (.ref d), .val (.int (Int32.ofNat (q + i) + 1)), .val (.int (Int32.ofNat len)), .val (.int (Int32.ofNat i + 1)), .val (.int (cv A (o + i)))] [])) := c8.trans (by
        refine iincV X7.here hexec rfl 1 (hb hbytes d32) (by decide) rfl rfl ?_
        refine iincV X7.here hexec rfl 1 (hb hbytes d35) (by decide) rfl rfl ?_
        refine iincV X7.here hexec rfl 1 (hb hbytes d38) (by decide) rfl rfl ?_
        refine XS.goto X7.here hexec rfl (pc0 := 41) rfl (hb hbytes d41) (by decide) rfl ?_
        exact Steps.refl _)
      have c10 : Steps p.tables e below (s₁.setTop (entryFrame m #[.ref b, .int (Int32.ofNat o), .ref d, .int (Int32.ofNat q), .int (Int32.ofNat len)] 7)) (T7.setTop (mkF m 3 #[.val (.ref b), .val (.int (Int32.ofNat (o + (i + 1)))), .val (.ref d), .val (.int (Int32.ofNat (q + (i + 1)))), .val (.int (Int32.ofNat len)), .val (.int (Int32.ofNat (i + 1))), .val (.int (cv A (o + i)))] [])) := by
        have := c9
        rw [succ32, succ32, succ32] at this
        exact this
      exact ih (i + 1) (by omega) _ (Or.inr ⟨_, rfl, rfl⟩) T7 _ (by rw [copyLocs_step, ← List.append_assoc]; exact X7) (pl.trans p7) (fl.step (by omega) hlt (by simp)) c10
  obtain ⟨T9, B9, z9, X9, p9, f9, g9⟩ := loop len 0 (by omega) .unset (Or.inl rfl) s₁ B (by simpa [copyLocs] using X0) ⟨hB0.1, fun _ _ => rfl, rfl⟩ (Laid.zero _ _ _) c2
  have c11 : Steps p.tables e below (s₁.setTop (entryFrame m #[.ref b, .int (Int32.ofNat o), .ref d, .int (Int32.ofNat q), .int (Int32.ofNat len)] 7)) (T9.setTop (mkF m 46 #[.val (.ref b), .val (.int (Int32.ofNat (o + len))), .val (.ref d), .val (.int (Int32.ofNat (q + len))), .val (.int (Int32.ofNat len)), .val (.int (Int32.ofNat len)), z9] [.int (Int32.ofNat len)])) := g9.trans (by
    refine XS.iload X9.here hexec rfl (hb hbytes d3) rfl ?_
    refine XS.iload X9.here hexec rfl (hb hbytes d5) rfl ?_
    refine XS.icmpYes X9.here hexec rfl (pc0 := 7) rfl (hb hbytes d7) rfl (ii_ge_t (nlt32 (by omega) (Nat.le_refl _))) (by decide) rfl ?_
    refine XS.iload X9.here hexec rfl (hb hbytes d44) rfl ?_
    exact Steps.refl _)
  exact ⟨T9, some (.int (Int32.ofNat len)), _, _, _, X9, by simp, rfl, rfl, (fun h => by cases h), ⟨rfl, B9, p9.from hh0, f9⟩, fun fs hl => c11.trans (X9.ireturnOut hexec hret rfl (Or.inl rfl) (hb hbytes d46) hl)⟩
end Cmp5
namespace Cmp3
def yN : MethodName := ⟨"java/lang/StringUTF16", "compress", "([CII)[B"⟩
abbrev yB : ByteArray := jdk_52_method_16_code
theorem d0 : decode yB 0 = .ok (.iload_n 2, 1) := by decide +kernel
theorem d1 : decode yB 1 = .ok (.newarray .byte, 2) := by decide +kernel
theorem d3 : decode yB 3 = .ok (.astore_n 3, 1) := by decide +kernel
theorem d4 : decode yB 4 = .ok (.aload_n 0, 1) := by decide +kernel
theorem d5 : decode yB 5 = .ok (.iload_n 1, 1) := by decide +kernel
theorem d6 : decode yB 6 = .ok (.aload_n 3, 1) := by decide +kernel
theorem d7 : decode yB 7 = .ok (.iconst 0, 1) := by decide +kernel
theorem d8 : decode yB 8 = .ok (.iload_n 2, 1) := by decide +kernel
theorem d9 : decode yB 9 = .ok (.invokestatic 115, 3) := by decide +kernel
theorem d12 : decode yB 12 = .ok (.istore 4, 2) := by decide +kernel
theorem d14 : decode yB 14 = .ok (.iload 4, 2) := by decide +kernel
theorem d16 : decode yB 16 = .ok (.iload_n 2, 1) := by decide +kernel
theorem d17 : decode yB 17 = .ok (.if_icmp (.eq) 40, 3) := by decide +kernel
theorem d57 : decode yB 57 = .ok (.aload_n 3, 1) := by decide +kernel
theorem d58 : decode yB 58 = .ok (.areturn, 1) := by decide +kernel
def site : List Cond := [.arrayClass .byte, Cmp5.tab] ++ staticW U16 115 Cmp5.yN
def tab : Cond := tabOf yN yB 6 (some (.array .byte)) site
def P (b : Addr) (A : Cell) (o len : Nat) (args : Array Value) (s : State) : Prop := args = #[.ref b, .int (Int32.ofNat o), .int (Int32.ofNat len)] ∧ Ch b A s ∧ o + len ≤ A.slots.size ∧ len ≤ 536870912 ∧ ∀ i, i < len → ¬ 255 < cv A (o + i)
def E (b : Addr) (A : Cell) (o len : Nat) (r : Option Value) (s u : State) : Prop := NewArr .byte "[B" len (fun j => .int (lo8 (cv A (o + j)))) r s u ∧ u.heap.size = s.heap.size + 1
/-- no char of the range above 255: a new byte[] of their low bytes -/
theorem law (l : Launch) (b : Addr) (A : Cell) (o len : Nat) : Law l yN 3 3 1 18 yB 6 (some (.array .byte)) site (P b A o len) (E b A o len) [] 1 len := by
  refine Law.of_walk (plainFor_of_name (by decide +kernel)) (by decide +kernel) (by decide +kernel) (by decide) (fun _ _ h => by rw [h.1]; rfl) (fun _ U U' hal hh h => ⟨h.1, h.2.1.mv hal hh, h.2.2⟩) (fun r U U' V V' h1 hal h2 h => ⟨NewArr.mv r U U' V V' h1 hal h2 h.1, by rw [h1, h2]; exact h.2⟩) ?_
  intro p e s m args below meth c s₁ X0 hexec hbytes hml hret hlk hnm hown hh0 W hP
  obtain ⟨rfl, hA, l1, l2, hp⟩ := hP
  have a31 := hA.1.2.2.2
  have c1 : Steps p.tables e below (s₁.setTop (entryFrame m #[.ref b, .int (Int32.ofNat o), .int (Int32.ofNat len)] 6)) (s₁.setTop (mkF m 0 #[.val (.ref b), .val (.int (Int32.ofNat o)), .val (.int (Int32.ofNat len)), .unset, .unset, .unset] [])) := entry rfl
  have c2 : Steps p.tables e below (s₁.setTop (entryFrame m #[.ref b, .int (Int32.ofNat o), .int (Int32.ofNat len)] 6)) (s₁.setTop (mkF m 1 #[.val (.ref b), .val (.int (Int32.ofNat o)), .val (.int (Int32.ofNat len)), .unset, .unset, .unset] [.int (Int32.ofNat len)])) := c1.trans (by
    refine XS.iloadN X0.here hexec rfl (hb hbytes d0) rfl ?_
    exact Steps.refl _)
  obtain ⟨T3, B3, X3, ba3, bs3, bv3, bh3, bf3, st3⟩ := X0.anew hexec (atype := .byte) (wk W (.arrayClass .byte)) rfl (by show len * 1 ≤ _; omega) (by omega) (g := (mkF m 1 #[.val (.ref b), .val (.int (Int32.ofNat o)), .val (.int (Int32.ofNat len)), .unset, .unset, .unset] [.int (Int32.ofNat len)])) rfl (hb hbytes d1) (rest := []) rfl (Nat.le_refl _) (by show 0 + len ≤ len; omega)
  rw [hh0] at ba3 st3
  have kp3 : XT.Kept s T3 := (XT.Kept.of_eq hh0).push bh3
  have hA3 := hA.keep X3.warmed.alike (kp3 _ _ hA.1.1)
  have hne : b ≠ s.heap.size := hA.1.ne
  have c4 : Steps p.tables e below (s₁.setTop (entryFrame m #[.ref b, .int (Int32.ofNat o), .int (Int32.ofNat len)] 6)) (T3.setTop (mkF m 3 #[.val (.ref b), .val (.int (Int32.ofNat o)), .val (.int (Int32.ofNat len)), .unset, .unset, .unset] [.ref s.heap.size])) := c2.trans (st3 _ (Steps.refl _))
  have c5 : Steps p.tables e below (s₁.setTop (entryFrame m #[.ref b, .int (Int32.ofNat o), .int (Int32.ofNat len)] 6)) (T3.setTop (mkF m 9 #[.val (.ref b), .val (.int (Int32.ofNat o)), .val (.int (Int32.ofNat len)), .val (.ref s.heap.size), .unset, .unset] [.int (Int32.ofNat len), .int 0, .ref s.heap.size, .int (Int32.ofNat o), .ref b])) := c4.trans (by
    refine XS.astoreN X3.here hexec rfl (hb hbytes d3) rfl rfl rfl ?_
    refine XS.aloadN X3.here hexec rfl (hb hbytes d4) rfl rfl ?_
    refine XS.iloadN X3.here hexec rfl (hb hbytes d5) rfl ?_
    refine XS.aloadN X3.here hexec rfl (hb hbytes d6) rfl rfl ?_
    refine iconstV X3.here hexec rfl 0 (hb hbytes d7) (by decide) ?_
    refine XS.iloadN X3.here hexec rfl (hb hbytes d8) rfl ?_
    exact Steps.refl _)
  obtain ⟨v6, T6, X6, E6, g6⟩ := X3.callS hexec (Cmp5.law l b A s.heap.size B3 o 0 len) hown (wks W (staticW U16 115 Cmp5.yN)) (wk W Cmp5.tab) (W := 0) (Nat.le_of_ble_eq_true rfl) (Nat.le_of_ble_eq_true rfl) (Nat.le_refl _) (by show 0 + len + 0 ≤ len; omega) (g := (mkF m 9 #[.val (.ref b), .val (.int (Int32.ofNat o)), .val (.int (Int32.ofNat len)), .val (.ref s.heap.size), .unset, .unset] [.int (Int32.ofNat len), .int (Int32.ofNat 0), .ref s.heap.size, .int (Int32.ofNat o), .ref b])) rfl (by rw [hml]; rfl) c5 (argsL := [.ref b, .int (Int32.ofNat o), .ref s.heap.size, .int (Int32.ofNat 0), .int (Int32.ofNat len)]) (rest := []) rfl rfl (by show 2 * 0 + 0 ≤ _; decide) (hb hbytes d9) (⟨rfl, hA3, ba3, hne, l1, by rw [bs3]; simp, hp⟩)
  obtain ⟨rfl, B6, p6, f6⟩ := E6
  have c7 : Steps p.tables e below (s₁.setTop (entryFrame m #[.ref b, .int (Int32.ofNat o), .int (Int32.ofNat len)] 6)) (T6.setTop (mkF m 12 #[.val (.ref b), .val (.int (Int32.ofNat o)), .val (.int (Int32.ofNat len)), .val (.ref s.heap.size), .unset, .unset] [.int (Int32.ofNat len)])) := g6
  have c8 : Steps p.tables e below (s₁.setTop (entryFrame m #[.ref b, .int (Int32.ofNat o), .int (Int32.ofNat len)] 6)) (T6.setTop (mkF m 58 #[.val (.ref b), .val (.int (Int32.ofNat o)), .val (.int (Int32.ofNat len)), .val (.ref s.heap.size), .val (.int (Int32.ofNat len)), .unset] [.ref s.heap.size])) := c7.trans (by
    refine XS.istore X6.here hexec rfl (hb hbytes d12) rfl rfl ?_
    refine XS.iload X6.here hexec rfl (hb hbytes d14) rfl ?_
    refine XS.iloadN X6.here hexec rfl (hb hbytes d16) rfl ?_
    refine XS.icmpYes X6.here hexec rfl (pc0 := 17) rfl (hb hbytes d17) rfl (ii_eq_t rfl) (by decide) rfl ?_
    refine XS.aloadN X6.here hexec rfl (hb hbytes d57) rfl rfl ?_
    exact Steps.refl _)
  have X8 := X6.wide (L' := []) (cells' := 1) (slots' := len) (fun x hx hlt => by
    simp only [List.nil_append, copyLocs, List.mem_map, List.mem_range] at hx
    obtain ⟨i, -, rfl⟩ := hx
    exact absurd hlt (Nat.lt_irrefl _)) (Nat.le_refl _) (by omega)
  exact ⟨T6, some (.ref s.heap.size), _, _, _, X8, rfl, rfl, rfl, (fun h => by cases h), ⟨⟨rfl, B6, ba3.like (X3.warmed.alike.symm.trans X6.warmed.alike) p6.1 f6.1 f6.2.1 f6.2.2.1, f6.2.1.trans bv3, by rw [X6.warmed.alike.findClass, f6.1]; exact bf3, by rw [f6.2.2.1, bs3]; simp, fun j hj => by rw [f6.2.2.2 j, if_pos (by omega)]; rfl, kp3.put p6 (Nat.le_refl _)⟩, by rw [p6.2.2, bh3, hh0]; simp⟩, fun fs hl => c8.trans (X8.areturnOut hexec rfl hret rfl (hb hbytes d58) hl)⟩
end Cmp3
namespace CodL
def yN : MethodName := ⟨"java/lang/StringUTF16", "coderFromArrayLen", "([BI)B"⟩
abbrev yB : ByteArray := jdk_52_method_15_code
theorem d0 : decode yB 0 = .ok (.iload_n 1, 1) := by decide +kernel
theorem d1 : decode yB 1 = .ok (.aload_n 0, 1) := by decide +kernel
theorem d2 : decode yB 2 = .ok (.arraylength, 1) := by decide +kernel
theorem d3 : decode yB 3 = .ok (.isub, 1) := by decide +kernel
theorem d4 : decode yB 4 = .ok (.bipush 31, 2) := by decide +kernel
theorem d6 : decode yB 6 = .ok (.iushr, 1) := by decide +kernel
theorem d7 : decode yB 7 = .ok (.i2b, 1) := by decide +kernel
theorem d8 : decode yB 8 = .ok (.ireturn, 1) := by decide +kernel
def site : List Cond := []
def tab : Cond := tabOf yN yB 2 (some .byte) site
def P (d : Addr) (B : Cell) (args : Array Value) (s : State) : Prop := args = #[.ref d, .int (Int32.ofNat B.slots.size)] ∧ Arr .byte d B s
def E (r : Option Value) (s u : State) : Prop := XT.PureE (some (.int 0)) r s u
/-- an array as long as the number of chars: LATIN1 -/
theorem law (l : Launch) (d : Addr) (B : Cell) : Law l yN 2 2 0 0 yB 2 (some .byte) site (P d B) E [] 0 0 := by
  refine Law.of_walk (plainFor_of_name (by decide +kernel)) (by decide +kernel) (by decide +kernel) (by decide) (fun _ _ h => by rw [h.1]; rfl) (fun _ U U' hal hh h => ⟨h.1, h.2.mv hal hh⟩) (fun r U U' V V' h1 hal h2 h => XT.PureE.mv r U U' V V' h1 hal h2 h) ?_
  intro p e s m args below meth c s₁ X0 hexec hbytes hml hret hlk hnm hown hh0 W hP
  obtain ⟨rfl, hB⟩ := hP
  have hB0 := hB.mv X0.warmed.alike hh0
  have c1 : Steps p.tables e below (s₁.setTop (entryFrame m #[.ref d, .int (Int32.ofNat B.slots.size)] 2)) (s₁.setTop (mkF m 0 #[.val (.ref d), .val (.int (Int32.ofNat B.slots.size))] [])) := entry rfl
  have c2 : Steps p.tables e below (s₁.setTop (entryFrame m #[.ref d, .int (Int32.ofNat B.slots.size)] 2)) (s₁.setTop (mkF m 2 #[.val (.ref d), .val (.int (Int32.ofNat B.slots.size))] [.ref d, .int (Int32.ofNat B.slots.size)])) := c1.trans (by
    refine XS.iloadN X0.here hexec rfl (hb hbytes d0) rfl ?_
    refine XS.aloadN X0.here hexec rfl (hb hbytes d1) rfl rfl ?_
    exact Steps.refl _)
  have c3 : Steps p.tables e below (s₁.setTop (entryFrame m #[.ref d, .int (Int32.ofNat B.slots.size)] 2)) (s₁.setTop (mkF m 8 #[.val (.ref d), .val (.int (Int32.ofNat B.slots.size))] [.int (lo8 (ushr (Int32.ofNat B.slots.size - Int32.ofNat B.slots.size) 31))])) := c2.trans (by
    refine X0.alen hexec hB0 rfl rfl (hb hbytes d2) ?_
    refine XS.isub X0.here hexec rfl (hb hbytes d3) rfl ?_
    refine bipushV X0.here hexec rfl 31 (hb hbytes d4) (by decide) ?_
    refine iushr X0.here hexec rfl (hb hbytes d6) rfl ?_
    refine i2b X0.here hexec rfl (hb hbytes d7) rfl ?_
    exact Steps.refl _)
  have e0 : lo8 (ushr (Int32.ofNat B.slots.size - Int32.ofNat B.slots.size) 31) = 0 := by rw [Int32.sub_self]; decide
  rw [e0] at c3
  exact ⟨s₁, some (.int 0), _, _, _, X0, rfl, rfl, rfl, (fun h => by cases h), ⟨rfl, hh0⟩, fun fs hl => c3.trans (X0.ireturnOut hexec hret rfl (Or.inr (Or.inr (Or.inl rfl))) (hb hbytes d8) hl)⟩
end CodL
/-- the String at a is Latin-1 over a new byte[] (the heap's one new cell): the low bytes of the len chars of A from o on; every cell but a is kept -/
def Got (a : Addr) (D : Cell) (fV fC : Field) (A : Cell) (o len : Nat) (r : Option Value) (s u : State) : Prop := r = none ∧ ∃ D' V : Cell, Blank "java/lang/String" a D' u ∧ Same D D' [fV.slot, fC.slot] ∧ D'.slots[fV.slot]? = some (.ref s.heap.size) ∧ D'.slots[fC.slot]? = some (.int 0) ∧ Arr .byte s.heap.size V u ∧ V.vm = .none ∧ u.vm.findClass "[B" = some V.cls ∧ V.slots.size = len ∧ (∀ j, j < len → V.slots[j]? = some (.int (lo8 (cv A (o + j))))) ∧ (∀ (y : Addr) (c : Cell), y ≠ a → s.heap[y]? = some c → u.heap[y]? = some c) ∧ u.heap.size = s.heap.size + 1
theorem Got.mv {a : Addr} {D A : Cell} {fV fC : Field} {o len : Nat} : ∀ r (U U' V V' : State), U'.heap = U.heap → V.vm.Alike V'.vm → V'.heap = V.heap → Got a D fV fC A o len r U V → Got a D fV fC A o len r U' V' :=
  fun r U U' V V' h1 hal h2 ⟨e0, D', X, a1, a2, a3, a4, a5, a6, a7, a8, a9, a10, a11⟩ => ⟨e0, D', X, a1.mv hal h2, a2, by rw [h1]; exact a3, a4, by rw [h1]; exact a5.mv hal h2, a6, by rw [hal.findClass]; exact a7, a8, a9, by rw [h1, h2]; exact a10, by rw [h1, h2]; exact a11⟩
namespace New4
def yN : MethodName := ⟨"java/lang/String", "<init>", "([CIILjava/lang/Void;)V"⟩
abbrev yB : ByteArray := jdk_42_method_149_code
theorem d0 : decode yB 0 = .ok (.aload_n 0, 1) := by decide +kernel
theorem d1 : decode yB 1 = .ok (.invokespecial 1, 3) := by decide +kernel
theorem d4 : decode yB 4 = .ok (.iload_n 3, 1) := by decide +kernel
theorem d5 : decode yB 5 = .ok (.ifCond (.ne) 22, 3) := by decide +kernel
theorem d27 : decode yB 27 = .ok (.getstatic 38, 3) := by decide +kernel
theorem d30 : decode yB 30 = .ok (.ifCond (.eq) 28, 3) := by decide +kernel
theorem d33 : decode yB 33 = .ok (.aload_n 1, 1) := by decide +kernel
theorem d34 : decode yB 34 = .ok (.iload_n 2, 1) := by decide +kernel
theorem d35 : decode yB 35 = .ok (.iload_n 3, 1) := by decide +kernel
theorem d36 : decode yB 36 = .ok (.invokestatic 177, 3) := by decide +kernel
theorem d39 : decode yB 39 = .ok (.astore 5, 2) := by decide +kernel
theorem d41 : decode yB 41 = .ok (.aload_n 0, 1) := by decide +kernel
theorem d42 : decode yB 42 = .ok (.aload 5, 2) := by decide +kernel
theorem d44 : decode yB 44 = .ok (.iload_n 3, 1) := by decide +kernel
theorem d45 : decode yB 45 = .ok (.invokestatic 47, 3) := by decide +kernel
theorem d48 : decode yB 48 = .ok (.putfield 15, 3) := by decide +kernel
theorem d51 : decode yB 51 = .ok (.aload_n 0, 1) := by decide +kernel
theorem d52 : decode yB 52 = .ok (.aload 5, 2) := by decide +kernel
theorem d54 : decode yB 54 = .ok (.putfield 9, 3) := by decide +kernel
theorem d57 : decode yB 57 = .ok (.return_, 1) := by decide +kernel
def site : List Cond := [.fieldLink "java/lang/String" 38 "java/lang/String" "COMPACT_STRINGS" "Z", Cmp3.tab, CodL.tab, .laysFinal "java/lang/String" "java/lang/String" "value" "[B", .fieldLink "java/lang/String" 9 "java/lang/String" "value" "[B", .laysFinal "java/lang/String" "java/lang/String" "coder" "B", .fieldLink "java/lang/String" 15 "java/lang/String" "coder" "B"] ++ objW "java/lang/String" 1 ++ staticW "java/lang/String" 177 Cmp3.yN ++ staticW "java/lang/String" 47 CodL.yN
def tab : Cond := tabOf yN yB 6 none site
def P (a : Addr) (D : Cell) (fV fC : Field) (b : Addr) (A : Cell) (z : Int32) (o len : Nat) (args : Array Value) (s : State) : Prop := args = #[.ref a, .ref b, .int (Int32.ofNat o), .int (Int32.ofNat len), .null] ∧ Blank "java/lang/String" a D s ∧ Found "java/lang/String" "value" "[B" fV s ∧ Found "java/lang/String" "coder" "B" fC s ∧ Ch b A s ∧ StaticIs s "java/lang/String" "COMPACT_STRINGS" "Z" (.int z) ∧ ¬ z = 0 ∧ 0 < len ∧ o + len ≤ A.slots.size ∧ len ≤ 536870912 ∧ ∀ i, i < len → ¬ 255 < cv A (o + i)
def E (a : Addr) (D : Cell) (fV fC : Field) (A : Cell) (o len : Nat) (r : Option Value) (s u : State) : Prop := Got a D fV fC A o len r s u
/-- len > 0, no char of the range above 255: a Latin-1 String of their low bytes -/
theorem law (l : Launch) (a : Addr) (D : Cell) (fV fC : Field) (b : Addr) (A : Cell) (z : Int32) (o len : Nat) : Law l yN 5 4 2 35 yB 6 none site (P a D fV fC b A z o len) (E a D fV fC A o len) [⟨a, fC.slot⟩, ⟨a, fV.slot⟩] 1 len := by
  refine Law.of_walk (plainFor_of_name (by decide +kernel)) (by decide +kernel) (by decide +kernel) (by decide) (fun _ _ h => by rw [h.1]; rfl) (fun _ U U' hal hh h => ⟨h.1, h.2.1.mv hal hh, h.2.2.1.al hal, h.2.2.2.1.al hal, h.2.2.2.2.1.mv hal hh, h.2.2.2.2.2.1.there hal hh, h.2.2.2.2.2.2⟩) (fun r U U' V V' h1 hal h2 h => Got.mv r U U' V V' h1 hal h2 h) ?_
  intro p e s m args below meth c s₁ X0 hexec hbytes hml hret hlk hnm hown hh0 W hP
  obtain ⟨rfl, hB, f1, f2, hA, s1, hz, l0, l1, l2, hp⟩ := hP
  have a31 := hA.1.2.2.2
  have c1 : Steps p.tables e below (s₁.setTop (entryFrame m #[.ref a, .ref b, .int (Int32.ofNat o), .int (Int32.ofNat len), .null] 6)) (s₁.setTop (mkF m 0 #[.val (.ref a), .val (.ref b), .val (.int (Int32.ofNat o)), .val (.int (Int32.ofNat len)), .val .null, .unset] [])) := entry rfl
  have c2 : Steps p.tables e below (s₁.setTop (entryFrame m #[.ref a, .ref b, .int (Int32.ofNat o), .int (Int32.ofNat len), .null] 6)) (s₁.setTop (mkF m 1 #[.val (.ref a), .val (.ref b), .val (.int (Int32.ofNat o)), .val (.int (Int32.ofNat len)), .val .null, .unset] [.ref a])) := c1.trans (by
    refine XS.aloadN X0.here hexec rfl (hb hbytes d0) rfl rfl ?_
    exact Steps.refl _)
  obtain ⟨T3, X3, q3, st3⟩ := X0.oinit hexec hown (wks W (objW "java/lang/String" 1)) (g := (mkF m 1 #[.val (.ref a), .val (.ref b), .val (.int (Int32.ofNat o)), .val (.int (Int32.ofNat len)), .val .null, .unset] [.ref a])) rfl (by rw [hml]; rfl) (rest := []) rfl (hb hbytes d1) (W := 0) (by show 2 * 0 + 0 ≤ _; decide) (Nat.le_of_ble_eq_true rfl) (Nat.le_of_ble_eq_true rfl)
  have hh3 := q3.trans hh0
  have c4 : Steps p.tables e below (s₁.setTop (entryFrame m #[.ref a, .ref b, .int (Int32.ofNat o), .int (Int32.ofNat len), .null] 6)) (T3.setTop (mkF m 27 #[.val (.ref a), .val (.ref b), .val (.int (Int32.ofNat o)), .val (.int (Int32.ofNat len)), .val .null, .unset] [])) := (c2.trans (st3 _ (Steps.refl _))).trans (by
    refine XS.iloadN X3.here hexec rfl (hb hbytes d4) rfl ?_
    refine XS.ifYes X3.here hexec rfl (pc0 := 5) rfl (hb hbytes d5) rfl (i0_ne_t (nz32 (by omega) l0)) (by decide) rfl ?_
    exact Steps.refl _)
  obtain ⟨T5, X5, q5, st5⟩ := X3.sget hexec hown (wk W (.fieldLink "java/lang/String" 38 "java/lang/String" "COMPACT_STRINGS" "Z")) s1 (fun _ _ h => by rw [hh3]; exact h) (g := (mkF m 27 #[.val (.ref a), .val (.ref b), .val (.int (Int32.ofNat o)), .val (.int (Int32.ofNat len)), .val .null, .unset] [])) rfl (hb hbytes d27)
  have hh5 := q5.trans hh3
  have c6 : Steps p.tables e below (s₁.setTop (entryFrame m #[.ref a, .ref b, .int (Int32.ofNat o), .int (Int32.ofNat len), .null] 6)) (T5.setTop (mkF m 30 #[.val (.ref a), .val (.ref b), .val (.int (Int32.ofNat o)), .val (.int (Int32.ofNat len)), .val .null, .unset] [.int z])) := c4.trans (st5 _ (Steps.refl _))
  have c7 : Steps p.tables e below (s₁.setTop (entryFrame m #[.ref a, .ref b, .int (Int32.ofNat o), .int (Int32.ofNat len), .null] 6)) (T5.setTop (mkF m 36 #[.val (.ref a), .val (.ref b), .val (.int (Int32.ofNat o)), .val (.int (Int32.ofNat len)), .val .null, .unset] [.int (Int32.ofNat len), .int (Int32.ofNat o), .ref b])) := c6.trans (by
    refine XS.ifNo X5.here hexec rfl (hb hbytes d30) rfl (i0_eq_f hz) ?_
    refine XS.aloadN X5.here hexec rfl (hb hbytes d33) rfl rfl ?_
    refine XS.iloadN X5.here hexec rfl (hb hbytes d34) rfl ?_
    refine XS.iloadN X5.here hexec rfl (hb hbytes d35) rfl ?_
    exact Steps.refl _)
  obtain ⟨v8, T8, X8, E8, g8⟩ := X5.callS hexec (Cmp3.law l b A o len) hown (wks W (staticW "java/lang/String" 177 Cmp3.yN)) (wk W Cmp3.tab) (W := 0) (Nat.le_of_ble_eq_true rfl) (Nat.le_of_ble_eq_true rfl) (Nat.le_refl _) (by show 0 + len ≤ len; omega) (g := (mkF m 36 #[.val (.ref a), .val (.ref b), .val (.int (Int32.ofNat o)), .val (.int (Int32.ofNat len)), .val .null, .unset] [.int (Int32.ofNat len), .int (Int32.ofNat o), .ref b])) rfl (by rw [hml]; rfl) c7 (argsL := [.ref b, .int (Int32.ofNat o), .int (Int32.ofNat len)]) (rest := []) rfl rfl (by show 2 * 0 + 0 ≤ _; decide) (hb hbytes d36) (⟨rfl, hA.mv X5.warmed.alike hh5, l1, l2, hp⟩)
  obtain ⟨e8, z8⟩ := E8
  obtain ⟨rfl, N, n1, n2, n3, n4, n5, n6⟩ := NewArr.mv _ T5 s _ _ hh5.symm (Vm.Alike.refl _) rfl e8
  rw [hh5] at z8
  have hB1 := hB.keep X8.warmed.alike (n6 _ _ hB.1)
  have hne : s.heap.size ≠ a := (Nat.ne_of_lt (Array.getElem?_eq_some_iff.mp hB.1).1).symm
  have c9 : Steps p.tables e below (s₁.setTop (entryFrame m #[.ref a, .ref b, .int (Int32.ofNat o), .int (Int32.ofNat len), .null] 6)) (T8.setTop (mkF m 39 #[.val (.ref a), .val (.ref b), .val (.int (Int32.ofNat o)), .val (.int (Int32.ofNat len)), .val .null, .unset] [.ref s.heap.size])) := g8
  have c10 : Steps p.tables e below (s₁.setTop (entryFrame m #[.ref a, .ref b, .int (Int32.ofNat o), .int (Int32.ofNat len), .null] 6)) (T8.setTop (mkF m 45 #[.val (.ref a), .val (.ref b), .val (.int (Int32.ofNat o)), .val (.int (Int32.ofNat len)), .val .null, .val (.ref s.heap.size)] [.int (Int32.ofNat N.slots.size), .ref s.heap.size, .ref a])) := by
    have hc : Steps p.tables e below (s₁.setTop (entryFrame m #[.ref a, .ref b, .int (Int32.ofNat o), .int (Int32.ofNat len), .null] 6)) (T8.setTop (mkF m 45 #[.val (.ref a), .val (.ref b), .val (.int (Int32.ofNat o)), .val (.int (Int32.ofNat len)), .val .null, .val (.ref s.heap.size)] [.int (Int32.ofNat len), .ref s.heap.size, .ref a])) := c9.trans (by
      refine XS.astore X8.here hexec rfl (hb hbytes d39) rfl rfl rfl ?_
      refine XS.aloadN X8.here hexec rfl (hb hbytes d41) rfl rfl ?_
      refine XS.aload X8.here hexec rfl (hb hbytes d42) rfl rfl ?_
      refine XS.iloadN X8.here hexec rfl (hb hbytes d44) rfl ?_
      exact Steps.refl _)
    rw [n4]; exact hc
  obtain ⟨v11, T11, X11, E11, g11⟩ := X8.callS hexec (CodL.law l s.heap.size N) hown (wks W (staticW "java/lang/String" 47 CodL.yN)) (wk W CodL.tab) (W := 1) (Nat.le_of_ble_eq_true rfl) (Nat.le_of_ble_eq_true rfl) (Nat.le_refl _) (by show 0 + len + 0 ≤ len; omega) (g := (mkF m 45 #[.val (.ref a), .val (.ref b), .val (.int (Int32.ofNat o)), .val (.int (Int32.ofNat len)), .val .null, .val (.ref s.heap.size)] [.int (Int32.ofNat N.slots.size), .ref s.heap.size, .ref a])) rfl (by rw [hml]; rfl) c10 (argsL := [.ref s.heap.size, .int (Int32.ofNat N.slots.size)]) (rest := [.ref a]) rfl rfl (by show 2 * 0 + (1 + 0) ≤ _; decide) (hb hbytes d45) (⟨rfl, n1⟩)
  obtain ⟨rfl, q11⟩ := E11
  have hB11 := hB1.mv (X8.warmed.alike.symm.trans X11.warmed.alike) q11
  have c12 : Steps p.tables e below (s₁.setTop (entryFrame m #[.ref a, .ref b, .int (Int32.ofNat o), .int (Int32.ofNat len), .null] 6)) (T11.setTop (mkF m 48 #[.val (.ref a), .val (.ref b), .val (.int (Int32.ofNat o)), .val (.int (Int32.ofNat len)), .val .null, .val (.ref s.heap.size)] [.int 0, .ref a])) := g11
  obtain ⟨T13, X13, p13, bl13, sl13, st13⟩ := X11.finit hexec hown (wk W (.fieldLink "java/lang/String" 15 "java/lang/String" "coder" "B")) (Or.inr ⟨_, (wk W (.laysFinal "java/lang/String" "java/lang/String" "coder" "B"))⟩) (Or.inl ⟨rfl, hnm⟩) f2 (Or.inl rfl) hB11 (t := .byte) (by decide +kernel) rfl (g := (mkF m 48 #[.val (.ref a), .val (.ref b), .val (.int (Int32.ofNat o)), .val (.int (Int32.ofNat len)), .val .null, .val (.ref s.heap.size)] [.int 0, .ref a])) rfl (rest := []) rfl (hb hbytes d48)
  have c14 : Steps p.tables e below (s₁.setTop (entryFrame m #[.ref a, .ref b, .int (Int32.ofNat o), .int (Int32.ofNat len), .null] 6)) (T13.setTop (mkF m 54 #[.val (.ref a), .val (.ref b), .val (.int (Int32.ofNat o)), .val (.int (Int32.ofNat len)), .val .null, .val (.ref s.heap.size)] [.ref s.heap.size, .ref a])) := (c12.trans (st13 _ (Steps.refl _))).trans (by
    refine XS.aloadN X13.here hexec rfl (hb hbytes d51) rfl rfl ?_
    refine XS.aload X13.here hexec rfl (hb hbytes d52) rfl rfl ?_
    exact Steps.refl _)
  obtain ⟨T15, X15, p15, bl15, sl15, st15⟩ := X13.finit hexec hown (wk W (.fieldLink "java/lang/String" 9 "java/lang/String" "value" "[B")) (Or.inr ⟨_, (wk W (.laysFinal "java/lang/String" "java/lang/String" "value" "[B"))⟩) (Or.inl ⟨rfl, hnm⟩) f1 (Or.inl rfl) bl13 (t := (.array .byte)) (by decide +kernel) rfl (g := (mkF m 54 #[.val (.ref a), .val (.ref b), .val (.int (Int32.ofNat o)), .val (.int (Int32.ofNat len)), .val .null, .val (.ref s.heap.size)] [.ref s.heap.size, .ref a])) rfl (rest := []) rfl (hb hbytes d54)
  have c16 : Steps p.tables e below (s₁.setTop (entryFrame m #[.ref a, .ref b, .int (Int32.ofNat o), .int (Int32.ofNat len), .null] 6)) (T15.setTop (mkF m 57 #[.val (.ref a), .val (.ref b), .val (.int (Int32.ofNat o)), .val (.int (Int32.ofNat len)), .val .null, .val (.ref s.heap.size)] [])) := c14.trans (st15 _ (Steps.refl _))
  have ap := apart (Or.inr ⟨_, (wk W (.laysFinal "java/lang/String" "java/lang/String" "value" "[B"))⟩) (Or.inr ⟨_, (wk W (.laysFinal "java/lang/String" "java/lang/String" "coder" "B"))⟩) f1 f2 (t₁ := .array .byte) (t₂ := .byte) (by decide +kernel) (by decide +kernel) (by decide)
  have al := X8.warmed.alike.symm.trans X15.warmed.alike
  have n7 : T11.heap[s.heap.size]? = some N := by rw [q11]; exact n1.1
  exact ⟨T15, none, _, _, _, X15, by simp, rfl, by omega, (fun _ => rfl), ⟨rfl, _, N, bl15, ((Same.refl D _).set _ (by simp)).set _ (by simp), sl15, (Cell.slots_setSlot_ne _ ap).trans sl13, n1.keep al (p15.other hne (p13.other hne n7)), n2, by rw [al.findClass]; exact n3, n4, n5, fun y c h1 h2 => p15.other h1 (p13.other h1 (by rw [q11]; exact n6 y c h2)), by rw [p15.2.2, p13.2.2, q11]; exact z8⟩, fun fs hl => c16.trans (X15.returnOut hexec hret (hb hbytes d57) hl)⟩
end New4
namespace New1
def yN : MethodName := ⟨"java/lang/String", "<init>", "([C)V"⟩
abbrev yB : ByteArray := jdk_42_method_3_code
theorem d0 : decode yB 0 = .ok (.aload_n 0, 1) := by decide +kernel
theorem d1 : decode yB 1 = .ok (.aload_n 1, 1) := by decide +kernel
theorem d2 : decode yB 2 = .ok (.iconst 0, 1) := by decide +kernel
theorem d3 : decode yB 3 = .ok (.aload_n 1, 1) := by decide +kernel
theorem d4 : decode yB 4 = .ok (.arraylength, 1) := by decide +kernel
theorem d5 : decode yB 5 = .ok (.aconst_null, 1) := by decide +kernel
theorem d6 : decode yB 6 = .ok (.invokespecial 27, 3) := by decide +kernel
theorem d9 : decode yB 9 = .ok (.return_, 1) := by decide +kernel
def site : List Cond := [New4.tab] ++ initW "java/lang/String" 27 New4.yN
def tab : Cond := tabOf yN yB 2 none site
def P (a : Addr) (D : Cell) (fV fC : Field) (b : Addr) (A : Cell) (z : Int32) (args : Array Value) (s : State) : Prop := args = #[.ref a, .ref b] ∧ Blank "java/lang/String" a D s ∧ Found "java/lang/String" "value" "[B" fV s ∧ Found "java/lang/String" "coder" "B" fC s ∧ Ch b A s ∧ StaticIs s "java/lang/String" "COMPACT_STRINGS" "Z" (.int z) ∧ ¬ z = 0 ∧ 0 < A.slots.size ∧ A.slots.size ≤ 536870912 ∧ ∀ i, i < A.slots.size → ¬ 255 < cv A i
def E (a : Addr) (D : Cell) (fV fC : Field) (A : Cell) (r : Option Value) (s u : State) : Prop := Got a D fV fC A 0 A.slots.size r s u
/-- new String(chars), not empty, no char above 255: a Latin-1 String of their low bytes -/
theorem law (l : Launch) (a : Addr) (D : Cell) (fV fC : Field) (b : Addr) (A : Cell) (z : Int32) : Law l yN 2 1 3 52 yB 2 none site (P a D fV fC b A z) (E a D fV fC A) [⟨a, fC.slot⟩, ⟨a, fV.slot⟩] 1 A.slots.size := by
  refine Law.of_walk (plainFor_of_name (by decide +kernel)) (by decide +kernel) (by decide +kernel) (by decide) (fun _ _ h => by rw [h.1]; rfl) (fun _ U U' hal hh h => ⟨h.1, h.2.1.mv hal hh, h.2.2.1.al hal, h.2.2.2.1.al hal, h.2.2.2.2.1.mv hal hh, h.2.2.2.2.2.1.there hal hh, h.2.2.2.2.2.2⟩) (fun r U U' V V' h1 hal h2 h => Got.mv r U U' V V' h1 hal h2 h) ?_
  intro p e s m args below meth c s₁ X0 hexec hbytes hml hret hlk hnm hown hh0 W hP
  obtain ⟨rfl, hB, f1, f2, hA, s1, hz, l0, l2, hp⟩ := hP
  have c1 : Steps p.tables e below (s₁.setTop (entryFrame m #[.ref a, .ref b] 2)) (s₁.setTop (mkF m 0 #[.val (.ref a), .val (.ref b)] [])) := entry rfl
  have c2 : Steps p.tables e below (s₁.setTop (entryFrame m #[.ref a, .ref b] 2)) (s₁.setTop (mkF m 6 #[.val (.ref a), .val (.ref b)] [.null, .int (Int32.ofNat A.slots.size), .int 0, .ref b, .ref a])) := c1.trans (by
    refine XS.aloadN X0.here hexec rfl (hb hbytes d0) rfl rfl ?_
    refine XS.aloadN X0.here hexec rfl (hb hbytes d1) rfl rfl ?_
    refine iconstV X0.here hexec rfl 0 (hb hbytes d2) (by decide) ?_
    refine XS.aloadN X0.here hexec rfl (hb hbytes d3) rfl rfl ?_
    refine X0.alen hexec (hA.1.mv X0.warmed.alike hh0) rfl rfl (hb hbytes d4) ?_
    refine XS.aconstNull X0.here hexec rfl (hb hbytes d5) ?_
    exact Steps.refl _)
  obtain ⟨v3, T3, X3, E3, g3⟩ := X0.callN hexec (New4.law l a D fV fC b A z 0 A.slots.size) rfl hown (wks W (initW "java/lang/String" 27 New4.yN)) (W New4.tab (by simp only [site, List.mem_cons, List.mem_append, true_or, or_true])) (W := 0) (Nat.le_of_ble_eq_true rfl) (Nat.le_of_ble_eq_true rfl) (Nat.le_refl _) (by show 0 + A.slots.size ≤ A.slots.size; omega) (g := (mkF m 6 #[.val (.ref a), .val (.ref b)] [.null, .int (Int32.ofNat A.slots.size), .int (Int32.ofNat 0), .ref b, .ref a])) rfl (by rw [hml]; rfl) c2 (argsL := [.ref b, .int (Int32.ofNat 0), .int (Int32.ofNat A.slots.size), .null]) (rest := []) rfl rfl (by show 2 * 0 + 0 ≤ _; decide) (hb hbytes d6) (⟨rfl, hB.mv X0.warmed.alike hh0, f1.al X0.warmed.alike, f2.al X0.warmed.alike, hA.mv X0.warmed.alike hh0, s1.there X0.warmed.alike hh0, hz, l0, by omega, l2, fun i hi => by rw [Nat.zero_add]; exact hp i hi⟩)
  have e0 := Got.mv _ s₁ s _ _ hh0.symm (Vm.Alike.refl _) rfl E3
  obtain rfl := e0.1
  have c4 : Steps p.tables e below (s₁.setTop (entryFrame m #[.ref a, .ref b] 2)) (T3.setTop (mkF m 9 #[.val (.ref a), .val (.ref b)] [])) := g3
  exact ⟨T3, none, _, _, _, X3, by simp, rfl, by omega, (fun _ => rfl), e0, fun fs hl => c4.trans (X3.returnOut hexec hret (hb hbytes d9) hl)⟩
theorem pays {l : Launch} {R : Room} {p : Program} {e : Env} {below : List Frame} {s : State} {sargs : Array Value} {len W : Nat} (a : Addr) (D : Cell) (fV fC : Field) (b : Addr) (A : Cell) (z : Int32) (htab : tab.before sargs s = true) (hfr : 4 ≤ R.frames) (hlo : W + 65 ≤ R.locals) :
    Back l R p e below s sargs yN len W (fun A₁ a₁ => A₁.cells + 1 ≤ R.cells ∧ A₁.slots + A.slots.size ≤ R.slots ∧ P a D fV fC b A z a₁ A₁.U) (fun A₁ _ v₁ B₁ => E a D fV fC A v₁ A₁.U B₁.U ∧ B₁.locs = A₁.locs ++ [⟨a, fC.slot⟩, ⟨a, fV.slot⟩] ∧ B₁.cells = A₁.cells + 1 ∧ B₁.slots = A₁.slots + A.slots.size) :=
  (law l a D fV fC b A z).pays htab hfr (by omega)
end New1
end StrChars
namespace StrChars.Road
open Jvm Sem ClassFile Op Lib Jvm.Stand Jvm.Free Jvm.Free.XT
open Jvm.Lib.Cold (StaticIs)
abbrev ST : String := "java/lang/String"
/-- every table word that New1's law asks, flat -/
abbrev words : List Jvm.Cond := [.code New1.yN New1.yB 2 none, .initialized ST, .methodLink ST 27 New4.yN, .instanceMethod New4.yN,
  .code New4.yN New4.yB 6 none, .fieldLink ST 38 ST "COMPACT_STRINGS" "Z", .laysFinal ST ST "value" "[B", .fieldLink ST 9 ST "value" "[B", .laysFinal ST ST "coder" "B", .fieldLink ST 15 ST "coder" "B",
  .methodLink ST 1 Lib.objectInit, .instanceMethod Lib.objectInit, .code Lib.objectInit ⟨#[0xb1]⟩ 1 none, .methodLink ST 177 Cmp3.yN, .static Cmp3.yN, .methodLink ST 47 CodL.yN, .static CodL.yN,
  .code Cmp3.yN Cmp3.yB 6 (some (.array .byte)), .initialized U16, .arrayClass .byte, .methodLink U16 115 Cmp5.yN, .static Cmp5.yN, .code Cmp5.yN Cmp5.yB 7 (some .int), .code CodL.yN CodL.yB 2 (some .byte)]
theorem tab_of {a : Array Value} {s : State} (h : ∀ w ∈ words, w.before a s = true) : New1.tab.before a s = true := by
  have h5 : Cmp5.tab.before a s = true := unparts (wk h (.code Cmp5.yN Cmp5.yB 7 (some .int))) (wks h (.initialized Cmp5.yN.cls :: Cmp5.site))
  have hc : CodL.tab.before a s = true := unparts (wk h (.code CodL.yN CodL.yB 2 (some .byte))) (wks h (.initialized CodL.yN.cls :: CodL.site))
  have q5 : ∀ w ∈ Cmp5.tab :: words, w.before a s = true := fun w hw => (List.mem_cons.mp hw).elim (fun e => e ▸ h5) (h w)
  have h3 : Cmp3.tab.before a s = true := unparts (wk q5 (.code Cmp3.yN Cmp3.yB 6 (some (.array .byte)))) (wks q5 (.initialized Cmp3.yN.cls :: Cmp3.site))
  have q3 : ∀ w ∈ Cmp3.tab :: CodL.tab :: words, w.before a s = true := fun w hw => (List.mem_cons.mp hw).elim (fun e => e ▸ h3) fun hw => (List.mem_cons.mp hw).elim (fun e => e ▸ hc) (h w)
  have h4 : New4.tab.before a s = true := unparts (wk q3 (.code New4.yN New4.yB 6 none)) (wks q3 (.initialized New4.yN.cls :: New4.site))
  have q4 : ∀ w ∈ New4.tab :: words, w.before a s = true := fun w hw => (List.mem_cons.mp hw).elim (fun e => e ▸ h4) (h w)
  exact unparts (wk q4 (.code New1.yN New1.yB 2 none)) (wks q4 (.initialized New1.yN.cls :: New1.site))
/-- the words ride from the start Z to the walk's own state -/
theorem moved {Z s : State} {a0 args : Array Value} (hZ : Z.Warmed39 s.vm) (hw : ∀ d ∈ words, d.before a0 Z = true) : ∀ d ∈ words, d.before args s = true := fun d hd => by
  have q := hw d hd
  have t : ∀ d ∈ words, d = .arrayClass .byte ∨ (d.onTables && d.keepsFace) = true := by decide +kernel
  rcases t d hd with rfl | t
  · exact RoadKit.mvA hZ q
  · exact RoadKit.mv hZ q t
/-- WHAT COMES BACK, over the tables of the start Z: h the heap at the call, h' behind it -/
def Q (Z : State) (x : Addr) (A : Cell) (h : Heap) (v : Option Value) (h' : Heap) (L : List Loc) : Prop := v = none ∧ (∀ y ∈ L, y.base = x) ∧ RoadKit.Keep h h' [x] ∧ h'.size = h.size + 1 ∧ RoadKit.Exa Z h' x ST ∧ RoadKit.Fld Z h' x ST "value" "[B" (.ref h.size) ∧ RoadKit.Fld Z h' x ST "coder" "B" (.int 0) ∧
  (∃ V : Cell, RoadKit.Arr Z h' h.size V .byte ∧ V.vm = .none ∧ Z.vm.findClass "[B" = some V.cls ∧ V.slots.size = A.slots.size ∧ ∀ j, j < A.slots.size → V.slots[j]? = some (.int (lo8 (cv A j)))) ∧
  ∀ (O n d : String) (w : Value), RoadKit.Fld Z h x O n d w → RoadKit.slotOf Z O n d ≠ RoadKit.slotOf Z ST "value" "[B" → RoadKit.slotOf Z O n d ≠ RoadKit.slotOf Z ST "coder" "B" → RoadKit.Fld Z h' x O n d w
/-- **new String(chars) AT A CALL, IN THE ROAD'S FORM**: for specialBack behind newO: x the fresh String, b the char[] with the cell A -/
theorem back {p : Program} {l : Launch} {e : Env} {R : Room} {s : State} {args : Array Value} {below : List Frame} {len W : Nat} {Z : State} {a0 : Array Value} {h : Heap} (hZ : Z.Warmed39 s.vm) (hw : ∀ d ∈ words, d.before a0 Z = true) {kI : Nat} (wi : (Jvm.Cond.instantiable ST kI).before a0 Z = true)
    {x b : Addr} {A : Cell} {z : Int32} {v0 c0 : Value} (E : RoadKit.Exa Z h x ST) (V : RoadKit.Fld Z h x ST "value" "[B" v0) (C : RoadKit.Fld Z h x ST "coder" "B" c0) (K : RoadKit.Arr Z h b A .char) (hty : Typed .char A) (S : RoadKit.Sta Z h ST "COMPACT_STRINGS" "Z" (.int z)) (hz : ¬ z = 0)
    (l0 : 0 < A.slots.size) (l2 : A.slots.size ≤ 536870912) (hp : ∀ i, i < A.slots.size → ¬ 255 < cv A i) (hfr : 4 ≤ R.frames) (hlo : W + 65 ≤ R.locals) :
    Back l R p e below s args New1.yN len W (fun P a => a = #[.ref x, .ref b] ∧ P.U.heap = h ∧ P.cells + 1 ≤ R.cells ∧ P.slots + A.slots.size ≤ R.slots)
      (fun P _ v B => ∃ L, Q Z x A h v B.U.heap L ∧ B.locs = P.locs ++ L ∧ B.cells = P.cells + 1 ∧ B.slots = P.slots + A.slots.size) := by
  intro m meth c P g ig mk a X hg hsize hdg hW hn hp'
  obtain ⟨rfl, rfl, r1, r2⟩ := hp'
  have al : Z.vm.Alike P.U.vm := hZ.alike.trans X.warmed.alike
  obtain ⟨D, cfV, kV, iV, fV, hD, gV, stV, knV, obV, asV, slV⟩ := id V
  obtain ⟨D', cfC, kC, iC, fC, hD', gC, stC, -, -, asC, slC⟩ := id C
  cases hD.symm.trans hD'
  obtain ⟨D2, kD, e1, e2, e3, e4, e5⟩ := id E
  cases hD.symm.trans e1
  obtain ⟨c2, k2, i1, i2, i3, -⟩ := Cond.instantiable_spec wi
  cases e2.symm.trans i1
  cases e3.symm.trans i2
  obtain ⟨kU, u1, u2⟩ := al.2.2 _ _ e3
  have hB : Blank ST x D P.U := ⟨hD, ⟨knV, fun q hq => by rw [hq] at obV; cases obV⟩, by rw [al.findClass]; exact e2, kU, u1, by rw [u2]; exact i3, by rw [u2]; exact e5 i3⟩
  have F1 : Found ST "value" "[B" fV P.U := ⟨SBG.found_only al ⟨cfV, kV, iV, gV⟩, stV⟩
  have F2 : Found ST "coder" "B" fC P.U := ⟨SBG.found_only al ⟨cfC, kC, iC, gC⟩, stC⟩
  have hA : Ch b A P.U := ⟨⟨K.1, State.isArrayOf_alike al K.2.1, K.2.2, by omega⟩, hty⟩
  have hS : StaticIs P.U ST "COMPACT_STRINGS" "Z" (.int z) := by
    obtain ⟨cfS, iS, kS, fS, st, cS, t1, t2, t3, t4, t5, t6, t7⟩ := S
    exact StaticIs.there (s := { Z with heap := P.U.heap }) ⟨cfS, iS, kS, fS, st, cS, t1, t2, t3, t4, t5, (fun q => by rw [q] at t6; cases t6), t7⟩ al rfl
  obtain ⟨v, B, X', ⟨⟨hv, E', V', q1, q2, q3, q4, q5, q6, q7, q8, q9, q10, q11⟩, hl, hc, hs⟩, st⟩ := New1.pays x D fV fC b A z (tab_of (moved hZ hw)) hfr hlo m meth c P g ig mk _ X hg hsize hdg hW hn ⟨r1, r2, rfl, hB, F1, F2, hA, hS, hz, l0, l2, hp⟩
  have al' : Z.vm.Alike B.U.vm := hZ.alike.trans X'.warmed.alike
  have hsz : E'.slots.size = D.slots.size := by
    obtain ⟨-, -, -, kB, w1, w2, w3⟩ := q1
    obtain ⟨kB', y1, y2⟩ := al'.2.2 _ _ e3
    rw [q2.2.1] at w1
    cases w1.symm.trans y1
    rw [w3, e5 i3, y2]
  refine ⟨v, B, X', ⟨_, ⟨hv, ?_, ⟨by omega, fun y cy hy hn' => q10 y cy (by simpa using hn') hy, fun y cy hy => ?_⟩, q11, ⟨E', _, q1.1, by rw [q2.2.1]; exact e2, by rw [q2.2.1]; exact e3, by rw [q2.1]; exact obV, fun _ => by rw [hsz]; exact e5 i3⟩,
    ⟨E', cfV, kV, iV, fV, q1.1, gV, stV, by rw [q2.1]; exact knV, by rw [q2.1]; exact obV, by rw [q2.2.1]; exact asV, q3⟩, ⟨E', cfC, kC, iC, fC, q1.1, gC, stC, by rw [q2.1]; exact knV, by rw [q2.1]; exact obV, by rw [q2.2.1]; exact asC, q4⟩,
    ⟨V', ⟨q5.1, State.isArrayOf_alike al'.symm q5.2.1, q5.2.2.1⟩, q6, by rw [← al'.findClass]; exact q7, q8, fun j hj => by have := q9 j hj; rwa [Nat.zero_add] at this⟩, fun O n d w F n1 n2 => ?_⟩, hl, hc, hs⟩, st⟩
  · intro y hy
    simp only [List.mem_cons, List.not_mem_nil, or_false] at hy
    rcases hy with rfl | rfl <;> rfl
  · by_cases q : y = x
    · subst q
      cases hD.symm.trans hy
      exact ⟨E', q1.1, q2.2.1, q2.1, hsz⟩
    · exact ⟨cy, q10 y cy q hy, rfl, rfl, rfl⟩
  · obtain ⟨D3, cf, k, i, f, g1, g2, g3, g4, g5, g6, g7⟩ := F
    cases hD.symm.trans g1
    simp only [RoadKit.slotOf, g2, gV, gC, Option.map_some, Option.getD_some] at n1 n2
    exact ⟨E', cf, k, i, f, q1.1, g2, g3, by rw [q2.1]; exact g4, by rw [q2.1]; exact g5, by rw [q2.2.1]; exact g6, by rw [q2.2.2 f.slot (by simp [n1, n2])]; exact g7⟩
end StrChars.Road
namespace StrChars.Road
open Jvm Sem ClassFile Op Lib Jvm.Stand Jvm.Free Jvm.Free.XT
/-- WHAT COMES BACK, the byte[] as a list of values -/
def QA (Z : State) (x : Addr) (zn : Int32) (cs : List Int32) (h : Heap) (v : Option Value) (h' : Heap) (L : List Loc) : Prop := v = none ∧ (∀ y ∈ L, y.base = x) ∧ RoadKit.Keep h h' [x] ∧ h'.size = h.size + 1 ∧ RoadKit.Exa Z h' x ST ∧ RoadKit.Fld Z h' x ST "value" "[B" (.ref h.size) ∧ RoadKit.Fld Z h' x ST "coder" "B" (.int 0) ∧
  (∃ kb, Z.vm.findClass "[B" = some kb ∧ RoadKit.Arv Z h' h.size kb .byte zn (cs.map fun c => .int (lo8 c)) (.int 0)) ∧
  ∀ (O n d : String) (w : Value), RoadKit.Fld Z h x O n d w → RoadKit.slotOf Z O n d ≠ RoadKit.slotOf Z ST "value" "[B" → RoadKit.slotOf Z O n d ≠ RoadKit.slotOf Z ST "coder" "B" → RoadKit.Fld Z h' x O n d w
/-- **new String(chars) AT A CALL, THE ARRAYS AS LISTS**: the char[] at b holds cs, not empty, no char above 255 -/
theorem backArv {p : Program} {l : Launch} {e : Env} {R : Room} {s : State} {args : Array Value} {below : List Frame} {len W : Nat} {Z : State} {a0 : Array Value} {h : Heap} (hZ : Z.Warmed39 s.vm) (hw : ∀ d ∈ words, d.before a0 Z = true) {kI : Nat} (wi : (Jvm.Cond.instantiable ST kI).before a0 Z = true)
    {x b : Addr} {k : ClassId} {zn z : Int32} {cs : List Int32} {dv v0 c0 : Value} (E : RoadKit.Exa Z h x ST) (V : RoadKit.Fld Z h x ST "value" "[B" v0) (C : RoadKit.Fld Z h x ST "coder" "B" c0) (K : RoadKit.Arv Z h b k .char zn (cs.map Value.int) dv) (S : RoadKit.Sta Z h ST "COMPACT_STRINGS" "Z" (.int z)) (hz : ¬ z = 0)
    (hlen : zn.toNatClampNeg = cs.length) (h0 : 0 < cs.length) (hbig : cs.length ≤ 536870912) (hall : ∀ c ∈ cs, ¬ 255 < c) (hfr : 4 ≤ R.frames) (hlo : W + 65 ≤ R.locals) :
    Back l R p e below s args New1.yN len W (fun P a => a = #[.ref x, .ref b] ∧ P.U.heap = h ∧ P.cells + 1 ≤ R.cells ∧ P.slots + cs.length ≤ R.slots)
      (fun P _ v B => ∃ L, QA Z x zn cs h v B.U.heap L ∧ B.locs = P.locs ++ L ∧ B.cells = P.cells + 1 ∧ B.slots = P.slots + cs.length) := by
  obtain ⟨A, K1, K2, K3, K4, K5, K6⟩ := K
  have e : A.slots.size = cs.length := K3.trans hlen
  have hat : ∀ (i : Nat) (hi : i < cs.length), A.slots[i]? = some (.int cs[i]) := fun i hi => by rw [K5 i (by omega)]; simp [List.getD_eq_getElem?_getD, hi]
  have hcv : ∀ (i : Nat) (hi : i < cs.length), cv A i = cs[i] := fun i hi => by unfold cv; rw [hat i hi]
  have hty : Typed .char A := fun i v hv => by
    have hi : i < A.slots.size := (Array.getElem?_eq_some_iff.mp hv).1
    have q := K5 i hi
    rw [hv] at q
    rw [Option.some.inj q]
    exact K6 i hi
  refine Back.mono (back hZ hw wi E V C K1 hty S hz (by omega) (by omega) (fun i hi => by rw [hcv i (by omega)]; exact hall _ (List.getElem_mem _)) hfr hlo) (fun P a hp => ⟨hp.1, hp.2.1, hp.2.2.1, by rw [e]; exact hp.2.2.2⟩) (fun P a v B hp hq => ?_)
  obtain ⟨L, ⟨q1, q2, q3, q4, q5, q6, q7, ⟨V', v1, v2, v3, v4, v5⟩, q9⟩, hl, hc, hs⟩ := hq
  refine ⟨L, ⟨q1, q2, q3, q4, q5, q6, q7, ⟨V'.cls, v3, V', v1, rfl, by rw [v4, e, hlen], K4, fun i hi => ?_, fun i hi => ?_⟩, q9⟩, hl, hc, by rw [hs, e]⟩
  · have hi' : i < cs.length := by omega
    rw [v5 i (by omega), hcv i hi']; simp [List.getD_eq_getElem?_getD, hi']
  · have hi' : i < cs.length := by omega
    simp only [List.getD_eq_getElem?_getD, List.getElem?_map, List.getElem?_eq_getElem hi', Option.map_some, Option.getD_some]
    exact fits_lo8 _
end StrChars.Road
namespace StrChars.Road
open Jvm Sem ClassFile Op Lib Jvm.Stand Jvm.Free Jvm.Free.XT
/-- WHAT COMES BACK, in the writer's own shape -/
def QV (Z : State) (x : Addr) (N : Int32) (bs : List Int32) (h : Heap) (n0 : Nat) (v : Option Value) (h' : Heap) (L : List Loc) : Prop := v = none ∧ RoadKit.Fr n0 L ∧ RoadKit.Keep h h' [x] ∧ RoadKit.Exa Z h' x ST ∧ RoadKit.Fld Z h' x ST "coder" "B" (.int 0) ∧
  ∃ (t : Addr) (kb : ClassId), n0 ≤ t ∧ h.size ≤ t ∧ ¬ t = x ∧ RoadKit.Fld Z h' x ST "value" "[B" (.ref t) ∧ RoadKit.Arv Z h' t kb .byte N (bs.map Value.int) (.int 0)
/-- **new String(chars) AT A CALL, FOR THE WRITER**: a char[] of n known ints, each 0 to 255 -/
theorem backV {p : Program} {l : Launch} {e : Env} {R : Room} {s : State} {args : Array Value} {below : List Frame} {len W : Nat} {Z : State} {a0 : Array Value} {h : Heap} (hZ : Z.Warmed39 s.vm) (hw : ∀ d ∈ words, d.before a0 Z = true) {kI : Nat} (wi : (Jvm.Cond.instantiable ST kI).before a0 Z = true)
    {x b : Addr} {kC : ClassId} {cs bs : List Int32} {d v0 c0 : Value} {z N : Int32} {n n0 : Nat} (hx0 : n0 ≤ x) (hh0 : n0 ≤ h.size) (E : RoadKit.Exa Z h x ST) (V : RoadKit.Fld Z h x ST "value" "[B" v0) (C : RoadKit.Fld Z h x ST "coder" "B" c0) (K : RoadKit.Arv Z h b kC .char N (cs.map Value.int) d) (S : RoadKit.Sta Z h ST "COMPACT_STRINGS" "Z" (.int z)) (hz : ¬ z = 0)
    (hn : cs.length = n) (hN : N = Int32.ofNat n) (l0 : 0 < n) (l2 : n ≤ 4000) (hp : ∀ c ∈ cs, ¬ c < 0 ∧ ¬ (255 : Int32) < c) (hb : bs = cs.map (fun c => c.toInt8.toInt32)) (hfr : 4 ≤ R.frames) (hlo : W + 65 ≤ R.locals) :
    Back l R p e below s args (⟨"java/lang/String", "<init>", "([C)V"⟩ : MethodName) len W (fun P a => a = #[.ref x, .ref b] ∧ P.U.heap = h ∧ P.cells + 1 ≤ R.cells ∧ P.slots + n ≤ R.slots)
      (fun P _ v B => ∃ L, QV Z x N bs h n0 v B.U.heap L ∧ B.locs = P.locs ++ L ∧ B.cells = P.cells + 1 ∧ B.slots = P.slots + n) := by
  subst hn hN hb
  refine Back.mono (backArv hZ hw wi E V C K S hz (n32 (by omega)) l0 (by omega) (fun c hc => (hp c hc).2) hfr hlo) (fun P a hp => hp) (fun P a v B hp hq => ?_)
  obtain ⟨L, ⟨q1, q2, q3, q4, q5, q6, q7, ⟨kb, v1, v2⟩, q9⟩, hl, hc, hs⟩ := hq
  exact ⟨L, ⟨q1, fun y hy => by rw [q2 y hy]; exact hx0, q3, q5, q7, h.size, kb, hh0, Nat.le_refl _, Nat.ne_of_gt E.lt, q6, by rw [List.map_map]; exact v2⟩, hl, hc, hs⟩
end StrChars.Road
end Jvm.Pilot.@@N@@

namespace Jvm.Pilot.@@N@@
open Jvm Jvm.ClassFile Sem Op Lib Jvm.Free Jvm.Stand Jvm.LawKit Jvm.RoadKit Bundle Jvm.Pilot.@@N@@.Jvm.D
theorem pd_0 : parseMethodDescriptor "()V" = some ⟨[], none⟩ := by decide +kernel
theorem pd_1 : parseMethodDescriptor "(II)I" = some ⟨[.int, .int], some .int⟩ := by decide +kernel
theorem pd_2 : parseMethodDescriptor "(I)[Ljava/lang/Object;" = some ⟨[.int], some (.array (.object "java/lang/Object"))⟩ := by decide +kernel
theorem pd_3 : parseMethodDescriptor "()[Ljava/lang/Object;" = some ⟨[], some (.array (.object "java/lang/Object"))⟩ := by decide +kernel
theorem pd_4 : parseMethodDescriptor "(Ljava/lang/Object;[Ljava/lang/Object;I)V" = some ⟨[(.object "java/lang/Object"), (.array (.object "java/lang/Object")), .int], none⟩ := by decide +kernel
theorem pd_5 : parseMethodDescriptor "([Ljava/lang/Object;ILjava/lang/Class;)[Ljava/lang/Object;" = some ⟨[(.array (.object "java/lang/Object")), .int, (.object "java/lang/Class")], some (.array (.object "java/lang/Object"))⟩ := by decide +kernel
theorem pd_6 : parseMethodDescriptor "([Ljava/lang/Object;I)[Ljava/lang/Object;" = some ⟨[(.array (.object "java/lang/Object")), .int], some (.array (.object "java/lang/Object"))⟩ := by decide +kernel
theorem pd_7 : parseMethodDescriptor "(Ljava/lang/Object;)Ljava/lang/Object;" = some ⟨[(.object "java/lang/Object")], some (.object "java/lang/Object")⟩ := by decide +kernel
theorem pd_8 : parseMethodDescriptor "([Ljava/lang/Object;Z)V" = some ⟨[(.array (.object "java/lang/Object")), .boolean], none⟩ := by decide +kernel
theorem pd_9 : parseMethodDescriptor "(Ljava/lang/Object;)V" = some ⟨[(.object "java/lang/Object")], none⟩ := by decide +kernel
theorem pd_10 : parseMethodDescriptor "(Ljava/lang/Object;Ljava/lang/Object;)V" = some ⟨[(.object "java/lang/Object"), (.object "java/lang/Object")], none⟩ := by decide +kernel
theorem pd_11 : parseMethodDescriptor "([Ljava/lang/Object;)Ljava/util/List;" = some ⟨[(.array (.object "java/lang/Object"))], some (.object "java/util/List")⟩ := by decide +kernel
theorem pd_12 : parseMethodDescriptor "()Z" = some ⟨[], some .boolean⟩ := by decide +kernel
theorem pd_13 : parseMethodDescriptor "()Ljava/util/List;" = some ⟨[], some (.object "java/util/List")⟩ := by decide +kernel
theorem pd_14 : parseMethodDescriptor "(Ljava/util/Collection;)Ljava/util/List;" = some ⟨[(.object "java/util/Collection")], some (.object "java/util/List")⟩ := by decide +kernel
theorem pd_15 : parseMethodDescriptor "(I)Ljava/lang/Object;" = some ⟨[.int], some (.object "java/lang/Object")⟩ := by decide +kernel
theorem pd_16 : parseMethodDescriptor "([C)V" = some ⟨[(.array .char)], none⟩ := by decide +kernel
theorem pd_17 : parseMethodDescriptor "(Ljava/lang/Object;)Z" = some ⟨[(.object "java/lang/Object")], some .boolean⟩ := by decide +kernel
theorem pd_18 : parseMethodDescriptor "(Lcom/example/bindgate/bindgate/idl/Declaration$Kind;Ljava/util/List;Ljava/util/List;)V" = some ⟨[(.object "com/example/bindgate/bindgate/idl/Declaration$Kind"), (.object "java/util/List"), (.object "java/util/List")], none⟩ := by decide +kernel
theorem pd_19 : parseMethodDescriptor "()Ljava/lang/String;" = some ⟨[], some (.object "java/lang/String")⟩ := by decide +kernel

def own_SS (Z : State) (dc em el mr : Addr) (kd : ClassId) : Prop := Sta Z Z.heap "java/util/ArrayList" "DEFAULTCAPACITY_EMPTY_ELEMENTDATA" "[Ljava/lang/Object;" (.ref dc) ∧ Sta Z Z.heap "java/util/ImmutableCollections" "EMPTY" "Ljava/lang/Object;" (.ref em) ∧ Sta Z Z.heap "java/util/ImmutableCollections" "EMPTY_LIST" "Ljava/util/ImmutableCollections$ListN;" (.ref el) ∧ Own.Mi Z "[Ljava/lang/Object;" mr ∧ Arv Z Z.heap dc kd (.object "java/lang/Object") (0 : Int32) [] .null
theorem own_lat (x : Int32) : ∀ c ∈ [nar .char ((x &&& 255).toUInt32.toUInt16.toUInt32.toInt32), nar .char (((x.toUInt32 >>> ((8 : Int32) &&& 31).toUInt32).toInt32 &&& 255).toUInt32.toUInt16.toUInt32.toInt32)], ¬ c < 0 ∧ ¬ (255 : Int32) < c := by
  have k : ∀ z : Int32, ¬ nar .char ((z &&& 255).toUInt32.toUInt16.toUInt32.toInt32) < 0 ∧ ¬ (255 : Int32) < nar .char ((z &&& 255).toUInt32.toUInt16.toUInt32.toInt32) := fun z => by
    have a := c_mask z 255 8 (by decide) (by decide)
    rw [i2c_mask]
    show ¬ (z &&& 255).toUInt32.toUInt16.toUInt32.toInt32 < 0 ∧ ¬ (255 : Int32) < (z &&& 255).toUInt32.toUInt16.toUInt32.toInt32
    rw [i2c_mask]
    have e1 : (0 : Int32).toInt = 0 := by decide
    have e2 : (255 : Int32).toInt = 255 := by decide
    rw [Int32.lt_iff_toInt_lt, Int32.lt_iff_toInt_lt, e1, e2]
    omega
  intro c hc
  simp only [List.mem_cons, List.not_mem_nil, or_false] at hc
  rcases hc with rfl | rfl
  · exact k x
  · exact k _
theorem own_three (x : Int32) : (1 : Int32) + (x &&& 1073741823) % 3 = 1 ∨ (1 : Int32) + (x &&& 1073741823) % 3 = 2 ∨ (1 : Int32) + (x &&& 1073741823) % 3 = 3 := by
  have a := c_mask x 1073741823 30 (by decide) (by decide)
  have b := c_irem (x &&& 1073741823) 3 3 (by decide)
  have k : (x &&& 1073741823) % 3 = 0 ∨ (x &&& 1073741823) % 3 = 1 ∨ (x &&& 1073741823) % 3 = 2 := by
    simp only [← Int32.toInt_inj, show (0 : Int32).toInt = 0 from by decide, show (1 : Int32).toInt = 1 from by decide, show (2 : Int32).toInt = 2 from by decide]
    omega
  rcases k with q | q | q <;> rw [q] <;> decide

theorem d9_0 : decode jdk_22_method_1_code 0 = .ok (.aload_n 0, 1) := by decide +kernel
theorem d9_1 : decode jdk_22_method_1_code 1 = .ok (.invokespecial 1, 3) := by decide +kernel
theorem d9_4 : decode jdk_22_method_1_code 4 = .ok (.return_, 1) := by decide +kernel
set_option maxRecDepth 65536 in
set_option maxHeartbeats 40000000 in
theorem m9 (l : Launch) (Z : State) (a0 : Array Value) (w : ∀ (i : Nat) {d : Jvm.Cond}, tables_1[i]? = some d → d.before a0 Z = true) (a : Addr)  (h0 : Heap)  :
    Own.Met l Z (⟨"java/util/AbstractCollection", "<init>", "()V"⟩ : MethodName) jdk_22_method_1_code 1 none [] ({ frames := 1, cells := 0, slots := 0, locals := 12 } : Room) #[(.ref a)] h0 (fun v h L => v = none ∧ h = h0 ∧ L = []) := by
  refine Own.Met.of (plainFor_of_name (by first | (simp [plainName, overriddenIn]; done) | decide +kernel)) ?_
  intro p e s m below meth c T0 hx hby hml hown hnm hret hlk hZ X0 e0
  have hown : s.vm.findClass "java/util/AbstractCollection" = some m.cls := hown
  have hml : c.maxLocals = 1 := hml
  have hnm : meth.name = "<init>" := hnm
  have ef : entryFrame m #[(.ref a)] 1 = mkF m 0 #[.val (.ref a)] [] := by first | (simp [entryFrame, mkF, argsToLocals, Value.category]; done) | rfl
  rw [ef]
  refine Own.aloadN 1 X0 hx (hb hby d9_0) rfl rfl rfl ?_
  refine Own.initObj 4 0 X0 hx hZ hown (w 52 rfl) (w 12 rfl) (w 13 rfl) e0 (by rw [hml]; rfl) (hb hby d9_1) rfl (by decide) (Nat.le_of_eq rfl) (by decide) ?_
  intro T1 X1 e1
  refine Own.retVoid X1 hx hlk hret (hb hby d9_4) (by decide) (by decide) ?_
  exact ⟨rfl, e1, rfl⟩
theorem d26_0 : decode jdk_47_method_1_code 0 = .ok (.aload_n 0, 1) := by decide +kernel
theorem d26_1 : decode jdk_47_method_1_code 1 = .ok (.invokespecial 1, 3) := by decide +kernel
theorem d26_4 : decode jdk_47_method_1_code 4 = .ok (.return_, 1) := by decide +kernel
set_option maxRecDepth 65536 in
set_option maxHeartbeats 40000000 in
theorem m26 (l : Launch) (Z : State) (a0 : Array Value) (w : ∀ (i : Nat) {d : Jvm.Cond}, tables_1[i]? = some d → d.before a0 Z = true) (a : Addr)  (h0 : Heap)  :
    Own.Met l Z (⟨"java/util/ImmutableCollections$AbstractImmutableCollection", "<init>", "()V"⟩ : MethodName) jdk_47_method_1_code 1 none [] ({ frames := 2, cells := 0, slots := 0, locals := 24 } : Room) #[(.ref a)] h0 (fun v h L => v = none ∧ h = h0 ∧ L = []) := by
  refine Own.Met.of (plainFor_of_name (by first | (simp [plainName, overriddenIn]; done) | decide +kernel)) ?_
  intro p e s m below meth c T0 hx hby hml hown hnm hret hlk hZ X0 e0
  have hown : s.vm.findClass "java/util/ImmutableCollections$AbstractImmutableCollection" = some m.cls := hown
  have hml : c.maxLocals = 1 := hml
  have hnm : meth.name = "<init>" := hnm
  have ef : entryFrame m #[(.ref a)] 1 = mkF m 0 #[.val (.ref a)] [] := by first | (simp [entryFrame, mkF, argsToLocals, Value.category]; done) | rfl
  rw [ef]
  refine Own.aloadN 1 X0 hx (hb hby d26_0) rfl rfl rfl ?_
  refine Own.callInit 4 0 a [] [] X0 hx hZ hown (m9 l Z a0 w a h0) rfl (w 173 rfl) (w 47 rfl) (w 50 rfl) (w 51 rfl) (by decide) e0 (by decide) (by decide) (by decide) (by decide) (by rw [hml]; rfl) (lenOf pd_0 rfl) rfl (Nat.le_of_eq rfl) (hb hby d26_1) rfl ?_
  rintro vv T1 L1 X1 ⟨rfl, hh1, rfl⟩
  refine Own.retVoid X1 hx hlk hret (hb hby d26_4) (by decide) (by decide) ?_
  exact ⟨rfl, hh1, rfl⟩
theorem d25_0 : decode jdk_46_method_1_code 0 = .ok (.aload_n 0, 1) := by decide +kernel
theorem d25_1 : decode jdk_46_method_1_code 1 = .ok (.invokespecial 1, 3) := by decide +kernel
theorem d25_4 : decode jdk_46_method_1_code 4 = .ok (.return_, 1) := by decide +kernel
set_option maxRecDepth 65536 in
set_option maxHeartbeats 40000000 in
theorem m25 (l : Launch) (Z : State) (a0 : Array Value) (w : ∀ (i : Nat) {d : Jvm.Cond}, tables_1[i]? = some d → d.before a0 Z = true) (a : Addr)  (h0 : Heap)  :
    Own.Met l Z (⟨"java/util/ImmutableCollections$AbstractImmutableList", "<init>", "()V"⟩ : MethodName) jdk_46_method_1_code 1 none [] ({ frames := 3, cells := 0, slots := 0, locals := 36 } : Room) #[(.ref a)] h0 (fun v h L => v = none ∧ h = h0 ∧ L = []) := by
  refine Own.Met.of (plainFor_of_name (by first | (simp [plainName, overriddenIn]; done) | decide +kernel)) ?_
  intro p e s m below meth c T0 hx hby hml hown hnm hret hlk hZ X0 e0
  have hown : s.vm.findClass "java/util/ImmutableCollections$AbstractImmutableList" = some m.cls := hown
  have hml : c.maxLocals = 1 := hml
  have hnm : meth.name = "<init>" := hnm
  have ef : entryFrame m #[(.ref a)] 1 = mkF m 0 #[.val (.ref a)] [] := by first | (simp [entryFrame, mkF, argsToLocals, Value.category]; done) | rfl
  rw [ef]
  refine Own.aloadN 1 X0 hx (hb hby d25_0) rfl rfl rfl ?_
  refine Own.callInit 4 0 a [] [] X0 hx hZ hown (m26 l Z a0 w a h0) rfl (w 167 rfl) (w 168 rfl) (w 171 rfl) (w 172 rfl) (by decide) e0 (by decide) (by decide) (by decide) (by decide) (by rw [hml]; rfl) (lenOf pd_0 rfl) rfl (Nat.le_of_eq rfl) (hb hby d25_1) rfl ?_
  rintro vv T1 L1 X1 ⟨rfl, hh1, rfl⟩
  refine Own.retVoid X1 hx hlk hret (hb hby d25_4) (by decide) (by decide) ?_
  exact ⟨rfl, hh1, rfl⟩
theorem d8_0 : decode jdk_39_method_1_code 0 = .ok (.aload_n 0, 1) := by decide +kernel
theorem d8_1 : decode jdk_39_method_1_code 1 = .ok (.invokespecial 1, 3) := by decide +kernel
theorem d8_4 : decode jdk_39_method_1_code 4 = .ok (.aload_n 0, 1) := by decide +kernel
theorem d8_5 : decode jdk_39_method_1_code 5 = .ok (.iconst 0, 1) := by decide +kernel
theorem d8_6 : decode jdk_39_method_1_code 6 = .ok (.putfield 7, 3) := by decide +kernel
theorem d8_9 : decode jdk_39_method_1_code 9 = .ok (.return_, 1) := by decide +kernel
set_option maxRecDepth 65536 in
set_option maxHeartbeats 40000000 in
theorem m8 (l : Launch) (Z : State) (a0 : Array Value) (w : ∀ (i : Nat) {d : Jvm.Cond}, tables_1[i]? = some d → d.before a0 Z = true) (a : Addr) (dc em el mr : Addr) (kd : ClassId) (n0 : Nat) (m0 : Int32) (u2 : Value) (h0 : Heap) (Z0 : n0 ≤ h0.size) (X00 : Old Z n0 h0) (SS : own_SS Z dc em el mr kd)(E_a : Exa Z h0 a "java/util/ArrayList") (F1 : Fld Z h0 a "java/util/AbstractList" "modCount" "I" (.int m0)) (F2 : Fld Z h0 a "java/util/ArrayList" "elementData" "[Ljava/lang/Object;" u2) (F3 : Fld Z h0 a "java/util/ArrayList" "size" "I" (.int (0 : Int32))) (g_a : n0 ≤ a) :
    Own.Met l Z (⟨"java/util/AbstractList", "<init>", "()V"⟩ : MethodName) jdk_39_method_1_code 1 none [] ({ frames := 2, cells := 0, slots := 0, locals := 24 } : Room) #[(.ref a)] h0 (fun v h L => v = none ∧ Fr n0 L ∧ Keep h0 h [a] ∧ Fld Z h a "java/util/AbstractList" "modCount" "I" (.int 0) ∧ Fld Z h a "java/util/ArrayList" "elementData" "[Ljava/lang/Object;" u2 ∧ Fld Z h a "java/util/ArrayList" "size" "I" (.int (0 : Int32))) := by
  refine Own.Met.of (plainFor_of_name (by first | (simp [plainName, overriddenIn]; done) | decide +kernel)) ?_
  intro p e s m below meth c T0 hx hby hml hown hnm hret hlk hZ X0 e0
  have hown : s.vm.findClass "java/util/AbstractList" = some m.cls := hown
  have hml : c.maxLocals = 1 := hml
  have hnm : meth.name = "<init>" := hnm
  have ef : entryFrame m #[(.ref a)] 1 = mkF m 0 #[.val (.ref a)] [] := by first | (simp [entryFrame, mkF, argsToLocals, Value.category]; done) | rfl
  rw [ef]
  have N0 := Fr.nil n0
  refine Own.aloadN 1 X0 hx (hb hby d8_0) rfl rfl rfl ?_
  refine Own.callInit 4 0 a [] [] X0 hx hZ hown (m9 l Z a0 w a h0) rfl (w 46 rfl) (w 47 rfl) (w 50 rfl) (w 51 rfl) (by decide) e0 (by decide) (by decide) (by decide) (by decide) (by rw [hml]; rfl) (lenOf pd_0 rfl) rfl (Nat.le_of_eq rfl) (hb hby d8_1) rfl ?_
  rintro vv T1 L1 X1 ⟨rfl, hh1, rfl⟩
  have N1 := Fr.app N0 (Fr.nil _)
  refine Own.aloadN 5 X1 hx (hb hby d8_4) rfl rfl rfl ?_
  refine Own.iconst 6 X1 hx ((0 : Int32)) (hb hby d8_5) rfl rfl ?_
  refine Own.putFld 9 X1 hx hZ hown (host := "") (Or.inl (w 53 rfl)) Via.refl hh1 F1 E_a (Or.inl (w 54 rfl)) (w 35 rfl) (ty := .int) (by decide) rfl rfl (hb hby d8_6) rfl ?_
  intro T2 h2 X2 e2 W2
  have N2 := Fr.snoc X2 N1 g_a
  have Ef_4 := E_a.wr W2
  have Ff_5 := F1.same W2
  have Ff_6 := F2.other W2 (Or.inr (slot_ne (Or.inl (w 57 rfl)) (Or.inl (w 54 rfl)) (by decide) (t := (.array (.object "java/lang/Object"))) (t' := .int) (by decide) (by decide)))
  have Ff_7 := F3.other W2 (Or.inr (slot_ne (Or.inl (w 66 rfl)) (Or.inl (w 54 rfl)) (by decide) (t := .int) (t' := .int) (by decide) (by decide)))
  have O2 := X00.wr W2 g_a
  have zl2 := Nat.le_trans Z0 (Nat.le_of_eq W2.size.symm)
  have K2 := (Keep.refl h0 [a]).wr W2 (Or.inl (List.mem_of_getElem? (i := 0) rfl))
  refine Own.retVoid X2 hx hlk hret (hb hby d8_9) (by decide) (by decide) ?_
  rw [e2]
  exact ⟨rfl, N2, K2, Ff_5, Ff_6, Ff_7⟩
theorem d7_0 : decode jdk_38_method_2_code 0 = .ok (.aload_n 0, 1) := by decide +kernel
theorem d7_1 : decode jdk_38_method_2_code 1 = .ok (.invokespecial 1, 3) := by decide +kernel
theorem d7_4 : decode jdk_38_method_2_code 4 = .ok (.aload_n 0, 1) := by decide +kernel
theorem d7_5 : decode jdk_38_method_2_code 5 = .ok (.getstatic 39, 3) := by decide +kernel
theorem d7_8 : decode jdk_38_method_2_code 8 = .ok (.putfield 9, 3) := by decide +kernel
theorem d7_11 : decode jdk_38_method_2_code 11 = .ok (.return_, 1) := by decide +kernel
set_option maxRecDepth 65536 in
set_option maxHeartbeats 40000000 in
theorem m7 (l : Launch) (Z : State) (a0 : Array Value) (w : ∀ (i : Nat) {d : Jvm.Cond}, tables_1[i]? = some d → d.before a0 Z = true) (a : Addr) (dc em el mr : Addr) (kd : ClassId) (n0 : Nat) (m0 : Int32) (u2 : Value) (h0 : Heap) (Z0 : n0 ≤ h0.size) (X00 : Old Z n0 h0) (SS : own_SS Z dc em el mr kd)(E_a : Exa Z h0 a "java/util/ArrayList") (F1 : Fld Z h0 a "java/util/AbstractList" "modCount" "I" (.int m0)) (F2 : Fld Z h0 a "java/util/ArrayList" "elementData" "[Ljava/lang/Object;" u2) (F3 : Fld Z h0 a "java/util/ArrayList" "size" "I" (.int (0 : Int32))) (g_a : n0 ≤ a) :
    Own.Met l Z (⟨"java/util/ArrayList", "<init>", "()V"⟩ : MethodName) jdk_38_method_2_code 1 none [] ({ frames := 3, cells := 0, slots := 0, locals := 36 } : Room) #[(.ref a)] h0 (fun v h L => v = none ∧ Fr n0 L ∧ Keep h0 h [a] ∧ Fld Z h a "java/util/AbstractList" "modCount" "I" (.int 0) ∧ Fld Z h a "java/util/ArrayList" "elementData" "[Ljava/lang/Object;" (.ref dc) ∧ Fld Z h a "java/util/ArrayList" "size" "I" (.int (0 : Int32))) := by
  refine Own.Met.of (plainFor_of_name (by first | (simp [plainName, overriddenIn]; done) | decide +kernel)) ?_
  intro p e s m below meth c T0 hx hby hml hown hnm hret hlk hZ X0 e0
  have hown : s.vm.findClass "java/util/ArrayList" = some m.cls := hown
  have hml : c.maxLocals = 1 := hml
  have hnm : meth.name = "<init>" := hnm
  have ef : entryFrame m #[(.ref a)] 1 = mkF m 0 #[.val (.ref a)] [] := by first | (simp [entryFrame, mkF, argsToLocals, Value.category]; done) | rfl
  rw [ef]
  have N0 := Fr.nil n0
  refine Own.aloadN 1 X0 hx (hb hby d7_0) rfl rfl rfl ?_
  refine Own.callInit 4 0 a [] [] X0 hx hZ hown (m8 l Z a0 w a dc em el mr kd n0 m0 u2 _ Z0 X00 SS E_a F1 F2 F3 g_a) rfl (w 40 rfl) (w 41 rfl) (w 44 rfl) (w 45 rfl) (by decide) e0 (by decide) (by decide) (by decide) (by decide) (by rw [hml]; rfl) (lenOf pd_0 rfl) rfl (Nat.le_of_eq rfl) (hb hby d7_1) rfl ?_
  rintro vv T1 L1 X1 ⟨rfl, N1q, K1, Fm1, Fe1, Fz1⟩
  have N1 := Fr.app N0 N1q
  have O1 := X00.keep K1 (allS g_a all0)
  have Ef_3 := E_a.keep K1
  have zl1 := Nat.le_trans Z0 K1.1
  have KK1 := (Keep.refl h0 [a]).trans K1 (allS (Or.inl (List.mem_of_getElem? (i := 0) rfl)) all0)
  refine Own.aloadN 5 X1 hx (hb hby d7_4) rfl rfl rfl ?_
  refine Own.getSta 8 X1 hx hZ hown (host := "") (Or.inl (w 55 rfl)) Via.refl rfl (SS.1.ext O1.2) (hb hby d7_5) rfl ?_
  intro T7 X7 e7
  refine Own.putFld 11 X7 hx hZ hown (host := "") (Or.inl (w 56 rfl)) Via.refl e7 Fe1 Ef_3 (Or.inl (w 57 rfl)) (w 35 rfl) (ty := (.array (.object "java/lang/Object"))) (by decide) rfl rfl (hb hby d7_8) rfl ?_
  intro T8 h8 X8 e8 W8
  have N8 := Fr.snoc X8 N1 g_a
  have Ef_10 := Ef_3.wr W8
  have Ff_11 := Fm1.other W8 (Or.inr (slot_ne (Or.inl (w 54 rfl)) (Or.inl (w 57 rfl)) (by decide) (t := .int) (t' := (.array (.object "java/lang/Object"))) (by decide) (by decide)))
  have Ff_12 := Fe1.same W8
  have Ff_13 := Fz1.other W8 (Or.inr (slot_ne (Or.inl (w 66 rfl)) (Or.inl (w 57 rfl)) (by decide) (t := .int) (t' := (.array (.object "java/lang/Object"))) (by decide) (by decide)))
  have O8 := O1.wr W8 g_a
  have zl8 := Nat.le_trans zl1 (Nat.le_of_eq W8.size.symm)
  have K8 := KK1.wr W8 (Or.inl (List.mem_of_getElem? (i := 0) rfl))
  refine Own.retVoid X8 hx hlk hret (hb hby d7_11) (by decide) (by decide) ?_
  rw [e8]
  exact ⟨rfl, N8, K8, Ff_11, Ff_12, Ff_13⟩
theorem d14_0 : decode jdk_29_method_65_code 0 = .ok (.iload_n 0, 1) := by decide +kernel
theorem d14_1 : decode jdk_29_method_65_code 1 = .ok (.iload_n 1, 1) := by decide +kernel
theorem d14_2 : decode jdk_29_method_65_code 2 = .ok (.if_icmp .lt 7, 3) := by decide +kernel
theorem d14_5 : decode jdk_29_method_65_code 5 = .ok (.iload_n 0, 1) := by decide +kernel
theorem d14_6 : decode jdk_29_method_65_code 6 = .ok (.goto 4, 3) := by decide +kernel
theorem d14_10 : decode jdk_29_method_65_code 10 = .ok (.ireturn, 1) := by decide +kernel
set_option maxRecDepth 65536 in
set_option maxHeartbeats 40000000 in
theorem m14 (l : Launch) (Z : State) (a0 : Array Value) (w : ∀ (i : Nat) {d : Jvm.Cond}, tables_1[i]? = some d → d.before a0 Z = true)   (h0 : Heap)  :
    Own.Met l Z (⟨"java/lang/Math", "max", "(II)I"⟩ : MethodName) jdk_29_method_65_code 2 (some .int) [] ({ frames := 0, cells := 0, slots := 0, locals := 0 } : Room) #[(.int (10 : Int32)), (.int (1 : Int32))] h0 (fun v h L => v = some (.int (10 : Int32)) ∧ h = h0 ∧ L = []) := by
  refine Own.Met.of (Jvm.Free.JP.mathPlain rfl (by decide +kernel)) ?_
  intro p e s m below meth c T0 hx hby hml hown hnm hret hlk hZ X0 e0
  have hown : s.vm.findClass "java/lang/Math" = some m.cls := hown
  have hml : c.maxLocals = 2 := hml
  have hnm : meth.name = "max" := hnm
  have ef : entryFrame m #[(.int (10 : Int32)), (.int (1 : Int32))] 2 = mkF m 0 #[.val (.int (10 : Int32)), .val (.int (1 : Int32))] [] := by first | (simp [entryFrame, mkF, argsToLocals, Value.category]; done) | rfl
  rw [ef]
  refine Own.iloadN 1 X0 hx (hb hby d14_0) rfl rfl ?_
  refine Own.iloadN 2 X0 hx (hb hby d14_1) rfl rfl ?_
  refine Own.icmp_lt 9 5 X0 hx (hb hby d14_2) (by decide) rfl (fun tk => absurd tk (by decide)) (fun tk => ?_)
  refine Own.iloadN 6 X0 hx (hb hby d14_5) rfl rfl ?_
  refine Own.goto 10 X0 hx (hb hby d14_6) (by decide) ?_
  refine Own.retInt X0 hx hlk hret (hb hby d14_10) (by decide) (by decide) ?_
  exact ⟨rfl, e0, rfl⟩
theorem d13_0 : decode jdk_38_method_6_code 0 = .ok (.aload_n 0, 1) := by decide +kernel
theorem d13_1 : decode jdk_38_method_6_code 1 = .ok (.getfield 9, 3) := by decide +kernel
theorem d13_4 : decode jdk_38_method_6_code 4 = .ok (.arraylength, 1) := by decide +kernel
theorem d13_5 : decode jdk_38_method_6_code 5 = .ok (.istore_n 2, 1) := by decide +kernel
theorem d13_6 : decode jdk_38_method_6_code 6 = .ok (.iload_n 2, 1) := by decide +kernel
theorem d13_7 : decode jdk_38_method_6_code 7 = .ok (.ifCond .gt 13, 3) := by decide +kernel
theorem d13_10 : decode jdk_38_method_6_code 10 = .ok (.aload_n 0, 1) := by decide +kernel
theorem d13_11 : decode jdk_38_method_6_code 11 = .ok (.getfield 9, 3) := by decide +kernel
theorem d13_14 : decode jdk_38_method_6_code 14 = .ok (.getstatic 39, 3) := by decide +kernel
theorem d13_17 : decode jdk_38_method_6_code 17 = .ok (.if_acmp .eq 28, 3) := by decide +kernel
theorem d13_45 : decode jdk_38_method_6_code 45 = .ok (.aload_n 0, 1) := by decide +kernel
theorem d13_46 : decode jdk_38_method_6_code 46 = .ok (.bipush 10, 2) := by decide +kernel
theorem d13_48 : decode jdk_38_method_6_code 48 = .ok (.iload_n 1, 1) := by decide +kernel
theorem d13_49 : decode jdk_38_method_6_code 49 = .ok (.invokestatic 79, 3) := by decide +kernel
theorem d13_52 : decode jdk_38_method_6_code 52 = .ok (.anewarray 7, 3) := by decide +kernel
theorem d13_55 : decode jdk_38_method_6_code 55 = .ok (.dup_x1, 1) := by decide +kernel
theorem d13_56 : decode jdk_38_method_6_code 56 = .ok (.putfield 9, 3) := by decide +kernel
theorem d13_59 : decode jdk_38_method_6_code 59 = .ok (.areturn, 1) := by decide +kernel
set_option maxRecDepth 65536 in
set_option maxHeartbeats 40000000 in
theorem m13 (l : Launch) (Z : State) (a0 : Array Value) (w : ∀ (i : Nat) {d : Jvm.Cond}, tables_1[i]? = some d → d.before a0 Z = true) (a : Addr) (dc em el mr : Addr) (kd : ClassId) (n0 : Nat) (mc : Int32) (h0 : Heap) (Z0 : n0 ≤ h0.size) (X00 : Old Z n0 h0) (SS : own_SS Z dc em el mr kd)(E_a : Exa Z h0 a "java/util/ArrayList") (F1 : Fld Z h0 a "java/util/AbstractList" "modCount" "I" (.int mc)) (F2 : Fld Z h0 a "java/util/ArrayList" "elementData" "[Ljava/lang/Object;" (.ref dc)) (F3 : Fld Z h0 a "java/util/ArrayList" "size" "I" (.int (0 : Int32))) (g_a : n0 ≤ a) :
    Own.Met l Z (⟨"java/util/ArrayList", "grow", "(I)[Ljava/lang/Object;"⟩ : MethodName) jdk_38_method_6_code 4 (some (.array (.object "java/lang/Object"))) [] ({ frames := 1, cells := 1, slots := 10, locals := 14 } : Room) #[(.ref a), (.int (1 : Int32))] h0 (fun v h L => ∃ (d : Addr) (k : ClassId), v = some (.ref d) ∧ Fr n0 L ∧ Keep h0 h [a] ∧ h0.size ≤ d ∧ n0 ≤ d ∧ Fld Z h a "java/util/AbstractList" "modCount" "I" (.int mc) ∧ Fld Z h a "java/util/ArrayList" "elementData" "[Ljava/lang/Object;" (.ref d) ∧ Fld Z h a "java/util/ArrayList" "size" "I" (.int (0 : Int32)) ∧ Arv Z h d k (.object "java/lang/Object") (10 : Int32) [.null, .null, .null, .null, .null, .null, .null, .null, .null, .null] .null ∧ Ovr Z k "java/lang/Object" ∧ Exa Z h d "[Ljava/lang/Object;") := by
  refine Own.Met.of (plainFor_of_name (by first | (simp [plainName, overriddenIn]; done) | decide +kernel)) ?_
  intro p e s m below meth c T0 hx hby hml hown hnm hret hlk hZ X0 e0
  have hown : s.vm.findClass "java/util/ArrayList" = some m.cls := hown
  have hml : c.maxLocals = 4 := hml
  have hnm : meth.name = "grow" := hnm
  have ef : entryFrame m #[(.ref a), (.int (1 : Int32))] 4 = mkF m 0 #[.val (.ref a), .val (.int (1 : Int32)), .unset, .unset] [] := by first | (simp [entryFrame, mkF, argsToLocals, Value.category]; done) | rfl
  rw [ef]
  have N0 := Fr.nil n0
  refine Own.aloadN 1 X0 hx (hb hby d13_0) rfl rfl rfl ?_
  refine Own.getFld 4 X0 hx hZ hown (host := "") (Or.inl (w 56 rfl)) Via.refl e0 F2 (hb hby d13_1) rfl ?_
  intro T1 X1 e1
  refine Own.arrLen 5 X1 hx hZ e1 (SS.2.2.2.2.ext X00.2) (hb hby d13_4) rfl ?_
  refine Own.istoreNV 6 #[.val (.ref a), .val (.int (1 : Int32)), .val (.int (0 : Int32)), .unset] X1 hx (hb hby d13_5) rfl rfl ?_
  refine Own.iloadN 7 X1 hx (hb hby d13_6) rfl rfl ?_
  refine Own.if_gt 20 10 X1 hx (hb hby d13_7) (by decide) rfl (fun tk => absurd tk (by decide)) (fun tk => ?_)
  refine Own.aloadN 11 X1 hx (hb hby d13_10) rfl rfl rfl ?_
  refine Own.getFld 14 X1 hx hZ hown (host := "") (Or.inl (w 56 rfl)) Via.refl e1 F2 (hb hby d13_11) rfl ?_
  intro T2 X2 e2
  refine Own.getSta 17 X2 hx hZ hown (host := "") (Or.inl (w 55 rfl)) Via.refl e2 (SS.1.ext X00.2) (hb hby d13_14) rfl ?_
  intro T3 X3 e3
  refine Own.acmp_eq 45 20 X3 hx (hb hby d13_17) rfl rfl (by decide) rfl (fun q => ?_) (fun q => ?_)
  ·
    refine Own.aloadN 46 X3 hx (hb hby d13_45) rfl rfl rfl ?_
    refine Own.bipush 48 X3 hx ((10 : Int32)) (hb hby d13_46) rfl rfl ?_
    refine Own.iloadN 49 X3 hx (hb hby d13_48) rfl rfl ?_
    refine Own.callSt 52 1 [(.int (10 : Int32)), (.int (1 : Int32))] [(.ref a)] X3 hx hZ hown (m14 l Z a0 w _) (w 82 rfl) (w 83 rfl) (w 84 rfl) (w 85 rfl) (by decide) e3 (by decide) (by decide) (by decide) (by decide) (by rw [hml]; rfl) (lenOf pd_1 rfl) rfl (Nat.le_of_eq rfl) (hb hby d13_49) rfl ?_
    rintro vv T4 L4 X4 ⟨rfl, hh4, rfl⟩
    have N4 := Fr.app N0 (Fr.nil _)
    refine Own.newRefArrE 55 10 X4 hx hZ hown (w 86 rfl) (w 87 rfl) hh4 (by decide) (by decide) (by decide) (ad := "[Ljava/lang/Object;") (by decide) (hb hby d13_52) rfl (by decide) (by decide) ?_
    intro T5 h5 d k5 z5 X5 e5 E5 A5 Ov5 Ex5
    have ne_a_d : a ≠ d := Nat.ne_of_lt (Nat.lt_of_lt_of_le E_a.lt (Nat.le_of_eq z5.symm))
    have g_d : n0 ≤ d := Nat.le_trans Z0 (Nat.le_of_eq z5.symm)
    have sz_d : h0.size ≤ d := Nat.le_trans (Keep.refl h0 [a]).1 (Nat.le_of_eq z5.symm)
    have K5 := (Keep.refl h0 [a]).ext E5
    have Ef_7 := E_a.ext E5
    have Ff_8 := F1.ext E5
    have Ff_9 := F2.ext E5
    have Ff_10 := F3.ext E5
    have O5 := X00.ext E5
    have zl5 := Nat.le_trans Z0 E5.1
    have V5 : Arv Z h5 d k5 (.object "java/lang/Object") (10 : Int32) [.null, .null, .null, .null, .null, .null, .null, .null, .null, .null] .null := A5
    refine Own.dupX1 56 X5 hx (hb hby d13_55) rfl rfl rfl ?_
    refine Own.putFld 59 X5 hx hZ hown (host := "") (Or.inl (w 56 rfl)) Via.refl e5 Ff_9 Ef_7 (Or.inl (w 57 rfl)) (w 35 rfl) (ty := (.array (.object "java/lang/Object"))) (by decide) rfl rfl (hb hby d13_56) rfl ?_
    intro T11 h11 X11 e11 W11
    have N11 := Fr.snoc X11 N4 g_a
    have Ef_13 := Ef_7.wr W11
    have Ff_14 := Ff_8.other W11 (Or.inr (slot_ne (Or.inl (w 54 rfl)) (Or.inl (w 57 rfl)) (by decide) (t := .int) (t' := (.array (.object "java/lang/Object"))) (by decide) (by decide)))
    have Ff_15 := Ff_9.same W11
    have Ff_16 := Ff_10.other W11 (Or.inr (slot_ne (Or.inl (w 66 rfl)) (Or.inl (w 57 rfl)) (by decide) (t := .int) (t' := (.array (.object "java/lang/Object"))) (by decide) (by decide)))
    have Vf_17 := V5.other W11 (Ne.symm ne_a_d)
    have Ef_18 := Ex5.wr W11
    have O11 := O5.wr W11 g_a
    have zl11 := Nat.le_trans zl5 (Nat.le_of_eq W11.size.symm)
    have K11 := K5.wr W11 (Or.inl (List.mem_of_getElem? (i := 0) rfl))
    refine Own.retRef X11 hx hlk rfl hret rfl (hb hby d13_59) (by decide) (by decide) ?_
    rw [e11]
    exact ⟨d, k5, rfl, N11, K11, sz_d, g_d, Ff_14, Ff_15, Ff_16, Vf_17, Ov5, Ef_18⟩
  ·
    exact absurd rfl q
theorem d12_0 : decode jdk_38_method_7_code 0 = .ok (.aload_n 0, 1) := by decide +kernel
theorem d12_1 : decode jdk_38_method_7_code 1 = .ok (.aload_n 0, 1) := by decide +kernel
theorem d12_2 : decode jdk_38_method_7_code 2 = .ok (.getfield 48, 3) := by decide +kernel
theorem d12_5 : decode jdk_38_method_7_code 5 = .ok (.iconst 1, 1) := by decide +kernel
theorem d12_6 : decode jdk_38_method_7_code 6 = .ok (.iadd, 1) := by decide +kernel
theorem d12_7 : decode jdk_38_method_7_code 7 = .ok (.invokevirtual 69, 3) := by decide +kernel
theorem d12_10 : decode jdk_38_method_7_code 10 = .ok (.areturn, 1) := by decide +kernel
set_option maxRecDepth 65536 in
set_option maxHeartbeats 40000000 in
theorem m12 (l : Launch) (Z : State) (a0 : Array Value) (w : ∀ (i : Nat) {d : Jvm.Cond}, tables_1[i]? = some d → d.before a0 Z = true) (a : Addr) (dc em el mr : Addr) (kd : ClassId) (n0 : Nat) (mc : Int32) (h0 : Heap) (Z0 : n0 ≤ h0.size) (X00 : Old Z n0 h0) (SS : own_SS Z dc em el mr kd)(E_a : Exa Z h0 a "java/util/ArrayList") (F1 : Fld Z h0 a "java/util/AbstractList" "modCount" "I" (.int mc)) (F2 : Fld Z h0 a "java/util/ArrayList" "elementData" "[Ljava/lang/Object;" (.ref dc)) (F3 : Fld Z h0 a "java/util/ArrayList" "size" "I" (.int (0 : Int32))) (g_a : n0 ≤ a) :
    Own.Met l Z (⟨"java/util/ArrayList", "grow", "()[Ljava/lang/Object;"⟩ : MethodName) jdk_38_method_7_code 1 (some (.array (.object "java/lang/Object"))) [] ({ frames := 2, cells := 1, slots := 10, locals := 29 } : Room) #[(.ref a)] h0 (fun v h L => ∃ (d : Addr) (k : ClassId), v = some (.ref d) ∧ Fr n0 L ∧ Keep h0 h [a] ∧ h0.size ≤ d ∧ n0 ≤ d ∧ Fld Z h a "java/util/AbstractList" "modCount" "I" (.int mc) ∧ Fld Z h a "java/util/ArrayList" "elementData" "[Ljava/lang/Object;" (.ref d) ∧ Fld Z h a "java/util/ArrayList" "size" "I" (.int (0 : Int32)) ∧ Arv Z h d k (.object "java/lang/Object") (10 : Int32) [.null, .null, .null, .null, .null, .null, .null, .null, .null, .null] .null ∧ Ovr Z k "java/lang/Object" ∧ Exa Z h d "[Ljava/lang/Object;") := by
  refine Own.Met.of (plainFor_of_name (by first | (simp [plainName, overriddenIn]; done) | decide +kernel)) ?_
  intro p e s m below meth c T0 hx hby hml hown hnm hret hlk hZ X0 e0
  have hown : s.vm.findClass "java/util/ArrayList" = some m.cls := hown
  have hml : c.maxLocals = 1 := hml
  have hnm : meth.name = "grow" := hnm
  have ef : entryFrame m #[(.ref a)] 1 = mkF m 0 #[.val (.ref a)] [] := by first | (simp [entryFrame, mkF, argsToLocals, Value.category]; done) | rfl
  rw [ef]
  have N0 := Fr.nil n0
  refine Own.aloadN 1 X0 hx (hb hby d12_0) rfl rfl rfl ?_
  refine Own.aloadN 2 X0 hx (hb hby d12_1) rfl rfl rfl ?_
  refine Own.getFld 5 X0 hx hZ hown (host := "") (Or.inl (w 65 rfl)) Via.refl e0 F3 (hb hby d12_2) rfl ?_
  intro T1 X1 e1
  refine Own.iconst 6 X1 hx ((1 : Int32)) (hb hby d12_5) rfl rfl ?_
  refine Own.iadd 7 X1 hx (hb hby d12_6) rfl (show ((0 : Int32) + (1 : Int32)) = (1 : Int32) by decide) ?_
  refine Own.callPr 10 0 a [(.int (1 : Int32))] [] X1 hx hZ hown (m13 l Z a0 w a dc em el mr kd n0 mc _ Z0 X00 SS E_a F1 F2 F3 g_a) E_a (w 77 rfl) (w 79 rfl) (w 35 rfl) (w 78 rfl) (w 36 rfl) (w 81 rfl) (by decide) e1 (by decide) (by decide) (by decide) (by decide) (by rw [hml]; rfl) (lenOf pd_2 rfl) rfl (Nat.le_of_eq rfl) (hb hby d12_7) rfl ?_
  rintro vv T2 L2 X2 ⟨d, k2, rfl, N2q, K2, sz_d, g_d, Fm2, Fe2, Fz2, V2, Ov2, Ex2⟩
  have N2 := Fr.app N0 N2q
  have O2 := X00.keep K2 (allS g_a all0)
  have Ef_4 := E_a.keep K2
  have zl2 := Nat.le_trans Z0 K2.1
  have KK2 := (Keep.refl h0 [a]).trans K2 (allS (Or.inl (List.mem_of_getElem? (i := 0) rfl)) all0)
  have sz_d := sz_d
  refine Own.retRef X2 hx hlk rfl hret rfl (hb hby d12_10) (by decide) (by decide) ?_
  exact ⟨d, k2, rfl, N2, KK2, sz_d, g_d, Fm2, Fe2, Fz2, V2, Ov2, Ex2⟩
theorem d11_0 : decode jdk_38_method_24_code 0 = .ok (.iload_n 3, 1) := by decide +kernel
theorem d11_1 : decode jdk_38_method_24_code 1 = .ok (.aload_n 2, 1) := by decide +kernel
theorem d11_2 : decode jdk_38_method_24_code 2 = .ok (.arraylength, 1) := by decide +kernel
theorem d11_3 : decode jdk_38_method_24_code 3 = .ok (.if_icmp .ne 8, 3) := by decide +kernel
theorem d11_6 : decode jdk_38_method_24_code 6 = .ok (.aload_n 0, 1) := by decide +kernel
theorem d11_7 : decode jdk_38_method_24_code 7 = .ok (.invokevirtual 129, 3) := by decide +kernel
theorem d11_10 : decode jdk_38_method_24_code 10 = .ok (.astore_n 2, 1) := by decide +kernel
theorem d11_11 : decode jdk_38_method_24_code 11 = .ok (.aload_n 2, 1) := by decide +kernel
theorem d11_12 : decode jdk_38_method_24_code 12 = .ok (.iload_n 3, 1) := by decide +kernel
theorem d11_13 : decode jdk_38_method_24_code 13 = .ok (.aload_n 1, 1) := by decide +kernel
theorem d11_14 : decode jdk_38_method_24_code 14 = .ok (.aastore, 1) := by decide +kernel
theorem d11_15 : decode jdk_38_method_24_code 15 = .ok (.aload_n 0, 1) := by decide +kernel
theorem d11_16 : decode jdk_38_method_24_code 16 = .ok (.iload_n 3, 1) := by decide +kernel
theorem d11_17 : decode jdk_38_method_24_code 17 = .ok (.iconst 1, 1) := by decide +kernel
theorem d11_18 : decode jdk_38_method_24_code 18 = .ok (.iadd, 1) := by decide +kernel
theorem d11_19 : decode jdk_38_method_24_code 19 = .ok (.putfield 48, 3) := by decide +kernel
theorem d11_22 : decode jdk_38_method_24_code 22 = .ok (.return_, 1) := by decide +kernel
set_option maxRecDepth 65536 in
set_option maxHeartbeats 40000000 in
theorem m11_0 (l : Launch) (Z : State) (a0 : Array Value) (w : ∀ (i : Nat) {d : Jvm.Cond}, tables_1[i]? = some d → d.before a0 Z = true) (a : Addr) (s0 : Addr) (dc : Addr) (em el mr : Addr) (kd : ClassId) (n0 : Nat) (mc : Int32) (h0 : Heap) (Z0 : n0 ≤ h0.size) (X00 : Old Z n0 h0) (SS : own_SS Z dc em el mr kd)(E_a : Exa Z h0 a "java/util/ArrayList") (F1 : Fld Z h0 a "java/util/AbstractList" "modCount" "I" (.int mc)) (F2 : Fld Z h0 a "java/util/ArrayList" "elementData" "[Ljava/lang/Object;" (.ref dc)) (F3 : Fld Z h0 a "java/util/ArrayList" "size" "I" (.int (0 : Int32))) (g_a : n0 ≤ a)(E_s0 : Exa Z h0 s0 "java/lang/String") :
    Own.Met l Z (⟨"java/util/ArrayList", "add", "(Ljava/lang/Object;[Ljava/lang/Object;I)V"⟩ : MethodName) jdk_38_method_24_code 4 none [] ({ frames := 3, cells := 1, slots := 10, locals := 41 } : Room) #[(.ref a), (.ref s0), (.ref dc), (.int (0 : Int32))] h0 (fun v h L => ∃ (d : Addr) (k : ClassId), v = none ∧ Fr n0 L ∧ Keep h0 h [a] ∧ h0.size ≤ d ∧ n0 ≤ d ∧ Fld Z h a "java/util/AbstractList" "modCount" "I" (.int mc) ∧ Fld Z h a "java/util/ArrayList" "elementData" "[Ljava/lang/Object;" (.ref d) ∧ Fld Z h a "java/util/ArrayList" "size" "I" (.int (1 : Int32)) ∧ Arv Z h d k (.object "java/lang/Object") (10 : Int32) [(.ref s0), .null, .null, .null, .null, .null, .null, .null, .null, .null] .null ∧ Ovr Z k "java/lang/Object" ∧ Exa Z h d "[Ljava/lang/Object;") := by
  refine Own.Met.of (plainFor_of_name (by first | (simp [plainName, overriddenIn]; done) | decide +kernel)) ?_
  intro p e s m below meth c T0 hx hby hml hown hnm hret hlk hZ X0 e0
  have hown : s.vm.findClass "java/util/ArrayList" = some m.cls := hown
  have hml : c.maxLocals = 4 := hml
  have hnm : meth.name = "add" := hnm
  have ef : entryFrame m #[(.ref a), (.ref s0), (.ref dc), (.int (0 : Int32))] 4 = mkF m 0 #[.val (.ref a), .val (.ref s0), .val (.ref dc), .val (.int (0 : Int32))] [] := by first | (simp [entryFrame, mkF, argsToLocals, Value.category]; done) | rfl
  rw [ef]
  have N0 := Fr.nil n0
  refine Own.iloadN 1 X0 hx (hb hby d11_0) rfl rfl ?_
  refine Own.aloadN 2 X0 hx (hb hby d11_1) rfl rfl rfl ?_
  refine Own.arrLen 3 X0 hx hZ e0 (SS.2.2.2.2.ext X00.2) (hb hby d11_2) rfl ?_
  refine Own.icmp_ne 11 6 X0 hx (hb hby d11_3) (by decide) rfl (fun tk => absurd tk (by decide)) (fun tk => ?_)
  refine Own.aloadN 7 X0 hx (hb hby d11_6) rfl rfl rfl ?_
  refine Own.callPr 10 0 a [] [] X0 hx hZ hown (m12 l Z a0 w a dc em el mr kd n0 mc _ Z0 X00 SS E_a F1 F2 F3 g_a) E_a (w 72 rfl) (w 74 rfl) (w 35 rfl) (w 73 rfl) (w 36 rfl) (w 76 rfl) (by decide) e0 (by decide) (by decide) (by decide) (by decide) (by rw [hml]; rfl) (lenOf pd_3 rfl) rfl (Nat.le_of_eq rfl) (hb hby d11_7) rfl ?_
  rintro vv T1 L1 X1 ⟨d, k1, rfl, N1q, K1, sz_d, g_d, Fm1, Fe1, Fz1, V1, Ov1, Ex1⟩
  have ne_a_d : a ≠ d := Nat.ne_of_lt (Nat.lt_of_lt_of_le E_a.lt sz_d)
  have N1 := Fr.app N0 N1q
  have O1 := X00.keep K1 (allS g_a all0)
  have Ef_3 := E_a.keep K1
  have Ef_7 := E_s0.keep K1
  have zl1 := Nat.le_trans Z0 K1.1
  have KK1 := (Keep.refl h0 [a]).trans K1 (allS (Or.inl (List.mem_of_getElem? (i := 0) rfl)) all0)
  refine Own.astoreN 11 #[.val (.ref a), .val (.ref s0), .val (.ref d), .val (.int (0 : Int32))] X1 hx (hb hby d11_10) rfl rfl rfl ?_
  refine Own.aloadN 12 X1 hx (hb hby d11_11) rfl rfl rfl ?_
  refine Own.iloadN 13 X1 hx (hb hby d11_12) rfl rfl ?_
  refine Own.aloadN 14 X1 hx (hb hby d11_13) rfl rfl rfl ?_
  refine Own.aastore 15 X1 hx hZ rfl V1 rfl rfl (by obtain ⟨cq, Aq, qq, -⟩ := V1; exact Sto.ofV Aq qq Ov1 (Ins.of_exa Ef_7 (w 88 rfl))) (by decide) (Nat.le_of_ble_eq_true rfl) (hb hby d11_14) rfl ?_
  intro T8 h8 X8 e8 W8 A8
  have N8 := Fr.snoc X8 N1 g_d
  have Ef_10 := Ef_3.wr W8
  have Ef_11 := Ef_7.wr W8
  have Ff_12 := Fm1.other W8 (Or.inl ne_a_d)
  have Ff_13 := Fe1.other W8 (Or.inl ne_a_d)
  have Ff_14 := Fz1.other W8 (Or.inl ne_a_d)
  have Ef_16 := Ex1.wr W8
  have O8 := O1.wr W8 g_d
  have zl8 := Nat.le_trans zl1 (Nat.le_of_eq W8.size.symm)
  have K8 := KK1.wr W8 (Or.inr sz_d)
  have V8 : Arv Z h8 d k1 (.object "java/lang/Object") (10 : Int32) [(.ref s0), .null, .null, .null, .null, .null, .null, .null, .null, .null] .null := A8
  refine Own.aloadN 16 X8 hx (hb hby d11_15) rfl rfl rfl ?_
  refine Own.iloadN 17 X8 hx (hb hby d11_16) rfl rfl ?_
  refine Own.iconst 18 X8 hx ((1 : Int32)) (hb hby d11_17) rfl rfl ?_
  refine Own.iadd 19 X8 hx (hb hby d11_18) rfl (show ((0 : Int32) + (1 : Int32)) = (1 : Int32) by decide) ?_
  refine Own.putFld 22 X8 hx hZ hown (host := "") (Or.inl (w 65 rfl)) Via.refl e8 Ff_14 Ef_10 (Or.inl (w 66 rfl)) (w 35 rfl) (ty := .int) (by decide) rfl rfl (hb hby d11_19) rfl ?_
  intro T17 h17 X17 e17 W17
  have N17 := Fr.snoc X17 N8 g_a
  have Ef_19 := Ef_10.wr W17
  have Ef_20 := Ef_11.wr W17
  have Ff_21 := Ff_12.other W17 (Or.inr (slot_ne (Or.inl (w 54 rfl)) (Or.inl (w 66 rfl)) (by decide) (t := .int) (t' := .int) (by decide) (by decide)))
  have Ff_22 := Ff_13.other W17 (Or.inr (slot_ne (Or.inl (w 57 rfl)) (Or.inl (w 66 rfl)) (by decide) (t := (.array (.object "java/lang/Object"))) (t' := .int) (by decide) (by decide)))
  have Ff_23 := Ff_14.same W17
  have Vf_24 := V8.other W17 (Ne.symm ne_a_d)
  have Ef_25 := Ef_16.wr W17
  have O17 := O8.wr W17 g_a
  have zl17 := Nat.le_trans zl8 (Nat.le_of_eq W17.size.symm)
  have K17 := K8.wr W17 (Or.inl (List.mem_of_getElem? (i := 0) rfl))
  refine Own.retVoid X17 hx hlk hret (hb hby d11_22) (by decide) (by decide) ?_
  rw [e17]
  exact ⟨d, k1, rfl, N17, K17, sz_d, g_d, Ff_21, Ff_22, Ff_23, Vf_24, Ov1, Ef_25⟩
set_option maxRecDepth 65536 in
set_option maxHeartbeats 40000000 in
theorem m11_1 (l : Launch) (Z : State) (a0 : Array Value) (w : ∀ (i : Nat) {d : Jvm.Cond}, tables_1[i]? = some d → d.before a0 Z = true) (a : Addr) (s1 : Addr) (d : Addr) (dc em el mr : Addr) (kd : ClassId) (n0 : Nat) (mc : Int32) (s0 : Addr) (k : ClassId) (h0 : Heap) (Z0 : n0 ≤ h0.size) (X00 : Old Z n0 h0) (SS : own_SS Z dc em el mr kd)(E_a : Exa Z h0 a "java/util/ArrayList") (F1 : Fld Z h0 a "java/util/AbstractList" "modCount" "I" (.int mc)) (F2 : Fld Z h0 a "java/util/ArrayList" "elementData" "[Ljava/lang/Object;" (.ref d)) (F3 : Fld Z h0 a "java/util/ArrayList" "size" "I" (.int (1 : Int32))) (g_a : n0 ≤ a)(E_s0 : Exa Z h0 s0 "java/lang/String") (E_s1 : Exa Z h0 s1 "java/lang/String") (g_d : n0 ≤ d) (ne_a_d : a ≠ d) (V_d : Arv Z h0 d k (.object "java/lang/Object") (10 : Int32) [(.ref s0), .null, .null, .null, .null, .null, .null, .null, .null, .null] .null) (Ov_d : Ovr Z k "java/lang/Object") (E_d : Exa Z h0 d "[Ljava/lang/Object;") :
    Own.Met l Z (⟨"java/util/ArrayList", "add", "(Ljava/lang/Object;[Ljava/lang/Object;I)V"⟩ : MethodName) jdk_38_method_24_code 4 none [] ({ frames := 0, cells := 0, slots := 0, locals := 0 } : Room) #[(.ref a), (.ref s1), (.ref d), (.int (1 : Int32))] h0 (fun v h L => v = none ∧ Fr n0 L ∧ Keep h0 h [a, d] ∧ Fld Z h a "java/util/AbstractList" "modCount" "I" (.int mc) ∧ Fld Z h a "java/util/ArrayList" "elementData" "[Ljava/lang/Object;" (.ref d) ∧ Fld Z h a "java/util/ArrayList" "size" "I" (.int (2 : Int32)) ∧ Arv Z h d k (.object "java/lang/Object") (10 : Int32) [(.ref s0), (.ref s1), .null, .null, .null, .null, .null, .null, .null, .null] .null) := by
  refine Own.Met.of (plainFor_of_name (by first | (simp [plainName, overriddenIn]; done) | decide +kernel)) ?_
  intro p e s m below meth c T0 hx hby hml hown hnm hret hlk hZ X0 e0
  have hown : s.vm.findClass "java/util/ArrayList" = some m.cls := hown
  have hml : c.maxLocals = 4 := hml
  have hnm : meth.name = "add" := hnm
  have ef : entryFrame m #[(.ref a), (.ref s1), (.ref d), (.int (1 : Int32))] 4 = mkF m 0 #[.val (.ref a), .val (.ref s1), .val (.ref d), .val (.int (1 : Int32))] [] := by first | (simp [entryFrame, mkF, argsToLocals, Value.category]; done) | rfl
  rw [ef]
  have N0 := Fr.nil n0
  refine Own.iloadN 1 X0 hx (hb hby d11_0) rfl rfl ?_
  refine Own.aloadN 2 X0 hx (hb hby d11_1) rfl rfl rfl ?_
  refine Own.arrLen 3 X0 hx hZ e0 V_d (hb hby d11_2) rfl ?_
  refine Own.icmp_ne 11 6 X0 hx (hb hby d11_3) (by decide) rfl (fun tk => ?_) (fun tk => absurd tk (by decide))
  refine Own.aloadN 12 X0 hx (hb hby d11_11) rfl rfl rfl ?_
  refine Own.iloadN 13 X0 hx (hb hby d11_12) rfl rfl ?_
  refine Own.aloadN 14 X0 hx (hb hby d11_13) rfl rfl rfl ?_
  refine Own.aastore 15 X0 hx hZ e0 V_d rfl rfl (by obtain ⟨cq, Aq, qq, -⟩ := V_d; exact Sto.ofV Aq qq Ov_d (Ins.of_exa E_s1 (w 88 rfl))) (by decide) (Nat.le_of_ble_eq_true rfl) (hb hby d11_14) rfl ?_
  intro T1 h1 X1 e1 W1 A1
  have N1 := Fr.snoc X1 N0 g_d
  have Ef_3 := E_a.wr W1
  have Ff_4 := F1.other W1 (Or.inl ne_a_d)
  have Ff_5 := F2.other W1 (Or.inl ne_a_d)
  have Ff_6 := F3.other W1 (Or.inl ne_a_d)
  have Ef_7 := E_s1.wr W1
  have Ef_9 := E_d.wr W1
  have O1 := X00.wr W1 g_d
  have zl1 := Nat.le_trans Z0 (Nat.le_of_eq W1.size.symm)
  have K1 := (Keep.refl h0 [a, d]).wr W1 (Or.inl (List.mem_of_getElem? (i := 1) rfl))
  have V1 : Arv Z h1 d k (.object "java/lang/Object") (10 : Int32) [(.ref s0), (.ref s1), .null, .null, .null, .null, .null, .null, .null, .null] .null := A1
  refine Own.aloadN 16 X1 hx (hb hby d11_15) rfl rfl rfl ?_
  refine Own.iloadN 17 X1 hx (hb hby d11_16) rfl rfl ?_
  refine Own.iconst 18 X1 hx ((1 : Int32)) (hb hby d11_17) rfl rfl ?_
  refine Own.iadd 19 X1 hx (hb hby d11_18) rfl (show ((1 : Int32) + (1 : Int32)) = (2 : Int32) by decide) ?_
  refine Own.putFld 22 X1 hx hZ hown (host := "") (Or.inl (w 65 rfl)) Via.refl e1 Ff_6 Ef_3 (Or.inl (w 66 rfl)) (w 35 rfl) (ty := .int) (by decide) rfl rfl (hb hby d11_19) rfl ?_
  intro T10 h10 X10 e10 W10
  have N10 := Fr.snoc X10 N1 g_a
  have Ef_12 := Ef_3.wr W10
  have Ff_13 := Ff_4.other W10 (Or.inr (slot_ne (Or.inl (w 54 rfl)) (Or.inl (w 66 rfl)) (by decide) (t := .int) (t' := .int) (by decide) (by decide)))
  have Ff_14 := Ff_5.other W10 (Or.inr (slot_ne (Or.inl (w 57 rfl)) (Or.inl (w 66 rfl)) (by decide) (t := (.array (.object "java/lang/Object"))) (t' := .int) (by decide) (by decide)))
  have Ff_15 := Ff_6.same W10
  have Ef_16 := Ef_7.wr W10
  have Vf_17 := V1.other W10 (Ne.symm ne_a_d)
  have Ef_18 := Ef_9.wr W10
  have O10 := O1.wr W10 g_a
  have zl10 := Nat.le_trans zl1 (Nat.le_of_eq W10.size.symm)
  have K10 := K1.wr W10 (Or.inl (List.mem_of_getElem? (i := 0) rfl))
  refine Own.retVoid X10 hx hlk hret (hb hby d11_22) (by decide) (by decide) ?_
  rw [e10]
  exact ⟨rfl, N10, K10, Ff_13, Ff_14, Ff_15, Vf_17⟩
set_option maxRecDepth 65536 in
set_option maxHeartbeats 40000000 in
theorem m11_2 (l : Launch) (Z : State) (a0 : Array Value) (w : ∀ (i : Nat) {d : Jvm.Cond}, tables_1[i]? = some d → d.before a0 Z = true) (a : Addr) (s2 : Addr) (d : Addr) (dc em el mr : Addr) (kd : ClassId) (n0 : Nat) (mc : Int32) (s0 s1 : Addr) (k : ClassId) (h0 : Heap) (Z0 : n0 ≤ h0.size) (X00 : Old Z n0 h0) (SS : own_SS Z dc em el mr kd)(E_a : Exa Z h0 a "java/util/ArrayList") (F1 : Fld Z h0 a "java/util/AbstractList" "modCount" "I" (.int mc)) (F2 : Fld Z h0 a "java/util/ArrayList" "elementData" "[Ljava/lang/Object;" (.ref d)) (F3 : Fld Z h0 a "java/util/ArrayList" "size" "I" (.int (2 : Int32))) (g_a : n0 ≤ a)(E_s0 : Exa Z h0 s0 "java/lang/String") (E_s1 : Exa Z h0 s1 "java/lang/String") (E_s2 : Exa Z h0 s2 "java/lang/String") (g_d : n0 ≤ d) (ne_a_d : a ≠ d) (V_d : Arv Z h0 d k (.object "java/lang/Object") (10 : Int32) [(.ref s0), (.ref s1), .null, .null, .null, .null, .null, .null, .null, .null] .null) (Ov_d : Ovr Z k "java/lang/Object") (E_d : Exa Z h0 d "[Ljava/lang/Object;") :
    Own.Met l Z (⟨"java/util/ArrayList", "add", "(Ljava/lang/Object;[Ljava/lang/Object;I)V"⟩ : MethodName) jdk_38_method_24_code 4 none [] ({ frames := 0, cells := 0, slots := 0, locals := 0 } : Room) #[(.ref a), (.ref s2), (.ref d), (.int (2 : Int32))] h0 (fun v h L => v = none ∧ Fr n0 L ∧ Keep h0 h [a, d] ∧ Fld Z h a "java/util/AbstractList" "modCount" "I" (.int mc) ∧ Fld Z h a "java/util/ArrayList" "elementData" "[Ljava/lang/Object;" (.ref d) ∧ Fld Z h a "java/util/ArrayList" "size" "I" (.int (3 : Int32)) ∧ Arv Z h d k (.object "java/lang/Object") (10 : Int32) [(.ref s0), (.ref s1), (.ref s2), .null, .null, .null, .null, .null, .null, .null] .null) := by
  refine Own.Met.of (plainFor_of_name (by first | (simp [plainName, overriddenIn]; done) | decide +kernel)) ?_
  intro p e s m below meth c T0 hx hby hml hown hnm hret hlk hZ X0 e0
  have hown : s.vm.findClass "java/util/ArrayList" = some m.cls := hown
  have hml : c.maxLocals = 4 := hml
  have hnm : meth.name = "add" := hnm
  have ef : entryFrame m #[(.ref a), (.ref s2), (.ref d), (.int (2 : Int32))] 4 = mkF m 0 #[.val (.ref a), .val (.ref s2), .val (.ref d), .val (.int (2 : Int32))] [] := by first | (simp [entryFrame, mkF, argsToLocals, Value.category]; done) | rfl
  rw [ef]
  have N0 := Fr.nil n0
  refine Own.iloadN 1 X0 hx (hb hby d11_0) rfl rfl ?_
  refine Own.aloadN 2 X0 hx (hb hby d11_1) rfl rfl rfl ?_
  refine Own.arrLen 3 X0 hx hZ e0 V_d (hb hby d11_2) rfl ?_
  refine Own.icmp_ne 11 6 X0 hx (hb hby d11_3) (by decide) rfl (fun tk => ?_) (fun tk => absurd tk (by decide))
  refine Own.aloadN 12 X0 hx (hb hby d11_11) rfl rfl rfl ?_
  refine Own.iloadN 13 X0 hx (hb hby d11_12) rfl rfl ?_
  refine Own.aloadN 14 X0 hx (hb hby d11_13) rfl rfl rfl ?_
  refine Own.aastore 15 X0 hx hZ e0 V_d rfl rfl (by obtain ⟨cq, Aq, qq, -⟩ := V_d; exact Sto.ofV Aq qq Ov_d (Ins.of_exa E_s2 (w 88 rfl))) (by decide) (Nat.le_of_ble_eq_true rfl) (hb hby d11_14) rfl ?_
  intro T1 h1 X1 e1 W1 A1
  have N1 := Fr.snoc X1 N0 g_d
  have Ef_3 := E_a.wr W1
  have Ff_4 := F1.other W1 (Or.inl ne_a_d)
  have Ff_5 := F2.other W1 (Or.inl ne_a_d)
  have Ff_6 := F3.other W1 (Or.inl ne_a_d)
  have Ef_7 := E_s2.wr W1
  have Ef_9 := E_d.wr W1
  have O1 := X00.wr W1 g_d
  have zl1 := Nat.le_trans Z0 (Nat.le_of_eq W1.size.symm)
  have K1 := (Keep.refl h0 [a, d]).wr W1 (Or.inl (List.mem_of_getElem? (i := 1) rfl))
  have V1 : Arv Z h1 d k (.object "java/lang/Object") (10 : Int32) [(.ref s0), (.ref s1), (.ref s2), .null, .null, .null, .null, .null, .null, .null] .null := A1
  refine Own.aloadN 16 X1 hx (hb hby d11_15) rfl rfl rfl ?_
  refine Own.iloadN 17 X1 hx (hb hby d11_16) rfl rfl ?_
  refine Own.iconst 18 X1 hx ((1 : Int32)) (hb hby d11_17) rfl rfl ?_
  refine Own.iadd 19 X1 hx (hb hby d11_18) rfl (show ((2 : Int32) + (1 : Int32)) = (3 : Int32) by decide) ?_
  refine Own.putFld 22 X1 hx hZ hown (host := "") (Or.inl (w 65 rfl)) Via.refl e1 Ff_6 Ef_3 (Or.inl (w 66 rfl)) (w 35 rfl) (ty := .int) (by decide) rfl rfl (hb hby d11_19) rfl ?_
  intro T10 h10 X10 e10 W10
  have N10 := Fr.snoc X10 N1 g_a
  have Ef_12 := Ef_3.wr W10
  have Ff_13 := Ff_4.other W10 (Or.inr (slot_ne (Or.inl (w 54 rfl)) (Or.inl (w 66 rfl)) (by decide) (t := .int) (t' := .int) (by decide) (by decide)))
  have Ff_14 := Ff_5.other W10 (Or.inr (slot_ne (Or.inl (w 57 rfl)) (Or.inl (w 66 rfl)) (by decide) (t := (.array (.object "java/lang/Object"))) (t' := .int) (by decide) (by decide)))
  have Ff_15 := Ff_6.same W10
  have Ef_16 := Ef_7.wr W10
  have Vf_17 := V1.other W10 (Ne.symm ne_a_d)
  have Ef_18 := Ef_9.wr W10
  have O10 := O1.wr W10 g_a
  have zl10 := Nat.le_trans zl1 (Nat.le_of_eq W10.size.symm)
  have K10 := K1.wr W10 (Or.inl (List.mem_of_getElem? (i := 0) rfl))
  refine Own.retVoid X10 hx hlk hret (hb hby d11_22) (by decide) (by decide) ?_
  rw [e10]
  exact ⟨rfl, N10, K10, Ff_13, Ff_14, Ff_15, Vf_17⟩
theorem d10_0 : decode jdk_38_method_25_code 0 = .ok (.aload_n 0, 1) := by decide +kernel
theorem d10_1 : decode jdk_38_method_25_code 1 = .ok (.dup, 1) := by decide +kernel
theorem d10_2 : decode jdk_38_method_25_code 2 = .ok (.getfield 63, 3) := by decide +kernel
theorem d10_5 : decode jdk_38_method_25_code 5 = .ok (.iconst 1, 1) := by decide +kernel
theorem d10_6 : decode jdk_38_method_25_code 6 = .ok (.iadd, 1) := by decide +kernel
theorem d10_7 : decode jdk_38_method_25_code 7 = .ok (.putfield 63, 3) := by decide +kernel
theorem d10_10 : decode jdk_38_method_25_code 10 = .ok (.aload_n 0, 1) := by decide +kernel
theorem d10_11 : decode jdk_38_method_25_code 11 = .ok (.aload_n 1, 1) := by decide +kernel
theorem d10_12 : decode jdk_38_method_25_code 12 = .ok (.aload_n 0, 1) := by decide +kernel
theorem d10_13 : decode jdk_38_method_25_code 13 = .ok (.getfield 9, 3) := by decide +kernel
theorem d10_16 : decode jdk_38_method_25_code 16 = .ok (.aload_n 0, 1) := by decide +kernel
theorem d10_17 : decode jdk_38_method_25_code 17 = .ok (.getfield 48, 3) := by decide +kernel
theorem d10_20 : decode jdk_38_method_25_code 20 = .ok (.invokevirtual 131, 3) := by decide +kernel
theorem d10_23 : decode jdk_38_method_25_code 23 = .ok (.iconst 1, 1) := by decide +kernel
theorem d10_24 : decode jdk_38_method_25_code 24 = .ok (.ireturn, 1) := by decide +kernel
set_option maxRecDepth 65536 in
set_option maxHeartbeats 40000000 in
theorem m10_0 (l : Launch) (Z : State) (a0 : Array Value) (w : ∀ (i : Nat) {d : Jvm.Cond}, tables_1[i]? = some d → d.before a0 Z = true) (a : Addr) (s0 : Addr) (dc em el mr : Addr) (kd : ClassId) (n0 : Nat) (mc : Int32) (h0 : Heap) (Z0 : n0 ≤ h0.size) (X00 : Old Z n0 h0) (SS : own_SS Z dc em el mr kd)(E_a : Exa Z h0 a "java/util/ArrayList") (F1 : Fld Z h0 a "java/util/AbstractList" "modCount" "I" (.int mc)) (F2 : Fld Z h0 a "java/util/ArrayList" "elementData" "[Ljava/lang/Object;" (.ref dc)) (F3 : Fld Z h0 a "java/util/ArrayList" "size" "I" (.int (0 : Int32))) (g_a : n0 ≤ a)(E_s0 : Exa Z h0 s0 "java/lang/String") :
    Own.Met l Z (⟨"java/util/ArrayList", "add", "(Ljava/lang/Object;)Z"⟩ : MethodName) jdk_38_method_25_code 2 (some .boolean) [] ({ frames := 4, cells := 1, slots := 10, locals := 56 } : Room) #[(.ref a), (.ref s0)] h0 (fun v h L => ∃ (d : Addr) (k : ClassId), v = some (.int 1) ∧ Fr n0 L ∧ Keep h0 h [a] ∧ h0.size ≤ d ∧ n0 ≤ d ∧ Fld Z h a "java/util/AbstractList" "modCount" "I" (.int (mc + (1 : Int32))) ∧ Fld Z h a "java/util/ArrayList" "elementData" "[Ljava/lang/Object;" (.ref d) ∧ Fld Z h a "java/util/ArrayList" "size" "I" (.int (1 : Int32)) ∧ Arv Z h d k (.object "java/lang/Object") (10 : Int32) [(.ref s0), .null, .null, .null, .null, .null, .null, .null, .null, .null] .null ∧ Ovr Z k "java/lang/Object" ∧ Exa Z h d "[Ljava/lang/Object;") := by
  refine Own.Met.of (plainFor_of_name (by first | (simp [plainName, overriddenIn]; done) | decide +kernel)) ?_
  intro p e s m below meth c T0 hx hby hml hown hnm hret hlk hZ X0 e0
  have hown : s.vm.findClass "java/util/ArrayList" = some m.cls := hown
  have hml : c.maxLocals = 2 := hml
  have hnm : meth.name = "add" := hnm
  have ef : entryFrame m #[(.ref a), (.ref s0)] 2 = mkF m 0 #[.val (.ref a), .val (.ref s0)] [] := by first | (simp [entryFrame, mkF, argsToLocals, Value.category]; done) | rfl
  rw [ef]
  have N0 := Fr.nil n0
  refine Own.aloadN 1 X0 hx (hb hby d10_0) rfl rfl rfl ?_
  refine Own.dup 2 X0 hx (hb hby d10_1) rfl rfl ?_
  refine Own.getFld 5 X0 hx hZ hown (host := "") (Or.inl (w 63 rfl)) (Via.of (w 64 rfl)) e0 F1 (hb hby d10_2) rfl ?_
  intro T1 X1 e1
  refine Own.iconst 6 X1 hx ((1 : Int32)) (hb hby d10_5) rfl rfl ?_
  refine Own.iadd 7 X1 hx (hb hby d10_6) rfl rfl ?_
  refine Own.putFld 10 X1 hx hZ hown (host := "") (Or.inl (w 63 rfl)) (Via.of (w 64 rfl)) e1 F1 E_a (Or.inl (w 54 rfl)) (w 35 rfl) (ty := .int) (by decide) rfl rfl (hb hby d10_7) rfl ?_
  intro T2 h2 X2 e2 W2
  have N2 := Fr.snoc X2 N0 g_a
  have Ef_4 := E_a.wr W2
  have Ff_5 := F1.same W2
  have Ff_6 := F2.other W2 (Or.inr (slot_ne (Or.inl (w 57 rfl)) (Or.inl (w 54 rfl)) (by decide) (t := (.array (.object "java/lang/Object"))) (t' := .int) (by decide) (by decide)))
  have Ff_7 := F3.other W2 (Or.inr (slot_ne (Or.inl (w 66 rfl)) (Or.inl (w 54 rfl)) (by decide) (t := .int) (t' := .int) (by decide) (by decide)))
  have Ef_8 := E_s0.wr W2
  have O2 := X00.wr W2 g_a
  have zl2 := Nat.le_trans Z0 (Nat.le_of_eq W2.size.symm)
  have K2 := (Keep.refl h0 [a]).wr W2 (Or.inl (List.mem_of_getElem? (i := 0) rfl))
  refine Own.aloadN 11 X2 hx (hb hby d10_10) rfl rfl rfl ?_
  refine Own.aloadN 12 X2 hx (hb hby d10_11) rfl rfl rfl ?_
  refine Own.aloadN 13 X2 hx (hb hby d10_12) rfl rfl rfl ?_
  refine Own.getFld 16 X2 hx hZ hown (host := "") (Or.inl (w 56 rfl)) Via.refl e2 Ff_6 (hb hby d10_13) rfl ?_
  intro T9 X9 e9
  refine Own.aloadN 17 X9 hx (hb hby d10_16) rfl rfl rfl ?_
  refine Own.getFld 20 X9 hx hZ hown (host := "") (Or.inl (w 65 rfl)) Via.refl e9 Ff_7 (hb hby d10_17) rfl ?_
  intro T10 X10 e10
  refine Own.callPr 23 0 a [(.ref s0), (.ref dc), (.int (0 : Int32))] [] X10 hx hZ hown (m11_0 l Z a0 w a s0 dc em el mr kd n0 _ _ zl2 O2 SS Ef_4 Ff_5 Ff_6 Ff_7 g_a Ef_8  ) Ef_4 (w 67 rfl) (w 69 rfl) (w 35 rfl) (w 68 rfl) (w 36 rfl) (w 71 rfl) (by decide) e10 (by decide) (by decide) (by decide) (by decide) (by rw [hml]; rfl) (lenOf pd_4 rfl) rfl (Nat.le_of_eq rfl) (hb hby d10_20) rfl ?_
  rintro vv T11 L11 X11 ⟨d, k11, rfl, N11q, K11, sz_d, g_d, Fm11, Fe11, Fz11, V11, Ov11, Ex11⟩
  have N11 := Fr.app N2 N11q
  have O11 := O2.keep K11 (allS g_a all0)
  have Ef_13 := Ef_4.keep K11
  have Ef_17 := Ef_8.keep K11
  have zl11 := Nat.le_trans zl2 K11.1
  have KK11 := K2.trans K11 (allS (Or.inl (List.mem_of_getElem? (i := 0) rfl)) all0)
  have sz_d := Nat.le_trans K2.1 sz_d
  refine Own.iconst 24 X11 hx ((1 : Int32)) (hb hby d10_23) rfl rfl ?_
  refine Own.retBool X11 hx hlk hret (hb hby d10_24) (by decide) (by decide) ?_
  exact ⟨d, k11, rfl, N11, KK11, sz_d, g_d, Fm11, Fe11, Fz11, V11, Ov11, Ex11⟩
set_option maxRecDepth 65536 in
set_option maxHeartbeats 40000000 in
theorem m10_1 (l : Launch) (Z : State) (a0 : Array Value) (w : ∀ (i : Nat) {d : Jvm.Cond}, tables_1[i]? = some d → d.before a0 Z = true) (a : Addr) (s1 : Addr) (dc em el mr : Addr) (kd : ClassId) (n0 : Nat) (mc : Int32) (d s0 : Addr) (k : ClassId) (h0 : Heap) (Z0 : n0 ≤ h0.size) (X00 : Old Z n0 h0) (SS : own_SS Z dc em el mr kd)(E_a : Exa Z h0 a "java/util/ArrayList") (F1 : Fld Z h0 a "java/util/AbstractList" "modCount" "I" (.int mc)) (F2 : Fld Z h0 a "java/util/ArrayList" "elementData" "[Ljava/lang/Object;" (.ref d)) (F3 : Fld Z h0 a "java/util/ArrayList" "size" "I" (.int (1 : Int32))) (g_a : n0 ≤ a)(E_s0 : Exa Z h0 s0 "java/lang/String") (E_s1 : Exa Z h0 s1 "java/lang/String") (g_d : n0 ≤ d) (ne_a_d : a ≠ d) (V_d : Arv Z h0 d k (.object "java/lang/Object") (10 : Int32) [(.ref s0), .null, .null, .null, .null, .null, .null, .null, .null, .null] .null) (Ov_d : Ovr Z k "java/lang/Object") (E_d : Exa Z h0 d "[Ljava/lang/Object;") :
    Own.Met l Z (⟨"java/util/ArrayList", "add", "(Ljava/lang/Object;)Z"⟩ : MethodName) jdk_38_method_25_code 2 (some .boolean) [] ({ frames := 1, cells := 0, slots := 0, locals := 15 } : Room) #[(.ref a), (.ref s1)] h0 (fun v h L => v = some (.int 1) ∧ Fr n0 L ∧ Keep h0 h [a, d] ∧ Fld Z h a "java/util/AbstractList" "modCount" "I" (.int (mc + (1 : Int32))) ∧ Fld Z h a "java/util/ArrayList" "elementData" "[Ljava/lang/Object;" (.ref d) ∧ Fld Z h a "java/util/ArrayList" "size" "I" (.int (2 : Int32)) ∧ Arv Z h d k (.object "java/lang/Object") (10 : Int32) [(.ref s0), (.ref s1), .null, .null, .null, .null, .null, .null, .null, .null] .null) := by
  refine Own.Met.of (plainFor_of_name (by first | (simp [plainName, overriddenIn]; done) | decide +kernel)) ?_
  intro p e s m below meth c T0 hx hby hml hown hnm hret hlk hZ X0 e0
  have hown : s.vm.findClass "java/util/ArrayList" = some m.cls := hown
  have hml : c.maxLocals = 2 := hml
  have hnm : meth.name = "add" := hnm
  have ef : entryFrame m #[(.ref a), (.ref s1)] 2 = mkF m 0 #[.val (.ref a), .val (.ref s1)] [] := by first | (simp [entryFrame, mkF, argsToLocals, Value.category]; done) | rfl
  rw [ef]
  have N0 := Fr.nil n0
  refine Own.aloadN 1 X0 hx (hb hby d10_0) rfl rfl rfl ?_
  refine Own.dup 2 X0 hx (hb hby d10_1) rfl rfl ?_
  refine Own.getFld 5 X0 hx hZ hown (host := "") (Or.inl (w 63 rfl)) (Via.of (w 64 rfl)) e0 F1 (hb hby d10_2) rfl ?_
  intro T1 X1 e1
  refine Own.iconst 6 X1 hx ((1 : Int32)) (hb hby d10_5) rfl rfl ?_
  refine Own.iadd 7 X1 hx (hb hby d10_6) rfl rfl ?_
  refine Own.putFld 10 X1 hx hZ hown (host := "") (Or.inl (w 63 rfl)) (Via.of (w 64 rfl)) e1 F1 E_a (Or.inl (w 54 rfl)) (w 35 rfl) (ty := .int) (by decide) rfl rfl (hb hby d10_7) rfl ?_
  intro T2 h2 X2 e2 W2
  have N2 := Fr.snoc X2 N0 g_a
  have Ef_4 := E_a.wr W2
  have Ff_5 := F1.same W2
  have Ff_6 := F2.other W2 (Or.inr (slot_ne (Or.inl (w 57 rfl)) (Or.inl (w 54 rfl)) (by decide) (t := (.array (.object "java/lang/Object"))) (t' := .int) (by decide) (by decide)))
  have Ff_7 := F3.other W2 (Or.inr (slot_ne (Or.inl (w 66 rfl)) (Or.inl (w 54 rfl)) (by decide) (t := .int) (t' := .int) (by decide) (by decide)))
  have Ef_8 := E_s0.wr W2
  have Ef_9 := E_s1.wr W2
  have Vf_10 := V_d.other W2 (Ne.symm ne_a_d)
  have Ef_11 := E_d.wr W2
  have O2 := X00.wr W2 g_a
  have zl2 := Nat.le_trans Z0 (Nat.le_of_eq W2.size.symm)
  have K2 := (Keep.refl h0 [a, d]).wr W2 (Or.inl (List.mem_of_getElem? (i := 0) rfl))
  refine Own.aloadN 11 X2 hx (hb hby d10_10) rfl rfl rfl ?_
  refine Own.aloadN 12 X2 hx (hb hby d10_11) rfl rfl rfl ?_
  refine Own.aloadN 13 X2 hx (hb hby d10_12) rfl rfl rfl ?_
  refine Own.getFld 16 X2 hx hZ hown (host := "") (Or.inl (w 56 rfl)) Via.refl e2 Ff_6 (hb hby d10_13) rfl ?_
  intro T12 X12 e12
  refine Own.aloadN 17 X12 hx (hb hby d10_16) rfl rfl rfl ?_
  refine Own.getFld 20 X12 hx hZ hown (host := "") (Or.inl (w 65 rfl)) Via.refl e12 Ff_7 (hb hby d10_17) rfl ?_
  intro T13 X13 e13
  refine Own.callPr 23 0 a [(.ref s1), (.ref d), (.int (1 : Int32))] [] X13 hx hZ hown (m11_1 l Z a0 w a s1 d dc em el mr kd n0 _ s0 k _ zl2 O2 SS Ef_4 Ff_5 Ff_6 Ff_7 g_a Ef_8 Ef_9 g_d ne_a_d Vf_10 Ov_d Ef_11 ) Ef_4 (w 67 rfl) (w 69 rfl) (w 35 rfl) (w 68 rfl) (w 36 rfl) (w 71 rfl) (by decide) e13 (by decide) (by decide) (by decide) (by decide) (by rw [hml]; rfl) (lenOf pd_4 rfl) rfl (Nat.le_of_eq rfl) (hb hby d10_20) rfl ?_
  rintro vv T14 L14 X14 ⟨rfl, N14q, K14, Fm14, Fe14, Fz14, V14⟩
  have N14 := Fr.app N2 N14q
  have O14 := O2.keep K14 (allS g_a (allS g_d all0))
  have Ef_16 := Ef_4.keep K14
  have Ef_20 := Ef_8.keep K14
  have Ef_21 := Ef_9.keep K14
  have Ef_23 := Ef_11.keep K14
  have zl14 := Nat.le_trans zl2 K14.1
  have KK14 := K2.trans K14 (allS (Or.inl (List.mem_of_getElem? (i := 0) rfl)) (allS (Or.inl (List.mem_of_getElem? (i := 1) rfl)) all0))
  refine Own.iconst 24 X14 hx ((1 : Int32)) (hb hby d10_23) rfl rfl ?_
  refine Own.retBool X14 hx hlk hret (hb hby d10_24) (by decide) (by decide) ?_
  exact ⟨rfl, N14, KK14, Fm14, Fe14, Fz14, V14⟩
set_option maxRecDepth 65536 in
set_option maxHeartbeats 40000000 in
theorem m10_2 (l : Launch) (Z : State) (a0 : Array Value) (w : ∀ (i : Nat) {d : Jvm.Cond}, tables_1[i]? = some d → d.before a0 Z = true) (a : Addr) (s2 : Addr) (dc em el mr : Addr) (kd : ClassId) (n0 : Nat) (mc : Int32) (d s0 s1 : Addr) (k : ClassId) (h0 : Heap) (Z0 : n0 ≤ h0.size) (X00 : Old Z n0 h0) (SS : own_SS Z dc em el mr kd)(E_a : Exa Z h0 a "java/util/ArrayList") (F1 : Fld Z h0 a "java/util/AbstractList" "modCount" "I" (.int mc)) (F2 : Fld Z h0 a "java/util/ArrayList" "elementData" "[Ljava/lang/Object;" (.ref d)) (F3 : Fld Z h0 a "java/util/ArrayList" "size" "I" (.int (2 : Int32))) (g_a : n0 ≤ a)(E_s0 : Exa Z h0 s0 "java/lang/String") (E_s1 : Exa Z h0 s1 "java/lang/String") (E_s2 : Exa Z h0 s2 "java/lang/String") (g_d : n0 ≤ d) (ne_a_d : a ≠ d) (V_d : Arv Z h0 d k (.object "java/lang/Object") (10 : Int32) [(.ref s0), (.ref s1), .null, .null, .null, .null, .null, .null, .null, .null] .null) (Ov_d : Ovr Z k "java/lang/Object") (E_d : Exa Z h0 d "[Ljava/lang/Object;") :
    Own.Met l Z (⟨"java/util/ArrayList", "add", "(Ljava/lang/Object;)Z"⟩ : MethodName) jdk_38_method_25_code 2 (some .boolean) [] ({ frames := 1, cells := 0, slots := 0, locals := 15 } : Room) #[(.ref a), (.ref s2)] h0 (fun v h L => v = some (.int 1) ∧ Fr n0 L ∧ Keep h0 h [a, d] ∧ Fld Z h a "java/util/AbstractList" "modCount" "I" (.int (mc + (1 : Int32))) ∧ Fld Z h a "java/util/ArrayList" "elementData" "[Ljava/lang/Object;" (.ref d) ∧ Fld Z h a "java/util/ArrayList" "size" "I" (.int (3 : Int32)) ∧ Arv Z h d k (.object "java/lang/Object") (10 : Int32) [(.ref s0), (.ref s1), (.ref s2), .null, .null, .null, .null, .null, .null, .null] .null) := by
  refine Own.Met.of (plainFor_of_name (by first | (simp [plainName, overriddenIn]; done) | decide +kernel)) ?_
  intro p e s m below meth c T0 hx hby hml hown hnm hret hlk hZ X0 e0
  have hown : s.vm.findClass "java/util/ArrayList" = some m.cls := hown
  have hml : c.maxLocals = 2 := hml
  have hnm : meth.name = "add" := hnm
  have ef : entryFrame m #[(.ref a), (.ref s2)] 2 = mkF m 0 #[.val (.ref a), .val (.ref s2)] [] := by first | (simp [entryFrame, mkF, argsToLocals, Value.category]; done) | rfl
  rw [ef]
  have N0 := Fr.nil n0
  refine Own.aloadN 1 X0 hx (hb hby d10_0) rfl rfl rfl ?_
  refine Own.dup 2 X0 hx (hb hby d10_1) rfl rfl ?_
  refine Own.getFld 5 X0 hx hZ hown (host := "") (Or.inl (w 63 rfl)) (Via.of (w 64 rfl)) e0 F1 (hb hby d10_2) rfl ?_
  intro T1 X1 e1
  refine Own.iconst 6 X1 hx ((1 : Int32)) (hb hby d10_5) rfl rfl ?_
  refine Own.iadd 7 X1 hx (hb hby d10_6) rfl rfl ?_
  refine Own.putFld 10 X1 hx hZ hown (host := "") (Or.inl (w 63 rfl)) (Via.of (w 64 rfl)) e1 F1 E_a (Or.inl (w 54 rfl)) (w 35 rfl) (ty := .int) (by decide) rfl rfl (hb hby d10_7) rfl ?_
  intro T2 h2 X2 e2 W2
  have N2 := Fr.snoc X2 N0 g_a
  have Ef_4 := E_a.wr W2
  have Ff_5 := F1.same W2
  have Ff_6 := F2.other W2 (Or.inr (slot_ne (Or.inl (w 57 rfl)) (Or.inl (w 54 rfl)) (by decide) (t := (.array (.object "java/lang/Object"))) (t' := .int) (by decide) (by decide)))
  have Ff_7 := F3.other W2 (Or.inr (slot_ne (Or.inl (w 66 rfl)) (Or.inl (w 54 rfl)) (by decide) (t := .int) (t' := .int) (by decide) (by decide)))
  have Ef_8 := E_s0.wr W2
  have Ef_9 := E_s1.wr W2
  have Ef_10 := E_s2.wr W2
  have Vf_11 := V_d.other W2 (Ne.symm ne_a_d)
  have Ef_12 := E_d.wr W2
  have O2 := X00.wr W2 g_a
  have zl2 := Nat.le_trans Z0 (Nat.le_of_eq W2.size.symm)
  have K2 := (Keep.refl h0 [a, d]).wr W2 (Or.inl (List.mem_of_getElem? (i := 0) rfl))
  refine Own.aloadN 11 X2 hx (hb hby d10_10) rfl rfl rfl ?_
  refine Own.aloadN 12 X2 hx (hb hby d10_11) rfl rfl rfl ?_
  refine Own.aloadN 13 X2 hx (hb hby d10_12) rfl rfl rfl ?_
  refine Own.getFld 16 X2 hx hZ hown (host := "") (Or.inl (w 56 rfl)) Via.refl e2 Ff_6 (hb hby d10_13) rfl ?_
  intro T13 X13 e13
  refine Own.aloadN 17 X13 hx (hb hby d10_16) rfl rfl rfl ?_
  refine Own.getFld 20 X13 hx hZ hown (host := "") (Or.inl (w 65 rfl)) Via.refl e13 Ff_7 (hb hby d10_17) rfl ?_
  intro T14 X14 e14
  refine Own.callPr 23 0 a [(.ref s2), (.ref d), (.int (2 : Int32))] [] X14 hx hZ hown (m11_2 l Z a0 w a s2 d dc em el mr kd n0 _ s0 s1 k _ zl2 O2 SS Ef_4 Ff_5 Ff_6 Ff_7 g_a Ef_8 Ef_9 Ef_10 g_d ne_a_d Vf_11 Ov_d Ef_12 ) Ef_4 (w 67 rfl) (w 69 rfl) (w 35 rfl) (w 68 rfl) (w 36 rfl) (w 71 rfl) (by decide) e14 (by decide) (by decide) (by decide) (by decide) (by rw [hml]; rfl) (lenOf pd_4 rfl) rfl (Nat.le_of_eq rfl) (hb hby d10_20) rfl ?_
  rintro vv T15 L15 X15 ⟨rfl, N15q, K15, Fm15, Fe15, Fz15, V15⟩
  have N15 := Fr.app N2 N15q
  have O15 := O2.keep K15 (allS g_a (allS g_d all0))
  have Ef_17 := Ef_4.keep K15
  have Ef_21 := Ef_8.keep K15
  have Ef_22 := Ef_9.keep K15
  have Ef_23 := Ef_10.keep K15
  have Ef_25 := Ef_12.keep K15
  have zl15 := Nat.le_trans zl2 K15.1
  have KK15 := K2.trans K15 (allS (Or.inl (List.mem_of_getElem? (i := 0) rfl)) (allS (Or.inl (List.mem_of_getElem? (i := 1) rfl)) all0))
  refine Own.iconst 24 X15 hx ((1 : Int32)) (hb hby d10_23) rfl rfl ?_
  refine Own.retBool X15 hx hlk hret (hb hby d10_24) (by decide) (by decide) ?_
  exact ⟨rfl, N15, KK15, Fm15, Fe15, Fz15, V15⟩
theorem d22_0 : decode jdk_29_method_69_code 0 = .ok (.iload_n 0, 1) := by decide +kernel
theorem d22_1 : decode jdk_29_method_69_code 1 = .ok (.iload_n 1, 1) := by decide +kernel
theorem d22_2 : decode jdk_29_method_69_code 2 = .ok (.if_icmp .gt 7, 3) := by decide +kernel
theorem d22_9 : decode jdk_29_method_69_code 9 = .ok (.iload_n 1, 1) := by decide +kernel
theorem d22_10 : decode jdk_29_method_69_code 10 = .ok (.ireturn, 1) := by decide +kernel
set_option maxRecDepth 65536 in
set_option maxHeartbeats 40000000 in
theorem m22_1 (l : Launch) (Z : State) (a0 : Array Value) (w : ∀ (i : Nat) {d : Jvm.Cond}, tables_1[i]? = some d → d.before a0 Z = true)   (h0 : Heap)  :
    Own.Met l Z (⟨"java/lang/Math", "min", "(II)I"⟩ : MethodName) jdk_29_method_69_code 2 (some .int) [] ({ frames := 0, cells := 0, slots := 0, locals := 0 } : Room) #[(.int (10 : Int32)), (.int (1 : Int32))] h0 (fun v h L => v = some (.int (1 : Int32)) ∧ h = h0 ∧ L = []) := by
  refine Own.Met.of (Jvm.Free.JP.mathPlain rfl (by decide +kernel)) ?_
  intro p e s m below meth c T0 hx hby hml hown hnm hret hlk hZ X0 e0
  have hown : s.vm.findClass "java/lang/Math" = some m.cls := hown
  have hml : c.maxLocals = 2 := hml
  have hnm : meth.name = "min" := hnm
  have ef : entryFrame m #[(.int (10 : Int32)), (.int (1 : Int32))] 2 = mkF m 0 #[.val (.int (10 : Int32)), .val (.int (1 : Int32))] [] := by first | (simp [entryFrame, mkF, argsToLocals, Value.category]; done) | rfl
  rw [ef]
  refine Own.iloadN 1 X0 hx (hb hby d22_0) rfl rfl ?_
  refine Own.iloadN 2 X0 hx (hb hby d22_1) rfl rfl ?_
  refine Own.icmp_gt 9 5 X0 hx (hb hby d22_2) (by decide) rfl (fun tk => ?_) (fun tk => absurd tk (by decide))
  refine Own.iloadN 10 X0 hx (hb hby d22_9) rfl rfl ?_
  refine Own.retInt X0 hx hlk hret (hb hby d22_10) (by decide) (by decide) ?_
  exact ⟨rfl, e0, rfl⟩
set_option maxRecDepth 65536 in
set_option maxHeartbeats 40000000 in
theorem m22_2 (l : Launch) (Z : State) (a0 : Array Value) (w : ∀ (i : Nat) {d : Jvm.Cond}, tables_1[i]? = some d → d.before a0 Z = true)   (h0 : Heap)  :
    Own.Met l Z (⟨"java/lang/Math", "min", "(II)I"⟩ : MethodName) jdk_29_method_69_code 2 (some .int) [] ({ frames := 0, cells := 0, slots := 0, locals := 0 } : Room) #[(.int (10 : Int32)), (.int (2 : Int32))] h0 (fun v h L => v = some (.int (2 : Int32)) ∧ h = h0 ∧ L = []) := by
  refine Own.Met.of (Jvm.Free.JP.mathPlain rfl (by decide +kernel)) ?_
  intro p e s m below meth c T0 hx hby hml hown hnm hret hlk hZ X0 e0
  have hown : s.vm.findClass "java/lang/Math" = some m.cls := hown
  have hml : c.maxLocals = 2 := hml
  have hnm : meth.name = "min" := hnm
  have ef : entryFrame m #[(.int (10 : Int32)), (.int (2 : Int32))] 2 = mkF m 0 #[.val (.int (10 : Int32)), .val (.int (2 : Int32))] [] := by first | (simp [entryFrame, mkF, argsToLocals, Value.category]; done) | rfl
  rw [ef]
  refine Own.iloadN 1 X0 hx (hb hby d22_0) rfl rfl ?_
  refine Own.iloadN 2 X0 hx (hb hby d22_1) rfl rfl ?_
  refine Own.icmp_gt 9 5 X0 hx (hb hby d22_2) (by decide) rfl (fun tk => ?_) (fun tk => absurd tk (by decide))
  refine Own.iloadN 10 X0 hx (hb hby d22_9) rfl rfl ?_
  refine Own.retInt X0 hx hlk hret (hb hby d22_10) (by decide) (by decide) ?_
  exact ⟨rfl, e0, rfl⟩
set_option maxRecDepth 65536 in
set_option maxHeartbeats 40000000 in
theorem m22_3 (l : Launch) (Z : State) (a0 : Array Value) (w : ∀ (i : Nat) {d : Jvm.Cond}, tables_1[i]? = some d → d.before a0 Z = true)   (h0 : Heap)  :
    Own.Met l Z (⟨"java/lang/Math", "min", "(II)I"⟩ : MethodName) jdk_29_method_69_code 2 (some .int) [] ({ frames := 0, cells := 0, slots := 0, locals := 0 } : Room) #[(.int (10 : Int32)), (.int (3 : Int32))] h0 (fun v h L => v = some (.int (3 : Int32)) ∧ h = h0 ∧ L = []) := by
  refine Own.Met.of (Jvm.Free.JP.mathPlain rfl (by decide +kernel)) ?_
  intro p e s m below meth c T0 hx hby hml hown hnm hret hlk hZ X0 e0
  have hown : s.vm.findClass "java/lang/Math" = some m.cls := hown
  have hml : c.maxLocals = 2 := hml
  have hnm : meth.name = "min" := hnm
  have ef : entryFrame m #[(.int (10 : Int32)), (.int (3 : Int32))] 2 = mkF m 0 #[.val (.int (10 : Int32)), .val (.int (3 : Int32))] [] := by first | (simp [entryFrame, mkF, argsToLocals, Value.category]; done) | rfl
  rw [ef]
  refine Own.iloadN 1 X0 hx (hb hby d22_0) rfl rfl ?_
  refine Own.iloadN 2 X0 hx (hb hby d22_1) rfl rfl ?_
  refine Own.icmp_gt 9 5 X0 hx (hb hby d22_2) (by decide) rfl (fun tk => ?_) (fun tk => absurd tk (by decide))
  refine Own.iloadN 10 X0 hx (hb hby d22_9) rfl rfl ?_
  refine Own.retInt X0 hx hlk hret (hb hby d22_10) (by decide) (by decide) ?_
  exact ⟨rfl, e0, rfl⟩
theorem d21_0 : decode jdk_65_method_120_code 0 = .ok (.aload_n 2, 1) := by decide +kernel
theorem d21_1 : decode jdk_65_method_120_code 1 = .ok (.ldc 110, 2) := by decide +kernel
theorem d21_3 : decode jdk_65_method_120_code 3 = .ok (.if_acmp .ne 10, 3) := by decide +kernel
theorem d21_6 : decode jdk_65_method_120_code 6 = .ok (.iload_n 1, 1) := by decide +kernel
theorem d21_7 : decode jdk_65_method_120_code 7 = .ok (.anewarray 2, 3) := by decide +kernel
theorem d21_10 : decode jdk_65_method_120_code 10 = .ok (.goto 14, 3) := by decide +kernel
theorem d21_24 : decode jdk_65_method_120_code 24 = .ok (.astore_n 3, 1) := by decide +kernel
theorem d21_25 : decode jdk_65_method_120_code 25 = .ok (.aload_n 0, 1) := by decide +kernel
theorem d21_26 : decode jdk_65_method_120_code 26 = .ok (.iconst 0, 1) := by decide +kernel
theorem d21_27 : decode jdk_65_method_120_code 27 = .ok (.aload_n 3, 1) := by decide +kernel
theorem d21_28 : decode jdk_65_method_120_code 28 = .ok (.iconst 0, 1) := by decide +kernel
theorem d21_29 : decode jdk_65_method_120_code 29 = .ok (.aload_n 0, 1) := by decide +kernel
theorem d21_30 : decode jdk_65_method_120_code 30 = .ok (.arraylength, 1) := by decide +kernel
theorem d21_31 : decode jdk_65_method_120_code 31 = .ok (.iload_n 1, 1) := by decide +kernel
theorem d21_32 : decode jdk_65_method_120_code 32 = .ok (.invokestatic 304, 3) := by decide +kernel
theorem d21_35 : decode jdk_65_method_120_code 35 = .ok (.invokestatic 150, 3) := by decide +kernel
theorem d21_38 : decode jdk_65_method_120_code 38 = .ok (.aload_n 3, 1) := by decide +kernel
theorem d21_39 : decode jdk_65_method_120_code 39 = .ok (.areturn, 1) := by decide +kernel
set_option maxRecDepth 65536 in
set_option maxHeartbeats 40000000 in
theorem m21_1 (l : Launch) (Z : State) (a0 : Array Value) (w : ∀ (i : Nat) {d : Jvm.Cond}, tables_1[i]? = some d → d.before a0 Z = true) (d : Addr) (mr : Addr) (dc em el : Addr) (kd : ClassId) (n0 : Nat)(k : ClassId) (s0 : Addr) (h0 : Heap) (Z0 : n0 ≤ h0.size) (X00 : Old Z n0 h0) (SS : own_SS Z dc em el mr kd)(E_s0 : Exa Z h0 s0 "java/lang/String")(V_d : Arv Z h0 d k (.object "java/lang/Object") (10 : Int32) [(.ref s0), .null, .null, .null, .null, .null, .null, .null, .null, .null] .null) (Ov_d : Ovr Z k "java/lang/Object") (E_d : Exa Z h0 d "[Ljava/lang/Object;") :
    Own.Met l Z (⟨"java/util/Arrays", "copyOf", "([Ljava/lang/Object;ILjava/lang/Class;)[Ljava/lang/Object;"⟩ : MethodName) jdk_65_method_120_code 4 (some (.array (.object "java/lang/Object"))) [] ({ frames := 1, cells := 1, slots := 1, locals := 18 } : Room) #[(.ref d), (.int (1 : Int32)), (.ref mr)] h0 (fun v h L => ∃ (r : Addr) (k' : ClassId), v = some (.ref r) ∧ Fr n0 L ∧ Keep h0 h [] ∧ h0.size ≤ r ∧ n0 ≤ r ∧ Arv Z h r k' (.object "java/lang/Object") (1 : Int32) [(.ref s0)] .null) := by
  refine Own.Met.of (plainFor_of_name (by first | (simp [plainName, overriddenIn]; done) | decide +kernel)) ?_
  intro p e s m below meth c T0 hx hby hml hown hnm hret hlk hZ X0 e0
  have hown : s.vm.findClass "java/util/Arrays" = some m.cls := hown
  have hml : c.maxLocals = 4 := hml
  have hnm : meth.name = "copyOf" := hnm
  have ef : entryFrame m #[(.ref d), (.int (1 : Int32)), (.ref mr)] 4 = mkF m 0 #[.val (.ref d), .val (.int (1 : Int32)), .val (.ref mr), .unset] [] := by first | (simp [entryFrame, mkF, argsToLocals, Value.category]; done) | rfl
  rw [ef]
  have N0 := Fr.nil n0
  refine Own.aloadN 1 X0 hx (hb hby d21_0) rfl rfl rfl ?_
  refine Own.ldcCls 3 X0 hx hZ hown (w 142 rfl) SS.2.2.2.1 e0 (hb hby d21_1) rfl ?_
  intro T1 X1 e1
  refine Own.acmp_ne 13 6 X1 hx (hb hby d21_3) rfl rfl (by decide) rfl (fun q => ?_) (fun q => ?_)
  ·
    exact absurd rfl q
  ·
    refine Own.iloadN 7 X1 hx (hb hby d21_6) rfl rfl ?_
    refine Own.newRefArrE 10 1 X1 hx hZ hown (w 143 rfl) (w 87 rfl) e1 (by decide) (by decide) (by decide) (ad := "[Ljava/lang/Object;") (by decide) (hb hby d21_7) rfl (by decide) (by decide) ?_
    intro T2 h2 r k2 z2 X2 e2 E2 A2 Ov2 Ex2
    have ne_d_r : d ≠ r := Nat.ne_of_lt (Nat.lt_of_lt_of_le V_d.lt (Nat.le_of_eq z2.symm))
    have ne_s0_r : s0 ≠ r := Nat.ne_of_lt (Nat.lt_of_lt_of_le E_s0.lt (Nat.le_of_eq z2.symm))
    have g_r : n0 ≤ r := Nat.le_trans Z0 (Nat.le_of_eq z2.symm)
    have sz_r : h0.size ≤ r := Nat.le_trans (Keep.refl h0 []).1 (Nat.le_of_eq z2.symm)
    have K2 := (Keep.refl h0 []).ext E2
    have Ef_4 := E_s0.ext E2
    have Vf_5 := V_d.ext E2
    have Ef_6 := E_d.ext E2
    have O2 := X00.ext E2
    have zl2 := Nat.le_trans Z0 E2.1
    have V2 : Arv Z h2 r k2 (.object "java/lang/Object") (1 : Int32) [.null] .null := A2
    refine Own.goto 24 X2 hx (hb hby d21_10) (by decide) ?_
    refine Own.astoreN 25 #[.val (.ref d), .val (.int (1 : Int32)), .val (.ref mr), .val (.ref r)] X2 hx (hb hby d21_24) rfl rfl rfl ?_
    refine Own.aloadN 26 X2 hx (hb hby d21_25) rfl rfl rfl ?_
    refine Own.iconst 27 X2 hx ((0 : Int32)) (hb hby d21_26) rfl rfl ?_
    refine Own.aloadN 28 X2 hx (hb hby d21_27) rfl rfl rfl ?_
    refine Own.iconst 29 X2 hx ((0 : Int32)) (hb hby d21_28) rfl rfl ?_
    refine Own.aloadN 30 X2 hx (hb hby d21_29) rfl rfl rfl ?_
    refine Own.arrLen 31 X2 hx hZ e2 Vf_5 (hb hby d21_30) rfl ?_
    refine Own.iloadN 32 X2 hx (hb hby d21_31) rfl rfl ?_
    refine Own.callSt 35 4 [(.int (10 : Int32)), (.int (1 : Int32))] [(.int (0 : Int32)), (.ref r), (.int (0 : Int32)), (.ref d)] X2 hx hZ hown (m22_1 l Z a0 w _) (w 144 rfl) (w 145 rfl) (w 84 rfl) (w 146 rfl) (by decide) e2 (by decide) (by decide) (by decide) (by decide) (by rw [hml]; rfl) (lenOf pd_1 rfl) rfl (Nat.le_of_eq rfl) (hb hby d21_32) rfl ?_
    rintro vv T7 L7 X7 ⟨rfl, hh7, rfl⟩
    have N7 := Fr.app N0 (Fr.nil _)
    refine Own.arrCopyR 38 0 [(.ref s0)] X7 hx hZ hown (w 147 rfl) (w 150 rfl) (w 148 rfl) (w 149 rfl) hh7 Vf_5 V2 rfl rfl ⟨(by obtain ⟨cq, Aq, qq, -⟩ := V2; exact Sto.ofV Aq qq Ov2 (Ins.of_exa Ef_4 (w 88 rfl))), trivial⟩ (by decide) (by decide) (by decide) (by decide) (by decide) rfl (by decide) N7 g_r (by rw [hml]; rfl) (hb hby d21_35) rfl (by decide) (Nat.le_of_eq rfl) (by decide) ?_
    intro T8 h8 L8 X8 e8 N8 K8 A8
    have Ef_10 := Ef_4.keep K8
    have Vf_11 := Vf_5.keep K8 (ninS ne_d_r nin0)
    have Ef_12 := Ef_6.keep K8
    have Ef_14 := Ex2.keep K8
    have O8 := O2.keep K8 (allS g_r all0)
    have V8 : Arv Z h8 r k2 (.object "java/lang/Object") (1 : Int32) [(.ref s0)] .null := A8
    have KK8 := K2.trans K8 (allS (Or.inr sz_r) all0)
    have zl8 := Nat.le_trans zl2 K8.1
    refine Own.aloadN 39 X8 hx (hb hby d21_38) rfl rfl rfl ?_
    refine Own.retRef X8 hx hlk rfl hret rfl (hb hby d21_39) (by decide) (by decide) ?_
    rw [e8]
    exact ⟨r, k2, rfl, N8, KK8, sz_r, g_r, V8⟩
set_option maxRecDepth 65536 in
set_option maxHeartbeats 40000000 in
theorem m21_2 (l : Launch) (Z : State) (a0 : Array Value) (w : ∀ (i : Nat) {d : Jvm.Cond}, tables_1[i]? = some d → d.before a0 Z = true) (d : Addr) (mr : Addr) (dc em el : Addr) (kd : ClassId) (n0 : Nat)(k : ClassId) (s0 s1 : Addr) (h0 : Heap) (Z0 : n0 ≤ h0.size) (X00 : Old Z n0 h0) (SS : own_SS Z dc em el mr kd)(E_s0 : Exa Z h0 s0 "java/lang/String") (E_s1 : Exa Z h0 s1 "java/lang/String")(V_d : Arv Z h0 d k (.object "java/lang/Object") (10 : Int32) [(.ref s0), (.ref s1), .null, .null, .null, .null, .null, .null, .null, .null] .null) (Ov_d : Ovr Z k "java/lang/Object") (E_d : Exa Z h0 d "[Ljava/lang/Object;") :
    Own.Met l Z (⟨"java/util/Arrays", "copyOf", "([Ljava/lang/Object;ILjava/lang/Class;)[Ljava/lang/Object;"⟩ : MethodName) jdk_65_method_120_code 4 (some (.array (.object "java/lang/Object"))) [] ({ frames := 1, cells := 1, slots := 2, locals := 18 } : Room) #[(.ref d), (.int (2 : Int32)), (.ref mr)] h0 (fun v h L => ∃ (r : Addr) (k' : ClassId), v = some (.ref r) ∧ Fr n0 L ∧ Keep h0 h [] ∧ h0.size ≤ r ∧ n0 ≤ r ∧ Arv Z h r k' (.object "java/lang/Object") (2 : Int32) [(.ref s0), (.ref s1)] .null) := by
  refine Own.Met.of (plainFor_of_name (by first | (simp [plainName, overriddenIn]; done) | decide +kernel)) ?_
  intro p e s m below meth c T0 hx hby hml hown hnm hret hlk hZ X0 e0
  have hown : s.vm.findClass "java/util/Arrays" = some m.cls := hown
  have hml : c.maxLocals = 4 := hml
  have hnm : meth.name = "copyOf" := hnm
  have ef : entryFrame m #[(.ref d), (.int (2 : Int32)), (.ref mr)] 4 = mkF m 0 #[.val (.ref d), .val (.int (2 : Int32)), .val (.ref mr), .unset] [] := by first | (simp [entryFrame, mkF, argsToLocals, Value.category]; done) | rfl
  rw [ef]
  have N0 := Fr.nil n0
  refine Own.aloadN 1 X0 hx (hb hby d21_0) rfl rfl rfl ?_
  refine Own.ldcCls 3 X0 hx hZ hown (w 142 rfl) SS.2.2.2.1 e0 (hb hby d21_1) rfl ?_
  intro T1 X1 e1
  refine Own.acmp_ne 13 6 X1 hx (hb hby d21_3) rfl rfl (by decide) rfl (fun q => ?_) (fun q => ?_)
  ·
    exact absurd rfl q
  ·
    refine Own.iloadN 7 X1 hx (hb hby d21_6) rfl rfl ?_
    refine Own.newRefArrE 10 2 X1 hx hZ hown (w 143 rfl) (w 87 rfl) e1 (by decide) (by decide) (by decide) (ad := "[Ljava/lang/Object;") (by decide) (hb hby d21_7) rfl (by decide) (by decide) ?_
    intro T2 h2 r k2 z2 X2 e2 E2 A2 Ov2 Ex2
    have ne_d_r : d ≠ r := Nat.ne_of_lt (Nat.lt_of_lt_of_le V_d.lt (Nat.le_of_eq z2.symm))
    have ne_s0_r : s0 ≠ r := Nat.ne_of_lt (Nat.lt_of_lt_of_le E_s0.lt (Nat.le_of_eq z2.symm))
    have ne_s1_r : s1 ≠ r := Nat.ne_of_lt (Nat.lt_of_lt_of_le E_s1.lt (Nat.le_of_eq z2.symm))
    have g_r : n0 ≤ r := Nat.le_trans Z0 (Nat.le_of_eq z2.symm)
    have sz_r : h0.size ≤ r := Nat.le_trans (Keep.refl h0 []).1 (Nat.le_of_eq z2.symm)
    have K2 := (Keep.refl h0 []).ext E2
    have Ef_4 := E_s0.ext E2
    have Ef_5 := E_s1.ext E2
    have Vf_6 := V_d.ext E2
    have Ef_7 := E_d.ext E2
    have O2 := X00.ext E2
    have zl2 := Nat.le_trans Z0 E2.1
    have V2 : Arv Z h2 r k2 (.object "java/lang/Object") (2 : Int32) [.null, .null] .null := A2
    refine Own.goto 24 X2 hx (hb hby d21_10) (by decide) ?_
    refine Own.astoreN 25 #[.val (.ref d), .val (.int (2 : Int32)), .val (.ref mr), .val (.ref r)] X2 hx (hb hby d21_24) rfl rfl rfl ?_
    refine Own.aloadN 26 X2 hx (hb hby d21_25) rfl rfl rfl ?_
    refine Own.iconst 27 X2 hx ((0 : Int32)) (hb hby d21_26) rfl rfl ?_
    refine Own.aloadN 28 X2 hx (hb hby d21_27) rfl rfl rfl ?_
    refine Own.iconst 29 X2 hx ((0 : Int32)) (hb hby d21_28) rfl rfl ?_
    refine Own.aloadN 30 X2 hx (hb hby d21_29) rfl rfl rfl ?_
    refine Own.arrLen 31 X2 hx hZ e2 Vf_6 (hb hby d21_30) rfl ?_
    refine Own.iloadN 32 X2 hx (hb hby d21_31) rfl rfl ?_
    refine Own.callSt 35 4 [(.int (10 : Int32)), (.int (2 : Int32))] [(.int (0 : Int32)), (.ref r), (.int (0 : Int32)), (.ref d)] X2 hx hZ hown (m22_2 l Z a0 w _) (w 144 rfl) (w 145 rfl) (w 84 rfl) (w 146 rfl) (by decide) e2 (by decide) (by decide) (by decide) (by decide) (by rw [hml]; rfl) (lenOf pd_1 rfl) rfl (Nat.le_of_eq rfl) (hb hby d21_32) rfl ?_
    rintro vv T8 L8 X8 ⟨rfl, hh8, rfl⟩
    have N8 := Fr.app N0 (Fr.nil _)
    refine Own.arrCopyR 38 0 [(.ref s0), (.ref s1)] X8 hx hZ hown (w 147 rfl) (w 150 rfl) (w 148 rfl) (w 149 rfl) hh8 Vf_6 V2 rfl rfl ⟨(by obtain ⟨cq, Aq, qq, -⟩ := V2; exact Sto.ofV Aq qq Ov2 (Ins.of_exa Ef_4 (w 88 rfl))), (by obtain ⟨cq, Aq, qq, -⟩ := V2; exact Sto.ofV Aq qq Ov2 (Ins.of_exa Ef_5 (w 88 rfl))), trivial⟩ (by decide) (by decide) (by decide) (by decide) (by decide) rfl (by decide) N8 g_r (by rw [hml]; rfl) (hb hby d21_35) rfl (by decide) (Nat.le_of_eq rfl) (by decide) ?_
    intro T9 h9 L9 X9 e9 N9 K9 A9
    have Ef_11 := Ef_4.keep K9
    have Ef_12 := Ef_5.keep K9
    have Vf_13 := Vf_6.keep K9 (ninS ne_d_r nin0)
    have Ef_14 := Ef_7.keep K9
    have Ef_16 := Ex2.keep K9
    have O9 := O2.keep K9 (allS g_r all0)
    have V9 : Arv Z h9 r k2 (.object "java/lang/Object") (2 : Int32) [(.ref s0), (.ref s1)] .null := A9
    have KK9 := K2.trans K9 (allS (Or.inr sz_r) all0)
    have zl9 := Nat.le_trans zl2 K9.1
    refine Own.aloadN 39 X9 hx (hb hby d21_38) rfl rfl rfl ?_
    refine Own.retRef X9 hx hlk rfl hret rfl (hb hby d21_39) (by decide) (by decide) ?_
    rw [e9]
    exact ⟨r, k2, rfl, N9, KK9, sz_r, g_r, V9⟩
set_option maxRecDepth 65536 in
set_option maxHeartbeats 40000000 in
theorem m21_3 (l : Launch) (Z : State) (a0 : Array Value) (w : ∀ (i : Nat) {d : Jvm.Cond}, tables_1[i]? = some d → d.before a0 Z = true) (d : Addr) (mr : Addr) (dc em el : Addr) (kd : ClassId) (n0 : Nat)(k : ClassId) (s0 s1 s2 : Addr) (h0 : Heap) (Z0 : n0 ≤ h0.size) (X00 : Old Z n0 h0) (SS : own_SS Z dc em el mr kd)(E_s0 : Exa Z h0 s0 "java/lang/String") (E_s1 : Exa Z h0 s1 "java/lang/String") (E_s2 : Exa Z h0 s2 "java/lang/String")(V_d : Arv Z h0 d k (.object "java/lang/Object") (10 : Int32) [(.ref s0), (.ref s1), (.ref s2), .null, .null, .null, .null, .null, .null, .null] .null) (Ov_d : Ovr Z k "java/lang/Object") (E_d : Exa Z h0 d "[Ljava/lang/Object;") :
    Own.Met l Z (⟨"java/util/Arrays", "copyOf", "([Ljava/lang/Object;ILjava/lang/Class;)[Ljava/lang/Object;"⟩ : MethodName) jdk_65_method_120_code 4 (some (.array (.object "java/lang/Object"))) [] ({ frames := 1, cells := 1, slots := 3, locals := 18 } : Room) #[(.ref d), (.int (3 : Int32)), (.ref mr)] h0 (fun v h L => ∃ (r : Addr) (k' : ClassId), v = some (.ref r) ∧ Fr n0 L ∧ Keep h0 h [] ∧ h0.size ≤ r ∧ n0 ≤ r ∧ Arv Z h r k' (.object "java/lang/Object") (3 : Int32) [(.ref s0), (.ref s1), (.ref s2)] .null) := by
  refine Own.Met.of (plainFor_of_name (by first | (simp [plainName, overriddenIn]; done) | decide +kernel)) ?_
  intro p e s m below meth c T0 hx hby hml hown hnm hret hlk hZ X0 e0
  have hown : s.vm.findClass "java/util/Arrays" = some m.cls := hown
  have hml : c.maxLocals = 4 := hml
  have hnm : meth.name = "copyOf" := hnm
  have ef : entryFrame m #[(.ref d), (.int (3 : Int32)), (.ref mr)] 4 = mkF m 0 #[.val (.ref d), .val (.int (3 : Int32)), .val (.ref mr), .unset] [] := by first | (simp [entryFrame, mkF, argsToLocals, Value.category]; done) | rfl
  rw [ef]
  have N0 := Fr.nil n0
  refine Own.aloadN 1 X0 hx (hb hby d21_0) rfl rfl rfl ?_
  refine Own.ldcCls 3 X0 hx hZ hown (w 142 rfl) SS.2.2.2.1 e0 (hb hby d21_1) rfl ?_
  intro T1 X1 e1
  refine Own.acmp_ne 13 6 X1 hx (hb hby d21_3) rfl rfl (by decide) rfl (fun q => ?_) (fun q => ?_)
  ·
    exact absurd rfl q
  ·
    refine Own.iloadN 7 X1 hx (hb hby d21_6) rfl rfl ?_
    refine Own.newRefArrE 10 3 X1 hx hZ hown (w 143 rfl) (w 87 rfl) e1 (by decide) (by decide) (by decide) (ad := "[Ljava/lang/Object;") (by decide) (hb hby d21_7) rfl (by decide) (by decide) ?_
    intro T2 h2 r k2 z2 X2 e2 E2 A2 Ov2 Ex2
    have ne_d_r : d ≠ r := Nat.ne_of_lt (Nat.lt_of_lt_of_le V_d.lt (Nat.le_of_eq z2.symm))
    have ne_s0_r : s0 ≠ r := Nat.ne_of_lt (Nat.lt_of_lt_of_le E_s0.lt (Nat.le_of_eq z2.symm))
    have ne_s1_r : s1 ≠ r := Nat.ne_of_lt (Nat.lt_of_lt_of_le E_s1.lt (Nat.le_of_eq z2.symm))
    have ne_s2_r : s2 ≠ r := Nat.ne_of_lt (Nat.lt_of_lt_of_le E_s2.lt (Nat.le_of_eq z2.symm))
    have g_r : n0 ≤ r := Nat.le_trans Z0 (Nat.le_of_eq z2.symm)
    have sz_r : h0.size ≤ r := Nat.le_trans (Keep.refl h0 []).1 (Nat.le_of_eq z2.symm)
    have K2 := (Keep.refl h0 []).ext E2
    have Ef_4 := E_s0.ext E2
    have Ef_5 := E_s1.ext E2
    have Ef_6 := E_s2.ext E2
    have Vf_7 := V_d.ext E2
    have Ef_8 := E_d.ext E2
    have O2 := X00.ext E2
    have zl2 := Nat.le_trans Z0 E2.1
    have V2 : Arv Z h2 r k2 (.object "java/lang/Object") (3 : Int32) [.null, .null, .null] .null := A2
    refine Own.goto 24 X2 hx (hb hby d21_10) (by decide) ?_
    refine Own.astoreN 25 #[.val (.ref d), .val (.int (3 : Int32)), .val (.ref mr), .val (.ref r)] X2 hx (hb hby d21_24) rfl rfl rfl ?_
    refine Own.aloadN 26 X2 hx (hb hby d21_25) rfl rfl rfl ?_
    refine Own.iconst 27 X2 hx ((0 : Int32)) (hb hby d21_26) rfl rfl ?_
    refine Own.aloadN 28 X2 hx (hb hby d21_27) rfl rfl rfl ?_
    refine Own.iconst 29 X2 hx ((0 : Int32)) (hb hby d21_28) rfl rfl ?_
    refine Own.aloadN 30 X2 hx (hb hby d21_29) rfl rfl rfl ?_
    refine Own.arrLen 31 X2 hx hZ e2 Vf_7 (hb hby d21_30) rfl ?_
    refine Own.iloadN 32 X2 hx (hb hby d21_31) rfl rfl ?_
    refine Own.callSt 35 4 [(.int (10 : Int32)), (.int (3 : Int32))] [(.int (0 : Int32)), (.ref r), (.int (0 : Int32)), (.ref d)] X2 hx hZ hown (m22_3 l Z a0 w _) (w 144 rfl) (w 145 rfl) (w 84 rfl) (w 146 rfl) (by decide) e2 (by decide) (by decide) (by decide) (by decide) (by rw [hml]; rfl) (lenOf pd_1 rfl) rfl (Nat.le_of_eq rfl) (hb hby d21_32) rfl ?_
    rintro vv T9 L9 X9 ⟨rfl, hh9, rfl⟩
    have N9 := Fr.app N0 (Fr.nil _)
    refine Own.arrCopyR 38 0 [(.ref s0), (.ref s1), (.ref s2)] X9 hx hZ hown (w 147 rfl) (w 150 rfl) (w 148 rfl) (w 149 rfl) hh9 Vf_7 V2 rfl rfl ⟨(by obtain ⟨cq, Aq, qq, -⟩ := V2; exact Sto.ofV Aq qq Ov2 (Ins.of_exa Ef_4 (w 88 rfl))), (by obtain ⟨cq, Aq, qq, -⟩ := V2; exact Sto.ofV Aq qq Ov2 (Ins.of_exa Ef_5 (w 88 rfl))), (by obtain ⟨cq, Aq, qq, -⟩ := V2; exact Sto.ofV Aq qq Ov2 (Ins.of_exa Ef_6 (w 88 rfl))), trivial⟩ (by decide) (by decide) (by decide) (by decide) (by decide) rfl (by decide) N9 g_r (by rw [hml]; rfl) (hb hby d21_35) rfl (by decide) (Nat.le_of_eq rfl) (by decide) ?_
    intro T10 h10 L10 X10 e10 N10 K10 A10
    have Ef_12 := Ef_4.keep K10
    have Ef_13 := Ef_5.keep K10
    have Ef_14 := Ef_6.keep K10
    have Vf_15 := Vf_7.keep K10 (ninS ne_d_r nin0)
    have Ef_16 := Ef_8.keep K10
    have Ef_18 := Ex2.keep K10
    have O10 := O2.keep K10 (allS g_r all0)
    have V10 : Arv Z h10 r k2 (.object "java/lang/Object") (3 : Int32) [(.ref s0), (.ref s1), (.ref s2)] .null := A10
    have KK10 := K2.trans K10 (allS (Or.inr sz_r) all0)
    have zl10 := Nat.le_trans zl2 K10.1
    refine Own.aloadN 39 X10 hx (hb hby d21_38) rfl rfl rfl ?_
    refine Own.retRef X10 hx hlk rfl hret rfl (hb hby d21_39) (by decide) (by decide) ?_
    rw [e10]
    exact ⟨r, k2, rfl, N10, KK10, sz_r, g_r, V10⟩
theorem d20_0 : decode jdk_65_method_119_code 0 = .ok (.aload_n 0, 1) := by decide +kernel
theorem d20_1 : decode jdk_65_method_119_code 1 = .ok (.iload_n 1, 1) := by decide +kernel
theorem d20_2 : decode jdk_65_method_119_code 2 = .ok (.aload_n 0, 1) := by decide +kernel
theorem d20_3 : decode jdk_65_method_119_code 3 = .ok (.invokevirtual 86, 3) := by decide +kernel
theorem d20_6 : decode jdk_65_method_119_code 6 = .ok (.invokestatic 300, 3) := by decide +kernel
theorem d20_9 : decode jdk_65_method_119_code 9 = .ok (.areturn, 1) := by decide +kernel
set_option maxRecDepth 65536 in
set_option maxHeartbeats 40000000 in
theorem m20_1 (l : Launch) (Z : State) (a0 : Array Value) (w : ∀ (i : Nat) {d : Jvm.Cond}, tables_1[i]? = some d → d.before a0 Z = true) (d : Addr) (dc em el mr : Addr) (kd : ClassId) (n0 : Nat)(k : ClassId) (s0 : Addr) (h0 : Heap) (Z0 : n0 ≤ h0.size) (X00 : Old Z n0 h0) (SS : own_SS Z dc em el mr kd)(E_s0 : Exa Z h0 s0 "java/lang/String")(V_d : Arv Z h0 d k (.object "java/lang/Object") (10 : Int32) [(.ref s0), .null, .null, .null, .null, .null, .null, .null, .null, .null] .null) (Ov_d : Ovr Z k "java/lang/Object") (E_d : Exa Z h0 d "[Ljava/lang/Object;") :
    Own.Met l Z (⟨"java/util/Arrays", "copyOf", "([Ljava/lang/Object;I)[Ljava/lang/Object;"⟩ : MethodName) jdk_65_method_119_code 2 (some (.array (.object "java/lang/Object"))) [] ({ frames := 2, cells := 1, slots := 1, locals := 33 } : Room) #[(.ref d), (.int (1 : Int32))] h0 (fun v h L => ∃ (r : Addr) (k' : ClassId), v = some (.ref r) ∧ Fr n0 L ∧ Keep h0 h [] ∧ h0.size ≤ r ∧ n0 ≤ r ∧ Arv Z h r k' (.object "java/lang/Object") (1 : Int32) [(.ref s0)] .null) := by
  refine Own.Met.of (plainFor_of_name (by first | (simp [plainName, overriddenIn]; done) | decide +kernel)) ?_
  intro p e s m below meth c T0 hx hby hml hown hnm hret hlk hZ X0 e0
  have hown : s.vm.findClass "java/util/Arrays" = some m.cls := hown
  have hml : c.maxLocals = 2 := hml
  have hnm : meth.name = "copyOf" := hnm
  have ef : entryFrame m #[(.ref d), (.int (1 : Int32))] 2 = mkF m 0 #[.val (.ref d), .val (.int (1 : Int32))] [] := by first | (simp [entryFrame, mkF, argsToLocals, Value.category]; done) | rfl
  rw [ef]
  have N0 := Fr.nil n0
  refine Own.aloadN 1 X0 hx (hb hby d20_0) rfl rfl rfl ?_
  refine Own.iloadN 2 X0 hx (hb hby d20_1) rfl rfl ?_
  refine Own.aloadN 3 X0 hx (hb hby d20_2) rfl rfl rfl ?_
  refine Own.getCls 6 2 X0 hx hZ hown (w 133 rfl) (w 134 rfl) (w 110 rfl) (w 136 rfl) (w 135 rfl) (w 137 rfl) e0 E_d SS.2.2.2.1 (by rw [hml]; rfl) (hb hby d20_3) rfl (by decide) (Nat.le_of_eq rfl) (by decide) ?_
  intro T1 X1 e1
  refine Own.callSt 9 0 [(.ref d), (.int (1 : Int32)), (.ref mr)] [] X1 hx hZ hown (m21_1 l Z a0 w d mr dc em el kd n0 k s0 _ Z0 X00 SS E_s0 V_d Ov_d E_d) (w 139 rfl) (w 140 rfl) (w 131 rfl) (w 141 rfl) (by decide) e1 (by decide) (by decide) (by decide) (by decide) (by rw [hml]; rfl) (lenOf pd_5 rfl) rfl (Nat.le_of_eq rfl) (hb hby d20_6) rfl ?_
  rintro vv T2 L2 X2 ⟨r, kr2, rfl, N2q, K2, sz_r, g_r, V2⟩
  have N2 := Fr.app N0 N2q
  have O2 := X00.keep K2 all0
  have Ef_4 := E_s0.keep K2
  have Vf_5 := V_d.keep K2 nin0
  have Ef_6 := E_d.keep K2
  have zl2 := Nat.le_trans Z0 K2.1
  have KK2 := (Keep.refl h0 []).trans K2 all0
  refine Own.retRef X2 hx hlk rfl hret rfl (hb hby d20_9) (by decide) (by decide) ?_
  exact ⟨r, kr2, rfl, N2, KK2, sz_r, g_r, V2⟩
set_option maxRecDepth 65536 in
set_option maxHeartbeats 40000000 in
theorem m20_2 (l : Launch) (Z : State) (a0 : Array Value) (w : ∀ (i : Nat) {d : Jvm.Cond}, tables_1[i]? = some d → d.before a0 Z = true) (d : Addr) (dc em el mr : Addr) (kd : ClassId) (n0 : Nat)(k : ClassId) (s0 s1 : Addr) (h0 : Heap) (Z0 : n0 ≤ h0.size) (X00 : Old Z n0 h0) (SS : own_SS Z dc em el mr kd)(E_s0 : Exa Z h0 s0 "java/lang/String") (E_s1 : Exa Z h0 s1 "java/lang/String")(V_d : Arv Z h0 d k (.object "java/lang/Object") (10 : Int32) [(.ref s0), (.ref s1), .null, .null, .null, .null, .null, .null, .null, .null] .null) (Ov_d : Ovr Z k "java/lang/Object") (E_d : Exa Z h0 d "[Ljava/lang/Object;") :
    Own.Met l Z (⟨"java/util/Arrays", "copyOf", "([Ljava/lang/Object;I)[Ljava/lang/Object;"⟩ : MethodName) jdk_65_method_119_code 2 (some (.array (.object "java/lang/Object"))) [] ({ frames := 2, cells := 1, slots := 2, locals := 33 } : Room) #[(.ref d), (.int (2 : Int32))] h0 (fun v h L => ∃ (r : Addr) (k' : ClassId), v = some (.ref r) ∧ Fr n0 L ∧ Keep h0 h [] ∧ h0.size ≤ r ∧ n0 ≤ r ∧ Arv Z h r k' (.object "java/lang/Object") (2 : Int32) [(.ref s0), (.ref s1)] .null) := by
  refine Own.Met.of (plainFor_of_name (by first | (simp [plainName, overriddenIn]; done) | decide +kernel)) ?_
  intro p e s m below meth c T0 hx hby hml hown hnm hret hlk hZ X0 e0
  have hown : s.vm.findClass "java/util/Arrays" = some m.cls := hown
  have hml : c.maxLocals = 2 := hml
  have hnm : meth.name = "copyOf" := hnm
  have ef : entryFrame m #[(.ref d), (.int (2 : Int32))] 2 = mkF m 0 #[.val (.ref d), .val (.int (2 : Int32))] [] := by first | (simp [entryFrame, mkF, argsToLocals, Value.category]; done) | rfl
  rw [ef]
  have N0 := Fr.nil n0
  refine Own.aloadN 1 X0 hx (hb hby d20_0) rfl rfl rfl ?_
  refine Own.iloadN 2 X0 hx (hb hby d20_1) rfl rfl ?_
  refine Own.aloadN 3 X0 hx (hb hby d20_2) rfl rfl rfl ?_
  refine Own.getCls 6 2 X0 hx hZ hown (w 133 rfl) (w 134 rfl) (w 110 rfl) (w 136 rfl) (w 135 rfl) (w 137 rfl) e0 E_d SS.2.2.2.1 (by rw [hml]; rfl) (hb hby d20_3) rfl (by decide) (Nat.le_of_eq rfl) (by decide) ?_
  intro T1 X1 e1
  refine Own.callSt 9 0 [(.ref d), (.int (2 : Int32)), (.ref mr)] [] X1 hx hZ hown (m21_2 l Z a0 w d mr dc em el kd n0 k s0 s1 _ Z0 X00 SS E_s0 E_s1 V_d Ov_d E_d) (w 139 rfl) (w 140 rfl) (w 131 rfl) (w 141 rfl) (by decide) e1 (by decide) (by decide) (by decide) (by decide) (by rw [hml]; rfl) (lenOf pd_5 rfl) rfl (Nat.le_of_eq rfl) (hb hby d20_6) rfl ?_
  rintro vv T2 L2 X2 ⟨r, kr2, rfl, N2q, K2, sz_r, g_r, V2⟩
  have N2 := Fr.app N0 N2q
  have O2 := X00.keep K2 all0
  have Ef_4 := E_s0.keep K2
  have Ef_5 := E_s1.keep K2
  have Vf_6 := V_d.keep K2 nin0
  have Ef_7 := E_d.keep K2
  have zl2 := Nat.le_trans Z0 K2.1
  have KK2 := (Keep.refl h0 []).trans K2 all0
  refine Own.retRef X2 hx hlk rfl hret rfl (hb hby d20_9) (by decide) (by decide) ?_
  exact ⟨r, kr2, rfl, N2, KK2, sz_r, g_r, V2⟩
set_option maxRecDepth 65536 in
set_option maxHeartbeats 40000000 in
theorem m20_3 (l : Launch) (Z : State) (a0 : Array Value) (w : ∀ (i : Nat) {d : Jvm.Cond}, tables_1[i]? = some d → d.before a0 Z = true) (d : Addr) (dc em el mr : Addr) (kd : ClassId) (n0 : Nat)(k : ClassId) (s0 s1 s2 : Addr) (h0 : Heap) (Z0 : n0 ≤ h0.size) (X00 : Old Z n0 h0) (SS : own_SS Z dc em el mr kd)(E_s0 : Exa Z h0 s0 "java/lang/String") (E_s1 : Exa Z h0 s1 "java/lang/String") (E_s2 : Exa Z h0 s2 "java/lang/String")(V_d : Arv Z h0 d k (.object "java/lang/Object") (10 : Int32) [(.ref s0), (.ref s1), (.ref s2), .null, .null, .null, .null, .null, .null, .null] .null) (Ov_d : Ovr Z k "java/lang/Object") (E_d : Exa Z h0 d "[Ljava/lang/Object;") :
    Own.Met l Z (⟨"java/util/Arrays", "copyOf", "([Ljava/lang/Object;I)[Ljava/lang/Object;"⟩ : MethodName) jdk_65_method_119_code 2 (some (.array (.object "java/lang/Object"))) [] ({ frames := 2, cells := 1, slots := 3, locals := 33 } : Room) #[(.ref d), (.int (3 : Int32))] h0 (fun v h L => ∃ (r : Addr) (k' : ClassId), v = some (.ref r) ∧ Fr n0 L ∧ Keep h0 h [] ∧ h0.size ≤ r ∧ n0 ≤ r ∧ Arv Z h r k' (.object "java/lang/Object") (3 : Int32) [(.ref s0), (.ref s1), (.ref s2)] .null) := by
  refine Own.Met.of (plainFor_of_name (by first | (simp [plainName, overriddenIn]; done) | decide +kernel)) ?_
  intro p e s m below meth c T0 hx hby hml hown hnm hret hlk hZ X0 e0
  have hown : s.vm.findClass "java/util/Arrays" = some m.cls := hown
  have hml : c.maxLocals = 2 := hml
  have hnm : meth.name = "copyOf" := hnm
  have ef : entryFrame m #[(.ref d), (.int (3 : Int32))] 2 = mkF m 0 #[.val (.ref d), .val (.int (3 : Int32))] [] := by first | (simp [entryFrame, mkF, argsToLocals, Value.category]; done) | rfl
  rw [ef]
  have N0 := Fr.nil n0
  refine Own.aloadN 1 X0 hx (hb hby d20_0) rfl rfl rfl ?_
  refine Own.iloadN 2 X0 hx (hb hby d20_1) rfl rfl ?_
  refine Own.aloadN 3 X0 hx (hb hby d20_2) rfl rfl rfl ?_
  refine Own.getCls 6 2 X0 hx hZ hown (w 133 rfl) (w 134 rfl) (w 110 rfl) (w 136 rfl) (w 135 rfl) (w 137 rfl) e0 E_d SS.2.2.2.1 (by rw [hml]; rfl) (hb hby d20_3) rfl (by decide) (Nat.le_of_eq rfl) (by decide) ?_
  intro T1 X1 e1
  refine Own.callSt 9 0 [(.ref d), (.int (3 : Int32)), (.ref mr)] [] X1 hx hZ hown (m21_3 l Z a0 w d mr dc em el kd n0 k s0 s1 s2 _ Z0 X00 SS E_s0 E_s1 E_s2 V_d Ov_d E_d) (w 139 rfl) (w 140 rfl) (w 131 rfl) (w 141 rfl) (by decide) e1 (by decide) (by decide) (by decide) (by decide) (by rw [hml]; rfl) (lenOf pd_5 rfl) rfl (Nat.le_of_eq rfl) (hb hby d20_6) rfl ?_
  rintro vv T2 L2 X2 ⟨r, kr2, rfl, N2q, K2, sz_r, g_r, V2⟩
  have N2 := Fr.app N0 N2q
  have O2 := X00.keep K2 all0
  have Ef_4 := E_s0.keep K2
  have Ef_5 := E_s1.keep K2
  have Ef_6 := E_s2.keep K2
  have Vf_7 := V_d.keep K2 nin0
  have Ef_8 := E_d.keep K2
  have zl2 := Nat.le_trans Z0 K2.1
  have KK2 := (Keep.refl h0 []).trans K2 all0
  refine Own.retRef X2 hx hlk rfl hret rfl (hb hby d20_9) (by decide) (by decide) ?_
  exact ⟨r, kr2, rfl, N2, KK2, sz_r, g_r, V2⟩
theorem d19_0 : decode jdk_38_method_16_code 0 = .ok (.aload_n 0, 1) := by decide +kernel
theorem d19_1 : decode jdk_38_method_16_code 1 = .ok (.getfield 9, 3) := by decide +kernel
theorem d19_4 : decode jdk_38_method_16_code 4 = .ok (.aload_n 0, 1) := by decide +kernel
theorem d19_5 : decode jdk_38_method_16_code 5 = .ok (.getfield 48, 3) := by decide +kernel
theorem d19_8 : decode jdk_38_method_16_code 8 = .ok (.invokestatic 66, 3) := by decide +kernel
theorem d19_11 : decode jdk_38_method_16_code 11 = .ok (.areturn, 1) := by decide +kernel
set_option maxRecDepth 65536 in
set_option maxHeartbeats 40000000 in
theorem m19_1 (l : Launch) (Z : State) (a0 : Array Value) (w : ∀ (i : Nat) {d : Jvm.Cond}, tables_1[i]? = some d → d.before a0 Z = true) (a : Addr) (dc em el mr : Addr) (kd : ClassId) (n0 : Nat) (mc : Int32) (d : Addr) (k : ClassId) (s0 : Addr) (h0 : Heap) (Z0 : n0 ≤ h0.size) (X00 : Old Z n0 h0) (SS : own_SS Z dc em el mr kd)(E_a : Exa Z h0 a "java/util/ArrayList") (F1 : Fld Z h0 a "java/util/AbstractList" "modCount" "I" (.int mc)) (F2 : Fld Z h0 a "java/util/ArrayList" "elementData" "[Ljava/lang/Object;" (.ref d)) (F3 : Fld Z h0 a "java/util/ArrayList" "size" "I" (.int (1 : Int32))) (g_a : n0 ≤ a)(E_s0 : Exa Z h0 s0 "java/lang/String")(V_d : Arv Z h0 d k (.object "java/lang/Object") (10 : Int32) [(.ref s0), .null, .null, .null, .null, .null, .null, .null, .null, .null] .null) (Ov_d : Ovr Z k "java/lang/Object") (E_d : Exa Z h0 d "[Ljava/lang/Object;") :
    Own.Met l Z (⟨"java/util/ArrayList", "toArray", "()[Ljava/lang/Object;"⟩ : MethodName) jdk_38_method_16_code 1 (some (.array (.object "java/lang/Object"))) [] ({ frames := 3, cells := 1, slots := 1, locals := 46 } : Room) #[(.ref a)] h0 (fun v h L => ∃ (r : Addr) (k' : ClassId), v = some (.ref r) ∧ Fr n0 L ∧ Keep h0 h [] ∧ h0.size ≤ r ∧ n0 ≤ r ∧ Arv Z h r k' (.object "java/lang/Object") (1 : Int32) [(.ref s0)] .null) := by
  refine Own.Met.of (plainFor_of_name (by first | (simp [plainName, overriddenIn]; done) | decide +kernel)) ?_
  intro p e s m below meth c T0 hx hby hml hown hnm hret hlk hZ X0 e0
  have hown : s.vm.findClass "java/util/ArrayList" = some m.cls := hown
  have hml : c.maxLocals = 1 := hml
  have hnm : meth.name = "toArray" := hnm
  have ef : entryFrame m #[(.ref a)] 1 = mkF m 0 #[.val (.ref a)] [] := by first | (simp [entryFrame, mkF, argsToLocals, Value.category]; done) | rfl
  rw [ef]
  have N0 := Fr.nil n0
  refine Own.aloadN 1 X0 hx (hb hby d19_0) rfl rfl rfl ?_
  refine Own.getFld 4 X0 hx hZ hown (host := "") (Or.inl (w 56 rfl)) Via.refl e0 F2 (hb hby d19_1) rfl ?_
  intro T1 X1 e1
  refine Own.aloadN 5 X1 hx (hb hby d19_4) rfl rfl rfl ?_
  refine Own.getFld 8 X1 hx hZ hown (host := "") (Or.inl (w 65 rfl)) Via.refl e1 F3 (hb hby d19_5) rfl ?_
  intro T2 X2 e2
  refine Own.callSt 11 0 [(.ref d), (.int (1 : Int32))] [] X2 hx hZ hown (m20_1 l Z a0 w d dc em el mr kd n0 k s0 _ Z0 X00 SS E_s0 V_d Ov_d E_d) (w 129 rfl) (w 130 rfl) (w 131 rfl) (w 132 rfl) (by decide) e2 (by decide) (by decide) (by decide) (by decide) (by rw [hml]; rfl) (lenOf pd_6 rfl) rfl (Nat.le_of_eq rfl) (hb hby d19_8) rfl ?_
  rintro vv T3 L3 X3 ⟨r, kr3, rfl, N3q, K3, sz_r, g_r, V3⟩
  have N3 := Fr.app N0 N3q
  have O3 := X00.keep K3 all0
  have Ef_5 := E_a.keep K3
  have Ff_6 := F1.keep K3 nin0
  have Ff_7 := F2.keep K3 nin0
  have Ff_8 := F3.keep K3 nin0
  have Ef_9 := E_s0.keep K3
  have Vf_10 := V_d.keep K3 nin0
  have Ef_11 := E_d.keep K3
  have zl3 := Nat.le_trans Z0 K3.1
  have KK3 := (Keep.refl h0 []).trans K3 all0
  refine Own.retRef X3 hx hlk rfl hret rfl (hb hby d19_11) (by decide) (by decide) ?_
  exact ⟨r, kr3, rfl, N3, KK3, sz_r, g_r, V3⟩
set_option maxRecDepth 65536 in
set_option maxHeartbeats 40000000 in
theorem m19_2 (l : Launch) (Z : State) (a0 : Array Value) (w : ∀ (i : Nat) {d : Jvm.Cond}, tables_1[i]? = some d → d.before a0 Z = true) (a : Addr) (dc em el mr : Addr) (kd : ClassId) (n0 : Nat) (mc : Int32) (d : Addr) (k : ClassId) (s0 s1 : Addr) (h0 : Heap) (Z0 : n0 ≤ h0.size) (X00 : Old Z n0 h0) (SS : own_SS Z dc em el mr kd)(E_a : Exa Z h0 a "java/util/ArrayList") (F1 : Fld Z h0 a "java/util/AbstractList" "modCount" "I" (.int mc)) (F2 : Fld Z h0 a "java/util/ArrayList" "elementData" "[Ljava/lang/Object;" (.ref d)) (F3 : Fld Z h0 a "java/util/ArrayList" "size" "I" (.int (2 : Int32))) (g_a : n0 ≤ a)(E_s0 : Exa Z h0 s0 "java/lang/String") (E_s1 : Exa Z h0 s1 "java/lang/String")(V_d : Arv Z h0 d k (.object "java/lang/Object") (10 : Int32) [(.ref s0), (.ref s1), .null, .null, .null, .null, .null, .null, .null, .null] .null) (Ov_d : Ovr Z k "java/lang/Object") (E_d : Exa Z h0 d "[Ljava/lang/Object;") :
    Own.Met l Z (⟨"java/util/ArrayList", "toArray", "()[Ljava/lang/Object;"⟩ : MethodName) jdk_38_method_16_code 1 (some (.array (.object "java/lang/Object"))) [] ({ frames := 3, cells := 1, slots := 2, locals := 46 } : Room) #[(.ref a)] h0 (fun v h L => ∃ (r : Addr) (k' : ClassId), v = some (.ref r) ∧ Fr n0 L ∧ Keep h0 h [] ∧ h0.size ≤ r ∧ n0 ≤ r ∧ Arv Z h r k' (.object "java/lang/Object") (2 : Int32) [(.ref s0), (.ref s1)] .null) := by
  refine Own.Met.of (plainFor_of_name (by first | (simp [plainName, overriddenIn]; done) | decide +kernel)) ?_
  intro p e s m below meth c T0 hx hby hml hown hnm hret hlk hZ X0 e0
  have hown : s.vm.findClass "java/util/ArrayList" = some m.cls := hown
  have hml : c.maxLocals = 1 := hml
  have hnm : meth.name = "toArray" := hnm
  have ef : entryFrame m #[(.ref a)] 1 = mkF m 0 #[.val (.ref a)] [] := by first | (simp [entryFrame, mkF, argsToLocals, Value.category]; done) | rfl
  rw [ef]
  have N0 := Fr.nil n0
  refine Own.aloadN 1 X0 hx (hb hby d19_0) rfl rfl rfl ?_
  refine Own.getFld 4 X0 hx hZ hown (host := "") (Or.inl (w 56 rfl)) Via.refl e0 F2 (hb hby d19_1) rfl ?_
  intro T1 X1 e1
  refine Own.aloadN 5 X1 hx (hb hby d19_4) rfl rfl rfl ?_
  refine Own.getFld 8 X1 hx hZ hown (host := "") (Or.inl (w 65 rfl)) Via.refl e1 F3 (hb hby d19_5) rfl ?_
  intro T2 X2 e2
  refine Own.callSt 11 0 [(.ref d), (.int (2 : Int32))] [] X2 hx hZ hown (m20_2 l Z a0 w d dc em el mr kd n0 k s0 s1 _ Z0 X00 SS E_s0 E_s1 V_d Ov_d E_d) (w 129 rfl) (w 130 rfl) (w 131 rfl) (w 132 rfl) (by decide) e2 (by decide) (by decide) (by decide) (by decide) (by rw [hml]; rfl) (lenOf pd_6 rfl) rfl (Nat.le_of_eq rfl) (hb hby d19_8) rfl ?_
  rintro vv T3 L3 X3 ⟨r, kr3, rfl, N3q, K3, sz_r, g_r, V3⟩
  have N3 := Fr.app N0 N3q
  have O3 := X00.keep K3 all0
  have Ef_5 := E_a.keep K3
  have Ff_6 := F1.keep K3 nin0
  have Ff_7 := F2.keep K3 nin0
  have Ff_8 := F3.keep K3 nin0
  have Ef_9 := E_s0.keep K3
  have Ef_10 := E_s1.keep K3
  have Vf_11 := V_d.keep K3 nin0
  have Ef_12 := E_d.keep K3
  have zl3 := Nat.le_trans Z0 K3.1
  have KK3 := (Keep.refl h0 []).trans K3 all0
  refine Own.retRef X3 hx hlk rfl hret rfl (hb hby d19_11) (by decide) (by decide) ?_
  exact ⟨r, kr3, rfl, N3, KK3, sz_r, g_r, V3⟩
set_option maxRecDepth 65536 in
set_option maxHeartbeats 40000000 in
theorem m19_3 (l : Launch) (Z : State) (a0 : Array Value) (w : ∀ (i : Nat) {d : Jvm.Cond}, tables_1[i]? = some d → d.before a0 Z = true) (a : Addr) (dc em el mr : Addr) (kd : ClassId) (n0 : Nat) (mc : Int32) (d : Addr) (k : ClassId) (s0 s1 s2 : Addr) (h0 : Heap) (Z0 : n0 ≤ h0.size) (X00 : Old Z n0 h0) (SS : own_SS Z dc em el mr kd)(E_a : Exa Z h0 a "java/util/ArrayList") (F1 : Fld Z h0 a "java/util/AbstractList" "modCount" "I" (.int mc)) (F2 : Fld Z h0 a "java/util/ArrayList" "elementData" "[Ljava/lang/Object;" (.ref d)) (F3 : Fld Z h0 a "java/util/ArrayList" "size" "I" (.int (3 : Int32))) (g_a : n0 ≤ a)(E_s0 : Exa Z h0 s0 "java/lang/String") (E_s1 : Exa Z h0 s1 "java/lang/String") (E_s2 : Exa Z h0 s2 "java/lang/String")(V_d : Arv Z h0 d k (.object "java/lang/Object") (10 : Int32) [(.ref s0), (.ref s1), (.ref s2), .null, .null, .null, .null, .null, .null, .null] .null) (Ov_d : Ovr Z k "java/lang/Object") (E_d : Exa Z h0 d "[Ljava/lang/Object;") :
    Own.Met l Z (⟨"java/util/ArrayList", "toArray", "()[Ljava/lang/Object;"⟩ : MethodName) jdk_38_method_16_code 1 (some (.array (.object "java/lang/Object"))) [] ({ frames := 3, cells := 1, slots := 3, locals := 46 } : Room) #[(.ref a)] h0 (fun v h L => ∃ (r : Addr) (k' : ClassId), v = some (.ref r) ∧ Fr n0 L ∧ Keep h0 h [] ∧ h0.size ≤ r ∧ n0 ≤ r ∧ Arv Z h r k' (.object "java/lang/Object") (3 : Int32) [(.ref s0), (.ref s1), (.ref s2)] .null) := by
  refine Own.Met.of (plainFor_of_name (by first | (simp [plainName, overriddenIn]; done) | decide +kernel)) ?_
  intro p e s m below meth c T0 hx hby hml hown hnm hret hlk hZ X0 e0
  have hown : s.vm.findClass "java/util/ArrayList" = some m.cls := hown
  have hml : c.maxLocals = 1 := hml
  have hnm : meth.name = "toArray" := hnm
  have ef : entryFrame m #[(.ref a)] 1 = mkF m 0 #[.val (.ref a)] [] := by first | (simp [entryFrame, mkF, argsToLocals, Value.category]; done) | rfl
  rw [ef]
  have N0 := Fr.nil n0
  refine Own.aloadN 1 X0 hx (hb hby d19_0) rfl rfl rfl ?_
  refine Own.getFld 4 X0 hx hZ hown (host := "") (Or.inl (w 56 rfl)) Via.refl e0 F2 (hb hby d19_1) rfl ?_
  intro T1 X1 e1
  refine Own.aloadN 5 X1 hx (hb hby d19_4) rfl rfl rfl ?_
  refine Own.getFld 8 X1 hx hZ hown (host := "") (Or.inl (w 65 rfl)) Via.refl e1 F3 (hb hby d19_5) rfl ?_
  intro T2 X2 e2
  refine Own.callSt 11 0 [(.ref d), (.int (3 : Int32))] [] X2 hx hZ hown (m20_3 l Z a0 w d dc em el mr kd n0 k s0 s1 s2 _ Z0 X00 SS E_s0 E_s1 E_s2 V_d Ov_d E_d) (w 129 rfl) (w 130 rfl) (w 131 rfl) (w 132 rfl) (by decide) e2 (by decide) (by decide) (by decide) (by decide) (by rw [hml]; rfl) (lenOf pd_6 rfl) rfl (Nat.le_of_eq rfl) (hb hby d19_8) rfl ?_
  rintro vv T3 L3 X3 ⟨r, kr3, rfl, N3q, K3, sz_r, g_r, V3⟩
  have N3 := Fr.app N0 N3q
  have O3 := X00.keep K3 all0
  have Ef_5 := E_a.keep K3
  have Ff_6 := F1.keep K3 nin0
  have Ff_7 := F2.keep K3 nin0
  have Ff_8 := F3.keep K3 nin0
  have Ef_9 := E_s0.keep K3
  have Ef_10 := E_s1.keep K3
  have Ef_11 := E_s2.keep K3
  have Vf_12 := V_d.keep K3 nin0
  have Ef_13 := E_d.keep K3
  have zl3 := Nat.le_trans Z0 K3.1
  have KK3 := (Keep.refl h0 []).trans K3 all0
  refine Own.retRef X3 hx hlk rfl hret rfl (hb hby d19_11) (by decide) (by decide) ?_
  exact ⟨r, kr3, rfl, N3, KK3, sz_r, g_r, V3⟩
theorem d18_0 : decode jdk_38_method_9_code 0 = .ok (.aload_n 0, 1) := by decide +kernel
theorem d18_1 : decode jdk_38_method_9_code 1 = .ok (.getfield 48, 3) := by decide +kernel
theorem d18_4 : decode jdk_38_method_9_code 4 = .ok (.ifCond .ne 7, 3) := by decide +kernel
theorem d18_7 : decode jdk_38_method_9_code 7 = .ok (.iconst 1, 1) := by decide +kernel
theorem d18_8 : decode jdk_38_method_9_code 8 = .ok (.goto 4, 3) := by decide +kernel
theorem d18_12 : decode jdk_38_method_9_code 12 = .ok (.ireturn, 1) := by decide +kernel
set_option maxRecDepth 65536 in
set_option maxHeartbeats 40000000 in
theorem m18_0 (l : Launch) (Z : State) (a0 : Array Value) (w : ∀ (i : Nat) {d : Jvm.Cond}, tables_1[i]? = some d → d.before a0 Z = true) (a : Addr)  (h0 : Heap) (F3 : Fld Z h0 a "java/util/ArrayList" "size" "I" (.int (0 : Int32))) :
    Own.Met l Z (⟨"java/util/ArrayList", "isEmpty", "()Z"⟩ : MethodName) jdk_38_method_9_code 1 (some .boolean) [] ({ frames := 0, cells := 0, slots := 0, locals := 0 } : Room) #[(.ref a)] h0 (fun v h L => v = some (.int 1) ∧ h = h0 ∧ L = []) := by
  refine Own.Met.of (plainFor_of_name (by first | (simp [plainName, overriddenIn]; done) | decide +kernel)) ?_
  intro p e s m below meth c T0 hx hby hml hown hnm hret hlk hZ X0 e0
  have hown : s.vm.findClass "java/util/ArrayList" = some m.cls := hown
  have hml : c.maxLocals = 1 := hml
  have hnm : meth.name = "isEmpty" := hnm
  have ef : entryFrame m #[(.ref a)] 1 = mkF m 0 #[.val (.ref a)] [] := by first | (simp [entryFrame, mkF, argsToLocals, Value.category]; done) | rfl
  rw [ef]
  refine Own.aloadN 1 X0 hx (hb hby d18_0) rfl rfl rfl ?_
  refine Own.getFld 4 X0 hx hZ hown (host := "") (Or.inl (w 65 rfl)) Via.refl e0 F3 (hb hby d18_1) rfl ?_
  intro T1 X1 e1
  refine Own.if_ne 11 7 X1 hx (hb hby d18_4) (by decide) rfl (fun tk => absurd tk (by decide)) (fun tk => ?_)
  refine Own.iconst 8 X1 hx ((1 : Int32)) (hb hby d18_7) rfl rfl ?_
  refine Own.goto 12 X1 hx (hb hby d18_8) (by decide) ?_
  refine Own.retBool X1 hx hlk hret (hb hby d18_12) (by decide) (by decide) ?_
  exact ⟨rfl, e1, rfl⟩
theorem d18_11 : decode jdk_38_method_9_code 11 = .ok (.iconst 0, 1) := by decide +kernel
set_option maxRecDepth 65536 in
set_option maxHeartbeats 40000000 in
theorem m18_1 (l : Launch) (Z : State) (a0 : Array Value) (w : ∀ (i : Nat) {d : Jvm.Cond}, tables_1[i]? = some d → d.before a0 Z = true) (a : Addr)  (h0 : Heap) (F3 : Fld Z h0 a "java/util/ArrayList" "size" "I" (.int (1 : Int32))) :
    Own.Met l Z (⟨"java/util/ArrayList", "isEmpty", "()Z"⟩ : MethodName) jdk_38_method_9_code 1 (some .boolean) [] ({ frames := 0, cells := 0, slots := 0, locals := 0 } : Room) #[(.ref a)] h0 (fun v h L => v = some (.int 0) ∧ h = h0 ∧ L = []) := by
  refine Own.Met.of (plainFor_of_name (by first | (simp [plainName, overriddenIn]; done) | decide +kernel)) ?_
  intro p e s m below meth c T0 hx hby hml hown hnm hret hlk hZ X0 e0
  have hown : s.vm.findClass "java/util/ArrayList" = some m.cls := hown
  have hml : c.maxLocals = 1 := hml
  have hnm : meth.name = "isEmpty" := hnm
  have ef : entryFrame m #[(.ref a)] 1 = mkF m 0 #[.val (.ref a)] [] := by first | (simp [entryFrame, mkF, argsToLocals, Value.category]; done) | rfl
  rw [ef]
  refine Own.aloadN 1 X0 hx (hb hby d18_0) rfl rfl rfl ?_
  refine Own.getFld 4 X0 hx hZ hown (host := "") (Or.inl (w 65 rfl)) Via.refl e0 F3 (hb hby d18_1) rfl ?_
  intro T1 X1 e1
  refine Own.if_ne 11 7 X1 hx (hb hby d18_4) (by decide) rfl (fun tk => ?_) (fun tk => absurd tk (by decide))
  refine Own.iconst 12 X1 hx ((0 : Int32)) (hb hby d18_11) rfl rfl ?_
  refine Own.retBool X1 hx hlk hret (hb hby d18_12) (by decide) (by decide) ?_
  exact ⟨rfl, e1, rfl⟩
set_option maxRecDepth 65536 in
set_option maxHeartbeats 40000000 in
theorem m18_2 (l : Launch) (Z : State) (a0 : Array Value) (w : ∀ (i : Nat) {d : Jvm.Cond}, tables_1[i]? = some d → d.before a0 Z = true) (a : Addr)  (h0 : Heap) (F3 : Fld Z h0 a "java/util/ArrayList" "size" "I" (.int (2 : Int32))) :
    Own.Met l Z (⟨"java/util/ArrayList", "isEmpty", "()Z"⟩ : MethodName) jdk_38_method_9_code 1 (some .boolean) [] ({ frames := 0, cells := 0, slots := 0, locals := 0 } : Room) #[(.ref a)] h0 (fun v h L => v = some (.int 0) ∧ h = h0 ∧ L = []) := by
  refine Own.Met.of (plainFor_of_name (by first | (simp [plainName, overriddenIn]; done) | decide +kernel)) ?_
  intro p e s m below meth c T0 hx hby hml hown hnm hret hlk hZ X0 e0
  have hown : s.vm.findClass "java/util/ArrayList" = some m.cls := hown
  have hml : c.maxLocals = 1 := hml
  have hnm : meth.name = "isEmpty" := hnm
  have ef : entryFrame m #[(.ref a)] 1 = mkF m 0 #[.val (.ref a)] [] := by first | (simp [entryFrame, mkF, argsToLocals, Value.category]; done) | rfl
  rw [ef]
  refine Own.aloadN 1 X0 hx (hb hby d18_0) rfl rfl rfl ?_
  refine Own.getFld 4 X0 hx hZ hown (host := "") (Or.inl (w 65 rfl)) Via.refl e0 F3 (hb hby d18_1) rfl ?_
  intro T1 X1 e1
  refine Own.if_ne 11 7 X1 hx (hb hby d18_4) (by decide) rfl (fun tk => ?_) (fun tk => absurd tk (by decide))
  refine Own.iconst 12 X1 hx ((0 : Int32)) (hb hby d18_11) rfl rfl ?_
  refine Own.retBool X1 hx hlk hret (hb hby d18_12) (by decide) (by decide) ?_
  exact ⟨rfl, e1, rfl⟩
set_option maxRecDepth 65536 in
set_option maxHeartbeats 40000000 in
theorem m18_3 (l : Launch) (Z : State) (a0 : Array Value) (w : ∀ (i : Nat) {d : Jvm.Cond}, tables_1[i]? = some d → d.before a0 Z = true) (a : Addr)  (h0 : Heap) (F3 : Fld Z h0 a "java/util/ArrayList" "size" "I" (.int (3 : Int32))) :
    Own.Met l Z (⟨"java/util/ArrayList", "isEmpty", "()Z"⟩ : MethodName) jdk_38_method_9_code 1 (some .boolean) [] ({ frames := 0, cells := 0, slots := 0, locals := 0 } : Room) #[(.ref a)] h0 (fun v h L => v = some (.int 0) ∧ h = h0 ∧ L = []) := by
  refine Own.Met.of (plainFor_of_name (by first | (simp [plainName, overriddenIn]; done) | decide +kernel)) ?_
  intro p e s m below meth c T0 hx hby hml hown hnm hret hlk hZ X0 e0
  have hown : s.vm.findClass "java/util/ArrayList" = some m.cls := hown
  have hml : c.maxLocals = 1 := hml
  have hnm : meth.name = "isEmpty" := hnm
  have ef : entryFrame m #[(.ref a)] 1 = mkF m 0 #[.val (.ref a)] [] := by first | (simp [entryFrame, mkF, argsToLocals, Value.category]; done) | rfl
  rw [ef]
  refine Own.aloadN 1 X0 hx (hb hby d18_0) rfl rfl rfl ?_
  refine Own.getFld 4 X0 hx hZ hown (host := "") (Or.inl (w 65 rfl)) Via.refl e0 F3 (hb hby d18_1) rfl ?_
  intro T1 X1 e1
  refine Own.if_ne 11 7 X1 hx (hb hby d18_4) (by decide) rfl (fun tk => ?_) (fun tk => absurd tk (by decide))
  refine Own.iconst 12 X1 hx ((0 : Int32)) (hb hby d18_11) rfl rfl ?_
  refine Own.retBool X1 hx hlk hret (hb hby d18_12) (by decide) (by decide) ?_
  exact ⟨rfl, e1, rfl⟩
theorem d27_0 : decode jdk_31_method_10_code 0 = .ok (.aload_n 0, 1) := by decide +kernel
theorem d27_1 : decode jdk_31_method_10_code 1 = .ok (.ifnonnull 11, 3) := by decide +kernel
theorem d27_12 : decode jdk_31_method_10_code 12 = .ok (.aload_n 0, 1) := by decide +kernel
theorem d27_13 : decode jdk_31_method_10_code 13 = .ok (.areturn, 1) := by decide +kernel
set_option maxRecDepth 65536 in
set_option maxHeartbeats 40000000 in
theorem m27 (l : Launch) (Z : State) (a0 : Array Value) (w : ∀ (i : Nat) {d : Jvm.Cond}, tables_1[i]? = some d → d.before a0 Z = true) (a : Addr)  (h0 : Heap)  :
    Own.Met l Z (⟨"java/util/Objects", "requireNonNull", "(Ljava/lang/Object;)Ljava/lang/Object;"⟩ : MethodName) jdk_31_method_10_code 1 (some (.object "java/lang/Object")) [] ({ frames := 0, cells := 0, slots := 0, locals := 0 } : Room) #[(.ref a)] h0 (fun v h L => v = some (.ref a) ∧ h = h0 ∧ L = []) := by
  refine Own.Met.of (plainFor_of_name (by first | (simp [plainName, overriddenIn]; done) | decide +kernel)) ?_
  intro p e s m below meth c T0 hx hby hml hown hnm hret hlk hZ X0 e0
  have hown : s.vm.findClass "java/util/Objects" = some m.cls := hown
  have hml : c.maxLocals = 1 := hml
  have hnm : meth.name = "requireNonNull" := hnm
  have ef : entryFrame m #[(.ref a)] 1 = mkF m 0 #[.val (.ref a)] [] := by first | (simp [entryFrame, mkF, argsToLocals, Value.category]; done) | rfl
  rw [ef]
  refine Own.aloadN 1 X0 hx (hb hby d27_0) rfl rfl rfl ?_
  refine Own.ifnonnull 12 4 X0 hx (hb hby d27_1) rfl (by decide) rfl (fun _ _ => ?_) (fun hh => nomatch hh)
  refine Own.aloadN 13 X0 hx (hb hby d27_12) rfl rfl rfl ?_
  refine Own.retRef X0 hx hlk rfl hret rfl (hb hby d27_13) (by decide) (by decide) ?_
  exact ⟨rfl, e0, rfl⟩
theorem d28_0 : decode jdk_40_method_36_code 0 = .ok (.getstatic 90, 3) := by decide +kernel
theorem d28_3 : decode jdk_40_method_36_code 3 = .ok (.areturn, 1) := by decide +kernel
set_option maxRecDepth 65536 in
set_option maxHeartbeats 40000000 in
theorem m28 (l : Launch) (Z : State) (a0 : Array Value) (w : ∀ (i : Nat) {d : Jvm.Cond}, tables_1[i]? = some d → d.before a0 Z = true)  (dc em el mr : Addr) (kd : ClassId) (n0 : Nat) (h0 : Heap) (Z0 : n0 ≤ h0.size) (X00 : Old Z n0 h0) (SS : own_SS Z dc em el mr kd) :
    Own.Met l Z (⟨"java/util/List", "of", "()Ljava/util/List;"⟩ : MethodName) jdk_40_method_36_code 0 (some (.object "java/util/List")) [] ({ frames := 0, cells := 0, slots := 0, locals := 0 } : Room) #[] h0 (fun v h L => v = some (.ref el) ∧ h = h0 ∧ L = []) := by
  refine Own.Met.of (plainFor_of_name (by first | (simp [plainName, overriddenIn]; done) | decide +kernel)) ?_
  intro p e s m below meth c T0 hx hby hml hown hnm hret hlk hZ X0 e0
  have hown : s.vm.findClass "java/util/List" = some m.cls := hown
  have hml : c.maxLocals = 0 := hml
  have hnm : meth.name = "of" := hnm
  have ef : entryFrame m #[] 0 = mkF m 0 #[] [] := by first | (simp [entryFrame, mkF, argsToLocals, Value.category]; done) | rfl
  rw [ef]
  refine Own.getSta 3 X0 hx hZ hown (host := "") (Or.inl (w 189 rfl)) Via.refl e0 (SS.2.2.1.ext X00.2) (hb hby d28_0) rfl ?_
  intro T1 X1 e1
  refine Own.retRef X1 hx hlk rfl hret rfl (hb hby d28_3) (by decide) (by decide) ?_
  exact ⟨rfl, e1, rfl⟩
theorem d24_0 : decode jdk_44_method_1_code 0 = .ok (.aload_n 0, 1) := by decide +kernel
theorem d24_1 : decode jdk_44_method_1_code 1 = .ok (.invokespecial 1, 3) := by decide +kernel
theorem d24_4 : decode jdk_44_method_1_code 4 = .ok (.aload_n 0, 1) := by decide +kernel
theorem d24_5 : decode jdk_44_method_1_code 5 = .ok (.aload_n 1, 1) := by decide +kernel
theorem d24_6 : decode jdk_44_method_1_code 6 = .ok (.invokestatic 7, 3) := by decide +kernel
theorem d24_9 : decode jdk_44_method_1_code 9 = .ok (.putfield 13, 3) := by decide +kernel
theorem d24_12 : decode jdk_44_method_1_code 12 = .ok (.aload_n 0, 1) := by decide +kernel
theorem d24_13 : decode jdk_44_method_1_code 13 = .ok (.getstatic 19, 3) := by decide +kernel
theorem d24_16 : decode jdk_44_method_1_code 16 = .ok (.putfield 24, 3) := by decide +kernel
theorem d24_19 : decode jdk_44_method_1_code 19 = .ok (.return_, 1) := by decide +kernel
set_option maxRecDepth 65536 in
set_option maxHeartbeats 40000000 in
theorem m24 (l : Launch) (Z : State) (a0 : Array Value) (w : ∀ (i : Nat) {d : Jvm.Cond}, tables_1[i]? = some d → d.before a0 Z = true) (a : Addr) (x1 : Addr) (dc em el mr : Addr) (kd : ClassId) (n0 : Nat) (u0 u1 : Value) (h0 : Heap) (Z0 : n0 ≤ h0.size) (X00 : Old Z n0 h0) (SS : own_SS Z dc em el mr kd)(E_a : Exa Z h0 a "java/util/ImmutableCollections$List12") (F0 : Fld Z h0 a "java/util/ImmutableCollections$List12" "e0" "Ljava/lang/Object;" u0) (F1 : Fld Z h0 a "java/util/ImmutableCollections$List12" "e1" "Ljava/lang/Object;" u1) (g_a : n0 ≤ a) :
    Own.Met l Z (⟨"java/util/ImmutableCollections$List12", "<init>", "(Ljava/lang/Object;)V"⟩ : MethodName) jdk_44_method_1_code 2 none [] ({ frames := 4, cells := 0, slots := 0, locals := 48 } : Room) #[(.ref a), (.ref x1)] h0 (fun v h L => v = none ∧ Fr n0 L ∧ Keep h0 h [a] ∧ Fld Z h a "java/util/ImmutableCollections$List12" "e0" "Ljava/lang/Object;" (.ref x1)) := by
  refine Own.Met.of (plainFor_of_name (by first | (simp [plainName, overriddenIn]; done) | decide +kernel)) ?_
  intro p e s m below meth c T0 hx hby hml hown hnm hret hlk hZ X0 e0
  have hown : s.vm.findClass "java/util/ImmutableCollections$List12" = some m.cls := hown
  have hml : c.maxLocals = 2 := hml
  have hnm : meth.name = "<init>" := hnm
  have ef : entryFrame m #[(.ref a), (.ref x1)] 2 = mkF m 0 #[.val (.ref a), .val (.ref x1)] [] := by first | (simp [entryFrame, mkF, argsToLocals, Value.category]; done) | rfl
  rw [ef]
  have N0 := Fr.nil n0
  refine Own.aloadN 1 X0 hx (hb hby d24_0) rfl rfl rfl ?_
  refine Own.callInit 4 0 a [] [] X0 hx hZ hown (m25 l Z a0 w a _) rfl (w 161 rfl) (w 162 rfl) (w 165 rfl) (w 166 rfl) (by decide) e0 (by decide) (by decide) (by decide) (by decide) (by rw [hml]; rfl) (lenOf pd_0 rfl) rfl (Nat.le_of_eq rfl) (hb hby d24_1) rfl ?_
  rintro vv T1 L1 X1 ⟨rfl, hh1, rfl⟩
  have N1 := Fr.app N0 (Fr.nil _)
  refine Own.aloadN 5 X1 hx (hb hby d24_4) rfl rfl rfl ?_
  refine Own.aloadN 6 X1 hx (hb hby d24_5) rfl rfl rfl ?_
  refine Own.callSt 9 1 [(.ref x1)] [(.ref a)] X1 hx hZ hown (m27 l Z a0 w x1 _) (w 175 rfl) (w 176 rfl) (w 177 rfl) (w 178 rfl) (by decide) hh1 (by decide) (by decide) (by decide) (by decide) (by rw [hml]; rfl) (lenOf pd_7 rfl) rfl (Nat.le_of_eq rfl) (hb hby d24_6) rfl ?_
  rintro vv T2 L2 X2 ⟨rfl, hh2, rfl⟩
  have N2 := Fr.app N1 (Fr.nil _)
  refine Own.putFld 12 X2 hx hZ hown (host := "") (Or.inl (w 179 rfl)) Via.refl hh2 F0 E_a (Or.inr ⟨(w 180 rfl), rfl, hnm⟩) (w 155 rfl) (ty := (.object "java/lang/Object")) (by decide) rfl rfl (hb hby d24_9) rfl ?_
  intro T3 h3 X3 e3 W3
  have N3 := Fr.snoc X3 N2 g_a
  have Ef_5 := E_a.wr W3
  have Ff_6 := F0.same W3
  have Ff_7 := F1.other W3 (Or.inr (slot_ne (Or.inr (w 183 rfl)) (Or.inr (w 180 rfl)) (by decide) (t := (.object "java/lang/Object")) (t' := (.object "java/lang/Object")) (by decide) (by decide)))
  have O3 := X00.wr W3 g_a
  have zl3 := Nat.le_trans Z0 (Nat.le_of_eq W3.size.symm)
  have K3 := (Keep.refl h0 [a]).wr W3 (Or.inl (List.mem_of_getElem? (i := 0) rfl))
  refine Own.aloadN 13 X3 hx (hb hby d24_12) rfl rfl rfl ?_
  refine Own.getSta 16 X3 hx hZ hown (Or.inr (w 181 rfl)) Via.refl e3 (SS.2.1.ext O3.2) (hb hby d24_13) rfl ?_
  intro T8 X8 e8
  refine Own.putFld 19 X8 hx hZ hown (host := "") (Or.inl (w 182 rfl)) Via.refl e8 Ff_7 Ef_5 (Or.inr ⟨(w 183 rfl), rfl, hnm⟩) (w 155 rfl) (ty := (.object "java/lang/Object")) (by decide) rfl rfl (hb hby d24_16) rfl ?_
  intro T9 h9 X9 e9 W9
  have N9 := Fr.snoc X9 N3 g_a
  have Ef_11 := Ef_5.wr W9
  have Ff_12 := Ff_6.other W9 (Or.inr (slot_ne (Or.inr (w 180 rfl)) (Or.inr (w 183 rfl)) (by decide) (t := (.object "java/lang/Object")) (t' := (.object "java/lang/Object")) (by decide) (by decide)))
  have Ff_13 := Ff_7.same W9
  have O9 := O3.wr W9 g_a
  have zl9 := Nat.le_trans zl3 (Nat.le_of_eq W9.size.symm)
  have K9 := K3.wr W9 (Or.inl (List.mem_of_getElem? (i := 0) rfl))
  refine Own.retVoid X9 hx hlk hret (hb hby d24_19) (by decide) (by decide) ?_
  rw [e9]
  exact ⟨rfl, N9, K9, Ff_12⟩
theorem d35_0 : decode jdk_44_method_2_code 0 = .ok (.aload_n 0, 1) := by decide +kernel
theorem d35_1 : decode jdk_44_method_2_code 1 = .ok (.invokespecial 1, 3) := by decide +kernel
theorem d35_4 : decode jdk_44_method_2_code 4 = .ok (.aload_n 0, 1) := by decide +kernel
theorem d35_5 : decode jdk_44_method_2_code 5 = .ok (.aload_n 1, 1) := by decide +kernel
theorem d35_6 : decode jdk_44_method_2_code 6 = .ok (.invokestatic 7, 3) := by decide +kernel
theorem d35_9 : decode jdk_44_method_2_code 9 = .ok (.putfield 13, 3) := by decide +kernel
theorem d35_12 : decode jdk_44_method_2_code 12 = .ok (.aload_n 0, 1) := by decide +kernel
theorem d35_13 : decode jdk_44_method_2_code 13 = .ok (.aload_n 2, 1) := by decide +kernel
theorem d35_14 : decode jdk_44_method_2_code 14 = .ok (.invokestatic 7, 3) := by decide +kernel
theorem d35_17 : decode jdk_44_method_2_code 17 = .ok (.putfield 24, 3) := by decide +kernel
theorem d35_20 : decode jdk_44_method_2_code 20 = .ok (.return_, 1) := by decide +kernel
set_option maxRecDepth 65536 in
set_option maxHeartbeats 40000000 in
theorem m35 (l : Launch) (Z : State) (a0 : Array Value) (w : ∀ (i : Nat) {d : Jvm.Cond}, tables_1[i]? = some d → d.before a0 Z = true) (a : Addr) (x1 : Addr) (x2 : Addr) (dc em el mr : Addr) (kd : ClassId) (n0 : Nat) (u0 u1 : Value) (h0 : Heap) (Z0 : n0 ≤ h0.size) (X00 : Old Z n0 h0) (SS : own_SS Z dc em el mr kd)(E_a : Exa Z h0 a "java/util/ImmutableCollections$List12") (F0 : Fld Z h0 a "java/util/ImmutableCollections$List12" "e0" "Ljava/lang/Object;" u0) (F1 : Fld Z h0 a "java/util/ImmutableCollections$List12" "e1" "Ljava/lang/Object;" u1) (g_a : n0 ≤ a) :
    Own.Met l Z (⟨"java/util/ImmutableCollections$List12", "<init>", "(Ljava/lang/Object;Ljava/lang/Object;)V"⟩ : MethodName) jdk_44_method_2_code 3 none [] ({ frames := 4, cells := 0, slots := 0, locals := 48 } : Room) #[(.ref a), (.ref x1), (.ref x2)] h0 (fun v h L => v = none ∧ Fr n0 L ∧ Keep h0 h [a] ∧ Fld Z h a "java/util/ImmutableCollections$List12" "e0" "Ljava/lang/Object;" (.ref x1)) := by
  refine Own.Met.of (plainFor_of_name (by first | (simp [plainName, overriddenIn]; done) | decide +kernel)) ?_
  intro p e s m below meth c T0 hx hby hml hown hnm hret hlk hZ X0 e0
  have hown : s.vm.findClass "java/util/ImmutableCollections$List12" = some m.cls := hown
  have hml : c.maxLocals = 3 := hml
  have hnm : meth.name = "<init>" := hnm
  have ef : entryFrame m #[(.ref a), (.ref x1), (.ref x2)] 3 = mkF m 0 #[.val (.ref a), .val (.ref x1), .val (.ref x2)] [] := by first | (simp [entryFrame, mkF, argsToLocals, Value.category]; done) | rfl
  rw [ef]
  have N0 := Fr.nil n0
  refine Own.aloadN 1 X0 hx (hb hby d35_0) rfl rfl rfl ?_
  refine Own.callInit 4 0 a [] [] X0 hx hZ hown (m25 l Z a0 w a _) rfl (w 161 rfl) (w 162 rfl) (w 165 rfl) (w 166 rfl) (by decide) e0 (by decide) (by decide) (by decide) (by decide) (by rw [hml]; rfl) (lenOf pd_0 rfl) rfl (Nat.le_of_eq rfl) (hb hby d35_1) rfl ?_
  rintro vv T1 L1 X1 ⟨rfl, hh1, rfl⟩
  have N1 := Fr.app N0 (Fr.nil _)
  refine Own.aloadN 5 X1 hx (hb hby d35_4) rfl rfl rfl ?_
  refine Own.aloadN 6 X1 hx (hb hby d35_5) rfl rfl rfl ?_
  refine Own.callSt 9 1 [(.ref x1)] [(.ref a)] X1 hx hZ hown (m27 l Z a0 w x1 _) (w 175 rfl) (w 176 rfl) (w 177 rfl) (w 178 rfl) (by decide) hh1 (by decide) (by decide) (by decide) (by decide) (by rw [hml]; rfl) (lenOf pd_7 rfl) rfl (Nat.le_of_eq rfl) (hb hby d35_6) rfl ?_
  rintro vv T2 L2 X2 ⟨rfl, hh2, rfl⟩
  have N2 := Fr.app N1 (Fr.nil _)
  refine Own.putFld 12 X2 hx hZ hown (host := "") (Or.inl (w 179 rfl)) Via.refl hh2 F0 E_a (Or.inr ⟨(w 180 rfl), rfl, hnm⟩) (w 155 rfl) (ty := (.object "java/lang/Object")) (by decide) rfl rfl (hb hby d35_9) rfl ?_
  intro T3 h3 X3 e3 W3
  have N3 := Fr.snoc X3 N2 g_a
  have Ef_5 := E_a.wr W3
  have Ff_6 := F0.same W3
  have Ff_7 := F1.other W3 (Or.inr (slot_ne (Or.inr (w 183 rfl)) (Or.inr (w 180 rfl)) (by decide) (t := (.object "java/lang/Object")) (t' := (.object "java/lang/Object")) (by decide) (by decide)))
  have O3 := X00.wr W3 g_a
  have zl3 := Nat.le_trans Z0 (Nat.le_of_eq W3.size.symm)
  have K3 := (Keep.refl h0 [a]).wr W3 (Or.inl (List.mem_of_getElem? (i := 0) rfl))
  refine Own.aloadN 13 X3 hx (hb hby d35_12) rfl rfl rfl ?_
  refine Own.aloadN 14 X3 hx (hb hby d35_13) rfl rfl rfl ?_
  refine Own.callSt 17 1 [(.ref x2)] [(.ref a)] X3 hx hZ hown (m27 l Z a0 w x2 _) (w 175 rfl) (w 176 rfl) (w 177 rfl) (w 178 rfl) (by decide) e3 (by decide) (by decide) (by decide) (by decide) (by rw [hml]; rfl) (lenOf pd_7 rfl) rfl (Nat.le_of_eq rfl) (hb hby d35_14) rfl ?_
  rintro vv T8 L8 X8 ⟨rfl, hh8, rfl⟩
  have N8 := Fr.app N3 (Fr.nil _)
  refine Own.putFld 20 X8 hx hZ hown (host := "") (Or.inl (w 182 rfl)) Via.refl hh8 Ff_7 Ef_5 (Or.inr ⟨(w 183 rfl), rfl, hnm⟩) (w 155 rfl) (ty := (.object "java/lang/Object")) (by decide) rfl rfl (hb hby d35_17) rfl ?_
  intro T9 h9 X9 e9 W9
  have N9 := Fr.snoc X9 N8 g_a
  have Ef_11 := Ef_5.wr W9
  have Ff_12 := Ff_6.other W9 (Or.inr (slot_ne (Or.inr (w 180 rfl)) (Or.inr (w 183 rfl)) (by decide) (t := (.object "java/lang/Object")) (t' := (.object "java/lang/Object")) (by decide) (by decide)))
  have Ff_13 := Ff_7.same W9
  have O9 := O3.wr W9 g_a
  have zl9 := Nat.le_trans zl3 (Nat.le_of_eq W9.size.symm)
  have K9 := K3.wr W9 (Or.inl (List.mem_of_getElem? (i := 0) rfl))
  refine Own.retVoid X9 hx hlk hret (hb hby d35_20) (by decide) (by decide) ?_
  rw [e9]
  exact ⟨rfl, N9, K9, Ff_12⟩
theorem d33_0 : decode jdk_45_method_1_code 0 = .ok (.aload_n 0, 1) := by decide +kernel
theorem d33_1 : decode jdk_45_method_1_code 1 = .ok (.invokespecial 1, 3) := by decide +kernel
theorem d33_4 : decode jdk_45_method_1_code 4 = .ok (.aload_n 0, 1) := by decide +kernel
theorem d33_5 : decode jdk_45_method_1_code 5 = .ok (.aload_n 1, 1) := by decide +kernel
theorem d33_6 : decode jdk_45_method_1_code 6 = .ok (.putfield 7, 3) := by decide +kernel
theorem d33_9 : decode jdk_45_method_1_code 9 = .ok (.aload_n 0, 1) := by decide +kernel
theorem d33_10 : decode jdk_45_method_1_code 10 = .ok (.iload_n 2, 1) := by decide +kernel
theorem d33_11 : decode jdk_45_method_1_code 11 = .ok (.putfield 13, 3) := by decide +kernel
theorem d33_14 : decode jdk_45_method_1_code 14 = .ok (.return_, 1) := by decide +kernel
set_option maxRecDepth 65536 in
set_option maxHeartbeats 40000000 in
theorem m33 (l : Launch) (Z : State) (a0 : Array Value) (w : ∀ (i : Nat) {d : Jvm.Cond}, tables_1[i]? = some d → d.before a0 Z = true) (a : Addr) (x1 : Addr) (dc em el mr : Addr) (kd : ClassId) (n0 : Nat) (u0 u1 : Value) (h0 : Heap) (Z0 : n0 ≤ h0.size) (X00 : Old Z n0 h0) (SS : own_SS Z dc em el mr kd)(E_a : Exa Z h0 a "java/util/ImmutableCollections$ListN") (F0 : Fld Z h0 a "java/util/ImmutableCollections$ListN" "elements" "[Ljava/lang/Object;" u0) (F1 : Fld Z h0 a "java/util/ImmutableCollections$ListN" "allowNulls" "Z" u1) (g_a : n0 ≤ a) :
    Own.Met l Z (⟨"java/util/ImmutableCollections$ListN", "<init>", "([Ljava/lang/Object;Z)V"⟩ : MethodName) jdk_45_method_1_code 3 none [] ({ frames := 4, cells := 0, slots := 0, locals := 48 } : Room) #[(.ref a), (.ref x1), (.int (0 : Int32))] h0 (fun v h L => v = none ∧ Fr n0 L ∧ Keep h0 h [a] ∧ Fld Z h a "java/util/ImmutableCollections$ListN" "elements" "[Ljava/lang/Object;" (.ref x1)) := by
  refine Own.Met.of (plainFor_of_name (by first | (simp [plainName, overriddenIn]; done) | decide +kernel)) ?_
  intro p e s m below meth c T0 hx hby hml hown hnm hret hlk hZ X0 e0
  have hown : s.vm.findClass "java/util/ImmutableCollections$ListN" = some m.cls := hown
  have hml : c.maxLocals = 3 := hml
  have hnm : meth.name = "<init>" := hnm
  have ef : entryFrame m #[(.ref a), (.ref x1), (.int (0 : Int32))] 3 = mkF m 0 #[.val (.ref a), .val (.ref x1), .val (.int (0 : Int32))] [] := by first | (simp [entryFrame, mkF, argsToLocals, Value.category]; done) | rfl
  rw [ef]
  have N0 := Fr.nil n0
  refine Own.aloadN 1 X0 hx (hb hby d33_0) rfl rfl rfl ?_
  refine Own.callInit 4 0 a [] [] X0 hx hZ hown (m25 l Z a0 w a _) rfl (w 225 rfl) (w 162 rfl) (w 165 rfl) (w 166 rfl) (by decide) e0 (by decide) (by decide) (by decide) (by decide) (by rw [hml]; rfl) (lenOf pd_0 rfl) rfl (Nat.le_of_eq rfl) (hb hby d33_1) rfl ?_
  rintro vv T1 L1 X1 ⟨rfl, hh1, rfl⟩
  have N1 := Fr.app N0 (Fr.nil _)
  refine Own.aloadN 5 X1 hx (hb hby d33_4) rfl rfl rfl ?_
  refine Own.aloadN 6 X1 hx (hb hby d33_5) rfl rfl rfl ?_
  refine Own.putFld 9 X1 hx hZ hown (host := "") (Or.inl (w 229 rfl)) Via.refl hh1 F0 E_a (Or.inr ⟨(w 230 rfl), rfl, hnm⟩) (w 219 rfl) (ty := (.array (.object "java/lang/Object"))) (by decide) rfl rfl (hb hby d33_6) rfl ?_
  intro T2 h2 X2 e2 W2
  have N2 := Fr.snoc X2 N1 g_a
  have Ef_4 := E_a.wr W2
  have Ff_5 := F0.same W2
  have Ff_6 := F1.other W2 (Or.inr (slot_ne (Or.inr (w 232 rfl)) (Or.inr (w 230 rfl)) (by decide) (t := .boolean) (t' := (.array (.object "java/lang/Object"))) (by decide) (by decide)))
  have O2 := X00.wr W2 g_a
  have zl2 := Nat.le_trans Z0 (Nat.le_of_eq W2.size.symm)
  have K2 := (Keep.refl h0 [a]).wr W2 (Or.inl (List.mem_of_getElem? (i := 0) rfl))
  refine Own.aloadN 10 X2 hx (hb hby d33_9) rfl rfl rfl ?_
  refine Own.iloadN 11 X2 hx (hb hby d33_10) rfl rfl ?_
  refine Own.putFld 14 X2 hx hZ hown (host := "") (Or.inl (w 231 rfl)) Via.refl e2 Ff_6 Ef_4 (Or.inr ⟨(w 232 rfl), rfl, hnm⟩) (w 219 rfl) (ty := .boolean) (by decide) rfl rfl (hb hby d33_11) rfl ?_
  intro T7 h7 X7 e7 W7
  have N7 := Fr.snoc X7 N2 g_a
  have Ef_9 := Ef_4.wr W7
  have Ff_10 := Ff_5.other W7 (Or.inr (slot_ne (Or.inr (w 230 rfl)) (Or.inr (w 232 rfl)) (by decide) (t := (.array (.object "java/lang/Object"))) (t' := .boolean) (by decide) (by decide)))
  have Ff_11 := Ff_6.same W7
  have O7 := O2.wr W7 g_a
  have zl7 := Nat.le_trans zl2 (Nat.le_of_eq W7.size.symm)
  have K7 := K2.wr W7 (Or.inl (List.mem_of_getElem? (i := 0) rfl))
  refine Own.retVoid X7 hx hlk hret (hb hby d33_14) (by decide) (by decide) ?_
  rw [e7]
  exact ⟨rfl, N7, K7, Ff_10⟩
theorem d32_0 : decode jdk_56_method_4_code 0 = .ok (.aload_n 0, 1) := by decide +kernel
theorem d32_1 : decode jdk_56_method_4_code 1 = .ok (.arraylength, 1) := by decide +kernel
theorem d32_2 : decode jdk_56_method_4_code 2 = .ok (.anewarray 2, 3) := by decide +kernel
theorem d32_5 : decode jdk_56_method_4_code 5 = .ok (.astore_n 1, 1) := by decide +kernel
theorem d32_6 : decode jdk_56_method_4_code 6 = .ok (.iconst 0, 1) := by decide +kernel
theorem d32_7 : decode jdk_56_method_4_code 7 = .ok (.istore_n 2, 1) := by decide +kernel
theorem d32_8 : decode jdk_56_method_4_code 8 = .ok (.iload_n 2, 1) := by decide +kernel
theorem d32_9 : decode jdk_56_method_4_code 9 = .ok (.aload_n 0, 1) := by decide +kernel
theorem d32_10 : decode jdk_56_method_4_code 10 = .ok (.arraylength, 1) := by decide +kernel
theorem d32_11 : decode jdk_56_method_4_code 11 = .ok (.if_icmp .ge 18, 3) := by decide +kernel
theorem d32_14 : decode jdk_56_method_4_code 14 = .ok (.aload_n 1, 1) := by decide +kernel
theorem d32_15 : decode jdk_56_method_4_code 15 = .ok (.iload_n 2, 1) := by decide +kernel
theorem d32_16 : decode jdk_56_method_4_code 16 = .ok (.aload_n 0, 1) := by decide +kernel
theorem d32_17 : decode jdk_56_method_4_code 17 = .ok (.iload_n 2, 1) := by decide +kernel
theorem d32_18 : decode jdk_56_method_4_code 18 = .ok (.aaload, 1) := by decide +kernel
theorem d32_19 : decode jdk_56_method_4_code 19 = .ok (.invokestatic 37, 3) := by decide +kernel
theorem d32_22 : decode jdk_56_method_4_code 22 = .ok (.aastore, 1) := by decide +kernel
theorem d32_23 : decode jdk_56_method_4_code 23 = .ok (.iinc 2 1, 3) := by decide +kernel
theorem d32_26 : decode jdk_56_method_4_code 26 = .ok (.goto (-18), 3) := by decide +kernel
theorem d32_29 : decode jdk_56_method_4_code 29 = .ok (.new 12, 3) := by decide +kernel
theorem d32_32 : decode jdk_56_method_4_code 32 = .ok (.dup, 1) := by decide +kernel
theorem d32_33 : decode jdk_56_method_4_code 33 = .ok (.aload_n 1, 1) := by decide +kernel
theorem d32_34 : decode jdk_56_method_4_code 34 = .ok (.iconst 0, 1) := by decide +kernel
theorem d32_35 : decode jdk_56_method_4_code 35 = .ok (.invokespecial 43, 3) := by decide +kernel
theorem d32_38 : decode jdk_56_method_4_code 38 = .ok (.areturn, 1) := by decide +kernel
set_option maxRecDepth 65536 in
set_option maxHeartbeats 40000000 in
theorem m32 (l : Launch) (Z : State) (a0 : Array Value) (w : ∀ (i : Nat) {d : Jvm.Cond}, tables_1[i]? = some d → d.before a0 Z = true) (r : Addr) (dc em el mr : Addr) (kd : ClassId) (n0 : Nat)(kr : ClassId) (s0 s1 s2 : Addr) (h0 : Heap) (Z0 : n0 ≤ h0.size) (X00 : Old Z n0 h0) (SS : own_SS Z dc em el mr kd)(V_r : Arv Z h0 r kr (.object "java/lang/Object") (3 : Int32) [(.ref s0), (.ref s1), (.ref s2)] .null)(E_s0 : Exa Z h0 s0 "java/lang/String") (E_s1 : Exa Z h0 s1 "java/lang/String") (E_s2 : Exa Z h0 s2 "java/lang/String") :
    Own.Met l Z (⟨"java/util/ImmutableCollections", "listFromArray", "([Ljava/lang/Object;)Ljava/util/List;"⟩ : MethodName) jdk_56_method_4_code 3 (some (.object "java/util/List")) [] ({ frames := 5, cells := 2, slots := 5, locals := 63 } : Room) #[(.ref r)] h0 (fun v h L => ∃ (li ar : Addr) (ka : ClassId), v = some (.ref li) ∧ Fr n0 L ∧ Keep h0 h [] ∧ h0.size ≤ li ∧ n0 ≤ li ∧ Exa Z h li "java/util/ImmutableCollections$ListN" ∧ Fld Z h li "java/util/ImmutableCollections$ListN" "elements" "[Ljava/lang/Object;" (.ref ar) ∧ h0.size ≤ ar ∧ Arv Z h ar ka (.object "java/lang/Object") (3 : Int32) [(.ref s0), (.ref s1), (.ref s2)] .null) := by
  refine Own.Met.of (plainFor_of_name (by first | (simp [plainName, overriddenIn]; done) | decide +kernel)) ?_
  intro p e s m below meth c T0 hx hby hml hown hnm hret hlk hZ X0 e0
  have hown : s.vm.findClass "java/util/ImmutableCollections" = some m.cls := hown
  have hml : c.maxLocals = 3 := hml
  have hnm : meth.name = "listFromArray" := hnm
  have ef : entryFrame m #[(.ref r)] 3 = mkF m 0 #[.val (.ref r), .unset, .unset] [] := by first | (simp [entryFrame, mkF, argsToLocals, Value.category]; done) | rfl
  rw [ef]
  have N0 := Fr.nil n0
  refine Own.aloadN 1 X0 hx (hb hby d32_0) rfl rfl rfl ?_
  refine Own.arrLen 2 X0 hx hZ e0 V_r (hb hby d32_1) rfl ?_
  refine Own.newRefArrE 5 3 X0 hx hZ hown (w 217 rfl) (w 87 rfl) e0 (by decide) (by decide) (by decide) (ad := "[Ljava/lang/Object;") (by decide) (hb hby d32_2) rfl (by decide) (by decide) ?_
  intro T1 h1 ar k1 z1 X1 e1 E1 A1 Ov1 Ex1
  have ne_r_ar : r ≠ ar := Nat.ne_of_lt (Nat.lt_of_lt_of_le V_r.lt (Nat.le_of_eq z1.symm))
  have ne_s0_ar : s0 ≠ ar := Nat.ne_of_lt (Nat.lt_of_lt_of_le E_s0.lt (Nat.le_of_eq z1.symm))
  have ne_s1_ar : s1 ≠ ar := Nat.ne_of_lt (Nat.lt_of_lt_of_le E_s1.lt (Nat.le_of_eq z1.symm))
  have ne_s2_ar : s2 ≠ ar := Nat.ne_of_lt (Nat.lt_of_lt_of_le E_s2.lt (Nat.le_of_eq z1.symm))
  have g_ar : n0 ≤ ar := Nat.le_trans Z0 (Nat.le_of_eq z1.symm)
  have sz_ar : h0.size ≤ ar := Nat.le_trans (Keep.refl h0 []).1 (Nat.le_of_eq z1.symm)
  have K1 := (Keep.refl h0 []).ext E1
  have Ef_3 := E_s0.ext E1
  have Ef_4 := E_s1.ext E1
  have Ef_5 := E_s2.ext E1
  have Vf_6 := V_r.ext E1
  have O1 := X00.ext E1
  have zl1 := Nat.le_trans Z0 E1.1
  have V1 : Arv Z h1 ar k1 (.object "java/lang/Object") (3 : Int32) [.null, .null, .null] .null := A1
  refine Own.astoreN 6 #[.val (.ref r), .val (.ref ar), .unset] X1 hx (hb hby d32_5) rfl rfl rfl ?_
  refine Own.iconst 7 X1 hx ((0 : Int32)) (hb hby d32_6) rfl rfl ?_
  refine Own.istoreNV 8 #[.val (.ref r), .val (.ref ar), .val (.int (0 : Int32))] X1 hx (hb hby d32_7) rfl rfl ?_
  refine Own.iloadN 9 X1 hx (hb hby d32_8) rfl rfl ?_
  refine Own.aloadN 10 X1 hx (hb hby d32_9) rfl rfl rfl ?_
  refine Own.arrLen 11 X1 hx hZ e1 Vf_6 (hb hby d32_10) rfl ?_
  refine Own.icmp_ge 29 14 X1 hx (hb hby d32_11) (by decide) rfl (fun tk => absurd tk (by decide)) (fun tk => ?_)
  refine Own.aloadN 15 X1 hx (hb hby d32_14) rfl rfl rfl ?_
  refine Own.iloadN 16 X1 hx (hb hby d32_15) rfl rfl ?_
  refine Own.aloadN 17 X1 hx (hb hby d32_16) rfl rfl rfl ?_
  refine Own.iloadN 18 X1 hx (hb hby d32_17) rfl rfl ?_
  refine Own.aaload 19 X1 hx hZ e1 ((.ref s0)) Vf_6 rfl (by decide) rfl (hb hby d32_18) rfl ?_
  refine Own.callSt 22 2 [(.ref s0)] [(.int (0 : Int32)), (.ref ar)] X1 hx hZ hown (m27 l Z a0 w s0 _) (w 218 rfl) (w 176 rfl) (w 177 rfl) (w 178 rfl) (by decide) e1 (by decide) (by decide) (by decide) (by decide) (by rw [hml]; rfl) (lenOf pd_7 rfl) rfl (Nat.le_of_eq rfl) (hb hby d32_19) rfl ?_
  rintro vv T7 L7 X7 ⟨rfl, hh7, rfl⟩
  have N7 := Fr.app N0 (Fr.nil _)
  refine Own.aastore 23 X7 hx hZ hh7 V1 rfl rfl (by obtain ⟨cq, Aq, qq, -⟩ := V1; exact Sto.ofV Aq qq Ov1 (Ins.of_exa Ef_3 (w 88 rfl))) (by decide) (Nat.le_of_ble_eq_true rfl) (hb hby d32_22) rfl ?_
  intro T8 h8 X8 e8 W8 A8
  have N8 := Fr.snoc X8 N7 g_ar
  have Ef_10 := Ef_3.wr W8
  have Ef_11 := Ef_4.wr W8
  have Ef_12 := Ef_5.wr W8
  have Vf_13 := Vf_6.other W8 ne_r_ar
  have Ef_15 := Ex1.wr W8
  have O8 := O1.wr W8 g_ar
  have zl8 := Nat.le_trans zl1 (Nat.le_of_eq W8.size.symm)
  have K8 := K1.wr W8 (Or.inr sz_ar)
  have V8 : Arv Z h8 ar k1 (.object "java/lang/Object") (3 : Int32) [(.ref s0), .null, .null] .null := A8
  refine Own.iinc 26 (fun c_16 => #[.val (.ref r), .val (.ref ar), .val (.int c_16)]) X8 hx ((1 : Int32)) (hb hby d32_23) rfl rfl rfl (fun _ => rfl) fun c_16 hc_16 => ?_
  obtain rfl : c_16 = (1 : Int32) := hc_16.trans (by decide)
  refine Own.goto 8 X8 hx (hb hby d32_26) (by decide) ?_
  refine Own.iloadN 9 X8 hx (hb hby d32_8) rfl rfl ?_
  refine Own.aloadN 10 X8 hx (hb hby d32_9) rfl rfl rfl ?_
  refine Own.arrLen 11 X8 hx hZ e8 Vf_13 (hb hby d32_10) rfl ?_
  refine Own.icmp_ge 29 14 X8 hx (hb hby d32_11) (by decide) rfl (fun tk => absurd tk (by decide)) (fun tk => ?_)
  refine Own.aloadN 15 X8 hx (hb hby d32_14) rfl rfl rfl ?_
  refine Own.iloadN 16 X8 hx (hb hby d32_15) rfl rfl ?_
  refine Own.aloadN 17 X8 hx (hb hby d32_16) rfl rfl rfl ?_
  refine Own.iloadN 18 X8 hx (hb hby d32_17) rfl rfl ?_
  refine Own.aaload 19 X8 hx hZ e8 ((.ref s1)) Vf_13 rfl (by decide) rfl (hb hby d32_18) rfl ?_
  refine Own.callSt 22 2 [(.ref s1)] [(.int (1 : Int32)), (.ref ar)] X8 hx hZ hown (m27 l Z a0 w s1 _) (w 218 rfl) (w 176 rfl) (w 177 rfl) (w 178 rfl) (by decide) e8 (by decide) (by decide) (by decide) (by decide) (by rw [hml]; rfl) (lenOf pd_7 rfl) rfl (Nat.le_of_eq rfl) (hb hby d32_19) rfl ?_
  rintro vv T17 L17 X17 ⟨rfl, hh17, rfl⟩
  have N17 := Fr.app N8 (Fr.nil _)
  refine Own.aastore 23 X17 hx hZ hh17 V8 rfl rfl (by obtain ⟨cq, Aq, qq, -⟩ := V8; exact Sto.ofV Aq qq Ov1 (Ins.of_exa Ef_11 (w 88 rfl))) (by decide) (Nat.le_of_ble_eq_true rfl) (hb hby d32_22) rfl ?_
  intro T18 h18 X18 e18 W18 A18
  have N18 := Fr.snoc X18 N17 g_ar
  have Ef_20 := Ef_10.wr W18
  have Ef_21 := Ef_11.wr W18
  have Ef_22 := Ef_12.wr W18
  have Vf_23 := Vf_13.other W18 ne_r_ar
  have Ef_25 := Ef_15.wr W18
  have O18 := O8.wr W18 g_ar
  have zl18 := Nat.le_trans zl8 (Nat.le_of_eq W18.size.symm)
  have K18 := K8.wr W18 (Or.inr sz_ar)
  have V18 : Arv Z h18 ar k1 (.object "java/lang/Object") (3 : Int32) [(.ref s0), (.ref s1), .null] .null := A18
  refine Own.iinc 26 (fun c_26 => #[.val (.ref r), .val (.ref ar), .val (.int c_26)]) X18 hx ((1 : Int32)) (hb hby d32_23) rfl rfl rfl (fun _ => rfl) fun c_26 hc_26 => ?_
  obtain rfl : c_26 = (2 : Int32) := hc_26.trans (by decide)
  refine Own.goto 8 X18 hx (hb hby d32_26) (by decide) ?_
  refine Own.iloadN 9 X18 hx (hb hby d32_8) rfl rfl ?_
  refine Own.aloadN 10 X18 hx (hb hby d32_9) rfl rfl rfl ?_
  refine Own.arrLen 11 X18 hx hZ e18 Vf_23 (hb hby d32_10) rfl ?_
  refine Own.icmp_ge 29 14 X18 hx (hb hby d32_11) (by decide) rfl (fun tk => absurd tk (by decide)) (fun tk => ?_)
  refine Own.aloadN 15 X18 hx (hb hby d32_14) rfl rfl rfl ?_
  refine Own.iloadN 16 X18 hx (hb hby d32_15) rfl rfl ?_
  refine Own.aloadN 17 X18 hx (hb hby d32_16) rfl rfl rfl ?_
  refine Own.iloadN 18 X18 hx (hb hby d32_17) rfl rfl ?_
  refine Own.aaload 19 X18 hx hZ e18 ((.ref s2)) Vf_23 rfl (by decide) rfl (hb hby d32_18) rfl ?_
  refine Own.callSt 22 2 [(.ref s2)] [(.int (2 : Int32)), (.ref ar)] X18 hx hZ hown (m27 l Z a0 w s2 _) (w 218 rfl) (w 176 rfl) (w 177 rfl) (w 178 rfl) (by decide) e18 (by decide) (by decide) (by decide) (by decide) (by rw [hml]; rfl) (lenOf pd_7 rfl) rfl (Nat.le_of_eq rfl) (hb hby d32_19) rfl ?_
  rintro vv T27 L27 X27 ⟨rfl, hh27, rfl⟩
  have N27 := Fr.app N18 (Fr.nil _)
  refine Own.aastore 23 X27 hx hZ hh27 V18 rfl rfl (by obtain ⟨cq, Aq, qq, -⟩ := V18; exact Sto.ofV Aq qq Ov1 (Ins.of_exa Ef_22 (w 88 rfl))) (by decide) (Nat.le_of_ble_eq_true rfl) (hb hby d32_22) rfl ?_
  intro T28 h28 X28 e28 W28 A28
  have N28 := Fr.snoc X28 N27 g_ar
  have Ef_30 := Ef_20.wr W28
  have Ef_31 := Ef_21.wr W28
  have Ef_32 := Ef_22.wr W28
  have Vf_33 := Vf_23.other W28 ne_r_ar
  have Ef_35 := Ef_25.wr W28
  have O28 := O18.wr W28 g_ar
  have zl28 := Nat.le_trans zl18 (Nat.le_of_eq W28.size.symm)
  have K28 := K18.wr W28 (Or.inr sz_ar)
  have V28 : Arv Z h28 ar k1 (.object "java/lang/Object") (3 : Int32) [(.ref s0), (.ref s1), (.ref s2)] .null := A28
  refine Own.iinc 26 (fun c_36 => #[.val (.ref r), .val (.ref ar), .val (.int c_36)]) X28 hx ((1 : Int32)) (hb hby d32_23) rfl rfl rfl (fun _ => rfl) fun c_36 hc_36 => ?_
  obtain rfl : c_36 = (3 : Int32) := hc_36.trans (by decide)
  refine Own.goto 8 X28 hx (hb hby d32_26) (by decide) ?_
  refine Own.iloadN 9 X28 hx (hb hby d32_8) rfl rfl ?_
  refine Own.aloadN 10 X28 hx (hb hby d32_9) rfl rfl rfl ?_
  refine Own.arrLen 11 X28 hx hZ e28 Vf_33 (hb hby d32_10) rfl ?_
  refine Own.icmp_ge 29 14 X28 hx (hb hby d32_11) (by decide) rfl (fun tk => ?_) (fun tk => absurd tk (by decide))
  refine Own.newObj 32 X28 hx hZ hown (w 111 rfl) (w 219 rfl) (w 220 rfl) e28 (hb hby d32_29) rfl (by decide) (by decide) ?_
  intro T37 h37 li z37 X37 e37 E37 A37 D37
  have ne_ar_li : ar ≠ li := Nat.ne_of_lt (Nat.lt_of_lt_of_le V28.lt (Nat.le_of_eq z37.symm))
  have ne_r_li : r ≠ li := Nat.ne_of_lt (Nat.lt_of_lt_of_le Vf_33.lt (Nat.le_of_eq z37.symm))
  have ne_s0_li : s0 ≠ li := Nat.ne_of_lt (Nat.lt_of_lt_of_le Ef_30.lt (Nat.le_of_eq z37.symm))
  have ne_s1_li : s1 ≠ li := Nat.ne_of_lt (Nat.lt_of_lt_of_le Ef_31.lt (Nat.le_of_eq z37.symm))
  have ne_s2_li : s2 ≠ li := Nat.ne_of_lt (Nat.lt_of_lt_of_le Ef_32.lt (Nat.le_of_eq z37.symm))
  have g_li : n0 ≤ li := Nat.le_trans zl28 (Nat.le_of_eq z37.symm)
  have sz_li : h0.size ≤ li := Nat.le_trans K28.1 (Nat.le_of_eq z37.symm)
  have K37 := K28.ext E37
  have Ef_39 := Ef_30.ext E37
  have Ef_40 := Ef_31.ext E37
  have Ef_41 := Ef_32.ext E37
  have Vf_42 := Vf_33.ext E37
  have Vf_43 := V28.ext E37
  have Ef_44 := Ef_35.ext E37
  have O37 := O28.ext E37
  have zl37 := Nat.le_trans zl28 E37.1
  have F37_elements : Fld Z h37 li "java/util/ImmutableCollections$ListN" "elements" "[Ljava/lang/Object;" .null := D37 (Or.inr (w 230 rfl)) (ty := (.array (.object "java/lang/Object"))) (by decide)
  have F37_allowNulls : Fld Z h37 li "java/util/ImmutableCollections$ListN" "allowNulls" "Z" (.int (0 : Int32)) := D37 (Or.inr (w 232 rfl)) (ty := .boolean) (by decide)
  refine Own.dup 33 X37 hx (hb hby d32_32) rfl rfl ?_
  refine Own.aloadN 34 X37 hx (hb hby d32_33) rfl rfl rfl ?_
  refine Own.iconst 35 X37 hx ((0 : Int32)) (hb hby d32_34) rfl rfl ?_
  refine Own.callInitN 38 1 li [(.ref ar), (.int (0 : Int32))] [(.ref li)] X37 hx hZ hown (m33 l Z a0 w li ar dc em el mr kd n0 _ _ _ zl37 O37 SS A37 F37_elements F37_allowNulls g_li) rfl (Own.mvM hZ (w 221 rfl)) (w 222 rfl) (w 220 rfl) (w 224 rfl) (by decide) e37 (by decide) (by decide) (by decide) (by decide) (by rw [hml]; rfl) (lenOf pd_8 rfl) rfl (Nat.le_of_eq rfl) (hb hby d32_35) rfl ?_
  rintro vv T45 L45 X45 ⟨rfl, N45q, K45, Fl45⟩
  have N45 := Fr.app N28 N45q
  have O45 := O37.keep K45 (allS g_li all0)
  have Ef_47 := Ef_39.keep K45
  have Ef_48 := Ef_40.keep K45
  have Ef_49 := Ef_41.keep K45
  have Vf_50 := Vf_42.keep K45 (ninS ne_r_li nin0)
  have Vf_51 := Vf_43.keep K45 (ninS ne_ar_li nin0)
  have Ef_52 := Ef_44.keep K45
  have Ef_53 := A37.keep K45
  have zl45 := Nat.le_trans zl37 K45.1
  have KK45 := K37.trans K45 (allS (Or.inr sz_li) all0)
  refine Own.retRef X45 hx hlk rfl hret rfl (hb hby d32_38) (by decide) (by decide) ?_
  exact ⟨li, ar, k1, rfl, N45, KK45, sz_li, g_li, Ef_53, Fl45, sz_ar, Vf_51⟩
theorem d23_0 : decode jdk_40_method_47_code 0 = .ok (.aload_n 0, 1) := by decide +kernel
theorem d23_1 : decode jdk_40_method_47_code 1 = .ok (.arraylength, 1) := by decide +kernel
theorem d23_2 : decode jdk_40_method_47_code 2 = .ok (.tableswitch 57 0 2 #[26, 32, 43], 26) := by decide +kernel
theorem d23_34 : decode jdk_40_method_47_code 34 = .ok (.new 96, 3) := by decide +kernel
theorem d23_37 : decode jdk_40_method_47_code 37 = .ok (.dup, 1) := by decide +kernel
theorem d23_38 : decode jdk_40_method_47_code 38 = .ok (.aload_n 0, 1) := by decide +kernel
theorem d23_39 : decode jdk_40_method_47_code 39 = .ok (.iconst 0, 1) := by decide +kernel
theorem d23_40 : decode jdk_40_method_47_code 40 = .ok (.aaload, 1) := by decide +kernel
theorem d23_41 : decode jdk_40_method_47_code 41 = .ok (.invokespecial 98, 3) := by decide +kernel
theorem d23_44 : decode jdk_40_method_47_code 44 = .ok (.areturn, 1) := by decide +kernel
set_option maxRecDepth 65536 in
set_option maxHeartbeats 40000000 in
theorem m23_1 (l : Launch) (Z : State) (a0 : Array Value) (w : ∀ (i : Nat) {d : Jvm.Cond}, tables_1[i]? = some d → d.before a0 Z = true) (r : Addr) (dc em el mr : Addr) (kd : ClassId) (n0 : Nat)(kr : ClassId) (s0 : Addr) (h0 : Heap) (Z0 : n0 ≤ h0.size) (X00 : Old Z n0 h0) (SS : own_SS Z dc em el mr kd)(V_r : Arv Z h0 r kr (.object "java/lang/Object") (1 : Int32) [(.ref s0)] .null)(E_s0 : Exa Z h0 s0 "java/lang/String") :
    Own.Met l Z (⟨"java/util/List", "of", "([Ljava/lang/Object;)Ljava/util/List;"⟩ : MethodName) jdk_40_method_47_code 2 (some (.object "java/util/List")) [] ({ frames := 5, cells := 1, slots := 2, locals := 62 } : Room) #[(.ref r)] h0 (fun v h L => ∃ li : Addr, v = some (.ref li) ∧ Fr n0 L ∧ Keep h0 h [] ∧ h0.size ≤ li ∧ n0 ≤ li ∧ Exa Z h li "java/util/ImmutableCollections$List12" ∧ Fld Z h li "java/util/ImmutableCollections$List12" "e0" "Ljava/lang/Object;" (.ref s0)) := by
  refine Own.Met.of (plainFor_of_name (by first | (simp [plainName, overriddenIn]; done) | decide +kernel)) ?_
  intro p e s m below meth c T0 hx hby hml hown hnm hret hlk hZ X0 e0
  have hown : s.vm.findClass "java/util/List" = some m.cls := hown
  have hml : c.maxLocals = 2 := hml
  have hnm : meth.name = "of" := hnm
  have ef : entryFrame m #[(.ref r)] 2 = mkF m 0 #[.val (.ref r), .unset] [] := by first | (simp [entryFrame, mkF, argsToLocals, Value.category]; done) | rfl
  rw [ef]
  have N0 := Fr.nil n0
  refine Own.aloadN 1 X0 hx (hb hby d23_0) rfl rfl rfl ?_
  refine Own.arrLen 2 X0 hx hZ e0 V_r (hb hby d23_1) rfl ?_
  refine Own.tswI 34 X0 hx (o := 32) (hb hby d23_2) (by decide) rfl (by decide) ?_
  refine Own.newObj 37 X0 hx hZ hown (w 154 rfl) (w 155 rfl) (w 156 rfl) e0 (hb hby d23_34) rfl (by decide) (by decide) ?_
  intro T1 h1 li z1 X1 e1 E1 A1 D1
  have ne_r_li : r ≠ li := Nat.ne_of_lt (Nat.lt_of_lt_of_le V_r.lt (Nat.le_of_eq z1.symm))
  have ne_s0_li : s0 ≠ li := Nat.ne_of_lt (Nat.lt_of_lt_of_le E_s0.lt (Nat.le_of_eq z1.symm))
  have g_li : n0 ≤ li := Nat.le_trans Z0 (Nat.le_of_eq z1.symm)
  have sz_li : h0.size ≤ li := Nat.le_trans (Keep.refl h0 []).1 (Nat.le_of_eq z1.symm)
  have K1 := (Keep.refl h0 []).ext E1
  have Ef_3 := E_s0.ext E1
  have Vf_4 := V_r.ext E1
  have O1 := X00.ext E1
  have zl1 := Nat.le_trans Z0 E1.1
  have F1_e0 : Fld Z h1 li "java/util/ImmutableCollections$List12" "e0" "Ljava/lang/Object;" .null := D1 (Or.inr (w 180 rfl)) (ty := (.object "java/lang/Object")) (by decide)
  have F1_e1 : Fld Z h1 li "java/util/ImmutableCollections$List12" "e1" "Ljava/lang/Object;" .null := D1 (Or.inr (w 183 rfl)) (ty := (.object "java/lang/Object")) (by decide)
  refine Own.dup 38 X1 hx (hb hby d23_37) rfl rfl ?_
  refine Own.aloadN 39 X1 hx (hb hby d23_38) rfl rfl rfl ?_
  refine Own.iconst 40 X1 hx ((0 : Int32)) (hb hby d23_39) rfl rfl ?_
  refine Own.aaload 41 X1 hx hZ e1 ((.ref s0)) Vf_4 rfl (by decide) rfl (hb hby d23_40) rfl ?_
  refine Own.callInit 44 1 li [(.ref s0)] [(.ref li)] X1 hx hZ hown (m24 l Z a0 w li s0 dc em el mr kd n0 _ _ _ zl1 O1 SS A1 F1_e0 F1_e1 g_li) rfl (w 157 rfl) (w 158 rfl) (w 156 rfl) (w 160 rfl) (by decide) e1 (by decide) (by decide) (by decide) (by decide) (by rw [hml]; rfl) (lenOf pd_9 rfl) rfl (Nat.le_of_eq rfl) (hb hby d23_41) rfl ?_
  rintro vv T5 L5 X5 ⟨rfl, N5q, K5, Fl5⟩
  have N5 := Fr.app N0 N5q
  have O5 := O1.keep K5 (allS g_li all0)
  have Ef_7 := Ef_3.keep K5
  have Vf_8 := Vf_4.keep K5 (ninS ne_r_li nin0)
  have Ef_9 := A1.keep K5
  have zl5 := Nat.le_trans zl1 K5.1
  have KK5 := K1.trans K5 (allS (Or.inr sz_li) all0)
  refine Own.retRef X5 hx hlk rfl hret rfl (hb hby d23_44) (by decide) (by decide) ?_
  exact ⟨li, rfl, N5, KK5, sz_li, g_li, Ef_9, Fl5⟩
theorem d23_45 : decode jdk_40_method_47_code 45 = .ok (.new 96, 3) := by decide +kernel
theorem d23_48 : decode jdk_40_method_47_code 48 = .ok (.dup, 1) := by decide +kernel
theorem d23_49 : decode jdk_40_method_47_code 49 = .ok (.aload_n 0, 1) := by decide +kernel
theorem d23_50 : decode jdk_40_method_47_code 50 = .ok (.iconst 0, 1) := by decide +kernel
theorem d23_51 : decode jdk_40_method_47_code 51 = .ok (.aaload, 1) := by decide +kernel
theorem d23_52 : decode jdk_40_method_47_code 52 = .ok (.aload_n 0, 1) := by decide +kernel
theorem d23_53 : decode jdk_40_method_47_code 53 = .ok (.iconst 1, 1) := by decide +kernel
theorem d23_54 : decode jdk_40_method_47_code 54 = .ok (.aaload, 1) := by decide +kernel
theorem d23_55 : decode jdk_40_method_47_code 55 = .ok (.invokespecial 100, 3) := by decide +kernel
theorem d23_58 : decode jdk_40_method_47_code 58 = .ok (.areturn, 1) := by decide +kernel
set_option maxRecDepth 65536 in
set_option maxHeartbeats 40000000 in
theorem m23_2 (l : Launch) (Z : State) (a0 : Array Value) (w : ∀ (i : Nat) {d : Jvm.Cond}, tables_1[i]? = some d → d.before a0 Z = true) (r : Addr) (dc em el mr : Addr) (kd : ClassId) (n0 : Nat)(kr : ClassId) (s0 s1 : Addr) (h0 : Heap) (Z0 : n0 ≤ h0.size) (X00 : Old Z n0 h0) (SS : own_SS Z dc em el mr kd)(V_r : Arv Z h0 r kr (.object "java/lang/Object") (2 : Int32) [(.ref s0), (.ref s1)] .null)(E_s0 : Exa Z h0 s0 "java/lang/String") (E_s1 : Exa Z h0 s1 "java/lang/String") :
    Own.Met l Z (⟨"java/util/List", "of", "([Ljava/lang/Object;)Ljava/util/List;"⟩ : MethodName) jdk_40_method_47_code 2 (some (.object "java/util/List")) [] ({ frames := 5, cells := 1, slots := 2, locals := 63 } : Room) #[(.ref r)] h0 (fun v h L => ∃ li : Addr, v = some (.ref li) ∧ Fr n0 L ∧ Keep h0 h [] ∧ h0.size ≤ li ∧ n0 ≤ li ∧ Exa Z h li "java/util/ImmutableCollections$List12" ∧ Fld Z h li "java/util/ImmutableCollections$List12" "e0" "Ljava/lang/Object;" (.ref s0)) := by
  refine Own.Met.of (plainFor_of_name (by first | (simp [plainName, overriddenIn]; done) | decide +kernel)) ?_
  intro p e s m below meth c T0 hx hby hml hown hnm hret hlk hZ X0 e0
  have hown : s.vm.findClass "java/util/List" = some m.cls := hown
  have hml : c.maxLocals = 2 := hml
  have hnm : meth.name = "of" := hnm
  have ef : entryFrame m #[(.ref r)] 2 = mkF m 0 #[.val (.ref r), .unset] [] := by first | (simp [entryFrame, mkF, argsToLocals, Value.category]; done) | rfl
  rw [ef]
  have N0 := Fr.nil n0
  refine Own.aloadN 1 X0 hx (hb hby d23_0) rfl rfl rfl ?_
  refine Own.arrLen 2 X0 hx hZ e0 V_r (hb hby d23_1) rfl ?_
  refine Own.tswI 45 X0 hx (o := 43) (hb hby d23_2) (by decide) rfl (by decide) ?_
  refine Own.newObj 48 X0 hx hZ hown (w 154 rfl) (w 155 rfl) (w 156 rfl) e0 (hb hby d23_45) rfl (by decide) (by decide) ?_
  intro T1 h1 li z1 X1 e1 E1 A1 D1
  have ne_r_li : r ≠ li := Nat.ne_of_lt (Nat.lt_of_lt_of_le V_r.lt (Nat.le_of_eq z1.symm))
  have ne_s0_li : s0 ≠ li := Nat.ne_of_lt (Nat.lt_of_lt_of_le E_s0.lt (Nat.le_of_eq z1.symm))
  have ne_s1_li : s1 ≠ li := Nat.ne_of_lt (Nat.lt_of_lt_of_le E_s1.lt (Nat.le_of_eq z1.symm))
  have g_li : n0 ≤ li := Nat.le_trans Z0 (Nat.le_of_eq z1.symm)
  have sz_li : h0.size ≤ li := Nat.le_trans (Keep.refl h0 []).1 (Nat.le_of_eq z1.symm)
  have K1 := (Keep.refl h0 []).ext E1
  have Ef_3 := E_s0.ext E1
  have Ef_4 := E_s1.ext E1
  have Vf_5 := V_r.ext E1
  have O1 := X00.ext E1
  have zl1 := Nat.le_trans Z0 E1.1
  have F1_e0 : Fld Z h1 li "java/util/ImmutableCollections$List12" "e0" "Ljava/lang/Object;" .null := D1 (Or.inr (w 180 rfl)) (ty := (.object "java/lang/Object")) (by decide)
  have F1_e1 : Fld Z h1 li "java/util/ImmutableCollections$List12" "e1" "Ljava/lang/Object;" .null := D1 (Or.inr (w 183 rfl)) (ty := (.object "java/lang/Object")) (by decide)
  refine Own.dup 49 X1 hx (hb hby d23_48) rfl rfl ?_
  refine Own.aloadN 50 X1 hx (hb hby d23_49) rfl rfl rfl ?_
  refine Own.iconst 51 X1 hx ((0 : Int32)) (hb hby d23_50) rfl rfl ?_
  refine Own.aaload 52 X1 hx hZ e1 ((.ref s0)) Vf_5 rfl (by decide) rfl (hb hby d23_51) rfl ?_
  refine Own.aloadN 53 X1 hx (hb hby d23_52) rfl rfl rfl ?_
  refine Own.iconst 54 X1 hx ((1 : Int32)) (hb hby d23_53) rfl rfl ?_
  refine Own.aaload 55 X1 hx hZ e1 ((.ref s1)) Vf_5 rfl (by decide) rfl (hb hby d23_54) rfl ?_
  refine Own.callInit 58 1 li [(.ref s0), (.ref s1)] [(.ref li)] X1 hx hZ hown (m35 l Z a0 w li s0 s1 dc em el mr kd n0 _ _ _ zl1 O1 SS A1 F1_e0 F1_e1 g_li) rfl (w 239 rfl) (w 240 rfl) (w 156 rfl) (w 241 rfl) (by decide) e1 (by decide) (by decide) (by decide) (by decide) (by rw [hml]; rfl) (lenOf pd_10 rfl) rfl (Nat.le_of_eq rfl) (hb hby d23_55) rfl ?_
  rintro vv T6 L6 X6 ⟨rfl, N6q, K6, Fl6⟩
  have N6 := Fr.app N0 N6q
  have O6 := O1.keep K6 (allS g_li all0)
  have Ef_8 := Ef_3.keep K6
  have Ef_9 := Ef_4.keep K6
  have Vf_10 := Vf_5.keep K6 (ninS ne_r_li nin0)
  have Ef_11 := A1.keep K6
  have zl6 := Nat.le_trans zl1 K6.1
  have KK6 := K1.trans K6 (allS (Or.inr sz_li) all0)
  refine Own.retRef X6 hx hlk rfl hret rfl (hb hby d23_58) (by decide) (by decide) ?_
  exact ⟨li, rfl, N6, KK6, sz_li, g_li, Ef_11, Fl6⟩
theorem d23_59 : decode jdk_40_method_47_code 59 = .ok (.aload_n 0, 1) := by decide +kernel
theorem d23_60 : decode jdk_40_method_47_code 60 = .ok (.invokestatic 109, 3) := by decide +kernel
theorem d23_63 : decode jdk_40_method_47_code 63 = .ok (.areturn, 1) := by decide +kernel
set_option maxRecDepth 65536 in
set_option maxHeartbeats 40000000 in
theorem m23_3 (l : Launch) (Z : State) (a0 : Array Value) (w : ∀ (i : Nat) {d : Jvm.Cond}, tables_1[i]? = some d → d.before a0 Z = true) (r : Addr) (dc em el mr : Addr) (kd : ClassId) (n0 : Nat)(kr : ClassId) (s0 s1 s2 : Addr) (h0 : Heap) (Z0 : n0 ≤ h0.size) (X00 : Old Z n0 h0) (SS : own_SS Z dc em el mr kd)(V_r : Arv Z h0 r kr (.object "java/lang/Object") (3 : Int32) [(.ref s0), (.ref s1), (.ref s2)] .null)(E_s0 : Exa Z h0 s0 "java/lang/String") (E_s1 : Exa Z h0 s1 "java/lang/String") (E_s2 : Exa Z h0 s2 "java/lang/String") :
    Own.Met l Z (⟨"java/util/List", "of", "([Ljava/lang/Object;)Ljava/util/List;"⟩ : MethodName) jdk_40_method_47_code 2 (some (.object "java/util/List")) [] ({ frames := 6, cells := 2, slots := 5, locals := 77 } : Room) #[(.ref r)] h0 (fun v h L => ∃ (li ar : Addr) (ka : ClassId), v = some (.ref li) ∧ Fr n0 L ∧ Keep h0 h [] ∧ h0.size ≤ li ∧ n0 ≤ li ∧ Exa Z h li "java/util/ImmutableCollections$ListN" ∧ Fld Z h li "java/util/ImmutableCollections$ListN" "elements" "[Ljava/lang/Object;" (.ref ar) ∧ h0.size ≤ ar ∧ Arv Z h ar ka (.object "java/lang/Object") (3 : Int32) [(.ref s0), (.ref s1), (.ref s2)] .null) := by
  refine Own.Met.of (plainFor_of_name (by first | (simp [plainName, overriddenIn]; done) | decide +kernel)) ?_
  intro p e s m below meth c T0 hx hby hml hown hnm hret hlk hZ X0 e0
  have hown : s.vm.findClass "java/util/List" = some m.cls := hown
  have hml : c.maxLocals = 2 := hml
  have hnm : meth.name = "of" := hnm
  have ef : entryFrame m #[(.ref r)] 2 = mkF m 0 #[.val (.ref r), .unset] [] := by first | (simp [entryFrame, mkF, argsToLocals, Value.category]; done) | rfl
  rw [ef]
  have N0 := Fr.nil n0
  refine Own.aloadN 1 X0 hx (hb hby d23_0) rfl rfl rfl ?_
  refine Own.arrLen 2 X0 hx hZ e0 V_r (hb hby d23_1) rfl ?_
  refine Own.tswO 59 X0 hx (hb hby d23_2) (by decide) (by decide) ?_
  refine Own.aloadN 60 X0 hx (hb hby d23_59) rfl rfl rfl ?_
  refine Own.callSt 63 0 [(.ref r)] [] X0 hx hZ hown (m32 l Z a0 w r dc em el mr kd n0 kr s0 s1 s2 _ Z0 X00 SS V_r E_s0 E_s1 E_s2) (w 214 rfl) (w 215 rfl) (w 104 rfl) (w 216 rfl) (by decide) e0 (by decide) (by decide) (by decide) (by decide) (by rw [hml]; rfl) (lenOf pd_11 rfl) rfl (Nat.le_of_eq rfl) (hb hby d23_60) rfl ?_
  rintro vv T1 L1 X1 ⟨li, ar, ka1, rfl, N1q, K1, sz_li, g_li, El1, Fl1, sz_ar, Va1⟩
  have N1 := Fr.app N0 N1q
  have O1 := X00.keep K1 all0
  have Ef_3 := E_s0.keep K1
  have Ef_4 := E_s1.keep K1
  have Ef_5 := E_s2.keep K1
  have Vf_6 := V_r.keep K1 nin0
  have zl1 := Nat.le_trans Z0 K1.1
  have KK1 := (Keep.refl h0 []).trans K1 all0
  refine Own.retRef X1 hx hlk rfl hret rfl (hb hby d23_63) (by decide) (by decide) ?_
  exact ⟨li, ar, ka1, rfl, N1, KK1, sz_li, g_li, El1, Fl1, sz_ar, Va1⟩
theorem d17_0 : decode jdk_56_method_3_code 0 = .ok (.aload_n 0, 1) := by decide +kernel
theorem d17_1 : decode jdk_56_method_3_code 1 = .ok (.instanceof 10, 3) := by decide +kernel
theorem d17_4 : decode jdk_56_method_3_code 4 = .ok (.ifCond .ne 22, 3) := by decide +kernel
theorem d17_7 : decode jdk_56_method_3_code 7 = .ok (.aload_n 0, 1) := by decide +kernel
theorem d17_8 : decode jdk_56_method_3_code 8 = .ok (.instanceof 12, 3) := by decide +kernel
theorem d17_11 : decode jdk_56_method_3_code 11 = .ok (.ifCond .eq 20, 3) := by decide +kernel
theorem d17_31 : decode jdk_56_method_3_code 31 = .ok (.aload_n 0, 1) := by decide +kernel
theorem d17_32 : decode jdk_56_method_3_code 32 = .ok (.invokeinterface 20 1, 5) := by decide +kernel
theorem d17_37 : decode jdk_56_method_3_code 37 = .ok (.ifCond .eq 7, 3) := by decide +kernel
theorem d17_40 : decode jdk_56_method_3_code 40 = .ok (.invokestatic 26, 3) := by decide +kernel
theorem d17_43 : decode jdk_56_method_3_code 43 = .ok (.areturn, 1) := by decide +kernel
set_option maxRecDepth 65536 in
set_option maxHeartbeats 40000000 in
theorem m17_0 (l : Launch) (Z : State) (a0 : Array Value) (w : ∀ (i : Nat) {d : Jvm.Cond}, tables_1[i]? = some d → d.before a0 Z = true) (a : Addr) (dc em el mr : Addr) (kd : ClassId) (n0 : Nat) (mc : Int32) (h0 : Heap) (Z0 : n0 ≤ h0.size) (X00 : Old Z n0 h0) (SS : own_SS Z dc em el mr kd)(E_a : Exa Z h0 a "java/util/ArrayList") (F1 : Fld Z h0 a "java/util/AbstractList" "modCount" "I" (.int mc)) (F2 : Fld Z h0 a "java/util/ArrayList" "elementData" "[Ljava/lang/Object;" (.ref dc)) (F3 : Fld Z h0 a "java/util/ArrayList" "size" "I" (.int (0 : Int32))) (g_a : n0 ≤ a) :
    Own.Met l Z (⟨"java/util/ImmutableCollections", "listCopy", "(Ljava/util/Collection;)Ljava/util/List;"⟩ : MethodName) jdk_56_method_3_code 2 (some (.object "java/util/List")) [] ({ frames := 1, cells := 0, slots := 0, locals := 12 } : Room) #[(.ref a)] h0 (fun v h L => v = some (.ref el) ∧ h = h0 ∧ L = []) := by
  refine Own.Met.of (plainFor_of_name (by first | (simp [plainName, overriddenIn]; done) | decide +kernel)) ?_
  intro p e s m below meth c T0 hx hby hml hown hnm hret hlk hZ X0 e0
  have hown : s.vm.findClass "java/util/ImmutableCollections" = some m.cls := hown
  have hml : c.maxLocals = 2 := hml
  have hnm : meth.name = "listCopy" := hnm
  have ef : entryFrame m #[(.ref a)] 2 = mkF m 0 #[.val (.ref a), .unset] [] := by first | (simp [entryFrame, mkF, argsToLocals, Value.category]; done) | rfl
  rw [ef]
  have N0 := Fr.nil n0
  refine Own.aloadN 1 X0 hx (hb hby d17_0) rfl rfl rfl ?_
  refine Own.instN0 4 X0 hx hZ hown (w 106 rfl) e0 E_a (Own.ns_no (w 107 rfl) (w 155 rfl) (NS.step (w 107 rfl) (NS.step (w 108 rfl) (NS.step (w 109 rfl) (Own.ns_root (w 110 rfl) (w 155 rfl) (by decide)) (by decide)) (by decide)) (by decide)) (by decide)) (hb hby d17_1) rfl ?_
  intro T1 X1 e1
  refine Own.if_ne 26 7 X1 hx (hb hby d17_4) (by decide) rfl (fun tk => absurd tk (by decide)) (fun tk => ?_)
  refine Own.aloadN 8 X1 hx (hb hby d17_7) rfl rfl rfl ?_
  refine Own.instN0 11 X1 hx hZ hown (w 111 rfl) e1 E_a (Own.ns_no (w 107 rfl) (w 219 rfl) (NS.step (w 107 rfl) (NS.step (w 108 rfl) (NS.step (w 109 rfl) (Own.ns_root (w 110 rfl) (w 219 rfl) (by decide)) (by decide)) (by decide)) (by decide)) (by decide)) (hb hby d17_8) rfl ?_
  intro T2 X2 e2
  refine Own.if_eq 31 14 X2 hx (hb hby d17_11) (by decide) rfl (fun tk => ?_) (fun tk => absurd tk (by decide))
  refine Own.aloadN 32 X2 hx (hb hby d17_31) rfl rfl rfl ?_
  refine Own.callIf 37 0 a [] [] X2 hx hZ hown (m18_0 l Z a0 w a _ F3) E_a (w 112 rfl) (w 113 rfl) (mvT hZ (w 114 rfl)) (w 115 rfl) (w 116 rfl) (w 117 rfl) (mvT hZ (w 118 rfl)) (w 119 rfl) (w 36 rfl) (w 120 rfl) (by decide) e2 (by decide) (by decide) (by decide) (by decide) (by rw [hml]; rfl) (lenOf pd_12 rfl) rfl (Nat.le_of_eq rfl) (hb hby d17_32) rfl ?_
  rintro vv T3 L3 X3 ⟨rfl, hh3, rfl⟩
  have N3 := Fr.app N0 (Fr.nil _)
  refine Own.if_eq 44 40 X3 hx (hb hby d17_37) (by decide) rfl (fun tk => absurd tk (by decide)) (fun tk => ?_)
  refine Own.callSt 43 0 [] [] X3 hx hZ hown (m28 l Z a0 w dc em el mr kd n0 _ Z0 X00 SS) (w 186 rfl) (w 187 rfl) (w 100 rfl) (w 188 rfl) (by decide) hh3 (by decide) (by decide) (by decide) (by decide) (by rw [hml]; rfl) (lenOf pd_13 rfl) rfl (Nat.le_of_eq rfl) (hb hby d17_40) rfl ?_
  rintro vv T4 L4 X4 ⟨rfl, hh4, rfl⟩
  have N4 := Fr.app N3 (Fr.nil _)
  refine Own.retRef X4 hx hlk rfl hret rfl (hb hby d17_43) (by decide) (by decide) ?_
  exact ⟨rfl, hh4, rfl⟩
theorem d17_44 : decode jdk_56_method_3_code 44 = .ok (.aload_n 0, 1) := by decide +kernel
theorem d17_45 : decode jdk_56_method_3_code 45 = .ok (.invokeinterface 30 1, 5) := by decide +kernel
theorem d17_50 : decode jdk_56_method_3_code 50 = .ok (.invokestatic 34, 3) := by decide +kernel
theorem d17_53 : decode jdk_56_method_3_code 53 = .ok (.areturn, 1) := by decide +kernel
set_option maxRecDepth 65536 in
set_option maxHeartbeats 40000000 in
theorem m17_1 (l : Launch) (Z : State) (a0 : Array Value) (w : ∀ (i : Nat) {d : Jvm.Cond}, tables_1[i]? = some d → d.before a0 Z = true) (a : Addr) (dc em el mr : Addr) (kd : ClassId) (n0 : Nat) (mc : Int32) (d : Addr) (k : ClassId) (s0 : Addr) (h0 : Heap) (Z0 : n0 ≤ h0.size) (X00 : Old Z n0 h0) (SS : own_SS Z dc em el mr kd)(E_a : Exa Z h0 a "java/util/ArrayList") (F1 : Fld Z h0 a "java/util/AbstractList" "modCount" "I" (.int mc)) (F2 : Fld Z h0 a "java/util/ArrayList" "elementData" "[Ljava/lang/Object;" (.ref d)) (F3 : Fld Z h0 a "java/util/ArrayList" "size" "I" (.int (1 : Int32))) (g_a : n0 ≤ a)(E_s0 : Exa Z h0 s0 "java/lang/String")(V_d : Arv Z h0 d k (.object "java/lang/Object") (10 : Int32) [(.ref s0), .null, .null, .null, .null, .null, .null, .null, .null, .null] .null) (Ov_d : Ovr Z k "java/lang/Object") (E_d : Exa Z h0 d "[Ljava/lang/Object;") :
    Own.Met l Z (⟨"java/util/ImmutableCollections", "listCopy", "(Ljava/util/Collection;)Ljava/util/List;"⟩ : MethodName) jdk_56_method_3_code 2 (some (.object "java/util/List")) [] ({ frames := 6, cells := 2, slots := 3, locals := 75 } : Room) #[(.ref a)] h0 (fun v h L => ∃ li : Addr, v = some (.ref li) ∧ Fr n0 L ∧ Keep h0 h [] ∧ h0.size ≤ li ∧ n0 ≤ li ∧ Exa Z h li "java/util/ImmutableCollections$List12" ∧ Fld Z h li "java/util/ImmutableCollections$List12" "e0" "Ljava/lang/Object;" (.ref s0)) := by
  refine Own.Met.of (plainFor_of_name (by first | (simp [plainName, overriddenIn]; done) | decide +kernel)) ?_
  intro p e s m below meth c T0 hx hby hml hown hnm hret hlk hZ X0 e0
  have hown : s.vm.findClass "java/util/ImmutableCollections" = some m.cls := hown
  have hml : c.maxLocals = 2 := hml
  have hnm : meth.name = "listCopy" := hnm
  have ef : entryFrame m #[(.ref a)] 2 = mkF m 0 #[.val (.ref a), .unset] [] := by first | (simp [entryFrame, mkF, argsToLocals, Value.category]; done) | rfl
  rw [ef]
  have N0 := Fr.nil n0
  refine Own.aloadN 1 X0 hx (hb hby d17_0) rfl rfl rfl ?_
  refine Own.instN0 4 X0 hx hZ hown (w 106 rfl) e0 E_a (Own.ns_no (w 107 rfl) (w 155 rfl) (NS.step (w 107 rfl) (NS.step (w 108 rfl) (NS.step (w 109 rfl) (Own.ns_root (w 110 rfl) (w 155 rfl) (by decide)) (by decide)) (by decide)) (by decide)) (by decide)) (hb hby d17_1) rfl ?_
  intro T1 X1 e1
  refine Own.if_ne 26 7 X1 hx (hb hby d17_4) (by decide) rfl (fun tk => absurd tk (by decide)) (fun tk => ?_)
  refine Own.aloadN 8 X1 hx (hb hby d17_7) rfl rfl rfl ?_
  refine Own.instN0 11 X1 hx hZ hown (w 111 rfl) e1 E_a (Own.ns_no (w 107 rfl) (w 219 rfl) (NS.step (w 107 rfl) (NS.step (w 108 rfl) (NS.step (w 109 rfl) (Own.ns_root (w 110 rfl) (w 219 rfl) (by decide)) (by decide)) (by decide)) (by decide)) (by decide)) (hb hby d17_8) rfl ?_
  intro T2 X2 e2
  refine Own.if_eq 31 14 X2 hx (hb hby d17_11) (by decide) rfl (fun tk => ?_) (fun tk => absurd tk (by decide))
  refine Own.aloadN 32 X2 hx (hb hby d17_31) rfl rfl rfl ?_
  refine Own.callIf 37 0 a [] [] X2 hx hZ hown (m18_1 l Z a0 w a _ F3) E_a (w 112 rfl) (w 113 rfl) (mvT hZ (w 114 rfl)) (w 115 rfl) (w 116 rfl) (w 117 rfl) (mvT hZ (w 118 rfl)) (w 119 rfl) (w 36 rfl) (w 120 rfl) (by decide) e2 (by decide) (by decide) (by decide) (by decide) (by rw [hml]; rfl) (lenOf pd_12 rfl) rfl (Nat.le_of_eq rfl) (hb hby d17_32) rfl ?_
  rintro vv T3 L3 X3 ⟨rfl, hh3, rfl⟩
  have N3 := Fr.app N0 (Fr.nil _)
  refine Own.if_eq 44 40 X3 hx (hb hby d17_37) (by decide) rfl (fun tk => ?_) (fun tk => absurd tk (by decide))
  refine Own.aloadN 45 X3 hx (hb hby d17_44) rfl rfl rfl ?_
  refine Own.callIf 50 0 a [] [] X3 hx hZ hown (m19_1 l Z a0 w a dc em el mr kd n0 _ d _ s0 _ Z0 X00 SS E_a F1 F2 F3 g_a E_s0 V_d Ov_d E_d) E_a (w 121 rfl) (w 122 rfl) (mvT hZ (w 123 rfl)) (w 124 rfl) (w 125 rfl) (w 126 rfl) (mvT hZ (w 127 rfl)) (w 119 rfl) (w 36 rfl) (w 128 rfl) (by decide) hh3 (by decide) (by decide) (by decide) (by decide) (by rw [hml]; rfl) (lenOf pd_3 rfl) rfl (Nat.le_of_eq rfl) (hb hby d17_45) rfl ?_
  rintro vv T4 L4 X4 ⟨r, kr4, rfl, N4q, K4, sz_r, g_r, V4⟩
  have N4 := Fr.app N3 N4q
  have O4 := X00.keep K4 all0
  have Ef_6 := E_a.keep K4
  have Ff_7 := F1.keep K4 nin0
  have Ff_8 := F2.keep K4 nin0
  have Ff_9 := F3.keep K4 nin0
  have Ef_10 := E_s0.keep K4
  have Vf_11 := V_d.keep K4 nin0
  have Ef_12 := E_d.keep K4
  have zl4 := Nat.le_trans Z0 K4.1
  have KK4 := (Keep.refl h0 []).trans K4 all0
  refine Own.callSt 53 0 [(.ref r)] [] X4 hx hZ hown (m23_1 l Z a0 w r dc em el mr kd n0 kr4 s0 _ zl4 O4 SS V4 Ef_10) (w 151 rfl) (w 152 rfl) (w 100 rfl) (w 153 rfl) (by decide) rfl (by decide) (by decide) (by decide) (by decide) (by rw [hml]; rfl) (lenOf pd_11 rfl) rfl (Nat.le_of_eq rfl) (hb hby d17_50) rfl ?_
  rintro vv T13 L13 X13 ⟨li, rfl, N13q, K13, sz_li, g_li, El13, Fl13⟩
  have N13 := Fr.app N4 N13q
  have O13 := O4.keep K13 all0
  have Ef_15 := Ef_6.keep K13
  have Ff_16 := Ff_7.keep K13 nin0
  have Ff_17 := Ff_8.keep K13 nin0
  have Ff_18 := Ff_9.keep K13 nin0
  have Ef_19 := Ef_10.keep K13
  have Vf_20 := Vf_11.keep K13 nin0
  have Ef_21 := Ef_12.keep K13
  have Vf_22 := V4.keep K13 nin0
  have zl13 := Nat.le_trans zl4 K13.1
  have KK13 := KK4.trans K13 all0
  have sz_li := Nat.le_trans KK4.1 sz_li
  refine Own.retRef X13 hx hlk rfl hret rfl (hb hby d17_53) (by decide) (by decide) ?_
  exact ⟨li, rfl, N13, KK13, sz_li, g_li, El13, Fl13⟩
set_option maxRecDepth 65536 in
set_option maxHeartbeats 40000000 in
theorem m17_2 (l : Launch) (Z : State) (a0 : Array Value) (w : ∀ (i : Nat) {d : Jvm.Cond}, tables_1[i]? = some d → d.before a0 Z = true) (a : Addr) (dc em el mr : Addr) (kd : ClassId) (n0 : Nat) (mc : Int32) (d : Addr) (k : ClassId) (s0 s1 : Addr) (h0 : Heap) (Z0 : n0 ≤ h0.size) (X00 : Old Z n0 h0) (SS : own_SS Z dc em el mr kd)(E_a : Exa Z h0 a "java/util/ArrayList") (F1 : Fld Z h0 a "java/util/AbstractList" "modCount" "I" (.int mc)) (F2 : Fld Z h0 a "java/util/ArrayList" "elementData" "[Ljava/lang/Object;" (.ref d)) (F3 : Fld Z h0 a "java/util/ArrayList" "size" "I" (.int (2 : Int32))) (g_a : n0 ≤ a)(E_s0 : Exa Z h0 s0 "java/lang/String") (E_s1 : Exa Z h0 s1 "java/lang/String")(V_d : Arv Z h0 d k (.object "java/lang/Object") (10 : Int32) [(.ref s0), (.ref s1), .null, .null, .null, .null, .null, .null, .null, .null] .null) (Ov_d : Ovr Z k "java/lang/Object") (E_d : Exa Z h0 d "[Ljava/lang/Object;") :
    Own.Met l Z (⟨"java/util/ImmutableCollections", "listCopy", "(Ljava/util/Collection;)Ljava/util/List;"⟩ : MethodName) jdk_56_method_3_code 2 (some (.object "java/util/List")) [] ({ frames := 6, cells := 2, slots := 4, locals := 76 } : Room) #[(.ref a)] h0 (fun v h L => ∃ li : Addr, v = some (.ref li) ∧ Fr n0 L ∧ Keep h0 h [] ∧ h0.size ≤ li ∧ n0 ≤ li ∧ Exa Z h li "java/util/ImmutableCollections$List12" ∧ Fld Z h li "java/util/ImmutableCollections$List12" "e0" "Ljava/lang/Object;" (.ref s0)) := by
  refine Own.Met.of (plainFor_of_name (by first | (simp [plainName, overriddenIn]; done) | decide +kernel)) ?_
  intro p e s m below meth c T0 hx hby hml hown hnm hret hlk hZ X0 e0
  have hown : s.vm.findClass "java/util/ImmutableCollections" = some m.cls := hown
  have hml : c.maxLocals = 2 := hml
  have hnm : meth.name = "listCopy" := hnm
  have ef : entryFrame m #[(.ref a)] 2 = mkF m 0 #[.val (.ref a), .unset] [] := by first | (simp [entryFrame, mkF, argsToLocals, Value.category]; done) | rfl
  rw [ef]
  have N0 := Fr.nil n0
  refine Own.aloadN 1 X0 hx (hb hby d17_0) rfl rfl rfl ?_
  refine Own.instN0 4 X0 hx hZ hown (w 106 rfl) e0 E_a (Own.ns_no (w 107 rfl) (w 155 rfl) (NS.step (w 107 rfl) (NS.step (w 108 rfl) (NS.step (w 109 rfl) (Own.ns_root (w 110 rfl) (w 155 rfl) (by decide)) (by decide)) (by decide)) (by decide)) (by decide)) (hb hby d17_1) rfl ?_
  intro T1 X1 e1
  refine Own.if_ne 26 7 X1 hx (hb hby d17_4) (by decide) rfl (fun tk => absurd tk (by decide)) (fun tk => ?_)
  refine Own.aloadN 8 X1 hx (hb hby d17_7) rfl rfl rfl ?_
  refine Own.instN0 11 X1 hx hZ hown (w 111 rfl) e1 E_a (Own.ns_no (w 107 rfl) (w 219 rfl) (NS.step (w 107 rfl) (NS.step (w 108 rfl) (NS.step (w 109 rfl) (Own.ns_root (w 110 rfl) (w 219 rfl) (by decide)) (by decide)) (by decide)) (by decide)) (by decide)) (hb hby d17_8) rfl ?_
  intro T2 X2 e2
  refine Own.if_eq 31 14 X2 hx (hb hby d17_11) (by decide) rfl (fun tk => ?_) (fun tk => absurd tk (by decide))
  refine Own.aloadN 32 X2 hx (hb hby d17_31) rfl rfl rfl ?_
  refine Own.callIf 37 0 a [] [] X2 hx hZ hown (m18_2 l Z a0 w a _ F3) E_a (w 112 rfl) (w 113 rfl) (mvT hZ (w 114 rfl)) (w 115 rfl) (w 116 rfl) (w 117 rfl) (mvT hZ (w 118 rfl)) (w 119 rfl) (w 36 rfl) (w 120 rfl) (by decide) e2 (by decide) (by decide) (by decide) (by decide) (by rw [hml]; rfl) (lenOf pd_12 rfl) rfl (Nat.le_of_eq rfl) (hb hby d17_32) rfl ?_
  rintro vv T3 L3 X3 ⟨rfl, hh3, rfl⟩
  have N3 := Fr.app N0 (Fr.nil _)
  refine Own.if_eq 44 40 X3 hx (hb hby d17_37) (by decide) rfl (fun tk => ?_) (fun tk => absurd tk (by decide))
  refine Own.aloadN 45 X3 hx (hb hby d17_44) rfl rfl rfl ?_
  refine Own.callIf 50 0 a [] [] X3 hx hZ hown (m19_2 l Z a0 w a dc em el mr kd n0 _ d _ s0 s1 _ Z0 X00 SS E_a F1 F2 F3 g_a E_s0 E_s1 V_d Ov_d E_d) E_a (w 121 rfl) (w 122 rfl) (mvT hZ (w 123 rfl)) (w 124 rfl) (w 125 rfl) (w 126 rfl) (mvT hZ (w 127 rfl)) (w 119 rfl) (w 36 rfl) (w 128 rfl) (by decide) hh3 (by decide) (by decide) (by decide) (by decide) (by rw [hml]; rfl) (lenOf pd_3 rfl) rfl (Nat.le_of_eq rfl) (hb hby d17_45) rfl ?_
  rintro vv T4 L4 X4 ⟨r, kr4, rfl, N4q, K4, sz_r, g_r, V4⟩
  have N4 := Fr.app N3 N4q
  have O4 := X00.keep K4 all0
  have Ef_6 := E_a.keep K4
  have Ff_7 := F1.keep K4 nin0
  have Ff_8 := F2.keep K4 nin0
  have Ff_9 := F3.keep K4 nin0
  have Ef_10 := E_s0.keep K4
  have Ef_11 := E_s1.keep K4
  have Vf_12 := V_d.keep K4 nin0
  have Ef_13 := E_d.keep K4
  have zl4 := Nat.le_trans Z0 K4.1
  have KK4 := (Keep.refl h0 []).trans K4 all0
  refine Own.callSt 53 0 [(.ref r)] [] X4 hx hZ hown (m23_2 l Z a0 w r dc em el mr kd n0 kr4 s0 s1 _ zl4 O4 SS V4 Ef_10 Ef_11) (w 151 rfl) (w 152 rfl) (w 100 rfl) (w 153 rfl) (by decide) rfl (by decide) (by decide) (by decide) (by decide) (by rw [hml]; rfl) (lenOf pd_11 rfl) rfl (Nat.le_of_eq rfl) (hb hby d17_50) rfl ?_
  rintro vv T14 L14 X14 ⟨li, rfl, N14q, K14, sz_li, g_li, El14, Fl14⟩
  have N14 := Fr.app N4 N14q
  have O14 := O4.keep K14 all0
  have Ef_16 := Ef_6.keep K14
  have Ff_17 := Ff_7.keep K14 nin0
  have Ff_18 := Ff_8.keep K14 nin0
  have Ff_19 := Ff_9.keep K14 nin0
  have Ef_20 := Ef_10.keep K14
  have Ef_21 := Ef_11.keep K14
  have Vf_22 := Vf_12.keep K14 nin0
  have Ef_23 := Ef_13.keep K14
  have Vf_24 := V4.keep K14 nin0
  have zl14 := Nat.le_trans zl4 K14.1
  have KK14 := KK4.trans K14 all0
  have sz_li := Nat.le_trans KK4.1 sz_li
  refine Own.retRef X14 hx hlk rfl hret rfl (hb hby d17_53) (by decide) (by decide) ?_
  exact ⟨li, rfl, N14, KK14, sz_li, g_li, El14, Fl14⟩
set_option maxRecDepth 65536 in
set_option maxHeartbeats 40000000 in
theorem m17_3 (l : Launch) (Z : State) (a0 : Array Value) (w : ∀ (i : Nat) {d : Jvm.Cond}, tables_1[i]? = some d → d.before a0 Z = true) (a : Addr) (dc em el mr : Addr) (kd : ClassId) (n0 : Nat) (mc : Int32) (d : Addr) (k : ClassId) (s0 s1 s2 : Addr) (h0 : Heap) (Z0 : n0 ≤ h0.size) (X00 : Old Z n0 h0) (SS : own_SS Z dc em el mr kd)(E_a : Exa Z h0 a "java/util/ArrayList") (F1 : Fld Z h0 a "java/util/AbstractList" "modCount" "I" (.int mc)) (F2 : Fld Z h0 a "java/util/ArrayList" "elementData" "[Ljava/lang/Object;" (.ref d)) (F3 : Fld Z h0 a "java/util/ArrayList" "size" "I" (.int (3 : Int32))) (g_a : n0 ≤ a)(E_s0 : Exa Z h0 s0 "java/lang/String") (E_s1 : Exa Z h0 s1 "java/lang/String") (E_s2 : Exa Z h0 s2 "java/lang/String")(V_d : Arv Z h0 d k (.object "java/lang/Object") (10 : Int32) [(.ref s0), (.ref s1), (.ref s2), .null, .null, .null, .null, .null, .null, .null] .null) (Ov_d : Ovr Z k "java/lang/Object") (E_d : Exa Z h0 d "[Ljava/lang/Object;") :
    Own.Met l Z (⟨"java/util/ImmutableCollections", "listCopy", "(Ljava/util/Collection;)Ljava/util/List;"⟩ : MethodName) jdk_56_method_3_code 2 (some (.object "java/util/List")) [] ({ frames := 7, cells := 3, slots := 8, locals := 90 } : Room) #[(.ref a)] h0 (fun v h L => ∃ (li ar : Addr) (ka : ClassId), v = some (.ref li) ∧ Fr n0 L ∧ Keep h0 h [] ∧ h0.size ≤ li ∧ n0 ≤ li ∧ Exa Z h li "java/util/ImmutableCollections$ListN" ∧ Fld Z h li "java/util/ImmutableCollections$ListN" "elements" "[Ljava/lang/Object;" (.ref ar) ∧ h0.size ≤ ar ∧ Arv Z h ar ka (.object "java/lang/Object") (3 : Int32) [(.ref s0), (.ref s1), (.ref s2)] .null) := by
  refine Own.Met.of (plainFor_of_name (by first | (simp [plainName, overriddenIn]; done) | decide +kernel)) ?_
  intro p e s m below meth c T0 hx hby hml hown hnm hret hlk hZ X0 e0
  have hown : s.vm.findClass "java/util/ImmutableCollections" = some m.cls := hown
  have hml : c.maxLocals = 2 := hml
  have hnm : meth.name = "listCopy" := hnm
  have ef : entryFrame m #[(.ref a)] 2 = mkF m 0 #[.val (.ref a), .unset] [] := by first | (simp [entryFrame, mkF, argsToLocals, Value.category]; done) | rfl
  rw [ef]
  have N0 := Fr.nil n0
  refine Own.aloadN 1 X0 hx (hb hby d17_0) rfl rfl rfl ?_
  refine Own.instN0 4 X0 hx hZ hown (w 106 rfl) e0 E_a (Own.ns_no (w 107 rfl) (w 155 rfl) (NS.step (w 107 rfl) (NS.step (w 108 rfl) (NS.step (w 109 rfl) (Own.ns_root (w 110 rfl) (w 155 rfl) (by decide)) (by decide)) (by decide)) (by decide)) (by decide)) (hb hby d17_1) rfl ?_
  intro T1 X1 e1
  refine Own.if_ne 26 7 X1 hx (hb hby d17_4) (by decide) rfl (fun tk => absurd tk (by decide)) (fun tk => ?_)
  refine Own.aloadN 8 X1 hx (hb hby d17_7) rfl rfl rfl ?_
  refine Own.instN0 11 X1 hx hZ hown (w 111 rfl) e1 E_a (Own.ns_no (w 107 rfl) (w 219 rfl) (NS.step (w 107 rfl) (NS.step (w 108 rfl) (NS.step (w 109 rfl) (Own.ns_root (w 110 rfl) (w 219 rfl) (by decide)) (by decide)) (by decide)) (by decide)) (by decide)) (hb hby d17_8) rfl ?_
  intro T2 X2 e2
  refine Own.if_eq 31 14 X2 hx (hb hby d17_11) (by decide) rfl (fun tk => ?_) (fun tk => absurd tk (by decide))
  refine Own.aloadN 32 X2 hx (hb hby d17_31) rfl rfl rfl ?_
  refine Own.callIf 37 0 a [] [] X2 hx hZ hown (m18_3 l Z a0 w a _ F3) E_a (w 112 rfl) (w 113 rfl) (mvT hZ (w 114 rfl)) (w 115 rfl) (w 116 rfl) (w 117 rfl) (mvT hZ (w 118 rfl)) (w 119 rfl) (w 36 rfl) (w 120 rfl) (by decide) e2 (by decide) (by decide) (by decide) (by decide) (by rw [hml]; rfl) (lenOf pd_12 rfl) rfl (Nat.le_of_eq rfl) (hb hby d17_32) rfl ?_
  rintro vv T3 L3 X3 ⟨rfl, hh3, rfl⟩
  have N3 := Fr.app N0 (Fr.nil _)
  refine Own.if_eq 44 40 X3 hx (hb hby d17_37) (by decide) rfl (fun tk => ?_) (fun tk => absurd tk (by decide))
  refine Own.aloadN 45 X3 hx (hb hby d17_44) rfl rfl rfl ?_
  refine Own.callIf 50 0 a [] [] X3 hx hZ hown (m19_3 l Z a0 w a dc em el mr kd n0 _ d _ s0 s1 s2 _ Z0 X00 SS E_a F1 F2 F3 g_a E_s0 E_s1 E_s2 V_d Ov_d E_d) E_a (w 121 rfl) (w 122 rfl) (mvT hZ (w 123 rfl)) (w 124 rfl) (w 125 rfl) (w 126 rfl) (mvT hZ (w 127 rfl)) (w 119 rfl) (w 36 rfl) (w 128 rfl) (by decide) hh3 (by decide) (by decide) (by decide) (by decide) (by rw [hml]; rfl) (lenOf pd_3 rfl) rfl (Nat.le_of_eq rfl) (hb hby d17_45) rfl ?_
  rintro vv T4 L4 X4 ⟨r, kr4, rfl, N4q, K4, sz_r, g_r, V4⟩
  have N4 := Fr.app N3 N4q
  have O4 := X00.keep K4 all0
  have Ef_6 := E_a.keep K4
  have Ff_7 := F1.keep K4 nin0
  have Ff_8 := F2.keep K4 nin0
  have Ff_9 := F3.keep K4 nin0
  have Ef_10 := E_s0.keep K4
  have Ef_11 := E_s1.keep K4
  have Ef_12 := E_s2.keep K4
  have Vf_13 := V_d.keep K4 nin0
  have Ef_14 := E_d.keep K4
  have zl4 := Nat.le_trans Z0 K4.1
  have KK4 := (Keep.refl h0 []).trans K4 all0
  refine Own.callSt 53 0 [(.ref r)] [] X4 hx hZ hown (m23_3 l Z a0 w r dc em el mr kd n0 kr4 s0 s1 s2 _ zl4 O4 SS V4 Ef_10 Ef_11 Ef_12) (w 151 rfl) (w 152 rfl) (w 100 rfl) (w 153 rfl) (by decide) rfl (by decide) (by decide) (by decide) (by decide) (by rw [hml]; rfl) (lenOf pd_11 rfl) rfl (Nat.le_of_eq rfl) (hb hby d17_50) rfl ?_
  rintro vv T15 L15 X15 ⟨li, ar, ka15, rfl, N15q, K15, sz_li, g_li, El15, Fl15, sz_ar, Va15⟩
  have N15 := Fr.app N4 N15q
  have O15 := O4.keep K15 all0
  have Ef_17 := Ef_6.keep K15
  have Ff_18 := Ff_7.keep K15 nin0
  have Ff_19 := Ff_8.keep K15 nin0
  have Ff_20 := Ff_9.keep K15 nin0
  have Ef_21 := Ef_10.keep K15
  have Ef_22 := Ef_11.keep K15
  have Ef_23 := Ef_12.keep K15
  have Vf_24 := Vf_13.keep K15 nin0
  have Ef_25 := Ef_14.keep K15
  have Vf_26 := V4.keep K15 nin0
  have zl15 := Nat.le_trans zl4 K15.1
  have KK15 := KK4.trans K15 all0
  have sz_li := Nat.le_trans KK4.1 sz_li
  have sz_ar := Nat.le_trans KK4.1 sz_ar
  refine Own.retRef X15 hx hlk rfl hret rfl (hb hby d17_53) (by decide) (by decide) ?_
  exact ⟨li, ar, ka15, rfl, N15, KK15, sz_li, g_li, El15, Fl15, sz_ar, Va15⟩
theorem d16_0 : decode jdk_40_method_48_code 0 = .ok (.aload_n 0, 1) := by decide +kernel
theorem d16_1 : decode jdk_40_method_48_code 1 = .ok (.invokestatic 112, 3) := by decide +kernel
theorem d16_4 : decode jdk_40_method_48_code 4 = .ok (.areturn, 1) := by decide +kernel
set_option maxRecDepth 65536 in
set_option maxHeartbeats 40000000 in
theorem m16_0 (l : Launch) (Z : State) (a0 : Array Value) (w : ∀ (i : Nat) {d : Jvm.Cond}, tables_1[i]? = some d → d.before a0 Z = true) (a : Addr) (dc em el mr : Addr) (kd : ClassId) (n0 : Nat) (mc : Int32) (h0 : Heap) (Z0 : n0 ≤ h0.size) (X00 : Old Z n0 h0) (SS : own_SS Z dc em el mr kd)(E_a : Exa Z h0 a "java/util/ArrayList") (F1 : Fld Z h0 a "java/util/AbstractList" "modCount" "I" (.int mc)) (F2 : Fld Z h0 a "java/util/ArrayList" "elementData" "[Ljava/lang/Object;" (.ref dc)) (F3 : Fld Z h0 a "java/util/ArrayList" "size" "I" (.int (0 : Int32))) (g_a : n0 ≤ a) :
    Own.Met l Z (⟨"java/util/List", "copyOf", "(Ljava/util/Collection;)Ljava/util/List;"⟩ : MethodName) jdk_40_method_48_code 1 (some (.object "java/util/List")) [] ({ frames := 2, cells := 0, slots := 0, locals := 25 } : Room) #[(.ref a)] h0 (fun v h L => v = some (.ref el) ∧ h = h0 ∧ L = []) := by
  refine Own.Met.of (plainFor_of_name (by first | (simp [plainName, overriddenIn]; done) | decide +kernel)) ?_
  intro p e s m below meth c T0 hx hby hml hown hnm hret hlk hZ X0 e0
  have hown : s.vm.findClass "java/util/List" = some m.cls := hown
  have hml : c.maxLocals = 1 := hml
  have hnm : meth.name = "copyOf" := hnm
  have ef : entryFrame m #[(.ref a)] 1 = mkF m 0 #[.val (.ref a)] [] := by first | (simp [entryFrame, mkF, argsToLocals, Value.category]; done) | rfl
  rw [ef]
  have N0 := Fr.nil n0
  refine Own.aloadN 1 X0 hx (hb hby d16_0) rfl rfl rfl ?_
  refine Own.callSt 4 0 [(.ref a)] [] X0 hx hZ hown (m17_0 l Z a0 w a dc em el mr kd n0 _  _ Z0 X00 SS E_a F1 F2 F3 g_a ) (w 102 rfl) (w 103 rfl) (w 104 rfl) (w 105 rfl) (by decide) e0 (by decide) (by decide) (by decide) (by decide) (by rw [hml]; rfl) (lenOf pd_14 rfl) rfl (Nat.le_of_eq rfl) (hb hby d16_1) rfl ?_
  rintro vv T1 L1 X1 ⟨rfl, hh1, rfl⟩
  have N1 := Fr.app N0 (Fr.nil _)
  refine Own.retRef X1 hx hlk rfl hret rfl (hb hby d16_4) (by decide) (by decide) ?_
  exact ⟨rfl, hh1, rfl⟩
set_option maxRecDepth 65536 in
set_option maxHeartbeats 40000000 in
theorem m16_1 (l : Launch) (Z : State) (a0 : Array Value) (w : ∀ (i : Nat) {d : Jvm.Cond}, tables_1[i]? = some d → d.before a0 Z = true) (a : Addr) (dc em el mr : Addr) (kd : ClassId) (n0 : Nat) (mc : Int32) (d : Addr) (k : ClassId) (s0 : Addr) (h0 : Heap) (Z0 : n0 ≤ h0.size) (X00 : Old Z n0 h0) (SS : own_SS Z dc em el mr kd)(E_a : Exa Z h0 a "java/util/ArrayList") (F1 : Fld Z h0 a "java/util/AbstractList" "modCount" "I" (.int mc)) (F2 : Fld Z h0 a "java/util/ArrayList" "elementData" "[Ljava/lang/Object;" (.ref d)) (F3 : Fld Z h0 a "java/util/ArrayList" "size" "I" (.int (1 : Int32))) (g_a : n0 ≤ a)(E_s0 : Exa Z h0 s0 "java/lang/String")(V_d : Arv Z h0 d k (.object "java/lang/Object") (10 : Int32) [(.ref s0), .null, .null, .null, .null, .null, .null, .null, .null, .null] .null) (Ov_d : Ovr Z k "java/lang/Object") (E_d : Exa Z h0 d "[Ljava/lang/Object;") :
    Own.Met l Z (⟨"java/util/List", "copyOf", "(Ljava/util/Collection;)Ljava/util/List;"⟩ : MethodName) jdk_40_method_48_code 1 (some (.object "java/util/List")) [] ({ frames := 7, cells := 2, slots := 3, locals := 88 } : Room) #[(.ref a)] h0 (fun v h L => ∃ li : Addr, v = some (.ref li) ∧ Fr n0 L ∧ Keep h0 h [] ∧ h0.size ≤ li ∧ n0 ≤ li ∧ Exa Z h li "java/util/ImmutableCollections$List12" ∧ Fld Z h li "java/util/ImmutableCollections$List12" "e0" "Ljava/lang/Object;" (.ref s0)) := by
  refine Own.Met.of (plainFor_of_name (by first | (simp [plainName, overriddenIn]; done) | decide +kernel)) ?_
  intro p e s m below meth c T0 hx hby hml hown hnm hret hlk hZ X0 e0
  have hown : s.vm.findClass "java/util/List" = some m.cls := hown
  have hml : c.maxLocals = 1 := hml
  have hnm : meth.name = "copyOf" := hnm
  have ef : entryFrame m #[(.ref a)] 1 = mkF m 0 #[.val (.ref a)] [] := by first | (simp [entryFrame, mkF, argsToLocals, Value.category]; done) | rfl
  rw [ef]
  have N0 := Fr.nil n0
  refine Own.aloadN 1 X0 hx (hb hby d16_0) rfl rfl rfl ?_
  refine Own.callSt 4 0 [(.ref a)] [] X0 hx hZ hown (m17_1 l Z a0 w a dc em el mr kd n0 _ d _ s0 _ Z0 X00 SS E_a F1 F2 F3 g_a E_s0 V_d Ov_d E_d) (w 102 rfl) (w 103 rfl) (w 104 rfl) (w 105 rfl) (by decide) e0 (by decide) (by decide) (by decide) (by decide) (by rw [hml]; rfl) (lenOf pd_14 rfl) rfl (Nat.le_of_eq rfl) (hb hby d16_1) rfl ?_
  rintro vv T1 L1 X1 ⟨li, rfl, N1q, K1, sz_li, g_li, El1, Fl1⟩
  have N1 := Fr.app N0 N1q
  have O1 := X00.keep K1 all0
  have Ef_3 := E_a.keep K1
  have Ff_4 := F1.keep K1 nin0
  have Ff_5 := F2.keep K1 nin0
  have Ff_6 := F3.keep K1 nin0
  have Ef_7 := E_s0.keep K1
  have Vf_8 := V_d.keep K1 nin0
  have Ef_9 := E_d.keep K1
  have zl1 := Nat.le_trans Z0 K1.1
  have KK1 := (Keep.refl h0 []).trans K1 all0
  refine Own.retRef X1 hx hlk rfl hret rfl (hb hby d16_4) (by decide) (by decide) ?_
  exact ⟨li, rfl, N1, KK1, sz_li, g_li, El1, Fl1⟩
set_option maxRecDepth 65536 in
set_option maxHeartbeats 40000000 in
theorem m16_2 (l : Launch) (Z : State) (a0 : Array Value) (w : ∀ (i : Nat) {d : Jvm.Cond}, tables_1[i]? = some d → d.before a0 Z = true) (a : Addr) (dc em el mr : Addr) (kd : ClassId) (n0 : Nat) (mc : Int32) (d : Addr) (k : ClassId) (s0 s1 : Addr) (h0 : Heap) (Z0 : n0 ≤ h0.size) (X00 : Old Z n0 h0) (SS : own_SS Z dc em el mr kd)(E_a : Exa Z h0 a "java/util/ArrayList") (F1 : Fld Z h0 a "java/util/AbstractList" "modCount" "I" (.int mc)) (F2 : Fld Z h0 a "java/util/ArrayList" "elementData" "[Ljava/lang/Object;" (.ref d)) (F3 : Fld Z h0 a "java/util/ArrayList" "size" "I" (.int (2 : Int32))) (g_a : n0 ≤ a)(E_s0 : Exa Z h0 s0 "java/lang/String") (E_s1 : Exa Z h0 s1 "java/lang/String")(V_d : Arv Z h0 d k (.object "java/lang/Object") (10 : Int32) [(.ref s0), (.ref s1), .null, .null, .null, .null, .null, .null, .null, .null] .null) (Ov_d : Ovr Z k "java/lang/Object") (E_d : Exa Z h0 d "[Ljava/lang/Object;") :
    Own.Met l Z (⟨"java/util/List", "copyOf", "(Ljava/util/Collection;)Ljava/util/List;"⟩ : MethodName) jdk_40_method_48_code 1 (some (.object "java/util/List")) [] ({ frames := 7, cells := 2, slots := 4, locals := 89 } : Room) #[(.ref a)] h0 (fun v h L => ∃ li : Addr, v = some (.ref li) ∧ Fr n0 L ∧ Keep h0 h [] ∧ h0.size ≤ li ∧ n0 ≤ li ∧ Exa Z h li "java/util/ImmutableCollections$List12" ∧ Fld Z h li "java/util/ImmutableCollections$List12" "e0" "Ljava/lang/Object;" (.ref s0)) := by
  refine Own.Met.of (plainFor_of_name (by first | (simp [plainName, overriddenIn]; done) | decide +kernel)) ?_
  intro p e s m below meth c T0 hx hby hml hown hnm hret hlk hZ X0 e0
  have hown : s.vm.findClass "java/util/List" = some m.cls := hown
  have hml : c.maxLocals = 1 := hml
  have hnm : meth.name = "copyOf" := hnm
  have ef : entryFrame m #[(.ref a)] 1 = mkF m 0 #[.val (.ref a)] [] := by first | (simp [entryFrame, mkF, argsToLocals, Value.category]; done) | rfl
  rw [ef]
  have N0 := Fr.nil n0
  refine Own.aloadN 1 X0 hx (hb hby d16_0) rfl rfl rfl ?_
  refine Own.callSt 4 0 [(.ref a)] [] X0 hx hZ hown (m17_2 l Z a0 w a dc em el mr kd n0 _ d _ s0 s1 _ Z0 X00 SS E_a F1 F2 F3 g_a E_s0 E_s1 V_d Ov_d E_d) (w 102 rfl) (w 103 rfl) (w 104 rfl) (w 105 rfl) (by decide) e0 (by decide) (by decide) (by decide) (by decide) (by rw [hml]; rfl) (lenOf pd_14 rfl) rfl (Nat.le_of_eq rfl) (hb hby d16_1) rfl ?_
  rintro vv T1 L1 X1 ⟨li, rfl, N1q, K1, sz_li, g_li, El1, Fl1⟩
  have N1 := Fr.app N0 N1q
  have O1 := X00.keep K1 all0
  have Ef_3 := E_a.keep K1
  have Ff_4 := F1.keep K1 nin0
  have Ff_5 := F2.keep K1 nin0
  have Ff_6 := F3.keep K1 nin0
  have Ef_7 := E_s0.keep K1
  have Ef_8 := E_s1.keep K1
  have Vf_9 := V_d.keep K1 nin0
  have Ef_10 := E_d.keep K1
  have zl1 := Nat.le_trans Z0 K1.1
  have KK1 := (Keep.refl h0 []).trans K1 all0
  refine Own.retRef X1 hx hlk rfl hret rfl (hb hby d16_4) (by decide) (by decide) ?_
  exact ⟨li, rfl, N1, KK1, sz_li, g_li, El1, Fl1⟩
set_option maxRecDepth 65536 in
set_option maxHeartbeats 40000000 in
theorem m16_3 (l : Launch) (Z : State) (a0 : Array Value) (w : ∀ (i : Nat) {d : Jvm.Cond}, tables_1[i]? = some d → d.before a0 Z = true) (a : Addr) (dc em el mr : Addr) (kd : ClassId) (n0 : Nat) (mc : Int32) (d : Addr) (k : ClassId) (s0 s1 s2 : Addr) (h0 : Heap) (Z0 : n0 ≤ h0.size) (X00 : Old Z n0 h0) (SS : own_SS Z dc em el mr kd)(E_a : Exa Z h0 a "java/util/ArrayList") (F1 : Fld Z h0 a "java/util/AbstractList" "modCount" "I" (.int mc)) (F2 : Fld Z h0 a "java/util/ArrayList" "elementData" "[Ljava/lang/Object;" (.ref d)) (F3 : Fld Z h0 a "java/util/ArrayList" "size" "I" (.int (3 : Int32))) (g_a : n0 ≤ a)(E_s0 : Exa Z h0 s0 "java/lang/String") (E_s1 : Exa Z h0 s1 "java/lang/String") (E_s2 : Exa Z h0 s2 "java/lang/String")(V_d : Arv Z h0 d k (.object "java/lang/Object") (10 : Int32) [(.ref s0), (.ref s1), (.ref s2), .null, .null, .null, .null, .null, .null, .null] .null) (Ov_d : Ovr Z k "java/lang/Object") (E_d : Exa Z h0 d "[Ljava/lang/Object;") :
    Own.Met l Z (⟨"java/util/List", "copyOf", "(Ljava/util/Collection;)Ljava/util/List;"⟩ : MethodName) jdk_40_method_48_code 1 (some (.object "java/util/List")) [] ({ frames := 8, cells := 3, slots := 8, locals := 103 } : Room) #[(.ref a)] h0 (fun v h L => ∃ (li ar : Addr) (ka : ClassId), v = some (.ref li) ∧ Fr n0 L ∧ Keep h0 h [] ∧ h0.size ≤ li ∧ n0 ≤ li ∧ Exa Z h li "java/util/ImmutableCollections$ListN" ∧ Fld Z h li "java/util/ImmutableCollections$ListN" "elements" "[Ljava/lang/Object;" (.ref ar) ∧ h0.size ≤ ar ∧ Arv Z h ar ka (.object "java/lang/Object") (3 : Int32) [(.ref s0), (.ref s1), (.ref s2)] .null) := by
  refine Own.Met.of (plainFor_of_name (by first | (simp [plainName, overriddenIn]; done) | decide +kernel)) ?_
  intro p e s m below meth c T0 hx hby hml hown hnm hret hlk hZ X0 e0
  have hown : s.vm.findClass "java/util/List" = some m.cls := hown
  have hml : c.maxLocals = 1 := hml
  have hnm : meth.name = "copyOf" := hnm
  have ef : entryFrame m #[(.ref a)] 1 = mkF m 0 #[.val (.ref a)] [] := by first | (simp [entryFrame, mkF, argsToLocals, Value.category]; done) | rfl
  rw [ef]
  have N0 := Fr.nil n0
  refine Own.aloadN 1 X0 hx (hb hby d16_0) rfl rfl rfl ?_
  refine Own.callSt 4 0 [(.ref a)] [] X0 hx hZ hown (m17_3 l Z a0 w a dc em el mr kd n0 _ d _ s0 s1 s2 _ Z0 X00 SS E_a F1 F2 F3 g_a E_s0 E_s1 E_s2 V_d Ov_d E_d) (w 102 rfl) (w 103 rfl) (w 104 rfl) (w 105 rfl) (by decide) e0 (by decide) (by decide) (by decide) (by decide) (by rw [hml]; rfl) (lenOf pd_14 rfl) rfl (Nat.le_of_eq rfl) (hb hby d16_1) rfl ?_
  rintro vv T1 L1 X1 ⟨li, ar, ka1, rfl, N1q, K1, sz_li, g_li, El1, Fl1, sz_ar, Va1⟩
  have N1 := Fr.app N0 N1q
  have O1 := X00.keep K1 all0
  have Ef_3 := E_a.keep K1
  have Ff_4 := F1.keep K1 nin0
  have Ff_5 := F2.keep K1 nin0
  have Ff_6 := F3.keep K1 nin0
  have Ef_7 := E_s0.keep K1
  have Ef_8 := E_s1.keep K1
  have Ef_9 := E_s2.keep K1
  have Vf_10 := V_d.keep K1 nin0
  have Ef_11 := E_d.keep K1
  have zl1 := Nat.le_trans Z0 K1.1
  have KK1 := (Keep.refl h0 []).trans K1 all0
  refine Own.retRef X1 hx hlk rfl hret rfl (hb hby d16_4) (by decide) (by decide) ?_
  exact ⟨li, ar, ka1, rfl, N1, KK1, sz_li, g_li, El1, Fl1, sz_ar, Va1⟩
theorem d15_0 : decode prog_5_method_1_code 0 = .ok (.aload_n 0, 1) := by decide +kernel
theorem d15_1 : decode prog_5_method_1_code 1 = .ok (.invokespecial 1, 3) := by decide +kernel
theorem d15_4 : decode prog_5_method_1_code 4 = .ok (.aload_n 0, 1) := by decide +kernel
theorem d15_5 : decode prog_5_method_1_code 5 = .ok (.aload_n 1, 1) := by decide +kernel
theorem d15_6 : decode prog_5_method_1_code 6 = .ok (.putfield 7, 3) := by decide +kernel
theorem d15_9 : decode prog_5_method_1_code 9 = .ok (.aload_n 0, 1) := by decide +kernel
theorem d15_10 : decode prog_5_method_1_code 10 = .ok (.aload_n 2, 1) := by decide +kernel
theorem d15_11 : decode prog_5_method_1_code 11 = .ok (.invokestatic 13, 3) := by decide +kernel
theorem d15_14 : decode prog_5_method_1_code 14 = .ok (.putfield 19, 3) := by decide +kernel
theorem d15_17 : decode prog_5_method_1_code 17 = .ok (.aload_n 0, 1) := by decide +kernel
theorem d15_18 : decode prog_5_method_1_code 18 = .ok (.aload_n 3, 1) := by decide +kernel
theorem d15_19 : decode prog_5_method_1_code 19 = .ok (.invokestatic 13, 3) := by decide +kernel
theorem d15_22 : decode prog_5_method_1_code 22 = .ok (.putfield 23, 3) := by decide +kernel
theorem d15_25 : decode prog_5_method_1_code 25 = .ok (.return_, 1) := by decide +kernel
set_option maxRecDepth 65536 in
set_option maxHeartbeats 40000000 in
theorem m15_1_0 (l : Launch) (Z : State) (a0 : Array Value) (w : ∀ (i : Nat) {d : Jvm.Cond}, tables_1[i]? = some d → d.before a0 Z = true) (a : Addr) (ki : Addr) (nl : Addr) (tl : Addr) (dc em el mr : Addr) (kd : ClassId) (n0 : Nat) (u0 u1 u2 : Value) (mn mt : Int32) (nd s0 : Addr) (nk : ClassId) (h0 : Heap) (Z0 : n0 ≤ h0.size) (X00 : Old Z n0 h0) (SS : own_SS Z dc em el mr kd)(E_a : Exa Z h0 a "com/example/bindgate/bindgate/idl/Declaration") (F0 : Fld Z h0 a "com/example/bindgate/bindgate/idl/Declaration" "kind" "Lcom/example/bindgate/bindgate/idl/Declaration$Kind;" u0) (F1 : Fld Z h0 a "com/example/bindgate/bindgate/idl/Declaration" "names" "Ljava/util/List;" u1) (F2 : Fld Z h0 a "com/example/bindgate/bindgate/idl/Declaration" "tokens" "Ljava/util/List;" u2) (g_a : n0 ≤ a) (E_s0 : Exa Z h0 s0 "java/lang/String") (E_nl : Exa Z h0 nl "java/util/ArrayList") (g_nl : n0 ≤ nl) (nF0 : Fld Z h0 nl "java/util/AbstractList" "modCount" "I" (.int mn)) (nF1 : Fld Z h0 nl "java/util/ArrayList" "elementData" "[Ljava/lang/Object;" (.ref nd)) (nF2 : Fld Z h0 nl "java/util/ArrayList" "size" "I" (.int (1 : Int32))) (V_nd : Arv Z h0 nd nk (.object "java/lang/Object") (10 : Int32) [(.ref s0), .null, .null, .null, .null, .null, .null, .null, .null, .null] .null) (Ov_nd : Ovr Z nk "java/lang/Object") (E_nd : Exa Z h0 nd "[Ljava/lang/Object;") (E_tl : Exa Z h0 tl "java/util/ArrayList") (g_tl : n0 ≤ tl) (tF0 : Fld Z h0 tl "java/util/AbstractList" "modCount" "I" (.int mt)) (tF1 : Fld Z h0 tl "java/util/ArrayList" "elementData" "[Ljava/lang/Object;" (.ref dc)) (tF2 : Fld Z h0 tl "java/util/ArrayList" "size" "I" (.int (0 : Int32))) (ne_s0_a : s0 ≠ a) (ne_nl_a : nl ≠ a) (ne_nd_a : nd ≠ a) (ne_tl_a : tl ≠ a) :
    Own.Met l Z (⟨"com/example/bindgate/bindgate/idl/Declaration", "<init>", "(Lcom/example/bindgate/bindgate/idl/Declaration$Kind;Ljava/util/List;Ljava/util/List;)V"⟩ : MethodName) prog_5_method_1_code 4 none [] ({ frames := 8, cells := 2, slots := 3, locals := 101 } : Room) #[(.ref a), (.ref ki), (.ref nl), (.ref tl)] h0 (fun v h L => ∃ li : Addr, v = none ∧ Fr n0 L ∧ Keep h0 h [a] ∧ Fld Z h a "com/example/bindgate/bindgate/idl/Declaration" "names" "Ljava/util/List;" (.ref li) ∧ Exa Z h li "java/util/ImmutableCollections$List12" ∧ Fld Z h li "java/util/ImmutableCollections$List12" "e0" "Ljava/lang/Object;" (.ref s0)) := by
  refine Own.Met.of (plainFor_of_name (by first | (simp [plainName, overriddenIn]; done) | decide +kernel)) ?_
  intro p e s m below meth c T0 hx hby hml hown hnm hret hlk hZ X0 e0
  have hown : s.vm.findClass "com/example/bindgate/bindgate/idl/Declaration" = some m.cls := hown
  have hml : c.maxLocals = 4 := hml
  have hnm : meth.name = "<init>" := hnm
  have ef : entryFrame m #[(.ref a), (.ref ki), (.ref nl), (.ref tl)] 4 = mkF m 0 #[.val (.ref a), .val (.ref ki), .val (.ref nl), .val (.ref tl)] [] := by first | (simp [entryFrame, mkF, argsToLocals, Value.category]; done) | rfl
  rw [ef]
  have N0 := Fr.nil n0
  refine Own.aloadN 1 X0 hx (hb hby d15_0) rfl rfl rfl ?_
  refine Own.initObj 4 0 X0 hx hZ hown (w 95 rfl) (w 12 rfl) (w 13 rfl) e0 (by rw [hml]; rfl) (hb hby d15_1) rfl (by decide) (Nat.le_of_eq rfl) (by decide) ?_
  intro T1 X1 e1
  refine Own.aloadN 5 X1 hx (hb hby d15_4) rfl rfl rfl ?_
  refine Own.aloadN 6 X1 hx (hb hby d15_5) rfl rfl rfl ?_
  refine Own.putFld 9 X1 hx hZ hown (host := "") (Or.inl (w 96 rfl)) Via.refl e1 F0 E_a (Or.inr ⟨(w 97 rfl), rfl, hnm⟩) (w 90 rfl) (ty := (.object "com/example/bindgate/bindgate/idl/Declaration$Kind")) (by decide) rfl rfl (hb hby d15_6) rfl ?_
  intro T2 h2 X2 e2 W2
  have N2 := Fr.snoc X2 N0 g_a
  have Ef_4 := E_a.wr W2
  have Ff_5 := F0.same W2
  have Ff_6 := F1.other W2 (Or.inr (slot_ne (Or.inr (w 185 rfl)) (Or.inr (w 97 rfl)) (by decide) (t := (.object "java/util/List")) (t' := (.object "com/example/bindgate/bindgate/idl/Declaration$Kind")) (by decide) (by decide)))
  have Ff_7 := F2.other W2 (Or.inr (slot_ne (Or.inr (w 191 rfl)) (Or.inr (w 97 rfl)) (by decide) (t := (.object "java/util/List")) (t' := (.object "com/example/bindgate/bindgate/idl/Declaration$Kind")) (by decide) (by decide)))
  have Ef_8 := E_nl.wr W2
  have Ff_9 := nF0.other W2 (Or.inl ne_nl_a)
  have Ff_10 := nF1.other W2 (Or.inl ne_nl_a)
  have Ff_11 := nF2.other W2 (Or.inl ne_nl_a)
  have Vf_12 := V_nd.other W2 ne_nd_a
  have Ef_13 := E_nd.wr W2
  have Ef_14 := E_tl.wr W2
  have Ff_15 := tF0.other W2 (Or.inl ne_tl_a)
  have Ff_16 := tF1.other W2 (Or.inl ne_tl_a)
  have Ff_17 := tF2.other W2 (Or.inl ne_tl_a)
  have Ef_18 := E_s0.wr W2
  have O2 := X00.wr W2 g_a
  have zl2 := Nat.le_trans Z0 (Nat.le_of_eq W2.size.symm)
  have K2 := (Keep.refl h0 [a]).wr W2 (Or.inl (List.mem_of_getElem? (i := 0) rfl))
  refine Own.aloadN 10 X2 hx (hb hby d15_9) rfl rfl rfl ?_
  refine Own.aloadN 11 X2 hx (hb hby d15_10) rfl rfl rfl ?_
  refine Own.callSt 14 1 [(.ref nl)] [(.ref a)] X2 hx hZ hown (m16_1 l Z a0 w nl dc em el mr kd n0 _ nd _ s0 _ zl2 O2 SS Ef_8 Ff_9 Ff_10 Ff_11 g_nl Ef_18 Vf_12 Ov_nd Ef_13) (w 98 rfl) (w 99 rfl) (w 100 rfl) (w 101 rfl) (by decide) e2 (by decide) (by decide) (by decide) (by decide) (by rw [hml]; rfl) (lenOf pd_14 rfl) rfl (Nat.le_of_eq rfl) (hb hby d15_11) rfl ?_
  rintro vv T19 L19 X19 ⟨li, rfl, N19q, K19, sz_li, g_li, El19, Fl19⟩
  have ne_li_a : li ≠ a := Ne.symm (Nat.ne_of_lt (Nat.lt_of_lt_of_le Ef_4.lt sz_li))
  have N19 := Fr.app N2 N19q
  have O19 := O2.keep K19 all0
  have Ef_21 := Ef_4.keep K19
  have Ff_22 := Ff_5.keep K19 nin0
  have Ff_23 := Ff_6.keep K19 nin0
  have Ff_24 := Ff_7.keep K19 nin0
  have Ef_25 := Ef_8.keep K19
  have Ff_26 := Ff_9.keep K19 nin0
  have Ff_27 := Ff_10.keep K19 nin0
  have Ff_28 := Ff_11.keep K19 nin0
  have Vf_29 := Vf_12.keep K19 nin0
  have Ef_30 := Ef_13.keep K19
  have Ef_31 := Ef_14.keep K19
  have Ff_32 := Ff_15.keep K19 nin0
  have Ff_33 := Ff_16.keep K19 nin0
  have Ff_34 := Ff_17.keep K19 nin0
  have Ef_35 := Ef_18.keep K19
  have zl19 := Nat.le_trans zl2 K19.1
  have KK19 := K2.trans K19 all0
  have sz_li := Nat.le_trans K2.1 sz_li
  refine Own.putFld 17 X19 hx hZ hown (host := "") (Or.inl (w 184 rfl)) Via.refl rfl Ff_23 Ef_21 (Or.inr ⟨(w 185 rfl), rfl, hnm⟩) (w 90 rfl) (ty := (.object "java/util/List")) (by decide) rfl rfl (hb hby d15_14) rfl ?_
  intro T36 h36 X36 e36 W36
  have N36 := Fr.snoc X36 N19 g_a
  have Ef_38 := Ef_21.wr W36
  have Ff_39 := Ff_22.other W36 (Or.inr (slot_ne (Or.inr (w 97 rfl)) (Or.inr (w 185 rfl)) (by decide) (t := (.object "com/example/bindgate/bindgate/idl/Declaration$Kind")) (t' := (.object "java/util/List")) (by decide) (by decide)))
  have Ff_40 := Ff_23.same W36
  have Ff_41 := Ff_24.other W36 (Or.inr (slot_ne (Or.inr (w 191 rfl)) (Or.inr (w 185 rfl)) (by decide) (t := (.object "java/util/List")) (t' := (.object "java/util/List")) (by decide) (by decide)))
  have Ef_42 := Ef_25.wr W36
  have Ff_43 := Ff_26.other W36 (Or.inl ne_nl_a)
  have Ff_44 := Ff_27.other W36 (Or.inl ne_nl_a)
  have Ff_45 := Ff_28.other W36 (Or.inl ne_nl_a)
  have Vf_46 := Vf_29.other W36 ne_nd_a
  have Ef_47 := Ef_30.wr W36
  have Ef_48 := Ef_31.wr W36
  have Ff_49 := Ff_32.other W36 (Or.inl ne_tl_a)
  have Ff_50 := Ff_33.other W36 (Or.inl ne_tl_a)
  have Ff_51 := Ff_34.other W36 (Or.inl ne_tl_a)
  have Ef_52 := Ef_35.wr W36
  have Ef_53 := El19.wr W36
  have Ff_54 := Fl19.other W36 (Or.inl ne_li_a)
  have O36 := O19.wr W36 g_a
  have zl36 := Nat.le_trans zl19 (Nat.le_of_eq W36.size.symm)
  have K36 := KK19.wr W36 (Or.inl (List.mem_of_getElem? (i := 0) rfl))
  refine Own.aloadN 18 X36 hx (hb hby d15_17) rfl rfl rfl ?_
  refine Own.aloadN 19 X36 hx (hb hby d15_18) rfl rfl rfl ?_
  refine Own.callSt 22 1 [(.ref tl)] [(.ref a)] X36 hx hZ hown (m16_0 l Z a0 w tl dc em el mr kd n0 _  _ zl36 O36 SS Ef_48 Ff_49 Ff_50 Ff_51 g_tl ) (w 98 rfl) (w 99 rfl) (w 100 rfl) (w 101 rfl) (by decide) e36 (by decide) (by decide) (by decide) (by decide) (by rw [hml]; rfl) (lenOf pd_14 rfl) rfl (Nat.le_of_eq rfl) (hb hby d15_19) rfl ?_
  rintro vv T55 L55 X55 ⟨rfl, hh55, rfl⟩
  have N55 := Fr.app N36 (Fr.nil _)
  refine Own.putFld 25 X55 hx hZ hown (host := "") (Or.inl (w 190 rfl)) Via.refl hh55 Ff_41 Ef_38 (Or.inr ⟨(w 191 rfl), rfl, hnm⟩) (w 90 rfl) (ty := (.object "java/util/List")) (by decide) rfl rfl (hb hby d15_22) rfl ?_
  intro T56 h56 X56 e56 W56
  have N56 := Fr.snoc X56 N55 g_a
  have Ef_58 := Ef_38.wr W56
  have Ff_59 := Ff_39.other W56 (Or.inr (slot_ne (Or.inr (w 97 rfl)) (Or.inr (w 191 rfl)) (by decide) (t := (.object "com/example/bindgate/bindgate/idl/Declaration$Kind")) (t' := (.object "java/util/List")) (by decide) (by decide)))
  have Ff_60 := Ff_40.other W56 (Or.inr (slot_ne (Or.inr (w 185 rfl)) (Or.inr (w 191 rfl)) (by decide) (t := (.object "java/util/List")) (t' := (.object "java/util/List")) (by decide) (by decide)))
  have Ff_61 := Ff_41.same W56
  have Ef_62 := Ef_42.wr W56
  have Ff_63 := Ff_43.other W56 (Or.inl ne_nl_a)
  have Ff_64 := Ff_44.other W56 (Or.inl ne_nl_a)
  have Ff_65 := Ff_45.other W56 (Or.inl ne_nl_a)
  have Vf_66 := Vf_46.other W56 ne_nd_a
  have Ef_67 := Ef_47.wr W56
  have Ef_68 := Ef_48.wr W56
  have Ff_69 := Ff_49.other W56 (Or.inl ne_tl_a)
  have Ff_70 := Ff_50.other W56 (Or.inl ne_tl_a)
  have Ff_71 := Ff_51.other W56 (Or.inl ne_tl_a)
  have Ef_72 := Ef_52.wr W56
  have Ef_73 := Ef_53.wr W56
  have Ff_74 := Ff_54.other W56 (Or.inl ne_li_a)
  have O56 := O36.wr W56 g_a
  have zl56 := Nat.le_trans zl36 (Nat.le_of_eq W56.size.symm)
  have K56 := K36.wr W56 (Or.inl (List.mem_of_getElem? (i := 0) rfl))
  refine Own.retVoid X56 hx hlk hret (hb hby d15_25) (by decide) (by decide) ?_
  rw [e56]
  exact ⟨li, rfl, N56, K56, Ff_60, Ef_73, Ff_74⟩
set_option maxRecDepth 65536 in
set_option maxHeartbeats 40000000 in
theorem m15_1_1 (l : Launch) (Z : State) (a0 : Array Value) (w : ∀ (i : Nat) {d : Jvm.Cond}, tables_1[i]? = some d → d.before a0 Z = true) (a : Addr) (ki : Addr) (nl : Addr) (tl : Addr) (dc em el mr : Addr) (kd : ClassId) (n0 : Nat) (u0 u1 u2 : Value) (mn mt : Int32) (nd s0 s1 s2 : Addr) (nk : ClassId) (td : Addr) (tk : ClassId) (h0 : Heap) (Z0 : n0 ≤ h0.size) (X00 : Old Z n0 h0) (SS : own_SS Z dc em el mr kd)(E_a : Exa Z h0 a "com/example/bindgate/bindgate/idl/Declaration") (F0 : Fld Z h0 a "com/example/bindgate/bindgate/idl/Declaration" "kind" "Lcom/example/bindgate/bindgate/idl/Declaration$Kind;" u0) (F1 : Fld Z h0 a "com/example/bindgate/bindgate/idl/Declaration" "names" "Ljava/util/List;" u1) (F2 : Fld Z h0 a "com/example/bindgate/bindgate/idl/Declaration" "tokens" "Ljava/util/List;" u2) (g_a : n0 ≤ a) (E_s0 : Exa Z h0 s0 "java/lang/String") (E_s1 : Exa Z h0 s1 "java/lang/String") (E_s2 : Exa Z h0 s2 "java/lang/String") (E_nl : Exa Z h0 nl "java/util/ArrayList") (g_nl : n0 ≤ nl) (nF0 : Fld Z h0 nl "java/util/AbstractList" "modCount" "I" (.int mn)) (nF1 : Fld Z h0 nl "java/util/ArrayList" "elementData" "[Ljava/lang/Object;" (.ref nd)) (nF2 : Fld Z h0 nl "java/util/ArrayList" "size" "I" (.int (1 : Int32))) (V_nd : Arv Z h0 nd nk (.object "java/lang/Object") (10 : Int32) [(.ref s0), .null, .null, .null, .null, .null, .null, .null, .null, .null] .null) (Ov_nd : Ovr Z nk "java/lang/Object") (E_nd : Exa Z h0 nd "[Ljava/lang/Object;") (E_tl : Exa Z h0 tl "java/util/ArrayList") (g_tl : n0 ≤ tl) (tF0 : Fld Z h0 tl "java/util/AbstractList" "modCount" "I" (.int mt)) (tF1 : Fld Z h0 tl "java/util/ArrayList" "elementData" "[Ljava/lang/Object;" (.ref td)) (tF2 : Fld Z h0 tl "java/util/ArrayList" "size" "I" (.int (1 : Int32))) (V_td : Arv Z h0 td tk (.object "java/lang/Object") (10 : Int32) [(.ref s2), .null, .null, .null, .null, .null, .null, .null, .null, .null] .null) (Ov_td : Ovr Z tk "java/lang/Object") (E_td : Exa Z h0 td "[Ljava/lang/Object;") (ne_s0_a : s0 ≠ a) (ne_s1_a : s1 ≠ a) (ne_s2_a : s2 ≠ a) (ne_nl_a : nl ≠ a) (ne_nd_a : nd ≠ a) (ne_tl_a : tl ≠ a) (ne_td_a : td ≠ a) :
    Own.Met l Z (⟨"com/example/bindgate/bindgate/idl/Declaration", "<init>", "(Lcom/example/bindgate/bindgate/idl/Declaration$Kind;Ljava/util/List;Ljava/util/List;)V"⟩ : MethodName) prog_5_method_1_code 4 none [] ({ frames := 8, cells := 4, slots := 6, locals := 101 } : Room) #[(.ref a), (.ref ki), (.ref nl), (.ref tl)] h0 (fun v h L => ∃ li : Addr, v = none ∧ Fr n0 L ∧ Keep h0 h [a] ∧ Fld Z h a "com/example/bindgate/bindgate/idl/Declaration" "names" "Ljava/util/List;" (.ref li) ∧ Exa Z h li "java/util/ImmutableCollections$List12" ∧ Fld Z h li "java/util/ImmutableCollections$List12" "e0" "Ljava/lang/Object;" (.ref s0)) := by
  refine Own.Met.of (plainFor_of_name (by first | (simp [plainName, overriddenIn]; done) | decide +kernel)) ?_
  intro p e s m below meth c T0 hx hby hml hown hnm hret hlk hZ X0 e0
  have hown : s.vm.findClass "com/example/bindgate/bindgate/idl/Declaration" = some m.cls := hown
  have hml : c.maxLocals = 4 := hml
  have hnm : meth.name = "<init>" := hnm
  have ef : entryFrame m #[(.ref a), (.ref ki), (.ref nl), (.ref tl)] 4 = mkF m 0 #[.val (.ref a), .val (.ref ki), .val (.ref nl), .val (.ref tl)] [] := by first | (simp [entryFrame, mkF, argsToLocals, Value.category]; done) | rfl
  rw [ef]
  have N0 := Fr.nil n0
  refine Own.aloadN 1 X0 hx (hb hby d15_0) rfl rfl rfl ?_
  refine Own.initObj 4 0 X0 hx hZ hown (w 95 rfl) (w 12 rfl) (w 13 rfl) e0 (by rw [hml]; rfl) (hb hby d15_1) rfl (by decide) (Nat.le_of_eq rfl) (by decide) ?_
  intro T1 X1 e1
  refine Own.aloadN 5 X1 hx (hb hby d15_4) rfl rfl rfl ?_
  refine Own.aloadN 6 X1 hx (hb hby d15_5) rfl rfl rfl ?_
  refine Own.putFld 9 X1 hx hZ hown (host := "") (Or.inl (w 96 rfl)) Via.refl e1 F0 E_a (Or.inr ⟨(w 97 rfl), rfl, hnm⟩) (w 90 rfl) (ty := (.object "com/example/bindgate/bindgate/idl/Declaration$Kind")) (by decide) rfl rfl (hb hby d15_6) rfl ?_
  intro T2 h2 X2 e2 W2
  have N2 := Fr.snoc X2 N0 g_a
  have Ef_4 := E_a.wr W2
  have Ff_5 := F0.same W2
  have Ff_6 := F1.other W2 (Or.inr (slot_ne (Or.inr (w 185 rfl)) (Or.inr (w 97 rfl)) (by decide) (t := (.object "java/util/List")) (t' := (.object "com/example/bindgate/bindgate/idl/Declaration$Kind")) (by decide) (by decide)))
  have Ff_7 := F2.other W2 (Or.inr (slot_ne (Or.inr (w 191 rfl)) (Or.inr (w 97 rfl)) (by decide) (t := (.object "java/util/List")) (t' := (.object "com/example/bindgate/bindgate/idl/Declaration$Kind")) (by decide) (by decide)))
  have Ef_8 := E_nl.wr W2
  have Ff_9 := nF0.other W2 (Or.inl ne_nl_a)
  have Ff_10 := nF1.other W2 (Or.inl ne_nl_a)
  have Ff_11 := nF2.other W2 (Or.inl ne_nl_a)
  have Vf_12 := V_nd.other W2 ne_nd_a
  have Ef_13 := E_nd.wr W2
  have Ef_14 := E_tl.wr W2
  have Ff_15 := tF0.other W2 (Or.inl ne_tl_a)
  have Ff_16 := tF1.other W2 (Or.inl ne_tl_a)
  have Ff_17 := tF2.other W2 (Or.inl ne_tl_a)
  have Vf_18 := V_td.other W2 ne_td_a
  have Ef_19 := E_td.wr W2
  have Ef_20 := E_s0.wr W2
  have Ef_21 := E_s1.wr W2
  have Ef_22 := E_s2.wr W2
  have O2 := X00.wr W2 g_a
  have zl2 := Nat.le_trans Z0 (Nat.le_of_eq W2.size.symm)
  have K2 := (Keep.refl h0 [a]).wr W2 (Or.inl (List.mem_of_getElem? (i := 0) rfl))
  refine Own.aloadN 10 X2 hx (hb hby d15_9) rfl rfl rfl ?_
  refine Own.aloadN 11 X2 hx (hb hby d15_10) rfl rfl rfl ?_
  refine Own.callSt 14 1 [(.ref nl)] [(.ref a)] X2 hx hZ hown (m16_1 l Z a0 w nl dc em el mr kd n0 _ nd _ s0 _ zl2 O2 SS Ef_8 Ff_9 Ff_10 Ff_11 g_nl Ef_20 Vf_12 Ov_nd Ef_13) (w 98 rfl) (w 99 rfl) (w 100 rfl) (w 101 rfl) (by decide) e2 (by decide) (by decide) (by decide) (by decide) (by rw [hml]; rfl) (lenOf pd_14 rfl) rfl (Nat.le_of_eq rfl) (hb hby d15_11) rfl ?_
  rintro vv T23 L23 X23 ⟨li, rfl, N23q, K23, sz_li, g_li, El23, Fl23⟩
  have ne_li_a : li ≠ a := Ne.symm (Nat.ne_of_lt (Nat.lt_of_lt_of_le Ef_4.lt sz_li))
  have N23 := Fr.app N2 N23q
  have O23 := O2.keep K23 all0
  have Ef_25 := Ef_4.keep K23
  have Ff_26 := Ff_5.keep K23 nin0
  have Ff_27 := Ff_6.keep K23 nin0
  have Ff_28 := Ff_7.keep K23 nin0
  have Ef_29 := Ef_8.keep K23
  have Ff_30 := Ff_9.keep K23 nin0
  have Ff_31 := Ff_10.keep K23 nin0
  have Ff_32 := Ff_11.keep K23 nin0
  have Vf_33 := Vf_12.keep K23 nin0
  have Ef_34 := Ef_13.keep K23
  have Ef_35 := Ef_14.keep K23
  have Ff_36 := Ff_15.keep K23 nin0
  have Ff_37 := Ff_16.keep K23 nin0
  have Ff_38 := Ff_17.keep K23 nin0
  have Vf_39 := Vf_18.keep K23 nin0
  have Ef_40 := Ef_19.keep K23
  have Ef_41 := Ef_20.keep K23
  have Ef_42 := Ef_21.keep K23
  have Ef_43 := Ef_22.keep K23
  have zl23 := Nat.le_trans zl2 K23.1
  have KK23 := K2.trans K23 all0
  have sz_li := Nat.le_trans K2.1 sz_li
  refine Own.putFld 17 X23 hx hZ hown (host := "") (Or.inl (w 184 rfl)) Via.refl rfl Ff_27 Ef_25 (Or.inr ⟨(w 185 rfl), rfl, hnm⟩) (w 90 rfl) (ty := (.object "java/util/List")) (by decide) rfl rfl (hb hby d15_14) rfl ?_
  intro T44 h44 X44 e44 W44
  have N44 := Fr.snoc X44 N23 g_a
  have Ef_46 := Ef_25.wr W44
  have Ff_47 := Ff_26.other W44 (Or.inr (slot_ne (Or.inr (w 97 rfl)) (Or.inr (w 185 rfl)) (by decide) (t := (.object "com/example/bindgate/bindgate/idl/Declaration$Kind")) (t' := (.object "java/util/List")) (by decide) (by decide)))
  have Ff_48 := Ff_27.same W44
  have Ff_49 := Ff_28.other W44 (Or.inr (slot_ne (Or.inr (w 191 rfl)) (Or.inr (w 185 rfl)) (by decide) (t := (.object "java/util/List")) (t' := (.object "java/util/List")) (by decide) (by decide)))
  have Ef_50 := Ef_29.wr W44
  have Ff_51 := Ff_30.other W44 (Or.inl ne_nl_a)
  have Ff_52 := Ff_31.other W44 (Or.inl ne_nl_a)
  have Ff_53 := Ff_32.other W44 (Or.inl ne_nl_a)
  have Vf_54 := Vf_33.other W44 ne_nd_a
  have Ef_55 := Ef_34.wr W44
  have Ef_56 := Ef_35.wr W44
  have Ff_57 := Ff_36.other W44 (Or.inl ne_tl_a)
  have Ff_58 := Ff_37.other W44 (Or.inl ne_tl_a)
  have Ff_59 := Ff_38.other W44 (Or.inl ne_tl_a)
  have Vf_60 := Vf_39.other W44 ne_td_a
  have Ef_61 := Ef_40.wr W44
  have Ef_62 := Ef_41.wr W44
  have Ef_63 := Ef_42.wr W44
  have Ef_64 := Ef_43.wr W44
  have Ef_65 := El23.wr W44
  have Ff_66 := Fl23.other W44 (Or.inl ne_li_a)
  have O44 := O23.wr W44 g_a
  have zl44 := Nat.le_trans zl23 (Nat.le_of_eq W44.size.symm)
  have K44 := KK23.wr W44 (Or.inl (List.mem_of_getElem? (i := 0) rfl))
  refine Own.aloadN 18 X44 hx (hb hby d15_17) rfl rfl rfl ?_
  refine Own.aloadN 19 X44 hx (hb hby d15_18) rfl rfl rfl ?_
  refine Own.callSt 22 1 [(.ref tl)] [(.ref a)] X44 hx hZ hown (m16_1 l Z a0 w tl dc em el mr kd n0 _ td _ s2 _ zl44 O44 SS Ef_56 Ff_57 Ff_58 Ff_59 g_tl Ef_64 Vf_60 Ov_td Ef_61) (w 98 rfl) (w 99 rfl) (w 100 rfl) (w 101 rfl) (by decide) e44 (by decide) (by decide) (by decide) (by decide) (by rw [hml]; rfl) (lenOf pd_14 rfl) rfl (Nat.le_of_eq rfl) (hb hby d15_19) rfl ?_
  rintro vv T67 L67 X67 ⟨lt, rfl, N67q, K67, sz_lt, g_lt, El67, Fl67⟩
  have ne_lt_a : lt ≠ a := Ne.symm (Nat.ne_of_lt (Nat.lt_of_lt_of_le Ef_46.lt sz_lt))
  have N67 := Fr.app N44 N67q
  have O67 := O44.keep K67 all0
  have Ef_69 := Ef_46.keep K67
  have Ff_70 := Ff_47.keep K67 nin0
  have Ff_71 := Ff_48.keep K67 nin0
  have Ff_72 := Ff_49.keep K67 nin0
  have Ef_73 := Ef_50.keep K67
  have Ff_74 := Ff_51.keep K67 nin0
  have Ff_75 := Ff_52.keep K67 nin0
  have Ff_76 := Ff_53.keep K67 nin0
  have Vf_77 := Vf_54.keep K67 nin0
  have Ef_78 := Ef_55.keep K67
  have Ef_79 := Ef_56.keep K67
  have Ff_80 := Ff_57.keep K67 nin0
  have Ff_81 := Ff_58.keep K67 nin0
  have Ff_82 := Ff_59.keep K67 nin0
  have Vf_83 := Vf_60.keep K67 nin0
  have Ef_84 := Ef_61.keep K67
  have Ef_85 := Ef_62.keep K67
  have Ef_86 := Ef_63.keep K67
  have Ef_87 := Ef_64.keep K67
  have Ef_88 := Ef_65.keep K67
  have Ff_89 := Ff_66.keep K67 nin0
  have zl67 := Nat.le_trans zl44 K67.1
  have KK67 := K44.trans K67 all0
  refine Own.putFld 25 X67 hx hZ hown (host := "") (Or.inl (w 190 rfl)) Via.refl rfl Ff_72 Ef_69 (Or.inr ⟨(w 191 rfl), rfl, hnm⟩) (w 90 rfl) (ty := (.object "java/util/List")) (by decide) rfl rfl (hb hby d15_22) rfl ?_
  intro T90 h90 X90 e90 W90
  have N90 := Fr.snoc X90 N67 g_a
  have Ef_92 := Ef_69.wr W90
  have Ff_93 := Ff_70.other W90 (Or.inr (slot_ne (Or.inr (w 97 rfl)) (Or.inr (w 191 rfl)) (by decide) (t := (.object "com/example/bindgate/bindgate/idl/Declaration$Kind")) (t' := (.object "java/util/List")) (by decide) (by decide)))
  have Ff_94 := Ff_71.other W90 (Or.inr (slot_ne (Or.inr (w 185 rfl)) (Or.inr (w 191 rfl)) (by decide) (t := (.object "java/util/List")) (t' := (.object "java/util/List")) (by decide) (by decide)))
  have Ff_95 := Ff_72.same W90
  have Ef_96 := Ef_73.wr W90
  have Ff_97 := Ff_74.other W90 (Or.inl ne_nl_a)
  have Ff_98 := Ff_75.other W90 (Or.inl ne_nl_a)
  have Ff_99 := Ff_76.other W90 (Or.inl ne_nl_a)
  have Vf_100 := Vf_77.other W90 ne_nd_a
  have Ef_101 := Ef_78.wr W90
  have Ef_102 := Ef_79.wr W90
  have Ff_103 := Ff_80.other W90 (Or.inl ne_tl_a)
  have Ff_104 := Ff_81.other W90 (Or.inl ne_tl_a)
  have Ff_105 := Ff_82.other W90 (Or.inl ne_tl_a)
  have Vf_106 := Vf_83.other W90 ne_td_a
  have Ef_107 := Ef_84.wr W90
  have Ef_108 := Ef_85.wr W90
  have Ef_109 := Ef_86.wr W90
  have Ef_110 := Ef_87.wr W90
  have Ef_111 := Ef_88.wr W90
  have Ff_112 := Ff_89.other W90 (Or.inl ne_li_a)
  have Ef_113 := El67.wr W90
  have Ff_114 := Fl67.other W90 (Or.inl ne_lt_a)
  have O90 := O67.wr W90 g_a
  have zl90 := Nat.le_trans zl67 (Nat.le_of_eq W90.size.symm)
  have K90 := KK67.wr W90 (Or.inl (List.mem_of_getElem? (i := 0) rfl))
  refine Own.retVoid X90 hx hlk hret (hb hby d15_25) (by decide) (by decide) ?_
  rw [e90]
  exact ⟨li, rfl, N90, K90, Ff_94, Ef_111, Ff_112⟩
set_option maxRecDepth 65536 in
set_option maxHeartbeats 40000000 in
theorem m15_2_0 (l : Launch) (Z : State) (a0 : Array Value) (w : ∀ (i : Nat) {d : Jvm.Cond}, tables_1[i]? = some d → d.before a0 Z = true) (a : Addr) (ki : Addr) (nl : Addr) (tl : Addr) (dc em el mr : Addr) (kd : ClassId) (n0 : Nat) (u0 u1 u2 : Value) (mn mt : Int32) (nd s0 s1 : Addr) (nk : ClassId) (h0 : Heap) (Z0 : n0 ≤ h0.size) (X00 : Old Z n0 h0) (SS : own_SS Z dc em el mr kd)(E_a : Exa Z h0 a "com/example/bindgate/bindgate/idl/Declaration") (F0 : Fld Z h0 a "com/example/bindgate/bindgate/idl/Declaration" "kind" "Lcom/example/bindgate/bindgate/idl/Declaration$Kind;" u0) (F1 : Fld Z h0 a "com/example/bindgate/bindgate/idl/Declaration" "names" "Ljava/util/List;" u1) (F2 : Fld Z h0 a "com/example/bindgate/bindgate/idl/Declaration" "tokens" "Ljava/util/List;" u2) (g_a : n0 ≤ a) (E_s0 : Exa Z h0 s0 "java/lang/String") (E_s1 : Exa Z h0 s1 "java/lang/String") (E_nl : Exa Z h0 nl "java/util/ArrayList") (g_nl : n0 ≤ nl) (nF0 : Fld Z h0 nl "java/util/AbstractList" "modCount" "I" (.int mn)) (nF1 : Fld Z h0 nl "java/util/ArrayList" "elementData" "[Ljava/lang/Object;" (.ref nd)) (nF2 : Fld Z h0 nl "java/util/ArrayList" "size" "I" (.int (2 : Int32))) (V_nd : Arv Z h0 nd nk (.object "java/lang/Object") (10 : Int32) [(.ref s0), (.ref s1), .null, .null, .null, .null, .null, .null, .null, .null] .null) (Ov_nd : Ovr Z nk "java/lang/Object") (E_nd : Exa Z h0 nd "[Ljava/lang/Object;") (E_tl : Exa Z h0 tl "java/util/ArrayList") (g_tl : n0 ≤ tl) (tF0 : Fld Z h0 tl "java/util/AbstractList" "modCount" "I" (.int mt)) (tF1 : Fld Z h0 tl "java/util/ArrayList" "elementData" "[Ljava/lang/Object;" (.ref dc)) (tF2 : Fld Z h0 tl "java/util/ArrayList" "size" "I" (.int (0 : Int32))) (ne_s0_a : s0 ≠ a) (ne_s1_a : s1 ≠ a) (ne_nl_a : nl ≠ a) (ne_nd_a : nd ≠ a) (ne_tl_a : tl ≠ a) :
    Own.Met l Z (⟨"com/example/bindgate/bindgate/idl/Declaration", "<init>", "(Lcom/example/bindgate/bindgate/idl/Declaration$Kind;Ljava/util/List;Ljava/util/List;)V"⟩ : MethodName) prog_5_method_1_code 4 none [] ({ frames := 8, cells := 2, slots := 4, locals := 102 } : Room) #[(.ref a), (.ref ki), (.ref nl), (.ref tl)] h0 (fun v h L => ∃ li : Addr, v = none ∧ Fr n0 L ∧ Keep h0 h [a] ∧ Fld Z h a "com/example/bindgate/bindgate/idl/Declaration" "names" "Ljava/util/List;" (.ref li) ∧ Exa Z h li "java/util/ImmutableCollections$List12" ∧ Fld Z h li "java/util/ImmutableCollections$List12" "e0" "Ljava/lang/Object;" (.ref s0)) := by
  refine Own.Met.of (plainFor_of_name (by first | (simp [plainName, overriddenIn]; done) | decide +kernel)) ?_
  intro p e s m below meth c T0 hx hby hml hown hnm hret hlk hZ X0 e0
  have hown : s.vm.findClass "com/example/bindgate/bindgate/idl/Declaration" = some m.cls := hown
  have hml : c.maxLocals = 4 := hml
  have hnm : meth.name = "<init>" := hnm
  have ef : entryFrame m #[(.ref a), (.ref ki), (.ref nl), (.ref tl)] 4 = mkF m 0 #[.val (.ref a), .val (.ref ki), .val (.ref nl), .val (.ref tl)] [] := by first | (simp [entryFrame, mkF, argsToLocals, Value.category]; done) | rfl
  rw [ef]
  have N0 := Fr.nil n0
  refine Own.aloadN 1 X0 hx (hb hby d15_0) rfl rfl rfl ?_
  refine Own.initObj 4 0 X0 hx hZ hown (w 95 rfl) (w 12 rfl) (w 13 rfl) e0 (by rw [hml]; rfl) (hb hby d15_1) rfl (by decide) (Nat.le_of_eq rfl) (by decide) ?_
  intro T1 X1 e1
  refine Own.aloadN 5 X1 hx (hb hby d15_4) rfl rfl rfl ?_
  refine Own.aloadN 6 X1 hx (hb hby d15_5) rfl rfl rfl ?_
  refine Own.putFld 9 X1 hx hZ hown (host := "") (Or.inl (w 96 rfl)) Via.refl e1 F0 E_a (Or.inr ⟨(w 97 rfl), rfl, hnm⟩) (w 90 rfl) (ty := (.object "com/example/bindgate/bindgate/idl/Declaration$Kind")) (by decide) rfl rfl (hb hby d15_6) rfl ?_
  intro T2 h2 X2 e2 W2
  have N2 := Fr.snoc X2 N0 g_a
  have Ef_4 := E_a.wr W2
  have Ff_5 := F0.same W2
  have Ff_6 := F1.other W2 (Or.inr (slot_ne (Or.inr (w 185 rfl)) (Or.inr (w 97 rfl)) (by decide) (t := (.object "java/util/List")) (t' := (.object "com/example/bindgate/bindgate/idl/Declaration$Kind")) (by decide) (by decide)))
  have Ff_7 := F2.other W2 (Or.inr (slot_ne (Or.inr (w 191 rfl)) (Or.inr (w 97 rfl)) (by decide) (t := (.object "java/util/List")) (t' := (.object "com/example/bindgate/bindgate/idl/Declaration$Kind")) (by decide) (by decide)))
  have Ef_8 := E_nl.wr W2
  have Ff_9 := nF0.other W2 (Or.inl ne_nl_a)
  have Ff_10 := nF1.other W2 (Or.inl ne_nl_a)
  have Ff_11 := nF2.other W2 (Or.inl ne_nl_a)
  have Vf_12 := V_nd.other W2 ne_nd_a
  have Ef_13 := E_nd.wr W2
  have Ef_14 := E_tl.wr W2
  have Ff_15 := tF0.other W2 (Or.inl ne_tl_a)
  have Ff_16 := tF1.other W2 (Or.inl ne_tl_a)
  have Ff_17 := tF2.other W2 (Or.inl ne_tl_a)
  have Ef_18 := E_s0.wr W2
  have Ef_19 := E_s1.wr W2
  have O2 := X00.wr W2 g_a
  have zl2 := Nat.le_trans Z0 (Nat.le_of_eq W2.size.symm)
  have K2 := (Keep.refl h0 [a]).wr W2 (Or.inl (List.mem_of_getElem? (i := 0) rfl))
  refine Own.aloadN 10 X2 hx (hb hby d15_9) rfl rfl rfl ?_
  refine Own.aloadN 11 X2 hx (hb hby d15_10) rfl rfl rfl ?_
  refine Own.callSt 14 1 [(.ref nl)] [(.ref a)] X2 hx hZ hown (m16_2 l Z a0 w nl dc em el mr kd n0 _ nd _ s0 s1 _ zl2 O2 SS Ef_8 Ff_9 Ff_10 Ff_11 g_nl Ef_18 Ef_19 Vf_12 Ov_nd Ef_13) (w 98 rfl) (w 99 rfl) (w 100 rfl) (w 101 rfl) (by decide) e2 (by decide) (by decide) (by decide) (by decide) (by rw [hml]; rfl) (lenOf pd_14 rfl) rfl (Nat.le_of_eq rfl) (hb hby d15_11) rfl ?_
  rintro vv T20 L20 X20 ⟨li, rfl, N20q, K20, sz_li, g_li, El20, Fl20⟩
  have ne_li_a : li ≠ a := Ne.symm (Nat.ne_of_lt (Nat.lt_of_lt_of_le Ef_4.lt sz_li))
  have N20 := Fr.app N2 N20q
  have O20 := O2.keep K20 all0
  have Ef_22 := Ef_4.keep K20
  have Ff_23 := Ff_5.keep K20 nin0
  have Ff_24 := Ff_6.keep K20 nin0
  have Ff_25 := Ff_7.keep K20 nin0
  have Ef_26 := Ef_8.keep K20
  have Ff_27 := Ff_9.keep K20 nin0
  have Ff_28 := Ff_10.keep K20 nin0
  have Ff_29 := Ff_11.keep K20 nin0
  have Vf_30 := Vf_12.keep K20 nin0
  have Ef_31 := Ef_13.keep K20
  have Ef_32 := Ef_14.keep K20
  have Ff_33 := Ff_15.keep K20 nin0
  have Ff_34 := Ff_16.keep K20 nin0
  have Ff_35 := Ff_17.keep K20 nin0
  have Ef_36 := Ef_18.keep K20
  have Ef_37 := Ef_19.keep K20
  have zl20 := Nat.le_trans zl2 K20.1
  have KK20 := K2.trans K20 all0
  have sz_li := Nat.le_trans K2.1 sz_li
  refine Own.putFld 17 X20 hx hZ hown (host := "") (Or.inl (w 184 rfl)) Via.refl rfl Ff_24 Ef_22 (Or.inr ⟨(w 185 rfl), rfl, hnm⟩) (w 90 rfl) (ty := (.object "java/util/List")) (by decide) rfl rfl (hb hby d15_14) rfl ?_
  intro T38 h38 X38 e38 W38
  have N38 := Fr.snoc X38 N20 g_a
  have Ef_40 := Ef_22.wr W38
  have Ff_41 := Ff_23.other W38 (Or.inr (slot_ne (Or.inr (w 97 rfl)) (Or.inr (w 185 rfl)) (by decide) (t := (.object "com/example/bindgate/bindgate/idl/Declaration$Kind")) (t' := (.object "java/util/List")) (by decide) (by decide)))
  have Ff_42 := Ff_24.same W38
  have Ff_43 := Ff_25.other W38 (Or.inr (slot_ne (Or.inr (w 191 rfl)) (Or.inr (w 185 rfl)) (by decide) (t := (.object "java/util/List")) (t' := (.object "java/util/List")) (by decide) (by decide)))
  have Ef_44 := Ef_26.wr W38
  have Ff_45 := Ff_27.other W38 (Or.inl ne_nl_a)
  have Ff_46 := Ff_28.other W38 (Or.inl ne_nl_a)
  have Ff_47 := Ff_29.other W38 (Or.inl ne_nl_a)
  have Vf_48 := Vf_30.other W38 ne_nd_a
  have Ef_49 := Ef_31.wr W38
  have Ef_50 := Ef_32.wr W38
  have Ff_51 := Ff_33.other W38 (Or.inl ne_tl_a)
  have Ff_52 := Ff_34.other W38 (Or.inl ne_tl_a)
  have Ff_53 := Ff_35.other W38 (Or.inl ne_tl_a)
  have Ef_54 := Ef_36.wr W38
  have Ef_55 := Ef_37.wr W38
  have Ef_56 := El20.wr W38
  have Ff_57 := Fl20.other W38 (Or.inl ne_li_a)
  have O38 := O20.wr W38 g_a
  have zl38 := Nat.le_trans zl20 (Nat.le_of_eq W38.size.symm)
  have K38 := KK20.wr W38 (Or.inl (List.mem_of_getElem? (i := 0) rfl))
  refine Own.aloadN 18 X38 hx (hb hby d15_17) rfl rfl rfl ?_
  refine Own.aloadN 19 X38 hx (hb hby d15_18) rfl rfl rfl ?_
  refine Own.callSt 22 1 [(.ref tl)] [(.ref a)] X38 hx hZ hown (m16_0 l Z a0 w tl dc em el mr kd n0 _  _ zl38 O38 SS Ef_50 Ff_51 Ff_52 Ff_53 g_tl ) (w 98 rfl) (w 99 rfl) (w 100 rfl) (w 101 rfl) (by decide) e38 (by decide) (by decide) (by decide) (by decide) (by rw [hml]; rfl) (lenOf pd_14 rfl) rfl (Nat.le_of_eq rfl) (hb hby d15_19) rfl ?_
  rintro vv T58 L58 X58 ⟨rfl, hh58, rfl⟩
  have N58 := Fr.app N38 (Fr.nil _)
  refine Own.putFld 25 X58 hx hZ hown (host := "") (Or.inl (w 190 rfl)) Via.refl hh58 Ff_43 Ef_40 (Or.inr ⟨(w 191 rfl), rfl, hnm⟩) (w 90 rfl) (ty := (.object "java/util/List")) (by decide) rfl rfl (hb hby d15_22) rfl ?_
  intro T59 h59 X59 e59 W59
  have N59 := Fr.snoc X59 N58 g_a
  have Ef_61 := Ef_40.wr W59
  have Ff_62 := Ff_41.other W59 (Or.inr (slot_ne (Or.inr (w 97 rfl)) (Or.inr (w 191 rfl)) (by decide) (t := (.object "com/example/bindgate/bindgate/idl/Declaration$Kind")) (t' := (.object "java/util/List")) (by decide) (by decide)))
  have Ff_63 := Ff_42.other W59 (Or.inr (slot_ne (Or.inr (w 185 rfl)) (Or.inr (w 191 rfl)) (by decide) (t := (.object "java/util/List")) (t' := (.object "java/util/List")) (by decide) (by decide)))
  have Ff_64 := Ff_43.same W59
  have Ef_65 := Ef_44.wr W59
  have Ff_66 := Ff_45.other W59 (Or.inl ne_nl_a)
  have Ff_67 := Ff_46.other W59 (Or.inl ne_nl_a)
  have Ff_68 := Ff_47.other W59 (Or.inl ne_nl_a)
  have Vf_69 := Vf_48.other W59 ne_nd_a
  have Ef_70 := Ef_49.wr W59
  have Ef_71 := Ef_50.wr W59
  have Ff_72 := Ff_51.other W59 (Or.inl ne_tl_a)
  have Ff_73 := Ff_52.other W59 (Or.inl ne_tl_a)
  have Ff_74 := Ff_53.other W59 (Or.inl ne_tl_a)
  have Ef_75 := Ef_54.wr W59
  have Ef_76 := Ef_55.wr W59
  have Ef_77 := Ef_56.wr W59
  have Ff_78 := Ff_57.other W59 (Or.inl ne_li_a)
  have O59 := O38.wr W59 g_a
  have zl59 := Nat.le_trans zl38 (Nat.le_of_eq W59.size.symm)
  have K59 := K38.wr W59 (Or.inl (List.mem_of_getElem? (i := 0) rfl))
  refine Own.retVoid X59 hx hlk hret (hb hby d15_25) (by decide) (by decide) ?_
  rw [e59]
  exact ⟨li, rfl, N59, K59, Ff_63, Ef_77, Ff_78⟩
set_option maxRecDepth 65536 in
set_option maxHeartbeats 40000000 in
theorem m15_2_1 (l : Launch) (Z : State) (a0 : Array Value) (w : ∀ (i : Nat) {d : Jvm.Cond}, tables_1[i]? = some d → d.before a0 Z = true) (a : Addr) (ki : Addr) (nl : Addr) (tl : Addr) (dc em el mr : Addr) (kd : ClassId) (n0 : Nat) (u0 u1 u2 : Value) (mn mt : Int32) (nd s0 s1 s2 : Addr) (nk : ClassId) (td : Addr) (tk : ClassId) (h0 : Heap) (Z0 : n0 ≤ h0.size) (X00 : Old Z n0 h0) (SS : own_SS Z dc em el mr kd)(E_a : Exa Z h0 a "com/example/bindgate/bindgate/idl/Declaration") (F0 : Fld Z h0 a "com/example/bindgate/bindgate/idl/Declaration" "kind" "Lcom/example/bindgate/bindgate/idl/Declaration$Kind;" u0) (F1 : Fld Z h0 a "com/example/bindgate/bindgate/idl/Declaration" "names" "Ljava/util/List;" u1) (F2 : Fld Z h0 a "com/example/bindgate/bindgate/idl/Declaration" "tokens" "Ljava/util/List;" u2) (g_a : n0 ≤ a) (E_s0 : Exa Z h0 s0 "java/lang/String") (E_s1 : Exa Z h0 s1 "java/lang/String") (E_s2 : Exa Z h0 s2 "java/lang/String") (E_nl : Exa Z h0 nl "java/util/ArrayList") (g_nl : n0 ≤ nl) (nF0 : Fld Z h0 nl "java/util/AbstractList" "modCount" "I" (.int mn)) (nF1 : Fld Z h0 nl "java/util/ArrayList" "elementData" "[Ljava/lang/Object;" (.ref nd)) (nF2 : Fld Z h0 nl "java/util/ArrayList" "size" "I" (.int (2 : Int32))) (V_nd : Arv Z h0 nd nk (.object "java/lang/Object") (10 : Int32) [(.ref s0), (.ref s1), .null, .null, .null, .null, .null, .null, .null, .null] .null) (Ov_nd : Ovr Z nk "java/lang/Object") (E_nd : Exa Z h0 nd "[Ljava/lang/Object;") (E_tl : Exa Z h0 tl "java/util/ArrayList") (g_tl : n0 ≤ tl) (tF0 : Fld Z h0 tl "java/util/AbstractList" "modCount" "I" (.int mt)) (tF1 : Fld Z h0 tl "java/util/ArrayList" "elementData" "[Ljava/lang/Object;" (.ref td)) (tF2 : Fld Z h0 tl "java/util/ArrayList" "size" "I" (.int (1 : Int32))) (V_td : Arv Z h0 td tk (.object "java/lang/Object") (10 : Int32) [(.ref s2), .null, .null, .null, .null, .null, .null, .null, .null, .null] .null) (Ov_td : Ovr Z tk "java/lang/Object") (E_td : Exa Z h0 td "[Ljava/lang/Object;") (ne_s0_a : s0 ≠ a) (ne_s1_a : s1 ≠ a) (ne_s2_a : s2 ≠ a) (ne_nl_a : nl ≠ a) (ne_nd_a : nd ≠ a) (ne_tl_a : tl ≠ a) (ne_td_a : td ≠ a) :
    Own.Met l Z (⟨"com/example/bindgate/bindgate/idl/Declaration", "<init>", "(Lcom/example/bindgate/bindgate/idl/Declaration$Kind;Ljava/util/List;Ljava/util/List;)V"⟩ : MethodName) prog_5_method_1_code 4 none [] ({ frames := 8, cells := 4, slots := 7, locals := 102 } : Room) #[(.ref a), (.ref ki), (.ref nl), (.ref tl)] h0 (fun v h L => ∃ li : Addr, v = none ∧ Fr n0 L ∧ Keep h0 h [a] ∧ Fld Z h a "com/example/bindgate/bindgate/idl/Declaration" "names" "Ljava/util/List;" (.ref li) ∧ Exa Z h li "java/util/ImmutableCollections$List12" ∧ Fld Z h li "java/util/ImmutableCollections$List12" "e0" "Ljava/lang/Object;" (.ref s0)) := by
  refine Own.Met.of (plainFor_of_name (by first | (simp [plainName, overriddenIn]; done) | decide +kernel)) ?_
  intro p e s m below meth c T0 hx hby hml hown hnm hret hlk hZ X0 e0
  have hown : s.vm.findClass "com/example/bindgate/bindgate/idl/Declaration" = some m.cls := hown
  have hml : c.maxLocals = 4 := hml
  have hnm : meth.name = "<init>" := hnm
  have ef : entryFrame m #[(.ref a), (.ref ki), (.ref nl), (.ref tl)] 4 = mkF m 0 #[.val (.ref a), .val (.ref ki), .val (.ref nl), .val (.ref tl)] [] := by first | (simp [entryFrame, mkF, argsToLocals, Value.category]; done) | rfl
  rw [ef]
  have N0 := Fr.nil n0
  refine Own.aloadN 1 X0 hx (hb hby d15_0) rfl rfl rfl ?_
  refine Own.initObj 4 0 X0 hx hZ hown (w 95 rfl) (w 12 rfl) (w 13 rfl) e0 (by rw [hml]; rfl) (hb hby d15_1) rfl (by decide) (Nat.le_of_eq rfl) (by decide) ?_
  intro T1 X1 e1
  refine Own.aloadN 5 X1 hx (hb hby d15_4) rfl rfl rfl ?_
  refine Own.aloadN 6 X1 hx (hb hby d15_5) rfl rfl rfl ?_
  refine Own.putFld 9 X1 hx hZ hown (host := "") (Or.inl (w 96 rfl)) Via.refl e1 F0 E_a (Or.inr ⟨(w 97 rfl), rfl, hnm⟩) (w 90 rfl) (ty := (.object "com/example/bindgate/bindgate/idl/Declaration$Kind")) (by decide) rfl rfl (hb hby d15_6) rfl ?_
  intro T2 h2 X2 e2 W2
  have N2 := Fr.snoc X2 N0 g_a
  have Ef_4 := E_a.wr W2
  have Ff_5 := F0.same W2
  have Ff_6 := F1.other W2 (Or.inr (slot_ne (Or.inr (w 185 rfl)) (Or.inr (w 97 rfl)) (by decide) (t := (.object "java/util/List")) (t' := (.object "com/example/bindgate/bindgate/idl/Declaration$Kind")) (by decide) (by decide)))
  have Ff_7 := F2.other W2 (Or.inr (slot_ne (Or.inr (w 191 rfl)) (Or.inr (w 97 rfl)) (by decide) (t := (.object "java/util/List")) (t' := (.object "com/example/bindgate/bindgate/idl/Declaration$Kind")) (by decide) (by decide)))
  have Ef_8 := E_nl.wr W2
  have Ff_9 := nF0.other W2 (Or.inl ne_nl_a)
  have Ff_10 := nF1.other W2 (Or.inl ne_nl_a)
  have Ff_11 := nF2.other W2 (Or.inl ne_nl_a)
  have Vf_12 := V_nd.other W2 ne_nd_a
  have Ef_13 := E_nd.wr W2
  have Ef_14 := E_tl.wr W2
  have Ff_15 := tF0.other W2 (Or.inl ne_tl_a)
  have Ff_16 := tF1.other W2 (Or.inl ne_tl_a)
  have Ff_17 := tF2.other W2 (Or.inl ne_tl_a)
  have Vf_18 := V_td.other W2 ne_td_a
  have Ef_19 := E_td.wr W2
  have Ef_20 := E_s0.wr W2
  have Ef_21 := E_s1.wr W2
  have Ef_22 := E_s2.wr W2
  have O2 := X00.wr W2 g_a
  have zl2 := Nat.le_trans Z0 (Nat.le_of_eq W2.size.symm)
  have K2 := (Keep.refl h0 [a]).wr W2 (Or.inl (List.mem_of_getElem? (i := 0) rfl))
  refine Own.aloadN 10 X2 hx (hb hby d15_9) rfl rfl rfl ?_
  refine Own.aloadN 11 X2 hx (hb hby d15_10) rfl rfl rfl ?_
  refine Own.callSt 14 1 [(.ref nl)] [(.ref a)] X2 hx hZ hown (m16_2 l Z a0 w nl dc em el mr kd n0 _ nd _ s0 s1 _ zl2 O2 SS Ef_8 Ff_9 Ff_10 Ff_11 g_nl Ef_20 Ef_21 Vf_12 Ov_nd Ef_13) (w 98 rfl) (w 99 rfl) (w 100 rfl) (w 101 rfl) (by decide) e2 (by decide) (by decide) (by decide) (by decide) (by rw [hml]; rfl) (lenOf pd_14 rfl) rfl (Nat.le_of_eq rfl) (hb hby d15_11) rfl ?_
  rintro vv T23 L23 X23 ⟨li, rfl, N23q, K23, sz_li, g_li, El23, Fl23⟩
  have ne_li_a : li ≠ a := Ne.symm (Nat.ne_of_lt (Nat.lt_of_lt_of_le Ef_4.lt sz_li))
  have N23 := Fr.app N2 N23q
  have O23 := O2.keep K23 all0
  have Ef_25 := Ef_4.keep K23
  have Ff_26 := Ff_5.keep K23 nin0
  have Ff_27 := Ff_6.keep K23 nin0
  have Ff_28 := Ff_7.keep K23 nin0
  have Ef_29 := Ef_8.keep K23
  have Ff_30 := Ff_9.keep K23 nin0
  have Ff_31 := Ff_10.keep K23 nin0
  have Ff_32 := Ff_11.keep K23 nin0
  have Vf_33 := Vf_12.keep K23 nin0
  have Ef_34 := Ef_13.keep K23
  have Ef_35 := Ef_14.keep K23
  have Ff_36 := Ff_15.keep K23 nin0
  have Ff_37 := Ff_16.keep K23 nin0
  have Ff_38 := Ff_17.keep K23 nin0
  have Vf_39 := Vf_18.keep K23 nin0
  have Ef_40 := Ef_19.keep K23
  have Ef_41 := Ef_20.keep K23
  have Ef_42 := Ef_21.keep K23
  have Ef_43 := Ef_22.keep K23
  have zl23 := Nat.le_trans zl2 K23.1
  have KK23 := K2.trans K23 all0
  have sz_li := Nat.le_trans K2.1 sz_li
  refine Own.putFld 17 X23 hx hZ hown (host := "") (Or.inl (w 184 rfl)) Via.refl rfl Ff_27 Ef_25 (Or.inr ⟨(w 185 rfl), rfl, hnm⟩) (w 90 rfl) (ty := (.object "java/util/List")) (by decide) rfl rfl (hb hby d15_14) rfl ?_
  intro T44 h44 X44 e44 W44
  have N44 := Fr.snoc X44 N23 g_a
  have Ef_46 := Ef_25.wr W44
  have Ff_47 := Ff_26.other W44 (Or.inr (slot_ne (Or.inr (w 97 rfl)) (Or.inr (w 185 rfl)) (by decide) (t := (.object "com/example/bindgate/bindgate/idl/Declaration$Kind")) (t' := (.object "java/util/List")) (by decide) (by decide)))
  have Ff_48 := Ff_27.same W44
  have Ff_49 := Ff_28.other W44 (Or.inr (slot_ne (Or.inr (w 191 rfl)) (Or.inr (w 185 rfl)) (by decide) (t := (.object "java/util/List")) (t' := (.object "java/util/List")) (by decide) (by decide)))
  have Ef_50 := Ef_29.wr W44
  have Ff_51 := Ff_30.other W44 (Or.inl ne_nl_a)
  have Ff_52 := Ff_31.other W44 (Or.inl ne_nl_a)
  have Ff_53 := Ff_32.other W44 (Or.inl ne_nl_a)
  have Vf_54 := Vf_33.other W44 ne_nd_a
  have Ef_55 := Ef_34.wr W44
  have Ef_56 := Ef_35.wr W44
  have Ff_57 := Ff_36.other W44 (Or.inl ne_tl_a)
  have Ff_58 := Ff_37.other W44 (Or.inl ne_tl_a)
  have Ff_59 := Ff_38.other W44 (Or.inl ne_tl_a)
  have Vf_60 := Vf_39.other W44 ne_td_a
  have Ef_61 := Ef_40.wr W44
  have Ef_62 := Ef_41.wr W44
  have Ef_63 := Ef_42.wr W44
  have Ef_64 := Ef_43.wr W44
  have Ef_65 := El23.wr W44
  have Ff_66 := Fl23.other W44 (Or.inl ne_li_a)
  have O44 := O23.wr W44 g_a
  have zl44 := Nat.le_trans zl23 (Nat.le_of_eq W44.size.symm)
  have K44 := KK23.wr W44 (Or.inl (List.mem_of_getElem? (i := 0) rfl))
  refine Own.aloadN 18 X44 hx (hb hby d15_17) rfl rfl rfl ?_
  refine Own.aloadN 19 X44 hx (hb hby d15_18) rfl rfl rfl ?_
  refine Own.callSt 22 1 [(.ref tl)] [(.ref a)] X44 hx hZ hown (m16_1 l Z a0 w tl dc em el mr kd n0 _ td _ s2 _ zl44 O44 SS Ef_56 Ff_57 Ff_58 Ff_59 g_tl Ef_64 Vf_60 Ov_td Ef_61) (w 98 rfl) (w 99 rfl) (w 100 rfl) (w 101 rfl) (by decide) e44 (by decide) (by decide) (by decide) (by decide) (by rw [hml]; rfl) (lenOf pd_14 rfl) rfl (Nat.le_of_eq rfl) (hb hby d15_19) rfl ?_
  rintro vv T67 L67 X67 ⟨lt, rfl, N67q, K67, sz_lt, g_lt, El67, Fl67⟩
  have ne_lt_a : lt ≠ a := Ne.symm (Nat.ne_of_lt (Nat.lt_of_lt_of_le Ef_46.lt sz_lt))
  have N67 := Fr.app N44 N67q
  have O67 := O44.keep K67 all0
  have Ef_69 := Ef_46.keep K67
  have Ff_70 := Ff_47.keep K67 nin0
  have Ff_71 := Ff_48.keep K67 nin0
  have Ff_72 := Ff_49.keep K67 nin0
  have Ef_73 := Ef_50.keep K67
  have Ff_74 := Ff_51.keep K67 nin0
  have Ff_75 := Ff_52.keep K67 nin0
  have Ff_76 := Ff_53.keep K67 nin0
  have Vf_77 := Vf_54.keep K67 nin0
  have Ef_78 := Ef_55.keep K67
  have Ef_79 := Ef_56.keep K67
  have Ff_80 := Ff_57.keep K67 nin0
  have Ff_81 := Ff_58.keep K67 nin0
  have Ff_82 := Ff_59.keep K67 nin0
  have Vf_83 := Vf_60.keep K67 nin0
  have Ef_84 := Ef_61.keep K67
  have Ef_85 := Ef_62.keep K67
  have Ef_86 := Ef_63.keep K67
  have Ef_87 := Ef_64.keep K67
  have Ef_88 := Ef_65.keep K67
  have Ff_89 := Ff_66.keep K67 nin0
  have zl67 := Nat.le_trans zl44 K67.1
  have KK67 := K44.trans K67 all0
  refine Own.putFld 25 X67 hx hZ hown (host := "") (Or.inl (w 190 rfl)) Via.refl rfl Ff_72 Ef_69 (Or.inr ⟨(w 191 rfl), rfl, hnm⟩) (w 90 rfl) (ty := (.object "java/util/List")) (by decide) rfl rfl (hb hby d15_22) rfl ?_
  intro T90 h90 X90 e90 W90
  have N90 := Fr.snoc X90 N67 g_a
  have Ef_92 := Ef_69.wr W90
  have Ff_93 := Ff_70.other W90 (Or.inr (slot_ne (Or.inr (w 97 rfl)) (Or.inr (w 191 rfl)) (by decide) (t := (.object "com/example/bindgate/bindgate/idl/Declaration$Kind")) (t' := (.object "java/util/List")) (by decide) (by decide)))
  have Ff_94 := Ff_71.other W90 (Or.inr (slot_ne (Or.inr (w 185 rfl)) (Or.inr (w 191 rfl)) (by decide) (t := (.object "java/util/List")) (t' := (.object "java/util/List")) (by decide) (by decide)))
  have Ff_95 := Ff_72.same W90
  have Ef_96 := Ef_73.wr W90
  have Ff_97 := Ff_74.other W90 (Or.inl ne_nl_a)
  have Ff_98 := Ff_75.other W90 (Or.inl ne_nl_a)
  have Ff_99 := Ff_76.other W90 (Or.inl ne_nl_a)
  have Vf_100 := Vf_77.other W90 ne_nd_a
  have Ef_101 := Ef_78.wr W90
  have Ef_102 := Ef_79.wr W90
  have Ff_103 := Ff_80.other W90 (Or.inl ne_tl_a)
  have Ff_104 := Ff_81.other W90 (Or.inl ne_tl_a)
  have Ff_105 := Ff_82.other W90 (Or.inl ne_tl_a)
  have Vf_106 := Vf_83.other W90 ne_td_a
  have Ef_107 := Ef_84.wr W90
  have Ef_108 := Ef_85.wr W90
  have Ef_109 := Ef_86.wr W90
  have Ef_110 := Ef_87.wr W90
  have Ef_111 := Ef_88.wr W90
  have Ff_112 := Ff_89.other W90 (Or.inl ne_li_a)
  have Ef_113 := El67.wr W90
  have Ff_114 := Fl67.other W90 (Or.inl ne_lt_a)
  have O90 := O67.wr W90 g_a
  have zl90 := Nat.le_trans zl67 (Nat.le_of_eq W90.size.symm)
  have K90 := KK67.wr W90 (Or.inl (List.mem_of_getElem? (i := 0) rfl))
  refine Own.retVoid X90 hx hlk hret (hb hby d15_25) (by decide) (by decide) ?_
  rw [e90]
  exact ⟨li, rfl, N90, K90, Ff_94, Ef_111, Ff_112⟩
set_option maxRecDepth 65536 in
set_option maxHeartbeats 40000000 in
theorem m15_3_0 (l : Launch) (Z : State) (a0 : Array Value) (w : ∀ (i : Nat) {d : Jvm.Cond}, tables_1[i]? = some d → d.before a0 Z = true) (a : Addr) (ki : Addr) (nl : Addr) (tl : Addr) (dc em el mr : Addr) (kd : ClassId) (n0 : Nat) (u0 u1 u2 : Value) (mn mt : Int32) (nd s0 s1 s2 : Addr) (nk : ClassId) (h0 : Heap) (Z0 : n0 ≤ h0.size) (X00 : Old Z n0 h0) (SS : own_SS Z dc em el mr kd)(E_a : Exa Z h0 a "com/example/bindgate/bindgate/idl/Declaration") (F0 : Fld Z h0 a "com/example/bindgate/bindgate/idl/Declaration" "kind" "Lcom/example/bindgate/bindgate/idl/Declaration$Kind;" u0) (F1 : Fld Z h0 a "com/example/bindgate/bindgate/idl/Declaration" "names" "Ljava/util/List;" u1) (F2 : Fld Z h0 a "com/example/bindgate/bindgate/idl/Declaration" "tokens" "Ljava/util/List;" u2) (g_a : n0 ≤ a) (E_s0 : Exa Z h0 s0 "java/lang/String") (E_s1 : Exa Z h0 s1 "java/lang/String") (E_s2 : Exa Z h0 s2 "java/lang/String") (E_nl : Exa Z h0 nl "java/util/ArrayList") (g_nl : n0 ≤ nl) (nF0 : Fld Z h0 nl "java/util/AbstractList" "modCount" "I" (.int mn)) (nF1 : Fld Z h0 nl "java/util/ArrayList" "elementData" "[Ljava/lang/Object;" (.ref nd)) (nF2 : Fld Z h0 nl "java/util/ArrayList" "size" "I" (.int (3 : Int32))) (V_nd : Arv Z h0 nd nk (.object "java/lang/Object") (10 : Int32) [(.ref s0), (.ref s1), (.ref s2), .null, .null, .null, .null, .null, .null, .null] .null) (Ov_nd : Ovr Z nk "java/lang/Object") (E_nd : Exa Z h0 nd "[Ljava/lang/Object;") (E_tl : Exa Z h0 tl "java/util/ArrayList") (g_tl : n0 ≤ tl) (tF0 : Fld Z h0 tl "java/util/AbstractList" "modCount" "I" (.int mt)) (tF1 : Fld Z h0 tl "java/util/ArrayList" "elementData" "[Ljava/lang/Object;" (.ref dc)) (tF2 : Fld Z h0 tl "java/util/ArrayList" "size" "I" (.int (0 : Int32))) (ne_s0_a : s0 ≠ a) (ne_s1_a : s1 ≠ a) (ne_s2_a : s2 ≠ a) (ne_nl_a : nl ≠ a) (ne_nd_a : nd ≠ a) (ne_tl_a : tl ≠ a) :
    Own.Met l Z (⟨"com/example/bindgate/bindgate/idl/Declaration", "<init>", "(Lcom/example/bindgate/bindgate/idl/Declaration$Kind;Ljava/util/List;Ljava/util/List;)V"⟩ : MethodName) prog_5_method_1_code 4 none [] ({ frames := 9, cells := 3, slots := 8, locals := 116 } : Room) #[(.ref a), (.ref ki), (.ref nl), (.ref tl)] h0 (fun v h L => ∃ (li ar : Addr) (ka : ClassId), v = none ∧ Fr n0 L ∧ Keep h0 h [a] ∧ Fld Z h a "com/example/bindgate/bindgate/idl/Declaration" "names" "Ljava/util/List;" (.ref li) ∧ Exa Z h li "java/util/ImmutableCollections$ListN" ∧ Fld Z h li "java/util/ImmutableCollections$ListN" "elements" "[Ljava/lang/Object;" (.ref ar) ∧ Arv Z h ar ka (.object "java/lang/Object") (3 : Int32) [(.ref s0), (.ref s1), (.ref s2)] .null) := by
  refine Own.Met.of (plainFor_of_name (by first | (simp [plainName, overriddenIn]; done) | decide +kernel)) ?_
  intro p e s m below meth c T0 hx hby hml hown hnm hret hlk hZ X0 e0
  have hown : s.vm.findClass "com/example/bindgate/bindgate/idl/Declaration" = some m.cls := hown
  have hml : c.maxLocals = 4 := hml
  have hnm : meth.name = "<init>" := hnm
  have ef : entryFrame m #[(.ref a), (.ref ki), (.ref nl), (.ref tl)] 4 = mkF m 0 #[.val (.ref a), .val (.ref ki), .val (.ref nl), .val (.ref tl)] [] := by first | (simp [entryFrame, mkF, argsToLocals, Value.category]; done) | rfl
  rw [ef]
  have N0 := Fr.nil n0
  refine Own.aloadN 1 X0 hx (hb hby d15_0) rfl rfl rfl ?_
  refine Own.initObj 4 0 X0 hx hZ hown (w 95 rfl) (w 12 rfl) (w 13 rfl) e0 (by rw [hml]; rfl) (hb hby d15_1) rfl (by decide) (Nat.le_of_eq rfl) (by decide) ?_
  intro T1 X1 e1
  refine Own.aloadN 5 X1 hx (hb hby d15_4) rfl rfl rfl ?_
  refine Own.aloadN 6 X1 hx (hb hby d15_5) rfl rfl rfl ?_
  refine Own.putFld 9 X1 hx hZ hown (host := "") (Or.inl (w 96 rfl)) Via.refl e1 F0 E_a (Or.inr ⟨(w 97 rfl), rfl, hnm⟩) (w 90 rfl) (ty := (.object "com/example/bindgate/bindgate/idl/Declaration$Kind")) (by decide) rfl rfl (hb hby d15_6) rfl ?_
  intro T2 h2 X2 e2 W2
  have N2 := Fr.snoc X2 N0 g_a
  have Ef_4 := E_a.wr W2
  have Ff_5 := F0.same W2
  have Ff_6 := F1.other W2 (Or.inr (slot_ne (Or.inr (w 185 rfl)) (Or.inr (w 97 rfl)) (by decide) (t := (.object "java/util/List")) (t' := (.object "com/example/bindgate/bindgate/idl/Declaration$Kind")) (by decide) (by decide)))
  have Ff_7 := F2.other W2 (Or.inr (slot_ne (Or.inr (w 191 rfl)) (Or.inr (w 97 rfl)) (by decide) (t := (.object "java/util/List")) (t' := (.object "com/example/bindgate/bindgate/idl/Declaration$Kind")) (by decide) (by decide)))
  have Ef_8 := E_nl.wr W2
  have Ff_9 := nF0.other W2 (Or.inl ne_nl_a)
  have Ff_10 := nF1.other W2 (Or.inl ne_nl_a)
  have Ff_11 := nF2.other W2 (Or.inl ne_nl_a)
  have Vf_12 := V_nd.other W2 ne_nd_a
  have Ef_13 := E_nd.wr W2
  have Ef_14 := E_tl.wr W2
  have Ff_15 := tF0.other W2 (Or.inl ne_tl_a)
  have Ff_16 := tF1.other W2 (Or.inl ne_tl_a)
  have Ff_17 := tF2.other W2 (Or.inl ne_tl_a)
  have Ef_18 := E_s0.wr W2
  have Ef_19 := E_s1.wr W2
  have Ef_20 := E_s2.wr W2
  have O2 := X00.wr W2 g_a
  have zl2 := Nat.le_trans Z0 (Nat.le_of_eq W2.size.symm)
  have K2 := (Keep.refl h0 [a]).wr W2 (Or.inl (List.mem_of_getElem? (i := 0) rfl))
  refine Own.aloadN 10 X2 hx (hb hby d15_9) rfl rfl rfl ?_
  refine Own.aloadN 11 X2 hx (hb hby d15_10) rfl rfl rfl ?_
  refine Own.callSt 14 1 [(.ref nl)] [(.ref a)] X2 hx hZ hown (m16_3 l Z a0 w nl dc em el mr kd n0 _ nd _ s0 s1 s2 _ zl2 O2 SS Ef_8 Ff_9 Ff_10 Ff_11 g_nl Ef_18 Ef_19 Ef_20 Vf_12 Ov_nd Ef_13) (w 98 rfl) (w 99 rfl) (w 100 rfl) (w 101 rfl) (by decide) e2 (by decide) (by decide) (by decide) (by decide) (by rw [hml]; rfl) (lenOf pd_14 rfl) rfl (Nat.le_of_eq rfl) (hb hby d15_11) rfl ?_
  rintro vv T21 L21 X21 ⟨li, ar, ka21, rfl, N21q, K21, sz_li, g_li, El21, Fl21, sz_ar, Va21⟩
  have ne_li_a : li ≠ a := Ne.symm (Nat.ne_of_lt (Nat.lt_of_lt_of_le Ef_4.lt sz_li))
  have ne_ar_a : ar ≠ a := Ne.symm (Nat.ne_of_lt (Nat.lt_of_lt_of_le Ef_4.lt sz_ar))
  have N21 := Fr.app N2 N21q
  have O21 := O2.keep K21 all0
  have Ef_23 := Ef_4.keep K21
  have Ff_24 := Ff_5.keep K21 nin0
  have Ff_25 := Ff_6.keep K21 nin0
  have Ff_26 := Ff_7.keep K21 nin0
  have Ef_27 := Ef_8.keep K21
  have Ff_28 := Ff_9.keep K21 nin0
  have Ff_29 := Ff_10.keep K21 nin0
  have Ff_30 := Ff_11.keep K21 nin0
  have Vf_31 := Vf_12.keep K21 nin0
  have Ef_32 := Ef_13.keep K21
  have Ef_33 := Ef_14.keep K21
  have Ff_34 := Ff_15.keep K21 nin0
  have Ff_35 := Ff_16.keep K21 nin0
  have Ff_36 := Ff_17.keep K21 nin0
  have Ef_37 := Ef_18.keep K21
  have Ef_38 := Ef_19.keep K21
  have Ef_39 := Ef_20.keep K21
  have zl21 := Nat.le_trans zl2 K21.1
  have KK21 := K2.trans K21 all0
  have sz_li := Nat.le_trans K2.1 sz_li
  have sz_ar := Nat.le_trans K2.1 sz_ar
  refine Own.putFld 17 X21 hx hZ hown (host := "") (Or.inl (w 184 rfl)) Via.refl rfl Ff_25 Ef_23 (Or.inr ⟨(w 185 rfl), rfl, hnm⟩) (w 90 rfl) (ty := (.object "java/util/List")) (by decide) rfl rfl (hb hby d15_14) rfl ?_
  intro T40 h40 X40 e40 W40
  have N40 := Fr.snoc X40 N21 g_a
  have Ef_42 := Ef_23.wr W40
  have Ff_43 := Ff_24.other W40 (Or.inr (slot_ne (Or.inr (w 97 rfl)) (Or.inr (w 185 rfl)) (by decide) (t := (.object "com/example/bindgate/bindgate/idl/Declaration$Kind")) (t' := (.object "java/util/List")) (by decide) (by decide)))
  have Ff_44 := Ff_25.same W40
  have Ff_45 := Ff_26.other W40 (Or.inr (slot_ne (Or.inr (w 191 rfl)) (Or.inr (w 185 rfl)) (by decide) (t := (.object "java/util/List")) (t' := (.object "java/util/List")) (by decide) (by decide)))
  have Ef_46 := Ef_27.wr W40
  have Ff_47 := Ff_28.other W40 (Or.inl ne_nl_a)
  have Ff_48 := Ff_29.other W40 (Or.inl ne_nl_a)
  have Ff_49 := Ff_30.other W40 (Or.inl ne_nl_a)
  have Vf_50 := Vf_31.other W40 ne_nd_a
  have Ef_51 := Ef_32.wr W40
  have Ef_52 := Ef_33.wr W40
  have Ff_53 := Ff_34.other W40 (Or.inl ne_tl_a)
  have Ff_54 := Ff_35.other W40 (Or.inl ne_tl_a)
  have Ff_55 := Ff_36.other W40 (Or.inl ne_tl_a)
  have Ef_56 := Ef_37.wr W40
  have Ef_57 := Ef_38.wr W40
  have Ef_58 := Ef_39.wr W40
  have Ef_59 := El21.wr W40
  have Ff_60 := Fl21.other W40 (Or.inl ne_li_a)
  have Vf_61 := Va21.other W40 ne_ar_a
  have O40 := O21.wr W40 g_a
  have zl40 := Nat.le_trans zl21 (Nat.le_of_eq W40.size.symm)
  have K40 := KK21.wr W40 (Or.inl (List.mem_of_getElem? (i := 0) rfl))
  refine Own.aloadN 18 X40 hx (hb hby d15_17) rfl rfl rfl ?_
  refine Own.aloadN 19 X40 hx (hb hby d15_18) rfl rfl rfl ?_
  refine Own.callSt 22 1 [(.ref tl)] [(.ref a)] X40 hx hZ hown (m16_0 l Z a0 w tl dc em el mr kd n0 _  _ zl40 O40 SS Ef_52 Ff_53 Ff_54 Ff_55 g_tl ) (w 98 rfl) (w 99 rfl) (w 100 rfl) (w 101 rfl) (by decide) e40 (by decide) (by decide) (by decide) (by decide) (by rw [hml]; rfl) (lenOf pd_14 rfl) rfl (Nat.le_of_eq rfl) (hb hby d15_19) rfl ?_
  rintro vv T62 L62 X62 ⟨rfl, hh62, rfl⟩
  have N62 := Fr.app N40 (Fr.nil _)
  refine Own.putFld 25 X62 hx hZ hown (host := "") (Or.inl (w 190 rfl)) Via.refl hh62 Ff_45 Ef_42 (Or.inr ⟨(w 191 rfl), rfl, hnm⟩) (w 90 rfl) (ty := (.object "java/util/List")) (by decide) rfl rfl (hb hby d15_22) rfl ?_
  intro T63 h63 X63 e63 W63
  have N63 := Fr.snoc X63 N62 g_a
  have Ef_65 := Ef_42.wr W63
  have Ff_66 := Ff_43.other W63 (Or.inr (slot_ne (Or.inr (w 97 rfl)) (Or.inr (w 191 rfl)) (by decide) (t := (.object "com/example/bindgate/bindgate/idl/Declaration$Kind")) (t' := (.object "java/util/List")) (by decide) (by decide)))
  have Ff_67 := Ff_44.other W63 (Or.inr (slot_ne (Or.inr (w 185 rfl)) (Or.inr (w 191 rfl)) (by decide) (t := (.object "java/util/List")) (t' := (.object "java/util/List")) (by decide) (by decide)))
  have Ff_68 := Ff_45.same W63
  have Ef_69 := Ef_46.wr W63
  have Ff_70 := Ff_47.other W63 (Or.inl ne_nl_a)
  have Ff_71 := Ff_48.other W63 (Or.inl ne_nl_a)
  have Ff_72 := Ff_49.other W63 (Or.inl ne_nl_a)
  have Vf_73 := Vf_50.other W63 ne_nd_a
  have Ef_74 := Ef_51.wr W63
  have Ef_75 := Ef_52.wr W63
  have Ff_76 := Ff_53.other W63 (Or.inl ne_tl_a)
  have Ff_77 := Ff_54.other W63 (Or.inl ne_tl_a)
  have Ff_78 := Ff_55.other W63 (Or.inl ne_tl_a)
  have Ef_79 := Ef_56.wr W63
  have Ef_80 := Ef_57.wr W63
  have Ef_81 := Ef_58.wr W63
  have Ef_82 := Ef_59.wr W63
  have Ff_83 := Ff_60.other W63 (Or.inl ne_li_a)
  have Vf_84 := Vf_61.other W63 ne_ar_a
  have O63 := O40.wr W63 g_a
  have zl63 := Nat.le_trans zl40 (Nat.le_of_eq W63.size.symm)
  have K63 := K40.wr W63 (Or.inl (List.mem_of_getElem? (i := 0) rfl))
  refine Own.retVoid X63 hx hlk hret (hb hby d15_25) (by decide) (by decide) ?_
  rw [e63]
  exact ⟨li, ar, ka21, rfl, N63, K63, Ff_67, Ef_82, Ff_83, Vf_84⟩
set_option maxRecDepth 65536 in
set_option maxHeartbeats 40000000 in
theorem m15_3_1 (l : Launch) (Z : State) (a0 : Array Value) (w : ∀ (i : Nat) {d : Jvm.Cond}, tables_1[i]? = some d → d.before a0 Z = true) (a : Addr) (ki : Addr) (nl : Addr) (tl : Addr) (dc em el mr : Addr) (kd : ClassId) (n0 : Nat) (u0 u1 u2 : Value) (mn mt : Int32) (nd s0 s1 s2 : Addr) (nk : ClassId) (td : Addr) (tk : ClassId) (h0 : Heap) (Z0 : n0 ≤ h0.size) (X00 : Old Z n0 h0) (SS : own_SS Z dc em el mr kd)(E_a : Exa Z h0 a "com/example/bindgate/bindgate/idl/Declaration") (F0 : Fld Z h0 a "com/example/bindgate/bindgate/idl/Declaration" "kind" "Lcom/example/bindgate/bindgate/idl/Declaration$Kind;" u0) (F1 : Fld Z h0 a "com/example/bindgate/bindgate/idl/Declaration" "names" "Ljava/util/List;" u1) (F2 : Fld Z h0 a "com/example/bindgate/bindgate/idl/Declaration" "tokens" "Ljava/util/List;" u2) (g_a : n0 ≤ a) (E_s0 : Exa Z h0 s0 "java/lang/String") (E_s1 : Exa Z h0 s1 "java/lang/String") (E_s2 : Exa Z h0 s2 "java/lang/String") (E_nl : Exa Z h0 nl "java/util/ArrayList") (g_nl : n0 ≤ nl) (nF0 : Fld Z h0 nl "java/util/AbstractList" "modCount" "I" (.int mn)) (nF1 : Fld Z h0 nl "java/util/ArrayList" "elementData" "[Ljava/lang/Object;" (.ref nd)) (nF2 : Fld Z h0 nl "java/util/ArrayList" "size" "I" (.int (3 : Int32))) (V_nd : Arv Z h0 nd nk (.object "java/lang/Object") (10 : Int32) [(.ref s0), (.ref s1), (.ref s2), .null, .null, .null, .null, .null, .null, .null] .null) (Ov_nd : Ovr Z nk "java/lang/Object") (E_nd : Exa Z h0 nd "[Ljava/lang/Object;") (E_tl : Exa Z h0 tl "java/util/ArrayList") (g_tl : n0 ≤ tl) (tF0 : Fld Z h0 tl "java/util/AbstractList" "modCount" "I" (.int mt)) (tF1 : Fld Z h0 tl "java/util/ArrayList" "elementData" "[Ljava/lang/Object;" (.ref td)) (tF2 : Fld Z h0 tl "java/util/ArrayList" "size" "I" (.int (1 : Int32))) (V_td : Arv Z h0 td tk (.object "java/lang/Object") (10 : Int32) [(.ref s2), .null, .null, .null, .null, .null, .null, .null, .null, .null] .null) (Ov_td : Ovr Z tk "java/lang/Object") (E_td : Exa Z h0 td "[Ljava/lang/Object;") (ne_s0_a : s0 ≠ a) (ne_s1_a : s1 ≠ a) (ne_s2_a : s2 ≠ a) (ne_nl_a : nl ≠ a) (ne_nd_a : nd ≠ a) (ne_tl_a : tl ≠ a) (ne_td_a : td ≠ a) :
    Own.Met l Z (⟨"com/example/bindgate/bindgate/idl/Declaration", "<init>", "(Lcom/example/bindgate/bindgate/idl/Declaration$Kind;Ljava/util/List;Ljava/util/List;)V"⟩ : MethodName) prog_5_method_1_code 4 none [] ({ frames := 9, cells := 5, slots := 11, locals := 116 } : Room) #[(.ref a), (.ref ki), (.ref nl), (.ref tl)] h0 (fun v h L => ∃ (li ar : Addr) (ka : ClassId), v = none ∧ Fr n0 L ∧ Keep h0 h [a] ∧ Fld Z h a "com/example/bindgate/bindgate/idl/Declaration" "names" "Ljava/util/List;" (.ref li) ∧ Exa Z h li "java/util/ImmutableCollections$ListN" ∧ Fld Z h li "java/util/ImmutableCollections$ListN" "elements" "[Ljava/lang/Object;" (.ref ar) ∧ Arv Z h ar ka (.object "java/lang/Object") (3 : Int32) [(.ref s0), (.ref s1), (.ref s2)] .null) := by
  refine Own.Met.of (plainFor_of_name (by first | (simp [plainName, overriddenIn]; done) | decide +kernel)) ?_
  intro p e s m below meth c T0 hx hby hml hown hnm hret hlk hZ X0 e0
  have hown : s.vm.findClass "com/example/bindgate/bindgate/idl/Declaration" = some m.cls := hown
  have hml : c.maxLocals = 4 := hml
  have hnm : meth.name = "<init>" := hnm
  have ef : entryFrame m #[(.ref a), (.ref ki), (.ref nl), (.ref tl)] 4 = mkF m 0 #[.val (.ref a), .val (.ref ki), .val (.ref nl), .val (.ref tl)] [] := by first | (simp [entryFrame, mkF, argsToLocals, Value.category]; done) | rfl
  rw [ef]
  have N0 := Fr.nil n0
  refine Own.aloadN 1 X0 hx (hb hby d15_0) rfl rfl rfl ?_
  refine Own.initObj 4 0 X0 hx hZ hown (w 95 rfl) (w 12 rfl) (w 13 rfl) e0 (by rw [hml]; rfl) (hb hby d15_1) rfl (by decide) (Nat.le_of_eq rfl) (by decide) ?_
  intro T1 X1 e1
  refine Own.aloadN 5 X1 hx (hb hby d15_4) rfl rfl rfl ?_
  refine Own.aloadN 6 X1 hx (hb hby d15_5) rfl rfl rfl ?_
  refine Own.putFld 9 X1 hx hZ hown (host := "") (Or.inl (w 96 rfl)) Via.refl e1 F0 E_a (Or.inr ⟨(w 97 rfl), rfl, hnm⟩) (w 90 rfl) (ty := (.object "com/example/bindgate/bindgate/idl/Declaration$Kind")) (by decide) rfl rfl (hb hby d15_6) rfl ?_
  intro T2 h2 X2 e2 W2
  have N2 := Fr.snoc X2 N0 g_a
  have Ef_4 := E_a.wr W2
  have Ff_5 := F0.same W2
  have Ff_6 := F1.other W2 (Or.inr (slot_ne (Or.inr (w 185 rfl)) (Or.inr (w 97 rfl)) (by decide) (t := (.object "java/util/List")) (t' := (.object "com/example/bindgate/bindgate/idl/Declaration$Kind")) (by decide) (by decide)))
  have Ff_7 := F2.other W2 (Or.inr (slot_ne (Or.inr (w 191 rfl)) (Or.inr (w 97 rfl)) (by decide) (t := (.object "java/util/List")) (t' := (.object "com/example/bindgate/bindgate/idl/Declaration$Kind")) (by decide) (by decide)))
  have Ef_8 := E_nl.wr W2
  have Ff_9 := nF0.other W2 (Or.inl ne_nl_a)
  have Ff_10 := nF1.other W2 (Or.inl ne_nl_a)
  have Ff_11 := nF2.other W2 (Or.inl ne_nl_a)
  have Vf_12 := V_nd.other W2 ne_nd_a
  have Ef_13 := E_nd.wr W2
  have Ef_14 := E_tl.wr W2
  have Ff_15 := tF0.other W2 (Or.inl ne_tl_a)
  have Ff_16 := tF1.other W2 (Or.inl ne_tl_a)
  have Ff_17 := tF2.other W2 (Or.inl ne_tl_a)
  have Vf_18 := V_td.other W2 ne_td_a
  have Ef_19 := E_td.wr W2
  have Ef_20 := E_s0.wr W2
  have Ef_21 := E_s1.wr W2
  have Ef_22 := E_s2.wr W2
  have O2 := X00.wr W2 g_a
  have zl2 := Nat.le_trans Z0 (Nat.le_of_eq W2.size.symm)
  have K2 := (Keep.refl h0 [a]).wr W2 (Or.inl (List.mem_of_getElem? (i := 0) rfl))
  refine Own.aloadN 10 X2 hx (hb hby d15_9) rfl rfl rfl ?_
  refine Own.aloadN 11 X2 hx (hb hby d15_10) rfl rfl rfl ?_
  refine Own.callSt 14 1 [(.ref nl)] [(.ref a)] X2 hx hZ hown (m16_3 l Z a0 w nl dc em el mr kd n0 _ nd _ s0 s1 s2 _ zl2 O2 SS Ef_8 Ff_9 Ff_10 Ff_11 g_nl Ef_20 Ef_21 Ef_22 Vf_12 Ov_nd Ef_13) (w 98 rfl) (w 99 rfl) (w 100 rfl) (w 101 rfl) (by decide) e2 (by decide) (by decide) (by decide) (by decide) (by rw [hml]; rfl) (lenOf pd_14 rfl) rfl (Nat.le_of_eq rfl) (hb hby d15_11) rfl ?_
  rintro vv T23 L23 X23 ⟨li, ar, ka23, rfl, N23q, K23, sz_li, g_li, El23, Fl23, sz_ar, Va23⟩
  have ne_li_a : li ≠ a := Ne.symm (Nat.ne_of_lt (Nat.lt_of_lt_of_le Ef_4.lt sz_li))
  have ne_ar_a : ar ≠ a := Ne.symm (Nat.ne_of_lt (Nat.lt_of_lt_of_le Ef_4.lt sz_ar))
  have N23 := Fr.app N2 N23q
  have O23 := O2.keep K23 all0
  have Ef_25 := Ef_4.keep K23
  have Ff_26 := Ff_5.keep K23 nin0
  have Ff_27 := Ff_6.keep K23 nin0
  have Ff_28 := Ff_7.keep K23 nin0
  have Ef_29 := Ef_8.keep K23
  have Ff_30 := Ff_9.keep K23 nin0
  have Ff_31 := Ff_10.keep K23 nin0
  have Ff_32 := Ff_11.keep K23 nin0
  have Vf_33 := Vf_12.keep K23 nin0
  have Ef_34 := Ef_13.keep K23
  have Ef_35 := Ef_14.keep K23
  have Ff_36 := Ff_15.keep K23 nin0
  have Ff_37 := Ff_16.keep K23 nin0
  have Ff_38 := Ff_17.keep K23 nin0
  have Vf_39 := Vf_18.keep K23 nin0
  have Ef_40 := Ef_19.keep K23
  have Ef_41 := Ef_20.keep K23
  have Ef_42 := Ef_21.keep K23
  have Ef_43 := Ef_22.keep K23
  have zl23 := Nat.le_trans zl2 K23.1
  have KK23 := K2.trans K23 all0
  have sz_li := Nat.le_trans K2.1 sz_li
  have sz_ar := Nat.le_trans K2.1 sz_ar
  refine Own.putFld 17 X23 hx hZ hown (host := "") (Or.inl (w 184 rfl)) Via.refl rfl Ff_27 Ef_25 (Or.inr ⟨(w 185 rfl), rfl, hnm⟩) (w 90 rfl) (ty := (.object "java/util/List")) (by decide) rfl rfl (hb hby d15_14) rfl ?_
  intro T44 h44 X44 e44 W44
  have N44 := Fr.snoc X44 N23 g_a
  have Ef_46 := Ef_25.wr W44
  have Ff_47 := Ff_26.other W44 (Or.inr (slot_ne (Or.inr (w 97 rfl)) (Or.inr (w 185 rfl)) (by decide) (t := (.object "com/example/bindgate/bindgate/idl/Declaration$Kind")) (t' := (.object "java/util/List")) (by decide) (by decide)))
  have Ff_48 := Ff_27.same W44
  have Ff_49 := Ff_28.other W44 (Or.inr (slot_ne (Or.inr (w 191 rfl)) (Or.inr (w 185 rfl)) (by decide) (t := (.object "java/util/List")) (t' := (.object "java/util/List")) (by decide) (by decide)))
  have Ef_50 := Ef_29.wr W44
  have Ff_51 := Ff_30.other W44 (Or.inl ne_nl_a)
  have Ff_52 := Ff_31.other W44 (Or.inl ne_nl_a)
  have Ff_53 := Ff_32.other W44 (Or.inl ne_nl_a)
  have Vf_54 := Vf_33.other W44 ne_nd_a
  have Ef_55 := Ef_34.wr W44
  have Ef_56 := Ef_35.wr W44
  have Ff_57 := Ff_36.other W44 (Or.inl ne_tl_a)
  have Ff_58 := Ff_37.other W44 (Or.inl ne_tl_a)
  have Ff_59 := Ff_38.other W44 (Or.inl ne_tl_a)
  have Vf_60 := Vf_39.other W44 ne_td_a
  have Ef_61 := Ef_40.wr W44
  have Ef_62 := Ef_41.wr W44
  have Ef_63 := Ef_42.wr W44
  have Ef_64 := Ef_43.wr W44
  have Ef_65 := El23.wr W44
  have Ff_66 := Fl23.other W44 (Or.inl ne_li_a)
  have Vf_67 := Va23.other W44 ne_ar_a
  have O44 := O23.wr W44 g_a
  have zl44 := Nat.le_trans zl23 (Nat.le_of_eq W44.size.symm)
  have K44 := KK23.wr W44 (Or.inl (List.mem_of_getElem? (i := 0) rfl))
  refine Own.aloadN 18 X44 hx (hb hby d15_17) rfl rfl rfl ?_
  refine Own.aloadN 19 X44 hx (hb hby d15_18) rfl rfl rfl ?_
  refine Own.callSt 22 1 [(.ref tl)] [(.ref a)] X44 hx hZ hown (m16_1 l Z a0 w tl dc em el mr kd n0 _ td _ s2 _ zl44 O44 SS Ef_56 Ff_57 Ff_58 Ff_59 g_tl Ef_64 Vf_60 Ov_td Ef_61) (w 98 rfl) (w 99 rfl) (w 100 rfl) (w 101 rfl) (by decide) e44 (by decide) (by decide) (by decide) (by decide) (by rw [hml]; rfl) (lenOf pd_14 rfl) rfl (Nat.le_of_eq rfl) (hb hby d15_19) rfl ?_
  rintro vv T68 L68 X68 ⟨lt, rfl, N68q, K68, sz_lt, g_lt, El68, Fl68⟩
  have ne_lt_a : lt ≠ a := Ne.symm (Nat.ne_of_lt (Nat.lt_of_lt_of_le Ef_46.lt sz_lt))
  have N68 := Fr.app N44 N68q
  have O68 := O44.keep K68 all0
  have Ef_70 := Ef_46.keep K68
  have Ff_71 := Ff_47.keep K68 nin0
  have Ff_72 := Ff_48.keep K68 nin0
  have Ff_73 := Ff_49.keep K68 nin0
  have Ef_74 := Ef_50.keep K68
  have Ff_75 := Ff_51.keep K68 nin0
  have Ff_76 := Ff_52.keep K68 nin0
  have Ff_77 := Ff_53.keep K68 nin0
  have Vf_78 := Vf_54.keep K68 nin0
  have Ef_79 := Ef_55.keep K68
  have Ef_80 := Ef_56.keep K68
  have Ff_81 := Ff_57.keep K68 nin0
  have Ff_82 := Ff_58.keep K68 nin0
  have Ff_83 := Ff_59.keep K68 nin0
  have Vf_84 := Vf_60.keep K68 nin0
  have Ef_85 := Ef_61.keep K68
  have Ef_86 := Ef_62.keep K68
  have Ef_87 := Ef_63.keep K68
  have Ef_88 := Ef_64.keep K68
  have Ef_89 := Ef_65.keep K68
  have Ff_90 := Ff_66.keep K68 nin0
  have Vf_91 := Vf_67.keep K68 nin0
  have zl68 := Nat.le_trans zl44 K68.1
  have KK68 := K44.trans K68 all0
  refine Own.putFld 25 X68 hx hZ hown (host := "") (Or.inl (w 190 rfl)) Via.refl rfl Ff_73 Ef_70 (Or.inr ⟨(w 191 rfl), rfl, hnm⟩) (w 90 rfl) (ty := (.object "java/util/List")) (by decide) rfl rfl (hb hby d15_22) rfl ?_
  intro T92 h92 X92 e92 W92
  have N92 := Fr.snoc X92 N68 g_a
  have Ef_94 := Ef_70.wr W92
  have Ff_95 := Ff_71.other W92 (Or.inr (slot_ne (Or.inr (w 97 rfl)) (Or.inr (w 191 rfl)) (by decide) (t := (.object "com/example/bindgate/bindgate/idl/Declaration$Kind")) (t' := (.object "java/util/List")) (by decide) (by decide)))
  have Ff_96 := Ff_72.other W92 (Or.inr (slot_ne (Or.inr (w 185 rfl)) (Or.inr (w 191 rfl)) (by decide) (t := (.object "java/util/List")) (t' := (.object "java/util/List")) (by decide) (by decide)))
  have Ff_97 := Ff_73.same W92
  have Ef_98 := Ef_74.wr W92
  have Ff_99 := Ff_75.other W92 (Or.inl ne_nl_a)
  have Ff_100 := Ff_76.other W92 (Or.inl ne_nl_a)
  have Ff_101 := Ff_77.other W92 (Or.inl ne_nl_a)
  have Vf_102 := Vf_78.other W92 ne_nd_a
  have Ef_103 := Ef_79.wr W92
  have Ef_104 := Ef_80.wr W92
  have Ff_105 := Ff_81.other W92 (Or.inl ne_tl_a)
  have Ff_106 := Ff_82.other W92 (Or.inl ne_tl_a)
  have Ff_107 := Ff_83.other W92 (Or.inl ne_tl_a)
  have Vf_108 := Vf_84.other W92 ne_td_a
  have Ef_109 := Ef_85.wr W92
  have Ef_110 := Ef_86.wr W92
  have Ef_111 := Ef_87.wr W92
  have Ef_112 := Ef_88.wr W92
  have Ef_113 := Ef_89.wr W92
  have Ff_114 := Ff_90.other W92 (Or.inl ne_li_a)
  have Vf_115 := Vf_91.other W92 ne_ar_a
  have Ef_116 := El68.wr W92
  have Ff_117 := Fl68.other W92 (Or.inl ne_lt_a)
  have O92 := O68.wr W92 g_a
  have zl92 := Nat.le_trans zl68 (Nat.le_of_eq W92.size.symm)
  have K92 := KK68.wr W92 (Or.inl (List.mem_of_getElem? (i := 0) rfl))
  refine Own.retVoid X92 hx hlk hret (hb hby d15_25) (by decide) (by decide) ?_
  rw [e92]
  exact ⟨li, ar, ka23, rfl, N92, K92, Ff_96, Ef_113, Ff_114, Vf_115⟩
theorem d30_0 : decode jdk_44_method_5_code 0 = .ok (.iload_n 1, 1) := by decide +kernel
theorem d30_1 : decode jdk_44_method_5_code 1 = .ok (.ifCond .ne 8, 3) := by decide +kernel
theorem d30_4 : decode jdk_44_method_5_code 4 = .ok (.aload_n 0, 1) := by decide +kernel
theorem d30_5 : decode jdk_44_method_5_code 5 = .ok (.getfield 13, 3) := by decide +kernel
theorem d30_8 : decode jdk_44_method_5_code 8 = .ok (.areturn, 1) := by decide +kernel
set_option maxRecDepth 65536 in
set_option maxHeartbeats 40000000 in
theorem m30 (l : Launch) (Z : State) (a0 : Array Value) (w : ∀ (i : Nat) {d : Jvm.Cond}, tables_1[i]? = some d → d.before a0 Z = true) (a : Addr) (x : Addr) (h0 : Heap) (F1 : Fld Z h0 a "java/util/ImmutableCollections$List12" "e0" "Ljava/lang/Object;" (.ref x)) :
    Own.Met l Z (⟨"java/util/ImmutableCollections$List12", "get", "(I)Ljava/lang/Object;"⟩ : MethodName) jdk_44_method_5_code 2 (some (.object "java/lang/Object")) [] ({ frames := 0, cells := 0, slots := 0, locals := 0 } : Room) #[(.ref a), (.int (0 : Int32))] h0 (fun v h L => v = some (.ref x) ∧ h = h0 ∧ L = []) := by
  refine Own.Met.of (plainFor_of_name (by first | (simp [plainName, overriddenIn]; done) | decide +kernel)) ?_
  intro p e s m below meth c T0 hx hby hml hown hnm hret hlk hZ X0 e0
  have hown : s.vm.findClass "java/util/ImmutableCollections$List12" = some m.cls := hown
  have hml : c.maxLocals = 2 := hml
  have hnm : meth.name = "get" := hnm
  have ef : entryFrame m #[(.ref a), (.int (0 : Int32))] 2 = mkF m 0 #[.val (.ref a), .val (.int (0 : Int32))] [] := by first | (simp [entryFrame, mkF, argsToLocals, Value.category]; done) | rfl
  rw [ef]
  refine Own.iloadN 1 X0 hx (hb hby d30_0) rfl rfl ?_
  refine Own.if_ne 9 4 X0 hx (hb hby d30_1) (by decide) rfl (fun tk => absurd tk (by decide)) (fun tk => ?_)
  refine Own.aloadN 5 X0 hx (hb hby d30_4) rfl rfl rfl ?_
  refine Own.getFld 8 X0 hx hZ hown (host := "") (Or.inl (w 179 rfl)) Via.refl e0 F1 (hb hby d30_5) rfl ?_
  intro T1 X1 e1
  refine Own.retRef X1 hx hlk rfl hret rfl (hb hby d30_8) (by decide) (by decide) ?_
  exact ⟨rfl, e1, rfl⟩
theorem d34_0 : decode jdk_45_method_4_code 0 = .ok (.aload_n 0, 1) := by decide +kernel
theorem d34_1 : decode jdk_45_method_4_code 1 = .ok (.getfield 7, 3) := by decide +kernel
theorem d34_4 : decode jdk_45_method_4_code 4 = .ok (.iload_n 1, 1) := by decide +kernel
theorem d34_5 : decode jdk_45_method_4_code 5 = .ok (.aaload, 1) := by decide +kernel
theorem d34_6 : decode jdk_45_method_4_code 6 = .ok (.areturn, 1) := by decide +kernel
set_option maxRecDepth 65536 in
set_option maxHeartbeats 40000000 in
theorem m34 (l : Launch) (Z : State) (a0 : Array Value) (w : ∀ (i : Nat) {d : Jvm.Cond}, tables_1[i]? = some d → d.before a0 Z = true) (a : Addr) (ar s0 s1 s2 : Addr) (ka : ClassId) (h0 : Heap) (F1 : Fld Z h0 a "java/util/ImmutableCollections$ListN" "elements" "[Ljava/lang/Object;" (.ref ar)) (V1 : Arv Z h0 ar ka (.object "java/lang/Object") (3 : Int32) [(.ref s0), (.ref s1), (.ref s2)] .null) :
    Own.Met l Z (⟨"java/util/ImmutableCollections$ListN", "get", "(I)Ljava/lang/Object;"⟩ : MethodName) jdk_45_method_4_code 2 (some (.object "java/lang/Object")) [] ({ frames := 0, cells := 0, slots := 0, locals := 0 } : Room) #[(.ref a), (.int (0 : Int32))] h0 (fun v h L => v = some (.ref s0) ∧ h = h0 ∧ L = []) := by
  refine Own.Met.of (plainFor_of_name (by first | (simp [plainName, overriddenIn]; done) | decide +kernel)) ?_
  intro p e s m below meth c T0 hx hby hml hown hnm hret hlk hZ X0 e0
  have hown : s.vm.findClass "java/util/ImmutableCollections$ListN" = some m.cls := hown
  have hml : c.maxLocals = 2 := hml
  have hnm : meth.name = "get" := hnm
  have ef : entryFrame m #[(.ref a), (.int (0 : Int32))] 2 = mkF m 0 #[.val (.ref a), .val (.int (0 : Int32))] [] := by first | (simp [entryFrame, mkF, argsToLocals, Value.category]; done) | rfl
  rw [ef]
  refine Own.aloadN 1 X0 hx (hb hby d34_0) rfl rfl rfl ?_
  refine Own.getFld 4 X0 hx hZ hown (host := "") (Or.inl (w 229 rfl)) Via.refl e0 F1 (hb hby d34_1) rfl ?_
  intro T1 X1 e1
  refine Own.iloadN 5 X1 hx (hb hby d34_4) rfl rfl ?_
  refine Own.aaload 6 X1 hx hZ e1 ((.ref s0)) V1 rfl (by decide) rfl (hb hby d34_5) rfl ?_
  refine Own.retRef X1 hx hlk rfl hret rfl (hb hby d34_6) (by decide) (by decide) ?_
  exact ⟨rfl, e1, rfl⟩
theorem d29_0 : decode prog_5_method_3_code 0 = .ok (.aload_n 0, 1) := by decide +kernel
theorem d29_1 : decode prog_5_method_3_code 1 = .ok (.getfield 19, 3) := by decide +kernel
theorem d29_4 : decode prog_5_method_3_code 4 = .ok (.iconst 0, 1) := by decide +kernel
theorem d29_5 : decode prog_5_method_3_code 5 = .ok (.invokeinterface 26 2, 5) := by decide +kernel
theorem d29_10 : decode prog_5_method_3_code 10 = .ok (.checkcast 30, 3) := by decide +kernel
theorem d29_13 : decode prog_5_method_3_code 13 = .ok (.areturn, 1) := by decide +kernel
set_option maxRecDepth 65536 in
set_option maxHeartbeats 40000000 in
theorem m29_12 (l : Launch) (Z : State) (a0 : Array Value) (w : ∀ (i : Nat) {d : Jvm.Cond}, tables_1[i]? = some d → d.before a0 Z = true) (a : Addr) (li s0 : Addr) (h0 : Heap) (F1 : Fld Z h0 a "com/example/bindgate/bindgate/idl/Declaration" "names" "Ljava/util/List;" (.ref li)) (E_s0 : Exa Z h0 s0 "java/lang/String") (E_li : Exa Z h0 li "java/util/ImmutableCollections$List12") (F2 : Fld Z h0 li "java/util/ImmutableCollections$List12" "e0" "Ljava/lang/Object;" (.ref s0)) :
    Own.Met l Z (⟨"com/example/bindgate/bindgate/idl/Declaration", "name", "()Ljava/lang/String;"⟩ : MethodName) prog_5_method_3_code 1 (some (.object "java/lang/String")) [] ({ frames := 1, cells := 0, slots := 0, locals := 13 } : Room) #[(.ref a)] h0 (fun v h L => v = some (.ref s0) ∧ h = h0 ∧ L = []) := by
  refine Own.Met.of (plainFor_of_name (by first | (simp [plainName, overriddenIn]; done) | decide +kernel)) ?_
  intro p e s m below meth c T0 hx hby hml hown hnm hret hlk hZ X0 e0
  have hown : s.vm.findClass "com/example/bindgate/bindgate/idl/Declaration" = some m.cls := hown
  have hml : c.maxLocals = 1 := hml
  have hnm : meth.name = "name" := hnm
  have ef : entryFrame m #[(.ref a)] 1 = mkF m 0 #[.val (.ref a)] [] := by first | (simp [entryFrame, mkF, argsToLocals, Value.category]; done) | rfl
  rw [ef]
  refine Own.aloadN 1 X0 hx (hb hby d29_0) rfl rfl rfl ?_
  refine Own.getFld 4 X0 hx hZ hown (host := "") (Or.inl (w 184 rfl)) Via.refl e0 F1 (hb hby d29_1) rfl ?_
  intro T1 X1 e1
  refine Own.iconst 5 X1 hx ((0 : Int32)) (hb hby d29_4) rfl rfl ?_
  refine Own.callIf 10 0 li [(.int (0 : Int32))] [] X1 hx hZ hown (m30 l Z a0 w li s0 _ F2) E_li (w 197 rfl) (w 198 rfl) (mvT hZ (w 199 rfl)) (w 200 rfl) (w 201 rfl) (w 202 rfl) (mvT hZ (w 203 rfl)) (w 204 rfl) (w 156 rfl) (w 205 rfl) (by decide) e1 (by decide) (by decide) (by decide) (by decide) (by rw [hml]; rfl) (lenOf pd_15 rfl) rfl (Nat.le_of_eq rfl) (hb hby d29_5) rfl ?_
  rintro vv T2 L2 X2 ⟨rfl, hh2, rfl⟩
  refine Own.castOk 13 X2 hx hZ hown (w 206 rfl) hh2 (Ins.self E_s0) (hb hby d29_10) rfl ?_
  intro T3 X3 e3
  refine Own.retRef X3 hx hlk rfl hret rfl (hb hby d29_13) (by decide) (by decide) ?_
  exact ⟨rfl, e3, rfl⟩
set_option maxRecDepth 65536 in
set_option maxHeartbeats 40000000 in
theorem m29_3 (l : Launch) (Z : State) (a0 : Array Value) (w : ∀ (i : Nat) {d : Jvm.Cond}, tables_1[i]? = some d → d.before a0 Z = true) (a : Addr) (li ar s0 s1 s2 : Addr) (ka : ClassId) (h0 : Heap) (F1 : Fld Z h0 a "com/example/bindgate/bindgate/idl/Declaration" "names" "Ljava/util/List;" (.ref li)) (E_s0 : Exa Z h0 s0 "java/lang/String") (E_li : Exa Z h0 li "java/util/ImmutableCollections$ListN") (F2 : Fld Z h0 li "java/util/ImmutableCollections$ListN" "elements" "[Ljava/lang/Object;" (.ref ar)) (V2 : Arv Z h0 ar ka (.object "java/lang/Object") (3 : Int32) [(.ref s0), (.ref s1), (.ref s2)] .null) :
    Own.Met l Z (⟨"com/example/bindgate/bindgate/idl/Declaration", "name", "()Ljava/lang/String;"⟩ : MethodName) prog_5_method_3_code 1 (some (.object "java/lang/String")) [] ({ frames := 1, cells := 0, slots := 0, locals := 13 } : Room) #[(.ref a)] h0 (fun v h L => v = some (.ref s0) ∧ h = h0 ∧ L = []) := by
  refine Own.Met.of (plainFor_of_name (by first | (simp [plainName, overriddenIn]; done) | decide +kernel)) ?_
  intro p e s m below meth c T0 hx hby hml hown hnm hret hlk hZ X0 e0
  have hown : s.vm.findClass "com/example/bindgate/bindgate/idl/Declaration" = some m.cls := hown
  have hml : c.maxLocals = 1 := hml
  have hnm : meth.name = "name" := hnm
  have ef : entryFrame m #[(.ref a)] 1 = mkF m 0 #[.val (.ref a)] [] := by first | (simp [entryFrame, mkF, argsToLocals, Value.category]; done) | rfl
  rw [ef]
  refine Own.aloadN 1 X0 hx (hb hby d29_0) rfl rfl rfl ?_
  refine Own.getFld 4 X0 hx hZ hown (host := "") (Or.inl (w 184 rfl)) Via.refl e0 F1 (hb hby d29_1) rfl ?_
  intro T1 X1 e1
  refine Own.iconst 5 X1 hx ((0 : Int32)) (hb hby d29_4) rfl rfl ?_
  refine Own.callIf 10 0 li [(.int (0 : Int32))] [] X1 hx hZ hown (m34 l Z a0 w li ar s0 s1 s2 ka _ F2 V2) E_li (w 197 rfl) (w 198 rfl) (mvT hZ (w 199 rfl)) (w 233 rfl) (w 234 rfl) (w 235 rfl) (mvT hZ (w 236 rfl)) (w 237 rfl) (w 220 rfl) (w 238 rfl) (by decide) e1 (by decide) (by decide) (by decide) (by decide) (by rw [hml]; rfl) (lenOf pd_15 rfl) rfl (Nat.le_of_eq rfl) (hb hby d29_5) rfl ?_
  rintro vv T2 L2 X2 ⟨rfl, hh2, rfl⟩
  refine Own.castOk 13 X2 hx hZ hown (w 206 rfl) hh2 (Ins.self E_s0) (hb hby d29_10) rfl ?_
  intro T3 X3 e3
  refine Own.retRef X3 hx hlk rfl hret rfl (hb hby d29_13) (by decide) (by decide) ?_
  exact ⟨rfl, e3, rfl⟩
theorem d31_0 : decode jdk_42_method_66_code 0 = .ok (.aload_n 0, 1) := by decide +kernel
theorem d31_1 : decode jdk_42_method_66_code 1 = .ok (.aload_n 1, 1) := by decide +kernel
theorem d31_2 : decode jdk_42_method_66_code 2 = .ok (.if_acmp .ne 5, 3) := by decide +kernel
theorem d31_5 : decode jdk_42_method_66_code 5 = .ok (.iconst 1, 1) := by decide +kernel
theorem d31_6 : decode jdk_42_method_66_code 6 = .ok (.ireturn, 1) := by decide +kernel
set_option maxRecDepth 65536 in
set_option maxHeartbeats 40000000 in
theorem m31 (l : Launch) (Z : State) (a0 : Array Value) (w : ∀ (i : Nat) {d : Jvm.Cond}, tables_1[i]? = some d → d.before a0 Z = true) (a : Addr) (a : Addr)  (h0 : Heap)  :
    Own.Met l Z (⟨"java/lang/String", "equals", "(Ljava/lang/Object;)Z"⟩ : MethodName) jdk_42_method_66_code 3 (some .boolean) [] ({ frames := 0, cells := 0, slots := 0, locals := 0 } : Room) #[(.ref a), (.ref a)] h0 (fun v h L => v = some (.int 1) ∧ h = h0 ∧ L = []) := by
  refine Own.Met.of (plainFor_of_name (by first | (simp [plainName, overriddenIn]; done) | decide +kernel)) ?_
  intro p e s m below meth c T0 hx hby hml hown hnm hret hlk hZ X0 e0
  have hown : s.vm.findClass "java/lang/String" = some m.cls := hown
  have hml : c.maxLocals = 3 := hml
  have hnm : meth.name = "equals" := hnm
  have ef : entryFrame m #[(.ref a), (.ref a)] 3 = mkF m 0 #[.val (.ref a), .val (.ref a), .unset] [] := by first | (simp [entryFrame, mkF, argsToLocals, Value.category]; done) | rfl
  rw [ef]
  refine Own.aloadN 1 X0 hx (hb hby d31_0) rfl rfl rfl ?_
  refine Own.aloadN 2 X0 hx (hb hby d31_1) rfl rfl rfl ?_
  refine Own.acmp_ne 7 5 X0 hx (hb hby d31_2) rfl rfl (by decide) rfl (fun q => ?_) (fun q => ?_)
  ·
    exact absurd rfl q
  ·
    refine Own.iconst 6 X0 hx ((1 : Int32)) (hb hby d31_5) rfl rfl ?_
    refine Own.retBool X0 hx hlk hret (hb hby d31_6) (by decide) (by decide) ?_
    exact ⟨rfl, e0, rfl⟩
set_option maxRecDepth 65536 in
set_option maxHeartbeats 40000000 in
theorem m0 (l : Launch) (Z : State) (a0 : Array Value) (w : ∀ (i : Nat) {d : Jvm.Cond}, tables_1[i]? = some d → d.before a0 Z = true) (x0 : Int32) (x1 : Int32) (x2 : Int32) (x3 : Int32) (dc em el mr : Addr) (kd : ClassId) (kc kt : Addr) (z : Int32) (h0 : Heap) (n0 : Nat) (Z0 : n0 ≤ h0.size) (X00 : Old Z n0 h0) (SS : own_SS Z dc em el mr kd) (SK : Sta Z Z.heap "com/example/bindgate/bindgate/idl/Declaration$Kind" "CONSTANT" "Lcom/example/bindgate/bindgate/idl/Declaration$Kind;" (.ref kc)) (ST : Sta Z Z.heap "com/example/bindgate/bindgate/idl/Declaration$Kind" "TYPE" "Lcom/example/bindgate/bindgate/idl/Declaration$Kind;" (.ref kt)) (SC : Sta Z Z.heap "java/lang/String" "COMPACT_STRINGS" "Z" (.int z)) (hz : ¬ z = 0) :
    Own.Met l Z x code maxLocals ret tables_1 room_1 #[(.int x0), (.int x1), (.int x2), (.int x3)] h0 (fun v h L => v = some (.int 1) ∧ Fr n0 L) := by
  refine Own.Met.of (plainFor_of_name (by first | (simp [plainName, overriddenIn]; done) | decide +kernel)) ?_
  intro p e s m below meth c T0 hx hby hml hown hnm hret hlk hZ X0 e0
  have hown : s.vm.findClass "com/example/bindgate/bindgate/idl/DeclarationNamePinLaw" = some m.cls := hown
  have hml : c.maxLocals = 12 := hml
  have hnm : meth.name = "law" := hnm
  have hret : meth.sig.returnType = some .boolean := hret
  have ef : entryFrame m #[(.int x0), (.int x1), (.int x2), (.int x3)] maxLocals = mkF m 0 #[.val (.int x0), .val (.int x1), .val (.int x2), .val (.int x3), .unset, .unset, .unset, .unset, .unset, .unset, .unset, .unset] [] := by first | (simp [entryFrame, mkF, argsToLocals, Value.category, maxLocals]; done) | rfl
  rw [ef]
  have N0 := Fr.nil n0
  have hws : ∀ d ∈ StrChars.Road.words, d.before a0 Z = true := fun d hd => by
    obtain ⟨i, hi⟩ := List.getElem?_of_mem ((by decide +kernel : ∀ d ∈ StrChars.Road.words, d ∈ tables_1) d hd)
    exact w i hi
  refine Own.newObj 3 X0 hx hZ hown (w 0 rfl) (w 1 rfl) (w 2 rfl) e0 (hb hby at_0) rfl (by decide) (by decide) ?_
  intro T1 h1 s0 z1 X1 e1 E1 A1 D1
  have g_s0 : n0 ≤ s0 := Nat.le_trans Z0 (Nat.le_of_eq z1.symm)
  have O1 := X00.ext E1
  have zl1 := Nat.le_trans Z0 E1.1
  have F1_coder : Fld Z h1 s0 "java/lang/String" "coder" "B" (.int (0 : Int32)) := D1 (Or.inr (w 27 rfl)) (ty := .byte) (by decide)
  have F1_value : Fld Z h1 s0 "java/lang/String" "value" "[B" .null := D1 (Or.inr (w 29 rfl)) (ty := (.array .byte)) (by decide)
  refine Own.dup 4 X1 hx (hb hby at_3) rfl rfl ?_
  refine Own.iconst 5 X1 hx ((2 : Int32)) (hb hby at_4) rfl rfl ?_
  refine Own.newArr 7 2 X1 hx hZ (w 3 rfl) e1 (by decide) (by decide) (by decide) (hb hby at_5) rfl (by decide) (by decide) ?_
  intro T3 h3 c0' k3 z3 X3 e3 E3 A3
  have ne_s0_c0' : s0 ≠ c0' := Nat.ne_of_lt (Nat.lt_of_lt_of_le A1.lt (Nat.le_of_eq z3.symm))
  have g_c0' : n0 ≤ c0' := Nat.le_trans zl1 (Nat.le_of_eq z3.symm)
  have Ef_5 := A1.ext E3
  have Ff_6 := F1_coder.ext E3
  have Ff_7 := F1_value.ext E3
  have O3 := O1.ext E3
  have zl3 := Nat.le_trans zl1 E3.1
  have V3 : Arv Z h3 c0' k3 .char (2 : Int32) [(.int (0 : Int32)), (.int (0 : Int32))] (.int (0 : Int32)) := A3
  refine Own.dup 8 X3 hx (hb hby at_7) rfl rfl ?_
  refine Own.iconst 9 X3 hx ((0 : Int32)) (hb hby at_8) rfl rfl ?_
  refine Own.iloadN 10 X3 hx (hb hby at_9) rfl rfl ?_
  refine Own.sipush 13 X3 hx ((255 : Int32)) (hb hby at_10) rfl rfl ?_
  refine Own.iand 14 X3 hx (hb hby at_13) rfl rfl ?_
  refine Own.i2c 15 X3 hx (hb hby at_14) rfl rfl ?_
  refine Own.castore 16 X3 hx hZ e3 V3 (by decide) (Nat.le_of_ble_eq_true rfl) (hb hby at_15) rfl ?_
  intro T8 h8 X8 e8 W8 A8
  have N8 := Fr.snoc X8 N0 g_c0'
  have Ef_10 := Ef_5.wr W8
  have Ff_11 := Ff_6.other W8 (Or.inl ne_s0_c0')
  have Ff_12 := Ff_7.other W8 (Or.inl ne_s0_c0')
  have O8 := O3.wr W8 g_c0'
  have zl8 := Nat.le_trans zl3 (Nat.le_of_eq W8.size.symm)
  have V8 : Arv Z h8 c0' k3 .char (2 : Int32) [(.int (nar .char ((x0 &&& (255 : Int32)).toUInt32.toUInt16.toUInt32.toInt32))), (.int (0 : Int32))] (.int (0 : Int32)) := A8
  refine Own.dup 17 X8 hx (hb hby at_16) rfl rfl ?_
  refine Own.iconst 18 X8 hx ((1 : Int32)) (hb hby at_17) rfl rfl ?_
  refine Own.iloadN 19 X8 hx (hb hby at_18) rfl rfl ?_
  refine Own.bipush 21 X8 hx ((8 : Int32)) (hb hby at_19) rfl rfl ?_
  refine Own.iushr 22 X8 hx (hb hby at_21) rfl rfl ?_
  refine Own.sipush 25 X8 hx ((255 : Int32)) (hb hby at_22) rfl rfl ?_
  refine Own.iand 26 X8 hx (hb hby at_25) rfl rfl ?_
  refine Own.i2c 27 X8 hx (hb hby at_26) rfl rfl ?_
  refine Own.castore 28 X8 hx hZ e8 V8 (by decide) (Nat.le_of_ble_eq_true rfl) (hb hby at_27) rfl ?_
  intro T14 h14 X14 e14 W14 A14
  have N14 := Fr.snoc X14 N8 g_c0'
  have Ef_16 := Ef_10.wr W14
  have Ff_17 := Ff_11.other W14 (Or.inl ne_s0_c0')
  have Ff_18 := Ff_12.other W14 (Or.inl ne_s0_c0')
  have O14 := O8.wr W14 g_c0'
  have zl14 := Nat.le_trans zl8 (Nat.le_of_eq W14.size.symm)
  have V14 : Arv Z h14 c0' k3 .char (2 : Int32) [(.int (nar .char ((x0 &&& (255 : Int32)).toUInt32.toUInt16.toUInt32.toInt32))), (.int (nar .char ((((x0.toUInt32 >>> ((8 : Int32) &&& 31).toUInt32).toInt32) &&& (255 : Int32)).toUInt32.toUInt16.toUInt32.toInt32)))] (.int (0 : Int32)) := A14
  refine Own.callInitB 31 1 1 2 s0 [(.ref c0')] [(.ref s0)] X14 hx hZ hown (StrChars.Road.backV (W := 1) hZ hws (kI := 4) (w 1 rfl) (cs := [nar .char ((x0 &&& 255).toUInt32.toUInt16.toUInt32.toInt32), nar .char (((x0.toUInt32 >>> ((8 : Int32) &&& 31).toUInt32).toInt32 &&& 255).toUInt32.toUInt16.toUInt32.toInt32)]) (bs := [(nar .char ((x0 &&& 255).toUInt32.toUInt16.toUInt32.toInt32)).toInt8.toInt32, (nar .char (((x0.toUInt32 >>> ((8 : Int32) &&& 31).toUInt32).toInt32 &&& 255).toUInt32.toUInt16.toUInt32.toInt32)).toInt8.toInt32]) (n := 2) g_s0 zl14 Ef_16 Ff_18 Ff_17 V14 (SC.ext O14.2) hz rfl rfl (by decide) (by decide) (own_lat x0) rfl (by decide) (by decide)) rfl (w 4 rfl) (w 5 rfl) (w 6 rfl) (by decide) e14 (by decide) (by decide) (by rw [hml]; rfl) (lenOf pd_16 rfl) rfl (Nat.le_of_eq rfl) (hb hby at_28) rfl ?_
  rintro vv T20 L20 X20 ⟨rfl, N20q, K20, -⟩
  have N20 := Fr.app N14 N20q
  have O20 := O14.keep K20 (allS g_s0 all0)
  have Ef_22 := Ef_16.keep K20
  have zl20 := Nat.le_trans zl14 K20.1
  refine Own.astore 33 #[.val (.int x0), .val (.int x1), .val (.int x2), .val (.int x3), .val (.ref s0), .unset, .unset, .unset, .unset, .unset, .unset, .unset] X20 hx (hb hby at_31) rfl rfl rfl ?_
  refine Own.newObj 36 X20 hx hZ hown (w 0 rfl) (w 1 rfl) (w 2 rfl) rfl (hb hby at_33) rfl (by decide) (by decide) ?_
  intro T23 h23 s1 z23 X23 e23 E23 A23 D23
  have ne_s0_s1 : s0 ≠ s1 := Nat.ne_of_lt (Nat.lt_of_lt_of_le Ef_22.lt (Nat.le_of_eq z23.symm))
  have g_s1 : n0 ≤ s1 := Nat.le_trans zl20 (Nat.le_of_eq z23.symm)
  have Ef_25 := Ef_22.ext E23
  have O23 := O20.ext E23
  have zl23 := Nat.le_trans zl20 E23.1
  have F23_coder : Fld Z h23 s1 "java/lang/String" "coder" "B" (.int (0 : Int32)) := D23 (Or.inr (w 27 rfl)) (ty := .byte) (by decide)
  have F23_value : Fld Z h23 s1 "java/lang/String" "value" "[B" .null := D23 (Or.inr (w 29 rfl)) (ty := (.array .byte)) (by decide)
  refine Own.dup 37 X23 hx (hb hby at_36) rfl rfl ?_
  refine Own.iconst 38 X23 hx ((2 : Int32)) (hb hby at_37) rfl rfl ?_
  refine Own.newArr 40 2 X23 hx hZ (w 3 rfl) e23 (by decide) (by decide) (by decide) (hb hby at_38) rfl (by decide) (by decide) ?_
  intro T26 h26 c1' k26 z26 X26 e26 E26 A26
  have ne_s0_c1' : s0 ≠ c1' := Nat.ne_of_lt (Nat.lt_of_lt_of_le Ef_25.lt (Nat.le_of_eq z26.symm))
  have ne_s1_c1' : s1 ≠ c1' := Nat.ne_of_lt (Nat.lt_of_lt_of_le A23.lt (Nat.le_of_eq z26.symm))
  have g_c1' : n0 ≤ c1' := Nat.le_trans zl23 (Nat.le_of_eq z26.symm)
  have Ef_28 := Ef_25.ext E26
  have Ef_29 := A23.ext E26
  have Ff_30 := F23_coder.ext E26
  have Ff_31 := F23_value.ext E26
  have O26 := O23.ext E26
  have zl26 := Nat.le_trans zl23 E26.1
  have V26 : Arv Z h26 c1' k26 .char (2 : Int32) [(.int (0 : Int32)), (.int (0 : Int32))] (.int (0 : Int32)) := A26
  refine Own.dup 41 X26 hx (hb hby at_40) rfl rfl ?_
  refine Own.iconst 42 X26 hx ((0 : Int32)) (hb hby at_41) rfl rfl ?_
  refine Own.iloadN 43 X26 hx (hb hby at_42) rfl rfl ?_
  refine Own.sipush 46 X26 hx ((255 : Int32)) (hb hby at_43) rfl rfl ?_
  refine Own.iand 47 X26 hx (hb hby at_46) rfl rfl ?_
  refine Own.i2c 48 X26 hx (hb hby at_47) rfl rfl ?_
  refine Own.castore 49 X26 hx hZ e26 V26 (by decide) (Nat.le_of_ble_eq_true rfl) (hb hby at_48) rfl ?_
  intro T32 h32 X32 e32 W32 A32
  have N32 := Fr.snoc X32 N20 g_c1'
  have Ef_34 := Ef_28.wr W32
  have Ef_35 := Ef_29.wr W32
  have Ff_36 := Ff_30.other W32 (Or.inl ne_s1_c1')
  have Ff_37 := Ff_31.other W32 (Or.inl ne_s1_c1')
  have O32 := O26.wr W32 g_c1'
  have zl32 := Nat.le_trans zl26 (Nat.le_of_eq W32.size.symm)
  have V32 : Arv Z h32 c1' k26 .char (2 : Int32) [(.int (nar .char ((x1 &&& (255 : Int32)).toUInt32.toUInt16.toUInt32.toInt32))), (.int (0 : Int32))] (.int (0 : Int32)) := A32
  refine Own.dup 50 X32 hx (hb hby at_49) rfl rfl ?_
  refine Own.iconst 51 X32 hx ((1 : Int32)) (hb hby at_50) rfl rfl ?_
  refine Own.iloadN 52 X32 hx (hb hby at_51) rfl rfl ?_
  refine Own.bipush 54 X32 hx ((8 : Int32)) (hb hby at_52) rfl rfl ?_
  refine Own.iushr 55 X32 hx (hb hby at_54) rfl rfl ?_
  refine Own.sipush 58 X32 hx ((255 : Int32)) (hb hby at_55) rfl rfl ?_
  refine Own.iand 59 X32 hx (hb hby at_58) rfl rfl ?_
  refine Own.i2c 60 X32 hx (hb hby at_59) rfl rfl ?_
  refine Own.castore 61 X32 hx hZ e32 V32 (by decide) (Nat.le_of_ble_eq_true rfl) (hb hby at_60) rfl ?_
  intro T39 h39 X39 e39 W39 A39
  have N39 := Fr.snoc X39 N32 g_c1'
  have Ef_41 := Ef_34.wr W39
  have Ef_42 := Ef_35.wr W39
  have Ff_43 := Ff_36.other W39 (Or.inl ne_s1_c1')
  have Ff_44 := Ff_37.other W39 (Or.inl ne_s1_c1')
  have O39 := O32.wr W39 g_c1'
  have zl39 := Nat.le_trans zl32 (Nat.le_of_eq W39.size.symm)
  have V39 : Arv Z h39 c1' k26 .char (2 : Int32) [(.int (nar .char ((x1 &&& (255 : Int32)).toUInt32.toUInt16.toUInt32.toInt32))), (.int (nar .char ((((x1.toUInt32 >>> ((8 : Int32) &&& 31).toUInt32).toInt32) &&& (255 : Int32)).toUInt32.toUInt16.toUInt32.toInt32)))] (.int (0 : Int32)) := A39
  refine Own.callInitB 64 1 1 2 s1 [(.ref c1')] [(.ref s1)] X39 hx hZ hown (StrChars.Road.backV (W := 1) hZ hws (kI := 4) (w 1 rfl) (cs := [nar .char ((x1 &&& 255).toUInt32.toUInt16.toUInt32.toInt32), nar .char (((x1.toUInt32 >>> ((8 : Int32) &&& 31).toUInt32).toInt32 &&& 255).toUInt32.toUInt16.toUInt32.toInt32)]) (bs := [(nar .char ((x1 &&& 255).toUInt32.toUInt16.toUInt32.toInt32)).toInt8.toInt32, (nar .char (((x1.toUInt32 >>> ((8 : Int32) &&& 31).toUInt32).toInt32 &&& 255).toUInt32.toUInt16.toUInt32.toInt32)).toInt8.toInt32]) (n := 2) g_s1 zl39 Ef_42 Ff_44 Ff_43 V39 (SC.ext O39.2) hz rfl rfl (by decide) (by decide) (own_lat x1) rfl (by decide) (by decide)) rfl (w 4 rfl) (w 5 rfl) (w 6 rfl) (by decide) e39 (by decide) (by decide) (by rw [hml]; rfl) (lenOf pd_16 rfl) rfl (Nat.le_of_eq rfl) (hb hby at_61) rfl ?_
  rintro vv T46 L46 X46 ⟨rfl, N46q, K46, -⟩
  have N46 := Fr.app N39 N46q
  have O46 := O39.keep K46 (allS g_s1 all0)
  have Ef_48 := Ef_41.keep K46
  have Ef_49 := Ef_42.keep K46
  have zl46 := Nat.le_trans zl39 K46.1
  refine Own.astore 66 #[.val (.int x0), .val (.int x1), .val (.int x2), .val (.int x3), .val (.ref s0), .val (.ref s1), .unset, .unset, .unset, .unset, .unset, .unset] X46 hx (hb hby at_64) rfl rfl rfl ?_
  refine Own.newObj 69 X46 hx hZ hown (w 0 rfl) (w 1 rfl) (w 2 rfl) rfl (hb hby at_66) rfl (by decide) (by decide) ?_
  intro T50 h50 s2 z50 X50 e50 E50 A50 D50
  have ne_s0_s2 : s0 ≠ s2 := Nat.ne_of_lt (Nat.lt_of_lt_of_le Ef_48.lt (Nat.le_of_eq z50.symm))
  have ne_s1_s2 : s1 ≠ s2 := Nat.ne_of_lt (Nat.lt_of_lt_of_le Ef_49.lt (Nat.le_of_eq z50.symm))
  have g_s2 : n0 ≤ s2 := Nat.le_trans zl46 (Nat.le_of_eq z50.symm)
  have Ef_52 := Ef_48.ext E50
  have Ef_53 := Ef_49.ext E50
  have O50 := O46.ext E50
  have zl50 := Nat.le_trans zl46 E50.1
  have F50_coder : Fld Z h50 s2 "java/lang/String" "coder" "B" (.int (0 : Int32)) := D50 (Or.inr (w 27 rfl)) (ty := .byte) (by decide)
  have F50_value : Fld Z h50 s2 "java/lang/String" "value" "[B" .null := D50 (Or.inr (w 29 rfl)) (ty := (.array .byte)) (by decide)
  refine Own.dup 70 X50 hx (hb hby at_69) rfl rfl ?_
  refine Own.iconst 71 X50 hx ((2 : Int32)) (hb hby at_70) rfl rfl ?_
  refine Own.newArr 73 2 X50 hx hZ (w 3 rfl) e50 (by decide) (by decide) (by decide) (hb hby at_71) rfl (by decide) (by decide) ?_
  intro T54 h54 c2' k54 z54 X54 e54 E54 A54
  have ne_s0_c2' : s0 ≠ c2' := Nat.ne_of_lt (Nat.lt_of_lt_of_le Ef_52.lt (Nat.le_of_eq z54.symm))
  have ne_s1_c2' : s1 ≠ c2' := Nat.ne_of_lt (Nat.lt_of_lt_of_le Ef_53.lt (Nat.le_of_eq z54.symm))
  have ne_s2_c2' : s2 ≠ c2' := Nat.ne_of_lt (Nat.lt_of_lt_of_le A50.lt (Nat.le_of_eq z54.symm))
  have g_c2' : n0 ≤ c2' := Nat.le_trans zl50 (Nat.le_of_eq z54.symm)
  have Ef_56 := Ef_52.ext E54
  have Ef_57 := Ef_53.ext E54
  have Ef_58 := A50.ext E54
  have Ff_59 := F50_coder.ext E54
  have Ff_60 := F50_value.ext E54
  have O54 := O50.ext E54
  have zl54 := Nat.le_trans zl50 E54.1
  have V54 : Arv Z h54 c2' k54 .char (2 : Int32) [(.int (0 : Int32)), (.int (0 : Int32))] (.int (0 : Int32)) := A54
  refine Own.dup 74 X54 hx (hb hby at_73) rfl rfl ?_
  refine Own.iconst 75 X54 hx ((0 : Int32)) (hb hby at_74) rfl rfl ?_
  refine Own.iloadN 76 X54 hx (hb hby at_75) rfl rfl ?_
  refine Own.sipush 79 X54 hx ((255 : Int32)) (hb hby at_76) rfl rfl ?_
  refine Own.iand 80 X54 hx (hb hby at_79) rfl rfl ?_
  refine Own.i2c 81 X54 hx (hb hby at_80) rfl rfl ?_
  refine Own.castore 82 X54 hx hZ e54 V54 (by decide) (Nat.le_of_ble_eq_true rfl) (hb hby at_81) rfl ?_
  intro T61 h61 X61 e61 W61 A61
  have N61 := Fr.snoc X61 N46 g_c2'
  have Ef_63 := Ef_56.wr W61
  have Ef_64 := Ef_57.wr W61
  have Ef_65 := Ef_58.wr W61
  have Ff_66 := Ff_59.other W61 (Or.inl ne_s2_c2')
  have Ff_67 := Ff_60.other W61 (Or.inl ne_s2_c2')
  have O61 := O54.wr W61 g_c2'
  have zl61 := Nat.le_trans zl54 (Nat.le_of_eq W61.size.symm)
  have V61 : Arv Z h61 c2' k54 .char (2 : Int32) [(.int (nar .char ((x2 &&& (255 : Int32)).toUInt32.toUInt16.toUInt32.toInt32))), (.int (0 : Int32))] (.int (0 : Int32)) := A61
  refine Own.dup 83 X61 hx (hb hby at_82) rfl rfl ?_
  refine Own.iconst 84 X61 hx ((1 : Int32)) (hb hby at_83) rfl rfl ?_
  refine Own.iloadN 85 X61 hx (hb hby at_84) rfl rfl ?_
  refine Own.bipush 87 X61 hx ((8 : Int32)) (hb hby at_85) rfl rfl ?_
  refine Own.iushr 88 X61 hx (hb hby at_87) rfl rfl ?_
  refine Own.sipush 91 X61 hx ((255 : Int32)) (hb hby at_88) rfl rfl ?_
  refine Own.iand 92 X61 hx (hb hby at_91) rfl rfl ?_
  refine Own.i2c 93 X61 hx (hb hby at_92) rfl rfl ?_
  refine Own.castore 94 X61 hx hZ e61 V61 (by decide) (Nat.le_of_ble_eq_true rfl) (hb hby at_93) rfl ?_
  intro T69 h69 X69 e69 W69 A69
  have N69 := Fr.snoc X69 N61 g_c2'
  have Ef_71 := Ef_63.wr W69
  have Ef_72 := Ef_64.wr W69
  have Ef_73 := Ef_65.wr W69
  have Ff_74 := Ff_66.other W69 (Or.inl ne_s2_c2')
  have Ff_75 := Ff_67.other W69 (Or.inl ne_s2_c2')
  have O69 := O61.wr W69 g_c2'
  have zl69 := Nat.le_trans zl61 (Nat.le_of_eq W69.size.symm)
  have V69 : Arv Z h69 c2' k54 .char (2 : Int32) [(.int (nar .char ((x2 &&& (255 : Int32)).toUInt32.toUInt16.toUInt32.toInt32))), (.int (nar .char ((((x2.toUInt32 >>> ((8 : Int32) &&& 31).toUInt32).toInt32) &&& (255 : Int32)).toUInt32.toUInt16.toUInt32.toInt32)))] (.int (0 : Int32)) := A69
  refine Own.callInitB 97 1 1 2 s2 [(.ref c2')] [(.ref s2)] X69 hx hZ hown (StrChars.Road.backV (W := 1) hZ hws (kI := 4) (w 1 rfl) (cs := [nar .char ((x2 &&& 255).toUInt32.toUInt16.toUInt32.toInt32), nar .char (((x2.toUInt32 >>> ((8 : Int32) &&& 31).toUInt32).toInt32 &&& 255).toUInt32.toUInt16.toUInt32.toInt32)]) (bs := [(nar .char ((x2 &&& 255).toUInt32.toUInt16.toUInt32.toInt32)).toInt8.toInt32, (nar .char (((x2.toUInt32 >>> ((8 : Int32) &&& 31).toUInt32).toInt32 &&& 255).toUInt32.toUInt16.toUInt32.toInt32)).toInt8.toInt32]) (n := 2) g_s2 zl69 Ef_73 Ff_75 Ff_74 V69 (SC.ext O69.2) hz rfl rfl (by decide) (by decide) (own_lat x2) rfl (by decide) (by decide)) rfl (w 4 rfl) (w 5 rfl) (w 6 rfl) (by decide) e69 (by decide) (by decide) (by rw [hml]; rfl) (lenOf pd_16 rfl) rfl (Nat.le_of_eq rfl) (hb hby at_94) rfl ?_
  rintro vv T77 L77 X77 ⟨rfl, N77q, K77, -⟩
  have N77 := Fr.app N69 N77q
  have O77 := O69.keep K77 (allS g_s2 all0)
  have Ef_79 := Ef_71.keep K77
  have Ef_80 := Ef_72.keep K77
  have Ef_81 := Ef_73.keep K77
  have zl77 := Nat.le_trans zl69 K77.1
  refine Own.astore 99 #[.val (.int x0), .val (.int x1), .val (.int x2), .val (.int x3), .val (.ref s0), .val (.ref s1), .val (.ref s2), .unset, .unset, .unset, .unset, .unset] X77 hx (hb hby at_97) rfl rfl rfl ?_
  refine Own.iconst 100 X77 hx ((1 : Int32)) (hb hby at_99) rfl rfl ?_
  refine Own.iloadN 101 X77 hx (hb hby at_100) rfl rfl ?_
  refine Own.iconst 102 X77 hx ((2 : Int32)) (hb hby at_101) rfl rfl ?_
  refine Own.iushr 103 X77 hx (hb hby at_102) rfl rfl ?_
  refine Own.ldcInt 105 X77 hx hZ ((1073741823 : Int32)) hown (w 30 rfl) (hb hby at_103) rfl ?_
  refine Own.iand 106 X77 hx (hb hby at_105) rfl rfl ?_
  refine Own.iconst 107 X77 hx ((3 : Int32)) (hb hby at_106) rfl rfl ?_
  refine Own.irem 108 X77 hx (hb hby at_107) rfl (by decide) rfl ?_
  refine Own.iadd 109 X77 hx (hb hby at_108) rfl rfl ?_
  refine Own.istore 111 (fun v7_109 => #[.val (.int x0), .val (.int x1), .val (.int x2), .val (.int x3), .val (.ref s0), .val (.ref s1), .val (.ref s2), .val (.int v7_109), .unset, .unset, .unset, .unset]) X77 hx (hb hby at_109) rfl (fun _ => rfl) fun v7_109 hv7_109 => ?_
  refine Own.iloadN 112 X77 hx (hb hby at_111) rfl rfl ?_
  refine Own.iconst 113 X77 hx ((1 : Int32)) (hb hby at_112) rfl rfl ?_
  refine Own.iand 114 X77 hx (hb hby at_113) rfl rfl ?_
  have B := own_three ((x3.toUInt32 >>> ((2 : Int32) &&& 31).toUInt32).toInt32)
  rw [← hv7_109] at B
  have J126 : ∀ (ki : Addr) (T1 : State) (Lc : List Loc) (X1 : Stand p l e room_1 s m #[(.int x0), (.int x1), (.int x2), (.int x3)] below meth c T1 Lc 9 24) (N1 : Fr n0 Lc) (e1 : T1.heap = T77.heap), Own.Ends p.tables e below (fun v h L => v = some (.int 1) ∧ Fr n0 L) (Own.FE s room_1.cells room_1.slots) (T1.setTop (mkF m 126 #[.val (.int x0), .val (.int x1), .val (.int x2), .val (.int x3), .val (.ref s0), .val (.ref s1), .val (.ref s2), .val (.int v7_109), .unset, .unset, .unset, .unset] [(.ref ki)])) := by
    intro ki T1 Lc X1 N1 e1
    refine Own.astore 128 #[.val (.int x0), .val (.int x1), .val (.int x2), .val (.int x3), .val (.ref s0), .val (.ref s1), .val (.ref s2), .val (.int v7_109), .val (.ref ki), .unset, .unset, .unset] X1 hx (hb hby at_126) rfl rfl rfl ?_
    refine Own.newObj 131 X1 hx hZ hown (w 34 rfl) (w 35 rfl) (w 36 rfl) e1 (hb hby at_128) rfl (by decide) (by decide) ?_
    intro T82 h82 nl z82 X82 e82 E82 A82 D82
    have ne_s0_nl : s0 ≠ nl := Nat.ne_of_lt (Nat.lt_of_lt_of_le Ef_79.lt (Nat.le_of_eq z82.symm))
    have ne_s1_nl : s1 ≠ nl := Nat.ne_of_lt (Nat.lt_of_lt_of_le Ef_80.lt (Nat.le_of_eq z82.symm))
    have ne_s2_nl : s2 ≠ nl := Nat.ne_of_lt (Nat.lt_of_lt_of_le Ef_81.lt (Nat.le_of_eq z82.symm))
    have g_nl : n0 ≤ nl := Nat.le_trans zl77 (Nat.le_of_eq z82.symm)
    have Ef_84 := Ef_79.ext E82
    have Ef_85 := Ef_80.ext E82
    have Ef_86 := Ef_81.ext E82
    have O82 := O77.ext E82
    have zl82 := Nat.le_trans zl77 E82.1
    have F82_modCount : Fld Z h82 nl "java/util/AbstractList" "modCount" "I" (.int (0 : Int32)) := D82 (Or.inl (w 54 rfl)) (ty := .int) (by decide)
    have F82_elementData : Fld Z h82 nl "java/util/ArrayList" "elementData" "[Ljava/lang/Object;" .null := D82 (Or.inl (w 57 rfl)) (ty := (.array (.object "java/lang/Object"))) (by decide)
    have F82_size : Fld Z h82 nl "java/util/ArrayList" "size" "I" (.int (0 : Int32)) := D82 (Or.inl (w 66 rfl)) (ty := .int) (by decide)
    refine Own.dup 132 X82 hx (hb hby at_131) rfl rfl ?_
    refine Own.callInit 135 1 nl [] [(.ref nl)] X82 hx hZ hown (m7 l Z a0 w nl dc em el mr kd n0 _ _ _ zl82 O82 SS A82 F82_modCount F82_elementData F82_size g_nl) rfl (w 37 rfl) (w 38 rfl) (w 36 rfl) (w 39 rfl) (by decide) e82 (by decide) (by decide) (by decide) (by decide) (by rw [hml]; rfl) (lenOf pd_0 rfl) rfl (Nat.le_of_eq rfl) (hb hby at_132) rfl ?_
    rintro vv T87 L87 X87 ⟨rfl, N87q, K87, Fm87, Fe87, Fz87⟩
    have N87 := Fr.app N1 N87q
    have O87 := O82.keep K87 (allS g_nl all0)
    have Ef_89 := Ef_84.keep K87
    have Ef_90 := Ef_85.keep K87
    have Ef_91 := Ef_86.keep K87
    have Ef_92 := A82.keep K87
    have zl87 := Nat.le_trans zl82 K87.1
    refine Own.astore 137 #[.val (.int x0), .val (.int x1), .val (.int x2), .val (.int x3), .val (.ref s0), .val (.ref s1), .val (.ref s2), .val (.int v7_109), .val (.ref ki), .val (.ref nl), .unset, .unset] X87 hx (hb hby at_135) rfl rfl rfl ?_
    refine Own.aload 139 X87 hx (hb hby at_137) rfl rfl rfl ?_
    refine Own.aload 141 X87 hx (hb hby at_139) rfl rfl rfl ?_
    refine Own.callVt 144 0 nl [(.ref s0)] [] X87 hx hZ hown (m10_0 l Z a0 w nl s0 dc em el mr kd n0 _ _ zl87 O87 SS Ef_92 Fm87 Fe87 Fz87 g_nl Ef_89) Ef_92 (notFace_of_selects (args := #[]) (mvT hZ (w 61 rfl))) (w 58 rfl) (w 59 rfl) (w 61 rfl) (w 60 rfl) (w 36 rfl) (w 62 rfl) (by decide) rfl (by decide) (by decide) (by decide) (by decide) (by rw [hml]; rfl) (lenOf pd_17 rfl) rfl (Nat.le_of_eq rfl) (hb hby at_141) rfl ?_
    rintro vv T96 L96 X96 ⟨nd, k96, rfl, N96q, K96, sz_nd, g_nd, Fm96, Fe96, Fz96, V96, Ov96, Ex96⟩
    have ne_nl_nd : nl ≠ nd := Nat.ne_of_lt (Nat.lt_of_lt_of_le Ef_92.lt sz_nd)
    have N96 := Fr.app N87 N96q
    have O96 := O87.keep K96 (allS g_nl all0)
    have Ef_98 := Ef_89.keep K96
    have Ef_99 := Ef_90.keep K96
    have Ef_100 := Ef_91.keep K96
    have Ef_101 := Ef_92.keep K96
    have zl96 := Nat.le_trans zl87 K96.1
    refine Own.pop 145 X96 hx (hb hby at_144) rfl rfl ?_
    refine Own.iload 147 X96 hx (hb hby at_145) rfl rfl ?_
    refine Own.iconst 148 X96 hx ((2 : Int32)) (hb hby at_147) rfl rfl ?_
    rcases B with q | q | q <;> subst q
    ·
      refine Own.icmp_lt 159 151 X96 hx (hb hby at_148) (by decide) rfl (fun tk => ?_) (fun tk => absurd tk (by decide))
      refine Own.iload 161 X96 hx (hb hby at_159) rfl rfl ?_
      refine Own.iconst 162 X96 hx ((3 : Int32)) (hb hby at_161) rfl rfl ?_
      refine Own.icmp_lt 173 165 X96 hx (hb hby at_162) (by decide) rfl (fun tk => ?_) (fun tk => absurd tk (by decide))
      refine Own.newObj 176 X96 hx hZ hown (w 34 rfl) (w 35 rfl) (w 36 rfl) rfl (hb hby at_173) rfl (by decide) (by decide) ?_
      intro T105 h105 tl z105 X105 e105 E105 A105 D105
      have ne_nd_tl : nd ≠ tl := Nat.ne_of_lt (Nat.lt_of_lt_of_le V96.lt (Nat.le_of_eq z105.symm))
      have ne_nl_tl : nl ≠ tl := Nat.ne_of_lt (Nat.lt_of_lt_of_le Ef_101.lt (Nat.le_of_eq z105.symm))
      have ne_s0_tl : s0 ≠ tl := Nat.ne_of_lt (Nat.lt_of_lt_of_le Ef_98.lt (Nat.le_of_eq z105.symm))
      have ne_s1_tl : s1 ≠ tl := Nat.ne_of_lt (Nat.lt_of_lt_of_le Ef_99.lt (Nat.le_of_eq z105.symm))
      have ne_s2_tl : s2 ≠ tl := Nat.ne_of_lt (Nat.lt_of_lt_of_le Ef_100.lt (Nat.le_of_eq z105.symm))
      have g_tl : n0 ≤ tl := Nat.le_trans zl96 (Nat.le_of_eq z105.symm)
      have Ef_107 := Ef_98.ext E105
      have Ef_108 := Ef_99.ext E105
      have Ef_109 := Ef_100.ext E105
      have Ef_110 := Ef_101.ext E105
      have Vf_111 := V96.ext E105
      have Ef_112 := Ex96.ext E105
      have Ff_113 := Fm96.ext E105
      have Ff_114 := Fe96.ext E105
      have Ff_115 := Fz96.ext E105
      have O105 := O96.ext E105
      have zl105 := Nat.le_trans zl96 E105.1
      have F105_modCount : Fld Z h105 tl "java/util/AbstractList" "modCount" "I" (.int (0 : Int32)) := D105 (Or.inl (w 54 rfl)) (ty := .int) (by decide)
      have F105_elementData : Fld Z h105 tl "java/util/ArrayList" "elementData" "[Ljava/lang/Object;" .null := D105 (Or.inl (w 57 rfl)) (ty := (.array (.object "java/lang/Object"))) (by decide)
      have F105_size : Fld Z h105 tl "java/util/ArrayList" "size" "I" (.int (0 : Int32)) := D105 (Or.inl (w 66 rfl)) (ty := .int) (by decide)
      refine Own.dup 177 X105 hx (hb hby at_176) rfl rfl ?_
      refine Own.callInit 180 1 tl [] [(.ref tl)] X105 hx hZ hown (m7 l Z a0 w tl dc em el mr kd n0 _ _ _ zl105 O105 SS A105 F105_modCount F105_elementData F105_size g_tl) rfl (w 37 rfl) (w 38 rfl) (w 36 rfl) (w 39 rfl) (by decide) e105 (by decide) (by decide) (by decide) (by decide) (by rw [hml]; rfl) (lenOf pd_0 rfl) rfl (Nat.le_of_eq rfl) (hb hby at_177) rfl ?_
      rintro vv T116 L116 X116 ⟨rfl, N116q, K116, Fm116, Fe116, Fz116⟩
      have N116 := Fr.app N96 N116q
      have O116 := O105.keep K116 (allS g_tl all0)
      have Ef_118 := Ef_107.keep K116
      have Ef_119 := Ef_108.keep K116
      have Ef_120 := Ef_109.keep K116
      have Ef_121 := Ef_110.keep K116
      have Vf_122 := Vf_111.keep K116 (ninS ne_nd_tl nin0)
      have Ef_123 := Ef_112.keep K116
      have Ff_124 := Ff_113.keep K116 (ninS ne_nl_tl nin0)
      have Ff_125 := Ff_114.keep K116 (ninS ne_nl_tl nin0)
      have Ff_126 := Ff_115.keep K116 (ninS ne_nl_tl nin0)
      have Ef_127 := A105.keep K116
      have zl116 := Nat.le_trans zl105 K116.1
      refine Own.astore 182 #[.val (.int x0), .val (.int x1), .val (.int x2), .val (.int x3), .val (.ref s0), .val (.ref s1), .val (.ref s2), .val (.int (1 : Int32)), .val (.ref ki), .val (.ref nl), .val (.ref tl), .unset] X116 hx (hb hby at_180) rfl rfl rfl ?_
      refine Own.iloadN 183 X116 hx (hb hby at_182) rfl rfl ?_
      refine Own.iconst 184 X116 hx ((2 : Int32)) (hb hby at_183) rfl rfl ?_
      refine Own.iand 185 X116 hx (hb hby at_184) rfl rfl ?_
      refine Own.if_eq 196 188 X116 hx (hb hby at_185) (by decide) rfl (fun b2 => ?_) (fun b2 => ?_)
      ·
        refine Own.newObj 199 X116 hx hZ hown (w 89 rfl) (w 90 rfl) (w 91 rfl) rfl (hb hby at_196) rfl (by decide) (by decide) ?_
        intro T131 h131 dd z131 X131 e131 E131 A131 D131
        have ne_nd_dd : nd ≠ dd := Nat.ne_of_lt (Nat.lt_of_lt_of_le Vf_122.lt (Nat.le_of_eq z131.symm))
        have ne_nl_dd : nl ≠ dd := Nat.ne_of_lt (Nat.lt_of_lt_of_le Ef_121.lt (Nat.le_of_eq z131.symm))
        have ne_s0_dd : s0 ≠ dd := Nat.ne_of_lt (Nat.lt_of_lt_of_le Ef_118.lt (Nat.le_of_eq z131.symm))
        have ne_s1_dd : s1 ≠ dd := Nat.ne_of_lt (Nat.lt_of_lt_of_le Ef_119.lt (Nat.le_of_eq z131.symm))
        have ne_s2_dd : s2 ≠ dd := Nat.ne_of_lt (Nat.lt_of_lt_of_le Ef_120.lt (Nat.le_of_eq z131.symm))
        have ne_tl_dd : tl ≠ dd := Nat.ne_of_lt (Nat.lt_of_lt_of_le Ef_127.lt (Nat.le_of_eq z131.symm))
        have g_dd : n0 ≤ dd := Nat.le_trans zl116 (Nat.le_of_eq z131.symm)
        have Ef_133 := Ef_118.ext E131
        have Ef_134 := Ef_119.ext E131
        have Ef_135 := Ef_120.ext E131
        have Ef_136 := Ef_121.ext E131
        have Vf_137 := Vf_122.ext E131
        have Ef_138 := Ef_123.ext E131
        have Ff_139 := Ff_124.ext E131
        have Ff_140 := Ff_125.ext E131
        have Ff_141 := Ff_126.ext E131
        have Ef_142 := Ef_127.ext E131
        have Ff_143 := Fm116.ext E131
        have Ff_144 := Fe116.ext E131
        have Ff_145 := Fz116.ext E131
        have O131 := O116.ext E131
        have zl131 := Nat.le_trans zl116 E131.1
        have F131_kind : Fld Z h131 dd "com/example/bindgate/bindgate/idl/Declaration" "kind" "Lcom/example/bindgate/bindgate/idl/Declaration$Kind;" .null := D131 (Or.inr (w 97 rfl)) (ty := (.object "com/example/bindgate/bindgate/idl/Declaration$Kind")) (by decide)
        have F131_names : Fld Z h131 dd "com/example/bindgate/bindgate/idl/Declaration" "names" "Ljava/util/List;" .null := D131 (Or.inr (w 185 rfl)) (ty := (.object "java/util/List")) (by decide)
        have F131_tokens : Fld Z h131 dd "com/example/bindgate/bindgate/idl/Declaration" "tokens" "Ljava/util/List;" .null := D131 (Or.inr (w 191 rfl)) (ty := (.object "java/util/List")) (by decide)
        refine Own.dup 200 X131 hx (hb hby at_199) rfl rfl ?_
        refine Own.aload 202 X131 hx (hb hby at_200) rfl rfl rfl ?_
        refine Own.aload 204 X131 hx (hb hby at_202) rfl rfl rfl ?_
        refine Own.aload 206 X131 hx (hb hby at_204) rfl rfl rfl ?_
        refine Own.callInit 209 1 dd [(.ref ki), (.ref nl), (.ref tl)] [(.ref dd)] X131 hx hZ hown (m15_1_0 l Z a0 w dd ki nl tl dc em el mr kd n0 _ _ _ _ _ nd s0 k96  _ zl131 O131 SS A131 F131_kind F131_names F131_tokens g_dd Ef_133 Ef_136 g_nl Ff_139 Ff_140 Ff_141 Vf_137 Ov96 Ef_138 Ef_142 g_tl Ff_143 Ff_144 Ff_145 ne_s0_dd ne_nl_dd ne_nd_dd ne_tl_dd) rfl (w 92 rfl) (w 93 rfl) (w 91 rfl) (w 94 rfl) (by decide) e131 (by decide) (by decide) (by decide) (by decide) (by rw [hml]; rfl) (lenOf pd_18 rfl) rfl (Nat.le_of_eq rfl) (hb hby at_206) rfl ?_
        rintro vv T146 L146 X146 ⟨li, rfl, N146q, K146, Fn146, El146, Fl146⟩
        have N146 := Fr.app N116 N146q
        have O146 := O131.keep K146 (allS g_dd all0)
        have Ef_148 := Ef_133.keep K146
        have Ef_149 := Ef_134.keep K146
        have Ef_150 := Ef_135.keep K146
        have Ef_151 := Ef_136.keep K146
        have Ef_152 := Ef_138.keep K146
        have Ef_153 := Ef_142.keep K146
        have Ef_154 := A131.keep K146
        have zl146 := Nat.le_trans zl131 K146.1
        refine Own.astore 211 #[.val (.int x0), .val (.int x1), .val (.int x2), .val (.int x3), .val (.ref s0), .val (.ref s1), .val (.ref s2), .val (.int (1 : Int32)), .val (.ref ki), .val (.ref nl), .val (.ref tl), .val (.ref dd)] X146 hx (hb hby at_209) rfl rfl rfl ?_
        refine Own.aload 213 X146 hx (hb hby at_211) rfl rfl rfl ?_
        refine Own.aload 215 X146 hx (hb hby at_213) rfl rfl rfl ?_
        refine Own.callVt 218 1 dd [] [(.ref s0)] X146 hx hZ hown (m29_12 l Z a0 w dd li s0 _ Fn146 Ef_148 El146 Fl146 ) Ef_154 (notFace_of_selects (args := #[]) (mvT hZ (w 195 rfl))) (w 192 rfl) (w 193 rfl) (w 195 rfl) (w 194 rfl) (w 91 rfl) (w 196 rfl) (by decide) rfl (by decide) (by decide) (by decide) (by decide) (by rw [hml]; rfl) (lenOf pd_19 rfl) rfl (Nat.le_of_eq rfl) (hb hby at_215) rfl ?_
        rintro vv T155 L155 X155 ⟨rfl, hh155, rfl⟩
        have N155 := Fr.app N146 (Fr.nil _)
        refine Own.callVt 221 0 s0 [(.ref s0)] [] X155 hx hZ hown (m31 l Z a0 w s0 s0 _) Ef_148 (notFace_of_selects (args := #[]) (mvT hZ (w 210 rfl))) (w 207 rfl) (w 208 rfl) (w 210 rfl) (w 209 rfl) (w 2 rfl) (w 211 rfl) (by decide) hh155 (by decide) (by decide) (by decide) (by decide) (by rw [hml]; rfl) (lenOf pd_17 rfl) rfl (Nat.le_of_eq rfl) (hb hby at_218) rfl ?_
        rintro vv T156 L156 X156 ⟨rfl, hh156, rfl⟩
        have N156 := Fr.app N155 (Fr.nil _)
        refine Own.retBool X156 hx hlk hret (hb hby at_221) (by decide) (by decide) ?_
        exact ⟨rfl, N156⟩
      ·
        refine Own.aload 190 X116 hx (hb hby at_188) rfl rfl rfl ?_
        refine Own.aload 192 X116 hx (hb hby at_190) rfl rfl rfl ?_
        refine Own.callVt 195 0 tl [(.ref s2)] [] X116 hx hZ hown (m10_0 l Z a0 w tl s2 dc em el mr kd n0 _ _ zl116 O116 SS Ef_127 Fm116 Fe116 Fz116 g_tl Ef_120) Ef_127 (notFace_of_selects (args := #[]) (mvT hZ (w 61 rfl))) (w 58 rfl) (w 59 rfl) (w 61 rfl) (w 60 rfl) (w 36 rfl) (w 62 rfl) (by decide) rfl (by decide) (by decide) (by decide) (by decide) (by rw [hml]; rfl) (lenOf pd_17 rfl) rfl (Nat.le_of_eq rfl) (hb hby at_192) rfl ?_
        rintro vv T157 L157 X157 ⟨td, k157, rfl, N157q, K157, sz_td, g_td, Fm157, Fe157, Fz157, V157, Ov157, Ex157⟩
        have ne_tl_td : tl ≠ td := Nat.ne_of_lt (Nat.lt_of_lt_of_le Ef_127.lt sz_td)
        have N157 := Fr.app N116 N157q
        have O157 := O116.keep K157 (allS g_tl all0)
        have Ef_159 := Ef_118.keep K157
        have Ef_160 := Ef_119.keep K157
        have Ef_161 := Ef_120.keep K157
        have Ef_162 := Ef_121.keep K157
        have Vf_163 := Vf_122.keep K157 (ninS ne_nd_tl nin0)
        have Ef_164 := Ef_123.keep K157
        have Ff_165 := Ff_124.keep K157 (ninS ne_nl_tl nin0)
        have Ff_166 := Ff_125.keep K157 (ninS ne_nl_tl nin0)
        have Ff_167 := Ff_126.keep K157 (ninS ne_nl_tl nin0)
        have Ef_168 := Ef_127.keep K157
        have zl157 := Nat.le_trans zl116 K157.1
        refine Own.pop 196 X157 hx (hb hby at_195) rfl rfl ?_
        refine Own.newObj 199 X157 hx hZ hown (w 89 rfl) (w 90 rfl) (w 91 rfl) rfl (hb hby at_196) rfl (by decide) (by decide) ?_
        intro T172 h172 dd z172 X172 e172 E172 A172 D172
        have ne_nd_dd : nd ≠ dd := Nat.ne_of_lt (Nat.lt_of_lt_of_le Vf_163.lt (Nat.le_of_eq z172.symm))
        have ne_nl_dd : nl ≠ dd := Nat.ne_of_lt (Nat.lt_of_lt_of_le Ef_162.lt (Nat.le_of_eq z172.symm))
        have ne_s0_dd : s0 ≠ dd := Nat.ne_of_lt (Nat.lt_of_lt_of_le Ef_159.lt (Nat.le_of_eq z172.symm))
        have ne_s1_dd : s1 ≠ dd := Nat.ne_of_lt (Nat.lt_of_lt_of_le Ef_160.lt (Nat.le_of_eq z172.symm))
        have ne_s2_dd : s2 ≠ dd := Nat.ne_of_lt (Nat.lt_of_lt_of_le Ef_161.lt (Nat.le_of_eq z172.symm))
        have ne_td_dd : td ≠ dd := Nat.ne_of_lt (Nat.lt_of_lt_of_le V157.lt (Nat.le_of_eq z172.symm))
        have ne_tl_dd : tl ≠ dd := Nat.ne_of_lt (Nat.lt_of_lt_of_le Ef_168.lt (Nat.le_of_eq z172.symm))
        have g_dd : n0 ≤ dd := Nat.le_trans zl157 (Nat.le_of_eq z172.symm)
        have Ef_174 := Ef_159.ext E172
        have Ef_175 := Ef_160.ext E172
        have Ef_176 := Ef_161.ext E172
        have Ef_177 := Ef_162.ext E172
        have Vf_178 := Vf_163.ext E172
        have Ef_179 := Ef_164.ext E172
        have Ff_180 := Ff_165.ext E172
        have Ff_181 := Ff_166.ext E172
        have Ff_182 := Ff_167.ext E172
        have Ef_183 := Ef_168.ext E172
        have Vf_184 := V157.ext E172
        have Ef_185 := Ex157.ext E172
        have Ff_186 := Fm157.ext E172
        have Ff_187 := Fe157.ext E172
        have Ff_188 := Fz157.ext E172
        have O172 := O157.ext E172
        have zl172 := Nat.le_trans zl157 E172.1
        have F172_kind : Fld Z h172 dd "com/example/bindgate/bindgate/idl/Declaration" "kind" "Lcom/example/bindgate/bindgate/idl/Declaration$Kind;" .null := D172 (Or.inr (w 97 rfl)) (ty := (.object "com/example/bindgate/bindgate/idl/Declaration$Kind")) (by decide)
        have F172_names : Fld Z h172 dd "com/example/bindgate/bindgate/idl/Declaration" "names" "Ljava/util/List;" .null := D172 (Or.inr (w 185 rfl)) (ty := (.object "java/util/List")) (by decide)
        have F172_tokens : Fld Z h172 dd "com/example/bindgate/bindgate/idl/Declaration" "tokens" "Ljava/util/List;" .null := D172 (Or.inr (w 191 rfl)) (ty := (.object "java/util/List")) (by decide)
        refine Own.dup 200 X172 hx (hb hby at_199) rfl rfl ?_
        refine Own.aload 202 X172 hx (hb hby at_200) rfl rfl rfl ?_
        refine Own.aload 204 X172 hx (hb hby at_202) rfl rfl rfl ?_
        refine Own.aload 206 X172 hx (hb hby at_204) rfl rfl rfl ?_
        refine Own.callInit 209 1 dd [(.ref ki), (.ref nl), (.ref tl)] [(.ref dd)] X172 hx hZ hown (m15_1_1 l Z a0 w dd ki nl tl dc em el mr kd n0 _ _ _ _ _ nd s0 s1 s2 k96 td k157 _ zl172 O172 SS A172 F172_kind F172_names F172_tokens g_dd Ef_174 Ef_175 Ef_176 Ef_177 g_nl Ff_180 Ff_181 Ff_182 Vf_178 Ov96 Ef_179 Ef_183 g_tl Ff_186 Ff_187 Ff_188 Vf_184 Ov157 Ef_185 ne_s0_dd ne_s1_dd ne_s2_dd ne_nl_dd ne_nd_dd ne_tl_dd ne_td_dd) rfl (w 92 rfl) (w 93 rfl) (w 91 rfl) (w 94 rfl) (by decide) e172 (by decide) (by decide) (by decide) (by decide) (by rw [hml]; rfl) (lenOf pd_18 rfl) rfl (Nat.le_of_eq rfl) (hb hby at_206) rfl ?_
        rintro vv T189 L189 X189 ⟨li, rfl, N189q, K189, Fn189, El189, Fl189⟩
        have N189 := Fr.app N157 N189q
        have O189 := O172.keep K189 (allS g_dd all0)
        have Ef_191 := Ef_174.keep K189
        have Ef_192 := Ef_175.keep K189
        have Ef_193 := Ef_176.keep K189
        have Ef_194 := Ef_177.keep K189
        have Ef_195 := Ef_179.keep K189
        have Ef_196 := Ef_183.keep K189
        have Ef_197 := Ef_185.keep K189
        have Ef_198 := A172.keep K189
        have zl189 := Nat.le_trans zl172 K189.1
        refine Own.astore 211 #[.val (.int x0), .val (.int x1), .val (.int x2), .val (.int x3), .val (.ref s0), .val (.ref s1), .val (.ref s2), .val (.int (1 : Int32)), .val (.ref ki), .val (.ref nl), .val (.ref tl), .val (.ref dd)] X189 hx (hb hby at_209) rfl rfl rfl ?_
        refine Own.aload 213 X189 hx (hb hby at_211) rfl rfl rfl ?_
        refine Own.aload 215 X189 hx (hb hby at_213) rfl rfl rfl ?_
        refine Own.callVt 218 1 dd [] [(.ref s0)] X189 hx hZ hown (m29_12 l Z a0 w dd li s0 _ Fn189 Ef_191 El189 Fl189 ) Ef_198 (notFace_of_selects (args := #[]) (mvT hZ (w 195 rfl))) (w 192 rfl) (w 193 rfl) (w 195 rfl) (w 194 rfl) (w 91 rfl) (w 196 rfl) (by decide) rfl (by decide) (by decide) (by decide) (by decide) (by rw [hml]; rfl) (lenOf pd_19 rfl) rfl (Nat.le_of_eq rfl) (hb hby at_215) rfl ?_
        rintro vv T199 L199 X199 ⟨rfl, hh199, rfl⟩
        have N199 := Fr.app N189 (Fr.nil _)
        refine Own.callVt 221 0 s0 [(.ref s0)] [] X199 hx hZ hown (m31 l Z a0 w s0 s0 _) Ef_191 (notFace_of_selects (args := #[]) (mvT hZ (w 210 rfl))) (w 207 rfl) (w 208 rfl) (w 210 rfl) (w 209 rfl) (w 2 rfl) (w 211 rfl) (by decide) hh199 (by decide) (by decide) (by decide) (by decide) (by rw [hml]; rfl) (lenOf pd_17 rfl) rfl (Nat.le_of_eq rfl) (hb hby at_218) rfl ?_
        rintro vv T200 L200 X200 ⟨rfl, hh200, rfl⟩
        have N200 := Fr.app N199 (Fr.nil _)
        refine Own.retBool X200 hx hlk hret (hb hby at_221) (by decide) (by decide) ?_
        exact ⟨rfl, N200⟩
    ·
      refine Own.icmp_lt 159 151 X96 hx (hb hby at_148) (by decide) rfl (fun tk => absurd tk (by decide)) (fun tk => ?_)
      refine Own.aload 153 X96 hx (hb hby at_151) rfl rfl rfl ?_
      refine Own.aload 155 X96 hx (hb hby at_153) rfl rfl rfl ?_
      refine Own.callVt 158 0 nl [(.ref s1)] [] X96 hx hZ hown (m10_1 l Z a0 w nl s1 dc em el mr kd n0 _ nd s0 k96 _ zl96 O96 SS Ef_101 Fm96 Fe96 Fz96 g_nl Ef_98 Ef_99 g_nd ne_nl_nd V96 Ov96 Ex96) Ef_101 (notFace_of_selects (args := #[]) (mvT hZ (w 61 rfl))) (w 58 rfl) (w 59 rfl) (w 61 rfl) (w 60 rfl) (w 36 rfl) (w 62 rfl) (by decide) rfl (by decide) (by decide) (by decide) (by decide) (by rw [hml]; rfl) (lenOf pd_17 rfl) rfl (Nat.le_of_eq rfl) (hb hby at_155) rfl ?_
      rintro vv T201 L201 X201 ⟨rfl, N201q, K201, Fm201, Fe201, Fz201, V201⟩
      have N201 := Fr.app N96 N201q
      have O201 := O96.keep K201 (allS g_nl (allS g_nd all0))
      have Ef_203 := Ef_98.keep K201
      have Ef_204 := Ef_99.keep K201
      have Ef_205 := Ef_100.keep K201
      have Ef_206 := Ef_101.keep K201
      have Ef_208 := Ex96.keep K201
      have zl201 := Nat.le_trans zl96 K201.1
      refine Own.pop 159 X201 hx (hb hby at_158) rfl rfl ?_
      refine Own.iload 161 X201 hx (hb hby at_159) rfl rfl ?_
      refine Own.iconst 162 X201 hx ((3 : Int32)) (hb hby at_161) rfl rfl ?_
      refine Own.icmp_lt 173 165 X201 hx (hb hby at_162) (by decide) rfl (fun tk => ?_) (fun tk => absurd tk (by decide))
      refine Own.newObj 176 X201 hx hZ hown (w 34 rfl) (w 35 rfl) (w 36 rfl) rfl (hb hby at_173) rfl (by decide) (by decide) ?_
      intro T212 h212 tl z212 X212 e212 E212 A212 D212
      have ne_nd_tl : nd ≠ tl := Nat.ne_of_lt (Nat.lt_of_lt_of_le Ef_208.lt (Nat.le_of_eq z212.symm))
      have ne_nl_tl : nl ≠ tl := Nat.ne_of_lt (Nat.lt_of_lt_of_le Ef_206.lt (Nat.le_of_eq z212.symm))
      have ne_s0_tl : s0 ≠ tl := Nat.ne_of_lt (Nat.lt_of_lt_of_le Ef_203.lt (Nat.le_of_eq z212.symm))
      have ne_s1_tl : s1 ≠ tl := Nat.ne_of_lt (Nat.lt_of_lt_of_le Ef_204.lt (Nat.le_of_eq z212.symm))
      have ne_s2_tl : s2 ≠ tl := Nat.ne_of_lt (Nat.lt_of_lt_of_le Ef_205.lt (Nat.le_of_eq z212.symm))
      have g_tl : n0 ≤ tl := Nat.le_trans zl201 (Nat.le_of_eq z212.symm)
      have Ef_214 := Ef_203.ext E212
      have Ef_215 := Ef_204.ext E212
      have Ef_216 := Ef_205.ext E212
      have Ef_217 := Ef_206.ext E212
      have Ef_218 := Ef_208.ext E212
      have Vf_219 := V201.ext E212
      have Ff_220 := Fm201.ext E212
      have Ff_221 := Fe201.ext E212
      have Ff_222 := Fz201.ext E212
      have O212 := O201.ext E212
      have zl212 := Nat.le_trans zl201 E212.1
      have F212_modCount : Fld Z h212 tl "java/util/AbstractList" "modCount" "I" (.int (0 : Int32)) := D212 (Or.inl (w 54 rfl)) (ty := .int) (by decide)
      have F212_elementData : Fld Z h212 tl "java/util/ArrayList" "elementData" "[Ljava/lang/Object;" .null := D212 (Or.inl (w 57 rfl)) (ty := (.array (.object "java/lang/Object"))) (by decide)
      have F212_size : Fld Z h212 tl "java/util/ArrayList" "size" "I" (.int (0 : Int32)) := D212 (Or.inl (w 66 rfl)) (ty := .int) (by decide)
      refine Own.dup 177 X212 hx (hb hby at_176) rfl rfl ?_
      refine Own.callInit 180 1 tl [] [(.ref tl)] X212 hx hZ hown (m7 l Z a0 w tl dc em el mr kd n0 _ _ _ zl212 O212 SS A212 F212_modCount F212_elementData F212_size g_tl) rfl (w 37 rfl) (w 38 rfl) (w 36 rfl) (w 39 rfl) (by decide) e212 (by decide) (by decide) (by decide) (by decide) (by rw [hml]; rfl) (lenOf pd_0 rfl) rfl (Nat.le_of_eq rfl) (hb hby at_177) rfl ?_
      rintro vv T223 L223 X223 ⟨rfl, N223q, K223, Fm223, Fe223, Fz223⟩
      have N223 := Fr.app N201 N223q
      have O223 := O212.keep K223 (allS g_tl all0)
      have Ef_225 := Ef_214.keep K223
      have Ef_226 := Ef_215.keep K223
      have Ef_227 := Ef_216.keep K223
      have Ef_228 := Ef_217.keep K223
      have Ef_229 := Ef_218.keep K223
      have Vf_230 := Vf_219.keep K223 (ninS ne_nd_tl nin0)
      have Ff_231 := Ff_220.keep K223 (ninS ne_nl_tl nin0)
      have Ff_232 := Ff_221.keep K223 (ninS ne_nl_tl nin0)
      have Ff_233 := Ff_222.keep K223 (ninS ne_nl_tl nin0)
      have Ef_234 := A212.keep K223
      have zl223 := Nat.le_trans zl212 K223.1
      refine Own.astore 182 #[.val (.int x0), .val (.int x1), .val (.int x2), .val (.int x3), .val (.ref s0), .val (.ref s1), .val (.ref s2), .val (.int (2 : Int32)), .val (.ref ki), .val (.ref nl), .val (.ref tl), .unset] X223 hx (hb hby at_180) rfl rfl rfl ?_
      refine Own.iloadN 183 X223 hx (hb hby at_182) rfl rfl ?_
      refine Own.iconst 184 X223 hx ((2 : Int32)) (hb hby at_183) rfl rfl ?_
      refine Own.iand 185 X223 hx (hb hby at_184) rfl rfl ?_
      refine Own.if_eq 196 188 X223 hx (hb hby at_185) (by decide) rfl (fun b2 => ?_) (fun b2 => ?_)
      ·
        refine Own.newObj 199 X223 hx hZ hown (w 89 rfl) (w 90 rfl) (w 91 rfl) rfl (hb hby at_196) rfl (by decide) (by decide) ?_
        intro T238 h238 dd z238 X238 e238 E238 A238 D238
        have ne_nd_dd : nd ≠ dd := Nat.ne_of_lt (Nat.lt_of_lt_of_le Ef_229.lt (Nat.le_of_eq z238.symm))
        have ne_nl_dd : nl ≠ dd := Nat.ne_of_lt (Nat.lt_of_lt_of_le Ef_228.lt (Nat.le_of_eq z238.symm))
        have ne_s0_dd : s0 ≠ dd := Nat.ne_of_lt (Nat.lt_of_lt_of_le Ef_225.lt (Nat.le_of_eq z238.symm))
        have ne_s1_dd : s1 ≠ dd := Nat.ne_of_lt (Nat.lt_of_lt_of_le Ef_226.lt (Nat.le_of_eq z238.symm))
        have ne_s2_dd : s2 ≠ dd := Nat.ne_of_lt (Nat.lt_of_lt_of_le Ef_227.lt (Nat.le_of_eq z238.symm))
        have ne_tl_dd : tl ≠ dd := Nat.ne_of_lt (Nat.lt_of_lt_of_le Ef_234.lt (Nat.le_of_eq z238.symm))
        have g_dd : n0 ≤ dd := Nat.le_trans zl223 (Nat.le_of_eq z238.symm)
        have Ef_240 := Ef_225.ext E238
        have Ef_241 := Ef_226.ext E238
        have Ef_242 := Ef_227.ext E238
        have Ef_243 := Ef_228.ext E238
        have Ef_244 := Ef_229.ext E238
        have Vf_245 := Vf_230.ext E238
        have Ff_246 := Ff_231.ext E238
        have Ff_247 := Ff_232.ext E238
        have Ff_248 := Ff_233.ext E238
        have Ef_249 := Ef_234.ext E238
        have Ff_250 := Fm223.ext E238
        have Ff_251 := Fe223.ext E238
        have Ff_252 := Fz223.ext E238
        have O238 := O223.ext E238
        have zl238 := Nat.le_trans zl223 E238.1
        have F238_kind : Fld Z h238 dd "com/example/bindgate/bindgate/idl/Declaration" "kind" "Lcom/example/bindgate/bindgate/idl/Declaration$Kind;" .null := D238 (Or.inr (w 97 rfl)) (ty := (.object "com/example/bindgate/bindgate/idl/Declaration$Kind")) (by decide)
        have F238_names : Fld Z h238 dd "com/example/bindgate/bindgate/idl/Declaration" "names" "Ljava/util/List;" .null := D238 (Or.inr (w 185 rfl)) (ty := (.object "java/util/List")) (by decide)
        have F238_tokens : Fld Z h238 dd "com/example/bindgate/bindgate/idl/Declaration" "tokens" "Ljava/util/List;" .null := D238 (Or.inr (w 191 rfl)) (ty := (.object "java/util/List")) (by decide)
        refine Own.dup 200 X238 hx (hb hby at_199) rfl rfl ?_
        refine Own.aload 202 X238 hx (hb hby at_200) rfl rfl rfl ?_
        refine Own.aload 204 X238 hx (hb hby at_202) rfl rfl rfl ?_
        refine Own.aload 206 X238 hx (hb hby at_204) rfl rfl rfl ?_
        refine Own.callInit 209 1 dd [(.ref ki), (.ref nl), (.ref tl)] [(.ref dd)] X238 hx hZ hown (m15_2_0 l Z a0 w dd ki nl tl dc em el mr kd n0 _ _ _ _ _ nd s0 s1 k96  _ zl238 O238 SS A238 F238_kind F238_names F238_tokens g_dd Ef_240 Ef_241 Ef_243 g_nl Ff_246 Ff_247 Ff_248 Vf_245 Ov96 Ef_244 Ef_249 g_tl Ff_250 Ff_251 Ff_252 ne_s0_dd ne_s1_dd ne_nl_dd ne_nd_dd ne_tl_dd) rfl (w 92 rfl) (w 93 rfl) (w 91 rfl) (w 94 rfl) (by decide) e238 (by decide) (by decide) (by decide) (by decide) (by rw [hml]; rfl) (lenOf pd_18 rfl) rfl (Nat.le_of_eq rfl) (hb hby at_206) rfl ?_
        rintro vv T253 L253 X253 ⟨li, rfl, N253q, K253, Fn253, El253, Fl253⟩
        have N253 := Fr.app N223 N253q
        have O253 := O238.keep K253 (allS g_dd all0)
        have Ef_255 := Ef_240.keep K253
        have Ef_256 := Ef_241.keep K253
        have Ef_257 := Ef_242.keep K253
        have Ef_258 := Ef_243.keep K253
        have Ef_259 := Ef_244.keep K253
        have Ef_260 := Ef_249.keep K253
        have Ef_261 := A238.keep K253
        have zl253 := Nat.le_trans zl238 K253.1
        refine Own.astore 211 #[.val (.int x0), .val (.int x1), .val (.int x2), .val (.int x3), .val (.ref s0), .val (.ref s1), .val (.ref s2), .val (.int (2 : Int32)), .val (.ref ki), .val (.ref nl), .val (.ref tl), .val (.ref dd)] X253 hx (hb hby at_209) rfl rfl rfl ?_
        refine Own.aload 213 X253 hx (hb hby at_211) rfl rfl rfl ?_
        refine Own.aload 215 X253 hx (hb hby at_213) rfl rfl rfl ?_
        refine Own.callVt 218 1 dd [] [(.ref s0)] X253 hx hZ hown (m29_12 l Z a0 w dd li s0 _ Fn253 Ef_255 El253 Fl253 ) Ef_261 (notFace_of_selects (args := #[]) (mvT hZ (w 195 rfl))) (w 192 rfl) (w 193 rfl) (w 195 rfl) (w 194 rfl) (w 91 rfl) (w 196 rfl) (by decide) rfl (by decide) (by decide) (by decide) (by decide) (by rw [hml]; rfl) (lenOf pd_19 rfl) rfl (Nat.le_of_eq rfl) (hb hby at_215) rfl ?_
        rintro vv T262 L262 X262 ⟨rfl, hh262, rfl⟩
        have N262 := Fr.app N253 (Fr.nil _)
        refine Own.callVt 221 0 s0 [(.ref s0)] [] X262 hx hZ hown (m31 l Z a0 w s0 s0 _) Ef_255 (notFace_of_selects (args := #[]) (mvT hZ (w 210 rfl))) (w 207 rfl) (w 208 rfl) (w 210 rfl) (w 209 rfl) (w 2 rfl) (w 211 rfl) (by decide) hh262 (by decide) (by decide) (by decide) (by decide) (by rw [hml]; rfl) (lenOf pd_17 rfl) rfl (Nat.le_of_eq rfl) (hb hby at_218) rfl ?_
        rintro vv T263 L263 X263 ⟨rfl, hh263, rfl⟩
        have N263 := Fr.app N262 (Fr.nil _)
        refine Own.retBool X263 hx hlk hret (hb hby at_221) (by decide) (by decide) ?_
        exact ⟨rfl, N263⟩
      ·
        refine Own.aload 190 X223 hx (hb hby at_188) rfl rfl rfl ?_
        refine Own.aload 192 X223 hx (hb hby at_190) rfl rfl rfl ?_
        refine Own.callVt 195 0 tl [(.ref s2)] [] X223 hx hZ hown (m10_0 l Z a0 w tl s2 dc em el mr kd n0 _ _ zl223 O223 SS Ef_234 Fm223 Fe223 Fz223 g_tl Ef_227) Ef_234 (notFace_of_selects (args := #[]) (mvT hZ (w 61 rfl))) (w 58 rfl) (w 59 rfl) (w 61 rfl) (w 60 rfl) (w 36 rfl) (w 62 rfl) (by decide) rfl (by decide) (by decide) (by decide) (by decide) (by rw [hml]; rfl) (lenOf pd_17 rfl) rfl (Nat.le_of_eq rfl) (hb hby at_192) rfl ?_
        rintro vv T264 L264 X264 ⟨td, k264, rfl, N264q, K264, sz_td, g_td, Fm264, Fe264, Fz264, V264, Ov264, Ex264⟩
        have ne_tl_td : tl ≠ td := Nat.ne_of_lt (Nat.lt_of_lt_of_le Ef_234.lt sz_td)
        have N264 := Fr.app N223 N264q
        have O264 := O223.keep K264 (allS g_tl all0)
        have Ef_266 := Ef_225.keep K264
        have Ef_267 := Ef_226.keep K264
        have Ef_268 := Ef_227.keep K264
        have Ef_269 := Ef_228.keep K264
        have Ef_270 := Ef_229.keep K264
        have Vf_271 := Vf_230.keep K264 (ninS ne_nd_tl nin0)
        have Ff_272 := Ff_231.keep K264 (ninS ne_nl_tl nin0)
        have Ff_273 := Ff_232.keep K264 (ninS ne_nl_tl nin0)
        have Ff_274 := Ff_233.keep K264 (ninS ne_nl_tl nin0)
        have Ef_275 := Ef_234.keep K264
        have zl264 := Nat.le_trans zl223 K264.1
        refine Own.pop 196 X264 hx (hb hby at_195) rfl rfl ?_
        refine Own.newObj 199 X264 hx hZ hown (w 89 rfl) (w 90 rfl) (w 91 rfl) rfl (hb hby at_196) rfl (by decide) (by decide) ?_
        intro T279 h279 dd z279 X279 e279 E279 A279 D279
        have ne_nd_dd : nd ≠ dd := Nat.ne_of_lt (Nat.lt_of_lt_of_le Ef_270.lt (Nat.le_of_eq z279.symm))
        have ne_nl_dd : nl ≠ dd := Nat.ne_of_lt (Nat.lt_of_lt_of_le Ef_269.lt (Nat.le_of_eq z279.symm))
        have ne_s0_dd : s0 ≠ dd := Nat.ne_of_lt (Nat.lt_of_lt_of_le Ef_266.lt (Nat.le_of_eq z279.symm))
        have ne_s1_dd : s1 ≠ dd := Nat.ne_of_lt (Nat.lt_of_lt_of_le Ef_267.lt (Nat.le_of_eq z279.symm))
        have ne_s2_dd : s2 ≠ dd := Nat.ne_of_lt (Nat.lt_of_lt_of_le Ef_268.lt (Nat.le_of_eq z279.symm))
        have ne_td_dd : td ≠ dd := Nat.ne_of_lt (Nat.lt_of_lt_of_le V264.lt (Nat.le_of_eq z279.symm))
        have ne_tl_dd : tl ≠ dd := Nat.ne_of_lt (Nat.lt_of_lt_of_le Ef_275.lt (Nat.le_of_eq z279.symm))
        have g_dd : n0 ≤ dd := Nat.le_trans zl264 (Nat.le_of_eq z279.symm)
        have Ef_281 := Ef_266.ext E279
        have Ef_282 := Ef_267.ext E279
        have Ef_283 := Ef_268.ext E279
        have Ef_284 := Ef_269.ext E279
        have Ef_285 := Ef_270.ext E279
        have Vf_286 := Vf_271.ext E279
        have Ff_287 := Ff_272.ext E279
        have Ff_288 := Ff_273.ext E279
        have Ff_289 := Ff_274.ext E279
        have Ef_290 := Ef_275.ext E279
        have Vf_291 := V264.ext E279
        have Ef_292 := Ex264.ext E279
        have Ff_293 := Fm264.ext E279
        have Ff_294 := Fe264.ext E279
        have Ff_295 := Fz264.ext E279
        have O279 := O264.ext E279
        have zl279 := Nat.le_trans zl264 E279.1
        have F279_kind : Fld Z h279 dd "com/example/bindgate/bindgate/idl/Declaration" "kind" "Lcom/example/bindgate/bindgate/idl/Declaration$Kind;" .null := D279 (Or.inr (w 97 rfl)) (ty := (.object "com/example/bindgate/bindgate/idl/Declaration$Kind")) (by decide)
        have F279_names : Fld Z h279 dd "com/example/bindgate/bindgate/idl/Declaration" "names" "Ljava/util/List;" .null := D279 (Or.inr (w 185 rfl)) (ty := (.object "java/util/List")) (by decide)
        have F279_tokens : Fld Z h279 dd "com/example/bindgate/bindgate/idl/Declaration" "tokens" "Ljava/util/List;" .null := D279 (Or.inr (w 191 rfl)) (ty := (.object "java/util/List")) (by decide)
        refine Own.dup 200 X279 hx (hb hby at_199) rfl rfl ?_
        refine Own.aload 202 X279 hx (hb hby at_200) rfl rfl rfl ?_
        refine Own.aload 204 X279 hx (hb hby at_202) rfl rfl rfl ?_
        refine Own.aload 206 X279 hx (hb hby at_204) rfl rfl rfl ?_
        refine Own.callInit 209 1 dd [(.ref ki), (.ref nl), (.ref tl)] [(.ref dd)] X279 hx hZ hown (m15_2_1 l Z a0 w dd ki nl tl dc em el mr kd n0 _ _ _ _ _ nd s0 s1 s2 k96 td k264 _ zl279 O279 SS A279 F279_kind F279_names F279_tokens g_dd Ef_281 Ef_282 Ef_283 Ef_284 g_nl Ff_287 Ff_288 Ff_289 Vf_286 Ov96 Ef_285 Ef_290 g_tl Ff_293 Ff_294 Ff_295 Vf_291 Ov264 Ef_292 ne_s0_dd ne_s1_dd ne_s2_dd ne_nl_dd ne_nd_dd ne_tl_dd ne_td_dd) rfl (w 92 rfl) (w 93 rfl) (w 91 rfl) (w 94 rfl) (by decide) e279 (by decide) (by decide) (by decide) (by decide) (by rw [hml]; rfl) (lenOf pd_18 rfl) rfl (Nat.le_of_eq rfl) (hb hby at_206) rfl ?_
        rintro vv T296 L296 X296 ⟨li, rfl, N296q, K296, Fn296, El296, Fl296⟩
        have N296 := Fr.app N264 N296q
        have O296 := O279.keep K296 (allS g_dd all0)
        have Ef_298 := Ef_281.keep K296
        have Ef_299 := Ef_282.keep K296
        have Ef_300 := Ef_283.keep K296
        have Ef_301 := Ef_284.keep K296
        have Ef_302 := Ef_285.keep K296
        have Ef_303 := Ef_290.keep K296
        have Ef_304 := Ef_292.keep K296
        have Ef_305 := A279.keep K296
        have zl296 := Nat.le_trans zl279 K296.1
        refine Own.astore 211 #[.val (.int x0), .val (.int x1), .val (.int x2), .val (.int x3), .val (.ref s0), .val (.ref s1), .val (.ref s2), .val (.int (2 : Int32)), .val (.ref ki), .val (.ref nl), .val (.ref tl), .val (.ref dd)] X296 hx (hb hby at_209) rfl rfl rfl ?_
        refine Own.aload 213 X296 hx (hb hby at_211) rfl rfl rfl ?_
        refine Own.aload 215 X296 hx (hb hby at_213) rfl rfl rfl ?_
        refine Own.callVt 218 1 dd [] [(.ref s0)] X296 hx hZ hown (m29_12 l Z a0 w dd li s0 _ Fn296 Ef_298 El296 Fl296 ) Ef_305 (notFace_of_selects (args := #[]) (mvT hZ (w 195 rfl))) (w 192 rfl) (w 193 rfl) (w 195 rfl) (w 194 rfl) (w 91 rfl) (w 196 rfl) (by decide) rfl (by decide) (by decide) (by decide) (by decide) (by rw [hml]; rfl) (lenOf pd_19 rfl) rfl (Nat.le_of_eq rfl) (hb hby at_215) rfl ?_
        rintro vv T306 L306 X306 ⟨rfl, hh306, rfl⟩
        have N306 := Fr.app N296 (Fr.nil _)
        refine Own.callVt 221 0 s0 [(.ref s0)] [] X306 hx hZ hown (m31 l Z a0 w s0 s0 _) Ef_298 (notFace_of_selects (args := #[]) (mvT hZ (w 210 rfl))) (w 207 rfl) (w 208 rfl) (w 210 rfl) (w 209 rfl) (w 2 rfl) (w 211 rfl) (by decide) hh306 (by decide) (by decide) (by decide) (by decide) (by rw [hml]; rfl) (lenOf pd_17 rfl) rfl (Nat.le_of_eq rfl) (hb hby at_218) rfl ?_
        rintro vv T307 L307 X307 ⟨rfl, hh307, rfl⟩
        have N307 := Fr.app N306 (Fr.nil _)
        refine Own.retBool X307 hx hlk hret (hb hby at_221) (by decide) (by decide) ?_
        exact ⟨rfl, N307⟩
    ·
      refine Own.icmp_lt 159 151 X96 hx (hb hby at_148) (by decide) rfl (fun tk => absurd tk (by decide)) (fun tk => ?_)
      refine Own.aload 153 X96 hx (hb hby at_151) rfl rfl rfl ?_
      refine Own.aload 155 X96 hx (hb hby at_153) rfl rfl rfl ?_
      refine Own.callVt 158 0 nl [(.ref s1)] [] X96 hx hZ hown (m10_1 l Z a0 w nl s1 dc em el mr kd n0 _ nd s0 k96 _ zl96 O96 SS Ef_101 Fm96 Fe96 Fz96 g_nl Ef_98 Ef_99 g_nd ne_nl_nd V96 Ov96 Ex96) Ef_101 (notFace_of_selects (args := #[]) (mvT hZ (w 61 rfl))) (w 58 rfl) (w 59 rfl) (w 61 rfl) (w 60 rfl) (w 36 rfl) (w 62 rfl) (by decide) rfl (by decide) (by decide) (by decide) (by decide) (by rw [hml]; rfl) (lenOf pd_17 rfl) rfl (Nat.le_of_eq rfl) (hb hby at_155) rfl ?_
      rintro vv T308 L308 X308 ⟨rfl, N308q, K308, Fm308, Fe308, Fz308, V308⟩
      have N308 := Fr.app N96 N308q
      have O308 := O96.keep K308 (allS g_nl (allS g_nd all0))
      have Ef_310 := Ef_98.keep K308
      have Ef_311 := Ef_99.keep K308
      have Ef_312 := Ef_100.keep K308
      have Ef_313 := Ef_101.keep K308
      have Ef_315 := Ex96.keep K308
      have zl308 := Nat.le_trans zl96 K308.1
      refine Own.pop 159 X308 hx (hb hby at_158) rfl rfl ?_
      refine Own.iload 161 X308 hx (hb hby at_159) rfl rfl ?_
      refine Own.iconst 162 X308 hx ((3 : Int32)) (hb hby at_161) rfl rfl ?_
      refine Own.icmp_lt 173 165 X308 hx (hb hby at_162) (by decide) rfl (fun tk => absurd tk (by decide)) (fun tk => ?_)
      refine Own.aload 167 X308 hx (hb hby at_165) rfl rfl rfl ?_
      refine Own.aload 169 X308 hx (hb hby at_167) rfl rfl rfl ?_
      refine Own.callVt 172 0 nl [(.ref s2)] [] X308 hx hZ hown (m10_2 l Z a0 w nl s2 dc em el mr kd n0 _ nd s0 s1 k96 _ zl308 O308 SS Ef_313 Fm308 Fe308 Fz308 g_nl Ef_310 Ef_311 Ef_312 g_nd ne_nl_nd V308 Ov96 Ef_315) Ef_313 (notFace_of_selects (args := #[]) (mvT hZ (w 61 rfl))) (w 58 rfl) (w 59 rfl) (w 61 rfl) (w 60 rfl) (w 36 rfl) (w 62 rfl) (by decide) rfl (by decide) (by decide) (by decide) (by decide) (by rw [hml]; rfl) (lenOf pd_17 rfl) rfl (Nat.le_of_eq rfl) (hb hby at_169) rfl ?_
      rintro vv T319 L319 X319 ⟨rfl, N319q, K319, Fm319, Fe319, Fz319, V319⟩
      have N319 := Fr.app N308 N319q
      have O319 := O308.keep K319 (allS g_nl (allS g_nd all0))
      have Ef_321 := Ef_310.keep K319
      have Ef_322 := Ef_311.keep K319
      have Ef_323 := Ef_312.keep K319
      have Ef_324 := Ef_313.keep K319
      have Ef_325 := Ef_315.keep K319
      have zl319 := Nat.le_trans zl308 K319.1
      refine Own.pop 173 X319 hx (hb hby at_172) rfl rfl ?_
      refine Own.newObj 176 X319 hx hZ hown (w 34 rfl) (w 35 rfl) (w 36 rfl) rfl (hb hby at_173) rfl (by decide) (by decide) ?_
      intro T330 h330 tl z330 X330 e330 E330 A330 D330
      have ne_nd_tl : nd ≠ tl := Nat.ne_of_lt (Nat.lt_of_lt_of_le Ef_325.lt (Nat.le_of_eq z330.symm))
      have ne_nl_tl : nl ≠ tl := Nat.ne_of_lt (Nat.lt_of_lt_of_le Ef_324.lt (Nat.le_of_eq z330.symm))
      have ne_s0_tl : s0 ≠ tl := Nat.ne_of_lt (Nat.lt_of_lt_of_le Ef_321.lt (Nat.le_of_eq z330.symm))
      have ne_s1_tl : s1 ≠ tl := Nat.ne_of_lt (Nat.lt_of_lt_of_le Ef_322.lt (Nat.le_of_eq z330.symm))
      have ne_s2_tl : s2 ≠ tl := Nat.ne_of_lt (Nat.lt_of_lt_of_le Ef_323.lt (Nat.le_of_eq z330.symm))
      have g_tl : n0 ≤ tl := Nat.le_trans zl319 (Nat.le_of_eq z330.symm)
      have Ef_332 := Ef_321.ext E330
      have Ef_333 := Ef_322.ext E330
      have Ef_334 := Ef_323.ext E330
      have Ef_335 := Ef_324.ext E330
      have Ef_336 := Ef_325.ext E330
      have Vf_337 := V319.ext E330
      have Ff_338 := Fm319.ext E330
      have Ff_339 := Fe319.ext E330
      have Ff_340 := Fz319.ext E330
      have O330 := O319.ext E330
      have zl330 := Nat.le_trans zl319 E330.1
      have F330_modCount : Fld Z h330 tl "java/util/AbstractList" "modCount" "I" (.int (0 : Int32)) := D330 (Or.inl (w 54 rfl)) (ty := .int) (by decide)
      have F330_elementData : Fld Z h330 tl "java/util/ArrayList" "elementData" "[Ljava/lang/Object;" .null := D330 (Or.inl (w 57 rfl)) (ty := (.array (.object "java/lang/Object"))) (by decide)
      have F330_size : Fld Z h330 tl "java/util/ArrayList" "size" "I" (.int (0 : Int32)) := D330 (Or.inl (w 66 rfl)) (ty := .int) (by decide)
      refine Own.dup 177 X330 hx (hb hby at_176) rfl rfl ?_
      refine Own.callInit 180 1 tl [] [(.ref tl)] X330 hx hZ hown (m7 l Z a0 w tl dc em el mr kd n0 _ _ _ zl330 O330 SS A330 F330_modCount F330_elementData F330_size g_tl) rfl (w 37 rfl) (w 38 rfl) (w 36 rfl) (w 39 rfl) (by decide) e330 (by decide) (by decide) (by decide) (by decide) (by rw [hml]; rfl) (lenOf pd_0 rfl) rfl (Nat.le_of_eq rfl) (hb hby at_177) rfl ?_
      rintro vv T341 L341 X341 ⟨rfl, N341q, K341, Fm341, Fe341, Fz341⟩
      have N341 := Fr.app N319 N341q
      have O341 := O330.keep K341 (allS g_tl all0)
      have Ef_343 := Ef_332.keep K341
      have Ef_344 := Ef_333.keep K341
      have Ef_345 := Ef_334.keep K341
      have Ef_346 := Ef_335.keep K341
      have Ef_347 := Ef_336.keep K341
      have Vf_348 := Vf_337.keep K341 (ninS ne_nd_tl nin0)
      have Ff_349 := Ff_338.keep K341 (ninS ne_nl_tl nin0)
      have Ff_350 := Ff_339.keep K341 (ninS ne_nl_tl nin0)
      have Ff_351 := Ff_340.keep K341 (ninS ne_nl_tl nin0)
      have Ef_352 := A330.keep K341
      have zl341 := Nat.le_trans zl330 K341.1
      refine Own.astore 182 #[.val (.int x0), .val (.int x1), .val (.int x2), .val (.int x3), .val (.ref s0), .val (.ref s1), .val (.ref s2), .val (.int (3 : Int32)), .val (.ref ki), .val (.ref nl), .val (.ref tl), .unset] X341 hx (hb hby at_180) rfl rfl rfl ?_
      refine Own.iloadN 183 X341 hx (hb hby at_182) rfl rfl ?_
      refine Own.iconst 184 X341 hx ((2 : Int32)) (hb hby at_183) rfl rfl ?_
      refine Own.iand 185 X341 hx (hb hby at_184) rfl rfl ?_
      refine Own.if_eq 196 188 X341 hx (hb hby at_185) (by decide) rfl (fun b2 => ?_) (fun b2 => ?_)
      ·
        refine Own.newObj 199 X341 hx hZ hown (w 89 rfl) (w 90 rfl) (w 91 rfl) rfl (hb hby at_196) rfl (by decide) (by decide) ?_
        intro T356 h356 dd z356 X356 e356 E356 A356 D356
        have ne_nd_dd : nd ≠ dd := Nat.ne_of_lt (Nat.lt_of_lt_of_le Ef_347.lt (Nat.le_of_eq z356.symm))
        have ne_nl_dd : nl ≠ dd := Nat.ne_of_lt (Nat.lt_of_lt_of_le Ef_346.lt (Nat.le_of_eq z356.symm))
        have ne_s0_dd : s0 ≠ dd := Nat.ne_of_lt (Nat.lt_of_lt_of_le Ef_343.lt (Nat.le_of_eq z356.symm))
        have ne_s1_dd : s1 ≠ dd := Nat.ne_of_lt (Nat.lt_of_lt_of_le Ef_344.lt (Nat.le_of_eq z356.symm))
        have ne_s2_dd : s2 ≠ dd := Nat.ne_of_lt (Nat.lt_of_lt_of_le Ef_345.lt (Nat.le_of_eq z356.symm))
        have ne_tl_dd : tl ≠ dd := Nat.ne_of_lt (Nat.lt_of_lt_of_le Ef_352.lt (Nat.le_of_eq z356.symm))
        have g_dd : n0 ≤ dd := Nat.le_trans zl341 (Nat.le_of_eq z356.symm)
        have Ef_358 := Ef_343.ext E356
        have Ef_359 := Ef_344.ext E356
        have Ef_360 := Ef_345.ext E356
        have Ef_361 := Ef_346.ext E356
        have Ef_362 := Ef_347.ext E356
        have Vf_363 := Vf_348.ext E356
        have Ff_364 := Ff_349.ext E356
        have Ff_365 := Ff_350.ext E356
        have Ff_366 := Ff_351.ext E356
        have Ef_367 := Ef_352.ext E356
        have Ff_368 := Fm341.ext E356
        have Ff_369 := Fe341.ext E356
        have Ff_370 := Fz341.ext E356
        have O356 := O341.ext E356
        have zl356 := Nat.le_trans zl341 E356.1
        have F356_kind : Fld Z h356 dd "com/example/bindgate/bindgate/idl/Declaration" "kind" "Lcom/example/bindgate/bindgate/idl/Declaration$Kind;" .null := D356 (Or.inr (w 97 rfl)) (ty := (.object "com/example/bindgate/bindgate/idl/Declaration$Kind")) (by decide)
        have F356_names : Fld Z h356 dd "com/example/bindgate/bindgate/idl/Declaration" "names" "Ljava/util/List;" .null := D356 (Or.inr (w 185 rfl)) (ty := (.object "java/util/List")) (by decide)
        have F356_tokens : Fld Z h356 dd "com/example/bindgate/bindgate/idl/Declaration" "tokens" "Ljava/util/List;" .null := D356 (Or.inr (w 191 rfl)) (ty := (.object "java/util/List")) (by decide)
        refine Own.dup 200 X356 hx (hb hby at_199) rfl rfl ?_
        refine Own.aload 202 X356 hx (hb hby at_200) rfl rfl rfl ?_
        refine Own.aload 204 X356 hx (hb hby at_202) rfl rfl rfl ?_
        refine Own.aload 206 X356 hx (hb hby at_204) rfl rfl rfl ?_
        refine Own.callInit 209 1 dd [(.ref ki), (.ref nl), (.ref tl)] [(.ref dd)] X356 hx hZ hown (m15_3_0 l Z a0 w dd ki nl tl dc em el mr kd n0 _ _ _ _ _ nd s0 s1 s2 k96  _ zl356 O356 SS A356 F356_kind F356_names F356_tokens g_dd Ef_358 Ef_359 Ef_360 Ef_361 g_nl Ff_364 Ff_365 Ff_366 Vf_363 Ov96 Ef_362 Ef_367 g_tl Ff_368 Ff_369 Ff_370 ne_s0_dd ne_s1_dd ne_s2_dd ne_nl_dd ne_nd_dd ne_tl_dd) rfl (w 92 rfl) (w 93 rfl) (w 91 rfl) (w 94 rfl) (by decide) e356 (by decide) (by decide) (by decide) (by decide) (by rw [hml]; rfl) (lenOf pd_18 rfl) rfl (Nat.le_of_eq rfl) (hb hby at_206) rfl ?_
        rintro vv T371 L371 X371 ⟨li, ar, ka, rfl, N371q, K371, Fn371, El371, Fl371, Va371⟩
        have N371 := Fr.app N341 N371q
        have O371 := O356.keep K371 (allS g_dd all0)
        have Ef_373 := Ef_358.keep K371
        have Ef_374 := Ef_359.keep K371
        have Ef_375 := Ef_360.keep K371
        have Ef_376 := Ef_361.keep K371
        have Ef_377 := Ef_362.keep K371
        have Ef_378 := Ef_367.keep K371
        have Ef_379 := A356.keep K371
        have zl371 := Nat.le_trans zl356 K371.1
        refine Own.astore 211 #[.val (.int x0), .val (.int x1), .val (.int x2), .val (.int x3), .val (.ref s0), .val (.ref s1), .val (.ref s2), .val (.int (3 : Int32)), .val (.ref ki), .val (.ref nl), .val (.ref tl), .val (.ref dd)] X371 hx (hb hby at_209) rfl rfl rfl ?_
        refine Own.aload 213 X371 hx (hb hby at_211) rfl rfl rfl ?_
        refine Own.aload 215 X371 hx (hb hby at_213) rfl rfl rfl ?_
        refine Own.callVt 218 1 dd [] [(.ref s0)] X371 hx hZ hown (m29_3 l Z a0 w dd li ar s0 s1 s2 ka _ Fn371 Ef_373 El371 Fl371 Va371) Ef_379 (notFace_of_selects (args := #[]) (mvT hZ (w 195 rfl))) (w 192 rfl) (w 193 rfl) (w 195 rfl) (w 194 rfl) (w 91 rfl) (w 196 rfl) (by decide) rfl (by decide) (by decide) (by decide) (by decide) (by rw [hml]; rfl) (lenOf pd_19 rfl) rfl (Nat.le_of_eq rfl) (hb hby at_215) rfl ?_
        rintro vv T380 L380 X380 ⟨rfl, hh380, rfl⟩
        have N380 := Fr.app N371 (Fr.nil _)
        refine Own.callVt 221 0 s0 [(.ref s0)] [] X380 hx hZ hown (m31 l Z a0 w s0 s0 _) Ef_373 (notFace_of_selects (args := #[]) (mvT hZ (w 210 rfl))) (w 207 rfl) (w 208 rfl) (w 210 rfl) (w 209 rfl) (w 2 rfl) (w 211 rfl) (by decide) hh380 (by decide) (by decide) (by decide) (by decide) (by rw [hml]; rfl) (lenOf pd_17 rfl) rfl (Nat.le_of_eq rfl) (hb hby at_218) rfl ?_
        rintro vv T381 L381 X381 ⟨rfl, hh381, rfl⟩
        have N381 := Fr.app N380 (Fr.nil _)
        refine Own.retBool X381 hx hlk hret (hb hby at_221) (by decide) (by decide) ?_
        exact ⟨rfl, N381⟩
      ·
        refine Own.aload 190 X341 hx (hb hby at_188) rfl rfl rfl ?_
        refine Own.aload 192 X341 hx (hb hby at_190) rfl rfl rfl ?_
        refine Own.callVt 195 0 tl [(.ref s2)] [] X341 hx hZ hown (m10_0 l Z a0 w tl s2 dc em el mr kd n0 _ _ zl341 O341 SS Ef_352 Fm341 Fe341 Fz341 g_tl Ef_345) Ef_352 (notFace_of_selects (args := #[]) (mvT hZ (w 61 rfl))) (w 58 rfl) (w 59 rfl) (w 61 rfl) (w 60 rfl) (w 36 rfl) (w 62 rfl) (by decide) rfl (by decide) (by decide) (by decide) (by decide) (by rw [hml]; rfl) (lenOf pd_17 rfl) rfl (Nat.le_of_eq rfl) (hb hby at_192) rfl ?_
        rintro vv T382 L382 X382 ⟨td, k382, rfl, N382q, K382, sz_td, g_td, Fm382, Fe382, Fz382, V382, Ov382, Ex382⟩
        have ne_tl_td : tl ≠ td := Nat.ne_of_lt (Nat.lt_of_lt_of_le Ef_352.lt sz_td)
        have N382 := Fr.app N341 N382q
        have O382 := O341.keep K382 (allS g_tl all0)
        have Ef_384 := Ef_343.keep K382
        have Ef_385 := Ef_344.keep K382
        have Ef_386 := Ef_345.keep K382
        have Ef_387 := Ef_346.keep K382
        have Ef_388 := Ef_347.keep K382
        have Vf_389 := Vf_348.keep K382 (ninS ne_nd_tl nin0)
        have Ff_390 := Ff_349.keep K382 (ninS ne_nl_tl nin0)
        have Ff_391 := Ff_350.keep K382 (ninS ne_nl_tl nin0)
        have Ff_392 := Ff_351.keep K382 (ninS ne_nl_tl nin0)
        have Ef_393 := Ef_352.keep K382
        have zl382 := Nat.le_trans zl341 K382.1
        refine Own.pop 196 X382 hx (hb hby at_195) rfl rfl ?_
        refine Own.newObj 199 X382 hx hZ hown (w 89 rfl) (w 90 rfl) (w 91 rfl) rfl (hb hby at_196) rfl (by decide) (by decide) ?_
        intro T397 h397 dd z397 X397 e397 E397 A397 D397
        have ne_nd_dd : nd ≠ dd := Nat.ne_of_lt (Nat.lt_of_lt_of_le Ef_388.lt (Nat.le_of_eq z397.symm))
        have ne_nl_dd : nl ≠ dd := Nat.ne_of_lt (Nat.lt_of_lt_of_le Ef_387.lt (Nat.le_of_eq z397.symm))
        have ne_s0_dd : s0 ≠ dd := Nat.ne_of_lt (Nat.lt_of_lt_of_le Ef_384.lt (Nat.le_of_eq z397.symm))
        have ne_s1_dd : s1 ≠ dd := Nat.ne_of_lt (Nat.lt_of_lt_of_le Ef_385.lt (Nat.le_of_eq z397.symm))
        have ne_s2_dd : s2 ≠ dd := Nat.ne_of_lt (Nat.lt_of_lt_of_le Ef_386.lt (Nat.le_of_eq z397.symm))
        have ne_td_dd : td ≠ dd := Nat.ne_of_lt (Nat.lt_of_lt_of_le V382.lt (Nat.le_of_eq z397.symm))
        have ne_tl_dd : tl ≠ dd := Nat.ne_of_lt (Nat.lt_of_lt_of_le Ef_393.lt (Nat.le_of_eq z397.symm))
        have g_dd : n0 ≤ dd := Nat.le_trans zl382 (Nat.le_of_eq z397.symm)
        have Ef_399 := Ef_384.ext E397
        have Ef_400 := Ef_385.ext E397
        have Ef_401 := Ef_386.ext E397
        have Ef_402 := Ef_387.ext E397
        have Ef_403 := Ef_388.ext E397
        have Vf_404 := Vf_389.ext E397
        have Ff_405 := Ff_390.ext E397
        have Ff_406 := Ff_391.ext E397
        have Ff_407 := Ff_392.ext E397
        have Ef_408 := Ef_393.ext E397
        have Vf_409 := V382.ext E397
        have Ef_410 := Ex382.ext E397
        have Ff_411 := Fm382.ext E397
        have Ff_412 := Fe382.ext E397
        have Ff_413 := Fz382.ext E397
        have O397 := O382.ext E397
        have zl397 := Nat.le_trans zl382 E397.1
        have F397_kind : Fld Z h397 dd "com/example/bindgate/bindgate/idl/Declaration" "kind" "Lcom/example/bindgate/bindgate/idl/Declaration$Kind;" .null := D397 (Or.inr (w 97 rfl)) (ty := (.object "com/example/bindgate/bindgate/idl/Declaration$Kind")) (by decide)
        have F397_names : Fld Z h397 dd "com/example/bindgate/bindgate/idl/Declaration" "names" "Ljava/util/List;" .null := D397 (Or.inr (w 185 rfl)) (ty := (.object "java/util/List")) (by decide)
        have F397_tokens : Fld Z h397 dd "com/example/bindgate/bindgate/idl/Declaration" "tokens" "Ljava/util/List;" .null := D397 (Or.inr (w 191 rfl)) (ty := (.object "java/util/List")) (by decide)
        refine Own.dup 200 X397 hx (hb hby at_199) rfl rfl ?_
        refine Own.aload 202 X397 hx (hb hby at_200) rfl rfl rfl ?_
        refine Own.aload 204 X397 hx (hb hby at_202) rfl rfl rfl ?_
        refine Own.aload 206 X397 hx (hb hby at_204) rfl rfl rfl ?_
        refine Own.callInit 209 1 dd [(.ref ki), (.ref nl), (.ref tl)] [(.ref dd)] X397 hx hZ hown (m15_3_1 l Z a0 w dd ki nl tl dc em el mr kd n0 _ _ _ _ _ nd s0 s1 s2 k96 td k382 _ zl397 O397 SS A397 F397_kind F397_names F397_tokens g_dd Ef_399 Ef_400 Ef_401 Ef_402 g_nl Ff_405 Ff_406 Ff_407 Vf_404 Ov96 Ef_403 Ef_408 g_tl Ff_411 Ff_412 Ff_413 Vf_409 Ov382 Ef_410 ne_s0_dd ne_s1_dd ne_s2_dd ne_nl_dd ne_nd_dd ne_tl_dd ne_td_dd) rfl (w 92 rfl) (w 93 rfl) (w 91 rfl) (w 94 rfl) (by decide) e397 (by decide) (by decide) (by decide) (by decide) (by rw [hml]; rfl) (lenOf pd_18 rfl) rfl (Nat.le_of_eq rfl) (hb hby at_206) rfl ?_
        rintro vv T414 L414 X414 ⟨li, ar, ka, rfl, N414q, K414, Fn414, El414, Fl414, Va414⟩
        have N414 := Fr.app N382 N414q
        have O414 := O397.keep K414 (allS g_dd all0)
        have Ef_416 := Ef_399.keep K414
        have Ef_417 := Ef_400.keep K414
        have Ef_418 := Ef_401.keep K414
        have Ef_419 := Ef_402.keep K414
        have Ef_420 := Ef_403.keep K414
        have Ef_421 := Ef_408.keep K414
        have Ef_422 := Ef_410.keep K414
        have Ef_423 := A397.keep K414
        have zl414 := Nat.le_trans zl397 K414.1
        refine Own.astore 211 #[.val (.int x0), .val (.int x1), .val (.int x2), .val (.int x3), .val (.ref s0), .val (.ref s1), .val (.ref s2), .val (.int (3 : Int32)), .val (.ref ki), .val (.ref nl), .val (.ref tl), .val (.ref dd)] X414 hx (hb hby at_209) rfl rfl rfl ?_
        refine Own.aload 213 X414 hx (hb hby at_211) rfl rfl rfl ?_
        refine Own.aload 215 X414 hx (hb hby at_213) rfl rfl rfl ?_
        refine Own.callVt 218 1 dd [] [(.ref s0)] X414 hx hZ hown (m29_3 l Z a0 w dd li ar s0 s1 s2 ka _ Fn414 Ef_416 El414 Fl414 Va414) Ef_423 (notFace_of_selects (args := #[]) (mvT hZ (w 195 rfl))) (w 192 rfl) (w 193 rfl) (w 195 rfl) (w 194 rfl) (w 91 rfl) (w 196 rfl) (by decide) rfl (by decide) (by decide) (by decide) (by decide) (by rw [hml]; rfl) (lenOf pd_19 rfl) rfl (Nat.le_of_eq rfl) (hb hby at_215) rfl ?_
        rintro vv T424 L424 X424 ⟨rfl, hh424, rfl⟩
        have N424 := Fr.app N414 (Fr.nil _)
        refine Own.callVt 221 0 s0 [(.ref s0)] [] X424 hx hZ hown (m31 l Z a0 w s0 s0 _) Ef_416 (notFace_of_selects (args := #[]) (mvT hZ (w 210 rfl))) (w 207 rfl) (w 208 rfl) (w 210 rfl) (w 209 rfl) (w 2 rfl) (w 211 rfl) (by decide) hh424 (by decide) (by decide) (by decide) (by decide) (by rw [hml]; rfl) (lenOf pd_17 rfl) rfl (Nat.le_of_eq rfl) (hb hby at_218) rfl ?_
        rintro vv T425 L425 X425 ⟨rfl, hh425, rfl⟩
        have N425 := Fr.app N424 (Fr.nil _)
        refine Own.retBool X425 hx hlk hret (hb hby at_221) (by decide) (by decide) ?_
        exact ⟨rfl, N425⟩
  refine Own.if_eq 123 117 X77 hx (hb hby at_114) (by decide) rfl (fun b1 => ?_) (fun b1 => ?_)
  ·
    refine Own.getSta 126 X77 hx hZ hown (host := "") (Or.inl (w 212 rfl)) Via.refl rfl (ST.ext O77.2) (hb hby at_123) rfl ?_
    intro T426 X426 e426
    exact J126 kt _ _ X426 N77 e426
  ·
    refine Own.getSta 120 X77 hx hZ hown (host := "") (Or.inl (w 31 rfl)) Via.refl rfl (SK.ext O77.2) (hb hby at_117) rfl ?_
    intro T427 X427 e427
    refine Own.goto 126 X427 hx (hb hby at_120) (by decide) ?_
    exact J126 kc _ _ X427 N77 e427
set_option maxRecDepth 65536 in
set_option maxHeartbeats 40000000 in
theorem comes_1 {Post : Tables → Env → Array Value → State → Outcome → State → Prop} (hpost : ∀ tb e args s v u, (limb_1_1.after args s (.returned v) u = true ∧ limb_1_2.after args s (.returned v) u = true ∧ True) → FrameEnd s (.returned v) u (Jvm.fieldLocs frame_1_writes args s ++ Jvm.arrayLocs frame_1_arrays args s ++ Jvm.staticLocs frame_1_statics s) 48 192 → Post tb e args s (.returned v) u) :
    ArmFor flags0 classFile x code maxLocals ret World_1 tables_1 room_1 Calls_1 rest_1 Pre_1 Post := by
  intro l hfl _ _ p e ha hc hk s m args below hf hA hF happ hP
  obtain ⟨hcalls, hrest, hpre⟩ := hP
  obtain ⟨-, -, -, hnamed, -, -, -, hat⟩ := (Spec.applies_iff hf).mp happ
  obtain ⟨hg, hn⟩ := and_e (Cond.before_iff.mp (show (Jvm.Cond.and given_1 narrow_1).before args s = true from hpre))
  obtain ⟨g1, g2⟩ := and_e hg
  obtain ⟨g3, g4⟩ := and_e g2
  obtain ⟨g5, g6⟩ := and_e g4
  obtain ⟨g7, g8⟩ := and_e g6
  obtain ⟨w0, w1, w2, w3, rfl⟩ : ∃ w0 w1 w2 w3 : Value, args = #[w0, w1, w2, w3] := by
    have hs : args.size = 4 := by simpa [Cond.value, given_1] using g1
    obtain ⟨L⟩ := args
    match L, hs with
    | [w0, w1, w2, w3], _ => exact ⟨w0, w1, w2, w3, rfl⟩
  have hw := fun d (hd : d ∈ tables_1) => atoms_spec (ws := Jvm.Cond.code x code maxLocals ret :: tables_1) hat d (List.mem_cons_of_mem _ hd)
  obtain ⟨i0, ei0⟩ := is_v g3
  obtain rfl : w0 = (.int i0) := Option.some.inj ei0
  obtain ⟨i1, ei1⟩ := is_v g5
  obtain rfl : w1 = (.int i1) := Option.some.inj ei1
  obtain ⟨i2, ei2⟩ := is_v g7
  obtain rfl : w2 = (.int i2) := Option.some.inj ei2
  obtain ⟨i3, ei3⟩ := is_v g8
  obtain rfl : w3 = (.int i3) := Option.some.inj ei3
  obtain ⟨hn_1, hm_1⟩ := and_e hn
  obtain ⟨kc, ev_kc⟩ := exa_v hn_1
  have S_kc := Sta.start ev_kc (Or.inr ⟨(hw _ (List.mem_of_getElem? (i := 32) rfl)), (hw _ (List.mem_of_getElem? (i := 33) rfl))⟩)
  obtain ⟨kt, ev_kt⟩ := exa_v hm_1
  have S_kt := Sta.start ev_kt (Or.inr ⟨(hw _ (List.mem_of_getElem? (i := 32) rfl)), (hw _ (List.mem_of_getElem? (i := 213) rfl))⟩)
  obtain ⟨hsets, hown0⟩ := atoms_of _ (rest_1_c_eq ▸ (show rest_1_c.before _ s = true from hrest))
  have n3 := not_v (Cond.before_iff.mp (hsets _ (List.mem_of_getElem? (i := 2) rfl)))
  obtain ⟨zc, ezc⟩ := is_v (Cond.before_iff.mp (hsets _ (List.mem_of_getElem? (i := 1) rfl)))
  have SC : Sta s s.heap "java/lang/String" "COMPACT_STRINGS" "Z" (.int zc) := Sta.start ezc (Or.inl (hsets _ (List.mem_of_getElem? (i := 0) rfl)))
  have hzc : ¬ zc = 0 := gotF (Cond.eq_ints ezc (Term.int_eval (0))) n3
  obtain ⟨dc, ev_dc⟩ := exa_v (Cond.before_iff.mp (hsets _ (List.mem_of_getElem? (i := 16) rfl)))
  have S_dc := Sta.start ev_dc (Or.inr ⟨(hw _ (List.mem_of_getElem? (i := 36) rfl)), (hsets _ (List.mem_of_getElem? (i := 11) rfl))⟩)
  obtain ⟨em, ev_em⟩ := exa_v (Cond.before_iff.mp (hsets _ (List.mem_of_getElem? (i := 20) rfl)))
  have S_em := Sta.start ev_em (Or.inl (hsets _ (List.mem_of_getElem? (i := 19) rfl)))
  obtain ⟨el, ev_el⟩ := exa_v (Cond.before_iff.mp (hsets _ (List.mem_of_getElem? (i := 26) rfl)))
  have S_el := Sta.start ev_el (Or.inl (hsets _ (List.mem_of_getElem? (i := 25) rfl)))
  obtain ⟨kd, Vdc⟩ := Own.arv0 (dv := .null) ev_dc (Cond.before_iff.mp (hsets _ (List.mem_of_getElem? (i := 15) rfl))) (Cond.before_iff.mp (hsets _ (List.mem_of_getElem? (i := 17) rfl)))
  obtain ⟨cmi, kmi, mr, hm1, hm2, hm3⟩ := hcalls.1
  obtain ⟨n, o, h1, h2, h3, _, L, rfl, ⟨rfl, N⟩, hq⟩ := m0 l s _ (fun i {d} h => hw d (List.mem_of_getElem? h)) i0 i1 i2 i3 dc em el mr kd kc kt zc s.heap s.heap.size (Nat.le_refl _) (Old.start s) ⟨S_dc, S_em, S_el, ⟨cmi, kmi, hm1, hm2, hm3.1⟩, Vdc⟩ S_kc S_kt SC hzc p e ha hc hk s m _ below hf ((Spec.applies_iff_loose hf).mp happ).1 ⟨rfl, State.Warmed39.refl s, rfl⟩ trivial
  refine ⟨n, _, h1, h2, h3, hpost _ _ _ _ _ _ ⟨Cond.after_iff.mpr rfl, Cond.after_iff.mpr (eq_i res_at (Term.int_eval (1)) rfl), trivial⟩ ⟨hq.1, hq.2.1, (hq.2.2.sift fun y hy => Or.inr (N y hy)).mono (by decide) (by decide)⟩⟩
theorem main_1_1 : Claimed_1_1 := comes_1 fun _ _ _ _ _ _ h hF => ⟨h.1, hF⟩
theorem main_1_2 : Claimed_1_2 := comes_1 fun _ _ _ _ _ _ h hF => ⟨h.2.1, hF⟩
end Jvm.Pilot.@@N@@
namespace Jvm.Pilot.@@N@@
open Jvm Jvm.ClassFile Sem Op Lib Jvm.Free Jvm.Stand Jvm.Pilot.@@N@@.Jvm.D
/-! MADE BY PROGRAM (witnessworld.py) out of the Statement's table words and the real class files: 41 classes; the members and pool entries that the words name. The judged class is class 1, her method 1. -/
namespace start1
open Jvm.ClassFile
def u (s : String) : CpInfo := .utf8 (stringToUtf16 s)
/-- a pool by its gaps: so many unusable entries, then the entry; so many at the end -/
def gap : Nat → List CpInfo → List CpInfo
  | 0, r => r
  | n + 1, r => .unusable :: gap n r
def poolList (es : List (Nat × CpInfo)) (last : Nat) : List CpInfo := es.foldr (fun e r => gap e.1 (e.2 :: r)) (gap last [])
def pool (es : List (Nat × CpInfo)) (last : Nat) : Array CpInfo := ⟨poolList es last⟩
def fileOf (pool : Array CpInfo) (this : Nat) (attrs : Array Attribute := #[]) (ms : Array MethodInfo := #[]) (fl : Nat := 33) (sup : Nat := 0) (ifs : Array Nat := #[]) (fds : Array FieldInfo := #[]) : ClassFile where
  minorVersion := 0
  majorVersion := 65
  constantPool := pool
  accessFlags := fl
  thisClass := this
  superClass := sup
  interfaces := ifs
  fields := fds
  methods := ms
  attributes := attrs
def plain (name : String) (sup : Option ClassId) : Class where
  name := name
  kind := .ordinary
  loader := none
  accessFlags := 33
  super := sup
  interfaces := #[]
  cf := none
  fields := #[]
  methods := #[]
  instanceTypes := #[]
  staticTypes := #[]
  resolved := #[]
  callSites := []
  init := .initialized
  statics := none
  mirror := none

def pool0 : Array CpInfo := pool [(5, u "<init>"), (0, u "()V"), (1, .class_ 10), (1, u "java/lang/Object"), (0, u "getClass"), (0, u "()Ljava/lang/Class;")] 111

def k0c0 : Code := { maxStack := 0, maxLocals := 1, code := object_method_1_code, exceptionTable := #[], attributes := #[] }
def k0m0 : Method := { name := "<init>", desc := "()V", sig := { parameters := [], returnType := none }, accessFlags := 1, code := some k0c0 }
def k0m1 : Method := { name := "getClass", desc := "()Ljava/lang/Class;", sig := { parameters := [], returnType := some (.object "java/lang/Class") }, accessFlags := 273, code := none }
/-- java/lang/Object -/
def k0 : Class := { plain "java/lang/Object" none with
  accessFlags := 33
  interfaces := #[]
  cf := some (fileOf pool0 8 #[] #[{ accessFlags := 1, nameIndex := 5, descriptorIndex := 6, attributes := #[] }, { accessFlags := 273, nameIndex := 11, descriptorIndex := 12, attributes := #[] }] 33 0 #[] #[])
  fields := #[]
  methods := #[k0m0, k0m1]
  instanceTypes := #[]
  staticTypes := #[]
  resolved := Array.replicate 124 none
  statics := none }

def pool1 : Array CpInfo := pool [(2, .class_ 4), (0, .nameAndType 5 6), (0, u "java/lang/Object"), (0, u "<init>"), (0, u "()V"), (0, .class_ 8), (0, u "java/lang/String"), (0, .methodref 7 10), (0, .nameAndType 5 11), (0, u "([C)V"), (0, .integer 1073741823), (0, .fieldref 14 15), (0, .class_ 16), (0, .nameAndType 17 18), (0, u "com/example/bindgate/bindgate/idl/Declaration$Kind"), (0, u "CONSTANT"), (0, u "Lcom/example/bindgate/bindgate/idl/Declaration$Kind;"), (0, .fieldref 14 20), (0, .nameAndType 21 18), (0, u "TYPE"), (0, .class_ 23), (0, u "java/util/ArrayList"), (0, .methodref 22 3), (0, .methodref 22 26), (0, .nameAndType 27 28), (0, u "add"), (0, u "(Ljava/lang/Object;)Z"), (0, .class_ 30), (0, u "com/example/bindgate/bindgate/idl/Declaration"), (0, .methodref 29 32), (0, .nameAndType 5 33), (0, u "(Lcom/example/bindgate/bindgate/idl/Declaration$Kind;Ljava/util/List;Ljava/util/List;)V"), (0, .methodref 29 35), (0, .nameAndType 36 37), (0, u "name"), (0, u "()Ljava/lang/String;"), (0, .methodref 7 39), (0, .nameAndType 40 28), (0, u "equals"), (0, .class_ 42), (0, u "com/example/bindgate/bindgate/idl/DeclarationNamePinLaw"), (2, u "law"), (0, u "(IIII)Z")] 5

def k1m0 : Method := { name := "<init>", desc := "()V", sig := { parameters := [], returnType := none }, accessFlags := 1, code := none }
def k1c1 : Code := { maxStack := 7, maxLocals := 12, code := code, exceptionTable := #[], attributes := #[] }
def k1m1 : Method := { name := "law", desc := "(IIII)Z", sig := { parameters := [.int, .int, .int, .int], returnType := some .boolean }, accessFlags := 9, code := some k1c1 }
/-- com/example/bindgate/bindgate/idl/DeclarationNamePinLaw -/
def k1 : Class := { plain "com/example/bindgate/bindgate/idl/DeclarationNamePinLaw" (some 0) with
  accessFlags := 49
  interfaces := #[]
  cf := some (fileOf pool1 41 #[] #[{ accessFlags := 1, nameIndex := 5, descriptorIndex := 6, attributes := #[] }, { accessFlags := 9, nameIndex := 45, descriptorIndex := 46, attributes := #[] }] 49 2 #[] #[])
  fields := #[]
  methods := #[k1m0, k1m1]
  instanceTypes := #[]
  staticTypes := #[]
  resolved := Array.replicate 52 none
  statics := none }

def pool2 : Array CpInfo := pool [(1, .class_ 2), (0, u "java/io/Serializable"), (0, .class_ 4), (0, u "java/lang/Object")] 2

/-- java/io/Serializable -/
def k2 : Class := { plain "java/io/Serializable" (some 0) with
  accessFlags := 1537
  interfaces := #[]
  cf := some (fileOf pool2 1 #[] #[] 1537 3 #[] #[])
  fields := #[]
  methods := #[]
  instanceTypes := #[]
  staticTypes := #[]
  resolved := Array.replicate 7 none
  statics := none }

def pool3 : Array CpInfo := pool [(1, .class_ 2), (0, u "java/lang/Comparable"), (0, .class_ 4), (0, u "java/lang/Object")] 7

/-- java/lang/Comparable -/
def k3 : Class := { plain "java/lang/Comparable" (some 0) with
  accessFlags := 1537
  interfaces := #[]
  cf := some (fileOf pool3 1 #[] #[] 1537 3 #[] #[])
  fields := #[]
  methods := #[]
  instanceTypes := #[]
  staticTypes := #[]
  resolved := Array.replicate 12 none
  statics := none }

def pool4 : Array CpInfo := pool [(2, .class_ 4), (1, u "java/lang/CharSequence"), (42, .class_ 48), (0, u "java/lang/CharSequence$1CodePointIterator"), (10, .class_ 60), (0, u "java/lang/CharSequence$1CharIterator"), (5, .class_ 67), (0, u "java/lang/Object")] 63

/-- java/lang/CharSequence -/
def k4 : Class := { plain "java/lang/CharSequence" (some 0) with
  accessFlags := 1537
  interfaces := #[]
  cf := some (fileOf pool4 2 #[.nestMembers #[47, 59]] #[] 1537 66 #[] #[])
  fields := #[]
  methods := #[]
  instanceTypes := #[]
  staticTypes := #[]
  resolved := Array.replicate 131 none
  statics := none }

def pool5 : Array CpInfo := pool [(1, .class_ 2), (0, u "java/lang/constant/Constable"), (0, .class_ 4), (0, u "java/lang/Object")] 6

/-- java/lang/constant/Constable -/
def k5 : Class := { plain "java/lang/constant/Constable" (some 0) with
  accessFlags := 1537
  interfaces := #[]
  cf := some (fileOf pool5 1 #[] #[] 1537 3 #[] #[])
  fields := #[]
  methods := #[]
  instanceTypes := #[]
  staticTypes := #[]
  resolved := Array.replicate 11 none
  statics := none }

def pool6 : Array CpInfo := pool [(1, .class_ 2), (0, u "java/lang/constant/ConstantDesc"), (0, .class_ 4), (0, u "java/lang/Object")] 32

/-- java/lang/constant/ConstantDesc -/
def k6 : Class := { plain "java/lang/constant/ConstantDesc" (some 0) with
  accessFlags := 1537
  interfaces := #[]
  cf := some (fileOf pool6 1 #[] #[] 1537 3 #[] #[])
  fields := #[]
  methods := #[]
  instanceTypes := #[]
  staticTypes := #[]
  resolved := Array.replicate 37 none
  statics := none }

def pool7 : Array CpInfo := pool [(1, .methodref 2 3), (0, .class_ 4), (0, .nameAndType 5 6), (0, u "java/lang/Object"), (0, u "<init>"), (0, u "()V"), (2, .fieldref 10 11), (0, .class_ 12), (0, .nameAndType 13 14), (0, u "java/lang/String"), (0, u "value"), (0, u "[B"), (0, .fieldref 10 16), (0, .nameAndType 17 18), (0, u "coder"), (0, u "B"), (2, u "hash"), (0, u "I"), (2, u "hashIsZero"), (0, u "Z"), (0, .methodref 10 28), (0, .nameAndType 5 29), (0, u "([CIILjava/lang/Void;)V"), (8, .fieldref 10 39), (0, .nameAndType 40 26), (0, u "COMPACT_STRINGS"), (1, .class_ 44), (1, u "java/lang/StringUTF16"), (0, u "compress"), (1, .methodref 42 48), (0, .nameAndType 49 50), (0, u "coderFromArrayLen"), (0, u "([BI)B"), (126, .methodref 42 178), (0, .nameAndType 45 179), (0, u "([CII)[B"), (363, u "equals"), (29, u "(Ljava/lang/Object;)Z"), (1, .class_ 576), (0, u "java/lang/CharSequence"), (22, u "CASE_INSENSITIVE_ORDER"), (0, u "Ljava/util/Comparator;"), (409, u "([C)V"), (90, u "serialPersistentFields"), (0, u "[Ljava/io/ObjectStreamField;"), (0, .class_ 1104), (0, u "java/lang/String$CaseInsensitiveComparator"), (1, .class_ 1107), (0, u "java/io/Serializable"), (0, .class_ 1109), (0, u "java/lang/Comparable"), (0, .class_ 1111), (0, u "java/lang/constant/Constable"), (0, .class_ 1113), (0, u "java/lang/constant/ConstantDesc"), (2, u "serialVersionUID"), (0, u "J"), (3, u "REPL"), (0, u "C"), (2, u "LATIN1"), (1, u "UTF16")] 323

def k7m0 : Method := { name := "<init>", desc := "()V", sig := { parameters := [], returnType := none }, accessFlags := 1, code := none }
def k7c1 : Code := { maxStack := 5, maxLocals := 2, code := jdk_42_method_3_code, exceptionTable := #[], attributes := #[] }
def k7m1 : Method := { name := "<init>", desc := "([C)V", sig := { parameters := [(.array .char)], returnType := none }, accessFlags := 1, code := some k7c1 }
def k7c2 : Code := { maxStack := 2, maxLocals := 3, code := jdk_42_method_66_code, exceptionTable := #[], attributes := #[] }
def k7m2 : Method := { name := "equals", desc := "(Ljava/lang/Object;)Z", sig := { parameters := [(.object "java/lang/Object")], returnType := some .boolean }, accessFlags := 1, code := some k7c2 }
def k7c3 : Code := { maxStack := 4, maxLocals := 6, code := jdk_42_method_149_code, exceptionTable := #[], attributes := #[] }
def k7m3 : Method := { name := "<init>", desc := "([CIILjava/lang/Void;)V", sig := { parameters := [(.array .char), .int, .int, (.object "java/lang/Void")], returnType := none }, accessFlags := 2, code := some k7c3 }
/-- java/lang/String -/
def k7 : Class := { plain "java/lang/String" (some 0) with
  accessFlags := 49
  interfaces := #[2, 3, 4, 5, 6]
  cf := some (fileOf pool7 10 #[.nestMembers #[1103]] #[{ accessFlags := 1, nameIndex := 5, descriptorIndex := 6, attributes := #[] }, { accessFlags := 1, nameIndex := 5, descriptorIndex := 1010, attributes := #[] }, { accessFlags := 1, nameIndex := 543, descriptorIndex := 573, attributes := #[] }, { accessFlags := 2, nameIndex := 5, descriptorIndex := 29, attributes := #[] }] 49 2 #[1106, 1108, 575, 1110, 1112] #[{ accessFlags := 18, nameIndex := 13, descriptorIndex := 14, attributes := #[] }, { accessFlags := 18, nameIndex := 17, descriptorIndex := 18, attributes := #[] }, { accessFlags := 2, nameIndex := 21, descriptorIndex := 22, attributes := #[] }, { accessFlags := 2, nameIndex := 25, descriptorIndex := 26, attributes := #[] }, { accessFlags := 26, nameIndex := 1116, descriptorIndex := 1117, attributes := #[] }, { accessFlags := 24, nameIndex := 40, descriptorIndex := 26, attributes := #[] }, { accessFlags := 26, nameIndex := 1101, descriptorIndex := 1102, attributes := #[] }, { accessFlags := 26, nameIndex := 1121, descriptorIndex := 1122, attributes := #[] }, { accessFlags := 25, nameIndex := 599, descriptorIndex := 600, attributes := #[] }, { accessFlags := 24, nameIndex := 1125, descriptorIndex := 18, attributes := #[] }, { accessFlags := 24, nameIndex := 1127, descriptorIndex := 18, attributes := #[] }])
  fields := #[{ name := "value", type := (.array .byte), accessFlags := 18, slot := 0, constantValue := 0 }, { name := "coder", type := .byte, accessFlags := 18, slot := 1, constantValue := 0 }, { name := "hash", type := .int, accessFlags := 2, slot := 2, constantValue := 0 }, { name := "hashIsZero", type := .boolean, accessFlags := 2, slot := 3, constantValue := 0 }, { name := "serialVersionUID", type := .long, accessFlags := 26, slot := 0, constantValue := 0 }, { name := "COMPACT_STRINGS", type := .boolean, accessFlags := 24, slot := 1, constantValue := 0 }, { name := "serialPersistentFields", type := (.array (.object "java/io/ObjectStreamField")), accessFlags := 26, slot := 2, constantValue := 0 }, { name := "REPL", type := .char, accessFlags := 26, slot := 3, constantValue := 0 }, { name := "CASE_INSENSITIVE_ORDER", type := (.object "java/util/Comparator"), accessFlags := 25, slot := 4, constantValue := 0 }, { name := "LATIN1", type := .byte, accessFlags := 24, slot := 5, constantValue := 0 }, { name := "UTF16", type := .byte, accessFlags := 24, slot := 6, constantValue := 0 }]
  methods := #[k7m0, k7m1, k7m2, k7m3]
  instanceTypes := #[(.array .byte), .byte, .int, .boolean]
  staticTypes := #[.long, .boolean, (.array (.object "java/io/ObjectStreamField")), .char, (.object "java/util/Comparator"), .byte, .byte]
  resolved := Array.replicate 1451 none
  statics := some 0 }

def pool8 : Array CpInfo := pool [(6, .class_ 8), (1, u "java/lang/Object"), (0, u "<init>"), (0, u "()V"), (1, .class_ 14), (1, u "java/lang/StringUTF16"), (31, u "$assertionsDisabled"), (0, u "Z"), (13, u "HI_BYTE_SHIFT"), (0, u "I"), (2, u "LO_BYTE_SHIFT"), (49, .methodref 12 116), (0, .nameAndType 117 118), (0, u "compress"), (0, u "([CI[BII)I"), (3, u "([CII)[B"), (138, u "coderFromArrayLen"), (0, u "([BI)B"), (106, .class_ 371), (1, u "java/lang/StringUTF16$LinesSpliterator"), (58, u "MAX_LENGTH"), (196, .class_ 628), (0, u "java/lang/StringUTF16$CodePointsSpliterator"), (0, .class_ 630), (0, u "java/lang/StringUTF16$CharsSpliterator")] 4

def k8m0 : Method := { name := "<init>", desc := "()V", sig := { parameters := [], returnType := none }, accessFlags := 0, code := none }
def k8c1 : Code := { maxStack := 2, maxLocals := 2, code := jdk_52_method_15_code, exceptionTable := #[], attributes := #[] }
def k8m1 : Method := { name := "coderFromArrayLen", desc := "([BI)B", sig := { parameters := [(.array .byte), .int], returnType := some .byte }, accessFlags := 8, code := some k8c1 }
def k8c2 : Code := { maxStack := 5, maxLocals := 6, code := jdk_52_method_16_code, exceptionTable := #[], attributes := #[] }
def k8m2 : Method := { name := "compress", desc := "([CII)[B", sig := { parameters := [(.array .char), .int, .int], returnType := some (.array .byte) }, accessFlags := 9, code := some k8c2 }
def k8c3 : Code := { maxStack := 3, maxLocals := 7, code := jdk_52_method_21_code, exceptionTable := #[], attributes := #[] }
def k8m3 : Method := { name := "compress", desc := "([CI[BII)I", sig := { parameters := [(.array .char), .int, (.array .byte), .int, .int], returnType := some .int }, accessFlags := 9, code := some k8c3 }
/-- java/lang/StringUTF16 -/
def k8 : Class := { plain "java/lang/StringUTF16" (some 0) with
  accessFlags := 48
  interfaces := #[]
  cf := some (fileOf pool8 12 #[.nestMembers #[627, 629, 369]] #[{ accessFlags := 0, nameIndex := 9, descriptorIndex := 10, attributes := #[] }, { accessFlags := 8, nameIndex := 261, descriptorIndex := 262, attributes := #[] }, { accessFlags := 9, nameIndex := 117, descriptorIndex := 122, attributes := #[] }, { accessFlags := 9, nameIndex := 117, descriptorIndex := 118, attributes := #[] }] 48 6 #[] #[{ accessFlags := 26, nameIndex := 61, descriptorIndex := 62, attributes := #[] }, { accessFlags := 26, nameIndex := 65, descriptorIndex := 62, attributes := #[] }, { accessFlags := 24, nameIndex := 430, descriptorIndex := 62, attributes := #[] }, { accessFlags := 4120, nameIndex := 46, descriptorIndex := 47, attributes := #[] }])
  fields := #[{ name := "HI_BYTE_SHIFT", type := .int, accessFlags := 26, slot := 0, constantValue := 0 }, { name := "LO_BYTE_SHIFT", type := .int, accessFlags := 26, slot := 1, constantValue := 0 }, { name := "MAX_LENGTH", type := .int, accessFlags := 24, slot := 2, constantValue := 0 }, { name := "$assertionsDisabled", type := .boolean, accessFlags := 4120, slot := 3, constantValue := 0 }]
  methods := #[k8m0, k8m1, k8m2, k8m3]
  instanceTypes := #[]
  staticTypes := #[.int, .int, .int, .boolean]
  resolved := Array.replicate 635 none
  statics := none }

def pool9 : Array CpInfo := pool [(2, .class_ 4), (1, u "java/lang/Enum"), (0, u "name"), (0, u "Ljava/lang/String;"), (2, u "ordinal"), (0, u "I"), (1, .class_ 14), (1, u "java/lang/Object"), (4, u "hash"), (86, .class_ 108), (1, u "java/lang/Enum$EnumDesc"), (2, .class_ 112), (0, u "java/lang/constant/Constable"), (0, .class_ 114), (0, u "java/lang/Comparable"), (0, .class_ 116), (0, u "java/io/Serializable")] 87

/-- java/lang/Enum -/
def k9 : Class := { plain "java/lang/Enum" (some 0) with
  accessFlags := 1057
  interfaces := #[5, 3, 2]
  cf := some (fileOf pool9 2 #[.nestMembers #[106]] #[] 1057 12 #[111, 113, 115] #[{ accessFlags := 18, nameIndex := 5, descriptorIndex := 6, attributes := #[] }, { accessFlags := 18, nameIndex := 9, descriptorIndex := 10, attributes := #[] }, { accessFlags := 2, nameIndex := 19, descriptorIndex := 10, attributes := #[] }])
  fields := #[{ name := "name", type := (.object "java/lang/String"), accessFlags := 18, slot := 0, constantValue := 0 }, { name := "ordinal", type := .int, accessFlags := 18, slot := 1, constantValue := 0 }, { name := "hash", type := .int, accessFlags := 2, slot := 2, constantValue := 0 }]
  methods := #[]
  instanceTypes := #[(.object "java/lang/String"), .int, .int]
  staticTypes := #[]
  resolved := Array.replicate 204 none
  statics := none }

def pool10 : Array CpInfo := pool [(1, .class_ 2), (0, u "com/example/bindgate/bindgate/idl/Declaration$Kind"), (2, u "TYPE"), (0, u "Lcom/example/bindgate/bindgate/idl/Declaration$Kind;"), (2, u "CONSTANT"), (2, u "$VALUES"), (0, u "[Lcom/example/bindgate/bindgate/idl/Declaration$Kind;"), (6, .class_ 22), (1, u "java/lang/Enum"), (25, .class_ 49), (0, u "com/example/bindgate/bindgate/idl/Declaration")] 2

/-- com/example/bindgate/bindgate/idl/Declaration$Kind -/
def k10 : Class := { plain "com/example/bindgate/bindgate/idl/Declaration$Kind" (some 9) with
  accessFlags := 16433
  interfaces := #[]
  cf := some (fileOf pool10 1 #[.nestHost 48] #[] 16433 20 #[] #[{ accessFlags := 16409, nameIndex := 5, descriptorIndex := 6, attributes := #[] }, { accessFlags := 16409, nameIndex := 9, descriptorIndex := 6, attributes := #[] }, { accessFlags := 4122, nameIndex := 12, descriptorIndex := 13, attributes := #[] }])
  fields := #[{ name := "TYPE", type := (.object "com/example/bindgate/bindgate/idl/Declaration$Kind"), accessFlags := 16409, slot := 0, constantValue := 0 }, { name := "CONSTANT", type := (.object "com/example/bindgate/bindgate/idl/Declaration$Kind"), accessFlags := 16409, slot := 1, constantValue := 0 }, { name := "$VALUES", type := (.array (.object "com/example/bindgate/bindgate/idl/Declaration$Kind")), accessFlags := 4122, slot := 2, constantValue := 0 }]
  methods := #[]
  instanceTypes := #[(.object "java/lang/String"), .int, .int]
  staticTypes := #[(.object "com/example/bindgate/bindgate/idl/Declaration$Kind"), (.object "com/example/bindgate/bindgate/idl/Declaration$Kind"), (.array (.object "com/example/bindgate/bindgate/idl/Declaration$Kind"))]
  resolved := Array.replicate 52 none
  statics := some 1 }

def pool11 : Array CpInfo := pool [(8, .class_ 10), (1, u "java/lang/Iterable"), (24, .class_ 36), (0, u "java/lang/Object")] 25

/-- java/lang/Iterable -/
def k11 : Class := { plain "java/lang/Iterable" (some 0) with
  accessFlags := 1537
  interfaces := #[]
  cf := some (fileOf pool11 8 #[] #[] 1537 35 #[] #[])
  fields := #[]
  methods := #[]
  instanceTypes := #[]
  staticTypes := #[]
  resolved := Array.replicate 62 none
  statics := none }

def pool12 : Array CpInfo := pool [(10, .class_ 12), (1, u "java/util/Collection"), (0, u "toArray"), (16, u "()Z"), (29, .class_ 61), (0, u "java/lang/Object"), (0, .class_ 63), (0, u "java/lang/Iterable"), (2, u "isEmpty"), (3, u "()[Ljava/lang/Object;")] 44

def k12m0 : Method := { name := "isEmpty", desc := "()Z", sig := { parameters := [], returnType := some .boolean }, accessFlags := 1025, code := none }
def k12m1 : Method := { name := "toArray", desc := "()[Ljava/lang/Object;", sig := { parameters := [], returnType := some (.array (.object "java/lang/Object")) }, accessFlags := 1025, code := none }
/-- java/util/Collection -/
def k12 : Class := { plain "java/util/Collection" (some 0) with
  accessFlags := 1537
  interfaces := #[11]
  cf := some (fileOf pool12 10 #[] #[{ accessFlags := 1025, nameIndex := 66, descriptorIndex := 30, attributes := #[] }, { accessFlags := 1025, nameIndex := 13, descriptorIndex := 70, attributes := #[] }] 1537 60 #[62] #[])
  fields := #[]
  methods := #[k12m0, k12m1]
  instanceTypes := #[]
  staticTypes := #[]
  resolved := Array.replicate 115 none
  statics := none }

def pool13 : Array CpInfo := pool [(1, .methodref 2 3), (0, .class_ 4), (0, .nameAndType 5 6), (0, u "java/lang/Object"), (0, u "<init>"), (0, u "()V"), (1, .class_ 10), (1, u "java/util/AbstractCollection"), (66, .class_ 78), (0, u "java/util/Collection")] 81

def k13c0 : Code := { maxStack := 1, maxLocals := 1, code := jdk_22_method_1_code, exceptionTable := #[], attributes := #[] }
def k13m0 : Method := { name := "<init>", desc := "()V", sig := { parameters := [], returnType := none }, accessFlags := 4, code := some k13c0 }
/-- java/util/AbstractCollection -/
def k13 : Class := { plain "java/util/AbstractCollection" (some 0) with
  accessFlags := 1057
  interfaces := #[12]
  cf := some (fileOf pool13 8 #[] #[{ accessFlags := 4, nameIndex := 5, descriptorIndex := 6, attributes := #[] }] 1057 2 #[77] #[])
  fields := #[]
  methods := #[k13m0]
  instanceTypes := #[]
  staticTypes := #[]
  resolved := Array.replicate 160 none
  statics := none }

def pool14 : Array CpInfo := pool [(8, .class_ 10), (1, u "java/util/SequencedCollection"), (15, .class_ 27), (0, u "java/lang/Object"), (0, .class_ 29), (0, u "java/util/Collection")] 27

/-- java/util/SequencedCollection -/
def k14 : Class := { plain "java/util/SequencedCollection" (some 0) with
  accessFlags := 1537
  interfaces := #[12]
  cf := some (fileOf pool14 8 #[] #[] 1537 26 #[28] #[])
  fields := #[]
  methods := #[]
  instanceTypes := #[]
  staticTypes := #[]
  resolved := Array.replicate 57 none
  statics := none }

def pool15 : Array CpInfo := pool [(8, .class_ 10), (1, u "java/util/List"), (20, u "(Ljava/lang/Object;)V"), (16, u "<init>"), (26, u "get"), (0, u "(I)Ljava/lang/Object;"), (11, u "of"), (1, .fieldref 91 92), (0, .class_ 93), (0, .nameAndType 94 95), (0, u "java/util/ImmutableCollections"), (0, u "EMPTY_LIST"), (0, u "Ljava/util/ImmutableCollections$ListN;"), (0, .class_ 97), (0, u "java/util/ImmutableCollections$List12"), (0, .methodref 96 99), (0, .nameAndType 48 31), (0, .methodref 96 101), (0, .nameAndType 48 102), (0, u "(Ljava/lang/Object;Ljava/lang/Object;)V"), (0, .class_ 104), (0, u "java/lang/Object"), (3, u "([Ljava/lang/Object;)Ljava/util/List;"), (0, .methodref 91 110), (0, .nameAndType 111 108), (0, u "listFromArray"), (0, .methodref 91 113), (0, .nameAndType 114 115), (0, u "listCopy"), (0, u "(Ljava/util/Collection;)Ljava/util/List;"), (3, u "()Ljava/util/List;"), (0, .class_ 121), (0, u "java/util/SequencedCollection"), (112, u "copyOf")] 16

def k15m0 : Method := { name := "get", desc := "(I)Ljava/lang/Object;", sig := { parameters := [.int], returnType := some (.object "java/lang/Object") }, accessFlags := 1025, code := none }
def k15c1 : Code := { maxStack := 1, maxLocals := 0, code := jdk_40_method_36_code, exceptionTable := #[], attributes := #[] }
def k15m1 : Method := { name := "of", desc := "()Ljava/util/List;", sig := { parameters := [], returnType := some (.object "java/util/List") }, accessFlags := 9, code := some k15c1 }
def k15c2 : Code := { maxStack := 5, maxLocals := 2, code := jdk_40_method_47_code, exceptionTable := #[], attributes := #[] }
def k15m2 : Method := { name := "of", desc := "([Ljava/lang/Object;)Ljava/util/List;", sig := { parameters := [(.array (.object "java/lang/Object"))], returnType := some (.object "java/util/List") }, accessFlags := 137, code := some k15c2 }
def k15c3 : Code := { maxStack := 1, maxLocals := 1, code := jdk_40_method_48_code, exceptionTable := #[], attributes := #[] }
def k15m3 : Method := { name := "copyOf", desc := "(Ljava/util/Collection;)Ljava/util/List;", sig := { parameters := [(.object "java/util/Collection")], returnType := some (.object "java/util/List") }, accessFlags := 9, code := some k15c3 }
/-- java/util/List -/
def k15 : Class := { plain "java/util/List" (some 0) with
  accessFlags := 1537
  interfaces := #[14]
  cf := some (fileOf pool15 8 #[] #[{ accessFlags := 1025, nameIndex := 75, descriptorIndex := 76, attributes := #[] }, { accessFlags := 9, nameIndex := 88, descriptorIndex := 119, attributes := #[] }, { accessFlags := 137, nameIndex := 88, descriptorIndex := 108, attributes := #[] }, { accessFlags := 9, nameIndex := 234, descriptorIndex := 115, attributes := #[] }] 1537 103 #[120] #[])
  fields := #[]
  methods := #[k15m0, k15m1, k15m2, k15m3]
  instanceTypes := #[]
  staticTypes := #[]
  resolved := Array.replicate 251 none
  statics := none }

def pool16 : Array CpInfo := pool [(1, .methodref 2 3), (0, .class_ 4), (0, .nameAndType 5 6), (0, u "java/util/AbstractCollection"), (0, u "<init>"), (0, u "()V"), (0, .fieldref 8 9), (0, .class_ 10), (0, .nameAndType 11 12), (0, u "java/util/AbstractList"), (0, u "modCount"), (0, u "I"), (64, .class_ 78), (0, u "java/util/AbstractList$Itr"), (3, .class_ 83), (0, u "java/util/AbstractList$ListItr"), (9, .class_ 94), (0, u "java/util/AbstractList$RandomAccessSubList"), (3, .class_ 99), (0, u "java/util/AbstractList$SubList"), (33, .class_ 134), (0, u "java/util/List"), (73, .class_ 209), (0, u "java/util/AbstractList$SubList$1"), (0, .class_ 211), (0, u "java/util/AbstractList$RandomAccessSpliterator")] 6

def k16c0 : Code := { maxStack := 2, maxLocals := 1, code := jdk_39_method_1_code, exceptionTable := #[], attributes := #[] }
def k16m0 : Method := { name := "<init>", desc := "()V", sig := { parameters := [], returnType := none }, accessFlags := 4, code := some k16c0 }
/-- java/util/AbstractList -/
def k16 : Class := { plain "java/util/AbstractList" (some 13) with
  accessFlags := 1057
  interfaces := #[15]
  cf := some (fileOf pool16 8 #[.nestMembers #[93, 98, 208, 210, 82, 77]] #[{ accessFlags := 4, nameIndex := 5, descriptorIndex := 6, attributes := #[] }] 1057 2 #[133] #[{ accessFlags := 132, nameIndex := 11, descriptorIndex := 12, attributes := #[] }])
  fields := #[{ name := "modCount", type := .int, accessFlags := 132, slot := 0, constantValue := 0 }]
  methods := #[k16m0]
  instanceTypes := #[.int]
  staticTypes := #[]
  resolved := Array.replicate 218 none
  statics := none }

def pool17 : Array CpInfo := pool [(1, .class_ 2), (0, u "java/util/RandomAccess"), (0, .class_ 4), (0, u "java/lang/Object")] 2

/-- java/util/RandomAccess -/
def k17 : Class := { plain "java/util/RandomAccess" (some 0) with
  accessFlags := 1537
  interfaces := #[]
  cf := some (fileOf pool17 1 #[] #[] 1537 3 #[] #[])
  fields := #[]
  methods := #[]
  instanceTypes := #[]
  staticTypes := #[]
  resolved := Array.replicate 7 none
  statics := none }

def pool18 : Array CpInfo := pool [(1, .class_ 2), (0, u "java/lang/Cloneable"), (0, .class_ 4), (0, u "java/lang/Object")] 2

/-- java/lang/Cloneable -/
def k18 : Class := { plain "java/lang/Cloneable" (some 0) with
  accessFlags := 1537
  interfaces := #[]
  cf := some (fileOf pool18 1 #[] #[] 1537 3 #[] #[])
  fields := #[]
  methods := #[]
  instanceTypes := #[]
  staticTypes := #[]
  resolved := Array.replicate 7 none
  statics := none }

def pool19 : Array CpInfo := pool [(1, .methodref 2 3), (0, .class_ 4), (0, .nameAndType 5 6), (0, u "java/util/AbstractList"), (0, u "<init>"), (0, u "()V"), (0, .class_ 8), (0, u "java/lang/Object"), (0, .fieldref 10 11), (0, .class_ 12), (0, .nameAndType 13 14), (0, u "java/util/ArrayList"), (0, u "elementData"), (0, u "[Ljava/lang/Object;"), (2, u "EMPTY_ELEMENTDATA"), (21, .fieldref 10 40), (0, .nameAndType 41 14), (0, u "DEFAULTCAPACITY_EMPTY_ELEMENTDATA"), (4, u "toArray"), (0, u "()[Ljava/lang/Object;"), (0, .fieldref 10 49), (0, .nameAndType 50 51), (0, u "size"), (0, u "I"), (6, .class_ 60), (1, u "java/util/Arrays"), (0, u "copyOf"), (1, .fieldref 10 64), (0, .nameAndType 65 51), (0, u "modCount"), (0, .methodref 58 67), (0, .nameAndType 61 68), (0, u "([Ljava/lang/Object;I)[Ljava/lang/Object;"), (0, .methodref 10 70), (0, .nameAndType 71 72), (0, u "grow"), (0, u "(I)[Ljava/lang/Object;"), (6, .methodref 80 81), (0, .class_ 82), (0, .nameAndType 83 84), (0, u "java/lang/Math"), (0, u "max"), (0, u "(II)I"), (11, u "(Ljava/lang/Object;)Z"), (32, .methodref 10 130), (0, .nameAndType 71 47), (0, .methodref 10 132), (0, .nameAndType 133 134), (0, u "add"), (0, u "(Ljava/lang/Object;[Ljava/lang/Object;I)V"), (13, .class_ 149), (0, u "java/util/List"), (23, u "()Z"), (88, .class_ 263), (0, u "java/util/ArrayList$ListItr"), (3, .class_ 268), (0, u "java/util/ArrayList$Itr"), (7, .class_ 277), (0, u "java/util/ArrayList$SubList"), (12, .class_ 291), (0, u "java/util/ArrayList$ArrayListSpliterator"), (37, .class_ 330), (0, u "java/util/RandomAccess"), (0, .class_ 332), (0, u "java/lang/Cloneable"), (0, .class_ 334), (0, u "java/io/Serializable"), (0, u "serialVersionUID"), (0, u "J"), (3, u "DEFAULT_CAPACITY"), (22, u "isEmpty"), (136, .class_ 501), (0, u "java/util/ArrayList$SubList$2"), (0, .class_ 503), (0, u "java/util/ArrayList$SubList$1")] 5

def k19c0 : Code := { maxStack := 2, maxLocals := 1, code := jdk_38_method_2_code, exceptionTable := #[], attributes := #[] }
def k19m0 : Method := { name := "<init>", desc := "()V", sig := { parameters := [], returnType := none }, accessFlags := 1, code := some k19c0 }
def k19c1 : Code := { maxStack := 4, maxLocals := 4, code := jdk_38_method_6_code, exceptionTable := #[], attributes := #[] }
def k19m1 : Method := { name := "grow", desc := "(I)[Ljava/lang/Object;", sig := { parameters := [.int], returnType := some (.array (.object "java/lang/Object")) }, accessFlags := 2, code := some k19c1 }
def k19c2 : Code := { maxStack := 3, maxLocals := 1, code := jdk_38_method_7_code, exceptionTable := #[], attributes := #[] }
def k19m2 : Method := { name := "grow", desc := "()[Ljava/lang/Object;", sig := { parameters := [], returnType := some (.array (.object "java/lang/Object")) }, accessFlags := 2, code := some k19c2 }
def k19c3 : Code := { maxStack := 1, maxLocals := 1, code := jdk_38_method_9_code, exceptionTable := #[], attributes := #[] }
def k19m3 : Method := { name := "isEmpty", desc := "()Z", sig := { parameters := [], returnType := some .boolean }, accessFlags := 1, code := some k19c3 }
def k19c4 : Code := { maxStack := 2, maxLocals := 1, code := jdk_38_method_16_code, exceptionTable := #[], attributes := #[] }
def k19m4 : Method := { name := "toArray", desc := "()[Ljava/lang/Object;", sig := { parameters := [], returnType := some (.array (.object "java/lang/Object")) }, accessFlags := 1, code := some k19c4 }
def k19c5 : Code := { maxStack := 3, maxLocals := 4, code := jdk_38_method_24_code, exceptionTable := #[], attributes := #[] }
def k19m5 : Method := { name := "add", desc := "(Ljava/lang/Object;[Ljava/lang/Object;I)V", sig := { parameters := [(.object "java/lang/Object"), (.array (.object "java/lang/Object")), .int], returnType := none }, accessFlags := 2, code := some k19c5 }
def k19c6 : Code := { maxStack := 4, maxLocals := 2, code := jdk_38_method_25_code, exceptionTable := #[], attributes := #[] }
def k19m6 : Method := { name := "add", desc := "(Ljava/lang/Object;)Z", sig := { parameters := [(.object "java/lang/Object")], returnType := some .boolean }, accessFlags := 1, code := some k19c6 }
/-- java/util/ArrayList -/
def k19 : Class := { plain "java/util/ArrayList" (some 16) with
  accessFlags := 33
  interfaces := #[15, 17, 18, 2]
  cf := some (fileOf pool19 10 #[.nestMembers #[290, 276, 500, 502, 262, 267]] #[{ accessFlags := 1, nameIndex := 5, descriptorIndex := 6, attributes := #[] }, { accessFlags := 2, nameIndex := 71, descriptorIndex := 72, attributes := #[] }, { accessFlags := 2, nameIndex := 71, descriptorIndex := 47, attributes := #[] }, { accessFlags := 1, nameIndex := 363, descriptorIndex := 173, attributes := #[] }, { accessFlags := 1, nameIndex := 46, descriptorIndex := 47, attributes := #[] }, { accessFlags := 2, nameIndex := 133, descriptorIndex := 134, attributes := #[] }, { accessFlags := 1, nameIndex := 133, descriptorIndex := 96, attributes := #[] }] 33 2 #[148, 329, 331, 333] #[{ accessFlags := 26, nameIndex := 335, descriptorIndex := 336, attributes := #[] }, { accessFlags := 26, nameIndex := 340, descriptorIndex := 51, attributes := #[] }, { accessFlags := 26, nameIndex := 17, descriptorIndex := 14, attributes := #[] }, { accessFlags := 26, nameIndex := 41, descriptorIndex := 14, attributes := #[] }, { accessFlags := 128, nameIndex := 13, descriptorIndex := 14, attributes := #[] }, { accessFlags := 2, nameIndex := 50, descriptorIndex := 51, attributes := #[] }])
  fields := #[{ name := "serialVersionUID", type := .long, accessFlags := 26, slot := 0, constantValue := 0 }, { name := "DEFAULT_CAPACITY", type := .int, accessFlags := 26, slot := 1, constantValue := 0 }, { name := "EMPTY_ELEMENTDATA", type := (.array (.object "java/lang/Object")), accessFlags := 26, slot := 2, constantValue := 0 }, { name := "DEFAULTCAPACITY_EMPTY_ELEMENTDATA", type := (.array (.object "java/lang/Object")), accessFlags := 26, slot := 3, constantValue := 0 }, { name := "elementData", type := (.array (.object "java/lang/Object")), accessFlags := 128, slot := 1, constantValue := 0 }, { name := "size", type := .int, accessFlags := 2, slot := 2, constantValue := 0 }]
  methods := #[k19m0, k19m1, k19m2, k19m3, k19m4, k19m5, k19m6]
  instanceTypes := #[.int, (.array (.object "java/lang/Object")), .int]
  staticTypes := #[.long, .int, (.array (.object "java/lang/Object")), (.array (.object "java/lang/Object"))]
  resolved := Array.replicate 509 none
  statics := some 2 }

def pool20 : Array CpInfo := pool [(1, .class_ 2), (0, u "java/lang/Math"), (1, .class_ 6), (1, u "java/lang/Object"), (0, u "<init>"), (0, u "()V"), (89, .class_ 100), (1, u "java/lang/Math$RandomNumberGeneratorHolder"), (71, u "negativeZeroFloatBits"), (0, u "J"), (2, u "negativeZeroDoubleBits"), (21, u "max"), (2, u "min"), (43, u "$assertionsDisabled"), (0, u "Z"), (88, u "(II)I"), (2, u "twoToTheDoubleScaleDown"), (0, u "D"), (4, u "twoToTheDoubleScaleUp"), (9, u "E"), (3, u "PI"), (2, u "TAU"), (2, u "DEGREES_TO_RADIANS"), (0, u "RADIANS_TO_DEGREES")] 94

def k20m0 : Method := { name := "<init>", desc := "()V", sig := { parameters := [], returnType := none }, accessFlags := 2, code := none }
def k20c1 : Code := { maxStack := 2, maxLocals := 2, code := jdk_29_method_65_code, exceptionTable := #[], attributes := #[] }
def k20m1 : Method := { name := "max", desc := "(II)I", sig := { parameters := [.int, .int], returnType := some .int }, accessFlags := 9, code := some k20c1 }
def k20c2 : Code := { maxStack := 2, maxLocals := 2, code := jdk_29_method_69_code, exceptionTable := #[], attributes := #[] }
def k20m2 : Method := { name := "min", desc := "(II)I", sig := { parameters := [.int, .int], returnType := some .int }, accessFlags := 9, code := some k20c2 }
/-- java/lang/Math -/
def k20 : Class := { plain "java/lang/Math" (some 0) with
  accessFlags := 49
  interfaces := #[]
  cf := some (fileOf pool20 1 #[.nestMembers #[98]] #[{ accessFlags := 2, nameIndex := 7, descriptorIndex := 8, attributes := #[] }, { accessFlags := 9, nameIndex := 198, descriptorIndex := 335, attributes := #[] }, { accessFlags := 9, nameIndex := 201, descriptorIndex := 335, attributes := #[] }] 49 4 #[] #[{ accessFlags := 25, nameIndex := 354, descriptorIndex := 339, attributes := #[] }, { accessFlags := 25, nameIndex := 358, descriptorIndex := 339, attributes := #[] }, { accessFlags := 25, nameIndex := 361, descriptorIndex := 339, attributes := #[] }, { accessFlags := 26, nameIndex := 364, descriptorIndex := 339, attributes := #[] }, { accessFlags := 26, nameIndex := 365, descriptorIndex := 339, attributes := #[] }, { accessFlags := 26, nameIndex := 172, descriptorIndex := 173, attributes := #[] }, { accessFlags := 26, nameIndex := 176, descriptorIndex := 173, attributes := #[] }, { accessFlags := 8, nameIndex := 344, descriptorIndex := 339, attributes := #[] }, { accessFlags := 8, nameIndex := 338, descriptorIndex := 339, attributes := #[] }, { accessFlags := 4120, nameIndex := 245, descriptorIndex := 246, attributes := #[] }])
  fields := #[{ name := "E", type := .double, accessFlags := 25, slot := 0, constantValue := 0 }, { name := "PI", type := .double, accessFlags := 25, slot := 1, constantValue := 0 }, { name := "TAU", type := .double, accessFlags := 25, slot := 2, constantValue := 0 }, { name := "DEGREES_TO_RADIANS", type := .double, accessFlags := 26, slot := 3, constantValue := 0 }, { name := "RADIANS_TO_DEGREES", type := .double, accessFlags := 26, slot := 4, constantValue := 0 }, { name := "negativeZeroFloatBits", type := .long, accessFlags := 26, slot := 5, constantValue := 0 }, { name := "negativeZeroDoubleBits", type := .long, accessFlags := 26, slot := 6, constantValue := 0 }, { name := "twoToTheDoubleScaleUp", type := .double, accessFlags := 8, slot := 7, constantValue := 0 }, { name := "twoToTheDoubleScaleDown", type := .double, accessFlags := 8, slot := 8, constantValue := 0 }, { name := "$assertionsDisabled", type := .boolean, accessFlags := 4120, slot := 9, constantValue := 0 }]
  methods := #[k20m0, k20m1, k20m2]
  instanceTypes := #[]
  staticTypes := #[.double, .double, .double, .double, .double, .long, .long, .double, .double, .boolean]
  resolved := Array.replicate 460 none
  statics := none }

def pool21 : Array CpInfo := pool [(1, .methodref 2 3), (0, .class_ 4), (0, .nameAndType 5 6), (0, u "java/lang/Object"), (0, u "<init>"), (0, u "()V"), (0, .fieldref 8 9), (0, .class_ 10), (0, .nameAndType 11 12), (0, u "com/example/bindgate/bindgate/idl/Declaration"), (0, u "kind"), (0, u "Lcom/example/bindgate/bindgate/idl/Declaration$Kind;"), (0, .interfaceMethodref 14 15), (0, .class_ 16), (0, .nameAndType 17 18), (0, u "java/util/List"), (0, u "copyOf"), (0, u "(Ljava/util/Collection;)Ljava/util/List;"), (0, .fieldref 8 20), (0, .nameAndType 21 22), (0, u "names"), (0, u "Ljava/util/List;"), (0, .fieldref 8 24), (0, .nameAndType 25 22), (0, u "tokens"), (0, .interfaceMethodref 14 27), (0, .nameAndType 28 29), (0, u "get"), (0, u "(I)Ljava/lang/Object;"), (0, .class_ 31), (0, u "java/lang/String"), (2, u "(Lcom/example/bindgate/bindgate/idl/Declaration$Kind;Ljava/util/List;Ljava/util/List;)V"), (4, u "name"), (0, u "()Ljava/lang/String;"), (5, .class_ 47), (0, u "com/example/bindgate/bindgate/idl/Declaration$Kind")] 2

def k21c0 : Code := { maxStack := 2, maxLocals := 4, code := prog_5_method_1_code, exceptionTable := #[], attributes := #[] }
def k21m0 : Method := { name := "<init>", desc := "(Lcom/example/bindgate/bindgate/idl/Declaration$Kind;Ljava/util/List;Ljava/util/List;)V", sig := { parameters := [(.object "com/example/bindgate/bindgate/idl/Declaration$Kind"), (.object "java/util/List"), (.object "java/util/List")], returnType := none }, accessFlags := 0, code := some k21c0 }
def k21c1 : Code := { maxStack := 2, maxLocals := 1, code := prog_5_method_3_code, exceptionTable := #[], attributes := #[] }
def k21m1 : Method := { name := "name", desc := "()Ljava/lang/String;", sig := { parameters := [], returnType := some (.object "java/lang/String") }, accessFlags := 1, code := some k21c1 }
/-- com/example/bindgate/bindgate/idl/Declaration -/
def k21 : Class := { plain "com/example/bindgate/bindgate/idl/Declaration" (some 0) with
  accessFlags := 49
  interfaces := #[]
  cf := some (fileOf pool21 8 #[.nestMembers #[46]] #[{ accessFlags := 0, nameIndex := 5, descriptorIndex := 34, attributes := #[] }, { accessFlags := 1, nameIndex := 39, descriptorIndex := 40, attributes := #[] }] 49 2 #[] #[{ accessFlags := 18, nameIndex := 11, descriptorIndex := 12, attributes := #[] }, { accessFlags := 18, nameIndex := 21, descriptorIndex := 22, attributes := #[] }, { accessFlags := 18, nameIndex := 25, descriptorIndex := 22, attributes := #[] }])
  fields := #[{ name := "kind", type := (.object "com/example/bindgate/bindgate/idl/Declaration$Kind"), accessFlags := 18, slot := 0, constantValue := 0 }, { name := "names", type := (.object "java/util/List"), accessFlags := 18, slot := 1, constantValue := 0 }, { name := "tokens", type := (.object "java/util/List"), accessFlags := 18, slot := 2, constantValue := 0 }]
  methods := #[k21m0, k21m1]
  instanceTypes := #[(.object "com/example/bindgate/bindgate/idl/Declaration$Kind"), (.object "java/util/List"), (.object "java/util/List")]
  staticTypes := #[]
  resolved := Array.replicate 50 none
  statics := none }

def pool22 : Array CpInfo := pool [(2, .class_ 4), (1, u "java/lang/Object"), (0, u "<init>"), (0, u "()V"), (3, .class_ 11), (0, u "java/util/ImmutableCollections$List12"), (0, .class_ 13), (0, u "java/util/ImmutableCollections$ListN"), (3, u "Z"), (0, .class_ 19), (0, u "java/util/List"), (0, .interfaceMethodref 21 22), (0, .class_ 23), (0, .nameAndType 24 25), (0, u "java/util/Collection"), (0, u "isEmpty"), (0, u "()Z"), (0, .interfaceMethodref 18 27), (0, .nameAndType 28 29), (0, u "of"), (0, u "()Ljava/util/List;"), (0, .interfaceMethodref 21 31), (0, .nameAndType 32 33), (0, u "toArray"), (0, u "()[Ljava/lang/Object;"), (0, .interfaceMethodref 18 35), (0, .nameAndType 28 36), (0, u "([Ljava/lang/Object;)Ljava/util/List;"), (0, .methodref 38 39), (0, .class_ 40), (0, .nameAndType 41 42), (0, u "java/util/Objects"), (0, u "requireNonNull"), (0, u "(Ljava/lang/Object;)Ljava/lang/Object;"), (0, .methodref 12 44), (0, .nameAndType 5 45), (0, u "([Ljava/lang/Object;Z)V"), (1, .class_ 49), (1, u "java/util/ImmutableCollections"), (0, u "$assertionsDisabled"), (5, u "[Ljava/lang/Object;"), (5, u "EMPTY_LIST"), (0, u "Ljava/util/ImmutableCollections$ListN;"), (8, u "EMPTY_LIST_NULLS"), (22, u "SALT32L"), (0, u "J"), (2, u "REVERSE"), (6, u "archivedObjects"), (2, u "EMPTY"), (0, u "Ljava/lang/Object;"), (0, .class_ 112), (0, u "java/util/ImmutableCollections$SetN"), (5, u "EMPTY_SET"), (0, u "Ljava/util/ImmutableCollections$SetN;"), (0, .class_ 121), (0, u "java/util/ImmutableCollections$MapN"), (3, u "EMPTY_MAP"), (0, u "Ljava/util/ImmutableCollections$MapN;"), (4, u "EXPAND_FACTOR"), (0, u "I"), (9, u "listCopy"), (0, u "(Ljava/util/Collection;)Ljava/util/List;"), (7, u "listFromArray"), (17, .class_ 170), (0, u "java/util/ImmutableCollections$MapN$MapNIterator"), (0, .class_ 172), (0, u "java/util/ImmutableCollections$MapN$1"), (0, .class_ 174), (0, u "java/util/ImmutableCollections$Map1"), (0, .class_ 176), (0, u "java/util/ImmutableCollections$AbstractImmutableMap"), (0, .class_ 178), (0, u "java/util/ImmutableCollections$SetN$SetNIterator"), (0, .class_ 180), (0, u "java/util/ImmutableCollections$Set12"), (0, .class_ 182), (0, u "java/util/ImmutableCollections$Set12$1"), (0, .class_ 184), (0, u "java/util/ImmutableCollections$AbstractImmutableSet"), (0, .class_ 186), (0, u "java/util/ImmutableCollections$SubList"), (0, .class_ 188), (0, u "java/util/ImmutableCollections$ListItr"), (0, .class_ 190), (0, u "java/util/ImmutableCollections$AbstractImmutableList"), (0, .class_ 192), (0, u "java/util/ImmutableCollections$AbstractImmutableCollection"), (0, .class_ 194), (0, u "java/util/ImmutableCollections$Access"), (0, .class_ 196), (0, u "java/util/ImmutableCollections$Access$1")] 16

def k22m0 : Method := { name := "<init>", desc := "()V", sig := { parameters := [], returnType := none }, accessFlags := 2, code := none }
def k22c1 : Code := { maxStack := 1, maxLocals := 2, code := jdk_56_method_3_code, exceptionTable := #[], attributes := #[] }
def k22m1 : Method := { name := "listCopy", desc := "(Ljava/util/Collection;)Ljava/util/List;", sig := { parameters := [(.object "java/util/Collection")], returnType := some (.object "java/util/List") }, accessFlags := 8, code := some k22c1 }
def k22c2 : Code := { maxStack := 4, maxLocals := 3, code := jdk_56_method_4_code, exceptionTable := #[], attributes := #[] }
def k22m2 : Method := { name := "listFromArray", desc := "([Ljava/lang/Object;)Ljava/util/List;", sig := { parameters := [(.array (.object "java/lang/Object"))], returnType := some (.object "java/util/List") }, accessFlags := 136, code := some k22c2 }
/-- java/util/ImmutableCollections -/
def k22 : Class := { plain "java/util/ImmutableCollections" (some 0) with
  accessFlags := 32
  interfaces := #[]
  cf := some (fileOf pool22 47 #[.nestMembers #[120, 169, 171, 173, 175, 111, 177, 179, 181, 183, 12, 10, 185, 187, 189, 191, 193, 195]] #[{ accessFlags := 2, nameIndex := 5, descriptorIndex := 6, attributes := #[] }, { accessFlags := 8, nameIndex := 142, descriptorIndex := 143, attributes := #[] }, { accessFlags := 136, nameIndex := 151, descriptorIndex := 36, attributes := #[] }] 32 2 #[] #[{ accessFlags := 26, nameIndex := 95, descriptorIndex := 96, attributes := #[] }, { accessFlags := 26, nameIndex := 99, descriptorIndex := 17, attributes := #[] }, { accessFlags := 10, nameIndex := 106, descriptorIndex := 56, attributes := #[] }, { accessFlags := 26, nameIndex := 109, descriptorIndex := 110, attributes := #[] }, { accessFlags := 24, nameIndex := 62, descriptorIndex := 63, attributes := #[] }, { accessFlags := 24, nameIndex := 72, descriptorIndex := 63, attributes := #[] }, { accessFlags := 24, nameIndex := 118, descriptorIndex := 119, attributes := #[] }, { accessFlags := 24, nameIndex := 125, descriptorIndex := 126, attributes := #[] }, { accessFlags := 24, nameIndex := 131, descriptorIndex := 132, attributes := #[] }, { accessFlags := 4120, nameIndex := 50, descriptorIndex := 17, attributes := #[] }])
  fields := #[{ name := "SALT32L", type := .long, accessFlags := 26, slot := 0, constantValue := 0 }, { name := "REVERSE", type := .boolean, accessFlags := 26, slot := 1, constantValue := 0 }, { name := "archivedObjects", type := (.array (.object "java/lang/Object")), accessFlags := 10, slot := 2, constantValue := 0 }, { name := "EMPTY", type := (.object "java/lang/Object"), accessFlags := 26, slot := 3, constantValue := 0 }, { name := "EMPTY_LIST", type := (.object "java/util/ImmutableCollections$ListN"), accessFlags := 24, slot := 4, constantValue := 0 }, { name := "EMPTY_LIST_NULLS", type := (.object "java/util/ImmutableCollections$ListN"), accessFlags := 24, slot := 5, constantValue := 0 }, { name := "EMPTY_SET", type := (.object "java/util/ImmutableCollections$SetN"), accessFlags := 24, slot := 6, constantValue := 0 }, { name := "EMPTY_MAP", type := (.object "java/util/ImmutableCollections$MapN"), accessFlags := 24, slot := 7, constantValue := 0 }, { name := "EXPAND_FACTOR", type := .int, accessFlags := 24, slot := 8, constantValue := 0 }, { name := "$assertionsDisabled", type := .boolean, accessFlags := 4120, slot := 9, constantValue := 0 }]
  methods := #[k22m0, k22m1, k22m2]
  instanceTypes := #[]
  staticTypes := #[.long, .boolean, (.array (.object "java/lang/Object")), (.object "java/lang/Object"), (.object "java/util/ImmutableCollections$ListN"), (.object "java/util/ImmutableCollections$ListN"), (.object "java/util/ImmutableCollections$SetN"), (.object "java/util/ImmutableCollections$MapN"), .int, .boolean]
  resolved := Array.replicate 213 none
  statics := some 3 }

def pool23 : Array CpInfo := pool [(1, .methodref 2 3), (0, .class_ 4), (0, .nameAndType 5 6), (0, u "java/util/AbstractCollection"), (0, u "<init>"), (0, u "()V"), (1, .class_ 10), (1, u "java/util/ImmutableCollections"), (2, .class_ 14), (0, u "java/util/ImmutableCollections$AbstractImmutableCollection")] 41

def k23c0 : Code := { maxStack := 1, maxLocals := 1, code := jdk_47_method_1_code, exceptionTable := #[], attributes := #[] }
def k23m0 : Method := { name := "<init>", desc := "()V", sig := { parameters := [], returnType := none }, accessFlags := 0, code := some k23c0 }
/-- java/util/ImmutableCollections$AbstractImmutableCollection -/
def k23 : Class := { plain "java/util/ImmutableCollections$AbstractImmutableCollection" (some 13) with
  accessFlags := 1056
  interfaces := #[]
  cf := some (fileOf pool23 13 #[.nestHost 8] #[{ accessFlags := 0, nameIndex := 5, descriptorIndex := 6, attributes := #[] }] 1056 2 #[] #[])
  fields := #[]
  methods := #[k23m0]
  instanceTypes := #[]
  staticTypes := #[]
  resolved := Array.replicate 56 none
  statics := none }

def pool24 : Array CpInfo := pool [(1, .methodref 2 3), (0, .class_ 4), (0, .nameAndType 5 6), (0, u "java/util/ImmutableCollections$AbstractImmutableCollection"), (0, u "<init>"), (0, u "()V"), (1, .class_ 10), (1, u "java/util/ImmutableCollections"), (3, .class_ 16), (1, u "java/util/ImmutableCollections$AbstractImmutableList"), (60, .class_ 78), (0, u "java/util/List"), (45, .class_ 125), (0, u "java/util/RandomAccess")] 70

def k24c0 : Code := { maxStack := 1, maxLocals := 1, code := jdk_46_method_1_code, exceptionTable := #[], attributes := #[] }
def k24m0 : Method := { name := "<init>", desc := "()V", sig := { parameters := [], returnType := none }, accessFlags := 0, code := some k24c0 }
/-- java/util/ImmutableCollections$AbstractImmutableList -/
def k24 : Class := { plain "java/util/ImmutableCollections$AbstractImmutableList" (some 23) with
  accessFlags := 1056
  interfaces := #[15, 17]
  cf := some (fileOf pool24 14 #[.nestHost 8] #[{ accessFlags := 0, nameIndex := 5, descriptorIndex := 6, attributes := #[] }] 1056 2 #[77, 124] #[])
  fields := #[]
  methods := #[k24m0]
  instanceTypes := #[]
  staticTypes := #[]
  resolved := Array.replicate 196 none
  statics := none }

def pool25 : Array CpInfo := pool [(1, .methodref 2 3), (0, .class_ 4), (0, .nameAndType 5 6), (0, u "java/util/ImmutableCollections$AbstractImmutableList"), (0, u "<init>"), (0, u "()V"), (0, .methodref 8 9), (0, .class_ 10), (0, .nameAndType 11 12), (0, u "java/util/Objects"), (0, u "requireNonNull"), (0, u "(Ljava/lang/Object;)Ljava/lang/Object;"), (0, .fieldref 14 15), (0, .class_ 16), (0, .nameAndType 17 18), (0, u "java/util/ImmutableCollections$List12"), (0, u "e0"), (0, u "Ljava/lang/Object;"), (0, .fieldref 20 21), (0, .class_ 22), (0, .nameAndType 23 18), (0, u "java/util/ImmutableCollections"), (0, u "EMPTY"), (0, .fieldref 14 25), (0, .nameAndType 26 18), (0, u "e1"), (43, .class_ 71), (0, u "java/io/Serializable"), (4, u "(Ljava/lang/Object;)V"), (8, u "(Ljava/lang/Object;Ljava/lang/Object;)V"), (4, u "get"), (0, u "(I)Ljava/lang/Object;")] 33

def k25c0 : Code := { maxStack := 2, maxLocals := 2, code := jdk_44_method_1_code, exceptionTable := #[], attributes := #[] }
def k25m0 : Method := { name := "<init>", desc := "(Ljava/lang/Object;)V", sig := { parameters := [(.object "java/lang/Object")], returnType := none }, accessFlags := 0, code := some k25c0 }
def k25c1 : Code := { maxStack := 2, maxLocals := 3, code := jdk_44_method_2_code, exceptionTable := #[], attributes := #[] }
def k25m1 : Method := { name := "<init>", desc := "(Ljava/lang/Object;Ljava/lang/Object;)V", sig := { parameters := [(.object "java/lang/Object"), (.object "java/lang/Object")], returnType := none }, accessFlags := 0, code := some k25c1 }
def k25c2 : Code := { maxStack := 2, maxLocals := 2, code := jdk_44_method_5_code, exceptionTable := #[], attributes := #[] }
def k25m2 : Method := { name := "get", desc := "(I)Ljava/lang/Object;", sig := { parameters := [.int], returnType := some (.object "java/lang/Object") }, accessFlags := 1, code := some k25c2 }
/-- java/util/ImmutableCollections$List12 -/
def k25 : Class := { plain "java/util/ImmutableCollections$List12" (some 24) with
  accessFlags := 48
  interfaces := #[2]
  cf := some (fileOf pool25 14 #[.nestHost 20] #[{ accessFlags := 0, nameIndex := 5, descriptorIndex := 76, attributes := #[] }, { accessFlags := 0, nameIndex := 5, descriptorIndex := 85, attributes := #[] }, { accessFlags := 1, nameIndex := 90, descriptorIndex := 91, attributes := #[] }] 48 2 #[70] #[{ accessFlags := 18, nameIndex := 17, descriptorIndex := 18, attributes := #[] }, { accessFlags := 18, nameIndex := 26, descriptorIndex := 18, attributes := #[] }])
  fields := #[{ name := "e0", type := (.object "java/lang/Object"), accessFlags := 18, slot := 0, constantValue := 0 }, { name := "e1", type := (.object "java/lang/Object"), accessFlags := 18, slot := 1, constantValue := 0 }]
  methods := #[k25m0, k25m1, k25m2]
  instanceTypes := #[(.object "java/lang/Object"), (.object "java/lang/Object")]
  staticTypes := #[]
  resolved := Array.replicate 125 none
  statics := none }

def pool26 : Array CpInfo := pool [(1, .methodref 2 3), (0, .class_ 4), (0, .nameAndType 5 6), (0, u "java/util/ImmutableCollections$AbstractImmutableList"), (0, u "<init>"), (0, u "()V"), (0, .fieldref 8 9), (0, .class_ 10), (0, .nameAndType 11 12), (0, u "java/util/ImmutableCollections$ListN"), (0, u "elements"), (0, u "[Ljava/lang/Object;"), (0, .fieldref 8 14), (0, .nameAndType 15 16), (0, u "allowNulls"), (0, u "Z"), (42, .class_ 60), (0, u "java/io/Serializable"), (4, u "([Ljava/lang/Object;Z)V"), (13, u "get"), (0, u "(I)Ljava/lang/Object;"), (33, .class_ 115), (0, u "java/util/ImmutableCollections")] 3

def k26c0 : Code := { maxStack := 2, maxLocals := 3, code := jdk_45_method_1_code, exceptionTable := #[], attributes := #[] }
def k26m0 : Method := { name := "<init>", desc := "([Ljava/lang/Object;Z)V", sig := { parameters := [(.array (.object "java/lang/Object")), .boolean], returnType := none }, accessFlags := 2, code := some k26c0 }
def k26c1 : Code := { maxStack := 2, maxLocals := 2, code := jdk_45_method_4_code, exceptionTable := #[], attributes := #[] }
def k26m1 : Method := { name := "get", desc := "(I)Ljava/lang/Object;", sig := { parameters := [.int], returnType := some (.object "java/lang/Object") }, accessFlags := 1, code := some k26c1 }
/-- java/util/ImmutableCollections$ListN -/
def k26 : Class := { plain "java/util/ImmutableCollections$ListN" (some 24) with
  accessFlags := 48
  interfaces := #[2]
  cf := some (fileOf pool26 8 #[.nestHost 114] #[{ accessFlags := 2, nameIndex := 5, descriptorIndex := 65, attributes := #[] }, { accessFlags := 1, nameIndex := 79, descriptorIndex := 80, attributes := #[] }] 48 2 #[59] #[{ accessFlags := 18, nameIndex := 11, descriptorIndex := 12, attributes := #[] }, { accessFlags := 18, nameIndex := 15, descriptorIndex := 16, attributes := #[] }])
  fields := #[{ name := "elements", type := (.array (.object "java/lang/Object")), accessFlags := 18, slot := 0, constantValue := 0 }, { name := "allowNulls", type := .boolean, accessFlags := 18, slot := 1, constantValue := 0 }]
  methods := #[k26m0, k26m1]
  instanceTypes := #[(.array (.object "java/lang/Object")), .boolean]
  staticTypes := #[]
  resolved := Array.replicate 119 none
  statics := none }

def pool27 : Array CpInfo := pool [(2, .class_ 4), (1, u "java/lang/Object"), (0, u "<init>"), (0, u "()V"), (7, .class_ 16), (1, u "java/util/Arrays"), (57, .class_ 76), (1, u "java/util/Arrays$NaturalOrder"), (9, .methodref 2 87), (0, .nameAndType 88 89), (0, u "getClass"), (0, u "()Ljava/lang/Class;"), (20, .class_ 111), (0, u "[Ljava/lang/Object;"), (1, .class_ 115), (1, u "java/util/Arrays$LegacyMergeSort"), (1, u "Z"), (32, .methodref 151 152), (0, .class_ 153), (0, .nameAndType 154 155), (0, u "java/lang/System"), (0, u "arraycopy"), (0, u "(Ljava/lang/Object;ILjava/lang/Object;II)V"), (144, .methodref 14 301), (0, .nameAndType 302 303), (0, u "copyOf"), (0, u "([Ljava/lang/Object;ILjava/lang/Class;)[Ljava/lang/Object;"), (0, .methodref 305 306), (0, .class_ 307), (0, .nameAndType 308 309), (0, u "java/lang/Math"), (0, u "min"), (0, u "(II)I"), (65, .class_ 376), (0, u "java/util/Arrays$ArrayList"), (68, u "$assertionsDisabled"), (269, u "MIN_ARRAY_SORT_GRAN"), (0, u "I"), (2, u "INSERTIONSORT_THRESHOLD"), (140, u "([Ljava/lang/Object;I)[Ljava/lang/Object;"), (114, .class_ 976), (0, u "java/util/Arrays$ArrayItr")] 52

def k27m0 : Method := { name := "<init>", desc := "()V", sig := { parameters := [], returnType := none }, accessFlags := 2, code := none }
def k27c1 : Code := { maxStack := 3, maxLocals := 2, code := jdk_65_method_119_code, exceptionTable := #[], attributes := #[] }
def k27m1 : Method := { name := "copyOf", desc := "([Ljava/lang/Object;I)[Ljava/lang/Object;", sig := { parameters := [(.array (.object "java/lang/Object")), .int], returnType := some (.array (.object "java/lang/Object")) }, accessFlags := 9, code := some k27c1 }
def k27c2 : Code := { maxStack := 6, maxLocals := 4, code := jdk_65_method_120_code, exceptionTable := #[], attributes := #[] }
def k27m2 : Method := { name := "copyOf", desc := "([Ljava/lang/Object;ILjava/lang/Class;)[Ljava/lang/Object;", sig := { parameters := [(.array (.object "java/lang/Object")), .int, (.object "java/lang/Class")], returnType := some (.array (.object "java/lang/Object")) }, accessFlags := 9, code := some k27c2 }
/-- java/util/Arrays -/
def k27 : Class := { plain "java/util/Arrays" (some 0) with
  accessFlags := 49
  interfaces := #[]
  cf := some (fileOf pool27 14 #[.nestMembers #[975, 375, 113, 74]] #[{ accessFlags := 2, nameIndex := 5, descriptorIndex := 6, attributes := #[] }, { accessFlags := 9, nameIndex := 302, descriptorIndex := 860, attributes := #[] }, { accessFlags := 9, nameIndex := 302, descriptorIndex := 303, attributes := #[] }] 49 2 #[] #[{ accessFlags := 26, nameIndex := 715, descriptorIndex := 716, attributes := #[] }, { accessFlags := 26, nameIndex := 719, descriptorIndex := 716, attributes := #[] }, { accessFlags := 4120, nameIndex := 445, descriptorIndex := 117, attributes := #[] }])
  fields := #[{ name := "MIN_ARRAY_SORT_GRAN", type := .int, accessFlags := 26, slot := 0, constantValue := 0 }, { name := "INSERTIONSORT_THRESHOLD", type := .int, accessFlags := 26, slot := 1, constantValue := 0 }, { name := "$assertionsDisabled", type := .boolean, accessFlags := 4120, slot := 2, constantValue := 0 }]
  methods := #[k27m0, k27m1, k27m2]
  instanceTypes := #[]
  staticTypes := #[.int, .int, .boolean]
  resolved := Array.replicate 1029 none
  statics := none }

def pool28 : Array CpInfo := pool [(2, .class_ 4), (1, u "java/lang/Object"), (0, u "<init>"), (0, u "()V"), (1, .class_ 10), (1, u "java/lang/System"), (0, u "allowSecurityManager"), (0, u "I"), (16, u "cons"), (0, u "Ljava/io/Console;"), (77, .class_ 110), (1, u "java/lang/System$CallersHolder"), (43, u "initialErrStream"), (0, u "Ljava/io/PrintStream;"), (19, u "security"), (0, u "Ljava/lang/SecurityManager;"), (31, .class_ 209), (0, u "java/lang/System$1"), (7, u "props"), (0, u "Ljava/util/Properties;"), (2, u "lineSeparator"), (0, u "Ljava/lang/String;"), (96, .class_ 321), (1, u "java/lang/System$LoggerFinder"), (5, .class_ 328), (0, u "java/lang/System$Logger"), (67, u "err"), (2, u "out"), (91, u "notSupportedJnuEncoding"), (15, u "in"), (17, u "initialIn"), (0, u "Ljava/io/InputStream;"), (35, u "bootLayer"), (0, u "Ljava/lang/ModuleLayer;"), (99, .class_ 664), (0, u "java/lang/System$2"), (9, u "NEVER"), (2, u "MAYBE"), (49, u "arraycopy"), (0, u "(Ljava/lang/Object;ILjava/lang/Object;II)V"), (72, .class_ 802), (0, u "java/lang/System$Logger$Level")] 31

def k28m0 : Method := { name := "<init>", desc := "()V", sig := { parameters := [], returnType := none }, accessFlags := 2, code := none }
def k28m1 : Method := { name := "arraycopy", desc := "(Ljava/lang/Object;ILjava/lang/Object;II)V", sig := { parameters := [(.object "java/lang/Object"), .int, (.object "java/lang/Object"), .int, .int], returnType := none }, accessFlags := 265, code := none }
/-- java/lang/System -/
def k28 : Class := { plain "java/lang/System" (some 0) with
  accessFlags := 49
  interfaces := #[]
  cf := some (fileOf pool28 8 #[.nestMembers #[319, 327, 801, 108, 663, 208]] #[{ accessFlags := 2, nameIndex := 5, descriptorIndex := 6, attributes := #[] }, { accessFlags := 265, nameIndex := 727, descriptorIndex := 728, attributes := #[] }] 49 2 #[] #[{ accessFlags := 25, nameIndex := 507, descriptorIndex := 526, attributes := #[] }, { accessFlags := 25, nameIndex := 399, descriptorIndex := 155, attributes := #[] }, { accessFlags := 25, nameIndex := 396, descriptorIndex := 155, attributes := #[] }, { accessFlags := 10, nameIndex := 525, descriptorIndex := 526, attributes := #[] }, { accessFlags := 26, nameIndex := 674, descriptorIndex := 12, attributes := #[] }, { accessFlags := 26, nameIndex := 677, descriptorIndex := 12, attributes := #[] }, { accessFlags := 10, nameIndex := 11, descriptorIndex := 12, attributes := #[] }, { accessFlags := 74, nameIndex := 175, descriptorIndex := 176, attributes := #[] }, { accessFlags := 10, nameIndex := 491, descriptorIndex := 222, attributes := #[] }, { accessFlags := 74, nameIndex := 29, descriptorIndex := 30, attributes := #[] }, { accessFlags := 74, nameIndex := 154, descriptorIndex := 155, attributes := #[] }, { accessFlags := 10, nameIndex := 217, descriptorIndex := 218, attributes := #[] }, { accessFlags := 10, nameIndex := 221, descriptorIndex := 222, attributes := #[] }, { accessFlags := 8, nameIndex := 562, descriptorIndex := 563, attributes := #[] }])
  fields := #[{ name := "in", type := (.object "java/io/InputStream"), accessFlags := 25, slot := 0, constantValue := 0 }, { name := "out", type := (.object "java/io/PrintStream"), accessFlags := 25, slot := 1, constantValue := 0 }, { name := "err", type := (.object "java/io/PrintStream"), accessFlags := 25, slot := 2, constantValue := 0 }, { name := "initialIn", type := (.object "java/io/InputStream"), accessFlags := 10, slot := 3, constantValue := 0 }, { name := "NEVER", type := .int, accessFlags := 26, slot := 4, constantValue := 0 }, { name := "MAYBE", type := .int, accessFlags := 26, slot := 5, constantValue := 0 }, { name := "allowSecurityManager", type := .int, accessFlags := 10, slot := 6, constantValue := 0 }, { name := "security", type := (.object "java/lang/SecurityManager"), accessFlags := 74, slot := 7, constantValue := 0 }, { name := "notSupportedJnuEncoding", type := (.object "java/lang/String"), accessFlags := 10, slot := 8, constantValue := 0 }, { name := "cons", type := (.object "java/io/Console"), accessFlags := 74, slot := 9, constantValue := 0 }, { name := "initialErrStream", type := (.object "java/io/PrintStream"), accessFlags := 74, slot := 10, constantValue := 0 }, { name := "props", type := (.object "java/util/Properties"), accessFlags := 10, slot := 11, constantValue := 0 }, { name := "lineSeparator", type := (.object "java/lang/String"), accessFlags := 10, slot := 12, constantValue := 0 }, { name := "bootLayer", type := (.object "java/lang/ModuleLayer"), accessFlags := 8, slot := 13, constantValue := 0 }]
  methods := #[k28m0, k28m1]
  instanceTypes := #[]
  staticTypes := #[(.object "java/io/InputStream"), (.object "java/io/PrintStream"), (.object "java/io/PrintStream"), (.object "java/io/InputStream"), .int, .int, .int, (.object "java/lang/SecurityManager"), (.object "java/lang/String"), (.object "java/io/Console"), (.object "java/io/PrintStream"), (.object "java/util/Properties"), (.object "java/lang/String"), (.object "java/lang/ModuleLayer")]
  resolved := Array.replicate 834 none
  statics := none }

def pool29 : Array CpInfo := pool [(2, .class_ 4), (1, u "java/lang/Object"), (0, u "<init>"), (0, u "()V"), (35, .class_ 44), (1, u "java/util/Objects"), (0, u "requireNonNull"), (0, u "(Ljava/lang/Object;)Ljava/lang/Object;")] 137

def k29m0 : Method := { name := "<init>", desc := "()V", sig := { parameters := [], returnType := none }, accessFlags := 2, code := none }
def k29c1 : Code := { maxStack := 2, maxLocals := 1, code := jdk_31_method_10_code, exceptionTable := #[], attributes := #[] }
def k29m1 : Method := { name := "requireNonNull", desc := "(Ljava/lang/Object;)Ljava/lang/Object;", sig := { parameters := [(.object "java/lang/Object")], returnType := some (.object "java/lang/Object") }, accessFlags := 9, code := some k29c1 }
/-- java/util/Objects -/
def k29 : Class := { plain "java/util/Objects" (some 0) with
  accessFlags := 49
  interfaces := #[]
  cf := some (fileOf pool29 42 #[] #[{ accessFlags := 2, nameIndex := 5, descriptorIndex := 6, attributes := #[] }, { accessFlags := 9, nameIndex := 45, descriptorIndex := 46, attributes := #[] }] 49 2 #[] #[])
  fields := #[]
  methods := #[k29m0, k29m1]
  instanceTypes := #[]
  staticTypes := #[]
  resolved := Array.replicate 184 none
  statics := none }

def pool30 : Array CpInfo := pool [(4, .class_ 6), (1, u "java/lang/Object"), (0, u "<init>"), (0, u "()V"), (5, .class_ 16), (1, u "java/lang/StringLatin1"), (104, u "$assertionsDisabled"), (0, u "Z"), (98, .class_ 223), (1, u "java/lang/StringLatin1$LinesSpliterator"), (166, .class_ 391), (0, u "java/lang/StringLatin1$CharsSpliterator")] 3

def k30m0 : Method := { name := "<init>", desc := "()V", sig := { parameters := [], returnType := none }, accessFlags := 0, code := none }
/-- java/lang/StringLatin1 -/
def k30 : Class := { plain "java/lang/StringLatin1" (some 0) with
  accessFlags := 48
  interfaces := #[]
  cf := some (fileOf pool30 14 #[.nestMembers #[390, 221]] #[{ accessFlags := 0, nameIndex := 7, descriptorIndex := 8, attributes := #[] }] 48 4 #[] #[{ accessFlags := 4120, nameIndex := 121, descriptorIndex := 122, attributes := #[] }])
  fields := #[{ name := "$assertionsDisabled", type := .boolean, accessFlags := 4120, slot := 0, constantValue := 0 }]
  methods := #[k30m0]
  instanceTypes := #[]
  staticTypes := #[.boolean]
  resolved := Array.replicate 395 none
  statics := none }

def pool31 : Array CpInfo := pool [(2, .class_ 4), (1, u "java/lang/Object"), (0, u "<init>"), (0, u "()V"), (17, .class_ 26), (1, u "jdk/internal/util/Preconditions"), (28, .class_ 56), (0, u "jdk/internal/util/Preconditions$4"), (57, .class_ 115), (0, u "jdk/internal/util/Preconditions$1"), (7, u "SIOOBE_FORMATTER"), (0, u "Ljava/util/function/BiFunction;"), (0, .class_ 126), (0, u "jdk/internal/util/Preconditions$2"), (3, u "AIOOBE_FORMATTER"), (0, .class_ 132), (0, u "jdk/internal/util/Preconditions$3"), (3, u "IOOBE_FORMATTER")] 57

def k31m0 : Method := { name := "<init>", desc := "()V", sig := { parameters := [], returnType := none }, accessFlags := 1, code := none }
/-- jdk/internal/util/Preconditions -/
def k31 : Class := { plain "jdk/internal/util/Preconditions" (some 0) with
  accessFlags := 33
  interfaces := #[]
  cf := some (fileOf pool31 24 #[.nestMembers #[55, 131, 125, 114]] #[{ accessFlags := 1, nameIndex := 5, descriptorIndex := 6, attributes := #[] }] 33 2 #[] #[{ accessFlags := 25, nameIndex := 123, descriptorIndex := 124, attributes := #[] }, { accessFlags := 25, nameIndex := 130, descriptorIndex := 124, attributes := #[] }, { accessFlags := 25, nameIndex := 136, descriptorIndex := 124, attributes := #[] }])
  fields := #[{ name := "SIOOBE_FORMATTER", type := (.object "java/util/function/BiFunction"), accessFlags := 25, slot := 0, constantValue := 0 }, { name := "AIOOBE_FORMATTER", type := (.object "java/util/function/BiFunction"), accessFlags := 25, slot := 1, constantValue := 0 }, { name := "IOOBE_FORMATTER", type := (.object "java/util/function/BiFunction"), accessFlags := 25, slot := 2, constantValue := 0 }]
  methods := #[k31m0]
  instanceTypes := #[]
  staticTypes := #[(.object "java/util/function/BiFunction"), (.object "java/util/function/BiFunction"), (.object "java/util/function/BiFunction")]
  resolved := Array.replicate 194 none
  statics := some 4 }

def pool32 : Array CpInfo := pool [(9, u "<init>"), (6, .class_ 18), (1, u "java/lang/Object"), (0, u "()V"), (1, .class_ 23), (1, u "jdk/internal/util/ArraysSupport"), (0, u "LOG2_ARRAY_LONG_INDEX_SCALE"), (0, u "I"), (2, u "U"), (0, u "Ljdk/internal/misc/Unsafe;"), (8, u "BIG_ENDIAN"), (0, u "Z"), (8, u "LOG2_BYTE_BIT_SIZE"), (4, u "LOG2_ARRAY_INT_INDEX_SCALE"), (54, u "JLA"), (0, u "Ljdk/internal/access/JavaLangAccess;"), (11, u "LOG2_ARRAY_BOOLEAN_INDEX_SCALE"), (9, u "LOG2_ARRAY_BYTE_INDEX_SCALE"), (5, u "LOG2_ARRAY_CHAR_INDEX_SCALE"), (5, u "LOG2_ARRAY_SHORT_INDEX_SCALE"), (18, u "LOG2_ARRAY_FLOAT_INDEX_SCALE"), (24, u "LOG2_ARRAY_DOUBLE_INDEX_SCALE"), (89, u "T_BOOLEAN"), (2, u "T_CHAR"), (1, u "T_FLOAT"), (1, u "T_DOUBLE"), (1, u "T_BYTE"), (1, u "T_SHORT"), (1, u "T_INT"), (1, u "T_LONG"), (1, u "SOFT_MAX_ARRAY_LENGTH")] 83

def k32m0 : Method := { name := "<init>", desc := "()V", sig := { parameters := [], returnType := none }, accessFlags := 2, code := none }
/-- jdk/internal/util/ArraysSupport -/
def k32 : Class := { plain "jdk/internal/util/ArraysSupport" (some 0) with
  accessFlags := 33
  interfaces := #[]
  cf := some (fileOf pool32 21 #[] #[{ accessFlags := 2, nameIndex := 9, descriptorIndex := 19, attributes := #[] }] 33 16 #[] #[{ accessFlags := 24, nameIndex := 28, descriptorIndex := 29, attributes := #[] }, { accessFlags := 26, nameIndex := 38, descriptorIndex := 39, attributes := #[] }, { accessFlags := 25, nameIndex := 121, descriptorIndex := 25, attributes := #[] }, { accessFlags := 25, nameIndex := 131, descriptorIndex := 25, attributes := #[] }, { accessFlags := 25, nameIndex := 137, descriptorIndex := 25, attributes := #[] }, { accessFlags := 25, nameIndex := 143, descriptorIndex := 25, attributes := #[] }, { accessFlags := 25, nameIndex := 53, descriptorIndex := 25, attributes := #[] }, { accessFlags := 25, nameIndex := 24, descriptorIndex := 25, attributes := #[] }, { accessFlags := 25, nameIndex := 162, descriptorIndex := 25, attributes := #[] }, { accessFlags := 25, nameIndex := 187, descriptorIndex := 25, attributes := #[] }, { accessFlags := 26, nameIndex := 48, descriptorIndex := 25, attributes := #[] }, { accessFlags := 25, nameIndex := 277, descriptorIndex := 25, attributes := #[] }, { accessFlags := 25, nameIndex := 280, descriptorIndex := 25, attributes := #[] }, { accessFlags := 25, nameIndex := 282, descriptorIndex := 25, attributes := #[] }, { accessFlags := 25, nameIndex := 284, descriptorIndex := 25, attributes := #[] }, { accessFlags := 25, nameIndex := 286, descriptorIndex := 25, attributes := #[] }, { accessFlags := 25, nameIndex := 288, descriptorIndex := 25, attributes := #[] }, { accessFlags := 25, nameIndex := 290, descriptorIndex := 25, attributes := #[] }, { accessFlags := 25, nameIndex := 292, descriptorIndex := 25, attributes := #[] }, { accessFlags := 26, nameIndex := 108, descriptorIndex := 109, attributes := #[] }, { accessFlags := 25, nameIndex := 294, descriptorIndex := 25, attributes := #[] }])
  fields := #[{ name := "U", type := (.object "jdk/internal/misc/Unsafe"), accessFlags := 24, slot := 0, constantValue := 0 }, { name := "BIG_ENDIAN", type := .boolean, accessFlags := 26, slot := 1, constantValue := 0 }, { name := "LOG2_ARRAY_BOOLEAN_INDEX_SCALE", type := .int, accessFlags := 25, slot := 2, constantValue := 0 }, { name := "LOG2_ARRAY_BYTE_INDEX_SCALE", type := .int, accessFlags := 25, slot := 3, constantValue := 0 }, { name := "LOG2_ARRAY_CHAR_INDEX_SCALE", type := .int, accessFlags := 25, slot := 4, constantValue := 0 }, { name := "LOG2_ARRAY_SHORT_INDEX_SCALE", type := .int, accessFlags := 25, slot := 5, constantValue := 0 }, { name := "LOG2_ARRAY_INT_INDEX_SCALE", type := .int, accessFlags := 25, slot := 6, constantValue := 0 }, { name := "LOG2_ARRAY_LONG_INDEX_SCALE", type := .int, accessFlags := 25, slot := 7, constantValue := 0 }, { name := "LOG2_ARRAY_FLOAT_INDEX_SCALE", type := .int, accessFlags := 25, slot := 8, constantValue := 0 }, { name := "LOG2_ARRAY_DOUBLE_INDEX_SCALE", type := .int, accessFlags := 25, slot := 9, constantValue := 0 }, { name := "LOG2_BYTE_BIT_SIZE", type := .int, accessFlags := 26, slot := 10, constantValue := 0 }, { name := "T_BOOLEAN", type := .int, accessFlags := 25, slot := 11, constantValue := 0 }, { name := "T_CHAR", type := .int, accessFlags := 25, slot := 12, constantValue := 0 }, { name := "T_FLOAT", type := .int, accessFlags := 25, slot := 13, constantValue := 0 }, { name := "T_DOUBLE", type := .int, accessFlags := 25, slot := 14, constantValue := 0 }, { name := "T_BYTE", type := .int, accessFlags := 25, slot := 15, constantValue := 0 }, { name := "T_SHORT", type := .int, accessFlags := 25, slot := 16, constantValue := 0 }, { name := "T_INT", type := .int, accessFlags := 25, slot := 17, constantValue := 0 }, { name := "T_LONG", type := .int, accessFlags := 25, slot := 18, constantValue := 0 }, { name := "JLA", type := (.object "jdk/internal/access/JavaLangAccess"), accessFlags := 26, slot := 19, constantValue := 0 }, { name := "SOFT_MAX_ARRAY_LENGTH", type := .int, accessFlags := 25, slot := 20, constantValue := 0 }]
  methods := #[k32m0]
  instanceTypes := #[]
  staticTypes := #[(.object "jdk/internal/misc/Unsafe"), .boolean, .int, .int, .int, .int, .int, .int, .int, .int, .int, .int, .int, .int, .int, .int, .int, .int, .int, (.object "jdk/internal/access/JavaLangAccess"), .int]
  resolved := Array.replicate 378 none
  statics := none }

def pool33 : Array CpInfo := pool [(1, u "java/lang/Class"), (0, .class_ 1), (0, u "java/lang/Object"), (0, .class_ 3)] 0

/-- java/lang/Class -/
def k33 : Class := { plain "java/lang/Class" (some 0) with
  accessFlags := 49
  interfaces := #[]
  cf := some (fileOf pool33 2 #[] #[] 49 4 #[] #[])
  fields := #[]
  methods := #[]
  instanceTypes := #[]
  staticTypes := #[]
  resolved := Array.replicate 5 none
  statics := none }

/-- the primitive byte -/
def k34 : Class := { plain "byte" none with kind := .primitive 'B', accessFlags := 0x411 }
/-- [B -/
def k35 : Class := { plain "[B" (some 0) with kind := .array 34 .byte, interfaces := #[18, 2], accessFlags := 1041 }

/-- the primitive char -/
def k36 : Class := { plain "char" none with kind := .primitive 'C', accessFlags := 0x411 }
/-- [C -/
def k37 : Class := { plain "[C" (some 0) with kind := .array 36 .char, interfaces := #[18, 2], accessFlags := 1041 }

/-- the primitive int -/
def k38 : Class := { plain "int" none with kind := .primitive 'I', accessFlags := 0x411 }
/-- [I -/
def k39 : Class := { plain "[I" (some 0) with kind := .array 38 .int, interfaces := #[18, 2], accessFlags := 1041 }

/-- [Ljava/lang/Object; -/
def k40 : Class := { plain "[Ljava/lang/Object;" (some 0) with kind := .array 0 (.object "java/lang/Object"), interfaces := #[18, 2], accessFlags := 1041, mirror := some 5 }

def heap : Heap := #[{ cls := 7, slots := #[.long 0, .int 1, .null, .int 0, .null, .int 0, .int 0], vm := .statics 7 },
  { cls := 10, slots := #[.ref 7, .ref 6, .null], vm := .statics 10 },
  { cls := 19, slots := #[.long 0, .int 0, .ref 10, .ref 11], vm := .statics 19 },
  { cls := 22, slots := #[.long 0, .int 0, .null, .ref 12, .ref 9, .null, .null, .null, .int 0, .int 1], vm := .statics 22 },
  { cls := 31, slots := #[.null, .null, .null], vm := .statics 31 },
  { cls := 33, slots := #[], vm := .mirror 40 },
  { cls := 10, slots := #[.null, .int 0, .int 0], vm := .none },
  { cls := 10, slots := #[.null, .int 1, .int 0], vm := .none },
  { cls := 40, slots := #[], vm := .none },
  { cls := 26, slots := #[.ref 8, .int 0], vm := .none },
  { cls := 40, slots := #[], vm := .none },
  { cls := 40, slots := #[], vm := .none },
  { cls := 0, slots := #[], vm := .none }]
def classes : Array Class := #[k0, k1, k2, k3, k4, k5, k6, k7, k8, k9, k10, k11, k12, k13, k14, k15, k16, k17, k18, k19, k20, k21, k22, k23, k24, k25, k26, k27, k28, k29, k30, k31, k32, k33, k34, k35, k36, k37, k38, k39, k40]
def interned : List (Array UInt16 × Addr) := []
def slotsUsed : Nat := 35
def theMethod : MethodId := ⟨1, 1⟩
def args0 : Array Value := #[.int 5, .int 2, .int 1, .int 3]
def aboutOver (below : List Frame) : State where
  vm := { classes := classes, interned := interned.toArray }
  heap := heap
  slotsUsed := slotsUsed
  threads := #[{ frames := .invoking theMethod args0 :: below }]
def below0 : List Frame := [.native { method := ⟨0, 0⟩, args := #[] }]
def about1 : State := aboutOver below0
def p0 : Program := .bare "" "" ""
def e0 : Env := launch0.env 0 0 0
theorem w_frames : about1.frames = Frame.invoking theMethod args0 :: below0 := rfl
set_option maxRecDepth 65536 in
theorem w_args : argsFit about1.vm theMethod args0 = true := by decide +kernel
set_option maxRecDepth 65536 in
theorem w_heap : heapFits about1 = true := by decide +kernel
set_option maxRecDepth 65536 in
theorem w_runnable : about1.curStatus? = some .runnable := by decide +kernel
set_option maxRecDepth 65536 in
theorem w_alone : about1.alone = true := by decide +kernel
set_option maxRecDepth 65536 in
theorem w_named : about1.methodNamed? x = some theMethod := by decide +kernel
set_option maxRecDepth 65536 in
theorem w_hears : about1.hears theMethod below0 = true := by decide +kernel
set_option maxRecDepth 65536 in
theorem w_ripe : about1.ripe theMethod args0 below0 = true := by decide +kernel
theorem w_running : about1.status = .running := rfl
set_option maxRecDepth 65536 in
theorem w_room : about1.hasRoom e0.platform room_1 = true :=
  launch0.hasRoom_least _ room_1 (by decide +kernel) (by decide +kernel) (by decide +kernel) (by decide +kernel) (by decide +kernel) (by decide +kernel)
theorem allAtoms_all (ts : List Jvm.Cond) (a : Array Jvm.Value) (st : Jvm.State) : (allAtoms ts).before a st = ts.all (fun c => c.before a st) := by
  induction ts with
  | nil => rfl
  | cons c t ih =>
    show (Jvm.Cond.and c (allAtoms t)).before a st = _
    rw [Jvm.Cond.before_and, ih, List.all_cons]
def words1 : List Jvm.Cond := Jvm.Cond.code x code maxLocals ret :: tables_1
/-- a 'code' word, met by the world's own term for the bytes: nothing is compared byte by byte -/
theorem code_word {y : MethodName} {bytes : ByteArray} {mx : Nat} {rt : Option FieldType} {a : Array Value} {s : State} {m : MethodId} {meth : Method} {c : Code} (h1 : s.methodNamed? y = some m) (h2 : s.vm.method? m = some meth) (h3 : meth.code = some c) (h4 : c.code = bytes)
    (h5 : (c.maxLocals == mx && c.exceptionTable.isEmpty && decide (c.maxStack ≤ mostOperands) && decide (meth.sig.returnType = rt) && !meth.locks && decide (parseMethodDescriptor y.desc = some meth.sig)) = true) : (Jvm.Cond.code y bytes mx rt).before a s = true := by
  simp only [Bool.and_eq_true, beq_iff_eq, Bool.not_eq_true', decide_eq_true_eq] at h5
  obtain ⟨⟨⟨⟨⟨g1, g2⟩, g3⟩, g4⟩, g5⟩, g6⟩ := h5
  simp [Cond.before, Cond.holds, Cond.value, h1, h2, h3, h4, g1, g2, g3, g4, g5, g6]
def isCode : Jvm.Cond → Bool
  | .code _ _ _ _ => true
  | _ => false
theorem all_split {L : List Jvm.Cond} {P : Jvm.Cond → Bool} (h1 : L.all (fun c => isCode c || P c) = true) (h2 : ∀ c ∈ L.filter isCode, P c = true) : L.all P = true := by
  refine List.all_eq_true.mpr fun c hc => ?_
  have h := List.all_eq_true.mp h1 c hc
  rcases Bool.eq_false_or_eq_true (isCode c) with hi | hi
  · exact h2 c (List.mem_filter.mpr ⟨hc, hi⟩)
  · simpa [hi] using h
set_option maxRecDepth 65536 in
theorem w_c0 : (Jvm.Cond.code x code maxLocals ret).before args0 about1 = true := code_word (m := ⟨1, 1⟩) (meth := k1m1) (c := k1c1) (by decide +kernel) rfl rfl rfl (by decide +kernel)
set_option maxRecDepth 65536 in
theorem w_c1 : (Jvm.Cond.code ({ cls := "java/lang/String", name := "<init>", desc := "([C)V" } : Jvm.MethodName) jdk_42_method_3_code (2 : Nat) (Option.none : Option Jvm.ClassFile.FieldType)).before args0 about1 = true := code_word (m := ⟨7, 1⟩) (meth := k7m1) (c := k7c1) (by decide +kernel) rfl rfl rfl (by decide +kernel)
set_option maxRecDepth 65536 in
theorem w_c2 : (Jvm.Cond.code ({ cls := "java/lang/String", name := "<init>", desc := "([CIILjava/lang/Void;)V" } : Jvm.MethodName) jdk_42_method_149_code (6 : Nat) (Option.none : Option Jvm.ClassFile.FieldType)).before args0 about1 = true := code_word (m := ⟨7, 3⟩) (meth := k7m3) (c := k7c3) (by decide +kernel) rfl rfl rfl (by decide +kernel)
set_option maxRecDepth 65536 in
theorem w_c3 : (Jvm.Cond.code ({ cls := "java/lang/Object", name := "<init>", desc := "()V" } : Jvm.MethodName) object_method_1_code (1 : Nat) (Option.none : Option Jvm.ClassFile.FieldType)).before args0 about1 = true := code_word (m := ⟨0, 0⟩) (meth := k0m0) (c := k0c0) (by decide +kernel) rfl rfl rfl (by decide +kernel)
set_option maxRecDepth 65536 in
theorem w_c4 : (Jvm.Cond.code ({ cls := "java/lang/StringUTF16", name := "compress", desc := "([CII)[B" } : Jvm.MethodName) jdk_52_method_16_code (6 : Nat) (Option.some (Jvm.ClassFile.FieldType.array Jvm.ClassFile.FieldType.byte))).before args0 about1 = true := code_word (m := ⟨8, 2⟩) (meth := k8m2) (c := k8c2) (by decide +kernel) rfl rfl rfl (by decide +kernel)
set_option maxRecDepth 65536 in
theorem w_c5 : (Jvm.Cond.code ({ cls := "java/lang/StringUTF16", name := "compress", desc := "([CI[BII)I" } : Jvm.MethodName) jdk_52_method_21_code (7 : Nat) (Option.some Jvm.ClassFile.FieldType.int)).before args0 about1 = true := code_word (m := ⟨8, 3⟩) (meth := k8m3) (c := k8c3) (by decide +kernel) rfl rfl rfl (by decide +kernel)
set_option maxRecDepth 65536 in
theorem w_c6 : (Jvm.Cond.code ({ cls := "java/lang/StringUTF16", name := "coderFromArrayLen", desc := "([BI)B" } : Jvm.MethodName) jdk_52_method_15_code (2 : Nat) (Option.some Jvm.ClassFile.FieldType.byte)).before args0 about1 = true := code_word (m := ⟨8, 1⟩) (meth := k8m1) (c := k8c1) (by decide +kernel) rfl rfl rfl (by decide +kernel)
set_option maxRecDepth 65536 in
theorem w_c7 : (Jvm.Cond.code ({ cls := "java/util/ArrayList", name := "<init>", desc := "()V" } : Jvm.MethodName) jdk_38_method_2_code (1 : Nat) (Option.none : Option Jvm.ClassFile.FieldType)).before args0 about1 = true := code_word (m := ⟨19, 0⟩) (meth := k19m0) (c := k19c0) (by decide +kernel) rfl rfl rfl (by decide +kernel)
set_option maxRecDepth 65536 in
theorem w_c8 : (Jvm.Cond.code ({ cls := "java/util/AbstractList", name := "<init>", desc := "()V" } : Jvm.MethodName) jdk_39_method_1_code (1 : Nat) (Option.none : Option Jvm.ClassFile.FieldType)).before args0 about1 = true := code_word (m := ⟨16, 0⟩) (meth := k16m0) (c := k16c0) (by decide +kernel) rfl rfl rfl (by decide +kernel)
set_option maxRecDepth 65536 in
theorem w_c9 : (Jvm.Cond.code ({ cls := "java/util/AbstractCollection", name := "<init>", desc := "()V" } : Jvm.MethodName) jdk_22_method_1_code (1 : Nat) (Option.none : Option Jvm.ClassFile.FieldType)).before args0 about1 = true := code_word (m := ⟨13, 0⟩) (meth := k13m0) (c := k13c0) (by decide +kernel) rfl rfl rfl (by decide +kernel)
set_option maxRecDepth 65536 in
theorem w_c10 : (Jvm.Cond.code ({ cls := "java/util/ArrayList", name := "add", desc := "(Ljava/lang/Object;)Z" } : Jvm.MethodName) jdk_38_method_25_code (2 : Nat) (Option.some Jvm.ClassFile.FieldType.boolean)).before args0 about1 = true := code_word (m := ⟨19, 6⟩) (meth := k19m6) (c := k19c6) (by decide +kernel) rfl rfl rfl (by decide +kernel)
set_option maxRecDepth 65536 in
theorem w_c11 : (Jvm.Cond.code ({ cls := "java/util/ArrayList", name := "add", desc := "(Ljava/lang/Object;[Ljava/lang/Object;I)V" } : Jvm.MethodName) jdk_38_method_24_code (4 : Nat) (Option.none : Option Jvm.ClassFile.FieldType)).before args0 about1 = true := code_word (m := ⟨19, 5⟩) (meth := k19m5) (c := k19c5) (by decide +kernel) rfl rfl rfl (by decide +kernel)
set_option maxRecDepth 65536 in
theorem w_c12 : (Jvm.Cond.code ({ cls := "java/util/ArrayList", name := "grow", desc := "()[Ljava/lang/Object;" } : Jvm.MethodName) jdk_38_method_7_code (1 : Nat) (Option.some (Jvm.ClassFile.FieldType.array (Jvm.ClassFile.FieldType.object "java/lang/Object")))).before args0 about1 = true := code_word (m := ⟨19, 2⟩) (meth := k19m2) (c := k19c2) (by decide +kernel) rfl rfl rfl (by decide +kernel)
set_option maxRecDepth 65536 in
theorem w_c13 : (Jvm.Cond.code ({ cls := "java/util/ArrayList", name := "grow", desc := "(I)[Ljava/lang/Object;" } : Jvm.MethodName) jdk_38_method_6_code (4 : Nat) (Option.some (Jvm.ClassFile.FieldType.array (Jvm.ClassFile.FieldType.object "java/lang/Object")))).before args0 about1 = true := code_word (m := ⟨19, 1⟩) (meth := k19m1) (c := k19c1) (by decide +kernel) rfl rfl rfl (by decide +kernel)
set_option maxRecDepth 65536 in
theorem w_c14 : (Jvm.Cond.code ({ cls := "java/lang/Math", name := "max", desc := "(II)I" } : Jvm.MethodName) jdk_29_method_65_code (2 : Nat) (Option.some Jvm.ClassFile.FieldType.int)).before args0 about1 = true := code_word (m := ⟨20, 1⟩) (meth := k20m1) (c := k20c1) (by decide +kernel) rfl rfl rfl (by decide +kernel)
set_option maxRecDepth 65536 in
theorem w_c15 : (Jvm.Cond.code ({ cls := "com/example/bindgate/bindgate/idl/Declaration", name := "<init>", desc := "(Lcom/example/bindgate/bindgate/idl/Declaration$Kind;Ljava/util/List;Ljava/util/List;)V" } : Jvm.MethodName) prog_5_method_1_code (4 : Nat) (Option.none : Option Jvm.ClassFile.FieldType)).before args0 about1 = true := code_word (m := ⟨21, 0⟩) (meth := k21m0) (c := k21c0) (by decide +kernel) rfl rfl rfl (by decide +kernel)
set_option maxRecDepth 65536 in
theorem w_c16 : (Jvm.Cond.code ({ cls := "java/util/List", name := "copyOf", desc := "(Ljava/util/Collection;)Ljava/util/List;" } : Jvm.MethodName) jdk_40_method_48_code (1 : Nat) (Option.some (Jvm.ClassFile.FieldType.object "java/util/List"))).before args0 about1 = true := code_word (m := ⟨15, 3⟩) (meth := k15m3) (c := k15c3) (by decide +kernel) rfl rfl rfl (by decide +kernel)
set_option maxRecDepth 65536 in
theorem w_c17 : (Jvm.Cond.code ({ cls := "java/util/ImmutableCollections", name := "listCopy", desc := "(Ljava/util/Collection;)Ljava/util/List;" } : Jvm.MethodName) jdk_56_method_3_code (2 : Nat) (Option.some (Jvm.ClassFile.FieldType.object "java/util/List"))).before args0 about1 = true := code_word (m := ⟨22, 1⟩) (meth := k22m1) (c := k22c1) (by decide +kernel) rfl rfl rfl (by decide +kernel)
set_option maxRecDepth 65536 in
theorem w_c18 : (Jvm.Cond.code ({ cls := "java/util/ArrayList", name := "isEmpty", desc := "()Z" } : Jvm.MethodName) jdk_38_method_9_code (1 : Nat) (Option.some Jvm.ClassFile.FieldType.boolean)).before args0 about1 = true := code_word (m := ⟨19, 3⟩) (meth := k19m3) (c := k19c3) (by decide +kernel) rfl rfl rfl (by decide +kernel)
set_option maxRecDepth 65536 in
theorem w_c19 : (Jvm.Cond.code ({ cls := "java/util/ArrayList", name := "toArray", desc := "()[Ljava/lang/Object;" } : Jvm.MethodName) jdk_38_method_16_code (1 : Nat) (Option.some (Jvm.ClassFile.FieldType.array (Jvm.ClassFile.FieldType.object "java/lang/Object")))).before args0 about1 = true := code_word (m := ⟨19, 4⟩) (meth := k19m4) (c := k19c4) (by decide +kernel) rfl rfl rfl (by decide +kernel)
set_option maxRecDepth 65536 in
theorem w_c20 : (Jvm.Cond.code ({ cls := "java/util/Arrays", name := "copyOf", desc := "([Ljava/lang/Object;I)[Ljava/lang/Object;" } : Jvm.MethodName) jdk_65_method_119_code (2 : Nat) (Option.some (Jvm.ClassFile.FieldType.array (Jvm.ClassFile.FieldType.object "java/lang/Object")))).before args0 about1 = true := code_word (m := ⟨27, 1⟩) (meth := k27m1) (c := k27c1) (by decide +kernel) rfl rfl rfl (by decide +kernel)
set_option maxRecDepth 65536 in
theorem w_c21 : (Jvm.Cond.code ({ cls := "java/util/Arrays", name := "copyOf", desc := "([Ljava/lang/Object;ILjava/lang/Class;)[Ljava/lang/Object;" } : Jvm.MethodName) jdk_65_method_120_code (4 : Nat) (Option.some (Jvm.ClassFile.FieldType.array (Jvm.ClassFile.FieldType.object "java/lang/Object")))).before args0 about1 = true := code_word (m := ⟨27, 2⟩) (meth := k27m2) (c := k27c2) (by decide +kernel) rfl rfl rfl (by decide +kernel)
set_option maxRecDepth 65536 in
theorem w_c22 : (Jvm.Cond.code ({ cls := "java/lang/Math", name := "min", desc := "(II)I" } : Jvm.MethodName) jdk_29_method_69_code (2 : Nat) (Option.some Jvm.ClassFile.FieldType.int)).before args0 about1 = true := code_word (m := ⟨20, 2⟩) (meth := k20m2) (c := k20c2) (by decide +kernel) rfl rfl rfl (by decide +kernel)
set_option maxRecDepth 65536 in
theorem w_c23 : (Jvm.Cond.code ({ cls := "java/util/List", name := "of", desc := "([Ljava/lang/Object;)Ljava/util/List;" } : Jvm.MethodName) jdk_40_method_47_code (2 : Nat) (Option.some (Jvm.ClassFile.FieldType.object "java/util/List"))).before args0 about1 = true := code_word (m := ⟨15, 2⟩) (meth := k15m2) (c := k15c2) (by decide +kernel) rfl rfl rfl (by decide +kernel)
set_option maxRecDepth 65536 in
theorem w_c24 : (Jvm.Cond.code ({ cls := "java/util/ImmutableCollections$List12", name := "<init>", desc := "(Ljava/lang/Object;)V" } : Jvm.MethodName) jdk_44_method_1_code (2 : Nat) (Option.none : Option Jvm.ClassFile.FieldType)).before args0 about1 = true := code_word (m := ⟨25, 0⟩) (meth := k25m0) (c := k25c0) (by decide +kernel) rfl rfl rfl (by decide +kernel)
set_option maxRecDepth 65536 in
theorem w_c25 : (Jvm.Cond.code ({ cls := "java/util/ImmutableCollections$AbstractImmutableList", name := "<init>", desc := "()V" } : Jvm.MethodName) jdk_46_method_1_code (1 : Nat) (Option.none : Option Jvm.ClassFile.FieldType)).before args0 about1 = true := code_word (m := ⟨24, 0⟩) (meth := k24m0) (c := k24c0) (by decide +kernel) rfl rfl rfl (by decide +kernel)
set_option maxRecDepth 65536 in
theorem w_c26 : (Jvm.Cond.code ({ cls := "java/util/ImmutableCollections$AbstractImmutableCollection", name := "<init>", desc := "()V" } : Jvm.MethodName) jdk_47_method_1_code (1 : Nat) (Option.none : Option Jvm.ClassFile.FieldType)).before args0 about1 = true := code_word (m := ⟨23, 0⟩) (meth := k23m0) (c := k23c0) (by decide +kernel) rfl rfl rfl (by decide +kernel)
set_option maxRecDepth 65536 in
theorem w_c27 : (Jvm.Cond.code ({ cls := "java/util/Objects", name := "requireNonNull", desc := "(Ljava/lang/Object;)Ljava/lang/Object;" } : Jvm.MethodName) jdk_31_method_10_code (1 : Nat) (Option.some (Jvm.ClassFile.FieldType.object "java/lang/Object"))).before args0 about1 = true := code_word (m := ⟨29, 1⟩) (meth := k29m1) (c := k29c1) (by decide +kernel) rfl rfl rfl (by decide +kernel)
set_option maxRecDepth 65536 in
theorem w_c28 : (Jvm.Cond.code ({ cls := "java/util/List", name := "of", desc := "()Ljava/util/List;" } : Jvm.MethodName) jdk_40_method_36_code (0 : Nat) (Option.some (Jvm.ClassFile.FieldType.object "java/util/List"))).before args0 about1 = true := code_word (m := ⟨15, 1⟩) (meth := k15m1) (c := k15c1) (by decide +kernel) rfl rfl rfl (by decide +kernel)
set_option maxRecDepth 65536 in
theorem w_c29 : (Jvm.Cond.code ({ cls := "com/example/bindgate/bindgate/idl/Declaration", name := "name", desc := "()Ljava/lang/String;" } : Jvm.MethodName) prog_5_method_3_code (1 : Nat) (Option.some (Jvm.ClassFile.FieldType.object "java/lang/String"))).before args0 about1 = true := code_word (m := ⟨21, 1⟩) (meth := k21m1) (c := k21c1) (by decide +kernel) rfl rfl rfl (by decide +kernel)
set_option maxRecDepth 65536 in
theorem w_c30 : (Jvm.Cond.code ({ cls := "java/util/ImmutableCollections$List12", name := "get", desc := "(I)Ljava/lang/Object;" } : Jvm.MethodName) jdk_44_method_5_code (2 : Nat) (Option.some (Jvm.ClassFile.FieldType.object "java/lang/Object"))).before args0 about1 = true := code_word (m := ⟨25, 2⟩) (meth := k25m2) (c := k25c2) (by decide +kernel) rfl rfl rfl (by decide +kernel)
set_option maxRecDepth 65536 in
theorem w_c31 : (Jvm.Cond.code ({ cls := "java/lang/String", name := "equals", desc := "(Ljava/lang/Object;)Z" } : Jvm.MethodName) jdk_42_method_66_code (3 : Nat) (Option.some Jvm.ClassFile.FieldType.boolean)).before args0 about1 = true := code_word (m := ⟨7, 2⟩) (meth := k7m2) (c := k7c2) (by decide +kernel) rfl rfl rfl (by decide +kernel)
set_option maxRecDepth 65536 in
theorem w_c32 : (Jvm.Cond.code ({ cls := "java/util/ImmutableCollections", name := "listFromArray", desc := "([Ljava/lang/Object;)Ljava/util/List;" } : Jvm.MethodName) jdk_56_method_4_code (3 : Nat) (Option.some (Jvm.ClassFile.FieldType.object "java/util/List"))).before args0 about1 = true := code_word (m := ⟨22, 2⟩) (meth := k22m2) (c := k22c2) (by decide +kernel) rfl rfl rfl (by decide +kernel)
set_option maxRecDepth 65536 in
theorem w_c33 : (Jvm.Cond.code ({ cls := "java/util/ImmutableCollections$ListN", name := "<init>", desc := "([Ljava/lang/Object;Z)V" } : Jvm.MethodName) jdk_45_method_1_code (3 : Nat) (Option.none : Option Jvm.ClassFile.FieldType)).before args0 about1 = true := code_word (m := ⟨26, 0⟩) (meth := k26m0) (c := k26c0) (by decide +kernel) rfl rfl rfl (by decide +kernel)
set_option maxRecDepth 65536 in
theorem w_c34 : (Jvm.Cond.code ({ cls := "java/util/ImmutableCollections$ListN", name := "get", desc := "(I)Ljava/lang/Object;" } : Jvm.MethodName) jdk_45_method_4_code (2 : Nat) (Option.some (Jvm.ClassFile.FieldType.object "java/lang/Object"))).before args0 about1 = true := code_word (m := ⟨26, 1⟩) (meth := k26m1) (c := k26c1) (by decide +kernel) rfl rfl rfl (by decide +kernel)
set_option maxRecDepth 65536 in
theorem w_c35 : (Jvm.Cond.code ({ cls := "java/util/ImmutableCollections$List12", name := "<init>", desc := "(Ljava/lang/Object;Ljava/lang/Object;)V" } : Jvm.MethodName) jdk_44_method_2_code (3 : Nat) (Option.none : Option Jvm.ClassFile.FieldType)).before args0 about1 = true := code_word (m := ⟨25, 1⟩) (meth := k25m1) (c := k25c1) (by decide +kernel) rfl rfl rfl (by decide +kernel)
def codes1 : List Jvm.Cond := [Jvm.Cond.code x code maxLocals ret, Jvm.Cond.code ({ cls := "java/lang/String", name := "<init>", desc := "([C)V" } : Jvm.MethodName) jdk_42_method_3_code (2 : Nat) (Option.none : Option Jvm.ClassFile.FieldType), Jvm.Cond.code ({ cls := "java/lang/String", name := "<init>", desc := "([CIILjava/lang/Void;)V" } : Jvm.MethodName) jdk_42_method_149_code (6 : Nat) (Option.none : Option Jvm.ClassFile.FieldType), Jvm.Cond.code ({ cls := "java/lang/Object", name := "<init>", desc := "()V" } : Jvm.MethodName) object_method_1_code (1 : Nat) (Option.none : Option Jvm.ClassFile.FieldType), Jvm.Cond.code ({ cls := "java/lang/StringUTF16", name := "compress", desc := "([CII)[B" } : Jvm.MethodName) jdk_52_method_16_code (6 : Nat) (Option.some (Jvm.ClassFile.FieldType.array Jvm.ClassFile.FieldType.byte)), Jvm.Cond.code ({ cls := "java/lang/StringUTF16", name := "compress", desc := "([CI[BII)I" } : Jvm.MethodName) jdk_52_method_21_code (7 : Nat) (Option.some Jvm.ClassFile.FieldType.int), Jvm.Cond.code ({ cls := "java/lang/StringUTF16", name := "coderFromArrayLen", desc := "([BI)B" } : Jvm.MethodName) jdk_52_method_15_code (2 : Nat) (Option.some Jvm.ClassFile.FieldType.byte), Jvm.Cond.code ({ cls := "java/util/ArrayList", name := "<init>", desc := "()V" } : Jvm.MethodName) jdk_38_method_2_code (1 : Nat) (Option.none : Option Jvm.ClassFile.FieldType), Jvm.Cond.code ({ cls := "java/util/AbstractList", name := "<init>", desc := "()V" } : Jvm.MethodName) jdk_39_method_1_code (1 : Nat) (Option.none : Option Jvm.ClassFile.FieldType), Jvm.Cond.code ({ cls := "java/util/AbstractCollection", name := "<init>", desc := "()V" } : Jvm.MethodName) jdk_22_method_1_code (1 : Nat) (Option.none : Option Jvm.ClassFile.FieldType), Jvm.Cond.code ({ cls := "java/util/ArrayList", name := "add", desc := "(Ljava/lang/Object;)Z" } : Jvm.MethodName) jdk_38_method_25_code (2 : Nat) (Option.some Jvm.ClassFile.FieldType.boolean), Jvm.Cond.code ({ cls := "java/util/ArrayList", name := "add", desc := "(Ljava/lang/Object;[Ljava/lang/Object;I)V" } : Jvm.MethodName) jdk_38_method_24_code (4 : Nat) (Option.none : Option Jvm.ClassFile.FieldType), Jvm.Cond.code ({ cls := "java/util/ArrayList", name := "grow", desc := "()[Ljava/lang/Object;" } : Jvm.MethodName) jdk_38_method_7_code (1 : Nat) (Option.some (Jvm.ClassFile.FieldType.array (Jvm.ClassFile.FieldType.object "java/lang/Object"))), Jvm.Cond.code ({ cls := "java/util/ArrayList", name := "grow", desc := "(I)[Ljava/lang/Object;" } : Jvm.MethodName) jdk_38_method_6_code (4 : Nat) (Option.some (Jvm.ClassFile.FieldType.array (Jvm.ClassFile.FieldType.object "java/lang/Object"))), Jvm.Cond.code ({ cls := "java/lang/Math", name := "max", desc := "(II)I" } : Jvm.MethodName) jdk_29_method_65_code (2 : Nat) (Option.some Jvm.ClassFile.FieldType.int), Jvm.Cond.code ({ cls := "com/example/bindgate/bindgate/idl/Declaration", name := "<init>", desc := "(Lcom/example/bindgate/bindgate/idl/Declaration$Kind;Ljava/util/List;Ljava/util/List;)V" } : Jvm.MethodName) prog_5_method_1_code (4 : Nat) (Option.none : Option Jvm.ClassFile.FieldType), Jvm.Cond.code ({ cls := "java/util/List", name := "copyOf", desc := "(Ljava/util/Collection;)Ljava/util/List;" } : Jvm.MethodName) jdk_40_method_48_code (1 : Nat) (Option.some (Jvm.ClassFile.FieldType.object "java/util/List")), Jvm.Cond.code ({ cls := "java/util/ImmutableCollections", name := "listCopy", desc := "(Ljava/util/Collection;)Ljava/util/List;" } : Jvm.MethodName) jdk_56_method_3_code (2 : Nat) (Option.some (Jvm.ClassFile.FieldType.object "java/util/List")), Jvm.Cond.code ({ cls := "java/util/ArrayList", name := "isEmpty", desc := "()Z" } : Jvm.MethodName) jdk_38_method_9_code (1 : Nat) (Option.some Jvm.ClassFile.FieldType.boolean), Jvm.Cond.code ({ cls := "java/util/ArrayList", name := "toArray", desc := "()[Ljava/lang/Object;" } : Jvm.MethodName) jdk_38_method_16_code (1 : Nat) (Option.some (Jvm.ClassFile.FieldType.array (Jvm.ClassFile.FieldType.object "java/lang/Object"))), Jvm.Cond.code ({ cls := "java/util/Arrays", name := "copyOf", desc := "([Ljava/lang/Object;I)[Ljava/lang/Object;" } : Jvm.MethodName) jdk_65_method_119_code (2 : Nat) (Option.some (Jvm.ClassFile.FieldType.array (Jvm.ClassFile.FieldType.object "java/lang/Object"))), Jvm.Cond.code ({ cls := "java/util/Arrays", name := "copyOf", desc := "([Ljava/lang/Object;ILjava/lang/Class;)[Ljava/lang/Object;" } : Jvm.MethodName) jdk_65_method_120_code (4 : Nat) (Option.some (Jvm.ClassFile.FieldType.array (Jvm.ClassFile.FieldType.object "java/lang/Object"))), Jvm.Cond.code ({ cls := "java/lang/Math", name := "min", desc := "(II)I" } : Jvm.MethodName) jdk_29_method_69_code (2 : Nat) (Option.some Jvm.ClassFile.FieldType.int), Jvm.Cond.code ({ cls := "java/util/List", name := "of", desc := "([Ljava/lang/Object;)Ljava/util/List;" } : Jvm.MethodName) jdk_40_method_47_code (2 : Nat) (Option.some (Jvm.ClassFile.FieldType.object "java/util/List")), Jvm.Cond.code ({ cls := "java/util/ImmutableCollections$List12", name := "<init>", desc := "(Ljava/lang/Object;)V" } : Jvm.MethodName) jdk_44_method_1_code (2 : Nat) (Option.none : Option Jvm.ClassFile.FieldType), Jvm.Cond.code ({ cls := "java/util/ImmutableCollections$AbstractImmutableList", name := "<init>", desc := "()V" } : Jvm.MethodName) jdk_46_method_1_code (1 : Nat) (Option.none : Option Jvm.ClassFile.FieldType), Jvm.Cond.code ({ cls := "java/util/ImmutableCollections$AbstractImmutableCollection", name := "<init>", desc := "()V" } : Jvm.MethodName) jdk_47_method_1_code (1 : Nat) (Option.none : Option Jvm.ClassFile.FieldType), Jvm.Cond.code ({ cls := "java/util/Objects", name := "requireNonNull", desc := "(Ljava/lang/Object;)Ljava/lang/Object;" } : Jvm.MethodName) jdk_31_method_10_code (1 : Nat) (Option.some (Jvm.ClassFile.FieldType.object "java/lang/Object")), Jvm.Cond.code ({ cls := "java/util/List", name := "of", desc := "()Ljava/util/List;" } : Jvm.MethodName) jdk_40_method_36_code (0 : Nat) (Option.some (Jvm.ClassFile.FieldType.object "java/util/List")), Jvm.Cond.code ({ cls := "com/example/bindgate/bindgate/idl/Declaration", name := "name", desc := "()Ljava/lang/String;" } : Jvm.MethodName) prog_5_method_3_code (1 : Nat) (Option.some (Jvm.ClassFile.FieldType.object "java/lang/String")), Jvm.Cond.code ({ cls := "java/util/ImmutableCollections$List12", name := "get", desc := "(I)Ljava/lang/Object;" } : Jvm.MethodName) jdk_44_method_5_code (2 : Nat) (Option.some (Jvm.ClassFile.FieldType.object "java/lang/Object")), Jvm.Cond.code ({ cls := "java/lang/String", name := "equals", desc := "(Ljava/lang/Object;)Z" } : Jvm.MethodName) jdk_42_method_66_code (3 : Nat) (Option.some Jvm.ClassFile.FieldType.boolean), Jvm.Cond.code ({ cls := "java/util/ImmutableCollections", name := "listFromArray", desc := "([Ljava/lang/Object;)Ljava/util/List;" } : Jvm.MethodName) jdk_56_method_4_code (3 : Nat) (Option.some (Jvm.ClassFile.FieldType.object "java/util/List")), Jvm.Cond.code ({ cls := "java/util/ImmutableCollections$ListN", name := "<init>", desc := "([Ljava/lang/Object;Z)V" } : Jvm.MethodName) jdk_45_method_1_code (3 : Nat) (Option.none : Option Jvm.ClassFile.FieldType), Jvm.Cond.code ({ cls := "java/util/ImmutableCollections$ListN", name := "get", desc := "(I)Ljava/lang/Object;" } : Jvm.MethodName) jdk_45_method_4_code (2 : Nat) (Option.some (Jvm.ClassFile.FieldType.object "java/lang/Object")), Jvm.Cond.code ({ cls := "java/util/ImmutableCollections$List12", name := "<init>", desc := "(Ljava/lang/Object;Ljava/lang/Object;)V" } : Jvm.MethodName) jdk_44_method_2_code (3 : Nat) (Option.none : Option Jvm.ClassFile.FieldType)]
set_option maxRecDepth 65536 in
theorem codes_eq : words1.filter isCode = codes1 := rfl
theorem w_codes : ∀ c ∈ words1.filter isCode, c.before args0 about1 = true := by
  rw [codes_eq]
  intro c hc
  simp only [codes1, List.mem_cons, List.not_mem_nil, or_false] at hc
  rcases hc with rfl | rfl | rfl | rfl | rfl | rfl | rfl | rfl | rfl | rfl | rfl | rfl | rfl | rfl | rfl | rfl | rfl | rfl | rfl | rfl | rfl | rfl | rfl | rfl | rfl | rfl | rfl | rfl | rfl | rfl | rfl | rfl | rfl | rfl | rfl | rfl
  · exact w_c0
  · exact w_c1
  · exact w_c2
  · exact w_c3
  · exact w_c4
  · exact w_c5
  · exact w_c6
  · exact w_c7
  · exact w_c8
  · exact w_c9
  · exact w_c10
  · exact w_c11
  · exact w_c12
  · exact w_c13
  · exact w_c14
  · exact w_c15
  · exact w_c16
  · exact w_c17
  · exact w_c18
  · exact w_c19
  · exact w_c20
  · exact w_c21
  · exact w_c22
  · exact w_c23
  · exact w_c24
  · exact w_c25
  · exact w_c26
  · exact w_c27
  · exact w_c28
  · exact w_c29
  · exact w_c30
  · exact w_c31
  · exact w_c32
  · exact w_c33
  · exact w_c34
  · exact w_c35
set_option maxRecDepth 65536 in
theorem w_t1 : (words1.take 24).all (fun c => isCode c || c.before args0 about1) = true := by decide +kernel
set_option maxRecDepth 65536 in
theorem w_t2 : ((words1.drop 24).take 24).all (fun c => isCode c || c.before args0 about1) = true := by decide +kernel
set_option maxRecDepth 65536 in
theorem w_t3 : (((words1.drop 24).drop 24).take 24).all (fun c => isCode c || c.before args0 about1) = true := by decide +kernel
set_option maxRecDepth 65536 in
theorem w_t4 : ((((words1.drop 24).drop 24).drop 24).take 24).all (fun c => isCode c || c.before args0 about1) = true := by decide +kernel
set_option maxRecDepth 65536 in
theorem w_t5 : (((((words1.drop 24).drop 24).drop 24).drop 24).take 24).all (fun c => isCode c || c.before args0 about1) = true := by decide +kernel
set_option maxRecDepth 65536 in
theorem w_t6 : ((((((words1.drop 24).drop 24).drop 24).drop 24).drop 24).take 24).all (fun c => isCode c || c.before args0 about1) = true := by decide +kernel
set_option maxRecDepth 65536 in
theorem w_t7 : (((((((words1.drop 24).drop 24).drop 24).drop 24).drop 24).drop 24).take 24).all (fun c => isCode c || c.before args0 about1) = true := by decide +kernel
set_option maxRecDepth 65536 in
theorem w_t8 : ((((((((words1.drop 24).drop 24).drop 24).drop 24).drop 24).drop 24).drop 24).take 24).all (fun c => isCode c || c.before args0 about1) = true := by decide +kernel
set_option maxRecDepth 65536 in
theorem w_t9 : (((((((((words1.drop 24).drop 24).drop 24).drop 24).drop 24).drop 24).drop 24).drop 24).take 24).all (fun c => isCode c || c.before args0 about1) = true := by decide +kernel
set_option maxRecDepth 65536 in
theorem w_t10 : ((((((((((words1.drop 24).drop 24).drop 24).drop 24).drop 24).drop 24).drop 24).drop 24).drop 24).take 24).all (fun c => isCode c || c.before args0 about1) = true := by decide +kernel
set_option maxRecDepth 65536 in
theorem w_t11 : ((((((((((words1.drop 24).drop 24).drop 24).drop 24).drop 24).drop 24).drop 24).drop 24).drop 24).drop 24).all (fun c => isCode c || c.before args0 about1) = true := by decide +kernel
theorem w_tables : (allAtoms (Jvm.Cond.code x code maxLocals ret :: tables_1)).before args0 about1 = true := by
  rw [allAtoms_all]
  show words1.all (fun c => c.before args0 about1) = true
  refine all_split ?_ w_codes
  rw [← List.take_append_drop 24 words1, List.all_append, w_t1, ← List.take_append_drop 24 (words1.drop 24), List.all_append, w_t2, ← List.take_append_drop 24 ((words1.drop 24).drop 24), List.all_append, w_t3, ← List.take_append_drop 24 (((words1.drop 24).drop 24).drop 24), List.all_append, w_t4, ← List.take_append_drop 24 ((((words1.drop 24).drop 24).drop 24).drop 24), List.all_append, w_t5, ← List.take_append_drop 24 (((((words1.drop 24).drop 24).drop 24).drop 24).drop 24), List.all_append, w_t6, ← List.take_append_drop 24 ((((((words1.drop 24).drop 24).drop 24).drop 24).drop 24).drop 24), List.all_append, w_t7, ← List.take_append_drop 24 (((((((words1.drop 24).drop 24).drop 24).drop 24).drop 24).drop 24).drop 24), List.all_append, w_t8, ← List.take_append_drop 24 ((((((((words1.drop 24).drop 24).drop 24).drop 24).drop 24).drop 24).drop 24).drop 24), List.all_append, w_t9, ← List.take_append_drop 24 (((((((((words1.drop 24).drop 24).drop 24).drop 24).drop 24).drop 24).drop 24).drop 24).drop 24), List.all_append, w_t10, w_t11]
  rfl
set_option maxRecDepth 65536 in
theorem w_rest : rest_1_c.before args0 about1 = true := by decide +kernel
set_option maxRecDepth 65536 in
theorem w_case : (Jvm.Cond.and given_1 narrow_1).before args0 about1 = true := by decide +kernel
theorem w_applies : (headSpec (Jvm.Cond.code x code maxLocals ret :: tables_1) room_1).applies x e0.platform about1 = true :=
  (Spec.applies_iff w_frames).mpr ⟨w_running, w_runnable, w_alone, w_named, w_hears, w_ripe, w_room, w_tables⟩
theorem atStart : AtStart classFile x code maxLocals ret World_1 tables_1 room_1 Calls_1 rest_1 Pre_1 launch0 p0 e0 about1 theMethod args0 below0 :=
  ⟨lists_1, trivial, launch0.admits_env _ _ _, launch0.least_env, fairChoices_fair.cas, fairChoices_fair.clock, w_frames, w_args, w_heap, w_applies, ⟨⟨40, k40, 5, by decide +kernel, rfl, rfl, _, rfl, rfl⟩, trivial⟩, w_rest, w_case⟩
end start1
theorem witness_1 : WitnessClaimed_1 := ⟨start1.p0, start1.e0, start1.about1, start1.theMethod, start1.args0, start1.below0, start1.atStart⟩
end Jvm.Pilot.@@N@@
