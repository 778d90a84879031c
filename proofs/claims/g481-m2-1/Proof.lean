import JvmDerived
import JvmDerived.Pilot.@@N@@Statement
import JvmDerived.Pilot.@@N@@Code
set_option linter.unusedVariables false
set_option linter.unusedSimpArgs false
namespace Jvm.Own
open Jvm Sem ClassFile Op Lib Jvm.Stand Jvm.Free Jvm.LawKit Jvm.RoadKit Bundle
/-- from the state U on the body comes to its end, and what it leaves answers to Q -/
def Ends (tb : Tables) (e : Env) (below : List Frame) (Q : Option Value → Heap → List Loc → Prop) (F : Outcome → State → List Loc → Prop) (U : State) : Prop :=
  ∃ s₂ o, Steps tb e below U s₂ ∧ s₂.status = .running ∧ Ended s₂ below o ∧ ∃ v L, o = .returned v ∧ Q v s₂.heap L ∧ F o s₂ L
/-- the frame that a body keeps; the wide one of a body that may load a String constant -/
abbrev FE (s : State) (C S : Nat) : Outcome → State → List Loc → Prop := fun o t L => FrameEnd s o t L C S
abbrev FW (s : State) (C S : Nat) : Outcome → State → List Loc → Prop := fun o t L => ReturnedEndW s o t L C S
section Walk
variable {p : Program} {l : Launch} {e : Env} {R : Room} {s : State} {m : MethodId} {args : Array Value} {below : List Frame} {meth : Method} {c : Code} {T : State} {locs : List Loc} {cells slots : Nat} {Q : Option Value → Heap → List Loc → Prop} {F : Outcome → State → List Loc → Prop} {C S : Nat} {pc : Nat} {Ls : Array Slot} {st : List Value} {Z : State} {a0 : Array Value} {h : Heap}
theorem Ends.step {tb : Tables} {U V : State} (k : Ends tb e below Q F V) (hs : ∀ t, Steps tb e below V t → Steps tb e below U t) : Ends tb e below Q F U := by
  obtain ⟨s₂, o, h1, r⟩ := k
  exact ⟨s₂, o, hs _ h1, r⟩
theorem Ends.mono {tb : Tables} {U : State} {Q' : Option Value → Heap → List Loc → Prop} (k : Ends tb e below Q' F U) (hq : ∀ v h L, Q' v h L → Q v h L) : Ends tb e below Q F U := by
  obtain ⟨s₂, o, h1, h2, h3, v, L, h4, h5, h6⟩ := k
  exact ⟨s₂, o, h1, h2, h3, v, L, h4, hq _ _ _ h5, h6⟩
theorem iload (n : Nat) (X : Stand p l e R s m args below meth c T locs cells slots) (hx : p.tables.exec = Jvm.exec) {k : Nat} {v : Int32} (hd : decode c.code pc = .ok (.iload k, 2)) (hn : pc + 2 = n) (hl : Ls[k]? = some (.val (.int v))) (K : Ends p.tables e below Q F (T.setTop (mkF m n Ls (.int v :: st)))) : Ends p.tables e below Q F (T.setTop (mkF m pc Ls (st))) := by
  subst hn; exact K.step fun t k => XS.iload (g := mkF m pc Ls (st)) X.here hx rfl hd hl k
theorem iloadN (n : Nat) (X : Stand p l e R s m args below meth c T locs cells slots) (hx : p.tables.exec = Jvm.exec) {k : Fin 4} {v : Int32} (hd : decode c.code pc = .ok (.iload_n k, 1)) (hn : pc + 1 = n) (hl : Ls[k.val]? = some (.val (.int v))) (K : Ends p.tables e below Q F (T.setTop (mkF m n Ls (.int v :: st)))) : Ends p.tables e below Q F (T.setTop (mkF m pc Ls (st))) := by
  subst hn; exact K.step fun t k => XS.iloadN (g := mkF m pc Ls (st)) X.here hx rfl hd hl k
theorem lload (n : Nat) (X : Stand p l e R s m args below meth c T locs cells slots) (hx : p.tables.exec = Jvm.exec) {k : Nat} {v : Int64} (hd : decode c.code pc = .ok (.lload k, 2)) (hn : pc + 2 = n) (hl : Ls[k]? = some (.val (.long v))) (K : Ends p.tables e below Q F (T.setTop (mkF m n Ls (.long v :: st)))) : Ends p.tables e below Q F (T.setTop (mkF m pc Ls (st))) := by
  subst hn; exact K.step fun t k => XS.lload (g := mkF m pc Ls (st)) X.here hx rfl hd hl k
theorem lloadN (n : Nat) (X : Stand p l e R s m args below meth c T locs cells slots) (hx : p.tables.exec = Jvm.exec) {k : Fin 4} {v : Int64} (hd : decode c.code pc = .ok (.lload_n k, 1)) (hn : pc + 1 = n) (hl : Ls[k.val]? = some (.val (.long v))) (K : Ends p.tables e below Q F (T.setTop (mkF m n Ls (.long v :: st)))) : Ends p.tables e below Q F (T.setTop (mkF m pc Ls (st))) := by
  subst hn; exact K.step fun t k => XS.lloadN (g := mkF m pc Ls (st)) X.here hx rfl hd hl k
theorem aload (n : Nat) (X : Stand p l e R s m args below meth c T locs cells slots) (hx : p.tables.exec = Jvm.exec) {k : Nat} {v : Value} (hd : decode c.code pc = .ok (.aload k, 2)) (hn : pc + 2 = n) (hl : Ls[k]? = some (.val v)) (hv : v.isRef = true) (K : Ends p.tables e below Q F (T.setTop (mkF m n Ls (v :: st)))) : Ends p.tables e below Q F (T.setTop (mkF m pc Ls (st))) := by
  subst hn; exact K.step fun t k => XS.aload (g := mkF m pc Ls (st)) X.here hx rfl hd hl hv k
theorem aloadN (n : Nat) (X : Stand p l e R s m args below meth c T locs cells slots) (hx : p.tables.exec = Jvm.exec) {k : Fin 4} {v : Value} (hd : decode c.code pc = .ok (.aload_n k, 1)) (hn : pc + 1 = n) (hl : Ls[k.val]? = some (.val v)) (hv : v.isRef = true) (K : Ends p.tables e below Q F (T.setTop (mkF m n Ls (v :: st)))) : Ends p.tables e below Q F (T.setTop (mkF m pc Ls (st))) := by
  subst hn; exact K.step fun t k => XS.aloadN (g := mkF m pc Ls (st)) X.here hx rfl hd hl hv k
theorem iconst (n : Nat) (X : Stand p l e R s m args below meth c T locs cells slots) (hx : p.tables.exec = Jvm.exec) {i : Int} (v : Int32) (hd : decode c.code pc = .ok (.iconst i, 1)) (hn : pc + 1 = n) (hv : Int32.ofInt i = v) (K : Ends p.tables e below Q F (T.setTop (mkF m n Ls (.int v :: st)))) : Ends p.tables e below Q F (T.setTop (mkF m pc Ls (st))) := by
  subst hn; exact K.step fun t k => XS.iconst (g := mkF m pc Ls (st)) X.here hx rfl hd (hv ▸ k)
theorem bipush (n : Nat) (X : Stand p l e R s m args below meth c T locs cells slots) (hx : p.tables.exec = Jvm.exec) {i : Int} (v : Int32) (hd : decode c.code pc = .ok (.bipush i, 2)) (hn : pc + 2 = n) (hv : (Int8.ofInt i).toInt32 = v) (K : Ends p.tables e below Q F (T.setTop (mkF m n Ls (.int v :: st)))) : Ends p.tables e below Q F (T.setTop (mkF m pc Ls (st))) := by
  subst hn; exact K.step fun t k => XS.bipush (g := mkF m pc Ls (st)) X.here hx rfl hd (hv ▸ k)
theorem sipush (n : Nat) (X : Stand p l e R s m args below meth c T locs cells slots) (hx : p.tables.exec = Jvm.exec) {i : Int} (v : Int32) (hd : decode c.code pc = .ok (.sipush i, 3)) (hn : pc + 3 = n) (hv : (Int16.ofInt i).toInt32 = v) (K : Ends p.tables e below Q F (T.setTop (mkF m n Ls (.int v :: st)))) : Ends p.tables e below Q F (T.setTop (mkF m pc Ls (st))) := by
  subst hn; exact K.step fun t k => XS.sipush (g := mkF m pc Ls (st)) X.here hx rfl hd (hv ▸ k)
theorem lconst (n : Nat) (X : Stand p l e R s m args below meth c T locs cells slots) (hx : p.tables.exec = Jvm.exec) {i : Fin 2} (v : Int64) (hd : decode c.code pc = .ok (.lconst i, 1)) (hn : pc + 1 = n) (hv : Int64.ofNat i = v) (K : Ends p.tables e below Q F (T.setTop (mkF m n Ls (.long v :: st)))) : Ends p.tables e below Q F (T.setTop (mkF m pc Ls (st))) := by
  subst hn; exact K.step fun t k => XS.lconst (g := mkF m pc Ls (st)) X.here hx rfl hd (hv ▸ k)
theorem aconstNull (n : Nat) (X : Stand p l e R s m args below meth c T locs cells slots) (hx : p.tables.exec = Jvm.exec)  (hd : decode c.code pc = .ok (.aconst_null, 1)) (hn : pc + 1 = n)  (K : Ends p.tables e below Q F (T.setTop (mkF m n Ls (.null :: st)))) : Ends p.tables e below Q F (T.setTop (mkF m pc Ls (st))) := by
  subst hn; exact K.step fun t k => XS.aconstNull (g := mkF m pc Ls (st)) X.here hx rfl hd k
theorem iadd (n : Nat) (X : Stand p l e R s m args below meth c T locs cells slots) (hx : p.tables.exec = Jvm.exec) {x y r : Int32} {rest : List Value} (hd : decode c.code pc = .ok (.iadd, 1)) (hn : pc + 1 = n) (hr : x + y = r) (K : Ends p.tables e below Q F (T.setTop (mkF m n Ls (.int r :: rest)))) : Ends p.tables e below Q F (T.setTop (mkF m pc Ls (.int y :: .int x :: rest))) := by
  subst hn; exact K.step fun t k => XS.iadd (g := mkF m pc Ls (.int y :: .int x :: rest)) X.here hx rfl hd rfl (hr ▸ k)
theorem isub (n : Nat) (X : Stand p l e R s m args below meth c T locs cells slots) (hx : p.tables.exec = Jvm.exec) {x y r : Int32} {rest : List Value} (hd : decode c.code pc = .ok (.isub, 1)) (hn : pc + 1 = n) (hr : x - y = r) (K : Ends p.tables e below Q F (T.setTop (mkF m n Ls (.int r :: rest)))) : Ends p.tables e below Q F (T.setTop (mkF m pc Ls (.int y :: .int x :: rest))) := by
  subst hn; exact K.step fun t k => XS.isub (g := mkF m pc Ls (.int y :: .int x :: rest)) X.here hx rfl hd rfl (hr ▸ k)
theorem iand (n : Nat) (X : Stand p l e R s m args below meth c T locs cells slots) (hx : p.tables.exec = Jvm.exec) {x y r : Int32} {rest : List Value} (hd : decode c.code pc = .ok (.iand, 1)) (hn : pc + 1 = n) (hr : x &&& y = r) (K : Ends p.tables e below Q F (T.setTop (mkF m n Ls (.int r :: rest)))) : Ends p.tables e below Q F (T.setTop (mkF m pc Ls (.int y :: .int x :: rest))) := by
  subst hn; exact K.step fun t k => XS.iand (g := mkF m pc Ls (.int y :: .int x :: rest)) X.here hx rfl hd rfl (hr ▸ k)
theorem imul (n : Nat) (X : Stand p l e R s m args below meth c T locs cells slots) (hx : p.tables.exec = Jvm.exec) {x y r : Int32} {rest : List Value} (hd : decode c.code pc = .ok (.imul, 1)) (hn : pc + 1 = n) (hr : x * y = r) (K : Ends p.tables e below Q F (T.setTop (mkF m n Ls (.int r :: rest)))) : Ends p.tables e below Q F (T.setTop (mkF m pc Ls (.int y :: .int x :: rest))) := by
  subst hn; exact K.step fun t k => XS.imul (g := mkF m pc Ls (.int y :: .int x :: rest)) X.here hx rfl hd rfl (hr ▸ k)
theorem ior (n : Nat) (X : Stand p l e R s m args below meth c T locs cells slots) (hx : p.tables.exec = Jvm.exec) {x y r : Int32} {rest : List Value} (hd : decode c.code pc = .ok (.ior, 1)) (hn : pc + 1 = n) (hr : x ||| y = r) (K : Ends p.tables e below Q F (T.setTop (mkF m n Ls (.int r :: rest)))) : Ends p.tables e below Q F (T.setTop (mkF m pc Ls (.int y :: .int x :: rest))) := by
  subst hn; exact K.step fun t k => XS.ior (g := mkF m pc Ls (.int y :: .int x :: rest)) X.here hx rfl hd rfl (hr ▸ k)
theorem ixor (n : Nat) (X : Stand p l e R s m args below meth c T locs cells slots) (hx : p.tables.exec = Jvm.exec) {x y r : Int32} {rest : List Value} (hd : decode c.code pc = .ok (.ixor, 1)) (hn : pc + 1 = n) (hr : x ^^^ y = r) (K : Ends p.tables e below Q F (T.setTop (mkF m n Ls (.int r :: rest)))) : Ends p.tables e below Q F (T.setTop (mkF m pc Ls (.int y :: .int x :: rest))) := by
  subst hn; exact K.step fun t k => XS.ixor (g := mkF m pc Ls (.int y :: .int x :: rest)) X.here hx rfl hd rfl (hr ▸ k)
theorem ishl (n : Nat) (X : Stand p l e R s m args below meth c T locs cells slots) (hx : p.tables.exec = Jvm.exec) {x y r : Int32} {rest : List Value} (hd : decode c.code pc = .ok (.ishl, 1)) (hn : pc + 1 = n) (hr : x <<< (y &&& 31) = r) (K : Ends p.tables e below Q F (T.setTop (mkF m n Ls (.int r :: rest)))) : Ends p.tables e below Q F (T.setTop (mkF m pc Ls (.int y :: .int x :: rest))) := by
  subst hn; exact K.step fun t k => XS.ishl (g := mkF m pc Ls (.int y :: .int x :: rest)) X.here hx rfl hd rfl (hr ▸ k)
theorem ishr (n : Nat) (X : Stand p l e R s m args below meth c T locs cells slots) (hx : p.tables.exec = Jvm.exec) {x y r : Int32} {rest : List Value} (hd : decode c.code pc = .ok (.ishr, 1)) (hn : pc + 1 = n) (hr : x >>> (y &&& 31) = r) (K : Ends p.tables e below Q F (T.setTop (mkF m n Ls (.int r :: rest)))) : Ends p.tables e below Q F (T.setTop (mkF m pc Ls (.int y :: .int x :: rest))) := by
  subst hn; exact K.step fun t k => XS.ishr (g := mkF m pc Ls (.int y :: .int x :: rest)) X.here hx rfl hd rfl (hr ▸ k)
theorem iushr (n : Nat) (X : Stand p l e R s m args below meth c T locs cells slots) (hx : p.tables.exec = Jvm.exec) {x y r : Int32} {rest : List Value} (hd : decode c.code pc = .ok (.iushr, 1)) (hn : pc + 1 = n) (hr : (x.toUInt32 >>> (y &&& 31).toUInt32).toInt32 = r) (K : Ends p.tables e below Q F (T.setTop (mkF m n Ls (.int r :: rest)))) : Ends p.tables e below Q F (T.setTop (mkF m pc Ls (.int y :: .int x :: rest))) := by
  subst hn; exact K.step fun t k => XS.iushr (g := mkF m pc Ls (.int y :: .int x :: rest)) X.here hx rfl hd rfl (hr ▸ k)
theorem ladd (n : Nat) (X : Stand p l e R s m args below meth c T locs cells slots) (hx : p.tables.exec = Jvm.exec) {x y r : Int64} {rest : List Value} (hd : decode c.code pc = .ok (.ladd, 1)) (hn : pc + 1 = n) (hr : x + y = r) (K : Ends p.tables e below Q F (T.setTop (mkF m n Ls (.long r :: rest)))) : Ends p.tables e below Q F (T.setTop (mkF m pc Ls (.long y :: .long x :: rest))) := by
  subst hn; exact K.step fun t k => XS.ladd (g := mkF m pc Ls (.long y :: .long x :: rest)) X.here hx rfl hd rfl (hr ▸ k)
theorem lsub (n : Nat) (X : Stand p l e R s m args below meth c T locs cells slots) (hx : p.tables.exec = Jvm.exec) {x y r : Int64} {rest : List Value} (hd : decode c.code pc = .ok (.lsub, 1)) (hn : pc + 1 = n) (hr : x - y = r) (K : Ends p.tables e below Q F (T.setTop (mkF m n Ls (.long r :: rest)))) : Ends p.tables e below Q F (T.setTop (mkF m pc Ls (.long y :: .long x :: rest))) := by
  subst hn; exact K.step fun t k => XS.lsub (g := mkF m pc Ls (.long y :: .long x :: rest)) X.here hx rfl hd rfl (hr ▸ k)
theorem land (n : Nat) (X : Stand p l e R s m args below meth c T locs cells slots) (hx : p.tables.exec = Jvm.exec) {x y r : Int64} {rest : List Value} (hd : decode c.code pc = .ok (.land, 1)) (hn : pc + 1 = n) (hr : x &&& y = r) (K : Ends p.tables e below Q F (T.setTop (mkF m n Ls (.long r :: rest)))) : Ends p.tables e below Q F (T.setTop (mkF m pc Ls (.long y :: .long x :: rest))) := by
  subst hn; exact K.step fun t k => XS.land (g := mkF m pc Ls (.long y :: .long x :: rest)) X.here hx rfl hd rfl (hr ▸ k)
theorem lmul (n : Nat) (X : Stand p l e R s m args below meth c T locs cells slots) (hx : p.tables.exec = Jvm.exec) {x y r : Int64} {rest : List Value} (hd : decode c.code pc = .ok (.lmul, 1)) (hn : pc + 1 = n) (hr : x * y = r) (K : Ends p.tables e below Q F (T.setTop (mkF m n Ls (.long r :: rest)))) : Ends p.tables e below Q F (T.setTop (mkF m pc Ls (.long y :: .long x :: rest))) := by
  subst hn; exact K.step fun t k => XS.lmul (g := mkF m pc Ls (.long y :: .long x :: rest)) X.here hx rfl hd rfl (hr ▸ k)
theorem lor (n : Nat) (X : Stand p l e R s m args below meth c T locs cells slots) (hx : p.tables.exec = Jvm.exec) {x y r : Int64} {rest : List Value} (hd : decode c.code pc = .ok (.lor, 1)) (hn : pc + 1 = n) (hr : x ||| y = r) (K : Ends p.tables e below Q F (T.setTop (mkF m n Ls (.long r :: rest)))) : Ends p.tables e below Q F (T.setTop (mkF m pc Ls (.long y :: .long x :: rest))) := by
  subst hn; exact K.step fun t k => XS.lor (g := mkF m pc Ls (.long y :: .long x :: rest)) X.here hx rfl hd rfl (hr ▸ k)
theorem lxor (n : Nat) (X : Stand p l e R s m args below meth c T locs cells slots) (hx : p.tables.exec = Jvm.exec) {x y r : Int64} {rest : List Value} (hd : decode c.code pc = .ok (.lxor, 1)) (hn : pc + 1 = n) (hr : x ^^^ y = r) (K : Ends p.tables e below Q F (T.setTop (mkF m n Ls (.long r :: rest)))) : Ends p.tables e below Q F (T.setTop (mkF m pc Ls (.long y :: .long x :: rest))) := by
  subst hn; exact K.step fun t k => XS.lxor (g := mkF m pc Ls (.long y :: .long x :: rest)) X.here hx rfl hd rfl (hr ▸ k)
theorem lshl (n : Nat) (X : Stand p l e R s m args below meth c T locs cells slots) (hx : p.tables.exec = Jvm.exec) {x r : Int64} {y : Int32} {rest : List Value} (hd : decode c.code pc = .ok (.lshl, 1)) (hn : pc + 1 = n) (hr : x <<< (y &&& 0x3f).toInt64 = r) (K : Ends p.tables e below Q F (T.setTop (mkF m n Ls (.long r :: rest)))) : Ends p.tables e below Q F (T.setTop (mkF m pc Ls (.int y :: .long x :: rest))) := by
  subst hn; exact K.step fun t k => XS.lshl (g := mkF m pc Ls (.int y :: .long x :: rest)) X.here hx rfl hd rfl (hr ▸ k)
theorem lshr (n : Nat) (X : Stand p l e R s m args below meth c T locs cells slots) (hx : p.tables.exec = Jvm.exec) {x r : Int64} {y : Int32} {rest : List Value} (hd : decode c.code pc = .ok (.lshr, 1)) (hn : pc + 1 = n) (hr : x >>> (y &&& 0x3f).toInt64 = r) (K : Ends p.tables e below Q F (T.setTop (mkF m n Ls (.long r :: rest)))) : Ends p.tables e below Q F (T.setTop (mkF m pc Ls (.int y :: .long x :: rest))) := by
  subst hn; exact K.step fun t k => XS.lshr (g := mkF m pc Ls (.int y :: .long x :: rest)) X.here hx rfl hd rfl (hr ▸ k)
theorem lushr (n : Nat) (X : Stand p l e R s m args below meth c T locs cells slots) (hx : p.tables.exec = Jvm.exec) {x r : Int64} {y : Int32} {rest : List Value} (hd : decode c.code pc = .ok (.lushr, 1)) (hn : pc + 1 = n) (hr : (x.toUInt64 >>> (y &&& 0x3f).toInt64.toUInt64).toInt64 = r) (K : Ends p.tables e below Q F (T.setTop (mkF m n Ls (.long r :: rest)))) : Ends p.tables e below Q F (T.setTop (mkF m pc Ls (.int y :: .long x :: rest))) := by
  subst hn; exact K.step fun t k => XS.lushr (g := mkF m pc Ls (.int y :: .long x :: rest)) X.here hx rfl hd rfl (hr ▸ k)
theorem idiv (n : Nat) (X : Stand p l e R s m args below meth c T locs cells slots) (hx : p.tables.exec = Jvm.exec) {x y r : Int32} {rest : List Value} (hd : decode c.code pc = .ok (.idiv, 1)) (hn : pc + 1 = n) (hy : y ≠ 0) (hr : x / y = r) (K : Ends p.tables e below Q F (T.setTop (mkF m n Ls (.int r :: rest)))) : Ends p.tables e below Q F (T.setTop (mkF m pc Ls (.int y :: .int x :: rest))) := by
  subst hn; exact K.step fun t k => XS.idiv (g := mkF m pc Ls (.int y :: .int x :: rest)) X.here hx rfl hd rfl hy (hr ▸ k)
theorem irem (n : Nat) (X : Stand p l e R s m args below meth c T locs cells slots) (hx : p.tables.exec = Jvm.exec) {x y r : Int32} {rest : List Value} (hd : decode c.code pc = .ok (.irem, 1)) (hn : pc + 1 = n) (hy : y ≠ 0) (hr : x % y = r) (K : Ends p.tables e below Q F (T.setTop (mkF m n Ls (.int r :: rest)))) : Ends p.tables e below Q F (T.setTop (mkF m pc Ls (.int y :: .int x :: rest))) := by
  subst hn; exact K.step fun t k => iremM (g := mkF m pc Ls (.int y :: .int x :: rest)) X hx rfl hd rfl hy (hr ▸ k)
theorem ldiv (n : Nat) (X : Stand p l e R s m args below meth c T locs cells slots) (hx : p.tables.exec = Jvm.exec) {x y r : Int64} {rest : List Value} (hd : decode c.code pc = .ok (.ldiv, 1)) (hn : pc + 1 = n) (hy : y ≠ 0) (hr : x / y = r) (K : Ends p.tables e below Q F (T.setTop (mkF m n Ls (.long r :: rest)))) : Ends p.tables e below Q F (T.setTop (mkF m pc Ls (.long y :: .long x :: rest))) := by
  subst hn; exact K.step fun t k => XS.ldiv (g := mkF m pc Ls (.long y :: .long x :: rest)) X.here hx rfl hd rfl hy (hr ▸ k)
theorem lrem (n : Nat) (X : Stand p l e R s m args below meth c T locs cells slots) (hx : p.tables.exec = Jvm.exec) {x y r : Int64} {rest : List Value} (hd : decode c.code pc = .ok (.lrem, 1)) (hn : pc + 1 = n) (hy : y ≠ 0) (hr : x % y = r) (K : Ends p.tables e below Q F (T.setTop (mkF m n Ls (.long r :: rest)))) : Ends p.tables e below Q F (T.setTop (mkF m pc Ls (.long y :: .long x :: rest))) := by
  subst hn; exact K.step fun t k => XS.lrem (g := mkF m pc Ls (.long y :: .long x :: rest)) X.here hx rfl hd rfl hy (by rw [lrem_mod, hr]; exact k)
theorem ineg (n : Nat) (X : Stand p l e R s m args below meth c T locs cells slots) (hx : p.tables.exec = Jvm.exec) {x : Int32} {r : Int32} {rest : List Value} (hd : decode c.code pc = .ok (.ineg, 1)) (hn : pc + 1 = n) (hr : -x = r) (K : Ends p.tables e below Q F (T.setTop (mkF m n Ls (.int r :: rest)))) : Ends p.tables e below Q F (T.setTop (mkF m pc Ls (.int x :: rest))) := by
  subst hn; exact K.step fun t k => XS.ineg (g := mkF m pc Ls (.int x :: rest)) X.here hx rfl hd rfl (hr ▸ k)
theorem lneg (n : Nat) (X : Stand p l e R s m args below meth c T locs cells slots) (hx : p.tables.exec = Jvm.exec) {x : Int64} {r : Int64} {rest : List Value} (hd : decode c.code pc = .ok (.lneg, 1)) (hn : pc + 1 = n) (hr : -x = r) (K : Ends p.tables e below Q F (T.setTop (mkF m n Ls (.long r :: rest)))) : Ends p.tables e below Q F (T.setTop (mkF m pc Ls (.long x :: rest))) := by
  subst hn; exact K.step fun t k => XS.lneg (g := mkF m pc Ls (.long x :: rest)) X.here hx rfl hd rfl (hr ▸ k)
theorem i2l (n : Nat) (X : Stand p l e R s m args below meth c T locs cells slots) (hx : p.tables.exec = Jvm.exec) {x : Int32} {r : Int64} {rest : List Value} (hd : decode c.code pc = .ok (.i2l, 1)) (hn : pc + 1 = n) (hr : x.toInt64 = r) (K : Ends p.tables e below Q F (T.setTop (mkF m n Ls (.long r :: rest)))) : Ends p.tables e below Q F (T.setTop (mkF m pc Ls (.int x :: rest))) := by
  subst hn; exact K.step fun t k => XS.i2l (g := mkF m pc Ls (.int x :: rest)) X.here hx rfl hd rfl (hr ▸ k)
theorem l2i (n : Nat) (X : Stand p l e R s m args below meth c T locs cells slots) (hx : p.tables.exec = Jvm.exec) {x : Int64} {r : Int32} {rest : List Value} (hd : decode c.code pc = .ok (.l2i, 1)) (hn : pc + 1 = n) (hr : x.toInt32 = r) (K : Ends p.tables e below Q F (T.setTop (mkF m n Ls (.int r :: rest)))) : Ends p.tables e below Q F (T.setTop (mkF m pc Ls (.long x :: rest))) := by
  subst hn; exact K.step fun t k => XS.l2i (g := mkF m pc Ls (.long x :: rest)) X.here hx rfl hd rfl (hr ▸ k)
theorem i2b (n : Nat) (X : Stand p l e R s m args below meth c T locs cells slots) (hx : p.tables.exec = Jvm.exec) {x : Int32} {r : Int32} {rest : List Value} (hd : decode c.code pc = .ok (.i2b, 1)) (hn : pc + 1 = n) (hr : x.toInt8.toInt32 = r) (K : Ends p.tables e below Q F (T.setTop (mkF m n Ls (.int r :: rest)))) : Ends p.tables e below Q F (T.setTop (mkF m pc Ls (.int x :: rest))) := by
  subst hn; exact K.step fun t k => XS.i2b (g := mkF m pc Ls (.int x :: rest)) X.here hx rfl hd rfl (hr ▸ k)
theorem i2c (n : Nat) (X : Stand p l e R s m args below meth c T locs cells slots) (hx : p.tables.exec = Jvm.exec) {x : Int32} {r : Int32} {rest : List Value} (hd : decode c.code pc = .ok (.i2c, 1)) (hn : pc + 1 = n) (hr : x.toUInt32.toUInt16.toUInt32.toInt32 = r) (K : Ends p.tables e below Q F (T.setTop (mkF m n Ls (.int r :: rest)))) : Ends p.tables e below Q F (T.setTop (mkF m pc Ls (.int x :: rest))) := by
  subst hn; exact K.step fun t k => XS.i2c (g := mkF m pc Ls (.int x :: rest)) X.here hx rfl hd rfl (hr ▸ k)
theorem i2s (n : Nat) (X : Stand p l e R s m args below meth c T locs cells slots) (hx : p.tables.exec = Jvm.exec) {x : Int32} {r : Int32} {rest : List Value} (hd : decode c.code pc = .ok (.i2s, 1)) (hn : pc + 1 = n) (hr : x.toInt16.toInt32 = r) (K : Ends p.tables e below Q F (T.setTop (mkF m n Ls (.int r :: rest)))) : Ends p.tables e below Q F (T.setTop (mkF m pc Ls (.int x :: rest))) := by
  subst hn; exact K.step fun t k => XS.i2s (g := mkF m pc Ls (.int x :: rest)) X.here hx rfl hd rfl (hr ▸ k)
theorem dup (n : Nat) (X : Stand p l e R s m args below meth c T locs cells slots) (hx : p.tables.exec = Jvm.exec) {x : Value} {rest : List Value} (hd : decode c.code pc = .ok (.dup, 1)) (hn : pc + 1 = n) (hc : x.category = 1) (K : Ends p.tables e below Q F (T.setTop (mkF m n Ls (x :: x :: rest)))) : Ends p.tables e below Q F (T.setTop (mkF m pc Ls (x :: rest))) := by
  subst hn; exact K.step fun t k => XS.dup (g := mkF m pc Ls (x :: rest)) X.here hx rfl hd rfl hc k
theorem pop (n : Nat) (X : Stand p l e R s m args below meth c T locs cells slots) (hx : p.tables.exec = Jvm.exec) {x : Value} {rest : List Value} (hd : decode c.code pc = .ok (.pop, 1)) (hn : pc + 1 = n) (hc : x.category = 1) (K : Ends p.tables e below Q F (T.setTop (mkF m n Ls (rest)))) : Ends p.tables e below Q F (T.setTop (mkF m pc Ls (x :: rest))) := by
  subst hn; exact K.step fun t k => XS.pop (g := mkF m pc Ls (x :: rest)) X.here hx rfl hd rfl hc k
theorem dupX1 (n : Nat) (X : Stand p l e R s m args below meth c T locs cells slots) (hx : p.tables.exec = Jvm.exec) {x y : Value} {rest : List Value} (hd : decode c.code pc = .ok (.dup_x1, 1)) (hn : pc + 1 = n) (hc : x.category = 1) (hc2 : y.category = 1) (K : Ends p.tables e below Q F (T.setTop (mkF m n Ls (x :: y :: x :: rest)))) : Ends p.tables e below Q F (T.setTop (mkF m pc Ls (x :: y :: rest))) := by
  subst hn; exact K.step fun t k => XS.dupX1 (g := mkF m pc Ls (x :: y :: rest)) X.here hx rfl hd rfl hc hc2 k
theorem istore (n : Nat) (Fs : Int32 → Array Slot) (X : Stand p l e R s m args below meth c T locs cells slots) (hx : p.tables.exec = Jvm.exec) {k : Nat} {x : Int32} {rest : List Value} (hd : decode c.code pc = .ok (.istore k, 2)) (hn : pc + 2 = n) (hl : ∀ z, storeLocals Ls k (.int z) = some (Fs z)) (K : ∀ z, z = x → Ends p.tables e below Q F (T.setTop (mkF m n (Fs z) (rest)))) : Ends p.tables e below Q F (T.setTop (mkF m pc Ls (.int x :: rest))) := by
  subst hn; exact (K x rfl).step fun t k => XS.istore (g := mkF m pc Ls (.int x :: rest)) X.here hx rfl hd rfl (hl x) k
theorem istoreV (n : Nat) (L1 : Array Slot) (X : Stand p l e R s m args below meth c T locs cells slots) (hx : p.tables.exec = Jvm.exec) {k : Nat} {x : Int32} {rest : List Value} (hd : decode c.code pc = .ok (.istore k, 2)) (hn : pc + 2 = n) (hl : storeLocals Ls k (.int x) = some L1) (K : Ends p.tables e below Q F (T.setTop (mkF m n L1 (rest)))) : Ends p.tables e below Q F (T.setTop (mkF m pc Ls (.int x :: rest))) := by
  subst hn; exact K.step fun t k => XS.istore (g := mkF m pc Ls (.int x :: rest)) X.here hx rfl hd rfl hl k
theorem istoreN (n : Nat) (Fs : Int32 → Array Slot) (X : Stand p l e R s m args below meth c T locs cells slots) (hx : p.tables.exec = Jvm.exec) {k : Fin 4} {x : Int32} {rest : List Value} (hd : decode c.code pc = .ok (.istore_n k, 1)) (hn : pc + 1 = n) (hl : ∀ z, storeLocals Ls k.val (.int z) = some (Fs z)) (K : ∀ z, z = x → Ends p.tables e below Q F (T.setTop (mkF m n (Fs z) (rest)))) : Ends p.tables e below Q F (T.setTop (mkF m pc Ls (.int x :: rest))) := by
  subst hn; exact (K x rfl).step fun t k => XS.istoreN (g := mkF m pc Ls (.int x :: rest)) X.here hx rfl hd rfl (hl x) k
theorem istoreNV (n : Nat) (L1 : Array Slot) (X : Stand p l e R s m args below meth c T locs cells slots) (hx : p.tables.exec = Jvm.exec) {k : Fin 4} {x : Int32} {rest : List Value} (hd : decode c.code pc = .ok (.istore_n k, 1)) (hn : pc + 1 = n) (hl : storeLocals Ls k.val (.int x) = some L1) (K : Ends p.tables e below Q F (T.setTop (mkF m n L1 (rest)))) : Ends p.tables e below Q F (T.setTop (mkF m pc Ls (.int x :: rest))) := by
  subst hn; exact K.step fun t k => XS.istoreN (g := mkF m pc Ls (.int x :: rest)) X.here hx rfl hd rfl hl k
theorem lstore (n : Nat) (Fs : Int64 → Array Slot) (X : Stand p l e R s m args below meth c T locs cells slots) (hx : p.tables.exec = Jvm.exec) {k : Nat} {x : Int64} {rest : List Value} (hd : decode c.code pc = .ok (.lstore k, 2)) (hn : pc + 2 = n) (hl : ∀ z, storeLocals Ls k (.long z) = some (Fs z)) (K : ∀ z, z = x → Ends p.tables e below Q F (T.setTop (mkF m n (Fs z) (rest)))) : Ends p.tables e below Q F (T.setTop (mkF m pc Ls (.long x :: rest))) := by
  subst hn; exact (K x rfl).step fun t k => XS.lstore (g := mkF m pc Ls (.long x :: rest)) X.here hx rfl hd rfl (hl x) k
theorem lstoreV (n : Nat) (L1 : Array Slot) (X : Stand p l e R s m args below meth c T locs cells slots) (hx : p.tables.exec = Jvm.exec) {k : Nat} {x : Int64} {rest : List Value} (hd : decode c.code pc = .ok (.lstore k, 2)) (hn : pc + 2 = n) (hl : storeLocals Ls k (.long x) = some L1) (K : Ends p.tables e below Q F (T.setTop (mkF m n L1 (rest)))) : Ends p.tables e below Q F (T.setTop (mkF m pc Ls (.long x :: rest))) := by
  subst hn; exact K.step fun t k => XS.lstore (g := mkF m pc Ls (.long x :: rest)) X.here hx rfl hd rfl hl k
theorem lstoreN (n : Nat) (Fs : Int64 → Array Slot) (X : Stand p l e R s m args below meth c T locs cells slots) (hx : p.tables.exec = Jvm.exec) {k : Fin 4} {x : Int64} {rest : List Value} (hd : decode c.code pc = .ok (.lstore_n k, 1)) (hn : pc + 1 = n) (hl : ∀ z, storeLocals Ls k.val (.long z) = some (Fs z)) (K : ∀ z, z = x → Ends p.tables e below Q F (T.setTop (mkF m n (Fs z) (rest)))) : Ends p.tables e below Q F (T.setTop (mkF m pc Ls (.long x :: rest))) := by
  subst hn; exact (K x rfl).step fun t k => XS.lstoreN (g := mkF m pc Ls (.long x :: rest)) X.here hx rfl hd rfl (hl x) k
theorem lstoreNV (n : Nat) (L1 : Array Slot) (X : Stand p l e R s m args below meth c T locs cells slots) (hx : p.tables.exec = Jvm.exec) {k : Fin 4} {x : Int64} {rest : List Value} (hd : decode c.code pc = .ok (.lstore_n k, 1)) (hn : pc + 1 = n) (hl : storeLocals Ls k.val (.long x) = some L1) (K : Ends p.tables e below Q F (T.setTop (mkF m n L1 (rest)))) : Ends p.tables e below Q F (T.setTop (mkF m pc Ls (.long x :: rest))) := by
  subst hn; exact K.step fun t k => XS.lstoreN (g := mkF m pc Ls (.long x :: rest)) X.here hx rfl hd rfl hl k
theorem astore (n : Nat) (L1 : Array Slot) (X : Stand p l e R s m args below meth c T locs cells slots) (hx : p.tables.exec = Jvm.exec) {k : Nat} {x : Value} {rest : List Value} (hd : decode c.code pc = .ok (.astore k, 2)) (hn : pc + 2 = n) (hv : x.isRef = true) (hl : storeLocals Ls k x = some L1) (K : Ends p.tables e below Q F (T.setTop (mkF m n L1 (rest)))) : Ends p.tables e below Q F (T.setTop (mkF m pc Ls (x :: rest))) := by
  subst hn; exact K.step fun t k => XS.astore (g := mkF m pc Ls (x :: rest)) X.here hx rfl hd rfl hv hl k
theorem astoreN (n : Nat) (L1 : Array Slot) (X : Stand p l e R s m args below meth c T locs cells slots) (hx : p.tables.exec = Jvm.exec) {k : Fin 4} {x : Value} {rest : List Value} (hd : decode c.code pc = .ok (.astore_n k, 1)) (hn : pc + 1 = n) (hv : x.isRef = true) (hl : storeLocals Ls k.val x = some L1) (K : Ends p.tables e below Q F (T.setTop (mkF m n L1 (rest)))) : Ends p.tables e below Q F (T.setTop (mkF m pc Ls (x :: rest))) := by
  subst hn; exact K.step fun t k => XS.astoreN (g := mkF m pc Ls (x :: rest)) X.here hx rfl hd rfl hv hl k
theorem iinc (n : Nat) (Fs : Int32 → Array Slot) (X : Stand p l e R s m args below meth c T locs cells slots) (hx : p.tables.exec = Jvm.exec) {k : Nat} {cst : Int} {x : Int32} (d : Int32) (hd : decode c.code pc = .ok (.iinc k cst, 3)) (hn : pc + 3 = n) (hc : Int32.ofInt cst = d) (hl : Ls[k]? = some (.val (.int x))) (hl2 : ∀ z, storeLocals Ls k (.int z) = some (Fs z)) (K : ∀ z, z = x + d → Ends p.tables e below Q F (T.setTop (mkF m n (Fs z) (st)))) : Ends p.tables e below Q F (T.setTop (mkF m pc Ls (st))) := by
  subst hn hc; exact (K _ rfl).step fun t k => XS.iinc (g := mkF m pc Ls st) X.here hx rfl hd hl (hl2 _) k
theorem goto (n : Nat) (X : Stand p l e R s m args below meth c T locs cells slots) (hx : p.tables.exec = Jvm.exec) {o : Int} (hd : decode c.code pc = .ok (.goto o, 3)) (hn : 0 ≤ (pc : Int) + o ∧ ((pc : Int) + o).toNat = n) (K : Ends p.tables e below Q F (T.setTop (mkF m n Ls (st)))) : Ends p.tables e below Q F (T.setTop (mkF m pc Ls (st))) :=
  K.step fun t k => XS.goto (g := mkF m pc Ls st) X.here hx rfl (pc0 := pc) (pc' := n) rfl hd hn.1 hn.2 k
theorem icmpB (nY nN : Nat) (X : Stand p l e R s m args below meth c T locs cells slots) (hx : p.tables.exec = Jvm.exec) {cd : ClassFile.Cond} {o : Int} {x y : Int32} {rest : List Value} (hd : decode c.code pc = .ok (.if_icmp cd o, 3)) (hY : 0 ≤ (pc : Int) + o ∧ ((pc : Int) + o).toNat = nY) (hN : pc + 3 = nN) (KY : if_icmp.holds cd x y = true → Ends p.tables e below Q F (T.setTop (mkF m nY Ls (rest)))) (KN : if_icmp.holds cd x y = false → Ends p.tables e below Q F (T.setTop (mkF m nN Ls (rest)))) : Ends p.tables e below Q F (T.setTop (mkF m pc Ls (.int y :: .int x :: rest))) := by
  subst hN
  cases hb : if_icmp.holds cd x y with
  | true => exact (KY hb).step fun t k => XS.icmpYes (g := mkF m pc Ls (.int y :: .int x :: rest)) X.here hx rfl (pc0 := pc) (pc' := nY) rfl hd rfl hb hY.1 hY.2 k
  | false => exact (KN hb).step fun t k => XS.icmpNo (g := mkF m pc Ls (.int y :: .int x :: rest)) X.here hx rfl hd rfl hb k
theorem ifB (nY nN : Nat) (X : Stand p l e R s m args below meth c T locs cells slots) (hx : p.tables.exec = Jvm.exec) {cd : ClassFile.Cond} {o : Int} {x : Int32} {rest : List Value} (hd : decode c.code pc = .ok (.ifCond cd o, 3)) (hY : 0 ≤ (pc : Int) + o ∧ ((pc : Int) + o).toNat = nY) (hN : pc + 3 = nN) (KY : if_icmp.holds cd x 0 = true → Ends p.tables e below Q F (T.setTop (mkF m nY Ls (rest)))) (KN : if_icmp.holds cd x 0 = false → Ends p.tables e below Q F (T.setTop (mkF m nN Ls (rest)))) : Ends p.tables e below Q F (T.setTop (mkF m pc Ls (.int x :: rest))) := by
  subst hN
  cases hb : if_icmp.holds cd x 0 with
  | true => exact (KY hb).step fun t k => XS.ifYes (g := mkF m pc Ls (.int x :: rest)) X.here hx rfl (pc0 := pc) (pc' := nY) rfl hd rfl ((if0 _ _).trans hb) hY.1 hY.2 k
  | false => exact (KN hb).step fun t k => XS.ifNo (g := mkF m pc Ls (.int x :: rest)) X.here hx rfl hd rfl ((if0 _ _).trans hb) k
theorem h_lt {x y : Int32} : (if_icmp.holds .lt x y = true → x < y) ∧ (if_icmp.holds .lt x y = false → ¬ x < y) := by simp [if_icmp.holds]
theorem h_ge {x y : Int32} : (if_icmp.holds .ge x y = true → ¬ x < y) ∧ (if_icmp.holds .ge x y = false → x < y) := by simp [if_icmp.holds, Int32.not_lt, Int32.not_le]
theorem h_gt {x y : Int32} : (if_icmp.holds .gt x y = true → y < x) ∧ (if_icmp.holds .gt x y = false → ¬ y < x) := by simp [if_icmp.holds, Int32.not_lt, Int32.not_le]
theorem h_le {x y : Int32} : (if_icmp.holds .le x y = true → ¬ y < x) ∧ (if_icmp.holds .le x y = false → y < x) := by simp [if_icmp.holds, Int32.not_lt, Int32.not_le]
theorem h_eq {x y : Int32} : (if_icmp.holds .eq x y = true → x = y) ∧ (if_icmp.holds .eq x y = false → ¬ x = y) := by simp [if_icmp.holds]
theorem h_ne {x y : Int32} : (if_icmp.holds .ne x y = true → ¬ x = y) ∧ (if_icmp.holds .ne x y = false → x = y) := by simp [if_icmp.holds]
theorem icmp_lt (nY nN : Nat) (X : Stand p l e R s m args below meth c T locs cells slots) (hx : p.tables.exec = Jvm.exec) {o : Int} {x y : Int32} {rest : List Value} (hd : decode c.code pc = .ok (.if_icmp .lt o, 3)) (hY : 0 ≤ (pc : Int) + o ∧ ((pc : Int) + o).toNat = nY) (hN : pc + 3 = nN) (KY : x < y → Ends p.tables e below Q F (T.setTop (mkF m nY Ls (rest)))) (KN : ¬ x < y → Ends p.tables e below Q F (T.setTop (mkF m nN Ls (rest)))) : Ends p.tables e below Q F (T.setTop (mkF m pc Ls (.int y :: .int x :: rest))) :=
  icmpB nY nN X hx hd hY hN (fun hb => KY (h_lt.1 hb)) (fun hb => KN (h_lt.2 hb))
theorem if_lt (nY nN : Nat) (X : Stand p l e R s m args below meth c T locs cells slots) (hx : p.tables.exec = Jvm.exec) {o : Int} {x : Int32} {rest : List Value} (hd : decode c.code pc = .ok (.ifCond .lt o, 3)) (hY : 0 ≤ (pc : Int) + o ∧ ((pc : Int) + o).toNat = nY) (hN : pc + 3 = nN) (KY : x < 0 → Ends p.tables e below Q F (T.setTop (mkF m nY Ls (rest)))) (KN : ¬ x < 0 → Ends p.tables e below Q F (T.setTop (mkF m nN Ls (rest)))) : Ends p.tables e below Q F (T.setTop (mkF m pc Ls (.int x :: rest))) :=
  ifB nY nN X hx hd hY hN (fun hb => KY (h_lt.1 hb)) (fun hb => KN (h_lt.2 hb))
theorem icmp_ge (nY nN : Nat) (X : Stand p l e R s m args below meth c T locs cells slots) (hx : p.tables.exec = Jvm.exec) {o : Int} {x y : Int32} {rest : List Value} (hd : decode c.code pc = .ok (.if_icmp .ge o, 3)) (hY : 0 ≤ (pc : Int) + o ∧ ((pc : Int) + o).toNat = nY) (hN : pc + 3 = nN) (KY : ¬ x < y → Ends p.tables e below Q F (T.setTop (mkF m nY Ls (rest)))) (KN : x < y → Ends p.tables e below Q F (T.setTop (mkF m nN Ls (rest)))) : Ends p.tables e below Q F (T.setTop (mkF m pc Ls (.int y :: .int x :: rest))) :=
  icmpB nY nN X hx hd hY hN (fun hb => KY (h_ge.1 hb)) (fun hb => KN (h_ge.2 hb))
theorem if_ge (nY nN : Nat) (X : Stand p l e R s m args below meth c T locs cells slots) (hx : p.tables.exec = Jvm.exec) {o : Int} {x : Int32} {rest : List Value} (hd : decode c.code pc = .ok (.ifCond .ge o, 3)) (hY : 0 ≤ (pc : Int) + o ∧ ((pc : Int) + o).toNat = nY) (hN : pc + 3 = nN) (KY : ¬ x < 0 → Ends p.tables e below Q F (T.setTop (mkF m nY Ls (rest)))) (KN : x < 0 → Ends p.tables e below Q F (T.setTop (mkF m nN Ls (rest)))) : Ends p.tables e below Q F (T.setTop (mkF m pc Ls (.int x :: rest))) :=
  ifB nY nN X hx hd hY hN (fun hb => KY (h_ge.1 hb)) (fun hb => KN (h_ge.2 hb))
theorem icmp_gt (nY nN : Nat) (X : Stand p l e R s m args below meth c T locs cells slots) (hx : p.tables.exec = Jvm.exec) {o : Int} {x y : Int32} {rest : List Value} (hd : decode c.code pc = .ok (.if_icmp .gt o, 3)) (hY : 0 ≤ (pc : Int) + o ∧ ((pc : Int) + o).toNat = nY) (hN : pc + 3 = nN) (KY : y < x → Ends p.tables e below Q F (T.setTop (mkF m nY Ls (rest)))) (KN : ¬ y < x → Ends p.tables e below Q F (T.setTop (mkF m nN Ls (rest)))) : Ends p.tables e below Q F (T.setTop (mkF m pc Ls (.int y :: .int x :: rest))) :=
  icmpB nY nN X hx hd hY hN (fun hb => KY (h_gt.1 hb)) (fun hb => KN (h_gt.2 hb))
theorem if_gt (nY nN : Nat) (X : Stand p l e R s m args below meth c T locs cells slots) (hx : p.tables.exec = Jvm.exec) {o : Int} {x : Int32} {rest : List Value} (hd : decode c.code pc = .ok (.ifCond .gt o, 3)) (hY : 0 ≤ (pc : Int) + o ∧ ((pc : Int) + o).toNat = nY) (hN : pc + 3 = nN) (KY : 0 < x → Ends p.tables e below Q F (T.setTop (mkF m nY Ls (rest)))) (KN : ¬ 0 < x → Ends p.tables e below Q F (T.setTop (mkF m nN Ls (rest)))) : Ends p.tables e below Q F (T.setTop (mkF m pc Ls (.int x :: rest))) :=
  ifB nY nN X hx hd hY hN (fun hb => KY (h_gt.1 hb)) (fun hb => KN (h_gt.2 hb))
theorem icmp_le (nY nN : Nat) (X : Stand p l e R s m args below meth c T locs cells slots) (hx : p.tables.exec = Jvm.exec) {o : Int} {x y : Int32} {rest : List Value} (hd : decode c.code pc = .ok (.if_icmp .le o, 3)) (hY : 0 ≤ (pc : Int) + o ∧ ((pc : Int) + o).toNat = nY) (hN : pc + 3 = nN) (KY : ¬ y < x → Ends p.tables e below Q F (T.setTop (mkF m nY Ls (rest)))) (KN : y < x → Ends p.tables e below Q F (T.setTop (mkF m nN Ls (rest)))) : Ends p.tables e below Q F (T.setTop (mkF m pc Ls (.int y :: .int x :: rest))) :=
  icmpB nY nN X hx hd hY hN (fun hb => KY (h_le.1 hb)) (fun hb => KN (h_le.2 hb))
theorem if_le (nY nN : Nat) (X : Stand p l e R s m args below meth c T locs cells slots) (hx : p.tables.exec = Jvm.exec) {o : Int} {x : Int32} {rest : List Value} (hd : decode c.code pc = .ok (.ifCond .le o, 3)) (hY : 0 ≤ (pc : Int) + o ∧ ((pc : Int) + o).toNat = nY) (hN : pc + 3 = nN) (KY : ¬ 0 < x → Ends p.tables e below Q F (T.setTop (mkF m nY Ls (rest)))) (KN : 0 < x → Ends p.tables e below Q F (T.setTop (mkF m nN Ls (rest)))) : Ends p.tables e below Q F (T.setTop (mkF m pc Ls (.int x :: rest))) :=
  ifB nY nN X hx hd hY hN (fun hb => KY (h_le.1 hb)) (fun hb => KN (h_le.2 hb))
theorem icmp_eq (nY nN : Nat) (X : Stand p l e R s m args below meth c T locs cells slots) (hx : p.tables.exec = Jvm.exec) {o : Int} {x y : Int32} {rest : List Value} (hd : decode c.code pc = .ok (.if_icmp .eq o, 3)) (hY : 0 ≤ (pc : Int) + o ∧ ((pc : Int) + o).toNat = nY) (hN : pc + 3 = nN) (KY : x = y → Ends p.tables e below Q F (T.setTop (mkF m nY Ls (rest)))) (KN : ¬ x = y → Ends p.tables e below Q F (T.setTop (mkF m nN Ls (rest)))) : Ends p.tables e below Q F (T.setTop (mkF m pc Ls (.int y :: .int x :: rest))) :=
  icmpB nY nN X hx hd hY hN (fun hb => KY (h_eq.1 hb)) (fun hb => KN (h_eq.2 hb))
theorem if_eq (nY nN : Nat) (X : Stand p l e R s m args below meth c T locs cells slots) (hx : p.tables.exec = Jvm.exec) {o : Int} {x : Int32} {rest : List Value} (hd : decode c.code pc = .ok (.ifCond .eq o, 3)) (hY : 0 ≤ (pc : Int) + o ∧ ((pc : Int) + o).toNat = nY) (hN : pc + 3 = nN) (KY : x = 0 → Ends p.tables e below Q F (T.setTop (mkF m nY Ls (rest)))) (KN : ¬ x = 0 → Ends p.tables e below Q F (T.setTop (mkF m nN Ls (rest)))) : Ends p.tables e below Q F (T.setTop (mkF m pc Ls (.int x :: rest))) :=
  ifB nY nN X hx hd hY hN (fun hb => KY (h_eq.1 hb)) (fun hb => KN (h_eq.2 hb))
theorem icmp_ne (nY nN : Nat) (X : Stand p l e R s m args below meth c T locs cells slots) (hx : p.tables.exec = Jvm.exec) {o : Int} {x y : Int32} {rest : List Value} (hd : decode c.code pc = .ok (.if_icmp .ne o, 3)) (hY : 0 ≤ (pc : Int) + o ∧ ((pc : Int) + o).toNat = nY) (hN : pc + 3 = nN) (KY : ¬ x = y → Ends p.tables e below Q F (T.setTop (mkF m nY Ls (rest)))) (KN : x = y → Ends p.tables e below Q F (T.setTop (mkF m nN Ls (rest)))) : Ends p.tables e below Q F (T.setTop (mkF m pc Ls (.int y :: .int x :: rest))) :=
  icmpB nY nN X hx hd hY hN (fun hb => KY (h_ne.1 hb)) (fun hb => KN (h_ne.2 hb))
theorem if_ne (nY nN : Nat) (X : Stand p l e R s m args below meth c T locs cells slots) (hx : p.tables.exec = Jvm.exec) {o : Int} {x : Int32} {rest : List Value} (hd : decode c.code pc = .ok (.ifCond .ne o, 3)) (hY : 0 ≤ (pc : Int) + o ∧ ((pc : Int) + o).toNat = nY) (hN : pc + 3 = nN) (KY : ¬ x = 0 → Ends p.tables e below Q F (T.setTop (mkF m nY Ls (rest)))) (KN : x = 0 → Ends p.tables e below Q F (T.setTop (mkF m nN Ls (rest)))) : Ends p.tables e below Q F (T.setTop (mkF m pc Ls (.int x :: rest))) :=
  ifB nY nN X hx hd hY hN (fun hb => KY (h_ne.1 hb)) (fun hb => KN (h_ne.2 hb))
theorem w_lt {x y : Int64} : lcmpW x y < 0 → x < y := (lw_lt x y).mp
theorem w_nlt {x y : Int64} : ¬ lcmpW x y < 0 → ¬ x < y := fun q r => q ((lw_lt x y).mpr r)
theorem w_gt {x y : Int64} : 0 < lcmpW x y → y < x := (lw_gt x y).mp
theorem w_ngt {x y : Int64} : ¬ 0 < lcmpW x y → ¬ y < x := fun q r => q ((lw_gt x y).mpr r)
theorem w_eq {x y : Int64} : lcmpW x y = 0 → x = y := (lw_eq x y).mp
theorem w_neq {x y : Int64} : ¬ lcmpW x y = 0 → ¬ x = y := fun q r => q ((lw_eq x y).mpr r)
theorem lif_lt (nY nN : Nat) (X : Stand p l e R s m args below meth c T locs cells slots) (hx : p.tables.exec = Jvm.exec) {o : Int} {x y : Int64} {rest : List Value} (hd0 : decode c.code pc = .ok (.lcmp, 1)) {pc1 : Nat} (hp : pc + 1 = pc1) (hd : decode c.code pc1 = .ok (.ifCond .lt o, 3)) (hY : 0 ≤ (pc1 : Int) + o ∧ ((pc1 : Int) + o).toNat = nY) (hN : pc1 + 3 = nN) (KY : x < y → Ends p.tables e below Q F (T.setTop (mkF m nY Ls (rest)))) (KN : ¬ x < y → Ends p.tables e below Q F (T.setTop (mkF m nN Ls (rest)))) : Ends p.tables e below Q F (T.setTop (mkF m pc Ls (.long y :: .long x :: rest))) := by
  subst hp
  refine Ends.step ?_ fun t k => XS.lcmp (g := mkF m pc Ls (.long y :: .long x :: rest)) X.here hx rfl hd0 rfl k
  exact if_lt nY nN X hx hd hY hN (fun hb => KY (w_lt hb)) (fun hb => KN (w_nlt hb))
theorem lif_ge (nY nN : Nat) (X : Stand p l e R s m args below meth c T locs cells slots) (hx : p.tables.exec = Jvm.exec) {o : Int} {x y : Int64} {rest : List Value} (hd0 : decode c.code pc = .ok (.lcmp, 1)) {pc1 : Nat} (hp : pc + 1 = pc1) (hd : decode c.code pc1 = .ok (.ifCond .ge o, 3)) (hY : 0 ≤ (pc1 : Int) + o ∧ ((pc1 : Int) + o).toNat = nY) (hN : pc1 + 3 = nN) (KY : ¬ x < y → Ends p.tables e below Q F (T.setTop (mkF m nY Ls (rest)))) (KN : x < y → Ends p.tables e below Q F (T.setTop (mkF m nN Ls (rest)))) : Ends p.tables e below Q F (T.setTop (mkF m pc Ls (.long y :: .long x :: rest))) := by
  subst hp
  refine Ends.step ?_ fun t k => XS.lcmp (g := mkF m pc Ls (.long y :: .long x :: rest)) X.here hx rfl hd0 rfl k
  exact if_ge nY nN X hx hd hY hN (fun hb => KY (w_nlt hb)) (fun hb => KN (w_lt hb))
theorem lif_gt (nY nN : Nat) (X : Stand p l e R s m args below meth c T locs cells slots) (hx : p.tables.exec = Jvm.exec) {o : Int} {x y : Int64} {rest : List Value} (hd0 : decode c.code pc = .ok (.lcmp, 1)) {pc1 : Nat} (hp : pc + 1 = pc1) (hd : decode c.code pc1 = .ok (.ifCond .gt o, 3)) (hY : 0 ≤ (pc1 : Int) + o ∧ ((pc1 : Int) + o).toNat = nY) (hN : pc1 + 3 = nN) (KY : y < x → Ends p.tables e below Q F (T.setTop (mkF m nY Ls (rest)))) (KN : ¬ y < x → Ends p.tables e below Q F (T.setTop (mkF m nN Ls (rest)))) : Ends p.tables e below Q F (T.setTop (mkF m pc Ls (.long y :: .long x :: rest))) := by
  subst hp
  refine Ends.step ?_ fun t k => XS.lcmp (g := mkF m pc Ls (.long y :: .long x :: rest)) X.here hx rfl hd0 rfl k
  exact if_gt nY nN X hx hd hY hN (fun hb => KY (w_gt hb)) (fun hb => KN (w_ngt hb))
theorem lif_le (nY nN : Nat) (X : Stand p l e R s m args below meth c T locs cells slots) (hx : p.tables.exec = Jvm.exec) {o : Int} {x y : Int64} {rest : List Value} (hd0 : decode c.code pc = .ok (.lcmp, 1)) {pc1 : Nat} (hp : pc + 1 = pc1) (hd : decode c.code pc1 = .ok (.ifCond .le o, 3)) (hY : 0 ≤ (pc1 : Int) + o ∧ ((pc1 : Int) + o).toNat = nY) (hN : pc1 + 3 = nN) (KY : ¬ y < x → Ends p.tables e below Q F (T.setTop (mkF m nY Ls (rest)))) (KN : y < x → Ends p.tables e below Q F (T.setTop (mkF m nN Ls (rest)))) : Ends p.tables e below Q F (T.setTop (mkF m pc Ls (.long y :: .long x :: rest))) := by
  subst hp
  refine Ends.step ?_ fun t k => XS.lcmp (g := mkF m pc Ls (.long y :: .long x :: rest)) X.here hx rfl hd0 rfl k
  exact if_le nY nN X hx hd hY hN (fun hb => KY (w_ngt hb)) (fun hb => KN (w_gt hb))
theorem lif_eq (nY nN : Nat) (X : Stand p l e R s m args below meth c T locs cells slots) (hx : p.tables.exec = Jvm.exec) {o : Int} {x y : Int64} {rest : List Value} (hd0 : decode c.code pc = .ok (.lcmp, 1)) {pc1 : Nat} (hp : pc + 1 = pc1) (hd : decode c.code pc1 = .ok (.ifCond .eq o, 3)) (hY : 0 ≤ (pc1 : Int) + o ∧ ((pc1 : Int) + o).toNat = nY) (hN : pc1 + 3 = nN) (KY : x = y → Ends p.tables e below Q F (T.setTop (mkF m nY Ls (rest)))) (KN : ¬ x = y → Ends p.tables e below Q F (T.setTop (mkF m nN Ls (rest)))) : Ends p.tables e below Q F (T.setTop (mkF m pc Ls (.long y :: .long x :: rest))) := by
  subst hp
  refine Ends.step ?_ fun t k => XS.lcmp (g := mkF m pc Ls (.long y :: .long x :: rest)) X.here hx rfl hd0 rfl k
  exact if_eq nY nN X hx hd hY hN (fun hb => KY (w_eq hb)) (fun hb => KN (w_neq hb))
theorem lif_ne (nY nN : Nat) (X : Stand p l e R s m args below meth c T locs cells slots) (hx : p.tables.exec = Jvm.exec) {o : Int} {x y : Int64} {rest : List Value} (hd0 : decode c.code pc = .ok (.lcmp, 1)) {pc1 : Nat} (hp : pc + 1 = pc1) (hd : decode c.code pc1 = .ok (.ifCond .ne o, 3)) (hY : 0 ≤ (pc1 : Int) + o ∧ ((pc1 : Int) + o).toNat = nY) (hN : pc1 + 3 = nN) (KY : ¬ x = y → Ends p.tables e below Q F (T.setTop (mkF m nY Ls (rest)))) (KN : x = y → Ends p.tables e below Q F (T.setTop (mkF m nN Ls (rest)))) : Ends p.tables e below Q F (T.setTop (mkF m pc Ls (.long y :: .long x :: rest))) := by
  subst hp
  refine Ends.step ?_ fun t k => XS.lcmp (g := mkF m pc Ls (.long y :: .long x :: rest)) X.here hx rfl hd0 rfl k
  exact if_ne nY nN X hx hd hY hN (fun hb => KY (w_neq hb)) (fun hb => KN (w_eq hb))
theorem ifnull (nY nN : Nat) (X : Stand p l e R s m args below meth c T locs cells slots) (hx : p.tables.exec = Jvm.exec) {o : Int} {v : Value} {rest : List Value} (hd : decode c.code pc = .ok (.ifnull o, 3)) (hv : v.isRef = true) (hY : 0 ≤ (pc : Int) + o ∧ ((pc : Int) + o).toNat = nY) (hN : pc + 3 = nN) (KY : v = .null → Ends p.tables e below Q F (T.setTop (mkF m nY Ls (rest)))) (KN : ∀ a, v = .ref a → Ends p.tables e below Q F (T.setTop (mkF m nN Ls (rest)))) : Ends p.tables e below Q F (T.setTop (mkF m pc Ls (v :: rest))) := by
  subst hN
  rcases ref_cases hv with rfl | ⟨a, rfl⟩
  · exact (KY rfl).step fun t k => XS.ifnullYes (g := mkF m pc Ls (.null :: rest)) X.here hx rfl (pc0 := pc) (pc' := nY) rfl hd rfl hY.1 hY.2 k
  · exact (KN a rfl).step fun t k => XS.ifnullNo (g := mkF m pc Ls (.ref a :: rest)) X.here hx rfl hd rfl k
theorem ifnonnull (nY nN : Nat) (X : Stand p l e R s m args below meth c T locs cells slots) (hx : p.tables.exec = Jvm.exec) {o : Int} {v : Value} {rest : List Value} (hd : decode c.code pc = .ok (.ifnonnull o, 3)) (hv : v.isRef = true) (hY : 0 ≤ (pc : Int) + o ∧ ((pc : Int) + o).toNat = nY) (hN : pc + 3 = nN) (KY : ∀ a, v = .ref a → Ends p.tables e below Q F (T.setTop (mkF m nY Ls (rest)))) (KN : v = .null → Ends p.tables e below Q F (T.setTop (mkF m nN Ls (rest)))) : Ends p.tables e below Q F (T.setTop (mkF m pc Ls (v :: rest))) := by
  subst hN
  rcases ref_cases hv with rfl | ⟨a, rfl⟩
  · exact (KN rfl).step fun t k => XS.ifnonnullNo (g := mkF m pc Ls (.null :: rest)) X.here hx rfl hd rfl k
  · exact (KY a rfl).step fun t k => XS.ifnonnullYes (g := mkF m pc Ls (.ref a :: rest)) X.here hx rfl (pc0 := pc) (pc' := nY) rfl hd rfl hY.1 hY.2 k
theorem retI (X : Stand p l e R s m args below meth c T locs cells slots) (hx : p.tables.exec = Jvm.exec) {pc : Nat} {Ls : Array Slot} {z : Int32} {rest : List Value} (hret : meth.sig.returnType = some .int) (hd : decode c.code pc = .ok (.ireturn, 1)) {fs : List Frame}
    (hl : ∀ (f : JFrame) (acts : List Action), f.method = m → f.locked = none → f.entered = [] → (doReturn e (T.setTop f) acts (some (.int z))).1 = T.setFrames fs) : Steps p.tables e below (T.setTop (mkF m pc Ls (.int z :: rest))) (T.setFrames fs) := by
  have hm' : T.vm.method? m = some meth := X.method'
  have hn : narrow .int (.int z) = .int z := rfl
  show Steps p.tables e below (T.setTop { method := m, pc := pc, locals := Ls, stack := _ :: rest, locked := none }) _
  jvm_step X.here [X.here.top, hx, hd, hm', hret, hn]
  first | (intro acts; rw [hl _ acts rfl rfl rfl]) | rw [hl _ _ rfl rfl rfl]
  exact Steps.refl _
theorem fin {fs : List Frame} {v : Option Value} {U : State} (X : Stand p l e R s m args below meth c T locs cells slots) (hst : Steps p.tables e below U (T.setFrames fs)) (hrun : (T.setFrames fs).status = .running) (hend : Ended (T.setFrames fs) below (.returned v)) (hW : s.WarmedH (T.setFrames fs).vm) (hsame : s.sameButNew ({ T.setFrames fs with vm := s.vm } : State) locs cells slots) (q : Q v T.heap locs) (hC : cells ≤ C) (hS : slots ≤ S) : Ends p.tables e below Q (FE s C S) U :=
  ⟨_, _, hst, hrun, hend, _, _, rfl, q, ⟨_, rfl⟩, hW, hsame.mono hC hS⟩
theorem retInt (X : Stand p l e R s m args below meth c T locs cells slots) (hx : p.tables.exec = Jvm.exec) {z : Int32} {rest : List Value} (hlk : meth.locks = false) (hret : meth.sig.returnType = some .int) (hd : decode c.code pc = .ok (.ireturn, 1)) (hC : cells ≤ C) (hS : slots ≤ S) (q : Q (some (.int z)) T.heap locs) : Ends p.tables e below Q (FE s C S) (T.setTop (mkF m pc Ls (.int z :: rest))) := by
  obtain ⟨fs, hr, hrun, hended, hW, hsame⟩ := X.leave (v := some (.int z)) (fun h => by rw [hret] at h; cases h) hlk
  exact fin X (retI X hx hret hd hr) hrun hended hW hsame q hC hS
theorem retBool (X : Stand p l e R s m args below meth c T locs cells slots) (hx : p.tables.exec = Jvm.exec) {z : Int32} {rest : List Value} (hlk : meth.locks = false) (hret : meth.sig.returnType = some .boolean) (hd : decode c.code pc = .ok (.ireturn, 1)) (hC : cells ≤ C) (hS : slots ≤ S) (q : Q (some (.int (nar .boolean z))) T.heap locs) : Ends p.tables e below Q (FE s C S) (T.setTop (mkF m pc Ls (.int z :: rest))) := by
  obtain ⟨fs, hr, hrun, hended, hW, hsame⟩ := X.leave (v := some (.int (nar .boolean z))) (fun h => by rw [hret] at h; cases h) hlk
  exact fin X (retN X hx hret (Or.inl rfl) hd hr) hrun hended hW hsame q hC hS
theorem retLong (X : Stand p l e R s m args below meth c T locs cells slots) (hx : p.tables.exec = Jvm.exec) {z : Int64} (hlk : meth.locks = false) (hret : meth.sig.returnType = some .long) (hd : decode c.code pc = .ok (.lreturn, 1)) (hC : cells ≤ C) (hS : slots ≤ S) (q : Q (some (.long z)) T.heap locs) : Ends p.tables e below Q (FE s C S) (T.setTop (mkF m pc Ls ([.long z]))) := by
  obtain ⟨fs, hr, hrun, hended, hW, hsame⟩ := X.leave (v := some (.long z)) (fun h => by rw [hret] at h; cases h) hlk
  exact fin X (X.lreturnOut hx hret hd hr) hrun hended hW hsame q hC hS
theorem retRef (X : Stand p l e R s m args below meth c T locs cells slots) (hx : p.tables.exec = Jvm.exec) {v : Value} {t : FieldType} (hlk : meth.locks = false) (hv : v.isRef = true) (hret : meth.sig.returnType = some t) (ht : t.isReference = true) (hd : decode c.code pc = .ok (.areturn, 1)) (hC : cells ≤ C) (hS : slots ≤ S) (q : Q (some v) T.heap locs) : Ends p.tables e below Q (FE s C S) (T.setTop (mkF m pc Ls ([v]))) := by
  obtain ⟨fs, hr, hrun, hended, hW, hsame⟩ := X.leave (v := some v) (fun h => by rw [hret] at h; cases h) hlk
  exact fin X (X.areturnOut hx hv hret ht hd hr) hrun hended hW hsame q hC hS
theorem retVoid (X : Stand p l e R s m args below meth c T locs cells slots) (hx : p.tables.exec = Jvm.exec) (hlk : meth.locks = false) (hret : meth.sig.returnType = none) (hd : decode c.code pc = .ok (.return_, 1)) (hC : cells ≤ C) (hS : slots ≤ S) (q : Q none T.heap locs) : Ends p.tables e below Q (FE s C S) (T.setTop (mkF m pc Ls ([]))) := by
  obtain ⟨fs, hr, hrun, hended, hW, hsame⟩ := X.leave (v := none) (fun _ => rfl) hlk
  exact fin X (X.returnOut hx hret hd hr) hrun hended hW hsame q hC hS
theorem ldcInt (n : Nat) (X : Stand p l e R s m args below meth c T locs cells slots) (hx : p.tables.exec = Jvm.exec) (hZ : Z.Warmed39 s.vm) {own : String} {index : Nat} (v : Int32) (hown : s.vm.findClass own = some m.cls) (w : (Cond.constant own index v).before a0 Z = true) (hd : decode c.code pc = .ok (.ldc index, 2)) (hn : pc + 2 = n) (K : Ends p.tables e below Q F (T.setTop (mkF m n Ls (.int v :: st)))) : Ends p.tables e below Q F (T.setTop (mkF m pc Ls (st))) := by
  subst hn; exact K.step fun t k => X.ldcInt hx hown (mvT hZ w) (g := mkF m pc Ls st) rfl hd _ k
theorem ldcwInt (n : Nat) (X : Stand p l e R s m args below meth c T locs cells slots) (hx : p.tables.exec = Jvm.exec) (hZ : Z.Warmed39 s.vm) {own : String} {index : Nat} (v : Int32) (hown : s.vm.findClass own = some m.cls) (w : (Cond.constant own index v).before a0 Z = true) (hd : decode c.code pc = .ok (.ldc_w index, 3)) (hn : pc + 3 = n) (K : Ends p.tables e below Q F (T.setTop (mkF m n Ls (.int v :: st)))) : Ends p.tables e below Q F (T.setTop (mkF m pc Ls (st))) := by
  subst hn; exact K.step fun t k => X.ldcwInt hx hown (mvT hZ w) (g := mkF m pc Ls st) rfl hd _ k
theorem ldc2Long (n : Nat) (X : Stand p l e R s m args below meth c T locs cells slots) (hx : p.tables.exec = Jvm.exec) (hZ : Z.Warmed39 s.vm) {own : String} {index : Nat} (v : Int64) (hown : s.vm.findClass own = some m.cls) (w : (Cond.constantLong own index v).before a0 Z = true) (hd : decode c.code pc = .ok (.ldc2_w index, 3)) (hn : pc + 3 = n) (K : Ends p.tables e below Q F (T.setTop (mkF m n Ls (.long v :: st)))) : Ends p.tables e below Q F (T.setTop (mkF m pc Ls (st))) := by
  subst hn; exact K.step fun t k => X.ldc2Long hx hown (mvT hZ w) (g := mkF m pc Ls st) rfl hd _ k
theorem getFld (n : Nat) (X : Stand p l e R s m args below meth c T locs cells slots) (hx : p.tables.exec = Jvm.exec) (hZ : Z.Warmed39 s.vm) {own R0 O nm d host : String} {index : Nat} (hown : s.vm.findClass own = some m.cls) (w : (Cond.fieldLink own index R0 nm d).before a0 Z = true ∨ (Cond.fieldLinkNest own index R0 nm d host).before a0 Z = true) (via : Via Z R0 O nm d) (eT : T.heap = h) {a : Addr} {v : Value} (Fd : Fld Z h a O nm d v) {rest : List Value} (hd : decode c.code pc = .ok (.getfield index, 3)) (hn : pc + 3 = n) (K : ∀ T', Stand p l e R s m args below meth c T' locs cells slots → T'.heap = h → Ends p.tables e below Q F (T'.setTop (mkF m n Ls (v :: rest)))) : Ends p.tables e below Q F (T.setTop (mkF m pc Ls (.ref a :: rest))) := by
  subst hn
  obtain ⟨T1, X1, e1, st1⟩ := getF X hx hZ hown w via eT Fd (g := mkF m pc Ls (.ref a :: rest)) rfl rfl hd
  exact (K T1 X1 e1).step st1
theorem getSta (n : Nat) (X : Stand p l e R s m args below meth c T locs cells slots) (hx : p.tables.exec = Jvm.exec) (hZ : Z.Warmed39 s.vm) {own R0 O nm d host : String} {index : Nat} (hown : s.vm.findClass own = some m.cls) (w : (Cond.fieldLink own index R0 nm d).before a0 Z = true ∨ (Cond.fieldLinkNest own index R0 nm d host).before a0 Z = true) (via : Via Z R0 O nm d) (eT : T.heap = h) {v : Value} (Fd : Sta Z h O nm d v) (hd : decode c.code pc = .ok (.getstatic index, 3)) (hn : pc + 3 = n) (K : ∀ T', Stand p l e R s m args below meth c T' locs cells slots → T'.heap = h → Ends p.tables e below Q F (T'.setTop (mkF m n Ls (v :: st)))) : Ends p.tables e below Q F (T.setTop (mkF m pc Ls (st))) := by
  subst hn
  obtain ⟨T1, X1, e1, st1⟩ := getS2 X hx hZ hown w via eT Fd (g := mkF m pc Ls st) rfl hd
  exact (K T1 X1 e1).step st1
theorem putFld (n : Nat) (X : Stand p l e R s m args below meth c T locs cells slots) (hx : p.tables.exec = Jvm.exec) (hZ : Z.Warmed39 s.vm) {own R0 O nm d host CC : String} {index kk : Nat} {ty : FieldType} (hown : s.vm.findClass own = some m.cls) (w : (Cond.fieldLink own index R0 nm d).before a0 Z = true ∨ (Cond.fieldLinkNest own index R0 nm d host).before a0 Z = true) (via : Via Z R0 O nm d) (eT : T.heap = h) {a : Addr} {v old : Value} (Fd : Fld Z h a O nm d old) (E : Exa Z h a CC) (L : (Cond.lays CC O nm d).before a0 Z = true ∨ ((Cond.laysFinal CC O nm d).before a0 Z = true ∧ own = O ∧ meth.name = "<init>")) (wi : (Cond.instantiable CC kk).before a0 Z = true) (hty : parseFieldDescriptor d = some ty) (hnw : narrow ty v = v) (hf : fits ty v = true) {rest : List Value} (hd : decode c.code pc = .ok (.putfield index, 3)) (hn : pc + 3 = n) (K : ∀ T' h', Stand p l e R s m args below meth c T' (locs ++ [⟨a, Jvm.RoadKit.slotOf Z O nm d⟩]) cells slots → T'.heap = h' → Wr h h' a (Jvm.RoadKit.slotOf Z O nm d) v → Ends p.tables e below Q F (T'.setTop (mkF m n Ls (rest)))) : Ends p.tables e below Q F (T.setTop (mkF m pc Ls (v :: .ref a :: rest))) := by
  subst hn
  obtain ⟨T1, h1, X1, e1, W1, st1⟩ := putF X hx hZ hown w via eT Fd E L wi hty hnw hf (g := mkF m pc Ls (v :: .ref a :: rest)) rfl rfl hd
  exact (K T1 h1 X1 e1 W1).step st1
theorem newObj (n : Nat) (X : Stand p l e R s m args below meth c T locs cells slots) (hx : p.tables.exec = Jvm.exec) (hZ : Z.Warmed39 s.vm) {own CC : String} {index sz : Nat} (hown : s.vm.findClass own = some m.cls) (w : (Cond.classLink own index CC).before a0 Z = true) (wi : (Cond.instantiable CC sz).before a0 Z = true) (wz : (Cond.initialized CC).before a0 Z = true) (eT : T.heap = h) (hd : decode c.code pc = .ok (.new index, 3)) (hn : pc + 3 = n) (hc : cells + 1 ≤ R.cells) (hl : slots + sz ≤ R.slots) (K : ∀ T' h' a, a = h.size → Stand p l e R s m args below meth c T' locs (cells + 1) (slots + sz) → T'.heap = h' → Ext h h' → Exa Z h' a CC → (∀ {O nm d : String} {ty : FieldType}, Laid Z a0 CC O nm d → parseFieldDescriptor d = some ty → Fld Z h' a O nm d (defaultValue ty)) → Ends p.tables e below Q F (T'.setTop (mkF m n Ls (.ref a :: st)))) : Ends p.tables e below Q F (T.setTop (mkF m pc Ls (st))) := by
  subst hn
  obtain ⟨T1, h1, X1, e1, E1, A1, D1, -, st1⟩ := newO X hx hZ hown w wi wz eT (g := mkF m pc Ls st) rfl hd hc hl
  exact (K T1 h1 _ rfl X1 e1 E1 A1 (fun L q => D1 L q)).step st1
theorem initObj (n W : Nat) (X : Stand p l e R s m args below meth c T locs cells slots) (hx : p.tables.exec = Jvm.exec) (hZ : Z.Warmed39 s.vm) {own : String} {index : Nat} (hown : s.vm.findClass own = some m.cls) (w1 : (Cond.methodLink own index Lib.objectInit).before a0 Z = true) (w2 : (Cond.instanceMethod Lib.objectInit).before a0 Z = true) (w3 : (Cond.code Lib.objectInit ⟨#[0xb1]⟩ 1 none).before a0 Z = true) (eT : T.heap = h) {a : Addr} {rest : List Value} (hsz : Ls.size = c.maxLocals) (hd : decode c.code pc = .ok (.invokespecial index, 3)) (hn : pc + 3 = n) (hf : 1 ≤ R.frames) (hW : (rest.map fun v => v.category).sum ≤ W) (hl : W + 12 ≤ R.locals) (K : ∀ T', Stand p l e R s m args below meth c T' locs cells slots → T'.heap = h → Ends p.tables e below Q F (T'.setTop (mkF m n Ls (rest)))) : Ends p.tables e below Q F (T.setTop (mkF m pc Ls (.ref a :: rest))) := by
  subst hn
  obtain ⟨T1, X1, e1, st1⟩ := initO X hx hZ hown w1 w2 w3 eT (g := mkF m pc Ls (.ref a :: rest)) rfl hsz rfl hd hf (W := W) (by show 2 * 0 + _ ≤ _; omega) hl
  exact (K T1 X1 e1).step st1
/-- the contract of a body: entered with these arguments at this heap it returns, and what it leaves answers to QQ -/
def Met (l : Launch) (Z : State) (y : MethodName) (bytes : ByteArray) (maxL : Nat) (ret : Option FieldType) (ws : List Cond) (rm : Room) (as : Array Value) (h : Heap) (QQ : Option Value → Heap → List Loc → Prop) : Prop :=
  MetFree l y (head1 (Cond.code y bytes maxL ret :: ws) rm) (fun a U => a = as ∧ Z.Warmed39 U.vm ∧ U.heap = h) (fun _ _ _ _ _ => True) (fun _ U o U' => ∃ v L, o = .returned v ∧ QQ v U'.heap L ∧ FrameEnd U o U' L rm.cells rm.slots)
theorem Met.of {y : MethodName} {bytes : ByteArray} {maxL : Nat} {ret : Option FieldType} {ws : List Cond} {rm : Room} {as : Array Value} {QQ : Option Value → Heap → List Loc → Prop} (hp : plainFor y = true)
    (body : ∀ (p : Program) (e : Env) (s : State) (m : MethodId) (below : List Frame) (meth : Method) (c : Code) (T : State), p.tables.exec = Jvm.exec → c.code = bytes → c.maxLocals = maxL → s.vm.findClass y.cls = some m.cls → meth.name = y.name → meth.sig.returnType = ret → meth.locks = false → Z.Warmed39 s.vm → Stand p l e rm s m as below meth c T [] 0 0 → T.heap = h → Ends p.tables e below QQ (FE s rm.cells rm.slots) (T.setTop (entryFrame m as maxL))) :
    Met l Z y bytes maxL ret ws rm as h QQ := by
  refine MetFree.of_bodySF hp hisR ?_
  intro p e s m args below meth c s₁ Bd hml0 hP hK
  obtain ⟨rfl, hZ, hh⟩ := hP
  exact body p e s m below meth c s₁ Bd.exec Bd.bytes hml0 (findClass_of_methodNamed Bd.named) (name_of_methodNamed Bd.named Bd.method).1 Bd.returns Bd.notSynchronized hZ (Stand.of_body Bd) (by rw [← hh, Bd.state]; rfl)
theorem callSt (n W : Nat) (argsL rest : List Value) (X : Stand p l e R s m args below meth c T locs cells slots) (hx : p.tables.exec = Jvm.exec) (hZ : Z.Warmed39 s.vm) {own : String} {index : Nat} {y : MethodName} {bytes : ByteArray} {maxL : Nat} {ret : Option FieldType} {rm : Room} {QQ : Option Value → Heap → List Loc → Prop} (hown : s.vm.findClass own = some m.cls) (hM : Met l Z y bytes maxL ret [] rm argsL.toArray h QQ) (wl : (Cond.methodLink own index y).before a0 Z = true) (ws : (Cond.static y).before a0 Z = true) (wi : (Cond.initialized y.cls).before a0 Z = true) (wc : (Cond.code y bytes maxL ret).before a0 Z = true) (hy : y.cls ≠ "java/lang/invoke/MethodHandle" ∧ y.cls ≠ "java/lang/invoke/VarHandle") (eT : T.heap = h) (hfr : rm.frames + 1 ≤ R.frames) (hlc : W + (maxL + 11) + rm.locals ≤ R.locals) (hc : cells + rm.cells ≤ R.cells) (hs : slots + rm.slots ≤ R.slots) (hsz : Ls.size = c.maxLocals) (hlen : ∀ sig, parseMethodDescriptor y.desc = some sig → argsL.length = sig.parameters.length) (hst : st = argsL.reverse ++ rest) (hW : (rest.map fun v => v.category).sum ≤ W) (hd : decode c.code pc = .ok (.invokestatic index, 3)) (hn : pc + 3 = n) (K : ∀ v T' L', Stand p l e R s m args below meth c T' (locs ++ L') (cells + rm.cells) (slots + rm.slots) → QQ v T'.heap L' → Ends p.tables e below Q F (T'.setTop (mkF m n Ls (v.toList ++ rest)))) : Ends p.tables e below Q F (T.setTop (mkF m pc Ls (st))) := by
  subst hn
  obtain ⟨v, vm1, ⟨T1, L1, k1, n1⟩, -, X1, ⟨Lc, hQ, l1, y1, z1⟩, st1⟩ := Jvm.LawKit.callS X hx (y := y) hown (mvT hZ wl) (mvT hZ ws) (mvT hZ wi) (mvT hZ wc) hy (backOf (W := W) hM hZ wc wi hfr hlc) (g := mkF m pc Ls st) rfl hsz (argsL := argsL) (rest := rest) hlen hst (by show 2 * 0 + _ ≤ _; omega) hd (fun _ _ => ⟨rfl, eT, hc, hs⟩)
  dsimp only [Pt.U, Pt.locs, Pt.cells, Pt.slots] at X1 l1 y1 z1 st1 hQ
  subst l1 y1 z1
  exact (K v T1 Lc X1 hQ).step st1
theorem callInit (n W : Nat) (a : Addr) (argsL rest : List Value) (X : Stand p l e R s m args below meth c T locs cells slots) (hx : p.tables.exec = Jvm.exec) (hZ : Z.Warmed39 s.vm) {own : String} {index : Nat} {y : MethodName} {bytes : ByteArray} {maxL : Nat} {rm : Room} {QQ : Option Value → Heap → List Loc → Prop} (hown : s.vm.findClass own = some m.cls) (hM : Met l Z y bytes maxL none [] rm (.ref a :: argsL).toArray h QQ) (hy1 : y.name = "<init>") (wl : (Cond.methodLink own index y).before a0 Z = true) (ws : (Cond.instanceMethod y).before a0 Z = true) (wi : (Cond.initialized y.cls).before a0 Z = true) (wc : (Cond.code y bytes maxL none).before a0 Z = true) (hy : y.cls ≠ "java/lang/invoke/MethodHandle" ∧ y.cls ≠ "java/lang/invoke/VarHandle") (eT : T.heap = h) (hfr : rm.frames + 1 ≤ R.frames) (hlc : W + (maxL + 11) + rm.locals ≤ R.locals) (hc : cells + rm.cells ≤ R.cells) (hs : slots + rm.slots ≤ R.slots) (hsz : Ls.size = c.maxLocals) (hlen : ∀ sig, parseMethodDescriptor y.desc = some sig → argsL.length = sig.parameters.length) (hst : st = argsL.reverse ++ .ref a :: rest) (hW : (rest.map fun v => v.category).sum ≤ W) (hd : decode c.code pc = .ok (.invokespecial index, 3)) (hn : pc + 3 = n) (K : ∀ v T' L', Stand p l e R s m args below meth c T' (locs ++ L') (cells + rm.cells) (slots + rm.slots) → QQ v T'.heap L' → Ends p.tables e below Q F (T'.setTop (mkF m n Ls (v.toList ++ rest)))) : Ends p.tables e below Q F (T.setTop (mkF m pc Ls (st))) := by
  subst hn
  obtain ⟨v, vm1, ⟨T1, L1, k1, n1⟩, -, X1, ⟨Lc, hQ, l1, y1, z1⟩, st1⟩ := X.specialBack hx (y := y) hy1 hown (mvT hZ wl) (mvT hZ ws) (mvT hZ wc) hy (backOf (W := W) hM hZ wc wi hfr hlc) (g := mkF m pc Ls st) rfl hsz (Steps.refl _) (a := a) (argsL := argsL) (rest := rest) hlen hst (by show 2 * 0 + _ ≤ _; omega) hd (fun _ _ => ⟨rfl, eT, hc, hs⟩)
  dsimp only [Pt.U, Pt.locs, Pt.cells, Pt.slots] at X1 l1 y1 z1 st1 hQ
  subst l1 y1 z1
  exact (K v T1 Lc X1 hQ).step fun t k => st1.trans k
theorem callVt (n W : Nat) (a : Addr) (argsL rest : List Value) (X : Stand p l e R s m args below meth c T locs cells slots) (hx : p.tables.exec = Jvm.exec) (hZ : Z.Warmed39 s.vm) {own CC : String} {index : Nat} {y z : MethodName} {bytes : ByteArray} {maxL : Nat} {ret : Option FieldType} {rm : Room} {QQ : Option Value → Heap → List Loc → Prop} (hown : s.vm.findClass own = some m.cls) (hM : Met l Z z bytes maxL ret [] rm (.ref a :: argsL).toArray h QQ) (E : Exa Z h a CC) (hnf : NotFace s y) (wl : (Cond.methodLink own index y).before a0 Z = true) (wd : (Cond.declares y).before a0 Z = true) (wsel : (Cond.selects CC y z).before a0 Z = true) (ws : (Cond.instanceMethod z).before a0 Z = true) (wi : (Cond.initialized z.cls).before a0 Z = true) (wc : (Cond.code z bytes maxL ret).before a0 Z = true) (hy : y.cls ≠ "java/lang/invoke/MethodHandle" ∧ y.cls ≠ "java/lang/invoke/VarHandle") (eT : T.heap = h) (hfr : rm.frames + 1 ≤ R.frames) (hlc : W + (maxL + 11) + rm.locals ≤ R.locals) (hc : cells + rm.cells ≤ R.cells) (hs : slots + rm.slots ≤ R.slots) (hsz : Ls.size = c.maxLocals) (hlen : ∀ sig, parseMethodDescriptor y.desc = some sig → argsL.length = sig.parameters.length) (hst : st = argsL.reverse ++ .ref a :: rest) (hW : (rest.map fun v => v.category).sum ≤ W) (hd : decode c.code pc = .ok (.invokevirtual index, 3)) (hn : pc + 3 = n) (K : ∀ v T' L', Stand p l e R s m args below meth c T' (locs ++ L') (cells + rm.cells) (slots + rm.slots) → QQ v T'.heap L' → Ends p.tables e below Q F (T'.setTop (mkF m n Ls (v.toList ++ rest)))) : Ends p.tables e below Q F (T.setTop (mkF m pc Ls (st))) := by
  subst hn
  obtain ⟨cq, kq, qa, qb, qc⟩ := isOf hZ eT E
  obtain ⟨v, vm1, ⟨T1, L1, k1, n1⟩, -, X1, ⟨Lc, hQ, l1, y1, z1⟩, st1⟩ := X.virtualBack hx (y := y) (z := z) hown (mvT hZ wl) (mvT hZ wd) hnf (mvT hZ wsel) (mvT hZ ws) hy (backOf (W := W) hM hZ wc wi hfr hlc) qa qc (g := mkF m pc Ls st) rfl hsz (Steps.refl _) (argsL := argsL) (rest := rest) hlen hst (by show 2 * 0 + _ ≤ _; omega) hd (fun _ _ => ⟨rfl, eT, hc, hs⟩)
  dsimp only [Pt.U, Pt.locs, Pt.cells, Pt.slots] at X1 l1 y1 z1 st1 hQ
  subst l1 y1 z1
  exact (K v T1 Lc X1 hQ).step fun t k => st1.trans k
theorem callPr (n W : Nat) (a : Addr) (argsL rest : List Value) (X : Stand p l e R s m args below meth c T locs cells slots) (hx : p.tables.exec = Jvm.exec) (hZ : Z.Warmed39 s.vm) {own CC : String} {index : Nat} {y : MethodName} {bytes : ByteArray} {maxL : Nat} {ret : Option FieldType} {rm : Room} {QQ : Option Value → Heap → List Loc → Prop} (hown : s.vm.findClass own = some m.cls) (hM : Met l Z y bytes maxL ret [] rm (.ref a :: argsL).toArray h QQ) (E : Exa Z h a CC) (wl : (Cond.methodLink own index y).before a0 Z = true) (wp : (Cond.privateMethod y).before a0 Z = true) {kk : Nat} (wk : (Cond.instantiable y.cls kk).before a0 Z = true) (ws : (Cond.instanceMethod y).before a0 Z = true) (wi : (Cond.initialized y.cls).before a0 Z = true) (wc : (Cond.code y bytes maxL ret).before a0 Z = true) (hy : y.cls ≠ "java/lang/invoke/MethodHandle" ∧ y.cls ≠ "java/lang/invoke/VarHandle") (eT : T.heap = h) (hfr : rm.frames + 1 ≤ R.frames) (hlc : W + (maxL + 11) + rm.locals ≤ R.locals) (hc : cells + rm.cells ≤ R.cells) (hs : slots + rm.slots ≤ R.slots) (hsz : Ls.size = c.maxLocals) (hlen : ∀ sig, parseMethodDescriptor y.desc = some sig → argsL.length = sig.parameters.length) (hst : st = argsL.reverse ++ .ref a :: rest) (hW : (rest.map fun v => v.category).sum ≤ W) (hd : decode c.code pc = .ok (.invokevirtual index, 3)) (hn : pc + 3 = n) (K : ∀ v T' L', Stand p l e R s m args below meth c T' (locs ++ L') (cells + rm.cells) (slots + rm.slots) → QQ v T'.heap L' → Ends p.tables e below Q F (T'.setTop (mkF m n Ls (v.toList ++ rest)))) : Ends p.tables e below Q F (T.setTop (mkF m pc Ls (st))) := by
  subst hn
  obtain ⟨cq, qa, qb⟩ := E.cell
  obtain ⟨cI, kI, i1, i2, -, i4, -⟩ := Cond.instantiable_spec (mvT (args := args) hZ wk)
  obtain ⟨v, vm1, ⟨T1, L1, k1, n1⟩, -, X1, ⟨Lc, hQ, l1, y1, z1⟩, st1⟩ := X.privateBack hx (y := y) hown (mvT hZ wl) (mvT hZ ws) (selects_self_of_private i1 i2 (by simpa using (Bool.or_eq_false_iff.mp i4).1) (Cond.privateMethod_at (mvP hZ wp (args := #[]))) (mvT hZ ws) hy) (Cond.privateMethod_at (mvP hZ wp (args := #[]))) (mvT hZ wc) hy (backOf (W := W) hM hZ wc wi hfr hlc) (g := mkF m pc Ls st) rfl hsz (Steps.refl _) (a := a) (by rw [eT]; exact qa) qb (argsL := argsL) (rest := rest) hlen hst (by show 2 * 0 + _ ≤ _; omega) hd (fun _ _ => ⟨rfl, eT, hc, hs⟩)
  dsimp only [Pt.U, Pt.locs, Pt.cells, Pt.slots] at X1 l1 y1 z1 st1 hQ
  subst l1 y1 z1
  exact (K v T1 Lc X1 hQ).step fun t k => st1.trans k
theorem arrLen (n : Nat) (X : Stand p l e R s m args below meth c T locs cells slots) (hx : p.tables.exec = Jvm.exec) (hZ : Z.Warmed39 s.vm) (eT : T.heap = h) {a : Addr} {k : ClassId} {ty : FieldType} {z : Int32} {vs : List Value} {dv : Value} {rest : List Value} (A : Arv Z h a k ty z vs dv) (hd : decode c.code pc = .ok (.arraylength, 1)) (hn : pc + 1 = n) (K : Ends p.tables e below Q F (T.setTop (mkF m n Ls (.int z :: rest)))) : Ends p.tables e below Q F (T.setTop (mkF m pc Ls (.ref a :: rest))) := by
  subst hn
  obtain ⟨cl, Ar, -, Sz, Nz, -, -⟩ := A
  refine K.step fun t kk => X.arraylength hx (by rw [eT]; exact Ar.1) (State.isArrayOf_alike hZ.alike Ar.2.1) (g := mkF m pc Ls (.ref a :: rest)) rfl rfl hd _ ?_
  rw [len_of Sz Nz]; exact kk
theorem iaload (n : Nat) (X : Stand p l e R s m args below meth c T locs cells slots) (hx : p.tables.exec = Jvm.exec) (hZ : Z.Warmed39 s.vm) (eT : T.heap = h) {a : Addr} {k : ClassId} {z j : Int32} (v : Int32) {vs : List Value} {dv : Value} {rest : List Value} (A : Arv Z h a k .int z vs dv) (hj : ¬ j < 0 ∧ j < z) (hv : vs.getD j.toNatClampNeg dv = .int v) (hd : decode c.code pc = .ok (.iaload, 1)) (hn : pc + 1 = n) (K : Ends p.tables e below Q F (T.setTop (mkF m n Ls (.int v :: rest)))) : Ends p.tables e below Q F (T.setTop (mkF m pc Ls (.int j :: .ref a :: rest))) := by
  subst hn
  obtain ⟨cl, Ar, -, Sz, Nz, Hs, -⟩ := A
  have hin := inb_of Sz hj
  exact K.step fun t kk => X.iaload hx (j := j) (v := .int v) (by rw [eT]; exact Ar.1) (State.isArrayOf_alike hZ.alike Ar.2.1) Ar.2.2 hin (Hs.at hin hv) (g := mkF m pc Ls (.int j :: .ref a :: rest)) rfl rfl hd _ kk
theorem laload (n : Nat) (X : Stand p l e R s m args below meth c T locs cells slots) (hx : p.tables.exec = Jvm.exec) (hZ : Z.Warmed39 s.vm) (eT : T.heap = h) {a : Addr} {k : ClassId} {z j : Int32} (v : Int64) {vs : List Value} {dv : Value} {rest : List Value} (A : Arv Z h a k .long z vs dv) (hj : ¬ j < 0 ∧ j < z) (hv : vs.getD j.toNatClampNeg dv = .long v) (hd : decode c.code pc = .ok (.laload, 1)) (hn : pc + 1 = n) (K : Ends p.tables e below Q F (T.setTop (mkF m n Ls (.long v :: rest)))) : Ends p.tables e below Q F (T.setTop (mkF m pc Ls (.int j :: .ref a :: rest))) := by
  subst hn
  obtain ⟨cl, Ar, -, Sz, Nz, Hs, -⟩ := A
  have hin := inb_of Sz hj
  exact K.step fun t kk => X.laload hx (j := j) (v := .long v) (by rw [eT]; exact Ar.1) (State.isArrayOf_alike hZ.alike Ar.2.1) Ar.2.2 hin (Hs.at hin hv) (g := mkF m pc Ls (.int j :: .ref a :: rest)) rfl rfl hd _ kk
theorem baload (n : Nat) (X : Stand p l e R s m args below meth c T locs cells slots) (hx : p.tables.exec = Jvm.exec) (hZ : Z.Warmed39 s.vm) (eT : T.heap = h) {a : Addr} {k : ClassId} {z j : Int32} (v : Int32) {vs : List Value} {dv : Value} {rest : List Value} (A : Arv Z h a k .byte z vs dv) (hj : ¬ j < 0 ∧ j < z) (hv : vs.getD j.toNatClampNeg dv = .int v) (hd : decode c.code pc = .ok (.baload, 1)) (hn : pc + 1 = n) (K : Ends p.tables e below Q F (T.setTop (mkF m n Ls (.int v :: rest)))) : Ends p.tables e below Q F (T.setTop (mkF m pc Ls (.int j :: .ref a :: rest))) := by
  subst hn
  obtain ⟨cl, Ar, -, Sz, Nz, Hs, -⟩ := A
  have hin := inb_of Sz hj
  exact K.step fun t kk => X.baloadBytes hx (j := j) (v := .int v) (by rw [eT]; exact Ar.1) (State.isArrayOf_alike hZ.alike Ar.2.1) Ar.2.2 hin (Hs.at hin hv) (g := mkF m pc Ls (.int j :: .ref a :: rest)) rfl rfl hd _ kk
theorem caload (n : Nat) (X : Stand p l e R s m args below meth c T locs cells slots) (hx : p.tables.exec = Jvm.exec) (hZ : Z.Warmed39 s.vm) (eT : T.heap = h) {a : Addr} {k : ClassId} {z j : Int32} (v : Int32) {vs : List Value} {dv : Value} {rest : List Value} (A : Arv Z h a k .char z vs dv) (hj : ¬ j < 0 ∧ j < z) (hv : vs.getD j.toNatClampNeg dv = .int v) (hd : decode c.code pc = .ok (.caload, 1)) (hn : pc + 1 = n) (K : Ends p.tables e below Q F (T.setTop (mkF m n Ls (.int v :: rest)))) : Ends p.tables e below Q F (T.setTop (mkF m pc Ls (.int j :: .ref a :: rest))) := by
  subst hn
  obtain ⟨cl, Ar, -, Sz, Nz, Hs, -⟩ := A
  have hin := inb_of Sz hj
  exact K.step fun t kk => X.caload hx (j := j) (v := .int v) (by rw [eT]; exact Ar.1) (State.isArrayOf_alike hZ.alike Ar.2.1) Ar.2.2 hin (Hs.at hin hv) (g := mkF m pc Ls (.int j :: .ref a :: rest)) rfl rfl hd _ kk
theorem aaload (n : Nat) (X : Stand p l e R s m args below meth c T locs cells slots) (hx : p.tables.exec = Jvm.exec) (hZ : Z.Warmed39 s.vm) (eT : T.heap = h) {a : Addr} {k : ClassId} {z j : Int32} {ty : FieldType} (v : Value) {vs : List Value} {dv : Value} {rest : List Value} (A : Arv Z h a k ty z vs dv) (hty : ty.isReference = true) (hj : ¬ j < 0 ∧ j < z) (hv : vs.getD j.toNatClampNeg dv = v) (hd : decode c.code pc = .ok (.aaload, 1)) (hn : pc + 1 = n) (K : Ends p.tables e below Q F (T.setTop (mkF m n Ls (v :: rest)))) : Ends p.tables e below Q F (T.setTop (mkF m pc Ls (.int j :: .ref a :: rest))) := by
  subst hn
  obtain ⟨cl, Ar, -, Sz, Nz, Hs, -⟩ := A
  have hin := inb_of Sz hj
  exact K.step fun t kk => X.aaload hx (j := j) (v := v) (by rw [eT]; exact Ar.1) (State.isArrayOf_alike hZ.alike Ar.2.1) hty Ar.2.2 hin (Hs.at hin hv) (g := mkF m pc Ls (.int j :: .ref a :: rest)) rfl rfl hd _ kk
theorem iastore (n : Nat) (X : Stand p l e R s m args below meth c T locs cells slots) (hx : p.tables.exec = Jvm.exec) (hZ : Z.Warmed39 s.vm) (eT : T.heap = h) {a : Addr} {k : ClassId} {z j : Int32} {x : Int32} {vs : List Value} {dv : Value} {rest : List Value} (A : Arv Z h a k .int z vs dv) (hj : ¬ j < 0 ∧ j < z) (hlen : j.toNatClampNeg < vs.length) (hd : decode c.code pc = .ok (.iastore, 1)) (hn : pc + 1 = n) (K : ∀ T' h', Stand p l e R s m args below meth c T' (locs ++ [⟨a, j.toNatClampNeg⟩]) cells slots → T'.heap = h' → Wr h h' a j.toNatClampNeg (.int x) → Arv Z h' a k .int z (vs.set j.toNatClampNeg (.int x)) dv → Ends p.tables e below Q F (T'.setTop (mkF m n Ls (rest)))) : Ends p.tables e below Q F (T.setTop (mkF m pc Ls (.int x :: .int j :: .ref a :: rest))) := by
  subst hn
  obtain ⟨cl, Ar, q1, Sz, Nz, Hs, Gs⟩ := A
  obtain ⟨T1, h1, X1, e1, W1, st1⟩ := stI X hx hZ eT Ar (j := j) (inb_of Sz hj) (g := mkF m pc Ls (.int x :: .int j :: .ref a :: rest)) rfl rfl hd
  exact (K T1 h1 X1 e1 W1 (Arv.set Ar q1 Sz Nz Hs Gs rfl W1 _ rfl hlen)).step st1
theorem lastore (n : Nat) (X : Stand p l e R s m args below meth c T locs cells slots) (hx : p.tables.exec = Jvm.exec) (hZ : Z.Warmed39 s.vm) (eT : T.heap = h) {a : Addr} {k : ClassId} {z j : Int32} {x : Int64} {vs : List Value} {dv : Value} {rest : List Value} (A : Arv Z h a k .long z vs dv) (hj : ¬ j < 0 ∧ j < z) (hlen : j.toNatClampNeg < vs.length) (hd : decode c.code pc = .ok (.lastore, 1)) (hn : pc + 1 = n) (K : ∀ T' h', Stand p l e R s m args below meth c T' (locs ++ [⟨a, j.toNatClampNeg⟩]) cells slots → T'.heap = h' → Wr h h' a j.toNatClampNeg (.long x) → Arv Z h' a k .long z (vs.set j.toNatClampNeg (.long x)) dv → Ends p.tables e below Q F (T'.setTop (mkF m n Ls (rest)))) : Ends p.tables e below Q F (T.setTop (mkF m pc Ls (.long x :: .int j :: .ref a :: rest))) := by
  subst hn
  obtain ⟨cl, Ar, q1, Sz, Nz, Hs, Gs⟩ := A
  obtain ⟨T1, h1, X1, e1, W1, st1⟩ := stJ X hx hZ eT Ar (j := j) (inb_of Sz hj) (g := mkF m pc Ls (.long x :: .int j :: .ref a :: rest)) rfl rfl hd
  exact (K T1 h1 X1 e1 W1 (Arv.set Ar q1 Sz Nz Hs Gs rfl W1 _ rfl hlen)).step st1
theorem bastore (n : Nat) (X : Stand p l e R s m args below meth c T locs cells slots) (hx : p.tables.exec = Jvm.exec) (hZ : Z.Warmed39 s.vm) (eT : T.heap = h) {a : Addr} {k : ClassId} {z j : Int32} {x : Int32} {vs : List Value} {dv : Value} {rest : List Value} (A : Arv Z h a k .byte z vs dv) (hj : ¬ j < 0 ∧ j < z) (hlen : j.toNatClampNeg < vs.length) (hd : decode c.code pc = .ok (.bastore, 1)) (hn : pc + 1 = n) (K : ∀ T' h', Stand p l e R s m args below meth c T' (locs ++ [⟨a, j.toNatClampNeg⟩]) cells slots → T'.heap = h' → Wr h h' a j.toNatClampNeg (.int x.toInt8.toInt32) → Arv Z h' a k .byte z (vs.set j.toNatClampNeg (.int x.toInt8.toInt32)) dv → Ends p.tables e below Q F (T'.setTop (mkF m n Ls (rest)))) : Ends p.tables e below Q F (T.setTop (mkF m pc Ls (.int x :: .int j :: .ref a :: rest))) := by
  subst hn
  obtain ⟨cl, Ar, q1, Sz, Nz, Hs, Gs⟩ := A
  obtain ⟨T1, h1, X1, e1, W1, st1⟩ := stB X hx hZ eT Ar (j := j) (inb_of Sz hj) (g := mkF m pc Ls (.int x :: .int j :: .ref a :: rest)) rfl rfl hd
  exact (K T1 h1 X1 e1 W1 (Arv.set Ar q1 Sz Nz Hs Gs (fits_nar_byte _) W1 _ rfl hlen)).step st1
theorem castore (n : Nat) (X : Stand p l e R s m args below meth c T locs cells slots) (hx : p.tables.exec = Jvm.exec) (hZ : Z.Warmed39 s.vm) (eT : T.heap = h) {a : Addr} {k : ClassId} {z j : Int32} {x : Int32} {vs : List Value} {dv : Value} {rest : List Value} (A : Arv Z h a k .char z vs dv) (hj : ¬ j < 0 ∧ j < z) (hlen : j.toNatClampNeg < vs.length) (hd : decode c.code pc = .ok (.castore, 1)) (hn : pc + 1 = n) (K : ∀ T' h', Stand p l e R s m args below meth c T' (locs ++ [⟨a, j.toNatClampNeg⟩]) cells slots → T'.heap = h' → Wr h h' a j.toNatClampNeg (.int (nar .char x)) → Arv Z h' a k .char z (vs.set j.toNatClampNeg (.int (nar .char x))) dv → Ends p.tables e below Q F (T'.setTop (mkF m n Ls (rest)))) : Ends p.tables e below Q F (T.setTop (mkF m pc Ls (.int x :: .int j :: .ref a :: rest))) := by
  subst hn
  obtain ⟨cl, Ar, q1, Sz, Nz, Hs, Gs⟩ := A
  obtain ⟨T1, h1, X1, e1, W1, st1⟩ := stC X hx hZ eT Ar (j := j) (inb_of Sz hj) (g := mkF m pc Ls (.int x :: .int j :: .ref a :: rest)) rfl rfl hd
  exact (K T1 h1 X1 e1 W1 (Arv.set Ar q1 Sz Nz Hs Gs (fits_nar_char _) W1 _ rfl hlen)).step st1
theorem newArr (n cap : Nat) (X : Stand p l e R s m args below meth c T locs cells slots) (hx : p.tables.exec = Jvm.exec) (hZ : Z.Warmed39 s.vm) {aty : ArrayType} (w : (Cond.arrayClass (newarray.typeOf aty)).before a0 Z = true) (eT : T.heap = h) {z : Int32} {rest : List Value} (hz : ¬ z < 0) (hcap : z.toNatClampNeg ≤ cap) (hb : cap * 8 ≤ 536870912) (hd : decode c.code pc = .ok (.newarray aty, 2)) (hn : pc + 2 = n) (hc : cells + 1 ≤ R.cells) (hl : slots + cap ≤ R.slots) (K : ∀ T' h' a k, a = h.size → Stand p l e R s m args below meth c T' locs (cells + 1) (slots + cap) → T'.heap = h' → Ext h h' → Arv Z h' a k (newarray.typeOf aty) z (List.replicate z.toNatClampNeg (defaultValue (newarray.typeOf aty))) (defaultValue (newarray.typeOf aty)) → Ends p.tables e below Q F (T'.setTop (mkF m n Ls (.ref a :: rest)))) : Ends p.tables e below Q F (T.setTop (mkF m pc Ls (.int z :: rest))) := by
  subst hn
  obtain ⟨T1, h1, k1, X1, e1, E1, A1, st1⟩ := newP X hx hZ w eT (g := mkF m pc Ls (.int z :: rest)) rfl hd rfl hz (cap := cap) hcap hb hc hl
  exact (K T1 h1 _ k1 rfl X1 e1 E1 ((Arv.new A1 hz).pad (pad_rep [] _ _))).step st1
theorem arrCopy (n W : Nat) (X : Stand p l e R s m args below meth c T locs cells slots) (hx : p.tables.exec = Jvm.exec) (hZ : Z.Warmed39 s.vm) {own : String} {index : Nat} (hown : s.vm.findClass own = some m.cls) (w1 : (Cond.methodLink own index Jvm.Stand.acN).before a0 Z = true) (w2 : (Cond.native Jvm.Stand.acN).before a0 Z = true) (w3 : (Cond.static Jvm.Stand.acN).before a0 Z = true) (w4 : (Cond.initialized "java/lang/System").before a0 Z = true) (eT : T.heap = h) {a b : Addr} {k k2 : ClassId} {ty : FieldType} {z z2 sp dp nn : Int32} {vs vd : List Value} {dv dd : Value} (A : Arv Z h a k ty z vs dv) (B : Arv Z h b k2 ty z2 vd dd) (hty : refKind ty = false) (h1 : ¬ sp < 0) (h2 : ¬ dp < 0) (h3 : ¬ nn < 0) (h4 : sp.toNatClampNeg + nn.toNatClampNeg ≤ z.toNatClampNeg) (h5 : dp.toNatClampNeg + nn.toNatClampNeg ≤ z2.toNatClampNeg) (hl : dp.toNatClampNeg + nn.toNatClampNeg ≤ vd.length) {n0 : Nat} (N : Fr n0 locs) (ge : n0 ≤ b) (hsz : Ls.size = c.maxLocals) {rest : List Value} (hd : decode c.code pc = .ok (.invokestatic index, 3)) (hn : pc + 3 = n) (hf : 1 ≤ R.frames) (hW : (rest.map fun v => v.category).sum ≤ W) (hlo : W + (nativeFrameWords "java/lang/System" "arraycopy" 5 + 11) ≤ R.locals) (K : ∀ T' h' L vs', Stand p l e R s m args below meth c T' L cells slots → T'.heap = h' → Fr n0 L → Keep h h' [b] → vs' = vd.take dp.toNatClampNeg ++ ((List.range nn.toNatClampNeg).map fun i => vs.getD (sp.toNatClampNeg + i) dv) ++ vd.drop (dp.toNatClampNeg + nn.toNatClampNeg) → vs'.length = vd.length → Arv Z h' b k2 ty z2 vs' dd → Ends p.tables e below Q F (T'.setTop (mkF m n Ls (rest)))) : Ends p.tables e below Q F (T.setTop (mkF m pc Ls (.int nn :: .int dp :: .ref b :: .int sp :: .ref a :: rest))) := by
  subst hn
  obtain ⟨T1, hh1, L1, X1, e1, N1, K1, V1, st1⟩ := cpA X hx hZ hown w1 w2 w3 w4 eT A B (Or.inl ⟨rfl, hty⟩) h1 h2 h3 h4 h5 rfl hl N ge (g := mkF m pc Ls (.int nn :: .int dp :: .ref b :: .int sp :: .ref a :: rest)) rfl hsz rfl hd hf (W := W) (by show 2 * 0 + _ ≤ _; omega) hlo
  exact (K T1 hh1 L1 _ X1 e1 N1 K1 rfl (by simp; omega) V1).step st1
/-- an array of this kind and length, whatever it holds -/
def Ax (Z : State) (h : Heap) (a : Addr) (ty : FieldType) (z : Int32) : Prop := ∃ (k : ClassId) (vs : List Value), vs.length = z.toNatClampNeg ∧ Arv Z h a k ty z vs (defaultValue ty)
theorem Ax.lt {a : Addr} {ty : FieldType} {z : Int32} (F : Ax Z h a ty z) : a < h.size := by obtain ⟨k, vs, -, A⟩ := F; exact A.lt
theorem Ax.ext {h' : Heap} {a : Addr} {ty : FieldType} {z : Int32} (F : Ax Z h a ty z) (E : Ext h h') : Ax Z h' a ty z := by obtain ⟨k, vs, q, A⟩ := F; exact ⟨k, vs, q, A.ext E⟩
theorem Ax.keep {h' : Heap} {a : Addr} {ty : FieldType} {z : Int32} {ws : List Addr} (F : Ax Z h a ty z) (K : Keep h h' ws) (q : a ∉ ws) : Ax Z h' a ty z := by obtain ⟨k, vs, r, A⟩ := F; exact ⟨k, vs, r, A.keep K q⟩
theorem Ax.other {h' : Heap} {a b : Addr} {sl : Nat} {v : Value} {ty : FieldType} {z : Int32} (F : Ax Z h a ty z) (W : Wr h h' b sl v) (q : a ≠ b) : Ax Z h' a ty z := by obtain ⟨k, vs, r, A⟩ := F; exact ⟨k, vs, r, A.other W q⟩
theorem Ax.nn {a : Addr} {ty : FieldType} {z : Int32} (F : Ax Z h a ty z) : ¬ z < 0 := by obtain ⟨k, vs, -, c, -, -, -, N, -⟩ := F; exact N
theorem axLen (n : Nat) (X : Stand p l e R s m args below meth c T locs cells slots) (hx : p.tables.exec = Jvm.exec) (hZ : Z.Warmed39 s.vm) (eT : T.heap = h) {a : Addr} {ty : FieldType} {z : Int32} {rest : List Value} (A : Ax Z h a ty z) (hd : decode c.code pc = .ok (.arraylength, 1)) (hn : pc + 1 = n) (K : Ends p.tables e below Q F (T.setTop (mkF m n Ls (.int z :: rest)))) : Ends p.tables e below Q F (T.setTop (mkF m pc Ls (.ref a :: rest))) := by
  obtain ⟨k, vs, -, A⟩ := A
  exact arrLen n X hx hZ eT A hd hn K
theorem axLoadI (n : Nat) (X : Stand p l e R s m args below meth c T locs cells slots) (hx : p.tables.exec = Jvm.exec) (hZ : Z.Warmed39 s.vm) (eT : T.heap = h) {a : Addr} {z j : Int32} {rest : List Value} (A : Ax Z h a .int z) (hj : ¬ j < 0 ∧ j < z) (hd : decode c.code pc = .ok (.iaload, 1)) (hn : pc + 1 = n) (K : ∀ v : Int32, Ends p.tables e below Q F (T.setTop (mkF m n Ls (.int v :: rest)))) : Ends p.tables e below Q F (T.setTop (mkF m pc Ls (.int j :: .ref a :: rest))) := by
  obtain ⟨k, vs, -, A⟩ := A
  have A1 := A
  obtain ⟨cl, Ar, -, Sz, Nz, Hs, Gs⟩ := A1
  have hin := inb_of Sz hj
  have G := Gs j.toNatClampNeg (Nat.lt_of_not_le fun y => hin (Or.inr y))
  obtain ⟨v, hv⟩ := fit_I G (Or.inl rfl)
  exact iaload n X hx hZ eT v A hj hv hd hn (K v)
theorem axLoadJ (n : Nat) (X : Stand p l e R s m args below meth c T locs cells slots) (hx : p.tables.exec = Jvm.exec) (hZ : Z.Warmed39 s.vm) (eT : T.heap = h) {a : Addr} {z j : Int32} {rest : List Value} (A : Ax Z h a .long z) (hj : ¬ j < 0 ∧ j < z) (hd : decode c.code pc = .ok (.laload, 1)) (hn : pc + 1 = n) (K : ∀ v : Int64, Ends p.tables e below Q F (T.setTop (mkF m n Ls (.long v :: rest)))) : Ends p.tables e below Q F (T.setTop (mkF m pc Ls (.int j :: .ref a :: rest))) := by
  obtain ⟨k, vs, -, A⟩ := A
  have A1 := A
  obtain ⟨cl, Ar, -, Sz, Nz, Hs, Gs⟩ := A1
  have hin := inb_of Sz hj
  have G := Gs j.toNatClampNeg (Nat.lt_of_not_le fun y => hin (Or.inr y))
  obtain ⟨v, hv⟩ := fit_J G
  exact laload n X hx hZ eT v A hj hv hd hn (K v)
theorem axLoadB (n : Nat) (X : Stand p l e R s m args below meth c T locs cells slots) (hx : p.tables.exec = Jvm.exec) (hZ : Z.Warmed39 s.vm) (eT : T.heap = h) {a : Addr} {z j : Int32} {rest : List Value} (A : Ax Z h a .byte z) (hj : ¬ j < 0 ∧ j < z) (hd : decode c.code pc = .ok (.baload, 1)) (hn : pc + 1 = n) (K : ∀ v : Int32, Ends p.tables e below Q F (T.setTop (mkF m n Ls (.int v :: rest)))) : Ends p.tables e below Q F (T.setTop (mkF m pc Ls (.int j :: .ref a :: rest))) := by
  obtain ⟨k, vs, -, A⟩ := A
  have A1 := A
  obtain ⟨cl, Ar, -, Sz, Nz, Hs, Gs⟩ := A1
  have hin := inb_of Sz hj
  have G := Gs j.toNatClampNeg (Nat.lt_of_not_le fun y => hin (Or.inr y))
  obtain ⟨v, hv⟩ := fit_I G (Or.inr (Or.inr (Or.inl rfl)))
  exact baload n X hx hZ eT v A hj hv hd hn (K v)
theorem axStoreI (n : Nat) (X : Stand p l e R s m args below meth c T locs cells slots) (hx : p.tables.exec = Jvm.exec) (hZ : Z.Warmed39 s.vm) (eT : T.heap = h) {a : Addr} {z j : Int32} {x : Int32} {rest : List Value} (A : Ax Z h a .int z) (hj : ¬ j < 0 ∧ j < z) (hd : decode c.code pc = .ok (.iastore, 1)) (hn : pc + 1 = n) (K : ∀ T' h', Stand p l e R s m args below meth c T' (locs ++ [⟨a, j.toNatClampNeg⟩]) cells slots → T'.heap = h' → Wr h h' a j.toNatClampNeg (.int x) → Ax Z h' a .int z → Ends p.tables e below Q F (T'.setTop (mkF m n Ls (rest)))) : Ends p.tables e below Q F (T.setTop (mkF m pc Ls (.int x :: .int j :: .ref a :: rest))) := by
  obtain ⟨k, vs, hl, A⟩ := A
  have hjz : j.toNatClampNeg < z.toNatClampNeg := by
    have h1 := nat_of hj.1
    have h2 := hj.2
    have h3 := nat_of (Ax.nn ⟨k, vs, hl, A⟩)
    rw [Int32.lt_iff_toInt_lt] at h2
    omega
  exact iastore n X hx hZ eT A hj (by rw [hl]; exact hjz) hd hn (fun T1 h1 X1 e1 W1 A1 => K T1 h1 X1 e1 W1 ⟨k, _, by rw [List.length_set, hl], A1⟩)
theorem axStoreJ (n : Nat) (X : Stand p l e R s m args below meth c T locs cells slots) (hx : p.tables.exec = Jvm.exec) (hZ : Z.Warmed39 s.vm) (eT : T.heap = h) {a : Addr} {z j : Int32} {x : Int64} {rest : List Value} (A : Ax Z h a .long z) (hj : ¬ j < 0 ∧ j < z) (hd : decode c.code pc = .ok (.lastore, 1)) (hn : pc + 1 = n) (K : ∀ T' h', Stand p l e R s m args below meth c T' (locs ++ [⟨a, j.toNatClampNeg⟩]) cells slots → T'.heap = h' → Wr h h' a j.toNatClampNeg (.long x) → Ax Z h' a .long z → Ends p.tables e below Q F (T'.setTop (mkF m n Ls (rest)))) : Ends p.tables e below Q F (T.setTop (mkF m pc Ls (.long x :: .int j :: .ref a :: rest))) := by
  obtain ⟨k, vs, hl, A⟩ := A
  have hjz : j.toNatClampNeg < z.toNatClampNeg := by
    have h1 := nat_of hj.1
    have h2 := hj.2
    have h3 := nat_of (Ax.nn ⟨k, vs, hl, A⟩)
    rw [Int32.lt_iff_toInt_lt] at h2
    omega
  exact lastore n X hx hZ eT A hj (by rw [hl]; exact hjz) hd hn (fun T1 h1 X1 e1 W1 A1 => K T1 h1 X1 e1 W1 ⟨k, _, by rw [List.length_set, hl], A1⟩)
theorem axStoreB (n : Nat) (X : Stand p l e R s m args below meth c T locs cells slots) (hx : p.tables.exec = Jvm.exec) (hZ : Z.Warmed39 s.vm) (eT : T.heap = h) {a : Addr} {z j : Int32} {x : Int32} {rest : List Value} (A : Ax Z h a .byte z) (hj : ¬ j < 0 ∧ j < z) (hd : decode c.code pc = .ok (.bastore, 1)) (hn : pc + 1 = n) (K : ∀ T' h', Stand p l e R s m args below meth c T' (locs ++ [⟨a, j.toNatClampNeg⟩]) cells slots → T'.heap = h' → Wr h h' a j.toNatClampNeg (.int x.toInt8.toInt32) → Ax Z h' a .byte z → Ends p.tables e below Q F (T'.setTop (mkF m n Ls (rest)))) : Ends p.tables e below Q F (T.setTop (mkF m pc Ls (.int x :: .int j :: .ref a :: rest))) := by
  obtain ⟨k, vs, hl, A⟩ := A
  have hjz : j.toNatClampNeg < z.toNatClampNeg := by
    have h1 := nat_of hj.1
    have h2 := hj.2
    have h3 := nat_of (Ax.nn ⟨k, vs, hl, A⟩)
    rw [Int32.lt_iff_toInt_lt] at h2
    omega
  exact bastore n X hx hZ eT A hj (by rw [hl]; exact hjz) hd hn (fun T1 h1 X1 e1 W1 A1 => K T1 h1 X1 e1 W1 ⟨k, _, by rw [List.length_set, hl], A1⟩)
theorem axNew (n cap : Nat) (X : Stand p l e R s m args below meth c T locs cells slots) (hx : p.tables.exec = Jvm.exec) (hZ : Z.Warmed39 s.vm) {aty : ArrayType} (w : (Cond.arrayClass (newarray.typeOf aty)).before a0 Z = true) (eT : T.heap = h) {z : Int32} {rest : List Value} (hz : ¬ z < 0) (hcap : z.toNatClampNeg ≤ cap) (hb : cap * 8 ≤ 536870912) (hd : decode c.code pc = .ok (.newarray aty, 2)) (hn : pc + 2 = n) (hc : cells + 1 ≤ R.cells) (hl : slots + cap ≤ R.slots) (K : ∀ T' h' a, a = h.size → Stand p l e R s m args below meth c T' locs (cells + 1) (slots + cap) → T'.heap = h' → Ext h h' → Ax Z h' a (newarray.typeOf aty) z → Ends p.tables e below Q F (T'.setTop (mkF m n Ls (.ref a :: rest)))) : Ends p.tables e below Q F (T.setTop (mkF m pc Ls (.int z :: rest))) :=
  newArr n cap X hx hZ w eT hz hcap hb hd hn hc hl (fun T1 h1 a k q X1 e1 E1 A1 => K T1 h1 a q X1 e1 E1 ⟨k, _, List.length_replicate, A1⟩)
theorem axCopy (n W : Nat) (X : Stand p l e R s m args below meth c T locs cells slots) (hx : p.tables.exec = Jvm.exec) (hZ : Z.Warmed39 s.vm) {own : String} {index : Nat} (hown : s.vm.findClass own = some m.cls) (w1 : (Cond.methodLink own index Jvm.Stand.acN).before a0 Z = true) (w2 : (Cond.native Jvm.Stand.acN).before a0 Z = true) (w3 : (Cond.static Jvm.Stand.acN).before a0 Z = true) (w4 : (Cond.initialized "java/lang/System").before a0 Z = true) (eT : T.heap = h) {a b : Addr} {ty : FieldType} {z z2 sp dp nn : Int32} (A : Ax Z h a ty z) (B : Ax Z h b ty z2) (hty : refKind ty = false) (h1 : ¬ sp < 0) (h2 : ¬ dp < 0) (h3 : ¬ nn < 0) (h4 : sp.toNatClampNeg + nn.toNatClampNeg ≤ z.toNatClampNeg) (h5 : dp.toNatClampNeg + nn.toNatClampNeg ≤ z2.toNatClampNeg) {n0 : Nat} (N : Fr n0 locs) (ge : n0 ≤ b) (hsz : Ls.size = c.maxLocals) {rest : List Value} (hd : decode c.code pc = .ok (.invokestatic index, 3)) (hn : pc + 3 = n) (hf : 1 ≤ R.frames) (hW : (rest.map fun v => v.category).sum ≤ W) (hlo : W + (nativeFrameWords "java/lang/System" "arraycopy" 5 + 11) ≤ R.locals) (K : ∀ T' h' L, Stand p l e R s m args below meth c T' L cells slots → T'.heap = h' → Fr n0 L → Keep h h' [b] → Ax Z h' b ty z2 → Ends p.tables e below Q F (T'.setTop (mkF m n Ls (rest)))) : Ends p.tables e below Q F (T.setTop (mkF m pc Ls (.int nn :: .int dp :: .ref b :: .int sp :: .ref a :: rest))) := by
  obtain ⟨k, vs, hl, A⟩ := A
  obtain ⟨k2, vd, hl2, B⟩ := B
  exact arrCopy n W X hx hZ hown w1 w2 w3 w4 eT A B hty h1 h2 h3 h4 h5 (by rw [hl2]; exact h5) N ge hsz hd hn hf hW hlo (fun T1 hh1 L1 vs1 X1 e1 N1 K1 _ q V1 => K T1 hh1 L1 X1 e1 N1 K1 ⟨k2, vs1, q.trans hl2, V1⟩)
theorem acmp_ne (nY nN : Nat) (X : Stand p l e R s m args below meth c T locs cells slots) (hx : p.tables.exec = Jvm.exec) {o : Int} {x y : Value} {rest : List Value} (hd : decode c.code pc = .ok (.if_acmp .ne o, 3)) (h1 : x.isRef = true) (h2 : y.isRef = true) (hY : 0 ≤ (pc : Int) + o ∧ ((pc : Int) + o).toNat = nY) (hN : pc + 3 = nN) (KY : ¬ x = y → Ends p.tables e below Q F (T.setTop (mkF m nY Ls (rest)))) (KN : x = y → Ends p.tables e below Q F (T.setTop (mkF m nN Ls (rest)))) : Ends p.tables e below Q F (T.setTop (mkF m pc Ls (y :: x :: rest))) := by
  subst hN
  by_cases q : x = y
  · exact (KN q).step fun t k => acmp (g := mkF m pc Ls (y :: x :: rest)) X hx rfl h1 h2 (pc0 := pc) (pc' := pc + 3) (same := true) rfl hd rfl (decide_eq_true q) hY.1 rfl k
  · exact (KY q).step fun t k => acmp (g := mkF m pc Ls (y :: x :: rest)) X hx rfl h1 h2 (pc0 := pc) (pc' := nY) (same := false) rfl hd rfl (decide_eq_false q) hY.1 hY.2.symm k
theorem acmp_eq (nY nN : Nat) (X : Stand p l e R s m args below meth c T locs cells slots) (hx : p.tables.exec = Jvm.exec) {o : Int} {x y : Value} {rest : List Value} (hd : decode c.code pc = .ok (.if_acmp .eq o, 3)) (h1 : x.isRef = true) (h2 : y.isRef = true) (hY : 0 ≤ (pc : Int) + o ∧ ((pc : Int) + o).toNat = nY) (hN : pc + 3 = nN) (KY : x = y → Ends p.tables e below Q F (T.setTop (mkF m nY Ls (rest)))) (KN : ¬ x = y → Ends p.tables e below Q F (T.setTop (mkF m nN Ls (rest)))) : Ends p.tables e below Q F (T.setTop (mkF m pc Ls (y :: x :: rest))) := by
  subst hN
  by_cases q : x = y
  · exact (KY q).step fun t k => acmp (g := mkF m pc Ls (y :: x :: rest)) X hx rfl h1 h2 (pc0 := pc) (pc' := nY) (same := true) rfl hd rfl (decide_eq_true q) hY.1 hY.2.symm k
  · exact (KN q).step fun t k => acmp (g := mkF m pc Ls (y :: x :: rest)) X hx rfl h1 h2 (pc0 := pc) (pc' := pc + 3) (same := false) rfl hd rfl (decide_eq_false q) hY.1 rfl k
theorem callInitB (n W rc rs : Nat) (a : Addr) (argsL rest : List Value) (X : Stand p l e R s m args below meth c T locs cells slots) (hx : p.tables.exec = Jvm.exec) (hZ : Z.Warmed39 s.vm) {own : String} {index : Nat} {y : MethodName} {bytes : ByteArray} {maxL : Nat} {QQ : Option Value → Heap → List Loc → Prop} (hown : s.vm.findClass own = some m.cls) (hB : Back l R p e below s args y 3 W (fun P a' => a' = (.ref a :: argsL).toArray ∧ P.U.heap = h ∧ P.cells + rc ≤ R.cells ∧ P.slots + rs ≤ R.slots) (fun P _ v B => ∃ L, QQ v B.U.heap L ∧ B.locs = P.locs ++ L ∧ B.cells = P.cells + rc ∧ B.slots = P.slots + rs)) (hy1 : y.name = "<init>") (wl : (Cond.methodLink own index y).before a0 Z = true) (ws : (Cond.instanceMethod y).before a0 Z = true) (wc : (Cond.code y bytes maxL none).before a0 Z = true) (hy : y.cls ≠ "java/lang/invoke/MethodHandle" ∧ y.cls ≠ "java/lang/invoke/VarHandle") (eT : T.heap = h) (hc : cells + rc ≤ R.cells) (hs : slots + rs ≤ R.slots) (hsz : Ls.size = c.maxLocals) (hlen : ∀ sig, parseMethodDescriptor y.desc = some sig → argsL.length = sig.parameters.length) (hst : st = argsL.reverse ++ .ref a :: rest) (hW : (rest.map fun v => v.category).sum ≤ W) (hd : decode c.code pc = .ok (.invokespecial index, 3)) (hn : pc + 3 = n) (K : ∀ v T' L', Stand p l e R s m args below meth c T' (locs ++ L') (cells + rc) (slots + rs) → QQ v T'.heap L' → Ends p.tables e below Q F (T'.setTop (mkF m n Ls (v.toList ++ rest)))) : Ends p.tables e below Q F (T.setTop (mkF m pc Ls (st))) := by
  subst hn
  obtain ⟨v, vm1, ⟨T1, L1, k1, n1⟩, -, X1, ⟨Lc, hQ, l1, y1, z1⟩, st1⟩ := X.specialBack hx (y := y) hy1 hown (mvT hZ wl) (mvT hZ ws) (mvT hZ wc) hy hB (g := mkF m pc Ls st) rfl hsz (Steps.refl _) (a := a) (argsL := argsL) (rest := rest) hlen hst (by show 2 * 0 + _ ≤ _; omega) hd (fun _ _ => ⟨rfl, eT, hc, hs⟩)
  dsimp only [Pt.U, Pt.locs, Pt.cells, Pt.slots] at X1 l1 y1 z1 st1 hQ
  subst l1 y1 z1
  exact (K v T1 Lc X1 hQ).step fun t k => st1.trans k
theorem callVtB (n W rc rs : Nat) (a : Addr) (argsL rest : List Value) (X : Stand p l e R s m args below meth c T locs cells slots) (hx : p.tables.exec = Jvm.exec) (hZ : Z.Warmed39 s.vm) {own CC : String} {index : Nat} {y z : MethodName} {QQ : Option Value → Heap → List Loc → Prop} (hown : s.vm.findClass own = some m.cls) (hB : Back l R p e below s args z 3 W (fun P a' => a' = (.ref a :: argsL).toArray ∧ P.U.heap = h ∧ P.cells + rc ≤ R.cells ∧ P.slots + rs ≤ R.slots) (fun P _ v B => ∃ L, QQ v B.U.heap L ∧ B.locs = P.locs ++ L ∧ B.cells = P.cells + rc ∧ B.slots = P.slots + rs)) (E : Exa Z h a CC) (hnf : NotFace s y) (wl : (Cond.methodLink own index y).before a0 Z = true) (wd : (Cond.declares y).before a0 Z = true) (wsel : (Cond.selects CC y z).before a0 Z = true) (ws : (Cond.instanceMethod z).before a0 Z = true) (hy : y.cls ≠ "java/lang/invoke/MethodHandle" ∧ y.cls ≠ "java/lang/invoke/VarHandle") (eT : T.heap = h) (hc : cells + rc ≤ R.cells) (hs : slots + rs ≤ R.slots) (hsz : Ls.size = c.maxLocals) (hlen : ∀ sig, parseMethodDescriptor y.desc = some sig → argsL.length = sig.parameters.length) (hst : st = argsL.reverse ++ .ref a :: rest) (hW : (rest.map fun v => v.category).sum ≤ W) (hd : decode c.code pc = .ok (.invokevirtual index, 3)) (hn : pc + 3 = n) (K : ∀ v T' L', Stand p l e R s m args below meth c T' (locs ++ L') (cells + rc) (slots + rs) → QQ v T'.heap L' → Ends p.tables e below Q F (T'.setTop (mkF m n Ls (v.toList ++ rest)))) : Ends p.tables e below Q F (T.setTop (mkF m pc Ls (st))) := by
  subst hn
  obtain ⟨cq, kq, qa, qb, qc⟩ := isOf hZ eT E
  obtain ⟨v, vm1, ⟨T1, L1, k1, n1⟩, -, X1, ⟨Lc, hQ, l1, y1, z1⟩, st1⟩ := X.virtualBack hx (y := y) (z := z) hown (mvT hZ wl) (mvT hZ wd) hnf (mvT hZ wsel) (mvT hZ ws) hy hB qa qc (g := mkF m pc Ls st) rfl hsz (Steps.refl _) (argsL := argsL) (rest := rest) hlen hst (by show 2 * 0 + _ ≤ _; omega) hd (fun _ _ => ⟨rfl, eT, hc, hs⟩)
  dsimp only [Pt.U, Pt.locs, Pt.cells, Pt.slots] at X1 l1 y1 z1 st1 hQ
  subst l1 y1 z1
  exact (K v T1 Lc X1 hQ).step fun t k => st1.trans k
theorem eqI_v {t : Term} {k : Int32} {as : Array Value} (q : (Cond.eq t (.int k)).value as s none s [] = some true) : t.eval as s none [] s = some (.int k) := by
  cases ht : t.eval as s none [] s with
  | none => simp [Cond.value, ht] at q
  | some x => cases x <;> simp [Cond.value, Term.eval, ht] at q ⊢; exact q
theorem eqR_v {t u : Term} {b : Addr} {as : Array Value} (hu : u.eval as s none [] s = some (.ref b)) (q : (Cond.eq t u).value as s none s [] = some true) : t.eval as s none [] s = some (.ref b) := by
  cases ht : t.eval as s none [] s with
  | none => simp [Cond.value, ht] at q
  | some x => cases x <;> simp [Cond.value, hu, ht] at q ⊢; exact q
theorem Ends.wide {tb : Tables} {U : State} (k : Ends tb e below Q (FE s C S) U) : Ends tb e below Q (FW s C S) U := by
  obtain ⟨s₂, o, h1, h2, h3, v, L, h4, h5, h6⟩ := k
  exact ⟨s₂, o, h1, h2, h3, v, L, h4, h5, Jvm.RoadKit.wide h6⟩
theorem Ends.since {tb : Tables} {U : State} {vm1 : Vm} {k1 : Nat} (hS : s.Since vm1 k1) (k : Ends tb e below (fun v hh L => Q v hh L ∧ k1 ≤ hh.size) (FE (s.setVm vm1) C S) U) : Ends tb e below Q (FW s C S) U := by
  obtain ⟨s₂, o, h1, h2, h3, v, L, h4, ⟨h5, hk⟩, h6, h7, h8⟩ := k
  obtain ⟨a, b, d⟩ := hS.ended (U := s₂) h7 hk h8
  exact ⟨s₂, o, h1, h2, h3, v, L, h4, h5, h6, a, b, d⟩
theorem ldcStr (n cap : Nat) (X : Stand p l e R s m args below meth c T locs cells slots) (hx : p.tables.exec = Jvm.exec) (hZ : Z.Warmed39 s.vm) {own text : String} {index : Nat} (hown : s.vm.findClass own = some m.cls) (w : (Cond.stringLink own index text).before a0 Z = true) (wS : ∀ a ∈ Bundle.stringAtoms, a.before a0 Z = true) (eT : T.heap = h) (hd : decode c.code pc = .ok (.ldc index, 2)) (hn : pc + 2 = n) (hcap : 4 * text.toList.length ≤ cap) (hbig : cap ≤ 536870912) (hc : cells + 2 ≤ R.cells) (hl : slots + (cap + 4) ≤ R.slots) (K : ∀ (a : Addr) (T' : State) (h' : Heap), Stand p l e R (s.setVm T'.vm) m args below meth c T' locs (cells + 2) (slots + (cap + 4)) → T'.heap = h' → Ext h h' → Z.Warmed39 (s.setVm T'.vm).vm → (s.setVm T'.vm).vm.findClass own = some m.cls → Ends p.tables e below (fun v hh L => Q v hh L ∧ h'.size ≤ hh.size) (FE (s.setVm T'.vm) C S) (T'.setTop (mkF m n Ls (.ref a :: st)))) : Ends p.tables e below Q (FW s C S) (T.setTop (mkF m pc Ls st)) := by
  subst hn
  obtain ⟨a, T1, h1, k1, X1, e1, E1, S1, hk1, Z1, o1, st1⟩ := ldcS (s := s) (vm0 := s.vm) X hx hZ hown w wS eT (k0 := 0) ⟨State.Warmed39.refl s, fun j p hj hp => absurd (Array.getElem?_eq_some_iff.mp hp).1 (Nat.not_lt.mpr hj)⟩ (Nat.zero_le _) (g := mkF m pc Ls st) rfl hd hcap hbig hc hl
  exact Ends.since S1 (Ends.mono ((K a T1 h1 X1 e1 E1 Z1 o1).step st1) (fun v hh L q => ⟨q.1, Nat.le_trans hk1 q.2⟩))
/-- the contract of a body that may load a String constant -/
def MetW (l : Launch) (Z : State) (y : MethodName) (bytes : ByteArray) (maxL : Nat) (ret : Option FieldType) (ws : List Cond) (rm : Room) (as : Array Value) (h : Heap) (QQ : Option Value → Heap → List Loc → Prop) : Prop :=
  MetFree l y (head1 (Cond.code y bytes maxL ret :: ws) rm) (fun a U => a = as ∧ Z.Warmed39 U.vm ∧ U.heap = h) (fun _ _ _ _ _ => True) (fun _ U o U' => ∃ v L, o = .returned v ∧ QQ v U'.heap L ∧ ReturnedEndW U o U' L rm.cells rm.slots)
theorem MetW.of {y : MethodName} {bytes : ByteArray} {maxL : Nat} {ret : Option FieldType} {ws : List Cond} {rm : Room} {as : Array Value} {QQ : Option Value → Heap → List Loc → Prop} (hp : plainFor y = true)
    (body : ∀ (p : Program) (e : Env) (s : State) (m : MethodId) (below : List Frame) (meth : Method) (c : Code) (T : State), p.tables.exec = Jvm.exec → c.code = bytes → c.maxLocals = maxL → s.vm.findClass y.cls = some m.cls → meth.name = y.name → meth.sig.returnType = ret → meth.locks = false → Z.Warmed39 s.vm → Stand p l e rm s m as below meth c T [] 0 0 → T.heap = h → Ends p.tables e below QQ (FW s rm.cells rm.slots) (T.setTop (entryFrame m as maxL))) :
    MetW l Z y bytes maxL ret ws rm as h QQ := by
  refine MetFree.of_bodySF hp hisR ?_
  intro p e s m args below meth c s₁ Bd hml0 hP hK
  obtain ⟨rfl, hZ, hh⟩ := hP
  exact body p e s m below meth c s₁ Bd.exec Bd.bytes hml0 (findClass_of_methodNamed Bd.named) (name_of_methodNamed Bd.named Bd.method).1 Bd.returns Bd.notSynchronized hZ (Stand.of_body Bd) (by rw [← hh, Bd.state]; rfl)
theorem newRefArr (n cap : Nat) (X : Stand p l e R s m args below meth c T locs cells slots) (hx : p.tables.exec = Jvm.exec) (hZ : Z.Warmed39 s.vm) {own CC : String} {index : Nat} (hown : s.vm.findClass own = some m.cls) (w1 : (Cond.classLink own index CC).before a0 Z = true) (w2 : (Cond.arrayOver (.object CC)).before a0 Z = true) (eT : T.heap = h) {z : Int32} {rest : List Value} (hz : ¬ z < 0) (hcap : z.toNatClampNeg ≤ cap) (hb : cap * 8 ≤ 536870912) (hd : decode c.code pc = .ok (.anewarray index, 3)) (hn : pc + 3 = n) (hc : cells + 1 ≤ R.cells) (hl : slots + cap ≤ R.slots) (K : ∀ T' h' a k, a = h.size → Stand p l e R s m args below meth c T' locs (cells + 1) (slots + cap) → T'.heap = h' → Ext h h' → Arv Z h' a k (.object CC) z (List.replicate z.toNatClampNeg .null) .null → Ovr Z k CC → Ends p.tables e below Q F (T'.setTop (mkF m n Ls (.ref a :: rest)))) : Ends p.tables e below Q F (T.setTop (mkF m pc Ls (.int z :: rest))) := by
  subst hn
  obtain ⟨T1, h1, k1, X1, e1, E1, A1, O1, st1⟩ := newR X hx hZ hown w1 w2 eT (g := mkF m pc Ls (.int z :: rest)) rfl hd rfl hz (cap := cap) hcap hb hc hl
  exact (K T1 h1 _ k1 rfl X1 e1 E1 ((Arv.new A1 hz).pad (pad_rep [] _ _)) O1).step st1
theorem aastore (n : Nat) (X : Stand p l e R s m args below meth c T locs cells slots) (hx : p.tables.exec = Jvm.exec) (hZ : Z.Warmed39 s.vm) (eT : T.heap = h) {a : Addr} {k : ClassId} {z j : Int32} {ty : FieldType} {v : Value} {vs : List Value} {dv : Value} {rest : List Value} (A : Arv Z h a k ty z vs dv) (hty : ty.isReference = true) (hv : fits ty v = true) (hS : Sto Z h a v) (hj : ¬ j < 0 ∧ j < z) (hlen : j.toNatClampNeg < vs.length) (hd : decode c.code pc = .ok (.aastore, 1)) (hn : pc + 1 = n) (K : ∀ T' h', Stand p l e R s m args below meth c T' (locs ++ [⟨a, j.toNatClampNeg⟩]) cells slots → T'.heap = h' → Wr h h' a j.toNatClampNeg v → Arv Z h' a k ty z (vs.set j.toNatClampNeg v) dv → Ends p.tables e below Q F (T'.setTop (mkF m n Ls (rest)))) : Ends p.tables e below Q F (T.setTop (mkF m pc Ls (v :: .int j :: .ref a :: rest))) := by
  subst hn
  obtain ⟨cl, Ar, q1, Sz, Nz, Hs, Gs⟩ := A
  obtain ⟨T1, h1, X1, e1, W1, st1⟩ := stR X hx hZ eT Ar (j := j) (inb_of Sz hj) hty hS (g := mkF m pc Ls (v :: .int j :: .ref a :: rest)) rfl rfl hd
  exact (K T1 h1 X1 e1 W1 (Arv.set Ar q1 Sz Nz Hs Gs hv W1 _ rfl hlen)).step st1
theorem cat_ref {v : Value} (hv : v.isRef = true) : v.category = 1 := by rcases ref_cases hv with rfl | ⟨a, rfl⟩ <;> rfl
theorem fits_obj {v : Value} {C : String} (hv : v.isRef = true) : fits (.object C) v = true := by rcases ref_cases hv with rfl | ⟨a, rfl⟩ <;> rfl
/-- a reference that may be null; if not, one of this class -/
def Opt (Z : State) (h : Heap) (v : Value) (C : String) : Prop := v = .null ∨ ∃ a, v = .ref a ∧ Exa Z h a C
theorem Opt.isRef {v : Value} {CC : String} (F : Opt Z h v CC) : v.isRef = true := by rcases F with rfl | ⟨a, rfl, -⟩ <;> rfl
theorem Opt.ext {h' : Heap} {v : Value} {CC : String} (F : Opt Z h v CC) (E : Ext h h') : Opt Z h' v CC := F.imp id fun ⟨a, q, r⟩ => ⟨a, q, r.ext E⟩
theorem Opt.wr {h' : Heap} {v : Value} {CC : String} {a : Addr} {sl : Nat} {u : Value} (F : Opt Z h v CC) (W : Wr h h' a sl u) : Opt Z h' v CC := F.imp id fun ⟨a, q, r⟩ => ⟨a, q, r.wr W⟩
theorem Opt.keep {h' : Heap} {v : Value} {CC : String} {ws : List Addr} (F : Opt Z h v CC) (K : Keep h h' ws) : Opt Z h' v CC := F.imp id fun ⟨a, q, r⟩ => ⟨a, q, r.keep K⟩
theorem Opt.sto {v : Value} {CC : String} {a : Addr} {k : ClassId} {ty : FieldType} {z : Int32} {vs : List Value} {dv : Value} (F : Opt Z h v CC) (A : Arv Z h a k ty z vs dv) (O : Ovr Z k CC) : Sto Z h a v := by
  rcases F with rfl | ⟨y, rfl, E⟩
  · exact Or.inl rfl
  · obtain ⟨cq, Aq, qq, -⟩ := A
    exact Sto.ofV Aq qq O (Ins.self E)
theorem astoreV (n : Nat) (L1 : Array Slot) (X : Stand p l e R s m args below meth c T locs cells slots) (hx : p.tables.exec = Jvm.exec) {k : Nat} {x : Value} {o : Slot} {rest : List Value} (hd : decode c.code pc = .ok (.astore k, 2)) (hn : pc + 2 = n) (hv : x.isRef = true) (hold : Ls[k]? = some o) (ho : One o) (hL : Ls.setIfInBounds k (.val x) = L1) (K : Ends p.tables e below Q F (T.setTop (mkF m n (Ls.setIfInBounds k (.val x)) (rest)))) : Ends p.tables e below Q F (T.setTop (mkF m pc Ls (x :: rest))) := by
  subst hn hL; exact K.step fun t k => XS.astore (g := mkF m pc Ls (x :: rest)) X.here hx rfl hd rfl hv (XS.store1 hold ho (cat_ref hv)) k
theorem astoreNV (n : Nat) (L1 : Array Slot) (X : Stand p l e R s m args below meth c T locs cells slots) (hx : p.tables.exec = Jvm.exec) {k : Fin 4} {x : Value} {o : Slot} {rest : List Value} (hd : decode c.code pc = .ok (.astore_n k, 1)) (hn : pc + 1 = n) (hv : x.isRef = true) (hold : Ls[k.val]? = some o) (ho : One o) (hL : Ls.setIfInBounds k.val (.val x) = L1) (K : Ends p.tables e below Q F (T.setTop (mkF m n (Ls.setIfInBounds k.val (.val x)) (rest)))) : Ends p.tables e below Q F (T.setTop (mkF m pc Ls (x :: rest))) := by
  subst hn hL; exact K.step fun t k => XS.astoreN (g := mkF m pc Ls (x :: rest)) X.here hx rfl hd rfl hv (XS.store1 hold ho (cat_ref hv)) k
end Walk
end Jvm.Own

namespace Jvm.Own
open Jvm Sem ClassFile Op Lib Jvm.Stand Jvm.Free Jvm.LawKit Jvm.RoadKit Bundle
section Walk3
variable {p : Program} {l : Launch} {e : Env} {R : Room} {s : State} {m : MethodId} {args : Array Value} {below : List Frame} {meth : Method} {c : Code} {T : State} {locs : List Loc} {cells slots : Nat} {Q : Option Value → Heap → List Loc → Prop} {F : Outcome → State → List Loc → Prop} {C S : Nat} {pc : Nat} {Ls : Array Slot} {st : List Value} {Z : State} {a0 : Array Value} {h : Heap}
theorem getFldR (n : Nat) (X : Stand p l e R s m args below meth c T locs cells slots) (hx : p.tables.exec = Jvm.exec) (hZ : Z.Warmed39 s.vm) {own O nm d : String} {index : Nat} (hown : s.vm.findClass own = some m.cls) (w : (Cond.fieldRef own index O nm d).before a0 Z = true) (eT : T.heap = h) {a : Addr} {v : Value} (Fd : Fld Z h a O nm d v) {rest : List Value} (hd : decode c.code pc = .ok (.getfield index, 3)) (hn : pc + 3 = n) (K : Ends p.tables e below Q F (T.setTop (mkF m n Ls (v :: rest)))) : Ends p.tables e below Q F (T.setTop (mkF m pc Ls (.ref a :: rest))) := by
  subst hn
  obtain ⟨cell, cf, k, i, f, h1, h2, h3, h4, -, -, h7⟩ := Fd
  have hT : Z.Warmed39 T.vm := wtrans hZ X.warmed
  have w' := Cond.fieldRef_warmed39 hT w
  obtain ⟨k', hi, -⟩ := State.fieldFound?_setVm (s := Z) hT.alike h2
  have ho : (Z.setVm T.vm).vm.findClass own = some m.cls := by
    show T.vm.findClass own = _
    rw [X.warmed.alike.findClass]; exact hown
  obtain ⟨c1, k1, i1, f1, g1, g2⟩ := Cond.fieldRef_spec (s := Z.setVm T.vm) (args := a0) (first := Z.setVm T.vm) (o := none) (idx := []) ho w'
  cases g1.symm.trans hi
  exact K.step fun t kk => (X.getfieldR hx (g := mkF m pc Ls (.ref a :: rest)) rfl g2 h3 rfl (by rw [eT]; exact h1) h4 h7 hd (Steps.refl _)).trans kk
/-- the contract of a body that loads a String constant; the intern table at its start is I1 -/
def MetT (l : Launch) (Z : State) (y : MethodName) (bytes : ByteArray) (maxL : Nat) (ret : Option FieldType) (ws : List Cond) (rm : Room) (as : Array Value) (h : Heap) (I1 : Array (Array UInt16 × Addr)) (QQ : Option Value → Heap → List Loc → Prop) : Prop :=
  MetFree l y (head1 (Cond.code y bytes maxL ret :: ws) rm) (fun a U => a = as ∧ Z.Warmed39 U.vm ∧ U.heap = h ∧ U.vm.interned = I1) (fun _ _ _ _ _ => True) (fun _ U o U' => ∃ v L, o = .returned v ∧ QQ v U'.heap L ∧ ReturnedEndW U o U' L rm.cells rm.slots)
theorem MetT.of {y : MethodName} {bytes : ByteArray} {maxL : Nat} {ret : Option FieldType} {ws : List Cond} {rm : Room} {as : Array Value} {I1 : Array (Array UInt16 × Addr)} {QQ : Option Value → Heap → List Loc → Prop} (hp : plainFor y = true)
    (body : ∀ (p : Program) (e : Env) (s : State) (m : MethodId) (below : List Frame) (meth : Method) (c : Code) (T : State), p.tables.exec = Jvm.exec → c.code = bytes → c.maxLocals = maxL → s.vm.findClass y.cls = some m.cls → meth.name = y.name → meth.sig.returnType = ret → meth.locks = false → Z.Warmed39 s.vm → Stand p l e rm s m as below meth c T [] 0 0 → T.heap = h → s.vm.interned = I1 → s.heap = h → Ends p.tables e below QQ (FW s rm.cells rm.slots) (T.setTop (entryFrame m as maxL))) :
    MetT l Z y bytes maxL ret ws rm as h I1 QQ := by
  refine MetFree.of_bodySF hp hisR ?_
  intro p e s m args below meth c s₁ Bd hml0 hP hK
  obtain ⟨rfl, hZ, hh, hI⟩ := hP
  exact body p e s m below meth c s₁ Bd.exec Bd.bytes hml0 (findClass_of_methodNamed Bd.named) (name_of_methodNamed Bd.named Bd.method).1 Bd.returns Bd.notSynchronized hZ (Stand.of_body Bd) (by rw [← hh, Bd.state]; rfl) hI hh
theorem backOfT {y : MethodName} {bytes : ByteArray} {maxL : Nat} {ret : Option FieldType} {rm : Room} {len W : Nat} {as' : Array Value} {I1 : Array (Array UInt16 × Addr)} {QQ : Option Value → Heap → List Loc → Prop}
    (hM : MetT l Z y bytes maxL ret [] rm as' h I1 QQ) (hZ : Z.Warmed39 s.vm) (hI : s.vm.interned = I1) (wc : (Cond.code y bytes maxL ret).before a0 Z = true) (wz : (Cond.initialized y.cls).before a0 Z = true) (hf : rm.frames + 1 ≤ R.frames) (hl : W + (maxL + 11) + rm.locals ≤ R.locals) :
    BackS l R p e below s args y len W (fun A a => a = as' ∧ A.U.heap = h ∧ A.cells + rm.cells ≤ R.cells ∧ A.slots + rm.slots ≤ R.slots)
      (fun A _ v B => ∃ L, QQ v B.U.heap L ∧ B.locs = A.locs ++ L ∧ B.cells = A.cells + rm.cells ∧ B.slots = A.slots + rm.slots) :=
  BackS.of_freeW (bytes := bytes) (maxL := maxL) (ret := ret) (E := fun _ _ o t L k n => k = rm.cells ∧ n = rm.slots ∧ ∃ v, o = .returned v ∧ QQ v t.heap L) hM hf hl
    (fun m meth c A a Y hp => have hU : Z.Warmed39 A.U.vm := wtrans hZ Y.warmed
      ⟨by show (Cond.and _ .tt).before a A.U = true; rw [Cond.before_and, mv hU wc]; rfl, mv hU wc, mv hU wz, hp.2.2.1, hp.2.2.2⟩)
    (fun m meth c A a g mk Y hp => ⟨hp.1, wtrans hZ Y.warmed, hp.2.1, Y.warmed.interned_eq.trans hI⟩) (fun _ _ _ _ _ _ _ _ _ => trivial)
    (fun _ _ _ _ ⟨v, L, h1, h2, h3⟩ => ⟨L, _, _, h3, rfl, rfl, v, h1, h2⟩)
    (fun m meth c A a g mk v t L k n Y hp _ _ ⟨e1, e2, v', e3, e4⟩ => by cases e3; subst e1 e2; exact ⟨L, e4, rfl, rfl, rfl⟩)
theorem callInitT (n W : Nat) (a : Addr) (argsL rest : List Value) (X : Stand p l e R s m args below meth c T locs cells slots) (hx : p.tables.exec = Jvm.exec) (hZ : Z.Warmed39 s.vm) {own : String} {index : Nat} {y : MethodName} {bytes : ByteArray} {maxL : Nat} {rm : Room} {I1 : Array (Array UInt16 × Addr)} {QQ : Option Value → Heap → List Loc → Prop} (hown : s.vm.findClass own = some m.cls) (hM : MetT l Z y bytes maxL none [] rm (.ref a :: argsL).toArray h I1 QQ) (hI : s.vm.interned = I1) (hy1 : y.name = "<init>") (wl : (Cond.methodLink own index y).before a0 Z = true) (ws : (Cond.instanceMethod y).before a0 Z = true) (wi : (Cond.initialized y.cls).before a0 Z = true) (wc : (Cond.code y bytes maxL none).before a0 Z = true) (hy : y.cls ≠ "java/lang/invoke/MethodHandle" ∧ y.cls ≠ "java/lang/invoke/VarHandle") (eT : T.heap = h) (hfr : rm.frames + 1 ≤ R.frames) (hlc : W + (maxL + 11) + rm.locals ≤ R.locals) (hc : cells + rm.cells ≤ R.cells) (hs : slots + rm.slots ≤ R.slots) (hsz : Ls.size = c.maxLocals) (hlen : ∀ sig, parseMethodDescriptor y.desc = some sig → argsL.length = sig.parameters.length) (hst : st = argsL.reverse ++ .ref a :: rest) (hW : (rest.map fun v => v.category).sum ≤ W) (hd : decode c.code pc = .ok (.invokespecial index, 3)) (hn : pc + 3 = n) (K : ∀ v T' L', Stand p l e R (s.setVm T'.vm) m args below meth c T' (locs ++ L') (cells + rm.cells) (slots + rm.slots) → QQ v T'.heap L' → Z.Warmed39 (s.setVm T'.vm).vm → (s.setVm T'.vm).vm.findClass own = some m.cls → Ends p.tables e below (fun v hh L => Q v hh L ∧ T'.heap.size ≤ hh.size) (FE (s.setVm T'.vm) C S) (T'.setTop (mkF m n Ls (v.toList ++ rest)))) : Ends p.tables e below Q (FW s C S) (T.setTop (mkF m pc Ls st)) := by
  subst hn
  obtain ⟨v, vm1, ⟨T1, L1, k1, n1⟩, -, X1, hS1, hg1, ⟨Lc, hQ, l1, y1, z1⟩, st1⟩ := X.specialBackS hx (y := y) hy1 hown (mvT hZ wl) (mvT hZ ws) (mvT hZ wc) hy (backOfT (W := W) hM hZ hI wc wi hfr hlc) (g := mkF m pc Ls st) rfl hsz (Steps.refl _) (a := a) (argsL := argsL) (rest := rest) hlen hst (by show 2 * 0 + _ ≤ _; omega) hd (fun _ _ => ⟨rfl, eT, hc, hs⟩)
  dsimp only [Pt.U, Pt.locs, Pt.cells, Pt.slots] at X1 l1 y1 z1 st1 hQ hS1 hg1
  subst l1 y1 z1
  exact Ends.since hS1 ((K v T1 Lc X1 hQ (State.Warmed39.trans (t := s) hZ hS1.1) ((hS1.1.alike.findClass _ _).trans hown)).step fun t k => st1.trans k)
theorem callVtT (n W : Nat) (a : Addr) (argsL rest : List Value) (X : Stand p l e R s m args below meth c T locs cells slots) (hx : p.tables.exec = Jvm.exec) (hZ : Z.Warmed39 s.vm) {own CC : String} {index : Nat} {y z : MethodName} {bytes : ByteArray} {maxL : Nat} {ret : Option FieldType} {rm : Room} {I1 : Array (Array UInt16 × Addr)} {QQ : Option Value → Heap → List Loc → Prop} (hown : s.vm.findClass own = some m.cls) (hM : MetT l Z z bytes maxL ret [] rm (.ref a :: argsL).toArray h I1 QQ) (hI : s.vm.interned = I1) (Ex : Exa Z h a CC) (hnf : NotFace s y) (wl : (Cond.methodLink own index y).before a0 Z = true) (wd : (Cond.declares y).before a0 Z = true) (wsel : (Cond.selects CC y z).before a0 Z = true) (ws : (Cond.instanceMethod z).before a0 Z = true) (wi : (Cond.initialized z.cls).before a0 Z = true) (wc : (Cond.code z bytes maxL ret).before a0 Z = true) (hy : y.cls ≠ "java/lang/invoke/MethodHandle" ∧ y.cls ≠ "java/lang/invoke/VarHandle") (eT : T.heap = h) (hfr : rm.frames + 1 ≤ R.frames) (hlc : W + (maxL + 11) + rm.locals ≤ R.locals) (hc : cells + rm.cells ≤ R.cells) (hs : slots + rm.slots ≤ R.slots) (hsz : Ls.size = c.maxLocals) (hlen : ∀ sig, parseMethodDescriptor y.desc = some sig → argsL.length = sig.parameters.length) (hst : st = argsL.reverse ++ .ref a :: rest) (hW : (rest.map fun v => v.category).sum ≤ W) (hd : decode c.code pc = .ok (.invokevirtual index, 3)) (hn : pc + 3 = n) (K : ∀ v T' L', Stand p l e R (s.setVm T'.vm) m args below meth c T' (locs ++ L') (cells + rm.cells) (slots + rm.slots) → QQ v T'.heap L' → Z.Warmed39 (s.setVm T'.vm).vm → (s.setVm T'.vm).vm.findClass own = some m.cls → Ends p.tables e below (fun v hh L => Q v hh L ∧ T'.heap.size ≤ hh.size) (FE (s.setVm T'.vm) C S) (T'.setTop (mkF m n Ls (v.toList ++ rest)))) : Ends p.tables e below Q (FW s C S) (T.setTop (mkF m pc Ls st)) := by
  subst hn
  obtain ⟨cq, kq, qa, qb, qc⟩ := isOf hZ eT Ex
  obtain ⟨v, vm1, ⟨T1, L1, k1, n1⟩, -, X1, hS1, hg1, ⟨Lc, hQ, l1, y1, z1⟩, st1⟩ := X.virtualBackS hx (y := y) (z := z) hown (mvT hZ wl) (mvT hZ wd) hnf (mvT hZ wsel) (mvT hZ ws) hy (backOfT (W := W) hM hZ hI wc wi hfr hlc) qa qc (g := mkF m pc Ls st) rfl hsz (Steps.refl _) (argsL := argsL) (rest := rest) hlen hst (by show 2 * 0 + _ ≤ _; omega) hd (fun _ _ => ⟨rfl, eT, hc, hs⟩)
  dsimp only [Pt.U, Pt.locs, Pt.cells, Pt.slots] at X1 l1 y1 z1 st1 hQ hS1 hg1
  subst l1 y1 z1
  exact Ends.since hS1 ((K v T1 Lc X1 hQ (State.Warmed39.trans (t := s) hZ hS1.1) ((hS1.1.alike.findClass _ _).trans hown)).step fun t k => st1.trans k)
theorem ldcVal (n cap : Nat) (X : Stand p l e R s m args below meth c T locs cells slots) (hx : p.tables.exec = Jvm.exec) (hZ : Z.Warmed39 s.vm) {own text : String} {index : Nat} (hown : s.vm.findClass own = some m.cls) (w : (Cond.stringLink own index text).before a0 Z = true) (wS : ∀ a ∈ Bundle.stringAtoms, a.before a0 Z = true) (eT : T.heap = h) (hI : s.vm.interned = Z.vm.interned) (N : Fr s.heap.size locs) (hkeep : ∀ (b : Addr) (cl : Cell), Z.heap[b]? = some cl → s.heap[b]? = some cl) (hh : Jvm.Lit.constHeld Z own index) (hcw : Jvm.Lit.compactW.before a0 Z = true) {vs : List Value} {z : Int32} (ht : (∀ c ∈ text.toList, c.toNat < 256) ∧ text.toList.map (fun c => Value.int (Jvm.Lit.byteI c.toNat.toUInt16)) = vs) (hz : ¬ z < 0) (hl : z.toNatClampNeg = vs.length) (hd : decode c.code pc = .ok (.ldc index, 2)) (hn : pc + 2 = n) (hcap : 4 * text.toList.length ≤ cap) (hbig : cap ≤ 536870912) (hc : cells + 2 ≤ R.cells) (hl' : slots + (cap + 4) ≤ R.slots) (K : ∀ (a : Addr) (T' : State) (h' : Heap) (b : Addr) (k : ClassId), Stand p l e R (s.setVm T'.vm) m args below meth c T' locs (cells + 2) (slots + (cap + 4)) → T'.heap = h' → Ext h h' → Z.Warmed39 (s.setVm T'.vm).vm → (s.setVm T'.vm).vm.findClass own = some m.cls → Exa Z h' a "java/lang/String" → Fld Z h' a "java/lang/String" "coder" "B" (.int 0) → Fld Z h' a "java/lang/String" "value" "[B" (.ref b) → Arv Z h' b k .byte z vs (.int 0) → Lit (s.setVm T'.vm) own index a → Ends p.tables e below (fun v hh L => Q v hh L ∧ h'.size ≤ hh.size) (FE (s.setVm T'.vm) C S) (T'.setTop (mkF m n Ls (.ref a :: st)))) : Ends p.tables e below Q (FW s C S) (T.setTop (mkF m pc Ls st)) := by
  subst hn
  obtain ⟨a, T1, h1, k1, b, k, X1, e1, E1, S1, hk1, Z1, o1, r1, r2, r3, r4, -, -, -, r5, st1⟩ := ldcSVL (s := s) (vm0 := s.vm) (Ts := []) X hx hZ hown w wS eT (k0 := 0) ⟨State.Warmed39.refl s, fun j p hj hp => absurd (Array.getElem?_eq_some_iff.mp hp).1 (Nat.not_lt.mpr hj)⟩ (Nat.zero_le _) N hkeep ⟨#[], by rw [hI]; simp, fun q hq => by simp at hq⟩ (by simp) hh hcw ht hz hl (g := mkF m pc Ls st) rfl hd hcap hbig hc hl'
  exact Ends.since S1 (Ends.mono ((K a T1 h1 b k X1 e1 E1 Z1 o1 r1 r2 r3 r4 r5).step st1) (fun v hh L q => ⟨q.1, Nat.le_trans hk1 q.2⟩))
theorem ldcRe (n : Nat) (X : Stand p l e R s m args below meth c T locs cells slots) (hx : p.tables.exec = Jvm.exec) (hZ : Z.Warmed39 s.vm) {own text : String} {index : Nat} (hown : s.vm.findClass own = some m.cls) (w : (Cond.stringLink own index text).before a0 Z = true) {a : Addr} (L : Lit s own index a) (hd : decode c.code pc = .ok (.ldc index, 2)) (hn : pc + 2 = n) (K : Ends p.tables e below Q F (T.setTop (mkF m n Ls (.ref a :: st)))) : Ends p.tables e below Q F (T.setTop (mkF m pc Ls (st))) := by
  subst hn
  exact K.step (ldcAgain (s := s) (vm0 := s.vm) X hx hZ hown w L (g := mkF m pc Ls st) rfl hd)
end Walk3
end Jvm.Own

namespace Jvm.Own
open Jvm Sem ClassFile Op Lib Jvm.Stand Jvm.Free Jvm.Free.SB Jvm.Free.SBG Jvm.LawKit Jvm.RoadKit Bundle
section Walk4
variable {p : Program} {l : Launch} {e : Env} {R : Room} {s : State} {m : MethodId} {args : Array Value} {below : List Frame} {meth : Method} {c : Code} {T : State} {locs : List Loc} {cells slots : Nat} {Q : Option Value → Heap → List Loc → Prop} {F : Outcome → State → List Loc → Prop} {C S : Nat} {pc : Nat} {Ls : Array Slot} {st : List Value} {Z : State} {a0 : Array Value} {h : Heap}
theorem Ends.sinceW {tb : Tables} {U : State} {vm1 : Vm} {k1 : Nat} (hS : s.Since vm1 k1) (k : Ends tb e below (fun v hh L => Q v hh L ∧ k1 ≤ hh.size) (FW (s.setVm vm1) C S) U) : Ends tb e below Q (FW s C S) U := by
  obtain ⟨s₂, o, h1, h2, h3, v, L, h4, ⟨h5, hk⟩, h6, h7, h8, h9⟩ := k
  have h10 := hS.trans (vm₂ := s₂.vm) (n₂ := s₂.heap.size) ⟨h7, h8⟩ hk
  exact ⟨s₂, o, h1, h2, h3, v, L, h4, h5, h6, h10.1, h10.2, h9.setVm s.vm⟩
theorem ldcValW (n cap : Nat) (X : Stand p l e R s m args below meth c T locs cells slots) (hx : p.tables.exec = Jvm.exec) (hZ : Z.Warmed39 s.vm) {own text : String} {index : Nat} (hown : s.vm.findClass own = some m.cls) (w : (Cond.stringLink own index text).before a0 Z = true) (wS : ∀ a ∈ Bundle.stringAtoms, a.before a0 Z = true) (eT : T.heap = h) (hI : s.vm.interned = Z.vm.interned) (N : Fr s.heap.size locs) (hkeep : ∀ (b : Addr) (cl : Cell), Z.heap[b]? = some cl → s.heap[b]? = some cl) (hh : Jvm.Lit.constHeld Z own index) (hcw : Jvm.Lit.compactW.before a0 Z = true) {vs : List Value} {z : Int32} (ht : (∀ c ∈ text.toList, c.toNat < 256) ∧ text.toList.map (fun c => Value.int (Jvm.Lit.byteI c.toNat.toUInt16)) = vs) (hz : ¬ z < 0) (hl : z.toNatClampNeg = vs.length) (hd : decode c.code pc = .ok (.ldc index, 2)) (hn : pc + 2 = n) (hcap : 4 * text.toList.length ≤ cap) (hbig : cap ≤ 536870912) (hc : cells + 2 ≤ R.cells) (hl' : slots + (cap + 4) ≤ R.slots) (K : ∀ (a : Addr) (T' : State) (h' : Heap) (b : Addr) (k : ClassId), Stand p l e R (s.setVm T'.vm) m args below meth c T' locs (cells + 2) (slots + (cap + 4)) → T'.heap = h' → Ext h h' → Z.Warmed39 (s.setVm T'.vm).vm → (s.setVm T'.vm).vm.findClass own = some m.cls → Exa Z h' a "java/lang/String" → Fld Z h' a "java/lang/String" "coder" "B" (.int 0) → Fld Z h' a "java/lang/String" "value" "[B" (.ref b) → Arv Z h' b k .byte z vs (.int 0) → Lit (s.setVm T'.vm) own index a → Ends p.tables e below (fun v hh L => Q v hh L ∧ h'.size ≤ hh.size) (FW (s.setVm T'.vm) C S) (T'.setTop (mkF m n Ls (.ref a :: st)))) : Ends p.tables e below Q (FW s C S) (T.setTop (mkF m pc Ls st)) := by
  subst hn
  obtain ⟨a, T1, h1, k1, b, k, X1, e1, E1, S1, hk1, Z1, o1, r1, r2, r3, r4, -, -, -, r5, st1⟩ := ldcSVL (s := s) (vm0 := s.vm) (Ts := []) X hx hZ hown w wS eT (k0 := 0) ⟨State.Warmed39.refl s, fun j p hj hp => absurd (Array.getElem?_eq_some_iff.mp hp).1 (Nat.not_lt.mpr hj)⟩ (Nat.zero_le _) N hkeep ⟨#[], by rw [hI]; simp, fun q hq => by simp at hq⟩ (by simp) hh hcw ht hz hl (g := mkF m pc Ls st) rfl hd hcap hbig hc hl'
  exact Ends.sinceW S1 (Ends.mono ((K a T1 h1 b k X1 e1 E1 Z1 o1 r1 r2 r3 r4 r5).step st1) (fun v hh L q => ⟨q.1, Nat.le_trans hk1 q.2⟩))
theorem ldcLit (n cap : Nat) (X : Stand p l e R s m args below meth c T locs cells slots) (hx : p.tables.exec = Jvm.exec) (hZ : Z.Warmed39 s.vm) {own text : String} {index : Nat} (hown : s.vm.findClass own = some m.cls) (w : (Cond.stringLink own index text).before a0 Z = true) (wS : ∀ a ∈ Bundle.stringAtoms, a.before a0 Z = true) (eT : T.heap = h) (hd : decode c.code pc = .ok (.ldc index, 2)) (hn : pc + 2 = n) (hcap : 4 * text.toList.length ≤ cap) (hbig : cap ≤ 536870912) (hc : cells + 2 ≤ R.cells) (hl : slots + (cap + 4) ≤ R.slots) (K : ∀ (a : Addr) (T' : State) (h' : Heap), Stand p l e R (s.setVm T'.vm) m args below meth c T' locs (cells + 2) (slots + (cap + 4)) → T'.heap = h' → Ext h h' → Z.Warmed39 (s.setVm T'.vm).vm → (s.setVm T'.vm).vm.findClass own = some m.cls → s.Warmed39 T'.vm → Lit (s.setVm T'.vm) own index a → Ends p.tables e below (fun v hh L => Q v hh L ∧ h'.size ≤ hh.size) (FE (s.setVm T'.vm) C S) (T'.setTop (mkF m n Ls (.ref a :: st)))) : Ends p.tables e below Q (FW s C S) (T.setTop (mkF m pc Ls st)) := by
  subst hn
  obtain ⟨a, T', X', hS', ⟨kk, hkk, hrr⟩, hb, -, st'⟩ := X.ldcStringCold hx (own := own) hown (mvS hZ w) (fun d hd => by
    have q := wS d hd
    simp only [Bundle.stringAtoms, List.mem_cons, List.not_mem_nil, or_false] at hd
    rcases hd with rfl | rfl | rfl | rfl | rfl | rfl | rfl
    · exact mv hZ q
    · exact mv hZ q
    · exact mvA hZ q
    · exact mv hZ q
    · exact mv hZ q
    · exact mv hZ q
    · exact mv hZ q) (g := mkF m pc Ls st) rfl hd hcap hbig hc hl
  subst eT
  have hf : T'.vm.findClass own = some m.cls := by rw [hS'.1.alike.findClass]; exact hown
  exact Ends.since hS' ((K a T' _ X' rfl (ext_of hb) (State.Warmed39.trans (t := s) hZ hS'.1) hf hS'.1 (by simp [Lit, State.resolvedAt?, hf, hkk, hrr])).step st')
theorem arvB {ty : FieldType} {a : Addr} {cl : Cell} {z : Int32} {vs : List Value} {dv : Value} (A : Arr Z Z.heap a cl ty) (hs : cl.slots.size = vs.length) (hz : z.toNatClampNeg = vs.length) (hn : ¬ z < 0) (H : HasL cl 0 vs) (hf : vs.all (fits ty) = true) : Arv Z Z.heap a cl.cls ty z vs dv := by
  refine ⟨cl, A, rfl, by rw [hs, hz], hn, fun j hj => ?_, fun j hj => ?_⟩
  · have := HasL.at (dv := dv) vs 0 H j (by omega)
    rwa [Nat.zero_add] at this
  · have hj' : j < vs.length := by omega
    have : vs.getD j dv = vs[j] := by simp [List.getD, hj']
    rw [this]
    exact List.all_eq_true.mp hf _ (List.getElem_mem hj')
theorem lenN {ty : FieldType} {a : Addr} {cl : Cell} {t : Term} {as : Array Value} {n : Int32} {k : Nat} (ev : t.eval as Z none [] Z = some (.ref a)) (wl : (Cond.eq (.length t) (.int n)).value as Z none Z [] = some true) (A : Arr Z Z.heap a cl ty) (hn : n.toInt = (k : Int)) : cl.slots.size = k := by
  have hev := Own.eqI_v (s := Z) wl
  obtain ⟨b, c2, e2, a2, lt, r⟩ := Jvm.Lib.length_spec hev
  cases ev.symm.trans e2
  cases (IntBox.arrayAt_of A.1 A.2.1 A.2.2).symm.trans a2
  have q : n = cl.slots.size.toInt32 := by injection r
  have q2 := congrArg Int32.toInt q
  have q3 : (cl.slots.size.toInt32).toInt = (cl.slots.size : Int) := by
    rw [Nat.toInt32, Int32.toInt_ofNat_of_lt lt]
  omega
theorem elN {ty : FieldType} {a : Addr} {cl : Cell} {t : Term} {as : Array Value} {v j : Int32} {i : Nat} (ev : t.eval as Z none [] Z = some (.ref a)) (w : (Cond.eq (.elem t (.int j)) (.int v)).value as Z none Z [] = some true) (A : Arr Z Z.heap a cl ty) (hi : j.toNatClampNeg = i) : cl.slots[i]? = some (.int v) := by
  have hev := Own.eqI_v (s := Z) w
  obtain ⟨a', j', cell, ha', hj', hat, -, hv⟩ := Term.elem_spec hev
  cases ev.symm.trans ha'
  cases (IntBox.arrayAt_of A.1 A.2.1 A.2.2).symm.trans hat
  have : j = j' := by simpa [Term.eval] using hj'
  subst this
  rw [← hi]; exact hv
/-- a String of these bytes -/
def Str (Z : State) (h : Heap) (a : Addr) (z : Int32) (vs : List Value) : Prop := Exa Z h a "java/lang/String" ∧ Fld Z h a "java/lang/String" "coder" "B" (.int 0) ∧ ∃ b k, Fld Z h a "java/lang/String" "value" "[B" (.ref b) ∧ Arv Z h b k .byte z vs (.int 0)
theorem Str.ext {h' : Heap} {a : Addr} {z : Int32} {vs : List Value} (F : Str Z h a z vs) (E : Ext h h') : Str Z h' a z vs := by
  obtain ⟨f1, f2, b, k, f3, f4⟩ := F
  exact ⟨f1.ext E, f2.ext E, b, k, f3.ext E, f4.ext E⟩
theorem strOf {a : Addr} {units : Array UInt16} {text : String} {vs : List Value} {z : Int32} (F : SlOf Z a units) (htext : utf16ToString? units = some text) (ht : (∀ c ∈ text.toList, c.toNat < 256) ∧ text.toList.map (fun c => Value.int (Jvm.Lit.byteI c.toNat.toUInt16)) = vs) (hz : ¬ z < 0) (hl : z.toNatClampNeg = vs.length) : Str Z Z.heap a z vs := by
  have hlat := Jvm.ClassFile.lat_of_text htext ht.1
  obtain ⟨q, cS, hqa, ⟨⟨s1, s2, s3, ⟨cv, kv, iv, s4, s4'⟩, ⟨cc, kc, ic, s5, s5'⟩, s6, s7, s8, s9, s10, s11, s12, s13, s14, s15, s16⟩, hfS, hcS⟩, ⟨kS, k1, k2, k3⟩, hB, hbyt⟩ := F
  subst hqa
  have eu : vs = units.toList.map fun u => Value.int (Jvm.Lit.byteI u) := by rw [← ht.2, Jvm.ClassFile.units_of_text htext ht.1, List.map_map]; rfl
  have el : vs.length = units.size := by rw [eu]; simp
  have hsl : q.SA.slots = units.map fun u => Value.int (Jvm.Lit.byteI u) := by rw [hbyt, SBG.stringBytes_lat hlat]; rfl
  have hsz : q.SA.slots.size = units.size := by rw [hsl, Array.size_map]
  have H : Has q.SA vs (.int 0) := fun j hj => by
    have hj' : j < units.size := by omega
    rw [hsl, eu]; simp [hj']
  refine ⟨⟨q.sC, kS, s1, by rw [hcS]; exact hfS, by rw [hcS]; exact k1, s3, fun ho => k3⟩, ⟨q.sC, cc, kc, ic, q.fSC, s1, s5, s7, s2, s3, s5', s9⟩, q.sd, q.SA.cls, ⟨q.sC, cv, kv, iv, q.fSV, s1, s4, s6, s2, s3, s4', s8⟩, ⟨q.SA, ⟨s10, s11, s12⟩, rfl, by rw [hsz, hl, el], hz, H, fun j hj => ?_⟩⟩
  have e1 := s16 j hj
  have e2 := H j hj
  rw [SBG.getD_of e2] at e1
  exact e1
theorem litStr {own text : String} {index : Nat} {a : Addr} {vs : List Value} {z : Int32} (hh : Jvm.Lit.constHeld Z own index) (w : (Cond.stringLink own index text).before a0 Z = true) (wS : ∀ a ∈ Bundle.stringAtoms, a.before a0 Z = true) (hcw : Jvm.Lit.compactW.before a0 Z = true) (L : Lit Z own index a) (ht : (∀ c ∈ text.toList, c.toNat < 256) ∧ text.toList.map (fun c => Value.int (Jvm.Lit.byteI c.toNat.toUInt16)) = vs) (hz : ¬ z < 0) (hl : z.toNatClampNeg = vs.length) : Str Z Z.heap a z vs := by
  have wi : (Cond.instantiable "java/lang/String" 4).before a0 Z = true := wS _ (by simp [Bundle.stringAtoms, Bundle.sN])
  have wa : (Cond.arrayClass .byte).before a0 Z = true := wS _ (by simp [Bundle.stringAtoms])
  have hH := heldStart hh w ht.1 hcw wa wi
  have L' : Z.resolvedAt? own index = some (.string a) := L
  cases hc : Z.vm.findClass own with
  | none => simp [State.resolvedAt?, hc] at L'
  | some c0 =>
    obtain ⟨k, cf, i, units, hk, hcf, hp, hu, hnm, htext, hres⟩ := Cond.stringLink_spec hc w
    have hr : k.resolved[index]? = some (some (.string a)) := by
      rcases hres with h0 | ⟨a', h0⟩
      · simp [State.resolvedAt?, hc, hk, h0] at L'
      · simp [State.resolvedAt?, hc, hk, h0] at L'
        rw [h0, L']
    exact strOf (hH c0 k cf i units a hc hk hcf hp hu (Or.inl hr)) htext ht hz hl
/-- an entry that wasn't resolved at the start and is now: the intern table finds her text there -/
theorem foundAt {own text : String} {index : Nat} {a : Addr} {vm1 : Vm} (hW : Z.Warmed39 vm1) (w : (Cond.stringLink own index text).before a0 Z = true) (hno : ¬ ∃ a, Lit Z own index a) (L : Lit (s.setVm vm1) own index a) : ∃ units : Array UInt16, utf16ToString? units = some text ∧ vm1.interned.find? (fun p => p.1 == units) = some (units, a) := by
  have L' : (s.setVm vm1).resolvedAt? own index = some (.string a) := L
  have hal := hW.alike
  cases hc : Z.vm.findClass own with
  | none =>
    have hc' : vm1.findClass own = none := by rw [hal.findClass]; exact hc
    simp [State.resolvedAt?, hc'] at L'
  | some c0 =>
    have hc' : vm1.findClass own = some c0 := by rw [hal.findClass]; exact hc
    obtain ⟨k, cf, i, units, hk, hcf, hp, hu, hnm, htext, hres⟩ := Cond.stringLink_spec hc w
    obtain ⟨k', hk', hke, -, ee, -⟩ := hW.2.2.2 c0 k hk
    have hopen : k.resolved[index]? = some none := by
      rcases hres with h0 | ⟨a', h0⟩
      · exact h0
      · exact absurd ⟨a', by simp [Lit, State.resolvedAt?, hc, hk, h0]⟩ hno
    have hr : k'.resolved[index]? = some (some (.string a)) := by
      cases hq : k'.resolved[index]? with
      | none => simp [State.resolvedAt?, hc', hk', hq] at L'
      | some r =>
        cases r with
        | none => simp [State.resolvedAt?, hc', hk', hq] at L'
        | some r => simp [State.resolvedAt?, hc', hk', hq] at L'; rw [L']
    refine ⟨units, htext, ?_⟩
    rcases ee index with e0 | ⟨hop, r, e1, hr' | ⟨a3, t, si, us, rfl, -, q3, q4, q5⟩⟩
    · rw [e0, hopen] at hr; simp at hr
    · exfalso
      rw [hr] at e1
      obtain rfl : r = .string a := by simpa using e1.symm
      simp [State.rightAt, hk, hcf, hnm] at hr'
    · rw [hcf] at q3 q4
      have e3 : si = i := by simpa using q3.symm.trans hp
      subst e3
      have e4 : us = units := by simpa [ConstantPool.utf8?, hu] using q4.symm
      subst e4
      have e5 : a3 = a := by simpa using e1.symm.trans hr
      subst e5
      exact q5
theorem sameFound {text : String} {a1 a2 : Addr} {vm1 vm2 : Vm} (ht : ∀ c ∈ text.toList, c.toNat < 256) (hW : ∃ more, vm2.interned = vm1.interned ++ more) (h1 : ∃ units : Array UInt16, utf16ToString? units = some text ∧ vm1.interned.find? (fun p => p.1 == units) = some (units, a1)) (h2 : ∃ units : Array UInt16, utf16ToString? units = some text ∧ vm2.interned.find? (fun p => p.1 == units) = some (units, a2)) : a2 = a1 := by
  obtain ⟨u1, t1, f1⟩ := h1
  obtain ⟨u2, t2, f2⟩ := h2
  have e : u2 = u1 := Array.toList_inj.mp ((Jvm.ClassFile.units_of_text t2 ht).trans (Jvm.ClassFile.units_of_text t1 ht).symm)
  subst e
  obtain ⟨more, hm⟩ := hW
  rw [hm, Array.find?_append, f1] at f2
  simpa using f2.symm
theorem castS (n : Nat) (X : Stand p l e R s m args below meth c T locs cells slots) (hx : p.tables.exec = Jvm.exec) (hZ : Z.Warmed39 s.vm) {own CC : String} {index : Nat} (hown : s.vm.findClass own = some m.cls) (w : (Cond.classLink own index CC).before a0 Z = true) (eT : T.heap = h) {a : Addr} (I : Ins Z h a CC true) {rest : List Value} (hd : decode c.code pc = .ok (.checkcast index, 3)) (hn : pc + 3 = n) (K : ∀ T', Stand p l e R s m args below meth c T' locs cells slots → T'.heap = h → Ends p.tables e below Q F (T'.setTop (mkF m n Ls (.ref a :: rest)))) : Ends p.tables e below Q F (T.setTop (mkF m pc Ls (.ref a :: rest))) := by
  subst hn
  obtain ⟨T1, X1, e1, st1⟩ := castY X hx hZ hown w eT I (g := mkF m pc Ls (.ref a :: rest)) rfl rfl hd
  exact (K T1 X1 e1).step st1
theorem instY1 (n : Nat) (X : Stand p l e R s m args below meth c T locs cells slots) (hx : p.tables.exec = Jvm.exec) (hZ : Z.Warmed39 s.vm) {own CC : String} {index : Nat} (hown : s.vm.findClass own = some m.cls) (w : (Cond.classLink own index CC).before a0 Z = true) (eT : T.heap = h) {a : Addr} (I : Ins Z h a CC true) {rest : List Value} (hd : decode c.code pc = .ok (.instanceof index, 3)) (hn : pc + 3 = n) (K : ∀ T', Stand p l e R s m args below meth c T' locs cells slots → T'.heap = h → Ends p.tables e below Q F (T'.setTop (mkF m n Ls (.int 1 :: rest)))) : Ends p.tables e below Q F (T.setTop (mkF m pc Ls (.ref a :: rest))) := by
  subst hn
  obtain ⟨T1, X1, e1, st1⟩ := instY X hx hZ hown w eT I (g := mkF m pc Ls (.ref a :: rest)) rfl rfl hd
  exact (K T1 X1 e1).step st1
theorem eqN_v {t : Term} {as : Array Value} (q : (Cond.eq t .null).value as s none s [] = some true) : t.eval as s none [] s = some .null := by
  cases ht : t.eval as s none [] s with
  | none => simp [Cond.value, ht] at q
  | some x => cases x <;> simp [Cond.value, Term.eval, ht] at q ⊢
end Walk4
end Jvm.Own

namespace Jvm.Pilot.@@N@@
open Jvm Jvm.ClassFile Sem Op Lib Jvm.Free Jvm.Stand Jvm.LawKit Jvm.RoadKit Bundle Jvm.Pilot.@@N@@.Jvm.D
theorem pd_0 : parseMethodDescriptor "([B[B)Z" = some ⟨[(.array .byte), (.array .byte)], some .boolean⟩ := by decide +kernel
theorem pd_1 : parseMethodDescriptor "()Ljava/lang/String;" = some ⟨[], some (.object "java/lang/String")⟩ := by decide +kernel
theorem pd_2 : parseMethodDescriptor "(Ljava/lang/Object;)Z" = some ⟨[(.object "java/lang/Object")], some .boolean⟩ := by decide +kernel

theorem own_four (x : Int32) : x &&& 3 = 0 ∨ x &&& 3 = 1 ∨ x &&& 3 = 2 ∨ x &&& 3 = 3 := by
  have a := c_mask x 3 2 (by decide) (by decide)
  simp only [← Int32.toInt_inj, show (0 : Int32).toInt = 0 from by decide, show (1 : Int32).toInt = 1 from by decide, show (2 : Int32).toInt = 2 from by decide, show (3 : Int32).toInt = 3 from by decide]
  omega
def own_ai (Z : State) (se pl nm : Addr) (vs : List Value) : Prop := Exa Z Z.heap se "com/example/tablier/tablier/Seat" ∧ Fld Z Z.heap se "com/example/tablier/tablier/Seat" "computer" "Lcom/example/tablier/tablier/Player;" (.ref pl) ∧ Exa Z Z.heap pl "com/example/tablier/tablier/Player" ∧ Fld Z Z.heap pl "com/example/tablier/tablier/Player" "name" "Ljava/lang/String;" (.ref nm) ∧ Own.Str Z Z.heap nm (3 : Int32) vs

theorem d4_0 : decode jdk_43_method_13_code 0 = .ok (.aload_n 0, 1) := by decide +kernel
theorem d4_1 : decode jdk_43_method_13_code 1 = .ok (.arraylength, 1) := by decide +kernel
theorem d4_2 : decode jdk_43_method_13_code 2 = .ok (.aload_n 1, 1) := by decide +kernel
theorem d4_3 : decode jdk_43_method_13_code 3 = .ok (.arraylength, 1) := by decide +kernel
theorem d4_4 : decode jdk_43_method_13_code 4 = .ok (.if_icmp .ne 30, 3) := by decide +kernel
theorem d4_7 : decode jdk_43_method_13_code 7 = .ok (.iconst 0, 1) := by decide +kernel
theorem d4_8 : decode jdk_43_method_13_code 8 = .ok (.istore_n 2, 1) := by decide +kernel
theorem d4_9 : decode jdk_43_method_13_code 9 = .ok (.iload_n 2, 1) := by decide +kernel
theorem d4_10 : decode jdk_43_method_13_code 10 = .ok (.aload_n 0, 1) := by decide +kernel
theorem d4_11 : decode jdk_43_method_13_code 11 = .ok (.arraylength, 1) := by decide +kernel
theorem d4_12 : decode jdk_43_method_13_code 12 = .ok (.if_icmp .ge 20, 3) := by decide +kernel
theorem d4_15 : decode jdk_43_method_13_code 15 = .ok (.aload_n 0, 1) := by decide +kernel
theorem d4_16 : decode jdk_43_method_13_code 16 = .ok (.iload_n 2, 1) := by decide +kernel
theorem d4_17 : decode jdk_43_method_13_code 17 = .ok (.baload, 1) := by decide +kernel
theorem d4_18 : decode jdk_43_method_13_code 18 = .ok (.aload_n 1, 1) := by decide +kernel
theorem d4_19 : decode jdk_43_method_13_code 19 = .ok (.iload_n 2, 1) := by decide +kernel
theorem d4_20 : decode jdk_43_method_13_code 20 = .ok (.baload, 1) := by decide +kernel
theorem d4_21 : decode jdk_43_method_13_code 21 = .ok (.if_icmp .eq 5, 3) := by decide +kernel
theorem d4_26 : decode jdk_43_method_13_code 26 = .ok (.iinc 2 1, 3) := by decide +kernel
theorem d4_29 : decode jdk_43_method_13_code 29 = .ok (.goto (-20), 3) := by decide +kernel
theorem d4_32 : decode jdk_43_method_13_code 32 = .ok (.iconst 1, 1) := by decide +kernel
theorem d4_33 : decode jdk_43_method_13_code 33 = .ok (.ireturn, 1) := by decide +kernel
set_option maxRecDepth 65536 in
set_option maxHeartbeats 40000000 in
theorem m4_person (l : Launch) (Z : State) (a0 : Array Value) (w : ∀ (i : Nat) {d : Jvm.Cond}, tables_1[i]? = some d → d.before a0 Z = true) (a0' : Addr) (a1' : Addr) (k1 k2 : ClassId) (h0 : Heap) (V1 : Arv Z h0 a0' k1 .byte (6 : Int32) [(.int (112 : Int32)), (.int (101 : Int32)), (.int (114 : Int32)), (.int (115 : Int32)), (.int (111 : Int32)), (.int (110 : Int32))] (.int (0 : Int32))) (V2 : Arv Z h0 a1' k2 .byte (6 : Int32) [(.int (112 : Int32)), (.int (101 : Int32)), (.int (114 : Int32)), (.int (115 : Int32)), (.int (111 : Int32)), (.int (110 : Int32))] (.int (0 : Int32))) :
    Own.Met l Z (⟨"java/lang/StringLatin1", "equals", "([B[B)Z"⟩ : MethodName) jdk_43_method_13_code 3 (some .boolean) [] ({ frames := 0, cells := 0, slots := 0, locals := 0 } : Room) #[(.ref a0'), (.ref a1')] h0 (fun v h L => v = some (.int 1) ∧ h = h0 ∧ L = []) := by
  refine Own.Met.of (plainFor_of_name (by first | (simp [plainName, overriddenIn]; done) | decide +kernel)) ?_
  intro p e s m below meth c T0 hx hby hml hown hnm hret hlk hZ X0 e0
  have hown : s.vm.findClass "java/lang/StringLatin1" = some m.cls := hown
  have hml : c.maxLocals = 3 := hml
  have hnm : meth.name = "equals" := hnm
  have ef : entryFrame m #[(.ref a0'), (.ref a1')] 3 = mkF m 0 #[.val (.ref a0'), .val (.ref a1'), .unset] [] := by first | (simp [entryFrame, mkF, argsToLocals, Value.category]; done) | rfl
  rw [ef]
  refine Own.aloadN 1 X0 hx (hb hby d4_0) rfl rfl rfl ?_
  refine Own.arrLen 2 X0 hx hZ e0 V1 (hb hby d4_1) rfl ?_
  refine Own.aloadN 3 X0 hx (hb hby d4_2) rfl rfl rfl ?_
  refine Own.arrLen 4 X0 hx hZ e0 V2 (hb hby d4_3) rfl ?_
  refine Own.icmp_ne 34 7 X0 hx (hb hby d4_4) (by decide) rfl (fun tk => absurd tk (by decide)) (fun tk => ?_)
  refine Own.iconst 8 X0 hx ((0 : Int32)) (hb hby d4_7) rfl rfl ?_
  refine Own.istoreNV 9 #[.val (.ref a0'), .val (.ref a1'), .val (.int (0 : Int32))] X0 hx (hb hby d4_8) rfl rfl ?_
  refine Own.iloadN 10 X0 hx (hb hby d4_9) rfl rfl ?_
  refine Own.aloadN 11 X0 hx (hb hby d4_10) rfl rfl rfl ?_
  refine Own.arrLen 12 X0 hx hZ e0 V1 (hb hby d4_11) rfl ?_
  refine Own.icmp_ge 32 15 X0 hx (hb hby d4_12) (by decide) rfl (fun tk => absurd tk (by decide)) (fun tk => ?_)
  refine Own.aloadN 16 X0 hx (hb hby d4_15) rfl rfl rfl ?_
  refine Own.iloadN 17 X0 hx (hb hby d4_16) rfl rfl ?_
  refine Own.baload 18 X0 hx hZ e0 ((112 : Int32)) V1 (by decide) rfl (hb hby d4_17) rfl ?_
  refine Own.aloadN 19 X0 hx (hb hby d4_18) rfl rfl rfl ?_
  refine Own.iloadN 20 X0 hx (hb hby d4_19) rfl rfl ?_
  refine Own.baload 21 X0 hx hZ e0 ((112 : Int32)) V2 (by decide) rfl (hb hby d4_20) rfl ?_
  refine Own.icmp_eq 26 24 X0 hx (hb hby d4_21) (by decide) rfl (fun tk => ?_) (fun tk => absurd tk (by decide))
  refine Own.iinc 29 (fun c_1 => #[.val (.ref a0'), .val (.ref a1'), .val (.int c_1)]) X0 hx ((1 : Int32)) (hb hby d4_26) rfl rfl rfl (fun _ => rfl) fun c_1 hc_1 => ?_
  obtain rfl : c_1 = (1 : Int32) := hc_1.trans (by decide)
  refine Own.goto 9 X0 hx (hb hby d4_29) (by decide) ?_
  refine Own.iloadN 10 X0 hx (hb hby d4_9) rfl rfl ?_
  refine Own.aloadN 11 X0 hx (hb hby d4_10) rfl rfl rfl ?_
  refine Own.arrLen 12 X0 hx hZ e0 V1 (hb hby d4_11) rfl ?_
  refine Own.icmp_ge 32 15 X0 hx (hb hby d4_12) (by decide) rfl (fun tk => absurd tk (by decide)) (fun tk => ?_)
  refine Own.aloadN 16 X0 hx (hb hby d4_15) rfl rfl rfl ?_
  refine Own.iloadN 17 X0 hx (hb hby d4_16) rfl rfl ?_
  refine Own.baload 18 X0 hx hZ e0 ((101 : Int32)) V1 (by decide) rfl (hb hby d4_17) rfl ?_
  refine Own.aloadN 19 X0 hx (hb hby d4_18) rfl rfl rfl ?_
  refine Own.iloadN 20 X0 hx (hb hby d4_19) rfl rfl ?_
  refine Own.baload 21 X0 hx hZ e0 ((101 : Int32)) V2 (by decide) rfl (hb hby d4_20) rfl ?_
  refine Own.icmp_eq 26 24 X0 hx (hb hby d4_21) (by decide) rfl (fun tk => ?_) (fun tk => absurd tk (by decide))
  refine Own.iinc 29 (fun c_2 => #[.val (.ref a0'), .val (.ref a1'), .val (.int c_2)]) X0 hx ((1 : Int32)) (hb hby d4_26) rfl rfl rfl (fun _ => rfl) fun c_2 hc_2 => ?_
  obtain rfl : c_2 = (2 : Int32) := hc_2.trans (by decide)
  refine Own.goto 9 X0 hx (hb hby d4_29) (by decide) ?_
  refine Own.iloadN 10 X0 hx (hb hby d4_9) rfl rfl ?_
  refine Own.aloadN 11 X0 hx (hb hby d4_10) rfl rfl rfl ?_
  refine Own.arrLen 12 X0 hx hZ e0 V1 (hb hby d4_11) rfl ?_
  refine Own.icmp_ge 32 15 X0 hx (hb hby d4_12) (by decide) rfl (fun tk => absurd tk (by decide)) (fun tk => ?_)
  refine Own.aloadN 16 X0 hx (hb hby d4_15) rfl rfl rfl ?_
  refine Own.iloadN 17 X0 hx (hb hby d4_16) rfl rfl ?_
  refine Own.baload 18 X0 hx hZ e0 ((114 : Int32)) V1 (by decide) rfl (hb hby d4_17) rfl ?_
  refine Own.aloadN 19 X0 hx (hb hby d4_18) rfl rfl rfl ?_
  refine Own.iloadN 20 X0 hx (hb hby d4_19) rfl rfl ?_
  refine Own.baload 21 X0 hx hZ e0 ((114 : Int32)) V2 (by decide) rfl (hb hby d4_20) rfl ?_
  refine Own.icmp_eq 26 24 X0 hx (hb hby d4_21) (by decide) rfl (fun tk => ?_) (fun tk => absurd tk (by decide))
  refine Own.iinc 29 (fun c_3 => #[.val (.ref a0'), .val (.ref a1'), .val (.int c_3)]) X0 hx ((1 : Int32)) (hb hby d4_26) rfl rfl rfl (fun _ => rfl) fun c_3 hc_3 => ?_
  obtain rfl : c_3 = (3 : Int32) := hc_3.trans (by decide)
  refine Own.goto 9 X0 hx (hb hby d4_29) (by decide) ?_
  refine Own.iloadN 10 X0 hx (hb hby d4_9) rfl rfl ?_
  refine Own.aloadN 11 X0 hx (hb hby d4_10) rfl rfl rfl ?_
  refine Own.arrLen 12 X0 hx hZ e0 V1 (hb hby d4_11) rfl ?_
  refine Own.icmp_ge 32 15 X0 hx (hb hby d4_12) (by decide) rfl (fun tk => absurd tk (by decide)) (fun tk => ?_)
  refine Own.aloadN 16 X0 hx (hb hby d4_15) rfl rfl rfl ?_
  refine Own.iloadN 17 X0 hx (hb hby d4_16) rfl rfl ?_
  refine Own.baload 18 X0 hx hZ e0 ((115 : Int32)) V1 (by decide) rfl (hb hby d4_17) rfl ?_
  refine Own.aloadN 19 X0 hx (hb hby d4_18) rfl rfl rfl ?_
  refine Own.iloadN 20 X0 hx (hb hby d4_19) rfl rfl ?_
  refine Own.baload 21 X0 hx hZ e0 ((115 : Int32)) V2 (by decide) rfl (hb hby d4_20) rfl ?_
  refine Own.icmp_eq 26 24 X0 hx (hb hby d4_21) (by decide) rfl (fun tk => ?_) (fun tk => absurd tk (by decide))
  refine Own.iinc 29 (fun c_4 => #[.val (.ref a0'), .val (.ref a1'), .val (.int c_4)]) X0 hx ((1 : Int32)) (hb hby d4_26) rfl rfl rfl (fun _ => rfl) fun c_4 hc_4 => ?_
  obtain rfl : c_4 = (4 : Int32) := hc_4.trans (by decide)
  refine Own.goto 9 X0 hx (hb hby d4_29) (by decide) ?_
  refine Own.iloadN 10 X0 hx (hb hby d4_9) rfl rfl ?_
  refine Own.aloadN 11 X0 hx (hb hby d4_10) rfl rfl rfl ?_
  refine Own.arrLen 12 X0 hx hZ e0 V1 (hb hby d4_11) rfl ?_
  refine Own.icmp_ge 32 15 X0 hx (hb hby d4_12) (by decide) rfl (fun tk => absurd tk (by decide)) (fun tk => ?_)
  refine Own.aloadN 16 X0 hx (hb hby d4_15) rfl rfl rfl ?_
  refine Own.iloadN 17 X0 hx (hb hby d4_16) rfl rfl ?_
  refine Own.baload 18 X0 hx hZ e0 ((111 : Int32)) V1 (by decide) rfl (hb hby d4_17) rfl ?_
  refine Own.aloadN 19 X0 hx (hb hby d4_18) rfl rfl rfl ?_
  refine Own.iloadN 20 X0 hx (hb hby d4_19) rfl rfl ?_
  refine Own.baload 21 X0 hx hZ e0 ((111 : Int32)) V2 (by decide) rfl (hb hby d4_20) rfl ?_
  refine Own.icmp_eq 26 24 X0 hx (hb hby d4_21) (by decide) rfl (fun tk => ?_) (fun tk => absurd tk (by decide))
  refine Own.iinc 29 (fun c_5 => #[.val (.ref a0'), .val (.ref a1'), .val (.int c_5)]) X0 hx ((1 : Int32)) (hb hby d4_26) rfl rfl rfl (fun _ => rfl) fun c_5 hc_5 => ?_
  obtain rfl : c_5 = (5 : Int32) := hc_5.trans (by decide)
  refine Own.goto 9 X0 hx (hb hby d4_29) (by decide) ?_
  refine Own.iloadN 10 X0 hx (hb hby d4_9) rfl rfl ?_
  refine Own.aloadN 11 X0 hx (hb hby d4_10) rfl rfl rfl ?_
  refine Own.arrLen 12 X0 hx hZ e0 V1 (hb hby d4_11) rfl ?_
  refine Own.icmp_ge 32 15 X0 hx (hb hby d4_12) (by decide) rfl (fun tk => absurd tk (by decide)) (fun tk => ?_)
  refine Own.aloadN 16 X0 hx (hb hby d4_15) rfl rfl rfl ?_
  refine Own.iloadN 17 X0 hx (hb hby d4_16) rfl rfl ?_
  refine Own.baload 18 X0 hx hZ e0 ((110 : Int32)) V1 (by decide) rfl (hb hby d4_17) rfl ?_
  refine Own.aloadN 19 X0 hx (hb hby d4_18) rfl rfl rfl ?_
  refine Own.iloadN 20 X0 hx (hb hby d4_19) rfl rfl ?_
  refine Own.baload 21 X0 hx hZ e0 ((110 : Int32)) V2 (by decide) rfl (hb hby d4_20) rfl ?_
  refine Own.icmp_eq 26 24 X0 hx (hb hby d4_21) (by decide) rfl (fun tk => ?_) (fun tk => absurd tk (by decide))
  refine Own.iinc 29 (fun c_6 => #[.val (.ref a0'), .val (.ref a1'), .val (.int c_6)]) X0 hx ((1 : Int32)) (hb hby d4_26) rfl rfl rfl (fun _ => rfl) fun c_6 hc_6 => ?_
  obtain rfl : c_6 = (6 : Int32) := hc_6.trans (by decide)
  refine Own.goto 9 X0 hx (hb hby d4_29) (by decide) ?_
  refine Own.iloadN 10 X0 hx (hb hby d4_9) rfl rfl ?_
  refine Own.aloadN 11 X0 hx (hb hby d4_10) rfl rfl rfl ?_
  refine Own.arrLen 12 X0 hx hZ e0 V1 (hb hby d4_11) rfl ?_
  refine Own.icmp_ge 32 15 X0 hx (hb hby d4_12) (by decide) rfl (fun tk => ?_) (fun tk => absurd tk (by decide))
  refine Own.iconst 33 X0 hx ((1 : Int32)) (hb hby d4_32) rfl rfl ?_
  refine Own.retBool X0 hx hlk hret (hb hby d4_33) (by decide) (by decide) ?_
  exact ⟨rfl, e0, rfl⟩
set_option maxRecDepth 65536 in
set_option maxHeartbeats 40000000 in
theorem m4_ai1 (l : Launch) (Z : State) (a0 : Array Value) (w : ∀ (i : Nat) {d : Jvm.Cond}, tables_1[i]? = some d → d.before a0 Z = true) (a0' : Addr) (a1' : Addr) (k1 k2 : ClassId) (h0 : Heap) (V1 : Arv Z h0 a0' k1 .byte (3 : Int32) [(.int (97 : Int32)), (.int (105 : Int32)), (.int (49 : Int32))] (.int (0 : Int32))) (V2 : Arv Z h0 a1' k2 .byte (3 : Int32) [(.int (97 : Int32)), (.int (105 : Int32)), (.int (49 : Int32))] (.int (0 : Int32))) :
    Own.Met l Z (⟨"java/lang/StringLatin1", "equals", "([B[B)Z"⟩ : MethodName) jdk_43_method_13_code 3 (some .boolean) [] ({ frames := 0, cells := 0, slots := 0, locals := 0 } : Room) #[(.ref a0'), (.ref a1')] h0 (fun v h L => v = some (.int 1) ∧ h = h0 ∧ L = []) := by
  refine Own.Met.of (plainFor_of_name (by first | (simp [plainName, overriddenIn]; done) | decide +kernel)) ?_
  intro p e s m below meth c T0 hx hby hml hown hnm hret hlk hZ X0 e0
  have hown : s.vm.findClass "java/lang/StringLatin1" = some m.cls := hown
  have hml : c.maxLocals = 3 := hml
  have hnm : meth.name = "equals" := hnm
  have ef : entryFrame m #[(.ref a0'), (.ref a1')] 3 = mkF m 0 #[.val (.ref a0'), .val (.ref a1'), .unset] [] := by first | (simp [entryFrame, mkF, argsToLocals, Value.category]; done) | rfl
  rw [ef]
  refine Own.aloadN 1 X0 hx (hb hby d4_0) rfl rfl rfl ?_
  refine Own.arrLen 2 X0 hx hZ e0 V1 (hb hby d4_1) rfl ?_
  refine Own.aloadN 3 X0 hx (hb hby d4_2) rfl rfl rfl ?_
  refine Own.arrLen 4 X0 hx hZ e0 V2 (hb hby d4_3) rfl ?_
  refine Own.icmp_ne 34 7 X0 hx (hb hby d4_4) (by decide) rfl (fun tk => absurd tk (by decide)) (fun tk => ?_)
  refine Own.iconst 8 X0 hx ((0 : Int32)) (hb hby d4_7) rfl rfl ?_
  refine Own.istoreNV 9 #[.val (.ref a0'), .val (.ref a1'), .val (.int (0 : Int32))] X0 hx (hb hby d4_8) rfl rfl ?_
  refine Own.iloadN 10 X0 hx (hb hby d4_9) rfl rfl ?_
  refine Own.aloadN 11 X0 hx (hb hby d4_10) rfl rfl rfl ?_
  refine Own.arrLen 12 X0 hx hZ e0 V1 (hb hby d4_11) rfl ?_
  refine Own.icmp_ge 32 15 X0 hx (hb hby d4_12) (by decide) rfl (fun tk => absurd tk (by decide)) (fun tk => ?_)
  refine Own.aloadN 16 X0 hx (hb hby d4_15) rfl rfl rfl ?_
  refine Own.iloadN 17 X0 hx (hb hby d4_16) rfl rfl ?_
  refine Own.baload 18 X0 hx hZ e0 ((97 : Int32)) V1 (by decide) rfl (hb hby d4_17) rfl ?_
  refine Own.aloadN 19 X0 hx (hb hby d4_18) rfl rfl rfl ?_
  refine Own.iloadN 20 X0 hx (hb hby d4_19) rfl rfl ?_
  refine Own.baload 21 X0 hx hZ e0 ((97 : Int32)) V2 (by decide) rfl (hb hby d4_20) rfl ?_
  refine Own.icmp_eq 26 24 X0 hx (hb hby d4_21) (by decide) rfl (fun tk => ?_) (fun tk => absurd tk (by decide))
  refine Own.iinc 29 (fun c_1 => #[.val (.ref a0'), .val (.ref a1'), .val (.int c_1)]) X0 hx ((1 : Int32)) (hb hby d4_26) rfl rfl rfl (fun _ => rfl) fun c_1 hc_1 => ?_
  obtain rfl : c_1 = (1 : Int32) := hc_1.trans (by decide)
  refine Own.goto 9 X0 hx (hb hby d4_29) (by decide) ?_
  refine Own.iloadN 10 X0 hx (hb hby d4_9) rfl rfl ?_
  refine Own.aloadN 11 X0 hx (hb hby d4_10) rfl rfl rfl ?_
  refine Own.arrLen 12 X0 hx hZ e0 V1 (hb hby d4_11) rfl ?_
  refine Own.icmp_ge 32 15 X0 hx (hb hby d4_12) (by decide) rfl (fun tk => absurd tk (by decide)) (fun tk => ?_)
  refine Own.aloadN 16 X0 hx (hb hby d4_15) rfl rfl rfl ?_
  refine Own.iloadN 17 X0 hx (hb hby d4_16) rfl rfl ?_
  refine Own.baload 18 X0 hx hZ e0 ((105 : Int32)) V1 (by decide) rfl (hb hby d4_17) rfl ?_
  refine Own.aloadN 19 X0 hx (hb hby d4_18) rfl rfl rfl ?_
  refine Own.iloadN 20 X0 hx (hb hby d4_19) rfl rfl ?_
  refine Own.baload 21 X0 hx hZ e0 ((105 : Int32)) V2 (by decide) rfl (hb hby d4_20) rfl ?_
  refine Own.icmp_eq 26 24 X0 hx (hb hby d4_21) (by decide) rfl (fun tk => ?_) (fun tk => absurd tk (by decide))
  refine Own.iinc 29 (fun c_2 => #[.val (.ref a0'), .val (.ref a1'), .val (.int c_2)]) X0 hx ((1 : Int32)) (hb hby d4_26) rfl rfl rfl (fun _ => rfl) fun c_2 hc_2 => ?_
  obtain rfl : c_2 = (2 : Int32) := hc_2.trans (by decide)
  refine Own.goto 9 X0 hx (hb hby d4_29) (by decide) ?_
  refine Own.iloadN 10 X0 hx (hb hby d4_9) rfl rfl ?_
  refine Own.aloadN 11 X0 hx (hb hby d4_10) rfl rfl rfl ?_
  refine Own.arrLen 12 X0 hx hZ e0 V1 (hb hby d4_11) rfl ?_
  refine Own.icmp_ge 32 15 X0 hx (hb hby d4_12) (by decide) rfl (fun tk => absurd tk (by decide)) (fun tk => ?_)
  refine Own.aloadN 16 X0 hx (hb hby d4_15) rfl rfl rfl ?_
  refine Own.iloadN 17 X0 hx (hb hby d4_16) rfl rfl ?_
  refine Own.baload 18 X0 hx hZ e0 ((49 : Int32)) V1 (by decide) rfl (hb hby d4_17) rfl ?_
  refine Own.aloadN 19 X0 hx (hb hby d4_18) rfl rfl rfl ?_
  refine Own.iloadN 20 X0 hx (hb hby d4_19) rfl rfl ?_
  refine Own.baload 21 X0 hx hZ e0 ((49 : Int32)) V2 (by decide) rfl (hb hby d4_20) rfl ?_
  refine Own.icmp_eq 26 24 X0 hx (hb hby d4_21) (by decide) rfl (fun tk => ?_) (fun tk => absurd tk (by decide))
  refine Own.iinc 29 (fun c_3 => #[.val (.ref a0'), .val (.ref a1'), .val (.int c_3)]) X0 hx ((1 : Int32)) (hb hby d4_26) rfl rfl rfl (fun _ => rfl) fun c_3 hc_3 => ?_
  obtain rfl : c_3 = (3 : Int32) := hc_3.trans (by decide)
  refine Own.goto 9 X0 hx (hb hby d4_29) (by decide) ?_
  refine Own.iloadN 10 X0 hx (hb hby d4_9) rfl rfl ?_
  refine Own.aloadN 11 X0 hx (hb hby d4_10) rfl rfl rfl ?_
  refine Own.arrLen 12 X0 hx hZ e0 V1 (hb hby d4_11) rfl ?_
  refine Own.icmp_ge 32 15 X0 hx (hb hby d4_12) (by decide) rfl (fun tk => ?_) (fun tk => absurd tk (by decide))
  refine Own.iconst 33 X0 hx ((1 : Int32)) (hb hby d4_32) rfl rfl ?_
  refine Own.retBool X0 hx hlk hret (hb hby d4_33) (by decide) (by decide) ?_
  exact ⟨rfl, e0, rfl⟩
set_option maxRecDepth 65536 in
set_option maxHeartbeats 40000000 in
theorem m4_ai2 (l : Launch) (Z : State) (a0 : Array Value) (w : ∀ (i : Nat) {d : Jvm.Cond}, tables_1[i]? = some d → d.before a0 Z = true) (a0' : Addr) (a1' : Addr) (k1 k2 : ClassId) (h0 : Heap) (V1 : Arv Z h0 a0' k1 .byte (3 : Int32) [(.int (97 : Int32)), (.int (105 : Int32)), (.int (50 : Int32))] (.int (0 : Int32))) (V2 : Arv Z h0 a1' k2 .byte (3 : Int32) [(.int (97 : Int32)), (.int (105 : Int32)), (.int (50 : Int32))] (.int (0 : Int32))) :
    Own.Met l Z (⟨"java/lang/StringLatin1", "equals", "([B[B)Z"⟩ : MethodName) jdk_43_method_13_code 3 (some .boolean) [] ({ frames := 0, cells := 0, slots := 0, locals := 0 } : Room) #[(.ref a0'), (.ref a1')] h0 (fun v h L => v = some (.int 1) ∧ h = h0 ∧ L = []) := by
  refine Own.Met.of (plainFor_of_name (by first | (simp [plainName, overriddenIn]; done) | decide +kernel)) ?_
  intro p e s m below meth c T0 hx hby hml hown hnm hret hlk hZ X0 e0
  have hown : s.vm.findClass "java/lang/StringLatin1" = some m.cls := hown
  have hml : c.maxLocals = 3 := hml
  have hnm : meth.name = "equals" := hnm
  have ef : entryFrame m #[(.ref a0'), (.ref a1')] 3 = mkF m 0 #[.val (.ref a0'), .val (.ref a1'), .unset] [] := by first | (simp [entryFrame, mkF, argsToLocals, Value.category]; done) | rfl
  rw [ef]
  refine Own.aloadN 1 X0 hx (hb hby d4_0) rfl rfl rfl ?_
  refine Own.arrLen 2 X0 hx hZ e0 V1 (hb hby d4_1) rfl ?_
  refine Own.aloadN 3 X0 hx (hb hby d4_2) rfl rfl rfl ?_
  refine Own.arrLen 4 X0 hx hZ e0 V2 (hb hby d4_3) rfl ?_
  refine Own.icmp_ne 34 7 X0 hx (hb hby d4_4) (by decide) rfl (fun tk => absurd tk (by decide)) (fun tk => ?_)
  refine Own.iconst 8 X0 hx ((0 : Int32)) (hb hby d4_7) rfl rfl ?_
  refine Own.istoreNV 9 #[.val (.ref a0'), .val (.ref a1'), .val (.int (0 : Int32))] X0 hx (hb hby d4_8) rfl rfl ?_
  refine Own.iloadN 10 X0 hx (hb hby d4_9) rfl rfl ?_
  refine Own.aloadN 11 X0 hx (hb hby d4_10) rfl rfl rfl ?_
  refine Own.arrLen 12 X0 hx hZ e0 V1 (hb hby d4_11) rfl ?_
  refine Own.icmp_ge 32 15 X0 hx (hb hby d4_12) (by decide) rfl (fun tk => absurd tk (by decide)) (fun tk => ?_)
  refine Own.aloadN 16 X0 hx (hb hby d4_15) rfl rfl rfl ?_
  refine Own.iloadN 17 X0 hx (hb hby d4_16) rfl rfl ?_
  refine Own.baload 18 X0 hx hZ e0 ((97 : Int32)) V1 (by decide) rfl (hb hby d4_17) rfl ?_
  refine Own.aloadN 19 X0 hx (hb hby d4_18) rfl rfl rfl ?_
  refine Own.iloadN 20 X0 hx (hb hby d4_19) rfl rfl ?_
  refine Own.baload 21 X0 hx hZ e0 ((97 : Int32)) V2 (by decide) rfl (hb hby d4_20) rfl ?_
  refine Own.icmp_eq 26 24 X0 hx (hb hby d4_21) (by decide) rfl (fun tk => ?_) (fun tk => absurd tk (by decide))
  refine Own.iinc 29 (fun c_1 => #[.val (.ref a0'), .val (.ref a1'), .val (.int c_1)]) X0 hx ((1 : Int32)) (hb hby d4_26) rfl rfl rfl (fun _ => rfl) fun c_1 hc_1 => ?_
  obtain rfl : c_1 = (1 : Int32) := hc_1.trans (by decide)
  refine Own.goto 9 X0 hx (hb hby d4_29) (by decide) ?_
  refine Own.iloadN 10 X0 hx (hb hby d4_9) rfl rfl ?_
  refine Own.aloadN 11 X0 hx (hb hby d4_10) rfl rfl rfl ?_
  refine Own.arrLen 12 X0 hx hZ e0 V1 (hb hby d4_11) rfl ?_
  refine Own.icmp_ge 32 15 X0 hx (hb hby d4_12) (by decide) rfl (fun tk => absurd tk (by decide)) (fun tk => ?_)
  refine Own.aloadN 16 X0 hx (hb hby d4_15) rfl rfl rfl ?_
  refine Own.iloadN 17 X0 hx (hb hby d4_16) rfl rfl ?_
  refine Own.baload 18 X0 hx hZ e0 ((105 : Int32)) V1 (by decide) rfl (hb hby d4_17) rfl ?_
  refine Own.aloadN 19 X0 hx (hb hby d4_18) rfl rfl rfl ?_
  refine Own.iloadN 20 X0 hx (hb hby d4_19) rfl rfl ?_
  refine Own.baload 21 X0 hx hZ e0 ((105 : Int32)) V2 (by decide) rfl (hb hby d4_20) rfl ?_
  refine Own.icmp_eq 26 24 X0 hx (hb hby d4_21) (by decide) rfl (fun tk => ?_) (fun tk => absurd tk (by decide))
  refine Own.iinc 29 (fun c_2 => #[.val (.ref a0'), .val (.ref a1'), .val (.int c_2)]) X0 hx ((1 : Int32)) (hb hby d4_26) rfl rfl rfl (fun _ => rfl) fun c_2 hc_2 => ?_
  obtain rfl : c_2 = (2 : Int32) := hc_2.trans (by decide)
  refine Own.goto 9 X0 hx (hb hby d4_29) (by decide) ?_
  refine Own.iloadN 10 X0 hx (hb hby d4_9) rfl rfl ?_
  refine Own.aloadN 11 X0 hx (hb hby d4_10) rfl rfl rfl ?_
  refine Own.arrLen 12 X0 hx hZ e0 V1 (hb hby d4_11) rfl ?_
  refine Own.icmp_ge 32 15 X0 hx (hb hby d4_12) (by decide) rfl (fun tk => absurd tk (by decide)) (fun tk => ?_)
  refine Own.aloadN 16 X0 hx (hb hby d4_15) rfl rfl rfl ?_
  refine Own.iloadN 17 X0 hx (hb hby d4_16) rfl rfl ?_
  refine Own.baload 18 X0 hx hZ e0 ((50 : Int32)) V1 (by decide) rfl (hb hby d4_17) rfl ?_
  refine Own.aloadN 19 X0 hx (hb hby d4_18) rfl rfl rfl ?_
  refine Own.iloadN 20 X0 hx (hb hby d4_19) rfl rfl ?_
  refine Own.baload 21 X0 hx hZ e0 ((50 : Int32)) V2 (by decide) rfl (hb hby d4_20) rfl ?_
  refine Own.icmp_eq 26 24 X0 hx (hb hby d4_21) (by decide) rfl (fun tk => ?_) (fun tk => absurd tk (by decide))
  refine Own.iinc 29 (fun c_3 => #[.val (.ref a0'), .val (.ref a1'), .val (.int c_3)]) X0 hx ((1 : Int32)) (hb hby d4_26) rfl rfl rfl (fun _ => rfl) fun c_3 hc_3 => ?_
  obtain rfl : c_3 = (3 : Int32) := hc_3.trans (by decide)
  refine Own.goto 9 X0 hx (hb hby d4_29) (by decide) ?_
  refine Own.iloadN 10 X0 hx (hb hby d4_9) rfl rfl ?_
  refine Own.aloadN 11 X0 hx (hb hby d4_10) rfl rfl rfl ?_
  refine Own.arrLen 12 X0 hx hZ e0 V1 (hb hby d4_11) rfl ?_
  refine Own.icmp_ge 32 15 X0 hx (hb hby d4_12) (by decide) rfl (fun tk => ?_) (fun tk => absurd tk (by decide))
  refine Own.iconst 33 X0 hx ((1 : Int32)) (hb hby d4_32) rfl rfl ?_
  refine Own.retBool X0 hx hlk hret (hb hby d4_33) (by decide) (by decide) ?_
  exact ⟨rfl, e0, rfl⟩
set_option maxRecDepth 65536 in
set_option maxHeartbeats 40000000 in
theorem m4_ai3 (l : Launch) (Z : State) (a0 : Array Value) (w : ∀ (i : Nat) {d : Jvm.Cond}, tables_1[i]? = some d → d.before a0 Z = true) (a0' : Addr) (a1' : Addr) (k1 k2 : ClassId) (h0 : Heap) (V1 : Arv Z h0 a0' k1 .byte (3 : Int32) [(.int (97 : Int32)), (.int (105 : Int32)), (.int (51 : Int32))] (.int (0 : Int32))) (V2 : Arv Z h0 a1' k2 .byte (3 : Int32) [(.int (97 : Int32)), (.int (105 : Int32)), (.int (51 : Int32))] (.int (0 : Int32))) :
    Own.Met l Z (⟨"java/lang/StringLatin1", "equals", "([B[B)Z"⟩ : MethodName) jdk_43_method_13_code 3 (some .boolean) [] ({ frames := 0, cells := 0, slots := 0, locals := 0 } : Room) #[(.ref a0'), (.ref a1')] h0 (fun v h L => v = some (.int 1) ∧ h = h0 ∧ L = []) := by
  refine Own.Met.of (plainFor_of_name (by first | (simp [plainName, overriddenIn]; done) | decide +kernel)) ?_
  intro p e s m below meth c T0 hx hby hml hown hnm hret hlk hZ X0 e0
  have hown : s.vm.findClass "java/lang/StringLatin1" = some m.cls := hown
  have hml : c.maxLocals = 3 := hml
  have hnm : meth.name = "equals" := hnm
  have ef : entryFrame m #[(.ref a0'), (.ref a1')] 3 = mkF m 0 #[.val (.ref a0'), .val (.ref a1'), .unset] [] := by first | (simp [entryFrame, mkF, argsToLocals, Value.category]; done) | rfl
  rw [ef]
  refine Own.aloadN 1 X0 hx (hb hby d4_0) rfl rfl rfl ?_
  refine Own.arrLen 2 X0 hx hZ e0 V1 (hb hby d4_1) rfl ?_
  refine Own.aloadN 3 X0 hx (hb hby d4_2) rfl rfl rfl ?_
  refine Own.arrLen 4 X0 hx hZ e0 V2 (hb hby d4_3) rfl ?_
  refine Own.icmp_ne 34 7 X0 hx (hb hby d4_4) (by decide) rfl (fun tk => absurd tk (by decide)) (fun tk => ?_)
  refine Own.iconst 8 X0 hx ((0 : Int32)) (hb hby d4_7) rfl rfl ?_
  refine Own.istoreNV 9 #[.val (.ref a0'), .val (.ref a1'), .val (.int (0 : Int32))] X0 hx (hb hby d4_8) rfl rfl ?_
  refine Own.iloadN 10 X0 hx (hb hby d4_9) rfl rfl ?_
  refine Own.aloadN 11 X0 hx (hb hby d4_10) rfl rfl rfl ?_
  refine Own.arrLen 12 X0 hx hZ e0 V1 (hb hby d4_11) rfl ?_
  refine Own.icmp_ge 32 15 X0 hx (hb hby d4_12) (by decide) rfl (fun tk => absurd tk (by decide)) (fun tk => ?_)
  refine Own.aloadN 16 X0 hx (hb hby d4_15) rfl rfl rfl ?_
  refine Own.iloadN 17 X0 hx (hb hby d4_16) rfl rfl ?_
  refine Own.baload 18 X0 hx hZ e0 ((97 : Int32)) V1 (by decide) rfl (hb hby d4_17) rfl ?_
  refine Own.aloadN 19 X0 hx (hb hby d4_18) rfl rfl rfl ?_
  refine Own.iloadN 20 X0 hx (hb hby d4_19) rfl rfl ?_
  refine Own.baload 21 X0 hx hZ e0 ((97 : Int32)) V2 (by decide) rfl (hb hby d4_20) rfl ?_
  refine Own.icmp_eq 26 24 X0 hx (hb hby d4_21) (by decide) rfl (fun tk => ?_) (fun tk => absurd tk (by decide))
  refine Own.iinc 29 (fun c_1 => #[.val (.ref a0'), .val (.ref a1'), .val (.int c_1)]) X0 hx ((1 : Int32)) (hb hby d4_26) rfl rfl rfl (fun _ => rfl) fun c_1 hc_1 => ?_
  obtain rfl : c_1 = (1 : Int32) := hc_1.trans (by decide)
  refine Own.goto 9 X0 hx (hb hby d4_29) (by decide) ?_
  refine Own.iloadN 10 X0 hx (hb hby d4_9) rfl rfl ?_
  refine Own.aloadN 11 X0 hx (hb hby d4_10) rfl rfl rfl ?_
  refine Own.arrLen 12 X0 hx hZ e0 V1 (hb hby d4_11) rfl ?_
  refine Own.icmp_ge 32 15 X0 hx (hb hby d4_12) (by decide) rfl (fun tk => absurd tk (by decide)) (fun tk => ?_)
  refine Own.aloadN 16 X0 hx (hb hby d4_15) rfl rfl rfl ?_
  refine Own.iloadN 17 X0 hx (hb hby d4_16) rfl rfl ?_
  refine Own.baload 18 X0 hx hZ e0 ((105 : Int32)) V1 (by decide) rfl (hb hby d4_17) rfl ?_
  refine Own.aloadN 19 X0 hx (hb hby d4_18) rfl rfl rfl ?_
  refine Own.iloadN 20 X0 hx (hb hby d4_19) rfl rfl ?_
  refine Own.baload 21 X0 hx hZ e0 ((105 : Int32)) V2 (by decide) rfl (hb hby d4_20) rfl ?_
  refine Own.icmp_eq 26 24 X0 hx (hb hby d4_21) (by decide) rfl (fun tk => ?_) (fun tk => absurd tk (by decide))
  refine Own.iinc 29 (fun c_2 => #[.val (.ref a0'), .val (.ref a1'), .val (.int c_2)]) X0 hx ((1 : Int32)) (hb hby d4_26) rfl rfl rfl (fun _ => rfl) fun c_2 hc_2 => ?_
  obtain rfl : c_2 = (2 : Int32) := hc_2.trans (by decide)
  refine Own.goto 9 X0 hx (hb hby d4_29) (by decide) ?_
  refine Own.iloadN 10 X0 hx (hb hby d4_9) rfl rfl ?_
  refine Own.aloadN 11 X0 hx (hb hby d4_10) rfl rfl rfl ?_
  refine Own.arrLen 12 X0 hx hZ e0 V1 (hb hby d4_11) rfl ?_
  refine Own.icmp_ge 32 15 X0 hx (hb hby d4_12) (by decide) rfl (fun tk => absurd tk (by decide)) (fun tk => ?_)
  refine Own.aloadN 16 X0 hx (hb hby d4_15) rfl rfl rfl ?_
  refine Own.iloadN 17 X0 hx (hb hby d4_16) rfl rfl ?_
  refine Own.baload 18 X0 hx hZ e0 ((51 : Int32)) V1 (by decide) rfl (hb hby d4_17) rfl ?_
  refine Own.aloadN 19 X0 hx (hb hby d4_18) rfl rfl rfl ?_
  refine Own.iloadN 20 X0 hx (hb hby d4_19) rfl rfl ?_
  refine Own.baload 21 X0 hx hZ e0 ((51 : Int32)) V2 (by decide) rfl (hb hby d4_20) rfl ?_
  refine Own.icmp_eq 26 24 X0 hx (hb hby d4_21) (by decide) rfl (fun tk => ?_) (fun tk => absurd tk (by decide))
  refine Own.iinc 29 (fun c_3 => #[.val (.ref a0'), .val (.ref a1'), .val (.int c_3)]) X0 hx ((1 : Int32)) (hb hby d4_26) rfl rfl rfl (fun _ => rfl) fun c_3 hc_3 => ?_
  obtain rfl : c_3 = (3 : Int32) := hc_3.trans (by decide)
  refine Own.goto 9 X0 hx (hb hby d4_29) (by decide) ?_
  refine Own.iloadN 10 X0 hx (hb hby d4_9) rfl rfl ?_
  refine Own.aloadN 11 X0 hx (hb hby d4_10) rfl rfl rfl ?_
  refine Own.arrLen 12 X0 hx hZ e0 V1 (hb hby d4_11) rfl ?_
  refine Own.icmp_ge 32 15 X0 hx (hb hby d4_12) (by decide) rfl (fun tk => ?_) (fun tk => absurd tk (by decide))
  refine Own.iconst 33 X0 hx ((1 : Int32)) (hb hby d4_32) rfl rfl ?_
  refine Own.retBool X0 hx hlk hret (hb hby d4_33) (by decide) (by decide) ?_
  exact ⟨rfl, e0, rfl⟩
theorem d2_0 : decode jdk_42_method_66_code 0 = .ok (.aload_n 0, 1) := by decide +kernel
theorem d2_1 : decode jdk_42_method_66_code 1 = .ok (.aload_n 1, 1) := by decide +kernel
theorem d2_2 : decode jdk_42_method_66_code 2 = .ok (.if_acmp .ne 5, 3) := by decide +kernel
theorem d2_5 : decode jdk_42_method_66_code 5 = .ok (.iconst 1, 1) := by decide +kernel
theorem d2_6 : decode jdk_42_method_66_code 6 = .ok (.ireturn, 1) := by decide +kernel
theorem d2_7 : decode jdk_42_method_66_code 7 = .ok (.aload_n 1, 1) := by decide +kernel
theorem d2_8 : decode jdk_42_method_66_code 8 = .ok (.instanceof 10, 3) := by decide +kernel
theorem d2_11 : decode jdk_42_method_66_code 11 = .ok (.ifCond .eq 43, 3) := by decide +kernel
theorem d2_14 : decode jdk_42_method_66_code 14 = .ok (.aload_n 1, 1) := by decide +kernel
theorem d2_15 : decode jdk_42_method_66_code 15 = .ok (.checkcast 10, 3) := by decide +kernel
theorem d2_18 : decode jdk_42_method_66_code 18 = .ok (.astore_n 2, 1) := by decide +kernel
theorem d2_19 : decode jdk_42_method_66_code 19 = .ok (.getstatic 38, 3) := by decide +kernel
theorem d2_22 : decode jdk_42_method_66_code 22 = .ok (.ifCond .eq 14, 3) := by decide +kernel
theorem d2_25 : decode jdk_42_method_66_code 25 = .ok (.aload_n 0, 1) := by decide +kernel
theorem d2_26 : decode jdk_42_method_66_code 26 = .ok (.getfield 15, 3) := by decide +kernel
theorem d2_29 : decode jdk_42_method_66_code 29 = .ok (.aload_n 2, 1) := by decide +kernel
theorem d2_30 : decode jdk_42_method_66_code 30 = .ok (.getfield 15, 3) := by decide +kernel
theorem d2_33 : decode jdk_42_method_66_code 33 = .ok (.if_icmp .ne 21, 3) := by decide +kernel
theorem d2_36 : decode jdk_42_method_66_code 36 = .ok (.aload_n 0, 1) := by decide +kernel
theorem d2_37 : decode jdk_42_method_66_code 37 = .ok (.getfield 9, 3) := by decide +kernel
theorem d2_40 : decode jdk_42_method_66_code 40 = .ok (.aload_n 2, 1) := by decide +kernel
theorem d2_41 : decode jdk_42_method_66_code 41 = .ok (.getfield 9, 3) := by decide +kernel
theorem d2_44 : decode jdk_42_method_66_code 44 = .ok (.invokestatic 541, 3) := by decide +kernel
theorem d2_47 : decode jdk_42_method_66_code 47 = .ok (.ifCond .eq 7, 3) := by decide +kernel
theorem d2_50 : decode jdk_42_method_66_code 50 = .ok (.iconst 1, 1) := by decide +kernel
theorem d2_51 : decode jdk_42_method_66_code 51 = .ok (.goto 4, 3) := by decide +kernel
theorem d2_55 : decode jdk_42_method_66_code 55 = .ok (.ireturn, 1) := by decide +kernel
set_option maxRecDepth 65536 in
set_option maxHeartbeats 40000000 in
theorem m2_person (l : Launch) (Z : State) (a0 : Array Value) (w : ∀ (i : Nat) {d : Jvm.Cond}, tables_1[i]? = some d → d.before a0 Z = true) (a : Addr) (b : Addr) (n0 : Nat) (z : Int32) (h0 : Heap) (X00 : Old Z n0 h0) (SC : Sta Z Z.heap "java/lang/String" "COMPACT_STRINGS" "Z" (.int z)) (hz : ¬ z = 0) (S_a : Own.Str Z h0 a (6 : Int32) [(.int (112 : Int32)), (.int (101 : Int32)), (.int (114 : Int32)), (.int (115 : Int32)), (.int (111 : Int32)), (.int (110 : Int32))]) (S_b : Own.Str Z h0 b (6 : Int32) [(.int (112 : Int32)), (.int (101 : Int32)), (.int (114 : Int32)), (.int (115 : Int32)), (.int (111 : Int32)), (.int (110 : Int32))]) :
    Own.Met l Z (⟨"java/lang/String", "equals", "(Ljava/lang/Object;)Z"⟩ : MethodName) jdk_42_method_66_code 3 (some .boolean) [] ({ frames := 1, cells := 0, slots := 0, locals := 14 } : Room) #[(.ref a), (.ref b)] h0 (fun v h L => v = some (.int 1) ∧ h = h0 ∧ L = []) := by
  refine Own.Met.of (plainFor_of_name (by first | (simp [plainName, overriddenIn]; done) | decide +kernel)) ?_
  intro p e s m below meth c T0 hx hby hml hown hnm hret hlk hZ X0 e0
  have hown : s.vm.findClass "java/lang/String" = some m.cls := hown
  have hml : c.maxLocals = 3 := hml
  have hnm : meth.name = "equals" := hnm
  have ef : entryFrame m #[(.ref a), (.ref b)] 3 = mkF m 0 #[.val (.ref a), .val (.ref b), .unset] [] := by first | (simp [entryFrame, mkF, argsToLocals, Value.category]; done) | rfl
  rw [ef]
  obtain ⟨E_a, Fc_a, ba, ka, Fv_a, V_a⟩ := S_a
  obtain ⟨E_b, Fc_b, bb, kb, Fv_b, V_b⟩ := S_b
  refine Own.aloadN 1 X0 hx (hb hby d2_0) rfl rfl rfl ?_
  refine Own.aloadN 2 X0 hx (hb hby d2_1) rfl rfl rfl ?_
  refine Own.acmp_ne 7 5 X0 hx (hb hby d2_2) rfl rfl (by decide) rfl (fun q => ?_) (fun q => ?_)
  ·
    refine Own.aloadN 8 X0 hx (hb hby d2_7) rfl rfl rfl ?_
    refine Own.instY1 11 X0 hx hZ hown (w 36 rfl) e0 (Ins.self E_b) (hb hby d2_8) rfl ?_
    intro T1 X1 e1
    refine Own.if_eq 54 14 X1 hx (hb hby d2_11) (by decide) rfl (fun tk => absurd tk (by decide)) (fun tk => ?_)
    refine Own.aloadN 15 X1 hx (hb hby d2_14) rfl rfl rfl ?_
    refine Own.castS 18 X1 hx hZ hown (w 36 rfl) e1 (Ins.self E_b) (hb hby d2_15) rfl ?_
    intro T2 X2 e2
    refine Own.astoreN 19 #[.val (.ref a), .val (.ref b), .val (.ref b)] X2 hx (hb hby d2_18) rfl rfl rfl ?_
    refine Own.getSta 22 X2 hx hZ hown (host := "") (Or.inl (w 38 rfl)) Via.refl e2 (SC.ext X00.2) (hb hby d2_19) rfl ?_
    intro T3 X3 e3
    refine Own.if_eq 36 25 X3 hx (hb hby d2_22) (by decide) rfl (fun tk => absurd tk hz) (fun tk => ?_)
    refine Own.aloadN 26 X3 hx (hb hby d2_25) rfl rfl rfl ?_
    refine Own.getFld 29 X3 hx hZ hown (host := "") (Or.inl (w 39 rfl)) Via.refl e3 Fc_a (hb hby d2_26) rfl ?_
    intro T4 X4 e4
    refine Own.aloadN 30 X4 hx (hb hby d2_29) rfl rfl rfl ?_
    refine Own.getFld 33 X4 hx hZ hown (host := "") (Or.inl (w 39 rfl)) Via.refl e4 Fc_b (hb hby d2_30) rfl ?_
    intro T5 X5 e5
    refine Own.icmp_ne 54 36 X5 hx (hb hby d2_33) (by decide) rfl (fun tk => absurd tk (by decide)) (fun tk => ?_)
    refine Own.aloadN 37 X5 hx (hb hby d2_36) rfl rfl rfl ?_
    refine Own.getFld 40 X5 hx hZ hown (host := "") (Or.inl (w 40 rfl)) Via.refl e5 Fv_a (hb hby d2_37) rfl ?_
    intro T6 X6 e6
    refine Own.aloadN 41 X6 hx (hb hby d2_40) rfl rfl rfl ?_
    refine Own.getFld 44 X6 hx hZ hown (host := "") (Or.inl (w 40 rfl)) Via.refl e6 Fv_b (hb hby d2_41) rfl ?_
    intro T7 X7 e7
    refine Own.callSt 47 0 [(.ref ba), (.ref bb)] [] X7 hx hZ hown (m4_person l Z a0 w ba bb ka kb _ V_a V_b) (w 41 rfl) (w 42 rfl) (w 43 rfl) (w 44 rfl) (by decide) e7 (by decide) (by decide) (by decide) (by decide) (by rw [hml]; rfl) (lenOf pd_0 rfl) rfl (Nat.le_of_eq rfl) (hb hby d2_44) rfl ?_
    rintro vv T8 L8 X8 ⟨rfl, hh8, rfl⟩
    refine Own.if_eq 54 50 X8 hx (hb hby d2_47) (by decide) rfl (fun tk => absurd tk (by decide)) (fun tk => ?_)
    refine Own.iconst 51 X8 hx ((1 : Int32)) (hb hby d2_50) rfl rfl ?_
    refine Own.goto 55 X8 hx (hb hby d2_51) (by decide) ?_
    refine Own.retBool X8 hx hlk hret (hb hby d2_55) (by decide) (by decide) ?_
    exact ⟨rfl, hh8, rfl⟩
  ·
    refine Own.iconst 6 X0 hx ((1 : Int32)) (hb hby d2_5) rfl rfl ?_
    refine Own.retBool X0 hx hlk hret (hb hby d2_6) (by decide) (by decide) ?_
    exact ⟨rfl, e0, rfl⟩
set_option maxRecDepth 65536 in
set_option maxHeartbeats 40000000 in
theorem m2_ai1 (l : Launch) (Z : State) (a0 : Array Value) (w : ∀ (i : Nat) {d : Jvm.Cond}, tables_1[i]? = some d → d.before a0 Z = true) (a : Addr) (b : Addr) (n0 : Nat) (z : Int32) (h0 : Heap) (X00 : Old Z n0 h0) (SC : Sta Z Z.heap "java/lang/String" "COMPACT_STRINGS" "Z" (.int z)) (hz : ¬ z = 0) (S_a : Own.Str Z h0 a (3 : Int32) [(.int (97 : Int32)), (.int (105 : Int32)), (.int (49 : Int32))]) (S_b : Own.Str Z h0 b (3 : Int32) [(.int (97 : Int32)), (.int (105 : Int32)), (.int (49 : Int32))]) :
    Own.Met l Z (⟨"java/lang/String", "equals", "(Ljava/lang/Object;)Z"⟩ : MethodName) jdk_42_method_66_code 3 (some .boolean) [] ({ frames := 1, cells := 0, slots := 0, locals := 14 } : Room) #[(.ref a), (.ref b)] h0 (fun v h L => v = some (.int 1) ∧ h = h0 ∧ L = []) := by
  refine Own.Met.of (plainFor_of_name (by first | (simp [plainName, overriddenIn]; done) | decide +kernel)) ?_
  intro p e s m below meth c T0 hx hby hml hown hnm hret hlk hZ X0 e0
  have hown : s.vm.findClass "java/lang/String" = some m.cls := hown
  have hml : c.maxLocals = 3 := hml
  have hnm : meth.name = "equals" := hnm
  have ef : entryFrame m #[(.ref a), (.ref b)] 3 = mkF m 0 #[.val (.ref a), .val (.ref b), .unset] [] := by first | (simp [entryFrame, mkF, argsToLocals, Value.category]; done) | rfl
  rw [ef]
  obtain ⟨E_a, Fc_a, ba, ka, Fv_a, V_a⟩ := S_a
  obtain ⟨E_b, Fc_b, bb, kb, Fv_b, V_b⟩ := S_b
  refine Own.aloadN 1 X0 hx (hb hby d2_0) rfl rfl rfl ?_
  refine Own.aloadN 2 X0 hx (hb hby d2_1) rfl rfl rfl ?_
  refine Own.acmp_ne 7 5 X0 hx (hb hby d2_2) rfl rfl (by decide) rfl (fun q => ?_) (fun q => ?_)
  ·
    refine Own.aloadN 8 X0 hx (hb hby d2_7) rfl rfl rfl ?_
    refine Own.instY1 11 X0 hx hZ hown (w 36 rfl) e0 (Ins.self E_b) (hb hby d2_8) rfl ?_
    intro T1 X1 e1
    refine Own.if_eq 54 14 X1 hx (hb hby d2_11) (by decide) rfl (fun tk => absurd tk (by decide)) (fun tk => ?_)
    refine Own.aloadN 15 X1 hx (hb hby d2_14) rfl rfl rfl ?_
    refine Own.castS 18 X1 hx hZ hown (w 36 rfl) e1 (Ins.self E_b) (hb hby d2_15) rfl ?_
    intro T2 X2 e2
    refine Own.astoreN 19 #[.val (.ref a), .val (.ref b), .val (.ref b)] X2 hx (hb hby d2_18) rfl rfl rfl ?_
    refine Own.getSta 22 X2 hx hZ hown (host := "") (Or.inl (w 38 rfl)) Via.refl e2 (SC.ext X00.2) (hb hby d2_19) rfl ?_
    intro T3 X3 e3
    refine Own.if_eq 36 25 X3 hx (hb hby d2_22) (by decide) rfl (fun tk => absurd tk hz) (fun tk => ?_)
    refine Own.aloadN 26 X3 hx (hb hby d2_25) rfl rfl rfl ?_
    refine Own.getFld 29 X3 hx hZ hown (host := "") (Or.inl (w 39 rfl)) Via.refl e3 Fc_a (hb hby d2_26) rfl ?_
    intro T4 X4 e4
    refine Own.aloadN 30 X4 hx (hb hby d2_29) rfl rfl rfl ?_
    refine Own.getFld 33 X4 hx hZ hown (host := "") (Or.inl (w 39 rfl)) Via.refl e4 Fc_b (hb hby d2_30) rfl ?_
    intro T5 X5 e5
    refine Own.icmp_ne 54 36 X5 hx (hb hby d2_33) (by decide) rfl (fun tk => absurd tk (by decide)) (fun tk => ?_)
    refine Own.aloadN 37 X5 hx (hb hby d2_36) rfl rfl rfl ?_
    refine Own.getFld 40 X5 hx hZ hown (host := "") (Or.inl (w 40 rfl)) Via.refl e5 Fv_a (hb hby d2_37) rfl ?_
    intro T6 X6 e6
    refine Own.aloadN 41 X6 hx (hb hby d2_40) rfl rfl rfl ?_
    refine Own.getFld 44 X6 hx hZ hown (host := "") (Or.inl (w 40 rfl)) Via.refl e6 Fv_b (hb hby d2_41) rfl ?_
    intro T7 X7 e7
    refine Own.callSt 47 0 [(.ref ba), (.ref bb)] [] X7 hx hZ hown (m4_ai1 l Z a0 w ba bb ka kb _ V_a V_b) (w 41 rfl) (w 42 rfl) (w 43 rfl) (w 44 rfl) (by decide) e7 (by decide) (by decide) (by decide) (by decide) (by rw [hml]; rfl) (lenOf pd_0 rfl) rfl (Nat.le_of_eq rfl) (hb hby d2_44) rfl ?_
    rintro vv T8 L8 X8 ⟨rfl, hh8, rfl⟩
    refine Own.if_eq 54 50 X8 hx (hb hby d2_47) (by decide) rfl (fun tk => absurd tk (by decide)) (fun tk => ?_)
    refine Own.iconst 51 X8 hx ((1 : Int32)) (hb hby d2_50) rfl rfl ?_
    refine Own.goto 55 X8 hx (hb hby d2_51) (by decide) ?_
    refine Own.retBool X8 hx hlk hret (hb hby d2_55) (by decide) (by decide) ?_
    exact ⟨rfl, hh8, rfl⟩
  ·
    refine Own.iconst 6 X0 hx ((1 : Int32)) (hb hby d2_5) rfl rfl ?_
    refine Own.retBool X0 hx hlk hret (hb hby d2_6) (by decide) (by decide) ?_
    exact ⟨rfl, e0, rfl⟩
set_option maxRecDepth 65536 in
set_option maxHeartbeats 40000000 in
theorem m2_ai2 (l : Launch) (Z : State) (a0 : Array Value) (w : ∀ (i : Nat) {d : Jvm.Cond}, tables_1[i]? = some d → d.before a0 Z = true) (a : Addr) (b : Addr) (n0 : Nat) (z : Int32) (h0 : Heap) (X00 : Old Z n0 h0) (SC : Sta Z Z.heap "java/lang/String" "COMPACT_STRINGS" "Z" (.int z)) (hz : ¬ z = 0) (S_a : Own.Str Z h0 a (3 : Int32) [(.int (97 : Int32)), (.int (105 : Int32)), (.int (50 : Int32))]) (S_b : Own.Str Z h0 b (3 : Int32) [(.int (97 : Int32)), (.int (105 : Int32)), (.int (50 : Int32))]) :
    Own.Met l Z (⟨"java/lang/String", "equals", "(Ljava/lang/Object;)Z"⟩ : MethodName) jdk_42_method_66_code 3 (some .boolean) [] ({ frames := 1, cells := 0, slots := 0, locals := 14 } : Room) #[(.ref a), (.ref b)] h0 (fun v h L => v = some (.int 1) ∧ h = h0 ∧ L = []) := by
  refine Own.Met.of (plainFor_of_name (by first | (simp [plainName, overriddenIn]; done) | decide +kernel)) ?_
  intro p e s m below meth c T0 hx hby hml hown hnm hret hlk hZ X0 e0
  have hown : s.vm.findClass "java/lang/String" = some m.cls := hown
  have hml : c.maxLocals = 3 := hml
  have hnm : meth.name = "equals" := hnm
  have ef : entryFrame m #[(.ref a), (.ref b)] 3 = mkF m 0 #[.val (.ref a), .val (.ref b), .unset] [] := by first | (simp [entryFrame, mkF, argsToLocals, Value.category]; done) | rfl
  rw [ef]
  obtain ⟨E_a, Fc_a, ba, ka, Fv_a, V_a⟩ := S_a
  obtain ⟨E_b, Fc_b, bb, kb, Fv_b, V_b⟩ := S_b
  refine Own.aloadN 1 X0 hx (hb hby d2_0) rfl rfl rfl ?_
  refine Own.aloadN 2 X0 hx (hb hby d2_1) rfl rfl rfl ?_
  refine Own.acmp_ne 7 5 X0 hx (hb hby d2_2) rfl rfl (by decide) rfl (fun q => ?_) (fun q => ?_)
  ·
    refine Own.aloadN 8 X0 hx (hb hby d2_7) rfl rfl rfl ?_
    refine Own.instY1 11 X0 hx hZ hown (w 36 rfl) e0 (Ins.self E_b) (hb hby d2_8) rfl ?_
    intro T1 X1 e1
    refine Own.if_eq 54 14 X1 hx (hb hby d2_11) (by decide) rfl (fun tk => absurd tk (by decide)) (fun tk => ?_)
    refine Own.aloadN 15 X1 hx (hb hby d2_14) rfl rfl rfl ?_
    refine Own.castS 18 X1 hx hZ hown (w 36 rfl) e1 (Ins.self E_b) (hb hby d2_15) rfl ?_
    intro T2 X2 e2
    refine Own.astoreN 19 #[.val (.ref a), .val (.ref b), .val (.ref b)] X2 hx (hb hby d2_18) rfl rfl rfl ?_
    refine Own.getSta 22 X2 hx hZ hown (host := "") (Or.inl (w 38 rfl)) Via.refl e2 (SC.ext X00.2) (hb hby d2_19) rfl ?_
    intro T3 X3 e3
    refine Own.if_eq 36 25 X3 hx (hb hby d2_22) (by decide) rfl (fun tk => absurd tk hz) (fun tk => ?_)
    refine Own.aloadN 26 X3 hx (hb hby d2_25) rfl rfl rfl ?_
    refine Own.getFld 29 X3 hx hZ hown (host := "") (Or.inl (w 39 rfl)) Via.refl e3 Fc_a (hb hby d2_26) rfl ?_
    intro T4 X4 e4
    refine Own.aloadN 30 X4 hx (hb hby d2_29) rfl rfl rfl ?_
    refine Own.getFld 33 X4 hx hZ hown (host := "") (Or.inl (w 39 rfl)) Via.refl e4 Fc_b (hb hby d2_30) rfl ?_
    intro T5 X5 e5
    refine Own.icmp_ne 54 36 X5 hx (hb hby d2_33) (by decide) rfl (fun tk => absurd tk (by decide)) (fun tk => ?_)
    refine Own.aloadN 37 X5 hx (hb hby d2_36) rfl rfl rfl ?_
    refine Own.getFld 40 X5 hx hZ hown (host := "") (Or.inl (w 40 rfl)) Via.refl e5 Fv_a (hb hby d2_37) rfl ?_
    intro T6 X6 e6
    refine Own.aloadN 41 X6 hx (hb hby d2_40) rfl rfl rfl ?_
    refine Own.getFld 44 X6 hx hZ hown (host := "") (Or.inl (w 40 rfl)) Via.refl e6 Fv_b (hb hby d2_41) rfl ?_
    intro T7 X7 e7
    refine Own.callSt 47 0 [(.ref ba), (.ref bb)] [] X7 hx hZ hown (m4_ai2 l Z a0 w ba bb ka kb _ V_a V_b) (w 41 rfl) (w 42 rfl) (w 43 rfl) (w 44 rfl) (by decide) e7 (by decide) (by decide) (by decide) (by decide) (by rw [hml]; rfl) (lenOf pd_0 rfl) rfl (Nat.le_of_eq rfl) (hb hby d2_44) rfl ?_
    rintro vv T8 L8 X8 ⟨rfl, hh8, rfl⟩
    refine Own.if_eq 54 50 X8 hx (hb hby d2_47) (by decide) rfl (fun tk => absurd tk (by decide)) (fun tk => ?_)
    refine Own.iconst 51 X8 hx ((1 : Int32)) (hb hby d2_50) rfl rfl ?_
    refine Own.goto 55 X8 hx (hb hby d2_51) (by decide) ?_
    refine Own.retBool X8 hx hlk hret (hb hby d2_55) (by decide) (by decide) ?_
    exact ⟨rfl, hh8, rfl⟩
  ·
    refine Own.iconst 6 X0 hx ((1 : Int32)) (hb hby d2_5) rfl rfl ?_
    refine Own.retBool X0 hx hlk hret (hb hby d2_6) (by decide) (by decide) ?_
    exact ⟨rfl, e0, rfl⟩
set_option maxRecDepth 65536 in
set_option maxHeartbeats 40000000 in
theorem m2_ai3 (l : Launch) (Z : State) (a0 : Array Value) (w : ∀ (i : Nat) {d : Jvm.Cond}, tables_1[i]? = some d → d.before a0 Z = true) (a : Addr) (b : Addr) (n0 : Nat) (z : Int32) (h0 : Heap) (X00 : Old Z n0 h0) (SC : Sta Z Z.heap "java/lang/String" "COMPACT_STRINGS" "Z" (.int z)) (hz : ¬ z = 0) (S_a : Own.Str Z h0 a (3 : Int32) [(.int (97 : Int32)), (.int (105 : Int32)), (.int (51 : Int32))]) (S_b : Own.Str Z h0 b (3 : Int32) [(.int (97 : Int32)), (.int (105 : Int32)), (.int (51 : Int32))]) :
    Own.Met l Z (⟨"java/lang/String", "equals", "(Ljava/lang/Object;)Z"⟩ : MethodName) jdk_42_method_66_code 3 (some .boolean) [] ({ frames := 1, cells := 0, slots := 0, locals := 14 } : Room) #[(.ref a), (.ref b)] h0 (fun v h L => v = some (.int 1) ∧ h = h0 ∧ L = []) := by
  refine Own.Met.of (plainFor_of_name (by first | (simp [plainName, overriddenIn]; done) | decide +kernel)) ?_
  intro p e s m below meth c T0 hx hby hml hown hnm hret hlk hZ X0 e0
  have hown : s.vm.findClass "java/lang/String" = some m.cls := hown
  have hml : c.maxLocals = 3 := hml
  have hnm : meth.name = "equals" := hnm
  have ef : entryFrame m #[(.ref a), (.ref b)] 3 = mkF m 0 #[.val (.ref a), .val (.ref b), .unset] [] := by first | (simp [entryFrame, mkF, argsToLocals, Value.category]; done) | rfl
  rw [ef]
  obtain ⟨E_a, Fc_a, ba, ka, Fv_a, V_a⟩ := S_a
  obtain ⟨E_b, Fc_b, bb, kb, Fv_b, V_b⟩ := S_b
  refine Own.aloadN 1 X0 hx (hb hby d2_0) rfl rfl rfl ?_
  refine Own.aloadN 2 X0 hx (hb hby d2_1) rfl rfl rfl ?_
  refine Own.acmp_ne 7 5 X0 hx (hb hby d2_2) rfl rfl (by decide) rfl (fun q => ?_) (fun q => ?_)
  ·
    refine Own.aloadN 8 X0 hx (hb hby d2_7) rfl rfl rfl ?_
    refine Own.instY1 11 X0 hx hZ hown (w 36 rfl) e0 (Ins.self E_b) (hb hby d2_8) rfl ?_
    intro T1 X1 e1
    refine Own.if_eq 54 14 X1 hx (hb hby d2_11) (by decide) rfl (fun tk => absurd tk (by decide)) (fun tk => ?_)
    refine Own.aloadN 15 X1 hx (hb hby d2_14) rfl rfl rfl ?_
    refine Own.castS 18 X1 hx hZ hown (w 36 rfl) e1 (Ins.self E_b) (hb hby d2_15) rfl ?_
    intro T2 X2 e2
    refine Own.astoreN 19 #[.val (.ref a), .val (.ref b), .val (.ref b)] X2 hx (hb hby d2_18) rfl rfl rfl ?_
    refine Own.getSta 22 X2 hx hZ hown (host := "") (Or.inl (w 38 rfl)) Via.refl e2 (SC.ext X00.2) (hb hby d2_19) rfl ?_
    intro T3 X3 e3
    refine Own.if_eq 36 25 X3 hx (hb hby d2_22) (by decide) rfl (fun tk => absurd tk hz) (fun tk => ?_)
    refine Own.aloadN 26 X3 hx (hb hby d2_25) rfl rfl rfl ?_
    refine Own.getFld 29 X3 hx hZ hown (host := "") (Or.inl (w 39 rfl)) Via.refl e3 Fc_a (hb hby d2_26) rfl ?_
    intro T4 X4 e4
    refine Own.aloadN 30 X4 hx (hb hby d2_29) rfl rfl rfl ?_
    refine Own.getFld 33 X4 hx hZ hown (host := "") (Or.inl (w 39 rfl)) Via.refl e4 Fc_b (hb hby d2_30) rfl ?_
    intro T5 X5 e5
    refine Own.icmp_ne 54 36 X5 hx (hb hby d2_33) (by decide) rfl (fun tk => absurd tk (by decide)) (fun tk => ?_)
    refine Own.aloadN 37 X5 hx (hb hby d2_36) rfl rfl rfl ?_
    refine Own.getFld 40 X5 hx hZ hown (host := "") (Or.inl (w 40 rfl)) Via.refl e5 Fv_a (hb hby d2_37) rfl ?_
    intro T6 X6 e6
    refine Own.aloadN 41 X6 hx (hb hby d2_40) rfl rfl rfl ?_
    refine Own.getFld 44 X6 hx hZ hown (host := "") (Or.inl (w 40 rfl)) Via.refl e6 Fv_b (hb hby d2_41) rfl ?_
    intro T7 X7 e7
    refine Own.callSt 47 0 [(.ref ba), (.ref bb)] [] X7 hx hZ hown (m4_ai3 l Z a0 w ba bb ka kb _ V_a V_b) (w 41 rfl) (w 42 rfl) (w 43 rfl) (w 44 rfl) (by decide) e7 (by decide) (by decide) (by decide) (by decide) (by rw [hml]; rfl) (lenOf pd_0 rfl) rfl (Nat.le_of_eq rfl) (hb hby d2_44) rfl ?_
    rintro vv T8 L8 X8 ⟨rfl, hh8, rfl⟩
    refine Own.if_eq 54 50 X8 hx (hb hby d2_47) (by decide) rfl (fun tk => absurd tk (by decide)) (fun tk => ?_)
    refine Own.iconst 51 X8 hx ((1 : Int32)) (hb hby d2_50) rfl rfl ?_
    refine Own.goto 55 X8 hx (hb hby d2_51) (by decide) ?_
    refine Own.retBool X8 hx hlk hret (hb hby d2_55) (by decide) (by decide) ?_
    exact ⟨rfl, hh8, rfl⟩
  ·
    refine Own.iconst 6 X0 hx ((1 : Int32)) (hb hby d2_5) rfl rfl ?_
    refine Own.retBool X0 hx hlk hret (hb hby d2_6) (by decide) (by decide) ?_
    exact ⟨rfl, e0, rfl⟩
set_option maxRecDepth 65536 in
set_option maxHeartbeats 40000000 in
theorem m2s (l : Launch) (Z : State) (a0 : Array Value) (w : ∀ (i : Nat) {d : Jvm.Cond}, tables_1[i]? = some d → d.before a0 Z = true) (a : Addr) (a : Addr)  (h0 : Heap)  :
    Own.Met l Z (⟨"java/lang/String", "equals", "(Ljava/lang/Object;)Z"⟩ : MethodName) jdk_42_method_66_code 3 (some .boolean) [] ({ frames := 0, cells := 0, slots := 0, locals := 0 } : Room) #[(.ref a), (.ref a)] h0 (fun v h L => v = some (.int 1) ∧ h = h0 ∧ L = []) := by
  refine Own.Met.of (plainFor_of_name (by first | (simp [plainName, overriddenIn]; done) | decide +kernel)) ?_
  intro p e s m below meth c T0 hx hby hml hown hnm hret hlk hZ X0 e0
  have hown : s.vm.findClass "java/lang/String" = some m.cls := hown
  have hml : c.maxLocals = 3 := hml
  have hnm : meth.name = "equals" := hnm
  have ef : entryFrame m #[(.ref a), (.ref a)] 3 = mkF m 0 #[.val (.ref a), .val (.ref a), .unset] [] := by first | (simp [entryFrame, mkF, argsToLocals, Value.category]; done) | rfl
  rw [ef]
  refine Own.aloadN 1 X0 hx (hb hby d2_0) rfl rfl rfl ?_
  refine Own.aloadN 2 X0 hx (hb hby d2_1) rfl rfl rfl ?_
  refine Own.acmp_ne 7 5 X0 hx (hb hby d2_2) rfl rfl (by decide) rfl (fun q => ?_) (fun q => ?_)
  ·
    exact absurd rfl q
  ·
    refine Own.iconst 6 X0 hx ((1 : Int32)) (hb hby d2_5) rfl rfl ?_
    refine Own.retBool X0 hx hlk hret (hb hby d2_6) (by decide) (by decide) ?_
    exact ⟨rfl, e0, rfl⟩
theorem d3_0 : decode prog_35_method_6_code 0 = .ok (.aload_n 0, 1) := by decide +kernel
theorem d3_1 : decode prog_35_method_6_code 1 = .ok (.getfield 35, 3) := by decide +kernel
theorem d3_4 : decode prog_35_method_6_code 4 = .ok (.areturn, 1) := by decide +kernel
set_option maxRecDepth 65536 in
set_option maxHeartbeats 40000000 in
theorem m3 (l : Launch) (Z : State) (a0 : Array Value) (w : ∀ (i : Nat) {d : Jvm.Cond}, tables_1[i]? = some d → d.before a0 Z = true) (a : Addr) (x : Addr) (h0 : Heap) (F1 : Fld Z h0 a "com/example/tablier/tablier/Player" "name" "Ljava/lang/String;" (.ref x)) :
    Own.Met l Z (⟨"com/example/tablier/tablier/Player", "toString", "()Ljava/lang/String;"⟩ : MethodName) prog_35_method_6_code 1 (some (.object "java/lang/String")) [] ({ frames := 0, cells := 0, slots := 0, locals := 0 } : Room) #[(.ref a)] h0 (fun v h L => v = some (.ref x) ∧ h = h0 ∧ L = []) := by
  refine Own.Met.of (plainFor_of_name (by first | (simp [plainName, overriddenIn]; done) | decide +kernel)) ?_
  intro p e s m below meth c T0 hx hby hml hown hnm hret hlk hZ X0 e0
  have hown : s.vm.findClass "com/example/tablier/tablier/Player" = some m.cls := hown
  have hml : c.maxLocals = 1 := hml
  have hnm : meth.name = "toString" := hnm
  have ef : entryFrame m #[(.ref a)] 1 = mkF m 0 #[.val (.ref a)] [] := by first | (simp [entryFrame, mkF, argsToLocals, Value.category]; done) | rfl
  rw [ef]
  refine Own.aloadN 1 X0 hx (hb hby d3_0) rfl rfl rfl ?_
  refine Own.getFld 4 X0 hx hZ hown (host := "") (Or.inl (w 34 rfl)) Via.refl e0 F1 (hb hby d3_1) rfl ?_
  intro T1 X1 e1
  refine Own.retRef X1 hx hlk rfl hret rfl (hb hby d3_4) (by decide) (by decide) ?_
  exact ⟨rfl, e1, rfl⟩
theorem d1_0 : decode prog_40_method_7_code 0 = .ok (.aload_n 0, 1) := by decide +kernel
theorem d1_1 : decode prog_40_method_7_code 1 = .ok (.getfield 35, 3) := by decide +kernel
theorem d1_4 : decode prog_40_method_7_code 4 = .ok (.ifnonnull 8, 3) := by decide +kernel
theorem d1_12 : decode prog_40_method_7_code 12 = .ok (.aload_n 0, 1) := by decide +kernel
theorem d1_13 : decode prog_40_method_7_code 13 = .ok (.getfield 35, 3) := by decide +kernel
theorem d1_16 : decode prog_40_method_7_code 16 = .ok (.invokevirtual 62, 3) := by decide +kernel
theorem d1_19 : decode prog_40_method_7_code 19 = .ok (.areturn, 1) := by decide +kernel
set_option maxRecDepth 65536 in
set_option maxHeartbeats 40000000 in
theorem m1a (l : Launch) (Z : State) (a0 : Array Value) (w : ∀ (i : Nat) {d : Jvm.Cond}, tables_1[i]? = some d → d.before a0 Z = true) (a : Addr) (q x : Addr) (h0 : Heap) (F1 : Fld Z h0 a "com/example/tablier/tablier/Seat" "computer" "Lcom/example/tablier/tablier/Player;" (.ref q)) (E_q : Exa Z h0 q "com/example/tablier/tablier/Player") (F2 : Fld Z h0 q "com/example/tablier/tablier/Player" "name" "Ljava/lang/String;" (.ref x)) :
    Own.Met l Z (⟨"com/example/tablier/tablier/Seat", "toString", "()Ljava/lang/String;"⟩ : MethodName) prog_40_method_7_code 1 (some (.object "java/lang/String")) [] ({ frames := 1, cells := 0, slots := 0, locals := 12 } : Room) #[(.ref a)] h0 (fun v h L => v = some (.ref x) ∧ h = h0 ∧ L = []) := by
  refine Own.Met.of (plainFor_of_name (by first | (simp [plainName, overriddenIn]; done) | decide +kernel)) ?_
  intro p e s m below meth c T0 hx hby hml hown hnm hret hlk hZ X0 e0
  have hown : s.vm.findClass "com/example/tablier/tablier/Seat" = some m.cls := hown
  have hml : c.maxLocals = 1 := hml
  have hnm : meth.name = "toString" := hnm
  have ef : entryFrame m #[(.ref a)] 1 = mkF m 0 #[.val (.ref a)] [] := by first | (simp [entryFrame, mkF, argsToLocals, Value.category]; done) | rfl
  rw [ef]
  refine Own.aloadN 1 X0 hx (hb hby d1_0) rfl rfl rfl ?_
  refine Own.getFld 4 X0 hx hZ hown (host := "") (Or.inl (w 16 rfl)) Via.refl e0 F1 (hb hby d1_1) rfl ?_
  intro T1 X1 e1
  refine Own.ifnonnull 12 7 X1 hx (hb hby d1_4) rfl (by decide) rfl (fun _ _ => ?_) (fun hh => nomatch hh)
  refine Own.aloadN 13 X1 hx (hb hby d1_12) rfl rfl rfl ?_
  refine Own.getFld 16 X1 hx hZ hown (host := "") (Or.inl (w 16 rfl)) Via.refl e1 F1 (hb hby d1_13) rfl ?_
  intro T2 X2 e2
  refine Own.callVt 19 0 q [] [] X2 hx hZ hown (m3 l Z a0 w q x _ F2) E_q (notFace_of_selects (args := #[]) (mvT hZ (w 32 rfl))) (w 29 rfl) (w 30 rfl) (w 32 rfl) (w 31 rfl) (w 27 rfl) (w 33 rfl) (by decide) e2 (by decide) (by decide) (by decide) (by decide) (by rw [hml]; rfl) (lenOf pd_1 rfl) rfl (Nat.le_of_eq rfl) (hb hby d1_16) rfl ?_
  rintro vv T3 L3 X3 ⟨rfl, hh3, rfl⟩
  refine Own.retRef X3 hx hlk rfl hret rfl (hb hby d1_19) (by decide) (by decide) ?_
  exact ⟨rfl, hh3, rfl⟩
theorem d1_7 : decode prog_40_method_7_code 7 = .ok (.ldc 60, 2) := by decide +kernel
theorem d1_9 : decode prog_40_method_7_code 9 = .ok (.goto 10, 3) := by decide +kernel
set_option maxRecDepth 65536 in
set_option maxHeartbeats 40000000 in
theorem m1p (l : Launch) (Z : State) (a0 : Array Value) (w : ∀ (i : Nat) {d : Jvm.Cond}, tables_1[i]? = some d → d.before a0 Z = true) (a : Addr) (a2 : Addr) (h0 : Heap) (F1 : Fld Z h0 a "com/example/tablier/tablier/Seat" "computer" "Lcom/example/tablier/tablier/Player;" .null) (L2 : Lit Z "com/example/tablier/tablier/Seat" 60 a2) :
    Own.Met l Z (⟨"com/example/tablier/tablier/Seat", "toString", "()Ljava/lang/String;"⟩ : MethodName) prog_40_method_7_code 1 (some (.object "java/lang/String")) [] ({ frames := 0, cells := 0, slots := 0, locals := 0 } : Room) #[(.ref a)] h0 (fun v h L => v = some (.ref a2) ∧ h = h0 ∧ L = []) := by
  refine Own.Met.of (plainFor_of_name (by first | (simp [plainName, overriddenIn]; done) | decide +kernel)) ?_
  intro p e s m below meth c T0 hx hby hml hown hnm hret hlk hZ X0 e0
  have hown : s.vm.findClass "com/example/tablier/tablier/Seat" = some m.cls := hown
  have hml : c.maxLocals = 1 := hml
  have hnm : meth.name = "toString" := hnm
  have ef : entryFrame m #[(.ref a)] 1 = mkF m 0 #[.val (.ref a)] [] := by first | (simp [entryFrame, mkF, argsToLocals, Value.category]; done) | rfl
  rw [ef]
  refine Own.aloadN 1 X0 hx (hb hby d1_0) rfl rfl rfl ?_
  refine Own.getFld 4 X0 hx hZ hown (host := "") (Or.inl (w 16 rfl)) Via.refl e0 F1 (hb hby d1_1) rfl ?_
  intro T1 X1 e1
  refine Own.ifnonnull 12 7 X1 hx (hb hby d1_4) rfl (by decide) rfl (fun _ hh => nomatch hh) (fun _ => ?_)
  refine Own.ldcRe 9 X1 hx hZ hown (w 18 rfl) (show Lit s "com/example/tablier/tablier/Seat" 60 a2 from State.resolvedAt?_warmed39 hZ L2) (hb hby d1_7) rfl ?_
  refine Own.goto 19 X1 hx (hb hby d1_9) (by decide) ?_
  refine Own.retRef X1 hx hlk rfl hret rfl (hb hby d1_19) (by decide) (by decide) ?_
  exact ⟨rfl, e1, rfl⟩
set_option maxRecDepth 65536 in
set_option maxHeartbeats 40000000 in
theorem m1q (l : Launch) (Z : State) (a0 : Array Value) (w : ∀ (i : Nat) {d : Jvm.Cond}, tables_1[i]? = some d → d.before a0 Z = true) (a : Addr) (a1 : Addr) (n0 : Nat) (I1 : Array (Array UInt16 × Addr)) (h0 : Heap) (F1 : Fld Z h0 a "com/example/tablier/tablier/Seat" "computer" "Lcom/example/tablier/tablier/Player;" .null) (hf : ∃ units : Array UInt16, utf16ToString? units = some "person" ∧ I1.find? (fun p => p.1 == units) = some (units, a1)) (hno : ¬ ∃ a, Lit Z "com/example/tablier/tablier/Seat" 60 a) :
    Own.MetT l Z (⟨"com/example/tablier/tablier/Seat", "toString", "()Ljava/lang/String;"⟩ : MethodName) prog_40_method_7_code 1 (some (.object "java/lang/String")) [] ({ frames := 0, cells := 2, slots := 28, locals := 0 } : Room) #[(.ref a)] h0 I1 (fun v h L => v = some (.ref a1) ∧ Fr n0 L ∧ Keep h0 h []) := by
  refine Own.MetT.of (plainFor_of_name (by first | (simp [plainName, overriddenIn]; done) | decide +kernel)) ?_
  intro p e s m below meth c T0 hx hby hml hown hnm hret hlk hZ X0 e0 hI hsh
  have hown : s.vm.findClass "com/example/tablier/tablier/Seat" = some m.cls := hown
  have hml : c.maxLocals = 1 := hml
  have hnm : meth.name = "toString" := hnm
  have ef : entryFrame m #[(.ref a)] 1 = mkF m 0 #[.val (.ref a)] [] := by first | (simp [entryFrame, mkF, argsToLocals, Value.category]; done) | rfl
  rw [ef]
  have hSA : ∀ d ∈ Bundle.stringAtoms, d.before a0 Z = true := fun d hd => by
    obtain ⟨i, hi⟩ := List.getElem?_of_mem ((by decide +kernel : ∀ d ∈ Bundle.stringAtoms, d ∈ tables_1) d hd)
    exact w i hi
  refine Own.aloadN 1 X0 hx (hb hby d1_0) rfl rfl rfl ?_
  refine Own.getFld 4 X0 hx hZ hown (host := "") (Or.inl (w 16 rfl)) Via.refl e0 F1 (hb hby d1_1) rfl ?_
  intro T1 X1 e1
  refine Own.ifnonnull 12 7 X1 hx (hb hby d1_4) rfl (by decide) rfl (fun _ hh => nomatch hh) (fun _ => ?_)
  have N0 := Fr.nil n0
  refine Own.ldcLit 9 24 X1 hx hZ hown (w 18 rfl) hSA e1 (hb hby d1_7) rfl (by decide) (by decide) (by decide) (by decide) ?_
  intro x T2 h2 X2 e2 E2 hZ hown hW Lt
  obtain rfl : a1 = x := (Own.sameFound (text := "person") (vm1 := s.vm) (by decide) hW.2.2.1 (by rw [hI]; exact hf) (Own.foundAt (s := s) hZ (w 18 rfl) hno Lt)).symm
  refine Own.goto 19 X2 hx (hb hby d1_9) (by decide) ?_
  refine Own.retRef X2 hx hlk rfl hret rfl (hb hby d1_19) (by decide) (by decide) ?_
  rw [e2]
  exact ⟨⟨rfl, N0, (Keep.refl h0 []).ext E2⟩, Nat.le_refl _⟩
set_option maxRecDepth 65536 in
set_option maxHeartbeats 40000000 in
theorem m1r (l : Launch) (Z : State) (a0 : Array Value) (w : ∀ (i : Nat) {d : Jvm.Cond}, tables_1[i]? = some d → d.before a0 Z = true) (a : Addr) (n0 : Nat) (h0 : Heap) (F1 : Fld Z h0 a "com/example/tablier/tablier/Seat" "computer" "Lcom/example/tablier/tablier/Player;" .null)(X00 : Old Z n0 h0) (hh60 : Jvm.Lit.constHeld Z "com/example/tablier/tablier/Seat" 60) (hcw : Jvm.Lit.compactW.before a0 Z = true) :
    Own.MetT l Z (⟨"com/example/tablier/tablier/Seat", "toString", "()Ljava/lang/String;"⟩ : MethodName) prog_40_method_7_code 1 (some (.object "java/lang/String")) [] ({ frames := 0, cells := 2, slots := 28, locals := 0 } : Room) #[(.ref a)] h0 Z.vm.interned (fun v h L => ∃ x : Addr, v = some (.ref x) ∧ Fr n0 L ∧ Keep h0 h [] ∧ Own.Str Z h x (6 : Int32) [(.int (112 : Int32)), (.int (101 : Int32)), (.int (114 : Int32)), (.int (115 : Int32)), (.int (111 : Int32)), (.int (110 : Int32))]) := by
  refine Own.MetT.of (plainFor_of_name (by first | (simp [plainName, overriddenIn]; done) | decide +kernel)) ?_
  intro p e s m below meth c T0 hx hby hml hown hnm hret hlk hZ X0 e0 hI hsh
  have hown : s.vm.findClass "com/example/tablier/tablier/Seat" = some m.cls := hown
  have hml : c.maxLocals = 1 := hml
  have hnm : meth.name = "toString" := hnm
  have ef : entryFrame m #[(.ref a)] 1 = mkF m 0 #[.val (.ref a)] [] := by first | (simp [entryFrame, mkF, argsToLocals, Value.category]; done) | rfl
  rw [ef]
  have hSA : ∀ d ∈ Bundle.stringAtoms, d.before a0 Z = true := fun d hd => by
    obtain ⟨i, hi⟩ := List.getElem?_of_mem ((by decide +kernel : ∀ d ∈ Bundle.stringAtoms, d ∈ tables_1) d hd)
    exact w i hi
  refine Own.aloadN 1 X0 hx (hb hby d1_0) rfl rfl rfl ?_
  refine Own.getFld 4 X0 hx hZ hown (host := "") (Or.inl (w 16 rfl)) Via.refl e0 F1 (hb hby d1_1) rfl ?_
  intro T1 X1 e1
  refine Own.ifnonnull 12 7 X1 hx (hb hby d1_4) rfl (by decide) rfl (fun _ hh => nomatch hh) (fun _ => ?_)
  have N0 := Fr.nil n0
  refine Own.ldcVal 9 24 X1 hx hZ hown (w 18 rfl) hSA e1 hI (Fr.nil _) (fun q cl r => by rw [hsh]; exact X00.2.2 q cl r) hh60 hcw (vs := [(.int (112 : Int32)), (.int (101 : Int32)), (.int (114 : Int32)), (.int (115 : Int32)), (.int (111 : Int32)), (.int (110 : Int32))]) (z := (6 : Int32)) (by decide) (by decide) (by decide) (hb hby d1_7) rfl (by decide) (by decide) (by decide) (by decide) ?_
  intro x T2 h2 b kb2 X2 e2 E2 hZ hown Ex2 Fc2 Fv2 Vb2 Lt2
  have K2 := (Keep.refl h0 []).ext E2
  have O2 := X00.ext E2
  have zr2 := Nat.le_refl h2.size
  refine Own.goto 19 X2 hx (hb hby d1_9) (by decide) ?_
  refine Own.retRef X2 hx hlk rfl hret rfl (hb hby d1_19) (by decide) (by decide) ?_
  rw [e2]
  exact ⟨⟨x, rfl, N0, K2, Ex2, Fc2, b, _, Fv2, Vb2⟩, zr2⟩
set_option maxRecDepth 65536 in
set_option maxHeartbeats 40000000 in
theorem m0 (l : Launch) (Z : State) (a0 : Array Value) (w : ∀ (i : Nat) {d : Jvm.Cond}, tables_1[i]? = some d → d.before a0 Z = true) (x0 : Int32) (sp : Addr) (se1 pl1 nm1 : Addr) (se2 pl2 nm2 : Addr) (se3 pl3 nm3 : Addr) (z : Int32) (h0 : Heap) (n0 : Nat) (X00 : Old Z n0 h0) (SP : Sta Z Z.heap "com/example/tablier/tablier/Seat" "PERSON" "Lcom/example/tablier/tablier/Seat;" (.ref sp)) (EP : Exa Z Z.heap sp "com/example/tablier/tablier/Seat") (FP : Fld Z Z.heap sp "com/example/tablier/tablier/Seat" "computer" "Lcom/example/tablier/tablier/Player;" .null) (SA1 : Sta Z Z.heap "com/example/tablier/tablier/Seat" "AI1" "Lcom/example/tablier/tablier/Seat;" (.ref se1)) (A1 : own_ai Z se1 pl1 nm1 [(.int (97 : Int32)), (.int (105 : Int32)), (.int (49 : Int32))]) (SA2 : Sta Z Z.heap "com/example/tablier/tablier/Seat" "AI2" "Lcom/example/tablier/tablier/Seat;" (.ref se2)) (A2 : own_ai Z se2 pl2 nm2 [(.int (97 : Int32)), (.int (105 : Int32)), (.int (50 : Int32))]) (SA3 : Sta Z Z.heap "com/example/tablier/tablier/Seat" "AI3" "Lcom/example/tablier/tablier/Seat;" (.ref se3)) (A3 : own_ai Z se3 pl3 nm3 [(.int (97 : Int32)), (.int (105 : Int32)), (.int (51 : Int32))])(SC : Sta Z Z.heap "java/lang/String" "COMPACT_STRINGS" "Z" (.int z)) (hz : ¬ z = 0)(hh60 : Jvm.Lit.constHeld Z "com/example/tablier/tablier/Seat" 60)(hh13 : Jvm.Lit.constHeld Z "com/example/tablier/tablier/SeatToStringPinLaw" 13)(hh18 : Jvm.Lit.constHeld Z "com/example/tablier/tablier/SeatToStringPinLaw" 18)(hh23 : Jvm.Lit.constHeld Z "com/example/tablier/tablier/SeatToStringPinLaw" 23)(hh28 : Jvm.Lit.constHeld Z "com/example/tablier/tablier/SeatToStringPinLaw" 28) (hcw : Jvm.Lit.compactW.before a0 Z = true) :
    Own.MetT l Z x code maxLocals ret tables_1 room_1 #[(.int x0)] h0 Z.vm.interned (fun v h L => v = some (.int 1) ∧ Fr n0 L) := by
  refine Own.MetT.of (plainFor_of_name (by first | (simp [plainName, overriddenIn]; done) | decide +kernel)) ?_
  intro p e s m below meth c T0 hx hby hml hown hnm hret hlk hZ X0 e0 hI hsh
  have hown : s.vm.findClass "com/example/tablier/tablier/SeatToStringPinLaw" = some m.cls := hown
  have hml : c.maxLocals = 5 := hml
  have hnm : meth.name = "law" := hnm
  have hret : meth.sig.returnType = some .boolean := hret
  have ef : entryFrame m #[(.int x0)] maxLocals = mkF m 0 #[.val (.int x0), .unset, .unset, .unset, .unset] [] := by first | (simp [entryFrame, mkF, argsToLocals, Value.category, maxLocals]; done) | rfl
  rw [ef]
  have N0 := Fr.nil n0
  have hSA : ∀ d ∈ Bundle.stringAtoms, d.before a0 Z = true := fun d hd => by
    obtain ⟨i, hi⟩ := List.getElem?_of_mem ((by decide +kernel : ∀ d ∈ Bundle.stringAtoms, d ∈ tables_1) d hd)
    exact w i hi
  refine Own.iloadN 1 X0 hx (hb hby at_0) rfl rfl ?_
  refine Own.iconst 2 X0 hx ((3 : Int32)) (hb hby at_1) rfl rfl ?_
  refine Own.iand 3 X0 hx (hb hby at_2) rfl rfl ?_
  refine Own.istoreN 4 (fun v1_3 => #[.val (.int x0), .val (.int v1_3), .unset, .unset, .unset]) X0 hx (hb hby at_3) rfl (fun _ => rfl) fun v1_3 hv1_3 => ?_
  refine Own.iloadN 5 X0 hx (hb hby at_4) rfl rfl ?_
  have B := own_four x0
  rw [← hv1_3] at B
  rcases B with u | u | u | u <;> subst u
  ·
    refine Own.if_ne 18 8 X0 hx (hb hby at_5) (by decide) rfl (fun tk => absurd tk (by decide)) (fun tk => ?_)
    refine Own.getSta 11 X0 hx hZ hown (host := "") (Or.inl (w 0 rfl)) Via.refl e0 (SP.ext X00.2) (hb hby at_8) rfl ?_
    intro T1 X1 e1
    refine Own.astoreN 12 #[.val (.int x0), .val (.int (0 : Int32)), .val (.ref sp), .unset, .unset] X1 hx (hb hby at_11) rfl rfl rfl ?_
    by_cases hL2 : ∃ a, Lit Z "com/example/tablier/tablier/Seat" 60 a
    ·
      obtain ⟨a2, L2⟩ := hL2
      have S2 : Own.Str Z Z.heap a2 (6 : Int32) [(.int (112 : Int32)), (.int (101 : Int32)), (.int (114 : Int32)), (.int (115 : Int32)), (.int (111 : Int32)), (.int (110 : Int32))] := Own.litStr hh60 (w 18 rfl) hSA hcw L2 (by decide) (by decide) (by decide)
      refine Own.ldcVal 14 24 X1 hx hZ hown (w 3 rfl) hSA e1 hI (Fr.nil _) (fun q cl r => by rw [hsh]; exact X00.2.2 q cl r) hh13 hcw (vs := [(.int (112 : Int32)), (.int (101 : Int32)), (.int (114 : Int32)), (.int (115 : Int32)), (.int (111 : Int32)), (.int (110 : Int32))]) (z := (6 : Int32)) (by decide) (by decide) (by decide) (hb hby at_12) rfl (by decide) (by decide) (by decide) (by decide) ?_
      intro x T2 h2 b kb2 X2 e2 E2 hZ hown Ex2 Fc2 Fv2 Vb2 Lt2
      have O2 := X00.ext E2
      have zr2 := Nat.le_refl h2.size
      refine Own.astoreN 15 #[.val (.int x0), .val (.int (0 : Int32)), .val (.ref sp), .val (.ref x), .unset] X2 hx (hb hby at_14) rfl rfl rfl ?_
      refine Own.goto 55 X2 hx (hb hby at_15) (by decide) ?_
      refine Own.aloadN 56 X2 hx (hb hby at_55) rfl rfl rfl ?_
      refine Own.callVt 59 0 sp [] [] X2 hx hZ hown (m1p l Z a0 w sp a2 _ (FP.ext O2.2) L2) (EP.ext O2.2) (notFace_of_selects (args := #[]) (mvT hZ (w 14 rfl))) (w 11 rfl) (w 12 rfl) (w 14 rfl) (w 13 rfl) (w 1 rfl) (w 15 rfl) (by decide) e2 (by decide) (by decide) (by decide) (by decide) (by rw [hml]; rfl) (lenOf pd_1 rfl) rfl (Nat.le_of_eq rfl) (hb hby at_56) rfl ?_
      rintro vv T4 L4 X4 ⟨rfl, hh4, rfl⟩
      have N4 := Fr.app N0 (Fr.nil _)
      refine Own.astore 61 #[.val (.int x0), .val (.int (0 : Int32)), .val (.ref sp), .val (.ref x), .val (.ref a2)] X4 hx (hb hby at_59) rfl rfl rfl ?_
      refine Own.aload 63 X4 hx (hb hby at_61) rfl rfl rfl ?_
      refine Own.ifnull 79 66 X4 hx (hb hby at_63) rfl (by decide) rfl (fun hh => nomatch hh) (fun _ _ => ?_)
      refine Own.aload 68 X4 hx (hb hby at_66) rfl rfl rfl ?_
      refine Own.aloadN 69 X4 hx (hb hby at_68) rfl rfl rfl ?_
      refine Own.callVt 72 0 a2 [(.ref x)] [] X4 hx hZ hown (m2_person l Z a0 w a2 x n0 z _ O2 SC hz (S2.ext O2.2) ⟨Ex2, Fc2, b, _, Fv2, Vb2⟩) (S2.1.ext O2.2) (notFace_of_selects (args := #[]) (mvT hZ (w 22 rfl))) (w 19 rfl) (w 20 rfl) (w 22 rfl) (w 21 rfl) (w 4 rfl) (w 23 rfl) (by decide) hh4 (by decide) (by decide) (by decide) (by decide) (by rw [hml]; rfl) (lenOf pd_2 rfl) rfl (Nat.le_of_eq rfl) (hb hby at_69) rfl ?_
      rintro vv T5 L5 X5 ⟨rfl, hh5, rfl⟩
      have N5 := Fr.app N4 (Fr.nil _)
      refine Own.if_eq 79 75 X5 hx (hb hby at_72) (by decide) rfl (fun tk => absurd tk (by decide)) (fun tk => ?_)
      refine Own.iconst 76 X5 hx ((1 : Int32)) (hb hby at_75) rfl rfl ?_
      refine Own.goto 80 X5 hx (hb hby at_76) (by decide) ?_
      refine Own.retBool X5 hx hlk hret (hb hby at_80) (by decide) (by decide) ?_
      exact ⟨⟨rfl, N5⟩, by rw [hh5]; exact zr2⟩
    ·
      by_cases hL1 : ∃ a, Lit Z "com/example/tablier/tablier/SeatToStringPinLaw" 13 a
      ·
        obtain ⟨a1, L1⟩ := hL1
        have S1 : Own.Str Z Z.heap a1 (6 : Int32) [(.int (112 : Int32)), (.int (101 : Int32)), (.int (114 : Int32)), (.int (115 : Int32)), (.int (111 : Int32)), (.int (110 : Int32))] := Own.litStr hh13 (w 3 rfl) hSA hcw L1 (by decide) (by decide) (by decide)
        refine Own.ldcRe 14 X1 hx hZ hown (w 3 rfl) (show Lit s "com/example/tablier/tablier/SeatToStringPinLaw" 13 a1 from State.resolvedAt?_warmed39 hZ L1) (hb hby at_12) rfl ?_
        refine Own.astoreN 15 #[.val (.int x0), .val (.int (0 : Int32)), .val (.ref sp), .val (.ref a1), .unset] X1 hx (hb hby at_14) rfl rfl rfl ?_
        refine Own.goto 55 X1 hx (hb hby at_15) (by decide) ?_
        refine Own.aloadN 56 X1 hx (hb hby at_55) rfl rfl rfl ?_
        refine Own.callVtT 59 0 sp [] [] X1 hx hZ hown (m1r l Z a0 w sp n0 _ (FP.ext X00.2) X00 hh60 hcw) hI (EP.ext X00.2) (notFace_of_selects (args := #[]) (mvT hZ (w 14 rfl))) (w 11 rfl) (w 12 rfl) (w 14 rfl) (w 13 rfl) (w 1 rfl) (w 15 rfl) (by decide) e1 (by decide) (by decide) (by decide) (by decide) (by rw [hml]; rfl) (lenOf pd_1 rfl) rfl (Nat.le_of_eq rfl) (hb hby at_56) rfl ?_
        rintro vv T6 L6 X6 ⟨x, rfl, N6q, K6, S_x⟩ hZ hown
        have N6 := Fr.app N0 N6q
        have O6 := X00.keep K6 all0
        have zr6 := Nat.le_refl T6.heap.size
        refine Own.astore 61 #[.val (.int x0), .val (.int (0 : Int32)), .val (.ref sp), .val (.ref a1), .val (.ref x)] X6 hx (hb hby at_59) rfl rfl rfl ?_
        refine Own.aload 63 X6 hx (hb hby at_61) rfl rfl rfl ?_
        refine Own.ifnull 79 66 X6 hx (hb hby at_63) rfl (by decide) rfl (fun hh => nomatch hh) (fun _ _ => ?_)
        refine Own.aload 68 X6 hx (hb hby at_66) rfl rfl rfl ?_
        refine Own.aloadN 69 X6 hx (hb hby at_68) rfl rfl rfl ?_
        refine Own.callVt 72 0 x [(.ref a1)] [] X6 hx hZ hown (m2_person l Z a0 w x a1 n0 z _ O6 SC hz S_x (S1.ext O6.2)) S_x.1 (notFace_of_selects (args := #[]) (mvT hZ (w 22 rfl))) (w 19 rfl) (w 20 rfl) (w 22 rfl) (w 21 rfl) (w 4 rfl) (w 23 rfl) (by decide) rfl (by decide) (by decide) (by decide) (by decide) (by rw [hml]; rfl) (lenOf pd_2 rfl) rfl (Nat.le_of_eq rfl) (hb hby at_69) rfl ?_
        rintro vv T8 L8 X8 ⟨rfl, hh8, rfl⟩
        have N8 := Fr.app N6 (Fr.nil _)
        refine Own.if_eq 79 75 X8 hx (hb hby at_72) (by decide) rfl (fun tk => absurd tk (by decide)) (fun tk => ?_)
        refine Own.iconst 76 X8 hx ((1 : Int32)) (hb hby at_75) rfl rfl ?_
        refine Own.goto 80 X8 hx (hb hby at_76) (by decide) ?_
        refine Own.retBool X8 hx hlk hret (hb hby at_80) (by decide) (by decide) ?_
        exact ⟨⟨rfl, N8⟩, by rw [hh8]; exact zr6⟩
      ·
        refine Own.ldcValW 14 24 X1 hx hZ hown (w 3 rfl) hSA e1 hI (Fr.nil _) (fun q cl r => by rw [hsh]; exact X00.2.2 q cl r) hh13 hcw (vs := [(.int (112 : Int32)), (.int (101 : Int32)), (.int (114 : Int32)), (.int (115 : Int32)), (.int (111 : Int32)), (.int (110 : Int32))]) (z := (6 : Int32)) (by decide) (by decide) (by decide) (hb hby at_12) rfl (by decide) (by decide) (by decide) (by decide) ?_
        intro x T9 h9 b kb9 X9 e9 E9 hZ hown Ex9 Fc9 Fv9 Vb9 Lt9
        have O9 := X00.ext E9
        have zr9 := Nat.le_refl h9.size
        refine Own.astoreN 15 #[.val (.int x0), .val (.int (0 : Int32)), .val (.ref sp), .val (.ref x), .unset] X9 hx (hb hby at_14) rfl rfl rfl ?_
        refine Own.goto 55 X9 hx (hb hby at_15) (by decide) ?_
        refine Own.aloadN 56 X9 hx (hb hby at_55) rfl rfl rfl ?_
        have hI : (s.setVm T9.vm).vm.interned = T9.vm.interned := rfl
        refine Own.callVtT 59 0 sp [] [] X9 hx hZ hown (m1q l Z a0 w sp x n0 T9.vm.interned _ (FP.ext O9.2) (Own.foundAt (s := s) (vm1 := T9.vm) hZ (w 3 rfl) hL1 Lt9) hL2) hI (EP.ext O9.2) (notFace_of_selects (args := #[]) (mvT hZ (w 14 rfl))) (w 11 rfl) (w 12 rfl) (w 14 rfl) (w 13 rfl) (w 1 rfl) (w 15 rfl) (by decide) e9 (by decide) (by decide) (by decide) (by decide) (by rw [hml]; rfl) (lenOf pd_1 rfl) rfl (Nat.le_of_eq rfl) (hb hby at_56) rfl ?_
        rintro vv T11 L11 X11 ⟨rfl, N11q, K11⟩ hZ hown
        have N11 := Fr.app N0 N11q
        have O11 := O9.keep K11 all0
        have Ef_13 := Ex9.keep K11
        have zk11 := Nat.le_trans zr9 K11.1
        have zr11 := Nat.le_refl T11.heap.size
        refine Own.astore 61 #[.val (.int x0), .val (.int (0 : Int32)), .val (.ref sp), .val (.ref x), .val (.ref x)] X11 hx (hb hby at_59) rfl rfl rfl ?_
        refine Own.aload 63 X11 hx (hb hby at_61) rfl rfl rfl ?_
        refine Own.ifnull 79 66 X11 hx (hb hby at_63) rfl (by decide) rfl (fun hh => nomatch hh) (fun _ _ => ?_)
        refine Own.aload 68 X11 hx (hb hby at_66) rfl rfl rfl ?_
        refine Own.aloadN 69 X11 hx (hb hby at_68) rfl rfl rfl ?_
        refine Own.callVt 72 0 x [(.ref x)] [] X11 hx hZ hown (m2s l Z a0 w x x _) Ef_13 (notFace_of_selects (args := #[]) (mvT hZ (w 22 rfl))) (w 19 rfl) (w 20 rfl) (w 22 rfl) (w 21 rfl) (w 4 rfl) (w 23 rfl) (by decide) rfl (by decide) (by decide) (by decide) (by decide) (by rw [hml]; rfl) (lenOf pd_2 rfl) rfl (Nat.le_of_eq rfl) (hb hby at_69) rfl ?_
        rintro vv T14 L14 X14 ⟨rfl, hh14, rfl⟩
        have N14 := Fr.app N11 (Fr.nil _)
        refine Own.if_eq 79 75 X14 hx (hb hby at_72) (by decide) rfl (fun tk => absurd tk (by decide)) (fun tk => ?_)
        refine Own.iconst 76 X14 hx ((1 : Int32)) (hb hby at_75) rfl rfl ?_
        refine Own.goto 80 X14 hx (hb hby at_76) (by decide) ?_
        refine Own.retBool X14 hx hlk hret (hb hby at_80) (by decide) (by decide) ?_
        exact ⟨⟨⟨rfl, N14⟩, by rw [hh14]; exact zk11⟩, by rw [hh14]; exact zr11⟩
  ·
    refine Own.if_ne 18 8 X0 hx (hb hby at_5) (by decide) rfl (fun tk => ?_) (fun tk => absurd tk (by decide))
    refine Own.iloadN 19 X0 hx (hb hby at_18) rfl rfl ?_
    refine Own.iconst 20 X0 hx ((1 : Int32)) (hb hby at_19) rfl rfl ?_
    refine Own.icmp_ne 33 23 X0 hx (hb hby at_20) (by decide) rfl (fun tk => absurd tk (by decide)) (fun tk => ?_)
    refine Own.getSta 26 X0 hx hZ hown (host := "") (Or.inl (w 49 rfl)) Via.refl e0 (SA1.ext X00.2) (hb hby at_23) rfl ?_
    intro T15 X15 e15
    refine Own.astoreN 27 #[.val (.int x0), .val (.int (1 : Int32)), .val (.ref se1), .unset, .unset] X15 hx (hb hby at_26) rfl rfl rfl ?_
    refine Own.ldcVal 29 12 X15 hx hZ hown (w 51 rfl) hSA e15 hI (Fr.nil _) (fun q cl r => by rw [hsh]; exact X00.2.2 q cl r) hh18 hcw (vs := [(.int (97 : Int32)), (.int (105 : Int32)), (.int (49 : Int32))]) (z := (3 : Int32)) (by decide) (by decide) (by decide) (hb hby at_27) rfl (by decide) (by decide) (by decide) (by decide) ?_
    intro x T16 h16 b kb16 X16 e16 E16 hZ hown Ex16 Fc16 Fv16 Vb16 Lt16
    have O16 := X00.ext E16
    have zr16 := Nat.le_refl h16.size
    refine Own.astoreN 30 #[.val (.int x0), .val (.int (1 : Int32)), .val (.ref se1), .val (.ref x), .unset] X16 hx (hb hby at_29) rfl rfl rfl ?_
    refine Own.goto 55 X16 hx (hb hby at_30) (by decide) ?_
    refine Own.aloadN 56 X16 hx (hb hby at_55) rfl rfl rfl ?_
    refine Own.callVt 59 0 se1 [] [] X16 hx hZ hown (m1a l Z a0 w se1 pl1 nm1 _ (A1.2.1.ext O16.2) (A1.2.2.1.ext O16.2) (A1.2.2.2.1.ext O16.2)) (A1.1.ext O16.2) (notFace_of_selects (args := #[]) (mvT hZ (w 14 rfl))) (w 11 rfl) (w 12 rfl) (w 14 rfl) (w 13 rfl) (w 1 rfl) (w 15 rfl) (by decide) e16 (by decide) (by decide) (by decide) (by decide) (by rw [hml]; rfl) (lenOf pd_1 rfl) rfl (Nat.le_of_eq rfl) (hb hby at_56) rfl ?_
    rintro vv T18 L18 X18 ⟨rfl, hh18, rfl⟩
    have N18 := Fr.app N0 (Fr.nil _)
    refine Own.astore 61 #[.val (.int x0), .val (.int (1 : Int32)), .val (.ref se1), .val (.ref x), .val (.ref nm1)] X18 hx (hb hby at_59) rfl rfl rfl ?_
    refine Own.aload 63 X18 hx (hb hby at_61) rfl rfl rfl ?_
    refine Own.ifnull 79 66 X18 hx (hb hby at_63) rfl (by decide) rfl (fun hh => nomatch hh) (fun _ _ => ?_)
    refine Own.aload 68 X18 hx (hb hby at_66) rfl rfl rfl ?_
    refine Own.aloadN 69 X18 hx (hb hby at_68) rfl rfl rfl ?_
    refine Own.callVt 72 0 nm1 [(.ref x)] [] X18 hx hZ hown (m2_ai1 l Z a0 w nm1 x n0 z _ O16 SC hz (A1.2.2.2.2.ext O16.2) ⟨Ex16, Fc16, b, _, Fv16, Vb16⟩) (A1.2.2.2.2.1.ext O16.2) (notFace_of_selects (args := #[]) (mvT hZ (w 22 rfl))) (w 19 rfl) (w 20 rfl) (w 22 rfl) (w 21 rfl) (w 4 rfl) (w 23 rfl) (by decide) hh18 (by decide) (by decide) (by decide) (by decide) (by rw [hml]; rfl) (lenOf pd_2 rfl) rfl (Nat.le_of_eq rfl) (hb hby at_69) rfl ?_
    rintro vv T19 L19 X19 ⟨rfl, hh19, rfl⟩
    have N19 := Fr.app N18 (Fr.nil _)
    refine Own.if_eq 79 75 X19 hx (hb hby at_72) (by decide) rfl (fun tk => absurd tk (by decide)) (fun tk => ?_)
    refine Own.iconst 76 X19 hx ((1 : Int32)) (hb hby at_75) rfl rfl ?_
    refine Own.goto 80 X19 hx (hb hby at_76) (by decide) ?_
    refine Own.retBool X19 hx hlk hret (hb hby at_80) (by decide) (by decide) ?_
    exact ⟨⟨rfl, N19⟩, by rw [hh19]; exact zr16⟩
  ·
    refine Own.if_ne 18 8 X0 hx (hb hby at_5) (by decide) rfl (fun tk => ?_) (fun tk => absurd tk (by decide))
    refine Own.iloadN 19 X0 hx (hb hby at_18) rfl rfl ?_
    refine Own.iconst 20 X0 hx ((1 : Int32)) (hb hby at_19) rfl rfl ?_
    refine Own.icmp_ne 33 23 X0 hx (hb hby at_20) (by decide) rfl (fun tk => ?_) (fun tk => absurd tk (by decide))
    refine Own.iloadN 34 X0 hx (hb hby at_33) rfl rfl ?_
    refine Own.iconst 35 X0 hx ((2 : Int32)) (hb hby at_34) rfl rfl ?_
    refine Own.icmp_ne 48 38 X0 hx (hb hby at_35) (by decide) rfl (fun tk => absurd tk (by decide)) (fun tk => ?_)
    refine Own.getSta 41 X0 hx hZ hown (host := "") (Or.inl (w 45 rfl)) Via.refl e0 (SA2.ext X00.2) (hb hby at_38) rfl ?_
    intro T20 X20 e20
    refine Own.astoreN 42 #[.val (.int x0), .val (.int (2 : Int32)), .val (.ref se2), .unset, .unset] X20 hx (hb hby at_41) rfl rfl rfl ?_
    refine Own.ldcVal 44 12 X20 hx hZ hown (w 47 rfl) hSA e20 hI (Fr.nil _) (fun q cl r => by rw [hsh]; exact X00.2.2 q cl r) hh23 hcw (vs := [(.int (97 : Int32)), (.int (105 : Int32)), (.int (50 : Int32))]) (z := (3 : Int32)) (by decide) (by decide) (by decide) (hb hby at_42) rfl (by decide) (by decide) (by decide) (by decide) ?_
    intro x T21 h21 b kb21 X21 e21 E21 hZ hown Ex21 Fc21 Fv21 Vb21 Lt21
    have O21 := X00.ext E21
    have zr21 := Nat.le_refl h21.size
    refine Own.astoreN 45 #[.val (.int x0), .val (.int (2 : Int32)), .val (.ref se2), .val (.ref x), .unset] X21 hx (hb hby at_44) rfl rfl rfl ?_
    refine Own.goto 55 X21 hx (hb hby at_45) (by decide) ?_
    refine Own.aloadN 56 X21 hx (hb hby at_55) rfl rfl rfl ?_
    refine Own.callVt 59 0 se2 [] [] X21 hx hZ hown (m1a l Z a0 w se2 pl2 nm2 _ (A2.2.1.ext O21.2) (A2.2.2.1.ext O21.2) (A2.2.2.2.1.ext O21.2)) (A2.1.ext O21.2) (notFace_of_selects (args := #[]) (mvT hZ (w 14 rfl))) (w 11 rfl) (w 12 rfl) (w 14 rfl) (w 13 rfl) (w 1 rfl) (w 15 rfl) (by decide) e21 (by decide) (by decide) (by decide) (by decide) (by rw [hml]; rfl) (lenOf pd_1 rfl) rfl (Nat.le_of_eq rfl) (hb hby at_56) rfl ?_
    rintro vv T23 L23 X23 ⟨rfl, hh23, rfl⟩
    have N23 := Fr.app N0 (Fr.nil _)
    refine Own.astore 61 #[.val (.int x0), .val (.int (2 : Int32)), .val (.ref se2), .val (.ref x), .val (.ref nm2)] X23 hx (hb hby at_59) rfl rfl rfl ?_
    refine Own.aload 63 X23 hx (hb hby at_61) rfl rfl rfl ?_
    refine Own.ifnull 79 66 X23 hx (hb hby at_63) rfl (by decide) rfl (fun hh => nomatch hh) (fun _ _ => ?_)
    refine Own.aload 68 X23 hx (hb hby at_66) rfl rfl rfl ?_
    refine Own.aloadN 69 X23 hx (hb hby at_68) rfl rfl rfl ?_
    refine Own.callVt 72 0 nm2 [(.ref x)] [] X23 hx hZ hown (m2_ai2 l Z a0 w nm2 x n0 z _ O21 SC hz (A2.2.2.2.2.ext O21.2) ⟨Ex21, Fc21, b, _, Fv21, Vb21⟩) (A2.2.2.2.2.1.ext O21.2) (notFace_of_selects (args := #[]) (mvT hZ (w 22 rfl))) (w 19 rfl) (w 20 rfl) (w 22 rfl) (w 21 rfl) (w 4 rfl) (w 23 rfl) (by decide) hh23 (by decide) (by decide) (by decide) (by decide) (by rw [hml]; rfl) (lenOf pd_2 rfl) rfl (Nat.le_of_eq rfl) (hb hby at_69) rfl ?_
    rintro vv T24 L24 X24 ⟨rfl, hh24, rfl⟩
    have N24 := Fr.app N23 (Fr.nil _)
    refine Own.if_eq 79 75 X24 hx (hb hby at_72) (by decide) rfl (fun tk => absurd tk (by decide)) (fun tk => ?_)
    refine Own.iconst 76 X24 hx ((1 : Int32)) (hb hby at_75) rfl rfl ?_
    refine Own.goto 80 X24 hx (hb hby at_76) (by decide) ?_
    refine Own.retBool X24 hx hlk hret (hb hby at_80) (by decide) (by decide) ?_
    exact ⟨⟨rfl, N24⟩, by rw [hh24]; exact zr21⟩
  ·
    refine Own.if_ne 18 8 X0 hx (hb hby at_5) (by decide) rfl (fun tk => ?_) (fun tk => absurd tk (by decide))
    refine Own.iloadN 19 X0 hx (hb hby at_18) rfl rfl ?_
    refine Own.iconst 20 X0 hx ((1 : Int32)) (hb hby at_19) rfl rfl ?_
    refine Own.icmp_ne 33 23 X0 hx (hb hby at_20) (by decide) rfl (fun tk => ?_) (fun tk => absurd tk (by decide))
    refine Own.iloadN 34 X0 hx (hb hby at_33) rfl rfl ?_
    refine Own.iconst 35 X0 hx ((2 : Int32)) (hb hby at_34) rfl rfl ?_
    refine Own.icmp_ne 48 38 X0 hx (hb hby at_35) (by decide) rfl (fun tk => ?_) (fun tk => absurd tk (by decide))
    refine Own.getSta 51 X0 hx hZ hown (host := "") (Or.inl (w 24 rfl)) Via.refl e0 (SA3.ext X00.2) (hb hby at_48) rfl ?_
    intro T25 X25 e25
    refine Own.astoreN 52 #[.val (.int x0), .val (.int (3 : Int32)), .val (.ref se3), .unset, .unset] X25 hx (hb hby at_51) rfl rfl rfl ?_
    refine Own.ldcVal 54 12 X25 hx hZ hown (w 26 rfl) hSA e25 hI (Fr.nil _) (fun q cl r => by rw [hsh]; exact X00.2.2 q cl r) hh28 hcw (vs := [(.int (97 : Int32)), (.int (105 : Int32)), (.int (51 : Int32))]) (z := (3 : Int32)) (by decide) (by decide) (by decide) (hb hby at_52) rfl (by decide) (by decide) (by decide) (by decide) ?_
    intro x T26 h26 b kb26 X26 e26 E26 hZ hown Ex26 Fc26 Fv26 Vb26 Lt26
    have O26 := X00.ext E26
    have zr26 := Nat.le_refl h26.size
    refine Own.astoreN 55 #[.val (.int x0), .val (.int (3 : Int32)), .val (.ref se3), .val (.ref x), .unset] X26 hx (hb hby at_54) rfl rfl rfl ?_
    refine Own.aloadN 56 X26 hx (hb hby at_55) rfl rfl rfl ?_
    refine Own.callVt 59 0 se3 [] [] X26 hx hZ hown (m1a l Z a0 w se3 pl3 nm3 _ (A3.2.1.ext O26.2) (A3.2.2.1.ext O26.2) (A3.2.2.2.1.ext O26.2)) (A3.1.ext O26.2) (notFace_of_selects (args := #[]) (mvT hZ (w 14 rfl))) (w 11 rfl) (w 12 rfl) (w 14 rfl) (w 13 rfl) (w 1 rfl) (w 15 rfl) (by decide) e26 (by decide) (by decide) (by decide) (by decide) (by rw [hml]; rfl) (lenOf pd_1 rfl) rfl (Nat.le_of_eq rfl) (hb hby at_56) rfl ?_
    rintro vv T28 L28 X28 ⟨rfl, hh28, rfl⟩
    have N28 := Fr.app N0 (Fr.nil _)
    refine Own.astore 61 #[.val (.int x0), .val (.int (3 : Int32)), .val (.ref se3), .val (.ref x), .val (.ref nm3)] X28 hx (hb hby at_59) rfl rfl rfl ?_
    refine Own.aload 63 X28 hx (hb hby at_61) rfl rfl rfl ?_
    refine Own.ifnull 79 66 X28 hx (hb hby at_63) rfl (by decide) rfl (fun hh => nomatch hh) (fun _ _ => ?_)
    refine Own.aload 68 X28 hx (hb hby at_66) rfl rfl rfl ?_
    refine Own.aloadN 69 X28 hx (hb hby at_68) rfl rfl rfl ?_
    refine Own.callVt 72 0 nm3 [(.ref x)] [] X28 hx hZ hown (m2_ai3 l Z a0 w nm3 x n0 z _ O26 SC hz (A3.2.2.2.2.ext O26.2) ⟨Ex26, Fc26, b, _, Fv26, Vb26⟩) (A3.2.2.2.2.1.ext O26.2) (notFace_of_selects (args := #[]) (mvT hZ (w 22 rfl))) (w 19 rfl) (w 20 rfl) (w 22 rfl) (w 21 rfl) (w 4 rfl) (w 23 rfl) (by decide) hh28 (by decide) (by decide) (by decide) (by decide) (by rw [hml]; rfl) (lenOf pd_2 rfl) rfl (Nat.le_of_eq rfl) (hb hby at_69) rfl ?_
    rintro vv T29 L29 X29 ⟨rfl, hh29, rfl⟩
    have N29 := Fr.app N28 (Fr.nil _)
    refine Own.if_eq 79 75 X29 hx (hb hby at_72) (by decide) rfl (fun tk => absurd tk (by decide)) (fun tk => ?_)
    refine Own.iconst 76 X29 hx ((1 : Int32)) (hb hby at_75) rfl rfl ?_
    refine Own.goto 80 X29 hx (hb hby at_76) (by decide) ?_
    refine Own.retBool X29 hx hlk hret (hb hby at_80) (by decide) (by decide) ?_
    exact ⟨⟨rfl, N29⟩, by rw [hh29]; exact zr26⟩
set_option maxRecDepth 65536 in
set_option maxHeartbeats 40000000 in
theorem comes_1 {Post : Tables → Env → Array Value → State → Outcome → State → Prop} (hpost : ∀ tb e args s v u, (limb_1_1.after args s (.returned v) u = true ∧ limb_1_2.after args s (.returned v) u = true ∧ True) → ReturnedEndW s (.returned v) u (Jvm.fieldLocs frame_1_writes args s ++ Jvm.arrayLocs frame_1_arrays args s ++ Jvm.staticLocs frame_1_statics s) 16 5184 → Post tb e args s (.returned v) u) :
    ArmFor flags0 classFile x code maxLocals ret World_1 tables_1 room_1 Calls_1 rest_1 Pre_1 Post := by
  intro l hfl _ _ p e ha hc hk s m args below hf hA hF happ hP
  obtain ⟨hcalls, hrest, hpre⟩ := hP
  obtain ⟨-, -, -, hnamed, -, -, -, hat⟩ := (Spec.applies_iff hf).mp happ
  obtain ⟨hg, hn⟩ := and_e (Cond.before_iff.mp (show (Jvm.Cond.and given_1 narrow_1).before args s = true from hpre))
  obtain ⟨g1, g2⟩ := and_e hg
  obtain ⟨w0, rfl⟩ : ∃ w0 : Value, args = #[w0] := by
    have hs : args.size = 1 := by simpa [Cond.value, given_1] using g1
    obtain ⟨L⟩ := args
    match L, hs with
    | [w0], _ => exact ⟨w0, rfl⟩
  have hw := fun d (hd : d ∈ tables_1) => atoms_spec (ws := Jvm.Cond.code x code maxLocals ret :: tables_1) hat d (List.mem_cons_of_mem _ hd)
  obtain ⟨i0, ei0⟩ := is_v g2
  obtain rfl : w0 = (.int i0) := Option.some.inj ei0
  obtain ⟨hn_1, hm_1⟩ := and_e hn
  obtain ⟨hn_2, hm_2⟩ := and_e hm_1
  obtain ⟨hn_3, hm_3⟩ := and_e hm_2
  obtain ⟨hn_4, hm_4⟩ := and_e hm_3
  obtain ⟨hn_5, hm_5⟩ := and_e hm_4
  obtain ⟨hn_6, hm_6⟩ := and_e hm_5
  obtain ⟨hn_7, hm_7⟩ := and_e hm_6
  obtain ⟨hn_8, hm_8⟩ := and_e hm_7
  obtain ⟨hn_9, hm_9⟩ := and_e hm_8
  obtain ⟨hn_10, hm_10⟩ := and_e hm_9
  obtain ⟨hn_11, hm_11⟩ := and_e hm_10
  obtain ⟨hn_12, hm_12⟩ := and_e hm_11
  obtain ⟨hn_13, hm_13⟩ := and_e hm_12
  obtain ⟨hn_14, hm_14⟩ := and_e hm_13
  obtain ⟨hn_15, hm_15⟩ := and_e hm_14
  obtain ⟨hn_16, hm_16⟩ := and_e hm_15
  obtain ⟨hn_17, hm_17⟩ := and_e hm_16
  obtain ⟨hn_18, hm_18⟩ := and_e hm_17
  obtain ⟨hn_19, hm_19⟩ := and_e hm_18
  obtain ⟨hn_20, hm_20⟩ := and_e hm_19
  obtain ⟨hn_21, hm_21⟩ := and_e hm_20
  obtain ⟨hn_22, hm_22⟩ := and_e hm_21
  obtain ⟨hn_23, hm_23⟩ := and_e hm_22
  obtain ⟨hn_24, hm_24⟩ := and_e hm_23
  obtain ⟨hn_25, hm_25⟩ := and_e hm_24
  obtain ⟨hn_26, hm_26⟩ := and_e hm_25
  obtain ⟨hn_27, hm_27⟩ := and_e hm_26
  obtain ⟨hn_28, hm_28⟩ := and_e hm_27
  obtain ⟨hn_29, hm_29⟩ := and_e hm_28
  obtain ⟨hn_30, hm_30⟩ := and_e hm_29
  obtain ⟨hn_31, hm_31⟩ := and_e hm_30
  obtain ⟨sp, ev_sp⟩ := exa_v hn_1
  have E_sp := Exa.start ev_sp hn_1
  have S_sp := Sta.start ev_sp (Or.inr ⟨(hw _ (List.mem_of_getElem? (i := 1) rfl)), (hw _ (List.mem_of_getElem? (i := 2) rfl))⟩)
  obtain ⟨se1, ev_se1⟩ := exa_v hn_23
  have E_se1 := Exa.start ev_se1 hn_23
  have S_se1 := Sta.start ev_se1 (Or.inr ⟨(hw _ (List.mem_of_getElem? (i := 1) rfl)), (hw _ (List.mem_of_getElem? (i := 50) rfl))⟩)
  obtain ⟨se2, ev_se2⟩ := exa_v hn_13
  have E_se2 := Exa.start ev_se2 hn_13
  have S_se2 := Sta.start ev_se2 (Or.inr ⟨(hw _ (List.mem_of_getElem? (i := 1) rfl)), (hw _ (List.mem_of_getElem? (i := 46) rfl))⟩)
  obtain ⟨se3, ev_se3⟩ := exa_v hn_3
  have E_se3 := Exa.start ev_se3 hn_3
  have S_se3 := Sta.start ev_se3 (Or.inr ⟨(hw _ (List.mem_of_getElem? (i := 1) rfl)), (hw _ (List.mem_of_getElem? (i := 25) rfl))⟩)
  obtain ⟨pl1, ev_pl1⟩ := exa_v hn_24
  have E_pl1 := Exa.start ev_pl1 hn_24
  obtain ⟨pl2, ev_pl2⟩ := exa_v hn_14
  have E_pl2 := Exa.start ev_pl2 hn_14
  obtain ⟨pl3, ev_pl3⟩ := exa_v hn_4
  have E_pl3 := Exa.start ev_pl3 hn_4
  have FP := Fld.start ((fld_at ev_sp).symm.trans (Own.eqN_v hn_2))
  have Fc1 := Fld.start ((fld_at ev_se1).symm.trans (Own.eqR_v ev_pl1 hn_25))
  obtain ⟨nm1, ev_nm1⟩ := exa_v hn_26
  have E_nm1 := Exa.start ev_nm1 hn_26
  have Fn1 := Fld.start ((fld_at ev_pl1).symm.trans ev_nm1)
  have Fo1 := Fld.start ((fld_at ev_nm1).symm.trans (Own.eqI_v hn_27))
  obtain ⟨vb1, ev_vb1⟩ := arr_v hn_28
  have Fv1 := Fld.start ((fld_at ev_nm1).symm.trans ev_vb1)
  obtain ⟨cl1, Ar1⟩ := Arr.start ev_vb1 hn_28
  have ln1 := Own.lenN (k := 3) ev_vb1 hn_29 Ar1 (by decide)
  have el1_0 := Own.elN (i := 0) ev_vb1 hn_30 Ar1 (by decide)
  have el1_1 := Own.elN (i := 1) ev_vb1 hn_31 Ar1 (by decide)
  have el1_2 := Own.elN (i := 2) ev_vb1 hm_31 Ar1 (by decide)
  have A1 : own_ai s se1 pl1 nm1 [(.int (97 : Int32)), (.int (105 : Int32)), (.int (49 : Int32))] := ⟨E_se1, Fc1, E_pl1, Fn1, E_nm1, Fo1, vb1, _, Fv1, Own.arvB Ar1 ln1 (by decide) (by decide) ⟨el1_0, el1_1, el1_2, trivial⟩ (by decide)⟩
  have Fc2 := Fld.start ((fld_at ev_se2).symm.trans (Own.eqR_v ev_pl2 hn_15))
  obtain ⟨nm2, ev_nm2⟩ := exa_v hn_16
  have E_nm2 := Exa.start ev_nm2 hn_16
  have Fn2 := Fld.start ((fld_at ev_pl2).symm.trans ev_nm2)
  have Fo2 := Fld.start ((fld_at ev_nm2).symm.trans (Own.eqI_v hn_17))
  obtain ⟨vb2, ev_vb2⟩ := arr_v hn_18
  have Fv2 := Fld.start ((fld_at ev_nm2).symm.trans ev_vb2)
  obtain ⟨cl2, Ar2⟩ := Arr.start ev_vb2 hn_18
  have ln2 := Own.lenN (k := 3) ev_vb2 hn_19 Ar2 (by decide)
  have el2_0 := Own.elN (i := 0) ev_vb2 hn_20 Ar2 (by decide)
  have el2_1 := Own.elN (i := 1) ev_vb2 hn_21 Ar2 (by decide)
  have el2_2 := Own.elN (i := 2) ev_vb2 hn_22 Ar2 (by decide)
  have A2 : own_ai s se2 pl2 nm2 [(.int (97 : Int32)), (.int (105 : Int32)), (.int (50 : Int32))] := ⟨E_se2, Fc2, E_pl2, Fn2, E_nm2, Fo2, vb2, _, Fv2, Own.arvB Ar2 ln2 (by decide) (by decide) ⟨el2_0, el2_1, el2_2, trivial⟩ (by decide)⟩
  have Fc3 := Fld.start ((fld_at ev_se3).symm.trans (Own.eqR_v ev_pl3 hn_5))
  obtain ⟨nm3, ev_nm3⟩ := exa_v hn_6
  have E_nm3 := Exa.start ev_nm3 hn_6
  have Fn3 := Fld.start ((fld_at ev_pl3).symm.trans ev_nm3)
  have Fo3 := Fld.start ((fld_at ev_nm3).symm.trans (Own.eqI_v hn_7))
  obtain ⟨vb3, ev_vb3⟩ := arr_v hn_8
  have Fv3 := Fld.start ((fld_at ev_nm3).symm.trans ev_vb3)
  obtain ⟨cl3, Ar3⟩ := Arr.start ev_vb3 hn_8
  have ln3 := Own.lenN (k := 3) ev_vb3 hn_9 Ar3 (by decide)
  have el3_0 := Own.elN (i := 0) ev_vb3 hn_10 Ar3 (by decide)
  have el3_1 := Own.elN (i := 1) ev_vb3 hn_11 Ar3 (by decide)
  have el3_2 := Own.elN (i := 2) ev_vb3 hn_12 Ar3 (by decide)
  have A3 : own_ai s se3 pl3 nm3 [(.int (97 : Int32)), (.int (105 : Int32)), (.int (51 : Int32))] := ⟨E_se3, Fc3, E_pl3, Fn3, E_nm3, Fo3, vb3, _, Fv3, Own.arvB Ar3 ln3 (by decide) (by decide) ⟨el3_0, el3_1, el3_2, trivial⟩ (by decide)⟩
  obtain ⟨hsets, hown0⟩ := atoms_of _ (rest_1_c_eq ▸ (show rest_1_c.before _ s = true from hrest))
  have n3 := not_v (Cond.before_iff.mp (hsets _ (List.mem_of_getElem? (i := 2) rfl)))
  obtain ⟨zc, ezc⟩ := is_v (Cond.before_iff.mp (hsets _ (List.mem_of_getElem? (i := 1) rfl)))
  have SC : Sta s s.heap "java/lang/String" "COMPACT_STRINGS" "Z" (.int zc) := Sta.start ezc (Or.inl (hsets _ (List.mem_of_getElem? (i := 0) rfl)))
  have hzc : ¬ zc = 0 := gotF (Cond.eq_ints ezc (Term.int_eval (0))) n3
  have hh60 : Jvm.Lit.constHeld s "com/example/tablier/tablier/Seat" 60 := hcalls.1 ("com/example/tablier/tablier/Seat", 60) (List.mem_of_getElem? (i := 0) rfl)
  have hh13 : Jvm.Lit.constHeld s "com/example/tablier/tablier/SeatToStringPinLaw" 13 := hcalls.1 ("com/example/tablier/tablier/SeatToStringPinLaw", 13) (List.mem_of_getElem? (i := 1) rfl)
  have hh18 : Jvm.Lit.constHeld s "com/example/tablier/tablier/SeatToStringPinLaw" 18 := hcalls.1 ("com/example/tablier/tablier/SeatToStringPinLaw", 18) (List.mem_of_getElem? (i := 2) rfl)
  have hh23 : Jvm.Lit.constHeld s "com/example/tablier/tablier/SeatToStringPinLaw" 23 := hcalls.1 ("com/example/tablier/tablier/SeatToStringPinLaw", 23) (List.mem_of_getElem? (i := 3) rfl)
  have hh28 : Jvm.Lit.constHeld s "com/example/tablier/tablier/SeatToStringPinLaw" 28 := hcalls.1 ("com/example/tablier/tablier/SeatToStringPinLaw", 28) (List.mem_of_getElem? (i := 4) rfl)
  obtain ⟨n, o, h1, h2, h3, _, L, rfl, ⟨rfl, N⟩, hq⟩ := m0 l s _ (fun i {d} h => hw d (List.mem_of_getElem? h)) i0 sp se1 pl1 nm1 se2 pl2 nm2 se3 pl3 nm3 zc s.heap s.heap.size (Old.start s) S_sp E_sp FP S_se1 A1 S_se2 A2 S_se3 A3 SC hzc hh60 hh13 hh18 hh23 hh28 (hsets _ (List.mem_of_getElem? (i := 2) rfl)) p e ha hc hk s m _ below hf ((Spec.applies_iff_loose hf).mp happ).1 ⟨rfl, State.Warmed39.refl s, rfl, rfl⟩ trivial
  refine ⟨n, _, h1, h2, h3, hpost _ _ _ _ _ _ ⟨Cond.after_iff.mpr rfl, Cond.after_iff.mpr (eq_i res_at (Term.int_eval (1)) rfl), trivial⟩ ⟨hq.1, hq.2.1, hq.2.2.1, (hq.2.2.2.sift fun y hy => Or.inr (N y hy)).mono (by decide) (by decide)⟩⟩
theorem main_1_1 : Claimed_1_1 := comes_1 fun _ _ _ _ _ _ h hF => ⟨h.1, hF⟩
theorem main_1_2 : Claimed_1_2 := comes_1 fun _ _ _ _ _ _ h hF => ⟨h.2.1, hF⟩
end Jvm.Pilot.@@N@@
namespace Jvm.Pilot.@@N@@
open Jvm Jvm.ClassFile Sem Op Lib Jvm.Free Jvm.Stand Jvm.Pilot.@@N@@.Jvm.D
/-! MADE BY PROGRAM (witnessworld.py) out of the Statement's table words and the real class files: 19 classes; the members and pool entries that the words name. The judged class is class 1, her method 1. -/
namespace start1
open Jvm.ClassFile
def u (s : String) : CpInfo := .utf8 (stringToUtf16 s)
/-- a pool by its gaps: so many unusable entries, then the entry; so many at the end -/
def gap : Nat → List CpInfo → List CpInfo
  | 0, r => r
  | n + 1, r => .unusable :: gap n r
def poolList (es : List (Nat × CpInfo)) (last : Nat) : List CpInfo := es.foldr (fun e r => gap e.1 (e.2 :: r)) (gap last [])
def pool (es : List (Nat × CpInfo)) (last : Nat) : Array CpInfo := ⟨poolList es last⟩
def fileOf (pool : Array CpInfo) (this : Nat) (attrs : Array Attribute := #[]) (ms : Array MethodInfo := #[]) (fl : Nat := 33) (sup : Nat := 0) (ifs : Array Nat := #[]) (fds : Array FieldInfo := #[]) : ClassFile where
  minorVersion := 0
  majorVersion := 65
  constantPool := pool
  accessFlags := fl
  thisClass := this
  superClass := sup
  interfaces := ifs
  fields := fds
  methods := ms
  attributes := attrs
def plain (name : String) (sup : Option ClassId) : Class where
  name := name
  kind := .ordinary
  loader := none
  accessFlags := 33
  super := sup
  interfaces := #[]
  cf := none
  fields := #[]
  methods := #[]
  instanceTypes := #[]
  staticTypes := #[]
  resolved := #[]
  callSites := []
  init := .initialized
  statics := none
  mirror := none

def pool0 : Array CpInfo := pool [(5, u "<init>"), (0, u "()V"), (1, .class_ 10), (1, u "java/lang/Object")] 113

def k0m0 : Method := { name := "<init>", desc := "()V", sig := { parameters := [], returnType := none }, accessFlags := 1, code := none }
/-- java/lang/Object -/
def k0 : Class := { plain "java/lang/Object" none with
  accessFlags := 33
  interfaces := #[]
  cf := some (fileOf pool0 8 #[] #[{ accessFlags := 1, nameIndex := 5, descriptorIndex := 6, attributes := #[] }] 33 0 #[] #[])
  fields := #[]
  methods := #[k0m0]
  instanceTypes := #[]
  staticTypes := #[]
  resolved := Array.replicate 124 none
  statics := none }

def pool1 : Array CpInfo := pool [(2, .class_ 4), (1, u "java/lang/Object"), (0, u "<init>"), (0, u "()V"), (0, .fieldref 8 9), (0, .class_ 10), (0, .nameAndType 11 12), (0, u "com/example/tablier/tablier/Seat"), (0, u "PERSON"), (0, u "Lcom/example/tablier/tablier/Seat;"), (0, .string 14), (0, u "person"), (0, .fieldref 8 16), (0, .nameAndType 17 12), (0, u "AI1"), (0, .string 19), (0, u "ai1"), (0, .fieldref 8 21), (0, .nameAndType 22 12), (0, u "AI2"), (0, .string 24), (0, u "ai2"), (0, .fieldref 8 26), (0, .nameAndType 27 12), (0, u "AI3"), (0, .string 29), (0, u "ai3"), (0, .methodref 8 31), (0, .nameAndType 32 33), (0, u "toString"), (0, u "()Ljava/lang/String;"), (0, .methodref 35 36), (0, .class_ 37), (0, .nameAndType 38 39), (0, u "java/lang/String"), (0, u "equals"), (0, u "(Ljava/lang/Object;)Z"), (0, .class_ 41), (0, u "com/example/tablier/tablier/SeatToStringPinLaw"), (2, u "law"), (0, u "(I)Z")] 3

def k1m0 : Method := { name := "<init>", desc := "()V", sig := { parameters := [], returnType := none }, accessFlags := 1, code := none }
def k1c1 : Code := { maxStack := 2, maxLocals := 5, code := code, exceptionTable := #[], attributes := #[] }
def k1m1 : Method := { name := "law", desc := "(I)Z", sig := { parameters := [.int], returnType := some .boolean }, accessFlags := 9, code := some k1c1 }
/-- com/example/tablier/tablier/SeatToStringPinLaw -/
def k1 : Class := { plain "com/example/tablier/tablier/SeatToStringPinLaw" (some 0) with
  accessFlags := 49
  interfaces := #[]
  cf := some (fileOf pool1 40 #[] #[{ accessFlags := 1, nameIndex := 5, descriptorIndex := 6, attributes := #[] }, { accessFlags := 9, nameIndex := 44, descriptorIndex := 45, attributes := #[] }] 49 2 #[] #[])
  fields := #[]
  methods := #[k1m0, k1m1]
  instanceTypes := #[]
  staticTypes := #[]
  resolved := Array.replicate 49 none
  statics := none }

def pool2 : Array CpInfo := pool [(1, .class_ 2), (0, u "java/lang/constant/Constable"), (0, .class_ 4), (0, u "java/lang/Object")] 6

/-- java/lang/constant/Constable -/
def k2 : Class := { plain "java/lang/constant/Constable" (some 0) with
  accessFlags := 1537
  interfaces := #[]
  cf := some (fileOf pool2 1 #[] #[] 1537 3 #[] #[])
  fields := #[]
  methods := #[]
  instanceTypes := #[]
  staticTypes := #[]
  resolved := Array.replicate 11 none
  statics := none }

def pool3 : Array CpInfo := pool [(1, .class_ 2), (0, u "java/lang/Comparable"), (0, .class_ 4), (0, u "java/lang/Object")] 7

/-- java/lang/Comparable -/
def k3 : Class := { plain "java/lang/Comparable" (some 0) with
  accessFlags := 1537
  interfaces := #[]
  cf := some (fileOf pool3 1 #[] #[] 1537 3 #[] #[])
  fields := #[]
  methods := #[]
  instanceTypes := #[]
  staticTypes := #[]
  resolved := Array.replicate 12 none
  statics := none }

def pool4 : Array CpInfo := pool [(1, .class_ 2), (0, u "java/io/Serializable"), (0, .class_ 4), (0, u "java/lang/Object")] 2

/-- java/io/Serializable -/
def k4 : Class := { plain "java/io/Serializable" (some 0) with
  accessFlags := 1537
  interfaces := #[]
  cf := some (fileOf pool4 1 #[] #[] 1537 3 #[] #[])
  fields := #[]
  methods := #[]
  instanceTypes := #[]
  staticTypes := #[]
  resolved := Array.replicate 7 none
  statics := none }

def pool5 : Array CpInfo := pool [(2, .class_ 4), (1, u "java/lang/Enum"), (0, u "name"), (0, u "Ljava/lang/String;"), (2, u "ordinal"), (0, u "I"), (1, .class_ 14), (1, u "java/lang/Object"), (4, u "hash"), (86, .class_ 108), (1, u "java/lang/Enum$EnumDesc"), (2, .class_ 112), (0, u "java/lang/constant/Constable"), (0, .class_ 114), (0, u "java/lang/Comparable"), (0, .class_ 116), (0, u "java/io/Serializable")] 87

/-- java/lang/Enum -/
def k5 : Class := { plain "java/lang/Enum" (some 0) with
  accessFlags := 1057
  interfaces := #[2, 3, 4]
  cf := some (fileOf pool5 2 #[.nestMembers #[106]] #[] 1057 12 #[111, 113, 115] #[{ accessFlags := 18, nameIndex := 5, descriptorIndex := 6, attributes := #[] }, { accessFlags := 18, nameIndex := 9, descriptorIndex := 10, attributes := #[] }, { accessFlags := 2, nameIndex := 19, descriptorIndex := 10, attributes := #[] }])
  fields := #[{ name := "name", type := (.object "java/lang/String"), accessFlags := 18, slot := 0, constantValue := 0 }, { name := "ordinal", type := .int, accessFlags := 18, slot := 1, constantValue := 0 }, { name := "hash", type := .int, accessFlags := 2, slot := 2, constantValue := 0 }]
  methods := #[]
  instanceTypes := #[(.object "java/lang/String"), .int, .int]
  staticTypes := #[]
  resolved := Array.replicate 204 none
  statics := none }

def pool6 : Array CpInfo := pool [(1, .class_ 2), (0, u "com/example/tablier/tablier/Seat"), (2, u "PERSON"), (0, u "Lcom/example/tablier/tablier/Seat;"), (2, u "AI1"), (2, u "AI2"), (2, u "AI3"), (2, u "$VALUES"), (0, u "[Lcom/example/tablier/tablier/Seat;"), (6, .class_ 28), (1, u "java/lang/Enum"), (6, .fieldref 1 36), (0, .nameAndType 37 38), (0, u "computer"), (0, u "Lcom/example/tablier/tablier/Player;"), (0, .class_ 40), (0, u "com/example/tablier/tablier/Seat$Names"), (19, .string 61), (0, u "person"), (0, .methodref 63 64), (0, .class_ 65), (0, .nameAndType 66 67), (0, u "com/example/tablier/tablier/Player"), (0, u "toString"), (0, u "()Ljava/lang/String;"), (17, u "SIDES"), (0, u "I")] 24

def k6c0 : Code := { maxStack := 1, maxLocals := 1, code := prog_40_method_7_code, exceptionTable := #[], attributes := #[] }
def k6m0 : Method := { name := "toString", desc := "()Ljava/lang/String;", sig := { parameters := [], returnType := some (.object "java/lang/String") }, accessFlags := 1, code := some k6c0 }
/-- com/example/tablier/tablier/Seat -/
def k6 : Class := { plain "com/example/tablier/tablier/Seat" (some 5) with
  accessFlags := 16432
  interfaces := #[]
  cf := some (fileOf pool6 1 #[.nestMembers #[39]] #[{ accessFlags := 1, nameIndex := 66, descriptorIndex := 67, attributes := #[] }] 16432 26 #[] #[{ accessFlags := 16409, nameIndex := 5, descriptorIndex := 6, attributes := #[] }, { accessFlags := 16409, nameIndex := 9, descriptorIndex := 6, attributes := #[] }, { accessFlags := 16409, nameIndex := 12, descriptorIndex := 6, attributes := #[] }, { accessFlags := 16409, nameIndex := 15, descriptorIndex := 6, attributes := #[] }, { accessFlags := 24, nameIndex := 85, descriptorIndex := 86, attributes := #[] }, { accessFlags := 18, nameIndex := 37, descriptorIndex := 38, attributes := #[] }, { accessFlags := 4122, nameIndex := 18, descriptorIndex := 19, attributes := #[] }])
  fields := #[{ name := "PERSON", type := (.object "com/example/tablier/tablier/Seat"), accessFlags := 16409, slot := 0, constantValue := 0 }, { name := "AI1", type := (.object "com/example/tablier/tablier/Seat"), accessFlags := 16409, slot := 1, constantValue := 0 }, { name := "AI2", type := (.object "com/example/tablier/tablier/Seat"), accessFlags := 16409, slot := 2, constantValue := 0 }, { name := "AI3", type := (.object "com/example/tablier/tablier/Seat"), accessFlags := 16409, slot := 3, constantValue := 0 }, { name := "SIDES", type := .int, accessFlags := 24, slot := 4, constantValue := 0 }, { name := "computer", type := (.object "com/example/tablier/tablier/Player"), accessFlags := 18, slot := 3, constantValue := 0 }, { name := "$VALUES", type := (.array (.object "com/example/tablier/tablier/Seat")), accessFlags := 4122, slot := 5, constantValue := 0 }]
  methods := #[k6m0]
  instanceTypes := #[(.object "java/lang/String"), .int, .int, (.object "com/example/tablier/tablier/Player")]
  staticTypes := #[(.object "com/example/tablier/tablier/Seat"), (.object "com/example/tablier/tablier/Seat"), (.object "com/example/tablier/tablier/Seat"), (.object "com/example/tablier/tablier/Seat"), .int, (.array (.object "com/example/tablier/tablier/Seat"))]
  resolved := Array.replicate 111 none
  statics := some 0 }

def pool7 : Array CpInfo := pool [(2, .class_ 4), (1, u "java/lang/CharSequence"), (42, .class_ 48), (0, u "java/lang/CharSequence$1CodePointIterator"), (10, .class_ 60), (0, u "java/lang/CharSequence$1CharIterator"), (5, .class_ 67), (0, u "java/lang/Object")] 63

/-- java/lang/CharSequence -/
def k7 : Class := { plain "java/lang/CharSequence" (some 0) with
  accessFlags := 1537
  interfaces := #[]
  cf := some (fileOf pool7 2 #[.nestMembers #[47, 59]] #[] 1537 66 #[] #[])
  fields := #[]
  methods := #[]
  instanceTypes := #[]
  staticTypes := #[]
  resolved := Array.replicate 131 none
  statics := none }

def pool8 : Array CpInfo := pool [(1, .class_ 2), (0, u "java/lang/constant/ConstantDesc"), (0, .class_ 4), (0, u "java/lang/Object")] 32

/-- java/lang/constant/ConstantDesc -/
def k8 : Class := { plain "java/lang/constant/ConstantDesc" (some 0) with
  accessFlags := 1537
  interfaces := #[]
  cf := some (fileOf pool8 1 #[] #[] 1537 3 #[] #[])
  fields := #[]
  methods := #[]
  instanceTypes := #[]
  staticTypes := #[]
  resolved := Array.replicate 37 none
  statics := none }

def pool9 : Array CpInfo := pool [(2, .class_ 4), (1, u "java/lang/Object"), (0, u "<init>"), (0, u "()V"), (2, .fieldref 10 11), (0, .class_ 12), (0, .nameAndType 13 14), (0, u "java/lang/String"), (0, u "value"), (0, u "[B"), (0, .fieldref 10 16), (0, .nameAndType 17 18), (0, u "coder"), (0, u "B"), (2, u "hash"), (0, u "I"), (2, u "hashIsZero"), (0, u "Z"), (11, .fieldref 10 39), (0, .nameAndType 40 26), (0, u "COMPACT_STRINGS"), (66, .class_ 109), (1, u "java/lang/StringLatin1"), (431, .methodref 107 542), (0, .nameAndType 543 544), (0, u "equals"), (0, u "([B[B)Z"), (28, u "(Ljava/lang/Object;)Z"), (1, .class_ 576), (0, u "java/lang/CharSequence"), (22, u "CASE_INSENSITIVE_ORDER"), (0, u "Ljava/util/Comparator;"), (500, u "serialPersistentFields"), (0, u "[Ljava/io/ObjectStreamField;"), (0, .class_ 1104), (0, u "java/lang/String$CaseInsensitiveComparator"), (1, .class_ 1107), (0, u "java/io/Serializable"), (0, .class_ 1109), (0, u "java/lang/Comparable"), (0, .class_ 1111), (0, u "java/lang/constant/Constable"), (0, .class_ 1113), (0, u "java/lang/constant/ConstantDesc"), (2, u "serialVersionUID"), (0, u "J"), (3, u "REPL"), (0, u "C"), (2, u "LATIN1"), (1, u "UTF16")] 323

def k9m0 : Method := { name := "<init>", desc := "()V", sig := { parameters := [], returnType := none }, accessFlags := 1, code := none }
def k9c1 : Code := { maxStack := 2, maxLocals := 3, code := jdk_42_method_66_code, exceptionTable := #[], attributes := #[] }
def k9m1 : Method := { name := "equals", desc := "(Ljava/lang/Object;)Z", sig := { parameters := [(.object "java/lang/Object")], returnType := some .boolean }, accessFlags := 1, code := some k9c1 }
/-- java/lang/String -/
def k9 : Class := { plain "java/lang/String" (some 0) with
  accessFlags := 49
  interfaces := #[4, 3, 7, 2, 8]
  cf := some (fileOf pool9 10 #[.nestMembers #[1103]] #[{ accessFlags := 1, nameIndex := 5, descriptorIndex := 6, attributes := #[] }, { accessFlags := 1, nameIndex := 543, descriptorIndex := 573, attributes := #[] }] 49 2 #[1106, 1108, 575, 1110, 1112] #[{ accessFlags := 18, nameIndex := 13, descriptorIndex := 14, attributes := #[] }, { accessFlags := 18, nameIndex := 17, descriptorIndex := 18, attributes := #[] }, { accessFlags := 2, nameIndex := 21, descriptorIndex := 22, attributes := #[] }, { accessFlags := 2, nameIndex := 25, descriptorIndex := 26, attributes := #[] }, { accessFlags := 26, nameIndex := 1116, descriptorIndex := 1117, attributes := #[] }, { accessFlags := 24, nameIndex := 40, descriptorIndex := 26, attributes := #[] }, { accessFlags := 26, nameIndex := 1101, descriptorIndex := 1102, attributes := #[] }, { accessFlags := 26, nameIndex := 1121, descriptorIndex := 1122, attributes := #[] }, { accessFlags := 25, nameIndex := 599, descriptorIndex := 600, attributes := #[] }, { accessFlags := 24, nameIndex := 1125, descriptorIndex := 18, attributes := #[] }, { accessFlags := 24, nameIndex := 1127, descriptorIndex := 18, attributes := #[] }])
  fields := #[{ name := "value", type := (.array .byte), accessFlags := 18, slot := 0, constantValue := 0 }, { name := "coder", type := .byte, accessFlags := 18, slot := 1, constantValue := 0 }, { name := "hash", type := .int, accessFlags := 2, slot := 2, constantValue := 0 }, { name := "hashIsZero", type := .boolean, accessFlags := 2, slot := 3, constantValue := 0 }, { name := "serialVersionUID", type := .long, accessFlags := 26, slot := 0, constantValue := 0 }, { name := "COMPACT_STRINGS", type := .boolean, accessFlags := 24, slot := 1, constantValue := 0 }, { name := "serialPersistentFields", type := (.array (.object "java/io/ObjectStreamField")), accessFlags := 26, slot := 2, constantValue := 0 }, { name := "REPL", type := .char, accessFlags := 26, slot := 3, constantValue := 0 }, { name := "CASE_INSENSITIVE_ORDER", type := (.object "java/util/Comparator"), accessFlags := 25, slot := 4, constantValue := 0 }, { name := "LATIN1", type := .byte, accessFlags := 24, slot := 5, constantValue := 0 }, { name := "UTF16", type := .byte, accessFlags := 24, slot := 6, constantValue := 0 }]
  methods := #[k9m0, k9m1]
  instanceTypes := #[(.array .byte), .byte, .int, .boolean]
  staticTypes := #[.long, .boolean, (.array (.object "java/io/ObjectStreamField")), .char, (.object "java/util/Comparator"), .byte, .byte]
  resolved := Array.replicate 1451 none
  statics := some 1 }

def pool10 : Array CpInfo := pool [(1, .class_ 2), (0, u "com/example/tablier/tablier/Player"), (2, u "RANDOM"), (0, u "Lcom/example/tablier/tablier/Player;"), (2, u "AI1"), (2, u "AI2"), (2, u "AI3"), (2, u "$VALUES"), (0, u "[Lcom/example/tablier/tablier/Player;"), (6, .class_ 28), (1, u "java/lang/Enum"), (6, .fieldref 1 36), (0, .nameAndType 37 38), (0, u "name"), (0, u "Ljava/lang/String;"), (2, u "effort"), (0, u "I"), (0, .class_ 44), (0, u "com/example/tablier/tablier/Player$Names"), (51, u "toString"), (0, u "()Ljava/lang/String;")] 7

def k10c0 : Code := { maxStack := 1, maxLocals := 1, code := prog_35_method_6_code, exceptionTable := #[], attributes := #[] }
def k10m0 : Method := { name := "toString", desc := "()Ljava/lang/String;", sig := { parameters := [], returnType := some (.object "java/lang/String") }, accessFlags := 1, code := some k10c0 }
/-- com/example/tablier/tablier/Player -/
def k10 : Class := { plain "com/example/tablier/tablier/Player" (some 5) with
  accessFlags := 16432
  interfaces := #[]
  cf := some (fileOf pool10 1 #[.nestMembers #[43]] #[{ accessFlags := 1, nameIndex := 96, descriptorIndex := 97, attributes := #[] }] 16432 26 #[] #[{ accessFlags := 16409, nameIndex := 5, descriptorIndex := 6, attributes := #[] }, { accessFlags := 16409, nameIndex := 9, descriptorIndex := 6, attributes := #[] }, { accessFlags := 16409, nameIndex := 12, descriptorIndex := 6, attributes := #[] }, { accessFlags := 16409, nameIndex := 15, descriptorIndex := 6, attributes := #[] }, { accessFlags := 18, nameIndex := 37, descriptorIndex := 38, attributes := #[] }, { accessFlags := 18, nameIndex := 41, descriptorIndex := 42, attributes := #[] }, { accessFlags := 4122, nameIndex := 18, descriptorIndex := 19, attributes := #[] }])
  fields := #[{ name := "RANDOM", type := (.object "com/example/tablier/tablier/Player"), accessFlags := 16409, slot := 0, constantValue := 0 }, { name := "AI1", type := (.object "com/example/tablier/tablier/Player"), accessFlags := 16409, slot := 1, constantValue := 0 }, { name := "AI2", type := (.object "com/example/tablier/tablier/Player"), accessFlags := 16409, slot := 2, constantValue := 0 }, { name := "AI3", type := (.object "com/example/tablier/tablier/Player"), accessFlags := 16409, slot := 3, constantValue := 0 }, { name := "name", type := (.object "java/lang/String"), accessFlags := 18, slot := 3, constantValue := 0 }, { name := "effort", type := .int, accessFlags := 18, slot := 4, constantValue := 0 }, { name := "$VALUES", type := (.array (.object "com/example/tablier/tablier/Player")), accessFlags := 4122, slot := 4, constantValue := 0 }]
  methods := #[k10m0]
  instanceTypes := #[(.object "java/lang/String"), .int, .int, (.object "java/lang/String"), .int]
  staticTypes := #[(.object "com/example/tablier/tablier/Player"), (.object "com/example/tablier/tablier/Player"), (.object "com/example/tablier/tablier/Player"), (.object "com/example/tablier/tablier/Player"), (.array (.object "com/example/tablier/tablier/Player"))]
  resolved := Array.replicate 105 none
  statics := some 2 }

def pool11 : Array CpInfo := pool [(4, .class_ 6), (1, u "java/lang/Object"), (0, u "<init>"), (0, u "()V"), (5, .class_ 16), (1, u "java/lang/StringLatin1"), (104, u "$assertionsDisabled"), (0, u "Z"), (98, .class_ 223), (1, u "java/lang/StringLatin1$LinesSpliterator"), (57, u "equals"), (0, u "([B[B)Z"), (107, .class_ 391), (0, u "java/lang/StringLatin1$CharsSpliterator")] 3

def k11m0 : Method := { name := "<init>", desc := "()V", sig := { parameters := [], returnType := none }, accessFlags := 0, code := none }
def k11c1 : Code := { maxStack := 3, maxLocals := 3, code := jdk_43_method_13_code, exceptionTable := #[], attributes := #[] }
def k11m1 : Method := { name := "equals", desc := "([B[B)Z", sig := { parameters := [(.array .byte), (.array .byte)], returnType := some .boolean }, accessFlags := 9, code := some k11c1 }
/-- java/lang/StringLatin1 -/
def k11 : Class := { plain "java/lang/StringLatin1" (some 0) with
  accessFlags := 48
  interfaces := #[]
  cf := some (fileOf pool11 14 #[.nestMembers #[390, 221]] #[{ accessFlags := 0, nameIndex := 7, descriptorIndex := 8, attributes := #[] }, { accessFlags := 9, nameIndex := 281, descriptorIndex := 282, attributes := #[] }] 48 4 #[] #[{ accessFlags := 4120, nameIndex := 121, descriptorIndex := 122, attributes := #[] }])
  fields := #[{ name := "$assertionsDisabled", type := .boolean, accessFlags := 4120, slot := 0, constantValue := 0 }]
  methods := #[k11m0, k11m1]
  instanceTypes := #[]
  staticTypes := #[.boolean]
  resolved := Array.replicate 395 none
  statics := none }

def pool12 : Array CpInfo := pool [(2, .class_ 4), (1, u "java/lang/Object"), (0, u "<init>"), (0, u "()V"), (17, .class_ 26), (1, u "jdk/internal/util/Preconditions"), (28, .class_ 56), (0, u "jdk/internal/util/Preconditions$4"), (57, .class_ 115), (0, u "jdk/internal/util/Preconditions$1"), (7, u "SIOOBE_FORMATTER"), (0, u "Ljava/util/function/BiFunction;"), (0, .class_ 126), (0, u "jdk/internal/util/Preconditions$2"), (3, u "AIOOBE_FORMATTER"), (0, .class_ 132), (0, u "jdk/internal/util/Preconditions$3"), (3, u "IOOBE_FORMATTER")] 57

def k12m0 : Method := { name := "<init>", desc := "()V", sig := { parameters := [], returnType := none }, accessFlags := 1, code := none }
/-- jdk/internal/util/Preconditions -/
def k12 : Class := { plain "jdk/internal/util/Preconditions" (some 0) with
  accessFlags := 33
  interfaces := #[]
  cf := some (fileOf pool12 24 #[.nestMembers #[55, 131, 125, 114]] #[{ accessFlags := 1, nameIndex := 5, descriptorIndex := 6, attributes := #[] }] 33 2 #[] #[{ accessFlags := 25, nameIndex := 123, descriptorIndex := 124, attributes := #[] }, { accessFlags := 25, nameIndex := 130, descriptorIndex := 124, attributes := #[] }, { accessFlags := 25, nameIndex := 136, descriptorIndex := 124, attributes := #[] }])
  fields := #[{ name := "SIOOBE_FORMATTER", type := (.object "java/util/function/BiFunction"), accessFlags := 25, slot := 0, constantValue := 0 }, { name := "AIOOBE_FORMATTER", type := (.object "java/util/function/BiFunction"), accessFlags := 25, slot := 1, constantValue := 0 }, { name := "IOOBE_FORMATTER", type := (.object "java/util/function/BiFunction"), accessFlags := 25, slot := 2, constantValue := 0 }]
  methods := #[k12m0]
  instanceTypes := #[]
  staticTypes := #[(.object "java/util/function/BiFunction"), (.object "java/util/function/BiFunction"), (.object "java/util/function/BiFunction")]
  resolved := Array.replicate 194 none
  statics := some 3 }

def pool13 : Array CpInfo := pool [(9, u "<init>"), (6, .class_ 18), (1, u "java/lang/Object"), (0, u "()V"), (1, .class_ 23), (1, u "jdk/internal/util/ArraysSupport"), (0, u "LOG2_ARRAY_LONG_INDEX_SCALE"), (0, u "I"), (2, u "U"), (0, u "Ljdk/internal/misc/Unsafe;"), (8, u "BIG_ENDIAN"), (0, u "Z"), (8, u "LOG2_BYTE_BIT_SIZE"), (4, u "LOG2_ARRAY_INT_INDEX_SCALE"), (54, u "JLA"), (0, u "Ljdk/internal/access/JavaLangAccess;"), (11, u "LOG2_ARRAY_BOOLEAN_INDEX_SCALE"), (9, u "LOG2_ARRAY_BYTE_INDEX_SCALE"), (5, u "LOG2_ARRAY_CHAR_INDEX_SCALE"), (5, u "LOG2_ARRAY_SHORT_INDEX_SCALE"), (18, u "LOG2_ARRAY_FLOAT_INDEX_SCALE"), (24, u "LOG2_ARRAY_DOUBLE_INDEX_SCALE"), (89, u "T_BOOLEAN"), (2, u "T_CHAR"), (1, u "T_FLOAT"), (1, u "T_DOUBLE"), (1, u "T_BYTE"), (1, u "T_SHORT"), (1, u "T_INT"), (1, u "T_LONG"), (1, u "SOFT_MAX_ARRAY_LENGTH")] 83

def k13m0 : Method := { name := "<init>", desc := "()V", sig := { parameters := [], returnType := none }, accessFlags := 2, code := none }
/-- jdk/internal/util/ArraysSupport -/
def k13 : Class := { plain "jdk/internal/util/ArraysSupport" (some 0) with
  accessFlags := 33
  interfaces := #[]
  cf := some (fileOf pool13 21 #[] #[{ accessFlags := 2, nameIndex := 9, descriptorIndex := 19, attributes := #[] }] 33 16 #[] #[{ accessFlags := 24, nameIndex := 28, descriptorIndex := 29, attributes := #[] }, { accessFlags := 26, nameIndex := 38, descriptorIndex := 39, attributes := #[] }, { accessFlags := 25, nameIndex := 121, descriptorIndex := 25, attributes := #[] }, { accessFlags := 25, nameIndex := 131, descriptorIndex := 25, attributes := #[] }, { accessFlags := 25, nameIndex := 137, descriptorIndex := 25, attributes := #[] }, { accessFlags := 25, nameIndex := 143, descriptorIndex := 25, attributes := #[] }, { accessFlags := 25, nameIndex := 53, descriptorIndex := 25, attributes := #[] }, { accessFlags := 25, nameIndex := 24, descriptorIndex := 25, attributes := #[] }, { accessFlags := 25, nameIndex := 162, descriptorIndex := 25, attributes := #[] }, { accessFlags := 25, nameIndex := 187, descriptorIndex := 25, attributes := #[] }, { accessFlags := 26, nameIndex := 48, descriptorIndex := 25, attributes := #[] }, { accessFlags := 25, nameIndex := 277, descriptorIndex := 25, attributes := #[] }, { accessFlags := 25, nameIndex := 280, descriptorIndex := 25, attributes := #[] }, { accessFlags := 25, nameIndex := 282, descriptorIndex := 25, attributes := #[] }, { accessFlags := 25, nameIndex := 284, descriptorIndex := 25, attributes := #[] }, { accessFlags := 25, nameIndex := 286, descriptorIndex := 25, attributes := #[] }, { accessFlags := 25, nameIndex := 288, descriptorIndex := 25, attributes := #[] }, { accessFlags := 25, nameIndex := 290, descriptorIndex := 25, attributes := #[] }, { accessFlags := 25, nameIndex := 292, descriptorIndex := 25, attributes := #[] }, { accessFlags := 26, nameIndex := 108, descriptorIndex := 109, attributes := #[] }, { accessFlags := 25, nameIndex := 294, descriptorIndex := 25, attributes := #[] }])
  fields := #[{ name := "U", type := (.object "jdk/internal/misc/Unsafe"), accessFlags := 24, slot := 0, constantValue := 0 }, { name := "BIG_ENDIAN", type := .boolean, accessFlags := 26, slot := 1, constantValue := 0 }, { name := "LOG2_ARRAY_BOOLEAN_INDEX_SCALE", type := .int, accessFlags := 25, slot := 2, constantValue := 0 }, { name := "LOG2_ARRAY_BYTE_INDEX_SCALE", type := .int, accessFlags := 25, slot := 3, constantValue := 0 }, { name := "LOG2_ARRAY_CHAR_INDEX_SCALE", type := .int, accessFlags := 25, slot := 4, constantValue := 0 }, { name := "LOG2_ARRAY_SHORT_INDEX_SCALE", type := .int, accessFlags := 25, slot := 5, constantValue := 0 }, { name := "LOG2_ARRAY_INT_INDEX_SCALE", type := .int, accessFlags := 25, slot := 6, constantValue := 0 }, { name := "LOG2_ARRAY_LONG_INDEX_SCALE", type := .int, accessFlags := 25, slot := 7, constantValue := 0 }, { name := "LOG2_ARRAY_FLOAT_INDEX_SCALE", type := .int, accessFlags := 25, slot := 8, constantValue := 0 }, { name := "LOG2_ARRAY_DOUBLE_INDEX_SCALE", type := .int, accessFlags := 25, slot := 9, constantValue := 0 }, { name := "LOG2_BYTE_BIT_SIZE", type := .int, accessFlags := 26, slot := 10, constantValue := 0 }, { name := "T_BOOLEAN", type := .int, accessFlags := 25, slot := 11, constantValue := 0 }, { name := "T_CHAR", type := .int, accessFlags := 25, slot := 12, constantValue := 0 }, { name := "T_FLOAT", type := .int, accessFlags := 25, slot := 13, constantValue := 0 }, { name := "T_DOUBLE", type := .int, accessFlags := 25, slot := 14, constantValue := 0 }, { name := "T_BYTE", type := .int, accessFlags := 25, slot := 15, constantValue := 0 }, { name := "T_SHORT", type := .int, accessFlags := 25, slot := 16, constantValue := 0 }, { name := "T_INT", type := .int, accessFlags := 25, slot := 17, constantValue := 0 }, { name := "T_LONG", type := .int, accessFlags := 25, slot := 18, constantValue := 0 }, { name := "JLA", type := (.object "jdk/internal/access/JavaLangAccess"), accessFlags := 26, slot := 19, constantValue := 0 }, { name := "SOFT_MAX_ARRAY_LENGTH", type := .int, accessFlags := 25, slot := 20, constantValue := 0 }]
  methods := #[k13m0]
  instanceTypes := #[]
  staticTypes := #[(.object "jdk/internal/misc/Unsafe"), .boolean, .int, .int, .int, .int, .int, .int, .int, .int, .int, .int, .int, .int, .int, .int, .int, .int, .int, (.object "jdk/internal/access/JavaLangAccess"), .int]
  resolved := Array.replicate 378 none
  statics := none }

def pool14 : Array CpInfo := pool [(1, u "java/lang/Cloneable"), (0, .class_ 1), (0, u "java/lang/Object"), (0, .class_ 3)] 3

/-- java/lang/Cloneable -/
def k14 : Class := { plain "java/lang/Cloneable" (some 0) with
  accessFlags := 1537
  interfaces := #[]
  cf := some (fileOf pool14 2 #[] #[] 1537 4 #[] #[])
  fields := #[]
  methods := #[]
  instanceTypes := #[]
  staticTypes := #[]
  resolved := Array.replicate 8 none
  statics := none }

/-- the primitive byte -/
def k15 : Class := { plain "byte" none with kind := .primitive 'B', accessFlags := 0x411 }
/-- [B -/
def k16 : Class := { plain "[B" (some 0) with kind := .array 15 .byte, interfaces := #[14, 4], accessFlags := 1041 }

/-- the primitive int -/
def k17 : Class := { plain "int" none with kind := .primitive 'I', accessFlags := 0x411 }
/-- [I -/
def k18 : Class := { plain "[I" (some 0) with kind := .array 17 .int, interfaces := #[14, 4], accessFlags := 1041 }

def heap : Heap := #[{ cls := 6, slots := #[.ref 4, .ref 8, .ref 12, .ref 16, .int 0, .null], vm := .statics 6 },
  { cls := 9, slots := #[.long 0, .int 1, .null, .int 0, .null, .int 0, .int 0], vm := .statics 9 },
  { cls := 10, slots := #[.null, .ref 7, .ref 11, .ref 15, .null], vm := .statics 10 },
  { cls := 12, slots := #[.null, .null, .null], vm := .statics 12 },
  { cls := 6, slots := #[.null, .int 0, .int 0, .null], vm := .none },
  { cls := 16, slots := #[.int 97, .int 105, .int 49], vm := .none },
  { cls := 9, slots := #[.ref 5, .int 0, .int 0, .int 0], vm := .none },
  { cls := 10, slots := #[.null, .int 1, .int 0, .ref 6, .int 0], vm := .none },
  { cls := 6, slots := #[.null, .int 1, .int 0, .ref 7], vm := .none },
  { cls := 16, slots := #[.int 97, .int 105, .int 50], vm := .none },
  { cls := 9, slots := #[.ref 9, .int 0, .int 0, .int 0], vm := .none },
  { cls := 10, slots := #[.null, .int 2, .int 0, .ref 10, .int 0], vm := .none },
  { cls := 6, slots := #[.null, .int 2, .int 0, .ref 11], vm := .none },
  { cls := 16, slots := #[.int 97, .int 105, .int 51], vm := .none },
  { cls := 9, slots := #[.ref 13, .int 0, .int 0, .int 0], vm := .none },
  { cls := 10, slots := #[.null, .int 3, .int 0, .ref 14, .int 0], vm := .none },
  { cls := 6, slots := #[.null, .int 3, .int 0, .ref 15], vm := .none }]
def classes : Array Class := #[k0, k1, k2, k3, k4, k5, k6, k7, k8, k9, k10, k11, k12, k13, k14, k15, k16, k17, k18]
def interned : List (Array UInt16 × Addr) := []
def slotsUsed : Nat := 73
def theMethod : MethodId := ⟨1, 1⟩
def args0 : Array Value := #[.int 5]
def aboutOver (below : List Frame) : State where
  vm := { classes := classes, interned := interned.toArray }
  heap := heap
  slotsUsed := slotsUsed
  threads := #[{ frames := .invoking theMethod args0 :: below }]
def below0 : List Frame := [.native { method := ⟨0, 0⟩, args := #[] }]
def about1 : State := aboutOver below0
def p0 : Program := .bare "" "" ""
def e0 : Env := launch0.env 0 0 0
theorem w_frames : about1.frames = Frame.invoking theMethod args0 :: below0 := rfl
set_option maxRecDepth 65536 in
theorem w_args : argsFit about1.vm theMethod args0 = true := by decide +kernel
set_option maxRecDepth 65536 in
theorem w_heap : heapFits about1 = true := by decide +kernel
set_option maxRecDepth 65536 in
theorem w_runnable : about1.curStatus? = some .runnable := by decide +kernel
set_option maxRecDepth 65536 in
theorem w_alone : about1.alone = true := by decide +kernel
set_option maxRecDepth 65536 in
theorem w_named : about1.methodNamed? x = some theMethod := by decide +kernel
set_option maxRecDepth 65536 in
theorem w_hears : about1.hears theMethod below0 = true := by decide +kernel
set_option maxRecDepth 65536 in
theorem w_ripe : about1.ripe theMethod args0 below0 = true := by decide +kernel
theorem w_running : about1.status = .running := rfl
set_option maxRecDepth 65536 in
theorem w_room : about1.hasRoom e0.platform room_1 = true :=
  launch0.hasRoom_least _ room_1 (by decide +kernel) (by decide +kernel) (by decide +kernel) (by decide +kernel) (by decide +kernel) (by decide +kernel)
theorem allAtoms_all (ts : List Jvm.Cond) (a : Array Jvm.Value) (st : Jvm.State) : (allAtoms ts).before a st = ts.all (fun c => c.before a st) := by
  induction ts with
  | nil => rfl
  | cons c t ih =>
    show (Jvm.Cond.and c (allAtoms t)).before a st = _
    rw [Jvm.Cond.before_and, ih, List.all_cons]
def words1 : List Jvm.Cond := Jvm.Cond.code x code maxLocals ret :: tables_1
/-- a 'code' word, met by the world's own term for the bytes: nothing is compared byte by byte -/
theorem code_word {y : MethodName} {bytes : ByteArray} {mx : Nat} {rt : Option FieldType} {a : Array Value} {s : State} {m : MethodId} {meth : Method} {c : Code} (h1 : s.methodNamed? y = some m) (h2 : s.vm.method? m = some meth) (h3 : meth.code = some c) (h4 : c.code = bytes)
    (h5 : (c.maxLocals == mx && c.exceptionTable.isEmpty && decide (c.maxStack ≤ mostOperands) && decide (meth.sig.returnType = rt) && !meth.locks && decide (parseMethodDescriptor y.desc = some meth.sig)) = true) : (Jvm.Cond.code y bytes mx rt).before a s = true := by
  simp only [Bool.and_eq_true, beq_iff_eq, Bool.not_eq_true', decide_eq_true_eq] at h5
  obtain ⟨⟨⟨⟨⟨g1, g2⟩, g3⟩, g4⟩, g5⟩, g6⟩ := h5
  simp [Cond.before, Cond.holds, Cond.value, h1, h2, h3, h4, g1, g2, g3, g4, g5, g6]
def isCode : Jvm.Cond → Bool
  | .code _ _ _ _ => true
  | _ => false
theorem all_split {L : List Jvm.Cond} {P : Jvm.Cond → Bool} (h1 : L.all (fun c => isCode c || P c) = true) (h2 : ∀ c ∈ L.filter isCode, P c = true) : L.all P = true := by
  refine List.all_eq_true.mpr fun c hc => ?_
  have h := List.all_eq_true.mp h1 c hc
  rcases Bool.eq_false_or_eq_true (isCode c) with hi | hi
  · exact h2 c (List.mem_filter.mpr ⟨hc, hi⟩)
  · simpa [hi] using h
set_option maxRecDepth 65536 in
theorem w_c0 : (Jvm.Cond.code x code maxLocals ret).before args0 about1 = true := code_word (m := ⟨1, 1⟩) (meth := k1m1) (c := k1c1) (by decide +kernel) rfl rfl rfl (by decide +kernel)
set_option maxRecDepth 65536 in
theorem w_c1 : (Jvm.Cond.code ({ cls := "com/example/tablier/tablier/Seat", name := "toString", desc := "()Ljava/lang/String;" } : Jvm.MethodName) prog_40_method_7_code (1 : Nat) (Option.some (Jvm.ClassFile.FieldType.object "java/lang/String"))).before args0 about1 = true := code_word (m := ⟨6, 0⟩) (meth := k6m0) (c := k6c0) (by decide +kernel) rfl rfl rfl (by decide +kernel)
set_option maxRecDepth 65536 in
theorem w_c2 : (Jvm.Cond.code ({ cls := "java/lang/String", name := "equals", desc := "(Ljava/lang/Object;)Z" } : Jvm.MethodName) jdk_42_method_66_code (3 : Nat) (Option.some Jvm.ClassFile.FieldType.boolean)).before args0 about1 = true := code_word (m := ⟨9, 1⟩) (meth := k9m1) (c := k9c1) (by decide +kernel) rfl rfl rfl (by decide +kernel)
set_option maxRecDepth 65536 in
theorem w_c3 : (Jvm.Cond.code ({ cls := "com/example/tablier/tablier/Player", name := "toString", desc := "()Ljava/lang/String;" } : Jvm.MethodName) prog_35_method_6_code (1 : Nat) (Option.some (Jvm.ClassFile.FieldType.object "java/lang/String"))).before args0 about1 = true := code_word (m := ⟨10, 0⟩) (meth := k10m0) (c := k10c0) (by decide +kernel) rfl rfl rfl (by decide +kernel)
set_option maxRecDepth 65536 in
theorem w_c4 : (Jvm.Cond.code ({ cls := "java/lang/StringLatin1", name := "equals", desc := "([B[B)Z" } : Jvm.MethodName) jdk_43_method_13_code (3 : Nat) (Option.some Jvm.ClassFile.FieldType.boolean)).before args0 about1 = true := code_word (m := ⟨11, 1⟩) (meth := k11m1) (c := k11c1) (by decide +kernel) rfl rfl rfl (by decide +kernel)
def codes1 : List Jvm.Cond := [Jvm.Cond.code x code maxLocals ret, Jvm.Cond.code ({ cls := "com/example/tablier/tablier/Seat", name := "toString", desc := "()Ljava/lang/String;" } : Jvm.MethodName) prog_40_method_7_code (1 : Nat) (Option.some (Jvm.ClassFile.FieldType.object "java/lang/String")), Jvm.Cond.code ({ cls := "java/lang/String", name := "equals", desc := "(Ljava/lang/Object;)Z" } : Jvm.MethodName) jdk_42_method_66_code (3 : Nat) (Option.some Jvm.ClassFile.FieldType.boolean), Jvm.Cond.code ({ cls := "com/example/tablier/tablier/Player", name := "toString", desc := "()Ljava/lang/String;" } : Jvm.MethodName) prog_35_method_6_code (1 : Nat) (Option.some (Jvm.ClassFile.FieldType.object "java/lang/String")), Jvm.Cond.code ({ cls := "java/lang/StringLatin1", name := "equals", desc := "([B[B)Z" } : Jvm.MethodName) jdk_43_method_13_code (3 : Nat) (Option.some Jvm.ClassFile.FieldType.boolean)]
set_option maxRecDepth 65536 in
theorem codes_eq : words1.filter isCode = codes1 := rfl
theorem w_codes : ∀ c ∈ words1.filter isCode, c.before args0 about1 = true := by
  rw [codes_eq]
  intro c hc
  simp only [codes1, List.mem_cons, List.not_mem_nil, or_false] at hc
  rcases hc with rfl | rfl | rfl | rfl | rfl
  · exact w_c0
  · exact w_c1
  · exact w_c2
  · exact w_c3
  · exact w_c4
set_option maxRecDepth 65536 in
theorem w_t1 : (words1.take 24).all (fun c => isCode c || c.before args0 about1) = true := by decide +kernel
set_option maxRecDepth 65536 in
theorem w_t2 : ((words1.drop 24).take 24).all (fun c => isCode c || c.before args0 about1) = true := by decide +kernel
set_option maxRecDepth 65536 in
theorem w_t3 : ((words1.drop 24).drop 24).all (fun c => isCode c || c.before args0 about1) = true := by decide +kernel
theorem w_tables : (allAtoms (Jvm.Cond.code x code maxLocals ret :: tables_1)).before args0 about1 = true := by
  rw [allAtoms_all]
  show words1.all (fun c => c.before args0 about1) = true
  refine all_split ?_ w_codes
  rw [← List.take_append_drop 24 words1, List.all_append, w_t1, ← List.take_append_drop 24 (words1.drop 24), List.all_append, w_t2, w_t3]
  rfl
set_option maxRecDepth 65536 in
theorem w_rest : rest_1_c.before args0 about1 = true := by decide +kernel
set_option maxRecDepth 65536 in
theorem w_case : (Jvm.Cond.and given_1 narrow_1).before args0 about1 = true := by decide +kernel
set_option maxRecDepth 65536 in
theorem w_consts : constsHeld consts_1 about1 := Jvm.Lit.constsHeldB_iff.mp (by decide +kernel)
theorem w_applies : (headSpec (Jvm.Cond.code x code maxLocals ret :: tables_1) room_1).applies x e0.platform about1 = true :=
  (Spec.applies_iff w_frames).mpr ⟨w_running, w_runnable, w_alone, w_named, w_hears, w_ripe, w_room, w_tables⟩
theorem atStart : AtStart classFile x code maxLocals ret World_1 tables_1 room_1 Calls_1 rest_1 Pre_1 launch0 p0 e0 about1 theMethod args0 below0 :=
  ⟨lists_1, trivial, launch0.admits_env _ _ _, launch0.least_env, fairChoices_fair.cas, fairChoices_fair.clock, w_frames, w_args, w_heap, w_applies, ⟨w_consts, trivial⟩, w_rest, w_case⟩
end start1
theorem witness_1 : WitnessClaimed_1 := ⟨start1.p0, start1.e0, start1.about1, start1.theMethod, start1.args0, start1.below0, start1.atStart⟩
end Jvm.Pilot.@@N@@
