import JvmDerived
import JvmDerived.Pilot.@@N@@Statement
import JvmDerived.Pilot.@@N@@Code
set_option linter.unusedVariables false
set_option linter.unusedSimpArgs false
namespace Jvm.Own
open Jvm Sem ClassFile Op Lib Jvm.Stand Jvm.Free Jvm.LawKit Jvm.RoadKit Bundle
/-- from the state U on the body comes to its end, and what it leaves answers to Q -/
def Ends (tb : Tables) (e : Env) (below : List Frame) (Q : Option Value → Heap → List Loc → Prop) (F : Outcome → State → List Loc → Prop) (U : State) : Prop :=
  ∃ s₂ o, Steps tb e below U s₂ ∧ s₂.status = .running ∧ Ended s₂ below o ∧ ∃ v L, o = .returned v ∧ Q v s₂.heap L ∧ F o s₂ L
/-- the frame that a body keeps; the wide one of a body that may load a String constant -/
abbrev FE (s : State) (C S : Nat) : Outcome → State → List Loc → Prop := fun o t L => FrameEnd s o t L C S
abbrev FW (s : State) (C S : Nat) : Outcome → State → List Loc → Prop := fun o t L => ReturnedEndW s o t L C S
section Walk
variable {p : Program} {l : Launch} {e : Env} {R : Room} {s : State} {m : MethodId} {args : Array Value} {below : List Frame} {meth : Method} {c : Code} {T : State} {locs : List Loc} {cells slots : Nat} {Q : Option Value → Heap → List Loc → Prop} {F : Outcome → State → List Loc → Prop} {C S : Nat} {pc : Nat} {Ls : Array Slot} {st : List Value} {Z : State} {a0 : Array Value} {h : Heap}
theorem Ends.step {tb : Tables} {U V : State} (k : Ends tb e below Q F V) (hs : ∀ t, Steps tb e below V t → Steps tb e below U t) : Ends tb e below Q F U := by
  obtain ⟨s₂, o, h1, r⟩ := k
  exact ⟨s₂, o, hs _ h1, r⟩
theorem Ends.mono {tb : Tables} {U : State} {Q' : Option Value → Heap → List Loc → Prop} (k : Ends tb e below Q' F U) (hq : ∀ v h L, Q' v h L → Q v h L) : Ends tb e below Q F U := by
  obtain ⟨s₂, o, h1, h2, h3, v, L, h4, h5, h6⟩ := k
  exact ⟨s₂, o, h1, h2, h3, v, L, h4, hq _ _ _ h5, h6⟩
theorem iload (n : Nat) (X : Stand p l e R s m args below meth c T locs cells slots) (hx : p.tables.exec = Jvm.exec) {k : Nat} {v : Int32} (hd : decode c.code pc = .ok (.iload k, 2)) (hn : pc + 2 = n) (hl : Ls[k]? = some (.val (.int v))) (K : Ends p.tables e below Q F (T.setTop (mkF m n Ls (.int v :: st)))) : Ends p.tables e below Q F (T.setTop (mkF m pc Ls (st))) := by
  subst hn; exact K.step fun t k => XS.iload (g := mkF m pc Ls (st)) X.here hx rfl hd hl k
theorem iloadN (n : Nat) (X : Stand p l e R s m args below meth c T locs cells slots) (hx : p.tables.exec = Jvm.exec) {k : Fin 4} {v : Int32} (hd : decode c.code pc = .ok (.iload_n k, 1)) (hn : pc + 1 = n) (hl : Ls[k.val]? = some (.val (.int v))) (K : Ends p.tables e below Q F (T.setTop (mkF m n Ls (.int v :: st)))) : Ends p.tables e below Q F (T.setTop (mkF m pc Ls (st))) := by
  subst hn; exact K.step fun t k => XS.iloadN (g := mkF m pc Ls (st)) X.here hx rfl hd hl k
theorem lload (n : Nat) (X : Stand p l e R s m args below meth c T locs cells slots) (hx : p.tables.exec = Jvm.exec) {k : Nat} {v : Int64} (hd : decode c.code pc = .ok (.lload k, 2)) (hn : pc + 2 = n) (hl : Ls[k]? = some (.val (.long v))) (K : Ends p.tables e below Q F (T.setTop (mkF m n Ls (.long v :: st)))) : Ends p.tables e below Q F (T.setTop (mkF m pc Ls (st))) := by
  subst hn; exact K.step fun t k => XS.lload (g := mkF m pc Ls (st)) X.here hx rfl hd hl k
theorem lloadN (n : Nat) (X : Stand p l e R s m args below meth c T locs cells slots) (hx : p.tables.exec = Jvm.exec) {k : Fin 4} {v : Int64} (hd : decode c.code pc = .ok (.lload_n k, 1)) (hn : pc + 1 = n) (hl : Ls[k.val]? = some (.val (.long v))) (K : Ends p.tables e below Q F (T.setTop (mkF m n Ls (.long v :: st)))) : Ends p.tables e below Q F (T.setTop (mkF m pc Ls (st))) := by
  subst hn; exact K.step fun t k => XS.lloadN (g := mkF m pc Ls (st)) X.here hx rfl hd hl k
theorem aload (n : Nat) (X : Stand p l e R s m args below meth c T locs cells slots) (hx : p.tables.exec = Jvm.exec) {k : Nat} {v : Value} (hd : decode c.code pc = .ok (.aload k, 2)) (hn : pc + 2 = n) (hl : Ls[k]? = some (.val v)) (hv : v.isRef = true) (K : Ends p.tables e below Q F (T.setTop (mkF m n Ls (v :: st)))) : Ends p.tables e below Q F (T.setTop (mkF m pc Ls (st))) := by
  subst hn; exact K.step fun t k => XS.aload (g := mkF m pc Ls (st)) X.here hx rfl hd hl hv k
theorem aloadN (n : Nat) (X : Stand p l e R s m args below meth c T locs cells slots) (hx : p.tables.exec = Jvm.exec) {k : Fin 4} {v : Value} (hd : decode c.code pc = .ok (.aload_n k, 1)) (hn : pc + 1 = n) (hl : Ls[k.val]? = some (.val v)) (hv : v.isRef = true) (K : Ends p.tables e below Q F (T.setTop (mkF m n Ls (v :: st)))) : Ends p.tables e below Q F (T.setTop (mkF m pc Ls (st))) := by
  subst hn; exact K.step fun t k => XS.aloadN (g := mkF m pc Ls (st)) X.here hx rfl hd hl hv k
theorem iconst (n : Nat) (X : Stand p l e R s m args below meth c T locs cells slots) (hx : p.tables.exec = Jvm.exec) {i : Int} (v : Int32) (hd : decode c.code pc = .ok (.iconst i, 1)) (hn : pc + 1 = n) (hv : Int32.ofInt i = v) (K : Ends p.tables e below Q F (T.setTop (mkF m n Ls (.int v :: st)))) : Ends p.tables e below Q F (T.setTop (mkF m pc Ls (st))) := by
  subst hn; exact K.step fun t k => XS.iconst (g := mkF m pc Ls (st)) X.here hx rfl hd (hv ▸ k)
theorem bipush (n : Nat) (X : Stand p l e R s m args below meth c T locs cells slots) (hx : p.tables.exec = Jvm.exec) {i : Int} (v : Int32) (hd : decode c.code pc = .ok (.bipush i, 2)) (hn : pc + 2 = n) (hv : (Int8.ofInt i).toInt32 = v) (K : Ends p.tables e below Q F (T.setTop (mkF m n Ls (.int v :: st)))) : Ends p.tables e below Q F (T.setTop (mkF m pc Ls (st))) := by
  subst hn; exact K.step fun t k => XS.bipush (g := mkF m pc Ls (st)) X.here hx rfl hd (hv ▸ k)
theorem lconst (n : Nat) (X : Stand p l e R s m args below meth c T locs cells slots) (hx : p.tables.exec = Jvm.exec) {i : Fin 2} (v : Int64) (hd : decode c.code pc = .ok (.lconst i, 1)) (hn : pc + 1 = n) (hv : Int64.ofNat i = v) (K : Ends p.tables e below Q F (T.setTop (mkF m n Ls (.long v :: st)))) : Ends p.tables e below Q F (T.setTop (mkF m pc Ls (st))) := by
  subst hn; exact K.step fun t k => XS.lconst (g := mkF m pc Ls (st)) X.here hx rfl hd (hv ▸ k)
theorem iadd (n : Nat) (X : Stand p l e R s m args below meth c T locs cells slots) (hx : p.tables.exec = Jvm.exec) {x y r : Int32} {rest : List Value} (hd : decode c.code pc = .ok (.iadd, 1)) (hn : pc + 1 = n) (hr : x + y = r) (K : Ends p.tables e below Q F (T.setTop (mkF m n Ls (.int r :: rest)))) : Ends p.tables e below Q F (T.setTop (mkF m pc Ls (.int y :: .int x :: rest))) := by
  subst hn; exact K.step fun t k => XS.iadd (g := mkF m pc Ls (.int y :: .int x :: rest)) X.here hx rfl hd rfl (hr ▸ k)
theorem isub (n : Nat) (X : Stand p l e R s m args below meth c T locs cells slots) (hx : p.tables.exec = Jvm.exec) {x y r : Int32} {rest : List Value} (hd : decode c.code pc = .ok (.isub, 1)) (hn : pc + 1 = n) (hr : x - y = r) (K : Ends p.tables e below Q F (T.setTop (mkF m n Ls (.int r :: rest)))) : Ends p.tables e below Q F (T.setTop (mkF m pc Ls (.int y :: .int x :: rest))) := by
  subst hn; exact K.step fun t k => XS.isub (g := mkF m pc Ls (.int y :: .int x :: rest)) X.here hx rfl hd rfl (hr ▸ k)
theorem iand (n : Nat) (X : Stand p l e R s m args below meth c T locs cells slots) (hx : p.tables.exec = Jvm.exec) {x y r : Int32} {rest : List Value} (hd : decode c.code pc = .ok (.iand, 1)) (hn : pc + 1 = n) (hr : x &&& y = r) (K : Ends p.tables e below Q F (T.setTop (mkF m n Ls (.int r :: rest)))) : Ends p.tables e below Q F (T.setTop (mkF m pc Ls (.int y :: .int x :: rest))) := by
  subst hn; exact K.step fun t k => XS.iand (g := mkF m pc Ls (.int y :: .int x :: rest)) X.here hx rfl hd rfl (hr ▸ k)
theorem iushr (n : Nat) (X : Stand p l e R s m args below meth c T locs cells slots) (hx : p.tables.exec = Jvm.exec) {x y r : Int32} {rest : List Value} (hd : decode c.code pc = .ok (.iushr, 1)) (hn : pc + 1 = n) (hr : (x.toUInt32 >>> (y &&& 31).toUInt32).toInt32 = r) (K : Ends p.tables e below Q F (T.setTop (mkF m n Ls (.int r :: rest)))) : Ends p.tables e below Q F (T.setTop (mkF m pc Ls (.int y :: .int x :: rest))) := by
  subst hn; exact K.step fun t k => XS.iushr (g := mkF m pc Ls (.int y :: .int x :: rest)) X.here hx rfl hd rfl (hr ▸ k)
theorem ladd (n : Nat) (X : Stand p l e R s m args below meth c T locs cells slots) (hx : p.tables.exec = Jvm.exec) {x y r : Int64} {rest : List Value} (hd : decode c.code pc = .ok (.ladd, 1)) (hn : pc + 1 = n) (hr : x + y = r) (K : Ends p.tables e below Q F (T.setTop (mkF m n Ls (.long r :: rest)))) : Ends p.tables e below Q F (T.setTop (mkF m pc Ls (.long y :: .long x :: rest))) := by
  subst hn; exact K.step fun t k => XS.ladd (g := mkF m pc Ls (.long y :: .long x :: rest)) X.here hx rfl hd rfl (hr ▸ k)
theorem lsub (n : Nat) (X : Stand p l e R s m args below meth c T locs cells slots) (hx : p.tables.exec = Jvm.exec) {x y r : Int64} {rest : List Value} (hd : decode c.code pc = .ok (.lsub, 1)) (hn : pc + 1 = n) (hr : x - y = r) (K : Ends p.tables e below Q F (T.setTop (mkF m n Ls (.long r :: rest)))) : Ends p.tables e below Q F (T.setTop (mkF m pc Ls (.long y :: .long x :: rest))) := by
  subst hn; exact K.step fun t k => XS.lsub (g := mkF m pc Ls (.long y :: .long x :: rest)) X.here hx rfl hd rfl (hr ▸ k)
theorem lmul (n : Nat) (X : Stand p l e R s m args below meth c T locs cells slots) (hx : p.tables.exec = Jvm.exec) {x y r : Int64} {rest : List Value} (hd : decode c.code pc = .ok (.lmul, 1)) (hn : pc + 1 = n) (hr : x * y = r) (K : Ends p.tables e below Q F (T.setTop (mkF m n Ls (.long r :: rest)))) : Ends p.tables e below Q F (T.setTop (mkF m pc Ls (.long y :: .long x :: rest))) := by
  subst hn; exact K.step fun t k => XS.lmul (g := mkF m pc Ls (.long y :: .long x :: rest)) X.here hx rfl hd rfl (hr ▸ k)
theorem lshl (n : Nat) (X : Stand p l e R s m args below meth c T locs cells slots) (hx : p.tables.exec = Jvm.exec) {x r : Int64} {y : Int32} {rest : List Value} (hd : decode c.code pc = .ok (.lshl, 1)) (hn : pc + 1 = n) (hr : x <<< (y &&& 0x3f).toInt64 = r) (K : Ends p.tables e below Q F (T.setTop (mkF m n Ls (.long r :: rest)))) : Ends p.tables e below Q F (T.setTop (mkF m pc Ls (.int y :: .long x :: rest))) := by
  subst hn; exact K.step fun t k => XS.lshl (g := mkF m pc Ls (.int y :: .long x :: rest)) X.here hx rfl hd rfl (hr ▸ k)
theorem lushr (n : Nat) (X : Stand p l e R s m args below meth c T locs cells slots) (hx : p.tables.exec = Jvm.exec) {x r : Int64} {y : Int32} {rest : List Value} (hd : decode c.code pc = .ok (.lushr, 1)) (hn : pc + 1 = n) (hr : (x.toUInt64 >>> (y &&& 0x3f).toInt64.toUInt64).toInt64 = r) (K : Ends p.tables e below Q F (T.setTop (mkF m n Ls (.long r :: rest)))) : Ends p.tables e below Q F (T.setTop (mkF m pc Ls (.int y :: .long x :: rest))) := by
  subst hn; exact K.step fun t k => XS.lushr (g := mkF m pc Ls (.int y :: .long x :: rest)) X.here hx rfl hd rfl (hr ▸ k)
theorem irem (n : Nat) (X : Stand p l e R s m args below meth c T locs cells slots) (hx : p.tables.exec = Jvm.exec) {x y r : Int32} {rest : List Value} (hd : decode c.code pc = .ok (.irem, 1)) (hn : pc + 1 = n) (hy : y ≠ 0) (hr : x % y = r) (K : Ends p.tables e below Q F (T.setTop (mkF m n Ls (.int r :: rest)))) : Ends p.tables e below Q F (T.setTop (mkF m pc Ls (.int y :: .int x :: rest))) := by
  subst hn; exact K.step fun t k => iremM (g := mkF m pc Ls (.int y :: .int x :: rest)) X hx rfl hd rfl hy (hr ▸ k)
theorem ldiv (n : Nat) (X : Stand p l e R s m args below meth c T locs cells slots) (hx : p.tables.exec = Jvm.exec) {x y r : Int64} {rest : List Value} (hd : decode c.code pc = .ok (.ldiv, 1)) (hn : pc + 1 = n) (hy : y ≠ 0) (hr : x / y = r) (K : Ends p.tables e below Q F (T.setTop (mkF m n Ls (.long r :: rest)))) : Ends p.tables e below Q F (T.setTop (mkF m pc Ls (.long y :: .long x :: rest))) := by
  subst hn; exact K.step fun t k => XS.ldiv (g := mkF m pc Ls (.long y :: .long x :: rest)) X.here hx rfl hd rfl hy (hr ▸ k)
theorem i2l (n : Nat) (X : Stand p l e R s m args below meth c T locs cells slots) (hx : p.tables.exec = Jvm.exec) {x : Int32} {r : Int64} {rest : List Value} (hd : decode c.code pc = .ok (.i2l, 1)) (hn : pc + 1 = n) (hr : x.toInt64 = r) (K : Ends p.tables e below Q F (T.setTop (mkF m n Ls (.long r :: rest)))) : Ends p.tables e below Q F (T.setTop (mkF m pc Ls (.int x :: rest))) := by
  subst hn; exact K.step fun t k => XS.i2l (g := mkF m pc Ls (.int x :: rest)) X.here hx rfl hd rfl (hr ▸ k)
theorem dup (n : Nat) (X : Stand p l e R s m args below meth c T locs cells slots) (hx : p.tables.exec = Jvm.exec) {x : Value} {rest : List Value} (hd : decode c.code pc = .ok (.dup, 1)) (hn : pc + 1 = n) (hc : x.category = 1) (K : Ends p.tables e below Q F (T.setTop (mkF m n Ls (x :: x :: rest)))) : Ends p.tables e below Q F (T.setTop (mkF m pc Ls (x :: rest))) := by
  subst hn; exact K.step fun t k => XS.dup (g := mkF m pc Ls (x :: rest)) X.here hx rfl hd rfl hc k
theorem istore (n : Nat) (Fs : Int32 → Array Slot) (X : Stand p l e R s m args below meth c T locs cells slots) (hx : p.tables.exec = Jvm.exec) {k : Nat} {x : Int32} {rest : List Value} (hd : decode c.code pc = .ok (.istore k, 2)) (hn : pc + 2 = n) (hl : ∀ z, storeLocals Ls k (.int z) = some (Fs z)) (K : ∀ z, z = x → Ends p.tables e below Q F (T.setTop (mkF m n (Fs z) (rest)))) : Ends p.tables e below Q F (T.setTop (mkF m pc Ls (.int x :: rest))) := by
  subst hn; exact (K x rfl).step fun t k => XS.istore (g := mkF m pc Ls (.int x :: rest)) X.here hx rfl hd rfl (hl x) k
theorem istoreV (n : Nat) (L1 : Array Slot) (X : Stand p l e R s m args below meth c T locs cells slots) (hx : p.tables.exec = Jvm.exec) {k : Nat} {x : Int32} {rest : List Value} (hd : decode c.code pc = .ok (.istore k, 2)) (hn : pc + 2 = n) (hl : storeLocals Ls k (.int x) = some L1) (K : Ends p.tables e below Q F (T.setTop (mkF m n L1 (rest)))) : Ends p.tables e below Q F (T.setTop (mkF m pc Ls (.int x :: rest))) := by
  subst hn; exact K.step fun t k => XS.istore (g := mkF m pc Ls (.int x :: rest)) X.here hx rfl hd rfl hl k
theorem istoreN (n : Nat) (Fs : Int32 → Array Slot) (X : Stand p l e R s m args below meth c T locs cells slots) (hx : p.tables.exec = Jvm.exec) {k : Fin 4} {x : Int32} {rest : List Value} (hd : decode c.code pc = .ok (.istore_n k, 1)) (hn : pc + 1 = n) (hl : ∀ z, storeLocals Ls k.val (.int z) = some (Fs z)) (K : ∀ z, z = x → Ends p.tables e below Q F (T.setTop (mkF m n (Fs z) (rest)))) : Ends p.tables e below Q F (T.setTop (mkF m pc Ls (.int x :: rest))) := by
  subst hn; exact (K x rfl).step fun t k => XS.istoreN (g := mkF m pc Ls (.int x :: rest)) X.here hx rfl hd rfl (hl x) k
theorem istoreNV (n : Nat) (L1 : Array Slot) (X : Stand p l e R s m args below meth c T locs cells slots) (hx : p.tables.exec = Jvm.exec) {k : Fin 4} {x : Int32} {rest : List Value} (hd : decode c.code pc = .ok (.istore_n k, 1)) (hn : pc + 1 = n) (hl : storeLocals Ls k.val (.int x) = some L1) (K : Ends p.tables e below Q F (T.setTop (mkF m n L1 (rest)))) : Ends p.tables e below Q F (T.setTop (mkF m pc Ls (.int x :: rest))) := by
  subst hn; exact K.step fun t k => XS.istoreN (g := mkF m pc Ls (.int x :: rest)) X.here hx rfl hd rfl hl k
theorem lstore (n : Nat) (Fs : Int64 → Array Slot) (X : Stand p l e R s m args below meth c T locs cells slots) (hx : p.tables.exec = Jvm.exec) {k : Nat} {x : Int64} {rest : List Value} (hd : decode c.code pc = .ok (.lstore k, 2)) (hn : pc + 2 = n) (hl : ∀ z, storeLocals Ls k (.long z) = some (Fs z)) (K : ∀ z, z = x → Ends p.tables e below Q F (T.setTop (mkF m n (Fs z) (rest)))) : Ends p.tables e below Q F (T.setTop (mkF m pc Ls (.long x :: rest))) := by
  subst hn; exact (K x rfl).step fun t k => XS.lstore (g := mkF m pc Ls (.long x :: rest)) X.here hx rfl hd rfl (hl x) k
theorem lstoreV (n : Nat) (L1 : Array Slot) (X : Stand p l e R s m args below meth c T locs cells slots) (hx : p.tables.exec = Jvm.exec) {k : Nat} {x : Int64} {rest : List Value} (hd : decode c.code pc = .ok (.lstore k, 2)) (hn : pc + 2 = n) (hl : storeLocals Ls k (.long x) = some L1) (K : Ends p.tables e below Q F (T.setTop (mkF m n L1 (rest)))) : Ends p.tables e below Q F (T.setTop (mkF m pc Ls (.long x :: rest))) := by
  subst hn; exact K.step fun t k => XS.lstore (g := mkF m pc Ls (.long x :: rest)) X.here hx rfl hd rfl hl k
theorem lstoreN (n : Nat) (Fs : Int64 → Array Slot) (X : Stand p l e R s m args below meth c T locs cells slots) (hx : p.tables.exec = Jvm.exec) {k : Fin 4} {x : Int64} {rest : List Value} (hd : decode c.code pc = .ok (.lstore_n k, 1)) (hn : pc + 1 = n) (hl : ∀ z, storeLocals Ls k.val (.long z) = some (Fs z)) (K : ∀ z, z = x → Ends p.tables e below Q F (T.setTop (mkF m n (Fs z) (rest)))) : Ends p.tables e below Q F (T.setTop (mkF m pc Ls (.long x :: rest))) := by
  subst hn; exact (K x rfl).step fun t k => XS.lstoreN (g := mkF m pc Ls (.long x :: rest)) X.here hx rfl hd rfl (hl x) k
theorem lstoreNV (n : Nat) (L1 : Array Slot) (X : Stand p l e R s m args below meth c T locs cells slots) (hx : p.tables.exec = Jvm.exec) {k : Fin 4} {x : Int64} {rest : List Value} (hd : decode c.code pc = .ok (.lstore_n k, 1)) (hn : pc + 1 = n) (hl : storeLocals Ls k.val (.long x) = some L1) (K : Ends p.tables e below Q F (T.setTop (mkF m n L1 (rest)))) : Ends p.tables e below Q F (T.setTop (mkF m pc Ls (.long x :: rest))) := by
  subst hn; exact K.step fun t k => XS.lstoreN (g := mkF m pc Ls (.long x :: rest)) X.here hx rfl hd rfl hl k
theorem astore (n : Nat) (L1 : Array Slot) (X : Stand p l e R s m args below meth c T locs cells slots) (hx : p.tables.exec = Jvm.exec) {k : Nat} {x : Value} {rest : List Value} (hd : decode c.code pc = .ok (.astore k, 2)) (hn : pc + 2 = n) (hv : x.isRef = true) (hl : storeLocals Ls k x = some L1) (K : Ends p.tables e below Q F (T.setTop (mkF m n L1 (rest)))) : Ends p.tables e below Q F (T.setTop (mkF m pc Ls (x :: rest))) := by
  subst hn; exact K.step fun t k => XS.astore (g := mkF m pc Ls (x :: rest)) X.here hx rfl hd rfl hv hl k
theorem astoreN (n : Nat) (L1 : Array Slot) (X : Stand p l e R s m args below meth c T locs cells slots) (hx : p.tables.exec = Jvm.exec) {k : Fin 4} {x : Value} {rest : List Value} (hd : decode c.code pc = .ok (.astore_n k, 1)) (hn : pc + 1 = n) (hv : x.isRef = true) (hl : storeLocals Ls k.val x = some L1) (K : Ends p.tables e below Q F (T.setTop (mkF m n L1 (rest)))) : Ends p.tables e below Q F (T.setTop (mkF m pc Ls (x :: rest))) := by
  subst hn; exact K.step fun t k => XS.astoreN (g := mkF m pc Ls (x :: rest)) X.here hx rfl hd rfl hv hl k
theorem iinc (n : Nat) (Fs : Int32 → Array Slot) (X : Stand p l e R s m args below meth c T locs cells slots) (hx : p.tables.exec = Jvm.exec) {k : Nat} {cst : Int} {x : Int32} (d : Int32) (hd : decode c.code pc = .ok (.iinc k cst, 3)) (hn : pc + 3 = n) (hc : Int32.ofInt cst = d) (hl : Ls[k]? = some (.val (.int x))) (hl2 : ∀ z, storeLocals Ls k (.int z) = some (Fs z)) (K : ∀ z, z = x + d → Ends p.tables e below Q F (T.setTop (mkF m n (Fs z) (st)))) : Ends p.tables e below Q F (T.setTop (mkF m pc Ls (st))) := by
  subst hn hc; exact (K _ rfl).step fun t k => XS.iinc (g := mkF m pc Ls st) X.here hx rfl hd hl (hl2 _) k
theorem goto (n : Nat) (X : Stand p l e R s m args below meth c T locs cells slots) (hx : p.tables.exec = Jvm.exec) {o : Int} (hd : decode c.code pc = .ok (.goto o, 3)) (hn : 0 ≤ (pc : Int) + o ∧ ((pc : Int) + o).toNat = n) (K : Ends p.tables e below Q F (T.setTop (mkF m n Ls (st)))) : Ends p.tables e below Q F (T.setTop (mkF m pc Ls (st))) :=
  K.step fun t k => XS.goto (g := mkF m pc Ls st) X.here hx rfl (pc0 := pc) (pc' := n) rfl hd hn.1 hn.2 k
theorem icmpB (nY nN : Nat) (X : Stand p l e R s m args below meth c T locs cells slots) (hx : p.tables.exec = Jvm.exec) {cd : ClassFile.Cond} {o : Int} {x y : Int32} {rest : List Value} (hd : decode c.code pc = .ok (.if_icmp cd o, 3)) (hY : 0 ≤ (pc : Int) + o ∧ ((pc : Int) + o).toNat = nY) (hN : pc + 3 = nN) (KY : if_icmp.holds cd x y = true → Ends p.tables e below Q F (T.setTop (mkF m nY Ls (rest)))) (KN : if_icmp.holds cd x y = false → Ends p.tables e below Q F (T.setTop (mkF m nN Ls (rest)))) : Ends p.tables e below Q F (T.setTop (mkF m pc Ls (.int y :: .int x :: rest))) := by
  subst hN
  cases hb : if_icmp.holds cd x y with
  | true => exact (KY hb).step fun t k => XS.icmpYes (g := mkF m pc Ls (.int y :: .int x :: rest)) X.here hx rfl (pc0 := pc) (pc' := nY) rfl hd rfl hb hY.1 hY.2 k
  | false => exact (KN hb).step fun t k => XS.icmpNo (g := mkF m pc Ls (.int y :: .int x :: rest)) X.here hx rfl hd rfl hb k
theorem ifB (nY nN : Nat) (X : Stand p l e R s m args below meth c T locs cells slots) (hx : p.tables.exec = Jvm.exec) {cd : ClassFile.Cond} {o : Int} {x : Int32} {rest : List Value} (hd : decode c.code pc = .ok (.ifCond cd o, 3)) (hY : 0 ≤ (pc : Int) + o ∧ ((pc : Int) + o).toNat = nY) (hN : pc + 3 = nN) (KY : if_icmp.holds cd x 0 = true → Ends p.tables e below Q F (T.setTop (mkF m nY Ls (rest)))) (KN : if_icmp.holds cd x 0 = false → Ends p.tables e below Q F (T.setTop (mkF m nN Ls (rest)))) : Ends p.tables e below Q F (T.setTop (mkF m pc Ls (.int x :: rest))) := by
  subst hN
  cases hb : if_icmp.holds cd x 0 with
  | true => exact (KY hb).step fun t k => XS.ifYes (g := mkF m pc Ls (.int x :: rest)) X.here hx rfl (pc0 := pc) (pc' := nY) rfl hd rfl ((if0 _ _).trans hb) hY.1 hY.2 k
  | false => exact (KN hb).step fun t k => XS.ifNo (g := mkF m pc Ls (.int x :: rest)) X.here hx rfl hd rfl ((if0 _ _).trans hb) k
theorem h_lt {x y : Int32} : (if_icmp.holds .lt x y = true → x < y) ∧ (if_icmp.holds .lt x y = false → ¬ x < y) := by simp [if_icmp.holds]
theorem h_ge {x y : Int32} : (if_icmp.holds .ge x y = true → ¬ x < y) ∧ (if_icmp.holds .ge x y = false → x < y) := by simp [if_icmp.holds, Int32.not_lt, Int32.not_le]
theorem h_gt {x y : Int32} : (if_icmp.holds .gt x y = true → y < x) ∧ (if_icmp.holds .gt x y = false → ¬ y < x) := by simp [if_icmp.holds, Int32.not_lt, Int32.not_le]
theorem h_le {x y : Int32} : (if_icmp.holds .le x y = true → ¬ y < x) ∧ (if_icmp.holds .le x y = false → y < x) := by simp [if_icmp.holds, Int32.not_lt, Int32.not_le]
theorem h_eq {x y : Int32} : (if_icmp.holds .eq x y = true → x = y) ∧ (if_icmp.holds .eq x y = false → ¬ x = y) := by simp [if_icmp.holds]
theorem h_ne {x y : Int32} : (if_icmp.holds .ne x y = true → ¬ x = y) ∧ (if_icmp.holds .ne x y = false → x = y) := by simp [if_icmp.holds]
theorem icmp_lt (nY nN : Nat) (X : Stand p l e R s m args below meth c T locs cells slots) (hx : p.tables.exec = Jvm.exec) {o : Int} {x y : Int32} {rest : List Value} (hd : decode c.code pc = .ok (.if_icmp .lt o, 3)) (hY : 0 ≤ (pc : Int) + o ∧ ((pc : Int) + o).toNat = nY) (hN : pc + 3 = nN) (KY : x < y → Ends p.tables e below Q F (T.setTop (mkF m nY Ls (rest)))) (KN : ¬ x < y → Ends p.tables e below Q F (T.setTop (mkF m nN Ls (rest)))) : Ends p.tables e below Q F (T.setTop (mkF m pc Ls (.int y :: .int x :: rest))) :=
  icmpB nY nN X hx hd hY hN (fun hb => KY (h_lt.1 hb)) (fun hb => KN (h_lt.2 hb))
theorem if_lt (nY nN : Nat) (X : Stand p l e R s m args below meth c T locs cells slots) (hx : p.tables.exec = Jvm.exec) {o : Int} {x : Int32} {rest : List Value} (hd : decode c.code pc = .ok (.ifCond .lt o, 3)) (hY : 0 ≤ (pc : Int) + o ∧ ((pc : Int) + o).toNat = nY) (hN : pc + 3 = nN) (KY : x < 0 → Ends p.tables e below Q F (T.setTop (mkF m nY Ls (rest)))) (KN : ¬ x < 0 → Ends p.tables e below Q F (T.setTop (mkF m nN Ls (rest)))) : Ends p.tables e below Q F (T.setTop (mkF m pc Ls (.int x :: rest))) :=
  ifB nY nN X hx hd hY hN (fun hb => KY (h_lt.1 hb)) (fun hb => KN (h_lt.2 hb))
theorem icmp_ge (nY nN : Nat) (X : Stand p l e R s m args below meth c T locs cells slots) (hx : p.tables.exec = Jvm.exec) {o : Int} {x y : Int32} {rest : List Value} (hd : decode c.code pc = .ok (.if_icmp .ge o, 3)) (hY : 0 ≤ (pc : Int) + o ∧ ((pc : Int) + o).toNat = nY) (hN : pc + 3 = nN) (KY : ¬ x < y → Ends p.tables e below Q F (T.setTop (mkF m nY Ls (rest)))) (KN : x < y → Ends p.tables e below Q F (T.setTop (mkF m nN Ls (rest)))) : Ends p.tables e below Q F (T.setTop (mkF m pc Ls (.int y :: .int x :: rest))) :=
  icmpB nY nN X hx hd hY hN (fun hb => KY (h_ge.1 hb)) (fun hb => KN (h_ge.2 hb))
theorem if_ge (nY nN : Nat) (X : Stand p l e R s m args below meth c T locs cells slots) (hx : p.tables.exec = Jvm.exec) {o : Int} {x : Int32} {rest : List Value} (hd : decode c.code pc = .ok (.ifCond .ge o, 3)) (hY : 0 ≤ (pc : Int) + o ∧ ((pc : Int) + o).toNat = nY) (hN : pc + 3 = nN) (KY : ¬ x < 0 → Ends p.tables e below Q F (T.setTop (mkF m nY Ls (rest)))) (KN : x < 0 → Ends p.tables e below Q F (T.setTop (mkF m nN Ls (rest)))) : Ends p.tables e below Q F (T.setTop (mkF m pc Ls (.int x :: rest))) :=
  ifB nY nN X hx hd hY hN (fun hb => KY (h_ge.1 hb)) (fun hb => KN (h_ge.2 hb))
theorem if_gt (nY nN : Nat) (X : Stand p l e R s m args below meth c T locs cells slots) (hx : p.tables.exec = Jvm.exec) {o : Int} {x : Int32} {rest : List Value} (hd : decode c.code pc = .ok (.ifCond .gt o, 3)) (hY : 0 ≤ (pc : Int) + o ∧ ((pc : Int) + o).toNat = nY) (hN : pc + 3 = nN) (KY : 0 < x → Ends p.tables e below Q F (T.setTop (mkF m nY Ls (rest)))) (KN : ¬ 0 < x → Ends p.tables e below Q F (T.setTop (mkF m nN Ls (rest)))) : Ends p.tables e below Q F (T.setTop (mkF m pc Ls (.int x :: rest))) :=
  ifB nY nN X hx hd hY hN (fun hb => KY (h_gt.1 hb)) (fun hb => KN (h_gt.2 hb))
theorem icmp_le (nY nN : Nat) (X : Stand p l e R s m args below meth c T locs cells slots) (hx : p.tables.exec = Jvm.exec) {o : Int} {x y : Int32} {rest : List Value} (hd : decode c.code pc = .ok (.if_icmp .le o, 3)) (hY : 0 ≤ (pc : Int) + o ∧ ((pc : Int) + o).toNat = nY) (hN : pc + 3 = nN) (KY : ¬ y < x → Ends p.tables e below Q F (T.setTop (mkF m nY Ls (rest)))) (KN : y < x → Ends p.tables e below Q F (T.setTop (mkF m nN Ls (rest)))) : Ends p.tables e below Q F (T.setTop (mkF m pc Ls (.int y :: .int x :: rest))) :=
  icmpB nY nN X hx hd hY hN (fun hb => KY (h_le.1 hb)) (fun hb => KN (h_le.2 hb))
theorem if_le (nY nN : Nat) (X : Stand p l e R s m args below meth c T locs cells slots) (hx : p.tables.exec = Jvm.exec) {o : Int} {x : Int32} {rest : List Value} (hd : decode c.code pc = .ok (.ifCond .le o, 3)) (hY : 0 ≤ (pc : Int) + o ∧ ((pc : Int) + o).toNat = nY) (hN : pc + 3 = nN) (KY : ¬ 0 < x → Ends p.tables e below Q F (T.setTop (mkF m nY Ls (rest)))) (KN : 0 < x → Ends p.tables e below Q F (T.setTop (mkF m nN Ls (rest)))) : Ends p.tables e below Q F (T.setTop (mkF m pc Ls (.int x :: rest))) :=
  ifB nY nN X hx hd hY hN (fun hb => KY (h_le.1 hb)) (fun hb => KN (h_le.2 hb))
theorem icmp_eq (nY nN : Nat) (X : Stand p l e R s m args below meth c T locs cells slots) (hx : p.tables.exec = Jvm.exec) {o : Int} {x y : Int32} {rest : List Value} (hd : decode c.code pc = .ok (.if_icmp .eq o, 3)) (hY : 0 ≤ (pc : Int) + o ∧ ((pc : Int) + o).toNat = nY) (hN : pc + 3 = nN) (KY : x = y → Ends p.tables e below Q F (T.setTop (mkF m nY Ls (rest)))) (KN : ¬ x = y → Ends p.tables e below Q F (T.setTop (mkF m nN Ls (rest)))) : Ends p.tables e below Q F (T.setTop (mkF m pc Ls (.int y :: .int x :: rest))) :=
  icmpB nY nN X hx hd hY hN (fun hb => KY (h_eq.1 hb)) (fun hb => KN (h_eq.2 hb))
theorem if_eq (nY nN : Nat) (X : Stand p l e R s m args below meth c T locs cells slots) (hx : p.tables.exec = Jvm.exec) {o : Int} {x : Int32} {rest : List Value} (hd : decode c.code pc = .ok (.ifCond .eq o, 3)) (hY : 0 ≤ (pc : Int) + o ∧ ((pc : Int) + o).toNat = nY) (hN : pc + 3 = nN) (KY : x = 0 → Ends p.tables e below Q F (T.setTop (mkF m nY Ls (rest)))) (KN : ¬ x = 0 → Ends p.tables e below Q F (T.setTop (mkF m nN Ls (rest)))) : Ends p.tables e below Q F (T.setTop (mkF m pc Ls (.int x :: rest))) :=
  ifB nY nN X hx hd hY hN (fun hb => KY (h_eq.1 hb)) (fun hb => KN (h_eq.2 hb))
theorem icmp_ne (nY nN : Nat) (X : Stand p l e R s m args below meth c T locs cells slots) (hx : p.tables.exec = Jvm.exec) {o : Int} {x y : Int32} {rest : List Value} (hd : decode c.code pc = .ok (.if_icmp .ne o, 3)) (hY : 0 ≤ (pc : Int) + o ∧ ((pc : Int) + o).toNat = nY) (hN : pc + 3 = nN) (KY : ¬ x = y → Ends p.tables e below Q F (T.setTop (mkF m nY Ls (rest)))) (KN : x = y → Ends p.tables e below Q F (T.setTop (mkF m nN Ls (rest)))) : Ends p.tables e below Q F (T.setTop (mkF m pc Ls (.int y :: .int x :: rest))) :=
  icmpB nY nN X hx hd hY hN (fun hb => KY (h_ne.1 hb)) (fun hb => KN (h_ne.2 hb))
theorem if_ne (nY nN : Nat) (X : Stand p l e R s m args below meth c T locs cells slots) (hx : p.tables.exec = Jvm.exec) {o : Int} {x : Int32} {rest : List Value} (hd : decode c.code pc = .ok (.ifCond .ne o, 3)) (hY : 0 ≤ (pc : Int) + o ∧ ((pc : Int) + o).toNat = nY) (hN : pc + 3 = nN) (KY : ¬ x = 0 → Ends p.tables e below Q F (T.setTop (mkF m nY Ls (rest)))) (KN : x = 0 → Ends p.tables e below Q F (T.setTop (mkF m nN Ls (rest)))) : Ends p.tables e below Q F (T.setTop (mkF m pc Ls (.int x :: rest))) :=
  ifB nY nN X hx hd hY hN (fun hb => KY (h_ne.1 hb)) (fun hb => KN (h_ne.2 hb))
theorem w_lt {x y : Int64} : lcmpW x y < 0 → x < y := (lw_lt x y).mp
theorem w_nlt {x y : Int64} : ¬ lcmpW x y < 0 → ¬ x < y := fun q r => q ((lw_lt x y).mpr r)
theorem w_gt {x y : Int64} : 0 < lcmpW x y → y < x := (lw_gt x y).mp
theorem w_ngt {x y : Int64} : ¬ 0 < lcmpW x y → ¬ y < x := fun q r => q ((lw_gt x y).mpr r)
theorem lif_lt (nY nN : Nat) (X : Stand p l e R s m args below meth c T locs cells slots) (hx : p.tables.exec = Jvm.exec) {o : Int} {x y : Int64} {rest : List Value} (hd0 : decode c.code pc = .ok (.lcmp, 1)) {pc1 : Nat} (hp : pc + 1 = pc1) (hd : decode c.code pc1 = .ok (.ifCond .lt o, 3)) (hY : 0 ≤ (pc1 : Int) + o ∧ ((pc1 : Int) + o).toNat = nY) (hN : pc1 + 3 = nN) (KY : x < y → Ends p.tables e below Q F (T.setTop (mkF m nY Ls (rest)))) (KN : ¬ x < y → Ends p.tables e below Q F (T.setTop (mkF m nN Ls (rest)))) : Ends p.tables e below Q F (T.setTop (mkF m pc Ls (.long y :: .long x :: rest))) := by
  subst hp
  refine Ends.step ?_ fun t k => XS.lcmp (g := mkF m pc Ls (.long y :: .long x :: rest)) X.here hx rfl hd0 rfl k
  exact if_lt nY nN X hx hd hY hN (fun hb => KY (w_lt hb)) (fun hb => KN (w_nlt hb))
theorem lif_ge (nY nN : Nat) (X : Stand p l e R s m args below meth c T locs cells slots) (hx : p.tables.exec = Jvm.exec) {o : Int} {x y : Int64} {rest : List Value} (hd0 : decode c.code pc = .ok (.lcmp, 1)) {pc1 : Nat} (hp : pc + 1 = pc1) (hd : decode c.code pc1 = .ok (.ifCond .ge o, 3)) (hY : 0 ≤ (pc1 : Int) + o ∧ ((pc1 : Int) + o).toNat = nY) (hN : pc1 + 3 = nN) (KY : ¬ x < y → Ends p.tables e below Q F (T.setTop (mkF m nY Ls (rest)))) (KN : x < y → Ends p.tables e below Q F (T.setTop (mkF m nN Ls (rest)))) : Ends p.tables e below Q F (T.setTop (mkF m pc Ls (.long y :: .long x :: rest))) := by
  subst hp
  refine Ends.step ?_ fun t k => XS.lcmp (g := mkF m pc Ls (.long y :: .long x :: rest)) X.here hx rfl hd0 rfl k
  exact if_ge nY nN X hx hd hY hN (fun hb => KY (w_nlt hb)) (fun hb => KN (w_lt hb))
theorem lif_gt (nY nN : Nat) (X : Stand p l e R s m args below meth c T locs cells slots) (hx : p.tables.exec = Jvm.exec) {o : Int} {x y : Int64} {rest : List Value} (hd0 : decode c.code pc = .ok (.lcmp, 1)) {pc1 : Nat} (hp : pc + 1 = pc1) (hd : decode c.code pc1 = .ok (.ifCond .gt o, 3)) (hY : 0 ≤ (pc1 : Int) + o ∧ ((pc1 : Int) + o).toNat = nY) (hN : pc1 + 3 = nN) (KY : y < x → Ends p.tables e below Q F (T.setTop (mkF m nY Ls (rest)))) (KN : ¬ y < x → Ends p.tables e below Q F (T.setTop (mkF m nN Ls (rest)))) : Ends p.tables e below Q F (T.setTop (mkF m pc Ls (.long y :: .long x :: rest))) := by
  subst hp
  refine Ends.step ?_ fun t k => XS.lcmp (g := mkF m pc Ls (.long y :: .long x :: rest)) X.here hx rfl hd0 rfl k
  exact if_gt nY nN X hx hd hY hN (fun hb => KY (w_gt hb)) (fun hb => KN (w_ngt hb))
theorem retI (X : Stand p l e R s m args below meth c T locs cells slots) (hx : p.tables.exec = Jvm.exec) {pc : Nat} {Ls : Array Slot} {z : Int32} {rest : List Value} (hret : meth.sig.returnType = some .int) (hd : decode c.code pc = .ok (.ireturn, 1)) {fs : List Frame}
    (hl : ∀ (f : JFrame) (acts : List Action), f.method = m → f.locked = none → f.entered = [] → (doReturn e (T.setTop f) acts (some (.int z))).1 = T.setFrames fs) : Steps p.tables e below (T.setTop (mkF m pc Ls (.int z :: rest))) (T.setFrames fs) := by
  have hm' : T.vm.method? m = some meth := X.method'
  have hn : narrow .int (.int z) = .int z := rfl
  show Steps p.tables e below (T.setTop { method := m, pc := pc, locals := Ls, stack := _ :: rest, locked := none }) _
  jvm_step X.here [X.here.top, hx, hd, hm', hret, hn]
  first | (intro acts; rw [hl _ acts rfl rfl rfl]) | rw [hl _ _ rfl rfl rfl]
  exact Steps.refl _
theorem fin {fs : List Frame} {v : Option Value} {U : State} (X : Stand p l e R s m args below meth c T locs cells slots) (hst : Steps p.tables e below U (T.setFrames fs)) (hrun : (T.setFrames fs).status = .running) (hend : Ended (T.setFrames fs) below (.returned v)) (hW : s.WarmedH (T.setFrames fs).vm) (hsame : s.sameButNew ({ T.setFrames fs with vm := s.vm } : State) locs cells slots) (q : Q v T.heap locs) (hC : cells ≤ C) (hS : slots ≤ S) : Ends p.tables e below Q (FE s C S) U :=
  ⟨_, _, hst, hrun, hend, _, _, rfl, q, ⟨_, rfl⟩, hW, hsame.mono hC hS⟩
theorem retInt (X : Stand p l e R s m args below meth c T locs cells slots) (hx : p.tables.exec = Jvm.exec) {z : Int32} {rest : List Value} (hlk : meth.locks = false) (hret : meth.sig.returnType = some .int) (hd : decode c.code pc = .ok (.ireturn, 1)) (hC : cells ≤ C) (hS : slots ≤ S) (q : Q (some (.int z)) T.heap locs) : Ends p.tables e below Q (FE s C S) (T.setTop (mkF m pc Ls (.int z :: rest))) := by
  obtain ⟨fs, hr, hrun, hended, hW, hsame⟩ := X.leave (v := some (.int z)) (fun h => by rw [hret] at h; cases h) hlk
  exact fin X (retI X hx hret hd hr) hrun hended hW hsame q hC hS
theorem retBool (X : Stand p l e R s m args below meth c T locs cells slots) (hx : p.tables.exec = Jvm.exec) {z : Int32} {rest : List Value} (hlk : meth.locks = false) (hret : meth.sig.returnType = some .boolean) (hd : decode c.code pc = .ok (.ireturn, 1)) (hC : cells ≤ C) (hS : slots ≤ S) (q : Q (some (.int (nar .boolean z))) T.heap locs) : Ends p.tables e below Q (FE s C S) (T.setTop (mkF m pc Ls (.int z :: rest))) := by
  obtain ⟨fs, hr, hrun, hended, hW, hsame⟩ := X.leave (v := some (.int (nar .boolean z))) (fun h => by rw [hret] at h; cases h) hlk
  exact fin X (retN X hx hret (Or.inl rfl) hd hr) hrun hended hW hsame q hC hS
theorem retLong (X : Stand p l e R s m args below meth c T locs cells slots) (hx : p.tables.exec = Jvm.exec) {z : Int64} (hlk : meth.locks = false) (hret : meth.sig.returnType = some .long) (hd : decode c.code pc = .ok (.lreturn, 1)) (hC : cells ≤ C) (hS : slots ≤ S) (q : Q (some (.long z)) T.heap locs) : Ends p.tables e below Q (FE s C S) (T.setTop (mkF m pc Ls ([.long z]))) := by
  obtain ⟨fs, hr, hrun, hended, hW, hsame⟩ := X.leave (v := some (.long z)) (fun h => by rw [hret] at h; cases h) hlk
  exact fin X (X.lreturnOut hx hret hd hr) hrun hended hW hsame q hC hS
theorem retRef (X : Stand p l e R s m args below meth c T locs cells slots) (hx : p.tables.exec = Jvm.exec) {v : Value} {t : FieldType} (hlk : meth.locks = false) (hv : v.isRef = true) (hret : meth.sig.returnType = some t) (ht : t.isReference = true) (hd : decode c.code pc = .ok (.areturn, 1)) (hC : cells ≤ C) (hS : slots ≤ S) (q : Q (some v) T.heap locs) : Ends p.tables e below Q (FE s C S) (T.setTop (mkF m pc Ls ([v]))) := by
  obtain ⟨fs, hr, hrun, hended, hW, hsame⟩ := X.leave (v := some v) (fun h => by rw [hret] at h; cases h) hlk
  exact fin X (X.areturnOut hx hv hret ht hd hr) hrun hended hW hsame q hC hS
theorem retVoid (X : Stand p l e R s m args below meth c T locs cells slots) (hx : p.tables.exec = Jvm.exec) (hlk : meth.locks = false) (hret : meth.sig.returnType = none) (hd : decode c.code pc = .ok (.return_, 1)) (hC : cells ≤ C) (hS : slots ≤ S) (q : Q none T.heap locs) : Ends p.tables e below Q (FE s C S) (T.setTop (mkF m pc Ls ([]))) := by
  obtain ⟨fs, hr, hrun, hended, hW, hsame⟩ := X.leave (v := none) (fun _ => rfl) hlk
  exact fin X (X.returnOut hx hret hd hr) hrun hended hW hsame q hC hS
theorem ldcInt (n : Nat) (X : Stand p l e R s m args below meth c T locs cells slots) (hx : p.tables.exec = Jvm.exec) (hZ : Z.Warmed39 s.vm) {own : String} {index : Nat} (v : Int32) (hown : s.vm.findClass own = some m.cls) (w : (Cond.constant own index v).before a0 Z = true) (hd : decode c.code pc = .ok (.ldc index, 2)) (hn : pc + 2 = n) (K : Ends p.tables e below Q F (T.setTop (mkF m n Ls (.int v :: st)))) : Ends p.tables e below Q F (T.setTop (mkF m pc Ls (st))) := by
  subst hn; exact K.step fun t k => X.ldcInt hx hown (mvT hZ w) (g := mkF m pc Ls st) rfl hd _ k
theorem ldc2Long (n : Nat) (X : Stand p l e R s m args below meth c T locs cells slots) (hx : p.tables.exec = Jvm.exec) (hZ : Z.Warmed39 s.vm) {own : String} {index : Nat} (v : Int64) (hown : s.vm.findClass own = some m.cls) (w : (Cond.constantLong own index v).before a0 Z = true) (hd : decode c.code pc = .ok (.ldc2_w index, 3)) (hn : pc + 3 = n) (K : Ends p.tables e below Q F (T.setTop (mkF m n Ls (.long v :: st)))) : Ends p.tables e below Q F (T.setTop (mkF m pc Ls (st))) := by
  subst hn; exact K.step fun t k => X.ldc2Long hx hown (mvT hZ w) (g := mkF m pc Ls st) rfl hd _ k
theorem getFld (n : Nat) (X : Stand p l e R s m args below meth c T locs cells slots) (hx : p.tables.exec = Jvm.exec) (hZ : Z.Warmed39 s.vm) {own R0 O nm d host : String} {index : Nat} (hown : s.vm.findClass own = some m.cls) (w : (Cond.fieldLink own index R0 nm d).before a0 Z = true ∨ (Cond.fieldLinkNest own index R0 nm d host).before a0 Z = true) (via : Via Z R0 O nm d) (eT : T.heap = h) {a : Addr} {v : Value} (Fd : Fld Z h a O nm d v) {rest : List Value} (hd : decode c.code pc = .ok (.getfield index, 3)) (hn : pc + 3 = n) (K : ∀ T', Stand p l e R s m args below meth c T' locs cells slots → T'.heap = h → Ends p.tables e below Q F (T'.setTop (mkF m n Ls (v :: rest)))) : Ends p.tables e below Q F (T.setTop (mkF m pc Ls (.ref a :: rest))) := by
  subst hn
  obtain ⟨T1, X1, e1, st1⟩ := getF X hx hZ hown w via eT Fd (g := mkF m pc Ls (.ref a :: rest)) rfl rfl hd
  exact (K T1 X1 e1).step st1
theorem getSta (n : Nat) (X : Stand p l e R s m args below meth c T locs cells slots) (hx : p.tables.exec = Jvm.exec) (hZ : Z.Warmed39 s.vm) {own R0 O nm d host : String} {index : Nat} (hown : s.vm.findClass own = some m.cls) (w : (Cond.fieldLink own index R0 nm d).before a0 Z = true ∨ (Cond.fieldLinkNest own index R0 nm d host).before a0 Z = true) (via : Via Z R0 O nm d) (eT : T.heap = h) {v : Value} (Fd : Sta Z h O nm d v) (hd : decode c.code pc = .ok (.getstatic index, 3)) (hn : pc + 3 = n) (K : ∀ T', Stand p l e R s m args below meth c T' locs cells slots → T'.heap = h → Ends p.tables e below Q F (T'.setTop (mkF m n Ls (v :: st)))) : Ends p.tables e below Q F (T.setTop (mkF m pc Ls (st))) := by
  subst hn
  obtain ⟨T1, X1, e1, st1⟩ := getS2 X hx hZ hown w via eT Fd (g := mkF m pc Ls st) rfl hd
  exact (K T1 X1 e1).step st1
theorem putFld (n : Nat) (X : Stand p l e R s m args below meth c T locs cells slots) (hx : p.tables.exec = Jvm.exec) (hZ : Z.Warmed39 s.vm) {own R0 O nm d host CC : String} {index kk : Nat} {ty : FieldType} (hown : s.vm.findClass own = some m.cls) (w : (Cond.fieldLink own index R0 nm d).before a0 Z = true ∨ (Cond.fieldLinkNest own index R0 nm d host).before a0 Z = true) (via : Via Z R0 O nm d) (eT : T.heap = h) {a : Addr} {v old : Value} (Fd : Fld Z h a O nm d old) (E : Exa Z h a CC) (L : (Cond.lays CC O nm d).before a0 Z = true ∨ ((Cond.laysFinal CC O nm d).before a0 Z = true ∧ own = O ∧ meth.name = "<init>")) (wi : (Cond.instantiable CC kk).before a0 Z = true) (hty : parseFieldDescriptor d = some ty) (hnw : narrow ty v = v) (hf : fits ty v = true) {rest : List Value} (hd : decode c.code pc = .ok (.putfield index, 3)) (hn : pc + 3 = n) (K : ∀ T' h', Stand p l e R s m args below meth c T' (locs ++ [⟨a, Jvm.RoadKit.slotOf Z O nm d⟩]) cells slots → T'.heap = h' → Wr h h' a (Jvm.RoadKit.slotOf Z O nm d) v → Ends p.tables e below Q F (T'.setTop (mkF m n Ls (rest)))) : Ends p.tables e below Q F (T.setTop (mkF m pc Ls (v :: .ref a :: rest))) := by
  subst hn
  obtain ⟨T1, h1, X1, e1, W1, st1⟩ := putF X hx hZ hown w via eT Fd E L wi hty hnw hf (g := mkF m pc Ls (v :: .ref a :: rest)) rfl rfl hd
  exact (K T1 h1 X1 e1 W1).step st1
theorem newObj (n : Nat) (X : Stand p l e R s m args below meth c T locs cells slots) (hx : p.tables.exec = Jvm.exec) (hZ : Z.Warmed39 s.vm) {own CC : String} {index sz : Nat} (hown : s.vm.findClass own = some m.cls) (w : (Cond.classLink own index CC).before a0 Z = true) (wi : (Cond.instantiable CC sz).before a0 Z = true) (wz : (Cond.initialized CC).before a0 Z = true) (eT : T.heap = h) (hd : decode c.code pc = .ok (.new index, 3)) (hn : pc + 3 = n) (hc : cells + 1 ≤ R.cells) (hl : slots + sz ≤ R.slots) (K : ∀ T' h' a, a = h.size → Stand p l e R s m args below meth c T' locs (cells + 1) (slots + sz) → T'.heap = h' → Ext h h' → Exa Z h' a CC → (∀ {O nm d : String} {ty : FieldType}, Laid Z a0 CC O nm d → parseFieldDescriptor d = some ty → Fld Z h' a O nm d (defaultValue ty)) → Ends p.tables e below Q F (T'.setTop (mkF m n Ls (.ref a :: st)))) : Ends p.tables e below Q F (T.setTop (mkF m pc Ls (st))) := by
  subst hn
  obtain ⟨T1, h1, X1, e1, E1, A1, D1, -, st1⟩ := newO X hx hZ hown w wi wz eT (g := mkF m pc Ls st) rfl hd hc hl
  exact (K T1 h1 _ rfl X1 e1 E1 A1 (fun L q => D1 L q)).step st1
theorem initObj (n W : Nat) (X : Stand p l e R s m args below meth c T locs cells slots) (hx : p.tables.exec = Jvm.exec) (hZ : Z.Warmed39 s.vm) {own : String} {index : Nat} (hown : s.vm.findClass own = some m.cls) (w1 : (Cond.methodLink own index Lib.objectInit).before a0 Z = true) (w2 : (Cond.instanceMethod Lib.objectInit).before a0 Z = true) (w3 : (Cond.code Lib.objectInit ⟨#[0xb1]⟩ 1 none).before a0 Z = true) (eT : T.heap = h) {a : Addr} {rest : List Value} (hsz : Ls.size = c.maxLocals) (hd : decode c.code pc = .ok (.invokespecial index, 3)) (hn : pc + 3 = n) (hf : 1 ≤ R.frames) (hW : (rest.map fun v => v.category).sum ≤ W) (hl : W + 12 ≤ R.locals) (K : ∀ T', Stand p l e R s m args below meth c T' locs cells slots → T'.heap = h → Ends p.tables e below Q F (T'.setTop (mkF m n Ls (rest)))) : Ends p.tables e below Q F (T.setTop (mkF m pc Ls (.ref a :: rest))) := by
  subst hn
  obtain ⟨T1, X1, e1, st1⟩ := initO X hx hZ hown w1 w2 w3 eT (g := mkF m pc Ls (.ref a :: rest)) rfl hsz rfl hd hf (W := W) (by show 2 * 0 + _ ≤ _; omega) hl
  exact (K T1 X1 e1).step st1
/-- the contract of a body: entered with these arguments at this heap it returns, and what it leaves answers to QQ -/
def Met (l : Launch) (Z : State) (y : MethodName) (bytes : ByteArray) (maxL : Nat) (ret : Option FieldType) (ws : List Cond) (rm : Room) (as : Array Value) (h : Heap) (QQ : Option Value → Heap → List Loc → Prop) : Prop :=
  MetFree l y (head1 (Cond.code y bytes maxL ret :: ws) rm) (fun a U => a = as ∧ Z.Warmed39 U.vm ∧ U.heap = h) (fun _ _ _ _ _ => True) (fun _ U o U' => ∃ v L, o = .returned v ∧ QQ v U'.heap L ∧ FrameEnd U o U' L rm.cells rm.slots)
theorem Met.of {y : MethodName} {bytes : ByteArray} {maxL : Nat} {ret : Option FieldType} {ws : List Cond} {rm : Room} {as : Array Value} {QQ : Option Value → Heap → List Loc → Prop} (hp : plainFor y = true)
    (body : ∀ (p : Program) (e : Env) (s : State) (m : MethodId) (below : List Frame) (meth : Method) (c : Code) (T : State), p.tables.exec = Jvm.exec → c.code = bytes → c.maxLocals = maxL → s.vm.findClass y.cls = some m.cls → meth.name = y.name → meth.sig.returnType = ret → meth.locks = false → Z.Warmed39 s.vm → Stand p l e rm s m as below meth c T [] 0 0 → T.heap = h → Ends p.tables e below QQ (FE s rm.cells rm.slots) (T.setTop (entryFrame m as maxL))) :
    Met l Z y bytes maxL ret ws rm as h QQ := by
  refine MetFree.of_bodySF hp hisR ?_
  intro p e s m args below meth c s₁ Bd hml0 hP hK
  obtain ⟨rfl, hZ, hh⟩ := hP
  exact body p e s m below meth c s₁ Bd.exec Bd.bytes hml0 (findClass_of_methodNamed Bd.named) (name_of_methodNamed Bd.named Bd.method).1 Bd.returns Bd.notSynchronized hZ (Stand.of_body Bd) (by rw [← hh, Bd.state]; rfl)
theorem callSt (n W : Nat) (argsL rest : List Value) (X : Stand p l e R s m args below meth c T locs cells slots) (hx : p.tables.exec = Jvm.exec) (hZ : Z.Warmed39 s.vm) {own : String} {index : Nat} {y : MethodName} {bytes : ByteArray} {maxL : Nat} {ret : Option FieldType} {rm : Room} {QQ : Option Value → Heap → List Loc → Prop} (hown : s.vm.findClass own = some m.cls) (hM : Met l Z y bytes maxL ret [] rm argsL.toArray h QQ) (wl : (Cond.methodLink own index y).before a0 Z = true) (ws : (Cond.static y).before a0 Z = true) (wi : (Cond.initialized y.cls).before a0 Z = true) (wc : (Cond.code y bytes maxL ret).before a0 Z = true) (hy : y.cls ≠ "java/lang/invoke/MethodHandle" ∧ y.cls ≠ "java/lang/invoke/VarHandle") (eT : T.heap = h) (hfr : rm.frames + 1 ≤ R.frames) (hlc : W + (maxL + 11) + rm.locals ≤ R.locals) (hc : cells + rm.cells ≤ R.cells) (hs : slots + rm.slots ≤ R.slots) (hsz : Ls.size = c.maxLocals) (hlen : ∀ sig, parseMethodDescriptor y.desc = some sig → argsL.length = sig.parameters.length) (hst : st = argsL.reverse ++ rest) (hW : (rest.map fun v => v.category).sum ≤ W) (hd : decode c.code pc = .ok (.invokestatic index, 3)) (hn : pc + 3 = n) (K : ∀ v T' L', Stand p l e R s m args below meth c T' (locs ++ L') (cells + rm.cells) (slots + rm.slots) → QQ v T'.heap L' → Ends p.tables e below Q F (T'.setTop (mkF m n Ls (v.toList ++ rest)))) : Ends p.tables e below Q F (T.setTop (mkF m pc Ls (st))) := by
  subst hn
  obtain ⟨v, vm1, ⟨T1, L1, k1, n1⟩, -, X1, ⟨Lc, hQ, l1, y1, z1⟩, st1⟩ := Jvm.LawKit.callS X hx (y := y) hown (mvT hZ wl) (mvT hZ ws) (mvT hZ wi) (mvT hZ wc) hy (backOf (W := W) hM hZ wc wi hfr hlc) (g := mkF m pc Ls st) rfl hsz (argsL := argsL) (rest := rest) hlen hst (by show 2 * 0 + _ ≤ _; omega) hd (fun _ _ => ⟨rfl, eT, hc, hs⟩)
  dsimp only [Pt.U, Pt.locs, Pt.cells, Pt.slots] at X1 l1 y1 z1 st1 hQ
  subst l1 y1 z1
  exact (K v T1 Lc X1 hQ).step st1
theorem callInit (n W : Nat) (a : Addr) (argsL rest : List Value) (X : Stand p l e R s m args below meth c T locs cells slots) (hx : p.tables.exec = Jvm.exec) (hZ : Z.Warmed39 s.vm) {own : String} {index : Nat} {y : MethodName} {bytes : ByteArray} {maxL : Nat} {rm : Room} {QQ : Option Value → Heap → List Loc → Prop} (hown : s.vm.findClass own = some m.cls) (hM : Met l Z y bytes maxL none [] rm (.ref a :: argsL).toArray h QQ) (hy1 : y.name = "<init>") (wl : (Cond.methodLink own index y).before a0 Z = true) (ws : (Cond.instanceMethod y).before a0 Z = true) (wi : (Cond.initialized y.cls).before a0 Z = true) (wc : (Cond.code y bytes maxL none).before a0 Z = true) (hy : y.cls ≠ "java/lang/invoke/MethodHandle" ∧ y.cls ≠ "java/lang/invoke/VarHandle") (eT : T.heap = h) (hfr : rm.frames + 1 ≤ R.frames) (hlc : W + (maxL + 11) + rm.locals ≤ R.locals) (hc : cells + rm.cells ≤ R.cells) (hs : slots + rm.slots ≤ R.slots) (hsz : Ls.size = c.maxLocals) (hlen : ∀ sig, parseMethodDescriptor y.desc = some sig → argsL.length = sig.parameters.length) (hst : st = argsL.reverse ++ .ref a :: rest) (hW : (rest.map fun v => v.category).sum ≤ W) (hd : decode c.code pc = .ok (.invokespecial index, 3)) (hn : pc + 3 = n) (K : ∀ v T' L', Stand p l e R s m args below meth c T' (locs ++ L') (cells + rm.cells) (slots + rm.slots) → QQ v T'.heap L' → Ends p.tables e below Q F (T'.setTop (mkF m n Ls (v.toList ++ rest)))) : Ends p.tables e below Q F (T.setTop (mkF m pc Ls (st))) := by
  subst hn
  obtain ⟨v, vm1, ⟨T1, L1, k1, n1⟩, -, X1, ⟨Lc, hQ, l1, y1, z1⟩, st1⟩ := X.specialBack hx (y := y) hy1 hown (mvT hZ wl) (mvT hZ ws) (mvT hZ wc) hy (backOf (W := W) hM hZ wc wi hfr hlc) (g := mkF m pc Ls st) rfl hsz (Steps.refl _) (a := a) (argsL := argsL) (rest := rest) hlen hst (by show 2 * 0 + _ ≤ _; omega) hd (fun _ _ => ⟨rfl, eT, hc, hs⟩)
  dsimp only [Pt.U, Pt.locs, Pt.cells, Pt.slots] at X1 l1 y1 z1 st1 hQ
  subst l1 y1 z1
  exact (K v T1 Lc X1 hQ).step fun t k => st1.trans k
theorem callVt (n W : Nat) (a : Addr) (argsL rest : List Value) (X : Stand p l e R s m args below meth c T locs cells slots) (hx : p.tables.exec = Jvm.exec) (hZ : Z.Warmed39 s.vm) {own CC : String} {index : Nat} {y z : MethodName} {bytes : ByteArray} {maxL : Nat} {ret : Option FieldType} {rm : Room} {QQ : Option Value → Heap → List Loc → Prop} (hown : s.vm.findClass own = some m.cls) (hM : Met l Z z bytes maxL ret [] rm (.ref a :: argsL).toArray h QQ) (E : Exa Z h a CC) (hnf : NotFace s y) (wl : (Cond.methodLink own index y).before a0 Z = true) (wd : (Cond.declares y).before a0 Z = true) (wsel : (Cond.selects CC y z).before a0 Z = true) (ws : (Cond.instanceMethod z).before a0 Z = true) (wi : (Cond.initialized z.cls).before a0 Z = true) (wc : (Cond.code z bytes maxL ret).before a0 Z = true) (hy : y.cls ≠ "java/lang/invoke/MethodHandle" ∧ y.cls ≠ "java/lang/invoke/VarHandle") (eT : T.heap = h) (hfr : rm.frames + 1 ≤ R.frames) (hlc : W + (maxL + 11) + rm.locals ≤ R.locals) (hc : cells + rm.cells ≤ R.cells) (hs : slots + rm.slots ≤ R.slots) (hsz : Ls.size = c.maxLocals) (hlen : ∀ sig, parseMethodDescriptor y.desc = some sig → argsL.length = sig.parameters.length) (hst : st = argsL.reverse ++ .ref a :: rest) (hW : (rest.map fun v => v.category).sum ≤ W) (hd : decode c.code pc = .ok (.invokevirtual index, 3)) (hn : pc + 3 = n) (K : ∀ v T' L', Stand p l e R s m args below meth c T' (locs ++ L') (cells + rm.cells) (slots + rm.slots) → QQ v T'.heap L' → Ends p.tables e below Q F (T'.setTop (mkF m n Ls (v.toList ++ rest)))) : Ends p.tables e below Q F (T.setTop (mkF m pc Ls (st))) := by
  subst hn
  obtain ⟨cq, kq, qa, qb, qc⟩ := isOf hZ eT E
  obtain ⟨v, vm1, ⟨T1, L1, k1, n1⟩, -, X1, ⟨Lc, hQ, l1, y1, z1⟩, st1⟩ := X.virtualBack hx (y := y) (z := z) hown (mvT hZ wl) (mvT hZ wd) hnf (mvT hZ wsel) (mvT hZ ws) hy (backOf (W := W) hM hZ wc wi hfr hlc) qa qc (g := mkF m pc Ls st) rfl hsz (Steps.refl _) (argsL := argsL) (rest := rest) hlen hst (by show 2 * 0 + _ ≤ _; omega) hd (fun _ _ => ⟨rfl, eT, hc, hs⟩)
  dsimp only [Pt.U, Pt.locs, Pt.cells, Pt.slots] at X1 l1 y1 z1 st1 hQ
  subst l1 y1 z1
  exact (K v T1 Lc X1 hQ).step fun t k => st1.trans k
theorem callPr (n W : Nat) (a : Addr) (argsL rest : List Value) (X : Stand p l e R s m args below meth c T locs cells slots) (hx : p.tables.exec = Jvm.exec) (hZ : Z.Warmed39 s.vm) {own CC : String} {index : Nat} {y : MethodName} {bytes : ByteArray} {maxL : Nat} {ret : Option FieldType} {rm : Room} {QQ : Option Value → Heap → List Loc → Prop} (hown : s.vm.findClass own = some m.cls) (hM : Met l Z y bytes maxL ret [] rm (.ref a :: argsL).toArray h QQ) (E : Exa Z h a CC) (wl : (Cond.methodLink own index y).before a0 Z = true) (wp : (Cond.privateMethod y).before a0 Z = true) {kk : Nat} (wk : (Cond.instantiable y.cls kk).before a0 Z = true) (ws : (Cond.instanceMethod y).before a0 Z = true) (wi : (Cond.initialized y.cls).before a0 Z = true) (wc : (Cond.code y bytes maxL ret).before a0 Z = true) (hy : y.cls ≠ "java/lang/invoke/MethodHandle" ∧ y.cls ≠ "java/lang/invoke/VarHandle") (eT : T.heap = h) (hfr : rm.frames + 1 ≤ R.frames) (hlc : W + (maxL + 11) + rm.locals ≤ R.locals) (hc : cells + rm.cells ≤ R.cells) (hs : slots + rm.slots ≤ R.slots) (hsz : Ls.size = c.maxLocals) (hlen : ∀ sig, parseMethodDescriptor y.desc = some sig → argsL.length = sig.parameters.length) (hst : st = argsL.reverse ++ .ref a :: rest) (hW : (rest.map fun v => v.category).sum ≤ W) (hd : decode c.code pc = .ok (.invokevirtual index, 3)) (hn : pc + 3 = n) (K : ∀ v T' L', Stand p l e R s m args below meth c T' (locs ++ L') (cells + rm.cells) (slots + rm.slots) → QQ v T'.heap L' → Ends p.tables e below Q F (T'.setTop (mkF m n Ls (v.toList ++ rest)))) : Ends p.tables e below Q F (T.setTop (mkF m pc Ls (st))) := by
  subst hn
  obtain ⟨cq, qa, qb⟩ := E.cell
  obtain ⟨cI, kI, i1, i2, -, i4, -⟩ := Cond.instantiable_spec (mvT (args := args) hZ wk)
  obtain ⟨v, vm1, ⟨T1, L1, k1, n1⟩, -, X1, ⟨Lc, hQ, l1, y1, z1⟩, st1⟩ := X.privateBack hx (y := y) hown (mvT hZ wl) (mvT hZ ws) (selects_self_of_private i1 i2 (by simpa using (Bool.or_eq_false_iff.mp i4).1) (Cond.privateMethod_at (mvP hZ wp (args := #[]))) (mvT hZ ws) hy) (Cond.privateMethod_at (mvP hZ wp (args := #[]))) (mvT hZ wc) hy (backOf (W := W) hM hZ wc wi hfr hlc) (g := mkF m pc Ls st) rfl hsz (Steps.refl _) (a := a) (by rw [eT]; exact qa) qb (argsL := argsL) (rest := rest) hlen hst (by show 2 * 0 + _ ≤ _; omega) hd (fun _ _ => ⟨rfl, eT, hc, hs⟩)
  dsimp only [Pt.U, Pt.locs, Pt.cells, Pt.slots] at X1 l1 y1 z1 st1 hQ
  subst l1 y1 z1
  exact (K v T1 Lc X1 hQ).step fun t k => st1.trans k
theorem arrLen (n : Nat) (X : Stand p l e R s m args below meth c T locs cells slots) (hx : p.tables.exec = Jvm.exec) (hZ : Z.Warmed39 s.vm) (eT : T.heap = h) {a : Addr} {k : ClassId} {ty : FieldType} {z : Int32} {vs : List Value} {dv : Value} {rest : List Value} (A : Arv Z h a k ty z vs dv) (hd : decode c.code pc = .ok (.arraylength, 1)) (hn : pc + 1 = n) (K : Ends p.tables e below Q F (T.setTop (mkF m n Ls (.int z :: rest)))) : Ends p.tables e below Q F (T.setTop (mkF m pc Ls (.ref a :: rest))) := by
  subst hn
  obtain ⟨cl, Ar, -, Sz, Nz, -, -⟩ := A
  refine K.step fun t kk => X.arraylength hx (by rw [eT]; exact Ar.1) (State.isArrayOf_alike hZ.alike Ar.2.1) (g := mkF m pc Ls (.ref a :: rest)) rfl rfl hd _ ?_
  rw [len_of Sz Nz]; exact kk
theorem iaload (n : Nat) (X : Stand p l e R s m args below meth c T locs cells slots) (hx : p.tables.exec = Jvm.exec) (hZ : Z.Warmed39 s.vm) (eT : T.heap = h) {a : Addr} {k : ClassId} {z j : Int32} (v : Int32) {vs : List Value} {dv : Value} {rest : List Value} (A : Arv Z h a k .int z vs dv) (hj : ¬ j < 0 ∧ j < z) (hv : vs.getD j.toNatClampNeg dv = .int v) (hd : decode c.code pc = .ok (.iaload, 1)) (hn : pc + 1 = n) (K : Ends p.tables e below Q F (T.setTop (mkF m n Ls (.int v :: rest)))) : Ends p.tables e below Q F (T.setTop (mkF m pc Ls (.int j :: .ref a :: rest))) := by
  subst hn
  obtain ⟨cl, Ar, -, Sz, Nz, Hs, -⟩ := A
  have hin := inb_of Sz hj
  exact K.step fun t kk => X.iaload hx (j := j) (v := .int v) (by rw [eT]; exact Ar.1) (State.isArrayOf_alike hZ.alike Ar.2.1) Ar.2.2 hin (Hs.at hin hv) (g := mkF m pc Ls (.int j :: .ref a :: rest)) rfl rfl hd _ kk
theorem laload (n : Nat) (X : Stand p l e R s m args below meth c T locs cells slots) (hx : p.tables.exec = Jvm.exec) (hZ : Z.Warmed39 s.vm) (eT : T.heap = h) {a : Addr} {k : ClassId} {z j : Int32} (v : Int64) {vs : List Value} {dv : Value} {rest : List Value} (A : Arv Z h a k .long z vs dv) (hj : ¬ j < 0 ∧ j < z) (hv : vs.getD j.toNatClampNeg dv = .long v) (hd : decode c.code pc = .ok (.laload, 1)) (hn : pc + 1 = n) (K : Ends p.tables e below Q F (T.setTop (mkF m n Ls (.long v :: rest)))) : Ends p.tables e below Q F (T.setTop (mkF m pc Ls (.int j :: .ref a :: rest))) := by
  subst hn
  obtain ⟨cl, Ar, -, Sz, Nz, Hs, -⟩ := A
  have hin := inb_of Sz hj
  exact K.step fun t kk => X.laload hx (j := j) (v := .long v) (by rw [eT]; exact Ar.1) (State.isArrayOf_alike hZ.alike Ar.2.1) Ar.2.2 hin (Hs.at hin hv) (g := mkF m pc Ls (.int j :: .ref a :: rest)) rfl rfl hd _ kk
theorem iastore (n : Nat) (X : Stand p l e R s m args below meth c T locs cells slots) (hx : p.tables.exec = Jvm.exec) (hZ : Z.Warmed39 s.vm) (eT : T.heap = h) {a : Addr} {k : ClassId} {z j : Int32} {x : Int32} {vs : List Value} {dv : Value} {rest : List Value} (A : Arv Z h a k .int z vs dv) (hj : ¬ j < 0 ∧ j < z) (hlen : j.toNatClampNeg < vs.length) (hd : decode c.code pc = .ok (.iastore, 1)) (hn : pc + 1 = n) (K : ∀ T' h', Stand p l e R s m args below meth c T' (locs ++ [⟨a, j.toNatClampNeg⟩]) cells slots → T'.heap = h' → Wr h h' a j.toNatClampNeg (.int x) → Arv Z h' a k .int z (vs.set j.toNatClampNeg (.int x)) dv → Ends p.tables e below Q F (T'.setTop (mkF m n Ls (rest)))) : Ends p.tables e below Q F (T.setTop (mkF m pc Ls (.int x :: .int j :: .ref a :: rest))) := by
  subst hn
  obtain ⟨cl, Ar, q1, Sz, Nz, Hs, Gs⟩ := A
  obtain ⟨T1, h1, X1, e1, W1, st1⟩ := stI X hx hZ eT Ar (j := j) (inb_of Sz hj) (g := mkF m pc Ls (.int x :: .int j :: .ref a :: rest)) rfl rfl hd
  exact (K T1 h1 X1 e1 W1 (Arv.set Ar q1 Sz Nz Hs Gs rfl W1 _ rfl hlen)).step st1
theorem lastore (n : Nat) (X : Stand p l e R s m args below meth c T locs cells slots) (hx : p.tables.exec = Jvm.exec) (hZ : Z.Warmed39 s.vm) (eT : T.heap = h) {a : Addr} {k : ClassId} {z j : Int32} {x : Int64} {vs : List Value} {dv : Value} {rest : List Value} (A : Arv Z h a k .long z vs dv) (hj : ¬ j < 0 ∧ j < z) (hlen : j.toNatClampNeg < vs.length) (hd : decode c.code pc = .ok (.lastore, 1)) (hn : pc + 1 = n) (K : ∀ T' h', Stand p l e R s m args below meth c T' (locs ++ [⟨a, j.toNatClampNeg⟩]) cells slots → T'.heap = h' → Wr h h' a j.toNatClampNeg (.long x) → Arv Z h' a k .long z (vs.set j.toNatClampNeg (.long x)) dv → Ends p.tables e below Q F (T'.setTop (mkF m n Ls (rest)))) : Ends p.tables e below Q F (T.setTop (mkF m pc Ls (.long x :: .int j :: .ref a :: rest))) := by
  subst hn
  obtain ⟨cl, Ar, q1, Sz, Nz, Hs, Gs⟩ := A
  obtain ⟨T1, h1, X1, e1, W1, st1⟩ := stJ X hx hZ eT Ar (j := j) (inb_of Sz hj) (g := mkF m pc Ls (.long x :: .int j :: .ref a :: rest)) rfl rfl hd
  exact (K T1 h1 X1 e1 W1 (Arv.set Ar q1 Sz Nz Hs Gs rfl W1 _ rfl hlen)).step st1
theorem newArr (n cap : Nat) (X : Stand p l e R s m args below meth c T locs cells slots) (hx : p.tables.exec = Jvm.exec) (hZ : Z.Warmed39 s.vm) {aty : ArrayType} (w : (Cond.arrayClass (newarray.typeOf aty)).before a0 Z = true) (eT : T.heap = h) {z : Int32} {rest : List Value} (hz : ¬ z < 0) (hcap : z.toNatClampNeg ≤ cap) (hb : cap * 8 ≤ 536870912) (hd : decode c.code pc = .ok (.newarray aty, 2)) (hn : pc + 2 = n) (hc : cells + 1 ≤ R.cells) (hl : slots + cap ≤ R.slots) (K : ∀ T' h' a k, a = h.size → Stand p l e R s m args below meth c T' locs (cells + 1) (slots + cap) → T'.heap = h' → Ext h h' → Arv Z h' a k (newarray.typeOf aty) z (List.replicate z.toNatClampNeg (defaultValue (newarray.typeOf aty))) (defaultValue (newarray.typeOf aty)) → Ends p.tables e below Q F (T'.setTop (mkF m n Ls (.ref a :: rest)))) : Ends p.tables e below Q F (T.setTop (mkF m pc Ls (.int z :: rest))) := by
  subst hn
  obtain ⟨T1, h1, k1, X1, e1, E1, A1, st1⟩ := newP X hx hZ w eT (g := mkF m pc Ls (.int z :: rest)) rfl hd rfl hz (cap := cap) hcap hb hc hl
  exact (K T1 h1 _ k1 rfl X1 e1 E1 ((Arv.new A1 hz).pad (pad_rep [] _ _))).step st1
/-- an array of this kind and length, whatever it holds -/
def Ax (Z : State) (h : Heap) (a : Addr) (ty : FieldType) (z : Int32) : Prop := ∃ (k : ClassId) (vs : List Value), vs.length = z.toNatClampNeg ∧ Arv Z h a k ty z vs (defaultValue ty)
theorem Ax.lt {a : Addr} {ty : FieldType} {z : Int32} (F : Ax Z h a ty z) : a < h.size := by obtain ⟨k, vs, -, A⟩ := F; exact A.lt
theorem Ax.ext {h' : Heap} {a : Addr} {ty : FieldType} {z : Int32} (F : Ax Z h a ty z) (E : Ext h h') : Ax Z h' a ty z := by obtain ⟨k, vs, q, A⟩ := F; exact ⟨k, vs, q, A.ext E⟩
theorem Ax.keep {h' : Heap} {a : Addr} {ty : FieldType} {z : Int32} {ws : List Addr} (F : Ax Z h a ty z) (K : Keep h h' ws) (q : a ∉ ws) : Ax Z h' a ty z := by obtain ⟨k, vs, r, A⟩ := F; exact ⟨k, vs, r, A.keep K q⟩
theorem Ax.other {h' : Heap} {a b : Addr} {sl : Nat} {v : Value} {ty : FieldType} {z : Int32} (F : Ax Z h a ty z) (W : Wr h h' b sl v) (q : a ≠ b) : Ax Z h' a ty z := by obtain ⟨k, vs, r, A⟩ := F; exact ⟨k, vs, r, A.other W q⟩
theorem Ax.nn {a : Addr} {ty : FieldType} {z : Int32} (F : Ax Z h a ty z) : ¬ z < 0 := by obtain ⟨k, vs, -, c, -, -, -, N, -⟩ := F; exact N
theorem axLen (n : Nat) (X : Stand p l e R s m args below meth c T locs cells slots) (hx : p.tables.exec = Jvm.exec) (hZ : Z.Warmed39 s.vm) (eT : T.heap = h) {a : Addr} {ty : FieldType} {z : Int32} {rest : List Value} (A : Ax Z h a ty z) (hd : decode c.code pc = .ok (.arraylength, 1)) (hn : pc + 1 = n) (K : Ends p.tables e below Q F (T.setTop (mkF m n Ls (.int z :: rest)))) : Ends p.tables e below Q F (T.setTop (mkF m pc Ls (.ref a :: rest))) := by
  obtain ⟨k, vs, -, A⟩ := A
  exact arrLen n X hx hZ eT A hd hn K
theorem axLoadJ (n : Nat) (X : Stand p l e R s m args below meth c T locs cells slots) (hx : p.tables.exec = Jvm.exec) (hZ : Z.Warmed39 s.vm) (eT : T.heap = h) {a : Addr} {z j : Int32} {rest : List Value} (A : Ax Z h a .long z) (hj : ¬ j < 0 ∧ j < z) (hd : decode c.code pc = .ok (.laload, 1)) (hn : pc + 1 = n) (K : ∀ v : Int64, Ends p.tables e below Q F (T.setTop (mkF m n Ls (.long v :: rest)))) : Ends p.tables e below Q F (T.setTop (mkF m pc Ls (.int j :: .ref a :: rest))) := by
  obtain ⟨k, vs, -, A⟩ := A
  have A1 := A
  obtain ⟨cl, Ar, -, Sz, Nz, Hs, Gs⟩ := A1
  have hin := inb_of Sz hj
  have G := Gs j.toNatClampNeg (Nat.lt_of_not_le fun y => hin (Or.inr y))
  obtain ⟨v, hv⟩ := fit_J G
  exact laload n X hx hZ eT v A hj hv hd hn (K v)
theorem axStoreJ (n : Nat) (X : Stand p l e R s m args below meth c T locs cells slots) (hx : p.tables.exec = Jvm.exec) (hZ : Z.Warmed39 s.vm) (eT : T.heap = h) {a : Addr} {z j : Int32} {x : Int64} {rest : List Value} (A : Ax Z h a .long z) (hj : ¬ j < 0 ∧ j < z) (hd : decode c.code pc = .ok (.lastore, 1)) (hn : pc + 1 = n) (K : ∀ T' h', Stand p l e R s m args below meth c T' (locs ++ [⟨a, j.toNatClampNeg⟩]) cells slots → T'.heap = h' → Wr h h' a j.toNatClampNeg (.long x) → Ax Z h' a .long z → Ends p.tables e below Q F (T'.setTop (mkF m n Ls (rest)))) : Ends p.tables e below Q F (T.setTop (mkF m pc Ls (.long x :: .int j :: .ref a :: rest))) := by
  obtain ⟨k, vs, hl, A⟩ := A
  have hjz : j.toNatClampNeg < z.toNatClampNeg := by
    have h1 := nat_of hj.1
    have h2 := hj.2
    have h3 := nat_of (Ax.nn ⟨k, vs, hl, A⟩)
    rw [Int32.lt_iff_toInt_lt] at h2
    omega
  exact lastore n X hx hZ eT A hj (by rw [hl]; exact hjz) hd hn (fun T1 h1 X1 e1 W1 A1 => K T1 h1 X1 e1 W1 ⟨k, _, by rw [List.length_set, hl], A1⟩)
theorem axNew (n cap : Nat) (X : Stand p l e R s m args below meth c T locs cells slots) (hx : p.tables.exec = Jvm.exec) (hZ : Z.Warmed39 s.vm) {aty : ArrayType} (w : (Cond.arrayClass (newarray.typeOf aty)).before a0 Z = true) (eT : T.heap = h) {z : Int32} {rest : List Value} (hz : ¬ z < 0) (hcap : z.toNatClampNeg ≤ cap) (hb : cap * 8 ≤ 536870912) (hd : decode c.code pc = .ok (.newarray aty, 2)) (hn : pc + 2 = n) (hc : cells + 1 ≤ R.cells) (hl : slots + cap ≤ R.slots) (K : ∀ T' h' a, a = h.size → Stand p l e R s m args below meth c T' locs (cells + 1) (slots + cap) → T'.heap = h' → Ext h h' → Ax Z h' a (newarray.typeOf aty) z → Ends p.tables e below Q F (T'.setTop (mkF m n Ls (.ref a :: rest)))) : Ends p.tables e below Q F (T.setTop (mkF m pc Ls (.int z :: rest))) :=
  newArr n cap X hx hZ w eT hz hcap hb hd hn hc hl (fun T1 h1 a k q X1 e1 E1 A1 => K T1 h1 a q X1 e1 E1 ⟨k, _, List.length_replicate, A1⟩)
theorem eqI_v {t : Term} {k : Int32} {as : Array Value} (q : (Cond.eq t (.int k)).value as s none s [] = some true) : t.eval as s none [] s = some (.int k) := by
  cases ht : t.eval as s none [] s with
  | none => simp [Cond.value, ht] at q
  | some x => cases x <;> simp [Cond.value, Term.eval, ht] at q ⊢; exact q
theorem Ends.wide {tb : Tables} {U : State} (k : Ends tb e below Q (FE s C S) U) : Ends tb e below Q (FW s C S) U := by
  obtain ⟨s₂, o, h1, h2, h3, v, L, h4, h5, h6⟩ := k
  exact ⟨s₂, o, h1, h2, h3, v, L, h4, h5, Jvm.RoadKit.wide h6⟩
/-- the contract of a body that may load a String constant -/
def MetW (l : Launch) (Z : State) (y : MethodName) (bytes : ByteArray) (maxL : Nat) (ret : Option FieldType) (ws : List Cond) (rm : Room) (as : Array Value) (h : Heap) (QQ : Option Value → Heap → List Loc → Prop) : Prop :=
  MetFree l y (head1 (Cond.code y bytes maxL ret :: ws) rm) (fun a U => a = as ∧ Z.Warmed39 U.vm ∧ U.heap = h) (fun _ _ _ _ _ => True) (fun _ U o U' => ∃ v L, o = .returned v ∧ QQ v U'.heap L ∧ ReturnedEndW U o U' L rm.cells rm.slots)
theorem MetW.of {y : MethodName} {bytes : ByteArray} {maxL : Nat} {ret : Option FieldType} {ws : List Cond} {rm : Room} {as : Array Value} {QQ : Option Value → Heap → List Loc → Prop} (hp : plainFor y = true)
    (body : ∀ (p : Program) (e : Env) (s : State) (m : MethodId) (below : List Frame) (meth : Method) (c : Code) (T : State), p.tables.exec = Jvm.exec → c.code = bytes → c.maxLocals = maxL → s.vm.findClass y.cls = some m.cls → meth.name = y.name → meth.sig.returnType = ret → meth.locks = false → Z.Warmed39 s.vm → Stand p l e rm s m as below meth c T [] 0 0 → T.heap = h → Ends p.tables e below QQ (FW s rm.cells rm.slots) (T.setTop (entryFrame m as maxL))) :
    MetW l Z y bytes maxL ret ws rm as h QQ := by
  refine MetFree.of_bodySF hp hisR ?_
  intro p e s m args below meth c s₁ Bd hml0 hP hK
  obtain ⟨rfl, hZ, hh⟩ := hP
  exact body p e s m below meth c s₁ Bd.exec Bd.bytes hml0 (findClass_of_methodNamed Bd.named) (name_of_methodNamed Bd.named Bd.method).1 Bd.returns Bd.notSynchronized hZ (Stand.of_body Bd) (by rw [← hh, Bd.state]; rfl)
/-- a reference that may be null; if not, one of this class -/
def Opt (Z : State) (h : Heap) (v : Value) (C : String) : Prop := v = .null ∨ ∃ a, v = .ref a ∧ Exa Z h a C
theorem Opt.isRef {v : Value} {CC : String} (F : Opt Z h v CC) : v.isRef = true := by rcases F with rfl | ⟨a, rfl, -⟩ <;> rfl
theorem Opt.ext {h' : Heap} {v : Value} {CC : String} (F : Opt Z h v CC) (E : Ext h h') : Opt Z h' v CC := F.imp id fun ⟨a, q, r⟩ => ⟨a, q, r.ext E⟩
theorem Opt.wr {h' : Heap} {v : Value} {CC : String} {a : Addr} {sl : Nat} {u : Value} (F : Opt Z h v CC) (W : Wr h h' a sl u) : Opt Z h' v CC := F.imp id fun ⟨a, q, r⟩ => ⟨a, q, r.wr W⟩
theorem Opt.keep {h' : Heap} {v : Value} {CC : String} {ws : List Addr} (F : Opt Z h v CC) (K : Keep h h' ws) : Opt Z h' v CC := F.imp id fun ⟨a, q, r⟩ => ⟨a, q, r.keep K⟩
end Walk
end Jvm.Own

namespace Jvm.Own
open Jvm Sem ClassFile Op Lib Jvm.Stand Jvm.Free Jvm.LawKit Jvm.RoadKit Bundle
section Walk5
variable {p : Program} {l : Launch} {e : Env} {R : Room} {s : State} {m : MethodId} {args : Array Value} {below : List Frame} {meth : Method} {c : Code} {T : State} {locs : List Loc} {cells slots : Nat} {Q : Option Value → Heap → List Loc → Prop} {F : Outcome → State → List Loc → Prop} {C S : Nat} {pc : Nat} {Ls : Array Slot} {st : List Value} {Z : State} {a0 : Array Value} {h : Heap}
/-- the array at a holds v at the index j -/
def At (h : Heap) (a : Addr) (j : Int32) (v : Value) : Prop := ∃ c : Cell, h[a]? = some c ∧ c.slots[j.toNatClampNeg]? = some v
theorem At.lt {a : Addr} {j : Int32} {v : Value} (F : At h a j v) : a < h.size := by obtain ⟨c, q, -⟩ := F; exact (Array.getElem?_eq_some_iff.mp q).1
theorem At.ext {h' : Heap} {a : Addr} {j : Int32} {v : Value} (F : At h a j v) (E : Ext h h') : At h' a j v := by obtain ⟨c, q, r⟩ := F; exact ⟨c, E.2 _ _ q, r⟩
theorem At.keep {h' : Heap} {a : Addr} {j : Int32} {v : Value} {ws : List Addr} (F : At h a j v) (K : Keep h h' ws) (q : a ∉ ws) : At h' a j v := by obtain ⟨c, q1, r⟩ := F; exact ⟨c, K.2.1 _ _ q1 q, r⟩
theorem At.other {h' : Heap} {a b : Addr} {sl : Nat} {u v : Value} {j : Int32} (F : At h a j v) (W : Wr h h' b sl u) (q : a ≠ b) : At h' a j v := F.keep (Keep.of_wr W) (fun r => q (List.mem_singleton.mp r))
theorem At.same {h' : Heap} {a : Addr} {v : Value} {j : Int32} (W : Wr h h' a j.toNatClampNeg v) : At h' a j v := by
  obtain ⟨cell, h1, -, h3, rfl⟩ := W
  have hlt := (Array.getElem?_eq_some_iff.mp h1).1
  exact ⟨_, by rw [Array.getElem?_setIfInBounds_self_of_lt hlt], by simp [Cell.setSlot, h3]⟩
theorem eqL_v {t : Term} {k : Int64} {as : Array Value} (q : (Cond.eq t (.long k)).value as s none s [] = some true) : t.eval as s none [] s = some (.long k) := by
  cases ht : t.eval as s none [] s with
  | none => simp [Cond.value, ht] at q
  | some x => cases x <;> simp [Cond.value, Term.eval, ht] at q ⊢; exact q
theorem arvB5 {ty : FieldType} {a : Addr} {cl : Cell} {z : Int32} {vs : List Value} {dv : Value} (A : Arr Z Z.heap a cl ty) (hs : cl.slots.size = vs.length) (hz : z.toNatClampNeg = vs.length) (hn : ¬ z < 0) (H : HasL cl 0 vs) (hf : vs.all (fits ty) = true) : Arv Z Z.heap a cl.cls ty z vs dv := by
  refine ⟨cl, A, rfl, by rw [hs, hz], hn, fun j hj => ?_, fun j hj => ?_⟩
  · have := HasL.at (dv := dv) vs 0 H j (by omega)
    rwa [Nat.zero_add] at this
  · have hj' : j < vs.length := by omega
    have : vs.getD j dv = vs[j] := by simp [List.getD, hj']
    rw [this]
    exact List.all_eq_true.mp hf _ (List.getElem_mem hj')
theorem lenN5 {ty : FieldType} {a : Addr} {cl : Cell} {t : Term} {as : Array Value} {n : Int32} {k : Nat} (ev : t.eval as Z none [] Z = some (.ref a)) (wl : (Cond.eq (.length t) (.int n)).value as Z none Z [] = some true) (A : Arr Z Z.heap a cl ty) (hn : n.toInt = (k : Int)) : cl.slots.size = k := by
  have hev := Own.eqI_v (s := Z) wl
  obtain ⟨b, c2, e2, a2, lt, r⟩ := Jvm.Lib.length_spec hev
  cases ev.symm.trans e2
  cases (IntBox.arrayAt_of A.1 A.2.1 A.2.2).symm.trans a2
  have q : n = cl.slots.size.toInt32 := by injection r
  have q2 := congrArg Int32.toInt q
  have q3 : (cl.slots.size.toInt32).toInt = (cl.slots.size : Int) := by
    rw [Nat.toInt32, Int32.toInt_ofNat_of_lt lt]
  omega
theorem elJ {ty : FieldType} {a : Addr} {cl : Cell} {t : Term} {as : Array Value} {v : Int64} {j : Int32} {i : Nat} (ev : t.eval as Z none [] Z = some (.ref a)) (w : (Cond.eq (.elem t (.int j)) (.long v)).value as Z none Z [] = some true) (A : Arr Z Z.heap a cl ty) (hi : j.toNatClampNeg = i) : cl.slots[i]? = some (.long v) := by
  have hev := Own.eqL_v (s := Z) w
  obtain ⟨a', j', cell, ha', hj', hat, -, hv⟩ := Term.elem_spec hev
  cases ev.symm.trans ha'
  cases (IntBox.arrayAt_of A.1 A.2.1 A.2.2).symm.trans hat
  have : j = j' := by simpa [Term.eval] using hj'
  subst this
  rw [← hi]; exact hv
end Walk5
end Jvm.Own

namespace Jvm.Own
open Jvm Sem ClassFile Op Lib Jvm.Stand Jvm.Free Jvm.LawKit Jvm.RoadKit Bundle
/-- an int that is a natural number -/
def N (x : Nat) : Int32 := Int32.ofNat x
theorem N_toInt {x : Nat} (h : x < 2147483648) : (N x).toInt = (x : Int) := Int32.toInt_ofNat_of_lt h
theorem N_add (x y : Nat) : N x + N y = N (x + y) := by simp [N, Int32.ofNat_add]
theorem N_sub {x y : Nat} (h : y ≤ x) : N x - N y = N (x - y) := by
  have e : N (x - y) + N y = N x := by rw [N_add, Nat.sub_add_cancel h]
  rw [← e, Int32.add_sub_cancel]
theorem N_lt {x y : Nat} (h : x < 2147483648) (h' : y < 2147483648) : N x < N y ↔ x < y := by
  rw [Int32.lt_iff_toInt_lt, N_toInt h, N_toInt h']; omega
theorem N_eq {x y : Nat} (h : x < 2147483648) (h' : y < 2147483648) : N x = N y ↔ x = y := by
  rw [← Int32.toInt_inj, N_toInt h, N_toInt h']; omega
theorem N_nn {x : Nat} (h : x < 2147483648) : ¬ N x < 0 := by
  rw [Int32.lt_iff_toInt_lt, N_toInt h, show (0 : Int32).toInt = 0 from by decide]; omega
theorem N_idx {x : Nat} (h : x < 2147483648) : (N x).toNatClampNeg = x := by
  have a := nat_of (N_nn h)
  have b := N_toInt h
  omega
theorem N_ne1 {x : Nat} (h : x < 2147483648) : ¬ N x = (-1 : Int32) := by
  rw [← Int32.toInt_inj, N_toInt h, show (-1 : Int32).toInt = -1 from by decide]; omega
theorem N_of {v : Int32} {x : Nat} (h : x < 2147483648) (e : v.toInt = (x : Int)) : v = N x := Int32.toInt_inj.mp (e.trans (N_toInt h).symm)
theorem N_mod {x y : Nat} (h : x < 2147483648) (h' : y < 2147483648) : N x % N y = N (x % y) := by
  refine N_of (Nat.lt_of_le_of_lt (Nat.mod_le _ _) h) ?_
  rw [Int32.toInt_mod, N_toInt h, N_toInt h']
  exact (Int.ofNat_tmod x y).symm

section Walk6
variable {p : Program} {l : Launch} {e : Env} {R : Room} {s : State} {m : MethodId} {args : Array Value} {below : List Frame} {meth : Method} {c : Code} {T : State} {locs : List Loc} {cells slots : Nat} {Q : Option Value → Heap → List Loc → Prop} {F : Outcome → State → List Loc → Prop} {C S : Nat} {pc : Nat} {Ls : Array Slot} {st : List Value} {Z : State} {a0 : Array Value} {h : Heap}
/-- an int[] of z components, f i at the index i -/
def Arf (Z : State) (h : Heap) (a : Addr) (z : Nat) (f : Nat → Int32) : Prop := z < 2147483648 ∧ ∃ (k : ClassId) (vs : List Value), vs.length = z ∧ Arv Z h a k .int (N z) vs (.int 0) ∧ ∀ i, i < z → vs.getD i (.int 0) = .int (f i)
def upd (f : Nat → Int32) (j : Nat) (v : Int32) : Nat → Int32 := fun i => if i = j then v else f i
theorem upd_hit {f : Nat → Int32} {j i : Nat} {v : Int32} (h : i = j) : upd f j v i = v := if_pos h
theorem upd_miss {f : Nat → Int32} {j i : Nat} {v : Int32} (h : i ≠ j) : upd f j v i = f i := if_neg h
theorem Arf.lt {a : Addr} {z : Nat} {f : Nat → Int32} (A : Arf Z h a z f) : a < h.size := by obtain ⟨-, k, vs, -, A, -⟩ := A; exact A.lt
theorem Arf.ext {h' : Heap} {a : Addr} {z : Nat} {f : Nat → Int32} (A : Arf Z h a z f) (E : Ext h h') : Arf Z h' a z f := by obtain ⟨q0, k, vs, q, A, G⟩ := A; exact ⟨q0, k, vs, q, A.ext E, G⟩
theorem Arf.keep {h' : Heap} {a : Addr} {z : Nat} {f : Nat → Int32} {ws : List Addr} (A : Arf Z h a z f) (K : Keep h h' ws) (q : a ∉ ws) : Arf Z h' a z f := by obtain ⟨q0, k, vs, r, A, G⟩ := A; exact ⟨q0, k, vs, r, A.keep K q, G⟩
theorem Arf.other {h' : Heap} {a b : Addr} {sl : Nat} {v : Value} {z : Nat} {f : Nat → Int32} (A : Arf Z h a z f) (W : Wr h h' b sl v) (q : a ≠ b) : Arf Z h' a z f := by obtain ⟨q0, k, vs, r, A, G⟩ := A; exact ⟨q0, k, vs, r, A.other W q, G⟩
theorem inN {x z : Nat} (h : x < z) (hz : z < 2147483648) : ¬ N x < 0 ∧ N x < N z := ⟨N_nn (by omega), (N_lt (by omega) hz).mpr h⟩
theorem nLen (n : Nat) (X : Stand p l e R s m args below meth c T locs cells slots) (hx : p.tables.exec = Jvm.exec) (hZ : Z.Warmed39 s.vm) (eT : T.heap = h) {a : Addr} {z : Nat} {f : Nat → Int32} {rest : List Value} (A : Arf Z h a z f) (hd : decode c.code pc = .ok (.arraylength, 1)) (hn : pc + 1 = n) (K : Ends p.tables e below Q F (T.setTop (mkF m n Ls (.int (N z) :: rest)))) : Ends p.tables e below Q F (T.setTop (mkF m pc Ls (.ref a :: rest))) := by
  obtain ⟨-, k, vs, -, A, -⟩ := A
  exact arrLen n X hx hZ eT A hd hn K
theorem nLoad (n : Nat) (v : Int32) (X : Stand p l e R s m args below meth c T locs cells slots) (hx : p.tables.exec = Jvm.exec) (hZ : Z.Warmed39 s.vm) (eT : T.heap = h) {a : Addr} {z x : Nat} {f : Nat → Int32} {rest : List Value} (A : Arf Z h a z f) (hj : x < z) (hv : f x = v) (hd : decode c.code pc = .ok (.iaload, 1)) (hn : pc + 1 = n) (K : Ends p.tables e below Q F (T.setTop (mkF m n Ls (.int v :: rest)))) : Ends p.tables e below Q F (T.setTop (mkF m pc Ls (.int (N x) :: .ref a :: rest))) := by
  obtain ⟨q0, k, vs, hl, A, G⟩ := A
  exact iaload n X hx hZ eT v A (inN hj q0) (by rw [N_idx (by omega), G x hj, hv]) hd hn K
theorem nStore (n : Nat) (X : Stand p l e R s m args below meth c T locs cells slots) (hx : p.tables.exec = Jvm.exec) (hZ : Z.Warmed39 s.vm) (eT : T.heap = h) {a : Addr} {z x : Nat} {v : Int32} {f : Nat → Int32} {rest : List Value} (A : Arf Z h a z f) (hj : x < z) (hd : decode c.code pc = .ok (.iastore, 1)) (hn : pc + 1 = n) (K : ∀ T' h', Stand p l e R s m args below meth c T' (locs ++ [⟨a, x⟩]) cells slots → T'.heap = h' → Wr h h' a x (.int v) → Arf Z h' a z (upd f x v) → Ends p.tables e below Q F (T'.setTop (mkF m n Ls (rest)))) : Ends p.tables e below Q F (T.setTop (mkF m pc Ls (.int v :: .int (N x) :: .ref a :: rest))) := by
  obtain ⟨q0, k, vs, hl, A, G⟩ := A
  have ix : (N x).toNatClampNeg = x := N_idx (by omega)
  refine iastore n X hx hZ eT A (inN hj q0) (by rw [ix]; omega) hd hn ?_
  rw [ix]
  intro T1 h1 X1 e1 W1 A1
  refine K T1 h1 X1 e1 W1 ⟨q0, k, _, by rw [List.length_set, hl], A1, fun i hi => ?_⟩
  by_cases q : i = x
  · subst q
    rw [upd_hit rfl]
    simp [List.getD, hl, hi]
  · rw [upd_miss q, ← G i hi]
    simp [List.getD, List.getElem?_set_ne (Ne.symm q)]
theorem nNew (n cap : Nat) (X : Stand p l e R s m args below meth c T locs cells slots) (hx : p.tables.exec = Jvm.exec) (hZ : Z.Warmed39 s.vm) (w : (Cond.arrayClass .int).before a0 Z = true) (eT : T.heap = h) {z : Nat} {rest : List Value} (hz : z ≤ cap) (hb : cap * 8 ≤ 536870912) (hd : decode c.code pc = .ok (.newarray .int, 2)) (hn : pc + 2 = n) (hc : cells + 1 ≤ R.cells) (hl : slots + cap ≤ R.slots) (K : ∀ T' h' a, a = h.size → Stand p l e R s m args below meth c T' locs (cells + 1) (slots + cap) → T'.heap = h' → Ext h h' → Arf Z h' a z (fun _ => 0) → Ends p.tables e below Q F (T'.setTop (mkF m n Ls (.ref a :: rest)))) : Ends p.tables e below Q F (T.setTop (mkF m pc Ls (.int (N z) :: rest))) := by
  have ix : (N z).toNatClampNeg = z := N_idx (by omega)
  refine newArr n cap X hx hZ (aty := .int) w eT (N_nn (by omega)) (by rw [ix]; exact hz) hb hd hn hc hl ?_
  rw [ix]
  intro T1 h1 a k q X1 e1 E1 A1
  exact K T1 h1 a q X1 e1 E1 ⟨by omega, k, _, List.length_replicate, A1, fun i hi => by simp [List.getD, hi]; rfl⟩
theorem nicmp_lt (nY nN : Nat) (X : Stand p l e R s m args below meth c T locs cells slots) (hx : p.tables.exec = Jvm.exec) {o : Int} {x y : Nat} {rest : List Value} (hd : decode c.code pc = .ok (.if_icmp .lt o, 3)) (hY : 0 ≤ (pc : Int) + o ∧ ((pc : Int) + o).toNat = nY) (hN : pc + 3 = nN) (bx : x < 2147483648) (by' : y < 2147483648) (KY : x < y → Ends p.tables e below Q F (T.setTop (mkF m nY Ls (rest)))) (KN : ¬ x < y → Ends p.tables e below Q F (T.setTop (mkF m nN Ls (rest)))) : Ends p.tables e below Q F (T.setTop (mkF m pc Ls (.int (N y) :: .int (N x) :: rest))) :=
  icmp_lt nY nN X hx hd hY hN (fun q => KY ((N_lt bx by').mp q)) (fun q => KN (fun r => q ((N_lt bx by').mpr r)))
theorem nicmp_ge (nY nN : Nat) (X : Stand p l e R s m args below meth c T locs cells slots) (hx : p.tables.exec = Jvm.exec) {o : Int} {x y : Nat} {rest : List Value} (hd : decode c.code pc = .ok (.if_icmp .ge o, 3)) (hY : 0 ≤ (pc : Int) + o ∧ ((pc : Int) + o).toNat = nY) (hN : pc + 3 = nN) (bx : x < 2147483648) (by' : y < 2147483648) (KY : ¬ x < y → Ends p.tables e below Q F (T.setTop (mkF m nY Ls (rest)))) (KN : x < y → Ends p.tables e below Q F (T.setTop (mkF m nN Ls (rest)))) : Ends p.tables e below Q F (T.setTop (mkF m pc Ls (.int (N y) :: .int (N x) :: rest))) :=
  icmp_ge nY nN X hx hd hY hN (fun q => KY (fun r => q ((N_lt bx by').mpr r))) (fun q => KN ((N_lt bx by').mp q))
theorem nicmp_le (nY nN : Nat) (X : Stand p l e R s m args below meth c T locs cells slots) (hx : p.tables.exec = Jvm.exec) {o : Int} {x y : Nat} {rest : List Value} (hd : decode c.code pc = .ok (.if_icmp .le o, 3)) (hY : 0 ≤ (pc : Int) + o ∧ ((pc : Int) + o).toNat = nY) (hN : pc + 3 = nN) (bx : x < 2147483648) (by' : y < 2147483648) (KY : ¬ y < x → Ends p.tables e below Q F (T.setTop (mkF m nY Ls (rest)))) (KN : y < x → Ends p.tables e below Q F (T.setTop (mkF m nN Ls (rest)))) : Ends p.tables e below Q F (T.setTop (mkF m pc Ls (.int (N y) :: .int (N x) :: rest))) :=
  icmp_le nY nN X hx hd hY hN (fun q => KY (fun r => q ((N_lt by' bx).mpr r))) (fun q => KN ((N_lt by' bx).mp q))
theorem nicmp_ne (nY nN : Nat) (X : Stand p l e R s m args below meth c T locs cells slots) (hx : p.tables.exec = Jvm.exec) {o : Int} {x y : Nat} {rest : List Value} (hd : decode c.code pc = .ok (.if_icmp .ne o, 3)) (hY : 0 ≤ (pc : Int) + o ∧ ((pc : Int) + o).toNat = nY) (hN : pc + 3 = nN) (bx : x < 2147483648) (by' : y < 2147483648) (KY : ¬ x = y → Ends p.tables e below Q F (T.setTop (mkF m nY Ls (rest)))) (KN : x = y → Ends p.tables e below Q F (T.setTop (mkF m nN Ls (rest)))) : Ends p.tables e below Q F (T.setTop (mkF m pc Ls (.int (N y) :: .int (N x) :: rest))) :=
  icmp_ne nY nN X hx hd hY hN (fun q => KY (fun r => q ((N_eq bx by').mpr r))) (fun q => KN ((N_eq bx by').mp q))
theorem nif_eq (nY nN : Nat) (X : Stand p l e R s m args below meth c T locs cells slots) (hx : p.tables.exec = Jvm.exec) {o : Int} {x : Nat} {rest : List Value} (hd : decode c.code pc = .ok (.ifCond .eq o, 3)) (hY : 0 ≤ (pc : Int) + o ∧ ((pc : Int) + o).toNat = nY) (hN : pc + 3 = nN) (bx : x < 2147483648) (KY : x = 0 → Ends p.tables e below Q F (T.setTop (mkF m nY Ls (rest)))) (KN : ¬ x = 0 → Ends p.tables e below Q F (T.setTop (mkF m nN Ls (rest)))) : Ends p.tables e below Q F (T.setTop (mkF m pc Ls (.int (N x) :: rest))) :=
  if_eq nY nN X hx hd hY hN (fun q => KY ((N_eq (y := 0) bx (by omega)).mp q)) (fun q => KN (fun r => q ((N_eq (y := 0) bx (by omega)).mpr r)))
theorem nif_ne (nY nN : Nat) (X : Stand p l e R s m args below meth c T locs cells slots) (hx : p.tables.exec = Jvm.exec) {o : Int} {x : Nat} {rest : List Value} (hd : decode c.code pc = .ok (.ifCond .ne o, 3)) (hY : 0 ≤ (pc : Int) + o ∧ ((pc : Int) + o).toNat = nY) (hN : pc + 3 = nN) (bx : x < 2147483648) (KY : ¬ x = 0 → Ends p.tables e below Q F (T.setTop (mkF m nY Ls (rest)))) (KN : x = 0 → Ends p.tables e below Q F (T.setTop (mkF m nN Ls (rest)))) : Ends p.tables e below Q F (T.setTop (mkF m pc Ls (.int (N x) :: rest))) :=
  if_ne nY nN X hx hd hY hN (fun q => KY (fun r => q ((N_eq (y := 0) bx (by omega)).mpr r))) (fun q => KN ((N_eq (y := 0) bx (by omega)).mp q))
theorem nif_le (nY nN : Nat) (X : Stand p l e R s m args below meth c T locs cells slots) (hx : p.tables.exec = Jvm.exec) {o : Int} {x : Nat} {rest : List Value} (hd : decode c.code pc = .ok (.ifCond .le o, 3)) (hY : 0 ≤ (pc : Int) + o ∧ ((pc : Int) + o).toNat = nY) (hN : pc + 3 = nN) (bx : x < 2147483648) (KY : x = 0 → Ends p.tables e below Q F (T.setTop (mkF m nY Ls (rest)))) (KN : 0 < x → Ends p.tables e below Q F (T.setTop (mkF m nN Ls (rest)))) : Ends p.tables e below Q F (T.setTop (mkF m pc Ls (.int (N x) :: rest))) :=
  if_le nY nN X hx hd hY hN (fun q => KY (Nat.eq_zero_of_not_pos fun r => q ((N_lt (x := 0) (by omega) bx).mpr r))) (fun q => KN ((N_lt (x := 0) (by omega) bx).mp q))
end Walk6
end Jvm.Own

namespace Jvm.Own
open Jvm Sem ClassFile Op Lib Jvm.Stand Jvm.Free Jvm.LawKit Jvm.RoadKit Bundle
section Walk7
variable {p : Program} {l : Launch} {e : Env} {R : Room} {s : State} {m : MethodId} {args : Array Value} {below : List Frame} {meth : Method} {c : Code} {T : State} {locs : List Loc} {cells slots : Nat} {Q : Option Value → Heap → List Loc → Prop} {F : Outcome → State → List Loc → Prop} {C S : Nat} {pc : Nat} {Ls : Array Slot} {st : List Value} {Z : State} {a0 : Array Value} {h : Heap}
end Walk7
end Jvm.Own

namespace Jvm.Pilot.@@N@@
open Jvm Jvm.ClassFile Sem Op Lib Jvm.Free Jvm.Stand Jvm.LawKit Jvm.RoadKit Bundle Jvm.Pilot.@@N@@.Jvm.D
theorem pd_0 : parseMethodDescriptor "(II)I" = some ⟨[.int, .int], some .int⟩ := by decide +kernel
theorem pd_1 : parseMethodDescriptor "(JJ)J" = some ⟨[.long, .long], some .long⟩ := by decide +kernel
theorem pd_2 : parseMethodDescriptor "(I)V" = some ⟨[.int], none⟩ := by decide +kernel
theorem pd_3 : parseMethodDescriptor "([I)V" = some ⟨[(.array .int)], none⟩ := by decide +kernel
theorem pd_4 : parseMethodDescriptor "()[I" = some ⟨[], some (.array .int)⟩ := by decide +kernel
theorem pd_5 : parseMethodDescriptor "(II)V" = some ⟨[.int, .int], none⟩ := by decide +kernel
theorem pd_6 : parseMethodDescriptor "([II)I" = some ⟨[(.array .int), .int], some .int⟩ := by decide +kernel
theorem pd_7 : parseMethodDescriptor "([IIII)I" = some ⟨[(.array .int), .int, .int, .int], some .int⟩ := by decide +kernel
theorem pd_8 : parseMethodDescriptor "([III)V" = some ⟨[(.array .int), .int, .int], none⟩ := by decide +kernel
def own_L (Z : State) (h : Heap) (t nx pv lb : Addr) (n : Nat) (fs : Int32) (fN fP : Nat → Int32) : Prop := Exa Z h t "com/example/leveler/leveler/crossing/OrderedList" ∧ Fld Z h t "com/example/leveler/leveler/crossing/OrderedList" "next" "[I" (.ref nx) ∧ Fld Z h t "com/example/leveler/leveler/crossing/OrderedList" "previous" "[I" (.ref pv) ∧ Fld Z h t "com/example/leveler/leveler/crossing/OrderedList" "labels" "[J" (.ref lb) ∧ Fld Z h t "com/example/leveler/leveler/crossing/OrderedList" "first" "I" (.int fs) ∧ Own.Arf Z h nx n fN ∧ Own.Arf Z h pv n fP ∧ Own.Ax Z h lb .long (Own.N n)
def own_D (n0 : Nat) (t nx pv lb : Addr) : Prop := t ≠ nx ∧ t ≠ pv ∧ t ≠ lb ∧ nx ≠ pv ∧ nx ≠ lb ∧ pv ≠ lb ∧ n0 ≤ t ∧ n0 ≤ nx ∧ n0 ≤ pv ∧ n0 ≤ lb

def own_Or (n' n : Nat) (ord : Nat → Nat) : Prop := ∀ q, q < n' → ord q < n ∧ ∀ q', q' < n' → ord q = ord q' → q = q'
def own_rmO (ord : Nat → Nat) (q0 : Nat) : Nat → Nat := fun q => if q < q0 then ord q else ord (q + 1)
def own_inO (ord : Nat → Nat) (q0 i : Nat) : Nat → Nat := fun q => if q < q0 then ord q else if q = q0 then i else ord (q - 1)
def own_e (n : Nat) (o : Nat → Nat) (k : Nat) : Int32 := if k < n then Own.N (o k) else -1
def own_p (o : Nat → Nat) (k : Nat) : Int32 := if k = 0 then -1 else Own.N (o (k - 1))
/-- the links of the order o -/
def own_LL (n : Nat) (o : Nat → Nat) (fN fP : Nat → Int32) : Prop := ∀ k, k < n → fN (o k) = own_e n o (k + 1) ∧ fP (o k) = own_p o k
theorem own_e_lt {n k : Nat} {o : Nat → Nat} (h : k < n) : own_e n o k = Own.N (o k) := if_pos h
theorem own_e_ge {n k : Nat} {o : Nat → Nat} (h : ¬ k < n) : own_e n o k = -1 := if_neg h
theorem own_p_0 {o : Nat → Nat} {k : Nat} (h : k = 0) : own_p o k = -1 := if_pos h
theorem own_p_s {o : Nat → Nat} {k : Nat} (h : ¬ k = 0) : own_p o k = Own.N (o (k - 1)) := if_neg h
theorem own_rm_lt {o : Nat → Nat} {a q : Nat} (h : q < a) : own_rmO o a q = o q := if_pos h
theorem own_rm_ge {o : Nat → Nat} {a q : Nat} (h : ¬ q < a) : own_rmO o a q = o (q + 1) := if_neg h
theorem own_in_lt {o : Nat → Nat} {p x q : Nat} (h : q < p) : own_inO o p x q = o q := if_pos h
theorem own_in_eq {o : Nat → Nat} {p x q : Nat} (h : q = p) : own_inO o p x q = x := by rw [own_inO, if_neg (by omega), if_pos h]
theorem own_in_gt {o : Nat → Nat} {p x q : Nat} (h : p < q) : own_inO o p x q = o (q - 1) := by rw [own_inO, if_neg (by omega), if_neg (by omega)]
theorem own_rm_Or {n' n : Nat} {ord : Nat → Nat} (H : own_Or n' n ord) {q0 : Nat} (h : q0 < n') : own_Or (n' - 1) n (own_rmO ord q0) ∧ ∀ q, q < n' - 1 → own_rmO ord q0 q ≠ ord q0 := by
  have key : ∀ q, q < n' - 1 → ∃ r, r < n' ∧ r ≠ q0 ∧ own_rmO ord q0 q = ord r ∧ r = if q < q0 then q else q + 1 := by
    intro q hq
    by_cases c : q < q0
    · exact ⟨q, by omega, by omega, by rw [own_rmO, if_pos c], by rw [if_pos c]⟩
    · exact ⟨q + 1, by omega, by omega, by rw [own_rmO, if_neg c], by rw [if_neg c]⟩
  refine ⟨fun q hq => ?_, fun q hq => ?_⟩
  · obtain ⟨r, r1, r2, r3, r4⟩ := key q hq
    refine ⟨by rw [r3]; exact (H r r1).1, fun q' hq' e => ?_⟩
    obtain ⟨s, s1, s2, s3, s4⟩ := key q' hq'
    rw [r3, s3] at e
    have := (H r r1).2 s s1 e
    by_cases c : q < q0 <;> by_cases d : q' < q0 <;> simp only [c, d, if_true, if_false] at r4 s4 <;> omega
  · obtain ⟨r, r1, r2, r3, r4⟩ := key q hq
    rw [r3]
    exact fun e => r2 ((H r r1).2 q0 h e)
theorem own_in_Or {n' n : Nat} {ord : Nat → Nat} (H : own_Or n' n ord) {q0 i : Nat} (h : q0 ≤ n') (hi : i < n) (hn : ∀ q, q < n' → ord q ≠ i) : own_Or (n' + 1) n (own_inO ord q0 i) := by
  intro q hq
  by_cases c : q = q0
  · have e : own_inO ord q0 i q = i := by rw [own_inO, if_neg (by omega), if_pos c]
    rw [e]
    refine ⟨hi, fun q' hq' z => ?_⟩
    by_cases c' : q' = q0
    · omega
    · exfalso
      by_cases d : q' < q0
      · rw [own_inO, if_pos d] at z; exact hn q' (by omega) z.symm
      · rw [own_inO, if_neg d, if_neg c'] at z; exact hn (q' - 1) (by omega) z.symm
  · have key : ∀ q, q < n' + 1 → q ≠ q0 → ∃ r, r < n' ∧ own_inO ord q0 i q = ord r ∧ r = if q < q0 then q else q - 1 := by
      intro q hq c
      by_cases d : q < q0
      · exact ⟨q, by omega, by rw [own_inO, if_pos d], by rw [if_pos d]⟩
      · exact ⟨q - 1, by omega, by rw [own_inO, if_neg d, if_neg c], by rw [if_neg d]⟩
    obtain ⟨r, r1, r2, r3⟩ := key q hq c
    refine ⟨by rw [r2]; exact (H r r1).1, fun q' hq' z => ?_⟩
    by_cases c' : q' = q0
    · exfalso
      rw [r2, own_inO, if_neg (by omega), if_pos c'] at z
      exact hn r r1 z
    · obtain ⟨s, s1, s2, s3⟩ := key q' hq' c'
      rw [r2, s2] at z
      have := (H r r1).2 s s1 z
      by_cases d : q < q0 <;> by_cases d' : q' < q0 <;> simp only [d, d', if_true, if_false] at r3 s3 <;> omega
theorem own_unlink {n m a : Nat} {o : Nat → Nat} {fN fP fN1 fP1 : Nat → Int32} {f1 : Int32} (O : own_Or n m o) (H : own_LL n o fN fP) (ha : a < n) (hN : ∀ i, fN1 i = if a ≠ 0 ∧ i = o (a - 1) then own_e n o (a + 1) else fN i) (hP : ∀ i, fP1 i = if a + 1 < n ∧ i = o (a + 1) then own_p o a else fP i) (hf : f1 = if a = 0 then own_e n o 1 else own_e n o 0) : own_LL (n - 1) (own_rmO o a) fN1 fP1 ∧ f1 = own_e (n - 1) (own_rmO o a) 0 := by
  refine ⟨fun k hk => ?_, ?_⟩
  · by_cases c : k < a
    · rw [own_rm_lt c, hN, hP]
      have e1 : ¬ (a + 1 < n ∧ o k = o (a + 1)) := fun z => by have := (O k (by omega)).2 (a + 1) z.1 z.2; omega
      rw [if_neg e1]
      refine ⟨?_, ?_⟩
      · by_cases d : k = a - 1
        · rw [if_pos ⟨by omega, by rw [d]⟩]
          by_cases g : a + 1 < n
          · rw [own_e_lt g, own_e_lt (by omega), own_rm_ge (by omega)]; congr 2; omega
          · rw [own_e_ge g, own_e_ge (by omega)]
        · rw [if_neg (fun z => d ((O k (by omega)).2 (a - 1) (by omega) z.2)), (H k (by omega)).1, own_e_lt (by omega), own_e_lt (by omega), own_rm_lt (by omega)]
      · rw [(H k (by omega)).2]
        by_cases g : k = 0
        · rw [own_p_0 g, own_p_0 g]
        · rw [own_p_s g, own_p_s g, own_rm_lt (by omega)]
    · rw [own_rm_ge c, hN, hP]
      have e1 : ¬ (a ≠ 0 ∧ o (k + 1) = o (a - 1)) := fun z => by have := (O (k + 1) (by omega)).2 (a - 1) (by omega) z.2; omega
      rw [if_neg e1]
      refine ⟨?_, ?_⟩
      · rw [(H (k + 1) (by omega)).1]
        by_cases g : k + 1 + 1 < n
        · rw [own_e_lt g, own_e_lt (by omega), own_rm_ge (by omega)]
        · rw [own_e_ge g, own_e_ge (by omega)]
      · by_cases d : k = a
        · rw [if_pos ⟨by omega, by rw [d]⟩, d]
          by_cases g : a = 0
          · rw [own_p_0 g, own_p_0 g]
          · rw [own_p_s g, own_p_s g, own_rm_lt (by omega)]
        · rw [if_neg (fun z => d (by have := (O (k + 1) (by omega)).2 (a + 1) z.1 z.2; omega)), (H (k + 1) (by omega)).2, own_p_s (by omega), own_p_s (by omega), own_rm_ge (by omega)]; congr 2; omega
  · rw [hf]
    by_cases g : a = 0
    · rw [if_pos g]
      by_cases d : 1 < n
      · rw [own_e_lt d, own_e_lt (by omega), own_rm_ge (by omega)]
      · rw [own_e_ge d, own_e_ge (by omega)]
    · rw [if_neg g, own_e_lt (by omega), own_e_lt (by omega), own_rm_lt (by omega)]
theorem own_link {n1 m p x : Nat} {o : Nat → Nat} {fN fP fN1 fP1 : Nat → Int32} {f f1 : Int32} (O : own_Or n1 m o) (hx : ∀ q, q < n1 → o q ≠ x) (H : own_LL n1 o fN fP) (hp : p ≤ n1) (hN : ∀ i, fN1 i = if p ≠ 0 ∧ i = o (p - 1) then Own.N x else if i = x then own_e n1 o p else fN i) (hP : ∀ i, fP1 i = if p < n1 ∧ i = o p then Own.N x else if i = x then own_p o p else fP i) (hf : f = own_e n1 o 0) (hf1 : f1 = if p = 0 then Own.N x else f) : own_LL (n1 + 1) (own_inO o p x) fN1 fP1 ∧ f1 = own_e (n1 + 1) (own_inO o p x) 0 := by
  refine ⟨fun k hk => ?_, ?_⟩
  · rcases Nat.lt_trichotomy k p with c | c | c
    · rw [own_in_lt c]
      refine ⟨?_, ?_⟩
      · rw [hN]
        by_cases d : k = p - 1
        · rw [if_pos ⟨by omega, by rw [d]⟩, own_e_lt (n := n1 + 1) (by omega), own_in_eq (by omega)]
        · rw [if_neg (fun z => d ((O k (by omega)).2 (p - 1) (by omega) z.2)), if_neg (hx k (by omega)), (H k (by omega)).1, own_e_lt (n := n1) (by omega), own_e_lt (n := n1 + 1) (by omega), own_in_lt (by omega)]
      · rw [hP, if_neg (fun z => by have := (O k (by omega)).2 p z.1 z.2; omega), if_neg (hx k (by omega)), (H k (by omega)).2]
        by_cases g : k = 0
        · rw [own_p_0 g, own_p_0 g]
        · rw [own_p_s g, own_p_s g, own_in_lt (by omega)]
    · rw [own_in_eq c]
      refine ⟨?_, ?_⟩
      · rw [hN, if_neg (fun z => hx (p - 1) (by omega) z.2.symm), if_pos rfl]
        by_cases d : p < n1
        · rw [own_e_lt d, own_e_lt (by omega), own_in_gt (by omega)]; congr 2; omega
        · rw [own_e_ge d, own_e_ge (by omega)]
      · rw [hP, if_neg (fun z => hx p z.1 z.2.symm), if_pos rfl]
        by_cases g : p = 0
        · rw [own_p_0 g, own_p_0 (by omega)]
        · rw [own_p_s g, own_p_s (by omega), own_in_lt (by omega)]; congr 2; omega
    · rw [own_in_gt c]
      refine ⟨?_, ?_⟩
      · rw [hN, if_neg (fun z => by have := (O (k - 1) (by omega)).2 (p - 1) (by omega) z.2; omega), if_neg (hx (k - 1) (by omega)), (H (k - 1) (by omega)).1]
        by_cases d : k < n1
        · rw [own_e_lt (by omega), own_e_lt (by omega), own_in_gt (by omega)]; congr 2; omega
        · rw [own_e_ge (by omega), own_e_ge (by omega)]
      · rw [hP]
        by_cases d : k - 1 = p
        · rw [if_pos ⟨by omega, by rw [d]⟩, own_p_s (by omega), own_in_eq (by omega)]
        · rw [if_neg (fun z => d ((O (k - 1) (by omega)).2 p z.1 z.2)), if_neg (hx (k - 1) (by omega)), (H (k - 1) (by omega)).2, own_p_s (by omega), own_p_s (by omega), own_in_gt (by omega)]
  · rw [hf1, own_e_lt (by omega)]
    by_cases g : p = 0
    · rw [if_pos g, own_in_eq (by omega)]
    · rw [if_neg g, hf, own_e_lt (by omega), own_in_lt (by omega)]
theorem own_nat (v : Int32) (h : 0 ≤ v.toInt) : ∃ a : Nat, v = Own.N a ∧ (a : Int) = v.toInt ∧ a < 2147483648 := by
  have b : v.toInt < 2147483648 := by have := v.toInt_lt; simpa using this
  exact ⟨v.toInt.toNat, Own.N_of (by omega) (by omega), by omega, by omega⟩
theorem own_u2i (u : UInt32) : u.toInt32 = Own.N u.toNat := by
  show _ = Int32.ofNat _
  rw [← Int32.toBitVec_inj]; simp
theorem own_ush (x : Int32) (k : Nat) (hk : k < 32) (h0 : 1 ≤ k) (kk : Int32) (hkk : (kk &&& 31).toUInt32 = UInt32.ofNat k) : ∃ a : Nat, (x.toUInt32 >>> (kk &&& 31).toUInt32).toInt32 = Own.N a ∧ a < 2147483648 := by
  rw [hkk]
  refine ⟨(x.toUInt32 >>> UInt32.ofNat k).toNat, own_u2i _, ?_⟩
  rw [UInt32.toNat_shiftRight]
  have e : (UInt32.ofNat k).toNat % 32 = k := by simp; omega
  rw [e, Nat.shiftRight_eq_div_pow]
  have := x.toUInt32.toNat_lt
  have h2 : 2 ^ 1 ≤ 2 ^ k := Nat.pow_le_pow_right (by omega) h0
  refine Nat.lt_of_le_of_lt (Nat.div_le_div_left h2 (by omega)) ?_
  omega
theorem own_msk (x m : Int32) (k : Nat) (hk : k ≤ 31) (hm : m.toBitVec.toNat = 2 ^ k - 1) : ∃ a : Nat, x &&& m = Own.N a ∧ a < 2 ^ k := by
  have h := c_mask x m k hk hm
  have p : 0 < 2 ^ k := Nat.two_pow_pos k
  obtain ⟨a, h1, h2, h3⟩ := own_nat (x &&& m) (by rw [h]; exact Int.emod_nonneg _ (by omega))
  have q := Int.emod_lt_of_pos x.toInt (b := ((2 ^ k : Nat) : Int)) (by omega)
  exact ⟨a, h1, by omega⟩
theorem own_l0 {x : Nat} (h : 1 ≤ x) (h' : x < 2147483648) : (Own.N x).toInt64 ≠ 0 := fun q => by
  have := congrArg Int64.toInt q
  rw [Int32.toInt_toInt64, Own.N_toInt h'] at this
  have e : (0 : Int64).toInt = 0 := by decide
  omega
theorem own_l1 {c : Int64} {k : Nat} (h : c.toInt = (k : Int)) (hk : k < 1000) : (c + 1).toInt = ((k + 1 : Nat) : Int) := by
  rw [Int64.toInt_add, h, show (1 : Int64).toInt = 1 from by decide]
  rw [Int.bmod_eq_of_le (by omega) (by omega)]; omega
def own_swp (pi : Nat → Nat) (i j q : Nat) : Nat := if q = j then pi i else if q = i then pi j else pi q
theorem own_sw_Or {pi : Nat → Nat} {m i j : Nat} (P : own_Or m m pi) (hi : i < m) (hj : j < m) : own_Or m m (own_swp pi i j) := by
  have key : ∀ q, q < m → ∃ r, r < m ∧ own_swp pi i j q = pi r ∧ r = if q = j then i else if q = i then j else q := by
    intro q hq
    unfold own_swp
    by_cases c : q = j
    · exact ⟨i, hi, by rw [if_pos c], by rw [if_pos c]⟩
    · by_cases d : q = i
      · exact ⟨j, hj, by rw [if_neg c, if_pos d], by rw [if_neg c, if_pos d]⟩
      · exact ⟨q, hq, by rw [if_neg c, if_neg d], by rw [if_neg c, if_neg d]⟩
  intro q hq
  obtain ⟨r, r1, r2, r3⟩ := key q hq
  refine ⟨by rw [r2]; exact (P r r1).1, fun q' hq' e => ?_⟩
  obtain ⟨s, s1, s2, s3⟩ := key q' hq'
  rw [r2, s2] at e
  have z := (P r r1).2 s s1 e
  rw [r3, s3] at z
  repeat' split at z
  all_goals omega
theorem own_sw_f {pi : Nat → Nat} {fp : Nat → Int32} {i j : Nat} (h : ∀ k, k < 4 → fp k = Own.N (pi k)) (hi : i < 4) (hj : j < 4) : ∀ k, k < 4 → Own.upd (Own.upd fp i (fp j)) j (fp i) k = Own.N (own_swp pi i j k) := by
  intro k hk
  unfold own_swp
  by_cases c : k = j
  · rw [if_pos c, Own.upd_hit c, h i hi]
  · rw [if_neg c, Own.upd_miss c]
    by_cases d : k = i
    · rw [if_pos d, Own.upd_hit d, h j hj]
    · rw [if_neg d, Own.upd_miss d, h k hk]
theorem own_sw_fx {pi : Nat → Nat} {n i j : Nat} (h : ∀ k, n ≤ k → k < 4 → pi k = k) (hi : i < n) (hj : j < n) : ∀ k, n ≤ k → k < 4 → own_swp pi i j k = k := by
  intro k h1 h2
  unfold own_swp
  rw [if_neg (by omega), if_neg (by omega)]; exact h k h1 h2
theorem own_fix {pi : Nat → Nat} {n : Nat} (P : own_Or 4 4 pi) (h : ∀ k, n ≤ k → k < 4 → pi k = k) (hn : n ≤ 4) : own_Or n n pi := by
  intro q hq
  refine ⟨?_, fun q' hq' e => (P q (by omega)).2 q' (by omega) e⟩
  have a := (P q (by omega)).1
  by_cases c : pi q < n
  · exact c
  · have := (P q (by omega)).2 (pi q) a (h (pi q) (by omega) a).symm
    omega
theorem own_sur {pi : Nat → Nat} {n x : Nat} (hn : n ≤ 4) (P : own_Or n n pi) (hx : x < n) : ∃ a, a < n ∧ pi a = x := by
  have d : ∀ i j, i < n → j < n → i ≠ j → pi i ≠ pi j := fun i j hi hj h e => h ((P i hi).2 j hj e)
  have b := fun i hi => (P i hi).1
  obtain rfl | rfl | rfl | rfl : n = 1 ∨ n = 2 ∨ n = 3 ∨ n = 4 := by omega
  · have b0 := b 0 (by omega)
    exact ⟨0, by omega, by omega⟩
  · have b0 := b 0 (by omega); have b1 := b 1 (by omega); have d01 := d 0 1 (by omega) (by omega) (by omega)
    by_cases c : pi 0 = x
    · exact ⟨0, by omega, c⟩
    · exact ⟨1, by omega, by omega⟩
  · have b0 := b 0 (by omega); have b1 := b 1 (by omega); have b2 := b 2 (by omega); have d01 := d 0 1 (by omega) (by omega) (by omega); have d02 := d 0 2 (by omega) (by omega) (by omega); have d12 := d 1 2 (by omega) (by omega) (by omega)
    by_cases c : pi 0 = x
    · exact ⟨0, by omega, c⟩
    · by_cases c1 : pi 1 = x
      · exact ⟨1, by omega, c1⟩
      · exact ⟨2, by omega, by omega⟩
  · have b0 := b 0 (by omega); have b1 := b 1 (by omega); have b2 := b 2 (by omega); have b3 := b 3 (by omega); have d01 := d 0 1 (by omega) (by omega) (by omega); have d02 := d 0 2 (by omega) (by omega) (by omega); have d12 := d 1 2 (by omega) (by omega) (by omega); have d03 := d 0 3 (by omega) (by omega) (by omega); have d13 := d 1 3 (by omega) (by omega) (by omega); have d23 := d 2 3 (by omega) (by omega) (by omega)
    clear P d b
    by_cases c : pi 0 = x
    · exact ⟨0, by omega, c⟩
    · by_cases c1 : pi 1 = x
      · exact ⟨1, by omega, c1⟩
      · by_cases c2 : pi 2 = x
        · exact ⟨2, by omega, c2⟩
        · exact ⟨3, by omega, by omega⟩
theorem own_rm_pos {o : Nat → Nat} {n a b : Nat} (ha : a < n) (hb : b < n) (h : b ≠ a) : ∃ q, q < n - 1 ∧ own_rmO o a q = o b := by
  by_cases c : b < a
  · exact ⟨b, by omega, own_rm_lt c⟩
  · exact ⟨b - 1, by omega, by rw [own_rm_ge (by omega), show b - 1 + 1 = b from by omega]⟩
def own_room (Z : State) (room : Addr) (kr : ClassId) : Prop := Arv Z Z.heap room kr .long (63 : Int32) [(.long (1 : Int64)), (.long (1 : Int64)), (.long (2 : Int64)), (.long (4 : Int64)), (.long (6 : Int64)), (.long (10 : Int64)), (.long (16 : Int64)), (.long (26 : Int64)), (.long (42 : Int64)), (.long (68 : Int64)), (.long (109 : Int64)), (.long (175 : Int64)), (.long (281 : Int64)), (.long (450 : Int64)), (.long (720 : Int64)), (.long (1152 : Int64)), (.long (1844 : Int64)), (.long (2951 : Int64)), (.long (4722 : Int64)), (.long (7555 : Int64)), (.long (12089 : Int64)), (.long (19342 : Int64)), (.long (30948 : Int64)), (.long (49517 : Int64)), (.long (79228 : Int64)), (.long (126765 : Int64)), (.long (202824 : Int64)), (.long (324518 : Int64)), (.long (519229 : Int64)), (.long (830767 : Int64)), (.long (1329227 : Int64)), (.long (2126764 : Int64)), (.long (3402823 : Int64)), (.long (5444517 : Int64)), (.long (8711228 : Int64)), (.long (13937965 : Int64)), (.long (22300745 : Int64)), (.long (35681192 : Int64)), (.long (57089907 : Int64)), (.long (91343852 : Int64)), (.long (146150163 : Int64)), (.long (233840261 : Int64)), (.long (374144419 : Int64)), (.long (598631070 : Int64)), (.long (957809713 : Int64)), (.long (1532495540 : Int64)), (.long (2451992865 : Int64)), (.long (3923188584 : Int64)), (.long (6277101735 : Int64)), (.long (10043362776 : Int64)), (.long (16069380442 : Int64)), (.long (25711008708 : Int64)), (.long (41137613933 : Int64)), (.long (65820182292 : Int64)), (.long (105312291668 : Int64)), (.long (168499666669 : Int64)), (.long (269599466671 : Int64)), (.long (431359146674 : Int64)), (.long (690174634679 : Int64)), (.long (1104279415486 : Int64)), (.long (1766847064778 : Int64)), (.long (2826955303645 : Int64)), (.long (4523128485832 : Int64))] (.long (0 : Int64))

theorem d3_0 : decode jdk_29_method_65_code 0 = .ok (.iload_n 0, 1) := by decide +kernel
theorem d3_1 : decode jdk_29_method_65_code 1 = .ok (.iload_n 1, 1) := by decide +kernel
theorem d3_2 : decode jdk_29_method_65_code 2 = .ok (.if_icmp .lt 7, 3) := by decide +kernel
theorem d3_5 : decode jdk_29_method_65_code 5 = .ok (.iload_n 0, 1) := by decide +kernel
theorem d3_6 : decode jdk_29_method_65_code 6 = .ok (.goto 4, 3) := by decide +kernel
theorem d3_9 : decode jdk_29_method_65_code 9 = .ok (.iload_n 1, 1) := by decide +kernel
theorem d3_10 : decode jdk_29_method_65_code 10 = .ok (.ireturn, 1) := by decide +kernel
set_option maxRecDepth 65536 in
set_option maxHeartbeats 40000000 in
theorem m3 (l : Launch) (Z : State) (a0 : Array Value) (w : ∀ (i : Nat) {d : Jvm.Cond}, tables_1[i]? = some d → d.before a0 Z = true)  (x y : Nat) (h0 : Heap) (bx : x < 2147483648) (by' : y < 2147483648) :
    Own.Met l Z (⟨"java/lang/Math", "max", "(II)I"⟩ : MethodName) jdk_29_method_65_code 2 (some .int) [] ({ frames := 0, cells := 0, slots := 0, locals := 0 } : Room) #[(.int (Own.N (x))), (.int (Own.N (y)))] h0 (fun v h L => v = some (.int (Own.N (max x y))) ∧ h = h0 ∧ L = []) := by
  refine Own.Met.of (Jvm.Free.JP.mathPlain rfl (by decide +kernel)) ?_
  intro p e s m below meth c T0 hx hby hml hown hnm hret hlk hZ X0 e0
  have hown : s.vm.findClass "java/lang/Math" = some m.cls := hown
  have hml : c.maxLocals = 2 := hml
  have hnm : meth.name = "max" := hnm
  have ef : entryFrame m #[(.int (Own.N (x))), (.int (Own.N (y)))] 2 = mkF m 0 #[.val (.int (Own.N (x))), .val (.int (Own.N (y)))] [] := by first | (simp [entryFrame, mkF, argsToLocals, Value.category]; done) | rfl
  rw [ef]
  refine Own.iloadN 1 X0 hx (hb hby d3_0) rfl rfl ?_
  refine Own.iloadN 2 X0 hx (hb hby d3_1) rfl rfl ?_
  refine Own.nicmp_lt 9 5 X0 hx (hb hby d3_2) (by decide) rfl (by omega) (by omega) (fun q => ?_) (fun q => ?_)
  ·
    refine Own.iloadN 10 X0 hx (hb hby d3_9) rfl rfl ?_
    refine Own.retInt X0 hx hlk hret (hb hby d3_10) (by decide) (by decide) ?_
    exact ⟨by rw [show max x y = y from by omega], e0, rfl⟩
  ·
    refine Own.iloadN 6 X0 hx (hb hby d3_5) rfl rfl ?_
    refine Own.goto 10 X0 hx (hb hby d3_6) (by decide) ?_
    refine Own.retInt X0 hx hlk hret (hb hby d3_10) (by decide) (by decide) ?_
    exact ⟨by rw [show max x y = x from by omega], e0, rfl⟩
theorem d11_0 : decode jdk_29_method_66_code 0 = .ok (.lload_n 0, 1) := by decide +kernel
theorem d11_1 : decode jdk_29_method_66_code 1 = .ok (.lload_n 2, 1) := by decide +kernel
theorem d11_2 : decode jdk_29_method_66_code 2 = .ok (.lcmp, 1) := by decide +kernel
theorem d11_3 : decode jdk_29_method_66_code 3 = .ok (.ifCond .lt 7, 3) := by decide +kernel
theorem d11_6 : decode jdk_29_method_66_code 6 = .ok (.lload_n 0, 1) := by decide +kernel
theorem d11_7 : decode jdk_29_method_66_code 7 = .ok (.goto 4, 3) := by decide +kernel
theorem d11_10 : decode jdk_29_method_66_code 10 = .ok (.lload_n 2, 1) := by decide +kernel
theorem d11_11 : decode jdk_29_method_66_code 11 = .ok (.lreturn, 1) := by decide +kernel
set_option maxRecDepth 65536 in
set_option maxHeartbeats 40000000 in
theorem m11 (l : Launch) (Z : State) (a0 : Array Value) (w : ∀ (i : Nat) {d : Jvm.Cond}, tables_1[i]? = some d → d.before a0 Z = true) (x : Int64) (y : Int64)  (h0 : Heap)  :
    Own.Met l Z (⟨"java/lang/Math", "max", "(JJ)J"⟩ : MethodName) jdk_29_method_66_code 4 (some .long) [] ({ frames := 0, cells := 0, slots := 0, locals := 0 } : Room) #[(.long x), (.long y)] h0 (fun v h L => ∃ r, v = some (.long r) ∧ h = h0 ∧ L = []) := by
  refine Own.Met.of (Jvm.Free.JP.mathPlain rfl (by decide +kernel)) ?_
  intro p e s m below meth c T0 hx hby hml hown hnm hret hlk hZ X0 e0
  have hown : s.vm.findClass "java/lang/Math" = some m.cls := hown
  have hml : c.maxLocals = 4 := hml
  have hnm : meth.name = "max" := hnm
  have ef : entryFrame m #[(.long x), (.long y)] 4 = mkF m 0 #[.val (.long x), .second, .val (.long y), .second] [] := by first | (simp [entryFrame, mkF, argsToLocals, Value.category]; done) | rfl
  rw [ef]
  refine Own.lloadN 1 X0 hx (hb hby d11_0) rfl rfl ?_
  refine Own.lloadN 2 X0 hx (hb hby d11_1) rfl rfl ?_
  refine Own.lif_lt 10 6 X0 hx (hb hby d11_2) rfl (hb hby d11_3) (by decide) rfl (fun q => ?_) (fun q => ?_)
  ·
    refine Own.lloadN 11 X0 hx (hb hby d11_10) rfl rfl ?_
    refine Own.retLong X0 hx hlk hret (hb hby d11_11) (by decide) (by decide) ?_
    exact ⟨_, rfl, e0, rfl⟩
  ·
    refine Own.lloadN 7 X0 hx (hb hby d11_6) rfl rfl ?_
    refine Own.goto 11 X0 hx (hb hby d11_7) (by decide) ?_
    refine Own.retLong X0 hx hlk hret (hb hby d11_11) (by decide) (by decide) ?_
    exact ⟨_, rfl, e0, rfl⟩
theorem d5_0 : decode method_3_code 0 = .ok (.aload_n 0, 1) := by decide +kernel
theorem d5_1 : decode method_3_code 1 = .ok (.iload_n 1, 1) := by decide +kernel
theorem d5_2 : decode method_3_code 2 = .ok (.iaload, 1) := by decide +kernel
theorem d5_3 : decode method_3_code 3 = .ok (.istore_n 3, 1) := by decide +kernel
theorem d5_4 : decode method_3_code 4 = .ok (.aload_n 0, 1) := by decide +kernel
theorem d5_5 : decode method_3_code 5 = .ok (.iload_n 1, 1) := by decide +kernel
theorem d5_6 : decode method_3_code 6 = .ok (.aload_n 0, 1) := by decide +kernel
theorem d5_7 : decode method_3_code 7 = .ok (.iload_n 2, 1) := by decide +kernel
theorem d5_8 : decode method_3_code 8 = .ok (.iaload, 1) := by decide +kernel
theorem d5_9 : decode method_3_code 9 = .ok (.iastore, 1) := by decide +kernel
theorem d5_10 : decode method_3_code 10 = .ok (.aload_n 0, 1) := by decide +kernel
theorem d5_11 : decode method_3_code 11 = .ok (.iload_n 2, 1) := by decide +kernel
theorem d5_12 : decode method_3_code 12 = .ok (.iload_n 3, 1) := by decide +kernel
theorem d5_13 : decode method_3_code 13 = .ok (.iastore, 1) := by decide +kernel
theorem d5_14 : decode method_3_code 14 = .ok (.return_, 1) := by decide +kernel
set_option maxRecDepth 65536 in
set_option maxHeartbeats 40000000 in
theorem m5 (l : Launch) (Z : State) (a0 : Array Value) (w : ∀ (i : Nat) {d : Jvm.Cond}, tables_1[i]? = some d → d.before a0 Z = true) (a : Addr) (ii jj n0 : Nat) (ff : Nat → Int32) (h0 : Heap) (Z0 : n0 ≤ h0.size) (g_a : n0 ≤ a) (C0 : Own.Arf Z h0 a 4 ff) (hi : ii < 4) (hj : jj < 4) :
    Own.Met l Z (⟨"com/example/leveler/leveler/crossing/OrderedListToArrayPinLaw", "swap", "([III)V"⟩ : MethodName) method_3_code 4 none [] ({ frames := 0, cells := 0, slots := 0, locals := 0 } : Room) #[(.ref a), (.int (Own.N (ii))), (.int (Own.N (jj)))] h0 (fun v h L => v = none ∧ Fr n0 L ∧ Keep h0 h [a] ∧ Own.Arf Z h a 4 (Own.upd (Own.upd ff ii (ff jj)) jj (ff ii))) := by
  refine Own.Met.of (plainFor_of_name (by first | (simp [plainName, overriddenIn]; done) | decide +kernel)) ?_
  intro p e s m below meth c T0 hx hby hml hown hnm hret hlk hZ X0 e0
  have hown : s.vm.findClass "com/example/leveler/leveler/crossing/OrderedListToArrayPinLaw" = some m.cls := hown
  have hml : c.maxLocals = 4 := hml
  have hnm : meth.name = "swap" := hnm
  have ef : entryFrame m #[(.ref a), (.int (Own.N (ii))), (.int (Own.N (jj)))] 4 = mkF m 0 #[.val (.ref a), .val (.int (Own.N (ii))), .val (.int (Own.N (jj))), .unset] [] := by first | (simp [entryFrame, mkF, argsToLocals, Value.category]; done) | rfl
  rw [ef]
  have N0 := Fr.nil n0
  refine Own.aloadN 1 X0 hx (hb hby d5_0) rfl rfl rfl ?_
  refine Own.iloadN 2 X0 hx (hb hby d5_1) rfl rfl ?_
  refine Own.nLoad 3 ((ff ii)) X0 hx hZ e0 C0 (by omega) rfl (hb hby d5_2) rfl ?_
  refine Own.istoreNV 4 #[.val (.ref a), .val (.int (Own.N (ii))), .val (.int (Own.N (jj))), .val (.int (ff ii))] X0 hx (hb hby d5_3) rfl rfl ?_
  refine Own.aloadN 5 X0 hx (hb hby d5_4) rfl rfl rfl ?_
  refine Own.iloadN 6 X0 hx (hb hby d5_5) rfl rfl ?_
  refine Own.aloadN 7 X0 hx (hb hby d5_6) rfl rfl rfl ?_
  refine Own.iloadN 8 X0 hx (hb hby d5_7) rfl rfl ?_
  refine Own.nLoad 9 ((ff jj)) X0 hx hZ e0 C0 (by omega) rfl (hb hby d5_8) rfl ?_
  refine Own.nStore 10 X0 hx hZ e0 C0 (by omega) (hb hby d5_9) rfl ?_
  intro T1 h1 X1 e1 W1 C1
  have N1 := Fr.snoc X1 N0 g_a
  have zl1 := Nat.le_trans Z0 (Nat.le_of_eq W1.size.symm)
  have K1 := (Keep.refl h0 [a]).wr W1 (Or.inl (List.mem_of_getElem? (i := 0) rfl))
  refine Own.aloadN 11 X1 hx (hb hby d5_10) rfl rfl rfl ?_
  refine Own.iloadN 12 X1 hx (hb hby d5_11) rfl rfl ?_
  refine Own.iloadN 13 X1 hx (hb hby d5_12) rfl rfl ?_
  refine Own.nStore 14 X1 hx hZ e1 C1 (by omega) (hb hby d5_13) rfl ?_
  intro T4 h4 X4 e4 W4 C4
  have N4 := Fr.snoc X4 N1 g_a
  have zl4 := Nat.le_trans zl1 (Nat.le_of_eq W4.size.symm)
  have K4 := K1.wr W4 (Or.inl (List.mem_of_getElem? (i := 0) rfl))
  refine Own.retVoid X4 hx hlk hret (hb hby d5_14) (by decide) (by decide) ?_
  rw [e4]
  exact ⟨rfl, N4, K4, C4⟩
theorem d8_0 : decode method_4_code 0 = .ok (.aload_n 0, 1) := by decide +kernel
theorem d8_1 : decode method_4_code 1 = .ok (.iconst 0, 1) := by decide +kernel
theorem d8_2 : decode method_4_code 2 = .ok (.iaload, 1) := by decide +kernel
theorem d8_3 : decode method_4_code 3 = .ok (.iload_n 1, 1) := by decide +kernel
theorem d8_4 : decode method_4_code 4 = .ok (.if_icmp .ne 5, 3) := by decide +kernel
theorem d8_7 : decode method_4_code 7 = .ok (.iconst 0, 1) := by decide +kernel
theorem d8_8 : decode method_4_code 8 = .ok (.ireturn, 1) := by decide +kernel
theorem d8_9 : decode method_4_code 9 = .ok (.aload_n 0, 1) := by decide +kernel
theorem d8_10 : decode method_4_code 10 = .ok (.iconst 1, 1) := by decide +kernel
theorem d8_11 : decode method_4_code 11 = .ok (.iaload, 1) := by decide +kernel
theorem d8_12 : decode method_4_code 12 = .ok (.iload_n 1, 1) := by decide +kernel
theorem d8_13 : decode method_4_code 13 = .ok (.if_icmp .ne 5, 3) := by decide +kernel
theorem d8_16 : decode method_4_code 16 = .ok (.iconst 1, 1) := by decide +kernel
theorem d8_17 : decode method_4_code 17 = .ok (.ireturn, 1) := by decide +kernel
theorem d8_18 : decode method_4_code 18 = .ok (.aload_n 0, 1) := by decide +kernel
theorem d8_19 : decode method_4_code 19 = .ok (.iconst 2, 1) := by decide +kernel
theorem d8_20 : decode method_4_code 20 = .ok (.iaload, 1) := by decide +kernel
theorem d8_21 : decode method_4_code 21 = .ok (.iload_n 1, 1) := by decide +kernel
theorem d8_22 : decode method_4_code 22 = .ok (.if_icmp .ne 5, 3) := by decide +kernel
theorem d8_25 : decode method_4_code 25 = .ok (.iconst 2, 1) := by decide +kernel
theorem d8_26 : decode method_4_code 26 = .ok (.ireturn, 1) := by decide +kernel
theorem d8_27 : decode method_4_code 27 = .ok (.iconst 3, 1) := by decide +kernel
theorem d8_28 : decode method_4_code 28 = .ok (.ireturn, 1) := by decide +kernel
set_option maxRecDepth 65536 in
set_option maxHeartbeats 40000000 in
theorem m8 (l : Launch) (Z : State) (a0 : Array Value) (w : ∀ (i : Nat) {d : Jvm.Cond}, tables_1[i]? = some d → d.before a0 Z = true) (a : Addr) (x aa : Nat) (pi : Nat → Nat) (ff : Nat → Int32) (h0 : Heap) (C0 : Own.Arf Z h0 a 4 ff) (hf : ∀ k, k < 4 → ff k = Own.N (pi k)) (O : ∀ k, k < 4 → pi k < 1000000 ∧ True) (bx : x < 1000000) (ha : aa < 4) (hx : pi aa = x) (hn : ∀ j, j < aa → pi j ≠ x) :
    Own.Met l Z (⟨"com/example/leveler/leveler/crossing/OrderedListToArrayPinLaw", "indexOf4", "([II)I"⟩ : MethodName) method_4_code 2 (some .int) [] ({ frames := 0, cells := 0, slots := 0, locals := 0 } : Room) #[(.ref a), (.int (Own.N (x)))] h0 (fun v h L => v = some (.int (Own.N aa)) ∧ h = h0 ∧ L = []) := by
  refine Own.Met.of (plainFor_of_name (by first | (simp [plainName, overriddenIn]; done) | decide +kernel)) ?_
  intro p e s m below meth c T0 hx hby hml hown hnm hret hlk hZ X0 e0
  have hown : s.vm.findClass "com/example/leveler/leveler/crossing/OrderedListToArrayPinLaw" = some m.cls := hown
  have hml : c.maxLocals = 2 := hml
  have hnm : meth.name = "indexOf4" := hnm
  have ef : entryFrame m #[(.ref a), (.int (Own.N (x)))] 2 = mkF m 0 #[.val (.ref a), .val (.int (Own.N (x)))] [] := by first | (simp [entryFrame, mkF, argsToLocals, Value.category]; done) | rfl
  rw [ef]
  have b9 := fun k hk => (O k hk).1
  have c0 := b9 0 (by omega)
  refine Own.aloadN 1 X0 hx (hb hby d8_0) rfl rfl rfl ?_
  refine Own.iconst 2 X0 hx (Own.N 0) (hb hby d8_1) rfl rfl ?_
  refine Own.nLoad 3 (Own.N (pi 0)) X0 hx hZ e0 C0 (by omega) (hf 0 (by omega)) (hb hby d8_2) rfl ?_
  refine Own.iloadN 4 X0 hx (hb hby d8_3) rfl rfl ?_
  refine Own.nicmp_ne 9 7 X0 hx (hb hby d8_4) (by decide) rfl (by omega) (by omega) (fun q0 => ?_) (fun q0 => ?_)
  ·
    have c1 := b9 1 (by omega)
    refine Own.aloadN 10 X0 hx (hb hby d8_9) rfl rfl rfl ?_
    refine Own.iconst 11 X0 hx (Own.N 1) (hb hby d8_10) rfl rfl ?_
    refine Own.nLoad 12 (Own.N (pi 1)) X0 hx hZ e0 C0 (by omega) (hf 1 (by omega)) (hb hby d8_11) rfl ?_
    refine Own.iloadN 13 X0 hx (hb hby d8_12) rfl rfl ?_
    refine Own.nicmp_ne 18 16 X0 hx (hb hby d8_13) (by decide) rfl (by omega) (by omega) (fun q1 => ?_) (fun q1 => ?_)
    ·
      have c2 := b9 2 (by omega)
      refine Own.aloadN 19 X0 hx (hb hby d8_18) rfl rfl rfl ?_
      refine Own.iconst 20 X0 hx (Own.N 2) (hb hby d8_19) rfl rfl ?_
      refine Own.nLoad 21 (Own.N (pi 2)) X0 hx hZ e0 C0 (by omega) (hf 2 (by omega)) (hb hby d8_20) rfl ?_
      refine Own.iloadN 22 X0 hx (hb hby d8_21) rfl rfl ?_
      refine Own.nicmp_ne 27 25 X0 hx (hb hby d8_22) (by decide) rfl (by omega) (by omega) (fun q2 => ?_) (fun q2 => ?_)
      ·
        have e9 : aa = 3 := by
          rcases (by omega : aa = 0 ∨ aa = 1 ∨ aa = 2 ∨ aa = 3) with h | h | h | h <;> subst h <;> first | rfl | exact absurd hx q0 | exact absurd hx q1 | exact absurd hx q2
        refine Own.iconst 28 X0 hx (Own.N 3) (hb hby d8_27) rfl rfl ?_
        refine Own.retInt X0 hx hlk hret (hb hby d8_28) (by decide) (by decide) ?_
        exact ⟨by rw [e9], e0, rfl⟩
      ·
        have e9 : aa = 2 := by
          rcases (by omega : aa = 0 ∨ aa = 1 ∨ aa = 2 ∨ aa = 3) with h | h | h | h <;> subst h <;> first | rfl | exact absurd hx q0 | exact absurd hx q1 | exact absurd q2 (hn 2 (by omega))
        refine Own.iconst 26 X0 hx (Own.N 2) (hb hby d8_25) rfl rfl ?_
        refine Own.retInt X0 hx hlk hret (hb hby d8_26) (by decide) (by decide) ?_
        exact ⟨by rw [e9], e0, rfl⟩
    ·
      have e9 : aa = 1 := by
        rcases (by omega : aa = 0 ∨ aa = 1 ∨ aa = 2 ∨ aa = 3) with h | h | h | h <;> subst h <;> first | rfl | exact absurd hx q0 | exact absurd q1 (hn 1 (by omega))
      refine Own.iconst 17 X0 hx (Own.N 1) (hb hby d8_16) rfl rfl ?_
      refine Own.retInt X0 hx hlk hret (hb hby d8_17) (by decide) (by decide) ?_
      exact ⟨by rw [e9], e0, rfl⟩
  ·
    have e9 : aa = 0 := by
      rcases (by omega : aa = 0 ∨ aa = 1 ∨ aa = 2 ∨ aa = 3) with h | h | h | h <;> subst h <;> first | rfl | exact absurd q0 (hn 0 (by omega))
    refine Own.iconst 8 X0 hx (Own.N 0) (hb hby d8_7) rfl rfl ?_
    refine Own.retInt X0 hx hlk hret (hb hby d8_8) (by decide) (by decide) ?_
    exact ⟨by rw [e9], e0, rfl⟩
theorem d9_0 : decode method_5_code 0 = .ok (.aload_n 0, 1) := by decide +kernel
theorem d9_1 : decode method_5_code 1 = .ok (.iconst 0, 1) := by decide +kernel
theorem d9_2 : decode method_5_code 2 = .ok (.iaload, 1) := by decide +kernel
theorem d9_3 : decode method_5_code 3 = .ok (.iload_n 1, 1) := by decide +kernel
theorem d9_4 : decode method_5_code 4 = .ok (.if_icmp .ne 5, 3) := by decide +kernel
theorem d9_7 : decode method_5_code 7 = .ok (.iconst 0, 1) := by decide +kernel
theorem d9_8 : decode method_5_code 8 = .ok (.ireturn, 1) := by decide +kernel
theorem d9_9 : decode method_5_code 9 = .ok (.aload_n 0, 1) := by decide +kernel
theorem d9_10 : decode method_5_code 10 = .ok (.iconst 1, 1) := by decide +kernel
theorem d9_11 : decode method_5_code 11 = .ok (.iaload, 1) := by decide +kernel
theorem d9_12 : decode method_5_code 12 = .ok (.iload_n 1, 1) := by decide +kernel
theorem d9_13 : decode method_5_code 13 = .ok (.if_icmp .ne 5, 3) := by decide +kernel
theorem d9_16 : decode method_5_code 16 = .ok (.iconst 1, 1) := by decide +kernel
theorem d9_17 : decode method_5_code 17 = .ok (.ireturn, 1) := by decide +kernel
theorem d9_18 : decode method_5_code 18 = .ok (.iconst 2, 1) := by decide +kernel
theorem d9_19 : decode method_5_code 19 = .ok (.ireturn, 1) := by decide +kernel
set_option maxRecDepth 65536 in
set_option maxHeartbeats 40000000 in
theorem m9 (l : Launch) (Z : State) (a0 : Array Value) (w : ∀ (i : Nat) {d : Jvm.Cond}, tables_1[i]? = some d → d.before a0 Z = true) (a : Addr) (x aa : Nat) (pi : Nat → Nat) (ff : Nat → Int32) (h0 : Heap) (C0 : Own.Arf Z h0 a 3 ff) (hf : ∀ k, k < 3 → ff k = Own.N (pi k)) (O : ∀ k, k < 3 → pi k < 1000000 ∧ True) (bx : x < 1000000) (ha : aa < 3) (hx : pi aa = x) (hn : ∀ j, j < aa → pi j ≠ x) :
    Own.Met l Z (⟨"com/example/leveler/leveler/crossing/OrderedListToArrayPinLaw", "indexOf3", "([II)I"⟩ : MethodName) method_5_code 2 (some .int) [] ({ frames := 0, cells := 0, slots := 0, locals := 0 } : Room) #[(.ref a), (.int (Own.N (x)))] h0 (fun v h L => v = some (.int (Own.N aa)) ∧ h = h0 ∧ L = []) := by
  refine Own.Met.of (plainFor_of_name (by first | (simp [plainName, overriddenIn]; done) | decide +kernel)) ?_
  intro p e s m below meth c T0 hx hby hml hown hnm hret hlk hZ X0 e0
  have hown : s.vm.findClass "com/example/leveler/leveler/crossing/OrderedListToArrayPinLaw" = some m.cls := hown
  have hml : c.maxLocals = 2 := hml
  have hnm : meth.name = "indexOf3" := hnm
  have ef : entryFrame m #[(.ref a), (.int (Own.N (x)))] 2 = mkF m 0 #[.val (.ref a), .val (.int (Own.N (x)))] [] := by first | (simp [entryFrame, mkF, argsToLocals, Value.category]; done) | rfl
  rw [ef]
  have b9 := fun k hk => (O k hk).1
  have c0 := b9 0 (by omega)
  refine Own.aloadN 1 X0 hx (hb hby d9_0) rfl rfl rfl ?_
  refine Own.iconst 2 X0 hx (Own.N 0) (hb hby d9_1) rfl rfl ?_
  refine Own.nLoad 3 (Own.N (pi 0)) X0 hx hZ e0 C0 (by omega) (hf 0 (by omega)) (hb hby d9_2) rfl ?_
  refine Own.iloadN 4 X0 hx (hb hby d9_3) rfl rfl ?_
  refine Own.nicmp_ne 9 7 X0 hx (hb hby d9_4) (by decide) rfl (by omega) (by omega) (fun q0 => ?_) (fun q0 => ?_)
  ·
    have c1 := b9 1 (by omega)
    refine Own.aloadN 10 X0 hx (hb hby d9_9) rfl rfl rfl ?_
    refine Own.iconst 11 X0 hx (Own.N 1) (hb hby d9_10) rfl rfl ?_
    refine Own.nLoad 12 (Own.N (pi 1)) X0 hx hZ e0 C0 (by omega) (hf 1 (by omega)) (hb hby d9_11) rfl ?_
    refine Own.iloadN 13 X0 hx (hb hby d9_12) rfl rfl ?_
    refine Own.nicmp_ne 18 16 X0 hx (hb hby d9_13) (by decide) rfl (by omega) (by omega) (fun q1 => ?_) (fun q1 => ?_)
    ·
      have e9 : aa = 2 := by
        rcases (by omega : aa = 0 ∨ aa = 1 ∨ aa = 2 ∨ aa = 0) with h | h | h | h <;> subst h <;> first | rfl | exact absurd hx q0 | exact absurd hx q1
      refine Own.iconst 19 X0 hx (Own.N 2) (hb hby d9_18) rfl rfl ?_
      refine Own.retInt X0 hx hlk hret (hb hby d9_19) (by decide) (by decide) ?_
      exact ⟨by rw [e9], e0, rfl⟩
    ·
      have e9 : aa = 1 := by
        rcases (by omega : aa = 0 ∨ aa = 1 ∨ aa = 2 ∨ aa = 0) with h | h | h | h <;> subst h <;> first | rfl | exact absurd hx q0 | exact absurd q1 (hn 1 (by omega))
      refine Own.iconst 17 X0 hx (Own.N 1) (hb hby d9_16) rfl rfl ?_
      refine Own.retInt X0 hx hlk hret (hb hby d9_17) (by decide) (by decide) ?_
      exact ⟨by rw [e9], e0, rfl⟩
  ·
    have e9 : aa = 0 := by
      rcases (by omega : aa = 0 ∨ aa = 1 ∨ aa = 2 ∨ aa = 0) with h | h | h | h <;> subst h <;> first | rfl | exact absurd q0 (hn 0 (by omega))
    refine Own.iconst 8 X0 hx (Own.N 0) (hb hby d9_7) rfl rfl ?_
    refine Own.retInt X0 hx hlk hret (hb hby d9_8) (by decide) (by decide) ?_
    exact ⟨by rw [e9], e0, rfl⟩
theorem d10_0 : decode method_6_code 0 = .ok (.iload_n 1, 1) := by decide +kernel
theorem d10_1 : decode method_6_code 1 = .ok (.iload_n 2, 1) := by decide +kernel
theorem d10_2 : decode method_6_code 2 = .ok (.if_icmp .ge 7, 3) := by decide +kernel
theorem d10_5 : decode method_6_code 5 = .ok (.aload_n 0, 1) := by decide +kernel
theorem d10_6 : decode method_6_code 6 = .ok (.iload_n 1, 1) := by decide +kernel
theorem d10_7 : decode method_6_code 7 = .ok (.iaload, 1) := by decide +kernel
theorem d10_8 : decode method_6_code 8 = .ok (.ireturn, 1) := by decide +kernel
theorem d10_9 : decode method_6_code 9 = .ok (.iload_n 1, 1) := by decide +kernel
theorem d10_10 : decode method_6_code 10 = .ok (.iload_n 2, 1) := by decide +kernel
theorem d10_11 : decode method_6_code 11 = .ok (.if_icmp .ne 5, 3) := by decide +kernel
theorem d10_14 : decode method_6_code 14 = .ok (.iload_n 3, 1) := by decide +kernel
theorem d10_15 : decode method_6_code 15 = .ok (.ireturn, 1) := by decide +kernel
theorem d10_16 : decode method_6_code 16 = .ok (.aload_n 0, 1) := by decide +kernel
theorem d10_17 : decode method_6_code 17 = .ok (.iload_n 1, 1) := by decide +kernel
theorem d10_18 : decode method_6_code 18 = .ok (.iconst 1, 1) := by decide +kernel
theorem d10_19 : decode method_6_code 19 = .ok (.isub, 1) := by decide +kernel
theorem d10_20 : decode method_6_code 20 = .ok (.iaload, 1) := by decide +kernel
theorem d10_21 : decode method_6_code 21 = .ok (.ireturn, 1) := by decide +kernel
set_option maxRecDepth 65536 in
set_option maxHeartbeats 40000000 in
theorem m10 (l : Launch) (Z : State) (a0 : Array Value) (w : ∀ (i : Nat) {d : Jvm.Cond}, tables_1[i]? = some d → d.before a0 Z = true) (a : Addr) (kq is x : Nat) (rho : Nat → Nat) (ff : Nat → Int32) (h0 : Heap) (C0 : Own.Arf Z h0 a 3 ff) (hf : ∀ k, k < 3 → ff k = Own.N (rho k)) (bk : kq < 4) (bi : is < 4) :
    Own.Met l Z (⟨"com/example/leveler/leveler/crossing/OrderedListToArrayPinLaw", "at", "([IIII)I"⟩ : MethodName) method_6_code 4 (some .int) [] ({ frames := 0, cells := 0, slots := 0, locals := 0 } : Room) #[(.ref a), (.int (Own.N (kq))), (.int (Own.N (is))), (.int (Own.N (x)))] h0 (fun v h L => v = some (.int (Own.N (own_inO rho is x kq))) ∧ h = h0 ∧ L = []) := by
  refine Own.Met.of (plainFor_of_name (by first | (simp [plainName, overriddenIn]; done) | decide +kernel)) ?_
  intro p e s m below meth c T0 hx hby hml hown hnm hret hlk hZ X0 e0
  have hown : s.vm.findClass "com/example/leveler/leveler/crossing/OrderedListToArrayPinLaw" = some m.cls := hown
  have hml : c.maxLocals = 4 := hml
  have hnm : meth.name = "at" := hnm
  have ef : entryFrame m #[(.ref a), (.int (Own.N (kq))), (.int (Own.N (is))), (.int (Own.N (x)))] 4 = mkF m 0 #[.val (.ref a), .val (.int (Own.N (kq))), .val (.int (Own.N (is))), .val (.int (Own.N (x)))] [] := by first | (simp [entryFrame, mkF, argsToLocals, Value.category]; done) | rfl
  rw [ef]
  refine Own.iloadN 1 X0 hx (hb hby d10_0) rfl rfl ?_
  refine Own.iloadN 2 X0 hx (hb hby d10_1) rfl rfl ?_
  refine Own.nicmp_ge 9 5 X0 hx (hb hby d10_2) (by decide) rfl (by omega) (by omega) (fun q => ?_) (fun q => ?_)
  ·
    refine Own.iloadN 10 X0 hx (hb hby d10_9) rfl rfl ?_
    refine Own.iloadN 11 X0 hx (hb hby d10_10) rfl rfl ?_
    refine Own.nicmp_ne 16 14 X0 hx (hb hby d10_11) (by decide) rfl (by omega) (by omega) (fun q2 => ?_) (fun q2 => ?_)
    ·
      refine Own.aloadN 17 X0 hx (hb hby d10_16) rfl rfl rfl ?_
      refine Own.iloadN 18 X0 hx (hb hby d10_17) rfl rfl ?_
      refine Own.iconst 19 X0 hx (Own.N 1) (hb hby d10_18) rfl rfl ?_
      refine Own.isub 20 X0 hx (hb hby d10_19) rfl (Own.N_sub (by omega)) ?_
      refine Own.nLoad 21 (Own.N (rho (kq - 1))) X0 hx hZ e0 C0 (by omega) (hf (kq - 1) (by omega)) (hb hby d10_20) rfl ?_
      refine Own.retInt X0 hx hlk hret (hb hby d10_21) (by decide) (by decide) ?_
      exact ⟨by rw [own_in_gt (by omega)], e0, rfl⟩
    ·
      refine Own.iloadN 15 X0 hx (hb hby d10_14) rfl rfl ?_
      refine Own.retInt X0 hx hlk hret (hb hby d10_15) (by decide) (by decide) ?_
      exact ⟨by rw [own_in_eq (by omega)], e0, rfl⟩
  ·
    refine Own.aloadN 6 X0 hx (hb hby d10_5) rfl rfl rfl ?_
    refine Own.iloadN 7 X0 hx (hb hby d10_6) rfl rfl ?_
    refine Own.nLoad 8 (Own.N (rho kq)) X0 hx hZ e0 C0 (by omega) (hf kq (by omega)) (hb hby d10_7) rfl ?_
    refine Own.retInt X0 hx hlk hret (hb hby d10_8) (by decide) (by decide) ?_
    exact ⟨by rw [own_in_lt (by omega)], e0, rfl⟩
theorem d4_0 : decode prog_14_method_6_code 0 = .ok (.aload_n 0, 1) := by decide +kernel
theorem d4_1 : decode prog_14_method_6_code 1 = .ok (.getfield 16, 3) := by decide +kernel
theorem d4_4 : decode prog_14_method_6_code 4 = .ok (.arraylength, 1) := by decide +kernel
theorem d4_5 : decode prog_14_method_6_code 5 = .ok (.newarray .int, 2) := by decide +kernel
theorem d4_7 : decode prog_14_method_6_code 7 = .ok (.astore_n 1, 1) := by decide +kernel
theorem d4_8 : decode prog_14_method_6_code 8 = .ok (.iconst 0, 1) := by decide +kernel
theorem d4_9 : decode prog_14_method_6_code 9 = .ok (.istore_n 2, 1) := by decide +kernel
theorem d4_10 : decode prog_14_method_6_code 10 = .ok (.aload_n 0, 1) := by decide +kernel
theorem d4_11 : decode prog_14_method_6_code 11 = .ok (.getfield 20, 3) := by decide +kernel
theorem d4_14 : decode prog_14_method_6_code 14 = .ok (.istore_n 3, 1) := by decide +kernel
theorem d4_15 : decode prog_14_method_6_code 15 = .ok (.iload_n 3, 1) := by decide +kernel
theorem d4_16 : decode prog_14_method_6_code 16 = .ok (.iconst (-1), 1) := by decide +kernel
theorem d4_17 : decode prog_14_method_6_code 17 = .ok (.if_icmp .eq 20, 3) := by decide +kernel
theorem d4_20 : decode prog_14_method_6_code 20 = .ok (.aload_n 1, 1) := by decide +kernel
theorem d4_21 : decode prog_14_method_6_code 21 = .ok (.iload_n 2, 1) := by decide +kernel
theorem d4_22 : decode prog_14_method_6_code 22 = .ok (.iinc 2 1, 3) := by decide +kernel
theorem d4_25 : decode prog_14_method_6_code 25 = .ok (.iload_n 3, 1) := by decide +kernel
theorem d4_26 : decode prog_14_method_6_code 26 = .ok (.iastore, 1) := by decide +kernel
theorem d4_27 : decode prog_14_method_6_code 27 = .ok (.aload_n 0, 1) := by decide +kernel
theorem d4_28 : decode prog_14_method_6_code 28 = .ok (.getfield 7, 3) := by decide +kernel
theorem d4_31 : decode prog_14_method_6_code 31 = .ok (.iload_n 3, 1) := by decide +kernel
theorem d4_32 : decode prog_14_method_6_code 32 = .ok (.iaload, 1) := by decide +kernel
theorem d4_33 : decode prog_14_method_6_code 33 = .ok (.istore_n 3, 1) := by decide +kernel
theorem d4_34 : decode prog_14_method_6_code 34 = .ok (.goto (-19), 3) := by decide +kernel
theorem d4_37 : decode prog_14_method_6_code 37 = .ok (.aload_n 1, 1) := by decide +kernel
theorem d4_38 : decode prog_14_method_6_code 38 = .ok (.areturn, 1) := by decide +kernel
set_option maxRecDepth 65536 in
set_option maxHeartbeats 40000000 in
theorem m4 (l : Launch) (Z : State) (a0 : Array Value) (w : ∀ (i : Nat) {d : Jvm.Cond}, tables_1[i]? = some d → d.before a0 Z = true) (t : Addr) (nx pv lb : Addr) (n n0 : Nat) (o : Nat → Nat) (fN fP : Nat → Int32) (h0 : Heap) (Z0 : n0 ≤ h0.size) (X00 : Old Z n0 h0) (S0 : own_L Z h0 t nx pv lb n (own_e n o 0) fN fP) (H : own_LL n o fN fP) (O : own_Or n n o) (bn : n ≤ 4) :
    Own.Met l Z (⟨"com/example/leveler/leveler/crossing/OrderedList", "toArray", "()[I"⟩ : MethodName) prog_14_method_6_code 4 (some (.array .int)) [] ({ frames := 0, cells := 1, slots := 4, locals := 0 } : Room) #[(.ref t)] h0 (fun v h L => ∃ (r : Addr) (g : Nat → Int32), v = some (.ref r) ∧ Fr n0 L ∧ Keep h0 h [] ∧ h0.size ≤ r ∧ n0 ≤ r ∧ Own.Arf Z h r n g ∧ ∀ j, j < n → g j = Own.N (o j)) := by
  refine Own.Met.of (plainFor_of_name (by first | (simp [plainName, overriddenIn]; done) | decide +kernel)) ?_
  intro p e s m below meth c T0 hx hby hml hown hnm hret hlk hZ X0 e0
  have hown : s.vm.findClass "com/example/leveler/leveler/crossing/OrderedList" = some m.cls := hown
  have hml : c.maxLocals = 4 := hml
  have hnm : meth.name = "toArray" := hnm
  have ef : entryFrame m #[(.ref t)] 4 = mkF m 0 #[.val (.ref t), .unset, .unset, .unset] [] := by first | (simp [entryFrame, mkF, argsToLocals, Value.category]; done) | rfl
  rw [ef]
  have S0' := S0
  have N0 := Fr.nil n0
  obtain ⟨E_1, Fne_1, Fpr_1, Fla_1, Ffi_1, Cnx_1, Cpv_1, Alb_1⟩ := S0
  refine Own.aloadN 1 X0 hx (hb hby d4_0) rfl rfl rfl ?_
  refine Own.getFld 4 X0 hx hZ hown (host := "") (Or.inl (w 15 rfl)) Via.refl e0 Fla_1 (hb hby d4_1) rfl ?_
  intro T2 X2 e2
  refine Own.axLen 5 X2 hx hZ e2 Alb_1 (hb hby d4_4) rfl ?_
  refine Own.nNew 7 4 X2 hx hZ (w 0 rfl) e2 (by omega) (by decide) (hb hby d4_5) rfl (by decide) (by decide) ?_
  intro T3 h3 r z3 X3 e3 E3 C3
  have ne_lb_r : lb ≠ r := Nat.ne_of_lt (Nat.lt_of_lt_of_le Alb_1.lt (Nat.le_of_eq z3.symm))
  have ne_nx_r : nx ≠ r := Nat.ne_of_lt (Nat.lt_of_lt_of_le Cnx_1.lt (Nat.le_of_eq z3.symm))
  have ne_pv_r : pv ≠ r := Nat.ne_of_lt (Nat.lt_of_lt_of_le Cpv_1.lt (Nat.le_of_eq z3.symm))
  have ne_t_r : t ≠ r := Nat.ne_of_lt (Nat.lt_of_lt_of_le E_1.lt (Nat.le_of_eq z3.symm))
  have g_r : n0 ≤ r := Nat.le_trans Z0 (Nat.le_of_eq z3.symm)
  have sz_r : h0.size ≤ r := Nat.le_trans (Keep.refl h0 []).1 (Nat.le_of_eq z3.symm)
  have K3 := (Keep.refl h0 []).ext E3
  have Ef_5 := E_1.ext E3
  have Ff_6 := Fne_1.ext E3
  have Ff_7 := Fpr_1.ext E3
  have Ff_8 := Fla_1.ext E3
  have Ff_9 := Ffi_1.ext E3
  have Af_10 := Alb_1.ext E3
  have Cf_11 := Cnx_1.ext E3
  have Cf_12 := Cpv_1.ext E3
  have O3 := X00.ext E3
  have zl3 := Nat.le_trans Z0 E3.1
  refine Own.astoreN 8 #[.val (.ref t), .val (.ref r), .unset, .unset] X3 hx (hb hby d4_7) rfl rfl rfl ?_
  refine Own.iconst 9 X3 hx (Own.N 0) (hb hby d4_8) rfl rfl ?_
  refine Own.istoreNV 10 #[.val (.ref t), .val (.ref r), .val (.int (Own.N (0))), .unset] X3 hx (hb hby d4_9) rfl rfl ?_
  refine Own.aloadN 11 X3 hx (hb hby d4_10) rfl rfl rfl ?_
  refine Own.getFld 14 X3 hx hZ hown (host := "") (Or.inl (w 17 rfl)) Via.refl e3 Ff_9 (hb hby d4_11) rfl ?_
  intro T13 X13 e13
  refine Own.istoreNV 15 #[.val (.ref t), .val (.ref r), .val (.int (Own.N (0))), .val (.int (own_e n o 0))] X13 hx (hb hby d4_14) rfl rfl ?_
  have J15 : ∀ (kk ix : Nat) (g : Nat → Int32) (Tq : State) (Lq : List Loc) (hq : Heap) (Xq : Stand p l e ({ frames := 0, cells := 1, slots := 4, locals := 0 } : Room) s m #[(.ref t)] below meth c Tq Lq 1 4) (eqq : Tq.heap = hq) (Nq : Fr n0 Lq) (Kq : Keep h0 hq []) (Cr : Own.Arf Z hq r n g) (hg : ∀ j, j < ix → g j = Own.N (o j)) (hi : ix ≤ n) (hk : n - ix < kk), Own.Ends p.tables e below (fun v h L => ∃ (r : Addr) (g : Nat → Int32), v = some (.ref r) ∧ Fr n0 L ∧ Keep h0 h [] ∧ h0.size ≤ r ∧ n0 ≤ r ∧ Own.Arf Z h r n g ∧ ∀ j, j < n → g j = Own.N (o j)) (Own.FE s ({ frames := 0, cells := 1, slots := 4, locals := 0 } : Room).cells ({ frames := 0, cells := 1, slots := 4, locals := 0 } : Room).slots) (Tq.setTop (mkF m 15 #[.val (.ref t), .val (.ref r), .val (.int (Own.N (ix))), .val (.int (own_e n o ix))] [])) := by
    intro kk
    induction kk with
    | zero => intros; exfalso; omega
    | succ kk ih =>
      intro ix g Tq Lq hq Xq eqq Nq Kq Cr hg hi hk
      have zlq := Nat.le_trans Z0 Kq.1
      have S1 : own_L Z hq t nx pv lb n (own_e n o 0) fN fP := ⟨S0'.1.keep Kq, S0'.2.1.keep Kq nin0, S0'.2.2.1.keep Kq nin0, S0'.2.2.2.1.keep Kq nin0, S0'.2.2.2.2.1.keep Kq nin0, S0'.2.2.2.2.2.1.keep Kq nin0, S0'.2.2.2.2.2.2.1.keep Kq nin0, S0'.2.2.2.2.2.2.2.keep Kq nin0⟩
      obtain ⟨E_14, Fne_14, Fpr_14, Fla_14, Ffi_14, Cnx_14, Cpv_14, Alb_14⟩ := S1
      by_cases c9 : ix < n
      ·
        rw [own_e_lt c9]
        have ob := (O ix c9).1
        refine Own.iloadN 16 Xq hx (hb hby d4_15) rfl rfl ?_
        refine Own.iconst 17 Xq hx ((-1 : Int32)) (hb hby d4_16) rfl rfl ?_
        refine Own.icmp_eq 37 20 Xq hx (hb hby d4_17) (by decide) rfl (fun tk => absurd tk (Own.N_ne1 (by omega))) (fun tk => ?_)
        refine Own.aloadN 21 Xq hx (hb hby d4_20) rfl rfl rfl ?_
        refine Own.iloadN 22 Xq hx (hb hby d4_21) rfl rfl ?_
        refine Own.iinc 25 (fun c_15 => #[.val (.ref t), .val (.ref r), .val (.int c_15), .val (.int (Own.N (o ix)))]) Xq hx (Own.N 1) (hb hby d4_22) rfl rfl rfl (fun _ => rfl) fun c_15 hc_15 => ?_
        obtain rfl : c_15 = Own.N (ix + 1) := hc_15.trans (Own.N_add _ _)
        refine Own.iloadN 26 Xq hx (hb hby d4_25) rfl rfl ?_
        refine Own.nStore 27 Xq hx hZ eqq Cr (by omega) (hb hby d4_26) rfl ?_
        intro T16 h16 X16 e16 W16 C16
        have N16 := Fr.snoc X16 Nq g_r
        have Ef_18 := E_14.wr W16
        have Ff_19 := Fne_14.other W16 (Or.inl ne_t_r)
        have Ff_20 := Fpr_14.other W16 (Or.inl ne_t_r)
        have Ff_21 := Fla_14.other W16 (Or.inl ne_t_r)
        have Ff_22 := Ffi_14.other W16 (Or.inl ne_t_r)
        have Af_23 := Alb_14.other W16 ne_lb_r
        have Cf_25 := Cnx_14.other W16 ne_nx_r
        have Cf_26 := Cpv_14.other W16 ne_pv_r
        have zl16 := Nat.le_trans zlq (Nat.le_of_eq W16.size.symm)
        have K16 := Kq.wr W16 (Or.inr sz_r)
        refine Own.aloadN 28 X16 hx (hb hby d4_27) rfl rfl rfl ?_
        refine Own.getFld 31 X16 hx hZ hown (host := "") (Or.inl (w 10 rfl)) Via.refl e16 Ff_19 (hb hby d4_28) rfl ?_
        intro T27 X27 e27
        refine Own.iloadN 32 X27 hx (hb hby d4_31) rfl rfl ?_
        refine Own.nLoad 33 ((own_e n o (ix + 1))) X27 hx hZ e27 Cf_25 (by omega) (H ix c9).1 (hb hby d4_32) rfl ?_
        refine Own.istoreNV 34 #[.val (.ref t), .val (.ref r), .val (.int (Own.N (ix + 1))), .val (.int (own_e n o (ix + 1)))] X27 hx (hb hby d4_33) rfl rfl ?_
        refine Own.goto 15 X27 hx (hb hby d4_34) (by decide) ?_
        exact ih (ix + 1) _ _ _ _ X27 e27 N16 K16 C16 (fun j hj => by
            by_cases d9 : j = ix
            · rw [Own.upd_hit d9, d9]
            · rw [Own.upd_miss d9]; exact hg j (by omega)) (by omega) (by omega)
      ·
        rw [own_e_ge c9]
        refine Own.iloadN 16 Xq hx (hb hby d4_15) rfl rfl ?_
        refine Own.iconst 17 Xq hx ((-1 : Int32)) (hb hby d4_16) rfl rfl ?_
        refine Own.icmp_eq 37 20 Xq hx (hb hby d4_17) (by decide) rfl (fun tk => ?_) (fun tk => absurd rfl tk)
        refine Own.aloadN 38 Xq hx (hb hby d4_37) rfl rfl rfl ?_
        refine Own.retRef Xq hx hlk rfl hret rfl (hb hby d4_38) (by decide) (by decide) ?_
        rw [eqq]
        exact ⟨r, g, rfl, Nq, Kq, sz_r, g_r, Cr, fun j hj => hg j (by omega)⟩
  exact J15 (n + 1) 0 _ _ _ _ X13 e13 N0 K3 C3 (fun j hj => absurd hj (by omega)) (by omega) (by omega)
theorem d1_0 : decode prog_14_method_1_code 0 = .ok (.aload_n 0, 1) := by decide +kernel
theorem d1_1 : decode prog_14_method_1_code 1 = .ok (.invokespecial 1, 3) := by decide +kernel
theorem d1_4 : decode prog_14_method_1_code 4 = .ok (.aload_n 0, 1) := by decide +kernel
theorem d1_5 : decode prog_14_method_1_code 5 = .ok (.aload_n 1, 1) := by decide +kernel
theorem d1_6 : decode prog_14_method_1_code 6 = .ok (.arraylength, 1) := by decide +kernel
theorem d1_7 : decode prog_14_method_1_code 7 = .ok (.newarray .int, 2) := by decide +kernel
theorem d1_9 : decode prog_14_method_1_code 9 = .ok (.putfield 7, 3) := by decide +kernel
theorem d1_12 : decode prog_14_method_1_code 12 = .ok (.aload_n 0, 1) := by decide +kernel
theorem d1_13 : decode prog_14_method_1_code 13 = .ok (.aload_n 1, 1) := by decide +kernel
theorem d1_14 : decode prog_14_method_1_code 14 = .ok (.arraylength, 1) := by decide +kernel
theorem d1_15 : decode prog_14_method_1_code 15 = .ok (.newarray .int, 2) := by decide +kernel
theorem d1_17 : decode prog_14_method_1_code 17 = .ok (.putfield 13, 3) := by decide +kernel
theorem d1_20 : decode prog_14_method_1_code 20 = .ok (.aload_n 0, 1) := by decide +kernel
theorem d1_21 : decode prog_14_method_1_code 21 = .ok (.aload_n 1, 1) := by decide +kernel
theorem d1_22 : decode prog_14_method_1_code 22 = .ok (.arraylength, 1) := by decide +kernel
theorem d1_23 : decode prog_14_method_1_code 23 = .ok (.newarray .long, 2) := by decide +kernel
theorem d1_25 : decode prog_14_method_1_code 25 = .ok (.putfield 16, 3) := by decide +kernel
theorem d1_28 : decode prog_14_method_1_code 28 = .ok (.aload_n 0, 1) := by decide +kernel
theorem d1_29 : decode prog_14_method_1_code 29 = .ok (.aload_n 1, 1) := by decide +kernel
theorem d1_30 : decode prog_14_method_1_code 30 = .ok (.arraylength, 1) := by decide +kernel
theorem d1_31 : decode prog_14_method_1_code 31 = .ok (.ifCond .ne 7, 3) := by decide +kernel
theorem d1_34 : decode prog_14_method_1_code 34 = .ok (.iconst (-1), 1) := by decide +kernel
theorem d1_35 : decode prog_14_method_1_code 35 = .ok (.goto 6, 3) := by decide +kernel
theorem d1_38 : decode prog_14_method_1_code 38 = .ok (.aload_n 1, 1) := by decide +kernel
theorem d1_39 : decode prog_14_method_1_code 39 = .ok (.iconst 0, 1) := by decide +kernel
theorem d1_40 : decode prog_14_method_1_code 40 = .ok (.iaload, 1) := by decide +kernel
theorem d1_41 : decode prog_14_method_1_code 41 = .ok (.putfield 20, 3) := by decide +kernel
theorem d1_44 : decode prog_14_method_1_code 44 = .ok (.ldc2_w 24, 3) := by decide +kernel
theorem d1_47 : decode prog_14_method_1_code 47 = .ok (.iconst 1, 1) := by decide +kernel
theorem d1_48 : decode prog_14_method_1_code 48 = .ok (.aload_n 1, 1) := by decide +kernel
theorem d1_49 : decode prog_14_method_1_code 49 = .ok (.arraylength, 1) := by decide +kernel
theorem d1_50 : decode prog_14_method_1_code 50 = .ok (.invokestatic 26, 3) := by decide +kernel
theorem d1_53 : decode prog_14_method_1_code 53 = .ok (.i2l, 1) := by decide +kernel
theorem d1_54 : decode prog_14_method_1_code 54 = .ok (.ldiv, 1) := by decide +kernel
theorem d1_55 : decode prog_14_method_1_code 55 = .ok (.lstore_n 2, 1) := by decide +kernel
theorem d1_56 : decode prog_14_method_1_code 56 = .ok (.iconst 0, 1) := by decide +kernel
theorem d1_57 : decode prog_14_method_1_code 57 = .ok (.istore 4, 2) := by decide +kernel
theorem d1_59 : decode prog_14_method_1_code 59 = .ok (.iload 4, 2) := by decide +kernel
theorem d1_61 : decode prog_14_method_1_code 61 = .ok (.aload_n 1, 1) := by decide +kernel
theorem d1_62 : decode prog_14_method_1_code 62 = .ok (.arraylength, 1) := by decide +kernel
theorem d1_63 : decode prog_14_method_1_code 63 = .ok (.if_icmp .ge 75, 3) := by decide +kernel
theorem d1_66 : decode prog_14_method_1_code 66 = .ok (.aload_n 0, 1) := by decide +kernel
theorem d1_67 : decode prog_14_method_1_code 67 = .ok (.getfield 13, 3) := by decide +kernel
theorem d1_70 : decode prog_14_method_1_code 70 = .ok (.aload_n 1, 1) := by decide +kernel
theorem d1_71 : decode prog_14_method_1_code 71 = .ok (.iload 4, 2) := by decide +kernel
theorem d1_73 : decode prog_14_method_1_code 73 = .ok (.iaload, 1) := by decide +kernel
theorem d1_74 : decode prog_14_method_1_code 74 = .ok (.iload 4, 2) := by decide +kernel
theorem d1_76 : decode prog_14_method_1_code 76 = .ok (.ifCond .ne 7, 3) := by decide +kernel
theorem d1_79 : decode prog_14_method_1_code 79 = .ok (.iconst (-1), 1) := by decide +kernel
theorem d1_80 : decode prog_14_method_1_code 80 = .ok (.goto 9, 3) := by decide +kernel
theorem d1_83 : decode prog_14_method_1_code 83 = .ok (.aload_n 1, 1) := by decide +kernel
theorem d1_84 : decode prog_14_method_1_code 84 = .ok (.iload 4, 2) := by decide +kernel
theorem d1_86 : decode prog_14_method_1_code 86 = .ok (.iconst 1, 1) := by decide +kernel
theorem d1_87 : decode prog_14_method_1_code 87 = .ok (.isub, 1) := by decide +kernel
theorem d1_88 : decode prog_14_method_1_code 88 = .ok (.iaload, 1) := by decide +kernel
theorem d1_89 : decode prog_14_method_1_code 89 = .ok (.iastore, 1) := by decide +kernel
theorem d1_90 : decode prog_14_method_1_code 90 = .ok (.aload_n 0, 1) := by decide +kernel
theorem d1_91 : decode prog_14_method_1_code 91 = .ok (.getfield 7, 3) := by decide +kernel
theorem d1_94 : decode prog_14_method_1_code 94 = .ok (.aload_n 1, 1) := by decide +kernel
theorem d1_95 : decode prog_14_method_1_code 95 = .ok (.iload 4, 2) := by decide +kernel
theorem d1_97 : decode prog_14_method_1_code 97 = .ok (.iaload, 1) := by decide +kernel
theorem d1_98 : decode prog_14_method_1_code 98 = .ok (.iload 4, 2) := by decide +kernel
theorem d1_100 : decode prog_14_method_1_code 100 = .ok (.iconst 1, 1) := by decide +kernel
theorem d1_101 : decode prog_14_method_1_code 101 = .ok (.iadd, 1) := by decide +kernel
theorem d1_102 : decode prog_14_method_1_code 102 = .ok (.aload_n 1, 1) := by decide +kernel
theorem d1_103 : decode prog_14_method_1_code 103 = .ok (.arraylength, 1) := by decide +kernel
theorem d1_104 : decode prog_14_method_1_code 104 = .ok (.if_icmp .ne 7, 3) := by decide +kernel
theorem d1_107 : decode prog_14_method_1_code 107 = .ok (.iconst (-1), 1) := by decide +kernel
theorem d1_108 : decode prog_14_method_1_code 108 = .ok (.goto 9, 3) := by decide +kernel
theorem d1_111 : decode prog_14_method_1_code 111 = .ok (.aload_n 1, 1) := by decide +kernel
theorem d1_112 : decode prog_14_method_1_code 112 = .ok (.iload 4, 2) := by decide +kernel
theorem d1_114 : decode prog_14_method_1_code 114 = .ok (.iconst 1, 1) := by decide +kernel
theorem d1_115 : decode prog_14_method_1_code 115 = .ok (.iadd, 1) := by decide +kernel
theorem d1_116 : decode prog_14_method_1_code 116 = .ok (.iaload, 1) := by decide +kernel
theorem d1_117 : decode prog_14_method_1_code 117 = .ok (.iastore, 1) := by decide +kernel
theorem d1_118 : decode prog_14_method_1_code 118 = .ok (.aload_n 0, 1) := by decide +kernel
theorem d1_119 : decode prog_14_method_1_code 119 = .ok (.getfield 16, 3) := by decide +kernel
theorem d1_122 : decode prog_14_method_1_code 122 = .ok (.aload_n 1, 1) := by decide +kernel
theorem d1_123 : decode prog_14_method_1_code 123 = .ok (.iload 4, 2) := by decide +kernel
theorem d1_125 : decode prog_14_method_1_code 125 = .ok (.iaload, 1) := by decide +kernel
theorem d1_126 : decode prog_14_method_1_code 126 = .ok (.iload 4, 2) := by decide +kernel
theorem d1_128 : decode prog_14_method_1_code 128 = .ok (.i2l, 1) := by decide +kernel
theorem d1_129 : decode prog_14_method_1_code 129 = .ok (.lload_n 2, 1) := by decide +kernel
theorem d1_130 : decode prog_14_method_1_code 130 = .ok (.lmul, 1) := by decide +kernel
theorem d1_131 : decode prog_14_method_1_code 131 = .ok (.lastore, 1) := by decide +kernel
theorem d1_132 : decode prog_14_method_1_code 132 = .ok (.iinc 4 1, 3) := by decide +kernel
theorem d1_135 : decode prog_14_method_1_code 135 = .ok (.goto (-76), 3) := by decide +kernel
theorem d1_138 : decode prog_14_method_1_code 138 = .ok (.return_, 1) := by decide +kernel
set_option maxRecDepth 65536 in
set_option maxHeartbeats 40000000 in
theorem m1 (l : Launch) (Z : State) (a0 : Array Value) (w : ∀ (i : Nat) {d : Jvm.Cond}, tables_1[i]? = some d → d.before a0 Z = true) (t : Addr) (od : Addr) (n n0 : Nat) (o : Nat → Nat) (fO : Nat → Int32) (h0 : Heap) (Z0 : n0 ≤ h0.size) (g_t : n0 ≤ t) (E_t : Exa Z h0 t "com/example/leveler/leveler/crossing/OrderedList") (F_next : Fld Z h0 t "com/example/leveler/leveler/crossing/OrderedList" "next" "[I" .null) (F_previous : Fld Z h0 t "com/example/leveler/leveler/crossing/OrderedList" "previous" "[I" .null) (F_labels : Fld Z h0 t "com/example/leveler/leveler/crossing/OrderedList" "labels" "[J" .null) (F_first : Fld Z h0 t "com/example/leveler/leveler/crossing/OrderedList" "first" "I" (.int (0 : Int32))) (Co : Own.Arf Z h0 od n fO) (hO : ∀ k, k < n → fO k = Own.N (o k)) (ne_od_t : od ≠ t) (O : own_Or n n o) (bn : n ≤ 4) :
    Own.Met l Z (⟨"com/example/leveler/leveler/crossing/OrderedList", "<init>", "([I)V"⟩ : MethodName) prog_14_method_1_code 5 none [] ({ frames := 1, cells := 3, slots := 12, locals := 15 } : Room) #[(.ref t), (.ref od)] h0 (fun v h L => v = none ∧ Fr n0 L ∧ Keep h0 h [t] ∧ ∃ nx pv lb fN fP, own_D n0 t nx pv lb ∧ h0.size ≤ nx ∧ h0.size ≤ pv ∧ h0.size ≤ lb ∧ own_L Z h t nx pv lb n (own_e n o 0) fN fP ∧ own_LL n o fN fP) := by
  refine Own.Met.of (plainFor_of_name (by first | (simp [plainName, overriddenIn]; done) | decide +kernel)) ?_
  intro p e s m below meth c T0 hx hby hml hown hnm hret hlk hZ X0 e0
  have hown : s.vm.findClass "com/example/leveler/leveler/crossing/OrderedList" = some m.cls := hown
  have hml : c.maxLocals = 5 := hml
  have hnm : meth.name = "<init>" := hnm
  have ef : entryFrame m #[(.ref t), (.ref od)] 5 = mkF m 0 #[.val (.ref t), .val (.ref od), .unset, .unset, .unset] [] := by first | (simp [entryFrame, mkF, argsToLocals, Value.category]; done) | rfl
  rw [ef]
  have N0 := Fr.nil n0
  refine Own.aloadN 1 X0 hx (hb hby d1_0) rfl rfl rfl ?_
  refine Own.initObj 4 0 X0 hx hZ hown (w 7 rfl) (w 8 rfl) (w 9 rfl) e0 (by rw [hml]; rfl) (hb hby d1_1) rfl (by decide) (Nat.le_of_eq rfl) (by decide) ?_
  intro T1 X1 e1
  refine Own.aloadN 5 X1 hx (hb hby d1_4) rfl rfl rfl ?_
  refine Own.aloadN 6 X1 hx (hb hby d1_5) rfl rfl rfl ?_
  refine Own.nLen 7 X1 hx hZ e1 Co (hb hby d1_6) rfl ?_
  refine Own.nNew 9 4 X1 hx hZ (w 0 rfl) e1 (by omega) (by decide) (hb hby d1_7) rfl (by decide) (by decide) ?_
  intro T2 h2 nx z2 X2 e2 E2 C2
  have ne_od_nx : od ≠ nx := Nat.ne_of_lt (Nat.lt_of_lt_of_le Co.lt (Nat.le_of_eq z2.symm))
  have ne_t_nx : t ≠ nx := Nat.ne_of_lt (Nat.lt_of_lt_of_le E_t.lt (Nat.le_of_eq z2.symm))
  have g_nx : n0 ≤ nx := Nat.le_trans Z0 (Nat.le_of_eq z2.symm)
  have sz_nx : h0.size ≤ nx := Nat.le_trans (Keep.refl h0 [t]).1 (Nat.le_of_eq z2.symm)
  have K2 := (Keep.refl h0 [t]).ext E2
  have Ef_4 := E_t.ext E2
  have Ff_5 := F_next.ext E2
  have Ff_6 := F_previous.ext E2
  have Ff_7 := F_labels.ext E2
  have Ff_8 := F_first.ext E2
  have Cf_9 := Co.ext E2
  have zl2 := Nat.le_trans Z0 E2.1
  refine Own.putFld 12 X2 hx hZ hown (host := "") (Or.inl (w 10 rfl)) Via.refl e2 Ff_5 Ef_4 (Or.inr ⟨(w 11 rfl), rfl, hnm⟩) (w 2 rfl) (ty := (.array .int)) (by decide) rfl rfl (hb hby d1_9) rfl ?_
  intro T10 h10 X10 e10 W10
  have N10 := Fr.snoc X10 N0 g_t
  have Ef_12 := Ef_4.wr W10
  have Ff_13 := Ff_5.same W10
  have Ff_14 := Ff_6.other W10 (Or.inr (slot_ne (Or.inr (w 13 rfl)) (Or.inr (w 11 rfl)) (by decide) (t := (.array .int)) (t' := (.array .int)) (by decide) (by decide)))
  have Ff_15 := Ff_7.other W10 (Or.inr (slot_ne (Or.inr (w 16 rfl)) (Or.inr (w 11 rfl)) (by decide) (t := (.array .long)) (t' := (.array .int)) (by decide) (by decide)))
  have Ff_16 := Ff_8.other W10 (Or.inr (slot_ne (Or.inl (w 18 rfl)) (Or.inr (w 11 rfl)) (by decide) (t := .int) (t' := (.array .int)) (by decide) (by decide)))
  have Cf_17 := Cf_9.other W10 ne_od_t
  have Cf_18 := C2.other W10 (Ne.symm ne_t_nx)
  have zl10 := Nat.le_trans zl2 (Nat.le_of_eq W10.size.symm)
  have K10 := K2.wr W10 (Or.inl (List.mem_of_getElem? (i := 0) rfl))
  refine Own.aloadN 13 X10 hx (hb hby d1_12) rfl rfl rfl ?_
  refine Own.aloadN 14 X10 hx (hb hby d1_13) rfl rfl rfl ?_
  refine Own.nLen 15 X10 hx hZ e10 Cf_17 (hb hby d1_14) rfl ?_
  refine Own.nNew 17 4 X10 hx hZ (w 0 rfl) e10 (by omega) (by decide) (hb hby d1_15) rfl (by decide) (by decide) ?_
  intro T19 h19 pv z19 X19 e19 E19 C19
  have ne_nx_pv : nx ≠ pv := Nat.ne_of_lt (Nat.lt_of_lt_of_le Cf_18.lt (Nat.le_of_eq z19.symm))
  have ne_od_pv : od ≠ pv := Nat.ne_of_lt (Nat.lt_of_lt_of_le Cf_17.lt (Nat.le_of_eq z19.symm))
  have ne_t_pv : t ≠ pv := Nat.ne_of_lt (Nat.lt_of_lt_of_le Ef_12.lt (Nat.le_of_eq z19.symm))
  have g_pv : n0 ≤ pv := Nat.le_trans zl10 (Nat.le_of_eq z19.symm)
  have sz_pv : h0.size ≤ pv := Nat.le_trans K10.1 (Nat.le_of_eq z19.symm)
  have K19 := K10.ext E19
  have Ef_21 := Ef_12.ext E19
  have Ff_22 := Ff_13.ext E19
  have Ff_23 := Ff_14.ext E19
  have Ff_24 := Ff_15.ext E19
  have Ff_25 := Ff_16.ext E19
  have Cf_26 := Cf_17.ext E19
  have Cf_27 := Cf_18.ext E19
  have zl19 := Nat.le_trans zl10 E19.1
  refine Own.putFld 20 X19 hx hZ hown (host := "") (Or.inl (w 12 rfl)) Via.refl e19 Ff_23 Ef_21 (Or.inr ⟨(w 13 rfl), rfl, hnm⟩) (w 2 rfl) (ty := (.array .int)) (by decide) rfl rfl (hb hby d1_17) rfl ?_
  intro T28 h28 X28 e28 W28
  have N28 := Fr.snoc X28 N10 g_t
  have Ef_30 := Ef_21.wr W28
  have Ff_31 := Ff_22.other W28 (Or.inr (slot_ne (Or.inr (w 11 rfl)) (Or.inr (w 13 rfl)) (by decide) (t := (.array .int)) (t' := (.array .int)) (by decide) (by decide)))
  have Ff_32 := Ff_23.same W28
  have Ff_33 := Ff_24.other W28 (Or.inr (slot_ne (Or.inr (w 16 rfl)) (Or.inr (w 13 rfl)) (by decide) (t := (.array .long)) (t' := (.array .int)) (by decide) (by decide)))
  have Ff_34 := Ff_25.other W28 (Or.inr (slot_ne (Or.inl (w 18 rfl)) (Or.inr (w 13 rfl)) (by decide) (t := .int) (t' := (.array .int)) (by decide) (by decide)))
  have Cf_35 := Cf_26.other W28 ne_od_t
  have Cf_36 := Cf_27.other W28 (Ne.symm ne_t_nx)
  have Cf_37 := C19.other W28 (Ne.symm ne_t_pv)
  have zl28 := Nat.le_trans zl19 (Nat.le_of_eq W28.size.symm)
  have K28 := K19.wr W28 (Or.inl (List.mem_of_getElem? (i := 0) rfl))
  refine Own.aloadN 21 X28 hx (hb hby d1_20) rfl rfl rfl ?_
  refine Own.aloadN 22 X28 hx (hb hby d1_21) rfl rfl rfl ?_
  refine Own.nLen 23 X28 hx hZ e28 Cf_35 (hb hby d1_22) rfl ?_
  refine Own.axNew 25 4 X28 hx hZ (w 14 rfl) e28 (Own.N_nn (by omega)) (by rw [Own.N_idx (by omega)]; omega) (by decide) (hb hby d1_23) rfl (by decide) (by decide) ?_
  intro T38 h38 lb z38 X38 e38 E38 A38
  have ne_nx_lb : nx ≠ lb := Nat.ne_of_lt (Nat.lt_of_lt_of_le Cf_36.lt (Nat.le_of_eq z38.symm))
  have ne_od_lb : od ≠ lb := Nat.ne_of_lt (Nat.lt_of_lt_of_le Cf_35.lt (Nat.le_of_eq z38.symm))
  have ne_pv_lb : pv ≠ lb := Nat.ne_of_lt (Nat.lt_of_lt_of_le Cf_37.lt (Nat.le_of_eq z38.symm))
  have ne_t_lb : t ≠ lb := Nat.ne_of_lt (Nat.lt_of_lt_of_le Ef_30.lt (Nat.le_of_eq z38.symm))
  have g_lb : n0 ≤ lb := Nat.le_trans zl28 (Nat.le_of_eq z38.symm)
  have sz_lb : h0.size ≤ lb := Nat.le_trans K28.1 (Nat.le_of_eq z38.symm)
  have K38 := K28.ext E38
  have Ef_40 := Ef_30.ext E38
  have Ff_41 := Ff_31.ext E38
  have Ff_42 := Ff_32.ext E38
  have Ff_43 := Ff_33.ext E38
  have Ff_44 := Ff_34.ext E38
  have Cf_45 := Cf_35.ext E38
  have Cf_46 := Cf_36.ext E38
  have Cf_47 := Cf_37.ext E38
  have zl38 := Nat.le_trans zl28 E38.1
  have A_lb : Own.Ax Z h38 lb .long (Own.N (n)) := A38
  refine Own.putFld 28 X38 hx hZ hown (host := "") (Or.inl (w 15 rfl)) Via.refl e38 Ff_43 Ef_40 (Or.inr ⟨(w 16 rfl), rfl, hnm⟩) (w 2 rfl) (ty := (.array .long)) (by decide) rfl rfl (hb hby d1_25) rfl ?_
  intro T48 h48 X48 e48 W48
  have N48 := Fr.snoc X48 N28 g_t
  have Ef_50 := Ef_40.wr W48
  have Ff_51 := Ff_41.other W48 (Or.inr (slot_ne (Or.inr (w 11 rfl)) (Or.inr (w 16 rfl)) (by decide) (t := (.array .int)) (t' := (.array .long)) (by decide) (by decide)))
  have Ff_52 := Ff_42.other W48 (Or.inr (slot_ne (Or.inr (w 13 rfl)) (Or.inr (w 16 rfl)) (by decide) (t := (.array .int)) (t' := (.array .long)) (by decide) (by decide)))
  have Ff_53 := Ff_43.same W48
  have Ff_54 := Ff_44.other W48 (Or.inr (slot_ne (Or.inl (w 18 rfl)) (Or.inr (w 16 rfl)) (by decide) (t := .int) (t' := (.array .long)) (by decide) (by decide)))
  have Af_55 := A_lb.other W48 (Ne.symm ne_t_lb)
  have Cf_56 := Cf_45.other W48 ne_od_t
  have Cf_57 := Cf_46.other W48 (Ne.symm ne_t_nx)
  have Cf_58 := Cf_47.other W48 (Ne.symm ne_t_pv)
  have zl48 := Nat.le_trans zl38 (Nat.le_of_eq W48.size.symm)
  have K48 := K38.wr W48 (Or.inl (List.mem_of_getElem? (i := 0) rfl))
  refine Own.aloadN 29 X48 hx (hb hby d1_28) rfl rfl rfl ?_
  refine Own.aloadN 30 X48 hx (hb hby d1_29) rfl rfl rfl ?_
  refine Own.nLen 31 X48 hx hZ e48 Cf_56 (hb hby d1_30) rfl ?_
  have J41 : ∀ (v9 : Int32) (hv : v9 = own_e n o 0) (Ty : State) (Ly : List Loc) (Xy : Stand p l e ({ frames := 1, cells := 3, slots := 12, locals := 15 } : Room) s m #[(.ref t), (.ref od)] below meth c Ty Ly 3 12) (ey : Ty.heap = h48) (Ny : Fr n0 Ly), Own.Ends p.tables e below (fun v h L => v = none ∧ Fr n0 L ∧ Keep h0 h [t] ∧ ∃ nx pv lb fN fP, own_D n0 t nx pv lb ∧ h0.size ≤ nx ∧ h0.size ≤ pv ∧ h0.size ≤ lb ∧ own_L Z h t nx pv lb n (own_e n o 0) fN fP ∧ own_LL n o fN fP) (Own.FE s ({ frames := 1, cells := 3, slots := 12, locals := 15 } : Room).cells ({ frames := 1, cells := 3, slots := 12, locals := 15 } : Room).slots) (Ty.setTop (mkF m 41 #[.val (.ref t), .val (.ref od), .unset, .unset, .unset] [(.int v9), (.ref t)])) := by
    intro v9 hv Ty Ly Xy ey Ny
    subst hv
    refine Own.putFld 44 Xy hx hZ hown (host := "") (Or.inl (w 17 rfl)) Via.refl ey Ff_54 Ef_50 (Or.inl (w 18 rfl)) (w 2 rfl) (ty := .int) (by decide) rfl rfl (hb hby d1_41) rfl ?_
    intro T59 h59 X59 e59 W59
    have N59 := Fr.snoc X59 Ny g_t
    have Ef_61 := Ef_50.wr W59
    have Ff_62 := Ff_51.other W59 (Or.inr (slot_ne (Or.inr (w 11 rfl)) (Or.inl (w 18 rfl)) (by decide) (t := (.array .int)) (t' := .int) (by decide) (by decide)))
    have Ff_63 := Ff_52.other W59 (Or.inr (slot_ne (Or.inr (w 13 rfl)) (Or.inl (w 18 rfl)) (by decide) (t := (.array .int)) (t' := .int) (by decide) (by decide)))
    have Ff_64 := Ff_53.other W59 (Or.inr (slot_ne (Or.inr (w 16 rfl)) (Or.inl (w 18 rfl)) (by decide) (t := (.array .long)) (t' := .int) (by decide) (by decide)))
    have Ff_65 := Ff_54.same W59
    have Af_66 := Af_55.other W59 (Ne.symm ne_t_lb)
    have Cf_67 := Cf_56.other W59 ne_od_t
    have Cf_68 := Cf_57.other W59 (Ne.symm ne_t_nx)
    have Cf_69 := Cf_58.other W59 (Ne.symm ne_t_pv)
    have zl59 := Nat.le_trans zl48 (Nat.le_of_eq W59.size.symm)
    have K59 := K48.wr W59 (Or.inl (List.mem_of_getElem? (i := 0) rfl))
    refine Own.ldc2Long 47 X59 hx hZ ((4611686018427387904 : Int64)) hown (w 19 rfl) (hb hby d1_44) rfl ?_
    refine Own.iconst 48 X59 hx (Own.N 1) (hb hby d1_47) rfl rfl ?_
    refine Own.aloadN 49 X59 hx (hb hby d1_48) rfl rfl rfl ?_
    refine Own.nLen 50 X59 hx hZ e59 Cf_67 (hb hby d1_49) rfl ?_
    refine Own.callSt 53 2 [(.int (Own.N (1))), (.int (Own.N (n)))] [(.long (4611686018427387904 : Int64))] X59 hx hZ hown (m3 l Z a0 w 1 n _ (by omega) (by omega)) (w 20 rfl) (w 21 rfl) (w 22 rfl) (w 23 rfl) (by decide) e59 (by decide) (by decide) (by decide) (by decide) (by rw [hml]; rfl) (lenOf pd_0 rfl) rfl (Nat.le_of_eq rfl) (hb hby d1_50) rfl ?_
    rintro vv T70 L70 X70 ⟨rfl, hh70, rfl⟩
    have N70 := Fr.app N59 (Fr.nil _)
    refine Own.i2l 54 X70 hx (hb hby d1_53) rfl rfl ?_
    refine Own.ldiv 55 X70 hx (hb hby d1_54) rfl (own_l0 (by omega) (by omega)) rfl ?_
    refine Own.lstoreN 56 (fun v2_55 => #[.val (.ref t), .val (.ref od), .val (.long v2_55), .second, .unset]) X70 hx (hb hby d1_55) rfl (fun _ => rfl) fun v2_55 hv2_55 => ?_
    refine Own.iconst 57 X70 hx (Own.N 0) (hb hby d1_56) rfl rfl ?_
    refine Own.istoreV 59 #[.val (.ref t), .val (.ref od), .val (.long v2_55), .second, .val (.int (Own.N (0)))] X70 hx (hb hby d1_57) rfl rfl ?_
    have D00 : own_D n0 t nx pv lb := ⟨ne_t_nx, ne_t_pv, ne_t_lb, ne_nx_pv, ne_nx_lb, ne_pv_lb, g_t, g_nx, g_pv, g_lb⟩
    have JC : ∀ (kk ix : Nat) (gN gP : Nat → Int32) (Tq : State) (Lq : List Loc) (hq : Heap) (Xq : Stand p l e ({ frames := 1, cells := 3, slots := 12, locals := 15 } : Room) s m #[(.ref t), (.ref od)] below meth c Tq Lq 3 12) (eqq : Tq.heap = hq) (Nq : Fr n0 Lq) (Kq : Keep h0 hq [t]) (Sq : own_L Z hq t nx pv lb n (own_e n o 0) gN gP) (IV : ∀ k, k < ix → gN (o k) = own_e n o (k + 1) ∧ gP (o k) = own_p o k) (hi : ix ≤ n) (hk : n - ix < kk), Own.Ends p.tables e below (fun v h L => v = none ∧ Fr n0 L ∧ Keep h0 h [t] ∧ ∃ nx pv lb fN fP, own_D n0 t nx pv lb ∧ h0.size ≤ nx ∧ h0.size ≤ pv ∧ h0.size ≤ lb ∧ own_L Z h t nx pv lb n (own_e n o 0) fN fP ∧ own_LL n o fN fP) (Own.FE s ({ frames := 1, cells := 3, slots := 12, locals := 15 } : Room).cells ({ frames := 1, cells := 3, slots := 12, locals := 15 } : Room).slots) (Tq.setTop (mkF m 59 #[.val (.ref t), .val (.ref od), .val (.long v2_55), .second, .val (.int (Own.N (ix)))] [])) := by
      intro kk
      induction kk with
      | zero => intros; exfalso; omega
      | succ kk ih =>
        intro ix gN gP Tq Lq hq Xq eqq Nq Kq Sq IV hi hk
        have zlq := Nat.le_trans Z0 Kq.1
        have Cq := Co.keep Kq (ninS ne_od_t nin0)
        obtain ⟨E_71, Fne_71, Fpr_71, Fla_71, Ffi_71, Cnx_71, Cpv_71, Alb_71⟩ := Sq
        refine Own.iload 61 Xq hx (hb hby d1_59) rfl rfl ?_
        refine Own.aloadN 62 Xq hx (hb hby d1_61) rfl rfl rfl ?_
        refine Own.nLen 63 Xq hx hZ eqq Cq (hb hby d1_62) rfl ?_
        refine Own.nicmp_ge 138 66 Xq hx (hb hby d1_63) (by decide) rfl (by omega) (by omega) (fun tk => ?_) (fun tk => ?_)
        ·
          refine Own.retVoid Xq hx hlk hret (hb hby d1_138) (by decide) (by decide) ?_
          rw [eqq]
          exact ⟨rfl, Nq, Kq, nx, pv, lb, gN, gP, D00, sz_nx, sz_pv, sz_lb, ⟨E_71, Fne_71, Fpr_71, Fla_71, Ffi_71, Cnx_71, Cpv_71, Alb_71⟩, fun k hk => IV k (by omega)⟩
        ·
          have ob := (O ix (by omega)).1
          refine Own.aloadN 67 Xq hx (hb hby d1_66) rfl rfl rfl ?_
          refine Own.getFld 70 Xq hx hZ hown (host := "") (Or.inl (w 12 rfl)) Via.refl eqq Fpr_71 (hb hby d1_67) rfl ?_
          intro T72 X72 e72
          refine Own.aloadN 71 X72 hx (hb hby d1_70) rfl rfl rfl ?_
          refine Own.iload 73 X72 hx (hb hby d1_71) rfl rfl ?_
          refine Own.nLoad 74 (Own.N (o ix)) X72 hx hZ e72 Cq (by omega) (hO ix (by omega)) (hb hby d1_73) rfl ?_
          refine Own.iload 76 X72 hx (hb hby d1_74) rfl rfl ?_
          have J89 : ∀ (v9 : Int32) (hv : v9 = own_p o ix) (Ty : State) (Ly : List Loc) (Xy : Stand p l e ({ frames := 1, cells := 3, slots := 12, locals := 15 } : Room) s m #[(.ref t), (.ref od)] below meth c Ty Ly 3 12) (ey : Ty.heap = hq) (Ny : Fr n0 Ly), Own.Ends p.tables e below (fun v h L => v = none ∧ Fr n0 L ∧ Keep h0 h [t] ∧ ∃ nx pv lb fN fP, own_D n0 t nx pv lb ∧ h0.size ≤ nx ∧ h0.size ≤ pv ∧ h0.size ≤ lb ∧ own_L Z h t nx pv lb n (own_e n o 0) fN fP ∧ own_LL n o fN fP) (Own.FE s ({ frames := 1, cells := 3, slots := 12, locals := 15 } : Room).cells ({ frames := 1, cells := 3, slots := 12, locals := 15 } : Room).slots) (Ty.setTop (mkF m 89 #[.val (.ref t), .val (.ref od), .val (.long v2_55), .second, .val (.int (Own.N (ix)))] [(.int v9), (.int (Own.N (o ix))), (.ref pv)])) := by
            intro v9 hv Ty Ly Xy ey Ny
            subst hv
            refine Own.nStore 90 Xy hx hZ ey Cpv_71 (by omega) (hb hby d1_89) rfl ?_
            intro T73 h73 X73 e73 W73 C73
            have N73 := Fr.snoc X73 Ny g_pv
            have Ef_75 := E_71.wr W73
            have Ff_76 := Fne_71.other W73 (Or.inl ne_t_pv)
            have Ff_77 := Fpr_71.other W73 (Or.inl ne_t_pv)
            have Ff_78 := Fla_71.other W73 (Or.inl ne_t_pv)
            have Ff_79 := Ffi_71.other W73 (Or.inl ne_t_pv)
            have Af_80 := Alb_71.other W73 (Ne.symm ne_pv_lb)
            have Cf_81 := Cq.other W73 ne_od_pv
            have Cf_82 := Cnx_71.other W73 ne_nx_pv
            have zl73 := Nat.le_trans zlq (Nat.le_of_eq W73.size.symm)
            have K73 := Kq.wr W73 (Or.inr sz_pv)
            refine Own.aloadN 91 X73 hx (hb hby d1_90) rfl rfl rfl ?_
            refine Own.getFld 94 X73 hx hZ hown (host := "") (Or.inl (w 10 rfl)) Via.refl e73 Ff_76 (hb hby d1_91) rfl ?_
            intro T84 X84 e84
            refine Own.aloadN 95 X84 hx (hb hby d1_94) rfl rfl rfl ?_
            refine Own.iload 97 X84 hx (hb hby d1_95) rfl rfl ?_
            refine Own.nLoad 98 (Own.N (o ix)) X84 hx hZ e84 Cf_81 (by omega) (hO ix (by omega)) (hb hby d1_97) rfl ?_
            refine Own.iload 100 X84 hx (hb hby d1_98) rfl rfl ?_
            refine Own.iconst 101 X84 hx (Own.N 1) (hb hby d1_100) rfl rfl ?_
            refine Own.iadd 102 X84 hx (hb hby d1_101) rfl (Own.N_add _ _) ?_
            refine Own.aloadN 103 X84 hx (hb hby d1_102) rfl rfl rfl ?_
            refine Own.nLen 104 X84 hx hZ e84 Cf_81 (hb hby d1_103) rfl ?_
            have J117 : ∀ (v8 : Int32) (hv8 : v8 = own_e n o (ix + 1)) (Ty : State) (Ly : List Loc) (Xy : Stand p l e ({ frames := 1, cells := 3, slots := 12, locals := 15 } : Room) s m #[(.ref t), (.ref od)] below meth c Ty Ly 3 12) (ey : Ty.heap = h73) (Ny : Fr n0 Ly), Own.Ends p.tables e below (fun v h L => v = none ∧ Fr n0 L ∧ Keep h0 h [t] ∧ ∃ nx pv lb fN fP, own_D n0 t nx pv lb ∧ h0.size ≤ nx ∧ h0.size ≤ pv ∧ h0.size ≤ lb ∧ own_L Z h t nx pv lb n (own_e n o 0) fN fP ∧ own_LL n o fN fP) (Own.FE s ({ frames := 1, cells := 3, slots := 12, locals := 15 } : Room).cells ({ frames := 1, cells := 3, slots := 12, locals := 15 } : Room).slots) (Ty.setTop (mkF m 117 #[.val (.ref t), .val (.ref od), .val (.long v2_55), .second, .val (.int (Own.N (ix)))] [(.int v8), (.int (Own.N (o ix))), (.ref nx)])) := by
              intro v8 hv8 Ty Ly Xy ey Ny
              subst hv8
              refine Own.nStore 118 Xy hx hZ ey Cf_82 (by omega) (hb hby d1_117) rfl ?_
              intro T85 h85 X85 e85 W85 C85
              have N85 := Fr.snoc X85 Ny g_nx
              have Ef_87 := Ef_75.wr W85
              have Ff_88 := Ff_76.other W85 (Or.inl ne_t_nx)
              have Ff_89 := Ff_77.other W85 (Or.inl ne_t_nx)
              have Ff_90 := Ff_78.other W85 (Or.inl ne_t_nx)
              have Ff_91 := Ff_79.other W85 (Or.inl ne_t_nx)
              have Af_92 := Af_80.other W85 (Ne.symm ne_nx_lb)
              have Cf_93 := Cf_81.other W85 ne_od_nx
              have Cf_95 := C73.other W85 (Ne.symm ne_nx_pv)
              have zl85 := Nat.le_trans zl73 (Nat.le_of_eq W85.size.symm)
              have K85 := K73.wr W85 (Or.inr sz_nx)
              refine Own.aloadN 119 X85 hx (hb hby d1_118) rfl rfl rfl ?_
              refine Own.getFld 122 X85 hx hZ hown (host := "") (Or.inl (w 15 rfl)) Via.refl e85 Ff_90 (hb hby d1_119) rfl ?_
              intro T96 X96 e96
              refine Own.aloadN 123 X96 hx (hb hby d1_122) rfl rfl rfl ?_
              refine Own.iload 125 X96 hx (hb hby d1_123) rfl rfl ?_
              refine Own.nLoad 126 (Own.N (o ix)) X96 hx hZ e96 Cf_93 (by omega) (hO ix (by omega)) (hb hby d1_125) rfl ?_
              refine Own.iload 128 X96 hx (hb hby d1_126) rfl rfl ?_
              refine Own.i2l 129 X96 hx (hb hby d1_128) rfl rfl ?_
              refine Own.lloadN 130 X96 hx (hb hby d1_129) rfl rfl ?_
              refine Own.lmul 131 X96 hx (hb hby d1_130) rfl rfl ?_
              refine Own.axStoreJ 132 X96 hx hZ e96 Af_92 (Own.inN (by omega) (by omega)) (hb hby d1_131) rfl ?_
              intro T97 h97 X97 e97 W97 A97
              have N97 := Fr.snoc X97 N85 g_lb
              have Ef_99 := Ef_87.wr W97
              have Ff_100 := Ff_88.other W97 (Or.inl ne_t_lb)
              have Ff_101 := Ff_89.other W97 (Or.inl ne_t_lb)
              have Ff_102 := Ff_90.other W97 (Or.inl ne_t_lb)
              have Ff_103 := Ff_91.other W97 (Or.inl ne_t_lb)
              have Cf_105 := Cf_93.other W97 ne_od_lb
              have Cf_106 := Cf_95.other W97 ne_pv_lb
              have Cf_107 := C85.other W97 ne_nx_lb
              have zl97 := Nat.le_trans zl85 (Nat.le_of_eq W97.size.symm)
              have K97 := K85.wr W97 (Or.inr sz_lb)
              refine Own.iinc 135 (fun c_108 => #[.val (.ref t), .val (.ref od), .val (.long v2_55), .second, .val (.int c_108)]) X97 hx (Own.N 1) (hb hby d1_132) rfl rfl rfl (fun _ => rfl) fun c_108 hc_108 => ?_
              obtain rfl : c_108 = Own.N (ix + 1) := hc_108.trans (Own.N_add _ _)
              refine Own.goto 59 X97 hx (hb hby d1_135) (by decide) ?_
              exact ih (ix + 1) _ _ _ _ _ X97 e97 N97 K97 ⟨Ef_99, Ff_100, Ff_101, Ff_102, Ff_103, Cf_107, Cf_106, A97⟩ (fun k hk => by
                  by_cases d9 : k = ix
                  · rw [d9]; exact ⟨Own.upd_hit rfl, Own.upd_hit rfl⟩
                  · have d8 : o k ≠ o ix := fun z => d9 ((O k (by omega)).2 ix (by omega) z)
                    rw [Own.upd_miss d8, Own.upd_miss d8]; exact IV k (by omega)) (by omega) (by omega)
            refine Own.nicmp_ne 111 107 X84 hx (hb hby d1_104) (by decide) rfl (by omega) (by omega) (fun q4 => ?_) (fun q4 => ?_)
            ·
              have ob1 := (O (ix + 1) (by omega)).1
              refine Own.aloadN 112 X84 hx (hb hby d1_111) rfl rfl rfl ?_
              refine Own.iload 114 X84 hx (hb hby d1_112) rfl rfl ?_
              refine Own.iconst 115 X84 hx (Own.N 1) (hb hby d1_114) rfl rfl ?_
              refine Own.iadd 116 X84 hx (hb hby d1_115) rfl (Own.N_add _ _) ?_
              refine Own.nLoad 117 (Own.N (o (ix + 1))) X84 hx hZ e84 Cf_81 (by omega) (hO (ix + 1) (by omega)) (hb hby d1_116) rfl ?_
              exact J117 _ (own_e_lt (by omega)).symm _ _ X84 e84 N73
            ·
              refine Own.iconst 108 X84 hx ((-1 : Int32)) (hb hby d1_107) rfl rfl ?_
              refine Own.goto 117 X84 hx (hb hby d1_108) (by decide) ?_
              exact J117 _ (own_e_ge (by omega)).symm _ _ X84 e84 N73
          refine Own.nif_ne 83 79 X72 hx (hb hby d1_76) (by decide) rfl (by omega) (fun q3 => ?_) (fun q3 => ?_)
          ·
            have ob1 := (O (ix - 1) (by omega)).1
            refine Own.aloadN 84 X72 hx (hb hby d1_83) rfl rfl rfl ?_
            refine Own.iload 86 X72 hx (hb hby d1_84) rfl rfl ?_
            refine Own.iconst 87 X72 hx (Own.N 1) (hb hby d1_86) rfl rfl ?_
            refine Own.isub 88 X72 hx (hb hby d1_87) rfl (Own.N_sub (by omega)) ?_
            refine Own.nLoad 89 (Own.N (o (ix - 1))) X72 hx hZ e72 Cq (by omega) (hO (ix - 1) (by omega)) (hb hby d1_88) rfl ?_
            exact J89 _ (own_p_s (by omega)).symm _ _ X72 e72 Nq
          ·
            refine Own.iconst 80 X72 hx ((-1 : Int32)) (hb hby d1_79) rfl rfl ?_
            refine Own.goto 89 X72 hx (hb hby d1_80) (by decide) ?_
            exact J89 _ (own_p_0 (by omega)).symm _ _ X72 e72 Nq
    exact JC (n + 1) 0 _ _ _ _ _ X70 hh70 N70 K59 ⟨Ef_61, Ff_62, Ff_63, Ff_64, Ff_65, Cf_68, Cf_69, Af_66⟩ (fun k hk => absurd hk (by omega)) (by omega) (by omega)
  refine Own.nif_ne 38 34 X48 hx (hb hby d1_31) (by decide) rfl (by omega) (fun q0 => ?_) (fun q0 => ?_)
  ·
    refine Own.aloadN 39 X48 hx (hb hby d1_38) rfl rfl rfl ?_
    refine Own.iconst 40 X48 hx (Own.N 0) (hb hby d1_39) rfl rfl ?_
    refine Own.nLoad 41 (Own.N (o 0)) X48 hx hZ e48 Cf_56 (by omega) (hO 0 (by omega)) (hb hby d1_40) rfl ?_
    exact J41 _ (own_e_lt (by omega)).symm _ _ X48 e48 N48
  ·
    refine Own.iconst 35 X48 hx ((-1 : Int32)) (hb hby d1_34) rfl rfl ?_
    refine Own.goto 41 X48 hx (hb hby d1_35) (by decide) ?_
    exact J41 _ (own_e_ge (by omega)).symm _ _ X48 e48 N48
theorem d7_0 : decode prog_14_method_8_code 0 = .ok (.aload_n 0, 1) := by decide +kernel
theorem d7_1 : decode prog_14_method_8_code 1 = .ok (.getfield 13, 3) := by decide +kernel
theorem d7_4 : decode prog_14_method_8_code 4 = .ok (.iload_n 1, 1) := by decide +kernel
theorem d7_5 : decode prog_14_method_8_code 5 = .ok (.iaload, 1) := by decide +kernel
theorem d7_6 : decode prog_14_method_8_code 6 = .ok (.iconst (-1), 1) := by decide +kernel
theorem d7_7 : decode prog_14_method_8_code 7 = .ok (.if_icmp .ne 9, 3) := by decide +kernel
theorem d7_10 : decode prog_14_method_8_code 10 = .ok (.ldc2_w 36, 3) := by decide +kernel
theorem d7_13 : decode prog_14_method_8_code 13 = .ok (.goto 14, 3) := by decide +kernel
theorem d7_16 : decode prog_14_method_8_code 16 = .ok (.aload_n 0, 1) := by decide +kernel
theorem d7_17 : decode prog_14_method_8_code 17 = .ok (.getfield 16, 3) := by decide +kernel
theorem d7_20 : decode prog_14_method_8_code 20 = .ok (.aload_n 0, 1) := by decide +kernel
theorem d7_21 : decode prog_14_method_8_code 21 = .ok (.getfield 13, 3) := by decide +kernel
theorem d7_24 : decode prog_14_method_8_code 24 = .ok (.iload_n 1, 1) := by decide +kernel
theorem d7_25 : decode prog_14_method_8_code 25 = .ok (.iaload, 1) := by decide +kernel
theorem d7_26 : decode prog_14_method_8_code 26 = .ok (.laload, 1) := by decide +kernel
theorem d7_27 : decode prog_14_method_8_code 27 = .ok (.lstore_n 2, 1) := by decide +kernel
theorem d7_28 : decode prog_14_method_8_code 28 = .ok (.aload_n 0, 1) := by decide +kernel
theorem d7_29 : decode prog_14_method_8_code 29 = .ok (.getfield 7, 3) := by decide +kernel
theorem d7_32 : decode prog_14_method_8_code 32 = .ok (.iload_n 1, 1) := by decide +kernel
theorem d7_33 : decode prog_14_method_8_code 33 = .ok (.iaload, 1) := by decide +kernel
theorem d7_34 : decode prog_14_method_8_code 34 = .ok (.iconst (-1), 1) := by decide +kernel
theorem d7_35 : decode prog_14_method_8_code 35 = .ok (.if_icmp .ne 9, 3) := by decide +kernel
theorem d7_38 : decode prog_14_method_8_code 38 = .ok (.ldc2_w 24, 3) := by decide +kernel
theorem d7_41 : decode prog_14_method_8_code 41 = .ok (.goto 14, 3) := by decide +kernel
theorem d7_44 : decode prog_14_method_8_code 44 = .ok (.aload_n 0, 1) := by decide +kernel
theorem d7_45 : decode prog_14_method_8_code 45 = .ok (.getfield 16, 3) := by decide +kernel
theorem d7_48 : decode prog_14_method_8_code 48 = .ok (.aload_n 0, 1) := by decide +kernel
theorem d7_49 : decode prog_14_method_8_code 49 = .ok (.getfield 7, 3) := by decide +kernel
theorem d7_52 : decode prog_14_method_8_code 52 = .ok (.iload_n 1, 1) := by decide +kernel
theorem d7_53 : decode prog_14_method_8_code 53 = .ok (.iaload, 1) := by decide +kernel
theorem d7_54 : decode prog_14_method_8_code 54 = .ok (.laload, 1) := by decide +kernel
theorem d7_55 : decode prog_14_method_8_code 55 = .ok (.lstore 4, 2) := by decide +kernel
theorem d7_57 : decode prog_14_method_8_code 57 = .ok (.lload 4, 2) := by decide +kernel
theorem d7_59 : decode prog_14_method_8_code 59 = .ok (.lload_n 2, 1) := by decide +kernel
theorem d7_60 : decode prog_14_method_8_code 60 = .ok (.lsub, 1) := by decide +kernel
theorem d7_61 : decode prog_14_method_8_code 61 = .ok (.ldc2_w 38, 3) := by decide +kernel
theorem d7_64 : decode prog_14_method_8_code 64 = .ok (.lcmp, 1) := by decide +kernel
theorem d7_65 : decode prog_14_method_8_code 65 = .ok (.ifCond .lt 20, 3) := by decide +kernel
theorem d7_68 : decode prog_14_method_8_code 68 = .ok (.aload_n 0, 1) := by decide +kernel
theorem d7_69 : decode prog_14_method_8_code 69 = .ok (.getfield 16, 3) := by decide +kernel
theorem d7_72 : decode prog_14_method_8_code 72 = .ok (.iload_n 1, 1) := by decide +kernel
theorem d7_73 : decode prog_14_method_8_code 73 = .ok (.lload_n 2, 1) := by decide +kernel
theorem d7_74 : decode prog_14_method_8_code 74 = .ok (.lload 4, 2) := by decide +kernel
theorem d7_76 : decode prog_14_method_8_code 76 = .ok (.lload_n 2, 1) := by decide +kernel
theorem d7_77 : decode prog_14_method_8_code 77 = .ok (.lsub, 1) := by decide +kernel
theorem d7_78 : decode prog_14_method_8_code 78 = .ok (.ldc2_w 38, 3) := by decide +kernel
theorem d7_81 : decode prog_14_method_8_code 81 = .ok (.ldiv, 1) := by decide +kernel
theorem d7_82 : decode prog_14_method_8_code 82 = .ok (.ladd, 1) := by decide +kernel
theorem d7_83 : decode prog_14_method_8_code 83 = .ok (.lastore, 1) := by decide +kernel
theorem d7_84 : decode prog_14_method_8_code 84 = .ok (.return_, 1) := by decide +kernel
theorem d7_85 : decode prog_14_method_8_code 85 = .ok (.lconst 0, 1) := by decide +kernel
theorem d7_86 : decode prog_14_method_8_code 86 = .ok (.lload_n 2, 1) := by decide +kernel
theorem d7_87 : decode prog_14_method_8_code 87 = .ok (.invokestatic 40, 3) := by decide +kernel
theorem d7_90 : decode prog_14_method_8_code 90 = .ok (.lstore 6, 2) := by decide +kernel
theorem d7_92 : decode prog_14_method_8_code 92 = .ok (.iload_n 1, 1) := by decide +kernel
theorem d7_93 : decode prog_14_method_8_code 93 = .ok (.istore 8, 2) := by decide +kernel
theorem d7_95 : decode prog_14_method_8_code 95 = .ok (.iload_n 1, 1) := by decide +kernel
theorem d7_96 : decode prog_14_method_8_code 96 = .ok (.istore 9, 2) := by decide +kernel
theorem d7_98 : decode prog_14_method_8_code 98 = .ok (.lconst 1, 1) := by decide +kernel
theorem d7_99 : decode prog_14_method_8_code 99 = .ok (.lstore 10, 2) := by decide +kernel
theorem d7_101 : decode prog_14_method_8_code 101 = .ok (.iconst 1, 1) := by decide +kernel
theorem d7_102 : decode prog_14_method_8_code 102 = .ok (.istore 12, 2) := by decide +kernel
theorem d7_104 : decode prog_14_method_8_code 104 = .ok (.lload 6, 2) := by decide +kernel
theorem d7_106 : decode prog_14_method_8_code 106 = .ok (.iload 12, 2) := by decide +kernel
theorem d7_108 : decode prog_14_method_8_code 108 = .ok (.lushr, 1) := by decide +kernel
theorem d7_109 : decode prog_14_method_8_code 109 = .ok (.iload 12, 2) := by decide +kernel
theorem d7_111 : decode prog_14_method_8_code 111 = .ok (.lshl, 1) := by decide +kernel
theorem d7_112 : decode prog_14_method_8_code 112 = .ok (.lstore 13, 2) := by decide +kernel
theorem d7_114 : decode prog_14_method_8_code 114 = .ok (.lload 13, 2) := by decide +kernel
theorem d7_116 : decode prog_14_method_8_code 116 = .ok (.lconst 1, 1) := by decide +kernel
theorem d7_117 : decode prog_14_method_8_code 117 = .ok (.iload 12, 2) := by decide +kernel
theorem d7_119 : decode prog_14_method_8_code 119 = .ok (.lshl, 1) := by decide +kernel
theorem d7_120 : decode prog_14_method_8_code 120 = .ok (.ladd, 1) := by decide +kernel
theorem d7_121 : decode prog_14_method_8_code 121 = .ok (.lstore 15, 2) := by decide +kernel
theorem d7_123 : decode prog_14_method_8_code 123 = .ok (.aload_n 0, 1) := by decide +kernel
theorem d7_124 : decode prog_14_method_8_code 124 = .ok (.getfield 13, 3) := by decide +kernel
theorem d7_127 : decode prog_14_method_8_code 127 = .ok (.iload 8, 2) := by decide +kernel
theorem d7_129 : decode prog_14_method_8_code 129 = .ok (.iaload, 1) := by decide +kernel
theorem d7_130 : decode prog_14_method_8_code 130 = .ok (.iconst (-1), 1) := by decide +kernel
theorem d7_131 : decode prog_14_method_8_code 131 = .ok (.if_icmp .eq 39, 3) := by decide +kernel
theorem d7_134 : decode prog_14_method_8_code 134 = .ok (.aload_n 0, 1) := by decide +kernel
theorem d7_135 : decode prog_14_method_8_code 135 = .ok (.getfield 16, 3) := by decide +kernel
theorem d7_138 : decode prog_14_method_8_code 138 = .ok (.aload_n 0, 1) := by decide +kernel
theorem d7_139 : decode prog_14_method_8_code 139 = .ok (.getfield 13, 3) := by decide +kernel
theorem d7_142 : decode prog_14_method_8_code 142 = .ok (.iload 8, 2) := by decide +kernel
theorem d7_144 : decode prog_14_method_8_code 144 = .ok (.iaload, 1) := by decide +kernel
theorem d7_145 : decode prog_14_method_8_code 145 = .ok (.laload, 1) := by decide +kernel
theorem d7_146 : decode prog_14_method_8_code 146 = .ok (.lload 13, 2) := by decide +kernel
theorem d7_148 : decode prog_14_method_8_code 148 = .ok (.lcmp, 1) := by decide +kernel
theorem d7_149 : decode prog_14_method_8_code 149 = .ok (.ifCond .lt 21, 3) := by decide +kernel
theorem d7_152 : decode prog_14_method_8_code 152 = .ok (.aload_n 0, 1) := by decide +kernel
theorem d7_153 : decode prog_14_method_8_code 153 = .ok (.getfield 13, 3) := by decide +kernel
theorem d7_156 : decode prog_14_method_8_code 156 = .ok (.iload 8, 2) := by decide +kernel
theorem d7_158 : decode prog_14_method_8_code 158 = .ok (.iaload, 1) := by decide +kernel
theorem d7_159 : decode prog_14_method_8_code 159 = .ok (.istore 8, 2) := by decide +kernel
theorem d7_161 : decode prog_14_method_8_code 161 = .ok (.lload 10, 2) := by decide +kernel
theorem d7_163 : decode prog_14_method_8_code 163 = .ok (.lconst 1, 1) := by decide +kernel
theorem d7_164 : decode prog_14_method_8_code 164 = .ok (.ladd, 1) := by decide +kernel
theorem d7_165 : decode prog_14_method_8_code 165 = .ok (.lstore 10, 2) := by decide +kernel
theorem d7_167 : decode prog_14_method_8_code 167 = .ok (.goto (-44), 3) := by decide +kernel
theorem d7_170 : decode prog_14_method_8_code 170 = .ok (.aload_n 0, 1) := by decide +kernel
theorem d7_171 : decode prog_14_method_8_code 171 = .ok (.getfield 7, 3) := by decide +kernel
theorem d7_174 : decode prog_14_method_8_code 174 = .ok (.iload 9, 2) := by decide +kernel
theorem d7_176 : decode prog_14_method_8_code 176 = .ok (.iaload, 1) := by decide +kernel
theorem d7_177 : decode prog_14_method_8_code 177 = .ok (.iconst (-1), 1) := by decide +kernel
theorem d7_178 : decode prog_14_method_8_code 178 = .ok (.if_icmp .eq 39, 3) := by decide +kernel
theorem d7_181 : decode prog_14_method_8_code 181 = .ok (.aload_n 0, 1) := by decide +kernel
theorem d7_182 : decode prog_14_method_8_code 182 = .ok (.getfield 16, 3) := by decide +kernel
theorem d7_185 : decode prog_14_method_8_code 185 = .ok (.aload_n 0, 1) := by decide +kernel
theorem d7_186 : decode prog_14_method_8_code 186 = .ok (.getfield 7, 3) := by decide +kernel
theorem d7_189 : decode prog_14_method_8_code 189 = .ok (.iload 9, 2) := by decide +kernel
theorem d7_191 : decode prog_14_method_8_code 191 = .ok (.iaload, 1) := by decide +kernel
theorem d7_192 : decode prog_14_method_8_code 192 = .ok (.laload, 1) := by decide +kernel
theorem d7_193 : decode prog_14_method_8_code 193 = .ok (.lload 15, 2) := by decide +kernel
theorem d7_195 : decode prog_14_method_8_code 195 = .ok (.lcmp, 1) := by decide +kernel
theorem d7_196 : decode prog_14_method_8_code 196 = .ok (.ifCond .ge 21, 3) := by decide +kernel
theorem d7_199 : decode prog_14_method_8_code 199 = .ok (.aload_n 0, 1) := by decide +kernel
theorem d7_200 : decode prog_14_method_8_code 200 = .ok (.getfield 7, 3) := by decide +kernel
theorem d7_203 : decode prog_14_method_8_code 203 = .ok (.iload 9, 2) := by decide +kernel
theorem d7_205 : decode prog_14_method_8_code 205 = .ok (.iaload, 1) := by decide +kernel
theorem d7_206 : decode prog_14_method_8_code 206 = .ok (.istore 9, 2) := by decide +kernel
theorem d7_208 : decode prog_14_method_8_code 208 = .ok (.lload 10, 2) := by decide +kernel
theorem d7_210 : decode prog_14_method_8_code 210 = .ok (.lconst 1, 1) := by decide +kernel
theorem d7_211 : decode prog_14_method_8_code 211 = .ok (.ladd, 1) := by decide +kernel
theorem d7_212 : decode prog_14_method_8_code 212 = .ok (.lstore 10, 2) := by decide +kernel
theorem d7_214 : decode prog_14_method_8_code 214 = .ok (.goto (-44), 3) := by decide +kernel
theorem d7_217 : decode prog_14_method_8_code 217 = .ok (.lload 10, 2) := by decide +kernel
theorem d7_219 : decode prog_14_method_8_code 219 = .ok (.getstatic 43, 3) := by decide +kernel
theorem d7_222 : decode prog_14_method_8_code 222 = .ok (.iload 12, 2) := by decide +kernel
theorem d7_224 : decode prog_14_method_8_code 224 = .ok (.laload, 1) := by decide +kernel
theorem d7_225 : decode prog_14_method_8_code 225 = .ok (.lcmp, 1) := by decide +kernel
theorem d7_226 : decode prog_14_method_8_code 226 = .ok (.ifCond .gt 56, 3) := by decide +kernel
theorem d7_229 : decode prog_14_method_8_code 229 = .ok (.lconst 1, 1) := by decide +kernel
theorem d7_230 : decode prog_14_method_8_code 230 = .ok (.iload 12, 2) := by decide +kernel
theorem d7_232 : decode prog_14_method_8_code 232 = .ok (.lshl, 1) := by decide +kernel
theorem d7_233 : decode prog_14_method_8_code 233 = .ok (.lload 10, 2) := by decide +kernel
theorem d7_235 : decode prog_14_method_8_code 235 = .ok (.ldiv, 1) := by decide +kernel
theorem d7_236 : decode prog_14_method_8_code 236 = .ok (.lstore 17, 2) := by decide +kernel
theorem d7_238 : decode prog_14_method_8_code 238 = .ok (.lload 13, 2) := by decide +kernel
theorem d7_240 : decode prog_14_method_8_code 240 = .ok (.lstore 19, 2) := by decide +kernel
theorem d7_242 : decode prog_14_method_8_code 242 = .ok (.iload 8, 2) := by decide +kernel
theorem d7_244 : decode prog_14_method_8_code 244 = .ok (.istore 21, 2) := by decide +kernel
theorem d7_246 : decode prog_14_method_8_code 246 = .ok (.aload_n 0, 1) := by decide +kernel
theorem d7_247 : decode prog_14_method_8_code 247 = .ok (.getfield 16, 3) := by decide +kernel
theorem d7_250 : decode prog_14_method_8_code 250 = .ok (.iload 21, 2) := by decide +kernel
theorem d7_252 : decode prog_14_method_8_code 252 = .ok (.lload 19, 2) := by decide +kernel
theorem d7_254 : decode prog_14_method_8_code 254 = .ok (.lastore, 1) := by decide +kernel
theorem d7_255 : decode prog_14_method_8_code 255 = .ok (.lload 19, 2) := by decide +kernel
theorem d7_257 : decode prog_14_method_8_code 257 = .ok (.lload 17, 2) := by decide +kernel
theorem d7_259 : decode prog_14_method_8_code 259 = .ok (.ladd, 1) := by decide +kernel
theorem d7_260 : decode prog_14_method_8_code 260 = .ok (.lstore 19, 2) := by decide +kernel
theorem d7_262 : decode prog_14_method_8_code 262 = .ok (.iload 21, 2) := by decide +kernel
theorem d7_264 : decode prog_14_method_8_code 264 = .ok (.iload 9, 2) := by decide +kernel
theorem d7_266 : decode prog_14_method_8_code 266 = .ok (.if_icmp .ne 4, 3) := by decide +kernel
theorem d7_269 : decode prog_14_method_8_code 269 = .ok (.return_, 1) := by decide +kernel
theorem d7_270 : decode prog_14_method_8_code 270 = .ok (.aload_n 0, 1) := by decide +kernel
theorem d7_271 : decode prog_14_method_8_code 271 = .ok (.getfield 7, 3) := by decide +kernel
theorem d7_274 : decode prog_14_method_8_code 274 = .ok (.iload 21, 2) := by decide +kernel
theorem d7_276 : decode prog_14_method_8_code 276 = .ok (.iaload, 1) := by decide +kernel
theorem d7_277 : decode prog_14_method_8_code 277 = .ok (.istore 21, 2) := by decide +kernel
theorem d7_279 : decode prog_14_method_8_code 279 = .ok (.goto (-33), 3) := by decide +kernel
theorem d7_282 : decode prog_14_method_8_code 282 = .ok (.iinc 12 1, 3) := by decide +kernel
theorem d7_285 : decode prog_14_method_8_code 285 = .ok (.goto (-181), 3) := by decide +kernel
set_option maxRecDepth 65536 in
set_option maxHeartbeats 40000000 in
theorem m7 (l : Launch) (Z : State) (a0 : Array Value) (w : ∀ (i : Nat) {d : Jvm.Cond}, tables_1[i]? = some d → d.before a0 Z = true) (t : Addr) (nx pv lb room : Addr) (kr : ClassId) (n n0 : Nat) (fs : Int32) (o : Nat → Nat) (fN fP : Nat → Int32) (kx : Nat) (h0 : Heap) (Z0 : n0 ≤ h0.size) (X00 : Old Z n0 h0) (SR : Sta Z Z.heap "com/example/leveler/leveler/crossing/OrderedList" "ROOM" "[J" (.ref room)) (VR : own_room Z room kr) (D0 : own_D n0 t nx pv lb) (S0 : own_L Z h0 t nx pv lb n fs fN fP) (H : own_LL n o fN fP) (O : own_Or n n o) (bn : n ≤ 4) (hk : kx < n) :
    Own.Met l Z (⟨"com/example/leveler/leveler/crossing/OrderedList", "relabel", "(I)V"⟩ : MethodName) prog_14_method_8_code 22 none [] ({ frames := 1, cells := 0, slots := 0, locals := 15 } : Room) #[(.ref t), (.int (Own.N (o kx)))] h0 (fun v h L => v = none ∧ Fr n0 L ∧ Keep h0 h [lb] ∧ Own.Ax Z h lb .long (Own.N n)) := by
  refine Own.Met.of (plainFor_of_name (by first | (simp [plainName, overriddenIn]; done) | decide +kernel)) ?_
  intro p e s m below meth c T0 hx hby hml hown hnm hret hlk hZ X0 e0
  have hown : s.vm.findClass "com/example/leveler/leveler/crossing/OrderedList" = some m.cls := hown
  have hml : c.maxLocals = 22 := hml
  have hnm : meth.name = "relabel" := hnm
  have ef : entryFrame m #[(.ref t), (.int (Own.N (o kx)))] 22 = mkF m 0 #[.val (.ref t), .val (.int (Own.N (o kx))), .unset, .unset, .unset, .unset, .unset, .unset, .unset, .unset, .unset, .unset, .unset, .unset, .unset, .unset, .unset, .unset, .unset, .unset, .unset, .unset] [] := by first | (simp [entryFrame, mkF, argsToLocals, Value.category]; done) | rfl
  rw [ef]
  have S0' := S0
  have N0 := Fr.nil n0
  have D00 := D0
  obtain ⟨ne_t_nx, ne_t_pv, ne_t_lb, ne_nx_pv, ne_nx_lb, ne_pv_lb, g_t, g_nx, g_pv, g_lb⟩ := D0
  obtain ⟨E_1, Fne_1, Fpr_1, Fla_1, Ffi_1, Cnx_1, Cpv_1, Alb_1⟩ := S0
  have ob := (O kx hk).1
  have obs := fun k hk => (O k hk).1
  have J27 : ∀ (low : Int64) (Ty : State) (Ly : List Loc) (Xy : Stand p l e ({ frames := 1, cells := 0, slots := 0, locals := 15 } : Room) s m #[(.ref t), (.int (Own.N (o kx)))] below meth c Ty Ly 0 0) (ey : Ty.heap = h0) (Ny : Fr n0 Ly), Own.Ends p.tables e below (fun v h L => v = none ∧ Fr n0 L ∧ Keep h0 h [lb] ∧ Own.Ax Z h lb .long (Own.N n)) (Own.FE s ({ frames := 1, cells := 0, slots := 0, locals := 15 } : Room).cells ({ frames := 1, cells := 0, slots := 0, locals := 15 } : Room).slots) (Ty.setTop (mkF m 27 #[.val (.ref t), .val (.int (Own.N (o kx))), .unset, .unset, .unset, .unset, .unset, .unset, .unset, .unset, .unset, .unset, .unset, .unset, .unset, .unset, .unset, .unset, .unset, .unset, .unset, .unset] [(.long low)])) := by
    intro low Ty Ly Xy ey Ny
    refine Own.lstoreNV 28 #[.val (.ref t), .val (.int (Own.N (o kx))), .val (.long low), .second, .unset, .unset, .unset, .unset, .unset, .unset, .unset, .unset, .unset, .unset, .unset, .unset, .unset, .unset, .unset, .unset, .unset, .unset] Xy hx (hb hby d7_27) rfl rfl ?_
    have J55 : ∀ (high : Int64) (Ty : State) (Ly : List Loc) (Xy : Stand p l e ({ frames := 1, cells := 0, slots := 0, locals := 15 } : Room) s m #[(.ref t), (.int (Own.N (o kx)))] below meth c Ty Ly 0 0) (ey : Ty.heap = h0) (Ny : Fr n0 Ly), Own.Ends p.tables e below (fun v h L => v = none ∧ Fr n0 L ∧ Keep h0 h [lb] ∧ Own.Ax Z h lb .long (Own.N n)) (Own.FE s ({ frames := 1, cells := 0, slots := 0, locals := 15 } : Room).cells ({ frames := 1, cells := 0, slots := 0, locals := 15 } : Room).slots) (Ty.setTop (mkF m 55 #[.val (.ref t), .val (.int (Own.N (o kx))), .val (.long low), .second, .unset, .unset, .unset, .unset, .unset, .unset, .unset, .unset, .unset, .unset, .unset, .unset, .unset, .unset, .unset, .unset, .unset, .unset] [(.long high)])) := by
      intro high Ty Ly Xy ey Ny
      refine Own.lstoreV 57 #[.val (.ref t), .val (.int (Own.N (o kx))), .val (.long low), .second, .val (.long high), .second, .unset, .unset, .unset, .unset, .unset, .unset, .unset, .unset, .unset, .unset, .unset, .unset, .unset, .unset, .unset, .unset] Xy hx (hb hby d7_55) rfl rfl ?_
      refine Own.lload 59 Xy hx (hb hby d7_57) rfl rfl ?_
      refine Own.lloadN 60 Xy hx (hb hby d7_59) rfl rfl ?_
      refine Own.lsub 61 Xy hx (hb hby d7_60) rfl rfl ?_
      refine Own.ldc2Long 64 Xy hx hZ ((2 : Int64)) hown (w 43 rfl) (hb hby d7_61) rfl ?_
      refine Own.lif_lt 85 68 Xy hx (hb hby d7_64) rfl (hb hby d7_65) (by decide) rfl (fun q => ?_) (fun q => ?_)
      ·
        refine Own.lconst 86 Xy hx ((0 : Int64)) (hb hby d7_85) rfl rfl ?_
        refine Own.lloadN 87 Xy hx (hb hby d7_86) rfl rfl ?_
        refine Own.callSt 90 0 [(.long (0 : Int64)), (.long low)] [] Xy hx hZ hown (m11 l Z a0 w _ _ _) (w 54 rfl) (w 55 rfl) (w 22 rfl) (w 56 rfl) (by decide) ey (by decide) (by decide) (by decide) (by decide) (by rw [hml]; rfl) (lenOf pd_1 rfl) rfl (Nat.le_of_eq rfl) (hb hby d7_87) rfl ?_
        rintro vv T2 L2 X2 ⟨rr2, rfl, hh2, rfl⟩
        have N2 := Fr.app Ny (Fr.nil _)
        refine Own.lstoreV 92 #[.val (.ref t), .val (.int (Own.N (o kx))), .val (.long low), .second, .val (.long high), .second, .val (.long rr2), .second, .unset, .unset, .unset, .unset, .unset, .unset, .unset, .unset, .unset, .unset, .unset, .unset, .unset, .unset] X2 hx (hb hby d7_90) rfl rfl ?_
        refine Own.iloadN 93 X2 hx (hb hby d7_92) rfl rfl ?_
        refine Own.istoreV 95 #[.val (.ref t), .val (.int (Own.N (o kx))), .val (.long low), .second, .val (.long high), .second, .val (.long rr2), .second, .val (.int (Own.N (o kx))), .unset, .unset, .unset, .unset, .unset, .unset, .unset, .unset, .unset, .unset, .unset, .unset, .unset] X2 hx (hb hby d7_93) rfl rfl ?_
        refine Own.iloadN 96 X2 hx (hb hby d7_95) rfl rfl ?_
        refine Own.istoreV 98 #[.val (.ref t), .val (.int (Own.N (o kx))), .val (.long low), .second, .val (.long high), .second, .val (.long rr2), .second, .val (.int (Own.N (o kx))), .val (.int (Own.N (o kx))), .unset, .unset, .unset, .unset, .unset, .unset, .unset, .unset, .unset, .unset, .unset, .unset] X2 hx (hb hby d7_96) rfl rfl ?_
        refine Own.lconst 99 X2 hx ((1 : Int64)) (hb hby d7_98) rfl rfl ?_
        refine Own.lstoreV 101 #[.val (.ref t), .val (.int (Own.N (o kx))), .val (.long low), .second, .val (.long high), .second, .val (.long rr2), .second, .val (.int (Own.N (o kx))), .val (.int (Own.N (o kx))), .val (.long (1 : Int64)), .second, .unset, .unset, .unset, .unset, .unset, .unset, .unset, .unset, .unset, .unset] X2 hx (hb hby d7_99) rfl rfl ?_
        refine Own.iconst 102 X2 hx (Own.N 1) (hb hby d7_101) rfl rfl ?_
        refine Own.istoreV 104 #[.val (.ref t), .val (.int (Own.N (o kx))), .val (.long low), .second, .val (.long high), .second, .val (.long rr2), .second, .val (.int (Own.N (o kx))), .val (.int (Own.N (o kx))), .val (.long (1 : Int64)), .second, .val (.int (Own.N (1))), .unset, .unset, .unset, .unset, .unset, .unset, .unset, .unset, .unset] X2 hx (hb hby d7_102) rfl rfl ?_
        have JS : ∀ (kk sp lp rp bb : Nat) (ct s13 s15 s17 s19 : Int64) (Tq : State) (Lq : List Loc) (hq : Heap) (Xq : Stand p l e ({ frames := 1, cells := 0, slots := 0, locals := 15 } : Room) s m #[(.ref t), (.int (Own.N (o kx)))] below meth c Tq Lq 0 0) (eqq : Tq.heap = hq) (Nq : Fr n0 Lq) (Kq : Keep h0 hq [lb]) (Aq : Own.Ax Z hq lb .long (Own.N n)) (h1 : lp ≤ sp) (h2 : sp ≤ rp) (h3 : rp < n) (hkk : rp - sp < kk), Own.Ends p.tables e below (fun v h L => v = none ∧ Fr n0 L ∧ Keep h0 h [lb] ∧ Own.Ax Z h lb .long (Own.N n)) (Own.FE s ({ frames := 1, cells := 0, slots := 0, locals := 15 } : Room).cells ({ frames := 1, cells := 0, slots := 0, locals := 15 } : Room).slots) (Tq.setTop (mkF m 246 #[.val (.ref t), .val (.int (Own.N (o kx))), .val (.long low), .second, .val (.long high), .second, .val (.long rr2), .second, .val (.int (Own.N (o lp))), .val (.int (Own.N (o rp))), .val (.long ct), .second, .val (.int (Own.N (bb))), .val (.long s13), .second, .val (.long s15), .second, .val (.long s17), .second, .val (.long s19), .second, .val (.int (Own.N (o sp)))] [])) := by
          intro kk
          induction kk with
          | zero => intros; exfalso; omega
          | succ kk ih =>
            intro sp lp rp bb ct s13 s15 s17 s19 Tq Lq hq Xq eqq Nq Kq Aq h1 h2 h3 hkk
            have zlq := Nat.le_trans Z0 Kq.1
            have obs1 := obs sp (by omega)
            have obs2 := obs rp (by omega)
            have S1 : own_L Z hq t nx pv lb n fs fN fP := ⟨S0'.1.keep Kq, S0'.2.1.keep Kq (ninS ne_t_lb nin0), S0'.2.2.1.keep Kq (ninS ne_t_lb nin0), S0'.2.2.2.1.keep Kq (ninS ne_t_lb nin0), S0'.2.2.2.2.1.keep Kq (ninS ne_t_lb nin0), S0'.2.2.2.2.2.1.keep Kq (ninS ne_nx_lb nin0), S0'.2.2.2.2.2.2.1.keep Kq (ninS ne_pv_lb nin0), Aq⟩
            obtain ⟨E_3, Fne_3, Fpr_3, Fla_3, Ffi_3, Cnx_3, Cpv_3, Alb_3⟩ := S1
            refine Own.aloadN 247 Xq hx (hb hby d7_246) rfl rfl rfl ?_
            refine Own.getFld 250 Xq hx hZ hown (host := "") (Or.inl (w 15 rfl)) Via.refl eqq Fla_3 (hb hby d7_247) rfl ?_
            intro T4 X4 e4
            refine Own.iload 252 X4 hx (hb hby d7_250) rfl rfl ?_
            refine Own.lload 254 X4 hx (hb hby d7_252) rfl rfl ?_
            refine Own.axStoreJ 255 X4 hx hZ e4 Alb_3 (Own.inN (by omega) (by omega)) (hb hby d7_254) rfl ?_
            intro T5 h5 X5 e5 W5 A5
            have N5 := Fr.snoc X5 Nq g_lb
            have Ef_7 := E_3.wr W5
            have Ff_8 := Fne_3.other W5 (Or.inl ne_t_lb)
            have Ff_9 := Fpr_3.other W5 (Or.inl ne_t_lb)
            have Ff_10 := Fla_3.other W5 (Or.inl ne_t_lb)
            have Ff_11 := Ffi_3.other W5 (Or.inl ne_t_lb)
            have Cf_13 := Cnx_3.other W5 ne_nx_lb
            have Cf_14 := Cpv_3.other W5 ne_pv_lb
            have zl5 := Nat.le_trans zlq (Nat.le_of_eq W5.size.symm)
            have K5 := Kq.wr W5 (Or.inl (List.mem_of_getElem? (i := 0) rfl))
            refine Own.lload 257 X5 hx (hb hby d7_255) rfl rfl ?_
            refine Own.lload 259 X5 hx (hb hby d7_257) rfl rfl ?_
            refine Own.ladd 260 X5 hx (hb hby d7_259) rfl rfl ?_
            refine Own.lstore 262 (fun v19_260 => #[.val (.ref t), .val (.int (Own.N (o kx))), .val (.long low), .second, .val (.long high), .second, .val (.long rr2), .second, .val (.int (Own.N (o lp))), .val (.int (Own.N (o rp))), .val (.long ct), .second, .val (.int (Own.N (bb))), .val (.long s13), .second, .val (.long s15), .second, .val (.long s17), .second, .val (.long v19_260), .second, .val (.int (Own.N (o sp)))]) X5 hx (hb hby d7_260) rfl (fun _ => rfl) fun v19_260 hv19_260 => ?_
            refine Own.iload 264 X5 hx (hb hby d7_262) rfl rfl ?_
            refine Own.iload 266 X5 hx (hb hby d7_264) rfl rfl ?_
            refine Own.nicmp_ne 270 269 X5 hx (hb hby d7_266) (by decide) rfl (by omega) (by omega) (fun q9 => ?_) (fun q9 => ?_)
            ·
              have d9 : sp ≠ rp := fun z => q9 (by rw [z])
              have obs3 := obs (sp + 1) (by omega)
              refine Own.aloadN 271 X5 hx (hb hby d7_270) rfl rfl rfl ?_
              refine Own.getFld 274 X5 hx hZ hown (host := "") (Or.inl (w 10 rfl)) Via.refl e5 Ff_8 (hb hby d7_271) rfl ?_
              intro T15 X15 e15
              refine Own.iload 276 X15 hx (hb hby d7_274) rfl rfl ?_
              refine Own.nLoad 277 (Own.N (o (sp + 1))) X15 hx hZ e15 Cf_13 (by omega) ((H sp (by omega)).1.trans (own_e_lt (by omega))) (hb hby d7_276) rfl ?_
              refine Own.istoreV 279 #[.val (.ref t), .val (.int (Own.N (o kx))), .val (.long low), .second, .val (.long high), .second, .val (.long rr2), .second, .val (.int (Own.N (o lp))), .val (.int (Own.N (o rp))), .val (.long ct), .second, .val (.int (Own.N (bb))), .val (.long s13), .second, .val (.long s15), .second, .val (.long s17), .second, .val (.long v19_260), .second, .val (.int (Own.N (o (sp + 1))))] X15 hx (hb hby d7_277) rfl rfl ?_
              refine Own.goto 246 X15 hx (hb hby d7_279) (by decide) ?_
              exact ih (sp + 1) lp rp bb _ _ _ _ _ _ _ _ X15 e15 N5 K5 A5 (by omega) (by omega) h3 (by omega)
            ·
              refine Own.retVoid X5 hx hlk hret (hb hby d7_269) (by decide) (by decide) ?_
              rw [e5]
              exact ⟨rfl, N5, K5, A5⟩
        have K3 : ∀ (lp rp : Nat) (ct s13 s15 : Int64) (h1 : lp ≤ kx) (h2 : kx ≤ rp) (h3 : rp < n) (hct : ct.toInt = ((rp - lp + 1 : Nat) : Int)) (Ty : State) (Ly : List Loc) (Xy : Stand p l e ({ frames := 1, cells := 0, slots := 0, locals := 15 } : Room) s m #[(.ref t), (.int (Own.N (o kx)))] below meth c Ty Ly 0 0) (ey : Ty.heap = h0) (Ny : Fr n0 Ly), Own.Ends p.tables e below (fun v h L => v = none ∧ Fr n0 L ∧ Keep h0 h [lb] ∧ Own.Ax Z h lb .long (Own.N n)) (Own.FE s ({ frames := 1, cells := 0, slots := 0, locals := 15 } : Room).cells ({ frames := 1, cells := 0, slots := 0, locals := 15 } : Room).slots) (Ty.setTop (mkF m 217 #[.val (.ref t), .val (.int (Own.N (o kx))), .val (.long low), .second, .val (.long high), .second, .val (.long rr2), .second, .val (.int (Own.N (o lp))), .val (.int (Own.N (o rp))), .val (.long ct), .second, .val (.int (Own.N (3))), .val (.long s13), .second, .val (.long s15), .second, .unset, .unset, .unset, .unset, .unset] [])) := by
          intro lp rp ct s13 s15 h1 h2 h3 hct Ty Ly Xy ey Ny
          have ol := obs lp (by omega)
          have or' := obs rp h3
          refine Own.lload 219 Xy hx (hb hby d7_217) rfl rfl ?_
          refine Own.getSta 222 Xy hx hZ hown (host := "") (Or.inl (w 57 rfl)) Via.refl ey (SR.ext X00.2) (hb hby d7_219) rfl ?_
          intro T16 X16 e16
          refine Own.iload 224 X16 hx (hb hby d7_222) rfl rfl ?_
          refine Own.laload 225 X16 hx hZ e16 (4 : Int64) ((show Arv Z Z.heap room kr .long (63 : Int32) [(.long (1 : Int64)), (.long (1 : Int64)), (.long (2 : Int64)), (.long (4 : Int64)), (.long (6 : Int64)), (.long (10 : Int64)), (.long (16 : Int64)), (.long (26 : Int64)), (.long (42 : Int64)), (.long (68 : Int64)), (.long (109 : Int64)), (.long (175 : Int64)), (.long (281 : Int64)), (.long (450 : Int64)), (.long (720 : Int64)), (.long (1152 : Int64)), (.long (1844 : Int64)), (.long (2951 : Int64)), (.long (4722 : Int64)), (.long (7555 : Int64)), (.long (12089 : Int64)), (.long (19342 : Int64)), (.long (30948 : Int64)), (.long (49517 : Int64)), (.long (79228 : Int64)), (.long (126765 : Int64)), (.long (202824 : Int64)), (.long (324518 : Int64)), (.long (519229 : Int64)), (.long (830767 : Int64)), (.long (1329227 : Int64)), (.long (2126764 : Int64)), (.long (3402823 : Int64)), (.long (5444517 : Int64)), (.long (8711228 : Int64)), (.long (13937965 : Int64)), (.long (22300745 : Int64)), (.long (35681192 : Int64)), (.long (57089907 : Int64)), (.long (91343852 : Int64)), (.long (146150163 : Int64)), (.long (233840261 : Int64)), (.long (374144419 : Int64)), (.long (598631070 : Int64)), (.long (957809713 : Int64)), (.long (1532495540 : Int64)), (.long (2451992865 : Int64)), (.long (3923188584 : Int64)), (.long (6277101735 : Int64)), (.long (10043362776 : Int64)), (.long (16069380442 : Int64)), (.long (25711008708 : Int64)), (.long (41137613933 : Int64)), (.long (65820182292 : Int64)), (.long (105312291668 : Int64)), (.long (168499666669 : Int64)), (.long (269599466671 : Int64)), (.long (431359146674 : Int64)), (.long (690174634679 : Int64)), (.long (1104279415486 : Int64)), (.long (1766847064778 : Int64)), (.long (2826955303645 : Int64)), (.long (4523128485832 : Int64))] (.long (0 : Int64)) from VR).ext X00.2) (by decide) rfl (hb hby d7_224) rfl ?_
          refine Own.lif_gt 282 229 X16 hx (hb hby d7_225) rfl (hb hby d7_226) (by decide) rfl (fun q => ?_) (fun q => ?_)
          ·
            exfalso
            rw [Int64.lt_iff_toInt_lt, hct, show ((4 : Int64)).toInt = 4 from by decide] at q
            omega
          ·
            refine Own.lconst 230 X16 hx ((1 : Int64)) (hb hby d7_229) rfl rfl ?_
            refine Own.iload 232 X16 hx (hb hby d7_230) rfl rfl ?_
            refine Own.lshl 233 X16 hx (hb hby d7_232) rfl rfl ?_
            refine Own.lload 235 X16 hx (hb hby d7_233) rfl rfl ?_
            refine Own.ldiv 236 X16 hx (hb hby d7_235) rfl (fun q9 => by have z9 := congrArg Int64.toInt q9; rw [hct, show (0 : Int64).toInt = 0 from by decide] at z9; omega) rfl ?_
            refine Own.lstore 238 (fun v17_236 => #[.val (.ref t), .val (.int (Own.N (o kx))), .val (.long low), .second, .val (.long high), .second, .val (.long rr2), .second, .val (.int (Own.N (o lp))), .val (.int (Own.N (o rp))), .val (.long ct), .second, .val (.int (Own.N (3))), .val (.long s13), .second, .val (.long s15), .second, .val (.long v17_236), .second, .unset, .unset, .unset]) X16 hx (hb hby d7_236) rfl (fun _ => rfl) fun v17_236 hv17_236 => ?_
            refine Own.lload 240 X16 hx (hb hby d7_238) rfl rfl ?_
            refine Own.lstoreV 242 #[.val (.ref t), .val (.int (Own.N (o kx))), .val (.long low), .second, .val (.long high), .second, .val (.long rr2), .second, .val (.int (Own.N (o lp))), .val (.int (Own.N (o rp))), .val (.long ct), .second, .val (.int (Own.N (3))), .val (.long s13), .second, .val (.long s15), .second, .val (.long v17_236), .second, .val (.long s13), .second, .unset] X16 hx (hb hby d7_240) rfl rfl ?_
            refine Own.iload 244 X16 hx (hb hby d7_242) rfl rfl ?_
            refine Own.istoreV 246 #[.val (.ref t), .val (.int (Own.N (o kx))), .val (.long low), .second, .val (.long high), .second, .val (.long rr2), .second, .val (.int (Own.N (o lp))), .val (.int (Own.N (o rp))), .val (.long ct), .second, .val (.int (Own.N (3))), .val (.long s13), .second, .val (.long s15), .second, .val (.long v17_236), .second, .val (.long s13), .second, .val (.int (Own.N (o lp)))] X16 hx (hb hby d7_244) rfl rfl ?_
            exact JS (n + 1) lp lp rp 3 _ _ _ _ _ _ _ _ X16 e16 Ny (Keep.refl h0 [lb]) Alb_1 (by omega) (by omega) h3 (by omega)
        have JR3 : ∀ (kk lp rp : Nat) (ct s13 s15 : Int64) (h1 : lp ≤ kx) (h2 : kx ≤ rp) (h3 : rp < n) (hct : ct.toInt = ((rp - lp + 1 : Nat) : Int)) (hkk : n - rp < kk) (Ty : State) (Ly : List Loc) (Xy : Stand p l e ({ frames := 1, cells := 0, slots := 0, locals := 15 } : Room) s m #[(.ref t), (.int (Own.N (o kx)))] below meth c Ty Ly 0 0) (ey : Ty.heap = h0) (Ny : Fr n0 Ly), Own.Ends p.tables e below (fun v h L => v = none ∧ Fr n0 L ∧ Keep h0 h [lb] ∧ Own.Ax Z h lb .long (Own.N n)) (Own.FE s ({ frames := 1, cells := 0, slots := 0, locals := 15 } : Room).cells ({ frames := 1, cells := 0, slots := 0, locals := 15 } : Room).slots) (Ty.setTop (mkF m 170 #[.val (.ref t), .val (.int (Own.N (o kx))), .val (.long low), .second, .val (.long high), .second, .val (.long rr2), .second, .val (.int (Own.N (o lp))), .val (.int (Own.N (o rp))), .val (.long ct), .second, .val (.int (Own.N (3))), .val (.long s13), .second, .val (.long s15), .second, .unset, .unset, .unset, .unset, .unset] [])) := by
          intro kk
          induction kk with
          | zero => intros; exfalso; omega
          | succ kk ih =>
            intro lp rp ct s13 s15 h1 h2 h3 hct hkk Ty Ly Xy ey Ny
            have or' := obs rp h3
            by_cases c9 : rp + 1 < n
            ·
              have o1 := obs (rp + 1) c9
              refine Own.aloadN 171 Xy hx (hb hby d7_170) rfl rfl rfl ?_
              refine Own.getFld 174 Xy hx hZ hown (host := "") (Or.inl (w 10 rfl)) Via.refl ey Fne_1 (hb hby d7_171) rfl ?_
              intro T17 X17 e17
              refine Own.iload 176 X17 hx (hb hby d7_174) rfl rfl ?_
              refine Own.nLoad 177 (Own.N (o (rp + 1))) X17 hx hZ e17 Cnx_1 (by omega) ((H rp (by omega)).1.trans (own_e_lt (by omega))) (hb hby d7_176) rfl ?_
              refine Own.iconst 178 X17 hx ((-1 : Int32)) (hb hby d7_177) rfl rfl ?_
              refine Own.icmp_eq 217 181 X17 hx (hb hby d7_178) (by decide) rfl (fun tk => absurd tk (Own.N_ne1 (by omega))) (fun tk => ?_)
              refine Own.aloadN 182 X17 hx (hb hby d7_181) rfl rfl rfl ?_
              refine Own.getFld 185 X17 hx hZ hown (host := "") (Or.inl (w 15 rfl)) Via.refl e17 Fla_1 (hb hby d7_182) rfl ?_
              intro T18 X18 e18
              refine Own.aloadN 186 X18 hx (hb hby d7_185) rfl rfl rfl ?_
              refine Own.getFld 189 X18 hx hZ hown (host := "") (Or.inl (w 10 rfl)) Via.refl e18 Fne_1 (hb hby d7_186) rfl ?_
              intro T19 X19 e19
              refine Own.iload 191 X19 hx (hb hby d7_189) rfl rfl ?_
              refine Own.nLoad 192 (Own.N (o (rp + 1))) X19 hx hZ e19 Cnx_1 (by omega) ((H rp (by omega)).1.trans (own_e_lt (by omega))) (hb hby d7_191) rfl ?_
              refine Own.axLoadJ 193 X19 hx hZ e19 Alb_1 (Own.inN (by omega) (by omega)) (hb hby d7_192) rfl fun y20 => ?_
              refine Own.lload 195 X19 hx (hb hby d7_193) rfl rfl ?_
              refine Own.lif_ge 217 199 X19 hx (hb hby d7_195) rfl (hb hby d7_196) (by decide) rfl (fun q => ?_) (fun q => ?_)
              ·
                exact K3 lp rp ct s13 s15 h1 h2 h3 hct _ _ X19 e19 Ny
              ·
                refine Own.aloadN 200 X19 hx (hb hby d7_199) rfl rfl rfl ?_
                refine Own.getFld 203 X19 hx hZ hown (host := "") (Or.inl (w 10 rfl)) Via.refl e19 Fne_1 (hb hby d7_200) rfl ?_
                intro T21 X21 e21
                refine Own.iload 205 X21 hx (hb hby d7_203) rfl rfl ?_
                refine Own.nLoad 206 (Own.N (o (rp + 1))) X21 hx hZ e21 Cnx_1 (by omega) ((H rp (by omega)).1.trans (own_e_lt (by omega))) (hb hby d7_205) rfl ?_
                refine Own.istoreV 208 #[.val (.ref t), .val (.int (Own.N (o kx))), .val (.long low), .second, .val (.long high), .second, .val (.long rr2), .second, .val (.int (Own.N (o lp))), .val (.int (Own.N (o (rp + 1)))), .val (.long ct), .second, .val (.int (Own.N (3))), .val (.long s13), .second, .val (.long s15), .second, .unset, .unset, .unset, .unset, .unset] X21 hx (hb hby d7_206) rfl rfl ?_
                refine Own.lload 210 X21 hx (hb hby d7_208) rfl rfl ?_
                refine Own.lconst 211 X21 hx ((1 : Int64)) (hb hby d7_210) rfl rfl ?_
                refine Own.ladd 212 X21 hx (hb hby d7_211) rfl rfl ?_
                refine Own.lstore 214 (fun v10_212 => #[.val (.ref t), .val (.int (Own.N (o kx))), .val (.long low), .second, .val (.long high), .second, .val (.long rr2), .second, .val (.int (Own.N (o lp))), .val (.int (Own.N (o (rp + 1)))), .val (.long v10_212), .second, .val (.int (Own.N (3))), .val (.long s13), .second, .val (.long s15), .second, .unset, .unset, .unset, .unset, .unset]) X21 hx (hb hby d7_212) rfl (fun _ => rfl) fun v10_212 hv10_212 => ?_
                refine Own.goto 170 X21 hx (hb hby d7_214) (by decide) ?_
                exact ih lp (rp + 1) _ _ _ h1 (by omega) c9 (by rw [hv10_212, own_l1 hct (by omega)]; omega) (by omega) _ _ X21 e21 Ny
            ·
              refine Own.aloadN 171 Xy hx (hb hby d7_170) rfl rfl rfl ?_
              refine Own.getFld 174 Xy hx hZ hown (host := "") (Or.inl (w 10 rfl)) Via.refl ey Fne_1 (hb hby d7_171) rfl ?_
              intro T22 X22 e22
              refine Own.iload 176 X22 hx (hb hby d7_174) rfl rfl ?_
              refine Own.nLoad 177 ((-1 : Int32)) X22 hx hZ e22 Cnx_1 (by omega) ((H rp (by omega)).1.trans (own_e_ge (by omega))) (hb hby d7_176) rfl ?_
              refine Own.iconst 178 X22 hx ((-1 : Int32)) (hb hby d7_177) rfl rfl ?_
              refine Own.icmp_eq 217 181 X22 hx (hb hby d7_178) (by decide) rfl (fun tk => ?_) (fun tk => absurd rfl tk)
              exact K3 lp rp ct s13 s15 h1 h2 h3 hct _ _ X22 e22 Ny
        have JL3 : ∀ (kk lp rp : Nat) (ct s13 s15 : Int64) (h1 : lp ≤ kx) (h2 : kx ≤ rp) (h3 : rp < n) (hct : ct.toInt = ((rp - lp + 1 : Nat) : Int)) (hkk : lp < kk) (Ty : State) (Ly : List Loc) (Xy : Stand p l e ({ frames := 1, cells := 0, slots := 0, locals := 15 } : Room) s m #[(.ref t), (.int (Own.N (o kx)))] below meth c Ty Ly 0 0) (ey : Ty.heap = h0) (Ny : Fr n0 Ly), Own.Ends p.tables e below (fun v h L => v = none ∧ Fr n0 L ∧ Keep h0 h [lb] ∧ Own.Ax Z h lb .long (Own.N n)) (Own.FE s ({ frames := 1, cells := 0, slots := 0, locals := 15 } : Room).cells ({ frames := 1, cells := 0, slots := 0, locals := 15 } : Room).slots) (Ty.setTop (mkF m 123 #[.val (.ref t), .val (.int (Own.N (o kx))), .val (.long low), .second, .val (.long high), .second, .val (.long rr2), .second, .val (.int (Own.N (o lp))), .val (.int (Own.N (o rp))), .val (.long ct), .second, .val (.int (Own.N (3))), .val (.long s13), .second, .val (.long s15), .second, .unset, .unset, .unset, .unset, .unset] [])) := by
          intro kk
          induction kk with
          | zero => intros; exfalso; omega
          | succ kk ih =>
            intro lp rp ct s13 s15 h1 h2 h3 hct hkk Ty Ly Xy ey Ny
            have ol := obs lp (by omega)
            by_cases c9 : lp = 0
            ·
              refine Own.aloadN 124 Xy hx (hb hby d7_123) rfl rfl rfl ?_
              refine Own.getFld 127 Xy hx hZ hown (host := "") (Or.inl (w 12 rfl)) Via.refl ey Fpr_1 (hb hby d7_124) rfl ?_
              intro T23 X23 e23
              refine Own.iload 129 X23 hx (hb hby d7_127) rfl rfl ?_
              refine Own.nLoad 130 ((-1 : Int32)) X23 hx hZ e23 Cpv_1 (by omega) ((H lp (by omega)).2.trans (own_p_0 (by omega))) (hb hby d7_129) rfl ?_
              refine Own.iconst 131 X23 hx ((-1 : Int32)) (hb hby d7_130) rfl rfl ?_
              refine Own.icmp_eq 170 134 X23 hx (hb hby d7_131) (by decide) rfl (fun tk => ?_) (fun tk => absurd rfl tk)
              exact JR3 (n + 1) lp rp ct s13 s15 h1 h2 h3 hct (by omega) _ _ X23 e23 Ny
            ·
              have o1 := obs (lp - 1) (by omega)
              refine Own.aloadN 124 Xy hx (hb hby d7_123) rfl rfl rfl ?_
              refine Own.getFld 127 Xy hx hZ hown (host := "") (Or.inl (w 12 rfl)) Via.refl ey Fpr_1 (hb hby d7_124) rfl ?_
              intro T24 X24 e24
              refine Own.iload 129 X24 hx (hb hby d7_127) rfl rfl ?_
              refine Own.nLoad 130 (Own.N (o (lp - 1))) X24 hx hZ e24 Cpv_1 (by omega) ((H lp (by omega)).2.trans (own_p_s (by omega))) (hb hby d7_129) rfl ?_
              refine Own.iconst 131 X24 hx ((-1 : Int32)) (hb hby d7_130) rfl rfl ?_
              refine Own.icmp_eq 170 134 X24 hx (hb hby d7_131) (by decide) rfl (fun tk => absurd tk (Own.N_ne1 (by omega))) (fun tk => ?_)
              refine Own.aloadN 135 X24 hx (hb hby d7_134) rfl rfl rfl ?_
              refine Own.getFld 138 X24 hx hZ hown (host := "") (Or.inl (w 15 rfl)) Via.refl e24 Fla_1 (hb hby d7_135) rfl ?_
              intro T25 X25 e25
              refine Own.aloadN 139 X25 hx (hb hby d7_138) rfl rfl rfl ?_
              refine Own.getFld 142 X25 hx hZ hown (host := "") (Or.inl (w 12 rfl)) Via.refl e25 Fpr_1 (hb hby d7_139) rfl ?_
              intro T26 X26 e26
              refine Own.iload 144 X26 hx (hb hby d7_142) rfl rfl ?_
              refine Own.nLoad 145 (Own.N (o (lp - 1))) X26 hx hZ e26 Cpv_1 (by omega) ((H lp (by omega)).2.trans (own_p_s (by omega))) (hb hby d7_144) rfl ?_
              refine Own.axLoadJ 146 X26 hx hZ e26 Alb_1 (Own.inN (by omega) (by omega)) (hb hby d7_145) rfl fun y27 => ?_
              refine Own.lload 148 X26 hx (hb hby d7_146) rfl rfl ?_
              refine Own.lif_lt 170 152 X26 hx (hb hby d7_148) rfl (hb hby d7_149) (by decide) rfl (fun q => ?_) (fun q => ?_)
              ·
                exact JR3 (n + 1) lp rp ct s13 s15 h1 h2 h3 hct (by omega) _ _ X26 e26 Ny
              ·
                refine Own.aloadN 153 X26 hx (hb hby d7_152) rfl rfl rfl ?_
                refine Own.getFld 156 X26 hx hZ hown (host := "") (Or.inl (w 12 rfl)) Via.refl e26 Fpr_1 (hb hby d7_153) rfl ?_
                intro T28 X28 e28
                refine Own.iload 158 X28 hx (hb hby d7_156) rfl rfl ?_
                refine Own.nLoad 159 (Own.N (o (lp - 1))) X28 hx hZ e28 Cpv_1 (by omega) ((H lp (by omega)).2.trans (own_p_s (by omega))) (hb hby d7_158) rfl ?_
                refine Own.istoreV 161 #[.val (.ref t), .val (.int (Own.N (o kx))), .val (.long low), .second, .val (.long high), .second, .val (.long rr2), .second, .val (.int (Own.N (o (lp - 1)))), .val (.int (Own.N (o rp))), .val (.long ct), .second, .val (.int (Own.N (3))), .val (.long s13), .second, .val (.long s15), .second, .unset, .unset, .unset, .unset, .unset] X28 hx (hb hby d7_159) rfl rfl ?_
                refine Own.lload 163 X28 hx (hb hby d7_161) rfl rfl ?_
                refine Own.lconst 164 X28 hx ((1 : Int64)) (hb hby d7_163) rfl rfl ?_
                refine Own.ladd 165 X28 hx (hb hby d7_164) rfl rfl ?_
                refine Own.lstore 167 (fun v10_165 => #[.val (.ref t), .val (.int (Own.N (o kx))), .val (.long low), .second, .val (.long high), .second, .val (.long rr2), .second, .val (.int (Own.N (o (lp - 1)))), .val (.int (Own.N (o rp))), .val (.long v10_165), .second, .val (.int (Own.N (3))), .val (.long s13), .second, .val (.long s15), .second, .unset, .unset, .unset, .unset, .unset]) X28 hx (hb hby d7_165) rfl (fun _ => rfl) fun v10_165 hv10_165 => ?_
                refine Own.goto 123 X28 hx (hb hby d7_167) (by decide) ?_
                exact ih (lp - 1) rp _ _ _ (by omega) h2 h3 (by rw [hv10_165, own_l1 hct (by omega)]; omega) (by omega) _ _ X28 e28 Ny
        have H3 : ∀ (lp rp : Nat) (ct s13 s15 : Int64) (h1 : lp ≤ kx) (h2 : kx ≤ rp) (h3 : rp < n) (hct : ct.toInt = ((rp - lp + 1 : Nat) : Int)) (Ty : State) (Ly : List Loc) (Xy : Stand p l e ({ frames := 1, cells := 0, slots := 0, locals := 15 } : Room) s m #[(.ref t), (.int (Own.N (o kx)))] below meth c Ty Ly 0 0) (ey : Ty.heap = h0) (Ny : Fr n0 Ly), Own.Ends p.tables e below (fun v h L => v = none ∧ Fr n0 L ∧ Keep h0 h [lb] ∧ Own.Ax Z h lb .long (Own.N n)) (Own.FE s ({ frames := 1, cells := 0, slots := 0, locals := 15 } : Room).cells ({ frames := 1, cells := 0, slots := 0, locals := 15 } : Room).slots) (Ty.setTop (mkF m 104 #[.val (.ref t), .val (.int (Own.N (o kx))), .val (.long low), .second, .val (.long high), .second, .val (.long rr2), .second, .val (.int (Own.N (o lp))), .val (.int (Own.N (o rp))), .val (.long ct), .second, .val (.int (Own.N (3))), .val (.long s13), .second, .val (.long s15), .second, .unset, .unset, .unset, .unset, .unset] [])) := by
          intro lp rp ct s13 s15 h1 h2 h3 hct Ty Ly Xy ey Ny
          have ol := obs lp (by omega)
          refine Own.lload 106 Xy hx (hb hby d7_104) rfl rfl ?_
          refine Own.iload 108 Xy hx (hb hby d7_106) rfl rfl ?_
          refine Own.lushr 109 Xy hx (hb hby d7_108) rfl rfl ?_
          refine Own.iload 111 Xy hx (hb hby d7_109) rfl rfl ?_
          refine Own.lshl 112 Xy hx (hb hby d7_111) rfl rfl ?_
          refine Own.lstore 114 (fun v13_112 => #[.val (.ref t), .val (.int (Own.N (o kx))), .val (.long low), .second, .val (.long high), .second, .val (.long rr2), .second, .val (.int (Own.N (o lp))), .val (.int (Own.N (o rp))), .val (.long ct), .second, .val (.int (Own.N (3))), .val (.long v13_112), .second, .val (.long s15), .second, .unset, .unset, .unset, .unset, .unset]) Xy hx (hb hby d7_112) rfl (fun _ => rfl) fun v13_112 hv13_112 => ?_
          refine Own.lload 116 Xy hx (hb hby d7_114) rfl rfl ?_
          refine Own.lconst 117 Xy hx ((1 : Int64)) (hb hby d7_116) rfl rfl ?_
          refine Own.iload 119 Xy hx (hb hby d7_117) rfl rfl ?_
          refine Own.lshl 120 Xy hx (hb hby d7_119) rfl rfl ?_
          refine Own.ladd 121 Xy hx (hb hby d7_120) rfl rfl ?_
          refine Own.lstore 123 (fun v15_121 => #[.val (.ref t), .val (.int (Own.N (o kx))), .val (.long low), .second, .val (.long high), .second, .val (.long rr2), .second, .val (.int (Own.N (o lp))), .val (.int (Own.N (o rp))), .val (.long ct), .second, .val (.int (Own.N (3))), .val (.long v13_112), .second, .val (.long v15_121), .second, .unset, .unset, .unset, .unset, .unset]) Xy hx (hb hby d7_121) rfl (fun _ => rfl) fun v15_121 hv15_121 => ?_
          exact JL3 (lp + 1) lp rp ct _ _ h1 h2 h3 hct (by omega) _ _ Xy ey Ny
        have K2 : ∀ (lp rp : Nat) (ct s13 s15 : Int64) (h1 : lp ≤ kx) (h2 : kx ≤ rp) (h3 : rp < n) (hct : ct.toInt = ((rp - lp + 1 : Nat) : Int)) (Ty : State) (Ly : List Loc) (Xy : Stand p l e ({ frames := 1, cells := 0, slots := 0, locals := 15 } : Room) s m #[(.ref t), (.int (Own.N (o kx)))] below meth c Ty Ly 0 0) (ey : Ty.heap = h0) (Ny : Fr n0 Ly), Own.Ends p.tables e below (fun v h L => v = none ∧ Fr n0 L ∧ Keep h0 h [lb] ∧ Own.Ax Z h lb .long (Own.N n)) (Own.FE s ({ frames := 1, cells := 0, slots := 0, locals := 15 } : Room).cells ({ frames := 1, cells := 0, slots := 0, locals := 15 } : Room).slots) (Ty.setTop (mkF m 217 #[.val (.ref t), .val (.int (Own.N (o kx))), .val (.long low), .second, .val (.long high), .second, .val (.long rr2), .second, .val (.int (Own.N (o lp))), .val (.int (Own.N (o rp))), .val (.long ct), .second, .val (.int (Own.N (2))), .val (.long s13), .second, .val (.long s15), .second, .unset, .unset, .unset, .unset, .unset] [])) := by
          intro lp rp ct s13 s15 h1 h2 h3 hct Ty Ly Xy ey Ny
          have ol := obs lp (by omega)
          have or' := obs rp h3
          refine Own.lload 219 Xy hx (hb hby d7_217) rfl rfl ?_
          refine Own.getSta 222 Xy hx hZ hown (host := "") (Or.inl (w 57 rfl)) Via.refl ey (SR.ext X00.2) (hb hby d7_219) rfl ?_
          intro T29 X29 e29
          refine Own.iload 224 X29 hx (hb hby d7_222) rfl rfl ?_
          refine Own.laload 225 X29 hx hZ e29 (2 : Int64) ((show Arv Z Z.heap room kr .long (63 : Int32) [(.long (1 : Int64)), (.long (1 : Int64)), (.long (2 : Int64)), (.long (4 : Int64)), (.long (6 : Int64)), (.long (10 : Int64)), (.long (16 : Int64)), (.long (26 : Int64)), (.long (42 : Int64)), (.long (68 : Int64)), (.long (109 : Int64)), (.long (175 : Int64)), (.long (281 : Int64)), (.long (450 : Int64)), (.long (720 : Int64)), (.long (1152 : Int64)), (.long (1844 : Int64)), (.long (2951 : Int64)), (.long (4722 : Int64)), (.long (7555 : Int64)), (.long (12089 : Int64)), (.long (19342 : Int64)), (.long (30948 : Int64)), (.long (49517 : Int64)), (.long (79228 : Int64)), (.long (126765 : Int64)), (.long (202824 : Int64)), (.long (324518 : Int64)), (.long (519229 : Int64)), (.long (830767 : Int64)), (.long (1329227 : Int64)), (.long (2126764 : Int64)), (.long (3402823 : Int64)), (.long (5444517 : Int64)), (.long (8711228 : Int64)), (.long (13937965 : Int64)), (.long (22300745 : Int64)), (.long (35681192 : Int64)), (.long (57089907 : Int64)), (.long (91343852 : Int64)), (.long (146150163 : Int64)), (.long (233840261 : Int64)), (.long (374144419 : Int64)), (.long (598631070 : Int64)), (.long (957809713 : Int64)), (.long (1532495540 : Int64)), (.long (2451992865 : Int64)), (.long (3923188584 : Int64)), (.long (6277101735 : Int64)), (.long (10043362776 : Int64)), (.long (16069380442 : Int64)), (.long (25711008708 : Int64)), (.long (41137613933 : Int64)), (.long (65820182292 : Int64)), (.long (105312291668 : Int64)), (.long (168499666669 : Int64)), (.long (269599466671 : Int64)), (.long (431359146674 : Int64)), (.long (690174634679 : Int64)), (.long (1104279415486 : Int64)), (.long (1766847064778 : Int64)), (.long (2826955303645 : Int64)), (.long (4523128485832 : Int64))] (.long (0 : Int64)) from VR).ext X00.2) (by decide) rfl (hb hby d7_224) rfl ?_
          refine Own.lif_gt 282 229 X29 hx (hb hby d7_225) rfl (hb hby d7_226) (by decide) rfl (fun q => ?_) (fun q => ?_)
          ·
            refine Own.iinc 285 (fun c_30 => #[.val (.ref t), .val (.int (Own.N (o kx))), .val (.long low), .second, .val (.long high), .second, .val (.long rr2), .second, .val (.int (Own.N (o lp))), .val (.int (Own.N (o rp))), .val (.long ct), .second, .val (.int c_30), .val (.long s13), .second, .val (.long s15), .second, .unset, .unset, .unset, .unset, .unset]) X29 hx (Own.N 1) (hb hby d7_282) rfl rfl rfl (fun _ => rfl) fun c_30 hc_30 => ?_
            obtain rfl : c_30 = Own.N (3) := hc_30.trans (by decide)
            refine Own.goto 104 X29 hx (hb hby d7_285) (by decide) ?_
            exact H3 lp rp ct s13 s15 h1 h2 h3 hct _ _ X29 e29 Ny
          ·
            refine Own.lconst 230 X29 hx ((1 : Int64)) (hb hby d7_229) rfl rfl ?_
            refine Own.iload 232 X29 hx (hb hby d7_230) rfl rfl ?_
            refine Own.lshl 233 X29 hx (hb hby d7_232) rfl rfl ?_
            refine Own.lload 235 X29 hx (hb hby d7_233) rfl rfl ?_
            refine Own.ldiv 236 X29 hx (hb hby d7_235) rfl (fun q9 => by have z9 := congrArg Int64.toInt q9; rw [hct, show (0 : Int64).toInt = 0 from by decide] at z9; omega) rfl ?_
            refine Own.lstore 238 (fun v17_236 => #[.val (.ref t), .val (.int (Own.N (o kx))), .val (.long low), .second, .val (.long high), .second, .val (.long rr2), .second, .val (.int (Own.N (o lp))), .val (.int (Own.N (o rp))), .val (.long ct), .second, .val (.int (Own.N (2))), .val (.long s13), .second, .val (.long s15), .second, .val (.long v17_236), .second, .unset, .unset, .unset]) X29 hx (hb hby d7_236) rfl (fun _ => rfl) fun v17_236 hv17_236 => ?_
            refine Own.lload 240 X29 hx (hb hby d7_238) rfl rfl ?_
            refine Own.lstoreV 242 #[.val (.ref t), .val (.int (Own.N (o kx))), .val (.long low), .second, .val (.long high), .second, .val (.long rr2), .second, .val (.int (Own.N (o lp))), .val (.int (Own.N (o rp))), .val (.long ct), .second, .val (.int (Own.N (2))), .val (.long s13), .second, .val (.long s15), .second, .val (.long v17_236), .second, .val (.long s13), .second, .unset] X29 hx (hb hby d7_240) rfl rfl ?_
            refine Own.iload 244 X29 hx (hb hby d7_242) rfl rfl ?_
            refine Own.istoreV 246 #[.val (.ref t), .val (.int (Own.N (o kx))), .val (.long low), .second, .val (.long high), .second, .val (.long rr2), .second, .val (.int (Own.N (o lp))), .val (.int (Own.N (o rp))), .val (.long ct), .second, .val (.int (Own.N (2))), .val (.long s13), .second, .val (.long s15), .second, .val (.long v17_236), .second, .val (.long s13), .second, .val (.int (Own.N (o lp)))] X29 hx (hb hby d7_244) rfl rfl ?_
            exact JS (n + 1) lp lp rp 2 _ _ _ _ _ _ _ _ X29 e29 Ny (Keep.refl h0 [lb]) Alb_1 (by omega) (by omega) h3 (by omega)
        have JR2 : ∀ (kk lp rp : Nat) (ct s13 s15 : Int64) (h1 : lp ≤ kx) (h2 : kx ≤ rp) (h3 : rp < n) (hct : ct.toInt = ((rp - lp + 1 : Nat) : Int)) (hkk : n - rp < kk) (Ty : State) (Ly : List Loc) (Xy : Stand p l e ({ frames := 1, cells := 0, slots := 0, locals := 15 } : Room) s m #[(.ref t), (.int (Own.N (o kx)))] below meth c Ty Ly 0 0) (ey : Ty.heap = h0) (Ny : Fr n0 Ly), Own.Ends p.tables e below (fun v h L => v = none ∧ Fr n0 L ∧ Keep h0 h [lb] ∧ Own.Ax Z h lb .long (Own.N n)) (Own.FE s ({ frames := 1, cells := 0, slots := 0, locals := 15 } : Room).cells ({ frames := 1, cells := 0, slots := 0, locals := 15 } : Room).slots) (Ty.setTop (mkF m 170 #[.val (.ref t), .val (.int (Own.N (o kx))), .val (.long low), .second, .val (.long high), .second, .val (.long rr2), .second, .val (.int (Own.N (o lp))), .val (.int (Own.N (o rp))), .val (.long ct), .second, .val (.int (Own.N (2))), .val (.long s13), .second, .val (.long s15), .second, .unset, .unset, .unset, .unset, .unset] [])) := by
          intro kk
          induction kk with
          | zero => intros; exfalso; omega
          | succ kk ih =>
            intro lp rp ct s13 s15 h1 h2 h3 hct hkk Ty Ly Xy ey Ny
            have or' := obs rp h3
            by_cases c9 : rp + 1 < n
            ·
              have o1 := obs (rp + 1) c9
              refine Own.aloadN 171 Xy hx (hb hby d7_170) rfl rfl rfl ?_
              refine Own.getFld 174 Xy hx hZ hown (host := "") (Or.inl (w 10 rfl)) Via.refl ey Fne_1 (hb hby d7_171) rfl ?_
              intro T31 X31 e31
              refine Own.iload 176 X31 hx (hb hby d7_174) rfl rfl ?_
              refine Own.nLoad 177 (Own.N (o (rp + 1))) X31 hx hZ e31 Cnx_1 (by omega) ((H rp (by omega)).1.trans (own_e_lt (by omega))) (hb hby d7_176) rfl ?_
              refine Own.iconst 178 X31 hx ((-1 : Int32)) (hb hby d7_177) rfl rfl ?_
              refine Own.icmp_eq 217 181 X31 hx (hb hby d7_178) (by decide) rfl (fun tk => absurd tk (Own.N_ne1 (by omega))) (fun tk => ?_)
              refine Own.aloadN 182 X31 hx (hb hby d7_181) rfl rfl rfl ?_
              refine Own.getFld 185 X31 hx hZ hown (host := "") (Or.inl (w 15 rfl)) Via.refl e31 Fla_1 (hb hby d7_182) rfl ?_
              intro T32 X32 e32
              refine Own.aloadN 186 X32 hx (hb hby d7_185) rfl rfl rfl ?_
              refine Own.getFld 189 X32 hx hZ hown (host := "") (Or.inl (w 10 rfl)) Via.refl e32 Fne_1 (hb hby d7_186) rfl ?_
              intro T33 X33 e33
              refine Own.iload 191 X33 hx (hb hby d7_189) rfl rfl ?_
              refine Own.nLoad 192 (Own.N (o (rp + 1))) X33 hx hZ e33 Cnx_1 (by omega) ((H rp (by omega)).1.trans (own_e_lt (by omega))) (hb hby d7_191) rfl ?_
              refine Own.axLoadJ 193 X33 hx hZ e33 Alb_1 (Own.inN (by omega) (by omega)) (hb hby d7_192) rfl fun y34 => ?_
              refine Own.lload 195 X33 hx (hb hby d7_193) rfl rfl ?_
              refine Own.lif_ge 217 199 X33 hx (hb hby d7_195) rfl (hb hby d7_196) (by decide) rfl (fun q => ?_) (fun q => ?_)
              ·
                exact K2 lp rp ct s13 s15 h1 h2 h3 hct _ _ X33 e33 Ny
              ·
                refine Own.aloadN 200 X33 hx (hb hby d7_199) rfl rfl rfl ?_
                refine Own.getFld 203 X33 hx hZ hown (host := "") (Or.inl (w 10 rfl)) Via.refl e33 Fne_1 (hb hby d7_200) rfl ?_
                intro T35 X35 e35
                refine Own.iload 205 X35 hx (hb hby d7_203) rfl rfl ?_
                refine Own.nLoad 206 (Own.N (o (rp + 1))) X35 hx hZ e35 Cnx_1 (by omega) ((H rp (by omega)).1.trans (own_e_lt (by omega))) (hb hby d7_205) rfl ?_
                refine Own.istoreV 208 #[.val (.ref t), .val (.int (Own.N (o kx))), .val (.long low), .second, .val (.long high), .second, .val (.long rr2), .second, .val (.int (Own.N (o lp))), .val (.int (Own.N (o (rp + 1)))), .val (.long ct), .second, .val (.int (Own.N (2))), .val (.long s13), .second, .val (.long s15), .second, .unset, .unset, .unset, .unset, .unset] X35 hx (hb hby d7_206) rfl rfl ?_
                refine Own.lload 210 X35 hx (hb hby d7_208) rfl rfl ?_
                refine Own.lconst 211 X35 hx ((1 : Int64)) (hb hby d7_210) rfl rfl ?_
                refine Own.ladd 212 X35 hx (hb hby d7_211) rfl rfl ?_
                refine Own.lstore 214 (fun v10_212 => #[.val (.ref t), .val (.int (Own.N (o kx))), .val (.long low), .second, .val (.long high), .second, .val (.long rr2), .second, .val (.int (Own.N (o lp))), .val (.int (Own.N (o (rp + 1)))), .val (.long v10_212), .second, .val (.int (Own.N (2))), .val (.long s13), .second, .val (.long s15), .second, .unset, .unset, .unset, .unset, .unset]) X35 hx (hb hby d7_212) rfl (fun _ => rfl) fun v10_212 hv10_212 => ?_
                refine Own.goto 170 X35 hx (hb hby d7_214) (by decide) ?_
                exact ih lp (rp + 1) _ _ _ h1 (by omega) c9 (by rw [hv10_212, own_l1 hct (by omega)]; omega) (by omega) _ _ X35 e35 Ny
            ·
              refine Own.aloadN 171 Xy hx (hb hby d7_170) rfl rfl rfl ?_
              refine Own.getFld 174 Xy hx hZ hown (host := "") (Or.inl (w 10 rfl)) Via.refl ey Fne_1 (hb hby d7_171) rfl ?_
              intro T36 X36 e36
              refine Own.iload 176 X36 hx (hb hby d7_174) rfl rfl ?_
              refine Own.nLoad 177 ((-1 : Int32)) X36 hx hZ e36 Cnx_1 (by omega) ((H rp (by omega)).1.trans (own_e_ge (by omega))) (hb hby d7_176) rfl ?_
              refine Own.iconst 178 X36 hx ((-1 : Int32)) (hb hby d7_177) rfl rfl ?_
              refine Own.icmp_eq 217 181 X36 hx (hb hby d7_178) (by decide) rfl (fun tk => ?_) (fun tk => absurd rfl tk)
              exact K2 lp rp ct s13 s15 h1 h2 h3 hct _ _ X36 e36 Ny
        have JL2 : ∀ (kk lp rp : Nat) (ct s13 s15 : Int64) (h1 : lp ≤ kx) (h2 : kx ≤ rp) (h3 : rp < n) (hct : ct.toInt = ((rp - lp + 1 : Nat) : Int)) (hkk : lp < kk) (Ty : State) (Ly : List Loc) (Xy : Stand p l e ({ frames := 1, cells := 0, slots := 0, locals := 15 } : Room) s m #[(.ref t), (.int (Own.N (o kx)))] below meth c Ty Ly 0 0) (ey : Ty.heap = h0) (Ny : Fr n0 Ly), Own.Ends p.tables e below (fun v h L => v = none ∧ Fr n0 L ∧ Keep h0 h [lb] ∧ Own.Ax Z h lb .long (Own.N n)) (Own.FE s ({ frames := 1, cells := 0, slots := 0, locals := 15 } : Room).cells ({ frames := 1, cells := 0, slots := 0, locals := 15 } : Room).slots) (Ty.setTop (mkF m 123 #[.val (.ref t), .val (.int (Own.N (o kx))), .val (.long low), .second, .val (.long high), .second, .val (.long rr2), .second, .val (.int (Own.N (o lp))), .val (.int (Own.N (o rp))), .val (.long ct), .second, .val (.int (Own.N (2))), .val (.long s13), .second, .val (.long s15), .second, .unset, .unset, .unset, .unset, .unset] [])) := by
          intro kk
          induction kk with
          | zero => intros; exfalso; omega
          | succ kk ih =>
            intro lp rp ct s13 s15 h1 h2 h3 hct hkk Ty Ly Xy ey Ny
            have ol := obs lp (by omega)
            by_cases c9 : lp = 0
            ·
              refine Own.aloadN 124 Xy hx (hb hby d7_123) rfl rfl rfl ?_
              refine Own.getFld 127 Xy hx hZ hown (host := "") (Or.inl (w 12 rfl)) Via.refl ey Fpr_1 (hb hby d7_124) rfl ?_
              intro T37 X37 e37
              refine Own.iload 129 X37 hx (hb hby d7_127) rfl rfl ?_
              refine Own.nLoad 130 ((-1 : Int32)) X37 hx hZ e37 Cpv_1 (by omega) ((H lp (by omega)).2.trans (own_p_0 (by omega))) (hb hby d7_129) rfl ?_
              refine Own.iconst 131 X37 hx ((-1 : Int32)) (hb hby d7_130) rfl rfl ?_
              refine Own.icmp_eq 170 134 X37 hx (hb hby d7_131) (by decide) rfl (fun tk => ?_) (fun tk => absurd rfl tk)
              exact JR2 (n + 1) lp rp ct s13 s15 h1 h2 h3 hct (by omega) _ _ X37 e37 Ny
            ·
              have o1 := obs (lp - 1) (by omega)
              refine Own.aloadN 124 Xy hx (hb hby d7_123) rfl rfl rfl ?_
              refine Own.getFld 127 Xy hx hZ hown (host := "") (Or.inl (w 12 rfl)) Via.refl ey Fpr_1 (hb hby d7_124) rfl ?_
              intro T38 X38 e38
              refine Own.iload 129 X38 hx (hb hby d7_127) rfl rfl ?_
              refine Own.nLoad 130 (Own.N (o (lp - 1))) X38 hx hZ e38 Cpv_1 (by omega) ((H lp (by omega)).2.trans (own_p_s (by omega))) (hb hby d7_129) rfl ?_
              refine Own.iconst 131 X38 hx ((-1 : Int32)) (hb hby d7_130) rfl rfl ?_
              refine Own.icmp_eq 170 134 X38 hx (hb hby d7_131) (by decide) rfl (fun tk => absurd tk (Own.N_ne1 (by omega))) (fun tk => ?_)
              refine Own.aloadN 135 X38 hx (hb hby d7_134) rfl rfl rfl ?_
              refine Own.getFld 138 X38 hx hZ hown (host := "") (Or.inl (w 15 rfl)) Via.refl e38 Fla_1 (hb hby d7_135) rfl ?_
              intro T39 X39 e39
              refine Own.aloadN 139 X39 hx (hb hby d7_138) rfl rfl rfl ?_
              refine Own.getFld 142 X39 hx hZ hown (host := "") (Or.inl (w 12 rfl)) Via.refl e39 Fpr_1 (hb hby d7_139) rfl ?_
              intro T40 X40 e40
              refine Own.iload 144 X40 hx (hb hby d7_142) rfl rfl ?_
              refine Own.nLoad 145 (Own.N (o (lp - 1))) X40 hx hZ e40 Cpv_1 (by omega) ((H lp (by omega)).2.trans (own_p_s (by omega))) (hb hby d7_144) rfl ?_
              refine Own.axLoadJ 146 X40 hx hZ e40 Alb_1 (Own.inN (by omega) (by omega)) (hb hby d7_145) rfl fun y41 => ?_
              refine Own.lload 148 X40 hx (hb hby d7_146) rfl rfl ?_
              refine Own.lif_lt 170 152 X40 hx (hb hby d7_148) rfl (hb hby d7_149) (by decide) rfl (fun q => ?_) (fun q => ?_)
              ·
                exact JR2 (n + 1) lp rp ct s13 s15 h1 h2 h3 hct (by omega) _ _ X40 e40 Ny
              ·
                refine Own.aloadN 153 X40 hx (hb hby d7_152) rfl rfl rfl ?_
                refine Own.getFld 156 X40 hx hZ hown (host := "") (Or.inl (w 12 rfl)) Via.refl e40 Fpr_1 (hb hby d7_153) rfl ?_
                intro T42 X42 e42
                refine Own.iload 158 X42 hx (hb hby d7_156) rfl rfl ?_
                refine Own.nLoad 159 (Own.N (o (lp - 1))) X42 hx hZ e42 Cpv_1 (by omega) ((H lp (by omega)).2.trans (own_p_s (by omega))) (hb hby d7_158) rfl ?_
                refine Own.istoreV 161 #[.val (.ref t), .val (.int (Own.N (o kx))), .val (.long low), .second, .val (.long high), .second, .val (.long rr2), .second, .val (.int (Own.N (o (lp - 1)))), .val (.int (Own.N (o rp))), .val (.long ct), .second, .val (.int (Own.N (2))), .val (.long s13), .second, .val (.long s15), .second, .unset, .unset, .unset, .unset, .unset] X42 hx (hb hby d7_159) rfl rfl ?_
                refine Own.lload 163 X42 hx (hb hby d7_161) rfl rfl ?_
                refine Own.lconst 164 X42 hx ((1 : Int64)) (hb hby d7_163) rfl rfl ?_
                refine Own.ladd 165 X42 hx (hb hby d7_164) rfl rfl ?_
                refine Own.lstore 167 (fun v10_165 => #[.val (.ref t), .val (.int (Own.N (o kx))), .val (.long low), .second, .val (.long high), .second, .val (.long rr2), .second, .val (.int (Own.N (o (lp - 1)))), .val (.int (Own.N (o rp))), .val (.long v10_165), .second, .val (.int (Own.N (2))), .val (.long s13), .second, .val (.long s15), .second, .unset, .unset, .unset, .unset, .unset]) X42 hx (hb hby d7_165) rfl (fun _ => rfl) fun v10_165 hv10_165 => ?_
                refine Own.goto 123 X42 hx (hb hby d7_167) (by decide) ?_
                exact ih (lp - 1) rp _ _ _ (by omega) h2 h3 (by rw [hv10_165, own_l1 hct (by omega)]; omega) (by omega) _ _ X42 e42 Ny
        have H2 : ∀ (lp rp : Nat) (ct s13 s15 : Int64) (h1 : lp ≤ kx) (h2 : kx ≤ rp) (h3 : rp < n) (hct : ct.toInt = ((rp - lp + 1 : Nat) : Int)) (Ty : State) (Ly : List Loc) (Xy : Stand p l e ({ frames := 1, cells := 0, slots := 0, locals := 15 } : Room) s m #[(.ref t), (.int (Own.N (o kx)))] below meth c Ty Ly 0 0) (ey : Ty.heap = h0) (Ny : Fr n0 Ly), Own.Ends p.tables e below (fun v h L => v = none ∧ Fr n0 L ∧ Keep h0 h [lb] ∧ Own.Ax Z h lb .long (Own.N n)) (Own.FE s ({ frames := 1, cells := 0, slots := 0, locals := 15 } : Room).cells ({ frames := 1, cells := 0, slots := 0, locals := 15 } : Room).slots) (Ty.setTop (mkF m 104 #[.val (.ref t), .val (.int (Own.N (o kx))), .val (.long low), .second, .val (.long high), .second, .val (.long rr2), .second, .val (.int (Own.N (o lp))), .val (.int (Own.N (o rp))), .val (.long ct), .second, .val (.int (Own.N (2))), .val (.long s13), .second, .val (.long s15), .second, .unset, .unset, .unset, .unset, .unset] [])) := by
          intro lp rp ct s13 s15 h1 h2 h3 hct Ty Ly Xy ey Ny
          have ol := obs lp (by omega)
          refine Own.lload 106 Xy hx (hb hby d7_104) rfl rfl ?_
          refine Own.iload 108 Xy hx (hb hby d7_106) rfl rfl ?_
          refine Own.lushr 109 Xy hx (hb hby d7_108) rfl rfl ?_
          refine Own.iload 111 Xy hx (hb hby d7_109) rfl rfl ?_
          refine Own.lshl 112 Xy hx (hb hby d7_111) rfl rfl ?_
          refine Own.lstore 114 (fun v13_112 => #[.val (.ref t), .val (.int (Own.N (o kx))), .val (.long low), .second, .val (.long high), .second, .val (.long rr2), .second, .val (.int (Own.N (o lp))), .val (.int (Own.N (o rp))), .val (.long ct), .second, .val (.int (Own.N (2))), .val (.long v13_112), .second, .val (.long s15), .second, .unset, .unset, .unset, .unset, .unset]) Xy hx (hb hby d7_112) rfl (fun _ => rfl) fun v13_112 hv13_112 => ?_
          refine Own.lload 116 Xy hx (hb hby d7_114) rfl rfl ?_
          refine Own.lconst 117 Xy hx ((1 : Int64)) (hb hby d7_116) rfl rfl ?_
          refine Own.iload 119 Xy hx (hb hby d7_117) rfl rfl ?_
          refine Own.lshl 120 Xy hx (hb hby d7_119) rfl rfl ?_
          refine Own.ladd 121 Xy hx (hb hby d7_120) rfl rfl ?_
          refine Own.lstore 123 (fun v15_121 => #[.val (.ref t), .val (.int (Own.N (o kx))), .val (.long low), .second, .val (.long high), .second, .val (.long rr2), .second, .val (.int (Own.N (o lp))), .val (.int (Own.N (o rp))), .val (.long ct), .second, .val (.int (Own.N (2))), .val (.long v13_112), .second, .val (.long v15_121), .second, .unset, .unset, .unset, .unset, .unset]) Xy hx (hb hby d7_121) rfl (fun _ => rfl) fun v15_121 hv15_121 => ?_
          exact JL2 (lp + 1) lp rp ct _ _ h1 h2 h3 hct (by omega) _ _ Xy ey Ny
        have K1 : ∀ (lp rp : Nat) (ct s13 s15 : Int64) (h1 : lp ≤ kx) (h2 : kx ≤ rp) (h3 : rp < n) (hct : ct.toInt = ((rp - lp + 1 : Nat) : Int)) (Ty : State) (Ly : List Loc) (Xy : Stand p l e ({ frames := 1, cells := 0, slots := 0, locals := 15 } : Room) s m #[(.ref t), (.int (Own.N (o kx)))] below meth c Ty Ly 0 0) (ey : Ty.heap = h0) (Ny : Fr n0 Ly), Own.Ends p.tables e below (fun v h L => v = none ∧ Fr n0 L ∧ Keep h0 h [lb] ∧ Own.Ax Z h lb .long (Own.N n)) (Own.FE s ({ frames := 1, cells := 0, slots := 0, locals := 15 } : Room).cells ({ frames := 1, cells := 0, slots := 0, locals := 15 } : Room).slots) (Ty.setTop (mkF m 217 #[.val (.ref t), .val (.int (Own.N (o kx))), .val (.long low), .second, .val (.long high), .second, .val (.long rr2), .second, .val (.int (Own.N (o lp))), .val (.int (Own.N (o rp))), .val (.long ct), .second, .val (.int (Own.N (1))), .val (.long s13), .second, .val (.long s15), .second, .unset, .unset, .unset, .unset, .unset] [])) := by
          intro lp rp ct s13 s15 h1 h2 h3 hct Ty Ly Xy ey Ny
          have ol := obs lp (by omega)
          have or' := obs rp h3
          refine Own.lload 219 Xy hx (hb hby d7_217) rfl rfl ?_
          refine Own.getSta 222 Xy hx hZ hown (host := "") (Or.inl (w 57 rfl)) Via.refl ey (SR.ext X00.2) (hb hby d7_219) rfl ?_
          intro T43 X43 e43
          refine Own.iload 224 X43 hx (hb hby d7_222) rfl rfl ?_
          refine Own.laload 225 X43 hx hZ e43 (1 : Int64) ((show Arv Z Z.heap room kr .long (63 : Int32) [(.long (1 : Int64)), (.long (1 : Int64)), (.long (2 : Int64)), (.long (4 : Int64)), (.long (6 : Int64)), (.long (10 : Int64)), (.long (16 : Int64)), (.long (26 : Int64)), (.long (42 : Int64)), (.long (68 : Int64)), (.long (109 : Int64)), (.long (175 : Int64)), (.long (281 : Int64)), (.long (450 : Int64)), (.long (720 : Int64)), (.long (1152 : Int64)), (.long (1844 : Int64)), (.long (2951 : Int64)), (.long (4722 : Int64)), (.long (7555 : Int64)), (.long (12089 : Int64)), (.long (19342 : Int64)), (.long (30948 : Int64)), (.long (49517 : Int64)), (.long (79228 : Int64)), (.long (126765 : Int64)), (.long (202824 : Int64)), (.long (324518 : Int64)), (.long (519229 : Int64)), (.long (830767 : Int64)), (.long (1329227 : Int64)), (.long (2126764 : Int64)), (.long (3402823 : Int64)), (.long (5444517 : Int64)), (.long (8711228 : Int64)), (.long (13937965 : Int64)), (.long (22300745 : Int64)), (.long (35681192 : Int64)), (.long (57089907 : Int64)), (.long (91343852 : Int64)), (.long (146150163 : Int64)), (.long (233840261 : Int64)), (.long (374144419 : Int64)), (.long (598631070 : Int64)), (.long (957809713 : Int64)), (.long (1532495540 : Int64)), (.long (2451992865 : Int64)), (.long (3923188584 : Int64)), (.long (6277101735 : Int64)), (.long (10043362776 : Int64)), (.long (16069380442 : Int64)), (.long (25711008708 : Int64)), (.long (41137613933 : Int64)), (.long (65820182292 : Int64)), (.long (105312291668 : Int64)), (.long (168499666669 : Int64)), (.long (269599466671 : Int64)), (.long (431359146674 : Int64)), (.long (690174634679 : Int64)), (.long (1104279415486 : Int64)), (.long (1766847064778 : Int64)), (.long (2826955303645 : Int64)), (.long (4523128485832 : Int64))] (.long (0 : Int64)) from VR).ext X00.2) (by decide) rfl (hb hby d7_224) rfl ?_
          refine Own.lif_gt 282 229 X43 hx (hb hby d7_225) rfl (hb hby d7_226) (by decide) rfl (fun q => ?_) (fun q => ?_)
          ·
            refine Own.iinc 285 (fun c_44 => #[.val (.ref t), .val (.int (Own.N (o kx))), .val (.long low), .second, .val (.long high), .second, .val (.long rr2), .second, .val (.int (Own.N (o lp))), .val (.int (Own.N (o rp))), .val (.long ct), .second, .val (.int c_44), .val (.long s13), .second, .val (.long s15), .second, .unset, .unset, .unset, .unset, .unset]) X43 hx (Own.N 1) (hb hby d7_282) rfl rfl rfl (fun _ => rfl) fun c_44 hc_44 => ?_
            obtain rfl : c_44 = Own.N (2) := hc_44.trans (by decide)
            refine Own.goto 104 X43 hx (hb hby d7_285) (by decide) ?_
            exact H2 lp rp ct s13 s15 h1 h2 h3 hct _ _ X43 e43 Ny
          ·
            refine Own.lconst 230 X43 hx ((1 : Int64)) (hb hby d7_229) rfl rfl ?_
            refine Own.iload 232 X43 hx (hb hby d7_230) rfl rfl ?_
            refine Own.lshl 233 X43 hx (hb hby d7_232) rfl rfl ?_
            refine Own.lload 235 X43 hx (hb hby d7_233) rfl rfl ?_
            refine Own.ldiv 236 X43 hx (hb hby d7_235) rfl (fun q9 => by have z9 := congrArg Int64.toInt q9; rw [hct, show (0 : Int64).toInt = 0 from by decide] at z9; omega) rfl ?_
            refine Own.lstore 238 (fun v17_236 => #[.val (.ref t), .val (.int (Own.N (o kx))), .val (.long low), .second, .val (.long high), .second, .val (.long rr2), .second, .val (.int (Own.N (o lp))), .val (.int (Own.N (o rp))), .val (.long ct), .second, .val (.int (Own.N (1))), .val (.long s13), .second, .val (.long s15), .second, .val (.long v17_236), .second, .unset, .unset, .unset]) X43 hx (hb hby d7_236) rfl (fun _ => rfl) fun v17_236 hv17_236 => ?_
            refine Own.lload 240 X43 hx (hb hby d7_238) rfl rfl ?_
            refine Own.lstoreV 242 #[.val (.ref t), .val (.int (Own.N (o kx))), .val (.long low), .second, .val (.long high), .second, .val (.long rr2), .second, .val (.int (Own.N (o lp))), .val (.int (Own.N (o rp))), .val (.long ct), .second, .val (.int (Own.N (1))), .val (.long s13), .second, .val (.long s15), .second, .val (.long v17_236), .second, .val (.long s13), .second, .unset] X43 hx (hb hby d7_240) rfl rfl ?_
            refine Own.iload 244 X43 hx (hb hby d7_242) rfl rfl ?_
            refine Own.istoreV 246 #[.val (.ref t), .val (.int (Own.N (o kx))), .val (.long low), .second, .val (.long high), .second, .val (.long rr2), .second, .val (.int (Own.N (o lp))), .val (.int (Own.N (o rp))), .val (.long ct), .second, .val (.int (Own.N (1))), .val (.long s13), .second, .val (.long s15), .second, .val (.long v17_236), .second, .val (.long s13), .second, .val (.int (Own.N (o lp)))] X43 hx (hb hby d7_244) rfl rfl ?_
            exact JS (n + 1) lp lp rp 1 _ _ _ _ _ _ _ _ X43 e43 Ny (Keep.refl h0 [lb]) Alb_1 (by omega) (by omega) h3 (by omega)
        have JR1 : ∀ (kk lp rp : Nat) (ct s13 s15 : Int64) (h1 : lp ≤ kx) (h2 : kx ≤ rp) (h3 : rp < n) (hct : ct.toInt = ((rp - lp + 1 : Nat) : Int)) (hkk : n - rp < kk) (Ty : State) (Ly : List Loc) (Xy : Stand p l e ({ frames := 1, cells := 0, slots := 0, locals := 15 } : Room) s m #[(.ref t), (.int (Own.N (o kx)))] below meth c Ty Ly 0 0) (ey : Ty.heap = h0) (Ny : Fr n0 Ly), Own.Ends p.tables e below (fun v h L => v = none ∧ Fr n0 L ∧ Keep h0 h [lb] ∧ Own.Ax Z h lb .long (Own.N n)) (Own.FE s ({ frames := 1, cells := 0, slots := 0, locals := 15 } : Room).cells ({ frames := 1, cells := 0, slots := 0, locals := 15 } : Room).slots) (Ty.setTop (mkF m 170 #[.val (.ref t), .val (.int (Own.N (o kx))), .val (.long low), .second, .val (.long high), .second, .val (.long rr2), .second, .val (.int (Own.N (o lp))), .val (.int (Own.N (o rp))), .val (.long ct), .second, .val (.int (Own.N (1))), .val (.long s13), .second, .val (.long s15), .second, .unset, .unset, .unset, .unset, .unset] [])) := by
          intro kk
          induction kk with
          | zero => intros; exfalso; omega
          | succ kk ih =>
            intro lp rp ct s13 s15 h1 h2 h3 hct hkk Ty Ly Xy ey Ny
            have or' := obs rp h3
            by_cases c9 : rp + 1 < n
            ·
              have o1 := obs (rp + 1) c9
              refine Own.aloadN 171 Xy hx (hb hby d7_170) rfl rfl rfl ?_
              refine Own.getFld 174 Xy hx hZ hown (host := "") (Or.inl (w 10 rfl)) Via.refl ey Fne_1 (hb hby d7_171) rfl ?_
              intro T45 X45 e45
              refine Own.iload 176 X45 hx (hb hby d7_174) rfl rfl ?_
              refine Own.nLoad 177 (Own.N (o (rp + 1))) X45 hx hZ e45 Cnx_1 (by omega) ((H rp (by omega)).1.trans (own_e_lt (by omega))) (hb hby d7_176) rfl ?_
              refine Own.iconst 178 X45 hx ((-1 : Int32)) (hb hby d7_177) rfl rfl ?_
              refine Own.icmp_eq 217 181 X45 hx (hb hby d7_178) (by decide) rfl (fun tk => absurd tk (Own.N_ne1 (by omega))) (fun tk => ?_)
              refine Own.aloadN 182 X45 hx (hb hby d7_181) rfl rfl rfl ?_
              refine Own.getFld 185 X45 hx hZ hown (host := "") (Or.inl (w 15 rfl)) Via.refl e45 Fla_1 (hb hby d7_182) rfl ?_
              intro T46 X46 e46
              refine Own.aloadN 186 X46 hx (hb hby d7_185) rfl rfl rfl ?_
              refine Own.getFld 189 X46 hx hZ hown (host := "") (Or.inl (w 10 rfl)) Via.refl e46 Fne_1 (hb hby d7_186) rfl ?_
              intro T47 X47 e47
              refine Own.iload 191 X47 hx (hb hby d7_189) rfl rfl ?_
              refine Own.nLoad 192 (Own.N (o (rp + 1))) X47 hx hZ e47 Cnx_1 (by omega) ((H rp (by omega)).1.trans (own_e_lt (by omega))) (hb hby d7_191) rfl ?_
              refine Own.axLoadJ 193 X47 hx hZ e47 Alb_1 (Own.inN (by omega) (by omega)) (hb hby d7_192) rfl fun y48 => ?_
              refine Own.lload 195 X47 hx (hb hby d7_193) rfl rfl ?_
              refine Own.lif_ge 217 199 X47 hx (hb hby d7_195) rfl (hb hby d7_196) (by decide) rfl (fun q => ?_) (fun q => ?_)
              ·
                exact K1 lp rp ct s13 s15 h1 h2 h3 hct _ _ X47 e47 Ny
              ·
                refine Own.aloadN 200 X47 hx (hb hby d7_199) rfl rfl rfl ?_
                refine Own.getFld 203 X47 hx hZ hown (host := "") (Or.inl (w 10 rfl)) Via.refl e47 Fne_1 (hb hby d7_200) rfl ?_
                intro T49 X49 e49
                refine Own.iload 205 X49 hx (hb hby d7_203) rfl rfl ?_
                refine Own.nLoad 206 (Own.N (o (rp + 1))) X49 hx hZ e49 Cnx_1 (by omega) ((H rp (by omega)).1.trans (own_e_lt (by omega))) (hb hby d7_205) rfl ?_
                refine Own.istoreV 208 #[.val (.ref t), .val (.int (Own.N (o kx))), .val (.long low), .second, .val (.long high), .second, .val (.long rr2), .second, .val (.int (Own.N (o lp))), .val (.int (Own.N (o (rp + 1)))), .val (.long ct), .second, .val (.int (Own.N (1))), .val (.long s13), .second, .val (.long s15), .second, .unset, .unset, .unset, .unset, .unset] X49 hx (hb hby d7_206) rfl rfl ?_
                refine Own.lload 210 X49 hx (hb hby d7_208) rfl rfl ?_
                refine Own.lconst 211 X49 hx ((1 : Int64)) (hb hby d7_210) rfl rfl ?_
                refine Own.ladd 212 X49 hx (hb hby d7_211) rfl rfl ?_
                refine Own.lstore 214 (fun v10_212 => #[.val (.ref t), .val (.int (Own.N (o kx))), .val (.long low), .second, .val (.long high), .second, .val (.long rr2), .second, .val (.int (Own.N (o lp))), .val (.int (Own.N (o (rp + 1)))), .val (.long v10_212), .second, .val (.int (Own.N (1))), .val (.long s13), .second, .val (.long s15), .second, .unset, .unset, .unset, .unset, .unset]) X49 hx (hb hby d7_212) rfl (fun _ => rfl) fun v10_212 hv10_212 => ?_
                refine Own.goto 170 X49 hx (hb hby d7_214) (by decide) ?_
                exact ih lp (rp + 1) _ _ _ h1 (by omega) c9 (by rw [hv10_212, own_l1 hct (by omega)]; omega) (by omega) _ _ X49 e49 Ny
            ·
              refine Own.aloadN 171 Xy hx (hb hby d7_170) rfl rfl rfl ?_
              refine Own.getFld 174 Xy hx hZ hown (host := "") (Or.inl (w 10 rfl)) Via.refl ey Fne_1 (hb hby d7_171) rfl ?_
              intro T50 X50 e50
              refine Own.iload 176 X50 hx (hb hby d7_174) rfl rfl ?_
              refine Own.nLoad 177 ((-1 : Int32)) X50 hx hZ e50 Cnx_1 (by omega) ((H rp (by omega)).1.trans (own_e_ge (by omega))) (hb hby d7_176) rfl ?_
              refine Own.iconst 178 X50 hx ((-1 : Int32)) (hb hby d7_177) rfl rfl ?_
              refine Own.icmp_eq 217 181 X50 hx (hb hby d7_178) (by decide) rfl (fun tk => ?_) (fun tk => absurd rfl tk)
              exact K1 lp rp ct s13 s15 h1 h2 h3 hct _ _ X50 e50 Ny
        have JL1 : ∀ (kk lp rp : Nat) (ct s13 s15 : Int64) (h1 : lp ≤ kx) (h2 : kx ≤ rp) (h3 : rp < n) (hct : ct.toInt = ((rp - lp + 1 : Nat) : Int)) (hkk : lp < kk) (Ty : State) (Ly : List Loc) (Xy : Stand p l e ({ frames := 1, cells := 0, slots := 0, locals := 15 } : Room) s m #[(.ref t), (.int (Own.N (o kx)))] below meth c Ty Ly 0 0) (ey : Ty.heap = h0) (Ny : Fr n0 Ly), Own.Ends p.tables e below (fun v h L => v = none ∧ Fr n0 L ∧ Keep h0 h [lb] ∧ Own.Ax Z h lb .long (Own.N n)) (Own.FE s ({ frames := 1, cells := 0, slots := 0, locals := 15 } : Room).cells ({ frames := 1, cells := 0, slots := 0, locals := 15 } : Room).slots) (Ty.setTop (mkF m 123 #[.val (.ref t), .val (.int (Own.N (o kx))), .val (.long low), .second, .val (.long high), .second, .val (.long rr2), .second, .val (.int (Own.N (o lp))), .val (.int (Own.N (o rp))), .val (.long ct), .second, .val (.int (Own.N (1))), .val (.long s13), .second, .val (.long s15), .second, .unset, .unset, .unset, .unset, .unset] [])) := by
          intro kk
          induction kk with
          | zero => intros; exfalso; omega
          | succ kk ih =>
            intro lp rp ct s13 s15 h1 h2 h3 hct hkk Ty Ly Xy ey Ny
            have ol := obs lp (by omega)
            by_cases c9 : lp = 0
            ·
              refine Own.aloadN 124 Xy hx (hb hby d7_123) rfl rfl rfl ?_
              refine Own.getFld 127 Xy hx hZ hown (host := "") (Or.inl (w 12 rfl)) Via.refl ey Fpr_1 (hb hby d7_124) rfl ?_
              intro T51 X51 e51
              refine Own.iload 129 X51 hx (hb hby d7_127) rfl rfl ?_
              refine Own.nLoad 130 ((-1 : Int32)) X51 hx hZ e51 Cpv_1 (by omega) ((H lp (by omega)).2.trans (own_p_0 (by omega))) (hb hby d7_129) rfl ?_
              refine Own.iconst 131 X51 hx ((-1 : Int32)) (hb hby d7_130) rfl rfl ?_
              refine Own.icmp_eq 170 134 X51 hx (hb hby d7_131) (by decide) rfl (fun tk => ?_) (fun tk => absurd rfl tk)
              exact JR1 (n + 1) lp rp ct s13 s15 h1 h2 h3 hct (by omega) _ _ X51 e51 Ny
            ·
              have o1 := obs (lp - 1) (by omega)
              refine Own.aloadN 124 Xy hx (hb hby d7_123) rfl rfl rfl ?_
              refine Own.getFld 127 Xy hx hZ hown (host := "") (Or.inl (w 12 rfl)) Via.refl ey Fpr_1 (hb hby d7_124) rfl ?_
              intro T52 X52 e52
              refine Own.iload 129 X52 hx (hb hby d7_127) rfl rfl ?_
              refine Own.nLoad 130 (Own.N (o (lp - 1))) X52 hx hZ e52 Cpv_1 (by omega) ((H lp (by omega)).2.trans (own_p_s (by omega))) (hb hby d7_129) rfl ?_
              refine Own.iconst 131 X52 hx ((-1 : Int32)) (hb hby d7_130) rfl rfl ?_
              refine Own.icmp_eq 170 134 X52 hx (hb hby d7_131) (by decide) rfl (fun tk => absurd tk (Own.N_ne1 (by omega))) (fun tk => ?_)
              refine Own.aloadN 135 X52 hx (hb hby d7_134) rfl rfl rfl ?_
              refine Own.getFld 138 X52 hx hZ hown (host := "") (Or.inl (w 15 rfl)) Via.refl e52 Fla_1 (hb hby d7_135) rfl ?_
              intro T53 X53 e53
              refine Own.aloadN 139 X53 hx (hb hby d7_138) rfl rfl rfl ?_
              refine Own.getFld 142 X53 hx hZ hown (host := "") (Or.inl (w 12 rfl)) Via.refl e53 Fpr_1 (hb hby d7_139) rfl ?_
              intro T54 X54 e54
              refine Own.iload 144 X54 hx (hb hby d7_142) rfl rfl ?_
              refine Own.nLoad 145 (Own.N (o (lp - 1))) X54 hx hZ e54 Cpv_1 (by omega) ((H lp (by omega)).2.trans (own_p_s (by omega))) (hb hby d7_144) rfl ?_
              refine Own.axLoadJ 146 X54 hx hZ e54 Alb_1 (Own.inN (by omega) (by omega)) (hb hby d7_145) rfl fun y55 => ?_
              refine Own.lload 148 X54 hx (hb hby d7_146) rfl rfl ?_
              refine Own.lif_lt 170 152 X54 hx (hb hby d7_148) rfl (hb hby d7_149) (by decide) rfl (fun q => ?_) (fun q => ?_)
              ·
                exact JR1 (n + 1) lp rp ct s13 s15 h1 h2 h3 hct (by omega) _ _ X54 e54 Ny
              ·
                refine Own.aloadN 153 X54 hx (hb hby d7_152) rfl rfl rfl ?_
                refine Own.getFld 156 X54 hx hZ hown (host := "") (Or.inl (w 12 rfl)) Via.refl e54 Fpr_1 (hb hby d7_153) rfl ?_
                intro T56 X56 e56
                refine Own.iload 158 X56 hx (hb hby d7_156) rfl rfl ?_
                refine Own.nLoad 159 (Own.N (o (lp - 1))) X56 hx hZ e56 Cpv_1 (by omega) ((H lp (by omega)).2.trans (own_p_s (by omega))) (hb hby d7_158) rfl ?_
                refine Own.istoreV 161 #[.val (.ref t), .val (.int (Own.N (o kx))), .val (.long low), .second, .val (.long high), .second, .val (.long rr2), .second, .val (.int (Own.N (o (lp - 1)))), .val (.int (Own.N (o rp))), .val (.long ct), .second, .val (.int (Own.N (1))), .val (.long s13), .second, .val (.long s15), .second, .unset, .unset, .unset, .unset, .unset] X56 hx (hb hby d7_159) rfl rfl ?_
                refine Own.lload 163 X56 hx (hb hby d7_161) rfl rfl ?_
                refine Own.lconst 164 X56 hx ((1 : Int64)) (hb hby d7_163) rfl rfl ?_
                refine Own.ladd 165 X56 hx (hb hby d7_164) rfl rfl ?_
                refine Own.lstore 167 (fun v10_165 => #[.val (.ref t), .val (.int (Own.N (o kx))), .val (.long low), .second, .val (.long high), .second, .val (.long rr2), .second, .val (.int (Own.N (o (lp - 1)))), .val (.int (Own.N (o rp))), .val (.long v10_165), .second, .val (.int (Own.N (1))), .val (.long s13), .second, .val (.long s15), .second, .unset, .unset, .unset, .unset, .unset]) X56 hx (hb hby d7_165) rfl (fun _ => rfl) fun v10_165 hv10_165 => ?_
                refine Own.goto 123 X56 hx (hb hby d7_167) (by decide) ?_
                exact ih (lp - 1) rp _ _ _ (by omega) h2 h3 (by rw [hv10_165, own_l1 hct (by omega)]; omega) (by omega) _ _ X56 e56 Ny
        have H1 : ∀ (lp rp : Nat) (ct s13 s15 : Int64) (h1 : lp ≤ kx) (h2 : kx ≤ rp) (h3 : rp < n) (hct : ct.toInt = ((rp - lp + 1 : Nat) : Int)) (Ty : State) (Ly : List Loc) (Xy : Stand p l e ({ frames := 1, cells := 0, slots := 0, locals := 15 } : Room) s m #[(.ref t), (.int (Own.N (o kx)))] below meth c Ty Ly 0 0) (ey : Ty.heap = h0) (Ny : Fr n0 Ly), Own.Ends p.tables e below (fun v h L => v = none ∧ Fr n0 L ∧ Keep h0 h [lb] ∧ Own.Ax Z h lb .long (Own.N n)) (Own.FE s ({ frames := 1, cells := 0, slots := 0, locals := 15 } : Room).cells ({ frames := 1, cells := 0, slots := 0, locals := 15 } : Room).slots) (Ty.setTop (mkF m 104 #[.val (.ref t), .val (.int (Own.N (o kx))), .val (.long low), .second, .val (.long high), .second, .val (.long rr2), .second, .val (.int (Own.N (o lp))), .val (.int (Own.N (o rp))), .val (.long ct), .second, .val (.int (Own.N (1))), .unset, .unset, .unset, .unset, .unset, .unset, .unset, .unset, .unset] [])) := by
          intro lp rp ct s13 s15 h1 h2 h3 hct Ty Ly Xy ey Ny
          have ol := obs lp (by omega)
          refine Own.lload 106 Xy hx (hb hby d7_104) rfl rfl ?_
          refine Own.iload 108 Xy hx (hb hby d7_106) rfl rfl ?_
          refine Own.lushr 109 Xy hx (hb hby d7_108) rfl rfl ?_
          refine Own.iload 111 Xy hx (hb hby d7_109) rfl rfl ?_
          refine Own.lshl 112 Xy hx (hb hby d7_111) rfl rfl ?_
          refine Own.lstore 114 (fun v13_112 => #[.val (.ref t), .val (.int (Own.N (o kx))), .val (.long low), .second, .val (.long high), .second, .val (.long rr2), .second, .val (.int (Own.N (o lp))), .val (.int (Own.N (o rp))), .val (.long ct), .second, .val (.int (Own.N (1))), .val (.long v13_112), .second, .unset, .unset, .unset, .unset, .unset, .unset, .unset]) Xy hx (hb hby d7_112) rfl (fun _ => rfl) fun v13_112 hv13_112 => ?_
          refine Own.lload 116 Xy hx (hb hby d7_114) rfl rfl ?_
          refine Own.lconst 117 Xy hx ((1 : Int64)) (hb hby d7_116) rfl rfl ?_
          refine Own.iload 119 Xy hx (hb hby d7_117) rfl rfl ?_
          refine Own.lshl 120 Xy hx (hb hby d7_119) rfl rfl ?_
          refine Own.ladd 121 Xy hx (hb hby d7_120) rfl rfl ?_
          refine Own.lstore 123 (fun v15_121 => #[.val (.ref t), .val (.int (Own.N (o kx))), .val (.long low), .second, .val (.long high), .second, .val (.long rr2), .second, .val (.int (Own.N (o lp))), .val (.int (Own.N (o rp))), .val (.long ct), .second, .val (.int (Own.N (1))), .val (.long v13_112), .second, .val (.long v15_121), .second, .unset, .unset, .unset, .unset, .unset]) Xy hx (hb hby d7_121) rfl (fun _ => rfl) fun v15_121 hv15_121 => ?_
          exact JL1 (lp + 1) lp rp ct _ _ h1 h2 h3 hct (by omega) _ _ Xy ey Ny
        exact H1 kx kx _ 0 0 (by omega) (by omega) hk (by rw [show (1 : Int64).toInt = 1 from by decide]; omega) _ _ X2 hh2 N2
      ·
        refine Own.aloadN 69 Xy hx (hb hby d7_68) rfl rfl rfl ?_
        refine Own.getFld 72 Xy hx hZ hown (host := "") (Or.inl (w 15 rfl)) Via.refl ey Fla_1 (hb hby d7_69) rfl ?_
        intro T57 X57 e57
        refine Own.iloadN 73 X57 hx (hb hby d7_72) rfl rfl ?_
        refine Own.lloadN 74 X57 hx (hb hby d7_73) rfl rfl ?_
        refine Own.lload 76 X57 hx (hb hby d7_74) rfl rfl ?_
        refine Own.lloadN 77 X57 hx (hb hby d7_76) rfl rfl ?_
        refine Own.lsub 78 X57 hx (hb hby d7_77) rfl rfl ?_
        refine Own.ldc2Long 81 X57 hx hZ ((2 : Int64)) hown (w 43 rfl) (hb hby d7_78) rfl ?_
        refine Own.ldiv 82 X57 hx (hb hby d7_81) rfl (by decide) rfl ?_
        refine Own.ladd 83 X57 hx (hb hby d7_82) rfl rfl ?_
        refine Own.axStoreJ 84 X57 hx hZ e57 Alb_1 (Own.inN (by omega) (by omega)) (hb hby d7_83) rfl ?_
        intro T58 h58 X58 e58 W58 A58
        have N58 := Fr.snoc X58 Ny g_lb
        have Ef_60 := E_1.wr W58
        have Ff_61 := Fne_1.other W58 (Or.inl ne_t_lb)
        have Ff_62 := Fpr_1.other W58 (Or.inl ne_t_lb)
        have Ff_63 := Fla_1.other W58 (Or.inl ne_t_lb)
        have Ff_64 := Ffi_1.other W58 (Or.inl ne_t_lb)
        have Cf_66 := Cnx_1.other W58 ne_nx_lb
        have Cf_67 := Cpv_1.other W58 ne_pv_lb
        have O58 := X00.wr W58 g_lb
        have zl58 := Nat.le_trans Z0 (Nat.le_of_eq W58.size.symm)
        have K58 := (Keep.refl h0 [lb]).wr W58 (Or.inl (List.mem_of_getElem? (i := 0) rfl))
        refine Own.retVoid X58 hx hlk hret (hb hby d7_84) (by decide) (by decide) ?_
        rw [e58]
        exact ⟨rfl, N58, K58, A58⟩
    by_cases c9 : kx + 1 < n
    ·
      have ob1 := obs (kx + 1) c9
      refine Own.aloadN 29 Xy hx (hb hby d7_28) rfl rfl rfl ?_
      refine Own.getFld 32 Xy hx hZ hown (host := "") (Or.inl (w 10 rfl)) Via.refl ey Fne_1 (hb hby d7_29) rfl ?_
      intro T68 X68 e68
      refine Own.iloadN 33 X68 hx (hb hby d7_32) rfl rfl ?_
      refine Own.nLoad 34 (Own.N (o (kx + 1))) X68 hx hZ e68 Cnx_1 (by omega) ((H kx (by omega)).1.trans (own_e_lt (by omega))) (hb hby d7_33) rfl ?_
      refine Own.iconst 35 X68 hx ((-1 : Int32)) (hb hby d7_34) rfl rfl ?_
      refine Own.icmp_ne 44 38 X68 hx (hb hby d7_35) (by decide) rfl (fun tk => ?_) (fun tk => absurd tk (Own.N_ne1 (by omega)))
      refine Own.aloadN 45 X68 hx (hb hby d7_44) rfl rfl rfl ?_
      refine Own.getFld 48 X68 hx hZ hown (host := "") (Or.inl (w 15 rfl)) Via.refl e68 Fla_1 (hb hby d7_45) rfl ?_
      intro T69 X69 e69
      refine Own.aloadN 49 X69 hx (hb hby d7_48) rfl rfl rfl ?_
      refine Own.getFld 52 X69 hx hZ hown (host := "") (Or.inl (w 10 rfl)) Via.refl e69 Fne_1 (hb hby d7_49) rfl ?_
      intro T70 X70 e70
      refine Own.iloadN 53 X70 hx (hb hby d7_52) rfl rfl ?_
      refine Own.nLoad 54 (Own.N (o (kx + 1))) X70 hx hZ e70 Cnx_1 (by omega) ((H kx (by omega)).1.trans (own_e_lt (by omega))) (hb hby d7_53) rfl ?_
      refine Own.axLoadJ 55 X70 hx hZ e70 Alb_1 (Own.inN (by omega) (by omega)) (hb hby d7_54) rfl fun y71 => ?_
      exact J55 _ _ _ X70 e70 Ny
    ·
      refine Own.aloadN 29 Xy hx (hb hby d7_28) rfl rfl rfl ?_
      refine Own.getFld 32 Xy hx hZ hown (host := "") (Or.inl (w 10 rfl)) Via.refl ey Fne_1 (hb hby d7_29) rfl ?_
      intro T72 X72 e72
      refine Own.iloadN 33 X72 hx (hb hby d7_32) rfl rfl ?_
      refine Own.nLoad 34 ((-1 : Int32)) X72 hx hZ e72 Cnx_1 (by omega) ((H kx (by omega)).1.trans (own_e_ge (by omega))) (hb hby d7_33) rfl ?_
      refine Own.iconst 35 X72 hx ((-1 : Int32)) (hb hby d7_34) rfl rfl ?_
      refine Own.icmp_ne 44 38 X72 hx (hb hby d7_35) (by decide) rfl (fun tk => absurd rfl tk) (fun tk => ?_)
      refine Own.ldc2Long 41 X72 hx hZ ((4611686018427387904 : Int64)) hown (w 19 rfl) (hb hby d7_38) rfl ?_
      refine Own.goto 55 X72 hx (hb hby d7_41) (by decide) ?_
      exact J55 _ _ _ X72 e72 Ny
  by_cases c8 : kx = 0
  ·
    refine Own.aloadN 1 X0 hx (hb hby d7_0) rfl rfl rfl ?_
    refine Own.getFld 4 X0 hx hZ hown (host := "") (Or.inl (w 12 rfl)) Via.refl e0 Fpr_1 (hb hby d7_1) rfl ?_
    intro T73 X73 e73
    refine Own.iloadN 5 X73 hx (hb hby d7_4) rfl rfl ?_
    refine Own.nLoad 6 ((-1 : Int32)) X73 hx hZ e73 Cpv_1 (by omega) ((H kx (by omega)).2.trans (own_p_0 (by omega))) (hb hby d7_5) rfl ?_
    refine Own.iconst 7 X73 hx ((-1 : Int32)) (hb hby d7_6) rfl rfl ?_
    refine Own.icmp_ne 16 10 X73 hx (hb hby d7_7) (by decide) rfl (fun tk => absurd rfl tk) (fun tk => ?_)
    refine Own.ldc2Long 13 X73 hx hZ ((-1 : Int64)) hown (w 53 rfl) (hb hby d7_10) rfl ?_
    refine Own.goto 27 X73 hx (hb hby d7_13) (by decide) ?_
    exact J27 _ _ _ X73 e73 N0
  ·
    have ob1 := obs (kx - 1) (by omega)
    refine Own.aloadN 1 X0 hx (hb hby d7_0) rfl rfl rfl ?_
    refine Own.getFld 4 X0 hx hZ hown (host := "") (Or.inl (w 12 rfl)) Via.refl e0 Fpr_1 (hb hby d7_1) rfl ?_
    intro T74 X74 e74
    refine Own.iloadN 5 X74 hx (hb hby d7_4) rfl rfl ?_
    refine Own.nLoad 6 (Own.N (o (kx - 1))) X74 hx hZ e74 Cpv_1 (by omega) ((H kx (by omega)).2.trans (own_p_s (by omega))) (hb hby d7_5) rfl ?_
    refine Own.iconst 7 X74 hx ((-1 : Int32)) (hb hby d7_6) rfl rfl ?_
    refine Own.icmp_ne 16 10 X74 hx (hb hby d7_7) (by decide) rfl (fun tk => ?_) (fun tk => absurd tk (Own.N_ne1 (by omega)))
    refine Own.aloadN 17 X74 hx (hb hby d7_16) rfl rfl rfl ?_
    refine Own.getFld 20 X74 hx hZ hown (host := "") (Or.inl (w 15 rfl)) Via.refl e74 Fla_1 (hb hby d7_17) rfl ?_
    intro T75 X75 e75
    refine Own.aloadN 21 X75 hx (hb hby d7_20) rfl rfl rfl ?_
    refine Own.getFld 24 X75 hx hZ hown (host := "") (Or.inl (w 12 rfl)) Via.refl e75 Fpr_1 (hb hby d7_21) rfl ?_
    intro T76 X76 e76
    refine Own.iloadN 25 X76 hx (hb hby d7_24) rfl rfl ?_
    refine Own.nLoad 26 (Own.N (o (kx - 1))) X76 hx hZ e76 Cpv_1 (by omega) ((H kx (by omega)).2.trans (own_p_s (by omega))) (hb hby d7_25) rfl ?_
    refine Own.axLoadJ 27 X76 hx hZ e76 Alb_1 (Own.inN (by omega) (by omega)) (hb hby d7_26) rfl fun y77 => ?_
    exact J27 _ _ _ X76 e76 N0
theorem d6_0 : decode prog_14_method_7_code 0 = .ok (.aload_n 0, 1) := by decide +kernel
theorem d6_1 : decode prog_14_method_7_code 1 = .ok (.getfield 13, 3) := by decide +kernel
theorem d6_4 : decode prog_14_method_7_code 4 = .ok (.iload_n 1, 1) := by decide +kernel
theorem d6_5 : decode prog_14_method_7_code 5 = .ok (.iaload, 1) := by decide +kernel
theorem d6_6 : decode prog_14_method_7_code 6 = .ok (.iconst (-1), 1) := by decide +kernel
theorem d6_7 : decode prog_14_method_7_code 7 = .ok (.if_icmp .ne 16, 3) := by decide +kernel
theorem d6_10 : decode prog_14_method_7_code 10 = .ok (.aload_n 0, 1) := by decide +kernel
theorem d6_11 : decode prog_14_method_7_code 11 = .ok (.aload_n 0, 1) := by decide +kernel
theorem d6_12 : decode prog_14_method_7_code 12 = .ok (.getfield 7, 3) := by decide +kernel
theorem d6_15 : decode prog_14_method_7_code 15 = .ok (.iload_n 1, 1) := by decide +kernel
theorem d6_16 : decode prog_14_method_7_code 16 = .ok (.iaload, 1) := by decide +kernel
theorem d6_17 : decode prog_14_method_7_code 17 = .ok (.putfield 20, 3) := by decide +kernel
theorem d6_20 : decode prog_14_method_7_code 20 = .ok (.goto 20, 3) := by decide +kernel
theorem d6_23 : decode prog_14_method_7_code 23 = .ok (.aload_n 0, 1) := by decide +kernel
theorem d6_24 : decode prog_14_method_7_code 24 = .ok (.getfield 7, 3) := by decide +kernel
theorem d6_27 : decode prog_14_method_7_code 27 = .ok (.aload_n 0, 1) := by decide +kernel
theorem d6_28 : decode prog_14_method_7_code 28 = .ok (.getfield 13, 3) := by decide +kernel
theorem d6_31 : decode prog_14_method_7_code 31 = .ok (.iload_n 1, 1) := by decide +kernel
theorem d6_32 : decode prog_14_method_7_code 32 = .ok (.iaload, 1) := by decide +kernel
theorem d6_33 : decode prog_14_method_7_code 33 = .ok (.aload_n 0, 1) := by decide +kernel
theorem d6_34 : decode prog_14_method_7_code 34 = .ok (.getfield 7, 3) := by decide +kernel
theorem d6_37 : decode prog_14_method_7_code 37 = .ok (.iload_n 1, 1) := by decide +kernel
theorem d6_38 : decode prog_14_method_7_code 38 = .ok (.iaload, 1) := by decide +kernel
theorem d6_39 : decode prog_14_method_7_code 39 = .ok (.iastore, 1) := by decide +kernel
theorem d6_40 : decode prog_14_method_7_code 40 = .ok (.aload_n 0, 1) := by decide +kernel
theorem d6_41 : decode prog_14_method_7_code 41 = .ok (.getfield 7, 3) := by decide +kernel
theorem d6_44 : decode prog_14_method_7_code 44 = .ok (.iload_n 1, 1) := by decide +kernel
theorem d6_45 : decode prog_14_method_7_code 45 = .ok (.iaload, 1) := by decide +kernel
theorem d6_46 : decode prog_14_method_7_code 46 = .ok (.iconst (-1), 1) := by decide +kernel
theorem d6_47 : decode prog_14_method_7_code 47 = .ok (.if_icmp .eq 20, 3) := by decide +kernel
theorem d6_50 : decode prog_14_method_7_code 50 = .ok (.aload_n 0, 1) := by decide +kernel
theorem d6_51 : decode prog_14_method_7_code 51 = .ok (.getfield 13, 3) := by decide +kernel
theorem d6_54 : decode prog_14_method_7_code 54 = .ok (.aload_n 0, 1) := by decide +kernel
theorem d6_55 : decode prog_14_method_7_code 55 = .ok (.getfield 7, 3) := by decide +kernel
theorem d6_58 : decode prog_14_method_7_code 58 = .ok (.iload_n 1, 1) := by decide +kernel
theorem d6_59 : decode prog_14_method_7_code 59 = .ok (.iaload, 1) := by decide +kernel
theorem d6_60 : decode prog_14_method_7_code 60 = .ok (.aload_n 0, 1) := by decide +kernel
theorem d6_61 : decode prog_14_method_7_code 61 = .ok (.getfield 13, 3) := by decide +kernel
theorem d6_64 : decode prog_14_method_7_code 64 = .ok (.iload_n 1, 1) := by decide +kernel
theorem d6_65 : decode prog_14_method_7_code 65 = .ok (.iaload, 1) := by decide +kernel
theorem d6_66 : decode prog_14_method_7_code 66 = .ok (.iastore, 1) := by decide +kernel
theorem d6_67 : decode prog_14_method_7_code 67 = .ok (.iload_n 2, 1) := by decide +kernel
theorem d6_68 : decode prog_14_method_7_code 68 = .ok (.iconst (-1), 1) := by decide +kernel
theorem d6_69 : decode prog_14_method_7_code 69 = .ok (.if_icmp .ne 10, 3) := by decide +kernel
theorem d6_72 : decode prog_14_method_7_code 72 = .ok (.aload_n 0, 1) := by decide +kernel
theorem d6_73 : decode prog_14_method_7_code 73 = .ok (.getfield 20, 3) := by decide +kernel
theorem d6_76 : decode prog_14_method_7_code 76 = .ok (.goto 9, 3) := by decide +kernel
theorem d6_85 : decode prog_14_method_7_code 85 = .ok (.istore_n 3, 1) := by decide +kernel
theorem d6_86 : decode prog_14_method_7_code 86 = .ok (.aload_n 0, 1) := by decide +kernel
theorem d6_87 : decode prog_14_method_7_code 87 = .ok (.getfield 13, 3) := by decide +kernel
theorem d6_90 : decode prog_14_method_7_code 90 = .ok (.iload_n 1, 1) := by decide +kernel
theorem d6_91 : decode prog_14_method_7_code 91 = .ok (.iload_n 2, 1) := by decide +kernel
theorem d6_92 : decode prog_14_method_7_code 92 = .ok (.iastore, 1) := by decide +kernel
theorem d6_93 : decode prog_14_method_7_code 93 = .ok (.aload_n 0, 1) := by decide +kernel
theorem d6_94 : decode prog_14_method_7_code 94 = .ok (.getfield 7, 3) := by decide +kernel
theorem d6_97 : decode prog_14_method_7_code 97 = .ok (.iload_n 1, 1) := by decide +kernel
theorem d6_98 : decode prog_14_method_7_code 98 = .ok (.iload_n 3, 1) := by decide +kernel
theorem d6_99 : decode prog_14_method_7_code 99 = .ok (.iastore, 1) := by decide +kernel
theorem d6_100 : decode prog_14_method_7_code 100 = .ok (.iload_n 2, 1) := by decide +kernel
theorem d6_101 : decode prog_14_method_7_code 101 = .ok (.iconst (-1), 1) := by decide +kernel
theorem d6_102 : decode prog_14_method_7_code 102 = .ok (.if_icmp .ne 11, 3) := by decide +kernel
theorem d6_105 : decode prog_14_method_7_code 105 = .ok (.aload_n 0, 1) := by decide +kernel
theorem d6_106 : decode prog_14_method_7_code 106 = .ok (.iload_n 1, 1) := by decide +kernel
theorem d6_107 : decode prog_14_method_7_code 107 = .ok (.putfield 20, 3) := by decide +kernel
theorem d6_110 : decode prog_14_method_7_code 110 = .ok (.goto 10, 3) := by decide +kernel
theorem d6_120 : decode prog_14_method_7_code 120 = .ok (.iload_n 3, 1) := by decide +kernel
theorem d6_121 : decode prog_14_method_7_code 121 = .ok (.iconst (-1), 1) := by decide +kernel
theorem d6_122 : decode prog_14_method_7_code 122 = .ok (.if_icmp .eq 10, 3) := by decide +kernel
theorem d6_125 : decode prog_14_method_7_code 125 = .ok (.aload_n 0, 1) := by decide +kernel
theorem d6_126 : decode prog_14_method_7_code 126 = .ok (.getfield 13, 3) := by decide +kernel
theorem d6_129 : decode prog_14_method_7_code 129 = .ok (.iload_n 3, 1) := by decide +kernel
theorem d6_130 : decode prog_14_method_7_code 130 = .ok (.iload_n 1, 1) := by decide +kernel
theorem d6_131 : decode prog_14_method_7_code 131 = .ok (.iastore, 1) := by decide +kernel
theorem d6_132 : decode prog_14_method_7_code 132 = .ok (.aload_n 0, 1) := by decide +kernel
theorem d6_133 : decode prog_14_method_7_code 133 = .ok (.iload_n 1, 1) := by decide +kernel
theorem d6_134 : decode prog_14_method_7_code 134 = .ok (.invokevirtual 32, 3) := by decide +kernel
theorem d6_137 : decode prog_14_method_7_code 137 = .ok (.return_, 1) := by decide +kernel
set_option maxRecDepth 65536 in
set_option maxHeartbeats 40000000 in
theorem m6_0 (l : Launch) (Z : State) (a0 : Array Value) (w : ∀ (i : Nat) {d : Jvm.Cond}, tables_1[i]? = some d → d.before a0 Z = true) (t : Addr) (nx pv lb room : Addr) (kr : ClassId) (n n0 : Nat) (o : Nat → Nat) (fN fP : Nat → Int32) (aa : Nat) (h0 : Heap) (Z0 : n0 ≤ h0.size) (X00 : Old Z n0 h0) (SR : Sta Z Z.heap "com/example/leveler/leveler/crossing/OrderedList" "ROOM" "[J" (.ref room)) (VR : own_room Z room kr) (D0 : own_D n0 t nx pv lb) (S0 : own_L Z h0 t nx pv lb n (own_e n o 0) fN fP) (H : own_LL n o fN fP) (O : own_Or n n o) (bn : n ≤ 4) (ha : aa < n) :
    Own.Met l Z (⟨"com/example/leveler/leveler/crossing/OrderedList", "moveBehind", "(II)V"⟩ : MethodName) prog_14_method_7_code 4 none [] ({ frames := 2, cells := 0, slots := 0, locals := 48 } : Room) #[(.ref t), (.int (Own.N (o aa))), (.int (-1 : Int32))] h0 (fun v h L => v = none ∧ Fr n0 L ∧ Keep h0 h [t, nx, pv, lb] ∧ ∃ fN' fP', own_L Z h t nx pv lb n (own_e n (own_inO (own_rmO o aa) 0 (o aa)) 0) fN' fP' ∧ own_LL n (own_inO (own_rmO o aa) 0 (o aa)) fN' fP' ∧ own_Or n n (own_inO (own_rmO o aa) 0 (o aa))) := by
  refine Own.Met.of (plainFor_of_name (by first | (simp [plainName, overriddenIn]; done) | decide +kernel)) ?_
  intro p e s m below meth c T0 hx hby hml hown hnm hret hlk hZ X0 e0
  have hown : s.vm.findClass "com/example/leveler/leveler/crossing/OrderedList" = some m.cls := hown
  have hml : c.maxLocals = 4 := hml
  have hnm : meth.name = "moveBehind" := hnm
  have ef : entryFrame m #[(.ref t), (.int (Own.N (o aa))), (.int (-1 : Int32))] 4 = mkF m 0 #[.val (.ref t), .val (.int (Own.N (o aa))), .val (.int (-1 : Int32)), .unset] [] := by first | (simp [entryFrame, mkF, argsToLocals, Value.category]; done) | rfl
  rw [ef]
  have N0 := Fr.nil n0
  have D00 := D0
  obtain ⟨ne_t_nx, ne_t_pv, ne_t_lb, ne_nx_pv, ne_nx_lb, ne_pv_lb, g_t, g_nx, g_pv, g_lb⟩ := D0
  obtain ⟨E_1, Fne_1, Fpr_1, Fla_1, Ffi_1, Cnx_1, Cpv_1, Alb_1⟩ := S0
  have obs := fun k hk => (O k hk).1
  have ox := obs aa ha
  have Hx := H aa ha
  have J40 : ∀ (f1 : Int32) (gN : Nat → Int32) (Tq : State) (Lq : List Loc) (hq : Heap) (Xq : Stand p l e ({ frames := 2, cells := 0, slots := 0, locals := 48 } : Room) s m #[(.ref t), (.int (Own.N (o aa))), (.int (-1 : Int32))] below meth c Tq Lq 0 0) (eqq : Tq.heap = hq) (Nq : Fr n0 Lq) (Kq : Keep h0 hq [t, nx, pv, lb]) (Oq : Old Z n0 hq) (Sq : own_L Z hq t nx pv lb n f1 gN fP) (hN : ∀ i, gN i = if aa ≠ 0 ∧ i = o (aa - 1) then own_e n o (aa + 1) else fN i) (hf : f1 = if aa = 0 then own_e n o 1 else own_e n o 0), Own.Ends p.tables e below (fun v h L => v = none ∧ Fr n0 L ∧ Keep h0 h [t, nx, pv, lb] ∧ ∃ fN' fP', own_L Z h t nx pv lb n (own_e n (own_inO (own_rmO o aa) 0 (o aa)) 0) fN' fP' ∧ own_LL n (own_inO (own_rmO o aa) 0 (o aa)) fN' fP' ∧ own_Or n n (own_inO (own_rmO o aa) 0 (o aa))) (Own.FE s ({ frames := 2, cells := 0, slots := 0, locals := 48 } : Room).cells ({ frames := 2, cells := 0, slots := 0, locals := 48 } : Room).slots) (Tq.setTop (mkF m 40 #[.val (.ref t), .val (.int (Own.N (o aa))), .val (.int (-1 : Int32)), .unset] [])) := by
    intro f1 gN Tq Lq hq Xq eqq Nq Kq Oq Sq hN hf
    have zlq := Nat.le_trans Z0 Kq.1
    have gx : gN (o aa) = own_e n o (aa + 1) := by rw [hN, if_neg (fun z => by have z9 := (O aa ha).2 (aa - 1) (by omega) z.2; omega)]; exact Hx.1
    obtain ⟨E_2, Fne_2, Fpr_2, Fla_2, Ffi_2, Cnx_2, Cpv_2, Alb_2⟩ := Sq
    have J67 : ∀ (gP : Nat → Int32) (Tq : State) (Lq : List Loc) (hq : Heap) (Xq : Stand p l e ({ frames := 2, cells := 0, slots := 0, locals := 48 } : Room) s m #[(.ref t), (.int (Own.N (o aa))), (.int (-1 : Int32))] below meth c Tq Lq 0 0) (eqq : Tq.heap = hq) (Nq : Fr n0 Lq) (Kq : Keep h0 hq [t, nx, pv, lb]) (Oq : Old Z n0 hq) (Sq : own_L Z hq t nx pv lb n f1 gN gP) (hP : ∀ i, gP i = if aa + 1 < n ∧ i = o (aa + 1) then own_p o aa else fP i), Own.Ends p.tables e below (fun v h L => v = none ∧ Fr n0 L ∧ Keep h0 h [t, nx, pv, lb] ∧ ∃ fN' fP', own_L Z h t nx pv lb n (own_e n (own_inO (own_rmO o aa) 0 (o aa)) 0) fN' fP' ∧ own_LL n (own_inO (own_rmO o aa) 0 (o aa)) fN' fP' ∧ own_Or n n (own_inO (own_rmO o aa) 0 (o aa))) (Own.FE s ({ frames := 2, cells := 0, slots := 0, locals := 48 } : Room).cells ({ frames := 2, cells := 0, slots := 0, locals := 48 } : Room).slots) (Tq.setTop (mkF m 67 #[.val (.ref t), .val (.int (Own.N (o aa))), .val (.int (-1 : Int32)), .unset] [])) := by
      intro gP Tq Lq hq Xq eqq Nq Kq Oq Sq hP
      have zlq := Nat.le_trans Z0 Kq.1
      obtain ⟨UL, Uf⟩ := own_unlink O H ha hN hP hf
      obtain ⟨RO, Rx⟩ := own_rm_Or O ha
      obtain ⟨E_3, Fne_3, Fpr_3, Fla_3, Ffi_3, Cnx_3, Cpv_3, Alb_3⟩ := Sq
      by_cases c9 : 0 < n - 1
      ·
        have ob2 := (RO 0 c9).1
        have f1e : f1 = (Own.N (own_rmO o aa 0)) := Uf.trans (own_e_lt c9)
        subst f1e
        refine Own.iloadN 68 Xq hx (hb hby d6_67) rfl rfl ?_
        refine Own.iconst 69 Xq hx ((-1 : Int32)) (hb hby d6_68) rfl rfl ?_
        refine Own.icmp_ne 79 72 Xq hx (hb hby d6_69) (by decide) rfl (fun tk => absurd rfl tk) (fun tk => ?_)
        refine Own.aloadN 73 Xq hx (hb hby d6_72) rfl rfl rfl ?_
        refine Own.getFld 76 Xq hx hZ hown (host := "") (Or.inl (w 17 rfl)) Via.refl eqq Ffi_3 (hb hby d6_73) rfl ?_
        intro T4 X4 e4
        refine Own.goto 85 X4 hx (hb hby d6_76) (by decide) ?_
        refine Own.istoreNV 86 #[.val (.ref t), .val (.int (Own.N (o aa))), .val (.int (-1 : Int32)), .val (.int (Own.N (own_rmO o aa 0)))] X4 hx (hb hby d6_85) rfl rfl ?_
        refine Own.aloadN 87 X4 hx (hb hby d6_86) rfl rfl rfl ?_
        refine Own.getFld 90 X4 hx hZ hown (host := "") (Or.inl (w 12 rfl)) Via.refl e4 Fpr_3 (hb hby d6_87) rfl ?_
        intro T5 X5 e5
        refine Own.iloadN 91 X5 hx (hb hby d6_90) rfl rfl ?_
        refine Own.iloadN 92 X5 hx (hb hby d6_91) rfl rfl ?_
        refine Own.nStore 93 X5 hx hZ e5 Cpv_3 (by omega) (hb hby d6_92) rfl ?_
        intro T6 h6 X6 e6 W6 C6
        have N6 := Fr.snoc X6 Nq g_pv
        have Ef_8 := E_3.wr W6
        have Ff_9 := Fne_3.other W6 (Or.inl ne_t_pv)
        have Ff_10 := Fpr_3.other W6 (Or.inl ne_t_pv)
        have Ff_11 := Fla_3.other W6 (Or.inl ne_t_pv)
        have Ff_12 := Ffi_3.other W6 (Or.inl ne_t_pv)
        have Af_13 := Alb_3.other W6 (Ne.symm ne_pv_lb)
        have Cf_14 := Cnx_3.other W6 ne_nx_pv
        have O6 := Oq.wr W6 g_pv
        have zl6 := Nat.le_trans zlq (Nat.le_of_eq W6.size.symm)
        have K6 := Kq.wr W6 (Or.inl (List.mem_of_getElem? (i := 2) rfl))
        refine Own.aloadN 94 X6 hx (hb hby d6_93) rfl rfl rfl ?_
        refine Own.getFld 97 X6 hx hZ hown (host := "") (Or.inl (w 10 rfl)) Via.refl e6 Ff_9 (hb hby d6_94) rfl ?_
        intro T16 X16 e16
        refine Own.iloadN 98 X16 hx (hb hby d6_97) rfl rfl ?_
        refine Own.iloadN 99 X16 hx (hb hby d6_98) rfl rfl ?_
        refine Own.nStore 100 X16 hx hZ e16 Cf_14 (by omega) (hb hby d6_99) rfl ?_
        intro T17 h17 X17 e17 W17 C17
        have N17 := Fr.snoc X17 N6 g_nx
        have Ef_19 := Ef_8.wr W17
        have Ff_20 := Ff_9.other W17 (Or.inl ne_t_nx)
        have Ff_21 := Ff_10.other W17 (Or.inl ne_t_nx)
        have Ff_22 := Ff_11.other W17 (Or.inl ne_t_nx)
        have Ff_23 := Ff_12.other W17 (Or.inl ne_t_nx)
        have Af_24 := Af_13.other W17 (Ne.symm ne_nx_lb)
        have Cf_26 := C6.other W17 (Ne.symm ne_nx_pv)
        have O17 := O6.wr W17 g_nx
        have zl17 := Nat.le_trans zl6 (Nat.le_of_eq W17.size.symm)
        have K17 := K6.wr W17 (Or.inl (List.mem_of_getElem? (i := 1) rfl))
        refine Own.iloadN 101 X17 hx (hb hby d6_100) rfl rfl ?_
        refine Own.iconst 102 X17 hx ((-1 : Int32)) (hb hby d6_101) rfl rfl ?_
        refine Own.icmp_ne 113 105 X17 hx (hb hby d6_102) (by decide) rfl (fun tk => absurd rfl tk) (fun tk => ?_)
        refine Own.aloadN 106 X17 hx (hb hby d6_105) rfl rfl rfl ?_
        refine Own.iloadN 107 X17 hx (hb hby d6_106) rfl rfl ?_
        refine Own.putFld 110 X17 hx hZ hown (host := "") (Or.inl (w 17 rfl)) Via.refl e17 Ff_23 Ef_19 (Or.inl (w 18 rfl)) (w 2 rfl) (ty := .int) (by decide) rfl rfl (hb hby d6_107) rfl ?_
        intro T27 h27 X27 e27 W27
        have N27 := Fr.snoc X27 N17 g_t
        have Ef_29 := Ef_19.wr W27
        have Ff_30 := Ff_20.other W27 (Or.inr (slot_ne (Or.inr (w 11 rfl)) (Or.inl (w 18 rfl)) (by decide) (t := (.array .int)) (t' := .int) (by decide) (by decide)))
        have Ff_31 := Ff_21.other W27 (Or.inr (slot_ne (Or.inr (w 13 rfl)) (Or.inl (w 18 rfl)) (by decide) (t := (.array .int)) (t' := .int) (by decide) (by decide)))
        have Ff_32 := Ff_22.other W27 (Or.inr (slot_ne (Or.inr (w 16 rfl)) (Or.inl (w 18 rfl)) (by decide) (t := (.array .long)) (t' := .int) (by decide) (by decide)))
        have Ff_33 := Ff_23.same W27
        have Af_34 := Af_24.other W27 (Ne.symm ne_t_lb)
        have Cf_35 := Cf_26.other W27 (Ne.symm ne_t_pv)
        have Cf_36 := C17.other W27 (Ne.symm ne_t_nx)
        have O27 := O17.wr W27 g_t
        have zl27 := Nat.le_trans zl17 (Nat.le_of_eq W27.size.symm)
        have K27 := K17.wr W27 (Or.inl (List.mem_of_getElem? (i := 0) rfl))
        refine Own.goto 120 X27 hx (hb hby d6_110) (by decide) ?_
        refine Own.iloadN 121 X27 hx (hb hby d6_120) rfl rfl ?_
        refine Own.iconst 122 X27 hx ((-1 : Int32)) (hb hby d6_121) rfl rfl ?_
        refine Own.icmp_eq 132 125 X27 hx (hb hby d6_122) (by decide) rfl (fun tk => absurd tk (Own.N_ne1 (by omega))) (fun tk => ?_)
        refine Own.aloadN 126 X27 hx (hb hby d6_125) rfl rfl rfl ?_
        refine Own.getFld 129 X27 hx hZ hown (host := "") (Or.inl (w 12 rfl)) Via.refl e27 Ff_31 (hb hby d6_126) rfl ?_
        intro T37 X37 e37
        refine Own.iloadN 130 X37 hx (hb hby d6_129) rfl rfl ?_
        refine Own.iloadN 131 X37 hx (hb hby d6_130) rfl rfl ?_
        refine Own.nStore 132 X37 hx hZ e37 Cf_35 (by omega) (hb hby d6_131) rfl ?_
        intro T38 h38 X38 e38 W38 C38
        have N38 := Fr.snoc X38 N27 g_pv
        have Ef_40 := Ef_29.wr W38
        have Ff_41 := Ff_30.other W38 (Or.inl ne_t_pv)
        have Ff_42 := Ff_31.other W38 (Or.inl ne_t_pv)
        have Ff_43 := Ff_32.other W38 (Or.inl ne_t_pv)
        have Ff_44 := Ff_33.other W38 (Or.inl ne_t_pv)
        have Af_45 := Af_34.other W38 (Ne.symm ne_pv_lb)
        have Cf_47 := Cf_36.other W38 ne_nx_pv
        have O38 := O27.wr W38 g_pv
        have zl38 := Nat.le_trans zl27 (Nat.le_of_eq W38.size.symm)
        have K38 := K27.wr W38 (Or.inl (List.mem_of_getElem? (i := 2) rfl))
        refine Own.aloadN 133 X38 hx (hb hby d6_132) rfl rfl rfl ?_
        refine Own.iloadN 134 X38 hx (hb hby d6_133) rfl rfl ?_
        obtain ⟨LK, LF⟩ := own_link (p := 0) (x := o aa) (f1 := (Own.N (o aa))) (fN1 := (Own.upd gN (o aa) (Own.N (own_rmO o aa 0)))) (fP1 := (Own.upd (Own.upd gP (o aa) (-1 : Int32)) (own_rmO o aa 0) (Own.N (o aa)))) RO Rx UL (by omega) (fun i => by rw [if_neg (fun z => z.1 rfl), own_e_lt c9]; rfl) (fun i => by
            by_cases d9 : i = own_rmO o aa 0
            · rw [if_pos ⟨c9, d9⟩, Own.upd_hit d9]
            · rw [if_neg (fun z => d9 z.2), Own.upd_miss d9, own_p_0 rfl]; rfl) Uf (if_pos rfl).symm
        have OR2 := own_in_Or (q0 := 0) (i := o aa) RO (by omega) ox Rx
        rw [show n - 1 + 1 = n from by omega] at LK LF OR2
        refine Own.callPr 137 0 t [(.int (Own.N (o aa)))] [] X38 hx hZ hown (by have z9 := m7 l Z a0 w t nx pv lb room kr n n0 _ (own_inO (own_rmO o aa) 0 (o aa)) _ _ 0 _ zl38 O38 SR VR D00 ⟨Ef_40, Ff_41, Ff_42, Ff_43, Ff_44, Cf_47, C38, Af_45⟩ LK OR2 bn (by omega); rw [own_in_eq rfl] at z9; exact z9) Ef_40 (w 39 rfl) (w 41 rfl) (w 2 rfl) (w 40 rfl) (w 3 rfl) (w 42 rfl) (by decide) e38 (by decide) (by decide) (by decide) (by decide) (by rw [hml]; rfl) (lenOf pd_2 rfl) rfl (Nat.le_of_eq rfl) (hb hby d6_134) rfl ?_
        rintro vv T48 L48 X48 ⟨rfl, N48q, K48, Al48⟩
        have N48 := Fr.app N38 N48q
        have O48 := O38.keep K48 (allS g_lb all0)
        have Ef_50 := Ef_40.keep K48
        have Ff_51 := Ff_41.keep K48 (ninS ne_t_lb nin0)
        have Ff_52 := Ff_42.keep K48 (ninS ne_t_lb nin0)
        have Ff_53 := Ff_43.keep K48 (ninS ne_t_lb nin0)
        have Ff_54 := Ff_44.keep K48 (ninS ne_t_lb nin0)
        have Cf_56 := Cf_47.keep K48 (ninS ne_nx_lb nin0)
        have Cf_57 := C38.keep K48 (ninS ne_pv_lb nin0)
        have zl48 := Nat.le_trans zl38 K48.1
        have KK48 := K38.trans K48 (allS (Or.inl (List.mem_of_getElem? (i := 3) rfl)) all0)
        refine Own.retVoid X48 hx hlk hret (hb hby d6_137) (by decide) (by decide) ?_
        exact ⟨rfl, N48, KK48, _, _, by rw [← LF]; exact ⟨Ef_50, Ff_51, Ff_52, Ff_53, Ff_54, Cf_56, Cf_57, Al48⟩, LK, OR2⟩
      ·
        have f1e : f1 = (-1 : Int32) := Uf.trans (own_e_ge c9)
        subst f1e
        refine Own.iloadN 68 Xq hx (hb hby d6_67) rfl rfl ?_
        refine Own.iconst 69 Xq hx ((-1 : Int32)) (hb hby d6_68) rfl rfl ?_
        refine Own.icmp_ne 79 72 Xq hx (hb hby d6_69) (by decide) rfl (fun tk => absurd rfl tk) (fun tk => ?_)
        refine Own.aloadN 73 Xq hx (hb hby d6_72) rfl rfl rfl ?_
        refine Own.getFld 76 Xq hx hZ hown (host := "") (Or.inl (w 17 rfl)) Via.refl eqq Ffi_3 (hb hby d6_73) rfl ?_
        intro T58 X58 e58
        refine Own.goto 85 X58 hx (hb hby d6_76) (by decide) ?_
        refine Own.istoreNV 86 #[.val (.ref t), .val (.int (Own.N (o aa))), .val (.int (-1 : Int32)), .val (.int (-1 : Int32))] X58 hx (hb hby d6_85) rfl rfl ?_
        refine Own.aloadN 87 X58 hx (hb hby d6_86) rfl rfl rfl ?_
        refine Own.getFld 90 X58 hx hZ hown (host := "") (Or.inl (w 12 rfl)) Via.refl e58 Fpr_3 (hb hby d6_87) rfl ?_
        intro T59 X59 e59
        refine Own.iloadN 91 X59 hx (hb hby d6_90) rfl rfl ?_
        refine Own.iloadN 92 X59 hx (hb hby d6_91) rfl rfl ?_
        refine Own.nStore 93 X59 hx hZ e59 Cpv_3 (by omega) (hb hby d6_92) rfl ?_
        intro T60 h60 X60 e60 W60 C60
        have N60 := Fr.snoc X60 Nq g_pv
        have Ef_62 := E_3.wr W60
        have Ff_63 := Fne_3.other W60 (Or.inl ne_t_pv)
        have Ff_64 := Fpr_3.other W60 (Or.inl ne_t_pv)
        have Ff_65 := Fla_3.other W60 (Or.inl ne_t_pv)
        have Ff_66 := Ffi_3.other W60 (Or.inl ne_t_pv)
        have Af_67 := Alb_3.other W60 (Ne.symm ne_pv_lb)
        have Cf_68 := Cnx_3.other W60 ne_nx_pv
        have O60 := Oq.wr W60 g_pv
        have zl60 := Nat.le_trans zlq (Nat.le_of_eq W60.size.symm)
        have K60 := Kq.wr W60 (Or.inl (List.mem_of_getElem? (i := 2) rfl))
        refine Own.aloadN 94 X60 hx (hb hby d6_93) rfl rfl rfl ?_
        refine Own.getFld 97 X60 hx hZ hown (host := "") (Or.inl (w 10 rfl)) Via.refl e60 Ff_63 (hb hby d6_94) rfl ?_
        intro T70 X70 e70
        refine Own.iloadN 98 X70 hx (hb hby d6_97) rfl rfl ?_
        refine Own.iloadN 99 X70 hx (hb hby d6_98) rfl rfl ?_
        refine Own.nStore 100 X70 hx hZ e70 Cf_68 (by omega) (hb hby d6_99) rfl ?_
        intro T71 h71 X71 e71 W71 C71
        have N71 := Fr.snoc X71 N60 g_nx
        have Ef_73 := Ef_62.wr W71
        have Ff_74 := Ff_63.other W71 (Or.inl ne_t_nx)
        have Ff_75 := Ff_64.other W71 (Or.inl ne_t_nx)
        have Ff_76 := Ff_65.other W71 (Or.inl ne_t_nx)
        have Ff_77 := Ff_66.other W71 (Or.inl ne_t_nx)
        have Af_78 := Af_67.other W71 (Ne.symm ne_nx_lb)
        have Cf_80 := C60.other W71 (Ne.symm ne_nx_pv)
        have O71 := O60.wr W71 g_nx
        have zl71 := Nat.le_trans zl60 (Nat.le_of_eq W71.size.symm)
        have K71 := K60.wr W71 (Or.inl (List.mem_of_getElem? (i := 1) rfl))
        refine Own.iloadN 101 X71 hx (hb hby d6_100) rfl rfl ?_
        refine Own.iconst 102 X71 hx ((-1 : Int32)) (hb hby d6_101) rfl rfl ?_
        refine Own.icmp_ne 113 105 X71 hx (hb hby d6_102) (by decide) rfl (fun tk => absurd rfl tk) (fun tk => ?_)
        refine Own.aloadN 106 X71 hx (hb hby d6_105) rfl rfl rfl ?_
        refine Own.iloadN 107 X71 hx (hb hby d6_106) rfl rfl ?_
        refine Own.putFld 110 X71 hx hZ hown (host := "") (Or.inl (w 17 rfl)) Via.refl e71 Ff_77 Ef_73 (Or.inl (w 18 rfl)) (w 2 rfl) (ty := .int) (by decide) rfl rfl (hb hby d6_107) rfl ?_
        intro T81 h81 X81 e81 W81
        have N81 := Fr.snoc X81 N71 g_t
        have Ef_83 := Ef_73.wr W81
        have Ff_84 := Ff_74.other W81 (Or.inr (slot_ne (Or.inr (w 11 rfl)) (Or.inl (w 18 rfl)) (by decide) (t := (.array .int)) (t' := .int) (by decide) (by decide)))
        have Ff_85 := Ff_75.other W81 (Or.inr (slot_ne (Or.inr (w 13 rfl)) (Or.inl (w 18 rfl)) (by decide) (t := (.array .int)) (t' := .int) (by decide) (by decide)))
        have Ff_86 := Ff_76.other W81 (Or.inr (slot_ne (Or.inr (w 16 rfl)) (Or.inl (w 18 rfl)) (by decide) (t := (.array .long)) (t' := .int) (by decide) (by decide)))
        have Ff_87 := Ff_77.same W81
        have Af_88 := Af_78.other W81 (Ne.symm ne_t_lb)
        have Cf_89 := Cf_80.other W81 (Ne.symm ne_t_pv)
        have Cf_90 := C71.other W81 (Ne.symm ne_t_nx)
        have O81 := O71.wr W81 g_t
        have zl81 := Nat.le_trans zl71 (Nat.le_of_eq W81.size.symm)
        have K81 := K71.wr W81 (Or.inl (List.mem_of_getElem? (i := 0) rfl))
        refine Own.goto 120 X81 hx (hb hby d6_110) (by decide) ?_
        refine Own.iloadN 121 X81 hx (hb hby d6_120) rfl rfl ?_
        refine Own.iconst 122 X81 hx ((-1 : Int32)) (hb hby d6_121) rfl rfl ?_
        refine Own.icmp_eq 132 125 X81 hx (hb hby d6_122) (by decide) rfl (fun tk => ?_) (fun tk => absurd rfl tk)
        refine Own.aloadN 133 X81 hx (hb hby d6_132) rfl rfl rfl ?_
        refine Own.iloadN 134 X81 hx (hb hby d6_133) rfl rfl ?_
        obtain ⟨LK, LF⟩ := own_link (p := 0) (x := o aa) (f1 := (Own.N (o aa))) (fN1 := (Own.upd gN (o aa) (-1 : Int32))) (fP1 := (Own.upd gP (o aa) (-1 : Int32))) RO Rx UL (by omega) (fun i => by rw [if_neg (fun z => z.1 rfl), own_e_ge c9]; rfl) (fun i => by rw [if_neg (fun z => c9 z.1), own_p_0 rfl]; rfl) Uf (if_pos rfl).symm
        have OR2 := own_in_Or (q0 := 0) (i := o aa) RO (by omega) ox Rx
        rw [show n - 1 + 1 = n from by omega] at LK LF OR2
        refine Own.callPr 137 0 t [(.int (Own.N (o aa)))] [] X81 hx hZ hown (by have z9 := m7 l Z a0 w t nx pv lb room kr n n0 _ (own_inO (own_rmO o aa) 0 (o aa)) _ _ 0 _ zl81 O81 SR VR D00 ⟨Ef_83, Ff_84, Ff_85, Ff_86, Ff_87, Cf_90, Cf_89, Af_88⟩ LK OR2 bn (by omega); rw [own_in_eq rfl] at z9; exact z9) Ef_83 (w 39 rfl) (w 41 rfl) (w 2 rfl) (w 40 rfl) (w 3 rfl) (w 42 rfl) (by decide) e81 (by decide) (by decide) (by decide) (by decide) (by rw [hml]; rfl) (lenOf pd_2 rfl) rfl (Nat.le_of_eq rfl) (hb hby d6_134) rfl ?_
        rintro vv T91 L91 X91 ⟨rfl, N91q, K91, Al91⟩
        have N91 := Fr.app N81 N91q
        have O91 := O81.keep K91 (allS g_lb all0)
        have Ef_93 := Ef_83.keep K91
        have Ff_94 := Ff_84.keep K91 (ninS ne_t_lb nin0)
        have Ff_95 := Ff_85.keep K91 (ninS ne_t_lb nin0)
        have Ff_96 := Ff_86.keep K91 (ninS ne_t_lb nin0)
        have Ff_97 := Ff_87.keep K91 (ninS ne_t_lb nin0)
        have Cf_99 := Cf_89.keep K91 (ninS ne_pv_lb nin0)
        have Cf_100 := Cf_90.keep K91 (ninS ne_nx_lb nin0)
        have zl91 := Nat.le_trans zl81 K91.1
        have KK91 := K81.trans K91 (allS (Or.inl (List.mem_of_getElem? (i := 3) rfl)) all0)
        refine Own.retVoid X91 hx hlk hret (hb hby d6_137) (by decide) (by decide) ?_
        exact ⟨rfl, N91, KK91, _, _, by rw [← LF]; exact ⟨Ef_93, Ff_94, Ff_95, Ff_96, Ff_97, Cf_100, Cf_99, Al91⟩, LK, OR2⟩
    by_cases c7 : aa + 1 < n
    ·
      have ob1 := obs (aa + 1) c7
      refine Own.aloadN 41 Xq hx (hb hby d6_40) rfl rfl rfl ?_
      refine Own.getFld 44 Xq hx hZ hown (host := "") (Or.inl (w 10 rfl)) Via.refl eqq Fne_2 (hb hby d6_41) rfl ?_
      intro T101 X101 e101
      refine Own.iloadN 45 X101 hx (hb hby d6_44) rfl rfl ?_
      refine Own.nLoad 46 (Own.N (o (aa + 1))) X101 hx hZ e101 Cnx_2 (by omega) (gx.trans (own_e_lt c7)) (hb hby d6_45) rfl ?_
      refine Own.iconst 47 X101 hx ((-1 : Int32)) (hb hby d6_46) rfl rfl ?_
      refine Own.icmp_eq 67 50 X101 hx (hb hby d6_47) (by decide) rfl (fun tk => absurd tk (Own.N_ne1 (by omega))) (fun tk => ?_)
      refine Own.aloadN 51 X101 hx (hb hby d6_50) rfl rfl rfl ?_
      refine Own.getFld 54 X101 hx hZ hown (host := "") (Or.inl (w 12 rfl)) Via.refl e101 Fpr_2 (hb hby d6_51) rfl ?_
      intro T102 X102 e102
      refine Own.aloadN 55 X102 hx (hb hby d6_54) rfl rfl rfl ?_
      refine Own.getFld 58 X102 hx hZ hown (host := "") (Or.inl (w 10 rfl)) Via.refl e102 Fne_2 (hb hby d6_55) rfl ?_
      intro T103 X103 e103
      refine Own.iloadN 59 X103 hx (hb hby d6_58) rfl rfl ?_
      refine Own.nLoad 60 (Own.N (o (aa + 1))) X103 hx hZ e103 Cnx_2 (by omega) (gx.trans (own_e_lt c7)) (hb hby d6_59) rfl ?_
      refine Own.aloadN 61 X103 hx (hb hby d6_60) rfl rfl rfl ?_
      refine Own.getFld 64 X103 hx hZ hown (host := "") (Or.inl (w 12 rfl)) Via.refl e103 Fpr_2 (hb hby d6_61) rfl ?_
      intro T104 X104 e104
      refine Own.iloadN 65 X104 hx (hb hby d6_64) rfl rfl ?_
      refine Own.nLoad 66 ((own_p o aa)) X104 hx hZ e104 Cpv_2 (by omega) Hx.2 (hb hby d6_65) rfl ?_
      refine Own.nStore 67 X104 hx hZ e104 Cpv_2 (by omega) (hb hby d6_66) rfl ?_
      intro T105 h105 X105 e105 W105 C105
      have N105 := Fr.snoc X105 Nq g_pv
      have Ef_107 := E_2.wr W105
      have Ff_108 := Fne_2.other W105 (Or.inl ne_t_pv)
      have Ff_109 := Fpr_2.other W105 (Or.inl ne_t_pv)
      have Ff_110 := Fla_2.other W105 (Or.inl ne_t_pv)
      have Ff_111 := Ffi_2.other W105 (Or.inl ne_t_pv)
      have Af_112 := Alb_2.other W105 (Ne.symm ne_pv_lb)
      have Cf_113 := Cnx_2.other W105 ne_nx_pv
      have O105 := Oq.wr W105 g_pv
      have zl105 := Nat.le_trans zlq (Nat.le_of_eq W105.size.symm)
      have K105 := Kq.wr W105 (Or.inl (List.mem_of_getElem? (i := 2) rfl))
      exact J67 _ _ _ _ X105 e105 N105 K105 O105 ⟨Ef_107, Ff_108, Ff_109, Ff_110, Ff_111, Cf_113, C105, Af_112⟩ (fun i => by
          by_cases d9 : i = o (aa + 1)
          · rw [if_pos ⟨c7, d9⟩, Own.upd_hit d9]
          · rw [if_neg (fun z => d9 z.2), Own.upd_miss d9])
    ·
      refine Own.aloadN 41 Xq hx (hb hby d6_40) rfl rfl rfl ?_
      refine Own.getFld 44 Xq hx hZ hown (host := "") (Or.inl (w 10 rfl)) Via.refl eqq Fne_2 (hb hby d6_41) rfl ?_
      intro T115 X115 e115
      refine Own.iloadN 45 X115 hx (hb hby d6_44) rfl rfl ?_
      refine Own.nLoad 46 ((-1 : Int32)) X115 hx hZ e115 Cnx_2 (by omega) (gx.trans (own_e_ge c7)) (hb hby d6_45) rfl ?_
      refine Own.iconst 47 X115 hx ((-1 : Int32)) (hb hby d6_46) rfl rfl ?_
      refine Own.icmp_eq 67 50 X115 hx (hb hby d6_47) (by decide) rfl (fun tk => ?_) (fun tk => absurd rfl tk)
      exact J67 _ _ _ _ X115 e115 Nq Kq Oq ⟨E_2, Fne_2, Fpr_2, Fla_2, Ffi_2, Cnx_2, Cpv_2, Alb_2⟩ (fun i => (if_neg (fun z => c7 z.1)).symm)
  by_cases c8 : aa = 0
  ·
    refine Own.aloadN 1 X0 hx (hb hby d6_0) rfl rfl rfl ?_
    refine Own.getFld 4 X0 hx hZ hown (host := "") (Or.inl (w 12 rfl)) Via.refl e0 Fpr_1 (hb hby d6_1) rfl ?_
    intro T116 X116 e116
    refine Own.iloadN 5 X116 hx (hb hby d6_4) rfl rfl ?_
    refine Own.nLoad 6 ((-1 : Int32)) X116 hx hZ e116 Cpv_1 (by omega) (Hx.2.trans (own_p_0 c8)) (hb hby d6_5) rfl ?_
    refine Own.iconst 7 X116 hx ((-1 : Int32)) (hb hby d6_6) rfl rfl ?_
    refine Own.icmp_ne 23 10 X116 hx (hb hby d6_7) (by decide) rfl (fun tk => absurd rfl tk) (fun tk => ?_)
    refine Own.aloadN 11 X116 hx (hb hby d6_10) rfl rfl rfl ?_
    refine Own.aloadN 12 X116 hx (hb hby d6_11) rfl rfl rfl ?_
    refine Own.getFld 15 X116 hx hZ hown (host := "") (Or.inl (w 10 rfl)) Via.refl e116 Fne_1 (hb hby d6_12) rfl ?_
    intro T117 X117 e117
    refine Own.iloadN 16 X117 hx (hb hby d6_15) rfl rfl ?_
    refine Own.nLoad 17 ((own_e n o (aa + 1))) X117 hx hZ e117 Cnx_1 (by omega) Hx.1 (hb hby d6_16) rfl ?_
    refine Own.putFld 20 X117 hx hZ hown (host := "") (Or.inl (w 17 rfl)) Via.refl e117 Ffi_1 E_1 (Or.inl (w 18 rfl)) (w 2 rfl) (ty := .int) (by decide) rfl rfl (hb hby d6_17) rfl ?_
    intro T118 h118 X118 e118 W118
    have N118 := Fr.snoc X118 N0 g_t
    have Ef_120 := E_1.wr W118
    have Ff_121 := Fne_1.other W118 (Or.inr (slot_ne (Or.inr (w 11 rfl)) (Or.inl (w 18 rfl)) (by decide) (t := (.array .int)) (t' := .int) (by decide) (by decide)))
    have Ff_122 := Fpr_1.other W118 (Or.inr (slot_ne (Or.inr (w 13 rfl)) (Or.inl (w 18 rfl)) (by decide) (t := (.array .int)) (t' := .int) (by decide) (by decide)))
    have Ff_123 := Fla_1.other W118 (Or.inr (slot_ne (Or.inr (w 16 rfl)) (Or.inl (w 18 rfl)) (by decide) (t := (.array .long)) (t' := .int) (by decide) (by decide)))
    have Ff_124 := Ffi_1.same W118
    have Af_125 := Alb_1.other W118 (Ne.symm ne_t_lb)
    have Cf_126 := Cnx_1.other W118 (Ne.symm ne_t_nx)
    have Cf_127 := Cpv_1.other W118 (Ne.symm ne_t_pv)
    have O118 := X00.wr W118 g_t
    have zl118 := Nat.le_trans Z0 (Nat.le_of_eq W118.size.symm)
    have K118 := (Keep.refl h0 [t, nx, pv, lb]).wr W118 (Or.inl (List.mem_of_getElem? (i := 0) rfl))
    refine Own.goto 40 X118 hx (hb hby d6_20) (by decide) ?_
    exact J40 _ _ _ _ _ X118 e118 N118 K118 O118 ⟨Ef_120, Ff_121, Ff_122, Ff_123, Ff_124, Cf_126, Cf_127, Af_125⟩ (fun i => (if_neg (fun z => z.1 c8)).symm) (by rw [if_pos c8, c8])
  ·
    have ob1 := obs (aa - 1) (by omega)
    refine Own.aloadN 1 X0 hx (hb hby d6_0) rfl rfl rfl ?_
    refine Own.getFld 4 X0 hx hZ hown (host := "") (Or.inl (w 12 rfl)) Via.refl e0 Fpr_1 (hb hby d6_1) rfl ?_
    intro T128 X128 e128
    refine Own.iloadN 5 X128 hx (hb hby d6_4) rfl rfl ?_
    refine Own.nLoad 6 (Own.N (o (aa - 1))) X128 hx hZ e128 Cpv_1 (by omega) (Hx.2.trans (own_p_s c8)) (hb hby d6_5) rfl ?_
    refine Own.iconst 7 X128 hx ((-1 : Int32)) (hb hby d6_6) rfl rfl ?_
    refine Own.icmp_ne 23 10 X128 hx (hb hby d6_7) (by decide) rfl (fun tk => ?_) (fun tk => absurd tk (Own.N_ne1 (by omega)))
    refine Own.aloadN 24 X128 hx (hb hby d6_23) rfl rfl rfl ?_
    refine Own.getFld 27 X128 hx hZ hown (host := "") (Or.inl (w 10 rfl)) Via.refl e128 Fne_1 (hb hby d6_24) rfl ?_
    intro T129 X129 e129
    refine Own.aloadN 28 X129 hx (hb hby d6_27) rfl rfl rfl ?_
    refine Own.getFld 31 X129 hx hZ hown (host := "") (Or.inl (w 12 rfl)) Via.refl e129 Fpr_1 (hb hby d6_28) rfl ?_
    intro T130 X130 e130
    refine Own.iloadN 32 X130 hx (hb hby d6_31) rfl rfl ?_
    refine Own.nLoad 33 (Own.N (o (aa - 1))) X130 hx hZ e130 Cpv_1 (by omega) (Hx.2.trans (own_p_s c8)) (hb hby d6_32) rfl ?_
    refine Own.aloadN 34 X130 hx (hb hby d6_33) rfl rfl rfl ?_
    refine Own.getFld 37 X130 hx hZ hown (host := "") (Or.inl (w 10 rfl)) Via.refl e130 Fne_1 (hb hby d6_34) rfl ?_
    intro T131 X131 e131
    refine Own.iloadN 38 X131 hx (hb hby d6_37) rfl rfl ?_
    refine Own.nLoad 39 ((own_e n o (aa + 1))) X131 hx hZ e131 Cnx_1 (by omega) Hx.1 (hb hby d6_38) rfl ?_
    refine Own.nStore 40 X131 hx hZ e131 Cnx_1 (by omega) (hb hby d6_39) rfl ?_
    intro T132 h132 X132 e132 W132 C132
    have N132 := Fr.snoc X132 N0 g_nx
    have Ef_134 := E_1.wr W132
    have Ff_135 := Fne_1.other W132 (Or.inl ne_t_nx)
    have Ff_136 := Fpr_1.other W132 (Or.inl ne_t_nx)
    have Ff_137 := Fla_1.other W132 (Or.inl ne_t_nx)
    have Ff_138 := Ffi_1.other W132 (Or.inl ne_t_nx)
    have Af_139 := Alb_1.other W132 (Ne.symm ne_nx_lb)
    have Cf_141 := Cpv_1.other W132 (Ne.symm ne_nx_pv)
    have O132 := X00.wr W132 g_nx
    have zl132 := Nat.le_trans Z0 (Nat.le_of_eq W132.size.symm)
    have K132 := (Keep.refl h0 [t, nx, pv, lb]).wr W132 (Or.inl (List.mem_of_getElem? (i := 1) rfl))
    exact J40 _ _ _ _ _ X132 e132 N132 K132 O132 ⟨Ef_134, Ff_135, Ff_136, Ff_137, Ff_138, C132, Cf_141, Af_139⟩ (fun i => by
        by_cases d9 : i = o (aa - 1)
        · rw [if_pos ⟨c8, d9⟩, Own.upd_hit d9]
        · rw [if_neg (fun z => d9 z.2), Own.upd_miss d9]) (if_neg c8).symm
theorem d6_79 : decode prog_14_method_7_code 79 = .ok (.aload_n 0, 1) := by decide +kernel
theorem d6_80 : decode prog_14_method_7_code 80 = .ok (.getfield 7, 3) := by decide +kernel
theorem d6_83 : decode prog_14_method_7_code 83 = .ok (.iload_n 2, 1) := by decide +kernel
theorem d6_84 : decode prog_14_method_7_code 84 = .ok (.iaload, 1) := by decide +kernel
theorem d6_113 : decode prog_14_method_7_code 113 = .ok (.aload_n 0, 1) := by decide +kernel
theorem d6_114 : decode prog_14_method_7_code 114 = .ok (.getfield 7, 3) := by decide +kernel
theorem d6_117 : decode prog_14_method_7_code 117 = .ok (.iload_n 2, 1) := by decide +kernel
theorem d6_118 : decode prog_14_method_7_code 118 = .ok (.iload_n 1, 1) := by decide +kernel
theorem d6_119 : decode prog_14_method_7_code 119 = .ok (.iastore, 1) := by decide +kernel
set_option maxRecDepth 65536 in
set_option maxHeartbeats 40000000 in
theorem m6_1 (l : Launch) (Z : State) (a0 : Array Value) (w : ∀ (i : Nat) {d : Jvm.Cond}, tables_1[i]? = some d → d.before a0 Z = true) (t : Addr) (nx pv lb room : Addr) (kr : ClassId) (n n0 : Nat) (o : Nat → Nat) (fN fP : Nat → Int32) (aa pp : Nat) (h0 : Heap) (Z0 : n0 ≤ h0.size) (X00 : Old Z n0 h0) (SR : Sta Z Z.heap "com/example/leveler/leveler/crossing/OrderedList" "ROOM" "[J" (.ref room)) (VR : own_room Z room kr) (D0 : own_D n0 t nx pv lb) (S0 : own_L Z h0 t nx pv lb n (own_e n o 0) fN fP) (H : own_LL n o fN fP) (O : own_Or n n o) (bn : n ≤ 4) (ha : aa < n) (hp : 1 ≤ pp ∧ pp ≤ n - 1) :
    Own.Met l Z (⟨"com/example/leveler/leveler/crossing/OrderedList", "moveBehind", "(II)V"⟩ : MethodName) prog_14_method_7_code 4 none [] ({ frames := 2, cells := 0, slots := 0, locals := 48 } : Room) #[(.ref t), (.int (Own.N (o aa))), (.int (Own.N (own_rmO o aa (pp - 1))))] h0 (fun v h L => v = none ∧ Fr n0 L ∧ Keep h0 h [t, nx, pv, lb] ∧ ∃ fN' fP', own_L Z h t nx pv lb n (own_e n (own_inO (own_rmO o aa) pp (o aa)) 0) fN' fP' ∧ own_LL n (own_inO (own_rmO o aa) pp (o aa)) fN' fP' ∧ own_Or n n (own_inO (own_rmO o aa) pp (o aa))) := by
  refine Own.Met.of (plainFor_of_name (by first | (simp [plainName, overriddenIn]; done) | decide +kernel)) ?_
  intro p e s m below meth c T0 hx hby hml hown hnm hret hlk hZ X0 e0
  have hown : s.vm.findClass "com/example/leveler/leveler/crossing/OrderedList" = some m.cls := hown
  have hml : c.maxLocals = 4 := hml
  have hnm : meth.name = "moveBehind" := hnm
  have ef : entryFrame m #[(.ref t), (.int (Own.N (o aa))), (.int (Own.N (own_rmO o aa (pp - 1))))] 4 = mkF m 0 #[.val (.ref t), .val (.int (Own.N (o aa))), .val (.int (Own.N (own_rmO o aa (pp - 1)))), .unset] [] := by first | (simp [entryFrame, mkF, argsToLocals, Value.category]; done) | rfl
  rw [ef]
  have N0 := Fr.nil n0
  have D00 := D0
  obtain ⟨ne_t_nx, ne_t_pv, ne_t_lb, ne_nx_pv, ne_nx_lb, ne_pv_lb, g_t, g_nx, g_pv, g_lb⟩ := D0
  obtain ⟨E_1, Fne_1, Fpr_1, Fla_1, Ffi_1, Cnx_1, Cpv_1, Alb_1⟩ := S0
  have obs := fun k hk => (O k hk).1
  have ox := obs aa ha
  have Hx := H aa ha
  have J40 : ∀ (f1 : Int32) (gN : Nat → Int32) (Tq : State) (Lq : List Loc) (hq : Heap) (Xq : Stand p l e ({ frames := 2, cells := 0, slots := 0, locals := 48 } : Room) s m #[(.ref t), (.int (Own.N (o aa))), (.int (Own.N (own_rmO o aa (pp - 1))))] below meth c Tq Lq 0 0) (eqq : Tq.heap = hq) (Nq : Fr n0 Lq) (Kq : Keep h0 hq [t, nx, pv, lb]) (Oq : Old Z n0 hq) (Sq : own_L Z hq t nx pv lb n f1 gN fP) (hN : ∀ i, gN i = if aa ≠ 0 ∧ i = o (aa - 1) then own_e n o (aa + 1) else fN i) (hf : f1 = if aa = 0 then own_e n o 1 else own_e n o 0), Own.Ends p.tables e below (fun v h L => v = none ∧ Fr n0 L ∧ Keep h0 h [t, nx, pv, lb] ∧ ∃ fN' fP', own_L Z h t nx pv lb n (own_e n (own_inO (own_rmO o aa) pp (o aa)) 0) fN' fP' ∧ own_LL n (own_inO (own_rmO o aa) pp (o aa)) fN' fP' ∧ own_Or n n (own_inO (own_rmO o aa) pp (o aa))) (Own.FE s ({ frames := 2, cells := 0, slots := 0, locals := 48 } : Room).cells ({ frames := 2, cells := 0, slots := 0, locals := 48 } : Room).slots) (Tq.setTop (mkF m 40 #[.val (.ref t), .val (.int (Own.N (o aa))), .val (.int (Own.N (own_rmO o aa (pp - 1)))), .unset] [])) := by
    intro f1 gN Tq Lq hq Xq eqq Nq Kq Oq Sq hN hf
    have zlq := Nat.le_trans Z0 Kq.1
    have gx : gN (o aa) = own_e n o (aa + 1) := by rw [hN, if_neg (fun z => by have z9 := (O aa ha).2 (aa - 1) (by omega) z.2; omega)]; exact Hx.1
    obtain ⟨E_2, Fne_2, Fpr_2, Fla_2, Ffi_2, Cnx_2, Cpv_2, Alb_2⟩ := Sq
    have J67 : ∀ (gP : Nat → Int32) (Tq : State) (Lq : List Loc) (hq : Heap) (Xq : Stand p l e ({ frames := 2, cells := 0, slots := 0, locals := 48 } : Room) s m #[(.ref t), (.int (Own.N (o aa))), (.int (Own.N (own_rmO o aa (pp - 1))))] below meth c Tq Lq 0 0) (eqq : Tq.heap = hq) (Nq : Fr n0 Lq) (Kq : Keep h0 hq [t, nx, pv, lb]) (Oq : Old Z n0 hq) (Sq : own_L Z hq t nx pv lb n f1 gN gP) (hP : ∀ i, gP i = if aa + 1 < n ∧ i = o (aa + 1) then own_p o aa else fP i), Own.Ends p.tables e below (fun v h L => v = none ∧ Fr n0 L ∧ Keep h0 h [t, nx, pv, lb] ∧ ∃ fN' fP', own_L Z h t nx pv lb n (own_e n (own_inO (own_rmO o aa) pp (o aa)) 0) fN' fP' ∧ own_LL n (own_inO (own_rmO o aa) pp (o aa)) fN' fP' ∧ own_Or n n (own_inO (own_rmO o aa) pp (o aa))) (Own.FE s ({ frames := 2, cells := 0, slots := 0, locals := 48 } : Room).cells ({ frames := 2, cells := 0, slots := 0, locals := 48 } : Room).slots) (Tq.setTop (mkF m 67 #[.val (.ref t), .val (.int (Own.N (o aa))), .val (.int (Own.N (own_rmO o aa (pp - 1)))), .unset] [])) := by
      intro gP Tq Lq hq Xq eqq Nq Kq Oq Sq hP
      have zlq := Nat.le_trans Z0 Kq.1
      obtain ⟨UL, Uf⟩ := own_unlink O H ha hN hP hf
      obtain ⟨RO, Rx⟩ := own_rm_Or O ha
      obtain ⟨E_3, Fne_3, Fpr_3, Fla_3, Ffi_3, Cnx_3, Cpv_3, Alb_3⟩ := Sq
      have ob1 := (RO (pp - 1) (by omega)).1
      by_cases c9 : pp < n - 1
      ·
        have ob2 := (RO pp c9).1
        refine Own.iloadN 68 Xq hx (hb hby d6_67) rfl rfl ?_
        refine Own.iconst 69 Xq hx ((-1 : Int32)) (hb hby d6_68) rfl rfl ?_
        refine Own.icmp_ne 79 72 Xq hx (hb hby d6_69) (by decide) rfl (fun tk => ?_) (fun tk => absurd tk (Own.N_ne1 (by omega)))
        refine Own.aloadN 80 Xq hx (hb hby d6_79) rfl rfl rfl ?_
        refine Own.getFld 83 Xq hx hZ hown (host := "") (Or.inl (w 10 rfl)) Via.refl eqq Fne_3 (hb hby d6_80) rfl ?_
        intro T4 X4 e4
        refine Own.iloadN 84 X4 hx (hb hby d6_83) rfl rfl ?_
        refine Own.nLoad 85 (Own.N (own_rmO o aa pp)) X4 hx hZ e4 Cnx_3 (by omega) ((UL (pp - 1) (by omega)).1.trans (by rw [show pp - 1 + 1 = pp from by omega]; exact own_e_lt c9)) (hb hby d6_84) rfl ?_
        refine Own.istoreNV 86 #[.val (.ref t), .val (.int (Own.N (o aa))), .val (.int (Own.N (own_rmO o aa (pp - 1)))), .val (.int (Own.N (own_rmO o aa pp)))] X4 hx (hb hby d6_85) rfl rfl ?_
        refine Own.aloadN 87 X4 hx (hb hby d6_86) rfl rfl rfl ?_
        refine Own.getFld 90 X4 hx hZ hown (host := "") (Or.inl (w 12 rfl)) Via.refl e4 Fpr_3 (hb hby d6_87) rfl ?_
        intro T5 X5 e5
        refine Own.iloadN 91 X5 hx (hb hby d6_90) rfl rfl ?_
        refine Own.iloadN 92 X5 hx (hb hby d6_91) rfl rfl ?_
        refine Own.nStore 93 X5 hx hZ e5 Cpv_3 (by omega) (hb hby d6_92) rfl ?_
        intro T6 h6 X6 e6 W6 C6
        have N6 := Fr.snoc X6 Nq g_pv
        have Ef_8 := E_3.wr W6
        have Ff_9 := Fne_3.other W6 (Or.inl ne_t_pv)
        have Ff_10 := Fpr_3.other W6 (Or.inl ne_t_pv)
        have Ff_11 := Fla_3.other W6 (Or.inl ne_t_pv)
        have Ff_12 := Ffi_3.other W6 (Or.inl ne_t_pv)
        have Af_13 := Alb_3.other W6 (Ne.symm ne_pv_lb)
        have Cf_14 := Cnx_3.other W6 ne_nx_pv
        have O6 := Oq.wr W6 g_pv
        have zl6 := Nat.le_trans zlq (Nat.le_of_eq W6.size.symm)
        have K6 := Kq.wr W6 (Or.inl (List.mem_of_getElem? (i := 2) rfl))
        refine Own.aloadN 94 X6 hx (hb hby d6_93) rfl rfl rfl ?_
        refine Own.getFld 97 X6 hx hZ hown (host := "") (Or.inl (w 10 rfl)) Via.refl e6 Ff_9 (hb hby d6_94) rfl ?_
        intro T16 X16 e16
        refine Own.iloadN 98 X16 hx (hb hby d6_97) rfl rfl ?_
        refine Own.iloadN 99 X16 hx (hb hby d6_98) rfl rfl ?_
        refine Own.nStore 100 X16 hx hZ e16 Cf_14 (by omega) (hb hby d6_99) rfl ?_
        intro T17 h17 X17 e17 W17 C17
        have N17 := Fr.snoc X17 N6 g_nx
        have Ef_19 := Ef_8.wr W17
        have Ff_20 := Ff_9.other W17 (Or.inl ne_t_nx)
        have Ff_21 := Ff_10.other W17 (Or.inl ne_t_nx)
        have Ff_22 := Ff_11.other W17 (Or.inl ne_t_nx)
        have Ff_23 := Ff_12.other W17 (Or.inl ne_t_nx)
        have Af_24 := Af_13.other W17 (Ne.symm ne_nx_lb)
        have Cf_26 := C6.other W17 (Ne.symm ne_nx_pv)
        have O17 := O6.wr W17 g_nx
        have zl17 := Nat.le_trans zl6 (Nat.le_of_eq W17.size.symm)
        have K17 := K6.wr W17 (Or.inl (List.mem_of_getElem? (i := 1) rfl))
        refine Own.iloadN 101 X17 hx (hb hby d6_100) rfl rfl ?_
        refine Own.iconst 102 X17 hx ((-1 : Int32)) (hb hby d6_101) rfl rfl ?_
        refine Own.icmp_ne 113 105 X17 hx (hb hby d6_102) (by decide) rfl (fun tk => ?_) (fun tk => absurd tk (Own.N_ne1 (by omega)))
        refine Own.aloadN 114 X17 hx (hb hby d6_113) rfl rfl rfl ?_
        refine Own.getFld 117 X17 hx hZ hown (host := "") (Or.inl (w 10 rfl)) Via.refl e17 Ff_20 (hb hby d6_114) rfl ?_
        intro T27 X27 e27
        refine Own.iloadN 118 X27 hx (hb hby d6_117) rfl rfl ?_
        refine Own.iloadN 119 X27 hx (hb hby d6_118) rfl rfl ?_
        refine Own.nStore 120 X27 hx hZ e27 C17 (by omega) (hb hby d6_119) rfl ?_
        intro T28 h28 X28 e28 W28 C28
        have N28 := Fr.snoc X28 N17 g_nx
        have Ef_30 := Ef_19.wr W28
        have Ff_31 := Ff_20.other W28 (Or.inl ne_t_nx)
        have Ff_32 := Ff_21.other W28 (Or.inl ne_t_nx)
        have Ff_33 := Ff_22.other W28 (Or.inl ne_t_nx)
        have Ff_34 := Ff_23.other W28 (Or.inl ne_t_nx)
        have Af_35 := Af_24.other W28 (Ne.symm ne_nx_lb)
        have Cf_36 := Cf_26.other W28 (Ne.symm ne_nx_pv)
        have O28 := O17.wr W28 g_nx
        have zl28 := Nat.le_trans zl17 (Nat.le_of_eq W28.size.symm)
        have K28 := K17.wr W28 (Or.inl (List.mem_of_getElem? (i := 1) rfl))
        refine Own.iloadN 121 X28 hx (hb hby d6_120) rfl rfl ?_
        refine Own.iconst 122 X28 hx ((-1 : Int32)) (hb hby d6_121) rfl rfl ?_
        refine Own.icmp_eq 132 125 X28 hx (hb hby d6_122) (by decide) rfl (fun tk => absurd tk (Own.N_ne1 (by omega))) (fun tk => ?_)
        refine Own.aloadN 126 X28 hx (hb hby d6_125) rfl rfl rfl ?_
        refine Own.getFld 129 X28 hx hZ hown (host := "") (Or.inl (w 12 rfl)) Via.refl e28 Ff_32 (hb hby d6_126) rfl ?_
        intro T38 X38 e38
        refine Own.iloadN 130 X38 hx (hb hby d6_129) rfl rfl ?_
        refine Own.iloadN 131 X38 hx (hb hby d6_130) rfl rfl ?_
        refine Own.nStore 132 X38 hx hZ e38 Cf_36 (by omega) (hb hby d6_131) rfl ?_
        intro T39 h39 X39 e39 W39 C39
        have N39 := Fr.snoc X39 N28 g_pv
        have Ef_41 := Ef_30.wr W39
        have Ff_42 := Ff_31.other W39 (Or.inl ne_t_pv)
        have Ff_43 := Ff_32.other W39 (Or.inl ne_t_pv)
        have Ff_44 := Ff_33.other W39 (Or.inl ne_t_pv)
        have Ff_45 := Ff_34.other W39 (Or.inl ne_t_pv)
        have Af_46 := Af_35.other W39 (Ne.symm ne_pv_lb)
        have Cf_48 := C28.other W39 ne_nx_pv
        have O39 := O28.wr W39 g_pv
        have zl39 := Nat.le_trans zl28 (Nat.le_of_eq W39.size.symm)
        have K39 := K28.wr W39 (Or.inl (List.mem_of_getElem? (i := 2) rfl))
        refine Own.aloadN 133 X39 hx (hb hby d6_132) rfl rfl rfl ?_
        refine Own.iloadN 134 X39 hx (hb hby d6_133) rfl rfl ?_
        obtain ⟨LK, LF⟩ := own_link (p := pp) (x := o aa) (f1 := f1) (fN1 := (Own.upd (Own.upd gN (o aa) (Own.N (own_rmO o aa pp))) (own_rmO o aa (pp - 1)) (Own.N (o aa)))) (fP1 := (Own.upd (Own.upd gP (o aa) (Own.N (own_rmO o aa (pp - 1)))) (own_rmO o aa pp) (Own.N (o aa)))) RO Rx UL (by omega) (fun i => by
            by_cases d9 : i = own_rmO o aa (pp - 1)
            · rw [if_pos ⟨by omega, d9⟩, Own.upd_hit d9]
            · rw [if_neg (fun z => d9 z.2), Own.upd_miss d9, own_e_lt c9]; rfl) (fun i => by
            by_cases d9 : i = own_rmO o aa pp
            · rw [if_pos ⟨c9, d9⟩, Own.upd_hit d9]
            · rw [if_neg (fun z => d9 z.2), Own.upd_miss d9, own_p_s (by omega)]; rfl) Uf (if_neg (by omega)).symm
        have OR2 := own_in_Or (q0 := pp) (i := o aa) RO (by omega) ox Rx
        rw [show n - 1 + 1 = n from by omega] at LK LF OR2
        refine Own.callPr 137 0 t [(.int (Own.N (o aa)))] [] X39 hx hZ hown (by have z9 := m7 l Z a0 w t nx pv lb room kr n n0 _ (own_inO (own_rmO o aa) pp (o aa)) _ _ pp _ zl39 O39 SR VR D00 ⟨Ef_41, Ff_42, Ff_43, Ff_44, Ff_45, Cf_48, C39, Af_46⟩ LK OR2 bn (by omega); rw [own_in_eq rfl] at z9; exact z9) Ef_41 (w 39 rfl) (w 41 rfl) (w 2 rfl) (w 40 rfl) (w 3 rfl) (w 42 rfl) (by decide) e39 (by decide) (by decide) (by decide) (by decide) (by rw [hml]; rfl) (lenOf pd_2 rfl) rfl (Nat.le_of_eq rfl) (hb hby d6_134) rfl ?_
        rintro vv T49 L49 X49 ⟨rfl, N49q, K49, Al49⟩
        have N49 := Fr.app N39 N49q
        have O49 := O39.keep K49 (allS g_lb all0)
        have Ef_51 := Ef_41.keep K49
        have Ff_52 := Ff_42.keep K49 (ninS ne_t_lb nin0)
        have Ff_53 := Ff_43.keep K49 (ninS ne_t_lb nin0)
        have Ff_54 := Ff_44.keep K49 (ninS ne_t_lb nin0)
        have Ff_55 := Ff_45.keep K49 (ninS ne_t_lb nin0)
        have Cf_57 := Cf_48.keep K49 (ninS ne_nx_lb nin0)
        have Cf_58 := C39.keep K49 (ninS ne_pv_lb nin0)
        have zl49 := Nat.le_trans zl39 K49.1
        have KK49 := K39.trans K49 (allS (Or.inl (List.mem_of_getElem? (i := 3) rfl)) all0)
        refine Own.retVoid X49 hx hlk hret (hb hby d6_137) (by decide) (by decide) ?_
        exact ⟨rfl, N49, KK49, _, _, by rw [← LF]; exact ⟨Ef_51, Ff_52, Ff_53, Ff_54, Ff_55, Cf_57, Cf_58, Al49⟩, LK, OR2⟩
      ·
        refine Own.iloadN 68 Xq hx (hb hby d6_67) rfl rfl ?_
        refine Own.iconst 69 Xq hx ((-1 : Int32)) (hb hby d6_68) rfl rfl ?_
        refine Own.icmp_ne 79 72 Xq hx (hb hby d6_69) (by decide) rfl (fun tk => ?_) (fun tk => absurd tk (Own.N_ne1 (by omega)))
        refine Own.aloadN 80 Xq hx (hb hby d6_79) rfl rfl rfl ?_
        refine Own.getFld 83 Xq hx hZ hown (host := "") (Or.inl (w 10 rfl)) Via.refl eqq Fne_3 (hb hby d6_80) rfl ?_
        intro T59 X59 e59
        refine Own.iloadN 84 X59 hx (hb hby d6_83) rfl rfl ?_
        refine Own.nLoad 85 ((-1 : Int32)) X59 hx hZ e59 Cnx_3 (by omega) ((UL (pp - 1) (by omega)).1.trans (by rw [show pp - 1 + 1 = pp from by omega]; exact own_e_ge c9)) (hb hby d6_84) rfl ?_
        refine Own.istoreNV 86 #[.val (.ref t), .val (.int (Own.N (o aa))), .val (.int (Own.N (own_rmO o aa (pp - 1)))), .val (.int (-1 : Int32))] X59 hx (hb hby d6_85) rfl rfl ?_
        refine Own.aloadN 87 X59 hx (hb hby d6_86) rfl rfl rfl ?_
        refine Own.getFld 90 X59 hx hZ hown (host := "") (Or.inl (w 12 rfl)) Via.refl e59 Fpr_3 (hb hby d6_87) rfl ?_
        intro T60 X60 e60
        refine Own.iloadN 91 X60 hx (hb hby d6_90) rfl rfl ?_
        refine Own.iloadN 92 X60 hx (hb hby d6_91) rfl rfl ?_
        refine Own.nStore 93 X60 hx hZ e60 Cpv_3 (by omega) (hb hby d6_92) rfl ?_
        intro T61 h61 X61 e61 W61 C61
        have N61 := Fr.snoc X61 Nq g_pv
        have Ef_63 := E_3.wr W61
        have Ff_64 := Fne_3.other W61 (Or.inl ne_t_pv)
        have Ff_65 := Fpr_3.other W61 (Or.inl ne_t_pv)
        have Ff_66 := Fla_3.other W61 (Or.inl ne_t_pv)
        have Ff_67 := Ffi_3.other W61 (Or.inl ne_t_pv)
        have Af_68 := Alb_3.other W61 (Ne.symm ne_pv_lb)
        have Cf_69 := Cnx_3.other W61 ne_nx_pv
        have O61 := Oq.wr W61 g_pv
        have zl61 := Nat.le_trans zlq (Nat.le_of_eq W61.size.symm)
        have K61 := Kq.wr W61 (Or.inl (List.mem_of_getElem? (i := 2) rfl))
        refine Own.aloadN 94 X61 hx (hb hby d6_93) rfl rfl rfl ?_
        refine Own.getFld 97 X61 hx hZ hown (host := "") (Or.inl (w 10 rfl)) Via.refl e61 Ff_64 (hb hby d6_94) rfl ?_
        intro T71 X71 e71
        refine Own.iloadN 98 X71 hx (hb hby d6_97) rfl rfl ?_
        refine Own.iloadN 99 X71 hx (hb hby d6_98) rfl rfl ?_
        refine Own.nStore 100 X71 hx hZ e71 Cf_69 (by omega) (hb hby d6_99) rfl ?_
        intro T72 h72 X72 e72 W72 C72
        have N72 := Fr.snoc X72 N61 g_nx
        have Ef_74 := Ef_63.wr W72
        have Ff_75 := Ff_64.other W72 (Or.inl ne_t_nx)
        have Ff_76 := Ff_65.other W72 (Or.inl ne_t_nx)
        have Ff_77 := Ff_66.other W72 (Or.inl ne_t_nx)
        have Ff_78 := Ff_67.other W72 (Or.inl ne_t_nx)
        have Af_79 := Af_68.other W72 (Ne.symm ne_nx_lb)
        have Cf_81 := C61.other W72 (Ne.symm ne_nx_pv)
        have O72 := O61.wr W72 g_nx
        have zl72 := Nat.le_trans zl61 (Nat.le_of_eq W72.size.symm)
        have K72 := K61.wr W72 (Or.inl (List.mem_of_getElem? (i := 1) rfl))
        refine Own.iloadN 101 X72 hx (hb hby d6_100) rfl rfl ?_
        refine Own.iconst 102 X72 hx ((-1 : Int32)) (hb hby d6_101) rfl rfl ?_
        refine Own.icmp_ne 113 105 X72 hx (hb hby d6_102) (by decide) rfl (fun tk => ?_) (fun tk => absurd tk (Own.N_ne1 (by omega)))
        refine Own.aloadN 114 X72 hx (hb hby d6_113) rfl rfl rfl ?_
        refine Own.getFld 117 X72 hx hZ hown (host := "") (Or.inl (w 10 rfl)) Via.refl e72 Ff_75 (hb hby d6_114) rfl ?_
        intro T82 X82 e82
        refine Own.iloadN 118 X82 hx (hb hby d6_117) rfl rfl ?_
        refine Own.iloadN 119 X82 hx (hb hby d6_118) rfl rfl ?_
        refine Own.nStore 120 X82 hx hZ e82 C72 (by omega) (hb hby d6_119) rfl ?_
        intro T83 h83 X83 e83 W83 C83
        have N83 := Fr.snoc X83 N72 g_nx
        have Ef_85 := Ef_74.wr W83
        have Ff_86 := Ff_75.other W83 (Or.inl ne_t_nx)
        have Ff_87 := Ff_76.other W83 (Or.inl ne_t_nx)
        have Ff_88 := Ff_77.other W83 (Or.inl ne_t_nx)
        have Ff_89 := Ff_78.other W83 (Or.inl ne_t_nx)
        have Af_90 := Af_79.other W83 (Ne.symm ne_nx_lb)
        have Cf_91 := Cf_81.other W83 (Ne.symm ne_nx_pv)
        have O83 := O72.wr W83 g_nx
        have zl83 := Nat.le_trans zl72 (Nat.le_of_eq W83.size.symm)
        have K83 := K72.wr W83 (Or.inl (List.mem_of_getElem? (i := 1) rfl))
        refine Own.iloadN 121 X83 hx (hb hby d6_120) rfl rfl ?_
        refine Own.iconst 122 X83 hx ((-1 : Int32)) (hb hby d6_121) rfl rfl ?_
        refine Own.icmp_eq 132 125 X83 hx (hb hby d6_122) (by decide) rfl (fun tk => ?_) (fun tk => absurd rfl tk)
        refine Own.aloadN 133 X83 hx (hb hby d6_132) rfl rfl rfl ?_
        refine Own.iloadN 134 X83 hx (hb hby d6_133) rfl rfl ?_
        obtain ⟨LK, LF⟩ := own_link (p := pp) (x := o aa) (f1 := f1) (fN1 := (Own.upd (Own.upd gN (o aa) (-1 : Int32)) (own_rmO o aa (pp - 1)) (Own.N (o aa)))) (fP1 := (Own.upd gP (o aa) (Own.N (own_rmO o aa (pp - 1))))) RO Rx UL (by omega) (fun i => by
            by_cases d9 : i = own_rmO o aa (pp - 1)
            · rw [if_pos ⟨by omega, d9⟩, Own.upd_hit d9]
            · rw [if_neg (fun z => d9 z.2), Own.upd_miss d9, own_e_ge c9]; rfl) (fun i => by rw [if_neg (fun z => c9 z.1), own_p_s (by omega)]; rfl) Uf (if_neg (by omega)).symm
        have OR2 := own_in_Or (q0 := pp) (i := o aa) RO (by omega) ox Rx
        rw [show n - 1 + 1 = n from by omega] at LK LF OR2
        refine Own.callPr 137 0 t [(.int (Own.N (o aa)))] [] X83 hx hZ hown (by have z9 := m7 l Z a0 w t nx pv lb room kr n n0 _ (own_inO (own_rmO o aa) pp (o aa)) _ _ pp _ zl83 O83 SR VR D00 ⟨Ef_85, Ff_86, Ff_87, Ff_88, Ff_89, C83, Cf_91, Af_90⟩ LK OR2 bn (by omega); rw [own_in_eq rfl] at z9; exact z9) Ef_85 (w 39 rfl) (w 41 rfl) (w 2 rfl) (w 40 rfl) (w 3 rfl) (w 42 rfl) (by decide) e83 (by decide) (by decide) (by decide) (by decide) (by rw [hml]; rfl) (lenOf pd_2 rfl) rfl (Nat.le_of_eq rfl) (hb hby d6_134) rfl ?_
        rintro vv T93 L93 X93 ⟨rfl, N93q, K93, Al93⟩
        have N93 := Fr.app N83 N93q
        have O93 := O83.keep K93 (allS g_lb all0)
        have Ef_95 := Ef_85.keep K93
        have Ff_96 := Ff_86.keep K93 (ninS ne_t_lb nin0)
        have Ff_97 := Ff_87.keep K93 (ninS ne_t_lb nin0)
        have Ff_98 := Ff_88.keep K93 (ninS ne_t_lb nin0)
        have Ff_99 := Ff_89.keep K93 (ninS ne_t_lb nin0)
        have Cf_101 := Cf_91.keep K93 (ninS ne_pv_lb nin0)
        have Cf_102 := C83.keep K93 (ninS ne_nx_lb nin0)
        have zl93 := Nat.le_trans zl83 K93.1
        have KK93 := K83.trans K93 (allS (Or.inl (List.mem_of_getElem? (i := 3) rfl)) all0)
        refine Own.retVoid X93 hx hlk hret (hb hby d6_137) (by decide) (by decide) ?_
        exact ⟨rfl, N93, KK93, _, _, by rw [← LF]; exact ⟨Ef_95, Ff_96, Ff_97, Ff_98, Ff_99, Cf_102, Cf_101, Al93⟩, LK, OR2⟩
    by_cases c7 : aa + 1 < n
    ·
      have ob1 := obs (aa + 1) c7
      refine Own.aloadN 41 Xq hx (hb hby d6_40) rfl rfl rfl ?_
      refine Own.getFld 44 Xq hx hZ hown (host := "") (Or.inl (w 10 rfl)) Via.refl eqq Fne_2 (hb hby d6_41) rfl ?_
      intro T103 X103 e103
      refine Own.iloadN 45 X103 hx (hb hby d6_44) rfl rfl ?_
      refine Own.nLoad 46 (Own.N (o (aa + 1))) X103 hx hZ e103 Cnx_2 (by omega) (gx.trans (own_e_lt c7)) (hb hby d6_45) rfl ?_
      refine Own.iconst 47 X103 hx ((-1 : Int32)) (hb hby d6_46) rfl rfl ?_
      refine Own.icmp_eq 67 50 X103 hx (hb hby d6_47) (by decide) rfl (fun tk => absurd tk (Own.N_ne1 (by omega))) (fun tk => ?_)
      refine Own.aloadN 51 X103 hx (hb hby d6_50) rfl rfl rfl ?_
      refine Own.getFld 54 X103 hx hZ hown (host := "") (Or.inl (w 12 rfl)) Via.refl e103 Fpr_2 (hb hby d6_51) rfl ?_
      intro T104 X104 e104
      refine Own.aloadN 55 X104 hx (hb hby d6_54) rfl rfl rfl ?_
      refine Own.getFld 58 X104 hx hZ hown (host := "") (Or.inl (w 10 rfl)) Via.refl e104 Fne_2 (hb hby d6_55) rfl ?_
      intro T105 X105 e105
      refine Own.iloadN 59 X105 hx (hb hby d6_58) rfl rfl ?_
      refine Own.nLoad 60 (Own.N (o (aa + 1))) X105 hx hZ e105 Cnx_2 (by omega) (gx.trans (own_e_lt c7)) (hb hby d6_59) rfl ?_
      refine Own.aloadN 61 X105 hx (hb hby d6_60) rfl rfl rfl ?_
      refine Own.getFld 64 X105 hx hZ hown (host := "") (Or.inl (w 12 rfl)) Via.refl e105 Fpr_2 (hb hby d6_61) rfl ?_
      intro T106 X106 e106
      refine Own.iloadN 65 X106 hx (hb hby d6_64) rfl rfl ?_
      refine Own.nLoad 66 ((own_p o aa)) X106 hx hZ e106 Cpv_2 (by omega) Hx.2 (hb hby d6_65) rfl ?_
      refine Own.nStore 67 X106 hx hZ e106 Cpv_2 (by omega) (hb hby d6_66) rfl ?_
      intro T107 h107 X107 e107 W107 C107
      have N107 := Fr.snoc X107 Nq g_pv
      have Ef_109 := E_2.wr W107
      have Ff_110 := Fne_2.other W107 (Or.inl ne_t_pv)
      have Ff_111 := Fpr_2.other W107 (Or.inl ne_t_pv)
      have Ff_112 := Fla_2.other W107 (Or.inl ne_t_pv)
      have Ff_113 := Ffi_2.other W107 (Or.inl ne_t_pv)
      have Af_114 := Alb_2.other W107 (Ne.symm ne_pv_lb)
      have Cf_115 := Cnx_2.other W107 ne_nx_pv
      have O107 := Oq.wr W107 g_pv
      have zl107 := Nat.le_trans zlq (Nat.le_of_eq W107.size.symm)
      have K107 := Kq.wr W107 (Or.inl (List.mem_of_getElem? (i := 2) rfl))
      exact J67 _ _ _ _ X107 e107 N107 K107 O107 ⟨Ef_109, Ff_110, Ff_111, Ff_112, Ff_113, Cf_115, C107, Af_114⟩ (fun i => by
          by_cases d9 : i = o (aa + 1)
          · rw [if_pos ⟨c7, d9⟩, Own.upd_hit d9]
          · rw [if_neg (fun z => d9 z.2), Own.upd_miss d9])
    ·
      refine Own.aloadN 41 Xq hx (hb hby d6_40) rfl rfl rfl ?_
      refine Own.getFld 44 Xq hx hZ hown (host := "") (Or.inl (w 10 rfl)) Via.refl eqq Fne_2 (hb hby d6_41) rfl ?_
      intro T117 X117 e117
      refine Own.iloadN 45 X117 hx (hb hby d6_44) rfl rfl ?_
      refine Own.nLoad 46 ((-1 : Int32)) X117 hx hZ e117 Cnx_2 (by omega) (gx.trans (own_e_ge c7)) (hb hby d6_45) rfl ?_
      refine Own.iconst 47 X117 hx ((-1 : Int32)) (hb hby d6_46) rfl rfl ?_
      refine Own.icmp_eq 67 50 X117 hx (hb hby d6_47) (by decide) rfl (fun tk => ?_) (fun tk => absurd rfl tk)
      exact J67 _ _ _ _ X117 e117 Nq Kq Oq ⟨E_2, Fne_2, Fpr_2, Fla_2, Ffi_2, Cnx_2, Cpv_2, Alb_2⟩ (fun i => (if_neg (fun z => c7 z.1)).symm)
  by_cases c8 : aa = 0
  ·
    refine Own.aloadN 1 X0 hx (hb hby d6_0) rfl rfl rfl ?_
    refine Own.getFld 4 X0 hx hZ hown (host := "") (Or.inl (w 12 rfl)) Via.refl e0 Fpr_1 (hb hby d6_1) rfl ?_
    intro T118 X118 e118
    refine Own.iloadN 5 X118 hx (hb hby d6_4) rfl rfl ?_
    refine Own.nLoad 6 ((-1 : Int32)) X118 hx hZ e118 Cpv_1 (by omega) (Hx.2.trans (own_p_0 c8)) (hb hby d6_5) rfl ?_
    refine Own.iconst 7 X118 hx ((-1 : Int32)) (hb hby d6_6) rfl rfl ?_
    refine Own.icmp_ne 23 10 X118 hx (hb hby d6_7) (by decide) rfl (fun tk => absurd rfl tk) (fun tk => ?_)
    refine Own.aloadN 11 X118 hx (hb hby d6_10) rfl rfl rfl ?_
    refine Own.aloadN 12 X118 hx (hb hby d6_11) rfl rfl rfl ?_
    refine Own.getFld 15 X118 hx hZ hown (host := "") (Or.inl (w 10 rfl)) Via.refl e118 Fne_1 (hb hby d6_12) rfl ?_
    intro T119 X119 e119
    refine Own.iloadN 16 X119 hx (hb hby d6_15) rfl rfl ?_
    refine Own.nLoad 17 ((own_e n o (aa + 1))) X119 hx hZ e119 Cnx_1 (by omega) Hx.1 (hb hby d6_16) rfl ?_
    refine Own.putFld 20 X119 hx hZ hown (host := "") (Or.inl (w 17 rfl)) Via.refl e119 Ffi_1 E_1 (Or.inl (w 18 rfl)) (w 2 rfl) (ty := .int) (by decide) rfl rfl (hb hby d6_17) rfl ?_
    intro T120 h120 X120 e120 W120
    have N120 := Fr.snoc X120 N0 g_t
    have Ef_122 := E_1.wr W120
    have Ff_123 := Fne_1.other W120 (Or.inr (slot_ne (Or.inr (w 11 rfl)) (Or.inl (w 18 rfl)) (by decide) (t := (.array .int)) (t' := .int) (by decide) (by decide)))
    have Ff_124 := Fpr_1.other W120 (Or.inr (slot_ne (Or.inr (w 13 rfl)) (Or.inl (w 18 rfl)) (by decide) (t := (.array .int)) (t' := .int) (by decide) (by decide)))
    have Ff_125 := Fla_1.other W120 (Or.inr (slot_ne (Or.inr (w 16 rfl)) (Or.inl (w 18 rfl)) (by decide) (t := (.array .long)) (t' := .int) (by decide) (by decide)))
    have Ff_126 := Ffi_1.same W120
    have Af_127 := Alb_1.other W120 (Ne.symm ne_t_lb)
    have Cf_128 := Cnx_1.other W120 (Ne.symm ne_t_nx)
    have Cf_129 := Cpv_1.other W120 (Ne.symm ne_t_pv)
    have O120 := X00.wr W120 g_t
    have zl120 := Nat.le_trans Z0 (Nat.le_of_eq W120.size.symm)
    have K120 := (Keep.refl h0 [t, nx, pv, lb]).wr W120 (Or.inl (List.mem_of_getElem? (i := 0) rfl))
    refine Own.goto 40 X120 hx (hb hby d6_20) (by decide) ?_
    exact J40 _ _ _ _ _ X120 e120 N120 K120 O120 ⟨Ef_122, Ff_123, Ff_124, Ff_125, Ff_126, Cf_128, Cf_129, Af_127⟩ (fun i => (if_neg (fun z => z.1 c8)).symm) (by rw [if_pos c8, c8])
  ·
    have ob1 := obs (aa - 1) (by omega)
    refine Own.aloadN 1 X0 hx (hb hby d6_0) rfl rfl rfl ?_
    refine Own.getFld 4 X0 hx hZ hown (host := "") (Or.inl (w 12 rfl)) Via.refl e0 Fpr_1 (hb hby d6_1) rfl ?_
    intro T130 X130 e130
    refine Own.iloadN 5 X130 hx (hb hby d6_4) rfl rfl ?_
    refine Own.nLoad 6 (Own.N (o (aa - 1))) X130 hx hZ e130 Cpv_1 (by omega) (Hx.2.trans (own_p_s c8)) (hb hby d6_5) rfl ?_
    refine Own.iconst 7 X130 hx ((-1 : Int32)) (hb hby d6_6) rfl rfl ?_
    refine Own.icmp_ne 23 10 X130 hx (hb hby d6_7) (by decide) rfl (fun tk => ?_) (fun tk => absurd tk (Own.N_ne1 (by omega)))
    refine Own.aloadN 24 X130 hx (hb hby d6_23) rfl rfl rfl ?_
    refine Own.getFld 27 X130 hx hZ hown (host := "") (Or.inl (w 10 rfl)) Via.refl e130 Fne_1 (hb hby d6_24) rfl ?_
    intro T131 X131 e131
    refine Own.aloadN 28 X131 hx (hb hby d6_27) rfl rfl rfl ?_
    refine Own.getFld 31 X131 hx hZ hown (host := "") (Or.inl (w 12 rfl)) Via.refl e131 Fpr_1 (hb hby d6_28) rfl ?_
    intro T132 X132 e132
    refine Own.iloadN 32 X132 hx (hb hby d6_31) rfl rfl ?_
    refine Own.nLoad 33 (Own.N (o (aa - 1))) X132 hx hZ e132 Cpv_1 (by omega) (Hx.2.trans (own_p_s c8)) (hb hby d6_32) rfl ?_
    refine Own.aloadN 34 X132 hx (hb hby d6_33) rfl rfl rfl ?_
    refine Own.getFld 37 X132 hx hZ hown (host := "") (Or.inl (w 10 rfl)) Via.refl e132 Fne_1 (hb hby d6_34) rfl ?_
    intro T133 X133 e133
    refine Own.iloadN 38 X133 hx (hb hby d6_37) rfl rfl ?_
    refine Own.nLoad 39 ((own_e n o (aa + 1))) X133 hx hZ e133 Cnx_1 (by omega) Hx.1 (hb hby d6_38) rfl ?_
    refine Own.nStore 40 X133 hx hZ e133 Cnx_1 (by omega) (hb hby d6_39) rfl ?_
    intro T134 h134 X134 e134 W134 C134
    have N134 := Fr.snoc X134 N0 g_nx
    have Ef_136 := E_1.wr W134
    have Ff_137 := Fne_1.other W134 (Or.inl ne_t_nx)
    have Ff_138 := Fpr_1.other W134 (Or.inl ne_t_nx)
    have Ff_139 := Fla_1.other W134 (Or.inl ne_t_nx)
    have Ff_140 := Ffi_1.other W134 (Or.inl ne_t_nx)
    have Af_141 := Alb_1.other W134 (Ne.symm ne_nx_lb)
    have Cf_143 := Cpv_1.other W134 (Ne.symm ne_nx_pv)
    have O134 := X00.wr W134 g_nx
    have zl134 := Nat.le_trans Z0 (Nat.le_of_eq W134.size.symm)
    have K134 := (Keep.refl h0 [t, nx, pv, lb]).wr W134 (Or.inl (List.mem_of_getElem? (i := 1) rfl))
    exact J40 _ _ _ _ _ X134 e134 N134 K134 O134 ⟨Ef_136, Ff_137, Ff_138, Ff_139, Ff_140, C134, Cf_143, Af_141⟩ (fun i => by
        by_cases d9 : i = o (aa - 1)
        · rw [if_pos ⟨c8, d9⟩, Own.upd_hit d9]
        · rw [if_neg (fun z => d9 z.2), Own.upd_miss d9]) (if_neg c8).symm
set_option maxRecDepth 65536 in
set_option maxHeartbeats 40000000 in
theorem m0 (l : Launch) (Z : State) (a0 : Array Value) (w : ∀ (i : Nat) {d : Jvm.Cond}, tables_1[i]? = some d → d.before a0 Z = true) (x0 : Int32) (x1 : Int32) (x2 : Int32) (x3 : Int32) (x4 : Int32) (x5 : Int32) (room : Addr) (kr : ClassId) (h0 : Heap) (n0 : Nat) (Z0 : n0 ≤ h0.size) (X00 : Old Z n0 h0) (SR : Sta Z Z.heap "com/example/leveler/leveler/crossing/OrderedList" "ROOM" "[J" (.ref room)) (VR : own_room Z room kr)  :
    Own.Met l Z x code maxLocals ret tables_1 room_1 #[(.int x0), (.int x1), (.int x2), (.int x3), (.int x4), (.int x5)] h0 (fun v h L => v = some (.int 1) ∧ Fr n0 L) := by
  refine Own.Met.of (plainFor_of_name (by first | (simp [plainName, overriddenIn]; done) | decide +kernel)) ?_
  intro p e s m below meth c T0 hx hby hml hown hnm hret hlk hZ X0 e0
  have hown : s.vm.findClass "com/example/leveler/leveler/crossing/OrderedListToArrayPinLaw" = some m.cls := hown
  have hml : c.maxLocals = 16 := hml
  have hnm : meth.name = "law" := hnm
  have hret : meth.sig.returnType = some .boolean := hret
  have ef : entryFrame m #[(.int x0), (.int x1), (.int x2), (.int x3), (.int x4), (.int x5)] maxLocals = mkF m 0 #[.val (.int x0), .val (.int x1), .val (.int x2), .val (.int x3), .val (.int x4), .val (.int x5), .unset, .unset, .unset, .unset, .unset, .unset, .unset, .unset, .unset, .unset] [] := by first | (simp [entryFrame, mkF, argsToLocals, Value.category, maxLocals]; done) | rfl
  rw [ef]
  have N0 := Fr.nil n0
  obtain ⟨b0, eb0, lb0⟩ := own_msk x0 (Own.N 7) 3 (by decide) (by decide)
  obtain ⟨b1, eb1, lb1⟩ := own_msk x1 (Own.N 2147483647) 31 (by decide) (by decide)
  obtain ⟨b2, eb2, lb2⟩ := own_msk x2 (Own.N 2147483647) 31 (by decide) (by decide)
  obtain ⟨b3, eb3, lb3⟩ := own_msk x3 (Own.N 2147483647) 31 (by decide) (by decide)
  obtain ⟨b4, eb4, lb4⟩ := own_msk x4 (Own.N 1) 1 (by decide) (by decide)
  obtain ⟨b5, eb5, lb5⟩ := own_msk x5 (Own.N 2147483647) 31 (by decide) (by decide)
  obtain ⟨a4, ea4, la4⟩ := own_ush x4 1 (by decide) (by decide) (Own.N 1) (by decide)
  refine Own.iloadN 1 X0 hx (hb hby at_0) rfl rfl ?_
  refine Own.bipush 3 X0 hx (Own.N 7) (hb hby at_1) rfl rfl ?_
  refine Own.iand 4 X0 hx (hb hby at_3) rfl eb0 ?_
  refine Own.iconst 5 X0 hx (Own.N 5) (hb hby at_4) rfl rfl ?_
  refine Own.irem 6 X0 hx (hb hby at_5) rfl (by decide) (Own.N_mod (by omega) (by omega)) ?_
  refine Own.istoreV 8 #[.val (.int x0), .val (.int x1), .val (.int x2), .val (.int x3), .val (.int x4), .val (.int x5), .val (.int (Own.N (b0 % 5))), .unset, .unset, .unset, .unset, .unset, .unset, .unset, .unset, .unset] X0 hx (hb hby at_6) rfl rfl ?_
  have md5 : b0 % 5 ≤ 4 := by omega
  have J8 : ∀ (n : Nat) (bn : n ≤ 4), Own.Ends p.tables e below (fun v h L => v = some (.int 1) ∧ Fr n0 L) (Own.FE s room_1.cells room_1.slots) (T0.setTop (mkF m 8 #[.val (.int x0), .val (.int x1), .val (.int x2), .val (.int x3), .val (.int x4), .val (.int x5), .val (.int (Own.N (n))), .unset, .unset, .unset, .unset, .unset, .unset, .unset, .unset, .unset] [])) := by
    intro n bn
    refine Own.iconst 9 X0 hx (Own.N 4) (hb hby at_8) rfl rfl ?_
    refine Own.nNew 11 4 X0 hx hZ (w 0 rfl) e0 (by omega) (by decide) (hb hby at_9) rfl (by decide) (by decide) ?_
    intro T1 h1 pa z1 X1 e1 E1 C1
    have g_pa : n0 ≤ pa := Nat.le_trans Z0 (Nat.le_of_eq z1.symm)
    have O1 := X00.ext E1
    have zl1 := Nat.le_trans Z0 E1.1
    refine Own.dup 12 X1 hx (hb hby at_11) rfl rfl ?_
    refine Own.iconst 13 X1 hx (Own.N 0) (hb hby at_12) rfl rfl ?_
    refine Own.iconst 14 X1 hx (Own.N 0) (hb hby at_13) rfl rfl ?_
    refine Own.nStore 15 X1 hx hZ e1 C1 (by omega) (hb hby at_14) rfl ?_
    intro T3 h3 X3 e3 W3 C3
    have N3 := Fr.snoc X3 N0 g_pa
    have O3 := O1.wr W3 g_pa
    have zl3 := Nat.le_trans zl1 (Nat.le_of_eq W3.size.symm)
    refine Own.dup 16 X3 hx (hb hby at_15) rfl rfl ?_
    refine Own.iconst 17 X3 hx (Own.N 1) (hb hby at_16) rfl rfl ?_
    refine Own.iconst 18 X3 hx (Own.N 1) (hb hby at_17) rfl rfl ?_
    refine Own.nStore 19 X3 hx hZ e3 C3 (by omega) (hb hby at_18) rfl ?_
    intro T6 h6 X6 e6 W6 C6
    have N6 := Fr.snoc X6 N3 g_pa
    have O6 := O3.wr W6 g_pa
    have zl6 := Nat.le_trans zl3 (Nat.le_of_eq W6.size.symm)
    refine Own.dup 20 X6 hx (hb hby at_19) rfl rfl ?_
    refine Own.iconst 21 X6 hx (Own.N 2) (hb hby at_20) rfl rfl ?_
    refine Own.iconst 22 X6 hx (Own.N 2) (hb hby at_21) rfl rfl ?_
    refine Own.nStore 23 X6 hx hZ e6 C6 (by omega) (hb hby at_22) rfl ?_
    intro T9 h9 X9 e9 W9 C9
    have N9 := Fr.snoc X9 N6 g_pa
    have O9 := O6.wr W9 g_pa
    have zl9 := Nat.le_trans zl6 (Nat.le_of_eq W9.size.symm)
    refine Own.dup 24 X9 hx (hb hby at_23) rfl rfl ?_
    refine Own.iconst 25 X9 hx (Own.N 3) (hb hby at_24) rfl rfl ?_
    refine Own.iconst 26 X9 hx (Own.N 3) (hb hby at_25) rfl rfl ?_
    refine Own.nStore 27 X9 hx hZ e9 C9 (by omega) (hb hby at_26) rfl ?_
    intro T12 h12 X12 e12 W12 C12
    have N12 := Fr.snoc X12 N9 g_pa
    have O12 := O9.wr W12 g_pa
    have zl12 := Nat.le_trans zl9 (Nat.le_of_eq W12.size.symm)
    refine Own.astore 29 #[.val (.int x0), .val (.int x1), .val (.int x2), .val (.int x3), .val (.int x4), .val (.int x5), .val (.int (Own.N (n))), .val (.ref pa), .unset, .unset, .unset, .unset, .unset, .unset, .unset, .unset] X12 hx (hb hby at_27) rfl rfl rfl ?_
    have J83 : ∀ (pi : Nat → Nat) (fp : Nat → Int32) (hp : ∀ k, k < 4 → fp k = Own.N (pi k)) (P4 : own_Or 4 4 pi) (fx : ∀ k, n ≤ k → k < 4 → pi k = k) (Tq : State) (Lq : List Loc) (hq : Heap) (Xq : Stand p l e room_1 s m #[(.int x0), (.int x1), (.int x2), (.int x3), (.int x4), (.int x5)] below meth c Tq Lq 1 4) (eqq : Tq.heap = hq) (Nq : Fr n0 Lq) (Zq : n0 ≤ hq.size) (Oq : Old Z n0 hq) (C_pa : Own.Arf Z hq pa 4 fp), Own.Ends p.tables e below (fun v h L => v = some (.int 1) ∧ Fr n0 L) (Own.FE s room_1.cells room_1.slots) (Tq.setTop (mkF m 83 #[.val (.int x0), .val (.int x1), .val (.int x2), .val (.int x3), .val (.int x4), .val (.int x5), .val (.int (Own.N (n))), .val (.ref pa), .unset, .unset, .unset, .unset, .unset, .unset, .unset, .unset] [])) := by
      intro pi fp hp P4 fx Tq Lq hq Xq eqq Nq Zq Oq C_pa
      have ON := own_fix P4 fx bn
      have pb := fun k hk => (P4 k hk).1
      refine Own.iload 85 Xq hx (hb hby at_83) rfl rfl ?_
      refine Own.nNew 87 4 Xq hx hZ (w 0 rfl) eqq (by omega) (by decide) (hb hby at_85) rfl (by decide) (by decide) ?_
      intro T15 h15 od z15 X15 e15 E15 C15
      have ne_pa_od : pa ≠ od := Nat.ne_of_lt (Nat.lt_of_lt_of_le C_pa.lt (Nat.le_of_eq z15.symm))
      have g_od : n0 ≤ od := Nat.le_trans Zq (Nat.le_of_eq z15.symm)
      have Cf_17 := C_pa.ext E15
      have O15 := Oq.ext E15
      have zl15 := Nat.le_trans Zq E15.1
      refine Own.astore 89 #[.val (.int x0), .val (.int x1), .val (.int x2), .val (.int x3), .val (.int x4), .val (.int x5), .val (.int (Own.N (n))), .val (.ref pa), .val (.ref od), .unset, .unset, .unset, .unset, .unset, .unset, .unset] X15 hx (hb hby at_87) rfl rfl rfl ?_
      have J144 : ∀ (fo : Nat → Int32) (ho : ∀ k, k < 4 → k < n → fo k = Own.N (pi k)) (Tq : State) (Lq : List Loc) (hq : Heap) (Xq : Stand p l e room_1 s m #[(.int x0), (.int x1), (.int x2), (.int x3), (.int x4), (.int x5)] below meth c Tq Lq 2 8) (eqq : Tq.heap = hq) (Nq : Fr n0 Lq) (Zq : n0 ≤ hq.size) (Oq : Old Z n0 hq) (C_pa : Own.Arf Z hq pa 4 fp) (C_od : Own.Arf Z hq od n fo), Own.Ends p.tables e below (fun v h L => v = some (.int 1) ∧ Fr n0 L) (Own.FE s room_1.cells room_1.slots) (Tq.setTop (mkF m 144 #[.val (.int x0), .val (.int x1), .val (.int x2), .val (.int x3), .val (.int x4), .val (.int x5), .val (.int (Own.N (n))), .val (.ref pa), .val (.ref od), .unset, .unset, .unset, .unset, .unset, .unset, .unset] [])) := by
        intro fo ho Tq Lq hq Xq eqq Nq Zq Oq C_pa C_od
        refine Own.newObj 147 Xq hx hZ hown (w 1 rfl) (w 2 rfl) (w 3 rfl) eqq (hb hby at_144) rfl (by decide) (by decide) ?_
        intro T18 h18 t z18 X18 e18 E18 A18 D18
        have ne_od_t : od ≠ t := Nat.ne_of_lt (Nat.lt_of_lt_of_le C_od.lt (Nat.le_of_eq z18.symm))
        have ne_pa_t : pa ≠ t := Nat.ne_of_lt (Nat.lt_of_lt_of_le C_pa.lt (Nat.le_of_eq z18.symm))
        have g_t : n0 ≤ t := Nat.le_trans Zq (Nat.le_of_eq z18.symm)
        have Cf_20 := C_pa.ext E18
        have Cf_21 := C_od.ext E18
        have O18 := Oq.ext E18
        have zl18 := Nat.le_trans Zq E18.1
        have F18_next : Fld Z h18 t "com/example/leveler/leveler/crossing/OrderedList" "next" "[I" .null := D18 (Or.inr (w 11 rfl)) (ty := (.array .int)) (by decide)
        have F18_previous : Fld Z h18 t "com/example/leveler/leveler/crossing/OrderedList" "previous" "[I" .null := D18 (Or.inr (w 13 rfl)) (ty := (.array .int)) (by decide)
        have F18_labels : Fld Z h18 t "com/example/leveler/leveler/crossing/OrderedList" "labels" "[J" .null := D18 (Or.inr (w 16 rfl)) (ty := (.array .long)) (by decide)
        have F18_first : Fld Z h18 t "com/example/leveler/leveler/crossing/OrderedList" "first" "I" (.int (0 : Int32)) := D18 (Or.inl (w 18 rfl)) (ty := .int) (by decide)
        refine Own.dup 148 X18 hx (hb hby at_147) rfl rfl ?_
        refine Own.aload 150 X18 hx (hb hby at_148) rfl rfl rfl ?_
        refine Own.callInit 153 1 t [(.ref od)] [(.ref t)] X18 hx hZ hown (m1 l Z a0 w t od n n0 pi _ _ zl18 g_t A18 F18_next F18_previous F18_labels F18_first Cf_21 (fun k hk => ho k (by omega) hk) ne_od_t ON bn) rfl (w 4 rfl) (w 5 rfl) (w 3 rfl) (w 6 rfl) (by decide) e18 (by decide) (by decide) (by decide) (by decide) (by rw [hml]; rfl) (lenOf pd_3 rfl) rfl (Nat.le_of_eq rfl) (hb hby at_150) rfl ?_
        rintro vv T22 L22 X22 ⟨rfl, N22q, K22, nx, pv, lb, fN, fP, D01, sz1, sz2, sz3, S22, LLk⟩
        have ne_pa_nx : pa ≠ nx := Nat.ne_of_lt (Nat.lt_of_lt_of_le Cf_20.lt sz1)
        have ne_pa_pv : pa ≠ pv := Nat.ne_of_lt (Nat.lt_of_lt_of_le Cf_20.lt sz2)
        have ne_pa_lb : pa ≠ lb := Nat.ne_of_lt (Nat.lt_of_lt_of_le Cf_20.lt sz3)
        have N22 := Fr.app Nq N22q
        have O22 := O18.keep K22 (allS g_t all0)
        have Ef_24 := A18.keep K22
        have Cf_29 := Cf_20.keep K22 (ninS ne_pa_t nin0)
        have zl22 := Nat.le_trans zl18 K22.1
        obtain ⟨E_22, Fne_22, Fpr_22, Fla_22, Ffi_22, Cnx_22, Cpv_22, Alb_22⟩ := S22
        obtain ⟨ne_t_nx, ne_t_pv, ne_t_lb, ne_nx_pv, ne_nx_lb, ne_pv_lb, g_t, g_nx, g_pv, g_lb⟩ := id D01
        refine Own.astore 155 #[.val (.int x0), .val (.int x1), .val (.int x2), .val (.int x3), .val (.int x4), .val (.int x5), .val (.int (Own.N (n))), .val (.ref pa), .val (.ref od), .val (.ref t), .unset, .unset, .unset, .unset, .unset, .unset] X22 hx (hb hby at_153) rfl rfl rfl ?_
        refine Own.iconst 156 X22 hx (Own.N 4) (hb hby at_155) rfl rfl ?_
        refine Own.nNew 158 4 X22 hx hZ (w 0 rfl) rfl (by omega) (by decide) (hb hby at_156) rfl (by decide) (by decide) ?_
        intro T30 h30 ex z30 X30 e30 E30 C30
        have ne_lb_ex : lb ≠ ex := Nat.ne_of_lt (Nat.lt_of_lt_of_le Alb_22.lt (Nat.le_of_eq z30.symm))
        have ne_nx_ex : nx ≠ ex := Nat.ne_of_lt (Nat.lt_of_lt_of_le Cnx_22.lt (Nat.le_of_eq z30.symm))
        have ne_pa_ex : pa ≠ ex := Nat.ne_of_lt (Nat.lt_of_lt_of_le Cf_29.lt (Nat.le_of_eq z30.symm))
        have ne_pv_ex : pv ≠ ex := Nat.ne_of_lt (Nat.lt_of_lt_of_le Cpv_22.lt (Nat.le_of_eq z30.symm))
        have ne_t_ex : t ≠ ex := Nat.ne_of_lt (Nat.lt_of_lt_of_le E_22.lt (Nat.le_of_eq z30.symm))
        have g_ex : n0 ≤ ex := Nat.le_trans zl22 (Nat.le_of_eq z30.symm)
        have Ef_32 := E_22.ext E30
        have Ff_33 := Fne_22.ext E30
        have Ff_34 := Fpr_22.ext E30
        have Ff_35 := Fla_22.ext E30
        have Ff_36 := Ffi_22.ext E30
        have Af_37 := Alb_22.ext E30
        have Cf_38 := Cf_29.ext E30
        have Cf_39 := Cnx_22.ext E30
        have Cf_40 := Cpv_22.ext E30
        have O30 := O22.ext E30
        have zl30 := Nat.le_trans zl22 E30.1
        refine Own.dup 159 X30 hx (hb hby at_158) rfl rfl ?_
        refine Own.iconst 160 X30 hx (Own.N 0) (hb hby at_159) rfl rfl ?_
        refine Own.aload 162 X30 hx (hb hby at_160) rfl rfl rfl ?_
        refine Own.iconst 163 X30 hx (Own.N 0) (hb hby at_162) rfl rfl ?_
        refine Own.nLoad 164 (Own.N (pi 0)) X30 hx hZ e30 Cf_38 (by omega) (hp 0 (by omega)) (hb hby at_163) rfl ?_
        refine Own.nStore 165 X30 hx hZ e30 C30 (by omega) (hb hby at_164) rfl ?_
        intro T41 h41 X41 e41 W41 C41
        have N41 := Fr.snoc X41 N22 g_ex
        have Ef_43 := Ef_32.wr W41
        have Ff_44 := Ff_33.other W41 (Or.inl ne_t_ex)
        have Ff_45 := Ff_34.other W41 (Or.inl ne_t_ex)
        have Ff_46 := Ff_35.other W41 (Or.inl ne_t_ex)
        have Ff_47 := Ff_36.other W41 (Or.inl ne_t_ex)
        have Af_48 := Af_37.other W41 ne_lb_ex
        have Cf_49 := Cf_38.other W41 ne_pa_ex
        have Cf_50 := Cf_39.other W41 ne_nx_ex
        have Cf_51 := Cf_40.other W41 ne_pv_ex
        have O41 := O30.wr W41 g_ex
        have zl41 := Nat.le_trans zl30 (Nat.le_of_eq W41.size.symm)
        refine Own.dup 166 X41 hx (hb hby at_165) rfl rfl ?_
        refine Own.iconst 167 X41 hx (Own.N 1) (hb hby at_166) rfl rfl ?_
        refine Own.aload 169 X41 hx (hb hby at_167) rfl rfl rfl ?_
        refine Own.iconst 170 X41 hx (Own.N 1) (hb hby at_169) rfl rfl ?_
        refine Own.nLoad 171 (Own.N (pi 1)) X41 hx hZ e41 Cf_49 (by omega) (hp 1 (by omega)) (hb hby at_170) rfl ?_
        refine Own.nStore 172 X41 hx hZ e41 C41 (by omega) (hb hby at_171) rfl ?_
        intro T53 h53 X53 e53 W53 C53
        have N53 := Fr.snoc X53 N41 g_ex
        have Ef_55 := Ef_43.wr W53
        have Ff_56 := Ff_44.other W53 (Or.inl ne_t_ex)
        have Ff_57 := Ff_45.other W53 (Or.inl ne_t_ex)
        have Ff_58 := Ff_46.other W53 (Or.inl ne_t_ex)
        have Ff_59 := Ff_47.other W53 (Or.inl ne_t_ex)
        have Af_60 := Af_48.other W53 ne_lb_ex
        have Cf_61 := Cf_49.other W53 ne_pa_ex
        have Cf_62 := Cf_50.other W53 ne_nx_ex
        have Cf_63 := Cf_51.other W53 ne_pv_ex
        have O53 := O41.wr W53 g_ex
        have zl53 := Nat.le_trans zl41 (Nat.le_of_eq W53.size.symm)
        refine Own.dup 173 X53 hx (hb hby at_172) rfl rfl ?_
        refine Own.iconst 174 X53 hx (Own.N 2) (hb hby at_173) rfl rfl ?_
        refine Own.aload 176 X53 hx (hb hby at_174) rfl rfl rfl ?_
        refine Own.iconst 177 X53 hx (Own.N 2) (hb hby at_176) rfl rfl ?_
        refine Own.nLoad 178 (Own.N (pi 2)) X53 hx hZ e53 Cf_61 (by omega) (hp 2 (by omega)) (hb hby at_177) rfl ?_
        refine Own.nStore 179 X53 hx hZ e53 C53 (by omega) (hb hby at_178) rfl ?_
        intro T65 h65 X65 e65 W65 C65
        have N65 := Fr.snoc X65 N53 g_ex
        have Ef_67 := Ef_55.wr W65
        have Ff_68 := Ff_56.other W65 (Or.inl ne_t_ex)
        have Ff_69 := Ff_57.other W65 (Or.inl ne_t_ex)
        have Ff_70 := Ff_58.other W65 (Or.inl ne_t_ex)
        have Ff_71 := Ff_59.other W65 (Or.inl ne_t_ex)
        have Af_72 := Af_60.other W65 ne_lb_ex
        have Cf_73 := Cf_61.other W65 ne_pa_ex
        have Cf_74 := Cf_62.other W65 ne_nx_ex
        have Cf_75 := Cf_63.other W65 ne_pv_ex
        have O65 := O53.wr W65 g_ex
        have zl65 := Nat.le_trans zl53 (Nat.le_of_eq W65.size.symm)
        refine Own.dup 180 X65 hx (hb hby at_179) rfl rfl ?_
        refine Own.iconst 181 X65 hx (Own.N 3) (hb hby at_180) rfl rfl ?_
        refine Own.aload 183 X65 hx (hb hby at_181) rfl rfl rfl ?_
        refine Own.iconst 184 X65 hx (Own.N 3) (hb hby at_183) rfl rfl ?_
        refine Own.nLoad 185 (Own.N (pi 3)) X65 hx hZ e65 Cf_73 (by omega) (hp 3 (by omega)) (hb hby at_184) rfl ?_
        refine Own.nStore 186 X65 hx hZ e65 C65 (by omega) (hb hby at_185) rfl ?_
        intro T77 h77 X77 e77 W77 C77
        have N77 := Fr.snoc X77 N65 g_ex
        have Ef_79 := Ef_67.wr W77
        have Ff_80 := Ff_68.other W77 (Or.inl ne_t_ex)
        have Ff_81 := Ff_69.other W77 (Or.inl ne_t_ex)
        have Ff_82 := Ff_70.other W77 (Or.inl ne_t_ex)
        have Ff_83 := Ff_71.other W77 (Or.inl ne_t_ex)
        have Af_84 := Af_72.other W77 ne_lb_ex
        have Cf_85 := Cf_73.other W77 ne_pa_ex
        have Cf_86 := Cf_74.other W77 ne_nx_ex
        have Cf_87 := Cf_75.other W77 ne_pv_ex
        have O77 := O65.wr W77 g_ex
        have zl77 := Nat.le_trans zl65 (Nat.le_of_eq W77.size.symm)
        refine Own.astore 188 #[.val (.int x0), .val (.int x1), .val (.int x2), .val (.int x3), .val (.int x4), .val (.int x5), .val (.int (Own.N (n))), .val (.ref pa), .val (.ref od), .val (.ref t), .val (.ref ex), .unset, .unset, .unset, .unset, .unset] X77 hx (hb hby at_186) rfl rfl rfl ?_
        have nex : t ≠ ex ∧ nx ≠ ex ∧ pv ≠ ex ∧ lb ≠ ex := ⟨ne_t_ex, ne_nx_ex, ne_pv_ex, ne_lb_ex⟩
        have K388 : ∀ (Ee : Nat → Nat) (fe gN gP : Nat → Int32) (s11 s12 s13 s14 s15 : Slot) (o_s11 : s11 = .unset ∨ ∃ x : Int32, s11 = .val (.int x)) (LLq : own_LL n Ee gN gP) (OE : own_Or n n Ee) (he : ∀ k, k < 4 → fe k = Own.N (Ee k)) (Tq : State) (Lq : List Loc) (hq : Heap) (Xq : Stand p l e room_1 s m #[(.int x0), (.int x1), (.int x2), (.int x3), (.int x4), (.int x5)] below meth c Tq Lq 7 28) (eqq : Tq.heap = hq) (Nq : Fr n0 Lq) (Zq : n0 ≤ hq.size) (Oq : Old Z n0 hq) (C_ex : Own.Arf Z hq ex 4 fe) (Sq : own_L Z hq t nx pv lb n (own_e n Ee 0) gN gP), Own.Ends p.tables e below (fun v h L => v = some (.int 1) ∧ Fr n0 L) (Own.FE s room_1.cells room_1.slots) (Tq.setTop (mkF m 388 #[.val (.int x0), .val (.int x1), .val (.int x2), .val (.int x3), .val (.int x4), .val (.int x5), .val (.int (Own.N (n))), .val (.ref pa), .val (.ref od), .val (.ref t), .val (.ref ex), s11, s12, s13, s14, s15] [])) := by
          intro Ee fe gN gP s11 s12 s13 s14 s15 o_s11 LLq OE he Tq Lq hq Xq eqq Nq Zq Oq C_ex Sq
          obtain ⟨E_89, Fne_89, Fpr_89, Fla_89, Ffi_89, Cnx_89, Cpv_89, Alb_89⟩ := Sq
          obtain ⟨ne_t_ex, ne_nx_ex, ne_pv_ex, ne_lb_ex⟩ := nex
          have eb := fun k hk => (OE k hk).1
          refine Own.aload 390 Xq hx (hb hby at_388) rfl rfl rfl ?_
          refine Own.callVt 393 0 t [] [] Xq hx hZ hown (m4 l Z a0 w t nx pv lb n n0 Ee gN gP _ Zq Oq ⟨E_89, Fne_89, Fpr_89, Fla_89, Ffi_89, Cnx_89, Cpv_89, Alb_89⟩ LLq OE bn) E_89 (notFace_of_selects (args := #[]) (mvT hZ (w 27 rfl))) (w 24 rfl) (w 25 rfl) (w 27 rfl) (w 26 rfl) (w 3 rfl) (w 28 rfl) (by decide) eqq (by decide) (by decide) (by decide) (by decide) (by rw [hml]; rfl) (lenOf pd_4 rfl) rfl (Nat.le_of_eq rfl) (hb hby at_390) rfl ?_
          rintro vv T90 L90 X90 ⟨r, g, rfl, N90q, K90, sr, gr, Cr90, hg⟩
          have ne_ex_r : ex ≠ r := Nat.ne_of_lt (Nat.lt_of_lt_of_le C_ex.lt sr)
          have N90 := Fr.app Nq N90q
          have O90 := Oq.keep K90 all0
          have Cf_92 := C_ex.keep K90 nin0
          have zl90 := Nat.le_trans Zq K90.1
          refine Own.astore 395 #[.val (.int x0), .val (.int x1), .val (.int x2), .val (.int x3), .val (.int x4), .val (.int x5), .val (.int (Own.N (n))), .val (.ref pa), .val (.ref od), .val (.ref t), .val (.ref ex), .val (.ref r), s12, s13, s14, s15] X90 hx (hb hby at_393) rfl rfl (by rcases o_s11 with q9 | ⟨x9, q9⟩ <;> (subst q9; rfl)) ?_
          refine Own.aload 397 X90 hx (hb hby at_395) rfl rfl rfl ?_
          refine Own.nLen 398 X90 hx hZ rfl Cr90 (hb hby at_397) rfl ?_
          refine Own.iload 400 X90 hx (hb hby at_398) rfl rfl ?_
          refine Own.nicmp_ne 475 403 X90 hx (hb hby at_400) (by decide) rfl (by omega) (by omega) (fun tk => False.elim (by omega)) (fun tk => ?_)
          have J471 : ∀ (_ : True), Own.Ends p.tables e below (fun v h L => v = some (.int 1) ∧ Fr n0 L) (Own.FE s room_1.cells room_1.slots) (T90.setTop (mkF m 471 #[.val (.int x0), .val (.int x1), .val (.int x2), .val (.int x3), .val (.int x4), .val (.int x5), .val (.int (Own.N (n))), .val (.ref pa), .val (.ref od), .val (.ref t), .val (.ref ex), .val (.ref r), s12, s13, s14, s15] [])) := by
            intro _
            refine Own.iconst 472 X90 hx (Own.N 1) (hb hby at_471) rfl rfl ?_
            refine Own.goto 476 X90 hx (hb hby at_472) (by decide) ?_
            refine Own.retBool X90 hx hlk hret (hb hby at_476) (by decide) (by decide) ?_
            exact ⟨rfl, N90⟩
          have J454 : ∀ (_ : True), Own.Ends p.tables e below (fun v h L => v = some (.int 1) ∧ Fr n0 L) (Own.FE s room_1.cells room_1.slots) (T90.setTop (mkF m 454 #[.val (.int x0), .val (.int x1), .val (.int x2), .val (.int x3), .val (.int x4), .val (.int x5), .val (.int (Own.N (n))), .val (.ref pa), .val (.ref od), .val (.ref t), .val (.ref ex), .val (.ref r), s12, s13, s14, s15] [])) := by
            intro _
            refine Own.iload 456 X90 hx (hb hby at_454) rfl rfl ?_
            refine Own.iconst 457 X90 hx (Own.N 4) (hb hby at_456) rfl rfl ?_
            refine Own.nicmp_lt 471 460 X90 hx (hb hby at_457) (by decide) rfl (by omega) (by omega) (fun c3 => ?_) (fun c3 => ?_)
            ·
              exact J471 trivial
            ·
              have e9 := eb 3 (by omega)
              refine Own.aload 462 X90 hx (hb hby at_460) rfl rfl rfl ?_
              refine Own.iconst 463 X90 hx (Own.N 3) (hb hby at_462) rfl rfl ?_
              refine Own.nLoad 464 (Own.N (Ee 3)) X90 hx hZ rfl Cr90 (by omega) (hg 3 (by omega)) (hb hby at_463) rfl ?_
              refine Own.aload 466 X90 hx (hb hby at_464) rfl rfl rfl ?_
              refine Own.iconst 467 X90 hx (Own.N 3) (hb hby at_466) rfl rfl ?_
              refine Own.nLoad 468 (Own.N (Ee 3)) X90 hx hZ rfl Cf_92 (by omega) (he 3 (by omega)) (hb hby at_467) rfl ?_
              refine Own.nicmp_ne 475 471 X90 hx (hb hby at_468) (by decide) rfl (by omega) (by omega) (fun tk => False.elim (by omega)) (fun tk => ?_)
              exact J471 trivial
          have J437 : ∀ (_ : True), Own.Ends p.tables e below (fun v h L => v = some (.int 1) ∧ Fr n0 L) (Own.FE s room_1.cells room_1.slots) (T90.setTop (mkF m 437 #[.val (.int x0), .val (.int x1), .val (.int x2), .val (.int x3), .val (.int x4), .val (.int x5), .val (.int (Own.N (n))), .val (.ref pa), .val (.ref od), .val (.ref t), .val (.ref ex), .val (.ref r), s12, s13, s14, s15] [])) := by
            intro _
            refine Own.iload 439 X90 hx (hb hby at_437) rfl rfl ?_
            refine Own.iconst 440 X90 hx (Own.N 3) (hb hby at_439) rfl rfl ?_
            refine Own.nicmp_lt 454 443 X90 hx (hb hby at_440) (by decide) rfl (by omega) (by omega) (fun c2 => ?_) (fun c2 => ?_)
            ·
              exact J454 trivial
            ·
              have e9 := eb 2 (by omega)
              refine Own.aload 445 X90 hx (hb hby at_443) rfl rfl rfl ?_
              refine Own.iconst 446 X90 hx (Own.N 2) (hb hby at_445) rfl rfl ?_
              refine Own.nLoad 447 (Own.N (Ee 2)) X90 hx hZ rfl Cr90 (by omega) (hg 2 (by omega)) (hb hby at_446) rfl ?_
              refine Own.aload 449 X90 hx (hb hby at_447) rfl rfl rfl ?_
              refine Own.iconst 450 X90 hx (Own.N 2) (hb hby at_449) rfl rfl ?_
              refine Own.nLoad 451 (Own.N (Ee 2)) X90 hx hZ rfl Cf_92 (by omega) (he 2 (by omega)) (hb hby at_450) rfl ?_
              refine Own.nicmp_ne 475 454 X90 hx (hb hby at_451) (by decide) rfl (by omega) (by omega) (fun tk => False.elim (by omega)) (fun tk => ?_)
              exact J454 trivial
          have J420 : ∀ (_ : True), Own.Ends p.tables e below (fun v h L => v = some (.int 1) ∧ Fr n0 L) (Own.FE s room_1.cells room_1.slots) (T90.setTop (mkF m 420 #[.val (.int x0), .val (.int x1), .val (.int x2), .val (.int x3), .val (.int x4), .val (.int x5), .val (.int (Own.N (n))), .val (.ref pa), .val (.ref od), .val (.ref t), .val (.ref ex), .val (.ref r), s12, s13, s14, s15] [])) := by
            intro _
            refine Own.iload 422 X90 hx (hb hby at_420) rfl rfl ?_
            refine Own.iconst 423 X90 hx (Own.N 2) (hb hby at_422) rfl rfl ?_
            refine Own.nicmp_lt 437 426 X90 hx (hb hby at_423) (by decide) rfl (by omega) (by omega) (fun c1 => ?_) (fun c1 => ?_)
            ·
              exact J437 trivial
            ·
              have e9 := eb 1 (by omega)
              refine Own.aload 428 X90 hx (hb hby at_426) rfl rfl rfl ?_
              refine Own.iconst 429 X90 hx (Own.N 1) (hb hby at_428) rfl rfl ?_
              refine Own.nLoad 430 (Own.N (Ee 1)) X90 hx hZ rfl Cr90 (by omega) (hg 1 (by omega)) (hb hby at_429) rfl ?_
              refine Own.aload 432 X90 hx (hb hby at_430) rfl rfl rfl ?_
              refine Own.iconst 433 X90 hx (Own.N 1) (hb hby at_432) rfl rfl ?_
              refine Own.nLoad 434 (Own.N (Ee 1)) X90 hx hZ rfl Cf_92 (by omega) (he 1 (by omega)) (hb hby at_433) rfl ?_
              refine Own.nicmp_ne 475 437 X90 hx (hb hby at_434) (by decide) rfl (by omega) (by omega) (fun tk => False.elim (by omega)) (fun tk => ?_)
              exact J437 trivial
          refine Own.iload 405 X90 hx (hb hby at_403) rfl rfl ?_
          refine Own.iconst 406 X90 hx (Own.N 1) (hb hby at_405) rfl rfl ?_
          refine Own.nicmp_lt 420 409 X90 hx (hb hby at_406) (by decide) rfl (by omega) (by omega) (fun c0 => ?_) (fun c0 => ?_)
          ·
            exact J420 trivial
          ·
            have e9 := eb 0 (by omega)
            refine Own.aload 411 X90 hx (hb hby at_409) rfl rfl rfl ?_
            refine Own.iconst 412 X90 hx (Own.N 0) (hb hby at_411) rfl rfl ?_
            refine Own.nLoad 413 (Own.N (Ee 0)) X90 hx hZ rfl Cr90 (by omega) (hg 0 (by omega)) (hb hby at_412) rfl ?_
            refine Own.aload 415 X90 hx (hb hby at_413) rfl rfl rfl ?_
            refine Own.iconst 416 X90 hx (Own.N 0) (hb hby at_415) rfl rfl ?_
            refine Own.nLoad 417 (Own.N (Ee 0)) X90 hx hZ rfl Cf_92 (by omega) (he 0 (by omega)) (hb hby at_416) rfl ?_
            refine Own.nicmp_ne 475 420 X90 hx (hb hby at_417) (by decide) rfl (by omega) (by omega) (fun tk => False.elim (by omega)) (fun tk => ?_)
            exact J420 trivial
        have K388m : ∀ (Ee : Nat → Nat) (fe gN gP : Nat → Int32) (s11 s12 s13 s14 s15 : Slot) (o_s11 : s11 = .unset ∨ ∃ x : Int32, s11 = .val (.int x)) (LLq : own_LL n Ee gN gP) (OE : own_Or n n Ee) (he : ∀ k, k < 4 → fe k = Own.N (Ee k)) (Tq : State) (Lq : List Loc) (hq : Heap) (Xq : Stand p l e room_1 s m #[(.int x0), (.int x1), (.int x2), (.int x3), (.int x4), (.int x5)] below meth c Tq Lq 8 31) (eqq : Tq.heap = hq) (Nq : Fr n0 Lq) (Zq : n0 ≤ hq.size) (Oq : Old Z n0 hq) (C_ex : Own.Arf Z hq ex 4 fe) (Sq : own_L Z hq t nx pv lb n (own_e n Ee 0) gN gP), Own.Ends p.tables e below (fun v h L => v = some (.int 1) ∧ Fr n0 L) (Own.FE s room_1.cells room_1.slots) (Tq.setTop (mkF m 388 #[.val (.int x0), .val (.int x1), .val (.int x2), .val (.int x3), .val (.int x4), .val (.int x5), .val (.int (Own.N (n))), .val (.ref pa), .val (.ref od), .val (.ref t), .val (.ref ex), s11, s12, s13, s14, s15] [])) := by
          intro Ee fe gN gP s11 s12 s13 s14 s15 o_s11 LLq OE he Tq Lq hq Xq eqq Nq Zq Oq C_ex Sq
          obtain ⟨E_93, Fne_93, Fpr_93, Fla_93, Ffi_93, Cnx_93, Cpv_93, Alb_93⟩ := Sq
          obtain ⟨ne_t_ex, ne_nx_ex, ne_pv_ex, ne_lb_ex⟩ := nex
          have eb := fun k hk => (OE k hk).1
          refine Own.aload 390 Xq hx (hb hby at_388) rfl rfl rfl ?_
          refine Own.callVt 393 0 t [] [] Xq hx hZ hown (m4 l Z a0 w t nx pv lb n n0 Ee gN gP _ Zq Oq ⟨E_93, Fne_93, Fpr_93, Fla_93, Ffi_93, Cnx_93, Cpv_93, Alb_93⟩ LLq OE bn) E_93 (notFace_of_selects (args := #[]) (mvT hZ (w 27 rfl))) (w 24 rfl) (w 25 rfl) (w 27 rfl) (w 26 rfl) (w 3 rfl) (w 28 rfl) (by decide) eqq (by decide) (by decide) (by decide) (by decide) (by rw [hml]; rfl) (lenOf pd_4 rfl) rfl (Nat.le_of_eq rfl) (hb hby at_390) rfl ?_
          rintro vv T94 L94 X94 ⟨r, g, rfl, N94q, K94, sr, gr, Cr94, hg⟩
          have ne_ex_r : ex ≠ r := Nat.ne_of_lt (Nat.lt_of_lt_of_le C_ex.lt sr)
          have N94 := Fr.app Nq N94q
          have O94 := Oq.keep K94 all0
          have Cf_96 := C_ex.keep K94 nin0
          have zl94 := Nat.le_trans Zq K94.1
          refine Own.astore 395 #[.val (.int x0), .val (.int x1), .val (.int x2), .val (.int x3), .val (.int x4), .val (.int x5), .val (.int (Own.N (n))), .val (.ref pa), .val (.ref od), .val (.ref t), .val (.ref ex), .val (.ref r), s12, s13, s14, s15] X94 hx (hb hby at_393) rfl rfl (by rcases o_s11 with q9 | ⟨x9, q9⟩ <;> (subst q9; rfl)) ?_
          refine Own.aload 397 X94 hx (hb hby at_395) rfl rfl rfl ?_
          refine Own.nLen 398 X94 hx hZ rfl Cr94 (hb hby at_397) rfl ?_
          refine Own.iload 400 X94 hx (hb hby at_398) rfl rfl ?_
          refine Own.nicmp_ne 475 403 X94 hx (hb hby at_400) (by decide) rfl (by omega) (by omega) (fun tk => False.elim (by omega)) (fun tk => ?_)
          have J471 : ∀ (_ : True), Own.Ends p.tables e below (fun v h L => v = some (.int 1) ∧ Fr n0 L) (Own.FE s room_1.cells room_1.slots) (T94.setTop (mkF m 471 #[.val (.int x0), .val (.int x1), .val (.int x2), .val (.int x3), .val (.int x4), .val (.int x5), .val (.int (Own.N (n))), .val (.ref pa), .val (.ref od), .val (.ref t), .val (.ref ex), .val (.ref r), s12, s13, s14, s15] [])) := by
            intro _
            refine Own.iconst 472 X94 hx (Own.N 1) (hb hby at_471) rfl rfl ?_
            refine Own.goto 476 X94 hx (hb hby at_472) (by decide) ?_
            refine Own.retBool X94 hx hlk hret (hb hby at_476) (by decide) (by decide) ?_
            exact ⟨rfl, N94⟩
          have J454 : ∀ (_ : True), Own.Ends p.tables e below (fun v h L => v = some (.int 1) ∧ Fr n0 L) (Own.FE s room_1.cells room_1.slots) (T94.setTop (mkF m 454 #[.val (.int x0), .val (.int x1), .val (.int x2), .val (.int x3), .val (.int x4), .val (.int x5), .val (.int (Own.N (n))), .val (.ref pa), .val (.ref od), .val (.ref t), .val (.ref ex), .val (.ref r), s12, s13, s14, s15] [])) := by
            intro _
            refine Own.iload 456 X94 hx (hb hby at_454) rfl rfl ?_
            refine Own.iconst 457 X94 hx (Own.N 4) (hb hby at_456) rfl rfl ?_
            refine Own.nicmp_lt 471 460 X94 hx (hb hby at_457) (by decide) rfl (by omega) (by omega) (fun c3 => ?_) (fun c3 => ?_)
            ·
              exact J471 trivial
            ·
              have e9 := eb 3 (by omega)
              refine Own.aload 462 X94 hx (hb hby at_460) rfl rfl rfl ?_
              refine Own.iconst 463 X94 hx (Own.N 3) (hb hby at_462) rfl rfl ?_
              refine Own.nLoad 464 (Own.N (Ee 3)) X94 hx hZ rfl Cr94 (by omega) (hg 3 (by omega)) (hb hby at_463) rfl ?_
              refine Own.aload 466 X94 hx (hb hby at_464) rfl rfl rfl ?_
              refine Own.iconst 467 X94 hx (Own.N 3) (hb hby at_466) rfl rfl ?_
              refine Own.nLoad 468 (Own.N (Ee 3)) X94 hx hZ rfl Cf_96 (by omega) (he 3 (by omega)) (hb hby at_467) rfl ?_
              refine Own.nicmp_ne 475 471 X94 hx (hb hby at_468) (by decide) rfl (by omega) (by omega) (fun tk => False.elim (by omega)) (fun tk => ?_)
              exact J471 trivial
          have J437 : ∀ (_ : True), Own.Ends p.tables e below (fun v h L => v = some (.int 1) ∧ Fr n0 L) (Own.FE s room_1.cells room_1.slots) (T94.setTop (mkF m 437 #[.val (.int x0), .val (.int x1), .val (.int x2), .val (.int x3), .val (.int x4), .val (.int x5), .val (.int (Own.N (n))), .val (.ref pa), .val (.ref od), .val (.ref t), .val (.ref ex), .val (.ref r), s12, s13, s14, s15] [])) := by
            intro _
            refine Own.iload 439 X94 hx (hb hby at_437) rfl rfl ?_
            refine Own.iconst 440 X94 hx (Own.N 3) (hb hby at_439) rfl rfl ?_
            refine Own.nicmp_lt 454 443 X94 hx (hb hby at_440) (by decide) rfl (by omega) (by omega) (fun c2 => ?_) (fun c2 => ?_)
            ·
              exact J454 trivial
            ·
              have e9 := eb 2 (by omega)
              refine Own.aload 445 X94 hx (hb hby at_443) rfl rfl rfl ?_
              refine Own.iconst 446 X94 hx (Own.N 2) (hb hby at_445) rfl rfl ?_
              refine Own.nLoad 447 (Own.N (Ee 2)) X94 hx hZ rfl Cr94 (by omega) (hg 2 (by omega)) (hb hby at_446) rfl ?_
              refine Own.aload 449 X94 hx (hb hby at_447) rfl rfl rfl ?_
              refine Own.iconst 450 X94 hx (Own.N 2) (hb hby at_449) rfl rfl ?_
              refine Own.nLoad 451 (Own.N (Ee 2)) X94 hx hZ rfl Cf_96 (by omega) (he 2 (by omega)) (hb hby at_450) rfl ?_
              refine Own.nicmp_ne 475 454 X94 hx (hb hby at_451) (by decide) rfl (by omega) (by omega) (fun tk => False.elim (by omega)) (fun tk => ?_)
              exact J454 trivial
          have J420 : ∀ (_ : True), Own.Ends p.tables e below (fun v h L => v = some (.int 1) ∧ Fr n0 L) (Own.FE s room_1.cells room_1.slots) (T94.setTop (mkF m 420 #[.val (.int x0), .val (.int x1), .val (.int x2), .val (.int x3), .val (.int x4), .val (.int x5), .val (.int (Own.N (n))), .val (.ref pa), .val (.ref od), .val (.ref t), .val (.ref ex), .val (.ref r), s12, s13, s14, s15] [])) := by
            intro _
            refine Own.iload 422 X94 hx (hb hby at_420) rfl rfl ?_
            refine Own.iconst 423 X94 hx (Own.N 2) (hb hby at_422) rfl rfl ?_
            refine Own.nicmp_lt 437 426 X94 hx (hb hby at_423) (by decide) rfl (by omega) (by omega) (fun c1 => ?_) (fun c1 => ?_)
            ·
              exact J437 trivial
            ·
              have e9 := eb 1 (by omega)
              refine Own.aload 428 X94 hx (hb hby at_426) rfl rfl rfl ?_
              refine Own.iconst 429 X94 hx (Own.N 1) (hb hby at_428) rfl rfl ?_
              refine Own.nLoad 430 (Own.N (Ee 1)) X94 hx hZ rfl Cr94 (by omega) (hg 1 (by omega)) (hb hby at_429) rfl ?_
              refine Own.aload 432 X94 hx (hb hby at_430) rfl rfl rfl ?_
              refine Own.iconst 433 X94 hx (Own.N 1) (hb hby at_432) rfl rfl ?_
              refine Own.nLoad 434 (Own.N (Ee 1)) X94 hx hZ rfl Cf_96 (by omega) (he 1 (by omega)) (hb hby at_433) rfl ?_
              refine Own.nicmp_ne 475 437 X94 hx (hb hby at_434) (by decide) rfl (by omega) (by omega) (fun tk => False.elim (by omega)) (fun tk => ?_)
              exact J437 trivial
          refine Own.iload 405 X94 hx (hb hby at_403) rfl rfl ?_
          refine Own.iconst 406 X94 hx (Own.N 1) (hb hby at_405) rfl rfl ?_
          refine Own.nicmp_lt 420 409 X94 hx (hb hby at_406) (by decide) rfl (by omega) (by omega) (fun c0 => ?_) (fun c0 => ?_)
          ·
            exact J420 trivial
          ·
            have e9 := eb 0 (by omega)
            refine Own.aload 411 X94 hx (hb hby at_409) rfl rfl rfl ?_
            refine Own.iconst 412 X94 hx (Own.N 0) (hb hby at_411) rfl rfl ?_
            refine Own.nLoad 413 (Own.N (Ee 0)) X94 hx hZ rfl Cr94 (by omega) (hg 0 (by omega)) (hb hby at_412) rfl ?_
            refine Own.aload 415 X94 hx (hb hby at_413) rfl rfl rfl ?_
            refine Own.iconst 416 X94 hx (Own.N 0) (hb hby at_415) rfl rfl ?_
            refine Own.nLoad 417 (Own.N (Ee 0)) X94 hx hZ rfl Cf_96 (by omega) (he 0 (by omega)) (hb hby at_416) rfl ?_
            refine Own.nicmp_ne 475 420 X94 hx (hb hby at_417) (by decide) rfl (by omega) (by omega) (fun tk => False.elim (by omega)) (fun tk => ?_)
            exact J420 trivial
        refine Own.iload 190 X77 hx (hb hby at_188) rfl rfl ?_
        refine Own.iconst 191 X77 hx (Own.N 1) (hb hby at_190) rfl rfl ?_
        refine Own.iand 192 X77 hx (hb hby at_191) rfl eb4 ?_
        refine Own.nif_eq 388 195 X77 hx (hb hby at_192) (by decide) rfl (by omega) (fun m4 => ?_) (fun m4 => ?_)
        ·
          exact K388 pi _ _ _ _ _ _ _ _ (Or.inl rfl) LLk ON (fun k hk => by
              rcases (by omega : k = 0 ∨ k = 1 ∨ k = 2 ∨ k = 3) with rfl | rfl | rfl | rfl <;> rfl) _ _ _ X77 e77 N77 zl77 O77 C77 ⟨Ef_79, Ff_80, Ff_81, Ff_82, Ff_83, Cf_86, Cf_87, Af_84⟩
        ·
          refine Own.iload 197 X77 hx (hb hby at_195) rfl rfl ?_
          refine Own.nif_le 388 200 X77 hx (hb hby at_197) (by decide) rfl (by omega) (fun z4 => ?_) (fun z4 => ?_)
          ·
            exact K388 pi _ _ _ _ _ _ _ _ (Or.inl rfl) LLk ON (fun k hk => by
                rcases (by omega : k = 0 ∨ k = 1 ∨ k = 2 ∨ k = 3) with rfl | rfl | rfl | rfl <;> rfl) _ _ _ X77 e77 N77 zl77 O77 C77 ⟨Ef_79, Ff_80, Ff_81, Ff_82, Ff_83, Cf_86, Cf_87, Af_84⟩
          ·
            obtain ⟨aa, ha, hx9⟩ := own_sur bn ON (Nat.mod_lt a4 z4)
            obtain ⟨bb, hbb, hy9⟩ := own_sur bn ON (Nat.mod_lt b5 z4)
            have pa9 := pb aa (by omega)
            have pb9 := pb bb (by omega)
            refine Own.iload 202 X77 hx (hb hby at_200) rfl rfl ?_
            refine Own.iconst 203 X77 hx (Own.N 1) (hb hby at_202) rfl rfl ?_
            refine Own.iushr 204 X77 hx (hb hby at_203) rfl ea4 ?_
            refine Own.iload 206 X77 hx (hb hby at_204) rfl rfl ?_
            refine Own.irem 207 X77 hx (hb hby at_206) rfl (fun q9 => absurd ((Own.N_eq (y := 0) (by omega) (by omega)).mp q9) (by omega)) (Own.N_mod (by omega) (by omega)) ?_
            rw [← hx9]
            refine Own.istoreV 209 #[.val (.int x0), .val (.int x1), .val (.int x2), .val (.int x3), .val (.int x4), .val (.int x5), .val (.int (Own.N (n))), .val (.ref pa), .val (.ref od), .val (.ref t), .val (.ref ex), .val (.int (Own.N (pi aa))), .unset, .unset, .unset, .unset] X77 hx (hb hby at_207) rfl rfl ?_
            refine Own.iload 211 X77 hx (hb hby at_209) rfl rfl ?_
            refine Own.ldcInt 213 X77 hx hZ (Own.N 2147483647) hown (w 29 rfl) (hb hby at_211) rfl ?_
            refine Own.iand 214 X77 hx (hb hby at_213) rfl eb5 ?_
            refine Own.iload 216 X77 hx (hb hby at_214) rfl rfl ?_
            refine Own.irem 217 X77 hx (hb hby at_216) rfl (fun q9 => absurd ((Own.N_eq (y := 0) (by omega) (by omega)).mp q9) (by omega)) (Own.N_mod (by omega) (by omega)) ?_
            rw [← hy9]
            refine Own.istoreV 219 #[.val (.int x0), .val (.int x1), .val (.int x2), .val (.int x3), .val (.int x4), .val (.int x5), .val (.int (Own.N (n))), .val (.ref pa), .val (.ref od), .val (.ref t), .val (.ref ex), .val (.int (Own.N (pi aa))), .val (.int (Own.N (pi bb))), .unset, .unset, .unset] X77 hx (hb hby at_217) rfl rfl ?_
            refine Own.iload 221 X77 hx (hb hby at_219) rfl rfl ?_
            refine Own.iload 223 X77 hx (hb hby at_221) rfl rfl ?_
            refine Own.nicmp_ne 229 226 X77 hx (hb hby at_223) (by decide) rfl (by omega) (by omega) (fun t9 => ?_) (fun t9 => ?_)
            ·
              obtain ⟨bq, hbq, hbr⟩ := own_rm_pos (o := pi) ha hbb (fun z => t9 (by rw [z]))
              rw [← hbr]
              refine Own.aload 231 X77 hx (hb hby at_229) rfl rfl rfl ?_
              refine Own.iload 233 X77 hx (hb hby at_231) rfl rfl ?_
              refine Own.iload 235 X77 hx (hb hby at_233) rfl rfl ?_
              obtain ⟨R3, Rx⟩ := own_rm_Or P4 (q0 := aa) (by omega)
              have R3' : own_Or 3 4 (own_rmO pi aa) := R3
              have rb := fun k hk => (R3' k hk).1
              refine Own.callVt 238 0 t [(.int (Own.N (pi aa))), (.int (Own.N (own_rmO pi aa bq)))] [] X77 hx hZ hown (m6_1 l Z a0 w t nx pv lb room kr n n0 pi _ _ aa (bq + 1) _ zl77 O77 SR VR D01 ⟨Ef_79, Ff_80, Ff_81, Ff_82, Ff_83, Cf_86, Cf_87, Af_84⟩ LLk ON bn ha (by omega)) Ef_79 (notFace_of_selects (args := #[]) (mvT hZ (w 37 rfl))) (w 34 rfl) (w 35 rfl) (w 37 rfl) (w 36 rfl) (w 3 rfl) (w 38 rfl) (by decide) e77 (by decide) (by decide) (by decide) (by decide) (by rw [hml]; rfl) (lenOf pd_5 rfl) rfl (Nat.le_of_eq rfl) (hb hby at_235) rfl ?_
              rintro vv T97 L97 X97 ⟨rfl, N97q, K97, gN1, gP1, S97, LL1, OE⟩
              have N97 := Fr.app N77 N97q
              have O97 := O77.keep K97 (allS g_t (allS g_nx (allS g_pv (allS g_lb all0))))
              have Ef_99 := Ef_79.keep K97
              have Cf_105 := Cf_85.keep K97 (ninS ne_pa_t (ninS ne_pa_nx (ninS ne_pa_pv (ninS ne_pa_lb nin0))))
              have Cf_108 := C77.keep K97 (ninS (Ne.symm ne_t_ex) (ninS (Ne.symm ne_nx_ex) (ninS (Ne.symm ne_pv_ex) (ninS (Ne.symm ne_lb_ex) nin0))))
              have zl97 := Nat.le_trans zl77 K97.1
              obtain ⟨E_97, Fne_97, Fpr_97, Fla_97, Ffi_97, Cnx_97, Cpv_97, Alb_97⟩ := S97
              refine Own.aload 240 X97 hx (hb hby at_238) rfl rfl rfl ?_
              refine Own.iload 242 X97 hx (hb hby at_240) rfl rfl ?_
              refine Own.callSt 245 0 [(.ref pa), (.int (Own.N (pi aa)))] [] X97 hx hZ hown (m8 l Z a0 w pa (pi aa) aa pi fp _ Cf_105 hp (fun k hk => ⟨by have z9 := pb k hk; omega, trivial⟩) (by omega) (by omega) rfl (fun j hj z => by have z9 := (P4 j (by omega)).2 aa (by omega) z; omega)) (w 44 rfl) (w 45 rfl) (w 32 rfl) (w 46 rfl) (by decide) rfl (by decide) (by decide) (by decide) (by decide) (by rw [hml]; rfl) (lenOf pd_6 rfl) rfl (Nat.le_of_eq rfl) (hb hby at_242) rfl ?_
              rintro vv T109 L109 X109 ⟨rfl, hh109, rfl⟩
              have N109 := Fr.app N97 (Fr.nil _)
              refine Own.istoreV 247 #[.val (.int x0), .val (.int x1), .val (.int x2), .val (.int x3), .val (.int x4), .val (.int x5), .val (.int (Own.N (n))), .val (.ref pa), .val (.ref od), .val (.ref t), .val (.ref ex), .val (.int (Own.N (pi aa))), .val (.int (Own.N (own_rmO pi aa bq))), .val (.int (Own.N (aa))), .unset, .unset] X109 hx (hb hby at_245) rfl rfl ?_
              refine Own.iconst 248 X109 hx (Own.N 3) (hb hby at_247) rfl rfl ?_
              refine Own.nNew 250 3 X109 hx hZ (w 0 rfl) hh109 (by omega) (by decide) (hb hby at_248) rfl (by decide) (by decide) ?_
              intro T110 h110 ra z110 X110 e110 E110 C110
              have ne_ex_ra : ex ≠ ra := Nat.ne_of_lt (Nat.lt_of_lt_of_le Cf_108.lt (Nat.le_of_eq z110.symm))
              have ne_lb_ra : lb ≠ ra := Nat.ne_of_lt (Nat.lt_of_lt_of_le Alb_97.lt (Nat.le_of_eq z110.symm))
              have ne_nx_ra : nx ≠ ra := Nat.ne_of_lt (Nat.lt_of_lt_of_le Cnx_97.lt (Nat.le_of_eq z110.symm))
              have ne_pa_ra : pa ≠ ra := Nat.ne_of_lt (Nat.lt_of_lt_of_le Cf_105.lt (Nat.le_of_eq z110.symm))
              have ne_pv_ra : pv ≠ ra := Nat.ne_of_lt (Nat.lt_of_lt_of_le Cpv_97.lt (Nat.le_of_eq z110.symm))
              have ne_t_ra : t ≠ ra := Nat.ne_of_lt (Nat.lt_of_lt_of_le E_97.lt (Nat.le_of_eq z110.symm))
              have g_ra : n0 ≤ ra := Nat.le_trans zl97 (Nat.le_of_eq z110.symm)
              have Ef_112 := E_97.ext E110
              have Ff_113 := Fne_97.ext E110
              have Ff_114 := Fpr_97.ext E110
              have Ff_115 := Fla_97.ext E110
              have Ff_116 := Ffi_97.ext E110
              have Af_117 := Alb_97.ext E110
              have Cf_118 := Cf_105.ext E110
              have Cf_119 := Cf_108.ext E110
              have Cf_120 := Cnx_97.ext E110
              have Cf_121 := Cpv_97.ext E110
              have O110 := O97.ext E110
              have zl110 := Nat.le_trans zl97 E110.1
              have q8 := pb 0 (by omega)
              have q7 := pb 1 (by omega)
              refine Own.dup 251 X110 hx (hb hby at_250) rfl rfl ?_
              refine Own.iconst 252 X110 hx (Own.N 0) (hb hby at_251) rfl rfl ?_
              refine Own.iload 254 X110 hx (hb hby at_252) rfl rfl ?_
              have J268 : ∀ (v9 : Int32) (hv : v9 = Own.N (own_rmO pi aa 0)) (Ty : State) (Ly : List Loc) (Xy : Stand p l e room_1 s m #[(.int x0), (.int x1), (.int x2), (.int x3), (.int x4), (.int x5)] below meth c Ty Ly 8 31) (ey : Ty.heap = h110) (Ny : Fr n0 Ly), Own.Ends p.tables e below (fun v h L => v = some (.int 1) ∧ Fr n0 L) (Own.FE s room_1.cells room_1.slots) (Ty.setTop (mkF m 268 #[.val (.int x0), .val (.int x1), .val (.int x2), .val (.int x3), .val (.int x4), .val (.int x5), .val (.int (Own.N (n))), .val (.ref pa), .val (.ref od), .val (.ref t), .val (.ref ex), .val (.int (Own.N (pi aa))), .val (.int (Own.N (own_rmO pi aa bq))), .val (.int (Own.N (aa))), .unset, .unset] [(.int v9), (.int (Own.N (0))), (.ref ra), (.ref ra)])) := by
                intro v9 hv Ty Ly Xy ey Ny
                subst hv
                have q8 := pb 1 (by omega)
                have q7 := pb 2 (by omega)
                refine Own.nStore 269 Xy hx hZ ey C110 (by omega) (hb hby at_268) rfl ?_
                intro T122 h122 X122 e122 W122 C122
                have N122 := Fr.snoc X122 Ny g_ra
                have Ef_124 := Ef_112.wr W122
                have Ff_125 := Ff_113.other W122 (Or.inl ne_t_ra)
                have Ff_126 := Ff_114.other W122 (Or.inl ne_t_ra)
                have Ff_127 := Ff_115.other W122 (Or.inl ne_t_ra)
                have Ff_128 := Ff_116.other W122 (Or.inl ne_t_ra)
                have Af_129 := Af_117.other W122 ne_lb_ra
                have Cf_130 := Cf_118.other W122 ne_pa_ra
                have Cf_131 := Cf_119.other W122 ne_ex_ra
                have Cf_132 := Cf_120.other W122 ne_nx_ra
                have Cf_133 := Cf_121.other W122 ne_pv_ra
                have O122 := O110.wr W122 g_ra
                have zl122 := Nat.le_trans zl110 (Nat.le_of_eq W122.size.symm)
                refine Own.dup 270 X122 hx (hb hby at_269) rfl rfl ?_
                refine Own.iconst 271 X122 hx (Own.N 1) (hb hby at_270) rfl rfl ?_
                refine Own.iload 273 X122 hx (hb hby at_271) rfl rfl ?_
                refine Own.iconst 274 X122 hx (Own.N 1) (hb hby at_273) rfl rfl ?_
                have J288 : ∀ (v9 : Int32) (hv : v9 = Own.N (own_rmO pi aa 1)) (Ty : State) (Ly : List Loc) (Xy : Stand p l e room_1 s m #[(.int x0), (.int x1), (.int x2), (.int x3), (.int x4), (.int x5)] below meth c Ty Ly 8 31) (ey : Ty.heap = h122) (Ny : Fr n0 Ly), Own.Ends p.tables e below (fun v h L => v = some (.int 1) ∧ Fr n0 L) (Own.FE s room_1.cells room_1.slots) (Ty.setTop (mkF m 288 #[.val (.int x0), .val (.int x1), .val (.int x2), .val (.int x3), .val (.int x4), .val (.int x5), .val (.int (Own.N (n))), .val (.ref pa), .val (.ref od), .val (.ref t), .val (.ref ex), .val (.int (Own.N (pi aa))), .val (.int (Own.N (own_rmO pi aa bq))), .val (.int (Own.N (aa))), .unset, .unset] [(.int v9), (.int (Own.N (1))), (.ref ra), (.ref ra)])) := by
                  intro v9 hv Ty Ly Xy ey Ny
                  subst hv
                  have q8 := pb 2 (by omega)
                  have q7 := pb 3 (by omega)
                  refine Own.nStore 289 Xy hx hZ ey C122 (by omega) (hb hby at_288) rfl ?_
                  intro T135 h135 X135 e135 W135 C135
                  have N135 := Fr.snoc X135 Ny g_ra
                  have Ef_137 := Ef_124.wr W135
                  have Ff_138 := Ff_125.other W135 (Or.inl ne_t_ra)
                  have Ff_139 := Ff_126.other W135 (Or.inl ne_t_ra)
                  have Ff_140 := Ff_127.other W135 (Or.inl ne_t_ra)
                  have Ff_141 := Ff_128.other W135 (Or.inl ne_t_ra)
                  have Af_142 := Af_129.other W135 ne_lb_ra
                  have Cf_143 := Cf_130.other W135 ne_pa_ra
                  have Cf_144 := Cf_131.other W135 ne_ex_ra
                  have Cf_145 := Cf_132.other W135 ne_nx_ra
                  have Cf_146 := Cf_133.other W135 ne_pv_ra
                  have O135 := O122.wr W135 g_ra
                  have zl135 := Nat.le_trans zl122 (Nat.le_of_eq W135.size.symm)
                  refine Own.dup 290 X135 hx (hb hby at_289) rfl rfl ?_
                  refine Own.iconst 291 X135 hx (Own.N 2) (hb hby at_290) rfl rfl ?_
                  refine Own.iload 293 X135 hx (hb hby at_291) rfl rfl ?_
                  refine Own.iconst 294 X135 hx (Own.N 2) (hb hby at_293) rfl rfl ?_
                  have J308 : ∀ (v9 : Int32) (hv : v9 = Own.N (own_rmO pi aa 2)) (Ty : State) (Ly : List Loc) (Xy : Stand p l e room_1 s m #[(.int x0), (.int x1), (.int x2), (.int x3), (.int x4), (.int x5)] below meth c Ty Ly 8 31) (ey : Ty.heap = h135) (Ny : Fr n0 Ly), Own.Ends p.tables e below (fun v h L => v = some (.int 1) ∧ Fr n0 L) (Own.FE s room_1.cells room_1.slots) (Ty.setTop (mkF m 308 #[.val (.int x0), .val (.int x1), .val (.int x2), .val (.int x3), .val (.int x4), .val (.int x5), .val (.int (Own.N (n))), .val (.ref pa), .val (.ref od), .val (.ref t), .val (.ref ex), .val (.int (Own.N (pi aa))), .val (.int (Own.N (own_rmO pi aa bq))), .val (.int (Own.N (aa))), .unset, .unset] [(.int v9), (.int (Own.N (2))), (.ref ra), (.ref ra)])) := by
                    intro v9 hv Ty Ly Xy ey Ny
                    subst hv
                    have rb0 := rb 0 (by omega)
                    have rb1 := rb 1 (by omega)
                    have rb2 := rb 2 (by omega)
                    refine Own.nStore 309 Xy hx hZ ey C135 (by omega) (hb hby at_308) rfl ?_
                    intro T148 h148 X148 e148 W148 C148
                    have N148 := Fr.snoc X148 Ny g_ra
                    have Ef_150 := Ef_137.wr W148
                    have Ff_151 := Ff_138.other W148 (Or.inl ne_t_ra)
                    have Ff_152 := Ff_139.other W148 (Or.inl ne_t_ra)
                    have Ff_153 := Ff_140.other W148 (Or.inl ne_t_ra)
                    have Ff_154 := Ff_141.other W148 (Or.inl ne_t_ra)
                    have Af_155 := Af_142.other W148 ne_lb_ra
                    have Cf_156 := Cf_143.other W148 ne_pa_ra
                    have Cf_157 := Cf_144.other W148 ne_ex_ra
                    have Cf_158 := Cf_145.other W148 ne_nx_ra
                    have Cf_159 := Cf_146.other W148 ne_pv_ra
                    have O148 := O135.wr W148 g_ra
                    have zl148 := Nat.le_trans zl135 (Nat.le_of_eq W148.size.symm)
                    refine Own.astore 311 #[.val (.int x0), .val (.int x1), .val (.int x2), .val (.int x3), .val (.int x4), .val (.int x5), .val (.int (Own.N (n))), .val (.ref pa), .val (.ref od), .val (.ref t), .val (.ref ex), .val (.int (Own.N (pi aa))), .val (.int (Own.N (own_rmO pi aa bq))), .val (.int (Own.N (aa))), .val (.ref ra), .unset] X148 hx (hb hby at_309) rfl rfl rfl ?_
                    refine Own.iload 313 X148 hx (hb hby at_311) rfl rfl ?_
                    refine Own.iconst 314 X148 hx ((-1 : Int32)) (hb hby at_313) rfl rfl ?_
                    have rq := rb bq (by omega)
                    refine Own.icmp_ne 321 317 X148 hx (hb hby at_314) (by decide) rfl (fun tk => ?_) (fun tk => absurd tk (Own.N_ne1 (by omega)))
                    refine Own.aload 323 X148 hx (hb hby at_321) rfl rfl rfl ?_
                    refine Own.iload 325 X148 hx (hb hby at_323) rfl rfl ?_
                    refine Own.callSt 328 0 [(.ref ra), (.int (Own.N (own_rmO pi aa bq)))] [] X148 hx hZ hown (m9 l Z a0 w ra (own_rmO pi aa bq) bq (own_rmO pi aa) _ _ C148 (fun k hk => by
                        rcases (by omega : k = 0 ∨ k = 1 ∨ k = 2) with rfl | rfl | rfl <;> rfl) (fun k hk => ⟨by have z9 := rb k hk; omega, trivial⟩) (by omega) (by omega) rfl (fun j hj z => by have z9 := (R3' j (by omega)).2 bq (by omega) z; omega)) (w 47 rfl) (w 48 rfl) (w 32 rfl) (w 49 rfl) (by decide) e148 (by decide) (by decide) (by decide) (by decide) (by rw [hml]; rfl) (lenOf pd_6 rfl) rfl (Nat.le_of_eq rfl) (hb hby at_325) rfl ?_
                    rintro vv T161 L161 X161 ⟨rfl, hh161, rfl⟩
                    have N161 := Fr.app N148 (Fr.nil _)
                    refine Own.iconst 329 X161 hx (Own.N 1) (hb hby at_328) rfl rfl ?_
                    refine Own.iadd 330 X161 hx (hb hby at_329) rfl (Own.N_add _ _) ?_
                    refine Own.istoreV 332 #[.val (.int x0), .val (.int x1), .val (.int x2), .val (.int x3), .val (.int x4), .val (.int x5), .val (.int (Own.N (n))), .val (.ref pa), .val (.ref od), .val (.ref t), .val (.ref ex), .val (.int (Own.N (pi aa))), .val (.int (Own.N (own_rmO pi aa bq))), .val (.int (Own.N (aa))), .val (.ref ra), .val (.int (Own.N (bq + 1)))] X161 hx (hb hby at_330) rfl rfl ?_
                    refine Own.aload 334 X161 hx (hb hby at_332) rfl rfl rfl ?_
                    refine Own.iconst 335 X161 hx (Own.N 0) (hb hby at_334) rfl rfl ?_
                    refine Own.aload 337 X161 hx (hb hby at_335) rfl rfl rfl ?_
                    refine Own.iconst 338 X161 hx (Own.N 0) (hb hby at_337) rfl rfl ?_
                    refine Own.iload 340 X161 hx (hb hby at_338) rfl rfl ?_
                    refine Own.iload 342 X161 hx (hb hby at_340) rfl rfl ?_
                    refine Own.callSt 345 2 [(.ref ra), (.int (Own.N (0))), (.int (Own.N (bq + 1))), (.int (Own.N (pi aa)))] [(.int (Own.N (0))), (.ref ex)] X161 hx hZ hown (m10 l Z a0 w ra 0 (bq + 1) (pi aa) (own_rmO pi aa) _ _ C148 (fun k hk => by
                        rcases (by omega : k = 0 ∨ k = 1 ∨ k = 2) with rfl | rfl | rfl <;> rfl) (by omega) (by omega)) (w 50 rfl) (w 51 rfl) (w 32 rfl) (w 52 rfl) (by decide) hh161 (by decide) (by decide) (by decide) (by decide) (by rw [hml]; rfl) (lenOf pd_7 rfl) rfl (Nat.le_of_eq rfl) (hb hby at_342) rfl ?_
                    rintro vv T162 L162 X162 ⟨rfl, hh162, rfl⟩
                    have N162 := Fr.app N161 (Fr.nil _)
                    refine Own.nStore 346 X162 hx hZ hh162 Cf_157 (by omega) (hb hby at_345) rfl ?_
                    intro T163 h163 X163 e163 W163 C163
                    have N163 := Fr.snoc X163 N162 g_ex
                    have Ef_165 := Ef_150.wr W163
                    have Ff_166 := Ff_151.other W163 (Or.inl ne_t_ex)
                    have Ff_167 := Ff_152.other W163 (Or.inl ne_t_ex)
                    have Ff_168 := Ff_153.other W163 (Or.inl ne_t_ex)
                    have Ff_169 := Ff_154.other W163 (Or.inl ne_t_ex)
                    have Af_170 := Af_155.other W163 ne_lb_ex
                    have Cf_171 := Cf_156.other W163 ne_pa_ex
                    have Cf_173 := Cf_158.other W163 ne_nx_ex
                    have Cf_174 := Cf_159.other W163 ne_pv_ex
                    have Cf_175 := C148.other W163 (Ne.symm ne_ex_ra)
                    have O163 := O148.wr W163 g_ex
                    have zl163 := Nat.le_trans zl148 (Nat.le_of_eq W163.size.symm)
                    refine Own.aload 348 X163 hx (hb hby at_346) rfl rfl rfl ?_
                    refine Own.iconst 349 X163 hx (Own.N 1) (hb hby at_348) rfl rfl ?_
                    refine Own.aload 351 X163 hx (hb hby at_349) rfl rfl rfl ?_
                    refine Own.iconst 352 X163 hx (Own.N 1) (hb hby at_351) rfl rfl ?_
                    refine Own.iload 354 X163 hx (hb hby at_352) rfl rfl ?_
                    refine Own.iload 356 X163 hx (hb hby at_354) rfl rfl ?_
                    refine Own.callSt 359 2 [(.ref ra), (.int (Own.N (1))), (.int (Own.N (bq + 1))), (.int (Own.N (pi aa)))] [(.int (Own.N (1))), (.ref ex)] X163 hx hZ hown (m10 l Z a0 w ra 1 (bq + 1) (pi aa) (own_rmO pi aa) _ _ Cf_175 (fun k hk => by
                        rcases (by omega : k = 0 ∨ k = 1 ∨ k = 2) with rfl | rfl | rfl <;> rfl) (by omega) (by omega)) (w 50 rfl) (w 51 rfl) (w 32 rfl) (w 52 rfl) (by decide) e163 (by decide) (by decide) (by decide) (by decide) (by rw [hml]; rfl) (lenOf pd_7 rfl) rfl (Nat.le_of_eq rfl) (hb hby at_356) rfl ?_
                    rintro vv T176 L176 X176 ⟨rfl, hh176, rfl⟩
                    have N176 := Fr.app N163 (Fr.nil _)
                    refine Own.nStore 360 X176 hx hZ hh176 C163 (by omega) (hb hby at_359) rfl ?_
                    intro T177 h177 X177 e177 W177 C177
                    have N177 := Fr.snoc X177 N176 g_ex
                    have Ef_179 := Ef_165.wr W177
                    have Ff_180 := Ff_166.other W177 (Or.inl ne_t_ex)
                    have Ff_181 := Ff_167.other W177 (Or.inl ne_t_ex)
                    have Ff_182 := Ff_168.other W177 (Or.inl ne_t_ex)
                    have Ff_183 := Ff_169.other W177 (Or.inl ne_t_ex)
                    have Af_184 := Af_170.other W177 ne_lb_ex
                    have Cf_185 := Cf_171.other W177 ne_pa_ex
                    have Cf_186 := Cf_173.other W177 ne_nx_ex
                    have Cf_187 := Cf_174.other W177 ne_pv_ex
                    have Cf_188 := Cf_175.other W177 (Ne.symm ne_ex_ra)
                    have O177 := O163.wr W177 g_ex
                    have zl177 := Nat.le_trans zl163 (Nat.le_of_eq W177.size.symm)
                    refine Own.aload 362 X177 hx (hb hby at_360) rfl rfl rfl ?_
                    refine Own.iconst 363 X177 hx (Own.N 2) (hb hby at_362) rfl rfl ?_
                    refine Own.aload 365 X177 hx (hb hby at_363) rfl rfl rfl ?_
                    refine Own.iconst 366 X177 hx (Own.N 2) (hb hby at_365) rfl rfl ?_
                    refine Own.iload 368 X177 hx (hb hby at_366) rfl rfl ?_
                    refine Own.iload 370 X177 hx (hb hby at_368) rfl rfl ?_
                    refine Own.callSt 373 2 [(.ref ra), (.int (Own.N (2))), (.int (Own.N (bq + 1))), (.int (Own.N (pi aa)))] [(.int (Own.N (2))), (.ref ex)] X177 hx hZ hown (m10 l Z a0 w ra 2 (bq + 1) (pi aa) (own_rmO pi aa) _ _ Cf_188 (fun k hk => by
                        rcases (by omega : k = 0 ∨ k = 1 ∨ k = 2) with rfl | rfl | rfl <;> rfl) (by omega) (by omega)) (w 50 rfl) (w 51 rfl) (w 32 rfl) (w 52 rfl) (by decide) e177 (by decide) (by decide) (by decide) (by decide) (by rw [hml]; rfl) (lenOf pd_7 rfl) rfl (Nat.le_of_eq rfl) (hb hby at_370) rfl ?_
                    rintro vv T190 L190 X190 ⟨rfl, hh190, rfl⟩
                    have N190 := Fr.app N177 (Fr.nil _)
                    refine Own.nStore 374 X190 hx hZ hh190 C177 (by omega) (hb hby at_373) rfl ?_
                    intro T191 h191 X191 e191 W191 C191
                    have N191 := Fr.snoc X191 N190 g_ex
                    have Ef_193 := Ef_179.wr W191
                    have Ff_194 := Ff_180.other W191 (Or.inl ne_t_ex)
                    have Ff_195 := Ff_181.other W191 (Or.inl ne_t_ex)
                    have Ff_196 := Ff_182.other W191 (Or.inl ne_t_ex)
                    have Ff_197 := Ff_183.other W191 (Or.inl ne_t_ex)
                    have Af_198 := Af_184.other W191 ne_lb_ex
                    have Cf_199 := Cf_185.other W191 ne_pa_ex
                    have Cf_200 := Cf_186.other W191 ne_nx_ex
                    have Cf_201 := Cf_187.other W191 ne_pv_ex
                    have Cf_202 := Cf_188.other W191 (Ne.symm ne_ex_ra)
                    have O191 := O177.wr W191 g_ex
                    have zl191 := Nat.le_trans zl177 (Nat.le_of_eq W191.size.symm)
                    refine Own.aload 376 X191 hx (hb hby at_374) rfl rfl rfl ?_
                    refine Own.iconst 377 X191 hx (Own.N 3) (hb hby at_376) rfl rfl ?_
                    refine Own.aload 379 X191 hx (hb hby at_377) rfl rfl rfl ?_
                    refine Own.iconst 380 X191 hx (Own.N 3) (hb hby at_379) rfl rfl ?_
                    refine Own.iload 382 X191 hx (hb hby at_380) rfl rfl ?_
                    refine Own.iload 384 X191 hx (hb hby at_382) rfl rfl ?_
                    refine Own.callSt 387 2 [(.ref ra), (.int (Own.N (3))), (.int (Own.N (bq + 1))), (.int (Own.N (pi aa)))] [(.int (Own.N (3))), (.ref ex)] X191 hx hZ hown (m10 l Z a0 w ra 3 (bq + 1) (pi aa) (own_rmO pi aa) _ _ Cf_202 (fun k hk => by
                        rcases (by omega : k = 0 ∨ k = 1 ∨ k = 2) with rfl | rfl | rfl <;> rfl) (by omega) (by omega)) (w 50 rfl) (w 51 rfl) (w 32 rfl) (w 52 rfl) (by decide) e191 (by decide) (by decide) (by decide) (by decide) (by rw [hml]; rfl) (lenOf pd_7 rfl) rfl (Nat.le_of_eq rfl) (hb hby at_384) rfl ?_
                    rintro vv T204 L204 X204 ⟨rfl, hh204, rfl⟩
                    have N204 := Fr.app N191 (Fr.nil _)
                    refine Own.nStore 388 X204 hx hZ hh204 C191 (by omega) (hb hby at_387) rfl ?_
                    intro T205 h205 X205 e205 W205 C205
                    have N205 := Fr.snoc X205 N204 g_ex
                    have Ef_207 := Ef_193.wr W205
                    have Ff_208 := Ff_194.other W205 (Or.inl ne_t_ex)
                    have Ff_209 := Ff_195.other W205 (Or.inl ne_t_ex)
                    have Ff_210 := Ff_196.other W205 (Or.inl ne_t_ex)
                    have Ff_211 := Ff_197.other W205 (Or.inl ne_t_ex)
                    have Af_212 := Af_198.other W205 ne_lb_ex
                    have Cf_213 := Cf_199.other W205 ne_pa_ex
                    have Cf_214 := Cf_200.other W205 ne_nx_ex
                    have Cf_215 := Cf_201.other W205 ne_pv_ex
                    have Cf_216 := Cf_202.other W205 (Ne.symm ne_ex_ra)
                    have O205 := O191.wr W205 g_ex
                    have zl205 := Nat.le_trans zl191 (Nat.le_of_eq W205.size.symm)
                    exact K388m (own_inO (own_rmO pi aa) (bq + 1) (pi aa)) _ _ _ _ _ _ _ _ (Or.inr ⟨_, rfl⟩) LL1 OE (fun k hk => by
                        rcases (by omega : k = 0 ∨ k = 1 ∨ k = 2 ∨ k = 3) with rfl | rfl | rfl | rfl <;> rfl) _ _ _ X205 e205 N205 zl205 O205 C205 ⟨Ef_207, Ff_208, Ff_209, Ff_210, Ff_211, Cf_214, Cf_215, Af_212⟩
                  refine Own.nicmp_le 304 297 X135 hx (hb hby at_294) (by decide) rfl (by omega) (by omega) (fun c2 => ?_) (fun c2 => ?_)
                  ·
                    refine Own.aload 306 X135 hx (hb hby at_304) rfl rfl rfl ?_
                    refine Own.iconst 307 X135 hx (Own.N 3) (hb hby at_306) rfl rfl ?_
                    refine Own.nLoad 308 (Own.N (pi 3)) X135 hx hZ e135 Cf_143 (by omega) (hp 3 (by omega)) (hb hby at_307) rfl ?_
                    exact J308 _ (by rw [own_rm_ge (by omega)]) _ _ X135 e135 N135
                  ·
                    refine Own.aload 299 X135 hx (hb hby at_297) rfl rfl rfl ?_
                    refine Own.iconst 300 X135 hx (Own.N 2) (hb hby at_299) rfl rfl ?_
                    refine Own.nLoad 301 (Own.N (pi 2)) X135 hx hZ e135 Cf_143 (by omega) (hp 2 (by omega)) (hb hby at_300) rfl ?_
                    refine Own.goto 308 X135 hx (hb hby at_301) (by decide) ?_
                    exact J308 _ (by rw [own_rm_lt (by omega)]) _ _ X135 e135 N135
                refine Own.nicmp_le 284 277 X122 hx (hb hby at_274) (by decide) rfl (by omega) (by omega) (fun c1 => ?_) (fun c1 => ?_)
                ·
                  refine Own.aload 286 X122 hx (hb hby at_284) rfl rfl rfl ?_
                  refine Own.iconst 287 X122 hx (Own.N 2) (hb hby at_286) rfl rfl ?_
                  refine Own.nLoad 288 (Own.N (pi 2)) X122 hx hZ e122 Cf_130 (by omega) (hp 2 (by omega)) (hb hby at_287) rfl ?_
                  exact J288 _ (by rw [own_rm_ge (by omega)]) _ _ X122 e122 N122
                ·
                  refine Own.aload 279 X122 hx (hb hby at_277) rfl rfl rfl ?_
                  refine Own.iconst 280 X122 hx (Own.N 1) (hb hby at_279) rfl rfl ?_
                  refine Own.nLoad 281 (Own.N (pi 1)) X122 hx hZ e122 Cf_130 (by omega) (hp 1 (by omega)) (hb hby at_280) rfl ?_
                  refine Own.goto 288 X122 hx (hb hby at_281) (by decide) ?_
                  exact J288 _ (by rw [own_rm_lt (by omega)]) _ _ X122 e122 N122
              refine Own.nif_le 264 257 X110 hx (hb hby at_254) (by decide) rfl (by omega) (fun c0 => ?_) (fun c0 => ?_)
              ·
                refine Own.aload 266 X110 hx (hb hby at_264) rfl rfl rfl ?_
                refine Own.iconst 267 X110 hx (Own.N 1) (hb hby at_266) rfl rfl ?_
                refine Own.nLoad 268 (Own.N (pi 1)) X110 hx hZ e110 Cf_118 (by omega) (hp 1 (by omega)) (hb hby at_267) rfl ?_
                exact J268 _ (by rw [own_rm_ge (by omega)]) _ _ X110 e110 N109
              ·
                refine Own.aload 259 X110 hx (hb hby at_257) rfl rfl rfl ?_
                refine Own.iconst 260 X110 hx (Own.N 0) (hb hby at_259) rfl rfl ?_
                refine Own.nLoad 261 (Own.N (pi 0)) X110 hx hZ e110 Cf_118 (by omega) (hp 0 (by omega)) (hb hby at_260) rfl ?_
                refine Own.goto 268 X110 hx (hb hby at_261) (by decide) ?_
                exact J268 _ (by rw [own_rm_lt (by omega)]) _ _ X110 e110 N109
            ·
              refine Own.iconst 227 X77 hx ((-1 : Int32)) (hb hby at_226) rfl rfl ?_
              refine Own.istoreV 229 #[.val (.int x0), .val (.int x1), .val (.int x2), .val (.int x3), .val (.int x4), .val (.int x5), .val (.int (Own.N (n))), .val (.ref pa), .val (.ref od), .val (.ref t), .val (.ref ex), .val (.int (Own.N (pi aa))), .val (.int (-1 : Int32)), .unset, .unset, .unset] X77 hx (hb hby at_227) rfl rfl ?_
              refine Own.aload 231 X77 hx (hb hby at_229) rfl rfl rfl ?_
              refine Own.iload 233 X77 hx (hb hby at_231) rfl rfl ?_
              refine Own.iload 235 X77 hx (hb hby at_233) rfl rfl ?_
              obtain ⟨R3, Rx⟩ := own_rm_Or P4 (q0 := aa) (by omega)
              have R3' : own_Or 3 4 (own_rmO pi aa) := R3
              have rb := fun k hk => (R3' k hk).1
              refine Own.callVt 238 0 t [(.int (Own.N (pi aa))), (.int (-1 : Int32))] [] X77 hx hZ hown (m6_0 l Z a0 w t nx pv lb room kr n n0 pi _ _ aa  _ zl77 O77 SR VR D01 ⟨Ef_79, Ff_80, Ff_81, Ff_82, Ff_83, Cf_86, Cf_87, Af_84⟩ LLk ON bn ha) Ef_79 (notFace_of_selects (args := #[]) (mvT hZ (w 37 rfl))) (w 34 rfl) (w 35 rfl) (w 37 rfl) (w 36 rfl) (w 3 rfl) (w 38 rfl) (by decide) e77 (by decide) (by decide) (by decide) (by decide) (by rw [hml]; rfl) (lenOf pd_5 rfl) rfl (Nat.le_of_eq rfl) (hb hby at_235) rfl ?_
              rintro vv T218 L218 X218 ⟨rfl, N218q, K218, gN1, gP1, S218, LL1, OE⟩
              have N218 := Fr.app N77 N218q
              have O218 := O77.keep K218 (allS g_t (allS g_nx (allS g_pv (allS g_lb all0))))
              have Ef_220 := Ef_79.keep K218
              have Cf_226 := Cf_85.keep K218 (ninS ne_pa_t (ninS ne_pa_nx (ninS ne_pa_pv (ninS ne_pa_lb nin0))))
              have Cf_229 := C77.keep K218 (ninS (Ne.symm ne_t_ex) (ninS (Ne.symm ne_nx_ex) (ninS (Ne.symm ne_pv_ex) (ninS (Ne.symm ne_lb_ex) nin0))))
              have zl218 := Nat.le_trans zl77 K218.1
              obtain ⟨E_218, Fne_218, Fpr_218, Fla_218, Ffi_218, Cnx_218, Cpv_218, Alb_218⟩ := S218
              refine Own.aload 240 X218 hx (hb hby at_238) rfl rfl rfl ?_
              refine Own.iload 242 X218 hx (hb hby at_240) rfl rfl ?_
              refine Own.callSt 245 0 [(.ref pa), (.int (Own.N (pi aa)))] [] X218 hx hZ hown (m8 l Z a0 w pa (pi aa) aa pi fp _ Cf_226 hp (fun k hk => ⟨by have z9 := pb k hk; omega, trivial⟩) (by omega) (by omega) rfl (fun j hj z => by have z9 := (P4 j (by omega)).2 aa (by omega) z; omega)) (w 44 rfl) (w 45 rfl) (w 32 rfl) (w 46 rfl) (by decide) rfl (by decide) (by decide) (by decide) (by decide) (by rw [hml]; rfl) (lenOf pd_6 rfl) rfl (Nat.le_of_eq rfl) (hb hby at_242) rfl ?_
              rintro vv T230 L230 X230 ⟨rfl, hh230, rfl⟩
              have N230 := Fr.app N218 (Fr.nil _)
              refine Own.istoreV 247 #[.val (.int x0), .val (.int x1), .val (.int x2), .val (.int x3), .val (.int x4), .val (.int x5), .val (.int (Own.N (n))), .val (.ref pa), .val (.ref od), .val (.ref t), .val (.ref ex), .val (.int (Own.N (pi aa))), .val (.int (-1 : Int32)), .val (.int (Own.N (aa))), .unset, .unset] X230 hx (hb hby at_245) rfl rfl ?_
              refine Own.iconst 248 X230 hx (Own.N 3) (hb hby at_247) rfl rfl ?_
              refine Own.nNew 250 3 X230 hx hZ (w 0 rfl) hh230 (by omega) (by decide) (hb hby at_248) rfl (by decide) (by decide) ?_
              intro T231 h231 ra z231 X231 e231 E231 C231
              have ne_ex_ra : ex ≠ ra := Nat.ne_of_lt (Nat.lt_of_lt_of_le Cf_229.lt (Nat.le_of_eq z231.symm))
              have ne_lb_ra : lb ≠ ra := Nat.ne_of_lt (Nat.lt_of_lt_of_le Alb_218.lt (Nat.le_of_eq z231.symm))
              have ne_nx_ra : nx ≠ ra := Nat.ne_of_lt (Nat.lt_of_lt_of_le Cnx_218.lt (Nat.le_of_eq z231.symm))
              have ne_pa_ra : pa ≠ ra := Nat.ne_of_lt (Nat.lt_of_lt_of_le Cf_226.lt (Nat.le_of_eq z231.symm))
              have ne_pv_ra : pv ≠ ra := Nat.ne_of_lt (Nat.lt_of_lt_of_le Cpv_218.lt (Nat.le_of_eq z231.symm))
              have ne_t_ra : t ≠ ra := Nat.ne_of_lt (Nat.lt_of_lt_of_le E_218.lt (Nat.le_of_eq z231.symm))
              have g_ra : n0 ≤ ra := Nat.le_trans zl218 (Nat.le_of_eq z231.symm)
              have Ef_233 := E_218.ext E231
              have Ff_234 := Fne_218.ext E231
              have Ff_235 := Fpr_218.ext E231
              have Ff_236 := Fla_218.ext E231
              have Ff_237 := Ffi_218.ext E231
              have Af_238 := Alb_218.ext E231
              have Cf_239 := Cf_226.ext E231
              have Cf_240 := Cf_229.ext E231
              have Cf_241 := Cnx_218.ext E231
              have Cf_242 := Cpv_218.ext E231
              have O231 := O218.ext E231
              have zl231 := Nat.le_trans zl218 E231.1
              have q8 := pb 0 (by omega)
              have q7 := pb 1 (by omega)
              refine Own.dup 251 X231 hx (hb hby at_250) rfl rfl ?_
              refine Own.iconst 252 X231 hx (Own.N 0) (hb hby at_251) rfl rfl ?_
              refine Own.iload 254 X231 hx (hb hby at_252) rfl rfl ?_
              have J268 : ∀ (v9 : Int32) (hv : v9 = Own.N (own_rmO pi aa 0)) (Ty : State) (Ly : List Loc) (Xy : Stand p l e room_1 s m #[(.int x0), (.int x1), (.int x2), (.int x3), (.int x4), (.int x5)] below meth c Ty Ly 8 31) (ey : Ty.heap = h231) (Ny : Fr n0 Ly), Own.Ends p.tables e below (fun v h L => v = some (.int 1) ∧ Fr n0 L) (Own.FE s room_1.cells room_1.slots) (Ty.setTop (mkF m 268 #[.val (.int x0), .val (.int x1), .val (.int x2), .val (.int x3), .val (.int x4), .val (.int x5), .val (.int (Own.N (n))), .val (.ref pa), .val (.ref od), .val (.ref t), .val (.ref ex), .val (.int (Own.N (pi aa))), .val (.int (-1 : Int32)), .val (.int (Own.N (aa))), .unset, .unset] [(.int v9), (.int (Own.N (0))), (.ref ra), (.ref ra)])) := by
                intro v9 hv Ty Ly Xy ey Ny
                subst hv
                have q8 := pb 1 (by omega)
                have q7 := pb 2 (by omega)
                refine Own.nStore 269 Xy hx hZ ey C231 (by omega) (hb hby at_268) rfl ?_
                intro T243 h243 X243 e243 W243 C243
                have N243 := Fr.snoc X243 Ny g_ra
                have Ef_245 := Ef_233.wr W243
                have Ff_246 := Ff_234.other W243 (Or.inl ne_t_ra)
                have Ff_247 := Ff_235.other W243 (Or.inl ne_t_ra)
                have Ff_248 := Ff_236.other W243 (Or.inl ne_t_ra)
                have Ff_249 := Ff_237.other W243 (Or.inl ne_t_ra)
                have Af_250 := Af_238.other W243 ne_lb_ra
                have Cf_251 := Cf_239.other W243 ne_pa_ra
                have Cf_252 := Cf_240.other W243 ne_ex_ra
                have Cf_253 := Cf_241.other W243 ne_nx_ra
                have Cf_254 := Cf_242.other W243 ne_pv_ra
                have O243 := O231.wr W243 g_ra
                have zl243 := Nat.le_trans zl231 (Nat.le_of_eq W243.size.symm)
                refine Own.dup 270 X243 hx (hb hby at_269) rfl rfl ?_
                refine Own.iconst 271 X243 hx (Own.N 1) (hb hby at_270) rfl rfl ?_
                refine Own.iload 273 X243 hx (hb hby at_271) rfl rfl ?_
                refine Own.iconst 274 X243 hx (Own.N 1) (hb hby at_273) rfl rfl ?_
                have J288 : ∀ (v9 : Int32) (hv : v9 = Own.N (own_rmO pi aa 1)) (Ty : State) (Ly : List Loc) (Xy : Stand p l e room_1 s m #[(.int x0), (.int x1), (.int x2), (.int x3), (.int x4), (.int x5)] below meth c Ty Ly 8 31) (ey : Ty.heap = h243) (Ny : Fr n0 Ly), Own.Ends p.tables e below (fun v h L => v = some (.int 1) ∧ Fr n0 L) (Own.FE s room_1.cells room_1.slots) (Ty.setTop (mkF m 288 #[.val (.int x0), .val (.int x1), .val (.int x2), .val (.int x3), .val (.int x4), .val (.int x5), .val (.int (Own.N (n))), .val (.ref pa), .val (.ref od), .val (.ref t), .val (.ref ex), .val (.int (Own.N (pi aa))), .val (.int (-1 : Int32)), .val (.int (Own.N (aa))), .unset, .unset] [(.int v9), (.int (Own.N (1))), (.ref ra), (.ref ra)])) := by
                  intro v9 hv Ty Ly Xy ey Ny
                  subst hv
                  have q8 := pb 2 (by omega)
                  have q7 := pb 3 (by omega)
                  refine Own.nStore 289 Xy hx hZ ey C243 (by omega) (hb hby at_288) rfl ?_
                  intro T256 h256 X256 e256 W256 C256
                  have N256 := Fr.snoc X256 Ny g_ra
                  have Ef_258 := Ef_245.wr W256
                  have Ff_259 := Ff_246.other W256 (Or.inl ne_t_ra)
                  have Ff_260 := Ff_247.other W256 (Or.inl ne_t_ra)
                  have Ff_261 := Ff_248.other W256 (Or.inl ne_t_ra)
                  have Ff_262 := Ff_249.other W256 (Or.inl ne_t_ra)
                  have Af_263 := Af_250.other W256 ne_lb_ra
                  have Cf_264 := Cf_251.other W256 ne_pa_ra
                  have Cf_265 := Cf_252.other W256 ne_ex_ra
                  have Cf_266 := Cf_253.other W256 ne_nx_ra
                  have Cf_267 := Cf_254.other W256 ne_pv_ra
                  have O256 := O243.wr W256 g_ra
                  have zl256 := Nat.le_trans zl243 (Nat.le_of_eq W256.size.symm)
                  refine Own.dup 290 X256 hx (hb hby at_289) rfl rfl ?_
                  refine Own.iconst 291 X256 hx (Own.N 2) (hb hby at_290) rfl rfl ?_
                  refine Own.iload 293 X256 hx (hb hby at_291) rfl rfl ?_
                  refine Own.iconst 294 X256 hx (Own.N 2) (hb hby at_293) rfl rfl ?_
                  have J308 : ∀ (v9 : Int32) (hv : v9 = Own.N (own_rmO pi aa 2)) (Ty : State) (Ly : List Loc) (Xy : Stand p l e room_1 s m #[(.int x0), (.int x1), (.int x2), (.int x3), (.int x4), (.int x5)] below meth c Ty Ly 8 31) (ey : Ty.heap = h256) (Ny : Fr n0 Ly), Own.Ends p.tables e below (fun v h L => v = some (.int 1) ∧ Fr n0 L) (Own.FE s room_1.cells room_1.slots) (Ty.setTop (mkF m 308 #[.val (.int x0), .val (.int x1), .val (.int x2), .val (.int x3), .val (.int x4), .val (.int x5), .val (.int (Own.N (n))), .val (.ref pa), .val (.ref od), .val (.ref t), .val (.ref ex), .val (.int (Own.N (pi aa))), .val (.int (-1 : Int32)), .val (.int (Own.N (aa))), .unset, .unset] [(.int v9), (.int (Own.N (2))), (.ref ra), (.ref ra)])) := by
                    intro v9 hv Ty Ly Xy ey Ny
                    subst hv
                    have rb0 := rb 0 (by omega)
                    have rb1 := rb 1 (by omega)
                    have rb2 := rb 2 (by omega)
                    refine Own.nStore 309 Xy hx hZ ey C256 (by omega) (hb hby at_308) rfl ?_
                    intro T269 h269 X269 e269 W269 C269
                    have N269 := Fr.snoc X269 Ny g_ra
                    have Ef_271 := Ef_258.wr W269
                    have Ff_272 := Ff_259.other W269 (Or.inl ne_t_ra)
                    have Ff_273 := Ff_260.other W269 (Or.inl ne_t_ra)
                    have Ff_274 := Ff_261.other W269 (Or.inl ne_t_ra)
                    have Ff_275 := Ff_262.other W269 (Or.inl ne_t_ra)
                    have Af_276 := Af_263.other W269 ne_lb_ra
                    have Cf_277 := Cf_264.other W269 ne_pa_ra
                    have Cf_278 := Cf_265.other W269 ne_ex_ra
                    have Cf_279 := Cf_266.other W269 ne_nx_ra
                    have Cf_280 := Cf_267.other W269 ne_pv_ra
                    have O269 := O256.wr W269 g_ra
                    have zl269 := Nat.le_trans zl256 (Nat.le_of_eq W269.size.symm)
                    refine Own.astore 311 #[.val (.int x0), .val (.int x1), .val (.int x2), .val (.int x3), .val (.int x4), .val (.int x5), .val (.int (Own.N (n))), .val (.ref pa), .val (.ref od), .val (.ref t), .val (.ref ex), .val (.int (Own.N (pi aa))), .val (.int (-1 : Int32)), .val (.int (Own.N (aa))), .val (.ref ra), .unset] X269 hx (hb hby at_309) rfl rfl rfl ?_
                    refine Own.iload 313 X269 hx (hb hby at_311) rfl rfl ?_
                    refine Own.iconst 314 X269 hx ((-1 : Int32)) (hb hby at_313) rfl rfl ?_
                    refine Own.icmp_ne 321 317 X269 hx (hb hby at_314) (by decide) rfl (fun tk => absurd rfl tk) (fun tk => ?_)
                    refine Own.iconst 318 X269 hx (Own.N 0) (hb hby at_317) rfl rfl ?_
                    refine Own.goto 330 X269 hx (hb hby at_318) (by decide) ?_
                    refine Own.istoreV 332 #[.val (.int x0), .val (.int x1), .val (.int x2), .val (.int x3), .val (.int x4), .val (.int x5), .val (.int (Own.N (n))), .val (.ref pa), .val (.ref od), .val (.ref t), .val (.ref ex), .val (.int (Own.N (pi aa))), .val (.int (-1 : Int32)), .val (.int (Own.N (aa))), .val (.ref ra), .val (.int (Own.N (0)))] X269 hx (hb hby at_330) rfl rfl ?_
                    refine Own.aload 334 X269 hx (hb hby at_332) rfl rfl rfl ?_
                    refine Own.iconst 335 X269 hx (Own.N 0) (hb hby at_334) rfl rfl ?_
                    refine Own.aload 337 X269 hx (hb hby at_335) rfl rfl rfl ?_
                    refine Own.iconst 338 X269 hx (Own.N 0) (hb hby at_337) rfl rfl ?_
                    refine Own.iload 340 X269 hx (hb hby at_338) rfl rfl ?_
                    refine Own.iload 342 X269 hx (hb hby at_340) rfl rfl ?_
                    refine Own.callSt 345 2 [(.ref ra), (.int (Own.N (0))), (.int (Own.N (0))), (.int (Own.N (pi aa)))] [(.int (Own.N (0))), (.ref ex)] X269 hx hZ hown (m10 l Z a0 w ra 0 0 (pi aa) (own_rmO pi aa) _ _ C269 (fun k hk => by
                        rcases (by omega : k = 0 ∨ k = 1 ∨ k = 2) with rfl | rfl | rfl <;> rfl) (by omega) (by omega)) (w 50 rfl) (w 51 rfl) (w 32 rfl) (w 52 rfl) (by decide) e269 (by decide) (by decide) (by decide) (by decide) (by rw [hml]; rfl) (lenOf pd_7 rfl) rfl (Nat.le_of_eq rfl) (hb hby at_342) rfl ?_
                    rintro vv T282 L282 X282 ⟨rfl, hh282, rfl⟩
                    have N282 := Fr.app N269 (Fr.nil _)
                    refine Own.nStore 346 X282 hx hZ hh282 Cf_278 (by omega) (hb hby at_345) rfl ?_
                    intro T283 h283 X283 e283 W283 C283
                    have N283 := Fr.snoc X283 N282 g_ex
                    have Ef_285 := Ef_271.wr W283
                    have Ff_286 := Ff_272.other W283 (Or.inl ne_t_ex)
                    have Ff_287 := Ff_273.other W283 (Or.inl ne_t_ex)
                    have Ff_288 := Ff_274.other W283 (Or.inl ne_t_ex)
                    have Ff_289 := Ff_275.other W283 (Or.inl ne_t_ex)
                    have Af_290 := Af_276.other W283 ne_lb_ex
                    have Cf_291 := Cf_277.other W283 ne_pa_ex
                    have Cf_293 := Cf_279.other W283 ne_nx_ex
                    have Cf_294 := Cf_280.other W283 ne_pv_ex
                    have Cf_295 := C269.other W283 (Ne.symm ne_ex_ra)
                    have O283 := O269.wr W283 g_ex
                    have zl283 := Nat.le_trans zl269 (Nat.le_of_eq W283.size.symm)
                    refine Own.aload 348 X283 hx (hb hby at_346) rfl rfl rfl ?_
                    refine Own.iconst 349 X283 hx (Own.N 1) (hb hby at_348) rfl rfl ?_
                    refine Own.aload 351 X283 hx (hb hby at_349) rfl rfl rfl ?_
                    refine Own.iconst 352 X283 hx (Own.N 1) (hb hby at_351) rfl rfl ?_
                    refine Own.iload 354 X283 hx (hb hby at_352) rfl rfl ?_
                    refine Own.iload 356 X283 hx (hb hby at_354) rfl rfl ?_
                    refine Own.callSt 359 2 [(.ref ra), (.int (Own.N (1))), (.int (Own.N (0))), (.int (Own.N (pi aa)))] [(.int (Own.N (1))), (.ref ex)] X283 hx hZ hown (m10 l Z a0 w ra 1 0 (pi aa) (own_rmO pi aa) _ _ Cf_295 (fun k hk => by
                        rcases (by omega : k = 0 ∨ k = 1 ∨ k = 2) with rfl | rfl | rfl <;> rfl) (by omega) (by omega)) (w 50 rfl) (w 51 rfl) (w 32 rfl) (w 52 rfl) (by decide) e283 (by decide) (by decide) (by decide) (by decide) (by rw [hml]; rfl) (lenOf pd_7 rfl) rfl (Nat.le_of_eq rfl) (hb hby at_356) rfl ?_
                    rintro vv T296 L296 X296 ⟨rfl, hh296, rfl⟩
                    have N296 := Fr.app N283 (Fr.nil _)
                    refine Own.nStore 360 X296 hx hZ hh296 C283 (by omega) (hb hby at_359) rfl ?_
                    intro T297 h297 X297 e297 W297 C297
                    have N297 := Fr.snoc X297 N296 g_ex
                    have Ef_299 := Ef_285.wr W297
                    have Ff_300 := Ff_286.other W297 (Or.inl ne_t_ex)
                    have Ff_301 := Ff_287.other W297 (Or.inl ne_t_ex)
                    have Ff_302 := Ff_288.other W297 (Or.inl ne_t_ex)
                    have Ff_303 := Ff_289.other W297 (Or.inl ne_t_ex)
                    have Af_304 := Af_290.other W297 ne_lb_ex
                    have Cf_305 := Cf_291.other W297 ne_pa_ex
                    have Cf_306 := Cf_293.other W297 ne_nx_ex
                    have Cf_307 := Cf_294.other W297 ne_pv_ex
                    have Cf_308 := Cf_295.other W297 (Ne.symm ne_ex_ra)
                    have O297 := O283.wr W297 g_ex
                    have zl297 := Nat.le_trans zl283 (Nat.le_of_eq W297.size.symm)
                    refine Own.aload 362 X297 hx (hb hby at_360) rfl rfl rfl ?_
                    refine Own.iconst 363 X297 hx (Own.N 2) (hb hby at_362) rfl rfl ?_
                    refine Own.aload 365 X297 hx (hb hby at_363) rfl rfl rfl ?_
                    refine Own.iconst 366 X297 hx (Own.N 2) (hb hby at_365) rfl rfl ?_
                    refine Own.iload 368 X297 hx (hb hby at_366) rfl rfl ?_
                    refine Own.iload 370 X297 hx (hb hby at_368) rfl rfl ?_
                    refine Own.callSt 373 2 [(.ref ra), (.int (Own.N (2))), (.int (Own.N (0))), (.int (Own.N (pi aa)))] [(.int (Own.N (2))), (.ref ex)] X297 hx hZ hown (m10 l Z a0 w ra 2 0 (pi aa) (own_rmO pi aa) _ _ Cf_308 (fun k hk => by
                        rcases (by omega : k = 0 ∨ k = 1 ∨ k = 2) with rfl | rfl | rfl <;> rfl) (by omega) (by omega)) (w 50 rfl) (w 51 rfl) (w 32 rfl) (w 52 rfl) (by decide) e297 (by decide) (by decide) (by decide) (by decide) (by rw [hml]; rfl) (lenOf pd_7 rfl) rfl (Nat.le_of_eq rfl) (hb hby at_370) rfl ?_
                    rintro vv T310 L310 X310 ⟨rfl, hh310, rfl⟩
                    have N310 := Fr.app N297 (Fr.nil _)
                    refine Own.nStore 374 X310 hx hZ hh310 C297 (by omega) (hb hby at_373) rfl ?_
                    intro T311 h311 X311 e311 W311 C311
                    have N311 := Fr.snoc X311 N310 g_ex
                    have Ef_313 := Ef_299.wr W311
                    have Ff_314 := Ff_300.other W311 (Or.inl ne_t_ex)
                    have Ff_315 := Ff_301.other W311 (Or.inl ne_t_ex)
                    have Ff_316 := Ff_302.other W311 (Or.inl ne_t_ex)
                    have Ff_317 := Ff_303.other W311 (Or.inl ne_t_ex)
                    have Af_318 := Af_304.other W311 ne_lb_ex
                    have Cf_319 := Cf_305.other W311 ne_pa_ex
                    have Cf_320 := Cf_306.other W311 ne_nx_ex
                    have Cf_321 := Cf_307.other W311 ne_pv_ex
                    have Cf_322 := Cf_308.other W311 (Ne.symm ne_ex_ra)
                    have O311 := O297.wr W311 g_ex
                    have zl311 := Nat.le_trans zl297 (Nat.le_of_eq W311.size.symm)
                    refine Own.aload 376 X311 hx (hb hby at_374) rfl rfl rfl ?_
                    refine Own.iconst 377 X311 hx (Own.N 3) (hb hby at_376) rfl rfl ?_
                    refine Own.aload 379 X311 hx (hb hby at_377) rfl rfl rfl ?_
                    refine Own.iconst 380 X311 hx (Own.N 3) (hb hby at_379) rfl rfl ?_
                    refine Own.iload 382 X311 hx (hb hby at_380) rfl rfl ?_
                    refine Own.iload 384 X311 hx (hb hby at_382) rfl rfl ?_
                    refine Own.callSt 387 2 [(.ref ra), (.int (Own.N (3))), (.int (Own.N (0))), (.int (Own.N (pi aa)))] [(.int (Own.N (3))), (.ref ex)] X311 hx hZ hown (m10 l Z a0 w ra 3 0 (pi aa) (own_rmO pi aa) _ _ Cf_322 (fun k hk => by
                        rcases (by omega : k = 0 ∨ k = 1 ∨ k = 2) with rfl | rfl | rfl <;> rfl) (by omega) (by omega)) (w 50 rfl) (w 51 rfl) (w 32 rfl) (w 52 rfl) (by decide) e311 (by decide) (by decide) (by decide) (by decide) (by rw [hml]; rfl) (lenOf pd_7 rfl) rfl (Nat.le_of_eq rfl) (hb hby at_384) rfl ?_
                    rintro vv T324 L324 X324 ⟨rfl, hh324, rfl⟩
                    have N324 := Fr.app N311 (Fr.nil _)
                    refine Own.nStore 388 X324 hx hZ hh324 C311 (by omega) (hb hby at_387) rfl ?_
                    intro T325 h325 X325 e325 W325 C325
                    have N325 := Fr.snoc X325 N324 g_ex
                    have Ef_327 := Ef_313.wr W325
                    have Ff_328 := Ff_314.other W325 (Or.inl ne_t_ex)
                    have Ff_329 := Ff_315.other W325 (Or.inl ne_t_ex)
                    have Ff_330 := Ff_316.other W325 (Or.inl ne_t_ex)
                    have Ff_331 := Ff_317.other W325 (Or.inl ne_t_ex)
                    have Af_332 := Af_318.other W325 ne_lb_ex
                    have Cf_333 := Cf_319.other W325 ne_pa_ex
                    have Cf_334 := Cf_320.other W325 ne_nx_ex
                    have Cf_335 := Cf_321.other W325 ne_pv_ex
                    have Cf_336 := Cf_322.other W325 (Ne.symm ne_ex_ra)
                    have O325 := O311.wr W325 g_ex
                    have zl325 := Nat.le_trans zl311 (Nat.le_of_eq W325.size.symm)
                    exact K388m (own_inO (own_rmO pi aa) 0 (pi aa)) _ _ _ _ _ _ _ _ (Or.inr ⟨_, rfl⟩) LL1 OE (fun k hk => by
                        rcases (by omega : k = 0 ∨ k = 1 ∨ k = 2 ∨ k = 3) with rfl | rfl | rfl | rfl <;> rfl) _ _ _ X325 e325 N325 zl325 O325 C325 ⟨Ef_327, Ff_328, Ff_329, Ff_330, Ff_331, Cf_334, Cf_335, Af_332⟩
                  refine Own.nicmp_le 304 297 X256 hx (hb hby at_294) (by decide) rfl (by omega) (by omega) (fun c2 => ?_) (fun c2 => ?_)
                  ·
                    refine Own.aload 306 X256 hx (hb hby at_304) rfl rfl rfl ?_
                    refine Own.iconst 307 X256 hx (Own.N 3) (hb hby at_306) rfl rfl ?_
                    refine Own.nLoad 308 (Own.N (pi 3)) X256 hx hZ e256 Cf_264 (by omega) (hp 3 (by omega)) (hb hby at_307) rfl ?_
                    exact J308 _ (by rw [own_rm_ge (by omega)]) _ _ X256 e256 N256
                  ·
                    refine Own.aload 299 X256 hx (hb hby at_297) rfl rfl rfl ?_
                    refine Own.iconst 300 X256 hx (Own.N 2) (hb hby at_299) rfl rfl ?_
                    refine Own.nLoad 301 (Own.N (pi 2)) X256 hx hZ e256 Cf_264 (by omega) (hp 2 (by omega)) (hb hby at_300) rfl ?_
                    refine Own.goto 308 X256 hx (hb hby at_301) (by decide) ?_
                    exact J308 _ (by rw [own_rm_lt (by omega)]) _ _ X256 e256 N256
                refine Own.nicmp_le 284 277 X243 hx (hb hby at_274) (by decide) rfl (by omega) (by omega) (fun c1 => ?_) (fun c1 => ?_)
                ·
                  refine Own.aload 286 X243 hx (hb hby at_284) rfl rfl rfl ?_
                  refine Own.iconst 287 X243 hx (Own.N 2) (hb hby at_286) rfl rfl ?_
                  refine Own.nLoad 288 (Own.N (pi 2)) X243 hx hZ e243 Cf_251 (by omega) (hp 2 (by omega)) (hb hby at_287) rfl ?_
                  exact J288 _ (by rw [own_rm_ge (by omega)]) _ _ X243 e243 N243
                ·
                  refine Own.aload 279 X243 hx (hb hby at_277) rfl rfl rfl ?_
                  refine Own.iconst 280 X243 hx (Own.N 1) (hb hby at_279) rfl rfl ?_
                  refine Own.nLoad 281 (Own.N (pi 1)) X243 hx hZ e243 Cf_251 (by omega) (hp 1 (by omega)) (hb hby at_280) rfl ?_
                  refine Own.goto 288 X243 hx (hb hby at_281) (by decide) ?_
                  exact J288 _ (by rw [own_rm_lt (by omega)]) _ _ X243 e243 N243
              refine Own.nif_le 264 257 X231 hx (hb hby at_254) (by decide) rfl (by omega) (fun c0 => ?_) (fun c0 => ?_)
              ·
                refine Own.aload 266 X231 hx (hb hby at_264) rfl rfl rfl ?_
                refine Own.iconst 267 X231 hx (Own.N 1) (hb hby at_266) rfl rfl ?_
                refine Own.nLoad 268 (Own.N (pi 1)) X231 hx hZ e231 Cf_239 (by omega) (hp 1 (by omega)) (hb hby at_267) rfl ?_
                exact J268 _ (by rw [own_rm_ge (by omega)]) _ _ X231 e231 N230
              ·
                refine Own.aload 259 X231 hx (hb hby at_257) rfl rfl rfl ?_
                refine Own.iconst 260 X231 hx (Own.N 0) (hb hby at_259) rfl rfl ?_
                refine Own.nLoad 261 (Own.N (pi 0)) X231 hx hZ e231 Cf_239 (by omega) (hp 0 (by omega)) (hb hby at_260) rfl ?_
                refine Own.goto 268 X231 hx (hb hby at_261) (by decide) ?_
                exact J268 _ (by rw [own_rm_lt (by omega)]) _ _ X231 e231 N230
      have J130 : ∀ (fo : Nat → Int32) (ho : ∀ k, k < 3 → k < n → fo k = Own.N (pi k)) (Tq : State) (Lq : List Loc) (hq : Heap) (Xq : Stand p l e room_1 s m #[(.int x0), (.int x1), (.int x2), (.int x3), (.int x4), (.int x5)] below meth c Tq Lq 2 8) (eqq : Tq.heap = hq) (Nq : Fr n0 Lq) (Zq : n0 ≤ hq.size) (Oq : Old Z n0 hq) (C_pa : Own.Arf Z hq pa 4 fp) (C_od : Own.Arf Z hq od n fo), Own.Ends p.tables e below (fun v h L => v = some (.int 1) ∧ Fr n0 L) (Own.FE s room_1.cells room_1.slots) (Tq.setTop (mkF m 130 #[.val (.int x0), .val (.int x1), .val (.int x2), .val (.int x3), .val (.int x4), .val (.int x5), .val (.int (Own.N (n))), .val (.ref pa), .val (.ref od), .unset, .unset, .unset, .unset, .unset, .unset, .unset] [])) := by
        intro fo ho Tq Lq hq Xq eqq Nq Zq Oq C_pa C_od
        have p9 := pb 3 (by omega)
        refine Own.iload 132 Xq hx (hb hby at_130) rfl rfl ?_
        refine Own.iconst 133 Xq hx (Own.N 3) (hb hby at_132) rfl rfl ?_
        refine Own.nicmp_le 144 136 Xq hx (hb hby at_133) (by decide) rfl (by omega) (by omega) (fun c3 => ?_) (fun c3 => ?_)
        ·
          exact J144 _ (fun k h1 h2 => ho k (by omega) h2) _ _ _ Xq eqq Nq Zq Oq C_pa C_od
        ·
          refine Own.aload 138 Xq hx (hb hby at_136) rfl rfl rfl ?_
          refine Own.iconst 139 Xq hx (Own.N 3) (hb hby at_138) rfl rfl ?_
          refine Own.aload 141 Xq hx (hb hby at_139) rfl rfl rfl ?_
          refine Own.iconst 142 Xq hx (Own.N 3) (hb hby at_141) rfl rfl ?_
          refine Own.nLoad 143 (Own.N (pi 3)) Xq hx hZ eqq C_pa (by omega) (hp 3 (by omega)) (hb hby at_142) rfl ?_
          refine Own.nStore 144 Xq hx hZ eqq C_od (by omega) (hb hby at_143) rfl ?_
          intro T338 h338 X338 e338 W338 C338
          have N338 := Fr.snoc X338 Nq g_od
          have Cf_340 := C_pa.other W338 ne_pa_od
          have O338 := Oq.wr W338 g_od
          have zl338 := Nat.le_trans Zq (Nat.le_of_eq W338.size.symm)
          exact J144 _ (fun k h1 h2 => by
              by_cases d9 : k = 3
              · rw [Own.upd_hit d9, d9]
              · rw [Own.upd_miss d9]; exact ho k (by omega) h2) _ _ _ X338 e338 N338 zl338 O338 Cf_340 C338
      have J116 : ∀ (fo : Nat → Int32) (ho : ∀ k, k < 2 → k < n → fo k = Own.N (pi k)) (Tq : State) (Lq : List Loc) (hq : Heap) (Xq : Stand p l e room_1 s m #[(.int x0), (.int x1), (.int x2), (.int x3), (.int x4), (.int x5)] below meth c Tq Lq 2 8) (eqq : Tq.heap = hq) (Nq : Fr n0 Lq) (Zq : n0 ≤ hq.size) (Oq : Old Z n0 hq) (C_pa : Own.Arf Z hq pa 4 fp) (C_od : Own.Arf Z hq od n fo), Own.Ends p.tables e below (fun v h L => v = some (.int 1) ∧ Fr n0 L) (Own.FE s room_1.cells room_1.slots) (Tq.setTop (mkF m 116 #[.val (.int x0), .val (.int x1), .val (.int x2), .val (.int x3), .val (.int x4), .val (.int x5), .val (.int (Own.N (n))), .val (.ref pa), .val (.ref od), .unset, .unset, .unset, .unset, .unset, .unset, .unset] [])) := by
        intro fo ho Tq Lq hq Xq eqq Nq Zq Oq C_pa C_od
        have p9 := pb 2 (by omega)
        refine Own.iload 118 Xq hx (hb hby at_116) rfl rfl ?_
        refine Own.iconst 119 Xq hx (Own.N 2) (hb hby at_118) rfl rfl ?_
        refine Own.nicmp_le 130 122 Xq hx (hb hby at_119) (by decide) rfl (by omega) (by omega) (fun c2 => ?_) (fun c2 => ?_)
        ·
          exact J130 _ (fun k h1 h2 => ho k (by omega) h2) _ _ _ Xq eqq Nq Zq Oq C_pa C_od
        ·
          refine Own.aload 124 Xq hx (hb hby at_122) rfl rfl rfl ?_
          refine Own.iconst 125 Xq hx (Own.N 2) (hb hby at_124) rfl rfl ?_
          refine Own.aload 127 Xq hx (hb hby at_125) rfl rfl rfl ?_
          refine Own.iconst 128 Xq hx (Own.N 2) (hb hby at_127) rfl rfl ?_
          refine Own.nLoad 129 (Own.N (pi 2)) Xq hx hZ eqq C_pa (by omega) (hp 2 (by omega)) (hb hby at_128) rfl ?_
          refine Own.nStore 130 Xq hx hZ eqq C_od (by omega) (hb hby at_129) rfl ?_
          intro T342 h342 X342 e342 W342 C342
          have N342 := Fr.snoc X342 Nq g_od
          have Cf_344 := C_pa.other W342 ne_pa_od
          have O342 := Oq.wr W342 g_od
          have zl342 := Nat.le_trans Zq (Nat.le_of_eq W342.size.symm)
          exact J130 _ (fun k h1 h2 => by
              by_cases d9 : k = 2
              · rw [Own.upd_hit d9, d9]
              · rw [Own.upd_miss d9]; exact ho k (by omega) h2) _ _ _ X342 e342 N342 zl342 O342 Cf_344 C342
      have J102 : ∀ (fo : Nat → Int32) (ho : ∀ k, k < 1 → k < n → fo k = Own.N (pi k)) (Tq : State) (Lq : List Loc) (hq : Heap) (Xq : Stand p l e room_1 s m #[(.int x0), (.int x1), (.int x2), (.int x3), (.int x4), (.int x5)] below meth c Tq Lq 2 8) (eqq : Tq.heap = hq) (Nq : Fr n0 Lq) (Zq : n0 ≤ hq.size) (Oq : Old Z n0 hq) (C_pa : Own.Arf Z hq pa 4 fp) (C_od : Own.Arf Z hq od n fo), Own.Ends p.tables e below (fun v h L => v = some (.int 1) ∧ Fr n0 L) (Own.FE s room_1.cells room_1.slots) (Tq.setTop (mkF m 102 #[.val (.int x0), .val (.int x1), .val (.int x2), .val (.int x3), .val (.int x4), .val (.int x5), .val (.int (Own.N (n))), .val (.ref pa), .val (.ref od), .unset, .unset, .unset, .unset, .unset, .unset, .unset] [])) := by
        intro fo ho Tq Lq hq Xq eqq Nq Zq Oq C_pa C_od
        have p9 := pb 1 (by omega)
        refine Own.iload 104 Xq hx (hb hby at_102) rfl rfl ?_
        refine Own.iconst 105 Xq hx (Own.N 1) (hb hby at_104) rfl rfl ?_
        refine Own.nicmp_le 116 108 Xq hx (hb hby at_105) (by decide) rfl (by omega) (by omega) (fun c1 => ?_) (fun c1 => ?_)
        ·
          exact J116 _ (fun k h1 h2 => ho k (by omega) h2) _ _ _ Xq eqq Nq Zq Oq C_pa C_od
        ·
          refine Own.aload 110 Xq hx (hb hby at_108) rfl rfl rfl ?_
          refine Own.iconst 111 Xq hx (Own.N 1) (hb hby at_110) rfl rfl ?_
          refine Own.aload 113 Xq hx (hb hby at_111) rfl rfl rfl ?_
          refine Own.iconst 114 Xq hx (Own.N 1) (hb hby at_113) rfl rfl ?_
          refine Own.nLoad 115 (Own.N (pi 1)) Xq hx hZ eqq C_pa (by omega) (hp 1 (by omega)) (hb hby at_114) rfl ?_
          refine Own.nStore 116 Xq hx hZ eqq C_od (by omega) (hb hby at_115) rfl ?_
          intro T346 h346 X346 e346 W346 C346
          have N346 := Fr.snoc X346 Nq g_od
          have Cf_348 := C_pa.other W346 ne_pa_od
          have O346 := Oq.wr W346 g_od
          have zl346 := Nat.le_trans Zq (Nat.le_of_eq W346.size.symm)
          exact J116 _ (fun k h1 h2 => by
              by_cases d9 : k = 1
              · rw [Own.upd_hit d9, d9]
              · rw [Own.upd_miss d9]; exact ho k (by omega) h2) _ _ _ X346 e346 N346 zl346 O346 Cf_348 C346
      have p9 := pb 0 (by omega)
      refine Own.iload 91 X15 hx (hb hby at_89) rfl rfl ?_
      refine Own.nif_le 102 94 X15 hx (hb hby at_91) (by decide) rfl (by omega) (fun c0 => ?_) (fun c0 => ?_)
      ·
        exact J102 _ (fun k h1 h2 => absurd h2 (by omega)) _ _ _ X15 e15 Nq zl15 O15 Cf_17 C15
      ·
        refine Own.aload 96 X15 hx (hb hby at_94) rfl rfl rfl ?_
        refine Own.iconst 97 X15 hx (Own.N 0) (hb hby at_96) rfl rfl ?_
        refine Own.aload 99 X15 hx (hb hby at_97) rfl rfl rfl ?_
        refine Own.iconst 100 X15 hx (Own.N 0) (hb hby at_99) rfl rfl ?_
        refine Own.nLoad 101 (Own.N (pi 0)) X15 hx hZ e15 Cf_17 (by omega) (hp 0 (by omega)) (hb hby at_100) rfl ?_
        refine Own.nStore 102 X15 hx hZ e15 C15 (by omega) (hb hby at_101) rfl ?_
        intro T350 h350 X350 e350 W350 C350
        have N350 := Fr.snoc X350 Nq g_od
        have Cf_352 := Cf_17.other W350 ne_pa_od
        have O350 := O15.wr W350 g_od
        have zl350 := Nat.le_trans zl15 (Nat.le_of_eq W350.size.symm)
        exact J102 _ (fun k h1 h2 => by
            by_cases d9 : k = 0
            · rw [Own.upd_hit d9, d9]
            · rw [Own.upd_miss d9]; exact absurd h1 (by omega)) _ _ _ X350 e350 N350 zl350 O350 Cf_352 C350
    have J65 : ∀ (pi : Nat → Nat) (fp : Nat → Int32) (hp : ∀ k, k < 4 → fp k = Own.N (pi k)) (P4 : own_Or 4 4 pi) (fx : ∀ k, n ≤ k → k < 4 → pi k = k) (Tq : State) (Lq : List Loc) (hq : Heap) (Xq : Stand p l e room_1 s m #[(.int x0), (.int x1), (.int x2), (.int x3), (.int x4), (.int x5)] below meth c Tq Lq 1 4) (eqq : Tq.heap = hq) (Nq : Fr n0 Lq) (Zq : n0 ≤ hq.size) (Oq : Old Z n0 hq) (C_pa : Own.Arf Z hq pa 4 fp), Own.Ends p.tables e below (fun v h L => v = some (.int 1) ∧ Fr n0 L) (Own.FE s room_1.cells room_1.slots) (Tq.setTop (mkF m 65 #[.val (.int x0), .val (.int x1), .val (.int x2), .val (.int x3), .val (.int x4), .val (.int x5), .val (.int (Own.N (n))), .val (.ref pa), .unset, .unset, .unset, .unset, .unset, .unset, .unset, .unset] [])) := by
      intro pi fp hp P4 fx Tq Lq hq Xq eqq Nq Zq Oq C_pa
      refine Own.iload 67 Xq hx (hb hby at_65) rfl rfl ?_
      refine Own.iconst 68 Xq hx (Own.N 2) (hb hby at_67) rfl rfl ?_
      refine Own.nicmp_lt 83 71 Xq hx (hb hby at_68) (by decide) rfl (by omega) (by omega) (fun c1 => ?_) (fun c1 => ?_)
      ·
        exact J83 pi fp hp P4 fx _ _ _ Xq eqq Nq Zq Oq C_pa
      ·
        refine Own.aload 73 Xq hx (hb hby at_71) rfl rfl rfl ?_
        refine Own.iconst 74 Xq hx (Own.N 1) (hb hby at_73) rfl rfl ?_
        refine Own.iloadN 75 Xq hx (hb hby at_74) rfl rfl ?_
        refine Own.ldcInt 77 Xq hx hZ (Own.N 2147483647) hown (w 29 rfl) (hb hby at_75) rfl ?_
        refine Own.iand 78 Xq hx (hb hby at_77) rfl eb3 ?_
        refine Own.iconst 79 Xq hx (Own.N 2) (hb hby at_78) rfl rfl ?_
        refine Own.irem 80 Xq hx (hb hby at_79) rfl (by decide) (Own.N_mod (by omega) (by omega)) ?_
        refine Own.callSt 83 0 [(.ref pa), (.int (Own.N (1))), (.int (Own.N (b3 % 2)))] [] Xq hx hZ hown (m5 l Z a0 w pa 1 (b3 % 2) n0 fp _ Zq g_pa C_pa (by omega) (by omega)) (w 30 rfl) (w 31 rfl) (w 32 rfl) (w 33 rfl) (by decide) eqq (by decide) (by decide) (by decide) (by decide) (by rw [hml]; rfl) (lenOf pd_8 rfl) rfl (Nat.le_of_eq rfl) (hb hby at_80) rfl ?_
        rintro vv T354 L354 X354 ⟨rfl, N354q, K354, C354⟩
        have N354 := Fr.app Nq N354q
        have O354 := Oq.keep K354 (allS g_pa all0)
        have zl354 := Nat.le_trans Zq K354.1
        exact J83 (own_swp pi 1 (b3 % 2)) _ (own_sw_f hp (by omega) (by omega)) (own_sw_Or P4 (by omega) (by omega)) (own_sw_fx fx (by omega) (by omega)) _ _ _ X354 rfl N354 zl354 O354 C354
    have J47 : ∀ (pi : Nat → Nat) (fp : Nat → Int32) (hp : ∀ k, k < 4 → fp k = Own.N (pi k)) (P4 : own_Or 4 4 pi) (fx : ∀ k, n ≤ k → k < 4 → pi k = k) (Tq : State) (Lq : List Loc) (hq : Heap) (Xq : Stand p l e room_1 s m #[(.int x0), (.int x1), (.int x2), (.int x3), (.int x4), (.int x5)] below meth c Tq Lq 1 4) (eqq : Tq.heap = hq) (Nq : Fr n0 Lq) (Zq : n0 ≤ hq.size) (Oq : Old Z n0 hq) (C_pa : Own.Arf Z hq pa 4 fp), Own.Ends p.tables e below (fun v h L => v = some (.int 1) ∧ Fr n0 L) (Own.FE s room_1.cells room_1.slots) (Tq.setTop (mkF m 47 #[.val (.int x0), .val (.int x1), .val (.int x2), .val (.int x3), .val (.int x4), .val (.int x5), .val (.int (Own.N (n))), .val (.ref pa), .unset, .unset, .unset, .unset, .unset, .unset, .unset, .unset] [])) := by
      intro pi fp hp P4 fx Tq Lq hq Xq eqq Nq Zq Oq C_pa
      refine Own.iload 49 Xq hx (hb hby at_47) rfl rfl ?_
      refine Own.iconst 50 Xq hx (Own.N 3) (hb hby at_49) rfl rfl ?_
      refine Own.nicmp_lt 65 53 Xq hx (hb hby at_50) (by decide) rfl (by omega) (by omega) (fun c2 => ?_) (fun c2 => ?_)
      ·
        exact J65 pi fp hp P4 fx _ _ _ Xq eqq Nq Zq Oq C_pa
      ·
        refine Own.aload 55 Xq hx (hb hby at_53) rfl rfl rfl ?_
        refine Own.iconst 56 Xq hx (Own.N 2) (hb hby at_55) rfl rfl ?_
        refine Own.iloadN 57 Xq hx (hb hby at_56) rfl rfl ?_
        refine Own.ldcInt 59 Xq hx hZ (Own.N 2147483647) hown (w 29 rfl) (hb hby at_57) rfl ?_
        refine Own.iand 60 Xq hx (hb hby at_59) rfl eb2 ?_
        refine Own.iconst 61 Xq hx (Own.N 3) (hb hby at_60) rfl rfl ?_
        refine Own.irem 62 Xq hx (hb hby at_61) rfl (by decide) (Own.N_mod (by omega) (by omega)) ?_
        refine Own.callSt 65 0 [(.ref pa), (.int (Own.N (2))), (.int (Own.N (b2 % 3)))] [] Xq hx hZ hown (m5 l Z a0 w pa 2 (b2 % 3) n0 fp _ Zq g_pa C_pa (by omega) (by omega)) (w 30 rfl) (w 31 rfl) (w 32 rfl) (w 33 rfl) (by decide) eqq (by decide) (by decide) (by decide) (by decide) (by rw [hml]; rfl) (lenOf pd_8 rfl) rfl (Nat.le_of_eq rfl) (hb hby at_62) rfl ?_
        rintro vv T357 L357 X357 ⟨rfl, N357q, K357, C357⟩
        have N357 := Fr.app Nq N357q
        have O357 := Oq.keep K357 (allS g_pa all0)
        have zl357 := Nat.le_trans Zq K357.1
        exact J65 (own_swp pi 2 (b2 % 3)) _ (own_sw_f hp (by omega) (by omega)) (own_sw_Or P4 (by omega) (by omega)) (own_sw_fx fx (by omega) (by omega)) _ _ _ X357 rfl N357 zl357 O357 C357
    have hp : ∀ k, k < 4 → (Own.upd (Own.upd (Own.upd (Own.upd (fun _ => 0) (0) (Own.N (0))) (1) (Own.N (1))) (2) (Own.N (2))) (3) (Own.N (3))) k = Own.N ((fun q => q) k) := by
      intro k hk
      rcases (by omega : k = 0 ∨ k = 1 ∨ k = 2 ∨ k = 3) with rfl | rfl | rfl | rfl <;> rfl
    have P4 : own_Or 4 4 (fun q => q) := fun q hq => ⟨hq, fun _ _ e9 => e9⟩
    have fx : ∀ k, n ≤ k → k < 4 → (fun q => q) k = k := fun k _ _ => rfl
    refine Own.iload 31 X12 hx (hb hby at_29) rfl rfl ?_
    refine Own.iconst 32 X12 hx (Own.N 4) (hb hby at_31) rfl rfl ?_
    refine Own.nicmp_lt 47 35 X12 hx (hb hby at_32) (by decide) rfl (by omega) (by omega) (fun c3 => ?_) (fun c3 => ?_)
    ·
      exact J47 (fun q => q) _ hp P4 fx _ _ _ X12 e12 N12 zl12 O12 C12
    ·
      refine Own.aload 37 X12 hx (hb hby at_35) rfl rfl rfl ?_
      refine Own.iconst 38 X12 hx (Own.N 3) (hb hby at_37) rfl rfl ?_
      refine Own.iloadN 39 X12 hx (hb hby at_38) rfl rfl ?_
      refine Own.ldcInt 41 X12 hx hZ (Own.N 2147483647) hown (w 29 rfl) (hb hby at_39) rfl ?_
      refine Own.iand 42 X12 hx (hb hby at_41) rfl eb1 ?_
      refine Own.iconst 43 X12 hx (Own.N 4) (hb hby at_42) rfl rfl ?_
      refine Own.irem 44 X12 hx (hb hby at_43) rfl (by decide) (Own.N_mod (by omega) (by omega)) ?_
      refine Own.callSt 47 0 [(.ref pa), (.int (Own.N (3))), (.int (Own.N (b1 % 4)))] [] X12 hx hZ hown (m5 l Z a0 w pa 3 (b1 % 4) n0 (Own.upd (Own.upd (Own.upd (Own.upd (fun _ => 0) (0) (Own.N (0))) (1) (Own.N (1))) (2) (Own.N (2))) (3) (Own.N (3))) _ zl12 g_pa C12 (by omega) (by omega)) (w 30 rfl) (w 31 rfl) (w 32 rfl) (w 33 rfl) (by decide) e12 (by decide) (by decide) (by decide) (by decide) (by rw [hml]; rfl) (lenOf pd_8 rfl) rfl (Nat.le_of_eq rfl) (hb hby at_44) rfl ?_
      rintro vv T360 L360 X360 ⟨rfl, N360q, K360, C360⟩
      have N360 := Fr.app N12 N360q
      have O360 := O12.keep K360 (allS g_pa all0)
      have zl360 := Nat.le_trans zl12 K360.1
      exact J47 (own_swp (fun q => q) 3 (b1 % 4)) _ (own_sw_f hp (by omega) (by omega)) (own_sw_Or P4 (by omega) (by omega)) (own_sw_fx fx (by omega) (by omega)) _ _ _ X360 rfl N360 zl360 O360 C360
  exact J8 (b0 % 5) md5
set_option maxRecDepth 65536 in
set_option maxHeartbeats 40000000 in
theorem comes_1 {Post : Tables → Env → Array Value → State → Outcome → State → Prop} (hpost : ∀ tb e args s v u, (limb_1_1.after args s (.returned v) u = true ∧ limb_1_2.after args s (.returned v) u = true ∧ True) → FrameEnd s (.returned v) u (Jvm.fieldLocs frame_1_writes args s ++ Jvm.arrayLocs frame_1_arrays args s ++ Jvm.staticLocs frame_1_statics s) 32 192 → Post tb e args s (.returned v) u) :
    ArmFor flags0 classFile x code maxLocals ret World_1 tables_1 room_1 Calls_1 rest_1 Pre_1 Post := by
  intro l hfl _ _ p e ha hc hk s m args below hf hA hF happ hP
  obtain ⟨hcalls, hrest, hpre⟩ := hP
  obtain ⟨-, -, -, hnamed, -, -, -, hat⟩ := (Spec.applies_iff hf).mp happ
  obtain ⟨hg, hn⟩ := and_e (Cond.before_iff.mp (show (Jvm.Cond.and given_1 narrow_1).before args s = true from hpre))
  obtain ⟨g1, g2⟩ := and_e hg
  obtain ⟨g3, g4⟩ := and_e g2
  obtain ⟨g5, g6⟩ := and_e g4
  obtain ⟨g7, g8⟩ := and_e g6
  obtain ⟨g9, g10⟩ := and_e g8
  obtain ⟨g11, g12⟩ := and_e g10
  obtain ⟨w0, w1, w2, w3, w4, w5, rfl⟩ : ∃ w0 w1 w2 w3 w4 w5 : Value, args = #[w0, w1, w2, w3, w4, w5] := by
    have hs : args.size = 6 := by simpa [Cond.value, given_1] using g1
    obtain ⟨L⟩ := args
    match L, hs with
    | [w0, w1, w2, w3, w4, w5], _ => exact ⟨w0, w1, w2, w3, w4, w5, rfl⟩
  have hw := fun d (hd : d ∈ tables_1) => atoms_spec (ws := Jvm.Cond.code x code maxLocals ret :: tables_1) hat d (List.mem_cons_of_mem _ hd)
  obtain ⟨i0, ei0⟩ := is_v g3
  obtain rfl : w0 = (.int i0) := Option.some.inj ei0
  obtain ⟨i1, ei1⟩ := is_v g5
  obtain rfl : w1 = (.int i1) := Option.some.inj ei1
  obtain ⟨i2, ei2⟩ := is_v g7
  obtain rfl : w2 = (.int i2) := Option.some.inj ei2
  obtain ⟨i3, ei3⟩ := is_v g9
  obtain rfl : w3 = (.int i3) := Option.some.inj ei3
  obtain ⟨i4, ei4⟩ := is_v g11
  obtain rfl : w4 = (.int i4) := Option.some.inj ei4
  obtain ⟨i5, ei5⟩ := is_v g12
  obtain rfl : w5 = (.int i5) := Option.some.inj ei5
  obtain ⟨hn_1, hm_1⟩ := and_e hn
  obtain ⟨hn_2, hm_2⟩ := and_e hm_1
  obtain ⟨hn_3, hm_3⟩ := and_e hm_2
  obtain ⟨hn_4, hm_4⟩ := and_e hm_3
  obtain ⟨hn_5, hm_5⟩ := and_e hm_4
  obtain ⟨hn_6, hm_6⟩ := and_e hm_5
  obtain ⟨hn_7, hm_7⟩ := and_e hm_6
  obtain ⟨hn_8, hm_8⟩ := and_e hm_7
  obtain ⟨hn_9, hm_9⟩ := and_e hm_8
  obtain ⟨hn_10, hm_10⟩ := and_e hm_9
  obtain ⟨hn_11, hm_11⟩ := and_e hm_10
  obtain ⟨hn_12, hm_12⟩ := and_e hm_11
  obtain ⟨hn_13, hm_13⟩ := and_e hm_12
  obtain ⟨hn_14, hm_14⟩ := and_e hm_13
  obtain ⟨hn_15, hm_15⟩ := and_e hm_14
  obtain ⟨hn_16, hm_16⟩ := and_e hm_15
  obtain ⟨hn_17, hm_17⟩ := and_e hm_16
  obtain ⟨hn_18, hm_18⟩ := and_e hm_17
  obtain ⟨hn_19, hm_19⟩ := and_e hm_18
  obtain ⟨hn_20, hm_20⟩ := and_e hm_19
  obtain ⟨hn_21, hm_21⟩ := and_e hm_20
  obtain ⟨hn_22, hm_22⟩ := and_e hm_21
  obtain ⟨hn_23, hm_23⟩ := and_e hm_22
  obtain ⟨hn_24, hm_24⟩ := and_e hm_23
  obtain ⟨hn_25, hm_25⟩ := and_e hm_24
  obtain ⟨hn_26, hm_26⟩ := and_e hm_25
  obtain ⟨hn_27, hm_27⟩ := and_e hm_26
  obtain ⟨hn_28, hm_28⟩ := and_e hm_27
  obtain ⟨hn_29, hm_29⟩ := and_e hm_28
  obtain ⟨hn_30, hm_30⟩ := and_e hm_29
  obtain ⟨hn_31, hm_31⟩ := and_e hm_30
  obtain ⟨hn_32, hm_32⟩ := and_e hm_31
  obtain ⟨hn_33, hm_33⟩ := and_e hm_32
  obtain ⟨hn_34, hm_34⟩ := and_e hm_33
  obtain ⟨hn_35, hm_35⟩ := and_e hm_34
  obtain ⟨hn_36, hm_36⟩ := and_e hm_35
  obtain ⟨hn_37, hm_37⟩ := and_e hm_36
  obtain ⟨hn_38, hm_38⟩ := and_e hm_37
  obtain ⟨hn_39, hm_39⟩ := and_e hm_38
  obtain ⟨hn_40, hm_40⟩ := and_e hm_39
  obtain ⟨hn_41, hm_41⟩ := and_e hm_40
  obtain ⟨hn_42, hm_42⟩ := and_e hm_41
  obtain ⟨hn_43, hm_43⟩ := and_e hm_42
  obtain ⟨hn_44, hm_44⟩ := and_e hm_43
  obtain ⟨hn_45, hm_45⟩ := and_e hm_44
  obtain ⟨hn_46, hm_46⟩ := and_e hm_45
  obtain ⟨hn_47, hm_47⟩ := and_e hm_46
  obtain ⟨hn_48, hm_48⟩ := and_e hm_47
  obtain ⟨hn_49, hm_49⟩ := and_e hm_48
  obtain ⟨hn_50, hm_50⟩ := and_e hm_49
  obtain ⟨hn_51, hm_51⟩ := and_e hm_50
  obtain ⟨hn_52, hm_52⟩ := and_e hm_51
  obtain ⟨hn_53, hm_53⟩ := and_e hm_52
  obtain ⟨hn_54, hm_54⟩ := and_e hm_53
  obtain ⟨hn_55, hm_55⟩ := and_e hm_54
  obtain ⟨hn_56, hm_56⟩ := and_e hm_55
  obtain ⟨hn_57, hm_57⟩ := and_e hm_56
  obtain ⟨hn_58, hm_58⟩ := and_e hm_57
  obtain ⟨hn_59, hm_59⟩ := and_e hm_58
  obtain ⟨hn_60, hm_60⟩ := and_e hm_59
  obtain ⟨hn_61, hm_61⟩ := and_e hm_60
  obtain ⟨hn_62, hm_62⟩ := and_e hm_61
  obtain ⟨hn_63, hm_63⟩ := and_e hm_62
  obtain ⟨hn_64, hm_64⟩ := and_e hm_63
  obtain ⟨room, ev_r⟩ := arr_v hn_1
  have SR := Sta.start ev_r (Or.inr ⟨(hw _ (List.mem_of_getElem? (i := 3) rfl)), (hw _ (List.mem_of_getElem? (i := 58) rfl))⟩)
  obtain ⟨clr, Arr_r⟩ := Arr.start ev_r hn_1
  have lnr := Own.lenN5 (k := 63) ev_r hn_2 Arr_r (by decide)
  have er0 := Own.elJ (i := 0) ev_r hn_3 Arr_r (by decide)
  have er1 := Own.elJ (i := 1) ev_r hn_4 Arr_r (by decide)
  have er2 := Own.elJ (i := 2) ev_r hn_5 Arr_r (by decide)
  have er3 := Own.elJ (i := 3) ev_r hn_6 Arr_r (by decide)
  have er4 := Own.elJ (i := 4) ev_r hn_7 Arr_r (by decide)
  have er5 := Own.elJ (i := 5) ev_r hn_8 Arr_r (by decide)
  have er6 := Own.elJ (i := 6) ev_r hn_9 Arr_r (by decide)
  have er7 := Own.elJ (i := 7) ev_r hn_10 Arr_r (by decide)
  have er8 := Own.elJ (i := 8) ev_r hn_11 Arr_r (by decide)
  have er9 := Own.elJ (i := 9) ev_r hn_12 Arr_r (by decide)
  have er10 := Own.elJ (i := 10) ev_r hn_13 Arr_r (by decide)
  have er11 := Own.elJ (i := 11) ev_r hn_14 Arr_r (by decide)
  have er12 := Own.elJ (i := 12) ev_r hn_15 Arr_r (by decide)
  have er13 := Own.elJ (i := 13) ev_r hn_16 Arr_r (by decide)
  have er14 := Own.elJ (i := 14) ev_r hn_17 Arr_r (by decide)
  have er15 := Own.elJ (i := 15) ev_r hn_18 Arr_r (by decide)
  have er16 := Own.elJ (i := 16) ev_r hn_19 Arr_r (by decide)
  have er17 := Own.elJ (i := 17) ev_r hn_20 Arr_r (by decide)
  have er18 := Own.elJ (i := 18) ev_r hn_21 Arr_r (by decide)
  have er19 := Own.elJ (i := 19) ev_r hn_22 Arr_r (by decide)
  have er20 := Own.elJ (i := 20) ev_r hn_23 Arr_r (by decide)
  have er21 := Own.elJ (i := 21) ev_r hn_24 Arr_r (by decide)
  have er22 := Own.elJ (i := 22) ev_r hn_25 Arr_r (by decide)
  have er23 := Own.elJ (i := 23) ev_r hn_26 Arr_r (by decide)
  have er24 := Own.elJ (i := 24) ev_r hn_27 Arr_r (by decide)
  have er25 := Own.elJ (i := 25) ev_r hn_28 Arr_r (by decide)
  have er26 := Own.elJ (i := 26) ev_r hn_29 Arr_r (by decide)
  have er27 := Own.elJ (i := 27) ev_r hn_30 Arr_r (by decide)
  have er28 := Own.elJ (i := 28) ev_r hn_31 Arr_r (by decide)
  have er29 := Own.elJ (i := 29) ev_r hn_32 Arr_r (by decide)
  have er30 := Own.elJ (i := 30) ev_r hn_33 Arr_r (by decide)
  have er31 := Own.elJ (i := 31) ev_r hn_34 Arr_r (by decide)
  have er32 := Own.elJ (i := 32) ev_r hn_35 Arr_r (by decide)
  have er33 := Own.elJ (i := 33) ev_r hn_36 Arr_r (by decide)
  have er34 := Own.elJ (i := 34) ev_r hn_37 Arr_r (by decide)
  have er35 := Own.elJ (i := 35) ev_r hn_38 Arr_r (by decide)
  have er36 := Own.elJ (i := 36) ev_r hn_39 Arr_r (by decide)
  have er37 := Own.elJ (i := 37) ev_r hn_40 Arr_r (by decide)
  have er38 := Own.elJ (i := 38) ev_r hn_41 Arr_r (by decide)
  have er39 := Own.elJ (i := 39) ev_r hn_42 Arr_r (by decide)
  have er40 := Own.elJ (i := 40) ev_r hn_43 Arr_r (by decide)
  have er41 := Own.elJ (i := 41) ev_r hn_44 Arr_r (by decide)
  have er42 := Own.elJ (i := 42) ev_r hn_45 Arr_r (by decide)
  have er43 := Own.elJ (i := 43) ev_r hn_46 Arr_r (by decide)
  have er44 := Own.elJ (i := 44) ev_r hn_47 Arr_r (by decide)
  have er45 := Own.elJ (i := 45) ev_r hn_48 Arr_r (by decide)
  have er46 := Own.elJ (i := 46) ev_r hn_49 Arr_r (by decide)
  have er47 := Own.elJ (i := 47) ev_r hn_50 Arr_r (by decide)
  have er48 := Own.elJ (i := 48) ev_r hn_51 Arr_r (by decide)
  have er49 := Own.elJ (i := 49) ev_r hn_52 Arr_r (by decide)
  have er50 := Own.elJ (i := 50) ev_r hn_53 Arr_r (by decide)
  have er51 := Own.elJ (i := 51) ev_r hn_54 Arr_r (by decide)
  have er52 := Own.elJ (i := 52) ev_r hn_55 Arr_r (by decide)
  have er53 := Own.elJ (i := 53) ev_r hn_56 Arr_r (by decide)
  have er54 := Own.elJ (i := 54) ev_r hn_57 Arr_r (by decide)
  have er55 := Own.elJ (i := 55) ev_r hn_58 Arr_r (by decide)
  have er56 := Own.elJ (i := 56) ev_r hn_59 Arr_r (by decide)
  have er57 := Own.elJ (i := 57) ev_r hn_60 Arr_r (by decide)
  have er58 := Own.elJ (i := 58) ev_r hn_61 Arr_r (by decide)
  have er59 := Own.elJ (i := 59) ev_r hn_62 Arr_r (by decide)
  have er60 := Own.elJ (i := 60) ev_r hn_63 Arr_r (by decide)
  have er61 := Own.elJ (i := 61) ev_r hn_64 Arr_r (by decide)
  have er62 := Own.elJ (i := 62) ev_r hm_64 Arr_r (by decide)
  have VR : own_room s room clr.cls := Own.arvB5 Arr_r lnr (by decide) (by decide) ⟨er0, er1, er2, er3, er4, er5, er6, er7, er8, er9, er10, er11, er12, er13, er14, er15, er16, er17, er18, er19, er20, er21, er22, er23, er24, er25, er26, er27, er28, er29, er30, er31, er32, er33, er34, er35, er36, er37, er38, er39, er40, er41, er42, er43, er44, er45, er46, er47, er48, er49, er50, er51, er52, er53, er54, er55, er56, er57, er58, er59, er60, er61, er62, trivial⟩ (by decide)
  obtain ⟨n, o, h1, h2, h3, _, L, rfl, ⟨rfl, N⟩, hq⟩ := m0 l s _ (fun i {d} h => hw d (List.mem_of_getElem? h)) i0 i1 i2 i3 i4 i5 room clr.cls s.heap s.heap.size (Nat.le_refl _) (Old.start s) SR VR p e ha hc hk s m _ below hf ((Spec.applies_iff_loose hf).mp happ).1 ⟨rfl, State.Warmed39.refl s, rfl⟩ trivial
  refine ⟨n, _, h1, h2, h3, hpost _ _ _ _ _ _ ⟨Cond.after_iff.mpr rfl, Cond.after_iff.mpr (eq_i res_at (Term.int_eval (1)) rfl), trivial⟩ ⟨hq.1, hq.2.1, (hq.2.2.sift fun y hy => Or.inr (N y hy)).mono (by decide) (by decide)⟩⟩
theorem main_1_1 : Claimed_1_1 := comes_1 fun _ _ _ _ _ _ h hF => ⟨h.1, hF⟩
theorem main_1_2 : Claimed_1_2 := comes_1 fun _ _ _ _ _ _ h hF => ⟨h.2.1, hF⟩
end Jvm.Pilot.@@N@@
namespace Jvm.Pilot.@@N@@
open Jvm Jvm.ClassFile Sem Op Lib Jvm.Free Jvm.Stand Jvm.Pilot.@@N@@.Jvm.D
/-! MADE BY PROGRAM (witnessworld.py) out of the Statement's table words and the real class files: 12 classes; the members and pool entries that the words name. The judged class is class 1, her method 1. -/
namespace start1
open Jvm.ClassFile
def u (s : String) : CpInfo := .utf8 (stringToUtf16 s)
/-- a pool by its gaps: so many unusable entries, then the entry; so many at the end -/
def gap : Nat → List CpInfo → List CpInfo
  | 0, r => r
  | n + 1, r => .unusable :: gap n r
def poolList (es : List (Nat × CpInfo)) (last : Nat) : List CpInfo := es.foldr (fun e r => gap e.1 (e.2 :: r)) (gap last [])
def pool (es : List (Nat × CpInfo)) (last : Nat) : Array CpInfo := ⟨poolList es last⟩
def fileOf (pool : Array CpInfo) (this : Nat) (attrs : Array Attribute := #[]) (ms : Array MethodInfo := #[]) (fl : Nat := 33) (sup : Nat := 0) (ifs : Array Nat := #[]) (fds : Array FieldInfo := #[]) : ClassFile where
  minorVersion := 0
  majorVersion := 65
  constantPool := pool
  accessFlags := fl
  thisClass := this
  superClass := sup
  interfaces := ifs
  fields := fds
  methods := ms
  attributes := attrs
def plain (name : String) (sup : Option ClassId) : Class where
  name := name
  kind := .ordinary
  loader := none
  accessFlags := 33
  super := sup
  interfaces := #[]
  cf := none
  fields := #[]
  methods := #[]
  instanceTypes := #[]
  staticTypes := #[]
  resolved := #[]
  callSites := []
  init := .initialized
  statics := none
  mirror := none

def pool0 : Array CpInfo := pool [(5, u "<init>"), (0, u "()V"), (1, .class_ 10), (1, u "java/lang/Object")] 113

def k0c0 : Code := { maxStack := 0, maxLocals := 1, code := object_method_1_code, exceptionTable := #[], attributes := #[] }
def k0m0 : Method := { name := "<init>", desc := "()V", sig := { parameters := [], returnType := none }, accessFlags := 1, code := some k0c0 }
/-- java/lang/Object -/
def k0 : Class := { plain "java/lang/Object" none with
  accessFlags := 33
  interfaces := #[]
  cf := some (fileOf pool0 8 #[] #[{ accessFlags := 1, nameIndex := 5, descriptorIndex := 6, attributes := #[] }] 33 0 #[] #[])
  fields := #[]
  methods := #[k0m0]
  instanceTypes := #[]
  staticTypes := #[]
  resolved := Array.replicate 124 none
  statics := none }

def pool1 : Array CpInfo := pool [(2, .class_ 4), (1, u "java/lang/Object"), (0, u "<init>"), (0, u "()V"), (0, .integer 2147483647), (0, .methodref 9 10), (0, .class_ 11), (0, .nameAndType 12 13), (0, u "com/example/leveler/leveler/crossing/OrderedListToArrayPinLaw"), (0, u "swap"), (0, u "([III)V"), (0, .class_ 15), (0, u "com/example/leveler/leveler/crossing/OrderedList"), (0, .methodref 14 17), (0, .nameAndType 5 18), (0, u "([I)V"), (0, .methodref 14 20), (0, .nameAndType 21 22), (0, u "moveBehind"), (0, u "(II)V"), (0, .methodref 9 24), (0, .nameAndType 25 26), (0, u "indexOf4"), (0, u "([II)I"), (0, .methodref 9 28), (0, .nameAndType 29 26), (0, u "indexOf3"), (0, .methodref 9 31), (0, .nameAndType 32 33), (0, u "at"), (0, u "([IIII)I"), (0, .methodref 14 35), (0, .nameAndType 36 37), (0, u "toArray"), (0, u "()[I"), (2, u "law"), (0, u "(IIIIII)Z")] 5

def k1m0 : Method := { name := "<init>", desc := "()V", sig := { parameters := [], returnType := none }, accessFlags := 1, code := none }
def k1c1 : Code := { maxStack := 6, maxLocals := 16, code := code, exceptionTable := #[], attributes := #[] }
def k1m1 : Method := { name := "law", desc := "(IIIIII)Z", sig := { parameters := [.int, .int, .int, .int, .int, .int], returnType := some .boolean }, accessFlags := 9, code := some k1c1 }
def k1c2 : Code := { maxStack := 4, maxLocals := 4, code := method_3_code, exceptionTable := #[], attributes := #[] }
def k1m2 : Method := { name := "swap", desc := "([III)V", sig := { parameters := [(.array .int), .int, .int], returnType := none }, accessFlags := 10, code := some k1c2 }
def k1c3 : Code := { maxStack := 2, maxLocals := 2, code := method_4_code, exceptionTable := #[], attributes := #[] }
def k1m3 : Method := { name := "indexOf4", desc := "([II)I", sig := { parameters := [(.array .int), .int], returnType := some .int }, accessFlags := 10, code := some k1c3 }
def k1c4 : Code := { maxStack := 2, maxLocals := 2, code := method_5_code, exceptionTable := #[], attributes := #[] }
def k1m4 : Method := { name := "indexOf3", desc := "([II)I", sig := { parameters := [(.array .int), .int], returnType := some .int }, accessFlags := 10, code := some k1c4 }
def k1c5 : Code := { maxStack := 3, maxLocals := 4, code := method_6_code, exceptionTable := #[], attributes := #[] }
def k1m5 : Method := { name := "at", desc := "([IIII)I", sig := { parameters := [(.array .int), .int, .int, .int], returnType := some .int }, accessFlags := 10, code := some k1c5 }
/-- com/example/leveler/leveler/crossing/OrderedListToArrayPinLaw -/
def k1 : Class := { plain "com/example/leveler/leveler/crossing/OrderedListToArrayPinLaw" (some 0) with
  accessFlags := 49
  interfaces := #[]
  cf := some (fileOf pool1 9 #[] #[{ accessFlags := 1, nameIndex := 5, descriptorIndex := 6, attributes := #[] }, { accessFlags := 9, nameIndex := 40, descriptorIndex := 41, attributes := #[] }, { accessFlags := 10, nameIndex := 12, descriptorIndex := 13, attributes := #[] }, { accessFlags := 10, nameIndex := 25, descriptorIndex := 26, attributes := #[] }, { accessFlags := 10, nameIndex := 29, descriptorIndex := 26, attributes := #[] }, { accessFlags := 10, nameIndex := 32, descriptorIndex := 33, attributes := #[] }] 49 2 #[] #[])
  fields := #[]
  methods := #[k1m0, k1m1, k1m2, k1m3, k1m4, k1m5]
  instanceTypes := #[]
  staticTypes := #[]
  resolved := Array.replicate 47 none
  statics := none }

def pool2 : Array CpInfo := pool [(1, .methodref 2 3), (0, .class_ 4), (0, .nameAndType 5 6), (0, u "java/lang/Object"), (0, u "<init>"), (0, u "()V"), (0, .fieldref 8 9), (0, .class_ 10), (0, .nameAndType 11 12), (0, u "com/example/leveler/leveler/crossing/OrderedList"), (0, u "next"), (0, u "[I"), (0, .fieldref 8 14), (0, .nameAndType 15 12), (0, u "previous"), (0, .fieldref 8 17), (0, .nameAndType 18 19), (0, u "labels"), (0, u "[J"), (0, .fieldref 8 21), (0, .nameAndType 22 23), (0, u "first"), (0, u "I"), (0, .long 4611686018427387904), (1, .methodref 27 28), (0, .class_ 29), (0, .nameAndType 30 31), (0, u "java/lang/Math"), (0, u "max"), (0, u "(II)I"), (0, .methodref 8 33), (0, .nameAndType 34 35), (0, u "relabel"), (0, u "(I)V"), (0, .long 18446744073709551615), (1, .long 2), (1, .methodref 27 41), (0, .nameAndType 30 42), (0, u "(JJ)J"), (0, .fieldref 8 44), (0, .nameAndType 45 19), (0, u "ROOM"), (16, u "NONE"), (2, u "LABELS"), (0, u "J"), (0, u "GROWTH"), (0, u "D"), (2, u "([I)V"), (8, u "toArray"), (0, u "()[I"), (0, u "moveBehind"), (0, u "(II)V")] 4

def k2c0 : Code := { maxStack := 6, maxLocals := 5, code := prog_14_method_1_code, exceptionTable := #[], attributes := #[] }
def k2m0 : Method := { name := "<init>", desc := "([I)V", sig := { parameters := [(.array .int)], returnType := none }, accessFlags := 0, code := some k2c0 }
def k2c1 : Code := { maxStack := 3, maxLocals := 4, code := prog_14_method_6_code, exceptionTable := #[], attributes := #[] }
def k2m1 : Method := { name := "toArray", desc := "()[I", sig := { parameters := [], returnType := some (.array .int) }, accessFlags := 0, code := some k2c1 }
def k2c2 : Code := { maxStack := 4, maxLocals := 4, code := prog_14_method_7_code, exceptionTable := #[], attributes := #[] }
def k2m2 : Method := { name := "moveBehind", desc := "(II)V", sig := { parameters := [.int, .int], returnType := none }, accessFlags := 0, code := some k2c2 }
def k2c3 : Code := { maxStack := 8, maxLocals := 22, code := prog_14_method_8_code, exceptionTable := #[], attributes := #[] }
def k2m3 : Method := { name := "relabel", desc := "(I)V", sig := { parameters := [.int], returnType := none }, accessFlags := 2, code := some k2c3 }
/-- com/example/leveler/leveler/crossing/OrderedList -/
def k2 : Class := { plain "com/example/leveler/leveler/crossing/OrderedList" (some 0) with
  accessFlags := 48
  interfaces := #[]
  cf := some (fileOf pool2 8 #[] #[{ accessFlags := 0, nameIndex := 5, descriptorIndex := 71, attributes := #[] }, { accessFlags := 0, nameIndex := 80, descriptorIndex := 81, attributes := #[] }, { accessFlags := 0, nameIndex := 82, descriptorIndex := 83, attributes := #[] }, { accessFlags := 2, nameIndex := 34, descriptorIndex := 35, attributes := #[] }] 48 2 #[] #[{ accessFlags := 24, nameIndex := 62, descriptorIndex := 23, attributes := #[] }, { accessFlags := 26, nameIndex := 65, descriptorIndex := 66, attributes := #[] }, { accessFlags := 26, nameIndex := 67, descriptorIndex := 68, attributes := #[] }, { accessFlags := 26, nameIndex := 45, descriptorIndex := 19, attributes := #[] }, { accessFlags := 18, nameIndex := 11, descriptorIndex := 12, attributes := #[] }, { accessFlags := 18, nameIndex := 15, descriptorIndex := 12, attributes := #[] }, { accessFlags := 18, nameIndex := 18, descriptorIndex := 19, attributes := #[] }, { accessFlags := 2, nameIndex := 22, descriptorIndex := 23, attributes := #[] }])
  fields := #[{ name := "NONE", type := .int, accessFlags := 24, slot := 0, constantValue := 0 }, { name := "LABELS", type := .long, accessFlags := 26, slot := 1, constantValue := 0 }, { name := "GROWTH", type := .double, accessFlags := 26, slot := 2, constantValue := 0 }, { name := "ROOM", type := (.array .long), accessFlags := 26, slot := 3, constantValue := 0 }, { name := "next", type := (.array .int), accessFlags := 18, slot := 0, constantValue := 0 }, { name := "previous", type := (.array .int), accessFlags := 18, slot := 1, constantValue := 0 }, { name := "labels", type := (.array .long), accessFlags := 18, slot := 2, constantValue := 0 }, { name := "first", type := .int, accessFlags := 2, slot := 3, constantValue := 0 }]
  methods := #[k2m0, k2m1, k2m2, k2m3]
  instanceTypes := #[(.array .int), (.array .int), (.array .long), .int]
  staticTypes := #[.int, .long, .double, (.array .long)]
  resolved := Array.replicate 88 none
  statics := some 0 }

def pool3 : Array CpInfo := pool [(1, .class_ 2), (0, u "java/lang/Math"), (1, .class_ 6), (1, u "java/lang/Object"), (0, u "<init>"), (0, u "()V"), (89, .class_ 100), (1, u "java/lang/Math$RandomNumberGeneratorHolder"), (20, u "(JJ)J"), (50, u "negativeZeroFloatBits"), (0, u "J"), (2, u "negativeZeroDoubleBits"), (21, u "max"), (46, u "$assertionsDisabled"), (0, u "Z"), (88, u "(II)I"), (2, u "twoToTheDoubleScaleDown"), (0, u "D"), (4, u "twoToTheDoubleScaleUp"), (9, u "E"), (3, u "PI"), (2, u "TAU"), (2, u "DEGREES_TO_RADIANS"), (0, u "RADIANS_TO_DEGREES")] 94

def k3m0 : Method := { name := "<init>", desc := "()V", sig := { parameters := [], returnType := none }, accessFlags := 2, code := none }
def k3c1 : Code := { maxStack := 2, maxLocals := 2, code := jdk_29_method_65_code, exceptionTable := #[], attributes := #[] }
def k3m1 : Method := { name := "max", desc := "(II)I", sig := { parameters := [.int, .int], returnType := some .int }, accessFlags := 9, code := some k3c1 }
def k3c2 : Code := { maxStack := 4, maxLocals := 4, code := jdk_29_method_66_code, exceptionTable := #[], attributes := #[] }
def k3m2 : Method := { name := "max", desc := "(JJ)J", sig := { parameters := [.long, .long], returnType := some .long }, accessFlags := 9, code := some k3c2 }
/-- java/lang/Math -/
def k3 : Class := { plain "java/lang/Math" (some 0) with
  accessFlags := 49
  interfaces := #[]
  cf := some (fileOf pool3 1 #[.nestMembers #[98]] #[{ accessFlags := 2, nameIndex := 7, descriptorIndex := 8, attributes := #[] }, { accessFlags := 9, nameIndex := 198, descriptorIndex := 335, attributes := #[] }, { accessFlags := 9, nameIndex := 198, descriptorIndex := 121, attributes := #[] }] 49 4 #[] #[{ accessFlags := 25, nameIndex := 354, descriptorIndex := 339, attributes := #[] }, { accessFlags := 25, nameIndex := 358, descriptorIndex := 339, attributes := #[] }, { accessFlags := 25, nameIndex := 361, descriptorIndex := 339, attributes := #[] }, { accessFlags := 26, nameIndex := 364, descriptorIndex := 339, attributes := #[] }, { accessFlags := 26, nameIndex := 365, descriptorIndex := 339, attributes := #[] }, { accessFlags := 26, nameIndex := 172, descriptorIndex := 173, attributes := #[] }, { accessFlags := 26, nameIndex := 176, descriptorIndex := 173, attributes := #[] }, { accessFlags := 8, nameIndex := 344, descriptorIndex := 339, attributes := #[] }, { accessFlags := 8, nameIndex := 338, descriptorIndex := 339, attributes := #[] }, { accessFlags := 4120, nameIndex := 245, descriptorIndex := 246, attributes := #[] }])
  fields := #[{ name := "E", type := .double, accessFlags := 25, slot := 0, constantValue := 0 }, { name := "PI", type := .double, accessFlags := 25, slot := 1, constantValue := 0 }, { name := "TAU", type := .double, accessFlags := 25, slot := 2, constantValue := 0 }, { name := "DEGREES_TO_RADIANS", type := .double, accessFlags := 26, slot := 3, constantValue := 0 }, { name := "RADIANS_TO_DEGREES", type := .double, accessFlags := 26, slot := 4, constantValue := 0 }, { name := "negativeZeroFloatBits", type := .long, accessFlags := 26, slot := 5, constantValue := 0 }, { name := "negativeZeroDoubleBits", type := .long, accessFlags := 26, slot := 6, constantValue := 0 }, { name := "twoToTheDoubleScaleUp", type := .double, accessFlags := 8, slot := 7, constantValue := 0 }, { name := "twoToTheDoubleScaleDown", type := .double, accessFlags := 8, slot := 8, constantValue := 0 }, { name := "$assertionsDisabled", type := .boolean, accessFlags := 4120, slot := 9, constantValue := 0 }]
  methods := #[k3m0, k3m1, k3m2]
  instanceTypes := #[]
  staticTypes := #[.double, .double, .double, .double, .double, .long, .long, .double, .double, .boolean]
  resolved := Array.replicate 460 none
  statics := none }

def pool4 : Array CpInfo := pool [(1, u "java/lang/Cloneable"), (0, .class_ 1), (0, u "java/lang/Object"), (0, .class_ 3)] 3

/-- java/lang/Cloneable -/
def k4 : Class := { plain "java/lang/Cloneable" (some 0) with
  accessFlags := 1537
  interfaces := #[]
  cf := some (fileOf pool4 2 #[] #[] 1537 4 #[] #[])
  fields := #[]
  methods := #[]
  instanceTypes := #[]
  staticTypes := #[]
  resolved := Array.replicate 8 none
  statics := none }

def pool5 : Array CpInfo := pool [(1, u "java/io/Serializable"), (0, .class_ 1), (0, u "java/lang/Object"), (0, .class_ 3)] 3

/-- java/io/Serializable -/
def k5 : Class := { plain "java/io/Serializable" (some 0) with
  accessFlags := 1537
  interfaces := #[]
  cf := some (fileOf pool5 2 #[] #[] 1537 4 #[] #[])
  fields := #[]
  methods := #[]
  instanceTypes := #[]
  staticTypes := #[]
  resolved := Array.replicate 8 none
  statics := none }

/-- the primitive byte -/
def k6 : Class := { plain "byte" none with kind := .primitive 'B', accessFlags := 0x411 }
/-- [B -/
def k7 : Class := { plain "[B" (some 0) with kind := .array 6 .byte, interfaces := #[4, 5], accessFlags := 1041 }

/-- the primitive int -/
def k8 : Class := { plain "int" none with kind := .primitive 'I', accessFlags := 0x411 }
/-- [I -/
def k9 : Class := { plain "[I" (some 0) with kind := .array 8 .int, interfaces := #[4, 5], accessFlags := 1041 }

/-- the primitive long -/
def k10 : Class := { plain "long" none with kind := .primitive 'J', accessFlags := 0x411 }
/-- [J -/
def k11 : Class := { plain "[J" (some 0) with kind := .array 10 .long, interfaces := #[4, 5], accessFlags := 1041 }

def heap : Heap := #[{ cls := 2, slots := #[.int 0, .long 0, .double 0, .ref 1], vm := .statics 2 },
  { cls := 11, slots := #[.long 1, .long 1, .long 2, .long 4, .long 6, .long 10, .long 16, .long 26, .long 42, .long 68, .long 109, .long 175, .long 281, .long 450, .long 720, .long 1152, .long 1844, .long 2951, .long 4722, .long 7555, .long 12089, .long 19342, .long 30948, .long 49517, .long 79228, .long 126765, .long 202824, .long 324518, .long 519229, .long 830767, .long 1329227, .long 2126764, .long 3402823, .long 5444517, .long 8711228, .long 13937965, .long 22300745, .long 35681192, .long 57089907, .long 91343852, .long 146150163, .long 233840261, .long 374144419, .long 598631070, .long 957809713, .long 1532495540, .long 2451992865, .long 3923188584, .long 6277101735, .long 10043362776, .long 16069380442, .long 25711008708, .long 41137613933, .long 65820182292, .long 105312291668, .long 168499666669, .long 269599466671, .long 431359146674, .long 690174634679, .long 1104279415486, .long 1766847064778, .long 2826955303645, .long 4523128485832], vm := .none }]
def classes : Array Class := #[k0, k1, k2, k3, k4, k5, k6, k7, k8, k9, k10, k11]
def interned : List (Array UInt16 × Addr) := []
def slotsUsed : Nat := 67
def theMethod : MethodId := ⟨1, 1⟩
def args0 : Array Value := #[.int 3, .int 1, .int 2, .int 3, .int 5, .int 4]
def aboutOver (below : List Frame) : State where
  vm := { classes := classes, interned := interned.toArray }
  heap := heap
  slotsUsed := slotsUsed
  threads := #[{ frames := .invoking theMethod args0 :: below }]
def below0 : List Frame := [.native { method := ⟨0, 0⟩, args := #[] }]
def about1 : State := aboutOver below0
def p0 : Program := .bare "" "" ""
def e0 : Env := launch0.env 0 0 0
theorem w_frames : about1.frames = Frame.invoking theMethod args0 :: below0 := rfl
set_option maxRecDepth 65536 in
theorem w_args : argsFit about1.vm theMethod args0 = true := by decide +kernel
set_option maxRecDepth 65536 in
theorem w_heap : heapFits about1 = true := by decide +kernel
set_option maxRecDepth 65536 in
theorem w_runnable : about1.curStatus? = some .runnable := by decide +kernel
set_option maxRecDepth 65536 in
theorem w_alone : about1.alone = true := by decide +kernel
set_option maxRecDepth 65536 in
theorem w_named : about1.methodNamed? x = some theMethod := by decide +kernel
set_option maxRecDepth 65536 in
theorem w_hears : about1.hears theMethod below0 = true := by decide +kernel
set_option maxRecDepth 65536 in
theorem w_ripe : about1.ripe theMethod args0 below0 = true := by decide +kernel
theorem w_running : about1.status = .running := rfl
set_option maxRecDepth 65536 in
theorem w_room : about1.hasRoom e0.platform room_1 = true :=
  launch0.hasRoom_least _ room_1 (by decide +kernel) (by decide +kernel) (by decide +kernel) (by decide +kernel) (by decide +kernel) (by decide +kernel)
theorem allAtoms_all (ts : List Jvm.Cond) (a : Array Jvm.Value) (st : Jvm.State) : (allAtoms ts).before a st = ts.all (fun c => c.before a st) := by
  induction ts with
  | nil => rfl
  | cons c t ih =>
    show (Jvm.Cond.and c (allAtoms t)).before a st = _
    rw [Jvm.Cond.before_and, ih, List.all_cons]
def words1 : List Jvm.Cond := Jvm.Cond.code x code maxLocals ret :: tables_1
/-- a 'code' word, met by the world's own term for the bytes: nothing is compared byte by byte -/
theorem code_word {y : MethodName} {bytes : ByteArray} {mx : Nat} {rt : Option FieldType} {a : Array Value} {s : State} {m : MethodId} {meth : Method} {c : Code} (h1 : s.methodNamed? y = some m) (h2 : s.vm.method? m = some meth) (h3 : meth.code = some c) (h4 : c.code = bytes)
    (h5 : (c.maxLocals == mx && c.exceptionTable.isEmpty && decide (c.maxStack ≤ mostOperands) && decide (meth.sig.returnType = rt) && !meth.locks && decide (parseMethodDescriptor y.desc = some meth.sig)) = true) : (Jvm.Cond.code y bytes mx rt).before a s = true := by
  simp only [Bool.and_eq_true, beq_iff_eq, Bool.not_eq_true', decide_eq_true_eq] at h5
  obtain ⟨⟨⟨⟨⟨g1, g2⟩, g3⟩, g4⟩, g5⟩, g6⟩ := h5
  simp [Cond.before, Cond.holds, Cond.value, h1, h2, h3, h4, g1, g2, g3, g4, g5, g6]
def isCode : Jvm.Cond → Bool
  | .code _ _ _ _ => true
  | _ => false
theorem all_split {L : List Jvm.Cond} {P : Jvm.Cond → Bool} (h1 : L.all (fun c => isCode c || P c) = true) (h2 : ∀ c ∈ L.filter isCode, P c = true) : L.all P = true := by
  refine List.all_eq_true.mpr fun c hc => ?_
  have h := List.all_eq_true.mp h1 c hc
  rcases Bool.eq_false_or_eq_true (isCode c) with hi | hi
  · exact h2 c (List.mem_filter.mpr ⟨hc, hi⟩)
  · simpa [hi] using h
set_option maxRecDepth 65536 in
theorem w_c0 : (Jvm.Cond.code x code maxLocals ret).before args0 about1 = true := code_word (m := ⟨1, 1⟩) (meth := k1m1) (c := k1c1) (by decide +kernel) rfl rfl rfl (by decide +kernel)
set_option maxRecDepth 65536 in
theorem w_c1 : (Jvm.Cond.code ({ cls := "com/example/leveler/leveler/crossing/OrderedList", name := "<init>", desc := "([I)V" } : Jvm.MethodName) prog_14_method_1_code (5 : Nat) (Option.none : Option Jvm.ClassFile.FieldType)).before args0 about1 = true := code_word (m := ⟨2, 0⟩) (meth := k2m0) (c := k2c0) (by decide +kernel) rfl rfl rfl (by decide +kernel)
set_option maxRecDepth 65536 in
theorem w_c2 : (Jvm.Cond.code ({ cls := "java/lang/Object", name := "<init>", desc := "()V" } : Jvm.MethodName) object_method_1_code (1 : Nat) (Option.none : Option Jvm.ClassFile.FieldType)).before args0 about1 = true := code_word (m := ⟨0, 0⟩) (meth := k0m0) (c := k0c0) (by decide +kernel) rfl rfl rfl (by decide +kernel)
set_option maxRecDepth 65536 in
theorem w_c3 : (Jvm.Cond.code ({ cls := "java/lang/Math", name := "max", desc := "(II)I" } : Jvm.MethodName) jdk_29_method_65_code (2 : Nat) (Option.some Jvm.ClassFile.FieldType.int)).before args0 about1 = true := code_word (m := ⟨3, 1⟩) (meth := k3m1) (c := k3c1) (by decide +kernel) rfl rfl rfl (by decide +kernel)
set_option maxRecDepth 65536 in
theorem w_c4 : (Jvm.Cond.code ({ cls := "com/example/leveler/leveler/crossing/OrderedList", name := "toArray", desc := "()[I" } : Jvm.MethodName) prog_14_method_6_code (4 : Nat) (Option.some (Jvm.ClassFile.FieldType.array Jvm.ClassFile.FieldType.int))).before args0 about1 = true := code_word (m := ⟨2, 1⟩) (meth := k2m1) (c := k2c1) (by decide +kernel) rfl rfl rfl (by decide +kernel)
set_option maxRecDepth 65536 in
theorem w_c5 : (Jvm.Cond.code ({ cls := "com/example/leveler/leveler/crossing/OrderedListToArrayPinLaw", name := "swap", desc := "([III)V" } : Jvm.MethodName) method_3_code (4 : Nat) (Option.none : Option Jvm.ClassFile.FieldType)).before args0 about1 = true := code_word (m := ⟨1, 2⟩) (meth := k1m2) (c := k1c2) (by decide +kernel) rfl rfl rfl (by decide +kernel)
set_option maxRecDepth 65536 in
theorem w_c6 : (Jvm.Cond.code ({ cls := "com/example/leveler/leveler/crossing/OrderedList", name := "moveBehind", desc := "(II)V" } : Jvm.MethodName) prog_14_method_7_code (4 : Nat) (Option.none : Option Jvm.ClassFile.FieldType)).before args0 about1 = true := code_word (m := ⟨2, 2⟩) (meth := k2m2) (c := k2c2) (by decide +kernel) rfl rfl rfl (by decide +kernel)
set_option maxRecDepth 65536 in
theorem w_c7 : (Jvm.Cond.code ({ cls := "com/example/leveler/leveler/crossing/OrderedList", name := "relabel", desc := "(I)V" } : Jvm.MethodName) prog_14_method_8_code (22 : Nat) (Option.none : Option Jvm.ClassFile.FieldType)).before args0 about1 = true := code_word (m := ⟨2, 3⟩) (meth := k2m3) (c := k2c3) (by decide +kernel) rfl rfl rfl (by decide +kernel)
set_option maxRecDepth 65536 in
theorem w_c8 : (Jvm.Cond.code ({ cls := "com/example/leveler/leveler/crossing/OrderedListToArrayPinLaw", name := "indexOf4", desc := "([II)I" } : Jvm.MethodName) method_4_code (2 : Nat) (Option.some Jvm.ClassFile.FieldType.int)).before args0 about1 = true := code_word (m := ⟨1, 3⟩) (meth := k1m3) (c := k1c3) (by decide +kernel) rfl rfl rfl (by decide +kernel)
set_option maxRecDepth 65536 in
theorem w_c9 : (Jvm.Cond.code ({ cls := "com/example/leveler/leveler/crossing/OrderedListToArrayPinLaw", name := "indexOf3", desc := "([II)I" } : Jvm.MethodName) method_5_code (2 : Nat) (Option.some Jvm.ClassFile.FieldType.int)).before args0 about1 = true := code_word (m := ⟨1, 4⟩) (meth := k1m4) (c := k1c4) (by decide +kernel) rfl rfl rfl (by decide +kernel)
set_option maxRecDepth 65536 in
theorem w_c10 : (Jvm.Cond.code ({ cls := "com/example/leveler/leveler/crossing/OrderedListToArrayPinLaw", name := "at", desc := "([IIII)I" } : Jvm.MethodName) method_6_code (4 : Nat) (Option.some Jvm.ClassFile.FieldType.int)).before args0 about1 = true := code_word (m := ⟨1, 5⟩) (meth := k1m5) (c := k1c5) (by decide +kernel) rfl rfl rfl (by decide +kernel)
set_option maxRecDepth 65536 in
theorem w_c11 : (Jvm.Cond.code ({ cls := "java/lang/Math", name := "max", desc := "(JJ)J" } : Jvm.MethodName) jdk_29_method_66_code (4 : Nat) (Option.some Jvm.ClassFile.FieldType.long)).before args0 about1 = true := code_word (m := ⟨3, 2⟩) (meth := k3m2) (c := k3c2) (by decide +kernel) rfl rfl rfl (by decide +kernel)
def codes1 : List Jvm.Cond := [Jvm.Cond.code x code maxLocals ret, Jvm.Cond.code ({ cls := "com/example/leveler/leveler/crossing/OrderedList", name := "<init>", desc := "([I)V" } : Jvm.MethodName) prog_14_method_1_code (5 : Nat) (Option.none : Option Jvm.ClassFile.FieldType), Jvm.Cond.code ({ cls := "java/lang/Object", name := "<init>", desc := "()V" } : Jvm.MethodName) object_method_1_code (1 : Nat) (Option.none : Option Jvm.ClassFile.FieldType), Jvm.Cond.code ({ cls := "java/lang/Math", name := "max", desc := "(II)I" } : Jvm.MethodName) jdk_29_method_65_code (2 : Nat) (Option.some Jvm.ClassFile.FieldType.int), Jvm.Cond.code ({ cls := "com/example/leveler/leveler/crossing/OrderedList", name := "toArray", desc := "()[I" } : Jvm.MethodName) prog_14_method_6_code (4 : Nat) (Option.some (Jvm.ClassFile.FieldType.array Jvm.ClassFile.FieldType.int)), Jvm.Cond.code ({ cls := "com/example/leveler/leveler/crossing/OrderedListToArrayPinLaw", name := "swap", desc := "([III)V" } : Jvm.MethodName) method_3_code (4 : Nat) (Option.none : Option Jvm.ClassFile.FieldType), Jvm.Cond.code ({ cls := "com/example/leveler/leveler/crossing/OrderedList", name := "moveBehind", desc := "(II)V" } : Jvm.MethodName) prog_14_method_7_code (4 : Nat) (Option.none : Option Jvm.ClassFile.FieldType), Jvm.Cond.code ({ cls := "com/example/leveler/leveler/crossing/OrderedList", name := "relabel", desc := "(I)V" } : Jvm.MethodName) prog_14_method_8_code (22 : Nat) (Option.none : Option Jvm.ClassFile.FieldType), Jvm.Cond.code ({ cls := "com/example/leveler/leveler/crossing/OrderedListToArrayPinLaw", name := "indexOf4", desc := "([II)I" } : Jvm.MethodName) method_4_code (2 : Nat) (Option.some Jvm.ClassFile.FieldType.int), Jvm.Cond.code ({ cls := "com/example/leveler/leveler/crossing/OrderedListToArrayPinLaw", name := "indexOf3", desc := "([II)I" } : Jvm.MethodName) method_5_code (2 : Nat) (Option.some Jvm.ClassFile.FieldType.int), Jvm.Cond.code ({ cls := "com/example/leveler/leveler/crossing/OrderedListToArrayPinLaw", name := "at", desc := "([IIII)I" } : Jvm.MethodName) method_6_code (4 : Nat) (Option.some Jvm.ClassFile.FieldType.int), Jvm.Cond.code ({ cls := "java/lang/Math", name := "max", desc := "(JJ)J" } : Jvm.MethodName) jdk_29_method_66_code (4 : Nat) (Option.some Jvm.ClassFile.FieldType.long)]
set_option maxRecDepth 65536 in
theorem codes_eq : words1.filter isCode = codes1 := rfl
theorem w_codes : ∀ c ∈ words1.filter isCode, c.before args0 about1 = true := by
  rw [codes_eq]
  intro c hc
  simp only [codes1, List.mem_cons, List.not_mem_nil, or_false] at hc
  rcases hc with rfl | rfl | rfl | rfl | rfl | rfl | rfl | rfl | rfl | rfl | rfl | rfl
  · exact w_c0
  · exact w_c1
  · exact w_c2
  · exact w_c3
  · exact w_c4
  · exact w_c5
  · exact w_c6
  · exact w_c7
  · exact w_c8
  · exact w_c9
  · exact w_c10
  · exact w_c11
set_option maxRecDepth 65536 in
theorem w_t1 : (words1.take 24).all (fun c => isCode c || c.before args0 about1) = true := by decide +kernel
set_option maxRecDepth 65536 in
theorem w_t2 : ((words1.drop 24).take 24).all (fun c => isCode c || c.before args0 about1) = true := by decide +kernel
set_option maxRecDepth 65536 in
theorem w_t3 : ((words1.drop 24).drop 24).all (fun c => isCode c || c.before args0 about1) = true := by decide +kernel
theorem w_tables : (allAtoms (Jvm.Cond.code x code maxLocals ret :: tables_1)).before args0 about1 = true := by
  rw [allAtoms_all]
  show words1.all (fun c => c.before args0 about1) = true
  refine all_split ?_ w_codes
  rw [← List.take_append_drop 24 words1, List.all_append, w_t1, ← List.take_append_drop 24 (words1.drop 24), List.all_append, w_t2, w_t3]
  rfl
set_option maxRecDepth 65536 in
theorem w_case : (Jvm.Cond.and given_1 narrow_1).before args0 about1 = true := by decide +kernel
theorem w_applies : (headSpec (Jvm.Cond.code x code maxLocals ret :: tables_1) room_1).applies x e0.platform about1 = true :=
  (Spec.applies_iff w_frames).mpr ⟨w_running, w_runnable, w_alone, w_named, w_hears, w_ripe, w_room, w_tables⟩
theorem atStart : AtStart classFile x code maxLocals ret World_1 tables_1 room_1 Calls_1 rest_1 Pre_1 launch0 p0 e0 about1 theMethod args0 below0 :=
  ⟨lists_1, trivial, launch0.admits_env _ _ _, launch0.least_env, fairChoices_fair.cas, fairChoices_fair.clock, w_frames, w_args, w_heap, w_applies, trivial, trivial, w_case⟩
end start1
theorem witness_1 : WitnessClaimed_1 := ⟨start1.p0, start1.e0, start1.about1, start1.theMethod, start1.args0, start1.below0, start1.atStart⟩
end Jvm.Pilot.@@N@@
