import JvmDerived
import JvmDerived.Pilot.@@N@@Statement
import JvmDerived.Pilot.@@N@@Code
set_option linter.unusedVariables false
set_option linter.unusedSimpArgs false
namespace Jvm.Own
open Jvm Sem ClassFile Op Lib Jvm.Stand Jvm.Free Jvm.LawKit Jvm.RoadKit Bundle
/-- from the state U on the body comes to its end, and what it leaves answers to Q -/
def Ends (tb : Tables) (e : Env) (below : List Frame) (Q : Option Value → Heap → List Loc → Prop) (F : Outcome → State → List Loc → Prop) (U : State) : Prop :=
  ∃ s₂ o, Steps tb e below U s₂ ∧ s₂.status = .running ∧ Ended s₂ below o ∧ ∃ v L, o = .returned v ∧ Q v s₂.heap L ∧ F o s₂ L
/-- the frame that a body keeps; the wide one of a body that may load a String constant -/
abbrev FE (s : State) (C S : Nat) : Outcome → State → List Loc → Prop := fun o t L => FrameEnd s o t L C S
abbrev FW (s : State) (C S : Nat) : Outcome → State → List Loc → Prop := fun o t L => ReturnedEndW s o t L C S
section Walk
variable {p : Program} {l : Launch} {e : Env} {R : Room} {s : State} {m : MethodId} {args : Array Value} {below : List Frame} {meth : Method} {c : Code} {T : State} {locs : List Loc} {cells slots : Nat} {Q : Option Value → Heap → List Loc → Prop} {F : Outcome → State → List Loc → Prop} {C S : Nat} {pc : Nat} {Ls : Array Slot} {st : List Value} {Z : State} {a0 : Array Value} {h : Heap}
theorem Ends.step {tb : Tables} {U V : State} (k : Ends tb e below Q F V) (hs : ∀ t, Steps tb e below V t → Steps tb e below U t) : Ends tb e below Q F U := by
  obtain ⟨s₂, o, h1, r⟩ := k
  exact ⟨s₂, o, hs _ h1, r⟩
theorem Ends.mono {tb : Tables} {U : State} {Q' : Option Value → Heap → List Loc → Prop} (k : Ends tb e below Q' F U) (hq : ∀ v h L, Q' v h L → Q v h L) : Ends tb e below Q F U := by
  obtain ⟨s₂, o, h1, h2, h3, v, L, h4, h5, h6⟩ := k
  exact ⟨s₂, o, h1, h2, h3, v, L, h4, hq _ _ _ h5, h6⟩
theorem iload (n : Nat) (X : Stand p l e R s m args below meth c T locs cells slots) (hx : p.tables.exec = Jvm.exec) {k : Nat} {v : Int32} (hd : decode c.code pc = .ok (.iload k, 2)) (hn : pc + 2 = n) (hl : Ls[k]? = some (.val (.int v))) (K : Ends p.tables e below Q F (T.setTop (mkF m n Ls (.int v :: st)))) : Ends p.tables e below Q F (T.setTop (mkF m pc Ls (st))) := by
  subst hn; exact K.step fun t k => XS.iload (g := mkF m pc Ls (st)) X.here hx rfl hd hl k
theorem iloadN (n : Nat) (X : Stand p l e R s m args below meth c T locs cells slots) (hx : p.tables.exec = Jvm.exec) {k : Fin 4} {v : Int32} (hd : decode c.code pc = .ok (.iload_n k, 1)) (hn : pc + 1 = n) (hl : Ls[k.val]? = some (.val (.int v))) (K : Ends p.tables e below Q F (T.setTop (mkF m n Ls (.int v :: st)))) : Ends p.tables e below Q F (T.setTop (mkF m pc Ls (st))) := by
  subst hn; exact K.step fun t k => XS.iloadN (g := mkF m pc Ls (st)) X.here hx rfl hd hl k
theorem aload (n : Nat) (X : Stand p l e R s m args below meth c T locs cells slots) (hx : p.tables.exec = Jvm.exec) {k : Nat} {v : Value} (hd : decode c.code pc = .ok (.aload k, 2)) (hn : pc + 2 = n) (hl : Ls[k]? = some (.val v)) (hv : v.isRef = true) (K : Ends p.tables e below Q F (T.setTop (mkF m n Ls (v :: st)))) : Ends p.tables e below Q F (T.setTop (mkF m pc Ls (st))) := by
  subst hn; exact K.step fun t k => XS.aload (g := mkF m pc Ls (st)) X.here hx rfl hd hl hv k
theorem aloadN (n : Nat) (X : Stand p l e R s m args below meth c T locs cells slots) (hx : p.tables.exec = Jvm.exec) {k : Fin 4} {v : Value} (hd : decode c.code pc = .ok (.aload_n k, 1)) (hn : pc + 1 = n) (hl : Ls[k.val]? = some (.val v)) (hv : v.isRef = true) (K : Ends p.tables e below Q F (T.setTop (mkF m n Ls (v :: st)))) : Ends p.tables e below Q F (T.setTop (mkF m pc Ls (st))) := by
  subst hn; exact K.step fun t k => XS.aloadN (g := mkF m pc Ls (st)) X.here hx rfl hd hl hv k
theorem iconst (n : Nat) (X : Stand p l e R s m args below meth c T locs cells slots) (hx : p.tables.exec = Jvm.exec) {i : Int} (v : Int32) (hd : decode c.code pc = .ok (.iconst i, 1)) (hn : pc + 1 = n) (hv : Int32.ofInt i = v) (K : Ends p.tables e below Q F (T.setTop (mkF m n Ls (.int v :: st)))) : Ends p.tables e below Q F (T.setTop (mkF m pc Ls (st))) := by
  subst hn; exact K.step fun t k => XS.iconst (g := mkF m pc Ls (st)) X.here hx rfl hd (hv ▸ k)
theorem bipush (n : Nat) (X : Stand p l e R s m args below meth c T locs cells slots) (hx : p.tables.exec = Jvm.exec) {i : Int} (v : Int32) (hd : decode c.code pc = .ok (.bipush i, 2)) (hn : pc + 2 = n) (hv : (Int8.ofInt i).toInt32 = v) (K : Ends p.tables e below Q F (T.setTop (mkF m n Ls (.int v :: st)))) : Ends p.tables e below Q F (T.setTop (mkF m pc Ls (st))) := by
  subst hn; exact K.step fun t k => XS.bipush (g := mkF m pc Ls (st)) X.here hx rfl hd (hv ▸ k)
theorem sipush (n : Nat) (X : Stand p l e R s m args below meth c T locs cells slots) (hx : p.tables.exec = Jvm.exec) {i : Int} (v : Int32) (hd : decode c.code pc = .ok (.sipush i, 3)) (hn : pc + 3 = n) (hv : (Int16.ofInt i).toInt32 = v) (K : Ends p.tables e below Q F (T.setTop (mkF m n Ls (.int v :: st)))) : Ends p.tables e below Q F (T.setTop (mkF m pc Ls (st))) := by
  subst hn; exact K.step fun t k => XS.sipush (g := mkF m pc Ls (st)) X.here hx rfl hd (hv ▸ k)
theorem iadd (n : Nat) (X : Stand p l e R s m args below meth c T locs cells slots) (hx : p.tables.exec = Jvm.exec) {x y r : Int32} {rest : List Value} (hd : decode c.code pc = .ok (.iadd, 1)) (hn : pc + 1 = n) (hr : x + y = r) (K : Ends p.tables e below Q F (T.setTop (mkF m n Ls (.int r :: rest)))) : Ends p.tables e below Q F (T.setTop (mkF m pc Ls (.int y :: .int x :: rest))) := by
  subst hn; exact K.step fun t k => XS.iadd (g := mkF m pc Ls (.int y :: .int x :: rest)) X.here hx rfl hd rfl (hr ▸ k)
theorem isub (n : Nat) (X : Stand p l e R s m args below meth c T locs cells slots) (hx : p.tables.exec = Jvm.exec) {x y r : Int32} {rest : List Value} (hd : decode c.code pc = .ok (.isub, 1)) (hn : pc + 1 = n) (hr : x - y = r) (K : Ends p.tables e below Q F (T.setTop (mkF m n Ls (.int r :: rest)))) : Ends p.tables e below Q F (T.setTop (mkF m pc Ls (.int y :: .int x :: rest))) := by
  subst hn; exact K.step fun t k => XS.isub (g := mkF m pc Ls (.int y :: .int x :: rest)) X.here hx rfl hd rfl (hr ▸ k)
theorem iand (n : Nat) (X : Stand p l e R s m args below meth c T locs cells slots) (hx : p.tables.exec = Jvm.exec) {x y r : Int32} {rest : List Value} (hd : decode c.code pc = .ok (.iand, 1)) (hn : pc + 1 = n) (hr : x &&& y = r) (K : Ends p.tables e below Q F (T.setTop (mkF m n Ls (.int r :: rest)))) : Ends p.tables e below Q F (T.setTop (mkF m pc Ls (.int y :: .int x :: rest))) := by
  subst hn; exact K.step fun t k => XS.iand (g := mkF m pc Ls (.int y :: .int x :: rest)) X.here hx rfl hd rfl (hr ▸ k)
theorem imul (n : Nat) (X : Stand p l e R s m args below meth c T locs cells slots) (hx : p.tables.exec = Jvm.exec) {x y r : Int32} {rest : List Value} (hd : decode c.code pc = .ok (.imul, 1)) (hn : pc + 1 = n) (hr : x * y = r) (K : Ends p.tables e below Q F (T.setTop (mkF m n Ls (.int r :: rest)))) : Ends p.tables e below Q F (T.setTop (mkF m pc Ls (.int y :: .int x :: rest))) := by
  subst hn; exact K.step fun t k => XS.imul (g := mkF m pc Ls (.int y :: .int x :: rest)) X.here hx rfl hd rfl (hr ▸ k)
theorem iushr (n : Nat) (X : Stand p l e R s m args below meth c T locs cells slots) (hx : p.tables.exec = Jvm.exec) {x y r : Int32} {rest : List Value} (hd : decode c.code pc = .ok (.iushr, 1)) (hn : pc + 1 = n) (hr : (x.toUInt32 >>> (y &&& 31).toUInt32).toInt32 = r) (K : Ends p.tables e below Q F (T.setTop (mkF m n Ls (.int r :: rest)))) : Ends p.tables e below Q F (T.setTop (mkF m pc Ls (.int y :: .int x :: rest))) := by
  subst hn; exact K.step fun t k => XS.iushr (g := mkF m pc Ls (.int y :: .int x :: rest)) X.here hx rfl hd rfl (hr ▸ k)
theorem idiv (n : Nat) (X : Stand p l e R s m args below meth c T locs cells slots) (hx : p.tables.exec = Jvm.exec) {x y r : Int32} {rest : List Value} (hd : decode c.code pc = .ok (.idiv, 1)) (hn : pc + 1 = n) (hy : y ≠ 0) (hr : x / y = r) (K : Ends p.tables e below Q F (T.setTop (mkF m n Ls (.int r :: rest)))) : Ends p.tables e below Q F (T.setTop (mkF m pc Ls (.int y :: .int x :: rest))) := by
  subst hn; exact K.step fun t k => XS.idiv (g := mkF m pc Ls (.int y :: .int x :: rest)) X.here hx rfl hd rfl hy (hr ▸ k)
theorem irem (n : Nat) (X : Stand p l e R s m args below meth c T locs cells slots) (hx : p.tables.exec = Jvm.exec) {x y r : Int32} {rest : List Value} (hd : decode c.code pc = .ok (.irem, 1)) (hn : pc + 1 = n) (hy : y ≠ 0) (hr : x % y = r) (K : Ends p.tables e below Q F (T.setTop (mkF m n Ls (.int r :: rest)))) : Ends p.tables e below Q F (T.setTop (mkF m pc Ls (.int y :: .int x :: rest))) := by
  subst hn; exact K.step fun t k => iremM (g := mkF m pc Ls (.int y :: .int x :: rest)) X hx rfl hd rfl hy (hr ▸ k)
theorem dup (n : Nat) (X : Stand p l e R s m args below meth c T locs cells slots) (hx : p.tables.exec = Jvm.exec) {x : Value} {rest : List Value} (hd : decode c.code pc = .ok (.dup, 1)) (hn : pc + 1 = n) (hc : x.category = 1) (K : Ends p.tables e below Q F (T.setTop (mkF m n Ls (x :: x :: rest)))) : Ends p.tables e below Q F (T.setTop (mkF m pc Ls (x :: rest))) := by
  subst hn; exact K.step fun t k => XS.dup (g := mkF m pc Ls (x :: rest)) X.here hx rfl hd rfl hc k
theorem dupX1 (n : Nat) (X : Stand p l e R s m args below meth c T locs cells slots) (hx : p.tables.exec = Jvm.exec) {x y : Value} {rest : List Value} (hd : decode c.code pc = .ok (.dup_x1, 1)) (hn : pc + 1 = n) (hc : x.category = 1) (hc2 : y.category = 1) (K : Ends p.tables e below Q F (T.setTop (mkF m n Ls (x :: y :: x :: rest)))) : Ends p.tables e below Q F (T.setTop (mkF m pc Ls (x :: y :: rest))) := by
  subst hn; exact K.step fun t k => XS.dupX1 (g := mkF m pc Ls (x :: y :: rest)) X.here hx rfl hd rfl hc hc2 k
theorem istore (n : Nat) (Fs : Int32 → Array Slot) (X : Stand p l e R s m args below meth c T locs cells slots) (hx : p.tables.exec = Jvm.exec) {k : Nat} {x : Int32} {rest : List Value} (hd : decode c.code pc = .ok (.istore k, 2)) (hn : pc + 2 = n) (hl : ∀ z, storeLocals Ls k (.int z) = some (Fs z)) (K : ∀ z, z = x → Ends p.tables e below Q F (T.setTop (mkF m n (Fs z) (rest)))) : Ends p.tables e below Q F (T.setTop (mkF m pc Ls (.int x :: rest))) := by
  subst hn; exact (K x rfl).step fun t k => XS.istore (g := mkF m pc Ls (.int x :: rest)) X.here hx rfl hd rfl (hl x) k
theorem istoreV (n : Nat) (L1 : Array Slot) (X : Stand p l e R s m args below meth c T locs cells slots) (hx : p.tables.exec = Jvm.exec) {k : Nat} {x : Int32} {rest : List Value} (hd : decode c.code pc = .ok (.istore k, 2)) (hn : pc + 2 = n) (hl : storeLocals Ls k (.int x) = some L1) (K : Ends p.tables e below Q F (T.setTop (mkF m n L1 (rest)))) : Ends p.tables e below Q F (T.setTop (mkF m pc Ls (.int x :: rest))) := by
  subst hn; exact K.step fun t k => XS.istore (g := mkF m pc Ls (.int x :: rest)) X.here hx rfl hd rfl hl k
theorem istoreN (n : Nat) (Fs : Int32 → Array Slot) (X : Stand p l e R s m args below meth c T locs cells slots) (hx : p.tables.exec = Jvm.exec) {k : Fin 4} {x : Int32} {rest : List Value} (hd : decode c.code pc = .ok (.istore_n k, 1)) (hn : pc + 1 = n) (hl : ∀ z, storeLocals Ls k.val (.int z) = some (Fs z)) (K : ∀ z, z = x → Ends p.tables e below Q F (T.setTop (mkF m n (Fs z) (rest)))) : Ends p.tables e below Q F (T.setTop (mkF m pc Ls (.int x :: rest))) := by
  subst hn; exact (K x rfl).step fun t k => XS.istoreN (g := mkF m pc Ls (.int x :: rest)) X.here hx rfl hd rfl (hl x) k
theorem istoreNV (n : Nat) (L1 : Array Slot) (X : Stand p l e R s m args below meth c T locs cells slots) (hx : p.tables.exec = Jvm.exec) {k : Fin 4} {x : Int32} {rest : List Value} (hd : decode c.code pc = .ok (.istore_n k, 1)) (hn : pc + 1 = n) (hl : storeLocals Ls k.val (.int x) = some L1) (K : Ends p.tables e below Q F (T.setTop (mkF m n L1 (rest)))) : Ends p.tables e below Q F (T.setTop (mkF m pc Ls (.int x :: rest))) := by
  subst hn; exact K.step fun t k => XS.istoreN (g := mkF m pc Ls (.int x :: rest)) X.here hx rfl hd rfl hl k
theorem astore (n : Nat) (L1 : Array Slot) (X : Stand p l e R s m args below meth c T locs cells slots) (hx : p.tables.exec = Jvm.exec) {k : Nat} {x : Value} {rest : List Value} (hd : decode c.code pc = .ok (.astore k, 2)) (hn : pc + 2 = n) (hv : x.isRef = true) (hl : storeLocals Ls k x = some L1) (K : Ends p.tables e below Q F (T.setTop (mkF m n L1 (rest)))) : Ends p.tables e below Q F (T.setTop (mkF m pc Ls (x :: rest))) := by
  subst hn; exact K.step fun t k => XS.astore (g := mkF m pc Ls (x :: rest)) X.here hx rfl hd rfl hv hl k
theorem astoreN (n : Nat) (L1 : Array Slot) (X : Stand p l e R s m args below meth c T locs cells slots) (hx : p.tables.exec = Jvm.exec) {k : Fin 4} {x : Value} {rest : List Value} (hd : decode c.code pc = .ok (.astore_n k, 1)) (hn : pc + 1 = n) (hv : x.isRef = true) (hl : storeLocals Ls k.val x = some L1) (K : Ends p.tables e below Q F (T.setTop (mkF m n L1 (rest)))) : Ends p.tables e below Q F (T.setTop (mkF m pc Ls (x :: rest))) := by
  subst hn; exact K.step fun t k => XS.astoreN (g := mkF m pc Ls (x :: rest)) X.here hx rfl hd rfl hv hl k
theorem iinc (n : Nat) (Fs : Int32 → Array Slot) (X : Stand p l e R s m args below meth c T locs cells slots) (hx : p.tables.exec = Jvm.exec) {k : Nat} {cst : Int} {x : Int32} (d : Int32) (hd : decode c.code pc = .ok (.iinc k cst, 3)) (hn : pc + 3 = n) (hc : Int32.ofInt cst = d) (hl : Ls[k]? = some (.val (.int x))) (hl2 : ∀ z, storeLocals Ls k (.int z) = some (Fs z)) (K : ∀ z, z = x + d → Ends p.tables e below Q F (T.setTop (mkF m n (Fs z) (st)))) : Ends p.tables e below Q F (T.setTop (mkF m pc Ls (st))) := by
  subst hn hc; exact (K _ rfl).step fun t k => XS.iinc (g := mkF m pc Ls st) X.here hx rfl hd hl (hl2 _) k
theorem goto (n : Nat) (X : Stand p l e R s m args below meth c T locs cells slots) (hx : p.tables.exec = Jvm.exec) {o : Int} (hd : decode c.code pc = .ok (.goto o, 3)) (hn : 0 ≤ (pc : Int) + o ∧ ((pc : Int) + o).toNat = n) (K : Ends p.tables e below Q F (T.setTop (mkF m n Ls (st)))) : Ends p.tables e below Q F (T.setTop (mkF m pc Ls (st))) :=
  K.step fun t k => XS.goto (g := mkF m pc Ls st) X.here hx rfl (pc0 := pc) (pc' := n) rfl hd hn.1 hn.2 k
theorem icmpB (nY nN : Nat) (X : Stand p l e R s m args below meth c T locs cells slots) (hx : p.tables.exec = Jvm.exec) {cd : ClassFile.Cond} {o : Int} {x y : Int32} {rest : List Value} (hd : decode c.code pc = .ok (.if_icmp cd o, 3)) (hY : 0 ≤ (pc : Int) + o ∧ ((pc : Int) + o).toNat = nY) (hN : pc + 3 = nN) (KY : if_icmp.holds cd x y = true → Ends p.tables e below Q F (T.setTop (mkF m nY Ls (rest)))) (KN : if_icmp.holds cd x y = false → Ends p.tables e below Q F (T.setTop (mkF m nN Ls (rest)))) : Ends p.tables e below Q F (T.setTop (mkF m pc Ls (.int y :: .int x :: rest))) := by
  subst hN
  cases hb : if_icmp.holds cd x y with
  | true => exact (KY hb).step fun t k => XS.icmpYes (g := mkF m pc Ls (.int y :: .int x :: rest)) X.here hx rfl (pc0 := pc) (pc' := nY) rfl hd rfl hb hY.1 hY.2 k
  | false => exact (KN hb).step fun t k => XS.icmpNo (g := mkF m pc Ls (.int y :: .int x :: rest)) X.here hx rfl hd rfl hb k
theorem ifB (nY nN : Nat) (X : Stand p l e R s m args below meth c T locs cells slots) (hx : p.tables.exec = Jvm.exec) {cd : ClassFile.Cond} {o : Int} {x : Int32} {rest : List Value} (hd : decode c.code pc = .ok (.ifCond cd o, 3)) (hY : 0 ≤ (pc : Int) + o ∧ ((pc : Int) + o).toNat = nY) (hN : pc + 3 = nN) (KY : if_icmp.holds cd x 0 = true → Ends p.tables e below Q F (T.setTop (mkF m nY Ls (rest)))) (KN : if_icmp.holds cd x 0 = false → Ends p.tables e below Q F (T.setTop (mkF m nN Ls (rest)))) : Ends p.tables e below Q F (T.setTop (mkF m pc Ls (.int x :: rest))) := by
  subst hN
  cases hb : if_icmp.holds cd x 0 with
  | true => exact (KY hb).step fun t k => XS.ifYes (g := mkF m pc Ls (.int x :: rest)) X.here hx rfl (pc0 := pc) (pc' := nY) rfl hd rfl ((if0 _ _).trans hb) hY.1 hY.2 k
  | false => exact (KN hb).step fun t k => XS.ifNo (g := mkF m pc Ls (.int x :: rest)) X.here hx rfl hd rfl ((if0 _ _).trans hb) k
theorem h_lt {x y : Int32} : (if_icmp.holds .lt x y = true → x < y) ∧ (if_icmp.holds .lt x y = false → ¬ x < y) := by simp [if_icmp.holds]
theorem h_ge {x y : Int32} : (if_icmp.holds .ge x y = true → ¬ x < y) ∧ (if_icmp.holds .ge x y = false → x < y) := by simp [if_icmp.holds, Int32.not_lt, Int32.not_le]
theorem h_gt {x y : Int32} : (if_icmp.holds .gt x y = true → y < x) ∧ (if_icmp.holds .gt x y = false → ¬ y < x) := by simp [if_icmp.holds, Int32.not_lt, Int32.not_le]
theorem h_le {x y : Int32} : (if_icmp.holds .le x y = true → ¬ y < x) ∧ (if_icmp.holds .le x y = false → y < x) := by simp [if_icmp.holds, Int32.not_lt, Int32.not_le]
theorem h_eq {x y : Int32} : (if_icmp.holds .eq x y = true → x = y) ∧ (if_icmp.holds .eq x y = false → ¬ x = y) := by simp [if_icmp.holds]
theorem h_ne {x y : Int32} : (if_icmp.holds .ne x y = true → ¬ x = y) ∧ (if_icmp.holds .ne x y = false → x = y) := by simp [if_icmp.holds]
theorem icmp_lt (nY nN : Nat) (X : Stand p l e R s m args below meth c T locs cells slots) (hx : p.tables.exec = Jvm.exec) {o : Int} {x y : Int32} {rest : List Value} (hd : decode c.code pc = .ok (.if_icmp .lt o, 3)) (hY : 0 ≤ (pc : Int) + o ∧ ((pc : Int) + o).toNat = nY) (hN : pc + 3 = nN) (KY : x < y → Ends p.tables e below Q F (T.setTop (mkF m nY Ls (rest)))) (KN : ¬ x < y → Ends p.tables e below Q F (T.setTop (mkF m nN Ls (rest)))) : Ends p.tables e below Q F (T.setTop (mkF m pc Ls (.int y :: .int x :: rest))) :=
  icmpB nY nN X hx hd hY hN (fun hb => KY (h_lt.1 hb)) (fun hb => KN (h_lt.2 hb))
theorem icmp_ge (nY nN : Nat) (X : Stand p l e R s m args below meth c T locs cells slots) (hx : p.tables.exec = Jvm.exec) {o : Int} {x y : Int32} {rest : List Value} (hd : decode c.code pc = .ok (.if_icmp .ge o, 3)) (hY : 0 ≤ (pc : Int) + o ∧ ((pc : Int) + o).toNat = nY) (hN : pc + 3 = nN) (KY : ¬ x < y → Ends p.tables e below Q F (T.setTop (mkF m nY Ls (rest)))) (KN : x < y → Ends p.tables e below Q F (T.setTop (mkF m nN Ls (rest)))) : Ends p.tables e below Q F (T.setTop (mkF m pc Ls (.int y :: .int x :: rest))) :=
  icmpB nY nN X hx hd hY hN (fun hb => KY (h_ge.1 hb)) (fun hb => KN (h_ge.2 hb))
theorem icmp_gt (nY nN : Nat) (X : Stand p l e R s m args below meth c T locs cells slots) (hx : p.tables.exec = Jvm.exec) {o : Int} {x y : Int32} {rest : List Value} (hd : decode c.code pc = .ok (.if_icmp .gt o, 3)) (hY : 0 ≤ (pc : Int) + o ∧ ((pc : Int) + o).toNat = nY) (hN : pc + 3 = nN) (KY : y < x → Ends p.tables e below Q F (T.setTop (mkF m nY Ls (rest)))) (KN : ¬ y < x → Ends p.tables e below Q F (T.setTop (mkF m nN Ls (rest)))) : Ends p.tables e below Q F (T.setTop (mkF m pc Ls (.int y :: .int x :: rest))) :=
  icmpB nY nN X hx hd hY hN (fun hb => KY (h_gt.1 hb)) (fun hb => KN (h_gt.2 hb))
theorem icmp_le (nY nN : Nat) (X : Stand p l e R s m args below meth c T locs cells slots) (hx : p.tables.exec = Jvm.exec) {o : Int} {x y : Int32} {rest : List Value} (hd : decode c.code pc = .ok (.if_icmp .le o, 3)) (hY : 0 ≤ (pc : Int) + o ∧ ((pc : Int) + o).toNat = nY) (hN : pc + 3 = nN) (KY : ¬ y < x → Ends p.tables e below Q F (T.setTop (mkF m nY Ls (rest)))) (KN : y < x → Ends p.tables e below Q F (T.setTop (mkF m nN Ls (rest)))) : Ends p.tables e below Q F (T.setTop (mkF m pc Ls (.int y :: .int x :: rest))) :=
  icmpB nY nN X hx hd hY hN (fun hb => KY (h_le.1 hb)) (fun hb => KN (h_le.2 hb))
theorem if_le (nY nN : Nat) (X : Stand p l e R s m args below meth c T locs cells slots) (hx : p.tables.exec = Jvm.exec) {o : Int} {x : Int32} {rest : List Value} (hd : decode c.code pc = .ok (.ifCond .le o, 3)) (hY : 0 ≤ (pc : Int) + o ∧ ((pc : Int) + o).toNat = nY) (hN : pc + 3 = nN) (KY : ¬ 0 < x → Ends p.tables e below Q F (T.setTop (mkF m nY Ls (rest)))) (KN : 0 < x → Ends p.tables e below Q F (T.setTop (mkF m nN Ls (rest)))) : Ends p.tables e below Q F (T.setTop (mkF m pc Ls (.int x :: rest))) :=
  ifB nY nN X hx hd hY hN (fun hb => KY (h_le.1 hb)) (fun hb => KN (h_le.2 hb))
theorem icmp_eq (nY nN : Nat) (X : Stand p l e R s m args below meth c T locs cells slots) (hx : p.tables.exec = Jvm.exec) {o : Int} {x y : Int32} {rest : List Value} (hd : decode c.code pc = .ok (.if_icmp .eq o, 3)) (hY : 0 ≤ (pc : Int) + o ∧ ((pc : Int) + o).toNat = nY) (hN : pc + 3 = nN) (KY : x = y → Ends p.tables e below Q F (T.setTop (mkF m nY Ls (rest)))) (KN : ¬ x = y → Ends p.tables e below Q F (T.setTop (mkF m nN Ls (rest)))) : Ends p.tables e below Q F (T.setTop (mkF m pc Ls (.int y :: .int x :: rest))) :=
  icmpB nY nN X hx hd hY hN (fun hb => KY (h_eq.1 hb)) (fun hb => KN (h_eq.2 hb))
theorem if_eq (nY nN : Nat) (X : Stand p l e R s m args below meth c T locs cells slots) (hx : p.tables.exec = Jvm.exec) {o : Int} {x : Int32} {rest : List Value} (hd : decode c.code pc = .ok (.ifCond .eq o, 3)) (hY : 0 ≤ (pc : Int) + o ∧ ((pc : Int) + o).toNat = nY) (hN : pc + 3 = nN) (KY : x = 0 → Ends p.tables e below Q F (T.setTop (mkF m nY Ls (rest)))) (KN : ¬ x = 0 → Ends p.tables e below Q F (T.setTop (mkF m nN Ls (rest)))) : Ends p.tables e below Q F (T.setTop (mkF m pc Ls (.int x :: rest))) :=
  ifB nY nN X hx hd hY hN (fun hb => KY (h_eq.1 hb)) (fun hb => KN (h_eq.2 hb))
theorem icmp_ne (nY nN : Nat) (X : Stand p l e R s m args below meth c T locs cells slots) (hx : p.tables.exec = Jvm.exec) {o : Int} {x y : Int32} {rest : List Value} (hd : decode c.code pc = .ok (.if_icmp .ne o, 3)) (hY : 0 ≤ (pc : Int) + o ∧ ((pc : Int) + o).toNat = nY) (hN : pc + 3 = nN) (KY : ¬ x = y → Ends p.tables e below Q F (T.setTop (mkF m nY Ls (rest)))) (KN : x = y → Ends p.tables e below Q F (T.setTop (mkF m nN Ls (rest)))) : Ends p.tables e below Q F (T.setTop (mkF m pc Ls (.int y :: .int x :: rest))) :=
  icmpB nY nN X hx hd hY hN (fun hb => KY (h_ne.1 hb)) (fun hb => KN (h_ne.2 hb))
theorem if_ne (nY nN : Nat) (X : Stand p l e R s m args below meth c T locs cells slots) (hx : p.tables.exec = Jvm.exec) {o : Int} {x : Int32} {rest : List Value} (hd : decode c.code pc = .ok (.ifCond .ne o, 3)) (hY : 0 ≤ (pc : Int) + o ∧ ((pc : Int) + o).toNat = nY) (hN : pc + 3 = nN) (KY : ¬ x = 0 → Ends p.tables e below Q F (T.setTop (mkF m nY Ls (rest)))) (KN : x = 0 → Ends p.tables e below Q F (T.setTop (mkF m nN Ls (rest)))) : Ends p.tables e below Q F (T.setTop (mkF m pc Ls (.int x :: rest))) :=
  ifB nY nN X hx hd hY hN (fun hb => KY (h_ne.1 hb)) (fun hb => KN (h_ne.2 hb))
theorem retI (X : Stand p l e R s m args below meth c T locs cells slots) (hx : p.tables.exec = Jvm.exec) {pc : Nat} {Ls : Array Slot} {z : Int32} {rest : List Value} (hret : meth.sig.returnType = some .int) (hd : decode c.code pc = .ok (.ireturn, 1)) {fs : List Frame}
    (hl : ∀ (f : JFrame) (acts : List Action), f.method = m → f.locked = none → f.entered = [] → (doReturn e (T.setTop f) acts (some (.int z))).1 = T.setFrames fs) : Steps p.tables e below (T.setTop (mkF m pc Ls (.int z :: rest))) (T.setFrames fs) := by
  have hm' : T.vm.method? m = some meth := X.method'
  have hn : narrow .int (.int z) = .int z := rfl
  show Steps p.tables e below (T.setTop { method := m, pc := pc, locals := Ls, stack := _ :: rest, locked := none }) _
  jvm_step X.here [X.here.top, hx, hd, hm', hret, hn]
  first | (intro acts; rw [hl _ acts rfl rfl rfl]) | rw [hl _ _ rfl rfl rfl]
  exact Steps.refl _
theorem fin {fs : List Frame} {v : Option Value} {U : State} (X : Stand p l e R s m args below meth c T locs cells slots) (hst : Steps p.tables e below U (T.setFrames fs)) (hrun : (T.setFrames fs).status = .running) (hend : Ended (T.setFrames fs) below (.returned v)) (hW : s.WarmedH (T.setFrames fs).vm) (hsame : s.sameButNew ({ T.setFrames fs with vm := s.vm } : State) locs cells slots) (q : Q v T.heap locs) (hC : cells ≤ C) (hS : slots ≤ S) : Ends p.tables e below Q (FE s C S) U :=
  ⟨_, _, hst, hrun, hend, _, _, rfl, q, ⟨_, rfl⟩, hW, hsame.mono hC hS⟩
theorem retInt (X : Stand p l e R s m args below meth c T locs cells slots) (hx : p.tables.exec = Jvm.exec) {z : Int32} {rest : List Value} (hlk : meth.locks = false) (hret : meth.sig.returnType = some .int) (hd : decode c.code pc = .ok (.ireturn, 1)) (hC : cells ≤ C) (hS : slots ≤ S) (q : Q (some (.int z)) T.heap locs) : Ends p.tables e below Q (FE s C S) (T.setTop (mkF m pc Ls (.int z :: rest))) := by
  obtain ⟨fs, hr, hrun, hended, hW, hsame⟩ := X.leave (v := some (.int z)) (fun h => by rw [hret] at h; cases h) hlk
  exact fin X (retI X hx hret hd hr) hrun hended hW hsame q hC hS
theorem retBool (X : Stand p l e R s m args below meth c T locs cells slots) (hx : p.tables.exec = Jvm.exec) {z : Int32} {rest : List Value} (hlk : meth.locks = false) (hret : meth.sig.returnType = some .boolean) (hd : decode c.code pc = .ok (.ireturn, 1)) (hC : cells ≤ C) (hS : slots ≤ S) (q : Q (some (.int (nar .boolean z))) T.heap locs) : Ends p.tables e below Q (FE s C S) (T.setTop (mkF m pc Ls (.int z :: rest))) := by
  obtain ⟨fs, hr, hrun, hended, hW, hsame⟩ := X.leave (v := some (.int (nar .boolean z))) (fun h => by rw [hret] at h; cases h) hlk
  exact fin X (retN X hx hret (Or.inl rfl) hd hr) hrun hended hW hsame q hC hS
theorem retVoid (X : Stand p l e R s m args below meth c T locs cells slots) (hx : p.tables.exec = Jvm.exec) (hlk : meth.locks = false) (hret : meth.sig.returnType = none) (hd : decode c.code pc = .ok (.return_, 1)) (hC : cells ≤ C) (hS : slots ≤ S) (q : Q none T.heap locs) : Ends p.tables e below Q (FE s C S) (T.setTop (mkF m pc Ls ([]))) := by
  obtain ⟨fs, hr, hrun, hended, hW, hsame⟩ := X.leave (v := none) (fun _ => rfl) hlk
  exact fin X (X.returnOut hx hret hd hr) hrun hended hW hsame q hC hS
theorem ldcInt (n : Nat) (X : Stand p l e R s m args below meth c T locs cells slots) (hx : p.tables.exec = Jvm.exec) (hZ : Z.Warmed39 s.vm) {own : String} {index : Nat} (v : Int32) (hown : s.vm.findClass own = some m.cls) (w : (Cond.constant own index v).before a0 Z = true) (hd : decode c.code pc = .ok (.ldc index, 2)) (hn : pc + 2 = n) (K : Ends p.tables e below Q F (T.setTop (mkF m n Ls (.int v :: st)))) : Ends p.tables e below Q F (T.setTop (mkF m pc Ls (st))) := by
  subst hn; exact K.step fun t k => X.ldcInt hx hown (mvT hZ w) (g := mkF m pc Ls st) rfl hd _ k
theorem getFld (n : Nat) (X : Stand p l e R s m args below meth c T locs cells slots) (hx : p.tables.exec = Jvm.exec) (hZ : Z.Warmed39 s.vm) {own R0 O nm d host : String} {index : Nat} (hown : s.vm.findClass own = some m.cls) (w : (Cond.fieldLink own index R0 nm d).before a0 Z = true ∨ (Cond.fieldLinkNest own index R0 nm d host).before a0 Z = true) (via : Via Z R0 O nm d) (eT : T.heap = h) {a : Addr} {v : Value} (Fd : Fld Z h a O nm d v) {rest : List Value} (hd : decode c.code pc = .ok (.getfield index, 3)) (hn : pc + 3 = n) (K : ∀ T', Stand p l e R s m args below meth c T' locs cells slots → T'.heap = h → Ends p.tables e below Q F (T'.setTop (mkF m n Ls (v :: rest)))) : Ends p.tables e below Q F (T.setTop (mkF m pc Ls (.ref a :: rest))) := by
  subst hn
  obtain ⟨T1, X1, e1, st1⟩ := getF X hx hZ hown w via eT Fd (g := mkF m pc Ls (.ref a :: rest)) rfl rfl hd
  exact (K T1 X1 e1).step st1
theorem putFld (n : Nat) (X : Stand p l e R s m args below meth c T locs cells slots) (hx : p.tables.exec = Jvm.exec) (hZ : Z.Warmed39 s.vm) {own R0 O nm d host CC : String} {index kk : Nat} {ty : FieldType} (hown : s.vm.findClass own = some m.cls) (w : (Cond.fieldLink own index R0 nm d).before a0 Z = true ∨ (Cond.fieldLinkNest own index R0 nm d host).before a0 Z = true) (via : Via Z R0 O nm d) (eT : T.heap = h) {a : Addr} {v old : Value} (Fd : Fld Z h a O nm d old) (E : Exa Z h a CC) (L : (Cond.lays CC O nm d).before a0 Z = true ∨ ((Cond.laysFinal CC O nm d).before a0 Z = true ∧ own = O ∧ meth.name = "<init>")) (wi : (Cond.instantiable CC kk).before a0 Z = true) (hty : parseFieldDescriptor d = some ty) (hnw : narrow ty v = v) (hf : fits ty v = true) {rest : List Value} (hd : decode c.code pc = .ok (.putfield index, 3)) (hn : pc + 3 = n) (K : ∀ T' h', Stand p l e R s m args below meth c T' (locs ++ [⟨a, Jvm.RoadKit.slotOf Z O nm d⟩]) cells slots → T'.heap = h' → Wr h h' a (Jvm.RoadKit.slotOf Z O nm d) v → Ends p.tables e below Q F (T'.setTop (mkF m n Ls (rest)))) : Ends p.tables e below Q F (T.setTop (mkF m pc Ls (v :: .ref a :: rest))) := by
  subst hn
  obtain ⟨T1, h1, X1, e1, W1, st1⟩ := putF X hx hZ hown w via eT Fd E L wi hty hnw hf (g := mkF m pc Ls (v :: .ref a :: rest)) rfl rfl hd
  exact (K T1 h1 X1 e1 W1).step st1
theorem newObj (n : Nat) (X : Stand p l e R s m args below meth c T locs cells slots) (hx : p.tables.exec = Jvm.exec) (hZ : Z.Warmed39 s.vm) {own CC : String} {index sz : Nat} (hown : s.vm.findClass own = some m.cls) (w : (Cond.classLink own index CC).before a0 Z = true) (wi : (Cond.instantiable CC sz).before a0 Z = true) (wz : (Cond.initialized CC).before a0 Z = true) (eT : T.heap = h) (hd : decode c.code pc = .ok (.new index, 3)) (hn : pc + 3 = n) (hc : cells + 1 ≤ R.cells) (hl : slots + sz ≤ R.slots) (K : ∀ T' h' a, a = h.size → Stand p l e R s m args below meth c T' locs (cells + 1) (slots + sz) → T'.heap = h' → Ext h h' → Exa Z h' a CC → (∀ {O nm d : String} {ty : FieldType}, Laid Z a0 CC O nm d → parseFieldDescriptor d = some ty → Fld Z h' a O nm d (defaultValue ty)) → Ends p.tables e below Q F (T'.setTop (mkF m n Ls (.ref a :: st)))) : Ends p.tables e below Q F (T.setTop (mkF m pc Ls (st))) := by
  subst hn
  obtain ⟨T1, h1, X1, e1, E1, A1, D1, -, st1⟩ := newO X hx hZ hown w wi wz eT (g := mkF m pc Ls st) rfl hd hc hl
  exact (K T1 h1 _ rfl X1 e1 E1 A1 (fun L q => D1 L q)).step st1
theorem initObj (n W : Nat) (X : Stand p l e R s m args below meth c T locs cells slots) (hx : p.tables.exec = Jvm.exec) (hZ : Z.Warmed39 s.vm) {own : String} {index : Nat} (hown : s.vm.findClass own = some m.cls) (w1 : (Cond.methodLink own index Lib.objectInit).before a0 Z = true) (w2 : (Cond.instanceMethod Lib.objectInit).before a0 Z = true) (w3 : (Cond.code Lib.objectInit ⟨#[0xb1]⟩ 1 none).before a0 Z = true) (eT : T.heap = h) {a : Addr} {rest : List Value} (hsz : Ls.size = c.maxLocals) (hd : decode c.code pc = .ok (.invokespecial index, 3)) (hn : pc + 3 = n) (hf : 1 ≤ R.frames) (hW : (rest.map fun v => v.category).sum ≤ W) (hl : W + 12 ≤ R.locals) (K : ∀ T', Stand p l e R s m args below meth c T' locs cells slots → T'.heap = h → Ends p.tables e below Q F (T'.setTop (mkF m n Ls (rest)))) : Ends p.tables e below Q F (T.setTop (mkF m pc Ls (.ref a :: rest))) := by
  subst hn
  obtain ⟨T1, X1, e1, st1⟩ := initO X hx hZ hown w1 w2 w3 eT (g := mkF m pc Ls (.ref a :: rest)) rfl hsz rfl hd hf (W := W) (by show 2 * 0 + _ ≤ _; omega) hl
  exact (K T1 X1 e1).step st1
/-- the contract of a body: entered with these arguments at this heap it returns, and what it leaves answers to QQ -/
def Met (l : Launch) (Z : State) (y : MethodName) (bytes : ByteArray) (maxL : Nat) (ret : Option FieldType) (ws : List Cond) (rm : Room) (as : Array Value) (h : Heap) (QQ : Option Value → Heap → List Loc → Prop) : Prop :=
  MetFree l y (head1 (Cond.code y bytes maxL ret :: ws) rm) (fun a U => a = as ∧ Z.Warmed39 U.vm ∧ U.heap = h) (fun _ _ _ _ _ => True) (fun _ U o U' => ∃ v L, o = .returned v ∧ QQ v U'.heap L ∧ FrameEnd U o U' L rm.cells rm.slots)
theorem Met.of {y : MethodName} {bytes : ByteArray} {maxL : Nat} {ret : Option FieldType} {ws : List Cond} {rm : Room} {as : Array Value} {QQ : Option Value → Heap → List Loc → Prop} (hp : plainFor y = true)
    (body : ∀ (p : Program) (e : Env) (s : State) (m : MethodId) (below : List Frame) (meth : Method) (c : Code) (T : State), p.tables.exec = Jvm.exec → c.code = bytes → c.maxLocals = maxL → s.vm.findClass y.cls = some m.cls → meth.name = y.name → meth.sig.returnType = ret → meth.locks = false → Z.Warmed39 s.vm → Stand p l e rm s m as below meth c T [] 0 0 → T.heap = h → Ends p.tables e below QQ (FE s rm.cells rm.slots) (T.setTop (entryFrame m as maxL))) :
    Met l Z y bytes maxL ret ws rm as h QQ := by
  refine MetFree.of_bodySF hp hisR ?_
  intro p e s m args below meth c s₁ Bd hml0 hP hK
  obtain ⟨rfl, hZ, hh⟩ := hP
  exact body p e s m below meth c s₁ Bd.exec Bd.bytes hml0 (findClass_of_methodNamed Bd.named) (name_of_methodNamed Bd.named Bd.method).1 Bd.returns Bd.notSynchronized hZ (Stand.of_body Bd) (by rw [← hh, Bd.state]; rfl)
theorem callSt (n W : Nat) (argsL rest : List Value) (X : Stand p l e R s m args below meth c T locs cells slots) (hx : p.tables.exec = Jvm.exec) (hZ : Z.Warmed39 s.vm) {own : String} {index : Nat} {y : MethodName} {bytes : ByteArray} {maxL : Nat} {ret : Option FieldType} {rm : Room} {QQ : Option Value → Heap → List Loc → Prop} (hown : s.vm.findClass own = some m.cls) (hM : Met l Z y bytes maxL ret [] rm argsL.toArray h QQ) (wl : (Cond.methodLink own index y).before a0 Z = true) (ws : (Cond.static y).before a0 Z = true) (wi : (Cond.initialized y.cls).before a0 Z = true) (wc : (Cond.code y bytes maxL ret).before a0 Z = true) (hy : y.cls ≠ "java/lang/invoke/MethodHandle" ∧ y.cls ≠ "java/lang/invoke/VarHandle") (eT : T.heap = h) (hfr : rm.frames + 1 ≤ R.frames) (hlc : W + (maxL + 11) + rm.locals ≤ R.locals) (hc : cells + rm.cells ≤ R.cells) (hs : slots + rm.slots ≤ R.slots) (hsz : Ls.size = c.maxLocals) (hlen : ∀ sig, parseMethodDescriptor y.desc = some sig → argsL.length = sig.parameters.length) (hst : st = argsL.reverse ++ rest) (hW : (rest.map fun v => v.category).sum ≤ W) (hd : decode c.code pc = .ok (.invokestatic index, 3)) (hn : pc + 3 = n) (K : ∀ v T' L', Stand p l e R s m args below meth c T' (locs ++ L') (cells + rm.cells) (slots + rm.slots) → QQ v T'.heap L' → Ends p.tables e below Q F (T'.setTop (mkF m n Ls (v.toList ++ rest)))) : Ends p.tables e below Q F (T.setTop (mkF m pc Ls (st))) := by
  subst hn
  obtain ⟨v, vm1, ⟨T1, L1, k1, n1⟩, -, X1, ⟨Lc, hQ, l1, y1, z1⟩, st1⟩ := Jvm.LawKit.callS X hx (y := y) hown (mvT hZ wl) (mvT hZ ws) (mvT hZ wi) (mvT hZ wc) hy (backOf (W := W) hM hZ wc wi hfr hlc) (g := mkF m pc Ls st) rfl hsz (argsL := argsL) (rest := rest) hlen hst (by show 2 * 0 + _ ≤ _; omega) hd (fun _ _ => ⟨rfl, eT, hc, hs⟩)
  dsimp only [Pt.U, Pt.locs, Pt.cells, Pt.slots] at X1 l1 y1 z1 st1 hQ
  subst l1 y1 z1
  exact (K v T1 Lc X1 hQ).step st1
theorem callInit (n W : Nat) (a : Addr) (argsL rest : List Value) (X : Stand p l e R s m args below meth c T locs cells slots) (hx : p.tables.exec = Jvm.exec) (hZ : Z.Warmed39 s.vm) {own : String} {index : Nat} {y : MethodName} {bytes : ByteArray} {maxL : Nat} {rm : Room} {QQ : Option Value → Heap → List Loc → Prop} (hown : s.vm.findClass own = some m.cls) (hM : Met l Z y bytes maxL none [] rm (.ref a :: argsL).toArray h QQ) (hy1 : y.name = "<init>") (wl : (Cond.methodLink own index y).before a0 Z = true) (ws : (Cond.instanceMethod y).before a0 Z = true) (wi : (Cond.initialized y.cls).before a0 Z = true) (wc : (Cond.code y bytes maxL none).before a0 Z = true) (hy : y.cls ≠ "java/lang/invoke/MethodHandle" ∧ y.cls ≠ "java/lang/invoke/VarHandle") (eT : T.heap = h) (hfr : rm.frames + 1 ≤ R.frames) (hlc : W + (maxL + 11) + rm.locals ≤ R.locals) (hc : cells + rm.cells ≤ R.cells) (hs : slots + rm.slots ≤ R.slots) (hsz : Ls.size = c.maxLocals) (hlen : ∀ sig, parseMethodDescriptor y.desc = some sig → argsL.length = sig.parameters.length) (hst : st = argsL.reverse ++ .ref a :: rest) (hW : (rest.map fun v => v.category).sum ≤ W) (hd : decode c.code pc = .ok (.invokespecial index, 3)) (hn : pc + 3 = n) (K : ∀ v T' L', Stand p l e R s m args below meth c T' (locs ++ L') (cells + rm.cells) (slots + rm.slots) → QQ v T'.heap L' → Ends p.tables e below Q F (T'.setTop (mkF m n Ls (v.toList ++ rest)))) : Ends p.tables e below Q F (T.setTop (mkF m pc Ls (st))) := by
  subst hn
  obtain ⟨v, vm1, ⟨T1, L1, k1, n1⟩, -, X1, ⟨Lc, hQ, l1, y1, z1⟩, st1⟩ := X.specialBack hx (y := y) hy1 hown (mvT hZ wl) (mvT hZ ws) (mvT hZ wc) hy (backOf (W := W) hM hZ wc wi hfr hlc) (g := mkF m pc Ls st) rfl hsz (Steps.refl _) (a := a) (argsL := argsL) (rest := rest) hlen hst (by show 2 * 0 + _ ≤ _; omega) hd (fun _ _ => ⟨rfl, eT, hc, hs⟩)
  dsimp only [Pt.U, Pt.locs, Pt.cells, Pt.slots] at X1 l1 y1 z1 st1 hQ
  subst l1 y1 z1
  exact (K v T1 Lc X1 hQ).step fun t k => st1.trans k
theorem callVt (n W : Nat) (a : Addr) (argsL rest : List Value) (X : Stand p l e R s m args below meth c T locs cells slots) (hx : p.tables.exec = Jvm.exec) (hZ : Z.Warmed39 s.vm) {own CC : String} {index : Nat} {y z : MethodName} {bytes : ByteArray} {maxL : Nat} {ret : Option FieldType} {rm : Room} {QQ : Option Value → Heap → List Loc → Prop} (hown : s.vm.findClass own = some m.cls) (hM : Met l Z z bytes maxL ret [] rm (.ref a :: argsL).toArray h QQ) (E : Exa Z h a CC) (hnf : NotFace s y) (wl : (Cond.methodLink own index y).before a0 Z = true) (wd : (Cond.declares y).before a0 Z = true) (wsel : (Cond.selects CC y z).before a0 Z = true) (ws : (Cond.instanceMethod z).before a0 Z = true) (wi : (Cond.initialized z.cls).before a0 Z = true) (wc : (Cond.code z bytes maxL ret).before a0 Z = true) (hy : y.cls ≠ "java/lang/invoke/MethodHandle" ∧ y.cls ≠ "java/lang/invoke/VarHandle") (eT : T.heap = h) (hfr : rm.frames + 1 ≤ R.frames) (hlc : W + (maxL + 11) + rm.locals ≤ R.locals) (hc : cells + rm.cells ≤ R.cells) (hs : slots + rm.slots ≤ R.slots) (hsz : Ls.size = c.maxLocals) (hlen : ∀ sig, parseMethodDescriptor y.desc = some sig → argsL.length = sig.parameters.length) (hst : st = argsL.reverse ++ .ref a :: rest) (hW : (rest.map fun v => v.category).sum ≤ W) (hd : decode c.code pc = .ok (.invokevirtual index, 3)) (hn : pc + 3 = n) (K : ∀ v T' L', Stand p l e R s m args below meth c T' (locs ++ L') (cells + rm.cells) (slots + rm.slots) → QQ v T'.heap L' → Ends p.tables e below Q F (T'.setTop (mkF m n Ls (v.toList ++ rest)))) : Ends p.tables e below Q F (T.setTop (mkF m pc Ls (st))) := by
  subst hn
  obtain ⟨cq, kq, qa, qb, qc⟩ := isOf hZ eT E
  obtain ⟨v, vm1, ⟨T1, L1, k1, n1⟩, -, X1, ⟨Lc, hQ, l1, y1, z1⟩, st1⟩ := X.virtualBack hx (y := y) (z := z) hown (mvT hZ wl) (mvT hZ wd) hnf (mvT hZ wsel) (mvT hZ ws) hy (backOf (W := W) hM hZ wc wi hfr hlc) qa qc (g := mkF m pc Ls st) rfl hsz (Steps.refl _) (argsL := argsL) (rest := rest) hlen hst (by show 2 * 0 + _ ≤ _; omega) hd (fun _ _ => ⟨rfl, eT, hc, hs⟩)
  dsimp only [Pt.U, Pt.locs, Pt.cells, Pt.slots] at X1 l1 y1 z1 st1 hQ
  subst l1 y1 z1
  exact (K v T1 Lc X1 hQ).step fun t k => st1.trans k
theorem callPr (n W : Nat) (a : Addr) (argsL rest : List Value) (X : Stand p l e R s m args below meth c T locs cells slots) (hx : p.tables.exec = Jvm.exec) (hZ : Z.Warmed39 s.vm) {own CC : String} {index : Nat} {y : MethodName} {bytes : ByteArray} {maxL : Nat} {ret : Option FieldType} {rm : Room} {QQ : Option Value → Heap → List Loc → Prop} (hown : s.vm.findClass own = some m.cls) (hM : Met l Z y bytes maxL ret [] rm (.ref a :: argsL).toArray h QQ) (E : Exa Z h a CC) (wl : (Cond.methodLink own index y).before a0 Z = true) (wp : (Cond.privateMethod y).before a0 Z = true) {kk : Nat} (wk : (Cond.instantiable y.cls kk).before a0 Z = true) (ws : (Cond.instanceMethod y).before a0 Z = true) (wi : (Cond.initialized y.cls).before a0 Z = true) (wc : (Cond.code y bytes maxL ret).before a0 Z = true) (hy : y.cls ≠ "java/lang/invoke/MethodHandle" ∧ y.cls ≠ "java/lang/invoke/VarHandle") (eT : T.heap = h) (hfr : rm.frames + 1 ≤ R.frames) (hlc : W + (maxL + 11) + rm.locals ≤ R.locals) (hc : cells + rm.cells ≤ R.cells) (hs : slots + rm.slots ≤ R.slots) (hsz : Ls.size = c.maxLocals) (hlen : ∀ sig, parseMethodDescriptor y.desc = some sig → argsL.length = sig.parameters.length) (hst : st = argsL.reverse ++ .ref a :: rest) (hW : (rest.map fun v => v.category).sum ≤ W) (hd : decode c.code pc = .ok (.invokevirtual index, 3)) (hn : pc + 3 = n) (K : ∀ v T' L', Stand p l e R s m args below meth c T' (locs ++ L') (cells + rm.cells) (slots + rm.slots) → QQ v T'.heap L' → Ends p.tables e below Q F (T'.setTop (mkF m n Ls (v.toList ++ rest)))) : Ends p.tables e below Q F (T.setTop (mkF m pc Ls (st))) := by
  subst hn
  obtain ⟨cq, qa, qb⟩ := E.cell
  obtain ⟨cI, kI, i1, i2, -, i4, -⟩ := Cond.instantiable_spec (mvT (args := args) hZ wk)
  obtain ⟨v, vm1, ⟨T1, L1, k1, n1⟩, -, X1, ⟨Lc, hQ, l1, y1, z1⟩, st1⟩ := X.privateBack hx (y := y) hown (mvT hZ wl) (mvT hZ ws) (selects_self_of_private i1 i2 (by simpa using (Bool.or_eq_false_iff.mp i4).1) (Cond.privateMethod_at (mvP hZ wp (args := #[]))) (mvT hZ ws) hy) (Cond.privateMethod_at (mvP hZ wp (args := #[]))) (mvT hZ wc) hy (backOf (W := W) hM hZ wc wi hfr hlc) (g := mkF m pc Ls st) rfl hsz (Steps.refl _) (a := a) (by rw [eT]; exact qa) qb (argsL := argsL) (rest := rest) hlen hst (by show 2 * 0 + _ ≤ _; omega) hd (fun _ _ => ⟨rfl, eT, hc, hs⟩)
  dsimp only [Pt.U, Pt.locs, Pt.cells, Pt.slots] at X1 l1 y1 z1 st1 hQ
  subst l1 y1 z1
  exact (K v T1 Lc X1 hQ).step fun t k => st1.trans k
theorem arrLen (n : Nat) (X : Stand p l e R s m args below meth c T locs cells slots) (hx : p.tables.exec = Jvm.exec) (hZ : Z.Warmed39 s.vm) (eT : T.heap = h) {a : Addr} {k : ClassId} {ty : FieldType} {z : Int32} {vs : List Value} {dv : Value} {rest : List Value} (A : Arv Z h a k ty z vs dv) (hd : decode c.code pc = .ok (.arraylength, 1)) (hn : pc + 1 = n) (K : Ends p.tables e below Q F (T.setTop (mkF m n Ls (.int z :: rest)))) : Ends p.tables e below Q F (T.setTop (mkF m pc Ls (.ref a :: rest))) := by
  subst hn
  obtain ⟨cl, Ar, -, Sz, Nz, -, -⟩ := A
  refine K.step fun t kk => X.arraylength hx (by rw [eT]; exact Ar.1) (State.isArrayOf_alike hZ.alike Ar.2.1) (g := mkF m pc Ls (.ref a :: rest)) rfl rfl hd _ ?_
  rw [len_of Sz Nz]; exact kk
theorem iaload (n : Nat) (X : Stand p l e R s m args below meth c T locs cells slots) (hx : p.tables.exec = Jvm.exec) (hZ : Z.Warmed39 s.vm) (eT : T.heap = h) {a : Addr} {k : ClassId} {z j : Int32} (v : Int32) {vs : List Value} {dv : Value} {rest : List Value} (A : Arv Z h a k .int z vs dv) (hj : ¬ j < 0 ∧ j < z) (hv : vs.getD j.toNatClampNeg dv = .int v) (hd : decode c.code pc = .ok (.iaload, 1)) (hn : pc + 1 = n) (K : Ends p.tables e below Q F (T.setTop (mkF m n Ls (.int v :: rest)))) : Ends p.tables e below Q F (T.setTop (mkF m pc Ls (.int j :: .ref a :: rest))) := by
  subst hn
  obtain ⟨cl, Ar, -, Sz, Nz, Hs, -⟩ := A
  have hin := inb_of Sz hj
  exact K.step fun t kk => X.iaload hx (j := j) (v := .int v) (by rw [eT]; exact Ar.1) (State.isArrayOf_alike hZ.alike Ar.2.1) Ar.2.2 hin (Hs.at hin hv) (g := mkF m pc Ls (.int j :: .ref a :: rest)) rfl rfl hd _ kk
theorem iastore (n : Nat) (X : Stand p l e R s m args below meth c T locs cells slots) (hx : p.tables.exec = Jvm.exec) (hZ : Z.Warmed39 s.vm) (eT : T.heap = h) {a : Addr} {k : ClassId} {z j : Int32} {x : Int32} {vs : List Value} {dv : Value} {rest : List Value} (A : Arv Z h a k .int z vs dv) (hj : ¬ j < 0 ∧ j < z) (hlen : j.toNatClampNeg < vs.length) (hd : decode c.code pc = .ok (.iastore, 1)) (hn : pc + 1 = n) (K : ∀ T' h', Stand p l e R s m args below meth c T' (locs ++ [⟨a, j.toNatClampNeg⟩]) cells slots → T'.heap = h' → Wr h h' a j.toNatClampNeg (.int x) → Arv Z h' a k .int z (vs.set j.toNatClampNeg (.int x)) dv → Ends p.tables e below Q F (T'.setTop (mkF m n Ls (rest)))) : Ends p.tables e below Q F (T.setTop (mkF m pc Ls (.int x :: .int j :: .ref a :: rest))) := by
  subst hn
  obtain ⟨cl, Ar, q1, Sz, Nz, Hs, Gs⟩ := A
  obtain ⟨T1, h1, X1, e1, W1, st1⟩ := stI X hx hZ eT Ar (j := j) (inb_of Sz hj) (g := mkF m pc Ls (.int x :: .int j :: .ref a :: rest)) rfl rfl hd
  exact (K T1 h1 X1 e1 W1 (Arv.set Ar q1 Sz Nz Hs Gs rfl W1 _ rfl hlen)).step st1
theorem newArr (n cap : Nat) (X : Stand p l e R s m args below meth c T locs cells slots) (hx : p.tables.exec = Jvm.exec) (hZ : Z.Warmed39 s.vm) {aty : ArrayType} (w : (Cond.arrayClass (newarray.typeOf aty)).before a0 Z = true) (eT : T.heap = h) {z : Int32} {rest : List Value} (hz : ¬ z < 0) (hcap : z.toNatClampNeg ≤ cap) (hb : cap * 8 ≤ 536870912) (hd : decode c.code pc = .ok (.newarray aty, 2)) (hn : pc + 2 = n) (hc : cells + 1 ≤ R.cells) (hl : slots + cap ≤ R.slots) (K : ∀ T' h' a k, a = h.size → Stand p l e R s m args below meth c T' locs (cells + 1) (slots + cap) → T'.heap = h' → Ext h h' → Arv Z h' a k (newarray.typeOf aty) z (List.replicate z.toNatClampNeg (defaultValue (newarray.typeOf aty))) (defaultValue (newarray.typeOf aty)) → Ends p.tables e below Q F (T'.setTop (mkF m n Ls (.ref a :: rest)))) : Ends p.tables e below Q F (T.setTop (mkF m pc Ls (.int z :: rest))) := by
  subst hn
  obtain ⟨T1, h1, k1, X1, e1, E1, A1, st1⟩ := newP X hx hZ w eT (g := mkF m pc Ls (.int z :: rest)) rfl hd rfl hz (cap := cap) hcap hb hc hl
  exact (K T1 h1 _ k1 rfl X1 e1 E1 ((Arv.new A1 hz).pad (pad_rep [] _ _))).step st1
theorem arrCopy (n W : Nat) (X : Stand p l e R s m args below meth c T locs cells slots) (hx : p.tables.exec = Jvm.exec) (hZ : Z.Warmed39 s.vm) {own : String} {index : Nat} (hown : s.vm.findClass own = some m.cls) (w1 : (Cond.methodLink own index Jvm.Stand.acN).before a0 Z = true) (w2 : (Cond.native Jvm.Stand.acN).before a0 Z = true) (w3 : (Cond.static Jvm.Stand.acN).before a0 Z = true) (w4 : (Cond.initialized "java/lang/System").before a0 Z = true) (eT : T.heap = h) {a b : Addr} {k k2 : ClassId} {ty : FieldType} {z z2 sp dp nn : Int32} {vs vd : List Value} {dv dd : Value} (A : Arv Z h a k ty z vs dv) (B : Arv Z h b k2 ty z2 vd dd) (hty : refKind ty = false) (h1 : ¬ sp < 0) (h2 : ¬ dp < 0) (h3 : ¬ nn < 0) (h4 : sp.toNatClampNeg + nn.toNatClampNeg ≤ z.toNatClampNeg) (h5 : dp.toNatClampNeg + nn.toNatClampNeg ≤ z2.toNatClampNeg) (hl : dp.toNatClampNeg + nn.toNatClampNeg ≤ vd.length) {n0 : Nat} (N : Fr n0 locs) (ge : n0 ≤ b) (hsz : Ls.size = c.maxLocals) {rest : List Value} (hd : decode c.code pc = .ok (.invokestatic index, 3)) (hn : pc + 3 = n) (hf : 1 ≤ R.frames) (hW : (rest.map fun v => v.category).sum ≤ W) (hlo : W + (nativeFrameWords "java/lang/System" "arraycopy" 5 + 11) ≤ R.locals) (K : ∀ T' h' L vs', Stand p l e R s m args below meth c T' L cells slots → T'.heap = h' → Fr n0 L → Keep h h' [b] → vs' = vd.take dp.toNatClampNeg ++ ((List.range nn.toNatClampNeg).map fun i => vs.getD (sp.toNatClampNeg + i) dv) ++ vd.drop (dp.toNatClampNeg + nn.toNatClampNeg) → vs'.length = vd.length → Arv Z h' b k2 ty z2 vs' dd → Ends p.tables e below Q F (T'.setTop (mkF m n Ls (rest)))) : Ends p.tables e below Q F (T.setTop (mkF m pc Ls (.int nn :: .int dp :: .ref b :: .int sp :: .ref a :: rest))) := by
  subst hn
  obtain ⟨T1, hh1, L1, X1, e1, N1, K1, V1, st1⟩ := cpA X hx hZ hown w1 w2 w3 w4 eT A B (Or.inl ⟨rfl, hty⟩) h1 h2 h3 h4 h5 rfl hl N ge (g := mkF m pc Ls (.int nn :: .int dp :: .ref b :: .int sp :: .ref a :: rest)) rfl hsz rfl hd hf (W := W) (by show 2 * 0 + _ ≤ _; omega) hlo
  exact (K T1 hh1 L1 _ X1 e1 N1 K1 rfl (by simp; omega) V1).step st1
/-- an array of this kind and length, whatever it holds -/
def Ax (Z : State) (h : Heap) (a : Addr) (ty : FieldType) (z : Int32) : Prop := ∃ (k : ClassId) (vs : List Value), vs.length = z.toNatClampNeg ∧ Arv Z h a k ty z vs (defaultValue ty)
theorem Ax.lt {a : Addr} {ty : FieldType} {z : Int32} (F : Ax Z h a ty z) : a < h.size := by obtain ⟨k, vs, -, A⟩ := F; exact A.lt
theorem Ax.ext {h' : Heap} {a : Addr} {ty : FieldType} {z : Int32} (F : Ax Z h a ty z) (E : Ext h h') : Ax Z h' a ty z := by obtain ⟨k, vs, q, A⟩ := F; exact ⟨k, vs, q, A.ext E⟩
theorem Ax.keep {h' : Heap} {a : Addr} {ty : FieldType} {z : Int32} {ws : List Addr} (F : Ax Z h a ty z) (K : Keep h h' ws) (q : a ∉ ws) : Ax Z h' a ty z := by obtain ⟨k, vs, r, A⟩ := F; exact ⟨k, vs, r, A.keep K q⟩
theorem Ax.other {h' : Heap} {a b : Addr} {sl : Nat} {v : Value} {ty : FieldType} {z : Int32} (F : Ax Z h a ty z) (W : Wr h h' b sl v) (q : a ≠ b) : Ax Z h' a ty z := by obtain ⟨k, vs, r, A⟩ := F; exact ⟨k, vs, r, A.other W q⟩
theorem Ax.nn {a : Addr} {ty : FieldType} {z : Int32} (F : Ax Z h a ty z) : ¬ z < 0 := by obtain ⟨k, vs, -, c, -, -, -, N, -⟩ := F; exact N
theorem Ends.wide {tb : Tables} {U : State} (k : Ends tb e below Q (FE s C S) U) : Ends tb e below Q (FW s C S) U := by
  obtain ⟨s₂, o, h1, h2, h3, v, L, h4, h5, h6⟩ := k
  exact ⟨s₂, o, h1, h2, h3, v, L, h4, h5, Jvm.RoadKit.wide h6⟩
/-- the contract of a body that may load a String constant -/
def MetW (l : Launch) (Z : State) (y : MethodName) (bytes : ByteArray) (maxL : Nat) (ret : Option FieldType) (ws : List Cond) (rm : Room) (as : Array Value) (h : Heap) (QQ : Option Value → Heap → List Loc → Prop) : Prop :=
  MetFree l y (head1 (Cond.code y bytes maxL ret :: ws) rm) (fun a U => a = as ∧ Z.Warmed39 U.vm ∧ U.heap = h) (fun _ _ _ _ _ => True) (fun _ U o U' => ∃ v L, o = .returned v ∧ QQ v U'.heap L ∧ ReturnedEndW U o U' L rm.cells rm.slots)
theorem MetW.of {y : MethodName} {bytes : ByteArray} {maxL : Nat} {ret : Option FieldType} {ws : List Cond} {rm : Room} {as : Array Value} {QQ : Option Value → Heap → List Loc → Prop} (hp : plainFor y = true)
    (body : ∀ (p : Program) (e : Env) (s : State) (m : MethodId) (below : List Frame) (meth : Method) (c : Code) (T : State), p.tables.exec = Jvm.exec → c.code = bytes → c.maxLocals = maxL → s.vm.findClass y.cls = some m.cls → meth.name = y.name → meth.sig.returnType = ret → meth.locks = false → Z.Warmed39 s.vm → Stand p l e rm s m as below meth c T [] 0 0 → T.heap = h → Ends p.tables e below QQ (FW s rm.cells rm.slots) (T.setTop (entryFrame m as maxL))) :
    MetW l Z y bytes maxL ret ws rm as h QQ := by
  refine MetFree.of_bodySF hp hisR ?_
  intro p e s m args below meth c s₁ Bd hml0 hP hK
  obtain ⟨rfl, hZ, hh⟩ := hP
  exact body p e s m below meth c s₁ Bd.exec Bd.bytes hml0 (findClass_of_methodNamed Bd.named) (name_of_methodNamed Bd.named Bd.method).1 Bd.returns Bd.notSynchronized hZ (Stand.of_body Bd) (by rw [← hh, Bd.state]; rfl)
/-- a reference that may be null; if not, one of this class -/
def Opt (Z : State) (h : Heap) (v : Value) (C : String) : Prop := v = .null ∨ ∃ a, v = .ref a ∧ Exa Z h a C
theorem Opt.isRef {v : Value} {CC : String} (F : Opt Z h v CC) : v.isRef = true := by rcases F with rfl | ⟨a, rfl, -⟩ <;> rfl
theorem Opt.ext {h' : Heap} {v : Value} {CC : String} (F : Opt Z h v CC) (E : Ext h h') : Opt Z h' v CC := F.imp id fun ⟨a, q, r⟩ => ⟨a, q, r.ext E⟩
theorem Opt.wr {h' : Heap} {v : Value} {CC : String} {a : Addr} {sl : Nat} {u : Value} (F : Opt Z h v CC) (W : Wr h h' a sl u) : Opt Z h' v CC := F.imp id fun ⟨a, q, r⟩ => ⟨a, q, r.wr W⟩
theorem Opt.keep {h' : Heap} {v : Value} {CC : String} {ws : List Addr} (F : Opt Z h v CC) (K : Keep h h' ws) : Opt Z h' v CC := F.imp id fun ⟨a, q, r⟩ => ⟨a, q, r.keep K⟩
end Walk
end Jvm.Own

namespace Jvm.Own
open Jvm Sem ClassFile Op Lib Jvm.Stand Jvm.Free Jvm.LawKit Jvm.RoadKit Bundle
/-- an int that is a natural number -/
def N (x : Nat) : Int32 := Int32.ofNat x
theorem N_toInt {x : Nat} (h : x < 2147483648) : (N x).toInt = (x : Int) := Int32.toInt_ofNat_of_lt h
theorem N_add (x y : Nat) : N x + N y = N (x + y) := by simp [N, Int32.ofNat_add]
theorem N_mul (x y : Nat) : N x * N y = N (x * y) := by simp [N, Int32.ofNat_mul]
theorem N_sub {x y : Nat} (h : y ≤ x) : N x - N y = N (x - y) := by
  have e : N (x - y) + N y = N x := by rw [N_add, Nat.sub_add_cancel h]
  rw [← e, Int32.add_sub_cancel]
theorem N_lt {x y : Nat} (h : x < 2147483648) (h' : y < 2147483648) : N x < N y ↔ x < y := by
  rw [Int32.lt_iff_toInt_lt, N_toInt h, N_toInt h']; omega
theorem N_eq {x y : Nat} (h : x < 2147483648) (h' : y < 2147483648) : N x = N y ↔ x = y := by
  rw [← Int32.toInt_inj, N_toInt h, N_toInt h']; omega
theorem N_nn {x : Nat} (h : x < 2147483648) : ¬ N x < 0 := by
  rw [Int32.lt_iff_toInt_lt, N_toInt h, show (0 : Int32).toInt = 0 from by decide]; omega
theorem N_idx {x : Nat} (h : x < 2147483648) : (N x).toNatClampNeg = x := by
  have a := nat_of (N_nn h)
  have b := N_toInt h
  omega
theorem N_ne1 {x : Nat} (h : x < 2147483648) : ¬ N x = (-1 : Int32) := by
  rw [← Int32.toInt_inj, N_toInt h, show (-1 : Int32).toInt = -1 from by decide]; omega
theorem N_of {v : Int32} {x : Nat} (h : x < 2147483648) (e : v.toInt = (x : Int)) : v = N x := Int32.toInt_inj.mp (e.trans (N_toInt h).symm)
theorem N_div {x y : Nat} (h : x < 2147483648) (h' : y < 2147483648) : N x / N y = N (x / y) := by
  refine N_of (Nat.lt_of_le_of_lt (Nat.div_le_self _ _) h) ?_
  rw [Int32.toInt_div_of_ne_left _ _ (fun q => by
    have := congrArg Int32.toInt q
    rw [N_toInt h] at this
    have e : (Int32.minValue).toInt = -2147483648 := by decide
    omega), N_toInt h, N_toInt h']
  exact (Int.ofNat_tdiv x y).symm
theorem N_mod {x y : Nat} (h : x < 2147483648) (h' : y < 2147483648) : N x % N y = N (x % y) := by
  refine N_of (Nat.lt_of_le_of_lt (Nat.mod_le _ _) h) ?_
  rw [Int32.toInt_mod, N_toInt h, N_toInt h']
  exact (Int.ofNat_tmod x y).symm

section Walk6
variable {p : Program} {l : Launch} {e : Env} {R : Room} {s : State} {m : MethodId} {args : Array Value} {below : List Frame} {meth : Method} {c : Code} {T : State} {locs : List Loc} {cells slots : Nat} {Q : Option Value → Heap → List Loc → Prop} {F : Outcome → State → List Loc → Prop} {C S : Nat} {pc : Nat} {Ls : Array Slot} {st : List Value} {Z : State} {a0 : Array Value} {h : Heap}
/-- an int[] of z components, f i at the index i -/
def Arf (Z : State) (h : Heap) (a : Addr) (z : Nat) (f : Nat → Int32) : Prop := z < 2147483648 ∧ ∃ (k : ClassId) (vs : List Value), vs.length = z ∧ Arv Z h a k .int (N z) vs (.int 0) ∧ ∀ i, i < z → vs.getD i (.int 0) = .int (f i)
def upd (f : Nat → Int32) (j : Nat) (v : Int32) : Nat → Int32 := fun i => if i = j then v else f i
def cpy (g : Nat → Int32) (sp : Nat) (f : Nat → Int32) (dp n : Nat) : Nat → Int32 := fun i => if dp ≤ i ∧ i < dp + n then g (sp + (i - dp)) else f i
theorem upd_hit {f : Nat → Int32} {j i : Nat} {v : Int32} (h : i = j) : upd f j v i = v := if_pos h
theorem upd_miss {f : Nat → Int32} {j i : Nat} {v : Int32} (h : i ≠ j) : upd f j v i = f i := if_neg h
theorem cpy_in {g f : Nat → Int32} {sp dp n i : Nat} (h : dp ≤ i ∧ i < dp + n) : cpy g sp f dp n i = g (sp + (i - dp)) := if_pos h
theorem cpy_out {g f : Nat → Int32} {sp dp n i : Nat} (h : ¬ (dp ≤ i ∧ i < dp + n)) : cpy g sp f dp n i = f i := if_neg h
theorem Arf.lt {a : Addr} {z : Nat} {f : Nat → Int32} (A : Arf Z h a z f) : a < h.size := by obtain ⟨-, k, vs, -, A, -⟩ := A; exact A.lt
theorem Arf.ext {h' : Heap} {a : Addr} {z : Nat} {f : Nat → Int32} (A : Arf Z h a z f) (E : Ext h h') : Arf Z h' a z f := by obtain ⟨q0, k, vs, q, A, G⟩ := A; exact ⟨q0, k, vs, q, A.ext E, G⟩
theorem Arf.keep {h' : Heap} {a : Addr} {z : Nat} {f : Nat → Int32} {ws : List Addr} (A : Arf Z h a z f) (K : Keep h h' ws) (q : a ∉ ws) : Arf Z h' a z f := by obtain ⟨q0, k, vs, r, A, G⟩ := A; exact ⟨q0, k, vs, r, A.keep K q, G⟩
theorem Arf.other {h' : Heap} {a b : Addr} {sl : Nat} {v : Value} {z : Nat} {f : Nat → Int32} (A : Arf Z h a z f) (W : Wr h h' b sl v) (q : a ≠ b) : Arf Z h' a z f := by obtain ⟨q0, k, vs, r, A, G⟩ := A; exact ⟨q0, k, vs, r, A.other W q, G⟩
theorem inN {x z : Nat} (h : x < z) (hz : z < 2147483648) : ¬ N x < 0 ∧ N x < N z := ⟨N_nn (by omega), (N_lt (by omega) hz).mpr h⟩
theorem nLen (n : Nat) (X : Stand p l e R s m args below meth c T locs cells slots) (hx : p.tables.exec = Jvm.exec) (hZ : Z.Warmed39 s.vm) (eT : T.heap = h) {a : Addr} {z : Nat} {f : Nat → Int32} {rest : List Value} (A : Arf Z h a z f) (hd : decode c.code pc = .ok (.arraylength, 1)) (hn : pc + 1 = n) (K : Ends p.tables e below Q F (T.setTop (mkF m n Ls (.int (N z) :: rest)))) : Ends p.tables e below Q F (T.setTop (mkF m pc Ls (.ref a :: rest))) := by
  obtain ⟨-, k, vs, -, A, -⟩ := A
  exact arrLen n X hx hZ eT A hd hn K
theorem nLoad (n : Nat) (v : Int32) (X : Stand p l e R s m args below meth c T locs cells slots) (hx : p.tables.exec = Jvm.exec) (hZ : Z.Warmed39 s.vm) (eT : T.heap = h) {a : Addr} {z x : Nat} {f : Nat → Int32} {rest : List Value} (A : Arf Z h a z f) (hj : x < z) (hv : f x = v) (hd : decode c.code pc = .ok (.iaload, 1)) (hn : pc + 1 = n) (K : Ends p.tables e below Q F (T.setTop (mkF m n Ls (.int v :: rest)))) : Ends p.tables e below Q F (T.setTop (mkF m pc Ls (.int (N x) :: .ref a :: rest))) := by
  obtain ⟨q0, k, vs, hl, A, G⟩ := A
  exact iaload n X hx hZ eT v A (inN hj q0) (by rw [N_idx (by omega), G x hj, hv]) hd hn K
theorem nStore (n : Nat) (X : Stand p l e R s m args below meth c T locs cells slots) (hx : p.tables.exec = Jvm.exec) (hZ : Z.Warmed39 s.vm) (eT : T.heap = h) {a : Addr} {z x : Nat} {v : Int32} {f : Nat → Int32} {rest : List Value} (A : Arf Z h a z f) (hj : x < z) (hd : decode c.code pc = .ok (.iastore, 1)) (hn : pc + 1 = n) (K : ∀ T' h', Stand p l e R s m args below meth c T' (locs ++ [⟨a, x⟩]) cells slots → T'.heap = h' → Wr h h' a x (.int v) → Arf Z h' a z (upd f x v) → Ends p.tables e below Q F (T'.setTop (mkF m n Ls (rest)))) : Ends p.tables e below Q F (T.setTop (mkF m pc Ls (.int v :: .int (N x) :: .ref a :: rest))) := by
  obtain ⟨q0, k, vs, hl, A, G⟩ := A
  have ix : (N x).toNatClampNeg = x := N_idx (by omega)
  refine iastore n X hx hZ eT A (inN hj q0) (by rw [ix]; omega) hd hn ?_
  rw [ix]
  intro T1 h1 X1 e1 W1 A1
  refine K T1 h1 X1 e1 W1 ⟨q0, k, _, by rw [List.length_set, hl], A1, fun i hi => ?_⟩
  by_cases q : i = x
  · subst q
    rw [upd_hit rfl]
    simp [List.getD, hl, hi]
  · rw [upd_miss q, ← G i hi]
    simp [List.getD, List.getElem?_set_ne (Ne.symm q)]
theorem nNew (n cap : Nat) (X : Stand p l e R s m args below meth c T locs cells slots) (hx : p.tables.exec = Jvm.exec) (hZ : Z.Warmed39 s.vm) (w : (Cond.arrayClass .int).before a0 Z = true) (eT : T.heap = h) {z : Nat} {rest : List Value} (hz : z ≤ cap) (hb : cap * 8 ≤ 536870912) (hd : decode c.code pc = .ok (.newarray .int, 2)) (hn : pc + 2 = n) (hc : cells + 1 ≤ R.cells) (hl : slots + cap ≤ R.slots) (K : ∀ T' h' a, a = h.size → Stand p l e R s m args below meth c T' locs (cells + 1) (slots + cap) → T'.heap = h' → Ext h h' → Arf Z h' a z (fun _ => 0) → Ends p.tables e below Q F (T'.setTop (mkF m n Ls (.ref a :: rest)))) : Ends p.tables e below Q F (T.setTop (mkF m pc Ls (.int (N z) :: rest))) := by
  have ix : (N z).toNatClampNeg = z := N_idx (by omega)
  refine newArr n cap X hx hZ (aty := .int) w eT (N_nn (by omega)) (by rw [ix]; exact hz) hb hd hn hc hl ?_
  rw [ix]
  intro T1 h1 a k q X1 e1 E1 A1
  exact K T1 h1 a q X1 e1 E1 ⟨by omega, k, _, List.length_replicate, A1, fun i hi => by simp [List.getD, hi]; rfl⟩
theorem nCopy (n W : Nat) (X : Stand p l e R s m args below meth c T locs cells slots) (hx : p.tables.exec = Jvm.exec) (hZ : Z.Warmed39 s.vm) {own : String} {index : Nat} (hown : s.vm.findClass own = some m.cls) (w1 : (Cond.methodLink own index Jvm.Stand.acN).before a0 Z = true) (w2 : (Cond.native Jvm.Stand.acN).before a0 Z = true) (w3 : (Cond.static Jvm.Stand.acN).before a0 Z = true) (w4 : (Cond.initialized "java/lang/System").before a0 Z = true) (eT : T.heap = h) {a b : Addr} {z z2 sp dp nn : Nat} {g f : Nat → Int32} (A : Arf Z h a z g) (B : Arf Z h b z2 f) (h4 : sp + nn ≤ z) (h5 : dp + nn ≤ z2) {n0 : Nat} (N0 : Fr n0 locs) (ge : n0 ≤ b) (hsz : Ls.size = c.maxLocals) {rest : List Value} (hd : decode c.code pc = .ok (.invokestatic index, 3)) (hn : pc + 3 = n) (hf : 1 ≤ R.frames) (hW : (rest.map fun v => v.category).sum ≤ W) (hlo : W + (nativeFrameWords "java/lang/System" "arraycopy" 5 + 11) ≤ R.locals) (K : ∀ T' h' L, Stand p l e R s m args below meth c T' L cells slots → T'.heap = h' → Fr n0 L → Keep h h' [b] → Arf Z h' b z2 (cpy g sp f dp nn) → Ends p.tables e below Q F (T'.setTop (mkF m n Ls (rest)))) : Ends p.tables e below Q F (T.setTop (mkF m pc Ls (.int (N nn) :: .int (N dp) :: .ref b :: .int (N sp) :: .ref a :: rest))) := by
  obtain ⟨q0, k, vs, hl, A, G⟩ := A
  obtain ⟨r0, k2, vd, hl2, B, G2⟩ := B
  have i1 : (N sp).toNatClampNeg = sp := N_idx (by omega)
  have i2 : (N dp).toNatClampNeg = dp := N_idx (by omega)
  have i3 : (N nn).toNatClampNeg = nn := N_idx (by omega)
  have i4 : (N z).toNatClampNeg = z := N_idx (by omega)
  have i5 : (N z2).toNatClampNeg = z2 := N_idx (by omega)
  refine arrCopy n W X hx hZ hown w1 w2 w3 w4 eT A B rfl (N_nn (by omega)) (N_nn (by omega)) (N_nn (by omega)) (by rw [i1, i3, i4]; exact h4) (by rw [i2, i3, i5]; exact h5) (by rw [i2, i3, hl2]; exact h5) N0 ge hsz hd hn hf hW hlo ?_
  rw [i1, i2, i3]
  intro T1 h1 L1 vs1 X1 e1 N1 K1 hv hq V1
  refine K T1 h1 L1 X1 e1 N1 K1 ⟨r0, k2, vs1, hq.trans hl2, V1, fun i hi => ?_⟩
  subst hv
  have hi' : i < vd.length := by omega
  by_cases q1 : i < dp
  · rw [cpy_out (by omega), ← G2 i hi]
    simp [List.getD, List.getElem?_append, hl2, q1, hi, show i < dp + nn from by omega, show min dp z2 = dp from by omega, List.getElem?_eq_getElem hi']
  · by_cases q2 : i < dp + nn
    · rw [cpy_in ⟨by omega, q2⟩, ← G _ (by omega)]
      simp [List.getD, List.getElem?_append, hl2, q1, q2, show min dp z2 = dp from by omega, show i - dp < nn from by omega]
    · rw [cpy_out (by omega), ← G2 i hi]
      simp [List.getD, List.getElem?_append, hl2, q1, q2, show min dp z2 = dp from by omega, show ¬ i - dp < nn from by omega, show dp + nn + (i - dp - nn) = i from by omega]
theorem nicmp_lt (nY nN : Nat) (X : Stand p l e R s m args below meth c T locs cells slots) (hx : p.tables.exec = Jvm.exec) {o : Int} {x y : Nat} {rest : List Value} (hd : decode c.code pc = .ok (.if_icmp .lt o, 3)) (hY : 0 ≤ (pc : Int) + o ∧ ((pc : Int) + o).toNat = nY) (hN : pc + 3 = nN) (bx : x < 2147483648) (by' : y < 2147483648) (KY : x < y → Ends p.tables e below Q F (T.setTop (mkF m nY Ls (rest)))) (KN : ¬ x < y → Ends p.tables e below Q F (T.setTop (mkF m nN Ls (rest)))) : Ends p.tables e below Q F (T.setTop (mkF m pc Ls (.int (N y) :: .int (N x) :: rest))) :=
  icmp_lt nY nN X hx hd hY hN (fun q => KY ((N_lt bx by').mp q)) (fun q => KN (fun r => q ((N_lt bx by').mpr r)))
theorem nicmp_ge (nY nN : Nat) (X : Stand p l e R s m args below meth c T locs cells slots) (hx : p.tables.exec = Jvm.exec) {o : Int} {x y : Nat} {rest : List Value} (hd : decode c.code pc = .ok (.if_icmp .ge o, 3)) (hY : 0 ≤ (pc : Int) + o ∧ ((pc : Int) + o).toNat = nY) (hN : pc + 3 = nN) (bx : x < 2147483648) (by' : y < 2147483648) (KY : ¬ x < y → Ends p.tables e below Q F (T.setTop (mkF m nY Ls (rest)))) (KN : x < y → Ends p.tables e below Q F (T.setTop (mkF m nN Ls (rest)))) : Ends p.tables e below Q F (T.setTop (mkF m pc Ls (.int (N y) :: .int (N x) :: rest))) :=
  icmp_ge nY nN X hx hd hY hN (fun q => KY (fun r => q ((N_lt bx by').mpr r))) (fun q => KN ((N_lt bx by').mp q))
theorem nicmp_gt (nY nN : Nat) (X : Stand p l e R s m args below meth c T locs cells slots) (hx : p.tables.exec = Jvm.exec) {o : Int} {x y : Nat} {rest : List Value} (hd : decode c.code pc = .ok (.if_icmp .gt o, 3)) (hY : 0 ≤ (pc : Int) + o ∧ ((pc : Int) + o).toNat = nY) (hN : pc + 3 = nN) (bx : x < 2147483648) (by' : y < 2147483648) (KY : y < x → Ends p.tables e below Q F (T.setTop (mkF m nY Ls (rest)))) (KN : ¬ y < x → Ends p.tables e below Q F (T.setTop (mkF m nN Ls (rest)))) : Ends p.tables e below Q F (T.setTop (mkF m pc Ls (.int (N y) :: .int (N x) :: rest))) :=
  icmp_gt nY nN X hx hd hY hN (fun q => KY ((N_lt by' bx).mp q)) (fun q => KN (fun r => q ((N_lt by' bx).mpr r)))
theorem nicmp_le (nY nN : Nat) (X : Stand p l e R s m args below meth c T locs cells slots) (hx : p.tables.exec = Jvm.exec) {o : Int} {x y : Nat} {rest : List Value} (hd : decode c.code pc = .ok (.if_icmp .le o, 3)) (hY : 0 ≤ (pc : Int) + o ∧ ((pc : Int) + o).toNat = nY) (hN : pc + 3 = nN) (bx : x < 2147483648) (by' : y < 2147483648) (KY : ¬ y < x → Ends p.tables e below Q F (T.setTop (mkF m nY Ls (rest)))) (KN : y < x → Ends p.tables e below Q F (T.setTop (mkF m nN Ls (rest)))) : Ends p.tables e below Q F (T.setTop (mkF m pc Ls (.int (N y) :: .int (N x) :: rest))) :=
  icmp_le nY nN X hx hd hY hN (fun q => KY (fun r => q ((N_lt by' bx).mpr r))) (fun q => KN ((N_lt by' bx).mp q))
theorem nicmp_eq (nY nN : Nat) (X : Stand p l e R s m args below meth c T locs cells slots) (hx : p.tables.exec = Jvm.exec) {o : Int} {x y : Nat} {rest : List Value} (hd : decode c.code pc = .ok (.if_icmp .eq o, 3)) (hY : 0 ≤ (pc : Int) + o ∧ ((pc : Int) + o).toNat = nY) (hN : pc + 3 = nN) (bx : x < 2147483648) (by' : y < 2147483648) (KY : x = y → Ends p.tables e below Q F (T.setTop (mkF m nY Ls (rest)))) (KN : ¬ x = y → Ends p.tables e below Q F (T.setTop (mkF m nN Ls (rest)))) : Ends p.tables e below Q F (T.setTop (mkF m pc Ls (.int (N y) :: .int (N x) :: rest))) :=
  icmp_eq nY nN X hx hd hY hN (fun q => KY ((N_eq bx by').mp q)) (fun q => KN (fun r => q ((N_eq bx by').mpr r)))
theorem nicmp_ne (nY nN : Nat) (X : Stand p l e R s m args below meth c T locs cells slots) (hx : p.tables.exec = Jvm.exec) {o : Int} {x y : Nat} {rest : List Value} (hd : decode c.code pc = .ok (.if_icmp .ne o, 3)) (hY : 0 ≤ (pc : Int) + o ∧ ((pc : Int) + o).toNat = nY) (hN : pc + 3 = nN) (bx : x < 2147483648) (by' : y < 2147483648) (KY : ¬ x = y → Ends p.tables e below Q F (T.setTop (mkF m nY Ls (rest)))) (KN : x = y → Ends p.tables e below Q F (T.setTop (mkF m nN Ls (rest)))) : Ends p.tables e below Q F (T.setTop (mkF m pc Ls (.int (N y) :: .int (N x) :: rest))) :=
  icmp_ne nY nN X hx hd hY hN (fun q => KY (fun r => q ((N_eq bx by').mpr r))) (fun q => KN ((N_eq bx by').mp q))
theorem nif_eq (nY nN : Nat) (X : Stand p l e R s m args below meth c T locs cells slots) (hx : p.tables.exec = Jvm.exec) {o : Int} {x : Nat} {rest : List Value} (hd : decode c.code pc = .ok (.ifCond .eq o, 3)) (hY : 0 ≤ (pc : Int) + o ∧ ((pc : Int) + o).toNat = nY) (hN : pc + 3 = nN) (bx : x < 2147483648) (KY : x = 0 → Ends p.tables e below Q F (T.setTop (mkF m nY Ls (rest)))) (KN : ¬ x = 0 → Ends p.tables e below Q F (T.setTop (mkF m nN Ls (rest)))) : Ends p.tables e below Q F (T.setTop (mkF m pc Ls (.int (N x) :: rest))) :=
  if_eq nY nN X hx hd hY hN (fun q => KY ((N_eq (y := 0) bx (by omega)).mp q)) (fun q => KN (fun r => q ((N_eq (y := 0) bx (by omega)).mpr r)))
theorem nif_ne (nY nN : Nat) (X : Stand p l e R s m args below meth c T locs cells slots) (hx : p.tables.exec = Jvm.exec) {o : Int} {x : Nat} {rest : List Value} (hd : decode c.code pc = .ok (.ifCond .ne o, 3)) (hY : 0 ≤ (pc : Int) + o ∧ ((pc : Int) + o).toNat = nY) (hN : pc + 3 = nN) (bx : x < 2147483648) (KY : ¬ x = 0 → Ends p.tables e below Q F (T.setTop (mkF m nY Ls (rest)))) (KN : x = 0 → Ends p.tables e below Q F (T.setTop (mkF m nN Ls (rest)))) : Ends p.tables e below Q F (T.setTop (mkF m pc Ls (.int (N x) :: rest))) :=
  if_ne nY nN X hx hd hY hN (fun q => KY (fun r => q ((N_eq (y := 0) bx (by omega)).mpr r))) (fun q => KN ((N_eq (y := 0) bx (by omega)).mp q))
theorem nif_le (nY nN : Nat) (X : Stand p l e R s m args below meth c T locs cells slots) (hx : p.tables.exec = Jvm.exec) {o : Int} {x : Nat} {rest : List Value} (hd : decode c.code pc = .ok (.ifCond .le o, 3)) (hY : 0 ≤ (pc : Int) + o ∧ ((pc : Int) + o).toNat = nY) (hN : pc + 3 = nN) (bx : x < 2147483648) (KY : x = 0 → Ends p.tables e below Q F (T.setTop (mkF m nY Ls (rest)))) (KN : 0 < x → Ends p.tables e below Q F (T.setTop (mkF m nN Ls (rest)))) : Ends p.tables e below Q F (T.setTop (mkF m pc Ls (.int (N x) :: rest))) :=
  if_le nY nN X hx hd hY hN (fun q => KY (Nat.eq_zero_of_not_pos fun r => q ((N_lt (x := 0) (by omega) bx).mpr r))) (fun q => KN ((N_lt (x := 0) (by omega) bx).mp q))
end Walk6
end Jvm.Own

namespace Jvm.Own
open Jvm Sem ClassFile Op Lib Jvm.Stand Jvm.Free Jvm.LawKit Jvm.RoadKit Bundle
theorem at_ {f : Nat → Int32} {i j : Nat} {v : Int32} (h : i = j) (e : f j = v) : f i = v := h ▸ e
section Walk7
variable {p : Program} {l : Launch} {e : Env} {R : Room} {s : State} {m : MethodId} {args : Array Value} {below : List Frame} {meth : Method} {c : Code} {T : State} {locs : List Loc} {cells slots : Nat} {Q : Option Value → Heap → List Loc → Prop} {F : Outcome → State → List Loc → Prop} {C S : Nat} {pc : Nat} {Ls : Array Slot} {st : List Value} {Z : State} {a0 : Array Value} {h : Heap}
theorem dup2 (n : Nat) (X : Stand p l e R s m args below meth c T locs cells slots) (hx : p.tables.exec = Jvm.exec) {x y : Value} {rest : List Value} (hd : decode c.code pc = .ok (.dup2, 1)) (hn : pc + 1 = n) (hc : x.category = 1) (hc2 : y.category = 1) (K : Ends p.tables e below Q F (T.setTop (mkF m n Ls (x :: y :: x :: y :: rest)))) : Ends p.tables e below Q F (T.setTop (mkF m pc Ls (x :: y :: rest))) := by
  subst hn; exact K.step fun t k => Jvm.Free.XT.dup2 (g := mkF m pc Ls (x :: y :: rest)) X.here hx rfl hd rfl hc hc2 k
end Walk7
end Jvm.Own

namespace Jvm.Pilot.@@N@@
open Jvm Jvm.ClassFile Sem Op Lib Jvm.Free Jvm.Stand Jvm.LawKit Jvm.RoadKit Bundle Jvm.Pilot.@@N@@.Jvm.D
theorem pd_0 : parseMethodDescriptor "([II)I" = some ⟨[(.array .int), .int], some .int⟩ := by decide +kernel
theorem pd_1 : parseMethodDescriptor "(I)I" = some ⟨[.int], some .int⟩ := by decide +kernel
theorem pd_2 : parseMethodDescriptor "()I" = some ⟨[], some .int⟩ := by decide +kernel
theorem pd_3 : parseMethodDescriptor "(II)I" = some ⟨[.int, .int], some .int⟩ := by decide +kernel
theorem pd_4 : parseMethodDescriptor "(IIII)V" = some ⟨[.int, .int, .int, .int], none⟩ := by decide +kernel
theorem pd_5 : parseMethodDescriptor "(II)Z" = some ⟨[.int, .int], some .boolean⟩ := by decide +kernel
theorem pd_6 : parseMethodDescriptor "(III)V" = some ⟨[.int, .int, .int], none⟩ := by decide +kernel
theorem pd_7 : parseMethodDescriptor "(I)V" = some ⟨[.int], none⟩ := by decide +kernel
theorem pd_8 : parseMethodDescriptor "(II)V" = some ⟨[.int, .int], none⟩ := by decide +kernel
theorem pd_9 : parseMethodDescriptor "([I)V" = some ⟨[(.array .int)], none⟩ := by decide +kernel
def own_S (Z : State) (h : Heap) (t lb ib lo : Addr) (lv inn rt ht rg zL zI zO : Nat) (fL fI fO : Nat → Int32) : Prop := Exa Z h t "com/example/frontrank/frontrank/OrderTree" ∧ Fld Z h t "com/example/frontrank/frontrank/OrderTree" "leafBlocks" "[I" (.ref lb) ∧ Fld Z h t "com/example/frontrank/frontrank/OrderTree" "leaves" "I" (.int (Own.N lv)) ∧ Fld Z h t "com/example/frontrank/frontrank/OrderTree" "innerBlocks" "[I" (.ref ib) ∧ Fld Z h t "com/example/frontrank/frontrank/OrderTree" "inners" "I" (.int (Own.N inn)) ∧ Fld Z h t "com/example/frontrank/frontrank/OrderTree" "leafOf" "[I" (.ref lo) ∧ Fld Z h t "com/example/frontrank/frontrank/OrderTree" "root" "I" (.int (Own.N rt)) ∧ Fld Z h t "com/example/frontrank/frontrank/OrderTree" "height" "I" (.int (Own.N ht)) ∧ Fld Z h t "com/example/frontrank/frontrank/OrderTree" "regular" "Z" (.int (Own.N rg)) ∧ Own.Arf Z h lb zL fL ∧ Own.Arf Z h ib zI fI ∧ Own.Arf Z h lo zO fO
def own_D (n0 : Nat) (t lb ib lo : Addr) : Prop := t ≠ lb ∧ t ≠ ib ∧ t ≠ lo ∧ lb ≠ ib ∧ lb ≠ lo ∧ ib ≠ lo ∧ n0 ≤ t ∧ n0 ≤ lb ∧ n0 ≤ ib ∧ n0 ≤ lo

def own_bf (mv m r q : Nat) : Nat := if mv = 0 then q - 1 else if q = r then m else if (if q < r then q else q - 1) - 1 < m then (if q < r then q else q - 1) - 1 else (if q < r then q else q - 1)
def own_af (mv m r ct p1 p2 p3 q : Nat) : Nat := if q = p1 then own_bf mv m r (if ct = 1 then p1 else if ct = 2 then p2 else p3) else if 2 ≤ ct ∧ q = p2 then own_bf mv m r p1 else if ct = 3 ∧ q = p3 then own_bf mv m r p2 else own_bf mv m r q
/-- leaf sizes by their prefix sums -/
def own_Pr (L n' B : Nat) (pre : Nat → Nat) : Prop := pre 0 = 0 ∧ pre L = n' ∧ ∀ j, j < L → pre j ≤ pre (j + 1) ∧ pre (j + 1) ≤ pre j + B
/-- the leaves hold the order -/
def own_Lf (L : Nat) (pre ord : Nat → Nat) (fL fO : Nat → Int32) : Prop := ∀ j, j < L → fL (j * 64 + 2) = Own.N (pre (j + 1) - pre j) ∧ ∀ k, pre j + k < pre (j + 1) → fL (j * 64 + 3 + k) = Own.N (ord (pre j + k)) ∧ fO (ord (pre j + k)) = Own.N j
def own_Or (n' n : Nat) (ord : Nat → Nat) : Prop := ∀ q, q < n' → ord q < n ∧ ∀ q', q' < n' → ord q = ord q' → q = q'
/-- one inner node over all leaves -/
def own_H1 (L x : Nat) (pre : Nat → Nat) (fL fI : Nat → Int32) : Prop := L ≤ 62 ∧ x < 8 ∧ fI (x * 128) = -1 ∧ fI (x * 128 + 2) = Own.N L ∧ ∀ j, j < L → fL (j * 64) = Own.N x ∧ fL (j * 64 + 1) = Own.N j ∧ fI (x * 128 + 3 + j) = Own.N (pre (j + 1) - pre j) ∧ fI (x * 128 + 65 + j) = Own.N j
def own_st (L v : Nat) : Nat := min (31 * v) L
/-- inner nodes of 31 leaves each and a root over them -/
def own_H2 (L V x : Nat) (nd pre : Nat → Nat) (fL fI : Nat → Int32) : Prop := V = (L + 30) / 31 ∧ 2 ≤ V ∧ V ≤ 5 ∧ x < 8 ∧ fI (x * 128) = -1 ∧ fI (x * 128 + 2) = Own.N V ∧ (∀ v, v < V → nd v ≠ x ∧ nd v < 8 ∧ fI (nd v * 128) = Own.N x ∧ fI (nd v * 128 + 1) = Own.N v ∧ fI (nd v * 128 + 2) = Own.N (own_st L (v + 1) - own_st L v) ∧ fI (x * 128 + 3 + v) = Own.N (pre (own_st L (v + 1)) - pre (own_st L v)) ∧ fI (x * 128 + 65 + v) = Own.N (nd v)) ∧ (∀ v v', v < V → v' < V → nd v = nd v' → v = v') ∧ ∀ j, j < L → fL (j * 64) = Own.N (nd (j / 31)) ∧ fL (j * 64 + 1) = Own.N (j % 31) ∧ fI (nd (j / 31) * 128 + 3 + j % 31) = Own.N (pre (j + 1) - pre j) ∧ fI (nd (j / 31) * 128 + 65 + j % 31) = Own.N j
/-- the place of a position -/
def own_Pl (L : Nat) (pre : Nat → Nat) (q a : Nat) : Prop := ∃ j k, j < L ∧ pre j + k = q ∧ pre j + k < pre (j + 1) ∧ a = j * 64 + 3 + k
theorem own_mono {L n' B : Nat} {pre : Nat → Nat} (H : own_Pr L n' B pre) {a b : Nat} (h : a ≤ b) (hb : b ≤ L) : pre a ≤ pre b := by
  induction b with
  | zero => have : a = 0 := by omega
            subst this; exact Nat.le_refl _
  | succ b ih =>
    by_cases q : a = b + 1
    · subst q; exact Nat.le_refl _
    · have := ih (by omega) (by omega)
      have := (H.2.2 b (by omega)).1
      omega
theorem own_find {L n' B : Nat} {pre : Nat → Nat} (H : own_Pr L n' B pre) {q : Nat} (hq : q < n') : ∃ j, j < L ∧ pre j ≤ q ∧ q < pre (j + 1) := by
  have key : ∀ b, b ≤ L → q < pre b → ∃ j, j < b ∧ pre j ≤ q ∧ q < pre (j + 1) := by
    intro b
    induction b with
    | zero => intro _ h; have := H.1; omega
    | succ b ih =>
      intro h1 h2
      by_cases r : q < pre b
      · obtain ⟨j, a, b', c⟩ := ih (by omega) r
        exact ⟨j, by omega, b', c⟩
      · exact ⟨b, by omega, by omega, h2⟩
  exact key L (Nat.le_refl _) (by rw [H.2.1]; exact hq)
theorem own_uniq {L n' B : Nat} {pre : Nat → Nat} (H : own_Pr L n' B pre) {q j j' : Nat} (h : j < L) (h' : j' < L) (a : pre j ≤ q) (b : q < pre (j + 1)) (a' : pre j' ≤ q) (b' : q < pre (j' + 1)) : j = j' := by
  rcases Nat.lt_trichotomy j j' with r | r | r
  · have := own_mono H (a := j + 1) (b := j') (by omega) (by omega); omega
  · exact r
  · have := own_mono H (a := j' + 1) (b := j) (by omega) (by omega); omega
theorem own_bound {L n' B : Nat} {pre : Nat → Nat} (H : own_Pr L n' B pre) {j : Nat} (h : j ≤ L) : pre j ≤ n' := by have := own_mono H h (Nat.le_refl _); rw [H.2.1] at this; exact this
def own_rmP (pre : Nat → Nat) (j0 : Nat) : Nat → Nat := fun j => if j0 < j then pre j - 1 else pre j
def own_rmO (ord : Nat → Nat) (q0 : Nat) : Nat → Nat := fun q => if q < q0 then ord q else ord (q + 1)
def own_inP (pre : Nat → Nat) (j0 : Nat) : Nat → Nat := fun j => if j0 < j then pre j + 1 else pre j
def own_inO (ord : Nat → Nat) (q0 i : Nat) : Nat → Nat := fun q => if q < q0 then ord q else if q = q0 then i else ord (q - 1)
theorem own_rm_Pr {L n' B : Nat} {pre : Nat → Nat} (H : own_Pr L n' B pre) {j0 : Nat} (h : j0 < L) (hz : pre j0 < pre (j0 + 1)) : own_Pr L (n' - 1) B (own_rmP pre j0) := by
  refine ⟨?_, ?_, ?_⟩
  · rw [own_rmP, if_neg (by omega)]; exact H.1
  · rw [own_rmP, if_pos h, H.2.1]
  · intro j hj
    have a := H.2.2 j hj
    rw [own_rmP, own_rmP]
    by_cases q : j0 < j
    · rw [if_pos q, if_pos (by omega)]; omega
    · by_cases r : j = j0
      · subst r; rw [if_neg (by omega), if_pos (by omega)]; omega
      · rw [if_neg (by omega), if_neg (by omega)]; exact a
theorem own_in_Pr {L n' B : Nat} {pre : Nat → Nat} (H : own_Pr L n' B pre) {j0 : Nat} (h : j0 < L) : own_Pr L (n' + 1) (B + 1) (own_inP pre j0) := by
  refine ⟨?_, ?_, ?_⟩
  · rw [own_inP, if_neg (by omega)]; exact H.1
  · rw [own_inP, if_pos h, H.2.1]
  · intro j hj
    have a := H.2.2 j hj
    rw [own_inP, own_inP]
    by_cases q : j0 < j
    · rw [if_pos q, if_pos (by omega)]; omega
    · by_cases r : j = j0
      · subst r; rw [if_neg (by omega), if_pos (by omega)]; omega
      · rw [if_neg (by omega), if_neg (by omega)]; omega
theorem own_rm_Or {n' n : Nat} {ord : Nat → Nat} (H : own_Or n' n ord) {q0 : Nat} (h : q0 < n') : own_Or (n' - 1) n (own_rmO ord q0) ∧ ∀ q, q < n' - 1 → own_rmO ord q0 q ≠ ord q0 := by
  have key : ∀ q, q < n' - 1 → ∃ r, r < n' ∧ r ≠ q0 ∧ own_rmO ord q0 q = ord r ∧ r = if q < q0 then q else q + 1 := by
    intro q hq
    by_cases c : q < q0
    · exact ⟨q, by omega, by omega, by rw [own_rmO, if_pos c], by rw [if_pos c]⟩
    · exact ⟨q + 1, by omega, by omega, by rw [own_rmO, if_neg c], by rw [if_neg c]⟩
  refine ⟨fun q hq => ?_, fun q hq => ?_⟩
  · obtain ⟨r, r1, r2, r3, r4⟩ := key q hq
    refine ⟨by rw [r3]; exact (H r r1).1, fun q' hq' e => ?_⟩
    obtain ⟨s, s1, s2, s3, s4⟩ := key q' hq'
    rw [r3, s3] at e
    have := (H r r1).2 s s1 e
    by_cases c : q < q0 <;> by_cases d : q' < q0 <;> simp only [c, d, if_true, if_false] at r4 s4 <;> omega
  · obtain ⟨r, r1, r2, r3, r4⟩ := key q hq
    rw [r3]
    exact fun e => r2 ((H r r1).2 q0 h e)
theorem own_in_Or {n' n : Nat} {ord : Nat → Nat} (H : own_Or n' n ord) {q0 i : Nat} (h : q0 ≤ n') (hi : i < n) (hn : ∀ q, q < n' → ord q ≠ i) : own_Or (n' + 1) n (own_inO ord q0 i) := by
  intro q hq
  by_cases c : q = q0
  · have e : own_inO ord q0 i q = i := by rw [own_inO, if_neg (by omega), if_pos c]
    rw [e]
    refine ⟨hi, fun q' hq' z => ?_⟩
    by_cases c' : q' = q0
    · omega
    · exfalso
      by_cases d : q' < q0
      · rw [own_inO, if_pos d] at z; exact hn q' (by omega) z.symm
      · rw [own_inO, if_neg d, if_neg c'] at z; exact hn (q' - 1) (by omega) z.symm
  · have key : ∀ q, q < n' + 1 → q ≠ q0 → ∃ r, r < n' ∧ own_inO ord q0 i q = ord r ∧ r = if q < q0 then q else q - 1 := by
      intro q hq c
      by_cases d : q < q0
      · exact ⟨q, by omega, by rw [own_inO, if_pos d], by rw [if_pos d]⟩
      · exact ⟨q - 1, by omega, by rw [own_inO, if_neg d, if_neg c], by rw [if_neg d]⟩
    obtain ⟨r, r1, r2, r3⟩ := key q hq c
    refine ⟨by rw [r2]; exact (H r r1).1, fun q' hq' z => ?_⟩
    by_cases c' : q' = q0
    · exfalso
      rw [r2, own_inO, if_neg (by omega), if_pos c'] at z
      exact hn r r1 z
    · obtain ⟨s, s1, s2, s3⟩ := key q' hq' c'
      rw [r2, s2] at z
      have := (H r r1).2 s s1 z
      by_cases d : q < q0 <;> by_cases d' : q' < q0 <;> simp only [d, d', if_true, if_false] at r3 s3 <;> omega
theorem own_rm_Lf {L n' B : Nat} {pre ord : Nat → Nat} {fL fO : Nat → Int32} (P : own_Pr L n' B pre) (H : own_Lf L pre ord fL fO) {j0 k0 a a1 m b z : Nat} (hj : j0 < L) (hk : pre j0 + k0 < pre (j0 + 1)) (ha : a = j0 * 64 + 3 + k0) (ha1 : a1 = a + 1) (hm : m = pre (j0 + 1) - pre j0 - k0 - 1) (hb : b = j0 * 64 + 2) (hz : z = pre (j0 + 1) - pre j0 - 1) (hB : B ≤ 61) :
    own_Lf L (own_rmP pre j0) (own_rmO ord (pre j0 + k0)) (Own.upd (Own.cpy fL a1 fL a m) b (Own.N z)) fO := by
  intro j hL
  have pj := P.2.2 j hL
  have p0 := P.2.2 j0 hj
  have e1 : own_rmP pre j0 j = if j0 < j then pre j - 1 else pre j := rfl
  have e2 : own_rmP pre j0 (j + 1) = if j0 < j + 1 then pre (j + 1) - 1 else pre (j + 1) := rfl
  have hH := H j hL
  by_cases c : j = j0
  · subst c
    rw [if_neg (by omega)] at e1
    rw [if_pos (by omega)] at e2
    refine ⟨by rw [Own.upd_hit (by omega), e1, e2]; congr 1; omega, fun k hk' => ?_⟩
    rw [e1, e2] at hk'
    rw [e1, Own.upd_miss (by omega)]
    by_cases d : k < k0
    · rw [Own.cpy_out (by omega), own_rmO, if_pos (by omega)]; exact hH.2 k (by omega)
    · rw [Own.cpy_in (by omega), own_rmO, if_neg (by omega), show a1 + (j * 64 + 3 + k - a) = j * 64 + 3 + (k + 1) from by omega, show pre j + k + 1 = pre j + (k + 1) from by omega]
      exact hH.2 (k + 1) (by omega)
  · have m1 : j < j0 → pre (j + 1) ≤ pre j0 := fun r => own_mono P (by omega) (by omega)
    have m2 : j0 < j → pre (j0 + 1) ≤ pre j := fun r => own_mono P (by omega) (by omega)
    have e3 : own_rmP pre j0 (j + 1) - own_rmP pre j0 j = pre (j + 1) - pre j := by
      rw [e1, e2]
      by_cases d : j0 < j
      · have := m2 d; rw [if_pos (by omega), if_pos d]; omega
      · rw [if_neg (by omega), if_neg d]
    refine ⟨by rw [Own.upd_miss (by omega), Own.cpy_out (by omega), e3]; exact hH.1, fun k hk' => ?_⟩
    by_cases d : j0 < j
    · have := m2 d
      rw [if_pos d] at e1
      rw [if_pos (by omega)] at e2
      rw [e1, e2] at hk'
      rw [e1, Own.upd_miss (by omega), Own.cpy_out (by omega), own_rmO, if_neg (by omega), show pre j - 1 + k + 1 = pre j + k from by omega]
      exact hH.2 k (by omega)
    · have := m1 (by omega)
      rw [if_neg d] at e1
      rw [if_neg (by omega)] at e2
      rw [e1, e2] at hk'
      rw [e1, Own.upd_miss (by omega), Own.cpy_out (by omega), own_rmO, if_pos (by omega)]
      exact hH.2 k (by omega)
theorem own_in_Lf {L n' B : Nat} {pre ord : Nat → Nat} {fL fO : Nat → Int32} (P : own_Pr L n' B pre) (H : own_Lf L pre ord fL fO) {j0 k0 i a a1 m b z : Nat} (hj : j0 < L) (hk : pre j0 + k0 ≤ pre (j0 + 1)) (hn : ∀ q, q < n' → ord q ≠ i) (ha : a = j0 * 64 + 3 + k0) (ha1 : a1 = a + 1) (hm : m = pre (j0 + 1) - pre j0 - k0) (hb : b = j0 * 64 + 2) (hz : z = pre (j0 + 1) - pre j0 + 1) (hB : B ≤ 60) {w : Int32} (hw : w = Own.N j0) :
    own_Lf L (own_inP pre j0) (own_inO ord (pre j0 + k0) i) (Own.upd (Own.upd (Own.cpy fL a fL a1 m) a (Own.N i)) b (Own.N z)) (Own.upd fO i w) := by
  subst hw
  intro j hL
  have pj := P.2.2 j hL
  have p0 := P.2.2 j0 hj
  have e1 : own_inP pre j0 j = if j0 < j then pre j + 1 else pre j := rfl
  have e2 : own_inP pre j0 (j + 1) = if j0 < j + 1 then pre (j + 1) + 1 else pre (j + 1) := rfl
  have hH := H j hL
  have bd := own_bound P (j := j + 1) (by omega)
  by_cases c : j = j0
  · subst c
    rw [if_neg (by omega)] at e1
    rw [if_pos (by omega)] at e2
    refine ⟨by rw [Own.upd_hit (by omega), e1, e2]; congr 1; omega, fun k hk' => ?_⟩
    rw [e1, e2] at hk'
    rw [e1, Own.upd_miss (by omega)]
    by_cases d : k < k0
    · rw [Own.upd_miss (by omega), Own.cpy_out (by omega), own_inO, if_pos (by omega), Own.upd_miss (hn _ (by omega))]; exact hH.2 k (by omega)
    · by_cases d' : k = k0
      · subst d'
        rw [Own.upd_hit (by omega), own_inO, if_neg (by omega), if_pos rfl, Own.upd_hit rfl]; exact ⟨rfl, rfl⟩
      · rw [Own.upd_miss (by omega), Own.cpy_in (by omega), own_inO, if_neg (by omega), if_neg (by omega), show a + (j * 64 + 3 + k - a1) = j * 64 + 3 + (k - 1) from by omega, show pre j + k - 1 = pre j + (k - 1) from by omega, Own.upd_miss (hn _ (by omega))]
        exact hH.2 (k - 1) (by omega)
  · have m1 : j < j0 → pre (j + 1) ≤ pre j0 := fun r => own_mono P (by omega) (by omega)
    have m2 : j0 < j → pre (j0 + 1) ≤ pre j := fun r => own_mono P (by omega) (by omega)
    have e3 : own_inP pre j0 (j + 1) - own_inP pre j0 j = pre (j + 1) - pre j := by
      rw [e1, e2]
      by_cases d : j0 < j
      · have := m2 d; rw [if_pos (by omega), if_pos d]; omega
      · rw [if_neg (by omega), if_neg d]
    refine ⟨by rw [Own.upd_miss (by omega), Own.upd_miss (by omega), Own.cpy_out (by omega), e3]; exact hH.1, fun k hk' => ?_⟩
    by_cases d : j0 < j
    · have := m2 d
      rw [if_pos d] at e1
      rw [if_pos (by omega)] at e2
      rw [e1, e2] at hk'
      rw [e1, Own.upd_miss (by omega), Own.upd_miss (by omega), Own.cpy_out (by omega), own_inO, if_neg (by omega), if_neg (by omega), show pre j + 1 + k - 1 = pre j + k from by omega, Own.upd_miss (hn _ (by omega))]
      exact hH.2 k (by omega)
    · have := m1 (by omega)
      rw [if_neg d] at e1
      rw [if_neg (by omega)] at e2
      rw [e1, e2] at hk'
      rw [e1, Own.upd_miss (by omega), Own.upd_miss (by omega), Own.cpy_out (by omega), own_inO, if_pos (by omega), Own.upd_miss (hn _ (by omega))]
      exact hH.2 k (by omega)

def own_dif (L j0 : Nat) (pre pre1 : Nat → Nat) : Prop := ∀ u w, u ≤ w → w ≤ L → (w ≤ j0 ∨ j0 < u) → pre1 w - pre1 u = pre w - pre u
theorem own_rm_dif {L n' B : Nat} {pre : Nat → Nat} (P : own_Pr L n' B pre) {j0 : Nat} (h : j0 < L) (hz : pre j0 < pre (j0 + 1)) : own_dif L j0 pre (own_rmP pre j0) := by
  intro u w h1 h2 h3
  rw [own_rmP, own_rmP]
  rcases h3 with r | r
  · rw [if_neg (by omega), if_neg (by omega)]
  · have := own_mono P (a := j0 + 1) (b := u) (by omega) (by omega)
    rw [if_pos (by omega), if_pos (by omega)]; omega
theorem own_in_dif {L : Nat} {pre : Nat → Nat} {j0 : Nat} : own_dif L j0 pre (own_inP pre j0) := by
  intro u w h1 h2 h3
  rw [own_inP, own_inP]
  rcases h3 with r | r
  · rw [if_neg (by omega), if_neg (by omega)]
  · rw [if_pos (by omega), if_pos (by omega)]; omega
theorem own_H1_upd {L x j0 b z : Nat} {pre pre1 : Nat → Nat} {fL fL1 fI : Nat → Int32} (H : own_H1 L x pre fL fI) (hj : j0 < L) (hf : ∀ j, j < L → fL1 (j * 64) = fL (j * 64) ∧ fL1 (j * 64 + 1) = fL (j * 64 + 1)) (hd : own_dif L j0 pre pre1) (hb : b = x * 128 + 3 + j0) (hz : z = pre1 (j0 + 1) - pre1 j0) : own_H1 L x pre1 fL1 (Own.upd fI b (Own.N z)) := by
  obtain ⟨a1, a2, a3, a4, a5⟩ := H
  refine ⟨a1, a2, by rw [Own.upd_miss (by omega)]; exact a3, by rw [Own.upd_miss (by omega)]; exact a4, fun j h => ?_⟩
  obtain ⟨c1, c2, c3, c4⟩ := a5 j h
  refine ⟨by rw [(hf j h).1]; exact c1, by rw [(hf j h).2]; exact c2, ?_, by rw [Own.upd_miss (by omega)]; exact c4⟩
  by_cases q : j = j0
  · subst q; rw [Own.upd_hit (by omega), hz]
  · rw [Own.upd_miss (by omega), c3, hd j (j + 1) (by omega) (by omega) (by omega)]
theorem own_H2_upd {L V x j0 b1 b2 : Nat} {nd pre pre1 : Nat → Nat} {fL fL1 fI fI1 : Nat → Int32} (H : own_H2 L V x nd pre fL fI) (hj : j0 < L) (hf : ∀ j, j < L → fL1 (j * 64) = fL (j * 64) ∧ fL1 (j * 64 + 1) = fL (j * 64 + 1)) (hd : own_dif L j0 pre pre1) (hb1 : b1 = nd (j0 / 31) * 128 + 3 + j0 % 31) (hb2 : b2 = x * 128 + 3 + j0 / 31) (hI : ∀ i, i ≠ b1 → i ≠ b2 → fI1 i = fI i) (h1 : fI1 b1 = Own.N (pre1 (j0 + 1) - pre1 j0)) (h2 : fI1 b2 = Own.N (pre1 (own_st L (j0 / 31 + 1)) - pre1 (own_st L (j0 / 31)))) : own_H2 L V x nd pre1 fL1 fI1 := by
  obtain ⟨a1, a2, a3, a4, a5, a6, a7, a8, a9⟩ := H
  obtain ⟨d1, d2, -⟩ := a7 (j0 / 31) (by omega)
  refine ⟨a1, a2, a3, a4, by rw [hI _ (by omega) (by omega)]; exact a5, by rw [hI _ (by omega) (by omega)]; exact a6, fun v hv => ?_, a8, fun j h => ?_⟩
  · obtain ⟨c1, c2, c3, c4, c5, c6, c7⟩ := a7 v hv
    have ne : v ≠ j0 / 31 → nd v ≠ nd (j0 / 31) := fun q r => q (a8 v _ hv (by omega) r)
    have hh : nd v = nd (j0 / 31) ∨ nd v ≠ nd (j0 / 31) := by omega
    refine ⟨c1, c2, by rw [hI _ (by omega) (by omega)]; exact c3, by rw [hI _ (by omega) (by omega)]; exact c4, by rw [hI _ (by omega) (by omega)]; exact c5, ?_, by rw [hI _ (by omega) (by omega)]; exact c7⟩
    by_cases q : v = j0 / 31
    · rw [q, ← hb2]; exact h2
    · have e1 : own_st L v = min (31 * v) L := rfl
      have e2 : own_st L (v + 1) = min (31 * (v + 1)) L := rfl
      rw [hI _ (by omega) (by omega), c6, hd (own_st L v) (own_st L (v + 1)) (by omega) (by omega) (by omega)]
  · obtain ⟨c1, c2, c3, c4⟩ := a9 j h
    obtain ⟨f1, f2, -⟩ := a7 (j / 31) (by omega)
    refine ⟨by rw [(hf j h).1]; exact c1, by rw [(hf j h).2]; exact c2, ?_, by rw [hI _ (by omega) (by omega)]; exact c4⟩
    by_cases q : j = j0
    · rw [q, ← hb1]; exact h1
    · have ne : j / 31 ≠ j0 / 31 → nd (j / 31) ≠ nd (j0 / 31) := fun q r => q (a8 _ _ (by omega) (by omega) r)
      have key : nd (j / 31) * 128 + 3 + j % 31 ≠ b1 := by
        by_cases r : j / 31 = j0 / 31
        · rw [hb1, r]; omega
        · have := ne r; omega
      rw [hI _ key (by omega), c3, hd j (j + 1) (by omega) (by omega) (by omega)]
theorem own_H1_L {L x : Nat} {pre : Nat → Nat} {fL fL1 fI : Nat → Int32} (H : own_H1 L x pre fL fI) (hf : ∀ j, j < L → fL1 (j * 64) = fL (j * 64) ∧ fL1 (j * 64 + 1) = fL (j * 64 + 1)) : own_H1 L x pre fL1 fI := by
  obtain ⟨a1, a2, a3, a4, a5⟩ := H
  refine ⟨a1, a2, a3, a4, fun j h => ?_⟩
  rw [(hf j h).1, (hf j h).2]; exact a5 j h
theorem own_H2_L {L V x : Nat} {nd pre : Nat → Nat} {fL fL1 fI : Nat → Int32} (H : own_H2 L V x nd pre fL fI) (hf : ∀ j, j < L → fL1 (j * 64) = fL (j * 64) ∧ fL1 (j * 64 + 1) = fL (j * 64 + 1)) : own_H2 L V x nd pre fL1 fI := by
  obtain ⟨a1, a2, a3, a4, a5, a6, a7, a8, a9⟩ := H
  refine ⟨a1, a2, a3, a4, a5, a6, a7, a8, fun j h => ?_⟩
  rw [(hf j h).1, (hf j h).2]; exact a9 j h
/-- the counts of a node up to the child c -/
def own_Gc (f : Nat → Int32) (b c : Nat) (G : Nat → Nat) : Prop := ∀ s, s ≤ c → f (b * 128 + 3 + s) = Own.N (G (s + 1) - G s) ∧ G s ≤ G (s + 1) ∧ G s ≤ G c
def own_gr (L : Nat) (pre : Nat → Nat) (u : Nat) : Nat := pre (own_st L u)
def own_gn (pre : Nat → Nat) (v s : Nat) : Nat := pre (31 * v + s)
theorem own_G1 {L n' B x : Nat} {pre : Nat → Nat} {fL fI : Nat → Int32} (P : own_Pr L n' B pre) (H : own_H1 L x pre fL fI) {j : Nat} (h : j < L) : own_Gc fI x j pre := fun s hs => ⟨(H.2.2.2.2 s (by omega)).2.2.1, own_mono P (by omega) (by omega), own_mono P hs (by omega)⟩
theorem own_G2r {L n' B V x : Nat} {nd pre : Nat → Nat} {fL fI : Nat → Int32} (P : own_Pr L n' B pre) (H : own_H2 L V x nd pre fL fI) {v : Nat} (h : v < V) : own_Gc fI x v (own_gr L pre) := fun s hs => ⟨(H.2.2.2.2.2.2.1 s (by omega)).2.2.2.2.2.1, own_mono P (by unfold own_st; omega) (by unfold own_st; omega), own_mono P (by unfold own_st; omega) (by unfold own_st; omega)⟩
theorem own_G2n {L n' B V x : Nat} {nd pre : Nat → Nat} {fL fI : Nat → Int32} (P : own_Pr L n' B pre) (H : own_H2 L V x nd pre fL fI) {v c : Nat} (h : 31 * v + c < L) (hc : c < 31) : own_Gc fI (nd v) c (own_gn pre v) := fun s hs => by
  have a := (H.2.2.2.2.2.2.2.2 (31 * v + s) (by omega)).2.2.1
  rw [show (31 * v + s) / 31 = v from by omega, show (31 * v + s) % 31 = s from by omega] at a
  exact ⟨a, own_mono P (by omega) (by omega), own_mono P (by omega) (by omega)⟩
def own_sg (ct q1 q2 q3 q : Nat) : Nat := if q = q1 then (if ct = 1 then q1 else if ct = 2 then q2 else q3) else if 2 ≤ ct ∧ q = q2 then q1 else if ct = 3 ∧ q = q3 then q2 else q
def own_ro (ct q1 q2 q3 : Nat) (ord : Nat → Nat) (q : Nat) : Nat := ord (own_sg ct q1 q2 q3 q)
theorem own_ro_Or {n' n ct q1 q2 q3 : Nat} {ord : Nat → Nat} (H : own_Or n' n ord) (c : 1 ≤ ct ∧ ct ≤ 3) (h1 : q1 < n') (h2 : 2 ≤ ct → q2 < n' ∧ q1 ≠ q2) (h3 : ct = 3 → q3 < n' ∧ q3 ≠ q1 ∧ q3 ≠ q2) : own_Or n' n (own_ro ct q1 q2 q3 ord) := by
  have lt : ∀ q, q < n' → own_sg ct q1 q2 q3 q < n' := by
    intro q hq; unfold own_sg; split
    · split
      · omega
      · split <;> omega
    · split
      · omega
      · split <;> omega
  intro q hq
  refine ⟨(H _ (lt q hq)).1, fun q' hq' e => ?_⟩
  have := (H _ (lt q hq)).2 _ (lt q' hq') e
  obtain rfl | rfl | rfl : ct = 1 ∨ ct = 2 ∨ ct = 3 := by omega
  all_goals (unfold own_sg at this; simp only [Nat.reduceLeDiff, Nat.reduceEqDiff, if_true, if_false, true_and, false_and] at this; repeat' split at this) <;> omega
theorem own_Pl_eq {L n' B : Nat} {pre : Nat → Nat} (P : own_Pr L n' B pre) (hB : B ≤ 61) {q1 a1 j k : Nat} (h : own_Pl L pre q1 a1) (hj : j < L) (hk : pre j + k < pre (j + 1)) : (j * 64 + 3 + k = a1 → pre j + k = q1) ∧ (pre j + k = q1 → j * 64 + 3 + k = a1 ∧ a1 / 64 = j) ∧ j * 64 + 2 ≠ a1 ∧ j * 64 ≠ a1 ∧ j * 64 + 1 ≠ a1 := by
  obtain ⟨j1, k1, b1, b2, b3, b4⟩ := h
  have x1 := P.2.2 j hj
  have x2 := P.2.2 j1 b1
  refine ⟨fun e => ?_, fun e => ?_, by omega, by omega, by omega⟩
  · have : j = j1 := by omega
    subst this; omega
  · have : j = j1 := own_uniq P (q := q1) hj b1 (by omega) (by omega) (by omega) (by omega)
    subst this; omega
theorem own_Pl_off {L n' B : Nat} {pre : Nat → Nat} (P : own_Pr L n' B pre) (hB : B ≤ 61) {q1 a1 j : Nat} (h : own_Pl L pre q1 a1) (hj : j < L) : j * 64 + 2 ≠ a1 ∧ j * 64 ≠ a1 ∧ j * 64 + 1 ≠ a1 := by
  obtain ⟨j1, k1, b1, b2, b3, b4⟩ := h
  have x2 := P.2.2 j1 b1
  refine ⟨by omega, by omega, by omega⟩
theorem own_ro1_Lf {L n' n B : Nat} {pre ord : Nat → Nat} {fL fO : Nat → Int32} (P : own_Pr L n' B pre) (hB : B ≤ 61) (H : own_Lf L pre ord fL fO) (O : own_Or n' n ord) {q1 q2 q3 a1 : Nat} (h1 : own_Pl L pre q1 a1) : own_Lf L pre (own_ro 1 q1 q2 q3 ord) (Own.upd fL a1 (Own.N (ord q1))) (Own.upd fO (ord q1) (Own.N (a1 / 64))) := by
  intro j hj
  have hb := own_bound P (j := j + 1) (by omega)
  refine ⟨by rw [Own.upd_miss (own_Pl_off P hB h1 hj).1]; exact (H j hj).1, fun k hk => ?_⟩
  obtain ⟨a, b, -⟩ := own_Pl_eq P hB h1 hj hk
  obtain ⟨c, d⟩ := (H j hj).2 k hk
  by_cases q : pre j + k = q1
  · rw [own_ro, own_sg, if_pos q, if_pos rfl, Own.upd_hit (b q).1, Own.upd_hit rfl, (b q).2]; exact ⟨rfl, rfl⟩
  · rw [own_ro, own_sg, if_neg q, if_neg (by omega), if_neg (by omega), Own.upd_miss (fun r => q (a r)), Own.upd_miss (fun r => q ((O _ (by omega)).2 q1 (by obtain ⟨x, y, z, t, u, -⟩ := h1; have := own_bound P (j := x + 1) (by omega); omega) r))]; exact ⟨c, d⟩
theorem own_Pl_lt {L n' B : Nat} {pre : Nat → Nat} (P : own_Pr L n' B pre) {q a : Nat} (h : own_Pl L pre q a) : q < n' := by
  obtain ⟨x, y, z, t, u, -⟩ := h; have := own_bound P (j := x + 1) (by omega); omega
theorem own_ro2_Lf {L n' n B : Nat} {pre ord : Nat → Nat} {fL fO : Nat → Int32} (P : own_Pr L n' B pre) (hB : B ≤ 61) (H : own_Lf L pre ord fL fO) (O : own_Or n' n ord) {q1 q2 q3 a1 a2 : Nat} (h1 : own_Pl L pre q1 a1) (h2 : own_Pl L pre q2 a2) (ne : q1 ≠ q2) : own_Lf L pre (own_ro 2 q1 q2 q3 ord) (Own.upd (Own.upd fL a1 (Own.N (ord q2))) a2 (Own.N (ord q1))) (Own.upd (Own.upd fO (ord q2) (Own.N (a1 / 64))) (ord q1) (Own.N (a2 / 64))) := by
  intro j hj
  have hb := own_bound P (j := j + 1) (by omega)
  have l1 := own_Pl_lt P h1
  have l2 := own_Pl_lt P h2
  refine ⟨by rw [Own.upd_miss (own_Pl_off P hB h2 hj).1, Own.upd_miss (own_Pl_off P hB h1 hj).1]; exact (H j hj).1, fun k hk => ?_⟩
  obtain ⟨a, b, -⟩ := own_Pl_eq P hB h1 hj hk
  obtain ⟨a', b', -⟩ := own_Pl_eq P hB h2 hj hk
  obtain ⟨c, d⟩ := (H j hj).2 k hk
  by_cases q : pre j + k = q1
  · rw [own_ro, own_sg, if_pos q, if_neg (by omega), if_pos rfl, Own.upd_miss (fun r => ne (q.symm.trans (a' r))), Own.upd_hit (b q).1, Own.upd_miss (fun r => ne ((O q2 l2).2 q1 l1 r).symm), Own.upd_hit rfl, (b q).2]; exact ⟨rfl, rfl⟩
  · by_cases q' : pre j + k = q2
    · rw [own_ro, own_sg, if_neg q, if_pos (by omega), Own.upd_hit (b' q').1, Own.upd_hit rfl, (b' q').2]; exact ⟨rfl, rfl⟩
    · rw [own_ro, own_sg, if_neg q, if_neg (by omega), if_neg (by omega), Own.upd_miss (fun r => q' (a' r)), Own.upd_miss (fun r => q (a r)), Own.upd_miss (fun r => q ((O _ (by omega)).2 q1 l1 r)), Own.upd_miss (fun r => q' ((O _ (by omega)).2 q2 l2 r))]; exact ⟨c, d⟩
theorem own_ro3_Lf {L n' n B : Nat} {pre ord : Nat → Nat} {fL fO : Nat → Int32} (P : own_Pr L n' B pre) (hB : B ≤ 61) (H : own_Lf L pre ord fL fO) (O : own_Or n' n ord) {q1 q2 q3 a1 a2 a3 : Nat} (h1 : own_Pl L pre q1 a1) (h2 : own_Pl L pre q2 a2) (h3 : own_Pl L pre q3 a3) (ne : q1 ≠ q2) (ne' : q3 ≠ q1 ∧ q3 ≠ q2) : own_Lf L pre (own_ro 3 q1 q2 q3 ord) (Own.upd (Own.upd (Own.upd fL a1 (Own.N (ord q3))) a2 (Own.N (ord q1))) a3 (Own.N (ord q2))) (Own.upd (Own.upd (Own.upd fO (ord q3) (Own.N (a1 / 64))) (ord q1) (Own.N (a2 / 64))) (ord q2) (Own.N (a3 / 64))) := by
  intro j hj
  have hb := own_bound P (j := j + 1) (by omega)
  have l1 := own_Pl_lt P h1
  have l2 := own_Pl_lt P h2
  have l3 := own_Pl_lt P h3
  have o12 : ord q1 ≠ ord q2 := fun r => ne ((O q1 l1).2 q2 l2 r)
  have o31 : ord q3 ≠ ord q1 := fun r => ne'.1 ((O q3 l3).2 q1 l1 r)
  have o32 : ord q3 ≠ ord q2 := fun r => ne'.2 ((O q3 l3).2 q2 l2 r)
  refine ⟨by rw [Own.upd_miss (own_Pl_off P hB h3 hj).1, Own.upd_miss (own_Pl_off P hB h2 hj).1, Own.upd_miss (own_Pl_off P hB h1 hj).1]; exact (H j hj).1, fun k hk => ?_⟩
  obtain ⟨a, b, -⟩ := own_Pl_eq P hB h1 hj hk
  obtain ⟨a', b', -⟩ := own_Pl_eq P hB h2 hj hk
  obtain ⟨a'', b'', -⟩ := own_Pl_eq P hB h3 hj hk
  obtain ⟨c, d⟩ := (H j hj).2 k hk
  by_cases q : pre j + k = q1
  · rw [own_ro, own_sg, if_pos q, if_neg (by omega), if_neg (by omega), Own.upd_miss (fun r => ne'.1 (a'' r ▸ q)), Own.upd_miss (fun r => ne (q.symm.trans (a' r))), Own.upd_hit (b q).1, Own.upd_miss o32, Own.upd_miss o31, Own.upd_hit rfl, (b q).2]; exact ⟨rfl, rfl⟩
  · by_cases q' : pre j + k = q2
    · rw [own_ro, own_sg, if_neg q, if_pos (by omega), Own.upd_miss (fun r => ne'.2 (a'' r ▸ q')), Own.upd_hit (b' q').1, Own.upd_miss o12, Own.upd_hit rfl, (b' q').2]; exact ⟨rfl, rfl⟩
    · by_cases q'' : pre j + k = q3
      · rw [own_ro, own_sg, if_neg q, if_neg (by omega), if_pos (by omega), Own.upd_hit (b'' q'').1, Own.upd_hit rfl, (b'' q'').2]; exact ⟨rfl, rfl⟩
      · rw [own_ro, own_sg, if_neg q, if_neg (by omega), if_neg (by omega), Own.upd_miss (fun r => q'' (a'' r)), Own.upd_miss (fun r => q' (a' r)), Own.upd_miss (fun r => q (a r)), Own.upd_miss (fun r => q' ((O _ (by omega)).2 q2 l2 r)), Own.upd_miss (fun r => q ((O _ (by omega)).2 q1 l1 r)), Own.upd_miss (fun r => q'' ((O _ (by omega)).2 q3 l3 r))]; exact ⟨c, d⟩
def own_od (mv i r : Nat) : Nat → Nat := if mv = 0 then (fun q => q) else own_inO (own_rmO (fun q => q) i) (r - 1) i
theorem own_bf_od {mv i r p : Nat} (h : 1 ≤ p) (hr : 1 ≤ r) : own_bf mv i r p = own_od mv i r (p - 1) := by
  rw [own_bf, own_od]
  by_cases q : mv = 0
  · rw [if_pos q, if_pos q]
  · rw [if_neg q, if_neg q]
    by_cases c : p = r
    · rw [if_pos c, own_inO, if_neg (by omega), if_pos (by omega)]
    · rw [if_neg c]
      by_cases d : p < r
      · have A : own_inO (own_rmO (fun q => q) i) (r - 1) i (p - 1) = if p - 1 < i then p - 1 else p - 1 + 1 := by rw [own_inO, if_pos (by omega), own_rmO]
        rw [A]
        simp only [if_pos d]
        by_cases e : p - 1 < i
        · rw [if_pos e, if_pos e]
        · rw [if_neg e, if_neg e]; omega
      · have A : own_inO (own_rmO (fun q => q) i) (r - 1) i (p - 1) = if p - 1 - 1 < i then p - 1 - 1 else p - 1 - 1 + 1 := by rw [own_inO, if_neg (by omega), if_neg (by omega), own_rmO]
        rw [A]
        simp only [if_neg d]
        by_cases e : p - 1 - 1 < i
        · rw [if_pos e, if_pos e]
        · rw [if_neg e, if_neg e]; omega
theorem own_sg_sub {ct p1 p2 p3 p : Nat} (h : 1 ≤ p) (h1 : 1 ≤ p1) (h2 : 1 ≤ p2) (h3 : 1 ≤ p3) : own_sg ct (p1 - 1) (p2 - 1) (p3 - 1) (p - 1) = own_sg ct p1 p2 p3 p - 1 ∧ 1 ≤ own_sg ct p1 p2 p3 p := by
  have e1 : (p - 1 = p1 - 1) = (p = p1) := propext ⟨fun _ => by omega, fun _ => by omega⟩
  have e2 : (p - 1 = p2 - 1) = (p = p2) := propext ⟨fun _ => by omega, fun _ => by omega⟩
  have e3 : (p - 1 = p3 - 1) = (p = p3) := propext ⟨fun _ => by omega, fun _ => by omega⟩
  unfold own_sg
  simp only [e1, e2, e3]
  repeat' split
  all_goals exact ⟨rfl, by omega⟩
theorem own_af_ro {mv i r ct p1 p2 p3 p : Nat} (h : 1 ≤ p) (hr : 1 ≤ r) (h1 : 1 ≤ p1) (h2 : 1 ≤ p2) (h3 : 1 ≤ p3) : own_af mv i r ct p1 p2 p3 p = own_ro ct (p1 - 1) (p2 - 1) (p3 - 1) (own_od mv i r) (p - 1) := by
  obtain ⟨a, b⟩ := own_sg_sub (ct := ct) h h1 h2 h3
  rw [own_ro, a, ← own_bf_od b hr, own_af, own_sg]
  repeat' split
  all_goals rfl

def own_pb (n j : Nat) : Nat := min (30 * j) n
def own_A (n T : Nat) (fL fO : Nat → Int32) : Prop := (∀ i, i < T → fL (i * 64 + 2) = Own.N (min 30 (n - 30 * i)) ∧ ∀ k, k < min 30 (n - 30 * i) → fL (i * 64 + 3 + k) = Own.N (30 * i + k)) ∧ ∀ i, i < 30 * T → i < n → fO i = Own.N (i / 30)
theorem own_A_step {n T ct a b s : Nat} {fL fO fO1 fT : Nat → Int32} (H : own_A n T fL fO) (hT : 30 * T < n) (hct : ct = min 30 (n - 30 * T)) (hs : s = 30 * T) (ha : a = T * 64 + 3) (hb : b = T * 64 + 2) (hF : ∀ i, i < n → fT i = Own.N i) (hO : ∀ i, i < 30 * T + ct → fO1 i = Own.N (i / 30)) : own_A n (T + 1) (Own.upd (Own.cpy fT s fL a ct) b (Own.N ct)) fO1 := by
  refine ⟨fun i hi => ?_, fun i h1 h2 => hO i (by omega)⟩
  by_cases q : i = T
  · subst q
    refine ⟨by rw [Own.upd_hit (by omega), hct], fun k hk => ?_⟩
    rw [Own.upd_miss (by omega), Own.cpy_in (by omega), hF _ (by omega)]; congr 1; omega
  · obtain ⟨c1, c2⟩ := H.1 i (by omega)
    refine ⟨by rw [Own.upd_miss (by omega), Own.cpy_out (by omega)]; exact c1, fun k hk => ?_⟩
    rw [Own.upd_miss (by omega), Own.cpy_out (by omega)]; exact c2 k hk
theorem own_A_Pr {n : Nat} (hn : 0 < n) : own_Pr ((n - 1) / 30 + 1) n 30 (own_pb n) := by
  refine ⟨by unfold own_pb; omega, by unfold own_pb; omega, fun j hj => by unfold own_pb; omega⟩
theorem own_A_Lf {n : Nat} {fL fO : Nat → Int32} (hn : 0 < n) (H : own_A n ((n - 1) / 30 + 1) fL fO) : own_Lf ((n - 1) / 30 + 1) (own_pb n) (fun q => q) fL fO := by
  intro j hj
  obtain ⟨c1, c2⟩ := H.1 j hj
  refine ⟨by rw [c1]; unfold own_pb; congr 1; omega, fun k hk => ?_⟩
  have e : own_pb n j = 30 * j := by unfold own_pb; omega
  have e' : own_pb n (j + 1) = min (30 * (j + 1)) n := rfl
  rw [e, e'] at hk
  rw [e]
  exact ⟨c2 k (by omega), by show fO (30 * j + k) = _; rw [H.2 _ (by omega) (by omega)]; congr 1; omega⟩
theorem own_A_agree {n T : Nat} {fL fL1 fO : Nat → Int32} (H : own_A n T fL fO) (hf : ∀ j, j < T → ∀ o, 2 ≤ o → o < 64 → fL1 (j * 64 + o) = fL (j * 64 + o)) : own_A n T fL1 fO := by
  refine ⟨fun i hi => ?_, H.2⟩
  obtain ⟨c1, c2⟩ := H.1 i hi
  refine ⟨by rw [hf i hi 2 (by omega) (by omega)]; exact c1, fun k hk => ?_⟩
  have := c2 k hk
  rw [Nat.add_assoc] at this ⊢
  rw [hf i hi (3 + k) (by omega) (by omega)]; exact this
theorem own_Lf_agree {L n' B : Nat} {pre ord : Nat → Nat} {fL fL1 fO : Nat → Int32} (P : own_Pr L n' B pre) (hB : B ≤ 61) (H : own_Lf L pre ord fL fO) (hf : ∀ j, j < L → ∀ o, 2 ≤ o → o < 64 → fL1 (j * 64 + o) = fL (j * 64 + o)) : own_Lf L pre ord fL1 fO := by
  intro j hj
  have := P.2.2 j hj
  obtain ⟨c1, c2⟩ := H j hj
  refine ⟨by rw [hf j hj 2 (by omega) (by omega)]; exact c1, fun k hk => ?_⟩
  have := c2 k hk
  rw [Nat.add_assoc] at this ⊢
  rw [hf j hj (3 + k) (by omega) (by omega)]; exact this
theorem own_two_agree {fL : Nat → Int32} {y : Nat} {v w : Int32} : ∀ j o, 2 ≤ o → o < 64 → (Own.upd (Own.upd fL (y * 64 + 0) v) (y * 64 + 1) w) (j * 64 + o) = fL (j * 64 + o) := by
  intro j o h1 h2
  rw [Own.upd_miss (by omega), Own.upd_miss (by omega)]
def own_B (F n T : Nat) (fL fI : Nat → Int32) : Prop := ∀ j, j < T → fL (j * 64) = Own.N (j / F) ∧ fL (j * 64 + 1) = Own.N (j % F) ∧ fI (j / F * 128 + 3 + j % F) = Own.N (min 30 (n - 30 * j)) ∧ fI (j / F * 128 + 65 + j % F) = Own.N j
theorem own_B_step {F n T x c a b z w y : Nat} {fL fI : Nat → Int32} (H : own_B F n T fL fI) (hF : 0 < F) (hF2 : F ≤ 62) (hx : x = T / F) (hc : c = T % F) (ha : a = x * 128 + 3 + c) (hb : b = x * 128 + 65 + c) (hz : z = min 30 (n - 30 * T)) (hw : w = T) (hy : y = T) : own_B F n (T + 1) (Own.upd (Own.upd fL (y * 64 + 0) (Own.N x)) (y * 64 + 1) (Own.N c)) (Own.upd (Own.upd fI a (Own.N z)) b (Own.N w)) := by
  subst hy
  have cl : y % F < F := Nat.mod_lt _ hF
  intro j hj
  have jl : j % F < F := Nat.mod_lt _ hF
  by_cases q : j = y
  · subst q
    refine ⟨by rw [Own.upd_miss (by omega), Own.upd_hit (by omega), hx], by rw [Own.upd_hit (by omega), hc], by rw [Own.upd_miss (by omega), Own.upd_hit (by omega), hz], by rw [Own.upd_hit (by omega), hw]⟩
  · obtain ⟨c1, c2, c3, c4⟩ := H j (by omega)
    have key : j / F = x → j % F ≠ c := fun e e' => q (by
      have h1 := Nat.div_add_mod j F
      have h2 := Nat.div_add_mod y F
      rw [e, e'] at h1
      rw [← hx, ← hc] at h2
      omega)
    have key2 : j / F = x ∨ j / F ≠ x := by omega
    refine ⟨by rw [Own.upd_miss (by omega), Own.upd_miss (by omega)]; exact c1, by rw [Own.upd_miss (by omega), Own.upd_miss (by omega)]; exact c2, ?_, ?_⟩
    · rcases key2 with e | e
      · have := key e; rw [Own.upd_miss (by omega), Own.upd_miss (by omega)]; exact c3
      · rw [Own.upd_miss (by omega), Own.upd_miss (by omega)]; exact c3
    · rcases key2 with e | e
      · have := key e; rw [Own.upd_miss (by omega), Own.upd_miss (by omega)]; exact c4
      · rw [Own.upd_miss (by omega), Own.upd_miss (by omega)]; exact c4
theorem own_B_size {F n T x b : Nat} {fL fI : Nat → Int32} {v : Int32} (H : own_B F n T fL fI) (hF : 0 < F) (hF2 : F ≤ 62) (hb : b = x * 128 + 2 ∨ b = x * 128 ∨ b = x * 128 + 1) : own_B F n T fL (Own.upd fI b v) := by
  intro j hj
  have jl : j % F < F := Nat.mod_lt _ hF
  obtain ⟨c1, c2, c3, c4⟩ := H j hj
  exact ⟨c1, c2, by rw [Own.upd_miss (by omega)]; exact c3, by rw [Own.upd_miss (by omega)]; exact c4⟩
theorem own_B_far {F n T x b : Nat} {fL fI : Nat → Int32} {v : Int32} (H : own_B F n T fL fI) (hF : 0 < F) (hF2 : F ≤ 62) (hT : ∀ j, j < T → j / F < x) (hb : x * 128 ≤ b) : own_B F n T fL (Own.upd fI b v) := by
  intro j hj
  have jl : j % F < F := Nat.mod_lt _ hF
  obtain ⟨c1, c2, c3, c4⟩ := H j hj
  have := hT j hj
  exact ⟨c1, c2, by rw [Own.upd_miss (by omega)]; exact c3, by rw [Own.upd_miss (by omega)]; exact c4⟩
def own_Sz (L T : Nat) (fI : Nat → Int32) : Prop := ∀ u, u < T → fI (u * 128 + 2) = Own.N (min 31 (L - 31 * u))
theorem own_Sz_upd {L T b : Nat} {fI : Nat → Int32} {v : Int32} (H : own_Sz L T fI) (hb : ∀ u, u < T → u * 128 + 2 ≠ b) : own_Sz L T (Own.upd fI b v) := by
  intro u hu; rw [Own.upd_miss (hb u hu)]; exact H u hu
theorem own_Sz_step {L T b z : Nat} {fI : Nat → Int32} (H : own_Sz L T fI) (hb : b = T * 128 + 2) (hz : z = min 31 (L - 31 * T)) : own_Sz L (T + 1) (Own.upd fI b (Own.N z)) := by
  intro u hu
  by_cases q : u = T
  · subst q; rw [Own.upd_hit (by omega), hz]
  · rw [Own.upd_miss (by omega)]; exact H u (by omega)
/-- the root's entries, level 2 -/
def own_R (n L V T : Nat) (fI : Nat → Int32) : Prop := ∀ k, k < T → fI (V * 128 + 3 + k) = Own.N (own_pb n (own_st L (k + 1)) - own_pb n (own_st L k)) ∧ fI (V * 128 + 65 + k) = Own.N k ∧ fI (k * 128) = Own.N V ∧ fI (k * 128 + 1) = Own.N k
theorem own_R_step {n L V T a b z w w2 y x' : Nat} {fI : Nat → Int32} (H : own_R n L V T fI) (hT : T < V) (hV : V ≤ 62) (ha : a = V * 128 + 3 + T) (hb : b = V * 128 + 65 + T) (hz : z = own_pb n (own_st L (T + 1)) - own_pb n (own_st L T)) (hw : w = T) (hw2 : w2 = T) (hy : y = T) (hx : x' = V) : own_R n L V (T + 1) (Own.upd (Own.upd (Own.upd (Own.upd fI a (Own.N z)) b (Own.N w)) (y * 128 + 0) (Own.N x')) (y * 128 + 1) (Own.N w2)) := by
  subst hy; subst hx; subst hw; subst hw2
  intro k hk
  by_cases q : k = w2
  · subst q
    refine ⟨by rw [Own.upd_miss (by omega), Own.upd_miss (by omega), Own.upd_miss (by omega), Own.upd_hit (by omega), hz], by rw [Own.upd_miss (by omega), Own.upd_miss (by omega), Own.upd_hit (by omega)], by rw [Own.upd_miss (by omega), Own.upd_hit (by omega)], by rw [Own.upd_hit (by omega)]⟩
  · obtain ⟨c1, c2, c3, c4⟩ := H k (by omega)
    refine ⟨?_, ?_, ?_, ?_⟩
    · rw [Own.upd_miss (by omega), Own.upd_miss (by omega), Own.upd_miss (by omega), Own.upd_miss (by omega)]; exact c1
    · rw [Own.upd_miss (by omega), Own.upd_miss (by omega), Own.upd_miss (by omega), Own.upd_miss (by omega)]; exact c2
    · rw [Own.upd_miss (by omega), Own.upd_miss (by omega), Own.upd_miss (by omega), Own.upd_miss (by omega)]; exact c3
    · rw [Own.upd_miss (by omega), Own.upd_miss (by omega), Own.upd_miss (by omega), Own.upd_miss (by omega)]; exact c4
theorem own_B_H1 {n : Nat} {fL fI : Nat → Int32} {b b' z : Nat} (hn : 0 < n) (hL : (n - 1) / 30 + 1 ≤ 62) (H : own_B 62 n ((n - 1) / 30 + 1) fL fI) (hb : b = 2) (hb' : b' = 0) (hz : z = (n - 1) / 30 + 1) : own_H1 ((n - 1) / 30 + 1) 0 (own_pb n) fL (Own.upd (Own.upd fI b (Own.N z)) b' (-1)) := by
  subst hb; subst hb'; subst hz
  refine ⟨hL, by omega, by rw [Own.upd_hit (by omega)], by rw [Own.upd_miss (by omega), Own.upd_hit (by omega)], fun j hj => ?_⟩
  obtain ⟨c1, c2, c3, c4⟩ := H j hj
  have e1 : j / 62 = 0 := by omega
  have e2 : j % 62 = j := by omega
  rw [e1, e2] at c3 c4
  rw [e1] at c1
  rw [e2] at c2
  refine ⟨c1, c2, ?_, ?_⟩
  · rw [Own.upd_miss (by omega), Own.upd_miss (by omega), c3]; unfold own_pb; congr 1; omega
  · rw [Own.upd_miss (by omega), Own.upd_miss (by omega), c4]
theorem own_B_H2 {n L V : Nat} {fL fI : Nat → Int32} {b b' z : Nat} (hn : 0 < n) (hn2 : n ≤ 4096) (hL : L = (n - 1) / 30 + 1) (hL2 : 62 < L) (hV : V = (L + 30) / 31) (H : own_B 31 n L fL fI) (S : own_Sz L V fI) (R : own_R n L V V fI) (hb : b = V * 128 + 2) (hb' : b' = V * 128) (hz : z = V) : own_H2 L V V (fun v => v) (own_pb n) fL (Own.upd (Own.upd fI b (Own.N z)) b' (-1)) := by
  subst hb; subst hb'; subst hz
  refine ⟨hV, by omega, by omega, by omega, by rw [Own.upd_hit rfl], by rw [Own.upd_miss (by omega), Own.upd_hit rfl], fun v hv => ?_, fun v v' _ _ h => h, fun j hj => ?_⟩
  · obtain ⟨c1, c2, c3, c4⟩ := R v hv
    have c5 := S v hv
    show v ≠ z ∧ v < 8 ∧ _
    refine ⟨by omega, by omega, ?_, ?_, ?_, ?_, ?_⟩
    · show Own.upd _ _ _ (v * 128) = _
      rw [Own.upd_miss (by omega), Own.upd_miss (by omega), c3]
    · show Own.upd _ _ _ (v * 128 + 1) = _
      rw [Own.upd_miss (by omega), Own.upd_miss (by omega), c4]
    · show Own.upd _ _ _ (v * 128 + 2) = _
      rw [Own.upd_miss (by omega), Own.upd_miss (by omega), c5]; unfold own_st; congr 1; omega
    · rw [Own.upd_miss (by omega), Own.upd_miss (by omega), c1]
    · rw [Own.upd_miss (by omega), Own.upd_miss (by omega), c2]
  · obtain ⟨c1, c2, c3, c4⟩ := H j hj
    refine ⟨c1, c2, ?_, ?_⟩
    · show Own.upd _ _ _ (j / 31 * 128 + 3 + j % 31) = _
      rw [Own.upd_miss (by omega), Own.upd_miss (by omega), c3]; unfold own_pb; congr 1; omega
    · show Own.upd _ _ _ (j / 31 * 128 + 65 + j % 31) = _
      rw [Own.upd_miss (by omega), Own.upd_miss (by omega), c4]
theorem own_cntG {n L V T : Nat} {fL fI : Nat → Int32} (hn : 0 < n) (hL : L = (n - 1) / 30 + 1) (H : own_B 31 n L fL fI) {v : Nat} : ∀ s, s < min 31 (L - 31 * v) → fI (v * 128 + 3 + s) = Own.N (own_pb n (31 * v + (s + 1)) - own_pb n (31 * v + s)) ∧ own_pb n (31 * v + s) ≤ own_pb n (31 * v + (s + 1)) := by
  intro s hs
  obtain ⟨c1, c2, c3, c4⟩ := H (31 * v + s) (by omega)
  rw [show (31 * v + s) / 31 = v from by omega, show (31 * v + s) % 31 = s from by omega] at c3
  rw [c3]
  unfold own_pb
  exact ⟨by congr 1; omega, by omega⟩

def own_Hh (L rt ht : Nat) (pre : Nat → Nat) (fL fI : Nat → Int32) : Prop := (ht = 1 ∧ own_H1 L rt pre fL fI) ∨ (ht = 2 ∧ ∃ V nd, own_H2 L V rt nd pre fL fI)
def own_T (L n' B rt ht rg zL zI : Nat) (pre : Nat → Nat) (fL fI : Nat → Int32) : Prop := own_Pr L n' B pre ∧ B ≤ 61 ∧ 1 ≤ L ∧ L ≤ 137 ∧ n' ≤ 4096 ∧ own_Hh L rt ht pre fL fI ∧ ((rg = 1 ∧ ∀ j, j ≤ L → pre j = min (30 * j) n') ∨ rg = 0) ∧ 1024 ≤ zI ∧ zI < 1000000 ∧ 128 * L ≤ zL ∧ zL < 1000000
theorem own_T_L {L n' B rt ht rg zL zI : Nat} {pre : Nat → Nat} {fL fL1 fI : Nat → Int32} (H : own_T L n' B rt ht rg zL zI pre fL fI) (hf : ∀ j, j < L → fL1 (j * 64) = fL (j * 64) ∧ fL1 (j * 64 + 1) = fL (j * 64 + 1)) : own_T L n' B rt ht rg zL zI pre fL1 fI := by
  obtain ⟨a1, a2, a3, a4, a5, a6, a7⟩ := H
  refine ⟨a1, a2, a3, a4, a5, ?_, a7⟩
  rcases a6 with ⟨b1, b2⟩ | ⟨b1, V, nd, b2⟩
  · exact Or.inl ⟨b1, own_H1_L b2 hf⟩
  · exact Or.inr ⟨b1, V, nd, own_H2_L b2 hf⟩
theorem own_gr_in {L n' B : Nat} {pre : Nat → Nat} (P : own_Pr L n' B pre) {j : Nat} (h : j < L) : own_gr L pre (j / 31) ≤ pre j ∧ pre (j + 1) ≤ own_gr L pre (j / 31 + 1) ∧ own_gr L pre (j / 31 + 1) ≤ n' ∧ own_gr L pre (j / 31) = own_gn pre (j / 31) 0 ∧ own_gn pre (j / 31) (j % 31) = pre j ∧ own_gn pre (j / 31) (j % 31 + 1) = pre (j + 1) ∧ own_gr L pre 0 = 0 := by
  have s1 : own_st L (j / 31) = 31 * (j / 31) := by unfold own_st; omega
  have s2 : own_st L (j / 31 + 1) = min (31 * (j / 31 + 1)) L := rfl
  have s3 : own_st L 0 = 0 := by unfold own_st; omega
  refine ⟨own_mono P (by omega) (by omega), own_mono P (by omega) (by omega), own_bound P (by omega), ?_, ?_, ?_, ?_⟩
  · unfold own_gr own_gn; rw [s1, Nat.add_zero]
  · unfold own_gn; congr 1; omega
  · unfold own_gn; congr 1; omega
  · unfold own_gr; rw [s3]; exact P.1

theorem own_find2 {L n' B : Nat} {pre : Nat → Nat} (H : own_Pr L n' B pre) (hL : 1 ≤ L) {r : Nat} (h1 : 1 ≤ r) (h2 : r ≤ n' + 1) : ∃ j, j < L ∧ pre j < r ∧ (r ≤ pre (j + 1) ∨ (j = L - 1 ∧ r = pre (j + 1) + 1)) := by
  by_cases q : r ≤ n'
  · obtain ⟨j, a, b, c⟩ := own_find H (q := r - 1) (by omega)
    exact ⟨j, a, by omega, Or.inl (by omega)⟩
  · have a := H.2.1
    have b := (H.2.2 (L - 1) (by omega)).1
    rw [show L - 1 + 1 = L from by omega] at b
    exact ⟨L - 1, by omega, by omega, Or.inr ⟨rfl, by rw [show L - 1 + 1 = L from by omega]; omega⟩⟩
theorem own_T_rg {L n' B rt ht rg zL zI : Nat} {pre : Nat → Nat} {fL fI : Nat → Int32} (H : own_T L n' B rt ht rg zL zI pre fL fI) : own_T L n' B rt ht 0 zL zI pre fL fI := by
  obtain ⟨a1, a2, a3, a4, a5, a6, a7, a8⟩ := H
  exact ⟨a1, a2, a3, a4, a5, a6, Or.inr rfl, a8⟩
theorem own_rmP_at {pre : Nat → Nat} {j : Nat} (h : pre j < pre (j + 1)) : own_rmP pre j (j + 1) - own_rmP pre j j = pre (j + 1) - pre j - 1 := by
  unfold own_rmP; rw [if_pos (by omega), if_neg (by omega)]; omega
theorem own_rmP_st {L n' B : Nat} {pre : Nat → Nat} (P : own_Pr L n' B pre) {j : Nat} (hj : j < L) (h : pre j < pre (j + 1)) : own_rmP pre j (own_st L (j / 31 + 1)) - own_rmP pre j (own_st L (j / 31)) = pre (own_st L (j / 31 + 1)) - pre (own_st L (j / 31)) - 1 := by
  have s1 : own_st L (j / 31) = 31 * (j / 31) := by unfold own_st; omega
  have s2 : own_st L (j / 31 + 1) = min (31 * (j / 31 + 1)) L := rfl
  have m1 := own_mono P (a := j + 1) (b := own_st L (j / 31 + 1)) (by omega) (by omega)
  have m2 := own_mono P (a := own_st L (j / 31)) (b := j) (by omega) (by omega)
  unfold own_rmP; rw [if_pos (by omega), if_neg (by omega)]; omega
theorem own_inP_at {pre : Nat → Nat} {j : Nat} (h : pre j ≤ pre (j + 1)) : own_inP pre j (j + 1) - own_inP pre j j = pre (j + 1) - pre j + 1 := by
  unfold own_inP; rw [if_pos (by omega), if_neg (by omega)]; omega
theorem own_inP_st {L n' B : Nat} {pre : Nat → Nat} (P : own_Pr L n' B pre) {j : Nat} (hj : j < L) : own_inP pre j (own_st L (j / 31 + 1)) - own_inP pre j (own_st L (j / 31)) = pre (own_st L (j / 31 + 1)) - pre (own_st L (j / 31)) + 1 := by
  have s1 : own_st L (j / 31) = 31 * (j / 31) := by unfold own_st; omega
  have s2 : own_st L (j / 31 + 1) = min (31 * (j / 31 + 1)) L := rfl
  have m1 := own_mono P (a := own_st L (j / 31)) (b := own_st L (j / 31 + 1)) (by omega) (by omega)
  unfold own_inP; rw [if_pos (by omega), if_neg (by omega)]; omega
/-- a new root over the one inner node of 62 leaves -/
def own_Q62 (pre : Nat → Nat) (fL fI : Nat → Int32) : Prop := fI 130 = Own.N 1 ∧ fI 131 = Own.N (pre 62) ∧ fI 193 = Own.N 0 ∧ fI 128 = -1 ∧ fI 0 = Own.N 1 ∧ fI 1 = Own.N 0 ∧ fI 2 = Own.N 62 ∧ ∀ j, j < 62 → fL (j * 64) = Own.N 0 ∧ fL (j * 64 + 1) = Own.N j ∧ fI (3 + j) = Own.N (pre (j + 1) - pre j) ∧ fI (65 + j) = Own.N j
def own_nd2 (v : Nat) : Nat := 2 * v
theorem own_split_H2 {pre : Nat → Nat} {fL fI gL gI : Nat → Int32} (H : own_Q62 pre fL fI) (hp : pre 0 = 0) (i1 : gI 130 = Own.N 2) (i2 : gI 131 = Own.N (pre 31)) (i3 : gI 132 = Own.N (pre 62 - pre 31)) (i4 : gI 193 = Own.N 0) (i5 : gI 194 = Own.N 2) (i6 : gI 128 = -1) (i7 : gI 0 = Own.N 1) (i8 : gI 1 = Own.N 0) (i9 : gI 2 = Own.N 31) (i10 : gI 256 = Own.N 1) (i11 : gI 257 = Own.N 1) (i12 : gI 258 = Own.N 31) (c1 : ∀ j, j < 31 → gI (3 + j) = fI (3 + j) ∧ gI (65 + j) = fI (65 + j) ∧ gI (256 + 3 + j) = fI (3 + (31 + j)) ∧ gI (256 + 65 + j) = fI (65 + (31 + j))) (l1 : ∀ j, j < 31 → gL (j * 64) = fL (j * 64) ∧ gL (j * 64 + 1) = fL (j * 64 + 1)) (l2 : ∀ j, j < 31 → gL ((31 + j) * 64) = Own.N 2 ∧ gL ((31 + j) * 64 + 1) = Own.N j) : own_H2 62 2 1 own_nd2 pre gL gI := by
  obtain ⟨h1, h2, h3, h4, h5, h6, h7, h8⟩ := H
  refine ⟨by omega, by omega, by omega, by omega, i6, i1, fun v hv => ?_, fun v v' _ _ h => by have h9 : 2 * v = 2 * v' := h; omega, fun j hj => ?_⟩
  · have s0 : own_st 62 0 = 0 := by decide
    have s1 : own_st 62 1 = 31 := by decide
    have s2 : own_st 62 2 = 62 := by decide
    obtain rfl | rfl : v = 0 ∨ v = 1 := by omega
    · exact ⟨by decide, by decide, i7, i8, by show gI 2 = Own.N (own_st 62 1 - own_st 62 0); rw [s0, s1]; exact i9, by show gI 131 = Own.N (pre (own_st 62 1) - pre (own_st 62 0)); rw [s0, s1, hp]; exact i2, i4⟩
    · exact ⟨by decide, by decide, i10, i11, by show gI 258 = Own.N (own_st 62 2 - own_st 62 1); rw [s2, s1]; exact i12, by show gI 132 = Own.N (pre (own_st 62 2) - pre (own_st 62 1)); rw [s2, s1]; exact i3, i5⟩
  · by_cases q : j < 31
    · have e1 : j / 31 = 0 := by omega
      have e2 : j % 31 = j := by omega
      obtain ⟨a1, a2, a3, a4⟩ := h8 j hj
      obtain ⟨b1, b2, -⟩ := c1 j q
      rw [e1, e2, (l1 j q).1, (l1 j q).2]
      exact ⟨a1, a2, by show gI (0 + 3 + j) = _; rw [Nat.zero_add, b1]; exact a3, by show gI (0 + 65 + j) = _; rw [Nat.zero_add, b2]; exact a4⟩
    · have e1 : j / 31 = 1 := by omega
      have e2 : j % 31 = j - 31 := by omega
      obtain ⟨a1, a2, a3, a4⟩ := h8 j hj
      obtain ⟨-, -, b1, b2⟩ := c1 (j - 31) (by omega)
      obtain ⟨d1, d2⟩ := l2 (j - 31) (by omega)
      rw [show 31 + (j - 31) = j from by omega] at b1 b2 d1 d2
      rw [e1, e2]
      exact ⟨d1, d2, b1.trans a3, b2.trans a4⟩

theorem own_nat (v : Int32) (h : 0 ≤ v.toInt) : ∃ a : Nat, v = Own.N a ∧ (a : Int) = v.toInt ∧ a < 2147483648 := by
  have b : v.toInt < 2147483648 := by have := v.toInt_lt; simpa using this
  exact ⟨v.toInt.toNat, Own.N_of (by omega) (by omega), by omega, by omega⟩
theorem own_u2i (u : UInt32) : u.toInt32 = Own.N u.toNat := by
  show _ = Int32.ofNat _
  rw [← Int32.toBitVec_inj]; simp
theorem own_ush (x : Int32) (k : Nat) (hk : k < 32) (h0 : 1 ≤ k) (kk : Int32) (hkk : (kk &&& 31).toUInt32 = UInt32.ofNat k) : ∃ a : Nat, (x.toUInt32 >>> (kk &&& 31).toUInt32).toInt32 = Own.N a ∧ a < 2147483648 := by
  rw [hkk]
  refine ⟨(x.toUInt32 >>> UInt32.ofNat k).toNat, own_u2i _, ?_⟩
  rw [UInt32.toNat_shiftRight]
  have e : (UInt32.ofNat k).toNat % 32 = k := by simp; omega
  rw [e, Nat.shiftRight_eq_div_pow]
  have := x.toUInt32.toNat_lt
  have h2 : 2 ^ 1 ≤ 2 ^ k := Nat.pow_le_pow_right (by omega) h0
  refine Nat.lt_of_le_of_lt (Nat.div_le_div_left h2 (by omega)) ?_
  omega
theorem own_msk (x m : Int32) (k : Nat) (hk : k ≤ 31) (hm : m.toBitVec.toNat = 2 ^ k - 1) : ∃ a : Nat, x &&& m = Own.N a ∧ a < 2 ^ k := by
  have h := c_mask x m k hk hm
  have p : 0 < 2 ^ k := Nat.two_pow_pos k
  obtain ⟨a, h1, h2, h3⟩ := own_nat (x &&& m) (by rw [h]; exact Int.emod_nonneg _ (by omega))
  have q := Int.emod_lt_of_pos x.toInt (b := ((2 ^ k : Nat) : Int)) (by omega)
  exact ⟨a, h1, by omega⟩
theorem own_od_Or {mv i r n : Nat} (hi : i < n) (hr : 1 ≤ r ∧ r ≤ n) : own_Or n n (own_od mv i r) := by
  have id : own_Or n n (fun q => q) := fun q hq => ⟨hq, fun q' _ e => e⟩
  rw [own_od]
  by_cases c : mv = 0
  · rw [if_pos c]; exact id
  · rw [if_neg c]
    have a := own_rm_Or id hi
    have b := own_in_Or (q0 := r - 1) (i := i) a.1 (by omega) hi a.2
    rwa [show n - 1 + 1 = n from by omega] at b

theorem d4_0 : decode jdk_29_method_69_code 0 = .ok (.iload_n 0, 1) := by decide +kernel
theorem d4_1 : decode jdk_29_method_69_code 1 = .ok (.iload_n 1, 1) := by decide +kernel
theorem d4_2 : decode jdk_29_method_69_code 2 = .ok (.if_icmp .gt 7, 3) := by decide +kernel
theorem d4_5 : decode jdk_29_method_69_code 5 = .ok (.iload_n 0, 1) := by decide +kernel
theorem d4_6 : decode jdk_29_method_69_code 6 = .ok (.goto 4, 3) := by decide +kernel
theorem d4_9 : decode jdk_29_method_69_code 9 = .ok (.iload_n 1, 1) := by decide +kernel
theorem d4_10 : decode jdk_29_method_69_code 10 = .ok (.ireturn, 1) := by decide +kernel
set_option maxRecDepth 65536 in
set_option maxHeartbeats 40000000 in
theorem m4 (l : Launch) (Z : State) (a0 : Array Value) (w : ∀ (i : Nat) {d : Jvm.Cond}, tables_1[i]? = some d → d.before a0 Z = true)  (x y : Nat) (h0 : Heap) (bx : x < 2147483648) (by' : y < 2147483648) :
    Own.Met l Z (⟨"java/lang/Math", "min", "(II)I"⟩ : MethodName) jdk_29_method_69_code 2 (some .int) [] ({ frames := 0, cells := 0, slots := 0, locals := 0 } : Room) #[(.int (Own.N (x))), (.int (Own.N (y)))] h0 (fun v h L => v = some (.int (Own.N (min x y))) ∧ h = h0 ∧ L = []) := by
  refine Own.Met.of (Jvm.Free.JP.mathPlain rfl (by decide +kernel)) ?_
  intro p e s m below meth c T0 hx hby hml hown hnm hret hlk hZ X0 e0
  have hown : s.vm.findClass "java/lang/Math" = some m.cls := hown
  have hml : c.maxLocals = 2 := hml
  have hnm : meth.name = "min" := hnm
  have ef : entryFrame m #[(.int (Own.N (x))), (.int (Own.N (y)))] 2 = mkF m 0 #[.val (.int (Own.N (x))), .val (.int (Own.N (y)))] [] := by first | (simp [entryFrame, mkF, argsToLocals, Value.category]; done) | rfl
  rw [ef]
  refine Own.iloadN 1 X0 hx (hb hby d4_0) rfl rfl ?_
  refine Own.iloadN 2 X0 hx (hb hby d4_1) rfl rfl ?_
  refine Own.nicmp_gt 9 5 X0 hx (hb hby d4_2) (by decide) rfl (by omega) (by omega) (fun q => ?_) (fun q => ?_)
  ·
    refine Own.iloadN 10 X0 hx (hb hby d4_9) rfl rfl ?_
    refine Own.retInt X0 hx hlk hret (hb hby d4_10) (by decide) (by decide) ?_
    exact ⟨by rw [Nat.min_eq_right (by omega)], e0, rfl⟩
  ·
    refine Own.iloadN 6 X0 hx (hb hby d4_5) rfl rfl ?_
    refine Own.goto 10 X0 hx (hb hby d4_6) (by decide) ?_
    refine Own.retInt X0 hx hlk hret (hb hby d4_10) (by decide) (by decide) ?_
    exact ⟨by rw [Nat.min_eq_left (by omega)], e0, rfl⟩
theorem d11_0 : decode method_2_code 0 = .ok (.aload_n 0, 1) := by decide +kernel
theorem d11_1 : decode method_2_code 1 = .ok (.iconst 0, 1) := by decide +kernel
theorem d11_2 : decode method_2_code 2 = .ok (.iaload, 1) := by decide +kernel
theorem d11_3 : decode method_2_code 3 = .ok (.ifCond .ne 7, 3) := by decide +kernel
theorem d11_6 : decode method_2_code 6 = .ok (.iload_n 1, 1) := by decide +kernel
theorem d11_7 : decode method_2_code 7 = .ok (.iconst 1, 1) := by decide +kernel
theorem d11_8 : decode method_2_code 8 = .ok (.isub, 1) := by decide +kernel
theorem d11_9 : decode method_2_code 9 = .ok (.ireturn, 1) := by decide +kernel
theorem d11_10 : decode method_2_code 10 = .ok (.aload_n 0, 1) := by decide +kernel
theorem d11_11 : decode method_2_code 11 = .ok (.iconst 1, 1) := by decide +kernel
theorem d11_12 : decode method_2_code 12 = .ok (.iaload, 1) := by decide +kernel
theorem d11_13 : decode method_2_code 13 = .ok (.istore_n 2, 1) := by decide +kernel
theorem d11_14 : decode method_2_code 14 = .ok (.aload_n 0, 1) := by decide +kernel
theorem d11_15 : decode method_2_code 15 = .ok (.iconst 2, 1) := by decide +kernel
theorem d11_16 : decode method_2_code 16 = .ok (.iaload, 1) := by decide +kernel
theorem d11_17 : decode method_2_code 17 = .ok (.istore_n 3, 1) := by decide +kernel
theorem d11_18 : decode method_2_code 18 = .ok (.iload_n 1, 1) := by decide +kernel
theorem d11_19 : decode method_2_code 19 = .ok (.iload_n 3, 1) := by decide +kernel
theorem d11_20 : decode method_2_code 20 = .ok (.if_icmp .ne 5, 3) := by decide +kernel
theorem d11_23 : decode method_2_code 23 = .ok (.iload_n 2, 1) := by decide +kernel
theorem d11_24 : decode method_2_code 24 = .ok (.ireturn, 1) := by decide +kernel
theorem d11_25 : decode method_2_code 25 = .ok (.iload_n 1, 1) := by decide +kernel
theorem d11_26 : decode method_2_code 26 = .ok (.iload_n 3, 1) := by decide +kernel
theorem d11_27 : decode method_2_code 27 = .ok (.if_icmp .ge 7, 3) := by decide +kernel
theorem d11_30 : decode method_2_code 30 = .ok (.iload_n 1, 1) := by decide +kernel
theorem d11_31 : decode method_2_code 31 = .ok (.goto 6, 3) := by decide +kernel
theorem d11_34 : decode method_2_code 34 = .ok (.iload_n 1, 1) := by decide +kernel
theorem d11_35 : decode method_2_code 35 = .ok (.iconst 1, 1) := by decide +kernel
theorem d11_36 : decode method_2_code 36 = .ok (.isub, 1) := by decide +kernel
theorem d11_37 : decode method_2_code 37 = .ok (.istore 4, 2) := by decide +kernel
theorem d11_39 : decode method_2_code 39 = .ok (.iload 4, 2) := by decide +kernel
theorem d11_41 : decode method_2_code 41 = .ok (.iconst 1, 1) := by decide +kernel
theorem d11_42 : decode method_2_code 42 = .ok (.isub, 1) := by decide +kernel
theorem d11_43 : decode method_2_code 43 = .ok (.iload_n 2, 1) := by decide +kernel
theorem d11_44 : decode method_2_code 44 = .ok (.if_icmp .ge 10, 3) := by decide +kernel
theorem d11_47 : decode method_2_code 47 = .ok (.iload 4, 2) := by decide +kernel
theorem d11_49 : decode method_2_code 49 = .ok (.iconst 1, 1) := by decide +kernel
theorem d11_50 : decode method_2_code 50 = .ok (.isub, 1) := by decide +kernel
theorem d11_51 : decode method_2_code 51 = .ok (.goto 5, 3) := by decide +kernel
theorem d11_54 : decode method_2_code 54 = .ok (.iload 4, 2) := by decide +kernel
theorem d11_56 : decode method_2_code 56 = .ok (.ireturn, 1) := by decide +kernel
set_option maxRecDepth 65536 in
set_option maxHeartbeats 40000000 in
theorem m11 (l : Launch) (Z : State) (a0 : Array Value) (w : ∀ (i : Nat) {d : Jvm.Cond}, tables_1[i]? = some d → d.before a0 Z = true) (a : Addr) (mv m' r' q : Nat) (cf : Nat → Int32) (h0 : Heap) (C0 : Own.Arf Z h0 a 7 cf) (g0 : cf 0 = Own.N mv) (g1 : cf 1 = Own.N m') (g2 : cf 2 = Own.N r') (bv : mv < 1000000) (bm : m' < 1000000) (br : r' < 1000000) (bq : q < 1000000) (q1 : 1 ≤ q) (r1 : 1 ≤ r') :
    Own.Met l Z (⟨"com/example/frontrank/frontrank/OrderTreeRotatePinLaw", "before", "([II)I"⟩ : MethodName) method_2_code 5 (some .int) [] ({ frames := 0, cells := 0, slots := 0, locals := 0 } : Room) #[(.ref a), (.int (Own.N (q)))] h0 (fun v h L => v = some (.int (Own.N (own_bf mv m' r' q))) ∧ h = h0 ∧ L = []) := by
  refine Own.Met.of (plainFor_of_name (by first | (simp [plainName, overriddenIn]; done) | decide +kernel)) ?_
  intro p e s m below meth c T0 hx hby hml hown hnm hret hlk hZ X0 e0
  have hown : s.vm.findClass "com/example/frontrank/frontrank/OrderTreeRotatePinLaw" = some m.cls := hown
  have hml : c.maxLocals = 5 := hml
  have hnm : meth.name = "before" := hnm
  have ef : entryFrame m #[(.ref a), (.int (Own.N (q)))] 5 = mkF m 0 #[.val (.ref a), .val (.int (Own.N (q))), .unset, .unset, .unset] [] := by first | (simp [entryFrame, mkF, argsToLocals, Value.category]; done) | rfl
  rw [ef]
  refine Own.aloadN 1 X0 hx (hb hby d11_0) rfl rfl rfl ?_
  refine Own.iconst 2 X0 hx (Own.N 0) (hb hby d11_1) rfl rfl ?_
  refine Own.nLoad 3 (Own.N (mv)) X0 hx hZ e0 C0 (by omega) g0 (hb hby d11_2) rfl ?_
  refine Own.if_ne 10 6 X0 hx (hb hby d11_3) (by decide) rfl (fun q0 => ?_) (fun q0 => ?_)
  ·
    have z0 : ¬ mv = 0 := fun r => q0 (by rw [r]; rfl)
    refine Own.aloadN 11 X0 hx (hb hby d11_10) rfl rfl rfl ?_
    refine Own.iconst 12 X0 hx (Own.N 1) (hb hby d11_11) rfl rfl ?_
    refine Own.nLoad 13 (Own.N (m')) X0 hx hZ e0 C0 (by omega) g1 (hb hby d11_12) rfl ?_
    refine Own.istoreNV 14 #[.val (.ref a), .val (.int (Own.N (q))), .val (.int (Own.N (m'))), .unset, .unset] X0 hx (hb hby d11_13) rfl rfl ?_
    refine Own.aloadN 15 X0 hx (hb hby d11_14) rfl rfl rfl ?_
    refine Own.iconst 16 X0 hx (Own.N 2) (hb hby d11_15) rfl rfl ?_
    refine Own.nLoad 17 (Own.N (r')) X0 hx hZ e0 C0 (by omega) g2 (hb hby d11_16) rfl ?_
    refine Own.istoreNV 18 #[.val (.ref a), .val (.int (Own.N (q))), .val (.int (Own.N (m'))), .val (.int (Own.N (r'))), .unset] X0 hx (hb hby d11_17) rfl rfl ?_
    refine Own.iloadN 19 X0 hx (hb hby d11_18) rfl rfl ?_
    refine Own.iloadN 20 X0 hx (hb hby d11_19) rfl rfl ?_
    refine Own.nicmp_ne 25 23 X0 hx (hb hby d11_20) (by decide) rfl (by omega) (by omega) (fun q2 => ?_) (fun q2 => ?_)
    ·
      refine Own.iloadN 26 X0 hx (hb hby d11_25) rfl rfl ?_
      refine Own.iloadN 27 X0 hx (hb hby d11_26) rfl rfl ?_
      refine Own.nicmp_ge 34 30 X0 hx (hb hby d11_27) (by decide) rfl (by omega) (by omega) (fun q3 => ?_) (fun q3 => ?_)
      ·
        refine Own.iloadN 35 X0 hx (hb hby d11_34) rfl rfl ?_
        refine Own.iconst 36 X0 hx (Own.N 1) (hb hby d11_35) rfl rfl ?_
        refine Own.isub 37 X0 hx (hb hby d11_36) rfl (Own.N_sub (by omega)) ?_
        refine Own.istoreV 39 #[.val (.ref a), .val (.int (Own.N (q))), .val (.int (Own.N (m'))), .val (.int (Own.N (r'))), .val (.int (Own.N (q - 1)))] X0 hx (hb hby d11_37) rfl rfl ?_
        refine Own.iload 41 X0 hx (hb hby d11_39) rfl rfl ?_
        refine Own.iconst 42 X0 hx (Own.N 1) (hb hby d11_41) rfl rfl ?_
        refine Own.isub 43 X0 hx (hb hby d11_42) rfl (Own.N_sub (by omega)) ?_
        refine Own.iloadN 44 X0 hx (hb hby d11_43) rfl rfl ?_
        refine Own.nicmp_ge 54 47 X0 hx (hb hby d11_44) (by decide) rfl (by omega) (by omega) (fun q4 => ?_) (fun q4 => ?_)
        ·
          refine Own.iload 56 X0 hx (hb hby d11_54) rfl rfl ?_
          refine Own.retInt X0 hx hlk hret (hb hby d11_56) (by decide) (by decide) ?_
          exact ⟨by rw [own_bf, if_neg z0, if_neg q2]; simp only [if_neg q3]; rw [if_neg (by omega)], e0, rfl⟩
        ·
          refine Own.iload 49 X0 hx (hb hby d11_47) rfl rfl ?_
          refine Own.iconst 50 X0 hx (Own.N 1) (hb hby d11_49) rfl rfl ?_
          refine Own.isub 51 X0 hx (hb hby d11_50) rfl (Own.N_sub (by omega)) ?_
          refine Own.goto 56 X0 hx (hb hby d11_51) (by decide) ?_
          refine Own.retInt X0 hx hlk hret (hb hby d11_56) (by decide) (by decide) ?_
          exact ⟨by rw [own_bf, if_neg z0, if_neg q2]; simp only [if_neg q3]; rw [if_pos (by omega)], e0, rfl⟩
      ·
        refine Own.iloadN 31 X0 hx (hb hby d11_30) rfl rfl ?_
        refine Own.goto 37 X0 hx (hb hby d11_31) (by decide) ?_
        refine Own.istoreV 39 #[.val (.ref a), .val (.int (Own.N (q))), .val (.int (Own.N (m'))), .val (.int (Own.N (r'))), .val (.int (Own.N (q)))] X0 hx (hb hby d11_37) rfl rfl ?_
        refine Own.iload 41 X0 hx (hb hby d11_39) rfl rfl ?_
        refine Own.iconst 42 X0 hx (Own.N 1) (hb hby d11_41) rfl rfl ?_
        refine Own.isub 43 X0 hx (hb hby d11_42) rfl (Own.N_sub (by omega)) ?_
        refine Own.iloadN 44 X0 hx (hb hby d11_43) rfl rfl ?_
        refine Own.nicmp_ge 54 47 X0 hx (hb hby d11_44) (by decide) rfl (by omega) (by omega) (fun q4 => ?_) (fun q4 => ?_)
        ·
          refine Own.iload 56 X0 hx (hb hby d11_54) rfl rfl ?_
          refine Own.retInt X0 hx hlk hret (hb hby d11_56) (by decide) (by decide) ?_
          exact ⟨by rw [own_bf, if_neg z0, if_neg q2]; simp only [if_pos q3]; rw [if_neg (by omega)], e0, rfl⟩
        ·
          refine Own.iload 49 X0 hx (hb hby d11_47) rfl rfl ?_
          refine Own.iconst 50 X0 hx (Own.N 1) (hb hby d11_49) rfl rfl ?_
          refine Own.isub 51 X0 hx (hb hby d11_50) rfl (Own.N_sub (by omega)) ?_
          refine Own.goto 56 X0 hx (hb hby d11_51) (by decide) ?_
          refine Own.retInt X0 hx hlk hret (hb hby d11_56) (by decide) (by decide) ?_
          exact ⟨by rw [own_bf, if_neg z0, if_neg q2]; simp only [if_pos q3]; rw [if_pos (by omega)], e0, rfl⟩
    ·
      refine Own.iloadN 24 X0 hx (hb hby d11_23) rfl rfl ?_
      refine Own.retInt X0 hx hlk hret (hb hby d11_24) (by decide) (by decide) ?_
      exact ⟨by rw [own_bf, if_neg z0, if_pos q2], e0, rfl⟩
  ·
    have z0 : mv = 0 := by
      by_cases r : mv = 0
      · exact r
      · exact absurd q0 (fun t => r ((Own.N_eq (y := 0) (by omega) (by omega)).mp t))
    refine Own.iloadN 7 X0 hx (hb hby d11_6) rfl rfl ?_
    refine Own.iconst 8 X0 hx (Own.N 1) (hb hby d11_7) rfl rfl ?_
    refine Own.isub 9 X0 hx (hb hby d11_8) rfl (Own.N_sub (by omega)) ?_
    refine Own.retInt X0 hx hlk hret (hb hby d11_9) (by decide) (by decide) ?_
    exact ⟨by rw [own_bf, if_pos z0], e0, rfl⟩
theorem d10_0 : decode method_3_code 0 = .ok (.aload_n 0, 1) := by decide +kernel
theorem d10_1 : decode method_3_code 1 = .ok (.iconst 3, 1) := by decide +kernel
theorem d10_2 : decode method_3_code 2 = .ok (.iaload, 1) := by decide +kernel
theorem d10_3 : decode method_3_code 3 = .ok (.iconst 1, 1) := by decide +kernel
theorem d10_4 : decode method_3_code 4 = .ok (.if_icmp .ne 9, 3) := by decide +kernel
theorem d10_7 : decode method_3_code 7 = .ok (.aload_n 0, 1) := by decide +kernel
theorem d10_8 : decode method_3_code 8 = .ok (.iconst 4, 1) := by decide +kernel
theorem d10_9 : decode method_3_code 9 = .ok (.iaload, 1) := by decide +kernel
theorem d10_10 : decode method_3_code 10 = .ok (.goto 20, 3) := by decide +kernel
theorem d10_13 : decode method_3_code 13 = .ok (.aload_n 0, 1) := by decide +kernel
theorem d10_14 : decode method_3_code 14 = .ok (.iconst 3, 1) := by decide +kernel
theorem d10_15 : decode method_3_code 15 = .ok (.iaload, 1) := by decide +kernel
theorem d10_16 : decode method_3_code 16 = .ok (.iconst 2, 1) := by decide +kernel
theorem d10_17 : decode method_3_code 17 = .ok (.if_icmp .ne 9, 3) := by decide +kernel
theorem d10_20 : decode method_3_code 20 = .ok (.aload_n 0, 1) := by decide +kernel
theorem d10_21 : decode method_3_code 21 = .ok (.iconst 5, 1) := by decide +kernel
theorem d10_22 : decode method_3_code 22 = .ok (.iaload, 1) := by decide +kernel
theorem d10_23 : decode method_3_code 23 = .ok (.goto 7, 3) := by decide +kernel
theorem d10_26 : decode method_3_code 26 = .ok (.aload_n 0, 1) := by decide +kernel
theorem d10_27 : decode method_3_code 27 = .ok (.bipush 6, 2) := by decide +kernel
theorem d10_29 : decode method_3_code 29 = .ok (.iaload, 1) := by decide +kernel
theorem d10_30 : decode method_3_code 30 = .ok (.istore_n 2, 1) := by decide +kernel
theorem d10_31 : decode method_3_code 31 = .ok (.iload_n 1, 1) := by decide +kernel
theorem d10_32 : decode method_3_code 32 = .ok (.aload_n 0, 1) := by decide +kernel
theorem d10_33 : decode method_3_code 33 = .ok (.iconst 4, 1) := by decide +kernel
theorem d10_34 : decode method_3_code 34 = .ok (.iaload, 1) := by decide +kernel
theorem d10_35 : decode method_3_code 35 = .ok (.if_icmp .ne 9, 3) := by decide +kernel
theorem d10_38 : decode method_3_code 38 = .ok (.aload_n 0, 1) := by decide +kernel
theorem d10_39 : decode method_3_code 39 = .ok (.iload_n 2, 1) := by decide +kernel
theorem d10_40 : decode method_3_code 40 = .ok (.invokestatic 7, 3) := by decide +kernel
theorem d10_43 : decode method_3_code 43 = .ok (.ireturn, 1) := by decide +kernel
theorem d10_44 : decode method_3_code 44 = .ok (.aload_n 0, 1) := by decide +kernel
theorem d10_45 : decode method_3_code 45 = .ok (.iconst 3, 1) := by decide +kernel
theorem d10_46 : decode method_3_code 46 = .ok (.iaload, 1) := by decide +kernel
theorem d10_47 : decode method_3_code 47 = .ok (.iconst 2, 1) := by decide +kernel
theorem d10_48 : decode method_3_code 48 = .ok (.if_icmp .lt 18, 3) := by decide +kernel
theorem d10_51 : decode method_3_code 51 = .ok (.iload_n 1, 1) := by decide +kernel
theorem d10_52 : decode method_3_code 52 = .ok (.aload_n 0, 1) := by decide +kernel
theorem d10_53 : decode method_3_code 53 = .ok (.iconst 5, 1) := by decide +kernel
theorem d10_54 : decode method_3_code 54 = .ok (.iaload, 1) := by decide +kernel
theorem d10_55 : decode method_3_code 55 = .ok (.if_icmp .ne 11, 3) := by decide +kernel
theorem d10_58 : decode method_3_code 58 = .ok (.aload_n 0, 1) := by decide +kernel
theorem d10_59 : decode method_3_code 59 = .ok (.aload_n 0, 1) := by decide +kernel
theorem d10_60 : decode method_3_code 60 = .ok (.iconst 4, 1) := by decide +kernel
theorem d10_61 : decode method_3_code 61 = .ok (.iaload, 1) := by decide +kernel
theorem d10_62 : decode method_3_code 62 = .ok (.invokestatic 7, 3) := by decide +kernel
theorem d10_65 : decode method_3_code 65 = .ok (.ireturn, 1) := by decide +kernel
theorem d10_66 : decode method_3_code 66 = .ok (.aload_n 0, 1) := by decide +kernel
theorem d10_67 : decode method_3_code 67 = .ok (.iconst 3, 1) := by decide +kernel
theorem d10_68 : decode method_3_code 68 = .ok (.iaload, 1) := by decide +kernel
theorem d10_69 : decode method_3_code 69 = .ok (.iconst 3, 1) := by decide +kernel
theorem d10_70 : decode method_3_code 70 = .ok (.if_icmp .ne 19, 3) := by decide +kernel
theorem d10_73 : decode method_3_code 73 = .ok (.iload_n 1, 1) := by decide +kernel
theorem d10_74 : decode method_3_code 74 = .ok (.aload_n 0, 1) := by decide +kernel
theorem d10_75 : decode method_3_code 75 = .ok (.bipush 6, 2) := by decide +kernel
theorem d10_77 : decode method_3_code 77 = .ok (.iaload, 1) := by decide +kernel
theorem d10_78 : decode method_3_code 78 = .ok (.if_icmp .ne 11, 3) := by decide +kernel
theorem d10_81 : decode method_3_code 81 = .ok (.aload_n 0, 1) := by decide +kernel
theorem d10_82 : decode method_3_code 82 = .ok (.aload_n 0, 1) := by decide +kernel
theorem d10_83 : decode method_3_code 83 = .ok (.iconst 5, 1) := by decide +kernel
theorem d10_84 : decode method_3_code 84 = .ok (.iaload, 1) := by decide +kernel
theorem d10_85 : decode method_3_code 85 = .ok (.invokestatic 7, 3) := by decide +kernel
theorem d10_88 : decode method_3_code 88 = .ok (.ireturn, 1) := by decide +kernel
theorem d10_89 : decode method_3_code 89 = .ok (.aload_n 0, 1) := by decide +kernel
theorem d10_90 : decode method_3_code 90 = .ok (.iload_n 1, 1) := by decide +kernel
theorem d10_91 : decode method_3_code 91 = .ok (.invokestatic 7, 3) := by decide +kernel
theorem d10_94 : decode method_3_code 94 = .ok (.ireturn, 1) := by decide +kernel
set_option maxRecDepth 65536 in
set_option maxHeartbeats 40000000 in
theorem m10 (l : Launch) (Z : State) (a0 : Array Value) (w : ∀ (i : Nat) {d : Jvm.Cond}, tables_1[i]? = some d → d.before a0 Z = true) (a : Addr) (mv m' r' ct p1 p2 p3 q : Nat) (cf : Nat → Int32) (h0 : Heap) (C0 : Own.Arf Z h0 a 7 cf) (g0 : cf 0 = Own.N mv) (g1 : cf 1 = Own.N m') (g2 : cf 2 = Own.N r') (g3 : cf 3 = Own.N ct) (g4 : cf 4 = Own.N p1) (g5 : cf 5 = Own.N p2) (g6 : cf 6 = Own.N p3) (bv : mv < 1000000) (bm : m' < 1000000) (br : r' < 1000000) (r1 : 1 ≤ r') (bc : 1 ≤ ct ∧ ct ≤ 3) (b1 : 1 ≤ p1 ∧ p1 < 1000000) (b2 : 1 ≤ p2 ∧ p2 < 1000000) (b3 : 1 ≤ p3 ∧ p3 < 1000000) (bq : 1 ≤ q ∧ q < 1000000) :
    Own.Met l Z (⟨"com/example/frontrank/frontrank/OrderTreeRotatePinLaw", "after", "([II)I"⟩ : MethodName) method_3_code 3 (some .int) [] ({ frames := 1, cells := 0, slots := 0, locals := 16 } : Room) #[(.ref a), (.int (Own.N (q)))] h0 (fun v h L => v = some (.int (Own.N (own_af mv m' r' ct p1 p2 p3 q))) ∧ h = h0 ∧ L = []) := by
  refine Own.Met.of (plainFor_of_name (by first | (simp [plainName, overriddenIn]; done) | decide +kernel)) ?_
  intro p e s m below meth c T0 hx hby hml hown hnm hret hlk hZ X0 e0
  have hown : s.vm.findClass "com/example/frontrank/frontrank/OrderTreeRotatePinLaw" = some m.cls := hown
  have hml : c.maxLocals = 3 := hml
  have hnm : meth.name = "after" := hnm
  have ef : entryFrame m #[(.ref a), (.int (Own.N (q)))] 3 = mkF m 0 #[.val (.ref a), .val (.int (Own.N (q))), .unset] [] := by first | (simp [entryFrame, mkF, argsToLocals, Value.category]; done) | rfl
  rw [ef]
  have J30 : ∀ (la : Nat) (hla : la = (if ct = 1 then p1 else if ct = 2 then p2 else p3)), Own.Ends p.tables e below (fun v h L => v = some (.int (Own.N (own_af mv m' r' ct p1 p2 p3 q))) ∧ h = h0 ∧ L = []) (Own.FE s ({ frames := 1, cells := 0, slots := 0, locals := 16 } : Room).cells ({ frames := 1, cells := 0, slots := 0, locals := 16 } : Room).slots) (T0.setTop (mkF m 30 #[.val (.ref a), .val (.int (Own.N (q))), .unset] [(.int (Own.N (la)))])) := by
    intro la hla
    have bla : 1 ≤ la ∧ la < 1000000 := by rw [hla]; split; exact b1; split; exact b2; exact b3
    refine Own.istoreNV 31 #[.val (.ref a), .val (.int (Own.N (q))), .val (.int (Own.N (la)))] X0 hx (hb hby d10_30) rfl rfl ?_
    refine Own.iloadN 32 X0 hx (hb hby d10_31) rfl rfl ?_
    refine Own.aloadN 33 X0 hx (hb hby d10_32) rfl rfl rfl ?_
    refine Own.iconst 34 X0 hx (Own.N 4) (hb hby d10_33) rfl rfl ?_
    refine Own.nLoad 35 (Own.N (p1)) X0 hx hZ e0 C0 (by omega) g4 (hb hby d10_34) rfl ?_
    refine Own.nicmp_ne 44 38 X0 hx (hb hby d10_35) (by decide) rfl (by omega) (by omega) (fun e1 => ?_) (fun e1 => ?_)
    ·
      refine Own.aloadN 45 X0 hx (hb hby d10_44) rfl rfl rfl ?_
      refine Own.iconst 46 X0 hx (Own.N 3) (hb hby d10_45) rfl rfl ?_
      refine Own.nLoad 47 (Own.N (ct)) X0 hx hZ e0 C0 (by omega) g3 (hb hby d10_46) rfl ?_
      refine Own.iconst 48 X0 hx (Own.N 2) (hb hby d10_47) rfl rfl ?_
      refine Own.nicmp_lt 66 51 X0 hx (hb hby d10_48) (by decide) rfl (by omega) (by omega) (fun e2 => ?_) (fun e2 => ?_)
      ·
        refine Own.aloadN 67 X0 hx (hb hby d10_66) rfl rfl rfl ?_
        refine Own.iconst 68 X0 hx (Own.N 3) (hb hby d10_67) rfl rfl ?_
        refine Own.nLoad 69 (Own.N (ct)) X0 hx hZ e0 C0 (by omega) g3 (hb hby d10_68) rfl ?_
        refine Own.iconst 70 X0 hx (Own.N 3) (hb hby d10_69) rfl rfl ?_
        refine Own.nicmp_ne 89 73 X0 hx (hb hby d10_70) (by decide) rfl (by omega) (by omega) (fun e4 => ?_) (fun e4 => ?_)
        ·
          refine Own.aloadN 90 X0 hx (hb hby d10_89) rfl rfl rfl ?_
          refine Own.iloadN 91 X0 hx (hb hby d10_90) rfl rfl ?_
          refine Own.callSt 94 0 [(.ref a), (.int (Own.N (q)))] [] X0 hx hZ hown (m11 l Z a0 w a mv m' r' q cf _ C0 g0 g1 g2 bv bm br bq.2 bq.1 r1) (w 66 rfl) (w 67 rfl) (w 64 rfl) (w 68 rfl) (by decide) e0 (by decide) (by decide) (by decide) (by decide) (by rw [hml]; rfl) (lenOf pd_0 rfl) rfl (Nat.le_of_eq rfl) (hb hby d10_91) rfl ?_
          rintro vv T1 L1 X1 ⟨rfl, hh1, rfl⟩
          refine Own.retInt X1 hx hlk hret (hb hby d10_94) (by decide) (by decide) ?_
          exact ⟨by rw [own_af]; rw [if_neg e1, if_neg (by omega), if_neg (by omega)], hh1, rfl⟩
        ·
          refine Own.iloadN 74 X0 hx (hb hby d10_73) rfl rfl ?_
          refine Own.aloadN 75 X0 hx (hb hby d10_74) rfl rfl rfl ?_
          refine Own.bipush 77 X0 hx (Own.N 6) (hb hby d10_75) rfl rfl ?_
          refine Own.nLoad 78 (Own.N (p3)) X0 hx hZ e0 C0 (by omega) g6 (hb hby d10_77) rfl ?_
          refine Own.nicmp_ne 89 81 X0 hx (hb hby d10_78) (by decide) rfl (by omega) (by omega) (fun e5 => ?_) (fun e5 => ?_)
          ·
            refine Own.aloadN 90 X0 hx (hb hby d10_89) rfl rfl rfl ?_
            refine Own.iloadN 91 X0 hx (hb hby d10_90) rfl rfl ?_
            refine Own.callSt 94 0 [(.ref a), (.int (Own.N (q)))] [] X0 hx hZ hown (m11 l Z a0 w a mv m' r' q cf _ C0 g0 g1 g2 bv bm br bq.2 bq.1 r1) (w 66 rfl) (w 67 rfl) (w 64 rfl) (w 68 rfl) (by decide) e0 (by decide) (by decide) (by decide) (by decide) (by rw [hml]; rfl) (lenOf pd_0 rfl) rfl (Nat.le_of_eq rfl) (hb hby d10_91) rfl ?_
            rintro vv T2 L2 X2 ⟨rfl, hh2, rfl⟩
            refine Own.retInt X2 hx hlk hret (hb hby d10_94) (by decide) (by decide) ?_
            exact ⟨by rw [own_af]; rw [if_neg e1, if_neg (by omega), if_neg (by omega)], hh2, rfl⟩
          ·
            refine Own.aloadN 82 X0 hx (hb hby d10_81) rfl rfl rfl ?_
            refine Own.aloadN 83 X0 hx (hb hby d10_82) rfl rfl rfl ?_
            refine Own.iconst 84 X0 hx (Own.N 5) (hb hby d10_83) rfl rfl ?_
            refine Own.nLoad 85 (Own.N (p2)) X0 hx hZ e0 C0 (by omega) g5 (hb hby d10_84) rfl ?_
            refine Own.callSt 88 0 [(.ref a), (.int (Own.N (p2)))] [] X0 hx hZ hown (m11 l Z a0 w a mv m' r' p2 cf _ C0 g0 g1 g2 bv bm br b2.2 b2.1 r1) (w 66 rfl) (w 67 rfl) (w 64 rfl) (w 68 rfl) (by decide) e0 (by decide) (by decide) (by decide) (by decide) (by rw [hml]; rfl) (lenOf pd_0 rfl) rfl (Nat.le_of_eq rfl) (hb hby d10_85) rfl ?_
            rintro vv T3 L3 X3 ⟨rfl, hh3, rfl⟩
            refine Own.retInt X3 hx hlk hret (hb hby d10_88) (by decide) (by decide) ?_
            exact ⟨by rw [own_af]; rw [if_neg e1, if_neg (by omega), if_pos (by omega)], hh3, rfl⟩
      ·
        refine Own.iloadN 52 X0 hx (hb hby d10_51) rfl rfl ?_
        refine Own.aloadN 53 X0 hx (hb hby d10_52) rfl rfl rfl ?_
        refine Own.iconst 54 X0 hx (Own.N 5) (hb hby d10_53) rfl rfl ?_
        refine Own.nLoad 55 (Own.N (p2)) X0 hx hZ e0 C0 (by omega) g5 (hb hby d10_54) rfl ?_
        refine Own.nicmp_ne 66 58 X0 hx (hb hby d10_55) (by decide) rfl (by omega) (by omega) (fun e3 => ?_) (fun e3 => ?_)
        ·
          refine Own.aloadN 67 X0 hx (hb hby d10_66) rfl rfl rfl ?_
          refine Own.iconst 68 X0 hx (Own.N 3) (hb hby d10_67) rfl rfl ?_
          refine Own.nLoad 69 (Own.N (ct)) X0 hx hZ e0 C0 (by omega) g3 (hb hby d10_68) rfl ?_
          refine Own.iconst 70 X0 hx (Own.N 3) (hb hby d10_69) rfl rfl ?_
          refine Own.nicmp_ne 89 73 X0 hx (hb hby d10_70) (by decide) rfl (by omega) (by omega) (fun e4 => ?_) (fun e4 => ?_)
          ·
            refine Own.aloadN 90 X0 hx (hb hby d10_89) rfl rfl rfl ?_
            refine Own.iloadN 91 X0 hx (hb hby d10_90) rfl rfl ?_
            refine Own.callSt 94 0 [(.ref a), (.int (Own.N (q)))] [] X0 hx hZ hown (m11 l Z a0 w a mv m' r' q cf _ C0 g0 g1 g2 bv bm br bq.2 bq.1 r1) (w 66 rfl) (w 67 rfl) (w 64 rfl) (w 68 rfl) (by decide) e0 (by decide) (by decide) (by decide) (by decide) (by rw [hml]; rfl) (lenOf pd_0 rfl) rfl (Nat.le_of_eq rfl) (hb hby d10_91) rfl ?_
            rintro vv T4 L4 X4 ⟨rfl, hh4, rfl⟩
            refine Own.retInt X4 hx hlk hret (hb hby d10_94) (by decide) (by decide) ?_
            exact ⟨by rw [own_af]; rw [if_neg e1, if_neg (by omega), if_neg (by omega)], hh4, rfl⟩
          ·
            refine Own.iloadN 74 X0 hx (hb hby d10_73) rfl rfl ?_
            refine Own.aloadN 75 X0 hx (hb hby d10_74) rfl rfl rfl ?_
            refine Own.bipush 77 X0 hx (Own.N 6) (hb hby d10_75) rfl rfl ?_
            refine Own.nLoad 78 (Own.N (p3)) X0 hx hZ e0 C0 (by omega) g6 (hb hby d10_77) rfl ?_
            refine Own.nicmp_ne 89 81 X0 hx (hb hby d10_78) (by decide) rfl (by omega) (by omega) (fun e5 => ?_) (fun e5 => ?_)
            ·
              refine Own.aloadN 90 X0 hx (hb hby d10_89) rfl rfl rfl ?_
              refine Own.iloadN 91 X0 hx (hb hby d10_90) rfl rfl ?_
              refine Own.callSt 94 0 [(.ref a), (.int (Own.N (q)))] [] X0 hx hZ hown (m11 l Z a0 w a mv m' r' q cf _ C0 g0 g1 g2 bv bm br bq.2 bq.1 r1) (w 66 rfl) (w 67 rfl) (w 64 rfl) (w 68 rfl) (by decide) e0 (by decide) (by decide) (by decide) (by decide) (by rw [hml]; rfl) (lenOf pd_0 rfl) rfl (Nat.le_of_eq rfl) (hb hby d10_91) rfl ?_
              rintro vv T5 L5 X5 ⟨rfl, hh5, rfl⟩
              refine Own.retInt X5 hx hlk hret (hb hby d10_94) (by decide) (by decide) ?_
              exact ⟨by rw [own_af]; rw [if_neg e1, if_neg (by omega), if_neg (by omega)], hh5, rfl⟩
            ·
              refine Own.aloadN 82 X0 hx (hb hby d10_81) rfl rfl rfl ?_
              refine Own.aloadN 83 X0 hx (hb hby d10_82) rfl rfl rfl ?_
              refine Own.iconst 84 X0 hx (Own.N 5) (hb hby d10_83) rfl rfl ?_
              refine Own.nLoad 85 (Own.N (p2)) X0 hx hZ e0 C0 (by omega) g5 (hb hby d10_84) rfl ?_
              refine Own.callSt 88 0 [(.ref a), (.int (Own.N (p2)))] [] X0 hx hZ hown (m11 l Z a0 w a mv m' r' p2 cf _ C0 g0 g1 g2 bv bm br b2.2 b2.1 r1) (w 66 rfl) (w 67 rfl) (w 64 rfl) (w 68 rfl) (by decide) e0 (by decide) (by decide) (by decide) (by decide) (by rw [hml]; rfl) (lenOf pd_0 rfl) rfl (Nat.le_of_eq rfl) (hb hby d10_85) rfl ?_
              rintro vv T6 L6 X6 ⟨rfl, hh6, rfl⟩
              refine Own.retInt X6 hx hlk hret (hb hby d10_88) (by decide) (by decide) ?_
              exact ⟨by rw [own_af]; rw [if_neg e1, if_neg (by omega), if_pos (by omega)], hh6, rfl⟩
        ·
          refine Own.aloadN 59 X0 hx (hb hby d10_58) rfl rfl rfl ?_
          refine Own.aloadN 60 X0 hx (hb hby d10_59) rfl rfl rfl ?_
          refine Own.iconst 61 X0 hx (Own.N 4) (hb hby d10_60) rfl rfl ?_
          refine Own.nLoad 62 (Own.N (p1)) X0 hx hZ e0 C0 (by omega) g4 (hb hby d10_61) rfl ?_
          refine Own.callSt 65 0 [(.ref a), (.int (Own.N (p1)))] [] X0 hx hZ hown (m11 l Z a0 w a mv m' r' p1 cf _ C0 g0 g1 g2 bv bm br b1.2 b1.1 r1) (w 66 rfl) (w 67 rfl) (w 64 rfl) (w 68 rfl) (by decide) e0 (by decide) (by decide) (by decide) (by decide) (by rw [hml]; rfl) (lenOf pd_0 rfl) rfl (Nat.le_of_eq rfl) (hb hby d10_62) rfl ?_
          rintro vv T7 L7 X7 ⟨rfl, hh7, rfl⟩
          refine Own.retInt X7 hx hlk hret (hb hby d10_65) (by decide) (by decide) ?_
          exact ⟨by rw [own_af]; rw [if_neg e1, if_pos (by omega)], hh7, rfl⟩
    ·
      refine Own.aloadN 39 X0 hx (hb hby d10_38) rfl rfl rfl ?_
      refine Own.iloadN 40 X0 hx (hb hby d10_39) rfl rfl ?_
      refine Own.callSt 43 0 [(.ref a), (.int (Own.N (la)))] [] X0 hx hZ hown (m11 l Z a0 w a mv m' r' la cf _ C0 g0 g1 g2 bv bm br bla.2 bla.1 r1) (w 66 rfl) (w 67 rfl) (w 64 rfl) (w 68 rfl) (by decide) e0 (by decide) (by decide) (by decide) (by decide) (by rw [hml]; rfl) (lenOf pd_0 rfl) rfl (Nat.le_of_eq rfl) (hb hby d10_40) rfl ?_
      rintro vv T8 L8 X8 ⟨rfl, hh8, rfl⟩
      refine Own.retInt X8 hx hlk hret (hb hby d10_43) (by decide) (by decide) ?_
      exact ⟨by rw [own_af]; rw [if_pos e1, hla], hh8, rfl⟩
  refine Own.aloadN 1 X0 hx (hb hby d10_0) rfl rfl rfl ?_
  refine Own.iconst 2 X0 hx (Own.N 3) (hb hby d10_1) rfl rfl ?_
  refine Own.nLoad 3 (Own.N (ct)) X0 hx hZ e0 C0 (by omega) g3 (hb hby d10_2) rfl ?_
  refine Own.iconst 4 X0 hx (Own.N 1) (hb hby d10_3) rfl rfl ?_
  refine Own.nicmp_ne 13 7 X0 hx (hb hby d10_4) (by decide) rfl (by omega) (by omega) (fun c1 => ?_) (fun c1 => ?_)
  ·
    refine Own.aloadN 14 X0 hx (hb hby d10_13) rfl rfl rfl ?_
    refine Own.iconst 15 X0 hx (Own.N 3) (hb hby d10_14) rfl rfl ?_
    refine Own.nLoad 16 (Own.N (ct)) X0 hx hZ e0 C0 (by omega) g3 (hb hby d10_15) rfl ?_
    refine Own.iconst 17 X0 hx (Own.N 2) (hb hby d10_16) rfl rfl ?_
    refine Own.nicmp_ne 26 20 X0 hx (hb hby d10_17) (by decide) rfl (by omega) (by omega) (fun c2 => ?_) (fun c2 => ?_)
    ·
      refine Own.aloadN 27 X0 hx (hb hby d10_26) rfl rfl rfl ?_
      refine Own.bipush 29 X0 hx (Own.N 6) (hb hby d10_27) rfl rfl ?_
      refine Own.nLoad 30 (Own.N (p3)) X0 hx hZ e0 C0 (by omega) g6 (hb hby d10_29) rfl ?_
      exact J30 p3 (by rw [if_neg c1, if_neg c2])
    ·
      refine Own.aloadN 21 X0 hx (hb hby d10_20) rfl rfl rfl ?_
      refine Own.iconst 22 X0 hx (Own.N 5) (hb hby d10_21) rfl rfl ?_
      refine Own.nLoad 23 (Own.N (p2)) X0 hx hZ e0 C0 (by omega) g5 (hb hby d10_22) rfl ?_
      refine Own.goto 30 X0 hx (hb hby d10_23) (by decide) ?_
      exact J30 p2 (by rw [if_neg c1, if_pos c2])
  ·
    refine Own.aloadN 8 X0 hx (hb hby d10_7) rfl rfl rfl ?_
    refine Own.iconst 9 X0 hx (Own.N 4) (hb hby d10_8) rfl rfl ?_
    refine Own.nLoad 10 (Own.N (p1)) X0 hx hZ e0 C0 (by omega) g4 (hb hby d10_9) rfl ?_
    refine Own.goto 30 X0 hx (hb hby d10_10) (by decide) ?_
    exact J30 p1 (by rw [if_pos c1])
theorem d6_0 : decode prog_32_method_18_code 0 = .ok (.iload_n 2, 1) := by decide +kernel
theorem d6_1 : decode prog_32_method_18_code 1 = .ok (.ifCond .ne 10, 3) := by decide +kernel
theorem d6_4 : decode prog_32_method_18_code 4 = .ok (.aload_n 0, 1) := by decide +kernel
theorem d6_5 : decode prog_32_method_18_code 5 = .ok (.getfield 19, 3) := by decide +kernel
theorem d6_8 : decode prog_32_method_18_code 8 = .ok (.goto 7, 3) := by decide +kernel
theorem d6_15 : decode prog_32_method_18_code 15 = .ok (.astore 5, 2) := by decide +kernel
theorem d6_17 : decode prog_32_method_18_code 17 = .ok (.iload_n 1, 1) := by decide +kernel
theorem d6_18 : decode prog_32_method_18_code 18 = .ok (.iload_n 2, 1) := by decide +kernel
theorem d6_19 : decode prog_32_method_18_code 19 = .ok (.ifCond .ne 8, 3) := by decide +kernel
theorem d6_22 : decode prog_32_method_18_code 22 = .ok (.bipush 64, 2) := by decide +kernel
theorem d6_24 : decode prog_32_method_18_code 24 = .ok (.goto 6, 3) := by decide +kernel
theorem d6_30 : decode prog_32_method_18_code 30 = .ok (.imul, 1) := by decide +kernel
theorem d6_31 : decode prog_32_method_18_code 31 = .ok (.istore 6, 2) := by decide +kernel
theorem d6_33 : decode prog_32_method_18_code 33 = .ok (.aload 5, 2) := by decide +kernel
theorem d6_35 : decode prog_32_method_18_code 35 = .ok (.iload 6, 2) := by decide +kernel
theorem d6_37 : decode prog_32_method_18_code 37 = .ok (.iconst 0, 1) := by decide +kernel
theorem d6_38 : decode prog_32_method_18_code 38 = .ok (.iadd, 1) := by decide +kernel
theorem d6_39 : decode prog_32_method_18_code 39 = .ok (.iload_n 3, 1) := by decide +kernel
theorem d6_40 : decode prog_32_method_18_code 40 = .ok (.iastore, 1) := by decide +kernel
theorem d6_41 : decode prog_32_method_18_code 41 = .ok (.aload 5, 2) := by decide +kernel
theorem d6_43 : decode prog_32_method_18_code 43 = .ok (.iload 6, 2) := by decide +kernel
theorem d6_45 : decode prog_32_method_18_code 45 = .ok (.iconst 1, 1) := by decide +kernel
theorem d6_46 : decode prog_32_method_18_code 46 = .ok (.iadd, 1) := by decide +kernel
theorem d6_47 : decode prog_32_method_18_code 47 = .ok (.iload 4, 2) := by decide +kernel
theorem d6_49 : decode prog_32_method_18_code 49 = .ok (.iastore, 1) := by decide +kernel
theorem d6_50 : decode prog_32_method_18_code 50 = .ok (.return_, 1) := by decide +kernel
set_option maxRecDepth 65536 in
set_option maxHeartbeats 40000000 in
theorem m6_0 (l : Launch) (Z : State) (a0 : Array Value) (w : ∀ (i : Nat) {d : Jvm.Cond}, tables_1[i]? = some d → d.before a0 Z = true) (t : Addr) (lb ib lo : Addr) (lv inn rt ht rg zL zI zO n0 : Nat) (fL fI fO : Nat → Int32)(x lev p' s' : Nat) (h0 : Heap) (Z0 : n0 ≤ h0.size) (D0 : own_D n0 t lb ib lo) (S0 : own_S Z h0 t lb ib lo lv inn rt ht rg zL zI zO fL fI fO)(hl : lev = 0) (bl : lev < 1000) (bx : x < 1000000) (hz : x * 64 + 1 < zL) :
    Own.Met l Z (⟨"com/example/frontrank/frontrank/OrderTree", "setParent", "(IIII)V"⟩ : MethodName) prog_32_method_18_code 7 none [] ({ frames := 0, cells := 0, slots := 0, locals := 0 } : Room) #[(.ref t), (.int (Own.N (x))), (.int (Own.N (lev))), (.int (Own.N (p'))), (.int (Own.N (s')))] h0 (fun v h L => v = none ∧ Fr n0 L ∧ Keep h0 h [t, lb, ib, lo] ∧ own_S Z h t lb ib lo lv inn rt ht rg zL zI zO (Own.upd (Own.upd fL (x * 64 + 0) (Own.N p')) (x * 64 + 1) (Own.N s')) fI fO) := by
  refine Own.Met.of (plainFor_of_name (by first | (simp [plainName, overriddenIn]; done) | decide +kernel)) ?_
  intro p e s m below meth c T0 hx hby hml hown hnm hret hlk hZ X0 e0
  have hown : s.vm.findClass "com/example/frontrank/frontrank/OrderTree" = some m.cls := hown
  have hml : c.maxLocals = 7 := hml
  have hnm : meth.name = "setParent" := hnm
  have ef : entryFrame m #[(.ref t), (.int (Own.N (x))), (.int (Own.N (lev))), (.int (Own.N (p'))), (.int (Own.N (s')))] 7 = mkF m 0 #[.val (.ref t), .val (.int (Own.N (x))), .val (.int (Own.N (lev))), .val (.int (Own.N (p'))), .val (.int (Own.N (s'))), .unset, .unset] [] := by first | (simp [entryFrame, mkF, argsToLocals, Value.category]; done) | rfl
  rw [ef]
  have N0 := Fr.nil n0
  have D00 := D0
  obtain ⟨ne_t_lb, ne_t_ib, ne_t_lo, ne_lb_ib, ne_lb_lo, ne_ib_lo, g_t, g_lb, g_ib, g_lo⟩ := D0
  obtain ⟨E_0, Fleaks_0, Fleaes_0, Finnks_0, Finnrs_0, FleaOf_0, Frooot_0, Fheiht_0, Fregar_0, Clb_0, Cib_0, Clo_0⟩ := S0
  refine Own.iloadN 1 X0 hx (hb hby d6_0) rfl rfl ?_
  refine Own.nif_ne 11 4 X0 hx (hb hby d6_1) (by decide) rfl (by omega) (fun tk => False.elim (by omega)) (fun tk => ?_)
  refine Own.aloadN 5 X0 hx (hb hby d6_4) rfl rfl rfl ?_
  refine Own.getFld 8 X0 hx hZ hown (host := "") (Or.inl (w 12 rfl)) Via.refl e0 Fleaks_0 (hb hby d6_5) rfl ?_
  intro T1 X1 e1
  refine Own.goto 15 X1 hx (hb hby d6_8) (by decide) ?_
  refine Own.astore 17 #[.val (.ref t), .val (.int (Own.N (x))), .val (.int (Own.N (lev))), .val (.int (Own.N (p'))), .val (.int (Own.N (s'))), .val (.ref lb), .unset] X1 hx (hb hby d6_15) rfl rfl rfl ?_
  refine Own.iloadN 18 X1 hx (hb hby d6_17) rfl rfl ?_
  refine Own.iloadN 19 X1 hx (hb hby d6_18) rfl rfl ?_
  refine Own.nif_ne 27 22 X1 hx (hb hby d6_19) (by decide) rfl (by omega) (fun tk => False.elim (by omega)) (fun tk => ?_)
  refine Own.bipush 24 X1 hx (Own.N 64) (hb hby d6_22) rfl rfl ?_
  refine Own.goto 30 X1 hx (hb hby d6_24) (by decide) ?_
  refine Own.imul 31 X1 hx (hb hby d6_30) rfl (Own.N_mul _ _) ?_
  refine Own.istoreV 33 #[.val (.ref t), .val (.int (Own.N (x))), .val (.int (Own.N (lev))), .val (.int (Own.N (p'))), .val (.int (Own.N (s'))), .val (.ref lb), .val (.int (Own.N (x * 64)))] X1 hx (hb hby d6_31) rfl rfl ?_
  refine Own.aload 35 X1 hx (hb hby d6_33) rfl rfl rfl ?_
  refine Own.iload 37 X1 hx (hb hby d6_35) rfl rfl ?_
  refine Own.iconst 38 X1 hx (Own.N 0) (hb hby d6_37) rfl rfl ?_
  refine Own.iadd 39 X1 hx (hb hby d6_38) rfl (Own.N_add _ _) ?_
  refine Own.iloadN 40 X1 hx (hb hby d6_39) rfl rfl ?_
  refine Own.nStore 41 X1 hx hZ e1 Clb_0 (by omega) (hb hby d6_40) rfl ?_
  intro T2 h2 X2 e2 W2 C2
  have N2 := Fr.snoc X2 N0 g_lb
  have Ef_4 := E_0.wr W2
  have Ff_5 := Fleaks_0.other W2 (Or.inl ne_t_lb)
  have Ff_6 := Fleaes_0.other W2 (Or.inl ne_t_lb)
  have Ff_7 := Finnks_0.other W2 (Or.inl ne_t_lb)
  have Ff_8 := Finnrs_0.other W2 (Or.inl ne_t_lb)
  have Ff_9 := FleaOf_0.other W2 (Or.inl ne_t_lb)
  have Ff_10 := Frooot_0.other W2 (Or.inl ne_t_lb)
  have Ff_11 := Fheiht_0.other W2 (Or.inl ne_t_lb)
  have Ff_12 := Fregar_0.other W2 (Or.inl ne_t_lb)
  have Cf_14 := Cib_0.other W2 (Ne.symm ne_lb_ib)
  have Cf_15 := Clo_0.other W2 (Ne.symm ne_lb_lo)
  have zl2 := Nat.le_trans Z0 (Nat.le_of_eq W2.size.symm)
  have K2 := (Keep.refl h0 [t, lb, ib, lo]).wr W2 (Or.inl (List.mem_of_getElem? (i := 1) rfl))
  refine Own.aload 43 X2 hx (hb hby d6_41) rfl rfl rfl ?_
  refine Own.iload 45 X2 hx (hb hby d6_43) rfl rfl ?_
  refine Own.iconst 46 X2 hx (Own.N 1) (hb hby d6_45) rfl rfl ?_
  refine Own.iadd 47 X2 hx (hb hby d6_46) rfl (Own.N_add _ _) ?_
  refine Own.iload 49 X2 hx (hb hby d6_47) rfl rfl ?_
  refine Own.nStore 50 X2 hx hZ e2 C2 (by omega) (hb hby d6_49) rfl ?_
  intro T16 h16 X16 e16 W16 C16
  have N16 := Fr.snoc X16 N2 g_lb
  have Ef_18 := Ef_4.wr W16
  have Ff_19 := Ff_5.other W16 (Or.inl ne_t_lb)
  have Ff_20 := Ff_6.other W16 (Or.inl ne_t_lb)
  have Ff_21 := Ff_7.other W16 (Or.inl ne_t_lb)
  have Ff_22 := Ff_8.other W16 (Or.inl ne_t_lb)
  have Ff_23 := Ff_9.other W16 (Or.inl ne_t_lb)
  have Ff_24 := Ff_10.other W16 (Or.inl ne_t_lb)
  have Ff_25 := Ff_11.other W16 (Or.inl ne_t_lb)
  have Ff_26 := Ff_12.other W16 (Or.inl ne_t_lb)
  have Cf_27 := Cf_14.other W16 (Ne.symm ne_lb_ib)
  have Cf_28 := Cf_15.other W16 (Ne.symm ne_lb_lo)
  have zl16 := Nat.le_trans zl2 (Nat.le_of_eq W16.size.symm)
  have K16 := K2.wr W16 (Or.inl (List.mem_of_getElem? (i := 1) rfl))
  refine Own.retVoid X16 hx hlk hret (hb hby d6_50) (by decide) (by decide) ?_
  rw [e16]
  exact ⟨rfl, N16, K16, ⟨Ef_18, Ff_19, Ff_20, Ff_21, Ff_22, Ff_23, Ff_24, Ff_25, Ff_26, C16, Cf_27, Cf_28⟩⟩
theorem d6_11 : decode prog_32_method_18_code 11 = .ok (.aload_n 0, 1) := by decide +kernel
theorem d6_12 : decode prog_32_method_18_code 12 = .ok (.getfield 23, 3) := by decide +kernel
theorem d6_27 : decode prog_32_method_18_code 27 = .ok (.sipush 128, 3) := by decide +kernel
set_option maxRecDepth 65536 in
set_option maxHeartbeats 40000000 in
theorem m6_1 (l : Launch) (Z : State) (a0 : Array Value) (w : ∀ (i : Nat) {d : Jvm.Cond}, tables_1[i]? = some d → d.before a0 Z = true) (t : Addr) (lb ib lo : Addr) (lv inn rt ht rg zL zI zO n0 : Nat) (fL fI fO : Nat → Int32)(x lev p' s' : Nat) (h0 : Heap) (Z0 : n0 ≤ h0.size) (D0 : own_D n0 t lb ib lo) (S0 : own_S Z h0 t lb ib lo lv inn rt ht rg zL zI zO fL fI fO)(hl : 0 < lev) (bl : lev < 1000) (bx : x < 1000000) (hz : x * 128 + 1 < zI) :
    Own.Met l Z (⟨"com/example/frontrank/frontrank/OrderTree", "setParent", "(IIII)V"⟩ : MethodName) prog_32_method_18_code 7 none [] ({ frames := 0, cells := 0, slots := 0, locals := 0 } : Room) #[(.ref t), (.int (Own.N (x))), (.int (Own.N (lev))), (.int (Own.N (p'))), (.int (Own.N (s')))] h0 (fun v h L => v = none ∧ Fr n0 L ∧ Keep h0 h [t, lb, ib, lo] ∧ own_S Z h t lb ib lo lv inn rt ht rg zL zI zO fL (Own.upd (Own.upd fI (x * 128 + 0) (Own.N p')) (x * 128 + 1) (Own.N s')) fO) := by
  refine Own.Met.of (plainFor_of_name (by first | (simp [plainName, overriddenIn]; done) | decide +kernel)) ?_
  intro p e s m below meth c T0 hx hby hml hown hnm hret hlk hZ X0 e0
  have hown : s.vm.findClass "com/example/frontrank/frontrank/OrderTree" = some m.cls := hown
  have hml : c.maxLocals = 7 := hml
  have hnm : meth.name = "setParent" := hnm
  have ef : entryFrame m #[(.ref t), (.int (Own.N (x))), (.int (Own.N (lev))), (.int (Own.N (p'))), (.int (Own.N (s')))] 7 = mkF m 0 #[.val (.ref t), .val (.int (Own.N (x))), .val (.int (Own.N (lev))), .val (.int (Own.N (p'))), .val (.int (Own.N (s'))), .unset, .unset] [] := by first | (simp [entryFrame, mkF, argsToLocals, Value.category]; done) | rfl
  rw [ef]
  have N0 := Fr.nil n0
  have D00 := D0
  obtain ⟨ne_t_lb, ne_t_ib, ne_t_lo, ne_lb_ib, ne_lb_lo, ne_ib_lo, g_t, g_lb, g_ib, g_lo⟩ := D0
  obtain ⟨E_0, Fleaks_0, Fleaes_0, Finnks_0, Finnrs_0, FleaOf_0, Frooot_0, Fheiht_0, Fregar_0, Clb_0, Cib_0, Clo_0⟩ := S0
  refine Own.iloadN 1 X0 hx (hb hby d6_0) rfl rfl ?_
  refine Own.nif_ne 11 4 X0 hx (hb hby d6_1) (by decide) rfl (by omega) (fun tk => ?_) (fun tk => False.elim (by omega))
  refine Own.aloadN 12 X0 hx (hb hby d6_11) rfl rfl rfl ?_
  refine Own.getFld 15 X0 hx hZ hown (host := "") (Or.inl (w 14 rfl)) Via.refl e0 Finnks_0 (hb hby d6_12) rfl ?_
  intro T1 X1 e1
  refine Own.astore 17 #[.val (.ref t), .val (.int (Own.N (x))), .val (.int (Own.N (lev))), .val (.int (Own.N (p'))), .val (.int (Own.N (s'))), .val (.ref ib), .unset] X1 hx (hb hby d6_15) rfl rfl rfl ?_
  refine Own.iloadN 18 X1 hx (hb hby d6_17) rfl rfl ?_
  refine Own.iloadN 19 X1 hx (hb hby d6_18) rfl rfl ?_
  refine Own.nif_ne 27 22 X1 hx (hb hby d6_19) (by decide) rfl (by omega) (fun tk => ?_) (fun tk => False.elim (by omega))
  refine Own.sipush 30 X1 hx (Own.N 128) (hb hby d6_27) rfl rfl ?_
  refine Own.imul 31 X1 hx (hb hby d6_30) rfl (Own.N_mul _ _) ?_
  refine Own.istoreV 33 #[.val (.ref t), .val (.int (Own.N (x))), .val (.int (Own.N (lev))), .val (.int (Own.N (p'))), .val (.int (Own.N (s'))), .val (.ref ib), .val (.int (Own.N (x * 128)))] X1 hx (hb hby d6_31) rfl rfl ?_
  refine Own.aload 35 X1 hx (hb hby d6_33) rfl rfl rfl ?_
  refine Own.iload 37 X1 hx (hb hby d6_35) rfl rfl ?_
  refine Own.iconst 38 X1 hx (Own.N 0) (hb hby d6_37) rfl rfl ?_
  refine Own.iadd 39 X1 hx (hb hby d6_38) rfl (Own.N_add _ _) ?_
  refine Own.iloadN 40 X1 hx (hb hby d6_39) rfl rfl ?_
  refine Own.nStore 41 X1 hx hZ e1 Cib_0 (by omega) (hb hby d6_40) rfl ?_
  intro T2 h2 X2 e2 W2 C2
  have N2 := Fr.snoc X2 N0 g_ib
  have Ef_4 := E_0.wr W2
  have Ff_5 := Fleaks_0.other W2 (Or.inl ne_t_ib)
  have Ff_6 := Fleaes_0.other W2 (Or.inl ne_t_ib)
  have Ff_7 := Finnks_0.other W2 (Or.inl ne_t_ib)
  have Ff_8 := Finnrs_0.other W2 (Or.inl ne_t_ib)
  have Ff_9 := FleaOf_0.other W2 (Or.inl ne_t_ib)
  have Ff_10 := Frooot_0.other W2 (Or.inl ne_t_ib)
  have Ff_11 := Fheiht_0.other W2 (Or.inl ne_t_ib)
  have Ff_12 := Fregar_0.other W2 (Or.inl ne_t_ib)
  have Cf_13 := Clb_0.other W2 ne_lb_ib
  have Cf_15 := Clo_0.other W2 (Ne.symm ne_ib_lo)
  have zl2 := Nat.le_trans Z0 (Nat.le_of_eq W2.size.symm)
  have K2 := (Keep.refl h0 [t, lb, ib, lo]).wr W2 (Or.inl (List.mem_of_getElem? (i := 2) rfl))
  refine Own.aload 43 X2 hx (hb hby d6_41) rfl rfl rfl ?_
  refine Own.iload 45 X2 hx (hb hby d6_43) rfl rfl ?_
  refine Own.iconst 46 X2 hx (Own.N 1) (hb hby d6_45) rfl rfl ?_
  refine Own.iadd 47 X2 hx (hb hby d6_46) rfl (Own.N_add _ _) ?_
  refine Own.iload 49 X2 hx (hb hby d6_47) rfl rfl ?_
  refine Own.nStore 50 X2 hx hZ e2 C2 (by omega) (hb hby d6_49) rfl ?_
  intro T16 h16 X16 e16 W16 C16
  have N16 := Fr.snoc X16 N2 g_ib
  have Ef_18 := Ef_4.wr W16
  have Ff_19 := Ff_5.other W16 (Or.inl ne_t_ib)
  have Ff_20 := Ff_6.other W16 (Or.inl ne_t_ib)
  have Ff_21 := Ff_7.other W16 (Or.inl ne_t_ib)
  have Ff_22 := Ff_8.other W16 (Or.inl ne_t_ib)
  have Ff_23 := Ff_9.other W16 (Or.inl ne_t_ib)
  have Ff_24 := Ff_10.other W16 (Or.inl ne_t_ib)
  have Ff_25 := Ff_11.other W16 (Or.inl ne_t_ib)
  have Ff_26 := Ff_12.other W16 (Or.inl ne_t_ib)
  have Cf_27 := Cf_13.other W16 ne_lb_ib
  have Cf_28 := Cf_15.other W16 (Ne.symm ne_ib_lo)
  have zl16 := Nat.le_trans zl2 (Nat.le_of_eq W16.size.symm)
  have K16 := K2.wr W16 (Or.inl (List.mem_of_getElem? (i := 2) rfl))
  refine Own.retVoid X16 hx hlk hret (hb hby d6_50) (by decide) (by decide) ?_
  rw [e16]
  exact ⟨rfl, N16, K16, ⟨Ef_18, Ff_19, Ff_20, Ff_21, Ff_22, Ff_23, Ff_24, Ff_25, Ff_26, Cf_27, C16, Cf_28⟩⟩
theorem d18_0 : decode prog_32_method_11_code 0 = .ok (.iload_n 2, 1) := by decide +kernel
theorem d18_1 : decode prog_32_method_11_code 1 = .ok (.ifCond .ne 27, 3) := by decide +kernel
theorem d18_4 : decode prog_32_method_11_code 4 = .ok (.aload_n 0, 1) := by decide +kernel
theorem d18_5 : decode prog_32_method_11_code 5 = .ok (.getfield 19, 3) := by decide +kernel
theorem d18_8 : decode prog_32_method_11_code 8 = .ok (.iload_n 1, 1) := by decide +kernel
theorem d18_9 : decode prog_32_method_11_code 9 = .ok (.bipush 64, 2) := by decide +kernel
theorem d18_11 : decode prog_32_method_11_code 11 = .ok (.imul, 1) := by decide +kernel
theorem d18_12 : decode prog_32_method_11_code 12 = .ok (.iconst 2, 1) := by decide +kernel
theorem d18_13 : decode prog_32_method_11_code 13 = .ok (.iadd, 1) := by decide +kernel
theorem d18_14 : decode prog_32_method_11_code 14 = .ok (.iaload, 1) := by decide +kernel
theorem d18_15 : decode prog_32_method_11_code 15 = .ok (.bipush 61, 2) := by decide +kernel
theorem d18_17 : decode prog_32_method_11_code 17 = .ok (.if_icmp .ne 7, 3) := by decide +kernel
theorem d18_20 : decode prog_32_method_11_code 20 = .ok (.iconst 1, 1) := by decide +kernel
theorem d18_21 : decode prog_32_method_11_code 21 = .ok (.goto 29, 3) := by decide +kernel
theorem d18_24 : decode prog_32_method_11_code 24 = .ok (.iconst 0, 1) := by decide +kernel
theorem d18_25 : decode prog_32_method_11_code 25 = .ok (.goto 25, 3) := by decide +kernel
theorem d18_50 : decode prog_32_method_11_code 50 = .ok (.ireturn, 1) := by decide +kernel
set_option maxRecDepth 65536 in
set_option maxHeartbeats 40000000 in
theorem m18_0 (l : Launch) (Z : State) (a0 : Array Value) (w : ∀ (i : Nat) {d : Jvm.Cond}, tables_1[i]? = some d → d.before a0 Z = true) (t : Addr) (lb ib lo : Addr) (lv inn rt ht rg zL zI zO n0 : Nat) (fL fI fO : Nat → Int32)(x lev y : Nat) (h0 : Heap) (S0 : own_S Z h0 t lb ib lo lv inn rt ht rg zL zI zO fL fI fO)(hl : lev = 0) (bl : lev < 1000) (bx : x < 1000000) (hz : x * 64 + 2 < zL) (hv : fL (x * 64 + 2) = Own.N y) (hy : y < 1000000) :
    Own.Met l Z (⟨"com/example/frontrank/frontrank/OrderTree", "isFull", "(II)Z"⟩ : MethodName) prog_32_method_11_code 3 (some .boolean) [] ({ frames := 0, cells := 0, slots := 0, locals := 0 } : Room) #[(.ref t), (.int (Own.N (x))), (.int (Own.N (lev)))] h0 (fun v h L => v = some (.int (if y = 61 then 1 else 0)) ∧ h = h0 ∧ L = []) := by
  refine Own.Met.of (plainFor_of_name (by first | (simp [plainName, overriddenIn]; done) | decide +kernel)) ?_
  intro p e s m below meth c T0 hx hby hml hown hnm hret hlk hZ X0 e0
  have hown : s.vm.findClass "com/example/frontrank/frontrank/OrderTree" = some m.cls := hown
  have hml : c.maxLocals = 3 := hml
  have hnm : meth.name = "isFull" := hnm
  have ef : entryFrame m #[(.ref t), (.int (Own.N (x))), (.int (Own.N (lev)))] 3 = mkF m 0 #[.val (.ref t), .val (.int (Own.N (x))), .val (.int (Own.N (lev)))] [] := by first | (simp [entryFrame, mkF, argsToLocals, Value.category]; done) | rfl
  rw [ef]
  obtain ⟨E_0, Fleaks_0, Fleaes_0, Finnks_0, Finnrs_0, FleaOf_0, Frooot_0, Fheiht_0, Fregar_0, Clb_0, Cib_0, Clo_0⟩ := S0
  refine Own.iloadN 1 X0 hx (hb hby d18_0) rfl rfl ?_
  refine Own.nif_ne 28 4 X0 hx (hb hby d18_1) (by decide) rfl (by omega) (fun tk => False.elim (by omega)) (fun tk => ?_)
  refine Own.aloadN 5 X0 hx (hb hby d18_4) rfl rfl rfl ?_
  refine Own.getFld 8 X0 hx hZ hown (host := "") (Or.inl (w 12 rfl)) Via.refl e0 Fleaks_0 (hb hby d18_5) rfl ?_
  intro T1 X1 e1
  refine Own.iloadN 9 X1 hx (hb hby d18_8) rfl rfl ?_
  refine Own.bipush 11 X1 hx (Own.N 64) (hb hby d18_9) rfl rfl ?_
  refine Own.imul 12 X1 hx (hb hby d18_11) rfl (Own.N_mul _ _) ?_
  refine Own.iconst 13 X1 hx (Own.N 2) (hb hby d18_12) rfl rfl ?_
  refine Own.iadd 14 X1 hx (hb hby d18_13) rfl (Own.N_add _ _) ?_
  refine Own.nLoad 15 (Own.N (y)) X1 hx hZ e1 Clb_0 (by omega) hv (hb hby d18_14) rfl ?_
  refine Own.bipush 17 X1 hx (Own.N 61) (hb hby d18_15) rfl rfl ?_
  refine Own.nicmp_ne 24 20 X1 hx (hb hby d18_17) (by decide) rfl (by omega) (by omega) (fun q => ?_) (fun q => ?_)
  ·
    refine Own.iconst 25 X1 hx (Own.N 0) (hb hby d18_24) rfl rfl ?_
    refine Own.goto 50 X1 hx (hb hby d18_25) (by decide) ?_
    refine Own.retBool X1 hx hlk hret (hb hby d18_50) (by decide) (by decide) ?_
    exact ⟨by rw [if_neg q]; rfl, e1, rfl⟩
  ·
    refine Own.iconst 21 X1 hx (Own.N 1) (hb hby d18_20) rfl rfl ?_
    refine Own.goto 50 X1 hx (hb hby d18_21) (by decide) ?_
    refine Own.retBool X1 hx hlk hret (hb hby d18_50) (by decide) (by decide) ?_
    exact ⟨by rw [if_pos q]; rfl, e1, rfl⟩
theorem d18_28 : decode prog_32_method_11_code 28 = .ok (.aload_n 0, 1) := by decide +kernel
theorem d18_29 : decode prog_32_method_11_code 29 = .ok (.getfield 23, 3) := by decide +kernel
theorem d18_32 : decode prog_32_method_11_code 32 = .ok (.iload_n 1, 1) := by decide +kernel
theorem d18_33 : decode prog_32_method_11_code 33 = .ok (.sipush 128, 3) := by decide +kernel
theorem d18_36 : decode prog_32_method_11_code 36 = .ok (.imul, 1) := by decide +kernel
theorem d18_37 : decode prog_32_method_11_code 37 = .ok (.iconst 2, 1) := by decide +kernel
theorem d18_38 : decode prog_32_method_11_code 38 = .ok (.iadd, 1) := by decide +kernel
theorem d18_39 : decode prog_32_method_11_code 39 = .ok (.iaload, 1) := by decide +kernel
theorem d18_40 : decode prog_32_method_11_code 40 = .ok (.bipush 62, 2) := by decide +kernel
theorem d18_42 : decode prog_32_method_11_code 42 = .ok (.if_icmp .ne 7, 3) := by decide +kernel
theorem d18_45 : decode prog_32_method_11_code 45 = .ok (.iconst 1, 1) := by decide +kernel
theorem d18_46 : decode prog_32_method_11_code 46 = .ok (.goto 4, 3) := by decide +kernel
theorem d18_49 : decode prog_32_method_11_code 49 = .ok (.iconst 0, 1) := by decide +kernel
set_option maxRecDepth 65536 in
set_option maxHeartbeats 40000000 in
theorem m18_1 (l : Launch) (Z : State) (a0 : Array Value) (w : ∀ (i : Nat) {d : Jvm.Cond}, tables_1[i]? = some d → d.before a0 Z = true) (t : Addr) (lb ib lo : Addr) (lv inn rt ht rg zL zI zO n0 : Nat) (fL fI fO : Nat → Int32)(x lev y : Nat) (h0 : Heap) (S0 : own_S Z h0 t lb ib lo lv inn rt ht rg zL zI zO fL fI fO)(hl : 0 < lev) (bl : lev < 1000) (bx : x < 1000000) (hz : x * 128 + 2 < zI) (hv : fI (x * 128 + 2) = Own.N y) (hy : y < 1000000) :
    Own.Met l Z (⟨"com/example/frontrank/frontrank/OrderTree", "isFull", "(II)Z"⟩ : MethodName) prog_32_method_11_code 3 (some .boolean) [] ({ frames := 0, cells := 0, slots := 0, locals := 0 } : Room) #[(.ref t), (.int (Own.N (x))), (.int (Own.N (lev)))] h0 (fun v h L => v = some (.int (if y = 62 then 1 else 0)) ∧ h = h0 ∧ L = []) := by
  refine Own.Met.of (plainFor_of_name (by first | (simp [plainName, overriddenIn]; done) | decide +kernel)) ?_
  intro p e s m below meth c T0 hx hby hml hown hnm hret hlk hZ X0 e0
  have hown : s.vm.findClass "com/example/frontrank/frontrank/OrderTree" = some m.cls := hown
  have hml : c.maxLocals = 3 := hml
  have hnm : meth.name = "isFull" := hnm
  have ef : entryFrame m #[(.ref t), (.int (Own.N (x))), (.int (Own.N (lev)))] 3 = mkF m 0 #[.val (.ref t), .val (.int (Own.N (x))), .val (.int (Own.N (lev)))] [] := by first | (simp [entryFrame, mkF, argsToLocals, Value.category]; done) | rfl
  rw [ef]
  obtain ⟨E_0, Fleaks_0, Fleaes_0, Finnks_0, Finnrs_0, FleaOf_0, Frooot_0, Fheiht_0, Fregar_0, Clb_0, Cib_0, Clo_0⟩ := S0
  refine Own.iloadN 1 X0 hx (hb hby d18_0) rfl rfl ?_
  refine Own.nif_ne 28 4 X0 hx (hb hby d18_1) (by decide) rfl (by omega) (fun tk => ?_) (fun tk => False.elim (by omega))
  refine Own.aloadN 29 X0 hx (hb hby d18_28) rfl rfl rfl ?_
  refine Own.getFld 32 X0 hx hZ hown (host := "") (Or.inl (w 14 rfl)) Via.refl e0 Finnks_0 (hb hby d18_29) rfl ?_
  intro T1 X1 e1
  refine Own.iloadN 33 X1 hx (hb hby d18_32) rfl rfl ?_
  refine Own.sipush 36 X1 hx (Own.N 128) (hb hby d18_33) rfl rfl ?_
  refine Own.imul 37 X1 hx (hb hby d18_36) rfl (Own.N_mul _ _) ?_
  refine Own.iconst 38 X1 hx (Own.N 2) (hb hby d18_37) rfl rfl ?_
  refine Own.iadd 39 X1 hx (hb hby d18_38) rfl (Own.N_add _ _) ?_
  refine Own.nLoad 40 (Own.N (y)) X1 hx hZ e1 Cib_0 (by omega) hv (hb hby d18_39) rfl ?_
  refine Own.bipush 42 X1 hx (Own.N 62) (hb hby d18_40) rfl rfl ?_
  refine Own.nicmp_ne 49 45 X1 hx (hb hby d18_42) (by decide) rfl (by omega) (by omega) (fun q => ?_) (fun q => ?_)
  ·
    refine Own.iconst 50 X1 hx (Own.N 0) (hb hby d18_49) rfl rfl ?_
    refine Own.retBool X1 hx hlk hret (hb hby d18_50) (by decide) (by decide) ?_
    exact ⟨by rw [if_neg q]; rfl, e1, rfl⟩
  ·
    refine Own.iconst 46 X1 hx (Own.N 1) (hb hby d18_45) rfl rfl ?_
    refine Own.goto 50 X1 hx (hb hby d18_46) (by decide) ?_
    refine Own.retBool X1 hx hlk hret (hb hby d18_50) (by decide) (by decide) ?_
    exact ⟨by rw [if_pos q]; rfl, e1, rfl⟩
theorem d5_0 : decode prog_32_method_16_code 0 = .ok (.aload_n 0, 1) := by decide +kernel
theorem d5_1 : decode prog_32_method_16_code 1 = .ok (.getfield 103, 3) := by decide +kernel
theorem d5_4 : decode prog_32_method_16_code 4 = .ok (.iconst 1, 1) := by decide +kernel
theorem d5_5 : decode prog_32_method_16_code 5 = .ok (.iadd, 1) := by decide +kernel
theorem d5_6 : decode prog_32_method_16_code 6 = .ok (.sipush 128, 3) := by decide +kernel
theorem d5_9 : decode prog_32_method_16_code 9 = .ok (.imul, 1) := by decide +kernel
theorem d5_10 : decode prog_32_method_16_code 10 = .ok (.aload_n 0, 1) := by decide +kernel
theorem d5_11 : decode prog_32_method_16_code 11 = .ok (.getfield 23, 3) := by decide +kernel
theorem d5_14 : decode prog_32_method_16_code 14 = .ok (.arraylength, 1) := by decide +kernel
theorem d5_15 : decode prog_32_method_16_code 15 = .ok (.if_icmp .le 21, 3) := by decide +kernel
theorem d5_36 : decode prog_32_method_16_code 36 = .ok (.aload_n 0, 1) := by decide +kernel
theorem d5_37 : decode prog_32_method_16_code 37 = .ok (.dup, 1) := by decide +kernel
theorem d5_38 : decode prog_32_method_16_code 38 = .ok (.getfield 103, 3) := by decide +kernel
theorem d5_41 : decode prog_32_method_16_code 41 = .ok (.dup_x1, 1) := by decide +kernel
theorem d5_42 : decode prog_32_method_16_code 42 = .ok (.iconst 1, 1) := by decide +kernel
theorem d5_43 : decode prog_32_method_16_code 43 = .ok (.iadd, 1) := by decide +kernel
theorem d5_44 : decode prog_32_method_16_code 44 = .ok (.putfield 103, 3) := by decide +kernel
theorem d5_47 : decode prog_32_method_16_code 47 = .ok (.istore_n 1, 1) := by decide +kernel
theorem d5_48 : decode prog_32_method_16_code 48 = .ok (.aload_n 0, 1) := by decide +kernel
theorem d5_49 : decode prog_32_method_16_code 49 = .ok (.getfield 23, 3) := by decide +kernel
theorem d5_52 : decode prog_32_method_16_code 52 = .ok (.iload_n 1, 1) := by decide +kernel
theorem d5_53 : decode prog_32_method_16_code 53 = .ok (.sipush 128, 3) := by decide +kernel
theorem d5_56 : decode prog_32_method_16_code 56 = .ok (.imul, 1) := by decide +kernel
theorem d5_57 : decode prog_32_method_16_code 57 = .ok (.iconst 2, 1) := by decide +kernel
theorem d5_58 : decode prog_32_method_16_code 58 = .ok (.iadd, 1) := by decide +kernel
theorem d5_59 : decode prog_32_method_16_code 59 = .ok (.iconst 0, 1) := by decide +kernel
theorem d5_60 : decode prog_32_method_16_code 60 = .ok (.iastore, 1) := by decide +kernel
theorem d5_61 : decode prog_32_method_16_code 61 = .ok (.iload_n 1, 1) := by decide +kernel
theorem d5_62 : decode prog_32_method_16_code 62 = .ok (.ireturn, 1) := by decide +kernel
set_option maxRecDepth 65536 in
set_option maxHeartbeats 40000000 in
theorem m5 (l : Launch) (Z : State) (a0 : Array Value) (w : ∀ (i : Nat) {d : Jvm.Cond}, tables_1[i]? = some d → d.before a0 Z = true) (t : Addr) (lb ib lo : Addr) (lv inn rt ht rg zL zI zO n0 : Nat) (fL fI fO : Nat → Int32) (h0 : Heap) (Z0 : n0 ≤ h0.size) (D0 : own_D n0 t lb ib lo) (S0 : own_S Z h0 t lb ib lo lv inn rt ht rg zL zI zO fL fI fO)(hz : (inn + 1) * 128 ≤ zI) (hz2 : zI < 1000000) :
    Own.Met l Z (⟨"com/example/frontrank/frontrank/OrderTree", "newInner", "()I"⟩ : MethodName) prog_32_method_16_code 2 (some .int) [] ({ frames := 0, cells := 0, slots := 0, locals := 0 } : Room) #[(.ref t)] h0 (fun v h L => v = some (.int (Own.N inn)) ∧ Fr n0 L ∧ Keep h0 h [t, lb, ib, lo] ∧ own_S Z h t lb ib lo lv (inn + 1) rt ht rg zL zI zO fL (Own.upd fI (inn * 128 + 2) (Own.N 0)) fO) := by
  refine Own.Met.of (plainFor_of_name (by first | (simp [plainName, overriddenIn]; done) | decide +kernel)) ?_
  intro p e s m below meth c T0 hx hby hml hown hnm hret hlk hZ X0 e0
  have hown : s.vm.findClass "com/example/frontrank/frontrank/OrderTree" = some m.cls := hown
  have hml : c.maxLocals = 2 := hml
  have hnm : meth.name = "newInner" := hnm
  have ef : entryFrame m #[(.ref t)] 2 = mkF m 0 #[.val (.ref t), .unset] [] := by first | (simp [entryFrame, mkF, argsToLocals, Value.category]; done) | rfl
  rw [ef]
  have N0 := Fr.nil n0
  have D00 := D0
  obtain ⟨ne_t_lb, ne_t_ib, ne_t_lo, ne_lb_ib, ne_lb_lo, ne_ib_lo, g_t, g_lb, g_ib, g_lo⟩ := D0
  obtain ⟨E_0, Fleaks_0, Fleaes_0, Finnks_0, Finnrs_0, FleaOf_0, Frooot_0, Fheiht_0, Fregar_0, Clb_0, Cib_0, Clo_0⟩ := S0
  refine Own.aloadN 1 X0 hx (hb hby d5_0) rfl rfl rfl ?_
  refine Own.getFld 4 X0 hx hZ hown (host := "") (Or.inl (w 32 rfl)) Via.refl e0 Finnrs_0 (hb hby d5_1) rfl ?_
  intro T1 X1 e1
  refine Own.iconst 5 X1 hx (Own.N 1) (hb hby d5_4) rfl rfl ?_
  refine Own.iadd 6 X1 hx (hb hby d5_5) rfl (Own.N_add _ _) ?_
  refine Own.sipush 9 X1 hx (Own.N 128) (hb hby d5_6) rfl rfl ?_
  refine Own.imul 10 X1 hx (hb hby d5_9) rfl (Own.N_mul _ _) ?_
  refine Own.aloadN 11 X1 hx (hb hby d5_10) rfl rfl rfl ?_
  refine Own.getFld 14 X1 hx hZ hown (host := "") (Or.inl (w 14 rfl)) Via.refl e1 Finnks_0 (hb hby d5_11) rfl ?_
  intro T2 X2 e2
  refine Own.nLen 15 X2 hx hZ e2 Cib_0 (hb hby d5_14) rfl ?_
  refine Own.nicmp_le 36 18 X2 hx (hb hby d5_15) (by decide) rfl (by omega) (by omega) (fun tk => ?_) (fun tk => False.elim (by omega))
  refine Own.aloadN 37 X2 hx (hb hby d5_36) rfl rfl rfl ?_
  refine Own.dup 38 X2 hx (hb hby d5_37) rfl rfl ?_
  refine Own.getFld 41 X2 hx hZ hown (host := "") (Or.inl (w 32 rfl)) Via.refl e2 Finnrs_0 (hb hby d5_38) rfl ?_
  intro T3 X3 e3
  refine Own.dupX1 42 X3 hx (hb hby d5_41) rfl rfl rfl ?_
  refine Own.iconst 43 X3 hx (Own.N 1) (hb hby d5_42) rfl rfl ?_
  refine Own.iadd 44 X3 hx (hb hby d5_43) rfl (Own.N_add _ _) ?_
  refine Own.putFld 47 X3 hx hZ hown (host := "") (Or.inl (w 32 rfl)) Via.refl e3 Finnrs_0 E_0 (Or.inl (w 33 rfl)) (w 3 rfl) (ty := .int) (by decide) rfl rfl (hb hby d5_44) rfl ?_
  intro T4 h4 X4 e4 W4
  have N4 := Fr.snoc X4 N0 g_t
  have Ef_6 := E_0.wr W4
  have Ff_7 := Fleaks_0.other W4 (Or.inr (slot_ne (Or.inr (w 13 rfl)) (Or.inl (w 33 rfl)) (by decide) (t := (.array .int)) (t' := .int) (by decide) (by decide)))
  have Ff_8 := Fleaes_0.other W4 (Or.inr (slot_ne (Or.inl (w 23 rfl)) (Or.inl (w 33 rfl)) (by decide) (t := .int) (t' := .int) (by decide) (by decide)))
  have Ff_9 := Finnks_0.other W4 (Or.inr (slot_ne (Or.inl (w 15 rfl)) (Or.inl (w 33 rfl)) (by decide) (t := (.array .int)) (t' := .int) (by decide) (by decide)))
  have Ff_10 := Finnrs_0.same W4
  have Ff_11 := FleaOf_0.other W4 (Or.inr (slot_ne (Or.inr (w 17 rfl)) (Or.inl (w 33 rfl)) (by decide) (t := (.array .int)) (t' := .int) (by decide) (by decide)))
  have Ff_12 := Frooot_0.other W4 (Or.inr (slot_ne (Or.inl (w 45 rfl)) (Or.inl (w 33 rfl)) (by decide) (t := .int) (t' := .int) (by decide) (by decide)))
  have Ff_13 := Fheiht_0.other W4 (Or.inr (slot_ne (Or.inl (w 35 rfl)) (Or.inl (w 33 rfl)) (by decide) (t := .int) (t' := .int) (by decide) (by decide)))
  have Ff_14 := Fregar_0.other W4 (Or.inr (slot_ne (Or.inl (w 47 rfl)) (Or.inl (w 33 rfl)) (by decide) (t := .boolean) (t' := .int) (by decide) (by decide)))
  have Cf_15 := Clb_0.other W4 (Ne.symm ne_t_lb)
  have Cf_16 := Cib_0.other W4 (Ne.symm ne_t_ib)
  have Cf_17 := Clo_0.other W4 (Ne.symm ne_t_lo)
  have zl4 := Nat.le_trans Z0 (Nat.le_of_eq W4.size.symm)
  have K4 := (Keep.refl h0 [t, lb, ib, lo]).wr W4 (Or.inl (List.mem_of_getElem? (i := 0) rfl))
  refine Own.istoreNV 48 #[.val (.ref t), .val (.int (Own.N (inn)))] X4 hx (hb hby d5_47) rfl rfl ?_
  refine Own.aloadN 49 X4 hx (hb hby d5_48) rfl rfl rfl ?_
  refine Own.getFld 52 X4 hx hZ hown (host := "") (Or.inl (w 14 rfl)) Via.refl e4 Ff_9 (hb hby d5_49) rfl ?_
  intro T18 X18 e18
  refine Own.iloadN 53 X18 hx (hb hby d5_52) rfl rfl ?_
  refine Own.sipush 56 X18 hx (Own.N 128) (hb hby d5_53) rfl rfl ?_
  refine Own.imul 57 X18 hx (hb hby d5_56) rfl (Own.N_mul _ _) ?_
  refine Own.iconst 58 X18 hx (Own.N 2) (hb hby d5_57) rfl rfl ?_
  refine Own.iadd 59 X18 hx (hb hby d5_58) rfl (Own.N_add _ _) ?_
  refine Own.iconst 60 X18 hx (Own.N 0) (hb hby d5_59) rfl rfl ?_
  refine Own.nStore 61 X18 hx hZ e18 Cf_16 (by omega) (hb hby d5_60) rfl ?_
  intro T19 h19 X19 e19 W19 C19
  have N19 := Fr.snoc X19 N4 g_ib
  have Ef_21 := Ef_6.wr W19
  have Ff_22 := Ff_7.other W19 (Or.inl ne_t_ib)
  have Ff_23 := Ff_8.other W19 (Or.inl ne_t_ib)
  have Ff_24 := Ff_9.other W19 (Or.inl ne_t_ib)
  have Ff_25 := Ff_10.other W19 (Or.inl ne_t_ib)
  have Ff_26 := Ff_11.other W19 (Or.inl ne_t_ib)
  have Ff_27 := Ff_12.other W19 (Or.inl ne_t_ib)
  have Ff_28 := Ff_13.other W19 (Or.inl ne_t_ib)
  have Ff_29 := Ff_14.other W19 (Or.inl ne_t_ib)
  have Cf_30 := Cf_15.other W19 ne_lb_ib
  have Cf_32 := Cf_17.other W19 (Ne.symm ne_ib_lo)
  have zl19 := Nat.le_trans zl4 (Nat.le_of_eq W19.size.symm)
  have K19 := K4.wr W19 (Or.inl (List.mem_of_getElem? (i := 2) rfl))
  refine Own.iloadN 62 X19 hx (hb hby d5_61) rfl rfl ?_
  refine Own.retInt X19 hx hlk hret (hb hby d5_62) (by decide) (by decide) ?_
  rw [e19]
  exact ⟨rfl, N19, K19, ⟨Ef_21, Ff_22, Ff_23, Ff_24, Ff_25, Ff_26, Ff_27, Ff_28, Ff_29, Cf_30, C19, Cf_32⟩⟩
theorem d14_0 : decode prog_32_method_17_code 0 = .ok (.iconst 0, 1) := by decide +kernel
theorem d14_1 : decode prog_32_method_17_code 1 = .ok (.istore_n 2, 1) := by decide +kernel
theorem d14_2 : decode prog_32_method_17_code 2 = .ok (.iload_n 1, 1) := by decide +kernel
theorem d14_3 : decode prog_32_method_17_code 3 = .ok (.sipush 128, 3) := by decide +kernel
theorem d14_6 : decode prog_32_method_17_code 6 = .ok (.imul, 1) := by decide +kernel
theorem d14_7 : decode prog_32_method_17_code 7 = .ok (.iconst 3, 1) := by decide +kernel
theorem d14_8 : decode prog_32_method_17_code 8 = .ok (.iadd, 1) := by decide +kernel
theorem d14_9 : decode prog_32_method_17_code 9 = .ok (.istore_n 3, 1) := by decide +kernel
theorem d14_10 : decode prog_32_method_17_code 10 = .ok (.iload_n 3, 1) := by decide +kernel
theorem d14_11 : decode prog_32_method_17_code 11 = .ok (.istore 4, 2) := by decide +kernel
theorem d14_13 : decode prog_32_method_17_code 13 = .ok (.iload 4, 2) := by decide +kernel
theorem d14_15 : decode prog_32_method_17_code 15 = .ok (.iload_n 3, 1) := by decide +kernel
theorem d14_16 : decode prog_32_method_17_code 16 = .ok (.aload_n 0, 1) := by decide +kernel
theorem d14_17 : decode prog_32_method_17_code 17 = .ok (.getfield 23, 3) := by decide +kernel
theorem d14_20 : decode prog_32_method_17_code 20 = .ok (.iload_n 1, 1) := by decide +kernel
theorem d14_21 : decode prog_32_method_17_code 21 = .ok (.sipush 128, 3) := by decide +kernel
theorem d14_24 : decode prog_32_method_17_code 24 = .ok (.imul, 1) := by decide +kernel
theorem d14_25 : decode prog_32_method_17_code 25 = .ok (.iconst 2, 1) := by decide +kernel
theorem d14_26 : decode prog_32_method_17_code 26 = .ok (.iadd, 1) := by decide +kernel
theorem d14_27 : decode prog_32_method_17_code 27 = .ok (.iaload, 1) := by decide +kernel
theorem d14_28 : decode prog_32_method_17_code 28 = .ok (.iadd, 1) := by decide +kernel
theorem d14_29 : decode prog_32_method_17_code 29 = .ok (.if_icmp .ge 19, 3) := by decide +kernel
theorem d14_32 : decode prog_32_method_17_code 32 = .ok (.iload_n 2, 1) := by decide +kernel
theorem d14_33 : decode prog_32_method_17_code 33 = .ok (.aload_n 0, 1) := by decide +kernel
theorem d14_34 : decode prog_32_method_17_code 34 = .ok (.getfield 23, 3) := by decide +kernel
theorem d14_37 : decode prog_32_method_17_code 37 = .ok (.iload 4, 2) := by decide +kernel
theorem d14_39 : decode prog_32_method_17_code 39 = .ok (.iaload, 1) := by decide +kernel
theorem d14_40 : decode prog_32_method_17_code 40 = .ok (.iadd, 1) := by decide +kernel
theorem d14_41 : decode prog_32_method_17_code 41 = .ok (.istore_n 2, 1) := by decide +kernel
theorem d14_42 : decode prog_32_method_17_code 42 = .ok (.iinc 4 1, 3) := by decide +kernel
theorem d14_45 : decode prog_32_method_17_code 45 = .ok (.goto (-32), 3) := by decide +kernel
theorem d14_48 : decode prog_32_method_17_code 48 = .ok (.iload_n 2, 1) := by decide +kernel
theorem d14_49 : decode prog_32_method_17_code 49 = .ok (.ireturn, 1) := by decide +kernel
set_option maxRecDepth 65536 in
set_option maxHeartbeats 40000000 in
theorem m14 (l : Launch) (Z : State) (a0 : Array Value) (w : ∀ (i : Nat) {d : Jvm.Cond}, tables_1[i]? = some d → d.before a0 Z = true) (t : Addr) (lb ib lo : Addr) (lv inn rt ht rg zL zI zO n0 : Nat) (fL fI fO : Nat → Int32)(x mm : Nat) (G : Nat → Nat) (h0 : Heap) (S0 : own_S Z h0 t lb ib lo lv inn rt ht rg zL zI zO fL fI fO)(bx : x < 1000) (bm : mm < 1000) (hz : x * 128 + 3 + mm ≤ zI) (hS : fI (x * 128 + 2) = Own.N mm) (hG : ∀ s, s < mm → fI (x * 128 + 3 + s) = Own.N (G (s + 1) - G s) ∧ G s ≤ G (s + 1)) (hM : ∀ s, s ≤ mm → G 0 ≤ G s ∧ G s < 1000000) :
    Own.Met l Z (⟨"com/example/frontrank/frontrank/OrderTree", "total", "(I)I"⟩ : MethodName) prog_32_method_17_code 5 (some .int) [] ({ frames := 0, cells := 0, slots := 0, locals := 0 } : Room) #[(.ref t), (.int (Own.N (x)))] h0 (fun v h L => v = some (.int (Own.N (G mm - G 0))) ∧ h = h0 ∧ L = []) := by
  refine Own.Met.of (plainFor_of_name (by first | (simp [plainName, overriddenIn]; done) | decide +kernel)) ?_
  intro p e s m below meth c T0 hx hby hml hown hnm hret hlk hZ X0 e0
  have hown : s.vm.findClass "com/example/frontrank/frontrank/OrderTree" = some m.cls := hown
  have hml : c.maxLocals = 5 := hml
  have hnm : meth.name = "total" := hnm
  have ef : entryFrame m #[(.ref t), (.int (Own.N (x)))] 5 = mkF m 0 #[.val (.ref t), .val (.int (Own.N (x))), .unset, .unset, .unset] [] := by first | (simp [entryFrame, mkF, argsToLocals, Value.category]; done) | rfl
  rw [ef]
  obtain ⟨E_0, Fleaks_0, Fleaes_0, Finnks_0, Finnrs_0, FleaOf_0, Frooot_0, Fheiht_0, Fregar_0, Clb_0, Cib_0, Clo_0⟩ := S0
  have J13 : ∀ (kk sl acc en : Nat) (hs : sl ≤ mm) (hk : mm - sl < kk) (ha : acc = G sl - G 0) (he : en = x * 128 + 3 + sl) (Tq : State) (Xq : Stand p l e ({ frames := 0, cells := 0, slots := 0, locals := 0 } : Room) s m #[(.ref t), (.int (Own.N (x)))] below meth c Tq [] 0 0) (eqq : Tq.heap = h0), Own.Ends p.tables e below (fun v h L => v = some (.int (Own.N (G mm - G 0))) ∧ h = h0 ∧ L = []) (Own.FE s ({ frames := 0, cells := 0, slots := 0, locals := 0 } : Room).cells ({ frames := 0, cells := 0, slots := 0, locals := 0 } : Room).slots) (Tq.setTop (mkF m 13 #[.val (.ref t), .val (.int (Own.N (x))), .val (.int (Own.N (acc))), .val (.int (Own.N (x * 128 + 3))), .val (.int (Own.N (en)))] [])) := by
    intro kk
    induction kk with
    | zero => intros; exfalso; omega
    | succ kk ih =>
      intro sl acc en hs hk ha he Tq Xq eqq
      have hb0 := hM 0 (by omega)
      have hbs := hM sl hs
      refine Own.iload 15 Xq hx (hb hby d14_13) rfl rfl ?_
      refine Own.iloadN 16 Xq hx (hb hby d14_15) rfl rfl ?_
      refine Own.aloadN 17 Xq hx (hb hby d14_16) rfl rfl rfl ?_
      refine Own.getFld 20 Xq hx hZ hown (host := "") (Or.inl (w 14 rfl)) Via.refl eqq Finnks_0 (hb hby d14_17) rfl ?_
      intro T1 X1 e1
      refine Own.iloadN 21 X1 hx (hb hby d14_20) rfl rfl ?_
      refine Own.sipush 24 X1 hx (Own.N 128) (hb hby d14_21) rfl rfl ?_
      refine Own.imul 25 X1 hx (hb hby d14_24) rfl (Own.N_mul _ _) ?_
      refine Own.iconst 26 X1 hx (Own.N 2) (hb hby d14_25) rfl rfl ?_
      refine Own.iadd 27 X1 hx (hb hby d14_26) rfl (Own.N_add _ _) ?_
      refine Own.nLoad 28 (Own.N (mm)) X1 hx hZ e1 Cib_0 (by omega) hS (hb hby d14_27) rfl ?_
      refine Own.iadd 29 X1 hx (hb hby d14_28) rfl (Own.N_add _ _) ?_
      refine Own.nicmp_ge 48 32 X1 hx (hb hby d14_29) (by decide) rfl (by omega) (by omega) (fun tk => ?_) (fun tk => ?_)
      ·
        refine Own.iloadN 49 X1 hx (hb hby d14_48) rfl rfl ?_
        have e9 : sl = mm := by omega
        refine Own.retInt X1 hx hlk hret (hb hby d14_49) (by decide) (by decide) ?_
        exact ⟨by rw [ha, e9], e1, rfl⟩
      ·
        obtain ⟨g1, g2⟩ := hG sl (by omega)
        have hb1 := hM (sl + 1) (by omega)
        refine Own.iloadN 33 X1 hx (hb hby d14_32) rfl rfl ?_
        refine Own.aloadN 34 X1 hx (hb hby d14_33) rfl rfl rfl ?_
        refine Own.getFld 37 X1 hx hZ hown (host := "") (Or.inl (w 14 rfl)) Via.refl e1 Finnks_0 (hb hby d14_34) rfl ?_
        intro T2 X2 e2
        refine Own.iload 39 X2 hx (hb hby d14_37) rfl rfl ?_
        refine Own.nLoad 40 (Own.N (G (sl + 1) - G sl)) X2 hx hZ e2 Cib_0 (by omega) (Own.at_ he g1) (hb hby d14_39) rfl ?_
        refine Own.iadd 41 X2 hx (hb hby d14_40) rfl (Own.N_add _ _) ?_
        refine Own.istoreNV 42 #[.val (.ref t), .val (.int (Own.N (x))), .val (.int (Own.N (acc + (G (sl + 1) - G sl)))), .val (.int (Own.N (x * 128 + 3))), .val (.int (Own.N (en)))] X2 hx (hb hby d14_41) rfl rfl ?_
        refine Own.iinc 45 (fun c_3 => #[.val (.ref t), .val (.int (Own.N (x))), .val (.int (Own.N (acc + (G (sl + 1) - G sl)))), .val (.int (Own.N (x * 128 + 3))), .val (.int c_3)]) X2 hx (Own.N 1) (hb hby d14_42) rfl rfl rfl (fun _ => rfl) fun c_3 hc_3 => ?_
        obtain rfl : c_3 = Own.N (en + 1) := hc_3.trans (Own.N_add _ _)
        refine Own.goto 13 X2 hx (hb hby d14_45) (by decide) ?_
        exact ih (sl + 1) _ _ (by omega) (by omega) (by omega) (by omega) _ X2 e2
  refine Own.iconst 1 X0 hx (Own.N 0) (hb hby d14_0) rfl rfl ?_
  refine Own.istoreNV 2 #[.val (.ref t), .val (.int (Own.N (x))), .val (.int (Own.N (0))), .unset, .unset] X0 hx (hb hby d14_1) rfl rfl ?_
  refine Own.iloadN 3 X0 hx (hb hby d14_2) rfl rfl ?_
  refine Own.sipush 6 X0 hx (Own.N 128) (hb hby d14_3) rfl rfl ?_
  refine Own.imul 7 X0 hx (hb hby d14_6) rfl (Own.N_mul _ _) ?_
  refine Own.iconst 8 X0 hx (Own.N 3) (hb hby d14_7) rfl rfl ?_
  refine Own.iadd 9 X0 hx (hb hby d14_8) rfl (Own.N_add _ _) ?_
  refine Own.istoreNV 10 #[.val (.ref t), .val (.int (Own.N (x))), .val (.int (Own.N (0))), .val (.int (Own.N ((x * 128) + 3))), .unset] X0 hx (hb hby d14_9) rfl rfl ?_
  refine Own.iloadN 11 X0 hx (hb hby d14_10) rfl rfl ?_
  refine Own.istoreV 13 #[.val (.ref t), .val (.int (Own.N (x))), .val (.int (Own.N (0))), .val (.int (Own.N ((x * 128) + 3))), .val (.int (Own.N ((x * 128) + 3)))] X0 hx (hb hby d14_11) rfl rfl ?_
  exact J13 (mm + 1) 0 _ _ (by omega) (by omega) (by omega) (by omega) _ X0 e0
theorem d13_0 : decode prog_32_method_8_code 0 = .ok (.aload_n 0, 1) := by decide +kernel
theorem d13_1 : decode prog_32_method_8_code 1 = .ok (.getfield 26, 3) := by decide +kernel
theorem d13_4 : decode prog_32_method_8_code 4 = .ok (.iload_n 1, 1) := by decide +kernel
theorem d13_5 : decode prog_32_method_8_code 5 = .ok (.iaload, 1) := by decide +kernel
theorem d13_6 : decode prog_32_method_8_code 6 = .ok (.bipush 64, 2) := by decide +kernel
theorem d13_8 : decode prog_32_method_8_code 8 = .ok (.imul, 1) := by decide +kernel
theorem d13_9 : decode prog_32_method_8_code 9 = .ok (.iconst 3, 1) := by decide +kernel
theorem d13_10 : decode prog_32_method_8_code 10 = .ok (.iadd, 1) := by decide +kernel
theorem d13_11 : decode prog_32_method_8_code 11 = .ok (.istore_n 2, 1) := by decide +kernel
theorem d13_12 : decode prog_32_method_8_code 12 = .ok (.aload_n 0, 1) := by decide +kernel
theorem d13_13 : decode prog_32_method_8_code 13 = .ok (.getfield 19, 3) := by decide +kernel
theorem d13_16 : decode prog_32_method_8_code 16 = .ok (.iload_n 2, 1) := by decide +kernel
theorem d13_17 : decode prog_32_method_8_code 17 = .ok (.iaload, 1) := by decide +kernel
theorem d13_18 : decode prog_32_method_8_code 18 = .ok (.iload_n 1, 1) := by decide +kernel
theorem d13_19 : decode prog_32_method_8_code 19 = .ok (.if_icmp .eq 9, 3) := by decide +kernel
theorem d13_22 : decode prog_32_method_8_code 22 = .ok (.iinc 2 1, 3) := by decide +kernel
theorem d13_25 : decode prog_32_method_8_code 25 = .ok (.goto (-13), 3) := by decide +kernel
theorem d13_28 : decode prog_32_method_8_code 28 = .ok (.iload_n 2, 1) := by decide +kernel
theorem d13_29 : decode prog_32_method_8_code 29 = .ok (.ireturn, 1) := by decide +kernel
set_option maxRecDepth 65536 in
set_option maxHeartbeats 40000000 in
theorem m13 (l : Launch) (Z : State) (a0 : Array Value) (w : ∀ (i : Nat) {d : Jvm.Cond}, tables_1[i]? = some d → d.before a0 Z = true) (t : Addr) (lb ib lo : Addr) (lv inn rt ht rg zL zI zO n0 : Nat) (fL fI fO : Nat → Int32)(i jj kz : Nat) (g : Nat → Nat) (h0 : Heap) (S0 : own_S Z h0 t lb ib lo lv inn rt ht rg zL zI zO fL fI fO)(bi : i < 1000000) (hio : i < zO) (bj : jj < 1000) (hz : jj * 64 + 3 + kz < zL) (bk : kz < 1000) (hO : fO i = Own.N jj) (hg : ∀ s, s ≤ kz → fL (jj * 64 + 3 + s) = Own.N (g s) ∧ (s < kz → g s ≠ i) ∧ g s < 1000000) (hi : g kz = i) :
    Own.Met l Z (⟨"com/example/frontrank/frontrank/OrderTree", "placeOf", "(I)I"⟩ : MethodName) prog_32_method_8_code 3 (some .int) [] ({ frames := 0, cells := 0, slots := 0, locals := 0 } : Room) #[(.ref t), (.int (Own.N (i)))] h0 (fun v h L => v = some (.int (Own.N (jj * 64 + 3 + kz))) ∧ h = h0 ∧ L = []) := by
  refine Own.Met.of (plainFor_of_name (by first | (simp [plainName, overriddenIn]; done) | decide +kernel)) ?_
  intro p e s m below meth c T0 hx hby hml hown hnm hret hlk hZ X0 e0
  have hown : s.vm.findClass "com/example/frontrank/frontrank/OrderTree" = some m.cls := hown
  have hml : c.maxLocals = 3 := hml
  have hnm : meth.name = "placeOf" := hnm
  have ef : entryFrame m #[(.ref t), (.int (Own.N (i)))] 3 = mkF m 0 #[.val (.ref t), .val (.int (Own.N (i))), .unset] [] := by first | (simp [entryFrame, mkF, argsToLocals, Value.category]; done) | rfl
  rw [ef]
  obtain ⟨E_0, Fleaks_0, Fleaes_0, Finnks_0, Finnrs_0, FleaOf_0, Frooot_0, Fheiht_0, Fregar_0, Clb_0, Cib_0, Clo_0⟩ := S0
  have J12 : ∀ (kk sl en : Nat) (hs : sl ≤ kz) (hk : kz - sl < kk) (he : en = jj * 64 + 3 + sl) (Tq : State) (Xq : Stand p l e ({ frames := 0, cells := 0, slots := 0, locals := 0 } : Room) s m #[(.ref t), (.int (Own.N (i)))] below meth c Tq [] 0 0) (eqq : Tq.heap = h0), Own.Ends p.tables e below (fun v h L => v = some (.int (Own.N (jj * 64 + 3 + kz))) ∧ h = h0 ∧ L = []) (Own.FE s ({ frames := 0, cells := 0, slots := 0, locals := 0 } : Room).cells ({ frames := 0, cells := 0, slots := 0, locals := 0 } : Room).slots) (Tq.setTop (mkF m 12 #[.val (.ref t), .val (.int (Own.N (i))), .val (.int (Own.N (en)))] [])) := by
    intro kk
    induction kk with
    | zero => intros; exfalso; omega
    | succ kk ih =>
      intro sl en hs hk he Tq Xq eqq
      obtain ⟨q1, q2, q3⟩ := hg sl hs
      refine Own.aloadN 13 Xq hx (hb hby d13_12) rfl rfl rfl ?_
      refine Own.getFld 16 Xq hx hZ hown (host := "") (Or.inl (w 12 rfl)) Via.refl eqq Fleaks_0 (hb hby d13_13) rfl ?_
      intro T1 X1 e1
      refine Own.iloadN 17 X1 hx (hb hby d13_16) rfl rfl ?_
      refine Own.nLoad 18 (Own.N (g sl)) X1 hx hZ e1 Clb_0 (by omega) (Own.at_ he q1) (hb hby d13_17) rfl ?_
      refine Own.iloadN 19 X1 hx (hb hby d13_18) rfl rfl ?_
      refine Own.nicmp_eq 28 22 X1 hx (hb hby d13_19) (by decide) rfl (by omega) (by omega) (fun tk => ?_) (fun tk => ?_)
      ·
        have e9 : sl = kz := by
          by_cases r : sl < kz
          · exact absurd tk (q2 r)
          · omega
        refine Own.iloadN 29 X1 hx (hb hby d13_28) rfl rfl ?_
        refine Own.retInt X1 hx hlk hret (hb hby d13_29) (by decide) (by decide) ?_
        exact ⟨by rw [he, e9], e1, rfl⟩
      ·
        have ne9 : sl ≠ kz := fun r => tk (by rw [r]; exact hi)
        refine Own.iinc 25 (fun c_2 => #[.val (.ref t), .val (.int (Own.N (i))), .val (.int c_2)]) X1 hx (Own.N 1) (hb hby d13_22) rfl rfl rfl (fun _ => rfl) fun c_2 hc_2 => ?_
        obtain rfl : c_2 = Own.N (en + 1) := hc_2.trans (Own.N_add _ _)
        refine Own.goto 12 X1 hx (hb hby d13_25) (by decide) ?_
        exact ih (sl + 1) _ (by omega) (by omega) (by omega) _ X1 e1
  refine Own.aloadN 1 X0 hx (hb hby d13_0) rfl rfl rfl ?_
  refine Own.getFld 4 X0 hx hZ hown (host := "") (Or.inl (w 16 rfl)) Via.refl e0 FleaOf_0 (hb hby d13_1) rfl ?_
  intro T3 X3 e3
  refine Own.iloadN 5 X3 hx (hb hby d13_4) rfl rfl ?_
  refine Own.nLoad 6 (Own.N (jj)) X3 hx hZ e3 Clo_0 (by omega) hO (hb hby d13_5) rfl ?_
  refine Own.bipush 8 X3 hx (Own.N 64) (hb hby d13_6) rfl rfl ?_
  refine Own.imul 9 X3 hx (hb hby d13_8) rfl (Own.N_mul _ _) ?_
  refine Own.iconst 10 X3 hx (Own.N 3) (hb hby d13_9) rfl rfl ?_
  refine Own.iadd 11 X3 hx (hb hby d13_10) rfl (Own.N_add _ _) ?_
  refine Own.istoreNV 12 #[.val (.ref t), .val (.int (Own.N (i))), .val (.int (Own.N ((jj * 64) + 3)))] X3 hx (hb hby d13_11) rfl rfl ?_
  exact J12 (kz + 1) 0 _ (by omega) (by omega) (by omega) _ X3 e3
theorem d8_0 : decode prog_32_method_7_code 0 = .ok (.iload_n 1, 1) := by decide +kernel
theorem d8_1 : decode prog_32_method_7_code 1 = .ok (.istore_n 3, 1) := by decide +kernel
theorem d8_2 : decode prog_32_method_7_code 2 = .ok (.aload_n 0, 1) := by decide +kernel
theorem d8_3 : decode prog_32_method_7_code 3 = .ok (.getfield 40, 3) := by decide +kernel
theorem d8_6 : decode prog_32_method_7_code 6 = .ok (.ifCond .eq 22, 3) := by decide +kernel
theorem d8_9 : decode prog_32_method_7_code 9 = .ok (.iload_n 1, 1) := by decide +kernel
theorem d8_10 : decode prog_32_method_7_code 10 = .ok (.iconst 1, 1) := by decide +kernel
theorem d8_11 : decode prog_32_method_7_code 11 = .ok (.isub, 1) := by decide +kernel
theorem d8_12 : decode prog_32_method_7_code 12 = .ok (.bipush 30, 2) := by decide +kernel
theorem d8_14 : decode prog_32_method_7_code 14 = .ok (.idiv, 1) := by decide +kernel
theorem d8_15 : decode prog_32_method_7_code 15 = .ok (.istore_n 2, 1) := by decide +kernel
theorem d8_16 : decode prog_32_method_7_code 16 = .ok (.iload_n 1, 1) := by decide +kernel
theorem d8_17 : decode prog_32_method_7_code 17 = .ok (.iconst 1, 1) := by decide +kernel
theorem d8_18 : decode prog_32_method_7_code 18 = .ok (.isub, 1) := by decide +kernel
theorem d8_19 : decode prog_32_method_7_code 19 = .ok (.bipush 30, 2) := by decide +kernel
theorem d8_21 : decode prog_32_method_7_code 21 = .ok (.irem, 1) := by decide +kernel
theorem d8_22 : decode prog_32_method_7_code 22 = .ok (.iconst 1, 1) := by decide +kernel
theorem d8_23 : decode prog_32_method_7_code 23 = .ok (.iadd, 1) := by decide +kernel
theorem d8_24 : decode prog_32_method_7_code 24 = .ok (.istore_n 3, 1) := by decide +kernel
theorem d8_25 : decode prog_32_method_7_code 25 = .ok (.goto 92, 3) := by decide +kernel
theorem d8_28 : decode prog_32_method_7_code 28 = .ok (.aload_n 0, 1) := by decide +kernel
theorem d8_29 : decode prog_32_method_7_code 29 = .ok (.getfield 59, 3) := by decide +kernel
theorem d8_32 : decode prog_32_method_7_code 32 = .ok (.istore 4, 2) := by decide +kernel
theorem d8_34 : decode prog_32_method_7_code 34 = .ok (.aload_n 0, 1) := by decide +kernel
theorem d8_35 : decode prog_32_method_7_code 35 = .ok (.getfield 62, 3) := by decide +kernel
theorem d8_38 : decode prog_32_method_7_code 38 = .ok (.istore 5, 2) := by decide +kernel
theorem d8_40 : decode prog_32_method_7_code 40 = .ok (.iload 5, 2) := by decide +kernel
theorem d8_42 : decode prog_32_method_7_code 42 = .ok (.ifCond .le 72, 3) := by decide +kernel
theorem d8_45 : decode prog_32_method_7_code 45 = .ok (.iload 4, 2) := by decide +kernel
theorem d8_47 : decode prog_32_method_7_code 47 = .ok (.sipush 128, 3) := by decide +kernel
theorem d8_50 : decode prog_32_method_7_code 50 = .ok (.imul, 1) := by decide +kernel
theorem d8_51 : decode prog_32_method_7_code 51 = .ok (.istore 6, 2) := by decide +kernel
theorem d8_53 : decode prog_32_method_7_code 53 = .ok (.iconst 0, 1) := by decide +kernel
theorem d8_54 : decode prog_32_method_7_code 54 = .ok (.istore 7, 2) := by decide +kernel
theorem d8_56 : decode prog_32_method_7_code 56 = .ok (.iload_n 3, 1) := by decide +kernel
theorem d8_57 : decode prog_32_method_7_code 57 = .ok (.aload_n 0, 1) := by decide +kernel
theorem d8_58 : decode prog_32_method_7_code 58 = .ok (.getfield 23, 3) := by decide +kernel
theorem d8_61 : decode prog_32_method_7_code 61 = .ok (.iload 6, 2) := by decide +kernel
theorem d8_63 : decode prog_32_method_7_code 63 = .ok (.iconst 3, 1) := by decide +kernel
theorem d8_64 : decode prog_32_method_7_code 64 = .ok (.iadd, 1) := by decide +kernel
theorem d8_65 : decode prog_32_method_7_code 65 = .ok (.iload 7, 2) := by decide +kernel
theorem d8_67 : decode prog_32_method_7_code 67 = .ok (.iadd, 1) := by decide +kernel
theorem d8_68 : decode prog_32_method_7_code 68 = .ok (.iaload, 1) := by decide +kernel
theorem d8_69 : decode prog_32_method_7_code 69 = .ok (.if_icmp .le 24, 3) := by decide +kernel
theorem d8_72 : decode prog_32_method_7_code 72 = .ok (.iload_n 3, 1) := by decide +kernel
theorem d8_73 : decode prog_32_method_7_code 73 = .ok (.aload_n 0, 1) := by decide +kernel
theorem d8_74 : decode prog_32_method_7_code 74 = .ok (.getfield 23, 3) := by decide +kernel
theorem d8_77 : decode prog_32_method_7_code 77 = .ok (.iload 6, 2) := by decide +kernel
theorem d8_79 : decode prog_32_method_7_code 79 = .ok (.iconst 3, 1) := by decide +kernel
theorem d8_80 : decode prog_32_method_7_code 80 = .ok (.iadd, 1) := by decide +kernel
theorem d8_81 : decode prog_32_method_7_code 81 = .ok (.iload 7, 2) := by decide +kernel
theorem d8_83 : decode prog_32_method_7_code 83 = .ok (.iadd, 1) := by decide +kernel
theorem d8_84 : decode prog_32_method_7_code 84 = .ok (.iaload, 1) := by decide +kernel
theorem d8_85 : decode prog_32_method_7_code 85 = .ok (.isub, 1) := by decide +kernel
theorem d8_86 : decode prog_32_method_7_code 86 = .ok (.istore_n 3, 1) := by decide +kernel
theorem d8_87 : decode prog_32_method_7_code 87 = .ok (.iinc 7 1, 3) := by decide +kernel
theorem d8_90 : decode prog_32_method_7_code 90 = .ok (.goto (-34), 3) := by decide +kernel
theorem d8_93 : decode prog_32_method_7_code 93 = .ok (.aload_n 0, 1) := by decide +kernel
theorem d8_94 : decode prog_32_method_7_code 94 = .ok (.getfield 23, 3) := by decide +kernel
theorem d8_97 : decode prog_32_method_7_code 97 = .ok (.iload 6, 2) := by decide +kernel
theorem d8_99 : decode prog_32_method_7_code 99 = .ok (.bipush 65, 2) := by decide +kernel
theorem d8_101 : decode prog_32_method_7_code 101 = .ok (.iadd, 1) := by decide +kernel
theorem d8_102 : decode prog_32_method_7_code 102 = .ok (.iload 7, 2) := by decide +kernel
theorem d8_104 : decode prog_32_method_7_code 104 = .ok (.iadd, 1) := by decide +kernel
theorem d8_105 : decode prog_32_method_7_code 105 = .ok (.iaload, 1) := by decide +kernel
theorem d8_106 : decode prog_32_method_7_code 106 = .ok (.istore 4, 2) := by decide +kernel
theorem d8_108 : decode prog_32_method_7_code 108 = .ok (.iinc 5 (-1), 3) := by decide +kernel
theorem d8_111 : decode prog_32_method_7_code 111 = .ok (.goto (-71), 3) := by decide +kernel
theorem d8_114 : decode prog_32_method_7_code 114 = .ok (.iload 4, 2) := by decide +kernel
theorem d8_116 : decode prog_32_method_7_code 116 = .ok (.istore_n 2, 1) := by decide +kernel
theorem d8_117 : decode prog_32_method_7_code 117 = .ok (.iload_n 2, 1) := by decide +kernel
theorem d8_118 : decode prog_32_method_7_code 118 = .ok (.bipush 64, 2) := by decide +kernel
theorem d8_120 : decode prog_32_method_7_code 120 = .ok (.imul, 1) := by decide +kernel
theorem d8_121 : decode prog_32_method_7_code 121 = .ok (.iconst 3, 1) := by decide +kernel
theorem d8_122 : decode prog_32_method_7_code 122 = .ok (.iadd, 1) := by decide +kernel
theorem d8_123 : decode prog_32_method_7_code 123 = .ok (.iload_n 3, 1) := by decide +kernel
theorem d8_124 : decode prog_32_method_7_code 124 = .ok (.iadd, 1) := by decide +kernel
theorem d8_125 : decode prog_32_method_7_code 125 = .ok (.iconst 1, 1) := by decide +kernel
theorem d8_126 : decode prog_32_method_7_code 126 = .ok (.isub, 1) := by decide +kernel
theorem d8_127 : decode prog_32_method_7_code 127 = .ok (.ireturn, 1) := by decide +kernel
set_option maxRecDepth 65536 in
set_option maxHeartbeats 40000000 in
theorem m8 (l : Launch) (Z : State) (a0 : Array Value) (w : ∀ (i : Nat) {d : Jvm.Cond}, tables_1[i]? = some d → d.before a0 Z = true) (t : Addr) (lb ib lo : Addr) (lv inn rt ht rg zL zI zO n0 : Nat) (fL fI fO : Nat → Int32)(pq : Nat)(L n' B : Nat) (pre : Nat → Nat) (h0 : Heap) (S0 : own_S Z h0 t lb ib lo lv inn rt ht rg zL zI zO fL fI fO)(TT : own_T L n' B rt ht rg zL zI pre fL fI)(hq : 1 ≤ pq ∧ pq ≤ n') :
    Own.Met l Z (⟨"com/example/frontrank/frontrank/OrderTree", "locate", "(I)I"⟩ : MethodName) prog_32_method_7_code 8 (some .int) [] ({ frames := 0, cells := 0, slots := 0, locals := 0 } : Room) #[(.ref t), (.int (Own.N (pq)))] h0 (fun v h L' => ∃ a, v = some (.int (Own.N a)) ∧ own_Pl L pre (pq - 1) a ∧ h = h0 ∧ L' = []) := by
  refine Own.Met.of (plainFor_of_name (by first | (simp [plainName, overriddenIn]; done) | decide +kernel)) ?_
  intro p e s m below meth c T0 hx hby hml hown hnm hret hlk hZ X0 e0
  have hown : s.vm.findClass "com/example/frontrank/frontrank/OrderTree" = some m.cls := hown
  have hml : c.maxLocals = 8 := hml
  have hnm : meth.name = "locate" := hnm
  have ef : entryFrame m #[(.ref t), (.int (Own.N (pq)))] 8 = mkF m 0 #[.val (.ref t), .val (.int (Own.N (pq))), .unset, .unset, .unset, .unset, .unset, .unset] [] := by first | (simp [entryFrame, mkF, argsToLocals, Value.category]; done) | rfl
  rw [ef]
  obtain ⟨E_0, Fleaks_0, Fleaes_0, Finnks_0, Finnrs_0, FleaOf_0, Frooot_0, Fheiht_0, Fregar_0, Clb_0, Cib_0, Clo_0⟩ := S0
  obtain ⟨P, hB, hL1, hL2, hn', hT, hR, hzI, hzI2, hzL, hzL2⟩ := TT
  have rb : rg ≤ 1 := by
    rcases hR with ⟨r, -⟩ | r <;> omega
  have J56 : ∀ (b lvl cc : Nat) (G : Nat → Nat) (hG : own_Gc fI b cc G) (h1 : G cc < pq) (h2 : pq ≤ G (cc + 1)) (h3 : G (cc + 1) < 1000000) (bb : b < 8) (bc : cc < 62) (KK : ∀ (r : Nat) (hr : r = pq - G cc) (Tq : State) (Xq : Stand p l e ({ frames := 0, cells := 0, slots := 0, locals := 0 } : Room) s m #[(.ref t), (.int (Own.N (pq)))] below meth c Tq [] 0 0) (eqq : Tq.heap = h0), Own.Ends p.tables e below (fun v h L' => ∃ a, v = some (.int (Own.N a)) ∧ own_Pl L pre (pq - 1) a ∧ h = h0 ∧ L' = []) (Own.FE s ({ frames := 0, cells := 0, slots := 0, locals := 0 } : Room).cells ({ frames := 0, cells := 0, slots := 0, locals := 0 } : Room).slots) (Tq.setTop (mkF m 93 #[.val (.ref t), .val (.int (Own.N (pq))), .unset, .val (.int (Own.N (r))), .val (.int (Own.N (b))), .val (.int (Own.N (lvl))), .val (.int (Own.N (b * 128))), .val (.int (Own.N (cc)))] []))) (kk sl r : Nat) (hs : sl ≤ cc) (hk : cc - sl < kk) (hr : r = pq - G sl) (Tq : State) (Xq : Stand p l e ({ frames := 0, cells := 0, slots := 0, locals := 0 } : Room) s m #[(.ref t), (.int (Own.N (pq)))] below meth c Tq [] 0 0) (eqq : Tq.heap = h0), Own.Ends p.tables e below (fun v h L' => ∃ a, v = some (.int (Own.N a)) ∧ own_Pl L pre (pq - 1) a ∧ h = h0 ∧ L' = []) (Own.FE s ({ frames := 0, cells := 0, slots := 0, locals := 0 } : Room).cells ({ frames := 0, cells := 0, slots := 0, locals := 0 } : Room).slots) (Tq.setTop (mkF m 56 #[.val (.ref t), .val (.int (Own.N (pq))), .unset, .val (.int (Own.N (r))), .val (.int (Own.N (b))), .val (.int (Own.N (lvl))), .val (.int (Own.N (b * 128))), .val (.int (Own.N (sl)))] [])) := by
    intro b lvl cc G hG h1 h2 h3 bb bc KK kk
    induction kk with
    | zero => intros; exfalso; omega
    | succ kk ih =>
      intro sl r hs hk hr Tq Xq eqq
      obtain ⟨q1, q2, q3⟩ := hG sl hs
      have q4 : G (sl + 1) < 1000000 := by
        by_cases c9 : sl = cc
        · subst c9; exact h3
        · have := (hG (sl + 1) (by omega)).2.2; omega
      refine Own.iloadN 57 Xq hx (hb hby d8_56) rfl rfl ?_
      refine Own.aloadN 58 Xq hx (hb hby d8_57) rfl rfl rfl ?_
      refine Own.getFld 61 Xq hx hZ hown (host := "") (Or.inl (w 14 rfl)) Via.refl eqq Finnks_0 (hb hby d8_58) rfl ?_
      intro T1 X1 e1
      refine Own.iload 63 X1 hx (hb hby d8_61) rfl rfl ?_
      refine Own.iconst 64 X1 hx (Own.N 3) (hb hby d8_63) rfl rfl ?_
      refine Own.iadd 65 X1 hx (hb hby d8_64) rfl (Own.N_add _ _) ?_
      refine Own.iload 67 X1 hx (hb hby d8_65) rfl rfl ?_
      refine Own.iadd 68 X1 hx (hb hby d8_67) rfl (Own.N_add _ _) ?_
      refine Own.nLoad 69 (Own.N (G (sl + 1) - G sl)) X1 hx hZ e1 Cib_0 (by omega) q1 (hb hby d8_68) rfl ?_
      refine Own.nicmp_le 93 72 X1 hx (hb hby d8_69) (by decide) rfl (by omega) (by omega) (fun tk => ?_) (fun tk => ?_)
      ·
        obtain rfl : sl = cc := by
          by_cases c9 : sl = cc
          · exact c9
          · have := (hG (sl + 1) (by omega)).2.2; omega
        exact KK r hr _ X1 e1
      ·
        have c9 : sl ≠ cc := fun c9 => by subst c9; omega
        refine Own.iloadN 73 X1 hx (hb hby d8_72) rfl rfl ?_
        refine Own.aloadN 74 X1 hx (hb hby d8_73) rfl rfl rfl ?_
        refine Own.getFld 77 X1 hx hZ hown (host := "") (Or.inl (w 14 rfl)) Via.refl e1 Finnks_0 (hb hby d8_74) rfl ?_
        intro T2 X2 e2
        refine Own.iload 79 X2 hx (hb hby d8_77) rfl rfl ?_
        refine Own.iconst 80 X2 hx (Own.N 3) (hb hby d8_79) rfl rfl ?_
        refine Own.iadd 81 X2 hx (hb hby d8_80) rfl (Own.N_add _ _) ?_
        refine Own.iload 83 X2 hx (hb hby d8_81) rfl rfl ?_
        refine Own.iadd 84 X2 hx (hb hby d8_83) rfl (Own.N_add _ _) ?_
        refine Own.nLoad 85 (Own.N (G (sl + 1) - G sl)) X2 hx hZ e2 Cib_0 (by omega) q1 (hb hby d8_84) rfl ?_
        refine Own.isub 86 X2 hx (hb hby d8_85) rfl (Own.N_sub (by omega)) ?_
        refine Own.istoreNV 87 #[.val (.ref t), .val (.int (Own.N (pq))), .unset, .val (.int (Own.N (r - (G (sl + 1) - G sl)))), .val (.int (Own.N (b))), .val (.int (Own.N (lvl))), .val (.int (Own.N (b * 128))), .val (.int (Own.N (sl)))] X2 hx (hb hby d8_86) rfl rfl ?_
        refine Own.iinc 90 (fun c_3 => #[.val (.ref t), .val (.int (Own.N (pq))), .unset, .val (.int (Own.N (r - (G (sl + 1) - G sl)))), .val (.int (Own.N (b))), .val (.int (Own.N (lvl))), .val (.int (Own.N (b * 128))), .val (.int c_3)]) X2 hx (Own.N 1) (hb hby d8_87) rfl rfl rfl (fun _ => rfl) fun c_3 hc_3 => ?_
        obtain rfl : c_3 = Own.N (sl + 1) := hc_3.trans (Own.N_add _ _)
        refine Own.goto 56 X2 hx (hb hby d8_90) (by decide) ?_
        exact ih (sl + 1) _ (by omega) (by omega) (by omega) _ X2 e2
  refine Own.iloadN 1 X0 hx (hb hby d8_0) rfl rfl ?_
  refine Own.istoreNV 2 #[.val (.ref t), .val (.int (Own.N (pq))), .unset, .val (.int (Own.N (pq))), .unset, .unset, .unset, .unset] X0 hx (hb hby d8_1) rfl rfl ?_
  refine Own.aloadN 3 X0 hx (hb hby d8_2) rfl rfl rfl ?_
  refine Own.getFld 6 X0 hx hZ hown (host := "") (Or.inl (w 46 rfl)) Via.refl e0 Fregar_0 (hb hby d8_3) rfl ?_
  intro T4 X4 e4
  refine Own.nif_eq 28 9 X4 hx (hb hby d8_6) (by decide) rfl (by omega) (fun g1 => ?_) (fun g1 => ?_)
  ·
    obtain ⟨jj, hj, f1, f2⟩ := own_find P (q := pq - 1) (by omega)
    have bd := own_bound P (j := jj + 1) (by omega)
    have p0 := P.1
    have pj := P.2.2 jj hj
    rcases hT with ⟨rfl, H⟩ | ⟨rfl, V, nd, H⟩
    ·
      have b8 := H.2.1
      have l62 := H.1
      refine Own.aloadN 29 X4 hx (hb hby d8_28) rfl rfl rfl ?_
      refine Own.getFld 32 X4 hx hZ hown (host := "") (Or.inl (w 44 rfl)) Via.refl e4 Frooot_0 (hb hby d8_29) rfl ?_
      intro T5 X5 e5
      refine Own.istoreV 34 #[.val (.ref t), .val (.int (Own.N (pq))), .unset, .val (.int (Own.N (pq))), .val (.int (Own.N (rt))), .unset, .unset, .unset] X5 hx (hb hby d8_32) rfl rfl ?_
      refine Own.aloadN 35 X5 hx (hb hby d8_34) rfl rfl rfl ?_
      refine Own.getFld 38 X5 hx hZ hown (host := "") (Or.inl (w 34 rfl)) Via.refl e5 Fheiht_0 (hb hby d8_35) rfl ?_
      intro T6 X6 e6
      refine Own.istoreV 40 #[.val (.ref t), .val (.int (Own.N (pq))), .unset, .val (.int (Own.N (pq))), .val (.int (Own.N (rt))), .val (.int (Own.N (1))), .unset, .unset] X6 hx (hb hby d8_38) rfl rfl ?_
      refine Own.iload 42 X6 hx (hb hby d8_40) rfl rfl ?_
      refine Own.nif_le 114 45 X6 hx (hb hby d8_42) (by decide) rfl (by omega) (fun tk => False.elim (by omega)) (fun tk => ?_)
      refine Own.iload 47 X6 hx (hb hby d8_45) rfl rfl ?_
      refine Own.sipush 50 X6 hx (Own.N 128) (hb hby d8_47) rfl rfl ?_
      refine Own.imul 51 X6 hx (hb hby d8_50) rfl (Own.N_mul _ _) ?_
      refine Own.istoreV 53 #[.val (.ref t), .val (.int (Own.N (pq))), .unset, .val (.int (Own.N (pq))), .val (.int (Own.N (rt))), .val (.int (Own.N (1))), .val (.int (Own.N (rt * 128))), .unset] X6 hx (hb hby d8_51) rfl rfl ?_
      refine Own.iconst 54 X6 hx (Own.N 0) (hb hby d8_53) rfl rfl ?_
      refine Own.istoreV 56 #[.val (.ref t), .val (.int (Own.N (pq))), .unset, .val (.int (Own.N (pq))), .val (.int (Own.N (rt))), .val (.int (Own.N (1))), .val (.int (Own.N (rt * 128))), .val (.int (Own.N (0)))] X6 hx (hb hby d8_54) rfl rfl ?_
      refine J56 rt 1 jj pre (own_G1 P H hj) (by omega) (by omega) (by omega) b8 (by omega) ?_ (jj + 1) 0 _ (by omega) (by omega) (by omega) _ X6 e6
      intro r hr Tq Xq eqq
      refine Own.aloadN 94 Xq hx (hb hby d8_93) rfl rfl rfl ?_
      refine Own.getFld 97 Xq hx hZ hown (host := "") (Or.inl (w 14 rfl)) Via.refl eqq Finnks_0 (hb hby d8_94) rfl ?_
      intro T7 X7 e7
      refine Own.iload 99 X7 hx (hb hby d8_97) rfl rfl ?_
      refine Own.bipush 101 X7 hx (Own.N 65) (hb hby d8_99) rfl rfl ?_
      refine Own.iadd 102 X7 hx (hb hby d8_101) rfl (Own.N_add _ _) ?_
      refine Own.iload 104 X7 hx (hb hby d8_102) rfl rfl ?_
      refine Own.iadd 105 X7 hx (hb hby d8_104) rfl (Own.N_add _ _) ?_
      refine Own.nLoad 106 (Own.N (jj)) X7 hx hZ e7 Cib_0 (by omega) (H.2.2.2.2 jj hj).2.2.2 (hb hby d8_105) rfl ?_
      refine Own.istoreV 108 #[.val (.ref t), .val (.int (Own.N (pq))), .unset, .val (.int (Own.N (r))), .val (.int (Own.N (jj))), .val (.int (Own.N (1))), .val (.int (Own.N (rt * 128))), .val (.int (Own.N (jj)))] X7 hx (hb hby d8_106) rfl rfl ?_
      refine Own.iinc 111 (fun c_8 => #[.val (.ref t), .val (.int (Own.N (pq))), .unset, .val (.int (Own.N (r))), .val (.int (Own.N (jj))), .val (.int c_8), .val (.int (Own.N (rt * 128))), .val (.int (Own.N (jj)))]) X7 hx ((-1 : Int32)) (hb hby d8_108) rfl rfl rfl (fun _ => rfl) fun c_8 hc_8 => ?_
      obtain rfl : c_8 = Own.N (0) := hc_8.trans (by decide)
      refine Own.goto 40 X7 hx (hb hby d8_111) (by decide) ?_
      refine Own.iload 42 X7 hx (hb hby d8_40) rfl rfl ?_
      refine Own.nif_le 114 45 X7 hx (hb hby d8_42) (by decide) rfl (by omega) (fun tk => ?_) (fun tk => False.elim (by omega))
      refine Own.iload 116 X7 hx (hb hby d8_114) rfl rfl ?_
      refine Own.istoreNV 117 #[.val (.ref t), .val (.int (Own.N (pq))), .val (.int (Own.N (jj))), .val (.int (Own.N (r))), .val (.int (Own.N (jj))), .val (.int (Own.N (0))), .val (.int (Own.N (rt * 128))), .val (.int (Own.N (jj)))] X7 hx (hb hby d8_116) rfl rfl ?_
      refine Own.iloadN 118 X7 hx (hb hby d8_117) rfl rfl ?_
      refine Own.bipush 120 X7 hx (Own.N 64) (hb hby d8_118) rfl rfl ?_
      refine Own.imul 121 X7 hx (hb hby d8_120) rfl (Own.N_mul _ _) ?_
      refine Own.iconst 122 X7 hx (Own.N 3) (hb hby d8_121) rfl rfl ?_
      refine Own.iadd 123 X7 hx (hb hby d8_122) rfl (Own.N_add _ _) ?_
      refine Own.iloadN 124 X7 hx (hb hby d8_123) rfl rfl ?_
      refine Own.iadd 125 X7 hx (hb hby d8_124) rfl (Own.N_add _ _) ?_
      refine Own.iconst 126 X7 hx (Own.N 1) (hb hby d8_125) rfl rfl ?_
      refine Own.isub 127 X7 hx (hb hby d8_126) rfl (Own.N_sub (by omega)) ?_
      refine Own.retInt X7 hx hlk hret (hb hby d8_127) (by decide) (by decide) ?_
      exact ⟨_, rfl, ⟨jj, pq - 1 - pre jj, hj, by omega, by omega, by omega⟩, e7, rfl⟩
    ·
      obtain ⟨G1, G2, G3, G4, G5, G6, G7⟩ := own_gr_in P hj
      have b8 := H.2.2.2.1
      have hV := H.1
      have hV5 := H.2.2.1
      obtain ⟨d1, d2, d3, d4, d5, d6, d7⟩ := H.2.2.2.2.2.2.1 (jj / 31) (by omega)
      refine Own.aloadN 29 X4 hx (hb hby d8_28) rfl rfl rfl ?_
      refine Own.getFld 32 X4 hx hZ hown (host := "") (Or.inl (w 44 rfl)) Via.refl e4 Frooot_0 (hb hby d8_29) rfl ?_
      intro T9 X9 e9
      refine Own.istoreV 34 #[.val (.ref t), .val (.int (Own.N (pq))), .unset, .val (.int (Own.N (pq))), .val (.int (Own.N (rt))), .unset, .unset, .unset] X9 hx (hb hby d8_32) rfl rfl ?_
      refine Own.aloadN 35 X9 hx (hb hby d8_34) rfl rfl rfl ?_
      refine Own.getFld 38 X9 hx hZ hown (host := "") (Or.inl (w 34 rfl)) Via.refl e9 Fheiht_0 (hb hby d8_35) rfl ?_
      intro T10 X10 e10
      refine Own.istoreV 40 #[.val (.ref t), .val (.int (Own.N (pq))), .unset, .val (.int (Own.N (pq))), .val (.int (Own.N (rt))), .val (.int (Own.N (2))), .unset, .unset] X10 hx (hb hby d8_38) rfl rfl ?_
      refine Own.iload 42 X10 hx (hb hby d8_40) rfl rfl ?_
      refine Own.nif_le 114 45 X10 hx (hb hby d8_42) (by decide) rfl (by omega) (fun tk => False.elim (by omega)) (fun tk => ?_)
      refine Own.iload 47 X10 hx (hb hby d8_45) rfl rfl ?_
      refine Own.sipush 50 X10 hx (Own.N 128) (hb hby d8_47) rfl rfl ?_
      refine Own.imul 51 X10 hx (hb hby d8_50) rfl (Own.N_mul _ _) ?_
      refine Own.istoreV 53 #[.val (.ref t), .val (.int (Own.N (pq))), .unset, .val (.int (Own.N (pq))), .val (.int (Own.N (rt))), .val (.int (Own.N (2))), .val (.int (Own.N (rt * 128))), .unset] X10 hx (hb hby d8_51) rfl rfl ?_
      refine Own.iconst 54 X10 hx (Own.N 0) (hb hby d8_53) rfl rfl ?_
      refine Own.istoreV 56 #[.val (.ref t), .val (.int (Own.N (pq))), .unset, .val (.int (Own.N (pq))), .val (.int (Own.N (rt))), .val (.int (Own.N (2))), .val (.int (Own.N (rt * 128))), .val (.int (Own.N (0)))] X10 hx (hb hby d8_54) rfl rfl ?_
      refine J56 rt 2 (jj / 31) (own_gr L pre) (own_G2r P H (by omega)) (by omega) (by omega) (by omega) b8 (by omega) ?_ (jj / 31 + 1) 0 _ (by omega) (by omega) (by omega) _ X10 e10
      intro r hr Tq Xq eqq
      refine Own.aloadN 94 Xq hx (hb hby d8_93) rfl rfl rfl ?_
      refine Own.getFld 97 Xq hx hZ hown (host := "") (Or.inl (w 14 rfl)) Via.refl eqq Finnks_0 (hb hby d8_94) rfl ?_
      intro T11 X11 e11
      refine Own.iload 99 X11 hx (hb hby d8_97) rfl rfl ?_
      refine Own.bipush 101 X11 hx (Own.N 65) (hb hby d8_99) rfl rfl ?_
      refine Own.iadd 102 X11 hx (hb hby d8_101) rfl (Own.N_add _ _) ?_
      refine Own.iload 104 X11 hx (hb hby d8_102) rfl rfl ?_
      refine Own.iadd 105 X11 hx (hb hby d8_104) rfl (Own.N_add _ _) ?_
      refine Own.nLoad 106 (Own.N (nd (jj / 31))) X11 hx hZ e11 Cib_0 (by omega) d7 (hb hby d8_105) rfl ?_
      refine Own.istoreV 108 #[.val (.ref t), .val (.int (Own.N (pq))), .unset, .val (.int (Own.N (r))), .val (.int (Own.N (nd (jj / 31)))), .val (.int (Own.N (2))), .val (.int (Own.N (rt * 128))), .val (.int (Own.N (jj / 31)))] X11 hx (hb hby d8_106) rfl rfl ?_
      refine Own.iinc 111 (fun c_12 => #[.val (.ref t), .val (.int (Own.N (pq))), .unset, .val (.int (Own.N (r))), .val (.int (Own.N (nd (jj / 31)))), .val (.int c_12), .val (.int (Own.N (rt * 128))), .val (.int (Own.N (jj / 31)))]) X11 hx ((-1 : Int32)) (hb hby d8_108) rfl rfl rfl (fun _ => rfl) fun c_12 hc_12 => ?_
      obtain rfl : c_12 = Own.N (1) := hc_12.trans (by decide)
      refine Own.goto 40 X11 hx (hb hby d8_111) (by decide) ?_
      refine Own.iload 42 X11 hx (hb hby d8_40) rfl rfl ?_
      refine Own.nif_le 114 45 X11 hx (hb hby d8_42) (by decide) rfl (by omega) (fun tk => False.elim (by omega)) (fun tk => ?_)
      refine Own.iload 47 X11 hx (hb hby d8_45) rfl rfl ?_
      refine Own.sipush 50 X11 hx (Own.N 128) (hb hby d8_47) rfl rfl ?_
      refine Own.imul 51 X11 hx (hb hby d8_50) rfl (Own.N_mul _ _) ?_
      refine Own.istoreV 53 #[.val (.ref t), .val (.int (Own.N (pq))), .unset, .val (.int (Own.N (r))), .val (.int (Own.N (nd (jj / 31)))), .val (.int (Own.N (1))), .val (.int (Own.N ((nd (jj / 31)) * 128))), .val (.int (Own.N (jj / 31)))] X11 hx (hb hby d8_51) rfl rfl ?_
      refine Own.iconst 54 X11 hx (Own.N 0) (hb hby d8_53) rfl rfl ?_
      refine Own.istoreV 56 #[.val (.ref t), .val (.int (Own.N (pq))), .unset, .val (.int (Own.N (r))), .val (.int (Own.N (nd (jj / 31)))), .val (.int (Own.N (1))), .val (.int (Own.N ((nd (jj / 31)) * 128))), .val (.int (Own.N (0)))] X11 hx (hb hby d8_54) rfl rfl ?_
      refine J56 (nd (jj / 31)) 1 (jj % 31) (own_gn pre (jj / 31)) (own_G2n P H (by omega) (by omega)) (by omega) (by omega) (by omega) d2 (by omega) ?_ (jj % 31 + 1) 0 _ (by omega) (by omega) (by omega) _ X11 e11
      intro r hr Tq Xq eqq
      refine Own.aloadN 94 Xq hx (hb hby d8_93) rfl rfl rfl ?_
      refine Own.getFld 97 Xq hx hZ hown (host := "") (Or.inl (w 14 rfl)) Via.refl eqq Finnks_0 (hb hby d8_94) rfl ?_
      intro T13 X13 e13
      refine Own.iload 99 X13 hx (hb hby d8_97) rfl rfl ?_
      refine Own.bipush 101 X13 hx (Own.N 65) (hb hby d8_99) rfl rfl ?_
      refine Own.iadd 102 X13 hx (hb hby d8_101) rfl (Own.N_add _ _) ?_
      refine Own.iload 104 X13 hx (hb hby d8_102) rfl rfl ?_
      refine Own.iadd 105 X13 hx (hb hby d8_104) rfl (Own.N_add _ _) ?_
      refine Own.nLoad 106 (Own.N (jj)) X13 hx hZ e13 Cib_0 (by omega) (H.2.2.2.2.2.2.2.2 jj hj).2.2.2 (hb hby d8_105) rfl ?_
      refine Own.istoreV 108 #[.val (.ref t), .val (.int (Own.N (pq))), .unset, .val (.int (Own.N (r))), .val (.int (Own.N (jj))), .val (.int (Own.N (1))), .val (.int (Own.N ((nd (jj / 31)) * 128))), .val (.int (Own.N (jj % 31)))] X13 hx (hb hby d8_106) rfl rfl ?_
      refine Own.iinc 111 (fun c_14 => #[.val (.ref t), .val (.int (Own.N (pq))), .unset, .val (.int (Own.N (r))), .val (.int (Own.N (jj))), .val (.int c_14), .val (.int (Own.N ((nd (jj / 31)) * 128))), .val (.int (Own.N (jj % 31)))]) X13 hx ((-1 : Int32)) (hb hby d8_108) rfl rfl rfl (fun _ => rfl) fun c_14 hc_14 => ?_
      obtain rfl : c_14 = Own.N (0) := hc_14.trans (by decide)
      refine Own.goto 40 X13 hx (hb hby d8_111) (by decide) ?_
      refine Own.iload 42 X13 hx (hb hby d8_40) rfl rfl ?_
      refine Own.nif_le 114 45 X13 hx (hb hby d8_42) (by decide) rfl (by omega) (fun tk => ?_) (fun tk => False.elim (by omega))
      refine Own.iload 116 X13 hx (hb hby d8_114) rfl rfl ?_
      refine Own.istoreNV 117 #[.val (.ref t), .val (.int (Own.N (pq))), .val (.int (Own.N (jj))), .val (.int (Own.N (r))), .val (.int (Own.N (jj))), .val (.int (Own.N (0))), .val (.int (Own.N ((nd (jj / 31)) * 128))), .val (.int (Own.N (jj % 31)))] X13 hx (hb hby d8_116) rfl rfl ?_
      refine Own.iloadN 118 X13 hx (hb hby d8_117) rfl rfl ?_
      refine Own.bipush 120 X13 hx (Own.N 64) (hb hby d8_118) rfl rfl ?_
      refine Own.imul 121 X13 hx (hb hby d8_120) rfl (Own.N_mul _ _) ?_
      refine Own.iconst 122 X13 hx (Own.N 3) (hb hby d8_121) rfl rfl ?_
      refine Own.iadd 123 X13 hx (hb hby d8_122) rfl (Own.N_add _ _) ?_
      refine Own.iloadN 124 X13 hx (hb hby d8_123) rfl rfl ?_
      refine Own.iadd 125 X13 hx (hb hby d8_124) rfl (Own.N_add _ _) ?_
      refine Own.iconst 126 X13 hx (Own.N 1) (hb hby d8_125) rfl rfl ?_
      refine Own.isub 127 X13 hx (hb hby d8_126) rfl (Own.N_sub (by omega)) ?_
      refine Own.retInt X13 hx hlk hret (hb hby d8_127) (by decide) (by decide) ?_
      exact ⟨_, rfl, ⟨jj, pq - 1 - pre jj, hj, by omega, by omega, by omega⟩, e13, rfl⟩
  ·
    obtain ⟨-, hr⟩ : rg = 1 ∧ ∀ j, j ≤ L → pre j = min (30 * j) n' := by
      rcases hR with r | r
      · exact r
      · exact absurd r g1
    have p1 := P.2.1
    have p2 := hr L (Nat.le_refl _)
    have p3 := hr ((pq - 1) / 30) (by omega)
    have p4 := hr ((pq - 1) / 30 + 1) (by omega)
    refine Own.iloadN 10 X4 hx (hb hby d8_9) rfl rfl ?_
    refine Own.iconst 11 X4 hx (Own.N 1) (hb hby d8_10) rfl rfl ?_
    refine Own.isub 12 X4 hx (hb hby d8_11) rfl (Own.N_sub (by omega)) ?_
    refine Own.bipush 14 X4 hx (Own.N 30) (hb hby d8_12) rfl rfl ?_
    refine Own.idiv 15 X4 hx (hb hby d8_14) rfl (by decide) (Own.N_div (by omega) (by omega)) ?_
    refine Own.istoreNV 16 #[.val (.ref t), .val (.int (Own.N (pq))), .val (.int (Own.N ((pq - 1) / 30))), .val (.int (Own.N (pq))), .unset, .unset, .unset, .unset] X4 hx (hb hby d8_15) rfl rfl ?_
    refine Own.iloadN 17 X4 hx (hb hby d8_16) rfl rfl ?_
    refine Own.iconst 18 X4 hx (Own.N 1) (hb hby d8_17) rfl rfl ?_
    refine Own.isub 19 X4 hx (hb hby d8_18) rfl (Own.N_sub (by omega)) ?_
    refine Own.bipush 21 X4 hx (Own.N 30) (hb hby d8_19) rfl rfl ?_
    refine Own.irem 22 X4 hx (hb hby d8_21) rfl (by decide) (Own.N_mod (by omega) (by omega)) ?_
    refine Own.iconst 23 X4 hx (Own.N 1) (hb hby d8_22) rfl rfl ?_
    refine Own.iadd 24 X4 hx (hb hby d8_23) rfl (Own.N_add _ _) ?_
    refine Own.istoreNV 25 #[.val (.ref t), .val (.int (Own.N (pq))), .val (.int (Own.N ((pq - 1) / 30))), .val (.int (Own.N (((pq - 1) % 30) + 1))), .unset, .unset, .unset, .unset] X4 hx (hb hby d8_24) rfl rfl ?_
    refine Own.goto 117 X4 hx (hb hby d8_25) (by decide) ?_
    refine Own.iloadN 118 X4 hx (hb hby d8_117) rfl rfl ?_
    refine Own.bipush 120 X4 hx (Own.N 64) (hb hby d8_118) rfl rfl ?_
    refine Own.imul 121 X4 hx (hb hby d8_120) rfl (Own.N_mul _ _) ?_
    refine Own.iconst 122 X4 hx (Own.N 3) (hb hby d8_121) rfl rfl ?_
    refine Own.iadd 123 X4 hx (hb hby d8_122) rfl (Own.N_add _ _) ?_
    refine Own.iloadN 124 X4 hx (hb hby d8_123) rfl rfl ?_
    refine Own.iadd 125 X4 hx (hb hby d8_124) rfl (Own.N_add _ _) ?_
    refine Own.iconst 126 X4 hx (Own.N 1) (hb hby d8_125) rfl rfl ?_
    refine Own.isub 127 X4 hx (hb hby d8_126) rfl (Own.N_sub (by omega)) ?_
    refine Own.retInt X4 hx hlk hret (hb hby d8_127) (by decide) (by decide) ?_
    exact ⟨_, rfl, ⟨(pq - 1) / 30, (pq - 1) % 30, by omega, by omega, by omega, by omega⟩, e4, rfl⟩
theorem d9_0 : decode prog_32_method_3_code 0 = .ok (.aload_n 0, 1) := by decide +kernel
theorem d9_1 : decode prog_32_method_3_code 1 = .ok (.getfield 19, 3) := by decide +kernel
theorem d9_4 : decode prog_32_method_3_code 4 = .ok (.aload_n 0, 1) := by decide +kernel
theorem d9_5 : decode prog_32_method_3_code 5 = .ok (.iload_n 1, 1) := by decide +kernel
theorem d9_6 : decode prog_32_method_3_code 6 = .ok (.invokevirtual 33, 3) := by decide +kernel
theorem d9_9 : decode prog_32_method_3_code 9 = .ok (.iaload, 1) := by decide +kernel
theorem d9_10 : decode prog_32_method_3_code 10 = .ok (.ireturn, 1) := by decide +kernel
set_option maxRecDepth 65536 in
set_option maxHeartbeats 40000000 in
theorem m9 (l : Launch) (Z : State) (a0 : Array Value) (w : ∀ (i : Nat) {d : Jvm.Cond}, tables_1[i]? = some d → d.before a0 Z = true) (t : Addr) (lb ib lo : Addr) (lv inn rt ht rg zL zI zO n0 : Nat) (fL fI fO : Nat → Int32)(pq : Nat)(L n' B : Nat) (pre : Nat → Nat)(ord : Nat → Nat) (h0 : Heap) (S0 : own_S Z h0 t lb ib lo lv inn rt ht rg zL zI zO fL fI fO)(TT : own_T L n' B rt ht rg zL zI pre fL fI)(O : own_Or n' zO ord) (Lf : own_Lf L pre ord fL fO)(hq : 1 ≤ pq ∧ pq ≤ n') :
    Own.Met l Z (⟨"com/example/frontrank/frontrank/OrderTree", "item", "(I)I"⟩ : MethodName) prog_32_method_3_code 2 (some .int) [] ({ frames := 1, cells := 0, slots := 0, locals := 20 } : Room) #[(.ref t), (.int (Own.N (pq)))] h0 (fun v h L => v = some (.int (Own.N (ord (pq - 1)))) ∧ h = h0 ∧ L = []) := by
  refine Own.Met.of (plainFor_of_name (by first | (simp [plainName, overriddenIn]; done) | decide +kernel)) ?_
  intro p e s m below meth c T0 hx hby hml hown hnm hret hlk hZ X0 e0
  have hown : s.vm.findClass "com/example/frontrank/frontrank/OrderTree" = some m.cls := hown
  have hml : c.maxLocals = 2 := hml
  have hnm : meth.name = "item" := hnm
  have ef : entryFrame m #[(.ref t), (.int (Own.N (pq)))] 2 = mkF m 0 #[.val (.ref t), .val (.int (Own.N (pq)))] [] := by first | (simp [entryFrame, mkF, argsToLocals, Value.category]; done) | rfl
  rw [ef]
  obtain ⟨E_0, Fleaks_0, Fleaes_0, Finnks_0, Finnrs_0, FleaOf_0, Frooot_0, Fheiht_0, Fregar_0, Clb_0, Cib_0, Clo_0⟩ := S0
  refine Own.aloadN 1 X0 hx (hb hby d9_0) rfl rfl rfl ?_
  refine Own.getFld 4 X0 hx hZ hown (host := "") (Or.inl (w 12 rfl)) Via.refl e0 Fleaks_0 (hb hby d9_1) rfl ?_
  intro T1 X1 e1
  refine Own.aloadN 5 X1 hx (hb hby d9_4) rfl rfl rfl ?_
  refine Own.iloadN 6 X1 hx (hb hby d9_5) rfl rfl ?_
  refine Own.callPr 9 1 t [(.int (Own.N (pq)))] [(.ref lb)] X1 hx hZ hown (m8 l Z a0 w t lb ib lo _ _ _ _ _ _ _ _ n0 _ _ _ pq L n' B pre _ ⟨E_0, Fleaks_0, Fleaes_0, Finnks_0, Finnrs_0, FleaOf_0, Frooot_0, Fheiht_0, Fregar_0, Clb_0, Cib_0, Clo_0⟩ TT hq) E_0 (w 53 rfl) (w 55 rfl) (w 3 rfl) (w 54 rfl) (w 4 rfl) (w 56 rfl) (by decide) e1 (by decide) (by decide) (by decide) (by decide) (by rw [hml]; rfl) (lenOf pd_1 rfl) rfl (Nat.le_of_eq rfl) (hb hby d9_6) rfl ?_
  rintro vv T2 L2 X2 ⟨a2, rfl, pl2, hh2, rfl⟩
  obtain ⟨jj, kz, hj, hk1, hk2, ha⟩ := pl2
  obtain ⟨P, hB, hL1, hL2, hn', hT, hR, hzI, hzI2, hzL, hzL2⟩ := TT
  have pj := P.2.2 jj hj
  refine Own.nLoad 10 (Own.N (ord (pq - 1))) X2 hx hZ hh2 Clb_0 (by omega) (Own.at_ ha (hk1 ▸ ((Lf jj hj).2 kz hk2).1)) (hb hby d9_9) rfl ?_
  refine Own.retInt X2 hx hlk hret (hb hby d9_10) (by decide) (by decide) ?_
  exact ⟨rfl, hh2, rfl⟩
theorem d12_0 : decode prog_32_method_4_code 0 = .ok (.aload_n 0, 1) := by decide +kernel
theorem d12_1 : decode prog_32_method_4_code 1 = .ok (.getfield 26, 3) := by decide +kernel
theorem d12_4 : decode prog_32_method_4_code 4 = .ok (.iload_n 1, 1) := by decide +kernel
theorem d12_5 : decode prog_32_method_4_code 5 = .ok (.iaload, 1) := by decide +kernel
theorem d12_6 : decode prog_32_method_4_code 6 = .ok (.istore_n 2, 1) := by decide +kernel
theorem d12_7 : decode prog_32_method_4_code 7 = .ok (.aload_n 0, 1) := by decide +kernel
theorem d12_8 : decode prog_32_method_4_code 8 = .ok (.iload_n 1, 1) := by decide +kernel
theorem d12_9 : decode prog_32_method_4_code 9 = .ok (.invokevirtual 37, 3) := by decide +kernel
theorem d12_12 : decode prog_32_method_4_code 12 = .ok (.iload_n 2, 1) := by decide +kernel
theorem d12_13 : decode prog_32_method_4_code 13 = .ok (.bipush 64, 2) := by decide +kernel
theorem d12_15 : decode prog_32_method_4_code 15 = .ok (.imul, 1) := by decide +kernel
theorem d12_16 : decode prog_32_method_4_code 16 = .ok (.iconst 3, 1) := by decide +kernel
theorem d12_17 : decode prog_32_method_4_code 17 = .ok (.iadd, 1) := by decide +kernel
theorem d12_18 : decode prog_32_method_4_code 18 = .ok (.isub, 1) := by decide +kernel
theorem d12_19 : decode prog_32_method_4_code 19 = .ok (.iconst 1, 1) := by decide +kernel
theorem d12_20 : decode prog_32_method_4_code 20 = .ok (.iadd, 1) := by decide +kernel
theorem d12_21 : decode prog_32_method_4_code 21 = .ok (.istore_n 3, 1) := by decide +kernel
theorem d12_22 : decode prog_32_method_4_code 22 = .ok (.aload_n 0, 1) := by decide +kernel
theorem d12_23 : decode prog_32_method_4_code 23 = .ok (.getfield 40, 3) := by decide +kernel
theorem d12_26 : decode prog_32_method_4_code 26 = .ok (.ifCond .eq 13, 3) := by decide +kernel
theorem d12_29 : decode prog_32_method_4_code 29 = .ok (.iload_n 3, 1) := by decide +kernel
theorem d12_30 : decode prog_32_method_4_code 30 = .ok (.iload_n 2, 1) := by decide +kernel
theorem d12_31 : decode prog_32_method_4_code 31 = .ok (.bipush 30, 2) := by decide +kernel
theorem d12_33 : decode prog_32_method_4_code 33 = .ok (.imul, 1) := by decide +kernel
theorem d12_34 : decode prog_32_method_4_code 34 = .ok (.iadd, 1) := by decide +kernel
theorem d12_35 : decode prog_32_method_4_code 35 = .ok (.istore_n 3, 1) := by decide +kernel
theorem d12_36 : decode prog_32_method_4_code 36 = .ok (.goto 102, 3) := by decide +kernel
theorem d12_39 : decode prog_32_method_4_code 39 = .ok (.aload_n 0, 1) := by decide +kernel
theorem d12_40 : decode prog_32_method_4_code 40 = .ok (.getfield 19, 3) := by decide +kernel
theorem d12_43 : decode prog_32_method_4_code 43 = .ok (.iload_n 2, 1) := by decide +kernel
theorem d12_44 : decode prog_32_method_4_code 44 = .ok (.bipush 64, 2) := by decide +kernel
theorem d12_46 : decode prog_32_method_4_code 46 = .ok (.imul, 1) := by decide +kernel
theorem d12_47 : decode prog_32_method_4_code 47 = .ok (.iconst 0, 1) := by decide +kernel
theorem d12_48 : decode prog_32_method_4_code 48 = .ok (.iadd, 1) := by decide +kernel
theorem d12_49 : decode prog_32_method_4_code 49 = .ok (.iaload, 1) := by decide +kernel
theorem d12_50 : decode prog_32_method_4_code 50 = .ok (.istore 4, 2) := by decide +kernel
theorem d12_52 : decode prog_32_method_4_code 52 = .ok (.aload_n 0, 1) := by decide +kernel
theorem d12_53 : decode prog_32_method_4_code 53 = .ok (.getfield 19, 3) := by decide +kernel
theorem d12_56 : decode prog_32_method_4_code 56 = .ok (.iload_n 2, 1) := by decide +kernel
theorem d12_57 : decode prog_32_method_4_code 57 = .ok (.bipush 64, 2) := by decide +kernel
theorem d12_59 : decode prog_32_method_4_code 59 = .ok (.imul, 1) := by decide +kernel
theorem d12_60 : decode prog_32_method_4_code 60 = .ok (.iconst 1, 1) := by decide +kernel
theorem d12_61 : decode prog_32_method_4_code 61 = .ok (.iadd, 1) := by decide +kernel
theorem d12_62 : decode prog_32_method_4_code 62 = .ok (.iaload, 1) := by decide +kernel
theorem d12_63 : decode prog_32_method_4_code 63 = .ok (.istore 5, 2) := by decide +kernel
theorem d12_65 : decode prog_32_method_4_code 65 = .ok (.iload 4, 2) := by decide +kernel
theorem d12_67 : decode prog_32_method_4_code 67 = .ok (.iconst (-1), 1) := by decide +kernel
theorem d12_68 : decode prog_32_method_4_code 68 = .ok (.if_icmp .eq 70, 3) := by decide +kernel
theorem d12_71 : decode prog_32_method_4_code 71 = .ok (.iload 4, 2) := by decide +kernel
theorem d12_73 : decode prog_32_method_4_code 73 = .ok (.sipush 128, 3) := by decide +kernel
theorem d12_76 : decode prog_32_method_4_code 76 = .ok (.imul, 1) := by decide +kernel
theorem d12_77 : decode prog_32_method_4_code 77 = .ok (.istore 6, 2) := by decide +kernel
theorem d12_79 : decode prog_32_method_4_code 79 = .ok (.iload 6, 2) := by decide +kernel
theorem d12_81 : decode prog_32_method_4_code 81 = .ok (.iconst 3, 1) := by decide +kernel
theorem d12_82 : decode prog_32_method_4_code 82 = .ok (.iadd, 1) := by decide +kernel
theorem d12_83 : decode prog_32_method_4_code 83 = .ok (.istore 7, 2) := by decide +kernel
theorem d12_85 : decode prog_32_method_4_code 85 = .ok (.iload 7, 2) := by decide +kernel
theorem d12_87 : decode prog_32_method_4_code 87 = .ok (.iload 6, 2) := by decide +kernel
theorem d12_89 : decode prog_32_method_4_code 89 = .ok (.iconst 3, 1) := by decide +kernel
theorem d12_90 : decode prog_32_method_4_code 90 = .ok (.iadd, 1) := by decide +kernel
theorem d12_91 : decode prog_32_method_4_code 91 = .ok (.iload 5, 2) := by decide +kernel
theorem d12_93 : decode prog_32_method_4_code 93 = .ok (.iadd, 1) := by decide +kernel
theorem d12_94 : decode prog_32_method_4_code 94 = .ok (.if_icmp .ge 19, 3) := by decide +kernel
theorem d12_97 : decode prog_32_method_4_code 97 = .ok (.iload_n 3, 1) := by decide +kernel
theorem d12_98 : decode prog_32_method_4_code 98 = .ok (.aload_n 0, 1) := by decide +kernel
theorem d12_99 : decode prog_32_method_4_code 99 = .ok (.getfield 23, 3) := by decide +kernel
theorem d12_102 : decode prog_32_method_4_code 102 = .ok (.iload 7, 2) := by decide +kernel
theorem d12_104 : decode prog_32_method_4_code 104 = .ok (.iaload, 1) := by decide +kernel
theorem d12_105 : decode prog_32_method_4_code 105 = .ok (.iadd, 1) := by decide +kernel
theorem d12_106 : decode prog_32_method_4_code 106 = .ok (.istore_n 3, 1) := by decide +kernel
theorem d12_107 : decode prog_32_method_4_code 107 = .ok (.iinc 7 1, 3) := by decide +kernel
theorem d12_110 : decode prog_32_method_4_code 110 = .ok (.goto (-25), 3) := by decide +kernel
theorem d12_113 : decode prog_32_method_4_code 113 = .ok (.aload_n 0, 1) := by decide +kernel
theorem d12_114 : decode prog_32_method_4_code 114 = .ok (.getfield 23, 3) := by decide +kernel
theorem d12_117 : decode prog_32_method_4_code 117 = .ok (.iload 6, 2) := by decide +kernel
theorem d12_119 : decode prog_32_method_4_code 119 = .ok (.iconst 1, 1) := by decide +kernel
theorem d12_120 : decode prog_32_method_4_code 120 = .ok (.iadd, 1) := by decide +kernel
theorem d12_121 : decode prog_32_method_4_code 121 = .ok (.iaload, 1) := by decide +kernel
theorem d12_122 : decode prog_32_method_4_code 122 = .ok (.istore 5, 2) := by decide +kernel
theorem d12_124 : decode prog_32_method_4_code 124 = .ok (.aload_n 0, 1) := by decide +kernel
theorem d12_125 : decode prog_32_method_4_code 125 = .ok (.getfield 23, 3) := by decide +kernel
theorem d12_128 : decode prog_32_method_4_code 128 = .ok (.iload 6, 2) := by decide +kernel
theorem d12_130 : decode prog_32_method_4_code 130 = .ok (.iconst 0, 1) := by decide +kernel
theorem d12_131 : decode prog_32_method_4_code 131 = .ok (.iadd, 1) := by decide +kernel
theorem d12_132 : decode prog_32_method_4_code 132 = .ok (.iaload, 1) := by decide +kernel
theorem d12_133 : decode prog_32_method_4_code 133 = .ok (.istore 4, 2) := by decide +kernel
theorem d12_135 : decode prog_32_method_4_code 135 = .ok (.goto (-70), 3) := by decide +kernel
theorem d12_138 : decode prog_32_method_4_code 138 = .ok (.iload_n 3, 1) := by decide +kernel
theorem d12_139 : decode prog_32_method_4_code 139 = .ok (.ireturn, 1) := by decide +kernel
set_option maxRecDepth 65536 in
set_option maxHeartbeats 40000000 in
theorem m12 (l : Launch) (Z : State) (a0 : Array Value) (w : ∀ (i : Nat) {d : Jvm.Cond}, tables_1[i]? = some d → d.before a0 Z = true) (t : Addr) (lb ib lo : Addr) (lv inn rt ht rg zL zI zO n0 : Nat) (fL fI fO : Nat → Int32)(i q : Nat)(L n' B : Nat) (pre : Nat → Nat)(ord : Nat → Nat) (h0 : Heap) (S0 : own_S Z h0 t lb ib lo lv inn rt ht rg zL zI zO fL fI fO)(TT : own_T L n' B rt ht rg zL zI pre fL fI)(O : own_Or n' zO ord) (Lf : own_Lf L pre ord fL fO)(bz : zO < 1000000) (hq : q < n') (hi : ord q = i) :
    Own.Met l Z (⟨"com/example/frontrank/frontrank/OrderTree", "position", "(I)I"⟩ : MethodName) prog_32_method_4_code 8 (some .int) [] ({ frames := 1, cells := 0, slots := 0, locals := 14 } : Room) #[(.ref t), (.int (Own.N (i)))] h0 (fun v h L => v = some (.int (Own.N (q + 1))) ∧ h = h0 ∧ L = []) := by
  refine Own.Met.of (plainFor_of_name (by first | (simp [plainName, overriddenIn]; done) | decide +kernel)) ?_
  intro p e s m below meth c T0 hx hby hml hown hnm hret hlk hZ X0 e0
  have hown : s.vm.findClass "com/example/frontrank/frontrank/OrderTree" = some m.cls := hown
  have hml : c.maxLocals = 8 := hml
  have hnm : meth.name = "position" := hnm
  have ef : entryFrame m #[(.ref t), (.int (Own.N (i)))] 8 = mkF m 0 #[.val (.ref t), .val (.int (Own.N (i))), .unset, .unset, .unset, .unset, .unset, .unset] [] := by first | (simp [entryFrame, mkF, argsToLocals, Value.category]; done) | rfl
  rw [ef]
  obtain ⟨E_0, Fleaks_0, Fleaes_0, Finnks_0, Finnrs_0, FleaOf_0, Frooot_0, Fheiht_0, Fregar_0, Clb_0, Cib_0, Clo_0⟩ := S0
  have TT' := TT
  obtain ⟨P, hB, hL1, hL2, hn', hT, hR, hzI, hzI2, hzL, hzL2⟩ := TT
  have rb : rg ≤ 1 := by
    rcases hR with ⟨r, -⟩ | r <;> omega
  obtain ⟨jj, hj, f1, f2⟩ := own_find P hq
  have bd := own_bound P (j := jj + 1) (by omega)
  have p0 := P.1
  have pj := P.2.2 jj hj
  have hlf := (Lf jj hj).2 (q - pre jj) (by omega)
  rw [show pre jj + (q - pre jj) = q from by omega] at hlf
  have hoq := (O q hq).1
  have hlf2 := hlf.2
  rw [hi] at hlf2 hoq
  have J85 : ∀ (b cc a1 : Nat) (G : Nat → Nat) (hG : own_Gc fI b cc G) (h3 : G cc < 1000000) (bb : b < 8) (bc : cc < 62) (ba : a1 < 1000000) (KK : ∀ (ps en : Nat) (hps : ps = a1 + (G cc - G 0)) (Tq : State) (Xq : Stand p l e ({ frames := 1, cells := 0, slots := 0, locals := 14 } : Room) s m #[(.ref t), (.int (Own.N (i)))] below meth c Tq [] 0 0) (eqq : Tq.heap = h0), Own.Ends p.tables e below (fun v h L => v = some (.int (Own.N (q + 1))) ∧ h = h0 ∧ L = []) (Own.FE s ({ frames := 1, cells := 0, slots := 0, locals := 14 } : Room).cells ({ frames := 1, cells := 0, slots := 0, locals := 14 } : Room).slots) (Tq.setTop (mkF m 113 #[.val (.ref t), .val (.int (Own.N (i))), .val (.int (Own.N (jj))), .val (.int (Own.N (ps))), .val (.int (Own.N (b))), .val (.int (Own.N (cc))), .val (.int (Own.N (b * 128))), .val (.int (Own.N (en)))] []))) (kk sl ps en : Nat) (hs : sl ≤ cc) (hk : cc - sl < kk) (hps : ps = a1 + (G sl - G 0)) (he : en = b * 128 + 3 + sl) (Tq : State) (Xq : Stand p l e ({ frames := 1, cells := 0, slots := 0, locals := 14 } : Room) s m #[(.ref t), (.int (Own.N (i)))] below meth c Tq [] 0 0) (eqq : Tq.heap = h0), Own.Ends p.tables e below (fun v h L => v = some (.int (Own.N (q + 1))) ∧ h = h0 ∧ L = []) (Own.FE s ({ frames := 1, cells := 0, slots := 0, locals := 14 } : Room).cells ({ frames := 1, cells := 0, slots := 0, locals := 14 } : Room).slots) (Tq.setTop (mkF m 85 #[.val (.ref t), .val (.int (Own.N (i))), .val (.int (Own.N (jj))), .val (.int (Own.N (ps))), .val (.int (Own.N (b))), .val (.int (Own.N (cc))), .val (.int (Own.N (b * 128))), .val (.int (Own.N (en)))] [])) := by
    intro b cc a1 G hG h3 bb bc ba KK kk
    induction kk with
    | zero => intros; exfalso; omega
    | succ kk ih =>
      intro sl ps en hs hk hps he Tq Xq eqq
      obtain ⟨q1, q2, q3⟩ := hG sl hs
      refine Own.iload 87 Xq hx (hb hby d12_85) rfl rfl ?_
      refine Own.iload 89 Xq hx (hb hby d12_87) rfl rfl ?_
      refine Own.iconst 90 Xq hx (Own.N 3) (hb hby d12_89) rfl rfl ?_
      refine Own.iadd 91 Xq hx (hb hby d12_90) rfl (Own.N_add _ _) ?_
      refine Own.iload 93 Xq hx (hb hby d12_91) rfl rfl ?_
      refine Own.iadd 94 Xq hx (hb hby d12_93) rfl (Own.N_add _ _) ?_
      refine Own.nicmp_ge 113 97 Xq hx (hb hby d12_94) (by decide) rfl (by omega) (by omega) (fun tk => ?_) (fun tk => ?_)
      ·
        obtain rfl : sl = cc := by omega
        exact KK ps en hps _ Xq eqq
      ·
        have q4 := (hG (sl + 1) (by omega)).2.2
        have q5 : G 0 ≤ G sl := by
          clear KK ih
          have key : ∀ z, z ≤ cc → G 0 ≤ G z := by
            intro z
            induction z with
            | zero => intro _; exact Nat.le_refl _
            | succ z iz => intro hz; have := iz (by omega); have := (hG z (by omega)).2.1; omega
          exact key sl hs
        refine Own.iloadN 98 Xq hx (hb hby d12_97) rfl rfl ?_
        refine Own.aloadN 99 Xq hx (hb hby d12_98) rfl rfl rfl ?_
        refine Own.getFld 102 Xq hx hZ hown (host := "") (Or.inl (w 14 rfl)) Via.refl eqq Finnks_0 (hb hby d12_99) rfl ?_
        intro T1 X1 e1
        refine Own.iload 104 X1 hx (hb hby d12_102) rfl rfl ?_
        refine Own.nLoad 105 (Own.N (G (sl + 1) - G sl)) X1 hx hZ e1 Cib_0 (by omega) (Own.at_ he q1) (hb hby d12_104) rfl ?_
        refine Own.iadd 106 X1 hx (hb hby d12_105) rfl (Own.N_add _ _) ?_
        refine Own.istoreNV 107 #[.val (.ref t), .val (.int (Own.N (i))), .val (.int (Own.N (jj))), .val (.int (Own.N (ps + (G (sl + 1) - G sl)))), .val (.int (Own.N (b))), .val (.int (Own.N (cc))), .val (.int (Own.N (b * 128))), .val (.int (Own.N (en)))] X1 hx (hb hby d12_106) rfl rfl ?_
        refine Own.iinc 110 (fun c_2 => #[.val (.ref t), .val (.int (Own.N (i))), .val (.int (Own.N (jj))), .val (.int (Own.N (ps + (G (sl + 1) - G sl)))), .val (.int (Own.N (b))), .val (.int (Own.N (cc))), .val (.int (Own.N (b * 128))), .val (.int c_2)]) X1 hx (Own.N 1) (hb hby d12_107) rfl rfl rfl (fun _ => rfl) fun c_2 hc_2 => ?_
        obtain rfl : c_2 = Own.N (en + 1) := hc_2.trans (Own.N_add _ _)
        refine Own.goto 85 X1 hx (hb hby d12_110) (by decide) ?_
        exact ih (sl + 1) _ _ (by omega) (by omega) (by omega) (by omega) _ X1 e1
  refine Own.aloadN 1 X0 hx (hb hby d12_0) rfl rfl rfl ?_
  refine Own.getFld 4 X0 hx hZ hown (host := "") (Or.inl (w 16 rfl)) Via.refl e0 FleaOf_0 (hb hby d12_1) rfl ?_
  intro T3 X3 e3
  refine Own.iloadN 5 X3 hx (hb hby d12_4) rfl rfl ?_
  refine Own.nLoad 6 (Own.N (jj)) X3 hx hZ e3 Clo_0 (by omega) hlf2 (hb hby d12_5) rfl ?_
  refine Own.istoreNV 7 #[.val (.ref t), .val (.int (Own.N (i))), .val (.int (Own.N (jj))), .unset, .unset, .unset, .unset, .unset] X3 hx (hb hby d12_6) rfl rfl ?_
  refine Own.aloadN 8 X3 hx (hb hby d12_7) rfl rfl rfl ?_
  refine Own.iloadN 9 X3 hx (hb hby d12_8) rfl rfl ?_
  refine Own.callPr 12 0 t [(.int (Own.N (i)))] [] X3 hx hZ hown (m13 l Z a0 w t lb ib lo _ _ _ _ _ _ _ _ n0 _ _ _ i jj (q - pre jj) (fun s => ord (pre jj + s)) _ ⟨E_0, Fleaks_0, Fleaes_0, Finnks_0, Finnrs_0, FleaOf_0, Frooot_0, Fheiht_0, Fregar_0, Clb_0, Cib_0, Clo_0⟩ (by omega) (by omega) (by omega) (by omega) (by omega) hlf2 (fun s hs => ⟨((Lf jj hj).2 s (by omega)).1, fun hs2 r => absurd ((O _ (by omega)).2 q hq (r.trans hi.symm)) (by omega), by have := (O (pre jj + s) (by omega)).1; show ord (pre jj + s) < 1000000; omega⟩) (by show ord (pre jj + (q - pre jj)) = i; rw [show pre jj + (q - pre jj) = q from by omega]; exact hi)) E_0 (w 74 rfl) (w 76 rfl) (w 3 rfl) (w 75 rfl) (w 4 rfl) (w 77 rfl) (by decide) e3 (by decide) (by decide) (by decide) (by decide) (by rw [hml]; rfl) (lenOf pd_1 rfl) rfl (Nat.le_of_eq rfl) (hb hby d12_9) rfl ?_
  rintro vv T4 L4 X4 ⟨rfl, hh4, rfl⟩
  refine Own.iloadN 13 X4 hx (hb hby d12_12) rfl rfl ?_
  refine Own.bipush 15 X4 hx (Own.N 64) (hb hby d12_13) rfl rfl ?_
  refine Own.imul 16 X4 hx (hb hby d12_15) rfl (Own.N_mul _ _) ?_
  refine Own.iconst 17 X4 hx (Own.N 3) (hb hby d12_16) rfl rfl ?_
  refine Own.iadd 18 X4 hx (hb hby d12_17) rfl (Own.N_add _ _) ?_
  refine Own.isub 19 X4 hx (hb hby d12_18) rfl (Own.N_sub (by omega)) ?_
  refine Own.iconst 20 X4 hx (Own.N 1) (hb hby d12_19) rfl rfl ?_
  refine Own.iadd 21 X4 hx (hb hby d12_20) rfl (Own.N_add _ _) ?_
  refine Own.istoreNV 22 #[.val (.ref t), .val (.int (Own.N (i))), .val (.int (Own.N (jj))), .val (.int (Own.N (((jj * 64 + 3 + (q - pre jj)) - ((jj * 64) + 3)) + 1))), .unset, .unset, .unset, .unset] X4 hx (hb hby d12_21) rfl rfl ?_
  refine Own.aloadN 23 X4 hx (hb hby d12_22) rfl rfl rfl ?_
  refine Own.getFld 26 X4 hx hZ hown (host := "") (Or.inl (w 46 rfl)) Via.refl hh4 Fregar_0 (hb hby d12_23) rfl ?_
  intro T5 X5 e5
  refine Own.nif_eq 39 29 X5 hx (hb hby d12_26) (by decide) rfl (by omega) (fun g1 => ?_) (fun g1 => ?_)
  ·
    rcases hT with ⟨rfl, H⟩ | ⟨rfl, V, nd, H⟩
    ·
      obtain ⟨u1, u2, u3, u4⟩ := H.2.2.2.2 jj hj
      have b8 := H.2.1
      have l62 := H.1
      refine Own.aloadN 40 X5 hx (hb hby d12_39) rfl rfl rfl ?_
      refine Own.getFld 43 X5 hx hZ hown (host := "") (Or.inl (w 12 rfl)) Via.refl e5 Fleaks_0 (hb hby d12_40) rfl ?_
      intro T6 X6 e6
      refine Own.iloadN 44 X6 hx (hb hby d12_43) rfl rfl ?_
      refine Own.bipush 46 X6 hx (Own.N 64) (hb hby d12_44) rfl rfl ?_
      refine Own.imul 47 X6 hx (hb hby d12_46) rfl (Own.N_mul _ _) ?_
      refine Own.iconst 48 X6 hx (Own.N 0) (hb hby d12_47) rfl rfl ?_
      refine Own.iadd 49 X6 hx (hb hby d12_48) rfl (Own.N_add _ _) ?_
      refine Own.nLoad 50 (Own.N (rt)) X6 hx hZ e6 Clb_0 (by omega) u1 (hb hby d12_49) rfl ?_
      refine Own.istoreV 52 #[.val (.ref t), .val (.int (Own.N (i))), .val (.int (Own.N (jj))), .val (.int (Own.N (((jj * 64 + 3 + (q - pre jj)) - ((jj * 64) + 3)) + 1))), .val (.int (Own.N (rt))), .unset, .unset, .unset] X6 hx (hb hby d12_50) rfl rfl ?_
      refine Own.aloadN 53 X6 hx (hb hby d12_52) rfl rfl rfl ?_
      refine Own.getFld 56 X6 hx hZ hown (host := "") (Or.inl (w 12 rfl)) Via.refl e6 Fleaks_0 (hb hby d12_53) rfl ?_
      intro T7 X7 e7
      refine Own.iloadN 57 X7 hx (hb hby d12_56) rfl rfl ?_
      refine Own.bipush 59 X7 hx (Own.N 64) (hb hby d12_57) rfl rfl ?_
      refine Own.imul 60 X7 hx (hb hby d12_59) rfl (Own.N_mul _ _) ?_
      refine Own.iconst 61 X7 hx (Own.N 1) (hb hby d12_60) rfl rfl ?_
      refine Own.iadd 62 X7 hx (hb hby d12_61) rfl (Own.N_add _ _) ?_
      refine Own.nLoad 63 (Own.N (jj)) X7 hx hZ e7 Clb_0 (by omega) u2 (hb hby d12_62) rfl ?_
      refine Own.istoreV 65 #[.val (.ref t), .val (.int (Own.N (i))), .val (.int (Own.N (jj))), .val (.int (Own.N (((jj * 64 + 3 + (q - pre jj)) - ((jj * 64) + 3)) + 1))), .val (.int (Own.N (rt))), .val (.int (Own.N (jj))), .unset, .unset] X7 hx (hb hby d12_63) rfl rfl ?_
      refine Own.iload 67 X7 hx (hb hby d12_65) rfl rfl ?_
      refine Own.iconst 68 X7 hx ((-1 : Int32)) (hb hby d12_67) rfl rfl ?_
      refine Own.icmp_eq 138 71 X7 hx (hb hby d12_68) (by decide) rfl (fun tk => absurd tk (Own.N_ne1 (by omega))) (fun tk => ?_)
      refine Own.iload 73 X7 hx (hb hby d12_71) rfl rfl ?_
      refine Own.sipush 76 X7 hx (Own.N 128) (hb hby d12_73) rfl rfl ?_
      refine Own.imul 77 X7 hx (hb hby d12_76) rfl (Own.N_mul _ _) ?_
      refine Own.istoreV 79 #[.val (.ref t), .val (.int (Own.N (i))), .val (.int (Own.N (jj))), .val (.int (Own.N (((jj * 64 + 3 + (q - pre jj)) - ((jj * 64) + 3)) + 1))), .val (.int (Own.N (rt))), .val (.int (Own.N (jj))), .val (.int (Own.N (rt * 128))), .unset] X7 hx (hb hby d12_77) rfl rfl ?_
      refine Own.iload 81 X7 hx (hb hby d12_79) rfl rfl ?_
      refine Own.iconst 82 X7 hx (Own.N 3) (hb hby d12_81) rfl rfl ?_
      refine Own.iadd 83 X7 hx (hb hby d12_82) rfl (Own.N_add _ _) ?_
      refine Own.istoreV 85 #[.val (.ref t), .val (.int (Own.N (i))), .val (.int (Own.N (jj))), .val (.int (Own.N (((jj * 64 + 3 + (q - pre jj)) - ((jj * 64) + 3)) + 1))), .val (.int (Own.N (rt))), .val (.int (Own.N (jj))), .val (.int (Own.N (rt * 128))), .val (.int (Own.N ((rt * 128) + 3)))] X7 hx (hb hby d12_83) rfl rfl ?_
      refine J85 rt jj (((jj * 64 + 3 + (q - pre jj)) - ((jj * 64) + 3)) + 1) pre (own_G1 P H hj) (by omega) b8 (by omega) (by omega) ?_ (jj + 1) 0 _ _ (by omega) (by omega) (by omega) (by omega) _ X7 e7
      intro ps en hps Tq Xq eqq
      refine Own.aloadN 114 Xq hx (hb hby d12_113) rfl rfl rfl ?_
      refine Own.getFld 117 Xq hx hZ hown (host := "") (Or.inl (w 14 rfl)) Via.refl eqq Finnks_0 (hb hby d12_114) rfl ?_
      intro T8 X8 e8
      refine Own.iload 119 X8 hx (hb hby d12_117) rfl rfl ?_
      refine Own.iconst 120 X8 hx (Own.N 1) (hb hby d12_119) rfl rfl ?_
      refine Own.iadd 121 X8 hx (hb hby d12_120) rfl (Own.N_add _ _) ?_
      refine Own.nLoad 122 ((fI (rt * 128 + 1))) X8 hx hZ e8 Cib_0 (by omega) rfl (hb hby d12_121) rfl ?_
      refine Own.istoreV 124 #[.val (.ref t), .val (.int (Own.N (i))), .val (.int (Own.N (jj))), .val (.int (Own.N (ps))), .val (.int (Own.N (rt))), .val (.int (fI (rt * 128 + 1))), .val (.int (Own.N (rt * 128))), .val (.int (Own.N (en)))] X8 hx (hb hby d12_122) rfl rfl ?_
      refine Own.aloadN 125 X8 hx (hb hby d12_124) rfl rfl rfl ?_
      refine Own.getFld 128 X8 hx hZ hown (host := "") (Or.inl (w 14 rfl)) Via.refl e8 Finnks_0 (hb hby d12_125) rfl ?_
      intro T9 X9 e9
      refine Own.iload 130 X9 hx (hb hby d12_128) rfl rfl ?_
      refine Own.iconst 131 X9 hx (Own.N 0) (hb hby d12_130) rfl rfl ?_
      refine Own.iadd 132 X9 hx (hb hby d12_131) rfl (Own.N_add _ _) ?_
      refine Own.nLoad 133 ((-1 : Int32)) X9 hx hZ e9 Cib_0 (by omega) H.2.2.1 (hb hby d12_132) rfl ?_
      refine Own.istoreV 135 #[.val (.ref t), .val (.int (Own.N (i))), .val (.int (Own.N (jj))), .val (.int (Own.N (ps))), .val (.int (-1 : Int32)), .val (.int (fI (rt * 128 + 1))), .val (.int (Own.N (rt * 128))), .val (.int (Own.N (en)))] X9 hx (hb hby d12_133) rfl rfl ?_
      refine Own.goto 65 X9 hx (hb hby d12_135) (by decide) ?_
      refine Own.iload 67 X9 hx (hb hby d12_65) rfl rfl ?_
      refine Own.iconst 68 X9 hx ((-1 : Int32)) (hb hby d12_67) rfl rfl ?_
      refine Own.icmp_eq 138 71 X9 hx (hb hby d12_68) (by decide) rfl (fun tk => ?_) (fun tk => absurd rfl tk)
      refine Own.iloadN 139 X9 hx (hb hby d12_138) rfl rfl ?_
      refine Own.retInt X9 hx hlk hret (hb hby d12_139) (by decide) (by decide) ?_
      exact ⟨by rw [show ps = q + 1 from by omega], e9, rfl⟩
    ·
      obtain ⟨G1, G2, G3, G4, G5, G6, G7⟩ := own_gr_in P hj
      have b8 := H.2.2.2.1
      have hV := H.1
      have hV5 := H.2.2.1
      obtain ⟨d1, d2, d3, d4, d5, d6, d7⟩ := H.2.2.2.2.2.2.1 (jj / 31) (by omega)
      obtain ⟨u1, u2, u3, u4⟩ := H.2.2.2.2.2.2.2.2 jj hj
      refine Own.aloadN 40 X5 hx (hb hby d12_39) rfl rfl rfl ?_
      refine Own.getFld 43 X5 hx hZ hown (host := "") (Or.inl (w 12 rfl)) Via.refl e5 Fleaks_0 (hb hby d12_40) rfl ?_
      intro T10 X10 e10
      refine Own.iloadN 44 X10 hx (hb hby d12_43) rfl rfl ?_
      refine Own.bipush 46 X10 hx (Own.N 64) (hb hby d12_44) rfl rfl ?_
      refine Own.imul 47 X10 hx (hb hby d12_46) rfl (Own.N_mul _ _) ?_
      refine Own.iconst 48 X10 hx (Own.N 0) (hb hby d12_47) rfl rfl ?_
      refine Own.iadd 49 X10 hx (hb hby d12_48) rfl (Own.N_add _ _) ?_
      refine Own.nLoad 50 (Own.N (nd (jj / 31))) X10 hx hZ e10 Clb_0 (by omega) u1 (hb hby d12_49) rfl ?_
      refine Own.istoreV 52 #[.val (.ref t), .val (.int (Own.N (i))), .val (.int (Own.N (jj))), .val (.int (Own.N (((jj * 64 + 3 + (q - pre jj)) - ((jj * 64) + 3)) + 1))), .val (.int (Own.N (nd (jj / 31)))), .unset, .unset, .unset] X10 hx (hb hby d12_50) rfl rfl ?_
      refine Own.aloadN 53 X10 hx (hb hby d12_52) rfl rfl rfl ?_
      refine Own.getFld 56 X10 hx hZ hown (host := "") (Or.inl (w 12 rfl)) Via.refl e10 Fleaks_0 (hb hby d12_53) rfl ?_
      intro T11 X11 e11
      refine Own.iloadN 57 X11 hx (hb hby d12_56) rfl rfl ?_
      refine Own.bipush 59 X11 hx (Own.N 64) (hb hby d12_57) rfl rfl ?_
      refine Own.imul 60 X11 hx (hb hby d12_59) rfl (Own.N_mul _ _) ?_
      refine Own.iconst 61 X11 hx (Own.N 1) (hb hby d12_60) rfl rfl ?_
      refine Own.iadd 62 X11 hx (hb hby d12_61) rfl (Own.N_add _ _) ?_
      refine Own.nLoad 63 (Own.N (jj % 31)) X11 hx hZ e11 Clb_0 (by omega) u2 (hb hby d12_62) rfl ?_
      refine Own.istoreV 65 #[.val (.ref t), .val (.int (Own.N (i))), .val (.int (Own.N (jj))), .val (.int (Own.N (((jj * 64 + 3 + (q - pre jj)) - ((jj * 64) + 3)) + 1))), .val (.int (Own.N (nd (jj / 31)))), .val (.int (Own.N (jj % 31))), .unset, .unset] X11 hx (hb hby d12_63) rfl rfl ?_
      refine Own.iload 67 X11 hx (hb hby d12_65) rfl rfl ?_
      refine Own.iconst 68 X11 hx ((-1 : Int32)) (hb hby d12_67) rfl rfl ?_
      refine Own.icmp_eq 138 71 X11 hx (hb hby d12_68) (by decide) rfl (fun tk => absurd tk (Own.N_ne1 (by omega))) (fun tk => ?_)
      refine Own.iload 73 X11 hx (hb hby d12_71) rfl rfl ?_
      refine Own.sipush 76 X11 hx (Own.N 128) (hb hby d12_73) rfl rfl ?_
      refine Own.imul 77 X11 hx (hb hby d12_76) rfl (Own.N_mul _ _) ?_
      refine Own.istoreV 79 #[.val (.ref t), .val (.int (Own.N (i))), .val (.int (Own.N (jj))), .val (.int (Own.N (((jj * 64 + 3 + (q - pre jj)) - ((jj * 64) + 3)) + 1))), .val (.int (Own.N (nd (jj / 31)))), .val (.int (Own.N (jj % 31))), .val (.int (Own.N ((nd (jj / 31)) * 128))), .unset] X11 hx (hb hby d12_77) rfl rfl ?_
      refine Own.iload 81 X11 hx (hb hby d12_79) rfl rfl ?_
      refine Own.iconst 82 X11 hx (Own.N 3) (hb hby d12_81) rfl rfl ?_
      refine Own.iadd 83 X11 hx (hb hby d12_82) rfl (Own.N_add _ _) ?_
      refine Own.istoreV 85 #[.val (.ref t), .val (.int (Own.N (i))), .val (.int (Own.N (jj))), .val (.int (Own.N (((jj * 64 + 3 + (q - pre jj)) - ((jj * 64) + 3)) + 1))), .val (.int (Own.N (nd (jj / 31)))), .val (.int (Own.N (jj % 31))), .val (.int (Own.N ((nd (jj / 31)) * 128))), .val (.int (Own.N (((nd (jj / 31)) * 128) + 3)))] X11 hx (hb hby d12_83) rfl rfl ?_
      refine J85 (nd (jj / 31)) (jj % 31) (((jj * 64 + 3 + (q - pre jj)) - ((jj * 64) + 3)) + 1) (own_gn pre (jj / 31)) (own_G2n P H (by omega) (by omega)) (by omega) d2 (by omega) (by omega) ?_ (jj % 31 + 1) 0 _ _ (by omega) (by omega) (by omega) (by omega) _ X11 e11
      intro ps en hps Tq Xq eqq
      refine Own.aloadN 114 Xq hx (hb hby d12_113) rfl rfl rfl ?_
      refine Own.getFld 117 Xq hx hZ hown (host := "") (Or.inl (w 14 rfl)) Via.refl eqq Finnks_0 (hb hby d12_114) rfl ?_
      intro T12 X12 e12
      refine Own.iload 119 X12 hx (hb hby d12_117) rfl rfl ?_
      refine Own.iconst 120 X12 hx (Own.N 1) (hb hby d12_119) rfl rfl ?_
      refine Own.iadd 121 X12 hx (hb hby d12_120) rfl (Own.N_add _ _) ?_
      refine Own.nLoad 122 (Own.N (jj / 31)) X12 hx hZ e12 Cib_0 (by omega) d4 (hb hby d12_121) rfl ?_
      refine Own.istoreV 124 #[.val (.ref t), .val (.int (Own.N (i))), .val (.int (Own.N (jj))), .val (.int (Own.N (ps))), .val (.int (Own.N (nd (jj / 31)))), .val (.int (Own.N (jj / 31))), .val (.int (Own.N ((nd (jj / 31)) * 128))), .val (.int (Own.N (en)))] X12 hx (hb hby d12_122) rfl rfl ?_
      refine Own.aloadN 125 X12 hx (hb hby d12_124) rfl rfl rfl ?_
      refine Own.getFld 128 X12 hx hZ hown (host := "") (Or.inl (w 14 rfl)) Via.refl e12 Finnks_0 (hb hby d12_125) rfl ?_
      intro T13 X13 e13
      refine Own.iload 130 X13 hx (hb hby d12_128) rfl rfl ?_
      refine Own.iconst 131 X13 hx (Own.N 0) (hb hby d12_130) rfl rfl ?_
      refine Own.iadd 132 X13 hx (hb hby d12_131) rfl (Own.N_add _ _) ?_
      refine Own.nLoad 133 (Own.N (rt)) X13 hx hZ e13 Cib_0 (by omega) d3 (hb hby d12_132) rfl ?_
      refine Own.istoreV 135 #[.val (.ref t), .val (.int (Own.N (i))), .val (.int (Own.N (jj))), .val (.int (Own.N (ps))), .val (.int (Own.N (rt))), .val (.int (Own.N (jj / 31))), .val (.int (Own.N ((nd (jj / 31)) * 128))), .val (.int (Own.N (en)))] X13 hx (hb hby d12_133) rfl rfl ?_
      refine Own.goto 65 X13 hx (hb hby d12_135) (by decide) ?_
      refine Own.iload 67 X13 hx (hb hby d12_65) rfl rfl ?_
      refine Own.iconst 68 X13 hx ((-1 : Int32)) (hb hby d12_67) rfl rfl ?_
      refine Own.icmp_eq 138 71 X13 hx (hb hby d12_68) (by decide) rfl (fun tk => absurd tk (Own.N_ne1 (by omega))) (fun tk => ?_)
      refine Own.iload 73 X13 hx (hb hby d12_71) rfl rfl ?_
      refine Own.sipush 76 X13 hx (Own.N 128) (hb hby d12_73) rfl rfl ?_
      refine Own.imul 77 X13 hx (hb hby d12_76) rfl (Own.N_mul _ _) ?_
      refine Own.istoreV 79 #[.val (.ref t), .val (.int (Own.N (i))), .val (.int (Own.N (jj))), .val (.int (Own.N (ps))), .val (.int (Own.N (rt))), .val (.int (Own.N (jj / 31))), .val (.int (Own.N (rt * 128))), .val (.int (Own.N (en)))] X13 hx (hb hby d12_77) rfl rfl ?_
      refine Own.iload 81 X13 hx (hb hby d12_79) rfl rfl ?_
      refine Own.iconst 82 X13 hx (Own.N 3) (hb hby d12_81) rfl rfl ?_
      refine Own.iadd 83 X13 hx (hb hby d12_82) rfl (Own.N_add _ _) ?_
      refine Own.istoreV 85 #[.val (.ref t), .val (.int (Own.N (i))), .val (.int (Own.N (jj))), .val (.int (Own.N (ps))), .val (.int (Own.N (rt))), .val (.int (Own.N (jj / 31))), .val (.int (Own.N (rt * 128))), .val (.int (Own.N ((rt * 128) + 3)))] X13 hx (hb hby d12_83) rfl rfl ?_
      refine J85 rt (jj / 31) ps (own_gr L pre) (own_G2r P H (by omega)) (by omega) b8 (by omega) (by omega) ?_ (jj / 31 + 1) 0 _ _ (by omega) (by omega) (by omega) (by omega) _ X13 e13
      intro ps' en' hps' Tq Xq eqq
      refine Own.aloadN 114 Xq hx (hb hby d12_113) rfl rfl rfl ?_
      refine Own.getFld 117 Xq hx hZ hown (host := "") (Or.inl (w 14 rfl)) Via.refl eqq Finnks_0 (hb hby d12_114) rfl ?_
      intro T14 X14 e14
      refine Own.iload 119 X14 hx (hb hby d12_117) rfl rfl ?_
      refine Own.iconst 120 X14 hx (Own.N 1) (hb hby d12_119) rfl rfl ?_
      refine Own.iadd 121 X14 hx (hb hby d12_120) rfl (Own.N_add _ _) ?_
      refine Own.nLoad 122 ((fI (rt * 128 + 1))) X14 hx hZ e14 Cib_0 (by omega) rfl (hb hby d12_121) rfl ?_
      refine Own.istoreV 124 #[.val (.ref t), .val (.int (Own.N (i))), .val (.int (Own.N (jj))), .val (.int (Own.N (ps'))), .val (.int (Own.N (rt))), .val (.int (fI (rt * 128 + 1))), .val (.int (Own.N (rt * 128))), .val (.int (Own.N (en')))] X14 hx (hb hby d12_122) rfl rfl ?_
      refine Own.aloadN 125 X14 hx (hb hby d12_124) rfl rfl rfl ?_
      refine Own.getFld 128 X14 hx hZ hown (host := "") (Or.inl (w 14 rfl)) Via.refl e14 Finnks_0 (hb hby d12_125) rfl ?_
      intro T15 X15 e15
      refine Own.iload 130 X15 hx (hb hby d12_128) rfl rfl ?_
      refine Own.iconst 131 X15 hx (Own.N 0) (hb hby d12_130) rfl rfl ?_
      refine Own.iadd 132 X15 hx (hb hby d12_131) rfl (Own.N_add _ _) ?_
      refine Own.nLoad 133 ((-1 : Int32)) X15 hx hZ e15 Cib_0 (by omega) H.2.2.2.2.1 (hb hby d12_132) rfl ?_
      refine Own.istoreV 135 #[.val (.ref t), .val (.int (Own.N (i))), .val (.int (Own.N (jj))), .val (.int (Own.N (ps'))), .val (.int (-1 : Int32)), .val (.int (fI (rt * 128 + 1))), .val (.int (Own.N (rt * 128))), .val (.int (Own.N (en')))] X15 hx (hb hby d12_133) rfl rfl ?_
      refine Own.goto 65 X15 hx (hb hby d12_135) (by decide) ?_
      refine Own.iload 67 X15 hx (hb hby d12_65) rfl rfl ?_
      refine Own.iconst 68 X15 hx ((-1 : Int32)) (hb hby d12_67) rfl rfl ?_
      refine Own.icmp_eq 138 71 X15 hx (hb hby d12_68) (by decide) rfl (fun tk => ?_) (fun tk => absurd rfl tk)
      refine Own.iloadN 139 X15 hx (hb hby d12_138) rfl rfl ?_
      refine Own.retInt X15 hx hlk hret (hb hby d12_139) (by decide) (by decide) ?_
      exact ⟨by rw [show ps' = q + 1 from by omega], e15, rfl⟩
  ·
    obtain ⟨-, hr⟩ : rg = 1 ∧ ∀ j, j ≤ L → pre j = min (30 * j) n' := by
      rcases hR with r | r
      · exact r
      · exact absurd r g1
    have p3 := hr jj (by omega)
    refine Own.iloadN 30 X5 hx (hb hby d12_29) rfl rfl ?_
    refine Own.iloadN 31 X5 hx (hb hby d12_30) rfl rfl ?_
    refine Own.bipush 33 X5 hx (Own.N 30) (hb hby d12_31) rfl rfl ?_
    refine Own.imul 34 X5 hx (hb hby d12_33) rfl (Own.N_mul _ _) ?_
    refine Own.iadd 35 X5 hx (hb hby d12_34) rfl (Own.N_add _ _) ?_
    refine Own.istoreNV 36 #[.val (.ref t), .val (.int (Own.N (i))), .val (.int (Own.N (jj))), .val (.int (Own.N ((((jj * 64 + 3 + (q - pre jj)) - ((jj * 64) + 3)) + 1) + (jj * 30)))), .unset, .unset, .unset, .unset] X5 hx (hb hby d12_35) rfl rfl ?_
    refine Own.goto 138 X5 hx (hb hby d12_36) (by decide) ?_
    refine Own.iloadN 139 X5 hx (hb hby d12_138) rfl rfl ?_
    refine Own.retInt X5 hx hlk hret (hb hby d12_139) (by decide) (by decide) ?_
    exact ⟨by rw [show (((jj * 64 + 3 + (q - pre jj)) - ((jj * 64) + 3)) + 1) + (jj * 30) = q + 1 from by omega], e5, rfl⟩
theorem d7_0 : decode prog_32_method_6_code 0 = .ok (.aload_n 1, 1) := by decide +kernel
theorem d7_1 : decode prog_32_method_6_code 1 = .ok (.arraylength, 1) := by decide +kernel
theorem d7_2 : decode prog_32_method_6_code 2 = .ok (.istore_n 2, 1) := by decide +kernel
theorem d7_3 : decode prog_32_method_6_code 3 = .ok (.iload_n 2, 1) := by decide +kernel
theorem d7_4 : decode prog_32_method_6_code 4 = .ok (.newarray .int, 2) := by decide +kernel
theorem d7_6 : decode prog_32_method_6_code 6 = .ok (.astore_n 3, 1) := by decide +kernel
theorem d7_7 : decode prog_32_method_6_code 7 = .ok (.iload_n 2, 1) := by decide +kernel
theorem d7_8 : decode prog_32_method_6_code 8 = .ok (.newarray .int, 2) := by decide +kernel
theorem d7_10 : decode prog_32_method_6_code 10 = .ok (.astore 4, 2) := by decide +kernel
theorem d7_12 : decode prog_32_method_6_code 12 = .ok (.iconst 0, 1) := by decide +kernel
theorem d7_13 : decode prog_32_method_6_code 13 = .ok (.istore 5, 2) := by decide +kernel
theorem d7_15 : decode prog_32_method_6_code 15 = .ok (.iload 5, 2) := by decide +kernel
theorem d7_17 : decode prog_32_method_6_code 17 = .ok (.iload_n 2, 1) := by decide +kernel
theorem d7_18 : decode prog_32_method_6_code 18 = .ok (.if_icmp .ge 35, 3) := by decide +kernel
theorem d7_21 : decode prog_32_method_6_code 21 = .ok (.aload_n 3, 1) := by decide +kernel
theorem d7_22 : decode prog_32_method_6_code 22 = .ok (.iload 5, 2) := by decide +kernel
theorem d7_24 : decode prog_32_method_6_code 24 = .ok (.aload_n 0, 1) := by decide +kernel
theorem d7_25 : decode prog_32_method_6_code 25 = .ok (.aload_n 1, 1) := by decide +kernel
theorem d7_26 : decode prog_32_method_6_code 26 = .ok (.iload 5, 2) := by decide +kernel
theorem d7_28 : decode prog_32_method_6_code 28 = .ok (.iaload, 1) := by decide +kernel
theorem d7_29 : decode prog_32_method_6_code 29 = .ok (.invokevirtual 33, 3) := by decide +kernel
theorem d7_32 : decode prog_32_method_6_code 32 = .ok (.iastore, 1) := by decide +kernel
theorem d7_33 : decode prog_32_method_6_code 33 = .ok (.aload 4, 2) := by decide +kernel
theorem d7_35 : decode prog_32_method_6_code 35 = .ok (.iload 5, 2) := by decide +kernel
theorem d7_37 : decode prog_32_method_6_code 37 = .ok (.aload_n 0, 1) := by decide +kernel
theorem d7_38 : decode prog_32_method_6_code 38 = .ok (.getfield 19, 3) := by decide +kernel
theorem d7_41 : decode prog_32_method_6_code 41 = .ok (.aload_n 3, 1) := by decide +kernel
theorem d7_42 : decode prog_32_method_6_code 42 = .ok (.iload 5, 2) := by decide +kernel
theorem d7_44 : decode prog_32_method_6_code 44 = .ok (.iaload, 1) := by decide +kernel
theorem d7_45 : decode prog_32_method_6_code 45 = .ok (.iaload, 1) := by decide +kernel
theorem d7_46 : decode prog_32_method_6_code 46 = .ok (.iastore, 1) := by decide +kernel
theorem d7_47 : decode prog_32_method_6_code 47 = .ok (.iinc 5 1, 3) := by decide +kernel
theorem d7_50 : decode prog_32_method_6_code 50 = .ok (.goto (-35), 3) := by decide +kernel
theorem d7_53 : decode prog_32_method_6_code 53 = .ok (.iconst 0, 1) := by decide +kernel
theorem d7_54 : decode prog_32_method_6_code 54 = .ok (.istore 5, 2) := by decide +kernel
theorem d7_56 : decode prog_32_method_6_code 56 = .ok (.iload 5, 2) := by decide +kernel
theorem d7_58 : decode prog_32_method_6_code 58 = .ok (.iload_n 2, 1) := by decide +kernel
theorem d7_59 : decode prog_32_method_6_code 59 = .ok (.if_icmp .ge 54, 3) := by decide +kernel
theorem d7_62 : decode prog_32_method_6_code 62 = .ok (.aload 4, 2) := by decide +kernel
theorem d7_64 : decode prog_32_method_6_code 64 = .ok (.iload 5, 2) := by decide +kernel
theorem d7_66 : decode prog_32_method_6_code 66 = .ok (.ifCond .ne 9, 3) := by decide +kernel
theorem d7_69 : decode prog_32_method_6_code 69 = .ok (.iload_n 2, 1) := by decide +kernel
theorem d7_70 : decode prog_32_method_6_code 70 = .ok (.iconst 1, 1) := by decide +kernel
theorem d7_71 : decode prog_32_method_6_code 71 = .ok (.isub, 1) := by decide +kernel
theorem d7_72 : decode prog_32_method_6_code 72 = .ok (.goto 7, 3) := by decide +kernel
theorem d7_79 : decode prog_32_method_6_code 79 = .ok (.iaload, 1) := by decide +kernel
theorem d7_80 : decode prog_32_method_6_code 80 = .ok (.istore 6, 2) := by decide +kernel
theorem d7_82 : decode prog_32_method_6_code 82 = .ok (.aload_n 0, 1) := by decide +kernel
theorem d7_83 : decode prog_32_method_6_code 83 = .ok (.getfield 19, 3) := by decide +kernel
theorem d7_86 : decode prog_32_method_6_code 86 = .ok (.aload_n 3, 1) := by decide +kernel
theorem d7_87 : decode prog_32_method_6_code 87 = .ok (.iload 5, 2) := by decide +kernel
theorem d7_89 : decode prog_32_method_6_code 89 = .ok (.iaload, 1) := by decide +kernel
theorem d7_90 : decode prog_32_method_6_code 90 = .ok (.iload 6, 2) := by decide +kernel
theorem d7_92 : decode prog_32_method_6_code 92 = .ok (.iastore, 1) := by decide +kernel
theorem d7_93 : decode prog_32_method_6_code 93 = .ok (.aload_n 0, 1) := by decide +kernel
theorem d7_94 : decode prog_32_method_6_code 94 = .ok (.getfield 26, 3) := by decide +kernel
theorem d7_97 : decode prog_32_method_6_code 97 = .ok (.iload 6, 2) := by decide +kernel
theorem d7_99 : decode prog_32_method_6_code 99 = .ok (.aload_n 3, 1) := by decide +kernel
theorem d7_100 : decode prog_32_method_6_code 100 = .ok (.iload 5, 2) := by decide +kernel
theorem d7_102 : decode prog_32_method_6_code 102 = .ok (.iaload, 1) := by decide +kernel
theorem d7_103 : decode prog_32_method_6_code 103 = .ok (.bipush 64, 2) := by decide +kernel
theorem d7_105 : decode prog_32_method_6_code 105 = .ok (.idiv, 1) := by decide +kernel
theorem d7_106 : decode prog_32_method_6_code 106 = .ok (.iastore, 1) := by decide +kernel
theorem d7_107 : decode prog_32_method_6_code 107 = .ok (.iinc 5 1, 3) := by decide +kernel
theorem d7_110 : decode prog_32_method_6_code 110 = .ok (.goto (-54), 3) := by decide +kernel
theorem d7_113 : decode prog_32_method_6_code 113 = .ok (.return_, 1) := by decide +kernel
set_option maxRecDepth 65536 in
set_option maxHeartbeats 40000000 in
theorem m7_1 (l : Launch) (Z : State) (a0 : Array Value) (w : ∀ (i : Nat) {d : Jvm.Cond}, tables_1[i]? = some d → d.before a0 Z = true) (t : Addr) (pp : Addr) (lb ib lo : Addr) (lv inn rt ht rg zL zI zO n0 : Nat) (fL fI fO : Nat → Int32)(p1 p2 p3 : Nat) (fP : Nat → Int32)(L n' B : Nat) (pre : Nat → Nat)(ord : Nat → Nat) (h0 : Heap) (Z0 : n0 ≤ h0.size) (D0 : own_D n0 t lb ib lo) (S0 : own_S Z h0 t lb ib lo lv inn rt ht rg zL zI zO fL fI fO)(TT : own_T L n' B rt ht rg zL zI pre fL fI)(O : own_Or n' zO ord) (Lf : own_Lf L pre ord fL fO)(bz : zO < 1000000) (Cp : Own.Arf Z h0 pp 1 fP) (nep : pp ≠ t ∧ pp ≠ lb ∧ pp ≠ ib ∧ pp ≠ lo) (hp1 : fP 0 = Own.N p1) (hq1 : 1 ≤ p1 ∧ p1 ≤ n') :
    Own.Met l Z (⟨"com/example/frontrank/frontrank/OrderTree", "rotate", "([I)V"⟩ : MethodName) prog_32_method_6_code 7 none [] ({ frames := 1, cells := 2, slots := 2, locals := 21 } : Room) #[(.ref t), (.ref pp)] h0 (fun v h L' => v = none ∧ Fr n0 L' ∧ Keep h0 h [t, lb, ib, lo] ∧ ∃ fL' fO', own_S Z h t lb ib lo lv inn rt ht rg zL zI zO fL' fI fO' ∧ own_T L n' B rt ht rg zL zI pre fL' fI ∧ own_Lf L pre (own_ro 1 (p1 - 1) (p2 - 1) (p3 - 1) ord) fL' fO') := by
  refine Own.Met.of (plainFor_of_name (by first | (simp [plainName, overriddenIn]; done) | decide +kernel)) ?_
  intro p e s m below meth c T0 hx hby hml hown hnm hret hlk hZ X0 e0
  have hown : s.vm.findClass "com/example/frontrank/frontrank/OrderTree" = some m.cls := hown
  have hml : c.maxLocals = 7 := hml
  have hnm : meth.name = "rotate" := hnm
  have ef : entryFrame m #[(.ref t), (.ref pp)] 7 = mkF m 0 #[.val (.ref t), .val (.ref pp), .unset, .unset, .unset, .unset, .unset] [] := by first | (simp [entryFrame, mkF, argsToLocals, Value.category]; done) | rfl
  rw [ef]
  have N0 := Fr.nil n0
  have D00 := D0
  obtain ⟨ne_t_lb, ne_t_ib, ne_t_lo, ne_lb_ib, ne_lb_lo, ne_ib_lo, g_t, g_lb, g_ib, g_lo⟩ := D0
  obtain ⟨E_0, Fleaks_0, Fleaes_0, Finnks_0, Finnrs_0, FleaOf_0, Frooot_0, Fheiht_0, Fregar_0, Clb_0, Cib_0, Clo_0⟩ := S0
  obtain ⟨ne_pp_t, ne_pp_lb, ne_pp_ib, ne_pp_lo⟩ := nep
  have TT' := TT
  obtain ⟨P, hB, hL1, hL2, hn', hT, hR, hzI, hzI2, hzL, hzL2⟩ := TT'
  refine Own.aloadN 1 X0 hx (hb hby d7_0) rfl rfl rfl ?_
  refine Own.nLen 2 X0 hx hZ e0 Cp (hb hby d7_1) rfl ?_
  refine Own.istoreNV 3 #[.val (.ref t), .val (.ref pp), .val (.int (Own.N (1))), .unset, .unset, .unset, .unset] X0 hx (hb hby d7_2) rfl rfl ?_
  refine Own.iloadN 4 X0 hx (hb hby d7_3) rfl rfl ?_
  refine Own.nNew 6 1 X0 hx hZ (w 1 rfl) e0 (by omega) (by decide) (hb hby d7_4) rfl (by decide) (by decide) ?_
  intro T1 h1 pl z1 X1 e1 E1 C1
  have ne_ib_pl : ib ≠ pl := Nat.ne_of_lt (Nat.lt_of_lt_of_le Cib_0.lt (Nat.le_of_eq z1.symm))
  have ne_lb_pl : lb ≠ pl := Nat.ne_of_lt (Nat.lt_of_lt_of_le Clb_0.lt (Nat.le_of_eq z1.symm))
  have ne_lo_pl : lo ≠ pl := Nat.ne_of_lt (Nat.lt_of_lt_of_le Clo_0.lt (Nat.le_of_eq z1.symm))
  have ne_pp_pl : pp ≠ pl := Nat.ne_of_lt (Nat.lt_of_lt_of_le Cp.lt (Nat.le_of_eq z1.symm))
  have ne_t_pl : t ≠ pl := Nat.ne_of_lt (Nat.lt_of_lt_of_le E_0.lt (Nat.le_of_eq z1.symm))
  have g_pl : n0 ≤ pl := Nat.le_trans Z0 (Nat.le_of_eq z1.symm)
  have sz_pl : h0.size ≤ pl := Nat.le_trans (Keep.refl h0 [t, lb, ib, lo]).1 (Nat.le_of_eq z1.symm)
  have K1 := (Keep.refl h0 [t, lb, ib, lo]).ext E1
  have Ef_3 := E_0.ext E1
  have Ff_4 := Fleaks_0.ext E1
  have Ff_5 := Fleaes_0.ext E1
  have Ff_6 := Finnks_0.ext E1
  have Ff_7 := Finnrs_0.ext E1
  have Ff_8 := FleaOf_0.ext E1
  have Ff_9 := Frooot_0.ext E1
  have Ff_10 := Fheiht_0.ext E1
  have Ff_11 := Fregar_0.ext E1
  have Cf_12 := Clb_0.ext E1
  have Cf_13 := Cib_0.ext E1
  have Cf_14 := Clo_0.ext E1
  have Cf_15 := Cp.ext E1
  have zl1 := Nat.le_trans Z0 E1.1
  refine Own.astoreN 7 #[.val (.ref t), .val (.ref pp), .val (.int (Own.N (1))), .val (.ref pl), .unset, .unset, .unset] X1 hx (hb hby d7_6) rfl rfl rfl ?_
  refine Own.iloadN 8 X1 hx (hb hby d7_7) rfl rfl ?_
  refine Own.nNew 10 1 X1 hx hZ (w 1 rfl) e1 (by omega) (by decide) (hb hby d7_8) rfl (by decide) (by decide) ?_
  intro T16 h16 it z16 X16 e16 E16 C16
  have ne_ib_it : ib ≠ it := Nat.ne_of_lt (Nat.lt_of_lt_of_le Cf_13.lt (Nat.le_of_eq z16.symm))
  have ne_lb_it : lb ≠ it := Nat.ne_of_lt (Nat.lt_of_lt_of_le Cf_12.lt (Nat.le_of_eq z16.symm))
  have ne_lo_it : lo ≠ it := Nat.ne_of_lt (Nat.lt_of_lt_of_le Cf_14.lt (Nat.le_of_eq z16.symm))
  have ne_pl_it : pl ≠ it := Nat.ne_of_lt (Nat.lt_of_lt_of_le C1.lt (Nat.le_of_eq z16.symm))
  have ne_pp_it : pp ≠ it := Nat.ne_of_lt (Nat.lt_of_lt_of_le Cf_15.lt (Nat.le_of_eq z16.symm))
  have ne_t_it : t ≠ it := Nat.ne_of_lt (Nat.lt_of_lt_of_le Ef_3.lt (Nat.le_of_eq z16.symm))
  have g_it : n0 ≤ it := Nat.le_trans zl1 (Nat.le_of_eq z16.symm)
  have sz_it : h0.size ≤ it := Nat.le_trans K1.1 (Nat.le_of_eq z16.symm)
  have K16 := K1.ext E16
  have Ef_18 := Ef_3.ext E16
  have Ff_19 := Ff_4.ext E16
  have Ff_20 := Ff_5.ext E16
  have Ff_21 := Ff_6.ext E16
  have Ff_22 := Ff_7.ext E16
  have Ff_23 := Ff_8.ext E16
  have Ff_24 := Ff_9.ext E16
  have Ff_25 := Ff_10.ext E16
  have Ff_26 := Ff_11.ext E16
  have Cf_27 := Cf_12.ext E16
  have Cf_28 := Cf_13.ext E16
  have Cf_29 := Cf_14.ext E16
  have Cf_30 := Cf_15.ext E16
  have Cf_31 := C1.ext E16
  have zl16 := Nat.le_trans zl1 E16.1
  refine Own.astore 12 #[.val (.ref t), .val (.ref pp), .val (.int (Own.N (1))), .val (.ref pl), .val (.ref it), .unset, .unset] X16 hx (hb hby d7_10) rfl rfl rfl ?_
  refine Own.iconst 13 X16 hx (Own.N 0) (hb hby d7_12) rfl rfl ?_
  refine Own.istoreV 15 #[.val (.ref t), .val (.ref pp), .val (.int (Own.N (1))), .val (.ref pl), .val (.ref it), .val (.int (Own.N (0))), .unset] X16 hx (hb hby d7_13) rfl rfl ?_
  refine Own.iload 17 X16 hx (hb hby d7_15) rfl rfl ?_
  refine Own.iloadN 18 X16 hx (hb hby d7_17) rfl rfl ?_
  refine Own.nicmp_ge 53 21 X16 hx (hb hby d7_18) (by decide) rfl (by omega) (by omega) (fun tk => False.elim (by omega)) (fun tk => ?_)
  refine Own.aloadN 22 X16 hx (hb hby d7_21) rfl rfl rfl ?_
  refine Own.iload 24 X16 hx (hb hby d7_22) rfl rfl ?_
  refine Own.aloadN 25 X16 hx (hb hby d7_24) rfl rfl rfl ?_
  refine Own.aloadN 26 X16 hx (hb hby d7_25) rfl rfl rfl ?_
  refine Own.iload 28 X16 hx (hb hby d7_26) rfl rfl ?_
  refine Own.nLoad 29 (Own.N (p1)) X16 hx hZ e16 Cf_30 (by omega) hp1 (hb hby d7_28) rfl ?_
  refine Own.callPr 32 2 t [(.int (Own.N (p1)))] [(.int (Own.N (0))), (.ref pl)] X16 hx hZ hown (m8 l Z a0 w t lb ib lo _ _ _ _ _ _ _ _ n0 _ _ _ p1 L n' B pre _ ⟨Ef_18, Ff_19, Ff_20, Ff_21, Ff_22, Ff_23, Ff_24, Ff_25, Ff_26, Cf_27, Cf_28, Cf_29⟩ TT hq1) Ef_18 (w 53 rfl) (w 55 rfl) (w 3 rfl) (w 54 rfl) (w 4 rfl) (w 56 rfl) (by decide) e16 (by decide) (by decide) (by decide) (by decide) (by rw [hml]; rfl) (lenOf pd_1 rfl) rfl (Nat.le_of_eq rfl) (hb hby d7_29) rfl ?_
  rintro vv T32 L32 X32 ⟨a32, rfl, pl32, hh32, rfl⟩
  have N32 := Fr.app N0 (Fr.nil _)
  have vv32 : fL a32 = Own.N (ord (p1 - 1)) ∧ a32 < zL ∧ ord (p1 - 1) < zO := by
    obtain ⟨jj, kz, hj, hk1, hk2, ha⟩ := pl32
    have pj := P.2.2 jj hj
    exact ⟨Own.at_ ha (hk1 ▸ ((Lf jj hj).2 kz hk2).1), by omega, (O (p1 - 1) (by omega)).1⟩
  obtain ⟨va1, vb1, vc1⟩ := vv32
  have pl_1 := pl32
  refine Own.nStore 33 X32 hx hZ hh32 Cf_31 (by omega) (hb hby d7_32) rfl ?_
  intro T33 h33 X33 e33 W33 C33
  have N33 := Fr.snoc X33 N32 g_pl
  have Ef_35 := Ef_18.wr W33
  have Ff_36 := Ff_19.other W33 (Or.inl ne_t_pl)
  have Ff_37 := Ff_20.other W33 (Or.inl ne_t_pl)
  have Ff_38 := Ff_21.other W33 (Or.inl ne_t_pl)
  have Ff_39 := Ff_22.other W33 (Or.inl ne_t_pl)
  have Ff_40 := Ff_23.other W33 (Or.inl ne_t_pl)
  have Ff_41 := Ff_24.other W33 (Or.inl ne_t_pl)
  have Ff_42 := Ff_25.other W33 (Or.inl ne_t_pl)
  have Ff_43 := Ff_26.other W33 (Or.inl ne_t_pl)
  have Cf_44 := Cf_27.other W33 ne_lb_pl
  have Cf_45 := Cf_28.other W33 ne_ib_pl
  have Cf_46 := Cf_29.other W33 ne_lo_pl
  have Cf_47 := Cf_30.other W33 ne_pp_pl
  have Cf_49 := C16.other W33 (Ne.symm ne_pl_it)
  have zl33 := Nat.le_trans zl16 (Nat.le_of_eq W33.size.symm)
  have K33 := K16.wr W33 (Or.inr sz_pl)
  refine Own.aload 35 X33 hx (hb hby d7_33) rfl rfl rfl ?_
  refine Own.iload 37 X33 hx (hb hby d7_35) rfl rfl ?_
  refine Own.aloadN 38 X33 hx (hb hby d7_37) rfl rfl rfl ?_
  refine Own.getFld 41 X33 hx hZ hown (host := "") (Or.inl (w 12 rfl)) Via.refl e33 Ff_36 (hb hby d7_38) rfl ?_
  intro T50 X50 e50
  refine Own.aloadN 42 X50 hx (hb hby d7_41) rfl rfl rfl ?_
  refine Own.iload 44 X50 hx (hb hby d7_42) rfl rfl ?_
  refine Own.nLoad 45 (Own.N (a32)) X50 hx hZ e50 C33 (by omega) (by simp [Own.upd]) (hb hby d7_44) rfl ?_
  refine Own.nLoad 46 (Own.N (ord (p1 - 1))) X50 hx hZ e50 Cf_44 (by omega) va1 (hb hby d7_45) rfl ?_
  refine Own.nStore 47 X50 hx hZ e50 Cf_49 (by omega) (hb hby d7_46) rfl ?_
  intro T51 h51 X51 e51 W51 C51
  have N51 := Fr.snoc X51 N33 g_it
  have Ef_53 := Ef_35.wr W51
  have Ff_54 := Ff_36.other W51 (Or.inl ne_t_it)
  have Ff_55 := Ff_37.other W51 (Or.inl ne_t_it)
  have Ff_56 := Ff_38.other W51 (Or.inl ne_t_it)
  have Ff_57 := Ff_39.other W51 (Or.inl ne_t_it)
  have Ff_58 := Ff_40.other W51 (Or.inl ne_t_it)
  have Ff_59 := Ff_41.other W51 (Or.inl ne_t_it)
  have Ff_60 := Ff_42.other W51 (Or.inl ne_t_it)
  have Ff_61 := Ff_43.other W51 (Or.inl ne_t_it)
  have Cf_62 := Cf_44.other W51 ne_lb_it
  have Cf_63 := Cf_45.other W51 ne_ib_it
  have Cf_64 := Cf_46.other W51 ne_lo_it
  have Cf_65 := Cf_47.other W51 ne_pp_it
  have Cf_67 := C33.other W51 ne_pl_it
  have zl51 := Nat.le_trans zl33 (Nat.le_of_eq W51.size.symm)
  have K51 := K33.wr W51 (Or.inr sz_it)
  refine Own.iinc 50 (fun c_68 => #[.val (.ref t), .val (.ref pp), .val (.int (Own.N (1))), .val (.ref pl), .val (.ref it), .val (.int c_68), .unset]) X51 hx (Own.N 1) (hb hby d7_47) rfl rfl rfl (fun _ => rfl) fun c_68 hc_68 => ?_
  obtain rfl : c_68 = Own.N (1) := hc_68.trans (by decide)
  refine Own.goto 15 X51 hx (hb hby d7_50) (by decide) ?_
  refine Own.iload 17 X51 hx (hb hby d7_15) rfl rfl ?_
  refine Own.iloadN 18 X51 hx (hb hby d7_17) rfl rfl ?_
  refine Own.nicmp_ge 53 21 X51 hx (hb hby d7_18) (by decide) rfl (by omega) (by omega) (fun tk => ?_) (fun tk => False.elim (by omega))
  refine Own.iconst 54 X51 hx (Own.N 0) (hb hby d7_53) rfl rfl ?_
  refine Own.istoreV 56 #[.val (.ref t), .val (.ref pp), .val (.int (Own.N (1))), .val (.ref pl), .val (.ref it), .val (.int (Own.N (0))), .unset] X51 hx (hb hby d7_54) rfl rfl ?_
  refine Own.iload 58 X51 hx (hb hby d7_56) rfl rfl ?_
  refine Own.iloadN 59 X51 hx (hb hby d7_58) rfl rfl ?_
  refine Own.nicmp_ge 113 62 X51 hx (hb hby d7_59) (by decide) rfl (by omega) (by omega) (fun tk => False.elim (by omega)) (fun tk => ?_)
  refine Own.aload 64 X51 hx (hb hby d7_62) rfl rfl rfl ?_
  refine Own.iload 66 X51 hx (hb hby d7_64) rfl rfl ?_
  refine Own.nif_ne 75 69 X51 hx (hb hby d7_66) (by decide) rfl (by omega) (fun tk => False.elim (by omega)) (fun tk => ?_)
  refine Own.iloadN 70 X51 hx (hb hby d7_69) rfl rfl ?_
  refine Own.iconst 71 X51 hx (Own.N 1) (hb hby d7_70) rfl rfl ?_
  refine Own.isub 72 X51 hx (hb hby d7_71) rfl (Own.N_sub (by omega)) ?_
  refine Own.goto 79 X51 hx (hb hby d7_72) (by decide) ?_
  refine Own.nLoad 80 (Own.N (ord (p1 - 1))) X51 hx hZ e51 C51 (by omega) (by simp [Own.upd]) (hb hby d7_79) rfl ?_
  refine Own.istoreV 82 #[.val (.ref t), .val (.ref pp), .val (.int (Own.N (1))), .val (.ref pl), .val (.ref it), .val (.int (Own.N (0))), .val (.int (Own.N (ord (p1 - 1))))] X51 hx (hb hby d7_80) rfl rfl ?_
  refine Own.aloadN 83 X51 hx (hb hby d7_82) rfl rfl rfl ?_
  refine Own.getFld 86 X51 hx hZ hown (host := "") (Or.inl (w 12 rfl)) Via.refl e51 Ff_54 (hb hby d7_83) rfl ?_
  intro T69 X69 e69
  refine Own.aloadN 87 X69 hx (hb hby d7_86) rfl rfl rfl ?_
  refine Own.iload 89 X69 hx (hb hby d7_87) rfl rfl ?_
  refine Own.nLoad 90 (Own.N (a32)) X69 hx hZ e69 Cf_67 (by omega) (by simp [Own.upd]) (hb hby d7_89) rfl ?_
  refine Own.iload 92 X69 hx (hb hby d7_90) rfl rfl ?_
  refine Own.nStore 93 X69 hx hZ e69 Cf_62 (by omega) (hb hby d7_92) rfl ?_
  intro T70 h70 X70 e70 W70 C70
  have N70 := Fr.snoc X70 N51 g_lb
  have Ef_72 := Ef_53.wr W70
  have Ff_73 := Ff_54.other W70 (Or.inl ne_t_lb)
  have Ff_74 := Ff_55.other W70 (Or.inl ne_t_lb)
  have Ff_75 := Ff_56.other W70 (Or.inl ne_t_lb)
  have Ff_76 := Ff_57.other W70 (Or.inl ne_t_lb)
  have Ff_77 := Ff_58.other W70 (Or.inl ne_t_lb)
  have Ff_78 := Ff_59.other W70 (Or.inl ne_t_lb)
  have Ff_79 := Ff_60.other W70 (Or.inl ne_t_lb)
  have Ff_80 := Ff_61.other W70 (Or.inl ne_t_lb)
  have Cf_82 := Cf_63.other W70 (Ne.symm ne_lb_ib)
  have Cf_83 := Cf_64.other W70 (Ne.symm ne_lb_lo)
  have Cf_84 := Cf_65.other W70 ne_pp_lb
  have Cf_85 := Cf_67.other W70 (Ne.symm ne_lb_pl)
  have Cf_86 := C51.other W70 (Ne.symm ne_lb_it)
  have zl70 := Nat.le_trans zl51 (Nat.le_of_eq W70.size.symm)
  have K70 := K51.wr W70 (Or.inl (List.mem_of_getElem? (i := 1) rfl))
  refine Own.aloadN 94 X70 hx (hb hby d7_93) rfl rfl rfl ?_
  refine Own.getFld 97 X70 hx hZ hown (host := "") (Or.inl (w 16 rfl)) Via.refl e70 Ff_77 (hb hby d7_94) rfl ?_
  intro T87 X87 e87
  refine Own.iload 99 X87 hx (hb hby d7_97) rfl rfl ?_
  refine Own.aloadN 100 X87 hx (hb hby d7_99) rfl rfl rfl ?_
  refine Own.iload 102 X87 hx (hb hby d7_100) rfl rfl ?_
  refine Own.nLoad 103 (Own.N (a32)) X87 hx hZ e87 Cf_85 (by omega) (by simp [Own.upd]) (hb hby d7_102) rfl ?_
  refine Own.bipush 105 X87 hx (Own.N 64) (hb hby d7_103) rfl rfl ?_
  refine Own.idiv 106 X87 hx (hb hby d7_105) rfl (by decide) (Own.N_div (by omega) (by omega)) ?_
  refine Own.nStore 107 X87 hx hZ e87 Cf_83 (by omega) (hb hby d7_106) rfl ?_
  intro T88 h88 X88 e88 W88 C88
  have N88 := Fr.snoc X88 N70 g_lo
  have Ef_90 := Ef_72.wr W88
  have Ff_91 := Ff_73.other W88 (Or.inl ne_t_lo)
  have Ff_92 := Ff_74.other W88 (Or.inl ne_t_lo)
  have Ff_93 := Ff_75.other W88 (Or.inl ne_t_lo)
  have Ff_94 := Ff_76.other W88 (Or.inl ne_t_lo)
  have Ff_95 := Ff_77.other W88 (Or.inl ne_t_lo)
  have Ff_96 := Ff_78.other W88 (Or.inl ne_t_lo)
  have Ff_97 := Ff_79.other W88 (Or.inl ne_t_lo)
  have Ff_98 := Ff_80.other W88 (Or.inl ne_t_lo)
  have Cf_99 := Cf_82.other W88 ne_ib_lo
  have Cf_101 := Cf_84.other W88 ne_pp_lo
  have Cf_102 := Cf_85.other W88 (Ne.symm ne_lo_pl)
  have Cf_103 := Cf_86.other W88 (Ne.symm ne_lo_it)
  have Cf_104 := C70.other W88 ne_lb_lo
  have zl88 := Nat.le_trans zl70 (Nat.le_of_eq W88.size.symm)
  have K88 := K70.wr W88 (Or.inl (List.mem_of_getElem? (i := 3) rfl))
  refine Own.iinc 110 (fun c_105 => #[.val (.ref t), .val (.ref pp), .val (.int (Own.N (1))), .val (.ref pl), .val (.ref it), .val (.int c_105), .val (.int (Own.N (ord (p1 - 1))))]) X88 hx (Own.N 1) (hb hby d7_107) rfl rfl rfl (fun _ => rfl) fun c_105 hc_105 => ?_
  obtain rfl : c_105 = Own.N (1) := hc_105.trans (by decide)
  refine Own.goto 56 X88 hx (hb hby d7_110) (by decide) ?_
  refine Own.iload 58 X88 hx (hb hby d7_56) rfl rfl ?_
  refine Own.iloadN 59 X88 hx (hb hby d7_58) rfl rfl ?_
  refine Own.nicmp_ge 113 62 X88 hx (hb hby d7_59) (by decide) rfl (by omega) (by omega) (fun tk => ?_) (fun tk => False.elim (by omega))
  refine Own.retVoid X88 hx hlk hret (hb hby d7_113) (by decide) (by decide) ?_
  rw [e88]
  exact ⟨rfl, N88, K88, _, _, ⟨Ef_90, Ff_91, Ff_92, Ff_93, Ff_94, Ff_95, Ff_96, Ff_97, Ff_98, Cf_104, Cf_99, C88⟩, own_T_L TT (fun j hj => ⟨by rw [Own.upd_miss (own_Pl_off P hB pl_1 hj).2.1], by rw [Own.upd_miss (own_Pl_off P hB pl_1 hj).2.2]⟩), own_ro1_Lf P hB Lf O pl_1⟩
theorem d7_75 : decode prog_32_method_6_code 75 = .ok (.iload 5, 2) := by decide +kernel
theorem d7_77 : decode prog_32_method_6_code 77 = .ok (.iconst 1, 1) := by decide +kernel
theorem d7_78 : decode prog_32_method_6_code 78 = .ok (.isub, 1) := by decide +kernel
set_option maxRecDepth 65536 in
set_option maxHeartbeats 40000000 in
theorem m7_2 (l : Launch) (Z : State) (a0 : Array Value) (w : ∀ (i : Nat) {d : Jvm.Cond}, tables_1[i]? = some d → d.before a0 Z = true) (t : Addr) (pp : Addr) (lb ib lo : Addr) (lv inn rt ht rg zL zI zO n0 : Nat) (fL fI fO : Nat → Int32)(p1 p2 p3 : Nat) (fP : Nat → Int32)(L n' B : Nat) (pre : Nat → Nat)(ord : Nat → Nat) (h0 : Heap) (Z0 : n0 ≤ h0.size) (D0 : own_D n0 t lb ib lo) (S0 : own_S Z h0 t lb ib lo lv inn rt ht rg zL zI zO fL fI fO)(TT : own_T L n' B rt ht rg zL zI pre fL fI)(O : own_Or n' zO ord) (Lf : own_Lf L pre ord fL fO)(bz : zO < 1000000) (Cp : Own.Arf Z h0 pp 2 fP) (nep : pp ≠ t ∧ pp ≠ lb ∧ pp ≠ ib ∧ pp ≠ lo) (hp1 : fP 0 = Own.N p1) (hq1 : 1 ≤ p1 ∧ p1 ≤ n') (hp2 : fP 1 = Own.N p2) (hq2 : 1 ≤ p2 ∧ p2 ≤ n') (d12 : p1 ≠ p2) :
    Own.Met l Z (⟨"com/example/frontrank/frontrank/OrderTree", "rotate", "([I)V"⟩ : MethodName) prog_32_method_6_code 7 none [] ({ frames := 1, cells := 2, slots := 4, locals := 21 } : Room) #[(.ref t), (.ref pp)] h0 (fun v h L' => v = none ∧ Fr n0 L' ∧ Keep h0 h [t, lb, ib, lo] ∧ ∃ fL' fO', own_S Z h t lb ib lo lv inn rt ht rg zL zI zO fL' fI fO' ∧ own_T L n' B rt ht rg zL zI pre fL' fI ∧ own_Lf L pre (own_ro 2 (p1 - 1) (p2 - 1) (p3 - 1) ord) fL' fO') := by
  refine Own.Met.of (plainFor_of_name (by first | (simp [plainName, overriddenIn]; done) | decide +kernel)) ?_
  intro p e s m below meth c T0 hx hby hml hown hnm hret hlk hZ X0 e0
  have hown : s.vm.findClass "com/example/frontrank/frontrank/OrderTree" = some m.cls := hown
  have hml : c.maxLocals = 7 := hml
  have hnm : meth.name = "rotate" := hnm
  have ef : entryFrame m #[(.ref t), (.ref pp)] 7 = mkF m 0 #[.val (.ref t), .val (.ref pp), .unset, .unset, .unset, .unset, .unset] [] := by first | (simp [entryFrame, mkF, argsToLocals, Value.category]; done) | rfl
  rw [ef]
  have N0 := Fr.nil n0
  have D00 := D0
  obtain ⟨ne_t_lb, ne_t_ib, ne_t_lo, ne_lb_ib, ne_lb_lo, ne_ib_lo, g_t, g_lb, g_ib, g_lo⟩ := D0
  obtain ⟨E_0, Fleaks_0, Fleaes_0, Finnks_0, Finnrs_0, FleaOf_0, Frooot_0, Fheiht_0, Fregar_0, Clb_0, Cib_0, Clo_0⟩ := S0
  obtain ⟨ne_pp_t, ne_pp_lb, ne_pp_ib, ne_pp_lo⟩ := nep
  have TT' := TT
  obtain ⟨P, hB, hL1, hL2, hn', hT, hR, hzI, hzI2, hzL, hzL2⟩ := TT'
  refine Own.aloadN 1 X0 hx (hb hby d7_0) rfl rfl rfl ?_
  refine Own.nLen 2 X0 hx hZ e0 Cp (hb hby d7_1) rfl ?_
  refine Own.istoreNV 3 #[.val (.ref t), .val (.ref pp), .val (.int (Own.N (2))), .unset, .unset, .unset, .unset] X0 hx (hb hby d7_2) rfl rfl ?_
  refine Own.iloadN 4 X0 hx (hb hby d7_3) rfl rfl ?_
  refine Own.nNew 6 2 X0 hx hZ (w 1 rfl) e0 (by omega) (by decide) (hb hby d7_4) rfl (by decide) (by decide) ?_
  intro T1 h1 pl z1 X1 e1 E1 C1
  have ne_ib_pl : ib ≠ pl := Nat.ne_of_lt (Nat.lt_of_lt_of_le Cib_0.lt (Nat.le_of_eq z1.symm))
  have ne_lb_pl : lb ≠ pl := Nat.ne_of_lt (Nat.lt_of_lt_of_le Clb_0.lt (Nat.le_of_eq z1.symm))
  have ne_lo_pl : lo ≠ pl := Nat.ne_of_lt (Nat.lt_of_lt_of_le Clo_0.lt (Nat.le_of_eq z1.symm))
  have ne_pp_pl : pp ≠ pl := Nat.ne_of_lt (Nat.lt_of_lt_of_le Cp.lt (Nat.le_of_eq z1.symm))
  have ne_t_pl : t ≠ pl := Nat.ne_of_lt (Nat.lt_of_lt_of_le E_0.lt (Nat.le_of_eq z1.symm))
  have g_pl : n0 ≤ pl := Nat.le_trans Z0 (Nat.le_of_eq z1.symm)
  have sz_pl : h0.size ≤ pl := Nat.le_trans (Keep.refl h0 [t, lb, ib, lo]).1 (Nat.le_of_eq z1.symm)
  have K1 := (Keep.refl h0 [t, lb, ib, lo]).ext E1
  have Ef_3 := E_0.ext E1
  have Ff_4 := Fleaks_0.ext E1
  have Ff_5 := Fleaes_0.ext E1
  have Ff_6 := Finnks_0.ext E1
  have Ff_7 := Finnrs_0.ext E1
  have Ff_8 := FleaOf_0.ext E1
  have Ff_9 := Frooot_0.ext E1
  have Ff_10 := Fheiht_0.ext E1
  have Ff_11 := Fregar_0.ext E1
  have Cf_12 := Clb_0.ext E1
  have Cf_13 := Cib_0.ext E1
  have Cf_14 := Clo_0.ext E1
  have Cf_15 := Cp.ext E1
  have zl1 := Nat.le_trans Z0 E1.1
  refine Own.astoreN 7 #[.val (.ref t), .val (.ref pp), .val (.int (Own.N (2))), .val (.ref pl), .unset, .unset, .unset] X1 hx (hb hby d7_6) rfl rfl rfl ?_
  refine Own.iloadN 8 X1 hx (hb hby d7_7) rfl rfl ?_
  refine Own.nNew 10 2 X1 hx hZ (w 1 rfl) e1 (by omega) (by decide) (hb hby d7_8) rfl (by decide) (by decide) ?_
  intro T16 h16 it z16 X16 e16 E16 C16
  have ne_ib_it : ib ≠ it := Nat.ne_of_lt (Nat.lt_of_lt_of_le Cf_13.lt (Nat.le_of_eq z16.symm))
  have ne_lb_it : lb ≠ it := Nat.ne_of_lt (Nat.lt_of_lt_of_le Cf_12.lt (Nat.le_of_eq z16.symm))
  have ne_lo_it : lo ≠ it := Nat.ne_of_lt (Nat.lt_of_lt_of_le Cf_14.lt (Nat.le_of_eq z16.symm))
  have ne_pl_it : pl ≠ it := Nat.ne_of_lt (Nat.lt_of_lt_of_le C1.lt (Nat.le_of_eq z16.symm))
  have ne_pp_it : pp ≠ it := Nat.ne_of_lt (Nat.lt_of_lt_of_le Cf_15.lt (Nat.le_of_eq z16.symm))
  have ne_t_it : t ≠ it := Nat.ne_of_lt (Nat.lt_of_lt_of_le Ef_3.lt (Nat.le_of_eq z16.symm))
  have g_it : n0 ≤ it := Nat.le_trans zl1 (Nat.le_of_eq z16.symm)
  have sz_it : h0.size ≤ it := Nat.le_trans K1.1 (Nat.le_of_eq z16.symm)
  have K16 := K1.ext E16
  have Ef_18 := Ef_3.ext E16
  have Ff_19 := Ff_4.ext E16
  have Ff_20 := Ff_5.ext E16
  have Ff_21 := Ff_6.ext E16
  have Ff_22 := Ff_7.ext E16
  have Ff_23 := Ff_8.ext E16
  have Ff_24 := Ff_9.ext E16
  have Ff_25 := Ff_10.ext E16
  have Ff_26 := Ff_11.ext E16
  have Cf_27 := Cf_12.ext E16
  have Cf_28 := Cf_13.ext E16
  have Cf_29 := Cf_14.ext E16
  have Cf_30 := Cf_15.ext E16
  have Cf_31 := C1.ext E16
  have zl16 := Nat.le_trans zl1 E16.1
  refine Own.astore 12 #[.val (.ref t), .val (.ref pp), .val (.int (Own.N (2))), .val (.ref pl), .val (.ref it), .unset, .unset] X16 hx (hb hby d7_10) rfl rfl rfl ?_
  refine Own.iconst 13 X16 hx (Own.N 0) (hb hby d7_12) rfl rfl ?_
  refine Own.istoreV 15 #[.val (.ref t), .val (.ref pp), .val (.int (Own.N (2))), .val (.ref pl), .val (.ref it), .val (.int (Own.N (0))), .unset] X16 hx (hb hby d7_13) rfl rfl ?_
  refine Own.iload 17 X16 hx (hb hby d7_15) rfl rfl ?_
  refine Own.iloadN 18 X16 hx (hb hby d7_17) rfl rfl ?_
  refine Own.nicmp_ge 53 21 X16 hx (hb hby d7_18) (by decide) rfl (by omega) (by omega) (fun tk => False.elim (by omega)) (fun tk => ?_)
  refine Own.aloadN 22 X16 hx (hb hby d7_21) rfl rfl rfl ?_
  refine Own.iload 24 X16 hx (hb hby d7_22) rfl rfl ?_
  refine Own.aloadN 25 X16 hx (hb hby d7_24) rfl rfl rfl ?_
  refine Own.aloadN 26 X16 hx (hb hby d7_25) rfl rfl rfl ?_
  refine Own.iload 28 X16 hx (hb hby d7_26) rfl rfl ?_
  refine Own.nLoad 29 (Own.N (p1)) X16 hx hZ e16 Cf_30 (by omega) hp1 (hb hby d7_28) rfl ?_
  refine Own.callPr 32 2 t [(.int (Own.N (p1)))] [(.int (Own.N (0))), (.ref pl)] X16 hx hZ hown (m8 l Z a0 w t lb ib lo _ _ _ _ _ _ _ _ n0 _ _ _ p1 L n' B pre _ ⟨Ef_18, Ff_19, Ff_20, Ff_21, Ff_22, Ff_23, Ff_24, Ff_25, Ff_26, Cf_27, Cf_28, Cf_29⟩ TT hq1) Ef_18 (w 53 rfl) (w 55 rfl) (w 3 rfl) (w 54 rfl) (w 4 rfl) (w 56 rfl) (by decide) e16 (by decide) (by decide) (by decide) (by decide) (by rw [hml]; rfl) (lenOf pd_1 rfl) rfl (Nat.le_of_eq rfl) (hb hby d7_29) rfl ?_
  rintro vv T32 L32 X32 ⟨a32, rfl, pl32, hh32, rfl⟩
  have N32 := Fr.app N0 (Fr.nil _)
  have vv32 : fL a32 = Own.N (ord (p1 - 1)) ∧ a32 < zL ∧ ord (p1 - 1) < zO := by
    obtain ⟨jj, kz, hj, hk1, hk2, ha⟩ := pl32
    have pj := P.2.2 jj hj
    exact ⟨Own.at_ ha (hk1 ▸ ((Lf jj hj).2 kz hk2).1), by omega, (O (p1 - 1) (by omega)).1⟩
  obtain ⟨va1, vb1, vc1⟩ := vv32
  have pl_1 := pl32
  refine Own.nStore 33 X32 hx hZ hh32 Cf_31 (by omega) (hb hby d7_32) rfl ?_
  intro T33 h33 X33 e33 W33 C33
  have N33 := Fr.snoc X33 N32 g_pl
  have Ef_35 := Ef_18.wr W33
  have Ff_36 := Ff_19.other W33 (Or.inl ne_t_pl)
  have Ff_37 := Ff_20.other W33 (Or.inl ne_t_pl)
  have Ff_38 := Ff_21.other W33 (Or.inl ne_t_pl)
  have Ff_39 := Ff_22.other W33 (Or.inl ne_t_pl)
  have Ff_40 := Ff_23.other W33 (Or.inl ne_t_pl)
  have Ff_41 := Ff_24.other W33 (Or.inl ne_t_pl)
  have Ff_42 := Ff_25.other W33 (Or.inl ne_t_pl)
  have Ff_43 := Ff_26.other W33 (Or.inl ne_t_pl)
  have Cf_44 := Cf_27.other W33 ne_lb_pl
  have Cf_45 := Cf_28.other W33 ne_ib_pl
  have Cf_46 := Cf_29.other W33 ne_lo_pl
  have Cf_47 := Cf_30.other W33 ne_pp_pl
  have Cf_49 := C16.other W33 (Ne.symm ne_pl_it)
  have zl33 := Nat.le_trans zl16 (Nat.le_of_eq W33.size.symm)
  have K33 := K16.wr W33 (Or.inr sz_pl)
  refine Own.aload 35 X33 hx (hb hby d7_33) rfl rfl rfl ?_
  refine Own.iload 37 X33 hx (hb hby d7_35) rfl rfl ?_
  refine Own.aloadN 38 X33 hx (hb hby d7_37) rfl rfl rfl ?_
  refine Own.getFld 41 X33 hx hZ hown (host := "") (Or.inl (w 12 rfl)) Via.refl e33 Ff_36 (hb hby d7_38) rfl ?_
  intro T50 X50 e50
  refine Own.aloadN 42 X50 hx (hb hby d7_41) rfl rfl rfl ?_
  refine Own.iload 44 X50 hx (hb hby d7_42) rfl rfl ?_
  refine Own.nLoad 45 (Own.N (a32)) X50 hx hZ e50 C33 (by omega) (by simp [Own.upd]) (hb hby d7_44) rfl ?_
  refine Own.nLoad 46 (Own.N (ord (p1 - 1))) X50 hx hZ e50 Cf_44 (by omega) va1 (hb hby d7_45) rfl ?_
  refine Own.nStore 47 X50 hx hZ e50 Cf_49 (by omega) (hb hby d7_46) rfl ?_
  intro T51 h51 X51 e51 W51 C51
  have N51 := Fr.snoc X51 N33 g_it
  have Ef_53 := Ef_35.wr W51
  have Ff_54 := Ff_36.other W51 (Or.inl ne_t_it)
  have Ff_55 := Ff_37.other W51 (Or.inl ne_t_it)
  have Ff_56 := Ff_38.other W51 (Or.inl ne_t_it)
  have Ff_57 := Ff_39.other W51 (Or.inl ne_t_it)
  have Ff_58 := Ff_40.other W51 (Or.inl ne_t_it)
  have Ff_59 := Ff_41.other W51 (Or.inl ne_t_it)
  have Ff_60 := Ff_42.other W51 (Or.inl ne_t_it)
  have Ff_61 := Ff_43.other W51 (Or.inl ne_t_it)
  have Cf_62 := Cf_44.other W51 ne_lb_it
  have Cf_63 := Cf_45.other W51 ne_ib_it
  have Cf_64 := Cf_46.other W51 ne_lo_it
  have Cf_65 := Cf_47.other W51 ne_pp_it
  have Cf_67 := C33.other W51 ne_pl_it
  have zl51 := Nat.le_trans zl33 (Nat.le_of_eq W51.size.symm)
  have K51 := K33.wr W51 (Or.inr sz_it)
  refine Own.iinc 50 (fun c_68 => #[.val (.ref t), .val (.ref pp), .val (.int (Own.N (2))), .val (.ref pl), .val (.ref it), .val (.int c_68), .unset]) X51 hx (Own.N 1) (hb hby d7_47) rfl rfl rfl (fun _ => rfl) fun c_68 hc_68 => ?_
  obtain rfl : c_68 = Own.N (1) := hc_68.trans (by decide)
  refine Own.goto 15 X51 hx (hb hby d7_50) (by decide) ?_
  refine Own.iload 17 X51 hx (hb hby d7_15) rfl rfl ?_
  refine Own.iloadN 18 X51 hx (hb hby d7_17) rfl rfl ?_
  refine Own.nicmp_ge 53 21 X51 hx (hb hby d7_18) (by decide) rfl (by omega) (by omega) (fun tk => False.elim (by omega)) (fun tk => ?_)
  refine Own.aloadN 22 X51 hx (hb hby d7_21) rfl rfl rfl ?_
  refine Own.iload 24 X51 hx (hb hby d7_22) rfl rfl ?_
  refine Own.aloadN 25 X51 hx (hb hby d7_24) rfl rfl rfl ?_
  refine Own.aloadN 26 X51 hx (hb hby d7_25) rfl rfl rfl ?_
  refine Own.iload 28 X51 hx (hb hby d7_26) rfl rfl ?_
  refine Own.nLoad 29 (Own.N (p2)) X51 hx hZ e51 Cf_65 (by omega) hp2 (hb hby d7_28) rfl ?_
  refine Own.callPr 32 2 t [(.int (Own.N (p2)))] [(.int (Own.N (1))), (.ref pl)] X51 hx hZ hown (m8 l Z a0 w t lb ib lo _ _ _ _ _ _ _ _ n0 _ _ _ p2 L n' B pre _ ⟨Ef_53, Ff_54, Ff_55, Ff_56, Ff_57, Ff_58, Ff_59, Ff_60, Ff_61, Cf_62, Cf_63, Cf_64⟩ TT hq2) Ef_53 (w 53 rfl) (w 55 rfl) (w 3 rfl) (w 54 rfl) (w 4 rfl) (w 56 rfl) (by decide) e51 (by decide) (by decide) (by decide) (by decide) (by rw [hml]; rfl) (lenOf pd_1 rfl) rfl (Nat.le_of_eq rfl) (hb hby d7_29) rfl ?_
  rintro vv T69 L69 X69 ⟨a69, rfl, pl69, hh69, rfl⟩
  have N69 := Fr.app N51 (Fr.nil _)
  have vv69 : fL a69 = Own.N (ord (p2 - 1)) ∧ a69 < zL ∧ ord (p2 - 1) < zO := by
    obtain ⟨jj, kz, hj, hk1, hk2, ha⟩ := pl69
    have pj := P.2.2 jj hj
    exact ⟨Own.at_ ha (hk1 ▸ ((Lf jj hj).2 kz hk2).1), by omega, (O (p2 - 1) (by omega)).1⟩
  obtain ⟨va2, vb2, vc2⟩ := vv69
  have pl_2 := pl69
  refine Own.nStore 33 X69 hx hZ hh69 Cf_67 (by omega) (hb hby d7_32) rfl ?_
  intro T70 h70 X70 e70 W70 C70
  have N70 := Fr.snoc X70 N69 g_pl
  have Ef_72 := Ef_53.wr W70
  have Ff_73 := Ff_54.other W70 (Or.inl ne_t_pl)
  have Ff_74 := Ff_55.other W70 (Or.inl ne_t_pl)
  have Ff_75 := Ff_56.other W70 (Or.inl ne_t_pl)
  have Ff_76 := Ff_57.other W70 (Or.inl ne_t_pl)
  have Ff_77 := Ff_58.other W70 (Or.inl ne_t_pl)
  have Ff_78 := Ff_59.other W70 (Or.inl ne_t_pl)
  have Ff_79 := Ff_60.other W70 (Or.inl ne_t_pl)
  have Ff_80 := Ff_61.other W70 (Or.inl ne_t_pl)
  have Cf_81 := Cf_62.other W70 ne_lb_pl
  have Cf_82 := Cf_63.other W70 ne_ib_pl
  have Cf_83 := Cf_64.other W70 ne_lo_pl
  have Cf_84 := Cf_65.other W70 ne_pp_pl
  have Cf_86 := C51.other W70 (Ne.symm ne_pl_it)
  have zl70 := Nat.le_trans zl51 (Nat.le_of_eq W70.size.symm)
  have K70 := K51.wr W70 (Or.inr sz_pl)
  refine Own.aload 35 X70 hx (hb hby d7_33) rfl rfl rfl ?_
  refine Own.iload 37 X70 hx (hb hby d7_35) rfl rfl ?_
  refine Own.aloadN 38 X70 hx (hb hby d7_37) rfl rfl rfl ?_
  refine Own.getFld 41 X70 hx hZ hown (host := "") (Or.inl (w 12 rfl)) Via.refl e70 Ff_73 (hb hby d7_38) rfl ?_
  intro T87 X87 e87
  refine Own.aloadN 42 X87 hx (hb hby d7_41) rfl rfl rfl ?_
  refine Own.iload 44 X87 hx (hb hby d7_42) rfl rfl ?_
  refine Own.nLoad 45 (Own.N (a69)) X87 hx hZ e87 C70 (by omega) (by simp [Own.upd]) (hb hby d7_44) rfl ?_
  refine Own.nLoad 46 (Own.N (ord (p2 - 1))) X87 hx hZ e87 Cf_81 (by omega) va2 (hb hby d7_45) rfl ?_
  refine Own.nStore 47 X87 hx hZ e87 Cf_86 (by omega) (hb hby d7_46) rfl ?_
  intro T88 h88 X88 e88 W88 C88
  have N88 := Fr.snoc X88 N70 g_it
  have Ef_90 := Ef_72.wr W88
  have Ff_91 := Ff_73.other W88 (Or.inl ne_t_it)
  have Ff_92 := Ff_74.other W88 (Or.inl ne_t_it)
  have Ff_93 := Ff_75.other W88 (Or.inl ne_t_it)
  have Ff_94 := Ff_76.other W88 (Or.inl ne_t_it)
  have Ff_95 := Ff_77.other W88 (Or.inl ne_t_it)
  have Ff_96 := Ff_78.other W88 (Or.inl ne_t_it)
  have Ff_97 := Ff_79.other W88 (Or.inl ne_t_it)
  have Ff_98 := Ff_80.other W88 (Or.inl ne_t_it)
  have Cf_99 := Cf_81.other W88 ne_lb_it
  have Cf_100 := Cf_82.other W88 ne_ib_it
  have Cf_101 := Cf_83.other W88 ne_lo_it
  have Cf_102 := Cf_84.other W88 ne_pp_it
  have Cf_104 := C70.other W88 ne_pl_it
  have zl88 := Nat.le_trans zl70 (Nat.le_of_eq W88.size.symm)
  have K88 := K70.wr W88 (Or.inr sz_it)
  refine Own.iinc 50 (fun c_105 => #[.val (.ref t), .val (.ref pp), .val (.int (Own.N (2))), .val (.ref pl), .val (.ref it), .val (.int c_105), .unset]) X88 hx (Own.N 1) (hb hby d7_47) rfl rfl rfl (fun _ => rfl) fun c_105 hc_105 => ?_
  obtain rfl : c_105 = Own.N (2) := hc_105.trans (by decide)
  refine Own.goto 15 X88 hx (hb hby d7_50) (by decide) ?_
  refine Own.iload 17 X88 hx (hb hby d7_15) rfl rfl ?_
  refine Own.iloadN 18 X88 hx (hb hby d7_17) rfl rfl ?_
  refine Own.nicmp_ge 53 21 X88 hx (hb hby d7_18) (by decide) rfl (by omega) (by omega) (fun tk => ?_) (fun tk => False.elim (by omega))
  refine Own.iconst 54 X88 hx (Own.N 0) (hb hby d7_53) rfl rfl ?_
  refine Own.istoreV 56 #[.val (.ref t), .val (.ref pp), .val (.int (Own.N (2))), .val (.ref pl), .val (.ref it), .val (.int (Own.N (0))), .unset] X88 hx (hb hby d7_54) rfl rfl ?_
  refine Own.iload 58 X88 hx (hb hby d7_56) rfl rfl ?_
  refine Own.iloadN 59 X88 hx (hb hby d7_58) rfl rfl ?_
  refine Own.nicmp_ge 113 62 X88 hx (hb hby d7_59) (by decide) rfl (by omega) (by omega) (fun tk => False.elim (by omega)) (fun tk => ?_)
  refine Own.aload 64 X88 hx (hb hby d7_62) rfl rfl rfl ?_
  refine Own.iload 66 X88 hx (hb hby d7_64) rfl rfl ?_
  refine Own.nif_ne 75 69 X88 hx (hb hby d7_66) (by decide) rfl (by omega) (fun tk => False.elim (by omega)) (fun tk => ?_)
  refine Own.iloadN 70 X88 hx (hb hby d7_69) rfl rfl ?_
  refine Own.iconst 71 X88 hx (Own.N 1) (hb hby d7_70) rfl rfl ?_
  refine Own.isub 72 X88 hx (hb hby d7_71) rfl (Own.N_sub (by omega)) ?_
  refine Own.goto 79 X88 hx (hb hby d7_72) (by decide) ?_
  refine Own.nLoad 80 (Own.N (ord (p2 - 1))) X88 hx hZ e88 C88 (by omega) (by simp [Own.upd]) (hb hby d7_79) rfl ?_
  refine Own.istoreV 82 #[.val (.ref t), .val (.ref pp), .val (.int (Own.N (2))), .val (.ref pl), .val (.ref it), .val (.int (Own.N (0))), .val (.int (Own.N (ord (p2 - 1))))] X88 hx (hb hby d7_80) rfl rfl ?_
  refine Own.aloadN 83 X88 hx (hb hby d7_82) rfl rfl rfl ?_
  refine Own.getFld 86 X88 hx hZ hown (host := "") (Or.inl (w 12 rfl)) Via.refl e88 Ff_91 (hb hby d7_83) rfl ?_
  intro T106 X106 e106
  refine Own.aloadN 87 X106 hx (hb hby d7_86) rfl rfl rfl ?_
  refine Own.iload 89 X106 hx (hb hby d7_87) rfl rfl ?_
  refine Own.nLoad 90 (Own.N (a32)) X106 hx hZ e106 Cf_104 (by omega) (by simp [Own.upd]) (hb hby d7_89) rfl ?_
  refine Own.iload 92 X106 hx (hb hby d7_90) rfl rfl ?_
  refine Own.nStore 93 X106 hx hZ e106 Cf_99 (by omega) (hb hby d7_92) rfl ?_
  intro T107 h107 X107 e107 W107 C107
  have N107 := Fr.snoc X107 N88 g_lb
  have Ef_109 := Ef_90.wr W107
  have Ff_110 := Ff_91.other W107 (Or.inl ne_t_lb)
  have Ff_111 := Ff_92.other W107 (Or.inl ne_t_lb)
  have Ff_112 := Ff_93.other W107 (Or.inl ne_t_lb)
  have Ff_113 := Ff_94.other W107 (Or.inl ne_t_lb)
  have Ff_114 := Ff_95.other W107 (Or.inl ne_t_lb)
  have Ff_115 := Ff_96.other W107 (Or.inl ne_t_lb)
  have Ff_116 := Ff_97.other W107 (Or.inl ne_t_lb)
  have Ff_117 := Ff_98.other W107 (Or.inl ne_t_lb)
  have Cf_119 := Cf_100.other W107 (Ne.symm ne_lb_ib)
  have Cf_120 := Cf_101.other W107 (Ne.symm ne_lb_lo)
  have Cf_121 := Cf_102.other W107 ne_pp_lb
  have Cf_122 := Cf_104.other W107 (Ne.symm ne_lb_pl)
  have Cf_123 := C88.other W107 (Ne.symm ne_lb_it)
  have zl107 := Nat.le_trans zl88 (Nat.le_of_eq W107.size.symm)
  have K107 := K88.wr W107 (Or.inl (List.mem_of_getElem? (i := 1) rfl))
  refine Own.aloadN 94 X107 hx (hb hby d7_93) rfl rfl rfl ?_
  refine Own.getFld 97 X107 hx hZ hown (host := "") (Or.inl (w 16 rfl)) Via.refl e107 Ff_114 (hb hby d7_94) rfl ?_
  intro T124 X124 e124
  refine Own.iload 99 X124 hx (hb hby d7_97) rfl rfl ?_
  refine Own.aloadN 100 X124 hx (hb hby d7_99) rfl rfl rfl ?_
  refine Own.iload 102 X124 hx (hb hby d7_100) rfl rfl ?_
  refine Own.nLoad 103 (Own.N (a32)) X124 hx hZ e124 Cf_122 (by omega) (by simp [Own.upd]) (hb hby d7_102) rfl ?_
  refine Own.bipush 105 X124 hx (Own.N 64) (hb hby d7_103) rfl rfl ?_
  refine Own.idiv 106 X124 hx (hb hby d7_105) rfl (by decide) (Own.N_div (by omega) (by omega)) ?_
  refine Own.nStore 107 X124 hx hZ e124 Cf_120 (by omega) (hb hby d7_106) rfl ?_
  intro T125 h125 X125 e125 W125 C125
  have N125 := Fr.snoc X125 N107 g_lo
  have Ef_127 := Ef_109.wr W125
  have Ff_128 := Ff_110.other W125 (Or.inl ne_t_lo)
  have Ff_129 := Ff_111.other W125 (Or.inl ne_t_lo)
  have Ff_130 := Ff_112.other W125 (Or.inl ne_t_lo)
  have Ff_131 := Ff_113.other W125 (Or.inl ne_t_lo)
  have Ff_132 := Ff_114.other W125 (Or.inl ne_t_lo)
  have Ff_133 := Ff_115.other W125 (Or.inl ne_t_lo)
  have Ff_134 := Ff_116.other W125 (Or.inl ne_t_lo)
  have Ff_135 := Ff_117.other W125 (Or.inl ne_t_lo)
  have Cf_136 := Cf_119.other W125 ne_ib_lo
  have Cf_138 := Cf_121.other W125 ne_pp_lo
  have Cf_139 := Cf_122.other W125 (Ne.symm ne_lo_pl)
  have Cf_140 := Cf_123.other W125 (Ne.symm ne_lo_it)
  have Cf_141 := C107.other W125 ne_lb_lo
  have zl125 := Nat.le_trans zl107 (Nat.le_of_eq W125.size.symm)
  have K125 := K107.wr W125 (Or.inl (List.mem_of_getElem? (i := 3) rfl))
  refine Own.iinc 110 (fun c_142 => #[.val (.ref t), .val (.ref pp), .val (.int (Own.N (2))), .val (.ref pl), .val (.ref it), .val (.int c_142), .val (.int (Own.N (ord (p2 - 1))))]) X125 hx (Own.N 1) (hb hby d7_107) rfl rfl rfl (fun _ => rfl) fun c_142 hc_142 => ?_
  obtain rfl : c_142 = Own.N (1) := hc_142.trans (by decide)
  refine Own.goto 56 X125 hx (hb hby d7_110) (by decide) ?_
  refine Own.iload 58 X125 hx (hb hby d7_56) rfl rfl ?_
  refine Own.iloadN 59 X125 hx (hb hby d7_58) rfl rfl ?_
  refine Own.nicmp_ge 113 62 X125 hx (hb hby d7_59) (by decide) rfl (by omega) (by omega) (fun tk => False.elim (by omega)) (fun tk => ?_)
  refine Own.aload 64 X125 hx (hb hby d7_62) rfl rfl rfl ?_
  refine Own.iload 66 X125 hx (hb hby d7_64) rfl rfl ?_
  refine Own.nif_ne 75 69 X125 hx (hb hby d7_66) (by decide) rfl (by omega) (fun tk => ?_) (fun tk => False.elim (by omega))
  refine Own.iload 77 X125 hx (hb hby d7_75) rfl rfl ?_
  refine Own.iconst 78 X125 hx (Own.N 1) (hb hby d7_77) rfl rfl ?_
  refine Own.isub 79 X125 hx (hb hby d7_78) rfl (Own.N_sub (by omega)) ?_
  refine Own.nLoad 80 (Own.N (ord (p1 - 1))) X125 hx hZ e125 Cf_140 (by omega) (by simp [Own.upd]) (hb hby d7_79) rfl ?_
  refine Own.istoreV 82 #[.val (.ref t), .val (.ref pp), .val (.int (Own.N (2))), .val (.ref pl), .val (.ref it), .val (.int (Own.N (1))), .val (.int (Own.N (ord (p1 - 1))))] X125 hx (hb hby d7_80) rfl rfl ?_
  refine Own.aloadN 83 X125 hx (hb hby d7_82) rfl rfl rfl ?_
  refine Own.getFld 86 X125 hx hZ hown (host := "") (Or.inl (w 12 rfl)) Via.refl e125 Ff_128 (hb hby d7_83) rfl ?_
  intro T143 X143 e143
  refine Own.aloadN 87 X143 hx (hb hby d7_86) rfl rfl rfl ?_
  refine Own.iload 89 X143 hx (hb hby d7_87) rfl rfl ?_
  refine Own.nLoad 90 (Own.N (a69)) X143 hx hZ e143 Cf_139 (by omega) (by simp [Own.upd]) (hb hby d7_89) rfl ?_
  refine Own.iload 92 X143 hx (hb hby d7_90) rfl rfl ?_
  refine Own.nStore 93 X143 hx hZ e143 Cf_141 (by omega) (hb hby d7_92) rfl ?_
  intro T144 h144 X144 e144 W144 C144
  have N144 := Fr.snoc X144 N125 g_lb
  have Ef_146 := Ef_127.wr W144
  have Ff_147 := Ff_128.other W144 (Or.inl ne_t_lb)
  have Ff_148 := Ff_129.other W144 (Or.inl ne_t_lb)
  have Ff_149 := Ff_130.other W144 (Or.inl ne_t_lb)
  have Ff_150 := Ff_131.other W144 (Or.inl ne_t_lb)
  have Ff_151 := Ff_132.other W144 (Or.inl ne_t_lb)
  have Ff_152 := Ff_133.other W144 (Or.inl ne_t_lb)
  have Ff_153 := Ff_134.other W144 (Or.inl ne_t_lb)
  have Ff_154 := Ff_135.other W144 (Or.inl ne_t_lb)
  have Cf_155 := Cf_136.other W144 (Ne.symm ne_lb_ib)
  have Cf_156 := Cf_138.other W144 ne_pp_lb
  have Cf_157 := Cf_139.other W144 (Ne.symm ne_lb_pl)
  have Cf_158 := Cf_140.other W144 (Ne.symm ne_lb_it)
  have Cf_160 := C125.other W144 (Ne.symm ne_lb_lo)
  have zl144 := Nat.le_trans zl125 (Nat.le_of_eq W144.size.symm)
  have K144 := K125.wr W144 (Or.inl (List.mem_of_getElem? (i := 1) rfl))
  refine Own.aloadN 94 X144 hx (hb hby d7_93) rfl rfl rfl ?_
  refine Own.getFld 97 X144 hx hZ hown (host := "") (Or.inl (w 16 rfl)) Via.refl e144 Ff_151 (hb hby d7_94) rfl ?_
  intro T161 X161 e161
  refine Own.iload 99 X161 hx (hb hby d7_97) rfl rfl ?_
  refine Own.aloadN 100 X161 hx (hb hby d7_99) rfl rfl rfl ?_
  refine Own.iload 102 X161 hx (hb hby d7_100) rfl rfl ?_
  refine Own.nLoad 103 (Own.N (a69)) X161 hx hZ e161 Cf_157 (by omega) (by simp [Own.upd]) (hb hby d7_102) rfl ?_
  refine Own.bipush 105 X161 hx (Own.N 64) (hb hby d7_103) rfl rfl ?_
  refine Own.idiv 106 X161 hx (hb hby d7_105) rfl (by decide) (Own.N_div (by omega) (by omega)) ?_
  refine Own.nStore 107 X161 hx hZ e161 Cf_160 (by omega) (hb hby d7_106) rfl ?_
  intro T162 h162 X162 e162 W162 C162
  have N162 := Fr.snoc X162 N144 g_lo
  have Ef_164 := Ef_146.wr W162
  have Ff_165 := Ff_147.other W162 (Or.inl ne_t_lo)
  have Ff_166 := Ff_148.other W162 (Or.inl ne_t_lo)
  have Ff_167 := Ff_149.other W162 (Or.inl ne_t_lo)
  have Ff_168 := Ff_150.other W162 (Or.inl ne_t_lo)
  have Ff_169 := Ff_151.other W162 (Or.inl ne_t_lo)
  have Ff_170 := Ff_152.other W162 (Or.inl ne_t_lo)
  have Ff_171 := Ff_153.other W162 (Or.inl ne_t_lo)
  have Ff_172 := Ff_154.other W162 (Or.inl ne_t_lo)
  have Cf_173 := Cf_155.other W162 ne_ib_lo
  have Cf_174 := Cf_156.other W162 ne_pp_lo
  have Cf_175 := Cf_157.other W162 (Ne.symm ne_lo_pl)
  have Cf_176 := Cf_158.other W162 (Ne.symm ne_lo_it)
  have Cf_178 := C144.other W162 ne_lb_lo
  have zl162 := Nat.le_trans zl144 (Nat.le_of_eq W162.size.symm)
  have K162 := K144.wr W162 (Or.inl (List.mem_of_getElem? (i := 3) rfl))
  refine Own.iinc 110 (fun c_179 => #[.val (.ref t), .val (.ref pp), .val (.int (Own.N (2))), .val (.ref pl), .val (.ref it), .val (.int c_179), .val (.int (Own.N (ord (p1 - 1))))]) X162 hx (Own.N 1) (hb hby d7_107) rfl rfl rfl (fun _ => rfl) fun c_179 hc_179 => ?_
  obtain rfl : c_179 = Own.N (2) := hc_179.trans (by decide)
  refine Own.goto 56 X162 hx (hb hby d7_110) (by decide) ?_
  refine Own.iload 58 X162 hx (hb hby d7_56) rfl rfl ?_
  refine Own.iloadN 59 X162 hx (hb hby d7_58) rfl rfl ?_
  refine Own.nicmp_ge 113 62 X162 hx (hb hby d7_59) (by decide) rfl (by omega) (by omega) (fun tk => ?_) (fun tk => False.elim (by omega))
  refine Own.retVoid X162 hx hlk hret (hb hby d7_113) (by decide) (by decide) ?_
  rw [e162]
  exact ⟨rfl, N162, K162, _, _, ⟨Ef_164, Ff_165, Ff_166, Ff_167, Ff_168, Ff_169, Ff_170, Ff_171, Ff_172, Cf_178, Cf_173, C162⟩, own_T_L TT (fun j hj => ⟨by rw [Own.upd_miss (own_Pl_off P hB pl_2 hj).2.1, Own.upd_miss (own_Pl_off P hB pl_1 hj).2.1], by rw [Own.upd_miss (own_Pl_off P hB pl_2 hj).2.2, Own.upd_miss (own_Pl_off P hB pl_1 hj).2.2]⟩), own_ro2_Lf P hB Lf O pl_1 pl_2 (by omega)⟩
set_option maxRecDepth 65536 in
set_option maxHeartbeats 40000000 in
theorem m7_3 (l : Launch) (Z : State) (a0 : Array Value) (w : ∀ (i : Nat) {d : Jvm.Cond}, tables_1[i]? = some d → d.before a0 Z = true) (t : Addr) (pp : Addr) (lb ib lo : Addr) (lv inn rt ht rg zL zI zO n0 : Nat) (fL fI fO : Nat → Int32)(p1 p2 p3 : Nat) (fP : Nat → Int32)(L n' B : Nat) (pre : Nat → Nat)(ord : Nat → Nat) (h0 : Heap) (Z0 : n0 ≤ h0.size) (D0 : own_D n0 t lb ib lo) (S0 : own_S Z h0 t lb ib lo lv inn rt ht rg zL zI zO fL fI fO)(TT : own_T L n' B rt ht rg zL zI pre fL fI)(O : own_Or n' zO ord) (Lf : own_Lf L pre ord fL fO)(bz : zO < 1000000) (Cp : Own.Arf Z h0 pp 3 fP) (nep : pp ≠ t ∧ pp ≠ lb ∧ pp ≠ ib ∧ pp ≠ lo) (hp1 : fP 0 = Own.N p1) (hq1 : 1 ≤ p1 ∧ p1 ≤ n') (hp2 : fP 1 = Own.N p2) (hq2 : 1 ≤ p2 ∧ p2 ≤ n') (hp3 : fP 2 = Own.N p3) (hq3 : 1 ≤ p3 ∧ p3 ≤ n') (d12 : p1 ≠ p2) (d13 : p3 ≠ p1) (d23 : p3 ≠ p2) :
    Own.Met l Z (⟨"com/example/frontrank/frontrank/OrderTree", "rotate", "([I)V"⟩ : MethodName) prog_32_method_6_code 7 none [] ({ frames := 1, cells := 2, slots := 6, locals := 21 } : Room) #[(.ref t), (.ref pp)] h0 (fun v h L' => v = none ∧ Fr n0 L' ∧ Keep h0 h [t, lb, ib, lo] ∧ ∃ fL' fO', own_S Z h t lb ib lo lv inn rt ht rg zL zI zO fL' fI fO' ∧ own_T L n' B rt ht rg zL zI pre fL' fI ∧ own_Lf L pre (own_ro 3 (p1 - 1) (p2 - 1) (p3 - 1) ord) fL' fO') := by
  refine Own.Met.of (plainFor_of_name (by first | (simp [plainName, overriddenIn]; done) | decide +kernel)) ?_
  intro p e s m below meth c T0 hx hby hml hown hnm hret hlk hZ X0 e0
  have hown : s.vm.findClass "com/example/frontrank/frontrank/OrderTree" = some m.cls := hown
  have hml : c.maxLocals = 7 := hml
  have hnm : meth.name = "rotate" := hnm
  have ef : entryFrame m #[(.ref t), (.ref pp)] 7 = mkF m 0 #[.val (.ref t), .val (.ref pp), .unset, .unset, .unset, .unset, .unset] [] := by first | (simp [entryFrame, mkF, argsToLocals, Value.category]; done) | rfl
  rw [ef]
  have N0 := Fr.nil n0
  have D00 := D0
  obtain ⟨ne_t_lb, ne_t_ib, ne_t_lo, ne_lb_ib, ne_lb_lo, ne_ib_lo, g_t, g_lb, g_ib, g_lo⟩ := D0
  obtain ⟨E_0, Fleaks_0, Fleaes_0, Finnks_0, Finnrs_0, FleaOf_0, Frooot_0, Fheiht_0, Fregar_0, Clb_0, Cib_0, Clo_0⟩ := S0
  obtain ⟨ne_pp_t, ne_pp_lb, ne_pp_ib, ne_pp_lo⟩ := nep
  have TT' := TT
  obtain ⟨P, hB, hL1, hL2, hn', hT, hR, hzI, hzI2, hzL, hzL2⟩ := TT'
  refine Own.aloadN 1 X0 hx (hb hby d7_0) rfl rfl rfl ?_
  refine Own.nLen 2 X0 hx hZ e0 Cp (hb hby d7_1) rfl ?_
  refine Own.istoreNV 3 #[.val (.ref t), .val (.ref pp), .val (.int (Own.N (3))), .unset, .unset, .unset, .unset] X0 hx (hb hby d7_2) rfl rfl ?_
  refine Own.iloadN 4 X0 hx (hb hby d7_3) rfl rfl ?_
  refine Own.nNew 6 3 X0 hx hZ (w 1 rfl) e0 (by omega) (by decide) (hb hby d7_4) rfl (by decide) (by decide) ?_
  intro T1 h1 pl z1 X1 e1 E1 C1
  have ne_ib_pl : ib ≠ pl := Nat.ne_of_lt (Nat.lt_of_lt_of_le Cib_0.lt (Nat.le_of_eq z1.symm))
  have ne_lb_pl : lb ≠ pl := Nat.ne_of_lt (Nat.lt_of_lt_of_le Clb_0.lt (Nat.le_of_eq z1.symm))
  have ne_lo_pl : lo ≠ pl := Nat.ne_of_lt (Nat.lt_of_lt_of_le Clo_0.lt (Nat.le_of_eq z1.symm))
  have ne_pp_pl : pp ≠ pl := Nat.ne_of_lt (Nat.lt_of_lt_of_le Cp.lt (Nat.le_of_eq z1.symm))
  have ne_t_pl : t ≠ pl := Nat.ne_of_lt (Nat.lt_of_lt_of_le E_0.lt (Nat.le_of_eq z1.symm))
  have g_pl : n0 ≤ pl := Nat.le_trans Z0 (Nat.le_of_eq z1.symm)
  have sz_pl : h0.size ≤ pl := Nat.le_trans (Keep.refl h0 [t, lb, ib, lo]).1 (Nat.le_of_eq z1.symm)
  have K1 := (Keep.refl h0 [t, lb, ib, lo]).ext E1
  have Ef_3 := E_0.ext E1
  have Ff_4 := Fleaks_0.ext E1
  have Ff_5 := Fleaes_0.ext E1
  have Ff_6 := Finnks_0.ext E1
  have Ff_7 := Finnrs_0.ext E1
  have Ff_8 := FleaOf_0.ext E1
  have Ff_9 := Frooot_0.ext E1
  have Ff_10 := Fheiht_0.ext E1
  have Ff_11 := Fregar_0.ext E1
  have Cf_12 := Clb_0.ext E1
  have Cf_13 := Cib_0.ext E1
  have Cf_14 := Clo_0.ext E1
  have Cf_15 := Cp.ext E1
  have zl1 := Nat.le_trans Z0 E1.1
  refine Own.astoreN 7 #[.val (.ref t), .val (.ref pp), .val (.int (Own.N (3))), .val (.ref pl), .unset, .unset, .unset] X1 hx (hb hby d7_6) rfl rfl rfl ?_
  refine Own.iloadN 8 X1 hx (hb hby d7_7) rfl rfl ?_
  refine Own.nNew 10 3 X1 hx hZ (w 1 rfl) e1 (by omega) (by decide) (hb hby d7_8) rfl (by decide) (by decide) ?_
  intro T16 h16 it z16 X16 e16 E16 C16
  have ne_ib_it : ib ≠ it := Nat.ne_of_lt (Nat.lt_of_lt_of_le Cf_13.lt (Nat.le_of_eq z16.symm))
  have ne_lb_it : lb ≠ it := Nat.ne_of_lt (Nat.lt_of_lt_of_le Cf_12.lt (Nat.le_of_eq z16.symm))
  have ne_lo_it : lo ≠ it := Nat.ne_of_lt (Nat.lt_of_lt_of_le Cf_14.lt (Nat.le_of_eq z16.symm))
  have ne_pl_it : pl ≠ it := Nat.ne_of_lt (Nat.lt_of_lt_of_le C1.lt (Nat.le_of_eq z16.symm))
  have ne_pp_it : pp ≠ it := Nat.ne_of_lt (Nat.lt_of_lt_of_le Cf_15.lt (Nat.le_of_eq z16.symm))
  have ne_t_it : t ≠ it := Nat.ne_of_lt (Nat.lt_of_lt_of_le Ef_3.lt (Nat.le_of_eq z16.symm))
  have g_it : n0 ≤ it := Nat.le_trans zl1 (Nat.le_of_eq z16.symm)
  have sz_it : h0.size ≤ it := Nat.le_trans K1.1 (Nat.le_of_eq z16.symm)
  have K16 := K1.ext E16
  have Ef_18 := Ef_3.ext E16
  have Ff_19 := Ff_4.ext E16
  have Ff_20 := Ff_5.ext E16
  have Ff_21 := Ff_6.ext E16
  have Ff_22 := Ff_7.ext E16
  have Ff_23 := Ff_8.ext E16
  have Ff_24 := Ff_9.ext E16
  have Ff_25 := Ff_10.ext E16
  have Ff_26 := Ff_11.ext E16
  have Cf_27 := Cf_12.ext E16
  have Cf_28 := Cf_13.ext E16
  have Cf_29 := Cf_14.ext E16
  have Cf_30 := Cf_15.ext E16
  have Cf_31 := C1.ext E16
  have zl16 := Nat.le_trans zl1 E16.1
  refine Own.astore 12 #[.val (.ref t), .val (.ref pp), .val (.int (Own.N (3))), .val (.ref pl), .val (.ref it), .unset, .unset] X16 hx (hb hby d7_10) rfl rfl rfl ?_
  refine Own.iconst 13 X16 hx (Own.N 0) (hb hby d7_12) rfl rfl ?_
  refine Own.istoreV 15 #[.val (.ref t), .val (.ref pp), .val (.int (Own.N (3))), .val (.ref pl), .val (.ref it), .val (.int (Own.N (0))), .unset] X16 hx (hb hby d7_13) rfl rfl ?_
  refine Own.iload 17 X16 hx (hb hby d7_15) rfl rfl ?_
  refine Own.iloadN 18 X16 hx (hb hby d7_17) rfl rfl ?_
  refine Own.nicmp_ge 53 21 X16 hx (hb hby d7_18) (by decide) rfl (by omega) (by omega) (fun tk => False.elim (by omega)) (fun tk => ?_)
  refine Own.aloadN 22 X16 hx (hb hby d7_21) rfl rfl rfl ?_
  refine Own.iload 24 X16 hx (hb hby d7_22) rfl rfl ?_
  refine Own.aloadN 25 X16 hx (hb hby d7_24) rfl rfl rfl ?_
  refine Own.aloadN 26 X16 hx (hb hby d7_25) rfl rfl rfl ?_
  refine Own.iload 28 X16 hx (hb hby d7_26) rfl rfl ?_
  refine Own.nLoad 29 (Own.N (p1)) X16 hx hZ e16 Cf_30 (by omega) hp1 (hb hby d7_28) rfl ?_
  refine Own.callPr 32 2 t [(.int (Own.N (p1)))] [(.int (Own.N (0))), (.ref pl)] X16 hx hZ hown (m8 l Z a0 w t lb ib lo _ _ _ _ _ _ _ _ n0 _ _ _ p1 L n' B pre _ ⟨Ef_18, Ff_19, Ff_20, Ff_21, Ff_22, Ff_23, Ff_24, Ff_25, Ff_26, Cf_27, Cf_28, Cf_29⟩ TT hq1) Ef_18 (w 53 rfl) (w 55 rfl) (w 3 rfl) (w 54 rfl) (w 4 rfl) (w 56 rfl) (by decide) e16 (by decide) (by decide) (by decide) (by decide) (by rw [hml]; rfl) (lenOf pd_1 rfl) rfl (Nat.le_of_eq rfl) (hb hby d7_29) rfl ?_
  rintro vv T32 L32 X32 ⟨a32, rfl, pl32, hh32, rfl⟩
  have N32 := Fr.app N0 (Fr.nil _)
  have vv32 : fL a32 = Own.N (ord (p1 - 1)) ∧ a32 < zL ∧ ord (p1 - 1) < zO := by
    obtain ⟨jj, kz, hj, hk1, hk2, ha⟩ := pl32
    have pj := P.2.2 jj hj
    exact ⟨Own.at_ ha (hk1 ▸ ((Lf jj hj).2 kz hk2).1), by omega, (O (p1 - 1) (by omega)).1⟩
  obtain ⟨va1, vb1, vc1⟩ := vv32
  have pl_1 := pl32
  refine Own.nStore 33 X32 hx hZ hh32 Cf_31 (by omega) (hb hby d7_32) rfl ?_
  intro T33 h33 X33 e33 W33 C33
  have N33 := Fr.snoc X33 N32 g_pl
  have Ef_35 := Ef_18.wr W33
  have Ff_36 := Ff_19.other W33 (Or.inl ne_t_pl)
  have Ff_37 := Ff_20.other W33 (Or.inl ne_t_pl)
  have Ff_38 := Ff_21.other W33 (Or.inl ne_t_pl)
  have Ff_39 := Ff_22.other W33 (Or.inl ne_t_pl)
  have Ff_40 := Ff_23.other W33 (Or.inl ne_t_pl)
  have Ff_41 := Ff_24.other W33 (Or.inl ne_t_pl)
  have Ff_42 := Ff_25.other W33 (Or.inl ne_t_pl)
  have Ff_43 := Ff_26.other W33 (Or.inl ne_t_pl)
  have Cf_44 := Cf_27.other W33 ne_lb_pl
  have Cf_45 := Cf_28.other W33 ne_ib_pl
  have Cf_46 := Cf_29.other W33 ne_lo_pl
  have Cf_47 := Cf_30.other W33 ne_pp_pl
  have Cf_49 := C16.other W33 (Ne.symm ne_pl_it)
  have zl33 := Nat.le_trans zl16 (Nat.le_of_eq W33.size.symm)
  have K33 := K16.wr W33 (Or.inr sz_pl)
  refine Own.aload 35 X33 hx (hb hby d7_33) rfl rfl rfl ?_
  refine Own.iload 37 X33 hx (hb hby d7_35) rfl rfl ?_
  refine Own.aloadN 38 X33 hx (hb hby d7_37) rfl rfl rfl ?_
  refine Own.getFld 41 X33 hx hZ hown (host := "") (Or.inl (w 12 rfl)) Via.refl e33 Ff_36 (hb hby d7_38) rfl ?_
  intro T50 X50 e50
  refine Own.aloadN 42 X50 hx (hb hby d7_41) rfl rfl rfl ?_
  refine Own.iload 44 X50 hx (hb hby d7_42) rfl rfl ?_
  refine Own.nLoad 45 (Own.N (a32)) X50 hx hZ e50 C33 (by omega) (by simp [Own.upd]) (hb hby d7_44) rfl ?_
  refine Own.nLoad 46 (Own.N (ord (p1 - 1))) X50 hx hZ e50 Cf_44 (by omega) va1 (hb hby d7_45) rfl ?_
  refine Own.nStore 47 X50 hx hZ e50 Cf_49 (by omega) (hb hby d7_46) rfl ?_
  intro T51 h51 X51 e51 W51 C51
  have N51 := Fr.snoc X51 N33 g_it
  have Ef_53 := Ef_35.wr W51
  have Ff_54 := Ff_36.other W51 (Or.inl ne_t_it)
  have Ff_55 := Ff_37.other W51 (Or.inl ne_t_it)
  have Ff_56 := Ff_38.other W51 (Or.inl ne_t_it)
  have Ff_57 := Ff_39.other W51 (Or.inl ne_t_it)
  have Ff_58 := Ff_40.other W51 (Or.inl ne_t_it)
  have Ff_59 := Ff_41.other W51 (Or.inl ne_t_it)
  have Ff_60 := Ff_42.other W51 (Or.inl ne_t_it)
  have Ff_61 := Ff_43.other W51 (Or.inl ne_t_it)
  have Cf_62 := Cf_44.other W51 ne_lb_it
  have Cf_63 := Cf_45.other W51 ne_ib_it
  have Cf_64 := Cf_46.other W51 ne_lo_it
  have Cf_65 := Cf_47.other W51 ne_pp_it
  have Cf_67 := C33.other W51 ne_pl_it
  have zl51 := Nat.le_trans zl33 (Nat.le_of_eq W51.size.symm)
  have K51 := K33.wr W51 (Or.inr sz_it)
  refine Own.iinc 50 (fun c_68 => #[.val (.ref t), .val (.ref pp), .val (.int (Own.N (3))), .val (.ref pl), .val (.ref it), .val (.int c_68), .unset]) X51 hx (Own.N 1) (hb hby d7_47) rfl rfl rfl (fun _ => rfl) fun c_68 hc_68 => ?_
  obtain rfl : c_68 = Own.N (1) := hc_68.trans (by decide)
  refine Own.goto 15 X51 hx (hb hby d7_50) (by decide) ?_
  refine Own.iload 17 X51 hx (hb hby d7_15) rfl rfl ?_
  refine Own.iloadN 18 X51 hx (hb hby d7_17) rfl rfl ?_
  refine Own.nicmp_ge 53 21 X51 hx (hb hby d7_18) (by decide) rfl (by omega) (by omega) (fun tk => False.elim (by omega)) (fun tk => ?_)
  refine Own.aloadN 22 X51 hx (hb hby d7_21) rfl rfl rfl ?_
  refine Own.iload 24 X51 hx (hb hby d7_22) rfl rfl ?_
  refine Own.aloadN 25 X51 hx (hb hby d7_24) rfl rfl rfl ?_
  refine Own.aloadN 26 X51 hx (hb hby d7_25) rfl rfl rfl ?_
  refine Own.iload 28 X51 hx (hb hby d7_26) rfl rfl ?_
  refine Own.nLoad 29 (Own.N (p2)) X51 hx hZ e51 Cf_65 (by omega) hp2 (hb hby d7_28) rfl ?_
  refine Own.callPr 32 2 t [(.int (Own.N (p2)))] [(.int (Own.N (1))), (.ref pl)] X51 hx hZ hown (m8 l Z a0 w t lb ib lo _ _ _ _ _ _ _ _ n0 _ _ _ p2 L n' B pre _ ⟨Ef_53, Ff_54, Ff_55, Ff_56, Ff_57, Ff_58, Ff_59, Ff_60, Ff_61, Cf_62, Cf_63, Cf_64⟩ TT hq2) Ef_53 (w 53 rfl) (w 55 rfl) (w 3 rfl) (w 54 rfl) (w 4 rfl) (w 56 rfl) (by decide) e51 (by decide) (by decide) (by decide) (by decide) (by rw [hml]; rfl) (lenOf pd_1 rfl) rfl (Nat.le_of_eq rfl) (hb hby d7_29) rfl ?_
  rintro vv T69 L69 X69 ⟨a69, rfl, pl69, hh69, rfl⟩
  have N69 := Fr.app N51 (Fr.nil _)
  have vv69 : fL a69 = Own.N (ord (p2 - 1)) ∧ a69 < zL ∧ ord (p2 - 1) < zO := by
    obtain ⟨jj, kz, hj, hk1, hk2, ha⟩ := pl69
    have pj := P.2.2 jj hj
    exact ⟨Own.at_ ha (hk1 ▸ ((Lf jj hj).2 kz hk2).1), by omega, (O (p2 - 1) (by omega)).1⟩
  obtain ⟨va2, vb2, vc2⟩ := vv69
  have pl_2 := pl69
  refine Own.nStore 33 X69 hx hZ hh69 Cf_67 (by omega) (hb hby d7_32) rfl ?_
  intro T70 h70 X70 e70 W70 C70
  have N70 := Fr.snoc X70 N69 g_pl
  have Ef_72 := Ef_53.wr W70
  have Ff_73 := Ff_54.other W70 (Or.inl ne_t_pl)
  have Ff_74 := Ff_55.other W70 (Or.inl ne_t_pl)
  have Ff_75 := Ff_56.other W70 (Or.inl ne_t_pl)
  have Ff_76 := Ff_57.other W70 (Or.inl ne_t_pl)
  have Ff_77 := Ff_58.other W70 (Or.inl ne_t_pl)
  have Ff_78 := Ff_59.other W70 (Or.inl ne_t_pl)
  have Ff_79 := Ff_60.other W70 (Or.inl ne_t_pl)
  have Ff_80 := Ff_61.other W70 (Or.inl ne_t_pl)
  have Cf_81 := Cf_62.other W70 ne_lb_pl
  have Cf_82 := Cf_63.other W70 ne_ib_pl
  have Cf_83 := Cf_64.other W70 ne_lo_pl
  have Cf_84 := Cf_65.other W70 ne_pp_pl
  have Cf_86 := C51.other W70 (Ne.symm ne_pl_it)
  have zl70 := Nat.le_trans zl51 (Nat.le_of_eq W70.size.symm)
  have K70 := K51.wr W70 (Or.inr sz_pl)
  refine Own.aload 35 X70 hx (hb hby d7_33) rfl rfl rfl ?_
  refine Own.iload 37 X70 hx (hb hby d7_35) rfl rfl ?_
  refine Own.aloadN 38 X70 hx (hb hby d7_37) rfl rfl rfl ?_
  refine Own.getFld 41 X70 hx hZ hown (host := "") (Or.inl (w 12 rfl)) Via.refl e70 Ff_73 (hb hby d7_38) rfl ?_
  intro T87 X87 e87
  refine Own.aloadN 42 X87 hx (hb hby d7_41) rfl rfl rfl ?_
  refine Own.iload 44 X87 hx (hb hby d7_42) rfl rfl ?_
  refine Own.nLoad 45 (Own.N (a69)) X87 hx hZ e87 C70 (by omega) (by simp [Own.upd]) (hb hby d7_44) rfl ?_
  refine Own.nLoad 46 (Own.N (ord (p2 - 1))) X87 hx hZ e87 Cf_81 (by omega) va2 (hb hby d7_45) rfl ?_
  refine Own.nStore 47 X87 hx hZ e87 Cf_86 (by omega) (hb hby d7_46) rfl ?_
  intro T88 h88 X88 e88 W88 C88
  have N88 := Fr.snoc X88 N70 g_it
  have Ef_90 := Ef_72.wr W88
  have Ff_91 := Ff_73.other W88 (Or.inl ne_t_it)
  have Ff_92 := Ff_74.other W88 (Or.inl ne_t_it)
  have Ff_93 := Ff_75.other W88 (Or.inl ne_t_it)
  have Ff_94 := Ff_76.other W88 (Or.inl ne_t_it)
  have Ff_95 := Ff_77.other W88 (Or.inl ne_t_it)
  have Ff_96 := Ff_78.other W88 (Or.inl ne_t_it)
  have Ff_97 := Ff_79.other W88 (Or.inl ne_t_it)
  have Ff_98 := Ff_80.other W88 (Or.inl ne_t_it)
  have Cf_99 := Cf_81.other W88 ne_lb_it
  have Cf_100 := Cf_82.other W88 ne_ib_it
  have Cf_101 := Cf_83.other W88 ne_lo_it
  have Cf_102 := Cf_84.other W88 ne_pp_it
  have Cf_104 := C70.other W88 ne_pl_it
  have zl88 := Nat.le_trans zl70 (Nat.le_of_eq W88.size.symm)
  have K88 := K70.wr W88 (Or.inr sz_it)
  refine Own.iinc 50 (fun c_105 => #[.val (.ref t), .val (.ref pp), .val (.int (Own.N (3))), .val (.ref pl), .val (.ref it), .val (.int c_105), .unset]) X88 hx (Own.N 1) (hb hby d7_47) rfl rfl rfl (fun _ => rfl) fun c_105 hc_105 => ?_
  obtain rfl : c_105 = Own.N (2) := hc_105.trans (by decide)
  refine Own.goto 15 X88 hx (hb hby d7_50) (by decide) ?_
  refine Own.iload 17 X88 hx (hb hby d7_15) rfl rfl ?_
  refine Own.iloadN 18 X88 hx (hb hby d7_17) rfl rfl ?_
  refine Own.nicmp_ge 53 21 X88 hx (hb hby d7_18) (by decide) rfl (by omega) (by omega) (fun tk => False.elim (by omega)) (fun tk => ?_)
  refine Own.aloadN 22 X88 hx (hb hby d7_21) rfl rfl rfl ?_
  refine Own.iload 24 X88 hx (hb hby d7_22) rfl rfl ?_
  refine Own.aloadN 25 X88 hx (hb hby d7_24) rfl rfl rfl ?_
  refine Own.aloadN 26 X88 hx (hb hby d7_25) rfl rfl rfl ?_
  refine Own.iload 28 X88 hx (hb hby d7_26) rfl rfl ?_
  refine Own.nLoad 29 (Own.N (p3)) X88 hx hZ e88 Cf_102 (by omega) hp3 (hb hby d7_28) rfl ?_
  refine Own.callPr 32 2 t [(.int (Own.N (p3)))] [(.int (Own.N (2))), (.ref pl)] X88 hx hZ hown (m8 l Z a0 w t lb ib lo _ _ _ _ _ _ _ _ n0 _ _ _ p3 L n' B pre _ ⟨Ef_90, Ff_91, Ff_92, Ff_93, Ff_94, Ff_95, Ff_96, Ff_97, Ff_98, Cf_99, Cf_100, Cf_101⟩ TT hq3) Ef_90 (w 53 rfl) (w 55 rfl) (w 3 rfl) (w 54 rfl) (w 4 rfl) (w 56 rfl) (by decide) e88 (by decide) (by decide) (by decide) (by decide) (by rw [hml]; rfl) (lenOf pd_1 rfl) rfl (Nat.le_of_eq rfl) (hb hby d7_29) rfl ?_
  rintro vv T106 L106 X106 ⟨a106, rfl, pl106, hh106, rfl⟩
  have N106 := Fr.app N88 (Fr.nil _)
  have vv106 : fL a106 = Own.N (ord (p3 - 1)) ∧ a106 < zL ∧ ord (p3 - 1) < zO := by
    obtain ⟨jj, kz, hj, hk1, hk2, ha⟩ := pl106
    have pj := P.2.2 jj hj
    exact ⟨Own.at_ ha (hk1 ▸ ((Lf jj hj).2 kz hk2).1), by omega, (O (p3 - 1) (by omega)).1⟩
  obtain ⟨va3, vb3, vc3⟩ := vv106
  have pl_3 := pl106
  refine Own.nStore 33 X106 hx hZ hh106 Cf_104 (by omega) (hb hby d7_32) rfl ?_
  intro T107 h107 X107 e107 W107 C107
  have N107 := Fr.snoc X107 N106 g_pl
  have Ef_109 := Ef_90.wr W107
  have Ff_110 := Ff_91.other W107 (Or.inl ne_t_pl)
  have Ff_111 := Ff_92.other W107 (Or.inl ne_t_pl)
  have Ff_112 := Ff_93.other W107 (Or.inl ne_t_pl)
  have Ff_113 := Ff_94.other W107 (Or.inl ne_t_pl)
  have Ff_114 := Ff_95.other W107 (Or.inl ne_t_pl)
  have Ff_115 := Ff_96.other W107 (Or.inl ne_t_pl)
  have Ff_116 := Ff_97.other W107 (Or.inl ne_t_pl)
  have Ff_117 := Ff_98.other W107 (Or.inl ne_t_pl)
  have Cf_118 := Cf_99.other W107 ne_lb_pl
  have Cf_119 := Cf_100.other W107 ne_ib_pl
  have Cf_120 := Cf_101.other W107 ne_lo_pl
  have Cf_121 := Cf_102.other W107 ne_pp_pl
  have Cf_123 := C88.other W107 (Ne.symm ne_pl_it)
  have zl107 := Nat.le_trans zl88 (Nat.le_of_eq W107.size.symm)
  have K107 := K88.wr W107 (Or.inr sz_pl)
  refine Own.aload 35 X107 hx (hb hby d7_33) rfl rfl rfl ?_
  refine Own.iload 37 X107 hx (hb hby d7_35) rfl rfl ?_
  refine Own.aloadN 38 X107 hx (hb hby d7_37) rfl rfl rfl ?_
  refine Own.getFld 41 X107 hx hZ hown (host := "") (Or.inl (w 12 rfl)) Via.refl e107 Ff_110 (hb hby d7_38) rfl ?_
  intro T124 X124 e124
  refine Own.aloadN 42 X124 hx (hb hby d7_41) rfl rfl rfl ?_
  refine Own.iload 44 X124 hx (hb hby d7_42) rfl rfl ?_
  refine Own.nLoad 45 (Own.N (a106)) X124 hx hZ e124 C107 (by omega) (by simp [Own.upd]) (hb hby d7_44) rfl ?_
  refine Own.nLoad 46 (Own.N (ord (p3 - 1))) X124 hx hZ e124 Cf_118 (by omega) va3 (hb hby d7_45) rfl ?_
  refine Own.nStore 47 X124 hx hZ e124 Cf_123 (by omega) (hb hby d7_46) rfl ?_
  intro T125 h125 X125 e125 W125 C125
  have N125 := Fr.snoc X125 N107 g_it
  have Ef_127 := Ef_109.wr W125
  have Ff_128 := Ff_110.other W125 (Or.inl ne_t_it)
  have Ff_129 := Ff_111.other W125 (Or.inl ne_t_it)
  have Ff_130 := Ff_112.other W125 (Or.inl ne_t_it)
  have Ff_131 := Ff_113.other W125 (Or.inl ne_t_it)
  have Ff_132 := Ff_114.other W125 (Or.inl ne_t_it)
  have Ff_133 := Ff_115.other W125 (Or.inl ne_t_it)
  have Ff_134 := Ff_116.other W125 (Or.inl ne_t_it)
  have Ff_135 := Ff_117.other W125 (Or.inl ne_t_it)
  have Cf_136 := Cf_118.other W125 ne_lb_it
  have Cf_137 := Cf_119.other W125 ne_ib_it
  have Cf_138 := Cf_120.other W125 ne_lo_it
  have Cf_139 := Cf_121.other W125 ne_pp_it
  have Cf_141 := C107.other W125 ne_pl_it
  have zl125 := Nat.le_trans zl107 (Nat.le_of_eq W125.size.symm)
  have K125 := K107.wr W125 (Or.inr sz_it)
  refine Own.iinc 50 (fun c_142 => #[.val (.ref t), .val (.ref pp), .val (.int (Own.N (3))), .val (.ref pl), .val (.ref it), .val (.int c_142), .unset]) X125 hx (Own.N 1) (hb hby d7_47) rfl rfl rfl (fun _ => rfl) fun c_142 hc_142 => ?_
  obtain rfl : c_142 = Own.N (3) := hc_142.trans (by decide)
  refine Own.goto 15 X125 hx (hb hby d7_50) (by decide) ?_
  refine Own.iload 17 X125 hx (hb hby d7_15) rfl rfl ?_
  refine Own.iloadN 18 X125 hx (hb hby d7_17) rfl rfl ?_
  refine Own.nicmp_ge 53 21 X125 hx (hb hby d7_18) (by decide) rfl (by omega) (by omega) (fun tk => ?_) (fun tk => False.elim (by omega))
  refine Own.iconst 54 X125 hx (Own.N 0) (hb hby d7_53) rfl rfl ?_
  refine Own.istoreV 56 #[.val (.ref t), .val (.ref pp), .val (.int (Own.N (3))), .val (.ref pl), .val (.ref it), .val (.int (Own.N (0))), .unset] X125 hx (hb hby d7_54) rfl rfl ?_
  refine Own.iload 58 X125 hx (hb hby d7_56) rfl rfl ?_
  refine Own.iloadN 59 X125 hx (hb hby d7_58) rfl rfl ?_
  refine Own.nicmp_ge 113 62 X125 hx (hb hby d7_59) (by decide) rfl (by omega) (by omega) (fun tk => False.elim (by omega)) (fun tk => ?_)
  refine Own.aload 64 X125 hx (hb hby d7_62) rfl rfl rfl ?_
  refine Own.iload 66 X125 hx (hb hby d7_64) rfl rfl ?_
  refine Own.nif_ne 75 69 X125 hx (hb hby d7_66) (by decide) rfl (by omega) (fun tk => False.elim (by omega)) (fun tk => ?_)
  refine Own.iloadN 70 X125 hx (hb hby d7_69) rfl rfl ?_
  refine Own.iconst 71 X125 hx (Own.N 1) (hb hby d7_70) rfl rfl ?_
  refine Own.isub 72 X125 hx (hb hby d7_71) rfl (Own.N_sub (by omega)) ?_
  refine Own.goto 79 X125 hx (hb hby d7_72) (by decide) ?_
  refine Own.nLoad 80 (Own.N (ord (p3 - 1))) X125 hx hZ e125 C125 (by omega) (by simp [Own.upd]) (hb hby d7_79) rfl ?_
  refine Own.istoreV 82 #[.val (.ref t), .val (.ref pp), .val (.int (Own.N (3))), .val (.ref pl), .val (.ref it), .val (.int (Own.N (0))), .val (.int (Own.N (ord (p3 - 1))))] X125 hx (hb hby d7_80) rfl rfl ?_
  refine Own.aloadN 83 X125 hx (hb hby d7_82) rfl rfl rfl ?_
  refine Own.getFld 86 X125 hx hZ hown (host := "") (Or.inl (w 12 rfl)) Via.refl e125 Ff_128 (hb hby d7_83) rfl ?_
  intro T143 X143 e143
  refine Own.aloadN 87 X143 hx (hb hby d7_86) rfl rfl rfl ?_
  refine Own.iload 89 X143 hx (hb hby d7_87) rfl rfl ?_
  refine Own.nLoad 90 (Own.N (a32)) X143 hx hZ e143 Cf_141 (by omega) (by simp [Own.upd]) (hb hby d7_89) rfl ?_
  refine Own.iload 92 X143 hx (hb hby d7_90) rfl rfl ?_
  refine Own.nStore 93 X143 hx hZ e143 Cf_136 (by omega) (hb hby d7_92) rfl ?_
  intro T144 h144 X144 e144 W144 C144
  have N144 := Fr.snoc X144 N125 g_lb
  have Ef_146 := Ef_127.wr W144
  have Ff_147 := Ff_128.other W144 (Or.inl ne_t_lb)
  have Ff_148 := Ff_129.other W144 (Or.inl ne_t_lb)
  have Ff_149 := Ff_130.other W144 (Or.inl ne_t_lb)
  have Ff_150 := Ff_131.other W144 (Or.inl ne_t_lb)
  have Ff_151 := Ff_132.other W144 (Or.inl ne_t_lb)
  have Ff_152 := Ff_133.other W144 (Or.inl ne_t_lb)
  have Ff_153 := Ff_134.other W144 (Or.inl ne_t_lb)
  have Ff_154 := Ff_135.other W144 (Or.inl ne_t_lb)
  have Cf_156 := Cf_137.other W144 (Ne.symm ne_lb_ib)
  have Cf_157 := Cf_138.other W144 (Ne.symm ne_lb_lo)
  have Cf_158 := Cf_139.other W144 ne_pp_lb
  have Cf_159 := Cf_141.other W144 (Ne.symm ne_lb_pl)
  have Cf_160 := C125.other W144 (Ne.symm ne_lb_it)
  have zl144 := Nat.le_trans zl125 (Nat.le_of_eq W144.size.symm)
  have K144 := K125.wr W144 (Or.inl (List.mem_of_getElem? (i := 1) rfl))
  refine Own.aloadN 94 X144 hx (hb hby d7_93) rfl rfl rfl ?_
  refine Own.getFld 97 X144 hx hZ hown (host := "") (Or.inl (w 16 rfl)) Via.refl e144 Ff_151 (hb hby d7_94) rfl ?_
  intro T161 X161 e161
  refine Own.iload 99 X161 hx (hb hby d7_97) rfl rfl ?_
  refine Own.aloadN 100 X161 hx (hb hby d7_99) rfl rfl rfl ?_
  refine Own.iload 102 X161 hx (hb hby d7_100) rfl rfl ?_
  refine Own.nLoad 103 (Own.N (a32)) X161 hx hZ e161 Cf_159 (by omega) (by simp [Own.upd]) (hb hby d7_102) rfl ?_
  refine Own.bipush 105 X161 hx (Own.N 64) (hb hby d7_103) rfl rfl ?_
  refine Own.idiv 106 X161 hx (hb hby d7_105) rfl (by decide) (Own.N_div (by omega) (by omega)) ?_
  refine Own.nStore 107 X161 hx hZ e161 Cf_157 (by omega) (hb hby d7_106) rfl ?_
  intro T162 h162 X162 e162 W162 C162
  have N162 := Fr.snoc X162 N144 g_lo
  have Ef_164 := Ef_146.wr W162
  have Ff_165 := Ff_147.other W162 (Or.inl ne_t_lo)
  have Ff_166 := Ff_148.other W162 (Or.inl ne_t_lo)
  have Ff_167 := Ff_149.other W162 (Or.inl ne_t_lo)
  have Ff_168 := Ff_150.other W162 (Or.inl ne_t_lo)
  have Ff_169 := Ff_151.other W162 (Or.inl ne_t_lo)
  have Ff_170 := Ff_152.other W162 (Or.inl ne_t_lo)
  have Ff_171 := Ff_153.other W162 (Or.inl ne_t_lo)
  have Ff_172 := Ff_154.other W162 (Or.inl ne_t_lo)
  have Cf_173 := Cf_156.other W162 ne_ib_lo
  have Cf_175 := Cf_158.other W162 ne_pp_lo
  have Cf_176 := Cf_159.other W162 (Ne.symm ne_lo_pl)
  have Cf_177 := Cf_160.other W162 (Ne.symm ne_lo_it)
  have Cf_178 := C144.other W162 ne_lb_lo
  have zl162 := Nat.le_trans zl144 (Nat.le_of_eq W162.size.symm)
  have K162 := K144.wr W162 (Or.inl (List.mem_of_getElem? (i := 3) rfl))
  refine Own.iinc 110 (fun c_179 => #[.val (.ref t), .val (.ref pp), .val (.int (Own.N (3))), .val (.ref pl), .val (.ref it), .val (.int c_179), .val (.int (Own.N (ord (p3 - 1))))]) X162 hx (Own.N 1) (hb hby d7_107) rfl rfl rfl (fun _ => rfl) fun c_179 hc_179 => ?_
  obtain rfl : c_179 = Own.N (1) := hc_179.trans (by decide)
  refine Own.goto 56 X162 hx (hb hby d7_110) (by decide) ?_
  refine Own.iload 58 X162 hx (hb hby d7_56) rfl rfl ?_
  refine Own.iloadN 59 X162 hx (hb hby d7_58) rfl rfl ?_
  refine Own.nicmp_ge 113 62 X162 hx (hb hby d7_59) (by decide) rfl (by omega) (by omega) (fun tk => False.elim (by omega)) (fun tk => ?_)
  refine Own.aload 64 X162 hx (hb hby d7_62) rfl rfl rfl ?_
  refine Own.iload 66 X162 hx (hb hby d7_64) rfl rfl ?_
  refine Own.nif_ne 75 69 X162 hx (hb hby d7_66) (by decide) rfl (by omega) (fun tk => ?_) (fun tk => False.elim (by omega))
  refine Own.iload 77 X162 hx (hb hby d7_75) rfl rfl ?_
  refine Own.iconst 78 X162 hx (Own.N 1) (hb hby d7_77) rfl rfl ?_
  refine Own.isub 79 X162 hx (hb hby d7_78) rfl (Own.N_sub (by omega)) ?_
  refine Own.nLoad 80 (Own.N (ord (p1 - 1))) X162 hx hZ e162 Cf_177 (by omega) (by simp [Own.upd]) (hb hby d7_79) rfl ?_
  refine Own.istoreV 82 #[.val (.ref t), .val (.ref pp), .val (.int (Own.N (3))), .val (.ref pl), .val (.ref it), .val (.int (Own.N (1))), .val (.int (Own.N (ord (p1 - 1))))] X162 hx (hb hby d7_80) rfl rfl ?_
  refine Own.aloadN 83 X162 hx (hb hby d7_82) rfl rfl rfl ?_
  refine Own.getFld 86 X162 hx hZ hown (host := "") (Or.inl (w 12 rfl)) Via.refl e162 Ff_165 (hb hby d7_83) rfl ?_
  intro T180 X180 e180
  refine Own.aloadN 87 X180 hx (hb hby d7_86) rfl rfl rfl ?_
  refine Own.iload 89 X180 hx (hb hby d7_87) rfl rfl ?_
  refine Own.nLoad 90 (Own.N (a69)) X180 hx hZ e180 Cf_176 (by omega) (by simp [Own.upd]) (hb hby d7_89) rfl ?_
  refine Own.iload 92 X180 hx (hb hby d7_90) rfl rfl ?_
  refine Own.nStore 93 X180 hx hZ e180 Cf_178 (by omega) (hb hby d7_92) rfl ?_
  intro T181 h181 X181 e181 W181 C181
  have N181 := Fr.snoc X181 N162 g_lb
  have Ef_183 := Ef_164.wr W181
  have Ff_184 := Ff_165.other W181 (Or.inl ne_t_lb)
  have Ff_185 := Ff_166.other W181 (Or.inl ne_t_lb)
  have Ff_186 := Ff_167.other W181 (Or.inl ne_t_lb)
  have Ff_187 := Ff_168.other W181 (Or.inl ne_t_lb)
  have Ff_188 := Ff_169.other W181 (Or.inl ne_t_lb)
  have Ff_189 := Ff_170.other W181 (Or.inl ne_t_lb)
  have Ff_190 := Ff_171.other W181 (Or.inl ne_t_lb)
  have Ff_191 := Ff_172.other W181 (Or.inl ne_t_lb)
  have Cf_192 := Cf_173.other W181 (Ne.symm ne_lb_ib)
  have Cf_193 := Cf_175.other W181 ne_pp_lb
  have Cf_194 := Cf_176.other W181 (Ne.symm ne_lb_pl)
  have Cf_195 := Cf_177.other W181 (Ne.symm ne_lb_it)
  have Cf_197 := C162.other W181 (Ne.symm ne_lb_lo)
  have zl181 := Nat.le_trans zl162 (Nat.le_of_eq W181.size.symm)
  have K181 := K162.wr W181 (Or.inl (List.mem_of_getElem? (i := 1) rfl))
  refine Own.aloadN 94 X181 hx (hb hby d7_93) rfl rfl rfl ?_
  refine Own.getFld 97 X181 hx hZ hown (host := "") (Or.inl (w 16 rfl)) Via.refl e181 Ff_188 (hb hby d7_94) rfl ?_
  intro T198 X198 e198
  refine Own.iload 99 X198 hx (hb hby d7_97) rfl rfl ?_
  refine Own.aloadN 100 X198 hx (hb hby d7_99) rfl rfl rfl ?_
  refine Own.iload 102 X198 hx (hb hby d7_100) rfl rfl ?_
  refine Own.nLoad 103 (Own.N (a69)) X198 hx hZ e198 Cf_194 (by omega) (by simp [Own.upd]) (hb hby d7_102) rfl ?_
  refine Own.bipush 105 X198 hx (Own.N 64) (hb hby d7_103) rfl rfl ?_
  refine Own.idiv 106 X198 hx (hb hby d7_105) rfl (by decide) (Own.N_div (by omega) (by omega)) ?_
  refine Own.nStore 107 X198 hx hZ e198 Cf_197 (by omega) (hb hby d7_106) rfl ?_
  intro T199 h199 X199 e199 W199 C199
  have N199 := Fr.snoc X199 N181 g_lo
  have Ef_201 := Ef_183.wr W199
  have Ff_202 := Ff_184.other W199 (Or.inl ne_t_lo)
  have Ff_203 := Ff_185.other W199 (Or.inl ne_t_lo)
  have Ff_204 := Ff_186.other W199 (Or.inl ne_t_lo)
  have Ff_205 := Ff_187.other W199 (Or.inl ne_t_lo)
  have Ff_206 := Ff_188.other W199 (Or.inl ne_t_lo)
  have Ff_207 := Ff_189.other W199 (Or.inl ne_t_lo)
  have Ff_208 := Ff_190.other W199 (Or.inl ne_t_lo)
  have Ff_209 := Ff_191.other W199 (Or.inl ne_t_lo)
  have Cf_210 := Cf_192.other W199 ne_ib_lo
  have Cf_211 := Cf_193.other W199 ne_pp_lo
  have Cf_212 := Cf_194.other W199 (Ne.symm ne_lo_pl)
  have Cf_213 := Cf_195.other W199 (Ne.symm ne_lo_it)
  have Cf_215 := C181.other W199 ne_lb_lo
  have zl199 := Nat.le_trans zl181 (Nat.le_of_eq W199.size.symm)
  have K199 := K181.wr W199 (Or.inl (List.mem_of_getElem? (i := 3) rfl))
  refine Own.iinc 110 (fun c_216 => #[.val (.ref t), .val (.ref pp), .val (.int (Own.N (3))), .val (.ref pl), .val (.ref it), .val (.int c_216), .val (.int (Own.N (ord (p1 - 1))))]) X199 hx (Own.N 1) (hb hby d7_107) rfl rfl rfl (fun _ => rfl) fun c_216 hc_216 => ?_
  obtain rfl : c_216 = Own.N (2) := hc_216.trans (by decide)
  refine Own.goto 56 X199 hx (hb hby d7_110) (by decide) ?_
  refine Own.iload 58 X199 hx (hb hby d7_56) rfl rfl ?_
  refine Own.iloadN 59 X199 hx (hb hby d7_58) rfl rfl ?_
  refine Own.nicmp_ge 113 62 X199 hx (hb hby d7_59) (by decide) rfl (by omega) (by omega) (fun tk => False.elim (by omega)) (fun tk => ?_)
  refine Own.aload 64 X199 hx (hb hby d7_62) rfl rfl rfl ?_
  refine Own.iload 66 X199 hx (hb hby d7_64) rfl rfl ?_
  refine Own.nif_ne 75 69 X199 hx (hb hby d7_66) (by decide) rfl (by omega) (fun tk => ?_) (fun tk => False.elim (by omega))
  refine Own.iload 77 X199 hx (hb hby d7_75) rfl rfl ?_
  refine Own.iconst 78 X199 hx (Own.N 1) (hb hby d7_77) rfl rfl ?_
  refine Own.isub 79 X199 hx (hb hby d7_78) rfl (Own.N_sub (by omega)) ?_
  refine Own.nLoad 80 (Own.N (ord (p2 - 1))) X199 hx hZ e199 Cf_213 (by omega) (by simp [Own.upd]) (hb hby d7_79) rfl ?_
  refine Own.istoreV 82 #[.val (.ref t), .val (.ref pp), .val (.int (Own.N (3))), .val (.ref pl), .val (.ref it), .val (.int (Own.N (2))), .val (.int (Own.N (ord (p2 - 1))))] X199 hx (hb hby d7_80) rfl rfl ?_
  refine Own.aloadN 83 X199 hx (hb hby d7_82) rfl rfl rfl ?_
  refine Own.getFld 86 X199 hx hZ hown (host := "") (Or.inl (w 12 rfl)) Via.refl e199 Ff_202 (hb hby d7_83) rfl ?_
  intro T217 X217 e217
  refine Own.aloadN 87 X217 hx (hb hby d7_86) rfl rfl rfl ?_
  refine Own.iload 89 X217 hx (hb hby d7_87) rfl rfl ?_
  refine Own.nLoad 90 (Own.N (a106)) X217 hx hZ e217 Cf_212 (by omega) (by simp [Own.upd]) (hb hby d7_89) rfl ?_
  refine Own.iload 92 X217 hx (hb hby d7_90) rfl rfl ?_
  refine Own.nStore 93 X217 hx hZ e217 Cf_215 (by omega) (hb hby d7_92) rfl ?_
  intro T218 h218 X218 e218 W218 C218
  have N218 := Fr.snoc X218 N199 g_lb
  have Ef_220 := Ef_201.wr W218
  have Ff_221 := Ff_202.other W218 (Or.inl ne_t_lb)
  have Ff_222 := Ff_203.other W218 (Or.inl ne_t_lb)
  have Ff_223 := Ff_204.other W218 (Or.inl ne_t_lb)
  have Ff_224 := Ff_205.other W218 (Or.inl ne_t_lb)
  have Ff_225 := Ff_206.other W218 (Or.inl ne_t_lb)
  have Ff_226 := Ff_207.other W218 (Or.inl ne_t_lb)
  have Ff_227 := Ff_208.other W218 (Or.inl ne_t_lb)
  have Ff_228 := Ff_209.other W218 (Or.inl ne_t_lb)
  have Cf_229 := Cf_210.other W218 (Ne.symm ne_lb_ib)
  have Cf_230 := Cf_211.other W218 ne_pp_lb
  have Cf_231 := Cf_212.other W218 (Ne.symm ne_lb_pl)
  have Cf_232 := Cf_213.other W218 (Ne.symm ne_lb_it)
  have Cf_234 := C199.other W218 (Ne.symm ne_lb_lo)
  have zl218 := Nat.le_trans zl199 (Nat.le_of_eq W218.size.symm)
  have K218 := K199.wr W218 (Or.inl (List.mem_of_getElem? (i := 1) rfl))
  refine Own.aloadN 94 X218 hx (hb hby d7_93) rfl rfl rfl ?_
  refine Own.getFld 97 X218 hx hZ hown (host := "") (Or.inl (w 16 rfl)) Via.refl e218 Ff_225 (hb hby d7_94) rfl ?_
  intro T235 X235 e235
  refine Own.iload 99 X235 hx (hb hby d7_97) rfl rfl ?_
  refine Own.aloadN 100 X235 hx (hb hby d7_99) rfl rfl rfl ?_
  refine Own.iload 102 X235 hx (hb hby d7_100) rfl rfl ?_
  refine Own.nLoad 103 (Own.N (a106)) X235 hx hZ e235 Cf_231 (by omega) (by simp [Own.upd]) (hb hby d7_102) rfl ?_
  refine Own.bipush 105 X235 hx (Own.N 64) (hb hby d7_103) rfl rfl ?_
  refine Own.idiv 106 X235 hx (hb hby d7_105) rfl (by decide) (Own.N_div (by omega) (by omega)) ?_
  refine Own.nStore 107 X235 hx hZ e235 Cf_234 (by omega) (hb hby d7_106) rfl ?_
  intro T236 h236 X236 e236 W236 C236
  have N236 := Fr.snoc X236 N218 g_lo
  have Ef_238 := Ef_220.wr W236
  have Ff_239 := Ff_221.other W236 (Or.inl ne_t_lo)
  have Ff_240 := Ff_222.other W236 (Or.inl ne_t_lo)
  have Ff_241 := Ff_223.other W236 (Or.inl ne_t_lo)
  have Ff_242 := Ff_224.other W236 (Or.inl ne_t_lo)
  have Ff_243 := Ff_225.other W236 (Or.inl ne_t_lo)
  have Ff_244 := Ff_226.other W236 (Or.inl ne_t_lo)
  have Ff_245 := Ff_227.other W236 (Or.inl ne_t_lo)
  have Ff_246 := Ff_228.other W236 (Or.inl ne_t_lo)
  have Cf_247 := Cf_229.other W236 ne_ib_lo
  have Cf_248 := Cf_230.other W236 ne_pp_lo
  have Cf_249 := Cf_231.other W236 (Ne.symm ne_lo_pl)
  have Cf_250 := Cf_232.other W236 (Ne.symm ne_lo_it)
  have Cf_252 := C218.other W236 ne_lb_lo
  have zl236 := Nat.le_trans zl218 (Nat.le_of_eq W236.size.symm)
  have K236 := K218.wr W236 (Or.inl (List.mem_of_getElem? (i := 3) rfl))
  refine Own.iinc 110 (fun c_253 => #[.val (.ref t), .val (.ref pp), .val (.int (Own.N (3))), .val (.ref pl), .val (.ref it), .val (.int c_253), .val (.int (Own.N (ord (p2 - 1))))]) X236 hx (Own.N 1) (hb hby d7_107) rfl rfl rfl (fun _ => rfl) fun c_253 hc_253 => ?_
  obtain rfl : c_253 = Own.N (3) := hc_253.trans (by decide)
  refine Own.goto 56 X236 hx (hb hby d7_110) (by decide) ?_
  refine Own.iload 58 X236 hx (hb hby d7_56) rfl rfl ?_
  refine Own.iloadN 59 X236 hx (hb hby d7_58) rfl rfl ?_
  refine Own.nicmp_ge 113 62 X236 hx (hb hby d7_59) (by decide) rfl (by omega) (by omega) (fun tk => ?_) (fun tk => False.elim (by omega))
  refine Own.retVoid X236 hx hlk hret (hb hby d7_113) (by decide) (by decide) ?_
  rw [e236]
  exact ⟨rfl, N236, K236, _, _, ⟨Ef_238, Ff_239, Ff_240, Ff_241, Ff_242, Ff_243, Ff_244, Ff_245, Ff_246, Cf_252, Cf_247, C236⟩, own_T_L TT (fun j hj => ⟨by rw [Own.upd_miss (own_Pl_off P hB pl_3 hj).2.1, Own.upd_miss (own_Pl_off P hB pl_2 hj).2.1, Own.upd_miss (own_Pl_off P hB pl_1 hj).2.1], by rw [Own.upd_miss (own_Pl_off P hB pl_3 hj).2.2, Own.upd_miss (own_Pl_off P hB pl_2 hj).2.2, Own.upd_miss (own_Pl_off P hB pl_1 hj).2.2]⟩), own_ro3_Lf P hB Lf O pl_1 pl_2 pl_3 (by omega) (by omega)⟩
theorem d3_0 : decode prog_32_method_15_code 0 = .ok (.aload_n 0, 1) := by decide +kernel
theorem d3_1 : decode prog_32_method_15_code 1 = .ok (.iconst 0, 1) := by decide +kernel
theorem d3_2 : decode prog_32_method_15_code 2 = .ok (.putfield 44, 3) := by decide +kernel
theorem d3_5 : decode prog_32_method_15_code 5 = .ok (.iconst 0, 1) := by decide +kernel
theorem d3_6 : decode prog_32_method_15_code 6 = .ok (.istore_n 2, 1) := by decide +kernel
theorem d3_7 : decode prog_32_method_15_code 7 = .ok (.iload_n 2, 1) := by decide +kernel
theorem d3_8 : decode prog_32_method_15_code 8 = .ok (.aload_n 1, 1) := by decide +kernel
theorem d3_9 : decode prog_32_method_15_code 9 = .ok (.arraylength, 1) := by decide +kernel
theorem d3_10 : decode prog_32_method_15_code 10 = .ok (.if_icmp .ge 90, 3) := by decide +kernel
theorem d3_13 : decode prog_32_method_15_code 13 = .ok (.aload_n 0, 1) := by decide +kernel
theorem d3_14 : decode prog_32_method_15_code 14 = .ok (.dup, 1) := by decide +kernel
theorem d3_15 : decode prog_32_method_15_code 15 = .ok (.getfield 44, 3) := by decide +kernel
theorem d3_18 : decode prog_32_method_15_code 18 = .ok (.dup_x1, 1) := by decide +kernel
theorem d3_19 : decode prog_32_method_15_code 19 = .ok (.iconst 1, 1) := by decide +kernel
theorem d3_20 : decode prog_32_method_15_code 20 = .ok (.iadd, 1) := by decide +kernel
theorem d3_21 : decode prog_32_method_15_code 21 = .ok (.putfield 44, 3) := by decide +kernel
theorem d3_24 : decode prog_32_method_15_code 24 = .ok (.istore_n 3, 1) := by decide +kernel
theorem d3_25 : decode prog_32_method_15_code 25 = .ok (.bipush 30, 2) := by decide +kernel
theorem d3_27 : decode prog_32_method_15_code 27 = .ok (.aload_n 1, 1) := by decide +kernel
theorem d3_28 : decode prog_32_method_15_code 28 = .ok (.arraylength, 1) := by decide +kernel
theorem d3_29 : decode prog_32_method_15_code 29 = .ok (.iload_n 2, 1) := by decide +kernel
theorem d3_30 : decode prog_32_method_15_code 30 = .ok (.isub, 1) := by decide +kernel
theorem d3_31 : decode prog_32_method_15_code 31 = .ok (.invokestatic 97, 3) := by decide +kernel
theorem d3_34 : decode prog_32_method_15_code 34 = .ok (.istore 4, 2) := by decide +kernel
theorem d3_36 : decode prog_32_method_15_code 36 = .ok (.aload_n 1, 1) := by decide +kernel
theorem d3_37 : decode prog_32_method_15_code 37 = .ok (.iload_n 2, 1) := by decide +kernel
theorem d3_38 : decode prog_32_method_15_code 38 = .ok (.aload_n 0, 1) := by decide +kernel
theorem d3_39 : decode prog_32_method_15_code 39 = .ok (.getfield 19, 3) := by decide +kernel
theorem d3_42 : decode prog_32_method_15_code 42 = .ok (.iload_n 3, 1) := by decide +kernel
theorem d3_43 : decode prog_32_method_15_code 43 = .ok (.bipush 64, 2) := by decide +kernel
theorem d3_45 : decode prog_32_method_15_code 45 = .ok (.imul, 1) := by decide +kernel
theorem d3_46 : decode prog_32_method_15_code 46 = .ok (.iconst 3, 1) := by decide +kernel
theorem d3_47 : decode prog_32_method_15_code 47 = .ok (.iadd, 1) := by decide +kernel
theorem d3_48 : decode prog_32_method_15_code 48 = .ok (.iload 4, 2) := by decide +kernel
theorem d3_50 : decode prog_32_method_15_code 50 = .ok (.invokestatic 65, 3) := by decide +kernel
theorem d3_53 : decode prog_32_method_15_code 53 = .ok (.aload_n 0, 1) := by decide +kernel
theorem d3_54 : decode prog_32_method_15_code 54 = .ok (.getfield 19, 3) := by decide +kernel
theorem d3_57 : decode prog_32_method_15_code 57 = .ok (.iload_n 3, 1) := by decide +kernel
theorem d3_58 : decode prog_32_method_15_code 58 = .ok (.bipush 64, 2) := by decide +kernel
theorem d3_60 : decode prog_32_method_15_code 60 = .ok (.imul, 1) := by decide +kernel
theorem d3_61 : decode prog_32_method_15_code 61 = .ok (.iconst 2, 1) := by decide +kernel
theorem d3_62 : decode prog_32_method_15_code 62 = .ok (.iadd, 1) := by decide +kernel
theorem d3_63 : decode prog_32_method_15_code 63 = .ok (.iload 4, 2) := by decide +kernel
theorem d3_65 : decode prog_32_method_15_code 65 = .ok (.iastore, 1) := by decide +kernel
theorem d3_66 : decode prog_32_method_15_code 66 = .ok (.iload_n 2, 1) := by decide +kernel
theorem d3_67 : decode prog_32_method_15_code 67 = .ok (.istore 5, 2) := by decide +kernel
theorem d3_69 : decode prog_32_method_15_code 69 = .ok (.iload 5, 2) := by decide +kernel
theorem d3_71 : decode prog_32_method_15_code 71 = .ok (.iload_n 2, 1) := by decide +kernel
theorem d3_72 : decode prog_32_method_15_code 72 = .ok (.iload 4, 2) := by decide +kernel
theorem d3_74 : decode prog_32_method_15_code 74 = .ok (.iadd, 1) := by decide +kernel
theorem d3_75 : decode prog_32_method_15_code 75 = .ok (.if_icmp .ge 19, 3) := by decide +kernel
theorem d3_78 : decode prog_32_method_15_code 78 = .ok (.aload_n 0, 1) := by decide +kernel
theorem d3_79 : decode prog_32_method_15_code 79 = .ok (.getfield 26, 3) := by decide +kernel
theorem d3_82 : decode prog_32_method_15_code 82 = .ok (.aload_n 1, 1) := by decide +kernel
theorem d3_83 : decode prog_32_method_15_code 83 = .ok (.iload 5, 2) := by decide +kernel
theorem d3_85 : decode prog_32_method_15_code 85 = .ok (.iaload, 1) := by decide +kernel
theorem d3_86 : decode prog_32_method_15_code 86 = .ok (.iload_n 3, 1) := by decide +kernel
theorem d3_87 : decode prog_32_method_15_code 87 = .ok (.iastore, 1) := by decide +kernel
theorem d3_88 : decode prog_32_method_15_code 88 = .ok (.iinc 5 1, 3) := by decide +kernel
theorem d3_91 : decode prog_32_method_15_code 91 = .ok (.goto (-22), 3) := by decide +kernel
theorem d3_94 : decode prog_32_method_15_code 94 = .ok (.iinc 2 30, 3) := by decide +kernel
theorem d3_97 : decode prog_32_method_15_code 97 = .ok (.goto (-90), 3) := by decide +kernel
theorem d3_100 : decode prog_32_method_15_code 100 = .ok (.aload_n 0, 1) := by decide +kernel
theorem d3_101 : decode prog_32_method_15_code 101 = .ok (.iconst 0, 1) := by decide +kernel
theorem d3_102 : decode prog_32_method_15_code 102 = .ok (.putfield 103, 3) := by decide +kernel
theorem d3_105 : decode prog_32_method_15_code 105 = .ok (.aload_n 0, 1) := by decide +kernel
theorem d3_106 : decode prog_32_method_15_code 106 = .ok (.iconst 0, 1) := by decide +kernel
theorem d3_107 : decode prog_32_method_15_code 107 = .ok (.putfield 62, 3) := by decide +kernel
theorem d3_110 : decode prog_32_method_15_code 110 = .ok (.iconst 0, 1) := by decide +kernel
theorem d3_111 : decode prog_32_method_15_code 111 = .ok (.istore_n 2, 1) := by decide +kernel
theorem d3_112 : decode prog_32_method_15_code 112 = .ok (.aload_n 0, 1) := by decide +kernel
theorem d3_113 : decode prog_32_method_15_code 113 = .ok (.getfield 44, 3) := by decide +kernel
theorem d3_116 : decode prog_32_method_15_code 116 = .ok (.istore_n 3, 1) := by decide +kernel
theorem d3_117 : decode prog_32_method_15_code 117 = .ok (.aload_n 0, 1) := by decide +kernel
theorem d3_118 : decode prog_32_method_15_code 118 = .ok (.dup, 1) := by decide +kernel
theorem d3_119 : decode prog_32_method_15_code 119 = .ok (.getfield 62, 3) := by decide +kernel
theorem d3_122 : decode prog_32_method_15_code 122 = .ok (.iconst 1, 1) := by decide +kernel
theorem d3_123 : decode prog_32_method_15_code 123 = .ok (.iadd, 1) := by decide +kernel
theorem d3_124 : decode prog_32_method_15_code 124 = .ok (.putfield 62, 3) := by decide +kernel
theorem d3_127 : decode prog_32_method_15_code 127 = .ok (.aload_n 0, 1) := by decide +kernel
theorem d3_128 : decode prog_32_method_15_code 128 = .ok (.getfield 103, 3) := by decide +kernel
theorem d3_131 : decode prog_32_method_15_code 131 = .ok (.istore 4, 2) := by decide +kernel
theorem d3_133 : decode prog_32_method_15_code 133 = .ok (.iload_n 3, 1) := by decide +kernel
theorem d3_134 : decode prog_32_method_15_code 134 = .ok (.bipush 62, 2) := by decide +kernel
theorem d3_136 : decode prog_32_method_15_code 136 = .ok (.if_icmp .gt 7, 3) := by decide +kernel
theorem d3_139 : decode prog_32_method_15_code 139 = .ok (.iload_n 3, 1) := by decide +kernel
theorem d3_140 : decode prog_32_method_15_code 140 = .ok (.goto 5, 3) := by decide +kernel
theorem d3_145 : decode prog_32_method_15_code 145 = .ok (.istore 5, 2) := by decide +kernel
theorem d3_147 : decode prog_32_method_15_code 147 = .ok (.iconst 0, 1) := by decide +kernel
theorem d3_148 : decode prog_32_method_15_code 148 = .ok (.istore 6, 2) := by decide +kernel
theorem d3_150 : decode prog_32_method_15_code 150 = .ok (.iload 6, 2) := by decide +kernel
theorem d3_152 : decode prog_32_method_15_code 152 = .ok (.iload_n 3, 1) := by decide +kernel
theorem d3_153 : decode prog_32_method_15_code 153 = .ok (.if_icmp .ge 146, 3) := by decide +kernel
theorem d3_156 : decode prog_32_method_15_code 156 = .ok (.aload_n 0, 1) := by decide +kernel
theorem d3_157 : decode prog_32_method_15_code 157 = .ok (.invokevirtual 71, 3) := by decide +kernel
theorem d3_160 : decode prog_32_method_15_code 160 = .ok (.istore 7, 2) := by decide +kernel
theorem d3_162 : decode prog_32_method_15_code 162 = .ok (.iload 7, 2) := by decide +kernel
theorem d3_164 : decode prog_32_method_15_code 164 = .ok (.sipush 128, 3) := by decide +kernel
theorem d3_167 : decode prog_32_method_15_code 167 = .ok (.imul, 1) := by decide +kernel
theorem d3_168 : decode prog_32_method_15_code 168 = .ok (.istore 8, 2) := by decide +kernel
theorem d3_170 : decode prog_32_method_15_code 170 = .ok (.iload 5, 2) := by decide +kernel
theorem d3_172 : decode prog_32_method_15_code 172 = .ok (.iload_n 3, 1) := by decide +kernel
theorem d3_173 : decode prog_32_method_15_code 173 = .ok (.iload 6, 2) := by decide +kernel
theorem d3_175 : decode prog_32_method_15_code 175 = .ok (.isub, 1) := by decide +kernel
theorem d3_176 : decode prog_32_method_15_code 176 = .ok (.invokestatic 97, 3) := by decide +kernel
theorem d3_179 : decode prog_32_method_15_code 179 = .ok (.istore 9, 2) := by decide +kernel
theorem d3_181 : decode prog_32_method_15_code 181 = .ok (.iconst 0, 1) := by decide +kernel
theorem d3_182 : decode prog_32_method_15_code 182 = .ok (.istore 10, 2) := by decide +kernel
theorem d3_184 : decode prog_32_method_15_code 184 = .ok (.iload 10, 2) := by decide +kernel
theorem d3_186 : decode prog_32_method_15_code 186 = .ok (.iload 9, 2) := by decide +kernel
theorem d3_188 : decode prog_32_method_15_code 188 = .ok (.if_icmp .ge 90, 3) := by decide +kernel
theorem d3_191 : decode prog_32_method_15_code 191 = .ok (.iload_n 2, 1) := by decide +kernel
theorem d3_192 : decode prog_32_method_15_code 192 = .ok (.iload 6, 2) := by decide +kernel
theorem d3_194 : decode prog_32_method_15_code 194 = .ok (.iadd, 1) := by decide +kernel
theorem d3_195 : decode prog_32_method_15_code 195 = .ok (.iload 10, 2) := by decide +kernel
theorem d3_197 : decode prog_32_method_15_code 197 = .ok (.iadd, 1) := by decide +kernel
theorem d3_198 : decode prog_32_method_15_code 198 = .ok (.istore 11, 2) := by decide +kernel
theorem d3_200 : decode prog_32_method_15_code 200 = .ok (.aload_n 0, 1) := by decide +kernel
theorem d3_201 : decode prog_32_method_15_code 201 = .ok (.getfield 23, 3) := by decide +kernel
theorem d3_204 : decode prog_32_method_15_code 204 = .ok (.iload 8, 2) := by decide +kernel
theorem d3_206 : decode prog_32_method_15_code 206 = .ok (.iconst 3, 1) := by decide +kernel
theorem d3_207 : decode prog_32_method_15_code 207 = .ok (.iadd, 1) := by decide +kernel
theorem d3_208 : decode prog_32_method_15_code 208 = .ok (.iload 10, 2) := by decide +kernel
theorem d3_210 : decode prog_32_method_15_code 210 = .ok (.iadd, 1) := by decide +kernel
theorem d3_211 : decode prog_32_method_15_code 211 = .ok (.aload_n 0, 1) := by decide +kernel
theorem d3_212 : decode prog_32_method_15_code 212 = .ok (.getfield 62, 3) := by decide +kernel
theorem d3_215 : decode prog_32_method_15_code 215 = .ok (.iconst 1, 1) := by decide +kernel
theorem d3_216 : decode prog_32_method_15_code 216 = .ok (.if_icmp .ne 18, 3) := by decide +kernel
theorem d3_219 : decode prog_32_method_15_code 219 = .ok (.aload_n 0, 1) := by decide +kernel
theorem d3_220 : decode prog_32_method_15_code 220 = .ok (.getfield 19, 3) := by decide +kernel
theorem d3_223 : decode prog_32_method_15_code 223 = .ok (.iload 11, 2) := by decide +kernel
theorem d3_225 : decode prog_32_method_15_code 225 = .ok (.bipush 64, 2) := by decide +kernel
theorem d3_227 : decode prog_32_method_15_code 227 = .ok (.imul, 1) := by decide +kernel
theorem d3_228 : decode prog_32_method_15_code 228 = .ok (.iconst 2, 1) := by decide +kernel
theorem d3_229 : decode prog_32_method_15_code 229 = .ok (.iadd, 1) := by decide +kernel
theorem d3_230 : decode prog_32_method_15_code 230 = .ok (.iaload, 1) := by decide +kernel
theorem d3_231 : decode prog_32_method_15_code 231 = .ok (.goto 9, 3) := by decide +kernel
theorem d3_240 : decode prog_32_method_15_code 240 = .ok (.iastore, 1) := by decide +kernel
theorem d3_241 : decode prog_32_method_15_code 241 = .ok (.aload_n 0, 1) := by decide +kernel
theorem d3_242 : decode prog_32_method_15_code 242 = .ok (.getfield 23, 3) := by decide +kernel
theorem d3_245 : decode prog_32_method_15_code 245 = .ok (.iload 8, 2) := by decide +kernel
theorem d3_247 : decode prog_32_method_15_code 247 = .ok (.bipush 65, 2) := by decide +kernel
theorem d3_249 : decode prog_32_method_15_code 249 = .ok (.iadd, 1) := by decide +kernel
theorem d3_250 : decode prog_32_method_15_code 250 = .ok (.iload 10, 2) := by decide +kernel
theorem d3_252 : decode prog_32_method_15_code 252 = .ok (.iadd, 1) := by decide +kernel
theorem d3_253 : decode prog_32_method_15_code 253 = .ok (.iload 11, 2) := by decide +kernel
theorem d3_255 : decode prog_32_method_15_code 255 = .ok (.iastore, 1) := by decide +kernel
theorem d3_256 : decode prog_32_method_15_code 256 = .ok (.aload_n 0, 1) := by decide +kernel
theorem d3_257 : decode prog_32_method_15_code 257 = .ok (.iload 11, 2) := by decide +kernel
theorem d3_259 : decode prog_32_method_15_code 259 = .ok (.aload_n 0, 1) := by decide +kernel
theorem d3_260 : decode prog_32_method_15_code 260 = .ok (.getfield 62, 3) := by decide +kernel
theorem d3_263 : decode prog_32_method_15_code 263 = .ok (.iconst 1, 1) := by decide +kernel
theorem d3_264 : decode prog_32_method_15_code 264 = .ok (.isub, 1) := by decide +kernel
theorem d3_265 : decode prog_32_method_15_code 265 = .ok (.iload 7, 2) := by decide +kernel
theorem d3_267 : decode prog_32_method_15_code 267 = .ok (.iload 10, 2) := by decide +kernel
theorem d3_269 : decode prog_32_method_15_code 269 = .ok (.invokevirtual 78, 3) := by decide +kernel
theorem d3_272 : decode prog_32_method_15_code 272 = .ok (.iinc 10 1, 3) := by decide +kernel
theorem d3_275 : decode prog_32_method_15_code 275 = .ok (.goto (-91), 3) := by decide +kernel
theorem d3_278 : decode prog_32_method_15_code 278 = .ok (.aload_n 0, 1) := by decide +kernel
theorem d3_279 : decode prog_32_method_15_code 279 = .ok (.getfield 23, 3) := by decide +kernel
theorem d3_282 : decode prog_32_method_15_code 282 = .ok (.iload 8, 2) := by decide +kernel
theorem d3_284 : decode prog_32_method_15_code 284 = .ok (.iconst 2, 1) := by decide +kernel
theorem d3_285 : decode prog_32_method_15_code 285 = .ok (.iadd, 1) := by decide +kernel
theorem d3_286 : decode prog_32_method_15_code 286 = .ok (.iload 9, 2) := by decide +kernel
theorem d3_288 : decode prog_32_method_15_code 288 = .ok (.iastore, 1) := by decide +kernel
theorem d3_289 : decode prog_32_method_15_code 289 = .ok (.iload 6, 2) := by decide +kernel
theorem d3_291 : decode prog_32_method_15_code 291 = .ok (.iload 5, 2) := by decide +kernel
theorem d3_293 : decode prog_32_method_15_code 293 = .ok (.iadd, 1) := by decide +kernel
theorem d3_294 : decode prog_32_method_15_code 294 = .ok (.istore 6, 2) := by decide +kernel
theorem d3_296 : decode prog_32_method_15_code 296 = .ok (.goto (-146), 3) := by decide +kernel
theorem d3_299 : decode prog_32_method_15_code 299 = .ok (.iload 4, 2) := by decide +kernel
theorem d3_301 : decode prog_32_method_15_code 301 = .ok (.istore_n 2, 1) := by decide +kernel
theorem d3_302 : decode prog_32_method_15_code 302 = .ok (.aload_n 0, 1) := by decide +kernel
theorem d3_303 : decode prog_32_method_15_code 303 = .ok (.getfield 103, 3) := by decide +kernel
theorem d3_306 : decode prog_32_method_15_code 306 = .ok (.iload 4, 2) := by decide +kernel
theorem d3_308 : decode prog_32_method_15_code 308 = .ok (.isub, 1) := by decide +kernel
theorem d3_309 : decode prog_32_method_15_code 309 = .ok (.istore_n 3, 1) := by decide +kernel
theorem d3_310 : decode prog_32_method_15_code 310 = .ok (.iload_n 3, 1) := by decide +kernel
theorem d3_311 : decode prog_32_method_15_code 311 = .ok (.iconst 1, 1) := by decide +kernel
theorem d3_312 : decode prog_32_method_15_code 312 = .ok (.if_icmp .gt (-195), 3) := by decide +kernel
theorem d3_315 : decode prog_32_method_15_code 315 = .ok (.aload_n 0, 1) := by decide +kernel
theorem d3_316 : decode prog_32_method_15_code 316 = .ok (.iload_n 2, 1) := by decide +kernel
theorem d3_317 : decode prog_32_method_15_code 317 = .ok (.putfield 59, 3) := by decide +kernel
theorem d3_320 : decode prog_32_method_15_code 320 = .ok (.aload_n 0, 1) := by decide +kernel
theorem d3_321 : decode prog_32_method_15_code 321 = .ok (.getfield 23, 3) := by decide +kernel
theorem d3_324 : decode prog_32_method_15_code 324 = .ok (.aload_n 0, 1) := by decide +kernel
theorem d3_325 : decode prog_32_method_15_code 325 = .ok (.getfield 59, 3) := by decide +kernel
theorem d3_328 : decode prog_32_method_15_code 328 = .ok (.sipush 128, 3) := by decide +kernel
theorem d3_331 : decode prog_32_method_15_code 331 = .ok (.imul, 1) := by decide +kernel
theorem d3_332 : decode prog_32_method_15_code 332 = .ok (.iconst 0, 1) := by decide +kernel
theorem d3_333 : decode prog_32_method_15_code 333 = .ok (.iadd, 1) := by decide +kernel
theorem d3_334 : decode prog_32_method_15_code 334 = .ok (.iconst (-1), 1) := by decide +kernel
theorem d3_335 : decode prog_32_method_15_code 335 = .ok (.iastore, 1) := by decide +kernel
theorem d3_336 : decode prog_32_method_15_code 336 = .ok (.aload_n 0, 1) := by decide +kernel
theorem d3_337 : decode prog_32_method_15_code 337 = .ok (.iconst 1, 1) := by decide +kernel
theorem d3_338 : decode prog_32_method_15_code 338 = .ok (.putfield 40, 3) := by decide +kernel
theorem d3_341 : decode prog_32_method_15_code 341 = .ok (.return_, 1) := by decide +kernel
set_option maxRecDepth 65536 in
set_option maxHeartbeats 40000000 in
theorem m3_1 (l : Launch) (Z : State) (a0 : Array Value) (w : ∀ (i : Nat) {d : Jvm.Cond}, tables_1[i]? = some d → d.before a0 Z = true) (t : Addr) (it : Addr) (lb ib lo : Addr) (lv inn rt ht rg zL zI zO n0 : Nat) (fL fI fO : Nat → Int32)(n L : Nat) (fT : Nat → Int32) (h0 : Heap) (Z0 : n0 ≤ h0.size) (D0 : own_D n0 t lb ib lo) (S0 : own_S Z h0 t lb ib lo lv inn rt ht rg zL zI zO fL fI fO)(hLn : L = (n - 1) / 30 + 1) (hn : 1 ≤ n ∧ n ≤ 4096) (hzO : zO = n) (hzL : zL = 128 * L) (hzI : 1024 ≤ zI ∧ zI < 1000000)(Ci : Own.Arf Z h0 it n fT) (hF : ∀ i, i < n → fT i = Own.N i) (nei : it ≠ t ∧ it ≠ lb ∧ it ≠ ib ∧ it ≠ lo) (hk62 : L ≤ 62) :
    Own.Met l Z (⟨"com/example/frontrank/frontrank/OrderTree", "build", "([I)V"⟩ : MethodName) prog_32_method_15_code 12 none [] ({ frames := 1, cells := 0, slots := 0, locals := 18 } : Room) #[(.ref t), (.ref it)] h0 (fun v h L' => v = none ∧ Fr n0 L' ∧ Keep h0 h [t, lb, ib, lo] ∧ ∃ gL gI gO, own_S Z h t lb ib lo L 1 0 1 1 zL zI zO gL gI gO ∧ own_T L n 30 0 1 1 zL zI (own_pb n) gL gI ∧ own_Lf L (own_pb n) (fun q => q) gL gO) := by
  refine Own.Met.of (plainFor_of_name (by first | (simp [plainName, overriddenIn]; done) | decide +kernel)) ?_
  intro p e s m below meth c T0 hx hby hml hown hnm hret hlk hZ X0 e0
  have hown : s.vm.findClass "com/example/frontrank/frontrank/OrderTree" = some m.cls := hown
  have hml : c.maxLocals = 12 := hml
  have hnm : meth.name = "build" := hnm
  have ef : entryFrame m #[(.ref t), (.ref it)] 12 = mkF m 0 #[.val (.ref t), .val (.ref it), .unset, .unset, .unset, .unset, .unset, .unset, .unset, .unset, .unset, .unset] [] := by first | (simp [entryFrame, mkF, argsToLocals, Value.category]; done) | rfl
  rw [ef]
  have N0 := Fr.nil n0
  have D00 := D0
  obtain ⟨ne_t_lb, ne_t_ib, ne_t_lo, ne_lb_ib, ne_lb_lo, ne_ib_lo, g_t, g_lb, g_ib, g_lo⟩ := D0
  obtain ⟨E_0, Fleaks_0, Fleaes_0, Finnks_0, Finnrs_0, FleaOf_0, Frooot_0, Fheiht_0, Fregar_0, Clb_0, Cib_0, Clo_0⟩ := S0
  obtain ⟨ne_it_t, ne_it_lb, ne_it_ib, ne_it_lo⟩ := nei
  have K100 : ∀ (st : Nat) (gL gO : Nat → Int32) (s3 : Slot) (s4 : Slot) (s5 : Slot) (o_s3 : s3 = .unset ∨ ∃ x : Int32, s3 = .val (.int x)) (o_s4 : s4 = .unset ∨ ∃ x : Int32, s4 = .val (.int x)) (o_s5 : s5 = .unset ∨ ∃ x : Int32, s5 = .val (.int x)) (Tq : State) (Lq : List Loc) (hq : Heap) (Xq : Stand p l e ({ frames := 1, cells := 0, slots := 0, locals := 18 } : Room) s m #[(.ref t), (.ref it)] below meth c Tq Lq 0 0) (eqq : Tq.heap = hq) (Nq : Fr n0 Lq) (Kq : Keep h0 hq [t, lb, ib, lo]) (Sq : own_S Z hq t lb ib lo L inn rt ht rg zL zI zO gL fI gO) (IA : own_A n L gL gO), Own.Ends p.tables e below (fun v h L' => v = none ∧ Fr n0 L' ∧ Keep h0 h [t, lb, ib, lo] ∧ ∃ gL gI gO, own_S Z h t lb ib lo L 1 0 1 1 zL zI zO gL gI gO ∧ own_T L n 30 0 1 1 zL zI (own_pb n) gL gI ∧ own_Lf L (own_pb n) (fun q => q) gL gO) (Own.FE s ({ frames := 1, cells := 0, slots := 0, locals := 18 } : Room).cells ({ frames := 1, cells := 0, slots := 0, locals := 18 } : Room).slots) (Tq.setTop (mkF m 100 #[.val (.ref t), .val (.ref it), .val (.int (Own.N (st))), s3, s4, s5, .unset, .unset, .unset, .unset, .unset, .unset] [])) := by
    intro st gL gO s3 s4 s5 o_s3 o_s4 o_s5 Tq Lq hq Xq eqq Nq Kq Sq IA
    have zlq := Nat.le_trans Z0 Kq.1
    have Gf_1 := Ci.keep Kq (ninS ne_it_t (ninS ne_it_lb (ninS ne_it_ib (ninS ne_it_lo nin0))))
    obtain ⟨E_2, Fleaks_2, Fleaes_2, Finnks_2, Finnrs_2, FleaOf_2, Frooot_2, Fheiht_2, Fregar_2, Clb_2, Cib_2, Clo_2⟩ := Sq
    refine Own.aloadN 101 Xq hx (hb hby d3_100) rfl rfl rfl ?_
    refine Own.iconst 102 Xq hx (Own.N 0) (hb hby d3_101) rfl rfl ?_
    refine Own.putFld 105 Xq hx hZ hown (host := "") (Or.inl (w 32 rfl)) Via.refl eqq Finnrs_2 E_2 (Or.inl (w 33 rfl)) (w 3 rfl) (ty := .int) (by decide) rfl rfl (hb hby d3_102) rfl ?_
    intro T3 h3 X3 e3 W3
    have N3 := Fr.snoc X3 Nq g_t
    have Ef_5 := E_2.wr W3
    have Ff_6 := Fleaks_2.other W3 (Or.inr (slot_ne (Or.inr (w 13 rfl)) (Or.inl (w 33 rfl)) (by decide) (t := (.array .int)) (t' := .int) (by decide) (by decide)))
    have Ff_7 := Fleaes_2.other W3 (Or.inr (slot_ne (Or.inl (w 23 rfl)) (Or.inl (w 33 rfl)) (by decide) (t := .int) (t' := .int) (by decide) (by decide)))
    have Ff_8 := Finnks_2.other W3 (Or.inr (slot_ne (Or.inl (w 15 rfl)) (Or.inl (w 33 rfl)) (by decide) (t := (.array .int)) (t' := .int) (by decide) (by decide)))
    have Ff_9 := Finnrs_2.same W3
    have Ff_10 := FleaOf_2.other W3 (Or.inr (slot_ne (Or.inr (w 17 rfl)) (Or.inl (w 33 rfl)) (by decide) (t := (.array .int)) (t' := .int) (by decide) (by decide)))
    have Ff_11 := Frooot_2.other W3 (Or.inr (slot_ne (Or.inl (w 45 rfl)) (Or.inl (w 33 rfl)) (by decide) (t := .int) (t' := .int) (by decide) (by decide)))
    have Ff_12 := Fheiht_2.other W3 (Or.inr (slot_ne (Or.inl (w 35 rfl)) (Or.inl (w 33 rfl)) (by decide) (t := .int) (t' := .int) (by decide) (by decide)))
    have Ff_13 := Fregar_2.other W3 (Or.inr (slot_ne (Or.inl (w 47 rfl)) (Or.inl (w 33 rfl)) (by decide) (t := .boolean) (t' := .int) (by decide) (by decide)))
    have Cf_14 := Gf_1.other W3 ne_it_t
    have Cf_15 := Clb_2.other W3 (Ne.symm ne_t_lb)
    have Cf_16 := Cib_2.other W3 (Ne.symm ne_t_ib)
    have Cf_17 := Clo_2.other W3 (Ne.symm ne_t_lo)
    have zl3 := Nat.le_trans zlq (Nat.le_of_eq W3.size.symm)
    have K3 := Kq.wr W3 (Or.inl (List.mem_of_getElem? (i := 0) rfl))
    refine Own.aloadN 106 X3 hx (hb hby d3_105) rfl rfl rfl ?_
    refine Own.iconst 107 X3 hx (Own.N 0) (hb hby d3_106) rfl rfl ?_
    refine Own.putFld 110 X3 hx hZ hown (host := "") (Or.inl (w 34 rfl)) Via.refl e3 Ff_12 Ef_5 (Or.inl (w 35 rfl)) (w 3 rfl) (ty := .int) (by decide) rfl rfl (hb hby d3_107) rfl ?_
    intro T18 h18 X18 e18 W18
    have N18 := Fr.snoc X18 N3 g_t
    have Ef_20 := Ef_5.wr W18
    have Ff_21 := Ff_6.other W18 (Or.inr (slot_ne (Or.inr (w 13 rfl)) (Or.inl (w 35 rfl)) (by decide) (t := (.array .int)) (t' := .int) (by decide) (by decide)))
    have Ff_22 := Ff_7.other W18 (Or.inr (slot_ne (Or.inl (w 23 rfl)) (Or.inl (w 35 rfl)) (by decide) (t := .int) (t' := .int) (by decide) (by decide)))
    have Ff_23 := Ff_8.other W18 (Or.inr (slot_ne (Or.inl (w 15 rfl)) (Or.inl (w 35 rfl)) (by decide) (t := (.array .int)) (t' := .int) (by decide) (by decide)))
    have Ff_24 := Ff_9.other W18 (Or.inr (slot_ne (Or.inl (w 33 rfl)) (Or.inl (w 35 rfl)) (by decide) (t := .int) (t' := .int) (by decide) (by decide)))
    have Ff_25 := Ff_10.other W18 (Or.inr (slot_ne (Or.inr (w 17 rfl)) (Or.inl (w 35 rfl)) (by decide) (t := (.array .int)) (t' := .int) (by decide) (by decide)))
    have Ff_26 := Ff_11.other W18 (Or.inr (slot_ne (Or.inl (w 45 rfl)) (Or.inl (w 35 rfl)) (by decide) (t := .int) (t' := .int) (by decide) (by decide)))
    have Ff_27 := Ff_12.same W18
    have Ff_28 := Ff_13.other W18 (Or.inr (slot_ne (Or.inl (w 47 rfl)) (Or.inl (w 35 rfl)) (by decide) (t := .boolean) (t' := .int) (by decide) (by decide)))
    have Cf_29 := Cf_14.other W18 ne_it_t
    have Cf_30 := Cf_15.other W18 (Ne.symm ne_t_lb)
    have Cf_31 := Cf_16.other W18 (Ne.symm ne_t_ib)
    have Cf_32 := Cf_17.other W18 (Ne.symm ne_t_lo)
    have zl18 := Nat.le_trans zl3 (Nat.le_of_eq W18.size.symm)
    have K18 := K3.wr W18 (Or.inl (List.mem_of_getElem? (i := 0) rfl))
    refine Own.iconst 111 X18 hx (Own.N 0) (hb hby d3_110) rfl rfl ?_
    refine Own.istoreNV 112 #[.val (.ref t), .val (.ref it), .val (.int (Own.N (0))), s3, s4, s5, .unset, .unset, .unset, .unset, .unset, .unset] X18 hx (hb hby d3_111) rfl rfl ?_
    refine Own.aloadN 113 X18 hx (hb hby d3_112) rfl rfl rfl ?_
    refine Own.getFld 116 X18 hx hZ hown (host := "") (Or.inl (w 22 rfl)) Via.refl e18 Ff_22 (hb hby d3_113) rfl ?_
    intro T33 X33 e33
    refine Own.istoreNV 117 #[.val (.ref t), .val (.ref it), .val (.int (Own.N (0))), .val (.int (Own.N (L))), s4, s5, .unset, .unset, .unset, .unset, .unset, .unset] X33 hx (hb hby d3_116) rfl (by rcases o_s3 with q9 | ⟨x9, q9⟩ <;> (subst q9; rfl)) ?_
    refine Own.aloadN 118 X33 hx (hb hby d3_117) rfl rfl rfl ?_
    refine Own.dup 119 X33 hx (hb hby d3_118) rfl rfl ?_
    refine Own.getFld 122 X33 hx hZ hown (host := "") (Or.inl (w 34 rfl)) Via.refl e33 Ff_27 (hb hby d3_119) rfl ?_
    intro T34 X34 e34
    refine Own.iconst 123 X34 hx (Own.N 1) (hb hby d3_122) rfl rfl ?_
    refine Own.iadd 124 X34 hx (hb hby d3_123) rfl (Own.N_add _ _) ?_
    refine Own.putFld 127 X34 hx hZ hown (host := "") (Or.inl (w 34 rfl)) Via.refl e34 Ff_27 Ef_20 (Or.inl (w 35 rfl)) (w 3 rfl) (ty := .int) (by decide) rfl rfl (hb hby d3_124) rfl ?_
    intro T35 h35 X35 e35 W35
    have N35 := Fr.snoc X35 N18 g_t
    have Ef_37 := Ef_20.wr W35
    have Ff_38 := Ff_21.other W35 (Or.inr (slot_ne (Or.inr (w 13 rfl)) (Or.inl (w 35 rfl)) (by decide) (t := (.array .int)) (t' := .int) (by decide) (by decide)))
    have Ff_39 := Ff_22.other W35 (Or.inr (slot_ne (Or.inl (w 23 rfl)) (Or.inl (w 35 rfl)) (by decide) (t := .int) (t' := .int) (by decide) (by decide)))
    have Ff_40 := Ff_23.other W35 (Or.inr (slot_ne (Or.inl (w 15 rfl)) (Or.inl (w 35 rfl)) (by decide) (t := (.array .int)) (t' := .int) (by decide) (by decide)))
    have Ff_41 := Ff_24.other W35 (Or.inr (slot_ne (Or.inl (w 33 rfl)) (Or.inl (w 35 rfl)) (by decide) (t := .int) (t' := .int) (by decide) (by decide)))
    have Ff_42 := Ff_25.other W35 (Or.inr (slot_ne (Or.inr (w 17 rfl)) (Or.inl (w 35 rfl)) (by decide) (t := (.array .int)) (t' := .int) (by decide) (by decide)))
    have Ff_43 := Ff_26.other W35 (Or.inr (slot_ne (Or.inl (w 45 rfl)) (Or.inl (w 35 rfl)) (by decide) (t := .int) (t' := .int) (by decide) (by decide)))
    have Ff_44 := Ff_27.same W35
    have Ff_45 := Ff_28.other W35 (Or.inr (slot_ne (Or.inl (w 47 rfl)) (Or.inl (w 35 rfl)) (by decide) (t := .boolean) (t' := .int) (by decide) (by decide)))
    have Cf_46 := Cf_29.other W35 ne_it_t
    have Cf_47 := Cf_30.other W35 (Ne.symm ne_t_lb)
    have Cf_48 := Cf_31.other W35 (Ne.symm ne_t_ib)
    have Cf_49 := Cf_32.other W35 (Ne.symm ne_t_lo)
    have zl35 := Nat.le_trans zl18 (Nat.le_of_eq W35.size.symm)
    have K35 := K18.wr W35 (Or.inl (List.mem_of_getElem? (i := 0) rfl))
    refine Own.aloadN 128 X35 hx (hb hby d3_127) rfl rfl rfl ?_
    refine Own.getFld 131 X35 hx hZ hown (host := "") (Or.inl (w 32 rfl)) Via.refl e35 Ff_41 (hb hby d3_128) rfl ?_
    intro T50 X50 e50
    refine Own.istoreV 133 #[.val (.ref t), .val (.ref it), .val (.int (Own.N (0))), .val (.int (Own.N (L))), .val (.int (Own.N (0))), s5, .unset, .unset, .unset, .unset, .unset, .unset] X50 hx (hb hby d3_131) rfl (by rcases o_s4 with q9 | ⟨x9, q9⟩ <;> (subst q9; rfl)) ?_
    refine Own.iloadN 134 X50 hx (hb hby d3_133) rfl rfl ?_
    refine Own.bipush 136 X50 hx (Own.N 62) (hb hby d3_134) rfl rfl ?_
    refine Own.nicmp_gt 143 139 X50 hx (hb hby d3_136) (by decide) rfl (by omega) (by omega) (fun tk => False.elim (by omega)) (fun tk => ?_)
    refine Own.iloadN 140 X50 hx (hb hby d3_139) rfl rfl ?_
    refine Own.goto 145 X50 hx (hb hby d3_140) (by decide) ?_
    refine Own.istoreV 147 #[.val (.ref t), .val (.ref it), .val (.int (Own.N (0))), .val (.int (Own.N (L))), .val (.int (Own.N (0))), .val (.int (Own.N (L))), .unset, .unset, .unset, .unset, .unset, .unset] X50 hx (hb hby d3_145) rfl (by rcases o_s5 with q9 | ⟨x9, q9⟩ <;> (subst q9; rfl)) ?_
    refine Own.iconst 148 X50 hx (Own.N 0) (hb hby d3_147) rfl rfl ?_
    refine Own.istoreV 150 #[.val (.ref t), .val (.ref it), .val (.int (Own.N (0))), .val (.int (Own.N (L))), .val (.int (Own.N (0))), .val (.int (Own.N (L))), .val (.int (Own.N (0))), .unset, .unset, .unset, .unset, .unset] X50 hx (hb hby d3_148) rfl rfl ?_
    refine Own.iload 152 X50 hx (hb hby d3_150) rfl rfl ?_
    refine Own.iloadN 153 X50 hx (hb hby d3_152) rfl rfl ?_
    refine Own.nicmp_ge 299 156 X50 hx (hb hby d3_153) (by decide) rfl (by omega) (by omega) (fun tk => False.elim (by omega)) (fun tk => ?_)
    refine Own.aloadN 157 X50 hx (hb hby d3_156) rfl rfl rfl ?_
    refine Own.callPr 160 0 t [] [] X50 hx hZ hown (m5 l Z a0 w t lb ib lo _ _ _ _ _ _ _ _ n0 _ _ _ _ zl35 D00 ⟨Ef_37, Ff_38, Ff_39, Ff_40, Ff_41, Ff_42, Ff_43, Ff_44, Ff_45, Cf_47, Cf_48, Cf_49⟩ (by omega) (by omega)) Ef_37 (w 36 rfl) (w 38 rfl) (w 3 rfl) (w 37 rfl) (w 4 rfl) (w 39 rfl) (by decide) e50 (by decide) (by decide) (by decide) (by decide) (by rw [hml]; rfl) (lenOf pd_2 rfl) rfl (Nat.le_of_eq rfl) (hb hby d3_157) rfl ?_
    rintro vv T51 L51 X51 ⟨rfl, N51q, K51, S51⟩
    have N51 := Fr.app N35 N51q
    have Ef_53 := Ef_37.keep K51
    have Cf_62 := Cf_46.keep K51 (ninS ne_it_t (ninS ne_it_lb (ninS ne_it_ib (ninS ne_it_lo nin0))))
    have zl51 := Nat.le_trans zl35 K51.1
    have KK51 := K35.trans K51 (allS (Or.inl (List.mem_of_getElem? (i := 0) rfl)) (allS (Or.inl (List.mem_of_getElem? (i := 1) rfl)) (allS (Or.inl (List.mem_of_getElem? (i := 2) rfl)) (allS (Or.inl (List.mem_of_getElem? (i := 3) rfl)) all0))))
    obtain ⟨E_51, Fleaks_51, Fleaes_51, Finnks_51, Finnrs_51, FleaOf_51, Frooot_51, Fheiht_51, Fregar_51, Clb_51, Cib_51, Clo_51⟩ := S51
    refine Own.istoreV 162 #[.val (.ref t), .val (.ref it), .val (.int (Own.N (0))), .val (.int (Own.N (L))), .val (.int (Own.N (0))), .val (.int (Own.N (L))), .val (.int (Own.N (0))), .val (.int (Own.N (0))), .unset, .unset, .unset, .unset] X51 hx (hb hby d3_160) rfl rfl ?_
    refine Own.iload 164 X51 hx (hb hby d3_162) rfl rfl ?_
    refine Own.sipush 167 X51 hx (Own.N 128) (hb hby d3_164) rfl rfl ?_
    refine Own.imul 168 X51 hx (hb hby d3_167) rfl (Own.N_mul _ _) ?_
    refine Own.istoreV 170 #[.val (.ref t), .val (.ref it), .val (.int (Own.N (0))), .val (.int (Own.N (L))), .val (.int (Own.N (0))), .val (.int (Own.N (L))), .val (.int (Own.N (0))), .val (.int (Own.N (0))), .val (.int (Own.N (0 * 128))), .unset, .unset, .unset] X51 hx (hb hby d3_168) rfl rfl ?_
    refine Own.iload 172 X51 hx (hb hby d3_170) rfl rfl ?_
    refine Own.iloadN 173 X51 hx (hb hby d3_172) rfl rfl ?_
    refine Own.iload 175 X51 hx (hb hby d3_173) rfl rfl ?_
    refine Own.isub 176 X51 hx (hb hby d3_175) rfl (Own.N_sub (by omega)) ?_
    refine Own.callSt 179 0 [(.int (Own.N (L))), (.int (Own.N (L - 0)))] [] X51 hx hZ hown (m4 l Z a0 w (L) (L - 0) _ (by omega) (by omega)) (w 24 rfl) (w 25 rfl) (w 26 rfl) (w 27 rfl) (by decide) rfl (by decide) (by decide) (by decide) (by decide) (by rw [hml]; rfl) (lenOf pd_3 rfl) rfl (Nat.le_of_eq rfl) (hb hby d3_176) rfl ?_
    rintro vv T66 L66 X66 ⟨rfl, hh66, rfl⟩
    have N66 := Fr.app N51 (Fr.nil _)
    refine Own.istoreV 181 #[.val (.ref t), .val (.ref it), .val (.int (Own.N (0))), .val (.int (Own.N (L))), .val (.int (Own.N (0))), .val (.int (Own.N (L))), .val (.int (Own.N (0))), .val (.int (Own.N (0))), .val (.int (Own.N (0 * 128))), .val (.int (Own.N (min L (L - 0)))), .unset, .unset] X66 hx (hb hby d3_179) rfl rfl ?_
    refine Own.iconst 182 X66 hx (Own.N 0) (hb hby d3_181) rfl rfl ?_
    refine Own.istoreV 184 #[.val (.ref t), .val (.ref it), .val (.int (Own.N (0))), .val (.int (Own.N (L))), .val (.int (Own.N (0))), .val (.int (Own.N (L))), .val (.int (Own.N (0))), .val (.int (Own.N (0))), .val (.int (Own.N (0 * 128))), .val (.int (Own.N (min L (L - 0)))), .val (.int (Own.N (0))), .unset] X66 hx (hb hby d3_182) rfl rfl ?_
    have JE : ∀ (kk cc : Nat) (gL2 gI2 : Nat → Int32) (s11 : Slot) (o_s11 : s11 = .unset ∨ ∃ x : Int32, s11 = .val (.int x)) (Tq : State) (Lq : List Loc) (hq : Heap) (Xq : Stand p l e ({ frames := 1, cells := 0, slots := 0, locals := 18 } : Room) s m #[(.ref t), (.ref it)] below meth c Tq Lq 0 0) (eqq : Tq.heap = hq) (Nq : Fr n0 Lq) (Kq : Keep h0 hq [t, lb, ib, lo]) (Sq : own_S Z hq t lb ib lo L (0 + 1) rt (0 + 1) rg zL zI zO gL2 gI2 gO) (IA : own_A n L gL2 gO) (IB : own_B 62 n (0 + cc) gL2 gI2) (IS : own_Sz L 0 gI2) (hc : cc ≤ (min L (L - 0))) (hk : (min L (L - 0)) - cc < kk), Own.Ends p.tables e below (fun v h L' => v = none ∧ Fr n0 L' ∧ Keep h0 h [t, lb, ib, lo] ∧ ∃ gL gI gO, own_S Z h t lb ib lo L 1 0 1 1 zL zI zO gL gI gO ∧ own_T L n 30 0 1 1 zL zI (own_pb n) gL gI ∧ own_Lf L (own_pb n) (fun q => q) gL gO) (Own.FE s ({ frames := 1, cells := 0, slots := 0, locals := 18 } : Room).cells ({ frames := 1, cells := 0, slots := 0, locals := 18 } : Room).slots) (Tq.setTop (mkF m 184 #[.val (.ref t), .val (.ref it), .val (.int (Own.N (0))), .val (.int (Own.N (L))), .val (.int (Own.N (0))), .val (.int (Own.N (L))), .val (.int (Own.N (0))), .val (.int (Own.N (0))), .val (.int (Own.N (0 * 128))), .val (.int (Own.N (min L (L - 0)))), .val (.int (Own.N (cc))), s11] [])) := by
      intro kk
      induction kk with
      | zero => intros; exfalso; omega
      | succ kk ihE =>
        intro cc gL2 gI2 s11 o_s11 Tq Lq hq Xq eqq Nq Kq Sq IA IB IS hc hk
        have zlq := Nat.le_trans Z0 Kq.1
        have Gf_67 := Ci.keep Kq (ninS ne_it_t (ninS ne_it_lb (ninS ne_it_ib (ninS ne_it_lo nin0))))
        obtain ⟨E_68, Fleaks_68, Fleaes_68, Finnks_68, Finnrs_68, FleaOf_68, Frooot_68, Fheiht_68, Fregar_68, Clb_68, Cib_68, Clo_68⟩ := Sq
        refine Own.iload 186 Xq hx (hb hby d3_184) rfl rfl ?_
        refine Own.iload 188 Xq hx (hb hby d3_186) rfl rfl ?_
        refine Own.nicmp_ge 278 191 Xq hx (hb hby d3_188) (by decide) rfl (by omega) (by omega) (fun tk => ?_) (fun tk => ?_)
        ·
          refine Own.aloadN 279 Xq hx (hb hby d3_278) rfl rfl rfl ?_
          refine Own.getFld 282 Xq hx hZ hown (host := "") (Or.inl (w 14 rfl)) Via.refl eqq Finnks_68 (hb hby d3_279) rfl ?_
          intro T69 X69 e69
          refine Own.iload 284 X69 hx (hb hby d3_282) rfl rfl ?_
          refine Own.iconst 285 X69 hx (Own.N 2) (hb hby d3_284) rfl rfl ?_
          refine Own.iadd 286 X69 hx (hb hby d3_285) rfl (Own.N_add _ _) ?_
          refine Own.iload 288 X69 hx (hb hby d3_286) rfl rfl ?_
          refine Own.nStore 289 X69 hx hZ e69 Cib_68 (by omega) (hb hby d3_288) rfl ?_
          intro T70 h70 X70 e70 W70 C70
          have N70 := Fr.snoc X70 Nq g_ib
          have Ef_72 := E_68.wr W70
          have Ff_73 := Fleaks_68.other W70 (Or.inl ne_t_ib)
          have Ff_74 := Fleaes_68.other W70 (Or.inl ne_t_ib)
          have Ff_75 := Finnks_68.other W70 (Or.inl ne_t_ib)
          have Ff_76 := Finnrs_68.other W70 (Or.inl ne_t_ib)
          have Ff_77 := FleaOf_68.other W70 (Or.inl ne_t_ib)
          have Ff_78 := Frooot_68.other W70 (Or.inl ne_t_ib)
          have Ff_79 := Fheiht_68.other W70 (Or.inl ne_t_ib)
          have Ff_80 := Fregar_68.other W70 (Or.inl ne_t_ib)
          have Cf_81 := Gf_67.other W70 ne_it_ib
          have Cf_82 := Clb_68.other W70 ne_lb_ib
          have Cf_84 := Clo_68.other W70 (Ne.symm ne_ib_lo)
          have zl70 := Nat.le_trans zlq (Nat.le_of_eq W70.size.symm)
          have K70 := Kq.wr W70 (Or.inl (List.mem_of_getElem? (i := 2) rfl))
          refine Own.iload 291 X70 hx (hb hby d3_289) rfl rfl ?_
          refine Own.iload 293 X70 hx (hb hby d3_291) rfl rfl ?_
          refine Own.iadd 294 X70 hx (hb hby d3_293) rfl (Own.N_add _ _) ?_
          refine Own.istoreV 296 #[.val (.ref t), .val (.ref it), .val (.int (Own.N (0))), .val (.int (Own.N (L))), .val (.int (Own.N (0))), .val (.int (Own.N (L))), .val (.int (Own.N (0 + L))), .val (.int (Own.N (0))), .val (.int (Own.N (0 * 128))), .val (.int (Own.N (min L (L - 0)))), .val (.int (Own.N (cc))), s11] X70 hx (hb hby d3_294) rfl rfl ?_
          refine Own.goto 150 X70 hx (hb hby d3_296) (by decide) ?_
          refine Own.iload 152 X70 hx (hb hby d3_150) rfl rfl ?_
          refine Own.iloadN 153 X70 hx (hb hby d3_152) rfl rfl ?_
          refine Own.nicmp_ge 299 156 X70 hx (hb hby d3_153) (by decide) rfl (by omega) (by omega) (fun tk => ?_) (fun tk => False.elim (by omega))
          refine Own.iload 301 X70 hx (hb hby d3_299) rfl rfl ?_
          refine Own.istoreNV 302 #[.val (.ref t), .val (.ref it), .val (.int (Own.N (0))), .val (.int (Own.N (L))), .val (.int (Own.N (0))), .val (.int (Own.N (L))), .val (.int (Own.N (0 + L))), .val (.int (Own.N (0))), .val (.int (Own.N (0 * 128))), .val (.int (Own.N (min L (L - 0)))), .val (.int (Own.N (cc))), s11] X70 hx (hb hby d3_301) rfl rfl ?_
          refine Own.aloadN 303 X70 hx (hb hby d3_302) rfl rfl rfl ?_
          refine Own.getFld 306 X70 hx hZ hown (host := "") (Or.inl (w 32 rfl)) Via.refl e70 Ff_76 (hb hby d3_303) rfl ?_
          intro T85 X85 e85
          refine Own.iload 308 X85 hx (hb hby d3_306) rfl rfl ?_
          refine Own.isub 309 X85 hx (hb hby d3_308) rfl (Own.N_sub (by omega)) ?_
          refine Own.istoreNV 310 #[.val (.ref t), .val (.ref it), .val (.int (Own.N (0))), .val (.int (Own.N ((0 + 1) - 0))), .val (.int (Own.N (0))), .val (.int (Own.N (L))), .val (.int (Own.N (0 + L))), .val (.int (Own.N (0))), .val (.int (Own.N (0 * 128))), .val (.int (Own.N (min L (L - 0)))), .val (.int (Own.N (cc))), s11] X85 hx (hb hby d3_309) rfl rfl ?_
          refine Own.iloadN 311 X85 hx (hb hby d3_310) rfl rfl ?_
          refine Own.iconst 312 X85 hx (Own.N 1) (hb hby d3_311) rfl rfl ?_
          refine Own.nicmp_gt 117 315 X85 hx (hb hby d3_312) (by decide) rfl (by omega) (by omega) (fun tk => False.elim (by omega)) (fun tk => ?_)
          refine Own.aloadN 316 X85 hx (hb hby d3_315) rfl rfl rfl ?_
          refine Own.iloadN 317 X85 hx (hb hby d3_316) rfl rfl ?_
          refine Own.putFld 320 X85 hx hZ hown (host := "") (Or.inl (w 44 rfl)) Via.refl e85 Ff_78 Ef_72 (Or.inl (w 45 rfl)) (w 3 rfl) (ty := .int) (by decide) rfl rfl (hb hby d3_317) rfl ?_
          intro T86 h86 X86 e86 W86
          have N86 := Fr.snoc X86 N70 g_t
          have Ef_88 := Ef_72.wr W86
          have Ff_89 := Ff_73.other W86 (Or.inr (slot_ne (Or.inr (w 13 rfl)) (Or.inl (w 45 rfl)) (by decide) (t := (.array .int)) (t' := .int) (by decide) (by decide)))
          have Ff_90 := Ff_74.other W86 (Or.inr (slot_ne (Or.inl (w 23 rfl)) (Or.inl (w 45 rfl)) (by decide) (t := .int) (t' := .int) (by decide) (by decide)))
          have Ff_91 := Ff_75.other W86 (Or.inr (slot_ne (Or.inl (w 15 rfl)) (Or.inl (w 45 rfl)) (by decide) (t := (.array .int)) (t' := .int) (by decide) (by decide)))
          have Ff_92 := Ff_76.other W86 (Or.inr (slot_ne (Or.inl (w 33 rfl)) (Or.inl (w 45 rfl)) (by decide) (t := .int) (t' := .int) (by decide) (by decide)))
          have Ff_93 := Ff_77.other W86 (Or.inr (slot_ne (Or.inr (w 17 rfl)) (Or.inl (w 45 rfl)) (by decide) (t := (.array .int)) (t' := .int) (by decide) (by decide)))
          have Ff_94 := Ff_78.same W86
          have Ff_95 := Ff_79.other W86 (Or.inr (slot_ne (Or.inl (w 35 rfl)) (Or.inl (w 45 rfl)) (by decide) (t := .int) (t' := .int) (by decide) (by decide)))
          have Ff_96 := Ff_80.other W86 (Or.inr (slot_ne (Or.inl (w 47 rfl)) (Or.inl (w 45 rfl)) (by decide) (t := .boolean) (t' := .int) (by decide) (by decide)))
          have Cf_97 := Cf_81.other W86 ne_it_t
          have Cf_98 := Cf_82.other W86 (Ne.symm ne_t_lb)
          have Cf_99 := Cf_84.other W86 (Ne.symm ne_t_lo)
          have Cf_100 := C70.other W86 (Ne.symm ne_t_ib)
          have zl86 := Nat.le_trans zl70 (Nat.le_of_eq W86.size.symm)
          have K86 := K70.wr W86 (Or.inl (List.mem_of_getElem? (i := 0) rfl))
          refine Own.aloadN 321 X86 hx (hb hby d3_320) rfl rfl rfl ?_
          refine Own.getFld 324 X86 hx hZ hown (host := "") (Or.inl (w 14 rfl)) Via.refl e86 Ff_91 (hb hby d3_321) rfl ?_
          intro T101 X101 e101
          refine Own.aloadN 325 X101 hx (hb hby d3_324) rfl rfl rfl ?_
          refine Own.getFld 328 X101 hx hZ hown (host := "") (Or.inl (w 44 rfl)) Via.refl e101 Ff_94 (hb hby d3_325) rfl ?_
          intro T102 X102 e102
          refine Own.sipush 331 X102 hx (Own.N 128) (hb hby d3_328) rfl rfl ?_
          refine Own.imul 332 X102 hx (hb hby d3_331) rfl (Own.N_mul _ _) ?_
          refine Own.iconst 333 X102 hx (Own.N 0) (hb hby d3_332) rfl rfl ?_
          refine Own.iadd 334 X102 hx (hb hby d3_333) rfl (Own.N_add _ _) ?_
          refine Own.iconst 335 X102 hx ((-1 : Int32)) (hb hby d3_334) rfl rfl ?_
          refine Own.nStore 336 X102 hx hZ e102 Cf_100 (by omega) (hb hby d3_335) rfl ?_
          intro T103 h103 X103 e103 W103 C103
          have N103 := Fr.snoc X103 N86 g_ib
          have Ef_105 := Ef_88.wr W103
          have Ff_106 := Ff_89.other W103 (Or.inl ne_t_ib)
          have Ff_107 := Ff_90.other W103 (Or.inl ne_t_ib)
          have Ff_108 := Ff_91.other W103 (Or.inl ne_t_ib)
          have Ff_109 := Ff_92.other W103 (Or.inl ne_t_ib)
          have Ff_110 := Ff_93.other W103 (Or.inl ne_t_ib)
          have Ff_111 := Ff_94.other W103 (Or.inl ne_t_ib)
          have Ff_112 := Ff_95.other W103 (Or.inl ne_t_ib)
          have Ff_113 := Ff_96.other W103 (Or.inl ne_t_ib)
          have Cf_114 := Cf_97.other W103 ne_it_ib
          have Cf_115 := Cf_98.other W103 ne_lb_ib
          have Cf_116 := Cf_99.other W103 (Ne.symm ne_ib_lo)
          have zl103 := Nat.le_trans zl86 (Nat.le_of_eq W103.size.symm)
          have K103 := K86.wr W103 (Or.inl (List.mem_of_getElem? (i := 2) rfl))
          refine Own.aloadN 337 X103 hx (hb hby d3_336) rfl rfl rfl ?_
          refine Own.iconst 338 X103 hx (Own.N 1) (hb hby d3_337) rfl rfl ?_
          refine Own.putFld 341 X103 hx hZ hown (host := "") (Or.inl (w 46 rfl)) Via.refl e103 Ff_113 Ef_105 (Or.inl (w 47 rfl)) (w 3 rfl) (ty := .boolean) (by decide) rfl rfl (hb hby d3_338) rfl ?_
          intro T118 h118 X118 e118 W118
          have N118 := Fr.snoc X118 N103 g_t
          have Ef_120 := Ef_105.wr W118
          have Ff_121 := Ff_106.other W118 (Or.inr (slot_ne (Or.inr (w 13 rfl)) (Or.inl (w 47 rfl)) (by decide) (t := (.array .int)) (t' := .boolean) (by decide) (by decide)))
          have Ff_122 := Ff_107.other W118 (Or.inr (slot_ne (Or.inl (w 23 rfl)) (Or.inl (w 47 rfl)) (by decide) (t := .int) (t' := .boolean) (by decide) (by decide)))
          have Ff_123 := Ff_108.other W118 (Or.inr (slot_ne (Or.inl (w 15 rfl)) (Or.inl (w 47 rfl)) (by decide) (t := (.array .int)) (t' := .boolean) (by decide) (by decide)))
          have Ff_124 := Ff_109.other W118 (Or.inr (slot_ne (Or.inl (w 33 rfl)) (Or.inl (w 47 rfl)) (by decide) (t := .int) (t' := .boolean) (by decide) (by decide)))
          have Ff_125 := Ff_110.other W118 (Or.inr (slot_ne (Or.inr (w 17 rfl)) (Or.inl (w 47 rfl)) (by decide) (t := (.array .int)) (t' := .boolean) (by decide) (by decide)))
          have Ff_126 := Ff_111.other W118 (Or.inr (slot_ne (Or.inl (w 45 rfl)) (Or.inl (w 47 rfl)) (by decide) (t := .int) (t' := .boolean) (by decide) (by decide)))
          have Ff_127 := Ff_112.other W118 (Or.inr (slot_ne (Or.inl (w 35 rfl)) (Or.inl (w 47 rfl)) (by decide) (t := .int) (t' := .boolean) (by decide) (by decide)))
          have Ff_128 := Ff_113.same W118
          have Cf_129 := Cf_114.other W118 ne_it_t
          have Cf_130 := Cf_115.other W118 (Ne.symm ne_t_lb)
          have Cf_131 := Cf_116.other W118 (Ne.symm ne_t_lo)
          have Cf_132 := C103.other W118 (Ne.symm ne_t_ib)
          have zl118 := Nat.le_trans zl103 (Nat.le_of_eq W118.size.symm)
          have K118 := K103.wr W118 (Or.inl (List.mem_of_getElem? (i := 0) rfl))
          refine Own.retVoid X118 hx hlk hret (hb hby d3_341) (by decide) (by decide) ?_
          rw [e118]
          exact ⟨rfl, N118, K118, _, _, _, ⟨Ef_120, Ff_121, Ff_122, Ff_123, Ff_124, Ff_125, Ff_126, Ff_127, Ff_128, Cf_130, Cf_132, Cf_131⟩, ⟨by rw [hLn]; exact own_A_Pr (by omega), by omega, by omega, by omega, by omega, Or.inl ⟨rfl, by subst hLn; exact own_B_H1 (by omega) (by omega) (by rw [show (n - 1) / 30 + 1 = 0 + cc from by omega]; exact IB) (by omega) (by omega) (by omega)⟩, Or.inl ⟨rfl, fun j hj => rfl⟩, by omega, by omega, by omega, by omega⟩, by subst hLn; exact own_A_Lf (by omega) IA⟩
        ·
          refine Own.iloadN 192 Xq hx (hb hby d3_191) rfl rfl ?_
          refine Own.iload 194 Xq hx (hb hby d3_192) rfl rfl ?_
          refine Own.iadd 195 Xq hx (hb hby d3_194) rfl (Own.N_add _ _) ?_
          refine Own.iload 197 Xq hx (hb hby d3_195) rfl rfl ?_
          refine Own.iadd 198 Xq hx (hb hby d3_197) rfl (Own.N_add _ _) ?_
          refine Own.istoreV 200 #[.val (.ref t), .val (.ref it), .val (.int (Own.N (0))), .val (.int (Own.N (L))), .val (.int (Own.N (0))), .val (.int (Own.N (L))), .val (.int (Own.N (0))), .val (.int (Own.N (0))), .val (.int (Own.N (0 * 128))), .val (.int (Own.N (min L (L - 0)))), .val (.int (Own.N (cc))), .val (.int (Own.N ((0 + 0) + cc)))] Xq hx (hb hby d3_198) rfl (by rcases o_s11 with q9 | ⟨x9, q9⟩ <;> (subst q9; rfl)) ?_
          refine Own.aloadN 201 Xq hx (hb hby d3_200) rfl rfl rfl ?_
          refine Own.getFld 204 Xq hx hZ hown (host := "") (Or.inl (w 14 rfl)) Via.refl eqq Finnks_68 (hb hby d3_201) rfl ?_
          intro T133 X133 e133
          refine Own.iload 206 X133 hx (hb hby d3_204) rfl rfl ?_
          refine Own.iconst 207 X133 hx (Own.N 3) (hb hby d3_206) rfl rfl ?_
          refine Own.iadd 208 X133 hx (hb hby d3_207) rfl (Own.N_add _ _) ?_
          refine Own.iload 210 X133 hx (hb hby d3_208) rfl rfl ?_
          refine Own.iadd 211 X133 hx (hb hby d3_210) rfl (Own.N_add _ _) ?_
          refine Own.aloadN 212 X133 hx (hb hby d3_211) rfl rfl rfl ?_
          refine Own.getFld 215 X133 hx hZ hown (host := "") (Or.inl (w 34 rfl)) Via.refl e133 Fheiht_68 (hb hby d3_212) rfl ?_
          intro T134 X134 e134
          refine Own.iconst 216 X134 hx (Own.N 1) (hb hby d3_215) rfl rfl ?_
          refine Own.nicmp_ne 234 219 X134 hx (hb hby d3_216) (by decide) rfl (by omega) (by omega) (fun tk => False.elim (by omega)) (fun tk => ?_)
          have ia := (IA.1 ((0 + 0) + cc) (by omega)).1
          refine Own.aloadN 220 X134 hx (hb hby d3_219) rfl rfl rfl ?_
          refine Own.getFld 223 X134 hx hZ hown (host := "") (Or.inl (w 12 rfl)) Via.refl e134 Fleaks_68 (hb hby d3_220) rfl ?_
          intro T135 X135 e135
          refine Own.iload 225 X135 hx (hb hby d3_223) rfl rfl ?_
          refine Own.bipush 227 X135 hx (Own.N 64) (hb hby d3_225) rfl rfl ?_
          refine Own.imul 228 X135 hx (hb hby d3_227) rfl (Own.N_mul _ _) ?_
          refine Own.iconst 229 X135 hx (Own.N 2) (hb hby d3_228) rfl rfl ?_
          refine Own.iadd 230 X135 hx (hb hby d3_229) rfl (Own.N_add _ _) ?_
          refine Own.nLoad 231 (Own.N (min 30 (n - 30 * ((0 + 0) + cc)))) X135 hx hZ e135 Clb_68 (by omega) ia (hb hby d3_230) rfl ?_
          refine Own.goto 240 X135 hx (hb hby d3_231) (by decide) ?_
          refine Own.nStore 241 X135 hx hZ e135 Cib_68 (by omega) (hb hby d3_240) rfl ?_
          intro T136 h136 X136 e136 W136 C136
          have N136 := Fr.snoc X136 Nq g_ib
          have Ef_138 := E_68.wr W136
          have Ff_139 := Fleaks_68.other W136 (Or.inl ne_t_ib)
          have Ff_140 := Fleaes_68.other W136 (Or.inl ne_t_ib)
          have Ff_141 := Finnks_68.other W136 (Or.inl ne_t_ib)
          have Ff_142 := Finnrs_68.other W136 (Or.inl ne_t_ib)
          have Ff_143 := FleaOf_68.other W136 (Or.inl ne_t_ib)
          have Ff_144 := Frooot_68.other W136 (Or.inl ne_t_ib)
          have Ff_145 := Fheiht_68.other W136 (Or.inl ne_t_ib)
          have Ff_146 := Fregar_68.other W136 (Or.inl ne_t_ib)
          have Cf_147 := Gf_67.other W136 ne_it_ib
          have Cf_148 := Clb_68.other W136 ne_lb_ib
          have Cf_150 := Clo_68.other W136 (Ne.symm ne_ib_lo)
          have zl136 := Nat.le_trans zlq (Nat.le_of_eq W136.size.symm)
          have K136 := Kq.wr W136 (Or.inl (List.mem_of_getElem? (i := 2) rfl))
          refine Own.aloadN 242 X136 hx (hb hby d3_241) rfl rfl rfl ?_
          refine Own.getFld 245 X136 hx hZ hown (host := "") (Or.inl (w 14 rfl)) Via.refl e136 Ff_141 (hb hby d3_242) rfl ?_
          intro T151 X151 e151
          refine Own.iload 247 X151 hx (hb hby d3_245) rfl rfl ?_
          refine Own.bipush 249 X151 hx (Own.N 65) (hb hby d3_247) rfl rfl ?_
          refine Own.iadd 250 X151 hx (hb hby d3_249) rfl (Own.N_add _ _) ?_
          refine Own.iload 252 X151 hx (hb hby d3_250) rfl rfl ?_
          refine Own.iadd 253 X151 hx (hb hby d3_252) rfl (Own.N_add _ _) ?_
          refine Own.iload 255 X151 hx (hb hby d3_253) rfl rfl ?_
          refine Own.nStore 256 X151 hx hZ e151 C136 (by omega) (hb hby d3_255) rfl ?_
          intro T152 h152 X152 e152 W152 C152
          have N152 := Fr.snoc X152 N136 g_ib
          have Ef_154 := Ef_138.wr W152
          have Ff_155 := Ff_139.other W152 (Or.inl ne_t_ib)
          have Ff_156 := Ff_140.other W152 (Or.inl ne_t_ib)
          have Ff_157 := Ff_141.other W152 (Or.inl ne_t_ib)
          have Ff_158 := Ff_142.other W152 (Or.inl ne_t_ib)
          have Ff_159 := Ff_143.other W152 (Or.inl ne_t_ib)
          have Ff_160 := Ff_144.other W152 (Or.inl ne_t_ib)
          have Ff_161 := Ff_145.other W152 (Or.inl ne_t_ib)
          have Ff_162 := Ff_146.other W152 (Or.inl ne_t_ib)
          have Cf_163 := Cf_147.other W152 ne_it_ib
          have Cf_164 := Cf_148.other W152 ne_lb_ib
          have Cf_165 := Cf_150.other W152 (Ne.symm ne_ib_lo)
          have zl152 := Nat.le_trans zl136 (Nat.le_of_eq W152.size.symm)
          have K152 := K136.wr W152 (Or.inl (List.mem_of_getElem? (i := 2) rfl))
          refine Own.aloadN 257 X152 hx (hb hby d3_256) rfl rfl rfl ?_
          refine Own.iload 259 X152 hx (hb hby d3_257) rfl rfl ?_
          refine Own.aloadN 260 X152 hx (hb hby d3_259) rfl rfl rfl ?_
          refine Own.getFld 263 X152 hx hZ hown (host := "") (Or.inl (w 34 rfl)) Via.refl e152 Ff_161 (hb hby d3_260) rfl ?_
          intro T167 X167 e167
          refine Own.iconst 264 X167 hx (Own.N 1) (hb hby d3_263) rfl rfl ?_
          refine Own.isub 265 X167 hx (hb hby d3_264) rfl (Own.N_sub (by omega)) ?_
          refine Own.iload 267 X167 hx (hb hby d3_265) rfl rfl ?_
          refine Own.iload 269 X167 hx (hb hby d3_267) rfl rfl ?_
          refine Own.callPr 272 0 t [(.int (Own.N ((0 + 0) + cc))), (.int (Own.N ((0 + 1) - 1))), (.int (Own.N (0))), (.int (Own.N (cc)))] [] X167 hx hZ hown (m6_0 l Z a0 w t lb ib lo _ _ _ _ _ _ _ _ n0 _ _ _ ((0 + 0) + cc) ((0 + 1) - 1) 0 cc _ zl152 D00 ⟨Ef_154, Ff_155, Ff_156, Ff_157, Ff_158, Ff_159, Ff_160, Ff_161, Ff_162, Cf_164, C152, Cf_165⟩ (by omega) (by omega) (by omega) (by omega)) Ef_154 (w 40 rfl) (w 42 rfl) (w 3 rfl) (w 41 rfl) (w 4 rfl) (w 43 rfl) (by decide) e167 (by decide) (by decide) (by decide) (by decide) (by rw [hml]; rfl) (lenOf pd_4 rfl) rfl (Nat.le_of_eq rfl) (hb hby d3_269) rfl ?_
          rintro vv T168 L168 X168 ⟨rfl, N168q, K168, S168⟩
          have N168 := Fr.app N152 N168q
          have Ef_170 := Ef_154.keep K168
          have Cf_179 := Cf_163.keep K168 (ninS ne_it_t (ninS ne_it_lb (ninS ne_it_ib (ninS ne_it_lo nin0))))
          have zl168 := Nat.le_trans zl152 K168.1
          have KK168 := K152.trans K168 (allS (Or.inl (List.mem_of_getElem? (i := 0) rfl)) (allS (Or.inl (List.mem_of_getElem? (i := 1) rfl)) (allS (Or.inl (List.mem_of_getElem? (i := 2) rfl)) (allS (Or.inl (List.mem_of_getElem? (i := 3) rfl)) all0))))
          obtain ⟨E_168, Fleaks_168, Fleaes_168, Finnks_168, Finnrs_168, FleaOf_168, Frooot_168, Fheiht_168, Fregar_168, Clb_168, Cib_168, Clo_168⟩ := S168
          refine Own.iinc 275 (fun c_183 => #[.val (.ref t), .val (.ref it), .val (.int (Own.N (0))), .val (.int (Own.N (L))), .val (.int (Own.N (0))), .val (.int (Own.N (L))), .val (.int (Own.N (0))), .val (.int (Own.N (0))), .val (.int (Own.N (0 * 128))), .val (.int (Own.N (min L (L - 0)))), .val (.int c_183), .val (.int (Own.N ((0 + 0) + cc)))]) X168 hx (Own.N 1) (hb hby d3_272) rfl rfl rfl (fun _ => rfl) fun c_183 hc_183 => ?_
          obtain rfl : c_183 = Own.N (cc + 1) := hc_183.trans (Own.N_add _ _)
          refine Own.goto 184 X168 hx (hb hby d3_275) (by decide) ?_
          exact ihE (cc + 1) _ _ _ (Or.inr ⟨_, rfl⟩) _ _ _ X168 rfl N168 KK168 ⟨E_168, Fleaks_168, Fleaes_168, Finnks_168, Finnrs_168, FleaOf_168, Frooot_168, Fheiht_168, Fregar_168, Clb_168, Cib_168, Clo_168⟩ (own_A_agree IA (fun j _ => own_two_agree j)) (own_B_step (T := 0 + cc) IB (by omega) (by omega) (by omega) (by omega) (by omega) (by omega) (by omega) (by omega) (by omega)) (own_Sz_upd (own_Sz_upd IS (fun u hu => by omega)) (fun u hu => by omega)) (by omega) (by omega)
    exact JE ((min L (L - 0)) + 1) 0 _ _ _ (Or.inl rfl) _ _ _ X66 hh66 N66 KK51 ⟨E_51, Fleaks_51, Fleaes_51, Finnks_51, Finnrs_51, FleaOf_51, Frooot_51, Fheiht_51, Fregar_51, Clb_51, Cib_51, Clo_51⟩ IA (fun j hj => absurd hj (by omega)) (fun u hu => absurd hu (by omega)) (by omega) (by omega)
  have JA : ∀ (kk jj st : Nat) (gL gO : Nat → Int32) (s3 : Slot) (s4 : Slot) (s5 : Slot) (o_s3 : s3 = .unset ∨ ∃ x : Int32, s3 = .val (.int x)) (o_s4 : s4 = .unset ∨ ∃ x : Int32, s4 = .val (.int x)) (o_s5 : s5 = .unset ∨ ∃ x : Int32, s5 = .val (.int x)) (Tq : State) (Lq : List Loc) (hq : Heap) (Xq : Stand p l e ({ frames := 1, cells := 0, slots := 0, locals := 18 } : Room) s m #[(.ref t), (.ref it)] below meth c Tq Lq 0 0) (eqq : Tq.heap = hq) (Nq : Fr n0 Lq) (Kq : Keep h0 hq [t, lb, ib, lo]) (Sq : own_S Z hq t lb ib lo jj inn rt ht rg zL zI zO gL fI gO) (IA : own_A n jj gL gO) (hst : st = 30 * jj) (hjj : jj ≤ L) (hk : L - jj < kk), Own.Ends p.tables e below (fun v h L' => v = none ∧ Fr n0 L' ∧ Keep h0 h [t, lb, ib, lo] ∧ ∃ gL gI gO, own_S Z h t lb ib lo L 1 0 1 1 zL zI zO gL gI gO ∧ own_T L n 30 0 1 1 zL zI (own_pb n) gL gI ∧ own_Lf L (own_pb n) (fun q => q) gL gO) (Own.FE s ({ frames := 1, cells := 0, slots := 0, locals := 18 } : Room).cells ({ frames := 1, cells := 0, slots := 0, locals := 18 } : Room).slots) (Tq.setTop (mkF m 7 #[.val (.ref t), .val (.ref it), .val (.int (Own.N (st))), s3, s4, s5, .unset, .unset, .unset, .unset, .unset, .unset] [])) := by
    intro kk
    induction kk with
    | zero => intros; exfalso; omega
    | succ kk ihA =>
      intro jj st gL gO s3 s4 s5 o_s3 o_s4 o_s5 Tq Lq hq Xq eqq Nq Kq Sq IA hst hjj hk
      have zlq := Nat.le_trans Z0 Kq.1
      have Gf_184 := Ci.keep Kq (ninS ne_it_t (ninS ne_it_lb (ninS ne_it_ib (ninS ne_it_lo nin0))))
      obtain ⟨E_185, Fleaks_185, Fleaes_185, Finnks_185, Finnrs_185, FleaOf_185, Frooot_185, Fheiht_185, Fregar_185, Clb_185, Cib_185, Clo_185⟩ := Sq
      refine Own.iloadN 8 Xq hx (hb hby d3_7) rfl rfl ?_
      refine Own.aloadN 9 Xq hx (hb hby d3_8) rfl rfl rfl ?_
      refine Own.nLen 10 Xq hx hZ eqq Gf_184 (hb hby d3_9) rfl ?_
      refine Own.nicmp_ge 100 13 Xq hx (hb hby d3_10) (by decide) rfl (by omega) (by omega) (fun tkA => ?_) (fun tkA => ?_)
      ·
        obtain rfl : jj = L := by omega
        exact K100 _ _ _ _ _ _ o_s3 o_s4 o_s5 _ _ _ Xq eqq Nq Kq ⟨E_185, Fleaks_185, Fleaes_185, Finnks_185, Finnrs_185, FleaOf_185, Frooot_185, Fheiht_185, Fregar_185, Clb_185, Cib_185, Clo_185⟩ IA
      ·
        refine Own.aloadN 14 Xq hx (hb hby d3_13) rfl rfl rfl ?_
        refine Own.dup 15 Xq hx (hb hby d3_14) rfl rfl ?_
        refine Own.getFld 18 Xq hx hZ hown (host := "") (Or.inl (w 22 rfl)) Via.refl eqq Fleaes_185 (hb hby d3_15) rfl ?_
        intro T186 X186 e186
        refine Own.dupX1 19 X186 hx (hb hby d3_18) rfl rfl rfl ?_
        refine Own.iconst 20 X186 hx (Own.N 1) (hb hby d3_19) rfl rfl ?_
        refine Own.iadd 21 X186 hx (hb hby d3_20) rfl (Own.N_add _ _) ?_
        refine Own.putFld 24 X186 hx hZ hown (host := "") (Or.inl (w 22 rfl)) Via.refl e186 Fleaes_185 E_185 (Or.inl (w 23 rfl)) (w 3 rfl) (ty := .int) (by decide) rfl rfl (hb hby d3_21) rfl ?_
        intro T187 h187 X187 e187 W187
        have N187 := Fr.snoc X187 Nq g_t
        have Ef_189 := E_185.wr W187
        have Ff_190 := Fleaks_185.other W187 (Or.inr (slot_ne (Or.inr (w 13 rfl)) (Or.inl (w 23 rfl)) (by decide) (t := (.array .int)) (t' := .int) (by decide) (by decide)))
        have Ff_191 := Fleaes_185.same W187
        have Ff_192 := Finnks_185.other W187 (Or.inr (slot_ne (Or.inl (w 15 rfl)) (Or.inl (w 23 rfl)) (by decide) (t := (.array .int)) (t' := .int) (by decide) (by decide)))
        have Ff_193 := Finnrs_185.other W187 (Or.inr (slot_ne (Or.inl (w 33 rfl)) (Or.inl (w 23 rfl)) (by decide) (t := .int) (t' := .int) (by decide) (by decide)))
        have Ff_194 := FleaOf_185.other W187 (Or.inr (slot_ne (Or.inr (w 17 rfl)) (Or.inl (w 23 rfl)) (by decide) (t := (.array .int)) (t' := .int) (by decide) (by decide)))
        have Ff_195 := Frooot_185.other W187 (Or.inr (slot_ne (Or.inl (w 45 rfl)) (Or.inl (w 23 rfl)) (by decide) (t := .int) (t' := .int) (by decide) (by decide)))
        have Ff_196 := Fheiht_185.other W187 (Or.inr (slot_ne (Or.inl (w 35 rfl)) (Or.inl (w 23 rfl)) (by decide) (t := .int) (t' := .int) (by decide) (by decide)))
        have Ff_197 := Fregar_185.other W187 (Or.inr (slot_ne (Or.inl (w 47 rfl)) (Or.inl (w 23 rfl)) (by decide) (t := .boolean) (t' := .int) (by decide) (by decide)))
        have Cf_198 := Gf_184.other W187 ne_it_t
        have Cf_199 := Clb_185.other W187 (Ne.symm ne_t_lb)
        have Cf_200 := Cib_185.other W187 (Ne.symm ne_t_ib)
        have Cf_201 := Clo_185.other W187 (Ne.symm ne_t_lo)
        have zl187 := Nat.le_trans zlq (Nat.le_of_eq W187.size.symm)
        have K187 := Kq.wr W187 (Or.inl (List.mem_of_getElem? (i := 0) rfl))
        refine Own.istoreNV 25 #[.val (.ref t), .val (.ref it), .val (.int (Own.N (st))), .val (.int (Own.N (jj))), s4, s5, .unset, .unset, .unset, .unset, .unset, .unset] X187 hx (hb hby d3_24) rfl (by rcases o_s3 with q9 | ⟨x9, q9⟩ <;> (subst q9; rfl)) ?_
        refine Own.bipush 27 X187 hx (Own.N 30) (hb hby d3_25) rfl rfl ?_
        refine Own.aloadN 28 X187 hx (hb hby d3_27) rfl rfl rfl ?_
        refine Own.nLen 29 X187 hx hZ e187 Cf_198 (hb hby d3_28) rfl ?_
        refine Own.iloadN 30 X187 hx (hb hby d3_29) rfl rfl ?_
        refine Own.isub 31 X187 hx (hb hby d3_30) rfl (Own.N_sub (by omega)) ?_
        refine Own.callSt 34 0 [(.int (Own.N (30))), (.int (Own.N (n - st)))] [] X187 hx hZ hown (m4 l Z a0 w (30) (n - st) _ (by omega) (by omega)) (w 24 rfl) (w 25 rfl) (w 26 rfl) (w 27 rfl) (by decide) e187 (by decide) (by decide) (by decide) (by decide) (by rw [hml]; rfl) (lenOf pd_3 rfl) rfl (Nat.le_of_eq rfl) (hb hby d3_31) rfl ?_
        rintro vv T202 L202 X202 ⟨rfl, hh202, rfl⟩
        have N202 := Fr.app N187 (Fr.nil _)
        refine Own.istoreV 36 #[.val (.ref t), .val (.ref it), .val (.int (Own.N (st))), .val (.int (Own.N (jj))), .val (.int (Own.N (min 30 (n - st)))), s5, .unset, .unset, .unset, .unset, .unset, .unset] X202 hx (hb hby d3_34) rfl (by rcases o_s4 with q9 | ⟨x9, q9⟩ <;> (subst q9; rfl)) ?_
        refine Own.aloadN 37 X202 hx (hb hby d3_36) rfl rfl rfl ?_
        refine Own.iloadN 38 X202 hx (hb hby d3_37) rfl rfl ?_
        refine Own.aloadN 39 X202 hx (hb hby d3_38) rfl rfl rfl ?_
        refine Own.getFld 42 X202 hx hZ hown (host := "") (Or.inl (w 12 rfl)) Via.refl hh202 Ff_190 (hb hby d3_39) rfl ?_
        intro T203 X203 e203
        refine Own.iloadN 43 X203 hx (hb hby d3_42) rfl rfl ?_
        refine Own.bipush 45 X203 hx (Own.N 64) (hb hby d3_43) rfl rfl ?_
        refine Own.imul 46 X203 hx (hb hby d3_45) rfl (Own.N_mul _ _) ?_
        refine Own.iconst 47 X203 hx (Own.N 3) (hb hby d3_46) rfl rfl ?_
        refine Own.iadd 48 X203 hx (hb hby d3_47) rfl (Own.N_add _ _) ?_
        refine Own.iload 50 X203 hx (hb hby d3_48) rfl rfl ?_
        refine Own.nCopy 53 0 X203 hx hZ hown (w 28 rfl) (w 31 rfl) (w 29 rfl) (w 30 rfl) e203 Cf_198 Cf_199 (by omega) (by omega) N202 g_lb (by rw [hml]; rfl) (hb hby d3_50) rfl (by decide) (Nat.le_of_eq rfl) (by decide) ?_
        intro T204 h204 L204 X204 e204 N204 K204 C204
        have Ef_206 := Ef_189.keep K204
        have Ff_207 := Ff_190.keep K204 (ninS ne_t_lb nin0)
        have Ff_208 := Ff_191.keep K204 (ninS ne_t_lb nin0)
        have Ff_209 := Ff_192.keep K204 (ninS ne_t_lb nin0)
        have Ff_210 := Ff_193.keep K204 (ninS ne_t_lb nin0)
        have Ff_211 := Ff_194.keep K204 (ninS ne_t_lb nin0)
        have Ff_212 := Ff_195.keep K204 (ninS ne_t_lb nin0)
        have Ff_213 := Ff_196.keep K204 (ninS ne_t_lb nin0)
        have Ff_214 := Ff_197.keep K204 (ninS ne_t_lb nin0)
        have Cf_215 := Cf_198.keep K204 (ninS ne_it_lb nin0)
        have Cf_216 := Cf_200.keep K204 (ninS (Ne.symm ne_lb_ib) nin0)
        have Cf_217 := Cf_201.keep K204 (ninS (Ne.symm ne_lb_lo) nin0)
        have KK204 := K187.trans K204 (allS (Or.inl (List.mem_of_getElem? (i := 1) rfl)) all0)
        have zl204 := Nat.le_trans zl187 K204.1
        refine Own.aloadN 54 X204 hx (hb hby d3_53) rfl rfl rfl ?_
        refine Own.getFld 57 X204 hx hZ hown (host := "") (Or.inl (w 12 rfl)) Via.refl e204 Ff_207 (hb hby d3_54) rfl ?_
        intro T218 X218 e218
        refine Own.iloadN 58 X218 hx (hb hby d3_57) rfl rfl ?_
        refine Own.bipush 60 X218 hx (Own.N 64) (hb hby d3_58) rfl rfl ?_
        refine Own.imul 61 X218 hx (hb hby d3_60) rfl (Own.N_mul _ _) ?_
        refine Own.iconst 62 X218 hx (Own.N 2) (hb hby d3_61) rfl rfl ?_
        refine Own.iadd 63 X218 hx (hb hby d3_62) rfl (Own.N_add _ _) ?_
        refine Own.iload 65 X218 hx (hb hby d3_63) rfl rfl ?_
        refine Own.nStore 66 X218 hx hZ e218 C204 (by omega) (hb hby d3_65) rfl ?_
        intro T219 h219 X219 e219 W219 C219
        have N219 := Fr.snoc X219 N204 g_lb
        have Ef_221 := Ef_206.wr W219
        have Ff_222 := Ff_207.other W219 (Or.inl ne_t_lb)
        have Ff_223 := Ff_208.other W219 (Or.inl ne_t_lb)
        have Ff_224 := Ff_209.other W219 (Or.inl ne_t_lb)
        have Ff_225 := Ff_210.other W219 (Or.inl ne_t_lb)
        have Ff_226 := Ff_211.other W219 (Or.inl ne_t_lb)
        have Ff_227 := Ff_212.other W219 (Or.inl ne_t_lb)
        have Ff_228 := Ff_213.other W219 (Or.inl ne_t_lb)
        have Ff_229 := Ff_214.other W219 (Or.inl ne_t_lb)
        have Cf_230 := Cf_215.other W219 ne_it_lb
        have Cf_231 := Cf_216.other W219 (Ne.symm ne_lb_ib)
        have Cf_232 := Cf_217.other W219 (Ne.symm ne_lb_lo)
        have zl219 := Nat.le_trans zl204 (Nat.le_of_eq W219.size.symm)
        have K219 := KK204.wr W219 (Or.inl (List.mem_of_getElem? (i := 1) rfl))
        refine Own.iloadN 67 X219 hx (hb hby d3_66) rfl rfl ?_
        refine Own.istoreV 69 #[.val (.ref t), .val (.ref it), .val (.int (Own.N (st))), .val (.int (Own.N (jj))), .val (.int (Own.N (min 30 (n - st)))), .val (.int (Own.N (st))), .unset, .unset, .unset, .unset, .unset, .unset] X219 hx (hb hby d3_67) rfl (by rcases o_s5 with q9 | ⟨x9, q9⟩ <;> (subst q9; rfl)) ?_
        have JB : ∀ (kk k5 : Nat) (gO1 : Nat → Int32) (Tq : State) (Lq : List Loc) (hq : Heap) (Xq : Stand p l e ({ frames := 1, cells := 0, slots := 0, locals := 18 } : Room) s m #[(.ref t), (.ref it)] below meth c Tq Lq 0 0) (eqq : Tq.heap = hq) (Nq : Fr n0 Lq) (Kq : Keep h0 hq [t, lb, ib, lo]) (Sq : own_S Z hq t lb ib lo (jj + 1) inn rt ht rg zL zI zO (Own.upd (Own.cpy fT (st) gL ((jj * 64) + 3) (min 30 (n - st))) ((jj * 64) + 2) (Own.N (min 30 (n - st)))) fI gO1) (hO1 : ∀ i, i < k5 → gO1 i = Own.N (i / 30)) (h5 : st ≤ k5) (h5' : k5 ≤ st + (min 30 (n - st))) (hk : st + (min 30 (n - st)) - k5 < kk), Own.Ends p.tables e below (fun v h L' => v = none ∧ Fr n0 L' ∧ Keep h0 h [t, lb, ib, lo] ∧ ∃ gL gI gO, own_S Z h t lb ib lo L 1 0 1 1 zL zI zO gL gI gO ∧ own_T L n 30 0 1 1 zL zI (own_pb n) gL gI ∧ own_Lf L (own_pb n) (fun q => q) gL gO) (Own.FE s ({ frames := 1, cells := 0, slots := 0, locals := 18 } : Room).cells ({ frames := 1, cells := 0, slots := 0, locals := 18 } : Room).slots) (Tq.setTop (mkF m 69 #[.val (.ref t), .val (.ref it), .val (.int (Own.N (st))), .val (.int (Own.N (jj))), .val (.int (Own.N (min 30 (n - st)))), .val (.int (Own.N (k5))), .unset, .unset, .unset, .unset, .unset, .unset] [])) := by
          intro kk
          induction kk with
          | zero => intros; exfalso; omega
          | succ kk ihB =>
            intro k5 gO1 Tq Lq hq Xq eqq Nq Kq Sq hO1 h5 h5' hk
            have zlq := Nat.le_trans Z0 Kq.1
            have Gf_234 := Ci.keep Kq (ninS ne_it_t (ninS ne_it_lb (ninS ne_it_ib (ninS ne_it_lo nin0))))
            obtain ⟨E_235, Fleaks_235, Fleaes_235, Finnks_235, Finnrs_235, FleaOf_235, Frooot_235, Fheiht_235, Fregar_235, Clb_235, Cib_235, Clo_235⟩ := Sq
            refine Own.iload 71 Xq hx (hb hby d3_69) rfl rfl ?_
            refine Own.iloadN 72 Xq hx (hb hby d3_71) rfl rfl ?_
            refine Own.iload 74 Xq hx (hb hby d3_72) rfl rfl ?_
            refine Own.iadd 75 Xq hx (hb hby d3_74) rfl (Own.N_add _ _) ?_
            refine Own.nicmp_ge 94 78 Xq hx (hb hby d3_75) (by decide) rfl (by omega) (by omega) (fun tkB => ?_) (fun tkB => ?_)
            ·
              refine Own.iinc 97 (fun c_236 => #[.val (.ref t), .val (.ref it), .val (.int c_236), .val (.int (Own.N (jj))), .val (.int (Own.N (min 30 (n - st)))), .val (.int (Own.N (k5))), .unset, .unset, .unset, .unset, .unset, .unset]) Xq hx (Own.N 30) (hb hby d3_94) rfl rfl rfl (fun _ => rfl) fun c_236 hc_236 => ?_
              obtain rfl : c_236 = Own.N (st + 30) := hc_236.trans (Own.N_add _ _)
              refine Own.goto 7 Xq hx (hb hby d3_97) (by decide) ?_
              exact ihA (jj + 1) _ _ _ _ _ _ (Or.inr ⟨_, rfl⟩) (Or.inr ⟨_, rfl⟩) (Or.inr ⟨_, rfl⟩) _ _ _ Xq eqq Nq Kq ⟨E_235, Fleaks_235, Fleaes_235, Finnks_235, Finnrs_235, FleaOf_235, Frooot_235, Fheiht_235, Fregar_235, Clb_235, Cib_235, Clo_235⟩ (own_A_step IA (by omega) (by omega) (by omega) (by omega) (by omega) hF (fun i hi => hO1 i (by omega))) (by omega) (by omega) (by omega)
            ·
              refine Own.aloadN 79 Xq hx (hb hby d3_78) rfl rfl rfl ?_
              refine Own.getFld 82 Xq hx hZ hown (host := "") (Or.inl (w 16 rfl)) Via.refl eqq FleaOf_235 (hb hby d3_79) rfl ?_
              intro T237 X237 e237
              refine Own.aloadN 83 X237 hx (hb hby d3_82) rfl rfl rfl ?_
              refine Own.iload 85 X237 hx (hb hby d3_83) rfl rfl ?_
              refine Own.nLoad 86 (Own.N (k5)) X237 hx hZ e237 Gf_234 (by omega) (hF k5 (by omega)) (hb hby d3_85) rfl ?_
              refine Own.iloadN 87 X237 hx (hb hby d3_86) rfl rfl ?_
              refine Own.nStore 88 X237 hx hZ e237 Clo_235 (by omega) (hb hby d3_87) rfl ?_
              intro T238 h238 X238 e238 W238 C238
              have N238 := Fr.snoc X238 Nq g_lo
              have Ef_240 := E_235.wr W238
              have Ff_241 := Fleaks_235.other W238 (Or.inl ne_t_lo)
              have Ff_242 := Fleaes_235.other W238 (Or.inl ne_t_lo)
              have Ff_243 := Finnks_235.other W238 (Or.inl ne_t_lo)
              have Ff_244 := Finnrs_235.other W238 (Or.inl ne_t_lo)
              have Ff_245 := FleaOf_235.other W238 (Or.inl ne_t_lo)
              have Ff_246 := Frooot_235.other W238 (Or.inl ne_t_lo)
              have Ff_247 := Fheiht_235.other W238 (Or.inl ne_t_lo)
              have Ff_248 := Fregar_235.other W238 (Or.inl ne_t_lo)
              have Cf_249 := Gf_234.other W238 ne_it_lo
              have Cf_250 := Clb_235.other W238 ne_lb_lo
              have Cf_251 := Cib_235.other W238 ne_ib_lo
              have zl238 := Nat.le_trans zlq (Nat.le_of_eq W238.size.symm)
              have K238 := Kq.wr W238 (Or.inl (List.mem_of_getElem? (i := 3) rfl))
              refine Own.iinc 91 (fun c_253 => #[.val (.ref t), .val (.ref it), .val (.int (Own.N (st))), .val (.int (Own.N (jj))), .val (.int (Own.N (min 30 (n - st)))), .val (.int c_253), .unset, .unset, .unset, .unset, .unset, .unset]) X238 hx (Own.N 1) (hb hby d3_88) rfl rfl rfl (fun _ => rfl) fun c_253 hc_253 => ?_
              obtain rfl : c_253 = Own.N (k5 + 1) := hc_253.trans (Own.N_add _ _)
              refine Own.goto 69 X238 hx (hb hby d3_91) (by decide) ?_
              exact ihB (k5 + 1) _ _ _ _ X238 e238 N238 K238 ⟨Ef_240, Ff_241, Ff_242, Ff_243, Ff_244, Ff_245, Ff_246, Ff_247, Ff_248, Cf_250, Cf_251, C238⟩ (fun i hi => by
                  by_cases c9 : i = k5
                  · rw [Own.upd_hit c9]; congr 1; omega
                  · rw [Own.upd_miss c9]; exact hO1 i (by omega)) (by omega) (by omega) (by omega)
        exact JB ((min 30 (n - st)) + 1) st _ _ _ _ X219 e219 N219 K219 ⟨Ef_221, Ff_222, Ff_223, Ff_224, Ff_225, Ff_226, Ff_227, Ff_228, Ff_229, C219, Cf_231, Cf_232⟩ (fun i hi => IA.2 i (by omega) (by omega)) (by omega) (by omega) (by omega)
  refine Own.aloadN 1 X0 hx (hb hby d3_0) rfl rfl rfl ?_
  refine Own.iconst 2 X0 hx (Own.N 0) (hb hby d3_1) rfl rfl ?_
  refine Own.putFld 5 X0 hx hZ hown (host := "") (Or.inl (w 22 rfl)) Via.refl e0 Fleaes_0 E_0 (Or.inl (w 23 rfl)) (w 3 rfl) (ty := .int) (by decide) rfl rfl (hb hby d3_2) rfl ?_
  intro T254 h254 X254 e254 W254
  have N254 := Fr.snoc X254 N0 g_t
  have Ef_256 := E_0.wr W254
  have Ff_257 := Fleaks_0.other W254 (Or.inr (slot_ne (Or.inr (w 13 rfl)) (Or.inl (w 23 rfl)) (by decide) (t := (.array .int)) (t' := .int) (by decide) (by decide)))
  have Ff_258 := Fleaes_0.same W254
  have Ff_259 := Finnks_0.other W254 (Or.inr (slot_ne (Or.inl (w 15 rfl)) (Or.inl (w 23 rfl)) (by decide) (t := (.array .int)) (t' := .int) (by decide) (by decide)))
  have Ff_260 := Finnrs_0.other W254 (Or.inr (slot_ne (Or.inl (w 33 rfl)) (Or.inl (w 23 rfl)) (by decide) (t := .int) (t' := .int) (by decide) (by decide)))
  have Ff_261 := FleaOf_0.other W254 (Or.inr (slot_ne (Or.inr (w 17 rfl)) (Or.inl (w 23 rfl)) (by decide) (t := (.array .int)) (t' := .int) (by decide) (by decide)))
  have Ff_262 := Frooot_0.other W254 (Or.inr (slot_ne (Or.inl (w 45 rfl)) (Or.inl (w 23 rfl)) (by decide) (t := .int) (t' := .int) (by decide) (by decide)))
  have Ff_263 := Fheiht_0.other W254 (Or.inr (slot_ne (Or.inl (w 35 rfl)) (Or.inl (w 23 rfl)) (by decide) (t := .int) (t' := .int) (by decide) (by decide)))
  have Ff_264 := Fregar_0.other W254 (Or.inr (slot_ne (Or.inl (w 47 rfl)) (Or.inl (w 23 rfl)) (by decide) (t := .boolean) (t' := .int) (by decide) (by decide)))
  have Cf_265 := Clb_0.other W254 (Ne.symm ne_t_lb)
  have Cf_266 := Cib_0.other W254 (Ne.symm ne_t_ib)
  have Cf_267 := Clo_0.other W254 (Ne.symm ne_t_lo)
  have Cf_268 := Ci.other W254 ne_it_t
  have zl254 := Nat.le_trans Z0 (Nat.le_of_eq W254.size.symm)
  have K254 := (Keep.refl h0 [t, lb, ib, lo]).wr W254 (Or.inl (List.mem_of_getElem? (i := 0) rfl))
  refine Own.iconst 6 X254 hx (Own.N 0) (hb hby d3_5) rfl rfl ?_
  refine Own.istoreNV 7 #[.val (.ref t), .val (.ref it), .val (.int (Own.N (0))), .unset, .unset, .unset, .unset, .unset, .unset, .unset, .unset, .unset] X254 hx (hb hby d3_6) rfl rfl ?_
  exact JA (L + 1) 0 _ _ _ _ _ _ (Or.inl rfl) (Or.inl rfl) (Or.inl rfl) _ _ _ X254 e254 N254 K254 ⟨Ef_256, Ff_257, Ff_258, Ff_259, Ff_260, Ff_261, Ff_262, Ff_263, Ff_264, Cf_265, Cf_266, Cf_267⟩ ⟨fun i hi => absurd hi (by omega), fun i hi => absurd hi (by omega)⟩ (by omega) (by omega) (by omega)
theorem d3_143 : decode prog_32_method_15_code 143 = .ok (.bipush 31, 2) := by decide +kernel
theorem d3_234 : decode prog_32_method_15_code 234 = .ok (.aload_n 0, 1) := by decide +kernel
theorem d3_235 : decode prog_32_method_15_code 235 = .ok (.iload 11, 2) := by decide +kernel
theorem d3_237 : decode prog_32_method_15_code 237 = .ok (.invokevirtual 75, 3) := by decide +kernel
set_option maxRecDepth 65536 in
set_option maxHeartbeats 40000000 in
theorem m3_2 (l : Launch) (Z : State) (a0 : Array Value) (w : ∀ (i : Nat) {d : Jvm.Cond}, tables_1[i]? = some d → d.before a0 Z = true) (t : Addr) (it : Addr) (lb ib lo : Addr) (lv inn rt ht rg zL zI zO n0 : Nat) (fL fI fO : Nat → Int32)(n L : Nat) (fT : Nat → Int32) (h0 : Heap) (Z0 : n0 ≤ h0.size) (D0 : own_D n0 t lb ib lo) (S0 : own_S Z h0 t lb ib lo lv inn rt ht rg zL zI zO fL fI fO)(hLn : L = (n - 1) / 30 + 1) (hn : 1 ≤ n ∧ n ≤ 4096) (hzO : zO = n) (hzL : zL = 128 * L) (hzI : 1024 ≤ zI ∧ zI < 1000000)(Ci : Own.Arf Z h0 it n fT) (hF : ∀ i, i < n → fT i = Own.N i) (nei : it ≠ t ∧ it ≠ lb ∧ it ≠ ib ∧ it ≠ lo) (hk62 : 62 < L) :
    Own.Met l Z (⟨"com/example/frontrank/frontrank/OrderTree", "build", "([I)V"⟩ : MethodName) prog_32_method_15_code 12 none [] ({ frames := 1, cells := 0, slots := 0, locals := 18 } : Room) #[(.ref t), (.ref it)] h0 (fun v h L' => v = none ∧ Fr n0 L' ∧ Keep h0 h [t, lb, ib, lo] ∧ ∃ gL gI gO, own_S Z h t lb ib lo L ((L + 30) / 31 + 1) ((L + 30) / 31) 2 1 zL zI zO gL gI gO ∧ own_T L n 30 ((L + 30) / 31) 2 1 zL zI (own_pb n) gL gI ∧ own_Lf L (own_pb n) (fun q => q) gL gO) := by
  refine Own.Met.of (plainFor_of_name (by first | (simp [plainName, overriddenIn]; done) | decide +kernel)) ?_
  intro p e s m below meth c T0 hx hby hml hown hnm hret hlk hZ X0 e0
  have hown : s.vm.findClass "com/example/frontrank/frontrank/OrderTree" = some m.cls := hown
  have hml : c.maxLocals = 12 := hml
  have hnm : meth.name = "build" := hnm
  have ef : entryFrame m #[(.ref t), (.ref it)] 12 = mkF m 0 #[.val (.ref t), .val (.ref it), .unset, .unset, .unset, .unset, .unset, .unset, .unset, .unset, .unset, .unset] [] := by first | (simp [entryFrame, mkF, argsToLocals, Value.category]; done) | rfl
  rw [ef]
  have N0 := Fr.nil n0
  have D00 := D0
  obtain ⟨ne_t_lb, ne_t_ib, ne_t_lo, ne_lb_ib, ne_lb_lo, ne_ib_lo, g_t, g_lb, g_ib, g_lo⟩ := D0
  obtain ⟨E_0, Fleaks_0, Fleaes_0, Finnks_0, Finnrs_0, FleaOf_0, Frooot_0, Fheiht_0, Fregar_0, Clb_0, Cib_0, Clo_0⟩ := S0
  obtain ⟨ne_it_t, ne_it_lb, ne_it_ib, ne_it_lo⟩ := nei
  have K100 : ∀ (st : Nat) (gL gO : Nat → Int32) (s3 : Slot) (s4 : Slot) (s5 : Slot) (o_s3 : s3 = .unset ∨ ∃ x : Int32, s3 = .val (.int x)) (o_s4 : s4 = .unset ∨ ∃ x : Int32, s4 = .val (.int x)) (o_s5 : s5 = .unset ∨ ∃ x : Int32, s5 = .val (.int x)) (Tq : State) (Lq : List Loc) (hq : Heap) (Xq : Stand p l e ({ frames := 1, cells := 0, slots := 0, locals := 18 } : Room) s m #[(.ref t), (.ref it)] below meth c Tq Lq 0 0) (eqq : Tq.heap = hq) (Nq : Fr n0 Lq) (Kq : Keep h0 hq [t, lb, ib, lo]) (Sq : own_S Z hq t lb ib lo L inn rt ht rg zL zI zO gL fI gO) (IA : own_A n L gL gO), Own.Ends p.tables e below (fun v h L' => v = none ∧ Fr n0 L' ∧ Keep h0 h [t, lb, ib, lo] ∧ ∃ gL gI gO, own_S Z h t lb ib lo L ((L + 30) / 31 + 1) ((L + 30) / 31) 2 1 zL zI zO gL gI gO ∧ own_T L n 30 ((L + 30) / 31) 2 1 zL zI (own_pb n) gL gI ∧ own_Lf L (own_pb n) (fun q => q) gL gO) (Own.FE s ({ frames := 1, cells := 0, slots := 0, locals := 18 } : Room).cells ({ frames := 1, cells := 0, slots := 0, locals := 18 } : Room).slots) (Tq.setTop (mkF m 100 #[.val (.ref t), .val (.ref it), .val (.int (Own.N (st))), s3, s4, s5, .unset, .unset, .unset, .unset, .unset, .unset] [])) := by
    intro st gL gO s3 s4 s5 o_s3 o_s4 o_s5 Tq Lq hq Xq eqq Nq Kq Sq IA
    have zlq := Nat.le_trans Z0 Kq.1
    have Gf_1 := Ci.keep Kq (ninS ne_it_t (ninS ne_it_lb (ninS ne_it_ib (ninS ne_it_lo nin0))))
    obtain ⟨E_2, Fleaks_2, Fleaes_2, Finnks_2, Finnrs_2, FleaOf_2, Frooot_2, Fheiht_2, Fregar_2, Clb_2, Cib_2, Clo_2⟩ := Sq
    refine Own.aloadN 101 Xq hx (hb hby d3_100) rfl rfl rfl ?_
    refine Own.iconst 102 Xq hx (Own.N 0) (hb hby d3_101) rfl rfl ?_
    refine Own.putFld 105 Xq hx hZ hown (host := "") (Or.inl (w 32 rfl)) Via.refl eqq Finnrs_2 E_2 (Or.inl (w 33 rfl)) (w 3 rfl) (ty := .int) (by decide) rfl rfl (hb hby d3_102) rfl ?_
    intro T3 h3 X3 e3 W3
    have N3 := Fr.snoc X3 Nq g_t
    have Ef_5 := E_2.wr W3
    have Ff_6 := Fleaks_2.other W3 (Or.inr (slot_ne (Or.inr (w 13 rfl)) (Or.inl (w 33 rfl)) (by decide) (t := (.array .int)) (t' := .int) (by decide) (by decide)))
    have Ff_7 := Fleaes_2.other W3 (Or.inr (slot_ne (Or.inl (w 23 rfl)) (Or.inl (w 33 rfl)) (by decide) (t := .int) (t' := .int) (by decide) (by decide)))
    have Ff_8 := Finnks_2.other W3 (Or.inr (slot_ne (Or.inl (w 15 rfl)) (Or.inl (w 33 rfl)) (by decide) (t := (.array .int)) (t' := .int) (by decide) (by decide)))
    have Ff_9 := Finnrs_2.same W3
    have Ff_10 := FleaOf_2.other W3 (Or.inr (slot_ne (Or.inr (w 17 rfl)) (Or.inl (w 33 rfl)) (by decide) (t := (.array .int)) (t' := .int) (by decide) (by decide)))
    have Ff_11 := Frooot_2.other W3 (Or.inr (slot_ne (Or.inl (w 45 rfl)) (Or.inl (w 33 rfl)) (by decide) (t := .int) (t' := .int) (by decide) (by decide)))
    have Ff_12 := Fheiht_2.other W3 (Or.inr (slot_ne (Or.inl (w 35 rfl)) (Or.inl (w 33 rfl)) (by decide) (t := .int) (t' := .int) (by decide) (by decide)))
    have Ff_13 := Fregar_2.other W3 (Or.inr (slot_ne (Or.inl (w 47 rfl)) (Or.inl (w 33 rfl)) (by decide) (t := .boolean) (t' := .int) (by decide) (by decide)))
    have Cf_14 := Gf_1.other W3 ne_it_t
    have Cf_15 := Clb_2.other W3 (Ne.symm ne_t_lb)
    have Cf_16 := Cib_2.other W3 (Ne.symm ne_t_ib)
    have Cf_17 := Clo_2.other W3 (Ne.symm ne_t_lo)
    have zl3 := Nat.le_trans zlq (Nat.le_of_eq W3.size.symm)
    have K3 := Kq.wr W3 (Or.inl (List.mem_of_getElem? (i := 0) rfl))
    refine Own.aloadN 106 X3 hx (hb hby d3_105) rfl rfl rfl ?_
    refine Own.iconst 107 X3 hx (Own.N 0) (hb hby d3_106) rfl rfl ?_
    refine Own.putFld 110 X3 hx hZ hown (host := "") (Or.inl (w 34 rfl)) Via.refl e3 Ff_12 Ef_5 (Or.inl (w 35 rfl)) (w 3 rfl) (ty := .int) (by decide) rfl rfl (hb hby d3_107) rfl ?_
    intro T18 h18 X18 e18 W18
    have N18 := Fr.snoc X18 N3 g_t
    have Ef_20 := Ef_5.wr W18
    have Ff_21 := Ff_6.other W18 (Or.inr (slot_ne (Or.inr (w 13 rfl)) (Or.inl (w 35 rfl)) (by decide) (t := (.array .int)) (t' := .int) (by decide) (by decide)))
    have Ff_22 := Ff_7.other W18 (Or.inr (slot_ne (Or.inl (w 23 rfl)) (Or.inl (w 35 rfl)) (by decide) (t := .int) (t' := .int) (by decide) (by decide)))
    have Ff_23 := Ff_8.other W18 (Or.inr (slot_ne (Or.inl (w 15 rfl)) (Or.inl (w 35 rfl)) (by decide) (t := (.array .int)) (t' := .int) (by decide) (by decide)))
    have Ff_24 := Ff_9.other W18 (Or.inr (slot_ne (Or.inl (w 33 rfl)) (Or.inl (w 35 rfl)) (by decide) (t := .int) (t' := .int) (by decide) (by decide)))
    have Ff_25 := Ff_10.other W18 (Or.inr (slot_ne (Or.inr (w 17 rfl)) (Or.inl (w 35 rfl)) (by decide) (t := (.array .int)) (t' := .int) (by decide) (by decide)))
    have Ff_26 := Ff_11.other W18 (Or.inr (slot_ne (Or.inl (w 45 rfl)) (Or.inl (w 35 rfl)) (by decide) (t := .int) (t' := .int) (by decide) (by decide)))
    have Ff_27 := Ff_12.same W18
    have Ff_28 := Ff_13.other W18 (Or.inr (slot_ne (Or.inl (w 47 rfl)) (Or.inl (w 35 rfl)) (by decide) (t := .boolean) (t' := .int) (by decide) (by decide)))
    have Cf_29 := Cf_14.other W18 ne_it_t
    have Cf_30 := Cf_15.other W18 (Ne.symm ne_t_lb)
    have Cf_31 := Cf_16.other W18 (Ne.symm ne_t_ib)
    have Cf_32 := Cf_17.other W18 (Ne.symm ne_t_lo)
    have zl18 := Nat.le_trans zl3 (Nat.le_of_eq W18.size.symm)
    have K18 := K3.wr W18 (Or.inl (List.mem_of_getElem? (i := 0) rfl))
    refine Own.iconst 111 X18 hx (Own.N 0) (hb hby d3_110) rfl rfl ?_
    refine Own.istoreNV 112 #[.val (.ref t), .val (.ref it), .val (.int (Own.N (0))), s3, s4, s5, .unset, .unset, .unset, .unset, .unset, .unset] X18 hx (hb hby d3_111) rfl rfl ?_
    refine Own.aloadN 113 X18 hx (hb hby d3_112) rfl rfl rfl ?_
    refine Own.getFld 116 X18 hx hZ hown (host := "") (Or.inl (w 22 rfl)) Via.refl e18 Ff_22 (hb hby d3_113) rfl ?_
    intro T33 X33 e33
    refine Own.istoreNV 117 #[.val (.ref t), .val (.ref it), .val (.int (Own.N (0))), .val (.int (Own.N (L))), s4, s5, .unset, .unset, .unset, .unset, .unset, .unset] X33 hx (hb hby d3_116) rfl (by rcases o_s3 with q9 | ⟨x9, q9⟩ <;> (subst q9; rfl)) ?_
    refine Own.aloadN 118 X33 hx (hb hby d3_117) rfl rfl rfl ?_
    refine Own.dup 119 X33 hx (hb hby d3_118) rfl rfl ?_
    refine Own.getFld 122 X33 hx hZ hown (host := "") (Or.inl (w 34 rfl)) Via.refl e33 Ff_27 (hb hby d3_119) rfl ?_
    intro T34 X34 e34
    refine Own.iconst 123 X34 hx (Own.N 1) (hb hby d3_122) rfl rfl ?_
    refine Own.iadd 124 X34 hx (hb hby d3_123) rfl (Own.N_add _ _) ?_
    refine Own.putFld 127 X34 hx hZ hown (host := "") (Or.inl (w 34 rfl)) Via.refl e34 Ff_27 Ef_20 (Or.inl (w 35 rfl)) (w 3 rfl) (ty := .int) (by decide) rfl rfl (hb hby d3_124) rfl ?_
    intro T35 h35 X35 e35 W35
    have N35 := Fr.snoc X35 N18 g_t
    have Ef_37 := Ef_20.wr W35
    have Ff_38 := Ff_21.other W35 (Or.inr (slot_ne (Or.inr (w 13 rfl)) (Or.inl (w 35 rfl)) (by decide) (t := (.array .int)) (t' := .int) (by decide) (by decide)))
    have Ff_39 := Ff_22.other W35 (Or.inr (slot_ne (Or.inl (w 23 rfl)) (Or.inl (w 35 rfl)) (by decide) (t := .int) (t' := .int) (by decide) (by decide)))
    have Ff_40 := Ff_23.other W35 (Or.inr (slot_ne (Or.inl (w 15 rfl)) (Or.inl (w 35 rfl)) (by decide) (t := (.array .int)) (t' := .int) (by decide) (by decide)))
    have Ff_41 := Ff_24.other W35 (Or.inr (slot_ne (Or.inl (w 33 rfl)) (Or.inl (w 35 rfl)) (by decide) (t := .int) (t' := .int) (by decide) (by decide)))
    have Ff_42 := Ff_25.other W35 (Or.inr (slot_ne (Or.inr (w 17 rfl)) (Or.inl (w 35 rfl)) (by decide) (t := (.array .int)) (t' := .int) (by decide) (by decide)))
    have Ff_43 := Ff_26.other W35 (Or.inr (slot_ne (Or.inl (w 45 rfl)) (Or.inl (w 35 rfl)) (by decide) (t := .int) (t' := .int) (by decide) (by decide)))
    have Ff_44 := Ff_27.same W35
    have Ff_45 := Ff_28.other W35 (Or.inr (slot_ne (Or.inl (w 47 rfl)) (Or.inl (w 35 rfl)) (by decide) (t := .boolean) (t' := .int) (by decide) (by decide)))
    have Cf_46 := Cf_29.other W35 ne_it_t
    have Cf_47 := Cf_30.other W35 (Ne.symm ne_t_lb)
    have Cf_48 := Cf_31.other W35 (Ne.symm ne_t_ib)
    have Cf_49 := Cf_32.other W35 (Ne.symm ne_t_lo)
    have zl35 := Nat.le_trans zl18 (Nat.le_of_eq W35.size.symm)
    have K35 := K18.wr W35 (Or.inl (List.mem_of_getElem? (i := 0) rfl))
    refine Own.aloadN 128 X35 hx (hb hby d3_127) rfl rfl rfl ?_
    refine Own.getFld 131 X35 hx hZ hown (host := "") (Or.inl (w 32 rfl)) Via.refl e35 Ff_41 (hb hby d3_128) rfl ?_
    intro T50 X50 e50
    refine Own.istoreV 133 #[.val (.ref t), .val (.ref it), .val (.int (Own.N (0))), .val (.int (Own.N (L))), .val (.int (Own.N (0))), s5, .unset, .unset, .unset, .unset, .unset, .unset] X50 hx (hb hby d3_131) rfl (by rcases o_s4 with q9 | ⟨x9, q9⟩ <;> (subst q9; rfl)) ?_
    refine Own.iloadN 134 X50 hx (hb hby d3_133) rfl rfl ?_
    refine Own.bipush 136 X50 hx (Own.N 62) (hb hby d3_134) rfl rfl ?_
    refine Own.nicmp_gt 143 139 X50 hx (hb hby d3_136) (by decide) rfl (by omega) (by omega) (fun tk => ?_) (fun tk => False.elim (by omega))
    refine Own.bipush 145 X50 hx (Own.N 31) (hb hby d3_143) rfl rfl ?_
    refine Own.istoreV 147 #[.val (.ref t), .val (.ref it), .val (.int (Own.N (0))), .val (.int (Own.N (L))), .val (.int (Own.N (0))), .val (.int (Own.N (31))), .unset, .unset, .unset, .unset, .unset, .unset] X50 hx (hb hby d3_145) rfl (by rcases o_s5 with q9 | ⟨x9, q9⟩ <;> (subst q9; rfl)) ?_
    refine Own.iconst 148 X50 hx (Own.N 0) (hb hby d3_147) rfl rfl ?_
    refine Own.istoreV 150 #[.val (.ref t), .val (.ref it), .val (.int (Own.N (0))), .val (.int (Own.N (L))), .val (.int (Own.N (0))), .val (.int (Own.N (31))), .val (.int (Own.N (0))), .unset, .unset, .unset, .unset, .unset] X50 hx (hb hby d3_148) rfl rfl ?_
    have JD : ∀ (kk vv s6 : Nat) (gL1 gI1 : Nat → Int32) (s7 : Slot) (s8 : Slot) (s9 : Slot) (s10 : Slot) (s11 : Slot) (o_s7 : s7 = .unset ∨ ∃ x : Int32, s7 = .val (.int x)) (o_s8 : s8 = .unset ∨ ∃ x : Int32, s8 = .val (.int x)) (o_s9 : s9 = .unset ∨ ∃ x : Int32, s9 = .val (.int x)) (o_s10 : s10 = .unset ∨ ∃ x : Int32, s10 = .val (.int x)) (o_s11 : s11 = .unset ∨ ∃ x : Int32, s11 = .val (.int x)) (Tq : State) (Lq : List Loc) (hq : Heap) (Xq : Stand p l e ({ frames := 1, cells := 0, slots := 0, locals := 18 } : Room) s m #[(.ref t), (.ref it)] below meth c Tq Lq 0 0) (eqq : Tq.heap = hq) (Nq : Fr n0 Lq) (Kq : Keep h0 hq [t, lb, ib, lo]) (Sq : own_S Z hq t lb ib lo L vv rt (0 + 1) rg zL zI zO gL1 gI1 gO) (IA : own_A n L gL1 gO) (IB : own_B 31 n (min (31 * vv) L) gL1 gI1) (IS : own_Sz L vv gI1) (h6 : s6 = 31 * vv) (hv : vv ≤ (L + 30) / 31) (hk : (L + 30) / 31 - vv < kk), Own.Ends p.tables e below (fun v h L' => v = none ∧ Fr n0 L' ∧ Keep h0 h [t, lb, ib, lo] ∧ ∃ gL gI gO, own_S Z h t lb ib lo L ((L + 30) / 31 + 1) ((L + 30) / 31) 2 1 zL zI zO gL gI gO ∧ own_T L n 30 ((L + 30) / 31) 2 1 zL zI (own_pb n) gL gI ∧ own_Lf L (own_pb n) (fun q => q) gL gO) (Own.FE s ({ frames := 1, cells := 0, slots := 0, locals := 18 } : Room).cells ({ frames := 1, cells := 0, slots := 0, locals := 18 } : Room).slots) (Tq.setTop (mkF m 150 #[.val (.ref t), .val (.ref it), .val (.int (Own.N (0))), .val (.int (Own.N (L))), .val (.int (Own.N (0))), .val (.int (Own.N (31))), .val (.int (Own.N (s6))), s7, s8, s9, s10, s11] [])) := by
      intro kk
      induction kk with
      | zero => intros; exfalso; omega
      | succ kk ihD =>
        intro vv s6 gL1 gI1 s7 s8 s9 s10 s11 o_s7 o_s8 o_s9 o_s10 o_s11 Tq Lq hq Xq eqq Nq Kq Sq IA IB IS h6 hv hk
        have zlq := Nat.le_trans Z0 Kq.1
        have Gf_51 := Ci.keep Kq (ninS ne_it_t (ninS ne_it_lb (ninS ne_it_ib (ninS ne_it_lo nin0))))
        obtain ⟨E_52, Fleaks_52, Fleaes_52, Finnks_52, Finnrs_52, FleaOf_52, Frooot_52, Fheiht_52, Fregar_52, Clb_52, Cib_52, Clo_52⟩ := Sq
        refine Own.iload 152 Xq hx (hb hby d3_150) rfl rfl ?_
        refine Own.iloadN 153 Xq hx (hb hby d3_152) rfl rfl ?_
        refine Own.nicmp_ge 299 156 Xq hx (hb hby d3_153) (by decide) rfl (by omega) (by omega) (fun tkD => ?_) (fun tkD => ?_)
        ·
          have ev : vv = (L + 30) / 31 := by omega
          have IB1 : own_B 31 n L gL1 gI1 := by rw [show L = min (31 * vv) L from by omega]; exact IB
          refine Own.iload 301 Xq hx (hb hby d3_299) rfl rfl ?_
          refine Own.istoreNV 302 #[.val (.ref t), .val (.ref it), .val (.int (Own.N (0))), .val (.int (Own.N (L))), .val (.int (Own.N (0))), .val (.int (Own.N (31))), .val (.int (Own.N (s6))), s7, s8, s9, s10, s11] Xq hx (hb hby d3_301) rfl rfl ?_
          refine Own.aloadN 303 Xq hx (hb hby d3_302) rfl rfl rfl ?_
          refine Own.getFld 306 Xq hx hZ hown (host := "") (Or.inl (w 32 rfl)) Via.refl eqq Finnrs_52 (hb hby d3_303) rfl ?_
          intro T53 X53 e53
          refine Own.iload 308 X53 hx (hb hby d3_306) rfl rfl ?_
          refine Own.isub 309 X53 hx (hb hby d3_308) rfl (Own.N_sub (by omega)) ?_
          refine Own.istoreNV 310 #[.val (.ref t), .val (.ref it), .val (.int (Own.N (0))), .val (.int (Own.N (vv - 0))), .val (.int (Own.N (0))), .val (.int (Own.N (31))), .val (.int (Own.N (s6))), s7, s8, s9, s10, s11] X53 hx (hb hby d3_309) rfl rfl ?_
          refine Own.iloadN 311 X53 hx (hb hby d3_310) rfl rfl ?_
          refine Own.iconst 312 X53 hx (Own.N 1) (hb hby d3_311) rfl rfl ?_
          refine Own.nicmp_gt 117 315 X53 hx (hb hby d3_312) (by decide) rfl (by omega) (by omega) (fun tk => ?_) (fun tk => False.elim (by omega))
          refine Own.aloadN 118 X53 hx (hb hby d3_117) rfl rfl rfl ?_
          refine Own.dup 119 X53 hx (hb hby d3_118) rfl rfl ?_
          refine Own.getFld 122 X53 hx hZ hown (host := "") (Or.inl (w 34 rfl)) Via.refl e53 Fheiht_52 (hb hby d3_119) rfl ?_
          intro T54 X54 e54
          refine Own.iconst 123 X54 hx (Own.N 1) (hb hby d3_122) rfl rfl ?_
          refine Own.iadd 124 X54 hx (hb hby d3_123) rfl (Own.N_add _ _) ?_
          refine Own.putFld 127 X54 hx hZ hown (host := "") (Or.inl (w 34 rfl)) Via.refl e54 Fheiht_52 E_52 (Or.inl (w 35 rfl)) (w 3 rfl) (ty := .int) (by decide) rfl rfl (hb hby d3_124) rfl ?_
          intro T55 h55 X55 e55 W55
          have N55 := Fr.snoc X55 Nq g_t
          have Ef_57 := E_52.wr W55
          have Ff_58 := Fleaks_52.other W55 (Or.inr (slot_ne (Or.inr (w 13 rfl)) (Or.inl (w 35 rfl)) (by decide) (t := (.array .int)) (t' := .int) (by decide) (by decide)))
          have Ff_59 := Fleaes_52.other W55 (Or.inr (slot_ne (Or.inl (w 23 rfl)) (Or.inl (w 35 rfl)) (by decide) (t := .int) (t' := .int) (by decide) (by decide)))
          have Ff_60 := Finnks_52.other W55 (Or.inr (slot_ne (Or.inl (w 15 rfl)) (Or.inl (w 35 rfl)) (by decide) (t := (.array .int)) (t' := .int) (by decide) (by decide)))
          have Ff_61 := Finnrs_52.other W55 (Or.inr (slot_ne (Or.inl (w 33 rfl)) (Or.inl (w 35 rfl)) (by decide) (t := .int) (t' := .int) (by decide) (by decide)))
          have Ff_62 := FleaOf_52.other W55 (Or.inr (slot_ne (Or.inr (w 17 rfl)) (Or.inl (w 35 rfl)) (by decide) (t := (.array .int)) (t' := .int) (by decide) (by decide)))
          have Ff_63 := Frooot_52.other W55 (Or.inr (slot_ne (Or.inl (w 45 rfl)) (Or.inl (w 35 rfl)) (by decide) (t := .int) (t' := .int) (by decide) (by decide)))
          have Ff_64 := Fheiht_52.same W55
          have Ff_65 := Fregar_52.other W55 (Or.inr (slot_ne (Or.inl (w 47 rfl)) (Or.inl (w 35 rfl)) (by decide) (t := .boolean) (t' := .int) (by decide) (by decide)))
          have Cf_66 := Gf_51.other W55 ne_it_t
          have Cf_67 := Clb_52.other W55 (Ne.symm ne_t_lb)
          have Cf_68 := Cib_52.other W55 (Ne.symm ne_t_ib)
          have Cf_69 := Clo_52.other W55 (Ne.symm ne_t_lo)
          have zl55 := Nat.le_trans zlq (Nat.le_of_eq W55.size.symm)
          have K55 := Kq.wr W55 (Or.inl (List.mem_of_getElem? (i := 0) rfl))
          refine Own.aloadN 128 X55 hx (hb hby d3_127) rfl rfl rfl ?_
          refine Own.getFld 131 X55 hx hZ hown (host := "") (Or.inl (w 32 rfl)) Via.refl e55 Ff_61 (hb hby d3_128) rfl ?_
          intro T70 X70 e70
          refine Own.istoreV 133 #[.val (.ref t), .val (.ref it), .val (.int (Own.N (0))), .val (.int (Own.N (vv - 0))), .val (.int (Own.N (vv))), .val (.int (Own.N (31))), .val (.int (Own.N (s6))), s7, s8, s9, s10, s11] X70 hx (hb hby d3_131) rfl rfl ?_
          refine Own.iloadN 134 X70 hx (hb hby d3_133) rfl rfl ?_
          refine Own.bipush 136 X70 hx (Own.N 62) (hb hby d3_134) rfl rfl ?_
          refine Own.nicmp_gt 143 139 X70 hx (hb hby d3_136) (by decide) rfl (by omega) (by omega) (fun tk => False.elim (by omega)) (fun tk => ?_)
          refine Own.iloadN 140 X70 hx (hb hby d3_139) rfl rfl ?_
          refine Own.goto 145 X70 hx (hb hby d3_140) (by decide) ?_
          refine Own.istoreV 147 #[.val (.ref t), .val (.ref it), .val (.int (Own.N (0))), .val (.int (Own.N (vv - 0))), .val (.int (Own.N (vv))), .val (.int (Own.N (vv - 0))), .val (.int (Own.N (s6))), s7, s8, s9, s10, s11] X70 hx (hb hby d3_145) rfl rfl ?_
          refine Own.iconst 148 X70 hx (Own.N 0) (hb hby d3_147) rfl rfl ?_
          refine Own.istoreV 150 #[.val (.ref t), .val (.ref it), .val (.int (Own.N (0))), .val (.int (Own.N (vv - 0))), .val (.int (Own.N (vv))), .val (.int (Own.N (vv - 0))), .val (.int (Own.N (0))), s7, s8, s9, s10, s11] X70 hx (hb hby d3_148) rfl rfl ?_
          refine Own.iload 152 X70 hx (hb hby d3_150) rfl rfl ?_
          refine Own.iloadN 153 X70 hx (hb hby d3_152) rfl rfl ?_
          refine Own.nicmp_ge 299 156 X70 hx (hb hby d3_153) (by decide) rfl (by omega) (by omega) (fun tk => False.elim (by omega)) (fun tk => ?_)
          refine Own.aloadN 157 X70 hx (hb hby d3_156) rfl rfl rfl ?_
          refine Own.callPr 160 0 t [] [] X70 hx hZ hown (m5 l Z a0 w t lb ib lo _ _ _ _ _ _ _ _ n0 _ _ _ _ zl55 D00 ⟨Ef_57, Ff_58, Ff_59, Ff_60, Ff_61, Ff_62, Ff_63, Ff_64, Ff_65, Cf_67, Cf_68, Cf_69⟩ (by omega) (by omega)) Ef_57 (w 36 rfl) (w 38 rfl) (w 3 rfl) (w 37 rfl) (w 4 rfl) (w 39 rfl) (by decide) e70 (by decide) (by decide) (by decide) (by decide) (by rw [hml]; rfl) (lenOf pd_2 rfl) rfl (Nat.le_of_eq rfl) (hb hby d3_157) rfl ?_
          rintro vv T71 L71 X71 ⟨rfl, N71q, K71, S71⟩
          have N71 := Fr.app N55 N71q
          have Ef_73 := Ef_57.keep K71
          have Cf_82 := Cf_66.keep K71 (ninS ne_it_t (ninS ne_it_lb (ninS ne_it_ib (ninS ne_it_lo nin0))))
          have zl71 := Nat.le_trans zl55 K71.1
          have KK71 := K55.trans K71 (allS (Or.inl (List.mem_of_getElem? (i := 0) rfl)) (allS (Or.inl (List.mem_of_getElem? (i := 1) rfl)) (allS (Or.inl (List.mem_of_getElem? (i := 2) rfl)) (allS (Or.inl (List.mem_of_getElem? (i := 3) rfl)) all0))))
          obtain ⟨E_71, Fleaks_71, Fleaes_71, Finnks_71, Finnrs_71, FleaOf_71, Frooot_71, Fheiht_71, Fregar_71, Clb_71, Cib_71, Clo_71⟩ := S71
          refine Own.istoreV 162 #[.val (.ref t), .val (.ref it), .val (.int (Own.N (0))), .val (.int (Own.N (vv - 0))), .val (.int (Own.N (vv))), .val (.int (Own.N (vv - 0))), .val (.int (Own.N (0))), .val (.int (Own.N (vv))), s8, s9, s10, s11] X71 hx (hb hby d3_160) rfl (by rcases o_s7 with q9 | ⟨x9, q9⟩ <;> (subst q9; rfl)) ?_
          refine Own.iload 164 X71 hx (hb hby d3_162) rfl rfl ?_
          refine Own.sipush 167 X71 hx (Own.N 128) (hb hby d3_164) rfl rfl ?_
          refine Own.imul 168 X71 hx (hb hby d3_167) rfl (Own.N_mul _ _) ?_
          refine Own.istoreV 170 #[.val (.ref t), .val (.ref it), .val (.int (Own.N (0))), .val (.int (Own.N (vv - 0))), .val (.int (Own.N (vv))), .val (.int (Own.N (vv - 0))), .val (.int (Own.N (0))), .val (.int (Own.N (vv))), .val (.int (Own.N (vv * 128))), s9, s10, s11] X71 hx (hb hby d3_168) rfl (by rcases o_s8 with q9 | ⟨x9, q9⟩ <;> (subst q9; rfl)) ?_
          refine Own.iload 172 X71 hx (hb hby d3_170) rfl rfl ?_
          refine Own.iloadN 173 X71 hx (hb hby d3_172) rfl rfl ?_
          refine Own.iload 175 X71 hx (hb hby d3_173) rfl rfl ?_
          refine Own.isub 176 X71 hx (hb hby d3_175) rfl (Own.N_sub (by omega)) ?_
          refine Own.callSt 179 0 [(.int (Own.N (vv - 0))), (.int (Own.N ((vv - 0) - 0)))] [] X71 hx hZ hown (m4 l Z a0 w (vv - 0) ((vv - 0) - 0) _ (by omega) (by omega)) (w 24 rfl) (w 25 rfl) (w 26 rfl) (w 27 rfl) (by decide) rfl (by decide) (by decide) (by decide) (by decide) (by rw [hml]; rfl) (lenOf pd_3 rfl) rfl (Nat.le_of_eq rfl) (hb hby d3_176) rfl ?_
          rintro vv T86 L86 X86 ⟨rfl, hh86, rfl⟩
          have N86 := Fr.app N71 (Fr.nil _)
          refine Own.istoreV 181 #[.val (.ref t), .val (.ref it), .val (.int (Own.N (0))), .val (.int (Own.N (vv - 0))), .val (.int (Own.N (vv))), .val (.int (Own.N (vv - 0))), .val (.int (Own.N (0))), .val (.int (Own.N (vv))), .val (.int (Own.N (vv * 128))), .val (.int (Own.N (min (vv - 0) ((vv - 0) - 0)))), s10, s11] X86 hx (hb hby d3_179) rfl (by rcases o_s9 with q9 | ⟨x9, q9⟩ <;> (subst q9; rfl)) ?_
          refine Own.iconst 182 X86 hx (Own.N 0) (hb hby d3_181) rfl rfl ?_
          refine Own.istoreV 184 #[.val (.ref t), .val (.ref it), .val (.int (Own.N (0))), .val (.int (Own.N (vv - 0))), .val (.int (Own.N (vv))), .val (.int (Own.N (vv - 0))), .val (.int (Own.N (0))), .val (.int (Own.N (vv))), .val (.int (Own.N (vv * 128))), .val (.int (Own.N (min (vv - 0) ((vv - 0) - 0)))), .val (.int (Own.N (0))), s11] X86 hx (hb hby d3_182) rfl (by rcases o_s10 with q9 | ⟨x9, q9⟩ <;> (subst q9; rfl)) ?_
          have JE2 : ∀ (kk cc : Nat) (gI2 : Nat → Int32) (s12 : Slot) (o_s12 : s12 = .unset ∨ ∃ x : Int32, s12 = .val (.int x)) (Tq : State) (Lq : List Loc) (hq : Heap) (Xq : Stand p l e ({ frames := 1, cells := 0, slots := 0, locals := 18 } : Room) s m #[(.ref t), (.ref it)] below meth c Tq Lq 0 0) (eqq : Tq.heap = hq) (Nq : Fr n0 Lq) (Kq : Keep h0 hq [t, lb, ib, lo]) (Sq : own_S Z hq t lb ib lo L (vv + 1) rt ((0 + 1) + 1) rg zL zI zO gL1 gI2 gO) (IB2 : own_B 31 n L gL1 gI2) (IS2 : own_Sz L vv gI2) (IR : own_R n L vv cc gI2) (hc : cc ≤ vv) (hk : vv - cc < kk), Own.Ends p.tables e below (fun v h L' => v = none ∧ Fr n0 L' ∧ Keep h0 h [t, lb, ib, lo] ∧ ∃ gL gI gO, own_S Z h t lb ib lo L ((L + 30) / 31 + 1) ((L + 30) / 31) 2 1 zL zI zO gL gI gO ∧ own_T L n 30 ((L + 30) / 31) 2 1 zL zI (own_pb n) gL gI ∧ own_Lf L (own_pb n) (fun q => q) gL gO) (Own.FE s ({ frames := 1, cells := 0, slots := 0, locals := 18 } : Room).cells ({ frames := 1, cells := 0, slots := 0, locals := 18 } : Room).slots) (Tq.setTop (mkF m 184 #[.val (.ref t), .val (.ref it), .val (.int (Own.N (0))), .val (.int (Own.N (vv - 0))), .val (.int (Own.N (vv))), .val (.int (Own.N (vv - 0))), .val (.int (Own.N (0))), .val (.int (Own.N (vv))), .val (.int (Own.N (vv * 128))), .val (.int (Own.N (min (vv - 0) ((vv - 0) - 0)))), .val (.int (Own.N (cc))), s12] [])) := by
            intro kk
            induction kk with
            | zero => intros; exfalso; omega
            | succ kk ihF =>
              intro cc gI2 s12 o_s12 Tq Lq hq Xq eqq Nq Kq Sq IB2 IS2 IR hc hk
              have zlq := Nat.le_trans Z0 Kq.1
              have Gf_87 := Ci.keep Kq (ninS ne_it_t (ninS ne_it_lb (ninS ne_it_ib (ninS ne_it_lo nin0))))
              obtain ⟨E_88, Fleaks_88, Fleaes_88, Finnks_88, Finnrs_88, FleaOf_88, Frooot_88, Fheiht_88, Fregar_88, Clb_88, Cib_88, Clo_88⟩ := Sq
              refine Own.iload 186 Xq hx (hb hby d3_184) rfl rfl ?_
              refine Own.iload 188 Xq hx (hb hby d3_186) rfl rfl ?_
              refine Own.nicmp_ge 278 191 Xq hx (hb hby d3_188) (by decide) rfl (by omega) (by omega) (fun tkF => ?_) (fun tkF => ?_)
              ·
                have ec : cc = vv := by omega
                refine Own.aloadN 279 Xq hx (hb hby d3_278) rfl rfl rfl ?_
                refine Own.getFld 282 Xq hx hZ hown (host := "") (Or.inl (w 14 rfl)) Via.refl eqq Finnks_88 (hb hby d3_279) rfl ?_
                intro T89 X89 e89
                refine Own.iload 284 X89 hx (hb hby d3_282) rfl rfl ?_
                refine Own.iconst 285 X89 hx (Own.N 2) (hb hby d3_284) rfl rfl ?_
                refine Own.iadd 286 X89 hx (hb hby d3_285) rfl (Own.N_add _ _) ?_
                refine Own.iload 288 X89 hx (hb hby d3_286) rfl rfl ?_
                refine Own.nStore 289 X89 hx hZ e89 Cib_88 (by omega) (hb hby d3_288) rfl ?_
                intro T90 h90 X90 e90 W90 C90
                have N90 := Fr.snoc X90 Nq g_ib
                have Ef_92 := E_88.wr W90
                have Ff_93 := Fleaks_88.other W90 (Or.inl ne_t_ib)
                have Ff_94 := Fleaes_88.other W90 (Or.inl ne_t_ib)
                have Ff_95 := Finnks_88.other W90 (Or.inl ne_t_ib)
                have Ff_96 := Finnrs_88.other W90 (Or.inl ne_t_ib)
                have Ff_97 := FleaOf_88.other W90 (Or.inl ne_t_ib)
                have Ff_98 := Frooot_88.other W90 (Or.inl ne_t_ib)
                have Ff_99 := Fheiht_88.other W90 (Or.inl ne_t_ib)
                have Ff_100 := Fregar_88.other W90 (Or.inl ne_t_ib)
                have Cf_101 := Gf_87.other W90 ne_it_ib
                have Cf_102 := Clb_88.other W90 ne_lb_ib
                have Cf_104 := Clo_88.other W90 (Ne.symm ne_ib_lo)
                have zl90 := Nat.le_trans zlq (Nat.le_of_eq W90.size.symm)
                have K90 := Kq.wr W90 (Or.inl (List.mem_of_getElem? (i := 2) rfl))
                refine Own.iload 291 X90 hx (hb hby d3_289) rfl rfl ?_
                refine Own.iload 293 X90 hx (hb hby d3_291) rfl rfl ?_
                refine Own.iadd 294 X90 hx (hb hby d3_293) rfl (Own.N_add _ _) ?_
                refine Own.istoreV 296 #[.val (.ref t), .val (.ref it), .val (.int (Own.N (0))), .val (.int (Own.N (vv - 0))), .val (.int (Own.N (vv))), .val (.int (Own.N (vv - 0))), .val (.int (Own.N (0 + (vv - 0)))), .val (.int (Own.N (vv))), .val (.int (Own.N (vv * 128))), .val (.int (Own.N (min (vv - 0) ((vv - 0) - 0)))), .val (.int (Own.N (cc))), s12] X90 hx (hb hby d3_294) rfl rfl ?_
                refine Own.goto 150 X90 hx (hb hby d3_296) (by decide) ?_
                refine Own.iload 152 X90 hx (hb hby d3_150) rfl rfl ?_
                refine Own.iloadN 153 X90 hx (hb hby d3_152) rfl rfl ?_
                refine Own.nicmp_ge 299 156 X90 hx (hb hby d3_153) (by decide) rfl (by omega) (by omega) (fun tk => ?_) (fun tk => False.elim (by omega))
                refine Own.iload 301 X90 hx (hb hby d3_299) rfl rfl ?_
                refine Own.istoreNV 302 #[.val (.ref t), .val (.ref it), .val (.int (Own.N (vv))), .val (.int (Own.N (vv - 0))), .val (.int (Own.N (vv))), .val (.int (Own.N (vv - 0))), .val (.int (Own.N (0 + (vv - 0)))), .val (.int (Own.N (vv))), .val (.int (Own.N (vv * 128))), .val (.int (Own.N (min (vv - 0) ((vv - 0) - 0)))), .val (.int (Own.N (cc))), s12] X90 hx (hb hby d3_301) rfl rfl ?_
                refine Own.aloadN 303 X90 hx (hb hby d3_302) rfl rfl rfl ?_
                refine Own.getFld 306 X90 hx hZ hown (host := "") (Or.inl (w 32 rfl)) Via.refl e90 Ff_96 (hb hby d3_303) rfl ?_
                intro T105 X105 e105
                refine Own.iload 308 X105 hx (hb hby d3_306) rfl rfl ?_
                refine Own.isub 309 X105 hx (hb hby d3_308) rfl (Own.N_sub (by omega)) ?_
                refine Own.istoreNV 310 #[.val (.ref t), .val (.ref it), .val (.int (Own.N (vv))), .val (.int (Own.N ((vv + 1) - vv))), .val (.int (Own.N (vv))), .val (.int (Own.N (vv - 0))), .val (.int (Own.N (0 + (vv - 0)))), .val (.int (Own.N (vv))), .val (.int (Own.N (vv * 128))), .val (.int (Own.N (min (vv - 0) ((vv - 0) - 0)))), .val (.int (Own.N (cc))), s12] X105 hx (hb hby d3_309) rfl rfl ?_
                refine Own.iloadN 311 X105 hx (hb hby d3_310) rfl rfl ?_
                refine Own.iconst 312 X105 hx (Own.N 1) (hb hby d3_311) rfl rfl ?_
                refine Own.nicmp_gt 117 315 X105 hx (hb hby d3_312) (by decide) rfl (by omega) (by omega) (fun tk => False.elim (by omega)) (fun tk => ?_)
                refine Own.aloadN 316 X105 hx (hb hby d3_315) rfl rfl rfl ?_
                refine Own.iloadN 317 X105 hx (hb hby d3_316) rfl rfl ?_
                refine Own.putFld 320 X105 hx hZ hown (host := "") (Or.inl (w 44 rfl)) Via.refl e105 Ff_98 Ef_92 (Or.inl (w 45 rfl)) (w 3 rfl) (ty := .int) (by decide) rfl rfl (hb hby d3_317) rfl ?_
                intro T106 h106 X106 e106 W106
                have N106 := Fr.snoc X106 N90 g_t
                have Ef_108 := Ef_92.wr W106
                have Ff_109 := Ff_93.other W106 (Or.inr (slot_ne (Or.inr (w 13 rfl)) (Or.inl (w 45 rfl)) (by decide) (t := (.array .int)) (t' := .int) (by decide) (by decide)))
                have Ff_110 := Ff_94.other W106 (Or.inr (slot_ne (Or.inl (w 23 rfl)) (Or.inl (w 45 rfl)) (by decide) (t := .int) (t' := .int) (by decide) (by decide)))
                have Ff_111 := Ff_95.other W106 (Or.inr (slot_ne (Or.inl (w 15 rfl)) (Or.inl (w 45 rfl)) (by decide) (t := (.array .int)) (t' := .int) (by decide) (by decide)))
                have Ff_112 := Ff_96.other W106 (Or.inr (slot_ne (Or.inl (w 33 rfl)) (Or.inl (w 45 rfl)) (by decide) (t := .int) (t' := .int) (by decide) (by decide)))
                have Ff_113 := Ff_97.other W106 (Or.inr (slot_ne (Or.inr (w 17 rfl)) (Or.inl (w 45 rfl)) (by decide) (t := (.array .int)) (t' := .int) (by decide) (by decide)))
                have Ff_114 := Ff_98.same W106
                have Ff_115 := Ff_99.other W106 (Or.inr (slot_ne (Or.inl (w 35 rfl)) (Or.inl (w 45 rfl)) (by decide) (t := .int) (t' := .int) (by decide) (by decide)))
                have Ff_116 := Ff_100.other W106 (Or.inr (slot_ne (Or.inl (w 47 rfl)) (Or.inl (w 45 rfl)) (by decide) (t := .boolean) (t' := .int) (by decide) (by decide)))
                have Cf_117 := Cf_101.other W106 ne_it_t
                have Cf_118 := Cf_102.other W106 (Ne.symm ne_t_lb)
                have Cf_119 := Cf_104.other W106 (Ne.symm ne_t_lo)
                have Cf_120 := C90.other W106 (Ne.symm ne_t_ib)
                have zl106 := Nat.le_trans zl90 (Nat.le_of_eq W106.size.symm)
                have K106 := K90.wr W106 (Or.inl (List.mem_of_getElem? (i := 0) rfl))
                refine Own.aloadN 321 X106 hx (hb hby d3_320) rfl rfl rfl ?_
                refine Own.getFld 324 X106 hx hZ hown (host := "") (Or.inl (w 14 rfl)) Via.refl e106 Ff_111 (hb hby d3_321) rfl ?_
                intro T121 X121 e121
                refine Own.aloadN 325 X121 hx (hb hby d3_324) rfl rfl rfl ?_
                refine Own.getFld 328 X121 hx hZ hown (host := "") (Or.inl (w 44 rfl)) Via.refl e121 Ff_114 (hb hby d3_325) rfl ?_
                intro T122 X122 e122
                refine Own.sipush 331 X122 hx (Own.N 128) (hb hby d3_328) rfl rfl ?_
                refine Own.imul 332 X122 hx (hb hby d3_331) rfl (Own.N_mul _ _) ?_
                refine Own.iconst 333 X122 hx (Own.N 0) (hb hby d3_332) rfl rfl ?_
                refine Own.iadd 334 X122 hx (hb hby d3_333) rfl (Own.N_add _ _) ?_
                refine Own.iconst 335 X122 hx ((-1 : Int32)) (hb hby d3_334) rfl rfl ?_
                refine Own.nStore 336 X122 hx hZ e122 Cf_120 (by omega) (hb hby d3_335) rfl ?_
                intro T123 h123 X123 e123 W123 C123
                have N123 := Fr.snoc X123 N106 g_ib
                have Ef_125 := Ef_108.wr W123
                have Ff_126 := Ff_109.other W123 (Or.inl ne_t_ib)
                have Ff_127 := Ff_110.other W123 (Or.inl ne_t_ib)
                have Ff_128 := Ff_111.other W123 (Or.inl ne_t_ib)
                have Ff_129 := Ff_112.other W123 (Or.inl ne_t_ib)
                have Ff_130 := Ff_113.other W123 (Or.inl ne_t_ib)
                have Ff_131 := Ff_114.other W123 (Or.inl ne_t_ib)
                have Ff_132 := Ff_115.other W123 (Or.inl ne_t_ib)
                have Ff_133 := Ff_116.other W123 (Or.inl ne_t_ib)
                have Cf_134 := Cf_117.other W123 ne_it_ib
                have Cf_135 := Cf_118.other W123 ne_lb_ib
                have Cf_136 := Cf_119.other W123 (Ne.symm ne_ib_lo)
                have zl123 := Nat.le_trans zl106 (Nat.le_of_eq W123.size.symm)
                have K123 := K106.wr W123 (Or.inl (List.mem_of_getElem? (i := 2) rfl))
                refine Own.aloadN 337 X123 hx (hb hby d3_336) rfl rfl rfl ?_
                refine Own.iconst 338 X123 hx (Own.N 1) (hb hby d3_337) rfl rfl ?_
                refine Own.putFld 341 X123 hx hZ hown (host := "") (Or.inl (w 46 rfl)) Via.refl e123 Ff_133 Ef_125 (Or.inl (w 47 rfl)) (w 3 rfl) (ty := .boolean) (by decide) rfl rfl (hb hby d3_338) rfl ?_
                intro T138 h138 X138 e138 W138
                have N138 := Fr.snoc X138 N123 g_t
                have Ef_140 := Ef_125.wr W138
                have Ff_141 := Ff_126.other W138 (Or.inr (slot_ne (Or.inr (w 13 rfl)) (Or.inl (w 47 rfl)) (by decide) (t := (.array .int)) (t' := .boolean) (by decide) (by decide)))
                have Ff_142 := Ff_127.other W138 (Or.inr (slot_ne (Or.inl (w 23 rfl)) (Or.inl (w 47 rfl)) (by decide) (t := .int) (t' := .boolean) (by decide) (by decide)))
                have Ff_143 := Ff_128.other W138 (Or.inr (slot_ne (Or.inl (w 15 rfl)) (Or.inl (w 47 rfl)) (by decide) (t := (.array .int)) (t' := .boolean) (by decide) (by decide)))
                have Ff_144 := Ff_129.other W138 (Or.inr (slot_ne (Or.inl (w 33 rfl)) (Or.inl (w 47 rfl)) (by decide) (t := .int) (t' := .boolean) (by decide) (by decide)))
                have Ff_145 := Ff_130.other W138 (Or.inr (slot_ne (Or.inr (w 17 rfl)) (Or.inl (w 47 rfl)) (by decide) (t := (.array .int)) (t' := .boolean) (by decide) (by decide)))
                have Ff_146 := Ff_131.other W138 (Or.inr (slot_ne (Or.inl (w 45 rfl)) (Or.inl (w 47 rfl)) (by decide) (t := .int) (t' := .boolean) (by decide) (by decide)))
                have Ff_147 := Ff_132.other W138 (Or.inr (slot_ne (Or.inl (w 35 rfl)) (Or.inl (w 47 rfl)) (by decide) (t := .int) (t' := .boolean) (by decide) (by decide)))
                have Ff_148 := Ff_133.same W138
                have Cf_149 := Cf_134.other W138 ne_it_t
                have Cf_150 := Cf_135.other W138 (Ne.symm ne_t_lb)
                have Cf_151 := Cf_136.other W138 (Ne.symm ne_t_lo)
                have Cf_152 := C123.other W138 (Ne.symm ne_t_ib)
                have zl138 := Nat.le_trans zl123 (Nat.le_of_eq W138.size.symm)
                have K138 := K123.wr W138 (Or.inl (List.mem_of_getElem? (i := 0) rfl))
                refine Own.retVoid X138 hx hlk hret (hb hby d3_341) (by decide) (by decide) ?_
                rw [e138]
                rw [← ev]
                exact ⟨rfl, N138, K138, _, _, _, ⟨Ef_140, Ff_141, Ff_142, Ff_143, Ff_144, Ff_145, Ff_146, Ff_147, Ff_148, Cf_150, Cf_152, Cf_151⟩, ⟨by rw [hLn]; exact own_A_Pr (by omega), by omega, by omega, by omega, by omega, Or.inr ⟨rfl, vv, fun v => v, own_B_H2 (by omega) (by omega) hLn (by omega) (by omega) IB2 IS2 (by rw [ec] at IR; exact IR) (by omega) (by omega) (by omega)⟩, Or.inl ⟨rfl, fun j hj => rfl⟩, by omega, by omega, by omega, by omega⟩, by subst hLn; exact own_A_Lf (by omega) IA⟩
              ·
                refine Own.iloadN 192 Xq hx (hb hby d3_191) rfl rfl ?_
                refine Own.iload 194 Xq hx (hb hby d3_192) rfl rfl ?_
                refine Own.iadd 195 Xq hx (hb hby d3_194) rfl (Own.N_add _ _) ?_
                refine Own.iload 197 Xq hx (hb hby d3_195) rfl rfl ?_
                refine Own.iadd 198 Xq hx (hb hby d3_197) rfl (Own.N_add _ _) ?_
                refine Own.istoreV 200 #[.val (.ref t), .val (.ref it), .val (.int (Own.N (0))), .val (.int (Own.N (vv - 0))), .val (.int (Own.N (vv))), .val (.int (Own.N (vv - 0))), .val (.int (Own.N (0))), .val (.int (Own.N (vv))), .val (.int (Own.N (vv * 128))), .val (.int (Own.N (min (vv - 0) ((vv - 0) - 0)))), .val (.int (Own.N (cc))), .val (.int (Own.N ((0 + 0) + cc)))] Xq hx (hb hby d3_198) rfl (by rcases o_s12 with q9 | ⟨x9, q9⟩ <;> (subst q9; rfl)) ?_
                refine Own.aloadN 201 Xq hx (hb hby d3_200) rfl rfl rfl ?_
                refine Own.getFld 204 Xq hx hZ hown (host := "") (Or.inl (w 14 rfl)) Via.refl eqq Finnks_88 (hb hby d3_201) rfl ?_
                intro T153 X153 e153
                refine Own.iload 206 X153 hx (hb hby d3_204) rfl rfl ?_
                refine Own.iconst 207 X153 hx (Own.N 3) (hb hby d3_206) rfl rfl ?_
                refine Own.iadd 208 X153 hx (hb hby d3_207) rfl (Own.N_add _ _) ?_
                refine Own.iload 210 X153 hx (hb hby d3_208) rfl rfl ?_
                refine Own.iadd 211 X153 hx (hb hby d3_210) rfl (Own.N_add _ _) ?_
                refine Own.aloadN 212 X153 hx (hb hby d3_211) rfl rfl rfl ?_
                refine Own.getFld 215 X153 hx hZ hown (host := "") (Or.inl (w 34 rfl)) Via.refl e153 Fheiht_88 (hb hby d3_212) rfl ?_
                intro T154 X154 e154
                refine Own.iconst 216 X154 hx (Own.N 1) (hb hby d3_215) rfl rfl ?_
                refine Own.nicmp_ne 234 219 X154 hx (hb hby d3_216) (by decide) rfl (by omega) (by omega) (fun tk => ?_) (fun tk => False.elim (by omega))
                refine Own.aloadN 235 X154 hx (hb hby d3_234) rfl rfl rfl ?_
                refine Own.iload 237 X154 hx (hb hby d3_235) rfl rfl ?_
                have cg := own_cntG (V := vv) (T := 0) (by omega) hLn IB2 (v := ((0 + 0) + cc))
                have gm : ∀ s, s ≤ min 31 (L - 31 * ((0 + 0) + cc)) → own_gn (own_pb n) ((0 + 0) + cc) 0 ≤ own_gn (own_pb n) ((0 + 0) + cc) s ∧ own_gn (own_pb n) ((0 + 0) + cc) s < 1000000 := by
                  intro s hs; unfold own_gn own_pb; omega
                refine Own.callPr 240 2 t [(.int (Own.N ((0 + 0) + cc)))] [(.int (Own.N (((vv * 128) + 3) + cc))), (.ref ib)] X154 hx hZ hown (m14 l Z a0 w t lb ib lo _ _ _ _ _ _ _ _ n0 _ _ _ ((0 + 0) + cc) (min 31 (L - 31 * ((0 + 0) + cc))) (own_gn (own_pb n) ((0 + 0) + cc)) _ ⟨E_88, Fleaks_88, Fleaes_88, Finnks_88, Finnrs_88, FleaOf_88, Frooot_88, Fheiht_88, Fregar_88, Clb_88, Cib_88, Clo_88⟩ (by omega) (by omega) (by omega) (IS2 _ (by omega)) cg gm) E_88 (w 78 rfl) (w 80 rfl) (w 3 rfl) (w 79 rfl) (w 4 rfl) (w 81 rfl) (by decide) e154 (by decide) (by decide) (by decide) (by decide) (by rw [hml]; rfl) (lenOf pd_1 rfl) rfl (Nat.le_of_eq rfl) (hb hby d3_237) rfl ?_
                rintro vv T155 L155 X155 ⟨rfl, hh155, rfl⟩
                have N155 := Fr.app Nq (Fr.nil _)
                refine Own.nStore 241 X155 hx hZ hh155 Cib_88 (by omega) (hb hby d3_240) rfl ?_
                intro T156 h156 X156 e156 W156 C156
                have N156 := Fr.snoc X156 N155 g_ib
                have Ef_158 := E_88.wr W156
                have Ff_159 := Fleaks_88.other W156 (Or.inl ne_t_ib)
                have Ff_160 := Fleaes_88.other W156 (Or.inl ne_t_ib)
                have Ff_161 := Finnks_88.other W156 (Or.inl ne_t_ib)
                have Ff_162 := Finnrs_88.other W156 (Or.inl ne_t_ib)
                have Ff_163 := FleaOf_88.other W156 (Or.inl ne_t_ib)
                have Ff_164 := Frooot_88.other W156 (Or.inl ne_t_ib)
                have Ff_165 := Fheiht_88.other W156 (Or.inl ne_t_ib)
                have Ff_166 := Fregar_88.other W156 (Or.inl ne_t_ib)
                have Cf_167 := Gf_87.other W156 ne_it_ib
                have Cf_168 := Clb_88.other W156 ne_lb_ib
                have Cf_170 := Clo_88.other W156 (Ne.symm ne_ib_lo)
                have zl156 := Nat.le_trans zlq (Nat.le_of_eq W156.size.symm)
                have K156 := Kq.wr W156 (Or.inl (List.mem_of_getElem? (i := 2) rfl))
                refine Own.aloadN 242 X156 hx (hb hby d3_241) rfl rfl rfl ?_
                refine Own.getFld 245 X156 hx hZ hown (host := "") (Or.inl (w 14 rfl)) Via.refl e156 Ff_161 (hb hby d3_242) rfl ?_
                intro T171 X171 e171
                refine Own.iload 247 X171 hx (hb hby d3_245) rfl rfl ?_
                refine Own.bipush 249 X171 hx (Own.N 65) (hb hby d3_247) rfl rfl ?_
                refine Own.iadd 250 X171 hx (hb hby d3_249) rfl (Own.N_add _ _) ?_
                refine Own.iload 252 X171 hx (hb hby d3_250) rfl rfl ?_
                refine Own.iadd 253 X171 hx (hb hby d3_252) rfl (Own.N_add _ _) ?_
                refine Own.iload 255 X171 hx (hb hby d3_253) rfl rfl ?_
                refine Own.nStore 256 X171 hx hZ e171 C156 (by omega) (hb hby d3_255) rfl ?_
                intro T172 h172 X172 e172 W172 C172
                have N172 := Fr.snoc X172 N156 g_ib
                have Ef_174 := Ef_158.wr W172
                have Ff_175 := Ff_159.other W172 (Or.inl ne_t_ib)
                have Ff_176 := Ff_160.other W172 (Or.inl ne_t_ib)
                have Ff_177 := Ff_161.other W172 (Or.inl ne_t_ib)
                have Ff_178 := Ff_162.other W172 (Or.inl ne_t_ib)
                have Ff_179 := Ff_163.other W172 (Or.inl ne_t_ib)
                have Ff_180 := Ff_164.other W172 (Or.inl ne_t_ib)
                have Ff_181 := Ff_165.other W172 (Or.inl ne_t_ib)
                have Ff_182 := Ff_166.other W172 (Or.inl ne_t_ib)
                have Cf_183 := Cf_167.other W172 ne_it_ib
                have Cf_184 := Cf_168.other W172 ne_lb_ib
                have Cf_185 := Cf_170.other W172 (Ne.symm ne_ib_lo)
                have zl172 := Nat.le_trans zl156 (Nat.le_of_eq W172.size.symm)
                have K172 := K156.wr W172 (Or.inl (List.mem_of_getElem? (i := 2) rfl))
                refine Own.aloadN 257 X172 hx (hb hby d3_256) rfl rfl rfl ?_
                refine Own.iload 259 X172 hx (hb hby d3_257) rfl rfl ?_
                refine Own.aloadN 260 X172 hx (hb hby d3_259) rfl rfl rfl ?_
                refine Own.getFld 263 X172 hx hZ hown (host := "") (Or.inl (w 34 rfl)) Via.refl e172 Ff_181 (hb hby d3_260) rfl ?_
                intro T187 X187 e187
                refine Own.iconst 264 X187 hx (Own.N 1) (hb hby d3_263) rfl rfl ?_
                refine Own.isub 265 X187 hx (hb hby d3_264) rfl (Own.N_sub (by omega)) ?_
                refine Own.iload 267 X187 hx (hb hby d3_265) rfl rfl ?_
                refine Own.iload 269 X187 hx (hb hby d3_267) rfl rfl ?_
                refine Own.callPr 272 0 t [(.int (Own.N ((0 + 0) + cc))), (.int (Own.N (((0 + 1) + 1) - 1))), (.int (Own.N (vv))), (.int (Own.N (cc)))] [] X187 hx hZ hown (m6_1 l Z a0 w t lb ib lo _ _ _ _ _ _ _ _ n0 _ _ _ ((0 + 0) + cc) (((0 + 1) + 1) - 1) vv cc _ zl172 D00 ⟨Ef_174, Ff_175, Ff_176, Ff_177, Ff_178, Ff_179, Ff_180, Ff_181, Ff_182, Cf_184, C172, Cf_185⟩ (by omega) (by omega) (by omega) (by omega)) Ef_174 (w 40 rfl) (w 42 rfl) (w 3 rfl) (w 41 rfl) (w 4 rfl) (w 43 rfl) (by decide) e187 (by decide) (by decide) (by decide) (by decide) (by rw [hml]; rfl) (lenOf pd_4 rfl) rfl (Nat.le_of_eq rfl) (hb hby d3_269) rfl ?_
                rintro vv T188 L188 X188 ⟨rfl, N188q, K188, S188⟩
                have N188 := Fr.app N172 N188q
                have Ef_190 := Ef_174.keep K188
                have Cf_199 := Cf_183.keep K188 (ninS ne_it_t (ninS ne_it_lb (ninS ne_it_ib (ninS ne_it_lo nin0))))
                have zl188 := Nat.le_trans zl172 K188.1
                have KK188 := K172.trans K188 (allS (Or.inl (List.mem_of_getElem? (i := 0) rfl)) (allS (Or.inl (List.mem_of_getElem? (i := 1) rfl)) (allS (Or.inl (List.mem_of_getElem? (i := 2) rfl)) (allS (Or.inl (List.mem_of_getElem? (i := 3) rfl)) all0))))
                obtain ⟨E_188, Fleaks_188, Fleaes_188, Finnks_188, Finnrs_188, FleaOf_188, Frooot_188, Fheiht_188, Fregar_188, Clb_188, Cib_188, Clo_188⟩ := S188
                refine Own.iinc 275 (fun c_203 => #[.val (.ref t), .val (.ref it), .val (.int (Own.N (0))), .val (.int (Own.N (vv - 0))), .val (.int (Own.N (vv))), .val (.int (Own.N (vv - 0))), .val (.int (Own.N (0))), .val (.int (Own.N (vv))), .val (.int (Own.N (vv * 128))), .val (.int (Own.N (min (vv - 0) ((vv - 0) - 0)))), .val (.int c_203), .val (.int (Own.N ((0 + 0) + cc)))]) X188 hx (Own.N 1) (hb hby d3_272) rfl rfl rfl (fun _ => rfl) fun c_203 hc_203 => ?_
                obtain rfl : c_203 = Own.N (cc + 1) := hc_203.trans (Own.N_add _ _)
                refine Own.goto 184 X188 hx (hb hby d3_275) (by decide) ?_
                have hch : ((0 + 0) + cc) = cc := by omega
                have hst0 : own_gn (own_pb n) ((0 + 0) + cc) (min 31 (L - 31 * ((0 + 0) + cc))) - own_gn (own_pb n) ((0 + 0) + cc) 0 = own_pb n (own_st L (cc + 1)) - own_pb n (own_st L cc) := by
                  rw [hch]; unfold own_gn own_pb own_st; omega
                exact ihF (cc + 1) _ _ (Or.inr ⟨_, rfl⟩) _ _ _ X188 rfl N188 KK188 ⟨E_188, Fleaks_188, Fleaes_188, Finnks_188, Finnrs_188, FleaOf_188, Frooot_188, Fheiht_188, Fregar_188, Clb_188, Cib_188, Clo_188⟩ (own_B_size (x := (0 + 0) + cc) (own_B_size (x := (0 + 0) + cc) (own_B_far (x := vv) (own_B_far (x := vv) IB2 (by omega) (by omega) (fun j hj => by omega) (by omega)) (by omega) (by omega) (fun j hj => by omega) (by omega)) (by omega) (by omega) (by omega)) (by omega) (by omega) (by omega)) (own_Sz_upd (own_Sz_upd (own_Sz_upd (own_Sz_upd IS2 (fun u hu => by omega)) (fun u hu => by omega)) (fun u hu => by omega)) (fun u hu => by omega)) (own_R_step IR (by omega) (by omega) (by omega) (by omega) hst0 (by omega) (by omega) hch (by omega)) (by omega) (by omega)
          exact JE2 (vv + 1) 0 _ _ o_s11 _ _ _ X86 hh86 N86 KK71 ⟨E_71, Fleaks_71, Fleaes_71, Finnks_71, Finnrs_71, FleaOf_71, Frooot_71, Fheiht_71, Fregar_71, Clb_71, Cib_71, Clo_71⟩ (own_B_size (x := vv) IB1 (by omega) (by omega) (by omega)) (own_Sz_upd IS (fun u hu => by omega)) (fun u hu => absurd hu (by omega)) (by omega) (by omega)
        ·
          refine Own.aloadN 157 Xq hx (hb hby d3_156) rfl rfl rfl ?_
          refine Own.callPr 160 0 t [] [] Xq hx hZ hown (m5 l Z a0 w t lb ib lo _ _ _ _ _ _ _ _ n0 _ _ _ _ zlq D00 ⟨E_52, Fleaks_52, Fleaes_52, Finnks_52, Finnrs_52, FleaOf_52, Frooot_52, Fheiht_52, Fregar_52, Clb_52, Cib_52, Clo_52⟩ (by omega) (by omega)) E_52 (w 36 rfl) (w 38 rfl) (w 3 rfl) (w 37 rfl) (w 4 rfl) (w 39 rfl) (by decide) eqq (by decide) (by decide) (by decide) (by decide) (by rw [hml]; rfl) (lenOf pd_2 rfl) rfl (Nat.le_of_eq rfl) (hb hby d3_157) rfl ?_
          rintro vv T204 L204 X204 ⟨rfl, N204q, K204, S204⟩
          have N204 := Fr.app Nq N204q
          have Ef_206 := E_52.keep K204
          have Cf_215 := Gf_51.keep K204 (ninS ne_it_t (ninS ne_it_lb (ninS ne_it_ib (ninS ne_it_lo nin0))))
          have zl204 := Nat.le_trans zlq K204.1
          have KK204 := Kq.trans K204 (allS (Or.inl (List.mem_of_getElem? (i := 0) rfl)) (allS (Or.inl (List.mem_of_getElem? (i := 1) rfl)) (allS (Or.inl (List.mem_of_getElem? (i := 2) rfl)) (allS (Or.inl (List.mem_of_getElem? (i := 3) rfl)) all0))))
          obtain ⟨E_204, Fleaks_204, Fleaes_204, Finnks_204, Finnrs_204, FleaOf_204, Frooot_204, Fheiht_204, Fregar_204, Clb_204, Cib_204, Clo_204⟩ := S204
          refine Own.istoreV 162 #[.val (.ref t), .val (.ref it), .val (.int (Own.N (0))), .val (.int (Own.N (L))), .val (.int (Own.N (0))), .val (.int (Own.N (31))), .val (.int (Own.N (s6))), .val (.int (Own.N (vv))), s8, s9, s10, s11] X204 hx (hb hby d3_160) rfl (by rcases o_s7 with q9 | ⟨x9, q9⟩ <;> (subst q9; rfl)) ?_
          refine Own.iload 164 X204 hx (hb hby d3_162) rfl rfl ?_
          refine Own.sipush 167 X204 hx (Own.N 128) (hb hby d3_164) rfl rfl ?_
          refine Own.imul 168 X204 hx (hb hby d3_167) rfl (Own.N_mul _ _) ?_
          refine Own.istoreV 170 #[.val (.ref t), .val (.ref it), .val (.int (Own.N (0))), .val (.int (Own.N (L))), .val (.int (Own.N (0))), .val (.int (Own.N (31))), .val (.int (Own.N (s6))), .val (.int (Own.N (vv))), .val (.int (Own.N (vv * 128))), s9, s10, s11] X204 hx (hb hby d3_168) rfl (by rcases o_s8 with q9 | ⟨x9, q9⟩ <;> (subst q9; rfl)) ?_
          refine Own.iload 172 X204 hx (hb hby d3_170) rfl rfl ?_
          refine Own.iloadN 173 X204 hx (hb hby d3_172) rfl rfl ?_
          refine Own.iload 175 X204 hx (hb hby d3_173) rfl rfl ?_
          refine Own.isub 176 X204 hx (hb hby d3_175) rfl (Own.N_sub (by omega)) ?_
          refine Own.callSt 179 0 [(.int (Own.N (31))), (.int (Own.N (L - s6)))] [] X204 hx hZ hown (m4 l Z a0 w (31) (L - s6) _ (by omega) (by omega)) (w 24 rfl) (w 25 rfl) (w 26 rfl) (w 27 rfl) (by decide) rfl (by decide) (by decide) (by decide) (by decide) (by rw [hml]; rfl) (lenOf pd_3 rfl) rfl (Nat.le_of_eq rfl) (hb hby d3_176) rfl ?_
          rintro vv T219 L219 X219 ⟨rfl, hh219, rfl⟩
          have N219 := Fr.app N204 (Fr.nil _)
          refine Own.istoreV 181 #[.val (.ref t), .val (.ref it), .val (.int (Own.N (0))), .val (.int (Own.N (L))), .val (.int (Own.N (0))), .val (.int (Own.N (31))), .val (.int (Own.N (s6))), .val (.int (Own.N (vv))), .val (.int (Own.N (vv * 128))), .val (.int (Own.N (min 31 (L - s6)))), s10, s11] X219 hx (hb hby d3_179) rfl (by rcases o_s9 with q9 | ⟨x9, q9⟩ <;> (subst q9; rfl)) ?_
          refine Own.iconst 182 X219 hx (Own.N 0) (hb hby d3_181) rfl rfl ?_
          refine Own.istoreV 184 #[.val (.ref t), .val (.ref it), .val (.int (Own.N (0))), .val (.int (Own.N (L))), .val (.int (Own.N (0))), .val (.int (Own.N (31))), .val (.int (Own.N (s6))), .val (.int (Own.N (vv))), .val (.int (Own.N (vv * 128))), .val (.int (Own.N (min 31 (L - s6)))), .val (.int (Own.N (0))), s11] X219 hx (hb hby d3_182) rfl (by rcases o_s10 with q9 | ⟨x9, q9⟩ <;> (subst q9; rfl)) ?_
          have JE : ∀ (kk cc : Nat) (gL2 gI2 : Nat → Int32) (s11 : Slot) (o_s11 : s11 = .unset ∨ ∃ x : Int32, s11 = .val (.int x)) (Tq : State) (Lq : List Loc) (hq : Heap) (Xq : Stand p l e ({ frames := 1, cells := 0, slots := 0, locals := 18 } : Room) s m #[(.ref t), (.ref it)] below meth c Tq Lq 0 0) (eqq : Tq.heap = hq) (Nq : Fr n0 Lq) (Kq : Keep h0 hq [t, lb, ib, lo]) (Sq : own_S Z hq t lb ib lo L (vv + 1) rt (0 + 1) rg zL zI zO gL2 gI2 gO) (IA : own_A n L gL2 gO) (IB : own_B 31 n (s6 + cc) gL2 gI2) (IS : own_Sz L vv gI2) (hc : cc ≤ (min 31 (L - s6))) (hk : (min 31 (L - s6)) - cc < kk), Own.Ends p.tables e below (fun v h L' => v = none ∧ Fr n0 L' ∧ Keep h0 h [t, lb, ib, lo] ∧ ∃ gL gI gO, own_S Z h t lb ib lo L ((L + 30) / 31 + 1) ((L + 30) / 31) 2 1 zL zI zO gL gI gO ∧ own_T L n 30 ((L + 30) / 31) 2 1 zL zI (own_pb n) gL gI ∧ own_Lf L (own_pb n) (fun q => q) gL gO) (Own.FE s ({ frames := 1, cells := 0, slots := 0, locals := 18 } : Room).cells ({ frames := 1, cells := 0, slots := 0, locals := 18 } : Room).slots) (Tq.setTop (mkF m 184 #[.val (.ref t), .val (.ref it), .val (.int (Own.N (0))), .val (.int (Own.N (L))), .val (.int (Own.N (0))), .val (.int (Own.N (31))), .val (.int (Own.N (s6))), .val (.int (Own.N (vv))), .val (.int (Own.N (vv * 128))), .val (.int (Own.N (min 31 (L - s6)))), .val (.int (Own.N (cc))), s11] [])) := by
            intro kk
            induction kk with
            | zero => intros; exfalso; omega
            | succ kk ihE =>
              intro cc gL2 gI2 s11 o_s11 Tq Lq hq Xq eqq Nq Kq Sq IA IB IS hc hk
              have zlq := Nat.le_trans Z0 Kq.1
              have Gf_220 := Ci.keep Kq (ninS ne_it_t (ninS ne_it_lb (ninS ne_it_ib (ninS ne_it_lo nin0))))
              obtain ⟨E_221, Fleaks_221, Fleaes_221, Finnks_221, Finnrs_221, FleaOf_221, Frooot_221, Fheiht_221, Fregar_221, Clb_221, Cib_221, Clo_221⟩ := Sq
              refine Own.iload 186 Xq hx (hb hby d3_184) rfl rfl ?_
              refine Own.iload 188 Xq hx (hb hby d3_186) rfl rfl ?_
              refine Own.nicmp_ge 278 191 Xq hx (hb hby d3_188) (by decide) rfl (by omega) (by omega) (fun tk => ?_) (fun tk => ?_)
              ·
                refine Own.aloadN 279 Xq hx (hb hby d3_278) rfl rfl rfl ?_
                refine Own.getFld 282 Xq hx hZ hown (host := "") (Or.inl (w 14 rfl)) Via.refl eqq Finnks_221 (hb hby d3_279) rfl ?_
                intro T222 X222 e222
                refine Own.iload 284 X222 hx (hb hby d3_282) rfl rfl ?_
                refine Own.iconst 285 X222 hx (Own.N 2) (hb hby d3_284) rfl rfl ?_
                refine Own.iadd 286 X222 hx (hb hby d3_285) rfl (Own.N_add _ _) ?_
                refine Own.iload 288 X222 hx (hb hby d3_286) rfl rfl ?_
                refine Own.nStore 289 X222 hx hZ e222 Cib_221 (by omega) (hb hby d3_288) rfl ?_
                intro T223 h223 X223 e223 W223 C223
                have N223 := Fr.snoc X223 Nq g_ib
                have Ef_225 := E_221.wr W223
                have Ff_226 := Fleaks_221.other W223 (Or.inl ne_t_ib)
                have Ff_227 := Fleaes_221.other W223 (Or.inl ne_t_ib)
                have Ff_228 := Finnks_221.other W223 (Or.inl ne_t_ib)
                have Ff_229 := Finnrs_221.other W223 (Or.inl ne_t_ib)
                have Ff_230 := FleaOf_221.other W223 (Or.inl ne_t_ib)
                have Ff_231 := Frooot_221.other W223 (Or.inl ne_t_ib)
                have Ff_232 := Fheiht_221.other W223 (Or.inl ne_t_ib)
                have Ff_233 := Fregar_221.other W223 (Or.inl ne_t_ib)
                have Cf_234 := Gf_220.other W223 ne_it_ib
                have Cf_235 := Clb_221.other W223 ne_lb_ib
                have Cf_237 := Clo_221.other W223 (Ne.symm ne_ib_lo)
                have zl223 := Nat.le_trans zlq (Nat.le_of_eq W223.size.symm)
                have K223 := Kq.wr W223 (Or.inl (List.mem_of_getElem? (i := 2) rfl))
                refine Own.iload 291 X223 hx (hb hby d3_289) rfl rfl ?_
                refine Own.iload 293 X223 hx (hb hby d3_291) rfl rfl ?_
                refine Own.iadd 294 X223 hx (hb hby d3_293) rfl (Own.N_add _ _) ?_
                refine Own.istoreV 296 #[.val (.ref t), .val (.ref it), .val (.int (Own.N (0))), .val (.int (Own.N (L))), .val (.int (Own.N (0))), .val (.int (Own.N (31))), .val (.int (Own.N (s6 + 31))), .val (.int (Own.N (vv))), .val (.int (Own.N (vv * 128))), .val (.int (Own.N (min 31 (L - s6)))), .val (.int (Own.N (cc))), s11] X223 hx (hb hby d3_294) rfl rfl ?_
                refine Own.goto 150 X223 hx (hb hby d3_296) (by decide) ?_
                have ec : cc = min 31 (L - 31 * vv) := by omega
                rw [show s6 + cc = min (31 * (vv + 1)) L from by omega] at IB
                exact ihD (vv + 1) _ _ _ _ _ _ _ _ (Or.inr ⟨_, rfl⟩) (Or.inr ⟨_, rfl⟩) (Or.inr ⟨_, rfl⟩) (Or.inr ⟨_, rfl⟩) o_s11 _ _ _ X223 e223 N223 K223 ⟨Ef_225, Ff_226, Ff_227, Ff_228, Ff_229, Ff_230, Ff_231, Ff_232, Ff_233, Cf_235, C223, Cf_237⟩ IA (own_B_size (x := vv) IB (by omega) (by omega) (by omega)) (own_Sz_step IS (by omega) (by omega)) (by omega) (by omega) (by omega)
              ·
                refine Own.iloadN 192 Xq hx (hb hby d3_191) rfl rfl ?_
                refine Own.iload 194 Xq hx (hb hby d3_192) rfl rfl ?_
                refine Own.iadd 195 Xq hx (hb hby d3_194) rfl (Own.N_add _ _) ?_
                refine Own.iload 197 Xq hx (hb hby d3_195) rfl rfl ?_
                refine Own.iadd 198 Xq hx (hb hby d3_197) rfl (Own.N_add _ _) ?_
                refine Own.istoreV 200 #[.val (.ref t), .val (.ref it), .val (.int (Own.N (0))), .val (.int (Own.N (L))), .val (.int (Own.N (0))), .val (.int (Own.N (31))), .val (.int (Own.N (s6))), .val (.int (Own.N (vv))), .val (.int (Own.N (vv * 128))), .val (.int (Own.N (min 31 (L - s6)))), .val (.int (Own.N (cc))), .val (.int (Own.N ((0 + s6) + cc)))] Xq hx (hb hby d3_198) rfl (by rcases o_s11 with q9 | ⟨x9, q9⟩ <;> (subst q9; rfl)) ?_
                refine Own.aloadN 201 Xq hx (hb hby d3_200) rfl rfl rfl ?_
                refine Own.getFld 204 Xq hx hZ hown (host := "") (Or.inl (w 14 rfl)) Via.refl eqq Finnks_221 (hb hby d3_201) rfl ?_
                intro T238 X238 e238
                refine Own.iload 206 X238 hx (hb hby d3_204) rfl rfl ?_
                refine Own.iconst 207 X238 hx (Own.N 3) (hb hby d3_206) rfl rfl ?_
                refine Own.iadd 208 X238 hx (hb hby d3_207) rfl (Own.N_add _ _) ?_
                refine Own.iload 210 X238 hx (hb hby d3_208) rfl rfl ?_
                refine Own.iadd 211 X238 hx (hb hby d3_210) rfl (Own.N_add _ _) ?_
                refine Own.aloadN 212 X238 hx (hb hby d3_211) rfl rfl rfl ?_
                refine Own.getFld 215 X238 hx hZ hown (host := "") (Or.inl (w 34 rfl)) Via.refl e238 Fheiht_221 (hb hby d3_212) rfl ?_
                intro T239 X239 e239
                refine Own.iconst 216 X239 hx (Own.N 1) (hb hby d3_215) rfl rfl ?_
                refine Own.nicmp_ne 234 219 X239 hx (hb hby d3_216) (by decide) rfl (by omega) (by omega) (fun tk => False.elim (by omega)) (fun tk => ?_)
                have ia := (IA.1 ((0 + s6) + cc) (by omega)).1
                refine Own.aloadN 220 X239 hx (hb hby d3_219) rfl rfl rfl ?_
                refine Own.getFld 223 X239 hx hZ hown (host := "") (Or.inl (w 12 rfl)) Via.refl e239 Fleaks_221 (hb hby d3_220) rfl ?_
                intro T240 X240 e240
                refine Own.iload 225 X240 hx (hb hby d3_223) rfl rfl ?_
                refine Own.bipush 227 X240 hx (Own.N 64) (hb hby d3_225) rfl rfl ?_
                refine Own.imul 228 X240 hx (hb hby d3_227) rfl (Own.N_mul _ _) ?_
                refine Own.iconst 229 X240 hx (Own.N 2) (hb hby d3_228) rfl rfl ?_
                refine Own.iadd 230 X240 hx (hb hby d3_229) rfl (Own.N_add _ _) ?_
                refine Own.nLoad 231 (Own.N (min 30 (n - 30 * ((0 + s6) + cc)))) X240 hx hZ e240 Clb_221 (by omega) ia (hb hby d3_230) rfl ?_
                refine Own.goto 240 X240 hx (hb hby d3_231) (by decide) ?_
                refine Own.nStore 241 X240 hx hZ e240 Cib_221 (by omega) (hb hby d3_240) rfl ?_
                intro T241 h241 X241 e241 W241 C241
                have N241 := Fr.snoc X241 Nq g_ib
                have Ef_243 := E_221.wr W241
                have Ff_244 := Fleaks_221.other W241 (Or.inl ne_t_ib)
                have Ff_245 := Fleaes_221.other W241 (Or.inl ne_t_ib)
                have Ff_246 := Finnks_221.other W241 (Or.inl ne_t_ib)
                have Ff_247 := Finnrs_221.other W241 (Or.inl ne_t_ib)
                have Ff_248 := FleaOf_221.other W241 (Or.inl ne_t_ib)
                have Ff_249 := Frooot_221.other W241 (Or.inl ne_t_ib)
                have Ff_250 := Fheiht_221.other W241 (Or.inl ne_t_ib)
                have Ff_251 := Fregar_221.other W241 (Or.inl ne_t_ib)
                have Cf_252 := Gf_220.other W241 ne_it_ib
                have Cf_253 := Clb_221.other W241 ne_lb_ib
                have Cf_255 := Clo_221.other W241 (Ne.symm ne_ib_lo)
                have zl241 := Nat.le_trans zlq (Nat.le_of_eq W241.size.symm)
                have K241 := Kq.wr W241 (Or.inl (List.mem_of_getElem? (i := 2) rfl))
                refine Own.aloadN 242 X241 hx (hb hby d3_241) rfl rfl rfl ?_
                refine Own.getFld 245 X241 hx hZ hown (host := "") (Or.inl (w 14 rfl)) Via.refl e241 Ff_246 (hb hby d3_242) rfl ?_
                intro T256 X256 e256
                refine Own.iload 247 X256 hx (hb hby d3_245) rfl rfl ?_
                refine Own.bipush 249 X256 hx (Own.N 65) (hb hby d3_247) rfl rfl ?_
                refine Own.iadd 250 X256 hx (hb hby d3_249) rfl (Own.N_add _ _) ?_
                refine Own.iload 252 X256 hx (hb hby d3_250) rfl rfl ?_
                refine Own.iadd 253 X256 hx (hb hby d3_252) rfl (Own.N_add _ _) ?_
                refine Own.iload 255 X256 hx (hb hby d3_253) rfl rfl ?_
                refine Own.nStore 256 X256 hx hZ e256 C241 (by omega) (hb hby d3_255) rfl ?_
                intro T257 h257 X257 e257 W257 C257
                have N257 := Fr.snoc X257 N241 g_ib
                have Ef_259 := Ef_243.wr W257
                have Ff_260 := Ff_244.other W257 (Or.inl ne_t_ib)
                have Ff_261 := Ff_245.other W257 (Or.inl ne_t_ib)
                have Ff_262 := Ff_246.other W257 (Or.inl ne_t_ib)
                have Ff_263 := Ff_247.other W257 (Or.inl ne_t_ib)
                have Ff_264 := Ff_248.other W257 (Or.inl ne_t_ib)
                have Ff_265 := Ff_249.other W257 (Or.inl ne_t_ib)
                have Ff_266 := Ff_250.other W257 (Or.inl ne_t_ib)
                have Ff_267 := Ff_251.other W257 (Or.inl ne_t_ib)
                have Cf_268 := Cf_252.other W257 ne_it_ib
                have Cf_269 := Cf_253.other W257 ne_lb_ib
                have Cf_270 := Cf_255.other W257 (Ne.symm ne_ib_lo)
                have zl257 := Nat.le_trans zl241 (Nat.le_of_eq W257.size.symm)
                have K257 := K241.wr W257 (Or.inl (List.mem_of_getElem? (i := 2) rfl))
                refine Own.aloadN 257 X257 hx (hb hby d3_256) rfl rfl rfl ?_
                refine Own.iload 259 X257 hx (hb hby d3_257) rfl rfl ?_
                refine Own.aloadN 260 X257 hx (hb hby d3_259) rfl rfl rfl ?_
                refine Own.getFld 263 X257 hx hZ hown (host := "") (Or.inl (w 34 rfl)) Via.refl e257 Ff_266 (hb hby d3_260) rfl ?_
                intro T272 X272 e272
                refine Own.iconst 264 X272 hx (Own.N 1) (hb hby d3_263) rfl rfl ?_
                refine Own.isub 265 X272 hx (hb hby d3_264) rfl (Own.N_sub (by omega)) ?_
                refine Own.iload 267 X272 hx (hb hby d3_265) rfl rfl ?_
                refine Own.iload 269 X272 hx (hb hby d3_267) rfl rfl ?_
                refine Own.callPr 272 0 t [(.int (Own.N ((0 + s6) + cc))), (.int (Own.N ((0 + 1) - 1))), (.int (Own.N (vv))), (.int (Own.N (cc)))] [] X272 hx hZ hown (m6_0 l Z a0 w t lb ib lo _ _ _ _ _ _ _ _ n0 _ _ _ ((0 + s6) + cc) ((0 + 1) - 1) vv cc _ zl257 D00 ⟨Ef_259, Ff_260, Ff_261, Ff_262, Ff_263, Ff_264, Ff_265, Ff_266, Ff_267, Cf_269, C257, Cf_270⟩ (by omega) (by omega) (by omega) (by omega)) Ef_259 (w 40 rfl) (w 42 rfl) (w 3 rfl) (w 41 rfl) (w 4 rfl) (w 43 rfl) (by decide) e272 (by decide) (by decide) (by decide) (by decide) (by rw [hml]; rfl) (lenOf pd_4 rfl) rfl (Nat.le_of_eq rfl) (hb hby d3_269) rfl ?_
                rintro vv T273 L273 X273 ⟨rfl, N273q, K273, S273⟩
                have N273 := Fr.app N257 N273q
                have Ef_275 := Ef_259.keep K273
                have Cf_284 := Cf_268.keep K273 (ninS ne_it_t (ninS ne_it_lb (ninS ne_it_ib (ninS ne_it_lo nin0))))
                have zl273 := Nat.le_trans zl257 K273.1
                have KK273 := K257.trans K273 (allS (Or.inl (List.mem_of_getElem? (i := 0) rfl)) (allS (Or.inl (List.mem_of_getElem? (i := 1) rfl)) (allS (Or.inl (List.mem_of_getElem? (i := 2) rfl)) (allS (Or.inl (List.mem_of_getElem? (i := 3) rfl)) all0))))
                obtain ⟨E_273, Fleaks_273, Fleaes_273, Finnks_273, Finnrs_273, FleaOf_273, Frooot_273, Fheiht_273, Fregar_273, Clb_273, Cib_273, Clo_273⟩ := S273
                refine Own.iinc 275 (fun c_288 => #[.val (.ref t), .val (.ref it), .val (.int (Own.N (0))), .val (.int (Own.N (L))), .val (.int (Own.N (0))), .val (.int (Own.N (31))), .val (.int (Own.N (s6))), .val (.int (Own.N (vv))), .val (.int (Own.N (vv * 128))), .val (.int (Own.N (min 31 (L - s6)))), .val (.int c_288), .val (.int (Own.N ((0 + s6) + cc)))]) X273 hx (Own.N 1) (hb hby d3_272) rfl rfl rfl (fun _ => rfl) fun c_288 hc_288 => ?_
                obtain rfl : c_288 = Own.N (cc + 1) := hc_288.trans (Own.N_add _ _)
                refine Own.goto 184 X273 hx (hb hby d3_275) (by decide) ?_
                exact ihE (cc + 1) _ _ _ (Or.inr ⟨_, rfl⟩) _ _ _ X273 rfl N273 KK273 ⟨E_273, Fleaks_273, Fleaes_273, Finnks_273, Finnrs_273, FleaOf_273, Frooot_273, Fheiht_273, Fregar_273, Clb_273, Cib_273, Clo_273⟩ (own_A_agree IA (fun j _ => own_two_agree j)) (own_B_step (T := s6 + cc) IB (by omega) (by omega) (by omega) (by omega) (by omega) (by omega) (by omega) (by omega) (by omega)) (own_Sz_upd (own_Sz_upd IS (fun u hu => by omega)) (fun u hu => by omega)) (by omega) (by omega)
          exact JE ((min 31 (L - s6)) + 1) 0 _ _ _ o_s11 _ _ _ X219 hh219 N219 KK204 ⟨E_204, Fleaks_204, Fleaes_204, Finnks_204, Finnrs_204, FleaOf_204, Frooot_204, Fheiht_204, Fregar_204, Clb_204, Cib_204, Clo_204⟩ IA (by rw [show s6 + 0 = min (31 * vv) L from by omega]; exact own_B_size (x := vv) IB (by omega) (by omega) (by omega)) (own_Sz_upd IS (fun u hu => by omega)) (by omega) (by omega)
    exact JD ((L + 30) / 31 + 1) 0 _ _ _ _ _ _ _ _ (Or.inl rfl) (Or.inl rfl) (Or.inl rfl) (Or.inl rfl) (Or.inl rfl) _ _ _ X50 e50 N35 K35 ⟨Ef_37, Ff_38, Ff_39, Ff_40, Ff_41, Ff_42, Ff_43, Ff_44, Ff_45, Cf_47, Cf_48, Cf_49⟩ IA (fun j hj => absurd hj (by omega)) (fun u hu => absurd hu (by omega)) (by omega) (by omega) (by omega)
  have JA : ∀ (kk jj st : Nat) (gL gO : Nat → Int32) (s3 : Slot) (s4 : Slot) (s5 : Slot) (o_s3 : s3 = .unset ∨ ∃ x : Int32, s3 = .val (.int x)) (o_s4 : s4 = .unset ∨ ∃ x : Int32, s4 = .val (.int x)) (o_s5 : s5 = .unset ∨ ∃ x : Int32, s5 = .val (.int x)) (Tq : State) (Lq : List Loc) (hq : Heap) (Xq : Stand p l e ({ frames := 1, cells := 0, slots := 0, locals := 18 } : Room) s m #[(.ref t), (.ref it)] below meth c Tq Lq 0 0) (eqq : Tq.heap = hq) (Nq : Fr n0 Lq) (Kq : Keep h0 hq [t, lb, ib, lo]) (Sq : own_S Z hq t lb ib lo jj inn rt ht rg zL zI zO gL fI gO) (IA : own_A n jj gL gO) (hst : st = 30 * jj) (hjj : jj ≤ L) (hk : L - jj < kk), Own.Ends p.tables e below (fun v h L' => v = none ∧ Fr n0 L' ∧ Keep h0 h [t, lb, ib, lo] ∧ ∃ gL gI gO, own_S Z h t lb ib lo L ((L + 30) / 31 + 1) ((L + 30) / 31) 2 1 zL zI zO gL gI gO ∧ own_T L n 30 ((L + 30) / 31) 2 1 zL zI (own_pb n) gL gI ∧ own_Lf L (own_pb n) (fun q => q) gL gO) (Own.FE s ({ frames := 1, cells := 0, slots := 0, locals := 18 } : Room).cells ({ frames := 1, cells := 0, slots := 0, locals := 18 } : Room).slots) (Tq.setTop (mkF m 7 #[.val (.ref t), .val (.ref it), .val (.int (Own.N (st))), s3, s4, s5, .unset, .unset, .unset, .unset, .unset, .unset] [])) := by
    intro kk
    induction kk with
    | zero => intros; exfalso; omega
    | succ kk ihA =>
      intro jj st gL gO s3 s4 s5 o_s3 o_s4 o_s5 Tq Lq hq Xq eqq Nq Kq Sq IA hst hjj hk
      have zlq := Nat.le_trans Z0 Kq.1
      have Gf_289 := Ci.keep Kq (ninS ne_it_t (ninS ne_it_lb (ninS ne_it_ib (ninS ne_it_lo nin0))))
      obtain ⟨E_290, Fleaks_290, Fleaes_290, Finnks_290, Finnrs_290, FleaOf_290, Frooot_290, Fheiht_290, Fregar_290, Clb_290, Cib_290, Clo_290⟩ := Sq
      refine Own.iloadN 8 Xq hx (hb hby d3_7) rfl rfl ?_
      refine Own.aloadN 9 Xq hx (hb hby d3_8) rfl rfl rfl ?_
      refine Own.nLen 10 Xq hx hZ eqq Gf_289 (hb hby d3_9) rfl ?_
      refine Own.nicmp_ge 100 13 Xq hx (hb hby d3_10) (by decide) rfl (by omega) (by omega) (fun tkA => ?_) (fun tkA => ?_)
      ·
        obtain rfl : jj = L := by omega
        exact K100 _ _ _ _ _ _ o_s3 o_s4 o_s5 _ _ _ Xq eqq Nq Kq ⟨E_290, Fleaks_290, Fleaes_290, Finnks_290, Finnrs_290, FleaOf_290, Frooot_290, Fheiht_290, Fregar_290, Clb_290, Cib_290, Clo_290⟩ IA
      ·
        refine Own.aloadN 14 Xq hx (hb hby d3_13) rfl rfl rfl ?_
        refine Own.dup 15 Xq hx (hb hby d3_14) rfl rfl ?_
        refine Own.getFld 18 Xq hx hZ hown (host := "") (Or.inl (w 22 rfl)) Via.refl eqq Fleaes_290 (hb hby d3_15) rfl ?_
        intro T291 X291 e291
        refine Own.dupX1 19 X291 hx (hb hby d3_18) rfl rfl rfl ?_
        refine Own.iconst 20 X291 hx (Own.N 1) (hb hby d3_19) rfl rfl ?_
        refine Own.iadd 21 X291 hx (hb hby d3_20) rfl (Own.N_add _ _) ?_
        refine Own.putFld 24 X291 hx hZ hown (host := "") (Or.inl (w 22 rfl)) Via.refl e291 Fleaes_290 E_290 (Or.inl (w 23 rfl)) (w 3 rfl) (ty := .int) (by decide) rfl rfl (hb hby d3_21) rfl ?_
        intro T292 h292 X292 e292 W292
        have N292 := Fr.snoc X292 Nq g_t
        have Ef_294 := E_290.wr W292
        have Ff_295 := Fleaks_290.other W292 (Or.inr (slot_ne (Or.inr (w 13 rfl)) (Or.inl (w 23 rfl)) (by decide) (t := (.array .int)) (t' := .int) (by decide) (by decide)))
        have Ff_296 := Fleaes_290.same W292
        have Ff_297 := Finnks_290.other W292 (Or.inr (slot_ne (Or.inl (w 15 rfl)) (Or.inl (w 23 rfl)) (by decide) (t := (.array .int)) (t' := .int) (by decide) (by decide)))
        have Ff_298 := Finnrs_290.other W292 (Or.inr (slot_ne (Or.inl (w 33 rfl)) (Or.inl (w 23 rfl)) (by decide) (t := .int) (t' := .int) (by decide) (by decide)))
        have Ff_299 := FleaOf_290.other W292 (Or.inr (slot_ne (Or.inr (w 17 rfl)) (Or.inl (w 23 rfl)) (by decide) (t := (.array .int)) (t' := .int) (by decide) (by decide)))
        have Ff_300 := Frooot_290.other W292 (Or.inr (slot_ne (Or.inl (w 45 rfl)) (Or.inl (w 23 rfl)) (by decide) (t := .int) (t' := .int) (by decide) (by decide)))
        have Ff_301 := Fheiht_290.other W292 (Or.inr (slot_ne (Or.inl (w 35 rfl)) (Or.inl (w 23 rfl)) (by decide) (t := .int) (t' := .int) (by decide) (by decide)))
        have Ff_302 := Fregar_290.other W292 (Or.inr (slot_ne (Or.inl (w 47 rfl)) (Or.inl (w 23 rfl)) (by decide) (t := .boolean) (t' := .int) (by decide) (by decide)))
        have Cf_303 := Gf_289.other W292 ne_it_t
        have Cf_304 := Clb_290.other W292 (Ne.symm ne_t_lb)
        have Cf_305 := Cib_290.other W292 (Ne.symm ne_t_ib)
        have Cf_306 := Clo_290.other W292 (Ne.symm ne_t_lo)
        have zl292 := Nat.le_trans zlq (Nat.le_of_eq W292.size.symm)
        have K292 := Kq.wr W292 (Or.inl (List.mem_of_getElem? (i := 0) rfl))
        refine Own.istoreNV 25 #[.val (.ref t), .val (.ref it), .val (.int (Own.N (st))), .val (.int (Own.N (jj))), s4, s5, .unset, .unset, .unset, .unset, .unset, .unset] X292 hx (hb hby d3_24) rfl (by rcases o_s3 with q9 | ⟨x9, q9⟩ <;> (subst q9; rfl)) ?_
        refine Own.bipush 27 X292 hx (Own.N 30) (hb hby d3_25) rfl rfl ?_
        refine Own.aloadN 28 X292 hx (hb hby d3_27) rfl rfl rfl ?_
        refine Own.nLen 29 X292 hx hZ e292 Cf_303 (hb hby d3_28) rfl ?_
        refine Own.iloadN 30 X292 hx (hb hby d3_29) rfl rfl ?_
        refine Own.isub 31 X292 hx (hb hby d3_30) rfl (Own.N_sub (by omega)) ?_
        refine Own.callSt 34 0 [(.int (Own.N (30))), (.int (Own.N (n - st)))] [] X292 hx hZ hown (m4 l Z a0 w (30) (n - st) _ (by omega) (by omega)) (w 24 rfl) (w 25 rfl) (w 26 rfl) (w 27 rfl) (by decide) e292 (by decide) (by decide) (by decide) (by decide) (by rw [hml]; rfl) (lenOf pd_3 rfl) rfl (Nat.le_of_eq rfl) (hb hby d3_31) rfl ?_
        rintro vv T307 L307 X307 ⟨rfl, hh307, rfl⟩
        have N307 := Fr.app N292 (Fr.nil _)
        refine Own.istoreV 36 #[.val (.ref t), .val (.ref it), .val (.int (Own.N (st))), .val (.int (Own.N (jj))), .val (.int (Own.N (min 30 (n - st)))), s5, .unset, .unset, .unset, .unset, .unset, .unset] X307 hx (hb hby d3_34) rfl (by rcases o_s4 with q9 | ⟨x9, q9⟩ <;> (subst q9; rfl)) ?_
        refine Own.aloadN 37 X307 hx (hb hby d3_36) rfl rfl rfl ?_
        refine Own.iloadN 38 X307 hx (hb hby d3_37) rfl rfl ?_
        refine Own.aloadN 39 X307 hx (hb hby d3_38) rfl rfl rfl ?_
        refine Own.getFld 42 X307 hx hZ hown (host := "") (Or.inl (w 12 rfl)) Via.refl hh307 Ff_295 (hb hby d3_39) rfl ?_
        intro T308 X308 e308
        refine Own.iloadN 43 X308 hx (hb hby d3_42) rfl rfl ?_
        refine Own.bipush 45 X308 hx (Own.N 64) (hb hby d3_43) rfl rfl ?_
        refine Own.imul 46 X308 hx (hb hby d3_45) rfl (Own.N_mul _ _) ?_
        refine Own.iconst 47 X308 hx (Own.N 3) (hb hby d3_46) rfl rfl ?_
        refine Own.iadd 48 X308 hx (hb hby d3_47) rfl (Own.N_add _ _) ?_
        refine Own.iload 50 X308 hx (hb hby d3_48) rfl rfl ?_
        refine Own.nCopy 53 0 X308 hx hZ hown (w 28 rfl) (w 31 rfl) (w 29 rfl) (w 30 rfl) e308 Cf_303 Cf_304 (by omega) (by omega) N307 g_lb (by rw [hml]; rfl) (hb hby d3_50) rfl (by decide) (Nat.le_of_eq rfl) (by decide) ?_
        intro T309 h309 L309 X309 e309 N309 K309 C309
        have Ef_311 := Ef_294.keep K309
        have Ff_312 := Ff_295.keep K309 (ninS ne_t_lb nin0)
        have Ff_313 := Ff_296.keep K309 (ninS ne_t_lb nin0)
        have Ff_314 := Ff_297.keep K309 (ninS ne_t_lb nin0)
        have Ff_315 := Ff_298.keep K309 (ninS ne_t_lb nin0)
        have Ff_316 := Ff_299.keep K309 (ninS ne_t_lb nin0)
        have Ff_317 := Ff_300.keep K309 (ninS ne_t_lb nin0)
        have Ff_318 := Ff_301.keep K309 (ninS ne_t_lb nin0)
        have Ff_319 := Ff_302.keep K309 (ninS ne_t_lb nin0)
        have Cf_320 := Cf_303.keep K309 (ninS ne_it_lb nin0)
        have Cf_321 := Cf_305.keep K309 (ninS (Ne.symm ne_lb_ib) nin0)
        have Cf_322 := Cf_306.keep K309 (ninS (Ne.symm ne_lb_lo) nin0)
        have KK309 := K292.trans K309 (allS (Or.inl (List.mem_of_getElem? (i := 1) rfl)) all0)
        have zl309 := Nat.le_trans zl292 K309.1
        refine Own.aloadN 54 X309 hx (hb hby d3_53) rfl rfl rfl ?_
        refine Own.getFld 57 X309 hx hZ hown (host := "") (Or.inl (w 12 rfl)) Via.refl e309 Ff_312 (hb hby d3_54) rfl ?_
        intro T323 X323 e323
        refine Own.iloadN 58 X323 hx (hb hby d3_57) rfl rfl ?_
        refine Own.bipush 60 X323 hx (Own.N 64) (hb hby d3_58) rfl rfl ?_
        refine Own.imul 61 X323 hx (hb hby d3_60) rfl (Own.N_mul _ _) ?_
        refine Own.iconst 62 X323 hx (Own.N 2) (hb hby d3_61) rfl rfl ?_
        refine Own.iadd 63 X323 hx (hb hby d3_62) rfl (Own.N_add _ _) ?_
        refine Own.iload 65 X323 hx (hb hby d3_63) rfl rfl ?_
        refine Own.nStore 66 X323 hx hZ e323 C309 (by omega) (hb hby d3_65) rfl ?_
        intro T324 h324 X324 e324 W324 C324
        have N324 := Fr.snoc X324 N309 g_lb
        have Ef_326 := Ef_311.wr W324
        have Ff_327 := Ff_312.other W324 (Or.inl ne_t_lb)
        have Ff_328 := Ff_313.other W324 (Or.inl ne_t_lb)
        have Ff_329 := Ff_314.other W324 (Or.inl ne_t_lb)
        have Ff_330 := Ff_315.other W324 (Or.inl ne_t_lb)
        have Ff_331 := Ff_316.other W324 (Or.inl ne_t_lb)
        have Ff_332 := Ff_317.other W324 (Or.inl ne_t_lb)
        have Ff_333 := Ff_318.other W324 (Or.inl ne_t_lb)
        have Ff_334 := Ff_319.other W324 (Or.inl ne_t_lb)
        have Cf_335 := Cf_320.other W324 ne_it_lb
        have Cf_336 := Cf_321.other W324 (Ne.symm ne_lb_ib)
        have Cf_337 := Cf_322.other W324 (Ne.symm ne_lb_lo)
        have zl324 := Nat.le_trans zl309 (Nat.le_of_eq W324.size.symm)
        have K324 := KK309.wr W324 (Or.inl (List.mem_of_getElem? (i := 1) rfl))
        refine Own.iloadN 67 X324 hx (hb hby d3_66) rfl rfl ?_
        refine Own.istoreV 69 #[.val (.ref t), .val (.ref it), .val (.int (Own.N (st))), .val (.int (Own.N (jj))), .val (.int (Own.N (min 30 (n - st)))), .val (.int (Own.N (st))), .unset, .unset, .unset, .unset, .unset, .unset] X324 hx (hb hby d3_67) rfl (by rcases o_s5 with q9 | ⟨x9, q9⟩ <;> (subst q9; rfl)) ?_
        have JB : ∀ (kk k5 : Nat) (gO1 : Nat → Int32) (Tq : State) (Lq : List Loc) (hq : Heap) (Xq : Stand p l e ({ frames := 1, cells := 0, slots := 0, locals := 18 } : Room) s m #[(.ref t), (.ref it)] below meth c Tq Lq 0 0) (eqq : Tq.heap = hq) (Nq : Fr n0 Lq) (Kq : Keep h0 hq [t, lb, ib, lo]) (Sq : own_S Z hq t lb ib lo (jj + 1) inn rt ht rg zL zI zO (Own.upd (Own.cpy fT (st) gL ((jj * 64) + 3) (min 30 (n - st))) ((jj * 64) + 2) (Own.N (min 30 (n - st)))) fI gO1) (hO1 : ∀ i, i < k5 → gO1 i = Own.N (i / 30)) (h5 : st ≤ k5) (h5' : k5 ≤ st + (min 30 (n - st))) (hk : st + (min 30 (n - st)) - k5 < kk), Own.Ends p.tables e below (fun v h L' => v = none ∧ Fr n0 L' ∧ Keep h0 h [t, lb, ib, lo] ∧ ∃ gL gI gO, own_S Z h t lb ib lo L ((L + 30) / 31 + 1) ((L + 30) / 31) 2 1 zL zI zO gL gI gO ∧ own_T L n 30 ((L + 30) / 31) 2 1 zL zI (own_pb n) gL gI ∧ own_Lf L (own_pb n) (fun q => q) gL gO) (Own.FE s ({ frames := 1, cells := 0, slots := 0, locals := 18 } : Room).cells ({ frames := 1, cells := 0, slots := 0, locals := 18 } : Room).slots) (Tq.setTop (mkF m 69 #[.val (.ref t), .val (.ref it), .val (.int (Own.N (st))), .val (.int (Own.N (jj))), .val (.int (Own.N (min 30 (n - st)))), .val (.int (Own.N (k5))), .unset, .unset, .unset, .unset, .unset, .unset] [])) := by
          intro kk
          induction kk with
          | zero => intros; exfalso; omega
          | succ kk ihB =>
            intro k5 gO1 Tq Lq hq Xq eqq Nq Kq Sq hO1 h5 h5' hk
            have zlq := Nat.le_trans Z0 Kq.1
            have Gf_339 := Ci.keep Kq (ninS ne_it_t (ninS ne_it_lb (ninS ne_it_ib (ninS ne_it_lo nin0))))
            obtain ⟨E_340, Fleaks_340, Fleaes_340, Finnks_340, Finnrs_340, FleaOf_340, Frooot_340, Fheiht_340, Fregar_340, Clb_340, Cib_340, Clo_340⟩ := Sq
            refine Own.iload 71 Xq hx (hb hby d3_69) rfl rfl ?_
            refine Own.iloadN 72 Xq hx (hb hby d3_71) rfl rfl ?_
            refine Own.iload 74 Xq hx (hb hby d3_72) rfl rfl ?_
            refine Own.iadd 75 Xq hx (hb hby d3_74) rfl (Own.N_add _ _) ?_
            refine Own.nicmp_ge 94 78 Xq hx (hb hby d3_75) (by decide) rfl (by omega) (by omega) (fun tkB => ?_) (fun tkB => ?_)
            ·
              refine Own.iinc 97 (fun c_341 => #[.val (.ref t), .val (.ref it), .val (.int c_341), .val (.int (Own.N (jj))), .val (.int (Own.N (min 30 (n - st)))), .val (.int (Own.N (k5))), .unset, .unset, .unset, .unset, .unset, .unset]) Xq hx (Own.N 30) (hb hby d3_94) rfl rfl rfl (fun _ => rfl) fun c_341 hc_341 => ?_
              obtain rfl : c_341 = Own.N (st + 30) := hc_341.trans (Own.N_add _ _)
              refine Own.goto 7 Xq hx (hb hby d3_97) (by decide) ?_
              exact ihA (jj + 1) _ _ _ _ _ _ (Or.inr ⟨_, rfl⟩) (Or.inr ⟨_, rfl⟩) (Or.inr ⟨_, rfl⟩) _ _ _ Xq eqq Nq Kq ⟨E_340, Fleaks_340, Fleaes_340, Finnks_340, Finnrs_340, FleaOf_340, Frooot_340, Fheiht_340, Fregar_340, Clb_340, Cib_340, Clo_340⟩ (own_A_step IA (by omega) (by omega) (by omega) (by omega) (by omega) hF (fun i hi => hO1 i (by omega))) (by omega) (by omega) (by omega)
            ·
              refine Own.aloadN 79 Xq hx (hb hby d3_78) rfl rfl rfl ?_
              refine Own.getFld 82 Xq hx hZ hown (host := "") (Or.inl (w 16 rfl)) Via.refl eqq FleaOf_340 (hb hby d3_79) rfl ?_
              intro T342 X342 e342
              refine Own.aloadN 83 X342 hx (hb hby d3_82) rfl rfl rfl ?_
              refine Own.iload 85 X342 hx (hb hby d3_83) rfl rfl ?_
              refine Own.nLoad 86 (Own.N (k5)) X342 hx hZ e342 Gf_339 (by omega) (hF k5 (by omega)) (hb hby d3_85) rfl ?_
              refine Own.iloadN 87 X342 hx (hb hby d3_86) rfl rfl ?_
              refine Own.nStore 88 X342 hx hZ e342 Clo_340 (by omega) (hb hby d3_87) rfl ?_
              intro T343 h343 X343 e343 W343 C343
              have N343 := Fr.snoc X343 Nq g_lo
              have Ef_345 := E_340.wr W343
              have Ff_346 := Fleaks_340.other W343 (Or.inl ne_t_lo)
              have Ff_347 := Fleaes_340.other W343 (Or.inl ne_t_lo)
              have Ff_348 := Finnks_340.other W343 (Or.inl ne_t_lo)
              have Ff_349 := Finnrs_340.other W343 (Or.inl ne_t_lo)
              have Ff_350 := FleaOf_340.other W343 (Or.inl ne_t_lo)
              have Ff_351 := Frooot_340.other W343 (Or.inl ne_t_lo)
              have Ff_352 := Fheiht_340.other W343 (Or.inl ne_t_lo)
              have Ff_353 := Fregar_340.other W343 (Or.inl ne_t_lo)
              have Cf_354 := Gf_339.other W343 ne_it_lo
              have Cf_355 := Clb_340.other W343 ne_lb_lo
              have Cf_356 := Cib_340.other W343 ne_ib_lo
              have zl343 := Nat.le_trans zlq (Nat.le_of_eq W343.size.symm)
              have K343 := Kq.wr W343 (Or.inl (List.mem_of_getElem? (i := 3) rfl))
              refine Own.iinc 91 (fun c_358 => #[.val (.ref t), .val (.ref it), .val (.int (Own.N (st))), .val (.int (Own.N (jj))), .val (.int (Own.N (min 30 (n - st)))), .val (.int c_358), .unset, .unset, .unset, .unset, .unset, .unset]) X343 hx (Own.N 1) (hb hby d3_88) rfl rfl rfl (fun _ => rfl) fun c_358 hc_358 => ?_
              obtain rfl : c_358 = Own.N (k5 + 1) := hc_358.trans (Own.N_add _ _)
              refine Own.goto 69 X343 hx (hb hby d3_91) (by decide) ?_
              exact ihB (k5 + 1) _ _ _ _ X343 e343 N343 K343 ⟨Ef_345, Ff_346, Ff_347, Ff_348, Ff_349, Ff_350, Ff_351, Ff_352, Ff_353, Cf_355, Cf_356, C343⟩ (fun i hi => by
                  by_cases c9 : i = k5
                  · rw [Own.upd_hit c9]; congr 1; omega
                  · rw [Own.upd_miss c9]; exact hO1 i (by omega)) (by omega) (by omega) (by omega)
        exact JB ((min 30 (n - st)) + 1) st _ _ _ _ X324 e324 N324 K324 ⟨Ef_326, Ff_327, Ff_328, Ff_329, Ff_330, Ff_331, Ff_332, Ff_333, Ff_334, C324, Cf_336, Cf_337⟩ (fun i hi => IA.2 i (by omega) (by omega)) (by omega) (by omega) (by omega)
  refine Own.aloadN 1 X0 hx (hb hby d3_0) rfl rfl rfl ?_
  refine Own.iconst 2 X0 hx (Own.N 0) (hb hby d3_1) rfl rfl ?_
  refine Own.putFld 5 X0 hx hZ hown (host := "") (Or.inl (w 22 rfl)) Via.refl e0 Fleaes_0 E_0 (Or.inl (w 23 rfl)) (w 3 rfl) (ty := .int) (by decide) rfl rfl (hb hby d3_2) rfl ?_
  intro T359 h359 X359 e359 W359
  have N359 := Fr.snoc X359 N0 g_t
  have Ef_361 := E_0.wr W359
  have Ff_362 := Fleaks_0.other W359 (Or.inr (slot_ne (Or.inr (w 13 rfl)) (Or.inl (w 23 rfl)) (by decide) (t := (.array .int)) (t' := .int) (by decide) (by decide)))
  have Ff_363 := Fleaes_0.same W359
  have Ff_364 := Finnks_0.other W359 (Or.inr (slot_ne (Or.inl (w 15 rfl)) (Or.inl (w 23 rfl)) (by decide) (t := (.array .int)) (t' := .int) (by decide) (by decide)))
  have Ff_365 := Finnrs_0.other W359 (Or.inr (slot_ne (Or.inl (w 33 rfl)) (Or.inl (w 23 rfl)) (by decide) (t := .int) (t' := .int) (by decide) (by decide)))
  have Ff_366 := FleaOf_0.other W359 (Or.inr (slot_ne (Or.inr (w 17 rfl)) (Or.inl (w 23 rfl)) (by decide) (t := (.array .int)) (t' := .int) (by decide) (by decide)))
  have Ff_367 := Frooot_0.other W359 (Or.inr (slot_ne (Or.inl (w 45 rfl)) (Or.inl (w 23 rfl)) (by decide) (t := .int) (t' := .int) (by decide) (by decide)))
  have Ff_368 := Fheiht_0.other W359 (Or.inr (slot_ne (Or.inl (w 35 rfl)) (Or.inl (w 23 rfl)) (by decide) (t := .int) (t' := .int) (by decide) (by decide)))
  have Ff_369 := Fregar_0.other W359 (Or.inr (slot_ne (Or.inl (w 47 rfl)) (Or.inl (w 23 rfl)) (by decide) (t := .boolean) (t' := .int) (by decide) (by decide)))
  have Cf_370 := Clb_0.other W359 (Ne.symm ne_t_lb)
  have Cf_371 := Cib_0.other W359 (Ne.symm ne_t_ib)
  have Cf_372 := Clo_0.other W359 (Ne.symm ne_t_lo)
  have Cf_373 := Ci.other W359 ne_it_t
  have zl359 := Nat.le_trans Z0 (Nat.le_of_eq W359.size.symm)
  have K359 := (Keep.refl h0 [t, lb, ib, lo]).wr W359 (Or.inl (List.mem_of_getElem? (i := 0) rfl))
  refine Own.iconst 6 X359 hx (Own.N 0) (hb hby d3_5) rfl rfl ?_
  refine Own.istoreNV 7 #[.val (.ref t), .val (.ref it), .val (.int (Own.N (0))), .unset, .unset, .unset, .unset, .unset, .unset, .unset, .unset, .unset] X359 hx (hb hby d3_6) rfl rfl ?_
  exact JA (L + 1) 0 _ _ _ _ _ _ (Or.inl rfl) (Or.inl rfl) (Or.inl rfl) _ _ _ X359 e359 N359 K359 ⟨Ef_361, Ff_362, Ff_363, Ff_364, Ff_365, Ff_366, Ff_367, Ff_368, Ff_369, Cf_370, Cf_371, Cf_372⟩ ⟨fun i hi => absurd hi (by omega), fun i hi => absurd hi (by omega)⟩ (by omega) (by omega) (by omega)
theorem d16_0 : decode prog_32_method_9_code 0 = .ok (.aload_n 0, 1) := by decide +kernel
theorem d16_1 : decode prog_32_method_9_code 1 = .ok (.getfield 26, 3) := by decide +kernel
theorem d16_4 : decode prog_32_method_9_code 4 = .ok (.iload_n 1, 1) := by decide +kernel
theorem d16_5 : decode prog_32_method_9_code 5 = .ok (.iaload, 1) := by decide +kernel
theorem d16_6 : decode prog_32_method_9_code 6 = .ok (.istore_n 2, 1) := by decide +kernel
theorem d16_7 : decode prog_32_method_9_code 7 = .ok (.aload_n 0, 1) := by decide +kernel
theorem d16_8 : decode prog_32_method_9_code 8 = .ok (.iload_n 1, 1) := by decide +kernel
theorem d16_9 : decode prog_32_method_9_code 9 = .ok (.invokevirtual 37, 3) := by decide +kernel
theorem d16_12 : decode prog_32_method_9_code 12 = .ok (.istore_n 3, 1) := by decide +kernel
theorem d16_13 : decode prog_32_method_9_code 13 = .ok (.iload_n 2, 1) := by decide +kernel
theorem d16_14 : decode prog_32_method_9_code 14 = .ok (.bipush 64, 2) := by decide +kernel
theorem d16_16 : decode prog_32_method_9_code 16 = .ok (.imul, 1) := by decide +kernel
theorem d16_17 : decode prog_32_method_9_code 17 = .ok (.iconst 3, 1) := by decide +kernel
theorem d16_18 : decode prog_32_method_9_code 18 = .ok (.iadd, 1) := by decide +kernel
theorem d16_19 : decode prog_32_method_9_code 19 = .ok (.aload_n 0, 1) := by decide +kernel
theorem d16_20 : decode prog_32_method_9_code 20 = .ok (.getfield 19, 3) := by decide +kernel
theorem d16_23 : decode prog_32_method_9_code 23 = .ok (.iload_n 2, 1) := by decide +kernel
theorem d16_24 : decode prog_32_method_9_code 24 = .ok (.bipush 64, 2) := by decide +kernel
theorem d16_26 : decode prog_32_method_9_code 26 = .ok (.imul, 1) := by decide +kernel
theorem d16_27 : decode prog_32_method_9_code 27 = .ok (.iconst 2, 1) := by decide +kernel
theorem d16_28 : decode prog_32_method_9_code 28 = .ok (.iadd, 1) := by decide +kernel
theorem d16_29 : decode prog_32_method_9_code 29 = .ok (.iaload, 1) := by decide +kernel
theorem d16_30 : decode prog_32_method_9_code 30 = .ok (.iadd, 1) := by decide +kernel
theorem d16_31 : decode prog_32_method_9_code 31 = .ok (.istore 4, 2) := by decide +kernel
theorem d16_33 : decode prog_32_method_9_code 33 = .ok (.aload_n 0, 1) := by decide +kernel
theorem d16_34 : decode prog_32_method_9_code 34 = .ok (.getfield 19, 3) := by decide +kernel
theorem d16_37 : decode prog_32_method_9_code 37 = .ok (.iload_n 3, 1) := by decide +kernel
theorem d16_38 : decode prog_32_method_9_code 38 = .ok (.iconst 1, 1) := by decide +kernel
theorem d16_39 : decode prog_32_method_9_code 39 = .ok (.iadd, 1) := by decide +kernel
theorem d16_40 : decode prog_32_method_9_code 40 = .ok (.aload_n 0, 1) := by decide +kernel
theorem d16_41 : decode prog_32_method_9_code 41 = .ok (.getfield 19, 3) := by decide +kernel
theorem d16_44 : decode prog_32_method_9_code 44 = .ok (.iload_n 3, 1) := by decide +kernel
theorem d16_45 : decode prog_32_method_9_code 45 = .ok (.iload 4, 2) := by decide +kernel
theorem d16_47 : decode prog_32_method_9_code 47 = .ok (.iload_n 3, 1) := by decide +kernel
theorem d16_48 : decode prog_32_method_9_code 48 = .ok (.isub, 1) := by decide +kernel
theorem d16_49 : decode prog_32_method_9_code 49 = .ok (.iconst 1, 1) := by decide +kernel
theorem d16_50 : decode prog_32_method_9_code 50 = .ok (.isub, 1) := by decide +kernel
theorem d16_51 : decode prog_32_method_9_code 51 = .ok (.invokestatic 65, 3) := by decide +kernel
theorem d16_54 : decode prog_32_method_9_code 54 = .ok (.aload_n 0, 1) := by decide +kernel
theorem d16_55 : decode prog_32_method_9_code 55 = .ok (.getfield 19, 3) := by decide +kernel
theorem d16_58 : decode prog_32_method_9_code 58 = .ok (.iload_n 2, 1) := by decide +kernel
theorem d16_59 : decode prog_32_method_9_code 59 = .ok (.bipush 64, 2) := by decide +kernel
theorem d16_61 : decode prog_32_method_9_code 61 = .ok (.imul, 1) := by decide +kernel
theorem d16_62 : decode prog_32_method_9_code 62 = .ok (.iconst 2, 1) := by decide +kernel
theorem d16_63 : decode prog_32_method_9_code 63 = .ok (.iadd, 1) := by decide +kernel
theorem d16_64 : decode prog_32_method_9_code 64 = .ok (.dup2, 1) := by decide +kernel
theorem d16_65 : decode prog_32_method_9_code 65 = .ok (.iaload, 1) := by decide +kernel
theorem d16_66 : decode prog_32_method_9_code 66 = .ok (.iconst 1, 1) := by decide +kernel
theorem d16_67 : decode prog_32_method_9_code 67 = .ok (.isub, 1) := by decide +kernel
theorem d16_68 : decode prog_32_method_9_code 68 = .ok (.iastore, 1) := by decide +kernel
theorem d16_69 : decode prog_32_method_9_code 69 = .ok (.aload_n 0, 1) := by decide +kernel
theorem d16_70 : decode prog_32_method_9_code 70 = .ok (.getfield 19, 3) := by decide +kernel
theorem d16_73 : decode prog_32_method_9_code 73 = .ok (.iload_n 2, 1) := by decide +kernel
theorem d16_74 : decode prog_32_method_9_code 74 = .ok (.bipush 64, 2) := by decide +kernel
theorem d16_76 : decode prog_32_method_9_code 76 = .ok (.imul, 1) := by decide +kernel
theorem d16_77 : decode prog_32_method_9_code 77 = .ok (.iconst 0, 1) := by decide +kernel
theorem d16_78 : decode prog_32_method_9_code 78 = .ok (.iadd, 1) := by decide +kernel
theorem d16_79 : decode prog_32_method_9_code 79 = .ok (.iaload, 1) := by decide +kernel
theorem d16_80 : decode prog_32_method_9_code 80 = .ok (.istore 5, 2) := by decide +kernel
theorem d16_82 : decode prog_32_method_9_code 82 = .ok (.aload_n 0, 1) := by decide +kernel
theorem d16_83 : decode prog_32_method_9_code 83 = .ok (.getfield 19, 3) := by decide +kernel
theorem d16_86 : decode prog_32_method_9_code 86 = .ok (.iload_n 2, 1) := by decide +kernel
theorem d16_87 : decode prog_32_method_9_code 87 = .ok (.bipush 64, 2) := by decide +kernel
theorem d16_89 : decode prog_32_method_9_code 89 = .ok (.imul, 1) := by decide +kernel
theorem d16_90 : decode prog_32_method_9_code 90 = .ok (.iconst 1, 1) := by decide +kernel
theorem d16_91 : decode prog_32_method_9_code 91 = .ok (.iadd, 1) := by decide +kernel
theorem d16_92 : decode prog_32_method_9_code 92 = .ok (.iaload, 1) := by decide +kernel
theorem d16_93 : decode prog_32_method_9_code 93 = .ok (.istore 6, 2) := by decide +kernel
theorem d16_95 : decode prog_32_method_9_code 95 = .ok (.iload 5, 2) := by decide +kernel
theorem d16_97 : decode prog_32_method_9_code 97 = .ok (.iconst (-1), 1) := by decide +kernel
theorem d16_98 : decode prog_32_method_9_code 98 = .ok (.if_icmp .eq 52, 3) := by decide +kernel
theorem d16_101 : decode prog_32_method_9_code 101 = .ok (.iload 5, 2) := by decide +kernel
theorem d16_103 : decode prog_32_method_9_code 103 = .ok (.sipush 128, 3) := by decide +kernel
theorem d16_106 : decode prog_32_method_9_code 106 = .ok (.imul, 1) := by decide +kernel
theorem d16_107 : decode prog_32_method_9_code 107 = .ok (.istore 7, 2) := by decide +kernel
theorem d16_109 : decode prog_32_method_9_code 109 = .ok (.aload_n 0, 1) := by decide +kernel
theorem d16_110 : decode prog_32_method_9_code 110 = .ok (.getfield 23, 3) := by decide +kernel
theorem d16_113 : decode prog_32_method_9_code 113 = .ok (.iload 7, 2) := by decide +kernel
theorem d16_115 : decode prog_32_method_9_code 115 = .ok (.iconst 3, 1) := by decide +kernel
theorem d16_116 : decode prog_32_method_9_code 116 = .ok (.iadd, 1) := by decide +kernel
theorem d16_117 : decode prog_32_method_9_code 117 = .ok (.iload 6, 2) := by decide +kernel
theorem d16_119 : decode prog_32_method_9_code 119 = .ok (.iadd, 1) := by decide +kernel
theorem d16_120 : decode prog_32_method_9_code 120 = .ok (.dup2, 1) := by decide +kernel
theorem d16_121 : decode prog_32_method_9_code 121 = .ok (.iaload, 1) := by decide +kernel
theorem d16_122 : decode prog_32_method_9_code 122 = .ok (.iconst 1, 1) := by decide +kernel
theorem d16_123 : decode prog_32_method_9_code 123 = .ok (.isub, 1) := by decide +kernel
theorem d16_124 : decode prog_32_method_9_code 124 = .ok (.iastore, 1) := by decide +kernel
theorem d16_125 : decode prog_32_method_9_code 125 = .ok (.aload_n 0, 1) := by decide +kernel
theorem d16_126 : decode prog_32_method_9_code 126 = .ok (.getfield 23, 3) := by decide +kernel
theorem d16_129 : decode prog_32_method_9_code 129 = .ok (.iload 7, 2) := by decide +kernel
theorem d16_131 : decode prog_32_method_9_code 131 = .ok (.iconst 1, 1) := by decide +kernel
theorem d16_132 : decode prog_32_method_9_code 132 = .ok (.iadd, 1) := by decide +kernel
theorem d16_133 : decode prog_32_method_9_code 133 = .ok (.iaload, 1) := by decide +kernel
theorem d16_134 : decode prog_32_method_9_code 134 = .ok (.istore 6, 2) := by decide +kernel
theorem d16_136 : decode prog_32_method_9_code 136 = .ok (.aload_n 0, 1) := by decide +kernel
theorem d16_137 : decode prog_32_method_9_code 137 = .ok (.getfield 23, 3) := by decide +kernel
theorem d16_140 : decode prog_32_method_9_code 140 = .ok (.iload 7, 2) := by decide +kernel
theorem d16_142 : decode prog_32_method_9_code 142 = .ok (.iconst 0, 1) := by decide +kernel
theorem d16_143 : decode prog_32_method_9_code 143 = .ok (.iadd, 1) := by decide +kernel
theorem d16_144 : decode prog_32_method_9_code 144 = .ok (.iaload, 1) := by decide +kernel
theorem d16_145 : decode prog_32_method_9_code 145 = .ok (.istore 5, 2) := by decide +kernel
theorem d16_147 : decode prog_32_method_9_code 147 = .ok (.goto (-52), 3) := by decide +kernel
theorem d16_150 : decode prog_32_method_9_code 150 = .ok (.return_, 1) := by decide +kernel
set_option maxRecDepth 65536 in
set_option maxHeartbeats 40000000 in
theorem m16 (l : Launch) (Z : State) (a0 : Array Value) (w : ∀ (i : Nat) {d : Jvm.Cond}, tables_1[i]? = some d → d.before a0 Z = true) (t : Addr) (lb ib lo : Addr) (lv inn rt ht zL zI zO n0 : Nat) (fL fI fO : Nat → Int32)(i q L n' : Nat) (pre ord : Nat → Nat) (h0 : Heap) (Z0 : n0 ≤ h0.size) (D0 : own_D n0 t lb ib lo) (S0 : own_S Z h0 t lb ib lo lv inn rt ht 0 zL zI zO fL fI fO)(TT : own_T L n' 30 rt ht 0 zL zI pre fL fI)(O : own_Or n' zO ord) (Lf : own_Lf L pre ord fL fO)(bz : zO < 1000000) (hq : q < n') (hi : ord q = i) :
    Own.Met l Z (⟨"com/example/frontrank/frontrank/OrderTree", "remove", "(I)V"⟩ : MethodName) prog_32_method_9_code 8 none [] ({ frames := 1, cells := 0, slots := 0, locals := 18 } : Room) #[(.ref t), (.int (Own.N (i)))] h0 (fun v h L' => v = none ∧ Fr n0 L' ∧ Keep h0 h [t, lb, ib, lo] ∧ ∃ pre' fL' fI', own_S Z h t lb ib lo lv inn rt ht 0 zL zI zO fL' fI' fO ∧ own_T L (n' - 1) 30 rt ht 0 zL zI pre' fL' fI' ∧ own_Lf L pre' (own_rmO ord q) fL' fO) := by
  refine Own.Met.of (plainFor_of_name (by first | (simp [plainName, overriddenIn]; done) | decide +kernel)) ?_
  intro p e s m below meth c T0 hx hby hml hown hnm hret hlk hZ X0 e0
  have hown : s.vm.findClass "com/example/frontrank/frontrank/OrderTree" = some m.cls := hown
  have hml : c.maxLocals = 8 := hml
  have hnm : meth.name = "remove" := hnm
  have ef : entryFrame m #[(.ref t), (.int (Own.N (i)))] 8 = mkF m 0 #[.val (.ref t), .val (.int (Own.N (i))), .unset, .unset, .unset, .unset, .unset, .unset] [] := by first | (simp [entryFrame, mkF, argsToLocals, Value.category]; done) | rfl
  rw [ef]
  have N0 := Fr.nil n0
  have D00 := D0
  obtain ⟨ne_t_lb, ne_t_ib, ne_t_lo, ne_lb_ib, ne_lb_lo, ne_ib_lo, g_t, g_lb, g_ib, g_lo⟩ := D0
  obtain ⟨E_0, Fleaks_0, Fleaes_0, Finnks_0, Finnrs_0, FleaOf_0, Frooot_0, Fheiht_0, Fregar_0, Clb_0, Cib_0, Clo_0⟩ := S0
  obtain ⟨P, hB, hL1, hL2, hn', hT, hR, hzI, hzI2, hzL, hzL2⟩ := TT
  obtain ⟨jj, hj, f1, f2⟩ := own_find P hq
  have bd := own_bound P (j := jj + 1) (by omega)
  have p0 := P.1
  have pj := P.2.2 jj hj
  have hlf := (Lf jj hj).2 (q - pre jj) (by omega)
  rw [show pre jj + (q - pre jj) = q from by omega] at hlf
  have hoq := (O q hq).1
  have hlf2 := hlf.2
  rw [hi] at hlf2 hoq
  have hsz := (Lf jj hj).1
  refine Own.aloadN 1 X0 hx (hb hby d16_0) rfl rfl rfl ?_
  refine Own.getFld 4 X0 hx hZ hown (host := "") (Or.inl (w 16 rfl)) Via.refl e0 FleaOf_0 (hb hby d16_1) rfl ?_
  intro T1 X1 e1
  refine Own.iloadN 5 X1 hx (hb hby d16_4) rfl rfl ?_
  refine Own.nLoad 6 (Own.N (jj)) X1 hx hZ e1 Clo_0 (by omega) hlf2 (hb hby d16_5) rfl ?_
  refine Own.istoreNV 7 #[.val (.ref t), .val (.int (Own.N (i))), .val (.int (Own.N (jj))), .unset, .unset, .unset, .unset, .unset] X1 hx (hb hby d16_6) rfl rfl ?_
  refine Own.aloadN 8 X1 hx (hb hby d16_7) rfl rfl rfl ?_
  refine Own.iloadN 9 X1 hx (hb hby d16_8) rfl rfl ?_
  refine Own.callPr 12 0 t [(.int (Own.N (i)))] [] X1 hx hZ hown (m13 l Z a0 w t lb ib lo _ _ _ _ _ _ _ _ n0 _ _ _ i jj (q - pre jj) (fun s => ord (pre jj + s)) _ ⟨E_0, Fleaks_0, Fleaes_0, Finnks_0, Finnrs_0, FleaOf_0, Frooot_0, Fheiht_0, Fregar_0, Clb_0, Cib_0, Clo_0⟩ (by omega) (by omega) (by omega) (by omega) (by omega) hlf2 (fun s hs => ⟨((Lf jj hj).2 s (by omega)).1, fun hs2 r => absurd ((O _ (by omega)).2 q hq (r.trans hi.symm)) (by omega), by have := (O (pre jj + s) (by omega)).1; show ord (pre jj + s) < 1000000; omega⟩) (by show ord (pre jj + (q - pre jj)) = i; rw [show pre jj + (q - pre jj) = q from by omega]; exact hi)) E_0 (w 74 rfl) (w 76 rfl) (w 3 rfl) (w 75 rfl) (w 4 rfl) (w 77 rfl) (by decide) e1 (by decide) (by decide) (by decide) (by decide) (by rw [hml]; rfl) (lenOf pd_1 rfl) rfl (Nat.le_of_eq rfl) (hb hby d16_9) rfl ?_
  rintro vv T2 L2 X2 ⟨rfl, hh2, rfl⟩
  have N2 := Fr.app N0 (Fr.nil _)
  refine Own.istoreNV 13 #[.val (.ref t), .val (.int (Own.N (i))), .val (.int (Own.N (jj))), .val (.int (Own.N (jj * 64 + 3 + (q - pre jj)))), .unset, .unset, .unset, .unset] X2 hx (hb hby d16_12) rfl rfl ?_
  refine Own.iloadN 14 X2 hx (hb hby d16_13) rfl rfl ?_
  refine Own.bipush 16 X2 hx (Own.N 64) (hb hby d16_14) rfl rfl ?_
  refine Own.imul 17 X2 hx (hb hby d16_16) rfl (Own.N_mul _ _) ?_
  refine Own.iconst 18 X2 hx (Own.N 3) (hb hby d16_17) rfl rfl ?_
  refine Own.iadd 19 X2 hx (hb hby d16_18) rfl (Own.N_add _ _) ?_
  refine Own.aloadN 20 X2 hx (hb hby d16_19) rfl rfl rfl ?_
  refine Own.getFld 23 X2 hx hZ hown (host := "") (Or.inl (w 12 rfl)) Via.refl hh2 Fleaks_0 (hb hby d16_20) rfl ?_
  intro T3 X3 e3
  refine Own.iloadN 24 X3 hx (hb hby d16_23) rfl rfl ?_
  refine Own.bipush 26 X3 hx (Own.N 64) (hb hby d16_24) rfl rfl ?_
  refine Own.imul 27 X3 hx (hb hby d16_26) rfl (Own.N_mul _ _) ?_
  refine Own.iconst 28 X3 hx (Own.N 2) (hb hby d16_27) rfl rfl ?_
  refine Own.iadd 29 X3 hx (hb hby d16_28) rfl (Own.N_add _ _) ?_
  refine Own.nLoad 30 (Own.N (pre (jj + 1) - pre jj)) X3 hx hZ e3 Clb_0 (by omega) hsz (hb hby d16_29) rfl ?_
  refine Own.iadd 31 X3 hx (hb hby d16_30) rfl (Own.N_add _ _) ?_
  refine Own.istoreV 33 #[.val (.ref t), .val (.int (Own.N (i))), .val (.int (Own.N (jj))), .val (.int (Own.N (jj * 64 + 3 + (q - pre jj)))), .val (.int (Own.N (((jj * 64) + 3) + (pre (jj + 1) - pre jj)))), .unset, .unset, .unset] X3 hx (hb hby d16_31) rfl rfl ?_
  refine Own.aloadN 34 X3 hx (hb hby d16_33) rfl rfl rfl ?_
  refine Own.getFld 37 X3 hx hZ hown (host := "") (Or.inl (w 12 rfl)) Via.refl e3 Fleaks_0 (hb hby d16_34) rfl ?_
  intro T4 X4 e4
  refine Own.iloadN 38 X4 hx (hb hby d16_37) rfl rfl ?_
  refine Own.iconst 39 X4 hx (Own.N 1) (hb hby d16_38) rfl rfl ?_
  refine Own.iadd 40 X4 hx (hb hby d16_39) rfl (Own.N_add _ _) ?_
  refine Own.aloadN 41 X4 hx (hb hby d16_40) rfl rfl rfl ?_
  refine Own.getFld 44 X4 hx hZ hown (host := "") (Or.inl (w 12 rfl)) Via.refl e4 Fleaks_0 (hb hby d16_41) rfl ?_
  intro T5 X5 e5
  refine Own.iloadN 45 X5 hx (hb hby d16_44) rfl rfl ?_
  refine Own.iload 47 X5 hx (hb hby d16_45) rfl rfl ?_
  refine Own.iloadN 48 X5 hx (hb hby d16_47) rfl rfl ?_
  refine Own.isub 49 X5 hx (hb hby d16_48) rfl (Own.N_sub (by omega)) ?_
  refine Own.iconst 50 X5 hx (Own.N 1) (hb hby d16_49) rfl rfl ?_
  refine Own.isub 51 X5 hx (hb hby d16_50) rfl (Own.N_sub (by omega)) ?_
  refine Own.nCopy 54 0 X5 hx hZ hown (w 28 rfl) (w 31 rfl) (w 29 rfl) (w 30 rfl) e5 Clb_0 Clb_0 (by omega) (by omega) N2 g_lb (by rw [hml]; rfl) (hb hby d16_51) rfl (by decide) (Nat.le_of_eq rfl) (by decide) ?_
  intro T6 h6 L6 X6 e6 N6 K6 C6
  have Ef_8 := E_0.keep K6
  have Ff_9 := Fleaks_0.keep K6 (ninS ne_t_lb nin0)
  have Ff_10 := Fleaes_0.keep K6 (ninS ne_t_lb nin0)
  have Ff_11 := Finnks_0.keep K6 (ninS ne_t_lb nin0)
  have Ff_12 := Finnrs_0.keep K6 (ninS ne_t_lb nin0)
  have Ff_13 := FleaOf_0.keep K6 (ninS ne_t_lb nin0)
  have Ff_14 := Frooot_0.keep K6 (ninS ne_t_lb nin0)
  have Ff_15 := Fheiht_0.keep K6 (ninS ne_t_lb nin0)
  have Ff_16 := Fregar_0.keep K6 (ninS ne_t_lb nin0)
  have Cf_17 := Cib_0.keep K6 (ninS (Ne.symm ne_lb_ib) nin0)
  have Cf_18 := Clo_0.keep K6 (ninS (Ne.symm ne_lb_lo) nin0)
  have KK6 := (Keep.refl h0 [t, lb, ib, lo]).trans K6 (allS (Or.inl (List.mem_of_getElem? (i := 1) rfl)) all0)
  have zl6 := Nat.le_trans Z0 K6.1
  refine Own.aloadN 55 X6 hx (hb hby d16_54) rfl rfl rfl ?_
  refine Own.getFld 58 X6 hx hZ hown (host := "") (Or.inl (w 12 rfl)) Via.refl e6 Ff_9 (hb hby d16_55) rfl ?_
  intro T19 X19 e19
  refine Own.iloadN 59 X19 hx (hb hby d16_58) rfl rfl ?_
  refine Own.bipush 61 X19 hx (Own.N 64) (hb hby d16_59) rfl rfl ?_
  refine Own.imul 62 X19 hx (hb hby d16_61) rfl (Own.N_mul _ _) ?_
  refine Own.iconst 63 X19 hx (Own.N 2) (hb hby d16_62) rfl rfl ?_
  refine Own.iadd 64 X19 hx (hb hby d16_63) rfl (Own.N_add _ _) ?_
  refine Own.dup2 65 X19 hx (hb hby d16_64) rfl rfl rfl ?_
  refine Own.nLoad 66 (Own.N (pre (jj + 1) - pre jj)) X19 hx hZ e19 C6 (by omega) (by rw [Own.cpy_out (by omega)]; exact hsz) (hb hby d16_65) rfl ?_
  refine Own.iconst 67 X19 hx (Own.N 1) (hb hby d16_66) rfl rfl ?_
  refine Own.isub 68 X19 hx (hb hby d16_67) rfl (Own.N_sub (by omega)) ?_
  refine Own.nStore 69 X19 hx hZ e19 C6 (by omega) (hb hby d16_68) rfl ?_
  intro T20 h20 X20 e20 W20 C20
  have N20 := Fr.snoc X20 N6 g_lb
  have Ef_22 := Ef_8.wr W20
  have Ff_23 := Ff_9.other W20 (Or.inl ne_t_lb)
  have Ff_24 := Ff_10.other W20 (Or.inl ne_t_lb)
  have Ff_25 := Ff_11.other W20 (Or.inl ne_t_lb)
  have Ff_26 := Ff_12.other W20 (Or.inl ne_t_lb)
  have Ff_27 := Ff_13.other W20 (Or.inl ne_t_lb)
  have Ff_28 := Ff_14.other W20 (Or.inl ne_t_lb)
  have Ff_29 := Ff_15.other W20 (Or.inl ne_t_lb)
  have Ff_30 := Ff_16.other W20 (Or.inl ne_t_lb)
  have Cf_31 := Cf_17.other W20 (Ne.symm ne_lb_ib)
  have Cf_32 := Cf_18.other W20 (Ne.symm ne_lb_lo)
  have zl20 := Nat.le_trans zl6 (Nat.le_of_eq W20.size.symm)
  have K20 := KK6.wr W20 (Or.inl (List.mem_of_getElem? (i := 1) rfl))
  rcases hT with ⟨rfl, H⟩ | ⟨rfl, V, nd, H⟩
  ·
    obtain ⟨u1, u2, u3, u4⟩ := H.2.2.2.2 jj hj
    have b8 := H.2.1
    have l62 := H.1
    refine Own.aloadN 70 X20 hx (hb hby d16_69) rfl rfl rfl ?_
    refine Own.getFld 73 X20 hx hZ hown (host := "") (Or.inl (w 12 rfl)) Via.refl e20 Ff_23 (hb hby d16_70) rfl ?_
    intro T34 X34 e34
    refine Own.iloadN 74 X34 hx (hb hby d16_73) rfl rfl ?_
    refine Own.bipush 76 X34 hx (Own.N 64) (hb hby d16_74) rfl rfl ?_
    refine Own.imul 77 X34 hx (hb hby d16_76) rfl (Own.N_mul _ _) ?_
    refine Own.iconst 78 X34 hx (Own.N 0) (hb hby d16_77) rfl rfl ?_
    refine Own.iadd 79 X34 hx (hb hby d16_78) rfl (Own.N_add _ _) ?_
    refine Own.nLoad 80 (Own.N (rt)) X34 hx hZ e34 C20 (by omega) (by rw [Own.upd_miss (by omega), Own.cpy_out (by omega)]; exact u1) (hb hby d16_79) rfl ?_
    refine Own.istoreV 82 #[.val (.ref t), .val (.int (Own.N (i))), .val (.int (Own.N (jj))), .val (.int (Own.N (jj * 64 + 3 + (q - pre jj)))), .val (.int (Own.N (((jj * 64) + 3) + (pre (jj + 1) - pre jj)))), .val (.int (Own.N (rt))), .unset, .unset] X34 hx (hb hby d16_80) rfl rfl ?_
    refine Own.aloadN 83 X34 hx (hb hby d16_82) rfl rfl rfl ?_
    refine Own.getFld 86 X34 hx hZ hown (host := "") (Or.inl (w 12 rfl)) Via.refl e34 Ff_23 (hb hby d16_83) rfl ?_
    intro T35 X35 e35
    refine Own.iloadN 87 X35 hx (hb hby d16_86) rfl rfl ?_
    refine Own.bipush 89 X35 hx (Own.N 64) (hb hby d16_87) rfl rfl ?_
    refine Own.imul 90 X35 hx (hb hby d16_89) rfl (Own.N_mul _ _) ?_
    refine Own.iconst 91 X35 hx (Own.N 1) (hb hby d16_90) rfl rfl ?_
    refine Own.iadd 92 X35 hx (hb hby d16_91) rfl (Own.N_add _ _) ?_
    refine Own.nLoad 93 (Own.N (jj)) X35 hx hZ e35 C20 (by omega) (by rw [Own.upd_miss (by omega), Own.cpy_out (by omega)]; exact u2) (hb hby d16_92) rfl ?_
    refine Own.istoreV 95 #[.val (.ref t), .val (.int (Own.N (i))), .val (.int (Own.N (jj))), .val (.int (Own.N (jj * 64 + 3 + (q - pre jj)))), .val (.int (Own.N (((jj * 64) + 3) + (pre (jj + 1) - pre jj)))), .val (.int (Own.N (rt))), .val (.int (Own.N (jj))), .unset] X35 hx (hb hby d16_93) rfl rfl ?_
    refine Own.iload 97 X35 hx (hb hby d16_95) rfl rfl ?_
    refine Own.iconst 98 X35 hx ((-1 : Int32)) (hb hby d16_97) rfl rfl ?_
    refine Own.icmp_eq 150 101 X35 hx (hb hby d16_98) (by decide) rfl (fun tk => absurd tk (Own.N_ne1 (by omega))) (fun tk => ?_)
    refine Own.iload 103 X35 hx (hb hby d16_101) rfl rfl ?_
    refine Own.sipush 106 X35 hx (Own.N 128) (hb hby d16_103) rfl rfl ?_
    refine Own.imul 107 X35 hx (hb hby d16_106) rfl (Own.N_mul _ _) ?_
    refine Own.istoreV 109 #[.val (.ref t), .val (.int (Own.N (i))), .val (.int (Own.N (jj))), .val (.int (Own.N (jj * 64 + 3 + (q - pre jj)))), .val (.int (Own.N (((jj * 64) + 3) + (pre (jj + 1) - pre jj)))), .val (.int (Own.N (rt))), .val (.int (Own.N (jj))), .val (.int (Own.N (rt * 128)))] X35 hx (hb hby d16_107) rfl rfl ?_
    refine Own.aloadN 110 X35 hx (hb hby d16_109) rfl rfl rfl ?_
    refine Own.getFld 113 X35 hx hZ hown (host := "") (Or.inl (w 14 rfl)) Via.refl e35 Ff_25 (hb hby d16_110) rfl ?_
    intro T36 X36 e36
    refine Own.iload 115 X36 hx (hb hby d16_113) rfl rfl ?_
    refine Own.iconst 116 X36 hx (Own.N 3) (hb hby d16_115) rfl rfl ?_
    refine Own.iadd 117 X36 hx (hb hby d16_116) rfl (Own.N_add _ _) ?_
    refine Own.iload 119 X36 hx (hb hby d16_117) rfl rfl ?_
    refine Own.iadd 120 X36 hx (hb hby d16_119) rfl (Own.N_add _ _) ?_
    refine Own.dup2 121 X36 hx (hb hby d16_120) rfl rfl rfl ?_
    refine Own.nLoad 122 (Own.N (pre (jj + 1) - pre jj)) X36 hx hZ e36 Cf_31 (by omega) u3 (hb hby d16_121) rfl ?_
    refine Own.iconst 123 X36 hx (Own.N 1) (hb hby d16_122) rfl rfl ?_
    refine Own.isub 124 X36 hx (hb hby d16_123) rfl (Own.N_sub (by omega)) ?_
    refine Own.nStore 125 X36 hx hZ e36 Cf_31 (by omega) (hb hby d16_124) rfl ?_
    intro T37 h37 X37 e37 W37 C37
    have N37 := Fr.snoc X37 N20 g_ib
    have Ef_39 := Ef_22.wr W37
    have Ff_40 := Ff_23.other W37 (Or.inl ne_t_ib)
    have Ff_41 := Ff_24.other W37 (Or.inl ne_t_ib)
    have Ff_42 := Ff_25.other W37 (Or.inl ne_t_ib)
    have Ff_43 := Ff_26.other W37 (Or.inl ne_t_ib)
    have Ff_44 := Ff_27.other W37 (Or.inl ne_t_ib)
    have Ff_45 := Ff_28.other W37 (Or.inl ne_t_ib)
    have Ff_46 := Ff_29.other W37 (Or.inl ne_t_ib)
    have Ff_47 := Ff_30.other W37 (Or.inl ne_t_ib)
    have Cf_49 := Cf_32.other W37 (Ne.symm ne_ib_lo)
    have Cf_50 := C20.other W37 ne_lb_ib
    have zl37 := Nat.le_trans zl20 (Nat.le_of_eq W37.size.symm)
    have K37 := K20.wr W37 (Or.inl (List.mem_of_getElem? (i := 2) rfl))
    refine Own.aloadN 126 X37 hx (hb hby d16_125) rfl rfl rfl ?_
    refine Own.getFld 129 X37 hx hZ hown (host := "") (Or.inl (w 14 rfl)) Via.refl e37 Ff_42 (hb hby d16_126) rfl ?_
    intro T51 X51 e51
    refine Own.iload 131 X51 hx (hb hby d16_129) rfl rfl ?_
    refine Own.iconst 132 X51 hx (Own.N 1) (hb hby d16_131) rfl rfl ?_
    refine Own.iadd 133 X51 hx (hb hby d16_132) rfl (Own.N_add _ _) ?_
    refine Own.nLoad 134 (((Own.upd fI (((rt * 128) + 3) + jj) (Own.N ((pre (jj + 1) - pre jj) - 1))) (rt * 128 + 1))) X51 hx hZ e51 C37 (by omega) rfl (hb hby d16_133) rfl ?_
    refine Own.istoreV 136 #[.val (.ref t), .val (.int (Own.N (i))), .val (.int (Own.N (jj))), .val (.int (Own.N (jj * 64 + 3 + (q - pre jj)))), .val (.int (Own.N (((jj * 64) + 3) + (pre (jj + 1) - pre jj)))), .val (.int (Own.N (rt))), .val (.int ((Own.upd fI (((rt * 128) + 3) + jj) (Own.N ((pre (jj + 1) - pre jj) - 1))) (rt * 128 + 1))), .val (.int (Own.N (rt * 128)))] X51 hx (hb hby d16_134) rfl rfl ?_
    refine Own.aloadN 137 X51 hx (hb hby d16_136) rfl rfl rfl ?_
    refine Own.getFld 140 X51 hx hZ hown (host := "") (Or.inl (w 14 rfl)) Via.refl e51 Ff_42 (hb hby d16_137) rfl ?_
    intro T52 X52 e52
    refine Own.iload 142 X52 hx (hb hby d16_140) rfl rfl ?_
    refine Own.iconst 143 X52 hx (Own.N 0) (hb hby d16_142) rfl rfl ?_
    refine Own.iadd 144 X52 hx (hb hby d16_143) rfl (Own.N_add _ _) ?_
    refine Own.nLoad 145 ((-1 : Int32)) X52 hx hZ e52 C37 (by omega) (by rw [Own.upd_miss (by omega)]; exact H.2.2.1) (hb hby d16_144) rfl ?_
    refine Own.istoreV 147 #[.val (.ref t), .val (.int (Own.N (i))), .val (.int (Own.N (jj))), .val (.int (Own.N (jj * 64 + 3 + (q - pre jj)))), .val (.int (Own.N (((jj * 64) + 3) + (pre (jj + 1) - pre jj)))), .val (.int (-1 : Int32)), .val (.int ((Own.upd fI (((rt * 128) + 3) + jj) (Own.N ((pre (jj + 1) - pre jj) - 1))) (rt * 128 + 1))), .val (.int (Own.N (rt * 128)))] X52 hx (hb hby d16_145) rfl rfl ?_
    refine Own.goto 95 X52 hx (hb hby d16_147) (by decide) ?_
    refine Own.iload 97 X52 hx (hb hby d16_95) rfl rfl ?_
    refine Own.iconst 98 X52 hx ((-1 : Int32)) (hb hby d16_97) rfl rfl ?_
    refine Own.icmp_eq 150 101 X52 hx (hb hby d16_98) (by decide) rfl (fun tk => ?_) (fun tk => absurd rfl tk)
    refine Own.retVoid X52 hx hlk hret (hb hby d16_150) (by decide) (by decide) ?_
    rw [e52]
    exact ⟨rfl, N37, K37, own_rmP pre jj, _, _, ⟨Ef_39, Ff_40, Ff_41, Ff_42, Ff_43, Ff_44, Ff_45, Ff_46, Ff_47, Cf_50, C37, Cf_49⟩, ⟨own_rm_Pr P hj (by omega), hB, hL1, hL2, by omega, Or.inl ⟨rfl, own_H1_upd H hj (fun j hj' => ⟨by rw [Own.upd_miss (by omega), Own.cpy_out (by omega)], by rw [Own.upd_miss (by omega), Own.cpy_out (by omega)]⟩) (own_rm_dif P hj (by omega)) (by omega) (own_rmP_at (by omega)).symm⟩, Or.inr rfl, hzI, hzI2, hzL, hzL2⟩, (by have h9 := fun a1 m b z ha1 hm hb hz => own_rm_Lf P Lf (j0 := jj) (k0 := q - pre jj) (a := jj * 64 + 3 + (q - pre jj)) (a1 := a1) (m := m) (b := b) (z := z) hj (by omega) rfl ha1 hm hb hz (by omega); rw [show pre jj + (q - pre jj) = q from by omega] at h9; exact h9 _ _ _ _ rfl (by omega) rfl (by omega))⟩
  ·
    have b8 := H.2.2.2.1
    have hV := H.1
    have hV5 := H.2.2.1
    obtain ⟨d1, d2, d3, d4, d5, d6, d7⟩ := H.2.2.2.2.2.2.1 (jj / 31) (by omega)
    obtain ⟨u1, u2, u3, u4⟩ := H.2.2.2.2.2.2.2.2 jj hj
    obtain ⟨G1, G2, G3, G4, G5, G6, G7⟩ := own_gr_in P hj
    unfold own_gr at G1 G2 G3 G4 G7
    refine Own.aloadN 70 X20 hx (hb hby d16_69) rfl rfl rfl ?_
    refine Own.getFld 73 X20 hx hZ hown (host := "") (Or.inl (w 12 rfl)) Via.refl e20 Ff_23 (hb hby d16_70) rfl ?_
    intro T53 X53 e53
    refine Own.iloadN 74 X53 hx (hb hby d16_73) rfl rfl ?_
    refine Own.bipush 76 X53 hx (Own.N 64) (hb hby d16_74) rfl rfl ?_
    refine Own.imul 77 X53 hx (hb hby d16_76) rfl (Own.N_mul _ _) ?_
    refine Own.iconst 78 X53 hx (Own.N 0) (hb hby d16_77) rfl rfl ?_
    refine Own.iadd 79 X53 hx (hb hby d16_78) rfl (Own.N_add _ _) ?_
    refine Own.nLoad 80 (Own.N (nd (jj / 31))) X53 hx hZ e53 C20 (by omega) (by rw [Own.upd_miss (by omega), Own.cpy_out (by omega)]; exact u1) (hb hby d16_79) rfl ?_
    refine Own.istoreV 82 #[.val (.ref t), .val (.int (Own.N (i))), .val (.int (Own.N (jj))), .val (.int (Own.N (jj * 64 + 3 + (q - pre jj)))), .val (.int (Own.N (((jj * 64) + 3) + (pre (jj + 1) - pre jj)))), .val (.int (Own.N (nd (jj / 31)))), .unset, .unset] X53 hx (hb hby d16_80) rfl rfl ?_
    refine Own.aloadN 83 X53 hx (hb hby d16_82) rfl rfl rfl ?_
    refine Own.getFld 86 X53 hx hZ hown (host := "") (Or.inl (w 12 rfl)) Via.refl e53 Ff_23 (hb hby d16_83) rfl ?_
    intro T54 X54 e54
    refine Own.iloadN 87 X54 hx (hb hby d16_86) rfl rfl ?_
    refine Own.bipush 89 X54 hx (Own.N 64) (hb hby d16_87) rfl rfl ?_
    refine Own.imul 90 X54 hx (hb hby d16_89) rfl (Own.N_mul _ _) ?_
    refine Own.iconst 91 X54 hx (Own.N 1) (hb hby d16_90) rfl rfl ?_
    refine Own.iadd 92 X54 hx (hb hby d16_91) rfl (Own.N_add _ _) ?_
    refine Own.nLoad 93 (Own.N (jj % 31)) X54 hx hZ e54 C20 (by omega) (by rw [Own.upd_miss (by omega), Own.cpy_out (by omega)]; exact u2) (hb hby d16_92) rfl ?_
    refine Own.istoreV 95 #[.val (.ref t), .val (.int (Own.N (i))), .val (.int (Own.N (jj))), .val (.int (Own.N (jj * 64 + 3 + (q - pre jj)))), .val (.int (Own.N (((jj * 64) + 3) + (pre (jj + 1) - pre jj)))), .val (.int (Own.N (nd (jj / 31)))), .val (.int (Own.N (jj % 31))), .unset] X54 hx (hb hby d16_93) rfl rfl ?_
    refine Own.iload 97 X54 hx (hb hby d16_95) rfl rfl ?_
    refine Own.iconst 98 X54 hx ((-1 : Int32)) (hb hby d16_97) rfl rfl ?_
    refine Own.icmp_eq 150 101 X54 hx (hb hby d16_98) (by decide) rfl (fun tk => absurd tk (Own.N_ne1 (by omega))) (fun tk => ?_)
    refine Own.iload 103 X54 hx (hb hby d16_101) rfl rfl ?_
    refine Own.sipush 106 X54 hx (Own.N 128) (hb hby d16_103) rfl rfl ?_
    refine Own.imul 107 X54 hx (hb hby d16_106) rfl (Own.N_mul _ _) ?_
    refine Own.istoreV 109 #[.val (.ref t), .val (.int (Own.N (i))), .val (.int (Own.N (jj))), .val (.int (Own.N (jj * 64 + 3 + (q - pre jj)))), .val (.int (Own.N (((jj * 64) + 3) + (pre (jj + 1) - pre jj)))), .val (.int (Own.N (nd (jj / 31)))), .val (.int (Own.N (jj % 31))), .val (.int (Own.N ((nd (jj / 31)) * 128)))] X54 hx (hb hby d16_107) rfl rfl ?_
    refine Own.aloadN 110 X54 hx (hb hby d16_109) rfl rfl rfl ?_
    refine Own.getFld 113 X54 hx hZ hown (host := "") (Or.inl (w 14 rfl)) Via.refl e54 Ff_25 (hb hby d16_110) rfl ?_
    intro T55 X55 e55
    refine Own.iload 115 X55 hx (hb hby d16_113) rfl rfl ?_
    refine Own.iconst 116 X55 hx (Own.N 3) (hb hby d16_115) rfl rfl ?_
    refine Own.iadd 117 X55 hx (hb hby d16_116) rfl (Own.N_add _ _) ?_
    refine Own.iload 119 X55 hx (hb hby d16_117) rfl rfl ?_
    refine Own.iadd 120 X55 hx (hb hby d16_119) rfl (Own.N_add _ _) ?_
    refine Own.dup2 121 X55 hx (hb hby d16_120) rfl rfl rfl ?_
    refine Own.nLoad 122 (Own.N (pre (jj + 1) - pre jj)) X55 hx hZ e55 Cf_31 (by omega) u3 (hb hby d16_121) rfl ?_
    refine Own.iconst 123 X55 hx (Own.N 1) (hb hby d16_122) rfl rfl ?_
    refine Own.isub 124 X55 hx (hb hby d16_123) rfl (Own.N_sub (by omega)) ?_
    refine Own.nStore 125 X55 hx hZ e55 Cf_31 (by omega) (hb hby d16_124) rfl ?_
    intro T56 h56 X56 e56 W56 C56
    have N56 := Fr.snoc X56 N20 g_ib
    have Ef_58 := Ef_22.wr W56
    have Ff_59 := Ff_23.other W56 (Or.inl ne_t_ib)
    have Ff_60 := Ff_24.other W56 (Or.inl ne_t_ib)
    have Ff_61 := Ff_25.other W56 (Or.inl ne_t_ib)
    have Ff_62 := Ff_26.other W56 (Or.inl ne_t_ib)
    have Ff_63 := Ff_27.other W56 (Or.inl ne_t_ib)
    have Ff_64 := Ff_28.other W56 (Or.inl ne_t_ib)
    have Ff_65 := Ff_29.other W56 (Or.inl ne_t_ib)
    have Ff_66 := Ff_30.other W56 (Or.inl ne_t_ib)
    have Cf_68 := Cf_32.other W56 (Ne.symm ne_ib_lo)
    have Cf_69 := C20.other W56 ne_lb_ib
    have zl56 := Nat.le_trans zl20 (Nat.le_of_eq W56.size.symm)
    have K56 := K20.wr W56 (Or.inl (List.mem_of_getElem? (i := 2) rfl))
    refine Own.aloadN 126 X56 hx (hb hby d16_125) rfl rfl rfl ?_
    refine Own.getFld 129 X56 hx hZ hown (host := "") (Or.inl (w 14 rfl)) Via.refl e56 Ff_61 (hb hby d16_126) rfl ?_
    intro T70 X70 e70
    refine Own.iload 131 X70 hx (hb hby d16_129) rfl rfl ?_
    refine Own.iconst 132 X70 hx (Own.N 1) (hb hby d16_131) rfl rfl ?_
    refine Own.iadd 133 X70 hx (hb hby d16_132) rfl (Own.N_add _ _) ?_
    refine Own.nLoad 134 (Own.N (jj / 31)) X70 hx hZ e70 C56 (by omega) (by rw [Own.upd_miss (by omega)]; exact d4) (hb hby d16_133) rfl ?_
    refine Own.istoreV 136 #[.val (.ref t), .val (.int (Own.N (i))), .val (.int (Own.N (jj))), .val (.int (Own.N (jj * 64 + 3 + (q - pre jj)))), .val (.int (Own.N (((jj * 64) + 3) + (pre (jj + 1) - pre jj)))), .val (.int (Own.N (nd (jj / 31)))), .val (.int (Own.N (jj / 31))), .val (.int (Own.N ((nd (jj / 31)) * 128)))] X70 hx (hb hby d16_134) rfl rfl ?_
    refine Own.aloadN 137 X70 hx (hb hby d16_136) rfl rfl rfl ?_
    refine Own.getFld 140 X70 hx hZ hown (host := "") (Or.inl (w 14 rfl)) Via.refl e70 Ff_61 (hb hby d16_137) rfl ?_
    intro T71 X71 e71
    refine Own.iload 142 X71 hx (hb hby d16_140) rfl rfl ?_
    refine Own.iconst 143 X71 hx (Own.N 0) (hb hby d16_142) rfl rfl ?_
    refine Own.iadd 144 X71 hx (hb hby d16_143) rfl (Own.N_add _ _) ?_
    refine Own.nLoad 145 (Own.N (rt)) X71 hx hZ e71 C56 (by omega) (by rw [Own.upd_miss (by omega)]; exact d3) (hb hby d16_144) rfl ?_
    refine Own.istoreV 147 #[.val (.ref t), .val (.int (Own.N (i))), .val (.int (Own.N (jj))), .val (.int (Own.N (jj * 64 + 3 + (q - pre jj)))), .val (.int (Own.N (((jj * 64) + 3) + (pre (jj + 1) - pre jj)))), .val (.int (Own.N (rt))), .val (.int (Own.N (jj / 31))), .val (.int (Own.N ((nd (jj / 31)) * 128)))] X71 hx (hb hby d16_145) rfl rfl ?_
    refine Own.goto 95 X71 hx (hb hby d16_147) (by decide) ?_
    refine Own.iload 97 X71 hx (hb hby d16_95) rfl rfl ?_
    refine Own.iconst 98 X71 hx ((-1 : Int32)) (hb hby d16_97) rfl rfl ?_
    refine Own.icmp_eq 150 101 X71 hx (hb hby d16_98) (by decide) rfl (fun tk => absurd tk (Own.N_ne1 (by omega))) (fun tk => ?_)
    refine Own.iload 103 X71 hx (hb hby d16_101) rfl rfl ?_
    refine Own.sipush 106 X71 hx (Own.N 128) (hb hby d16_103) rfl rfl ?_
    refine Own.imul 107 X71 hx (hb hby d16_106) rfl (Own.N_mul _ _) ?_
    refine Own.istoreV 109 #[.val (.ref t), .val (.int (Own.N (i))), .val (.int (Own.N (jj))), .val (.int (Own.N (jj * 64 + 3 + (q - pre jj)))), .val (.int (Own.N (((jj * 64) + 3) + (pre (jj + 1) - pre jj)))), .val (.int (Own.N (rt))), .val (.int (Own.N (jj / 31))), .val (.int (Own.N (rt * 128)))] X71 hx (hb hby d16_107) rfl rfl ?_
    refine Own.aloadN 110 X71 hx (hb hby d16_109) rfl rfl rfl ?_
    refine Own.getFld 113 X71 hx hZ hown (host := "") (Or.inl (w 14 rfl)) Via.refl e71 Ff_61 (hb hby d16_110) rfl ?_
    intro T72 X72 e72
    refine Own.iload 115 X72 hx (hb hby d16_113) rfl rfl ?_
    refine Own.iconst 116 X72 hx (Own.N 3) (hb hby d16_115) rfl rfl ?_
    refine Own.iadd 117 X72 hx (hb hby d16_116) rfl (Own.N_add _ _) ?_
    refine Own.iload 119 X72 hx (hb hby d16_117) rfl rfl ?_
    refine Own.iadd 120 X72 hx (hb hby d16_119) rfl (Own.N_add _ _) ?_
    refine Own.dup2 121 X72 hx (hb hby d16_120) rfl rfl rfl ?_
    refine Own.nLoad 122 (Own.N (pre (own_st L (jj / 31 + 1)) - pre (own_st L (jj / 31)))) X72 hx hZ e72 C56 (by omega) (by rw [Own.upd_miss (by omega)]; exact d6) (hb hby d16_121) rfl ?_
    refine Own.iconst 123 X72 hx (Own.N 1) (hb hby d16_122) rfl rfl ?_
    refine Own.isub 124 X72 hx (hb hby d16_123) rfl (Own.N_sub (by omega)) ?_
    refine Own.nStore 125 X72 hx hZ e72 C56 (by omega) (hb hby d16_124) rfl ?_
    intro T73 h73 X73 e73 W73 C73
    have N73 := Fr.snoc X73 N56 g_ib
    have Ef_75 := Ef_58.wr W73
    have Ff_76 := Ff_59.other W73 (Or.inl ne_t_ib)
    have Ff_77 := Ff_60.other W73 (Or.inl ne_t_ib)
    have Ff_78 := Ff_61.other W73 (Or.inl ne_t_ib)
    have Ff_79 := Ff_62.other W73 (Or.inl ne_t_ib)
    have Ff_80 := Ff_63.other W73 (Or.inl ne_t_ib)
    have Ff_81 := Ff_64.other W73 (Or.inl ne_t_ib)
    have Ff_82 := Ff_65.other W73 (Or.inl ne_t_ib)
    have Ff_83 := Ff_66.other W73 (Or.inl ne_t_ib)
    have Cf_84 := Cf_68.other W73 (Ne.symm ne_ib_lo)
    have Cf_85 := Cf_69.other W73 ne_lb_ib
    have zl73 := Nat.le_trans zl56 (Nat.le_of_eq W73.size.symm)
    have K73 := K56.wr W73 (Or.inl (List.mem_of_getElem? (i := 2) rfl))
    refine Own.aloadN 126 X73 hx (hb hby d16_125) rfl rfl rfl ?_
    refine Own.getFld 129 X73 hx hZ hown (host := "") (Or.inl (w 14 rfl)) Via.refl e73 Ff_78 (hb hby d16_126) rfl ?_
    intro T87 X87 e87
    refine Own.iload 131 X87 hx (hb hby d16_129) rfl rfl ?_
    refine Own.iconst 132 X87 hx (Own.N 1) (hb hby d16_131) rfl rfl ?_
    refine Own.iadd 133 X87 hx (hb hby d16_132) rfl (Own.N_add _ _) ?_
    refine Own.nLoad 134 (((Own.upd (Own.upd fI ((((nd (jj / 31)) * 128) + 3) + (jj % 31)) (Own.N ((pre (jj + 1) - pre jj) - 1))) (((rt * 128) + 3) + (jj / 31)) (Own.N ((pre (own_st L (jj / 31 + 1)) - pre (own_st L (jj / 31))) - 1))) (rt * 128 + 1))) X87 hx hZ e87 C73 (by omega) rfl (hb hby d16_133) rfl ?_
    refine Own.istoreV 136 #[.val (.ref t), .val (.int (Own.N (i))), .val (.int (Own.N (jj))), .val (.int (Own.N (jj * 64 + 3 + (q - pre jj)))), .val (.int (Own.N (((jj * 64) + 3) + (pre (jj + 1) - pre jj)))), .val (.int (Own.N (rt))), .val (.int ((Own.upd (Own.upd fI ((((nd (jj / 31)) * 128) + 3) + (jj % 31)) (Own.N ((pre (jj + 1) - pre jj) - 1))) (((rt * 128) + 3) + (jj / 31)) (Own.N ((pre (own_st L (jj / 31 + 1)) - pre (own_st L (jj / 31))) - 1))) (rt * 128 + 1))), .val (.int (Own.N (rt * 128)))] X87 hx (hb hby d16_134) rfl rfl ?_
    refine Own.aloadN 137 X87 hx (hb hby d16_136) rfl rfl rfl ?_
    refine Own.getFld 140 X87 hx hZ hown (host := "") (Or.inl (w 14 rfl)) Via.refl e87 Ff_78 (hb hby d16_137) rfl ?_
    intro T88 X88 e88
    refine Own.iload 142 X88 hx (hb hby d16_140) rfl rfl ?_
    refine Own.iconst 143 X88 hx (Own.N 0) (hb hby d16_142) rfl rfl ?_
    refine Own.iadd 144 X88 hx (hb hby d16_143) rfl (Own.N_add _ _) ?_
    refine Own.nLoad 145 ((-1 : Int32)) X88 hx hZ e88 C73 (by omega) (by rw [Own.upd_miss (by omega), Own.upd_miss (by omega)]; exact H.2.2.2.2.1) (hb hby d16_144) rfl ?_
    refine Own.istoreV 147 #[.val (.ref t), .val (.int (Own.N (i))), .val (.int (Own.N (jj))), .val (.int (Own.N (jj * 64 + 3 + (q - pre jj)))), .val (.int (Own.N (((jj * 64) + 3) + (pre (jj + 1) - pre jj)))), .val (.int (-1 : Int32)), .val (.int ((Own.upd (Own.upd fI ((((nd (jj / 31)) * 128) + 3) + (jj % 31)) (Own.N ((pre (jj + 1) - pre jj) - 1))) (((rt * 128) + 3) + (jj / 31)) (Own.N ((pre (own_st L (jj / 31 + 1)) - pre (own_st L (jj / 31))) - 1))) (rt * 128 + 1))), .val (.int (Own.N (rt * 128)))] X88 hx (hb hby d16_145) rfl rfl ?_
    refine Own.goto 95 X88 hx (hb hby d16_147) (by decide) ?_
    refine Own.iload 97 X88 hx (hb hby d16_95) rfl rfl ?_
    refine Own.iconst 98 X88 hx ((-1 : Int32)) (hb hby d16_97) rfl rfl ?_
    refine Own.icmp_eq 150 101 X88 hx (hb hby d16_98) (by decide) rfl (fun tk => ?_) (fun tk => absurd rfl tk)
    refine Own.retVoid X88 hx hlk hret (hb hby d16_150) (by decide) (by decide) ?_
    rw [e88]
    exact ⟨rfl, N73, K73, own_rmP pre jj, _, _, ⟨Ef_75, Ff_76, Ff_77, Ff_78, Ff_79, Ff_80, Ff_81, Ff_82, Ff_83, Cf_85, C73, Cf_84⟩, ⟨own_rm_Pr P hj (by omega), hB, hL1, hL2, by omega, Or.inr ⟨rfl, V, nd, own_H2_upd H hj (fun j hj' => ⟨by rw [Own.upd_miss (by omega), Own.cpy_out (by omega)], by rw [Own.upd_miss (by omega), Own.cpy_out (by omega)]⟩) (own_rm_dif P hj (by omega)) rfl rfl (fun i' n1 n2 => by rw [Own.upd_miss n2, Own.upd_miss n1]) (by rw [Own.upd_miss (by omega), Own.upd_hit (by omega), own_rmP_at (by omega)]) (by rw [Own.upd_hit (by omega), own_rmP_st P hj (by omega)])⟩, Or.inr rfl, hzI, hzI2, hzL, hzL2⟩, (by have h9 := fun a1 m b z ha1 hm hb hz => own_rm_Lf P Lf (j0 := jj) (k0 := q - pre jj) (a := jj * 64 + 3 + (q - pre jj)) (a1 := a1) (m := m) (b := b) (z := z) hj (by omega) rfl ha1 hm hb hz (by omega); rw [show pre jj + (q - pre jj) = q from by omega] at h9; exact h9 _ _ _ _ rfl (by omega) rfl (by omega))⟩
theorem d19_0 : decode prog_32_method_12_code 0 = .ok (.aload_n 0, 1) := by decide +kernel
theorem d19_1 : decode prog_32_method_12_code 1 = .ok (.getfield 23, 3) := by decide +kernel
theorem d19_4 : decode prog_32_method_12_code 4 = .ok (.iload_n 1, 1) := by decide +kernel
theorem d19_5 : decode prog_32_method_12_code 5 = .ok (.sipush 128, 3) := by decide +kernel
theorem d19_8 : decode prog_32_method_12_code 8 = .ok (.imul, 1) := by decide +kernel
theorem d19_9 : decode prog_32_method_12_code 9 = .ok (.bipush 65, 2) := by decide +kernel
theorem d19_11 : decode prog_32_method_12_code 11 = .ok (.iadd, 1) := by decide +kernel
theorem d19_12 : decode prog_32_method_12_code 12 = .ok (.iload_n 2, 1) := by decide +kernel
theorem d19_13 : decode prog_32_method_12_code 13 = .ok (.iadd, 1) := by decide +kernel
theorem d19_14 : decode prog_32_method_12_code 14 = .ok (.iaload, 1) := by decide +kernel
theorem d19_15 : decode prog_32_method_12_code 15 = .ok (.istore 4, 2) := by decide +kernel
theorem d19_17 : decode prog_32_method_12_code 17 = .ok (.iconst 0, 1) := by decide +kernel
theorem d19_18 : decode prog_32_method_12_code 18 = .ok (.istore 6, 2) := by decide +kernel
theorem d19_20 : decode prog_32_method_12_code 20 = .ok (.iload_n 3, 1) := by decide +kernel
theorem d19_21 : decode prog_32_method_12_code 21 = .ok (.iconst 1, 1) := by decide +kernel
theorem d19_22 : decode prog_32_method_12_code 22 = .ok (.if_icmp .ne 123, 3) := by decide +kernel
theorem d19_145 : decode prog_32_method_12_code 145 = .ok (.aload_n 0, 1) := by decide +kernel
theorem d19_146 : decode prog_32_method_12_code 146 = .ok (.invokevirtual 71, 3) := by decide +kernel
theorem d19_149 : decode prog_32_method_12_code 149 = .ok (.istore 5, 2) := by decide +kernel
theorem d19_151 : decode prog_32_method_12_code 151 = .ok (.iload 4, 2) := by decide +kernel
theorem d19_153 : decode prog_32_method_12_code 153 = .ok (.sipush 128, 3) := by decide +kernel
theorem d19_156 : decode prog_32_method_12_code 156 = .ok (.imul, 1) := by decide +kernel
theorem d19_157 : decode prog_32_method_12_code 157 = .ok (.istore 7, 2) := by decide +kernel
theorem d19_159 : decode prog_32_method_12_code 159 = .ok (.iload 5, 2) := by decide +kernel
theorem d19_161 : decode prog_32_method_12_code 161 = .ok (.sipush 128, 3) := by decide +kernel
theorem d19_164 : decode prog_32_method_12_code 164 = .ok (.imul, 1) := by decide +kernel
theorem d19_165 : decode prog_32_method_12_code 165 = .ok (.istore 8, 2) := by decide +kernel
theorem d19_167 : decode prog_32_method_12_code 167 = .ok (.aload_n 0, 1) := by decide +kernel
theorem d19_168 : decode prog_32_method_12_code 168 = .ok (.getfield 23, 3) := by decide +kernel
theorem d19_171 : decode prog_32_method_12_code 171 = .ok (.iload 7, 2) := by decide +kernel
theorem d19_173 : decode prog_32_method_12_code 173 = .ok (.iconst 3, 1) := by decide +kernel
theorem d19_174 : decode prog_32_method_12_code 174 = .ok (.iadd, 1) := by decide +kernel
theorem d19_175 : decode prog_32_method_12_code 175 = .ok (.bipush 31, 2) := by decide +kernel
theorem d19_177 : decode prog_32_method_12_code 177 = .ok (.iadd, 1) := by decide +kernel
theorem d19_178 : decode prog_32_method_12_code 178 = .ok (.aload_n 0, 1) := by decide +kernel
theorem d19_179 : decode prog_32_method_12_code 179 = .ok (.getfield 23, 3) := by decide +kernel
theorem d19_182 : decode prog_32_method_12_code 182 = .ok (.iload 8, 2) := by decide +kernel
theorem d19_184 : decode prog_32_method_12_code 184 = .ok (.iconst 3, 1) := by decide +kernel
theorem d19_185 : decode prog_32_method_12_code 185 = .ok (.iadd, 1) := by decide +kernel
theorem d19_186 : decode prog_32_method_12_code 186 = .ok (.bipush 31, 2) := by decide +kernel
theorem d19_188 : decode prog_32_method_12_code 188 = .ok (.invokestatic 65, 3) := by decide +kernel
theorem d19_191 : decode prog_32_method_12_code 191 = .ok (.aload_n 0, 1) := by decide +kernel
theorem d19_192 : decode prog_32_method_12_code 192 = .ok (.getfield 23, 3) := by decide +kernel
theorem d19_195 : decode prog_32_method_12_code 195 = .ok (.iload 7, 2) := by decide +kernel
theorem d19_197 : decode prog_32_method_12_code 197 = .ok (.bipush 65, 2) := by decide +kernel
theorem d19_199 : decode prog_32_method_12_code 199 = .ok (.iadd, 1) := by decide +kernel
theorem d19_200 : decode prog_32_method_12_code 200 = .ok (.bipush 31, 2) := by decide +kernel
theorem d19_202 : decode prog_32_method_12_code 202 = .ok (.iadd, 1) := by decide +kernel
theorem d19_203 : decode prog_32_method_12_code 203 = .ok (.aload_n 0, 1) := by decide +kernel
theorem d19_204 : decode prog_32_method_12_code 204 = .ok (.getfield 23, 3) := by decide +kernel
theorem d19_207 : decode prog_32_method_12_code 207 = .ok (.iload 8, 2) := by decide +kernel
theorem d19_209 : decode prog_32_method_12_code 209 = .ok (.bipush 65, 2) := by decide +kernel
theorem d19_211 : decode prog_32_method_12_code 211 = .ok (.iadd, 1) := by decide +kernel
theorem d19_212 : decode prog_32_method_12_code 212 = .ok (.bipush 31, 2) := by decide +kernel
theorem d19_214 : decode prog_32_method_12_code 214 = .ok (.invokestatic 65, 3) := by decide +kernel
theorem d19_217 : decode prog_32_method_12_code 217 = .ok (.iconst 0, 1) := by decide +kernel
theorem d19_218 : decode prog_32_method_12_code 218 = .ok (.istore 9, 2) := by decide +kernel
theorem d19_220 : decode prog_32_method_12_code 220 = .ok (.iload 9, 2) := by decide +kernel
theorem d19_222 : decode prog_32_method_12_code 222 = .ok (.bipush 31, 2) := by decide +kernel
theorem d19_224 : decode prog_32_method_12_code 224 = .ok (.if_icmp .ge 50, 3) := by decide +kernel
theorem d19_227 : decode prog_32_method_12_code 227 = .ok (.aload_n 0, 1) := by decide +kernel
theorem d19_228 : decode prog_32_method_12_code 228 = .ok (.aload_n 0, 1) := by decide +kernel
theorem d19_229 : decode prog_32_method_12_code 229 = .ok (.getfield 23, 3) := by decide +kernel
theorem d19_232 : decode prog_32_method_12_code 232 = .ok (.iload 8, 2) := by decide +kernel
theorem d19_234 : decode prog_32_method_12_code 234 = .ok (.bipush 65, 2) := by decide +kernel
theorem d19_236 : decode prog_32_method_12_code 236 = .ok (.iadd, 1) := by decide +kernel
theorem d19_237 : decode prog_32_method_12_code 237 = .ok (.iload 9, 2) := by decide +kernel
theorem d19_239 : decode prog_32_method_12_code 239 = .ok (.iadd, 1) := by decide +kernel
theorem d19_240 : decode prog_32_method_12_code 240 = .ok (.iaload, 1) := by decide +kernel
theorem d19_241 : decode prog_32_method_12_code 241 = .ok (.iload_n 3, 1) := by decide +kernel
theorem d19_242 : decode prog_32_method_12_code 242 = .ok (.iconst 2, 1) := by decide +kernel
theorem d19_243 : decode prog_32_method_12_code 243 = .ok (.isub, 1) := by decide +kernel
theorem d19_244 : decode prog_32_method_12_code 244 = .ok (.iload 5, 2) := by decide +kernel
theorem d19_246 : decode prog_32_method_12_code 246 = .ok (.iload 9, 2) := by decide +kernel
theorem d19_248 : decode prog_32_method_12_code 248 = .ok (.invokevirtual 78, 3) := by decide +kernel
theorem d19_251 : decode prog_32_method_12_code 251 = .ok (.iload 6, 2) := by decide +kernel
theorem d19_253 : decode prog_32_method_12_code 253 = .ok (.aload_n 0, 1) := by decide +kernel
theorem d19_254 : decode prog_32_method_12_code 254 = .ok (.getfield 23, 3) := by decide +kernel
theorem d19_257 : decode prog_32_method_12_code 257 = .ok (.iload 8, 2) := by decide +kernel
theorem d19_259 : decode prog_32_method_12_code 259 = .ok (.iconst 3, 1) := by decide +kernel
theorem d19_260 : decode prog_32_method_12_code 260 = .ok (.iadd, 1) := by decide +kernel
theorem d19_261 : decode prog_32_method_12_code 261 = .ok (.iload 9, 2) := by decide +kernel
theorem d19_263 : decode prog_32_method_12_code 263 = .ok (.iadd, 1) := by decide +kernel
theorem d19_264 : decode prog_32_method_12_code 264 = .ok (.iaload, 1) := by decide +kernel
theorem d19_265 : decode prog_32_method_12_code 265 = .ok (.iadd, 1) := by decide +kernel
theorem d19_266 : decode prog_32_method_12_code 266 = .ok (.istore 6, 2) := by decide +kernel
theorem d19_268 : decode prog_32_method_12_code 268 = .ok (.iinc 9 1, 3) := by decide +kernel
theorem d19_271 : decode prog_32_method_12_code 271 = .ok (.goto (-51), 3) := by decide +kernel
theorem d19_274 : decode prog_32_method_12_code 274 = .ok (.aload_n 0, 1) := by decide +kernel
theorem d19_275 : decode prog_32_method_12_code 275 = .ok (.getfield 23, 3) := by decide +kernel
theorem d19_278 : decode prog_32_method_12_code 278 = .ok (.iload 7, 2) := by decide +kernel
theorem d19_280 : decode prog_32_method_12_code 280 = .ok (.iconst 2, 1) := by decide +kernel
theorem d19_281 : decode prog_32_method_12_code 281 = .ok (.iadd, 1) := by decide +kernel
theorem d19_282 : decode prog_32_method_12_code 282 = .ok (.bipush 31, 2) := by decide +kernel
theorem d19_284 : decode prog_32_method_12_code 284 = .ok (.iastore, 1) := by decide +kernel
theorem d19_285 : decode prog_32_method_12_code 285 = .ok (.aload_n 0, 1) := by decide +kernel
theorem d19_286 : decode prog_32_method_12_code 286 = .ok (.getfield 23, 3) := by decide +kernel
theorem d19_289 : decode prog_32_method_12_code 289 = .ok (.iload 8, 2) := by decide +kernel
theorem d19_291 : decode prog_32_method_12_code 291 = .ok (.iconst 2, 1) := by decide +kernel
theorem d19_292 : decode prog_32_method_12_code 292 = .ok (.iadd, 1) := by decide +kernel
theorem d19_293 : decode prog_32_method_12_code 293 = .ok (.bipush 31, 2) := by decide +kernel
theorem d19_295 : decode prog_32_method_12_code 295 = .ok (.iastore, 1) := by decide +kernel
theorem d19_296 : decode prog_32_method_12_code 296 = .ok (.iload_n 1, 1) := by decide +kernel
theorem d19_297 : decode prog_32_method_12_code 297 = .ok (.sipush 128, 3) := by decide +kernel
theorem d19_300 : decode prog_32_method_12_code 300 = .ok (.imul, 1) := by decide +kernel
theorem d19_301 : decode prog_32_method_12_code 301 = .ok (.istore 7, 2) := by decide +kernel
theorem d19_303 : decode prog_32_method_12_code 303 = .ok (.aload_n 0, 1) := by decide +kernel
theorem d19_304 : decode prog_32_method_12_code 304 = .ok (.getfield 23, 3) := by decide +kernel
theorem d19_307 : decode prog_32_method_12_code 307 = .ok (.iload 7, 2) := by decide +kernel
theorem d19_309 : decode prog_32_method_12_code 309 = .ok (.iconst 2, 1) := by decide +kernel
theorem d19_310 : decode prog_32_method_12_code 310 = .ok (.iadd, 1) := by decide +kernel
theorem d19_311 : decode prog_32_method_12_code 311 = .ok (.iaload, 1) := by decide +kernel
theorem d19_312 : decode prog_32_method_12_code 312 = .ok (.istore 8, 2) := by decide +kernel
theorem d19_314 : decode prog_32_method_12_code 314 = .ok (.aload_n 0, 1) := by decide +kernel
theorem d19_315 : decode prog_32_method_12_code 315 = .ok (.getfield 23, 3) := by decide +kernel
theorem d19_318 : decode prog_32_method_12_code 318 = .ok (.iload 7, 2) := by decide +kernel
theorem d19_320 : decode prog_32_method_12_code 320 = .ok (.iconst 3, 1) := by decide +kernel
theorem d19_321 : decode prog_32_method_12_code 321 = .ok (.iadd, 1) := by decide +kernel
theorem d19_322 : decode prog_32_method_12_code 322 = .ok (.iload_n 2, 1) := by decide +kernel
theorem d19_323 : decode prog_32_method_12_code 323 = .ok (.iadd, 1) := by decide +kernel
theorem d19_324 : decode prog_32_method_12_code 324 = .ok (.iconst 1, 1) := by decide +kernel
theorem d19_325 : decode prog_32_method_12_code 325 = .ok (.iadd, 1) := by decide +kernel
theorem d19_326 : decode prog_32_method_12_code 326 = .ok (.aload_n 0, 1) := by decide +kernel
theorem d19_327 : decode prog_32_method_12_code 327 = .ok (.getfield 23, 3) := by decide +kernel
theorem d19_330 : decode prog_32_method_12_code 330 = .ok (.iload 7, 2) := by decide +kernel
theorem d19_332 : decode prog_32_method_12_code 332 = .ok (.iconst 3, 1) := by decide +kernel
theorem d19_333 : decode prog_32_method_12_code 333 = .ok (.iadd, 1) := by decide +kernel
theorem d19_334 : decode prog_32_method_12_code 334 = .ok (.iload_n 2, 1) := by decide +kernel
theorem d19_335 : decode prog_32_method_12_code 335 = .ok (.iadd, 1) := by decide +kernel
theorem d19_336 : decode prog_32_method_12_code 336 = .ok (.iconst 2, 1) := by decide +kernel
theorem d19_337 : decode prog_32_method_12_code 337 = .ok (.iadd, 1) := by decide +kernel
theorem d19_338 : decode prog_32_method_12_code 338 = .ok (.iload 8, 2) := by decide +kernel
theorem d19_340 : decode prog_32_method_12_code 340 = .ok (.iload_n 2, 1) := by decide +kernel
theorem d19_341 : decode prog_32_method_12_code 341 = .ok (.isub, 1) := by decide +kernel
theorem d19_342 : decode prog_32_method_12_code 342 = .ok (.iconst 1, 1) := by decide +kernel
theorem d19_343 : decode prog_32_method_12_code 343 = .ok (.isub, 1) := by decide +kernel
theorem d19_344 : decode prog_32_method_12_code 344 = .ok (.invokestatic 65, 3) := by decide +kernel
theorem d19_347 : decode prog_32_method_12_code 347 = .ok (.aload_n 0, 1) := by decide +kernel
theorem d19_348 : decode prog_32_method_12_code 348 = .ok (.getfield 23, 3) := by decide +kernel
theorem d19_351 : decode prog_32_method_12_code 351 = .ok (.iload 7, 2) := by decide +kernel
theorem d19_353 : decode prog_32_method_12_code 353 = .ok (.bipush 65, 2) := by decide +kernel
theorem d19_355 : decode prog_32_method_12_code 355 = .ok (.iadd, 1) := by decide +kernel
theorem d19_356 : decode prog_32_method_12_code 356 = .ok (.iload_n 2, 1) := by decide +kernel
theorem d19_357 : decode prog_32_method_12_code 357 = .ok (.iadd, 1) := by decide +kernel
theorem d19_358 : decode prog_32_method_12_code 358 = .ok (.iconst 1, 1) := by decide +kernel
theorem d19_359 : decode prog_32_method_12_code 359 = .ok (.iadd, 1) := by decide +kernel
theorem d19_360 : decode prog_32_method_12_code 360 = .ok (.aload_n 0, 1) := by decide +kernel
theorem d19_361 : decode prog_32_method_12_code 361 = .ok (.getfield 23, 3) := by decide +kernel
theorem d19_364 : decode prog_32_method_12_code 364 = .ok (.iload 7, 2) := by decide +kernel
theorem d19_366 : decode prog_32_method_12_code 366 = .ok (.bipush 65, 2) := by decide +kernel
theorem d19_368 : decode prog_32_method_12_code 368 = .ok (.iadd, 1) := by decide +kernel
theorem d19_369 : decode prog_32_method_12_code 369 = .ok (.iload_n 2, 1) := by decide +kernel
theorem d19_370 : decode prog_32_method_12_code 370 = .ok (.iadd, 1) := by decide +kernel
theorem d19_371 : decode prog_32_method_12_code 371 = .ok (.iconst 2, 1) := by decide +kernel
theorem d19_372 : decode prog_32_method_12_code 372 = .ok (.iadd, 1) := by decide +kernel
theorem d19_373 : decode prog_32_method_12_code 373 = .ok (.iload 8, 2) := by decide +kernel
theorem d19_375 : decode prog_32_method_12_code 375 = .ok (.iload_n 2, 1) := by decide +kernel
theorem d19_376 : decode prog_32_method_12_code 376 = .ok (.isub, 1) := by decide +kernel
theorem d19_377 : decode prog_32_method_12_code 377 = .ok (.iconst 1, 1) := by decide +kernel
theorem d19_378 : decode prog_32_method_12_code 378 = .ok (.isub, 1) := by decide +kernel
theorem d19_379 : decode prog_32_method_12_code 379 = .ok (.invokestatic 65, 3) := by decide +kernel
theorem d19_382 : decode prog_32_method_12_code 382 = .ok (.aload_n 0, 1) := by decide +kernel
theorem d19_383 : decode prog_32_method_12_code 383 = .ok (.getfield 23, 3) := by decide +kernel
theorem d19_386 : decode prog_32_method_12_code 386 = .ok (.iload 7, 2) := by decide +kernel
theorem d19_388 : decode prog_32_method_12_code 388 = .ok (.iconst 3, 1) := by decide +kernel
theorem d19_389 : decode prog_32_method_12_code 389 = .ok (.iadd, 1) := by decide +kernel
theorem d19_390 : decode prog_32_method_12_code 390 = .ok (.iload_n 2, 1) := by decide +kernel
theorem d19_391 : decode prog_32_method_12_code 391 = .ok (.iadd, 1) := by decide +kernel
theorem d19_392 : decode prog_32_method_12_code 392 = .ok (.dup2, 1) := by decide +kernel
theorem d19_393 : decode prog_32_method_12_code 393 = .ok (.iaload, 1) := by decide +kernel
theorem d19_394 : decode prog_32_method_12_code 394 = .ok (.iload 6, 2) := by decide +kernel
theorem d19_396 : decode prog_32_method_12_code 396 = .ok (.isub, 1) := by decide +kernel
theorem d19_397 : decode prog_32_method_12_code 397 = .ok (.iastore, 1) := by decide +kernel
theorem d19_398 : decode prog_32_method_12_code 398 = .ok (.aload_n 0, 1) := by decide +kernel
theorem d19_399 : decode prog_32_method_12_code 399 = .ok (.getfield 23, 3) := by decide +kernel
theorem d19_402 : decode prog_32_method_12_code 402 = .ok (.iload 7, 2) := by decide +kernel
theorem d19_404 : decode prog_32_method_12_code 404 = .ok (.iconst 3, 1) := by decide +kernel
theorem d19_405 : decode prog_32_method_12_code 405 = .ok (.iadd, 1) := by decide +kernel
theorem d19_406 : decode prog_32_method_12_code 406 = .ok (.iload_n 2, 1) := by decide +kernel
theorem d19_407 : decode prog_32_method_12_code 407 = .ok (.iadd, 1) := by decide +kernel
theorem d19_408 : decode prog_32_method_12_code 408 = .ok (.iconst 1, 1) := by decide +kernel
theorem d19_409 : decode prog_32_method_12_code 409 = .ok (.iadd, 1) := by decide +kernel
theorem d19_410 : decode prog_32_method_12_code 410 = .ok (.iload 6, 2) := by decide +kernel
theorem d19_412 : decode prog_32_method_12_code 412 = .ok (.iastore, 1) := by decide +kernel
theorem d19_413 : decode prog_32_method_12_code 413 = .ok (.aload_n 0, 1) := by decide +kernel
theorem d19_414 : decode prog_32_method_12_code 414 = .ok (.getfield 23, 3) := by decide +kernel
theorem d19_417 : decode prog_32_method_12_code 417 = .ok (.iload 7, 2) := by decide +kernel
theorem d19_419 : decode prog_32_method_12_code 419 = .ok (.bipush 65, 2) := by decide +kernel
theorem d19_421 : decode prog_32_method_12_code 421 = .ok (.iadd, 1) := by decide +kernel
theorem d19_422 : decode prog_32_method_12_code 422 = .ok (.iload_n 2, 1) := by decide +kernel
theorem d19_423 : decode prog_32_method_12_code 423 = .ok (.iadd, 1) := by decide +kernel
theorem d19_424 : decode prog_32_method_12_code 424 = .ok (.iconst 1, 1) := by decide +kernel
theorem d19_425 : decode prog_32_method_12_code 425 = .ok (.iadd, 1) := by decide +kernel
theorem d19_426 : decode prog_32_method_12_code 426 = .ok (.iload 5, 2) := by decide +kernel
theorem d19_428 : decode prog_32_method_12_code 428 = .ok (.iastore, 1) := by decide +kernel
theorem d19_429 : decode prog_32_method_12_code 429 = .ok (.aload_n 0, 1) := by decide +kernel
theorem d19_430 : decode prog_32_method_12_code 430 = .ok (.getfield 23, 3) := by decide +kernel
theorem d19_433 : decode prog_32_method_12_code 433 = .ok (.iload 7, 2) := by decide +kernel
theorem d19_435 : decode prog_32_method_12_code 435 = .ok (.iconst 2, 1) := by decide +kernel
theorem d19_436 : decode prog_32_method_12_code 436 = .ok (.iadd, 1) := by decide +kernel
theorem d19_437 : decode prog_32_method_12_code 437 = .ok (.iload 8, 2) := by decide +kernel
theorem d19_439 : decode prog_32_method_12_code 439 = .ok (.iconst 1, 1) := by decide +kernel
theorem d19_440 : decode prog_32_method_12_code 440 = .ok (.iadd, 1) := by decide +kernel
theorem d19_441 : decode prog_32_method_12_code 441 = .ok (.iastore, 1) := by decide +kernel
theorem d19_442 : decode prog_32_method_12_code 442 = .ok (.iload_n 2, 1) := by decide +kernel
theorem d19_443 : decode prog_32_method_12_code 443 = .ok (.iconst 1, 1) := by decide +kernel
theorem d19_444 : decode prog_32_method_12_code 444 = .ok (.iadd, 1) := by decide +kernel
theorem d19_445 : decode prog_32_method_12_code 445 = .ok (.istore 9, 2) := by decide +kernel
theorem d19_447 : decode prog_32_method_12_code 447 = .ok (.iload 9, 2) := by decide +kernel
theorem d19_449 : decode prog_32_method_12_code 449 = .ok (.iload 8, 2) := by decide +kernel
theorem d19_451 : decode prog_32_method_12_code 451 = .ok (.if_icmp .gt 32, 3) := by decide +kernel
theorem d19_454 : decode prog_32_method_12_code 454 = .ok (.aload_n 0, 1) := by decide +kernel
theorem d19_455 : decode prog_32_method_12_code 455 = .ok (.aload_n 0, 1) := by decide +kernel
theorem d19_456 : decode prog_32_method_12_code 456 = .ok (.getfield 23, 3) := by decide +kernel
theorem d19_459 : decode prog_32_method_12_code 459 = .ok (.iload 7, 2) := by decide +kernel
theorem d19_461 : decode prog_32_method_12_code 461 = .ok (.bipush 65, 2) := by decide +kernel
theorem d19_463 : decode prog_32_method_12_code 463 = .ok (.iadd, 1) := by decide +kernel
theorem d19_464 : decode prog_32_method_12_code 464 = .ok (.iload 9, 2) := by decide +kernel
theorem d19_466 : decode prog_32_method_12_code 466 = .ok (.iadd, 1) := by decide +kernel
theorem d19_467 : decode prog_32_method_12_code 467 = .ok (.iaload, 1) := by decide +kernel
theorem d19_468 : decode prog_32_method_12_code 468 = .ok (.iload_n 3, 1) := by decide +kernel
theorem d19_469 : decode prog_32_method_12_code 469 = .ok (.iconst 1, 1) := by decide +kernel
theorem d19_470 : decode prog_32_method_12_code 470 = .ok (.isub, 1) := by decide +kernel
theorem d19_471 : decode prog_32_method_12_code 471 = .ok (.iload_n 1, 1) := by decide +kernel
theorem d19_472 : decode prog_32_method_12_code 472 = .ok (.iload 9, 2) := by decide +kernel
theorem d19_474 : decode prog_32_method_12_code 474 = .ok (.invokevirtual 78, 3) := by decide +kernel
theorem d19_477 : decode prog_32_method_12_code 477 = .ok (.iinc 9 1, 3) := by decide +kernel
theorem d19_480 : decode prog_32_method_12_code 480 = .ok (.goto (-33), 3) := by decide +kernel
theorem d19_483 : decode prog_32_method_12_code 483 = .ok (.return_, 1) := by decide +kernel
set_option maxRecDepth 65536 in
set_option maxHeartbeats 40000000 in
theorem m19 (l : Launch) (Z : State) (a0 : Array Value) (w : ∀ (i : Nat) {d : Jvm.Cond}, tables_1[i]? = some d → d.before a0 Z = true) (t : Addr) (lb ib lo : Addr) (lv zL zI zO n0 : Nat) (fL fI fO : Nat → Int32)(n' B : Nat) (pre : Nat → Nat) (h0 : Heap) (Z0 : n0 ≤ h0.size) (D0 : own_D n0 t lb ib lo) (S0 : own_S Z h0 t lb ib lo lv 2 1 2 0 zL zI zO fL fI fO)(P : own_Pr 62 n' B pre) (hn' : n' ≤ 4096) (hzI : 1024 ≤ zI) (hzI2 : zI < 1000000) (hzL : 128 * 62 ≤ zL) (hzL2 : zL < 1000000) (H62 : own_Q62 pre fL fI) :
    Own.Met l Z (⟨"com/example/frontrank/frontrank/OrderTree", "split", "(III)V"⟩ : MethodName) prog_32_method_12_code 10 none [] ({ frames := 1, cells := 0, slots := 0, locals := 18 } : Room) #[(.ref t), (.int (Own.N (1))), (.int (Own.N (0))), (.int (Own.N (2)))] h0 (fun v h L' => v = none ∧ Fr n0 L' ∧ Keep h0 h [t, lb, ib, lo] ∧ ∃ fL' fI', own_S Z h t lb ib lo lv 3 1 2 0 zL zI zO fL' fI' fO ∧ own_H2 62 2 1 own_nd2 pre fL' fI' ∧ ∀ j, j < 62 → ∀ o, 2 ≤ o → o < 64 → fL' (j * 64 + o) = fL (j * 64 + o)) := by
  refine Own.Met.of (plainFor_of_name (by first | (simp [plainName, overriddenIn]; done) | decide +kernel)) ?_
  intro p e s m below meth c T0 hx hby hml hown hnm hret hlk hZ X0 e0
  have hown : s.vm.findClass "com/example/frontrank/frontrank/OrderTree" = some m.cls := hown
  have hml : c.maxLocals = 10 := hml
  have hnm : meth.name = "split" := hnm
  have ef : entryFrame m #[(.ref t), (.int (Own.N (1))), (.int (Own.N (0))), (.int (Own.N (2)))] 10 = mkF m 0 #[.val (.ref t), .val (.int (Own.N (1))), .val (.int (Own.N (0))), .val (.int (Own.N (2))), .unset, .unset, .unset, .unset, .unset, .unset] [] := by first | (simp [entryFrame, mkF, argsToLocals, Value.category]; done) | rfl
  rw [ef]
  have H62' := H62
  have N0 := Fr.nil n0
  have D00 := D0
  obtain ⟨ne_t_lb, ne_t_ib, ne_t_lo, ne_lb_ib, ne_lb_lo, ne_ib_lo, g_t, g_lb, g_ib, g_lo⟩ := D0
  obtain ⟨E_0, Fleaks_0, Fleaes_0, Finnks_0, Finnrs_0, FleaOf_0, Frooot_0, Fheiht_0, Fregar_0, Clb_0, Cib_0, Clo_0⟩ := S0
  obtain ⟨q_1, q_2, q_3, q_4, q_5, q_6, q_7, q_8⟩ := H62
  have mo : ∀ a b, a ≤ b → b ≤ 62 → pre a ≤ pre b := fun a b r s => own_mono P r s
  have bd := own_bound P (j := 62) (Nat.le_refl _)
  have p31 := mo 31 62 (by omega) (by omega)
  refine Own.aloadN 1 X0 hx (hb hby d19_0) rfl rfl rfl ?_
  refine Own.getFld 4 X0 hx hZ hown (host := "") (Or.inl (w 14 rfl)) Via.refl e0 Finnks_0 (hb hby d19_1) rfl ?_
  intro T1 X1 e1
  refine Own.iloadN 5 X1 hx (hb hby d19_4) rfl rfl ?_
  refine Own.sipush 8 X1 hx (Own.N 128) (hb hby d19_5) rfl rfl ?_
  refine Own.imul 9 X1 hx (hb hby d19_8) rfl (Own.N_mul _ _) ?_
  refine Own.bipush 11 X1 hx (Own.N 65) (hb hby d19_9) rfl rfl ?_
  refine Own.iadd 12 X1 hx (hb hby d19_11) rfl (Own.N_add _ _) ?_
  refine Own.iloadN 13 X1 hx (hb hby d19_12) rfl rfl ?_
  refine Own.iadd 14 X1 hx (hb hby d19_13) rfl (Own.N_add _ _) ?_
  refine Own.nLoad 15 (Own.N (0)) X1 hx hZ e1 Cib_0 (by omega) q_3 (hb hby d19_14) rfl ?_
  refine Own.istoreV 17 #[.val (.ref t), .val (.int (Own.N (1))), .val (.int (Own.N (0))), .val (.int (Own.N (2))), .val (.int (Own.N (0))), .unset, .unset, .unset, .unset, .unset] X1 hx (hb hby d19_15) rfl rfl ?_
  refine Own.iconst 18 X1 hx (Own.N 0) (hb hby d19_17) rfl rfl ?_
  refine Own.istoreV 20 #[.val (.ref t), .val (.int (Own.N (1))), .val (.int (Own.N (0))), .val (.int (Own.N (2))), .val (.int (Own.N (0))), .unset, .val (.int (Own.N (0))), .unset, .unset, .unset] X1 hx (hb hby d19_18) rfl rfl ?_
  refine Own.iloadN 21 X1 hx (hb hby d19_20) rfl rfl ?_
  refine Own.iconst 22 X1 hx (Own.N 1) (hb hby d19_21) rfl rfl ?_
  refine Own.nicmp_ne 145 25 X1 hx (hb hby d19_22) (by decide) rfl (by omega) (by omega) (fun tk => ?_) (fun tk => False.elim (by omega))
  refine Own.aloadN 146 X1 hx (hb hby d19_145) rfl rfl rfl ?_
  refine Own.callPr 149 0 t [] [] X1 hx hZ hown (m5 l Z a0 w t lb ib lo _ _ _ _ _ _ _ _ n0 _ _ _ _ Z0 D00 ⟨E_0, Fleaks_0, Fleaes_0, Finnks_0, Finnrs_0, FleaOf_0, Frooot_0, Fheiht_0, Fregar_0, Clb_0, Cib_0, Clo_0⟩ (by omega) (by omega)) E_0 (w 36 rfl) (w 38 rfl) (w 3 rfl) (w 37 rfl) (w 4 rfl) (w 39 rfl) (by decide) e1 (by decide) (by decide) (by decide) (by decide) (by rw [hml]; rfl) (lenOf pd_2 rfl) rfl (Nat.le_of_eq rfl) (hb hby d19_146) rfl ?_
  rintro vv T2 L2 X2 ⟨rfl, N2q, K2, S2⟩
  have N2 := Fr.app N0 N2q
  have Ef_4 := E_0.keep K2
  have zl2 := Nat.le_trans Z0 K2.1
  have KK2 := (Keep.refl h0 [t, lb, ib, lo]).trans K2 (allS (Or.inl (List.mem_of_getElem? (i := 0) rfl)) (allS (Or.inl (List.mem_of_getElem? (i := 1) rfl)) (allS (Or.inl (List.mem_of_getElem? (i := 2) rfl)) (allS (Or.inl (List.mem_of_getElem? (i := 3) rfl)) all0))))
  obtain ⟨E_2, Fleaks_2, Fleaes_2, Finnks_2, Finnrs_2, FleaOf_2, Frooot_2, Fheiht_2, Fregar_2, Clb_2, Cib_2, Clo_2⟩ := S2
  refine Own.istoreV 151 #[.val (.ref t), .val (.int (Own.N (1))), .val (.int (Own.N (0))), .val (.int (Own.N (2))), .val (.int (Own.N (0))), .val (.int (Own.N (2))), .val (.int (Own.N (0))), .unset, .unset, .unset] X2 hx (hb hby d19_149) rfl rfl ?_
  refine Own.iload 153 X2 hx (hb hby d19_151) rfl rfl ?_
  refine Own.sipush 156 X2 hx (Own.N 128) (hb hby d19_153) rfl rfl ?_
  refine Own.imul 157 X2 hx (hb hby d19_156) rfl (Own.N_mul _ _) ?_
  refine Own.istoreV 159 #[.val (.ref t), .val (.int (Own.N (1))), .val (.int (Own.N (0))), .val (.int (Own.N (2))), .val (.int (Own.N (0))), .val (.int (Own.N (2))), .val (.int (Own.N (0))), .val (.int (Own.N (0 * 128))), .unset, .unset] X2 hx (hb hby d19_157) rfl rfl ?_
  refine Own.iload 161 X2 hx (hb hby d19_159) rfl rfl ?_
  refine Own.sipush 164 X2 hx (Own.N 128) (hb hby d19_161) rfl rfl ?_
  refine Own.imul 165 X2 hx (hb hby d19_164) rfl (Own.N_mul _ _) ?_
  refine Own.istoreV 167 #[.val (.ref t), .val (.int (Own.N (1))), .val (.int (Own.N (0))), .val (.int (Own.N (2))), .val (.int (Own.N (0))), .val (.int (Own.N (2))), .val (.int (Own.N (0))), .val (.int (Own.N (0 * 128))), .val (.int (Own.N (2 * 128))), .unset] X2 hx (hb hby d19_165) rfl rfl ?_
  refine Own.aloadN 168 X2 hx (hb hby d19_167) rfl rfl rfl ?_
  refine Own.getFld 171 X2 hx hZ hown (host := "") (Or.inl (w 14 rfl)) Via.refl rfl Finnks_2 (hb hby d19_168) rfl ?_
  intro T16 X16 e16
  refine Own.iload 173 X16 hx (hb hby d19_171) rfl rfl ?_
  refine Own.iconst 174 X16 hx (Own.N 3) (hb hby d19_173) rfl rfl ?_
  refine Own.iadd 175 X16 hx (hb hby d19_174) rfl (Own.N_add _ _) ?_
  refine Own.bipush 177 X16 hx (Own.N 31) (hb hby d19_175) rfl rfl ?_
  refine Own.iadd 178 X16 hx (hb hby d19_177) rfl (Own.N_add _ _) ?_
  refine Own.aloadN 179 X16 hx (hb hby d19_178) rfl rfl rfl ?_
  refine Own.getFld 182 X16 hx hZ hown (host := "") (Or.inl (w 14 rfl)) Via.refl e16 Finnks_2 (hb hby d19_179) rfl ?_
  intro T17 X17 e17
  refine Own.iload 184 X17 hx (hb hby d19_182) rfl rfl ?_
  refine Own.iconst 185 X17 hx (Own.N 3) (hb hby d19_184) rfl rfl ?_
  refine Own.iadd 186 X17 hx (hb hby d19_185) rfl (Own.N_add _ _) ?_
  refine Own.bipush 188 X17 hx (Own.N 31) (hb hby d19_186) rfl rfl ?_
  refine Own.nCopy 191 0 X17 hx hZ hown (w 28 rfl) (w 31 rfl) (w 29 rfl) (w 30 rfl) e17 Cib_2 Cib_2 (by omega) (by omega) N2 g_ib (by rw [hml]; rfl) (hb hby d19_188) rfl (by decide) (Nat.le_of_eq rfl) (by decide) ?_
  intro T18 h18 L18 X18 e18 N18 K18 C18
  have Ef_20 := E_2.keep K18
  have Ff_21 := Fleaks_2.keep K18 (ninS ne_t_ib nin0)
  have Ff_22 := Fleaes_2.keep K18 (ninS ne_t_ib nin0)
  have Ff_23 := Finnks_2.keep K18 (ninS ne_t_ib nin0)
  have Ff_24 := Finnrs_2.keep K18 (ninS ne_t_ib nin0)
  have Ff_25 := FleaOf_2.keep K18 (ninS ne_t_ib nin0)
  have Ff_26 := Frooot_2.keep K18 (ninS ne_t_ib nin0)
  have Ff_27 := Fheiht_2.keep K18 (ninS ne_t_ib nin0)
  have Ff_28 := Fregar_2.keep K18 (ninS ne_t_ib nin0)
  have Cf_29 := Clb_2.keep K18 (ninS ne_lb_ib nin0)
  have Cf_30 := Clo_2.keep K18 (ninS (Ne.symm ne_ib_lo) nin0)
  have KK18 := KK2.trans K18 (allS (Or.inl (List.mem_of_getElem? (i := 2) rfl)) all0)
  have zl18 := Nat.le_trans zl2 K18.1
  refine Own.aloadN 192 X18 hx (hb hby d19_191) rfl rfl rfl ?_
  refine Own.getFld 195 X18 hx hZ hown (host := "") (Or.inl (w 14 rfl)) Via.refl e18 Ff_23 (hb hby d19_192) rfl ?_
  intro T31 X31 e31
  refine Own.iload 197 X31 hx (hb hby d19_195) rfl rfl ?_
  refine Own.bipush 199 X31 hx (Own.N 65) (hb hby d19_197) rfl rfl ?_
  refine Own.iadd 200 X31 hx (hb hby d19_199) rfl (Own.N_add _ _) ?_
  refine Own.bipush 202 X31 hx (Own.N 31) (hb hby d19_200) rfl rfl ?_
  refine Own.iadd 203 X31 hx (hb hby d19_202) rfl (Own.N_add _ _) ?_
  refine Own.aloadN 204 X31 hx (hb hby d19_203) rfl rfl rfl ?_
  refine Own.getFld 207 X31 hx hZ hown (host := "") (Or.inl (w 14 rfl)) Via.refl e31 Ff_23 (hb hby d19_204) rfl ?_
  intro T32 X32 e32
  refine Own.iload 209 X32 hx (hb hby d19_207) rfl rfl ?_
  refine Own.bipush 211 X32 hx (Own.N 65) (hb hby d19_209) rfl rfl ?_
  refine Own.iadd 212 X32 hx (hb hby d19_211) rfl (Own.N_add _ _) ?_
  refine Own.bipush 214 X32 hx (Own.N 31) (hb hby d19_212) rfl rfl ?_
  refine Own.nCopy 217 0 X32 hx hZ hown (w 28 rfl) (w 31 rfl) (w 29 rfl) (w 30 rfl) e32 C18 C18 (by omega) (by omega) N18 g_ib (by rw [hml]; rfl) (hb hby d19_214) rfl (by decide) (Nat.le_of_eq rfl) (by decide) ?_
  intro T33 h33 L33 X33 e33 N33 K33 C33
  have Ef_35 := Ef_20.keep K33
  have Ff_36 := Ff_21.keep K33 (ninS ne_t_ib nin0)
  have Ff_37 := Ff_22.keep K33 (ninS ne_t_ib nin0)
  have Ff_38 := Ff_23.keep K33 (ninS ne_t_ib nin0)
  have Ff_39 := Ff_24.keep K33 (ninS ne_t_ib nin0)
  have Ff_40 := Ff_25.keep K33 (ninS ne_t_ib nin0)
  have Ff_41 := Ff_26.keep K33 (ninS ne_t_ib nin0)
  have Ff_42 := Ff_27.keep K33 (ninS ne_t_ib nin0)
  have Ff_43 := Ff_28.keep K33 (ninS ne_t_ib nin0)
  have Cf_44 := Cf_29.keep K33 (ninS ne_lb_ib nin0)
  have Cf_45 := Cf_30.keep K33 (ninS (Ne.symm ne_ib_lo) nin0)
  have KK33 := KK18.trans K33 (allS (Or.inl (List.mem_of_getElem? (i := 2) rfl)) all0)
  have zl33 := Nat.le_trans zl18 K33.1
  refine Own.iconst 218 X33 hx (Own.N 0) (hb hby d19_217) rfl rfl ?_
  refine Own.istoreV 220 #[.val (.ref t), .val (.int (Own.N (1))), .val (.int (Own.N (0))), .val (.int (Own.N (2))), .val (.int (Own.N (0))), .val (.int (Own.N (2))), .val (.int (Own.N (0))), .val (.int (Own.N (0 * 128))), .val (.int (Own.N (2 * 128))), .val (.int (Own.N (0)))] X33 hx (hb hby d19_218) rfl rfl ?_
  have r1 : ∀ k, k < 31 → (Own.cpy (Own.cpy (Own.upd fI (2 * 128 + 2) (Own.N 0)) (((0 * 128) + 3) + 31) (Own.upd fI (2 * 128 + 2) (Own.N 0)) ((2 * 128) + 3) (31)) (((0 * 128) + 65) + 31) (Own.cpy (Own.upd fI (2 * 128 + 2) (Own.N 0)) (((0 * 128) + 3) + 31) (Own.upd fI (2 * 128 + 2) (Own.N 0)) ((2 * 128) + 3) (31)) ((2 * 128) + 65) (31)) (2 * 128 + 65 + k) = Own.N (31 + k) ∧ (Own.cpy (Own.cpy (Own.upd fI (2 * 128 + 2) (Own.N 0)) (((0 * 128) + 3) + 31) (Own.upd fI (2 * 128 + 2) (Own.N 0)) ((2 * 128) + 3) (31)) (((0 * 128) + 65) + 31) (Own.cpy (Own.upd fI (2 * 128 + 2) (Own.N 0)) (((0 * 128) + 3) + 31) (Own.upd fI (2 * 128 + 2) (Own.N 0)) ((2 * 128) + 3) (31)) ((2 * 128) + 65) (31)) (2 * 128 + 3 + k) = Own.N (pre (31 + k + 1) - pre (31 + k)) := by
    intro k hk
    obtain ⟨-, -, w3, w4⟩ := q_8 (31 + k) (by omega)
    exact ⟨by rw [Own.cpy_in (by omega), Own.cpy_out (by omega), Own.upd_miss (by omega)]; exact Own.at_ (by omega) w4, by rw [Own.cpy_out (by omega), Own.cpy_in (by omega), Own.upd_miss (by omega)]; exact Own.at_ (by omega) w3⟩
  have J220 : ∀ (kk k9 mv : Nat) (gL1 : Nat → Int32) (Tq : State) (Lq : List Loc) (hq : Heap) (Xq : Stand p l e ({ frames := 1, cells := 0, slots := 0, locals := 18 } : Room) s m #[(.ref t), (.int (Own.N (1))), (.int (Own.N (0))), (.int (Own.N (2)))] below meth c Tq Lq 0 0) (eqq : Tq.heap = hq) (Nq : Fr n0 Lq) (Kq : Keep h0 hq [t, lb, ib, lo]) (Sq : own_S Z hq t lb ib lo lv (2 + 1) 1 2 0 zL zI zO gL1 (Own.cpy (Own.cpy (Own.upd fI (2 * 128 + 2) (Own.N 0)) (((0 * 128) + 3) + 31) (Own.upd fI (2 * 128 + 2) (Own.N 0)) ((2 * 128) + 3) (31)) (((0 * 128) + 65) + 31) (Own.cpy (Own.upd fI (2 * 128 + 2) (Own.N 0)) (((0 * 128) + 3) + 31) (Own.upd fI (2 * 128 + 2) (Own.N 0)) ((2 * 128) + 3) (31)) ((2 * 128) + 65) (31)) fO) (hmv : mv = pre (31 + k9) - pre 31) (IL : ∀ j, j < k9 → gL1 ((31 + j) * 64) = Own.N 2 ∧ gL1 ((31 + j) * 64 + 1) = Own.N j) (IK : ∀ j o, j < 62 → o < 64 → (2 ≤ o ∨ j < 31) → gL1 (j * 64 + o) = fL (j * 64 + o)) (hc : k9 ≤ 31) (hk : 31 - k9 < kk), Own.Ends p.tables e below (fun v h L' => v = none ∧ Fr n0 L' ∧ Keep h0 h [t, lb, ib, lo] ∧ ∃ fL' fI', own_S Z h t lb ib lo lv 3 1 2 0 zL zI zO fL' fI' fO ∧ own_H2 62 2 1 own_nd2 pre fL' fI' ∧ ∀ j, j < 62 → ∀ o, 2 ≤ o → o < 64 → fL' (j * 64 + o) = fL (j * 64 + o)) (Own.FE s ({ frames := 1, cells := 0, slots := 0, locals := 18 } : Room).cells ({ frames := 1, cells := 0, slots := 0, locals := 18 } : Room).slots) (Tq.setTop (mkF m 220 #[.val (.ref t), .val (.int (Own.N (1))), .val (.int (Own.N (0))), .val (.int (Own.N (2))), .val (.int (Own.N (0))), .val (.int (Own.N (2))), .val (.int (Own.N (mv))), .val (.int (Own.N (0 * 128))), .val (.int (Own.N (2 * 128))), .val (.int (Own.N (k9)))] [])) := by
    intro kk
    induction kk with
    | zero => intros; exfalso; omega
    | succ kk ih =>
      intro k9 mv gL1 Tq Lq hq Xq eqq Nq Kq Sq hmv IL IK hc hk
      have zlq := Nat.le_trans Z0 Kq.1
      obtain ⟨E_46, Fleaks_46, Fleaes_46, Finnks_46, Finnrs_46, FleaOf_46, Frooot_46, Fheiht_46, Fregar_46, Clb_46, Cib_46, Clo_46⟩ := Sq
      refine Own.iload 222 Xq hx (hb hby d19_220) rfl rfl ?_
      refine Own.bipush 224 Xq hx (Own.N 31) (hb hby d19_222) rfl rfl ?_
      refine Own.nicmp_ge 274 227 Xq hx (hb hby d19_224) (by decide) rfl (by omega) (by omega) (fun tk => ?_) (fun tk => ?_)
      ·
        obtain rfl : k9 = 31 := by omega
        have hmv2 : mv = pre 62 - pre 31 := hmv
        refine Own.aloadN 275 Xq hx (hb hby d19_274) rfl rfl rfl ?_
        refine Own.getFld 278 Xq hx hZ hown (host := "") (Or.inl (w 14 rfl)) Via.refl eqq Finnks_46 (hb hby d19_275) rfl ?_
        intro T47 X47 e47
        refine Own.iload 280 X47 hx (hb hby d19_278) rfl rfl ?_
        refine Own.iconst 281 X47 hx (Own.N 2) (hb hby d19_280) rfl rfl ?_
        refine Own.iadd 282 X47 hx (hb hby d19_281) rfl (Own.N_add _ _) ?_
        refine Own.bipush 284 X47 hx (Own.N 31) (hb hby d19_282) rfl rfl ?_
        refine Own.nStore 285 X47 hx hZ e47 Cib_46 (by omega) (hb hby d19_284) rfl ?_
        intro T48 h48 X48 e48 W48 C48
        have N48 := Fr.snoc X48 Nq g_ib
        have Ef_50 := E_46.wr W48
        have Ff_51 := Fleaks_46.other W48 (Or.inl ne_t_ib)
        have Ff_52 := Fleaes_46.other W48 (Or.inl ne_t_ib)
        have Ff_53 := Finnks_46.other W48 (Or.inl ne_t_ib)
        have Ff_54 := Finnrs_46.other W48 (Or.inl ne_t_ib)
        have Ff_55 := FleaOf_46.other W48 (Or.inl ne_t_ib)
        have Ff_56 := Frooot_46.other W48 (Or.inl ne_t_ib)
        have Ff_57 := Fheiht_46.other W48 (Or.inl ne_t_ib)
        have Ff_58 := Fregar_46.other W48 (Or.inl ne_t_ib)
        have Cf_59 := Clb_46.other W48 ne_lb_ib
        have Cf_61 := Clo_46.other W48 (Ne.symm ne_ib_lo)
        have zl48 := Nat.le_trans zlq (Nat.le_of_eq W48.size.symm)
        have K48 := Kq.wr W48 (Or.inl (List.mem_of_getElem? (i := 2) rfl))
        refine Own.aloadN 286 X48 hx (hb hby d19_285) rfl rfl rfl ?_
        refine Own.getFld 289 X48 hx hZ hown (host := "") (Or.inl (w 14 rfl)) Via.refl e48 Ff_53 (hb hby d19_286) rfl ?_
        intro T62 X62 e62
        refine Own.iload 291 X62 hx (hb hby d19_289) rfl rfl ?_
        refine Own.iconst 292 X62 hx (Own.N 2) (hb hby d19_291) rfl rfl ?_
        refine Own.iadd 293 X62 hx (hb hby d19_292) rfl (Own.N_add _ _) ?_
        refine Own.bipush 295 X62 hx (Own.N 31) (hb hby d19_293) rfl rfl ?_
        refine Own.nStore 296 X62 hx hZ e62 C48 (by omega) (hb hby d19_295) rfl ?_
        intro T63 h63 X63 e63 W63 C63
        have N63 := Fr.snoc X63 N48 g_ib
        have Ef_65 := Ef_50.wr W63
        have Ff_66 := Ff_51.other W63 (Or.inl ne_t_ib)
        have Ff_67 := Ff_52.other W63 (Or.inl ne_t_ib)
        have Ff_68 := Ff_53.other W63 (Or.inl ne_t_ib)
        have Ff_69 := Ff_54.other W63 (Or.inl ne_t_ib)
        have Ff_70 := Ff_55.other W63 (Or.inl ne_t_ib)
        have Ff_71 := Ff_56.other W63 (Or.inl ne_t_ib)
        have Ff_72 := Ff_57.other W63 (Or.inl ne_t_ib)
        have Ff_73 := Ff_58.other W63 (Or.inl ne_t_ib)
        have Cf_74 := Cf_59.other W63 ne_lb_ib
        have Cf_75 := Cf_61.other W63 (Ne.symm ne_ib_lo)
        have zl63 := Nat.le_trans zl48 (Nat.le_of_eq W63.size.symm)
        have K63 := K48.wr W63 (Or.inl (List.mem_of_getElem? (i := 2) rfl))
        refine Own.iloadN 297 X63 hx (hb hby d19_296) rfl rfl ?_
        refine Own.sipush 300 X63 hx (Own.N 128) (hb hby d19_297) rfl rfl ?_
        refine Own.imul 301 X63 hx (hb hby d19_300) rfl (Own.N_mul _ _) ?_
        refine Own.istoreV 303 #[.val (.ref t), .val (.int (Own.N (1))), .val (.int (Own.N (0))), .val (.int (Own.N (2))), .val (.int (Own.N (0))), .val (.int (Own.N (2))), .val (.int (Own.N (mv))), .val (.int (Own.N (1 * 128))), .val (.int (Own.N (2 * 128))), .val (.int (Own.N (31)))] X63 hx (hb hby d19_301) rfl rfl ?_
        refine Own.aloadN 304 X63 hx (hb hby d19_303) rfl rfl rfl ?_
        refine Own.getFld 307 X63 hx hZ hown (host := "") (Or.inl (w 14 rfl)) Via.refl e63 Ff_68 (hb hby d19_304) rfl ?_
        intro T77 X77 e77
        refine Own.iload 309 X77 hx (hb hby d19_307) rfl rfl ?_
        refine Own.iconst 310 X77 hx (Own.N 2) (hb hby d19_309) rfl rfl ?_
        refine Own.iadd 311 X77 hx (hb hby d19_310) rfl (Own.N_add _ _) ?_
        refine Own.nLoad 312 (Own.N (1)) X77 hx hZ e77 C63 (by omega) (by (repeat (first | rw [Own.upd_miss (by omega)] | rw [Own.cpy_out (by omega)])) <;> exact q_1) (hb hby d19_311) rfl ?_
        refine Own.istoreV 314 #[.val (.ref t), .val (.int (Own.N (1))), .val (.int (Own.N (0))), .val (.int (Own.N (2))), .val (.int (Own.N (0))), .val (.int (Own.N (2))), .val (.int (Own.N (mv))), .val (.int (Own.N (1 * 128))), .val (.int (Own.N (1))), .val (.int (Own.N (31)))] X77 hx (hb hby d19_312) rfl rfl ?_
        refine Own.aloadN 315 X77 hx (hb hby d19_314) rfl rfl rfl ?_
        refine Own.getFld 318 X77 hx hZ hown (host := "") (Or.inl (w 14 rfl)) Via.refl e77 Ff_68 (hb hby d19_315) rfl ?_
        intro T78 X78 e78
        refine Own.iload 320 X78 hx (hb hby d19_318) rfl rfl ?_
        refine Own.iconst 321 X78 hx (Own.N 3) (hb hby d19_320) rfl rfl ?_
        refine Own.iadd 322 X78 hx (hb hby d19_321) rfl (Own.N_add _ _) ?_
        refine Own.iloadN 323 X78 hx (hb hby d19_322) rfl rfl ?_
        refine Own.iadd 324 X78 hx (hb hby d19_323) rfl (Own.N_add _ _) ?_
        refine Own.iconst 325 X78 hx (Own.N 1) (hb hby d19_324) rfl rfl ?_
        refine Own.iadd 326 X78 hx (hb hby d19_325) rfl (Own.N_add _ _) ?_
        refine Own.aloadN 327 X78 hx (hb hby d19_326) rfl rfl rfl ?_
        refine Own.getFld 330 X78 hx hZ hown (host := "") (Or.inl (w 14 rfl)) Via.refl e78 Ff_68 (hb hby d19_327) rfl ?_
        intro T79 X79 e79
        refine Own.iload 332 X79 hx (hb hby d19_330) rfl rfl ?_
        refine Own.iconst 333 X79 hx (Own.N 3) (hb hby d19_332) rfl rfl ?_
        refine Own.iadd 334 X79 hx (hb hby d19_333) rfl (Own.N_add _ _) ?_
        refine Own.iloadN 335 X79 hx (hb hby d19_334) rfl rfl ?_
        refine Own.iadd 336 X79 hx (hb hby d19_335) rfl (Own.N_add _ _) ?_
        refine Own.iconst 337 X79 hx (Own.N 2) (hb hby d19_336) rfl rfl ?_
        refine Own.iadd 338 X79 hx (hb hby d19_337) rfl (Own.N_add _ _) ?_
        refine Own.iload 340 X79 hx (hb hby d19_338) rfl rfl ?_
        refine Own.iloadN 341 X79 hx (hb hby d19_340) rfl rfl ?_
        refine Own.isub 342 X79 hx (hb hby d19_341) rfl (Own.N_sub (by omega)) ?_
        refine Own.iconst 343 X79 hx (Own.N 1) (hb hby d19_342) rfl rfl ?_
        refine Own.isub 344 X79 hx (hb hby d19_343) rfl (Own.N_sub (by omega)) ?_
        refine Own.nCopy 347 0 X79 hx hZ hown (w 28 rfl) (w 31 rfl) (w 29 rfl) (w 30 rfl) e79 C63 C63 (by omega) (by omega) N63 g_ib (by rw [hml]; rfl) (hb hby d19_344) rfl (by decide) (Nat.le_of_eq rfl) (by decide) ?_
        intro T80 h80 L80 X80 e80 N80 K80 C80
        have Ef_82 := Ef_65.keep K80
        have Ff_83 := Ff_66.keep K80 (ninS ne_t_ib nin0)
        have Ff_84 := Ff_67.keep K80 (ninS ne_t_ib nin0)
        have Ff_85 := Ff_68.keep K80 (ninS ne_t_ib nin0)
        have Ff_86 := Ff_69.keep K80 (ninS ne_t_ib nin0)
        have Ff_87 := Ff_70.keep K80 (ninS ne_t_ib nin0)
        have Ff_88 := Ff_71.keep K80 (ninS ne_t_ib nin0)
        have Ff_89 := Ff_72.keep K80 (ninS ne_t_ib nin0)
        have Ff_90 := Ff_73.keep K80 (ninS ne_t_ib nin0)
        have Cf_91 := Cf_74.keep K80 (ninS ne_lb_ib nin0)
        have Cf_92 := Cf_75.keep K80 (ninS (Ne.symm ne_ib_lo) nin0)
        have KK80 := K63.trans K80 (allS (Or.inl (List.mem_of_getElem? (i := 2) rfl)) all0)
        have zl80 := Nat.le_trans zl63 K80.1
        refine Own.aloadN 348 X80 hx (hb hby d19_347) rfl rfl rfl ?_
        refine Own.getFld 351 X80 hx hZ hown (host := "") (Or.inl (w 14 rfl)) Via.refl e80 Ff_85 (hb hby d19_348) rfl ?_
        intro T93 X93 e93
        refine Own.iload 353 X93 hx (hb hby d19_351) rfl rfl ?_
        refine Own.bipush 355 X93 hx (Own.N 65) (hb hby d19_353) rfl rfl ?_
        refine Own.iadd 356 X93 hx (hb hby d19_355) rfl (Own.N_add _ _) ?_
        refine Own.iloadN 357 X93 hx (hb hby d19_356) rfl rfl ?_
        refine Own.iadd 358 X93 hx (hb hby d19_357) rfl (Own.N_add _ _) ?_
        refine Own.iconst 359 X93 hx (Own.N 1) (hb hby d19_358) rfl rfl ?_
        refine Own.iadd 360 X93 hx (hb hby d19_359) rfl (Own.N_add _ _) ?_
        refine Own.aloadN 361 X93 hx (hb hby d19_360) rfl rfl rfl ?_
        refine Own.getFld 364 X93 hx hZ hown (host := "") (Or.inl (w 14 rfl)) Via.refl e93 Ff_85 (hb hby d19_361) rfl ?_
        intro T94 X94 e94
        refine Own.iload 366 X94 hx (hb hby d19_364) rfl rfl ?_
        refine Own.bipush 368 X94 hx (Own.N 65) (hb hby d19_366) rfl rfl ?_
        refine Own.iadd 369 X94 hx (hb hby d19_368) rfl (Own.N_add _ _) ?_
        refine Own.iloadN 370 X94 hx (hb hby d19_369) rfl rfl ?_
        refine Own.iadd 371 X94 hx (hb hby d19_370) rfl (Own.N_add _ _) ?_
        refine Own.iconst 372 X94 hx (Own.N 2) (hb hby d19_371) rfl rfl ?_
        refine Own.iadd 373 X94 hx (hb hby d19_372) rfl (Own.N_add _ _) ?_
        refine Own.iload 375 X94 hx (hb hby d19_373) rfl rfl ?_
        refine Own.iloadN 376 X94 hx (hb hby d19_375) rfl rfl ?_
        refine Own.isub 377 X94 hx (hb hby d19_376) rfl (Own.N_sub (by omega)) ?_
        refine Own.iconst 378 X94 hx (Own.N 1) (hb hby d19_377) rfl rfl ?_
        refine Own.isub 379 X94 hx (hb hby d19_378) rfl (Own.N_sub (by omega)) ?_
        refine Own.nCopy 382 0 X94 hx hZ hown (w 28 rfl) (w 31 rfl) (w 29 rfl) (w 30 rfl) e94 C80 C80 (by omega) (by omega) N80 g_ib (by rw [hml]; rfl) (hb hby d19_379) rfl (by decide) (Nat.le_of_eq rfl) (by decide) ?_
        intro T95 h95 L95 X95 e95 N95 K95 C95
        have Ef_97 := Ef_82.keep K95
        have Ff_98 := Ff_83.keep K95 (ninS ne_t_ib nin0)
        have Ff_99 := Ff_84.keep K95 (ninS ne_t_ib nin0)
        have Ff_100 := Ff_85.keep K95 (ninS ne_t_ib nin0)
        have Ff_101 := Ff_86.keep K95 (ninS ne_t_ib nin0)
        have Ff_102 := Ff_87.keep K95 (ninS ne_t_ib nin0)
        have Ff_103 := Ff_88.keep K95 (ninS ne_t_ib nin0)
        have Ff_104 := Ff_89.keep K95 (ninS ne_t_ib nin0)
        have Ff_105 := Ff_90.keep K95 (ninS ne_t_ib nin0)
        have Cf_106 := Cf_91.keep K95 (ninS ne_lb_ib nin0)
        have Cf_107 := Cf_92.keep K95 (ninS (Ne.symm ne_ib_lo) nin0)
        have KK95 := KK80.trans K95 (allS (Or.inl (List.mem_of_getElem? (i := 2) rfl)) all0)
        have zl95 := Nat.le_trans zl80 K95.1
        refine Own.aloadN 383 X95 hx (hb hby d19_382) rfl rfl rfl ?_
        refine Own.getFld 386 X95 hx hZ hown (host := "") (Or.inl (w 14 rfl)) Via.refl e95 Ff_100 (hb hby d19_383) rfl ?_
        intro T108 X108 e108
        refine Own.iload 388 X108 hx (hb hby d19_386) rfl rfl ?_
        refine Own.iconst 389 X108 hx (Own.N 3) (hb hby d19_388) rfl rfl ?_
        refine Own.iadd 390 X108 hx (hb hby d19_389) rfl (Own.N_add _ _) ?_
        refine Own.iloadN 391 X108 hx (hb hby d19_390) rfl rfl ?_
        refine Own.iadd 392 X108 hx (hb hby d19_391) rfl (Own.N_add _ _) ?_
        refine Own.dup2 393 X108 hx (hb hby d19_392) rfl rfl rfl ?_
        refine Own.nLoad 394 (Own.N (pre 62)) X108 hx hZ e108 C95 (by omega) (by (repeat (first | rw [Own.upd_miss (by omega)] | rw [Own.cpy_out (by omega)])) <;> exact q_2) (hb hby d19_393) rfl ?_
        refine Own.iload 396 X108 hx (hb hby d19_394) rfl rfl ?_
        refine Own.isub 397 X108 hx (hb hby d19_396) rfl (Own.N_sub (by omega)) ?_
        refine Own.nStore 398 X108 hx hZ e108 C95 (by omega) (hb hby d19_397) rfl ?_
        intro T109 h109 X109 e109 W109 C109
        have N109 := Fr.snoc X109 N95 g_ib
        have Ef_111 := Ef_97.wr W109
        have Ff_112 := Ff_98.other W109 (Or.inl ne_t_ib)
        have Ff_113 := Ff_99.other W109 (Or.inl ne_t_ib)
        have Ff_114 := Ff_100.other W109 (Or.inl ne_t_ib)
        have Ff_115 := Ff_101.other W109 (Or.inl ne_t_ib)
        have Ff_116 := Ff_102.other W109 (Or.inl ne_t_ib)
        have Ff_117 := Ff_103.other W109 (Or.inl ne_t_ib)
        have Ff_118 := Ff_104.other W109 (Or.inl ne_t_ib)
        have Ff_119 := Ff_105.other W109 (Or.inl ne_t_ib)
        have Cf_120 := Cf_106.other W109 ne_lb_ib
        have Cf_121 := Cf_107.other W109 (Ne.symm ne_ib_lo)
        have zl109 := Nat.le_trans zl95 (Nat.le_of_eq W109.size.symm)
        have K109 := KK95.wr W109 (Or.inl (List.mem_of_getElem? (i := 2) rfl))
        refine Own.aloadN 399 X109 hx (hb hby d19_398) rfl rfl rfl ?_
        refine Own.getFld 402 X109 hx hZ hown (host := "") (Or.inl (w 14 rfl)) Via.refl e109 Ff_114 (hb hby d19_399) rfl ?_
        intro T123 X123 e123
        refine Own.iload 404 X123 hx (hb hby d19_402) rfl rfl ?_
        refine Own.iconst 405 X123 hx (Own.N 3) (hb hby d19_404) rfl rfl ?_
        refine Own.iadd 406 X123 hx (hb hby d19_405) rfl (Own.N_add _ _) ?_
        refine Own.iloadN 407 X123 hx (hb hby d19_406) rfl rfl ?_
        refine Own.iadd 408 X123 hx (hb hby d19_407) rfl (Own.N_add _ _) ?_
        refine Own.iconst 409 X123 hx (Own.N 1) (hb hby d19_408) rfl rfl ?_
        refine Own.iadd 410 X123 hx (hb hby d19_409) rfl (Own.N_add _ _) ?_
        refine Own.iload 412 X123 hx (hb hby d19_410) rfl rfl ?_
        refine Own.nStore 413 X123 hx hZ e123 C109 (by omega) (hb hby d19_412) rfl ?_
        intro T124 h124 X124 e124 W124 C124
        have N124 := Fr.snoc X124 N109 g_ib
        have Ef_126 := Ef_111.wr W124
        have Ff_127 := Ff_112.other W124 (Or.inl ne_t_ib)
        have Ff_128 := Ff_113.other W124 (Or.inl ne_t_ib)
        have Ff_129 := Ff_114.other W124 (Or.inl ne_t_ib)
        have Ff_130 := Ff_115.other W124 (Or.inl ne_t_ib)
        have Ff_131 := Ff_116.other W124 (Or.inl ne_t_ib)
        have Ff_132 := Ff_117.other W124 (Or.inl ne_t_ib)
        have Ff_133 := Ff_118.other W124 (Or.inl ne_t_ib)
        have Ff_134 := Ff_119.other W124 (Or.inl ne_t_ib)
        have Cf_135 := Cf_120.other W124 ne_lb_ib
        have Cf_136 := Cf_121.other W124 (Ne.symm ne_ib_lo)
        have zl124 := Nat.le_trans zl109 (Nat.le_of_eq W124.size.symm)
        have K124 := K109.wr W124 (Or.inl (List.mem_of_getElem? (i := 2) rfl))
        refine Own.aloadN 414 X124 hx (hb hby d19_413) rfl rfl rfl ?_
        refine Own.getFld 417 X124 hx hZ hown (host := "") (Or.inl (w 14 rfl)) Via.refl e124 Ff_129 (hb hby d19_414) rfl ?_
        intro T138 X138 e138
        refine Own.iload 419 X138 hx (hb hby d19_417) rfl rfl ?_
        refine Own.bipush 421 X138 hx (Own.N 65) (hb hby d19_419) rfl rfl ?_
        refine Own.iadd 422 X138 hx (hb hby d19_421) rfl (Own.N_add _ _) ?_
        refine Own.iloadN 423 X138 hx (hb hby d19_422) rfl rfl ?_
        refine Own.iadd 424 X138 hx (hb hby d19_423) rfl (Own.N_add _ _) ?_
        refine Own.iconst 425 X138 hx (Own.N 1) (hb hby d19_424) rfl rfl ?_
        refine Own.iadd 426 X138 hx (hb hby d19_425) rfl (Own.N_add _ _) ?_
        refine Own.iload 428 X138 hx (hb hby d19_426) rfl rfl ?_
        refine Own.nStore 429 X138 hx hZ e138 C124 (by omega) (hb hby d19_428) rfl ?_
        intro T139 h139 X139 e139 W139 C139
        have N139 := Fr.snoc X139 N124 g_ib
        have Ef_141 := Ef_126.wr W139
        have Ff_142 := Ff_127.other W139 (Or.inl ne_t_ib)
        have Ff_143 := Ff_128.other W139 (Or.inl ne_t_ib)
        have Ff_144 := Ff_129.other W139 (Or.inl ne_t_ib)
        have Ff_145 := Ff_130.other W139 (Or.inl ne_t_ib)
        have Ff_146 := Ff_131.other W139 (Or.inl ne_t_ib)
        have Ff_147 := Ff_132.other W139 (Or.inl ne_t_ib)
        have Ff_148 := Ff_133.other W139 (Or.inl ne_t_ib)
        have Ff_149 := Ff_134.other W139 (Or.inl ne_t_ib)
        have Cf_150 := Cf_135.other W139 ne_lb_ib
        have Cf_151 := Cf_136.other W139 (Ne.symm ne_ib_lo)
        have zl139 := Nat.le_trans zl124 (Nat.le_of_eq W139.size.symm)
        have K139 := K124.wr W139 (Or.inl (List.mem_of_getElem? (i := 2) rfl))
        refine Own.aloadN 430 X139 hx (hb hby d19_429) rfl rfl rfl ?_
        refine Own.getFld 433 X139 hx hZ hown (host := "") (Or.inl (w 14 rfl)) Via.refl e139 Ff_144 (hb hby d19_430) rfl ?_
        intro T153 X153 e153
        refine Own.iload 435 X153 hx (hb hby d19_433) rfl rfl ?_
        refine Own.iconst 436 X153 hx (Own.N 2) (hb hby d19_435) rfl rfl ?_
        refine Own.iadd 437 X153 hx (hb hby d19_436) rfl (Own.N_add _ _) ?_
        refine Own.iload 439 X153 hx (hb hby d19_437) rfl rfl ?_
        refine Own.iconst 440 X153 hx (Own.N 1) (hb hby d19_439) rfl rfl ?_
        refine Own.iadd 441 X153 hx (hb hby d19_440) rfl (Own.N_add _ _) ?_
        refine Own.nStore 442 X153 hx hZ e153 C139 (by omega) (hb hby d19_441) rfl ?_
        intro T154 h154 X154 e154 W154 C154
        have N154 := Fr.snoc X154 N139 g_ib
        have Ef_156 := Ef_141.wr W154
        have Ff_157 := Ff_142.other W154 (Or.inl ne_t_ib)
        have Ff_158 := Ff_143.other W154 (Or.inl ne_t_ib)
        have Ff_159 := Ff_144.other W154 (Or.inl ne_t_ib)
        have Ff_160 := Ff_145.other W154 (Or.inl ne_t_ib)
        have Ff_161 := Ff_146.other W154 (Or.inl ne_t_ib)
        have Ff_162 := Ff_147.other W154 (Or.inl ne_t_ib)
        have Ff_163 := Ff_148.other W154 (Or.inl ne_t_ib)
        have Ff_164 := Ff_149.other W154 (Or.inl ne_t_ib)
        have Cf_165 := Cf_150.other W154 ne_lb_ib
        have Cf_166 := Cf_151.other W154 (Ne.symm ne_ib_lo)
        have zl154 := Nat.le_trans zl139 (Nat.le_of_eq W154.size.symm)
        have K154 := K139.wr W154 (Or.inl (List.mem_of_getElem? (i := 2) rfl))
        refine Own.iloadN 443 X154 hx (hb hby d19_442) rfl rfl ?_
        refine Own.iconst 444 X154 hx (Own.N 1) (hb hby d19_443) rfl rfl ?_
        refine Own.iadd 445 X154 hx (hb hby d19_444) rfl (Own.N_add _ _) ?_
        refine Own.istoreV 447 #[.val (.ref t), .val (.int (Own.N (1))), .val (.int (Own.N (0))), .val (.int (Own.N (2))), .val (.int (Own.N (0))), .val (.int (Own.N (2))), .val (.int (Own.N (mv))), .val (.int (Own.N (1 * 128))), .val (.int (Own.N (1))), .val (.int (Own.N (0 + 1)))] X154 hx (hb hby d19_445) rfl rfl ?_
        refine Own.iload 449 X154 hx (hb hby d19_447) rfl rfl ?_
        refine Own.iload 451 X154 hx (hb hby d19_449) rfl rfl ?_
        refine Own.nicmp_gt 483 454 X154 hx (hb hby d19_451) (by decide) rfl (by omega) (by omega) (fun tk => False.elim (by omega)) (fun tk => ?_)
        refine Own.aloadN 455 X154 hx (hb hby d19_454) rfl rfl rfl ?_
        refine Own.aloadN 456 X154 hx (hb hby d19_455) rfl rfl rfl ?_
        refine Own.getFld 459 X154 hx hZ hown (host := "") (Or.inl (w 14 rfl)) Via.refl e154 Ff_159 (hb hby d19_456) rfl ?_
        intro T168 X168 e168
        refine Own.iload 461 X168 hx (hb hby d19_459) rfl rfl ?_
        refine Own.bipush 463 X168 hx (Own.N 65) (hb hby d19_461) rfl rfl ?_
        refine Own.iadd 464 X168 hx (hb hby d19_463) rfl (Own.N_add _ _) ?_
        refine Own.iload 466 X168 hx (hb hby d19_464) rfl rfl ?_
        refine Own.iadd 467 X168 hx (hb hby d19_466) rfl (Own.N_add _ _) ?_
        refine Own.nLoad 468 (Own.N (2)) X168 hx hZ e168 C154 (by omega) (by rw [Own.upd_miss (by omega), Own.upd_hit (by omega)]) (hb hby d19_467) rfl ?_
        refine Own.iloadN 469 X168 hx (hb hby d19_468) rfl rfl ?_
        refine Own.iconst 470 X168 hx (Own.N 1) (hb hby d19_469) rfl rfl ?_
        refine Own.isub 471 X168 hx (hb hby d19_470) rfl (Own.N_sub (by omega)) ?_
        refine Own.iloadN 472 X168 hx (hb hby d19_471) rfl rfl ?_
        refine Own.iload 474 X168 hx (hb hby d19_472) rfl rfl ?_
        refine Own.callPr 477 0 t [(.int (Own.N (2))), (.int (Own.N (2 - 1))), (.int (Own.N (1))), (.int (Own.N (0 + 1)))] [] X168 hx hZ hown (m6_1 l Z a0 w t lb ib lo _ _ _ _ _ _ _ _ n0 _ _ _ 2 (2 - 1) 1 (0 + 1) _ zl154 D00 ⟨Ef_156, Ff_157, Ff_158, Ff_159, Ff_160, Ff_161, Ff_162, Ff_163, Ff_164, Cf_165, C154, Cf_166⟩ (by omega) (by omega) (by omega) (by omega)) Ef_156 (w 40 rfl) (w 42 rfl) (w 3 rfl) (w 41 rfl) (w 4 rfl) (w 43 rfl) (by decide) e168 (by decide) (by decide) (by decide) (by decide) (by rw [hml]; rfl) (lenOf pd_4 rfl) rfl (Nat.le_of_eq rfl) (hb hby d19_474) rfl ?_
        rintro vv T169 L169 X169 ⟨rfl, N169q, K169, S169⟩
        have N169 := Fr.app N154 N169q
        have Ef_171 := Ef_156.keep K169
        have zl169 := Nat.le_trans zl154 K169.1
        have KK169 := K154.trans K169 (allS (Or.inl (List.mem_of_getElem? (i := 0) rfl)) (allS (Or.inl (List.mem_of_getElem? (i := 1) rfl)) (allS (Or.inl (List.mem_of_getElem? (i := 2) rfl)) (allS (Or.inl (List.mem_of_getElem? (i := 3) rfl)) all0))))
        obtain ⟨E_169, Fleaks_169, Fleaes_169, Finnks_169, Finnrs_169, FleaOf_169, Frooot_169, Fheiht_169, Fregar_169, Clb_169, Cib_169, Clo_169⟩ := S169
        refine Own.iinc 480 (fun c_183 => #[.val (.ref t), .val (.int (Own.N (1))), .val (.int (Own.N (0))), .val (.int (Own.N (2))), .val (.int (Own.N (0))), .val (.int (Own.N (2))), .val (.int (Own.N (mv))), .val (.int (Own.N (1 * 128))), .val (.int (Own.N (1))), .val (.int c_183)]) X169 hx (Own.N 1) (hb hby d19_477) rfl rfl rfl (fun _ => rfl) fun c_183 hc_183 => ?_
        obtain rfl : c_183 = Own.N ((0 + 1) + 1) := hc_183.trans (Own.N_add _ _)
        refine Own.goto 447 X169 hx (hb hby d19_480) (by decide) ?_
        refine Own.iload 449 X169 hx (hb hby d19_447) rfl rfl ?_
        refine Own.iload 451 X169 hx (hb hby d19_449) rfl rfl ?_
        refine Own.nicmp_gt 483 454 X169 hx (hb hby d19_451) (by decide) rfl (by omega) (by omega) (fun tk => ?_) (fun tk => False.elim (by omega))
        refine Own.retVoid X169 hx hlk hret (hb hby d19_483) (by decide) (by decide) ?_
        exact ⟨rfl, N169, KK169, _, _, ⟨E_169, Fleaks_169, Fleaes_169, Finnks_169, Finnrs_169, FleaOf_169, Frooot_169, Fheiht_169, Fregar_169, Clb_169, Cib_169, Clo_169⟩, own_split_H2 H62' P.1 (by (repeat (first | rw [Own.upd_hit (by omega)] | rw [Own.upd_miss (by omega)] | rw [Own.cpy_out (by omega)] | rw [Own.cpy_in (by omega)])) <;> (try (congr 1 <;> omega))) (by (repeat (first | rw [Own.upd_hit (by omega)] | rw [Own.upd_miss (by omega)] | rw [Own.cpy_out (by omega)] | rw [Own.cpy_in (by omega)])) <;> (try (congr 1 <;> omega))) (by (repeat (first | rw [Own.upd_hit (by omega)] | rw [Own.upd_miss (by omega)] | rw [Own.cpy_out (by omega)] | rw [Own.cpy_in (by omega)])) <;> (try (congr 1 <;> omega))) (by (repeat (first | rw [Own.upd_hit (by omega)] | rw [Own.upd_miss (by omega)] | rw [Own.cpy_out (by omega)] | rw [Own.cpy_in (by omega)])) <;> first | exact q_3 | (congr 1 <;> omega)) (by (repeat (first | rw [Own.upd_hit (by omega)] | rw [Own.upd_miss (by omega)] | rw [Own.cpy_out (by omega)] | rw [Own.cpy_in (by omega)])) <;> (try (congr 1 <;> omega))) (by (repeat (first | rw [Own.upd_hit (by omega)] | rw [Own.upd_miss (by omega)] | rw [Own.cpy_out (by omega)] | rw [Own.cpy_in (by omega)])) <;> first | exact q_4 | (congr 1 <;> omega)) (by (repeat (first | rw [Own.upd_hit (by omega)] | rw [Own.upd_miss (by omega)] | rw [Own.cpy_out (by omega)] | rw [Own.cpy_in (by omega)])) <;> first | exact q_5 | (congr 1 <;> omega)) (by (repeat (first | rw [Own.upd_hit (by omega)] | rw [Own.upd_miss (by omega)] | rw [Own.cpy_out (by omega)] | rw [Own.cpy_in (by omega)])) <;> first | exact q_6 | (congr 1 <;> omega)) (by (repeat (first | rw [Own.upd_hit (by omega)] | rw [Own.upd_miss (by omega)] | rw [Own.cpy_out (by omega)] | rw [Own.cpy_in (by omega)])) <;> (try (congr 1 <;> omega))) (by (repeat (first | rw [Own.upd_hit (by omega)] | rw [Own.upd_miss (by omega)] | rw [Own.cpy_out (by omega)] | rw [Own.cpy_in (by omega)])) <;> (try (congr 1 <;> omega))) (by (repeat (first | rw [Own.upd_hit (by omega)] | rw [Own.upd_miss (by omega)] | rw [Own.cpy_out (by omega)] | rw [Own.cpy_in (by omega)])) <;> (try (congr 1 <;> omega))) (by (repeat (first | rw [Own.upd_hit (by omega)] | rw [Own.upd_miss (by omega)] | rw [Own.cpy_out (by omega)] | rw [Own.cpy_in (by omega)])) <;> (try (congr 1 <;> omega))) (fun j hj => ⟨(by (repeat (first | rw [Own.upd_hit (by omega)] | rw [Own.upd_miss (by omega)] | rw [Own.cpy_out (by omega)] | rw [Own.cpy_in (by omega)])) <;> first | exact rfl | (congr 1 <;> omega)), (by (repeat (first | rw [Own.upd_hit (by omega)] | rw [Own.upd_miss (by omega)] | rw [Own.cpy_out (by omega)] | rw [Own.cpy_in (by omega)])) <;> first | exact rfl | (congr 1 <;> omega)), (by (repeat (first | rw [Own.upd_hit (by omega)] | rw [Own.upd_miss (by omega)] | rw [Own.cpy_out (by omega)] | rw [Own.cpy_in (by omega)])) <;> first | exact (congrArg fI (by omega)) | (congr 1 <;> omega)), (by (repeat (first | rw [Own.upd_hit (by omega)] | rw [Own.upd_miss (by omega)] | rw [Own.cpy_out (by omega)] | rw [Own.cpy_in (by omega)])) <;> first | exact (congrArg fI (by omega)) | (congr 1 <;> omega))⟩) (fun j hj => ⟨IK j 0 (by omega) (by omega) (by omega), IK j 1 (by omega) (by omega) (by omega)⟩) IL, fun j hj o h1 h2 => IK j o hj h2 (Or.inl h1)⟩
      ·
        obtain ⟨r2, r3⟩ := r1 k9 (by omega)
        have m1 := mo 31 (31 + k9) (by omega) (by omega)
        have m2 := mo (31 + k9) (31 + k9 + 1) (by omega) (by omega)
        refine Own.aloadN 228 Xq hx (hb hby d19_227) rfl rfl rfl ?_
        refine Own.aloadN 229 Xq hx (hb hby d19_228) rfl rfl rfl ?_
        refine Own.getFld 232 Xq hx hZ hown (host := "") (Or.inl (w 14 rfl)) Via.refl eqq Finnks_46 (hb hby d19_229) rfl ?_
        intro T184 X184 e184
        refine Own.iload 234 X184 hx (hb hby d19_232) rfl rfl ?_
        refine Own.bipush 236 X184 hx (Own.N 65) (hb hby d19_234) rfl rfl ?_
        refine Own.iadd 237 X184 hx (hb hby d19_236) rfl (Own.N_add _ _) ?_
        refine Own.iload 239 X184 hx (hb hby d19_237) rfl rfl ?_
        refine Own.iadd 240 X184 hx (hb hby d19_239) rfl (Own.N_add _ _) ?_
        refine Own.nLoad 241 (Own.N (31 + k9)) X184 hx hZ e184 Cib_46 (by omega) r2 (hb hby d19_240) rfl ?_
        refine Own.iloadN 242 X184 hx (hb hby d19_241) rfl rfl ?_
        refine Own.iconst 243 X184 hx (Own.N 2) (hb hby d19_242) rfl rfl ?_
        refine Own.isub 244 X184 hx (hb hby d19_243) rfl (Own.N_sub (by omega)) ?_
        refine Own.iload 246 X184 hx (hb hby d19_244) rfl rfl ?_
        refine Own.iload 248 X184 hx (hb hby d19_246) rfl rfl ?_
        refine Own.callPr 251 0 t [(.int (Own.N (31 + k9))), (.int (Own.N (2 - 2))), (.int (Own.N (2))), (.int (Own.N (k9)))] [] X184 hx hZ hown (m6_0 l Z a0 w t lb ib lo _ _ _ _ _ _ _ _ n0 _ _ _ (31 + k9) (2 - 2) 2 k9 _ zlq D00 ⟨E_46, Fleaks_46, Fleaes_46, Finnks_46, Finnrs_46, FleaOf_46, Frooot_46, Fheiht_46, Fregar_46, Clb_46, Cib_46, Clo_46⟩ (by omega) (by omega) (by omega) (by omega)) E_46 (w 40 rfl) (w 42 rfl) (w 3 rfl) (w 41 rfl) (w 4 rfl) (w 43 rfl) (by decide) e184 (by decide) (by decide) (by decide) (by decide) (by rw [hml]; rfl) (lenOf pd_4 rfl) rfl (Nat.le_of_eq rfl) (hb hby d19_248) rfl ?_
        rintro vv T185 L185 X185 ⟨rfl, N185q, K185, S185⟩
        have N185 := Fr.app Nq N185q
        have Ef_187 := E_46.keep K185
        have zl185 := Nat.le_trans zlq K185.1
        have KK185 := Kq.trans K185 (allS (Or.inl (List.mem_of_getElem? (i := 0) rfl)) (allS (Or.inl (List.mem_of_getElem? (i := 1) rfl)) (allS (Or.inl (List.mem_of_getElem? (i := 2) rfl)) (allS (Or.inl (List.mem_of_getElem? (i := 3) rfl)) all0))))
        obtain ⟨E_185, Fleaks_185, Fleaes_185, Finnks_185, Finnrs_185, FleaOf_185, Frooot_185, Fheiht_185, Fregar_185, Clb_185, Cib_185, Clo_185⟩ := S185
        refine Own.iload 253 X185 hx (hb hby d19_251) rfl rfl ?_
        refine Own.aloadN 254 X185 hx (hb hby d19_253) rfl rfl rfl ?_
        refine Own.getFld 257 X185 hx hZ hown (host := "") (Or.inl (w 14 rfl)) Via.refl rfl Finnks_185 (hb hby d19_254) rfl ?_
        intro T199 X199 e199
        refine Own.iload 259 X199 hx (hb hby d19_257) rfl rfl ?_
        refine Own.iconst 260 X199 hx (Own.N 3) (hb hby d19_259) rfl rfl ?_
        refine Own.iadd 261 X199 hx (hb hby d19_260) rfl (Own.N_add _ _) ?_
        refine Own.iload 263 X199 hx (hb hby d19_261) rfl rfl ?_
        refine Own.iadd 264 X199 hx (hb hby d19_263) rfl (Own.N_add _ _) ?_
        refine Own.nLoad 265 (Own.N (pre (31 + k9 + 1) - pre (31 + k9))) X199 hx hZ e199 Cib_185 (by omega) r3 (hb hby d19_264) rfl ?_
        refine Own.iadd 266 X199 hx (hb hby d19_265) rfl (Own.N_add _ _) ?_
        refine Own.istoreV 268 #[.val (.ref t), .val (.int (Own.N (1))), .val (.int (Own.N (0))), .val (.int (Own.N (2))), .val (.int (Own.N (0))), .val (.int (Own.N (2))), .val (.int (Own.N (mv + (pre (31 + k9 + 1) - pre (31 + k9))))), .val (.int (Own.N (0 * 128))), .val (.int (Own.N (2 * 128))), .val (.int (Own.N (k9)))] X199 hx (hb hby d19_266) rfl rfl ?_
        refine Own.iinc 271 (fun c_200 => #[.val (.ref t), .val (.int (Own.N (1))), .val (.int (Own.N (0))), .val (.int (Own.N (2))), .val (.int (Own.N (0))), .val (.int (Own.N (2))), .val (.int (Own.N (mv + (pre (31 + k9 + 1) - pre (31 + k9))))), .val (.int (Own.N (0 * 128))), .val (.int (Own.N (2 * 128))), .val (.int c_200)]) X199 hx (Own.N 1) (hb hby d19_268) rfl rfl rfl (fun _ => rfl) fun c_200 hc_200 => ?_
        obtain rfl : c_200 = Own.N (k9 + 1) := hc_200.trans (Own.N_add _ _)
        refine Own.goto 220 X199 hx (hb hby d19_271) (by decide) ?_
        exact ih (k9 + 1) _ _ _ _ _ X199 e199 N185 KK185 ⟨E_185, Fleaks_185, Fleaes_185, Finnks_185, Finnrs_185, FleaOf_185, Frooot_185, Fheiht_185, Fregar_185, Clb_185, Cib_185, Clo_185⟩ (by rw [show 31 + (k9 + 1) = 31 + k9 + 1 from by omega]; omega) (fun j hj => by
            by_cases c9 : j = k9
            · subst c9; exact ⟨by rw [Own.upd_miss (by omega), Own.upd_hit (by omega)], by rw [Own.upd_hit rfl]⟩
            · exact ⟨by rw [Own.upd_miss (by omega), Own.upd_miss (by omega)]; exact (IL j (by omega)).1, by rw [Own.upd_miss (by omega), Own.upd_miss (by omega)]; exact (IL j (by omega)).2⟩) (fun j o h1 h2 h3 => by rw [Own.upd_miss (by omega), Own.upd_miss (by omega)]; exact IK j o h1 h2 h3) (by omega) (by omega)
  exact J220 (31 + 1) 0 _ _ _ _ _ X33 e33 N33 KK33 ⟨Ef_35, Ff_36, Ff_37, Ff_38, Ff_39, Ff_40, Ff_41, Ff_42, Ff_43, Cf_44, C33, Cf_45⟩ (by rw [Nat.add_zero]; omega) (fun j hj => absurd hj (by omega)) (fun j o _ _ _ => rfl) (by omega) (by omega)
theorem d17_0 : decode prog_32_method_10_code 0 = .ok (.aload_n 0, 1) := by decide +kernel
theorem d17_1 : decode prog_32_method_10_code 1 = .ok (.getfield 23, 3) := by decide +kernel
theorem d17_4 : decode prog_32_method_10_code 4 = .ok (.aload_n 0, 1) := by decide +kernel
theorem d17_5 : decode prog_32_method_10_code 5 = .ok (.getfield 59, 3) := by decide +kernel
theorem d17_8 : decode prog_32_method_10_code 8 = .ok (.sipush 128, 3) := by decide +kernel
theorem d17_11 : decode prog_32_method_10_code 11 = .ok (.imul, 1) := by decide +kernel
theorem d17_12 : decode prog_32_method_10_code 12 = .ok (.iconst 2, 1) := by decide +kernel
theorem d17_13 : decode prog_32_method_10_code 13 = .ok (.iadd, 1) := by decide +kernel
theorem d17_14 : decode prog_32_method_10_code 14 = .ok (.iaload, 1) := by decide +kernel
theorem d17_15 : decode prog_32_method_10_code 15 = .ok (.bipush 62, 2) := by decide +kernel
theorem d17_17 : decode prog_32_method_10_code 17 = .ok (.if_icmp .ne 100, 3) := by decide +kernel
theorem d17_117 : decode prog_32_method_10_code 117 = .ok (.aload_n 0, 1) := by decide +kernel
theorem d17_118 : decode prog_32_method_10_code 118 = .ok (.getfield 59, 3) := by decide +kernel
theorem d17_121 : decode prog_32_method_10_code 121 = .ok (.istore_n 3, 1) := by decide +kernel
theorem d17_122 : decode prog_32_method_10_code 122 = .ok (.iload_n 2, 1) := by decide +kernel
theorem d17_123 : decode prog_32_method_10_code 123 = .ok (.istore 4, 2) := by decide +kernel
theorem d17_125 : decode prog_32_method_10_code 125 = .ok (.aload_n 0, 1) := by decide +kernel
theorem d17_126 : decode prog_32_method_10_code 126 = .ok (.getfield 62, 3) := by decide +kernel
theorem d17_129 : decode prog_32_method_10_code 129 = .ok (.istore 5, 2) := by decide +kernel
theorem d17_131 : decode prog_32_method_10_code 131 = .ok (.iload 5, 2) := by decide +kernel
theorem d17_133 : decode prog_32_method_10_code 133 = .ok (.ifCond .le 179, 3) := by decide +kernel
theorem d17_136 : decode prog_32_method_10_code 136 = .ok (.iload_n 3, 1) := by decide +kernel
theorem d17_137 : decode prog_32_method_10_code 137 = .ok (.sipush 128, 3) := by decide +kernel
theorem d17_140 : decode prog_32_method_10_code 140 = .ok (.imul, 1) := by decide +kernel
theorem d17_141 : decode prog_32_method_10_code 141 = .ok (.istore 6, 2) := by decide +kernel
theorem d17_143 : decode prog_32_method_10_code 143 = .ok (.aload_n 0, 1) := by decide +kernel
theorem d17_144 : decode prog_32_method_10_code 144 = .ok (.getfield 23, 3) := by decide +kernel
theorem d17_147 : decode prog_32_method_10_code 147 = .ok (.iload 6, 2) := by decide +kernel
theorem d17_149 : decode prog_32_method_10_code 149 = .ok (.iconst 2, 1) := by decide +kernel
theorem d17_150 : decode prog_32_method_10_code 150 = .ok (.iadd, 1) := by decide +kernel
theorem d17_151 : decode prog_32_method_10_code 151 = .ok (.iaload, 1) := by decide +kernel
theorem d17_152 : decode prog_32_method_10_code 152 = .ok (.iconst 1, 1) := by decide +kernel
theorem d17_153 : decode prog_32_method_10_code 153 = .ok (.isub, 1) := by decide +kernel
theorem d17_154 : decode prog_32_method_10_code 154 = .ok (.istore 7, 2) := by decide +kernel
theorem d17_156 : decode prog_32_method_10_code 156 = .ok (.iconst 0, 1) := by decide +kernel
theorem d17_157 : decode prog_32_method_10_code 157 = .ok (.istore 8, 2) := by decide +kernel
theorem d17_159 : decode prog_32_method_10_code 159 = .ok (.iload 8, 2) := by decide +kernel
theorem d17_161 : decode prog_32_method_10_code 161 = .ok (.iload 7, 2) := by decide +kernel
theorem d17_163 : decode prog_32_method_10_code 163 = .ok (.if_icmp .ge 43, 3) := by decide +kernel
theorem d17_166 : decode prog_32_method_10_code 166 = .ok (.iload 4, 2) := by decide +kernel
theorem d17_168 : decode prog_32_method_10_code 168 = .ok (.aload_n 0, 1) := by decide +kernel
theorem d17_169 : decode prog_32_method_10_code 169 = .ok (.getfield 23, 3) := by decide +kernel
theorem d17_172 : decode prog_32_method_10_code 172 = .ok (.iload 6, 2) := by decide +kernel
theorem d17_174 : decode prog_32_method_10_code 174 = .ok (.iconst 3, 1) := by decide +kernel
theorem d17_175 : decode prog_32_method_10_code 175 = .ok (.iadd, 1) := by decide +kernel
theorem d17_176 : decode prog_32_method_10_code 176 = .ok (.iload 8, 2) := by decide +kernel
theorem d17_178 : decode prog_32_method_10_code 178 = .ok (.iadd, 1) := by decide +kernel
theorem d17_179 : decode prog_32_method_10_code 179 = .ok (.iaload, 1) := by decide +kernel
theorem d17_180 : decode prog_32_method_10_code 180 = .ok (.if_icmp .le 26, 3) := by decide +kernel
theorem d17_183 : decode prog_32_method_10_code 183 = .ok (.iload 4, 2) := by decide +kernel
theorem d17_185 : decode prog_32_method_10_code 185 = .ok (.aload_n 0, 1) := by decide +kernel
theorem d17_186 : decode prog_32_method_10_code 186 = .ok (.getfield 23, 3) := by decide +kernel
theorem d17_189 : decode prog_32_method_10_code 189 = .ok (.iload 6, 2) := by decide +kernel
theorem d17_191 : decode prog_32_method_10_code 191 = .ok (.iconst 3, 1) := by decide +kernel
theorem d17_192 : decode prog_32_method_10_code 192 = .ok (.iadd, 1) := by decide +kernel
theorem d17_193 : decode prog_32_method_10_code 193 = .ok (.iload 8, 2) := by decide +kernel
theorem d17_195 : decode prog_32_method_10_code 195 = .ok (.iadd, 1) := by decide +kernel
theorem d17_196 : decode prog_32_method_10_code 196 = .ok (.iaload, 1) := by decide +kernel
theorem d17_197 : decode prog_32_method_10_code 197 = .ok (.isub, 1) := by decide +kernel
theorem d17_198 : decode prog_32_method_10_code 198 = .ok (.istore 4, 2) := by decide +kernel
theorem d17_200 : decode prog_32_method_10_code 200 = .ok (.iinc 8 1, 3) := by decide +kernel
theorem d17_203 : decode prog_32_method_10_code 203 = .ok (.goto (-44), 3) := by decide +kernel
theorem d17_206 : decode prog_32_method_10_code 206 = .ok (.aload_n 0, 1) := by decide +kernel
theorem d17_207 : decode prog_32_method_10_code 207 = .ok (.aload_n 0, 1) := by decide +kernel
theorem d17_208 : decode prog_32_method_10_code 208 = .ok (.getfield 23, 3) := by decide +kernel
theorem d17_211 : decode prog_32_method_10_code 211 = .ok (.iload 6, 2) := by decide +kernel
theorem d17_213 : decode prog_32_method_10_code 213 = .ok (.bipush 65, 2) := by decide +kernel
theorem d17_215 : decode prog_32_method_10_code 215 = .ok (.iadd, 1) := by decide +kernel
theorem d17_216 : decode prog_32_method_10_code 216 = .ok (.iload 8, 2) := by decide +kernel
theorem d17_218 : decode prog_32_method_10_code 218 = .ok (.iadd, 1) := by decide +kernel
theorem d17_219 : decode prog_32_method_10_code 219 = .ok (.iaload, 1) := by decide +kernel
theorem d17_220 : decode prog_32_method_10_code 220 = .ok (.iload 5, 2) := by decide +kernel
theorem d17_222 : decode prog_32_method_10_code 222 = .ok (.iconst 1, 1) := by decide +kernel
theorem d17_223 : decode prog_32_method_10_code 223 = .ok (.isub, 1) := by decide +kernel
theorem d17_224 : decode prog_32_method_10_code 224 = .ok (.invokevirtual 82, 3) := by decide +kernel
theorem d17_227 : decode prog_32_method_10_code 227 = .ok (.ifCond .eq 49, 3) := by decide +kernel
theorem d17_276 : decode prog_32_method_10_code 276 = .ok (.aload_n 0, 1) := by decide +kernel
theorem d17_277 : decode prog_32_method_10_code 277 = .ok (.getfield 23, 3) := by decide +kernel
theorem d17_280 : decode prog_32_method_10_code 280 = .ok (.iload 6, 2) := by decide +kernel
theorem d17_282 : decode prog_32_method_10_code 282 = .ok (.iconst 3, 1) := by decide +kernel
theorem d17_283 : decode prog_32_method_10_code 283 = .ok (.iadd, 1) := by decide +kernel
theorem d17_284 : decode prog_32_method_10_code 284 = .ok (.iload 8, 2) := by decide +kernel
theorem d17_286 : decode prog_32_method_10_code 286 = .ok (.iadd, 1) := by decide +kernel
theorem d17_287 : decode prog_32_method_10_code 287 = .ok (.dup2, 1) := by decide +kernel
theorem d17_288 : decode prog_32_method_10_code 288 = .ok (.iaload, 1) := by decide +kernel
theorem d17_289 : decode prog_32_method_10_code 289 = .ok (.iconst 1, 1) := by decide +kernel
theorem d17_290 : decode prog_32_method_10_code 290 = .ok (.iadd, 1) := by decide +kernel
theorem d17_291 : decode prog_32_method_10_code 291 = .ok (.iastore, 1) := by decide +kernel
theorem d17_292 : decode prog_32_method_10_code 292 = .ok (.aload_n 0, 1) := by decide +kernel
theorem d17_293 : decode prog_32_method_10_code 293 = .ok (.getfield 23, 3) := by decide +kernel
theorem d17_296 : decode prog_32_method_10_code 296 = .ok (.iload 6, 2) := by decide +kernel
theorem d17_298 : decode prog_32_method_10_code 298 = .ok (.bipush 65, 2) := by decide +kernel
theorem d17_300 : decode prog_32_method_10_code 300 = .ok (.iadd, 1) := by decide +kernel
theorem d17_301 : decode prog_32_method_10_code 301 = .ok (.iload 8, 2) := by decide +kernel
theorem d17_303 : decode prog_32_method_10_code 303 = .ok (.iadd, 1) := by decide +kernel
theorem d17_304 : decode prog_32_method_10_code 304 = .ok (.iaload, 1) := by decide +kernel
theorem d17_305 : decode prog_32_method_10_code 305 = .ok (.istore_n 3, 1) := by decide +kernel
theorem d17_306 : decode prog_32_method_10_code 306 = .ok (.iinc 5 (-1), 3) := by decide +kernel
theorem d17_309 : decode prog_32_method_10_code 309 = .ok (.goto (-178), 3) := by decide +kernel
theorem d17_312 : decode prog_32_method_10_code 312 = .ok (.iload_n 3, 1) := by decide +kernel
theorem d17_313 : decode prog_32_method_10_code 313 = .ok (.bipush 64, 2) := by decide +kernel
theorem d17_315 : decode prog_32_method_10_code 315 = .ok (.imul, 1) := by decide +kernel
theorem d17_316 : decode prog_32_method_10_code 316 = .ok (.iconst 3, 1) := by decide +kernel
theorem d17_317 : decode prog_32_method_10_code 317 = .ok (.iadd, 1) := by decide +kernel
theorem d17_318 : decode prog_32_method_10_code 318 = .ok (.iload 4, 2) := by decide +kernel
theorem d17_320 : decode prog_32_method_10_code 320 = .ok (.iadd, 1) := by decide +kernel
theorem d17_321 : decode prog_32_method_10_code 321 = .ok (.iconst 1, 1) := by decide +kernel
theorem d17_322 : decode prog_32_method_10_code 322 = .ok (.isub, 1) := by decide +kernel
theorem d17_323 : decode prog_32_method_10_code 323 = .ok (.istore 5, 2) := by decide +kernel
theorem d17_325 : decode prog_32_method_10_code 325 = .ok (.iload_n 3, 1) := by decide +kernel
theorem d17_326 : decode prog_32_method_10_code 326 = .ok (.bipush 64, 2) := by decide +kernel
theorem d17_328 : decode prog_32_method_10_code 328 = .ok (.imul, 1) := by decide +kernel
theorem d17_329 : decode prog_32_method_10_code 329 = .ok (.iconst 3, 1) := by decide +kernel
theorem d17_330 : decode prog_32_method_10_code 330 = .ok (.iadd, 1) := by decide +kernel
theorem d17_331 : decode prog_32_method_10_code 331 = .ok (.aload_n 0, 1) := by decide +kernel
theorem d17_332 : decode prog_32_method_10_code 332 = .ok (.getfield 19, 3) := by decide +kernel
theorem d17_335 : decode prog_32_method_10_code 335 = .ok (.iload_n 3, 1) := by decide +kernel
theorem d17_336 : decode prog_32_method_10_code 336 = .ok (.bipush 64, 2) := by decide +kernel
theorem d17_338 : decode prog_32_method_10_code 338 = .ok (.imul, 1) := by decide +kernel
theorem d17_339 : decode prog_32_method_10_code 339 = .ok (.iconst 2, 1) := by decide +kernel
theorem d17_340 : decode prog_32_method_10_code 340 = .ok (.iadd, 1) := by decide +kernel
theorem d17_341 : decode prog_32_method_10_code 341 = .ok (.iaload, 1) := by decide +kernel
theorem d17_342 : decode prog_32_method_10_code 342 = .ok (.iadd, 1) := by decide +kernel
theorem d17_343 : decode prog_32_method_10_code 343 = .ok (.istore 6, 2) := by decide +kernel
theorem d17_345 : decode prog_32_method_10_code 345 = .ok (.aload_n 0, 1) := by decide +kernel
theorem d17_346 : decode prog_32_method_10_code 346 = .ok (.getfield 19, 3) := by decide +kernel
theorem d17_349 : decode prog_32_method_10_code 349 = .ok (.iload 5, 2) := by decide +kernel
theorem d17_351 : decode prog_32_method_10_code 351 = .ok (.aload_n 0, 1) := by decide +kernel
theorem d17_352 : decode prog_32_method_10_code 352 = .ok (.getfield 19, 3) := by decide +kernel
theorem d17_355 : decode prog_32_method_10_code 355 = .ok (.iload 5, 2) := by decide +kernel
theorem d17_357 : decode prog_32_method_10_code 357 = .ok (.iconst 1, 1) := by decide +kernel
theorem d17_358 : decode prog_32_method_10_code 358 = .ok (.iadd, 1) := by decide +kernel
theorem d17_359 : decode prog_32_method_10_code 359 = .ok (.iload 6, 2) := by decide +kernel
theorem d17_361 : decode prog_32_method_10_code 361 = .ok (.iload 5, 2) := by decide +kernel
theorem d17_363 : decode prog_32_method_10_code 363 = .ok (.isub, 1) := by decide +kernel
theorem d17_364 : decode prog_32_method_10_code 364 = .ok (.invokestatic 65, 3) := by decide +kernel
theorem d17_367 : decode prog_32_method_10_code 367 = .ok (.aload_n 0, 1) := by decide +kernel
theorem d17_368 : decode prog_32_method_10_code 368 = .ok (.getfield 19, 3) := by decide +kernel
theorem d17_371 : decode prog_32_method_10_code 371 = .ok (.iload 5, 2) := by decide +kernel
theorem d17_373 : decode prog_32_method_10_code 373 = .ok (.iload_n 1, 1) := by decide +kernel
theorem d17_374 : decode prog_32_method_10_code 374 = .ok (.iastore, 1) := by decide +kernel
theorem d17_375 : decode prog_32_method_10_code 375 = .ok (.aload_n 0, 1) := by decide +kernel
theorem d17_376 : decode prog_32_method_10_code 376 = .ok (.getfield 19, 3) := by decide +kernel
theorem d17_379 : decode prog_32_method_10_code 379 = .ok (.iload_n 3, 1) := by decide +kernel
theorem d17_380 : decode prog_32_method_10_code 380 = .ok (.bipush 64, 2) := by decide +kernel
theorem d17_382 : decode prog_32_method_10_code 382 = .ok (.imul, 1) := by decide +kernel
theorem d17_383 : decode prog_32_method_10_code 383 = .ok (.iconst 2, 1) := by decide +kernel
theorem d17_384 : decode prog_32_method_10_code 384 = .ok (.iadd, 1) := by decide +kernel
theorem d17_385 : decode prog_32_method_10_code 385 = .ok (.dup2, 1) := by decide +kernel
theorem d17_386 : decode prog_32_method_10_code 386 = .ok (.iaload, 1) := by decide +kernel
theorem d17_387 : decode prog_32_method_10_code 387 = .ok (.iconst 1, 1) := by decide +kernel
theorem d17_388 : decode prog_32_method_10_code 388 = .ok (.iadd, 1) := by decide +kernel
theorem d17_389 : decode prog_32_method_10_code 389 = .ok (.iastore, 1) := by decide +kernel
theorem d17_390 : decode prog_32_method_10_code 390 = .ok (.aload_n 0, 1) := by decide +kernel
theorem d17_391 : decode prog_32_method_10_code 391 = .ok (.getfield 26, 3) := by decide +kernel
theorem d17_394 : decode prog_32_method_10_code 394 = .ok (.iload_n 1, 1) := by decide +kernel
theorem d17_395 : decode prog_32_method_10_code 395 = .ok (.iload_n 3, 1) := by decide +kernel
theorem d17_396 : decode prog_32_method_10_code 396 = .ok (.iastore, 1) := by decide +kernel
theorem d17_397 : decode prog_32_method_10_code 397 = .ok (.return_, 1) := by decide +kernel
set_option maxRecDepth 65536 in
set_option maxHeartbeats 40000000 in
theorem m17_1 (l : Launch) (Z : State) (a0 : Array Value) (w : ∀ (i : Nat) {d : Jvm.Cond}, tables_1[i]? = some d → d.before a0 Z = true) (t : Addr) (lb ib lo : Addr) (lv inn rt zL zI zO n0 : Nat) (fL fI fO : Nat → Int32)(i r L n' : Nat) (pre ord : Nat → Nat) (h0 : Heap) (Z0 : n0 ≤ h0.size) (D0 : own_D n0 t lb ib lo) (S0 : own_S Z h0 t lb ib lo lv inn rt 1 0 zL zI zO fL fI fO) (TT : own_T L n' 30 rt 1 0 zL zI pre fL fI) (O : own_Or n' zO ord) (Lf : own_Lf L pre ord fL fO) (bz : zO < 1000000) (hi : i < zO) (hni : ∀ q, q < n' → ord q ≠ i) (hr : 1 ≤ r ∧ r ≤ n' + 1) (hn1 : n' + 1 ≤ 4096) (h62 : L ≠ 62) :
    Own.Met l Z (⟨"com/example/frontrank/frontrank/OrderTree", "insert", "(II)V"⟩ : MethodName) prog_32_method_10_code 9 none [] ({ frames := 1, cells := 0, slots := 0, locals := 18 } : Room) #[(.ref t), (.int (Own.N (i))), (.int (Own.N (r)))] h0 (fun v h L' => v = none ∧ Fr n0 L' ∧ Keep h0 h [t, lb, ib, lo] ∧ ∃ pre' fL' fI' fO', own_S Z h t lb ib lo lv inn rt 1 0 zL zI zO fL' fI' fO' ∧ own_T L (n' + 1) 31 rt 1 0 zL zI pre' fL' fI' ∧ own_Lf L pre' (own_inO ord (r - 1) i) fL' fO') := by
  refine Own.Met.of (plainFor_of_name (by first | (simp [plainName, overriddenIn]; done) | decide +kernel)) ?_
  intro p e s m below meth c T0 hx hby hml hown hnm hret hlk hZ X0 e0
  have hown : s.vm.findClass "com/example/frontrank/frontrank/OrderTree" = some m.cls := hown
  have hml : c.maxLocals = 9 := hml
  have hnm : meth.name = "insert" := hnm
  have ef : entryFrame m #[(.ref t), (.int (Own.N (i))), (.int (Own.N (r)))] 9 = mkF m 0 #[.val (.ref t), .val (.int (Own.N (i))), .val (.int (Own.N (r))), .unset, .unset, .unset, .unset, .unset, .unset] [] := by first | (simp [entryFrame, mkF, argsToLocals, Value.category]; done) | rfl
  rw [ef]
  have N0 := Fr.nil n0
  have D00 := D0
  obtain ⟨ne_t_lb, ne_t_ib, ne_t_lo, ne_lb_ib, ne_lb_lo, ne_ib_lo, g_t, g_lb, g_ib, g_lo⟩ := D0
  obtain ⟨E_0, Fleaks_0, Fleaes_0, Finnks_0, Finnrs_0, FleaOf_0, Frooot_0, Fheiht_0, Fregar_0, Clb_0, Cib_0, Clo_0⟩ := S0
  obtain ⟨P, hB, hL1, hL2, hn', hT, hR, hzI, hzI2, hzL, hzL2⟩ := TT
  obtain ⟨jj, hj, f1, f2⟩ := own_find2 P hL1 hr.1 hr.2
  have bd := own_bound P (j := jj + 1) (by omega)
  have p0 := P.1
  have pj := P.2.2 jj hj
  have hsz := (Lf jj hj).1
  have H : own_H1 L rt pre fL fI := by
    rcases hT with ⟨-, H⟩ | ⟨h9, -⟩
    · exact H
    · omega
  have b8 := H.2.1
  have l62 := H.1
  have J159 : ∀ (b lvl cc lst inn1 rt1 ht1 : Nat) (G : Nat → Nat) (gL gI : Nat → Int32) (Lq : List Loc) (hq : Heap) (Sq : own_S Z hq t lb ib lo lv inn1 rt1 ht1 0 zL zI zO gL gI fO) (hG : own_Gc gI b cc G) (h1 : G cc < r) (h2 : r ≤ G (cc + 1) ∨ cc = lst) (h4 : cc ≤ lst) (h3 : G (cc + 1) < 1000000) (bb : b < 8) (bc : lst < 62) (KK : ∀ (rs : Nat) (hrs : rs = r - G cc) (Tq : State) (Xq : Stand p l e ({ frames := 1, cells := 0, slots := 0, locals := 18 } : Room) s m #[(.ref t), (.int (Own.N (i))), (.int (Own.N (r)))] below meth c Tq Lq 0 0) (eqq : Tq.heap = hq), Own.Ends p.tables e below (fun v h L' => v = none ∧ Fr n0 L' ∧ Keep h0 h [t, lb, ib, lo] ∧ ∃ pre' fL' fI' fO', own_S Z h t lb ib lo lv inn rt 1 0 zL zI zO fL' fI' fO' ∧ own_T L (n' + 1) 31 rt 1 0 zL zI pre' fL' fI' ∧ own_Lf L pre' (own_inO ord (r - 1) i) fL' fO') (Own.FE s ({ frames := 1, cells := 0, slots := 0, locals := 18 } : Room).cells ({ frames := 1, cells := 0, slots := 0, locals := 18 } : Room).slots) (Tq.setTop (mkF m 206 #[.val (.ref t), .val (.int (Own.N (i))), .val (.int (Own.N (r))), .val (.int (Own.N (b))), .val (.int (Own.N (rs))), .val (.int (Own.N (lvl))), .val (.int (Own.N (b * 128))), .val (.int (Own.N (lst))), .val (.int (Own.N (cc)))] []))) (kk sl rs : Nat) (hs : sl ≤ cc) (hk : cc - sl < kk) (hrs : rs = r - G sl) (Tq : State) (Xq : Stand p l e ({ frames := 1, cells := 0, slots := 0, locals := 18 } : Room) s m #[(.ref t), (.int (Own.N (i))), (.int (Own.N (r)))] below meth c Tq Lq 0 0) (eqq : Tq.heap = hq), Own.Ends p.tables e below (fun v h L' => v = none ∧ Fr n0 L' ∧ Keep h0 h [t, lb, ib, lo] ∧ ∃ pre' fL' fI' fO', own_S Z h t lb ib lo lv inn rt 1 0 zL zI zO fL' fI' fO' ∧ own_T L (n' + 1) 31 rt 1 0 zL zI pre' fL' fI' ∧ own_Lf L pre' (own_inO ord (r - 1) i) fL' fO') (Own.FE s ({ frames := 1, cells := 0, slots := 0, locals := 18 } : Room).cells ({ frames := 1, cells := 0, slots := 0, locals := 18 } : Room).slots) (Tq.setTop (mkF m 159 #[.val (.ref t), .val (.int (Own.N (i))), .val (.int (Own.N (r))), .val (.int (Own.N (b))), .val (.int (Own.N (rs))), .val (.int (Own.N (lvl))), .val (.int (Own.N (b * 128))), .val (.int (Own.N (lst))), .val (.int (Own.N (sl)))] [])) := by
    intro b lvl cc lst inn1 rt1 ht1 G gL gI Lq hq Sq hG h1 h2 h4 h3 bb bc KK kk
    induction kk with
    | zero => intros; exfalso; omega
    | succ kk ih =>
      intro sl rs hs hk hrs Tq Xq eqq
      obtain ⟨q1, q2, q3⟩ := hG sl hs
      have q4 : G (sl + 1) < 1000000 := by
        by_cases c9 : sl = cc
        · subst c9; exact h3
        · have := (hG (sl + 1) (by omega)).2.2; omega
      obtain ⟨E_1, Fleaks_1, Fleaes_1, Finnks_1, Finnrs_1, FleaOf_1, Frooot_1, Fheiht_1, Fregar_1, Clb_1, Cib_1, Clo_1⟩ := Sq
      refine Own.iload 161 Xq hx (hb hby d17_159) rfl rfl ?_
      refine Own.iload 163 Xq hx (hb hby d17_161) rfl rfl ?_
      refine Own.nicmp_ge 206 166 Xq hx (hb hby d17_163) (by decide) rfl (by omega) (by omega) (fun tk => ?_) (fun tk => ?_)
      ·
        obtain rfl : sl = cc := by omega
        exact KK rs hrs _ Xq eqq
      ·
        refine Own.iload 168 Xq hx (hb hby d17_166) rfl rfl ?_
        refine Own.aloadN 169 Xq hx (hb hby d17_168) rfl rfl rfl ?_
        refine Own.getFld 172 Xq hx hZ hown (host := "") (Or.inl (w 14 rfl)) Via.refl eqq Finnks_1 (hb hby d17_169) rfl ?_
        intro T2 X2 e2
        refine Own.iload 174 X2 hx (hb hby d17_172) rfl rfl ?_
        refine Own.iconst 175 X2 hx (Own.N 3) (hb hby d17_174) rfl rfl ?_
        refine Own.iadd 176 X2 hx (hb hby d17_175) rfl (Own.N_add _ _) ?_
        refine Own.iload 178 X2 hx (hb hby d17_176) rfl rfl ?_
        refine Own.iadd 179 X2 hx (hb hby d17_178) rfl (Own.N_add _ _) ?_
        refine Own.nLoad 180 (Own.N (G (sl + 1) - G sl)) X2 hx hZ e2 Cib_1 (by omega) q1 (hb hby d17_179) rfl ?_
        refine Own.nicmp_le 206 183 X2 hx (hb hby d17_180) (by decide) rfl (by omega) (by omega) (fun tk2 => ?_) (fun tk2 => ?_)
        ·
          obtain rfl : sl = cc := by
            by_cases c9 : sl = cc
            · exact c9
            · have := (hG (sl + 1) (by omega)).2.2; omega
          exact KK rs hrs _ X2 e2
        ·
          have c9 : sl ≠ cc := fun c9 => by subst c9; omega
          refine Own.iload 185 X2 hx (hb hby d17_183) rfl rfl ?_
          refine Own.aloadN 186 X2 hx (hb hby d17_185) rfl rfl rfl ?_
          refine Own.getFld 189 X2 hx hZ hown (host := "") (Or.inl (w 14 rfl)) Via.refl e2 Finnks_1 (hb hby d17_186) rfl ?_
          intro T3 X3 e3
          refine Own.iload 191 X3 hx (hb hby d17_189) rfl rfl ?_
          refine Own.iconst 192 X3 hx (Own.N 3) (hb hby d17_191) rfl rfl ?_
          refine Own.iadd 193 X3 hx (hb hby d17_192) rfl (Own.N_add _ _) ?_
          refine Own.iload 195 X3 hx (hb hby d17_193) rfl rfl ?_
          refine Own.iadd 196 X3 hx (hb hby d17_195) rfl (Own.N_add _ _) ?_
          refine Own.nLoad 197 (Own.N (G (sl + 1) - G sl)) X3 hx hZ e3 Cib_1 (by omega) q1 (hb hby d17_196) rfl ?_
          refine Own.isub 198 X3 hx (hb hby d17_197) rfl (Own.N_sub (by omega)) ?_
          refine Own.istoreV 200 #[.val (.ref t), .val (.int (Own.N (i))), .val (.int (Own.N (r))), .val (.int (Own.N (b))), .val (.int (Own.N (rs - (G (sl + 1) - G sl)))), .val (.int (Own.N (lvl))), .val (.int (Own.N (b * 128))), .val (.int (Own.N (lst))), .val (.int (Own.N (sl)))] X3 hx (hb hby d17_198) rfl rfl ?_
          refine Own.iinc 203 (fun c_4 => #[.val (.ref t), .val (.int (Own.N (i))), .val (.int (Own.N (r))), .val (.int (Own.N (b))), .val (.int (Own.N (rs - (G (sl + 1) - G sl)))), .val (.int (Own.N (lvl))), .val (.int (Own.N (b * 128))), .val (.int (Own.N (lst))), .val (.int c_4)]) X3 hx (Own.N 1) (hb hby d17_200) rfl rfl rfl (fun _ => rfl) fun c_4 hc_4 => ?_
          obtain rfl : c_4 = Own.N (sl + 1) := hc_4.trans (Own.N_add _ _)
          refine Own.goto 159 X3 hx (hb hby d17_203) (by decide) ?_
          exact ih (sl + 1) _ (by omega) (by omega) (by omega) _ X3 e3
  have LF9 := Lf
  refine Own.aloadN 1 X0 hx (hb hby d17_0) rfl rfl rfl ?_
  refine Own.getFld 4 X0 hx hZ hown (host := "") (Or.inl (w 14 rfl)) Via.refl e0 Finnks_0 (hb hby d17_1) rfl ?_
  intro T5 X5 e5
  refine Own.aloadN 5 X5 hx (hb hby d17_4) rfl rfl rfl ?_
  refine Own.getFld 8 X5 hx hZ hown (host := "") (Or.inl (w 44 rfl)) Via.refl e5 Frooot_0 (hb hby d17_5) rfl ?_
  intro T6 X6 e6
  refine Own.sipush 11 X6 hx (Own.N 128) (hb hby d17_8) rfl rfl ?_
  refine Own.imul 12 X6 hx (hb hby d17_11) rfl (Own.N_mul _ _) ?_
  refine Own.iconst 13 X6 hx (Own.N 2) (hb hby d17_12) rfl rfl ?_
  refine Own.iadd 14 X6 hx (hb hby d17_13) rfl (Own.N_add _ _) ?_
  refine Own.nLoad 15 (Own.N (L)) X6 hx hZ e6 Cib_0 (by omega) H.2.2.2.1 (hb hby d17_14) rfl ?_
  refine Own.bipush 17 X6 hx (Own.N 62) (hb hby d17_15) rfl rfl ?_
  refine Own.nicmp_ne 117 20 X6 hx (hb hby d17_17) (by decide) rfl (by omega) (by omega) (fun tk => ?_) (fun tk => False.elim (by omega))
  refine Own.aloadN 118 X6 hx (hb hby d17_117) rfl rfl rfl ?_
  refine Own.getFld 121 X6 hx hZ hown (host := "") (Or.inl (w 44 rfl)) Via.refl e6 Frooot_0 (hb hby d17_118) rfl ?_
  intro T7 X7 e7
  refine Own.istoreNV 122 #[.val (.ref t), .val (.int (Own.N (i))), .val (.int (Own.N (r))), .val (.int (Own.N (rt))), .unset, .unset, .unset, .unset, .unset] X7 hx (hb hby d17_121) rfl rfl ?_
  refine Own.iloadN 123 X7 hx (hb hby d17_122) rfl rfl ?_
  refine Own.istoreV 125 #[.val (.ref t), .val (.int (Own.N (i))), .val (.int (Own.N (r))), .val (.int (Own.N (rt))), .val (.int (Own.N (r))), .unset, .unset, .unset, .unset] X7 hx (hb hby d17_123) rfl rfl ?_
  refine Own.aloadN 126 X7 hx (hb hby d17_125) rfl rfl rfl ?_
  refine Own.getFld 129 X7 hx hZ hown (host := "") (Or.inl (w 34 rfl)) Via.refl e7 Fheiht_0 (hb hby d17_126) rfl ?_
  intro T8 X8 e8
  refine Own.istoreV 131 #[.val (.ref t), .val (.int (Own.N (i))), .val (.int (Own.N (r))), .val (.int (Own.N (rt))), .val (.int (Own.N (r))), .val (.int (Own.N (1))), .unset, .unset, .unset] X8 hx (hb hby d17_129) rfl rfl ?_
  refine Own.iload 133 X8 hx (hb hby d17_131) rfl rfl ?_
  refine Own.nif_le 312 136 X8 hx (hb hby d17_133) (by decide) rfl (by omega) (fun tk => False.elim (by omega)) (fun tk => ?_)
  refine Own.iloadN 137 X8 hx (hb hby d17_136) rfl rfl ?_
  refine Own.sipush 140 X8 hx (Own.N 128) (hb hby d17_137) rfl rfl ?_
  refine Own.imul 141 X8 hx (hb hby d17_140) rfl (Own.N_mul _ _) ?_
  refine Own.istoreV 143 #[.val (.ref t), .val (.int (Own.N (i))), .val (.int (Own.N (r))), .val (.int (Own.N (rt))), .val (.int (Own.N (r))), .val (.int (Own.N (1))), .val (.int (Own.N (rt * 128))), .unset, .unset] X8 hx (hb hby d17_141) rfl rfl ?_
  refine Own.aloadN 144 X8 hx (hb hby d17_143) rfl rfl rfl ?_
  refine Own.getFld 147 X8 hx hZ hown (host := "") (Or.inl (w 14 rfl)) Via.refl e8 Finnks_0 (hb hby d17_144) rfl ?_
  intro T9 X9 e9
  refine Own.iload 149 X9 hx (hb hby d17_147) rfl rfl ?_
  refine Own.iconst 150 X9 hx (Own.N 2) (hb hby d17_149) rfl rfl ?_
  refine Own.iadd 151 X9 hx (hb hby d17_150) rfl (Own.N_add _ _) ?_
  refine Own.nLoad 152 (Own.N (L)) X9 hx hZ e9 Cib_0 (by omega) H.2.2.2.1 (hb hby d17_151) rfl ?_
  refine Own.iconst 153 X9 hx (Own.N 1) (hb hby d17_152) rfl rfl ?_
  refine Own.isub 154 X9 hx (hb hby d17_153) rfl (Own.N_sub (by omega)) ?_
  refine Own.istoreV 156 #[.val (.ref t), .val (.int (Own.N (i))), .val (.int (Own.N (r))), .val (.int (Own.N (rt))), .val (.int (Own.N (r))), .val (.int (Own.N (1))), .val (.int (Own.N (rt * 128))), .val (.int (Own.N (L - 1))), .unset] X9 hx (hb hby d17_154) rfl rfl ?_
  refine Own.iconst 157 X9 hx (Own.N 0) (hb hby d17_156) rfl rfl ?_
  refine Own.istoreV 159 #[.val (.ref t), .val (.int (Own.N (i))), .val (.int (Own.N (r))), .val (.int (Own.N (rt))), .val (.int (Own.N (r))), .val (.int (Own.N (1))), .val (.int (Own.N (rt * 128))), .val (.int (Own.N (L - 1))), .val (.int (Own.N (0)))] X9 hx (hb hby d17_157) rfl rfl ?_
  refine J159 rt 1 jj (L - 1) _ _ _ pre _ _ _ _ ⟨E_0, Fleaks_0, Fleaes_0, Finnks_0, Finnrs_0, FleaOf_0, Frooot_0, Fheiht_0, Fregar_0, Clb_0, Cib_0, Clo_0⟩ (own_G1 P H hj) (by omega) (by omega) (by omega) (by omega) b8 (by omega) ?_ (jj + 1) 0 _ (by omega) (by omega) (by omega) _ X9 e9
  intro rs hrs Tq Xq eqq
  obtain ⟨u1, u2, u3, u4⟩ := H.2.2.2.2 jj hj
  refine Own.aloadN 207 Xq hx (hb hby d17_206) rfl rfl rfl ?_
  refine Own.aloadN 208 Xq hx (hb hby d17_207) rfl rfl rfl ?_
  refine Own.getFld 211 Xq hx hZ hown (host := "") (Or.inl (w 14 rfl)) Via.refl eqq Finnks_0 (hb hby d17_208) rfl ?_
  intro T10 X10 e10
  refine Own.iload 213 X10 hx (hb hby d17_211) rfl rfl ?_
  refine Own.bipush 215 X10 hx (Own.N 65) (hb hby d17_213) rfl rfl ?_
  refine Own.iadd 216 X10 hx (hb hby d17_215) rfl (Own.N_add _ _) ?_
  refine Own.iload 218 X10 hx (hb hby d17_216) rfl rfl ?_
  refine Own.iadd 219 X10 hx (hb hby d17_218) rfl (Own.N_add _ _) ?_
  refine Own.nLoad 220 (Own.N (jj)) X10 hx hZ e10 Cib_0 (by omega) u4 (hb hby d17_219) rfl ?_
  refine Own.iload 222 X10 hx (hb hby d17_220) rfl rfl ?_
  refine Own.iconst 223 X10 hx (Own.N 1) (hb hby d17_222) rfl rfl ?_
  refine Own.isub 224 X10 hx (hb hby d17_223) rfl (Own.N_sub (by omega)) ?_
  refine Own.callPr 227 0 t [(.int (Own.N (jj))), (.int (Own.N (1 - 1)))] [] X10 hx hZ hown (m18_0 l Z a0 w t lb ib lo _ _ _ _ _ _ _ _ n0 _ _ _ jj (1 - 1) (pre (jj + 1) - pre jj) _ ⟨E_0, Fleaks_0, Fleaes_0, Finnks_0, Finnrs_0, FleaOf_0, Frooot_0, Fheiht_0, Fregar_0, Clb_0, Cib_0, Clo_0⟩ (by omega) (by omega) (by omega) (by omega) hsz (by omega)) E_0 (w 95 rfl) (w 97 rfl) (w 3 rfl) (w 96 rfl) (w 4 rfl) (w 98 rfl) (by decide) e10 (by decide) (by decide) (by decide) (by decide) (by rw [hml]; rfl) (lenOf pd_5 rfl) rfl (Nat.le_of_eq rfl) (hb hby d17_224) rfl ?_
  rintro vv T11 L11 X11 ⟨rfl, hh11, rfl⟩
  have N11 := Fr.app N0 (Fr.nil _)
  refine Own.if_eq 276 230 X11 hx (hb hby d17_227) (by decide) rfl (fun tk => ?_) (fun tk => absurd (if_neg (by omega)) tk)
  refine Own.aloadN 277 X11 hx (hb hby d17_276) rfl rfl rfl ?_
  refine Own.getFld 280 X11 hx hZ hown (host := "") (Or.inl (w 14 rfl)) Via.refl hh11 Finnks_0 (hb hby d17_277) rfl ?_
  intro T12 X12 e12
  refine Own.iload 282 X12 hx (hb hby d17_280) rfl rfl ?_
  refine Own.iconst 283 X12 hx (Own.N 3) (hb hby d17_282) rfl rfl ?_
  refine Own.iadd 284 X12 hx (hb hby d17_283) rfl (Own.N_add _ _) ?_
  refine Own.iload 286 X12 hx (hb hby d17_284) rfl rfl ?_
  refine Own.iadd 287 X12 hx (hb hby d17_286) rfl (Own.N_add _ _) ?_
  refine Own.dup2 288 X12 hx (hb hby d17_287) rfl rfl rfl ?_
  refine Own.nLoad 289 (Own.N (pre (jj + 1) - pre jj)) X12 hx hZ e12 Cib_0 (by omega) u3 (hb hby d17_288) rfl ?_
  refine Own.iconst 290 X12 hx (Own.N 1) (hb hby d17_289) rfl rfl ?_
  refine Own.iadd 291 X12 hx (hb hby d17_290) rfl (Own.N_add _ _) ?_
  refine Own.nStore 292 X12 hx hZ e12 Cib_0 (by omega) (hb hby d17_291) rfl ?_
  intro T13 h13 X13 e13 W13 C13
  have N13 := Fr.snoc X13 N11 g_ib
  have Ef_15 := E_0.wr W13
  have Ff_16 := Fleaks_0.other W13 (Or.inl ne_t_ib)
  have Ff_17 := Fleaes_0.other W13 (Or.inl ne_t_ib)
  have Ff_18 := Finnks_0.other W13 (Or.inl ne_t_ib)
  have Ff_19 := Finnrs_0.other W13 (Or.inl ne_t_ib)
  have Ff_20 := FleaOf_0.other W13 (Or.inl ne_t_ib)
  have Ff_21 := Frooot_0.other W13 (Or.inl ne_t_ib)
  have Ff_22 := Fheiht_0.other W13 (Or.inl ne_t_ib)
  have Ff_23 := Fregar_0.other W13 (Or.inl ne_t_ib)
  have Cf_24 := Clb_0.other W13 ne_lb_ib
  have Cf_26 := Clo_0.other W13 (Ne.symm ne_ib_lo)
  have zl13 := Nat.le_trans Z0 (Nat.le_of_eq W13.size.symm)
  have K13 := (Keep.refl h0 [t, lb, ib, lo]).wr W13 (Or.inl (List.mem_of_getElem? (i := 2) rfl))
  refine Own.aloadN 293 X13 hx (hb hby d17_292) rfl rfl rfl ?_
  refine Own.getFld 296 X13 hx hZ hown (host := "") (Or.inl (w 14 rfl)) Via.refl e13 Ff_18 (hb hby d17_293) rfl ?_
  intro T27 X27 e27
  refine Own.iload 298 X27 hx (hb hby d17_296) rfl rfl ?_
  refine Own.bipush 300 X27 hx (Own.N 65) (hb hby d17_298) rfl rfl ?_
  refine Own.iadd 301 X27 hx (hb hby d17_300) rfl (Own.N_add _ _) ?_
  refine Own.iload 303 X27 hx (hb hby d17_301) rfl rfl ?_
  refine Own.iadd 304 X27 hx (hb hby d17_303) rfl (Own.N_add _ _) ?_
  refine Own.nLoad 305 (Own.N (jj)) X27 hx hZ e27 C13 (by omega) (by rw [Own.upd_miss (by omega)]; exact u4) (hb hby d17_304) rfl ?_
  refine Own.istoreNV 306 #[.val (.ref t), .val (.int (Own.N (i))), .val (.int (Own.N (r))), .val (.int (Own.N (jj))), .val (.int (Own.N (rs))), .val (.int (Own.N (1))), .val (.int (Own.N (rt * 128))), .val (.int (Own.N (L - 1))), .val (.int (Own.N (jj)))] X27 hx (hb hby d17_305) rfl rfl ?_
  refine Own.iinc 309 (fun c_28 => #[.val (.ref t), .val (.int (Own.N (i))), .val (.int (Own.N (r))), .val (.int (Own.N (jj))), .val (.int (Own.N (rs))), .val (.int c_28), .val (.int (Own.N (rt * 128))), .val (.int (Own.N (L - 1))), .val (.int (Own.N (jj)))]) X27 hx ((-1 : Int32)) (hb hby d17_306) rfl rfl rfl (fun _ => rfl) fun c_28 hc_28 => ?_
  obtain rfl : c_28 = Own.N (0) := hc_28.trans (by decide)
  refine Own.goto 131 X27 hx (hb hby d17_309) (by decide) ?_
  refine Own.iload 133 X27 hx (hb hby d17_131) rfl rfl ?_
  refine Own.nif_le 312 136 X27 hx (hb hby d17_133) (by decide) rfl (by omega) (fun tk => ?_) (fun tk => False.elim (by omega))
  refine Own.iloadN 313 X27 hx (hb hby d17_312) rfl rfl ?_
  refine Own.bipush 315 X27 hx (Own.N 64) (hb hby d17_313) rfl rfl ?_
  refine Own.imul 316 X27 hx (hb hby d17_315) rfl (Own.N_mul _ _) ?_
  refine Own.iconst 317 X27 hx (Own.N 3) (hb hby d17_316) rfl rfl ?_
  refine Own.iadd 318 X27 hx (hb hby d17_317) rfl (Own.N_add _ _) ?_
  refine Own.iload 320 X27 hx (hb hby d17_318) rfl rfl ?_
  refine Own.iadd 321 X27 hx (hb hby d17_320) rfl (Own.N_add _ _) ?_
  refine Own.iconst 322 X27 hx (Own.N 1) (hb hby d17_321) rfl rfl ?_
  refine Own.isub 323 X27 hx (hb hby d17_322) rfl (Own.N_sub (by omega)) ?_
  refine Own.istoreV 325 #[.val (.ref t), .val (.int (Own.N (i))), .val (.int (Own.N (r))), .val (.int (Own.N (jj))), .val (.int (Own.N (rs))), .val (.int (Own.N ((((jj * 64) + 3) + rs) - 1))), .val (.int (Own.N (rt * 128))), .val (.int (Own.N (L - 1))), .val (.int (Own.N (jj)))] X27 hx (hb hby d17_323) rfl rfl ?_
  refine Own.iloadN 326 X27 hx (hb hby d17_325) rfl rfl ?_
  refine Own.bipush 328 X27 hx (Own.N 64) (hb hby d17_326) rfl rfl ?_
  refine Own.imul 329 X27 hx (hb hby d17_328) rfl (Own.N_mul _ _) ?_
  refine Own.iconst 330 X27 hx (Own.N 3) (hb hby d17_329) rfl rfl ?_
  refine Own.iadd 331 X27 hx (hb hby d17_330) rfl (Own.N_add _ _) ?_
  refine Own.aloadN 332 X27 hx (hb hby d17_331) rfl rfl rfl ?_
  refine Own.getFld 335 X27 hx hZ hown (host := "") (Or.inl (w 12 rfl)) Via.refl e27 Ff_16 (hb hby d17_332) rfl ?_
  intro T29 X29 e29
  refine Own.iloadN 336 X29 hx (hb hby d17_335) rfl rfl ?_
  refine Own.bipush 338 X29 hx (Own.N 64) (hb hby d17_336) rfl rfl ?_
  refine Own.imul 339 X29 hx (hb hby d17_338) rfl (Own.N_mul _ _) ?_
  refine Own.iconst 340 X29 hx (Own.N 2) (hb hby d17_339) rfl rfl ?_
  refine Own.iadd 341 X29 hx (hb hby d17_340) rfl (Own.N_add _ _) ?_
  refine Own.nLoad 342 (Own.N (pre (jj + 1) - pre jj)) X29 hx hZ e29 Cf_24 (by omega) hsz (hb hby d17_341) rfl ?_
  refine Own.iadd 343 X29 hx (hb hby d17_342) rfl (Own.N_add _ _) ?_
  refine Own.istoreV 345 #[.val (.ref t), .val (.int (Own.N (i))), .val (.int (Own.N (r))), .val (.int (Own.N (jj))), .val (.int (Own.N (rs))), .val (.int (Own.N ((((jj * 64) + 3) + rs) - 1))), .val (.int (Own.N (((jj * 64) + 3) + (pre (jj + 1) - pre jj)))), .val (.int (Own.N (L - 1))), .val (.int (Own.N (jj)))] X29 hx (hb hby d17_343) rfl rfl ?_
  refine Own.aloadN 346 X29 hx (hb hby d17_345) rfl rfl rfl ?_
  refine Own.getFld 349 X29 hx hZ hown (host := "") (Or.inl (w 12 rfl)) Via.refl e29 Ff_16 (hb hby d17_346) rfl ?_
  intro T30 X30 e30
  refine Own.iload 351 X30 hx (hb hby d17_349) rfl rfl ?_
  refine Own.aloadN 352 X30 hx (hb hby d17_351) rfl rfl rfl ?_
  refine Own.getFld 355 X30 hx hZ hown (host := "") (Or.inl (w 12 rfl)) Via.refl e30 Ff_16 (hb hby d17_352) rfl ?_
  intro T31 X31 e31
  refine Own.iload 357 X31 hx (hb hby d17_355) rfl rfl ?_
  refine Own.iconst 358 X31 hx (Own.N 1) (hb hby d17_357) rfl rfl ?_
  refine Own.iadd 359 X31 hx (hb hby d17_358) rfl (Own.N_add _ _) ?_
  refine Own.iload 361 X31 hx (hb hby d17_359) rfl rfl ?_
  refine Own.iload 363 X31 hx (hb hby d17_361) rfl rfl ?_
  refine Own.isub 364 X31 hx (hb hby d17_363) rfl (Own.N_sub (by omega)) ?_
  refine Own.nCopy 367 0 X31 hx hZ hown (w 28 rfl) (w 31 rfl) (w 29 rfl) (w 30 rfl) e31 Cf_24 Cf_24 (by omega) (by omega) N13 g_lb (by rw [hml]; rfl) (hb hby d17_364) rfl (by decide) (Nat.le_of_eq rfl) (by decide) ?_
  intro T32 h32 L32 X32 e32 N32 K32 C32
  have Ef_34 := Ef_15.keep K32
  have Ff_35 := Ff_16.keep K32 (ninS ne_t_lb nin0)
  have Ff_36 := Ff_17.keep K32 (ninS ne_t_lb nin0)
  have Ff_37 := Ff_18.keep K32 (ninS ne_t_lb nin0)
  have Ff_38 := Ff_19.keep K32 (ninS ne_t_lb nin0)
  have Ff_39 := Ff_20.keep K32 (ninS ne_t_lb nin0)
  have Ff_40 := Ff_21.keep K32 (ninS ne_t_lb nin0)
  have Ff_41 := Ff_22.keep K32 (ninS ne_t_lb nin0)
  have Ff_42 := Ff_23.keep K32 (ninS ne_t_lb nin0)
  have Cf_43 := Cf_26.keep K32 (ninS (Ne.symm ne_lb_lo) nin0)
  have Cf_44 := C13.keep K32 (ninS (Ne.symm ne_lb_ib) nin0)
  have KK32 := K13.trans K32 (allS (Or.inl (List.mem_of_getElem? (i := 1) rfl)) all0)
  have zl32 := Nat.le_trans zl13 K32.1
  refine Own.aloadN 368 X32 hx (hb hby d17_367) rfl rfl rfl ?_
  refine Own.getFld 371 X32 hx hZ hown (host := "") (Or.inl (w 12 rfl)) Via.refl e32 Ff_35 (hb hby d17_368) rfl ?_
  intro T45 X45 e45
  refine Own.iload 373 X45 hx (hb hby d17_371) rfl rfl ?_
  refine Own.iloadN 374 X45 hx (hb hby d17_373) rfl rfl ?_
  refine Own.nStore 375 X45 hx hZ e45 C32 (by omega) (hb hby d17_374) rfl ?_
  intro T46 h46 X46 e46 W46 C46
  have N46 := Fr.snoc X46 N32 g_lb
  have Ef_48 := Ef_34.wr W46
  have Ff_49 := Ff_35.other W46 (Or.inl ne_t_lb)
  have Ff_50 := Ff_36.other W46 (Or.inl ne_t_lb)
  have Ff_51 := Ff_37.other W46 (Or.inl ne_t_lb)
  have Ff_52 := Ff_38.other W46 (Or.inl ne_t_lb)
  have Ff_53 := Ff_39.other W46 (Or.inl ne_t_lb)
  have Ff_54 := Ff_40.other W46 (Or.inl ne_t_lb)
  have Ff_55 := Ff_41.other W46 (Or.inl ne_t_lb)
  have Ff_56 := Ff_42.other W46 (Or.inl ne_t_lb)
  have Cf_57 := Cf_43.other W46 (Ne.symm ne_lb_lo)
  have Cf_58 := Cf_44.other W46 (Ne.symm ne_lb_ib)
  have zl46 := Nat.le_trans zl32 (Nat.le_of_eq W46.size.symm)
  have K46 := KK32.wr W46 (Or.inl (List.mem_of_getElem? (i := 1) rfl))
  refine Own.aloadN 376 X46 hx (hb hby d17_375) rfl rfl rfl ?_
  refine Own.getFld 379 X46 hx hZ hown (host := "") (Or.inl (w 12 rfl)) Via.refl e46 Ff_49 (hb hby d17_376) rfl ?_
  intro T60 X60 e60
  refine Own.iloadN 380 X60 hx (hb hby d17_379) rfl rfl ?_
  refine Own.bipush 382 X60 hx (Own.N 64) (hb hby d17_380) rfl rfl ?_
  refine Own.imul 383 X60 hx (hb hby d17_382) rfl (Own.N_mul _ _) ?_
  refine Own.iconst 384 X60 hx (Own.N 2) (hb hby d17_383) rfl rfl ?_
  refine Own.iadd 385 X60 hx (hb hby d17_384) rfl (Own.N_add _ _) ?_
  refine Own.dup2 386 X60 hx (hb hby d17_385) rfl rfl rfl ?_
  refine Own.nLoad 387 (Own.N (pre (jj + 1) - pre jj)) X60 hx hZ e60 C46 (by omega) (by rw [Own.upd_miss (by omega), Own.cpy_out (by omega)]; exact hsz) (hb hby d17_386) rfl ?_
  refine Own.iconst 388 X60 hx (Own.N 1) (hb hby d17_387) rfl rfl ?_
  refine Own.iadd 389 X60 hx (hb hby d17_388) rfl (Own.N_add _ _) ?_
  refine Own.nStore 390 X60 hx hZ e60 C46 (by omega) (hb hby d17_389) rfl ?_
  intro T61 h61 X61 e61 W61 C61
  have N61 := Fr.snoc X61 N46 g_lb
  have Ef_63 := Ef_48.wr W61
  have Ff_64 := Ff_49.other W61 (Or.inl ne_t_lb)
  have Ff_65 := Ff_50.other W61 (Or.inl ne_t_lb)
  have Ff_66 := Ff_51.other W61 (Or.inl ne_t_lb)
  have Ff_67 := Ff_52.other W61 (Or.inl ne_t_lb)
  have Ff_68 := Ff_53.other W61 (Or.inl ne_t_lb)
  have Ff_69 := Ff_54.other W61 (Or.inl ne_t_lb)
  have Ff_70 := Ff_55.other W61 (Or.inl ne_t_lb)
  have Ff_71 := Ff_56.other W61 (Or.inl ne_t_lb)
  have Cf_72 := Cf_57.other W61 (Ne.symm ne_lb_lo)
  have Cf_73 := Cf_58.other W61 (Ne.symm ne_lb_ib)
  have zl61 := Nat.le_trans zl46 (Nat.le_of_eq W61.size.symm)
  have K61 := K46.wr W61 (Or.inl (List.mem_of_getElem? (i := 1) rfl))
  refine Own.aloadN 391 X61 hx (hb hby d17_390) rfl rfl rfl ?_
  refine Own.getFld 394 X61 hx hZ hown (host := "") (Or.inl (w 16 rfl)) Via.refl e61 Ff_68 (hb hby d17_391) rfl ?_
  intro T75 X75 e75
  refine Own.iloadN 395 X75 hx (hb hby d17_394) rfl rfl ?_
  refine Own.iloadN 396 X75 hx (hb hby d17_395) rfl rfl ?_
  refine Own.nStore 397 X75 hx hZ e75 Cf_72 (by omega) (hb hby d17_396) rfl ?_
  intro T76 h76 X76 e76 W76 C76
  have N76 := Fr.snoc X76 N61 g_lo
  have Ef_78 := Ef_63.wr W76
  have Ff_79 := Ff_64.other W76 (Or.inl ne_t_lo)
  have Ff_80 := Ff_65.other W76 (Or.inl ne_t_lo)
  have Ff_81 := Ff_66.other W76 (Or.inl ne_t_lo)
  have Ff_82 := Ff_67.other W76 (Or.inl ne_t_lo)
  have Ff_83 := Ff_68.other W76 (Or.inl ne_t_lo)
  have Ff_84 := Ff_69.other W76 (Or.inl ne_t_lo)
  have Ff_85 := Ff_70.other W76 (Or.inl ne_t_lo)
  have Ff_86 := Ff_71.other W76 (Or.inl ne_t_lo)
  have Cf_88 := Cf_73.other W76 ne_ib_lo
  have Cf_89 := C61.other W76 ne_lb_lo
  have zl76 := Nat.le_trans zl61 (Nat.le_of_eq W76.size.symm)
  have K76 := K61.wr W76 (Or.inl (List.mem_of_getElem? (i := 3) rfl))
  refine Own.retVoid X76 hx hlk hret (hb hby d17_397) (by decide) (by decide) ?_
  rw [e76]
  exact ⟨rfl, N76, K76, own_inP pre jj, _, _, _, ⟨Ef_78, Ff_79, Ff_80, Ff_81, Ff_82, Ff_83, Ff_84, Ff_85, Ff_86, Cf_89, Cf_88, C76⟩, ⟨own_in_Pr P hj, by omega, hL1, hL2, by omega, Or.inl ⟨rfl, own_H1_upd H hj (fun j hj' => ⟨by rw [Own.upd_miss (by omega), Own.upd_miss (by omega), Own.cpy_out (by omega)], by rw [Own.upd_miss (by omega), Own.upd_miss (by omega), Own.cpy_out (by omega)]⟩) own_in_dif (by omega) (own_inP_at (by omega)).symm⟩, Or.inr rfl, hzI, hzI2, hzL, hzL2⟩, (by have h9 := fun a a1 m b z ha ha1 hm hb hz => own_in_Lf P LF9 (j0 := jj) (k0 := r - 1 - pre jj) (i := i) (a := a) (a1 := a1) (m := m) (b := b) (z := z) hj (by omega) hni ha ha1 hm hb hz (by omega) (w := Own.N jj) rfl; rw [show pre jj + (r - 1 - pre jj) = r - 1 from by omega] at h9; exact h9 _ _ _ _ _ (by omega) (by omega) (by omega) (by omega) (by omega))⟩
set_option maxRecDepth 65536 in
set_option maxHeartbeats 40000000 in
theorem m17_2 (l : Launch) (Z : State) (a0 : Array Value) (w : ∀ (i : Nat) {d : Jvm.Cond}, tables_1[i]? = some d → d.before a0 Z = true) (t : Addr) (lb ib lo : Addr) (lv inn rt zL zI zO n0 : Nat) (fL fI fO : Nat → Int32)(i r L n' : Nat) (pre ord : Nat → Nat) (h0 : Heap) (Z0 : n0 ≤ h0.size) (D0 : own_D n0 t lb ib lo) (S0 : own_S Z h0 t lb ib lo lv inn rt 2 0 zL zI zO fL fI fO) (TT : own_T L n' 30 rt 2 0 zL zI pre fL fI) (O : own_Or n' zO ord) (Lf : own_Lf L pre ord fL fO) (bz : zO < 1000000) (hi : i < zO) (hni : ∀ q, q < n' → ord q ≠ i) (hr : 1 ≤ r ∧ r ≤ n' + 1) (hn1 : n' + 1 ≤ 4096) :
    Own.Met l Z (⟨"com/example/frontrank/frontrank/OrderTree", "insert", "(II)V"⟩ : MethodName) prog_32_method_10_code 9 none [] ({ frames := 1, cells := 0, slots := 0, locals := 18 } : Room) #[(.ref t), (.int (Own.N (i))), (.int (Own.N (r)))] h0 (fun v h L' => v = none ∧ Fr n0 L' ∧ Keep h0 h [t, lb, ib, lo] ∧ ∃ pre' fL' fI' fO', own_S Z h t lb ib lo lv inn rt 2 0 zL zI zO fL' fI' fO' ∧ own_T L (n' + 1) 31 rt 2 0 zL zI pre' fL' fI' ∧ own_Lf L pre' (own_inO ord (r - 1) i) fL' fO') := by
  refine Own.Met.of (plainFor_of_name (by first | (simp [plainName, overriddenIn]; done) | decide +kernel)) ?_
  intro p e s m below meth c T0 hx hby hml hown hnm hret hlk hZ X0 e0
  have hown : s.vm.findClass "com/example/frontrank/frontrank/OrderTree" = some m.cls := hown
  have hml : c.maxLocals = 9 := hml
  have hnm : meth.name = "insert" := hnm
  have ef : entryFrame m #[(.ref t), (.int (Own.N (i))), (.int (Own.N (r)))] 9 = mkF m 0 #[.val (.ref t), .val (.int (Own.N (i))), .val (.int (Own.N (r))), .unset, .unset, .unset, .unset, .unset, .unset] [] := by first | (simp [entryFrame, mkF, argsToLocals, Value.category]; done) | rfl
  rw [ef]
  have N0 := Fr.nil n0
  have D00 := D0
  obtain ⟨ne_t_lb, ne_t_ib, ne_t_lo, ne_lb_ib, ne_lb_lo, ne_ib_lo, g_t, g_lb, g_ib, g_lo⟩ := D0
  obtain ⟨E_0, Fleaks_0, Fleaes_0, Finnks_0, Finnrs_0, FleaOf_0, Frooot_0, Fheiht_0, Fregar_0, Clb_0, Cib_0, Clo_0⟩ := S0
  obtain ⟨P, hB, hL1, hL2, hn', hT, hR, hzI, hzI2, hzL, hzL2⟩ := TT
  obtain ⟨jj, hj, f1, f2⟩ := own_find2 P hL1 hr.1 hr.2
  have bd := own_bound P (j := jj + 1) (by omega)
  have p0 := P.1
  have pj := P.2.2 jj hj
  have hsz := (Lf jj hj).1
  obtain ⟨V, nd, H⟩ : ∃ V nd, own_H2 L V rt nd pre fL fI := by
    rcases hT with ⟨h9, -⟩ | ⟨-, H⟩
    · omega
    · exact H
  have J159 : ∀ (b lvl cc lst inn1 rt1 ht1 : Nat) (G : Nat → Nat) (gL gI : Nat → Int32) (Lq : List Loc) (hq : Heap) (Sq : own_S Z hq t lb ib lo lv inn1 rt1 ht1 0 zL zI zO gL gI fO) (hG : own_Gc gI b cc G) (h1 : G cc < r) (h2 : r ≤ G (cc + 1) ∨ cc = lst) (h4 : cc ≤ lst) (h3 : G (cc + 1) < 1000000) (bb : b < 8) (bc : lst < 62) (KK : ∀ (rs : Nat) (hrs : rs = r - G cc) (Tq : State) (Xq : Stand p l e ({ frames := 1, cells := 0, slots := 0, locals := 18 } : Room) s m #[(.ref t), (.int (Own.N (i))), (.int (Own.N (r)))] below meth c Tq Lq 0 0) (eqq : Tq.heap = hq), Own.Ends p.tables e below (fun v h L' => v = none ∧ Fr n0 L' ∧ Keep h0 h [t, lb, ib, lo] ∧ ∃ pre' fL' fI' fO', own_S Z h t lb ib lo lv inn rt 2 0 zL zI zO fL' fI' fO' ∧ own_T L (n' + 1) 31 rt 2 0 zL zI pre' fL' fI' ∧ own_Lf L pre' (own_inO ord (r - 1) i) fL' fO') (Own.FE s ({ frames := 1, cells := 0, slots := 0, locals := 18 } : Room).cells ({ frames := 1, cells := 0, slots := 0, locals := 18 } : Room).slots) (Tq.setTop (mkF m 206 #[.val (.ref t), .val (.int (Own.N (i))), .val (.int (Own.N (r))), .val (.int (Own.N (b))), .val (.int (Own.N (rs))), .val (.int (Own.N (lvl))), .val (.int (Own.N (b * 128))), .val (.int (Own.N (lst))), .val (.int (Own.N (cc)))] []))) (kk sl rs : Nat) (hs : sl ≤ cc) (hk : cc - sl < kk) (hrs : rs = r - G sl) (Tq : State) (Xq : Stand p l e ({ frames := 1, cells := 0, slots := 0, locals := 18 } : Room) s m #[(.ref t), (.int (Own.N (i))), (.int (Own.N (r)))] below meth c Tq Lq 0 0) (eqq : Tq.heap = hq), Own.Ends p.tables e below (fun v h L' => v = none ∧ Fr n0 L' ∧ Keep h0 h [t, lb, ib, lo] ∧ ∃ pre' fL' fI' fO', own_S Z h t lb ib lo lv inn rt 2 0 zL zI zO fL' fI' fO' ∧ own_T L (n' + 1) 31 rt 2 0 zL zI pre' fL' fI' ∧ own_Lf L pre' (own_inO ord (r - 1) i) fL' fO') (Own.FE s ({ frames := 1, cells := 0, slots := 0, locals := 18 } : Room).cells ({ frames := 1, cells := 0, slots := 0, locals := 18 } : Room).slots) (Tq.setTop (mkF m 159 #[.val (.ref t), .val (.int (Own.N (i))), .val (.int (Own.N (r))), .val (.int (Own.N (b))), .val (.int (Own.N (rs))), .val (.int (Own.N (lvl))), .val (.int (Own.N (b * 128))), .val (.int (Own.N (lst))), .val (.int (Own.N (sl)))] [])) := by
    intro b lvl cc lst inn1 rt1 ht1 G gL gI Lq hq Sq hG h1 h2 h4 h3 bb bc KK kk
    induction kk with
    | zero => intros; exfalso; omega
    | succ kk ih =>
      intro sl rs hs hk hrs Tq Xq eqq
      obtain ⟨q1, q2, q3⟩ := hG sl hs
      have q4 : G (sl + 1) < 1000000 := by
        by_cases c9 : sl = cc
        · subst c9; exact h3
        · have := (hG (sl + 1) (by omega)).2.2; omega
      obtain ⟨E_1, Fleaks_1, Fleaes_1, Finnks_1, Finnrs_1, FleaOf_1, Frooot_1, Fheiht_1, Fregar_1, Clb_1, Cib_1, Clo_1⟩ := Sq
      refine Own.iload 161 Xq hx (hb hby d17_159) rfl rfl ?_
      refine Own.iload 163 Xq hx (hb hby d17_161) rfl rfl ?_
      refine Own.nicmp_ge 206 166 Xq hx (hb hby d17_163) (by decide) rfl (by omega) (by omega) (fun tk => ?_) (fun tk => ?_)
      ·
        obtain rfl : sl = cc := by omega
        exact KK rs hrs _ Xq eqq
      ·
        refine Own.iload 168 Xq hx (hb hby d17_166) rfl rfl ?_
        refine Own.aloadN 169 Xq hx (hb hby d17_168) rfl rfl rfl ?_
        refine Own.getFld 172 Xq hx hZ hown (host := "") (Or.inl (w 14 rfl)) Via.refl eqq Finnks_1 (hb hby d17_169) rfl ?_
        intro T2 X2 e2
        refine Own.iload 174 X2 hx (hb hby d17_172) rfl rfl ?_
        refine Own.iconst 175 X2 hx (Own.N 3) (hb hby d17_174) rfl rfl ?_
        refine Own.iadd 176 X2 hx (hb hby d17_175) rfl (Own.N_add _ _) ?_
        refine Own.iload 178 X2 hx (hb hby d17_176) rfl rfl ?_
        refine Own.iadd 179 X2 hx (hb hby d17_178) rfl (Own.N_add _ _) ?_
        refine Own.nLoad 180 (Own.N (G (sl + 1) - G sl)) X2 hx hZ e2 Cib_1 (by omega) q1 (hb hby d17_179) rfl ?_
        refine Own.nicmp_le 206 183 X2 hx (hb hby d17_180) (by decide) rfl (by omega) (by omega) (fun tk2 => ?_) (fun tk2 => ?_)
        ·
          obtain rfl : sl = cc := by
            by_cases c9 : sl = cc
            · exact c9
            · have := (hG (sl + 1) (by omega)).2.2; omega
          exact KK rs hrs _ X2 e2
        ·
          have c9 : sl ≠ cc := fun c9 => by subst c9; omega
          refine Own.iload 185 X2 hx (hb hby d17_183) rfl rfl ?_
          refine Own.aloadN 186 X2 hx (hb hby d17_185) rfl rfl rfl ?_
          refine Own.getFld 189 X2 hx hZ hown (host := "") (Or.inl (w 14 rfl)) Via.refl e2 Finnks_1 (hb hby d17_186) rfl ?_
          intro T3 X3 e3
          refine Own.iload 191 X3 hx (hb hby d17_189) rfl rfl ?_
          refine Own.iconst 192 X3 hx (Own.N 3) (hb hby d17_191) rfl rfl ?_
          refine Own.iadd 193 X3 hx (hb hby d17_192) rfl (Own.N_add _ _) ?_
          refine Own.iload 195 X3 hx (hb hby d17_193) rfl rfl ?_
          refine Own.iadd 196 X3 hx (hb hby d17_195) rfl (Own.N_add _ _) ?_
          refine Own.nLoad 197 (Own.N (G (sl + 1) - G sl)) X3 hx hZ e3 Cib_1 (by omega) q1 (hb hby d17_196) rfl ?_
          refine Own.isub 198 X3 hx (hb hby d17_197) rfl (Own.N_sub (by omega)) ?_
          refine Own.istoreV 200 #[.val (.ref t), .val (.int (Own.N (i))), .val (.int (Own.N (r))), .val (.int (Own.N (b))), .val (.int (Own.N (rs - (G (sl + 1) - G sl)))), .val (.int (Own.N (lvl))), .val (.int (Own.N (b * 128))), .val (.int (Own.N (lst))), .val (.int (Own.N (sl)))] X3 hx (hb hby d17_198) rfl rfl ?_
          refine Own.iinc 203 (fun c_4 => #[.val (.ref t), .val (.int (Own.N (i))), .val (.int (Own.N (r))), .val (.int (Own.N (b))), .val (.int (Own.N (rs - (G (sl + 1) - G sl)))), .val (.int (Own.N (lvl))), .val (.int (Own.N (b * 128))), .val (.int (Own.N (lst))), .val (.int c_4)]) X3 hx (Own.N 1) (hb hby d17_200) rfl rfl rfl (fun _ => rfl) fun c_4 hc_4 => ?_
          obtain rfl : c_4 = Own.N (sl + 1) := hc_4.trans (Own.N_add _ _)
          refine Own.goto 159 X3 hx (hb hby d17_203) (by decide) ?_
          exact ih (sl + 1) _ (by omega) (by omega) (by omega) _ X3 e3
  have LF9 := Lf
  have hsz9 := hsz
  have b8' := H.2.2.2.1
  have hV := H.1
  have hV5 := H.2.2.1
  obtain ⟨d1, d2, d3, d4, d5, d6, d7⟩ := H.2.2.2.2.2.2.1 (jj / 31) (by omega)
  obtain ⟨u1, u2, u3, u4⟩ := H.2.2.2.2.2.2.2.2 jj hj
  obtain ⟨G1, G2, G3, G4, G5, G6, G7⟩ := own_gr_in P hj
  have s8 : own_st L (jj / 31) = 31 * (jj / 31) := by unfold own_st; omega
  have s9 : own_st L (jj / 31 + 1) = min (31 * (jj / 31 + 1)) L := rfl
  have e8 : own_gr L pre (jj / 31) = pre (own_st L (jj / 31)) := rfl
  have e9 : own_gr L pre (jj / 31 + 1) = pre (own_st L (jj / 31 + 1)) := rfl
  refine Own.aloadN 1 X0 hx (hb hby d17_0) rfl rfl rfl ?_
  refine Own.getFld 4 X0 hx hZ hown (host := "") (Or.inl (w 14 rfl)) Via.refl e0 Finnks_0 (hb hby d17_1) rfl ?_
  intro T5 X5 e5
  refine Own.aloadN 5 X5 hx (hb hby d17_4) rfl rfl rfl ?_
  refine Own.getFld 8 X5 hx hZ hown (host := "") (Or.inl (w 44 rfl)) Via.refl e5 Frooot_0 (hb hby d17_5) rfl ?_
  intro T6 X6 e6
  refine Own.sipush 11 X6 hx (Own.N 128) (hb hby d17_8) rfl rfl ?_
  refine Own.imul 12 X6 hx (hb hby d17_11) rfl (Own.N_mul _ _) ?_
  refine Own.iconst 13 X6 hx (Own.N 2) (hb hby d17_12) rfl rfl ?_
  refine Own.iadd 14 X6 hx (hb hby d17_13) rfl (Own.N_add _ _) ?_
  refine Own.nLoad 15 (Own.N (V)) X6 hx hZ e6 Cib_0 (by omega) H.2.2.2.2.2.1 (hb hby d17_14) rfl ?_
  refine Own.bipush 17 X6 hx (Own.N 62) (hb hby d17_15) rfl rfl ?_
  refine Own.nicmp_ne 117 20 X6 hx (hb hby d17_17) (by decide) rfl (by omega) (by omega) (fun tk => ?_) (fun tk => False.elim (by omega))
  refine Own.aloadN 118 X6 hx (hb hby d17_117) rfl rfl rfl ?_
  refine Own.getFld 121 X6 hx hZ hown (host := "") (Or.inl (w 44 rfl)) Via.refl e6 Frooot_0 (hb hby d17_118) rfl ?_
  intro T7 X7 e7
  refine Own.istoreNV 122 #[.val (.ref t), .val (.int (Own.N (i))), .val (.int (Own.N (r))), .val (.int (Own.N (rt))), .unset, .unset, .unset, .unset, .unset] X7 hx (hb hby d17_121) rfl rfl ?_
  refine Own.iloadN 123 X7 hx (hb hby d17_122) rfl rfl ?_
  refine Own.istoreV 125 #[.val (.ref t), .val (.int (Own.N (i))), .val (.int (Own.N (r))), .val (.int (Own.N (rt))), .val (.int (Own.N (r))), .unset, .unset, .unset, .unset] X7 hx (hb hby d17_123) rfl rfl ?_
  refine Own.aloadN 126 X7 hx (hb hby d17_125) rfl rfl rfl ?_
  refine Own.getFld 129 X7 hx hZ hown (host := "") (Or.inl (w 34 rfl)) Via.refl e7 Fheiht_0 (hb hby d17_126) rfl ?_
  intro T8 X8 e8
  refine Own.istoreV 131 #[.val (.ref t), .val (.int (Own.N (i))), .val (.int (Own.N (r))), .val (.int (Own.N (rt))), .val (.int (Own.N (r))), .val (.int (Own.N (2))), .unset, .unset, .unset] X8 hx (hb hby d17_129) rfl rfl ?_
  refine Own.iload 133 X8 hx (hb hby d17_131) rfl rfl ?_
  refine Own.nif_le 312 136 X8 hx (hb hby d17_133) (by decide) rfl (by omega) (fun tk => False.elim (by omega)) (fun tk => ?_)
  refine Own.iloadN 137 X8 hx (hb hby d17_136) rfl rfl ?_
  refine Own.sipush 140 X8 hx (Own.N 128) (hb hby d17_137) rfl rfl ?_
  refine Own.imul 141 X8 hx (hb hby d17_140) rfl (Own.N_mul _ _) ?_
  refine Own.istoreV 143 #[.val (.ref t), .val (.int (Own.N (i))), .val (.int (Own.N (r))), .val (.int (Own.N (rt))), .val (.int (Own.N (r))), .val (.int (Own.N (2))), .val (.int (Own.N (rt * 128))), .unset, .unset] X8 hx (hb hby d17_141) rfl rfl ?_
  refine Own.aloadN 144 X8 hx (hb hby d17_143) rfl rfl rfl ?_
  refine Own.getFld 147 X8 hx hZ hown (host := "") (Or.inl (w 14 rfl)) Via.refl e8 Finnks_0 (hb hby d17_144) rfl ?_
  intro T9 X9 e9
  refine Own.iload 149 X9 hx (hb hby d17_147) rfl rfl ?_
  refine Own.iconst 150 X9 hx (Own.N 2) (hb hby d17_149) rfl rfl ?_
  refine Own.iadd 151 X9 hx (hb hby d17_150) rfl (Own.N_add _ _) ?_
  refine Own.nLoad 152 (Own.N (V)) X9 hx hZ e9 Cib_0 (by omega) H.2.2.2.2.2.1 (hb hby d17_151) rfl ?_
  refine Own.iconst 153 X9 hx (Own.N 1) (hb hby d17_152) rfl rfl ?_
  refine Own.isub 154 X9 hx (hb hby d17_153) rfl (Own.N_sub (by omega)) ?_
  refine Own.istoreV 156 #[.val (.ref t), .val (.int (Own.N (i))), .val (.int (Own.N (r))), .val (.int (Own.N (rt))), .val (.int (Own.N (r))), .val (.int (Own.N (2))), .val (.int (Own.N (rt * 128))), .val (.int (Own.N (V - 1))), .unset] X9 hx (hb hby d17_154) rfl rfl ?_
  refine Own.iconst 157 X9 hx (Own.N 0) (hb hby d17_156) rfl rfl ?_
  refine Own.istoreV 159 #[.val (.ref t), .val (.int (Own.N (i))), .val (.int (Own.N (r))), .val (.int (Own.N (rt))), .val (.int (Own.N (r))), .val (.int (Own.N (2))), .val (.int (Own.N (rt * 128))), .val (.int (Own.N (V - 1))), .val (.int (Own.N (0)))] X9 hx (hb hby d17_157) rfl rfl ?_
  refine J159 rt 2 (jj / 31) (V - 1) _ _ _ (own_gr L pre) _ _ _ _ ⟨E_0, Fleaks_0, Fleaes_0, Finnks_0, Finnrs_0, FleaOf_0, Frooot_0, Fheiht_0, Fregar_0, Clb_0, Cib_0, Clo_0⟩ (own_G2r P H (by omega)) (by omega) (by omega) (by omega) (by omega) b8' (by omega) ?_ (jj / 31 + 1) 0 _ (by omega) (by omega) (by omega) _ X9 e9
  intro rs hrs Tq Xq eqq
  refine Own.aloadN 207 Xq hx (hb hby d17_206) rfl rfl rfl ?_
  refine Own.aloadN 208 Xq hx (hb hby d17_207) rfl rfl rfl ?_
  refine Own.getFld 211 Xq hx hZ hown (host := "") (Or.inl (w 14 rfl)) Via.refl eqq Finnks_0 (hb hby d17_208) rfl ?_
  intro T10 X10 e10
  refine Own.iload 213 X10 hx (hb hby d17_211) rfl rfl ?_
  refine Own.bipush 215 X10 hx (Own.N 65) (hb hby d17_213) rfl rfl ?_
  refine Own.iadd 216 X10 hx (hb hby d17_215) rfl (Own.N_add _ _) ?_
  refine Own.iload 218 X10 hx (hb hby d17_216) rfl rfl ?_
  refine Own.iadd 219 X10 hx (hb hby d17_218) rfl (Own.N_add _ _) ?_
  refine Own.nLoad 220 (Own.N (nd (jj / 31))) X10 hx hZ e10 Cib_0 (by omega) d7 (hb hby d17_219) rfl ?_
  refine Own.iload 222 X10 hx (hb hby d17_220) rfl rfl ?_
  refine Own.iconst 223 X10 hx (Own.N 1) (hb hby d17_222) rfl rfl ?_
  refine Own.isub 224 X10 hx (hb hby d17_223) rfl (Own.N_sub (by omega)) ?_
  refine Own.callPr 227 0 t [(.int (Own.N (nd (jj / 31)))), (.int (Own.N (2 - 1)))] [] X10 hx hZ hown (m18_1 l Z a0 w t lb ib lo _ _ _ _ _ _ _ _ n0 _ _ _ (nd (jj / 31)) (2 - 1) (own_st L (jj / 31 + 1) - own_st L (jj / 31)) _ ⟨E_0, Fleaks_0, Fleaes_0, Finnks_0, Finnrs_0, FleaOf_0, Frooot_0, Fheiht_0, Fregar_0, Clb_0, Cib_0, Clo_0⟩ (by omega) (by omega) (by omega) (by omega) d5 (by omega)) E_0 (w 95 rfl) (w 97 rfl) (w 3 rfl) (w 96 rfl) (w 4 rfl) (w 98 rfl) (by decide) e10 (by decide) (by decide) (by decide) (by decide) (by rw [hml]; rfl) (lenOf pd_5 rfl) rfl (Nat.le_of_eq rfl) (hb hby d17_224) rfl ?_
  rintro vv T11 L11 X11 ⟨rfl, hh11, rfl⟩
  have N11 := Fr.app N0 (Fr.nil _)
  refine Own.if_eq 276 230 X11 hx (hb hby d17_227) (by decide) rfl (fun tk => ?_) (fun tk => absurd (if_neg (by omega)) tk)
  refine Own.aloadN 277 X11 hx (hb hby d17_276) rfl rfl rfl ?_
  refine Own.getFld 280 X11 hx hZ hown (host := "") (Or.inl (w 14 rfl)) Via.refl hh11 Finnks_0 (hb hby d17_277) rfl ?_
  intro T12 X12 e12
  refine Own.iload 282 X12 hx (hb hby d17_280) rfl rfl ?_
  refine Own.iconst 283 X12 hx (Own.N 3) (hb hby d17_282) rfl rfl ?_
  refine Own.iadd 284 X12 hx (hb hby d17_283) rfl (Own.N_add _ _) ?_
  refine Own.iload 286 X12 hx (hb hby d17_284) rfl rfl ?_
  refine Own.iadd 287 X12 hx (hb hby d17_286) rfl (Own.N_add _ _) ?_
  refine Own.dup2 288 X12 hx (hb hby d17_287) rfl rfl rfl ?_
  refine Own.nLoad 289 (Own.N (pre (own_st L (jj / 31 + 1)) - pre (own_st L (jj / 31)))) X12 hx hZ e12 Cib_0 (by omega) d6 (hb hby d17_288) rfl ?_
  refine Own.iconst 290 X12 hx (Own.N 1) (hb hby d17_289) rfl rfl ?_
  refine Own.iadd 291 X12 hx (hb hby d17_290) rfl (Own.N_add _ _) ?_
  refine Own.nStore 292 X12 hx hZ e12 Cib_0 (by omega) (hb hby d17_291) rfl ?_
  intro T13 h13 X13 e13 W13 C13
  have N13 := Fr.snoc X13 N11 g_ib
  have Ef_15 := E_0.wr W13
  have Ff_16 := Fleaks_0.other W13 (Or.inl ne_t_ib)
  have Ff_17 := Fleaes_0.other W13 (Or.inl ne_t_ib)
  have Ff_18 := Finnks_0.other W13 (Or.inl ne_t_ib)
  have Ff_19 := Finnrs_0.other W13 (Or.inl ne_t_ib)
  have Ff_20 := FleaOf_0.other W13 (Or.inl ne_t_ib)
  have Ff_21 := Frooot_0.other W13 (Or.inl ne_t_ib)
  have Ff_22 := Fheiht_0.other W13 (Or.inl ne_t_ib)
  have Ff_23 := Fregar_0.other W13 (Or.inl ne_t_ib)
  have Cf_24 := Clb_0.other W13 ne_lb_ib
  have Cf_26 := Clo_0.other W13 (Ne.symm ne_ib_lo)
  have zl13 := Nat.le_trans Z0 (Nat.le_of_eq W13.size.symm)
  have K13 := (Keep.refl h0 [t, lb, ib, lo]).wr W13 (Or.inl (List.mem_of_getElem? (i := 2) rfl))
  refine Own.aloadN 293 X13 hx (hb hby d17_292) rfl rfl rfl ?_
  refine Own.getFld 296 X13 hx hZ hown (host := "") (Or.inl (w 14 rfl)) Via.refl e13 Ff_18 (hb hby d17_293) rfl ?_
  intro T27 X27 e27
  refine Own.iload 298 X27 hx (hb hby d17_296) rfl rfl ?_
  refine Own.bipush 300 X27 hx (Own.N 65) (hb hby d17_298) rfl rfl ?_
  refine Own.iadd 301 X27 hx (hb hby d17_300) rfl (Own.N_add _ _) ?_
  refine Own.iload 303 X27 hx (hb hby d17_301) rfl rfl ?_
  refine Own.iadd 304 X27 hx (hb hby d17_303) rfl (Own.N_add _ _) ?_
  refine Own.nLoad 305 (Own.N (nd (jj / 31))) X27 hx hZ e27 C13 (by omega) (by rw [Own.upd_miss (by omega)]; exact d7) (hb hby d17_304) rfl ?_
  refine Own.istoreNV 306 #[.val (.ref t), .val (.int (Own.N (i))), .val (.int (Own.N (r))), .val (.int (Own.N (nd (jj / 31)))), .val (.int (Own.N (rs))), .val (.int (Own.N (2))), .val (.int (Own.N (rt * 128))), .val (.int (Own.N (V - 1))), .val (.int (Own.N (jj / 31)))] X27 hx (hb hby d17_305) rfl rfl ?_
  refine Own.iinc 309 (fun c_28 => #[.val (.ref t), .val (.int (Own.N (i))), .val (.int (Own.N (r))), .val (.int (Own.N (nd (jj / 31)))), .val (.int (Own.N (rs))), .val (.int c_28), .val (.int (Own.N (rt * 128))), .val (.int (Own.N (V - 1))), .val (.int (Own.N (jj / 31)))]) X27 hx ((-1 : Int32)) (hb hby d17_306) rfl rfl rfl (fun _ => rfl) fun c_28 hc_28 => ?_
  obtain rfl : c_28 = Own.N (1) := hc_28.trans (by decide)
  refine Own.goto 131 X27 hx (hb hby d17_309) (by decide) ?_
  refine Own.iload 133 X27 hx (hb hby d17_131) rfl rfl ?_
  refine Own.nif_le 312 136 X27 hx (hb hby d17_133) (by decide) rfl (by omega) (fun tk => False.elim (by omega)) (fun tk => ?_)
  refine Own.iloadN 137 X27 hx (hb hby d17_136) rfl rfl ?_
  refine Own.sipush 140 X27 hx (Own.N 128) (hb hby d17_137) rfl rfl ?_
  refine Own.imul 141 X27 hx (hb hby d17_140) rfl (Own.N_mul _ _) ?_
  refine Own.istoreV 143 #[.val (.ref t), .val (.int (Own.N (i))), .val (.int (Own.N (r))), .val (.int (Own.N (nd (jj / 31)))), .val (.int (Own.N (rs))), .val (.int (Own.N (1))), .val (.int (Own.N ((nd (jj / 31)) * 128))), .val (.int (Own.N (V - 1))), .val (.int (Own.N (jj / 31)))] X27 hx (hb hby d17_141) rfl rfl ?_
  refine Own.aloadN 144 X27 hx (hb hby d17_143) rfl rfl rfl ?_
  refine Own.getFld 147 X27 hx hZ hown (host := "") (Or.inl (w 14 rfl)) Via.refl e27 Ff_18 (hb hby d17_144) rfl ?_
  intro T29 X29 e29
  refine Own.iload 149 X29 hx (hb hby d17_147) rfl rfl ?_
  refine Own.iconst 150 X29 hx (Own.N 2) (hb hby d17_149) rfl rfl ?_
  refine Own.iadd 151 X29 hx (hb hby d17_150) rfl (Own.N_add _ _) ?_
  refine Own.nLoad 152 (Own.N (own_st L (jj / 31 + 1) - own_st L (jj / 31))) X29 hx hZ e29 C13 (by omega) (by rw [Own.upd_miss (by omega)]; exact d5) (hb hby d17_151) rfl ?_
  refine Own.iconst 153 X29 hx (Own.N 1) (hb hby d17_152) rfl rfl ?_
  refine Own.isub 154 X29 hx (hb hby d17_153) rfl (Own.N_sub (by omega)) ?_
  refine Own.istoreV 156 #[.val (.ref t), .val (.int (Own.N (i))), .val (.int (Own.N (r))), .val (.int (Own.N (nd (jj / 31)))), .val (.int (Own.N (rs))), .val (.int (Own.N (1))), .val (.int (Own.N ((nd (jj / 31)) * 128))), .val (.int (Own.N ((own_st L (jj / 31 + 1) - own_st L (jj / 31)) - 1))), .val (.int (Own.N (jj / 31)))] X29 hx (hb hby d17_154) rfl rfl ?_
  refine Own.iconst 157 X29 hx (Own.N 0) (hb hby d17_156) rfl rfl ?_
  refine Own.istoreV 159 #[.val (.ref t), .val (.int (Own.N (i))), .val (.int (Own.N (r))), .val (.int (Own.N (nd (jj / 31)))), .val (.int (Own.N (rs))), .val (.int (Own.N (1))), .val (.int (Own.N ((nd (jj / 31)) * 128))), .val (.int (Own.N ((own_st L (jj / 31 + 1) - own_st L (jj / 31)) - 1))), .val (.int (Own.N (0)))] X29 hx (hb hby d17_157) rfl rfl ?_
  refine J159 (nd (jj / 31)) 1 (jj % 31) (own_st L (jj / 31 + 1) - own_st L (jj / 31) - 1) _ _ _ (own_gn pre (jj / 31)) _ _ _ _ ⟨Ef_15, Ff_16, Ff_17, Ff_18, Ff_19, Ff_20, Ff_21, Ff_22, Ff_23, Cf_24, C13, Cf_26⟩ (fun s hs => ⟨by rw [Own.upd_miss (by omega)]; exact (own_G2n P H (c := jj % 31) (by omega) (by omega) s hs).1, (own_G2n P H (c := jj % 31) (by omega) (by omega) s hs).2⟩) (by omega) (by omega) (by omega) (by omega) d2 (by omega) ?_ (jj % 31 + 1) 0 _ (by omega) (by omega) (by omega) _ X29 e29
  intro rs hrs Tq Xq eqq
  refine Own.aloadN 207 Xq hx (hb hby d17_206) rfl rfl rfl ?_
  refine Own.aloadN 208 Xq hx (hb hby d17_207) rfl rfl rfl ?_
  refine Own.getFld 211 Xq hx hZ hown (host := "") (Or.inl (w 14 rfl)) Via.refl eqq Ff_18 (hb hby d17_208) rfl ?_
  intro T30 X30 e30
  refine Own.iload 213 X30 hx (hb hby d17_211) rfl rfl ?_
  refine Own.bipush 215 X30 hx (Own.N 65) (hb hby d17_213) rfl rfl ?_
  refine Own.iadd 216 X30 hx (hb hby d17_215) rfl (Own.N_add _ _) ?_
  refine Own.iload 218 X30 hx (hb hby d17_216) rfl rfl ?_
  refine Own.iadd 219 X30 hx (hb hby d17_218) rfl (Own.N_add _ _) ?_
  refine Own.nLoad 220 (Own.N (jj)) X30 hx hZ e30 C13 (by omega) (by rw [Own.upd_miss (by omega)]; exact u4) (hb hby d17_219) rfl ?_
  refine Own.iload 222 X30 hx (hb hby d17_220) rfl rfl ?_
  refine Own.iconst 223 X30 hx (Own.N 1) (hb hby d17_222) rfl rfl ?_
  refine Own.isub 224 X30 hx (hb hby d17_223) rfl (Own.N_sub (by omega)) ?_
  refine Own.callPr 227 0 t [(.int (Own.N (jj))), (.int (Own.N (1 - 1)))] [] X30 hx hZ hown (m18_0 l Z a0 w t lb ib lo _ _ _ _ _ _ _ _ n0 _ _ _ jj (1 - 1) (pre (jj + 1) - pre jj) _ ⟨Ef_15, Ff_16, Ff_17, Ff_18, Ff_19, Ff_20, Ff_21, Ff_22, Ff_23, Cf_24, C13, Cf_26⟩ (by omega) (by omega) (by omega) (by omega) hsz9 (by omega)) Ef_15 (w 95 rfl) (w 97 rfl) (w 3 rfl) (w 96 rfl) (w 4 rfl) (w 98 rfl) (by decide) e30 (by decide) (by decide) (by decide) (by decide) (by rw [hml]; rfl) (lenOf pd_5 rfl) rfl (Nat.le_of_eq rfl) (hb hby d17_224) rfl ?_
  rintro vv T31 L31 X31 ⟨rfl, hh31, rfl⟩
  have N31 := Fr.app N13 (Fr.nil _)
  refine Own.if_eq 276 230 X31 hx (hb hby d17_227) (by decide) rfl (fun tk => ?_) (fun tk => absurd (if_neg (by omega)) tk)
  refine Own.aloadN 277 X31 hx (hb hby d17_276) rfl rfl rfl ?_
  refine Own.getFld 280 X31 hx hZ hown (host := "") (Or.inl (w 14 rfl)) Via.refl hh31 Ff_18 (hb hby d17_277) rfl ?_
  intro T32 X32 e32
  refine Own.iload 282 X32 hx (hb hby d17_280) rfl rfl ?_
  refine Own.iconst 283 X32 hx (Own.N 3) (hb hby d17_282) rfl rfl ?_
  refine Own.iadd 284 X32 hx (hb hby d17_283) rfl (Own.N_add _ _) ?_
  refine Own.iload 286 X32 hx (hb hby d17_284) rfl rfl ?_
  refine Own.iadd 287 X32 hx (hb hby d17_286) rfl (Own.N_add _ _) ?_
  refine Own.dup2 288 X32 hx (hb hby d17_287) rfl rfl rfl ?_
  refine Own.nLoad 289 (Own.N (pre (jj + 1) - pre jj)) X32 hx hZ e32 C13 (by omega) (by rw [Own.upd_miss (by omega)]; exact u3) (hb hby d17_288) rfl ?_
  refine Own.iconst 290 X32 hx (Own.N 1) (hb hby d17_289) rfl rfl ?_
  refine Own.iadd 291 X32 hx (hb hby d17_290) rfl (Own.N_add _ _) ?_
  refine Own.nStore 292 X32 hx hZ e32 C13 (by omega) (hb hby d17_291) rfl ?_
  intro T33 h33 X33 e33 W33 C33
  have N33 := Fr.snoc X33 N31 g_ib
  have Ef_35 := Ef_15.wr W33
  have Ff_36 := Ff_16.other W33 (Or.inl ne_t_ib)
  have Ff_37 := Ff_17.other W33 (Or.inl ne_t_ib)
  have Ff_38 := Ff_18.other W33 (Or.inl ne_t_ib)
  have Ff_39 := Ff_19.other W33 (Or.inl ne_t_ib)
  have Ff_40 := Ff_20.other W33 (Or.inl ne_t_ib)
  have Ff_41 := Ff_21.other W33 (Or.inl ne_t_ib)
  have Ff_42 := Ff_22.other W33 (Or.inl ne_t_ib)
  have Ff_43 := Ff_23.other W33 (Or.inl ne_t_ib)
  have Cf_44 := Cf_24.other W33 ne_lb_ib
  have Cf_45 := Cf_26.other W33 (Ne.symm ne_ib_lo)
  have zl33 := Nat.le_trans zl13 (Nat.le_of_eq W33.size.symm)
  have K33 := K13.wr W33 (Or.inl (List.mem_of_getElem? (i := 2) rfl))
  refine Own.aloadN 293 X33 hx (hb hby d17_292) rfl rfl rfl ?_
  refine Own.getFld 296 X33 hx hZ hown (host := "") (Or.inl (w 14 rfl)) Via.refl e33 Ff_38 (hb hby d17_293) rfl ?_
  intro T47 X47 e47
  refine Own.iload 298 X47 hx (hb hby d17_296) rfl rfl ?_
  refine Own.bipush 300 X47 hx (Own.N 65) (hb hby d17_298) rfl rfl ?_
  refine Own.iadd 301 X47 hx (hb hby d17_300) rfl (Own.N_add _ _) ?_
  refine Own.iload 303 X47 hx (hb hby d17_301) rfl rfl ?_
  refine Own.iadd 304 X47 hx (hb hby d17_303) rfl (Own.N_add _ _) ?_
  refine Own.nLoad 305 (Own.N (jj)) X47 hx hZ e47 C33 (by omega) (by rw [Own.upd_miss (by omega)]; exact (by rw [Own.upd_miss (by omega)]; exact u4)) (hb hby d17_304) rfl ?_
  refine Own.istoreNV 306 #[.val (.ref t), .val (.int (Own.N (i))), .val (.int (Own.N (r))), .val (.int (Own.N (jj))), .val (.int (Own.N (rs))), .val (.int (Own.N (1))), .val (.int (Own.N ((nd (jj / 31)) * 128))), .val (.int (Own.N (own_st L (jj / 31 + 1) - own_st L (jj / 31) - 1))), .val (.int (Own.N (jj % 31)))] X47 hx (hb hby d17_305) rfl rfl ?_
  refine Own.iinc 309 (fun c_48 => #[.val (.ref t), .val (.int (Own.N (i))), .val (.int (Own.N (r))), .val (.int (Own.N (jj))), .val (.int (Own.N (rs))), .val (.int c_48), .val (.int (Own.N ((nd (jj / 31)) * 128))), .val (.int (Own.N (own_st L (jj / 31 + 1) - own_st L (jj / 31) - 1))), .val (.int (Own.N (jj % 31)))]) X47 hx ((-1 : Int32)) (hb hby d17_306) rfl rfl rfl (fun _ => rfl) fun c_48 hc_48 => ?_
  obtain rfl : c_48 = Own.N (0) := hc_48.trans (by decide)
  refine Own.goto 131 X47 hx (hb hby d17_309) (by decide) ?_
  refine Own.iload 133 X47 hx (hb hby d17_131) rfl rfl ?_
  refine Own.nif_le 312 136 X47 hx (hb hby d17_133) (by decide) rfl (by omega) (fun tk => ?_) (fun tk => False.elim (by omega))
  refine Own.iloadN 313 X47 hx (hb hby d17_312) rfl rfl ?_
  refine Own.bipush 315 X47 hx (Own.N 64) (hb hby d17_313) rfl rfl ?_
  refine Own.imul 316 X47 hx (hb hby d17_315) rfl (Own.N_mul _ _) ?_
  refine Own.iconst 317 X47 hx (Own.N 3) (hb hby d17_316) rfl rfl ?_
  refine Own.iadd 318 X47 hx (hb hby d17_317) rfl (Own.N_add _ _) ?_
  refine Own.iload 320 X47 hx (hb hby d17_318) rfl rfl ?_
  refine Own.iadd 321 X47 hx (hb hby d17_320) rfl (Own.N_add _ _) ?_
  refine Own.iconst 322 X47 hx (Own.N 1) (hb hby d17_321) rfl rfl ?_
  refine Own.isub 323 X47 hx (hb hby d17_322) rfl (Own.N_sub (by omega)) ?_
  refine Own.istoreV 325 #[.val (.ref t), .val (.int (Own.N (i))), .val (.int (Own.N (r))), .val (.int (Own.N (jj))), .val (.int (Own.N (rs))), .val (.int (Own.N ((((jj * 64) + 3) + rs) - 1))), .val (.int (Own.N ((nd (jj / 31)) * 128))), .val (.int (Own.N (own_st L (jj / 31 + 1) - own_st L (jj / 31) - 1))), .val (.int (Own.N (jj % 31)))] X47 hx (hb hby d17_323) rfl rfl ?_
  refine Own.iloadN 326 X47 hx (hb hby d17_325) rfl rfl ?_
  refine Own.bipush 328 X47 hx (Own.N 64) (hb hby d17_326) rfl rfl ?_
  refine Own.imul 329 X47 hx (hb hby d17_328) rfl (Own.N_mul _ _) ?_
  refine Own.iconst 330 X47 hx (Own.N 3) (hb hby d17_329) rfl rfl ?_
  refine Own.iadd 331 X47 hx (hb hby d17_330) rfl (Own.N_add _ _) ?_
  refine Own.aloadN 332 X47 hx (hb hby d17_331) rfl rfl rfl ?_
  refine Own.getFld 335 X47 hx hZ hown (host := "") (Or.inl (w 12 rfl)) Via.refl e47 Ff_36 (hb hby d17_332) rfl ?_
  intro T49 X49 e49
  refine Own.iloadN 336 X49 hx (hb hby d17_335) rfl rfl ?_
  refine Own.bipush 338 X49 hx (Own.N 64) (hb hby d17_336) rfl rfl ?_
  refine Own.imul 339 X49 hx (hb hby d17_338) rfl (Own.N_mul _ _) ?_
  refine Own.iconst 340 X49 hx (Own.N 2) (hb hby d17_339) rfl rfl ?_
  refine Own.iadd 341 X49 hx (hb hby d17_340) rfl (Own.N_add _ _) ?_
  refine Own.nLoad 342 (Own.N (pre (jj + 1) - pre jj)) X49 hx hZ e49 Cf_44 (by omega) hsz9 (hb hby d17_341) rfl ?_
  refine Own.iadd 343 X49 hx (hb hby d17_342) rfl (Own.N_add _ _) ?_
  refine Own.istoreV 345 #[.val (.ref t), .val (.int (Own.N (i))), .val (.int (Own.N (r))), .val (.int (Own.N (jj))), .val (.int (Own.N (rs))), .val (.int (Own.N ((((jj * 64) + 3) + rs) - 1))), .val (.int (Own.N (((jj * 64) + 3) + (pre (jj + 1) - pre jj)))), .val (.int (Own.N (own_st L (jj / 31 + 1) - own_st L (jj / 31) - 1))), .val (.int (Own.N (jj % 31)))] X49 hx (hb hby d17_343) rfl rfl ?_
  refine Own.aloadN 346 X49 hx (hb hby d17_345) rfl rfl rfl ?_
  refine Own.getFld 349 X49 hx hZ hown (host := "") (Or.inl (w 12 rfl)) Via.refl e49 Ff_36 (hb hby d17_346) rfl ?_
  intro T50 X50 e50
  refine Own.iload 351 X50 hx (hb hby d17_349) rfl rfl ?_
  refine Own.aloadN 352 X50 hx (hb hby d17_351) rfl rfl rfl ?_
  refine Own.getFld 355 X50 hx hZ hown (host := "") (Or.inl (w 12 rfl)) Via.refl e50 Ff_36 (hb hby d17_352) rfl ?_
  intro T51 X51 e51
  refine Own.iload 357 X51 hx (hb hby d17_355) rfl rfl ?_
  refine Own.iconst 358 X51 hx (Own.N 1) (hb hby d17_357) rfl rfl ?_
  refine Own.iadd 359 X51 hx (hb hby d17_358) rfl (Own.N_add _ _) ?_
  refine Own.iload 361 X51 hx (hb hby d17_359) rfl rfl ?_
  refine Own.iload 363 X51 hx (hb hby d17_361) rfl rfl ?_
  refine Own.isub 364 X51 hx (hb hby d17_363) rfl (Own.N_sub (by omega)) ?_
  refine Own.nCopy 367 0 X51 hx hZ hown (w 28 rfl) (w 31 rfl) (w 29 rfl) (w 30 rfl) e51 Cf_44 Cf_44 (by omega) (by omega) N33 g_lb (by rw [hml]; rfl) (hb hby d17_364) rfl (by decide) (Nat.le_of_eq rfl) (by decide) ?_
  intro T52 h52 L52 X52 e52 N52 K52 C52
  have Ef_54 := Ef_35.keep K52
  have Ff_55 := Ff_36.keep K52 (ninS ne_t_lb nin0)
  have Ff_56 := Ff_37.keep K52 (ninS ne_t_lb nin0)
  have Ff_57 := Ff_38.keep K52 (ninS ne_t_lb nin0)
  have Ff_58 := Ff_39.keep K52 (ninS ne_t_lb nin0)
  have Ff_59 := Ff_40.keep K52 (ninS ne_t_lb nin0)
  have Ff_60 := Ff_41.keep K52 (ninS ne_t_lb nin0)
  have Ff_61 := Ff_42.keep K52 (ninS ne_t_lb nin0)
  have Ff_62 := Ff_43.keep K52 (ninS ne_t_lb nin0)
  have Cf_63 := Cf_45.keep K52 (ninS (Ne.symm ne_lb_lo) nin0)
  have Cf_64 := C33.keep K52 (ninS (Ne.symm ne_lb_ib) nin0)
  have KK52 := K33.trans K52 (allS (Or.inl (List.mem_of_getElem? (i := 1) rfl)) all0)
  have zl52 := Nat.le_trans zl33 K52.1
  refine Own.aloadN 368 X52 hx (hb hby d17_367) rfl rfl rfl ?_
  refine Own.getFld 371 X52 hx hZ hown (host := "") (Or.inl (w 12 rfl)) Via.refl e52 Ff_55 (hb hby d17_368) rfl ?_
  intro T65 X65 e65
  refine Own.iload 373 X65 hx (hb hby d17_371) rfl rfl ?_
  refine Own.iloadN 374 X65 hx (hb hby d17_373) rfl rfl ?_
  refine Own.nStore 375 X65 hx hZ e65 C52 (by omega) (hb hby d17_374) rfl ?_
  intro T66 h66 X66 e66 W66 C66
  have N66 := Fr.snoc X66 N52 g_lb
  have Ef_68 := Ef_54.wr W66
  have Ff_69 := Ff_55.other W66 (Or.inl ne_t_lb)
  have Ff_70 := Ff_56.other W66 (Or.inl ne_t_lb)
  have Ff_71 := Ff_57.other W66 (Or.inl ne_t_lb)
  have Ff_72 := Ff_58.other W66 (Or.inl ne_t_lb)
  have Ff_73 := Ff_59.other W66 (Or.inl ne_t_lb)
  have Ff_74 := Ff_60.other W66 (Or.inl ne_t_lb)
  have Ff_75 := Ff_61.other W66 (Or.inl ne_t_lb)
  have Ff_76 := Ff_62.other W66 (Or.inl ne_t_lb)
  have Cf_77 := Cf_63.other W66 (Ne.symm ne_lb_lo)
  have Cf_78 := Cf_64.other W66 (Ne.symm ne_lb_ib)
  have zl66 := Nat.le_trans zl52 (Nat.le_of_eq W66.size.symm)
  have K66 := KK52.wr W66 (Or.inl (List.mem_of_getElem? (i := 1) rfl))
  refine Own.aloadN 376 X66 hx (hb hby d17_375) rfl rfl rfl ?_
  refine Own.getFld 379 X66 hx hZ hown (host := "") (Or.inl (w 12 rfl)) Via.refl e66 Ff_69 (hb hby d17_376) rfl ?_
  intro T80 X80 e80
  refine Own.iloadN 380 X80 hx (hb hby d17_379) rfl rfl ?_
  refine Own.bipush 382 X80 hx (Own.N 64) (hb hby d17_380) rfl rfl ?_
  refine Own.imul 383 X80 hx (hb hby d17_382) rfl (Own.N_mul _ _) ?_
  refine Own.iconst 384 X80 hx (Own.N 2) (hb hby d17_383) rfl rfl ?_
  refine Own.iadd 385 X80 hx (hb hby d17_384) rfl (Own.N_add _ _) ?_
  refine Own.dup2 386 X80 hx (hb hby d17_385) rfl rfl rfl ?_
  refine Own.nLoad 387 (Own.N (pre (jj + 1) - pre jj)) X80 hx hZ e80 C66 (by omega) (by rw [Own.upd_miss (by omega), Own.cpy_out (by omega)]; exact hsz9) (hb hby d17_386) rfl ?_
  refine Own.iconst 388 X80 hx (Own.N 1) (hb hby d17_387) rfl rfl ?_
  refine Own.iadd 389 X80 hx (hb hby d17_388) rfl (Own.N_add _ _) ?_
  refine Own.nStore 390 X80 hx hZ e80 C66 (by omega) (hb hby d17_389) rfl ?_
  intro T81 h81 X81 e81 W81 C81
  have N81 := Fr.snoc X81 N66 g_lb
  have Ef_83 := Ef_68.wr W81
  have Ff_84 := Ff_69.other W81 (Or.inl ne_t_lb)
  have Ff_85 := Ff_70.other W81 (Or.inl ne_t_lb)
  have Ff_86 := Ff_71.other W81 (Or.inl ne_t_lb)
  have Ff_87 := Ff_72.other W81 (Or.inl ne_t_lb)
  have Ff_88 := Ff_73.other W81 (Or.inl ne_t_lb)
  have Ff_89 := Ff_74.other W81 (Or.inl ne_t_lb)
  have Ff_90 := Ff_75.other W81 (Or.inl ne_t_lb)
  have Ff_91 := Ff_76.other W81 (Or.inl ne_t_lb)
  have Cf_92 := Cf_77.other W81 (Ne.symm ne_lb_lo)
  have Cf_93 := Cf_78.other W81 (Ne.symm ne_lb_ib)
  have zl81 := Nat.le_trans zl66 (Nat.le_of_eq W81.size.symm)
  have K81 := K66.wr W81 (Or.inl (List.mem_of_getElem? (i := 1) rfl))
  refine Own.aloadN 391 X81 hx (hb hby d17_390) rfl rfl rfl ?_
  refine Own.getFld 394 X81 hx hZ hown (host := "") (Or.inl (w 16 rfl)) Via.refl e81 Ff_88 (hb hby d17_391) rfl ?_
  intro T95 X95 e95
  refine Own.iloadN 395 X95 hx (hb hby d17_394) rfl rfl ?_
  refine Own.iloadN 396 X95 hx (hb hby d17_395) rfl rfl ?_
  refine Own.nStore 397 X95 hx hZ e95 Cf_92 (by omega) (hb hby d17_396) rfl ?_
  intro T96 h96 X96 e96 W96 C96
  have N96 := Fr.snoc X96 N81 g_lo
  have Ef_98 := Ef_83.wr W96
  have Ff_99 := Ff_84.other W96 (Or.inl ne_t_lo)
  have Ff_100 := Ff_85.other W96 (Or.inl ne_t_lo)
  have Ff_101 := Ff_86.other W96 (Or.inl ne_t_lo)
  have Ff_102 := Ff_87.other W96 (Or.inl ne_t_lo)
  have Ff_103 := Ff_88.other W96 (Or.inl ne_t_lo)
  have Ff_104 := Ff_89.other W96 (Or.inl ne_t_lo)
  have Ff_105 := Ff_90.other W96 (Or.inl ne_t_lo)
  have Ff_106 := Ff_91.other W96 (Or.inl ne_t_lo)
  have Cf_108 := Cf_93.other W96 ne_ib_lo
  have Cf_109 := C81.other W96 ne_lb_lo
  have zl96 := Nat.le_trans zl81 (Nat.le_of_eq W96.size.symm)
  have K96 := K81.wr W96 (Or.inl (List.mem_of_getElem? (i := 3) rfl))
  refine Own.retVoid X96 hx hlk hret (hb hby d17_397) (by decide) (by decide) ?_
  rw [e96]
  exact ⟨rfl, N96, K96, own_inP pre jj, _, _, _, ⟨Ef_98, Ff_99, Ff_100, Ff_101, Ff_102, Ff_103, Ff_104, Ff_105, Ff_106, Cf_109, Cf_108, C96⟩, ⟨own_in_Pr P hj, by omega, hL1, hL2, by omega, Or.inr ⟨rfl, _, _, own_H2_upd H hj (fun j hj' => ⟨by rw [Own.upd_miss (by omega), Own.upd_miss (by omega), Own.cpy_out (by omega)], by rw [Own.upd_miss (by omega), Own.upd_miss (by omega), Own.cpy_out (by omega)]⟩) own_in_dif rfl rfl (fun i' n1 n2 => by rw [Own.upd_miss n1, Own.upd_miss n2]) (by rw [Own.upd_hit rfl, own_inP_at (by omega)]) (by rw [Own.upd_miss (by omega), Own.upd_hit rfl, own_inP_st P hj])⟩, Or.inr rfl, hzI, hzI2, hzL, hzL2⟩, (by have h9 := fun a a1 m b z ha ha1 hm hb hz => own_in_Lf P LF9 (j0 := jj) (k0 := r - 1 - pre jj) (i := i) (a := a) (a1 := a1) (m := m) (b := b) (z := z) hj (by omega) hni ha ha1 hm hb hz (by omega) (w := Own.N jj) rfl; rw [show pre jj + (r - 1 - pre jj) = r - 1 from by omega] at h9; exact h9 _ _ _ _ _ (by omega) (by omega) (by omega) (by omega) (by omega))⟩
theorem d17_20 : decode prog_32_method_10_code 20 = .ok (.aload_n 0, 1) := by decide +kernel
theorem d17_21 : decode prog_32_method_10_code 21 = .ok (.invokevirtual 71, 3) := by decide +kernel
theorem d17_24 : decode prog_32_method_10_code 24 = .ok (.istore_n 3, 1) := by decide +kernel
theorem d17_25 : decode prog_32_method_10_code 25 = .ok (.aload_n 0, 1) := by decide +kernel
theorem d17_26 : decode prog_32_method_10_code 26 = .ok (.getfield 23, 3) := by decide +kernel
theorem d17_29 : decode prog_32_method_10_code 29 = .ok (.iload_n 3, 1) := by decide +kernel
theorem d17_30 : decode prog_32_method_10_code 30 = .ok (.sipush 128, 3) := by decide +kernel
theorem d17_33 : decode prog_32_method_10_code 33 = .ok (.imul, 1) := by decide +kernel
theorem d17_34 : decode prog_32_method_10_code 34 = .ok (.iconst 3, 1) := by decide +kernel
theorem d17_35 : decode prog_32_method_10_code 35 = .ok (.iadd, 1) := by decide +kernel
theorem d17_36 : decode prog_32_method_10_code 36 = .ok (.aload_n 0, 1) := by decide +kernel
theorem d17_37 : decode prog_32_method_10_code 37 = .ok (.aload_n 0, 1) := by decide +kernel
theorem d17_38 : decode prog_32_method_10_code 38 = .ok (.getfield 59, 3) := by decide +kernel
theorem d17_41 : decode prog_32_method_10_code 41 = .ok (.invokevirtual 75, 3) := by decide +kernel
theorem d17_44 : decode prog_32_method_10_code 44 = .ok (.iastore, 1) := by decide +kernel
theorem d17_45 : decode prog_32_method_10_code 45 = .ok (.aload_n 0, 1) := by decide +kernel
theorem d17_46 : decode prog_32_method_10_code 46 = .ok (.getfield 23, 3) := by decide +kernel
theorem d17_49 : decode prog_32_method_10_code 49 = .ok (.iload_n 3, 1) := by decide +kernel
theorem d17_50 : decode prog_32_method_10_code 50 = .ok (.sipush 128, 3) := by decide +kernel
theorem d17_53 : decode prog_32_method_10_code 53 = .ok (.imul, 1) := by decide +kernel
theorem d17_54 : decode prog_32_method_10_code 54 = .ok (.bipush 65, 2) := by decide +kernel
theorem d17_56 : decode prog_32_method_10_code 56 = .ok (.iadd, 1) := by decide +kernel
theorem d17_57 : decode prog_32_method_10_code 57 = .ok (.aload_n 0, 1) := by decide +kernel
theorem d17_58 : decode prog_32_method_10_code 58 = .ok (.getfield 59, 3) := by decide +kernel
theorem d17_61 : decode prog_32_method_10_code 61 = .ok (.iastore, 1) := by decide +kernel
theorem d17_62 : decode prog_32_method_10_code 62 = .ok (.aload_n 0, 1) := by decide +kernel
theorem d17_63 : decode prog_32_method_10_code 63 = .ok (.getfield 23, 3) := by decide +kernel
theorem d17_66 : decode prog_32_method_10_code 66 = .ok (.iload_n 3, 1) := by decide +kernel
theorem d17_67 : decode prog_32_method_10_code 67 = .ok (.sipush 128, 3) := by decide +kernel
theorem d17_70 : decode prog_32_method_10_code 70 = .ok (.imul, 1) := by decide +kernel
theorem d17_71 : decode prog_32_method_10_code 71 = .ok (.iconst 2, 1) := by decide +kernel
theorem d17_72 : decode prog_32_method_10_code 72 = .ok (.iadd, 1) := by decide +kernel
theorem d17_73 : decode prog_32_method_10_code 73 = .ok (.iconst 1, 1) := by decide +kernel
theorem d17_74 : decode prog_32_method_10_code 74 = .ok (.iastore, 1) := by decide +kernel
theorem d17_75 : decode prog_32_method_10_code 75 = .ok (.aload_n 0, 1) := by decide +kernel
theorem d17_76 : decode prog_32_method_10_code 76 = .ok (.getfield 23, 3) := by decide +kernel
theorem d17_79 : decode prog_32_method_10_code 79 = .ok (.iload_n 3, 1) := by decide +kernel
theorem d17_80 : decode prog_32_method_10_code 80 = .ok (.sipush 128, 3) := by decide +kernel
theorem d17_83 : decode prog_32_method_10_code 83 = .ok (.imul, 1) := by decide +kernel
theorem d17_84 : decode prog_32_method_10_code 84 = .ok (.iconst 0, 1) := by decide +kernel
theorem d17_85 : decode prog_32_method_10_code 85 = .ok (.iadd, 1) := by decide +kernel
theorem d17_86 : decode prog_32_method_10_code 86 = .ok (.iconst (-1), 1) := by decide +kernel
theorem d17_87 : decode prog_32_method_10_code 87 = .ok (.iastore, 1) := by decide +kernel
theorem d17_88 : decode prog_32_method_10_code 88 = .ok (.aload_n 0, 1) := by decide +kernel
theorem d17_89 : decode prog_32_method_10_code 89 = .ok (.aload_n 0, 1) := by decide +kernel
theorem d17_90 : decode prog_32_method_10_code 90 = .ok (.getfield 59, 3) := by decide +kernel
theorem d17_93 : decode prog_32_method_10_code 93 = .ok (.aload_n 0, 1) := by decide +kernel
theorem d17_94 : decode prog_32_method_10_code 94 = .ok (.getfield 62, 3) := by decide +kernel
theorem d17_97 : decode prog_32_method_10_code 97 = .ok (.iload_n 3, 1) := by decide +kernel
theorem d17_98 : decode prog_32_method_10_code 98 = .ok (.iconst 0, 1) := by decide +kernel
theorem d17_99 : decode prog_32_method_10_code 99 = .ok (.invokevirtual 78, 3) := by decide +kernel
theorem d17_102 : decode prog_32_method_10_code 102 = .ok (.aload_n 0, 1) := by decide +kernel
theorem d17_103 : decode prog_32_method_10_code 103 = .ok (.iload_n 3, 1) := by decide +kernel
theorem d17_104 : decode prog_32_method_10_code 104 = .ok (.putfield 59, 3) := by decide +kernel
theorem d17_107 : decode prog_32_method_10_code 107 = .ok (.aload_n 0, 1) := by decide +kernel
theorem d17_108 : decode prog_32_method_10_code 108 = .ok (.dup, 1) := by decide +kernel
theorem d17_109 : decode prog_32_method_10_code 109 = .ok (.getfield 62, 3) := by decide +kernel
theorem d17_112 : decode prog_32_method_10_code 112 = .ok (.iconst 1, 1) := by decide +kernel
theorem d17_113 : decode prog_32_method_10_code 113 = .ok (.iadd, 1) := by decide +kernel
theorem d17_114 : decode prog_32_method_10_code 114 = .ok (.putfield 62, 3) := by decide +kernel
theorem d17_230 : decode prog_32_method_10_code 230 = .ok (.aload_n 0, 1) := by decide +kernel
theorem d17_231 : decode prog_32_method_10_code 231 = .ok (.iload_n 3, 1) := by decide +kernel
theorem d17_232 : decode prog_32_method_10_code 232 = .ok (.iload 8, 2) := by decide +kernel
theorem d17_234 : decode prog_32_method_10_code 234 = .ok (.iload 5, 2) := by decide +kernel
theorem d17_236 : decode prog_32_method_10_code 236 = .ok (.invokevirtual 86, 3) := by decide +kernel
theorem d17_239 : decode prog_32_method_10_code 239 = .ok (.iload 4, 2) := by decide +kernel
theorem d17_241 : decode prog_32_method_10_code 241 = .ok (.aload_n 0, 1) := by decide +kernel
theorem d17_242 : decode prog_32_method_10_code 242 = .ok (.getfield 23, 3) := by decide +kernel
theorem d17_245 : decode prog_32_method_10_code 245 = .ok (.iload 6, 2) := by decide +kernel
theorem d17_247 : decode prog_32_method_10_code 247 = .ok (.iconst 3, 1) := by decide +kernel
theorem d17_248 : decode prog_32_method_10_code 248 = .ok (.iadd, 1) := by decide +kernel
theorem d17_249 : decode prog_32_method_10_code 249 = .ok (.iload 8, 2) := by decide +kernel
theorem d17_251 : decode prog_32_method_10_code 251 = .ok (.iadd, 1) := by decide +kernel
theorem d17_252 : decode prog_32_method_10_code 252 = .ok (.iaload, 1) := by decide +kernel
theorem d17_253 : decode prog_32_method_10_code 253 = .ok (.if_icmp .le 23, 3) := by decide +kernel
theorem d17_256 : decode prog_32_method_10_code 256 = .ok (.iload 4, 2) := by decide +kernel
theorem d17_258 : decode prog_32_method_10_code 258 = .ok (.aload_n 0, 1) := by decide +kernel
theorem d17_259 : decode prog_32_method_10_code 259 = .ok (.getfield 23, 3) := by decide +kernel
theorem d17_262 : decode prog_32_method_10_code 262 = .ok (.iload 6, 2) := by decide +kernel
theorem d17_264 : decode prog_32_method_10_code 264 = .ok (.iconst 3, 1) := by decide +kernel
theorem d17_265 : decode prog_32_method_10_code 265 = .ok (.iadd, 1) := by decide +kernel
theorem d17_266 : decode prog_32_method_10_code 266 = .ok (.iload 8, 2) := by decide +kernel
theorem d17_268 : decode prog_32_method_10_code 268 = .ok (.iadd, 1) := by decide +kernel
theorem d17_269 : decode prog_32_method_10_code 269 = .ok (.iaload, 1) := by decide +kernel
theorem d17_270 : decode prog_32_method_10_code 270 = .ok (.isub, 1) := by decide +kernel
theorem d17_271 : decode prog_32_method_10_code 271 = .ok (.istore 4, 2) := by decide +kernel
theorem d17_273 : decode prog_32_method_10_code 273 = .ok (.iinc 8 1, 3) := by decide +kernel
set_option maxRecDepth 65536 in
set_option maxHeartbeats 40000000 in
theorem m17_3 (l : Launch) (Z : State) (a0 : Array Value) (w : ∀ (i : Nat) {d : Jvm.Cond}, tables_1[i]? = some d → d.before a0 Z = true) (t : Addr) (lb ib lo : Addr) (lv zL zI zO n0 : Nat) (fL fI fO : Nat → Int32)(i r  n' : Nat) (pre ord : Nat → Nat) (h0 : Heap) (Z0 : n0 ≤ h0.size) (D0 : own_D n0 t lb ib lo) (S0 : own_S Z h0 t lb ib lo lv 1 0 1 0 zL zI zO fL fI fO) (TT : own_T 62 n' 30 0 1 0 zL zI pre fL fI) (O : own_Or n' zO ord) (Lf : own_Lf 62 pre ord fL fO) (bz : zO < 1000000) (hi : i < zO) (hni : ∀ q, q < n' → ord q ≠ i) (hr : 1 ≤ r ∧ r ≤ n' + 1) (hn1 : n' + 1 ≤ 4096) :
    Own.Met l Z (⟨"com/example/frontrank/frontrank/OrderTree", "insert", "(II)V"⟩ : MethodName) prog_32_method_10_code 9 none [] ({ frames := 2, cells := 0, slots := 0, locals := 39 } : Room) #[(.ref t), (.int (Own.N (i))), (.int (Own.N (r)))] h0 (fun v h L' => v = none ∧ Fr n0 L' ∧ Keep h0 h [t, lb, ib, lo] ∧ ∃ pre' fL' fI' fO', own_S Z h t lb ib lo lv 3 1 2 0 zL zI zO fL' fI' fO' ∧ own_T 62 (n' + 1) 31 1 2 0 zL zI pre' fL' fI' ∧ own_Lf 62 pre' (own_inO ord (r - 1) i) fL' fO') := by
  refine Own.Met.of (plainFor_of_name (by first | (simp [plainName, overriddenIn]; done) | decide +kernel)) ?_
  intro p e s m below meth c T0 hx hby hml hown hnm hret hlk hZ X0 e0
  have hown : s.vm.findClass "com/example/frontrank/frontrank/OrderTree" = some m.cls := hown
  have hml : c.maxLocals = 9 := hml
  have hnm : meth.name = "insert" := hnm
  have ef : entryFrame m #[(.ref t), (.int (Own.N (i))), (.int (Own.N (r)))] 9 = mkF m 0 #[.val (.ref t), .val (.int (Own.N (i))), .val (.int (Own.N (r))), .unset, .unset, .unset, .unset, .unset, .unset] [] := by first | (simp [entryFrame, mkF, argsToLocals, Value.category]; done) | rfl
  rw [ef]
  have N0 := Fr.nil n0
  have D00 := D0
  obtain ⟨ne_t_lb, ne_t_ib, ne_t_lo, ne_lb_ib, ne_lb_lo, ne_ib_lo, g_t, g_lb, g_ib, g_lo⟩ := D0
  obtain ⟨E_0, Fleaks_0, Fleaes_0, Finnks_0, Finnrs_0, FleaOf_0, Frooot_0, Fheiht_0, Fregar_0, Clb_0, Cib_0, Clo_0⟩ := S0
  obtain ⟨P, hB, hL1, hL2, hn', hT, hR, hzI, hzI2, hzL, hzL2⟩ := TT
  obtain ⟨jj, hj, f1, f2⟩ := own_find2 P hL1 hr.1 hr.2
  have bd := own_bound P (j := jj + 1) (by omega)
  have p0 := P.1
  have pj := P.2.2 jj hj
  have hsz := (Lf jj hj).1
  have H : own_H1 62 0 pre fL fI := by
    rcases hT with ⟨-, H⟩ | ⟨h9, -⟩
    · exact H
    · omega
  have b8 := H.2.1
  have l62 := H.1
  have J159 : ∀ (b lvl cc lst inn1 rt1 ht1 : Nat) (G : Nat → Nat) (gL gI : Nat → Int32) (Lq : List Loc) (hq : Heap) (Sq : own_S Z hq t lb ib lo lv inn1 rt1 ht1 0 zL zI zO gL gI fO) (hG : own_Gc gI b cc G) (h1 : G cc < r) (h2 : r ≤ G (cc + 1) ∨ cc = lst) (h4 : cc ≤ lst) (h3 : G (cc + 1) < 1000000) (bb : b < 8) (bc : lst < 62) (KK : ∀ (rs : Nat) (hrs : rs = r - G cc) (Tq : State) (Xq : Stand p l e ({ frames := 2, cells := 0, slots := 0, locals := 39 } : Room) s m #[(.ref t), (.int (Own.N (i))), (.int (Own.N (r)))] below meth c Tq Lq 0 0) (eqq : Tq.heap = hq), Own.Ends p.tables e below (fun v h L' => v = none ∧ Fr n0 L' ∧ Keep h0 h [t, lb, ib, lo] ∧ ∃ pre' fL' fI' fO', own_S Z h t lb ib lo lv 3 1 2 0 zL zI zO fL' fI' fO' ∧ own_T 62 (n' + 1) 31 1 2 0 zL zI pre' fL' fI' ∧ own_Lf 62 pre' (own_inO ord (r - 1) i) fL' fO') (Own.FE s ({ frames := 2, cells := 0, slots := 0, locals := 39 } : Room).cells ({ frames := 2, cells := 0, slots := 0, locals := 39 } : Room).slots) (Tq.setTop (mkF m 206 #[.val (.ref t), .val (.int (Own.N (i))), .val (.int (Own.N (r))), .val (.int (Own.N (b))), .val (.int (Own.N (rs))), .val (.int (Own.N (lvl))), .val (.int (Own.N (b * 128))), .val (.int (Own.N (lst))), .val (.int (Own.N (cc)))] []))) (kk sl rs : Nat) (hs : sl ≤ cc) (hk : cc - sl < kk) (hrs : rs = r - G sl) (Tq : State) (Xq : Stand p l e ({ frames := 2, cells := 0, slots := 0, locals := 39 } : Room) s m #[(.ref t), (.int (Own.N (i))), (.int (Own.N (r)))] below meth c Tq Lq 0 0) (eqq : Tq.heap = hq), Own.Ends p.tables e below (fun v h L' => v = none ∧ Fr n0 L' ∧ Keep h0 h [t, lb, ib, lo] ∧ ∃ pre' fL' fI' fO', own_S Z h t lb ib lo lv 3 1 2 0 zL zI zO fL' fI' fO' ∧ own_T 62 (n' + 1) 31 1 2 0 zL zI pre' fL' fI' ∧ own_Lf 62 pre' (own_inO ord (r - 1) i) fL' fO') (Own.FE s ({ frames := 2, cells := 0, slots := 0, locals := 39 } : Room).cells ({ frames := 2, cells := 0, slots := 0, locals := 39 } : Room).slots) (Tq.setTop (mkF m 159 #[.val (.ref t), .val (.int (Own.N (i))), .val (.int (Own.N (r))), .val (.int (Own.N (b))), .val (.int (Own.N (rs))), .val (.int (Own.N (lvl))), .val (.int (Own.N (b * 128))), .val (.int (Own.N (lst))), .val (.int (Own.N (sl)))] [])) := by
    intro b lvl cc lst inn1 rt1 ht1 G gL gI Lq hq Sq hG h1 h2 h4 h3 bb bc KK kk
    induction kk with
    | zero => intros; exfalso; omega
    | succ kk ih =>
      intro sl rs hs hk hrs Tq Xq eqq
      obtain ⟨q1, q2, q3⟩ := hG sl hs
      have q4 : G (sl + 1) < 1000000 := by
        by_cases c9 : sl = cc
        · subst c9; exact h3
        · have := (hG (sl + 1) (by omega)).2.2; omega
      obtain ⟨E_1, Fleaks_1, Fleaes_1, Finnks_1, Finnrs_1, FleaOf_1, Frooot_1, Fheiht_1, Fregar_1, Clb_1, Cib_1, Clo_1⟩ := Sq
      refine Own.iload 161 Xq hx (hb hby d17_159) rfl rfl ?_
      refine Own.iload 163 Xq hx (hb hby d17_161) rfl rfl ?_
      refine Own.nicmp_ge 206 166 Xq hx (hb hby d17_163) (by decide) rfl (by omega) (by omega) (fun tk => ?_) (fun tk => ?_)
      ·
        obtain rfl : sl = cc := by omega
        exact KK rs hrs _ Xq eqq
      ·
        refine Own.iload 168 Xq hx (hb hby d17_166) rfl rfl ?_
        refine Own.aloadN 169 Xq hx (hb hby d17_168) rfl rfl rfl ?_
        refine Own.getFld 172 Xq hx hZ hown (host := "") (Or.inl (w 14 rfl)) Via.refl eqq Finnks_1 (hb hby d17_169) rfl ?_
        intro T2 X2 e2
        refine Own.iload 174 X2 hx (hb hby d17_172) rfl rfl ?_
        refine Own.iconst 175 X2 hx (Own.N 3) (hb hby d17_174) rfl rfl ?_
        refine Own.iadd 176 X2 hx (hb hby d17_175) rfl (Own.N_add _ _) ?_
        refine Own.iload 178 X2 hx (hb hby d17_176) rfl rfl ?_
        refine Own.iadd 179 X2 hx (hb hby d17_178) rfl (Own.N_add _ _) ?_
        refine Own.nLoad 180 (Own.N (G (sl + 1) - G sl)) X2 hx hZ e2 Cib_1 (by omega) q1 (hb hby d17_179) rfl ?_
        refine Own.nicmp_le 206 183 X2 hx (hb hby d17_180) (by decide) rfl (by omega) (by omega) (fun tk2 => ?_) (fun tk2 => ?_)
        ·
          obtain rfl : sl = cc := by
            by_cases c9 : sl = cc
            · exact c9
            · have := (hG (sl + 1) (by omega)).2.2; omega
          exact KK rs hrs _ X2 e2
        ·
          have c9 : sl ≠ cc := fun c9 => by subst c9; omega
          refine Own.iload 185 X2 hx (hb hby d17_183) rfl rfl ?_
          refine Own.aloadN 186 X2 hx (hb hby d17_185) rfl rfl rfl ?_
          refine Own.getFld 189 X2 hx hZ hown (host := "") (Or.inl (w 14 rfl)) Via.refl e2 Finnks_1 (hb hby d17_186) rfl ?_
          intro T3 X3 e3
          refine Own.iload 191 X3 hx (hb hby d17_189) rfl rfl ?_
          refine Own.iconst 192 X3 hx (Own.N 3) (hb hby d17_191) rfl rfl ?_
          refine Own.iadd 193 X3 hx (hb hby d17_192) rfl (Own.N_add _ _) ?_
          refine Own.iload 195 X3 hx (hb hby d17_193) rfl rfl ?_
          refine Own.iadd 196 X3 hx (hb hby d17_195) rfl (Own.N_add _ _) ?_
          refine Own.nLoad 197 (Own.N (G (sl + 1) - G sl)) X3 hx hZ e3 Cib_1 (by omega) q1 (hb hby d17_196) rfl ?_
          refine Own.isub 198 X3 hx (hb hby d17_197) rfl (Own.N_sub (by omega)) ?_
          refine Own.istoreV 200 #[.val (.ref t), .val (.int (Own.N (i))), .val (.int (Own.N (r))), .val (.int (Own.N (b))), .val (.int (Own.N (rs - (G (sl + 1) - G sl)))), .val (.int (Own.N (lvl))), .val (.int (Own.N (b * 128))), .val (.int (Own.N (lst))), .val (.int (Own.N (sl)))] X3 hx (hb hby d17_198) rfl rfl ?_
          refine Own.iinc 203 (fun c_4 => #[.val (.ref t), .val (.int (Own.N (i))), .val (.int (Own.N (r))), .val (.int (Own.N (b))), .val (.int (Own.N (rs - (G (sl + 1) - G sl)))), .val (.int (Own.N (lvl))), .val (.int (Own.N (b * 128))), .val (.int (Own.N (lst))), .val (.int c_4)]) X3 hx (Own.N 1) (hb hby d17_200) rfl rfl rfl (fun _ => rfl) fun c_4 hc_4 => ?_
          obtain rfl : c_4 = Own.N (sl + 1) := hc_4.trans (Own.N_add _ _)
          refine Own.goto 159 X3 hx (hb hby d17_203) (by decide) ?_
          exact ih (sl + 1) _ (by omega) (by omega) (by omega) _ X3 e3
  refine Own.aloadN 1 X0 hx (hb hby d17_0) rfl rfl rfl ?_
  refine Own.getFld 4 X0 hx hZ hown (host := "") (Or.inl (w 14 rfl)) Via.refl e0 Finnks_0 (hb hby d17_1) rfl ?_
  intro T5 X5 e5
  refine Own.aloadN 5 X5 hx (hb hby d17_4) rfl rfl rfl ?_
  refine Own.getFld 8 X5 hx hZ hown (host := "") (Or.inl (w 44 rfl)) Via.refl e5 Frooot_0 (hb hby d17_5) rfl ?_
  intro T6 X6 e6
  refine Own.sipush 11 X6 hx (Own.N 128) (hb hby d17_8) rfl rfl ?_
  refine Own.imul 12 X6 hx (hb hby d17_11) rfl (Own.N_mul _ _) ?_
  refine Own.iconst 13 X6 hx (Own.N 2) (hb hby d17_12) rfl rfl ?_
  refine Own.iadd 14 X6 hx (hb hby d17_13) rfl (Own.N_add _ _) ?_
  refine Own.nLoad 15 (Own.N (62)) X6 hx hZ e6 Cib_0 (by omega) H.2.2.2.1 (hb hby d17_14) rfl ?_
  refine Own.bipush 17 X6 hx (Own.N 62) (hb hby d17_15) rfl rfl ?_
  refine Own.nicmp_ne 117 20 X6 hx (hb hby d17_17) (by decide) rfl (by omega) (by omega) (fun tk => False.elim (by omega)) (fun tk => ?_)
  refine Own.aloadN 21 X6 hx (hb hby d17_20) rfl rfl rfl ?_
  refine Own.callPr 24 0 t [] [] X6 hx hZ hown (m5 l Z a0 w t lb ib lo _ _ _ _ _ _ _ _ n0 _ _ _ _ Z0 D00 ⟨E_0, Fleaks_0, Fleaes_0, Finnks_0, Finnrs_0, FleaOf_0, Frooot_0, Fheiht_0, Fregar_0, Clb_0, Cib_0, Clo_0⟩ (by omega) (by omega)) E_0 (w 36 rfl) (w 38 rfl) (w 3 rfl) (w 37 rfl) (w 4 rfl) (w 39 rfl) (by decide) e6 (by decide) (by decide) (by decide) (by decide) (by rw [hml]; rfl) (lenOf pd_2 rfl) rfl (Nat.le_of_eq rfl) (hb hby d17_21) rfl ?_
  rintro vv T7 L7 X7 ⟨rfl, N7q, K7, S7⟩
  have N7 := Fr.app N0 N7q
  have Ef_9 := E_0.keep K7
  have zl7 := Nat.le_trans Z0 K7.1
  have KK7 := (Keep.refl h0 [t, lb, ib, lo]).trans K7 (allS (Or.inl (List.mem_of_getElem? (i := 0) rfl)) (allS (Or.inl (List.mem_of_getElem? (i := 1) rfl)) (allS (Or.inl (List.mem_of_getElem? (i := 2) rfl)) (allS (Or.inl (List.mem_of_getElem? (i := 3) rfl)) all0))))
  obtain ⟨E_7, Fleaks_7, Fleaes_7, Finnks_7, Finnrs_7, FleaOf_7, Frooot_7, Fheiht_7, Fregar_7, Clb_7, Cib_7, Clo_7⟩ := S7
  refine Own.istoreNV 25 #[.val (.ref t), .val (.int (Own.N (i))), .val (.int (Own.N (r))), .val (.int (Own.N (1))), .unset, .unset, .unset, .unset, .unset] X7 hx (hb hby d17_24) rfl rfl ?_
  refine Own.aloadN 26 X7 hx (hb hby d17_25) rfl rfl rfl ?_
  refine Own.getFld 29 X7 hx hZ hown (host := "") (Or.inl (w 14 rfl)) Via.refl rfl Finnks_7 (hb hby d17_26) rfl ?_
  intro T21 X21 e21
  refine Own.iloadN 30 X21 hx (hb hby d17_29) rfl rfl ?_
  refine Own.sipush 33 X21 hx (Own.N 128) (hb hby d17_30) rfl rfl ?_
  refine Own.imul 34 X21 hx (hb hby d17_33) rfl (Own.N_mul _ _) ?_
  refine Own.iconst 35 X21 hx (Own.N 3) (hb hby d17_34) rfl rfl ?_
  refine Own.iadd 36 X21 hx (hb hby d17_35) rfl (Own.N_add _ _) ?_
  refine Own.aloadN 37 X21 hx (hb hby d17_36) rfl rfl rfl ?_
  refine Own.aloadN 38 X21 hx (hb hby d17_37) rfl rfl rfl ?_
  refine Own.getFld 41 X21 hx hZ hown (host := "") (Or.inl (w 44 rfl)) Via.refl e21 Frooot_7 (hb hby d17_38) rfl ?_
  intro T22 X22 e22
  refine Own.callPr 44 2 t [(.int (Own.N (0)))] [(.int (Own.N ((1 * 128) + 3))), (.ref ib)] X22 hx hZ hown (m14 l Z a0 w t lb ib lo _ _ _ _ _ _ _ _ n0 _ _ _ 0 62 pre _ ⟨E_7, Fleaks_7, Fleaes_7, Finnks_7, Finnrs_7, FleaOf_7, Frooot_7, Fheiht_7, Fregar_7, Clb_7, Cib_7, Clo_7⟩ (by omega) (by omega) (by omega) (by rw [Own.upd_miss (by omega)]; exact H.2.2.2.1) (fun s hs => ⟨by rw [Own.upd_miss (by omega)]; exact (H.2.2.2.2 s hs).2.2.1, (P.2.2 s hs).1⟩) (fun s hs => ⟨by rw [p0]; exact Nat.zero_le _, by have := own_bound P hs; omega⟩)) E_7 (w 78 rfl) (w 80 rfl) (w 3 rfl) (w 79 rfl) (w 4 rfl) (w 81 rfl) (by decide) e22 (by decide) (by decide) (by decide) (by decide) (by rw [hml]; rfl) (lenOf pd_1 rfl) rfl (Nat.le_of_eq rfl) (hb hby d17_41) rfl ?_
  rintro vv T23 L23 X23 ⟨rfl, hh23, rfl⟩
  have N23 := Fr.app N7 (Fr.nil _)
  refine Own.nStore 45 X23 hx hZ hh23 Cib_7 (by omega) (hb hby d17_44) rfl ?_
  intro T24 h24 X24 e24 W24 C24
  have N24 := Fr.snoc X24 N23 g_ib
  have Ef_26 := E_7.wr W24
  have Ff_27 := Fleaks_7.other W24 (Or.inl ne_t_ib)
  have Ff_28 := Fleaes_7.other W24 (Or.inl ne_t_ib)
  have Ff_29 := Finnks_7.other W24 (Or.inl ne_t_ib)
  have Ff_30 := Finnrs_7.other W24 (Or.inl ne_t_ib)
  have Ff_31 := FleaOf_7.other W24 (Or.inl ne_t_ib)
  have Ff_32 := Frooot_7.other W24 (Or.inl ne_t_ib)
  have Ff_33 := Fheiht_7.other W24 (Or.inl ne_t_ib)
  have Ff_34 := Fregar_7.other W24 (Or.inl ne_t_ib)
  have Cf_35 := Clb_7.other W24 ne_lb_ib
  have Cf_37 := Clo_7.other W24 (Ne.symm ne_ib_lo)
  have zl24 := Nat.le_trans zl7 (Nat.le_of_eq W24.size.symm)
  have K24 := KK7.wr W24 (Or.inl (List.mem_of_getElem? (i := 2) rfl))
  refine Own.aloadN 46 X24 hx (hb hby d17_45) rfl rfl rfl ?_
  refine Own.getFld 49 X24 hx hZ hown (host := "") (Or.inl (w 14 rfl)) Via.refl e24 Ff_29 (hb hby d17_46) rfl ?_
  intro T38 X38 e38
  refine Own.iloadN 50 X38 hx (hb hby d17_49) rfl rfl ?_
  refine Own.sipush 53 X38 hx (Own.N 128) (hb hby d17_50) rfl rfl ?_
  refine Own.imul 54 X38 hx (hb hby d17_53) rfl (Own.N_mul _ _) ?_
  refine Own.bipush 56 X38 hx (Own.N 65) (hb hby d17_54) rfl rfl ?_
  refine Own.iadd 57 X38 hx (hb hby d17_56) rfl (Own.N_add _ _) ?_
  refine Own.aloadN 58 X38 hx (hb hby d17_57) rfl rfl rfl ?_
  refine Own.getFld 61 X38 hx hZ hown (host := "") (Or.inl (w 44 rfl)) Via.refl e38 Ff_32 (hb hby d17_58) rfl ?_
  intro T39 X39 e39
  refine Own.nStore 62 X39 hx hZ e39 C24 (by omega) (hb hby d17_61) rfl ?_
  intro T40 h40 X40 e40 W40 C40
  have N40 := Fr.snoc X40 N24 g_ib
  have Ef_42 := Ef_26.wr W40
  have Ff_43 := Ff_27.other W40 (Or.inl ne_t_ib)
  have Ff_44 := Ff_28.other W40 (Or.inl ne_t_ib)
  have Ff_45 := Ff_29.other W40 (Or.inl ne_t_ib)
  have Ff_46 := Ff_30.other W40 (Or.inl ne_t_ib)
  have Ff_47 := Ff_31.other W40 (Or.inl ne_t_ib)
  have Ff_48 := Ff_32.other W40 (Or.inl ne_t_ib)
  have Ff_49 := Ff_33.other W40 (Or.inl ne_t_ib)
  have Ff_50 := Ff_34.other W40 (Or.inl ne_t_ib)
  have Cf_51 := Cf_35.other W40 ne_lb_ib
  have Cf_52 := Cf_37.other W40 (Ne.symm ne_ib_lo)
  have zl40 := Nat.le_trans zl24 (Nat.le_of_eq W40.size.symm)
  have K40 := K24.wr W40 (Or.inl (List.mem_of_getElem? (i := 2) rfl))
  refine Own.aloadN 63 X40 hx (hb hby d17_62) rfl rfl rfl ?_
  refine Own.getFld 66 X40 hx hZ hown (host := "") (Or.inl (w 14 rfl)) Via.refl e40 Ff_45 (hb hby d17_63) rfl ?_
  intro T54 X54 e54
  refine Own.iloadN 67 X54 hx (hb hby d17_66) rfl rfl ?_
  refine Own.sipush 70 X54 hx (Own.N 128) (hb hby d17_67) rfl rfl ?_
  refine Own.imul 71 X54 hx (hb hby d17_70) rfl (Own.N_mul _ _) ?_
  refine Own.iconst 72 X54 hx (Own.N 2) (hb hby d17_71) rfl rfl ?_
  refine Own.iadd 73 X54 hx (hb hby d17_72) rfl (Own.N_add _ _) ?_
  refine Own.iconst 74 X54 hx (Own.N 1) (hb hby d17_73) rfl rfl ?_
  refine Own.nStore 75 X54 hx hZ e54 C40 (by omega) (hb hby d17_74) rfl ?_
  intro T55 h55 X55 e55 W55 C55
  have N55 := Fr.snoc X55 N40 g_ib
  have Ef_57 := Ef_42.wr W55
  have Ff_58 := Ff_43.other W55 (Or.inl ne_t_ib)
  have Ff_59 := Ff_44.other W55 (Or.inl ne_t_ib)
  have Ff_60 := Ff_45.other W55 (Or.inl ne_t_ib)
  have Ff_61 := Ff_46.other W55 (Or.inl ne_t_ib)
  have Ff_62 := Ff_47.other W55 (Or.inl ne_t_ib)
  have Ff_63 := Ff_48.other W55 (Or.inl ne_t_ib)
  have Ff_64 := Ff_49.other W55 (Or.inl ne_t_ib)
  have Ff_65 := Ff_50.other W55 (Or.inl ne_t_ib)
  have Cf_66 := Cf_51.other W55 ne_lb_ib
  have Cf_67 := Cf_52.other W55 (Ne.symm ne_ib_lo)
  have zl55 := Nat.le_trans zl40 (Nat.le_of_eq W55.size.symm)
  have K55 := K40.wr W55 (Or.inl (List.mem_of_getElem? (i := 2) rfl))
  refine Own.aloadN 76 X55 hx (hb hby d17_75) rfl rfl rfl ?_
  refine Own.getFld 79 X55 hx hZ hown (host := "") (Or.inl (w 14 rfl)) Via.refl e55 Ff_60 (hb hby d17_76) rfl ?_
  intro T69 X69 e69
  refine Own.iloadN 80 X69 hx (hb hby d17_79) rfl rfl ?_
  refine Own.sipush 83 X69 hx (Own.N 128) (hb hby d17_80) rfl rfl ?_
  refine Own.imul 84 X69 hx (hb hby d17_83) rfl (Own.N_mul _ _) ?_
  refine Own.iconst 85 X69 hx (Own.N 0) (hb hby d17_84) rfl rfl ?_
  refine Own.iadd 86 X69 hx (hb hby d17_85) rfl (Own.N_add _ _) ?_
  refine Own.iconst 87 X69 hx ((-1 : Int32)) (hb hby d17_86) rfl rfl ?_
  refine Own.nStore 88 X69 hx hZ e69 C55 (by omega) (hb hby d17_87) rfl ?_
  intro T70 h70 X70 e70 W70 C70
  have N70 := Fr.snoc X70 N55 g_ib
  have Ef_72 := Ef_57.wr W70
  have Ff_73 := Ff_58.other W70 (Or.inl ne_t_ib)
  have Ff_74 := Ff_59.other W70 (Or.inl ne_t_ib)
  have Ff_75 := Ff_60.other W70 (Or.inl ne_t_ib)
  have Ff_76 := Ff_61.other W70 (Or.inl ne_t_ib)
  have Ff_77 := Ff_62.other W70 (Or.inl ne_t_ib)
  have Ff_78 := Ff_63.other W70 (Or.inl ne_t_ib)
  have Ff_79 := Ff_64.other W70 (Or.inl ne_t_ib)
  have Ff_80 := Ff_65.other W70 (Or.inl ne_t_ib)
  have Cf_81 := Cf_66.other W70 ne_lb_ib
  have Cf_82 := Cf_67.other W70 (Ne.symm ne_ib_lo)
  have zl70 := Nat.le_trans zl55 (Nat.le_of_eq W70.size.symm)
  have K70 := K55.wr W70 (Or.inl (List.mem_of_getElem? (i := 2) rfl))
  refine Own.aloadN 89 X70 hx (hb hby d17_88) rfl rfl rfl ?_
  refine Own.aloadN 90 X70 hx (hb hby d17_89) rfl rfl rfl ?_
  refine Own.getFld 93 X70 hx hZ hown (host := "") (Or.inl (w 44 rfl)) Via.refl e70 Ff_78 (hb hby d17_90) rfl ?_
  intro T84 X84 e84
  refine Own.aloadN 94 X84 hx (hb hby d17_93) rfl rfl rfl ?_
  refine Own.getFld 97 X84 hx hZ hown (host := "") (Or.inl (w 34 rfl)) Via.refl e84 Ff_79 (hb hby d17_94) rfl ?_
  intro T85 X85 e85
  refine Own.iloadN 98 X85 hx (hb hby d17_97) rfl rfl ?_
  refine Own.iconst 99 X85 hx (Own.N 0) (hb hby d17_98) rfl rfl ?_
  refine Own.callPr 102 0 t [(.int (Own.N (0))), (.int (Own.N (1))), (.int (Own.N (1))), (.int (Own.N (0)))] [] X85 hx hZ hown (m6_1 l Z a0 w t lb ib lo _ _ _ _ _ _ _ _ n0 _ _ _ 0 1 1 0 _ zl70 D00 ⟨Ef_72, Ff_73, Ff_74, Ff_75, Ff_76, Ff_77, Ff_78, Ff_79, Ff_80, Cf_81, C70, Cf_82⟩ (by omega) (by omega) (by omega) (by omega)) Ef_72 (w 40 rfl) (w 42 rfl) (w 3 rfl) (w 41 rfl) (w 4 rfl) (w 43 rfl) (by decide) e85 (by decide) (by decide) (by decide) (by decide) (by rw [hml]; rfl) (lenOf pd_4 rfl) rfl (Nat.le_of_eq rfl) (hb hby d17_99) rfl ?_
  rintro vv T86 L86 X86 ⟨rfl, N86q, K86, S86⟩
  have N86 := Fr.app N70 N86q
  have Ef_88 := Ef_72.keep K86
  have zl86 := Nat.le_trans zl70 K86.1
  have KK86 := K70.trans K86 (allS (Or.inl (List.mem_of_getElem? (i := 0) rfl)) (allS (Or.inl (List.mem_of_getElem? (i := 1) rfl)) (allS (Or.inl (List.mem_of_getElem? (i := 2) rfl)) (allS (Or.inl (List.mem_of_getElem? (i := 3) rfl)) all0))))
  obtain ⟨E_86, Fleaks_86, Fleaes_86, Finnks_86, Finnrs_86, FleaOf_86, Frooot_86, Fheiht_86, Fregar_86, Clb_86, Cib_86, Clo_86⟩ := S86
  refine Own.aloadN 103 X86 hx (hb hby d17_102) rfl rfl rfl ?_
  refine Own.iloadN 104 X86 hx (hb hby d17_103) rfl rfl ?_
  refine Own.putFld 107 X86 hx hZ hown (host := "") (Or.inl (w 44 rfl)) Via.refl rfl Frooot_86 E_86 (Or.inl (w 45 rfl)) (w 3 rfl) (ty := .int) (by decide) rfl rfl (hb hby d17_104) rfl ?_
  intro T100 h100 X100 e100 W100
  have N100 := Fr.snoc X100 N86 g_t
  have Ef_102 := E_86.wr W100
  have Ff_103 := Fleaks_86.other W100 (Or.inr (slot_ne (Or.inr (w 13 rfl)) (Or.inl (w 45 rfl)) (by decide) (t := (.array .int)) (t' := .int) (by decide) (by decide)))
  have Ff_104 := Fleaes_86.other W100 (Or.inr (slot_ne (Or.inl (w 23 rfl)) (Or.inl (w 45 rfl)) (by decide) (t := .int) (t' := .int) (by decide) (by decide)))
  have Ff_105 := Finnks_86.other W100 (Or.inr (slot_ne (Or.inl (w 15 rfl)) (Or.inl (w 45 rfl)) (by decide) (t := (.array .int)) (t' := .int) (by decide) (by decide)))
  have Ff_106 := Finnrs_86.other W100 (Or.inr (slot_ne (Or.inl (w 33 rfl)) (Or.inl (w 45 rfl)) (by decide) (t := .int) (t' := .int) (by decide) (by decide)))
  have Ff_107 := FleaOf_86.other W100 (Or.inr (slot_ne (Or.inr (w 17 rfl)) (Or.inl (w 45 rfl)) (by decide) (t := (.array .int)) (t' := .int) (by decide) (by decide)))
  have Ff_108 := Frooot_86.same W100
  have Ff_109 := Fheiht_86.other W100 (Or.inr (slot_ne (Or.inl (w 35 rfl)) (Or.inl (w 45 rfl)) (by decide) (t := .int) (t' := .int) (by decide) (by decide)))
  have Ff_110 := Fregar_86.other W100 (Or.inr (slot_ne (Or.inl (w 47 rfl)) (Or.inl (w 45 rfl)) (by decide) (t := .boolean) (t' := .int) (by decide) (by decide)))
  have Cf_111 := Clb_86.other W100 (Ne.symm ne_t_lb)
  have Cf_112 := Cib_86.other W100 (Ne.symm ne_t_ib)
  have Cf_113 := Clo_86.other W100 (Ne.symm ne_t_lo)
  have zl100 := Nat.le_trans zl86 (Nat.le_of_eq W100.size.symm)
  have K100 := KK86.wr W100 (Or.inl (List.mem_of_getElem? (i := 0) rfl))
  refine Own.aloadN 108 X100 hx (hb hby d17_107) rfl rfl rfl ?_
  refine Own.dup 109 X100 hx (hb hby d17_108) rfl rfl ?_
  refine Own.getFld 112 X100 hx hZ hown (host := "") (Or.inl (w 34 rfl)) Via.refl e100 Ff_109 (hb hby d17_109) rfl ?_
  intro T114 X114 e114
  refine Own.iconst 113 X114 hx (Own.N 1) (hb hby d17_112) rfl rfl ?_
  refine Own.iadd 114 X114 hx (hb hby d17_113) rfl (Own.N_add _ _) ?_
  refine Own.putFld 117 X114 hx hZ hown (host := "") (Or.inl (w 34 rfl)) Via.refl e114 Ff_109 Ef_102 (Or.inl (w 35 rfl)) (w 3 rfl) (ty := .int) (by decide) rfl rfl (hb hby d17_114) rfl ?_
  intro T115 h115 X115 e115 W115
  have N115 := Fr.snoc X115 N100 g_t
  have Ef_117 := Ef_102.wr W115
  have Ff_118 := Ff_103.other W115 (Or.inr (slot_ne (Or.inr (w 13 rfl)) (Or.inl (w 35 rfl)) (by decide) (t := (.array .int)) (t' := .int) (by decide) (by decide)))
  have Ff_119 := Ff_104.other W115 (Or.inr (slot_ne (Or.inl (w 23 rfl)) (Or.inl (w 35 rfl)) (by decide) (t := .int) (t' := .int) (by decide) (by decide)))
  have Ff_120 := Ff_105.other W115 (Or.inr (slot_ne (Or.inl (w 15 rfl)) (Or.inl (w 35 rfl)) (by decide) (t := (.array .int)) (t' := .int) (by decide) (by decide)))
  have Ff_121 := Ff_106.other W115 (Or.inr (slot_ne (Or.inl (w 33 rfl)) (Or.inl (w 35 rfl)) (by decide) (t := .int) (t' := .int) (by decide) (by decide)))
  have Ff_122 := Ff_107.other W115 (Or.inr (slot_ne (Or.inr (w 17 rfl)) (Or.inl (w 35 rfl)) (by decide) (t := (.array .int)) (t' := .int) (by decide) (by decide)))
  have Ff_123 := Ff_108.other W115 (Or.inr (slot_ne (Or.inl (w 45 rfl)) (Or.inl (w 35 rfl)) (by decide) (t := .int) (t' := .int) (by decide) (by decide)))
  have Ff_124 := Ff_109.same W115
  have Ff_125 := Ff_110.other W115 (Or.inr (slot_ne (Or.inl (w 47 rfl)) (Or.inl (w 35 rfl)) (by decide) (t := .boolean) (t' := .int) (by decide) (by decide)))
  have Cf_126 := Cf_111.other W115 (Ne.symm ne_t_lb)
  have Cf_127 := Cf_112.other W115 (Ne.symm ne_t_ib)
  have Cf_128 := Cf_113.other W115 (Ne.symm ne_t_lo)
  have zl115 := Nat.le_trans zl100 (Nat.le_of_eq W115.size.symm)
  have K115 := K100.wr W115 (Or.inl (List.mem_of_getElem? (i := 0) rfl))
  refine Own.aloadN 118 X115 hx (hb hby d17_117) rfl rfl rfl ?_
  refine Own.getFld 121 X115 hx hZ hown (host := "") (Or.inl (w 44 rfl)) Via.refl e115 Ff_123 (hb hby d17_118) rfl ?_
  intro T129 X129 e129
  refine Own.istoreNV 122 #[.val (.ref t), .val (.int (Own.N (i))), .val (.int (Own.N (r))), .val (.int (Own.N (1))), .unset, .unset, .unset, .unset, .unset] X129 hx (hb hby d17_121) rfl rfl ?_
  refine Own.iloadN 123 X129 hx (hb hby d17_122) rfl rfl ?_
  refine Own.istoreV 125 #[.val (.ref t), .val (.int (Own.N (i))), .val (.int (Own.N (r))), .val (.int (Own.N (1))), .val (.int (Own.N (r))), .unset, .unset, .unset, .unset] X129 hx (hb hby d17_123) rfl rfl ?_
  refine Own.aloadN 126 X129 hx (hb hby d17_125) rfl rfl rfl ?_
  refine Own.getFld 129 X129 hx hZ hown (host := "") (Or.inl (w 34 rfl)) Via.refl e129 Ff_124 (hb hby d17_126) rfl ?_
  intro T130 X130 e130
  refine Own.istoreV 131 #[.val (.ref t), .val (.int (Own.N (i))), .val (.int (Own.N (r))), .val (.int (Own.N (1))), .val (.int (Own.N (r))), .val (.int (Own.N (2))), .unset, .unset, .unset] X130 hx (hb hby d17_129) rfl rfl ?_
  refine Own.iload 133 X130 hx (hb hby d17_131) rfl rfl ?_
  refine Own.nif_le 312 136 X130 hx (hb hby d17_133) (by decide) rfl (by omega) (fun tk => False.elim (by omega)) (fun tk => ?_)
  refine Own.iloadN 137 X130 hx (hb hby d17_136) rfl rfl ?_
  refine Own.sipush 140 X130 hx (Own.N 128) (hb hby d17_137) rfl rfl ?_
  refine Own.imul 141 X130 hx (hb hby d17_140) rfl (Own.N_mul _ _) ?_
  refine Own.istoreV 143 #[.val (.ref t), .val (.int (Own.N (i))), .val (.int (Own.N (r))), .val (.int (Own.N (1))), .val (.int (Own.N (r))), .val (.int (Own.N (2))), .val (.int (Own.N (1 * 128))), .unset, .unset] X130 hx (hb hby d17_141) rfl rfl ?_
  refine Own.aloadN 144 X130 hx (hb hby d17_143) rfl rfl rfl ?_
  refine Own.getFld 147 X130 hx hZ hown (host := "") (Or.inl (w 14 rfl)) Via.refl e130 Ff_120 (hb hby d17_144) rfl ?_
  intro T131 X131 e131
  refine Own.iload 149 X131 hx (hb hby d17_147) rfl rfl ?_
  refine Own.iconst 150 X131 hx (Own.N 2) (hb hby d17_149) rfl rfl ?_
  refine Own.iadd 151 X131 hx (hb hby d17_150) rfl (Own.N_add _ _) ?_
  refine Own.nLoad 152 (Own.N (1)) X131 hx hZ e131 Cf_127 (by omega) (by (repeat (first | rw [Own.upd_hit (by omega)] | rw [Own.upd_miss (by omega)])) <;> (try (congr 1 <;> omega))) (hb hby d17_151) rfl ?_
  refine Own.iconst 153 X131 hx (Own.N 1) (hb hby d17_152) rfl rfl ?_
  refine Own.isub 154 X131 hx (hb hby d17_153) rfl (Own.N_sub (by omega)) ?_
  refine Own.istoreV 156 #[.val (.ref t), .val (.int (Own.N (i))), .val (.int (Own.N (r))), .val (.int (Own.N (1))), .val (.int (Own.N (r))), .val (.int (Own.N (2))), .val (.int (Own.N (1 * 128))), .val (.int (Own.N (1 - 1))), .unset] X131 hx (hb hby d17_154) rfl rfl ?_
  refine Own.iconst 157 X131 hx (Own.N 0) (hb hby d17_156) rfl rfl ?_
  refine Own.istoreV 159 #[.val (.ref t), .val (.int (Own.N (i))), .val (.int (Own.N (r))), .val (.int (Own.N (1))), .val (.int (Own.N (r))), .val (.int (Own.N (2))), .val (.int (Own.N (1 * 128))), .val (.int (Own.N (1 - 1))), .val (.int (Own.N (0)))] X131 hx (hb hby d17_157) rfl rfl ?_
  refine Own.iload 161 X131 hx (hb hby d17_159) rfl rfl ?_
  refine Own.iload 163 X131 hx (hb hby d17_161) rfl rfl ?_
  refine Own.nicmp_ge 206 166 X131 hx (hb hby d17_163) (by decide) rfl (by omega) (by omega) (fun tk => ?_) (fun tk => False.elim (by omega))
  refine Own.aloadN 207 X131 hx (hb hby d17_206) rfl rfl rfl ?_
  refine Own.aloadN 208 X131 hx (hb hby d17_207) rfl rfl rfl ?_
  refine Own.getFld 211 X131 hx hZ hown (host := "") (Or.inl (w 14 rfl)) Via.refl e131 Ff_120 (hb hby d17_208) rfl ?_
  intro T132 X132 e132
  refine Own.iload 213 X132 hx (hb hby d17_211) rfl rfl ?_
  refine Own.bipush 215 X132 hx (Own.N 65) (hb hby d17_213) rfl rfl ?_
  refine Own.iadd 216 X132 hx (hb hby d17_215) rfl (Own.N_add _ _) ?_
  refine Own.iload 218 X132 hx (hb hby d17_216) rfl rfl ?_
  refine Own.iadd 219 X132 hx (hb hby d17_218) rfl (Own.N_add _ _) ?_
  refine Own.nLoad 220 (Own.N (0)) X132 hx hZ e132 Cf_127 (by omega) (by (repeat (first | rw [Own.upd_hit (by omega)] | rw [Own.upd_miss (by omega)])) <;> (try (congr 1 <;> omega))) (hb hby d17_219) rfl ?_
  refine Own.iload 222 X132 hx (hb hby d17_220) rfl rfl ?_
  refine Own.iconst 223 X132 hx (Own.N 1) (hb hby d17_222) rfl rfl ?_
  refine Own.isub 224 X132 hx (hb hby d17_223) rfl (Own.N_sub (by omega)) ?_
  refine Own.callPr 227 0 t [(.int (Own.N (0))), (.int (Own.N (2 - 1)))] [] X132 hx hZ hown (m18_1 l Z a0 w t lb ib lo _ _ _ _ _ _ _ _ n0 _ _ _ 0 (2 - 1) 62 _ ⟨Ef_117, Ff_118, Ff_119, Ff_120, Ff_121, Ff_122, Ff_123, Ff_124, Ff_125, Cf_126, Cf_127, Cf_128⟩ (by omega) (by omega) (by omega) (by omega) (by (repeat (first | rw [Own.upd_hit (by omega)] | rw [Own.upd_miss (by omega)])) <;> exact H.2.2.2.1) (by omega)) Ef_117 (w 95 rfl) (w 97 rfl) (w 3 rfl) (w 96 rfl) (w 4 rfl) (w 98 rfl) (by decide) e132 (by decide) (by decide) (by decide) (by decide) (by rw [hml]; rfl) (lenOf pd_5 rfl) rfl (Nat.le_of_eq rfl) (hb hby d17_224) rfl ?_
  rintro vv T133 L133 X133 ⟨rfl, hh133, rfl⟩
  have N133 := Fr.app N115 (Fr.nil _)
  refine Own.if_eq 276 230 X133 hx (hb hby d17_227) (by decide) rfl (fun tk => absurd tk (by decide)) (fun tk => ?_)
  refine Own.aloadN 231 X133 hx (hb hby d17_230) rfl rfl rfl ?_
  refine Own.iloadN 232 X133 hx (hb hby d17_231) rfl rfl ?_
  refine Own.iload 234 X133 hx (hb hby d17_232) rfl rfl ?_
  refine Own.iload 236 X133 hx (hb hby d17_234) rfl rfl ?_
  refine Own.callPr 239 0 t [(.int (Own.N (1))), (.int (Own.N (0))), (.int (Own.N (2)))] [] X133 hx hZ hown (m19 l Z a0 w t lb ib lo _ _ _ _ n0 _ _ _ n' 30 pre _ zl115 D00 ⟨Ef_117, Ff_118, Ff_119, Ff_120, Ff_121, Ff_122, Ff_123, Ff_124, Ff_125, Cf_126, Cf_127, Cf_128⟩ P (by omega) (by omega) (by omega) (by omega) (by omega) ⟨(by (repeat (first | rw [Own.upd_hit (by omega)] | rw [Own.upd_miss (by omega)])) <;> (try (congr 1 <;> omega))), (by (repeat (first | rw [Own.upd_hit (by omega)] | rw [Own.upd_miss (by omega)])) <;> (try (congr 1 <;> omega))), (by (repeat (first | rw [Own.upd_hit (by omega)] | rw [Own.upd_miss (by omega)])) <;> (try (congr 1 <;> omega))), (by (repeat (first | rw [Own.upd_hit (by omega)] | rw [Own.upd_miss (by omega)])) <;> (try (congr 1 <;> omega))), (by (repeat (first | rw [Own.upd_hit (by omega)] | rw [Own.upd_miss (by omega)])) <;> (try (congr 1 <;> omega))), (by (repeat (first | rw [Own.upd_hit (by omega)] | rw [Own.upd_miss (by omega)])) <;> (try (congr 1 <;> omega))), (by (repeat (first | rw [Own.upd_hit (by omega)] | rw [Own.upd_miss (by omega)])) <;> exact H.2.2.2.1), fun j hj' => ⟨(H.2.2.2.2 j hj').1, (H.2.2.2.2 j hj').2.1, (by (repeat (first | rw [Own.upd_hit (by omega)] | rw [Own.upd_miss (by omega)])) <;> exact (Own.at_ (by omega) (H.2.2.2.2 j hj').2.2.1)), (by (repeat (first | rw [Own.upd_hit (by omega)] | rw [Own.upd_miss (by omega)])) <;> exact (Own.at_ (by omega) (H.2.2.2.2 j hj').2.2.2))⟩⟩) Ef_117 (w 99 rfl) (w 101 rfl) (w 3 rfl) (w 100 rfl) (w 4 rfl) (w 102 rfl) (by decide) hh133 (by decide) (by decide) (by decide) (by decide) (by rw [hml]; rfl) (lenOf pd_6 rfl) rfl (Nat.le_of_eq rfl) (hb hby d17_236) rfl ?_
  rintro vv T134 L134 X134 ⟨rfl, N134q, K134, gL, gI, S134, H2, AG⟩
  have N134 := Fr.app N133 N134q
  have Ef_136 := Ef_117.keep K134
  have zl134 := Nat.le_trans zl115 K134.1
  have KK134 := K115.trans K134 (allS (Or.inl (List.mem_of_getElem? (i := 0) rfl)) (allS (Or.inl (List.mem_of_getElem? (i := 1) rfl)) (allS (Or.inl (List.mem_of_getElem? (i := 2) rfl)) (allS (Or.inl (List.mem_of_getElem? (i := 3) rfl)) all0))))
  obtain ⟨E_134, Fleaks_134, Fleaes_134, Finnks_134, Finnrs_134, FleaOf_134, Frooot_134, Fheiht_134, Fregar_134, Clb_134, Cib_134, Clo_134⟩ := S134
  have H := H2
  have b8' := H.2.2.2.1
  have hV := H.1
  have hV5 := H.2.2.1
  obtain ⟨d1, d2, d3, d4, d5, d6, d7⟩ := H.2.2.2.2.2.2.1 (jj / 31) (by omega)
  obtain ⟨u1, u2, u3, u4⟩ := H.2.2.2.2.2.2.2.2 jj hj
  obtain ⟨G1, G2, G3, G4, G5, G6, G7⟩ := own_gr_in P hj
  have s8 : own_st 62 (jj / 31) = 31 * (jj / 31) := by unfold own_st; omega
  have s9 : own_st 62 (jj / 31 + 1) = min (31 * (jj / 31 + 1)) 62 := rfl
  have e8 : own_gr 62 pre (jj / 31) = pre (own_st 62 (jj / 31)) := rfl
  have e9 : own_gr 62 pre (jj / 31 + 1) = pre (own_st 62 (jj / 31 + 1)) := rfl
  have LF9 := own_Lf_agree P (by omega) Lf AG
  have hsz9 := (LF9 jj hj).1
  have d60 := (H.2.2.2.2.2.2.1 0 (by omega)).2.2.2.2.2.1
  have p31 := own_bound P (j := 31) (by omega)
  have t0 : own_st 62 0 = 0 := by decide
  have t1 : own_st 62 (0 + 1) = 31 := by decide
  rw [t0, t1, p0] at d60
  have K276 : ∀ (sl9 rs : Nat) (h9 : sl9 = jj / 31) (hrs : rs = r - pre (own_st 62 (jj / 31))) (Tq : State) (Lq : List Loc) (Xq : Stand p l e ({ frames := 2, cells := 0, slots := 0, locals := 39 } : Room) s m #[(.ref t), (.int (Own.N (i))), (.int (Own.N (r)))] below meth c Tq Lq 0 0) (eqq : Tq.heap = T134.heap) (Nq : Fr n0 Lq), Own.Ends p.tables e below (fun v h L' => v = none ∧ Fr n0 L' ∧ Keep h0 h [t, lb, ib, lo] ∧ ∃ pre' fL' fI' fO', own_S Z h t lb ib lo lv 3 1 2 0 zL zI zO fL' fI' fO' ∧ own_T 62 (n' + 1) 31 1 2 0 zL zI pre' fL' fI' ∧ own_Lf 62 pre' (own_inO ord (r - 1) i) fL' fO') (Own.FE s ({ frames := 2, cells := 0, slots := 0, locals := 39 } : Room).cells ({ frames := 2, cells := 0, slots := 0, locals := 39 } : Room).slots) (Tq.setTop (mkF m 276 #[.val (.ref t), .val (.int (Own.N (i))), .val (.int (Own.N (r))), .val (.int (Own.N (1))), .val (.int (Own.N (rs))), .val (.int (Own.N (2))), .val (.int (Own.N (1 * 128))), .val (.int (Own.N (1 - 1))), .val (.int (Own.N (sl9)))] [])) := by
    intro sl9 rs h9 hrs Tq Lq Xq eqq Nq
    subst h9
    refine Own.aloadN 277 Xq hx (hb hby d17_276) rfl rfl rfl ?_
    refine Own.getFld 280 Xq hx hZ hown (host := "") (Or.inl (w 14 rfl)) Via.refl eqq Finnks_134 (hb hby d17_277) rfl ?_
    intro T148 X148 e148
    refine Own.iload 282 X148 hx (hb hby d17_280) rfl rfl ?_
    refine Own.iconst 283 X148 hx (Own.N 3) (hb hby d17_282) rfl rfl ?_
    refine Own.iadd 284 X148 hx (hb hby d17_283) rfl (Own.N_add _ _) ?_
    refine Own.iload 286 X148 hx (hb hby d17_284) rfl rfl ?_
    refine Own.iadd 287 X148 hx (hb hby d17_286) rfl (Own.N_add _ _) ?_
    refine Own.dup2 288 X148 hx (hb hby d17_287) rfl rfl rfl ?_
    refine Own.nLoad 289 (Own.N (pre (own_st 62 (jj / 31 + 1)) - pre (own_st 62 (jj / 31)))) X148 hx hZ e148 Cib_134 (by omega) d6 (hb hby d17_288) rfl ?_
    refine Own.iconst 290 X148 hx (Own.N 1) (hb hby d17_289) rfl rfl ?_
    refine Own.iadd 291 X148 hx (hb hby d17_290) rfl (Own.N_add _ _) ?_
    refine Own.nStore 292 X148 hx hZ e148 Cib_134 (by omega) (hb hby d17_291) rfl ?_
    intro T149 h149 X149 e149 W149 C149
    have N149 := Fr.snoc X149 Nq g_ib
    have Ef_151 := E_134.wr W149
    have Ff_152 := Fleaks_134.other W149 (Or.inl ne_t_ib)
    have Ff_153 := Fleaes_134.other W149 (Or.inl ne_t_ib)
    have Ff_154 := Finnks_134.other W149 (Or.inl ne_t_ib)
    have Ff_155 := Finnrs_134.other W149 (Or.inl ne_t_ib)
    have Ff_156 := FleaOf_134.other W149 (Or.inl ne_t_ib)
    have Ff_157 := Frooot_134.other W149 (Or.inl ne_t_ib)
    have Ff_158 := Fheiht_134.other W149 (Or.inl ne_t_ib)
    have Ff_159 := Fregar_134.other W149 (Or.inl ne_t_ib)
    have Cf_160 := Clb_134.other W149 ne_lb_ib
    have Cf_162 := Clo_134.other W149 (Ne.symm ne_ib_lo)
    have zl149 := Nat.le_trans zl134 (Nat.le_of_eq W149.size.symm)
    have K149 := KK134.wr W149 (Or.inl (List.mem_of_getElem? (i := 2) rfl))
    refine Own.aloadN 293 X149 hx (hb hby d17_292) rfl rfl rfl ?_
    refine Own.getFld 296 X149 hx hZ hown (host := "") (Or.inl (w 14 rfl)) Via.refl e149 Ff_154 (hb hby d17_293) rfl ?_
    intro T163 X163 e163
    refine Own.iload 298 X163 hx (hb hby d17_296) rfl rfl ?_
    refine Own.bipush 300 X163 hx (Own.N 65) (hb hby d17_298) rfl rfl ?_
    refine Own.iadd 301 X163 hx (hb hby d17_300) rfl (Own.N_add _ _) ?_
    refine Own.iload 303 X163 hx (hb hby d17_301) rfl rfl ?_
    refine Own.iadd 304 X163 hx (hb hby d17_303) rfl (Own.N_add _ _) ?_
    refine Own.nLoad 305 (Own.N (own_nd2 (jj / 31))) X163 hx hZ e163 C149 (by omega) (by rw [Own.upd_miss (by omega)]; exact d7) (hb hby d17_304) rfl ?_
    refine Own.istoreNV 306 #[.val (.ref t), .val (.int (Own.N (i))), .val (.int (Own.N (r))), .val (.int (Own.N (own_nd2 (jj / 31)))), .val (.int (Own.N (rs))), .val (.int (Own.N (2))), .val (.int (Own.N (1 * 128))), .val (.int (Own.N (1 - 1))), .val (.int (Own.N (jj / 31)))] X163 hx (hb hby d17_305) rfl rfl ?_
    refine Own.iinc 309 (fun c_164 => #[.val (.ref t), .val (.int (Own.N (i))), .val (.int (Own.N (r))), .val (.int (Own.N (own_nd2 (jj / 31)))), .val (.int (Own.N (rs))), .val (.int c_164), .val (.int (Own.N (1 * 128))), .val (.int (Own.N (1 - 1))), .val (.int (Own.N (jj / 31)))]) X163 hx ((-1 : Int32)) (hb hby d17_306) rfl rfl rfl (fun _ => rfl) fun c_164 hc_164 => ?_
    obtain rfl : c_164 = Own.N (1) := hc_164.trans (by decide)
    refine Own.goto 131 X163 hx (hb hby d17_309) (by decide) ?_
    refine Own.iload 133 X163 hx (hb hby d17_131) rfl rfl ?_
    refine Own.nif_le 312 136 X163 hx (hb hby d17_133) (by decide) rfl (by omega) (fun tk => False.elim (by omega)) (fun tk => ?_)
    refine Own.iloadN 137 X163 hx (hb hby d17_136) rfl rfl ?_
    refine Own.sipush 140 X163 hx (Own.N 128) (hb hby d17_137) rfl rfl ?_
    refine Own.imul 141 X163 hx (hb hby d17_140) rfl (Own.N_mul _ _) ?_
    refine Own.istoreV 143 #[.val (.ref t), .val (.int (Own.N (i))), .val (.int (Own.N (r))), .val (.int (Own.N (own_nd2 (jj / 31)))), .val (.int (Own.N (rs))), .val (.int (Own.N (1))), .val (.int (Own.N ((own_nd2 (jj / 31)) * 128))), .val (.int (Own.N (1 - 1))), .val (.int (Own.N (jj / 31)))] X163 hx (hb hby d17_141) rfl rfl ?_
    refine Own.aloadN 144 X163 hx (hb hby d17_143) rfl rfl rfl ?_
    refine Own.getFld 147 X163 hx hZ hown (host := "") (Or.inl (w 14 rfl)) Via.refl e163 Ff_154 (hb hby d17_144) rfl ?_
    intro T165 X165 e165
    refine Own.iload 149 X165 hx (hb hby d17_147) rfl rfl ?_
    refine Own.iconst 150 X165 hx (Own.N 2) (hb hby d17_149) rfl rfl ?_
    refine Own.iadd 151 X165 hx (hb hby d17_150) rfl (Own.N_add _ _) ?_
    refine Own.nLoad 152 (Own.N (own_st 62 (jj / 31 + 1) - own_st 62 (jj / 31))) X165 hx hZ e165 C149 (by omega) (by rw [Own.upd_miss (by omega)]; exact d5) (hb hby d17_151) rfl ?_
    refine Own.iconst 153 X165 hx (Own.N 1) (hb hby d17_152) rfl rfl ?_
    refine Own.isub 154 X165 hx (hb hby d17_153) rfl (Own.N_sub (by omega)) ?_
    refine Own.istoreV 156 #[.val (.ref t), .val (.int (Own.N (i))), .val (.int (Own.N (r))), .val (.int (Own.N (own_nd2 (jj / 31)))), .val (.int (Own.N (rs))), .val (.int (Own.N (1))), .val (.int (Own.N ((own_nd2 (jj / 31)) * 128))), .val (.int (Own.N ((own_st 62 (jj / 31 + 1) - own_st 62 (jj / 31)) - 1))), .val (.int (Own.N (jj / 31)))] X165 hx (hb hby d17_154) rfl rfl ?_
    refine Own.iconst 157 X165 hx (Own.N 0) (hb hby d17_156) rfl rfl ?_
    refine Own.istoreV 159 #[.val (.ref t), .val (.int (Own.N (i))), .val (.int (Own.N (r))), .val (.int (Own.N (own_nd2 (jj / 31)))), .val (.int (Own.N (rs))), .val (.int (Own.N (1))), .val (.int (Own.N ((own_nd2 (jj / 31)) * 128))), .val (.int (Own.N ((own_st 62 (jj / 31 + 1) - own_st 62 (jj / 31)) - 1))), .val (.int (Own.N (0)))] X165 hx (hb hby d17_157) rfl rfl ?_
    refine J159 (own_nd2 (jj / 31)) 1 (jj % 31) (own_st 62 (jj / 31 + 1) - own_st 62 (jj / 31) - 1) _ _ _ (own_gn pre (jj / 31)) _ _ _ _ ⟨Ef_151, Ff_152, Ff_153, Ff_154, Ff_155, Ff_156, Ff_157, Ff_158, Ff_159, Cf_160, C149, Cf_162⟩ (fun s hs => ⟨by rw [Own.upd_miss (by omega)]; exact (own_G2n P H (c := jj % 31) (by omega) (by omega) s hs).1, (own_G2n P H (c := jj % 31) (by omega) (by omega) s hs).2⟩) (by omega) (by omega) (by omega) (by omega) d2 (by omega) ?_ (jj % 31 + 1) 0 _ (by omega) (by omega) (by omega) _ X165 e165
    intro rs hrs Tq Xq eqq
    refine Own.aloadN 207 Xq hx (hb hby d17_206) rfl rfl rfl ?_
    refine Own.aloadN 208 Xq hx (hb hby d17_207) rfl rfl rfl ?_
    refine Own.getFld 211 Xq hx hZ hown (host := "") (Or.inl (w 14 rfl)) Via.refl eqq Ff_154 (hb hby d17_208) rfl ?_
    intro T166 X166 e166
    refine Own.iload 213 X166 hx (hb hby d17_211) rfl rfl ?_
    refine Own.bipush 215 X166 hx (Own.N 65) (hb hby d17_213) rfl rfl ?_
    refine Own.iadd 216 X166 hx (hb hby d17_215) rfl (Own.N_add _ _) ?_
    refine Own.iload 218 X166 hx (hb hby d17_216) rfl rfl ?_
    refine Own.iadd 219 X166 hx (hb hby d17_218) rfl (Own.N_add _ _) ?_
    refine Own.nLoad 220 (Own.N (jj)) X166 hx hZ e166 C149 (by omega) (by rw [Own.upd_miss (by omega)]; exact u4) (hb hby d17_219) rfl ?_
    refine Own.iload 222 X166 hx (hb hby d17_220) rfl rfl ?_
    refine Own.iconst 223 X166 hx (Own.N 1) (hb hby d17_222) rfl rfl ?_
    refine Own.isub 224 X166 hx (hb hby d17_223) rfl (Own.N_sub (by omega)) ?_
    refine Own.callPr 227 0 t [(.int (Own.N (jj))), (.int (Own.N (1 - 1)))] [] X166 hx hZ hown (m18_0 l Z a0 w t lb ib lo _ _ _ _ _ _ _ _ n0 _ _ _ jj (1 - 1) (pre (jj + 1) - pre jj) _ ⟨Ef_151, Ff_152, Ff_153, Ff_154, Ff_155, Ff_156, Ff_157, Ff_158, Ff_159, Cf_160, C149, Cf_162⟩ (by omega) (by omega) (by omega) (by omega) hsz9 (by omega)) Ef_151 (w 95 rfl) (w 97 rfl) (w 3 rfl) (w 96 rfl) (w 4 rfl) (w 98 rfl) (by decide) e166 (by decide) (by decide) (by decide) (by decide) (by rw [hml]; rfl) (lenOf pd_5 rfl) rfl (Nat.le_of_eq rfl) (hb hby d17_224) rfl ?_
    rintro vv T167 L167 X167 ⟨rfl, hh167, rfl⟩
    have N167 := Fr.app N149 (Fr.nil _)
    refine Own.if_eq 276 230 X167 hx (hb hby d17_227) (by decide) rfl (fun tk => ?_) (fun tk => absurd (if_neg (by omega)) tk)
    refine Own.aloadN 277 X167 hx (hb hby d17_276) rfl rfl rfl ?_
    refine Own.getFld 280 X167 hx hZ hown (host := "") (Or.inl (w 14 rfl)) Via.refl hh167 Ff_154 (hb hby d17_277) rfl ?_
    intro T168 X168 e168
    refine Own.iload 282 X168 hx (hb hby d17_280) rfl rfl ?_
    refine Own.iconst 283 X168 hx (Own.N 3) (hb hby d17_282) rfl rfl ?_
    refine Own.iadd 284 X168 hx (hb hby d17_283) rfl (Own.N_add _ _) ?_
    refine Own.iload 286 X168 hx (hb hby d17_284) rfl rfl ?_
    refine Own.iadd 287 X168 hx (hb hby d17_286) rfl (Own.N_add _ _) ?_
    refine Own.dup2 288 X168 hx (hb hby d17_287) rfl rfl rfl ?_
    refine Own.nLoad 289 (Own.N (pre (jj + 1) - pre jj)) X168 hx hZ e168 C149 (by omega) (by rw [Own.upd_miss (by omega)]; exact u3) (hb hby d17_288) rfl ?_
    refine Own.iconst 290 X168 hx (Own.N 1) (hb hby d17_289) rfl rfl ?_
    refine Own.iadd 291 X168 hx (hb hby d17_290) rfl (Own.N_add _ _) ?_
    refine Own.nStore 292 X168 hx hZ e168 C149 (by omega) (hb hby d17_291) rfl ?_
    intro T169 h169 X169 e169 W169 C169
    have N169 := Fr.snoc X169 N167 g_ib
    have Ef_171 := Ef_151.wr W169
    have Ff_172 := Ff_152.other W169 (Or.inl ne_t_ib)
    have Ff_173 := Ff_153.other W169 (Or.inl ne_t_ib)
    have Ff_174 := Ff_154.other W169 (Or.inl ne_t_ib)
    have Ff_175 := Ff_155.other W169 (Or.inl ne_t_ib)
    have Ff_176 := Ff_156.other W169 (Or.inl ne_t_ib)
    have Ff_177 := Ff_157.other W169 (Or.inl ne_t_ib)
    have Ff_178 := Ff_158.other W169 (Or.inl ne_t_ib)
    have Ff_179 := Ff_159.other W169 (Or.inl ne_t_ib)
    have Cf_180 := Cf_160.other W169 ne_lb_ib
    have Cf_181 := Cf_162.other W169 (Ne.symm ne_ib_lo)
    have zl169 := Nat.le_trans zl149 (Nat.le_of_eq W169.size.symm)
    have K169 := K149.wr W169 (Or.inl (List.mem_of_getElem? (i := 2) rfl))
    refine Own.aloadN 293 X169 hx (hb hby d17_292) rfl rfl rfl ?_
    refine Own.getFld 296 X169 hx hZ hown (host := "") (Or.inl (w 14 rfl)) Via.refl e169 Ff_174 (hb hby d17_293) rfl ?_
    intro T183 X183 e183
    refine Own.iload 298 X183 hx (hb hby d17_296) rfl rfl ?_
    refine Own.bipush 300 X183 hx (Own.N 65) (hb hby d17_298) rfl rfl ?_
    refine Own.iadd 301 X183 hx (hb hby d17_300) rfl (Own.N_add _ _) ?_
    refine Own.iload 303 X183 hx (hb hby d17_301) rfl rfl ?_
    refine Own.iadd 304 X183 hx (hb hby d17_303) rfl (Own.N_add _ _) ?_
    refine Own.nLoad 305 (Own.N (jj)) X183 hx hZ e183 C169 (by omega) (by rw [Own.upd_miss (by omega)]; exact (by rw [Own.upd_miss (by omega)]; exact u4)) (hb hby d17_304) rfl ?_
    refine Own.istoreNV 306 #[.val (.ref t), .val (.int (Own.N (i))), .val (.int (Own.N (r))), .val (.int (Own.N (jj))), .val (.int (Own.N (rs))), .val (.int (Own.N (1))), .val (.int (Own.N ((own_nd2 (jj / 31)) * 128))), .val (.int (Own.N (own_st 62 (jj / 31 + 1) - own_st 62 (jj / 31) - 1))), .val (.int (Own.N (jj % 31)))] X183 hx (hb hby d17_305) rfl rfl ?_
    refine Own.iinc 309 (fun c_184 => #[.val (.ref t), .val (.int (Own.N (i))), .val (.int (Own.N (r))), .val (.int (Own.N (jj))), .val (.int (Own.N (rs))), .val (.int c_184), .val (.int (Own.N ((own_nd2 (jj / 31)) * 128))), .val (.int (Own.N (own_st 62 (jj / 31 + 1) - own_st 62 (jj / 31) - 1))), .val (.int (Own.N (jj % 31)))]) X183 hx ((-1 : Int32)) (hb hby d17_306) rfl rfl rfl (fun _ => rfl) fun c_184 hc_184 => ?_
    obtain rfl : c_184 = Own.N (0) := hc_184.trans (by decide)
    refine Own.goto 131 X183 hx (hb hby d17_309) (by decide) ?_
    refine Own.iload 133 X183 hx (hb hby d17_131) rfl rfl ?_
    refine Own.nif_le 312 136 X183 hx (hb hby d17_133) (by decide) rfl (by omega) (fun tk => ?_) (fun tk => False.elim (by omega))
    refine Own.iloadN 313 X183 hx (hb hby d17_312) rfl rfl ?_
    refine Own.bipush 315 X183 hx (Own.N 64) (hb hby d17_313) rfl rfl ?_
    refine Own.imul 316 X183 hx (hb hby d17_315) rfl (Own.N_mul _ _) ?_
    refine Own.iconst 317 X183 hx (Own.N 3) (hb hby d17_316) rfl rfl ?_
    refine Own.iadd 318 X183 hx (hb hby d17_317) rfl (Own.N_add _ _) ?_
    refine Own.iload 320 X183 hx (hb hby d17_318) rfl rfl ?_
    refine Own.iadd 321 X183 hx (hb hby d17_320) rfl (Own.N_add _ _) ?_
    refine Own.iconst 322 X183 hx (Own.N 1) (hb hby d17_321) rfl rfl ?_
    refine Own.isub 323 X183 hx (hb hby d17_322) rfl (Own.N_sub (by omega)) ?_
    refine Own.istoreV 325 #[.val (.ref t), .val (.int (Own.N (i))), .val (.int (Own.N (r))), .val (.int (Own.N (jj))), .val (.int (Own.N (rs))), .val (.int (Own.N ((((jj * 64) + 3) + rs) - 1))), .val (.int (Own.N ((own_nd2 (jj / 31)) * 128))), .val (.int (Own.N (own_st 62 (jj / 31 + 1) - own_st 62 (jj / 31) - 1))), .val (.int (Own.N (jj % 31)))] X183 hx (hb hby d17_323) rfl rfl ?_
    refine Own.iloadN 326 X183 hx (hb hby d17_325) rfl rfl ?_
    refine Own.bipush 328 X183 hx (Own.N 64) (hb hby d17_326) rfl rfl ?_
    refine Own.imul 329 X183 hx (hb hby d17_328) rfl (Own.N_mul _ _) ?_
    refine Own.iconst 330 X183 hx (Own.N 3) (hb hby d17_329) rfl rfl ?_
    refine Own.iadd 331 X183 hx (hb hby d17_330) rfl (Own.N_add _ _) ?_
    refine Own.aloadN 332 X183 hx (hb hby d17_331) rfl rfl rfl ?_
    refine Own.getFld 335 X183 hx hZ hown (host := "") (Or.inl (w 12 rfl)) Via.refl e183 Ff_172 (hb hby d17_332) rfl ?_
    intro T185 X185 e185
    refine Own.iloadN 336 X185 hx (hb hby d17_335) rfl rfl ?_
    refine Own.bipush 338 X185 hx (Own.N 64) (hb hby d17_336) rfl rfl ?_
    refine Own.imul 339 X185 hx (hb hby d17_338) rfl (Own.N_mul _ _) ?_
    refine Own.iconst 340 X185 hx (Own.N 2) (hb hby d17_339) rfl rfl ?_
    refine Own.iadd 341 X185 hx (hb hby d17_340) rfl (Own.N_add _ _) ?_
    refine Own.nLoad 342 (Own.N (pre (jj + 1) - pre jj)) X185 hx hZ e185 Cf_180 (by omega) hsz9 (hb hby d17_341) rfl ?_
    refine Own.iadd 343 X185 hx (hb hby d17_342) rfl (Own.N_add _ _) ?_
    refine Own.istoreV 345 #[.val (.ref t), .val (.int (Own.N (i))), .val (.int (Own.N (r))), .val (.int (Own.N (jj))), .val (.int (Own.N (rs))), .val (.int (Own.N ((((jj * 64) + 3) + rs) - 1))), .val (.int (Own.N (((jj * 64) + 3) + (pre (jj + 1) - pre jj)))), .val (.int (Own.N (own_st 62 (jj / 31 + 1) - own_st 62 (jj / 31) - 1))), .val (.int (Own.N (jj % 31)))] X185 hx (hb hby d17_343) rfl rfl ?_
    refine Own.aloadN 346 X185 hx (hb hby d17_345) rfl rfl rfl ?_
    refine Own.getFld 349 X185 hx hZ hown (host := "") (Or.inl (w 12 rfl)) Via.refl e185 Ff_172 (hb hby d17_346) rfl ?_
    intro T186 X186 e186
    refine Own.iload 351 X186 hx (hb hby d17_349) rfl rfl ?_
    refine Own.aloadN 352 X186 hx (hb hby d17_351) rfl rfl rfl ?_
    refine Own.getFld 355 X186 hx hZ hown (host := "") (Or.inl (w 12 rfl)) Via.refl e186 Ff_172 (hb hby d17_352) rfl ?_
    intro T187 X187 e187
    refine Own.iload 357 X187 hx (hb hby d17_355) rfl rfl ?_
    refine Own.iconst 358 X187 hx (Own.N 1) (hb hby d17_357) rfl rfl ?_
    refine Own.iadd 359 X187 hx (hb hby d17_358) rfl (Own.N_add _ _) ?_
    refine Own.iload 361 X187 hx (hb hby d17_359) rfl rfl ?_
    refine Own.iload 363 X187 hx (hb hby d17_361) rfl rfl ?_
    refine Own.isub 364 X187 hx (hb hby d17_363) rfl (Own.N_sub (by omega)) ?_
    refine Own.nCopy 367 0 X187 hx hZ hown (w 28 rfl) (w 31 rfl) (w 29 rfl) (w 30 rfl) e187 Cf_180 Cf_180 (by omega) (by omega) N169 g_lb (by rw [hml]; rfl) (hb hby d17_364) rfl (by decide) (Nat.le_of_eq rfl) (by decide) ?_
    intro T188 h188 L188 X188 e188 N188 K188 C188
    have Ef_190 := Ef_171.keep K188
    have Ff_191 := Ff_172.keep K188 (ninS ne_t_lb nin0)
    have Ff_192 := Ff_173.keep K188 (ninS ne_t_lb nin0)
    have Ff_193 := Ff_174.keep K188 (ninS ne_t_lb nin0)
    have Ff_194 := Ff_175.keep K188 (ninS ne_t_lb nin0)
    have Ff_195 := Ff_176.keep K188 (ninS ne_t_lb nin0)
    have Ff_196 := Ff_177.keep K188 (ninS ne_t_lb nin0)
    have Ff_197 := Ff_178.keep K188 (ninS ne_t_lb nin0)
    have Ff_198 := Ff_179.keep K188 (ninS ne_t_lb nin0)
    have Cf_199 := Cf_181.keep K188 (ninS (Ne.symm ne_lb_lo) nin0)
    have Cf_200 := C169.keep K188 (ninS (Ne.symm ne_lb_ib) nin0)
    have KK188 := K169.trans K188 (allS (Or.inl (List.mem_of_getElem? (i := 1) rfl)) all0)
    have zl188 := Nat.le_trans zl169 K188.1
    refine Own.aloadN 368 X188 hx (hb hby d17_367) rfl rfl rfl ?_
    refine Own.getFld 371 X188 hx hZ hown (host := "") (Or.inl (w 12 rfl)) Via.refl e188 Ff_191 (hb hby d17_368) rfl ?_
    intro T201 X201 e201
    refine Own.iload 373 X201 hx (hb hby d17_371) rfl rfl ?_
    refine Own.iloadN 374 X201 hx (hb hby d17_373) rfl rfl ?_
    refine Own.nStore 375 X201 hx hZ e201 C188 (by omega) (hb hby d17_374) rfl ?_
    intro T202 h202 X202 e202 W202 C202
    have N202 := Fr.snoc X202 N188 g_lb
    have Ef_204 := Ef_190.wr W202
    have Ff_205 := Ff_191.other W202 (Or.inl ne_t_lb)
    have Ff_206 := Ff_192.other W202 (Or.inl ne_t_lb)
    have Ff_207 := Ff_193.other W202 (Or.inl ne_t_lb)
    have Ff_208 := Ff_194.other W202 (Or.inl ne_t_lb)
    have Ff_209 := Ff_195.other W202 (Or.inl ne_t_lb)
    have Ff_210 := Ff_196.other W202 (Or.inl ne_t_lb)
    have Ff_211 := Ff_197.other W202 (Or.inl ne_t_lb)
    have Ff_212 := Ff_198.other W202 (Or.inl ne_t_lb)
    have Cf_213 := Cf_199.other W202 (Ne.symm ne_lb_lo)
    have Cf_214 := Cf_200.other W202 (Ne.symm ne_lb_ib)
    have zl202 := Nat.le_trans zl188 (Nat.le_of_eq W202.size.symm)
    have K202 := KK188.wr W202 (Or.inl (List.mem_of_getElem? (i := 1) rfl))
    refine Own.aloadN 376 X202 hx (hb hby d17_375) rfl rfl rfl ?_
    refine Own.getFld 379 X202 hx hZ hown (host := "") (Or.inl (w 12 rfl)) Via.refl e202 Ff_205 (hb hby d17_376) rfl ?_
    intro T216 X216 e216
    refine Own.iloadN 380 X216 hx (hb hby d17_379) rfl rfl ?_
    refine Own.bipush 382 X216 hx (Own.N 64) (hb hby d17_380) rfl rfl ?_
    refine Own.imul 383 X216 hx (hb hby d17_382) rfl (Own.N_mul _ _) ?_
    refine Own.iconst 384 X216 hx (Own.N 2) (hb hby d17_383) rfl rfl ?_
    refine Own.iadd 385 X216 hx (hb hby d17_384) rfl (Own.N_add _ _) ?_
    refine Own.dup2 386 X216 hx (hb hby d17_385) rfl rfl rfl ?_
    refine Own.nLoad 387 (Own.N (pre (jj + 1) - pre jj)) X216 hx hZ e216 C202 (by omega) (by rw [Own.upd_miss (by omega), Own.cpy_out (by omega)]; exact hsz9) (hb hby d17_386) rfl ?_
    refine Own.iconst 388 X216 hx (Own.N 1) (hb hby d17_387) rfl rfl ?_
    refine Own.iadd 389 X216 hx (hb hby d17_388) rfl (Own.N_add _ _) ?_
    refine Own.nStore 390 X216 hx hZ e216 C202 (by omega) (hb hby d17_389) rfl ?_
    intro T217 h217 X217 e217 W217 C217
    have N217 := Fr.snoc X217 N202 g_lb
    have Ef_219 := Ef_204.wr W217
    have Ff_220 := Ff_205.other W217 (Or.inl ne_t_lb)
    have Ff_221 := Ff_206.other W217 (Or.inl ne_t_lb)
    have Ff_222 := Ff_207.other W217 (Or.inl ne_t_lb)
    have Ff_223 := Ff_208.other W217 (Or.inl ne_t_lb)
    have Ff_224 := Ff_209.other W217 (Or.inl ne_t_lb)
    have Ff_225 := Ff_210.other W217 (Or.inl ne_t_lb)
    have Ff_226 := Ff_211.other W217 (Or.inl ne_t_lb)
    have Ff_227 := Ff_212.other W217 (Or.inl ne_t_lb)
    have Cf_228 := Cf_213.other W217 (Ne.symm ne_lb_lo)
    have Cf_229 := Cf_214.other W217 (Ne.symm ne_lb_ib)
    have zl217 := Nat.le_trans zl202 (Nat.le_of_eq W217.size.symm)
    have K217 := K202.wr W217 (Or.inl (List.mem_of_getElem? (i := 1) rfl))
    refine Own.aloadN 391 X217 hx (hb hby d17_390) rfl rfl rfl ?_
    refine Own.getFld 394 X217 hx hZ hown (host := "") (Or.inl (w 16 rfl)) Via.refl e217 Ff_224 (hb hby d17_391) rfl ?_
    intro T231 X231 e231
    refine Own.iloadN 395 X231 hx (hb hby d17_394) rfl rfl ?_
    refine Own.iloadN 396 X231 hx (hb hby d17_395) rfl rfl ?_
    refine Own.nStore 397 X231 hx hZ e231 Cf_228 (by omega) (hb hby d17_396) rfl ?_
    intro T232 h232 X232 e232 W232 C232
    have N232 := Fr.snoc X232 N217 g_lo
    have Ef_234 := Ef_219.wr W232
    have Ff_235 := Ff_220.other W232 (Or.inl ne_t_lo)
    have Ff_236 := Ff_221.other W232 (Or.inl ne_t_lo)
    have Ff_237 := Ff_222.other W232 (Or.inl ne_t_lo)
    have Ff_238 := Ff_223.other W232 (Or.inl ne_t_lo)
    have Ff_239 := Ff_224.other W232 (Or.inl ne_t_lo)
    have Ff_240 := Ff_225.other W232 (Or.inl ne_t_lo)
    have Ff_241 := Ff_226.other W232 (Or.inl ne_t_lo)
    have Ff_242 := Ff_227.other W232 (Or.inl ne_t_lo)
    have Cf_244 := Cf_229.other W232 ne_ib_lo
    have Cf_245 := C217.other W232 ne_lb_lo
    have zl232 := Nat.le_trans zl217 (Nat.le_of_eq W232.size.symm)
    have K232 := K217.wr W232 (Or.inl (List.mem_of_getElem? (i := 3) rfl))
    refine Own.retVoid X232 hx hlk hret (hb hby d17_397) (by decide) (by decide) ?_
    rw [e232]
    exact ⟨rfl, N232, K232, own_inP pre jj, _, _, _, ⟨Ef_234, Ff_235, Ff_236, Ff_237, Ff_238, Ff_239, Ff_240, Ff_241, Ff_242, Cf_245, Cf_244, C232⟩, ⟨own_in_Pr P hj, by omega, hL1, hL2, by omega, Or.inr ⟨rfl, _, _, own_H2_upd H hj (fun j hj' => ⟨by rw [Own.upd_miss (by omega), Own.upd_miss (by omega), Own.cpy_out (by omega)], by rw [Own.upd_miss (by omega), Own.upd_miss (by omega), Own.cpy_out (by omega)]⟩) own_in_dif rfl rfl (fun i' n1 n2 => by rw [Own.upd_miss n1, Own.upd_miss n2]) (by rw [Own.upd_hit rfl, own_inP_at (by omega)]) (by rw [Own.upd_miss (by omega), Own.upd_hit rfl, own_inP_st P hj])⟩, Or.inr rfl, hzI, hzI2, hzL, hzL2⟩, (by have h9 := fun a a1 m b z ha ha1 hm hb hz => own_in_Lf P LF9 (j0 := jj) (k0 := r - 1 - pre jj) (i := i) (a := a) (a1 := a1) (m := m) (b := b) (z := z) hj (by omega) hni ha ha1 hm hb hz (by omega) (w := Own.N jj) rfl; rw [show pre jj + (r - 1 - pre jj) = r - 1 from by omega] at h9; exact h9 _ _ _ _ _ (by omega) (by omega) (by omega) (by omega) (by omega))⟩
  refine Own.iload 241 X134 hx (hb hby d17_239) rfl rfl ?_
  refine Own.aloadN 242 X134 hx (hb hby d17_241) rfl rfl rfl ?_
  refine Own.getFld 245 X134 hx hZ hown (host := "") (Or.inl (w 14 rfl)) Via.refl rfl Finnks_134 (hb hby d17_242) rfl ?_
  intro T246 X246 e246
  refine Own.iload 247 X246 hx (hb hby d17_245) rfl rfl ?_
  refine Own.iconst 248 X246 hx (Own.N 3) (hb hby d17_247) rfl rfl ?_
  refine Own.iadd 249 X246 hx (hb hby d17_248) rfl (Own.N_add _ _) ?_
  refine Own.iload 251 X246 hx (hb hby d17_249) rfl rfl ?_
  refine Own.iadd 252 X246 hx (hb hby d17_251) rfl (Own.N_add _ _) ?_
  refine Own.nLoad 253 (Own.N (pre 31 - 0)) X246 hx hZ e246 Cib_134 (by omega) d60 (hb hby d17_252) rfl ?_
  refine Own.nicmp_le 276 256 X246 hx (hb hby d17_253) (by decide) rfl (by omega) (by omega) (fun tk9 => ?_) (fun tk9 => ?_)
  ·
    have m31 : 31 ≤ jj → pre 31 ≤ pre jj := fun q9 => own_mono P q9 (by omega)
    have j31 : jj < 31 := by
      by_cases q9 : jj < 31
      · exact q9
      · have := m31 (by omega); omega
    exact K276 _ _ (by omega) (by rw [s8, show 31 * (jj / 31) = 0 from by omega, p0]; rfl) _ _ X246 e246 N134
  ·
    have m31 : jj < 31 → pre (jj + 1) ≤ pre 31 := fun q9 => own_mono P (by omega) (by omega)
    have j31 : 31 ≤ jj := by
      by_cases q9 : 31 ≤ jj
      · exact q9
      · have := m31 (by omega); omega
    refine Own.iload 258 X246 hx (hb hby d17_256) rfl rfl ?_
    refine Own.aloadN 259 X246 hx (hb hby d17_258) rfl rfl rfl ?_
    refine Own.getFld 262 X246 hx hZ hown (host := "") (Or.inl (w 14 rfl)) Via.refl e246 Finnks_134 (hb hby d17_259) rfl ?_
    intro T247 X247 e247
    refine Own.iload 264 X247 hx (hb hby d17_262) rfl rfl ?_
    refine Own.iconst 265 X247 hx (Own.N 3) (hb hby d17_264) rfl rfl ?_
    refine Own.iadd 266 X247 hx (hb hby d17_265) rfl (Own.N_add _ _) ?_
    refine Own.iload 268 X247 hx (hb hby d17_266) rfl rfl ?_
    refine Own.iadd 269 X247 hx (hb hby d17_268) rfl (Own.N_add _ _) ?_
    refine Own.nLoad 270 (Own.N (pre 31 - 0)) X247 hx hZ e247 Cib_134 (by omega) d60 (hb hby d17_269) rfl ?_
    refine Own.isub 271 X247 hx (hb hby d17_270) rfl (Own.N_sub (by omega)) ?_
    refine Own.istoreV 273 #[.val (.ref t), .val (.int (Own.N (i))), .val (.int (Own.N (r))), .val (.int (Own.N (1))), .val (.int (Own.N (r - (pre 31 - 0)))), .val (.int (Own.N (2))), .val (.int (Own.N (1 * 128))), .val (.int (Own.N (1 - 1))), .val (.int (Own.N (0)))] X247 hx (hb hby d17_271) rfl rfl ?_
    refine Own.iinc 276 (fun c_248 => #[.val (.ref t), .val (.int (Own.N (i))), .val (.int (Own.N (r))), .val (.int (Own.N (1))), .val (.int (Own.N (r - (pre 31 - 0)))), .val (.int (Own.N (2))), .val (.int (Own.N (1 * 128))), .val (.int (Own.N (1 - 1))), .val (.int c_248)]) X247 hx (Own.N 1) (hb hby d17_273) rfl rfl rfl (fun _ => rfl) fun c_248 hc_248 => ?_
    obtain rfl : c_248 = Own.N (1) := hc_248.trans (by decide)
    exact K276 _ _ (by omega) (by rw [s8, show 31 * (jj / 31) = 31 from by omega]; omega) _ _ X247 e247 N134
theorem d15_0 : decode prog_32_method_5_code 0 = .ok (.aload_n 0, 1) := by decide +kernel
theorem d15_1 : decode prog_32_method_5_code 1 = .ok (.getfield 44, 3) := by decide +kernel
theorem d15_4 : decode prog_32_method_5_code 4 = .ok (.bipush 64, 2) := by decide +kernel
theorem d15_6 : decode prog_32_method_5_code 6 = .ok (.imul, 1) := by decide +kernel
theorem d15_7 : decode prog_32_method_5_code 7 = .ok (.aload_n 0, 1) := by decide +kernel
theorem d15_8 : decode prog_32_method_5_code 8 = .ok (.getfield 19, 3) := by decide +kernel
theorem d15_11 : decode prog_32_method_5_code 11 = .ok (.arraylength, 1) := by decide +kernel
theorem d15_12 : decode prog_32_method_5_code 12 = .ok (.if_icmp .ne 7, 3) := by decide +kernel
theorem d15_19 : decode prog_32_method_5_code 19 = .ok (.aload_n 0, 1) := by decide +kernel
theorem d15_20 : decode prog_32_method_5_code 20 = .ok (.iconst 0, 1) := by decide +kernel
theorem d15_21 : decode prog_32_method_5_code 21 = .ok (.putfield 40, 3) := by decide +kernel
theorem d15_24 : decode prog_32_method_5_code 24 = .ok (.aload_n 0, 1) := by decide +kernel
theorem d15_25 : decode prog_32_method_5_code 25 = .ok (.iload_n 1, 1) := by decide +kernel
theorem d15_26 : decode prog_32_method_5_code 26 = .ok (.invokevirtual 51, 3) := by decide +kernel
theorem d15_29 : decode prog_32_method_5_code 29 = .ok (.aload_n 0, 1) := by decide +kernel
theorem d15_30 : decode prog_32_method_5_code 30 = .ok (.iload_n 1, 1) := by decide +kernel
theorem d15_31 : decode prog_32_method_5_code 31 = .ok (.iload_n 2, 1) := by decide +kernel
theorem d15_32 : decode prog_32_method_5_code 32 = .ok (.invokevirtual 55, 3) := by decide +kernel
theorem d15_35 : decode prog_32_method_5_code 35 = .ok (.return_, 1) := by decide +kernel
set_option maxRecDepth 65536 in
set_option maxHeartbeats 40000000 in
theorem m15 (l : Launch) (Z : State) (a0 : Array Value) (w : ∀ (i : Nat) {d : Jvm.Cond}, tables_1[i]? = some d → d.before a0 Z = true) (t : Addr) (lb ib lo : Addr) (inn rt ht rg zL zI zO n0 : Nat) (fL fI fO : Nat → Int32)(i r q L n' : Nat) (pre ord : Nat → Nat) (h0 : Heap) (Z0 : n0 ≤ h0.size) (D0 : own_D n0 t lb ib lo) (S0 : own_S Z h0 t lb ib lo L inn rt ht rg zL zI zO fL fI fO) (TT : own_T L n' 30 rt ht rg zL zI pre fL fI) (O : own_Or n' zO ord) (Lf : own_Lf L pre ord fL fO) (bz : zO < 1000000) (hq : q < n') (hi : ord q = i) (hr : 1 ≤ r ∧ r ≤ n') (hBt : ((L ≤ 62 ∧ inn = 1 ∧ rt = 0 ∧ ht = 1) ∨ (62 < L ∧ ht = 2))) :
    Own.Met l Z (⟨"com/example/frontrank/frontrank/OrderTree", "move", "(II)V"⟩ : MethodName) prog_32_method_5_code 3 none [] ({ frames := 3, cells := 0, slots := 0, locals := 59 } : Room) #[(.ref t), (.int (Own.N (i))), (.int (Own.N (r)))] h0 (fun v h L' => v = none ∧ Fr n0 L' ∧ Keep h0 h [t, lb, ib, lo] ∧ ∃ pre' fL' fI' fO' inn' rt' ht', own_S Z h t lb ib lo L inn' rt' ht' 0 zL zI zO fL' fI' fO' ∧ own_T L n' 31 rt' ht' 0 zL zI pre' fL' fI' ∧ own_Lf L pre' (own_inO (own_rmO ord q) (r - 1) i) fL' fO') := by
  refine Own.Met.of (plainFor_of_name (by first | (simp [plainName, overriddenIn]; done) | decide +kernel)) ?_
  intro p e s m below meth c T0 hx hby hml hown hnm hret hlk hZ X0 e0
  have hown : s.vm.findClass "com/example/frontrank/frontrank/OrderTree" = some m.cls := hown
  have hml : c.maxLocals = 3 := hml
  have hnm : meth.name = "move" := hnm
  have ef : entryFrame m #[(.ref t), (.int (Own.N (i))), (.int (Own.N (r)))] 3 = mkF m 0 #[.val (.ref t), .val (.int (Own.N (i))), .val (.int (Own.N (r)))] [] := by first | (simp [entryFrame, mkF, argsToLocals, Value.category]; done) | rfl
  rw [ef]
  have N0 := Fr.nil n0
  have D00 := D0
  obtain ⟨ne_t_lb, ne_t_ib, ne_t_lo, ne_lb_ib, ne_lb_lo, ne_ib_lo, g_t, g_lb, g_ib, g_lo⟩ := D0
  obtain ⟨E_0, Fleaks_0, Fleaes_0, Finnks_0, Finnrs_0, FleaOf_0, Frooot_0, Fheiht_0, Fregar_0, Clb_0, Cib_0, Clo_0⟩ := S0
  have TT9 := TT
  obtain ⟨P, hB, hL1, hL2, hn', hT, hR, hzI, hzI2, hzL, hzL2⟩ := TT9
  refine Own.aloadN 1 X0 hx (hb hby d15_0) rfl rfl rfl ?_
  refine Own.getFld 4 X0 hx hZ hown (host := "") (Or.inl (w 22 rfl)) Via.refl e0 Fleaes_0 (hb hby d15_1) rfl ?_
  intro T1 X1 e1
  refine Own.bipush 6 X1 hx (Own.N 64) (hb hby d15_4) rfl rfl ?_
  refine Own.imul 7 X1 hx (hb hby d15_6) rfl (Own.N_mul _ _) ?_
  refine Own.aloadN 8 X1 hx (hb hby d15_7) rfl rfl rfl ?_
  refine Own.getFld 11 X1 hx hZ hown (host := "") (Or.inl (w 12 rfl)) Via.refl e1 Fleaks_0 (hb hby d15_8) rfl ?_
  intro T2 X2 e2
  refine Own.nLen 12 X2 hx hZ e2 Clb_0 (hb hby d15_11) rfl ?_
  refine Own.nicmp_ne 19 15 X2 hx (hb hby d15_12) (by decide) rfl (by omega) (by omega) (fun tk => ?_) (fun tk => False.elim (by omega))
  refine Own.aloadN 20 X2 hx (hb hby d15_19) rfl rfl rfl ?_
  refine Own.iconst 21 X2 hx (Own.N 0) (hb hby d15_20) rfl rfl ?_
  refine Own.putFld 24 X2 hx hZ hown (host := "") (Or.inl (w 46 rfl)) Via.refl e2 Fregar_0 E_0 (Or.inl (w 47 rfl)) (w 3 rfl) (ty := .boolean) (by decide) rfl rfl (hb hby d15_21) rfl ?_
  intro T3 h3 X3 e3 W3
  have N3 := Fr.snoc X3 N0 g_t
  have Ef_5 := E_0.wr W3
  have Ff_6 := Fleaks_0.other W3 (Or.inr (slot_ne (Or.inr (w 13 rfl)) (Or.inl (w 47 rfl)) (by decide) (t := (.array .int)) (t' := .boolean) (by decide) (by decide)))
  have Ff_7 := Fleaes_0.other W3 (Or.inr (slot_ne (Or.inl (w 23 rfl)) (Or.inl (w 47 rfl)) (by decide) (t := .int) (t' := .boolean) (by decide) (by decide)))
  have Ff_8 := Finnks_0.other W3 (Or.inr (slot_ne (Or.inl (w 15 rfl)) (Or.inl (w 47 rfl)) (by decide) (t := (.array .int)) (t' := .boolean) (by decide) (by decide)))
  have Ff_9 := Finnrs_0.other W3 (Or.inr (slot_ne (Or.inl (w 33 rfl)) (Or.inl (w 47 rfl)) (by decide) (t := .int) (t' := .boolean) (by decide) (by decide)))
  have Ff_10 := FleaOf_0.other W3 (Or.inr (slot_ne (Or.inr (w 17 rfl)) (Or.inl (w 47 rfl)) (by decide) (t := (.array .int)) (t' := .boolean) (by decide) (by decide)))
  have Ff_11 := Frooot_0.other W3 (Or.inr (slot_ne (Or.inl (w 45 rfl)) (Or.inl (w 47 rfl)) (by decide) (t := .int) (t' := .boolean) (by decide) (by decide)))
  have Ff_12 := Fheiht_0.other W3 (Or.inr (slot_ne (Or.inl (w 35 rfl)) (Or.inl (w 47 rfl)) (by decide) (t := .int) (t' := .boolean) (by decide) (by decide)))
  have Ff_13 := Fregar_0.same W3
  have Cf_14 := Clb_0.other W3 (Ne.symm ne_t_lb)
  have Cf_15 := Cib_0.other W3 (Ne.symm ne_t_ib)
  have Cf_16 := Clo_0.other W3 (Ne.symm ne_t_lo)
  have zl3 := Nat.le_trans Z0 (Nat.le_of_eq W3.size.symm)
  have K3 := (Keep.refl h0 [t, lb, ib, lo]).wr W3 (Or.inl (List.mem_of_getElem? (i := 0) rfl))
  refine Own.aloadN 25 X3 hx (hb hby d15_24) rfl rfl rfl ?_
  refine Own.iloadN 26 X3 hx (hb hby d15_25) rfl rfl ?_
  refine Own.callPr 29 0 t [(.int (Own.N (i)))] [] X3 hx hZ hown (m16 l Z a0 w t lb ib lo _ _ _ _ _ _ _ n0 _ _ _ i q L n' pre ord _ zl3 D00 ⟨Ef_5, Ff_6, Ff_7, Ff_8, Ff_9, Ff_10, Ff_11, Ff_12, Ff_13, Cf_14, Cf_15, Cf_16⟩ (own_T_rg TT) O Lf bz hq hi) Ef_5 (w 87 rfl) (w 89 rfl) (w 3 rfl) (w 88 rfl) (w 4 rfl) (w 90 rfl) (by decide) e3 (by decide) (by decide) (by decide) (by decide) (by rw [hml]; rfl) (lenOf pd_7 rfl) rfl (Nat.le_of_eq rfl) (hb hby d15_26) rfl ?_
  rintro vv T17 L17 X17 ⟨rfl, N17q, K17, pre1, gL1, gI1, S17, TT1, Lf1⟩
  have N17 := Fr.app N3 N17q
  have Ef_19 := Ef_5.keep K17
  have zl17 := Nat.le_trans zl3 K17.1
  have KK17 := K3.trans K17 (allS (Or.inl (List.mem_of_getElem? (i := 0) rfl)) (allS (Or.inl (List.mem_of_getElem? (i := 1) rfl)) (allS (Or.inl (List.mem_of_getElem? (i := 2) rfl)) (allS (Or.inl (List.mem_of_getElem? (i := 3) rfl)) all0))))
  obtain ⟨E_17, Fleaks_17, Fleaes_17, Finnks_17, Finnrs_17, FleaOf_17, Frooot_17, Fheiht_17, Fregar_17, Clb_17, Cib_17, Clo_17⟩ := S17
  have OR := own_rm_Or O hq
  have hi9 : i < zO := hi ▸ (O q hq).1
  have hn9 : ∀ q', q' < n' - 1 → own_rmO ord q q' ≠ i := fun q' h => hi ▸ OR.2 q' h
  have en : n' - 1 + 1 = n' := by omega
  refine Own.aloadN 30 X17 hx (hb hby d15_29) rfl rfl rfl ?_
  refine Own.iloadN 31 X17 hx (hb hby d15_30) rfl rfl ?_
  refine Own.iloadN 32 X17 hx (hb hby d15_31) rfl rfl ?_
  rcases hBt with ⟨c1, rfl, rfl, rfl⟩ | ⟨c1, rfl⟩
  ·
    by_cases c62 : L = 62
    ·
      subst c62
      refine Own.callPr 35 0 t [(.int (Own.N (i))), (.int (Own.N (r)))] [] X17 hx hZ hown (m17_3 l Z a0 w t lb ib lo _ _ _ _ n0 _ _ _ i r  (n' - 1) pre1 (own_rmO ord q) _ zl17 D00 ⟨E_17, Fleaks_17, Fleaes_17, Finnks_17, Finnrs_17, FleaOf_17, Frooot_17, Fheiht_17, Fregar_17, Clb_17, Cib_17, Clo_17⟩ TT1 OR.1 Lf1 bz hi9 hn9 (by omega) (by omega)) E_17 (w 91 rfl) (w 93 rfl) (w 3 rfl) (w 92 rfl) (w 4 rfl) (w 94 rfl) (by decide) rfl (by decide) (by decide) (by decide) (by decide) (by rw [hml]; rfl) (lenOf pd_8 rfl) rfl (Nat.le_of_eq rfl) (hb hby d15_32) rfl ?_
      rintro vv T31 L31 X31 ⟨rfl, N31q, K31, pre2, gL2, gI2, gO2, S31, TT2, Lf2⟩
      have N31 := Fr.app N17 N31q
      have Ef_33 := E_17.keep K31
      have zl31 := Nat.le_trans zl17 K31.1
      have KK31 := KK17.trans K31 (allS (Or.inl (List.mem_of_getElem? (i := 0) rfl)) (allS (Or.inl (List.mem_of_getElem? (i := 1) rfl)) (allS (Or.inl (List.mem_of_getElem? (i := 2) rfl)) (allS (Or.inl (List.mem_of_getElem? (i := 3) rfl)) all0))))
      obtain ⟨E_31, Fleaks_31, Fleaes_31, Finnks_31, Finnrs_31, FleaOf_31, Frooot_31, Fheiht_31, Fregar_31, Clb_31, Cib_31, Clo_31⟩ := S31
      rw [en] at TT2
      refine Own.retVoid X31 hx hlk hret (hb hby d15_35) (by decide) (by decide) ?_
      exact ⟨rfl, N31, KK31, pre2, gL2, gI2, gO2, _, _, _, ⟨E_31, Fleaks_31, Fleaes_31, Finnks_31, Finnrs_31, FleaOf_31, Frooot_31, Fheiht_31, Fregar_31, Clb_31, Cib_31, Clo_31⟩, TT2, Lf2⟩
    ·
      refine Own.callPr 35 0 t [(.int (Own.N (i))), (.int (Own.N (r)))] [] X17 hx hZ hown (m17_1 l Z a0 w t lb ib lo _ _ _ _ _ _ n0 _ _ _ i r L (n' - 1) pre1 (own_rmO ord q) _ zl17 D00 ⟨E_17, Fleaks_17, Fleaes_17, Finnks_17, Finnrs_17, FleaOf_17, Frooot_17, Fheiht_17, Fregar_17, Clb_17, Cib_17, Clo_17⟩ TT1 OR.1 Lf1 bz hi9 hn9 (by omega) (by omega) c62) E_17 (w 91 rfl) (w 93 rfl) (w 3 rfl) (w 92 rfl) (w 4 rfl) (w 94 rfl) (by decide) rfl (by decide) (by decide) (by decide) (by decide) (by rw [hml]; rfl) (lenOf pd_8 rfl) rfl (Nat.le_of_eq rfl) (hb hby d15_32) rfl ?_
      rintro vv T45 L45 X45 ⟨rfl, N45q, K45, pre2, gL2, gI2, gO2, S45, TT2, Lf2⟩
      have N45 := Fr.app N17 N45q
      have Ef_47 := E_17.keep K45
      have zl45 := Nat.le_trans zl17 K45.1
      have KK45 := KK17.trans K45 (allS (Or.inl (List.mem_of_getElem? (i := 0) rfl)) (allS (Or.inl (List.mem_of_getElem? (i := 1) rfl)) (allS (Or.inl (List.mem_of_getElem? (i := 2) rfl)) (allS (Or.inl (List.mem_of_getElem? (i := 3) rfl)) all0))))
      obtain ⟨E_45, Fleaks_45, Fleaes_45, Finnks_45, Finnrs_45, FleaOf_45, Frooot_45, Fheiht_45, Fregar_45, Clb_45, Cib_45, Clo_45⟩ := S45
      rw [en] at TT2
      refine Own.retVoid X45 hx hlk hret (hb hby d15_35) (by decide) (by decide) ?_
      exact ⟨rfl, N45, KK45, pre2, gL2, gI2, gO2, _, _, _, ⟨E_45, Fleaks_45, Fleaes_45, Finnks_45, Finnrs_45, FleaOf_45, Frooot_45, Fheiht_45, Fregar_45, Clb_45, Cib_45, Clo_45⟩, TT2, Lf2⟩
  ·
    refine Own.callPr 35 0 t [(.int (Own.N (i))), (.int (Own.N (r)))] [] X17 hx hZ hown (m17_2 l Z a0 w t lb ib lo _ _ _ _ _ _ n0 _ _ _ i r L (n' - 1) pre1 (own_rmO ord q) _ zl17 D00 ⟨E_17, Fleaks_17, Fleaes_17, Finnks_17, Finnrs_17, FleaOf_17, Frooot_17, Fheiht_17, Fregar_17, Clb_17, Cib_17, Clo_17⟩ TT1 OR.1 Lf1 bz hi9 hn9 (by omega) (by omega)) E_17 (w 91 rfl) (w 93 rfl) (w 3 rfl) (w 92 rfl) (w 4 rfl) (w 94 rfl) (by decide) rfl (by decide) (by decide) (by decide) (by decide) (by rw [hml]; rfl) (lenOf pd_8 rfl) rfl (Nat.le_of_eq rfl) (hb hby d15_32) rfl ?_
    rintro vv T59 L59 X59 ⟨rfl, N59q, K59, pre2, gL2, gI2, gO2, S59, TT2, Lf2⟩
    have N59 := Fr.app N17 N59q
    have Ef_61 := E_17.keep K59
    have zl59 := Nat.le_trans zl17 K59.1
    have KK59 := KK17.trans K59 (allS (Or.inl (List.mem_of_getElem? (i := 0) rfl)) (allS (Or.inl (List.mem_of_getElem? (i := 1) rfl)) (allS (Or.inl (List.mem_of_getElem? (i := 2) rfl)) (allS (Or.inl (List.mem_of_getElem? (i := 3) rfl)) all0))))
    obtain ⟨E_59, Fleaks_59, Fleaes_59, Finnks_59, Finnrs_59, FleaOf_59, Frooot_59, Fheiht_59, Fregar_59, Clb_59, Cib_59, Clo_59⟩ := S59
    rw [en] at TT2
    refine Own.retVoid X59 hx hlk hret (hb hby d15_35) (by decide) (by decide) ?_
    exact ⟨rfl, N59, KK59, pre2, gL2, gI2, gO2, _, _, _, ⟨E_59, Fleaks_59, Fleaes_59, Finnks_59, Finnrs_59, FleaOf_59, Frooot_59, Fheiht_59, Fregar_59, Clb_59, Cib_59, Clo_59⟩, TT2, Lf2⟩
theorem d1_0 : decode prog_32_method_1_code 0 = .ok (.aload_n 0, 1) := by decide +kernel
theorem d1_1 : decode prog_32_method_1_code 1 = .ok (.invokespecial 3, 3) := by decide +kernel
theorem d1_4 : decode prog_32_method_1_code 4 = .ok (.iload_n 1, 1) := by decide +kernel
theorem d1_5 : decode prog_32_method_1_code 5 = .ok (.iconst 1, 1) := by decide +kernel
theorem d1_6 : decode prog_32_method_1_code 6 = .ok (.if_icmp .lt 9, 3) := by decide +kernel
theorem d1_9 : decode prog_32_method_1_code 9 = .ok (.iload_n 1, 1) := by decide +kernel
theorem d1_10 : decode prog_32_method_1_code 10 = .ok (.ldc 9, 2) := by decide +kernel
theorem d1_12 : decode prog_32_method_1_code 12 = .ok (.if_icmp .le 17, 3) := by decide +kernel
theorem d1_29 : decode prog_32_method_1_code 29 = .ok (.iconst 2, 1) := by decide +kernel
theorem d1_30 : decode prog_32_method_1_code 30 = .ok (.iload_n 1, 1) := by decide +kernel
theorem d1_31 : decode prog_32_method_1_code 31 = .ok (.iconst 1, 1) := by decide +kernel
theorem d1_32 : decode prog_32_method_1_code 32 = .ok (.isub, 1) := by decide +kernel
theorem d1_33 : decode prog_32_method_1_code 33 = .ok (.bipush 30, 2) := by decide +kernel
theorem d1_35 : decode prog_32_method_1_code 35 = .ok (.idiv, 1) := by decide +kernel
theorem d1_36 : decode prog_32_method_1_code 36 = .ok (.iconst 1, 1) := by decide +kernel
theorem d1_37 : decode prog_32_method_1_code 37 = .ok (.iadd, 1) := by decide +kernel
theorem d1_38 : decode prog_32_method_1_code 38 = .ok (.imul, 1) := by decide +kernel
theorem d1_39 : decode prog_32_method_1_code 39 = .ok (.istore_n 2, 1) := by decide +kernel
theorem d1_40 : decode prog_32_method_1_code 40 = .ok (.aload_n 0, 1) := by decide +kernel
theorem d1_41 : decode prog_32_method_1_code 41 = .ok (.iload_n 2, 1) := by decide +kernel
theorem d1_42 : decode prog_32_method_1_code 42 = .ok (.bipush 64, 2) := by decide +kernel
theorem d1_44 : decode prog_32_method_1_code 44 = .ok (.imul, 1) := by decide +kernel
theorem d1_45 : decode prog_32_method_1_code 45 = .ok (.newarray .int, 2) := by decide +kernel
theorem d1_47 : decode prog_32_method_1_code 47 = .ok (.putfield 19, 3) := by decide +kernel
theorem d1_50 : decode prog_32_method_1_code 50 = .ok (.aload_n 0, 1) := by decide +kernel
theorem d1_51 : decode prog_32_method_1_code 51 = .ok (.iload_n 2, 1) := by decide +kernel
theorem d1_52 : decode prog_32_method_1_code 52 = .ok (.bipush 31, 2) := by decide +kernel
theorem d1_54 : decode prog_32_method_1_code 54 = .ok (.idiv, 1) := by decide +kernel
theorem d1_55 : decode prog_32_method_1_code 55 = .ok (.bipush 8, 2) := by decide +kernel
theorem d1_57 : decode prog_32_method_1_code 57 = .ok (.iadd, 1) := by decide +kernel
theorem d1_58 : decode prog_32_method_1_code 58 = .ok (.sipush 128, 3) := by decide +kernel
theorem d1_61 : decode prog_32_method_1_code 61 = .ok (.imul, 1) := by decide +kernel
theorem d1_62 : decode prog_32_method_1_code 62 = .ok (.newarray .int, 2) := by decide +kernel
theorem d1_64 : decode prog_32_method_1_code 64 = .ok (.putfield 23, 3) := by decide +kernel
theorem d1_67 : decode prog_32_method_1_code 67 = .ok (.aload_n 0, 1) := by decide +kernel
theorem d1_68 : decode prog_32_method_1_code 68 = .ok (.iload_n 1, 1) := by decide +kernel
theorem d1_69 : decode prog_32_method_1_code 69 = .ok (.newarray .int, 2) := by decide +kernel
theorem d1_71 : decode prog_32_method_1_code 71 = .ok (.putfield 26, 3) := by decide +kernel
theorem d1_74 : decode prog_32_method_1_code 74 = .ok (.iload_n 1, 1) := by decide +kernel
theorem d1_75 : decode prog_32_method_1_code 75 = .ok (.newarray .int, 2) := by decide +kernel
theorem d1_77 : decode prog_32_method_1_code 77 = .ok (.astore_n 3, 1) := by decide +kernel
theorem d1_78 : decode prog_32_method_1_code 78 = .ok (.iconst 0, 1) := by decide +kernel
theorem d1_79 : decode prog_32_method_1_code 79 = .ok (.istore 4, 2) := by decide +kernel
theorem d1_81 : decode prog_32_method_1_code 81 = .ok (.iload 4, 2) := by decide +kernel
theorem d1_83 : decode prog_32_method_1_code 83 = .ok (.iload_n 1, 1) := by decide +kernel
theorem d1_84 : decode prog_32_method_1_code 84 = .ok (.if_icmp .ge 15, 3) := by decide +kernel
theorem d1_87 : decode prog_32_method_1_code 87 = .ok (.aload_n 3, 1) := by decide +kernel
theorem d1_88 : decode prog_32_method_1_code 88 = .ok (.iload 4, 2) := by decide +kernel
theorem d1_90 : decode prog_32_method_1_code 90 = .ok (.iload 4, 2) := by decide +kernel
theorem d1_92 : decode prog_32_method_1_code 92 = .ok (.iastore, 1) := by decide +kernel
theorem d1_93 : decode prog_32_method_1_code 93 = .ok (.iinc 4 1, 3) := by decide +kernel
theorem d1_96 : decode prog_32_method_1_code 96 = .ok (.goto (-15), 3) := by decide +kernel
theorem d1_99 : decode prog_32_method_1_code 99 = .ok (.aload_n 0, 1) := by decide +kernel
theorem d1_100 : decode prog_32_method_1_code 100 = .ok (.aload_n 3, 1) := by decide +kernel
theorem d1_101 : decode prog_32_method_1_code 101 = .ok (.invokevirtual 29, 3) := by decide +kernel
theorem d1_104 : decode prog_32_method_1_code 104 = .ok (.return_, 1) := by decide +kernel
set_option maxRecDepth 65536 in
set_option maxHeartbeats 40000000 in
theorem m1 (l : Launch) (Z : State) (a0 : Array Value) (w : ∀ (i : Nat) {d : Jvm.Cond}, tables_1[i]? = some d → d.before a0 Z = true) (t : Addr) (n n0 : Nat) (h0 : Heap) (Z0 : n0 ≤ h0.size) (g_t : n0 ≤ t) (E_t : Exa Z h0 t "com/example/frontrank/frontrank/OrderTree") (F_leafBlocks : Fld Z h0 t "com/example/frontrank/frontrank/OrderTree" "leafBlocks" "[I" .null) (F_leaves : Fld Z h0 t "com/example/frontrank/frontrank/OrderTree" "leaves" "I" (.int (0 : Int32))) (F_innerBlocks : Fld Z h0 t "com/example/frontrank/frontrank/OrderTree" "innerBlocks" "[I" .null) (F_inners : Fld Z h0 t "com/example/frontrank/frontrank/OrderTree" "inners" "I" (.int (0 : Int32))) (F_leafOf : Fld Z h0 t "com/example/frontrank/frontrank/OrderTree" "leafOf" "[I" .null) (F_root : Fld Z h0 t "com/example/frontrank/frontrank/OrderTree" "root" "I" (.int (0 : Int32))) (F_height : Fld Z h0 t "com/example/frontrank/frontrank/OrderTree" "height" "I" (.int (0 : Int32))) (F_regular : Fld Z h0 t "com/example/frontrank/frontrank/OrderTree" "regular" "Z" (.int (0 : Int32))) (hn : 1 ≤ n ∧ n ≤ 4096) :
    Own.Met l Z (⟨"com/example/frontrank/frontrank/OrderTree", "<init>", "(I)V"⟩ : MethodName) prog_32_method_1_code 5 none [] ({ frames := 2, cells := 4, slots := 27776, locals := 41 } : Room) #[(.ref t), (.int (Own.N (n)))] h0 (fun v h L' => v = none ∧ Fr n0 L' ∧ Keep h0 h [t] ∧ ∃ lb ib lo inn rt ht zL zI L gL gI gO, own_D n0 t lb ib lo ∧ h0.size ≤ lb ∧ h0.size ≤ ib ∧ h0.size ≤ lo ∧ own_S Z h t lb ib lo L inn rt ht 1 zL zI n gL gI gO ∧ own_T L n 30 rt ht 1 zL zI (own_pb n) gL gI ∧ own_Lf L (own_pb n) (fun q => q) gL gO ∧ L = (n - 1) / 30 + 1 ∧ ((L ≤ 62 ∧ inn = 1 ∧ rt = 0 ∧ ht = 1) ∨ (62 < L ∧ ht = 2))) := by
  refine Own.Met.of (plainFor_of_name (by first | (simp [plainName, overriddenIn]; done) | decide +kernel)) ?_
  intro p e s m below meth c T0 hx hby hml hown hnm hret hlk hZ X0 e0
  have hown : s.vm.findClass "com/example/frontrank/frontrank/OrderTree" = some m.cls := hown
  have hml : c.maxLocals = 5 := hml
  have hnm : meth.name = "<init>" := hnm
  have ef : entryFrame m #[(.ref t), (.int (Own.N (n)))] 5 = mkF m 0 #[.val (.ref t), .val (.int (Own.N (n))), .unset, .unset, .unset] [] := by first | (simp [entryFrame, mkF, argsToLocals, Value.category]; done) | rfl
  rw [ef]
  have N0 := Fr.nil n0
  refine Own.aloadN 1 X0 hx (hb hby d1_0) rfl rfl rfl ?_
  refine Own.initObj 4 0 X0 hx hZ hown (w 8 rfl) (w 9 rfl) (w 10 rfl) e0 (by rw [hml]; rfl) (hb hby d1_1) rfl (by decide) (Nat.le_of_eq rfl) (by decide) ?_
  intro T1 X1 e1
  refine Own.iloadN 5 X1 hx (hb hby d1_4) rfl rfl ?_
  refine Own.iconst 6 X1 hx (Own.N 1) (hb hby d1_5) rfl rfl ?_
  refine Own.nicmp_lt 15 9 X1 hx (hb hby d1_6) (by decide) rfl (by omega) (by omega) (fun tk => False.elim (by omega)) (fun tk => ?_)
  refine Own.iloadN 10 X1 hx (hb hby d1_9) rfl rfl ?_
  refine Own.ldcInt 12 X1 hx hZ (Own.N 268435456) hown (w 11 rfl) (hb hby d1_10) rfl ?_
  refine Own.nicmp_le 29 15 X1 hx (hb hby d1_12) (by decide) rfl (by omega) (by omega) (fun tk => ?_) (fun tk => False.elim (by omega))
  refine Own.iconst 30 X1 hx (Own.N 2) (hb hby d1_29) rfl rfl ?_
  refine Own.iloadN 31 X1 hx (hb hby d1_30) rfl rfl ?_
  refine Own.iconst 32 X1 hx (Own.N 1) (hb hby d1_31) rfl rfl ?_
  refine Own.isub 33 X1 hx (hb hby d1_32) rfl (Own.N_sub (by omega)) ?_
  refine Own.bipush 35 X1 hx (Own.N 30) (hb hby d1_33) rfl rfl ?_
  refine Own.idiv 36 X1 hx (hb hby d1_35) rfl (by decide) (Own.N_div (by omega) (by omega)) ?_
  refine Own.iconst 37 X1 hx (Own.N 1) (hb hby d1_36) rfl rfl ?_
  refine Own.iadd 38 X1 hx (hb hby d1_37) rfl (Own.N_add _ _) ?_
  refine Own.imul 39 X1 hx (hb hby d1_38) rfl (Own.N_mul _ _) ?_
  refine Own.istoreNV 40 #[.val (.ref t), .val (.int (Own.N (n))), .val (.int (Own.N (2 * (((n - 1) / 30) + 1)))), .unset, .unset] X1 hx (hb hby d1_39) rfl rfl ?_
  refine Own.aloadN 41 X1 hx (hb hby d1_40) rfl rfl rfl ?_
  refine Own.iloadN 42 X1 hx (hb hby d1_41) rfl rfl ?_
  refine Own.bipush 44 X1 hx (Own.N 64) (hb hby d1_42) rfl rfl ?_
  refine Own.imul 45 X1 hx (hb hby d1_44) rfl (Own.N_mul _ _) ?_
  refine Own.nNew 47 17536 X1 hx hZ (w 1 rfl) e1 (by omega) (by decide) (hb hby d1_45) rfl (by decide) (by decide) ?_
  intro T2 h2 lb z2 X2 e2 E2 C2
  have ne_t_lb : t ≠ lb := Nat.ne_of_lt (Nat.lt_of_lt_of_le E_t.lt (Nat.le_of_eq z2.symm))
  have g_lb : n0 ≤ lb := Nat.le_trans Z0 (Nat.le_of_eq z2.symm)
  have sz_lb : h0.size ≤ lb := Nat.le_trans (Keep.refl h0 [t]).1 (Nat.le_of_eq z2.symm)
  have K2 := (Keep.refl h0 [t]).ext E2
  have Ef_4 := E_t.ext E2
  have Ff_5 := F_leafBlocks.ext E2
  have Ff_6 := F_leaves.ext E2
  have Ff_7 := F_innerBlocks.ext E2
  have Ff_8 := F_inners.ext E2
  have Ff_9 := F_leafOf.ext E2
  have Ff_10 := F_root.ext E2
  have Ff_11 := F_height.ext E2
  have Ff_12 := F_regular.ext E2
  have zl2 := Nat.le_trans Z0 E2.1
  refine Own.putFld 50 X2 hx hZ hown (host := "") (Or.inl (w 12 rfl)) Via.refl e2 Ff_5 Ef_4 (Or.inr ⟨(w 13 rfl), rfl, hnm⟩) (w 3 rfl) (ty := (.array .int)) (by decide) rfl rfl (hb hby d1_47) rfl ?_
  intro T13 h13 X13 e13 W13
  have N13 := Fr.snoc X13 N0 g_t
  have Ef_15 := Ef_4.wr W13
  have Ff_16 := Ff_5.same W13
  have Ff_17 := Ff_6.other W13 (Or.inr (slot_ne (Or.inl (w 23 rfl)) (Or.inr (w 13 rfl)) (by decide) (t := .int) (t' := (.array .int)) (by decide) (by decide)))
  have Ff_18 := Ff_7.other W13 (Or.inr (slot_ne (Or.inl (w 15 rfl)) (Or.inr (w 13 rfl)) (by decide) (t := (.array .int)) (t' := (.array .int)) (by decide) (by decide)))
  have Ff_19 := Ff_8.other W13 (Or.inr (slot_ne (Or.inl (w 33 rfl)) (Or.inr (w 13 rfl)) (by decide) (t := .int) (t' := (.array .int)) (by decide) (by decide)))
  have Ff_20 := Ff_9.other W13 (Or.inr (slot_ne (Or.inr (w 17 rfl)) (Or.inr (w 13 rfl)) (by decide) (t := (.array .int)) (t' := (.array .int)) (by decide) (by decide)))
  have Ff_21 := Ff_10.other W13 (Or.inr (slot_ne (Or.inl (w 45 rfl)) (Or.inr (w 13 rfl)) (by decide) (t := .int) (t' := (.array .int)) (by decide) (by decide)))
  have Ff_22 := Ff_11.other W13 (Or.inr (slot_ne (Or.inl (w 35 rfl)) (Or.inr (w 13 rfl)) (by decide) (t := .int) (t' := (.array .int)) (by decide) (by decide)))
  have Ff_23 := Ff_12.other W13 (Or.inr (slot_ne (Or.inl (w 47 rfl)) (Or.inr (w 13 rfl)) (by decide) (t := .boolean) (t' := (.array .int)) (by decide) (by decide)))
  have Cf_24 := C2.other W13 (Ne.symm ne_t_lb)
  have zl13 := Nat.le_trans zl2 (Nat.le_of_eq W13.size.symm)
  have K13 := K2.wr W13 (Or.inl (List.mem_of_getElem? (i := 0) rfl))
  refine Own.aloadN 51 X13 hx (hb hby d1_50) rfl rfl rfl ?_
  refine Own.iloadN 52 X13 hx (hb hby d1_51) rfl rfl ?_
  refine Own.bipush 54 X13 hx (Own.N 31) (hb hby d1_52) rfl rfl ?_
  refine Own.idiv 55 X13 hx (hb hby d1_54) rfl (by decide) (Own.N_div (by omega) (by omega)) ?_
  refine Own.bipush 57 X13 hx (Own.N 8) (hb hby d1_55) rfl rfl ?_
  refine Own.iadd 58 X13 hx (hb hby d1_57) rfl (Own.N_add _ _) ?_
  refine Own.sipush 61 X13 hx (Own.N 128) (hb hby d1_58) rfl rfl ?_
  refine Own.imul 62 X13 hx (hb hby d1_61) rfl (Own.N_mul _ _) ?_
  refine Own.nNew 64 2048 X13 hx hZ (w 1 rfl) e13 (by omega) (by decide) (hb hby d1_62) rfl (by decide) (by decide) ?_
  intro T25 h25 ib z25 X25 e25 E25 C25
  have ne_lb_ib : lb ≠ ib := Nat.ne_of_lt (Nat.lt_of_lt_of_le Cf_24.lt (Nat.le_of_eq z25.symm))
  have ne_t_ib : t ≠ ib := Nat.ne_of_lt (Nat.lt_of_lt_of_le Ef_15.lt (Nat.le_of_eq z25.symm))
  have g_ib : n0 ≤ ib := Nat.le_trans zl13 (Nat.le_of_eq z25.symm)
  have sz_ib : h0.size ≤ ib := Nat.le_trans K13.1 (Nat.le_of_eq z25.symm)
  have K25 := K13.ext E25
  have Ef_27 := Ef_15.ext E25
  have Ff_28 := Ff_16.ext E25
  have Ff_29 := Ff_17.ext E25
  have Ff_30 := Ff_18.ext E25
  have Ff_31 := Ff_19.ext E25
  have Ff_32 := Ff_20.ext E25
  have Ff_33 := Ff_21.ext E25
  have Ff_34 := Ff_22.ext E25
  have Ff_35 := Ff_23.ext E25
  have Cf_36 := Cf_24.ext E25
  have zl25 := Nat.le_trans zl13 E25.1
  refine Own.putFld 67 X25 hx hZ hown (host := "") (Or.inl (w 14 rfl)) Via.refl e25 Ff_30 Ef_27 (Or.inl (w 15 rfl)) (w 3 rfl) (ty := (.array .int)) (by decide) rfl rfl (hb hby d1_64) rfl ?_
  intro T37 h37 X37 e37 W37
  have N37 := Fr.snoc X37 N13 g_t
  have Ef_39 := Ef_27.wr W37
  have Ff_40 := Ff_28.other W37 (Or.inr (slot_ne (Or.inr (w 13 rfl)) (Or.inl (w 15 rfl)) (by decide) (t := (.array .int)) (t' := (.array .int)) (by decide) (by decide)))
  have Ff_41 := Ff_29.other W37 (Or.inr (slot_ne (Or.inl (w 23 rfl)) (Or.inl (w 15 rfl)) (by decide) (t := .int) (t' := (.array .int)) (by decide) (by decide)))
  have Ff_42 := Ff_30.same W37
  have Ff_43 := Ff_31.other W37 (Or.inr (slot_ne (Or.inl (w 33 rfl)) (Or.inl (w 15 rfl)) (by decide) (t := .int) (t' := (.array .int)) (by decide) (by decide)))
  have Ff_44 := Ff_32.other W37 (Or.inr (slot_ne (Or.inr (w 17 rfl)) (Or.inl (w 15 rfl)) (by decide) (t := (.array .int)) (t' := (.array .int)) (by decide) (by decide)))
  have Ff_45 := Ff_33.other W37 (Or.inr (slot_ne (Or.inl (w 45 rfl)) (Or.inl (w 15 rfl)) (by decide) (t := .int) (t' := (.array .int)) (by decide) (by decide)))
  have Ff_46 := Ff_34.other W37 (Or.inr (slot_ne (Or.inl (w 35 rfl)) (Or.inl (w 15 rfl)) (by decide) (t := .int) (t' := (.array .int)) (by decide) (by decide)))
  have Ff_47 := Ff_35.other W37 (Or.inr (slot_ne (Or.inl (w 47 rfl)) (Or.inl (w 15 rfl)) (by decide) (t := .boolean) (t' := (.array .int)) (by decide) (by decide)))
  have Cf_48 := Cf_36.other W37 (Ne.symm ne_t_lb)
  have Cf_49 := C25.other W37 (Ne.symm ne_t_ib)
  have zl37 := Nat.le_trans zl25 (Nat.le_of_eq W37.size.symm)
  have K37 := K25.wr W37 (Or.inl (List.mem_of_getElem? (i := 0) rfl))
  refine Own.aloadN 68 X37 hx (hb hby d1_67) rfl rfl rfl ?_
  refine Own.iloadN 69 X37 hx (hb hby d1_68) rfl rfl ?_
  refine Own.nNew 71 4096 X37 hx hZ (w 1 rfl) e37 (by omega) (by decide) (hb hby d1_69) rfl (by decide) (by decide) ?_
  intro T50 h50 lo z50 X50 e50 E50 C50
  have ne_ib_lo : ib ≠ lo := Nat.ne_of_lt (Nat.lt_of_lt_of_le Cf_49.lt (Nat.le_of_eq z50.symm))
  have ne_lb_lo : lb ≠ lo := Nat.ne_of_lt (Nat.lt_of_lt_of_le Cf_48.lt (Nat.le_of_eq z50.symm))
  have ne_t_lo : t ≠ lo := Nat.ne_of_lt (Nat.lt_of_lt_of_le Ef_39.lt (Nat.le_of_eq z50.symm))
  have g_lo : n0 ≤ lo := Nat.le_trans zl37 (Nat.le_of_eq z50.symm)
  have sz_lo : h0.size ≤ lo := Nat.le_trans K37.1 (Nat.le_of_eq z50.symm)
  have K50 := K37.ext E50
  have Ef_52 := Ef_39.ext E50
  have Ff_53 := Ff_40.ext E50
  have Ff_54 := Ff_41.ext E50
  have Ff_55 := Ff_42.ext E50
  have Ff_56 := Ff_43.ext E50
  have Ff_57 := Ff_44.ext E50
  have Ff_58 := Ff_45.ext E50
  have Ff_59 := Ff_46.ext E50
  have Ff_60 := Ff_47.ext E50
  have Cf_61 := Cf_48.ext E50
  have Cf_62 := Cf_49.ext E50
  have zl50 := Nat.le_trans zl37 E50.1
  refine Own.putFld 74 X50 hx hZ hown (host := "") (Or.inl (w 16 rfl)) Via.refl e50 Ff_57 Ef_52 (Or.inr ⟨(w 17 rfl), rfl, hnm⟩) (w 3 rfl) (ty := (.array .int)) (by decide) rfl rfl (hb hby d1_71) rfl ?_
  intro T63 h63 X63 e63 W63
  have N63 := Fr.snoc X63 N37 g_t
  have Ef_65 := Ef_52.wr W63
  have Ff_66 := Ff_53.other W63 (Or.inr (slot_ne (Or.inr (w 13 rfl)) (Or.inr (w 17 rfl)) (by decide) (t := (.array .int)) (t' := (.array .int)) (by decide) (by decide)))
  have Ff_67 := Ff_54.other W63 (Or.inr (slot_ne (Or.inl (w 23 rfl)) (Or.inr (w 17 rfl)) (by decide) (t := .int) (t' := (.array .int)) (by decide) (by decide)))
  have Ff_68 := Ff_55.other W63 (Or.inr (slot_ne (Or.inl (w 15 rfl)) (Or.inr (w 17 rfl)) (by decide) (t := (.array .int)) (t' := (.array .int)) (by decide) (by decide)))
  have Ff_69 := Ff_56.other W63 (Or.inr (slot_ne (Or.inl (w 33 rfl)) (Or.inr (w 17 rfl)) (by decide) (t := .int) (t' := (.array .int)) (by decide) (by decide)))
  have Ff_70 := Ff_57.same W63
  have Ff_71 := Ff_58.other W63 (Or.inr (slot_ne (Or.inl (w 45 rfl)) (Or.inr (w 17 rfl)) (by decide) (t := .int) (t' := (.array .int)) (by decide) (by decide)))
  have Ff_72 := Ff_59.other W63 (Or.inr (slot_ne (Or.inl (w 35 rfl)) (Or.inr (w 17 rfl)) (by decide) (t := .int) (t' := (.array .int)) (by decide) (by decide)))
  have Ff_73 := Ff_60.other W63 (Or.inr (slot_ne (Or.inl (w 47 rfl)) (Or.inr (w 17 rfl)) (by decide) (t := .boolean) (t' := (.array .int)) (by decide) (by decide)))
  have Cf_74 := Cf_61.other W63 (Ne.symm ne_t_lb)
  have Cf_75 := Cf_62.other W63 (Ne.symm ne_t_ib)
  have Cf_76 := C50.other W63 (Ne.symm ne_t_lo)
  have zl63 := Nat.le_trans zl50 (Nat.le_of_eq W63.size.symm)
  have K63 := K50.wr W63 (Or.inl (List.mem_of_getElem? (i := 0) rfl))
  refine Own.iloadN 75 X63 hx (hb hby d1_74) rfl rfl ?_
  refine Own.nNew 77 4096 X63 hx hZ (w 1 rfl) e63 (by omega) (by decide) (hb hby d1_75) rfl (by decide) (by decide) ?_
  intro T77 h77 it z77 X77 e77 E77 C77
  have ne_ib_it : ib ≠ it := Nat.ne_of_lt (Nat.lt_of_lt_of_le Cf_75.lt (Nat.le_of_eq z77.symm))
  have ne_lb_it : lb ≠ it := Nat.ne_of_lt (Nat.lt_of_lt_of_le Cf_74.lt (Nat.le_of_eq z77.symm))
  have ne_lo_it : lo ≠ it := Nat.ne_of_lt (Nat.lt_of_lt_of_le Cf_76.lt (Nat.le_of_eq z77.symm))
  have ne_t_it : t ≠ it := Nat.ne_of_lt (Nat.lt_of_lt_of_le Ef_65.lt (Nat.le_of_eq z77.symm))
  have g_it : n0 ≤ it := Nat.le_trans zl63 (Nat.le_of_eq z77.symm)
  have sz_it : h0.size ≤ it := Nat.le_trans K63.1 (Nat.le_of_eq z77.symm)
  have K77 := K63.ext E77
  have Ef_79 := Ef_65.ext E77
  have Ff_80 := Ff_66.ext E77
  have Ff_81 := Ff_67.ext E77
  have Ff_82 := Ff_68.ext E77
  have Ff_83 := Ff_69.ext E77
  have Ff_84 := Ff_70.ext E77
  have Ff_85 := Ff_71.ext E77
  have Ff_86 := Ff_72.ext E77
  have Ff_87 := Ff_73.ext E77
  have Cf_88 := Cf_74.ext E77
  have Cf_89 := Cf_75.ext E77
  have Cf_90 := Cf_76.ext E77
  have zl77 := Nat.le_trans zl63 E77.1
  refine Own.astoreN 78 #[.val (.ref t), .val (.int (Own.N (n))), .val (.int (Own.N (2 * (((n - 1) / 30) + 1)))), .val (.ref it), .unset] X77 hx (hb hby d1_77) rfl rfl rfl ?_
  refine Own.iconst 79 X77 hx (Own.N 0) (hb hby d1_78) rfl rfl ?_
  refine Own.istoreV 81 #[.val (.ref t), .val (.int (Own.N (n))), .val (.int (Own.N (2 * (((n - 1) / 30) + 1)))), .val (.ref it), .val (.int (Own.N (0)))] X77 hx (hb hby d1_79) rfl rfl ?_
  have D00 : own_D n0 t lb ib lo := ⟨ne_t_lb, ne_t_ib, ne_t_lo, ne_lb_ib, ne_lb_lo, ne_ib_lo, g_t, g_lb, g_ib, g_lo⟩
  have JF : ∀ (kk i9 : Nat) (gT : Nat → Int32) (Tq : State) (Lq : List Loc) (hq : Heap) (Xq : Stand p l e ({ frames := 2, cells := 4, slots := 27776, locals := 41 } : Room) s m #[(.ref t), (.int (Own.N (n)))] below meth c Tq Lq 4 27776) (eqq : Tq.heap = hq) (Nq : Fr n0 Lq) (Kq : Keep h0 hq [t]) (Sq : own_S Z hq t lb ib lo 0 0 0 0 0 ((2 * (((n - 1) / 30) + 1)) * 64) ((((2 * (((n - 1) / 30) + 1)) / 31) + 8) * 128) n (fun _ => 0) (fun _ => 0) (fun _ => 0)) (Ct : Own.Arf Z hq it n gT) (hT : ∀ z, z < i9 → gT z = Own.N z) (h9 : i9 ≤ n) (hk : n - i9 < kk), Own.Ends p.tables e below (fun v h L' => v = none ∧ Fr n0 L' ∧ Keep h0 h [t] ∧ ∃ lb ib lo inn rt ht zL zI L gL gI gO, own_D n0 t lb ib lo ∧ h0.size ≤ lb ∧ h0.size ≤ ib ∧ h0.size ≤ lo ∧ own_S Z h t lb ib lo L inn rt ht 1 zL zI n gL gI gO ∧ own_T L n 30 rt ht 1 zL zI (own_pb n) gL gI ∧ own_Lf L (own_pb n) (fun q => q) gL gO ∧ L = (n - 1) / 30 + 1 ∧ ((L ≤ 62 ∧ inn = 1 ∧ rt = 0 ∧ ht = 1) ∨ (62 < L ∧ ht = 2))) (Own.FE s ({ frames := 2, cells := 4, slots := 27776, locals := 41 } : Room).cells ({ frames := 2, cells := 4, slots := 27776, locals := 41 } : Room).slots) (Tq.setTop (mkF m 81 #[.val (.ref t), .val (.int (Own.N (n))), .val (.int (Own.N (2 * (((n - 1) / 30) + 1)))), .val (.ref it), .val (.int (Own.N (i9)))] [])) := by
    intro kk
    induction kk with
    | zero => intros; exfalso; omega
    | succ kk ih =>
      intro i9 gT Tq Lq hq Xq eqq Nq Kq Sq Ct hT h9 hk
      have zlq := Nat.le_trans Z0 Kq.1
      obtain ⟨E_91, Fleaks_91, Fleaes_91, Finnks_91, Finnrs_91, FleaOf_91, Frooot_91, Fheiht_91, Fregar_91, Clb_91, Cib_91, Clo_91⟩ := Sq
      refine Own.iload 83 Xq hx (hb hby d1_81) rfl rfl ?_
      refine Own.iloadN 84 Xq hx (hb hby d1_83) rfl rfl ?_
      refine Own.nicmp_ge 99 87 Xq hx (hb hby d1_84) (by decide) rfl (by omega) (by omega) (fun tk => ?_) (fun tk => ?_)
      ·
        refine Own.aloadN 100 Xq hx (hb hby d1_99) rfl rfl rfl ?_
        refine Own.aloadN 101 Xq hx (hb hby d1_100) rfl rfl rfl ?_
        have e9 : i9 = n := by omega
        rw [e9] at hT
        obtain ⟨L, hL⟩ : ∃ L, L = (n - 1) / 30 + 1 := ⟨_, rfl⟩
        by_cases c62 : L ≤ 62
        ·
          refine Own.callPr 104 0 t [(.ref it)] [] Xq hx hZ hown (m3_1 l Z a0 w t it lb ib lo 0 0 0 0 0 _ _ _ n0 _ _ _ n L gT _ zlq D00 ⟨E_91, Fleaks_91, Fleaes_91, Finnks_91, Finnrs_91, FleaOf_91, Frooot_91, Fheiht_91, Fregar_91, Clb_91, Cib_91, Clo_91⟩ hL (by omega) rfl (by omega) (by omega) Ct hT ⟨(Ne.symm ne_t_it), (Ne.symm ne_lb_it), (Ne.symm ne_ib_it), (Ne.symm ne_lo_it)⟩ (by omega)) E_91 (w 18 rfl) (w 20 rfl) (w 3 rfl) (w 19 rfl) (w 4 rfl) (w 21 rfl) (by decide) eqq (by decide) (by decide) (by decide) (by decide) (by rw [hml]; rfl) (lenOf pd_9 rfl) rfl (Nat.le_of_eq rfl) (hb hby d1_101) rfl ?_
          rintro vv T92 L92 X92 ⟨rfl, N92q, K92, gL, gI, gO, S92, TT, LF⟩
          have N92 := Fr.app Nq N92q
          have Ef_94 := E_91.keep K92
          have Cf_103 := Ct.keep K92 (ninS (Ne.symm ne_t_it) (ninS (Ne.symm ne_lb_it) (ninS (Ne.symm ne_ib_it) (ninS (Ne.symm ne_lo_it) nin0))))
          have zl92 := Nat.le_trans zlq K92.1
          have KK92 := Kq.trans K92 (allS (Or.inl (List.mem_of_getElem? (i := 0) rfl)) (allS (Or.inr sz_lb) (allS (Or.inr sz_ib) (allS (Or.inr sz_lo) all0))))
          refine Own.retVoid X92 hx hlk hret (hb hby d1_104) (by decide) (by decide) ?_
          exact ⟨rfl, N92, KK92, lb, ib, lo, _, _, _, _, _, L, gL, gI, gO, D00, sz_lb, sz_ib, sz_lo, S92, TT, LF, hL, Or.inl ⟨c62, rfl, rfl, rfl⟩⟩
        ·
          refine Own.callPr 104 0 t [(.ref it)] [] Xq hx hZ hown (m3_2 l Z a0 w t it lb ib lo 0 0 0 0 0 _ _ _ n0 _ _ _ n L gT _ zlq D00 ⟨E_91, Fleaks_91, Fleaes_91, Finnks_91, Finnrs_91, FleaOf_91, Frooot_91, Fheiht_91, Fregar_91, Clb_91, Cib_91, Clo_91⟩ hL (by omega) rfl (by omega) (by omega) Ct hT ⟨(Ne.symm ne_t_it), (Ne.symm ne_lb_it), (Ne.symm ne_ib_it), (Ne.symm ne_lo_it)⟩ (by omega)) E_91 (w 18 rfl) (w 20 rfl) (w 3 rfl) (w 19 rfl) (w 4 rfl) (w 21 rfl) (by decide) eqq (by decide) (by decide) (by decide) (by decide) (by rw [hml]; rfl) (lenOf pd_9 rfl) rfl (Nat.le_of_eq rfl) (hb hby d1_101) rfl ?_
          rintro vv T107 L107 X107 ⟨rfl, N107q, K107, gL, gI, gO, S107, TT, LF⟩
          have N107 := Fr.app Nq N107q
          have Ef_109 := E_91.keep K107
          have Cf_118 := Ct.keep K107 (ninS (Ne.symm ne_t_it) (ninS (Ne.symm ne_lb_it) (ninS (Ne.symm ne_ib_it) (ninS (Ne.symm ne_lo_it) nin0))))
          have zl107 := Nat.le_trans zlq K107.1
          have KK107 := Kq.trans K107 (allS (Or.inl (List.mem_of_getElem? (i := 0) rfl)) (allS (Or.inr sz_lb) (allS (Or.inr sz_ib) (allS (Or.inr sz_lo) all0))))
          refine Own.retVoid X107 hx hlk hret (hb hby d1_104) (by decide) (by decide) ?_
          exact ⟨rfl, N107, KK107, lb, ib, lo, _, _, _, _, _, L, gL, gI, gO, D00, sz_lb, sz_ib, sz_lo, S107, TT, LF, hL, Or.inr ⟨by omega, rfl⟩⟩
      ·
        refine Own.aloadN 88 Xq hx (hb hby d1_87) rfl rfl rfl ?_
        refine Own.iload 90 Xq hx (hb hby d1_88) rfl rfl ?_
        refine Own.iload 92 Xq hx (hb hby d1_90) rfl rfl ?_
        refine Own.nStore 93 Xq hx hZ eqq Ct (by omega) (hb hby d1_92) rfl ?_
        intro T122 h122 X122 e122 W122 C122
        have N122 := Fr.snoc X122 Nq g_it
        have Ef_124 := E_91.wr W122
        have Ff_125 := Fleaks_91.other W122 (Or.inl ne_t_it)
        have Ff_126 := Fleaes_91.other W122 (Or.inl ne_t_it)
        have Ff_127 := Finnks_91.other W122 (Or.inl ne_t_it)
        have Ff_128 := Finnrs_91.other W122 (Or.inl ne_t_it)
        have Ff_129 := FleaOf_91.other W122 (Or.inl ne_t_it)
        have Ff_130 := Frooot_91.other W122 (Or.inl ne_t_it)
        have Ff_131 := Fheiht_91.other W122 (Or.inl ne_t_it)
        have Ff_132 := Fregar_91.other W122 (Or.inl ne_t_it)
        have Cf_134 := Clb_91.other W122 ne_lb_it
        have Cf_135 := Cib_91.other W122 ne_ib_it
        have Cf_136 := Clo_91.other W122 ne_lo_it
        have zl122 := Nat.le_trans zlq (Nat.le_of_eq W122.size.symm)
        have K122 := Kq.wr W122 (Or.inr sz_it)
        refine Own.iinc 96 (fun c_137 => #[.val (.ref t), .val (.int (Own.N (n))), .val (.int (Own.N (2 * (((n - 1) / 30) + 1)))), .val (.ref it), .val (.int c_137)]) X122 hx (Own.N 1) (hb hby d1_93) rfl rfl rfl (fun _ => rfl) fun c_137 hc_137 => ?_
        obtain rfl : c_137 = Own.N (i9 + 1) := hc_137.trans (Own.N_add _ _)
        refine Own.goto 81 X122 hx (hb hby d1_96) (by decide) ?_
        exact ih (i9 + 1) _ _ _ _ X122 e122 N122 K122 ⟨Ef_124, Ff_125, Ff_126, Ff_127, Ff_128, Ff_129, Ff_130, Ff_131, Ff_132, Cf_134, Cf_135, Cf_136⟩ C122 (fun z hz => by
            by_cases c9 : z = i9
            · rw [Own.upd_hit c9, c9]
            · rw [Own.upd_miss c9]; exact hT z (by omega)) (by omega) (by omega)
  exact JF (n + 1) 0 _ _ _ _ X77 e77 N63 K77 ⟨Ef_79, Ff_80, Ff_81, Ff_82, Ff_83, Ff_84, Ff_85, Ff_86, Ff_87, Cf_88, Cf_89, Cf_90⟩ C77 (fun z hz => absurd hz (by omega)) (by omega) (by omega)
theorem own_nes {a b : Nat} (h : ¬ a = b) (ha : 1 ≤ a) (hb : 1 ≤ b) : a - 1 ≠ b - 1 := by omega
set_option maxRecDepth 65536 in
set_option maxHeartbeats 40000000 in
theorem law_1 (l : Launch) (Z : State) (a0 : Array Value) (w : ∀ (i : Nat) {d : Jvm.Cond}, tables_1[i]? = some d → d.before a0 Z = true) (x0 x1 x2 x3 x4 x5 : Int32) (n0 : Nat) (p : Program) (e : Env) (s : State) (m : MethodId) (below : List Frame) (meth : Method) (c : Code) (hx : p.tables.exec = Jvm.exec) (hby : c.code = code) (hml : c.maxLocals = 21) (hown : s.vm.findClass "com/example/frontrank/frontrank/OrderTreeRotatePinLaw" = some m.cls) (hret : meth.sig.returnType = some .boolean) (hlk : meth.locks = false) (hZ : Z.Warmed39 s.vm) (n mv qq im r' p1 p2 p3 : Nat) (hn : 1 ≤ n ∧ n ≤ 4096) (hmv : mv < 2) (hqq : 1 ≤ qq ∧ qq ≤ n) (him : im < n) (hr' : 1 ≤ r' ∧ r' ≤ n) (hp1 : 1 ≤ p1 ∧ p1 ≤ n) (hp2 : 1 ≤ p2 ∧ p2 ≤ n) (hp3 : 1 ≤ p3 ∧ p3 ≤ n) (h0 : Heap) (T0 : State) (X0 : Stand p l e room_1 s m #[(.int x0), (.int x1), (.int x2), (.int x3), (.int x4), (.int x5)] below meth c T0 [] 0 0) (e0 : T0.heap = h0) (Z0 : n0 ≤ h0.size) :
    Own.Ends p.tables e below (fun v h L => v = some (.int 1) ∧ Fr n0 L) (Own.FE s room_1.cells room_1.slots) (T0.setTop (mkF m 95 #[.val (.int x0), .val (.int x1), .val (.int x2), .val (.int x3), .val (.int x4), .val (.int x5), .val (.int (Own.N (n))), .val (.int (Own.N (mv))), .val (.int (Own.N (1))), .val (.int (Own.N (qq))), .val (.int (Own.N (im))), .val (.int (Own.N (r'))), .val (.int (Own.N (p1))), .val (.int (Own.N (p2))), .val (.int (Own.N (p3))), .unset, .unset, .unset, .unset, .unset, .unset] [])) := by
  have N0 := Fr.nil n0
  refine Own.iload 97 X0 hx (hb hby at_95) rfl rfl ?_
  refine Own.iconst 98 X0 hx (Own.N 2) (hb hby at_97) rfl rfl ?_
  refine Own.nicmp_lt 110 101 X0 hx (hb hby at_98) (by decide) rfl (by omega) (by omega) (fun tk => ?_) (fun tk => False.elim (by omega))
  refine Own.iload 112 X0 hx (hb hby at_110) rfl rfl ?_
  refine Own.iconst 113 X0 hx (Own.N 3) (hb hby at_112) rfl rfl ?_
  refine Own.nicmp_ne 132 116 X0 hx (hb hby at_113) (by decide) rfl (by omega) (by omega) (fun tk => ?_) (fun tk => False.elim (by omega))
  refine Own.iconst 133 X0 hx (Own.N 1) (hb hby at_132) rfl rfl ?_
  refine Own.nNew 135 1 X0 hx hZ (w 1 rfl) e0 (by omega) (by decide) (hb hby at_133) rfl (by decide) (by decide) ?_
  intro T1 h1 on z1 X1 e1 E1 C1
  have g_on : n0 ≤ on := Nat.le_trans Z0 (Nat.le_of_eq z1.symm)
  have zl1 := Nat.le_trans Z0 E1.1
  refine Own.dup 136 X1 hx (hb hby at_135) rfl rfl ?_
  refine Own.iconst 137 X1 hx (Own.N 0) (hb hby at_136) rfl rfl ?_
  refine Own.iload 139 X1 hx (hb hby at_137) rfl rfl ?_
  refine Own.nStore 140 X1 hx hZ e1 C1 (by omega) (hb hby at_139) rfl ?_
  intro T3 h3 X3 e3 W3 C3
  have N3 := Fr.snoc X3 N0 g_on
  have zl3 := Nat.le_trans zl1 (Nat.le_of_eq W3.size.symm)
  refine Own.astore 142 #[.val (.int x0), .val (.int x1), .val (.int x2), .val (.int x3), .val (.int x4), .val (.int x5), .val (.int (Own.N (n))), .val (.int (Own.N (mv))), .val (.int (Own.N (1))), .val (.int (Own.N (qq))), .val (.int (Own.N (im))), .val (.int (Own.N (r'))), .val (.int (Own.N (p1))), .val (.int (Own.N (p2))), .val (.int (Own.N (p3))), .val (.ref on), .unset, .unset, .unset, .unset, .unset] X3 hx (hb hby at_140) rfl rfl rfl ?_
  refine Own.iconst 143 X3 hx (Own.N 2) (hb hby at_142) rfl rfl ?_
  refine Own.nNew 145 2 X3 hx hZ (w 1 rfl) e3 (by omega) (by decide) (hb hby at_143) rfl (by decide) (by decide) ?_
  intro T6 h6 tw z6 X6 e6 E6 C6
  have ne_on_tw : on ≠ tw := Nat.ne_of_lt (Nat.lt_of_lt_of_le C3.lt (Nat.le_of_eq z6.symm))
  have g_tw : n0 ≤ tw := Nat.le_trans zl3 (Nat.le_of_eq z6.symm)
  have Cf_8 := C3.ext E6
  have zl6 := Nat.le_trans zl3 E6.1
  refine Own.dup 146 X6 hx (hb hby at_145) rfl rfl ?_
  refine Own.iconst 147 X6 hx (Own.N 0) (hb hby at_146) rfl rfl ?_
  refine Own.iload 149 X6 hx (hb hby at_147) rfl rfl ?_
  refine Own.nStore 150 X6 hx hZ e6 C6 (by omega) (hb hby at_149) rfl ?_
  intro T9 h9 X9 e9 W9 C9
  have N9 := Fr.snoc X9 N3 g_tw
  have Cf_11 := Cf_8.other W9 ne_on_tw
  have zl9 := Nat.le_trans zl6 (Nat.le_of_eq W9.size.symm)
  refine Own.dup 151 X9 hx (hb hby at_150) rfl rfl ?_
  refine Own.iconst 152 X9 hx (Own.N 1) (hb hby at_151) rfl rfl ?_
  refine Own.iload 154 X9 hx (hb hby at_152) rfl rfl ?_
  refine Own.nStore 155 X9 hx hZ e9 C9 (by omega) (hb hby at_154) rfl ?_
  intro T13 h13 X13 e13 W13 C13
  have N13 := Fr.snoc X13 N9 g_tw
  have Cf_15 := Cf_11.other W13 ne_on_tw
  have zl13 := Nat.le_trans zl9 (Nat.le_of_eq W13.size.symm)
  refine Own.astore 157 #[.val (.int x0), .val (.int x1), .val (.int x2), .val (.int x3), .val (.int x4), .val (.int x5), .val (.int (Own.N (n))), .val (.int (Own.N (mv))), .val (.int (Own.N (1))), .val (.int (Own.N (qq))), .val (.int (Own.N (im))), .val (.int (Own.N (r'))), .val (.int (Own.N (p1))), .val (.int (Own.N (p2))), .val (.int (Own.N (p3))), .val (.ref on), .val (.ref tw), .unset, .unset, .unset, .unset] X13 hx (hb hby at_155) rfl rfl rfl ?_
  refine Own.iconst 158 X13 hx (Own.N 3) (hb hby at_157) rfl rfl ?_
  refine Own.nNew 160 3 X13 hx hZ (w 1 rfl) e13 (by omega) (by decide) (hb hby at_158) rfl (by decide) (by decide) ?_
  intro T17 h17 th z17 X17 e17 E17 C17
  have ne_on_th : on ≠ th := Nat.ne_of_lt (Nat.lt_of_lt_of_le Cf_15.lt (Nat.le_of_eq z17.symm))
  have ne_tw_th : tw ≠ th := Nat.ne_of_lt (Nat.lt_of_lt_of_le C13.lt (Nat.le_of_eq z17.symm))
  have g_th : n0 ≤ th := Nat.le_trans zl13 (Nat.le_of_eq z17.symm)
  have Cf_19 := Cf_15.ext E17
  have Cf_20 := C13.ext E17
  have zl17 := Nat.le_trans zl13 E17.1
  refine Own.dup 161 X17 hx (hb hby at_160) rfl rfl ?_
  refine Own.iconst 162 X17 hx (Own.N 0) (hb hby at_161) rfl rfl ?_
  refine Own.iload 164 X17 hx (hb hby at_162) rfl rfl ?_
  refine Own.nStore 165 X17 hx hZ e17 C17 (by omega) (hb hby at_164) rfl ?_
  intro T21 h21 X21 e21 W21 C21
  have N21 := Fr.snoc X21 N13 g_th
  have Cf_23 := Cf_19.other W21 ne_on_th
  have Cf_24 := Cf_20.other W21 ne_tw_th
  have zl21 := Nat.le_trans zl17 (Nat.le_of_eq W21.size.symm)
  refine Own.dup 166 X21 hx (hb hby at_165) rfl rfl ?_
  refine Own.iconst 167 X21 hx (Own.N 1) (hb hby at_166) rfl rfl ?_
  refine Own.iload 169 X21 hx (hb hby at_167) rfl rfl ?_
  refine Own.nStore 170 X21 hx hZ e21 C21 (by omega) (hb hby at_169) rfl ?_
  intro T26 h26 X26 e26 W26 C26
  have N26 := Fr.snoc X26 N21 g_th
  have Cf_28 := Cf_23.other W26 ne_on_th
  have Cf_29 := Cf_24.other W26 ne_tw_th
  have zl26 := Nat.le_trans zl21 (Nat.le_of_eq W26.size.symm)
  refine Own.dup 171 X26 hx (hb hby at_170) rfl rfl ?_
  refine Own.iconst 172 X26 hx (Own.N 2) (hb hby at_171) rfl rfl ?_
  refine Own.iload 174 X26 hx (hb hby at_172) rfl rfl ?_
  refine Own.nStore 175 X26 hx hZ e26 C26 (by omega) (hb hby at_174) rfl ?_
  intro T31 h31 X31 e31 W31 C31
  have N31 := Fr.snoc X31 N26 g_th
  have Cf_33 := Cf_28.other W31 ne_on_th
  have Cf_34 := Cf_29.other W31 ne_tw_th
  have zl31 := Nat.le_trans zl26 (Nat.le_of_eq W31.size.symm)
  refine Own.astore 177 #[.val (.int x0), .val (.int x1), .val (.int x2), .val (.int x3), .val (.int x4), .val (.int x5), .val (.int (Own.N (n))), .val (.int (Own.N (mv))), .val (.int (Own.N (1))), .val (.int (Own.N (qq))), .val (.int (Own.N (im))), .val (.int (Own.N (r'))), .val (.int (Own.N (p1))), .val (.int (Own.N (p2))), .val (.int (Own.N (p3))), .val (.ref on), .val (.ref tw), .val (.ref th), .unset, .unset, .unset] X31 hx (hb hby at_175) rfl rfl rfl ?_
  refine Own.bipush 179 X31 hx (Own.N 7) (hb hby at_177) rfl rfl ?_
  refine Own.nNew 181 7 X31 hx hZ (w 1 rfl) e31 (by omega) (by decide) (hb hby at_179) rfl (by decide) (by decide) ?_
  intro T36 h36 ca z36 X36 e36 E36 C36
  have ne_on_ca : on ≠ ca := Nat.ne_of_lt (Nat.lt_of_lt_of_le Cf_33.lt (Nat.le_of_eq z36.symm))
  have ne_th_ca : th ≠ ca := Nat.ne_of_lt (Nat.lt_of_lt_of_le C31.lt (Nat.le_of_eq z36.symm))
  have ne_tw_ca : tw ≠ ca := Nat.ne_of_lt (Nat.lt_of_lt_of_le Cf_34.lt (Nat.le_of_eq z36.symm))
  have g_ca : n0 ≤ ca := Nat.le_trans zl31 (Nat.le_of_eq z36.symm)
  have Cf_38 := Cf_33.ext E36
  have Cf_39 := Cf_34.ext E36
  have Cf_40 := C31.ext E36
  have zl36 := Nat.le_trans zl31 E36.1
  refine Own.dup 182 X36 hx (hb hby at_181) rfl rfl ?_
  refine Own.iconst 183 X36 hx (Own.N 0) (hb hby at_182) rfl rfl ?_
  refine Own.iload 185 X36 hx (hb hby at_183) rfl rfl ?_
  refine Own.nStore 186 X36 hx hZ e36 C36 (by omega) (hb hby at_185) rfl ?_
  intro T41 h41 X41 e41 W41 C41
  have N41 := Fr.snoc X41 N31 g_ca
  have Cf_43 := Cf_38.other W41 ne_on_ca
  have Cf_44 := Cf_39.other W41 ne_tw_ca
  have Cf_45 := Cf_40.other W41 ne_th_ca
  have zl41 := Nat.le_trans zl36 (Nat.le_of_eq W41.size.symm)
  refine Own.dup 187 X41 hx (hb hby at_186) rfl rfl ?_
  refine Own.iconst 188 X41 hx (Own.N 1) (hb hby at_187) rfl rfl ?_
  refine Own.iload 190 X41 hx (hb hby at_188) rfl rfl ?_
  refine Own.nStore 191 X41 hx hZ e41 C41 (by omega) (hb hby at_190) rfl ?_
  intro T47 h47 X47 e47 W47 C47
  have N47 := Fr.snoc X47 N41 g_ca
  have Cf_49 := Cf_43.other W47 ne_on_ca
  have Cf_50 := Cf_44.other W47 ne_tw_ca
  have Cf_51 := Cf_45.other W47 ne_th_ca
  have zl47 := Nat.le_trans zl41 (Nat.le_of_eq W47.size.symm)
  refine Own.dup 192 X47 hx (hb hby at_191) rfl rfl ?_
  refine Own.iconst 193 X47 hx (Own.N 2) (hb hby at_192) rfl rfl ?_
  refine Own.iload 195 X47 hx (hb hby at_193) rfl rfl ?_
  refine Own.nStore 196 X47 hx hZ e47 C47 (by omega) (hb hby at_195) rfl ?_
  intro T53 h53 X53 e53 W53 C53
  have N53 := Fr.snoc X53 N47 g_ca
  have Cf_55 := Cf_49.other W53 ne_on_ca
  have Cf_56 := Cf_50.other W53 ne_tw_ca
  have Cf_57 := Cf_51.other W53 ne_th_ca
  have zl53 := Nat.le_trans zl47 (Nat.le_of_eq W53.size.symm)
  refine Own.dup 197 X53 hx (hb hby at_196) rfl rfl ?_
  refine Own.iconst 198 X53 hx (Own.N 3) (hb hby at_197) rfl rfl ?_
  refine Own.iload 200 X53 hx (hb hby at_198) rfl rfl ?_
  refine Own.nStore 201 X53 hx hZ e53 C53 (by omega) (hb hby at_200) rfl ?_
  intro T59 h59 X59 e59 W59 C59
  have N59 := Fr.snoc X59 N53 g_ca
  have Cf_61 := Cf_55.other W59 ne_on_ca
  have Cf_62 := Cf_56.other W59 ne_tw_ca
  have Cf_63 := Cf_57.other W59 ne_th_ca
  have zl59 := Nat.le_trans zl53 (Nat.le_of_eq W59.size.symm)
  refine Own.dup 202 X59 hx (hb hby at_201) rfl rfl ?_
  refine Own.iconst 203 X59 hx (Own.N 4) (hb hby at_202) rfl rfl ?_
  refine Own.iload 205 X59 hx (hb hby at_203) rfl rfl ?_
  refine Own.nStore 206 X59 hx hZ e59 C59 (by omega) (hb hby at_205) rfl ?_
  intro T65 h65 X65 e65 W65 C65
  have N65 := Fr.snoc X65 N59 g_ca
  have Cf_67 := Cf_61.other W65 ne_on_ca
  have Cf_68 := Cf_62.other W65 ne_tw_ca
  have Cf_69 := Cf_63.other W65 ne_th_ca
  have zl65 := Nat.le_trans zl59 (Nat.le_of_eq W65.size.symm)
  refine Own.dup 207 X65 hx (hb hby at_206) rfl rfl ?_
  refine Own.iconst 208 X65 hx (Own.N 5) (hb hby at_207) rfl rfl ?_
  refine Own.iload 210 X65 hx (hb hby at_208) rfl rfl ?_
  refine Own.nStore 211 X65 hx hZ e65 C65 (by omega) (hb hby at_210) rfl ?_
  intro T71 h71 X71 e71 W71 C71
  have N71 := Fr.snoc X71 N65 g_ca
  have Cf_73 := Cf_67.other W71 ne_on_ca
  have Cf_74 := Cf_68.other W71 ne_tw_ca
  have Cf_75 := Cf_69.other W71 ne_th_ca
  have zl71 := Nat.le_trans zl65 (Nat.le_of_eq W71.size.symm)
  refine Own.dup 212 X71 hx (hb hby at_211) rfl rfl ?_
  refine Own.bipush 214 X71 hx (Own.N 6) (hb hby at_212) rfl rfl ?_
  refine Own.iload 216 X71 hx (hb hby at_214) rfl rfl ?_
  refine Own.nStore 217 X71 hx hZ e71 C71 (by omega) (hb hby at_216) rfl ?_
  intro T77 h77 X77 e77 W77 C77
  have N77 := Fr.snoc X77 N71 g_ca
  have Cf_79 := Cf_73.other W77 ne_on_ca
  have Cf_80 := Cf_74.other W77 ne_tw_ca
  have Cf_81 := Cf_75.other W77 ne_th_ca
  have zl77 := Nat.le_trans zl71 (Nat.le_of_eq W77.size.symm)
  refine Own.astore 219 #[.val (.int x0), .val (.int x1), .val (.int x2), .val (.int x3), .val (.int x4), .val (.int x5), .val (.int (Own.N (n))), .val (.int (Own.N (mv))), .val (.int (Own.N (1))), .val (.int (Own.N (qq))), .val (.int (Own.N (im))), .val (.int (Own.N (r'))), .val (.int (Own.N (p1))), .val (.int (Own.N (p2))), .val (.int (Own.N (p3))), .val (.ref on), .val (.ref tw), .val (.ref th), .val (.ref ca), .unset, .unset] X77 hx (hb hby at_217) rfl rfl rfl ?_
  refine Own.newObj 222 X77 hx hZ hown (w 2 rfl) (w 3 rfl) (w 4 rfl) e77 (hb hby at_219) rfl (by decide) (by decide) ?_
  intro T83 h83 t z83 X83 e83 E83 A83 D83
  have ne_ca_t : ca ≠ t := Nat.ne_of_lt (Nat.lt_of_lt_of_le C77.lt (Nat.le_of_eq z83.symm))
  have ne_on_t : on ≠ t := Nat.ne_of_lt (Nat.lt_of_lt_of_le Cf_79.lt (Nat.le_of_eq z83.symm))
  have ne_th_t : th ≠ t := Nat.ne_of_lt (Nat.lt_of_lt_of_le Cf_81.lt (Nat.le_of_eq z83.symm))
  have ne_tw_t : tw ≠ t := Nat.ne_of_lt (Nat.lt_of_lt_of_le Cf_80.lt (Nat.le_of_eq z83.symm))
  have g_t : n0 ≤ t := Nat.le_trans zl77 (Nat.le_of_eq z83.symm)
  have Cf_85 := Cf_79.ext E83
  have Cf_86 := Cf_80.ext E83
  have Cf_87 := Cf_81.ext E83
  have Cf_88 := C77.ext E83
  have zl83 := Nat.le_trans zl77 E83.1
  have F83_leafBlocks : Fld Z h83 t "com/example/frontrank/frontrank/OrderTree" "leafBlocks" "[I" .null := D83 (Or.inr (w 13 rfl)) (ty := (.array .int)) (by decide)
  have F83_innerBlocks : Fld Z h83 t "com/example/frontrank/frontrank/OrderTree" "innerBlocks" "[I" .null := D83 (Or.inl (w 15 rfl)) (ty := (.array .int)) (by decide)
  have F83_leafOf : Fld Z h83 t "com/example/frontrank/frontrank/OrderTree" "leafOf" "[I" .null := D83 (Or.inr (w 17 rfl)) (ty := (.array .int)) (by decide)
  have F83_leaves : Fld Z h83 t "com/example/frontrank/frontrank/OrderTree" "leaves" "I" (.int (0 : Int32)) := D83 (Or.inl (w 23 rfl)) (ty := .int) (by decide)
  have F83_inners : Fld Z h83 t "com/example/frontrank/frontrank/OrderTree" "inners" "I" (.int (0 : Int32)) := D83 (Or.inl (w 33 rfl)) (ty := .int) (by decide)
  have F83_height : Fld Z h83 t "com/example/frontrank/frontrank/OrderTree" "height" "I" (.int (0 : Int32)) := D83 (Or.inl (w 35 rfl)) (ty := .int) (by decide)
  have F83_root : Fld Z h83 t "com/example/frontrank/frontrank/OrderTree" "root" "I" (.int (0 : Int32)) := D83 (Or.inl (w 45 rfl)) (ty := .int) (by decide)
  have F83_regular : Fld Z h83 t "com/example/frontrank/frontrank/OrderTree" "regular" "Z" (.int (0 : Int32)) := D83 (Or.inl (w 47 rfl)) (ty := .boolean) (by decide)
  refine Own.dup 223 X83 hx (hb hby at_222) rfl rfl ?_
  refine Own.iload 225 X83 hx (hb hby at_223) rfl rfl ?_
  refine Own.callInit 228 1 t [(.int (Own.N (n)))] [(.ref t)] X83 hx hZ hown (m1 l Z a0 w t n n0 _ zl83 g_t A83 F83_leafBlocks F83_leaves F83_innerBlocks F83_inners F83_leafOf F83_root F83_height F83_regular (by omega)) rfl (w 5 rfl) (w 6 rfl) (w 4 rfl) (w 7 rfl) (by decide) e83 (by decide) (by decide) (by decide) (by decide) (by rw [hml]; rfl) (lenOf pd_7 rfl) rfl (Nat.le_of_eq rfl) (hb hby at_225) rfl ?_
  rintro vv T89 L89 X89 ⟨rfl, N89q, K89, lb, ib, lo, inn, rt, ht, zL, zI, L, gL, gI, gO, D01, sz1, sz2, sz3, S89, TT, LF, hLn, BT⟩
  have ne_on_lb : on ≠ lb := Nat.ne_of_lt (Nat.lt_of_lt_of_le Cf_85.lt sz1)
  have ne_on_ib : on ≠ ib := Nat.ne_of_lt (Nat.lt_of_lt_of_le Cf_85.lt sz2)
  have ne_on_lo : on ≠ lo := Nat.ne_of_lt (Nat.lt_of_lt_of_le Cf_85.lt sz3)
  have ne_tw_lb : tw ≠ lb := Nat.ne_of_lt (Nat.lt_of_lt_of_le Cf_86.lt sz1)
  have ne_tw_ib : tw ≠ ib := Nat.ne_of_lt (Nat.lt_of_lt_of_le Cf_86.lt sz2)
  have ne_tw_lo : tw ≠ lo := Nat.ne_of_lt (Nat.lt_of_lt_of_le Cf_86.lt sz3)
  have ne_th_lb : th ≠ lb := Nat.ne_of_lt (Nat.lt_of_lt_of_le Cf_87.lt sz1)
  have ne_th_ib : th ≠ ib := Nat.ne_of_lt (Nat.lt_of_lt_of_le Cf_87.lt sz2)
  have ne_th_lo : th ≠ lo := Nat.ne_of_lt (Nat.lt_of_lt_of_le Cf_87.lt sz3)
  have ne_ca_lb : ca ≠ lb := Nat.ne_of_lt (Nat.lt_of_lt_of_le Cf_88.lt sz1)
  have ne_ca_ib : ca ≠ ib := Nat.ne_of_lt (Nat.lt_of_lt_of_le Cf_88.lt sz2)
  have ne_ca_lo : ca ≠ lo := Nat.ne_of_lt (Nat.lt_of_lt_of_le Cf_88.lt sz3)
  have N89 := Fr.app N77 N89q
  have Ef_91 := A83.keep K89
  have Cf_100 := Cf_85.keep K89 (ninS ne_on_t nin0)
  have Cf_101 := Cf_86.keep K89 (ninS ne_tw_t nin0)
  have Cf_102 := Cf_87.keep K89 (ninS ne_th_t nin0)
  have Cf_103 := Cf_88.keep K89 (ninS ne_ca_t nin0)
  have zl89 := Nat.le_trans zl83 K89.1
  obtain ⟨E_89, Fleaks_89, Fleaes_89, Finnks_89, Finnrs_89, FleaOf_89, Frooot_89, Fheiht_89, Fregar_89, Clb_89, Cib_89, Clo_89⟩ := S89
  obtain ⟨ne_t_lb, ne_t_ib, ne_t_lo, ne_lb_ib, ne_lb_lo, ne_ib_lo, g_t9, g_lb, g_ib, g_lo⟩ := id D01
  have OR : own_Or n n (own_od mv im r') := own_od_Or (by omega) (by omega)
  refine Own.astore 230 #[.val (.int x0), .val (.int x1), .val (.int x2), .val (.int x3), .val (.int x4), .val (.int x5), .val (.int (Own.N (n))), .val (.int (Own.N (mv))), .val (.int (Own.N (1))), .val (.int (Own.N (qq))), .val (.int (Own.N (im))), .val (.int (Own.N (r'))), .val (.int (Own.N (p1))), .val (.int (Own.N (p2))), .val (.int (Own.N (p3))), .val (.ref on), .val (.ref tw), .val (.ref th), .val (.ref ca), .val (.ref t), .unset] X89 hx (hb hby at_228) rfl rfl rfl ?_
  refine Own.iload 232 X89 hx (hb hby at_230) rfl rfl ?_
  refine Own.iconst 233 X89 hx (Own.N 1) (hb hby at_232) rfl rfl ?_
  have K245 : ∀ (B inn rt ht rg : Nat) (pre : Nat → Nat) (fL fI fO : Nat → Int32) (Tq : State) (Lq : List Loc) (hq : Heap) (Xq : Stand p l e room_1 s m #[(.int x0), (.int x1), (.int x2), (.int x3), (.int x4), (.int x5)] below meth c Tq Lq 9 27797) (eqq : Tq.heap = hq) (Nq : Fr n0 Lq) (Zq : n0 ≤ hq.size) (Sq : own_S Z hq t lb ib lo L inn rt ht rg zL zI n fL fI fO) (TT : own_T L n B rt ht rg zL zI pre fL fI) (LF : own_Lf L pre (own_od mv im r') fL fO) (C_on : Own.Arf Z hq on 1 (Own.upd (fun _ => 0) (0) (Own.N (p1)))) (C_tw : Own.Arf Z hq tw 2 (Own.upd (Own.upd (fun _ => 0) (0) (Own.N (p1))) (1) (Own.N (p2)))) (C_th : Own.Arf Z hq th 3 (Own.upd (Own.upd (Own.upd (fun _ => 0) (0) (Own.N (p1))) (1) (Own.N (p2))) (2) (Own.N (p3)))) (C_ca : Own.Arf Z hq ca 7 (Own.upd (Own.upd (Own.upd (Own.upd (Own.upd (Own.upd (Own.upd (fun _ => 0) (0) (Own.N (mv))) (1) (Own.N (im))) (2) (Own.N (r'))) (3) (Own.N (1))) (4) (Own.N (p1))) (5) (Own.N (p2))) (6) (Own.N (p3)))), Own.Ends p.tables e below (fun v h L => v = some (.int 1) ∧ Fr n0 L) (Own.FE s room_1.cells room_1.slots) (Tq.setTop (mkF m 245 #[.val (.int x0), .val (.int x1), .val (.int x2), .val (.int x3), .val (.int x4), .val (.int x5), .val (.int (Own.N (n))), .val (.int (Own.N (mv))), .val (.int (Own.N (1))), .val (.int (Own.N (qq))), .val (.int (Own.N (im))), .val (.int (Own.N (r'))), .val (.int (Own.N (p1))), .val (.int (Own.N (p2))), .val (.int (Own.N (p3))), .val (.ref on), .val (.ref tw), .val (.ref th), .val (.ref ca), .val (.ref t), .unset] [])) := by
    intro B inn rt ht rg pre fL fI fO Tq Lq hq Xq eqq Nq Zq Sq TT LF C_on C_tw C_th C_ca
    obtain ⟨E_104, Fleaks_104, Fleaes_104, Finnks_104, Finnrs_104, FleaOf_104, Frooot_104, Fheiht_104, Fregar_104, Clb_104, Cib_104, Clo_104⟩ := Sq
    refine Own.iload 247 Xq hx (hb hby at_245) rfl rfl ?_
    refine Own.iconst 248 Xq hx (Own.N 1) (hb hby at_247) rfl rfl ?_
    refine Own.nicmp_ne 261 251 Xq hx (hb hby at_248) (by decide) rfl (by omega) (by omega) (fun tk => False.elim (by omega)) (fun tk => ?_)
    refine Own.aload 253 Xq hx (hb hby at_251) rfl rfl rfl ?_
    refine Own.aload 255 Xq hx (hb hby at_253) rfl rfl rfl ?_
    refine Own.callVt 258 0 t [(.ref on)] [] Xq hx hZ hown (m7_1 l Z a0 w t on lb ib lo _ _ _ _ _ _ _ _ n0 _ _ _ p1 p2 p3 _ L n B pre (own_od mv im r') _ Zq D01 ⟨E_104, Fleaks_104, Fleaes_104, Finnks_104, Finnrs_104, FleaOf_104, Frooot_104, Fheiht_104, Fregar_104, Clb_104, Cib_104, Clo_104⟩ TT OR LF (by omega) C_on ⟨ne_on_t, ne_on_lb, ne_on_ib, ne_on_lo⟩ (by simp [Own.upd]) ⟨by omega, by omega⟩) E_104 (notFace_of_selects (args := #[]) (mvT hZ (w 51 rfl))) (w 48 rfl) (w 49 rfl) (w 51 rfl) (w 50 rfl) (w 4 rfl) (w 52 rfl) (by decide) eqq (by decide) (by decide) (by decide) (by decide) (by rw [hml]; rfl) (lenOf pd_9 rfl) rfl (Nat.le_of_eq rfl) (hb hby at_255) rfl ?_
    rintro vv T105 L105 X105 ⟨rfl, N105q, K105, hL', hO', S105, TT2, LF2⟩
    have N105 := Fr.app Nq N105q
    have Ef_107 := E_104.keep K105
    have Cf_116 := C_on.keep K105 (ninS ne_on_t (ninS ne_on_lb (ninS ne_on_ib (ninS ne_on_lo nin0))))
    have Cf_117 := C_tw.keep K105 (ninS ne_tw_t (ninS ne_tw_lb (ninS ne_tw_ib (ninS ne_tw_lo nin0))))
    have Cf_118 := C_th.keep K105 (ninS ne_th_t (ninS ne_th_lb (ninS ne_th_ib (ninS ne_th_lo nin0))))
    have Cf_119 := C_ca.keep K105 (ninS ne_ca_t (ninS ne_ca_lb (ninS ne_ca_ib (ninS ne_ca_lo nin0))))
    have zl105 := Nat.le_trans Zq K105.1
    obtain ⟨E_105, Fleaks_105, Fleaes_105, Finnks_105, Finnrs_105, FleaOf_105, Frooot_105, Fheiht_105, Fregar_105, Clb_105, Cib_105, Clo_105⟩ := S105
    have OR2 : own_Or n n (own_ro 1 (p1 - 1) (p2 - 1) (p3 - 1) (own_od mv im r')) := own_ro_Or OR (by decide) (by omega) (fun q9 => absurd q9 (by decide)) (fun q9 => absurd q9 (by decide))
    have a_p1 : own_af mv im r' 1 p1 p2 p3 p1 = (own_ro 1 (p1 - 1) (p2 - 1) (p3 - 1) (own_od mv im r')) (p1 - 1) := own_af_ro (by omega) (by omega) (by omega) (by omega) (by omega)
    have b_p1 := (OR2 (p1 - 1) (by omega)).1
    have a_qq : own_af mv im r' 1 p1 p2 p3 qq = (own_ro 1 (p1 - 1) (p2 - 1) (p3 - 1) (own_od mv im r')) (qq - 1) := own_af_ro (by omega) (by omega) (by omega) (by omega) (by omega)
    have b_qq := (OR2 (qq - 1) (by omega)).1
    refine Own.goto 284 X105 hx (hb hby at_258) (by decide) ?_
    refine Own.aload 286 X105 hx (hb hby at_284) rfl rfl rfl ?_
    refine Own.iload 288 X105 hx (hb hby at_286) rfl rfl ?_
    refine Own.callVt 291 0 t [(.int (Own.N (p1)))] [] X105 hx hZ hown (m9 l Z a0 w t lb ib lo _ _ _ _ _ _ _ _ n0 _ _ _ p1 L n B pre (own_ro 1 (p1 - 1) (p2 - 1) (p3 - 1) (own_od mv im r')) _ ⟨E_105, Fleaks_105, Fleaes_105, Finnks_105, Finnrs_105, FleaOf_105, Frooot_105, Fheiht_105, Fregar_105, Clb_105, Cib_105, Clo_105⟩ TT2 OR2 LF2 ⟨by omega, by omega⟩) E_105 (notFace_of_selects (args := #[]) (mvT hZ (w 60 rfl))) (w 57 rfl) (w 58 rfl) (w 60 rfl) (w 59 rfl) (w 4 rfl) (w 61 rfl) (by decide) rfl (by decide) (by decide) (by decide) (by decide) (by rw [hml]; rfl) (lenOf pd_1 rfl) rfl (Nat.le_of_eq rfl) (hb hby at_288) rfl ?_
    rintro vv T123 L123 X123 ⟨rfl, hh123, rfl⟩
    have N123 := Fr.app N105 (Fr.nil _)
    refine Own.aload 293 X123 hx (hb hby at_291) rfl rfl rfl ?_
    refine Own.iload 295 X123 hx (hb hby at_293) rfl rfl ?_
    refine Own.callSt 298 1 [(.ref ca), (.int (Own.N (p1)))] [(.int (Own.N ((own_ro 1 (p1 - 1) (p2 - 1) (p3 - 1) (own_od mv im r')) (p1 - 1))))] X123 hx hZ hown (m10 l Z a0 w ca mv im r' 1 p1 p2 p3 p1 _ _ Cf_119 (by simp [Own.upd]) (by simp [Own.upd]) (by simp [Own.upd]) (by simp [Own.upd]) (by simp [Own.upd]) (by simp [Own.upd]) (by simp [Own.upd]) (by omega) (by omega) (by omega) (by omega) (by omega) (by omega) (by omega) (by omega) (by omega)) (w 62 rfl) (w 63 rfl) (w 64 rfl) (w 65 rfl) (by decide) hh123 (by decide) (by decide) (by decide) (by decide) (by rw [hml]; rfl) (lenOf pd_0 rfl) rfl (Nat.le_of_eq rfl) (hb hby at_295) rfl ?_
    rintro vv T124 L124 X124 ⟨rfl, hh124, rfl⟩
    have N124 := Fr.app N123 (Fr.nil _)
    refine Own.nicmp_ne 305 301 X124 hx (hb hby at_298) (by decide) rfl (by omega) (by omega) (fun tk => False.elim (by omega)) (fun tk => ?_)
    refine Own.iconst 302 X124 hx (Own.N 1) (hb hby at_301) rfl rfl ?_
    refine Own.goto 306 X124 hx (hb hby at_302) (by decide) ?_
    refine Own.istoreV 308 #[.val (.int x0), .val (.int x1), .val (.int x2), .val (.int x3), .val (.int x4), .val (.int x5), .val (.int (Own.N (n))), .val (.int (Own.N (mv))), .val (.int (Own.N (1))), .val (.int (Own.N (qq))), .val (.int (Own.N (im))), .val (.int (Own.N (r'))), .val (.int (Own.N (p1))), .val (.int (Own.N (p2))), .val (.int (Own.N (p3))), .val (.ref on), .val (.ref tw), .val (.ref th), .val (.ref ca), .val (.ref t), .val (.int (Own.N (1)))] X124 hx (hb hby at_306) rfl rfl ?_
    refine Own.iload 310 X124 hx (hb hby at_308) rfl rfl ?_
    refine Own.iconst 311 X124 hx (Own.N 2) (hb hby at_310) rfl rfl ?_
    refine Own.nicmp_lt 343 314 X124 hx (hb hby at_311) (by decide) rfl (by omega) (by omega) (fun tk => ?_) (fun tk => False.elim (by omega))
    refine Own.iload 345 X124 hx (hb hby at_343) rfl rfl ?_
    refine Own.iconst 346 X124 hx (Own.N 3) (hb hby at_345) rfl rfl ?_
    refine Own.nicmp_ne 378 349 X124 hx (hb hby at_346) (by decide) rfl (by omega) (by omega) (fun tk => ?_) (fun tk => False.elim (by omega))
    refine Own.iload 380 X124 hx (hb hby at_378) rfl rfl ?_
    refine Own.nif_eq 404 383 X124 hx (hb hby at_380) (by decide) rfl (by omega) (fun tk => False.elim (by omega)) (fun tk => ?_)
    refine Own.aload 385 X124 hx (hb hby at_383) rfl rfl rfl ?_
    refine Own.iload 387 X124 hx (hb hby at_385) rfl rfl ?_
    refine Own.callVt 390 0 t [(.int (Own.N (qq)))] [] X124 hx hZ hown (m9 l Z a0 w t lb ib lo _ _ _ _ _ _ _ _ n0 _ _ _ qq L n B pre (own_ro 1 (p1 - 1) (p2 - 1) (p3 - 1) (own_od mv im r')) _ ⟨E_105, Fleaks_105, Fleaes_105, Finnks_105, Finnrs_105, FleaOf_105, Frooot_105, Fheiht_105, Fregar_105, Clb_105, Cib_105, Clo_105⟩ TT2 OR2 LF2 ⟨by omega, by omega⟩) E_105 (notFace_of_selects (args := #[]) (mvT hZ (w 60 rfl))) (w 57 rfl) (w 58 rfl) (w 60 rfl) (w 59 rfl) (w 4 rfl) (w 61 rfl) (by decide) hh124 (by decide) (by decide) (by decide) (by decide) (by rw [hml]; rfl) (lenOf pd_1 rfl) rfl (Nat.le_of_eq rfl) (hb hby at_387) rfl ?_
    rintro vv T125 L125 X125 ⟨rfl, hh125, rfl⟩
    have N125 := Fr.app N124 (Fr.nil _)
    refine Own.aload 392 X125 hx (hb hby at_390) rfl rfl rfl ?_
    refine Own.iload 394 X125 hx (hb hby at_392) rfl rfl ?_
    refine Own.callSt 397 1 [(.ref ca), (.int (Own.N (qq)))] [(.int (Own.N ((own_ro 1 (p1 - 1) (p2 - 1) (p3 - 1) (own_od mv im r')) (qq - 1))))] X125 hx hZ hown (m10 l Z a0 w ca mv im r' 1 p1 p2 p3 qq _ _ Cf_119 (by simp [Own.upd]) (by simp [Own.upd]) (by simp [Own.upd]) (by simp [Own.upd]) (by simp [Own.upd]) (by simp [Own.upd]) (by simp [Own.upd]) (by omega) (by omega) (by omega) (by omega) (by omega) (by omega) (by omega) (by omega) (by omega)) (w 62 rfl) (w 63 rfl) (w 64 rfl) (w 65 rfl) (by decide) hh125 (by decide) (by decide) (by decide) (by decide) (by rw [hml]; rfl) (lenOf pd_0 rfl) rfl (Nat.le_of_eq rfl) (hb hby at_394) rfl ?_
    rintro vv T126 L126 X126 ⟨rfl, hh126, rfl⟩
    have N126 := Fr.app N125 (Fr.nil _)
    refine Own.nicmp_ne 404 400 X126 hx (hb hby at_397) (by decide) rfl (by omega) (by omega) (fun tk => False.elim (by omega)) (fun tk => ?_)
    refine Own.iconst 401 X126 hx (Own.N 1) (hb hby at_400) rfl rfl ?_
    refine Own.goto 405 X126 hx (hb hby at_401) (by decide) ?_
    refine Own.istoreV 407 #[.val (.int x0), .val (.int x1), .val (.int x2), .val (.int x3), .val (.int x4), .val (.int x5), .val (.int (Own.N (n))), .val (.int (Own.N (mv))), .val (.int (Own.N (1))), .val (.int (Own.N (qq))), .val (.int (Own.N (im))), .val (.int (Own.N (r'))), .val (.int (Own.N (p1))), .val (.int (Own.N (p2))), .val (.int (Own.N (p3))), .val (.ref on), .val (.ref tw), .val (.ref th), .val (.ref ca), .val (.ref t), .val (.int (Own.N (1)))] X126 hx (hb hby at_405) rfl rfl ?_
    refine Own.iload 409 X126 hx (hb hby at_407) rfl rfl ?_
    refine Own.nif_eq 433 412 X126 hx (hb hby at_409) (by decide) rfl (by omega) (fun tk => False.elim (by omega)) (fun tk => ?_)
    refine Own.aload 414 X126 hx (hb hby at_412) rfl rfl rfl ?_
    refine Own.aload 416 X126 hx (hb hby at_414) rfl rfl rfl ?_
    refine Own.iload 418 X126 hx (hb hby at_416) rfl rfl ?_
    refine Own.callSt 421 1 [(.ref ca), (.int (Own.N (p1)))] [(.ref t)] X126 hx hZ hown (m10 l Z a0 w ca mv im r' 1 p1 p2 p3 p1 _ _ Cf_119 (by simp [Own.upd]) (by simp [Own.upd]) (by simp [Own.upd]) (by simp [Own.upd]) (by simp [Own.upd]) (by simp [Own.upd]) (by simp [Own.upd]) (by omega) (by omega) (by omega) (by omega) (by omega) (by omega) (by omega) (by omega) (by omega)) (w 62 rfl) (w 63 rfl) (w 64 rfl) (w 65 rfl) (by decide) hh126 (by decide) (by decide) (by decide) (by decide) (by rw [hml]; rfl) (lenOf pd_0 rfl) rfl (Nat.le_of_eq rfl) (hb hby at_418) rfl ?_
    rintro vv T127 L127 X127 ⟨rfl, hh127, rfl⟩
    have N127 := Fr.app N126 (Fr.nil _)
    refine Own.callVt 424 0 t [(.int (Own.N (own_af mv im r' 1 p1 p2 p3 p1)))] [] X127 hx hZ hown (m12 l Z a0 w t lb ib lo _ _ _ _ _ _ _ _ n0 _ _ _ (own_af mv im r' 1 p1 p2 p3 p1) (p1 - 1) L n B pre (own_ro 1 (p1 - 1) (p2 - 1) (p3 - 1) (own_od mv im r')) _ ⟨E_105, Fleaks_105, Fleaes_105, Finnks_105, Finnrs_105, FleaOf_105, Frooot_105, Fheiht_105, Fregar_105, Clb_105, Cib_105, Clo_105⟩ TT2 OR2 LF2 (by omega) (by omega) a_p1.symm) E_105 (notFace_of_selects (args := #[]) (mvT hZ (w 72 rfl))) (w 69 rfl) (w 70 rfl) (w 72 rfl) (w 71 rfl) (w 4 rfl) (w 73 rfl) (by decide) hh127 (by decide) (by decide) (by decide) (by decide) (by rw [hml]; rfl) (lenOf pd_1 rfl) rfl (Nat.le_of_eq rfl) (hb hby at_421) rfl ?_
    rintro vv T128 L128 X128 ⟨rfl, hh128, rfl⟩
    have N128 := Fr.app N127 (Fr.nil _)
    refine Own.iload 426 X128 hx (hb hby at_424) rfl rfl ?_
    refine Own.nicmp_ne 433 429 X128 hx (hb hby at_426) (by decide) rfl (by omega) (by omega) (fun tk => False.elim (by omega)) (fun tk => ?_)
    refine Own.iconst 430 X128 hx (Own.N 1) (hb hby at_429) rfl rfl ?_
    refine Own.goto 434 X128 hx (hb hby at_430) (by decide) ?_
    refine Own.istoreV 436 #[.val (.int x0), .val (.int x1), .val (.int x2), .val (.int x3), .val (.int x4), .val (.int x5), .val (.int (Own.N (n))), .val (.int (Own.N (mv))), .val (.int (Own.N (1))), .val (.int (Own.N (qq))), .val (.int (Own.N (im))), .val (.int (Own.N (r'))), .val (.int (Own.N (p1))), .val (.int (Own.N (p2))), .val (.int (Own.N (p3))), .val (.ref on), .val (.ref tw), .val (.ref th), .val (.ref ca), .val (.ref t), .val (.int (Own.N (1)))] X128 hx (hb hby at_434) rfl rfl ?_
    refine Own.iload 438 X128 hx (hb hby at_436) rfl rfl ?_
    refine Own.nif_eq 462 441 X128 hx (hb hby at_438) (by decide) rfl (by omega) (fun tk => False.elim (by omega)) (fun tk => ?_)
    refine Own.aload 443 X128 hx (hb hby at_441) rfl rfl rfl ?_
    refine Own.aload 445 X128 hx (hb hby at_443) rfl rfl rfl ?_
    refine Own.iload 447 X128 hx (hb hby at_445) rfl rfl ?_
    refine Own.callSt 450 1 [(.ref ca), (.int (Own.N (qq)))] [(.ref t)] X128 hx hZ hown (m10 l Z a0 w ca mv im r' 1 p1 p2 p3 qq _ _ Cf_119 (by simp [Own.upd]) (by simp [Own.upd]) (by simp [Own.upd]) (by simp [Own.upd]) (by simp [Own.upd]) (by simp [Own.upd]) (by simp [Own.upd]) (by omega) (by omega) (by omega) (by omega) (by omega) (by omega) (by omega) (by omega) (by omega)) (w 62 rfl) (w 63 rfl) (w 64 rfl) (w 65 rfl) (by decide) hh128 (by decide) (by decide) (by decide) (by decide) (by rw [hml]; rfl) (lenOf pd_0 rfl) rfl (Nat.le_of_eq rfl) (hb hby at_447) rfl ?_
    rintro vv T129 L129 X129 ⟨rfl, hh129, rfl⟩
    have N129 := Fr.app N128 (Fr.nil _)
    refine Own.callVt 453 0 t [(.int (Own.N (own_af mv im r' 1 p1 p2 p3 qq)))] [] X129 hx hZ hown (m12 l Z a0 w t lb ib lo _ _ _ _ _ _ _ _ n0 _ _ _ (own_af mv im r' 1 p1 p2 p3 qq) (qq - 1) L n B pre (own_ro 1 (p1 - 1) (p2 - 1) (p3 - 1) (own_od mv im r')) _ ⟨E_105, Fleaks_105, Fleaes_105, Finnks_105, Finnrs_105, FleaOf_105, Frooot_105, Fheiht_105, Fregar_105, Clb_105, Cib_105, Clo_105⟩ TT2 OR2 LF2 (by omega) (by omega) a_qq.symm) E_105 (notFace_of_selects (args := #[]) (mvT hZ (w 72 rfl))) (w 69 rfl) (w 70 rfl) (w 72 rfl) (w 71 rfl) (w 4 rfl) (w 73 rfl) (by decide) hh129 (by decide) (by decide) (by decide) (by decide) (by rw [hml]; rfl) (lenOf pd_1 rfl) rfl (Nat.le_of_eq rfl) (hb hby at_450) rfl ?_
    rintro vv T130 L130 X130 ⟨rfl, hh130, rfl⟩
    have N130 := Fr.app N129 (Fr.nil _)
    refine Own.iload 455 X130 hx (hb hby at_453) rfl rfl ?_
    refine Own.nicmp_ne 462 458 X130 hx (hb hby at_455) (by decide) rfl (by omega) (by omega) (fun tk => False.elim (by omega)) (fun tk => ?_)
    refine Own.iconst 459 X130 hx (Own.N 1) (hb hby at_458) rfl rfl ?_
    refine Own.goto 463 X130 hx (hb hby at_459) (by decide) ?_
    refine Own.istoreV 465 #[.val (.int x0), .val (.int x1), .val (.int x2), .val (.int x3), .val (.int x4), .val (.int x5), .val (.int (Own.N (n))), .val (.int (Own.N (mv))), .val (.int (Own.N (1))), .val (.int (Own.N (qq))), .val (.int (Own.N (im))), .val (.int (Own.N (r'))), .val (.int (Own.N (p1))), .val (.int (Own.N (p2))), .val (.int (Own.N (p3))), .val (.ref on), .val (.ref tw), .val (.ref th), .val (.ref ca), .val (.ref t), .val (.int (Own.N (1)))] X130 hx (hb hby at_463) rfl rfl ?_
    refine Own.iload 467 X130 hx (hb hby at_465) rfl rfl ?_
    refine Own.retBool X130 hx hlk hret (hb hby at_467) (by decide) (by decide) ?_
    exact ⟨rfl, N130⟩
  refine Own.nicmp_ne 245 236 X89 hx (hb hby at_233) (by decide) rfl (by omega) (by omega) (fun mv1 => ?_) (fun mv1 => ?_)
  ·
    exact K245 _ _ _ _ _ _ _ _ _ _ _ _ X89 rfl N89 zl89 ⟨E_89, Fleaks_89, Fleaes_89, Finnks_89, Finnrs_89, FleaOf_89, Frooot_89, Fheiht_89, Fregar_89, Clb_89, Cib_89, Clo_89⟩ TT (by rw [own_od, if_pos (by omega)]; exact LF) Cf_100 Cf_101 Cf_102 Cf_103
  ·
    refine Own.aload 238 X89 hx (hb hby at_236) rfl rfl rfl ?_
    refine Own.iload 240 X89 hx (hb hby at_238) rfl rfl ?_
    refine Own.iload 242 X89 hx (hb hby at_240) rfl rfl ?_
    refine Own.callVt 245 0 t [(.int (Own.N (im))), (.int (Own.N (r')))] [] X89 hx hZ hown (m15 l Z a0 w t lb ib lo _ _ _ _ _ _ _ n0 _ _ _ im r' im L n (own_pb n) (fun q => q) _ zl89 D01 ⟨E_89, Fleaks_89, Fleaes_89, Finnks_89, Finnrs_89, FleaOf_89, Frooot_89, Fheiht_89, Fregar_89, Clb_89, Cib_89, Clo_89⟩ TT (fun q hq => ⟨hq, fun _ _ e9 => e9⟩) LF (by omega) (by omega) rfl (by omega) BT) E_89 (notFace_of_selects (args := #[]) (mvT hZ (w 85 rfl))) (w 82 rfl) (w 83 rfl) (w 85 rfl) (w 84 rfl) (w 4 rfl) (w 86 rfl) (by decide) rfl (by decide) (by decide) (by decide) (by decide) (by rw [hml]; rfl) (lenOf pd_8 rfl) rfl (Nat.le_of_eq rfl) (hb hby at_242) rfl ?_
    rintro vv T131 L131 X131 ⟨rfl, N131q, K131, pre2, gL2, gI2, gO2, inn2, rt2, ht2, S131, TT2, LF2⟩
    have N131 := Fr.app N89 N131q
    have Ef_133 := E_89.keep K131
    have Cf_142 := Cf_100.keep K131 (ninS ne_on_t (ninS ne_on_lb (ninS ne_on_ib (ninS ne_on_lo nin0))))
    have Cf_143 := Cf_101.keep K131 (ninS ne_tw_t (ninS ne_tw_lb (ninS ne_tw_ib (ninS ne_tw_lo nin0))))
    have Cf_144 := Cf_102.keep K131 (ninS ne_th_t (ninS ne_th_lb (ninS ne_th_ib (ninS ne_th_lo nin0))))
    have Cf_145 := Cf_103.keep K131 (ninS ne_ca_t (ninS ne_ca_lb (ninS ne_ca_ib (ninS ne_ca_lo nin0))))
    have zl131 := Nat.le_trans zl89 K131.1
    obtain ⟨E_131, Fleaks_131, Fleaes_131, Finnks_131, Finnrs_131, FleaOf_131, Frooot_131, Fheiht_131, Fregar_131, Clb_131, Cib_131, Clo_131⟩ := S131
    exact K245 _ _ _ _ _ _ _ _ _ _ _ _ X131 rfl N131 zl131 ⟨E_131, Fleaks_131, Fleaes_131, Finnks_131, Finnrs_131, FleaOf_131, Frooot_131, Fheiht_131, Fregar_131, Clb_131, Cib_131, Clo_131⟩ TT2 (by rw [own_od, if_neg (by omega)]; exact LF2) Cf_142 Cf_143 Cf_144 Cf_145
set_option maxRecDepth 65536 in
set_option maxHeartbeats 40000000 in
theorem law_2 (l : Launch) (Z : State) (a0 : Array Value) (w : ∀ (i : Nat) {d : Jvm.Cond}, tables_1[i]? = some d → d.before a0 Z = true) (x0 x1 x2 x3 x4 x5 : Int32) (n0 : Nat) (p : Program) (e : Env) (s : State) (m : MethodId) (below : List Frame) (meth : Method) (c : Code) (hx : p.tables.exec = Jvm.exec) (hby : c.code = code) (hml : c.maxLocals = 21) (hown : s.vm.findClass "com/example/frontrank/frontrank/OrderTreeRotatePinLaw" = some m.cls) (hret : meth.sig.returnType = some .boolean) (hlk : meth.locks = false) (hZ : Z.Warmed39 s.vm) (n mv qq im r' p1 p2 p3 : Nat) (hn : 1 ≤ n ∧ n ≤ 4096) (hmv : mv < 2) (hqq : 1 ≤ qq ∧ qq ≤ n) (him : im < n) (hr' : 1 ≤ r' ∧ r' ≤ n) (hp1 : 1 ≤ p1 ∧ p1 ≤ n) (hp2 : 1 ≤ p2 ∧ p2 ≤ n) (hp3 : 1 ≤ p3 ∧ p3 ≤ n) (h0 : Heap) (T0 : State) (X0 : Stand p l e room_1 s m #[(.int x0), (.int x1), (.int x2), (.int x3), (.int x4), (.int x5)] below meth c T0 [] 0 0) (e0 : T0.heap = h0) (Z0 : n0 ≤ h0.size) :
    Own.Ends p.tables e below (fun v h L => v = some (.int 1) ∧ Fr n0 L) (Own.FE s room_1.cells room_1.slots) (T0.setTop (mkF m 95 #[.val (.int x0), .val (.int x1), .val (.int x2), .val (.int x3), .val (.int x4), .val (.int x5), .val (.int (Own.N (n))), .val (.int (Own.N (mv))), .val (.int (Own.N (2))), .val (.int (Own.N (qq))), .val (.int (Own.N (im))), .val (.int (Own.N (r'))), .val (.int (Own.N (p1))), .val (.int (Own.N (p2))), .val (.int (Own.N (p3))), .unset, .unset, .unset, .unset, .unset, .unset] [])) := by
  have N0 := Fr.nil n0
  refine Own.iload 97 X0 hx (hb hby at_95) rfl rfl ?_
  refine Own.iconst 98 X0 hx (Own.N 2) (hb hby at_97) rfl rfl ?_
  refine Own.nicmp_lt 110 101 X0 hx (hb hby at_98) (by decide) rfl (by omega) (by omega) (fun tk => False.elim (by omega)) (fun tk => ?_)
  refine Own.iload 103 X0 hx (hb hby at_101) rfl rfl ?_
  refine Own.iload 105 X0 hx (hb hby at_103) rfl rfl ?_
  refine Own.nicmp_ne 110 108 X0 hx (hb hby at_105) (by decide) rfl (by omega) (by omega) (fun d12 => ?_) (fun d12 => ?_)
  ·
    refine Own.iload 112 X0 hx (hb hby at_110) rfl rfl ?_
    refine Own.iconst 113 X0 hx (Own.N 3) (hb hby at_112) rfl rfl ?_
    refine Own.nicmp_ne 132 116 X0 hx (hb hby at_113) (by decide) rfl (by omega) (by omega) (fun tk => ?_) (fun tk => False.elim (by omega))
    refine Own.iconst 133 X0 hx (Own.N 1) (hb hby at_132) rfl rfl ?_
    refine Own.nNew 135 1 X0 hx hZ (w 1 rfl) e0 (by omega) (by decide) (hb hby at_133) rfl (by decide) (by decide) ?_
    intro T149 h149 on z149 X149 e149 E149 C149
    have g_on : n0 ≤ on := Nat.le_trans Z0 (Nat.le_of_eq z149.symm)
    have zl149 := Nat.le_trans Z0 E149.1
    refine Own.dup 136 X149 hx (hb hby at_135) rfl rfl ?_
    refine Own.iconst 137 X149 hx (Own.N 0) (hb hby at_136) rfl rfl ?_
    refine Own.iload 139 X149 hx (hb hby at_137) rfl rfl ?_
    refine Own.nStore 140 X149 hx hZ e149 C149 (by omega) (hb hby at_139) rfl ?_
    intro T151 h151 X151 e151 W151 C151
    have N151 := Fr.snoc X151 N0 g_on
    have zl151 := Nat.le_trans zl149 (Nat.le_of_eq W151.size.symm)
    refine Own.astore 142 #[.val (.int x0), .val (.int x1), .val (.int x2), .val (.int x3), .val (.int x4), .val (.int x5), .val (.int (Own.N (n))), .val (.int (Own.N (mv))), .val (.int (Own.N (2))), .val (.int (Own.N (qq))), .val (.int (Own.N (im))), .val (.int (Own.N (r'))), .val (.int (Own.N (p1))), .val (.int (Own.N (p2))), .val (.int (Own.N (p3))), .val (.ref on), .unset, .unset, .unset, .unset, .unset] X151 hx (hb hby at_140) rfl rfl rfl ?_
    refine Own.iconst 143 X151 hx (Own.N 2) (hb hby at_142) rfl rfl ?_
    refine Own.nNew 145 2 X151 hx hZ (w 1 rfl) e151 (by omega) (by decide) (hb hby at_143) rfl (by decide) (by decide) ?_
    intro T154 h154 tw z154 X154 e154 E154 C154
    have ne_on_tw : on ≠ tw := Nat.ne_of_lt (Nat.lt_of_lt_of_le C151.lt (Nat.le_of_eq z154.symm))
    have g_tw : n0 ≤ tw := Nat.le_trans zl151 (Nat.le_of_eq z154.symm)
    have Cf_156 := C151.ext E154
    have zl154 := Nat.le_trans zl151 E154.1
    refine Own.dup 146 X154 hx (hb hby at_145) rfl rfl ?_
    refine Own.iconst 147 X154 hx (Own.N 0) (hb hby at_146) rfl rfl ?_
    refine Own.iload 149 X154 hx (hb hby at_147) rfl rfl ?_
    refine Own.nStore 150 X154 hx hZ e154 C154 (by omega) (hb hby at_149) rfl ?_
    intro T157 h157 X157 e157 W157 C157
    have N157 := Fr.snoc X157 N151 g_tw
    have Cf_159 := Cf_156.other W157 ne_on_tw
    have zl157 := Nat.le_trans zl154 (Nat.le_of_eq W157.size.symm)
    refine Own.dup 151 X157 hx (hb hby at_150) rfl rfl ?_
    refine Own.iconst 152 X157 hx (Own.N 1) (hb hby at_151) rfl rfl ?_
    refine Own.iload 154 X157 hx (hb hby at_152) rfl rfl ?_
    refine Own.nStore 155 X157 hx hZ e157 C157 (by omega) (hb hby at_154) rfl ?_
    intro T161 h161 X161 e161 W161 C161
    have N161 := Fr.snoc X161 N157 g_tw
    have Cf_163 := Cf_159.other W161 ne_on_tw
    have zl161 := Nat.le_trans zl157 (Nat.le_of_eq W161.size.symm)
    refine Own.astore 157 #[.val (.int x0), .val (.int x1), .val (.int x2), .val (.int x3), .val (.int x4), .val (.int x5), .val (.int (Own.N (n))), .val (.int (Own.N (mv))), .val (.int (Own.N (2))), .val (.int (Own.N (qq))), .val (.int (Own.N (im))), .val (.int (Own.N (r'))), .val (.int (Own.N (p1))), .val (.int (Own.N (p2))), .val (.int (Own.N (p3))), .val (.ref on), .val (.ref tw), .unset, .unset, .unset, .unset] X161 hx (hb hby at_155) rfl rfl rfl ?_
    refine Own.iconst 158 X161 hx (Own.N 3) (hb hby at_157) rfl rfl ?_
    refine Own.nNew 160 3 X161 hx hZ (w 1 rfl) e161 (by omega) (by decide) (hb hby at_158) rfl (by decide) (by decide) ?_
    intro T165 h165 th z165 X165 e165 E165 C165
    have ne_on_th : on ≠ th := Nat.ne_of_lt (Nat.lt_of_lt_of_le Cf_163.lt (Nat.le_of_eq z165.symm))
    have ne_tw_th : tw ≠ th := Nat.ne_of_lt (Nat.lt_of_lt_of_le C161.lt (Nat.le_of_eq z165.symm))
    have g_th : n0 ≤ th := Nat.le_trans zl161 (Nat.le_of_eq z165.symm)
    have Cf_167 := Cf_163.ext E165
    have Cf_168 := C161.ext E165
    have zl165 := Nat.le_trans zl161 E165.1
    refine Own.dup 161 X165 hx (hb hby at_160) rfl rfl ?_
    refine Own.iconst 162 X165 hx (Own.N 0) (hb hby at_161) rfl rfl ?_
    refine Own.iload 164 X165 hx (hb hby at_162) rfl rfl ?_
    refine Own.nStore 165 X165 hx hZ e165 C165 (by omega) (hb hby at_164) rfl ?_
    intro T169 h169 X169 e169 W169 C169
    have N169 := Fr.snoc X169 N161 g_th
    have Cf_171 := Cf_167.other W169 ne_on_th
    have Cf_172 := Cf_168.other W169 ne_tw_th
    have zl169 := Nat.le_trans zl165 (Nat.le_of_eq W169.size.symm)
    refine Own.dup 166 X169 hx (hb hby at_165) rfl rfl ?_
    refine Own.iconst 167 X169 hx (Own.N 1) (hb hby at_166) rfl rfl ?_
    refine Own.iload 169 X169 hx (hb hby at_167) rfl rfl ?_
    refine Own.nStore 170 X169 hx hZ e169 C169 (by omega) (hb hby at_169) rfl ?_
    intro T174 h174 X174 e174 W174 C174
    have N174 := Fr.snoc X174 N169 g_th
    have Cf_176 := Cf_171.other W174 ne_on_th
    have Cf_177 := Cf_172.other W174 ne_tw_th
    have zl174 := Nat.le_trans zl169 (Nat.le_of_eq W174.size.symm)
    refine Own.dup 171 X174 hx (hb hby at_170) rfl rfl ?_
    refine Own.iconst 172 X174 hx (Own.N 2) (hb hby at_171) rfl rfl ?_
    refine Own.iload 174 X174 hx (hb hby at_172) rfl rfl ?_
    refine Own.nStore 175 X174 hx hZ e174 C174 (by omega) (hb hby at_174) rfl ?_
    intro T179 h179 X179 e179 W179 C179
    have N179 := Fr.snoc X179 N174 g_th
    have Cf_181 := Cf_176.other W179 ne_on_th
    have Cf_182 := Cf_177.other W179 ne_tw_th
    have zl179 := Nat.le_trans zl174 (Nat.le_of_eq W179.size.symm)
    refine Own.astore 177 #[.val (.int x0), .val (.int x1), .val (.int x2), .val (.int x3), .val (.int x4), .val (.int x5), .val (.int (Own.N (n))), .val (.int (Own.N (mv))), .val (.int (Own.N (2))), .val (.int (Own.N (qq))), .val (.int (Own.N (im))), .val (.int (Own.N (r'))), .val (.int (Own.N (p1))), .val (.int (Own.N (p2))), .val (.int (Own.N (p3))), .val (.ref on), .val (.ref tw), .val (.ref th), .unset, .unset, .unset] X179 hx (hb hby at_175) rfl rfl rfl ?_
    refine Own.bipush 179 X179 hx (Own.N 7) (hb hby at_177) rfl rfl ?_
    refine Own.nNew 181 7 X179 hx hZ (w 1 rfl) e179 (by omega) (by decide) (hb hby at_179) rfl (by decide) (by decide) ?_
    intro T184 h184 ca z184 X184 e184 E184 C184
    have ne_on_ca : on ≠ ca := Nat.ne_of_lt (Nat.lt_of_lt_of_le Cf_181.lt (Nat.le_of_eq z184.symm))
    have ne_th_ca : th ≠ ca := Nat.ne_of_lt (Nat.lt_of_lt_of_le C179.lt (Nat.le_of_eq z184.symm))
    have ne_tw_ca : tw ≠ ca := Nat.ne_of_lt (Nat.lt_of_lt_of_le Cf_182.lt (Nat.le_of_eq z184.symm))
    have g_ca : n0 ≤ ca := Nat.le_trans zl179 (Nat.le_of_eq z184.symm)
    have Cf_186 := Cf_181.ext E184
    have Cf_187 := Cf_182.ext E184
    have Cf_188 := C179.ext E184
    have zl184 := Nat.le_trans zl179 E184.1
    refine Own.dup 182 X184 hx (hb hby at_181) rfl rfl ?_
    refine Own.iconst 183 X184 hx (Own.N 0) (hb hby at_182) rfl rfl ?_
    refine Own.iload 185 X184 hx (hb hby at_183) rfl rfl ?_
    refine Own.nStore 186 X184 hx hZ e184 C184 (by omega) (hb hby at_185) rfl ?_
    intro T189 h189 X189 e189 W189 C189
    have N189 := Fr.snoc X189 N179 g_ca
    have Cf_191 := Cf_186.other W189 ne_on_ca
    have Cf_192 := Cf_187.other W189 ne_tw_ca
    have Cf_193 := Cf_188.other W189 ne_th_ca
    have zl189 := Nat.le_trans zl184 (Nat.le_of_eq W189.size.symm)
    refine Own.dup 187 X189 hx (hb hby at_186) rfl rfl ?_
    refine Own.iconst 188 X189 hx (Own.N 1) (hb hby at_187) rfl rfl ?_
    refine Own.iload 190 X189 hx (hb hby at_188) rfl rfl ?_
    refine Own.nStore 191 X189 hx hZ e189 C189 (by omega) (hb hby at_190) rfl ?_
    intro T195 h195 X195 e195 W195 C195
    have N195 := Fr.snoc X195 N189 g_ca
    have Cf_197 := Cf_191.other W195 ne_on_ca
    have Cf_198 := Cf_192.other W195 ne_tw_ca
    have Cf_199 := Cf_193.other W195 ne_th_ca
    have zl195 := Nat.le_trans zl189 (Nat.le_of_eq W195.size.symm)
    refine Own.dup 192 X195 hx (hb hby at_191) rfl rfl ?_
    refine Own.iconst 193 X195 hx (Own.N 2) (hb hby at_192) rfl rfl ?_
    refine Own.iload 195 X195 hx (hb hby at_193) rfl rfl ?_
    refine Own.nStore 196 X195 hx hZ e195 C195 (by omega) (hb hby at_195) rfl ?_
    intro T201 h201 X201 e201 W201 C201
    have N201 := Fr.snoc X201 N195 g_ca
    have Cf_203 := Cf_197.other W201 ne_on_ca
    have Cf_204 := Cf_198.other W201 ne_tw_ca
    have Cf_205 := Cf_199.other W201 ne_th_ca
    have zl201 := Nat.le_trans zl195 (Nat.le_of_eq W201.size.symm)
    refine Own.dup 197 X201 hx (hb hby at_196) rfl rfl ?_
    refine Own.iconst 198 X201 hx (Own.N 3) (hb hby at_197) rfl rfl ?_
    refine Own.iload 200 X201 hx (hb hby at_198) rfl rfl ?_
    refine Own.nStore 201 X201 hx hZ e201 C201 (by omega) (hb hby at_200) rfl ?_
    intro T207 h207 X207 e207 W207 C207
    have N207 := Fr.snoc X207 N201 g_ca
    have Cf_209 := Cf_203.other W207 ne_on_ca
    have Cf_210 := Cf_204.other W207 ne_tw_ca
    have Cf_211 := Cf_205.other W207 ne_th_ca
    have zl207 := Nat.le_trans zl201 (Nat.le_of_eq W207.size.symm)
    refine Own.dup 202 X207 hx (hb hby at_201) rfl rfl ?_
    refine Own.iconst 203 X207 hx (Own.N 4) (hb hby at_202) rfl rfl ?_
    refine Own.iload 205 X207 hx (hb hby at_203) rfl rfl ?_
    refine Own.nStore 206 X207 hx hZ e207 C207 (by omega) (hb hby at_205) rfl ?_
    intro T213 h213 X213 e213 W213 C213
    have N213 := Fr.snoc X213 N207 g_ca
    have Cf_215 := Cf_209.other W213 ne_on_ca
    have Cf_216 := Cf_210.other W213 ne_tw_ca
    have Cf_217 := Cf_211.other W213 ne_th_ca
    have zl213 := Nat.le_trans zl207 (Nat.le_of_eq W213.size.symm)
    refine Own.dup 207 X213 hx (hb hby at_206) rfl rfl ?_
    refine Own.iconst 208 X213 hx (Own.N 5) (hb hby at_207) rfl rfl ?_
    refine Own.iload 210 X213 hx (hb hby at_208) rfl rfl ?_
    refine Own.nStore 211 X213 hx hZ e213 C213 (by omega) (hb hby at_210) rfl ?_
    intro T219 h219 X219 e219 W219 C219
    have N219 := Fr.snoc X219 N213 g_ca
    have Cf_221 := Cf_215.other W219 ne_on_ca
    have Cf_222 := Cf_216.other W219 ne_tw_ca
    have Cf_223 := Cf_217.other W219 ne_th_ca
    have zl219 := Nat.le_trans zl213 (Nat.le_of_eq W219.size.symm)
    refine Own.dup 212 X219 hx (hb hby at_211) rfl rfl ?_
    refine Own.bipush 214 X219 hx (Own.N 6) (hb hby at_212) rfl rfl ?_
    refine Own.iload 216 X219 hx (hb hby at_214) rfl rfl ?_
    refine Own.nStore 217 X219 hx hZ e219 C219 (by omega) (hb hby at_216) rfl ?_
    intro T225 h225 X225 e225 W225 C225
    have N225 := Fr.snoc X225 N219 g_ca
    have Cf_227 := Cf_221.other W225 ne_on_ca
    have Cf_228 := Cf_222.other W225 ne_tw_ca
    have Cf_229 := Cf_223.other W225 ne_th_ca
    have zl225 := Nat.le_trans zl219 (Nat.le_of_eq W225.size.symm)
    refine Own.astore 219 #[.val (.int x0), .val (.int x1), .val (.int x2), .val (.int x3), .val (.int x4), .val (.int x5), .val (.int (Own.N (n))), .val (.int (Own.N (mv))), .val (.int (Own.N (2))), .val (.int (Own.N (qq))), .val (.int (Own.N (im))), .val (.int (Own.N (r'))), .val (.int (Own.N (p1))), .val (.int (Own.N (p2))), .val (.int (Own.N (p3))), .val (.ref on), .val (.ref tw), .val (.ref th), .val (.ref ca), .unset, .unset] X225 hx (hb hby at_217) rfl rfl rfl ?_
    refine Own.newObj 222 X225 hx hZ hown (w 2 rfl) (w 3 rfl) (w 4 rfl) e225 (hb hby at_219) rfl (by decide) (by decide) ?_
    intro T231 h231 t z231 X231 e231 E231 A231 D231
    have ne_ca_t : ca ≠ t := Nat.ne_of_lt (Nat.lt_of_lt_of_le C225.lt (Nat.le_of_eq z231.symm))
    have ne_on_t : on ≠ t := Nat.ne_of_lt (Nat.lt_of_lt_of_le Cf_227.lt (Nat.le_of_eq z231.symm))
    have ne_th_t : th ≠ t := Nat.ne_of_lt (Nat.lt_of_lt_of_le Cf_229.lt (Nat.le_of_eq z231.symm))
    have ne_tw_t : tw ≠ t := Nat.ne_of_lt (Nat.lt_of_lt_of_le Cf_228.lt (Nat.le_of_eq z231.symm))
    have g_t : n0 ≤ t := Nat.le_trans zl225 (Nat.le_of_eq z231.symm)
    have Cf_233 := Cf_227.ext E231
    have Cf_234 := Cf_228.ext E231
    have Cf_235 := Cf_229.ext E231
    have Cf_236 := C225.ext E231
    have zl231 := Nat.le_trans zl225 E231.1
    have F231_leafBlocks : Fld Z h231 t "com/example/frontrank/frontrank/OrderTree" "leafBlocks" "[I" .null := D231 (Or.inr (w 13 rfl)) (ty := (.array .int)) (by decide)
    have F231_innerBlocks : Fld Z h231 t "com/example/frontrank/frontrank/OrderTree" "innerBlocks" "[I" .null := D231 (Or.inl (w 15 rfl)) (ty := (.array .int)) (by decide)
    have F231_leafOf : Fld Z h231 t "com/example/frontrank/frontrank/OrderTree" "leafOf" "[I" .null := D231 (Or.inr (w 17 rfl)) (ty := (.array .int)) (by decide)
    have F231_leaves : Fld Z h231 t "com/example/frontrank/frontrank/OrderTree" "leaves" "I" (.int (0 : Int32)) := D231 (Or.inl (w 23 rfl)) (ty := .int) (by decide)
    have F231_inners : Fld Z h231 t "com/example/frontrank/frontrank/OrderTree" "inners" "I" (.int (0 : Int32)) := D231 (Or.inl (w 33 rfl)) (ty := .int) (by decide)
    have F231_height : Fld Z h231 t "com/example/frontrank/frontrank/OrderTree" "height" "I" (.int (0 : Int32)) := D231 (Or.inl (w 35 rfl)) (ty := .int) (by decide)
    have F231_root : Fld Z h231 t "com/example/frontrank/frontrank/OrderTree" "root" "I" (.int (0 : Int32)) := D231 (Or.inl (w 45 rfl)) (ty := .int) (by decide)
    have F231_regular : Fld Z h231 t "com/example/frontrank/frontrank/OrderTree" "regular" "Z" (.int (0 : Int32)) := D231 (Or.inl (w 47 rfl)) (ty := .boolean) (by decide)
    refine Own.dup 223 X231 hx (hb hby at_222) rfl rfl ?_
    refine Own.iload 225 X231 hx (hb hby at_223) rfl rfl ?_
    refine Own.callInit 228 1 t [(.int (Own.N (n)))] [(.ref t)] X231 hx hZ hown (m1 l Z a0 w t n n0 _ zl231 g_t A231 F231_leafBlocks F231_leaves F231_innerBlocks F231_inners F231_leafOf F231_root F231_height F231_regular (by omega)) rfl (w 5 rfl) (w 6 rfl) (w 4 rfl) (w 7 rfl) (by decide) e231 (by decide) (by decide) (by decide) (by decide) (by rw [hml]; rfl) (lenOf pd_7 rfl) rfl (Nat.le_of_eq rfl) (hb hby at_225) rfl ?_
    rintro vv T237 L237 X237 ⟨rfl, N237q, K237, lb, ib, lo, inn, rt, ht, zL, zI, L, gL, gI, gO, D01, sz1, sz2, sz3, S237, TT, LF, hLn, BT⟩
    have ne_on_lb : on ≠ lb := Nat.ne_of_lt (Nat.lt_of_lt_of_le Cf_233.lt sz1)
    have ne_on_ib : on ≠ ib := Nat.ne_of_lt (Nat.lt_of_lt_of_le Cf_233.lt sz2)
    have ne_on_lo : on ≠ lo := Nat.ne_of_lt (Nat.lt_of_lt_of_le Cf_233.lt sz3)
    have ne_tw_lb : tw ≠ lb := Nat.ne_of_lt (Nat.lt_of_lt_of_le Cf_234.lt sz1)
    have ne_tw_ib : tw ≠ ib := Nat.ne_of_lt (Nat.lt_of_lt_of_le Cf_234.lt sz2)
    have ne_tw_lo : tw ≠ lo := Nat.ne_of_lt (Nat.lt_of_lt_of_le Cf_234.lt sz3)
    have ne_th_lb : th ≠ lb := Nat.ne_of_lt (Nat.lt_of_lt_of_le Cf_235.lt sz1)
    have ne_th_ib : th ≠ ib := Nat.ne_of_lt (Nat.lt_of_lt_of_le Cf_235.lt sz2)
    have ne_th_lo : th ≠ lo := Nat.ne_of_lt (Nat.lt_of_lt_of_le Cf_235.lt sz3)
    have ne_ca_lb : ca ≠ lb := Nat.ne_of_lt (Nat.lt_of_lt_of_le Cf_236.lt sz1)
    have ne_ca_ib : ca ≠ ib := Nat.ne_of_lt (Nat.lt_of_lt_of_le Cf_236.lt sz2)
    have ne_ca_lo : ca ≠ lo := Nat.ne_of_lt (Nat.lt_of_lt_of_le Cf_236.lt sz3)
    have N237 := Fr.app N225 N237q
    have Ef_239 := A231.keep K237
    have Cf_248 := Cf_233.keep K237 (ninS ne_on_t nin0)
    have Cf_249 := Cf_234.keep K237 (ninS ne_tw_t nin0)
    have Cf_250 := Cf_235.keep K237 (ninS ne_th_t nin0)
    have Cf_251 := Cf_236.keep K237 (ninS ne_ca_t nin0)
    have zl237 := Nat.le_trans zl231 K237.1
    obtain ⟨E_237, Fleaks_237, Fleaes_237, Finnks_237, Finnrs_237, FleaOf_237, Frooot_237, Fheiht_237, Fregar_237, Clb_237, Cib_237, Clo_237⟩ := S237
    obtain ⟨ne_t_lb, ne_t_ib, ne_t_lo, ne_lb_ib, ne_lb_lo, ne_ib_lo, g_t9, g_lb, g_ib, g_lo⟩ := id D01
    have OR : own_Or n n (own_od mv im r') := own_od_Or (by omega) (by omega)
    refine Own.astore 230 #[.val (.int x0), .val (.int x1), .val (.int x2), .val (.int x3), .val (.int x4), .val (.int x5), .val (.int (Own.N (n))), .val (.int (Own.N (mv))), .val (.int (Own.N (2))), .val (.int (Own.N (qq))), .val (.int (Own.N (im))), .val (.int (Own.N (r'))), .val (.int (Own.N (p1))), .val (.int (Own.N (p2))), .val (.int (Own.N (p3))), .val (.ref on), .val (.ref tw), .val (.ref th), .val (.ref ca), .val (.ref t), .unset] X237 hx (hb hby at_228) rfl rfl rfl ?_
    refine Own.iload 232 X237 hx (hb hby at_230) rfl rfl ?_
    refine Own.iconst 233 X237 hx (Own.N 1) (hb hby at_232) rfl rfl ?_
    have K245 : ∀ (B inn rt ht rg : Nat) (pre : Nat → Nat) (fL fI fO : Nat → Int32) (Tq : State) (Lq : List Loc) (hq : Heap) (Xq : Stand p l e room_1 s m #[(.int x0), (.int x1), (.int x2), (.int x3), (.int x4), (.int x5)] below meth c Tq Lq 9 27797) (eqq : Tq.heap = hq) (Nq : Fr n0 Lq) (Zq : n0 ≤ hq.size) (Sq : own_S Z hq t lb ib lo L inn rt ht rg zL zI n fL fI fO) (TT : own_T L n B rt ht rg zL zI pre fL fI) (LF : own_Lf L pre (own_od mv im r') fL fO) (C_on : Own.Arf Z hq on 1 (Own.upd (fun _ => 0) (0) (Own.N (p1)))) (C_tw : Own.Arf Z hq tw 2 (Own.upd (Own.upd (fun _ => 0) (0) (Own.N (p1))) (1) (Own.N (p2)))) (C_th : Own.Arf Z hq th 3 (Own.upd (Own.upd (Own.upd (fun _ => 0) (0) (Own.N (p1))) (1) (Own.N (p2))) (2) (Own.N (p3)))) (C_ca : Own.Arf Z hq ca 7 (Own.upd (Own.upd (Own.upd (Own.upd (Own.upd (Own.upd (Own.upd (fun _ => 0) (0) (Own.N (mv))) (1) (Own.N (im))) (2) (Own.N (r'))) (3) (Own.N (2))) (4) (Own.N (p1))) (5) (Own.N (p2))) (6) (Own.N (p3)))), Own.Ends p.tables e below (fun v h L => v = some (.int 1) ∧ Fr n0 L) (Own.FE s room_1.cells room_1.slots) (Tq.setTop (mkF m 245 #[.val (.int x0), .val (.int x1), .val (.int x2), .val (.int x3), .val (.int x4), .val (.int x5), .val (.int (Own.N (n))), .val (.int (Own.N (mv))), .val (.int (Own.N (2))), .val (.int (Own.N (qq))), .val (.int (Own.N (im))), .val (.int (Own.N (r'))), .val (.int (Own.N (p1))), .val (.int (Own.N (p2))), .val (.int (Own.N (p3))), .val (.ref on), .val (.ref tw), .val (.ref th), .val (.ref ca), .val (.ref t), .unset] [])) := by
      intro B inn rt ht rg pre fL fI fO Tq Lq hq Xq eqq Nq Zq Sq TT LF C_on C_tw C_th C_ca
      obtain ⟨E_252, Fleaks_252, Fleaes_252, Finnks_252, Finnrs_252, FleaOf_252, Frooot_252, Fheiht_252, Fregar_252, Clb_252, Cib_252, Clo_252⟩ := Sq
      refine Own.iload 247 Xq hx (hb hby at_245) rfl rfl ?_
      refine Own.iconst 248 Xq hx (Own.N 1) (hb hby at_247) rfl rfl ?_
      refine Own.nicmp_ne 261 251 Xq hx (hb hby at_248) (by decide) rfl (by omega) (by omega) (fun tk => ?_) (fun tk => False.elim (by omega))
      refine Own.iload 263 Xq hx (hb hby at_261) rfl rfl ?_
      refine Own.iconst 264 Xq hx (Own.N 2) (hb hby at_263) rfl rfl ?_
      refine Own.nicmp_ne 277 267 Xq hx (hb hby at_264) (by decide) rfl (by omega) (by omega) (fun tk => False.elim (by omega)) (fun tk => ?_)
      refine Own.aload 269 Xq hx (hb hby at_267) rfl rfl rfl ?_
      refine Own.aload 271 Xq hx (hb hby at_269) rfl rfl rfl ?_
      refine Own.callVt 274 0 t [(.ref tw)] [] Xq hx hZ hown (m7_2 l Z a0 w t tw lb ib lo _ _ _ _ _ _ _ _ n0 _ _ _ p1 p2 p3 _ L n B pre (own_od mv im r') _ Zq D01 ⟨E_252, Fleaks_252, Fleaes_252, Finnks_252, Finnrs_252, FleaOf_252, Frooot_252, Fheiht_252, Fregar_252, Clb_252, Cib_252, Clo_252⟩ TT OR LF (by omega) C_tw ⟨ne_tw_t, ne_tw_lb, ne_tw_ib, ne_tw_lo⟩ (by simp [Own.upd]) ⟨by omega, by omega⟩ (by simp [Own.upd]) ⟨by omega, by omega⟩ d12) E_252 (notFace_of_selects (args := #[]) (mvT hZ (w 51 rfl))) (w 48 rfl) (w 49 rfl) (w 51 rfl) (w 50 rfl) (w 4 rfl) (w 52 rfl) (by decide) eqq (by decide) (by decide) (by decide) (by decide) (by rw [hml]; rfl) (lenOf pd_9 rfl) rfl (Nat.le_of_eq rfl) (hb hby at_271) rfl ?_
      rintro vv T253 L253 X253 ⟨rfl, N253q, K253, hL', hO', S253, TT2, LF2⟩
      have N253 := Fr.app Nq N253q
      have Ef_255 := E_252.keep K253
      have Cf_264 := C_on.keep K253 (ninS ne_on_t (ninS ne_on_lb (ninS ne_on_ib (ninS ne_on_lo nin0))))
      have Cf_265 := C_tw.keep K253 (ninS ne_tw_t (ninS ne_tw_lb (ninS ne_tw_ib (ninS ne_tw_lo nin0))))
      have Cf_266 := C_th.keep K253 (ninS ne_th_t (ninS ne_th_lb (ninS ne_th_ib (ninS ne_th_lo nin0))))
      have Cf_267 := C_ca.keep K253 (ninS ne_ca_t (ninS ne_ca_lb (ninS ne_ca_ib (ninS ne_ca_lo nin0))))
      have zl253 := Nat.le_trans Zq K253.1
      obtain ⟨E_253, Fleaks_253, Fleaes_253, Finnks_253, Finnrs_253, FleaOf_253, Frooot_253, Fheiht_253, Fregar_253, Clb_253, Cib_253, Clo_253⟩ := S253
      have OR2 : own_Or n n (own_ro 2 (p1 - 1) (p2 - 1) (p3 - 1) (own_od mv im r')) := own_ro_Or OR (by decide) (by omega) (fun _ => ⟨by omega, own_nes d12 hp1.1 hp2.1⟩) (fun q9 => absurd q9 (by decide))
      have a_p1 : own_af mv im r' 2 p1 p2 p3 p1 = (own_ro 2 (p1 - 1) (p2 - 1) (p3 - 1) (own_od mv im r')) (p1 - 1) := own_af_ro (by omega) (by omega) (by omega) (by omega) (by omega)
      have b_p1 := (OR2 (p1 - 1) (by omega)).1
      have a_p2 : own_af mv im r' 2 p1 p2 p3 p2 = (own_ro 2 (p1 - 1) (p2 - 1) (p3 - 1) (own_od mv im r')) (p2 - 1) := own_af_ro (by omega) (by omega) (by omega) (by omega) (by omega)
      have b_p2 := (OR2 (p2 - 1) (by omega)).1
      have a_qq : own_af mv im r' 2 p1 p2 p3 qq = (own_ro 2 (p1 - 1) (p2 - 1) (p3 - 1) (own_od mv im r')) (qq - 1) := own_af_ro (by omega) (by omega) (by omega) (by omega) (by omega)
      have b_qq := (OR2 (qq - 1) (by omega)).1
      refine Own.goto 284 X253 hx (hb hby at_274) (by decide) ?_
      refine Own.aload 286 X253 hx (hb hby at_284) rfl rfl rfl ?_
      refine Own.iload 288 X253 hx (hb hby at_286) rfl rfl ?_
      refine Own.callVt 291 0 t [(.int (Own.N (p1)))] [] X253 hx hZ hown (m9 l Z a0 w t lb ib lo _ _ _ _ _ _ _ _ n0 _ _ _ p1 L n B pre (own_ro 2 (p1 - 1) (p2 - 1) (p3 - 1) (own_od mv im r')) _ ⟨E_253, Fleaks_253, Fleaes_253, Finnks_253, Finnrs_253, FleaOf_253, Frooot_253, Fheiht_253, Fregar_253, Clb_253, Cib_253, Clo_253⟩ TT2 OR2 LF2 ⟨by omega, by omega⟩) E_253 (notFace_of_selects (args := #[]) (mvT hZ (w 60 rfl))) (w 57 rfl) (w 58 rfl) (w 60 rfl) (w 59 rfl) (w 4 rfl) (w 61 rfl) (by decide) rfl (by decide) (by decide) (by decide) (by decide) (by rw [hml]; rfl) (lenOf pd_1 rfl) rfl (Nat.le_of_eq rfl) (hb hby at_288) rfl ?_
      rintro vv T271 L271 X271 ⟨rfl, hh271, rfl⟩
      have N271 := Fr.app N253 (Fr.nil _)
      refine Own.aload 293 X271 hx (hb hby at_291) rfl rfl rfl ?_
      refine Own.iload 295 X271 hx (hb hby at_293) rfl rfl ?_
      refine Own.callSt 298 1 [(.ref ca), (.int (Own.N (p1)))] [(.int (Own.N ((own_ro 2 (p1 - 1) (p2 - 1) (p3 - 1) (own_od mv im r')) (p1 - 1))))] X271 hx hZ hown (m10 l Z a0 w ca mv im r' 2 p1 p2 p3 p1 _ _ Cf_267 (by simp [Own.upd]) (by simp [Own.upd]) (by simp [Own.upd]) (by simp [Own.upd]) (by simp [Own.upd]) (by simp [Own.upd]) (by simp [Own.upd]) (by omega) (by omega) (by omega) (by omega) (by omega) (by omega) (by omega) (by omega) (by omega)) (w 62 rfl) (w 63 rfl) (w 64 rfl) (w 65 rfl) (by decide) hh271 (by decide) (by decide) (by decide) (by decide) (by rw [hml]; rfl) (lenOf pd_0 rfl) rfl (Nat.le_of_eq rfl) (hb hby at_295) rfl ?_
      rintro vv T272 L272 X272 ⟨rfl, hh272, rfl⟩
      have N272 := Fr.app N271 (Fr.nil _)
      refine Own.nicmp_ne 305 301 X272 hx (hb hby at_298) (by decide) rfl (by omega) (by omega) (fun tk => False.elim (by omega)) (fun tk => ?_)
      refine Own.iconst 302 X272 hx (Own.N 1) (hb hby at_301) rfl rfl ?_
      refine Own.goto 306 X272 hx (hb hby at_302) (by decide) ?_
      refine Own.istoreV 308 #[.val (.int x0), .val (.int x1), .val (.int x2), .val (.int x3), .val (.int x4), .val (.int x5), .val (.int (Own.N (n))), .val (.int (Own.N (mv))), .val (.int (Own.N (2))), .val (.int (Own.N (qq))), .val (.int (Own.N (im))), .val (.int (Own.N (r'))), .val (.int (Own.N (p1))), .val (.int (Own.N (p2))), .val (.int (Own.N (p3))), .val (.ref on), .val (.ref tw), .val (.ref th), .val (.ref ca), .val (.ref t), .val (.int (Own.N (1)))] X272 hx (hb hby at_306) rfl rfl ?_
      refine Own.iload 310 X272 hx (hb hby at_308) rfl rfl ?_
      refine Own.iconst 311 X272 hx (Own.N 2) (hb hby at_310) rfl rfl ?_
      refine Own.nicmp_lt 343 314 X272 hx (hb hby at_311) (by decide) rfl (by omega) (by omega) (fun tk => False.elim (by omega)) (fun tk => ?_)
      refine Own.iload 316 X272 hx (hb hby at_314) rfl rfl ?_
      refine Own.nif_eq 340 319 X272 hx (hb hby at_316) (by decide) rfl (by omega) (fun tk => False.elim (by omega)) (fun tk => ?_)
      refine Own.aload 321 X272 hx (hb hby at_319) rfl rfl rfl ?_
      refine Own.iload 323 X272 hx (hb hby at_321) rfl rfl ?_
      refine Own.callVt 326 0 t [(.int (Own.N (p2)))] [] X272 hx hZ hown (m9 l Z a0 w t lb ib lo _ _ _ _ _ _ _ _ n0 _ _ _ p2 L n B pre (own_ro 2 (p1 - 1) (p2 - 1) (p3 - 1) (own_od mv im r')) _ ⟨E_253, Fleaks_253, Fleaes_253, Finnks_253, Finnrs_253, FleaOf_253, Frooot_253, Fheiht_253, Fregar_253, Clb_253, Cib_253, Clo_253⟩ TT2 OR2 LF2 ⟨by omega, by omega⟩) E_253 (notFace_of_selects (args := #[]) (mvT hZ (w 60 rfl))) (w 57 rfl) (w 58 rfl) (w 60 rfl) (w 59 rfl) (w 4 rfl) (w 61 rfl) (by decide) hh272 (by decide) (by decide) (by decide) (by decide) (by rw [hml]; rfl) (lenOf pd_1 rfl) rfl (Nat.le_of_eq rfl) (hb hby at_323) rfl ?_
      rintro vv T273 L273 X273 ⟨rfl, hh273, rfl⟩
      have N273 := Fr.app N272 (Fr.nil _)
      refine Own.aload 328 X273 hx (hb hby at_326) rfl rfl rfl ?_
      refine Own.iload 330 X273 hx (hb hby at_328) rfl rfl ?_
      refine Own.callSt 333 1 [(.ref ca), (.int (Own.N (p2)))] [(.int (Own.N ((own_ro 2 (p1 - 1) (p2 - 1) (p3 - 1) (own_od mv im r')) (p2 - 1))))] X273 hx hZ hown (m10 l Z a0 w ca mv im r' 2 p1 p2 p3 p2 _ _ Cf_267 (by simp [Own.upd]) (by simp [Own.upd]) (by simp [Own.upd]) (by simp [Own.upd]) (by simp [Own.upd]) (by simp [Own.upd]) (by simp [Own.upd]) (by omega) (by omega) (by omega) (by omega) (by omega) (by omega) (by omega) (by omega) (by omega)) (w 62 rfl) (w 63 rfl) (w 64 rfl) (w 65 rfl) (by decide) hh273 (by decide) (by decide) (by decide) (by decide) (by rw [hml]; rfl) (lenOf pd_0 rfl) rfl (Nat.le_of_eq rfl) (hb hby at_330) rfl ?_
      rintro vv T274 L274 X274 ⟨rfl, hh274, rfl⟩
      have N274 := Fr.app N273 (Fr.nil _)
      refine Own.nicmp_ne 340 336 X274 hx (hb hby at_333) (by decide) rfl (by omega) (by omega) (fun tk => False.elim (by omega)) (fun tk => ?_)
      refine Own.iconst 337 X274 hx (Own.N 1) (hb hby at_336) rfl rfl ?_
      refine Own.goto 341 X274 hx (hb hby at_337) (by decide) ?_
      refine Own.istoreV 343 #[.val (.int x0), .val (.int x1), .val (.int x2), .val (.int x3), .val (.int x4), .val (.int x5), .val (.int (Own.N (n))), .val (.int (Own.N (mv))), .val (.int (Own.N (2))), .val (.int (Own.N (qq))), .val (.int (Own.N (im))), .val (.int (Own.N (r'))), .val (.int (Own.N (p1))), .val (.int (Own.N (p2))), .val (.int (Own.N (p3))), .val (.ref on), .val (.ref tw), .val (.ref th), .val (.ref ca), .val (.ref t), .val (.int (Own.N (1)))] X274 hx (hb hby at_341) rfl rfl ?_
      refine Own.iload 345 X274 hx (hb hby at_343) rfl rfl ?_
      refine Own.iconst 346 X274 hx (Own.N 3) (hb hby at_345) rfl rfl ?_
      refine Own.nicmp_ne 378 349 X274 hx (hb hby at_346) (by decide) rfl (by omega) (by omega) (fun tk => ?_) (fun tk => False.elim (by omega))
      refine Own.iload 380 X274 hx (hb hby at_378) rfl rfl ?_
      refine Own.nif_eq 404 383 X274 hx (hb hby at_380) (by decide) rfl (by omega) (fun tk => False.elim (by omega)) (fun tk => ?_)
      refine Own.aload 385 X274 hx (hb hby at_383) rfl rfl rfl ?_
      refine Own.iload 387 X274 hx (hb hby at_385) rfl rfl ?_
      refine Own.callVt 390 0 t [(.int (Own.N (qq)))] [] X274 hx hZ hown (m9 l Z a0 w t lb ib lo _ _ _ _ _ _ _ _ n0 _ _ _ qq L n B pre (own_ro 2 (p1 - 1) (p2 - 1) (p3 - 1) (own_od mv im r')) _ ⟨E_253, Fleaks_253, Fleaes_253, Finnks_253, Finnrs_253, FleaOf_253, Frooot_253, Fheiht_253, Fregar_253, Clb_253, Cib_253, Clo_253⟩ TT2 OR2 LF2 ⟨by omega, by omega⟩) E_253 (notFace_of_selects (args := #[]) (mvT hZ (w 60 rfl))) (w 57 rfl) (w 58 rfl) (w 60 rfl) (w 59 rfl) (w 4 rfl) (w 61 rfl) (by decide) hh274 (by decide) (by decide) (by decide) (by decide) (by rw [hml]; rfl) (lenOf pd_1 rfl) rfl (Nat.le_of_eq rfl) (hb hby at_387) rfl ?_
      rintro vv T275 L275 X275 ⟨rfl, hh275, rfl⟩
      have N275 := Fr.app N274 (Fr.nil _)
      refine Own.aload 392 X275 hx (hb hby at_390) rfl rfl rfl ?_
      refine Own.iload 394 X275 hx (hb hby at_392) rfl rfl ?_
      refine Own.callSt 397 1 [(.ref ca), (.int (Own.N (qq)))] [(.int (Own.N ((own_ro 2 (p1 - 1) (p2 - 1) (p3 - 1) (own_od mv im r')) (qq - 1))))] X275 hx hZ hown (m10 l Z a0 w ca mv im r' 2 p1 p2 p3 qq _ _ Cf_267 (by simp [Own.upd]) (by simp [Own.upd]) (by simp [Own.upd]) (by simp [Own.upd]) (by simp [Own.upd]) (by simp [Own.upd]) (by simp [Own.upd]) (by omega) (by omega) (by omega) (by omega) (by omega) (by omega) (by omega) (by omega) (by omega)) (w 62 rfl) (w 63 rfl) (w 64 rfl) (w 65 rfl) (by decide) hh275 (by decide) (by decide) (by decide) (by decide) (by rw [hml]; rfl) (lenOf pd_0 rfl) rfl (Nat.le_of_eq rfl) (hb hby at_394) rfl ?_
      rintro vv T276 L276 X276 ⟨rfl, hh276, rfl⟩
      have N276 := Fr.app N275 (Fr.nil _)
      refine Own.nicmp_ne 404 400 X276 hx (hb hby at_397) (by decide) rfl (by omega) (by omega) (fun tk => False.elim (by omega)) (fun tk => ?_)
      refine Own.iconst 401 X276 hx (Own.N 1) (hb hby at_400) rfl rfl ?_
      refine Own.goto 405 X276 hx (hb hby at_401) (by decide) ?_
      refine Own.istoreV 407 #[.val (.int x0), .val (.int x1), .val (.int x2), .val (.int x3), .val (.int x4), .val (.int x5), .val (.int (Own.N (n))), .val (.int (Own.N (mv))), .val (.int (Own.N (2))), .val (.int (Own.N (qq))), .val (.int (Own.N (im))), .val (.int (Own.N (r'))), .val (.int (Own.N (p1))), .val (.int (Own.N (p2))), .val (.int (Own.N (p3))), .val (.ref on), .val (.ref tw), .val (.ref th), .val (.ref ca), .val (.ref t), .val (.int (Own.N (1)))] X276 hx (hb hby at_405) rfl rfl ?_
      refine Own.iload 409 X276 hx (hb hby at_407) rfl rfl ?_
      refine Own.nif_eq 433 412 X276 hx (hb hby at_409) (by decide) rfl (by omega) (fun tk => False.elim (by omega)) (fun tk => ?_)
      refine Own.aload 414 X276 hx (hb hby at_412) rfl rfl rfl ?_
      refine Own.aload 416 X276 hx (hb hby at_414) rfl rfl rfl ?_
      refine Own.iload 418 X276 hx (hb hby at_416) rfl rfl ?_
      refine Own.callSt 421 1 [(.ref ca), (.int (Own.N (p1)))] [(.ref t)] X276 hx hZ hown (m10 l Z a0 w ca mv im r' 2 p1 p2 p3 p1 _ _ Cf_267 (by simp [Own.upd]) (by simp [Own.upd]) (by simp [Own.upd]) (by simp [Own.upd]) (by simp [Own.upd]) (by simp [Own.upd]) (by simp [Own.upd]) (by omega) (by omega) (by omega) (by omega) (by omega) (by omega) (by omega) (by omega) (by omega)) (w 62 rfl) (w 63 rfl) (w 64 rfl) (w 65 rfl) (by decide) hh276 (by decide) (by decide) (by decide) (by decide) (by rw [hml]; rfl) (lenOf pd_0 rfl) rfl (Nat.le_of_eq rfl) (hb hby at_418) rfl ?_
      rintro vv T277 L277 X277 ⟨rfl, hh277, rfl⟩
      have N277 := Fr.app N276 (Fr.nil _)
      refine Own.callVt 424 0 t [(.int (Own.N (own_af mv im r' 2 p1 p2 p3 p1)))] [] X277 hx hZ hown (m12 l Z a0 w t lb ib lo _ _ _ _ _ _ _ _ n0 _ _ _ (own_af mv im r' 2 p1 p2 p3 p1) (p1 - 1) L n B pre (own_ro 2 (p1 - 1) (p2 - 1) (p3 - 1) (own_od mv im r')) _ ⟨E_253, Fleaks_253, Fleaes_253, Finnks_253, Finnrs_253, FleaOf_253, Frooot_253, Fheiht_253, Fregar_253, Clb_253, Cib_253, Clo_253⟩ TT2 OR2 LF2 (by omega) (by omega) a_p1.symm) E_253 (notFace_of_selects (args := #[]) (mvT hZ (w 72 rfl))) (w 69 rfl) (w 70 rfl) (w 72 rfl) (w 71 rfl) (w 4 rfl) (w 73 rfl) (by decide) hh277 (by decide) (by decide) (by decide) (by decide) (by rw [hml]; rfl) (lenOf pd_1 rfl) rfl (Nat.le_of_eq rfl) (hb hby at_421) rfl ?_
      rintro vv T278 L278 X278 ⟨rfl, hh278, rfl⟩
      have N278 := Fr.app N277 (Fr.nil _)
      refine Own.iload 426 X278 hx (hb hby at_424) rfl rfl ?_
      refine Own.nicmp_ne 433 429 X278 hx (hb hby at_426) (by decide) rfl (by omega) (by omega) (fun tk => False.elim (by omega)) (fun tk => ?_)
      refine Own.iconst 430 X278 hx (Own.N 1) (hb hby at_429) rfl rfl ?_
      refine Own.goto 434 X278 hx (hb hby at_430) (by decide) ?_
      refine Own.istoreV 436 #[.val (.int x0), .val (.int x1), .val (.int x2), .val (.int x3), .val (.int x4), .val (.int x5), .val (.int (Own.N (n))), .val (.int (Own.N (mv))), .val (.int (Own.N (2))), .val (.int (Own.N (qq))), .val (.int (Own.N (im))), .val (.int (Own.N (r'))), .val (.int (Own.N (p1))), .val (.int (Own.N (p2))), .val (.int (Own.N (p3))), .val (.ref on), .val (.ref tw), .val (.ref th), .val (.ref ca), .val (.ref t), .val (.int (Own.N (1)))] X278 hx (hb hby at_434) rfl rfl ?_
      refine Own.iload 438 X278 hx (hb hby at_436) rfl rfl ?_
      refine Own.nif_eq 462 441 X278 hx (hb hby at_438) (by decide) rfl (by omega) (fun tk => False.elim (by omega)) (fun tk => ?_)
      refine Own.aload 443 X278 hx (hb hby at_441) rfl rfl rfl ?_
      refine Own.aload 445 X278 hx (hb hby at_443) rfl rfl rfl ?_
      refine Own.iload 447 X278 hx (hb hby at_445) rfl rfl ?_
      refine Own.callSt 450 1 [(.ref ca), (.int (Own.N (qq)))] [(.ref t)] X278 hx hZ hown (m10 l Z a0 w ca mv im r' 2 p1 p2 p3 qq _ _ Cf_267 (by simp [Own.upd]) (by simp [Own.upd]) (by simp [Own.upd]) (by simp [Own.upd]) (by simp [Own.upd]) (by simp [Own.upd]) (by simp [Own.upd]) (by omega) (by omega) (by omega) (by omega) (by omega) (by omega) (by omega) (by omega) (by omega)) (w 62 rfl) (w 63 rfl) (w 64 rfl) (w 65 rfl) (by decide) hh278 (by decide) (by decide) (by decide) (by decide) (by rw [hml]; rfl) (lenOf pd_0 rfl) rfl (Nat.le_of_eq rfl) (hb hby at_447) rfl ?_
      rintro vv T279 L279 X279 ⟨rfl, hh279, rfl⟩
      have N279 := Fr.app N278 (Fr.nil _)
      refine Own.callVt 453 0 t [(.int (Own.N (own_af mv im r' 2 p1 p2 p3 qq)))] [] X279 hx hZ hown (m12 l Z a0 w t lb ib lo _ _ _ _ _ _ _ _ n0 _ _ _ (own_af mv im r' 2 p1 p2 p3 qq) (qq - 1) L n B pre (own_ro 2 (p1 - 1) (p2 - 1) (p3 - 1) (own_od mv im r')) _ ⟨E_253, Fleaks_253, Fleaes_253, Finnks_253, Finnrs_253, FleaOf_253, Frooot_253, Fheiht_253, Fregar_253, Clb_253, Cib_253, Clo_253⟩ TT2 OR2 LF2 (by omega) (by omega) a_qq.symm) E_253 (notFace_of_selects (args := #[]) (mvT hZ (w 72 rfl))) (w 69 rfl) (w 70 rfl) (w 72 rfl) (w 71 rfl) (w 4 rfl) (w 73 rfl) (by decide) hh279 (by decide) (by decide) (by decide) (by decide) (by rw [hml]; rfl) (lenOf pd_1 rfl) rfl (Nat.le_of_eq rfl) (hb hby at_450) rfl ?_
      rintro vv T280 L280 X280 ⟨rfl, hh280, rfl⟩
      have N280 := Fr.app N279 (Fr.nil _)
      refine Own.iload 455 X280 hx (hb hby at_453) rfl rfl ?_
      refine Own.nicmp_ne 462 458 X280 hx (hb hby at_455) (by decide) rfl (by omega) (by omega) (fun tk => False.elim (by omega)) (fun tk => ?_)
      refine Own.iconst 459 X280 hx (Own.N 1) (hb hby at_458) rfl rfl ?_
      refine Own.goto 463 X280 hx (hb hby at_459) (by decide) ?_
      refine Own.istoreV 465 #[.val (.int x0), .val (.int x1), .val (.int x2), .val (.int x3), .val (.int x4), .val (.int x5), .val (.int (Own.N (n))), .val (.int (Own.N (mv))), .val (.int (Own.N (2))), .val (.int (Own.N (qq))), .val (.int (Own.N (im))), .val (.int (Own.N (r'))), .val (.int (Own.N (p1))), .val (.int (Own.N (p2))), .val (.int (Own.N (p3))), .val (.ref on), .val (.ref tw), .val (.ref th), .val (.ref ca), .val (.ref t), .val (.int (Own.N (1)))] X280 hx (hb hby at_463) rfl rfl ?_
      refine Own.iload 467 X280 hx (hb hby at_465) rfl rfl ?_
      refine Own.retBool X280 hx hlk hret (hb hby at_467) (by decide) (by decide) ?_
      exact ⟨rfl, N280⟩
    refine Own.nicmp_ne 245 236 X237 hx (hb hby at_233) (by decide) rfl (by omega) (by omega) (fun mv1 => ?_) (fun mv1 => ?_)
    ·
      exact K245 _ _ _ _ _ _ _ _ _ _ _ _ X237 rfl N237 zl237 ⟨E_237, Fleaks_237, Fleaes_237, Finnks_237, Finnrs_237, FleaOf_237, Frooot_237, Fheiht_237, Fregar_237, Clb_237, Cib_237, Clo_237⟩ TT (by rw [own_od, if_pos (by omega)]; exact LF) Cf_248 Cf_249 Cf_250 Cf_251
    ·
      refine Own.aload 238 X237 hx (hb hby at_236) rfl rfl rfl ?_
      refine Own.iload 240 X237 hx (hb hby at_238) rfl rfl ?_
      refine Own.iload 242 X237 hx (hb hby at_240) rfl rfl ?_
      refine Own.callVt 245 0 t [(.int (Own.N (im))), (.int (Own.N (r')))] [] X237 hx hZ hown (m15 l Z a0 w t lb ib lo _ _ _ _ _ _ _ n0 _ _ _ im r' im L n (own_pb n) (fun q => q) _ zl237 D01 ⟨E_237, Fleaks_237, Fleaes_237, Finnks_237, Finnrs_237, FleaOf_237, Frooot_237, Fheiht_237, Fregar_237, Clb_237, Cib_237, Clo_237⟩ TT (fun q hq => ⟨hq, fun _ _ e9 => e9⟩) LF (by omega) (by omega) rfl (by omega) BT) E_237 (notFace_of_selects (args := #[]) (mvT hZ (w 85 rfl))) (w 82 rfl) (w 83 rfl) (w 85 rfl) (w 84 rfl) (w 4 rfl) (w 86 rfl) (by decide) rfl (by decide) (by decide) (by decide) (by decide) (by rw [hml]; rfl) (lenOf pd_8 rfl) rfl (Nat.le_of_eq rfl) (hb hby at_242) rfl ?_
      rintro vv T281 L281 X281 ⟨rfl, N281q, K281, pre2, gL2, gI2, gO2, inn2, rt2, ht2, S281, TT2, LF2⟩
      have N281 := Fr.app N237 N281q
      have Ef_283 := E_237.keep K281
      have Cf_292 := Cf_248.keep K281 (ninS ne_on_t (ninS ne_on_lb (ninS ne_on_ib (ninS ne_on_lo nin0))))
      have Cf_293 := Cf_249.keep K281 (ninS ne_tw_t (ninS ne_tw_lb (ninS ne_tw_ib (ninS ne_tw_lo nin0))))
      have Cf_294 := Cf_250.keep K281 (ninS ne_th_t (ninS ne_th_lb (ninS ne_th_ib (ninS ne_th_lo nin0))))
      have Cf_295 := Cf_251.keep K281 (ninS ne_ca_t (ninS ne_ca_lb (ninS ne_ca_ib (ninS ne_ca_lo nin0))))
      have zl281 := Nat.le_trans zl237 K281.1
      obtain ⟨E_281, Fleaks_281, Fleaes_281, Finnks_281, Finnrs_281, FleaOf_281, Frooot_281, Fheiht_281, Fregar_281, Clb_281, Cib_281, Clo_281⟩ := S281
      exact K245 _ _ _ _ _ _ _ _ _ _ _ _ X281 rfl N281 zl281 ⟨E_281, Fleaks_281, Fleaes_281, Finnks_281, Finnrs_281, FleaOf_281, Frooot_281, Fheiht_281, Fregar_281, Clb_281, Cib_281, Clo_281⟩ TT2 (by rw [own_od, if_neg (by omega)]; exact LF2) Cf_292 Cf_293 Cf_294 Cf_295
  ·
    refine Own.iconst 109 X0 hx (Own.N 1) (hb hby at_108) rfl rfl ?_
    refine Own.retBool X0 hx hlk hret (hb hby at_109) (by decide) (by decide) ?_
    exact ⟨rfl, N0⟩
set_option maxRecDepth 65536 in
set_option maxHeartbeats 40000000 in
theorem law_3 (l : Launch) (Z : State) (a0 : Array Value) (w : ∀ (i : Nat) {d : Jvm.Cond}, tables_1[i]? = some d → d.before a0 Z = true) (x0 x1 x2 x3 x4 x5 : Int32) (n0 : Nat) (p : Program) (e : Env) (s : State) (m : MethodId) (below : List Frame) (meth : Method) (c : Code) (hx : p.tables.exec = Jvm.exec) (hby : c.code = code) (hml : c.maxLocals = 21) (hown : s.vm.findClass "com/example/frontrank/frontrank/OrderTreeRotatePinLaw" = some m.cls) (hret : meth.sig.returnType = some .boolean) (hlk : meth.locks = false) (hZ : Z.Warmed39 s.vm) (n mv qq im r' p1 p2 p3 : Nat) (hn : 1 ≤ n ∧ n ≤ 4096) (hmv : mv < 2) (hqq : 1 ≤ qq ∧ qq ≤ n) (him : im < n) (hr' : 1 ≤ r' ∧ r' ≤ n) (hp1 : 1 ≤ p1 ∧ p1 ≤ n) (hp2 : 1 ≤ p2 ∧ p2 ≤ n) (hp3 : 1 ≤ p3 ∧ p3 ≤ n) (h0 : Heap) (T0 : State) (X0 : Stand p l e room_1 s m #[(.int x0), (.int x1), (.int x2), (.int x3), (.int x4), (.int x5)] below meth c T0 [] 0 0) (e0 : T0.heap = h0) (Z0 : n0 ≤ h0.size) :
    Own.Ends p.tables e below (fun v h L => v = some (.int 1) ∧ Fr n0 L) (Own.FE s room_1.cells room_1.slots) (T0.setTop (mkF m 95 #[.val (.int x0), .val (.int x1), .val (.int x2), .val (.int x3), .val (.int x4), .val (.int x5), .val (.int (Own.N (n))), .val (.int (Own.N (mv))), .val (.int (Own.N (3))), .val (.int (Own.N (qq))), .val (.int (Own.N (im))), .val (.int (Own.N (r'))), .val (.int (Own.N (p1))), .val (.int (Own.N (p2))), .val (.int (Own.N (p3))), .unset, .unset, .unset, .unset, .unset, .unset] [])) := by
  have N0 := Fr.nil n0
  refine Own.iload 97 X0 hx (hb hby at_95) rfl rfl ?_
  refine Own.iconst 98 X0 hx (Own.N 2) (hb hby at_97) rfl rfl ?_
  refine Own.nicmp_lt 110 101 X0 hx (hb hby at_98) (by decide) rfl (by omega) (by omega) (fun tk => False.elim (by omega)) (fun tk => ?_)
  refine Own.iload 103 X0 hx (hb hby at_101) rfl rfl ?_
  refine Own.iload 105 X0 hx (hb hby at_103) rfl rfl ?_
  refine Own.nicmp_ne 110 108 X0 hx (hb hby at_105) (by decide) rfl (by omega) (by omega) (fun d12 => ?_) (fun d12 => ?_)
  ·
    refine Own.iload 112 X0 hx (hb hby at_110) rfl rfl ?_
    refine Own.iconst 113 X0 hx (Own.N 3) (hb hby at_112) rfl rfl ?_
    refine Own.nicmp_ne 132 116 X0 hx (hb hby at_113) (by decide) rfl (by omega) (by omega) (fun tk => False.elim (by omega)) (fun tk => ?_)
    refine Own.iload 118 X0 hx (hb hby at_116) rfl rfl ?_
    refine Own.iload 120 X0 hx (hb hby at_118) rfl rfl ?_
    refine Own.nicmp_eq 130 123 X0 hx (hb hby at_120) (by decide) rfl (by omega) (by omega) (fun d13 => ?_) (fun d13 => ?_)
    ·
      refine Own.iconst 131 X0 hx (Own.N 1) (hb hby at_130) rfl rfl ?_
      refine Own.retBool X0 hx hlk hret (hb hby at_131) (by decide) (by decide) ?_
      exact ⟨rfl, N0⟩
    ·
      refine Own.iload 125 X0 hx (hb hby at_123) rfl rfl ?_
      refine Own.iload 127 X0 hx (hb hby at_125) rfl rfl ?_
      refine Own.nicmp_ne 132 130 X0 hx (hb hby at_127) (by decide) rfl (by omega) (by omega) (fun d23 => ?_) (fun d23 => ?_)
      ·
        refine Own.iconst 133 X0 hx (Own.N 1) (hb hby at_132) rfl rfl ?_
        refine Own.nNew 135 1 X0 hx hZ (w 1 rfl) e0 (by omega) (by decide) (hb hby at_133) rfl (by decide) (by decide) ?_
        intro T299 h299 on z299 X299 e299 E299 C299
        have g_on : n0 ≤ on := Nat.le_trans Z0 (Nat.le_of_eq z299.symm)
        have zl299 := Nat.le_trans Z0 E299.1
        refine Own.dup 136 X299 hx (hb hby at_135) rfl rfl ?_
        refine Own.iconst 137 X299 hx (Own.N 0) (hb hby at_136) rfl rfl ?_
        refine Own.iload 139 X299 hx (hb hby at_137) rfl rfl ?_
        refine Own.nStore 140 X299 hx hZ e299 C299 (by omega) (hb hby at_139) rfl ?_
        intro T301 h301 X301 e301 W301 C301
        have N301 := Fr.snoc X301 N0 g_on
        have zl301 := Nat.le_trans zl299 (Nat.le_of_eq W301.size.symm)
        refine Own.astore 142 #[.val (.int x0), .val (.int x1), .val (.int x2), .val (.int x3), .val (.int x4), .val (.int x5), .val (.int (Own.N (n))), .val (.int (Own.N (mv))), .val (.int (Own.N (3))), .val (.int (Own.N (qq))), .val (.int (Own.N (im))), .val (.int (Own.N (r'))), .val (.int (Own.N (p1))), .val (.int (Own.N (p2))), .val (.int (Own.N (p3))), .val (.ref on), .unset, .unset, .unset, .unset, .unset] X301 hx (hb hby at_140) rfl rfl rfl ?_
        refine Own.iconst 143 X301 hx (Own.N 2) (hb hby at_142) rfl rfl ?_
        refine Own.nNew 145 2 X301 hx hZ (w 1 rfl) e301 (by omega) (by decide) (hb hby at_143) rfl (by decide) (by decide) ?_
        intro T304 h304 tw z304 X304 e304 E304 C304
        have ne_on_tw : on ≠ tw := Nat.ne_of_lt (Nat.lt_of_lt_of_le C301.lt (Nat.le_of_eq z304.symm))
        have g_tw : n0 ≤ tw := Nat.le_trans zl301 (Nat.le_of_eq z304.symm)
        have Cf_306 := C301.ext E304
        have zl304 := Nat.le_trans zl301 E304.1
        refine Own.dup 146 X304 hx (hb hby at_145) rfl rfl ?_
        refine Own.iconst 147 X304 hx (Own.N 0) (hb hby at_146) rfl rfl ?_
        refine Own.iload 149 X304 hx (hb hby at_147) rfl rfl ?_
        refine Own.nStore 150 X304 hx hZ e304 C304 (by omega) (hb hby at_149) rfl ?_
        intro T307 h307 X307 e307 W307 C307
        have N307 := Fr.snoc X307 N301 g_tw
        have Cf_309 := Cf_306.other W307 ne_on_tw
        have zl307 := Nat.le_trans zl304 (Nat.le_of_eq W307.size.symm)
        refine Own.dup 151 X307 hx (hb hby at_150) rfl rfl ?_
        refine Own.iconst 152 X307 hx (Own.N 1) (hb hby at_151) rfl rfl ?_
        refine Own.iload 154 X307 hx (hb hby at_152) rfl rfl ?_
        refine Own.nStore 155 X307 hx hZ e307 C307 (by omega) (hb hby at_154) rfl ?_
        intro T311 h311 X311 e311 W311 C311
        have N311 := Fr.snoc X311 N307 g_tw
        have Cf_313 := Cf_309.other W311 ne_on_tw
        have zl311 := Nat.le_trans zl307 (Nat.le_of_eq W311.size.symm)
        refine Own.astore 157 #[.val (.int x0), .val (.int x1), .val (.int x2), .val (.int x3), .val (.int x4), .val (.int x5), .val (.int (Own.N (n))), .val (.int (Own.N (mv))), .val (.int (Own.N (3))), .val (.int (Own.N (qq))), .val (.int (Own.N (im))), .val (.int (Own.N (r'))), .val (.int (Own.N (p1))), .val (.int (Own.N (p2))), .val (.int (Own.N (p3))), .val (.ref on), .val (.ref tw), .unset, .unset, .unset, .unset] X311 hx (hb hby at_155) rfl rfl rfl ?_
        refine Own.iconst 158 X311 hx (Own.N 3) (hb hby at_157) rfl rfl ?_
        refine Own.nNew 160 3 X311 hx hZ (w 1 rfl) e311 (by omega) (by decide) (hb hby at_158) rfl (by decide) (by decide) ?_
        intro T315 h315 th z315 X315 e315 E315 C315
        have ne_on_th : on ≠ th := Nat.ne_of_lt (Nat.lt_of_lt_of_le Cf_313.lt (Nat.le_of_eq z315.symm))
        have ne_tw_th : tw ≠ th := Nat.ne_of_lt (Nat.lt_of_lt_of_le C311.lt (Nat.le_of_eq z315.symm))
        have g_th : n0 ≤ th := Nat.le_trans zl311 (Nat.le_of_eq z315.symm)
        have Cf_317 := Cf_313.ext E315
        have Cf_318 := C311.ext E315
        have zl315 := Nat.le_trans zl311 E315.1
        refine Own.dup 161 X315 hx (hb hby at_160) rfl rfl ?_
        refine Own.iconst 162 X315 hx (Own.N 0) (hb hby at_161) rfl rfl ?_
        refine Own.iload 164 X315 hx (hb hby at_162) rfl rfl ?_
        refine Own.nStore 165 X315 hx hZ e315 C315 (by omega) (hb hby at_164) rfl ?_
        intro T319 h319 X319 e319 W319 C319
        have N319 := Fr.snoc X319 N311 g_th
        have Cf_321 := Cf_317.other W319 ne_on_th
        have Cf_322 := Cf_318.other W319 ne_tw_th
        have zl319 := Nat.le_trans zl315 (Nat.le_of_eq W319.size.symm)
        refine Own.dup 166 X319 hx (hb hby at_165) rfl rfl ?_
        refine Own.iconst 167 X319 hx (Own.N 1) (hb hby at_166) rfl rfl ?_
        refine Own.iload 169 X319 hx (hb hby at_167) rfl rfl ?_
        refine Own.nStore 170 X319 hx hZ e319 C319 (by omega) (hb hby at_169) rfl ?_
        intro T324 h324 X324 e324 W324 C324
        have N324 := Fr.snoc X324 N319 g_th
        have Cf_326 := Cf_321.other W324 ne_on_th
        have Cf_327 := Cf_322.other W324 ne_tw_th
        have zl324 := Nat.le_trans zl319 (Nat.le_of_eq W324.size.symm)
        refine Own.dup 171 X324 hx (hb hby at_170) rfl rfl ?_
        refine Own.iconst 172 X324 hx (Own.N 2) (hb hby at_171) rfl rfl ?_
        refine Own.iload 174 X324 hx (hb hby at_172) rfl rfl ?_
        refine Own.nStore 175 X324 hx hZ e324 C324 (by omega) (hb hby at_174) rfl ?_
        intro T329 h329 X329 e329 W329 C329
        have N329 := Fr.snoc X329 N324 g_th
        have Cf_331 := Cf_326.other W329 ne_on_th
        have Cf_332 := Cf_327.other W329 ne_tw_th
        have zl329 := Nat.le_trans zl324 (Nat.le_of_eq W329.size.symm)
        refine Own.astore 177 #[.val (.int x0), .val (.int x1), .val (.int x2), .val (.int x3), .val (.int x4), .val (.int x5), .val (.int (Own.N (n))), .val (.int (Own.N (mv))), .val (.int (Own.N (3))), .val (.int (Own.N (qq))), .val (.int (Own.N (im))), .val (.int (Own.N (r'))), .val (.int (Own.N (p1))), .val (.int (Own.N (p2))), .val (.int (Own.N (p3))), .val (.ref on), .val (.ref tw), .val (.ref th), .unset, .unset, .unset] X329 hx (hb hby at_175) rfl rfl rfl ?_
        refine Own.bipush 179 X329 hx (Own.N 7) (hb hby at_177) rfl rfl ?_
        refine Own.nNew 181 7 X329 hx hZ (w 1 rfl) e329 (by omega) (by decide) (hb hby at_179) rfl (by decide) (by decide) ?_
        intro T334 h334 ca z334 X334 e334 E334 C334
        have ne_on_ca : on ≠ ca := Nat.ne_of_lt (Nat.lt_of_lt_of_le Cf_331.lt (Nat.le_of_eq z334.symm))
        have ne_th_ca : th ≠ ca := Nat.ne_of_lt (Nat.lt_of_lt_of_le C329.lt (Nat.le_of_eq z334.symm))
        have ne_tw_ca : tw ≠ ca := Nat.ne_of_lt (Nat.lt_of_lt_of_le Cf_332.lt (Nat.le_of_eq z334.symm))
        have g_ca : n0 ≤ ca := Nat.le_trans zl329 (Nat.le_of_eq z334.symm)
        have Cf_336 := Cf_331.ext E334
        have Cf_337 := Cf_332.ext E334
        have Cf_338 := C329.ext E334
        have zl334 := Nat.le_trans zl329 E334.1
        refine Own.dup 182 X334 hx (hb hby at_181) rfl rfl ?_
        refine Own.iconst 183 X334 hx (Own.N 0) (hb hby at_182) rfl rfl ?_
        refine Own.iload 185 X334 hx (hb hby at_183) rfl rfl ?_
        refine Own.nStore 186 X334 hx hZ e334 C334 (by omega) (hb hby at_185) rfl ?_
        intro T339 h339 X339 e339 W339 C339
        have N339 := Fr.snoc X339 N329 g_ca
        have Cf_341 := Cf_336.other W339 ne_on_ca
        have Cf_342 := Cf_337.other W339 ne_tw_ca
        have Cf_343 := Cf_338.other W339 ne_th_ca
        have zl339 := Nat.le_trans zl334 (Nat.le_of_eq W339.size.symm)
        refine Own.dup 187 X339 hx (hb hby at_186) rfl rfl ?_
        refine Own.iconst 188 X339 hx (Own.N 1) (hb hby at_187) rfl rfl ?_
        refine Own.iload 190 X339 hx (hb hby at_188) rfl rfl ?_
        refine Own.nStore 191 X339 hx hZ e339 C339 (by omega) (hb hby at_190) rfl ?_
        intro T345 h345 X345 e345 W345 C345
        have N345 := Fr.snoc X345 N339 g_ca
        have Cf_347 := Cf_341.other W345 ne_on_ca
        have Cf_348 := Cf_342.other W345 ne_tw_ca
        have Cf_349 := Cf_343.other W345 ne_th_ca
        have zl345 := Nat.le_trans zl339 (Nat.le_of_eq W345.size.symm)
        refine Own.dup 192 X345 hx (hb hby at_191) rfl rfl ?_
        refine Own.iconst 193 X345 hx (Own.N 2) (hb hby at_192) rfl rfl ?_
        refine Own.iload 195 X345 hx (hb hby at_193) rfl rfl ?_
        refine Own.nStore 196 X345 hx hZ e345 C345 (by omega) (hb hby at_195) rfl ?_
        intro T351 h351 X351 e351 W351 C351
        have N351 := Fr.snoc X351 N345 g_ca
        have Cf_353 := Cf_347.other W351 ne_on_ca
        have Cf_354 := Cf_348.other W351 ne_tw_ca
        have Cf_355 := Cf_349.other W351 ne_th_ca
        have zl351 := Nat.le_trans zl345 (Nat.le_of_eq W351.size.symm)
        refine Own.dup 197 X351 hx (hb hby at_196) rfl rfl ?_
        refine Own.iconst 198 X351 hx (Own.N 3) (hb hby at_197) rfl rfl ?_
        refine Own.iload 200 X351 hx (hb hby at_198) rfl rfl ?_
        refine Own.nStore 201 X351 hx hZ e351 C351 (by omega) (hb hby at_200) rfl ?_
        intro T357 h357 X357 e357 W357 C357
        have N357 := Fr.snoc X357 N351 g_ca
        have Cf_359 := Cf_353.other W357 ne_on_ca
        have Cf_360 := Cf_354.other W357 ne_tw_ca
        have Cf_361 := Cf_355.other W357 ne_th_ca
        have zl357 := Nat.le_trans zl351 (Nat.le_of_eq W357.size.symm)
        refine Own.dup 202 X357 hx (hb hby at_201) rfl rfl ?_
        refine Own.iconst 203 X357 hx (Own.N 4) (hb hby at_202) rfl rfl ?_
        refine Own.iload 205 X357 hx (hb hby at_203) rfl rfl ?_
        refine Own.nStore 206 X357 hx hZ e357 C357 (by omega) (hb hby at_205) rfl ?_
        intro T363 h363 X363 e363 W363 C363
        have N363 := Fr.snoc X363 N357 g_ca
        have Cf_365 := Cf_359.other W363 ne_on_ca
        have Cf_366 := Cf_360.other W363 ne_tw_ca
        have Cf_367 := Cf_361.other W363 ne_th_ca
        have zl363 := Nat.le_trans zl357 (Nat.le_of_eq W363.size.symm)
        refine Own.dup 207 X363 hx (hb hby at_206) rfl rfl ?_
        refine Own.iconst 208 X363 hx (Own.N 5) (hb hby at_207) rfl rfl ?_
        refine Own.iload 210 X363 hx (hb hby at_208) rfl rfl ?_
        refine Own.nStore 211 X363 hx hZ e363 C363 (by omega) (hb hby at_210) rfl ?_
        intro T369 h369 X369 e369 W369 C369
        have N369 := Fr.snoc X369 N363 g_ca
        have Cf_371 := Cf_365.other W369 ne_on_ca
        have Cf_372 := Cf_366.other W369 ne_tw_ca
        have Cf_373 := Cf_367.other W369 ne_th_ca
        have zl369 := Nat.le_trans zl363 (Nat.le_of_eq W369.size.symm)
        refine Own.dup 212 X369 hx (hb hby at_211) rfl rfl ?_
        refine Own.bipush 214 X369 hx (Own.N 6) (hb hby at_212) rfl rfl ?_
        refine Own.iload 216 X369 hx (hb hby at_214) rfl rfl ?_
        refine Own.nStore 217 X369 hx hZ e369 C369 (by omega) (hb hby at_216) rfl ?_
        intro T375 h375 X375 e375 W375 C375
        have N375 := Fr.snoc X375 N369 g_ca
        have Cf_377 := Cf_371.other W375 ne_on_ca
        have Cf_378 := Cf_372.other W375 ne_tw_ca
        have Cf_379 := Cf_373.other W375 ne_th_ca
        have zl375 := Nat.le_trans zl369 (Nat.le_of_eq W375.size.symm)
        refine Own.astore 219 #[.val (.int x0), .val (.int x1), .val (.int x2), .val (.int x3), .val (.int x4), .val (.int x5), .val (.int (Own.N (n))), .val (.int (Own.N (mv))), .val (.int (Own.N (3))), .val (.int (Own.N (qq))), .val (.int (Own.N (im))), .val (.int (Own.N (r'))), .val (.int (Own.N (p1))), .val (.int (Own.N (p2))), .val (.int (Own.N (p3))), .val (.ref on), .val (.ref tw), .val (.ref th), .val (.ref ca), .unset, .unset] X375 hx (hb hby at_217) rfl rfl rfl ?_
        refine Own.newObj 222 X375 hx hZ hown (w 2 rfl) (w 3 rfl) (w 4 rfl) e375 (hb hby at_219) rfl (by decide) (by decide) ?_
        intro T381 h381 t z381 X381 e381 E381 A381 D381
        have ne_ca_t : ca ≠ t := Nat.ne_of_lt (Nat.lt_of_lt_of_le C375.lt (Nat.le_of_eq z381.symm))
        have ne_on_t : on ≠ t := Nat.ne_of_lt (Nat.lt_of_lt_of_le Cf_377.lt (Nat.le_of_eq z381.symm))
        have ne_th_t : th ≠ t := Nat.ne_of_lt (Nat.lt_of_lt_of_le Cf_379.lt (Nat.le_of_eq z381.symm))
        have ne_tw_t : tw ≠ t := Nat.ne_of_lt (Nat.lt_of_lt_of_le Cf_378.lt (Nat.le_of_eq z381.symm))
        have g_t : n0 ≤ t := Nat.le_trans zl375 (Nat.le_of_eq z381.symm)
        have Cf_383 := Cf_377.ext E381
        have Cf_384 := Cf_378.ext E381
        have Cf_385 := Cf_379.ext E381
        have Cf_386 := C375.ext E381
        have zl381 := Nat.le_trans zl375 E381.1
        have F381_leafBlocks : Fld Z h381 t "com/example/frontrank/frontrank/OrderTree" "leafBlocks" "[I" .null := D381 (Or.inr (w 13 rfl)) (ty := (.array .int)) (by decide)
        have F381_innerBlocks : Fld Z h381 t "com/example/frontrank/frontrank/OrderTree" "innerBlocks" "[I" .null := D381 (Or.inl (w 15 rfl)) (ty := (.array .int)) (by decide)
        have F381_leafOf : Fld Z h381 t "com/example/frontrank/frontrank/OrderTree" "leafOf" "[I" .null := D381 (Or.inr (w 17 rfl)) (ty := (.array .int)) (by decide)
        have F381_leaves : Fld Z h381 t "com/example/frontrank/frontrank/OrderTree" "leaves" "I" (.int (0 : Int32)) := D381 (Or.inl (w 23 rfl)) (ty := .int) (by decide)
        have F381_inners : Fld Z h381 t "com/example/frontrank/frontrank/OrderTree" "inners" "I" (.int (0 : Int32)) := D381 (Or.inl (w 33 rfl)) (ty := .int) (by decide)
        have F381_height : Fld Z h381 t "com/example/frontrank/frontrank/OrderTree" "height" "I" (.int (0 : Int32)) := D381 (Or.inl (w 35 rfl)) (ty := .int) (by decide)
        have F381_root : Fld Z h381 t "com/example/frontrank/frontrank/OrderTree" "root" "I" (.int (0 : Int32)) := D381 (Or.inl (w 45 rfl)) (ty := .int) (by decide)
        have F381_regular : Fld Z h381 t "com/example/frontrank/frontrank/OrderTree" "regular" "Z" (.int (0 : Int32)) := D381 (Or.inl (w 47 rfl)) (ty := .boolean) (by decide)
        refine Own.dup 223 X381 hx (hb hby at_222) rfl rfl ?_
        refine Own.iload 225 X381 hx (hb hby at_223) rfl rfl ?_
        refine Own.callInit 228 1 t [(.int (Own.N (n)))] [(.ref t)] X381 hx hZ hown (m1 l Z a0 w t n n0 _ zl381 g_t A381 F381_leafBlocks F381_leaves F381_innerBlocks F381_inners F381_leafOf F381_root F381_height F381_regular (by omega)) rfl (w 5 rfl) (w 6 rfl) (w 4 rfl) (w 7 rfl) (by decide) e381 (by decide) (by decide) (by decide) (by decide) (by rw [hml]; rfl) (lenOf pd_7 rfl) rfl (Nat.le_of_eq rfl) (hb hby at_225) rfl ?_
        rintro vv T387 L387 X387 ⟨rfl, N387q, K387, lb, ib, lo, inn, rt, ht, zL, zI, L, gL, gI, gO, D01, sz1, sz2, sz3, S387, TT, LF, hLn, BT⟩
        have ne_on_lb : on ≠ lb := Nat.ne_of_lt (Nat.lt_of_lt_of_le Cf_383.lt sz1)
        have ne_on_ib : on ≠ ib := Nat.ne_of_lt (Nat.lt_of_lt_of_le Cf_383.lt sz2)
        have ne_on_lo : on ≠ lo := Nat.ne_of_lt (Nat.lt_of_lt_of_le Cf_383.lt sz3)
        have ne_tw_lb : tw ≠ lb := Nat.ne_of_lt (Nat.lt_of_lt_of_le Cf_384.lt sz1)
        have ne_tw_ib : tw ≠ ib := Nat.ne_of_lt (Nat.lt_of_lt_of_le Cf_384.lt sz2)
        have ne_tw_lo : tw ≠ lo := Nat.ne_of_lt (Nat.lt_of_lt_of_le Cf_384.lt sz3)
        have ne_th_lb : th ≠ lb := Nat.ne_of_lt (Nat.lt_of_lt_of_le Cf_385.lt sz1)
        have ne_th_ib : th ≠ ib := Nat.ne_of_lt (Nat.lt_of_lt_of_le Cf_385.lt sz2)
        have ne_th_lo : th ≠ lo := Nat.ne_of_lt (Nat.lt_of_lt_of_le Cf_385.lt sz3)
        have ne_ca_lb : ca ≠ lb := Nat.ne_of_lt (Nat.lt_of_lt_of_le Cf_386.lt sz1)
        have ne_ca_ib : ca ≠ ib := Nat.ne_of_lt (Nat.lt_of_lt_of_le Cf_386.lt sz2)
        have ne_ca_lo : ca ≠ lo := Nat.ne_of_lt (Nat.lt_of_lt_of_le Cf_386.lt sz3)
        have N387 := Fr.app N375 N387q
        have Ef_389 := A381.keep K387
        have Cf_398 := Cf_383.keep K387 (ninS ne_on_t nin0)
        have Cf_399 := Cf_384.keep K387 (ninS ne_tw_t nin0)
        have Cf_400 := Cf_385.keep K387 (ninS ne_th_t nin0)
        have Cf_401 := Cf_386.keep K387 (ninS ne_ca_t nin0)
        have zl387 := Nat.le_trans zl381 K387.1
        obtain ⟨E_387, Fleaks_387, Fleaes_387, Finnks_387, Finnrs_387, FleaOf_387, Frooot_387, Fheiht_387, Fregar_387, Clb_387, Cib_387, Clo_387⟩ := S387
        obtain ⟨ne_t_lb, ne_t_ib, ne_t_lo, ne_lb_ib, ne_lb_lo, ne_ib_lo, g_t9, g_lb, g_ib, g_lo⟩ := id D01
        have OR : own_Or n n (own_od mv im r') := own_od_Or (by omega) (by omega)
        refine Own.astore 230 #[.val (.int x0), .val (.int x1), .val (.int x2), .val (.int x3), .val (.int x4), .val (.int x5), .val (.int (Own.N (n))), .val (.int (Own.N (mv))), .val (.int (Own.N (3))), .val (.int (Own.N (qq))), .val (.int (Own.N (im))), .val (.int (Own.N (r'))), .val (.int (Own.N (p1))), .val (.int (Own.N (p2))), .val (.int (Own.N (p3))), .val (.ref on), .val (.ref tw), .val (.ref th), .val (.ref ca), .val (.ref t), .unset] X387 hx (hb hby at_228) rfl rfl rfl ?_
        refine Own.iload 232 X387 hx (hb hby at_230) rfl rfl ?_
        refine Own.iconst 233 X387 hx (Own.N 1) (hb hby at_232) rfl rfl ?_
        have K245 : ∀ (B inn rt ht rg : Nat) (pre : Nat → Nat) (fL fI fO : Nat → Int32) (Tq : State) (Lq : List Loc) (hq : Heap) (Xq : Stand p l e room_1 s m #[(.int x0), (.int x1), (.int x2), (.int x3), (.int x4), (.int x5)] below meth c Tq Lq 9 27797) (eqq : Tq.heap = hq) (Nq : Fr n0 Lq) (Zq : n0 ≤ hq.size) (Sq : own_S Z hq t lb ib lo L inn rt ht rg zL zI n fL fI fO) (TT : own_T L n B rt ht rg zL zI pre fL fI) (LF : own_Lf L pre (own_od mv im r') fL fO) (C_on : Own.Arf Z hq on 1 (Own.upd (fun _ => 0) (0) (Own.N (p1)))) (C_tw : Own.Arf Z hq tw 2 (Own.upd (Own.upd (fun _ => 0) (0) (Own.N (p1))) (1) (Own.N (p2)))) (C_th : Own.Arf Z hq th 3 (Own.upd (Own.upd (Own.upd (fun _ => 0) (0) (Own.N (p1))) (1) (Own.N (p2))) (2) (Own.N (p3)))) (C_ca : Own.Arf Z hq ca 7 (Own.upd (Own.upd (Own.upd (Own.upd (Own.upd (Own.upd (Own.upd (fun _ => 0) (0) (Own.N (mv))) (1) (Own.N (im))) (2) (Own.N (r'))) (3) (Own.N (3))) (4) (Own.N (p1))) (5) (Own.N (p2))) (6) (Own.N (p3)))), Own.Ends p.tables e below (fun v h L => v = some (.int 1) ∧ Fr n0 L) (Own.FE s room_1.cells room_1.slots) (Tq.setTop (mkF m 245 #[.val (.int x0), .val (.int x1), .val (.int x2), .val (.int x3), .val (.int x4), .val (.int x5), .val (.int (Own.N (n))), .val (.int (Own.N (mv))), .val (.int (Own.N (3))), .val (.int (Own.N (qq))), .val (.int (Own.N (im))), .val (.int (Own.N (r'))), .val (.int (Own.N (p1))), .val (.int (Own.N (p2))), .val (.int (Own.N (p3))), .val (.ref on), .val (.ref tw), .val (.ref th), .val (.ref ca), .val (.ref t), .unset] [])) := by
          intro B inn rt ht rg pre fL fI fO Tq Lq hq Xq eqq Nq Zq Sq TT LF C_on C_tw C_th C_ca
          obtain ⟨E_402, Fleaks_402, Fleaes_402, Finnks_402, Finnrs_402, FleaOf_402, Frooot_402, Fheiht_402, Fregar_402, Clb_402, Cib_402, Clo_402⟩ := Sq
          refine Own.iload 247 Xq hx (hb hby at_245) rfl rfl ?_
          refine Own.iconst 248 Xq hx (Own.N 1) (hb hby at_247) rfl rfl ?_
          refine Own.nicmp_ne 261 251 Xq hx (hb hby at_248) (by decide) rfl (by omega) (by omega) (fun tk => ?_) (fun tk => False.elim (by omega))
          refine Own.iload 263 Xq hx (hb hby at_261) rfl rfl ?_
          refine Own.iconst 264 Xq hx (Own.N 2) (hb hby at_263) rfl rfl ?_
          refine Own.nicmp_ne 277 267 Xq hx (hb hby at_264) (by decide) rfl (by omega) (by omega) (fun tk => ?_) (fun tk => False.elim (by omega))
          refine Own.aload 279 Xq hx (hb hby at_277) rfl rfl rfl ?_
          refine Own.aload 281 Xq hx (hb hby at_279) rfl rfl rfl ?_
          refine Own.callVt 284 0 t [(.ref th)] [] Xq hx hZ hown (m7_3 l Z a0 w t th lb ib lo _ _ _ _ _ _ _ _ n0 _ _ _ p1 p2 p3 _ L n B pre (own_od mv im r') _ Zq D01 ⟨E_402, Fleaks_402, Fleaes_402, Finnks_402, Finnrs_402, FleaOf_402, Frooot_402, Fheiht_402, Fregar_402, Clb_402, Cib_402, Clo_402⟩ TT OR LF (by omega) C_th ⟨ne_th_t, ne_th_lb, ne_th_ib, ne_th_lo⟩ (by simp [Own.upd]) ⟨by omega, by omega⟩ (by simp [Own.upd]) ⟨by omega, by omega⟩ (by simp [Own.upd]) ⟨by omega, by omega⟩ d12 d13 d23) E_402 (notFace_of_selects (args := #[]) (mvT hZ (w 51 rfl))) (w 48 rfl) (w 49 rfl) (w 51 rfl) (w 50 rfl) (w 4 rfl) (w 52 rfl) (by decide) eqq (by decide) (by decide) (by decide) (by decide) (by rw [hml]; rfl) (lenOf pd_9 rfl) rfl (Nat.le_of_eq rfl) (hb hby at_281) rfl ?_
          rintro vv T403 L403 X403 ⟨rfl, N403q, K403, hL', hO', S403, TT2, LF2⟩
          have N403 := Fr.app Nq N403q
          have Ef_405 := E_402.keep K403
          have Cf_414 := C_on.keep K403 (ninS ne_on_t (ninS ne_on_lb (ninS ne_on_ib (ninS ne_on_lo nin0))))
          have Cf_415 := C_tw.keep K403 (ninS ne_tw_t (ninS ne_tw_lb (ninS ne_tw_ib (ninS ne_tw_lo nin0))))
          have Cf_416 := C_th.keep K403 (ninS ne_th_t (ninS ne_th_lb (ninS ne_th_ib (ninS ne_th_lo nin0))))
          have Cf_417 := C_ca.keep K403 (ninS ne_ca_t (ninS ne_ca_lb (ninS ne_ca_ib (ninS ne_ca_lo nin0))))
          have zl403 := Nat.le_trans Zq K403.1
          obtain ⟨E_403, Fleaks_403, Fleaes_403, Finnks_403, Finnrs_403, FleaOf_403, Frooot_403, Fheiht_403, Fregar_403, Clb_403, Cib_403, Clo_403⟩ := S403
          have OR2 : own_Or n n (own_ro 3 (p1 - 1) (p2 - 1) (p3 - 1) (own_od mv im r')) := own_ro_Or OR (by decide) (by omega) (fun _ => ⟨by omega, own_nes d12 hp1.1 hp2.1⟩) (fun _ => ⟨by omega, own_nes d13 hp3.1 hp1.1, own_nes d23 hp3.1 hp2.1⟩)
          have a_p1 : own_af mv im r' 3 p1 p2 p3 p1 = (own_ro 3 (p1 - 1) (p2 - 1) (p3 - 1) (own_od mv im r')) (p1 - 1) := own_af_ro (by omega) (by omega) (by omega) (by omega) (by omega)
          have b_p1 := (OR2 (p1 - 1) (by omega)).1
          have a_p2 : own_af mv im r' 3 p1 p2 p3 p2 = (own_ro 3 (p1 - 1) (p2 - 1) (p3 - 1) (own_od mv im r')) (p2 - 1) := own_af_ro (by omega) (by omega) (by omega) (by omega) (by omega)
          have b_p2 := (OR2 (p2 - 1) (by omega)).1
          have a_p3 : own_af mv im r' 3 p1 p2 p3 p3 = (own_ro 3 (p1 - 1) (p2 - 1) (p3 - 1) (own_od mv im r')) (p3 - 1) := own_af_ro (by omega) (by omega) (by omega) (by omega) (by omega)
          have b_p3 := (OR2 (p3 - 1) (by omega)).1
          have a_qq : own_af mv im r' 3 p1 p2 p3 qq = (own_ro 3 (p1 - 1) (p2 - 1) (p3 - 1) (own_od mv im r')) (qq - 1) := own_af_ro (by omega) (by omega) (by omega) (by omega) (by omega)
          have b_qq := (OR2 (qq - 1) (by omega)).1
          refine Own.aload 286 X403 hx (hb hby at_284) rfl rfl rfl ?_
          refine Own.iload 288 X403 hx (hb hby at_286) rfl rfl ?_
          refine Own.callVt 291 0 t [(.int (Own.N (p1)))] [] X403 hx hZ hown (m9 l Z a0 w t lb ib lo _ _ _ _ _ _ _ _ n0 _ _ _ p1 L n B pre (own_ro 3 (p1 - 1) (p2 - 1) (p3 - 1) (own_od mv im r')) _ ⟨E_403, Fleaks_403, Fleaes_403, Finnks_403, Finnrs_403, FleaOf_403, Frooot_403, Fheiht_403, Fregar_403, Clb_403, Cib_403, Clo_403⟩ TT2 OR2 LF2 ⟨by omega, by omega⟩) E_403 (notFace_of_selects (args := #[]) (mvT hZ (w 60 rfl))) (w 57 rfl) (w 58 rfl) (w 60 rfl) (w 59 rfl) (w 4 rfl) (w 61 rfl) (by decide) rfl (by decide) (by decide) (by decide) (by decide) (by rw [hml]; rfl) (lenOf pd_1 rfl) rfl (Nat.le_of_eq rfl) (hb hby at_288) rfl ?_
          rintro vv T421 L421 X421 ⟨rfl, hh421, rfl⟩
          have N421 := Fr.app N403 (Fr.nil _)
          refine Own.aload 293 X421 hx (hb hby at_291) rfl rfl rfl ?_
          refine Own.iload 295 X421 hx (hb hby at_293) rfl rfl ?_
          refine Own.callSt 298 1 [(.ref ca), (.int (Own.N (p1)))] [(.int (Own.N ((own_ro 3 (p1 - 1) (p2 - 1) (p3 - 1) (own_od mv im r')) (p1 - 1))))] X421 hx hZ hown (m10 l Z a0 w ca mv im r' 3 p1 p2 p3 p1 _ _ Cf_417 (by simp [Own.upd]) (by simp [Own.upd]) (by simp [Own.upd]) (by simp [Own.upd]) (by simp [Own.upd]) (by simp [Own.upd]) (by simp [Own.upd]) (by omega) (by omega) (by omega) (by omega) (by omega) (by omega) (by omega) (by omega) (by omega)) (w 62 rfl) (w 63 rfl) (w 64 rfl) (w 65 rfl) (by decide) hh421 (by decide) (by decide) (by decide) (by decide) (by rw [hml]; rfl) (lenOf pd_0 rfl) rfl (Nat.le_of_eq rfl) (hb hby at_295) rfl ?_
          rintro vv T422 L422 X422 ⟨rfl, hh422, rfl⟩
          have N422 := Fr.app N421 (Fr.nil _)
          refine Own.nicmp_ne 305 301 X422 hx (hb hby at_298) (by decide) rfl (by omega) (by omega) (fun tk => False.elim (by omega)) (fun tk => ?_)
          refine Own.iconst 302 X422 hx (Own.N 1) (hb hby at_301) rfl rfl ?_
          refine Own.goto 306 X422 hx (hb hby at_302) (by decide) ?_
          refine Own.istoreV 308 #[.val (.int x0), .val (.int x1), .val (.int x2), .val (.int x3), .val (.int x4), .val (.int x5), .val (.int (Own.N (n))), .val (.int (Own.N (mv))), .val (.int (Own.N (3))), .val (.int (Own.N (qq))), .val (.int (Own.N (im))), .val (.int (Own.N (r'))), .val (.int (Own.N (p1))), .val (.int (Own.N (p2))), .val (.int (Own.N (p3))), .val (.ref on), .val (.ref tw), .val (.ref th), .val (.ref ca), .val (.ref t), .val (.int (Own.N (1)))] X422 hx (hb hby at_306) rfl rfl ?_
          refine Own.iload 310 X422 hx (hb hby at_308) rfl rfl ?_
          refine Own.iconst 311 X422 hx (Own.N 2) (hb hby at_310) rfl rfl ?_
          refine Own.nicmp_lt 343 314 X422 hx (hb hby at_311) (by decide) rfl (by omega) (by omega) (fun tk => False.elim (by omega)) (fun tk => ?_)
          refine Own.iload 316 X422 hx (hb hby at_314) rfl rfl ?_
          refine Own.nif_eq 340 319 X422 hx (hb hby at_316) (by decide) rfl (by omega) (fun tk => False.elim (by omega)) (fun tk => ?_)
          refine Own.aload 321 X422 hx (hb hby at_319) rfl rfl rfl ?_
          refine Own.iload 323 X422 hx (hb hby at_321) rfl rfl ?_
          refine Own.callVt 326 0 t [(.int (Own.N (p2)))] [] X422 hx hZ hown (m9 l Z a0 w t lb ib lo _ _ _ _ _ _ _ _ n0 _ _ _ p2 L n B pre (own_ro 3 (p1 - 1) (p2 - 1) (p3 - 1) (own_od mv im r')) _ ⟨E_403, Fleaks_403, Fleaes_403, Finnks_403, Finnrs_403, FleaOf_403, Frooot_403, Fheiht_403, Fregar_403, Clb_403, Cib_403, Clo_403⟩ TT2 OR2 LF2 ⟨by omega, by omega⟩) E_403 (notFace_of_selects (args := #[]) (mvT hZ (w 60 rfl))) (w 57 rfl) (w 58 rfl) (w 60 rfl) (w 59 rfl) (w 4 rfl) (w 61 rfl) (by decide) hh422 (by decide) (by decide) (by decide) (by decide) (by rw [hml]; rfl) (lenOf pd_1 rfl) rfl (Nat.le_of_eq rfl) (hb hby at_323) rfl ?_
          rintro vv T423 L423 X423 ⟨rfl, hh423, rfl⟩
          have N423 := Fr.app N422 (Fr.nil _)
          refine Own.aload 328 X423 hx (hb hby at_326) rfl rfl rfl ?_
          refine Own.iload 330 X423 hx (hb hby at_328) rfl rfl ?_
          refine Own.callSt 333 1 [(.ref ca), (.int (Own.N (p2)))] [(.int (Own.N ((own_ro 3 (p1 - 1) (p2 - 1) (p3 - 1) (own_od mv im r')) (p2 - 1))))] X423 hx hZ hown (m10 l Z a0 w ca mv im r' 3 p1 p2 p3 p2 _ _ Cf_417 (by simp [Own.upd]) (by simp [Own.upd]) (by simp [Own.upd]) (by simp [Own.upd]) (by simp [Own.upd]) (by simp [Own.upd]) (by simp [Own.upd]) (by omega) (by omega) (by omega) (by omega) (by omega) (by omega) (by omega) (by omega) (by omega)) (w 62 rfl) (w 63 rfl) (w 64 rfl) (w 65 rfl) (by decide) hh423 (by decide) (by decide) (by decide) (by decide) (by rw [hml]; rfl) (lenOf pd_0 rfl) rfl (Nat.le_of_eq rfl) (hb hby at_330) rfl ?_
          rintro vv T424 L424 X424 ⟨rfl, hh424, rfl⟩
          have N424 := Fr.app N423 (Fr.nil _)
          refine Own.nicmp_ne 340 336 X424 hx (hb hby at_333) (by decide) rfl (by omega) (by omega) (fun tk => False.elim (by omega)) (fun tk => ?_)
          refine Own.iconst 337 X424 hx (Own.N 1) (hb hby at_336) rfl rfl ?_
          refine Own.goto 341 X424 hx (hb hby at_337) (by decide) ?_
          refine Own.istoreV 343 #[.val (.int x0), .val (.int x1), .val (.int x2), .val (.int x3), .val (.int x4), .val (.int x5), .val (.int (Own.N (n))), .val (.int (Own.N (mv))), .val (.int (Own.N (3))), .val (.int (Own.N (qq))), .val (.int (Own.N (im))), .val (.int (Own.N (r'))), .val (.int (Own.N (p1))), .val (.int (Own.N (p2))), .val (.int (Own.N (p3))), .val (.ref on), .val (.ref tw), .val (.ref th), .val (.ref ca), .val (.ref t), .val (.int (Own.N (1)))] X424 hx (hb hby at_341) rfl rfl ?_
          refine Own.iload 345 X424 hx (hb hby at_343) rfl rfl ?_
          refine Own.iconst 346 X424 hx (Own.N 3) (hb hby at_345) rfl rfl ?_
          refine Own.nicmp_ne 378 349 X424 hx (hb hby at_346) (by decide) rfl (by omega) (by omega) (fun tk => False.elim (by omega)) (fun tk => ?_)
          refine Own.iload 351 X424 hx (hb hby at_349) rfl rfl ?_
          refine Own.nif_eq 375 354 X424 hx (hb hby at_351) (by decide) rfl (by omega) (fun tk => False.elim (by omega)) (fun tk => ?_)
          refine Own.aload 356 X424 hx (hb hby at_354) rfl rfl rfl ?_
          refine Own.iload 358 X424 hx (hb hby at_356) rfl rfl ?_
          refine Own.callVt 361 0 t [(.int (Own.N (p3)))] [] X424 hx hZ hown (m9 l Z a0 w t lb ib lo _ _ _ _ _ _ _ _ n0 _ _ _ p3 L n B pre (own_ro 3 (p1 - 1) (p2 - 1) (p3 - 1) (own_od mv im r')) _ ⟨E_403, Fleaks_403, Fleaes_403, Finnks_403, Finnrs_403, FleaOf_403, Frooot_403, Fheiht_403, Fregar_403, Clb_403, Cib_403, Clo_403⟩ TT2 OR2 LF2 ⟨by omega, by omega⟩) E_403 (notFace_of_selects (args := #[]) (mvT hZ (w 60 rfl))) (w 57 rfl) (w 58 rfl) (w 60 rfl) (w 59 rfl) (w 4 rfl) (w 61 rfl) (by decide) hh424 (by decide) (by decide) (by decide) (by decide) (by rw [hml]; rfl) (lenOf pd_1 rfl) rfl (Nat.le_of_eq rfl) (hb hby at_358) rfl ?_
          rintro vv T425 L425 X425 ⟨rfl, hh425, rfl⟩
          have N425 := Fr.app N424 (Fr.nil _)
          refine Own.aload 363 X425 hx (hb hby at_361) rfl rfl rfl ?_
          refine Own.iload 365 X425 hx (hb hby at_363) rfl rfl ?_
          refine Own.callSt 368 1 [(.ref ca), (.int (Own.N (p3)))] [(.int (Own.N ((own_ro 3 (p1 - 1) (p2 - 1) (p3 - 1) (own_od mv im r')) (p3 - 1))))] X425 hx hZ hown (m10 l Z a0 w ca mv im r' 3 p1 p2 p3 p3 _ _ Cf_417 (by simp [Own.upd]) (by simp [Own.upd]) (by simp [Own.upd]) (by simp [Own.upd]) (by simp [Own.upd]) (by simp [Own.upd]) (by simp [Own.upd]) (by omega) (by omega) (by omega) (by omega) (by omega) (by omega) (by omega) (by omega) (by omega)) (w 62 rfl) (w 63 rfl) (w 64 rfl) (w 65 rfl) (by decide) hh425 (by decide) (by decide) (by decide) (by decide) (by rw [hml]; rfl) (lenOf pd_0 rfl) rfl (Nat.le_of_eq rfl) (hb hby at_365) rfl ?_
          rintro vv T426 L426 X426 ⟨rfl, hh426, rfl⟩
          have N426 := Fr.app N425 (Fr.nil _)
          refine Own.nicmp_ne 375 371 X426 hx (hb hby at_368) (by decide) rfl (by omega) (by omega) (fun tk => False.elim (by omega)) (fun tk => ?_)
          refine Own.iconst 372 X426 hx (Own.N 1) (hb hby at_371) rfl rfl ?_
          refine Own.goto 376 X426 hx (hb hby at_372) (by decide) ?_
          refine Own.istoreV 378 #[.val (.int x0), .val (.int x1), .val (.int x2), .val (.int x3), .val (.int x4), .val (.int x5), .val (.int (Own.N (n))), .val (.int (Own.N (mv))), .val (.int (Own.N (3))), .val (.int (Own.N (qq))), .val (.int (Own.N (im))), .val (.int (Own.N (r'))), .val (.int (Own.N (p1))), .val (.int (Own.N (p2))), .val (.int (Own.N (p3))), .val (.ref on), .val (.ref tw), .val (.ref th), .val (.ref ca), .val (.ref t), .val (.int (Own.N (1)))] X426 hx (hb hby at_376) rfl rfl ?_
          refine Own.iload 380 X426 hx (hb hby at_378) rfl rfl ?_
          refine Own.nif_eq 404 383 X426 hx (hb hby at_380) (by decide) rfl (by omega) (fun tk => False.elim (by omega)) (fun tk => ?_)
          refine Own.aload 385 X426 hx (hb hby at_383) rfl rfl rfl ?_
          refine Own.iload 387 X426 hx (hb hby at_385) rfl rfl ?_
          refine Own.callVt 390 0 t [(.int (Own.N (qq)))] [] X426 hx hZ hown (m9 l Z a0 w t lb ib lo _ _ _ _ _ _ _ _ n0 _ _ _ qq L n B pre (own_ro 3 (p1 - 1) (p2 - 1) (p3 - 1) (own_od mv im r')) _ ⟨E_403, Fleaks_403, Fleaes_403, Finnks_403, Finnrs_403, FleaOf_403, Frooot_403, Fheiht_403, Fregar_403, Clb_403, Cib_403, Clo_403⟩ TT2 OR2 LF2 ⟨by omega, by omega⟩) E_403 (notFace_of_selects (args := #[]) (mvT hZ (w 60 rfl))) (w 57 rfl) (w 58 rfl) (w 60 rfl) (w 59 rfl) (w 4 rfl) (w 61 rfl) (by decide) hh426 (by decide) (by decide) (by decide) (by decide) (by rw [hml]; rfl) (lenOf pd_1 rfl) rfl (Nat.le_of_eq rfl) (hb hby at_387) rfl ?_
          rintro vv T427 L427 X427 ⟨rfl, hh427, rfl⟩
          have N427 := Fr.app N426 (Fr.nil _)
          refine Own.aload 392 X427 hx (hb hby at_390) rfl rfl rfl ?_
          refine Own.iload 394 X427 hx (hb hby at_392) rfl rfl ?_
          refine Own.callSt 397 1 [(.ref ca), (.int (Own.N (qq)))] [(.int (Own.N ((own_ro 3 (p1 - 1) (p2 - 1) (p3 - 1) (own_od mv im r')) (qq - 1))))] X427 hx hZ hown (m10 l Z a0 w ca mv im r' 3 p1 p2 p3 qq _ _ Cf_417 (by simp [Own.upd]) (by simp [Own.upd]) (by simp [Own.upd]) (by simp [Own.upd]) (by simp [Own.upd]) (by simp [Own.upd]) (by simp [Own.upd]) (by omega) (by omega) (by omega) (by omega) (by omega) (by omega) (by omega) (by omega) (by omega)) (w 62 rfl) (w 63 rfl) (w 64 rfl) (w 65 rfl) (by decide) hh427 (by decide) (by decide) (by decide) (by decide) (by rw [hml]; rfl) (lenOf pd_0 rfl) rfl (Nat.le_of_eq rfl) (hb hby at_394) rfl ?_
          rintro vv T428 L428 X428 ⟨rfl, hh428, rfl⟩
          have N428 := Fr.app N427 (Fr.nil _)
          refine Own.nicmp_ne 404 400 X428 hx (hb hby at_397) (by decide) rfl (by omega) (by omega) (fun tk => False.elim (by omega)) (fun tk => ?_)
          refine Own.iconst 401 X428 hx (Own.N 1) (hb hby at_400) rfl rfl ?_
          refine Own.goto 405 X428 hx (hb hby at_401) (by decide) ?_
          refine Own.istoreV 407 #[.val (.int x0), .val (.int x1), .val (.int x2), .val (.int x3), .val (.int x4), .val (.int x5), .val (.int (Own.N (n))), .val (.int (Own.N (mv))), .val (.int (Own.N (3))), .val (.int (Own.N (qq))), .val (.int (Own.N (im))), .val (.int (Own.N (r'))), .val (.int (Own.N (p1))), .val (.int (Own.N (p2))), .val (.int (Own.N (p3))), .val (.ref on), .val (.ref tw), .val (.ref th), .val (.ref ca), .val (.ref t), .val (.int (Own.N (1)))] X428 hx (hb hby at_405) rfl rfl ?_
          refine Own.iload 409 X428 hx (hb hby at_407) rfl rfl ?_
          refine Own.nif_eq 433 412 X428 hx (hb hby at_409) (by decide) rfl (by omega) (fun tk => False.elim (by omega)) (fun tk => ?_)
          refine Own.aload 414 X428 hx (hb hby at_412) rfl rfl rfl ?_
          refine Own.aload 416 X428 hx (hb hby at_414) rfl rfl rfl ?_
          refine Own.iload 418 X428 hx (hb hby at_416) rfl rfl ?_
          refine Own.callSt 421 1 [(.ref ca), (.int (Own.N (p1)))] [(.ref t)] X428 hx hZ hown (m10 l Z a0 w ca mv im r' 3 p1 p2 p3 p1 _ _ Cf_417 (by simp [Own.upd]) (by simp [Own.upd]) (by simp [Own.upd]) (by simp [Own.upd]) (by simp [Own.upd]) (by simp [Own.upd]) (by simp [Own.upd]) (by omega) (by omega) (by omega) (by omega) (by omega) (by omega) (by omega) (by omega) (by omega)) (w 62 rfl) (w 63 rfl) (w 64 rfl) (w 65 rfl) (by decide) hh428 (by decide) (by decide) (by decide) (by decide) (by rw [hml]; rfl) (lenOf pd_0 rfl) rfl (Nat.le_of_eq rfl) (hb hby at_418) rfl ?_
          rintro vv T429 L429 X429 ⟨rfl, hh429, rfl⟩
          have N429 := Fr.app N428 (Fr.nil _)
          refine Own.callVt 424 0 t [(.int (Own.N (own_af mv im r' 3 p1 p2 p3 p1)))] [] X429 hx hZ hown (m12 l Z a0 w t lb ib lo _ _ _ _ _ _ _ _ n0 _ _ _ (own_af mv im r' 3 p1 p2 p3 p1) (p1 - 1) L n B pre (own_ro 3 (p1 - 1) (p2 - 1) (p3 - 1) (own_od mv im r')) _ ⟨E_403, Fleaks_403, Fleaes_403, Finnks_403, Finnrs_403, FleaOf_403, Frooot_403, Fheiht_403, Fregar_403, Clb_403, Cib_403, Clo_403⟩ TT2 OR2 LF2 (by omega) (by omega) a_p1.symm) E_403 (notFace_of_selects (args := #[]) (mvT hZ (w 72 rfl))) (w 69 rfl) (w 70 rfl) (w 72 rfl) (w 71 rfl) (w 4 rfl) (w 73 rfl) (by decide) hh429 (by decide) (by decide) (by decide) (by decide) (by rw [hml]; rfl) (lenOf pd_1 rfl) rfl (Nat.le_of_eq rfl) (hb hby at_421) rfl ?_
          rintro vv T430 L430 X430 ⟨rfl, hh430, rfl⟩
          have N430 := Fr.app N429 (Fr.nil _)
          refine Own.iload 426 X430 hx (hb hby at_424) rfl rfl ?_
          refine Own.nicmp_ne 433 429 X430 hx (hb hby at_426) (by decide) rfl (by omega) (by omega) (fun tk => False.elim (by omega)) (fun tk => ?_)
          refine Own.iconst 430 X430 hx (Own.N 1) (hb hby at_429) rfl rfl ?_
          refine Own.goto 434 X430 hx (hb hby at_430) (by decide) ?_
          refine Own.istoreV 436 #[.val (.int x0), .val (.int x1), .val (.int x2), .val (.int x3), .val (.int x4), .val (.int x5), .val (.int (Own.N (n))), .val (.int (Own.N (mv))), .val (.int (Own.N (3))), .val (.int (Own.N (qq))), .val (.int (Own.N (im))), .val (.int (Own.N (r'))), .val (.int (Own.N (p1))), .val (.int (Own.N (p2))), .val (.int (Own.N (p3))), .val (.ref on), .val (.ref tw), .val (.ref th), .val (.ref ca), .val (.ref t), .val (.int (Own.N (1)))] X430 hx (hb hby at_434) rfl rfl ?_
          refine Own.iload 438 X430 hx (hb hby at_436) rfl rfl ?_
          refine Own.nif_eq 462 441 X430 hx (hb hby at_438) (by decide) rfl (by omega) (fun tk => False.elim (by omega)) (fun tk => ?_)
          refine Own.aload 443 X430 hx (hb hby at_441) rfl rfl rfl ?_
          refine Own.aload 445 X430 hx (hb hby at_443) rfl rfl rfl ?_
          refine Own.iload 447 X430 hx (hb hby at_445) rfl rfl ?_
          refine Own.callSt 450 1 [(.ref ca), (.int (Own.N (qq)))] [(.ref t)] X430 hx hZ hown (m10 l Z a0 w ca mv im r' 3 p1 p2 p3 qq _ _ Cf_417 (by simp [Own.upd]) (by simp [Own.upd]) (by simp [Own.upd]) (by simp [Own.upd]) (by simp [Own.upd]) (by simp [Own.upd]) (by simp [Own.upd]) (by omega) (by omega) (by omega) (by omega) (by omega) (by omega) (by omega) (by omega) (by omega)) (w 62 rfl) (w 63 rfl) (w 64 rfl) (w 65 rfl) (by decide) hh430 (by decide) (by decide) (by decide) (by decide) (by rw [hml]; rfl) (lenOf pd_0 rfl) rfl (Nat.le_of_eq rfl) (hb hby at_447) rfl ?_
          rintro vv T431 L431 X431 ⟨rfl, hh431, rfl⟩
          have N431 := Fr.app N430 (Fr.nil _)
          refine Own.callVt 453 0 t [(.int (Own.N (own_af mv im r' 3 p1 p2 p3 qq)))] [] X431 hx hZ hown (m12 l Z a0 w t lb ib lo _ _ _ _ _ _ _ _ n0 _ _ _ (own_af mv im r' 3 p1 p2 p3 qq) (qq - 1) L n B pre (own_ro 3 (p1 - 1) (p2 - 1) (p3 - 1) (own_od mv im r')) _ ⟨E_403, Fleaks_403, Fleaes_403, Finnks_403, Finnrs_403, FleaOf_403, Frooot_403, Fheiht_403, Fregar_403, Clb_403, Cib_403, Clo_403⟩ TT2 OR2 LF2 (by omega) (by omega) a_qq.symm) E_403 (notFace_of_selects (args := #[]) (mvT hZ (w 72 rfl))) (w 69 rfl) (w 70 rfl) (w 72 rfl) (w 71 rfl) (w 4 rfl) (w 73 rfl) (by decide) hh431 (by decide) (by decide) (by decide) (by decide) (by rw [hml]; rfl) (lenOf pd_1 rfl) rfl (Nat.le_of_eq rfl) (hb hby at_450) rfl ?_
          rintro vv T432 L432 X432 ⟨rfl, hh432, rfl⟩
          have N432 := Fr.app N431 (Fr.nil _)
          refine Own.iload 455 X432 hx (hb hby at_453) rfl rfl ?_
          refine Own.nicmp_ne 462 458 X432 hx (hb hby at_455) (by decide) rfl (by omega) (by omega) (fun tk => False.elim (by omega)) (fun tk => ?_)
          refine Own.iconst 459 X432 hx (Own.N 1) (hb hby at_458) rfl rfl ?_
          refine Own.goto 463 X432 hx (hb hby at_459) (by decide) ?_
          refine Own.istoreV 465 #[.val (.int x0), .val (.int x1), .val (.int x2), .val (.int x3), .val (.int x4), .val (.int x5), .val (.int (Own.N (n))), .val (.int (Own.N (mv))), .val (.int (Own.N (3))), .val (.int (Own.N (qq))), .val (.int (Own.N (im))), .val (.int (Own.N (r'))), .val (.int (Own.N (p1))), .val (.int (Own.N (p2))), .val (.int (Own.N (p3))), .val (.ref on), .val (.ref tw), .val (.ref th), .val (.ref ca), .val (.ref t), .val (.int (Own.N (1)))] X432 hx (hb hby at_463) rfl rfl ?_
          refine Own.iload 467 X432 hx (hb hby at_465) rfl rfl ?_
          refine Own.retBool X432 hx hlk hret (hb hby at_467) (by decide) (by decide) ?_
          exact ⟨rfl, N432⟩
        refine Own.nicmp_ne 245 236 X387 hx (hb hby at_233) (by decide) rfl (by omega) (by omega) (fun mv1 => ?_) (fun mv1 => ?_)
        ·
          exact K245 _ _ _ _ _ _ _ _ _ _ _ _ X387 rfl N387 zl387 ⟨E_387, Fleaks_387, Fleaes_387, Finnks_387, Finnrs_387, FleaOf_387, Frooot_387, Fheiht_387, Fregar_387, Clb_387, Cib_387, Clo_387⟩ TT (by rw [own_od, if_pos (by omega)]; exact LF) Cf_398 Cf_399 Cf_400 Cf_401
        ·
          refine Own.aload 238 X387 hx (hb hby at_236) rfl rfl rfl ?_
          refine Own.iload 240 X387 hx (hb hby at_238) rfl rfl ?_
          refine Own.iload 242 X387 hx (hb hby at_240) rfl rfl ?_
          refine Own.callVt 245 0 t [(.int (Own.N (im))), (.int (Own.N (r')))] [] X387 hx hZ hown (m15 l Z a0 w t lb ib lo _ _ _ _ _ _ _ n0 _ _ _ im r' im L n (own_pb n) (fun q => q) _ zl387 D01 ⟨E_387, Fleaks_387, Fleaes_387, Finnks_387, Finnrs_387, FleaOf_387, Frooot_387, Fheiht_387, Fregar_387, Clb_387, Cib_387, Clo_387⟩ TT (fun q hq => ⟨hq, fun _ _ e9 => e9⟩) LF (by omega) (by omega) rfl (by omega) BT) E_387 (notFace_of_selects (args := #[]) (mvT hZ (w 85 rfl))) (w 82 rfl) (w 83 rfl) (w 85 rfl) (w 84 rfl) (w 4 rfl) (w 86 rfl) (by decide) rfl (by decide) (by decide) (by decide) (by decide) (by rw [hml]; rfl) (lenOf pd_8 rfl) rfl (Nat.le_of_eq rfl) (hb hby at_242) rfl ?_
          rintro vv T433 L433 X433 ⟨rfl, N433q, K433, pre2, gL2, gI2, gO2, inn2, rt2, ht2, S433, TT2, LF2⟩
          have N433 := Fr.app N387 N433q
          have Ef_435 := E_387.keep K433
          have Cf_444 := Cf_398.keep K433 (ninS ne_on_t (ninS ne_on_lb (ninS ne_on_ib (ninS ne_on_lo nin0))))
          have Cf_445 := Cf_399.keep K433 (ninS ne_tw_t (ninS ne_tw_lb (ninS ne_tw_ib (ninS ne_tw_lo nin0))))
          have Cf_446 := Cf_400.keep K433 (ninS ne_th_t (ninS ne_th_lb (ninS ne_th_ib (ninS ne_th_lo nin0))))
          have Cf_447 := Cf_401.keep K433 (ninS ne_ca_t (ninS ne_ca_lb (ninS ne_ca_ib (ninS ne_ca_lo nin0))))
          have zl433 := Nat.le_trans zl387 K433.1
          obtain ⟨E_433, Fleaks_433, Fleaes_433, Finnks_433, Finnrs_433, FleaOf_433, Frooot_433, Fheiht_433, Fregar_433, Clb_433, Cib_433, Clo_433⟩ := S433
          exact K245 _ _ _ _ _ _ _ _ _ _ _ _ X433 rfl N433 zl433 ⟨E_433, Fleaks_433, Fleaes_433, Finnks_433, Finnrs_433, FleaOf_433, Frooot_433, Fheiht_433, Fregar_433, Clb_433, Cib_433, Clo_433⟩ TT2 (by rw [own_od, if_neg (by omega)]; exact LF2) Cf_444 Cf_445 Cf_446 Cf_447
      ·
        refine Own.iconst 131 X0 hx (Own.N 1) (hb hby at_130) rfl rfl ?_
        refine Own.retBool X0 hx hlk hret (hb hby at_131) (by decide) (by decide) ?_
        exact ⟨rfl, N0⟩
  ·
    refine Own.iconst 109 X0 hx (Own.N 1) (hb hby at_108) rfl rfl ?_
    refine Own.retBool X0 hx hlk hret (hb hby at_109) (by decide) (by decide) ?_
    exact ⟨rfl, N0⟩
set_option maxRecDepth 65536 in
set_option maxHeartbeats 40000000 in
theorem m0 (l : Launch) (Z : State) (a0 : Array Value) (w : ∀ (i : Nat) {d : Jvm.Cond}, tables_1[i]? = some d → d.before a0 Z = true) (x0 : Int32) (x1 : Int32) (x2 : Int32) (x3 : Int32) (x4 : Int32) (x5 : Int32)  (h0 : Heap) (n0 : Nat) (Z0 : n0 ≤ h0.size) :
    Own.Met l Z x code maxLocals ret tables_1 room_1 #[(.int x0), (.int x1), (.int x2), (.int x3), (.int x4), (.int x5)] h0 (fun v h L => v = some (.int 1) ∧ Fr n0 L) := by
  refine Own.Met.of (plainFor_of_name (by first | (simp [plainName, overriddenIn]; done) | decide +kernel)) ?_
  intro p e s m below meth c T0 hx hby hml hown hnm hret hlk hZ X0 e0
  have hown : s.vm.findClass "com/example/frontrank/frontrank/OrderTreeRotatePinLaw" = some m.cls := hown
  have hml : c.maxLocals = 21 := hml
  have hnm : meth.name = "law" := hnm
  have hret : meth.sig.returnType = some .boolean := hret
  have ef : entryFrame m #[(.int x0), (.int x1), (.int x2), (.int x3), (.int x4), (.int x5)] maxLocals = mkF m 0 #[.val (.int x0), .val (.int x1), .val (.int x2), .val (.int x3), .val (.int x4), .val (.int x5), .unset, .unset, .unset, .unset, .unset, .unset, .unset, .unset, .unset, .unset, .unset, .unset, .unset, .unset, .unset] [] := by first | (simp [entryFrame, mkF, argsToLocals, Value.category, maxLocals]; done) | rfl
  rw [ef]
  obtain ⟨b6, e6, l6⟩ := own_msk x0 (Own.N 4095) 12 (by decide) (by decide)
  obtain ⟨b10, e10, l10⟩ := own_msk x1 (Own.N 2147483647) 31 (by decide) (by decide)
  obtain ⟨b11, e11, l11⟩ := own_msk x2 (Own.N 2147483647) 31 (by decide) (by decide)
  obtain ⟨b12, e12, l12⟩ := own_msk x3 (Own.N 2147483647) 31 (by decide) (by decide)
  obtain ⟨b13, e13, l13⟩ := own_msk x4 (Own.N 2147483647) 31 (by decide) (by decide)
  obtain ⟨b14, e14, l14⟩ := own_msk x5 (Own.N 2147483647) 31 (by decide) (by decide)
  obtain ⟨a7, f7, k7⟩ := own_ush x0 12 (by decide) (by decide) (Own.N 12) (by decide)
  obtain ⟨a8, f8, k8⟩ := own_ush x0 13 (by decide) (by decide) (Own.N 13) (by decide)
  obtain ⟨a9, f9, k9⟩ := own_ush x0 15 (by decide) (by decide) (Own.N 15) (by decide)
  obtain ⟨b7, e7, l7⟩ := own_msk (Own.N a7) (Own.N 1) 1 (by decide) (by decide)
  obtain ⟨b8, e8, l8⟩ := own_msk (Own.N a8) (Own.N 3) 2 (by decide) (by decide)
  refine Own.iloadN 1 X0 hx (hb hby at_0) rfl rfl ?_
  refine Own.sipush 4 X0 hx (Own.N 4095) (hb hby at_1) rfl rfl ?_
  refine Own.iand 5 X0 hx (hb hby at_4) rfl e6 ?_
  refine Own.iconst 6 X0 hx (Own.N 1) (hb hby at_5) rfl rfl ?_
  refine Own.iadd 7 X0 hx (hb hby at_6) rfl (Own.N_add _ _) ?_
  refine Own.istoreV 9 #[.val (.int x0), .val (.int x1), .val (.int x2), .val (.int x3), .val (.int x4), .val (.int x5), .val (.int (Own.N (b6 + 1))), .unset, .unset, .unset, .unset, .unset, .unset, .unset, .unset, .unset, .unset, .unset, .unset, .unset, .unset] X0 hx (hb hby at_7) rfl rfl ?_
  refine Own.iloadN 10 X0 hx (hb hby at_9) rfl rfl ?_
  refine Own.bipush 12 X0 hx (Own.N 12) (hb hby at_10) rfl rfl ?_
  refine Own.iushr 13 X0 hx (hb hby at_12) rfl f7 ?_
  refine Own.iconst 14 X0 hx (Own.N 1) (hb hby at_13) rfl rfl ?_
  refine Own.iand 15 X0 hx (hb hby at_14) rfl e7 ?_
  refine Own.istoreV 17 #[.val (.int x0), .val (.int x1), .val (.int x2), .val (.int x3), .val (.int x4), .val (.int x5), .val (.int (Own.N (b6 + 1))), .val (.int (Own.N (b7))), .unset, .unset, .unset, .unset, .unset, .unset, .unset, .unset, .unset, .unset, .unset, .unset, .unset] X0 hx (hb hby at_15) rfl rfl ?_
  refine Own.iloadN 18 X0 hx (hb hby at_17) rfl rfl ?_
  refine Own.bipush 20 X0 hx (Own.N 13) (hb hby at_18) rfl rfl ?_
  refine Own.iushr 21 X0 hx (hb hby at_20) rfl f8 ?_
  refine Own.iconst 22 X0 hx (Own.N 3) (hb hby at_21) rfl rfl ?_
  refine Own.iand 23 X0 hx (hb hby at_22) rfl e8 ?_
  refine Own.iconst 24 X0 hx (Own.N 3) (hb hby at_23) rfl rfl ?_
  refine Own.irem 25 X0 hx (hb hby at_24) rfl (by decide) (Own.N_mod (by omega) (by omega)) ?_
  refine Own.iconst 26 X0 hx (Own.N 1) (hb hby at_25) rfl rfl ?_
  refine Own.iadd 27 X0 hx (hb hby at_26) rfl (Own.N_add _ _) ?_
  refine Own.istoreV 29 #[.val (.int x0), .val (.int x1), .val (.int x2), .val (.int x3), .val (.int x4), .val (.int x5), .val (.int (Own.N (b6 + 1))), .val (.int (Own.N (b7))), .val (.int (Own.N ((b8 % 3) + 1))), .unset, .unset, .unset, .unset, .unset, .unset, .unset, .unset, .unset, .unset, .unset, .unset] X0 hx (hb hby at_27) rfl rfl ?_
  refine Own.iloadN 30 X0 hx (hb hby at_29) rfl rfl ?_
  refine Own.bipush 32 X0 hx (Own.N 15) (hb hby at_30) rfl rfl ?_
  refine Own.iushr 33 X0 hx (hb hby at_32) rfl f9 ?_
  refine Own.iload 35 X0 hx (hb hby at_33) rfl rfl ?_
  refine Own.irem 36 X0 hx (hb hby at_35) rfl (fun q9 => absurd ((Own.N_eq (y := 0) (by omega) (by omega)).mp q9) (by omega)) (Own.N_mod (by omega) (by omega)) ?_
  refine Own.iconst 37 X0 hx (Own.N 1) (hb hby at_36) rfl rfl ?_
  refine Own.iadd 38 X0 hx (hb hby at_37) rfl (Own.N_add _ _) ?_
  refine Own.istoreV 40 #[.val (.int x0), .val (.int x1), .val (.int x2), .val (.int x3), .val (.int x4), .val (.int x5), .val (.int (Own.N (b6 + 1))), .val (.int (Own.N (b7))), .val (.int (Own.N ((b8 % 3) + 1))), .val (.int (Own.N ((a9 % (b6 + 1)) + 1))), .unset, .unset, .unset, .unset, .unset, .unset, .unset, .unset, .unset, .unset, .unset] X0 hx (hb hby at_38) rfl rfl ?_
  refine Own.iloadN 41 X0 hx (hb hby at_40) rfl rfl ?_
  refine Own.ldcInt 43 X0 hx hZ (Own.N 2147483647) hown (w 0 rfl) (hb hby at_41) rfl ?_
  refine Own.iand 44 X0 hx (hb hby at_43) rfl e10 ?_
  refine Own.iload 46 X0 hx (hb hby at_44) rfl rfl ?_
  refine Own.irem 47 X0 hx (hb hby at_46) rfl (fun q9 => absurd ((Own.N_eq (y := 0) (by omega) (by omega)).mp q9) (by omega)) (Own.N_mod (by omega) (by omega)) ?_
  refine Own.istoreV 49 #[.val (.int x0), .val (.int x1), .val (.int x2), .val (.int x3), .val (.int x4), .val (.int x5), .val (.int (Own.N (b6 + 1))), .val (.int (Own.N (b7))), .val (.int (Own.N ((b8 % 3) + 1))), .val (.int (Own.N ((a9 % (b6 + 1)) + 1))), .val (.int (Own.N (b10 % (b6 + 1)))), .unset, .unset, .unset, .unset, .unset, .unset, .unset, .unset, .unset, .unset] X0 hx (hb hby at_47) rfl rfl ?_
  refine Own.iloadN 50 X0 hx (hb hby at_49) rfl rfl ?_
  refine Own.ldcInt 52 X0 hx hZ (Own.N 2147483647) hown (w 0 rfl) (hb hby at_50) rfl ?_
  refine Own.iand 53 X0 hx (hb hby at_52) rfl e11 ?_
  refine Own.iload 55 X0 hx (hb hby at_53) rfl rfl ?_
  refine Own.irem 56 X0 hx (hb hby at_55) rfl (fun q9 => absurd ((Own.N_eq (y := 0) (by omega) (by omega)).mp q9) (by omega)) (Own.N_mod (by omega) (by omega)) ?_
  refine Own.iconst 57 X0 hx (Own.N 1) (hb hby at_56) rfl rfl ?_
  refine Own.iadd 58 X0 hx (hb hby at_57) rfl (Own.N_add _ _) ?_
  refine Own.istoreV 60 #[.val (.int x0), .val (.int x1), .val (.int x2), .val (.int x3), .val (.int x4), .val (.int x5), .val (.int (Own.N (b6 + 1))), .val (.int (Own.N (b7))), .val (.int (Own.N ((b8 % 3) + 1))), .val (.int (Own.N ((a9 % (b6 + 1)) + 1))), .val (.int (Own.N (b10 % (b6 + 1)))), .val (.int (Own.N ((b11 % (b6 + 1)) + 1))), .unset, .unset, .unset, .unset, .unset, .unset, .unset, .unset, .unset] X0 hx (hb hby at_58) rfl rfl ?_
  refine Own.iloadN 61 X0 hx (hb hby at_60) rfl rfl ?_
  refine Own.ldcInt 63 X0 hx hZ (Own.N 2147483647) hown (w 0 rfl) (hb hby at_61) rfl ?_
  refine Own.iand 64 X0 hx (hb hby at_63) rfl e12 ?_
  refine Own.iload 66 X0 hx (hb hby at_64) rfl rfl ?_
  refine Own.irem 67 X0 hx (hb hby at_66) rfl (fun q9 => absurd ((Own.N_eq (y := 0) (by omega) (by omega)).mp q9) (by omega)) (Own.N_mod (by omega) (by omega)) ?_
  refine Own.iconst 68 X0 hx (Own.N 1) (hb hby at_67) rfl rfl ?_
  refine Own.iadd 69 X0 hx (hb hby at_68) rfl (Own.N_add _ _) ?_
  refine Own.istoreV 71 #[.val (.int x0), .val (.int x1), .val (.int x2), .val (.int x3), .val (.int x4), .val (.int x5), .val (.int (Own.N (b6 + 1))), .val (.int (Own.N (b7))), .val (.int (Own.N ((b8 % 3) + 1))), .val (.int (Own.N ((a9 % (b6 + 1)) + 1))), .val (.int (Own.N (b10 % (b6 + 1)))), .val (.int (Own.N ((b11 % (b6 + 1)) + 1))), .val (.int (Own.N ((b12 % (b6 + 1)) + 1))), .unset, .unset, .unset, .unset, .unset, .unset, .unset, .unset] X0 hx (hb hby at_69) rfl rfl ?_
  refine Own.iload 73 X0 hx (hb hby at_71) rfl rfl ?_
  refine Own.ldcInt 75 X0 hx hZ (Own.N 2147483647) hown (w 0 rfl) (hb hby at_73) rfl ?_
  refine Own.iand 76 X0 hx (hb hby at_75) rfl e13 ?_
  refine Own.iload 78 X0 hx (hb hby at_76) rfl rfl ?_
  refine Own.irem 79 X0 hx (hb hby at_78) rfl (fun q9 => absurd ((Own.N_eq (y := 0) (by omega) (by omega)).mp q9) (by omega)) (Own.N_mod (by omega) (by omega)) ?_
  refine Own.iconst 80 X0 hx (Own.N 1) (hb hby at_79) rfl rfl ?_
  refine Own.iadd 81 X0 hx (hb hby at_80) rfl (Own.N_add _ _) ?_
  refine Own.istoreV 83 #[.val (.int x0), .val (.int x1), .val (.int x2), .val (.int x3), .val (.int x4), .val (.int x5), .val (.int (Own.N (b6 + 1))), .val (.int (Own.N (b7))), .val (.int (Own.N ((b8 % 3) + 1))), .val (.int (Own.N ((a9 % (b6 + 1)) + 1))), .val (.int (Own.N (b10 % (b6 + 1)))), .val (.int (Own.N ((b11 % (b6 + 1)) + 1))), .val (.int (Own.N ((b12 % (b6 + 1)) + 1))), .val (.int (Own.N ((b13 % (b6 + 1)) + 1))), .unset, .unset, .unset, .unset, .unset, .unset, .unset] X0 hx (hb hby at_81) rfl rfl ?_
  refine Own.iload 85 X0 hx (hb hby at_83) rfl rfl ?_
  refine Own.ldcInt 87 X0 hx hZ (Own.N 2147483647) hown (w 0 rfl) (hb hby at_85) rfl ?_
  refine Own.iand 88 X0 hx (hb hby at_87) rfl e14 ?_
  refine Own.iload 90 X0 hx (hb hby at_88) rfl rfl ?_
  refine Own.irem 91 X0 hx (hb hby at_90) rfl (fun q9 => absurd ((Own.N_eq (y := 0) (by omega) (by omega)).mp q9) (by omega)) (Own.N_mod (by omega) (by omega)) ?_
  refine Own.iconst 92 X0 hx (Own.N 1) (hb hby at_91) rfl rfl ?_
  refine Own.iadd 93 X0 hx (hb hby at_92) rfl (Own.N_add _ _) ?_
  refine Own.istoreV 95 #[.val (.int x0), .val (.int x1), .val (.int x2), .val (.int x3), .val (.int x4), .val (.int x5), .val (.int (Own.N (b6 + 1))), .val (.int (Own.N (b7))), .val (.int (Own.N ((b8 % 3) + 1))), .val (.int (Own.N ((a9 % (b6 + 1)) + 1))), .val (.int (Own.N (b10 % (b6 + 1)))), .val (.int (Own.N ((b11 % (b6 + 1)) + 1))), .val (.int (Own.N ((b12 % (b6 + 1)) + 1))), .val (.int (Own.N ((b13 % (b6 + 1)) + 1))), .val (.int (Own.N ((b14 % (b6 + 1)) + 1))), .unset, .unset, .unset, .unset, .unset, .unset] X0 hx (hb hby at_93) rfl rfl ?_
  have md_a9 := Nat.mod_lt a9 (show 0 < b6 + 1 by omega)
  have md_b10 := Nat.mod_lt b10 (show 0 < b6 + 1 by omega)
  have md_b11 := Nat.mod_lt b11 (show 0 < b6 + 1 by omega)
  have md_b12 := Nat.mod_lt b12 (show 0 < b6 + 1 by omega)
  have md_b13 := Nat.mod_lt b13 (show 0 < b6 + 1 by omega)
  have md_b14 := Nat.mod_lt b14 (show 0 < b6 + 1 by omega)
  have c3 : b8 % 3 + 1 = 1 ∨ b8 % 3 + 1 = 2 ∨ b8 % 3 + 1 = 3 := by omega
  rcases c3 with c3 | c3 | c3 <;> rw [c3]
  ·
    exact law_1 l Z a0 w x0 x1 x2 x3 x4 x5 n0 p e s m below meth c hx hby hml hown hret hlk hZ (b6 + 1) b7 (a9 % (b6 + 1) + 1) (b10 % (b6 + 1)) (b11 % (b6 + 1) + 1) (b12 % (b6 + 1) + 1) (b13 % (b6 + 1) + 1) (b14 % (b6 + 1) + 1) (by omega) (by omega) (by omega) (by omega) (by omega) (by omega) (by omega) (by omega) h0 T0 X0 e0 Z0
  ·
    exact law_2 l Z a0 w x0 x1 x2 x3 x4 x5 n0 p e s m below meth c hx hby hml hown hret hlk hZ (b6 + 1) b7 (a9 % (b6 + 1) + 1) (b10 % (b6 + 1)) (b11 % (b6 + 1) + 1) (b12 % (b6 + 1) + 1) (b13 % (b6 + 1) + 1) (b14 % (b6 + 1) + 1) (by omega) (by omega) (by omega) (by omega) (by omega) (by omega) (by omega) (by omega) h0 T0 X0 e0 Z0
  ·
    exact law_3 l Z a0 w x0 x1 x2 x3 x4 x5 n0 p e s m below meth c hx hby hml hown hret hlk hZ (b6 + 1) b7 (a9 % (b6 + 1) + 1) (b10 % (b6 + 1)) (b11 % (b6 + 1) + 1) (b12 % (b6 + 1) + 1) (b13 % (b6 + 1) + 1) (b14 % (b6 + 1) + 1) (by omega) (by omega) (by omega) (by omega) (by omega) (by omega) (by omega) (by omega) h0 T0 X0 e0 Z0
set_option maxRecDepth 65536 in
set_option maxHeartbeats 40000000 in
theorem comes_1 {Post : Tables → Env → Array Value → State → Outcome → State → Prop} (hpost : ∀ tb e args s v u, (limb_1_1.after args s (.returned v) u = true ∧ limb_1_2.after args s (.returned v) u = true ∧ True) → FrameEnd s (.returned v) u (Jvm.fieldLocs frame_1_writes args s ++ Jvm.arrayLocs frame_1_arrays args s ++ Jvm.staticLocs frame_1_statics s) 32 55680 → Post tb e args s (.returned v) u) :
    ArmFor flags0 classFile x code maxLocals ret World_1 tables_1 room_1 Calls_1 rest_1 Pre_1 Post := by
  intro l hfl _ _ p e ha hc hk s m args below hf hA hF happ hP
  obtain ⟨hcalls, hrest, hpre⟩ := hP
  obtain ⟨-, -, -, hnamed, -, -, -, hat⟩ := (Spec.applies_iff hf).mp happ
  obtain ⟨hg, hn⟩ := and_e (Cond.before_iff.mp (show (Jvm.Cond.and given_1 narrow_1).before args s = true from hpre))
  obtain ⟨g1, g2⟩ := and_e hg
  obtain ⟨g3, g4⟩ := and_e g2
  obtain ⟨g5, g6⟩ := and_e g4
  obtain ⟨g7, g8⟩ := and_e g6
  obtain ⟨g9, g10⟩ := and_e g8
  obtain ⟨g11, g12⟩ := and_e g10
  obtain ⟨w0, w1, w2, w3, w4, w5, rfl⟩ : ∃ w0 w1 w2 w3 w4 w5 : Value, args = #[w0, w1, w2, w3, w4, w5] := by
    have hs : args.size = 6 := by simpa [Cond.value, given_1] using g1
    obtain ⟨L⟩ := args
    match L, hs with
    | [w0, w1, w2, w3, w4, w5], _ => exact ⟨w0, w1, w2, w3, w4, w5, rfl⟩
  have hw := fun d (hd : d ∈ tables_1) => atoms_spec (ws := Jvm.Cond.code x code maxLocals ret :: tables_1) hat d (List.mem_cons_of_mem _ hd)
  obtain ⟨i0, ei0⟩ := is_v g3
  obtain rfl : w0 = (.int i0) := Option.some.inj ei0
  obtain ⟨i1, ei1⟩ := is_v g5
  obtain rfl : w1 = (.int i1) := Option.some.inj ei1
  obtain ⟨i2, ei2⟩ := is_v g7
  obtain rfl : w2 = (.int i2) := Option.some.inj ei2
  obtain ⟨i3, ei3⟩ := is_v g9
  obtain rfl : w3 = (.int i3) := Option.some.inj ei3
  obtain ⟨i4, ei4⟩ := is_v g11
  obtain rfl : w4 = (.int i4) := Option.some.inj ei4
  obtain ⟨i5, ei5⟩ := is_v g12
  obtain rfl : w5 = (.int i5) := Option.some.inj ei5
  obtain ⟨n, o, h1, h2, h3, _, L, rfl, ⟨rfl, N⟩, hq⟩ := m0 l s _ (fun i {d} h => hw d (List.mem_of_getElem? h)) i0 i1 i2 i3 i4 i5  s.heap s.heap.size (Nat.le_refl _) p e ha hc hk s m _ below hf ((Spec.applies_iff_loose hf).mp happ).1 ⟨rfl, State.Warmed39.refl s, rfl⟩ trivial
  refine ⟨n, _, h1, h2, h3, hpost _ _ _ _ _ _ ⟨Cond.after_iff.mpr rfl, Cond.after_iff.mpr (eq_i res_at (Term.int_eval (1)) rfl), trivial⟩ ⟨hq.1, hq.2.1, (hq.2.2.sift fun y hy => Or.inr (N y hy)).mono (by decide) (by decide)⟩⟩
theorem main_1_1 : Claimed_1_1 := comes_1 fun _ _ _ _ _ _ h hF => ⟨h.1, hF⟩
theorem main_1_2 : Claimed_1_2 := comes_1 fun _ _ _ _ _ _ h hF => ⟨h.2.1, hF⟩
end Jvm.Pilot.@@N@@
namespace Jvm.Pilot.@@N@@
open Jvm Jvm.ClassFile Sem Op Lib Jvm.Free Jvm.Stand Jvm.Pilot.@@N@@.Jvm.D
/-! MADE BY PROGRAM (witnessworld.py) out of the Statement's table words and the real class files: 11 classes; the members and pool entries that the words name. The judged class is class 1, her method 3. -/
namespace start1
open Jvm.ClassFile
def u (s : String) : CpInfo := .utf8 (stringToUtf16 s)
/-- a pool by its gaps: so many unusable entries, then the entry; so many at the end -/
def gap : Nat → List CpInfo → List CpInfo
  | 0, r => r
  | n + 1, r => .unusable :: gap n r
def poolList (es : List (Nat × CpInfo)) (last : Nat) : List CpInfo := es.foldr (fun e r => gap e.1 (e.2 :: r)) (gap last [])
def pool (es : List (Nat × CpInfo)) (last : Nat) : Array CpInfo := ⟨poolList es last⟩
def fileOf (pool : Array CpInfo) (this : Nat) (attrs : Array Attribute := #[]) (ms : Array MethodInfo := #[]) (fl : Nat := 33) (sup : Nat := 0) (ifs : Array Nat := #[]) (fds : Array FieldInfo := #[]) : ClassFile where
  minorVersion := 0
  majorVersion := 65
  constantPool := pool
  accessFlags := fl
  thisClass := this
  superClass := sup
  interfaces := ifs
  fields := fds
  methods := ms
  attributes := attrs
def plain (name : String) (sup : Option ClassId) : Class where
  name := name
  kind := .ordinary
  loader := none
  accessFlags := 33
  super := sup
  interfaces := #[]
  cf := none
  fields := #[]
  methods := #[]
  instanceTypes := #[]
  staticTypes := #[]
  resolved := #[]
  callSites := []
  init := .initialized
  statics := none
  mirror := none

def pool0 : Array CpInfo := pool [(5, u "<init>"), (0, u "()V"), (1, .class_ 10), (1, u "java/lang/Object")] 113

def k0c0 : Code := { maxStack := 0, maxLocals := 1, code := object_method_1_code, exceptionTable := #[], attributes := #[] }
def k0m0 : Method := { name := "<init>", desc := "()V", sig := { parameters := [], returnType := none }, accessFlags := 1, code := some k0c0 }
/-- java/lang/Object -/
def k0 : Class := { plain "java/lang/Object" none with
  accessFlags := 33
  interfaces := #[]
  cf := some (fileOf pool0 8 #[] #[{ accessFlags := 1, nameIndex := 5, descriptorIndex := 6, attributes := #[] }] 33 0 #[] #[])
  fields := #[]
  methods := #[k0m0]
  instanceTypes := #[]
  staticTypes := #[]
  resolved := Array.replicate 124 none
  statics := none }

def pool1 : Array CpInfo := pool [(2, .class_ 4), (1, u "java/lang/Object"), (0, u "<init>"), (0, u "()V"), (0, .methodref 8 9), (0, .class_ 10), (0, .nameAndType 11 12), (0, u "com/example/frontrank/frontrank/OrderTreeRotatePinLaw"), (0, u "before"), (0, u "([II)I"), (0, .integer 2147483647), (0, .class_ 15), (0, u "com/example/frontrank/frontrank/OrderTree"), (0, .methodref 14 17), (0, .nameAndType 5 18), (0, u "(I)V"), (0, .methodref 14 20), (0, .nameAndType 21 22), (0, u "move"), (0, u "(II)V"), (0, .methodref 14 24), (0, .nameAndType 25 26), (0, u "rotate"), (0, u "([I)V"), (0, .methodref 14 28), (0, .nameAndType 29 30), (0, u "item"), (0, u "(I)I"), (0, .methodref 8 32), (0, .nameAndType 33 12), (0, u "after"), (0, .methodref 14 35), (0, .nameAndType 36 30), (0, u "position"), (3, u "law"), (0, u "(IIIIII)Z")] 4

def k1m0 : Method := { name := "<init>", desc := "()V", sig := { parameters := [], returnType := none }, accessFlags := 1, code := none }
def k1c1 : Code := { maxStack := 2, maxLocals := 5, code := method_2_code, exceptionTable := #[], attributes := #[] }
def k1m1 : Method := { name := "before", desc := "([II)I", sig := { parameters := [(.array .int), .int], returnType := some .int }, accessFlags := 10, code := some k1c1 }
def k1c2 : Code := { maxStack := 3, maxLocals := 3, code := method_3_code, exceptionTable := #[], attributes := #[] }
def k1m2 : Method := { name := "after", desc := "([II)I", sig := { parameters := [(.array .int), .int], returnType := some .int }, accessFlags := 10, code := some k1c2 }
def k1c3 : Code := { maxStack := 4, maxLocals := 21, code := code, exceptionTable := #[], attributes := #[] }
def k1m3 : Method := { name := "law", desc := "(IIIIII)Z", sig := { parameters := [.int, .int, .int, .int, .int, .int], returnType := some .boolean }, accessFlags := 9, code := some k1c3 }
/-- com/example/frontrank/frontrank/OrderTreeRotatePinLaw -/
def k1 : Class := { plain "com/example/frontrank/frontrank/OrderTreeRotatePinLaw" (some 0) with
  accessFlags := 49
  interfaces := #[]
  cf := some (fileOf pool1 8 #[] #[{ accessFlags := 1, nameIndex := 5, descriptorIndex := 6, attributes := #[] }, { accessFlags := 10, nameIndex := 11, descriptorIndex := 12, attributes := #[] }, { accessFlags := 10, nameIndex := 33, descriptorIndex := 12, attributes := #[] }, { accessFlags := 9, nameIndex := 40, descriptorIndex := 41, attributes := #[] }] 49 2 #[] #[])
  fields := #[]
  methods := #[k1m0, k1m1, k1m2, k1m3]
  instanceTypes := #[]
  staticTypes := #[]
  resolved := Array.replicate 46 none
  statics := none }

def pool2 : Array CpInfo := pool [(1, .class_ 2), (0, u "com/example/frontrank/frontrank/OrderTree"), (0, .methodref 4 5), (0, .class_ 6), (0, .nameAndType 7 8), (0, u "java/lang/Object"), (0, u "<init>"), (0, u "()V"), (0, .integer 268435456), (9, .fieldref 1 20), (0, .nameAndType 21 22), (0, u "leafBlocks"), (0, u "[I"), (0, .fieldref 1 24), (0, .nameAndType 25 22), (0, u "innerBlocks"), (0, .fieldref 1 27), (0, .nameAndType 28 22), (0, u "leafOf"), (0, .methodref 1 30), (0, .nameAndType 31 32), (0, u "build"), (0, u "([I)V"), (0, .methodref 1 34), (0, .nameAndType 35 36), (0, u "locate"), (0, u "(I)I"), (0, .methodref 1 38), (0, .nameAndType 39 36), (0, u "placeOf"), (0, .fieldref 1 41), (0, .nameAndType 42 43), (0, u "regular"), (0, u "Z"), (0, .fieldref 1 45), (0, .nameAndType 46 47), (0, u "leaves"), (0, u "I"), (3, .methodref 1 52), (0, .nameAndType 53 54), (0, u "remove"), (0, u "(I)V"), (0, .methodref 1 56), (0, .nameAndType 57 58), (0, u "insert"), (0, u "(II)V"), (0, .fieldref 1 60), (0, .nameAndType 61 47), (0, u "root"), (0, .fieldref 1 63), (0, .nameAndType 64 47), (0, u "height"), (0, .methodref 66 67), (0, .class_ 68), (0, .nameAndType 69 70), (0, u "java/lang/System"), (0, u "arraycopy"), (0, u "(Ljava/lang/Object;ILjava/lang/Object;II)V"), (0, .methodref 1 72), (0, .nameAndType 73 74), (0, u "newInner"), (0, u "()I"), (0, .methodref 1 76), (0, .nameAndType 77 36), (0, u "total"), (0, .methodref 1 79), (0, .nameAndType 80 81), (0, u "setParent"), (0, u "(IIII)V"), (0, .methodref 1 83), (0, .nameAndType 84 85), (0, u "isFull"), (0, u "(II)Z"), (0, .methodref 1 87), (0, .nameAndType 88 89), (0, u "split"), (0, u "(III)V"), (7, .methodref 98 99), (0, .class_ 100), (0, .nameAndType 101 102), (0, u "java/lang/Math"), (0, u "min"), (0, u "(II)I"), (0, .fieldref 1 104), (0, .nameAndType 105 47), (0, u "inners"), (6, u "PARENT"), (2, u "SLOT"), (1, u "SIZE"), (1, u "HEADER"), (1, u "LEAF_STRIDE"), (1, u "LEAF_CAPACITY"), (1, u "INNER_STRIDE"), (1, u "FANOUT"), (1, u "CHILDREN"), (1, u "LEAF_FILL"), (1, u "INNER_FILL"), (1, u "NONE"), (1, u "MAX_SIZE"), (4, u "item"), (0, u "position"), (0, u "move"), (0, u "rotate")] 17

def k2c0 : Code := { maxStack := 3, maxLocals := 5, code := prog_32_method_1_code, exceptionTable := #[], attributes := #[] }
def k2m0 : Method := { name := "<init>", desc := "(I)V", sig := { parameters := [.int], returnType := none }, accessFlags := 0, code := some k2c0 }
def k2c1 : Code := { maxStack := 3, maxLocals := 2, code := prog_32_method_3_code, exceptionTable := #[], attributes := #[] }
def k2m1 : Method := { name := "item", desc := "(I)I", sig := { parameters := [.int], returnType := some .int }, accessFlags := 0, code := some k2c1 }
def k2c2 : Code := { maxStack := 3, maxLocals := 8, code := prog_32_method_4_code, exceptionTable := #[], attributes := #[] }
def k2m2 : Method := { name := "position", desc := "(I)I", sig := { parameters := [.int], returnType := some .int }, accessFlags := 0, code := some k2c2 }
def k2c3 : Code := { maxStack := 3, maxLocals := 3, code := prog_32_method_5_code, exceptionTable := #[], attributes := #[] }
def k2m3 : Method := { name := "move", desc := "(II)V", sig := { parameters := [.int, .int], returnType := none }, accessFlags := 0, code := some k2c3 }
def k2c4 : Code := { maxStack := 5, maxLocals := 7, code := prog_32_method_6_code, exceptionTable := #[], attributes := #[] }
def k2m4 : Method := { name := "rotate", desc := "([I)V", sig := { parameters := [(.array .int)], returnType := none }, accessFlags := 128, code := some k2c4 }
def k2c5 : Code := { maxStack := 4, maxLocals := 8, code := prog_32_method_7_code, exceptionTable := #[], attributes := #[] }
def k2m5 : Method := { name := "locate", desc := "(I)I", sig := { parameters := [.int], returnType := some .int }, accessFlags := 2, code := some k2c5 }
def k2c6 : Code := { maxStack := 2, maxLocals := 3, code := prog_32_method_8_code, exceptionTable := #[], attributes := #[] }
def k2m6 : Method := { name := "placeOf", desc := "(I)I", sig := { parameters := [.int], returnType := some .int }, accessFlags := 2, code := some k2c6 }
def k2c7 : Code := { maxStack := 6, maxLocals := 8, code := prog_32_method_9_code, exceptionTable := #[], attributes := #[] }
def k2m7 : Method := { name := "remove", desc := "(I)V", sig := { parameters := [.int], returnType := none }, accessFlags := 2, code := some k2c7 }
def k2c8 : Code := { maxStack := 6, maxLocals := 9, code := prog_32_method_10_code, exceptionTable := #[], attributes := #[] }
def k2m8 : Method := { name := "insert", desc := "(II)V", sig := { parameters := [.int, .int], returnType := none }, accessFlags := 2, code := some k2c8 }
def k2c9 : Code := { maxStack := 3, maxLocals := 3, code := prog_32_method_11_code, exceptionTable := #[], attributes := #[] }
def k2m9 : Method := { name := "isFull", desc := "(II)Z", sig := { parameters := [.int, .int], returnType := some .boolean }, accessFlags := 2, code := some k2c9 }
def k2c10 : Code := { maxStack := 6, maxLocals := 10, code := prog_32_method_12_code, exceptionTable := #[], attributes := #[] }
def k2m10 : Method := { name := "split", desc := "(III)V", sig := { parameters := [.int, .int, .int], returnType := none }, accessFlags := 2, code := some k2c10 }
def k2c11 : Code := { maxStack := 5, maxLocals := 12, code := prog_32_method_15_code, exceptionTable := #[], attributes := #[] }
def k2m11 : Method := { name := "build", desc := "([I)V", sig := { parameters := [(.array .int)], returnType := none }, accessFlags := 2, code := some k2c11 }
def k2c12 : Code := { maxStack := 4, maxLocals := 2, code := prog_32_method_16_code, exceptionTable := #[], attributes := #[] }
def k2m12 : Method := { name := "newInner", desc := "()I", sig := { parameters := [], returnType := some .int }, accessFlags := 2, code := some k2c12 }
def k2c13 : Code := { maxStack := 5, maxLocals := 5, code := prog_32_method_17_code, exceptionTable := #[], attributes := #[] }
def k2m13 : Method := { name := "total", desc := "(I)I", sig := { parameters := [.int], returnType := some .int }, accessFlags := 2, code := some k2c13 }
def k2c14 : Code := { maxStack := 3, maxLocals := 7, code := prog_32_method_18_code, exceptionTable := #[], attributes := #[] }
def k2m14 : Method := { name := "setParent", desc := "(IIII)V", sig := { parameters := [.int, .int, .int, .int], returnType := none }, accessFlags := 2, code := some k2c14 }
/-- com/example/frontrank/frontrank/OrderTree -/
def k2 : Class := { plain "com/example/frontrank/frontrank/OrderTree" (some 0) with
  accessFlags := 48
  interfaces := #[]
  cf := some (fileOf pool2 1 #[] #[{ accessFlags := 0, nameIndex := 7, descriptorIndex := 54, attributes := #[] }, { accessFlags := 0, nameIndex := 142, descriptorIndex := 36, attributes := #[] }, { accessFlags := 0, nameIndex := 143, descriptorIndex := 36, attributes := #[] }, { accessFlags := 0, nameIndex := 144, descriptorIndex := 58, attributes := #[] }, { accessFlags := 128, nameIndex := 145, descriptorIndex := 32, attributes := #[] }, { accessFlags := 2, nameIndex := 35, descriptorIndex := 36, attributes := #[] }, { accessFlags := 2, nameIndex := 39, descriptorIndex := 36, attributes := #[] }, { accessFlags := 2, nameIndex := 53, descriptorIndex := 54, attributes := #[] }, { accessFlags := 2, nameIndex := 57, descriptorIndex := 58, attributes := #[] }, { accessFlags := 2, nameIndex := 84, descriptorIndex := 85, attributes := #[] }, { accessFlags := 2, nameIndex := 88, descriptorIndex := 89, attributes := #[] }, { accessFlags := 2, nameIndex := 31, descriptorIndex := 32, attributes := #[] }, { accessFlags := 2, nameIndex := 73, descriptorIndex := 74, attributes := #[] }, { accessFlags := 2, nameIndex := 77, descriptorIndex := 36, attributes := #[] }, { accessFlags := 2, nameIndex := 80, descriptorIndex := 81, attributes := #[] }] 48 4 #[] #[{ accessFlags := 26, nameIndex := 112, descriptorIndex := 47, attributes := #[] }, { accessFlags := 26, nameIndex := 115, descriptorIndex := 47, attributes := #[] }, { accessFlags := 26, nameIndex := 117, descriptorIndex := 47, attributes := #[] }, { accessFlags := 26, nameIndex := 119, descriptorIndex := 47, attributes := #[] }, { accessFlags := 26, nameIndex := 121, descriptorIndex := 47, attributes := #[] }, { accessFlags := 26, nameIndex := 123, descriptorIndex := 47, attributes := #[] }, { accessFlags := 26, nameIndex := 125, descriptorIndex := 47, attributes := #[] }, { accessFlags := 26, nameIndex := 127, descriptorIndex := 47, attributes := #[] }, { accessFlags := 26, nameIndex := 129, descriptorIndex := 47, attributes := #[] }, { accessFlags := 26, nameIndex := 131, descriptorIndex := 47, attributes := #[] }, { accessFlags := 26, nameIndex := 133, descriptorIndex := 47, attributes := #[] }, { accessFlags := 26, nameIndex := 135, descriptorIndex := 47, attributes := #[] }, { accessFlags := 24, nameIndex := 137, descriptorIndex := 47, attributes := #[] }, { accessFlags := 18, nameIndex := 21, descriptorIndex := 22, attributes := #[] }, { accessFlags := 2, nameIndex := 46, descriptorIndex := 47, attributes := #[] }, { accessFlags := 2, nameIndex := 25, descriptorIndex := 22, attributes := #[] }, { accessFlags := 2, nameIndex := 105, descriptorIndex := 47, attributes := #[] }, { accessFlags := 18, nameIndex := 28, descriptorIndex := 22, attributes := #[] }, { accessFlags := 2, nameIndex := 61, descriptorIndex := 47, attributes := #[] }, { accessFlags := 2, nameIndex := 64, descriptorIndex := 47, attributes := #[] }, { accessFlags := 2, nameIndex := 42, descriptorIndex := 43, attributes := #[] }])
  fields := #[{ name := "PARENT", type := .int, accessFlags := 26, slot := 0, constantValue := 0 }, { name := "SLOT", type := .int, accessFlags := 26, slot := 1, constantValue := 0 }, { name := "SIZE", type := .int, accessFlags := 26, slot := 2, constantValue := 0 }, { name := "HEADER", type := .int, accessFlags := 26, slot := 3, constantValue := 0 }, { name := "LEAF_STRIDE", type := .int, accessFlags := 26, slot := 4, constantValue := 0 }, { name := "LEAF_CAPACITY", type := .int, accessFlags := 26, slot := 5, constantValue := 0 }, { name := "INNER_STRIDE", type := .int, accessFlags := 26, slot := 6, constantValue := 0 }, { name := "FANOUT", type := .int, accessFlags := 26, slot := 7, constantValue := 0 }, { name := "CHILDREN", type := .int, accessFlags := 26, slot := 8, constantValue := 0 }, { name := "LEAF_FILL", type := .int, accessFlags := 26, slot := 9, constantValue := 0 }, { name := "INNER_FILL", type := .int, accessFlags := 26, slot := 10, constantValue := 0 }, { name := "NONE", type := .int, accessFlags := 26, slot := 11, constantValue := 0 }, { name := "MAX_SIZE", type := .int, accessFlags := 24, slot := 12, constantValue := 0 }, { name := "leafBlocks", type := (.array .int), accessFlags := 18, slot := 0, constantValue := 0 }, { name := "leaves", type := .int, accessFlags := 2, slot := 1, constantValue := 0 }, { name := "innerBlocks", type := (.array .int), accessFlags := 2, slot := 2, constantValue := 0 }, { name := "inners", type := .int, accessFlags := 2, slot := 3, constantValue := 0 }, { name := "leafOf", type := (.array .int), accessFlags := 18, slot := 4, constantValue := 0 }, { name := "root", type := .int, accessFlags := 2, slot := 5, constantValue := 0 }, { name := "height", type := .int, accessFlags := 2, slot := 6, constantValue := 0 }, { name := "regular", type := .boolean, accessFlags := 2, slot := 7, constantValue := 0 }]
  methods := #[k2m0, k2m1, k2m2, k2m3, k2m4, k2m5, k2m6, k2m7, k2m8, k2m9, k2m10, k2m11, k2m12, k2m13, k2m14]
  instanceTypes := #[(.array .int), .int, (.array .int), .int, (.array .int), .int, .int, .boolean]
  staticTypes := #[.int, .int, .int, .int, .int, .int, .int, .int, .int, .int, .int, .int, .int]
  resolved := Array.replicate 163 none
  statics := none }

def pool3 : Array CpInfo := pool [(1, .class_ 2), (0, u "java/lang/Math"), (1, .class_ 6), (1, u "java/lang/Object"), (0, u "<init>"), (0, u "()V"), (89, .class_ 100), (1, u "java/lang/Math$RandomNumberGeneratorHolder"), (71, u "negativeZeroFloatBits"), (0, u "J"), (2, u "negativeZeroDoubleBits"), (24, u "min"), (43, u "$assertionsDisabled"), (0, u "Z"), (88, u "(II)I"), (2, u "twoToTheDoubleScaleDown"), (0, u "D"), (4, u "twoToTheDoubleScaleUp"), (9, u "E"), (3, u "PI"), (2, u "TAU"), (2, u "DEGREES_TO_RADIANS"), (0, u "RADIANS_TO_DEGREES")] 94

def k3m0 : Method := { name := "<init>", desc := "()V", sig := { parameters := [], returnType := none }, accessFlags := 2, code := none }
def k3c1 : Code := { maxStack := 2, maxLocals := 2, code := jdk_29_method_69_code, exceptionTable := #[], attributes := #[] }
def k3m1 : Method := { name := "min", desc := "(II)I", sig := { parameters := [.int, .int], returnType := some .int }, accessFlags := 9, code := some k3c1 }
/-- java/lang/Math -/
def k3 : Class := { plain "java/lang/Math" (some 0) with
  accessFlags := 49
  interfaces := #[]
  cf := some (fileOf pool3 1 #[.nestMembers #[98]] #[{ accessFlags := 2, nameIndex := 7, descriptorIndex := 8, attributes := #[] }, { accessFlags := 9, nameIndex := 201, descriptorIndex := 335, attributes := #[] }] 49 4 #[] #[{ accessFlags := 25, nameIndex := 354, descriptorIndex := 339, attributes := #[] }, { accessFlags := 25, nameIndex := 358, descriptorIndex := 339, attributes := #[] }, { accessFlags := 25, nameIndex := 361, descriptorIndex := 339, attributes := #[] }, { accessFlags := 26, nameIndex := 364, descriptorIndex := 339, attributes := #[] }, { accessFlags := 26, nameIndex := 365, descriptorIndex := 339, attributes := #[] }, { accessFlags := 26, nameIndex := 172, descriptorIndex := 173, attributes := #[] }, { accessFlags := 26, nameIndex := 176, descriptorIndex := 173, attributes := #[] }, { accessFlags := 8, nameIndex := 344, descriptorIndex := 339, attributes := #[] }, { accessFlags := 8, nameIndex := 338, descriptorIndex := 339, attributes := #[] }, { accessFlags := 4120, nameIndex := 245, descriptorIndex := 246, attributes := #[] }])
  fields := #[{ name := "E", type := .double, accessFlags := 25, slot := 0, constantValue := 0 }, { name := "PI", type := .double, accessFlags := 25, slot := 1, constantValue := 0 }, { name := "TAU", type := .double, accessFlags := 25, slot := 2, constantValue := 0 }, { name := "DEGREES_TO_RADIANS", type := .double, accessFlags := 26, slot := 3, constantValue := 0 }, { name := "RADIANS_TO_DEGREES", type := .double, accessFlags := 26, slot := 4, constantValue := 0 }, { name := "negativeZeroFloatBits", type := .long, accessFlags := 26, slot := 5, constantValue := 0 }, { name := "negativeZeroDoubleBits", type := .long, accessFlags := 26, slot := 6, constantValue := 0 }, { name := "twoToTheDoubleScaleUp", type := .double, accessFlags := 8, slot := 7, constantValue := 0 }, { name := "twoToTheDoubleScaleDown", type := .double, accessFlags := 8, slot := 8, constantValue := 0 }, { name := "$assertionsDisabled", type := .boolean, accessFlags := 4120, slot := 9, constantValue := 0 }]
  methods := #[k3m0, k3m1]
  instanceTypes := #[]
  staticTypes := #[.double, .double, .double, .double, .double, .long, .long, .double, .double, .boolean]
  resolved := Array.replicate 460 none
  statics := none }

def pool4 : Array CpInfo := pool [(2, .class_ 4), (1, u "java/lang/Object"), (0, u "<init>"), (0, u "()V"), (1, .class_ 10), (1, u "java/lang/System"), (0, u "allowSecurityManager"), (0, u "I"), (16, u "cons"), (0, u "Ljava/io/Console;"), (77, .class_ 110), (1, u "java/lang/System$CallersHolder"), (43, u "initialErrStream"), (0, u "Ljava/io/PrintStream;"), (19, u "security"), (0, u "Ljava/lang/SecurityManager;"), (31, .class_ 209), (0, u "java/lang/System$1"), (7, u "props"), (0, u "Ljava/util/Properties;"), (2, u "lineSeparator"), (0, u "Ljava/lang/String;"), (96, .class_ 321), (1, u "java/lang/System$LoggerFinder"), (5, .class_ 328), (0, u "java/lang/System$Logger"), (67, u "err"), (2, u "out"), (91, u "notSupportedJnuEncoding"), (15, u "in"), (17, u "initialIn"), (0, u "Ljava/io/InputStream;"), (35, u "bootLayer"), (0, u "Ljava/lang/ModuleLayer;"), (99, .class_ 664), (0, u "java/lang/System$2"), (9, u "NEVER"), (2, u "MAYBE"), (49, u "arraycopy"), (0, u "(Ljava/lang/Object;ILjava/lang/Object;II)V"), (72, .class_ 802), (0, u "java/lang/System$Logger$Level")] 31

def k4m0 : Method := { name := "<init>", desc := "()V", sig := { parameters := [], returnType := none }, accessFlags := 2, code := none }
def k4m1 : Method := { name := "arraycopy", desc := "(Ljava/lang/Object;ILjava/lang/Object;II)V", sig := { parameters := [(.object "java/lang/Object"), .int, (.object "java/lang/Object"), .int, .int], returnType := none }, accessFlags := 265, code := none }
/-- java/lang/System -/
def k4 : Class := { plain "java/lang/System" (some 0) with
  accessFlags := 49
  interfaces := #[]
  cf := some (fileOf pool4 8 #[.nestMembers #[319, 327, 801, 108, 663, 208]] #[{ accessFlags := 2, nameIndex := 5, descriptorIndex := 6, attributes := #[] }, { accessFlags := 265, nameIndex := 727, descriptorIndex := 728, attributes := #[] }] 49 2 #[] #[{ accessFlags := 25, nameIndex := 507, descriptorIndex := 526, attributes := #[] }, { accessFlags := 25, nameIndex := 399, descriptorIndex := 155, attributes := #[] }, { accessFlags := 25, nameIndex := 396, descriptorIndex := 155, attributes := #[] }, { accessFlags := 10, nameIndex := 525, descriptorIndex := 526, attributes := #[] }, { accessFlags := 26, nameIndex := 674, descriptorIndex := 12, attributes := #[] }, { accessFlags := 26, nameIndex := 677, descriptorIndex := 12, attributes := #[] }, { accessFlags := 10, nameIndex := 11, descriptorIndex := 12, attributes := #[] }, { accessFlags := 74, nameIndex := 175, descriptorIndex := 176, attributes := #[] }, { accessFlags := 10, nameIndex := 491, descriptorIndex := 222, attributes := #[] }, { accessFlags := 74, nameIndex := 29, descriptorIndex := 30, attributes := #[] }, { accessFlags := 74, nameIndex := 154, descriptorIndex := 155, attributes := #[] }, { accessFlags := 10, nameIndex := 217, descriptorIndex := 218, attributes := #[] }, { accessFlags := 10, nameIndex := 221, descriptorIndex := 222, attributes := #[] }, { accessFlags := 8, nameIndex := 562, descriptorIndex := 563, attributes := #[] }])
  fields := #[{ name := "in", type := (.object "java/io/InputStream"), accessFlags := 25, slot := 0, constantValue := 0 }, { name := "out", type := (.object "java/io/PrintStream"), accessFlags := 25, slot := 1, constantValue := 0 }, { name := "err", type := (.object "java/io/PrintStream"), accessFlags := 25, slot := 2, constantValue := 0 }, { name := "initialIn", type := (.object "java/io/InputStream"), accessFlags := 10, slot := 3, constantValue := 0 }, { name := "NEVER", type := .int, accessFlags := 26, slot := 4, constantValue := 0 }, { name := "MAYBE", type := .int, accessFlags := 26, slot := 5, constantValue := 0 }, { name := "allowSecurityManager", type := .int, accessFlags := 10, slot := 6, constantValue := 0 }, { name := "security", type := (.object "java/lang/SecurityManager"), accessFlags := 74, slot := 7, constantValue := 0 }, { name := "notSupportedJnuEncoding", type := (.object "java/lang/String"), accessFlags := 10, slot := 8, constantValue := 0 }, { name := "cons", type := (.object "java/io/Console"), accessFlags := 74, slot := 9, constantValue := 0 }, { name := "initialErrStream", type := (.object "java/io/PrintStream"), accessFlags := 74, slot := 10, constantValue := 0 }, { name := "props", type := (.object "java/util/Properties"), accessFlags := 10, slot := 11, constantValue := 0 }, { name := "lineSeparator", type := (.object "java/lang/String"), accessFlags := 10, slot := 12, constantValue := 0 }, { name := "bootLayer", type := (.object "java/lang/ModuleLayer"), accessFlags := 8, slot := 13, constantValue := 0 }]
  methods := #[k4m0, k4m1]
  instanceTypes := #[]
  staticTypes := #[(.object "java/io/InputStream"), (.object "java/io/PrintStream"), (.object "java/io/PrintStream"), (.object "java/io/InputStream"), .int, .int, .int, (.object "java/lang/SecurityManager"), (.object "java/lang/String"), (.object "java/io/Console"), (.object "java/io/PrintStream"), (.object "java/util/Properties"), (.object "java/lang/String"), (.object "java/lang/ModuleLayer")]
  resolved := Array.replicate 834 none
  statics := none }

def pool5 : Array CpInfo := pool [(1, u "java/lang/Cloneable"), (0, .class_ 1), (0, u "java/lang/Object"), (0, .class_ 3)] 3

/-- java/lang/Cloneable -/
def k5 : Class := { plain "java/lang/Cloneable" (some 0) with
  accessFlags := 1537
  interfaces := #[]
  cf := some (fileOf pool5 2 #[] #[] 1537 4 #[] #[])
  fields := #[]
  methods := #[]
  instanceTypes := #[]
  staticTypes := #[]
  resolved := Array.replicate 8 none
  statics := none }

def pool6 : Array CpInfo := pool [(1, u "java/io/Serializable"), (0, .class_ 1), (0, u "java/lang/Object"), (0, .class_ 3)] 3

/-- java/io/Serializable -/
def k6 : Class := { plain "java/io/Serializable" (some 0) with
  accessFlags := 1537
  interfaces := #[]
  cf := some (fileOf pool6 2 #[] #[] 1537 4 #[] #[])
  fields := #[]
  methods := #[]
  instanceTypes := #[]
  staticTypes := #[]
  resolved := Array.replicate 8 none
  statics := none }

/-- the primitive byte -/
def k7 : Class := { plain "byte" none with kind := .primitive 'B', accessFlags := 0x411 }
/-- [B -/
def k8 : Class := { plain "[B" (some 0) with kind := .array 7 .byte, interfaces := #[5, 6], accessFlags := 1041 }

/-- the primitive int -/
def k9 : Class := { plain "int" none with kind := .primitive 'I', accessFlags := 0x411 }
/-- [I -/
def k10 : Class := { plain "[I" (some 0) with kind := .array 9 .int, interfaces := #[5, 6], accessFlags := 1041 }

def heap : Heap := #[]
def classes : Array Class := #[k0, k1, k2, k3, k4, k5, k6, k7, k8, k9, k10]
def interned : List (Array UInt16 × Addr) := []
def slotsUsed : Nat := 0
def theMethod : MethodId := ⟨1, 3⟩
def args0 : Array Value := #[.int 5, .int 1, .int 2, .int 3, .int 4, .int 6]
def aboutOver (below : List Frame) : State where
  vm := { classes := classes, interned := interned.toArray }
  heap := heap
  slotsUsed := slotsUsed
  threads := #[{ frames := .invoking theMethod args0 :: below }]
def below0 : List Frame := [.native { method := ⟨0, 0⟩, args := #[] }]
def about1 : State := aboutOver below0
def p0 : Program := .bare "" "" ""
def e0 : Env := launch0.env 0 0 0
theorem w_frames : about1.frames = Frame.invoking theMethod args0 :: below0 := rfl
set_option maxRecDepth 65536 in
theorem w_args : argsFit about1.vm theMethod args0 = true := by decide +kernel
set_option maxRecDepth 65536 in
theorem w_heap : heapFits about1 = true := by decide +kernel
set_option maxRecDepth 65536 in
theorem w_runnable : about1.curStatus? = some .runnable := by decide +kernel
set_option maxRecDepth 65536 in
theorem w_alone : about1.alone = true := by decide +kernel
set_option maxRecDepth 65536 in
theorem w_named : about1.methodNamed? x = some theMethod := by decide +kernel
set_option maxRecDepth 65536 in
theorem w_hears : about1.hears theMethod below0 = true := by decide +kernel
set_option maxRecDepth 65536 in
theorem w_ripe : about1.ripe theMethod args0 below0 = true := by decide +kernel
theorem w_running : about1.status = .running := rfl
set_option maxRecDepth 65536 in
theorem w_room : about1.hasRoom e0.platform room_1 = true :=
  launch0.hasRoom_least _ room_1 (by decide +kernel) (by decide +kernel) (by decide +kernel) (by decide +kernel) (by decide +kernel) (by decide +kernel)
theorem allAtoms_all (ts : List Jvm.Cond) (a : Array Jvm.Value) (st : Jvm.State) : (allAtoms ts).before a st = ts.all (fun c => c.before a st) := by
  induction ts with
  | nil => rfl
  | cons c t ih =>
    show (Jvm.Cond.and c (allAtoms t)).before a st = _
    rw [Jvm.Cond.before_and, ih, List.all_cons]
def words1 : List Jvm.Cond := Jvm.Cond.code x code maxLocals ret :: tables_1
/-- a 'code' word, met by the world's own term for the bytes: nothing is compared byte by byte -/
theorem code_word {y : MethodName} {bytes : ByteArray} {mx : Nat} {rt : Option FieldType} {a : Array Value} {s : State} {m : MethodId} {meth : Method} {c : Code} (h1 : s.methodNamed? y = some m) (h2 : s.vm.method? m = some meth) (h3 : meth.code = some c) (h4 : c.code = bytes)
    (h5 : (c.maxLocals == mx && c.exceptionTable.isEmpty && decide (c.maxStack ≤ mostOperands) && decide (meth.sig.returnType = rt) && !meth.locks && decide (parseMethodDescriptor y.desc = some meth.sig)) = true) : (Jvm.Cond.code y bytes mx rt).before a s = true := by
  simp only [Bool.and_eq_true, beq_iff_eq, Bool.not_eq_true', decide_eq_true_eq] at h5
  obtain ⟨⟨⟨⟨⟨g1, g2⟩, g3⟩, g4⟩, g5⟩, g6⟩ := h5
  simp [Cond.before, Cond.holds, Cond.value, h1, h2, h3, h4, g1, g2, g3, g4, g5, g6]
def isCode : Jvm.Cond → Bool
  | .code _ _ _ _ => true
  | _ => false
theorem all_split {L : List Jvm.Cond} {P : Jvm.Cond → Bool} (h1 : L.all (fun c => isCode c || P c) = true) (h2 : ∀ c ∈ L.filter isCode, P c = true) : L.all P = true := by
  refine List.all_eq_true.mpr fun c hc => ?_
  have h := List.all_eq_true.mp h1 c hc
  rcases Bool.eq_false_or_eq_true (isCode c) with hi | hi
  · exact h2 c (List.mem_filter.mpr ⟨hc, hi⟩)
  · simpa [hi] using h
set_option maxRecDepth 65536 in
theorem w_c0 : (Jvm.Cond.code x code maxLocals ret).before args0 about1 = true := code_word (m := ⟨1, 3⟩) (meth := k1m3) (c := k1c3) (by decide +kernel) rfl rfl rfl (by decide +kernel)
set_option maxRecDepth 65536 in
theorem w_c1 : (Jvm.Cond.code ({ cls := "com/example/frontrank/frontrank/OrderTree", name := "<init>", desc := "(I)V" } : Jvm.MethodName) prog_32_method_1_code (5 : Nat) (Option.none : Option Jvm.ClassFile.FieldType)).before args0 about1 = true := code_word (m := ⟨2, 0⟩) (meth := k2m0) (c := k2c0) (by decide +kernel) rfl rfl rfl (by decide +kernel)
set_option maxRecDepth 65536 in
theorem w_c2 : (Jvm.Cond.code ({ cls := "java/lang/Object", name := "<init>", desc := "()V" } : Jvm.MethodName) object_method_1_code (1 : Nat) (Option.none : Option Jvm.ClassFile.FieldType)).before args0 about1 = true := code_word (m := ⟨0, 0⟩) (meth := k0m0) (c := k0c0) (by decide +kernel) rfl rfl rfl (by decide +kernel)
set_option maxRecDepth 65536 in
theorem w_c3 : (Jvm.Cond.code ({ cls := "com/example/frontrank/frontrank/OrderTree", name := "build", desc := "([I)V" } : Jvm.MethodName) prog_32_method_15_code (12 : Nat) (Option.none : Option Jvm.ClassFile.FieldType)).before args0 about1 = true := code_word (m := ⟨2, 11⟩) (meth := k2m11) (c := k2c11) (by decide +kernel) rfl rfl rfl (by decide +kernel)
set_option maxRecDepth 65536 in
theorem w_c4 : (Jvm.Cond.code ({ cls := "java/lang/Math", name := "min", desc := "(II)I" } : Jvm.MethodName) jdk_29_method_69_code (2 : Nat) (Option.some Jvm.ClassFile.FieldType.int)).before args0 about1 = true := code_word (m := ⟨3, 1⟩) (meth := k3m1) (c := k3c1) (by decide +kernel) rfl rfl rfl (by decide +kernel)
set_option maxRecDepth 65536 in
theorem w_c5 : (Jvm.Cond.code ({ cls := "com/example/frontrank/frontrank/OrderTree", name := "newInner", desc := "()I" } : Jvm.MethodName) prog_32_method_16_code (2 : Nat) (Option.some Jvm.ClassFile.FieldType.int)).before args0 about1 = true := code_word (m := ⟨2, 12⟩) (meth := k2m12) (c := k2c12) (by decide +kernel) rfl rfl rfl (by decide +kernel)
set_option maxRecDepth 65536 in
theorem w_c6 : (Jvm.Cond.code ({ cls := "com/example/frontrank/frontrank/OrderTree", name := "setParent", desc := "(IIII)V" } : Jvm.MethodName) prog_32_method_18_code (7 : Nat) (Option.none : Option Jvm.ClassFile.FieldType)).before args0 about1 = true := code_word (m := ⟨2, 14⟩) (meth := k2m14) (c := k2c14) (by decide +kernel) rfl rfl rfl (by decide +kernel)
set_option maxRecDepth 65536 in
theorem w_c7 : (Jvm.Cond.code ({ cls := "com/example/frontrank/frontrank/OrderTree", name := "rotate", desc := "([I)V" } : Jvm.MethodName) prog_32_method_6_code (7 : Nat) (Option.none : Option Jvm.ClassFile.FieldType)).before args0 about1 = true := code_word (m := ⟨2, 4⟩) (meth := k2m4) (c := k2c4) (by decide +kernel) rfl rfl rfl (by decide +kernel)
set_option maxRecDepth 65536 in
theorem w_c8 : (Jvm.Cond.code ({ cls := "com/example/frontrank/frontrank/OrderTree", name := "locate", desc := "(I)I" } : Jvm.MethodName) prog_32_method_7_code (8 : Nat) (Option.some Jvm.ClassFile.FieldType.int)).before args0 about1 = true := code_word (m := ⟨2, 5⟩) (meth := k2m5) (c := k2c5) (by decide +kernel) rfl rfl rfl (by decide +kernel)
set_option maxRecDepth 65536 in
theorem w_c9 : (Jvm.Cond.code ({ cls := "com/example/frontrank/frontrank/OrderTree", name := "item", desc := "(I)I" } : Jvm.MethodName) prog_32_method_3_code (2 : Nat) (Option.some Jvm.ClassFile.FieldType.int)).before args0 about1 = true := code_word (m := ⟨2, 1⟩) (meth := k2m1) (c := k2c1) (by decide +kernel) rfl rfl rfl (by decide +kernel)
set_option maxRecDepth 65536 in
theorem w_c10 : (Jvm.Cond.code ({ cls := "com/example/frontrank/frontrank/OrderTreeRotatePinLaw", name := "after", desc := "([II)I" } : Jvm.MethodName) method_3_code (3 : Nat) (Option.some Jvm.ClassFile.FieldType.int)).before args0 about1 = true := code_word (m := ⟨1, 2⟩) (meth := k1m2) (c := k1c2) (by decide +kernel) rfl rfl rfl (by decide +kernel)
set_option maxRecDepth 65536 in
theorem w_c11 : (Jvm.Cond.code ({ cls := "com/example/frontrank/frontrank/OrderTreeRotatePinLaw", name := "before", desc := "([II)I" } : Jvm.MethodName) method_2_code (5 : Nat) (Option.some Jvm.ClassFile.FieldType.int)).before args0 about1 = true := code_word (m := ⟨1, 1⟩) (meth := k1m1) (c := k1c1) (by decide +kernel) rfl rfl rfl (by decide +kernel)
set_option maxRecDepth 65536 in
theorem w_c12 : (Jvm.Cond.code ({ cls := "com/example/frontrank/frontrank/OrderTree", name := "position", desc := "(I)I" } : Jvm.MethodName) prog_32_method_4_code (8 : Nat) (Option.some Jvm.ClassFile.FieldType.int)).before args0 about1 = true := code_word (m := ⟨2, 2⟩) (meth := k2m2) (c := k2c2) (by decide +kernel) rfl rfl rfl (by decide +kernel)
set_option maxRecDepth 65536 in
theorem w_c13 : (Jvm.Cond.code ({ cls := "com/example/frontrank/frontrank/OrderTree", name := "placeOf", desc := "(I)I" } : Jvm.MethodName) prog_32_method_8_code (3 : Nat) (Option.some Jvm.ClassFile.FieldType.int)).before args0 about1 = true := code_word (m := ⟨2, 6⟩) (meth := k2m6) (c := k2c6) (by decide +kernel) rfl rfl rfl (by decide +kernel)
set_option maxRecDepth 65536 in
theorem w_c14 : (Jvm.Cond.code ({ cls := "com/example/frontrank/frontrank/OrderTree", name := "total", desc := "(I)I" } : Jvm.MethodName) prog_32_method_17_code (5 : Nat) (Option.some Jvm.ClassFile.FieldType.int)).before args0 about1 = true := code_word (m := ⟨2, 13⟩) (meth := k2m13) (c := k2c13) (by decide +kernel) rfl rfl rfl (by decide +kernel)
set_option maxRecDepth 65536 in
theorem w_c15 : (Jvm.Cond.code ({ cls := "com/example/frontrank/frontrank/OrderTree", name := "move", desc := "(II)V" } : Jvm.MethodName) prog_32_method_5_code (3 : Nat) (Option.none : Option Jvm.ClassFile.FieldType)).before args0 about1 = true := code_word (m := ⟨2, 3⟩) (meth := k2m3) (c := k2c3) (by decide +kernel) rfl rfl rfl (by decide +kernel)
set_option maxRecDepth 65536 in
theorem w_c16 : (Jvm.Cond.code ({ cls := "com/example/frontrank/frontrank/OrderTree", name := "remove", desc := "(I)V" } : Jvm.MethodName) prog_32_method_9_code (8 : Nat) (Option.none : Option Jvm.ClassFile.FieldType)).before args0 about1 = true := code_word (m := ⟨2, 7⟩) (meth := k2m7) (c := k2c7) (by decide +kernel) rfl rfl rfl (by decide +kernel)
set_option maxRecDepth 65536 in
theorem w_c17 : (Jvm.Cond.code ({ cls := "com/example/frontrank/frontrank/OrderTree", name := "insert", desc := "(II)V" } : Jvm.MethodName) prog_32_method_10_code (9 : Nat) (Option.none : Option Jvm.ClassFile.FieldType)).before args0 about1 = true := code_word (m := ⟨2, 8⟩) (meth := k2m8) (c := k2c8) (by decide +kernel) rfl rfl rfl (by decide +kernel)
set_option maxRecDepth 65536 in
theorem w_c18 : (Jvm.Cond.code ({ cls := "com/example/frontrank/frontrank/OrderTree", name := "isFull", desc := "(II)Z" } : Jvm.MethodName) prog_32_method_11_code (3 : Nat) (Option.some Jvm.ClassFile.FieldType.boolean)).before args0 about1 = true := code_word (m := ⟨2, 9⟩) (meth := k2m9) (c := k2c9) (by decide +kernel) rfl rfl rfl (by decide +kernel)
set_option maxRecDepth 65536 in
theorem w_c19 : (Jvm.Cond.code ({ cls := "com/example/frontrank/frontrank/OrderTree", name := "split", desc := "(III)V" } : Jvm.MethodName) prog_32_method_12_code (10 : Nat) (Option.none : Option Jvm.ClassFile.FieldType)).before args0 about1 = true := code_word (m := ⟨2, 10⟩) (meth := k2m10) (c := k2c10) (by decide +kernel) rfl rfl rfl (by decide +kernel)
def codes1 : List Jvm.Cond := [Jvm.Cond.code x code maxLocals ret, Jvm.Cond.code ({ cls := "com/example/frontrank/frontrank/OrderTree", name := "<init>", desc := "(I)V" } : Jvm.MethodName) prog_32_method_1_code (5 : Nat) (Option.none : Option Jvm.ClassFile.FieldType), Jvm.Cond.code ({ cls := "java/lang/Object", name := "<init>", desc := "()V" } : Jvm.MethodName) object_method_1_code (1 : Nat) (Option.none : Option Jvm.ClassFile.FieldType), Jvm.Cond.code ({ cls := "com/example/frontrank/frontrank/OrderTree", name := "build", desc := "([I)V" } : Jvm.MethodName) prog_32_method_15_code (12 : Nat) (Option.none : Option Jvm.ClassFile.FieldType), Jvm.Cond.code ({ cls := "java/lang/Math", name := "min", desc := "(II)I" } : Jvm.MethodName) jdk_29_method_69_code (2 : Nat) (Option.some Jvm.ClassFile.FieldType.int), Jvm.Cond.code ({ cls := "com/example/frontrank/frontrank/OrderTree", name := "newInner", desc := "()I" } : Jvm.MethodName) prog_32_method_16_code (2 : Nat) (Option.some Jvm.ClassFile.FieldType.int), Jvm.Cond.code ({ cls := "com/example/frontrank/frontrank/OrderTree", name := "setParent", desc := "(IIII)V" } : Jvm.MethodName) prog_32_method_18_code (7 : Nat) (Option.none : Option Jvm.ClassFile.FieldType), Jvm.Cond.code ({ cls := "com/example/frontrank/frontrank/OrderTree", name := "rotate", desc := "([I)V" } : Jvm.MethodName) prog_32_method_6_code (7 : Nat) (Option.none : Option Jvm.ClassFile.FieldType), Jvm.Cond.code ({ cls := "com/example/frontrank/frontrank/OrderTree", name := "locate", desc := "(I)I" } : Jvm.MethodName) prog_32_method_7_code (8 : Nat) (Option.some Jvm.ClassFile.FieldType.int), Jvm.Cond.code ({ cls := "com/example/frontrank/frontrank/OrderTree", name := "item", desc := "(I)I" } : Jvm.MethodName) prog_32_method_3_code (2 : Nat) (Option.some Jvm.ClassFile.FieldType.int), Jvm.Cond.code ({ cls := "com/example/frontrank/frontrank/OrderTreeRotatePinLaw", name := "after", desc := "([II)I" } : Jvm.MethodName) method_3_code (3 : Nat) (Option.some Jvm.ClassFile.FieldType.int), Jvm.Cond.code ({ cls := "com/example/frontrank/frontrank/OrderTreeRotatePinLaw", name := "before", desc := "([II)I" } : Jvm.MethodName) method_2_code (5 : Nat) (Option.some Jvm.ClassFile.FieldType.int), Jvm.Cond.code ({ cls := "com/example/frontrank/frontrank/OrderTree", name := "position", desc := "(I)I" } : Jvm.MethodName) prog_32_method_4_code (8 : Nat) (Option.some Jvm.ClassFile.FieldType.int), Jvm.Cond.code ({ cls := "com/example/frontrank/frontrank/OrderTree", name := "placeOf", desc := "(I)I" } : Jvm.MethodName) prog_32_method_8_code (3 : Nat) (Option.some Jvm.ClassFile.FieldType.int), Jvm.Cond.code ({ cls := "com/example/frontrank/frontrank/OrderTree", name := "total", desc := "(I)I" } : Jvm.MethodName) prog_32_method_17_code (5 : Nat) (Option.some Jvm.ClassFile.FieldType.int), Jvm.Cond.code ({ cls := "com/example/frontrank/frontrank/OrderTree", name := "move", desc := "(II)V" } : Jvm.MethodName) prog_32_method_5_code (3 : Nat) (Option.none : Option Jvm.ClassFile.FieldType), Jvm.Cond.code ({ cls := "com/example/frontrank/frontrank/OrderTree", name := "remove", desc := "(I)V" } : Jvm.MethodName) prog_32_method_9_code (8 : Nat) (Option.none : Option Jvm.ClassFile.FieldType), Jvm.Cond.code ({ cls := "com/example/frontrank/frontrank/OrderTree", name := "insert", desc := "(II)V" } : Jvm.MethodName) prog_32_method_10_code (9 : Nat) (Option.none : Option Jvm.ClassFile.FieldType), Jvm.Cond.code ({ cls := "com/example/frontrank/frontrank/OrderTree", name := "isFull", desc := "(II)Z" } : Jvm.MethodName) prog_32_method_11_code (3 : Nat) (Option.some Jvm.ClassFile.FieldType.boolean), Jvm.Cond.code ({ cls := "com/example/frontrank/frontrank/OrderTree", name := "split", desc := "(III)V" } : Jvm.MethodName) prog_32_method_12_code (10 : Nat) (Option.none : Option Jvm.ClassFile.FieldType)]
set_option maxRecDepth 65536 in
theorem codes_eq : words1.filter isCode = codes1 := rfl
theorem w_codes : ∀ c ∈ words1.filter isCode, c.before args0 about1 = true := by
  rw [codes_eq]
  intro c hc
  simp only [codes1, List.mem_cons, List.not_mem_nil, or_false] at hc
  rcases hc with rfl | rfl | rfl | rfl | rfl | rfl | rfl | rfl | rfl | rfl | rfl | rfl | rfl | rfl | rfl | rfl | rfl | rfl | rfl | rfl
  · exact w_c0
  · exact w_c1
  · exact w_c2
  · exact w_c3
  · exact w_c4
  · exact w_c5
  · exact w_c6
  · exact w_c7
  · exact w_c8
  · exact w_c9
  · exact w_c10
  · exact w_c11
  · exact w_c12
  · exact w_c13
  · exact w_c14
  · exact w_c15
  · exact w_c16
  · exact w_c17
  · exact w_c18
  · exact w_c19
set_option maxRecDepth 65536 in
theorem w_t1 : (words1.take 24).all (fun c => isCode c || c.before args0 about1) = true := by decide +kernel
set_option maxRecDepth 65536 in
theorem w_t2 : ((words1.drop 24).take 24).all (fun c => isCode c || c.before args0 about1) = true := by decide +kernel
set_option maxRecDepth 65536 in
theorem w_t3 : (((words1.drop 24).drop 24).take 24).all (fun c => isCode c || c.before args0 about1) = true := by decide +kernel
set_option maxRecDepth 65536 in
theorem w_t4 : ((((words1.drop 24).drop 24).drop 24).take 24).all (fun c => isCode c || c.before args0 about1) = true := by decide +kernel
set_option maxRecDepth 65536 in
theorem w_t5 : ((((words1.drop 24).drop 24).drop 24).drop 24).all (fun c => isCode c || c.before args0 about1) = true := by decide +kernel
theorem w_tables : (allAtoms (Jvm.Cond.code x code maxLocals ret :: tables_1)).before args0 about1 = true := by
  rw [allAtoms_all]
  show words1.all (fun c => c.before args0 about1) = true
  refine all_split ?_ w_codes
  rw [← List.take_append_drop 24 words1, List.all_append, w_t1, ← List.take_append_drop 24 (words1.drop 24), List.all_append, w_t2, ← List.take_append_drop 24 ((words1.drop 24).drop 24), List.all_append, w_t3, ← List.take_append_drop 24 (((words1.drop 24).drop 24).drop 24), List.all_append, w_t4, w_t5]
  rfl
set_option maxRecDepth 65536 in
theorem w_case : (Jvm.Cond.and given_1 narrow_1).before args0 about1 = true := by decide +kernel
theorem w_applies : (headSpec (Jvm.Cond.code x code maxLocals ret :: tables_1) room_1).applies x e0.platform about1 = true :=
  (Spec.applies_iff w_frames).mpr ⟨w_running, w_runnable, w_alone, w_named, w_hears, w_ripe, w_room, w_tables⟩
theorem atStart : AtStart classFile x code maxLocals ret World_1 tables_1 room_1 Calls_1 rest_1 Pre_1 launch0 p0 e0 about1 theMethod args0 below0 :=
  ⟨lists_1, trivial, launch0.admits_env _ _ _, launch0.least_env, fairChoices_fair.cas, fairChoices_fair.clock, w_frames, w_args, w_heap, w_applies, trivial, trivial, w_case⟩
end start1
theorem witness_1 : WitnessClaimed_1 := ⟨start1.p0, start1.e0, start1.about1, start1.theMethod, start1.args0, start1.below0, start1.atStart⟩
end Jvm.Pilot.@@N@@
