import JvmDerived
import JvmDerived.Pilot.@@N@@Statement
import JvmDerived.Pilot.@@N@@Code
set_option linter.unusedVariables false
set_option linter.unusedSimpArgs false
namespace Jvm.OwnKit
open Sem ClassFile Op Lib Jvm.Stand Jvm.Free Jvm.LawKit Jvm.RoadKit
/-- a boolean as an int -/
def own_b (b : Bool) : Int32 := if b then 1 else 0
/-- what stands fast in a body -/
def Ctx (p : Program) (s : State) (m : MethodId) (meth : Method) (c : Code) (Z : State) (a0 : Array Value) (tb : List Jvm.Cond) (own : String) (bytes : ByteArray) (ml : Nat) (nm : String) (ret : Option FieldType) : Prop :=
  p.tables.exec = Jvm.exec ∧ Z.Warmed39 s.vm ∧ (∀ d ∈ tb, d.before a0 Z = true) ∧ c.code = bytes ∧ c.maxLocals = ml ∧ s.vm.findClass own = some m.cls ∧ meth.name = nm ∧ meth.sig.returnType = ret ∧ meth.locks = false
/-- the run comes from S0 to pc, with these locals and this stack, over the heap h -/
def Rch (p : Program) (l : Launch) (e : Env) (R : Room) (s : State) (m : MethodId) (args : Array Value) (below : List Frame) (meth : Method) (c : Code) (S0 : State) (n0 k n : Nat) (h : Heap) (pc : Nat) (Ls : Array Slot) (st : List Value) : Prop :=
  ∃ (T : State) (locs : List Loc), Stand p l e R s m args below meth c T locs k n ∧ T.heap = h ∧ Fr n0 locs ∧ n0 ≤ s.heap.size ∧ ∀ t, Steps p.tables e below (T.setTop (mkF m pc Ls st)) t → Steps p.tables e below S0 t
section Walk
variable {p : Program} {l : Launch} {e : Env} {R : Room} {s : State} {m : MethodId} {args : Array Value} {below : List Frame} {meth : Method} {c : Code} {S0 : State} {n0 k n : Nat} {h : Heap} {Z : State} {a0 : Array Value} {tb : List Jvm.Cond} {own : String} {bytes : ByteArray} {ml : Nat} {nm : String} {ret : Option FieldType} {pc pc' : Nat} {Ls Ls' : Array Slot} {st st' : List Value}
theorem Ctx.w (C : Ctx p s m meth c Z a0 tb own bytes ml nm ret) (i : Nat) {d : Jvm.Cond} (q : tb[i]? = some d) : d.before a0 Z = true := C.2.2.1 d (List.mem_of_getElem? q)
theorem Rch.pure (X : Rch p l e R s m args below meth c S0 n0 k n h pc Ls st) (f : ∀ T, At T m c below → ∀ t, Steps p.tables e below (T.setTop (mkF m pc' Ls' st')) t → Steps p.tables e below (T.setTop (mkF m pc Ls st)) t) : Rch p l e R s m args below meth c S0 n0 k n h pc' Ls' st' := by
  obtain ⟨T, locs, Y, eT, N, z, q⟩ := X
  exact ⟨T, locs, Y, eT, N, z, fun t kk => q t (f T Y.here t kk)⟩
theorem Rch.as (X : Rch p l e R s m args below meth c S0 n0 k n h pc Ls st) (q : st = st') : Rch p l e R s m args below meth c S0 n0 k n h pc Ls st' := q ▸ X
theorem Rch.asL (X : Rch p l e R s m args below meth c S0 n0 k n h pc Ls st) (q : Ls = Ls') : Rch p l e R s m args below meth c S0 n0 k n h pc Ls' st := q ▸ X
theorem Rch.more {k' n' : Nat} (X : Rch p l e R s m args below meth c S0 n0 k n h pc Ls st) (hk : k ≤ k') (hn : n ≤ n') : Rch p l e R s m args below meth c S0 n0 k' n' h pc Ls st := by
  obtain ⟨T, locs, Y, eT, N, z, q⟩ := X
  exact ⟨T, locs, Y.more hk hn, eT, N, z, q⟩
theorem Rch.size (X : Rch p l e R s m args below meth c S0 n0 k n h pc Ls st) : n0 ≤ h.size := by
  obtain ⟨T, locs, Y, rfl, N, z, q⟩ := X
  have q2 : s.heap.size ≤ T.heap.size := Y.same.2.1
  exact Nat.le_trans z q2
theorem Rch.iload {i : Nat} {v : Int32} (X : Rch p l e R s m args below meth c S0 n0 k n h pc Ls st) (C : Ctx p s m meth c Z a0 tb own bytes ml nm ret) (hd : decode bytes pc = .ok (.iload i, 2)) (hl : Ls[i]? = some (.val (.int v))) (hp : pc + 2 = pc') : Rch p l e R s m args below meth c S0 n0 k n h pc' Ls (.int v :: st) := by
  subst hp; exact X.pure fun T A t kk => XS.iload (g := mkF m pc Ls _) A C.1 rfl (hb C.2.2.2.1 hd) hl kk
theorem Rch.iloadN {i : Fin 4} {v : Int32} (X : Rch p l e R s m args below meth c S0 n0 k n h pc Ls st) (C : Ctx p s m meth c Z a0 tb own bytes ml nm ret) (hd : decode bytes pc = .ok (.iload_n i, 1)) (hl : Ls[i.val]? = some (.val (.int v))) (hp : pc + 1 = pc') : Rch p l e R s m args below meth c S0 n0 k n h pc' Ls (.int v :: st) := by
  subst hp; exact X.pure fun T A t kk => XS.iloadN (g := mkF m pc Ls _) A C.1 rfl (hb C.2.2.2.1 hd) hl kk
theorem Rch.istore {i : Nat} {v : Int32} (X : Rch p l e R s m args below meth c S0 n0 k n h pc Ls (.int v :: st)) (C : Ctx p s m meth c Z a0 tb own bytes ml nm ret) (hd : decode bytes pc = .ok (.istore i, 2)) (hl : storeLocals Ls i (.int v) = some Ls') (hp : pc + 2 = pc') : Rch p l e R s m args below meth c S0 n0 k n h pc' Ls' st := by
  subst hp; exact X.pure fun T A t kk => XS.istore (g := mkF m pc Ls _) A C.1 rfl (hb C.2.2.2.1 hd) rfl hl kk
theorem Rch.istoreN {i : Fin 4} {v : Int32} (X : Rch p l e R s m args below meth c S0 n0 k n h pc Ls (.int v :: st)) (C : Ctx p s m meth c Z a0 tb own bytes ml nm ret) (hd : decode bytes pc = .ok (.istore_n i, 1)) (hl : storeLocals Ls i.val (.int v) = some Ls') (hp : pc + 1 = pc') : Rch p l e R s m args below meth c S0 n0 k n h pc' Ls' st := by
  subst hp; exact X.pure fun T A t kk => XS.istoreN (g := mkF m pc Ls _) A C.1 rfl (hb C.2.2.2.1 hd) rfl hl kk
theorem Rch.lload {i : Nat} {v : Int64} (X : Rch p l e R s m args below meth c S0 n0 k n h pc Ls st) (C : Ctx p s m meth c Z a0 tb own bytes ml nm ret) (hd : decode bytes pc = .ok (.lload i, 2)) (hl : Ls[i]? = some (.val (.long v))) (hp : pc + 2 = pc') : Rch p l e R s m args below meth c S0 n0 k n h pc' Ls (.long v :: st) := by
  subst hp; exact X.pure fun T A t kk => XS.lload (g := mkF m pc Ls _) A C.1 rfl (hb C.2.2.2.1 hd) hl kk
theorem Rch.lloadN {i : Fin 4} {v : Int64} (X : Rch p l e R s m args below meth c S0 n0 k n h pc Ls st) (C : Ctx p s m meth c Z a0 tb own bytes ml nm ret) (hd : decode bytes pc = .ok (.lload_n i, 1)) (hl : Ls[i.val]? = some (.val (.long v))) (hp : pc + 1 = pc') : Rch p l e R s m args below meth c S0 n0 k n h pc' Ls (.long v :: st) := by
  subst hp; exact X.pure fun T A t kk => XS.lloadN (g := mkF m pc Ls _) A C.1 rfl (hb C.2.2.2.1 hd) hl kk
theorem Rch.lstore {i : Nat} {v : Int64} (X : Rch p l e R s m args below meth c S0 n0 k n h pc Ls (.long v :: st)) (C : Ctx p s m meth c Z a0 tb own bytes ml nm ret) (hd : decode bytes pc = .ok (.lstore i, 2)) (hl : storeLocals Ls i (.long v) = some Ls') (hp : pc + 2 = pc') : Rch p l e R s m args below meth c S0 n0 k n h pc' Ls' st := by
  subst hp; exact X.pure fun T A t kk => XS.lstore (g := mkF m pc Ls _) A C.1 rfl (hb C.2.2.2.1 hd) rfl hl kk
theorem Rch.lstoreN {i : Fin 4} {v : Int64} (X : Rch p l e R s m args below meth c S0 n0 k n h pc Ls (.long v :: st)) (C : Ctx p s m meth c Z a0 tb own bytes ml nm ret) (hd : decode bytes pc = .ok (.lstore_n i, 1)) (hl : storeLocals Ls i.val (.long v) = some Ls') (hp : pc + 1 = pc') : Rch p l e R s m args below meth c S0 n0 k n h pc' Ls' st := by
  subst hp; exact X.pure fun T A t kk => XS.lstoreN (g := mkF m pc Ls _) A C.1 rfl (hb C.2.2.2.1 hd) rfl hl kk
theorem Rch.aload {i : Nat} {v : Value} (X : Rch p l e R s m args below meth c S0 n0 k n h pc Ls st) (C : Ctx p s m meth c Z a0 tb own bytes ml nm ret) (hd : decode bytes pc = .ok (.aload i, 2)) (hl : Ls[i]? = some (.val v)) (hv : v.isRef = true) (hp : pc + 2 = pc') : Rch p l e R s m args below meth c S0 n0 k n h pc' Ls (v :: st) := by
  subst hp; exact X.pure fun T A t kk => XS.aload (g := mkF m pc Ls _) A C.1 rfl (hb C.2.2.2.1 hd) hl hv kk
theorem Rch.aloadN {i : Fin 4} {v : Value} (X : Rch p l e R s m args below meth c S0 n0 k n h pc Ls st) (C : Ctx p s m meth c Z a0 tb own bytes ml nm ret) (hd : decode bytes pc = .ok (.aload_n i, 1)) (hl : Ls[i.val]? = some (.val v)) (hv : v.isRef = true) (hp : pc + 1 = pc') : Rch p l e R s m args below meth c S0 n0 k n h pc' Ls (v :: st) := by
  subst hp; exact X.pure fun T A t kk => XS.aloadN (g := mkF m pc Ls _) A C.1 rfl (hb C.2.2.2.1 hd) hl hv kk
theorem Rch.astore {i : Nat} {v : Value} (X : Rch p l e R s m args below meth c S0 n0 k n h pc Ls (v :: st)) (C : Ctx p s m meth c Z a0 tb own bytes ml nm ret) (hd : decode bytes pc = .ok (.astore i, 2)) (hv : v.isRef = true) (hl : storeLocals Ls i v = some Ls') (hp : pc + 2 = pc') : Rch p l e R s m args below meth c S0 n0 k n h pc' Ls' st := by
  subst hp; exact X.pure fun T A t kk => XS.astore (g := mkF m pc Ls _) A C.1 rfl (hb C.2.2.2.1 hd) rfl hv hl kk
theorem Rch.astoreN {i : Fin 4} {v : Value} (X : Rch p l e R s m args below meth c S0 n0 k n h pc Ls (v :: st)) (C : Ctx p s m meth c Z a0 tb own bytes ml nm ret) (hd : decode bytes pc = .ok (.astore_n i, 1)) (hv : v.isRef = true) (hl : storeLocals Ls i.val v = some Ls') (hp : pc + 1 = pc') : Rch p l e R s m args below meth c S0 n0 k n h pc' Ls' st := by
  subst hp; exact X.pure fun T A t kk => XS.astoreN (g := mkF m pc Ls _) A C.1 rfl (hb C.2.2.2.1 hd) rfl hv hl kk
theorem Rch.iconst {i : Int} {v : Int32} (X : Rch p l e R s m args below meth c S0 n0 k n h pc Ls st) (C : Ctx p s m meth c Z a0 tb own bytes ml nm ret) (hd : decode bytes pc = .ok (.iconst i, 1)) (hv : Int32.ofInt i = v) (hp : pc + 1 = pc') : Rch p l e R s m args below meth c S0 n0 k n h pc' Ls (.int v :: st) := by
  subst hp; exact X.pure fun T A t kk => by subst hv; exact XS.iconst (g := mkF m pc Ls _) A C.1 rfl (hb C.2.2.2.1 hd)  kk
theorem Rch.bipush {i : Int} {v : Int32} (X : Rch p l e R s m args below meth c S0 n0 k n h pc Ls st) (C : Ctx p s m meth c Z a0 tb own bytes ml nm ret) (hd : decode bytes pc = .ok (.bipush i, 2)) (hv : (Int8.ofInt i).toInt32 = v) (hp : pc + 2 = pc') : Rch p l e R s m args below meth c S0 n0 k n h pc' Ls (.int v :: st) := by
  subst hp; exact X.pure fun T A t kk => by subst hv; exact XS.bipush (g := mkF m pc Ls _) A C.1 rfl (hb C.2.2.2.1 hd)  kk
theorem Rch.sipush {i : Int} {v : Int32} (X : Rch p l e R s m args below meth c S0 n0 k n h pc Ls st) (C : Ctx p s m meth c Z a0 tb own bytes ml nm ret) (hd : decode bytes pc = .ok (.sipush i, 3)) (hv : (Int16.ofInt i).toInt32 = v) (hp : pc + 3 = pc') : Rch p l e R s m args below meth c S0 n0 k n h pc' Ls (.int v :: st) := by
  subst hp; exact X.pure fun T A t kk => by subst hv; exact XS.sipush (g := mkF m pc Ls _) A C.1 rfl (hb C.2.2.2.1 hd)  kk
theorem Rch.lconst {i : Fin 2} {v : Int64} (X : Rch p l e R s m args below meth c S0 n0 k n h pc Ls st) (C : Ctx p s m meth c Z a0 tb own bytes ml nm ret) (hd : decode bytes pc = .ok (.lconst i, 1)) (hv : Int64.ofNat i = v) (hp : pc + 1 = pc') : Rch p l e R s m args below meth c S0 n0 k n h pc' Ls (.long v :: st) := by
  subst hp; exact X.pure fun T A t kk => by subst hv; exact XS.lconst (g := mkF m pc Ls _) A C.1 rfl (hb C.2.2.2.1 hd)  kk
theorem Rch.aconstNull (X : Rch p l e R s m args below meth c S0 n0 k n h pc Ls st) (C : Ctx p s m meth c Z a0 tb own bytes ml nm ret) (hd : decode bytes pc = .ok (.aconst_null, 1)) (hp : pc + 1 = pc') : Rch p l e R s m args below meth c S0 n0 k n h pc' Ls (.null :: st) := by
  subst hp; exact X.pure fun T A t kk => XS.aconstNull (g := mkF m pc Ls _) A C.1 rfl (hb C.2.2.2.1 hd)  kk
theorem Rch.iadd {x y : Int32} (X : Rch p l e R s m args below meth c S0 n0 k n h pc Ls (.int y :: .int x :: st)) (C : Ctx p s m meth c Z a0 tb own bytes ml nm ret) (hd : decode bytes pc = .ok (.iadd, 1)) (hp : pc + 1 = pc') : Rch p l e R s m args below meth c S0 n0 k n h pc' Ls (.int (x + y) :: st) := by
  subst hp; exact X.pure fun T A t kk => XS.iadd (g := mkF m pc Ls _) A C.1 rfl (hb C.2.2.2.1 hd) rfl kk
theorem Rch.ladd {x y : Int64} (X : Rch p l e R s m args below meth c S0 n0 k n h pc Ls (.long y :: .long x :: st)) (C : Ctx p s m meth c Z a0 tb own bytes ml nm ret) (hd : decode bytes pc = .ok (.ladd, 1)) (hp : pc + 1 = pc') : Rch p l e R s m args below meth c S0 n0 k n h pc' Ls (.long (x + y) :: st) := by
  subst hp; exact X.pure fun T A t kk => XS.ladd (g := mkF m pc Ls _) A C.1 rfl (hb C.2.2.2.1 hd) rfl kk
theorem Rch.isub {x y : Int32} (X : Rch p l e R s m args below meth c S0 n0 k n h pc Ls (.int y :: .int x :: st)) (C : Ctx p s m meth c Z a0 tb own bytes ml nm ret) (hd : decode bytes pc = .ok (.isub, 1)) (hp : pc + 1 = pc') : Rch p l e R s m args below meth c S0 n0 k n h pc' Ls (.int (x - y) :: st) := by
  subst hp; exact X.pure fun T A t kk => XS.isub (g := mkF m pc Ls _) A C.1 rfl (hb C.2.2.2.1 hd) rfl kk
theorem Rch.lsub {x y : Int64} (X : Rch p l e R s m args below meth c S0 n0 k n h pc Ls (.long y :: .long x :: st)) (C : Ctx p s m meth c Z a0 tb own bytes ml nm ret) (hd : decode bytes pc = .ok (.lsub, 1)) (hp : pc + 1 = pc') : Rch p l e R s m args below meth c S0 n0 k n h pc' Ls (.long (x - y) :: st) := by
  subst hp; exact X.pure fun T A t kk => XS.lsub (g := mkF m pc Ls _) A C.1 rfl (hb C.2.2.2.1 hd) rfl kk
theorem Rch.imul {x y : Int32} (X : Rch p l e R s m args below meth c S0 n0 k n h pc Ls (.int y :: .int x :: st)) (C : Ctx p s m meth c Z a0 tb own bytes ml nm ret) (hd : decode bytes pc = .ok (.imul, 1)) (hp : pc + 1 = pc') : Rch p l e R s m args below meth c S0 n0 k n h pc' Ls (.int (x * y) :: st) := by
  subst hp; exact X.pure fun T A t kk => XS.imul (g := mkF m pc Ls _) A C.1 rfl (hb C.2.2.2.1 hd) rfl kk
theorem Rch.lmul {x y : Int64} (X : Rch p l e R s m args below meth c S0 n0 k n h pc Ls (.long y :: .long x :: st)) (C : Ctx p s m meth c Z a0 tb own bytes ml nm ret) (hd : decode bytes pc = .ok (.lmul, 1)) (hp : pc + 1 = pc') : Rch p l e R s m args below meth c S0 n0 k n h pc' Ls (.long (x * y) :: st) := by
  subst hp; exact X.pure fun T A t kk => XS.lmul (g := mkF m pc Ls _) A C.1 rfl (hb C.2.2.2.1 hd) rfl kk
theorem Rch.iand {x y : Int32} (X : Rch p l e R s m args below meth c S0 n0 k n h pc Ls (.int y :: .int x :: st)) (C : Ctx p s m meth c Z a0 tb own bytes ml nm ret) (hd : decode bytes pc = .ok (.iand, 1)) (hp : pc + 1 = pc') : Rch p l e R s m args below meth c S0 n0 k n h pc' Ls (.int (x &&& y) :: st) := by
  subst hp; exact X.pure fun T A t kk => XS.iand (g := mkF m pc Ls _) A C.1 rfl (hb C.2.2.2.1 hd) rfl kk
theorem Rch.land {x y : Int64} (X : Rch p l e R s m args below meth c S0 n0 k n h pc Ls (.long y :: .long x :: st)) (C : Ctx p s m meth c Z a0 tb own bytes ml nm ret) (hd : decode bytes pc = .ok (.land, 1)) (hp : pc + 1 = pc') : Rch p l e R s m args below meth c S0 n0 k n h pc' Ls (.long (x &&& y) :: st) := by
  subst hp; exact X.pure fun T A t kk => XS.land (g := mkF m pc Ls _) A C.1 rfl (hb C.2.2.2.1 hd) rfl kk
theorem Rch.ior {x y : Int32} (X : Rch p l e R s m args below meth c S0 n0 k n h pc Ls (.int y :: .int x :: st)) (C : Ctx p s m meth c Z a0 tb own bytes ml nm ret) (hd : decode bytes pc = .ok (.ior, 1)) (hp : pc + 1 = pc') : Rch p l e R s m args below meth c S0 n0 k n h pc' Ls (.int (x ||| y) :: st) := by
  subst hp; exact X.pure fun T A t kk => XS.ior (g := mkF m pc Ls _) A C.1 rfl (hb C.2.2.2.1 hd) rfl kk
theorem Rch.lor {x y : Int64} (X : Rch p l e R s m args below meth c S0 n0 k n h pc Ls (.long y :: .long x :: st)) (C : Ctx p s m meth c Z a0 tb own bytes ml nm ret) (hd : decode bytes pc = .ok (.lor, 1)) (hp : pc + 1 = pc') : Rch p l e R s m args below meth c S0 n0 k n h pc' Ls (.long (x ||| y) :: st) := by
  subst hp; exact X.pure fun T A t kk => XS.lor (g := mkF m pc Ls _) A C.1 rfl (hb C.2.2.2.1 hd) rfl kk
theorem Rch.ixor {x y : Int32} (X : Rch p l e R s m args below meth c S0 n0 k n h pc Ls (.int y :: .int x :: st)) (C : Ctx p s m meth c Z a0 tb own bytes ml nm ret) (hd : decode bytes pc = .ok (.ixor, 1)) (hp : pc + 1 = pc') : Rch p l e R s m args below meth c S0 n0 k n h pc' Ls (.int (x ^^^ y) :: st) := by
  subst hp; exact X.pure fun T A t kk => XS.ixor (g := mkF m pc Ls _) A C.1 rfl (hb C.2.2.2.1 hd) rfl kk
theorem Rch.lxor {x y : Int64} (X : Rch p l e R s m args below meth c S0 n0 k n h pc Ls (.long y :: .long x :: st)) (C : Ctx p s m meth c Z a0 tb own bytes ml nm ret) (hd : decode bytes pc = .ok (.lxor, 1)) (hp : pc + 1 = pc') : Rch p l e R s m args below meth c S0 n0 k n h pc' Ls (.long (x ^^^ y) :: st) := by
  subst hp; exact X.pure fun T A t kk => XS.lxor (g := mkF m pc Ls _) A C.1 rfl (hb C.2.2.2.1 hd) rfl kk
theorem Rch.ishl {x y : Int32} (X : Rch p l e R s m args below meth c S0 n0 k n h pc Ls (.int y :: .int x :: st)) (C : Ctx p s m meth c Z a0 tb own bytes ml nm ret) (hd : decode bytes pc = .ok (.ishl, 1)) (hp : pc + 1 = pc') : Rch p l e R s m args below meth c S0 n0 k n h pc' Ls (.int (x <<< (y &&& 31)) :: st) := by
  subst hp; exact X.pure fun T A t kk => XS.ishl (g := mkF m pc Ls _) A C.1 rfl (hb C.2.2.2.1 hd) rfl kk
theorem Rch.ishr {x y : Int32} (X : Rch p l e R s m args below meth c S0 n0 k n h pc Ls (.int y :: .int x :: st)) (C : Ctx p s m meth c Z a0 tb own bytes ml nm ret) (hd : decode bytes pc = .ok (.ishr, 1)) (hp : pc + 1 = pc') : Rch p l e R s m args below meth c S0 n0 k n h pc' Ls (.int (x >>> (y &&& 31)) :: st) := by
  subst hp; exact X.pure fun T A t kk => XS.ishr (g := mkF m pc Ls _) A C.1 rfl (hb C.2.2.2.1 hd) rfl kk
theorem Rch.iushr {x y : Int32} (X : Rch p l e R s m args below meth c S0 n0 k n h pc Ls (.int y :: .int x :: st)) (C : Ctx p s m meth c Z a0 tb own bytes ml nm ret) (hd : decode bytes pc = .ok (.iushr, 1)) (hp : pc + 1 = pc') : Rch p l e R s m args below meth c S0 n0 k n h pc' Ls (.int ((x.toUInt32 >>> (y &&& 31).toUInt32).toInt32) :: st) := by
  subst hp; exact X.pure fun T A t kk => XS.iushr (g := mkF m pc Ls _) A C.1 rfl (hb C.2.2.2.1 hd) rfl kk
theorem Rch.lshl {x : Int64} {y : Int32} (X : Rch p l e R s m args below meth c S0 n0 k n h pc Ls (.int y :: .long x :: st)) (C : Ctx p s m meth c Z a0 tb own bytes ml nm ret) (hd : decode bytes pc = .ok (.lshl, 1)) (hp : pc + 1 = pc') : Rch p l e R s m args below meth c S0 n0 k n h pc' Ls (.long (x <<< (y &&& 0x3f).toInt64) :: st) := by
  subst hp; exact X.pure fun T A t kk => XS.lshl (g := mkF m pc Ls _) A C.1 rfl (hb C.2.2.2.1 hd) rfl kk
theorem Rch.lshr {x : Int64} {y : Int32} (X : Rch p l e R s m args below meth c S0 n0 k n h pc Ls (.int y :: .long x :: st)) (C : Ctx p s m meth c Z a0 tb own bytes ml nm ret) (hd : decode bytes pc = .ok (.lshr, 1)) (hp : pc + 1 = pc') : Rch p l e R s m args below meth c S0 n0 k n h pc' Ls (.long (x >>> (y &&& 0x3f).toInt64) :: st) := by
  subst hp; exact X.pure fun T A t kk => XS.lshr (g := mkF m pc Ls _) A C.1 rfl (hb C.2.2.2.1 hd) rfl kk
theorem Rch.lushr {x : Int64} {y : Int32} (X : Rch p l e R s m args below meth c S0 n0 k n h pc Ls (.int y :: .long x :: st)) (C : Ctx p s m meth c Z a0 tb own bytes ml nm ret) (hd : decode bytes pc = .ok (.lushr, 1)) (hp : pc + 1 = pc') : Rch p l e R s m args below meth c S0 n0 k n h pc' Ls (.long ((x.toUInt64 >>> (y &&& 0x3f).toInt64.toUInt64).toInt64) :: st) := by
  subst hp; exact X.pure fun T A t kk => XS.lushr (g := mkF m pc Ls _) A C.1 rfl (hb C.2.2.2.1 hd) rfl kk
theorem Rch.idiv {x y : Int32} (X : Rch p l e R s m args below meth c S0 n0 k n h pc Ls (.int y :: .int x :: st)) (C : Ctx p s m meth c Z a0 tb own bytes ml nm ret) (hd : decode bytes pc = .ok (.idiv, 1)) (hy : y ≠ 0) (hp : pc + 1 = pc') : Rch p l e R s m args below meth c S0 n0 k n h pc' Ls (.int (x / y) :: st) := by
  subst hp; exact X.pure fun T A t kk => XS.idiv (g := mkF m pc Ls _) A C.1 rfl (hb C.2.2.2.1 hd) rfl hy kk
theorem Rch.ldiv {x y : Int64} (X : Rch p l e R s m args below meth c S0 n0 k n h pc Ls (.long y :: .long x :: st)) (C : Ctx p s m meth c Z a0 tb own bytes ml nm ret) (hd : decode bytes pc = .ok (.ldiv, 1)) (hy : y ≠ 0) (hp : pc + 1 = pc') : Rch p l e R s m args below meth c S0 n0 k n h pc' Ls (.long (x / y) :: st) := by
  subst hp; exact X.pure fun T A t kk => XS.ldiv (g := mkF m pc Ls _) A C.1 rfl (hb C.2.2.2.1 hd) rfl hy kk
theorem Rch.irem {x y : Int32} (X : Rch p l e R s m args below meth c S0 n0 k n h pc Ls (.int y :: .int x :: st)) (C : Ctx p s m meth c Z a0 tb own bytes ml nm ret) (hd : decode bytes pc = .ok (.irem, 1)) (hy : y ≠ 0) (hp : pc + 1 = pc') : Rch p l e R s m args below meth c S0 n0 k n h pc' Ls (.int (x % y) :: st) := by
  subst hp; exact X.pure fun T A t kk => by rw [← irem_eq_mod x y] at kk; exact XS.irem (g := mkF m pc Ls _) A C.1 rfl (hb C.2.2.2.1 hd) rfl hy kk
theorem Rch.lrem {x y : Int64} (X : Rch p l e R s m args below meth c S0 n0 k n h pc Ls (.long y :: .long x :: st)) (C : Ctx p s m meth c Z a0 tb own bytes ml nm ret) (hd : decode bytes pc = .ok (.lrem, 1)) (hy : y ≠ 0) (hp : pc + 1 = pc') : Rch p l e R s m args below meth c S0 n0 k n h pc' Ls (.long (x % y) :: st) := by
  subst hp; exact X.pure fun T A t kk => by rw [← lrem_mod x y] at kk; exact XS.lrem (g := mkF m pc Ls _) A C.1 rfl (hb C.2.2.2.1 hd) rfl hy kk
theorem Rch.ineg {x : Int32} (X : Rch p l e R s m args below meth c S0 n0 k n h pc Ls (.int x :: st)) (C : Ctx p s m meth c Z a0 tb own bytes ml nm ret) (hd : decode bytes pc = .ok (.ineg, 1)) (hp : pc + 1 = pc') : Rch p l e R s m args below meth c S0 n0 k n h pc' Ls (.int (-x) :: st) := by
  subst hp; exact X.pure fun T A t kk => XS.ineg (g := mkF m pc Ls _) A C.1 rfl (hb C.2.2.2.1 hd) rfl kk
theorem Rch.lneg {x : Int64} (X : Rch p l e R s m args below meth c S0 n0 k n h pc Ls (.long x :: st)) (C : Ctx p s m meth c Z a0 tb own bytes ml nm ret) (hd : decode bytes pc = .ok (.lneg, 1)) (hp : pc + 1 = pc') : Rch p l e R s m args below meth c S0 n0 k n h pc' Ls (.long (-x) :: st) := by
  subst hp; exact X.pure fun T A t kk => XS.lneg (g := mkF m pc Ls _) A C.1 rfl (hb C.2.2.2.1 hd) rfl kk
theorem Rch.i2l {x : Int32} (X : Rch p l e R s m args below meth c S0 n0 k n h pc Ls (.int x :: st)) (C : Ctx p s m meth c Z a0 tb own bytes ml nm ret) (hd : decode bytes pc = .ok (.i2l, 1)) (hp : pc + 1 = pc') : Rch p l e R s m args below meth c S0 n0 k n h pc' Ls (.long x.toInt64 :: st) := by
  subst hp; exact X.pure fun T A t kk => XS.i2l (g := mkF m pc Ls _) A C.1 rfl (hb C.2.2.2.1 hd) rfl kk
theorem Rch.l2i {x : Int64} (X : Rch p l e R s m args below meth c S0 n0 k n h pc Ls (.long x :: st)) (C : Ctx p s m meth c Z a0 tb own bytes ml nm ret) (hd : decode bytes pc = .ok (.l2i, 1)) (hp : pc + 1 = pc') : Rch p l e R s m args below meth c S0 n0 k n h pc' Ls (.int x.toInt32 :: st) := by
  subst hp; exact X.pure fun T A t kk => XS.l2i (g := mkF m pc Ls _) A C.1 rfl (hb C.2.2.2.1 hd) rfl kk
theorem Rch.lcmp {x y : Int64} (X : Rch p l e R s m args below meth c S0 n0 k n h pc Ls (.long y :: .long x :: st)) (C : Ctx p s m meth c Z a0 tb own bytes ml nm ret) (hd : decode bytes pc = .ok (.lcmp, 1)) (hp : pc + 1 = pc') : Rch p l e R s m args below meth c S0 n0 k n h pc' Ls (.int (lcmpW x y) :: st) := by
  subst hp; exact X.pure fun T A t kk => XS.lcmp (g := mkF m pc Ls _) A C.1 rfl (hb C.2.2.2.1 hd) rfl kk
theorem Rch.iinc {i : Nat} {d : Int} {x v : Int32} (X : Rch p l e R s m args below meth c S0 n0 k n h pc Ls st) (C : Ctx p s m meth c Z a0 tb own bytes ml nm ret) (hd : decode bytes pc = .ok (.iinc i d, 3)) (hl : Ls[i]? = some (.val (.int x))) (hv : x + Int32.ofInt d = v) (hl' : storeLocals Ls i (.int v) = some Ls') (hp : pc + 3 = pc') : Rch p l e R s m args below meth c S0 n0 k n h pc' Ls' st := by
  subst hp; exact X.pure fun T A t kk => by subst hv; exact XS.iinc (g := mkF m pc Ls _) A C.1 rfl (hb C.2.2.2.1 hd) hl hl' kk
theorem Rch.dup {v : Value} (X : Rch p l e R s m args below meth c S0 n0 k n h pc Ls (v :: st)) (C : Ctx p s m meth c Z a0 tb own bytes ml nm ret) (hd : decode bytes pc = .ok (.dup, 1)) (hv : v.category = 1) (hp : pc + 1 = pc') : Rch p l e R s m args below meth c S0 n0 k n h pc' Ls (v :: v :: st) := by
  subst hp; exact X.pure fun T A t kk => XS.dup (g := mkF m pc Ls _) A C.1 rfl (hb C.2.2.2.1 hd) rfl hv kk
theorem Rch.pop {v : Value} (X : Rch p l e R s m args below meth c S0 n0 k n h pc Ls (v :: st)) (C : Ctx p s m meth c Z a0 tb own bytes ml nm ret) (hd : decode bytes pc = .ok (.pop, 1)) (hv : v.category = 1) (hp : pc + 1 = pc') : Rch p l e R s m args below meth c S0 n0 k n h pc' Ls st := by
  subst hp; exact X.pure fun T A t kk => XS.pop (g := mkF m pc Ls _) A C.1 rfl (hb C.2.2.2.1 hd) rfl hv kk
theorem Rch.dupX1 {v u : Value} (X : Rch p l e R s m args below meth c S0 n0 k n h pc Ls (v :: u :: st)) (C : Ctx p s m meth c Z a0 tb own bytes ml nm ret) (hd : decode bytes pc = .ok (.dup_x1, 1)) (hv : v.category = 1) (hu : u.category = 1) (hp : pc + 1 = pc') : Rch p l e R s m args below meth c S0 n0 k n h pc' Ls (v :: u :: v :: st) := by
  subst hp; exact X.pure fun T A t kk => XS.dupX1 (g := mkF m pc Ls _) A C.1 rfl (hb C.2.2.2.1 hd) rfl hv hu kk
theorem Rch.dup2 {v u : Value} (X : Rch p l e R s m args below meth c S0 n0 k n h pc Ls (v :: u :: st)) (C : Ctx p s m meth c Z a0 tb own bytes ml nm ret) (hd : decode bytes pc = .ok (.dup2, 1)) (hv : v.category = 1) (hu : u.category = 1) (hp : pc + 1 = pc') : Rch p l e R s m args below meth c S0 n0 k n h pc' Ls (v :: u :: v :: u :: st) := by
  subst hp; exact X.pure fun T A t kk => XT.dup2 (g := mkF m pc Ls _) A C.1 rfl (hb C.2.2.2.1 hd) rfl hv hu kk
theorem toNat_of {pc pc' : Nat} {o : Int} (hq : (pc : Int) + o = (pc' : Int)) : 0 ≤ (pc : Int) + o ∧ ((pc : Int) + o).toNat = pc' := by rw [hq]; exact ⟨Int.natCast_nonneg _, Int.toNat_natCast _⟩
theorem Rch.goto (X : Rch p l e R s m args below meth c S0 n0 k n h pc Ls st) (C : Ctx p s m meth c Z a0 tb own bytes ml nm ret) {o : Int} (hd : decode bytes pc = .ok (.goto o, 3)) (hq : (pc : Int) + o = (pc' : Int)) : Rch p l e R s m args below meth c S0 n0 k n h pc' Ls st :=
  X.pure fun T A t kk => XS.goto (g := mkF m pc Ls _) A C.1 rfl rfl (hb C.2.2.2.1 hd) (toNat_of hq).1 (toNat_of hq).2 kk
theorem Rch.ifY {cd : ClassFile.Cond} {x : Int32} (X : Rch p l e R s m args below meth c S0 n0 k n h pc Ls (.int x :: st)) (C : Ctx p s m meth c Z a0 tb own bytes ml nm ret) {o : Int} (hd : decode bytes pc = .ok (.ifCond cd o, 3)) (hc : ifCond.holds cd x = true) (hq : (pc : Int) + o = (pc' : Int)) : Rch p l e R s m args below meth c S0 n0 k n h pc' Ls st :=
  X.pure fun T A t kk => XS.ifYes (g := mkF m pc Ls _) A C.1 rfl rfl (hb C.2.2.2.1 hd) rfl hc (toNat_of hq).1 (toNat_of hq).2 kk
theorem Rch.ifN {cd : ClassFile.Cond} {x : Int32} (X : Rch p l e R s m args below meth c S0 n0 k n h pc Ls (.int x :: st)) (C : Ctx p s m meth c Z a0 tb own bytes ml nm ret) {o : Int} (hd : decode bytes pc = .ok (.ifCond cd o, 3)) (hc : ifCond.holds cd x = false) (hp : pc + 3 = pc') : Rch p l e R s m args below meth c S0 n0 k n h pc' Ls st := by
  subst hp; exact X.pure fun T A t kk => XS.ifNo (g := mkF m pc Ls _) A C.1 rfl (hb C.2.2.2.1 hd) rfl hc kk
theorem Rch.icmpY {cd : ClassFile.Cond} {x y : Int32} (X : Rch p l e R s m args below meth c S0 n0 k n h pc Ls (.int y :: .int x :: st)) (C : Ctx p s m meth c Z a0 tb own bytes ml nm ret) {o : Int} (hd : decode bytes pc = .ok (.if_icmp cd o, 3)) (hc : if_icmp.holds cd x y = true) (hq : (pc : Int) + o = (pc' : Int)) : Rch p l e R s m args below meth c S0 n0 k n h pc' Ls st :=
  X.pure fun T A t kk => XS.icmpYes (g := mkF m pc Ls _) A C.1 rfl rfl (hb C.2.2.2.1 hd) rfl hc (toNat_of hq).1 (toNat_of hq).2 kk
theorem Rch.icmpN {cd : ClassFile.Cond} {x y : Int32} (X : Rch p l e R s m args below meth c S0 n0 k n h pc Ls (.int y :: .int x :: st)) (C : Ctx p s m meth c Z a0 tb own bytes ml nm ret) {o : Int} (hd : decode bytes pc = .ok (.if_icmp cd o, 3)) (hc : if_icmp.holds cd x y = false) (hp : pc + 3 = pc') : Rch p l e R s m args below meth c S0 n0 k n h pc' Ls st := by
  subst hp; exact X.pure fun T A t kk => XS.icmpNo (g := mkF m pc Ls _) A C.1 rfl (hb C.2.2.2.1 hd) rfl hc kk
theorem Rch.acmpY {cd : ClassFile.ACond} {x y : Addr} (X : Rch p l e R s m args below meth c S0 n0 k n h pc Ls (.ref y :: .ref x :: st)) (C : Ctx p s m meth c Z a0 tb own bytes ml nm ret) {o : Int} (hd : decode bytes pc = .ok (.if_acmp cd o, 3)) (hc : if_acmp.holds cd (some x) (some y) = true) (hq : (pc : Int) + o = (pc' : Int)) : Rch p l e R s m args below meth c S0 n0 k n h pc' Ls st :=
  X.pure fun T A t kk => XS.acmpYes (g := mkF m pc Ls _) A C.1 rfl rfl (hb C.2.2.2.1 hd) rfl hc (toNat_of hq).1 (toNat_of hq).2 kk
/-- 'if.. else 1 : 0' -/
theorem Rch.dia {cd : ClassFile.Cond} {x : Int32} {b : Bool} (X : Rch p l e R s m args below meth c S0 n0 k n h pc Ls (.int x :: st)) (C : Ctx p s m meth c Z a0 tb own bytes ml nm ret) (hd : decode bytes pc = .ok (.ifCond cd 7, 3)) (hd1 : decode bytes (pc + 3) = .ok (.iconst 1, 1)) (hd2 : decode bytes (pc + 4) = .ok (.goto 4, 3)) (hd3 : decode bytes (pc + 7) = .ok (.iconst 0, 1)) (hc : ifCond.holds cd x = !b) (hp : pc + 8 = pc') : Rch p l e R s m args below meth c S0 n0 k n h pc' Ls (.int (own_b b) :: st) := by
  subst hp
  cases b with
  | false => exact ((X.ifY C hd hc (pc' := pc + 7) (by omega)).iconst C hd3 (v := 0) rfl rfl)
  | true => exact (((X.ifN C hd hc rfl).iconst C hd1 (v := 1) rfl rfl).goto C hd2 (by omega))
theorem Rch.diac {cd : ClassFile.Cond} {x y : Int32} {b : Bool} (X : Rch p l e R s m args below meth c S0 n0 k n h pc Ls (.int y :: .int x :: st)) (C : Ctx p s m meth c Z a0 tb own bytes ml nm ret) (hd : decode bytes pc = .ok (.if_icmp cd 7, 3)) (hd1 : decode bytes (pc + 3) = .ok (.iconst 1, 1)) (hd2 : decode bytes (pc + 4) = .ok (.goto 4, 3)) (hd3 : decode bytes (pc + 7) = .ok (.iconst 0, 1)) (hc : if_icmp.holds cd x y = !b) (hp : pc + 8 = pc') : Rch p l e R s m args below meth c S0 n0 k n h pc' Ls (.int (own_b b) :: st) := by
  subst hp
  cases b with
  | false => exact ((X.icmpY C hd hc (pc' := pc + 7) (by omega)).iconst C hd3 (v := 0) rfl rfl)
  | true => exact (((X.icmpN C hd hc rfl).iconst C hd1 (v := 1) rfl rfl).goto C hd2 (by omega))
theorem Rch.ldcI (X : Rch p l e R s m args below meth c S0 n0 k n h pc Ls st) (C : Ctx p s m meth c Z a0 tb own bytes ml nm ret) {i : Nat} {v : Int32} (wc : (Jvm.Cond.constant own i v).before a0 Z = true) (hd : decode bytes pc = .ok (.ldc i, 2)) (hp : pc + 2 = pc') : Rch p l e R s m args below meth c S0 n0 k n h pc' Ls (.int v :: st) := by
  subst hp
  obtain ⟨T, locs, Y, eT, N, z, q⟩ := X
  exact ⟨T, locs, Y, eT, N, z, fun t kk => q t (Y.ldcInt C.1 C.2.2.2.2.2.1 (mvT C.2.1 wc) (g := mkF m pc Ls st) rfl (hb C.2.2.2.1 hd) t kk)⟩
theorem Rch.ldcJ (X : Rch p l e R s m args below meth c S0 n0 k n h pc Ls st) (C : Ctx p s m meth c Z a0 tb own bytes ml nm ret) {i : Nat} {v : Int64} (wc : (Jvm.Cond.constantLong own i v).before a0 Z = true) (hd : decode bytes pc = .ok (.ldc2_w i, 3)) (hp : pc + 3 = pc') : Rch p l e R s m args below meth c S0 n0 k n h pc' Ls (.long v :: st) := by
  subst hp
  obtain ⟨T, locs, Y, eT, N, z, q⟩ := X
  exact ⟨T, locs, Y, eT, N, z, fun t kk => q t (Y.ldc2Long C.1 C.2.2.2.2.2.1 (mvT C.2.1 wc) (g := mkF m pc Ls st) rfl (hb C.2.2.2.1 hd) t kk)⟩
theorem Rch.getF {O f d : String} {i : Nat} {a : Addr} {v : Value} (X : Rch p l e R s m args below meth c S0 n0 k n h pc Ls (.ref a :: st)) (C : Ctx p s m meth c Z a0 tb own bytes ml nm ret) (wl : (Jvm.Cond.fieldLink own i O f d).before a0 Z = true) (F : Fld Z h a O f d v) (hd : decode bytes pc = .ok (.getfield i, 3)) (hp : pc + 3 = pc') : Rch p l e R s m args below meth c S0 n0 k n h pc' Ls (v :: st) := by
  subst hp
  obtain ⟨T, locs, Y, eT, N, z, q⟩ := X
  obtain ⟨T', Y', e', st'⟩ := Jvm.RoadKit.getF Y C.1 C.2.1 C.2.2.2.2.2.1 (host := "") (Or.inl wl) Via.refl eT F (g := mkF m pc Ls (.ref a :: st)) rfl rfl (hb C.2.2.2.1 hd)
  exact ⟨T', locs, Y', e', N, z, fun t kk => q t (st' t kk)⟩
theorem Rch.getFv {R0 O f d host : String} {i : Nat} {a : Addr} {v : Value} (X : Rch p l e R s m args below meth c S0 n0 k n h pc Ls (.ref a :: st)) (C : Ctx p s m meth c Z a0 tb own bytes ml nm ret) (wl : (Jvm.Cond.fieldLink own i R0 f d).before a0 Z = true ∨ (Jvm.Cond.fieldLinkNest own i R0 f d host).before a0 Z = true) (via : Via Z R0 O f d) (F : Fld Z h a O f d v) (hd : decode bytes pc = .ok (.getfield i, 3)) (hp : pc + 3 = pc') : Rch p l e R s m args below meth c S0 n0 k n h pc' Ls (v :: st) := by
  subst hp
  obtain ⟨T, locs, Y, eT, N, z, q⟩ := X
  obtain ⟨T', Y', e', st'⟩ := Jvm.RoadKit.getF Y C.1 C.2.1 C.2.2.2.2.2.1 (host := host) wl via eT F (g := mkF m pc Ls (.ref a :: st)) rfl rfl (hb C.2.2.2.1 hd)
  exact ⟨T', locs, Y', e', N, z, fun t kk => q t (st' t kk)⟩
theorem Rch.getS {O f d : String} {i : Nat} {v : Value} (X : Rch p l e R s m args below meth c S0 n0 k n h pc Ls st) (C : Ctx p s m meth c Z a0 tb own bytes ml nm ret) (wl : (Jvm.Cond.fieldLink own i O f d).before a0 Z = true) (F : Sta Z h O f d v) (hd : decode bytes pc = .ok (.getstatic i, 3)) (hp : pc + 3 = pc') : Rch p l e R s m args below meth c S0 n0 k n h pc' Ls (v :: st) := by
  subst hp
  obtain ⟨T, locs, Y, eT, N, z, q⟩ := X
  obtain ⟨T', Y', e', st'⟩ := Jvm.RoadKit.getS Y C.1 C.2.1 C.2.2.2.2.2.1 (host := "") wl Via.refl eT F (g := mkF m pc Ls st) rfl (hb C.2.2.2.1 hd)
  exact ⟨T', locs, Y', e', N, z, fun t kk => q t (st' t kk)⟩
theorem Rch.putFv {R0 O f d K : String} {i kk : Nat} {a : Addr} {v v' old : Value} {ty : FieldType} (X : Rch p l e R s m args below meth c S0 n0 k n h pc Ls (v :: .ref a :: st)) (C : Ctx p s m meth c Z a0 tb own bytes ml nm ret) (wl : (Jvm.Cond.fieldLink own i R0 f d).before a0 Z = true) (via : Via Z R0 O f d) (F : Fld Z h a O f d old) (E : Exa Z h a K) (L : (Jvm.Cond.lays K O f d).before a0 Z = true ∨ ((Jvm.Cond.laysFinal K O f d).before a0 Z = true ∧ own = O ∧ nm = "<init>")) (wi : (Jvm.Cond.instantiable K kk).before a0 Z = true) (hty : parseFieldDescriptor d = some ty) (hn : narrow ty v = v') (hf : fits ty v' = true) (ga : n0 ≤ a) (hd : decode bytes pc = .ok (.putfield i, 3)) (hp : pc + 3 = pc') :
    ∃ h', Rch p l e R s m args below meth c S0 n0 k n h' pc' Ls st ∧ Wr h h' a (Jvm.RoadKit.slotOf Z O f d) v' := by
  subst hp
  obtain ⟨T, locs, Y, eT, N, z, q⟩ := X
  obtain ⟨T', h', Y', e', W, st'⟩ := Jvm.RoadKit.putFN Y C.1 C.2.1 C.2.2.2.2.2.1 wl via eT F E (L.imp id fun x => ⟨x.1, x.2.1, C.2.2.2.2.2.2.1.trans x.2.2⟩) wi hty hn hf (g := mkF m pc Ls (v :: .ref a :: st)) rfl rfl (hb C.2.2.2.1 hd)
  exact ⟨h', ⟨T', _, Y', e', Fr.snoc Y' N ga, z, fun t kk => q t (st' t kk)⟩, W⟩
theorem Rch.newO {K : String} {i sl : Nat} (X : Rch p l e R s m args below meth c S0 n0 k n h pc Ls st) (C : Ctx p s m meth c Z a0 tb own bytes ml nm ret) (wl : (Jvm.Cond.classLink own i K).before a0 Z = true) (wi : (Jvm.Cond.instantiable K sl).before a0 Z = true) (wz : (Jvm.Cond.initialized K).before a0 Z = true) (hd : decode bytes pc = .ok (.new i, 3)) (hk : k + 1 ≤ R.cells) (hn : n + sl ≤ R.slots) (hp : pc + 3 = pc') :
    ∃ h', Rch p l e R s m args below meth c S0 n0 (k + 1) (n + sl) h' pc' Ls (.ref h.size :: st) ∧ Ext h h' ∧ Exa Z h' h.size K ∧ (∀ {O f d : String} {ty : FieldType}, Laid Z a0 K O f d → parseFieldDescriptor d = some ty → Fld Z h' h.size O f d (defaultValue ty)) := by
  subst hp
  obtain ⟨T, locs, Y, eT, N, z, q⟩ := X
  obtain ⟨T', h', Y', e', E, A, D, -, st'⟩ := Jvm.RoadKit.newO Y C.1 C.2.1 C.2.2.2.2.2.1 wl wi wz eT (g := mkF m pc Ls st) rfl (hb C.2.2.2.1 hd) hk hn
  exact ⟨h', ⟨T', _, Y', e', N, z, fun t kk => q t (st' t kk)⟩, E, A, D⟩
theorem Rch.initO {i W : Nat} {a : Addr} (X : Rch p l e R s m args below meth c S0 n0 k n h pc Ls (.ref a :: st)) (C : Ctx p s m meth c Z a0 tb own bytes ml nm ret) (w1 : (Jvm.Cond.methodLink own i Lib.objectInit).before a0 Z = true) (w2 : (Jvm.Cond.instanceMethod Lib.objectInit).before a0 Z = true) (w3 : (Jvm.Cond.code Lib.objectInit ⟨#[0xb1]⟩ 1 none).before a0 Z = true) (hsz : Ls.size = ml) (hd : decode bytes pc = .ok (.invokespecial i, 3)) (hf : 1 ≤ R.frames) (hW : (st.map fun v => v.category).sum ≤ W) (hl : W + 12 ≤ R.locals) (hp : pc + 3 = pc') : Rch p l e R s m args below meth c S0 n0 k n h pc' Ls st := by
  subst hp
  obtain ⟨T, locs, Y, eT, N, z, q⟩ := X
  obtain ⟨T', Y', e', st'⟩ := Jvm.RoadKit.initO Y C.1 C.2.1 C.2.2.2.2.2.1 w1 w2 w3 eT (g := mkF m pc Ls (.ref a :: st)) rfl (hsz.trans C.2.2.2.2.1.symm) rfl (hb C.2.2.2.1 hd) hf (W := W) (by show 2 * 0 + _ ≤ _; omega) hl
  exact ⟨T', _, Y', e', N, z, fun t kk => q t (st' t kk)⟩
/-- an array: its kind, its length, what its places hold -/
def Ary (Z : State) (h : Heap) (a : Addr) (ty : FieldType) (N : Nat) (f : Nat → Value) : Prop := ∃ cl : Cell, Arr Z h a cl ty ∧ cl.slots.size = N ∧ N < 2 ^ 31 ∧ ∀ i, i < N → cl.slots[i]? = some (f i)
def updN {α : Type} (f : Nat → α) (i : Nat) (v : α) : Nat → α := fun j => if j = i then v else f j
section Arrays
variable {h' : Heap} {a b : Addr} {ty : FieldType} {N i sl : Nat} {f g : Nat → Value} {v w : Value} {ws : List Addr}
theorem Ary.lt (A : Ary Z h a ty N f) : a < h.size := by obtain ⟨_, A, -⟩ := A; exact A.lt
theorem Ary.ext (A : Ary Z h a ty N f) (E : Ext h h') : Ary Z h' a ty N f := by obtain ⟨cl, A, r⟩ := A; exact ⟨cl, A.ext E, r⟩
theorem Ary.other (A : Ary Z h b ty N f) (W : Wr h h' a sl v) (q : b ≠ a) : Ary Z h' b ty N f := by obtain ⟨cl, A, r⟩ := A; exact ⟨cl, A.other W q, r⟩
theorem Ary.keep (A : Ary Z h a ty N f) (K : Keep h h' ws) (q : a ∉ ws) : Ary Z h' a ty N f := by obtain ⟨cl, A, r⟩ := A; exact ⟨cl, ⟨K.2.1 a cl A.1 q, A.2⟩, r⟩
theorem Ary.set (A : Ary Z h a ty N f) (W : Wr h h' a i v) : Ary Z h' a ty N (updN f i v) := by
  obtain ⟨cl, A, S, L, H⟩ := A
  refine ⟨_, A.same W, by rw [sz_set]; exact S, L, fun j hj => ?_⟩
  unfold updN
  by_cases q : j = i
  · subst q; simp [Cell.setSlot, S, hj]
  · simp only [Cell.setSlot, q, if_false]; rw [Array.getElem?_setIfInBounds_ne (Ne.symm q)]; exact H j hj
theorem Ary.of (A : Ary Z h a ty N f) (q : ∀ i, i < N → f i = g i) : Ary Z h a ty N g := by obtain ⟨cl, A, S, L, H⟩ := A; exact ⟨cl, A, S, L, fun i hi => by rw [← q i hi]; exact H i hi⟩
theorem idx_nat {j : Int32} {i : Nat} (hj : j.toInt = (i : Int)) : j.toNatClampNeg = i := by simp only [Int32.toNatClampNeg, hj]; rfl
theorem idx_ok {j : Int32} {i : Nat} {cl : Cell} (hj : j.toInt = (i : Int)) (hi : i < N) (S : cl.slots.size = N) : ¬ (j < 0 ∨ cl.slots.size ≤ j.toNatClampNeg) := by
  rw [idx_nat hj, S, Int32.lt_iff_toInt_lt, hj]
  have : (0 : Int32).toInt = 0 := rfl
  omega
theorem Rch.alen (X : Rch p l e R s m args below meth c S0 n0 k n h pc Ls (.ref a :: st)) (C : Ctx p s m meth c Z a0 tb own bytes ml nm ret) (A : Ary Z h a ty N f) {v : Int32} (hv : N.toInt32 = v) (hd : decode bytes pc = .ok (.arraylength, 1)) (hp : pc + 1 = pc') : Rch p l e R s m args below meth c S0 n0 k n h pc' Ls (.int v :: st) := by
  subst hp hv
  obtain ⟨T, locs, Y, eT, N, z, q⟩ := X
  obtain ⟨cl, A, rfl, L, H⟩ := A
  exact ⟨T, locs, Y, eT, N, z, fun t kk => q t (Y.arraylength C.1 (by rw [eT]; exact A.1) (State.isArrayOf_alike C.2.1.alike A.2.1) (g := mkF m pc Ls (.ref a :: st)) rfl rfl (hb C.2.2.2.1 hd) t kk)⟩
theorem Rch.laload {j : Int32} (X : Rch p l e R s m args below meth c S0 n0 k n h pc Ls (.int j :: .ref a :: st)) (C : Ctx p s m meth c Z a0 tb own bytes ml nm ret) (A : Ary Z h a .long N f) (hj : j.toInt = (i : Int)) (hi : i < N) (hv : f i = v) (hd : decode bytes pc = .ok (.laload, 1)) (hp : pc + 1 = pc') : Rch p l e R s m args below meth c S0 n0 k n h pc' Ls (v :: st) := by
  subst hp hv
  obtain ⟨T, locs, Y, eT, N, z, q⟩ := X
  obtain ⟨cl, A, S, L, H⟩ := A
  exact ⟨T, locs, Y, eT, N, z, fun t kk => q t (Y.laload C.1 (by rw [eT]; exact A.1) (State.isArrayOf_alike C.2.1.alike A.2.1) A.2.2 (idx_ok hj hi S) (by rw [idx_nat hj]; exact H i hi) (g := mkF m pc Ls (.int j :: .ref a :: st)) rfl rfl (hb C.2.2.2.1 hd) t kk)⟩
theorem Rch.iaload {j : Int32} (X : Rch p l e R s m args below meth c S0 n0 k n h pc Ls (.int j :: .ref a :: st)) (C : Ctx p s m meth c Z a0 tb own bytes ml nm ret) (A : Ary Z h a .int N f) (hj : j.toInt = (i : Int)) (hi : i < N) (hv : f i = v) (hd : decode bytes pc = .ok (.iaload, 1)) (hp : pc + 1 = pc') : Rch p l e R s m args below meth c S0 n0 k n h pc' Ls (v :: st) := by
  subst hp hv
  obtain ⟨T, locs, Y, eT, N, z, q⟩ := X
  obtain ⟨cl, A, S, L, H⟩ := A
  exact ⟨T, locs, Y, eT, N, z, fun t kk => q t (Y.iaload C.1 (by rw [eT]; exact A.1) (State.isArrayOf_alike C.2.1.alike A.2.1) A.2.2 (idx_ok hj hi S) (by rw [idx_nat hj]; exact H i hi) (g := mkF m pc Ls (.int j :: .ref a :: st)) rfl rfl (hb C.2.2.2.1 hd) t kk)⟩
theorem Rch.baload {j : Int32} (X : Rch p l e R s m args below meth c S0 n0 k n h pc Ls (.int j :: .ref a :: st)) (C : Ctx p s m meth c Z a0 tb own bytes ml nm ret) (A : Ary Z h a .boolean N f) (hj : j.toInt = (i : Int)) (hi : i < N) (hv : f i = v) (hd : decode bytes pc = .ok (.baload, 1)) (hp : pc + 1 = pc') : Rch p l e R s m args below meth c S0 n0 k n h pc' Ls (v :: st) := by
  subst hp hv
  obtain ⟨T, locs, Y, eT, N, z, q⟩ := X
  obtain ⟨cl, A, S, L, H⟩ := A
  exact ⟨T, locs, Y, eT, N, z, fun t kk => q t (Y.baloadBooleans C.1 (by rw [eT]; exact A.1) (State.isArrayOf_alike C.2.1.alike A.2.1) A.2.2 (idx_ok hj hi S) (by rw [idx_nat hj]; exact H i hi) (g := mkF m pc Ls (.int j :: .ref a :: st)) rfl rfl (hb C.2.2.2.1 hd) t kk)⟩
theorem Rch.daload {j : Int32} (X : Rch p l e R s m args below meth c S0 n0 k n h pc Ls (.int j :: .ref a :: st)) (C : Ctx p s m meth c Z a0 tb own bytes ml nm ret) (A : Ary Z h a .double N f) (hj : j.toInt = (i : Int)) (hi : i < N) (hv : f i = v) (hd : decode bytes pc = .ok (.daload, 1)) (hp : pc + 1 = pc') : Rch p l e R s m args below meth c S0 n0 k n h pc' Ls (v :: st) := by
  subst hp hv
  obtain ⟨T, locs, Y, eT, N, z, q⟩ := X
  obtain ⟨cl, A, S, L, H⟩ := A
  exact ⟨T, locs, Y, eT, N, z, fun t kk => q t (Y.daload C.1 (by rw [eT]; exact A.1) (State.isArrayOf_alike C.2.1.alike A.2.1) A.2.2 (idx_ok hj hi S) (by rw [idx_nat hj]; exact H i hi) (g := mkF m pc Ls (.int j :: .ref a :: st)) rfl rfl (hb C.2.2.2.1 hd) t kk)⟩
theorem Rch.aaload {j : Int32} (X : Rch p l e R s m args below meth c S0 n0 k n h pc Ls (.int j :: .ref a :: st)) (C : Ctx p s m meth c Z a0 tb own bytes ml nm ret) (A : Ary Z h a ty N f) (hty : ty.isReference = true) (hj : j.toInt = (i : Int)) (hi : i < N) (hv : f i = v) (hd : decode bytes pc = .ok (.aaload, 1)) (hp : pc + 1 = pc') : Rch p l e R s m args below meth c S0 n0 k n h pc' Ls (v :: st) := by
  subst hp hv
  obtain ⟨T, locs, Y, eT, N, z, q⟩ := X
  obtain ⟨cl, A, S, L, H⟩ := A
  exact ⟨T, locs, Y, eT, N, z, fun t kk => q t (Y.aaload C.1 (by rw [eT]; exact A.1) (State.isArrayOf_alike C.2.1.alike A.2.1) hty A.2.2 (idx_ok hj hi S) (by rw [idx_nat hj]; exact H i hi) (g := mkF m pc Ls (.int j :: .ref a :: st)) rfl rfl (hb C.2.2.2.1 hd) t kk)⟩
theorem Rch.lastore {j : Int32} {x : Int64} (X : Rch p l e R s m args below meth c S0 n0 k n h pc Ls (.long x :: .int j :: .ref a :: st)) (C : Ctx p s m meth c Z a0 tb own bytes ml nm ret) (A : Ary Z h a .long N f) (hj : j.toInt = (i : Int)) (hi : i < N) (ga : n0 ≤ a) (hd : decode bytes pc = .ok (.lastore, 1)) (hp : pc + 1 = pc') :
    ∃ h', Rch p l e R s m args below meth c S0 n0 k n h' pc' Ls st ∧ Wr h h' a i (.long x) := by
  subst hp
  obtain ⟨T, locs, Y, eT, N, z, q⟩ := X
  obtain ⟨cl, A, S, L, H⟩ := A
  obtain ⟨T', h', Y', e', W, st'⟩ := stJ Y C.1 C.2.1 eT A (idx_ok hj hi S) (g := mkF m pc Ls (.long x :: .int j :: .ref a :: st)) rfl rfl (hb C.2.2.2.1 hd)
  rw [idx_nat hj] at W
  exact ⟨h', ⟨T', _, Y', e', Fr.snoc Y' N ga, z, fun t kk => q t (st' t kk)⟩, W⟩
theorem Rch.iastore {j : Int32} {x : Int32} (X : Rch p l e R s m args below meth c S0 n0 k n h pc Ls (.int x :: .int j :: .ref a :: st)) (C : Ctx p s m meth c Z a0 tb own bytes ml nm ret) (A : Ary Z h a .int N f) (hj : j.toInt = (i : Int)) (hi : i < N) (ga : n0 ≤ a) (hd : decode bytes pc = .ok (.iastore, 1)) (hp : pc + 1 = pc') :
    ∃ h', Rch p l e R s m args below meth c S0 n0 k n h' pc' Ls st ∧ Wr h h' a i (.int x) := by
  subst hp
  obtain ⟨T, locs, Y, eT, N, z, q⟩ := X
  obtain ⟨cl, A, S, L, H⟩ := A
  obtain ⟨T', h', Y', e', W, st'⟩ := stI Y C.1 C.2.1 eT A (idx_ok hj hi S) (g := mkF m pc Ls (.int x :: .int j :: .ref a :: st)) rfl rfl (hb C.2.2.2.1 hd)
  rw [idx_nat hj] at W
  exact ⟨h', ⟨T', _, Y', e', Fr.snoc Y' N ga, z, fun t kk => q t (st' t kk)⟩, W⟩
theorem Rch.dastore {j : Int32} {x : UInt64} (X : Rch p l e R s m args below meth c S0 n0 k n h pc Ls (.double x :: .int j :: .ref a :: st)) (C : Ctx p s m meth c Z a0 tb own bytes ml nm ret) (A : Ary Z h a .double N f) (hj : j.toInt = (i : Int)) (hi : i < N) (ga : n0 ≤ a) (hd : decode bytes pc = .ok (.dastore, 1)) (hp : pc + 1 = pc') :
    ∃ h', Rch p l e R s m args below meth c S0 n0 k n h' pc' Ls st ∧ Wr h h' a i (.double x) := by
  subst hp
  obtain ⟨T, locs, Y, eT, N, z, q⟩ := X
  obtain ⟨cl, A, S, L, H⟩ := A
  obtain ⟨T', h', Y', e', W, st'⟩ := stD Y C.1 C.2.1 eT A (idx_ok hj hi S) (g := mkF m pc Ls (.double x :: .int j :: .ref a :: st)) rfl rfl (hb C.2.2.2.1 hd)
  rw [idx_nat hj] at W
  exact ⟨h', ⟨T', _, Y', e', Fr.snoc Y' N ga, z, fun t kk => q t (st' t kk)⟩, W⟩
theorem nar_b (b : Bool) : nar .boolean (own_b b) = own_b b := by cases b <;> decide
theorem Rch.zastore {j : Int32} {b : Bool} (X : Rch p l e R s m args below meth c S0 n0 k n h pc Ls (.int (own_b b) :: .int j :: .ref a :: st)) (C : Ctx p s m meth c Z a0 tb own bytes ml nm ret) (A : Ary Z h a .boolean N f) (hj : j.toInt = (i : Int)) (hi : i < N) (ga : n0 ≤ a) (hd : decode bytes pc = .ok (.bastore, 1)) (hp : pc + 1 = pc') :
    ∃ h', Rch p l e R s m args below meth c S0 n0 k n h' pc' Ls st ∧ Wr h h' a i (.int (own_b b)) := by
  subst hp
  obtain ⟨T, locs, Y, eT, N, z, q⟩ := X
  obtain ⟨cl, A, S, L, H⟩ := A
  obtain ⟨T', h', Y', e', W, st'⟩ := stZ Y C.1 C.2.1 eT A (idx_ok hj hi S) (g := mkF m pc Ls (.int (own_b b) :: .int j :: .ref a :: st)) rfl rfl (hb C.2.2.2.1 hd)
  rw [idx_nat hj, nar_b] at W
  exact ⟨h', ⟨T', _, Y', e', Fr.snoc Y' N ga, z, fun t kk => q t (st' t kk)⟩, W⟩
theorem Rch.newA {aty : ArrayType} {j : Int32} {cap : Nat} {ad : String} (X : Rch p l e R s m args below meth c S0 n0 k n h pc Ls (.int j :: st)) (C : Ctx p s m meth c Z a0 tb own bytes ml nm ret) (wa : (Jvm.Cond.arrayClass (newarray.typeOf aty)).before a0 Z = true) (hj : j.toInt = (N : Int)) (hcap : N ≤ cap) (hcb : cap * 8 ≤ 536870912) (had : "[" ++ (newarray.typeOf aty).toString = ad) (hd : decode bytes pc = .ok (.newarray aty, 2)) (hk : k + 1 ≤ R.cells) (hn : n + cap ≤ R.slots) (hp : pc + 2 = pc') :
    ∃ h', Rch p l e R s m args below meth c S0 n0 (k + 1) (n + cap) h' pc' Ls (.ref h.size :: st) ∧ Ext h h' ∧ Ary Z h' h.size (newarray.typeOf aty) N (fun _ => defaultValue (newarray.typeOf aty)) ∧ Exa Z h' h.size ad := by
  subst hp
  obtain ⟨T, locs, Y, eT, N1, z, q⟩ := X
  have hn0 : ¬ j < 0 := by rw [Int32.lt_iff_toInt_lt, hj]; have : (0 : Int32).toInt = 0 := rfl; omega
  obtain ⟨T', h', cA, Y', e', E, A, Ex, st'⟩ := newPE Y C.1 C.2.1 wa eT (g := mkF m pc Ls (.int j :: st)) rfl (hb C.2.2.2.1 hd) rfl hn0 (by rw [idx_nat hj]; exact hcap) hcb hk hn had
  have hN : N < 2 ^ 31 := by have := Int32.toInt_lt j; omega
  refine ⟨h', ⟨T', _, Y', e', N1, z, fun t kk => q t (st' t kk)⟩, E, ⟨_, A, by rw [sz_new, idx_nat hj], hN, fun i hi => ?_⟩, Ex⟩
  simp [Jvm.RoadKit.newA, idx_nat hj, hi]
theorem Rch.cloneA {i W cap : Nat} {ad : String} (X : Rch p l e R s m args below meth c S0 n0 k n h pc Ls (.ref a :: st)) (C : Ctx p s m meth c Z a0 tb own bytes ml nm ret) (w1 : (Jvm.Cond.methodLink own i ⟨ad, "clone", "()Ljava/lang/Object;"⟩).before a0 Z = true) (w2 : (Jvm.Cond.sameMethod ad "java/lang/Object" "clone" "()Ljava/lang/Object;").before a0 Z = true) (w3 : (Jvm.Cond.native ⟨"java/lang/Object", "clone", "()Ljava/lang/Object;"⟩).before a0 Z = true) (w4 : (Jvm.Cond.instanceMethod ⟨"java/lang/Object", "clone", "()Ljava/lang/Object;"⟩).before a0 Z = true) (w5 : (Jvm.Cond.selects ad ⟨ad, "clone", "()Ljava/lang/Object;"⟩ ⟨"java/lang/Object", "clone", "()Ljava/lang/Object;"⟩).before a0 Z = true) (w6 : (Jvm.Cond.castable ad "java/lang/Cloneable").before a0 Z = true)
    (A : Ary Z h a ty N f) (E : Exa Z h a ad) (hfit : ∀ i, i < N → fits ty (f i) = true) (hsz : Ls.size = ml) (hd : decode bytes pc = .ok (.invokevirtual i, 3)) (hf : 1 ≤ R.frames) (hW : (st.map fun v => v.category).sum ≤ W) (hl : W + 14 ≤ R.locals) (hcap : N ≤ cap) (hk : k + 1 ≤ R.cells) (hn : n + cap ≤ R.slots) (hp : pc + 3 = pc') :
    ∃ h', Rch p l e R s m args below meth c S0 n0 (k + 1) (n + cap) h' pc' Ls (.ref h.size :: st) ∧ Ext h h' ∧ Ary Z h' h.size ty N f ∧ Exa Z h' h.size ad := by
  subst hp
  obtain ⟨T, locs, Y, eT, N1, z, q⟩ := X
  obtain ⟨cl, A, S, L, H⟩ := A
  have FC : FitC Z cl := fitC_of A fun j hj v hv => by rw [S] at hj; rw [H j hj] at hv; cases hv; exact hfit j hj
  obtain ⟨T', h', Y', e', Ex, A', E', st'⟩ := Jvm.RoadKit.cloneA Y C.1 C.2.1 C.2.2.2.2.2.1 w1 w2 w3 w4 w5 w6 eT A E FC (g := mkF m pc Ls (.ref a :: st)) rfl (hsz.trans C.2.2.2.2.1.symm) rfl (hb C.2.2.2.1 hd) hf (W := W) (by show 2 * 0 + _ ≤ _; omega) hl (by rw [S]; exact hcap) hk hn
  exact ⟨h', ⟨T', _, Y', e', N1, z, fun t kk => q t (st' t kk)⟩, Ex, ⟨_, A', S, L, H⟩, E'⟩
/-- what may lie in an array of objects -/
def Orr (Z : State) (h : Heap) (a : Addr) (K : String) : Prop := ∃ cl : Cell, h[a]? = some cl ∧ Ovr Z cl.cls K
theorem Orr.ext {K : String} (O : Orr Z h a K) (E : Ext h h') : Orr Z h' a K := by obtain ⟨cl, q, r⟩ := O; exact ⟨cl, E.2 _ _ q, r⟩
theorem Orr.wr {K : String} (O : Orr Z h a K) (W : Wr h h' b sl v) : Orr Z h' a K := by obtain ⟨cl, q, r⟩ := O; obtain ⟨c', e1, e2, -⟩ := wr_at W q; exact ⟨c', e1, by rw [e2]; exact r⟩
theorem Orr.lt {K : String} (O : Orr Z h a K) : a < h.size := by obtain ⟨cl, q, r⟩ := O; exact (Array.getElem?_eq_some_iff.mp q).1
theorem Orr.sto {K : String} {y : Addr} (O : Orr Z h a K) (A : Ary Z h a ty N f) (I : Ins Z h y K true) : Sto Z h a (.ref y) := by
  obtain ⟨cl, q, r⟩ := O; obtain ⟨cl', A, -⟩ := A; cases q.symm.trans A.1; exact Sto.of A r I
theorem Rch.newR {K : String} {j : Int32} {i cap : Nat} {ad : String} (X : Rch p l e R s m args below meth c S0 n0 k n h pc Ls (.int j :: st)) (C : Ctx p s m meth c Z a0 tb own bytes ml nm ret) (wl : (Jvm.Cond.classLink own i K).before a0 Z = true) (wa : (Jvm.Cond.arrayOver (.object K)).before a0 Z = true) (hj : j.toInt = (N : Int)) (hcap : N ≤ cap) (hcb : cap * 8 ≤ 536870912) (had : "[" ++ (FieldType.object K).toString = ad) (hd : decode bytes pc = .ok (.anewarray i, 3)) (hk : k + 1 ≤ R.cells) (hn : n + cap ≤ R.slots) (hp : pc + 3 = pc') :
    ∃ h', Rch p l e R s m args below meth c S0 n0 (k + 1) (n + cap) h' pc' Ls (.ref h.size :: st) ∧ Ext h h' ∧ Ary Z h' h.size (.object K) N (fun _ => .null) ∧ Exa Z h' h.size ad ∧ Orr Z h' h.size K := by
  subst hp
  obtain ⟨T, locs, Y, eT, N1, z, q⟩ := X
  have hn0 : ¬ j < 0 := by rw [Int32.lt_iff_toInt_lt, hj]; have : (0 : Int32).toInt = 0 := rfl; omega
  obtain ⟨T', h', cA, Y', e', E, A, Ex, O, st'⟩ := newRE Y C.1 C.2.1 C.2.2.2.2.2.1 wl wa eT (g := mkF m pc Ls (.int j :: st)) rfl (hb C.2.2.2.1 hd) rfl hn0 (by rw [idx_nat hj]; exact hcap) hcb hk hn had
  have hN : N < 2 ^ 31 := by have := Int32.toInt_lt j; omega
  refine ⟨h', ⟨T', _, Y', e', N1, z, fun t kk => q t (st' t kk)⟩, E, ⟨_, A, by rw [sz_new, idx_nat hj], hN, fun i hi => ?_⟩, Ex, ⟨_, A.1, O⟩⟩
  simp [Jvm.RoadKit.newA, idx_nat hj, hi, defaultValue]
theorem Rch.aastore {j : Int32} (X : Rch p l e R s m args below meth c S0 n0 k n h pc Ls (v :: .int j :: .ref a :: st)) (C : Ctx p s m meth c Z a0 tb own bytes ml nm ret) (A : Ary Z h a ty N f) (hty : ty.isReference = true) (F : Sto Z h a v) (hj : j.toInt = (i : Int)) (hi : i < N) (ga : n0 ≤ a) (hd : decode bytes pc = .ok (.aastore, 1)) (hp : pc + 1 = pc') :
    ∃ h', Rch p l e R s m args below meth c S0 n0 k n h' pc' Ls st ∧ Wr h h' a i v := by
  subst hp
  obtain ⟨T, locs, Y, eT, N, z, q⟩ := X
  obtain ⟨cl, A, S, L, H⟩ := A
  obtain ⟨T', h', Y', e', W, st'⟩ := stR Y C.1 C.2.1 eT A (idx_ok hj hi S) hty F (g := mkF m pc Ls (v :: .int j :: .ref a :: st)) rfl rfl (hb C.2.2.2.1 hd)
  rw [idx_nat hj] at W
  exact ⟨h', ⟨T', _, Y', e', Fr.snoc Y' N ga, z, fun t kk => q t (st' t kk)⟩, W⟩
end Arrays
/-- the run comes to the method's end, as P says -/
def OwnEnds (p : Program) (e : Env) (below : List Frame) (s S0 : State) (n0 : Nat) (P : Option Value → Heap → Prop) (K M : Nat) : Prop := ∃ s₂ o, Steps p.tables e below S0 s₂ ∧ s₂.status = .running ∧ Ended s₂ below o ∧ ∃ v L, o = .returned v ∧ (P v s₂.heap ∧ Fr n0 L) ∧ FrameEnd s o s₂ L K M
theorem Rch.end (X : Rch p l e R s m args below meth c S0 n0 k n h pc Ls st) {v : Option Value} (hv : meth.sig.returnType = none → v = none) (hlk : meth.locks = false) {P : Option Value → Heap → Prop} {K M : Nat} (hP : P v h) (hK : k ≤ K) (hM : n ≤ M)
    (f : ∀ T locs, Stand p l e R s m args below meth c T locs k n → ∀ fs : List Frame, (∀ (f : JFrame) (acts : List Action), f.method = m → f.locked = none → f.entered = [] → (doReturn e (T.setTop f) acts v).1 = T.setFrames fs) → Steps p.tables e below (T.setTop (mkF m pc Ls st)) (T.setFrames fs)) :
    OwnEnds p e below s S0 n0 P K M := by
  obtain ⟨T, locs, Y, eT, N, z, q⟩ := X
  obtain ⟨fs, hr, hrun, hended, hW, hsame⟩ := Y.leave (v := v) hv hlk
  exact ⟨_, _, q _ (f T locs Y fs hr), hrun, hended, v, locs, rfl, ⟨by rw [show (T.setFrames fs).heap = T.heap from rfl, eT]; exact hP, N⟩, ⟨_, rfl⟩, hW, hsame.mono hK hM⟩
theorem Rch.retV (X : Rch p l e R s m args below meth c S0 n0 k n h pc Ls []) (C : Ctx p s m meth c Z a0 tb own bytes ml nm none) (hd : decode bytes pc = .ok (.return_, 1)) {P : Option Value → Heap → Prop} {K M : Nat} (hP : P none h) (hK : k ≤ K) (hM : n ≤ M) :
    OwnEnds p e below s S0 n0 P K M :=
  X.end (fun _ => rfl) C.2.2.2.2.2.2.2.2 hP hK hM fun T locs Y fs hr => Y.returnOut C.1 C.2.2.2.2.2.2.2.1 (hb C.2.2.2.1 hd) hr
theorem Rch.retJ {x : Int64} (X : Rch p l e R s m args below meth c S0 n0 k n h pc Ls [.long x]) (C : Ctx p s m meth c Z a0 tb own bytes ml nm (some .long)) (hd : decode bytes pc = .ok (.lreturn, 1)) {P : Option Value → Heap → Prop} {K M : Nat} (hP : P (some (.long x)) h) (hK : k ≤ K) (hM : n ≤ M) :
    OwnEnds p e below s S0 n0 P K M :=
  X.end (fun q => by rw [C.2.2.2.2.2.2.2.1] at q; cases q) C.2.2.2.2.2.2.2.2 hP hK hM fun T locs Y fs hr => Y.lreturnOut C.1 C.2.2.2.2.2.2.2.1 (hb C.2.2.2.1 hd) hr
theorem Rch.retI {x : Int32} (X : Rch p l e R s m args below meth c S0 n0 k n h pc Ls [.int x]) (C : Ctx p s m meth c Z a0 tb own bytes ml nm (some .int)) (hd : decode bytes pc = .ok (.ireturn, 1)) {P : Option Value → Heap → Prop} {K M : Nat} (hP : P (some (.int x)) h) (hK : k ≤ K) (hM : n ≤ M) :
    OwnEnds p e below s S0 n0 P K M :=
  X.end (fun q => by rw [C.2.2.2.2.2.2.2.1] at q; cases q) C.2.2.2.2.2.2.2.2 hP hK hM fun T locs Y fs hr => Y.ireturnOut C.1 C.2.2.2.2.2.2.2.1 rfl (Or.inl rfl) (hb C.2.2.2.1 hd) hr
theorem Rch.retZ {b : Bool} (X : Rch p l e R s m args below meth c S0 n0 k n h pc Ls [.int (own_b b)]) (C : Ctx p s m meth c Z a0 tb own bytes ml nm (some .boolean)) (hd : decode bytes pc = .ok (.ireturn, 1)) {P : Option Value → Heap → Prop} {K M : Nat} (hP : P (some (.int (own_b b))) h) (hK : k ≤ K) (hM : n ≤ M) :
    OwnEnds p e below s S0 n0 P K M :=
  X.end (fun q => by rw [C.2.2.2.2.2.2.2.1] at q; cases q) C.2.2.2.2.2.2.2.2 hP hK hM fun T locs Y fs hr => Y.ireturnOut C.1 C.2.2.2.2.2.2.2.1 (by cases b <;> rfl) (Or.inr (Or.inl rfl)) (hb C.2.2.2.1 hd) hr
theorem Rch.retA {a : Addr} {t : FieldType} (X : Rch p l e R s m args below meth c S0 n0 k n h pc Ls [.ref a]) (C : Ctx p s m meth c Z a0 tb own bytes ml nm (some t)) (ht : t.isReference = true) (hd : decode bytes pc = .ok (.areturn, 1)) {P : Option Value → Heap → Prop} {K M : Nat} (hP : P (some (.ref a)) h) (hK : k ≤ K) (hM : n ≤ M) :
    OwnEnds p e below s S0 n0 P K M :=
  X.end (fun q => by rw [C.2.2.2.2.2.2.2.1] at q; cases q) C.2.2.2.2.2.2.2.2 hP hK hM fun T locs Y fs hr => retOut Y C.1 C.2.2.2.2.2.2.2.1 (by cases t <;> first | rfl | (simp [FieldType.isReference] at ht)) (Or.inr (Or.inr (Or.inr (Or.inr ⟨rfl, ht, rfl⟩)))) (hb C.2.2.2.1 hd) hr
/-- a contract: from the heap h0 with these arguments the body returns, as P says -/
def Con (l : Launch) (Z : State) (y : MethodName) (bytes : ByteArray) (ml : Nat) (ret : Option FieldType) (rm : Room) (as' : Array Value) (h0 : Heap) (n0 : Nat) (P : Option Value → Heap → Prop) : Prop :=
  ∀ ws : List Jvm.Cond, MetFree l y (head1 (Jvm.Cond.code y bytes ml ret :: ws) rm) (fun a U => a = as' ∧ Z.Warmed39 U.vm ∧ U.heap = h0) (fun _ _ _ _ _ => True) (fun _ U o U' => ∃ v L, o = .returned v ∧ (P v U'.heap ∧ Fr n0 L) ∧ FrameEnd U o U' L rm.cells rm.slots)
theorem Con.mk {y : MethodName} {rm : Room} {as' : Array Value} {h0 : Heap} {P : Option Value → Heap → Prop} (hpn : plainFor y = true) (hw : ∀ d ∈ tb, d.before a0 Z = true) (z0 : n0 ≤ h0.size) (he : ∀ m, entryFrame m as' ml = mkF m 0 Ls [])
    (body : ∀ (p : Program) (e : Env) (s : State) (m : MethodId) (below : List Frame) (meth : Method) (c : Code) (S0 : State), Ctx p s m meth c Z a0 tb y.cls bytes ml y.name ret → Rch p l e rm s m as' below meth c S0 n0 0 0 h0 0 Ls [] →
      OwnEnds p e below s S0 n0 P rm.cells rm.slots) :
    Con l Z y bytes ml ret rm as' h0 n0 P := by
  intro ws
  refine MetFree.of_bodySF hpn hisR ?_
  intro p e s m args below meth c s₁ Bd hml0 hP hK
  obtain ⟨rfl, hZ, hh⟩ := hP
  have hown : s.vm.findClass y.cls = some m.cls := findClass_of_methodNamed Bd.named
  have hnm := (name_of_methodNamed Bd.named Bd.method).1
  have X0 := Stand.of_body Bd
  have e0 : s₁.heap = h0 := by rw [← hh, Bd.state]; rfl
  exact body p e s m below meth c _ ⟨Bd.exec, hZ, hw, Bd.bytes, hml0, hown, hnm, Bd.returns, Bd.notSynchronized⟩ ⟨s₁, [], X0, e0, Fr.nil n0, by rw [hh]; exact z0, fun t kk => castTop (he m) kk⟩
section Calls
variable {y z : MethodName} {bytes' : ByteArray} {ml' W i : Nat} {ret' : Option FieldType} {rm : Room} {P : Option Value → Heap → Prop} {argsL rest : List Value} {a : Addr} {K : String}
theorem Rch.callS (X : Rch p l e R s m args below meth c S0 n0 k n h pc Ls st) (C : Ctx p s m meth c Z a0 tb own bytes ml nm ret) (w1 : (Jvm.Cond.methodLink own i y).before a0 Z = true) (w2 : (Jvm.Cond.static y).before a0 Z = true) (w3 : (Jvm.Cond.initialized y.cls).before a0 Z = true) (w4 : (Jvm.Cond.code y bytes' ml' ret').before a0 Z = true) (hy : y.cls ≠ "java/lang/invoke/MethodHandle" ∧ y.cls ≠ "java/lang/invoke/VarHandle")
    (argsL rest : List Value) (hst : st = argsL.reverse ++ rest) (hcon : Con l Z y bytes' ml' ret' rm argsL.toArray h n0 P) (W : Nat) (hW : (rest.map fun v => v.category).sum ≤ W) (hf : rm.frames + 1 ≤ R.frames) (hl : W + (ml' + 11) + rm.locals ≤ R.locals) (hk : k + rm.cells ≤ R.cells) (hn : n + rm.slots ≤ R.slots) (hlen : ∀ sig, parseMethodDescriptor y.desc = some sig → argsL.length = sig.parameters.length) (hsz : Ls.size = ml)
    (hd : decode bytes pc = .ok (.invokestatic i, 3)) (hp : pc + 3 = pc') : ∃ v h', Rch p l e R s m args below meth c S0 n0 (k + rm.cells) (n + rm.slots) h' pc' Ls (v.toList ++ rest) ∧ P v h' := by
  subst hp hst
  obtain ⟨T, locs, Y, eT, N, z, q⟩ := X
  obtain ⟨v, _, ⟨T', L', k', n'⟩, -, Y', ⟨Lc, hQ, l1, y1, z1⟩, st'⟩ := Jvm.LawKit.callS Y C.1 (y := y) C.2.2.2.2.2.1 (mvT C.2.1 w1) (mvT C.2.1 w2) (mvT C.2.1 w3) (mvT C.2.1 w4) hy (backOf (W := W) (Q := fun v h L => P v h ∧ Fr n0 L) (hcon []) C.2.1 w4 w3 hf hl) (g := mkF m pc Ls _) rfl (hsz.trans C.2.2.2.2.1.symm) (argsL := argsL) (rest := rest) hlen rfl (by show 2 * 0 + _ ≤ _; omega) (hb C.2.2.2.1 hd) (fun _ _ => ⟨rfl, eT, hk, hn⟩)
  dsimp only [Pt.U, Pt.locs, Pt.cells, Pt.slots] at Y' l1 y1 z1 st' hQ
  subst l1 y1 z1
  exact ⟨v, T'.heap, ⟨T', _, Y', rfl, Fr.app N hQ.2, z, fun t kk => q t (st' t kk)⟩, hQ.1⟩
theorem Rch.callI (X : Rch p l e R s m args below meth c S0 n0 k n h pc Ls st) (C : Ctx p s m meth c Z a0 tb own bytes ml nm ret) (hy1 : y.name = "<init>") (w1 : (Jvm.Cond.methodLink own i y).before a0 Z = true) (w2 : (Jvm.Cond.instanceMethod y).before a0 Z = true) (w3 : (Jvm.Cond.initialized y.cls).before a0 Z = true) (w4 : (Jvm.Cond.code y bytes' ml' none).before a0 Z = true) (hy : y.cls ≠ "java/lang/invoke/MethodHandle" ∧ y.cls ≠ "java/lang/invoke/VarHandle")
    (a : Addr) (argsL rest : List Value) (hst : st = argsL.reverse ++ .ref a :: rest) (hcon : Con l Z y bytes' ml' none rm (.ref a :: argsL).toArray h n0 P) (W : Nat) (hW : (rest.map fun v => v.category).sum ≤ W) (hf : rm.frames + 1 ≤ R.frames) (hl : W + (ml' + 11) + rm.locals ≤ R.locals) (hk : k + rm.cells ≤ R.cells) (hn : n + rm.slots ≤ R.slots) (hlen : ∀ sig, parseMethodDescriptor y.desc = some sig → argsL.length = sig.parameters.length) (hsz : Ls.size = ml)
    (hd : decode bytes pc = .ok (.invokespecial i, 3)) (hp : pc + 3 = pc') : ∃ v h', Rch p l e R s m args below meth c S0 n0 (k + rm.cells) (n + rm.slots) h' pc' Ls (v.toList ++ rest) ∧ P v h' := by
  subst hp hst
  obtain ⟨T, locs, Y, eT, N, z, q⟩ := X
  obtain ⟨v, _, ⟨T', L', k', n'⟩, -, Y', ⟨Lc, hQ, l1, y1, z1⟩, st'⟩ := Y.specialBack C.1 (y := y) hy1 C.2.2.2.2.2.1 (mvT C.2.1 w1) (mvT C.2.1 w2) (mvT C.2.1 w4) hy (backOf (W := W) (Q := fun v h L => P v h ∧ Fr n0 L) (hcon []) C.2.1 w4 w3 hf hl) (g := mkF m pc Ls _) rfl (hsz.trans C.2.2.2.2.1.symm) (Steps.refl _) (a := a) (argsL := argsL) (rest := rest) hlen rfl (by show 2 * 0 + _ ≤ _; omega) (hb C.2.2.2.1 hd) (fun _ _ => ⟨rfl, eT, hk, hn⟩)
  dsimp only [Pt.U, Pt.locs, Pt.cells, Pt.slots] at Y' l1 y1 z1 st' hQ
  subst l1 y1 z1
  exact ⟨v, T'.heap, ⟨T', _, Y', rfl, Fr.app N hQ.2, z, fun t kk => q t (st'.trans kk)⟩, hQ.1⟩
theorem Rch.callV (X : Rch p l e R s m args below meth c S0 n0 k n h pc Ls st) (C : Ctx p s m meth c Z a0 tb own bytes ml nm ret) (E : Exa Z h a K) (w1 : (Jvm.Cond.methodLink own i y).before a0 Z = true) (w2 : (Jvm.Cond.declares y).before a0 Z = true) (w5 : (Jvm.Cond.selects K y y).before a0 Z = true) (w6 : (Jvm.Cond.instanceMethod y).before a0 Z = true) (w3 : (Jvm.Cond.initialized y.cls).before a0 Z = true) (w4 : (Jvm.Cond.code y bytes' ml' ret').before a0 Z = true) (hy : y.cls ≠ "java/lang/invoke/MethodHandle" ∧ y.cls ≠ "java/lang/invoke/VarHandle")
    (argsL rest : List Value) (hst : st = argsL.reverse ++ .ref a :: rest) (hcon : Con l Z y bytes' ml' ret' rm (.ref a :: argsL).toArray h n0 P) (W : Nat) (hW : (rest.map fun v => v.category).sum ≤ W) (hf : rm.frames + 1 ≤ R.frames) (hl : W + (ml' + 11) + rm.locals ≤ R.locals) (hk : k + rm.cells ≤ R.cells) (hn : n + rm.slots ≤ R.slots) (hlen : ∀ sig, parseMethodDescriptor y.desc = some sig → argsL.length = sig.parameters.length) (hsz : Ls.size = ml)
    (hd : decode bytes pc = .ok (.invokevirtual i, 3)) (hp : pc + 3 = pc') : ∃ v h', Rch p l e R s m args below meth c S0 n0 (k + rm.cells) (n + rm.slots) h' pc' Ls (v.toList ++ rest) ∧ P v h' := by
  subst hp hst
  obtain ⟨T, locs, Y, eT, N, z, q⟩ := X
  obtain ⟨cq, kq, qa, qb, qc⟩ := isOf C.2.1 eT E
  obtain ⟨v, _, ⟨T', L', k', n'⟩, -, Y', ⟨Lc, hQ, l1, y1, z1⟩, st'⟩ := Y.virtualBack C.1 (y := y) (z := y) C.2.2.2.2.2.1 (mvT C.2.1 w1) (mvT C.2.1 w2) (notFace_of_selects (args := #[]) (mvT C.2.1 w5)) (mvT C.2.1 w5) (mvT C.2.1 w6) hy (backOf (W := W) (Q := fun v h L => P v h ∧ Fr n0 L) (hcon []) C.2.1 w4 w3 hf hl) qa qc (g := mkF m pc Ls _) rfl (hsz.trans C.2.2.2.2.1.symm) (Steps.refl _) (argsL := argsL) (rest := rest) hlen rfl (by show 2 * 0 + _ ≤ _; omega) (hb C.2.2.2.1 hd) (fun _ _ => ⟨rfl, eT, hk, hn⟩)
  dsimp only [Pt.U, Pt.locs, Pt.cells, Pt.slots] at Y' l1 y1 z1 st' hQ
  subst l1 y1 z1
  exact ⟨v, T'.heap, ⟨T', _, Y', rfl, Fr.app N hQ.2, z, fun t kk => q t (st'.trans kk)⟩, hQ.1⟩
theorem Rch.callP (X : Rch p l e R s m args below meth c S0 n0 k n h pc Ls st) (C : Ctx p s m meth c Z a0 tb own bytes ml nm ret) (E : Exa Z h a K) (w1 : (Jvm.Cond.methodLink own i y).before a0 Z = true) (w6 : (Jvm.Cond.instanceMethod y).before a0 Z = true) {kk : Nat} (w5 : (Jvm.Cond.instantiable y.cls kk).before a0 Z = true) (w7 : (Jvm.Cond.privateMethod y).before a0 Z = true) (w3 : (Jvm.Cond.initialized y.cls).before a0 Z = true) (w4 : (Jvm.Cond.code y bytes' ml' ret').before a0 Z = true) (hy : y.cls ≠ "java/lang/invoke/MethodHandle" ∧ y.cls ≠ "java/lang/invoke/VarHandle")
    (argsL rest : List Value) (hst : st = argsL.reverse ++ .ref a :: rest) (hcon : Con l Z y bytes' ml' ret' rm (.ref a :: argsL).toArray h n0 P) (W : Nat) (hW : (rest.map fun v => v.category).sum ≤ W) (hf : rm.frames + 1 ≤ R.frames) (hl : W + (ml' + 11) + rm.locals ≤ R.locals) (hk : k + rm.cells ≤ R.cells) (hn : n + rm.slots ≤ R.slots) (hlen : ∀ sig, parseMethodDescriptor y.desc = some sig → argsL.length = sig.parameters.length) (hsz : Ls.size = ml)
    (hd : decode bytes pc = .ok (.invokevirtual i, 3)) (hp : pc + 3 = pc') : ∃ v h', Rch p l e R s m args below meth c S0 n0 (k + rm.cells) (n + rm.slots) h' pc' Ls (v.toList ++ rest) ∧ P v h' := by
  subst hp hst
  obtain ⟨T, locs, Y, eT, N, z, q⟩ := X
  obtain ⟨cq, qa, qb⟩ := E.cell
  have wi : (Jvm.Cond.instantiable y.cls kk).before args s = true := mvT C.2.1 w5
  obtain ⟨ci, ki, i1, i2, -, i4, -⟩ := Cond.instantiable_spec wi
  have hpv := Cond.privateMethod_at (mvP C.2.1 w7 (args := #[]))
  have hsl : (Jvm.Cond.selects y.cls y y).before args s = true := selects_self_of_private i1 i2 (Bool.or_eq_false_iff.mp i4).1 hpv (mvT C.2.1 w6) hy
  obtain ⟨v, _, ⟨T', L', k', n'⟩, -, Y', ⟨Lc, hQ, l1, y1, z1⟩, st'⟩ := Y.privateBack C.1 (y := y) C.2.2.2.2.2.1 (mvT C.2.1 w1) (mvT C.2.1 w6) hsl hpv (mvT C.2.1 w4) hy (backOf (W := W) (Q := fun v h L => P v h ∧ Fr n0 L) (hcon []) C.2.1 w4 w3 hf hl) (g := mkF m pc Ls _) rfl (hsz.trans C.2.2.2.2.1.symm) (Steps.refl _) (a := a) (by rw [eT]; exact qa) qb (argsL := argsL) (rest := rest) hlen rfl (by show 2 * 0 + _ ≤ _; omega) (hb C.2.2.2.1 hd) (fun _ _ => ⟨rfl, eT, hk, hn⟩)
  dsimp only [Pt.U, Pt.locs, Pt.cells, Pt.slots] at Y' l1 y1 z1 st' hQ
  subst l1 y1 z1
  exact ⟨v, T'.heap, ⟨T', _, Y', rfl, Fr.app N hQ.2, z, fun t kk => q t (st'.trans kk)⟩, hQ.1⟩
theorem Rch.callF {cnt : Nat} (X : Rch p l e R s m args below meth c S0 n0 k n h pc Ls st) (C : Ctx p s m meth c Z a0 tb own bytes ml nm ret) (E : Exa Z h a K) (w1 : (Jvm.Cond.methodLink own i z).before a0 Z = true) (w2 : (Jvm.Cond.declares z).before a0 Z = true) (w8 : (Jvm.Cond.interfaceMethod z.cls z.cls z.name z.desc).before a0 Z = true) (w5 : (Jvm.Cond.selects K z y).before a0 Z = true) (w6 : (Jvm.Cond.instanceMethod y).before a0 Z = true) (w9 : (Jvm.Cond.publicMethod y).before a0 Z = true) (w10 : (Jvm.Cond.unhidden K z.name z.desc).before a0 Z = true) (w11 : (Jvm.Cond.castable K z.cls).before a0 Z = true) (w3 : (Jvm.Cond.initialized y.cls).before a0 Z = true) (w4 : (Jvm.Cond.code y bytes' ml' ret').before a0 Z = true) (hy : z.cls ≠ "java/lang/invoke/MethodHandle" ∧ z.cls ≠ "java/lang/invoke/VarHandle")
    (argsL rest : List Value) (hst : st = argsL.reverse ++ .ref a :: rest) (hcon : Con l Z y bytes' ml' ret' rm (.ref a :: argsL).toArray h n0 P) (W : Nat) (hW : (rest.map fun v => v.category).sum ≤ W) (hf : rm.frames + 1 ≤ R.frames) (hl : W + (ml' + 11) + rm.locals ≤ R.locals) (hk : k + rm.cells ≤ R.cells) (hn : n + rm.slots ≤ R.slots) (hlen : ∀ sig, parseMethodDescriptor z.desc = some sig → argsL.length = sig.parameters.length) (hsz : Ls.size = ml)
    (hd : decode bytes pc = .ok (.invokeinterface i cnt, 5)) (hp : pc + 5 = pc') : ∃ v h', Rch p l e R s m args below meth c S0 n0 (k + rm.cells) (n + rm.slots) h' pc' Ls (v.toList ++ rest) ∧ P v h' := by
  subst hp hst
  obtain ⟨T, locs, Y, eT, N, zz, q⟩ := X
  obtain ⟨cq, kq, qa, qb, qc⟩ := isOf C.2.1 eT E
  obtain ⟨v, _, ⟨T', L', k', n'⟩, -, Y', ⟨Lc, hQ, l1, y1, z1⟩, st'⟩ := Y.interfaceBack C.1 (xi := z) (y := y) C.2.2.2.2.2.1 (mvT C.2.1 w1) (mvT C.2.1 w2) (mvT C.2.1 w8 (by simp [Cond.onTables, Cond.keepsFace, Cond.keeps, Cond.steady, Cond.faceAtom, hy.1, hy.2])) (mvT C.2.1 w5) (mvT C.2.1 w6) (mvT C.2.1 w9) (mvT C.2.1 w10) (mvT C.2.1 w11) hy (backOf (W := W) (Q := fun v h L => P v h ∧ Fr n0 L) (hcon []) C.2.1 w4 w3 hf hl) qa qb qc (g := mkF m pc Ls _) rfl (hsz.trans C.2.2.2.2.1.symm) (Steps.refl _) (argsL := argsL) (rest := rest) hlen rfl (by show 2 * 0 + _ ≤ _; omega) (hb C.2.2.2.1 hd) (fun _ _ => ⟨rfl, eT, hk, hn⟩)
  dsimp only [Pt.U, Pt.locs, Pt.cells, Pt.slots] at Y' l1 y1 z1 st' hQ
  subst l1 y1 z1
  exact ⟨v, T'.heap, ⟨T', _, Y', rfl, Fr.app N hQ.2, zz, fun t kk => q t (st'.trans kk)⟩, hQ.1⟩
theorem Rch.castY {K' : String} (X : Rch p l e R s m args below meth c S0 n0 k n h pc Ls (.ref a :: st)) (C : Ctx p s m meth c Z a0 tb own bytes ml nm ret) (I : Ins Z h a K' true) (wl : (Jvm.Cond.classLink own i K').before a0 Z = true) (hd : decode bytes pc = .ok (.checkcast i, 3)) (hp : pc + 3 = pc') : Rch p l e R s m args below meth c S0 n0 k n h pc' Ls (.ref a :: st) := by
  subst hp
  obtain ⟨T, locs, Y, eT, N, z, q⟩ := X
  obtain ⟨T', Y', e', st'⟩ := Jvm.RoadKit.castY Y C.1 C.2.1 C.2.2.2.2.2.1 wl eT I (g := mkF m pc Ls (.ref a :: st)) rfl rfl (hb C.2.2.2.1 hd)
  exact ⟨T', _, Y', e', N, z, fun t kk => q t (st' t kk)⟩
end Calls
end Walk
end Jvm.OwnKit
namespace Jvm.OwnKit
open Sem ClassFile Op Lib Jvm.Stand Jvm.Free Jvm.LawKit Jvm.RoadKit
section WalkD
variable {p : Program} {l : Launch} {e : Env} {R : Room} {s : State} {m : MethodId} {args : Array Value} {below : List Frame} {meth : Method} {c : Code} {S0 : State} {n0 k n : Nat} {h : Heap} {Z : State} {a0 : Array Value} {tb : List Jvm.Cond} {own : String} {bytes : ByteArray} {ml : Nat} {nm : String} {ret : Option FieldType} {pc pc' : Nat} {Ls Ls' : Array Slot} {st st' : List Value}
theorem Rch.dload {i : Nat} {v : UInt64} (X : Rch p l e R s m args below meth c S0 n0 k n h pc Ls st) (C : Ctx p s m meth c Z a0 tb own bytes ml nm ret) (hd : decode bytes pc = .ok (.dload i, 2)) (hl : Ls[i]? = some (.val (.double v))) (hp : pc + 2 = pc') : Rch p l e R s m args below meth c S0 n0 k n h pc' Ls (.double v :: st) := by
  subst hp; exact X.pure fun T A t kk => XS.dload (g := mkF m pc Ls _) A C.1 rfl (hb C.2.2.2.1 hd) hl kk
theorem Rch.dstore {i : Nat} {v : UInt64} (X : Rch p l e R s m args below meth c S0 n0 k n h pc Ls (.double v :: st)) (C : Ctx p s m meth c Z a0 tb own bytes ml nm ret) (hd : decode bytes pc = .ok (.dstore i, 2)) (hl : storeLocals Ls i (.double v) = some Ls') (hp : pc + 2 = pc') : Rch p l e R s m args below meth c S0 n0 k n h pc' Ls' st := by
  subst hp; exact X.pure fun T A t kk => XS.dstore (g := mkF m pc Ls _) A C.1 rfl (hb C.2.2.2.1 hd) rfl hl kk
theorem Rch.dconst1 {v : UInt64} (X : Rch p l e R s m args below meth c S0 n0 k n h pc Ls st) (C : Ctx p s m meth c Z a0 tb own bytes ml nm ret) (hd : decode bytes pc = .ok (.dconst 1, 1)) (hv : FP.dconst1 = v) (hp : pc + 1 = pc') : Rch p l e R s m args below meth c S0 n0 k n h pc' Ls (.double v :: st) := by
  subst hp; exact X.pure fun T A t kk => XS.dconst1 (g := mkF m pc Ls _) A C.1 rfl (hb C.2.2.2.1 hd) hv kk
theorem Rch.i2d {x : Int32} {v : UInt64} (X : Rch p l e R s m args below meth c S0 n0 k n h pc Ls (.int x :: st)) (C : Ctx p s m meth c Z a0 tb own bytes ml nm ret) (hd : decode bytes pc = .ok (.i2d, 1)) (hv : FP.i2d x = v) (hp : pc + 1 = pc') : Rch p l e R s m args below meth c S0 n0 k n h pc' Ls (.double v :: st) := by
  subst hp; exact X.pure fun T A t kk => XS.i2dS (g := mkF m pc Ls _) A C.1 rfl (hb C.2.2.2.1 hd) rfl hv kk
theorem Rch.dcmp {o : CmpOp} {x y : UInt64} {v : Int32} (X : Rch p l e R s m args below meth c S0 n0 k n h pc Ls (.double y :: .double x :: st)) (C : Ctx p s m meth c Z a0 tb own bytes ml nm ret) (hd : decode bytes pc = .ok (.dcmp o, 1)) (hv : cmpValue (FP.dcmp x y) o = v) (hp : pc + 1 = pc') : Rch p l e R s m args below meth c S0 n0 k n h pc' Ls (.int v :: st) := by
  subst hp; exact X.pure fun T A t kk => XS.dcmpS (g := mkF m pc Ls _) A C.1 rfl (hb C.2.2.2.1 hd) rfl hv kk
theorem Rch.ldcD (X : Rch p l e R s m args below meth c S0 n0 k n h pc Ls st) (C : Ctx p s m meth c Z a0 tb own bytes ml nm ret) {i : Nat} {v : UInt64} (wc : (Jvm.Cond.constantDouble own i v).before a0 Z = true) (hd : decode bytes pc = .ok (.ldc2_w i, 3)) (hp : pc + 3 = pc') : Rch p l e R s m args below meth c S0 n0 k n h pc' Ls (.double v :: st) := by
  subst hp
  obtain ⟨T, locs, Y, eT, N, z, q⟩ := X
  exact ⟨T, locs, Y, eT, N, z, fun t kk => q t (Y.ldc2DoubleC C.1 C.2.2.2.2.2.1 (mvT C.2.1 wc) (g := mkF m pc Ls st) rfl (hb C.2.2.2.1 hd) t kk)⟩
def OrrA (Z : State) (h : Heap) (a : Addr) (ty : FieldType) (K : String) : Prop := ∃ cl : Cell, h[a]? = some cl ∧ OvrA Z cl.cls ty K
section ArrA
variable {h' : Heap} {a b : Addr} {ty t0 : FieldType} {N i sl : Nat} {f : Nat → Value} {v : Value} {K : String}
theorem OrrA.ext (O : OrrA Z h a ty K) (E : Ext h h') : OrrA Z h' a ty K := by obtain ⟨cl, q, r⟩ := O; exact ⟨cl, E.2 _ _ q, r⟩
theorem OrrA.wr (O : OrrA Z h a ty K) (W : Wr h h' b sl v) : OrrA Z h' a ty K := by obtain ⟨cl, q, r⟩ := O; obtain ⟨c', e1, e2, -⟩ := wr_at W q; exact ⟨c', e1, by rw [e2]; exact r⟩
theorem OrrA.lt (O : OrrA Z h a ty K) : a < h.size := by obtain ⟨cl, q, r⟩ := O; exact (Array.getElem?_eq_some_iff.mp q).1
theorem OrrA.sto {y : Addr} (O : OrrA Z h a ty K) (A : Ary Z h a t0 N f) (I : Ins Z h y K true) : Sto Z h a (.ref y) := by
  obtain ⟨cl, q, r⟩ := O; obtain ⟨cl', A, -⟩ := A; cases q.symm.trans A.1; exact Sto.ofVA A rfl r I
theorem Rch.newRA {j : Int32} {i cap : Nat} {ad : String} (X : Rch p l e R s m args below meth c S0 n0 k n h pc Ls (.int j :: st)) (C : Ctx p s m meth c Z a0 tb own bytes ml nm ret) (hC : (FieldType.array ty).toString = K) (wl : (Jvm.Cond.classLink own i K).before a0 Z = true) (wa : (Jvm.Cond.arrayOver (.array ty)).before a0 Z = true) (hj : j.toInt = (N : Int)) (hcap : N ≤ cap) (hcb : cap * 8 ≤ 536870912) (had : "[" ++ K = ad) (hd : decode bytes pc = .ok (.anewarray i, 3)) (hk : k + 1 ≤ R.cells) (hn : n + cap ≤ R.slots) (hp : pc + 3 = pc') :
    ∃ h', Rch p l e R s m args below meth c S0 n0 (k + 1) (n + cap) h' pc' Ls (.ref h.size :: st) ∧ Ext h h' ∧ Ary Z h' h.size (.array ty) N (fun _ => .null) ∧ Exa Z h' h.size ad ∧ OrrA Z h' h.size ty K := by
  subst hp
  obtain ⟨T, locs, Y, eT, N1, z, q⟩ := X
  have hn0 : ¬ j < 0 := by rw [Int32.lt_iff_toInt_lt, hj]; have : (0 : Int32).toInt = 0 := rfl; omega
  obtain ⟨T', h', cA, Y', e', E, A, Ex, O, st'⟩ := Jvm.RoadKit.newRA Y C.1 C.2.1 C.2.2.2.2.2.1 hC wl wa eT (g := mkF m pc Ls (.int j :: st)) rfl (hb C.2.2.2.1 hd) rfl hn0 (by rw [idx_nat hj]; exact hcap) hcb hk hn had
  have hN : N < 2 ^ 31 := by have := Int32.toInt_lt j; omega
  refine ⟨h', ⟨T', _, Y', e', N1, z, fun t kk => q t (st' t kk)⟩, E, ⟨_, A, by rw [sz_new, idx_nat hj], hN, fun i hi => ?_⟩, Ex, ⟨_, A.1, O⟩⟩
  simp [Jvm.RoadKit.newA, idx_nat hj, hi, defaultValue]
end ArrA
end WalkD
end Jvm.OwnKit

namespace Jvm.Pilot.@@N@@
open Jvm Jvm.ClassFile Sem Op Lib Jvm.Free Jvm.Stand Jvm.LawKit Jvm.RoadKit Bundle Jvm.OwnKit Jvm.Pilot.@@N@@.Jvm.D
/-! small facts on booleans and comparisons -/
def own_max (x y : Int64) : Int64 := if x < y then y else x
theorem own_max_pos (x : Int64) : 1 ≤ (own_max 1 x).toInt := by
  unfold own_max
  split
  · rename_i q; rw [Int64.lt_iff_toInt_lt] at q; have : (1 : Int64).toInt = 1 := rfl; omega
  · decide
theorem lcmp_lt (x y : Int64) : ifCond.holds .lt (lcmpW x y) = decide (x < y) := by rw [lcW]; simp only [ifCond.holds]; exact decide_eq_decide.mpr (lc_lt x y)
theorem lcmp_ge (x y : Int64) : ifCond.holds .ge (lcmpW x y) = decide (y ≤ x) := by rw [lcW]; simp only [ifCond.holds]; exact decide_eq_decide.mpr (lc_ge x y)
theorem lcmp_le (x y : Int64) : ifCond.holds .le (lcmpW x y) = decide (x ≤ y) := by rw [lcW]; simp only [ifCond.holds]; exact decide_eq_decide.mpr (lc_le x y)
theorem lcmp_ne (x y : Int64) : ifCond.holds .ne (lcmpW x y) = decide (¬ x = y) := by
  rw [lcW]
  by_cases q : x = y
  · subst q; simp [ifCond.holds, (lc_eq x x).mpr rfl]
  · simp [ifCond.holds, mt (lc_eq x y).mp q, q]
theorem lcmp_eq (x y : Int64) : ifCond.holds .eq (lcmpW x y) = decide (x = y) := by
  rw [lcW]
  by_cases q : x = y
  · subst q; simp [ifCond.holds, (lc_eq x x).mpr rfl]
  · simp [ifCond.holds, mt (lc_eq x y).mp q, q]
theorem h_ge (x : Int32) : ifCond.holds .ge x = decide (0 ≤ x.toInt) := by simp only [ifCond.holds]; exact decide_eq_decide.mpr (Int32.le_iff_toInt_le)
theorem h_lt (x : Int32) : ifCond.holds .lt x = decide (x.toInt < 0) := by simp only [ifCond.holds]; exact decide_eq_decide.mpr (Int32.lt_iff_toInt_lt)
theorem own_nle (x y : Int64) : decide (y < x) = !decide (x ≤ y) := by
  by_cases q : x ≤ y
  · rw [decide_eq_true q, decide_eq_false (Int64.not_lt.mpr q)]; rfl
  · rw [decide_eq_false q, decide_eq_true (Int64.not_le.mp q)]; rfl
theorem b_eq (b : Bool) : ifCond.holds .eq (own_b b) = !b := by cases b <;> decide
theorem b_ne (b : Bool) : ifCond.holds .ne (own_b b) = b := by cases b <;> decide
theorem bb_eq (a b : Bool) : if_icmp.holds .eq (own_b a) (own_b b) = (a == b) := by cases a <;> cases b <;> decide
theorem bb_ne (a b : Bool) : if_icmp.holds .ne (own_b a) (own_b b) = (a != b) := by cases a <;> cases b <;> decide
theorem b_and (a b : Bool) : own_b a &&& own_b b = own_b (a && b) := by cases a <;> cases b <;> decide
theorem b_or (a b : Bool) : own_b a ||| own_b b = own_b (a || b) := by cases a <;> cases b <;> decide
theorem nar_bz (b : Bool) : narrow .boolean (.int (own_b b)) = .int (own_b b) := by cases b <;> rfl
theorem fit_bz (b : Bool) : fits .boolean (.int (own_b b)) = true := by cases b <;> rfl
theorem own_bit (x : Int32) : ∃ t : Bool, ifCond.holds .eq x = !t := ⟨!ifCond.holds .eq x, by simp⟩
theorem h_le (x : Int32) : ifCond.holds .le x = !decide (0 < x) := by
  simp only [ifCond.holds]
  by_cases z : 0 < x
  · rw [decide_eq_true z, decide_eq_false (Int32.not_le.mpr z)]; rfl
  · rw [decide_eq_false z, decide_eq_true (Int32.not_lt.mp z)]; rfl
theorem own_tn {n : Nat} (h : n < 2 ^ 31) : n.toInt32.toInt = (n : Int) := len_toInt h
theorem own_madd (a b : Nat) : a.toInt32 + b.toInt32 = (a + b).toInt32 := (Int32.ofNat_add a b).symm
theorem own_mmul (a b : Nat) : a.toInt32 * b.toInt32 = (a * b).toInt32 := (Int32.ofNat_mul a b).symm
theorem own_msub {a b : Nat} (h : b ≤ a) : a.toInt32 - b.toInt32 = (a - b).toInt32 := by
  have q := own_madd (a - b) b
  rw [Nat.sub_add_cancel h] at q
  rw [← q, Int32.add_sub_cancel]
theorem own_mdiv {a b : Nat} (ha : a < 2 ^ 31) (hb : b < 2 ^ 31) (h0 : 0 < b) : a.toInt32 / b.toInt32 = (a / b).toInt32 := by
  apply Int32.toInt_inj.mp
  have e1 := own_tn ha
  have e2 := own_tn hb
  have hle : a / b ≤ a := Nat.div_le_self a b
  rw [(c_idiv a.toInt32 b.toInt32 b e2 (fun q => by rw [q] at e2; have : (-1 : Int32).toInt = -1 := rfl; omega)).1 (by omega), e1, own_tn (n := a / b) (by omega)]
  exact (Int.natCast_ediv a b).symm
theorem own_mrem {a b : Nat} (ha : a < 2 ^ 31) (hb : b < 2 ^ 31) (h0 : 0 < b) : a.toInt32 % b.toInt32 = (a % b).toInt32 := by
  apply Int32.toInt_inj.mp
  have e1 := own_tn ha
  have e2 := own_tn hb
  have hle : a % b < b := Nat.mod_lt a h0
  rw [(c_irem a.toInt32 b.toInt32 b e2).1 (by omega), e1, own_tn (n := a % b) (by omega)]
  exact (Int.natCast_emod a b).symm
theorem own_ge {a b : Nat} (ha : a < 2 ^ 31) (hb : b < 2 ^ 31) : if_icmp.holds .ge a.toInt32 b.toInt32 = decide (b ≤ a) := by
  have e1 := own_tn ha; have e2 := own_tn hb
  simp only [if_icmp.holds]
  refine decide_eq_decide.mpr ?_
  show b.toInt32 ≤ a.toInt32 ↔ _
  rw [Int32.le_iff_toInt_le, e1, e2]; omega
theorem own_lt {a b : Nat} (ha : a < 2 ^ 31) (hb : b < 2 ^ 31) : if_icmp.holds .lt a.toInt32 b.toInt32 = decide (a < b) := by
  have e1 := own_tn ha; have e2 := own_tn hb
  simp only [if_icmp.holds]
  refine decide_eq_decide.mpr ?_
  rw [Int32.lt_iff_toInt_lt, e1, e2]; omega
theorem own_oi (n : Nat) : n.toInt32 = Int32.ofInt (n : Int) := rfl
theorem own_oadd (S : Int) (b : Nat) : Int32.ofInt S + b.toInt32 = Int32.ofInt (S + (b : Int)) := by rw [own_oi, Int32.ofInt_add]
theorem own_osub (S : Int) (b : Nat) : Int32.ofInt S - b.toInt32 = Int32.ofInt (S - (b : Int)) := by rw [own_oi, Int32.ofInt_sub]
theorem own_otn {S : Int} (h1 : -2147483648 ≤ S) (h2 : S < 2147483648) : (Int32.ofInt S).toInt = S := Int32.toInt_ofInt_of_le h1 h2
theorem own_andn (x y : Int32) : ∃ n : Nat, n ≤ y.toBitVec.toNat ∧ x &&& y = n.toInt32 := by
  refine ⟨(x &&& y).toBitVec.toNat, ?_, ?_⟩
  · have e : (x &&& y).toBitVec = x.toBitVec &&& y.toBitVec := rfl
    rw [e, BitVec.toNat_and]
    exact Nat.and_le_right
  · exact Int32.toBitVec_inj.mp (by
      show _ = BitVec.ofNat 32 _
      simp)
theorem own_and3 (x : Int32) : ∃ n : Nat, n < 4 ∧ x &&& 3 = n.toInt32 := by
  obtain ⟨n, h1, h2⟩ := own_andn x 3
  exact ⟨n, Nat.lt_of_le_of_lt h1 (by decide), h2⟩
theorem own_andM (x : Int32) : ∃ n : Nat, n < 2 ^ 31 ∧ x &&& 2147483647 = n.toInt32 := by
  obtain ⟨n, h1, h2⟩ := own_andn x 2147483647
  exact ⟨n, Nat.lt_of_le_of_lt h1 (by decide), h2⟩
def Nf (g : Nat → Nat) : Nat → Value := fun i => .int (g i).toInt32
def Jf (g : Nat → Nat) : Nat → Value := fun i => .long (g i).toInt32.toInt64
def Df (g : Nat → Int) : Nat → Value := fun i => .double (FP.l2d (Int64.ofInt (g i)))
theorem upd_N (g : Nat → Nat) (i v : Nat) : updN (Nf g) i (.int v.toInt32) = Nf (updN g i v) := by funext j; simp only [updN, Nf]; split <;> rfl
theorem upd_D (g : Nat → Int) (i : Nat) (v : Int) : updN (Df g) i (.double (FP.l2d (Int64.ofInt v))) = Df (updN g i v) := by funext j; simp only [updN, Df]; split <;> rfl
theorem own_i2d (n : Nat) (h : n < 2 ^ 31) : FP.i2d n.toInt32 = FP.l2d (Int64.ofInt (n : Int)) := by
  rw [i2d_w]
  congr 1
  apply Int64.toInt_inj.mp
  rw [Int32.toInt_toInt64, own_tn h, Int64.toInt_ofInt_of_le (by omega) (by omega)]
theorem own_b53 {z : Int} (h1 : -100000 < z) (h2 : z < 100000) : B53 (Int64.ofInt z) := by
  unfold B53
  rw [Int64.toInt_ofInt_of_le (by omega) (by omega)]
  omega
theorem own_ofi {y z : Int} (h1 : -100000 < z) (h2 : z < 100000) (g1 : -100000 < y) (g2 : y < 100000) : Int64.ofInt y = Int64.ofInt z ↔ y = z := by
  constructor
  · intro q
    have := congrArg Int64.toInt q
    rw [Int64.toInt_ofInt_of_le (by omega) (by omega), Int64.toInt_ofInt_of_le (by omega) (by omega)] at this
    exact this
  · intro q; rw [q]
/-! the plain model of the odometer -/
def own_tri (x y z : Nat) : Nat → Nat := fun i => if i = 0 then x else if i = 1 then y else z
def own_m (r : Nat) : Nat := if r = 3 then 3 else if r = 2 then 4 else 10
def own_axf (r pi : Nat) : Nat → Nat := if r = 3 then (if pi = 0 then own_tri 0 1 2 else if pi = 1 then own_tri 0 2 1 else if pi = 2 then own_tri 1 0 2 else if pi = 3 then own_tri 1 2 0 else if pi = 4 then own_tri 2 0 1 else own_tri 2 1 0) else if r = 2 then (if pi = 1 then own_tri 1 0 0 else own_tri 0 1 0) else own_tri 0 0 0
def own_dm (r d0 d1 d2 : Nat) : Nat → Nat := own_tri (if 0 < r then d0 else 0) (if 1 < r then d1 else 0) (if 2 < r then d2 else 0)
def own_sd (r : Nat) (d : Nat → Nat) : Nat → Nat := if r = 3 then own_tri (1 * d 2 * d 1) (1 * d 2) 1 else if r = 2 then own_tri (1 * d 1) 1 0 else if r = 1 then own_tri 1 0 0 else own_tri 0 0 0
def own_cells (r : Nat) (d : Nat → Nat) : Nat := if r = 3 then 1 * d 2 * d 1 * d 0 else if r = 2 then 1 * d 1 * d 0 else if r = 1 then 1 * d 0 else 1
def own_s (r : Nat) (d : Nat → Nat) (k : Nat) : Nat := if k < 3 - r then 1 else d (k - (3 - r))
def own_a (r : Nat) (a : Nat → Nat) (k : Nat) : Nat := if k < 3 - r then k else (3 - r) + a (k - (3 - r))
def own_pz (r : Nat) (d a : Nat → Nat) (k : Nat) : Nat := own_s r d (own_a r a k)
def own_j (r : Nat) (d a : Nat → Nat) (c : Nat) : Nat → Nat := updN (updN (updN (fun _ => 0) (own_a r a 0) (c / (own_pz r d a 2 * own_pz r d a 1))) (own_a r a 1) (c / own_pz r d a 2 % own_pz r d a 1)) (own_a r a 2) (c % own_pz r d a 2)
def own_ix (r : Nat) (d a : Nat → Nat) (c : Nat) : Nat := (own_j r d a c 0 * own_s r d 1 + own_j r d a c 1) * own_s r d 2 + own_j r d a c 2
def own_in : Nat → (Nat → Nat) → (Nat → Nat) → (Nat → Nat) → Int → (Nat → Nat) × Int
  | 0, _, _, at_, src => (at_, src)
  | n + 1, sz, st, at_, src => if at_ n + 1 < sz n then (updN at_ n (at_ n + 1), src + (st n : Int)) else own_in n sz st (updN at_ n 0) (src + (st n : Int) - (st n : Int) * (sz n : Int))
def own_it (r : Nat) (sz st : Nat → Nat) : Nat → (Nat → Nat) × Int
  | 0 => (fun _ => 0, 0)
  | c + 1 => own_in r sz st (own_it r sz st c).1 (own_it r sz st c).2
def own_good (r : Nat) (d a : Nat → Nat) : Bool :=
  decide (own_cells r d ≤ 9) && (List.range (own_cells r d)).all fun c => decide ((own_it r (fun k => d (a k)) (fun k => own_sd r d (a k)) c).2 = (own_ix r d a c : Int)) && decide (own_ix r d a c ≤ 9) && decide (0 < own_pz r d a 1) && decide (0 < own_pz r d a 2)
set_option maxRecDepth 100000 in
theorem own_g3 : ∀ d0, d0 < 3 → ∀ d1, d1 < 3 → ∀ d2, d2 < 3 → ∀ pi, pi < 6 → own_good 3 (own_dm 3 d0 d1 d2) (own_axf 3 pi) = true := by decide +kernel
set_option maxRecDepth 100000 in
theorem own_g2 : ∀ d0, d0 < 4 → ∀ d1, d1 < 4 → ∀ pi, pi < 6 → own_good 2 (own_dm 2 d0 d1 0) (own_axf 2 pi) = true := by decide +kernel
set_option maxRecDepth 100000 in
theorem own_g1 : ∀ d0, d0 < 10 → own_good 1 (own_dm 1 d0 0 0) (own_axf 1 0) = true := by decide +kernel
theorem own_g0 : own_good 0 (own_dm 0 0 0 0) (own_axf 0 0) = true := by decide +kernel

theorem pd_0 : parseMethodDescriptor "(II[I)I" = some ⟨[.int, .int, (.array .int)], some .int⟩ := by decide +kernel
theorem pd_1 : parseMethodDescriptor "([DI[J[I[DI)V" = some ⟨[(.array .double), .int, (.array .long), (.array .int), (.array .double), .int], none⟩ := by decide +kernel
theorem pd_2 : parseMethodDescriptor "([DIIII[I[I[I)Z" = some ⟨[(.array .double), .int, .int, .int, .int, (.array .int), (.array .int), (.array .int)], some .boolean⟩ := by decide +kernel
theorem pf_1 : plainFor (⟨"com/example/lacuna_tensor/lacunatensor/DenseTensorPermuteCellsPinLaw", "padS", "(II[I)I"⟩ : MethodName) = true := by decide +kernel
theorem d1_0 : decode method_3_code 0 = .ok (.iload_n 0, 1) := by decide +kernel
theorem d1_1 : decode method_3_code 1 = .ok (.iload_n 1, 1) := by decide +kernel
theorem d1_2 : decode method_3_code 2 = .ok (.if_icmp .ge 7, 3) := by decide +kernel
theorem d1_5 : decode method_3_code 5 = .ok (.iconst 1, 1) := by decide +kernel
theorem d1_6 : decode method_3_code 6 = .ok (.goto 8, 3) := by decide +kernel
theorem d1_9 : decode method_3_code 9 = .ok (.aload_n 2, 1) := by decide +kernel
theorem d1_10 : decode method_3_code 10 = .ok (.iload_n 0, 1) := by decide +kernel
theorem d1_11 : decode method_3_code 11 = .ok (.iload_n 1, 1) := by decide +kernel
theorem d1_12 : decode method_3_code 12 = .ok (.isub, 1) := by decide +kernel
theorem d1_13 : decode method_3_code 13 = .ok (.iaload, 1) := by decide +kernel
theorem d1_14 : decode method_3_code 14 = .ok (.ireturn, 1) := by decide +kernel
theorem pf_2 : plainFor (⟨"com/example/lacuna_tensor/lacunatensor/DenseTensorPermuteCellsPinLaw", "padA", "(II[I)I"⟩ : MethodName) = true := by decide +kernel
theorem d2_0 : decode method_4_code 0 = .ok (.iload_n 0, 1) := by decide +kernel
theorem d2_1 : decode method_4_code 1 = .ok (.iload_n 1, 1) := by decide +kernel
theorem d2_2 : decode method_4_code 2 = .ok (.if_icmp .ge 7, 3) := by decide +kernel
theorem d2_5 : decode method_4_code 5 = .ok (.iload_n 0, 1) := by decide +kernel
theorem d2_6 : decode method_4_code 6 = .ok (.goto 10, 3) := by decide +kernel
theorem d2_9 : decode method_4_code 9 = .ok (.iload_n 1, 1) := by decide +kernel
theorem d2_10 : decode method_4_code 10 = .ok (.aload_n 2, 1) := by decide +kernel
theorem d2_11 : decode method_4_code 11 = .ok (.iload_n 0, 1) := by decide +kernel
theorem d2_12 : decode method_4_code 12 = .ok (.iload_n 1, 1) := by decide +kernel
theorem d2_13 : decode method_4_code 13 = .ok (.isub, 1) := by decide +kernel
theorem d2_14 : decode method_4_code 14 = .ok (.iaload, 1) := by decide +kernel
theorem d2_15 : decode method_4_code 15 = .ok (.iadd, 1) := by decide +kernel
theorem d2_16 : decode method_4_code 16 = .ok (.ireturn, 1) := by decide +kernel
theorem pf_3 : plainFor (⟨"com/example/lacuna_tensor/lacunatensor/DenseTensor", "permuteCells", "([DI[J[I[DI)V"⟩ : MethodName) = true := by decide +kernel
theorem d3_0 : decode prog_55_method_20_code 0 = .ok (.aload_n 2, 1) := by decide +kernel
theorem d3_1 : decode prog_55_method_20_code 1 = .ok (.arraylength, 1) := by decide +kernel
theorem d3_2 : decode prog_55_method_20_code 2 = .ok (.istore 6, 2) := by decide +kernel
theorem d3_4 : decode prog_55_method_20_code 4 = .ok (.iload 6, 2) := by decide +kernel
theorem d3_6 : decode prog_55_method_20_code 6 = .ok (.newarray .int, 2) := by decide +kernel
theorem d3_8 : decode prog_55_method_20_code 8 = .ok (.astore 7, 2) := by decide +kernel
theorem d3_10 : decode prog_55_method_20_code 10 = .ok (.iconst 1, 1) := by decide +kernel
theorem d3_11 : decode prog_55_method_20_code 11 = .ok (.istore 8, 2) := by decide +kernel
theorem d3_13 : decode prog_55_method_20_code 13 = .ok (.iload 6, 2) := by decide +kernel
theorem d3_15 : decode prog_55_method_20_code 15 = .ok (.iconst 1, 1) := by decide +kernel
theorem d3_16 : decode prog_55_method_20_code 16 = .ok (.isub, 1) := by decide +kernel
theorem d3_17 : decode prog_55_method_20_code 17 = .ok (.istore 9, 2) := by decide +kernel
theorem d3_19 : decode prog_55_method_20_code 19 = .ok (.iload 9, 2) := by decide +kernel
theorem d3_21 : decode prog_55_method_20_code 21 = .ok (.ifCond .lt 26, 3) := by decide +kernel
theorem d3_24 : decode prog_55_method_20_code 24 = .ok (.aload 7, 2) := by decide +kernel
theorem d3_26 : decode prog_55_method_20_code 26 = .ok (.iload 9, 2) := by decide +kernel
theorem d3_28 : decode prog_55_method_20_code 28 = .ok (.iload 8, 2) := by decide +kernel
theorem d3_30 : decode prog_55_method_20_code 30 = .ok (.iastore, 1) := by decide +kernel
theorem d3_31 : decode prog_55_method_20_code 31 = .ok (.iload 8, 2) := by decide +kernel
theorem d3_33 : decode prog_55_method_20_code 33 = .ok (.aload_n 2, 1) := by decide +kernel
theorem d3_34 : decode prog_55_method_20_code 34 = .ok (.iload 9, 2) := by decide +kernel
theorem d3_36 : decode prog_55_method_20_code 36 = .ok (.laload, 1) := by decide +kernel
theorem d3_37 : decode prog_55_method_20_code 37 = .ok (.l2i, 1) := by decide +kernel
theorem d3_38 : decode prog_55_method_20_code 38 = .ok (.imul, 1) := by decide +kernel
theorem d3_39 : decode prog_55_method_20_code 39 = .ok (.istore 8, 2) := by decide +kernel
theorem d3_41 : decode prog_55_method_20_code 41 = .ok (.iinc 9 (-1), 3) := by decide +kernel
theorem d3_44 : decode prog_55_method_20_code 44 = .ok (.goto (-25), 3) := by decide +kernel
theorem d3_47 : decode prog_55_method_20_code 47 = .ok (.iload 6, 2) := by decide +kernel
theorem d3_49 : decode prog_55_method_20_code 49 = .ok (.newarray .int, 2) := by decide +kernel
theorem d3_51 : decode prog_55_method_20_code 51 = .ok (.astore 9, 2) := by decide +kernel
theorem d3_53 : decode prog_55_method_20_code 53 = .ok (.iload 6, 2) := by decide +kernel
theorem d3_55 : decode prog_55_method_20_code 55 = .ok (.newarray .int, 2) := by decide +kernel
theorem d3_57 : decode prog_55_method_20_code 57 = .ok (.astore 10, 2) := by decide +kernel
theorem d3_59 : decode prog_55_method_20_code 59 = .ok (.iconst 0, 1) := by decide +kernel
theorem d3_60 : decode prog_55_method_20_code 60 = .ok (.istore 11, 2) := by decide +kernel
theorem d3_62 : decode prog_55_method_20_code 62 = .ok (.iload 11, 2) := by decide +kernel
theorem d3_64 : decode prog_55_method_20_code 64 = .ok (.iload 6, 2) := by decide +kernel
theorem d3_66 : decode prog_55_method_20_code 66 = .ok (.if_icmp .ge 33, 3) := by decide +kernel
theorem d3_69 : decode prog_55_method_20_code 69 = .ok (.aload 9, 2) := by decide +kernel
theorem d3_71 : decode prog_55_method_20_code 71 = .ok (.iload 11, 2) := by decide +kernel
theorem d3_73 : decode prog_55_method_20_code 73 = .ok (.aload_n 2, 1) := by decide +kernel
theorem d3_74 : decode prog_55_method_20_code 74 = .ok (.aload_n 3, 1) := by decide +kernel
theorem d3_75 : decode prog_55_method_20_code 75 = .ok (.iload 11, 2) := by decide +kernel
theorem d3_77 : decode prog_55_method_20_code 77 = .ok (.iaload, 1) := by decide +kernel
theorem d3_78 : decode prog_55_method_20_code 78 = .ok (.laload, 1) := by decide +kernel
theorem d3_79 : decode prog_55_method_20_code 79 = .ok (.l2i, 1) := by decide +kernel
theorem d3_80 : decode prog_55_method_20_code 80 = .ok (.iastore, 1) := by decide +kernel
theorem d3_81 : decode prog_55_method_20_code 81 = .ok (.aload 10, 2) := by decide +kernel
theorem d3_83 : decode prog_55_method_20_code 83 = .ok (.iload 11, 2) := by decide +kernel
theorem d3_85 : decode prog_55_method_20_code 85 = .ok (.aload 7, 2) := by decide +kernel
theorem d3_87 : decode prog_55_method_20_code 87 = .ok (.aload_n 3, 1) := by decide +kernel
theorem d3_88 : decode prog_55_method_20_code 88 = .ok (.iload 11, 2) := by decide +kernel
theorem d3_90 : decode prog_55_method_20_code 90 = .ok (.iaload, 1) := by decide +kernel
theorem d3_91 : decode prog_55_method_20_code 91 = .ok (.iaload, 1) := by decide +kernel
theorem d3_92 : decode prog_55_method_20_code 92 = .ok (.iastore, 1) := by decide +kernel
theorem d3_93 : decode prog_55_method_20_code 93 = .ok (.iinc 11 1, 3) := by decide +kernel
theorem d3_96 : decode prog_55_method_20_code 96 = .ok (.goto (-34), 3) := by decide +kernel
theorem d3_99 : decode prog_55_method_20_code 99 = .ok (.iload 6, 2) := by decide +kernel
theorem d3_101 : decode prog_55_method_20_code 101 = .ok (.newarray .int, 2) := by decide +kernel
theorem d3_103 : decode prog_55_method_20_code 103 = .ok (.astore 11, 2) := by decide +kernel
theorem d3_105 : decode prog_55_method_20_code 105 = .ok (.iload_n 1, 1) := by decide +kernel
theorem d3_106 : decode prog_55_method_20_code 106 = .ok (.istore 12, 2) := by decide +kernel
theorem d3_108 : decode prog_55_method_20_code 108 = .ok (.iconst 0, 1) := by decide +kernel
theorem d3_109 : decode prog_55_method_20_code 109 = .ok (.istore 13, 2) := by decide +kernel
theorem d3_111 : decode prog_55_method_20_code 111 = .ok (.iload 13, 2) := by decide +kernel
theorem d3_113 : decode prog_55_method_20_code 113 = .ok (.iload 8, 2) := by decide +kernel
theorem d3_115 : decode prog_55_method_20_code 115 = .ok (.if_icmp .ge 95, 3) := by decide +kernel
theorem d3_118 : decode prog_55_method_20_code 118 = .ok (.aload 4, 2) := by decide +kernel
theorem d3_120 : decode prog_55_method_20_code 120 = .ok (.iload 5, 2) := by decide +kernel
theorem d3_122 : decode prog_55_method_20_code 122 = .ok (.iload 13, 2) := by decide +kernel
theorem d3_124 : decode prog_55_method_20_code 124 = .ok (.iadd, 1) := by decide +kernel
theorem d3_125 : decode prog_55_method_20_code 125 = .ok (.aload_n 0, 1) := by decide +kernel
theorem d3_126 : decode prog_55_method_20_code 126 = .ok (.iload 12, 2) := by decide +kernel
theorem d3_128 : decode prog_55_method_20_code 128 = .ok (.daload, 1) := by decide +kernel
theorem d3_129 : decode prog_55_method_20_code 129 = .ok (.dastore, 1) := by decide +kernel
theorem d3_130 : decode prog_55_method_20_code 130 = .ok (.iload 6, 2) := by decide +kernel
theorem d3_132 : decode prog_55_method_20_code 132 = .ok (.iconst 1, 1) := by decide +kernel
theorem d3_133 : decode prog_55_method_20_code 133 = .ok (.isub, 1) := by decide +kernel
theorem d3_134 : decode prog_55_method_20_code 134 = .ok (.istore 14, 2) := by decide +kernel
theorem d3_136 : decode prog_55_method_20_code 136 = .ok (.iload 14, 2) := by decide +kernel
theorem d3_138 : decode prog_55_method_20_code 138 = .ok (.ifCond .lt 66, 3) := by decide +kernel
theorem d3_141 : decode prog_55_method_20_code 141 = .ok (.aload 11, 2) := by decide +kernel
theorem d3_143 : decode prog_55_method_20_code 143 = .ok (.iload 14, 2) := by decide +kernel
theorem d3_145 : decode prog_55_method_20_code 145 = .ok (.dup2, 1) := by decide +kernel
theorem d3_146 : decode prog_55_method_20_code 146 = .ok (.iaload, 1) := by decide +kernel
theorem d3_147 : decode prog_55_method_20_code 147 = .ok (.iconst 1, 1) := by decide +kernel
theorem d3_148 : decode prog_55_method_20_code 148 = .ok (.iadd, 1) := by decide +kernel
theorem d3_149 : decode prog_55_method_20_code 149 = .ok (.iastore, 1) := by decide +kernel
theorem d3_150 : decode prog_55_method_20_code 150 = .ok (.iload 12, 2) := by decide +kernel
theorem d3_152 : decode prog_55_method_20_code 152 = .ok (.aload 10, 2) := by decide +kernel
theorem d3_154 : decode prog_55_method_20_code 154 = .ok (.iload 14, 2) := by decide +kernel
theorem d3_156 : decode prog_55_method_20_code 156 = .ok (.iaload, 1) := by decide +kernel
theorem d3_157 : decode prog_55_method_20_code 157 = .ok (.iadd, 1) := by decide +kernel
theorem d3_158 : decode prog_55_method_20_code 158 = .ok (.istore 12, 2) := by decide +kernel
theorem d3_160 : decode prog_55_method_20_code 160 = .ok (.aload 11, 2) := by decide +kernel
theorem d3_162 : decode prog_55_method_20_code 162 = .ok (.iload 14, 2) := by decide +kernel
theorem d3_164 : decode prog_55_method_20_code 164 = .ok (.iaload, 1) := by decide +kernel
theorem d3_165 : decode prog_55_method_20_code 165 = .ok (.aload 9, 2) := by decide +kernel
theorem d3_167 : decode prog_55_method_20_code 167 = .ok (.iload 14, 2) := by decide +kernel
theorem d3_169 : decode prog_55_method_20_code 169 = .ok (.iaload, 1) := by decide +kernel
theorem d3_170 : decode prog_55_method_20_code 170 = .ok (.if_icmp .ge 6, 3) := by decide +kernel
theorem d3_173 : decode prog_55_method_20_code 173 = .ok (.goto 31, 3) := by decide +kernel
theorem d3_176 : decode prog_55_method_20_code 176 = .ok (.aload 11, 2) := by decide +kernel
theorem d3_178 : decode prog_55_method_20_code 178 = .ok (.iload 14, 2) := by decide +kernel
theorem d3_180 : decode prog_55_method_20_code 180 = .ok (.iconst 0, 1) := by decide +kernel
theorem d3_181 : decode prog_55_method_20_code 181 = .ok (.iastore, 1) := by decide +kernel
theorem d3_182 : decode prog_55_method_20_code 182 = .ok (.iload 12, 2) := by decide +kernel
theorem d3_184 : decode prog_55_method_20_code 184 = .ok (.aload 10, 2) := by decide +kernel
theorem d3_186 : decode prog_55_method_20_code 186 = .ok (.iload 14, 2) := by decide +kernel
theorem d3_188 : decode prog_55_method_20_code 188 = .ok (.iaload, 1) := by decide +kernel
theorem d3_189 : decode prog_55_method_20_code 189 = .ok (.aload 9, 2) := by decide +kernel
theorem d3_191 : decode prog_55_method_20_code 191 = .ok (.iload 14, 2) := by decide +kernel
theorem d3_193 : decode prog_55_method_20_code 193 = .ok (.iaload, 1) := by decide +kernel
theorem d3_194 : decode prog_55_method_20_code 194 = .ok (.imul, 1) := by decide +kernel
theorem d3_195 : decode prog_55_method_20_code 195 = .ok (.isub, 1) := by decide +kernel
theorem d3_196 : decode prog_55_method_20_code 196 = .ok (.istore 12, 2) := by decide +kernel
theorem d3_198 : decode prog_55_method_20_code 198 = .ok (.iinc 14 (-1), 3) := by decide +kernel
theorem d3_201 : decode prog_55_method_20_code 201 = .ok (.goto (-65), 3) := by decide +kernel
theorem d3_204 : decode prog_55_method_20_code 204 = .ok (.iinc 13 1, 3) := by decide +kernel
theorem d3_207 : decode prog_55_method_20_code 207 = .ok (.goto (-96), 3) := by decide +kernel
theorem d3_210 : decode prog_55_method_20_code 210 = .ok (.return_, 1) := by decide +kernel
theorem pf_4 : plainFor (⟨"com/example/lacuna_tensor/lacunatensor/DenseTensorPermuteCellsPinLaw", "ok", "([DIIII[I[I[I)Z"⟩ : MethodName) = true := by decide +kernel
theorem d4_0 : decode method_5_code 0 = .ok (.iload_n 1, 1) := by decide +kernel
theorem d4_1 : decode method_5_code 1 = .ok (.iload_n 2, 1) := by decide +kernel
theorem d4_2 : decode method_5_code 2 = .ok (.isub, 1) := by decide +kernel
theorem d4_3 : decode method_5_code 3 = .ok (.istore 10, 2) := by decide +kernel
theorem d4_5 : decode method_5_code 5 = .ok (.iload 10, 2) := by decide +kernel
theorem d4_7 : decode method_5_code 7 = .ok (.ifCond .lt 9, 3) := by decide +kernel
theorem d4_10 : decode method_5_code 10 = .ok (.iload 10, 2) := by decide +kernel
theorem d4_12 : decode method_5_code 12 = .ok (.iload_n 3, 1) := by decide +kernel
theorem d4_13 : decode method_5_code 13 = .ok (.if_icmp .lt 13, 3) := by decide +kernel
theorem d4_16 : decode method_5_code 16 = .ok (.iload_n 1, 1) := by decide +kernel
theorem d4_17 : decode method_5_code 17 = .ok (.iconst 1, 1) := by decide +kernel
theorem d4_18 : decode method_5_code 18 = .ok (.iadd, 1) := by decide +kernel
theorem d4_19 : decode method_5_code 19 = .ok (.ineg, 1) := by decide +kernel
theorem d4_20 : decode method_5_code 20 = .ok (.i2d, 1) := by decide +kernel
theorem d4_21 : decode method_5_code 21 = .ok (.dstore 8, 2) := by decide +kernel
theorem d4_23 : decode method_5_code 23 = .ok (.goto 108, 3) := by decide +kernel
theorem d4_26 : decode method_5_code 26 = .ok (.iload 10, 2) := by decide +kernel
theorem d4_28 : decode method_5_code 28 = .ok (.aload 7, 2) := by decide +kernel
theorem d4_30 : decode method_5_code 30 = .ok (.iconst 2, 1) := by decide +kernel
theorem d4_31 : decode method_5_code 31 = .ok (.iaload, 1) := by decide +kernel
theorem d4_32 : decode method_5_code 32 = .ok (.irem, 1) := by decide +kernel
theorem d4_33 : decode method_5_code 33 = .ok (.istore 11, 2) := by decide +kernel
theorem d4_35 : decode method_5_code 35 = .ok (.iload 10, 2) := by decide +kernel
theorem d4_37 : decode method_5_code 37 = .ok (.aload 7, 2) := by decide +kernel
theorem d4_39 : decode method_5_code 39 = .ok (.iconst 2, 1) := by decide +kernel
theorem d4_40 : decode method_5_code 40 = .ok (.iaload, 1) := by decide +kernel
theorem d4_41 : decode method_5_code 41 = .ok (.idiv, 1) := by decide +kernel
theorem d4_42 : decode method_5_code 42 = .ok (.aload 7, 2) := by decide +kernel
theorem d4_44 : decode method_5_code 44 = .ok (.iconst 1, 1) := by decide +kernel
theorem d4_45 : decode method_5_code 45 = .ok (.iaload, 1) := by decide +kernel
theorem d4_46 : decode method_5_code 46 = .ok (.irem, 1) := by decide +kernel
theorem d4_47 : decode method_5_code 47 = .ok (.istore 12, 2) := by decide +kernel
theorem d4_49 : decode method_5_code 49 = .ok (.iload 10, 2) := by decide +kernel
theorem d4_51 : decode method_5_code 51 = .ok (.aload 7, 2) := by decide +kernel
theorem d4_53 : decode method_5_code 53 = .ok (.iconst 2, 1) := by decide +kernel
theorem d4_54 : decode method_5_code 54 = .ok (.iaload, 1) := by decide +kernel
theorem d4_55 : decode method_5_code 55 = .ok (.aload 7, 2) := by decide +kernel
theorem d4_57 : decode method_5_code 57 = .ok (.iconst 1, 1) := by decide +kernel
theorem d4_58 : decode method_5_code 58 = .ok (.iaload, 1) := by decide +kernel
theorem d4_59 : decode method_5_code 59 = .ok (.imul, 1) := by decide +kernel
theorem d4_60 : decode method_5_code 60 = .ok (.idiv, 1) := by decide +kernel
theorem d4_61 : decode method_5_code 61 = .ok (.istore 13, 2) := by decide +kernel
theorem d4_63 : decode method_5_code 63 = .ok (.iconst 3, 1) := by decide +kernel
theorem d4_64 : decode method_5_code 64 = .ok (.newarray .int, 2) := by decide +kernel
theorem d4_66 : decode method_5_code 66 = .ok (.astore 14, 2) := by decide +kernel
theorem d4_68 : decode method_5_code 68 = .ok (.aload 14, 2) := by decide +kernel
theorem d4_70 : decode method_5_code 70 = .ok (.aload 6, 2) := by decide +kernel
theorem d4_72 : decode method_5_code 72 = .ok (.iconst 0, 1) := by decide +kernel
theorem d4_73 : decode method_5_code 73 = .ok (.iaload, 1) := by decide +kernel
theorem d4_74 : decode method_5_code 74 = .ok (.iload 13, 2) := by decide +kernel
theorem d4_76 : decode method_5_code 76 = .ok (.iastore, 1) := by decide +kernel
theorem d4_77 : decode method_5_code 77 = .ok (.aload 14, 2) := by decide +kernel
theorem d4_79 : decode method_5_code 79 = .ok (.aload 6, 2) := by decide +kernel
theorem d4_81 : decode method_5_code 81 = .ok (.iconst 1, 1) := by decide +kernel
theorem d4_82 : decode method_5_code 82 = .ok (.iaload, 1) := by decide +kernel
theorem d4_83 : decode method_5_code 83 = .ok (.iload 12, 2) := by decide +kernel
theorem d4_85 : decode method_5_code 85 = .ok (.iastore, 1) := by decide +kernel
theorem d4_86 : decode method_5_code 86 = .ok (.aload 14, 2) := by decide +kernel
theorem d4_88 : decode method_5_code 88 = .ok (.aload 6, 2) := by decide +kernel
theorem d4_90 : decode method_5_code 90 = .ok (.iconst 2, 1) := by decide +kernel
theorem d4_91 : decode method_5_code 91 = .ok (.iaload, 1) := by decide +kernel
theorem d4_92 : decode method_5_code 92 = .ok (.iload 11, 2) := by decide +kernel
theorem d4_94 : decode method_5_code 94 = .ok (.iastore, 1) := by decide +kernel
theorem d4_95 : decode method_5_code 95 = .ok (.aload 14, 2) := by decide +kernel
theorem d4_97 : decode method_5_code 97 = .ok (.iconst 0, 1) := by decide +kernel
theorem d4_98 : decode method_5_code 98 = .ok (.iaload, 1) := by decide +kernel
theorem d4_99 : decode method_5_code 99 = .ok (.aload 5, 2) := by decide +kernel
theorem d4_101 : decode method_5_code 101 = .ok (.iconst 1, 1) := by decide +kernel
theorem d4_102 : decode method_5_code 102 = .ok (.iaload, 1) := by decide +kernel
theorem d4_103 : decode method_5_code 103 = .ok (.imul, 1) := by decide +kernel
theorem d4_104 : decode method_5_code 104 = .ok (.aload 14, 2) := by decide +kernel
theorem d4_106 : decode method_5_code 106 = .ok (.iconst 1, 1) := by decide +kernel
theorem d4_107 : decode method_5_code 107 = .ok (.iaload, 1) := by decide +kernel
theorem d4_108 : decode method_5_code 108 = .ok (.iadd, 1) := by decide +kernel
theorem d4_109 : decode method_5_code 109 = .ok (.aload 5, 2) := by decide +kernel
theorem d4_111 : decode method_5_code 111 = .ok (.iconst 2, 1) := by decide +kernel
theorem d4_112 : decode method_5_code 112 = .ok (.iaload, 1) := by decide +kernel
theorem d4_113 : decode method_5_code 113 = .ok (.imul, 1) := by decide +kernel
theorem d4_114 : decode method_5_code 114 = .ok (.aload 14, 2) := by decide +kernel
theorem d4_116 : decode method_5_code 116 = .ok (.iconst 2, 1) := by decide +kernel
theorem d4_117 : decode method_5_code 117 = .ok (.iaload, 1) := by decide +kernel
theorem d4_118 : decode method_5_code 118 = .ok (.iadd, 1) := by decide +kernel
theorem d4_119 : decode method_5_code 119 = .ok (.istore 15, 2) := by decide +kernel
theorem d4_121 : decode method_5_code 121 = .ok (.iload 4, 2) := by decide +kernel
theorem d4_123 : decode method_5_code 123 = .ok (.iload 15, 2) := by decide +kernel
theorem d4_125 : decode method_5_code 125 = .ok (.iadd, 1) := by decide +kernel
theorem d4_126 : decode method_5_code 126 = .ok (.iconst 1, 1) := by decide +kernel
theorem d4_127 : decode method_5_code 127 = .ok (.iadd, 1) := by decide +kernel
theorem d4_128 : decode method_5_code 128 = .ok (.i2d, 1) := by decide +kernel
theorem d4_129 : decode method_5_code 129 = .ok (.dstore 8, 2) := by decide +kernel
theorem d4_131 : decode method_5_code 131 = .ok (.aload_n 0, 1) := by decide +kernel
theorem d4_132 : decode method_5_code 132 = .ok (.iload_n 1, 1) := by decide +kernel
theorem d4_133 : decode method_5_code 133 = .ok (.daload, 1) := by decide +kernel
theorem d4_134 : decode method_5_code 134 = .ok (.dload 8, 2) := by decide +kernel
theorem d4_136 : decode method_5_code 136 = .ok (.dcmp .l, 1) := by decide +kernel
theorem d4_137 : decode method_5_code 137 = .ok (.ifCond .ne 7, 3) := by decide +kernel
theorem d4_140 : decode method_5_code 140 = .ok (.iconst 1, 1) := by decide +kernel
theorem d4_141 : decode method_5_code 141 = .ok (.goto 4, 3) := by decide +kernel
theorem d4_144 : decode method_5_code 144 = .ok (.iconst 0, 1) := by decide +kernel
theorem d4_145 : decode method_5_code 145 = .ok (.ireturn, 1) := by decide +kernel
theorem pf_0 : plainFor x = true := plainFor_of_name (by show plainName "com/example/lacuna_tensor/lacunatensor/DenseTensorPermuteCellsPinLaw" = true; simp [plainName, overriddenIn])
set_option maxRecDepth 65536 in
set_option maxHeartbeats 40000000 in
theorem con_padS (l : Launch) (Z : State) (a0 : Array Value) (hw : ∀ d ∈ tables_1, d.before a0 Z = true) (k f : Nat) (hk : k < 3) (hf : f < 4) (D : Addr) (d : Nat → Nat) (h0 : Heap) (n0 : Nat) (z0 : n0 ≤ h0.size) (A : Ary Z h0 D .int 3 (Nf d)) :
    Con l Z (⟨"com/example/lacuna_tensor/lacunatensor/DenseTensorPermuteCellsPinLaw", "padS", "(II[I)I"⟩ : MethodName) method_3_code 3 (some .int) ({ frames := 0, cells := 0, slots := 0, locals := 0 } : Room) #[(.int k.toInt32), (.int f.toInt32), (.ref D)] h0 n0 (fun v h' => v = some (.int (Nat.toInt32 (if k < f then 1 else d (k - f)))) ∧ h0 = h') := by
  refine Con.mk (tb := tables_1) (a0 := a0) (Ls := #[.val (.int k.toInt32), .val (.int f.toInt32), .val (.ref D)]) pf_1 hw z0 (fun m => by first | (simp [entryFrame, mkF, argsToLocals, Value.category, maxLocals]; done) | rfl) ?_
  intro p e s m below meth c S0 C R
  replace R := R.iloadN C (pc' := 1) d1_0 rfl rfl
  replace R := R.iloadN C (pc' := 2) d1_1 rfl rfl
  by_cases q : k < f
  · skip
    replace R := R.icmpN C (pc' := 5) d1_2 (by rw [own_ge (by omega) (by omega)]; exact decide_eq_false (by omega)) rfl
    replace R := R.iconst C (pc' := 6) d1_5 (v := (1 : Int32)) rfl rfl
    replace R := R.goto C (pc' := 14) d1_6 rfl
    exact R.retI C d1_14 ⟨by first | (rw [if_pos q]; done) | (rw [if_pos q]; rfl), rfl⟩ (by decide) (by decide)
  · skip
    replace R := R.icmpY C (pc' := 9) d1_2 (by rw [own_ge (by omega) (by omega)]; exact decide_eq_true (by omega)) rfl
    replace R := R.aloadN C (pc' := 10) d1_9 rfl rfl rfl
    replace R := R.iloadN C (pc' := 11) d1_10 rfl rfl
    replace R := R.iloadN C (pc' := 12) d1_11 rfl rfl
    replace R := R.isub C (pc' := 13) d1_12 rfl
    rw [own_msub (show f ≤ k by omega)] at R
    replace R := R.iaload C (v := (.int (d (k - f)).toInt32)) A (i := k - f) (own_tn (by omega)) (by omega) rfl (pc' := 14) d1_13 rfl
    exact R.retI C d1_14 ⟨by rw [if_neg q], rfl⟩ (by decide) (by decide)
set_option maxRecDepth 65536 in
set_option maxHeartbeats 40000000 in
theorem con_padA (l : Launch) (Z : State) (a0 : Array Value) (hw : ∀ d ∈ tables_1, d.before a0 Z = true) (k f : Nat) (hk : k < 3) (hf : f < 4) (D : Addr) (d : Nat → Nat) (h0 : Heap) (n0 : Nat) (z0 : n0 ≤ h0.size) (A : Ary Z h0 D .int 3 (Nf d)) :
    Con l Z (⟨"com/example/lacuna_tensor/lacunatensor/DenseTensorPermuteCellsPinLaw", "padA", "(II[I)I"⟩ : MethodName) method_4_code 3 (some .int) ({ frames := 0, cells := 0, slots := 0, locals := 0 } : Room) #[(.int k.toInt32), (.int f.toInt32), (.ref D)] h0 n0 (fun v h' => v = some (.int (Nat.toInt32 (if k < f then k else f + d (k - f)))) ∧ h0 = h') := by
  refine Con.mk (tb := tables_1) (a0 := a0) (Ls := #[.val (.int k.toInt32), .val (.int f.toInt32), .val (.ref D)]) pf_2 hw z0 (fun m => by first | (simp [entryFrame, mkF, argsToLocals, Value.category, maxLocals]; done) | rfl) ?_
  intro p e s m below meth c S0 C R
  replace R := R.iloadN C (pc' := 1) d2_0 rfl rfl
  replace R := R.iloadN C (pc' := 2) d2_1 rfl rfl
  by_cases q : k < f
  · skip
    replace R := R.icmpN C (pc' := 5) d2_2 (by rw [own_ge (by omega) (by omega)]; exact decide_eq_false (by omega)) rfl
    replace R := R.iloadN C (pc' := 6) d2_5 rfl rfl
    replace R := R.goto C (pc' := 16) d2_6 rfl
    exact R.retI C d2_16 ⟨by first | (rw [if_pos q]; done) | (rw [if_pos q]; rfl), rfl⟩ (by decide) (by decide)
  · skip
    replace R := R.icmpY C (pc' := 9) d2_2 (by rw [own_ge (by omega) (by omega)]; exact decide_eq_true (by omega)) rfl
    replace R := R.iloadN C (pc' := 10) d2_9 rfl rfl
    replace R := R.aloadN C (pc' := 11) d2_10 rfl rfl rfl
    replace R := R.iloadN C (pc' := 12) d2_11 rfl rfl
    replace R := R.iloadN C (pc' := 13) d2_12 rfl rfl
    replace R := R.isub C (pc' := 14) d2_13 rfl
    rw [own_msub (show f ≤ k by omega)] at R
    replace R := R.iaload C (v := (.int (d (k - f)).toInt32)) A (i := k - f) (own_tn (by omega)) (by omega) rfl (pc' := 15) d2_14 rfl
    replace R := R.iadd C (pc' := 16) d2_15 rfl
    rw [own_madd] at R
    exact R.retI C d2_16 ⟨by rw [if_neg q], rfl⟩ (by decide) (by decide)
theorem own_up1 {at_ : Nat → Nat} {r n v : Nat} (h : ∀ k, k < r → at_ k ≤ 9) (hv : v ≤ 9) : ∀ k, k < r → updN at_ n v k ≤ 9 := by
  intro k hk
  simp only [updN]
  split
  · exact hv
  · exact h k hk
theorem own_upup (at_ : Nat → Nat) (n v : Nat) : ∀ i, updN (updN at_ n v) n 0 i = updN at_ n 0 i := by
  intro i; simp only [updN]; split <;> rfl
set_option maxRecDepth 65536 in
set_option maxHeartbeats 40000000 in
theorem pc_in {p : Program} {l : Launch} {e : Env} {s : State} {m : MethodId} {as' : Array Value} {below : List Frame} {meth : Method} {c : Code} {S0 : State} {n0 : Nat} {Z : State} {a0 : Array Value} (hw : ∀ d ∈ tables_1, d.before a0 Z = true) (C : Ctx p s m meth c Z a0 tables_1 "com/example/lacuna_tensor/lacunatensor/DenseTensor" prog_55_method_20_code 15 "permuteCells" none) (F SH AX T SD SZ ST AT : Addr) (fs ts r cells : Nat) (hr : r < 4) (sz st : Nat → Nat) (hsz : ∀ k, k < r → sz k ≤ 9) (gA : n0 ≤ AT) (nZ : SZ ≠ AT) (nT : ST ≠ AT) (cv : Int32) :
    ∀ (n : Nat), n ≤ r → ∀ (at_ : Nat → Nat) (S : Int) (h : Heap), (∀ k, k < r → at_ k ≤ 9) → Ary Z h SZ .int r (Nf sz) → Ary Z h ST .int r (Nf st) → Ary Z h AT .int r (Nf at_) → Rch p l e ({ frames := 0, cells := 4, slots := 12, locals := 0 } : Room) s m as' below meth c S0 n0 4 12 h 136 #[.val (.ref F), .val (.int fs.toInt32), .val (.ref SH), .val (.ref AX), .val (.ref T), .val (.int ts.toInt32), .val (.int r.toInt32), .val (.ref SD), .val (.int cells.toInt32), .val (.ref SZ), .val (.ref ST), .val (.ref AT), .val (.int (Int32.ofInt S)), .val (.int cv), .val (.int (Int32.ofInt ((n : Int) - 1)))] [] →
      ∃ (h' : Heap) (j : Int32), (∀ k, k < r → (own_in n sz st at_ S).1 k ≤ 9) ∧ Keep h h' [AT] ∧ Ary Z h' AT .int r (Nf (own_in n sz st at_ S).1) ∧ Rch p l e ({ frames := 0, cells := 4, slots := 12, locals := 0 } : Room) s m as' below meth c S0 n0 4 12 h' 204 #[.val (.ref F), .val (.int fs.toInt32), .val (.ref SH), .val (.ref AX), .val (.ref T), .val (.int ts.toInt32), .val (.int r.toInt32), .val (.ref SD), .val (.int cells.toInt32), .val (.ref SZ), .val (.ref ST), .val (.ref AT), .val (.int (Int32.ofInt (own_in n sz st at_ S).2)), .val (.int cv), .val (.int j)] [] := by
  intro n
  induction n with
  | zero =>
    intro _ at_ S h hat AZ AT_ AA R
    replace R := R.iload C (pc' := 138) d3_136 rfl rfl
    replace R := R.ifY C (pc' := 204) d3_138 rfl rfl
    exact ⟨h, _, hat, Keep.refl h [AT], AA, R⟩
  | succ n ih =>
    intro hn at_ S h hat AZ AT_ AA R
    have e14 : Int32.ofInt (((n + 1 : Nat) : Int) - 1) = n.toInt32 := by rw [own_oi]; congr 1; omega
    rw [e14] at R
    have tn := own_tn (n := n) (by omega)
    have hz := hsz n (by omega)
    have ha := hat n (by omega)
    have K := Keep.refl h [AT]
    replace R := R.iload C (pc' := 138) d3_136 rfl rfl
    replace R := R.ifN C (pc' := 141) d3_138 (by rw [h_lt]; exact decide_eq_false (by rw [tn]; omega)) rfl
    replace R := R.aload C (pc' := 143) d3_141 rfl rfl rfl
    replace R := R.iload C (pc' := 145) d3_143 rfl rfl
    replace R := R.dup2 C (pc' := 146) d3_145 rfl rfl rfl
    replace R := R.iaload C (v := (.int (at_ n).toInt32)) AA tn (by omega) rfl (pc' := 147) d3_146 rfl
    replace R := R.iconst C (pc' := 148) d3_147 (v := (1 : Int32)) rfl rfl
    replace R := R.iadd C (pc' := 149) d3_148 rfl
    rw [show (at_ n).toInt32 + (1 : Int32) = (at_ n + 1).toInt32 from own_madd (at_ n) 1] at R
    obtain ⟨h1, R', W1⟩ := R.iastore C AA (i := n) tn (by omega) gA (pc' := 150) d3_149 rfl
    replace R := R'
    clear R'
    replace AA := AA.set W1
    rw [upd_N] at AA
    replace AZ := AZ.other W1 nZ
    replace AT_ := AT_.other W1 nT
    replace K := K.wr W1 (Or.inl (List.mem_of_getElem? (i := 0) rfl))
    replace R := R.iload C (pc' := 152) d3_150 rfl rfl
    replace R := R.aload C (pc' := 154) d3_152 rfl rfl rfl
    replace R := R.iload C (pc' := 156) d3_154 rfl rfl
    replace R := R.iaload C (v := (.int (st n).toInt32)) AT_ tn (by omega) rfl (pc' := 157) d3_156 rfl
    replace R := R.iadd C (pc' := 158) d3_157 rfl
    rw [own_oadd] at R
    replace R := R.istore C (Ls' := #[.val (.ref F), .val (.int fs.toInt32), .val (.ref SH), .val (.ref AX), .val (.ref T), .val (.int ts.toInt32), .val (.int r.toInt32), .val (.ref SD), .val (.int cells.toInt32), .val (.ref SZ), .val (.ref ST), .val (.ref AT), .val (.int (Int32.ofInt (S + (st n : Int)))), .val (.int cv), .val (.int n.toInt32)]) (pc' := 160) d3_158 rfl rfl
    replace R := R.aload C (pc' := 162) d3_160 rfl rfl rfl
    replace R := R.iload C (pc' := 164) d3_162 rfl rfl
    replace R := R.iaload C (v := (.int (at_ n + 1).toInt32)) AA tn (by omega) (by simp only [Nf, updN, if_true]) (pc' := 165) d3_164 rfl
    replace R := R.aload C (pc' := 167) d3_165 rfl rfl rfl
    replace R := R.iload C (pc' := 169) d3_167 rfl rfl
    replace R := R.iaload C (v := (.int (sz n).toInt32)) AZ tn (by omega) rfl (pc' := 170) d3_169 rfl
    by_cases q : at_ n + 1 < sz n
    · skip
      replace R := R.icmpN C (pc' := 173) d3_170 (by rw [own_ge (by omega) (by omega)]; exact decide_eq_false (by omega)) rfl
      replace R := R.goto C (pc' := 204) d3_173 rfl
      have e : own_in (n + 1) sz st at_ S = (updN at_ n (at_ n + 1), S + (st n : Int)) := by rw [own_in, if_pos q]
      rw [e]
      exact ⟨h1, _, own_up1 hat (by omega), K, AA, R⟩
    · skip
      replace R := R.icmpY C (pc' := 176) d3_170 (by rw [own_ge (by omega) (by omega)]; exact decide_eq_true (by omega)) rfl
      replace R := R.aload C (pc' := 178) d3_176 rfl rfl rfl
      replace R := R.iload C (pc' := 180) d3_178 rfl rfl
      replace R := R.iconst C (pc' := 181) d3_180 (v := (0 : Int32)) rfl rfl
      replace R := R.as (st' := [(.int (Nat.toInt32 0)), (.int n.toInt32), (.ref AT)]) rfl
      obtain ⟨h2, R', W2⟩ := R.iastore C AA (i := n) tn (by omega) gA (pc' := 182) d3_181 rfl
      replace R := R'
      clear R'
      replace AA := AA.set W2
      rw [upd_N] at AA
      replace AZ := AZ.other W2 nZ
      replace AT_ := AT_.other W2 nT
      replace K := K.wr W2 (Or.inl (List.mem_of_getElem? (i := 0) rfl))
      replace AA : Ary Z h2 AT .int r (Nf (updN at_ n 0)) := AA.of fun i _ => congrArg (fun z => Value.int (Nat.toInt32 z)) (own_upup at_ n _ i)
      replace R := R.iload C (pc' := 184) d3_182 rfl rfl
      replace R := R.aload C (pc' := 186) d3_184 rfl rfl rfl
      replace R := R.iload C (pc' := 188) d3_186 rfl rfl
      replace R := R.iaload C (v := (.int (st n).toInt32)) AT_ tn (by omega) rfl (pc' := 189) d3_188 rfl
      replace R := R.aload C (pc' := 191) d3_189 rfl rfl rfl
      replace R := R.iload C (pc' := 193) d3_191 rfl rfl
      replace R := R.iaload C (v := (.int (sz n).toInt32)) AZ tn (by omega) rfl (pc' := 194) d3_193 rfl
      replace R := R.imul C (pc' := 195) d3_194 rfl
      replace R := R.isub C (pc' := 196) d3_195 rfl
      rw [own_mmul, own_osub, Int.natCast_mul] at R
      replace R := R.istore C (Ls' := #[.val (.ref F), .val (.int fs.toInt32), .val (.ref SH), .val (.ref AX), .val (.ref T), .val (.int ts.toInt32), .val (.int r.toInt32), .val (.ref SD), .val (.int cells.toInt32), .val (.ref SZ), .val (.ref ST), .val (.ref AT), .val (.int (Int32.ofInt (S + (st n : Int) - (st n : Int) * (sz n : Int)))), .val (.int cv), .val (.int n.toInt32)]) (pc' := 198) d3_196 rfl rfl
      replace R := R.iinc C (pc' := 201) (Ls' := #[.val (.ref F), .val (.int fs.toInt32), .val (.ref SH), .val (.ref AX), .val (.ref T), .val (.int ts.toInt32), .val (.int r.toInt32), .val (.ref SD), .val (.int cells.toInt32), .val (.ref SZ), .val (.ref ST), .val (.ref AT), .val (.int (Int32.ofInt (S + (st n : Int) - (st n : Int) * (sz n : Int)))), .val (.int cv), .val (.int (Int32.ofInt ((n : Int) - 1)))]) d3_198 rfl (v := (Int32.ofInt ((n : Int) - 1))) (by rw [own_oi, ← Int32.ofInt_add]; rfl) rfl rfl
      replace R := R.goto C (pc' := 136) d3_201 rfl
      obtain ⟨h', j, k1, K', A', R'⟩ := ih (by omega) (updN at_ n 0) _ h2 (own_up1 hat (by omega)) AZ AT_ AA R
      have e : own_in (n + 1) sz st at_ S = own_in n sz st (updN at_ n 0) (S + (st n : Int) - (st n : Int) * (sz n : Int)) := by rw [own_in, if_neg q]
      rw [e]
      exact ⟨h', j, k1, K.trans K' (allS (Or.inl (List.mem_of_getElem? (i := 0) rfl)) all0), A', R'⟩
def own_tv (fs ts : Nat) (off : Nat → Int) (tv : Nat → Int) (c : Nat) : Nat → Int := fun q => if ts ≤ q ∧ q < ts + c then (fs : Int) + off (q - ts) + 1 else tv q
theorem own_tv_s (fs ts : Nat) (off tv : Nat → Int) (c : Nat) : ∀ q, updN (own_tv fs ts off tv c) (ts + c) ((fs : Int) + off c + 1) q = own_tv fs ts off tv (c + 1) q := by
  intro q
  simp only [updN, own_tv]
  by_cases e : q = ts + c
  · subst e; rw [if_pos rfl, if_pos (by omega), show ts + c - ts = c by omega]
  · rw [if_neg e]
    by_cases g : ts ≤ q ∧ q < ts + c
    · rw [if_pos g, if_pos (by omega)]
    · rw [if_neg g, if_neg (by omega)]
theorem own_shift (n : Nat) (sz st at_ : Nat → Nat) (S : Int) (f : Nat) : own_in n sz st at_ ((f : Int) + S) = ((own_in n sz st at_ S).1, (f : Int) + (own_in n sz st at_ S).2) := by
  induction n generalizing at_ S with
  | zero => rfl
  | succ n ih =>
    rw [own_in, own_in]
    by_cases q : at_ n + 1 < sz n
    · rw [if_pos q, if_pos q]; exact Prod.ext rfl (by show (f : Int) + S + _ = (f : Int) + (S + _); omega)
    · rw [if_neg q, if_neg q, ← ih]; exact congrArg _ (by omega)
set_option maxRecDepth 65536 in
set_option maxHeartbeats 40000000 in
theorem pc_main {p : Program} {l : Launch} {e : Env} {s : State} {m : MethodId} {as' : Array Value} {below : List Frame} {meth : Method} {c_ : Code} {S0 : State} {n0 : Nat} {Z : State} {a0 : Array Value} (hw : ∀ d ∈ tables_1, d.before a0 Z = true) (C : Ctx p s m meth c_ Z a0 tables_1 "com/example/lacuna_tensor/lacunatensor/DenseTensor" prog_55_method_20_code 15 "permuteCells" none) (F SH AX T SD SZ ST AT : Addr) (fs ts r cells : Nat) (hr : r < 4) (hfs : fs < 4) (hts : ts < 4) (sz st : Nat → Nat) (hsz : ∀ k, k < r → sz k ≤ 9) (gA : n0 ≤ AT) (gT : n0 ≤ T) (nZ : SZ ≠ AT) (nT : ST ≠ AT) (nTA : T ≠ AT) (nTF : F ≠ T) (nFA : F ≠ AT) (nTZ : SZ ≠ T) (nTS : ST ≠ T) (tv : Nat → Int) (hcl : cells ≤ 9) (hoff : ∀ c, c < cells → 0 ≤ (own_it r sz st c).2 ∧ (own_it r sz st c).2 ≤ 9) :
    ∀ (k c : Nat), c + k = cells → ∀ (h : Heap) (s14 : Slot), One s14 → (∀ k, k < r → (own_it r sz st c).1 k ≤ 9) → Ary Z h SZ .int r (Nf sz) → Ary Z h ST .int r (Nf st) → Ary Z h AT .int r (Nf (own_it r sz st c).1) → Ary Z h F .double 13 (Df (fun i => (i : Int) + 1)) → Ary Z h T .double 13 (Df (own_tv fs ts (fun c => (own_it r sz st c).2) tv c)) → Rch p l e ({ frames := 0, cells := 4, slots := 12, locals := 0 } : Room) s m as' below meth c_ S0 n0 4 12 h 111 #[.val (.ref F), .val (.int fs.toInt32), .val (.ref SH), .val (.ref AX), .val (.ref T), .val (.int ts.toInt32), .val (.int r.toInt32), .val (.ref SD), .val (.int cells.toInt32), .val (.ref SZ), .val (.ref ST), .val (.ref AT), .val (.int (Int32.ofInt ((fs : Int) + (own_it r sz st c).2))), .val (.int c.toInt32), s14] [] →
      ∃ (h' : Heap) (s14' : Slot) (src : Int32), Keep h h' [AT, T] ∧ Ary Z h' T .double 13 (Df (own_tv fs ts (fun c => (own_it r sz st c).2) tv cells)) ∧ Rch p l e ({ frames := 0, cells := 4, slots := 12, locals := 0 } : Room) s m as' below meth c_ S0 n0 4 12 h' 210 #[.val (.ref F), .val (.int fs.toInt32), .val (.ref SH), .val (.ref AX), .val (.ref T), .val (.int ts.toInt32), .val (.int r.toInt32), .val (.ref SD), .val (.int cells.toInt32), .val (.ref SZ), .val (.ref ST), .val (.ref AT), .val (.int src), .val (.int cells.toInt32), s14'] [] := by
  intro k
  induction k with
  | zero =>
    intro c hc h s14 hs14 hat AZ AS_ AA AF AT_ R
    obtain rfl : c = cells := by omega
    replace R := R.iload C (pc' := 113) d3_111 rfl rfl
    replace R := R.iload C (pc' := 115) d3_113 rfl rfl
    replace R := R.icmpY C (pc' := 210) d3_115 (by rw [own_ge (by omega) (by omega)]; exact decide_eq_true (by omega)) rfl
    exact ⟨h, _, _, Keep.refl h [AT, T], AT_, R⟩
  | succ k ih =>
    intro c hc h s14 hs14 hat AZ AS_ AA AF AT_ R
    obtain ⟨o1, o2⟩ := hoff c (by omega)
    have K := Keep.refl h [AT, T]
    obtain ⟨F0, f_F0⟩ : ∃ z : Nat, (z : Int) = (fs : Int) + (own_it r sz st c).2 := ⟨((fs : Int) + (own_it r sz st c).2).toNat, by omega⟩
    have hF0 : F0 < 13 := by omega
    replace R := R.iload C (pc' := 113) d3_111 rfl rfl
    replace R := R.iload C (pc' := 115) d3_113 rfl rfl
    replace R := R.icmpN C (pc' := 118) d3_115 (by rw [own_ge (by omega) (by omega)]; exact decide_eq_false (by omega)) rfl
    replace R := R.aload C (pc' := 120) d3_118 rfl rfl rfl
    replace R := R.iload C (pc' := 122) d3_120 rfl rfl
    replace R := R.iload C (pc' := 124) d3_122 rfl rfl
    replace R := R.iadd C (pc' := 125) d3_124 rfl
    rw [own_madd] at R
    replace R := R.aloadN C (pc' := 126) d3_125 rfl rfl rfl
    replace R := R.iload C (pc' := 128) d3_126 rfl rfl
    replace R := R.daload C (v := (.double (FP.l2d (Int64.ofInt ((fs : Int) + (own_it r sz st c).2 + 1))))) AF (i := F0) (by rw [own_otn (by omega) (by omega), f_F0]) hF0 (by simp only [Df]; rw [f_F0]) (pc' := 129) d3_128 rfl
    obtain ⟨h1, R', W1⟩ := R.dastore C AT_ (i := (ts + c)) (own_tn (by omega)) (by omega) gT (pc' := 130) d3_129 rfl
    replace R := R'
    clear R'
    replace AT_ := AT_.set W1
    rw [upd_D] at AT_
    replace AT_ : Ary Z h1 T .double 13 (Df (own_tv fs ts (fun c => (own_it r sz st c).2) tv (c + 1))) := AT_.of fun i _ => congrArg (fun z => Value.double (FP.l2d (Int64.ofInt z))) (own_tv_s fs ts (fun c => (own_it r sz st c).2) tv c i)
    replace AZ := AZ.other W1 nTZ
    replace AS_ := AS_.other W1 nTS
    replace AA := AA.other W1 (Ne.symm nTA)
    replace AF := AF.other W1 nTF
    replace K := K.wr W1 (Or.inl (List.mem_of_getElem? (i := 1) rfl))
    replace R := R.iload C (pc' := 132) d3_130 rfl rfl
    replace R := R.iconst C (pc' := 133) d3_132 (v := (1 : Int32)) rfl rfl
    replace R := R.isub C (pc' := 134) d3_133 rfl
    rw [show r.toInt32 - (1 : Int32) = Int32.ofInt ((r : Int) - 1) from own_osub (r : Int) 1] at R
    replace R := R.istore C (Ls' := #[.val (.ref F), .val (.int fs.toInt32), .val (.ref SH), .val (.ref AX), .val (.ref T), .val (.int ts.toInt32), .val (.int r.toInt32), .val (.ref SD), .val (.int cells.toInt32), .val (.ref SZ), .val (.ref ST), .val (.ref AT), .val (.int (Int32.ofInt ((fs : Int) + (own_it r sz st c).2))), .val (.int c.toInt32), .val (.int (Int32.ofInt ((r : Int) - 1)))]) (pc' := 136) d3_134 (XS.store1 rfl hs14 rfl) rfl
    obtain ⟨h2, j, hat2, K2, AA, R'⟩ := pc_in hw C F SH AX T SD SZ ST AT fs ts r cells hr sz st hsz gA nZ nT c.toInt32 r (Nat.le_refl r) _ _ h1 hat AZ AS_ AA R
    replace R := R'
    clear R'
    replace AZ := AZ.keep K2 (ninS nZ nin0)
    replace AS_ := AS_.keep K2 (ninS nT nin0)
    replace AT_ := AT_.keep K2 (ninS nTA nin0)
    replace AF := AF.keep K2 (ninS nFA nin0)
    replace K := K.trans K2 (allS (Or.inl (List.mem_of_getElem? (i := 0) rfl)) all0)
    have e2 : (own_in r sz st (own_it r sz st c).1 ((fs : Int) + (own_it r sz st c).2)) = ((own_it r sz st (c + 1)).1, (fs : Int) + (own_it r sz st (c + 1)).2) := own_shift r sz st _ _ fs
    rw [e2] at hat2 AA R
    replace R := R.iinc C (pc' := 207) (Ls' := #[.val (.ref F), .val (.int fs.toInt32), .val (.ref SH), .val (.ref AX), .val (.ref T), .val (.int ts.toInt32), .val (.int r.toInt32), .val (.ref SD), .val (.int cells.toInt32), .val (.ref SZ), .val (.ref ST), .val (.ref AT), .val (.int (Int32.ofInt ((fs : Int) + (own_it r sz st (c + 1)).2))), .val (.int (c + 1).toInt32), .val (.int j)]) d3_204 rfl (v := (c + 1).toInt32) (own_madd c 1) rfl rfl
    replace R := R.goto C (pc' := 111) d3_207 rfl
    obtain ⟨h', s14', src, K', A', R'⟩ := ih (c + 1) (by omega) h2 _ (One.val rfl) hat2 AZ AS_ AA AF AT_ R
    exact ⟨h', s14', src, K.trans K' (allS (Or.inl (List.mem_of_getElem? (i := 0) rfl)) (allS (Or.inl (List.mem_of_getElem? (i := 1) rfl)) all0)), A', R'⟩
theorem own_l2i (x : Int32) : x.toInt64.toInt32 = x := Int32.toInt32_toInt64 x
set_option maxRecDepth 65536 in
set_option maxHeartbeats 40000000 in
theorem con_pc (l : Launch) (Z : State) (a0 : Array Value) (hw : ∀ d ∈ tables_1, d.before a0 Z = true) (F SH AX T : Addr) (fs ts r : Nat) (hfs : fs < 4) (hts : ts < 4) (hr : r < 4) (d a : Nat → Nat) (tv : Nat → Int) (h0 : Heap) (n0 : Nat) (z0 : n0 ≤ h0.size) (gT : n0 ≤ T) (nFT : F ≠ T) (hd : ∀ k, k < r → d k ≤ 9) (ha : ∀ k, k < r → a k < r) (hcl : own_cells r d ≤ 9) (hoff : ∀ c, c < own_cells r d → 0 ≤ (own_it r (fun k => d (a k)) (fun k => own_sd r d (a k)) c).2 ∧ (own_it r (fun k => d (a k)) (fun k => own_sd r d (a k)) c).2 ≤ 9) (AF : Ary Z h0 F .double 13 (Df (fun i => (i : Int) + 1))) (AH : Ary Z h0 SH .long r (Jf d)) (AX_ : Ary Z h0 AX .int r (Nf a)) (AT_ : Ary Z h0 T .double 13 (Df tv)) :
    Con l Z (⟨"com/example/lacuna_tensor/lacunatensor/DenseTensor", "permuteCells", "([DI[J[I[DI)V"⟩ : MethodName) prog_55_method_20_code 15 none ({ frames := 0, cells := 4, slots := 12, locals := 0 } : Room) #[(.ref F), (.int fs.toInt32), (.ref SH), (.ref AX), (.ref T), (.int ts.toInt32)] h0 n0 (fun v h' => v = none ∧ Keep h0 h' [T] ∧ Ary Z h' T .double 13 (Df (own_tv fs ts (fun c => (own_it r (fun k => d (a k)) (fun k => own_sd r d (a k)) c).2) tv (own_cells r d)))) := by
  refine Con.mk (tb := tables_1) (a0 := a0) (Ls := #[.val (.ref F), .val (.int fs.toInt32), .val (.ref SH), .val (.ref AX), .val (.ref T), .val (.int ts.toInt32), .unset, .unset, .unset, .unset, .unset, .unset, .unset, .unset, .unset]) pf_3 hw z0 (fun m => by first | (simp [entryFrame, mkF, argsToLocals, Value.category, maxLocals]; done) | rfl) ?_
  intro p e s m below meth c S0 C R
  obtain rfl | rfl | rfl | rfl : r = 0 ∨ r = 1 ∨ r = 2 ∨ r = 3 := by omega
  · skip
    have K := Keep.refl h0 [T]
    replace R := R.aloadN C (pc' := 1) d3_0 rfl rfl rfl
    replace R := R.alen C AH (v := (Nat.toInt32 0)) rfl (pc' := 2) d3_1 rfl
    replace R := R.istore C (Ls' := #[.val (.ref F), .val (.int fs.toInt32), .val (.ref SH), .val (.ref AX), .val (.ref T), .val (.int ts.toInt32), .val (.int (Nat.toInt32 0)), .unset, .unset, .unset, .unset, .unset, .unset, .unset, .unset]) (pc' := 4) d3_2 rfl rfl
    replace R := R.iload C (pc' := 6) d3_4 rfl rfl
    obtain ⟨h1, R', E1, AD, X1⟩ := R.newA C (N := 0) (cap := 3) (ad := "[I") (C.w 1 rfl) (own_tn (n := 0) (by decide)) (by decide) (by decide) (by decide) d3_6 (by decide) (by decide) (pc' := 8) rfl
    replace R := R'
    clear R'
    obtain ⟨SD, g_SD⟩ : ∃ z, z = h0.size := ⟨_, rfl⟩
    rw [← g_SD] at R AD X1
    have ne_F_SD : F ≠ SD := by rw [g_SD]; exact Nat.ne_of_lt AF.lt
    have ne_SH_SD : SH ≠ SD := by rw [g_SD]; exact Nat.ne_of_lt AH.lt
    have ne_AX_SD : AX ≠ SD := by rw [g_SD]; exact Nat.ne_of_lt AX_.lt
    have ne_T_SD : T ≠ SD := by rw [g_SD]; exact Nat.ne_of_lt AT_.lt
    have z_SD : h0.size ≤ SD := by rw [g_SD]; exact K.1
    replace AF := AF.ext E1
    replace AH := AH.ext E1
    replace AX_ := AX_.ext E1
    replace AT_ := AT_.ext E1
    replace K := K.ext E1
    replace AD : Ary Z h1 SD .int 0 (Nf (fun _ => 0)) := AD.of fun _ _ => rfl
    replace R := R.astore C (Ls' := #[.val (.ref F), .val (.int fs.toInt32), .val (.ref SH), .val (.ref AX), .val (.ref T), .val (.int ts.toInt32), .val (.int (Nat.toInt32 0)), .val (.ref SD), .unset, .unset, .unset, .unset, .unset, .unset, .unset]) (pc' := 10) d3_8 rfl rfl rfl
    replace R := R.iconst C (pc' := 11) d3_10 (v := (1 : Int32)) rfl rfl
    replace R := R.istore C (Ls' := #[.val (.ref F), .val (.int fs.toInt32), .val (.ref SH), .val (.ref AX), .val (.ref T), .val (.int ts.toInt32), .val (.int (Nat.toInt32 0)), .val (.ref SD), .val (.int (1 : Int32)), .unset, .unset, .unset, .unset, .unset, .unset]) (pc' := 13) d3_11 rfl rfl
    replace R := R.iload C (pc' := 15) d3_13 rfl rfl
    replace R := R.iconst C (pc' := 16) d3_15 (v := (1 : Int32)) rfl rfl
    replace R := R.isub C (pc' := 17) d3_16 rfl
    replace R := R.istore C (Ls' := #[.val (.ref F), .val (.int fs.toInt32), .val (.ref SH), .val (.ref AX), .val (.ref T), .val (.int ts.toInt32), .val (.int (Nat.toInt32 0)), .val (.ref SD), .val (.int (1 : Int32)), .val (.int ((Nat.toInt32 0) - (1 : Int32))), .unset, .unset, .unset, .unset, .unset]) (pc' := 19) d3_17 rfl rfl
    replace R := R.asL (Ls' := #[.val (.ref F), .val (.int fs.toInt32), .val (.ref SH), .val (.ref AX), .val (.ref T), .val (.int ts.toInt32), .val (.int (Nat.toInt32 0)), .val (.ref SD), .val (.int (Nat.toInt32 (1))), .val (.int (-1 : Int32)), .unset, .unset, .unset, .unset, .unset]) rfl
    replace R := R.iload C (pc' := 21) d3_19 rfl rfl
    replace R := R.ifY C (pc' := 47) d3_21 rfl rfl
    replace R := R.iload C (pc' := 49) d3_47 rfl rfl
    replace AD : Ary Z h1 SD .int 0 (Nf (own_sd 0 d)) := AD.of fun i hi => absurd hi (by omega)
    obtain ⟨h2, R', E2, AZ, X2⟩ := R.newA C (N := 0) (cap := 3) (ad := "[I") (C.w 1 rfl) (own_tn (n := 0) (by decide)) (by decide) (by decide) (by decide) d3_49 (by decide) (by decide) (pc' := 51) rfl
    replace R := R'
    clear R'
    obtain ⟨SZ, g_SZ⟩ : ∃ z, z = h1.size := ⟨_, rfl⟩
    rw [← g_SZ] at R AZ X2
    have ne_F_SZ : F ≠ SZ := by rw [g_SZ]; exact Nat.ne_of_lt AF.lt
    have ne_SH_SZ : SH ≠ SZ := by rw [g_SZ]; exact Nat.ne_of_lt AH.lt
    have ne_AX_SZ : AX ≠ SZ := by rw [g_SZ]; exact Nat.ne_of_lt AX_.lt
    have ne_T_SZ : T ≠ SZ := by rw [g_SZ]; exact Nat.ne_of_lt AT_.lt
    have ne_SD_SZ : SD ≠ SZ := by rw [g_SZ]; exact Nat.ne_of_lt AD.lt
    have z_SZ : h0.size ≤ SZ := by rw [g_SZ]; exact K.1
    replace AF := AF.ext E2
    replace AH := AH.ext E2
    replace AX_ := AX_.ext E2
    replace AT_ := AT_.ext E2
    replace AD := AD.ext E2
    replace K := K.ext E2
    replace AZ : Ary Z h2 SZ .int 0 (Nf (fun _ => 0)) := AZ.of fun _ _ => rfl
    replace R := R.astore C (Ls' := #[.val (.ref F), .val (.int fs.toInt32), .val (.ref SH), .val (.ref AX), .val (.ref T), .val (.int ts.toInt32), .val (.int (Nat.toInt32 0)), .val (.ref SD), .val (.int (Nat.toInt32 (1))), .val (.ref SZ), .unset, .unset, .unset, .unset, .unset]) (pc' := 53) d3_51 rfl rfl rfl
    replace R := R.iload C (pc' := 55) d3_53 rfl rfl
    obtain ⟨h3, R', E3, AS_, X3⟩ := R.newA C (N := 0) (cap := 3) (ad := "[I") (C.w 1 rfl) (own_tn (n := 0) (by decide)) (by decide) (by decide) (by decide) d3_55 (by decide) (by decide) (pc' := 57) rfl
    replace R := R'
    clear R'
    obtain ⟨ST, g_ST⟩ : ∃ z, z = h2.size := ⟨_, rfl⟩
    rw [← g_ST] at R AS_ X3
    have ne_F_ST : F ≠ ST := by rw [g_ST]; exact Nat.ne_of_lt AF.lt
    have ne_SH_ST : SH ≠ ST := by rw [g_ST]; exact Nat.ne_of_lt AH.lt
    have ne_AX_ST : AX ≠ ST := by rw [g_ST]; exact Nat.ne_of_lt AX_.lt
    have ne_T_ST : T ≠ ST := by rw [g_ST]; exact Nat.ne_of_lt AT_.lt
    have ne_SD_ST : SD ≠ ST := by rw [g_ST]; exact Nat.ne_of_lt AD.lt
    have ne_SZ_ST : SZ ≠ ST := by rw [g_ST]; exact Nat.ne_of_lt AZ.lt
    have z_ST : h0.size ≤ ST := by rw [g_ST]; exact K.1
    replace AF := AF.ext E3
    replace AH := AH.ext E3
    replace AX_ := AX_.ext E3
    replace AT_ := AT_.ext E3
    replace AD := AD.ext E3
    replace AZ := AZ.ext E3
    replace K := K.ext E3
    replace AS_ : Ary Z h3 ST .int 0 (Nf (fun _ => 0)) := AS_.of fun _ _ => rfl
    replace R := R.astore C (Ls' := #[.val (.ref F), .val (.int fs.toInt32), .val (.ref SH), .val (.ref AX), .val (.ref T), .val (.int ts.toInt32), .val (.int (Nat.toInt32 0)), .val (.ref SD), .val (.int (Nat.toInt32 (1))), .val (.ref SZ), .val (.ref ST), .unset, .unset, .unset, .unset]) (pc' := 59) d3_57 rfl rfl rfl
    replace R := R.iconst C (pc' := 60) d3_59 (v := (0 : Int32)) rfl rfl
    replace R := R.istore C (Ls' := #[.val (.ref F), .val (.int fs.toInt32), .val (.ref SH), .val (.ref AX), .val (.ref T), .val (.int ts.toInt32), .val (.int (Nat.toInt32 0)), .val (.ref SD), .val (.int (Nat.toInt32 (1))), .val (.ref SZ), .val (.ref ST), .val (.int (0 : Int32)), .unset, .unset, .unset]) (pc' := 62) d3_60 rfl rfl
    replace R := R.asL (Ls' := #[.val (.ref F), .val (.int fs.toInt32), .val (.ref SH), .val (.ref AX), .val (.ref T), .val (.int ts.toInt32), .val (.int (Nat.toInt32 0)), .val (.ref SD), .val (.int (Nat.toInt32 (1))), .val (.ref SZ), .val (.ref ST), .val (.int (Nat.toInt32 0)), .unset, .unset, .unset]) rfl
    replace R := R.iload C (pc' := 64) d3_62 rfl rfl
    replace R := R.iload C (pc' := 66) d3_64 rfl rfl
    replace R := R.icmpY C (pc' := 99) d3_66 rfl rfl
    replace R := R.iload C (pc' := 101) d3_99 rfl rfl
    replace AZ : Ary Z h3 SZ .int 0 (Nf (fun k => d (a k))) := AZ.of fun i hi => absurd hi (by omega)
    replace AS_ : Ary Z h3 ST .int 0 (Nf (fun k => own_sd 0 d (a k))) := AS_.of fun i hi => absurd hi (by omega)
    obtain ⟨h4, R', E4, AA, X4⟩ := R.newA C (N := 0) (cap := 3) (ad := "[I") (C.w 1 rfl) (own_tn (n := 0) (by decide)) (by decide) (by decide) (by decide) d3_101 (by decide) (by decide) (pc' := 103) rfl
    replace R := R'
    clear R'
    obtain ⟨AT, g_AT⟩ : ∃ z, z = h3.size := ⟨_, rfl⟩
    rw [← g_AT] at R AA X4
    have ne_F_AT : F ≠ AT := by rw [g_AT]; exact Nat.ne_of_lt AF.lt
    have ne_SH_AT : SH ≠ AT := by rw [g_AT]; exact Nat.ne_of_lt AH.lt
    have ne_AX_AT : AX ≠ AT := by rw [g_AT]; exact Nat.ne_of_lt AX_.lt
    have ne_T_AT : T ≠ AT := by rw [g_AT]; exact Nat.ne_of_lt AT_.lt
    have ne_SD_AT : SD ≠ AT := by rw [g_AT]; exact Nat.ne_of_lt AD.lt
    have ne_SZ_AT : SZ ≠ AT := by rw [g_AT]; exact Nat.ne_of_lt AZ.lt
    have ne_ST_AT : ST ≠ AT := by rw [g_AT]; exact Nat.ne_of_lt AS_.lt
    have z_AT : h0.size ≤ AT := by rw [g_AT]; exact K.1
    replace AF := AF.ext E4
    replace AH := AH.ext E4
    replace AX_ := AX_.ext E4
    replace AT_ := AT_.ext E4
    replace AD := AD.ext E4
    replace AZ := AZ.ext E4
    replace AS_ := AS_.ext E4
    replace K := K.ext E4
    replace AA : Ary Z h4 AT .int 0 (Nf (fun _ => 0)) := AA.of fun _ _ => rfl
    replace R := R.astore C (Ls' := #[.val (.ref F), .val (.int fs.toInt32), .val (.ref SH), .val (.ref AX), .val (.ref T), .val (.int ts.toInt32), .val (.int (Nat.toInt32 0)), .val (.ref SD), .val (.int (Nat.toInt32 (1))), .val (.ref SZ), .val (.ref ST), .val (.ref AT), .unset, .unset, .unset]) (pc' := 105) d3_103 rfl rfl rfl
    replace R := R.iloadN C (pc' := 106) d3_105 rfl rfl
    replace R := R.istore C (Ls' := #[.val (.ref F), .val (.int fs.toInt32), .val (.ref SH), .val (.ref AX), .val (.ref T), .val (.int ts.toInt32), .val (.int (Nat.toInt32 0)), .val (.ref SD), .val (.int (Nat.toInt32 (1))), .val (.ref SZ), .val (.ref ST), .val (.ref AT), .val (.int fs.toInt32), .unset, .unset]) (pc' := 108) d3_106 rfl rfl
    replace R := R.iconst C (pc' := 109) d3_108 (v := (0 : Int32)) rfl rfl
    replace R := R.istore C (Ls' := #[.val (.ref F), .val (.int fs.toInt32), .val (.ref SH), .val (.ref AX), .val (.ref T), .val (.int ts.toInt32), .val (.int (Nat.toInt32 0)), .val (.ref SD), .val (.int (Nat.toInt32 (1))), .val (.ref SZ), .val (.ref ST), .val (.ref AT), .val (.int fs.toInt32), .val (.int (0 : Int32)), .unset]) (pc' := 111) d3_109 rfl rfl
    replace R := R.asL (Ls' := #[.val (.ref F), .val (.int fs.toInt32), .val (.ref SH), .val (.ref AX), .val (.ref T), .val (.int ts.toInt32), .val (.int (Nat.toInt32 0)), .val (.ref SD), .val (.int (own_cells 0 d).toInt32), .val (.ref SZ), .val (.ref ST), .val (.ref AT), .val (.int (Int32.ofInt ((fs : Int) + (own_it 0 (fun k => d (a k)) (fun k => own_sd 0 d (a k)) 0).2))), .val (.int (Nat.toInt32 0)), .unset]) (by show _ = _; simp only [own_it, Int.add_zero]; rfl)
    replace R := R.more (k' := 4) (n' := 12) (by decide) (by decide)
    replace AT_ : Ary Z h4 T .double 13 (Df (own_tv fs ts (fun c => (own_it 0 (fun k => d (a k)) (fun k => own_sd 0 d (a k)) c).2) tv 0)) := AT_.of fun i _ => congrArg (fun z => Value.double (FP.l2d (Int64.ofInt z))) (show tv i = own_tv fs ts _ tv 0 i by unfold own_tv; rw [if_neg (by omega)])
    obtain ⟨h', s14, src, K2, AT_, R'⟩ := pc_main hw C F SH AX T SD SZ ST AT fs ts 0 (own_cells 0 d) (by decide) hfs hts (fun k => d (a k)) (fun k => own_sd 0 d (a k)) (fun k hk => hd _ (ha k hk)) (Nat.le_trans z0 z_AT) gT ne_SZ_AT ne_ST_AT ne_T_AT nFT ne_F_AT (Ne.symm ne_T_SZ) (Ne.symm ne_T_ST) tv hcl hoff (own_cells 0 d) 0 (by omega) _ .unset One.u (fun k hk => Nat.zero_le _) AZ AS_ AA AF AT_ R
    exact R'.retV C d3_210 ⟨rfl, K.trans K2 (allS (Or.inr z_AT) (allS (Or.inl (List.mem_of_getElem? (i := 0) rfl)) all0)), AT_⟩ (by decide) (by decide)
  · skip
    have K := Keep.refl h0 [T]
    replace R := R.aloadN C (pc' := 1) d3_0 rfl rfl rfl
    replace R := R.alen C AH (v := (Nat.toInt32 1)) rfl (pc' := 2) d3_1 rfl
    replace R := R.istore C (Ls' := #[.val (.ref F), .val (.int fs.toInt32), .val (.ref SH), .val (.ref AX), .val (.ref T), .val (.int ts.toInt32), .val (.int (Nat.toInt32 1)), .unset, .unset, .unset, .unset, .unset, .unset, .unset, .unset]) (pc' := 4) d3_2 rfl rfl
    replace R := R.iload C (pc' := 6) d3_4 rfl rfl
    obtain ⟨h1, R', E1, AD, X1⟩ := R.newA C (N := 1) (cap := 3) (ad := "[I") (C.w 1 rfl) (own_tn (n := 1) (by decide)) (by decide) (by decide) (by decide) d3_6 (by decide) (by decide) (pc' := 8) rfl
    replace R := R'
    clear R'
    obtain ⟨SD, g_SD⟩ : ∃ z, z = h0.size := ⟨_, rfl⟩
    rw [← g_SD] at R AD X1
    have ne_F_SD : F ≠ SD := by rw [g_SD]; exact Nat.ne_of_lt AF.lt
    have ne_SH_SD : SH ≠ SD := by rw [g_SD]; exact Nat.ne_of_lt AH.lt
    have ne_AX_SD : AX ≠ SD := by rw [g_SD]; exact Nat.ne_of_lt AX_.lt
    have ne_T_SD : T ≠ SD := by rw [g_SD]; exact Nat.ne_of_lt AT_.lt
    have z_SD : h0.size ≤ SD := by rw [g_SD]; exact K.1
    replace AF := AF.ext E1
    replace AH := AH.ext E1
    replace AX_ := AX_.ext E1
    replace AT_ := AT_.ext E1
    replace K := K.ext E1
    replace AD : Ary Z h1 SD .int 1 (Nf (fun _ => 0)) := AD.of fun _ _ => rfl
    replace R := R.astore C (Ls' := #[.val (.ref F), .val (.int fs.toInt32), .val (.ref SH), .val (.ref AX), .val (.ref T), .val (.int ts.toInt32), .val (.int (Nat.toInt32 1)), .val (.ref SD), .unset, .unset, .unset, .unset, .unset, .unset, .unset]) (pc' := 10) d3_8 rfl rfl rfl
    replace R := R.iconst C (pc' := 11) d3_10 (v := (1 : Int32)) rfl rfl
    replace R := R.istore C (Ls' := #[.val (.ref F), .val (.int fs.toInt32), .val (.ref SH), .val (.ref AX), .val (.ref T), .val (.int ts.toInt32), .val (.int (Nat.toInt32 1)), .val (.ref SD), .val (.int (1 : Int32)), .unset, .unset, .unset, .unset, .unset, .unset]) (pc' := 13) d3_11 rfl rfl
    replace R := R.iload C (pc' := 15) d3_13 rfl rfl
    replace R := R.iconst C (pc' := 16) d3_15 (v := (1 : Int32)) rfl rfl
    replace R := R.isub C (pc' := 17) d3_16 rfl
    replace R := R.istore C (Ls' := #[.val (.ref F), .val (.int fs.toInt32), .val (.ref SH), .val (.ref AX), .val (.ref T), .val (.int ts.toInt32), .val (.int (Nat.toInt32 1)), .val (.ref SD), .val (.int (1 : Int32)), .val (.int ((Nat.toInt32 1) - (1 : Int32))), .unset, .unset, .unset, .unset, .unset]) (pc' := 19) d3_17 rfl rfl
    replace R := R.asL (Ls' := #[.val (.ref F), .val (.int fs.toInt32), .val (.ref SH), .val (.ref AX), .val (.ref T), .val (.int ts.toInt32), .val (.int (Nat.toInt32 1)), .val (.ref SD), .val (.int (Nat.toInt32 (1))), .val (.int (Nat.toInt32 0)), .unset, .unset, .unset, .unset, .unset]) rfl
    replace R := R.iload C (pc' := 21) d3_19 rfl rfl
    replace R := R.ifN C (pc' := 24) d3_21 rfl rfl
    replace R := R.aload C (pc' := 26) d3_24 rfl rfl rfl
    replace R := R.iload C (pc' := 28) d3_26 rfl rfl
    replace R := R.iload C (pc' := 30) d3_28 rfl rfl
    obtain ⟨h2, R', W2⟩ := R.iastore C AD (i := 0) (own_tn (n := 0) (by decide)) (by decide) (Nat.le_trans z0 z_SD) (pc' := 31) d3_30 rfl
    replace R := R'
    clear R'
    replace AF := AF.other W2 ne_F_SD
    replace AH := AH.other W2 ne_SH_SD
    replace AX_ := AX_.other W2 ne_AX_SD
    replace AT_ := AT_.other W2 ne_T_SD
    replace AD := AD.set W2
    rw [upd_N] at AD
    replace K := K.wr W2 (Or.inr z_SD)
    replace R := R.iload C (pc' := 33) d3_31 rfl rfl
    replace R := R.aloadN C (pc' := 34) d3_33 rfl rfl rfl
    replace R := R.iload C (pc' := 36) d3_34 rfl rfl
    replace R := R.laload C (v := (.long (d 0).toInt32.toInt64)) AH (own_tn (n := 0) (by decide)) (by decide) rfl (pc' := 37) d3_36 rfl
    replace R := R.l2i C (pc' := 38) d3_37 rfl
    replace R := R.imul C (pc' := 39) d3_38 rfl
    rw [own_l2i, own_mmul] at R
    replace R := R.istore C (Ls' := #[.val (.ref F), .val (.int fs.toInt32), .val (.ref SH), .val (.ref AX), .val (.ref T), .val (.int ts.toInt32), .val (.int (Nat.toInt32 1)), .val (.ref SD), .val (.int (Nat.toInt32 (1 * d 0))), .val (.int (Nat.toInt32 0)), .unset, .unset, .unset, .unset, .unset]) (pc' := 41) d3_39 rfl rfl
    replace R := R.iinc C (pc' := 44) (Ls' := #[.val (.ref F), .val (.int fs.toInt32), .val (.ref SH), .val (.ref AX), .val (.ref T), .val (.int ts.toInt32), .val (.int (Nat.toInt32 1)), .val (.ref SD), .val (.int (Nat.toInt32 (1 * d 0))), .val (.int (-1 : Int32)), .unset, .unset, .unset, .unset, .unset]) d3_41 rfl (v := (-1 : Int32)) rfl rfl rfl
    replace R := R.goto C (pc' := 19) d3_44 rfl
    replace R := R.iload C (pc' := 21) d3_19 rfl rfl
    replace R := R.ifY C (pc' := 47) d3_21 rfl rfl
    replace R := R.iload C (pc' := 49) d3_47 rfl rfl
    replace AD : Ary Z h2 SD .int 1 (Nf (own_sd 1 d)) := AD.of fun i hi => by
      match i, hi with
      | 0, _ => rfl
    obtain ⟨h3, R', E3, AZ, X3⟩ := R.newA C (N := 1) (cap := 3) (ad := "[I") (C.w 1 rfl) (own_tn (n := 1) (by decide)) (by decide) (by decide) (by decide) d3_49 (by decide) (by decide) (pc' := 51) rfl
    replace R := R'
    clear R'
    obtain ⟨SZ, g_SZ⟩ : ∃ z, z = h2.size := ⟨_, rfl⟩
    rw [← g_SZ] at R AZ X3
    have ne_F_SZ : F ≠ SZ := by rw [g_SZ]; exact Nat.ne_of_lt AF.lt
    have ne_SH_SZ : SH ≠ SZ := by rw [g_SZ]; exact Nat.ne_of_lt AH.lt
    have ne_AX_SZ : AX ≠ SZ := by rw [g_SZ]; exact Nat.ne_of_lt AX_.lt
    have ne_T_SZ : T ≠ SZ := by rw [g_SZ]; exact Nat.ne_of_lt AT_.lt
    have ne_SD_SZ : SD ≠ SZ := by rw [g_SZ]; exact Nat.ne_of_lt AD.lt
    have z_SZ : h0.size ≤ SZ := by rw [g_SZ]; exact K.1
    replace AF := AF.ext E3
    replace AH := AH.ext E3
    replace AX_ := AX_.ext E3
    replace AT_ := AT_.ext E3
    replace AD := AD.ext E3
    replace K := K.ext E3
    replace AZ : Ary Z h3 SZ .int 1 (Nf (fun _ => 0)) := AZ.of fun _ _ => rfl
    replace R := R.astore C (Ls' := #[.val (.ref F), .val (.int fs.toInt32), .val (.ref SH), .val (.ref AX), .val (.ref T), .val (.int ts.toInt32), .val (.int (Nat.toInt32 1)), .val (.ref SD), .val (.int (Nat.toInt32 (1 * d 0))), .val (.ref SZ), .unset, .unset, .unset, .unset, .unset]) (pc' := 53) d3_51 rfl rfl rfl
    replace R := R.iload C (pc' := 55) d3_53 rfl rfl
    obtain ⟨h4, R', E4, AS_, X4⟩ := R.newA C (N := 1) (cap := 3) (ad := "[I") (C.w 1 rfl) (own_tn (n := 1) (by decide)) (by decide) (by decide) (by decide) d3_55 (by decide) (by decide) (pc' := 57) rfl
    replace R := R'
    clear R'
    obtain ⟨ST, g_ST⟩ : ∃ z, z = h3.size := ⟨_, rfl⟩
    rw [← g_ST] at R AS_ X4
    have ne_F_ST : F ≠ ST := by rw [g_ST]; exact Nat.ne_of_lt AF.lt
    have ne_SH_ST : SH ≠ ST := by rw [g_ST]; exact Nat.ne_of_lt AH.lt
    have ne_AX_ST : AX ≠ ST := by rw [g_ST]; exact Nat.ne_of_lt AX_.lt
    have ne_T_ST : T ≠ ST := by rw [g_ST]; exact Nat.ne_of_lt AT_.lt
    have ne_SD_ST : SD ≠ ST := by rw [g_ST]; exact Nat.ne_of_lt AD.lt
    have ne_SZ_ST : SZ ≠ ST := by rw [g_ST]; exact Nat.ne_of_lt AZ.lt
    have z_ST : h0.size ≤ ST := by rw [g_ST]; exact K.1
    replace AF := AF.ext E4
    replace AH := AH.ext E4
    replace AX_ := AX_.ext E4
    replace AT_ := AT_.ext E4
    replace AD := AD.ext E4
    replace AZ := AZ.ext E4
    replace K := K.ext E4
    replace AS_ : Ary Z h4 ST .int 1 (Nf (fun _ => 0)) := AS_.of fun _ _ => rfl
    replace R := R.astore C (Ls' := #[.val (.ref F), .val (.int fs.toInt32), .val (.ref SH), .val (.ref AX), .val (.ref T), .val (.int ts.toInt32), .val (.int (Nat.toInt32 1)), .val (.ref SD), .val (.int (Nat.toInt32 (1 * d 0))), .val (.ref SZ), .val (.ref ST), .unset, .unset, .unset, .unset]) (pc' := 59) d3_57 rfl rfl rfl
    replace R := R.iconst C (pc' := 60) d3_59 (v := (0 : Int32)) rfl rfl
    replace R := R.istore C (Ls' := #[.val (.ref F), .val (.int fs.toInt32), .val (.ref SH), .val (.ref AX), .val (.ref T), .val (.int ts.toInt32), .val (.int (Nat.toInt32 1)), .val (.ref SD), .val (.int (Nat.toInt32 (1 * d 0))), .val (.ref SZ), .val (.ref ST), .val (.int (0 : Int32)), .unset, .unset, .unset]) (pc' := 62) d3_60 rfl rfl
    replace R := R.asL (Ls' := #[.val (.ref F), .val (.int fs.toInt32), .val (.ref SH), .val (.ref AX), .val (.ref T), .val (.int ts.toInt32), .val (.int (Nat.toInt32 1)), .val (.ref SD), .val (.int (Nat.toInt32 (1 * d 0))), .val (.ref SZ), .val (.ref ST), .val (.int (Nat.toInt32 0)), .unset, .unset, .unset]) rfl
    replace R := R.iload C (pc' := 64) d3_62 rfl rfl
    replace R := R.iload C (pc' := 66) d3_64 rfl rfl
    replace R := R.icmpN C (pc' := 69) d3_66 rfl rfl
    replace R := R.aload C (pc' := 71) d3_69 rfl rfl rfl
    replace R := R.iload C (pc' := 73) d3_71 rfl rfl
    replace R := R.aloadN C (pc' := 74) d3_73 rfl rfl rfl
    replace R := R.aloadN C (pc' := 75) d3_74 rfl rfl rfl
    replace R := R.iload C (pc' := 77) d3_75 rfl rfl
    replace R := R.iaload C (v := (.int (a 0).toInt32)) AX_ (own_tn (n := 0) (by decide)) (by decide) rfl (pc' := 78) d3_77 rfl
    replace R := R.laload C (v := (.long (d (a 0)).toInt32.toInt64)) AH (i := a 0) (own_tn (by have := ha 0 (by decide); omega)) (ha 0 (by decide)) rfl (pc' := 79) d3_78 rfl
    replace R := R.l2i C (pc' := 80) d3_79 rfl
    rw [own_l2i] at R
    obtain ⟨h5, R', W5⟩ := R.iastore C AZ (i := 0) (own_tn (n := 0) (by decide)) (by decide) (Nat.le_trans z0 z_SZ) (pc' := 81) d3_80 rfl
    replace R := R'
    clear R'
    replace AF := AF.other W5 ne_F_SZ
    replace AH := AH.other W5 ne_SH_SZ
    replace AX_ := AX_.other W5 ne_AX_SZ
    replace AT_ := AT_.other W5 ne_T_SZ
    replace AD := AD.other W5 ne_SD_SZ
    replace AZ := AZ.set W5
    replace AS_ := AS_.other W5 (Ne.symm ne_SZ_ST)
    rw [upd_N] at AZ
    replace K := K.wr W5 (Or.inr z_SZ)
    replace R := R.aload C (pc' := 83) d3_81 rfl rfl rfl
    replace R := R.iload C (pc' := 85) d3_83 rfl rfl
    replace R := R.aload C (pc' := 87) d3_85 rfl rfl rfl
    replace R := R.aloadN C (pc' := 88) d3_87 rfl rfl rfl
    replace R := R.iload C (pc' := 90) d3_88 rfl rfl
    replace R := R.iaload C (v := (.int (a 0).toInt32)) AX_ (own_tn (n := 0) (by decide)) (by decide) rfl (pc' := 91) d3_90 rfl
    replace R := R.iaload C (v := (.int (own_sd 1 d (a 0)).toInt32)) AD (i := a 0) (own_tn (by have := ha 0 (by decide); omega)) (ha 0 (by decide)) rfl (pc' := 92) d3_91 rfl
    obtain ⟨h6, R', W6⟩ := R.iastore C AS_ (i := 0) (own_tn (n := 0) (by decide)) (by decide) (Nat.le_trans z0 z_ST) (pc' := 93) d3_92 rfl
    replace R := R'
    clear R'
    replace AF := AF.other W6 ne_F_ST
    replace AH := AH.other W6 ne_SH_ST
    replace AX_ := AX_.other W6 ne_AX_ST
    replace AT_ := AT_.other W6 ne_T_ST
    replace AD := AD.other W6 ne_SD_ST
    replace AZ := AZ.other W6 ne_SZ_ST
    replace AS_ := AS_.set W6
    rw [upd_N] at AS_
    replace K := K.wr W6 (Or.inr z_ST)
    replace R := R.iinc C (pc' := 96) (Ls' := #[.val (.ref F), .val (.int fs.toInt32), .val (.ref SH), .val (.ref AX), .val (.ref T), .val (.int ts.toInt32), .val (.int (Nat.toInt32 1)), .val (.ref SD), .val (.int (Nat.toInt32 (1 * d 0))), .val (.ref SZ), .val (.ref ST), .val (.int (Nat.toInt32 1)), .unset, .unset, .unset]) d3_93 rfl (v := (Nat.toInt32 1)) rfl rfl rfl
    replace R := R.goto C (pc' := 62) d3_96 rfl
    replace R := R.iload C (pc' := 64) d3_62 rfl rfl
    replace R := R.iload C (pc' := 66) d3_64 rfl rfl
    replace R := R.icmpY C (pc' := 99) d3_66 rfl rfl
    replace R := R.iload C (pc' := 101) d3_99 rfl rfl
    replace AZ : Ary Z h6 SZ .int 1 (Nf (fun k => d (a k))) := AZ.of fun i hi => by
      match i, hi with
      | 0, _ => rfl
    replace AS_ : Ary Z h6 ST .int 1 (Nf (fun k => own_sd 1 d (a k))) := AS_.of fun i hi => by
      match i, hi with
      | 0, _ => rfl
    obtain ⟨h7, R', E7, AA, X7⟩ := R.newA C (N := 1) (cap := 3) (ad := "[I") (C.w 1 rfl) (own_tn (n := 1) (by decide)) (by decide) (by decide) (by decide) d3_101 (by decide) (by decide) (pc' := 103) rfl
    replace R := R'
    clear R'
    obtain ⟨AT, g_AT⟩ : ∃ z, z = h6.size := ⟨_, rfl⟩
    rw [← g_AT] at R AA X7
    have ne_F_AT : F ≠ AT := by rw [g_AT]; exact Nat.ne_of_lt AF.lt
    have ne_SH_AT : SH ≠ AT := by rw [g_AT]; exact Nat.ne_of_lt AH.lt
    have ne_AX_AT : AX ≠ AT := by rw [g_AT]; exact Nat.ne_of_lt AX_.lt
    have ne_T_AT : T ≠ AT := by rw [g_AT]; exact Nat.ne_of_lt AT_.lt
    have ne_SD_AT : SD ≠ AT := by rw [g_AT]; exact Nat.ne_of_lt AD.lt
    have ne_SZ_AT : SZ ≠ AT := by rw [g_AT]; exact Nat.ne_of_lt AZ.lt
    have ne_ST_AT : ST ≠ AT := by rw [g_AT]; exact Nat.ne_of_lt AS_.lt
    have z_AT : h0.size ≤ AT := by rw [g_AT]; exact K.1
    replace AF := AF.ext E7
    replace AH := AH.ext E7
    replace AX_ := AX_.ext E7
    replace AT_ := AT_.ext E7
    replace AD := AD.ext E7
    replace AZ := AZ.ext E7
    replace AS_ := AS_.ext E7
    replace K := K.ext E7
    replace AA : Ary Z h7 AT .int 1 (Nf (fun _ => 0)) := AA.of fun _ _ => rfl
    replace R := R.astore C (Ls' := #[.val (.ref F), .val (.int fs.toInt32), .val (.ref SH), .val (.ref AX), .val (.ref T), .val (.int ts.toInt32), .val (.int (Nat.toInt32 1)), .val (.ref SD), .val (.int (Nat.toInt32 (1 * d 0))), .val (.ref SZ), .val (.ref ST), .val (.ref AT), .unset, .unset, .unset]) (pc' := 105) d3_103 rfl rfl rfl
    replace R := R.iloadN C (pc' := 106) d3_105 rfl rfl
    replace R := R.istore C (Ls' := #[.val (.ref F), .val (.int fs.toInt32), .val (.ref SH), .val (.ref AX), .val (.ref T), .val (.int ts.toInt32), .val (.int (Nat.toInt32 1)), .val (.ref SD), .val (.int (Nat.toInt32 (1 * d 0))), .val (.ref SZ), .val (.ref ST), .val (.ref AT), .val (.int fs.toInt32), .unset, .unset]) (pc' := 108) d3_106 rfl rfl
    replace R := R.iconst C (pc' := 109) d3_108 (v := (0 : Int32)) rfl rfl
    replace R := R.istore C (Ls' := #[.val (.ref F), .val (.int fs.toInt32), .val (.ref SH), .val (.ref AX), .val (.ref T), .val (.int ts.toInt32), .val (.int (Nat.toInt32 1)), .val (.ref SD), .val (.int (Nat.toInt32 (1 * d 0))), .val (.ref SZ), .val (.ref ST), .val (.ref AT), .val (.int fs.toInt32), .val (.int (0 : Int32)), .unset]) (pc' := 111) d3_109 rfl rfl
    replace R := R.asL (Ls' := #[.val (.ref F), .val (.int fs.toInt32), .val (.ref SH), .val (.ref AX), .val (.ref T), .val (.int ts.toInt32), .val (.int (Nat.toInt32 1)), .val (.ref SD), .val (.int (own_cells 1 d).toInt32), .val (.ref SZ), .val (.ref ST), .val (.ref AT), .val (.int (Int32.ofInt ((fs : Int) + (own_it 1 (fun k => d (a k)) (fun k => own_sd 1 d (a k)) 0).2))), .val (.int (Nat.toInt32 0)), .unset]) (by show _ = _; simp only [own_it, Int.add_zero]; rfl)
    replace R := R.more (k' := 4) (n' := 12) (by decide) (by decide)
    replace AT_ : Ary Z h7 T .double 13 (Df (own_tv fs ts (fun c => (own_it 1 (fun k => d (a k)) (fun k => own_sd 1 d (a k)) c).2) tv 0)) := AT_.of fun i _ => congrArg (fun z => Value.double (FP.l2d (Int64.ofInt z))) (show tv i = own_tv fs ts _ tv 0 i by unfold own_tv; rw [if_neg (by omega)])
    obtain ⟨h', s14, src, K2, AT_, R'⟩ := pc_main hw C F SH AX T SD SZ ST AT fs ts 1 (own_cells 1 d) (by decide) hfs hts (fun k => d (a k)) (fun k => own_sd 1 d (a k)) (fun k hk => hd _ (ha k hk)) (Nat.le_trans z0 z_AT) gT ne_SZ_AT ne_ST_AT ne_T_AT nFT ne_F_AT (Ne.symm ne_T_SZ) (Ne.symm ne_T_ST) tv hcl hoff (own_cells 1 d) 0 (by omega) _ .unset One.u (fun k hk => Nat.zero_le _) AZ AS_ AA AF AT_ R
    exact R'.retV C d3_210 ⟨rfl, K.trans K2 (allS (Or.inr z_AT) (allS (Or.inl (List.mem_of_getElem? (i := 0) rfl)) all0)), AT_⟩ (by decide) (by decide)
  · skip
    have K := Keep.refl h0 [T]
    replace R := R.aloadN C (pc' := 1) d3_0 rfl rfl rfl
    replace R := R.alen C AH (v := (Nat.toInt32 2)) rfl (pc' := 2) d3_1 rfl
    replace R := R.istore C (Ls' := #[.val (.ref F), .val (.int fs.toInt32), .val (.ref SH), .val (.ref AX), .val (.ref T), .val (.int ts.toInt32), .val (.int (Nat.toInt32 2)), .unset, .unset, .unset, .unset, .unset, .unset, .unset, .unset]) (pc' := 4) d3_2 rfl rfl
    replace R := R.iload C (pc' := 6) d3_4 rfl rfl
    obtain ⟨h1, R', E1, AD, X1⟩ := R.newA C (N := 2) (cap := 3) (ad := "[I") (C.w 1 rfl) (own_tn (n := 2) (by decide)) (by decide) (by decide) (by decide) d3_6 (by decide) (by decide) (pc' := 8) rfl
    replace R := R'
    clear R'
    obtain ⟨SD, g_SD⟩ : ∃ z, z = h0.size := ⟨_, rfl⟩
    rw [← g_SD] at R AD X1
    have ne_F_SD : F ≠ SD := by rw [g_SD]; exact Nat.ne_of_lt AF.lt
    have ne_SH_SD : SH ≠ SD := by rw [g_SD]; exact Nat.ne_of_lt AH.lt
    have ne_AX_SD : AX ≠ SD := by rw [g_SD]; exact Nat.ne_of_lt AX_.lt
    have ne_T_SD : T ≠ SD := by rw [g_SD]; exact Nat.ne_of_lt AT_.lt
    have z_SD : h0.size ≤ SD := by rw [g_SD]; exact K.1
    replace AF := AF.ext E1
    replace AH := AH.ext E1
    replace AX_ := AX_.ext E1
    replace AT_ := AT_.ext E1
    replace K := K.ext E1
    replace AD : Ary Z h1 SD .int 2 (Nf (fun _ => 0)) := AD.of fun _ _ => rfl
    replace R := R.astore C (Ls' := #[.val (.ref F), .val (.int fs.toInt32), .val (.ref SH), .val (.ref AX), .val (.ref T), .val (.int ts.toInt32), .val (.int (Nat.toInt32 2)), .val (.ref SD), .unset, .unset, .unset, .unset, .unset, .unset, .unset]) (pc' := 10) d3_8 rfl rfl rfl
    replace R := R.iconst C (pc' := 11) d3_10 (v := (1 : Int32)) rfl rfl
    replace R := R.istore C (Ls' := #[.val (.ref F), .val (.int fs.toInt32), .val (.ref SH), .val (.ref AX), .val (.ref T), .val (.int ts.toInt32), .val (.int (Nat.toInt32 2)), .val (.ref SD), .val (.int (1 : Int32)), .unset, .unset, .unset, .unset, .unset, .unset]) (pc' := 13) d3_11 rfl rfl
    replace R := R.iload C (pc' := 15) d3_13 rfl rfl
    replace R := R.iconst C (pc' := 16) d3_15 (v := (1 : Int32)) rfl rfl
    replace R := R.isub C (pc' := 17) d3_16 rfl
    replace R := R.istore C (Ls' := #[.val (.ref F), .val (.int fs.toInt32), .val (.ref SH), .val (.ref AX), .val (.ref T), .val (.int ts.toInt32), .val (.int (Nat.toInt32 2)), .val (.ref SD), .val (.int (1 : Int32)), .val (.int ((Nat.toInt32 2) - (1 : Int32))), .unset, .unset, .unset, .unset, .unset]) (pc' := 19) d3_17 rfl rfl
    replace R := R.asL (Ls' := #[.val (.ref F), .val (.int fs.toInt32), .val (.ref SH), .val (.ref AX), .val (.ref T), .val (.int ts.toInt32), .val (.int (Nat.toInt32 2)), .val (.ref SD), .val (.int (Nat.toInt32 (1))), .val (.int (Nat.toInt32 1)), .unset, .unset, .unset, .unset, .unset]) rfl
    replace R := R.iload C (pc' := 21) d3_19 rfl rfl
    replace R := R.ifN C (pc' := 24) d3_21 rfl rfl
    replace R := R.aload C (pc' := 26) d3_24 rfl rfl rfl
    replace R := R.iload C (pc' := 28) d3_26 rfl rfl
    replace R := R.iload C (pc' := 30) d3_28 rfl rfl
    obtain ⟨h2, R', W2⟩ := R.iastore C AD (i := 1) (own_tn (n := 1) (by decide)) (by decide) (Nat.le_trans z0 z_SD) (pc' := 31) d3_30 rfl
    replace R := R'
    clear R'
    replace AF := AF.other W2 ne_F_SD
    replace AH := AH.other W2 ne_SH_SD
    replace AX_ := AX_.other W2 ne_AX_SD
    replace AT_ := AT_.other W2 ne_T_SD
    replace AD := AD.set W2
    rw [upd_N] at AD
    replace K := K.wr W2 (Or.inr z_SD)
    replace R := R.iload C (pc' := 33) d3_31 rfl rfl
    replace R := R.aloadN C (pc' := 34) d3_33 rfl rfl rfl
    replace R := R.iload C (pc' := 36) d3_34 rfl rfl
    replace R := R.laload C (v := (.long (d 1).toInt32.toInt64)) AH (own_tn (n := 1) (by decide)) (by decide) rfl (pc' := 37) d3_36 rfl
    replace R := R.l2i C (pc' := 38) d3_37 rfl
    replace R := R.imul C (pc' := 39) d3_38 rfl
    rw [own_l2i, own_mmul] at R
    replace R := R.istore C (Ls' := #[.val (.ref F), .val (.int fs.toInt32), .val (.ref SH), .val (.ref AX), .val (.ref T), .val (.int ts.toInt32), .val (.int (Nat.toInt32 2)), .val (.ref SD), .val (.int (Nat.toInt32 (1 * d 1))), .val (.int (Nat.toInt32 1)), .unset, .unset, .unset, .unset, .unset]) (pc' := 41) d3_39 rfl rfl
    replace R := R.iinc C (pc' := 44) (Ls' := #[.val (.ref F), .val (.int fs.toInt32), .val (.ref SH), .val (.ref AX), .val (.ref T), .val (.int ts.toInt32), .val (.int (Nat.toInt32 2)), .val (.ref SD), .val (.int (Nat.toInt32 (1 * d 1))), .val (.int (Nat.toInt32 0)), .unset, .unset, .unset, .unset, .unset]) d3_41 rfl (v := (Nat.toInt32 0)) rfl rfl rfl
    replace R := R.goto C (pc' := 19) d3_44 rfl
    replace R := R.iload C (pc' := 21) d3_19 rfl rfl
    replace R := R.ifN C (pc' := 24) d3_21 rfl rfl
    replace R := R.aload C (pc' := 26) d3_24 rfl rfl rfl
    replace R := R.iload C (pc' := 28) d3_26 rfl rfl
    replace R := R.iload C (pc' := 30) d3_28 rfl rfl
    obtain ⟨h3, R', W3⟩ := R.iastore C AD (i := 0) (own_tn (n := 0) (by decide)) (by decide) (Nat.le_trans z0 z_SD) (pc' := 31) d3_30 rfl
    replace R := R'
    clear R'
    replace AF := AF.other W3 ne_F_SD
    replace AH := AH.other W3 ne_SH_SD
    replace AX_ := AX_.other W3 ne_AX_SD
    replace AT_ := AT_.other W3 ne_T_SD
    replace AD := AD.set W3
    rw [upd_N] at AD
    replace K := K.wr W3 (Or.inr z_SD)
    replace R := R.iload C (pc' := 33) d3_31 rfl rfl
    replace R := R.aloadN C (pc' := 34) d3_33 rfl rfl rfl
    replace R := R.iload C (pc' := 36) d3_34 rfl rfl
    replace R := R.laload C (v := (.long (d 0).toInt32.toInt64)) AH (own_tn (n := 0) (by decide)) (by decide) rfl (pc' := 37) d3_36 rfl
    replace R := R.l2i C (pc' := 38) d3_37 rfl
    replace R := R.imul C (pc' := 39) d3_38 rfl
    rw [own_l2i, own_mmul] at R
    replace R := R.istore C (Ls' := #[.val (.ref F), .val (.int fs.toInt32), .val (.ref SH), .val (.ref AX), .val (.ref T), .val (.int ts.toInt32), .val (.int (Nat.toInt32 2)), .val (.ref SD), .val (.int (Nat.toInt32 ((1 * d 1) * d 0))), .val (.int (Nat.toInt32 0)), .unset, .unset, .unset, .unset, .unset]) (pc' := 41) d3_39 rfl rfl
    replace R := R.iinc C (pc' := 44) (Ls' := #[.val (.ref F), .val (.int fs.toInt32), .val (.ref SH), .val (.ref AX), .val (.ref T), .val (.int ts.toInt32), .val (.int (Nat.toInt32 2)), .val (.ref SD), .val (.int (Nat.toInt32 ((1 * d 1) * d 0))), .val (.int (-1 : Int32)), .unset, .unset, .unset, .unset, .unset]) d3_41 rfl (v := (-1 : Int32)) rfl rfl rfl
    replace R := R.goto C (pc' := 19) d3_44 rfl
    replace R := R.iload C (pc' := 21) d3_19 rfl rfl
    replace R := R.ifY C (pc' := 47) d3_21 rfl rfl
    replace R := R.iload C (pc' := 49) d3_47 rfl rfl
    replace AD : Ary Z h3 SD .int 2 (Nf (own_sd 2 d)) := AD.of fun i hi => by
      match i, hi with
      | 0, _ => rfl
      | 1, _ => rfl
    obtain ⟨h4, R', E4, AZ, X4⟩ := R.newA C (N := 2) (cap := 3) (ad := "[I") (C.w 1 rfl) (own_tn (n := 2) (by decide)) (by decide) (by decide) (by decide) d3_49 (by decide) (by decide) (pc' := 51) rfl
    replace R := R'
    clear R'
    obtain ⟨SZ, g_SZ⟩ : ∃ z, z = h3.size := ⟨_, rfl⟩
    rw [← g_SZ] at R AZ X4
    have ne_F_SZ : F ≠ SZ := by rw [g_SZ]; exact Nat.ne_of_lt AF.lt
    have ne_SH_SZ : SH ≠ SZ := by rw [g_SZ]; exact Nat.ne_of_lt AH.lt
    have ne_AX_SZ : AX ≠ SZ := by rw [g_SZ]; exact Nat.ne_of_lt AX_.lt
    have ne_T_SZ : T ≠ SZ := by rw [g_SZ]; exact Nat.ne_of_lt AT_.lt
    have ne_SD_SZ : SD ≠ SZ := by rw [g_SZ]; exact Nat.ne_of_lt AD.lt
    have z_SZ : h0.size ≤ SZ := by rw [g_SZ]; exact K.1
    replace AF := AF.ext E4
    replace AH := AH.ext E4
    replace AX_ := AX_.ext E4
    replace AT_ := AT_.ext E4
    replace AD := AD.ext E4
    replace K := K.ext E4
    replace AZ : Ary Z h4 SZ .int 2 (Nf (fun _ => 0)) := AZ.of fun _ _ => rfl
    replace R := R.astore C (Ls' := #[.val (.ref F), .val (.int fs.toInt32), .val (.ref SH), .val (.ref AX), .val (.ref T), .val (.int ts.toInt32), .val (.int (Nat.toInt32 2)), .val (.ref SD), .val (.int (Nat.toInt32 ((1 * d 1) * d 0))), .val (.ref SZ), .unset, .unset, .unset, .unset, .unset]) (pc' := 53) d3_51 rfl rfl rfl
    replace R := R.iload C (pc' := 55) d3_53 rfl rfl
    obtain ⟨h5, R', E5, AS_, X5⟩ := R.newA C (N := 2) (cap := 3) (ad := "[I") (C.w 1 rfl) (own_tn (n := 2) (by decide)) (by decide) (by decide) (by decide) d3_55 (by decide) (by decide) (pc' := 57) rfl
    replace R := R'
    clear R'
    obtain ⟨ST, g_ST⟩ : ∃ z, z = h4.size := ⟨_, rfl⟩
    rw [← g_ST] at R AS_ X5
    have ne_F_ST : F ≠ ST := by rw [g_ST]; exact Nat.ne_of_lt AF.lt
    have ne_SH_ST : SH ≠ ST := by rw [g_ST]; exact Nat.ne_of_lt AH.lt
    have ne_AX_ST : AX ≠ ST := by rw [g_ST]; exact Nat.ne_of_lt AX_.lt
    have ne_T_ST : T ≠ ST := by rw [g_ST]; exact Nat.ne_of_lt AT_.lt
    have ne_SD_ST : SD ≠ ST := by rw [g_ST]; exact Nat.ne_of_lt AD.lt
    have ne_SZ_ST : SZ ≠ ST := by rw [g_ST]; exact Nat.ne_of_lt AZ.lt
    have z_ST : h0.size ≤ ST := by rw [g_ST]; exact K.1
    replace AF := AF.ext E5
    replace AH := AH.ext E5
    replace AX_ := AX_.ext E5
    replace AT_ := AT_.ext E5
    replace AD := AD.ext E5
    replace AZ := AZ.ext E5
    replace K := K.ext E5
    replace AS_ : Ary Z h5 ST .int 2 (Nf (fun _ => 0)) := AS_.of fun _ _ => rfl
    replace R := R.astore C (Ls' := #[.val (.ref F), .val (.int fs.toInt32), .val (.ref SH), .val (.ref AX), .val (.ref T), .val (.int ts.toInt32), .val (.int (Nat.toInt32 2)), .val (.ref SD), .val (.int (Nat.toInt32 ((1 * d 1) * d 0))), .val (.ref SZ), .val (.ref ST), .unset, .unset, .unset, .unset]) (pc' := 59) d3_57 rfl rfl rfl
    replace R := R.iconst C (pc' := 60) d3_59 (v := (0 : Int32)) rfl rfl
    replace R := R.istore C (Ls' := #[.val (.ref F), .val (.int fs.toInt32), .val (.ref SH), .val (.ref AX), .val (.ref T), .val (.int ts.toInt32), .val (.int (Nat.toInt32 2)), .val (.ref SD), .val (.int (Nat.toInt32 ((1 * d 1) * d 0))), .val (.ref SZ), .val (.ref ST), .val (.int (0 : Int32)), .unset, .unset, .unset]) (pc' := 62) d3_60 rfl rfl
    replace R := R.asL (Ls' := #[.val (.ref F), .val (.int fs.toInt32), .val (.ref SH), .val (.ref AX), .val (.ref T), .val (.int ts.toInt32), .val (.int (Nat.toInt32 2)), .val (.ref SD), .val (.int (Nat.toInt32 ((1 * d 1) * d 0))), .val (.ref SZ), .val (.ref ST), .val (.int (Nat.toInt32 0)), .unset, .unset, .unset]) rfl
    replace R := R.iload C (pc' := 64) d3_62 rfl rfl
    replace R := R.iload C (pc' := 66) d3_64 rfl rfl
    replace R := R.icmpN C (pc' := 69) d3_66 rfl rfl
    replace R := R.aload C (pc' := 71) d3_69 rfl rfl rfl
    replace R := R.iload C (pc' := 73) d3_71 rfl rfl
    replace R := R.aloadN C (pc' := 74) d3_73 rfl rfl rfl
    replace R := R.aloadN C (pc' := 75) d3_74 rfl rfl rfl
    replace R := R.iload C (pc' := 77) d3_75 rfl rfl
    replace R := R.iaload C (v := (.int (a 0).toInt32)) AX_ (own_tn (n := 0) (by decide)) (by decide) rfl (pc' := 78) d3_77 rfl
    replace R := R.laload C (v := (.long (d (a 0)).toInt32.toInt64)) AH (i := a 0) (own_tn (by have := ha 0 (by decide); omega)) (ha 0 (by decide)) rfl (pc' := 79) d3_78 rfl
    replace R := R.l2i C (pc' := 80) d3_79 rfl
    rw [own_l2i] at R
    obtain ⟨h6, R', W6⟩ := R.iastore C AZ (i := 0) (own_tn (n := 0) (by decide)) (by decide) (Nat.le_trans z0 z_SZ) (pc' := 81) d3_80 rfl
    replace R := R'
    clear R'
    replace AF := AF.other W6 ne_F_SZ
    replace AH := AH.other W6 ne_SH_SZ
    replace AX_ := AX_.other W6 ne_AX_SZ
    replace AT_ := AT_.other W6 ne_T_SZ
    replace AD := AD.other W6 ne_SD_SZ
    replace AZ := AZ.set W6
    replace AS_ := AS_.other W6 (Ne.symm ne_SZ_ST)
    rw [upd_N] at AZ
    replace K := K.wr W6 (Or.inr z_SZ)
    replace R := R.aload C (pc' := 83) d3_81 rfl rfl rfl
    replace R := R.iload C (pc' := 85) d3_83 rfl rfl
    replace R := R.aload C (pc' := 87) d3_85 rfl rfl rfl
    replace R := R.aloadN C (pc' := 88) d3_87 rfl rfl rfl
    replace R := R.iload C (pc' := 90) d3_88 rfl rfl
    replace R := R.iaload C (v := (.int (a 0).toInt32)) AX_ (own_tn (n := 0) (by decide)) (by decide) rfl (pc' := 91) d3_90 rfl
    replace R := R.iaload C (v := (.int (own_sd 2 d (a 0)).toInt32)) AD (i := a 0) (own_tn (by have := ha 0 (by decide); omega)) (ha 0 (by decide)) rfl (pc' := 92) d3_91 rfl
    obtain ⟨h7, R', W7⟩ := R.iastore C AS_ (i := 0) (own_tn (n := 0) (by decide)) (by decide) (Nat.le_trans z0 z_ST) (pc' := 93) d3_92 rfl
    replace R := R'
    clear R'
    replace AF := AF.other W7 ne_F_ST
    replace AH := AH.other W7 ne_SH_ST
    replace AX_ := AX_.other W7 ne_AX_ST
    replace AT_ := AT_.other W7 ne_T_ST
    replace AD := AD.other W7 ne_SD_ST
    replace AZ := AZ.other W7 ne_SZ_ST
    replace AS_ := AS_.set W7
    rw [upd_N] at AS_
    replace K := K.wr W7 (Or.inr z_ST)
    replace R := R.iinc C (pc' := 96) (Ls' := #[.val (.ref F), .val (.int fs.toInt32), .val (.ref SH), .val (.ref AX), .val (.ref T), .val (.int ts.toInt32), .val (.int (Nat.toInt32 2)), .val (.ref SD), .val (.int (Nat.toInt32 ((1 * d 1) * d 0))), .val (.ref SZ), .val (.ref ST), .val (.int (Nat.toInt32 1)), .unset, .unset, .unset]) d3_93 rfl (v := (Nat.toInt32 1)) rfl rfl rfl
    replace R := R.goto C (pc' := 62) d3_96 rfl
    replace R := R.iload C (pc' := 64) d3_62 rfl rfl
    replace R := R.iload C (pc' := 66) d3_64 rfl rfl
    replace R := R.icmpN C (pc' := 69) d3_66 rfl rfl
    replace R := R.aload C (pc' := 71) d3_69 rfl rfl rfl
    replace R := R.iload C (pc' := 73) d3_71 rfl rfl
    replace R := R.aloadN C (pc' := 74) d3_73 rfl rfl rfl
    replace R := R.aloadN C (pc' := 75) d3_74 rfl rfl rfl
    replace R := R.iload C (pc' := 77) d3_75 rfl rfl
    replace R := R.iaload C (v := (.int (a 1).toInt32)) AX_ (own_tn (n := 1) (by decide)) (by decide) rfl (pc' := 78) d3_77 rfl
    replace R := R.laload C (v := (.long (d (a 1)).toInt32.toInt64)) AH (i := a 1) (own_tn (by have := ha 1 (by decide); omega)) (ha 1 (by decide)) rfl (pc' := 79) d3_78 rfl
    replace R := R.l2i C (pc' := 80) d3_79 rfl
    rw [own_l2i] at R
    obtain ⟨h8, R', W8⟩ := R.iastore C AZ (i := 1) (own_tn (n := 1) (by decide)) (by decide) (Nat.le_trans z0 z_SZ) (pc' := 81) d3_80 rfl
    replace R := R'
    clear R'
    replace AF := AF.other W8 ne_F_SZ
    replace AH := AH.other W8 ne_SH_SZ
    replace AX_ := AX_.other W8 ne_AX_SZ
    replace AT_ := AT_.other W8 ne_T_SZ
    replace AD := AD.other W8 ne_SD_SZ
    replace AZ := AZ.set W8
    replace AS_ := AS_.other W8 (Ne.symm ne_SZ_ST)
    rw [upd_N] at AZ
    replace K := K.wr W8 (Or.inr z_SZ)
    replace R := R.aload C (pc' := 83) d3_81 rfl rfl rfl
    replace R := R.iload C (pc' := 85) d3_83 rfl rfl
    replace R := R.aload C (pc' := 87) d3_85 rfl rfl rfl
    replace R := R.aloadN C (pc' := 88) d3_87 rfl rfl rfl
    replace R := R.iload C (pc' := 90) d3_88 rfl rfl
    replace R := R.iaload C (v := (.int (a 1).toInt32)) AX_ (own_tn (n := 1) (by decide)) (by decide) rfl (pc' := 91) d3_90 rfl
    replace R := R.iaload C (v := (.int (own_sd 2 d (a 1)).toInt32)) AD (i := a 1) (own_tn (by have := ha 1 (by decide); omega)) (ha 1 (by decide)) rfl (pc' := 92) d3_91 rfl
    obtain ⟨h9, R', W9⟩ := R.iastore C AS_ (i := 1) (own_tn (n := 1) (by decide)) (by decide) (Nat.le_trans z0 z_ST) (pc' := 93) d3_92 rfl
    replace R := R'
    clear R'
    replace AF := AF.other W9 ne_F_ST
    replace AH := AH.other W9 ne_SH_ST
    replace AX_ := AX_.other W9 ne_AX_ST
    replace AT_ := AT_.other W9 ne_T_ST
    replace AD := AD.other W9 ne_SD_ST
    replace AZ := AZ.other W9 ne_SZ_ST
    replace AS_ := AS_.set W9
    rw [upd_N] at AS_
    replace K := K.wr W9 (Or.inr z_ST)
    replace R := R.iinc C (pc' := 96) (Ls' := #[.val (.ref F), .val (.int fs.toInt32), .val (.ref SH), .val (.ref AX), .val (.ref T), .val (.int ts.toInt32), .val (.int (Nat.toInt32 2)), .val (.ref SD), .val (.int (Nat.toInt32 ((1 * d 1) * d 0))), .val (.ref SZ), .val (.ref ST), .val (.int (Nat.toInt32 2)), .unset, .unset, .unset]) d3_93 rfl (v := (Nat.toInt32 2)) rfl rfl rfl
    replace R := R.goto C (pc' := 62) d3_96 rfl
    replace R := R.iload C (pc' := 64) d3_62 rfl rfl
    replace R := R.iload C (pc' := 66) d3_64 rfl rfl
    replace R := R.icmpY C (pc' := 99) d3_66 rfl rfl
    replace R := R.iload C (pc' := 101) d3_99 rfl rfl
    replace AZ : Ary Z h9 SZ .int 2 (Nf (fun k => d (a k))) := AZ.of fun i hi => by
      match i, hi with
      | 0, _ => rfl
      | 1, _ => rfl
    replace AS_ : Ary Z h9 ST .int 2 (Nf (fun k => own_sd 2 d (a k))) := AS_.of fun i hi => by
      match i, hi with
      | 0, _ => rfl
      | 1, _ => rfl
    obtain ⟨h10, R', E10, AA, X10⟩ := R.newA C (N := 2) (cap := 3) (ad := "[I") (C.w 1 rfl) (own_tn (n := 2) (by decide)) (by decide) (by decide) (by decide) d3_101 (by decide) (by decide) (pc' := 103) rfl
    replace R := R'
    clear R'
    obtain ⟨AT, g_AT⟩ : ∃ z, z = h9.size := ⟨_, rfl⟩
    rw [← g_AT] at R AA X10
    have ne_F_AT : F ≠ AT := by rw [g_AT]; exact Nat.ne_of_lt AF.lt
    have ne_SH_AT : SH ≠ AT := by rw [g_AT]; exact Nat.ne_of_lt AH.lt
    have ne_AX_AT : AX ≠ AT := by rw [g_AT]; exact Nat.ne_of_lt AX_.lt
    have ne_T_AT : T ≠ AT := by rw [g_AT]; exact Nat.ne_of_lt AT_.lt
    have ne_SD_AT : SD ≠ AT := by rw [g_AT]; exact Nat.ne_of_lt AD.lt
    have ne_SZ_AT : SZ ≠ AT := by rw [g_AT]; exact Nat.ne_of_lt AZ.lt
    have ne_ST_AT : ST ≠ AT := by rw [g_AT]; exact Nat.ne_of_lt AS_.lt
    have z_AT : h0.size ≤ AT := by rw [g_AT]; exact K.1
    replace AF := AF.ext E10
    replace AH := AH.ext E10
    replace AX_ := AX_.ext E10
    replace AT_ := AT_.ext E10
    replace AD := AD.ext E10
    replace AZ := AZ.ext E10
    replace AS_ := AS_.ext E10
    replace K := K.ext E10
    replace AA : Ary Z h10 AT .int 2 (Nf (fun _ => 0)) := AA.of fun _ _ => rfl
    replace R := R.astore C (Ls' := #[.val (.ref F), .val (.int fs.toInt32), .val (.ref SH), .val (.ref AX), .val (.ref T), .val (.int ts.toInt32), .val (.int (Nat.toInt32 2)), .val (.ref SD), .val (.int (Nat.toInt32 ((1 * d 1) * d 0))), .val (.ref SZ), .val (.ref ST), .val (.ref AT), .unset, .unset, .unset]) (pc' := 105) d3_103 rfl rfl rfl
    replace R := R.iloadN C (pc' := 106) d3_105 rfl rfl
    replace R := R.istore C (Ls' := #[.val (.ref F), .val (.int fs.toInt32), .val (.ref SH), .val (.ref AX), .val (.ref T), .val (.int ts.toInt32), .val (.int (Nat.toInt32 2)), .val (.ref SD), .val (.int (Nat.toInt32 ((1 * d 1) * d 0))), .val (.ref SZ), .val (.ref ST), .val (.ref AT), .val (.int fs.toInt32), .unset, .unset]) (pc' := 108) d3_106 rfl rfl
    replace R := R.iconst C (pc' := 109) d3_108 (v := (0 : Int32)) rfl rfl
    replace R := R.istore C (Ls' := #[.val (.ref F), .val (.int fs.toInt32), .val (.ref SH), .val (.ref AX), .val (.ref T), .val (.int ts.toInt32), .val (.int (Nat.toInt32 2)), .val (.ref SD), .val (.int (Nat.toInt32 ((1 * d 1) * d 0))), .val (.ref SZ), .val (.ref ST), .val (.ref AT), .val (.int fs.toInt32), .val (.int (0 : Int32)), .unset]) (pc' := 111) d3_109 rfl rfl
    replace R := R.asL (Ls' := #[.val (.ref F), .val (.int fs.toInt32), .val (.ref SH), .val (.ref AX), .val (.ref T), .val (.int ts.toInt32), .val (.int (Nat.toInt32 2)), .val (.ref SD), .val (.int (own_cells 2 d).toInt32), .val (.ref SZ), .val (.ref ST), .val (.ref AT), .val (.int (Int32.ofInt ((fs : Int) + (own_it 2 (fun k => d (a k)) (fun k => own_sd 2 d (a k)) 0).2))), .val (.int (Nat.toInt32 0)), .unset]) (by show _ = _; simp only [own_it, Int.add_zero]; rfl)
    replace R := R.more (k' := 4) (n' := 12) (by decide) (by decide)
    replace AT_ : Ary Z h10 T .double 13 (Df (own_tv fs ts (fun c => (own_it 2 (fun k => d (a k)) (fun k => own_sd 2 d (a k)) c).2) tv 0)) := AT_.of fun i _ => congrArg (fun z => Value.double (FP.l2d (Int64.ofInt z))) (show tv i = own_tv fs ts _ tv 0 i by unfold own_tv; rw [if_neg (by omega)])
    obtain ⟨h', s14, src, K2, AT_, R'⟩ := pc_main hw C F SH AX T SD SZ ST AT fs ts 2 (own_cells 2 d) (by decide) hfs hts (fun k => d (a k)) (fun k => own_sd 2 d (a k)) (fun k hk => hd _ (ha k hk)) (Nat.le_trans z0 z_AT) gT ne_SZ_AT ne_ST_AT ne_T_AT nFT ne_F_AT (Ne.symm ne_T_SZ) (Ne.symm ne_T_ST) tv hcl hoff (own_cells 2 d) 0 (by omega) _ .unset One.u (fun k hk => Nat.zero_le _) AZ AS_ AA AF AT_ R
    exact R'.retV C d3_210 ⟨rfl, K.trans K2 (allS (Or.inr z_AT) (allS (Or.inl (List.mem_of_getElem? (i := 0) rfl)) all0)), AT_⟩ (by decide) (by decide)
  · skip
    have K := Keep.refl h0 [T]
    replace R := R.aloadN C (pc' := 1) d3_0 rfl rfl rfl
    replace R := R.alen C AH (v := (Nat.toInt32 3)) rfl (pc' := 2) d3_1 rfl
    replace R := R.istore C (Ls' := #[.val (.ref F), .val (.int fs.toInt32), .val (.ref SH), .val (.ref AX), .val (.ref T), .val (.int ts.toInt32), .val (.int (Nat.toInt32 3)), .unset, .unset, .unset, .unset, .unset, .unset, .unset, .unset]) (pc' := 4) d3_2 rfl rfl
    replace R := R.iload C (pc' := 6) d3_4 rfl rfl
    obtain ⟨h1, R', E1, AD, X1⟩ := R.newA C (N := 3) (cap := 3) (ad := "[I") (C.w 1 rfl) (own_tn (n := 3) (by decide)) (by decide) (by decide) (by decide) d3_6 (by decide) (by decide) (pc' := 8) rfl
    replace R := R'
    clear R'
    obtain ⟨SD, g_SD⟩ : ∃ z, z = h0.size := ⟨_, rfl⟩
    rw [← g_SD] at R AD X1
    have ne_F_SD : F ≠ SD := by rw [g_SD]; exact Nat.ne_of_lt AF.lt
    have ne_SH_SD : SH ≠ SD := by rw [g_SD]; exact Nat.ne_of_lt AH.lt
    have ne_AX_SD : AX ≠ SD := by rw [g_SD]; exact Nat.ne_of_lt AX_.lt
    have ne_T_SD : T ≠ SD := by rw [g_SD]; exact Nat.ne_of_lt AT_.lt
    have z_SD : h0.size ≤ SD := by rw [g_SD]; exact K.1
    replace AF := AF.ext E1
    replace AH := AH.ext E1
    replace AX_ := AX_.ext E1
    replace AT_ := AT_.ext E1
    replace K := K.ext E1
    replace AD : Ary Z h1 SD .int 3 (Nf (fun _ => 0)) := AD.of fun _ _ => rfl
    replace R := R.astore C (Ls' := #[.val (.ref F), .val (.int fs.toInt32), .val (.ref SH), .val (.ref AX), .val (.ref T), .val (.int ts.toInt32), .val (.int (Nat.toInt32 3)), .val (.ref SD), .unset, .unset, .unset, .unset, .unset, .unset, .unset]) (pc' := 10) d3_8 rfl rfl rfl
    replace R := R.iconst C (pc' := 11) d3_10 (v := (1 : Int32)) rfl rfl
    replace R := R.istore C (Ls' := #[.val (.ref F), .val (.int fs.toInt32), .val (.ref SH), .val (.ref AX), .val (.ref T), .val (.int ts.toInt32), .val (.int (Nat.toInt32 3)), .val (.ref SD), .val (.int (1 : Int32)), .unset, .unset, .unset, .unset, .unset, .unset]) (pc' := 13) d3_11 rfl rfl
    replace R := R.iload C (pc' := 15) d3_13 rfl rfl
    replace R := R.iconst C (pc' := 16) d3_15 (v := (1 : Int32)) rfl rfl
    replace R := R.isub C (pc' := 17) d3_16 rfl
    replace R := R.istore C (Ls' := #[.val (.ref F), .val (.int fs.toInt32), .val (.ref SH), .val (.ref AX), .val (.ref T), .val (.int ts.toInt32), .val (.int (Nat.toInt32 3)), .val (.ref SD), .val (.int (1 : Int32)), .val (.int ((Nat.toInt32 3) - (1 : Int32))), .unset, .unset, .unset, .unset, .unset]) (pc' := 19) d3_17 rfl rfl
    replace R := R.asL (Ls' := #[.val (.ref F), .val (.int fs.toInt32), .val (.ref SH), .val (.ref AX), .val (.ref T), .val (.int ts.toInt32), .val (.int (Nat.toInt32 3)), .val (.ref SD), .val (.int (Nat.toInt32 (1))), .val (.int (Nat.toInt32 2)), .unset, .unset, .unset, .unset, .unset]) rfl
    replace R := R.iload C (pc' := 21) d3_19 rfl rfl
    replace R := R.ifN C (pc' := 24) d3_21 rfl rfl
    replace R := R.aload C (pc' := 26) d3_24 rfl rfl rfl
    replace R := R.iload C (pc' := 28) d3_26 rfl rfl
    replace R := R.iload C (pc' := 30) d3_28 rfl rfl
    obtain ⟨h2, R', W2⟩ := R.iastore C AD (i := 2) (own_tn (n := 2) (by decide)) (by decide) (Nat.le_trans z0 z_SD) (pc' := 31) d3_30 rfl
    replace R := R'
    clear R'
    replace AF := AF.other W2 ne_F_SD
    replace AH := AH.other W2 ne_SH_SD
    replace AX_ := AX_.other W2 ne_AX_SD
    replace AT_ := AT_.other W2 ne_T_SD
    replace AD := AD.set W2
    rw [upd_N] at AD
    replace K := K.wr W2 (Or.inr z_SD)
    replace R := R.iload C (pc' := 33) d3_31 rfl rfl
    replace R := R.aloadN C (pc' := 34) d3_33 rfl rfl rfl
    replace R := R.iload C (pc' := 36) d3_34 rfl rfl
    replace R := R.laload C (v := (.long (d 2).toInt32.toInt64)) AH (own_tn (n := 2) (by decide)) (by decide) rfl (pc' := 37) d3_36 rfl
    replace R := R.l2i C (pc' := 38) d3_37 rfl
    replace R := R.imul C (pc' := 39) d3_38 rfl
    rw [own_l2i, own_mmul] at R
    replace R := R.istore C (Ls' := #[.val (.ref F), .val (.int fs.toInt32), .val (.ref SH), .val (.ref AX), .val (.ref T), .val (.int ts.toInt32), .val (.int (Nat.toInt32 3)), .val (.ref SD), .val (.int (Nat.toInt32 (1 * d 2))), .val (.int (Nat.toInt32 2)), .unset, .unset, .unset, .unset, .unset]) (pc' := 41) d3_39 rfl rfl
    replace R := R.iinc C (pc' := 44) (Ls' := #[.val (.ref F), .val (.int fs.toInt32), .val (.ref SH), .val (.ref AX), .val (.ref T), .val (.int ts.toInt32), .val (.int (Nat.toInt32 3)), .val (.ref SD), .val (.int (Nat.toInt32 (1 * d 2))), .val (.int (Nat.toInt32 1)), .unset, .unset, .unset, .unset, .unset]) d3_41 rfl (v := (Nat.toInt32 1)) rfl rfl rfl
    replace R := R.goto C (pc' := 19) d3_44 rfl
    replace R := R.iload C (pc' := 21) d3_19 rfl rfl
    replace R := R.ifN C (pc' := 24) d3_21 rfl rfl
    replace R := R.aload C (pc' := 26) d3_24 rfl rfl rfl
    replace R := R.iload C (pc' := 28) d3_26 rfl rfl
    replace R := R.iload C (pc' := 30) d3_28 rfl rfl
    obtain ⟨h3, R', W3⟩ := R.iastore C AD (i := 1) (own_tn (n := 1) (by decide)) (by decide) (Nat.le_trans z0 z_SD) (pc' := 31) d3_30 rfl
    replace R := R'
    clear R'
    replace AF := AF.other W3 ne_F_SD
    replace AH := AH.other W3 ne_SH_SD
    replace AX_ := AX_.other W3 ne_AX_SD
    replace AT_ := AT_.other W3 ne_T_SD
    replace AD := AD.set W3
    rw [upd_N] at AD
    replace K := K.wr W3 (Or.inr z_SD)
    replace R := R.iload C (pc' := 33) d3_31 rfl rfl
    replace R := R.aloadN C (pc' := 34) d3_33 rfl rfl rfl
    replace R := R.iload C (pc' := 36) d3_34 rfl rfl
    replace R := R.laload C (v := (.long (d 1).toInt32.toInt64)) AH (own_tn (n := 1) (by decide)) (by decide) rfl (pc' := 37) d3_36 rfl
    replace R := R.l2i C (pc' := 38) d3_37 rfl
    replace R := R.imul C (pc' := 39) d3_38 rfl
    rw [own_l2i, own_mmul] at R
    replace R := R.istore C (Ls' := #[.val (.ref F), .val (.int fs.toInt32), .val (.ref SH), .val (.ref AX), .val (.ref T), .val (.int ts.toInt32), .val (.int (Nat.toInt32 3)), .val (.ref SD), .val (.int (Nat.toInt32 ((1 * d 2) * d 1))), .val (.int (Nat.toInt32 1)), .unset, .unset, .unset, .unset, .unset]) (pc' := 41) d3_39 rfl rfl
    replace R := R.iinc C (pc' := 44) (Ls' := #[.val (.ref F), .val (.int fs.toInt32), .val (.ref SH), .val (.ref AX), .val (.ref T), .val (.int ts.toInt32), .val (.int (Nat.toInt32 3)), .val (.ref SD), .val (.int (Nat.toInt32 ((1 * d 2) * d 1))), .val (.int (Nat.toInt32 0)), .unset, .unset, .unset, .unset, .unset]) d3_41 rfl (v := (Nat.toInt32 0)) rfl rfl rfl
    replace R := R.goto C (pc' := 19) d3_44 rfl
    replace R := R.iload C (pc' := 21) d3_19 rfl rfl
    replace R := R.ifN C (pc' := 24) d3_21 rfl rfl
    replace R := R.aload C (pc' := 26) d3_24 rfl rfl rfl
    replace R := R.iload C (pc' := 28) d3_26 rfl rfl
    replace R := R.iload C (pc' := 30) d3_28 rfl rfl
    obtain ⟨h4, R', W4⟩ := R.iastore C AD (i := 0) (own_tn (n := 0) (by decide)) (by decide) (Nat.le_trans z0 z_SD) (pc' := 31) d3_30 rfl
    replace R := R'
    clear R'
    replace AF := AF.other W4 ne_F_SD
    replace AH := AH.other W4 ne_SH_SD
    replace AX_ := AX_.other W4 ne_AX_SD
    replace AT_ := AT_.other W4 ne_T_SD
    replace AD := AD.set W4
    rw [upd_N] at AD
    replace K := K.wr W4 (Or.inr z_SD)
    replace R := R.iload C (pc' := 33) d3_31 rfl rfl
    replace R := R.aloadN C (pc' := 34) d3_33 rfl rfl rfl
    replace R := R.iload C (pc' := 36) d3_34 rfl rfl
    replace R := R.laload C (v := (.long (d 0).toInt32.toInt64)) AH (own_tn (n := 0) (by decide)) (by decide) rfl (pc' := 37) d3_36 rfl
    replace R := R.l2i C (pc' := 38) d3_37 rfl
    replace R := R.imul C (pc' := 39) d3_38 rfl
    rw [own_l2i, own_mmul] at R
    replace R := R.istore C (Ls' := #[.val (.ref F), .val (.int fs.toInt32), .val (.ref SH), .val (.ref AX), .val (.ref T), .val (.int ts.toInt32), .val (.int (Nat.toInt32 3)), .val (.ref SD), .val (.int (Nat.toInt32 (((1 * d 2) * d 1) * d 0))), .val (.int (Nat.toInt32 0)), .unset, .unset, .unset, .unset, .unset]) (pc' := 41) d3_39 rfl rfl
    replace R := R.iinc C (pc' := 44) (Ls' := #[.val (.ref F), .val (.int fs.toInt32), .val (.ref SH), .val (.ref AX), .val (.ref T), .val (.int ts.toInt32), .val (.int (Nat.toInt32 3)), .val (.ref SD), .val (.int (Nat.toInt32 (((1 * d 2) * d 1) * d 0))), .val (.int (-1 : Int32)), .unset, .unset, .unset, .unset, .unset]) d3_41 rfl (v := (-1 : Int32)) rfl rfl rfl
    replace R := R.goto C (pc' := 19) d3_44 rfl
    replace R := R.iload C (pc' := 21) d3_19 rfl rfl
    replace R := R.ifY C (pc' := 47) d3_21 rfl rfl
    replace R := R.iload C (pc' := 49) d3_47 rfl rfl
    replace AD : Ary Z h4 SD .int 3 (Nf (own_sd 3 d)) := AD.of fun i hi => by
      match i, hi with
      | 0, _ => rfl
      | 1, _ => rfl
      | 2, _ => rfl
    obtain ⟨h5, R', E5, AZ, X5⟩ := R.newA C (N := 3) (cap := 3) (ad := "[I") (C.w 1 rfl) (own_tn (n := 3) (by decide)) (by decide) (by decide) (by decide) d3_49 (by decide) (by decide) (pc' := 51) rfl
    replace R := R'
    clear R'
    obtain ⟨SZ, g_SZ⟩ : ∃ z, z = h4.size := ⟨_, rfl⟩
    rw [← g_SZ] at R AZ X5
    have ne_F_SZ : F ≠ SZ := by rw [g_SZ]; exact Nat.ne_of_lt AF.lt
    have ne_SH_SZ : SH ≠ SZ := by rw [g_SZ]; exact Nat.ne_of_lt AH.lt
    have ne_AX_SZ : AX ≠ SZ := by rw [g_SZ]; exact Nat.ne_of_lt AX_.lt
    have ne_T_SZ : T ≠ SZ := by rw [g_SZ]; exact Nat.ne_of_lt AT_.lt
    have ne_SD_SZ : SD ≠ SZ := by rw [g_SZ]; exact Nat.ne_of_lt AD.lt
    have z_SZ : h0.size ≤ SZ := by rw [g_SZ]; exact K.1
    replace AF := AF.ext E5
    replace AH := AH.ext E5
    replace AX_ := AX_.ext E5
    replace AT_ := AT_.ext E5
    replace AD := AD.ext E5
    replace K := K.ext E5
    replace AZ : Ary Z h5 SZ .int 3 (Nf (fun _ => 0)) := AZ.of fun _ _ => rfl
    replace R := R.astore C (Ls' := #[.val (.ref F), .val (.int fs.toInt32), .val (.ref SH), .val (.ref AX), .val (.ref T), .val (.int ts.toInt32), .val (.int (Nat.toInt32 3)), .val (.ref SD), .val (.int (Nat.toInt32 (((1 * d 2) * d 1) * d 0))), .val (.ref SZ), .unset, .unset, .unset, .unset, .unset]) (pc' := 53) d3_51 rfl rfl rfl
    replace R := R.iload C (pc' := 55) d3_53 rfl rfl
    obtain ⟨h6, R', E6, AS_, X6⟩ := R.newA C (N := 3) (cap := 3) (ad := "[I") (C.w 1 rfl) (own_tn (n := 3) (by decide)) (by decide) (by decide) (by decide) d3_55 (by decide) (by decide) (pc' := 57) rfl
    replace R := R'
    clear R'
    obtain ⟨ST, g_ST⟩ : ∃ z, z = h5.size := ⟨_, rfl⟩
    rw [← g_ST] at R AS_ X6
    have ne_F_ST : F ≠ ST := by rw [g_ST]; exact Nat.ne_of_lt AF.lt
    have ne_SH_ST : SH ≠ ST := by rw [g_ST]; exact Nat.ne_of_lt AH.lt
    have ne_AX_ST : AX ≠ ST := by rw [g_ST]; exact Nat.ne_of_lt AX_.lt
    have ne_T_ST : T ≠ ST := by rw [g_ST]; exact Nat.ne_of_lt AT_.lt
    have ne_SD_ST : SD ≠ ST := by rw [g_ST]; exact Nat.ne_of_lt AD.lt
    have ne_SZ_ST : SZ ≠ ST := by rw [g_ST]; exact Nat.ne_of_lt AZ.lt
    have z_ST : h0.size ≤ ST := by rw [g_ST]; exact K.1
    replace AF := AF.ext E6
    replace AH := AH.ext E6
    replace AX_ := AX_.ext E6
    replace AT_ := AT_.ext E6
    replace AD := AD.ext E6
    replace AZ := AZ.ext E6
    replace K := K.ext E6
    replace AS_ : Ary Z h6 ST .int 3 (Nf (fun _ => 0)) := AS_.of fun _ _ => rfl
    replace R := R.astore C (Ls' := #[.val (.ref F), .val (.int fs.toInt32), .val (.ref SH), .val (.ref AX), .val (.ref T), .val (.int ts.toInt32), .val (.int (Nat.toInt32 3)), .val (.ref SD), .val (.int (Nat.toInt32 (((1 * d 2) * d 1) * d 0))), .val (.ref SZ), .val (.ref ST), .unset, .unset, .unset, .unset]) (pc' := 59) d3_57 rfl rfl rfl
    replace R := R.iconst C (pc' := 60) d3_59 (v := (0 : Int32)) rfl rfl
    replace R := R.istore C (Ls' := #[.val (.ref F), .val (.int fs.toInt32), .val (.ref SH), .val (.ref AX), .val (.ref T), .val (.int ts.toInt32), .val (.int (Nat.toInt32 3)), .val (.ref SD), .val (.int (Nat.toInt32 (((1 * d 2) * d 1) * d 0))), .val (.ref SZ), .val (.ref ST), .val (.int (0 : Int32)), .unset, .unset, .unset]) (pc' := 62) d3_60 rfl rfl
    replace R := R.asL (Ls' := #[.val (.ref F), .val (.int fs.toInt32), .val (.ref SH), .val (.ref AX), .val (.ref T), .val (.int ts.toInt32), .val (.int (Nat.toInt32 3)), .val (.ref SD), .val (.int (Nat.toInt32 (((1 * d 2) * d 1) * d 0))), .val (.ref SZ), .val (.ref ST), .val (.int (Nat.toInt32 0)), .unset, .unset, .unset]) rfl
    replace R := R.iload C (pc' := 64) d3_62 rfl rfl
    replace R := R.iload C (pc' := 66) d3_64 rfl rfl
    replace R := R.icmpN C (pc' := 69) d3_66 rfl rfl
    replace R := R.aload C (pc' := 71) d3_69 rfl rfl rfl
    replace R := R.iload C (pc' := 73) d3_71 rfl rfl
    replace R := R.aloadN C (pc' := 74) d3_73 rfl rfl rfl
    replace R := R.aloadN C (pc' := 75) d3_74 rfl rfl rfl
    replace R := R.iload C (pc' := 77) d3_75 rfl rfl
    replace R := R.iaload C (v := (.int (a 0).toInt32)) AX_ (own_tn (n := 0) (by decide)) (by decide) rfl (pc' := 78) d3_77 rfl
    replace R := R.laload C (v := (.long (d (a 0)).toInt32.toInt64)) AH (i := a 0) (own_tn (by have := ha 0 (by decide); omega)) (ha 0 (by decide)) rfl (pc' := 79) d3_78 rfl
    replace R := R.l2i C (pc' := 80) d3_79 rfl
    rw [own_l2i] at R
    obtain ⟨h7, R', W7⟩ := R.iastore C AZ (i := 0) (own_tn (n := 0) (by decide)) (by decide) (Nat.le_trans z0 z_SZ) (pc' := 81) d3_80 rfl
    replace R := R'
    clear R'
    replace AF := AF.other W7 ne_F_SZ
    replace AH := AH.other W7 ne_SH_SZ
    replace AX_ := AX_.other W7 ne_AX_SZ
    replace AT_ := AT_.other W7 ne_T_SZ
    replace AD := AD.other W7 ne_SD_SZ
    replace AZ := AZ.set W7
    replace AS_ := AS_.other W7 (Ne.symm ne_SZ_ST)
    rw [upd_N] at AZ
    replace K := K.wr W7 (Or.inr z_SZ)
    replace R := R.aload C (pc' := 83) d3_81 rfl rfl rfl
    replace R := R.iload C (pc' := 85) d3_83 rfl rfl
    replace R := R.aload C (pc' := 87) d3_85 rfl rfl rfl
    replace R := R.aloadN C (pc' := 88) d3_87 rfl rfl rfl
    replace R := R.iload C (pc' := 90) d3_88 rfl rfl
    replace R := R.iaload C (v := (.int (a 0).toInt32)) AX_ (own_tn (n := 0) (by decide)) (by decide) rfl (pc' := 91) d3_90 rfl
    replace R := R.iaload C (v := (.int (own_sd 3 d (a 0)).toInt32)) AD (i := a 0) (own_tn (by have := ha 0 (by decide); omega)) (ha 0 (by decide)) rfl (pc' := 92) d3_91 rfl
    obtain ⟨h8, R', W8⟩ := R.iastore C AS_ (i := 0) (own_tn (n := 0) (by decide)) (by decide) (Nat.le_trans z0 z_ST) (pc' := 93) d3_92 rfl
    replace R := R'
    clear R'
    replace AF := AF.other W8 ne_F_ST
    replace AH := AH.other W8 ne_SH_ST
    replace AX_ := AX_.other W8 ne_AX_ST
    replace AT_ := AT_.other W8 ne_T_ST
    replace AD := AD.other W8 ne_SD_ST
    replace AZ := AZ.other W8 ne_SZ_ST
    replace AS_ := AS_.set W8
    rw [upd_N] at AS_
    replace K := K.wr W8 (Or.inr z_ST)
    replace R := R.iinc C (pc' := 96) (Ls' := #[.val (.ref F), .val (.int fs.toInt32), .val (.ref SH), .val (.ref AX), .val (.ref T), .val (.int ts.toInt32), .val (.int (Nat.toInt32 3)), .val (.ref SD), .val (.int (Nat.toInt32 (((1 * d 2) * d 1) * d 0))), .val (.ref SZ), .val (.ref ST), .val (.int (Nat.toInt32 1)), .unset, .unset, .unset]) d3_93 rfl (v := (Nat.toInt32 1)) rfl rfl rfl
    replace R := R.goto C (pc' := 62) d3_96 rfl
    replace R := R.iload C (pc' := 64) d3_62 rfl rfl
    replace R := R.iload C (pc' := 66) d3_64 rfl rfl
    replace R := R.icmpN C (pc' := 69) d3_66 rfl rfl
    replace R := R.aload C (pc' := 71) d3_69 rfl rfl rfl
    replace R := R.iload C (pc' := 73) d3_71 rfl rfl
    replace R := R.aloadN C (pc' := 74) d3_73 rfl rfl rfl
    replace R := R.aloadN C (pc' := 75) d3_74 rfl rfl rfl
    replace R := R.iload C (pc' := 77) d3_75 rfl rfl
    replace R := R.iaload C (v := (.int (a 1).toInt32)) AX_ (own_tn (n := 1) (by decide)) (by decide) rfl (pc' := 78) d3_77 rfl
    replace R := R.laload C (v := (.long (d (a 1)).toInt32.toInt64)) AH (i := a 1) (own_tn (by have := ha 1 (by decide); omega)) (ha 1 (by decide)) rfl (pc' := 79) d3_78 rfl
    replace R := R.l2i C (pc' := 80) d3_79 rfl
    rw [own_l2i] at R
    obtain ⟨h9, R', W9⟩ := R.iastore C AZ (i := 1) (own_tn (n := 1) (by decide)) (by decide) (Nat.le_trans z0 z_SZ) (pc' := 81) d3_80 rfl
    replace R := R'
    clear R'
    replace AF := AF.other W9 ne_F_SZ
    replace AH := AH.other W9 ne_SH_SZ
    replace AX_ := AX_.other W9 ne_AX_SZ
    replace AT_ := AT_.other W9 ne_T_SZ
    replace AD := AD.other W9 ne_SD_SZ
    replace AZ := AZ.set W9
    replace AS_ := AS_.other W9 (Ne.symm ne_SZ_ST)
    rw [upd_N] at AZ
    replace K := K.wr W9 (Or.inr z_SZ)
    replace R := R.aload C (pc' := 83) d3_81 rfl rfl rfl
    replace R := R.iload C (pc' := 85) d3_83 rfl rfl
    replace R := R.aload C (pc' := 87) d3_85 rfl rfl rfl
    replace R := R.aloadN C (pc' := 88) d3_87 rfl rfl rfl
    replace R := R.iload C (pc' := 90) d3_88 rfl rfl
    replace R := R.iaload C (v := (.int (a 1).toInt32)) AX_ (own_tn (n := 1) (by decide)) (by decide) rfl (pc' := 91) d3_90 rfl
    replace R := R.iaload C (v := (.int (own_sd 3 d (a 1)).toInt32)) AD (i := a 1) (own_tn (by have := ha 1 (by decide); omega)) (ha 1 (by decide)) rfl (pc' := 92) d3_91 rfl
    obtain ⟨h10, R', W10⟩ := R.iastore C AS_ (i := 1) (own_tn (n := 1) (by decide)) (by decide) (Nat.le_trans z0 z_ST) (pc' := 93) d3_92 rfl
    replace R := R'
    clear R'
    replace AF := AF.other W10 ne_F_ST
    replace AH := AH.other W10 ne_SH_ST
    replace AX_ := AX_.other W10 ne_AX_ST
    replace AT_ := AT_.other W10 ne_T_ST
    replace AD := AD.other W10 ne_SD_ST
    replace AZ := AZ.other W10 ne_SZ_ST
    replace AS_ := AS_.set W10
    rw [upd_N] at AS_
    replace K := K.wr W10 (Or.inr z_ST)
    replace R := R.iinc C (pc' := 96) (Ls' := #[.val (.ref F), .val (.int fs.toInt32), .val (.ref SH), .val (.ref AX), .val (.ref T), .val (.int ts.toInt32), .val (.int (Nat.toInt32 3)), .val (.ref SD), .val (.int (Nat.toInt32 (((1 * d 2) * d 1) * d 0))), .val (.ref SZ), .val (.ref ST), .val (.int (Nat.toInt32 2)), .unset, .unset, .unset]) d3_93 rfl (v := (Nat.toInt32 2)) rfl rfl rfl
    replace R := R.goto C (pc' := 62) d3_96 rfl
    replace R := R.iload C (pc' := 64) d3_62 rfl rfl
    replace R := R.iload C (pc' := 66) d3_64 rfl rfl
    replace R := R.icmpN C (pc' := 69) d3_66 rfl rfl
    replace R := R.aload C (pc' := 71) d3_69 rfl rfl rfl
    replace R := R.iload C (pc' := 73) d3_71 rfl rfl
    replace R := R.aloadN C (pc' := 74) d3_73 rfl rfl rfl
    replace R := R.aloadN C (pc' := 75) d3_74 rfl rfl rfl
    replace R := R.iload C (pc' := 77) d3_75 rfl rfl
    replace R := R.iaload C (v := (.int (a 2).toInt32)) AX_ (own_tn (n := 2) (by decide)) (by decide) rfl (pc' := 78) d3_77 rfl
    replace R := R.laload C (v := (.long (d (a 2)).toInt32.toInt64)) AH (i := a 2) (own_tn (by have := ha 2 (by decide); omega)) (ha 2 (by decide)) rfl (pc' := 79) d3_78 rfl
    replace R := R.l2i C (pc' := 80) d3_79 rfl
    rw [own_l2i] at R
    obtain ⟨h11, R', W11⟩ := R.iastore C AZ (i := 2) (own_tn (n := 2) (by decide)) (by decide) (Nat.le_trans z0 z_SZ) (pc' := 81) d3_80 rfl
    replace R := R'
    clear R'
    replace AF := AF.other W11 ne_F_SZ
    replace AH := AH.other W11 ne_SH_SZ
    replace AX_ := AX_.other W11 ne_AX_SZ
    replace AT_ := AT_.other W11 ne_T_SZ
    replace AD := AD.other W11 ne_SD_SZ
    replace AZ := AZ.set W11
    replace AS_ := AS_.other W11 (Ne.symm ne_SZ_ST)
    rw [upd_N] at AZ
    replace K := K.wr W11 (Or.inr z_SZ)
    replace R := R.aload C (pc' := 83) d3_81 rfl rfl rfl
    replace R := R.iload C (pc' := 85) d3_83 rfl rfl
    replace R := R.aload C (pc' := 87) d3_85 rfl rfl rfl
    replace R := R.aloadN C (pc' := 88) d3_87 rfl rfl rfl
    replace R := R.iload C (pc' := 90) d3_88 rfl rfl
    replace R := R.iaload C (v := (.int (a 2).toInt32)) AX_ (own_tn (n := 2) (by decide)) (by decide) rfl (pc' := 91) d3_90 rfl
    replace R := R.iaload C (v := (.int (own_sd 3 d (a 2)).toInt32)) AD (i := a 2) (own_tn (by have := ha 2 (by decide); omega)) (ha 2 (by decide)) rfl (pc' := 92) d3_91 rfl
    obtain ⟨h12, R', W12⟩ := R.iastore C AS_ (i := 2) (own_tn (n := 2) (by decide)) (by decide) (Nat.le_trans z0 z_ST) (pc' := 93) d3_92 rfl
    replace R := R'
    clear R'
    replace AF := AF.other W12 ne_F_ST
    replace AH := AH.other W12 ne_SH_ST
    replace AX_ := AX_.other W12 ne_AX_ST
    replace AT_ := AT_.other W12 ne_T_ST
    replace AD := AD.other W12 ne_SD_ST
    replace AZ := AZ.other W12 ne_SZ_ST
    replace AS_ := AS_.set W12
    rw [upd_N] at AS_
    replace K := K.wr W12 (Or.inr z_ST)
    replace R := R.iinc C (pc' := 96) (Ls' := #[.val (.ref F), .val (.int fs.toInt32), .val (.ref SH), .val (.ref AX), .val (.ref T), .val (.int ts.toInt32), .val (.int (Nat.toInt32 3)), .val (.ref SD), .val (.int (Nat.toInt32 (((1 * d 2) * d 1) * d 0))), .val (.ref SZ), .val (.ref ST), .val (.int (Nat.toInt32 3)), .unset, .unset, .unset]) d3_93 rfl (v := (Nat.toInt32 3)) rfl rfl rfl
    replace R := R.goto C (pc' := 62) d3_96 rfl
    replace R := R.iload C (pc' := 64) d3_62 rfl rfl
    replace R := R.iload C (pc' := 66) d3_64 rfl rfl
    replace R := R.icmpY C (pc' := 99) d3_66 rfl rfl
    replace R := R.iload C (pc' := 101) d3_99 rfl rfl
    replace AZ : Ary Z h12 SZ .int 3 (Nf (fun k => d (a k))) := AZ.of fun i hi => by
      match i, hi with
      | 0, _ => rfl
      | 1, _ => rfl
      | 2, _ => rfl
    replace AS_ : Ary Z h12 ST .int 3 (Nf (fun k => own_sd 3 d (a k))) := AS_.of fun i hi => by
      match i, hi with
      | 0, _ => rfl
      | 1, _ => rfl
      | 2, _ => rfl
    obtain ⟨h13, R', E13, AA, X13⟩ := R.newA C (N := 3) (cap := 3) (ad := "[I") (C.w 1 rfl) (own_tn (n := 3) (by decide)) (by decide) (by decide) (by decide) d3_101 (by decide) (by decide) (pc' := 103) rfl
    replace R := R'
    clear R'
    obtain ⟨AT, g_AT⟩ : ∃ z, z = h12.size := ⟨_, rfl⟩
    rw [← g_AT] at R AA X13
    have ne_F_AT : F ≠ AT := by rw [g_AT]; exact Nat.ne_of_lt AF.lt
    have ne_SH_AT : SH ≠ AT := by rw [g_AT]; exact Nat.ne_of_lt AH.lt
    have ne_AX_AT : AX ≠ AT := by rw [g_AT]; exact Nat.ne_of_lt AX_.lt
    have ne_T_AT : T ≠ AT := by rw [g_AT]; exact Nat.ne_of_lt AT_.lt
    have ne_SD_AT : SD ≠ AT := by rw [g_AT]; exact Nat.ne_of_lt AD.lt
    have ne_SZ_AT : SZ ≠ AT := by rw [g_AT]; exact Nat.ne_of_lt AZ.lt
    have ne_ST_AT : ST ≠ AT := by rw [g_AT]; exact Nat.ne_of_lt AS_.lt
    have z_AT : h0.size ≤ AT := by rw [g_AT]; exact K.1
    replace AF := AF.ext E13
    replace AH := AH.ext E13
    replace AX_ := AX_.ext E13
    replace AT_ := AT_.ext E13
    replace AD := AD.ext E13
    replace AZ := AZ.ext E13
    replace AS_ := AS_.ext E13
    replace K := K.ext E13
    replace AA : Ary Z h13 AT .int 3 (Nf (fun _ => 0)) := AA.of fun _ _ => rfl
    replace R := R.astore C (Ls' := #[.val (.ref F), .val (.int fs.toInt32), .val (.ref SH), .val (.ref AX), .val (.ref T), .val (.int ts.toInt32), .val (.int (Nat.toInt32 3)), .val (.ref SD), .val (.int (Nat.toInt32 (((1 * d 2) * d 1) * d 0))), .val (.ref SZ), .val (.ref ST), .val (.ref AT), .unset, .unset, .unset]) (pc' := 105) d3_103 rfl rfl rfl
    replace R := R.iloadN C (pc' := 106) d3_105 rfl rfl
    replace R := R.istore C (Ls' := #[.val (.ref F), .val (.int fs.toInt32), .val (.ref SH), .val (.ref AX), .val (.ref T), .val (.int ts.toInt32), .val (.int (Nat.toInt32 3)), .val (.ref SD), .val (.int (Nat.toInt32 (((1 * d 2) * d 1) * d 0))), .val (.ref SZ), .val (.ref ST), .val (.ref AT), .val (.int fs.toInt32), .unset, .unset]) (pc' := 108) d3_106 rfl rfl
    replace R := R.iconst C (pc' := 109) d3_108 (v := (0 : Int32)) rfl rfl
    replace R := R.istore C (Ls' := #[.val (.ref F), .val (.int fs.toInt32), .val (.ref SH), .val (.ref AX), .val (.ref T), .val (.int ts.toInt32), .val (.int (Nat.toInt32 3)), .val (.ref SD), .val (.int (Nat.toInt32 (((1 * d 2) * d 1) * d 0))), .val (.ref SZ), .val (.ref ST), .val (.ref AT), .val (.int fs.toInt32), .val (.int (0 : Int32)), .unset]) (pc' := 111) d3_109 rfl rfl
    replace R := R.asL (Ls' := #[.val (.ref F), .val (.int fs.toInt32), .val (.ref SH), .val (.ref AX), .val (.ref T), .val (.int ts.toInt32), .val (.int (Nat.toInt32 3)), .val (.ref SD), .val (.int (own_cells 3 d).toInt32), .val (.ref SZ), .val (.ref ST), .val (.ref AT), .val (.int (Int32.ofInt ((fs : Int) + (own_it 3 (fun k => d (a k)) (fun k => own_sd 3 d (a k)) 0).2))), .val (.int (Nat.toInt32 0)), .unset]) (by show _ = _; simp only [own_it, Int.add_zero]; rfl)
    replace R := R.more (k' := 4) (n' := 12) (by decide) (by decide)
    replace AT_ : Ary Z h13 T .double 13 (Df (own_tv fs ts (fun c => (own_it 3 (fun k => d (a k)) (fun k => own_sd 3 d (a k)) c).2) tv 0)) := AT_.of fun i _ => congrArg (fun z => Value.double (FP.l2d (Int64.ofInt z))) (show tv i = own_tv fs ts _ tv 0 i by unfold own_tv; rw [if_neg (by omega)])
    obtain ⟨h', s14, src, K2, AT_, R'⟩ := pc_main hw C F SH AX T SD SZ ST AT fs ts 3 (own_cells 3 d) (by decide) hfs hts (fun k => d (a k)) (fun k => own_sd 3 d (a k)) (fun k hk => hd _ (ha k hk)) (Nat.le_trans z0 z_AT) gT ne_SZ_AT ne_ST_AT ne_T_AT nFT ne_F_AT (Ne.symm ne_T_SZ) (Ne.symm ne_T_ST) tv hcl hoff (own_cells 3 d) 0 (by omega) _ .unset One.u (fun k hk => Nat.zero_le _) AZ AS_ AA AF AT_ R
    exact R'.retV C d3_210 ⟨rfl, K.trans K2 (allS (Or.inr z_AT) (allS (Or.inl (List.mem_of_getElem? (i := 0) rfl)) all0)), AT_⟩ (by decide) (by decide)
theorem own_i2dz (x : Int32) (z : Int) (h : x.toInt = z) : FP.i2d x = FP.l2d (Int64.ofInt z) := by
  have h1 := Int32.toInt_lt x
  have h2 := Int32.le_toInt x
  rw [i2d_w]
  congr 1
  apply Int64.toInt_inj.mp
  rw [Int32.toInt_toInt64, h, Int64.toInt_ofInt_of_le (by omega) (by omega)]
theorem own_negq : ∀ q : Nat, q < 13 → (-((q + 1).toInt32)).toInt = -((q : Int) + 1) := by decide
theorem own_nz {n : Nat} (h0 : 0 < n) (h : n < 2 ^ 31) : n.toInt32 ≠ 0 := fun q => by
  have e := own_tn h
  rw [q] at e
  have : (0 : Int32).toInt = 0 := rfl
  omega
def own_wt (q ts cells fs r : Nat) (d a : Nat → Nat) : Int := if q < ts ∨ cells ≤ q - ts then -((q : Int) + 1) else (fs : Int) + (own_ix r d a (q - ts) : Int) + 1
set_option maxRecDepth 65536 in
set_option maxHeartbeats 40000000 in
theorem con_ok (l : Launch) (Z : State) (a0 : Array Value) (hw : ∀ d ∈ tables_1, d.before a0 Z = true) (T S AX PZ : Addr) (q ts cells fs r : Nat) (hq : q < 13) (hts : ts < 4) (hcl : cells ≤ 9) (hfs : fs < 4) (d a : Nat → Nat) (tv : Nat → Int) (h0 : Heap) (n0 : Nat) (z0 : n0 ≤ h0.size) (htv : -100000 < tv q ∧ tv q < 100000) (hs : ∀ k, k < 3 → own_s r d k ≤ 9) (hax : ∀ k, k < 3 → own_a r a k < 3) (hpz : ∀ k, k < 3 → own_pz r d a k ≤ 9) (hnz : ¬ (q < ts ∨ cells ≤ q - ts) → 0 < own_pz r d a 1 ∧ 0 < own_pz r d a 2 ∧ own_ix r d a (q - ts) ≤ 9) (AT_ : Ary Z h0 T .double 13 (Df tv)) (AS_ : Ary Z h0 S .int 3 (Nf (own_s r d))) (AA : Ary Z h0 AX .int 3 (Nf (own_a r a))) (AZ : Ary Z h0 PZ .int 3 (Nf (own_pz r d a))) :
    Con l Z (⟨"com/example/lacuna_tensor/lacunatensor/DenseTensorPermuteCellsPinLaw", "ok", "([DIIII[I[I[I)Z"⟩ : MethodName) method_5_code 16 (some .boolean) ({ frames := 0, cells := 1, slots := 3, locals := 0 } : Room) #[(.ref T), (.int q.toInt32), (.int ts.toInt32), (.int cells.toInt32), (.int fs.toInt32), (.ref S), (.ref AX), (.ref PZ)] h0 n0 (fun v h' => v = some (.int (own_b (decide (tv q = own_wt q ts cells fs r d a)))) ∧ Keep h0 h' []) := by
  refine Con.mk (tb := tables_1) (a0 := a0) (Ls := #[.val (.ref T), .val (.int q.toInt32), .val (.int ts.toInt32), .val (.int cells.toInt32), .val (.int fs.toInt32), .val (.ref S), .val (.ref AX), .val (.ref PZ), .unset, .unset, .unset, .unset, .unset, .unset, .unset, .unset]) pf_4 hw z0 (fun m => by first | (simp [entryFrame, mkF, argsToLocals, Value.category, maxLocals]; done) | rfl) ?_
  intro p e s m below meth c S0 C R
  have tq := own_tn (n := q) (by omega)
  replace R := R.iloadN C (pc' := 1) d4_0 rfl rfl
  replace R := R.iloadN C (pc' := 2) d4_1 rfl rfl
  replace R := R.isub C (pc' := 3) d4_2 rfl
  by_cases c1 : q < ts
  · skip
    have hout : q < ts ∨ cells ≤ q - ts := Or.inl c1
    rw [show q.toInt32 - ts.toInt32 = Int32.ofInt ((q : Int) - (ts : Int)) from own_osub (q : Int) ts] at R
    replace R := R.istore C (Ls' := #[.val (.ref T), .val (.int q.toInt32), .val (.int ts.toInt32), .val (.int cells.toInt32), .val (.int fs.toInt32), .val (.ref S), .val (.ref AX), .val (.ref PZ), .unset, .unset, .val (.int (Int32.ofInt ((q : Int) - (ts : Int)))), .unset, .unset, .unset, .unset, .unset]) (pc' := 5) d4_3 rfl rfl
    replace R := R.iload C (pc' := 7) d4_5 rfl rfl
    replace R := R.ifY C (pc' := 16) d4_7 (by rw [h_lt]; exact decide_eq_true (by rw [own_otn (by omega) (by omega)]; omega)) rfl
    replace R := R.iloadN C (pc' := 17) d4_16 rfl rfl
    replace R := R.iconst C (pc' := 18) d4_17 (v := (1 : Int32)) rfl rfl
    replace R := R.iadd C (pc' := 19) d4_18 rfl
    rw [show q.toInt32 + (1 : Int32) = (q + 1).toInt32 from own_madd q 1] at R
    replace R := R.ineg C (pc' := 20) d4_19 rfl
    have ew : own_wt q ts cells fs r d a = -((q : Int) + 1) := by unfold own_wt; rw [if_pos hout]
    have hw1 : -100000 < -((q : Int) + 1) := by omega
    have hw2 : -((q : Int) + 1) < 100000 := by omega
    replace R := R.i2d C (v := (FP.l2d (Int64.ofInt (-((q : Int) + 1))))) (pc' := 21) d4_20 (own_i2dz _ _ (own_negq q hq)) rfl
    replace R := R.dstore C (pc' := 23) (Ls' := #[.val (.ref T), .val (.int q.toInt32), .val (.int ts.toInt32), .val (.int cells.toInt32), .val (.int fs.toInt32), .val (.ref S), .val (.ref AX), .val (.ref PZ), .val (.double (FP.l2d (Int64.ofInt (-((q : Int) + 1))))), .second, .val (.int (Int32.ofInt ((q : Int) - (ts : Int)))), .unset, .unset, .unset, .unset, .unset]) d4_21 rfl rfl
    replace R := R.goto C (pc' := 131) d4_23 rfl
    replace R := R.aloadN C (pc' := 132) d4_131 rfl rfl rfl
    replace R := R.iloadN C (pc' := 133) d4_132 rfl rfl
    replace R := R.daload C (v := (.double (FP.l2d (Int64.ofInt (tv q))))) AT_ tq hq rfl (pc' := 134) d4_133 rfl
    replace R := R.dload C (pc' := 136) d4_134 rfl rfl
    replace R := R.dcmp C (pc' := 137) d4_136 (dcmpV_w (own_b53 htv.1 htv.2) (own_b53 hw1 hw2) _) rfl
    replace R := R.dia C (b := (decide (tv q = -((q : Int) + 1)))) (pc' := 145) d4_137 d4_140 d4_141 d4_144 (by rw [lcmp_ne, decide_not]; congr 1; exact decide_eq_decide.mpr (own_ofi hw1 hw2 htv.1 htv.2)) rfl
    exact R.retZ C d4_145 ⟨by rw [ew], Keep.refl h0 []⟩ (by decide) (by decide)
  · rw [own_msub (show ts ≤ q by omega)] at R
    replace R := R.istore C (Ls' := #[.val (.ref T), .val (.int q.toInt32), .val (.int ts.toInt32), .val (.int cells.toInt32), .val (.int fs.toInt32), .val (.ref S), .val (.ref AX), .val (.ref PZ), .unset, .unset, .val (.int (q - ts).toInt32), .unset, .unset, .unset, .unset, .unset]) (pc' := 5) d4_3 rfl rfl
    replace R := R.iload C (pc' := 7) d4_5 rfl rfl
    replace R := R.ifN C (pc' := 10) d4_7 (by rw [h_lt]; exact decide_eq_false (by rw [own_tn (by omega)]; omega)) rfl
    replace R := R.iload C (pc' := 12) d4_10 rfl rfl
    replace R := R.iloadN C (pc' := 13) d4_12 rfl rfl
    by_cases c2 : cells ≤ q - ts
    · skip
      have hout : q < ts ∨ cells ≤ q - ts := Or.inr c2
      replace R := R.icmpN C (pc' := 16) d4_13 (by rw [own_lt (by omega) (by omega)]; exact decide_eq_false (by omega)) rfl
      replace R := R.iloadN C (pc' := 17) d4_16 rfl rfl
      replace R := R.iconst C (pc' := 18) d4_17 (v := (1 : Int32)) rfl rfl
      replace R := R.iadd C (pc' := 19) d4_18 rfl
      rw [show q.toInt32 + (1 : Int32) = (q + 1).toInt32 from own_madd q 1] at R
      replace R := R.ineg C (pc' := 20) d4_19 rfl
      have ew : own_wt q ts cells fs r d a = -((q : Int) + 1) := by unfold own_wt; rw [if_pos hout]
      have hw1 : -100000 < -((q : Int) + 1) := by omega
      have hw2 : -((q : Int) + 1) < 100000 := by omega
      replace R := R.i2d C (v := (FP.l2d (Int64.ofInt (-((q : Int) + 1))))) (pc' := 21) d4_20 (own_i2dz _ _ (own_negq q hq)) rfl
      replace R := R.dstore C (pc' := 23) (Ls' := #[.val (.ref T), .val (.int q.toInt32), .val (.int ts.toInt32), .val (.int cells.toInt32), .val (.int fs.toInt32), .val (.ref S), .val (.ref AX), .val (.ref PZ), .val (.double (FP.l2d (Int64.ofInt (-((q : Int) + 1))))), .second, .val (.int (q - ts).toInt32), .unset, .unset, .unset, .unset, .unset]) d4_21 rfl rfl
      replace R := R.goto C (pc' := 131) d4_23 rfl
      replace R := R.aloadN C (pc' := 132) d4_131 rfl rfl rfl
      replace R := R.iloadN C (pc' := 133) d4_132 rfl rfl
      replace R := R.daload C (v := (.double (FP.l2d (Int64.ofInt (tv q))))) AT_ tq hq rfl (pc' := 134) d4_133 rfl
      replace R := R.dload C (pc' := 136) d4_134 rfl rfl
      replace R := R.dcmp C (pc' := 137) d4_136 (dcmpV_w (own_b53 htv.1 htv.2) (own_b53 hw1 hw2) _) rfl
      replace R := R.dia C (b := (decide (tv q = -((q : Int) + 1)))) (pc' := 145) d4_137 d4_140 d4_141 d4_144 (by rw [lcmp_ne, decide_not]; congr 1; exact decide_eq_decide.mpr (own_ofi hw1 hw2 htv.1 htv.2)) rfl
      exact R.retZ C d4_145 ⟨by rw [ew], Keep.refl h0 []⟩ (by decide) (by decide)
    · skip
      have hin : ¬ (q < ts ∨ cells ≤ q - ts) := by omega
      obtain ⟨p1, p2, hix⟩ := hnz hin
      have b1 := hpz 1 (by decide)
      have b2 := hpz 2 (by decide)
      have hc : q - ts < 13 := by omega
      replace R := R.icmpY C (pc' := 26) d4_13 (by rw [own_lt (by omega) (by omega)]; exact decide_eq_true (by omega)) rfl
      replace R := R.iload C (pc' := 28) d4_26 rfl rfl
      replace R := R.aload C (pc' := 30) d4_28 rfl rfl rfl
      replace R := R.iconst C (pc' := 31) d4_30 (v := (2 : Int32)) rfl rfl
      replace R := R.iaload C (v := (.int (own_pz r d a 2).toInt32)) AZ (i := 2) rfl (by decide) rfl (pc' := 32) d4_31 rfl
      replace R := R.irem C (pc' := 33) d4_32 (own_nz p2 (by omega)) rfl
      rw [own_mrem (by omega) (by omega) p2] at R
      replace R := R.istore C (Ls' := #[.val (.ref T), .val (.int q.toInt32), .val (.int ts.toInt32), .val (.int cells.toInt32), .val (.int fs.toInt32), .val (.ref S), .val (.ref AX), .val (.ref PZ), .unset, .unset, .val (.int (q - ts).toInt32), .val (.int (Nat.toInt32 ((q - ts) % (own_pz r d a 2)))), .unset, .unset, .unset, .unset]) (pc' := 35) d4_33 rfl rfl
      replace R := R.iload C (pc' := 37) d4_35 rfl rfl
      replace R := R.aload C (pc' := 39) d4_37 rfl rfl rfl
      replace R := R.iconst C (pc' := 40) d4_39 (v := (2 : Int32)) rfl rfl
      replace R := R.iaload C (v := (.int (own_pz r d a 2).toInt32)) AZ (i := 2) rfl (by decide) rfl (pc' := 41) d4_40 rfl
      replace R := R.idiv C (pc' := 42) d4_41 (own_nz p2 (by omega)) rfl
      rw [own_mdiv (by omega) (by omega) p2] at R
      have hle : (q - ts) / (own_pz r d a 2) ≤ (q - ts) := Nat.div_le_self _ _
      replace R := R.aload C (pc' := 44) d4_42 rfl rfl rfl
      replace R := R.iconst C (pc' := 45) d4_44 (v := (1 : Int32)) rfl rfl
      replace R := R.iaload C (v := (.int (own_pz r d a 1).toInt32)) AZ (i := 1) rfl (by decide) rfl (pc' := 46) d4_45 rfl
      replace R := R.irem C (pc' := 47) d4_46 (own_nz p1 (by omega)) rfl
      rw [own_mrem (by omega) (by omega) p1] at R
      replace R := R.istore C (Ls' := #[.val (.ref T), .val (.int q.toInt32), .val (.int ts.toInt32), .val (.int cells.toInt32), .val (.int fs.toInt32), .val (.ref S), .val (.ref AX), .val (.ref PZ), .unset, .unset, .val (.int (q - ts).toInt32), .val (.int (Nat.toInt32 ((q - ts) % (own_pz r d a 2)))), .val (.int (Nat.toInt32 ((q - ts) / (own_pz r d a 2) % (own_pz r d a 1)))), .unset, .unset, .unset]) (pc' := 49) d4_47 rfl rfl
      replace R := R.iload C (pc' := 51) d4_49 rfl rfl
      replace R := R.aload C (pc' := 53) d4_51 rfl rfl rfl
      replace R := R.iconst C (pc' := 54) d4_53 (v := (2 : Int32)) rfl rfl
      replace R := R.iaload C (v := (.int (own_pz r d a 2).toInt32)) AZ (i := 2) rfl (by decide) rfl (pc' := 55) d4_54 rfl
      replace R := R.aload C (pc' := 57) d4_55 rfl rfl rfl
      replace R := R.iconst C (pc' := 58) d4_57 (v := (1 : Int32)) rfl rfl
      replace R := R.iaload C (v := (.int (own_pz r d a 1).toInt32)) AZ (i := 1) rfl (by decide) rfl (pc' := 59) d4_58 rfl
      replace R := R.imul C (pc' := 60) d4_59 rfl
      rw [own_mmul] at R
      have pp : 0 < (own_pz r d a 2) * (own_pz r d a 1) := Nat.mul_pos p2 p1
      have pb : (own_pz r d a 2) * (own_pz r d a 1) ≤ 9 * 9 := Nat.mul_le_mul b2 b1
      replace R := R.idiv C (pc' := 61) d4_60 (own_nz pp (by omega)) rfl
      rw [own_mdiv (by omega) (by omega) pp] at R
      replace R := R.istore C (Ls' := #[.val (.ref T), .val (.int q.toInt32), .val (.int ts.toInt32), .val (.int cells.toInt32), .val (.int fs.toInt32), .val (.ref S), .val (.ref AX), .val (.ref PZ), .unset, .unset, .val (.int (q - ts).toInt32), .val (.int (Nat.toInt32 ((q - ts) % (own_pz r d a 2)))), .val (.int (Nat.toInt32 ((q - ts) / (own_pz r d a 2) % (own_pz r d a 1)))), .val (.int (Nat.toInt32 ((q - ts) / ((own_pz r d a 2) * (own_pz r d a 1))))), .unset, .unset]) (pc' := 63) d4_61 rfl rfl
      replace R := R.iconst C (pc' := 64) d4_63 (v := (3 : Int32)) rfl rfl
      have K := Keep.refl h0 []
      obtain ⟨h1, R', E1, AJ, X1⟩ := R.newA C (N := 3) (cap := 3) (ad := "[I") (C.w 1 rfl) rfl (by decide) (by decide) (by decide) d4_64 (by decide) (by decide) (pc' := 66) rfl
      replace R := R'
      clear R'
      obtain ⟨J, g_J⟩ : ∃ z, z = h0.size := ⟨_, rfl⟩
      rw [← g_J] at R AJ X1
      have ne_T_J : T ≠ J := by rw [g_J]; exact Nat.ne_of_lt AT_.lt
      have ne_S_J : S ≠ J := by rw [g_J]; exact Nat.ne_of_lt AS_.lt
      have ne_AX_J : AX ≠ J := by rw [g_J]; exact Nat.ne_of_lt AA.lt
      have ne_PZ_J : PZ ≠ J := by rw [g_J]; exact Nat.ne_of_lt AZ.lt
      have z_J : h0.size ≤ J := Nat.le_of_eq g_J.symm
      replace AT_ := AT_.ext E1
      replace AS_ := AS_.ext E1
      replace AA := AA.ext E1
      replace AZ := AZ.ext E1
      replace K := K.ext E1
      replace AJ : Ary Z h1 J .int 3 (Nf (fun _ => 0)) := AJ.of fun _ _ => rfl
      replace R := R.astore C (Ls' := #[.val (.ref T), .val (.int q.toInt32), .val (.int ts.toInt32), .val (.int cells.toInt32), .val (.int fs.toInt32), .val (.ref S), .val (.ref AX), .val (.ref PZ), .unset, .unset, .val (.int (q - ts).toInt32), .val (.int (Nat.toInt32 ((q - ts) % (own_pz r d a 2)))), .val (.int (Nat.toInt32 ((q - ts) / (own_pz r d a 2) % (own_pz r d a 1)))), .val (.int (Nat.toInt32 ((q - ts) / ((own_pz r d a 2) * (own_pz r d a 1))))), .val (.ref J), .unset]) (pc' := 68) d4_66 rfl rfl rfl
      replace R := R.aload C (pc' := 70) d4_68 rfl rfl rfl
      replace R := R.aload C (pc' := 72) d4_70 rfl rfl rfl
      replace R := R.iconst C (pc' := 73) d4_72 (v := (0 : Int32)) rfl rfl
      replace R := R.iaload C (v := (.int (own_a r a 0).toInt32)) AA (i := 0) rfl (by decide) rfl (pc' := 74) d4_73 rfl
      replace R := R.iload C (pc' := 76) d4_74 rfl rfl
      obtain ⟨h2, R', W2⟩ := R.iastore C AJ (i := (own_a r a 0)) (own_tn (by have := hax 0 (by decide); omega)) (hax 0 (by decide)) (Nat.le_trans z0 z_J) (pc' := 77) d4_76 rfl
      replace R := R'
      clear R'
      replace AT_ := AT_.other W2 ne_T_J
      replace AS_ := AS_.other W2 ne_S_J
      replace AA := AA.other W2 ne_AX_J
      replace AZ := AZ.other W2 ne_PZ_J
      replace AJ := AJ.set W2
      rw [upd_N] at AJ
      replace K := K.wr W2 (Or.inr z_J)
      replace R := R.aload C (pc' := 79) d4_77 rfl rfl rfl
      replace R := R.aload C (pc' := 81) d4_79 rfl rfl rfl
      replace R := R.iconst C (pc' := 82) d4_81 (v := (1 : Int32)) rfl rfl
      replace R := R.iaload C (v := (.int (own_a r a 1).toInt32)) AA (i := 1) rfl (by decide) rfl (pc' := 83) d4_82 rfl
      replace R := R.iload C (pc' := 85) d4_83 rfl rfl
      obtain ⟨h3, R', W3⟩ := R.iastore C AJ (i := (own_a r a 1)) (own_tn (by have := hax 1 (by decide); omega)) (hax 1 (by decide)) (Nat.le_trans z0 z_J) (pc' := 86) d4_85 rfl
      replace R := R'
      clear R'
      replace AT_ := AT_.other W3 ne_T_J
      replace AS_ := AS_.other W3 ne_S_J
      replace AA := AA.other W3 ne_AX_J
      replace AZ := AZ.other W3 ne_PZ_J
      replace AJ := AJ.set W3
      rw [upd_N] at AJ
      replace K := K.wr W3 (Or.inr z_J)
      replace R := R.aload C (pc' := 88) d4_86 rfl rfl rfl
      replace R := R.aload C (pc' := 90) d4_88 rfl rfl rfl
      replace R := R.iconst C (pc' := 91) d4_90 (v := (2 : Int32)) rfl rfl
      replace R := R.iaload C (v := (.int (own_a r a 2).toInt32)) AA (i := 2) rfl (by decide) rfl (pc' := 92) d4_91 rfl
      replace R := R.iload C (pc' := 94) d4_92 rfl rfl
      obtain ⟨h4, R', W4⟩ := R.iastore C AJ (i := (own_a r a 2)) (own_tn (by have := hax 2 (by decide); omega)) (hax 2 (by decide)) (Nat.le_trans z0 z_J) (pc' := 95) d4_94 rfl
      replace R := R'
      clear R'
      replace AT_ := AT_.other W4 ne_T_J
      replace AS_ := AS_.other W4 ne_S_J
      replace AA := AA.other W4 ne_AX_J
      replace AZ := AZ.other W4 ne_PZ_J
      replace AJ := AJ.set W4
      rw [upd_N] at AJ
      replace K := K.wr W4 (Or.inr z_J)
      replace AJ : Ary Z h4 J .int 3 (Nf (own_j r d a (q - ts))) := AJ
      replace R := R.aload C (pc' := 97) d4_95 rfl rfl rfl
      replace R := R.iconst C (pc' := 98) d4_97 (v := (0 : Int32)) rfl rfl
      replace R := R.iaload C (v := (.int (own_j r d a (q - ts) 0).toInt32)) AJ (i := 0) rfl (by decide) rfl (pc' := 99) d4_98 rfl
      replace R := R.aload C (pc' := 101) d4_99 rfl rfl rfl
      replace R := R.iconst C (pc' := 102) d4_101 (v := (1 : Int32)) rfl rfl
      replace R := R.iaload C (v := (.int (own_s r d 1).toInt32)) AS_ (i := 1) rfl (by decide) rfl (pc' := 103) d4_102 rfl
      replace R := R.imul C (pc' := 104) d4_103 rfl
      replace R := R.aload C (pc' := 106) d4_104 rfl rfl rfl
      replace R := R.iconst C (pc' := 107) d4_106 (v := (1 : Int32)) rfl rfl
      replace R := R.iaload C (v := (.int (own_j r d a (q - ts) 1).toInt32)) AJ (i := 1) rfl (by decide) rfl (pc' := 108) d4_107 rfl
      replace R := R.iadd C (pc' := 109) d4_108 rfl
      replace R := R.aload C (pc' := 111) d4_109 rfl rfl rfl
      replace R := R.iconst C (pc' := 112) d4_111 (v := (2 : Int32)) rfl rfl
      replace R := R.iaload C (v := (.int (own_s r d 2).toInt32)) AS_ (i := 2) rfl (by decide) rfl (pc' := 113) d4_112 rfl
      replace R := R.imul C (pc' := 114) d4_113 rfl
      replace R := R.aload C (pc' := 116) d4_114 rfl rfl rfl
      replace R := R.iconst C (pc' := 117) d4_116 (v := (2 : Int32)) rfl rfl
      replace R := R.iaload C (v := (.int (own_j r d a (q - ts) 2).toInt32)) AJ (i := 2) rfl (by decide) rfl (pc' := 118) d4_117 rfl
      replace R := R.iadd C (pc' := 119) d4_118 rfl
      rw [own_mmul, own_madd, own_mmul, own_madd] at R
      replace R := R.as (st' := [(.int (Nat.toInt32 (own_ix r d a (q - ts))))]) rfl
      replace R := R.istore C (Ls' := #[.val (.ref T), .val (.int q.toInt32), .val (.int ts.toInt32), .val (.int cells.toInt32), .val (.int fs.toInt32), .val (.ref S), .val (.ref AX), .val (.ref PZ), .unset, .unset, .val (.int (q - ts).toInt32), .val (.int (Nat.toInt32 ((q - ts) % (own_pz r d a 2)))), .val (.int (Nat.toInt32 ((q - ts) / (own_pz r d a 2) % (own_pz r d a 1)))), .val (.int (Nat.toInt32 ((q - ts) / ((own_pz r d a 2) * (own_pz r d a 1))))), .val (.ref J), .val (.int (Nat.toInt32 (own_ix r d a (q - ts))))]) (pc' := 121) d4_119 rfl rfl
      replace R := R.iload C (pc' := 123) d4_121 rfl rfl
      replace R := R.iload C (pc' := 125) d4_123 rfl rfl
      replace R := R.iadd C (pc' := 126) d4_125 rfl
      replace R := R.iconst C (pc' := 127) d4_126 (v := (1 : Int32)) rfl rfl
      replace R := R.iadd C (pc' := 128) d4_127 rfl
      rw [own_madd, show (fs + own_ix r d a (q - ts)).toInt32 + (1 : Int32) = (fs + own_ix r d a (q - ts) + 1).toInt32 from own_madd _ 1] at R
      have ew : own_wt q ts cells fs r d a = (fs : Int) + (own_ix r d a (q - ts) : Int) + 1 := by unfold own_wt; rw [if_neg hin]
      have hw1 : -100000 < (fs : Int) + (own_ix r d a (q - ts) : Int) + 1 := by omega
      have hw2 : (fs : Int) + (own_ix r d a (q - ts) : Int) + 1 < 100000 := by omega
      replace R := R.i2d C (v := (FP.l2d (Int64.ofInt ((fs : Int) + (own_ix r d a (q - ts) : Int) + 1)))) (pc' := 129) d4_128 (own_i2dz _ _ (by rw [own_tn (by omega)]; omega)) rfl
      replace R := R.dstore C (pc' := 131) (Ls' := #[.val (.ref T), .val (.int q.toInt32), .val (.int ts.toInt32), .val (.int cells.toInt32), .val (.int fs.toInt32), .val (.ref S), .val (.ref AX), .val (.ref PZ), .val (.double (FP.l2d (Int64.ofInt ((fs : Int) + (own_ix r d a (q - ts) : Int) + 1)))), .second, .val (.int (q - ts).toInt32), .val (.int (Nat.toInt32 ((q - ts) % (own_pz r d a 2)))), .val (.int (Nat.toInt32 ((q - ts) / (own_pz r d a 2) % (own_pz r d a 1)))), .val (.int (Nat.toInt32 ((q - ts) / ((own_pz r d a 2) * (own_pz r d a 1))))), .val (.ref J), .val (.int (Nat.toInt32 (own_ix r d a (q - ts))))]) d4_129 rfl rfl
      replace R := R.aloadN C (pc' := 132) d4_131 rfl rfl rfl
      replace R := R.iloadN C (pc' := 133) d4_132 rfl rfl
      replace R := R.daload C (v := (.double (FP.l2d (Int64.ofInt (tv q))))) AT_ tq hq rfl (pc' := 134) d4_133 rfl
      replace R := R.dload C (pc' := 136) d4_134 rfl rfl
      replace R := R.dcmp C (pc' := 137) d4_136 (dcmpV_w (own_b53 htv.1 htv.2) (own_b53 hw1 hw2) _) rfl
      replace R := R.dia C (b := (decide (tv q = (fs : Int) + (own_ix r d a (q - ts) : Int) + 1))) (pc' := 145) d4_137 d4_140 d4_141 d4_144 (by rw [lcmp_ne, decide_not]; congr 1; exact decide_eq_decide.mpr (own_ofi hw1 hw2 htv.1 htv.2)) rfl
      exact R.retZ C d4_145 ⟨by rw [ew], K⟩ (by decide) (by decide)
theorem OrrA_keep {Z : State} {h h' : Heap} {a : Addr} {ty : FieldType} {K : String} {ws : List Addr} (O : OrrA Z h a ty K) (Kp : Keep h h' ws) : OrrA Z h' a ty K := by
  obtain ⟨cl, q, r⟩ := O
  obtain ⟨c', e1, e2, -⟩ := Kp.2.2 _ _ q
  exact ⟨c', e1, by rw [e2]; exact r⟩
theorem own_gx {r : Nat} {d a : Nat → Nat} (g : own_good r d a = true) : own_cells r d ≤ 9 ∧ ∀ c, c < own_cells r d → (own_it r (fun k => d (a k)) (fun k => own_sd r d (a k)) c).2 = (own_ix r d a c : Int) ∧ own_ix r d a c ≤ 9 ∧ 0 < own_pz r d a 1 ∧ 0 < own_pz r d a 2 := by
  unfold own_good at g
  rw [Bool.and_eq_true, List.all_eq_true] at g
  refine ⟨of_decide_eq_true g.1, fun c hc => ?_⟩
  have q := g.2 c (List.mem_range.mpr hc)
  simp only [Bool.and_eq_true, decide_eq_true_eq] at q
  exact ⟨q.1.1.1, q.1.1.2, q.1.2, q.2⟩
theorem own_allq {r : Nat} {d a : Nat → Nat} (g : own_good r d a = true) (fs ts q : Nat) : own_tv fs ts (fun c => (own_it r (fun k => d (a k)) (fun k => own_sd r d (a k)) c).2) (fun i => -((i : Int) + 1)) (own_cells r d) q = own_wt q ts (own_cells r d) fs r d a := by
  obtain ⟨g1, g2⟩ := own_gx g
  unfold own_tv own_wt
  by_cases h : ts ≤ q ∧ q < ts + own_cells r d
  · rw [if_pos h, if_neg (by omega)]; show (fs : Int) + (own_it r (fun k => d (a k)) (fun k => own_sd r d (a k)) (q - ts)).2 + 1 = _; rw [(g2 (q - ts) (by omega)).1]
  · rw [if_neg h, if_pos (by omega)]
theorem own_wtb {r : Nat} {d a : Nat → Nat} (g : own_good r d a = true) (fs ts q : Nat) (hf : fs < 4) (hq : q < 13) : -100000 < own_wt q ts (own_cells r d) fs r d a ∧ own_wt q ts (own_cells r d) fs r d a < 100000 := by
  obtain ⟨g1, g2⟩ := own_gx g
  unfold own_wt
  by_cases h : q < ts ∨ own_cells r d ≤ q - ts
  · rw [if_pos h]; omega
  · rw [if_neg h]; have := (g2 (q - ts) (by omega)).2.1; omega
theorem own_fb0 : Value.double (4607182418800017408 : UInt64) = Df (fun i => (i : Int) + 1) 0 := congrArg Value.double (by decide +kernel)
theorem own_tb0 : Value.double (13830554455654793216 : UInt64) = Df (fun i => -((i : Int) + 1)) 0 := congrArg Value.double (by decide +kernel)
theorem own_fb1 : Value.double (4611686018427387904 : UInt64) = Df (fun i => (i : Int) + 1) 1 := congrArg Value.double (by decide +kernel)
theorem own_tb1 : Value.double (13835058055282163712 : UInt64) = Df (fun i => -((i : Int) + 1)) 1 := congrArg Value.double (by decide +kernel)
theorem own_fb2 : Value.double (4613937818241073152 : UInt64) = Df (fun i => (i : Int) + 1) 2 := congrArg Value.double (by decide +kernel)
theorem own_tb2 : Value.double (13837309855095848960 : UInt64) = Df (fun i => -((i : Int) + 1)) 2 := congrArg Value.double (by decide +kernel)
theorem own_fb3 : Value.double (4616189618054758400 : UInt64) = Df (fun i => (i : Int) + 1) 3 := congrArg Value.double (by decide +kernel)
theorem own_tb3 : Value.double (13839561654909534208 : UInt64) = Df (fun i => -((i : Int) + 1)) 3 := congrArg Value.double (by decide +kernel)
theorem own_fb4 : Value.double (4617315517961601024 : UInt64) = Df (fun i => (i : Int) + 1) 4 := congrArg Value.double (by decide +kernel)
theorem own_tb4 : Value.double (13840687554816376832 : UInt64) = Df (fun i => -((i : Int) + 1)) 4 := congrArg Value.double (by decide +kernel)
theorem own_fb5 : Value.double (4618441417868443648 : UInt64) = Df (fun i => (i : Int) + 1) 5 := congrArg Value.double (by decide +kernel)
theorem own_tb5 : Value.double (13841813454723219456 : UInt64) = Df (fun i => -((i : Int) + 1)) 5 := congrArg Value.double (by decide +kernel)
theorem own_fb6 : Value.double (4619567317775286272 : UInt64) = Df (fun i => (i : Int) + 1) 6 := congrArg Value.double (by decide +kernel)
theorem own_tb6 : Value.double (13842939354630062080 : UInt64) = Df (fun i => -((i : Int) + 1)) 6 := congrArg Value.double (by decide +kernel)
theorem own_fb7 : Value.double (4620693217682128896 : UInt64) = Df (fun i => (i : Int) + 1) 7 := congrArg Value.double (by decide +kernel)
theorem own_tb7 : Value.double (13844065254536904704 : UInt64) = Df (fun i => -((i : Int) + 1)) 7 := congrArg Value.double (by decide +kernel)
theorem own_fb8 : Value.double (4621256167635550208 : UInt64) = Df (fun i => (i : Int) + 1) 8 := congrArg Value.double (by decide +kernel)
theorem own_tb8 : Value.double (13844628204490326016 : UInt64) = Df (fun i => -((i : Int) + 1)) 8 := congrArg Value.double (by decide +kernel)
theorem own_fb9 : Value.double (4621819117588971520 : UInt64) = Df (fun i => (i : Int) + 1) 9 := congrArg Value.double (by decide +kernel)
theorem own_tb9 : Value.double (13845191154443747328 : UInt64) = Df (fun i => -((i : Int) + 1)) 9 := congrArg Value.double (by decide +kernel)
theorem own_fb10 : Value.double (4622382067542392832 : UInt64) = Df (fun i => (i : Int) + 1) 10 := congrArg Value.double (by decide +kernel)
theorem own_tb10 : Value.double (13845754104397168640 : UInt64) = Df (fun i => -((i : Int) + 1)) 10 := congrArg Value.double (by decide +kernel)
theorem own_fb11 : Value.double (4622945017495814144 : UInt64) = Df (fun i => (i : Int) + 1) 11 := congrArg Value.double (by decide +kernel)
theorem own_tb11 : Value.double (13846317054350589952 : UInt64) = Df (fun i => -((i : Int) + 1)) 11 := congrArg Value.double (by decide +kernel)
theorem own_fb12 : Value.double (4623507967449235456 : UInt64) = Df (fun i => (i : Int) + 1) 12 := congrArg Value.double (by decide +kernel)
theorem own_tb12 : Value.double (13846880004304011264 : UInt64) = Df (fun i => -((i : Int) + 1)) 12 := congrArg Value.double (by decide +kernel)
set_option maxRecDepth 65536 in
set_option maxHeartbeats 40000000 in
theorem own_stE {p : Program} {l : Launch} {e : Env} {s : State} {m : MethodId} {args : Array Value} {below : List Frame} {meth : Method} {c : Code} {S0 : State} {n0 : Nat} {Z : State} {a0 : Array Value} {h0 : Heap} (hw : ∀ d ∈ tables_1, d.before a0 Z = true) (C : Ctx p s m meth c Z a0 tables_1 x.cls code maxLocals x.name ret) (x0 x1 x2 x3 x4 mv bv off : Int32) (D PP A SH AXS S AX PZ : Addr) (r fs ts : Nat) (hr : r < 4) (hfs : fs < 4) (hts : ts < 4) (d a : Nat → Nat) (hd : ∀ k, k < r → d k ≤ 9) (ha : ∀ k, k < r → a k < r) (hs : ∀ k, k < 3 → own_s r d k ≤ 9) (hax : ∀ k, k < 3 → own_a r a k < 3) (good : own_good r d a = true) (AH : Ary Z h0 SH .long r (Jf d)) (AX_ : Ary Z h0 AXS .int r (Nf a)) (AS_ : Ary Z h0 S .int 3 (Nf (own_s r d))) (AA : Ary Z h0 AX .int 3 (Nf (own_a r a))) (AZ : Ary Z h0 PZ .int 3 (Nf (own_pz r d a))) (R : Rch p l e room_1 s m args below meth c S0 n0 14 45 h0 538 #[.val (.int x0), .val (.int x1), .val (.int x2), .val (.int x3), .val (.int x4), .val (.int r.toInt32), .val (.int fs.toInt32), .val (.int ts.toInt32), .val (.int mv), .val (.int bv), .val (.ref D), .val (.ref PP), .val (.ref A), .val (.ref SH), .val (.ref AXS), .val (.int (own_cells r d).toInt32), .val (.int off), .val (.ref S), .val (.ref AX), .val (.ref PZ), .unset, .unset, .unset] []) :
    OwnEnds p e below s S0 n0 (fun v h' => v = some (.int 1)) room_1.cells room_1.slots := by
  have hpz : ∀ k, k < 3 → own_pz r d a k ≤ 9 := fun k hk => hs _ (hax k hk)
  obtain ⟨hcl, gd⟩ := own_gx good
  have gszF := R.size
  replace R := R.bipush C (pc' := 540) at_538 (v := (13 : Int32)) rfl rfl
  have K := Keep.refl h0 []
  obtain ⟨hF, R', EF, AF, XF⟩ := R.newA C (N := 13) (cap := 13) (ad := "[D") (C.w 13 rfl) rfl (by decide) (by decide) (by decide) at_540 (by decide) (by decide) (pc' := 542) rfl
  replace R := R'
  clear R'
  obtain ⟨F, g_F⟩ : ∃ z, z = h0.size := ⟨_, rfl⟩
  rw [← g_F] at R AF XF
  have z_F : h0.size ≤ F := Nat.le_of_eq g_F.symm
  replace K := K.ext EF
  have gg_F : n0 ≤ F := Nat.le_trans gszF z_F
  replace R := R.dup C (pc' := 543) at_542 rfl rfl
  replace R := R.iconst C (pc' := 544) at_543 (v := (0 : Int32)) rfl rfl
  replace R := R.dconst1 C (v := (4607182418800017408 : UInt64)) (pc' := 545) at_544 (by decide +kernel) rfl
  obtain ⟨hF0, R', WF0⟩ := R.dastore C AF (i := 0) rfl (by decide) gg_F (pc' := 546) at_545 rfl
  replace R := R'
  clear R'
  replace AF := AF.set WF0
  replace K := K.wr WF0 (Or.inr z_F)
  replace R := R.dup C (pc' := 547) at_546 rfl rfl
  replace R := R.iconst C (pc' := 548) at_547 (v := (1 : Int32)) rfl rfl
  replace R := R.ldcD C (v := (4611686018427387904 : UInt64)) (C.w 14 rfl) (pc' := 551) at_548 rfl
  obtain ⟨hF1, R', WF1⟩ := R.dastore C AF (i := 1) rfl (by decide) gg_F (pc' := 552) at_551 rfl
  replace R := R'
  clear R'
  replace AF := AF.set WF1
  replace K := K.wr WF1 (Or.inr z_F)
  replace R := R.dup C (pc' := 553) at_552 rfl rfl
  replace R := R.iconst C (pc' := 554) at_553 (v := (2 : Int32)) rfl rfl
  replace R := R.ldcD C (v := (4613937818241073152 : UInt64)) (C.w 15 rfl) (pc' := 557) at_554 rfl
  obtain ⟨hF2, R', WF2⟩ := R.dastore C AF (i := 2) rfl (by decide) gg_F (pc' := 558) at_557 rfl
  replace R := R'
  clear R'
  replace AF := AF.set WF2
  replace K := K.wr WF2 (Or.inr z_F)
  replace R := R.dup C (pc' := 559) at_558 rfl rfl
  replace R := R.iconst C (pc' := 560) at_559 (v := (3 : Int32)) rfl rfl
  replace R := R.ldcD C (v := (4616189618054758400 : UInt64)) (C.w 16 rfl) (pc' := 563) at_560 rfl
  obtain ⟨hF3, R', WF3⟩ := R.dastore C AF (i := 3) rfl (by decide) gg_F (pc' := 564) at_563 rfl
  replace R := R'
  clear R'
  replace AF := AF.set WF3
  replace K := K.wr WF3 (Or.inr z_F)
  replace R := R.dup C (pc' := 565) at_564 rfl rfl
  replace R := R.iconst C (pc' := 566) at_565 (v := (4 : Int32)) rfl rfl
  replace R := R.ldcD C (v := (4617315517961601024 : UInt64)) (C.w 17 rfl) (pc' := 569) at_566 rfl
  obtain ⟨hF4, R', WF4⟩ := R.dastore C AF (i := 4) rfl (by decide) gg_F (pc' := 570) at_569 rfl
  replace R := R'
  clear R'
  replace AF := AF.set WF4
  replace K := K.wr WF4 (Or.inr z_F)
  replace R := R.dup C (pc' := 571) at_570 rfl rfl
  replace R := R.iconst C (pc' := 572) at_571 (v := (5 : Int32)) rfl rfl
  replace R := R.ldcD C (v := (4618441417868443648 : UInt64)) (C.w 18 rfl) (pc' := 575) at_572 rfl
  obtain ⟨hF5, R', WF5⟩ := R.dastore C AF (i := 5) rfl (by decide) gg_F (pc' := 576) at_575 rfl
  replace R := R'
  clear R'
  replace AF := AF.set WF5
  replace K := K.wr WF5 (Or.inr z_F)
  replace R := R.dup C (pc' := 577) at_576 rfl rfl
  replace R := R.bipush C (pc' := 579) at_577 (v := (6 : Int32)) rfl rfl
  replace R := R.ldcD C (v := (4619567317775286272 : UInt64)) (C.w 19 rfl) (pc' := 582) at_579 rfl
  obtain ⟨hF6, R', WF6⟩ := R.dastore C AF (i := 6) rfl (by decide) gg_F (pc' := 583) at_582 rfl
  replace R := R'
  clear R'
  replace AF := AF.set WF6
  replace K := K.wr WF6 (Or.inr z_F)
  replace R := R.dup C (pc' := 584) at_583 rfl rfl
  replace R := R.bipush C (pc' := 586) at_584 (v := (7 : Int32)) rfl rfl
  replace R := R.ldcD C (v := (4620693217682128896 : UInt64)) (C.w 20 rfl) (pc' := 589) at_586 rfl
  obtain ⟨hF7, R', WF7⟩ := R.dastore C AF (i := 7) rfl (by decide) gg_F (pc' := 590) at_589 rfl
  replace R := R'
  clear R'
  replace AF := AF.set WF7
  replace K := K.wr WF7 (Or.inr z_F)
  replace R := R.dup C (pc' := 591) at_590 rfl rfl
  replace R := R.bipush C (pc' := 593) at_591 (v := (8 : Int32)) rfl rfl
  replace R := R.ldcD C (v := (4621256167635550208 : UInt64)) (C.w 21 rfl) (pc' := 596) at_593 rfl
  obtain ⟨hF8, R', WF8⟩ := R.dastore C AF (i := 8) rfl (by decide) gg_F (pc' := 597) at_596 rfl
  replace R := R'
  clear R'
  replace AF := AF.set WF8
  replace K := K.wr WF8 (Or.inr z_F)
  replace R := R.dup C (pc' := 598) at_597 rfl rfl
  replace R := R.bipush C (pc' := 600) at_598 (v := (9 : Int32)) rfl rfl
  replace R := R.ldcD C (v := (4621819117588971520 : UInt64)) (C.w 22 rfl) (pc' := 603) at_600 rfl
  obtain ⟨hF9, R', WF9⟩ := R.dastore C AF (i := 9) rfl (by decide) gg_F (pc' := 604) at_603 rfl
  replace R := R'
  clear R'
  replace AF := AF.set WF9
  replace K := K.wr WF9 (Or.inr z_F)
  replace R := R.dup C (pc' := 605) at_604 rfl rfl
  replace R := R.bipush C (pc' := 607) at_605 (v := (10 : Int32)) rfl rfl
  replace R := R.ldcD C (v := (4622382067542392832 : UInt64)) (C.w 23 rfl) (pc' := 610) at_607 rfl
  obtain ⟨hF10, R', WF10⟩ := R.dastore C AF (i := 10) rfl (by decide) gg_F (pc' := 611) at_610 rfl
  replace R := R'
  clear R'
  replace AF := AF.set WF10
  replace K := K.wr WF10 (Or.inr z_F)
  replace R := R.dup C (pc' := 612) at_611 rfl rfl
  replace R := R.bipush C (pc' := 614) at_612 (v := (11 : Int32)) rfl rfl
  replace R := R.ldcD C (v := (4622945017495814144 : UInt64)) (C.w 24 rfl) (pc' := 617) at_614 rfl
  obtain ⟨hF11, R', WF11⟩ := R.dastore C AF (i := 11) rfl (by decide) gg_F (pc' := 618) at_617 rfl
  replace R := R'
  clear R'
  replace AF := AF.set WF11
  replace K := K.wr WF11 (Or.inr z_F)
  replace R := R.dup C (pc' := 619) at_618 rfl rfl
  replace R := R.bipush C (pc' := 621) at_619 (v := (12 : Int32)) rfl rfl
  replace R := R.ldcD C (v := (4623507967449235456 : UInt64)) (C.w 25 rfl) (pc' := 624) at_621 rfl
  obtain ⟨hF12, R', WF12⟩ := R.dastore C AF (i := 12) rfl (by decide) gg_F (pc' := 625) at_624 rfl
  replace R := R'
  clear R'
  replace AF := AF.set WF12
  replace K := K.wr WF12 (Or.inr z_F)
  replace AF : Ary Z hF12 F .double 13 (Df (fun i => (i : Int) + 1)) := AF.of fun i hi => by
    match i, hi with
    | 0, _ => exact own_fb0
    | 1, _ => exact own_fb1
    | 2, _ => exact own_fb2
    | 3, _ => exact own_fb3
    | 4, _ => exact own_fb4
    | 5, _ => exact own_fb5
    | 6, _ => exact own_fb6
    | 7, _ => exact own_fb7
    | 8, _ => exact own_fb8
    | 9, _ => exact own_fb9
    | 10, _ => exact own_fb10
    | 11, _ => exact own_fb11
    | 12, _ => exact own_fb12
  replace AH := AH.keep K nin0
  replace AX_ := AX_.keep K nin0
  replace AS_ := AS_.keep K nin0
  replace AA := AA.keep K nin0
  replace AZ := AZ.keep K nin0
  clear K
  replace R := R.astore C (Ls' := #[.val (.int x0), .val (.int x1), .val (.int x2), .val (.int x3), .val (.int x4), .val (.int r.toInt32), .val (.int fs.toInt32), .val (.int ts.toInt32), .val (.int mv), .val (.int bv), .val (.ref D), .val (.ref PP), .val (.ref A), .val (.ref SH), .val (.ref AXS), .val (.int (own_cells r d).toInt32), .val (.int off), .val (.ref S), .val (.ref AX), .val (.ref PZ), .val (.ref F), .unset, .unset]) (pc' := 627) at_625 rfl rfl rfl
  replace R := R.bipush C (pc' := 629) at_627 (v := (13 : Int32)) rfl rfl
  have gszT := R.size
  have K := Keep.refl hF12 []
  obtain ⟨hT, R', ET, AT_, XT⟩ := R.newA C (N := 13) (cap := 13) (ad := "[D") (C.w 13 rfl) rfl (by decide) (by decide) (by decide) at_629 (by decide) (by decide) (pc' := 631) rfl
  replace R := R'
  clear R'
  obtain ⟨T, g_T⟩ : ∃ z, z = hF12.size := ⟨_, rfl⟩
  rw [← g_T] at R AT_ XT
  have z_T : hF12.size ≤ T := Nat.le_of_eq g_T.symm
  replace K := K.ext ET
  have gg_T : n0 ≤ T := Nat.le_trans gszT z_T
  replace R := R.dup C (pc' := 632) at_631 rfl rfl
  replace R := R.iconst C (pc' := 633) at_632 (v := (0 : Int32)) rfl rfl
  replace R := R.ldcD C (v := (13830554455654793216 : UInt64)) (C.w 26 rfl) (pc' := 636) at_633 rfl
  obtain ⟨hT0, R', WT0⟩ := R.dastore C AT_ (i := 0) rfl (by decide) gg_T (pc' := 637) at_636 rfl
  replace R := R'
  clear R'
  replace AT_ := AT_.set WT0
  replace K := K.wr WT0 (Or.inr z_T)
  replace R := R.dup C (pc' := 638) at_637 rfl rfl
  replace R := R.iconst C (pc' := 639) at_638 (v := (1 : Int32)) rfl rfl
  replace R := R.ldcD C (v := (13835058055282163712 : UInt64)) (C.w 27 rfl) (pc' := 642) at_639 rfl
  obtain ⟨hT1, R', WT1⟩ := R.dastore C AT_ (i := 1) rfl (by decide) gg_T (pc' := 643) at_642 rfl
  replace R := R'
  clear R'
  replace AT_ := AT_.set WT1
  replace K := K.wr WT1 (Or.inr z_T)
  replace R := R.dup C (pc' := 644) at_643 rfl rfl
  replace R := R.iconst C (pc' := 645) at_644 (v := (2 : Int32)) rfl rfl
  replace R := R.ldcD C (v := (13837309855095848960 : UInt64)) (C.w 28 rfl) (pc' := 648) at_645 rfl
  obtain ⟨hT2, R', WT2⟩ := R.dastore C AT_ (i := 2) rfl (by decide) gg_T (pc' := 649) at_648 rfl
  replace R := R'
  clear R'
  replace AT_ := AT_.set WT2
  replace K := K.wr WT2 (Or.inr z_T)
  replace R := R.dup C (pc' := 650) at_649 rfl rfl
  replace R := R.iconst C (pc' := 651) at_650 (v := (3 : Int32)) rfl rfl
  replace R := R.ldcD C (v := (13839561654909534208 : UInt64)) (C.w 29 rfl) (pc' := 654) at_651 rfl
  obtain ⟨hT3, R', WT3⟩ := R.dastore C AT_ (i := 3) rfl (by decide) gg_T (pc' := 655) at_654 rfl
  replace R := R'
  clear R'
  replace AT_ := AT_.set WT3
  replace K := K.wr WT3 (Or.inr z_T)
  replace R := R.dup C (pc' := 656) at_655 rfl rfl
  replace R := R.iconst C (pc' := 657) at_656 (v := (4 : Int32)) rfl rfl
  replace R := R.ldcD C (v := (13840687554816376832 : UInt64)) (C.w 30 rfl) (pc' := 660) at_657 rfl
  obtain ⟨hT4, R', WT4⟩ := R.dastore C AT_ (i := 4) rfl (by decide) gg_T (pc' := 661) at_660 rfl
  replace R := R'
  clear R'
  replace AT_ := AT_.set WT4
  replace K := K.wr WT4 (Or.inr z_T)
  replace R := R.dup C (pc' := 662) at_661 rfl rfl
  replace R := R.iconst C (pc' := 663) at_662 (v := (5 : Int32)) rfl rfl
  replace R := R.ldcD C (v := (13841813454723219456 : UInt64)) (C.w 31 rfl) (pc' := 666) at_663 rfl
  obtain ⟨hT5, R', WT5⟩ := R.dastore C AT_ (i := 5) rfl (by decide) gg_T (pc' := 667) at_666 rfl
  replace R := R'
  clear R'
  replace AT_ := AT_.set WT5
  replace K := K.wr WT5 (Or.inr z_T)
  replace R := R.dup C (pc' := 668) at_667 rfl rfl
  replace R := R.bipush C (pc' := 670) at_668 (v := (6 : Int32)) rfl rfl
  replace R := R.ldcD C (v := (13842939354630062080 : UInt64)) (C.w 32 rfl) (pc' := 673) at_670 rfl
  obtain ⟨hT6, R', WT6⟩ := R.dastore C AT_ (i := 6) rfl (by decide) gg_T (pc' := 674) at_673 rfl
  replace R := R'
  clear R'
  replace AT_ := AT_.set WT6
  replace K := K.wr WT6 (Or.inr z_T)
  replace R := R.dup C (pc' := 675) at_674 rfl rfl
  replace R := R.bipush C (pc' := 677) at_675 (v := (7 : Int32)) rfl rfl
  replace R := R.ldcD C (v := (13844065254536904704 : UInt64)) (C.w 33 rfl) (pc' := 680) at_677 rfl
  obtain ⟨hT7, R', WT7⟩ := R.dastore C AT_ (i := 7) rfl (by decide) gg_T (pc' := 681) at_680 rfl
  replace R := R'
  clear R'
  replace AT_ := AT_.set WT7
  replace K := K.wr WT7 (Or.inr z_T)
  replace R := R.dup C (pc' := 682) at_681 rfl rfl
  replace R := R.bipush C (pc' := 684) at_682 (v := (8 : Int32)) rfl rfl
  replace R := R.ldcD C (v := (13844628204490326016 : UInt64)) (C.w 34 rfl) (pc' := 687) at_684 rfl
  obtain ⟨hT8, R', WT8⟩ := R.dastore C AT_ (i := 8) rfl (by decide) gg_T (pc' := 688) at_687 rfl
  replace R := R'
  clear R'
  replace AT_ := AT_.set WT8
  replace K := K.wr WT8 (Or.inr z_T)
  replace R := R.dup C (pc' := 689) at_688 rfl rfl
  replace R := R.bipush C (pc' := 691) at_689 (v := (9 : Int32)) rfl rfl
  replace R := R.ldcD C (v := (13845191154443747328 : UInt64)) (C.w 35 rfl) (pc' := 694) at_691 rfl
  obtain ⟨hT9, R', WT9⟩ := R.dastore C AT_ (i := 9) rfl (by decide) gg_T (pc' := 695) at_694 rfl
  replace R := R'
  clear R'
  replace AT_ := AT_.set WT9
  replace K := K.wr WT9 (Or.inr z_T)
  replace R := R.dup C (pc' := 696) at_695 rfl rfl
  replace R := R.bipush C (pc' := 698) at_696 (v := (10 : Int32)) rfl rfl
  replace R := R.ldcD C (v := (13845754104397168640 : UInt64)) (C.w 36 rfl) (pc' := 701) at_698 rfl
  obtain ⟨hT10, R', WT10⟩ := R.dastore C AT_ (i := 10) rfl (by decide) gg_T (pc' := 702) at_701 rfl
  replace R := R'
  clear R'
  replace AT_ := AT_.set WT10
  replace K := K.wr WT10 (Or.inr z_T)
  replace R := R.dup C (pc' := 703) at_702 rfl rfl
  replace R := R.bipush C (pc' := 705) at_703 (v := (11 : Int32)) rfl rfl
  replace R := R.ldcD C (v := (13846317054350589952 : UInt64)) (C.w 37 rfl) (pc' := 708) at_705 rfl
  obtain ⟨hT11, R', WT11⟩ := R.dastore C AT_ (i := 11) rfl (by decide) gg_T (pc' := 709) at_708 rfl
  replace R := R'
  clear R'
  replace AT_ := AT_.set WT11
  replace K := K.wr WT11 (Or.inr z_T)
  replace R := R.dup C (pc' := 710) at_709 rfl rfl
  replace R := R.bipush C (pc' := 712) at_710 (v := (12 : Int32)) rfl rfl
  replace R := R.ldcD C (v := (13846880004304011264 : UInt64)) (C.w 38 rfl) (pc' := 715) at_712 rfl
  obtain ⟨hT12, R', WT12⟩ := R.dastore C AT_ (i := 12) rfl (by decide) gg_T (pc' := 716) at_715 rfl
  replace R := R'
  clear R'
  replace AT_ := AT_.set WT12
  replace K := K.wr WT12 (Or.inr z_T)
  replace AT_ : Ary Z hT12 T .double 13 (Df (fun i => -((i : Int) + 1))) := AT_.of fun i hi => by
    match i, hi with
    | 0, _ => exact own_tb0
    | 1, _ => exact own_tb1
    | 2, _ => exact own_tb2
    | 3, _ => exact own_tb3
    | 4, _ => exact own_tb4
    | 5, _ => exact own_tb5
    | 6, _ => exact own_tb6
    | 7, _ => exact own_tb7
    | 8, _ => exact own_tb8
    | 9, _ => exact own_tb9
    | 10, _ => exact own_tb10
    | 11, _ => exact own_tb11
    | 12, _ => exact own_tb12
  have ne_SH : SH ≠ T := by rw [g_T]; exact Nat.ne_of_lt AH.lt
  replace AH := AH.keep K nin0
  have ne_AXS : AXS ≠ T := by rw [g_T]; exact Nat.ne_of_lt AX_.lt
  replace AX_ := AX_.keep K nin0
  have ne_S : S ≠ T := by rw [g_T]; exact Nat.ne_of_lt AS_.lt
  replace AS_ := AS_.keep K nin0
  have ne_AX : AX ≠ T := by rw [g_T]; exact Nat.ne_of_lt AA.lt
  replace AA := AA.keep K nin0
  have ne_PZ : PZ ≠ T := by rw [g_T]; exact Nat.ne_of_lt AZ.lt
  replace AZ := AZ.keep K nin0
  have ne_F : F ≠ T := by rw [g_T]; exact Nat.ne_of_lt AF.lt
  replace AF := AF.keep K nin0
  clear K
  replace R := R.astore C (Ls' := #[.val (.int x0), .val (.int x1), .val (.int x2), .val (.int x3), .val (.int x4), .val (.int r.toInt32), .val (.int fs.toInt32), .val (.int ts.toInt32), .val (.int mv), .val (.int bv), .val (.ref D), .val (.ref PP), .val (.ref A), .val (.ref SH), .val (.ref AXS), .val (.int (own_cells r d).toInt32), .val (.int off), .val (.ref S), .val (.ref AX), .val (.ref PZ), .val (.ref F), .val (.ref T), .unset]) (pc' := 718) at_716 rfl rfl rfl
  replace R := R.aload C (pc' := 720) at_718 rfl rfl rfl
  replace R := R.iload C (pc' := 722) at_720 rfl rfl
  replace R := R.aload C (pc' := 724) at_722 rfl rfl rfl
  replace R := R.aload C (pc' := 726) at_724 rfl rfl rfl
  replace R := R.aload C (pc' := 728) at_726 rfl rfl rfl
  replace R := R.iload C (pc' := 730) at_728 rfl rfl
  obtain ⟨_, h1, R', rfl, K, AT_⟩ := R.callS C (y := (⟨"com/example/lacuna_tensor/lacunatensor/DenseTensor", "permuteCells", "([DI[J[I[DI)V"⟩ : MethodName)) (C.w 39 rfl) (C.w 40 rfl) (C.w 41 rfl) (C.w 42 rfl) (by decide) [(.ref F), (.int fs.toInt32), (.ref SH), (.ref AXS), (.ref T), (.int ts.toInt32)] [] rfl (con_pc l Z a0 hw F SH AXS T fs ts r hfs hts hr d a (fun i => -((i : Int) + 1)) hT12 n0 R.size gg_T ne_F hd ha hcl (fun c hc => by obtain ⟨q1, q2, -, -⟩ := gd c hc; rw [q1]; omega) AF AH AX_ AT_) 0 (Nat.le_of_eq rfl) (by decide) (by decide) (by decide) (by decide) (lenOf pd_1 rfl) rfl (pc' := 733) at_730 rfl
  clear R
  replace R := R'.as (st' := []) rfl
  clear R'
  replace AS_ := AS_.keep K (ninS ne_S nin0)
  replace AA := AA.keep K (ninS ne_AX nin0)
  replace AZ := AZ.keep K (ninS ne_PZ nin0)
  clear K AF AH AX_
  obtain ⟨TV, e_TV⟩ : ∃ z, z = own_tv fs ts (fun c => (own_it r (fun k => d (a k)) (fun k => own_sd r d (a k)) c).2) (fun i => -((i : Int) + 1)) (own_cells r d) := ⟨_, rfl⟩
  rw [← e_TV] at AT_
  have hall : ∀ q, q < 13 → TV q = own_wt q ts (own_cells r d) fs r d a := fun q _ => by rw [e_TV]; exact own_allq good fs ts q
  have hbd : ∀ q, q < 13 → -100000 < TV q ∧ TV q < 100000 := fun q hq => by rw [hall q hq]; exact own_wtb good fs ts q hfs hq
  replace R := R.aload C (pc' := 735) at_733 rfl rfl rfl
  replace R := R.iconst C (pc' := 736) at_735 (v := (0 : Int32)) rfl rfl
  replace R := R.iload C (pc' := 738) at_736 rfl rfl
  replace R := R.iload C (pc' := 740) at_738 rfl rfl
  replace R := R.iload C (pc' := 742) at_740 rfl rfl
  replace R := R.aload C (pc' := 744) at_742 rfl rfl rfl
  replace R := R.aload C (pc' := 746) at_744 rfl rfl rfl
  replace R := R.aload C (pc' := 748) at_746 rfl rfl rfl
  replace R := R.as (st' := [(.ref PZ), (.ref AX), (.ref S), (.int fs.toInt32), (.int (own_cells r d).toInt32), (.int ts.toInt32), (.int (Nat.toInt32 0)), (.ref T)]) rfl
  obtain ⟨_, k0, R', rfl, K⟩ := R.callS C (y := (⟨"com/example/lacuna_tensor/lacunatensor/DenseTensorPermuteCellsPinLaw", "ok", "([DIIII[I[I[I)Z"⟩ : MethodName)) (C.w 43 rfl) (C.w 44 rfl) (C.w 8 rfl) (C.w 45 rfl) (by decide) [(.ref T), (.int (Nat.toInt32 0)), (.int ts.toInt32), (.int (own_cells r d).toInt32), (.int fs.toInt32), (.ref S), (.ref AX), (.ref PZ)] [] rfl (con_ok l Z a0 hw T S AX PZ 0 ts (own_cells r d) fs r (by decide) hts hcl hfs d a TV h1 n0 R.size (hbd 0 (by decide)) hs hax hpz (fun hn => by obtain ⟨-, q2, q3, q4⟩ := gd (0 - ts) (by omega); exact ⟨q3, q4, q2⟩) AT_ AS_ AA AZ) 0 (Nat.le_of_eq rfl) (by decide) (by decide) (by decide) (by decide) (lenOf pd_2 rfl) rfl (pc' := 751) at_748 rfl
  clear R
  replace R := R'.as (st' := [(.int (1 : Int32))]) (by rw [decide_eq_true (hall 0 (by decide))]; rfl)
  clear R'
  replace AT_ := AT_.keep K nin0
  replace AS_ := AS_.keep K nin0
  replace AA := AA.keep K nin0
  replace AZ := AZ.keep K nin0
  clear K
  replace R := R.istore C (Ls' := #[.val (.int x0), .val (.int x1), .val (.int x2), .val (.int x3), .val (.int x4), .val (.int r.toInt32), .val (.int fs.toInt32), .val (.int ts.toInt32), .val (.int mv), .val (.int bv), .val (.ref D), .val (.ref PP), .val (.ref A), .val (.ref SH), .val (.ref AXS), .val (.int (own_cells r d).toInt32), .val (.int off), .val (.ref S), .val (.ref AX), .val (.ref PZ), .val (.ref F), .val (.ref T), .val (.int (1 : Int32))]) (pc' := 753) at_751 rfl rfl
  replace R := R.iload C (pc' := 755) at_753 rfl rfl
  replace R := R.aload C (pc' := 757) at_755 rfl rfl rfl
  replace R := R.iconst C (pc' := 758) at_757 (v := (1 : Int32)) rfl rfl
  replace R := R.iload C (pc' := 760) at_758 rfl rfl
  replace R := R.iload C (pc' := 762) at_760 rfl rfl
  replace R := R.iload C (pc' := 764) at_762 rfl rfl
  replace R := R.aload C (pc' := 766) at_764 rfl rfl rfl
  replace R := R.aload C (pc' := 768) at_766 rfl rfl rfl
  replace R := R.aload C (pc' := 770) at_768 rfl rfl rfl
  replace R := R.as (st' := [(.ref PZ), (.ref AX), (.ref S), (.int fs.toInt32), (.int (own_cells r d).toInt32), (.int ts.toInt32), (.int (Nat.toInt32 1)), (.ref T), (.int (1 : Int32))]) rfl
  obtain ⟨_, k1, R', rfl, K⟩ := R.callS C (y := (⟨"com/example/lacuna_tensor/lacunatensor/DenseTensorPermuteCellsPinLaw", "ok", "([DIIII[I[I[I)Z"⟩ : MethodName)) (C.w 43 rfl) (C.w 44 rfl) (C.w 8 rfl) (C.w 45 rfl) (by decide) [(.ref T), (.int (Nat.toInt32 1)), (.int ts.toInt32), (.int (own_cells r d).toInt32), (.int fs.toInt32), (.ref S), (.ref AX), (.ref PZ)] [(.int (1 : Int32))] rfl (con_ok l Z a0 hw T S AX PZ 1 ts (own_cells r d) fs r (by decide) hts hcl hfs d a TV k0 n0 R.size (hbd 1 (by decide)) hs hax hpz (fun hn => by obtain ⟨-, q2, q3, q4⟩ := gd (1 - ts) (by omega); exact ⟨q3, q4, q2⟩) AT_ AS_ AA AZ) 1 (Nat.le_of_eq rfl) (by decide) (by decide) (by decide) (by decide) (lenOf pd_2 rfl) rfl (pc' := 773) at_770 rfl
  clear R
  replace R := R'.as (st' := [(.int (1 : Int32)), (.int (1 : Int32))]) (by rw [decide_eq_true (hall 1 (by decide))]; rfl)
  clear R'
  replace AT_ := AT_.keep K nin0
  replace AS_ := AS_.keep K nin0
  replace AA := AA.keep K nin0
  replace AZ := AZ.keep K nin0
  clear K
  replace R := R.iand C (pc' := 774) at_773 rfl
  replace R := R.istore C (Ls' := #[.val (.int x0), .val (.int x1), .val (.int x2), .val (.int x3), .val (.int x4), .val (.int r.toInt32), .val (.int fs.toInt32), .val (.int ts.toInt32), .val (.int mv), .val (.int bv), .val (.ref D), .val (.ref PP), .val (.ref A), .val (.ref SH), .val (.ref AXS), .val (.int (own_cells r d).toInt32), .val (.int off), .val (.ref S), .val (.ref AX), .val (.ref PZ), .val (.ref F), .val (.ref T), .val (.int ((1 : Int32) &&& (1 : Int32)))]) (pc' := 776) at_774 rfl rfl
  replace R := R.asL (Ls' := #[.val (.int x0), .val (.int x1), .val (.int x2), .val (.int x3), .val (.int x4), .val (.int r.toInt32), .val (.int fs.toInt32), .val (.int ts.toInt32), .val (.int mv), .val (.int bv), .val (.ref D), .val (.ref PP), .val (.ref A), .val (.ref SH), .val (.ref AXS), .val (.int (own_cells r d).toInt32), .val (.int off), .val (.ref S), .val (.ref AX), .val (.ref PZ), .val (.ref F), .val (.ref T), .val (.int (1 : Int32))]) rfl
  replace R := R.iload C (pc' := 778) at_776 rfl rfl
  replace R := R.aload C (pc' := 780) at_778 rfl rfl rfl
  replace R := R.iconst C (pc' := 781) at_780 (v := (2 : Int32)) rfl rfl
  replace R := R.iload C (pc' := 783) at_781 rfl rfl
  replace R := R.iload C (pc' := 785) at_783 rfl rfl
  replace R := R.iload C (pc' := 787) at_785 rfl rfl
  replace R := R.aload C (pc' := 789) at_787 rfl rfl rfl
  replace R := R.aload C (pc' := 791) at_789 rfl rfl rfl
  replace R := R.aload C (pc' := 793) at_791 rfl rfl rfl
  replace R := R.as (st' := [(.ref PZ), (.ref AX), (.ref S), (.int fs.toInt32), (.int (own_cells r d).toInt32), (.int ts.toInt32), (.int (Nat.toInt32 2)), (.ref T), (.int (1 : Int32))]) rfl
  obtain ⟨_, k2, R', rfl, K⟩ := R.callS C (y := (⟨"com/example/lacuna_tensor/lacunatensor/DenseTensorPermuteCellsPinLaw", "ok", "([DIIII[I[I[I)Z"⟩ : MethodName)) (C.w 43 rfl) (C.w 44 rfl) (C.w 8 rfl) (C.w 45 rfl) (by decide) [(.ref T), (.int (Nat.toInt32 2)), (.int ts.toInt32), (.int (own_cells r d).toInt32), (.int fs.toInt32), (.ref S), (.ref AX), (.ref PZ)] [(.int (1 : Int32))] rfl (con_ok l Z a0 hw T S AX PZ 2 ts (own_cells r d) fs r (by decide) hts hcl hfs d a TV k1 n0 R.size (hbd 2 (by decide)) hs hax hpz (fun hn => by obtain ⟨-, q2, q3, q4⟩ := gd (2 - ts) (by omega); exact ⟨q3, q4, q2⟩) AT_ AS_ AA AZ) 1 (Nat.le_of_eq rfl) (by decide) (by decide) (by decide) (by decide) (lenOf pd_2 rfl) rfl (pc' := 796) at_793 rfl
  clear R
  replace R := R'.as (st' := [(.int (1 : Int32)), (.int (1 : Int32))]) (by rw [decide_eq_true (hall 2 (by decide))]; rfl)
  clear R'
  replace AT_ := AT_.keep K nin0
  replace AS_ := AS_.keep K nin0
  replace AA := AA.keep K nin0
  replace AZ := AZ.keep K nin0
  clear K
  replace R := R.iand C (pc' := 797) at_796 rfl
  replace R := R.istore C (Ls' := #[.val (.int x0), .val (.int x1), .val (.int x2), .val (.int x3), .val (.int x4), .val (.int r.toInt32), .val (.int fs.toInt32), .val (.int ts.toInt32), .val (.int mv), .val (.int bv), .val (.ref D), .val (.ref PP), .val (.ref A), .val (.ref SH), .val (.ref AXS), .val (.int (own_cells r d).toInt32), .val (.int off), .val (.ref S), .val (.ref AX), .val (.ref PZ), .val (.ref F), .val (.ref T), .val (.int ((1 : Int32) &&& (1 : Int32)))]) (pc' := 799) at_797 rfl rfl
  replace R := R.asL (Ls' := #[.val (.int x0), .val (.int x1), .val (.int x2), .val (.int x3), .val (.int x4), .val (.int r.toInt32), .val (.int fs.toInt32), .val (.int ts.toInt32), .val (.int mv), .val (.int bv), .val (.ref D), .val (.ref PP), .val (.ref A), .val (.ref SH), .val (.ref AXS), .val (.int (own_cells r d).toInt32), .val (.int off), .val (.ref S), .val (.ref AX), .val (.ref PZ), .val (.ref F), .val (.ref T), .val (.int (1 : Int32))]) rfl
  replace R := R.iload C (pc' := 801) at_799 rfl rfl
  replace R := R.aload C (pc' := 803) at_801 rfl rfl rfl
  replace R := R.iconst C (pc' := 804) at_803 (v := (3 : Int32)) rfl rfl
  replace R := R.iload C (pc' := 806) at_804 rfl rfl
  replace R := R.iload C (pc' := 808) at_806 rfl rfl
  replace R := R.iload C (pc' := 810) at_808 rfl rfl
  replace R := R.aload C (pc' := 812) at_810 rfl rfl rfl
  replace R := R.aload C (pc' := 814) at_812 rfl rfl rfl
  replace R := R.aload C (pc' := 816) at_814 rfl rfl rfl
  replace R := R.as (st' := [(.ref PZ), (.ref AX), (.ref S), (.int fs.toInt32), (.int (own_cells r d).toInt32), (.int ts.toInt32), (.int (Nat.toInt32 3)), (.ref T), (.int (1 : Int32))]) rfl
  obtain ⟨_, k3, R', rfl, K⟩ := R.callS C (y := (⟨"com/example/lacuna_tensor/lacunatensor/DenseTensorPermuteCellsPinLaw", "ok", "([DIIII[I[I[I)Z"⟩ : MethodName)) (C.w 43 rfl) (C.w 44 rfl) (C.w 8 rfl) (C.w 45 rfl) (by decide) [(.ref T), (.int (Nat.toInt32 3)), (.int ts.toInt32), (.int (own_cells r d).toInt32), (.int fs.toInt32), (.ref S), (.ref AX), (.ref PZ)] [(.int (1 : Int32))] rfl (con_ok l Z a0 hw T S AX PZ 3 ts (own_cells r d) fs r (by decide) hts hcl hfs d a TV k2 n0 R.size (hbd 3 (by decide)) hs hax hpz (fun hn => by obtain ⟨-, q2, q3, q4⟩ := gd (3 - ts) (by omega); exact ⟨q3, q4, q2⟩) AT_ AS_ AA AZ) 1 (Nat.le_of_eq rfl) (by decide) (by decide) (by decide) (by decide) (lenOf pd_2 rfl) rfl (pc' := 819) at_816 rfl
  clear R
  replace R := R'.as (st' := [(.int (1 : Int32)), (.int (1 : Int32))]) (by rw [decide_eq_true (hall 3 (by decide))]; rfl)
  clear R'
  replace AT_ := AT_.keep K nin0
  replace AS_ := AS_.keep K nin0
  replace AA := AA.keep K nin0
  replace AZ := AZ.keep K nin0
  clear K
  replace R := R.iand C (pc' := 820) at_819 rfl
  replace R := R.istore C (Ls' := #[.val (.int x0), .val (.int x1), .val (.int x2), .val (.int x3), .val (.int x4), .val (.int r.toInt32), .val (.int fs.toInt32), .val (.int ts.toInt32), .val (.int mv), .val (.int bv), .val (.ref D), .val (.ref PP), .val (.ref A), .val (.ref SH), .val (.ref AXS), .val (.int (own_cells r d).toInt32), .val (.int off), .val (.ref S), .val (.ref AX), .val (.ref PZ), .val (.ref F), .val (.ref T), .val (.int ((1 : Int32) &&& (1 : Int32)))]) (pc' := 822) at_820 rfl rfl
  replace R := R.asL (Ls' := #[.val (.int x0), .val (.int x1), .val (.int x2), .val (.int x3), .val (.int x4), .val (.int r.toInt32), .val (.int fs.toInt32), .val (.int ts.toInt32), .val (.int mv), .val (.int bv), .val (.ref D), .val (.ref PP), .val (.ref A), .val (.ref SH), .val (.ref AXS), .val (.int (own_cells r d).toInt32), .val (.int off), .val (.ref S), .val (.ref AX), .val (.ref PZ), .val (.ref F), .val (.ref T), .val (.int (1 : Int32))]) rfl
  replace R := R.iload C (pc' := 824) at_822 rfl rfl
  replace R := R.aload C (pc' := 826) at_824 rfl rfl rfl
  replace R := R.iconst C (pc' := 827) at_826 (v := (4 : Int32)) rfl rfl
  replace R := R.iload C (pc' := 829) at_827 rfl rfl
  replace R := R.iload C (pc' := 831) at_829 rfl rfl
  replace R := R.iload C (pc' := 833) at_831 rfl rfl
  replace R := R.aload C (pc' := 835) at_833 rfl rfl rfl
  replace R := R.aload C (pc' := 837) at_835 rfl rfl rfl
  replace R := R.aload C (pc' := 839) at_837 rfl rfl rfl
  replace R := R.as (st' := [(.ref PZ), (.ref AX), (.ref S), (.int fs.toInt32), (.int (own_cells r d).toInt32), (.int ts.toInt32), (.int (Nat.toInt32 4)), (.ref T), (.int (1 : Int32))]) rfl
  obtain ⟨_, k4, R', rfl, K⟩ := R.callS C (y := (⟨"com/example/lacuna_tensor/lacunatensor/DenseTensorPermuteCellsPinLaw", "ok", "([DIIII[I[I[I)Z"⟩ : MethodName)) (C.w 43 rfl) (C.w 44 rfl) (C.w 8 rfl) (C.w 45 rfl) (by decide) [(.ref T), (.int (Nat.toInt32 4)), (.int ts.toInt32), (.int (own_cells r d).toInt32), (.int fs.toInt32), (.ref S), (.ref AX), (.ref PZ)] [(.int (1 : Int32))] rfl (con_ok l Z a0 hw T S AX PZ 4 ts (own_cells r d) fs r (by decide) hts hcl hfs d a TV k3 n0 R.size (hbd 4 (by decide)) hs hax hpz (fun hn => by obtain ⟨-, q2, q3, q4⟩ := gd (4 - ts) (by omega); exact ⟨q3, q4, q2⟩) AT_ AS_ AA AZ) 1 (Nat.le_of_eq rfl) (by decide) (by decide) (by decide) (by decide) (lenOf pd_2 rfl) rfl (pc' := 842) at_839 rfl
  clear R
  replace R := R'.as (st' := [(.int (1 : Int32)), (.int (1 : Int32))]) (by rw [decide_eq_true (hall 4 (by decide))]; rfl)
  clear R'
  replace AT_ := AT_.keep K nin0
  replace AS_ := AS_.keep K nin0
  replace AA := AA.keep K nin0
  replace AZ := AZ.keep K nin0
  clear K
  replace R := R.iand C (pc' := 843) at_842 rfl
  replace R := R.istore C (Ls' := #[.val (.int x0), .val (.int x1), .val (.int x2), .val (.int x3), .val (.int x4), .val (.int r.toInt32), .val (.int fs.toInt32), .val (.int ts.toInt32), .val (.int mv), .val (.int bv), .val (.ref D), .val (.ref PP), .val (.ref A), .val (.ref SH), .val (.ref AXS), .val (.int (own_cells r d).toInt32), .val (.int off), .val (.ref S), .val (.ref AX), .val (.ref PZ), .val (.ref F), .val (.ref T), .val (.int ((1 : Int32) &&& (1 : Int32)))]) (pc' := 845) at_843 rfl rfl
  replace R := R.asL (Ls' := #[.val (.int x0), .val (.int x1), .val (.int x2), .val (.int x3), .val (.int x4), .val (.int r.toInt32), .val (.int fs.toInt32), .val (.int ts.toInt32), .val (.int mv), .val (.int bv), .val (.ref D), .val (.ref PP), .val (.ref A), .val (.ref SH), .val (.ref AXS), .val (.int (own_cells r d).toInt32), .val (.int off), .val (.ref S), .val (.ref AX), .val (.ref PZ), .val (.ref F), .val (.ref T), .val (.int (1 : Int32))]) rfl
  replace R := R.iload C (pc' := 847) at_845 rfl rfl
  replace R := R.aload C (pc' := 849) at_847 rfl rfl rfl
  replace R := R.iconst C (pc' := 850) at_849 (v := (5 : Int32)) rfl rfl
  replace R := R.iload C (pc' := 852) at_850 rfl rfl
  replace R := R.iload C (pc' := 854) at_852 rfl rfl
  replace R := R.iload C (pc' := 856) at_854 rfl rfl
  replace R := R.aload C (pc' := 858) at_856 rfl rfl rfl
  replace R := R.aload C (pc' := 860) at_858 rfl rfl rfl
  replace R := R.aload C (pc' := 862) at_860 rfl rfl rfl
  replace R := R.as (st' := [(.ref PZ), (.ref AX), (.ref S), (.int fs.toInt32), (.int (own_cells r d).toInt32), (.int ts.toInt32), (.int (Nat.toInt32 5)), (.ref T), (.int (1 : Int32))]) rfl
  obtain ⟨_, k5, R', rfl, K⟩ := R.callS C (y := (⟨"com/example/lacuna_tensor/lacunatensor/DenseTensorPermuteCellsPinLaw", "ok", "([DIIII[I[I[I)Z"⟩ : MethodName)) (C.w 43 rfl) (C.w 44 rfl) (C.w 8 rfl) (C.w 45 rfl) (by decide) [(.ref T), (.int (Nat.toInt32 5)), (.int ts.toInt32), (.int (own_cells r d).toInt32), (.int fs.toInt32), (.ref S), (.ref AX), (.ref PZ)] [(.int (1 : Int32))] rfl (con_ok l Z a0 hw T S AX PZ 5 ts (own_cells r d) fs r (by decide) hts hcl hfs d a TV k4 n0 R.size (hbd 5 (by decide)) hs hax hpz (fun hn => by obtain ⟨-, q2, q3, q4⟩ := gd (5 - ts) (by omega); exact ⟨q3, q4, q2⟩) AT_ AS_ AA AZ) 1 (Nat.le_of_eq rfl) (by decide) (by decide) (by decide) (by decide) (lenOf pd_2 rfl) rfl (pc' := 865) at_862 rfl
  clear R
  replace R := R'.as (st' := [(.int (1 : Int32)), (.int (1 : Int32))]) (by rw [decide_eq_true (hall 5 (by decide))]; rfl)
  clear R'
  replace AT_ := AT_.keep K nin0
  replace AS_ := AS_.keep K nin0
  replace AA := AA.keep K nin0
  replace AZ := AZ.keep K nin0
  clear K
  replace R := R.iand C (pc' := 866) at_865 rfl
  replace R := R.istore C (Ls' := #[.val (.int x0), .val (.int x1), .val (.int x2), .val (.int x3), .val (.int x4), .val (.int r.toInt32), .val (.int fs.toInt32), .val (.int ts.toInt32), .val (.int mv), .val (.int bv), .val (.ref D), .val (.ref PP), .val (.ref A), .val (.ref SH), .val (.ref AXS), .val (.int (own_cells r d).toInt32), .val (.int off), .val (.ref S), .val (.ref AX), .val (.ref PZ), .val (.ref F), .val (.ref T), .val (.int ((1 : Int32) &&& (1 : Int32)))]) (pc' := 868) at_866 rfl rfl
  replace R := R.asL (Ls' := #[.val (.int x0), .val (.int x1), .val (.int x2), .val (.int x3), .val (.int x4), .val (.int r.toInt32), .val (.int fs.toInt32), .val (.int ts.toInt32), .val (.int mv), .val (.int bv), .val (.ref D), .val (.ref PP), .val (.ref A), .val (.ref SH), .val (.ref AXS), .val (.int (own_cells r d).toInt32), .val (.int off), .val (.ref S), .val (.ref AX), .val (.ref PZ), .val (.ref F), .val (.ref T), .val (.int (1 : Int32))]) rfl
  replace R := R.iload C (pc' := 870) at_868 rfl rfl
  replace R := R.aload C (pc' := 872) at_870 rfl rfl rfl
  replace R := R.bipush C (pc' := 874) at_872 (v := (6 : Int32)) rfl rfl
  replace R := R.iload C (pc' := 876) at_874 rfl rfl
  replace R := R.iload C (pc' := 878) at_876 rfl rfl
  replace R := R.iload C (pc' := 880) at_878 rfl rfl
  replace R := R.aload C (pc' := 882) at_880 rfl rfl rfl
  replace R := R.aload C (pc' := 884) at_882 rfl rfl rfl
  replace R := R.aload C (pc' := 886) at_884 rfl rfl rfl
  replace R := R.as (st' := [(.ref PZ), (.ref AX), (.ref S), (.int fs.toInt32), (.int (own_cells r d).toInt32), (.int ts.toInt32), (.int (Nat.toInt32 6)), (.ref T), (.int (1 : Int32))]) rfl
  obtain ⟨_, k6, R', rfl, K⟩ := R.callS C (y := (⟨"com/example/lacuna_tensor/lacunatensor/DenseTensorPermuteCellsPinLaw", "ok", "([DIIII[I[I[I)Z"⟩ : MethodName)) (C.w 43 rfl) (C.w 44 rfl) (C.w 8 rfl) (C.w 45 rfl) (by decide) [(.ref T), (.int (Nat.toInt32 6)), (.int ts.toInt32), (.int (own_cells r d).toInt32), (.int fs.toInt32), (.ref S), (.ref AX), (.ref PZ)] [(.int (1 : Int32))] rfl (con_ok l Z a0 hw T S AX PZ 6 ts (own_cells r d) fs r (by decide) hts hcl hfs d a TV k5 n0 R.size (hbd 6 (by decide)) hs hax hpz (fun hn => by obtain ⟨-, q2, q3, q4⟩ := gd (6 - ts) (by omega); exact ⟨q3, q4, q2⟩) AT_ AS_ AA AZ) 1 (Nat.le_of_eq rfl) (by decide) (by decide) (by decide) (by decide) (lenOf pd_2 rfl) rfl (pc' := 889) at_886 rfl
  clear R
  replace R := R'.as (st' := [(.int (1 : Int32)), (.int (1 : Int32))]) (by rw [decide_eq_true (hall 6 (by decide))]; rfl)
  clear R'
  replace AT_ := AT_.keep K nin0
  replace AS_ := AS_.keep K nin0
  replace AA := AA.keep K nin0
  replace AZ := AZ.keep K nin0
  clear K
  replace R := R.iand C (pc' := 890) at_889 rfl
  replace R := R.istore C (Ls' := #[.val (.int x0), .val (.int x1), .val (.int x2), .val (.int x3), .val (.int x4), .val (.int r.toInt32), .val (.int fs.toInt32), .val (.int ts.toInt32), .val (.int mv), .val (.int bv), .val (.ref D), .val (.ref PP), .val (.ref A), .val (.ref SH), .val (.ref AXS), .val (.int (own_cells r d).toInt32), .val (.int off), .val (.ref S), .val (.ref AX), .val (.ref PZ), .val (.ref F), .val (.ref T), .val (.int ((1 : Int32) &&& (1 : Int32)))]) (pc' := 892) at_890 rfl rfl
  replace R := R.asL (Ls' := #[.val (.int x0), .val (.int x1), .val (.int x2), .val (.int x3), .val (.int x4), .val (.int r.toInt32), .val (.int fs.toInt32), .val (.int ts.toInt32), .val (.int mv), .val (.int bv), .val (.ref D), .val (.ref PP), .val (.ref A), .val (.ref SH), .val (.ref AXS), .val (.int (own_cells r d).toInt32), .val (.int off), .val (.ref S), .val (.ref AX), .val (.ref PZ), .val (.ref F), .val (.ref T), .val (.int (1 : Int32))]) rfl
  replace R := R.iload C (pc' := 894) at_892 rfl rfl
  replace R := R.aload C (pc' := 896) at_894 rfl rfl rfl
  replace R := R.bipush C (pc' := 898) at_896 (v := (7 : Int32)) rfl rfl
  replace R := R.iload C (pc' := 900) at_898 rfl rfl
  replace R := R.iload C (pc' := 902) at_900 rfl rfl
  replace R := R.iload C (pc' := 904) at_902 rfl rfl
  replace R := R.aload C (pc' := 906) at_904 rfl rfl rfl
  replace R := R.aload C (pc' := 908) at_906 rfl rfl rfl
  replace R := R.aload C (pc' := 910) at_908 rfl rfl rfl
  replace R := R.as (st' := [(.ref PZ), (.ref AX), (.ref S), (.int fs.toInt32), (.int (own_cells r d).toInt32), (.int ts.toInt32), (.int (Nat.toInt32 7)), (.ref T), (.int (1 : Int32))]) rfl
  obtain ⟨_, k7, R', rfl, K⟩ := R.callS C (y := (⟨"com/example/lacuna_tensor/lacunatensor/DenseTensorPermuteCellsPinLaw", "ok", "([DIIII[I[I[I)Z"⟩ : MethodName)) (C.w 43 rfl) (C.w 44 rfl) (C.w 8 rfl) (C.w 45 rfl) (by decide) [(.ref T), (.int (Nat.toInt32 7)), (.int ts.toInt32), (.int (own_cells r d).toInt32), (.int fs.toInt32), (.ref S), (.ref AX), (.ref PZ)] [(.int (1 : Int32))] rfl (con_ok l Z a0 hw T S AX PZ 7 ts (own_cells r d) fs r (by decide) hts hcl hfs d a TV k6 n0 R.size (hbd 7 (by decide)) hs hax hpz (fun hn => by obtain ⟨-, q2, q3, q4⟩ := gd (7 - ts) (by omega); exact ⟨q3, q4, q2⟩) AT_ AS_ AA AZ) 1 (Nat.le_of_eq rfl) (by decide) (by decide) (by decide) (by decide) (lenOf pd_2 rfl) rfl (pc' := 913) at_910 rfl
  clear R
  replace R := R'.as (st' := [(.int (1 : Int32)), (.int (1 : Int32))]) (by rw [decide_eq_true (hall 7 (by decide))]; rfl)
  clear R'
  replace AT_ := AT_.keep K nin0
  replace AS_ := AS_.keep K nin0
  replace AA := AA.keep K nin0
  replace AZ := AZ.keep K nin0
  clear K
  replace R := R.iand C (pc' := 914) at_913 rfl
  replace R := R.istore C (Ls' := #[.val (.int x0), .val (.int x1), .val (.int x2), .val (.int x3), .val (.int x4), .val (.int r.toInt32), .val (.int fs.toInt32), .val (.int ts.toInt32), .val (.int mv), .val (.int bv), .val (.ref D), .val (.ref PP), .val (.ref A), .val (.ref SH), .val (.ref AXS), .val (.int (own_cells r d).toInt32), .val (.int off), .val (.ref S), .val (.ref AX), .val (.ref PZ), .val (.ref F), .val (.ref T), .val (.int ((1 : Int32) &&& (1 : Int32)))]) (pc' := 916) at_914 rfl rfl
  replace R := R.asL (Ls' := #[.val (.int x0), .val (.int x1), .val (.int x2), .val (.int x3), .val (.int x4), .val (.int r.toInt32), .val (.int fs.toInt32), .val (.int ts.toInt32), .val (.int mv), .val (.int bv), .val (.ref D), .val (.ref PP), .val (.ref A), .val (.ref SH), .val (.ref AXS), .val (.int (own_cells r d).toInt32), .val (.int off), .val (.ref S), .val (.ref AX), .val (.ref PZ), .val (.ref F), .val (.ref T), .val (.int (1 : Int32))]) rfl
  replace R := R.iload C (pc' := 918) at_916 rfl rfl
  replace R := R.aload C (pc' := 920) at_918 rfl rfl rfl
  replace R := R.bipush C (pc' := 922) at_920 (v := (8 : Int32)) rfl rfl
  replace R := R.iload C (pc' := 924) at_922 rfl rfl
  replace R := R.iload C (pc' := 926) at_924 rfl rfl
  replace R := R.iload C (pc' := 928) at_926 rfl rfl
  replace R := R.aload C (pc' := 930) at_928 rfl rfl rfl
  replace R := R.aload C (pc' := 932) at_930 rfl rfl rfl
  replace R := R.aload C (pc' := 934) at_932 rfl rfl rfl
  replace R := R.as (st' := [(.ref PZ), (.ref AX), (.ref S), (.int fs.toInt32), (.int (own_cells r d).toInt32), (.int ts.toInt32), (.int (Nat.toInt32 8)), (.ref T), (.int (1 : Int32))]) rfl
  obtain ⟨_, k8, R', rfl, K⟩ := R.callS C (y := (⟨"com/example/lacuna_tensor/lacunatensor/DenseTensorPermuteCellsPinLaw", "ok", "([DIIII[I[I[I)Z"⟩ : MethodName)) (C.w 43 rfl) (C.w 44 rfl) (C.w 8 rfl) (C.w 45 rfl) (by decide) [(.ref T), (.int (Nat.toInt32 8)), (.int ts.toInt32), (.int (own_cells r d).toInt32), (.int fs.toInt32), (.ref S), (.ref AX), (.ref PZ)] [(.int (1 : Int32))] rfl (con_ok l Z a0 hw T S AX PZ 8 ts (own_cells r d) fs r (by decide) hts hcl hfs d a TV k7 n0 R.size (hbd 8 (by decide)) hs hax hpz (fun hn => by obtain ⟨-, q2, q3, q4⟩ := gd (8 - ts) (by omega); exact ⟨q3, q4, q2⟩) AT_ AS_ AA AZ) 1 (Nat.le_of_eq rfl) (by decide) (by decide) (by decide) (by decide) (lenOf pd_2 rfl) rfl (pc' := 937) at_934 rfl
  clear R
  replace R := R'.as (st' := [(.int (1 : Int32)), (.int (1 : Int32))]) (by rw [decide_eq_true (hall 8 (by decide))]; rfl)
  clear R'
  replace AT_ := AT_.keep K nin0
  replace AS_ := AS_.keep K nin0
  replace AA := AA.keep K nin0
  replace AZ := AZ.keep K nin0
  clear K
  replace R := R.iand C (pc' := 938) at_937 rfl
  replace R := R.istore C (Ls' := #[.val (.int x0), .val (.int x1), .val (.int x2), .val (.int x3), .val (.int x4), .val (.int r.toInt32), .val (.int fs.toInt32), .val (.int ts.toInt32), .val (.int mv), .val (.int bv), .val (.ref D), .val (.ref PP), .val (.ref A), .val (.ref SH), .val (.ref AXS), .val (.int (own_cells r d).toInt32), .val (.int off), .val (.ref S), .val (.ref AX), .val (.ref PZ), .val (.ref F), .val (.ref T), .val (.int ((1 : Int32) &&& (1 : Int32)))]) (pc' := 940) at_938 rfl rfl
  replace R := R.asL (Ls' := #[.val (.int x0), .val (.int x1), .val (.int x2), .val (.int x3), .val (.int x4), .val (.int r.toInt32), .val (.int fs.toInt32), .val (.int ts.toInt32), .val (.int mv), .val (.int bv), .val (.ref D), .val (.ref PP), .val (.ref A), .val (.ref SH), .val (.ref AXS), .val (.int (own_cells r d).toInt32), .val (.int off), .val (.ref S), .val (.ref AX), .val (.ref PZ), .val (.ref F), .val (.ref T), .val (.int (1 : Int32))]) rfl
  replace R := R.iload C (pc' := 942) at_940 rfl rfl
  replace R := R.aload C (pc' := 944) at_942 rfl rfl rfl
  replace R := R.bipush C (pc' := 946) at_944 (v := (9 : Int32)) rfl rfl
  replace R := R.iload C (pc' := 948) at_946 rfl rfl
  replace R := R.iload C (pc' := 950) at_948 rfl rfl
  replace R := R.iload C (pc' := 952) at_950 rfl rfl
  replace R := R.aload C (pc' := 954) at_952 rfl rfl rfl
  replace R := R.aload C (pc' := 956) at_954 rfl rfl rfl
  replace R := R.aload C (pc' := 958) at_956 rfl rfl rfl
  replace R := R.as (st' := [(.ref PZ), (.ref AX), (.ref S), (.int fs.toInt32), (.int (own_cells r d).toInt32), (.int ts.toInt32), (.int (Nat.toInt32 9)), (.ref T), (.int (1 : Int32))]) rfl
  obtain ⟨_, k9, R', rfl, K⟩ := R.callS C (y := (⟨"com/example/lacuna_tensor/lacunatensor/DenseTensorPermuteCellsPinLaw", "ok", "([DIIII[I[I[I)Z"⟩ : MethodName)) (C.w 43 rfl) (C.w 44 rfl) (C.w 8 rfl) (C.w 45 rfl) (by decide) [(.ref T), (.int (Nat.toInt32 9)), (.int ts.toInt32), (.int (own_cells r d).toInt32), (.int fs.toInt32), (.ref S), (.ref AX), (.ref PZ)] [(.int (1 : Int32))] rfl (con_ok l Z a0 hw T S AX PZ 9 ts (own_cells r d) fs r (by decide) hts hcl hfs d a TV k8 n0 R.size (hbd 9 (by decide)) hs hax hpz (fun hn => by obtain ⟨-, q2, q3, q4⟩ := gd (9 - ts) (by omega); exact ⟨q3, q4, q2⟩) AT_ AS_ AA AZ) 1 (Nat.le_of_eq rfl) (by decide) (by decide) (by decide) (by decide) (lenOf pd_2 rfl) rfl (pc' := 961) at_958 rfl
  clear R
  replace R := R'.as (st' := [(.int (1 : Int32)), (.int (1 : Int32))]) (by rw [decide_eq_true (hall 9 (by decide))]; rfl)
  clear R'
  replace AT_ := AT_.keep K nin0
  replace AS_ := AS_.keep K nin0
  replace AA := AA.keep K nin0
  replace AZ := AZ.keep K nin0
  clear K
  replace R := R.iand C (pc' := 962) at_961 rfl
  replace R := R.istore C (Ls' := #[.val (.int x0), .val (.int x1), .val (.int x2), .val (.int x3), .val (.int x4), .val (.int r.toInt32), .val (.int fs.toInt32), .val (.int ts.toInt32), .val (.int mv), .val (.int bv), .val (.ref D), .val (.ref PP), .val (.ref A), .val (.ref SH), .val (.ref AXS), .val (.int (own_cells r d).toInt32), .val (.int off), .val (.ref S), .val (.ref AX), .val (.ref PZ), .val (.ref F), .val (.ref T), .val (.int ((1 : Int32) &&& (1 : Int32)))]) (pc' := 964) at_962 rfl rfl
  replace R := R.asL (Ls' := #[.val (.int x0), .val (.int x1), .val (.int x2), .val (.int x3), .val (.int x4), .val (.int r.toInt32), .val (.int fs.toInt32), .val (.int ts.toInt32), .val (.int mv), .val (.int bv), .val (.ref D), .val (.ref PP), .val (.ref A), .val (.ref SH), .val (.ref AXS), .val (.int (own_cells r d).toInt32), .val (.int off), .val (.ref S), .val (.ref AX), .val (.ref PZ), .val (.ref F), .val (.ref T), .val (.int (1 : Int32))]) rfl
  replace R := R.iload C (pc' := 966) at_964 rfl rfl
  replace R := R.aload C (pc' := 968) at_966 rfl rfl rfl
  replace R := R.bipush C (pc' := 970) at_968 (v := (10 : Int32)) rfl rfl
  replace R := R.iload C (pc' := 972) at_970 rfl rfl
  replace R := R.iload C (pc' := 974) at_972 rfl rfl
  replace R := R.iload C (pc' := 976) at_974 rfl rfl
  replace R := R.aload C (pc' := 978) at_976 rfl rfl rfl
  replace R := R.aload C (pc' := 980) at_978 rfl rfl rfl
  replace R := R.aload C (pc' := 982) at_980 rfl rfl rfl
  replace R := R.as (st' := [(.ref PZ), (.ref AX), (.ref S), (.int fs.toInt32), (.int (own_cells r d).toInt32), (.int ts.toInt32), (.int (Nat.toInt32 10)), (.ref T), (.int (1 : Int32))]) rfl
  obtain ⟨_, k10, R', rfl, K⟩ := R.callS C (y := (⟨"com/example/lacuna_tensor/lacunatensor/DenseTensorPermuteCellsPinLaw", "ok", "([DIIII[I[I[I)Z"⟩ : MethodName)) (C.w 43 rfl) (C.w 44 rfl) (C.w 8 rfl) (C.w 45 rfl) (by decide) [(.ref T), (.int (Nat.toInt32 10)), (.int ts.toInt32), (.int (own_cells r d).toInt32), (.int fs.toInt32), (.ref S), (.ref AX), (.ref PZ)] [(.int (1 : Int32))] rfl (con_ok l Z a0 hw T S AX PZ 10 ts (own_cells r d) fs r (by decide) hts hcl hfs d a TV k9 n0 R.size (hbd 10 (by decide)) hs hax hpz (fun hn => by obtain ⟨-, q2, q3, q4⟩ := gd (10 - ts) (by omega); exact ⟨q3, q4, q2⟩) AT_ AS_ AA AZ) 1 (Nat.le_of_eq rfl) (by decide) (by decide) (by decide) (by decide) (lenOf pd_2 rfl) rfl (pc' := 985) at_982 rfl
  clear R
  replace R := R'.as (st' := [(.int (1 : Int32)), (.int (1 : Int32))]) (by rw [decide_eq_true (hall 10 (by decide))]; rfl)
  clear R'
  replace AT_ := AT_.keep K nin0
  replace AS_ := AS_.keep K nin0
  replace AA := AA.keep K nin0
  replace AZ := AZ.keep K nin0
  clear K
  replace R := R.iand C (pc' := 986) at_985 rfl
  replace R := R.istore C (Ls' := #[.val (.int x0), .val (.int x1), .val (.int x2), .val (.int x3), .val (.int x4), .val (.int r.toInt32), .val (.int fs.toInt32), .val (.int ts.toInt32), .val (.int mv), .val (.int bv), .val (.ref D), .val (.ref PP), .val (.ref A), .val (.ref SH), .val (.ref AXS), .val (.int (own_cells r d).toInt32), .val (.int off), .val (.ref S), .val (.ref AX), .val (.ref PZ), .val (.ref F), .val (.ref T), .val (.int ((1 : Int32) &&& (1 : Int32)))]) (pc' := 988) at_986 rfl rfl
  replace R := R.asL (Ls' := #[.val (.int x0), .val (.int x1), .val (.int x2), .val (.int x3), .val (.int x4), .val (.int r.toInt32), .val (.int fs.toInt32), .val (.int ts.toInt32), .val (.int mv), .val (.int bv), .val (.ref D), .val (.ref PP), .val (.ref A), .val (.ref SH), .val (.ref AXS), .val (.int (own_cells r d).toInt32), .val (.int off), .val (.ref S), .val (.ref AX), .val (.ref PZ), .val (.ref F), .val (.ref T), .val (.int (1 : Int32))]) rfl
  replace R := R.iload C (pc' := 990) at_988 rfl rfl
  replace R := R.aload C (pc' := 992) at_990 rfl rfl rfl
  replace R := R.bipush C (pc' := 994) at_992 (v := (11 : Int32)) rfl rfl
  replace R := R.iload C (pc' := 996) at_994 rfl rfl
  replace R := R.iload C (pc' := 998) at_996 rfl rfl
  replace R := R.iload C (pc' := 1000) at_998 rfl rfl
  replace R := R.aload C (pc' := 1002) at_1000 rfl rfl rfl
  replace R := R.aload C (pc' := 1004) at_1002 rfl rfl rfl
  replace R := R.aload C (pc' := 1006) at_1004 rfl rfl rfl
  replace R := R.as (st' := [(.ref PZ), (.ref AX), (.ref S), (.int fs.toInt32), (.int (own_cells r d).toInt32), (.int ts.toInt32), (.int (Nat.toInt32 11)), (.ref T), (.int (1 : Int32))]) rfl
  obtain ⟨_, k11, R', rfl, K⟩ := R.callS C (y := (⟨"com/example/lacuna_tensor/lacunatensor/DenseTensorPermuteCellsPinLaw", "ok", "([DIIII[I[I[I)Z"⟩ : MethodName)) (C.w 43 rfl) (C.w 44 rfl) (C.w 8 rfl) (C.w 45 rfl) (by decide) [(.ref T), (.int (Nat.toInt32 11)), (.int ts.toInt32), (.int (own_cells r d).toInt32), (.int fs.toInt32), (.ref S), (.ref AX), (.ref PZ)] [(.int (1 : Int32))] rfl (con_ok l Z a0 hw T S AX PZ 11 ts (own_cells r d) fs r (by decide) hts hcl hfs d a TV k10 n0 R.size (hbd 11 (by decide)) hs hax hpz (fun hn => by obtain ⟨-, q2, q3, q4⟩ := gd (11 - ts) (by omega); exact ⟨q3, q4, q2⟩) AT_ AS_ AA AZ) 1 (Nat.le_of_eq rfl) (by decide) (by decide) (by decide) (by decide) (lenOf pd_2 rfl) rfl (pc' := 1009) at_1006 rfl
  clear R
  replace R := R'.as (st' := [(.int (1 : Int32)), (.int (1 : Int32))]) (by rw [decide_eq_true (hall 11 (by decide))]; rfl)
  clear R'
  replace AT_ := AT_.keep K nin0
  replace AS_ := AS_.keep K nin0
  replace AA := AA.keep K nin0
  replace AZ := AZ.keep K nin0
  clear K
  replace R := R.iand C (pc' := 1010) at_1009 rfl
  replace R := R.istore C (Ls' := #[.val (.int x0), .val (.int x1), .val (.int x2), .val (.int x3), .val (.int x4), .val (.int r.toInt32), .val (.int fs.toInt32), .val (.int ts.toInt32), .val (.int mv), .val (.int bv), .val (.ref D), .val (.ref PP), .val (.ref A), .val (.ref SH), .val (.ref AXS), .val (.int (own_cells r d).toInt32), .val (.int off), .val (.ref S), .val (.ref AX), .val (.ref PZ), .val (.ref F), .val (.ref T), .val (.int ((1 : Int32) &&& (1 : Int32)))]) (pc' := 1012) at_1010 rfl rfl
  replace R := R.asL (Ls' := #[.val (.int x0), .val (.int x1), .val (.int x2), .val (.int x3), .val (.int x4), .val (.int r.toInt32), .val (.int fs.toInt32), .val (.int ts.toInt32), .val (.int mv), .val (.int bv), .val (.ref D), .val (.ref PP), .val (.ref A), .val (.ref SH), .val (.ref AXS), .val (.int (own_cells r d).toInt32), .val (.int off), .val (.ref S), .val (.ref AX), .val (.ref PZ), .val (.ref F), .val (.ref T), .val (.int (1 : Int32))]) rfl
  replace R := R.iload C (pc' := 1014) at_1012 rfl rfl
  replace R := R.aload C (pc' := 1016) at_1014 rfl rfl rfl
  replace R := R.bipush C (pc' := 1018) at_1016 (v := (12 : Int32)) rfl rfl
  replace R := R.iload C (pc' := 1020) at_1018 rfl rfl
  replace R := R.iload C (pc' := 1022) at_1020 rfl rfl
  replace R := R.iload C (pc' := 1024) at_1022 rfl rfl
  replace R := R.aload C (pc' := 1026) at_1024 rfl rfl rfl
  replace R := R.aload C (pc' := 1028) at_1026 rfl rfl rfl
  replace R := R.aload C (pc' := 1030) at_1028 rfl rfl rfl
  replace R := R.as (st' := [(.ref PZ), (.ref AX), (.ref S), (.int fs.toInt32), (.int (own_cells r d).toInt32), (.int ts.toInt32), (.int (Nat.toInt32 12)), (.ref T), (.int (1 : Int32))]) rfl
  obtain ⟨_, k12, R', rfl, K⟩ := R.callS C (y := (⟨"com/example/lacuna_tensor/lacunatensor/DenseTensorPermuteCellsPinLaw", "ok", "([DIIII[I[I[I)Z"⟩ : MethodName)) (C.w 43 rfl) (C.w 44 rfl) (C.w 8 rfl) (C.w 45 rfl) (by decide) [(.ref T), (.int (Nat.toInt32 12)), (.int ts.toInt32), (.int (own_cells r d).toInt32), (.int fs.toInt32), (.ref S), (.ref AX), (.ref PZ)] [(.int (1 : Int32))] rfl (con_ok l Z a0 hw T S AX PZ 12 ts (own_cells r d) fs r (by decide) hts hcl hfs d a TV k11 n0 R.size (hbd 12 (by decide)) hs hax hpz (fun hn => by obtain ⟨-, q2, q3, q4⟩ := gd (12 - ts) (by omega); exact ⟨q3, q4, q2⟩) AT_ AS_ AA AZ) 1 (Nat.le_of_eq rfl) (by decide) (by decide) (by decide) (by decide) (lenOf pd_2 rfl) rfl (pc' := 1033) at_1030 rfl
  clear R
  replace R := R'.as (st' := [(.int (1 : Int32)), (.int (1 : Int32))]) (by rw [decide_eq_true (hall 12 (by decide))]; rfl)
  clear R'
  replace AT_ := AT_.keep K nin0
  replace AS_ := AS_.keep K nin0
  replace AA := AA.keep K nin0
  replace AZ := AZ.keep K nin0
  clear K
  replace R := R.iand C (pc' := 1034) at_1033 rfl
  replace R := R.istore C (Ls' := #[.val (.int x0), .val (.int x1), .val (.int x2), .val (.int x3), .val (.int x4), .val (.int r.toInt32), .val (.int fs.toInt32), .val (.int ts.toInt32), .val (.int mv), .val (.int bv), .val (.ref D), .val (.ref PP), .val (.ref A), .val (.ref SH), .val (.ref AXS), .val (.int (own_cells r d).toInt32), .val (.int off), .val (.ref S), .val (.ref AX), .val (.ref PZ), .val (.ref F), .val (.ref T), .val (.int ((1 : Int32) &&& (1 : Int32)))]) (pc' := 1036) at_1034 rfl rfl
  replace R := R.asL (Ls' := #[.val (.int x0), .val (.int x1), .val (.int x2), .val (.int x3), .val (.int x4), .val (.int r.toInt32), .val (.int fs.toInt32), .val (.int ts.toInt32), .val (.int mv), .val (.int bv), .val (.ref D), .val (.ref PP), .val (.ref A), .val (.ref SH), .val (.ref AXS), .val (.int (own_cells r d).toInt32), .val (.int off), .val (.ref S), .val (.ref AX), .val (.ref PZ), .val (.ref F), .val (.ref T), .val (.int (1 : Int32))]) rfl
  replace R := R.iload C (pc' := 1038) at_1036 rfl rfl
  exact R.retZ (b := true) C at_1038 rfl (by decide) (by decide)
theorem own_ce0 : (1 : Int32) * (1 : Int32) * (1 : Int32) = (own_cells 0 (own_dm 0 0 0 0)).toInt32 := by decide
theorem own_ce1 (d0 : Nat) : d0.toInt32 * (1 : Int32) * (1 : Int32) = (own_cells 1 (own_dm 1 d0 0 0)).toInt32 := by
  rw [Int32.mul_one, Int32.mul_one]
  exact congrArg Nat.toInt32 (show d0 = 1 * d0 by omega)
theorem own_ce2 (d0 d1 : Nat) : d0.toInt32 * d1.toInt32 * (1 : Int32) = (own_cells 2 (own_dm 2 d0 d1 0)).toInt32 := by
  rw [Int32.mul_one, own_mmul]
  exact congrArg Nat.toInt32 (show d0 * d1 = 1 * d1 * d0 by rw [Nat.one_mul, Nat.mul_comm])
theorem own_ce3 (d0 d1 d2 : Nat) : d0.toInt32 * d1.toInt32 * d2.toInt32 = (own_cells 3 (own_dm 3 d0 d1 d2)).toInt32 := by
  rw [own_mmul, own_mmul]
  exact congrArg Nat.toInt32 (show d0 * d1 * d2 = 1 * d2 * d1 * d0 by rw [Nat.one_mul, Nat.mul_comm (d0 * d1), Nat.mul_comm d0 d1, Nat.mul_assoc])
theorem own_ha0 : ∀ pi, pi < 6 → (∀ k, k < 0 → own_axf 0 pi k < 0) ∧ ∀ k, k < 3 → own_a 0 (own_axf 0 pi) k < 3 := by decide
set_option maxRecDepth 65536 in
set_option maxHeartbeats 40000000 in
theorem own_stD0 {p : Program} {l : Launch} {e : Env} {s : State} {m : MethodId} {args : Array Value} {below : List Frame} {meth : Method} {c : Code} {S0 : State} {n0 : Nat} {Z : State} {a0 : Array Value} {h0 : Heap} (hw : ∀ d ∈ tables_1, d.before a0 Z = true) (C : Ctx p s m meth c Z a0 tables_1 x.cls code maxLocals x.name ret) (x0 x1 x2 x3 x4 mv bv : Int32) (D PP A : Addr) (fs ts d0 d1 d2 pi : Nat) (hfs : fs < 4) (hts : ts < 4) (hd0 : d0 < 10) (hd1 : d1 < 10) (hd2 : d2 < 10) (hpi : pi < 6) (s13 : Slot) (hs13 : One s13) (AD : Ary Z h0 D .int 3 (Nf (own_tri d0 d1 d2))) (AA : Ary Z h0 A .int 3 (Nf (own_axf 0 0))) (R : Rch p l e room_1 s m args below meth c S0 n0 9 30 h0 287 #[.val (.int x0), .val (.int x1), .val (.int x2), .val (.int x3), .val (.int x4), .val (.int (Nat.toInt32 0)), .val (.int fs.toInt32), .val (.int ts.toInt32), .val (.int mv), .val (.int bv), .val (.ref D), .val (.ref PP), .val (.ref A), s13, .unset, .unset, .unset, .unset, .unset, .unset, .unset, .unset, .unset] []) :
    OwnEnds p e below s S0 n0 (fun v h' => v = some (.int 1)) room_1.cells room_1.slots := by
  obtain ⟨ha, hax⟩ := own_ha0 0 (by decide)
  have z0 := R.size
  have K := Keep.refl h0 []
  replace R := R.iload C (pc' := 289) at_287 rfl rfl
  obtain ⟨h1, R', E1, AH, X1⟩ := R.newA C (N := 0) (cap := 3) (ad := "[J") (C.w 5 rfl) (own_tn (n := 0) (by decide)) (by decide) (by decide) (by decide) at_289 (by decide) (by decide) (pc' := 291) rfl
  replace R := R'
  clear R'
  obtain ⟨SH, g_SH⟩ : ∃ z, z = h0.size := ⟨_, rfl⟩
  rw [← g_SH] at R AH X1
  have ne_D_SH : D ≠ SH := by rw [g_SH]; exact Nat.ne_of_lt AD.lt
  have ne_A_SH : A ≠ SH := by rw [g_SH]; exact Nat.ne_of_lt AA.lt
  have z_SH : h0.size ≤ SH := by rw [g_SH]; exact K.1
  replace AD := AD.ext E1
  replace AA := AA.ext E1
  replace K := K.ext E1
  replace AH : Ary Z h1 SH .long 0 (Jf (fun _ => 0)) := AH.of fun _ _ => rfl
  replace R := R.astore C (Ls' := #[.val (.int x0), .val (.int x1), .val (.int x2), .val (.int x3), .val (.int x4), .val (.int (Nat.toInt32 0)), .val (.int fs.toInt32), .val (.int ts.toInt32), .val (.int mv), .val (.int bv), .val (.ref D), .val (.ref PP), .val (.ref A), .val (.ref SH), .unset, .unset, .unset, .unset, .unset, .unset, .unset, .unset, .unset]) (pc' := 293) at_291 rfl (XS.store1 rfl hs13 rfl) rfl
  replace R := R.iload C (pc' := 295) at_293 rfl rfl
  obtain ⟨h2, R', E2, AX_, X2⟩ := R.newA C (N := 0) (cap := 3) (ad := "[I") (C.w 1 rfl) (own_tn (n := 0) (by decide)) (by decide) (by decide) (by decide) at_295 (by decide) (by decide) (pc' := 297) rfl
  replace R := R'
  clear R'
  obtain ⟨AXS, g_AXS⟩ : ∃ z, z = h1.size := ⟨_, rfl⟩
  rw [← g_AXS] at R AX_ X2
  have ne_D_AXS : D ≠ AXS := by rw [g_AXS]; exact Nat.ne_of_lt AD.lt
  have ne_A_AXS : A ≠ AXS := by rw [g_AXS]; exact Nat.ne_of_lt AA.lt
  have ne_SH_AXS : SH ≠ AXS := by rw [g_AXS]; exact Nat.ne_of_lt AH.lt
  have z_AXS : h0.size ≤ AXS := by rw [g_AXS]; exact K.1
  replace AD := AD.ext E2
  replace AA := AA.ext E2
  replace AH := AH.ext E2
  replace K := K.ext E2
  replace AX_ : Ary Z h2 AXS .int 0 (Nf (fun _ => 0)) := AX_.of fun _ _ => rfl
  replace R := R.astore C (Ls' := #[.val (.int x0), .val (.int x1), .val (.int x2), .val (.int x3), .val (.int x4), .val (.int (Nat.toInt32 0)), .val (.int fs.toInt32), .val (.int ts.toInt32), .val (.int mv), .val (.int bv), .val (.ref D), .val (.ref PP), .val (.ref A), .val (.ref SH), .val (.ref AXS), .unset, .unset, .unset, .unset, .unset, .unset, .unset, .unset]) (pc' := 299) at_297 rfl rfl rfl
  replace R := R.iload C (pc' := 301) at_299 rfl rfl
  replace R := R.ifY C (pc' := 321) at_301 rfl rfl
  replace R := R.iload C (pc' := 323) at_321 rfl rfl
  replace R := R.iconst C (pc' := 324) at_323 (v := (1 : Int32)) rfl rfl
  replace R := R.icmpY C (pc' := 344) at_324 rfl rfl
  replace R := R.iload C (pc' := 346) at_344 rfl rfl
  replace R := R.iconst C (pc' := 347) at_346 (v := (2 : Int32)) rfl rfl
  replace R := R.icmpY C (pc' := 367) at_347 rfl rfl
  replace AH : Ary Z h2 SH .long 0 (Jf (own_dm 0 0 0 0)) := AH.of fun i hi => absurd hi (by omega)
  replace AX_ : Ary Z h2 AXS .int 0 (Nf (own_axf 0 0)) := AX_.of fun i hi => absurd hi (by omega)
  replace R := R.iload C (pc' := 369) at_367 rfl rfl
  replace R := R.ifY C (pc' := 379) at_369 rfl rfl
  replace R := R.iconst C (pc' := 380) at_379 (v := (1 : Int32)) rfl rfl
  replace R := R.iload C (pc' := 382) at_380 rfl rfl
  replace R := R.iconst C (pc' := 383) at_382 (v := (1 : Int32)) rfl rfl
  replace R := R.icmpY C (pc' := 393) at_383 rfl rfl
  replace R := R.iconst C (pc' := 394) at_393 (v := (1 : Int32)) rfl rfl
  replace R := R.imul C (pc' := 395) at_394 rfl
  replace R := R.iload C (pc' := 397) at_395 rfl rfl
  replace R := R.iconst C (pc' := 398) at_397 (v := (2 : Int32)) rfl rfl
  replace R := R.icmpY C (pc' := 408) at_398 rfl rfl
  replace R := R.iconst C (pc' := 409) at_408 (v := (1 : Int32)) rfl rfl
  replace R := R.imul C (pc' := 410) at_409 rfl
  rw [own_ce0] at R
  replace R := R.istore C (Ls' := #[.val (.int x0), .val (.int x1), .val (.int x2), .val (.int x3), .val (.int x4), .val (.int (Nat.toInt32 0)), .val (.int fs.toInt32), .val (.int ts.toInt32), .val (.int mv), .val (.int bv), .val (.ref D), .val (.ref PP), .val (.ref A), .val (.ref SH), .val (.ref AXS), .val (.int (own_cells 0 (own_dm 0 0 0 0)).toInt32), .unset, .unset, .unset, .unset, .unset, .unset, .unset]) (pc' := 412) at_410 rfl rfl
  replace R := R.iconst C (pc' := 413) at_412 (v := (3 : Int32)) rfl rfl
  replace R := R.iload C (pc' := 415) at_413 rfl rfl
  replace R := R.isub C (pc' := 416) at_415 rfl
  replace R := R.istore C (Ls' := #[.val (.int x0), .val (.int x1), .val (.int x2), .val (.int x3), .val (.int x4), .val (.int (Nat.toInt32 0)), .val (.int fs.toInt32), .val (.int ts.toInt32), .val (.int mv), .val (.int bv), .val (.ref D), .val (.ref PP), .val (.ref A), .val (.ref SH), .val (.ref AXS), .val (.int (own_cells 0 (own_dm 0 0 0 0)).toInt32), .val (.int ((3 : Int32) - (Nat.toInt32 0))), .unset, .unset, .unset, .unset, .unset, .unset]) (pc' := 418) at_416 rfl rfl
  replace R := R.asL (Ls' := #[.val (.int x0), .val (.int x1), .val (.int x2), .val (.int x3), .val (.int x4), .val (.int (Nat.toInt32 0)), .val (.int fs.toInt32), .val (.int ts.toInt32), .val (.int mv), .val (.int bv), .val (.ref D), .val (.ref PP), .val (.ref A), .val (.ref SH), .val (.ref AXS), .val (.int (own_cells 0 (own_dm 0 0 0 0)).toInt32), .val (.int (Nat.toInt32 3)), .unset, .unset, .unset, .unset, .unset, .unset]) rfl
  replace R := R.iconst C (pc' := 419) at_418 (v := (3 : Int32)) rfl rfl
  obtain ⟨h3, R', E3, AS_, X3⟩ := R.newA C (N := 3) (cap := 3) (ad := "[I") (C.w 1 rfl) rfl (by decide) (by decide) (by decide) at_419 (by decide) (by decide) (pc' := 421) rfl
  replace R := R'
  clear R'
  obtain ⟨S, g_S⟩ : ∃ z, z = h2.size := ⟨_, rfl⟩
  rw [← g_S] at R AS_ X3
  have ne_D_S : D ≠ S := by rw [g_S]; exact Nat.ne_of_lt AD.lt
  have ne_A_S : A ≠ S := by rw [g_S]; exact Nat.ne_of_lt AA.lt
  have ne_SH_S : SH ≠ S := by rw [g_S]; exact Nat.ne_of_lt AH.lt
  have ne_AXS_S : AXS ≠ S := by rw [g_S]; exact Nat.ne_of_lt AX_.lt
  have z_S : h0.size ≤ S := by rw [g_S]; exact K.1
  replace AD := AD.ext E3
  replace AA := AA.ext E3
  replace AH := AH.ext E3
  replace AX_ := AX_.ext E3
  replace K := K.ext E3
  replace AS_ : Ary Z h3 S .int 3 (Nf (fun _ => 0)) := AS_.of fun _ _ => rfl
  replace R := R.astore C (Ls' := #[.val (.int x0), .val (.int x1), .val (.int x2), .val (.int x3), .val (.int x4), .val (.int (Nat.toInt32 0)), .val (.int fs.toInt32), .val (.int ts.toInt32), .val (.int mv), .val (.int bv), .val (.ref D), .val (.ref PP), .val (.ref A), .val (.ref SH), .val (.ref AXS), .val (.int (own_cells 0 (own_dm 0 0 0 0)).toInt32), .val (.int (Nat.toInt32 3)), .val (.ref S), .unset, .unset, .unset, .unset, .unset]) (pc' := 423) at_421 rfl rfl rfl
  replace R := R.iconst C (pc' := 424) at_423 (v := (3 : Int32)) rfl rfl
  obtain ⟨h4, R', E4, AAX, X4⟩ := R.newA C (N := 3) (cap := 3) (ad := "[I") (C.w 1 rfl) rfl (by decide) (by decide) (by decide) at_424 (by decide) (by decide) (pc' := 426) rfl
  replace R := R'
  clear R'
  obtain ⟨AX, g_AX⟩ : ∃ z, z = h3.size := ⟨_, rfl⟩
  rw [← g_AX] at R AAX X4
  have ne_D_AX : D ≠ AX := by rw [g_AX]; exact Nat.ne_of_lt AD.lt
  have ne_A_AX : A ≠ AX := by rw [g_AX]; exact Nat.ne_of_lt AA.lt
  have ne_SH_AX : SH ≠ AX := by rw [g_AX]; exact Nat.ne_of_lt AH.lt
  have ne_AXS_AX : AXS ≠ AX := by rw [g_AX]; exact Nat.ne_of_lt AX_.lt
  have ne_S_AX : S ≠ AX := by rw [g_AX]; exact Nat.ne_of_lt AS_.lt
  have z_AX : h0.size ≤ AX := by rw [g_AX]; exact K.1
  replace AD := AD.ext E4
  replace AA := AA.ext E4
  replace AH := AH.ext E4
  replace AX_ := AX_.ext E4
  replace AS_ := AS_.ext E4
  replace K := K.ext E4
  replace AAX : Ary Z h4 AX .int 3 (Nf (fun _ => 0)) := AAX.of fun _ _ => rfl
  replace R := R.astore C (Ls' := #[.val (.int x0), .val (.int x1), .val (.int x2), .val (.int x3), .val (.int x4), .val (.int (Nat.toInt32 0)), .val (.int fs.toInt32), .val (.int ts.toInt32), .val (.int mv), .val (.int bv), .val (.ref D), .val (.ref PP), .val (.ref A), .val (.ref SH), .val (.ref AXS), .val (.int (own_cells 0 (own_dm 0 0 0 0)).toInt32), .val (.int (Nat.toInt32 3)), .val (.ref S), .val (.ref AX), .unset, .unset, .unset, .unset]) (pc' := 428) at_426 rfl rfl rfl
  replace R := R.aload C (pc' := 430) at_428 rfl rfl rfl
  replace R := R.iconst C (pc' := 431) at_430 (v := (0 : Int32)) rfl rfl
  replace R := R.iconst C (pc' := 432) at_431 (v := (0 : Int32)) rfl rfl
  replace R := R.iload C (pc' := 434) at_432 rfl rfl
  replace R := R.aload C (pc' := 436) at_434 rfl rfl rfl
  replace R := R.as (st' := [(.ref D), (.int (Nat.toInt32 3)), (.int (Nat.toInt32 0)), (.int (0 : Int32)), (.ref S)]) rfl
  obtain ⟨_, _, R', rfl, rfl⟩ := R.callS C (y := (⟨"com/example/lacuna_tensor/lacunatensor/DenseTensorPermuteCellsPinLaw", "padS", "(II[I)I"⟩ : MethodName)) (C.w 6 rfl) (C.w 7 rfl) (C.w 8 rfl) (C.w 9 rfl) (by decide) [(.int (Nat.toInt32 0)), (.int (Nat.toInt32 3)), (.ref D)] [(.int (0 : Int32)), (.ref S)] rfl (con_padS l Z a0 hw 0 3 (by decide) (by decide) D (own_tri d0 d1 d2) h4 n0 R.size AD) 2 (Nat.le_of_eq rfl) (by decide) (by decide) (by decide) (by decide) (lenOf pd_0 rfl) rfl (pc' := 439) at_436 rfl
  clear R
  replace R := R'.as (st' := [(.int (own_s 0 (own_dm 0 0 0 0) 0).toInt32), (.int (0 : Int32)), (.ref S)]) rfl
  clear R'
  obtain ⟨h5, R', W5⟩ := R.iastore C AS_ (i := 0) rfl (by decide) (Nat.le_trans z0 z_S) (pc' := 440) at_439 rfl
  replace R := R'
  clear R'
  replace AD := AD.other W5 ne_D_S
  replace AA := AA.other W5 ne_A_S
  replace AH := AH.other W5 ne_SH_S
  replace AX_ := AX_.other W5 ne_AXS_S
  replace AS_ := AS_.set W5
  replace AAX := AAX.other W5 (Ne.symm ne_S_AX)
  replace K := K.wr W5 (Or.inr z_S)
  rw [upd_N] at AS_
  replace R := R.aload C (pc' := 442) at_440 rfl rfl rfl
  replace R := R.iconst C (pc' := 443) at_442 (v := (1 : Int32)) rfl rfl
  replace R := R.iconst C (pc' := 444) at_443 (v := (1 : Int32)) rfl rfl
  replace R := R.iload C (pc' := 446) at_444 rfl rfl
  replace R := R.aload C (pc' := 448) at_446 rfl rfl rfl
  replace R := R.as (st' := [(.ref D), (.int (Nat.toInt32 3)), (.int (Nat.toInt32 1)), (.int (1 : Int32)), (.ref S)]) rfl
  obtain ⟨_, _, R', rfl, rfl⟩ := R.callS C (y := (⟨"com/example/lacuna_tensor/lacunatensor/DenseTensorPermuteCellsPinLaw", "padS", "(II[I)I"⟩ : MethodName)) (C.w 6 rfl) (C.w 7 rfl) (C.w 8 rfl) (C.w 9 rfl) (by decide) [(.int (Nat.toInt32 1)), (.int (Nat.toInt32 3)), (.ref D)] [(.int (1 : Int32)), (.ref S)] rfl (con_padS l Z a0 hw 1 3 (by decide) (by decide) D (own_tri d0 d1 d2) h5 n0 R.size AD) 2 (Nat.le_of_eq rfl) (by decide) (by decide) (by decide) (by decide) (lenOf pd_0 rfl) rfl (pc' := 451) at_448 rfl
  clear R
  replace R := R'.as (st' := [(.int (own_s 0 (own_dm 0 0 0 0) 1).toInt32), (.int (1 : Int32)), (.ref S)]) rfl
  clear R'
  obtain ⟨h6, R', W6⟩ := R.iastore C AS_ (i := 1) rfl (by decide) (Nat.le_trans z0 z_S) (pc' := 452) at_451 rfl
  replace R := R'
  clear R'
  replace AD := AD.other W6 ne_D_S
  replace AA := AA.other W6 ne_A_S
  replace AH := AH.other W6 ne_SH_S
  replace AX_ := AX_.other W6 ne_AXS_S
  replace AS_ := AS_.set W6
  replace AAX := AAX.other W6 (Ne.symm ne_S_AX)
  replace K := K.wr W6 (Or.inr z_S)
  rw [upd_N] at AS_
  replace R := R.aload C (pc' := 454) at_452 rfl rfl rfl
  replace R := R.iconst C (pc' := 455) at_454 (v := (2 : Int32)) rfl rfl
  replace R := R.iconst C (pc' := 456) at_455 (v := (2 : Int32)) rfl rfl
  replace R := R.iload C (pc' := 458) at_456 rfl rfl
  replace R := R.aload C (pc' := 460) at_458 rfl rfl rfl
  replace R := R.as (st' := [(.ref D), (.int (Nat.toInt32 3)), (.int (Nat.toInt32 2)), (.int (2 : Int32)), (.ref S)]) rfl
  obtain ⟨_, _, R', rfl, rfl⟩ := R.callS C (y := (⟨"com/example/lacuna_tensor/lacunatensor/DenseTensorPermuteCellsPinLaw", "padS", "(II[I)I"⟩ : MethodName)) (C.w 6 rfl) (C.w 7 rfl) (C.w 8 rfl) (C.w 9 rfl) (by decide) [(.int (Nat.toInt32 2)), (.int (Nat.toInt32 3)), (.ref D)] [(.int (2 : Int32)), (.ref S)] rfl (con_padS l Z a0 hw 2 3 (by decide) (by decide) D (own_tri d0 d1 d2) h6 n0 R.size AD) 2 (Nat.le_of_eq rfl) (by decide) (by decide) (by decide) (by decide) (lenOf pd_0 rfl) rfl (pc' := 463) at_460 rfl
  clear R
  replace R := R'.as (st' := [(.int (own_s 0 (own_dm 0 0 0 0) 2).toInt32), (.int (2 : Int32)), (.ref S)]) rfl
  clear R'
  obtain ⟨h7, R', W7⟩ := R.iastore C AS_ (i := 2) rfl (by decide) (Nat.le_trans z0 z_S) (pc' := 464) at_463 rfl
  replace R := R'
  clear R'
  replace AD := AD.other W7 ne_D_S
  replace AA := AA.other W7 ne_A_S
  replace AH := AH.other W7 ne_SH_S
  replace AX_ := AX_.other W7 ne_AXS_S
  replace AS_ := AS_.set W7
  replace AAX := AAX.other W7 (Ne.symm ne_S_AX)
  replace K := K.wr W7 (Or.inr z_S)
  rw [upd_N] at AS_
  replace R := R.aload C (pc' := 466) at_464 rfl rfl rfl
  replace R := R.iconst C (pc' := 467) at_466 (v := (0 : Int32)) rfl rfl
  replace R := R.iconst C (pc' := 468) at_467 (v := (0 : Int32)) rfl rfl
  replace R := R.iload C (pc' := 470) at_468 rfl rfl
  replace R := R.aload C (pc' := 472) at_470 rfl rfl rfl
  replace R := R.as (st' := [(.ref A), (.int (Nat.toInt32 3)), (.int (Nat.toInt32 0)), (.int (0 : Int32)), (.ref AX)]) rfl
  obtain ⟨_, _, R', rfl, rfl⟩ := R.callS C (y := (⟨"com/example/lacuna_tensor/lacunatensor/DenseTensorPermuteCellsPinLaw", "padA", "(II[I)I"⟩ : MethodName)) (C.w 10 rfl) (C.w 11 rfl) (C.w 8 rfl) (C.w 12 rfl) (by decide) [(.int (Nat.toInt32 0)), (.int (Nat.toInt32 3)), (.ref A)] [(.int (0 : Int32)), (.ref AX)] rfl (con_padA l Z a0 hw 0 3 (by decide) (by decide) A (own_axf 0 0) h7 n0 R.size AA) 2 (Nat.le_of_eq rfl) (by decide) (by decide) (by decide) (by decide) (lenOf pd_0 rfl) rfl (pc' := 475) at_472 rfl
  clear R
  replace R := R'.as (st' := [(.int (own_a 0 (own_axf 0 0) 0).toInt32), (.int (0 : Int32)), (.ref AX)]) rfl
  clear R'
  obtain ⟨h8, R', W8⟩ := R.iastore C AAX (i := 0) rfl (by decide) (Nat.le_trans z0 z_AX) (pc' := 476) at_475 rfl
  replace R := R'
  clear R'
  replace AD := AD.other W8 ne_D_AX
  replace AA := AA.other W8 ne_A_AX
  replace AH := AH.other W8 ne_SH_AX
  replace AX_ := AX_.other W8 ne_AXS_AX
  replace AS_ := AS_.other W8 ne_S_AX
  replace AAX := AAX.set W8
  replace K := K.wr W8 (Or.inr z_AX)
  rw [upd_N] at AAX
  replace R := R.aload C (pc' := 478) at_476 rfl rfl rfl
  replace R := R.iconst C (pc' := 479) at_478 (v := (1 : Int32)) rfl rfl
  replace R := R.iconst C (pc' := 480) at_479 (v := (1 : Int32)) rfl rfl
  replace R := R.iload C (pc' := 482) at_480 rfl rfl
  replace R := R.aload C (pc' := 484) at_482 rfl rfl rfl
  replace R := R.as (st' := [(.ref A), (.int (Nat.toInt32 3)), (.int (Nat.toInt32 1)), (.int (1 : Int32)), (.ref AX)]) rfl
  obtain ⟨_, _, R', rfl, rfl⟩ := R.callS C (y := (⟨"com/example/lacuna_tensor/lacunatensor/DenseTensorPermuteCellsPinLaw", "padA", "(II[I)I"⟩ : MethodName)) (C.w 10 rfl) (C.w 11 rfl) (C.w 8 rfl) (C.w 12 rfl) (by decide) [(.int (Nat.toInt32 1)), (.int (Nat.toInt32 3)), (.ref A)] [(.int (1 : Int32)), (.ref AX)] rfl (con_padA l Z a0 hw 1 3 (by decide) (by decide) A (own_axf 0 0) h8 n0 R.size AA) 2 (Nat.le_of_eq rfl) (by decide) (by decide) (by decide) (by decide) (lenOf pd_0 rfl) rfl (pc' := 487) at_484 rfl
  clear R
  replace R := R'.as (st' := [(.int (own_a 0 (own_axf 0 0) 1).toInt32), (.int (1 : Int32)), (.ref AX)]) rfl
  clear R'
  obtain ⟨h9, R', W9⟩ := R.iastore C AAX (i := 1) rfl (by decide) (Nat.le_trans z0 z_AX) (pc' := 488) at_487 rfl
  replace R := R'
  clear R'
  replace AD := AD.other W9 ne_D_AX
  replace AA := AA.other W9 ne_A_AX
  replace AH := AH.other W9 ne_SH_AX
  replace AX_ := AX_.other W9 ne_AXS_AX
  replace AS_ := AS_.other W9 ne_S_AX
  replace AAX := AAX.set W9
  replace K := K.wr W9 (Or.inr z_AX)
  rw [upd_N] at AAX
  replace R := R.aload C (pc' := 490) at_488 rfl rfl rfl
  replace R := R.iconst C (pc' := 491) at_490 (v := (2 : Int32)) rfl rfl
  replace R := R.iconst C (pc' := 492) at_491 (v := (2 : Int32)) rfl rfl
  replace R := R.iload C (pc' := 494) at_492 rfl rfl
  replace R := R.aload C (pc' := 496) at_494 rfl rfl rfl
  replace R := R.as (st' := [(.ref A), (.int (Nat.toInt32 3)), (.int (Nat.toInt32 2)), (.int (2 : Int32)), (.ref AX)]) rfl
  obtain ⟨_, _, R', rfl, rfl⟩ := R.callS C (y := (⟨"com/example/lacuna_tensor/lacunatensor/DenseTensorPermuteCellsPinLaw", "padA", "(II[I)I"⟩ : MethodName)) (C.w 10 rfl) (C.w 11 rfl) (C.w 8 rfl) (C.w 12 rfl) (by decide) [(.int (Nat.toInt32 2)), (.int (Nat.toInt32 3)), (.ref A)] [(.int (2 : Int32)), (.ref AX)] rfl (con_padA l Z a0 hw 2 3 (by decide) (by decide) A (own_axf 0 0) h9 n0 R.size AA) 2 (Nat.le_of_eq rfl) (by decide) (by decide) (by decide) (by decide) (lenOf pd_0 rfl) rfl (pc' := 499) at_496 rfl
  clear R
  replace R := R'.as (st' := [(.int (own_a 0 (own_axf 0 0) 2).toInt32), (.int (2 : Int32)), (.ref AX)]) rfl
  clear R'
  obtain ⟨h10, R', W10⟩ := R.iastore C AAX (i := 2) rfl (by decide) (Nat.le_trans z0 z_AX) (pc' := 500) at_499 rfl
  replace R := R'
  clear R'
  replace AD := AD.other W10 ne_D_AX
  replace AA := AA.other W10 ne_A_AX
  replace AH := AH.other W10 ne_SH_AX
  replace AX_ := AX_.other W10 ne_AXS_AX
  replace AS_ := AS_.other W10 ne_S_AX
  replace AAX := AAX.set W10
  replace K := K.wr W10 (Or.inr z_AX)
  rw [upd_N] at AAX
  replace AS_ : Ary Z h10 S .int 3 (Nf (own_s 0 (own_dm 0 0 0 0))) := AS_.of fun i hi => by
    match i, hi with
    | 0, _ => rfl
    | 1, _ => rfl
    | 2, _ => rfl
  replace AAX : Ary Z h10 AX .int 3 (Nf (own_a 0 (own_axf 0 0))) := AAX.of fun i hi => by
    match i, hi with
    | 0, _ => rfl
    | 1, _ => rfl
    | 2, _ => rfl
  replace R := R.iconst C (pc' := 501) at_500 (v := (3 : Int32)) rfl rfl
  obtain ⟨h11, R', E11, AZ, X11⟩ := R.newA C (N := 3) (cap := 3) (ad := "[I") (C.w 1 rfl) rfl (by decide) (by decide) (by decide) at_501 (by decide) (by decide) (pc' := 503) rfl
  replace R := R'
  clear R'
  obtain ⟨PZ, g_PZ⟩ : ∃ z, z = h10.size := ⟨_, rfl⟩
  rw [← g_PZ] at R AZ X11
  have ne_D_PZ : D ≠ PZ := by rw [g_PZ]; exact Nat.ne_of_lt AD.lt
  have ne_A_PZ : A ≠ PZ := by rw [g_PZ]; exact Nat.ne_of_lt AA.lt
  have ne_SH_PZ : SH ≠ PZ := by rw [g_PZ]; exact Nat.ne_of_lt AH.lt
  have ne_AXS_PZ : AXS ≠ PZ := by rw [g_PZ]; exact Nat.ne_of_lt AX_.lt
  have ne_S_PZ : S ≠ PZ := by rw [g_PZ]; exact Nat.ne_of_lt AS_.lt
  have ne_AX_PZ : AX ≠ PZ := by rw [g_PZ]; exact Nat.ne_of_lt AAX.lt
  have z_PZ : h0.size ≤ PZ := by rw [g_PZ]; exact K.1
  replace AD := AD.ext E11
  replace AA := AA.ext E11
  replace AH := AH.ext E11
  replace AX_ := AX_.ext E11
  replace AS_ := AS_.ext E11
  replace AAX := AAX.ext E11
  replace K := K.ext E11
  replace AZ : Ary Z h11 PZ .int 3 (Nf (fun _ => 0)) := AZ.of fun _ _ => rfl
  replace R := R.astore C (Ls' := #[.val (.int x0), .val (.int x1), .val (.int x2), .val (.int x3), .val (.int x4), .val (.int (Nat.toInt32 0)), .val (.int fs.toInt32), .val (.int ts.toInt32), .val (.int mv), .val (.int bv), .val (.ref D), .val (.ref PP), .val (.ref A), .val (.ref SH), .val (.ref AXS), .val (.int (own_cells 0 (own_dm 0 0 0 0)).toInt32), .val (.int (Nat.toInt32 3)), .val (.ref S), .val (.ref AX), .val (.ref PZ), .unset, .unset, .unset]) (pc' := 505) at_503 rfl rfl rfl
  replace R := R.aload C (pc' := 507) at_505 rfl rfl rfl
  replace R := R.iconst C (pc' := 508) at_507 (v := (0 : Int32)) rfl rfl
  replace R := R.aload C (pc' := 510) at_508 rfl rfl rfl
  replace R := R.aload C (pc' := 512) at_510 rfl rfl rfl
  replace R := R.iconst C (pc' := 513) at_512 (v := (0 : Int32)) rfl rfl
  replace R := R.iaload C (v := (.int (own_a 0 (own_axf 0 0) 0).toInt32)) AAX (i := 0) rfl (by decide) rfl (pc' := 514) at_513 rfl
  replace R := R.iaload C (v := (.int (own_pz 0 (own_dm 0 0 0 0) (own_axf 0 0) 0).toInt32)) AS_ (i := own_a 0 (own_axf 0 0) 0) (own_tn (by have := hax 0 (by decide); omega)) (hax 0 (by decide)) rfl (pc' := 515) at_514 rfl
  obtain ⟨h12, R', W12⟩ := R.iastore C AZ (i := 0) rfl (by decide) (Nat.le_trans z0 z_PZ) (pc' := 516) at_515 rfl
  replace R := R'
  clear R'
  replace AD := AD.other W12 ne_D_PZ
  replace AA := AA.other W12 ne_A_PZ
  replace AH := AH.other W12 ne_SH_PZ
  replace AX_ := AX_.other W12 ne_AXS_PZ
  replace AS_ := AS_.other W12 ne_S_PZ
  replace AAX := AAX.other W12 ne_AX_PZ
  replace AZ := AZ.set W12
  replace K := K.wr W12 (Or.inr z_PZ)
  rw [upd_N] at AZ
  replace R := R.aload C (pc' := 518) at_516 rfl rfl rfl
  replace R := R.iconst C (pc' := 519) at_518 (v := (1 : Int32)) rfl rfl
  replace R := R.aload C (pc' := 521) at_519 rfl rfl rfl
  replace R := R.aload C (pc' := 523) at_521 rfl rfl rfl
  replace R := R.iconst C (pc' := 524) at_523 (v := (1 : Int32)) rfl rfl
  replace R := R.iaload C (v := (.int (own_a 0 (own_axf 0 0) 1).toInt32)) AAX (i := 1) rfl (by decide) rfl (pc' := 525) at_524 rfl
  replace R := R.iaload C (v := (.int (own_pz 0 (own_dm 0 0 0 0) (own_axf 0 0) 1).toInt32)) AS_ (i := own_a 0 (own_axf 0 0) 1) (own_tn (by have := hax 1 (by decide); omega)) (hax 1 (by decide)) rfl (pc' := 526) at_525 rfl
  obtain ⟨h13, R', W13⟩ := R.iastore C AZ (i := 1) rfl (by decide) (Nat.le_trans z0 z_PZ) (pc' := 527) at_526 rfl
  replace R := R'
  clear R'
  replace AD := AD.other W13 ne_D_PZ
  replace AA := AA.other W13 ne_A_PZ
  replace AH := AH.other W13 ne_SH_PZ
  replace AX_ := AX_.other W13 ne_AXS_PZ
  replace AS_ := AS_.other W13 ne_S_PZ
  replace AAX := AAX.other W13 ne_AX_PZ
  replace AZ := AZ.set W13
  replace K := K.wr W13 (Or.inr z_PZ)
  rw [upd_N] at AZ
  replace R := R.aload C (pc' := 529) at_527 rfl rfl rfl
  replace R := R.iconst C (pc' := 530) at_529 (v := (2 : Int32)) rfl rfl
  replace R := R.aload C (pc' := 532) at_530 rfl rfl rfl
  replace R := R.aload C (pc' := 534) at_532 rfl rfl rfl
  replace R := R.iconst C (pc' := 535) at_534 (v := (2 : Int32)) rfl rfl
  replace R := R.iaload C (v := (.int (own_a 0 (own_axf 0 0) 2).toInt32)) AAX (i := 2) rfl (by decide) rfl (pc' := 536) at_535 rfl
  replace R := R.iaload C (v := (.int (own_pz 0 (own_dm 0 0 0 0) (own_axf 0 0) 2).toInt32)) AS_ (i := own_a 0 (own_axf 0 0) 2) (own_tn (by have := hax 2 (by decide); omega)) (hax 2 (by decide)) rfl (pc' := 537) at_536 rfl
  obtain ⟨h14, R', W14⟩ := R.iastore C AZ (i := 2) rfl (by decide) (Nat.le_trans z0 z_PZ) (pc' := 538) at_537 rfl
  replace R := R'
  clear R'
  replace AD := AD.other W14 ne_D_PZ
  replace AA := AA.other W14 ne_A_PZ
  replace AH := AH.other W14 ne_SH_PZ
  replace AX_ := AX_.other W14 ne_AXS_PZ
  replace AS_ := AS_.other W14 ne_S_PZ
  replace AAX := AAX.other W14 ne_AX_PZ
  replace AZ := AZ.set W14
  replace K := K.wr W14 (Or.inr z_PZ)
  rw [upd_N] at AZ
  replace AZ : Ary Z h14 PZ .int 3 (Nf (own_pz 0 (own_dm 0 0 0 0) (own_axf 0 0))) := AZ.of fun i hi => by
    match i, hi with
    | 0, _ => rfl
    | 1, _ => rfl
    | 2, _ => rfl
  have hd : ∀ k, k < 0 → (own_dm 0 0 0 0) k ≤ 9 := fun i hi => absurd hi (by omega)
  have hs : ∀ k, k < 3 → own_s 0 (own_dm 0 0 0 0) k ≤ 9 := fun i hi => by
    match i, hi with
    | 0, _ => exact (show 1 ≤ 9 by omega)
    | 1, _ => exact (show 1 ≤ 9 by omega)
    | 2, _ => exact (show 1 ≤ 9 by omega)
  exact own_stE hw C x0 x1 x2 x3 x4 mv bv _ D PP A SH AXS S AX PZ 0 fs ts (by decide) hfs hts (own_dm 0 0 0 0) (own_axf 0 0) hd ha hs hax (own_g0) AH AX_ AS_ AAX AZ R
theorem own_ha1 : ∀ pi, pi < 6 → (∀ k, k < 1 → own_axf 1 pi k < 1) ∧ ∀ k, k < 3 → own_a 1 (own_axf 1 pi) k < 3 := by decide
set_option maxRecDepth 65536 in
set_option maxHeartbeats 40000000 in
theorem own_stD1 {p : Program} {l : Launch} {e : Env} {s : State} {m : MethodId} {args : Array Value} {below : List Frame} {meth : Method} {c : Code} {S0 : State} {n0 : Nat} {Z : State} {a0 : Array Value} {h0 : Heap} (hw : ∀ d ∈ tables_1, d.before a0 Z = true) (C : Ctx p s m meth c Z a0 tables_1 x.cls code maxLocals x.name ret) (x0 x1 x2 x3 x4 mv bv : Int32) (D PP A : Addr) (fs ts d0 d1 d2 pi : Nat) (hfs : fs < 4) (hts : ts < 4) (hd0 : d0 < 10) (hd1 : d1 < 10) (hd2 : d2 < 10) (hpi : pi < 6) (s13 : Slot) (hs13 : One s13) (AD : Ary Z h0 D .int 3 (Nf (own_tri d0 d1 d2))) (AA : Ary Z h0 A .int 3 (Nf (own_axf 1 0))) (R : Rch p l e room_1 s m args below meth c S0 n0 9 30 h0 287 #[.val (.int x0), .val (.int x1), .val (.int x2), .val (.int x3), .val (.int x4), .val (.int (Nat.toInt32 1)), .val (.int fs.toInt32), .val (.int ts.toInt32), .val (.int mv), .val (.int bv), .val (.ref D), .val (.ref PP), .val (.ref A), s13, .unset, .unset, .unset, .unset, .unset, .unset, .unset, .unset, .unset] []) :
    OwnEnds p e below s S0 n0 (fun v h' => v = some (.int 1)) room_1.cells room_1.slots := by
  obtain ⟨ha, hax⟩ := own_ha1 0 (by decide)
  have z0 := R.size
  have K := Keep.refl h0 []
  replace R := R.iload C (pc' := 289) at_287 rfl rfl
  obtain ⟨h1, R', E1, AH, X1⟩ := R.newA C (N := 1) (cap := 3) (ad := "[J") (C.w 5 rfl) (own_tn (n := 1) (by decide)) (by decide) (by decide) (by decide) at_289 (by decide) (by decide) (pc' := 291) rfl
  replace R := R'
  clear R'
  obtain ⟨SH, g_SH⟩ : ∃ z, z = h0.size := ⟨_, rfl⟩
  rw [← g_SH] at R AH X1
  have ne_D_SH : D ≠ SH := by rw [g_SH]; exact Nat.ne_of_lt AD.lt
  have ne_A_SH : A ≠ SH := by rw [g_SH]; exact Nat.ne_of_lt AA.lt
  have z_SH : h0.size ≤ SH := by rw [g_SH]; exact K.1
  replace AD := AD.ext E1
  replace AA := AA.ext E1
  replace K := K.ext E1
  replace AH : Ary Z h1 SH .long 1 (Jf (fun _ => 0)) := AH.of fun _ _ => rfl
  replace R := R.astore C (Ls' := #[.val (.int x0), .val (.int x1), .val (.int x2), .val (.int x3), .val (.int x4), .val (.int (Nat.toInt32 1)), .val (.int fs.toInt32), .val (.int ts.toInt32), .val (.int mv), .val (.int bv), .val (.ref D), .val (.ref PP), .val (.ref A), .val (.ref SH), .unset, .unset, .unset, .unset, .unset, .unset, .unset, .unset, .unset]) (pc' := 293) at_291 rfl (XS.store1 rfl hs13 rfl) rfl
  replace R := R.iload C (pc' := 295) at_293 rfl rfl
  obtain ⟨h2, R', E2, AX_, X2⟩ := R.newA C (N := 1) (cap := 3) (ad := "[I") (C.w 1 rfl) (own_tn (n := 1) (by decide)) (by decide) (by decide) (by decide) at_295 (by decide) (by decide) (pc' := 297) rfl
  replace R := R'
  clear R'
  obtain ⟨AXS, g_AXS⟩ : ∃ z, z = h1.size := ⟨_, rfl⟩
  rw [← g_AXS] at R AX_ X2
  have ne_D_AXS : D ≠ AXS := by rw [g_AXS]; exact Nat.ne_of_lt AD.lt
  have ne_A_AXS : A ≠ AXS := by rw [g_AXS]; exact Nat.ne_of_lt AA.lt
  have ne_SH_AXS : SH ≠ AXS := by rw [g_AXS]; exact Nat.ne_of_lt AH.lt
  have z_AXS : h0.size ≤ AXS := by rw [g_AXS]; exact K.1
  replace AD := AD.ext E2
  replace AA := AA.ext E2
  replace AH := AH.ext E2
  replace K := K.ext E2
  replace AX_ : Ary Z h2 AXS .int 1 (Nf (fun _ => 0)) := AX_.of fun _ _ => rfl
  replace R := R.astore C (Ls' := #[.val (.int x0), .val (.int x1), .val (.int x2), .val (.int x3), .val (.int x4), .val (.int (Nat.toInt32 1)), .val (.int fs.toInt32), .val (.int ts.toInt32), .val (.int mv), .val (.int bv), .val (.ref D), .val (.ref PP), .val (.ref A), .val (.ref SH), .val (.ref AXS), .unset, .unset, .unset, .unset, .unset, .unset, .unset, .unset]) (pc' := 299) at_297 rfl rfl rfl
  replace R := R.iload C (pc' := 301) at_299 rfl rfl
  replace R := R.ifN C (pc' := 304) at_301 rfl rfl
  replace R := R.aload C (pc' := 306) at_304 rfl rfl rfl
  replace R := R.iconst C (pc' := 307) at_306 (v := (0 : Int32)) rfl rfl
  replace R := R.aload C (pc' := 309) at_307 rfl rfl rfl
  replace R := R.iconst C (pc' := 310) at_309 (v := (0 : Int32)) rfl rfl
  replace R := R.iaload C (v := (.int d0.toInt32)) AD (i := 0) rfl (by decide) rfl (pc' := 311) at_310 rfl
  replace R := R.i2l C (pc' := 312) at_311 rfl
  obtain ⟨h3, R', W3⟩ := R.lastore C AH (i := 0) rfl (by decide) (Nat.le_trans z0 z_SH) (pc' := 313) at_312 rfl
  replace R := R'
  clear R'
  replace AD := AD.other W3 ne_D_SH
  replace AA := AA.other W3 ne_A_SH
  replace AH := AH.set W3
  replace AX_ := AX_.other W3 (Ne.symm ne_SH_AXS)
  replace K := K.wr W3 (Or.inr z_SH)
  replace R := R.aload C (pc' := 315) at_313 rfl rfl rfl
  replace R := R.iconst C (pc' := 316) at_315 (v := (0 : Int32)) rfl rfl
  replace R := R.aload C (pc' := 318) at_316 rfl rfl rfl
  replace R := R.iconst C (pc' := 319) at_318 (v := (0 : Int32)) rfl rfl
  replace R := R.iaload C (v := (.int ((own_axf 1 0) 0).toInt32)) AA (i := 0) rfl (by decide) rfl (pc' := 320) at_319 rfl
  obtain ⟨h4, R', W4⟩ := R.iastore C AX_ (i := 0) rfl (by decide) (Nat.le_trans z0 z_AXS) (pc' := 321) at_320 rfl
  replace R := R'
  clear R'
  replace AD := AD.other W4 ne_D_AXS
  replace AA := AA.other W4 ne_A_AXS
  replace AH := AH.other W4 ne_SH_AXS
  replace AX_ := AX_.set W4
  replace K := K.wr W4 (Or.inr z_AXS)
  rw [upd_N] at AX_
  replace R := R.iload C (pc' := 323) at_321 rfl rfl
  replace R := R.iconst C (pc' := 324) at_323 (v := (1 : Int32)) rfl rfl
  replace R := R.icmpY C (pc' := 344) at_324 rfl rfl
  replace R := R.iload C (pc' := 346) at_344 rfl rfl
  replace R := R.iconst C (pc' := 347) at_346 (v := (2 : Int32)) rfl rfl
  replace R := R.icmpY C (pc' := 367) at_347 rfl rfl
  replace AH : Ary Z h4 SH .long 1 (Jf (own_dm 1 d0 0 0)) := AH.of fun i hi => by
    match i, hi with
    | 0, _ => rfl
  replace AX_ : Ary Z h4 AXS .int 1 (Nf (own_axf 1 0)) := AX_.of fun i hi => by
    match i, hi with
    | 0, _ => rfl
  replace R := R.iload C (pc' := 369) at_367 rfl rfl
  replace R := R.ifN C (pc' := 372) at_369 rfl rfl
  replace R := R.aload C (pc' := 374) at_372 rfl rfl rfl
  replace R := R.iconst C (pc' := 375) at_374 (v := (0 : Int32)) rfl rfl
  replace R := R.iaload C (v := (.int d0.toInt32)) AD (i := 0) rfl (by decide) rfl (pc' := 376) at_375 rfl
  replace R := R.goto C (pc' := 380) at_376 rfl
  replace R := R.iload C (pc' := 382) at_380 rfl rfl
  replace R := R.iconst C (pc' := 383) at_382 (v := (1 : Int32)) rfl rfl
  replace R := R.icmpY C (pc' := 393) at_383 rfl rfl
  replace R := R.iconst C (pc' := 394) at_393 (v := (1 : Int32)) rfl rfl
  replace R := R.imul C (pc' := 395) at_394 rfl
  replace R := R.iload C (pc' := 397) at_395 rfl rfl
  replace R := R.iconst C (pc' := 398) at_397 (v := (2 : Int32)) rfl rfl
  replace R := R.icmpY C (pc' := 408) at_398 rfl rfl
  replace R := R.iconst C (pc' := 409) at_408 (v := (1 : Int32)) rfl rfl
  replace R := R.imul C (pc' := 410) at_409 rfl
  rw [own_ce1] at R
  replace R := R.istore C (Ls' := #[.val (.int x0), .val (.int x1), .val (.int x2), .val (.int x3), .val (.int x4), .val (.int (Nat.toInt32 1)), .val (.int fs.toInt32), .val (.int ts.toInt32), .val (.int mv), .val (.int bv), .val (.ref D), .val (.ref PP), .val (.ref A), .val (.ref SH), .val (.ref AXS), .val (.int (own_cells 1 (own_dm 1 d0 0 0)).toInt32), .unset, .unset, .unset, .unset, .unset, .unset, .unset]) (pc' := 412) at_410 rfl rfl
  replace R := R.iconst C (pc' := 413) at_412 (v := (3 : Int32)) rfl rfl
  replace R := R.iload C (pc' := 415) at_413 rfl rfl
  replace R := R.isub C (pc' := 416) at_415 rfl
  replace R := R.istore C (Ls' := #[.val (.int x0), .val (.int x1), .val (.int x2), .val (.int x3), .val (.int x4), .val (.int (Nat.toInt32 1)), .val (.int fs.toInt32), .val (.int ts.toInt32), .val (.int mv), .val (.int bv), .val (.ref D), .val (.ref PP), .val (.ref A), .val (.ref SH), .val (.ref AXS), .val (.int (own_cells 1 (own_dm 1 d0 0 0)).toInt32), .val (.int ((3 : Int32) - (Nat.toInt32 1))), .unset, .unset, .unset, .unset, .unset, .unset]) (pc' := 418) at_416 rfl rfl
  replace R := R.asL (Ls' := #[.val (.int x0), .val (.int x1), .val (.int x2), .val (.int x3), .val (.int x4), .val (.int (Nat.toInt32 1)), .val (.int fs.toInt32), .val (.int ts.toInt32), .val (.int mv), .val (.int bv), .val (.ref D), .val (.ref PP), .val (.ref A), .val (.ref SH), .val (.ref AXS), .val (.int (own_cells 1 (own_dm 1 d0 0 0)).toInt32), .val (.int (Nat.toInt32 2)), .unset, .unset, .unset, .unset, .unset, .unset]) rfl
  replace R := R.iconst C (pc' := 419) at_418 (v := (3 : Int32)) rfl rfl
  obtain ⟨h5, R', E5, AS_, X5⟩ := R.newA C (N := 3) (cap := 3) (ad := "[I") (C.w 1 rfl) rfl (by decide) (by decide) (by decide) at_419 (by decide) (by decide) (pc' := 421) rfl
  replace R := R'
  clear R'
  obtain ⟨S, g_S⟩ : ∃ z, z = h4.size := ⟨_, rfl⟩
  rw [← g_S] at R AS_ X5
  have ne_D_S : D ≠ S := by rw [g_S]; exact Nat.ne_of_lt AD.lt
  have ne_A_S : A ≠ S := by rw [g_S]; exact Nat.ne_of_lt AA.lt
  have ne_SH_S : SH ≠ S := by rw [g_S]; exact Nat.ne_of_lt AH.lt
  have ne_AXS_S : AXS ≠ S := by rw [g_S]; exact Nat.ne_of_lt AX_.lt
  have z_S : h0.size ≤ S := by rw [g_S]; exact K.1
  replace AD := AD.ext E5
  replace AA := AA.ext E5
  replace AH := AH.ext E5
  replace AX_ := AX_.ext E5
  replace K := K.ext E5
  replace AS_ : Ary Z h5 S .int 3 (Nf (fun _ => 0)) := AS_.of fun _ _ => rfl
  replace R := R.astore C (Ls' := #[.val (.int x0), .val (.int x1), .val (.int x2), .val (.int x3), .val (.int x4), .val (.int (Nat.toInt32 1)), .val (.int fs.toInt32), .val (.int ts.toInt32), .val (.int mv), .val (.int bv), .val (.ref D), .val (.ref PP), .val (.ref A), .val (.ref SH), .val (.ref AXS), .val (.int (own_cells 1 (own_dm 1 d0 0 0)).toInt32), .val (.int (Nat.toInt32 2)), .val (.ref S), .unset, .unset, .unset, .unset, .unset]) (pc' := 423) at_421 rfl rfl rfl
  replace R := R.iconst C (pc' := 424) at_423 (v := (3 : Int32)) rfl rfl
  obtain ⟨h6, R', E6, AAX, X6⟩ := R.newA C (N := 3) (cap := 3) (ad := "[I") (C.w 1 rfl) rfl (by decide) (by decide) (by decide) at_424 (by decide) (by decide) (pc' := 426) rfl
  replace R := R'
  clear R'
  obtain ⟨AX, g_AX⟩ : ∃ z, z = h5.size := ⟨_, rfl⟩
  rw [← g_AX] at R AAX X6
  have ne_D_AX : D ≠ AX := by rw [g_AX]; exact Nat.ne_of_lt AD.lt
  have ne_A_AX : A ≠ AX := by rw [g_AX]; exact Nat.ne_of_lt AA.lt
  have ne_SH_AX : SH ≠ AX := by rw [g_AX]; exact Nat.ne_of_lt AH.lt
  have ne_AXS_AX : AXS ≠ AX := by rw [g_AX]; exact Nat.ne_of_lt AX_.lt
  have ne_S_AX : S ≠ AX := by rw [g_AX]; exact Nat.ne_of_lt AS_.lt
  have z_AX : h0.size ≤ AX := by rw [g_AX]; exact K.1
  replace AD := AD.ext E6
  replace AA := AA.ext E6
  replace AH := AH.ext E6
  replace AX_ := AX_.ext E6
  replace AS_ := AS_.ext E6
  replace K := K.ext E6
  replace AAX : Ary Z h6 AX .int 3 (Nf (fun _ => 0)) := AAX.of fun _ _ => rfl
  replace R := R.astore C (Ls' := #[.val (.int x0), .val (.int x1), .val (.int x2), .val (.int x3), .val (.int x4), .val (.int (Nat.toInt32 1)), .val (.int fs.toInt32), .val (.int ts.toInt32), .val (.int mv), .val (.int bv), .val (.ref D), .val (.ref PP), .val (.ref A), .val (.ref SH), .val (.ref AXS), .val (.int (own_cells 1 (own_dm 1 d0 0 0)).toInt32), .val (.int (Nat.toInt32 2)), .val (.ref S), .val (.ref AX), .unset, .unset, .unset, .unset]) (pc' := 428) at_426 rfl rfl rfl
  replace R := R.aload C (pc' := 430) at_428 rfl rfl rfl
  replace R := R.iconst C (pc' := 431) at_430 (v := (0 : Int32)) rfl rfl
  replace R := R.iconst C (pc' := 432) at_431 (v := (0 : Int32)) rfl rfl
  replace R := R.iload C (pc' := 434) at_432 rfl rfl
  replace R := R.aload C (pc' := 436) at_434 rfl rfl rfl
  replace R := R.as (st' := [(.ref D), (.int (Nat.toInt32 2)), (.int (Nat.toInt32 0)), (.int (0 : Int32)), (.ref S)]) rfl
  obtain ⟨_, _, R', rfl, rfl⟩ := R.callS C (y := (⟨"com/example/lacuna_tensor/lacunatensor/DenseTensorPermuteCellsPinLaw", "padS", "(II[I)I"⟩ : MethodName)) (C.w 6 rfl) (C.w 7 rfl) (C.w 8 rfl) (C.w 9 rfl) (by decide) [(.int (Nat.toInt32 0)), (.int (Nat.toInt32 2)), (.ref D)] [(.int (0 : Int32)), (.ref S)] rfl (con_padS l Z a0 hw 0 2 (by decide) (by decide) D (own_tri d0 d1 d2) h6 n0 R.size AD) 2 (Nat.le_of_eq rfl) (by decide) (by decide) (by decide) (by decide) (lenOf pd_0 rfl) rfl (pc' := 439) at_436 rfl
  clear R
  replace R := R'.as (st' := [(.int (own_s 1 (own_dm 1 d0 0 0) 0).toInt32), (.int (0 : Int32)), (.ref S)]) rfl
  clear R'
  obtain ⟨h7, R', W7⟩ := R.iastore C AS_ (i := 0) rfl (by decide) (Nat.le_trans z0 z_S) (pc' := 440) at_439 rfl
  replace R := R'
  clear R'
  replace AD := AD.other W7 ne_D_S
  replace AA := AA.other W7 ne_A_S
  replace AH := AH.other W7 ne_SH_S
  replace AX_ := AX_.other W7 ne_AXS_S
  replace AS_ := AS_.set W7
  replace AAX := AAX.other W7 (Ne.symm ne_S_AX)
  replace K := K.wr W7 (Or.inr z_S)
  rw [upd_N] at AS_
  replace R := R.aload C (pc' := 442) at_440 rfl rfl rfl
  replace R := R.iconst C (pc' := 443) at_442 (v := (1 : Int32)) rfl rfl
  replace R := R.iconst C (pc' := 444) at_443 (v := (1 : Int32)) rfl rfl
  replace R := R.iload C (pc' := 446) at_444 rfl rfl
  replace R := R.aload C (pc' := 448) at_446 rfl rfl rfl
  replace R := R.as (st' := [(.ref D), (.int (Nat.toInt32 2)), (.int (Nat.toInt32 1)), (.int (1 : Int32)), (.ref S)]) rfl
  obtain ⟨_, _, R', rfl, rfl⟩ := R.callS C (y := (⟨"com/example/lacuna_tensor/lacunatensor/DenseTensorPermuteCellsPinLaw", "padS", "(II[I)I"⟩ : MethodName)) (C.w 6 rfl) (C.w 7 rfl) (C.w 8 rfl) (C.w 9 rfl) (by decide) [(.int (Nat.toInt32 1)), (.int (Nat.toInt32 2)), (.ref D)] [(.int (1 : Int32)), (.ref S)] rfl (con_padS l Z a0 hw 1 2 (by decide) (by decide) D (own_tri d0 d1 d2) h7 n0 R.size AD) 2 (Nat.le_of_eq rfl) (by decide) (by decide) (by decide) (by decide) (lenOf pd_0 rfl) rfl (pc' := 451) at_448 rfl
  clear R
  replace R := R'.as (st' := [(.int (own_s 1 (own_dm 1 d0 0 0) 1).toInt32), (.int (1 : Int32)), (.ref S)]) rfl
  clear R'
  obtain ⟨h8, R', W8⟩ := R.iastore C AS_ (i := 1) rfl (by decide) (Nat.le_trans z0 z_S) (pc' := 452) at_451 rfl
  replace R := R'
  clear R'
  replace AD := AD.other W8 ne_D_S
  replace AA := AA.other W8 ne_A_S
  replace AH := AH.other W8 ne_SH_S
  replace AX_ := AX_.other W8 ne_AXS_S
  replace AS_ := AS_.set W8
  replace AAX := AAX.other W8 (Ne.symm ne_S_AX)
  replace K := K.wr W8 (Or.inr z_S)
  rw [upd_N] at AS_
  replace R := R.aload C (pc' := 454) at_452 rfl rfl rfl
  replace R := R.iconst C (pc' := 455) at_454 (v := (2 : Int32)) rfl rfl
  replace R := R.iconst C (pc' := 456) at_455 (v := (2 : Int32)) rfl rfl
  replace R := R.iload C (pc' := 458) at_456 rfl rfl
  replace R := R.aload C (pc' := 460) at_458 rfl rfl rfl
  replace R := R.as (st' := [(.ref D), (.int (Nat.toInt32 2)), (.int (Nat.toInt32 2)), (.int (2 : Int32)), (.ref S)]) rfl
  obtain ⟨_, _, R', rfl, rfl⟩ := R.callS C (y := (⟨"com/example/lacuna_tensor/lacunatensor/DenseTensorPermuteCellsPinLaw", "padS", "(II[I)I"⟩ : MethodName)) (C.w 6 rfl) (C.w 7 rfl) (C.w 8 rfl) (C.w 9 rfl) (by decide) [(.int (Nat.toInt32 2)), (.int (Nat.toInt32 2)), (.ref D)] [(.int (2 : Int32)), (.ref S)] rfl (con_padS l Z a0 hw 2 2 (by decide) (by decide) D (own_tri d0 d1 d2) h8 n0 R.size AD) 2 (Nat.le_of_eq rfl) (by decide) (by decide) (by decide) (by decide) (lenOf pd_0 rfl) rfl (pc' := 463) at_460 rfl
  clear R
  replace R := R'.as (st' := [(.int (own_s 1 (own_dm 1 d0 0 0) 2).toInt32), (.int (2 : Int32)), (.ref S)]) rfl
  clear R'
  obtain ⟨h9, R', W9⟩ := R.iastore C AS_ (i := 2) rfl (by decide) (Nat.le_trans z0 z_S) (pc' := 464) at_463 rfl
  replace R := R'
  clear R'
  replace AD := AD.other W9 ne_D_S
  replace AA := AA.other W9 ne_A_S
  replace AH := AH.other W9 ne_SH_S
  replace AX_ := AX_.other W9 ne_AXS_S
  replace AS_ := AS_.set W9
  replace AAX := AAX.other W9 (Ne.symm ne_S_AX)
  replace K := K.wr W9 (Or.inr z_S)
  rw [upd_N] at AS_
  replace R := R.aload C (pc' := 466) at_464 rfl rfl rfl
  replace R := R.iconst C (pc' := 467) at_466 (v := (0 : Int32)) rfl rfl
  replace R := R.iconst C (pc' := 468) at_467 (v := (0 : Int32)) rfl rfl
  replace R := R.iload C (pc' := 470) at_468 rfl rfl
  replace R := R.aload C (pc' := 472) at_470 rfl rfl rfl
  replace R := R.as (st' := [(.ref A), (.int (Nat.toInt32 2)), (.int (Nat.toInt32 0)), (.int (0 : Int32)), (.ref AX)]) rfl
  obtain ⟨_, _, R', rfl, rfl⟩ := R.callS C (y := (⟨"com/example/lacuna_tensor/lacunatensor/DenseTensorPermuteCellsPinLaw", "padA", "(II[I)I"⟩ : MethodName)) (C.w 10 rfl) (C.w 11 rfl) (C.w 8 rfl) (C.w 12 rfl) (by decide) [(.int (Nat.toInt32 0)), (.int (Nat.toInt32 2)), (.ref A)] [(.int (0 : Int32)), (.ref AX)] rfl (con_padA l Z a0 hw 0 2 (by decide) (by decide) A (own_axf 1 0) h9 n0 R.size AA) 2 (Nat.le_of_eq rfl) (by decide) (by decide) (by decide) (by decide) (lenOf pd_0 rfl) rfl (pc' := 475) at_472 rfl
  clear R
  replace R := R'.as (st' := [(.int (own_a 1 (own_axf 1 0) 0).toInt32), (.int (0 : Int32)), (.ref AX)]) rfl
  clear R'
  obtain ⟨h10, R', W10⟩ := R.iastore C AAX (i := 0) rfl (by decide) (Nat.le_trans z0 z_AX) (pc' := 476) at_475 rfl
  replace R := R'
  clear R'
  replace AD := AD.other W10 ne_D_AX
  replace AA := AA.other W10 ne_A_AX
  replace AH := AH.other W10 ne_SH_AX
  replace AX_ := AX_.other W10 ne_AXS_AX
  replace AS_ := AS_.other W10 ne_S_AX
  replace AAX := AAX.set W10
  replace K := K.wr W10 (Or.inr z_AX)
  rw [upd_N] at AAX
  replace R := R.aload C (pc' := 478) at_476 rfl rfl rfl
  replace R := R.iconst C (pc' := 479) at_478 (v := (1 : Int32)) rfl rfl
  replace R := R.iconst C (pc' := 480) at_479 (v := (1 : Int32)) rfl rfl
  replace R := R.iload C (pc' := 482) at_480 rfl rfl
  replace R := R.aload C (pc' := 484) at_482 rfl rfl rfl
  replace R := R.as (st' := [(.ref A), (.int (Nat.toInt32 2)), (.int (Nat.toInt32 1)), (.int (1 : Int32)), (.ref AX)]) rfl
  obtain ⟨_, _, R', rfl, rfl⟩ := R.callS C (y := (⟨"com/example/lacuna_tensor/lacunatensor/DenseTensorPermuteCellsPinLaw", "padA", "(II[I)I"⟩ : MethodName)) (C.w 10 rfl) (C.w 11 rfl) (C.w 8 rfl) (C.w 12 rfl) (by decide) [(.int (Nat.toInt32 1)), (.int (Nat.toInt32 2)), (.ref A)] [(.int (1 : Int32)), (.ref AX)] rfl (con_padA l Z a0 hw 1 2 (by decide) (by decide) A (own_axf 1 0) h10 n0 R.size AA) 2 (Nat.le_of_eq rfl) (by decide) (by decide) (by decide) (by decide) (lenOf pd_0 rfl) rfl (pc' := 487) at_484 rfl
  clear R
  replace R := R'.as (st' := [(.int (own_a 1 (own_axf 1 0) 1).toInt32), (.int (1 : Int32)), (.ref AX)]) rfl
  clear R'
  obtain ⟨h11, R', W11⟩ := R.iastore C AAX (i := 1) rfl (by decide) (Nat.le_trans z0 z_AX) (pc' := 488) at_487 rfl
  replace R := R'
  clear R'
  replace AD := AD.other W11 ne_D_AX
  replace AA := AA.other W11 ne_A_AX
  replace AH := AH.other W11 ne_SH_AX
  replace AX_ := AX_.other W11 ne_AXS_AX
  replace AS_ := AS_.other W11 ne_S_AX
  replace AAX := AAX.set W11
  replace K := K.wr W11 (Or.inr z_AX)
  rw [upd_N] at AAX
  replace R := R.aload C (pc' := 490) at_488 rfl rfl rfl
  replace R := R.iconst C (pc' := 491) at_490 (v := (2 : Int32)) rfl rfl
  replace R := R.iconst C (pc' := 492) at_491 (v := (2 : Int32)) rfl rfl
  replace R := R.iload C (pc' := 494) at_492 rfl rfl
  replace R := R.aload C (pc' := 496) at_494 rfl rfl rfl
  replace R := R.as (st' := [(.ref A), (.int (Nat.toInt32 2)), (.int (Nat.toInt32 2)), (.int (2 : Int32)), (.ref AX)]) rfl
  obtain ⟨_, _, R', rfl, rfl⟩ := R.callS C (y := (⟨"com/example/lacuna_tensor/lacunatensor/DenseTensorPermuteCellsPinLaw", "padA", "(II[I)I"⟩ : MethodName)) (C.w 10 rfl) (C.w 11 rfl) (C.w 8 rfl) (C.w 12 rfl) (by decide) [(.int (Nat.toInt32 2)), (.int (Nat.toInt32 2)), (.ref A)] [(.int (2 : Int32)), (.ref AX)] rfl (con_padA l Z a0 hw 2 2 (by decide) (by decide) A (own_axf 1 0) h11 n0 R.size AA) 2 (Nat.le_of_eq rfl) (by decide) (by decide) (by decide) (by decide) (lenOf pd_0 rfl) rfl (pc' := 499) at_496 rfl
  clear R
  replace R := R'.as (st' := [(.int (own_a 1 (own_axf 1 0) 2).toInt32), (.int (2 : Int32)), (.ref AX)]) rfl
  clear R'
  obtain ⟨h12, R', W12⟩ := R.iastore C AAX (i := 2) rfl (by decide) (Nat.le_trans z0 z_AX) (pc' := 500) at_499 rfl
  replace R := R'
  clear R'
  replace AD := AD.other W12 ne_D_AX
  replace AA := AA.other W12 ne_A_AX
  replace AH := AH.other W12 ne_SH_AX
  replace AX_ := AX_.other W12 ne_AXS_AX
  replace AS_ := AS_.other W12 ne_S_AX
  replace AAX := AAX.set W12
  replace K := K.wr W12 (Or.inr z_AX)
  rw [upd_N] at AAX
  replace AS_ : Ary Z h12 S .int 3 (Nf (own_s 1 (own_dm 1 d0 0 0))) := AS_.of fun i hi => by
    match i, hi with
    | 0, _ => rfl
    | 1, _ => rfl
    | 2, _ => rfl
  replace AAX : Ary Z h12 AX .int 3 (Nf (own_a 1 (own_axf 1 0))) := AAX.of fun i hi => by
    match i, hi with
    | 0, _ => rfl
    | 1, _ => rfl
    | 2, _ => rfl
  replace R := R.iconst C (pc' := 501) at_500 (v := (3 : Int32)) rfl rfl
  obtain ⟨h13, R', E13, AZ, X13⟩ := R.newA C (N := 3) (cap := 3) (ad := "[I") (C.w 1 rfl) rfl (by decide) (by decide) (by decide) at_501 (by decide) (by decide) (pc' := 503) rfl
  replace R := R'
  clear R'
  obtain ⟨PZ, g_PZ⟩ : ∃ z, z = h12.size := ⟨_, rfl⟩
  rw [← g_PZ] at R AZ X13
  have ne_D_PZ : D ≠ PZ := by rw [g_PZ]; exact Nat.ne_of_lt AD.lt
  have ne_A_PZ : A ≠ PZ := by rw [g_PZ]; exact Nat.ne_of_lt AA.lt
  have ne_SH_PZ : SH ≠ PZ := by rw [g_PZ]; exact Nat.ne_of_lt AH.lt
  have ne_AXS_PZ : AXS ≠ PZ := by rw [g_PZ]; exact Nat.ne_of_lt AX_.lt
  have ne_S_PZ : S ≠ PZ := by rw [g_PZ]; exact Nat.ne_of_lt AS_.lt
  have ne_AX_PZ : AX ≠ PZ := by rw [g_PZ]; exact Nat.ne_of_lt AAX.lt
  have z_PZ : h0.size ≤ PZ := by rw [g_PZ]; exact K.1
  replace AD := AD.ext E13
  replace AA := AA.ext E13
  replace AH := AH.ext E13
  replace AX_ := AX_.ext E13
  replace AS_ := AS_.ext E13
  replace AAX := AAX.ext E13
  replace K := K.ext E13
  replace AZ : Ary Z h13 PZ .int 3 (Nf (fun _ => 0)) := AZ.of fun _ _ => rfl
  replace R := R.astore C (Ls' := #[.val (.int x0), .val (.int x1), .val (.int x2), .val (.int x3), .val (.int x4), .val (.int (Nat.toInt32 1)), .val (.int fs.toInt32), .val (.int ts.toInt32), .val (.int mv), .val (.int bv), .val (.ref D), .val (.ref PP), .val (.ref A), .val (.ref SH), .val (.ref AXS), .val (.int (own_cells 1 (own_dm 1 d0 0 0)).toInt32), .val (.int (Nat.toInt32 2)), .val (.ref S), .val (.ref AX), .val (.ref PZ), .unset, .unset, .unset]) (pc' := 505) at_503 rfl rfl rfl
  replace R := R.aload C (pc' := 507) at_505 rfl rfl rfl
  replace R := R.iconst C (pc' := 508) at_507 (v := (0 : Int32)) rfl rfl
  replace R := R.aload C (pc' := 510) at_508 rfl rfl rfl
  replace R := R.aload C (pc' := 512) at_510 rfl rfl rfl
  replace R := R.iconst C (pc' := 513) at_512 (v := (0 : Int32)) rfl rfl
  replace R := R.iaload C (v := (.int (own_a 1 (own_axf 1 0) 0).toInt32)) AAX (i := 0) rfl (by decide) rfl (pc' := 514) at_513 rfl
  replace R := R.iaload C (v := (.int (own_pz 1 (own_dm 1 d0 0 0) (own_axf 1 0) 0).toInt32)) AS_ (i := own_a 1 (own_axf 1 0) 0) (own_tn (by have := hax 0 (by decide); omega)) (hax 0 (by decide)) rfl (pc' := 515) at_514 rfl
  obtain ⟨h14, R', W14⟩ := R.iastore C AZ (i := 0) rfl (by decide) (Nat.le_trans z0 z_PZ) (pc' := 516) at_515 rfl
  replace R := R'
  clear R'
  replace AD := AD.other W14 ne_D_PZ
  replace AA := AA.other W14 ne_A_PZ
  replace AH := AH.other W14 ne_SH_PZ
  replace AX_ := AX_.other W14 ne_AXS_PZ
  replace AS_ := AS_.other W14 ne_S_PZ
  replace AAX := AAX.other W14 ne_AX_PZ
  replace AZ := AZ.set W14
  replace K := K.wr W14 (Or.inr z_PZ)
  rw [upd_N] at AZ
  replace R := R.aload C (pc' := 518) at_516 rfl rfl rfl
  replace R := R.iconst C (pc' := 519) at_518 (v := (1 : Int32)) rfl rfl
  replace R := R.aload C (pc' := 521) at_519 rfl rfl rfl
  replace R := R.aload C (pc' := 523) at_521 rfl rfl rfl
  replace R := R.iconst C (pc' := 524) at_523 (v := (1 : Int32)) rfl rfl
  replace R := R.iaload C (v := (.int (own_a 1 (own_axf 1 0) 1).toInt32)) AAX (i := 1) rfl (by decide) rfl (pc' := 525) at_524 rfl
  replace R := R.iaload C (v := (.int (own_pz 1 (own_dm 1 d0 0 0) (own_axf 1 0) 1).toInt32)) AS_ (i := own_a 1 (own_axf 1 0) 1) (own_tn (by have := hax 1 (by decide); omega)) (hax 1 (by decide)) rfl (pc' := 526) at_525 rfl
  obtain ⟨h15, R', W15⟩ := R.iastore C AZ (i := 1) rfl (by decide) (Nat.le_trans z0 z_PZ) (pc' := 527) at_526 rfl
  replace R := R'
  clear R'
  replace AD := AD.other W15 ne_D_PZ
  replace AA := AA.other W15 ne_A_PZ
  replace AH := AH.other W15 ne_SH_PZ
  replace AX_ := AX_.other W15 ne_AXS_PZ
  replace AS_ := AS_.other W15 ne_S_PZ
  replace AAX := AAX.other W15 ne_AX_PZ
  replace AZ := AZ.set W15
  replace K := K.wr W15 (Or.inr z_PZ)
  rw [upd_N] at AZ
  replace R := R.aload C (pc' := 529) at_527 rfl rfl rfl
  replace R := R.iconst C (pc' := 530) at_529 (v := (2 : Int32)) rfl rfl
  replace R := R.aload C (pc' := 532) at_530 rfl rfl rfl
  replace R := R.aload C (pc' := 534) at_532 rfl rfl rfl
  replace R := R.iconst C (pc' := 535) at_534 (v := (2 : Int32)) rfl rfl
  replace R := R.iaload C (v := (.int (own_a 1 (own_axf 1 0) 2).toInt32)) AAX (i := 2) rfl (by decide) rfl (pc' := 536) at_535 rfl
  replace R := R.iaload C (v := (.int (own_pz 1 (own_dm 1 d0 0 0) (own_axf 1 0) 2).toInt32)) AS_ (i := own_a 1 (own_axf 1 0) 2) (own_tn (by have := hax 2 (by decide); omega)) (hax 2 (by decide)) rfl (pc' := 537) at_536 rfl
  obtain ⟨h16, R', W16⟩ := R.iastore C AZ (i := 2) rfl (by decide) (Nat.le_trans z0 z_PZ) (pc' := 538) at_537 rfl
  replace R := R'
  clear R'
  replace AD := AD.other W16 ne_D_PZ
  replace AA := AA.other W16 ne_A_PZ
  replace AH := AH.other W16 ne_SH_PZ
  replace AX_ := AX_.other W16 ne_AXS_PZ
  replace AS_ := AS_.other W16 ne_S_PZ
  replace AAX := AAX.other W16 ne_AX_PZ
  replace AZ := AZ.set W16
  replace K := K.wr W16 (Or.inr z_PZ)
  rw [upd_N] at AZ
  replace AZ : Ary Z h16 PZ .int 3 (Nf (own_pz 1 (own_dm 1 d0 0 0) (own_axf 1 0))) := AZ.of fun i hi => by
    match i, hi with
    | 0, _ => rfl
    | 1, _ => rfl
    | 2, _ => rfl
  have hd : ∀ k, k < 1 → (own_dm 1 d0 0 0) k ≤ 9 := fun i hi => by
    match i, hi with
    | 0, _ => exact (show d0 ≤ 9 by omega)
  have hs : ∀ k, k < 3 → own_s 1 (own_dm 1 d0 0 0) k ≤ 9 := fun i hi => by
    match i, hi with
    | 0, _ => exact (show 1 ≤ 9 by omega)
    | 1, _ => exact (show 1 ≤ 9 by omega)
    | 2, _ => exact (show d0 ≤ 9 by omega)
  exact own_stE hw C x0 x1 x2 x3 x4 mv bv _ D PP A SH AXS S AX PZ 1 fs ts (by decide) hfs hts (own_dm 1 d0 0 0) (own_axf 1 0) hd ha hs hax (own_g1 d0 hd0) AH AX_ AS_ AAX AZ R
theorem own_ha2 : ∀ pi, pi < 6 → (∀ k, k < 2 → own_axf 2 pi k < 2) ∧ ∀ k, k < 3 → own_a 2 (own_axf 2 pi) k < 3 := by decide
set_option maxRecDepth 65536 in
set_option maxHeartbeats 40000000 in
theorem own_stD2 {p : Program} {l : Launch} {e : Env} {s : State} {m : MethodId} {args : Array Value} {below : List Frame} {meth : Method} {c : Code} {S0 : State} {n0 : Nat} {Z : State} {a0 : Array Value} {h0 : Heap} (hw : ∀ d ∈ tables_1, d.before a0 Z = true) (C : Ctx p s m meth c Z a0 tables_1 x.cls code maxLocals x.name ret) (x0 x1 x2 x3 x4 mv bv : Int32) (D PP A : Addr) (fs ts d0 d1 d2 pi : Nat) (hfs : fs < 4) (hts : ts < 4) (hd0 : d0 < 4) (hd1 : d1 < 4) (hd2 : d2 < 4) (hpi : pi < 6) (s13 : Slot) (hs13 : One s13) (AD : Ary Z h0 D .int 3 (Nf (own_tri d0 d1 d2))) (AA : Ary Z h0 A .int 3 (Nf (own_axf 2 pi))) (R : Rch p l e room_1 s m args below meth c S0 n0 9 30 h0 287 #[.val (.int x0), .val (.int x1), .val (.int x2), .val (.int x3), .val (.int x4), .val (.int (Nat.toInt32 2)), .val (.int fs.toInt32), .val (.int ts.toInt32), .val (.int mv), .val (.int bv), .val (.ref D), .val (.ref PP), .val (.ref A), s13, .unset, .unset, .unset, .unset, .unset, .unset, .unset, .unset, .unset] []) :
    OwnEnds p e below s S0 n0 (fun v h' => v = some (.int 1)) room_1.cells room_1.slots := by
  obtain ⟨ha, hax⟩ := own_ha2 pi hpi
  have z0 := R.size
  have K := Keep.refl h0 []
  replace R := R.iload C (pc' := 289) at_287 rfl rfl
  obtain ⟨h1, R', E1, AH, X1⟩ := R.newA C (N := 2) (cap := 3) (ad := "[J") (C.w 5 rfl) (own_tn (n := 2) (by decide)) (by decide) (by decide) (by decide) at_289 (by decide) (by decide) (pc' := 291) rfl
  replace R := R'
  clear R'
  obtain ⟨SH, g_SH⟩ : ∃ z, z = h0.size := ⟨_, rfl⟩
  rw [← g_SH] at R AH X1
  have ne_D_SH : D ≠ SH := by rw [g_SH]; exact Nat.ne_of_lt AD.lt
  have ne_A_SH : A ≠ SH := by rw [g_SH]; exact Nat.ne_of_lt AA.lt
  have z_SH : h0.size ≤ SH := by rw [g_SH]; exact K.1
  replace AD := AD.ext E1
  replace AA := AA.ext E1
  replace K := K.ext E1
  replace AH : Ary Z h1 SH .long 2 (Jf (fun _ => 0)) := AH.of fun _ _ => rfl
  replace R := R.astore C (Ls' := #[.val (.int x0), .val (.int x1), .val (.int x2), .val (.int x3), .val (.int x4), .val (.int (Nat.toInt32 2)), .val (.int fs.toInt32), .val (.int ts.toInt32), .val (.int mv), .val (.int bv), .val (.ref D), .val (.ref PP), .val (.ref A), .val (.ref SH), .unset, .unset, .unset, .unset, .unset, .unset, .unset, .unset, .unset]) (pc' := 293) at_291 rfl (XS.store1 rfl hs13 rfl) rfl
  replace R := R.iload C (pc' := 295) at_293 rfl rfl
  obtain ⟨h2, R', E2, AX_, X2⟩ := R.newA C (N := 2) (cap := 3) (ad := "[I") (C.w 1 rfl) (own_tn (n := 2) (by decide)) (by decide) (by decide) (by decide) at_295 (by decide) (by decide) (pc' := 297) rfl
  replace R := R'
  clear R'
  obtain ⟨AXS, g_AXS⟩ : ∃ z, z = h1.size := ⟨_, rfl⟩
  rw [← g_AXS] at R AX_ X2
  have ne_D_AXS : D ≠ AXS := by rw [g_AXS]; exact Nat.ne_of_lt AD.lt
  have ne_A_AXS : A ≠ AXS := by rw [g_AXS]; exact Nat.ne_of_lt AA.lt
  have ne_SH_AXS : SH ≠ AXS := by rw [g_AXS]; exact Nat.ne_of_lt AH.lt
  have z_AXS : h0.size ≤ AXS := by rw [g_AXS]; exact K.1
  replace AD := AD.ext E2
  replace AA := AA.ext E2
  replace AH := AH.ext E2
  replace K := K.ext E2
  replace AX_ : Ary Z h2 AXS .int 2 (Nf (fun _ => 0)) := AX_.of fun _ _ => rfl
  replace R := R.astore C (Ls' := #[.val (.int x0), .val (.int x1), .val (.int x2), .val (.int x3), .val (.int x4), .val (.int (Nat.toInt32 2)), .val (.int fs.toInt32), .val (.int ts.toInt32), .val (.int mv), .val (.int bv), .val (.ref D), .val (.ref PP), .val (.ref A), .val (.ref SH), .val (.ref AXS), .unset, .unset, .unset, .unset, .unset, .unset, .unset, .unset]) (pc' := 299) at_297 rfl rfl rfl
  replace R := R.iload C (pc' := 301) at_299 rfl rfl
  replace R := R.ifN C (pc' := 304) at_301 rfl rfl
  replace R := R.aload C (pc' := 306) at_304 rfl rfl rfl
  replace R := R.iconst C (pc' := 307) at_306 (v := (0 : Int32)) rfl rfl
  replace R := R.aload C (pc' := 309) at_307 rfl rfl rfl
  replace R := R.iconst C (pc' := 310) at_309 (v := (0 : Int32)) rfl rfl
  replace R := R.iaload C (v := (.int d0.toInt32)) AD (i := 0) rfl (by decide) rfl (pc' := 311) at_310 rfl
  replace R := R.i2l C (pc' := 312) at_311 rfl
  obtain ⟨h3, R', W3⟩ := R.lastore C AH (i := 0) rfl (by decide) (Nat.le_trans z0 z_SH) (pc' := 313) at_312 rfl
  replace R := R'
  clear R'
  replace AD := AD.other W3 ne_D_SH
  replace AA := AA.other W3 ne_A_SH
  replace AH := AH.set W3
  replace AX_ := AX_.other W3 (Ne.symm ne_SH_AXS)
  replace K := K.wr W3 (Or.inr z_SH)
  replace R := R.aload C (pc' := 315) at_313 rfl rfl rfl
  replace R := R.iconst C (pc' := 316) at_315 (v := (0 : Int32)) rfl rfl
  replace R := R.aload C (pc' := 318) at_316 rfl rfl rfl
  replace R := R.iconst C (pc' := 319) at_318 (v := (0 : Int32)) rfl rfl
  replace R := R.iaload C (v := (.int ((own_axf 2 pi) 0).toInt32)) AA (i := 0) rfl (by decide) rfl (pc' := 320) at_319 rfl
  obtain ⟨h4, R', W4⟩ := R.iastore C AX_ (i := 0) rfl (by decide) (Nat.le_trans z0 z_AXS) (pc' := 321) at_320 rfl
  replace R := R'
  clear R'
  replace AD := AD.other W4 ne_D_AXS
  replace AA := AA.other W4 ne_A_AXS
  replace AH := AH.other W4 ne_SH_AXS
  replace AX_ := AX_.set W4
  replace K := K.wr W4 (Or.inr z_AXS)
  rw [upd_N] at AX_
  replace R := R.iload C (pc' := 323) at_321 rfl rfl
  replace R := R.iconst C (pc' := 324) at_323 (v := (1 : Int32)) rfl rfl
  replace R := R.icmpN C (pc' := 327) at_324 rfl rfl
  replace R := R.aload C (pc' := 329) at_327 rfl rfl rfl
  replace R := R.iconst C (pc' := 330) at_329 (v := (1 : Int32)) rfl rfl
  replace R := R.aload C (pc' := 332) at_330 rfl rfl rfl
  replace R := R.iconst C (pc' := 333) at_332 (v := (1 : Int32)) rfl rfl
  replace R := R.iaload C (v := (.int d1.toInt32)) AD (i := 1) rfl (by decide) rfl (pc' := 334) at_333 rfl
  replace R := R.i2l C (pc' := 335) at_334 rfl
  obtain ⟨h5, R', W5⟩ := R.lastore C AH (i := 1) rfl (by decide) (Nat.le_trans z0 z_SH) (pc' := 336) at_335 rfl
  replace R := R'
  clear R'
  replace AD := AD.other W5 ne_D_SH
  replace AA := AA.other W5 ne_A_SH
  replace AH := AH.set W5
  replace AX_ := AX_.other W5 (Ne.symm ne_SH_AXS)
  replace K := K.wr W5 (Or.inr z_SH)
  replace R := R.aload C (pc' := 338) at_336 rfl rfl rfl
  replace R := R.iconst C (pc' := 339) at_338 (v := (1 : Int32)) rfl rfl
  replace R := R.aload C (pc' := 341) at_339 rfl rfl rfl
  replace R := R.iconst C (pc' := 342) at_341 (v := (1 : Int32)) rfl rfl
  replace R := R.iaload C (v := (.int ((own_axf 2 pi) 1).toInt32)) AA (i := 1) rfl (by decide) rfl (pc' := 343) at_342 rfl
  obtain ⟨h6, R', W6⟩ := R.iastore C AX_ (i := 1) rfl (by decide) (Nat.le_trans z0 z_AXS) (pc' := 344) at_343 rfl
  replace R := R'
  clear R'
  replace AD := AD.other W6 ne_D_AXS
  replace AA := AA.other W6 ne_A_AXS
  replace AH := AH.other W6 ne_SH_AXS
  replace AX_ := AX_.set W6
  replace K := K.wr W6 (Or.inr z_AXS)
  rw [upd_N] at AX_
  replace R := R.iload C (pc' := 346) at_344 rfl rfl
  replace R := R.iconst C (pc' := 347) at_346 (v := (2 : Int32)) rfl rfl
  replace R := R.icmpY C (pc' := 367) at_347 rfl rfl
  replace AH : Ary Z h6 SH .long 2 (Jf (own_dm 2 d0 d1 0)) := AH.of fun i hi => by
    match i, hi with
    | 0, _ => rfl
    | 1, _ => rfl
  replace AX_ : Ary Z h6 AXS .int 2 (Nf (own_axf 2 pi)) := AX_.of fun i hi => by
    match i, hi with
    | 0, _ => rfl
    | 1, _ => rfl
  replace R := R.iload C (pc' := 369) at_367 rfl rfl
  replace R := R.ifN C (pc' := 372) at_369 rfl rfl
  replace R := R.aload C (pc' := 374) at_372 rfl rfl rfl
  replace R := R.iconst C (pc' := 375) at_374 (v := (0 : Int32)) rfl rfl
  replace R := R.iaload C (v := (.int d0.toInt32)) AD (i := 0) rfl (by decide) rfl (pc' := 376) at_375 rfl
  replace R := R.goto C (pc' := 380) at_376 rfl
  replace R := R.iload C (pc' := 382) at_380 rfl rfl
  replace R := R.iconst C (pc' := 383) at_382 (v := (1 : Int32)) rfl rfl
  replace R := R.icmpN C (pc' := 386) at_383 rfl rfl
  replace R := R.aload C (pc' := 388) at_386 rfl rfl rfl
  replace R := R.iconst C (pc' := 389) at_388 (v := (1 : Int32)) rfl rfl
  replace R := R.iaload C (v := (.int d1.toInt32)) AD (i := 1) rfl (by decide) rfl (pc' := 390) at_389 rfl
  replace R := R.goto C (pc' := 394) at_390 rfl
  replace R := R.imul C (pc' := 395) at_394 rfl
  replace R := R.iload C (pc' := 397) at_395 rfl rfl
  replace R := R.iconst C (pc' := 398) at_397 (v := (2 : Int32)) rfl rfl
  replace R := R.icmpY C (pc' := 408) at_398 rfl rfl
  replace R := R.iconst C (pc' := 409) at_408 (v := (1 : Int32)) rfl rfl
  replace R := R.imul C (pc' := 410) at_409 rfl
  rw [own_ce2] at R
  replace R := R.istore C (Ls' := #[.val (.int x0), .val (.int x1), .val (.int x2), .val (.int x3), .val (.int x4), .val (.int (Nat.toInt32 2)), .val (.int fs.toInt32), .val (.int ts.toInt32), .val (.int mv), .val (.int bv), .val (.ref D), .val (.ref PP), .val (.ref A), .val (.ref SH), .val (.ref AXS), .val (.int (own_cells 2 (own_dm 2 d0 d1 0)).toInt32), .unset, .unset, .unset, .unset, .unset, .unset, .unset]) (pc' := 412) at_410 rfl rfl
  replace R := R.iconst C (pc' := 413) at_412 (v := (3 : Int32)) rfl rfl
  replace R := R.iload C (pc' := 415) at_413 rfl rfl
  replace R := R.isub C (pc' := 416) at_415 rfl
  replace R := R.istore C (Ls' := #[.val (.int x0), .val (.int x1), .val (.int x2), .val (.int x3), .val (.int x4), .val (.int (Nat.toInt32 2)), .val (.int fs.toInt32), .val (.int ts.toInt32), .val (.int mv), .val (.int bv), .val (.ref D), .val (.ref PP), .val (.ref A), .val (.ref SH), .val (.ref AXS), .val (.int (own_cells 2 (own_dm 2 d0 d1 0)).toInt32), .val (.int ((3 : Int32) - (Nat.toInt32 2))), .unset, .unset, .unset, .unset, .unset, .unset]) (pc' := 418) at_416 rfl rfl
  replace R := R.asL (Ls' := #[.val (.int x0), .val (.int x1), .val (.int x2), .val (.int x3), .val (.int x4), .val (.int (Nat.toInt32 2)), .val (.int fs.toInt32), .val (.int ts.toInt32), .val (.int mv), .val (.int bv), .val (.ref D), .val (.ref PP), .val (.ref A), .val (.ref SH), .val (.ref AXS), .val (.int (own_cells 2 (own_dm 2 d0 d1 0)).toInt32), .val (.int (Nat.toInt32 1)), .unset, .unset, .unset, .unset, .unset, .unset]) rfl
  replace R := R.iconst C (pc' := 419) at_418 (v := (3 : Int32)) rfl rfl
  obtain ⟨h7, R', E7, AS_, X7⟩ := R.newA C (N := 3) (cap := 3) (ad := "[I") (C.w 1 rfl) rfl (by decide) (by decide) (by decide) at_419 (by decide) (by decide) (pc' := 421) rfl
  replace R := R'
  clear R'
  obtain ⟨S, g_S⟩ : ∃ z, z = h6.size := ⟨_, rfl⟩
  rw [← g_S] at R AS_ X7
  have ne_D_S : D ≠ S := by rw [g_S]; exact Nat.ne_of_lt AD.lt
  have ne_A_S : A ≠ S := by rw [g_S]; exact Nat.ne_of_lt AA.lt
  have ne_SH_S : SH ≠ S := by rw [g_S]; exact Nat.ne_of_lt AH.lt
  have ne_AXS_S : AXS ≠ S := by rw [g_S]; exact Nat.ne_of_lt AX_.lt
  have z_S : h0.size ≤ S := by rw [g_S]; exact K.1
  replace AD := AD.ext E7
  replace AA := AA.ext E7
  replace AH := AH.ext E7
  replace AX_ := AX_.ext E7
  replace K := K.ext E7
  replace AS_ : Ary Z h7 S .int 3 (Nf (fun _ => 0)) := AS_.of fun _ _ => rfl
  replace R := R.astore C (Ls' := #[.val (.int x0), .val (.int x1), .val (.int x2), .val (.int x3), .val (.int x4), .val (.int (Nat.toInt32 2)), .val (.int fs.toInt32), .val (.int ts.toInt32), .val (.int mv), .val (.int bv), .val (.ref D), .val (.ref PP), .val (.ref A), .val (.ref SH), .val (.ref AXS), .val (.int (own_cells 2 (own_dm 2 d0 d1 0)).toInt32), .val (.int (Nat.toInt32 1)), .val (.ref S), .unset, .unset, .unset, .unset, .unset]) (pc' := 423) at_421 rfl rfl rfl
  replace R := R.iconst C (pc' := 424) at_423 (v := (3 : Int32)) rfl rfl
  obtain ⟨h8, R', E8, AAX, X8⟩ := R.newA C (N := 3) (cap := 3) (ad := "[I") (C.w 1 rfl) rfl (by decide) (by decide) (by decide) at_424 (by decide) (by decide) (pc' := 426) rfl
  replace R := R'
  clear R'
  obtain ⟨AX, g_AX⟩ : ∃ z, z = h7.size := ⟨_, rfl⟩
  rw [← g_AX] at R AAX X8
  have ne_D_AX : D ≠ AX := by rw [g_AX]; exact Nat.ne_of_lt AD.lt
  have ne_A_AX : A ≠ AX := by rw [g_AX]; exact Nat.ne_of_lt AA.lt
  have ne_SH_AX : SH ≠ AX := by rw [g_AX]; exact Nat.ne_of_lt AH.lt
  have ne_AXS_AX : AXS ≠ AX := by rw [g_AX]; exact Nat.ne_of_lt AX_.lt
  have ne_S_AX : S ≠ AX := by rw [g_AX]; exact Nat.ne_of_lt AS_.lt
  have z_AX : h0.size ≤ AX := by rw [g_AX]; exact K.1
  replace AD := AD.ext E8
  replace AA := AA.ext E8
  replace AH := AH.ext E8
  replace AX_ := AX_.ext E8
  replace AS_ := AS_.ext E8
  replace K := K.ext E8
  replace AAX : Ary Z h8 AX .int 3 (Nf (fun _ => 0)) := AAX.of fun _ _ => rfl
  replace R := R.astore C (Ls' := #[.val (.int x0), .val (.int x1), .val (.int x2), .val (.int x3), .val (.int x4), .val (.int (Nat.toInt32 2)), .val (.int fs.toInt32), .val (.int ts.toInt32), .val (.int mv), .val (.int bv), .val (.ref D), .val (.ref PP), .val (.ref A), .val (.ref SH), .val (.ref AXS), .val (.int (own_cells 2 (own_dm 2 d0 d1 0)).toInt32), .val (.int (Nat.toInt32 1)), .val (.ref S), .val (.ref AX), .unset, .unset, .unset, .unset]) (pc' := 428) at_426 rfl rfl rfl
  replace R := R.aload C (pc' := 430) at_428 rfl rfl rfl
  replace R := R.iconst C (pc' := 431) at_430 (v := (0 : Int32)) rfl rfl
  replace R := R.iconst C (pc' := 432) at_431 (v := (0 : Int32)) rfl rfl
  replace R := R.iload C (pc' := 434) at_432 rfl rfl
  replace R := R.aload C (pc' := 436) at_434 rfl rfl rfl
  replace R := R.as (st' := [(.ref D), (.int (Nat.toInt32 1)), (.int (Nat.toInt32 0)), (.int (0 : Int32)), (.ref S)]) rfl
  obtain ⟨_, _, R', rfl, rfl⟩ := R.callS C (y := (⟨"com/example/lacuna_tensor/lacunatensor/DenseTensorPermuteCellsPinLaw", "padS", "(II[I)I"⟩ : MethodName)) (C.w 6 rfl) (C.w 7 rfl) (C.w 8 rfl) (C.w 9 rfl) (by decide) [(.int (Nat.toInt32 0)), (.int (Nat.toInt32 1)), (.ref D)] [(.int (0 : Int32)), (.ref S)] rfl (con_padS l Z a0 hw 0 1 (by decide) (by decide) D (own_tri d0 d1 d2) h8 n0 R.size AD) 2 (Nat.le_of_eq rfl) (by decide) (by decide) (by decide) (by decide) (lenOf pd_0 rfl) rfl (pc' := 439) at_436 rfl
  clear R
  replace R := R'.as (st' := [(.int (own_s 2 (own_dm 2 d0 d1 0) 0).toInt32), (.int (0 : Int32)), (.ref S)]) rfl
  clear R'
  obtain ⟨h9, R', W9⟩ := R.iastore C AS_ (i := 0) rfl (by decide) (Nat.le_trans z0 z_S) (pc' := 440) at_439 rfl
  replace R := R'
  clear R'
  replace AD := AD.other W9 ne_D_S
  replace AA := AA.other W9 ne_A_S
  replace AH := AH.other W9 ne_SH_S
  replace AX_ := AX_.other W9 ne_AXS_S
  replace AS_ := AS_.set W9
  replace AAX := AAX.other W9 (Ne.symm ne_S_AX)
  replace K := K.wr W9 (Or.inr z_S)
  rw [upd_N] at AS_
  replace R := R.aload C (pc' := 442) at_440 rfl rfl rfl
  replace R := R.iconst C (pc' := 443) at_442 (v := (1 : Int32)) rfl rfl
  replace R := R.iconst C (pc' := 444) at_443 (v := (1 : Int32)) rfl rfl
  replace R := R.iload C (pc' := 446) at_444 rfl rfl
  replace R := R.aload C (pc' := 448) at_446 rfl rfl rfl
  replace R := R.as (st' := [(.ref D), (.int (Nat.toInt32 1)), (.int (Nat.toInt32 1)), (.int (1 : Int32)), (.ref S)]) rfl
  obtain ⟨_, _, R', rfl, rfl⟩ := R.callS C (y := (⟨"com/example/lacuna_tensor/lacunatensor/DenseTensorPermuteCellsPinLaw", "padS", "(II[I)I"⟩ : MethodName)) (C.w 6 rfl) (C.w 7 rfl) (C.w 8 rfl) (C.w 9 rfl) (by decide) [(.int (Nat.toInt32 1)), (.int (Nat.toInt32 1)), (.ref D)] [(.int (1 : Int32)), (.ref S)] rfl (con_padS l Z a0 hw 1 1 (by decide) (by decide) D (own_tri d0 d1 d2) h9 n0 R.size AD) 2 (Nat.le_of_eq rfl) (by decide) (by decide) (by decide) (by decide) (lenOf pd_0 rfl) rfl (pc' := 451) at_448 rfl
  clear R
  replace R := R'.as (st' := [(.int (own_s 2 (own_dm 2 d0 d1 0) 1).toInt32), (.int (1 : Int32)), (.ref S)]) rfl
  clear R'
  obtain ⟨h10, R', W10⟩ := R.iastore C AS_ (i := 1) rfl (by decide) (Nat.le_trans z0 z_S) (pc' := 452) at_451 rfl
  replace R := R'
  clear R'
  replace AD := AD.other W10 ne_D_S
  replace AA := AA.other W10 ne_A_S
  replace AH := AH.other W10 ne_SH_S
  replace AX_ := AX_.other W10 ne_AXS_S
  replace AS_ := AS_.set W10
  replace AAX := AAX.other W10 (Ne.symm ne_S_AX)
  replace K := K.wr W10 (Or.inr z_S)
  rw [upd_N] at AS_
  replace R := R.aload C (pc' := 454) at_452 rfl rfl rfl
  replace R := R.iconst C (pc' := 455) at_454 (v := (2 : Int32)) rfl rfl
  replace R := R.iconst C (pc' := 456) at_455 (v := (2 : Int32)) rfl rfl
  replace R := R.iload C (pc' := 458) at_456 rfl rfl
  replace R := R.aload C (pc' := 460) at_458 rfl rfl rfl
  replace R := R.as (st' := [(.ref D), (.int (Nat.toInt32 1)), (.int (Nat.toInt32 2)), (.int (2 : Int32)), (.ref S)]) rfl
  obtain ⟨_, _, R', rfl, rfl⟩ := R.callS C (y := (⟨"com/example/lacuna_tensor/lacunatensor/DenseTensorPermuteCellsPinLaw", "padS", "(II[I)I"⟩ : MethodName)) (C.w 6 rfl) (C.w 7 rfl) (C.w 8 rfl) (C.w 9 rfl) (by decide) [(.int (Nat.toInt32 2)), (.int (Nat.toInt32 1)), (.ref D)] [(.int (2 : Int32)), (.ref S)] rfl (con_padS l Z a0 hw 2 1 (by decide) (by decide) D (own_tri d0 d1 d2) h10 n0 R.size AD) 2 (Nat.le_of_eq rfl) (by decide) (by decide) (by decide) (by decide) (lenOf pd_0 rfl) rfl (pc' := 463) at_460 rfl
  clear R
  replace R := R'.as (st' := [(.int (own_s 2 (own_dm 2 d0 d1 0) 2).toInt32), (.int (2 : Int32)), (.ref S)]) rfl
  clear R'
  obtain ⟨h11, R', W11⟩ := R.iastore C AS_ (i := 2) rfl (by decide) (Nat.le_trans z0 z_S) (pc' := 464) at_463 rfl
  replace R := R'
  clear R'
  replace AD := AD.other W11 ne_D_S
  replace AA := AA.other W11 ne_A_S
  replace AH := AH.other W11 ne_SH_S
  replace AX_ := AX_.other W11 ne_AXS_S
  replace AS_ := AS_.set W11
  replace AAX := AAX.other W11 (Ne.symm ne_S_AX)
  replace K := K.wr W11 (Or.inr z_S)
  rw [upd_N] at AS_
  replace R := R.aload C (pc' := 466) at_464 rfl rfl rfl
  replace R := R.iconst C (pc' := 467) at_466 (v := (0 : Int32)) rfl rfl
  replace R := R.iconst C (pc' := 468) at_467 (v := (0 : Int32)) rfl rfl
  replace R := R.iload C (pc' := 470) at_468 rfl rfl
  replace R := R.aload C (pc' := 472) at_470 rfl rfl rfl
  replace R := R.as (st' := [(.ref A), (.int (Nat.toInt32 1)), (.int (Nat.toInt32 0)), (.int (0 : Int32)), (.ref AX)]) rfl
  obtain ⟨_, _, R', rfl, rfl⟩ := R.callS C (y := (⟨"com/example/lacuna_tensor/lacunatensor/DenseTensorPermuteCellsPinLaw", "padA", "(II[I)I"⟩ : MethodName)) (C.w 10 rfl) (C.w 11 rfl) (C.w 8 rfl) (C.w 12 rfl) (by decide) [(.int (Nat.toInt32 0)), (.int (Nat.toInt32 1)), (.ref A)] [(.int (0 : Int32)), (.ref AX)] rfl (con_padA l Z a0 hw 0 1 (by decide) (by decide) A (own_axf 2 pi) h11 n0 R.size AA) 2 (Nat.le_of_eq rfl) (by decide) (by decide) (by decide) (by decide) (lenOf pd_0 rfl) rfl (pc' := 475) at_472 rfl
  clear R
  replace R := R'.as (st' := [(.int (own_a 2 (own_axf 2 pi) 0).toInt32), (.int (0 : Int32)), (.ref AX)]) rfl
  clear R'
  obtain ⟨h12, R', W12⟩ := R.iastore C AAX (i := 0) rfl (by decide) (Nat.le_trans z0 z_AX) (pc' := 476) at_475 rfl
  replace R := R'
  clear R'
  replace AD := AD.other W12 ne_D_AX
  replace AA := AA.other W12 ne_A_AX
  replace AH := AH.other W12 ne_SH_AX
  replace AX_ := AX_.other W12 ne_AXS_AX
  replace AS_ := AS_.other W12 ne_S_AX
  replace AAX := AAX.set W12
  replace K := K.wr W12 (Or.inr z_AX)
  rw [upd_N] at AAX
  replace R := R.aload C (pc' := 478) at_476 rfl rfl rfl
  replace R := R.iconst C (pc' := 479) at_478 (v := (1 : Int32)) rfl rfl
  replace R := R.iconst C (pc' := 480) at_479 (v := (1 : Int32)) rfl rfl
  replace R := R.iload C (pc' := 482) at_480 rfl rfl
  replace R := R.aload C (pc' := 484) at_482 rfl rfl rfl
  replace R := R.as (st' := [(.ref A), (.int (Nat.toInt32 1)), (.int (Nat.toInt32 1)), (.int (1 : Int32)), (.ref AX)]) rfl
  obtain ⟨_, _, R', rfl, rfl⟩ := R.callS C (y := (⟨"com/example/lacuna_tensor/lacunatensor/DenseTensorPermuteCellsPinLaw", "padA", "(II[I)I"⟩ : MethodName)) (C.w 10 rfl) (C.w 11 rfl) (C.w 8 rfl) (C.w 12 rfl) (by decide) [(.int (Nat.toInt32 1)), (.int (Nat.toInt32 1)), (.ref A)] [(.int (1 : Int32)), (.ref AX)] rfl (con_padA l Z a0 hw 1 1 (by decide) (by decide) A (own_axf 2 pi) h12 n0 R.size AA) 2 (Nat.le_of_eq rfl) (by decide) (by decide) (by decide) (by decide) (lenOf pd_0 rfl) rfl (pc' := 487) at_484 rfl
  clear R
  replace R := R'.as (st' := [(.int (own_a 2 (own_axf 2 pi) 1).toInt32), (.int (1 : Int32)), (.ref AX)]) rfl
  clear R'
  obtain ⟨h13, R', W13⟩ := R.iastore C AAX (i := 1) rfl (by decide) (Nat.le_trans z0 z_AX) (pc' := 488) at_487 rfl
  replace R := R'
  clear R'
  replace AD := AD.other W13 ne_D_AX
  replace AA := AA.other W13 ne_A_AX
  replace AH := AH.other W13 ne_SH_AX
  replace AX_ := AX_.other W13 ne_AXS_AX
  replace AS_ := AS_.other W13 ne_S_AX
  replace AAX := AAX.set W13
  replace K := K.wr W13 (Or.inr z_AX)
  rw [upd_N] at AAX
  replace R := R.aload C (pc' := 490) at_488 rfl rfl rfl
  replace R := R.iconst C (pc' := 491) at_490 (v := (2 : Int32)) rfl rfl
  replace R := R.iconst C (pc' := 492) at_491 (v := (2 : Int32)) rfl rfl
  replace R := R.iload C (pc' := 494) at_492 rfl rfl
  replace R := R.aload C (pc' := 496) at_494 rfl rfl rfl
  replace R := R.as (st' := [(.ref A), (.int (Nat.toInt32 1)), (.int (Nat.toInt32 2)), (.int (2 : Int32)), (.ref AX)]) rfl
  obtain ⟨_, _, R', rfl, rfl⟩ := R.callS C (y := (⟨"com/example/lacuna_tensor/lacunatensor/DenseTensorPermuteCellsPinLaw", "padA", "(II[I)I"⟩ : MethodName)) (C.w 10 rfl) (C.w 11 rfl) (C.w 8 rfl) (C.w 12 rfl) (by decide) [(.int (Nat.toInt32 2)), (.int (Nat.toInt32 1)), (.ref A)] [(.int (2 : Int32)), (.ref AX)] rfl (con_padA l Z a0 hw 2 1 (by decide) (by decide) A (own_axf 2 pi) h13 n0 R.size AA) 2 (Nat.le_of_eq rfl) (by decide) (by decide) (by decide) (by decide) (lenOf pd_0 rfl) rfl (pc' := 499) at_496 rfl
  clear R
  replace R := R'.as (st' := [(.int (own_a 2 (own_axf 2 pi) 2).toInt32), (.int (2 : Int32)), (.ref AX)]) rfl
  clear R'
  obtain ⟨h14, R', W14⟩ := R.iastore C AAX (i := 2) rfl (by decide) (Nat.le_trans z0 z_AX) (pc' := 500) at_499 rfl
  replace R := R'
  clear R'
  replace AD := AD.other W14 ne_D_AX
  replace AA := AA.other W14 ne_A_AX
  replace AH := AH.other W14 ne_SH_AX
  replace AX_ := AX_.other W14 ne_AXS_AX
  replace AS_ := AS_.other W14 ne_S_AX
  replace AAX := AAX.set W14
  replace K := K.wr W14 (Or.inr z_AX)
  rw [upd_N] at AAX
  replace AS_ : Ary Z h14 S .int 3 (Nf (own_s 2 (own_dm 2 d0 d1 0))) := AS_.of fun i hi => by
    match i, hi with
    | 0, _ => rfl
    | 1, _ => rfl
    | 2, _ => rfl
  replace AAX : Ary Z h14 AX .int 3 (Nf (own_a 2 (own_axf 2 pi))) := AAX.of fun i hi => by
    match i, hi with
    | 0, _ => rfl
    | 1, _ => rfl
    | 2, _ => rfl
  replace R := R.iconst C (pc' := 501) at_500 (v := (3 : Int32)) rfl rfl
  obtain ⟨h15, R', E15, AZ, X15⟩ := R.newA C (N := 3) (cap := 3) (ad := "[I") (C.w 1 rfl) rfl (by decide) (by decide) (by decide) at_501 (by decide) (by decide) (pc' := 503) rfl
  replace R := R'
  clear R'
  obtain ⟨PZ, g_PZ⟩ : ∃ z, z = h14.size := ⟨_, rfl⟩
  rw [← g_PZ] at R AZ X15
  have ne_D_PZ : D ≠ PZ := by rw [g_PZ]; exact Nat.ne_of_lt AD.lt
  have ne_A_PZ : A ≠ PZ := by rw [g_PZ]; exact Nat.ne_of_lt AA.lt
  have ne_SH_PZ : SH ≠ PZ := by rw [g_PZ]; exact Nat.ne_of_lt AH.lt
  have ne_AXS_PZ : AXS ≠ PZ := by rw [g_PZ]; exact Nat.ne_of_lt AX_.lt
  have ne_S_PZ : S ≠ PZ := by rw [g_PZ]; exact Nat.ne_of_lt AS_.lt
  have ne_AX_PZ : AX ≠ PZ := by rw [g_PZ]; exact Nat.ne_of_lt AAX.lt
  have z_PZ : h0.size ≤ PZ := by rw [g_PZ]; exact K.1
  replace AD := AD.ext E15
  replace AA := AA.ext E15
  replace AH := AH.ext E15
  replace AX_ := AX_.ext E15
  replace AS_ := AS_.ext E15
  replace AAX := AAX.ext E15
  replace K := K.ext E15
  replace AZ : Ary Z h15 PZ .int 3 (Nf (fun _ => 0)) := AZ.of fun _ _ => rfl
  replace R := R.astore C (Ls' := #[.val (.int x0), .val (.int x1), .val (.int x2), .val (.int x3), .val (.int x4), .val (.int (Nat.toInt32 2)), .val (.int fs.toInt32), .val (.int ts.toInt32), .val (.int mv), .val (.int bv), .val (.ref D), .val (.ref PP), .val (.ref A), .val (.ref SH), .val (.ref AXS), .val (.int (own_cells 2 (own_dm 2 d0 d1 0)).toInt32), .val (.int (Nat.toInt32 1)), .val (.ref S), .val (.ref AX), .val (.ref PZ), .unset, .unset, .unset]) (pc' := 505) at_503 rfl rfl rfl
  replace R := R.aload C (pc' := 507) at_505 rfl rfl rfl
  replace R := R.iconst C (pc' := 508) at_507 (v := (0 : Int32)) rfl rfl
  replace R := R.aload C (pc' := 510) at_508 rfl rfl rfl
  replace R := R.aload C (pc' := 512) at_510 rfl rfl rfl
  replace R := R.iconst C (pc' := 513) at_512 (v := (0 : Int32)) rfl rfl
  replace R := R.iaload C (v := (.int (own_a 2 (own_axf 2 pi) 0).toInt32)) AAX (i := 0) rfl (by decide) rfl (pc' := 514) at_513 rfl
  replace R := R.iaload C (v := (.int (own_pz 2 (own_dm 2 d0 d1 0) (own_axf 2 pi) 0).toInt32)) AS_ (i := own_a 2 (own_axf 2 pi) 0) (own_tn (by have := hax 0 (by decide); omega)) (hax 0 (by decide)) rfl (pc' := 515) at_514 rfl
  obtain ⟨h16, R', W16⟩ := R.iastore C AZ (i := 0) rfl (by decide) (Nat.le_trans z0 z_PZ) (pc' := 516) at_515 rfl
  replace R := R'
  clear R'
  replace AD := AD.other W16 ne_D_PZ
  replace AA := AA.other W16 ne_A_PZ
  replace AH := AH.other W16 ne_SH_PZ
  replace AX_ := AX_.other W16 ne_AXS_PZ
  replace AS_ := AS_.other W16 ne_S_PZ
  replace AAX := AAX.other W16 ne_AX_PZ
  replace AZ := AZ.set W16
  replace K := K.wr W16 (Or.inr z_PZ)
  rw [upd_N] at AZ
  replace R := R.aload C (pc' := 518) at_516 rfl rfl rfl
  replace R := R.iconst C (pc' := 519) at_518 (v := (1 : Int32)) rfl rfl
  replace R := R.aload C (pc' := 521) at_519 rfl rfl rfl
  replace R := R.aload C (pc' := 523) at_521 rfl rfl rfl
  replace R := R.iconst C (pc' := 524) at_523 (v := (1 : Int32)) rfl rfl
  replace R := R.iaload C (v := (.int (own_a 2 (own_axf 2 pi) 1).toInt32)) AAX (i := 1) rfl (by decide) rfl (pc' := 525) at_524 rfl
  replace R := R.iaload C (v := (.int (own_pz 2 (own_dm 2 d0 d1 0) (own_axf 2 pi) 1).toInt32)) AS_ (i := own_a 2 (own_axf 2 pi) 1) (own_tn (by have := hax 1 (by decide); omega)) (hax 1 (by decide)) rfl (pc' := 526) at_525 rfl
  obtain ⟨h17, R', W17⟩ := R.iastore C AZ (i := 1) rfl (by decide) (Nat.le_trans z0 z_PZ) (pc' := 527) at_526 rfl
  replace R := R'
  clear R'
  replace AD := AD.other W17 ne_D_PZ
  replace AA := AA.other W17 ne_A_PZ
  replace AH := AH.other W17 ne_SH_PZ
  replace AX_ := AX_.other W17 ne_AXS_PZ
  replace AS_ := AS_.other W17 ne_S_PZ
  replace AAX := AAX.other W17 ne_AX_PZ
  replace AZ := AZ.set W17
  replace K := K.wr W17 (Or.inr z_PZ)
  rw [upd_N] at AZ
  replace R := R.aload C (pc' := 529) at_527 rfl rfl rfl
  replace R := R.iconst C (pc' := 530) at_529 (v := (2 : Int32)) rfl rfl
  replace R := R.aload C (pc' := 532) at_530 rfl rfl rfl
  replace R := R.aload C (pc' := 534) at_532 rfl rfl rfl
  replace R := R.iconst C (pc' := 535) at_534 (v := (2 : Int32)) rfl rfl
  replace R := R.iaload C (v := (.int (own_a 2 (own_axf 2 pi) 2).toInt32)) AAX (i := 2) rfl (by decide) rfl (pc' := 536) at_535 rfl
  replace R := R.iaload C (v := (.int (own_pz 2 (own_dm 2 d0 d1 0) (own_axf 2 pi) 2).toInt32)) AS_ (i := own_a 2 (own_axf 2 pi) 2) (own_tn (by have := hax 2 (by decide); omega)) (hax 2 (by decide)) rfl (pc' := 537) at_536 rfl
  obtain ⟨h18, R', W18⟩ := R.iastore C AZ (i := 2) rfl (by decide) (Nat.le_trans z0 z_PZ) (pc' := 538) at_537 rfl
  replace R := R'
  clear R'
  replace AD := AD.other W18 ne_D_PZ
  replace AA := AA.other W18 ne_A_PZ
  replace AH := AH.other W18 ne_SH_PZ
  replace AX_ := AX_.other W18 ne_AXS_PZ
  replace AS_ := AS_.other W18 ne_S_PZ
  replace AAX := AAX.other W18 ne_AX_PZ
  replace AZ := AZ.set W18
  replace K := K.wr W18 (Or.inr z_PZ)
  rw [upd_N] at AZ
  replace AZ : Ary Z h18 PZ .int 3 (Nf (own_pz 2 (own_dm 2 d0 d1 0) (own_axf 2 pi))) := AZ.of fun i hi => by
    match i, hi with
    | 0, _ => rfl
    | 1, _ => rfl
    | 2, _ => rfl
  have hd : ∀ k, k < 2 → (own_dm 2 d0 d1 0) k ≤ 9 := fun i hi => by
    match i, hi with
    | 0, _ => exact (show d0 ≤ 9 by omega)
    | 1, _ => exact (show d1 ≤ 9 by omega)
  have hs : ∀ k, k < 3 → own_s 2 (own_dm 2 d0 d1 0) k ≤ 9 := fun i hi => by
    match i, hi with
    | 0, _ => exact (show 1 ≤ 9 by omega)
    | 1, _ => exact (show d0 ≤ 9 by omega)
    | 2, _ => exact (show d1 ≤ 9 by omega)
  exact own_stE hw C x0 x1 x2 x3 x4 mv bv _ D PP A SH AXS S AX PZ 2 fs ts (by decide) hfs hts (own_dm 2 d0 d1 0) (own_axf 2 pi) hd ha hs hax (own_g2 d0 hd0 d1 hd1 pi hpi) AH AX_ AS_ AAX AZ R
theorem own_ha3 : ∀ pi, pi < 6 → (∀ k, k < 3 → own_axf 3 pi k < 3) ∧ ∀ k, k < 3 → own_a 3 (own_axf 3 pi) k < 3 := by decide
set_option maxRecDepth 65536 in
set_option maxHeartbeats 40000000 in
theorem own_stD3 {p : Program} {l : Launch} {e : Env} {s : State} {m : MethodId} {args : Array Value} {below : List Frame} {meth : Method} {c : Code} {S0 : State} {n0 : Nat} {Z : State} {a0 : Array Value} {h0 : Heap} (hw : ∀ d ∈ tables_1, d.before a0 Z = true) (C : Ctx p s m meth c Z a0 tables_1 x.cls code maxLocals x.name ret) (x0 x1 x2 x3 x4 mv bv : Int32) (D PP A : Addr) (fs ts d0 d1 d2 pi : Nat) (hfs : fs < 4) (hts : ts < 4) (hd0 : d0 < 3) (hd1 : d1 < 3) (hd2 : d2 < 3) (hpi : pi < 6) (s13 : Slot) (hs13 : One s13) (AD : Ary Z h0 D .int 3 (Nf (own_tri d0 d1 d2))) (AA : Ary Z h0 A .int 3 (Nf (own_axf 3 pi))) (R : Rch p l e room_1 s m args below meth c S0 n0 9 30 h0 287 #[.val (.int x0), .val (.int x1), .val (.int x2), .val (.int x3), .val (.int x4), .val (.int (Nat.toInt32 3)), .val (.int fs.toInt32), .val (.int ts.toInt32), .val (.int mv), .val (.int bv), .val (.ref D), .val (.ref PP), .val (.ref A), s13, .unset, .unset, .unset, .unset, .unset, .unset, .unset, .unset, .unset] []) :
    OwnEnds p e below s S0 n0 (fun v h' => v = some (.int 1)) room_1.cells room_1.slots := by
  obtain ⟨ha, hax⟩ := own_ha3 pi hpi
  have z0 := R.size
  have K := Keep.refl h0 []
  replace R := R.iload C (pc' := 289) at_287 rfl rfl
  obtain ⟨h1, R', E1, AH, X1⟩ := R.newA C (N := 3) (cap := 3) (ad := "[J") (C.w 5 rfl) (own_tn (n := 3) (by decide)) (by decide) (by decide) (by decide) at_289 (by decide) (by decide) (pc' := 291) rfl
  replace R := R'
  clear R'
  obtain ⟨SH, g_SH⟩ : ∃ z, z = h0.size := ⟨_, rfl⟩
  rw [← g_SH] at R AH X1
  have ne_D_SH : D ≠ SH := by rw [g_SH]; exact Nat.ne_of_lt AD.lt
  have ne_A_SH : A ≠ SH := by rw [g_SH]; exact Nat.ne_of_lt AA.lt
  have z_SH : h0.size ≤ SH := by rw [g_SH]; exact K.1
  replace AD := AD.ext E1
  replace AA := AA.ext E1
  replace K := K.ext E1
  replace AH : Ary Z h1 SH .long 3 (Jf (fun _ => 0)) := AH.of fun _ _ => rfl
  replace R := R.astore C (Ls' := #[.val (.int x0), .val (.int x1), .val (.int x2), .val (.int x3), .val (.int x4), .val (.int (Nat.toInt32 3)), .val (.int fs.toInt32), .val (.int ts.toInt32), .val (.int mv), .val (.int bv), .val (.ref D), .val (.ref PP), .val (.ref A), .val (.ref SH), .unset, .unset, .unset, .unset, .unset, .unset, .unset, .unset, .unset]) (pc' := 293) at_291 rfl (XS.store1 rfl hs13 rfl) rfl
  replace R := R.iload C (pc' := 295) at_293 rfl rfl
  obtain ⟨h2, R', E2, AX_, X2⟩ := R.newA C (N := 3) (cap := 3) (ad := "[I") (C.w 1 rfl) (own_tn (n := 3) (by decide)) (by decide) (by decide) (by decide) at_295 (by decide) (by decide) (pc' := 297) rfl
  replace R := R'
  clear R'
  obtain ⟨AXS, g_AXS⟩ : ∃ z, z = h1.size := ⟨_, rfl⟩
  rw [← g_AXS] at R AX_ X2
  have ne_D_AXS : D ≠ AXS := by rw [g_AXS]; exact Nat.ne_of_lt AD.lt
  have ne_A_AXS : A ≠ AXS := by rw [g_AXS]; exact Nat.ne_of_lt AA.lt
  have ne_SH_AXS : SH ≠ AXS := by rw [g_AXS]; exact Nat.ne_of_lt AH.lt
  have z_AXS : h0.size ≤ AXS := by rw [g_AXS]; exact K.1
  replace AD := AD.ext E2
  replace AA := AA.ext E2
  replace AH := AH.ext E2
  replace K := K.ext E2
  replace AX_ : Ary Z h2 AXS .int 3 (Nf (fun _ => 0)) := AX_.of fun _ _ => rfl
  replace R := R.astore C (Ls' := #[.val (.int x0), .val (.int x1), .val (.int x2), .val (.int x3), .val (.int x4), .val (.int (Nat.toInt32 3)), .val (.int fs.toInt32), .val (.int ts.toInt32), .val (.int mv), .val (.int bv), .val (.ref D), .val (.ref PP), .val (.ref A), .val (.ref SH), .val (.ref AXS), .unset, .unset, .unset, .unset, .unset, .unset, .unset, .unset]) (pc' := 299) at_297 rfl rfl rfl
  replace R := R.iload C (pc' := 301) at_299 rfl rfl
  replace R := R.ifN C (pc' := 304) at_301 rfl rfl
  replace R := R.aload C (pc' := 306) at_304 rfl rfl rfl
  replace R := R.iconst C (pc' := 307) at_306 (v := (0 : Int32)) rfl rfl
  replace R := R.aload C (pc' := 309) at_307 rfl rfl rfl
  replace R := R.iconst C (pc' := 310) at_309 (v := (0 : Int32)) rfl rfl
  replace R := R.iaload C (v := (.int d0.toInt32)) AD (i := 0) rfl (by decide) rfl (pc' := 311) at_310 rfl
  replace R := R.i2l C (pc' := 312) at_311 rfl
  obtain ⟨h3, R', W3⟩ := R.lastore C AH (i := 0) rfl (by decide) (Nat.le_trans z0 z_SH) (pc' := 313) at_312 rfl
  replace R := R'
  clear R'
  replace AD := AD.other W3 ne_D_SH
  replace AA := AA.other W3 ne_A_SH
  replace AH := AH.set W3
  replace AX_ := AX_.other W3 (Ne.symm ne_SH_AXS)
  replace K := K.wr W3 (Or.inr z_SH)
  replace R := R.aload C (pc' := 315) at_313 rfl rfl rfl
  replace R := R.iconst C (pc' := 316) at_315 (v := (0 : Int32)) rfl rfl
  replace R := R.aload C (pc' := 318) at_316 rfl rfl rfl
  replace R := R.iconst C (pc' := 319) at_318 (v := (0 : Int32)) rfl rfl
  replace R := R.iaload C (v := (.int ((own_axf 3 pi) 0).toInt32)) AA (i := 0) rfl (by decide) rfl (pc' := 320) at_319 rfl
  obtain ⟨h4, R', W4⟩ := R.iastore C AX_ (i := 0) rfl (by decide) (Nat.le_trans z0 z_AXS) (pc' := 321) at_320 rfl
  replace R := R'
  clear R'
  replace AD := AD.other W4 ne_D_AXS
  replace AA := AA.other W4 ne_A_AXS
  replace AH := AH.other W4 ne_SH_AXS
  replace AX_ := AX_.set W4
  replace K := K.wr W4 (Or.inr z_AXS)
  rw [upd_N] at AX_
  replace R := R.iload C (pc' := 323) at_321 rfl rfl
  replace R := R.iconst C (pc' := 324) at_323 (v := (1 : Int32)) rfl rfl
  replace R := R.icmpN C (pc' := 327) at_324 rfl rfl
  replace R := R.aload C (pc' := 329) at_327 rfl rfl rfl
  replace R := R.iconst C (pc' := 330) at_329 (v := (1 : Int32)) rfl rfl
  replace R := R.aload C (pc' := 332) at_330 rfl rfl rfl
  replace R := R.iconst C (pc' := 333) at_332 (v := (1 : Int32)) rfl rfl
  replace R := R.iaload C (v := (.int d1.toInt32)) AD (i := 1) rfl (by decide) rfl (pc' := 334) at_333 rfl
  replace R := R.i2l C (pc' := 335) at_334 rfl
  obtain ⟨h5, R', W5⟩ := R.lastore C AH (i := 1) rfl (by decide) (Nat.le_trans z0 z_SH) (pc' := 336) at_335 rfl
  replace R := R'
  clear R'
  replace AD := AD.other W5 ne_D_SH
  replace AA := AA.other W5 ne_A_SH
  replace AH := AH.set W5
  replace AX_ := AX_.other W5 (Ne.symm ne_SH_AXS)
  replace K := K.wr W5 (Or.inr z_SH)
  replace R := R.aload C (pc' := 338) at_336 rfl rfl rfl
  replace R := R.iconst C (pc' := 339) at_338 (v := (1 : Int32)) rfl rfl
  replace R := R.aload C (pc' := 341) at_339 rfl rfl rfl
  replace R := R.iconst C (pc' := 342) at_341 (v := (1 : Int32)) rfl rfl
  replace R := R.iaload C (v := (.int ((own_axf 3 pi) 1).toInt32)) AA (i := 1) rfl (by decide) rfl (pc' := 343) at_342 rfl
  obtain ⟨h6, R', W6⟩ := R.iastore C AX_ (i := 1) rfl (by decide) (Nat.le_trans z0 z_AXS) (pc' := 344) at_343 rfl
  replace R := R'
  clear R'
  replace AD := AD.other W6 ne_D_AXS
  replace AA := AA.other W6 ne_A_AXS
  replace AH := AH.other W6 ne_SH_AXS
  replace AX_ := AX_.set W6
  replace K := K.wr W6 (Or.inr z_AXS)
  rw [upd_N] at AX_
  replace R := R.iload C (pc' := 346) at_344 rfl rfl
  replace R := R.iconst C (pc' := 347) at_346 (v := (2 : Int32)) rfl rfl
  replace R := R.icmpN C (pc' := 350) at_347 rfl rfl
  replace R := R.aload C (pc' := 352) at_350 rfl rfl rfl
  replace R := R.iconst C (pc' := 353) at_352 (v := (2 : Int32)) rfl rfl
  replace R := R.aload C (pc' := 355) at_353 rfl rfl rfl
  replace R := R.iconst C (pc' := 356) at_355 (v := (2 : Int32)) rfl rfl
  replace R := R.iaload C (v := (.int d2.toInt32)) AD (i := 2) rfl (by decide) rfl (pc' := 357) at_356 rfl
  replace R := R.i2l C (pc' := 358) at_357 rfl
  obtain ⟨h7, R', W7⟩ := R.lastore C AH (i := 2) rfl (by decide) (Nat.le_trans z0 z_SH) (pc' := 359) at_358 rfl
  replace R := R'
  clear R'
  replace AD := AD.other W7 ne_D_SH
  replace AA := AA.other W7 ne_A_SH
  replace AH := AH.set W7
  replace AX_ := AX_.other W7 (Ne.symm ne_SH_AXS)
  replace K := K.wr W7 (Or.inr z_SH)
  replace R := R.aload C (pc' := 361) at_359 rfl rfl rfl
  replace R := R.iconst C (pc' := 362) at_361 (v := (2 : Int32)) rfl rfl
  replace R := R.aload C (pc' := 364) at_362 rfl rfl rfl
  replace R := R.iconst C (pc' := 365) at_364 (v := (2 : Int32)) rfl rfl
  replace R := R.iaload C (v := (.int ((own_axf 3 pi) 2).toInt32)) AA (i := 2) rfl (by decide) rfl (pc' := 366) at_365 rfl
  obtain ⟨h8, R', W8⟩ := R.iastore C AX_ (i := 2) rfl (by decide) (Nat.le_trans z0 z_AXS) (pc' := 367) at_366 rfl
  replace R := R'
  clear R'
  replace AD := AD.other W8 ne_D_AXS
  replace AA := AA.other W8 ne_A_AXS
  replace AH := AH.other W8 ne_SH_AXS
  replace AX_ := AX_.set W8
  replace K := K.wr W8 (Or.inr z_AXS)
  rw [upd_N] at AX_
  replace AH : Ary Z h8 SH .long 3 (Jf (own_dm 3 d0 d1 d2)) := AH.of fun i hi => by
    match i, hi with
    | 0, _ => rfl
    | 1, _ => rfl
    | 2, _ => rfl
  replace AX_ : Ary Z h8 AXS .int 3 (Nf (own_axf 3 pi)) := AX_.of fun i hi => by
    match i, hi with
    | 0, _ => rfl
    | 1, _ => rfl
    | 2, _ => rfl
  replace R := R.iload C (pc' := 369) at_367 rfl rfl
  replace R := R.ifN C (pc' := 372) at_369 rfl rfl
  replace R := R.aload C (pc' := 374) at_372 rfl rfl rfl
  replace R := R.iconst C (pc' := 375) at_374 (v := (0 : Int32)) rfl rfl
  replace R := R.iaload C (v := (.int d0.toInt32)) AD (i := 0) rfl (by decide) rfl (pc' := 376) at_375 rfl
  replace R := R.goto C (pc' := 380) at_376 rfl
  replace R := R.iload C (pc' := 382) at_380 rfl rfl
  replace R := R.iconst C (pc' := 383) at_382 (v := (1 : Int32)) rfl rfl
  replace R := R.icmpN C (pc' := 386) at_383 rfl rfl
  replace R := R.aload C (pc' := 388) at_386 rfl rfl rfl
  replace R := R.iconst C (pc' := 389) at_388 (v := (1 : Int32)) rfl rfl
  replace R := R.iaload C (v := (.int d1.toInt32)) AD (i := 1) rfl (by decide) rfl (pc' := 390) at_389 rfl
  replace R := R.goto C (pc' := 394) at_390 rfl
  replace R := R.imul C (pc' := 395) at_394 rfl
  replace R := R.iload C (pc' := 397) at_395 rfl rfl
  replace R := R.iconst C (pc' := 398) at_397 (v := (2 : Int32)) rfl rfl
  replace R := R.icmpN C (pc' := 401) at_398 rfl rfl
  replace R := R.aload C (pc' := 403) at_401 rfl rfl rfl
  replace R := R.iconst C (pc' := 404) at_403 (v := (2 : Int32)) rfl rfl
  replace R := R.iaload C (v := (.int d2.toInt32)) AD (i := 2) rfl (by decide) rfl (pc' := 405) at_404 rfl
  replace R := R.goto C (pc' := 409) at_405 rfl
  replace R := R.imul C (pc' := 410) at_409 rfl
  rw [own_ce3] at R
  replace R := R.istore C (Ls' := #[.val (.int x0), .val (.int x1), .val (.int x2), .val (.int x3), .val (.int x4), .val (.int (Nat.toInt32 3)), .val (.int fs.toInt32), .val (.int ts.toInt32), .val (.int mv), .val (.int bv), .val (.ref D), .val (.ref PP), .val (.ref A), .val (.ref SH), .val (.ref AXS), .val (.int (own_cells 3 (own_dm 3 d0 d1 d2)).toInt32), .unset, .unset, .unset, .unset, .unset, .unset, .unset]) (pc' := 412) at_410 rfl rfl
  replace R := R.iconst C (pc' := 413) at_412 (v := (3 : Int32)) rfl rfl
  replace R := R.iload C (pc' := 415) at_413 rfl rfl
  replace R := R.isub C (pc' := 416) at_415 rfl
  replace R := R.istore C (Ls' := #[.val (.int x0), .val (.int x1), .val (.int x2), .val (.int x3), .val (.int x4), .val (.int (Nat.toInt32 3)), .val (.int fs.toInt32), .val (.int ts.toInt32), .val (.int mv), .val (.int bv), .val (.ref D), .val (.ref PP), .val (.ref A), .val (.ref SH), .val (.ref AXS), .val (.int (own_cells 3 (own_dm 3 d0 d1 d2)).toInt32), .val (.int ((3 : Int32) - (Nat.toInt32 3))), .unset, .unset, .unset, .unset, .unset, .unset]) (pc' := 418) at_416 rfl rfl
  replace R := R.asL (Ls' := #[.val (.int x0), .val (.int x1), .val (.int x2), .val (.int x3), .val (.int x4), .val (.int (Nat.toInt32 3)), .val (.int fs.toInt32), .val (.int ts.toInt32), .val (.int mv), .val (.int bv), .val (.ref D), .val (.ref PP), .val (.ref A), .val (.ref SH), .val (.ref AXS), .val (.int (own_cells 3 (own_dm 3 d0 d1 d2)).toInt32), .val (.int (Nat.toInt32 0)), .unset, .unset, .unset, .unset, .unset, .unset]) rfl
  replace R := R.iconst C (pc' := 419) at_418 (v := (3 : Int32)) rfl rfl
  obtain ⟨h9, R', E9, AS_, X9⟩ := R.newA C (N := 3) (cap := 3) (ad := "[I") (C.w 1 rfl) rfl (by decide) (by decide) (by decide) at_419 (by decide) (by decide) (pc' := 421) rfl
  replace R := R'
  clear R'
  obtain ⟨S, g_S⟩ : ∃ z, z = h8.size := ⟨_, rfl⟩
  rw [← g_S] at R AS_ X9
  have ne_D_S : D ≠ S := by rw [g_S]; exact Nat.ne_of_lt AD.lt
  have ne_A_S : A ≠ S := by rw [g_S]; exact Nat.ne_of_lt AA.lt
  have ne_SH_S : SH ≠ S := by rw [g_S]; exact Nat.ne_of_lt AH.lt
  have ne_AXS_S : AXS ≠ S := by rw [g_S]; exact Nat.ne_of_lt AX_.lt
  have z_S : h0.size ≤ S := by rw [g_S]; exact K.1
  replace AD := AD.ext E9
  replace AA := AA.ext E9
  replace AH := AH.ext E9
  replace AX_ := AX_.ext E9
  replace K := K.ext E9
  replace AS_ : Ary Z h9 S .int 3 (Nf (fun _ => 0)) := AS_.of fun _ _ => rfl
  replace R := R.astore C (Ls' := #[.val (.int x0), .val (.int x1), .val (.int x2), .val (.int x3), .val (.int x4), .val (.int (Nat.toInt32 3)), .val (.int fs.toInt32), .val (.int ts.toInt32), .val (.int mv), .val (.int bv), .val (.ref D), .val (.ref PP), .val (.ref A), .val (.ref SH), .val (.ref AXS), .val (.int (own_cells 3 (own_dm 3 d0 d1 d2)).toInt32), .val (.int (Nat.toInt32 0)), .val (.ref S), .unset, .unset, .unset, .unset, .unset]) (pc' := 423) at_421 rfl rfl rfl
  replace R := R.iconst C (pc' := 424) at_423 (v := (3 : Int32)) rfl rfl
  obtain ⟨h10, R', E10, AAX, X10⟩ := R.newA C (N := 3) (cap := 3) (ad := "[I") (C.w 1 rfl) rfl (by decide) (by decide) (by decide) at_424 (by decide) (by decide) (pc' := 426) rfl
  replace R := R'
  clear R'
  obtain ⟨AX, g_AX⟩ : ∃ z, z = h9.size := ⟨_, rfl⟩
  rw [← g_AX] at R AAX X10
  have ne_D_AX : D ≠ AX := by rw [g_AX]; exact Nat.ne_of_lt AD.lt
  have ne_A_AX : A ≠ AX := by rw [g_AX]; exact Nat.ne_of_lt AA.lt
  have ne_SH_AX : SH ≠ AX := by rw [g_AX]; exact Nat.ne_of_lt AH.lt
  have ne_AXS_AX : AXS ≠ AX := by rw [g_AX]; exact Nat.ne_of_lt AX_.lt
  have ne_S_AX : S ≠ AX := by rw [g_AX]; exact Nat.ne_of_lt AS_.lt
  have z_AX : h0.size ≤ AX := by rw [g_AX]; exact K.1
  replace AD := AD.ext E10
  replace AA := AA.ext E10
  replace AH := AH.ext E10
  replace AX_ := AX_.ext E10
  replace AS_ := AS_.ext E10
  replace K := K.ext E10
  replace AAX : Ary Z h10 AX .int 3 (Nf (fun _ => 0)) := AAX.of fun _ _ => rfl
  replace R := R.astore C (Ls' := #[.val (.int x0), .val (.int x1), .val (.int x2), .val (.int x3), .val (.int x4), .val (.int (Nat.toInt32 3)), .val (.int fs.toInt32), .val (.int ts.toInt32), .val (.int mv), .val (.int bv), .val (.ref D), .val (.ref PP), .val (.ref A), .val (.ref SH), .val (.ref AXS), .val (.int (own_cells 3 (own_dm 3 d0 d1 d2)).toInt32), .val (.int (Nat.toInt32 0)), .val (.ref S), .val (.ref AX), .unset, .unset, .unset, .unset]) (pc' := 428) at_426 rfl rfl rfl
  replace R := R.aload C (pc' := 430) at_428 rfl rfl rfl
  replace R := R.iconst C (pc' := 431) at_430 (v := (0 : Int32)) rfl rfl
  replace R := R.iconst C (pc' := 432) at_431 (v := (0 : Int32)) rfl rfl
  replace R := R.iload C (pc' := 434) at_432 rfl rfl
  replace R := R.aload C (pc' := 436) at_434 rfl rfl rfl
  replace R := R.as (st' := [(.ref D), (.int (Nat.toInt32 0)), (.int (Nat.toInt32 0)), (.int (0 : Int32)), (.ref S)]) rfl
  obtain ⟨_, _, R', rfl, rfl⟩ := R.callS C (y := (⟨"com/example/lacuna_tensor/lacunatensor/DenseTensorPermuteCellsPinLaw", "padS", "(II[I)I"⟩ : MethodName)) (C.w 6 rfl) (C.w 7 rfl) (C.w 8 rfl) (C.w 9 rfl) (by decide) [(.int (Nat.toInt32 0)), (.int (Nat.toInt32 0)), (.ref D)] [(.int (0 : Int32)), (.ref S)] rfl (con_padS l Z a0 hw 0 0 (by decide) (by decide) D (own_tri d0 d1 d2) h10 n0 R.size AD) 2 (Nat.le_of_eq rfl) (by decide) (by decide) (by decide) (by decide) (lenOf pd_0 rfl) rfl (pc' := 439) at_436 rfl
  clear R
  replace R := R'.as (st' := [(.int (own_s 3 (own_dm 3 d0 d1 d2) 0).toInt32), (.int (0 : Int32)), (.ref S)]) rfl
  clear R'
  obtain ⟨h11, R', W11⟩ := R.iastore C AS_ (i := 0) rfl (by decide) (Nat.le_trans z0 z_S) (pc' := 440) at_439 rfl
  replace R := R'
  clear R'
  replace AD := AD.other W11 ne_D_S
  replace AA := AA.other W11 ne_A_S
  replace AH := AH.other W11 ne_SH_S
  replace AX_ := AX_.other W11 ne_AXS_S
  replace AS_ := AS_.set W11
  replace AAX := AAX.other W11 (Ne.symm ne_S_AX)
  replace K := K.wr W11 (Or.inr z_S)
  rw [upd_N] at AS_
  replace R := R.aload C (pc' := 442) at_440 rfl rfl rfl
  replace R := R.iconst C (pc' := 443) at_442 (v := (1 : Int32)) rfl rfl
  replace R := R.iconst C (pc' := 444) at_443 (v := (1 : Int32)) rfl rfl
  replace R := R.iload C (pc' := 446) at_444 rfl rfl
  replace R := R.aload C (pc' := 448) at_446 rfl rfl rfl
  replace R := R.as (st' := [(.ref D), (.int (Nat.toInt32 0)), (.int (Nat.toInt32 1)), (.int (1 : Int32)), (.ref S)]) rfl
  obtain ⟨_, _, R', rfl, rfl⟩ := R.callS C (y := (⟨"com/example/lacuna_tensor/lacunatensor/DenseTensorPermuteCellsPinLaw", "padS", "(II[I)I"⟩ : MethodName)) (C.w 6 rfl) (C.w 7 rfl) (C.w 8 rfl) (C.w 9 rfl) (by decide) [(.int (Nat.toInt32 1)), (.int (Nat.toInt32 0)), (.ref D)] [(.int (1 : Int32)), (.ref S)] rfl (con_padS l Z a0 hw 1 0 (by decide) (by decide) D (own_tri d0 d1 d2) h11 n0 R.size AD) 2 (Nat.le_of_eq rfl) (by decide) (by decide) (by decide) (by decide) (lenOf pd_0 rfl) rfl (pc' := 451) at_448 rfl
  clear R
  replace R := R'.as (st' := [(.int (own_s 3 (own_dm 3 d0 d1 d2) 1).toInt32), (.int (1 : Int32)), (.ref S)]) rfl
  clear R'
  obtain ⟨h12, R', W12⟩ := R.iastore C AS_ (i := 1) rfl (by decide) (Nat.le_trans z0 z_S) (pc' := 452) at_451 rfl
  replace R := R'
  clear R'
  replace AD := AD.other W12 ne_D_S
  replace AA := AA.other W12 ne_A_S
  replace AH := AH.other W12 ne_SH_S
  replace AX_ := AX_.other W12 ne_AXS_S
  replace AS_ := AS_.set W12
  replace AAX := AAX.other W12 (Ne.symm ne_S_AX)
  replace K := K.wr W12 (Or.inr z_S)
  rw [upd_N] at AS_
  replace R := R.aload C (pc' := 454) at_452 rfl rfl rfl
  replace R := R.iconst C (pc' := 455) at_454 (v := (2 : Int32)) rfl rfl
  replace R := R.iconst C (pc' := 456) at_455 (v := (2 : Int32)) rfl rfl
  replace R := R.iload C (pc' := 458) at_456 rfl rfl
  replace R := R.aload C (pc' := 460) at_458 rfl rfl rfl
  replace R := R.as (st' := [(.ref D), (.int (Nat.toInt32 0)), (.int (Nat.toInt32 2)), (.int (2 : Int32)), (.ref S)]) rfl
  obtain ⟨_, _, R', rfl, rfl⟩ := R.callS C (y := (⟨"com/example/lacuna_tensor/lacunatensor/DenseTensorPermuteCellsPinLaw", "padS", "(II[I)I"⟩ : MethodName)) (C.w 6 rfl) (C.w 7 rfl) (C.w 8 rfl) (C.w 9 rfl) (by decide) [(.int (Nat.toInt32 2)), (.int (Nat.toInt32 0)), (.ref D)] [(.int (2 : Int32)), (.ref S)] rfl (con_padS l Z a0 hw 2 0 (by decide) (by decide) D (own_tri d0 d1 d2) h12 n0 R.size AD) 2 (Nat.le_of_eq rfl) (by decide) (by decide) (by decide) (by decide) (lenOf pd_0 rfl) rfl (pc' := 463) at_460 rfl
  clear R
  replace R := R'.as (st' := [(.int (own_s 3 (own_dm 3 d0 d1 d2) 2).toInt32), (.int (2 : Int32)), (.ref S)]) rfl
  clear R'
  obtain ⟨h13, R', W13⟩ := R.iastore C AS_ (i := 2) rfl (by decide) (Nat.le_trans z0 z_S) (pc' := 464) at_463 rfl
  replace R := R'
  clear R'
  replace AD := AD.other W13 ne_D_S
  replace AA := AA.other W13 ne_A_S
  replace AH := AH.other W13 ne_SH_S
  replace AX_ := AX_.other W13 ne_AXS_S
  replace AS_ := AS_.set W13
  replace AAX := AAX.other W13 (Ne.symm ne_S_AX)
  replace K := K.wr W13 (Or.inr z_S)
  rw [upd_N] at AS_
  replace R := R.aload C (pc' := 466) at_464 rfl rfl rfl
  replace R := R.iconst C (pc' := 467) at_466 (v := (0 : Int32)) rfl rfl
  replace R := R.iconst C (pc' := 468) at_467 (v := (0 : Int32)) rfl rfl
  replace R := R.iload C (pc' := 470) at_468 rfl rfl
  replace R := R.aload C (pc' := 472) at_470 rfl rfl rfl
  replace R := R.as (st' := [(.ref A), (.int (Nat.toInt32 0)), (.int (Nat.toInt32 0)), (.int (0 : Int32)), (.ref AX)]) rfl
  obtain ⟨_, _, R', rfl, rfl⟩ := R.callS C (y := (⟨"com/example/lacuna_tensor/lacunatensor/DenseTensorPermuteCellsPinLaw", "padA", "(II[I)I"⟩ : MethodName)) (C.w 10 rfl) (C.w 11 rfl) (C.w 8 rfl) (C.w 12 rfl) (by decide) [(.int (Nat.toInt32 0)), (.int (Nat.toInt32 0)), (.ref A)] [(.int (0 : Int32)), (.ref AX)] rfl (con_padA l Z a0 hw 0 0 (by decide) (by decide) A (own_axf 3 pi) h13 n0 R.size AA) 2 (Nat.le_of_eq rfl) (by decide) (by decide) (by decide) (by decide) (lenOf pd_0 rfl) rfl (pc' := 475) at_472 rfl
  clear R
  replace R := R'.as (st' := [(.int (own_a 3 (own_axf 3 pi) 0).toInt32), (.int (0 : Int32)), (.ref AX)]) rfl
  clear R'
  obtain ⟨h14, R', W14⟩ := R.iastore C AAX (i := 0) rfl (by decide) (Nat.le_trans z0 z_AX) (pc' := 476) at_475 rfl
  replace R := R'
  clear R'
  replace AD := AD.other W14 ne_D_AX
  replace AA := AA.other W14 ne_A_AX
  replace AH := AH.other W14 ne_SH_AX
  replace AX_ := AX_.other W14 ne_AXS_AX
  replace AS_ := AS_.other W14 ne_S_AX
  replace AAX := AAX.set W14
  replace K := K.wr W14 (Or.inr z_AX)
  rw [upd_N] at AAX
  replace R := R.aload C (pc' := 478) at_476 rfl rfl rfl
  replace R := R.iconst C (pc' := 479) at_478 (v := (1 : Int32)) rfl rfl
  replace R := R.iconst C (pc' := 480) at_479 (v := (1 : Int32)) rfl rfl
  replace R := R.iload C (pc' := 482) at_480 rfl rfl
  replace R := R.aload C (pc' := 484) at_482 rfl rfl rfl
  replace R := R.as (st' := [(.ref A), (.int (Nat.toInt32 0)), (.int (Nat.toInt32 1)), (.int (1 : Int32)), (.ref AX)]) rfl
  obtain ⟨_, _, R', rfl, rfl⟩ := R.callS C (y := (⟨"com/example/lacuna_tensor/lacunatensor/DenseTensorPermuteCellsPinLaw", "padA", "(II[I)I"⟩ : MethodName)) (C.w 10 rfl) (C.w 11 rfl) (C.w 8 rfl) (C.w 12 rfl) (by decide) [(.int (Nat.toInt32 1)), (.int (Nat.toInt32 0)), (.ref A)] [(.int (1 : Int32)), (.ref AX)] rfl (con_padA l Z a0 hw 1 0 (by decide) (by decide) A (own_axf 3 pi) h14 n0 R.size AA) 2 (Nat.le_of_eq rfl) (by decide) (by decide) (by decide) (by decide) (lenOf pd_0 rfl) rfl (pc' := 487) at_484 rfl
  clear R
  replace R := R'.as (st' := [(.int (own_a 3 (own_axf 3 pi) 1).toInt32), (.int (1 : Int32)), (.ref AX)]) rfl
  clear R'
  obtain ⟨h15, R', W15⟩ := R.iastore C AAX (i := 1) rfl (by decide) (Nat.le_trans z0 z_AX) (pc' := 488) at_487 rfl
  replace R := R'
  clear R'
  replace AD := AD.other W15 ne_D_AX
  replace AA := AA.other W15 ne_A_AX
  replace AH := AH.other W15 ne_SH_AX
  replace AX_ := AX_.other W15 ne_AXS_AX
  replace AS_ := AS_.other W15 ne_S_AX
  replace AAX := AAX.set W15
  replace K := K.wr W15 (Or.inr z_AX)
  rw [upd_N] at AAX
  replace R := R.aload C (pc' := 490) at_488 rfl rfl rfl
  replace R := R.iconst C (pc' := 491) at_490 (v := (2 : Int32)) rfl rfl
  replace R := R.iconst C (pc' := 492) at_491 (v := (2 : Int32)) rfl rfl
  replace R := R.iload C (pc' := 494) at_492 rfl rfl
  replace R := R.aload C (pc' := 496) at_494 rfl rfl rfl
  replace R := R.as (st' := [(.ref A), (.int (Nat.toInt32 0)), (.int (Nat.toInt32 2)), (.int (2 : Int32)), (.ref AX)]) rfl
  obtain ⟨_, _, R', rfl, rfl⟩ := R.callS C (y := (⟨"com/example/lacuna_tensor/lacunatensor/DenseTensorPermuteCellsPinLaw", "padA", "(II[I)I"⟩ : MethodName)) (C.w 10 rfl) (C.w 11 rfl) (C.w 8 rfl) (C.w 12 rfl) (by decide) [(.int (Nat.toInt32 2)), (.int (Nat.toInt32 0)), (.ref A)] [(.int (2 : Int32)), (.ref AX)] rfl (con_padA l Z a0 hw 2 0 (by decide) (by decide) A (own_axf 3 pi) h15 n0 R.size AA) 2 (Nat.le_of_eq rfl) (by decide) (by decide) (by decide) (by decide) (lenOf pd_0 rfl) rfl (pc' := 499) at_496 rfl
  clear R
  replace R := R'.as (st' := [(.int (own_a 3 (own_axf 3 pi) 2).toInt32), (.int (2 : Int32)), (.ref AX)]) rfl
  clear R'
  obtain ⟨h16, R', W16⟩ := R.iastore C AAX (i := 2) rfl (by decide) (Nat.le_trans z0 z_AX) (pc' := 500) at_499 rfl
  replace R := R'
  clear R'
  replace AD := AD.other W16 ne_D_AX
  replace AA := AA.other W16 ne_A_AX
  replace AH := AH.other W16 ne_SH_AX
  replace AX_ := AX_.other W16 ne_AXS_AX
  replace AS_ := AS_.other W16 ne_S_AX
  replace AAX := AAX.set W16
  replace K := K.wr W16 (Or.inr z_AX)
  rw [upd_N] at AAX
  replace AS_ : Ary Z h16 S .int 3 (Nf (own_s 3 (own_dm 3 d0 d1 d2))) := AS_.of fun i hi => by
    match i, hi with
    | 0, _ => rfl
    | 1, _ => rfl
    | 2, _ => rfl
  replace AAX : Ary Z h16 AX .int 3 (Nf (own_a 3 (own_axf 3 pi))) := AAX.of fun i hi => by
    match i, hi with
    | 0, _ => rfl
    | 1, _ => rfl
    | 2, _ => rfl
  replace R := R.iconst C (pc' := 501) at_500 (v := (3 : Int32)) rfl rfl
  obtain ⟨h17, R', E17, AZ, X17⟩ := R.newA C (N := 3) (cap := 3) (ad := "[I") (C.w 1 rfl) rfl (by decide) (by decide) (by decide) at_501 (by decide) (by decide) (pc' := 503) rfl
  replace R := R'
  clear R'
  obtain ⟨PZ, g_PZ⟩ : ∃ z, z = h16.size := ⟨_, rfl⟩
  rw [← g_PZ] at R AZ X17
  have ne_D_PZ : D ≠ PZ := by rw [g_PZ]; exact Nat.ne_of_lt AD.lt
  have ne_A_PZ : A ≠ PZ := by rw [g_PZ]; exact Nat.ne_of_lt AA.lt
  have ne_SH_PZ : SH ≠ PZ := by rw [g_PZ]; exact Nat.ne_of_lt AH.lt
  have ne_AXS_PZ : AXS ≠ PZ := by rw [g_PZ]; exact Nat.ne_of_lt AX_.lt
  have ne_S_PZ : S ≠ PZ := by rw [g_PZ]; exact Nat.ne_of_lt AS_.lt
  have ne_AX_PZ : AX ≠ PZ := by rw [g_PZ]; exact Nat.ne_of_lt AAX.lt
  have z_PZ : h0.size ≤ PZ := by rw [g_PZ]; exact K.1
  replace AD := AD.ext E17
  replace AA := AA.ext E17
  replace AH := AH.ext E17
  replace AX_ := AX_.ext E17
  replace AS_ := AS_.ext E17
  replace AAX := AAX.ext E17
  replace K := K.ext E17
  replace AZ : Ary Z h17 PZ .int 3 (Nf (fun _ => 0)) := AZ.of fun _ _ => rfl
  replace R := R.astore C (Ls' := #[.val (.int x0), .val (.int x1), .val (.int x2), .val (.int x3), .val (.int x4), .val (.int (Nat.toInt32 3)), .val (.int fs.toInt32), .val (.int ts.toInt32), .val (.int mv), .val (.int bv), .val (.ref D), .val (.ref PP), .val (.ref A), .val (.ref SH), .val (.ref AXS), .val (.int (own_cells 3 (own_dm 3 d0 d1 d2)).toInt32), .val (.int (Nat.toInt32 0)), .val (.ref S), .val (.ref AX), .val (.ref PZ), .unset, .unset, .unset]) (pc' := 505) at_503 rfl rfl rfl
  replace R := R.aload C (pc' := 507) at_505 rfl rfl rfl
  replace R := R.iconst C (pc' := 508) at_507 (v := (0 : Int32)) rfl rfl
  replace R := R.aload C (pc' := 510) at_508 rfl rfl rfl
  replace R := R.aload C (pc' := 512) at_510 rfl rfl rfl
  replace R := R.iconst C (pc' := 513) at_512 (v := (0 : Int32)) rfl rfl
  replace R := R.iaload C (v := (.int (own_a 3 (own_axf 3 pi) 0).toInt32)) AAX (i := 0) rfl (by decide) rfl (pc' := 514) at_513 rfl
  replace R := R.iaload C (v := (.int (own_pz 3 (own_dm 3 d0 d1 d2) (own_axf 3 pi) 0).toInt32)) AS_ (i := own_a 3 (own_axf 3 pi) 0) (own_tn (by have := hax 0 (by decide); omega)) (hax 0 (by decide)) rfl (pc' := 515) at_514 rfl
  obtain ⟨h18, R', W18⟩ := R.iastore C AZ (i := 0) rfl (by decide) (Nat.le_trans z0 z_PZ) (pc' := 516) at_515 rfl
  replace R := R'
  clear R'
  replace AD := AD.other W18 ne_D_PZ
  replace AA := AA.other W18 ne_A_PZ
  replace AH := AH.other W18 ne_SH_PZ
  replace AX_ := AX_.other W18 ne_AXS_PZ
  replace AS_ := AS_.other W18 ne_S_PZ
  replace AAX := AAX.other W18 ne_AX_PZ
  replace AZ := AZ.set W18
  replace K := K.wr W18 (Or.inr z_PZ)
  rw [upd_N] at AZ
  replace R := R.aload C (pc' := 518) at_516 rfl rfl rfl
  replace R := R.iconst C (pc' := 519) at_518 (v := (1 : Int32)) rfl rfl
  replace R := R.aload C (pc' := 521) at_519 rfl rfl rfl
  replace R := R.aload C (pc' := 523) at_521 rfl rfl rfl
  replace R := R.iconst C (pc' := 524) at_523 (v := (1 : Int32)) rfl rfl
  replace R := R.iaload C (v := (.int (own_a 3 (own_axf 3 pi) 1).toInt32)) AAX (i := 1) rfl (by decide) rfl (pc' := 525) at_524 rfl
  replace R := R.iaload C (v := (.int (own_pz 3 (own_dm 3 d0 d1 d2) (own_axf 3 pi) 1).toInt32)) AS_ (i := own_a 3 (own_axf 3 pi) 1) (own_tn (by have := hax 1 (by decide); omega)) (hax 1 (by decide)) rfl (pc' := 526) at_525 rfl
  obtain ⟨h19, R', W19⟩ := R.iastore C AZ (i := 1) rfl (by decide) (Nat.le_trans z0 z_PZ) (pc' := 527) at_526 rfl
  replace R := R'
  clear R'
  replace AD := AD.other W19 ne_D_PZ
  replace AA := AA.other W19 ne_A_PZ
  replace AH := AH.other W19 ne_SH_PZ
  replace AX_ := AX_.other W19 ne_AXS_PZ
  replace AS_ := AS_.other W19 ne_S_PZ
  replace AAX := AAX.other W19 ne_AX_PZ
  replace AZ := AZ.set W19
  replace K := K.wr W19 (Or.inr z_PZ)
  rw [upd_N] at AZ
  replace R := R.aload C (pc' := 529) at_527 rfl rfl rfl
  replace R := R.iconst C (pc' := 530) at_529 (v := (2 : Int32)) rfl rfl
  replace R := R.aload C (pc' := 532) at_530 rfl rfl rfl
  replace R := R.aload C (pc' := 534) at_532 rfl rfl rfl
  replace R := R.iconst C (pc' := 535) at_534 (v := (2 : Int32)) rfl rfl
  replace R := R.iaload C (v := (.int (own_a 3 (own_axf 3 pi) 2).toInt32)) AAX (i := 2) rfl (by decide) rfl (pc' := 536) at_535 rfl
  replace R := R.iaload C (v := (.int (own_pz 3 (own_dm 3 d0 d1 d2) (own_axf 3 pi) 2).toInt32)) AS_ (i := own_a 3 (own_axf 3 pi) 2) (own_tn (by have := hax 2 (by decide); omega)) (hax 2 (by decide)) rfl (pc' := 537) at_536 rfl
  obtain ⟨h20, R', W20⟩ := R.iastore C AZ (i := 2) rfl (by decide) (Nat.le_trans z0 z_PZ) (pc' := 538) at_537 rfl
  replace R := R'
  clear R'
  replace AD := AD.other W20 ne_D_PZ
  replace AA := AA.other W20 ne_A_PZ
  replace AH := AH.other W20 ne_SH_PZ
  replace AX_ := AX_.other W20 ne_AXS_PZ
  replace AS_ := AS_.other W20 ne_S_PZ
  replace AAX := AAX.other W20 ne_AX_PZ
  replace AZ := AZ.set W20
  replace K := K.wr W20 (Or.inr z_PZ)
  rw [upd_N] at AZ
  replace AZ : Ary Z h20 PZ .int 3 (Nf (own_pz 3 (own_dm 3 d0 d1 d2) (own_axf 3 pi))) := AZ.of fun i hi => by
    match i, hi with
    | 0, _ => rfl
    | 1, _ => rfl
    | 2, _ => rfl
  have hd : ∀ k, k < 3 → (own_dm 3 d0 d1 d2) k ≤ 9 := fun i hi => by
    match i, hi with
    | 0, _ => exact (show d0 ≤ 9 by omega)
    | 1, _ => exact (show d1 ≤ 9 by omega)
    | 2, _ => exact (show d2 ≤ 9 by omega)
  have hs : ∀ k, k < 3 → own_s 3 (own_dm 3 d0 d1 d2) k ≤ 9 := fun i hi => by
    match i, hi with
    | 0, _ => exact (show d0 ≤ 9 by omega)
    | 1, _ => exact (show d1 ≤ 9 by omega)
    | 2, _ => exact (show d2 ≤ 9 by omega)
  exact own_stE hw C x0 x1 x2 x3 x4 mv bv _ D PP A SH AXS S AX PZ 3 fs ts (by decide) hfs hts (own_dm 3 d0 d1 d2) (own_axf 3 pi) hd ha hs hax (own_g3 d0 hd0 d1 hd1 d2 hd2 pi hpi) AH AX_ AS_ AAX AZ R
theorem own_mb (r : Nat) : 0 < own_m r ∧ own_m r ≤ 10 := by
  unfold own_m
  split
  · omega
  · split <;> omega
set_option maxRecDepth 65536 in
set_option maxHeartbeats 40000000 in
theorem con0 (l : Launch) (Z : State) (a0 : Array Value) (hw : ∀ d ∈ tables_1, d.before a0 Z = true) (x0 x1 x2 x3 x4 : Int32) (h0 : Heap) (n0 : Nat) (z0 : n0 ≤ h0.size) :
    Con l Z x code maxLocals ret room_1 #[(.int x0), (.int x1), (.int x2), (.int x3), (.int x4)] h0 n0 (fun v h' => v = some (.int 1)) := by
  refine Con.mk (tb := tables_1) (a0 := a0) (Ls := #[.val (.int x0), .val (.int x1), .val (.int x2), .val (.int x3), .val (.int x4), .unset, .unset, .unset, .unset, .unset, .unset, .unset, .unset, .unset, .unset, .unset, .unset, .unset, .unset, .unset, .unset, .unset, .unset]) pf_0 hw z0 (fun m => by first | (simp [entryFrame, mkF, argsToLocals, Value.category, maxLocals]; done) | rfl) ?_
  intro p e s m below meth c S0 C R
  replace R := R.iloadN C (pc' := 1) at_0 rfl rfl
  replace R := R.iconst C (pc' := 2) at_1 (v := (3 : Int32)) rfl rfl
  replace R := R.iand C (pc' := 3) at_2 rfl
  obtain ⟨r, hr, e_r⟩ := own_and3 x0
  rw [e_r] at R
  replace R := R.istore C (Ls' := #[.val (.int x0), .val (.int x1), .val (.int x2), .val (.int x3), .val (.int x4), .val (.int r.toInt32), .unset, .unset, .unset, .unset, .unset, .unset, .unset, .unset, .unset, .unset, .unset, .unset, .unset, .unset, .unset, .unset, .unset]) (pc' := 5) at_3 rfl rfl
  replace R := R.iloadN C (pc' := 6) at_5 rfl rfl
  replace R := R.iconst C (pc' := 7) at_6 (v := (3 : Int32)) rfl rfl
  replace R := R.iand C (pc' := 8) at_7 rfl
  obtain ⟨fs, hfs, e_fs⟩ := own_and3 x3
  rw [e_fs] at R
  replace R := R.istore C (Ls' := #[.val (.int x0), .val (.int x1), .val (.int x2), .val (.int x3), .val (.int x4), .val (.int r.toInt32), .val (.int fs.toInt32), .unset, .unset, .unset, .unset, .unset, .unset, .unset, .unset, .unset, .unset, .unset, .unset, .unset, .unset, .unset, .unset]) (pc' := 10) at_8 rfl rfl
  replace R := R.iload C (pc' := 12) at_10 rfl rfl
  replace R := R.iconst C (pc' := 13) at_12 (v := (3 : Int32)) rfl rfl
  replace R := R.iand C (pc' := 14) at_13 rfl
  obtain ⟨ts, hts, e_ts⟩ := own_and3 x4
  rw [e_ts] at R
  replace R := R.istore C (Ls' := #[.val (.int x0), .val (.int x1), .val (.int x2), .val (.int x3), .val (.int x4), .val (.int r.toInt32), .val (.int fs.toInt32), .val (.int ts.toInt32), .unset, .unset, .unset, .unset, .unset, .unset, .unset, .unset, .unset, .unset, .unset, .unset, .unset, .unset, .unset]) (pc' := 16) at_14 rfl rfl
  replace R : Rch p l e room_1 s m #[(.int x0), (.int x1), (.int x2), (.int x3), (.int x4)] below meth c S0 n0 0 0 h0 38 #[.val (.int x0), .val (.int x1), .val (.int x2), .val (.int x3), .val (.int x4), .val (.int r.toInt32), .val (.int fs.toInt32), .val (.int ts.toInt32), .unset, .unset, .unset, .unset, .unset, .unset, .unset, .unset, .unset, .unset, .unset, .unset, .unset, .unset, .unset] [.int (own_m r).toInt32] := by
    obtain rfl | rfl | rfl | rfl : r = 0 ∨ r = 1 ∨ r = 2 ∨ r = 3 := by omega
    · skip
      replace R := R.iload C (pc' := 18) at_16 rfl rfl
      replace R := R.iconst C (pc' := 19) at_18 (v := (3 : Int32)) rfl rfl
      replace R := R.icmpY C (pc' := 26) at_19 rfl rfl
      replace R := R.iload C (pc' := 28) at_26 rfl rfl
      replace R := R.iconst C (pc' := 29) at_28 (v := (2 : Int32)) rfl rfl
      replace R := R.icmpY C (pc' := 36) at_29 rfl rfl
      replace R := R.bipush C (pc' := 38) at_36 (v := (10 : Int32)) rfl rfl
      exact R.as rfl
    · skip
      replace R := R.iload C (pc' := 18) at_16 rfl rfl
      replace R := R.iconst C (pc' := 19) at_18 (v := (3 : Int32)) rfl rfl
      replace R := R.icmpY C (pc' := 26) at_19 rfl rfl
      replace R := R.iload C (pc' := 28) at_26 rfl rfl
      replace R := R.iconst C (pc' := 29) at_28 (v := (2 : Int32)) rfl rfl
      replace R := R.icmpY C (pc' := 36) at_29 rfl rfl
      replace R := R.bipush C (pc' := 38) at_36 (v := (10 : Int32)) rfl rfl
      exact R.as rfl
    · skip
      replace R := R.iload C (pc' := 18) at_16 rfl rfl
      replace R := R.iconst C (pc' := 19) at_18 (v := (3 : Int32)) rfl rfl
      replace R := R.icmpY C (pc' := 26) at_19 rfl rfl
      replace R := R.iload C (pc' := 28) at_26 rfl rfl
      replace R := R.iconst C (pc' := 29) at_28 (v := (2 : Int32)) rfl rfl
      replace R := R.icmpN C (pc' := 32) at_29 rfl rfl
      replace R := R.iconst C (pc' := 33) at_32 (v := (4 : Int32)) rfl rfl
      replace R := R.goto C (pc' := 38) at_33 rfl
      exact R.as rfl
    · skip
      replace R := R.iload C (pc' := 18) at_16 rfl rfl
      replace R := R.iconst C (pc' := 19) at_18 (v := (3 : Int32)) rfl rfl
      replace R := R.icmpN C (pc' := 22) at_19 rfl rfl
      replace R := R.iconst C (pc' := 23) at_22 (v := (3 : Int32)) rfl rfl
      replace R := R.goto C (pc' := 38) at_23 rfl
      exact R.as rfl
  obtain ⟨hM0, hM⟩ := own_mb r
  obtain ⟨M, e_M⟩ : ∃ z, z = own_m r := ⟨_, rfl⟩
  rw [← e_M] at R hM0 hM
  have hMM : M * M ≤ 10 * 10 := Nat.mul_le_mul hM hM
  have hMP : 0 < M * M := Nat.mul_pos hM0 hM0
  have hMb : M < 2 ^ 31 := by omega
  have hMMb : M * M < 2 ^ 31 := by omega
  replace R := R.istore C (Ls' := #[.val (.int x0), .val (.int x1), .val (.int x2), .val (.int x3), .val (.int x4), .val (.int r.toInt32), .val (.int fs.toInt32), .val (.int ts.toInt32), .val (.int M.toInt32), .unset, .unset, .unset, .unset, .unset, .unset, .unset, .unset, .unset, .unset, .unset, .unset, .unset, .unset]) (pc' := 40) at_38 rfl rfl
  replace R := R.iloadN C (pc' := 41) at_40 rfl rfl
  replace R := R.ldcI C (v := (2147483647 : Int32)) (C.w 0 rfl) (pc' := 43) at_41 rfl
  replace R := R.iand C (pc' := 44) at_43 rfl
  obtain ⟨b, hb_, e_b⟩ := own_andM x1
  rw [e_b] at R
  replace R := R.istore C (Ls' := #[.val (.int x0), .val (.int x1), .val (.int x2), .val (.int x3), .val (.int x4), .val (.int r.toInt32), .val (.int fs.toInt32), .val (.int ts.toInt32), .val (.int M.toInt32), .val (.int b.toInt32), .unset, .unset, .unset, .unset, .unset, .unset, .unset, .unset, .unset, .unset, .unset, .unset, .unset]) (pc' := 46) at_44 rfl rfl
  replace R := R.iconst C (pc' := 47) at_46 (v := (3 : Int32)) rfl rfl
  have hbM : b / M < 2 ^ 31 := Nat.lt_of_le_of_lt (Nat.div_le_self b M) hb_
  have hbMM : b / (M * M) < 2 ^ 31 := Nat.lt_of_le_of_lt (Nat.div_le_self b (M * M)) hb_
  have gs_D := R.size
  obtain ⟨hD, R', ED, AD, YD⟩ := R.newA C (N := 3) (cap := 3) (ad := "[I") (C.w 1 rfl) rfl (by decide) (by decide) (by decide) at_47 (by decide) (by decide) (pc' := 49) rfl
  replace R := R'
  clear R'
  obtain ⟨D, g_D⟩ : ∃ z, z = h0.size := ⟨_, rfl⟩
  rw [← g_D] at R AD YD
  have gg_D : n0 ≤ D := by rw [g_D]; exact gs_D
  replace R := R.astore C (Ls' := #[.val (.int x0), .val (.int x1), .val (.int x2), .val (.int x3), .val (.int x4), .val (.int r.toInt32), .val (.int fs.toInt32), .val (.int ts.toInt32), .val (.int M.toInt32), .val (.int b.toInt32), .val (.ref D), .unset, .unset, .unset, .unset, .unset, .unset, .unset, .unset, .unset, .unset, .unset, .unset]) (pc' := 51) at_49 rfl rfl rfl
  replace R := R.aload C (pc' := 53) at_51 rfl rfl rfl
  replace R := R.iconst C (pc' := 54) at_53 (v := (0 : Int32)) rfl rfl
  replace R := R.iload C (pc' := 56) at_54 rfl rfl
  replace R := R.iload C (pc' := 58) at_56 rfl rfl
  replace R := R.irem C (pc' := 59) at_58 (own_nz hM0 hMb) rfl
  rw [own_mrem hb_ hMb hM0] at R
  obtain ⟨d0, e_d0⟩ : ∃ z, z = b % M := ⟨_, rfl⟩
  rw [← e_d0] at R
  have hd0 : d0 < own_m r := by rw [e_d0, ← e_M]; exact Nat.mod_lt _ hM0
  obtain ⟨hd_0, R', WD0⟩ := R.iastore C AD (i := 0) rfl (by decide) gg_D (pc' := 60) at_59 rfl
  replace R := R'
  clear R'
  replace AD := AD.set WD0
  replace R := R.aload C (pc' := 62) at_60 rfl rfl rfl
  replace R := R.iconst C (pc' := 63) at_62 (v := (1 : Int32)) rfl rfl
  replace R := R.iload C (pc' := 65) at_63 rfl rfl
  replace R := R.iload C (pc' := 67) at_65 rfl rfl
  replace R := R.idiv C (pc' := 68) at_67 (own_nz hM0 hMb) rfl
  rw [own_mdiv hb_ hMb hM0] at R
  replace R := R.iload C (pc' := 70) at_68 rfl rfl
  replace R := R.irem C (pc' := 71) at_70 (own_nz hM0 hMb) rfl
  rw [own_mrem hbM hMb hM0] at R
  obtain ⟨d1, e_d1⟩ : ∃ z, z = b / M % M := ⟨_, rfl⟩
  rw [← e_d1] at R
  have hd1 : d1 < own_m r := by rw [e_d1, ← e_M]; exact Nat.mod_lt _ hM0
  obtain ⟨hd_1, R', WD1⟩ := R.iastore C AD (i := 1) rfl (by decide) gg_D (pc' := 72) at_71 rfl
  replace R := R'
  clear R'
  replace AD := AD.set WD1
  replace R := R.aload C (pc' := 74) at_72 rfl rfl rfl
  replace R := R.iconst C (pc' := 75) at_74 (v := (2 : Int32)) rfl rfl
  replace R := R.iload C (pc' := 77) at_75 rfl rfl
  replace R := R.iload C (pc' := 79) at_77 rfl rfl
  replace R := R.iload C (pc' := 81) at_79 rfl rfl
  replace R := R.imul C (pc' := 82) at_81 rfl
  rw [own_mmul] at R
  replace R := R.idiv C (pc' := 83) at_82 (own_nz hMP hMMb) rfl
  rw [own_mdiv hb_ hMMb hMP] at R
  replace R := R.iload C (pc' := 85) at_83 rfl rfl
  replace R := R.irem C (pc' := 86) at_85 (own_nz hM0 hMb) rfl
  rw [own_mrem hbMM hMb hM0] at R
  obtain ⟨d2, e_d2⟩ : ∃ z, z = b / (M * M) % M := ⟨_, rfl⟩
  rw [← e_d2] at R
  have hd2 : d2 < own_m r := by rw [e_d2, ← e_M]; exact Nat.mod_lt _ hM0
  obtain ⟨hd_2, R', WD2⟩ := R.iastore C AD (i := 2) rfl (by decide) gg_D (pc' := 87) at_86 rfl
  replace R := R'
  clear R'
  replace AD := AD.set WD2
  replace AD : Ary Z hd_2 D .int 3 (Nf (own_tri d0 d1 d2)) := AD.of fun i hi => by
    match i, hi with
    | 0, _ => rfl
    | 1, _ => rfl
    | 2, _ => rfl
  replace R := R.bipush C (pc' := 89) at_87 (v := (6 : Int32)) rfl rfl
  have gs_PP := R.size
  obtain ⟨hP, R', EP, AP, XP, OP⟩ := R.newRA C (ty := .int) (K := "[I") (N := 6) (cap := 6) (ad := "[[I") (by decide) (C.w 2 rfl) (C.w 3 rfl) rfl (by decide) (by decide) (by decide) at_89 (by decide) (by decide) (pc' := 92) rfl
  replace R := R'
  clear R'
  obtain ⟨PP, g_PP⟩ : ∃ z, z = hd_2.size := ⟨_, rfl⟩
  rw [← g_PP] at R AP XP OP
  have gg_PP : n0 ≤ PP := by rw [g_PP]; exact gs_PP
  have ne_D_PP : D ≠ PP := by rw [g_PP]; exact Nat.ne_of_lt AD.lt
  replace AD := AD.ext EP
  replace R := R.dup C (pc' := 93) at_92 rfl rfl
  replace R := R.iconst C (pc' := 94) at_93 (v := (0 : Int32)) rfl rfl
  replace R := R.iconst C (pc' := 95) at_94 (v := (3 : Int32)) rfl rfl
  have K := Keep.refl hP []
  have gs_P0 := R.size
  obtain ⟨hN0, R', EN0, B0, YN0⟩ := R.newA C (N := 3) (cap := 3) (ad := "[I") (C.w 1 rfl) rfl (by decide) (by decide) (by decide) at_95 (by decide) (by decide) (pc' := 97) rfl
  replace R := R'
  clear R'
  obtain ⟨P0, g_P0⟩ : ∃ z, z = hP.size := ⟨_, rfl⟩
  rw [← g_P0] at R B0 YN0
  have gg_P0 : n0 ≤ P0 := by rw [g_P0]; exact gs_P0
  replace K := K.ext EN0
  have z_P0 : hP.size ≤ P0 := Nat.le_of_eq g_P0.symm
  have ne_PP_P0 : PP ≠ P0 := by rw [g_P0]; exact Nat.ne_of_lt AP.lt
  replace R := R.dup C (pc' := 98) at_97 rfl rfl
  replace R := R.iconst C (pc' := 99) at_98 (v := (0 : Int32)) rfl rfl
  replace R := R.iconst C (pc' := 100) at_99 (v := (0 : Int32)) rfl rfl
  obtain ⟨hn0_0, R', WN0_0⟩ := R.iastore C B0 (i := 0) rfl (by decide) gg_P0 (pc' := 101) at_100 rfl
  replace R := R'
  clear R'
  replace B0 := B0.set WN0_0
  replace YN0 := YN0.wr WN0_0
  replace K := K.wr WN0_0 (Or.inr z_P0)
  replace R := R.dup C (pc' := 102) at_101 rfl rfl
  replace R := R.iconst C (pc' := 103) at_102 (v := (1 : Int32)) rfl rfl
  replace R := R.iconst C (pc' := 104) at_103 (v := (1 : Int32)) rfl rfl
  obtain ⟨hn0_1, R', WN0_1⟩ := R.iastore C B0 (i := 1) rfl (by decide) gg_P0 (pc' := 105) at_104 rfl
  replace R := R'
  clear R'
  replace B0 := B0.set WN0_1
  replace YN0 := YN0.wr WN0_1
  replace K := K.wr WN0_1 (Or.inr z_P0)
  replace R := R.dup C (pc' := 106) at_105 rfl rfl
  replace R := R.iconst C (pc' := 107) at_106 (v := (2 : Int32)) rfl rfl
  replace R := R.iconst C (pc' := 108) at_107 (v := (2 : Int32)) rfl rfl
  obtain ⟨hn0_2, R', WN0_2⟩ := R.iastore C B0 (i := 2) rfl (by decide) gg_P0 (pc' := 109) at_108 rfl
  replace R := R'
  clear R'
  replace B0 := B0.set WN0_2
  replace YN0 := YN0.wr WN0_2
  replace K := K.wr WN0_2 (Or.inr z_P0)
  replace B0 : Ary Z hn0_2 P0 .int 3 (Nf (own_tri 0 1 2)) := B0.of fun i hi => by
    match i, hi with
    | 0, _ => rfl
    | 1, _ => rfl
    | 2, _ => rfl
  replace AD := AD.keep K nin0
  replace AP := AP.keep K nin0
  replace OP := OrrA_keep OP K
  clear K
  obtain ⟨hs0, R', WS0⟩ := R.aastore C AP rfl (OP.sto AP (Ins.self YN0)) (i := 0) rfl (by decide) gg_PP (pc' := 110) at_109 rfl
  replace R := R'
  clear R'
  replace AP := AP.set WS0
  replace OP := OP.wr WS0
  replace AD := AD.other WS0 ne_D_PP
  replace B0 := B0.other WS0 (Ne.symm ne_PP_P0)
  replace R := R.dup C (pc' := 111) at_110 rfl rfl
  replace R := R.iconst C (pc' := 112) at_111 (v := (1 : Int32)) rfl rfl
  replace R := R.iconst C (pc' := 113) at_112 (v := (3 : Int32)) rfl rfl
  have K := Keep.refl hs0 []
  have gs_P1 := R.size
  obtain ⟨hN1, R', EN1, B1, YN1⟩ := R.newA C (N := 3) (cap := 3) (ad := "[I") (C.w 1 rfl) rfl (by decide) (by decide) (by decide) at_113 (by decide) (by decide) (pc' := 115) rfl
  replace R := R'
  clear R'
  obtain ⟨P1, g_P1⟩ : ∃ z, z = hs0.size := ⟨_, rfl⟩
  rw [← g_P1] at R B1 YN1
  have gg_P1 : n0 ≤ P1 := by rw [g_P1]; exact gs_P1
  replace K := K.ext EN1
  have z_P1 : hs0.size ≤ P1 := Nat.le_of_eq g_P1.symm
  have ne_PP_P1 : PP ≠ P1 := by rw [g_P1]; exact Nat.ne_of_lt AP.lt
  replace R := R.dup C (pc' := 116) at_115 rfl rfl
  replace R := R.iconst C (pc' := 117) at_116 (v := (0 : Int32)) rfl rfl
  replace R := R.iconst C (pc' := 118) at_117 (v := (0 : Int32)) rfl rfl
  obtain ⟨hn1_0, R', WN1_0⟩ := R.iastore C B1 (i := 0) rfl (by decide) gg_P1 (pc' := 119) at_118 rfl
  replace R := R'
  clear R'
  replace B1 := B1.set WN1_0
  replace YN1 := YN1.wr WN1_0
  replace K := K.wr WN1_0 (Or.inr z_P1)
  replace R := R.dup C (pc' := 120) at_119 rfl rfl
  replace R := R.iconst C (pc' := 121) at_120 (v := (1 : Int32)) rfl rfl
  replace R := R.iconst C (pc' := 122) at_121 (v := (2 : Int32)) rfl rfl
  obtain ⟨hn1_1, R', WN1_1⟩ := R.iastore C B1 (i := 1) rfl (by decide) gg_P1 (pc' := 123) at_122 rfl
  replace R := R'
  clear R'
  replace B1 := B1.set WN1_1
  replace YN1 := YN1.wr WN1_1
  replace K := K.wr WN1_1 (Or.inr z_P1)
  replace R := R.dup C (pc' := 124) at_123 rfl rfl
  replace R := R.iconst C (pc' := 125) at_124 (v := (2 : Int32)) rfl rfl
  replace R := R.iconst C (pc' := 126) at_125 (v := (1 : Int32)) rfl rfl
  obtain ⟨hn1_2, R', WN1_2⟩ := R.iastore C B1 (i := 2) rfl (by decide) gg_P1 (pc' := 127) at_126 rfl
  replace R := R'
  clear R'
  replace B1 := B1.set WN1_2
  replace YN1 := YN1.wr WN1_2
  replace K := K.wr WN1_2 (Or.inr z_P1)
  replace B1 : Ary Z hn1_2 P1 .int 3 (Nf (own_tri 0 2 1)) := B1.of fun i hi => by
    match i, hi with
    | 0, _ => rfl
    | 1, _ => rfl
    | 2, _ => rfl
  replace AD := AD.keep K nin0
  replace AP := AP.keep K nin0
  replace B0 := B0.keep K nin0
  replace OP := OrrA_keep OP K
  clear K
  obtain ⟨hs1, R', WS1⟩ := R.aastore C AP rfl (OP.sto AP (Ins.self YN1)) (i := 1) rfl (by decide) gg_PP (pc' := 128) at_127 rfl
  replace R := R'
  clear R'
  replace AP := AP.set WS1
  replace OP := OP.wr WS1
  replace AD := AD.other WS1 ne_D_PP
  replace B0 := B0.other WS1 (Ne.symm ne_PP_P0)
  replace B1 := B1.other WS1 (Ne.symm ne_PP_P1)
  replace R := R.dup C (pc' := 129) at_128 rfl rfl
  replace R := R.iconst C (pc' := 130) at_129 (v := (2 : Int32)) rfl rfl
  replace R := R.iconst C (pc' := 131) at_130 (v := (3 : Int32)) rfl rfl
  have K := Keep.refl hs1 []
  have gs_P2 := R.size
  obtain ⟨hN2, R', EN2, B2, YN2⟩ := R.newA C (N := 3) (cap := 3) (ad := "[I") (C.w 1 rfl) rfl (by decide) (by decide) (by decide) at_131 (by decide) (by decide) (pc' := 133) rfl
  replace R := R'
  clear R'
  obtain ⟨P2, g_P2⟩ : ∃ z, z = hs1.size := ⟨_, rfl⟩
  rw [← g_P2] at R B2 YN2
  have gg_P2 : n0 ≤ P2 := by rw [g_P2]; exact gs_P2
  replace K := K.ext EN2
  have z_P2 : hs1.size ≤ P2 := Nat.le_of_eq g_P2.symm
  have ne_PP_P2 : PP ≠ P2 := by rw [g_P2]; exact Nat.ne_of_lt AP.lt
  replace R := R.dup C (pc' := 134) at_133 rfl rfl
  replace R := R.iconst C (pc' := 135) at_134 (v := (0 : Int32)) rfl rfl
  replace R := R.iconst C (pc' := 136) at_135 (v := (1 : Int32)) rfl rfl
  obtain ⟨hn2_0, R', WN2_0⟩ := R.iastore C B2 (i := 0) rfl (by decide) gg_P2 (pc' := 137) at_136 rfl
  replace R := R'
  clear R'
  replace B2 := B2.set WN2_0
  replace YN2 := YN2.wr WN2_0
  replace K := K.wr WN2_0 (Or.inr z_P2)
  replace R := R.dup C (pc' := 138) at_137 rfl rfl
  replace R := R.iconst C (pc' := 139) at_138 (v := (1 : Int32)) rfl rfl
  replace R := R.iconst C (pc' := 140) at_139 (v := (0 : Int32)) rfl rfl
  obtain ⟨hn2_1, R', WN2_1⟩ := R.iastore C B2 (i := 1) rfl (by decide) gg_P2 (pc' := 141) at_140 rfl
  replace R := R'
  clear R'
  replace B2 := B2.set WN2_1
  replace YN2 := YN2.wr WN2_1
  replace K := K.wr WN2_1 (Or.inr z_P2)
  replace R := R.dup C (pc' := 142) at_141 rfl rfl
  replace R := R.iconst C (pc' := 143) at_142 (v := (2 : Int32)) rfl rfl
  replace R := R.iconst C (pc' := 144) at_143 (v := (2 : Int32)) rfl rfl
  obtain ⟨hn2_2, R', WN2_2⟩ := R.iastore C B2 (i := 2) rfl (by decide) gg_P2 (pc' := 145) at_144 rfl
  replace R := R'
  clear R'
  replace B2 := B2.set WN2_2
  replace YN2 := YN2.wr WN2_2
  replace K := K.wr WN2_2 (Or.inr z_P2)
  replace B2 : Ary Z hn2_2 P2 .int 3 (Nf (own_tri 1 0 2)) := B2.of fun i hi => by
    match i, hi with
    | 0, _ => rfl
    | 1, _ => rfl
    | 2, _ => rfl
  replace AD := AD.keep K nin0
  replace AP := AP.keep K nin0
  replace B0 := B0.keep K nin0
  replace B1 := B1.keep K nin0
  replace OP := OrrA_keep OP K
  clear K
  obtain ⟨hs2, R', WS2⟩ := R.aastore C AP rfl (OP.sto AP (Ins.self YN2)) (i := 2) rfl (by decide) gg_PP (pc' := 146) at_145 rfl
  replace R := R'
  clear R'
  replace AP := AP.set WS2
  replace OP := OP.wr WS2
  replace AD := AD.other WS2 ne_D_PP
  replace B0 := B0.other WS2 (Ne.symm ne_PP_P0)
  replace B1 := B1.other WS2 (Ne.symm ne_PP_P1)
  replace B2 := B2.other WS2 (Ne.symm ne_PP_P2)
  replace R := R.dup C (pc' := 147) at_146 rfl rfl
  replace R := R.iconst C (pc' := 148) at_147 (v := (3 : Int32)) rfl rfl
  replace R := R.iconst C (pc' := 149) at_148 (v := (3 : Int32)) rfl rfl
  have K := Keep.refl hs2 []
  have gs_P3 := R.size
  obtain ⟨hN3, R', EN3, B3, YN3⟩ := R.newA C (N := 3) (cap := 3) (ad := "[I") (C.w 1 rfl) rfl (by decide) (by decide) (by decide) at_149 (by decide) (by decide) (pc' := 151) rfl
  replace R := R'
  clear R'
  obtain ⟨P3, g_P3⟩ : ∃ z, z = hs2.size := ⟨_, rfl⟩
  rw [← g_P3] at R B3 YN3
  have gg_P3 : n0 ≤ P3 := by rw [g_P3]; exact gs_P3
  replace K := K.ext EN3
  have z_P3 : hs2.size ≤ P3 := Nat.le_of_eq g_P3.symm
  have ne_PP_P3 : PP ≠ P3 := by rw [g_P3]; exact Nat.ne_of_lt AP.lt
  replace R := R.dup C (pc' := 152) at_151 rfl rfl
  replace R := R.iconst C (pc' := 153) at_152 (v := (0 : Int32)) rfl rfl
  replace R := R.iconst C (pc' := 154) at_153 (v := (1 : Int32)) rfl rfl
  obtain ⟨hn3_0, R', WN3_0⟩ := R.iastore C B3 (i := 0) rfl (by decide) gg_P3 (pc' := 155) at_154 rfl
  replace R := R'
  clear R'
  replace B3 := B3.set WN3_0
  replace YN3 := YN3.wr WN3_0
  replace K := K.wr WN3_0 (Or.inr z_P3)
  replace R := R.dup C (pc' := 156) at_155 rfl rfl
  replace R := R.iconst C (pc' := 157) at_156 (v := (1 : Int32)) rfl rfl
  replace R := R.iconst C (pc' := 158) at_157 (v := (2 : Int32)) rfl rfl
  obtain ⟨hn3_1, R', WN3_1⟩ := R.iastore C B3 (i := 1) rfl (by decide) gg_P3 (pc' := 159) at_158 rfl
  replace R := R'
  clear R'
  replace B3 := B3.set WN3_1
  replace YN3 := YN3.wr WN3_1
  replace K := K.wr WN3_1 (Or.inr z_P3)
  replace R := R.dup C (pc' := 160) at_159 rfl rfl
  replace R := R.iconst C (pc' := 161) at_160 (v := (2 : Int32)) rfl rfl
  replace R := R.iconst C (pc' := 162) at_161 (v := (0 : Int32)) rfl rfl
  obtain ⟨hn3_2, R', WN3_2⟩ := R.iastore C B3 (i := 2) rfl (by decide) gg_P3 (pc' := 163) at_162 rfl
  replace R := R'
  clear R'
  replace B3 := B3.set WN3_2
  replace YN3 := YN3.wr WN3_2
  replace K := K.wr WN3_2 (Or.inr z_P3)
  replace B3 : Ary Z hn3_2 P3 .int 3 (Nf (own_tri 1 2 0)) := B3.of fun i hi => by
    match i, hi with
    | 0, _ => rfl
    | 1, _ => rfl
    | 2, _ => rfl
  replace AD := AD.keep K nin0
  replace AP := AP.keep K nin0
  replace B0 := B0.keep K nin0
  replace B1 := B1.keep K nin0
  replace B2 := B2.keep K nin0
  replace OP := OrrA_keep OP K
  clear K
  obtain ⟨hs3, R', WS3⟩ := R.aastore C AP rfl (OP.sto AP (Ins.self YN3)) (i := 3) rfl (by decide) gg_PP (pc' := 164) at_163 rfl
  replace R := R'
  clear R'
  replace AP := AP.set WS3
  replace OP := OP.wr WS3
  replace AD := AD.other WS3 ne_D_PP
  replace B0 := B0.other WS3 (Ne.symm ne_PP_P0)
  replace B1 := B1.other WS3 (Ne.symm ne_PP_P1)
  replace B2 := B2.other WS3 (Ne.symm ne_PP_P2)
  replace B3 := B3.other WS3 (Ne.symm ne_PP_P3)
  replace R := R.dup C (pc' := 165) at_164 rfl rfl
  replace R := R.iconst C (pc' := 166) at_165 (v := (4 : Int32)) rfl rfl
  replace R := R.iconst C (pc' := 167) at_166 (v := (3 : Int32)) rfl rfl
  have K := Keep.refl hs3 []
  have gs_P4 := R.size
  obtain ⟨hN4, R', EN4, B4, YN4⟩ := R.newA C (N := 3) (cap := 3) (ad := "[I") (C.w 1 rfl) rfl (by decide) (by decide) (by decide) at_167 (by decide) (by decide) (pc' := 169) rfl
  replace R := R'
  clear R'
  obtain ⟨P4, g_P4⟩ : ∃ z, z = hs3.size := ⟨_, rfl⟩
  rw [← g_P4] at R B4 YN4
  have gg_P4 : n0 ≤ P4 := by rw [g_P4]; exact gs_P4
  replace K := K.ext EN4
  have z_P4 : hs3.size ≤ P4 := Nat.le_of_eq g_P4.symm
  have ne_PP_P4 : PP ≠ P4 := by rw [g_P4]; exact Nat.ne_of_lt AP.lt
  replace R := R.dup C (pc' := 170) at_169 rfl rfl
  replace R := R.iconst C (pc' := 171) at_170 (v := (0 : Int32)) rfl rfl
  replace R := R.iconst C (pc' := 172) at_171 (v := (2 : Int32)) rfl rfl
  obtain ⟨hn4_0, R', WN4_0⟩ := R.iastore C B4 (i := 0) rfl (by decide) gg_P4 (pc' := 173) at_172 rfl
  replace R := R'
  clear R'
  replace B4 := B4.set WN4_0
  replace YN4 := YN4.wr WN4_0
  replace K := K.wr WN4_0 (Or.inr z_P4)
  replace R := R.dup C (pc' := 174) at_173 rfl rfl
  replace R := R.iconst C (pc' := 175) at_174 (v := (1 : Int32)) rfl rfl
  replace R := R.iconst C (pc' := 176) at_175 (v := (0 : Int32)) rfl rfl
  obtain ⟨hn4_1, R', WN4_1⟩ := R.iastore C B4 (i := 1) rfl (by decide) gg_P4 (pc' := 177) at_176 rfl
  replace R := R'
  clear R'
  replace B4 := B4.set WN4_1
  replace YN4 := YN4.wr WN4_1
  replace K := K.wr WN4_1 (Or.inr z_P4)
  replace R := R.dup C (pc' := 178) at_177 rfl rfl
  replace R := R.iconst C (pc' := 179) at_178 (v := (2 : Int32)) rfl rfl
  replace R := R.iconst C (pc' := 180) at_179 (v := (1 : Int32)) rfl rfl
  obtain ⟨hn4_2, R', WN4_2⟩ := R.iastore C B4 (i := 2) rfl (by decide) gg_P4 (pc' := 181) at_180 rfl
  replace R := R'
  clear R'
  replace B4 := B4.set WN4_2
  replace YN4 := YN4.wr WN4_2
  replace K := K.wr WN4_2 (Or.inr z_P4)
  replace B4 : Ary Z hn4_2 P4 .int 3 (Nf (own_tri 2 0 1)) := B4.of fun i hi => by
    match i, hi with
    | 0, _ => rfl
    | 1, _ => rfl
    | 2, _ => rfl
  replace AD := AD.keep K nin0
  replace AP := AP.keep K nin0
  replace B0 := B0.keep K nin0
  replace B1 := B1.keep K nin0
  replace B2 := B2.keep K nin0
  replace B3 := B3.keep K nin0
  replace OP := OrrA_keep OP K
  clear K
  obtain ⟨hs4, R', WS4⟩ := R.aastore C AP rfl (OP.sto AP (Ins.self YN4)) (i := 4) rfl (by decide) gg_PP (pc' := 182) at_181 rfl
  replace R := R'
  clear R'
  replace AP := AP.set WS4
  replace OP := OP.wr WS4
  replace AD := AD.other WS4 ne_D_PP
  replace B0 := B0.other WS4 (Ne.symm ne_PP_P0)
  replace B1 := B1.other WS4 (Ne.symm ne_PP_P1)
  replace B2 := B2.other WS4 (Ne.symm ne_PP_P2)
  replace B3 := B3.other WS4 (Ne.symm ne_PP_P3)
  replace B4 := B4.other WS4 (Ne.symm ne_PP_P4)
  replace R := R.dup C (pc' := 183) at_182 rfl rfl
  replace R := R.iconst C (pc' := 184) at_183 (v := (5 : Int32)) rfl rfl
  replace R := R.iconst C (pc' := 185) at_184 (v := (3 : Int32)) rfl rfl
  have K := Keep.refl hs4 []
  have gs_P5 := R.size
  obtain ⟨hN5, R', EN5, B5, YN5⟩ := R.newA C (N := 3) (cap := 3) (ad := "[I") (C.w 1 rfl) rfl (by decide) (by decide) (by decide) at_185 (by decide) (by decide) (pc' := 187) rfl
  replace R := R'
  clear R'
  obtain ⟨P5, g_P5⟩ : ∃ z, z = hs4.size := ⟨_, rfl⟩
  rw [← g_P5] at R B5 YN5
  have gg_P5 : n0 ≤ P5 := by rw [g_P5]; exact gs_P5
  replace K := K.ext EN5
  have z_P5 : hs4.size ≤ P5 := Nat.le_of_eq g_P5.symm
  have ne_PP_P5 : PP ≠ P5 := by rw [g_P5]; exact Nat.ne_of_lt AP.lt
  replace R := R.dup C (pc' := 188) at_187 rfl rfl
  replace R := R.iconst C (pc' := 189) at_188 (v := (0 : Int32)) rfl rfl
  replace R := R.iconst C (pc' := 190) at_189 (v := (2 : Int32)) rfl rfl
  obtain ⟨hn5_0, R', WN5_0⟩ := R.iastore C B5 (i := 0) rfl (by decide) gg_P5 (pc' := 191) at_190 rfl
  replace R := R'
  clear R'
  replace B5 := B5.set WN5_0
  replace YN5 := YN5.wr WN5_0
  replace K := K.wr WN5_0 (Or.inr z_P5)
  replace R := R.dup C (pc' := 192) at_191 rfl rfl
  replace R := R.iconst C (pc' := 193) at_192 (v := (1 : Int32)) rfl rfl
  replace R := R.iconst C (pc' := 194) at_193 (v := (1 : Int32)) rfl rfl
  obtain ⟨hn5_1, R', WN5_1⟩ := R.iastore C B5 (i := 1) rfl (by decide) gg_P5 (pc' := 195) at_194 rfl
  replace R := R'
  clear R'
  replace B5 := B5.set WN5_1
  replace YN5 := YN5.wr WN5_1
  replace K := K.wr WN5_1 (Or.inr z_P5)
  replace R := R.dup C (pc' := 196) at_195 rfl rfl
  replace R := R.iconst C (pc' := 197) at_196 (v := (2 : Int32)) rfl rfl
  replace R := R.iconst C (pc' := 198) at_197 (v := (0 : Int32)) rfl rfl
  obtain ⟨hn5_2, R', WN5_2⟩ := R.iastore C B5 (i := 2) rfl (by decide) gg_P5 (pc' := 199) at_198 rfl
  replace R := R'
  clear R'
  replace B5 := B5.set WN5_2
  replace YN5 := YN5.wr WN5_2
  replace K := K.wr WN5_2 (Or.inr z_P5)
  replace B5 : Ary Z hn5_2 P5 .int 3 (Nf (own_tri 2 1 0)) := B5.of fun i hi => by
    match i, hi with
    | 0, _ => rfl
    | 1, _ => rfl
    | 2, _ => rfl
  replace AD := AD.keep K nin0
  replace AP := AP.keep K nin0
  replace B0 := B0.keep K nin0
  replace B1 := B1.keep K nin0
  replace B2 := B2.keep K nin0
  replace B3 := B3.keep K nin0
  replace B4 := B4.keep K nin0
  replace OP := OrrA_keep OP K
  clear K
  obtain ⟨hs5, R', WS5⟩ := R.aastore C AP rfl (OP.sto AP (Ins.self YN5)) (i := 5) rfl (by decide) gg_PP (pc' := 200) at_199 rfl
  replace R := R'
  clear R'
  replace AP := AP.set WS5
  replace OP := OP.wr WS5
  replace AD := AD.other WS5 ne_D_PP
  replace B0 := B0.other WS5 (Ne.symm ne_PP_P0)
  replace B1 := B1.other WS5 (Ne.symm ne_PP_P1)
  replace B2 := B2.other WS5 (Ne.symm ne_PP_P2)
  replace B3 := B3.other WS5 (Ne.symm ne_PP_P3)
  replace B4 := B4.other WS5 (Ne.symm ne_PP_P4)
  replace B5 := B5.other WS5 (Ne.symm ne_PP_P5)
  replace R := R.astore C (Ls' := #[.val (.int x0), .val (.int x1), .val (.int x2), .val (.int x3), .val (.int x4), .val (.int r.toInt32), .val (.int fs.toInt32), .val (.int ts.toInt32), .val (.int M.toInt32), .val (.int b.toInt32), .val (.ref D), .val (.ref PP), .unset, .unset, .unset, .unset, .unset, .unset, .unset, .unset, .unset, .unset, .unset]) (pc' := 202) at_200 rfl rfl rfl
  replace R := R.iconst C (pc' := 203) at_202 (v := (3 : Int32)) rfl rfl
  have gs_A := R.size
  obtain ⟨hA, R', EA, AA, YA⟩ := R.newA C (N := 3) (cap := 3) (ad := "[I") (C.w 1 rfl) rfl (by decide) (by decide) (by decide) at_203 (by decide) (by decide) (pc' := 205) rfl
  replace R := R'
  clear R'
  obtain ⟨A, g_A⟩ : ∃ z, z = hs5.size := ⟨_, rfl⟩
  rw [← g_A] at R AA YA
  have gg_A : n0 ≤ A := by rw [g_A]; exact gs_A
  have ne_D_A : D ≠ A := by rw [g_A]; exact Nat.ne_of_lt AD.lt
  replace AD := AD.ext EA
  have ne_PP_A : PP ≠ A := by rw [g_A]; exact Nat.ne_of_lt AP.lt
  replace AP := AP.ext EA
  have ne_P0_A : P0 ≠ A := by rw [g_A]; exact Nat.ne_of_lt B0.lt
  replace B0 := B0.ext EA
  have ne_P1_A : P1 ≠ A := by rw [g_A]; exact Nat.ne_of_lt B1.lt
  replace B1 := B1.ext EA
  have ne_P2_A : P2 ≠ A := by rw [g_A]; exact Nat.ne_of_lt B2.lt
  replace B2 := B2.ext EA
  have ne_P3_A : P3 ≠ A := by rw [g_A]; exact Nat.ne_of_lt B3.lt
  replace B3 := B3.ext EA
  have ne_P4_A : P4 ≠ A := by rw [g_A]; exact Nat.ne_of_lt B4.lt
  replace B4 := B4.ext EA
  have ne_P5_A : P5 ≠ A := by rw [g_A]; exact Nat.ne_of_lt B5.lt
  replace B5 := B5.ext EA
  replace R := R.astore C (Ls' := #[.val (.int x0), .val (.int x1), .val (.int x2), .val (.int x3), .val (.int x4), .val (.int r.toInt32), .val (.int fs.toInt32), .val (.int ts.toInt32), .val (.int M.toInt32), .val (.int b.toInt32), .val (.ref D), .val (.ref PP), .val (.ref A), .unset, .unset, .unset, .unset, .unset, .unset, .unset, .unset, .unset, .unset]) (pc' := 207) at_205 rfl rfl rfl
  replace R := R.more (k' := 9) (n' := 30) (by decide) (by decide)
  obtain rfl | rfl | rfl | rfl : r = 0 ∨ r = 1 ∨ r = 2 ∨ r = 3 := by omega
  · skip
    replace R := R.iload C (pc' := 209) at_207 rfl rfl
    replace R := R.iconst C (pc' := 210) at_209 (v := (3 : Int32)) rfl rfl
    replace R := R.icmpY C (pc' := 252) at_210 rfl rfl
    replace R := R.iload C (pc' := 254) at_252 rfl rfl
    replace R := R.iconst C (pc' := 255) at_254 (v := (2 : Int32)) rfl rfl
    replace R := R.icmpY C (pc' := 287) at_255 rfl rfl
    replace AA : Ary Z hA A .int 3 (Nf (own_axf 0 0)) := AA.of fun i hi => by
      match i, hi with
      | 0, _ => rfl
      | 1, _ => rfl
      | 2, _ => rfl
    exact own_stD0 hw C x0 x1 x2 x3 x4 M.toInt32 b.toInt32 D PP A fs ts d0 d1 d2 0 hfs hts hd0 hd1 hd2 (by decide) _ One.u AD AA R
  · skip
    replace R := R.iload C (pc' := 209) at_207 rfl rfl
    replace R := R.iconst C (pc' := 210) at_209 (v := (3 : Int32)) rfl rfl
    replace R := R.icmpY C (pc' := 252) at_210 rfl rfl
    replace R := R.iload C (pc' := 254) at_252 rfl rfl
    replace R := R.iconst C (pc' := 255) at_254 (v := (2 : Int32)) rfl rfl
    replace R := R.icmpY C (pc' := 287) at_255 rfl rfl
    replace AA : Ary Z hA A .int 3 (Nf (own_axf 1 0)) := AA.of fun i hi => by
      match i, hi with
      | 0, _ => rfl
      | 1, _ => rfl
      | 2, _ => rfl
    exact own_stD1 hw C x0 x1 x2 x3 x4 M.toInt32 b.toInt32 D PP A fs ts d0 d1 d2 0 hfs hts hd0 hd1 hd2 (by decide) _ One.u AD AA R
  · skip
    replace R := R.iload C (pc' := 209) at_207 rfl rfl
    replace R := R.iconst C (pc' := 210) at_209 (v := (3 : Int32)) rfl rfl
    replace R := R.icmpY C (pc' := 252) at_210 rfl rfl
    replace R := R.iload C (pc' := 254) at_252 rfl rfl
    replace R := R.iconst C (pc' := 255) at_254 (v := (2 : Int32)) rfl rfl
    replace R := R.icmpN C (pc' := 258) at_255 rfl rfl
    replace R := R.iloadN C (pc' := 259) at_258 rfl rfl
    replace R := R.iconst C (pc' := 260) at_259 (v := (1 : Int32)) rfl rfl
    replace R := R.iand C (pc' := 261) at_260 rfl
    obtain ⟨t, ht⟩ := own_bit (x2 &&& (1 : Int32))
    cases t with
    | false =>
      replace R := R.ifY C (pc' := 277) at_261 ht rfl
      replace R := R.aload C (pc' := 279) at_277 rfl rfl rfl
      replace R := R.iconst C (pc' := 280) at_279 (v := (0 : Int32)) rfl rfl
      replace R := R.iconst C (pc' := 281) at_280 (v := (0 : Int32)) rfl rfl
      obtain ⟨ha0, R', WA0⟩ := R.iastore C AA (i := 0) rfl (by decide) gg_A (pc' := 282) at_281 rfl
      replace R := R'
      clear R'
      replace AA := AA.set WA0
      replace AD := AD.other WA0 ne_D_A
      replace R := R.aload C (pc' := 284) at_282 rfl rfl rfl
      replace R := R.iconst C (pc' := 285) at_284 (v := (1 : Int32)) rfl rfl
      replace R := R.iconst C (pc' := 286) at_285 (v := (1 : Int32)) rfl rfl
      obtain ⟨ha1, R', WA1⟩ := R.iastore C AA (i := 1) rfl (by decide) gg_A (pc' := 287) at_286 rfl
      replace R := R'
      clear R'
      replace AA := AA.set WA1
      replace AD := AD.other WA1 ne_D_A
      replace AA : Ary Z ha1 A .int 3 (Nf (own_axf 2 0)) := AA.of fun i hi => by
        match i, hi with
        | 0, _ => rfl
        | 1, _ => rfl
        | 2, _ => rfl
      exact own_stD2 hw C x0 x1 x2 x3 x4 M.toInt32 b.toInt32 D PP A fs ts d0 d1 d2 0 hfs hts hd0 hd1 hd2 (by decide) _ One.u AD AA R
    | true =>
      replace R := R.ifN C (pc' := 264) at_261 ht rfl
      replace R := R.aload C (pc' := 266) at_264 rfl rfl rfl
      replace R := R.iconst C (pc' := 267) at_266 (v := (0 : Int32)) rfl rfl
      replace R := R.iconst C (pc' := 268) at_267 (v := (1 : Int32)) rfl rfl
      obtain ⟨ha0, R', WA0⟩ := R.iastore C AA (i := 0) rfl (by decide) gg_A (pc' := 269) at_268 rfl
      replace R := R'
      clear R'
      replace AA := AA.set WA0
      replace AD := AD.other WA0 ne_D_A
      replace R := R.aload C (pc' := 271) at_269 rfl rfl rfl
      replace R := R.iconst C (pc' := 272) at_271 (v := (1 : Int32)) rfl rfl
      replace R := R.iconst C (pc' := 273) at_272 (v := (0 : Int32)) rfl rfl
      obtain ⟨ha1, R', WA1⟩ := R.iastore C AA (i := 1) rfl (by decide) gg_A (pc' := 274) at_273 rfl
      replace R := R'
      clear R'
      replace AA := AA.set WA1
      replace AD := AD.other WA1 ne_D_A
      replace R := R.goto C (pc' := 287) at_274 rfl
      replace AA : Ary Z ha1 A .int 3 (Nf (own_axf 2 1)) := AA.of fun i hi => by
        match i, hi with
        | 0, _ => rfl
        | 1, _ => rfl
        | 2, _ => rfl
      exact own_stD2 hw C x0 x1 x2 x3 x4 M.toInt32 b.toInt32 D PP A fs ts d0 d1 d2 1 hfs hts hd0 hd1 hd2 (by decide) _ One.u AD AA R
  · skip
    replace R := R.iload C (pc' := 209) at_207 rfl rfl
    replace R := R.iconst C (pc' := 210) at_209 (v := (3 : Int32)) rfl rfl
    replace R := R.icmpN C (pc' := 213) at_210 rfl rfl
    replace R := R.aload C (pc' := 215) at_213 rfl rfl rfl
    replace R := R.iloadN C (pc' := 216) at_215 rfl rfl
    replace R := R.ldcI C (v := (2147483647 : Int32)) (C.w 0 rfl) (pc' := 218) at_216 rfl
    replace R := R.iand C (pc' := 219) at_218 rfl
    obtain ⟨pn, hpn, e_pn⟩ := own_andM x2
    rw [e_pn] at R
    replace R := R.bipush C (pc' := 221) at_219 (v := (6 : Int32)) rfl rfl
    replace R := R.irem C (pc' := 222) at_221 (by decide) rfl
    rw [show pn.toInt32 % (6 : Int32) = (pn % 6).toInt32 from own_mrem (b := 6) hpn (by decide) (by decide)] at R
    obtain ⟨pi, e_pi⟩ : ∃ z, z = pn % 6 := ⟨_, rfl⟩
    rw [← e_pi] at R
    have hpi : pi < 6 := by omega
    clear e_pi
    obtain rfl | rfl | rfl | rfl | rfl | rfl : pi = 0 ∨ pi = 1 ∨ pi = 2 ∨ pi = 3 ∨ pi = 4 ∨ pi = 5 := by omega
    · skip
      replace R := R.aaload C (v := (.ref P0)) AP rfl (i := 0) rfl (by decide) rfl (pc' := 223) at_222 rfl
      replace R := R.astore C (Ls' := #[.val (.int x0), .val (.int x1), .val (.int x2), .val (.int x3), .val (.int x4), .val (.int (Nat.toInt32 3)), .val (.int fs.toInt32), .val (.int ts.toInt32), .val (.int M.toInt32), .val (.int b.toInt32), .val (.ref D), .val (.ref PP), .val (.ref A), .val (.ref P0), .unset, .unset, .unset, .unset, .unset, .unset, .unset, .unset, .unset]) (pc' := 225) at_223 rfl rfl rfl
      replace R := R.aload C (pc' := 227) at_225 rfl rfl rfl
      replace R := R.iconst C (pc' := 228) at_227 (v := (0 : Int32)) rfl rfl
      replace R := R.aload C (pc' := 230) at_228 rfl rfl rfl
      replace R := R.iconst C (pc' := 231) at_230 (v := (0 : Int32)) rfl rfl
      replace R := R.iaload C (v := (.int (Nat.toInt32 0))) B0 (i := 0) rfl (by decide) rfl (pc' := 232) at_231 rfl
      obtain ⟨ha0, R', WA0⟩ := R.iastore C AA (i := 0) rfl (by decide) gg_A (pc' := 233) at_232 rfl
      replace R := R'
      clear R'
      replace AA := AA.set WA0
      replace AD := AD.other WA0 ne_D_A
      replace B0 := B0.other WA0 ne_P0_A
      replace R := R.aload C (pc' := 235) at_233 rfl rfl rfl
      replace R := R.iconst C (pc' := 236) at_235 (v := (1 : Int32)) rfl rfl
      replace R := R.aload C (pc' := 238) at_236 rfl rfl rfl
      replace R := R.iconst C (pc' := 239) at_238 (v := (1 : Int32)) rfl rfl
      replace R := R.iaload C (v := (.int (Nat.toInt32 1))) B0 (i := 1) rfl (by decide) rfl (pc' := 240) at_239 rfl
      obtain ⟨ha1, R', WA1⟩ := R.iastore C AA (i := 1) rfl (by decide) gg_A (pc' := 241) at_240 rfl
      replace R := R'
      clear R'
      replace AA := AA.set WA1
      replace AD := AD.other WA1 ne_D_A
      replace B0 := B0.other WA1 ne_P0_A
      replace R := R.aload C (pc' := 243) at_241 rfl rfl rfl
      replace R := R.iconst C (pc' := 244) at_243 (v := (2 : Int32)) rfl rfl
      replace R := R.aload C (pc' := 246) at_244 rfl rfl rfl
      replace R := R.iconst C (pc' := 247) at_246 (v := (2 : Int32)) rfl rfl
      replace R := R.iaload C (v := (.int (Nat.toInt32 2))) B0 (i := 2) rfl (by decide) rfl (pc' := 248) at_247 rfl
      obtain ⟨ha2, R', WA2⟩ := R.iastore C AA (i := 2) rfl (by decide) gg_A (pc' := 249) at_248 rfl
      replace R := R'
      clear R'
      replace AA := AA.set WA2
      replace AD := AD.other WA2 ne_D_A
      replace B0 := B0.other WA2 ne_P0_A
      replace R := R.goto C (pc' := 287) at_249 rfl
      replace AA : Ary Z ha2 A .int 3 (Nf (own_axf 3 0)) := AA.of fun i hi => by
        match i, hi with
        | 0, _ => rfl
        | 1, _ => rfl
        | 2, _ => rfl
      exact own_stD3 hw C x0 x1 x2 x3 x4 M.toInt32 b.toInt32 D PP A fs ts d0 d1 d2 0 hfs hts hd0 hd1 hd2 (by decide) _ (One.val rfl) AD AA R
    · skip
      replace R := R.aaload C (v := (.ref P1)) AP rfl (i := 1) rfl (by decide) rfl (pc' := 223) at_222 rfl
      replace R := R.astore C (Ls' := #[.val (.int x0), .val (.int x1), .val (.int x2), .val (.int x3), .val (.int x4), .val (.int (Nat.toInt32 3)), .val (.int fs.toInt32), .val (.int ts.toInt32), .val (.int M.toInt32), .val (.int b.toInt32), .val (.ref D), .val (.ref PP), .val (.ref A), .val (.ref P1), .unset, .unset, .unset, .unset, .unset, .unset, .unset, .unset, .unset]) (pc' := 225) at_223 rfl rfl rfl
      replace R := R.aload C (pc' := 227) at_225 rfl rfl rfl
      replace R := R.iconst C (pc' := 228) at_227 (v := (0 : Int32)) rfl rfl
      replace R := R.aload C (pc' := 230) at_228 rfl rfl rfl
      replace R := R.iconst C (pc' := 231) at_230 (v := (0 : Int32)) rfl rfl
      replace R := R.iaload C (v := (.int (Nat.toInt32 0))) B1 (i := 0) rfl (by decide) rfl (pc' := 232) at_231 rfl
      obtain ⟨ha0, R', WA0⟩ := R.iastore C AA (i := 0) rfl (by decide) gg_A (pc' := 233) at_232 rfl
      replace R := R'
      clear R'
      replace AA := AA.set WA0
      replace AD := AD.other WA0 ne_D_A
      replace B1 := B1.other WA0 ne_P1_A
      replace R := R.aload C (pc' := 235) at_233 rfl rfl rfl
      replace R := R.iconst C (pc' := 236) at_235 (v := (1 : Int32)) rfl rfl
      replace R := R.aload C (pc' := 238) at_236 rfl rfl rfl
      replace R := R.iconst C (pc' := 239) at_238 (v := (1 : Int32)) rfl rfl
      replace R := R.iaload C (v := (.int (Nat.toInt32 2))) B1 (i := 1) rfl (by decide) rfl (pc' := 240) at_239 rfl
      obtain ⟨ha1, R', WA1⟩ := R.iastore C AA (i := 1) rfl (by decide) gg_A (pc' := 241) at_240 rfl
      replace R := R'
      clear R'
      replace AA := AA.set WA1
      replace AD := AD.other WA1 ne_D_A
      replace B1 := B1.other WA1 ne_P1_A
      replace R := R.aload C (pc' := 243) at_241 rfl rfl rfl
      replace R := R.iconst C (pc' := 244) at_243 (v := (2 : Int32)) rfl rfl
      replace R := R.aload C (pc' := 246) at_244 rfl rfl rfl
      replace R := R.iconst C (pc' := 247) at_246 (v := (2 : Int32)) rfl rfl
      replace R := R.iaload C (v := (.int (Nat.toInt32 1))) B1 (i := 2) rfl (by decide) rfl (pc' := 248) at_247 rfl
      obtain ⟨ha2, R', WA2⟩ := R.iastore C AA (i := 2) rfl (by decide) gg_A (pc' := 249) at_248 rfl
      replace R := R'
      clear R'
      replace AA := AA.set WA2
      replace AD := AD.other WA2 ne_D_A
      replace B1 := B1.other WA2 ne_P1_A
      replace R := R.goto C (pc' := 287) at_249 rfl
      replace AA : Ary Z ha2 A .int 3 (Nf (own_axf 3 1)) := AA.of fun i hi => by
        match i, hi with
        | 0, _ => rfl
        | 1, _ => rfl
        | 2, _ => rfl
      exact own_stD3 hw C x0 x1 x2 x3 x4 M.toInt32 b.toInt32 D PP A fs ts d0 d1 d2 1 hfs hts hd0 hd1 hd2 (by decide) _ (One.val rfl) AD AA R
    · skip
      replace R := R.aaload C (v := (.ref P2)) AP rfl (i := 2) rfl (by decide) rfl (pc' := 223) at_222 rfl
      replace R := R.astore C (Ls' := #[.val (.int x0), .val (.int x1), .val (.int x2), .val (.int x3), .val (.int x4), .val (.int (Nat.toInt32 3)), .val (.int fs.toInt32), .val (.int ts.toInt32), .val (.int M.toInt32), .val (.int b.toInt32), .val (.ref D), .val (.ref PP), .val (.ref A), .val (.ref P2), .unset, .unset, .unset, .unset, .unset, .unset, .unset, .unset, .unset]) (pc' := 225) at_223 rfl rfl rfl
      replace R := R.aload C (pc' := 227) at_225 rfl rfl rfl
      replace R := R.iconst C (pc' := 228) at_227 (v := (0 : Int32)) rfl rfl
      replace R := R.aload C (pc' := 230) at_228 rfl rfl rfl
      replace R := R.iconst C (pc' := 231) at_230 (v := (0 : Int32)) rfl rfl
      replace R := R.iaload C (v := (.int (Nat.toInt32 1))) B2 (i := 0) rfl (by decide) rfl (pc' := 232) at_231 rfl
      obtain ⟨ha0, R', WA0⟩ := R.iastore C AA (i := 0) rfl (by decide) gg_A (pc' := 233) at_232 rfl
      replace R := R'
      clear R'
      replace AA := AA.set WA0
      replace AD := AD.other WA0 ne_D_A
      replace B2 := B2.other WA0 ne_P2_A
      replace R := R.aload C (pc' := 235) at_233 rfl rfl rfl
      replace R := R.iconst C (pc' := 236) at_235 (v := (1 : Int32)) rfl rfl
      replace R := R.aload C (pc' := 238) at_236 rfl rfl rfl
      replace R := R.iconst C (pc' := 239) at_238 (v := (1 : Int32)) rfl rfl
      replace R := R.iaload C (v := (.int (Nat.toInt32 0))) B2 (i := 1) rfl (by decide) rfl (pc' := 240) at_239 rfl
      obtain ⟨ha1, R', WA1⟩ := R.iastore C AA (i := 1) rfl (by decide) gg_A (pc' := 241) at_240 rfl
      replace R := R'
      clear R'
      replace AA := AA.set WA1
      replace AD := AD.other WA1 ne_D_A
      replace B2 := B2.other WA1 ne_P2_A
      replace R := R.aload C (pc' := 243) at_241 rfl rfl rfl
      replace R := R.iconst C (pc' := 244) at_243 (v := (2 : Int32)) rfl rfl
      replace R := R.aload C (pc' := 246) at_244 rfl rfl rfl
      replace R := R.iconst C (pc' := 247) at_246 (v := (2 : Int32)) rfl rfl
      replace R := R.iaload C (v := (.int (Nat.toInt32 2))) B2 (i := 2) rfl (by decide) rfl (pc' := 248) at_247 rfl
      obtain ⟨ha2, R', WA2⟩ := R.iastore C AA (i := 2) rfl (by decide) gg_A (pc' := 249) at_248 rfl
      replace R := R'
      clear R'
      replace AA := AA.set WA2
      replace AD := AD.other WA2 ne_D_A
      replace B2 := B2.other WA2 ne_P2_A
      replace R := R.goto C (pc' := 287) at_249 rfl
      replace AA : Ary Z ha2 A .int 3 (Nf (own_axf 3 2)) := AA.of fun i hi => by
        match i, hi with
        | 0, _ => rfl
        | 1, _ => rfl
        | 2, _ => rfl
      exact own_stD3 hw C x0 x1 x2 x3 x4 M.toInt32 b.toInt32 D PP A fs ts d0 d1 d2 2 hfs hts hd0 hd1 hd2 (by decide) _ (One.val rfl) AD AA R
    · skip
      replace R := R.aaload C (v := (.ref P3)) AP rfl (i := 3) rfl (by decide) rfl (pc' := 223) at_222 rfl
      replace R := R.astore C (Ls' := #[.val (.int x0), .val (.int x1), .val (.int x2), .val (.int x3), .val (.int x4), .val (.int (Nat.toInt32 3)), .val (.int fs.toInt32), .val (.int ts.toInt32), .val (.int M.toInt32), .val (.int b.toInt32), .val (.ref D), .val (.ref PP), .val (.ref A), .val (.ref P3), .unset, .unset, .unset, .unset, .unset, .unset, .unset, .unset, .unset]) (pc' := 225) at_223 rfl rfl rfl
      replace R := R.aload C (pc' := 227) at_225 rfl rfl rfl
      replace R := R.iconst C (pc' := 228) at_227 (v := (0 : Int32)) rfl rfl
      replace R := R.aload C (pc' := 230) at_228 rfl rfl rfl
      replace R := R.iconst C (pc' := 231) at_230 (v := (0 : Int32)) rfl rfl
      replace R := R.iaload C (v := (.int (Nat.toInt32 1))) B3 (i := 0) rfl (by decide) rfl (pc' := 232) at_231 rfl
      obtain ⟨ha0, R', WA0⟩ := R.iastore C AA (i := 0) rfl (by decide) gg_A (pc' := 233) at_232 rfl
      replace R := R'
      clear R'
      replace AA := AA.set WA0
      replace AD := AD.other WA0 ne_D_A
      replace B3 := B3.other WA0 ne_P3_A
      replace R := R.aload C (pc' := 235) at_233 rfl rfl rfl
      replace R := R.iconst C (pc' := 236) at_235 (v := (1 : Int32)) rfl rfl
      replace R := R.aload C (pc' := 238) at_236 rfl rfl rfl
      replace R := R.iconst C (pc' := 239) at_238 (v := (1 : Int32)) rfl rfl
      replace R := R.iaload C (v := (.int (Nat.toInt32 2))) B3 (i := 1) rfl (by decide) rfl (pc' := 240) at_239 rfl
      obtain ⟨ha1, R', WA1⟩ := R.iastore C AA (i := 1) rfl (by decide) gg_A (pc' := 241) at_240 rfl
      replace R := R'
      clear R'
      replace AA := AA.set WA1
      replace AD := AD.other WA1 ne_D_A
      replace B3 := B3.other WA1 ne_P3_A
      replace R := R.aload C (pc' := 243) at_241 rfl rfl rfl
      replace R := R.iconst C (pc' := 244) at_243 (v := (2 : Int32)) rfl rfl
      replace R := R.aload C (pc' := 246) at_244 rfl rfl rfl
      replace R := R.iconst C (pc' := 247) at_246 (v := (2 : Int32)) rfl rfl
      replace R := R.iaload C (v := (.int (Nat.toInt32 0))) B3 (i := 2) rfl (by decide) rfl (pc' := 248) at_247 rfl
      obtain ⟨ha2, R', WA2⟩ := R.iastore C AA (i := 2) rfl (by decide) gg_A (pc' := 249) at_248 rfl
      replace R := R'
      clear R'
      replace AA := AA.set WA2
      replace AD := AD.other WA2 ne_D_A
      replace B3 := B3.other WA2 ne_P3_A
      replace R := R.goto C (pc' := 287) at_249 rfl
      replace AA : Ary Z ha2 A .int 3 (Nf (own_axf 3 3)) := AA.of fun i hi => by
        match i, hi with
        | 0, _ => rfl
        | 1, _ => rfl
        | 2, _ => rfl
      exact own_stD3 hw C x0 x1 x2 x3 x4 M.toInt32 b.toInt32 D PP A fs ts d0 d1 d2 3 hfs hts hd0 hd1 hd2 (by decide) _ (One.val rfl) AD AA R
    · skip
      replace R := R.aaload C (v := (.ref P4)) AP rfl (i := 4) rfl (by decide) rfl (pc' := 223) at_222 rfl
      replace R := R.astore C (Ls' := #[.val (.int x0), .val (.int x1), .val (.int x2), .val (.int x3), .val (.int x4), .val (.int (Nat.toInt32 3)), .val (.int fs.toInt32), .val (.int ts.toInt32), .val (.int M.toInt32), .val (.int b.toInt32), .val (.ref D), .val (.ref PP), .val (.ref A), .val (.ref P4), .unset, .unset, .unset, .unset, .unset, .unset, .unset, .unset, .unset]) (pc' := 225) at_223 rfl rfl rfl
      replace R := R.aload C (pc' := 227) at_225 rfl rfl rfl
      replace R := R.iconst C (pc' := 228) at_227 (v := (0 : Int32)) rfl rfl
      replace R := R.aload C (pc' := 230) at_228 rfl rfl rfl
      replace R := R.iconst C (pc' := 231) at_230 (v := (0 : Int32)) rfl rfl
      replace R := R.iaload C (v := (.int (Nat.toInt32 2))) B4 (i := 0) rfl (by decide) rfl (pc' := 232) at_231 rfl
      obtain ⟨ha0, R', WA0⟩ := R.iastore C AA (i := 0) rfl (by decide) gg_A (pc' := 233) at_232 rfl
      replace R := R'
      clear R'
      replace AA := AA.set WA0
      replace AD := AD.other WA0 ne_D_A
      replace B4 := B4.other WA0 ne_P4_A
      replace R := R.aload C (pc' := 235) at_233 rfl rfl rfl
      replace R := R.iconst C (pc' := 236) at_235 (v := (1 : Int32)) rfl rfl
      replace R := R.aload C (pc' := 238) at_236 rfl rfl rfl
      replace R := R.iconst C (pc' := 239) at_238 (v := (1 : Int32)) rfl rfl
      replace R := R.iaload C (v := (.int (Nat.toInt32 0))) B4 (i := 1) rfl (by decide) rfl (pc' := 240) at_239 rfl
      obtain ⟨ha1, R', WA1⟩ := R.iastore C AA (i := 1) rfl (by decide) gg_A (pc' := 241) at_240 rfl
      replace R := R'
      clear R'
      replace AA := AA.set WA1
      replace AD := AD.other WA1 ne_D_A
      replace B4 := B4.other WA1 ne_P4_A
      replace R := R.aload C (pc' := 243) at_241 rfl rfl rfl
      replace R := R.iconst C (pc' := 244) at_243 (v := (2 : Int32)) rfl rfl
      replace R := R.aload C (pc' := 246) at_244 rfl rfl rfl
      replace R := R.iconst C (pc' := 247) at_246 (v := (2 : Int32)) rfl rfl
      replace R := R.iaload C (v := (.int (Nat.toInt32 1))) B4 (i := 2) rfl (by decide) rfl (pc' := 248) at_247 rfl
      obtain ⟨ha2, R', WA2⟩ := R.iastore C AA (i := 2) rfl (by decide) gg_A (pc' := 249) at_248 rfl
      replace R := R'
      clear R'
      replace AA := AA.set WA2
      replace AD := AD.other WA2 ne_D_A
      replace B4 := B4.other WA2 ne_P4_A
      replace R := R.goto C (pc' := 287) at_249 rfl
      replace AA : Ary Z ha2 A .int 3 (Nf (own_axf 3 4)) := AA.of fun i hi => by
        match i, hi with
        | 0, _ => rfl
        | 1, _ => rfl
        | 2, _ => rfl
      exact own_stD3 hw C x0 x1 x2 x3 x4 M.toInt32 b.toInt32 D PP A fs ts d0 d1 d2 4 hfs hts hd0 hd1 hd2 (by decide) _ (One.val rfl) AD AA R
    · skip
      replace R := R.aaload C (v := (.ref P5)) AP rfl (i := 5) rfl (by decide) rfl (pc' := 223) at_222 rfl
      replace R := R.astore C (Ls' := #[.val (.int x0), .val (.int x1), .val (.int x2), .val (.int x3), .val (.int x4), .val (.int (Nat.toInt32 3)), .val (.int fs.toInt32), .val (.int ts.toInt32), .val (.int M.toInt32), .val (.int b.toInt32), .val (.ref D), .val (.ref PP), .val (.ref A), .val (.ref P5), .unset, .unset, .unset, .unset, .unset, .unset, .unset, .unset, .unset]) (pc' := 225) at_223 rfl rfl rfl
      replace R := R.aload C (pc' := 227) at_225 rfl rfl rfl
      replace R := R.iconst C (pc' := 228) at_227 (v := (0 : Int32)) rfl rfl
      replace R := R.aload C (pc' := 230) at_228 rfl rfl rfl
      replace R := R.iconst C (pc' := 231) at_230 (v := (0 : Int32)) rfl rfl
      replace R := R.iaload C (v := (.int (Nat.toInt32 2))) B5 (i := 0) rfl (by decide) rfl (pc' := 232) at_231 rfl
      obtain ⟨ha0, R', WA0⟩ := R.iastore C AA (i := 0) rfl (by decide) gg_A (pc' := 233) at_232 rfl
      replace R := R'
      clear R'
      replace AA := AA.set WA0
      replace AD := AD.other WA0 ne_D_A
      replace B5 := B5.other WA0 ne_P5_A
      replace R := R.aload C (pc' := 235) at_233 rfl rfl rfl
      replace R := R.iconst C (pc' := 236) at_235 (v := (1 : Int32)) rfl rfl
      replace R := R.aload C (pc' := 238) at_236 rfl rfl rfl
      replace R := R.iconst C (pc' := 239) at_238 (v := (1 : Int32)) rfl rfl
      replace R := R.iaload C (v := (.int (Nat.toInt32 1))) B5 (i := 1) rfl (by decide) rfl (pc' := 240) at_239 rfl
      obtain ⟨ha1, R', WA1⟩ := R.iastore C AA (i := 1) rfl (by decide) gg_A (pc' := 241) at_240 rfl
      replace R := R'
      clear R'
      replace AA := AA.set WA1
      replace AD := AD.other WA1 ne_D_A
      replace B5 := B5.other WA1 ne_P5_A
      replace R := R.aload C (pc' := 243) at_241 rfl rfl rfl
      replace R := R.iconst C (pc' := 244) at_243 (v := (2 : Int32)) rfl rfl
      replace R := R.aload C (pc' := 246) at_244 rfl rfl rfl
      replace R := R.iconst C (pc' := 247) at_246 (v := (2 : Int32)) rfl rfl
      replace R := R.iaload C (v := (.int (Nat.toInt32 0))) B5 (i := 2) rfl (by decide) rfl (pc' := 248) at_247 rfl
      obtain ⟨ha2, R', WA2⟩ := R.iastore C AA (i := 2) rfl (by decide) gg_A (pc' := 249) at_248 rfl
      replace R := R'
      clear R'
      replace AA := AA.set WA2
      replace AD := AD.other WA2 ne_D_A
      replace B5 := B5.other WA2 ne_P5_A
      replace R := R.goto C (pc' := 287) at_249 rfl
      replace AA : Ary Z ha2 A .int 3 (Nf (own_axf 3 5)) := AA.of fun i hi => by
        match i, hi with
        | 0, _ => rfl
        | 1, _ => rfl
        | 2, _ => rfl
      exact own_stD3 hw C x0 x1 x2 x3 x4 M.toInt32 b.toInt32 D PP A fs ts d0 d1 d2 5 hfs hts hd0 hd1 hd2 (by decide) _ (One.val rfl) AD AA R
set_option maxRecDepth 65536 in
set_option maxHeartbeats 40000000 in
theorem comes_1 {Post : Tables → Env → Array Value → State → Outcome → State → Prop} (hpost : ∀ tb e args s v u, (limb_1_1.after args s (.returned v) u = true ∧ limb_1_2.after args s (.returned v) u = true ∧ True) → FrameEnd s (.returned v) u (Jvm.fieldLocs frame_1_writes args s ++ Jvm.arrayLocs frame_1_arrays args s ++ Jvm.staticLocs frame_1_statics s) 72 320 → Post tb e args s (.returned v) u) :
    ArmFor flags0 classFile x code maxLocals ret World_1 tables_1 room_1 Calls_1 rest_1 Pre_1 Post := by
  intro l hfl _ _ p e ha hc hk s m args below hf hA hF happ hP
  obtain ⟨hcalls, hrest, hpre⟩ := hP
  obtain ⟨-, -, -, hnamed, -, -, -, hat⟩ := (Spec.applies_iff hf).mp happ
  obtain ⟨hg, hn⟩ := and_e (Cond.before_iff.mp (show (Jvm.Cond.and given_1 narrow_1).before args s = true from hpre))
  obtain ⟨h1, q0⟩ := and_e hg
  obtain ⟨k0, q1⟩ := and_e q0
  obtain ⟨k1, q2⟩ := and_e q1
  obtain ⟨k2, q3⟩ := and_e q2
  obtain ⟨k3, q4⟩ := and_e q3
  have k4 := q4
  obtain ⟨w0, w1, w2, w3, w4, rfl⟩ : ∃ w0 w1 w2 w3 w4 : Value, args = #[w0, w1, w2, w3, w4] := by
    have hs : args.size = 5 := by simpa [Cond.value, given_1] using h1
    obtain ⟨L⟩ := args
    match L, hs with
    | [w0, w1, w2, w3, w4], _ => exact ⟨w0, w1, w2, w3, w4, rfl⟩
  have hw := fun d (hd : d ∈ tables_1) => atoms_spec (ws := Jvm.Cond.code x code maxLocals ret :: tables_1) hat d (List.mem_cons_of_mem _ hd)
  obtain ⟨i0, e0⟩ := is_v k0
  obtain rfl : w0 = (.int i0) := Option.some.inj e0
  obtain ⟨i1, e1⟩ := is_v k1
  obtain rfl : w1 = (.int i1) := Option.some.inj e1
  obtain ⟨i2, e2⟩ := is_v k2
  obtain rfl : w2 = (.int i2) := Option.some.inj e2
  obtain ⟨i3, e3⟩ := is_v k3
  obtain rfl : w3 = (.int i3) := Option.some.inj e3
  obtain ⟨i4, e4⟩ := is_v k4
  obtain rfl : w4 = (.int i4) := Option.some.inj e4
  obtain ⟨n, o, h1, h2, h3, _, L, rfl, ⟨rfl, N⟩, hq⟩ := con0 l s _ hw i0 i1 i2 i3 i4 s.heap s.heap.size (Nat.le_refl _)  tables_1 p e ha hc hk s m _ below hf ((Spec.applies_iff_loose hf).mp happ).1 ⟨rfl, State.Warmed39.refl s, rfl⟩ trivial
  refine ⟨n, _, h1, h2, h3, hpost _ _ _ _ _ _ ⟨Cond.after_iff.mpr rfl, Cond.after_iff.mpr (eq_i res_at (Term.int_eval (1)) rfl), trivial⟩ ⟨hq.1, hq.2.1, (hq.2.2.sift fun y hy => Or.inr (N y hy)).mono (by decide) (by decide)⟩⟩
theorem main_1_1 : Claimed_1_1 := comes_1 fun _ _ _ _ _ _ h hF => ⟨h.1, hF⟩
theorem main_1_2 : Claimed_1_2 := comes_1 fun _ _ _ _ _ _ h hF => ⟨h.2.1, hF⟩
end Jvm.Pilot.@@N@@
namespace Jvm.Pilot.@@N@@
open Jvm Jvm.ClassFile Sem Op Lib Jvm.Free Jvm.Stand Jvm.Pilot.@@N@@.Jvm.D
/-! MADE BY PROGRAM (witnessworld.py) out of the Statement's table words and the real class files: 14 classes; the members and pool entries that the words name. The judged class is class 1, her method 1. -/
namespace start1
open Jvm.ClassFile
def u (s : String) : CpInfo := .utf8 (stringToUtf16 s)
/-- a pool by its gaps: so many unusable entries, then the entry; so many at the end -/
def gap : Nat → List CpInfo → List CpInfo
  | 0, r => r
  | n + 1, r => .unusable :: gap n r
def poolList (es : List (Nat × CpInfo)) (last : Nat) : List CpInfo := es.foldr (fun e r => gap e.1 (e.2 :: r)) (gap last [])
def pool (es : List (Nat × CpInfo)) (last : Nat) : Array CpInfo := ⟨poolList es last⟩
def fileOf (pool : Array CpInfo) (this : Nat) (attrs : Array Attribute := #[]) (ms : Array MethodInfo := #[]) (fl : Nat := 33) (sup : Nat := 0) (ifs : Array Nat := #[]) (fds : Array FieldInfo := #[]) : ClassFile where
  minorVersion := 0
  majorVersion := 65
  constantPool := pool
  accessFlags := fl
  thisClass := this
  superClass := sup
  interfaces := ifs
  fields := fds
  methods := ms
  attributes := attrs
def plain (name : String) (sup : Option ClassId) : Class where
  name := name
  kind := .ordinary
  loader := none
  accessFlags := 33
  super := sup
  interfaces := #[]
  cf := none
  fields := #[]
  methods := #[]
  instanceTypes := #[]
  staticTypes := #[]
  resolved := #[]
  callSites := []
  init := .initialized
  statics := none
  mirror := none

def pool0 : Array CpInfo := pool [(5, u "<init>"), (0, u "()V"), (1, .class_ 10), (1, u "java/lang/Object")] 113

def k0m0 : Method := { name := "<init>", desc := "()V", sig := { parameters := [], returnType := none }, accessFlags := 1, code := none }
/-- java/lang/Object -/
def k0 : Class := { plain "java/lang/Object" none with
  accessFlags := 33
  interfaces := #[]
  cf := some (fileOf pool0 8 #[] #[{ accessFlags := 1, nameIndex := 5, descriptorIndex := 6, attributes := #[] }] 33 0 #[] #[])
  fields := #[]
  methods := #[k0m0]
  instanceTypes := #[]
  staticTypes := #[]
  resolved := Array.replicate 124 none
  statics := none }

def pool1 : Array CpInfo := pool [(2, .class_ 4), (1, u "java/lang/Object"), (0, u "<init>"), (0, u "()V"), (0, .integer 2147483647), (0, .class_ 9), (0, u "[I"), (0, .methodref 11 12), (0, .class_ 13), (0, .nameAndType 14 15), (0, u "com/example/lacuna_tensor/lacunatensor/DenseTensorPermuteCellsPinLaw"), (0, u "padS"), (0, u "(II[I)I"), (0, .methodref 11 17), (0, .nameAndType 18 15), (0, u "padA"), (0, .double 4611686018427387904), (1, .double 4613937818241073152), (1, .double 4616189618054758400), (1, .double 4617315517961601024), (1, .double 4618441417868443648), (1, .double 4619567317775286272), (1, .double 4620693217682128896), (1, .double 4621256167635550208), (1, .double 4621819117588971520), (1, .double 4622382067542392832), (1, .double 4622945017495814144), (1, .double 4623507967449235456), (1, .double 13830554455654793216), (1, .double 13835058055282163712), (1, .double 13837309855095848960), (1, .double 13839561654909534208), (1, .double 13840687554816376832), (1, .double 13841813454723219456), (1, .double 13842939354630062080), (1, .double 13844065254536904704), (1, .double 13844628204490326016), (1, .double 13845191154443747328), (1, .double 13845754104397168640), (1, .double 13846317054350589952), (1, .double 13846880004304011264), (1, .methodref 70 71), (0, .class_ 72), (0, .nameAndType 73 74), (0, u "com/example/lacuna_tensor/lacunatensor/DenseTensor"), (0, u "permuteCells"), (0, u "([DI[J[I[DI)V"), (0, .methodref 11 76), (0, .nameAndType 77 78), (0, u "ok"), (0, u "([DIIII[I[I[I)Z"), (2, u "law"), (0, u "(IIIII)Z")] 9

def k1m0 : Method := { name := "<init>", desc := "()V", sig := { parameters := [], returnType := none }, accessFlags := 1, code := none }
def k1c1 : Code := { maxStack := 9, maxLocals := 23, code := code, exceptionTable := #[], attributes := #[] }
def k1m1 : Method := { name := "law", desc := "(IIIII)Z", sig := { parameters := [.int, .int, .int, .int, .int], returnType := some .boolean }, accessFlags := 9, code := some k1c1 }
def k1c2 : Code := { maxStack := 3, maxLocals := 3, code := method_3_code, exceptionTable := #[], attributes := #[] }
def k1m2 : Method := { name := "padS", desc := "(II[I)I", sig := { parameters := [.int, .int, (.array .int)], returnType := some .int }, accessFlags := 10, code := some k1c2 }
def k1c3 : Code := { maxStack := 4, maxLocals := 3, code := method_4_code, exceptionTable := #[], attributes := #[] }
def k1m3 : Method := { name := "padA", desc := "(II[I)I", sig := { parameters := [.int, .int, (.array .int)], returnType := some .int }, accessFlags := 10, code := some k1c3 }
def k1c4 : Code := { maxStack := 4, maxLocals := 16, code := method_5_code, exceptionTable := #[], attributes := #[] }
def k1m4 : Method := { name := "ok", desc := "([DIIII[I[I[I)Z", sig := { parameters := [(.array .double), .int, .int, .int, .int, (.array .int), (.array .int), (.array .int)], returnType := some .boolean }, accessFlags := 10, code := some k1c4 }
/-- com/example/lacuna_tensor/lacunatensor/DenseTensorPermuteCellsPinLaw -/
def k1 : Class := { plain "com/example/lacuna_tensor/lacunatensor/DenseTensorPermuteCellsPinLaw" (some 0) with
  accessFlags := 49
  interfaces := #[]
  cf := some (fileOf pool1 11 #[] #[{ accessFlags := 1, nameIndex := 5, descriptorIndex := 6, attributes := #[] }, { accessFlags := 9, nameIndex := 81, descriptorIndex := 82, attributes := #[] }, { accessFlags := 10, nameIndex := 14, descriptorIndex := 15, attributes := #[] }, { accessFlags := 10, nameIndex := 18, descriptorIndex := 15, attributes := #[] }, { accessFlags := 10, nameIndex := 77, descriptorIndex := 78, attributes := #[] }] 49 2 #[] #[])
  fields := #[]
  methods := #[k1m0, k1m1, k1m2, k1m3, k1m4]
  instanceTypes := #[]
  staticTypes := #[]
  resolved := Array.replicate 92 none
  statics := none }

def pool2 : Array CpInfo := pool [(10, .class_ 12), (1, u "com/example/lacuna_tensor/lacunatensor/Tensor"), (35, .class_ 50), (1, u "com/example/lacuna_tensor/lacunatensor/Tensor$1"), (191, .class_ 243), (0, u "java/lang/Object"), (0, u "MAX_LENGTH"), (0, u "I")] 54

/-- com/example/lacuna_tensor/lacunatensor/Tensor -/
def k2 : Class := { plain "com/example/lacuna_tensor/lacunatensor/Tensor" (some 0) with
  accessFlags := 1537
  interfaces := #[]
  cf := some (fileOf pool2 10 #[.nestMembers #[48]] #[] 1537 242 #[] #[{ accessFlags := 25, nameIndex := 244, descriptorIndex := 245, attributes := #[] }])
  fields := #[{ name := "MAX_LENGTH", type := .int, accessFlags := 25, slot := 0, constantValue := 0 }]
  methods := #[]
  instanceTypes := #[]
  staticTypes := #[.int]
  resolved := Array.replicate 300 none
  statics := none }

def pool3 : Array CpInfo := pool [(2, .class_ 4), (1, u "java/lang/Object"), (3, .class_ 10), (1, u "com/example/lacuna_tensor/lacunatensor/DenseTensor"), (0, u "shape"), (0, u "[J"), (2, u "data"), (0, u "[D"), (47, .class_ 65), (0, u "com/example/lacuna_tensor/lacunatensor/Tensor"), (48, u "changes"), (0, u "J"), (52, u "permuteCells"), (0, u "([DI[J[I[DI)V"), (20, .class_ 191), (0, u "com/example/lacuna_tensor/lacunatensor/DenseTensor$Viewed")] 95

def k3c0 : Code := { maxStack := 5, maxLocals := 15, code := prog_55_method_20_code, exceptionTable := #[], attributes := #[] }
def k3m0 : Method := { name := "permuteCells", desc := "([DI[J[I[DI)V", sig := { parameters := [(.array .double), .int, (.array .long), (.array .int), (.array .double), .int], returnType := none }, accessFlags := 8, code := some k3c0 }
/-- com/example/lacuna_tensor/lacunatensor/DenseTensor -/
def k3 : Class := { plain "com/example/lacuna_tensor/lacunatensor/DenseTensor" (some 0) with
  accessFlags := 49
  interfaces := #[2]
  cf := some (fileOf pool3 8 #[.nestMembers #[190]] #[{ accessFlags := 8, nameIndex := 168, descriptorIndex := 169, attributes := #[] }] 49 2 #[64] #[{ accessFlags := 18, nameIndex := 11, descriptorIndex := 12, attributes := #[] }, { accessFlags := 16, nameIndex := 15, descriptorIndex := 16, attributes := #[] }, { accessFlags := 2, nameIndex := 114, descriptorIndex := 115, attributes := #[] }])
  fields := #[{ name := "shape", type := (.array .long), accessFlags := 18, slot := 0, constantValue := 0 }, { name := "data", type := (.array .double), accessFlags := 16, slot := 1, constantValue := 0 }, { name := "changes", type := .long, accessFlags := 2, slot := 2, constantValue := 0 }]
  methods := #[k3m0]
  instanceTypes := #[(.array .long), (.array .double), .long]
  staticTypes := #[]
  resolved := Array.replicate 287 none
  statics := none }

def pool4 : Array CpInfo := pool [(1, u "java/lang/Cloneable"), (0, .class_ 1), (0, u "java/lang/Object"), (0, .class_ 3)] 3

/-- java/lang/Cloneable -/
def k4 : Class := { plain "java/lang/Cloneable" (some 0) with
  accessFlags := 1537
  interfaces := #[]
  cf := some (fileOf pool4 2 #[] #[] 1537 4 #[] #[])
  fields := #[]
  methods := #[]
  instanceTypes := #[]
  staticTypes := #[]
  resolved := Array.replicate 8 none
  statics := none }

def pool5 : Array CpInfo := pool [(1, u "java/io/Serializable"), (0, .class_ 1), (0, u "java/lang/Object"), (0, .class_ 3)] 3

/-- java/io/Serializable -/
def k5 : Class := { plain "java/io/Serializable" (some 0) with
  accessFlags := 1537
  interfaces := #[]
  cf := some (fileOf pool5 2 #[] #[] 1537 4 #[] #[])
  fields := #[]
  methods := #[]
  instanceTypes := #[]
  staticTypes := #[]
  resolved := Array.replicate 8 none
  statics := none }

/-- the primitive byte -/
def k6 : Class := { plain "byte" none with kind := .primitive 'B', accessFlags := 0x411 }
/-- [B -/
def k7 : Class := { plain "[B" (some 0) with kind := .array 6 .byte, interfaces := #[4, 5], accessFlags := 1041 }

/-- the primitive double -/
def k8 : Class := { plain "double" none with kind := .primitive 'D', accessFlags := 0x411 }
/-- [D -/
def k9 : Class := { plain "[D" (some 0) with kind := .array 8 .double, interfaces := #[4, 5], accessFlags := 1041 }

/-- the primitive int -/
def k10 : Class := { plain "int" none with kind := .primitive 'I', accessFlags := 0x411 }
/-- [I -/
def k11 : Class := { plain "[I" (some 0) with kind := .array 10 .int, interfaces := #[4, 5], accessFlags := 1041 }

/-- the primitive long -/
def k12 : Class := { plain "long" none with kind := .primitive 'J', accessFlags := 0x411 }
/-- [J -/
def k13 : Class := { plain "[J" (some 0) with kind := .array 12 .long, interfaces := #[4, 5], accessFlags := 1041 }

/-- [[I -/
def k14 : Class := { plain "[[I" (some 0) with kind := .array 11 (.array .int), interfaces := #[4, 5], accessFlags := 1041 }

def heap : Heap := #[]
def classes : Array Class := #[k0, k1, k2, k3, k4, k5, k6, k7, k8, k9, k10, k11, k12, k13, k14]
def interned : List (Array UInt16 × Addr) := []
def slotsUsed : Nat := 0
def theMethod : MethodId := ⟨1, 1⟩
def args0 : Array Value := #[.int 5, .int 5, .int 5, .int 5, .int 5]
def aboutOver (below : List Frame) : State where
  vm := { classes := classes, interned := interned.toArray }
  heap := heap
  slotsUsed := slotsUsed
  threads := #[{ frames := .invoking theMethod args0 :: below }]
def below0 : List Frame := [.native { method := ⟨0, 0⟩, args := #[] }]
def about1 : State := aboutOver below0
def p0 : Program := .bare "" "" ""
def e0 : Env := launch0.env 0 0 0
theorem w_frames : about1.frames = Frame.invoking theMethod args0 :: below0 := rfl
set_option maxRecDepth 65536 in
theorem w_args : argsFit about1.vm theMethod args0 = true := by decide +kernel
set_option maxRecDepth 65536 in
theorem w_heap : heapFits about1 = true := by decide +kernel
set_option maxRecDepth 65536 in
theorem w_runnable : about1.curStatus? = some .runnable := by decide +kernel
set_option maxRecDepth 65536 in
theorem w_alone : about1.alone = true := by decide +kernel
set_option maxRecDepth 65536 in
theorem w_named : about1.methodNamed? x = some theMethod := by decide +kernel
set_option maxRecDepth 65536 in
theorem w_hears : about1.hears theMethod below0 = true := by decide +kernel
set_option maxRecDepth 65536 in
theorem w_ripe : about1.ripe theMethod args0 below0 = true := by decide +kernel
theorem w_running : about1.status = .running := rfl
set_option maxRecDepth 65536 in
theorem w_room : about1.hasRoom e0.platform room_1 = true :=
  launch0.hasRoom_least _ room_1 (by decide +kernel) (by decide +kernel) (by decide +kernel) (by decide +kernel) (by decide +kernel) (by decide +kernel)
theorem allAtoms_all (ts : List Jvm.Cond) (a : Array Jvm.Value) (st : Jvm.State) : (allAtoms ts).before a st = ts.all (fun c => c.before a st) := by
  induction ts with
  | nil => rfl
  | cons c t ih =>
    show (Jvm.Cond.and c (allAtoms t)).before a st = _
    rw [Jvm.Cond.before_and, ih, List.all_cons]
def words1 : List Jvm.Cond := Jvm.Cond.code x code maxLocals ret :: tables_1
/-- a 'code' word, met by the world's own term for the bytes: nothing is compared byte by byte -/
theorem code_word {y : MethodName} {bytes : ByteArray} {mx : Nat} {rt : Option FieldType} {a : Array Value} {s : State} {m : MethodId} {meth : Method} {c : Code} (h1 : s.methodNamed? y = some m) (h2 : s.vm.method? m = some meth) (h3 : meth.code = some c) (h4 : c.code = bytes)
    (h5 : (c.maxLocals == mx && c.exceptionTable.isEmpty && decide (c.maxStack ≤ mostOperands) && decide (meth.sig.returnType = rt) && !meth.locks && decide (parseMethodDescriptor y.desc = some meth.sig)) = true) : (Jvm.Cond.code y bytes mx rt).before a s = true := by
  simp only [Bool.and_eq_true, beq_iff_eq, Bool.not_eq_true', decide_eq_true_eq] at h5
  obtain ⟨⟨⟨⟨⟨g1, g2⟩, g3⟩, g4⟩, g5⟩, g6⟩ := h5
  simp [Cond.before, Cond.holds, Cond.value, h1, h2, h3, h4, g1, g2, g3, g4, g5, g6]
def isCode : Jvm.Cond → Bool
  | .code _ _ _ _ => true
  | _ => false
theorem all_split {L : List Jvm.Cond} {P : Jvm.Cond → Bool} (h1 : L.all (fun c => isCode c || P c) = true) (h2 : ∀ c ∈ L.filter isCode, P c = true) : L.all P = true := by
  refine List.all_eq_true.mpr fun c hc => ?_
  have h := List.all_eq_true.mp h1 c hc
  rcases Bool.eq_false_or_eq_true (isCode c) with hi | hi
  · exact h2 c (List.mem_filter.mpr ⟨hc, hi⟩)
  · simpa [hi] using h
set_option maxRecDepth 65536 in
theorem w_c0 : (Jvm.Cond.code x code maxLocals ret).before args0 about1 = true := code_word (m := ⟨1, 1⟩) (meth := k1m1) (c := k1c1) (by decide +kernel) rfl rfl rfl (by decide +kernel)
set_option maxRecDepth 65536 in
theorem w_c1 : (Jvm.Cond.code ({ cls := "com/example/lacuna_tensor/lacunatensor/DenseTensorPermuteCellsPinLaw", name := "padS", desc := "(II[I)I" } : Jvm.MethodName) method_3_code (3 : Nat) (Option.some Jvm.ClassFile.FieldType.int)).before args0 about1 = true := code_word (m := ⟨1, 2⟩) (meth := k1m2) (c := k1c2) (by decide +kernel) rfl rfl rfl (by decide +kernel)
set_option maxRecDepth 65536 in
theorem w_c2 : (Jvm.Cond.code ({ cls := "com/example/lacuna_tensor/lacunatensor/DenseTensorPermuteCellsPinLaw", name := "padA", desc := "(II[I)I" } : Jvm.MethodName) method_4_code (3 : Nat) (Option.some Jvm.ClassFile.FieldType.int)).before args0 about1 = true := code_word (m := ⟨1, 3⟩) (meth := k1m3) (c := k1c3) (by decide +kernel) rfl rfl rfl (by decide +kernel)
set_option maxRecDepth 65536 in
theorem w_c3 : (Jvm.Cond.code ({ cls := "com/example/lacuna_tensor/lacunatensor/DenseTensor", name := "permuteCells", desc := "([DI[J[I[DI)V" } : Jvm.MethodName) prog_55_method_20_code (15 : Nat) (Option.none : Option Jvm.ClassFile.FieldType)).before args0 about1 = true := code_word (m := ⟨3, 0⟩) (meth := k3m0) (c := k3c0) (by decide +kernel) rfl rfl rfl (by decide +kernel)
set_option maxRecDepth 65536 in
theorem w_c4 : (Jvm.Cond.code ({ cls := "com/example/lacuna_tensor/lacunatensor/DenseTensorPermuteCellsPinLaw", name := "ok", desc := "([DIIII[I[I[I)Z" } : Jvm.MethodName) method_5_code (16 : Nat) (Option.some Jvm.ClassFile.FieldType.boolean)).before args0 about1 = true := code_word (m := ⟨1, 4⟩) (meth := k1m4) (c := k1c4) (by decide +kernel) rfl rfl rfl (by decide +kernel)
def codes1 : List Jvm.Cond := [Jvm.Cond.code x code maxLocals ret, Jvm.Cond.code ({ cls := "com/example/lacuna_tensor/lacunatensor/DenseTensorPermuteCellsPinLaw", name := "padS", desc := "(II[I)I" } : Jvm.MethodName) method_3_code (3 : Nat) (Option.some Jvm.ClassFile.FieldType.int), Jvm.Cond.code ({ cls := "com/example/lacuna_tensor/lacunatensor/DenseTensorPermuteCellsPinLaw", name := "padA", desc := "(II[I)I" } : Jvm.MethodName) method_4_code (3 : Nat) (Option.some Jvm.ClassFile.FieldType.int), Jvm.Cond.code ({ cls := "com/example/lacuna_tensor/lacunatensor/DenseTensor", name := "permuteCells", desc := "([DI[J[I[DI)V" } : Jvm.MethodName) prog_55_method_20_code (15 : Nat) (Option.none : Option Jvm.ClassFile.FieldType), Jvm.Cond.code ({ cls := "com/example/lacuna_tensor/lacunatensor/DenseTensorPermuteCellsPinLaw", name := "ok", desc := "([DIIII[I[I[I)Z" } : Jvm.MethodName) method_5_code (16 : Nat) (Option.some Jvm.ClassFile.FieldType.boolean)]
set_option maxRecDepth 65536 in
theorem codes_eq : words1.filter isCode = codes1 := rfl
theorem w_codes : ∀ c ∈ words1.filter isCode, c.before args0 about1 = true := by
  rw [codes_eq]
  intro c hc
  simp only [codes1, List.mem_cons, List.not_mem_nil, or_false] at hc
  rcases hc with rfl | rfl | rfl | rfl | rfl
  · exact w_c0
  · exact w_c1
  · exact w_c2
  · exact w_c3
  · exact w_c4
set_option maxRecDepth 65536 in
theorem w_t1 : (words1.take 24).all (fun c => isCode c || c.before args0 about1) = true := by decide +kernel
set_option maxRecDepth 65536 in
theorem w_t2 : (words1.drop 24).all (fun c => isCode c || c.before args0 about1) = true := by decide +kernel
theorem w_tables : (allAtoms (Jvm.Cond.code x code maxLocals ret :: tables_1)).before args0 about1 = true := by
  rw [allAtoms_all]
  show words1.all (fun c => c.before args0 about1) = true
  refine all_split ?_ w_codes
  rw [← List.take_append_drop 24 words1, List.all_append, w_t1, w_t2]
  rfl
set_option maxRecDepth 65536 in
theorem w_case : (Jvm.Cond.and given_1 narrow_1).before args0 about1 = true := by decide +kernel
theorem w_applies : (headSpec (Jvm.Cond.code x code maxLocals ret :: tables_1) room_1).applies x e0.platform about1 = true :=
  (Spec.applies_iff w_frames).mpr ⟨w_running, w_runnable, w_alone, w_named, w_hears, w_ripe, w_room, w_tables⟩
theorem atStart : AtStart classFile x code maxLocals ret World_1 tables_1 room_1 Calls_1 rest_1 Pre_1 launch0 p0 e0 about1 theMethod args0 below0 :=
  ⟨lists_1, trivial, launch0.admits_env _ _ _, launch0.least_env, fairChoices_fair.cas, fairChoices_fair.clock, w_frames, w_args, w_heap, w_applies, trivial, trivial, w_case⟩
end start1
theorem witness_1 : WitnessClaimed_1 := ⟨start1.p0, start1.e0, start1.about1, start1.theMethod, start1.args0, start1.below0, start1.atStart⟩
end Jvm.Pilot.@@N@@
