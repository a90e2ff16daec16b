import JvmDerived
import JvmDerived.Pilot.@@N@@Statement
import JvmDerived.Pilot.@@N@@Code
set_option linter.unusedVariables false
set_option linter.unusedSimpArgs false
namespace Jvm.OwnK
open Sem ClassFile Op Lib Jvm.Stand Jvm.Free Jvm.LawKit Jvm.RoadKit
/-- where a walk stands: the invocation's tables, the heap h (the entry heap h0 but for ws and what is new), and the frame; from there to any end is from the entry B to that end -/
def Wk (Z : State) (own : String) (p : Program) (l : Launch) (e : Env) (R : Room) (s : State) (m : MethodId) (args : Array Value) (below : List Frame) (meth : Method) (c : Code) (code : ByteArray) (mx : Nat) (B : State) (h0 : Heap) (n0 : Nat) (ws : List Addr) (h : Heap) (cells slots pc : Nat) (L : Array Slot) (S : List Value) : Prop :=
  (p.tables.exec = Jvm.exec ∧ c.code = code ∧ c.maxLocals = mx ∧ s.vm.findClass own = some m.cls ∧ Z.Warmed39 s.vm) ∧ (n0 ≤ h0.size ∧ Keep h0 h ws ∧ ∀ x ∈ ws, n0 ≤ x) ∧
    ∃ (T : State) (locs : List Loc), Stand p l e R s m args below meth c T locs cells slots ∧ Fr n0 locs ∧ T.heap = h ∧ ∀ t, Steps p.tables e below (T.setTop (mkF m pc L S)) t → Steps p.tables e below B t
section OwnK
variable {Z : State} {own : String} {p : Program} {l : Launch} {e : Env} {R : Room} {s : State} {m : MethodId} {args : Array Value} {below : List Frame} {meth : Method} {c : Code} {code : ByteArray} {mx : Nat} {B : State} {h0 : Heap} {n0 : Nat} {ws : List Addr} {h : Heap} {cells slots pc : Nat} {L L' : Array Slot} {S : List Value} {a0 : Array Value}
theorem Wk.keep0 (G : Wk Z own p l e R s m args below meth c code mx B h0 n0 ws h cells slots pc L S) : Keep h0 h ws := G.2.1.2.1
theorem Wk.n0le (G : Wk Z own p l e R s m args below meth c code mx B h0 n0 ws h cells slots pc L S) : n0 ≤ h.size := Nat.le_trans G.2.1.1 G.2.1.2.1.1
theorem Wk.sz (G : Wk Z own p l e R s m args below meth c code mx B h0 n0 ws h cells slots pc L S) : h0.size ≤ h.size := G.2.1.2.1.1
theorem Wk.hZ (G : Wk Z own p l e R s m args below meth c code mx B h0 n0 ws h cells slots pc L S) : Z.Warmed39 s.vm := G.1.2.2.2.2
theorem Wk.nw (G : Wk Z own p l e R s m args below meth c code mx B h0 n0 ws h cells slots pc L S) {x : Addr} (q : x ∈ ws ∨ h0.size ≤ x) : n0 ≤ x := q.elim (G.2.1.2.2 x) (Nat.le_trans G.2.1.1)
theorem Wk.plain {pc' : Nat} {S' : List Value} (G : Wk Z own p l e R s m args below meth c code mx B h0 n0 ws h cells slots pc L S) (st : ∀ T : State, At T m c below → p.tables.exec = Jvm.exec → c.code = code → ∀ t, Steps p.tables e below (T.setTop (mkF m pc' L' S')) t → Steps p.tables e below (T.setTop (mkF m pc L S)) t) : Wk Z own p l e R s m args below meth c code mx B h0 n0 ws h cells slots pc' L' (S') := by
  obtain ⟨a, b, T, locs, X, N, eT, k⟩ := G
  exact ⟨a, b, T, locs, X, N, eT, fun t q => k t (st T X.here a.1 a.2.1 t q)⟩
theorem Wk.nameI {x : Int32} (G : Wk Z own p l e R s m args below meth c code mx B h0 n0 ws h cells slots pc L (.int x :: S)) : ∃ v, v = x ∧ Wk Z own p l e R s m args below meth c code mx B h0 n0 ws h cells slots pc L (.int v :: S) := ⟨x, rfl, G⟩
theorem Wk.nameJ {x : Int64} (G : Wk Z own p l e R s m args below meth c code mx B h0 n0 ws h cells slots pc L (.long x :: S)) : ∃ v, v = x ∧ Wk Z own p l e R s m args below meth c code mx B h0 n0 ws h cells slots pc L (.long v :: S) := ⟨x, rfl, G⟩
theorem Wk.top {x y : Value} (G : Wk Z own p l e R s m args below meth c code mx B h0 n0 ws h cells slots pc L (x :: S)) (q : x = y) : Wk Z own p l e R s m args below meth c code mx B h0 n0 ws h cells slots pc L (y :: S) := q ▸ G
theorem Wk.more (G : Wk Z own p l e R s m args below meth c code mx B h0 n0 ws h cells slots pc L S) {k n : Nat} (h1 : cells ≤ k) (h2 : slots ≤ n) : Wk Z own p l e R s m args below meth c code mx B h0 n0 ws h k n pc L S := by
  obtain ⟨a, b, T, locs, X, N, r⟩ := G
  exact ⟨a, b, T, locs, X.more h1 h2, N, r⟩
theorem Wk.aload {k : Nat} {v : Value} (G : Wk Z own p l e R s m args below meth c code mx B h0 n0 ws h cells slots pc L S) (pc' : Nat) (hd : decode code pc = .ok (.aload k, 2)) (hl : L[k]? = some (.val v)) (hv : v.isRef = true) (hp : pc + 2 = pc') : Wk Z own p l e R s m args below meth c code mx B h0 n0 ws h cells slots pc' L (v :: S) :=
  G.plain fun T H hx hy t k => XS.aload (g := mkF m pc L (S)) H hx rfl (by rw [hy]; exact hd) hl hv (by subst hp; exact k)
theorem Wk.aloadN {k : Fin 4} {v : Value} (G : Wk Z own p l e R s m args below meth c code mx B h0 n0 ws h cells slots pc L S) (pc' : Nat) (hd : decode code pc = .ok (.aload_n k, 1)) (hl : L[k.val]? = some (.val v)) (hv : v.isRef = true) (hp : pc + 1 = pc') : Wk Z own p l e R s m args below meth c code mx B h0 n0 ws h cells slots pc' L (v :: S) :=
  G.plain fun T H hx hy t k => XS.aloadN (g := mkF m pc L (S)) H hx rfl (by rw [hy]; exact hd) hl hv (by subst hp; exact k)
theorem Wk.iload {k : Nat} {v : Int32} (G : Wk Z own p l e R s m args below meth c code mx B h0 n0 ws h cells slots pc L S) (pc' : Nat) (hd : decode code pc = .ok (.iload k, 2)) (hl : L[k]? = some (.val (.int v))) (hp : pc + 2 = pc') : Wk Z own p l e R s m args below meth c code mx B h0 n0 ws h cells slots pc' L (.int v :: S) :=
  G.plain fun T H hx hy t k => XS.iload (g := mkF m pc L (S)) H hx rfl (by rw [hy]; exact hd) hl (by subst hp; exact k)
theorem Wk.iloadN {k : Fin 4} {v : Int32} (G : Wk Z own p l e R s m args below meth c code mx B h0 n0 ws h cells slots pc L S) (pc' : Nat) (hd : decode code pc = .ok (.iload_n k, 1)) (hl : L[k.val]? = some (.val (.int v))) (hp : pc + 1 = pc') : Wk Z own p l e R s m args below meth c code mx B h0 n0 ws h cells slots pc' L (.int v :: S) :=
  G.plain fun T H hx hy t k => XS.iloadN (g := mkF m pc L (S)) H hx rfl (by rw [hy]; exact hd) hl (by subst hp; exact k)
theorem Wk.lload {k : Nat} {v : Int64} (G : Wk Z own p l e R s m args below meth c code mx B h0 n0 ws h cells slots pc L S) (pc' : Nat) (hd : decode code pc = .ok (.lload k, 2)) (hl : L[k]? = some (.val (.long v))) (hp : pc + 2 = pc') : Wk Z own p l e R s m args below meth c code mx B h0 n0 ws h cells slots pc' L (.long v :: S) :=
  G.plain fun T H hx hy t k => XT.lload (g := mkF m pc L (S)) H hx rfl (by rw [hy]; exact hd) hl (by subst hp; exact k)
theorem Wk.lloadN {k : Fin 4} {v : Int64} (G : Wk Z own p l e R s m args below meth c code mx B h0 n0 ws h cells slots pc L S) (pc' : Nat) (hd : decode code pc = .ok (.lload_n k, 1)) (hl : L[k.val]? = some (.val (.long v))) (hp : pc + 1 = pc') : Wk Z own p l e R s m args below meth c code mx B h0 n0 ws h cells slots pc' L (.long v :: S) :=
  G.plain fun T H hx hy t k => XT.lloadN (g := mkF m pc L (S)) H hx rfl (by rw [hy]; exact hd) hl (by subst hp; exact k)
theorem Wk.dload {k : Nat} {v : UInt64} (G : Wk Z own p l e R s m args below meth c code mx B h0 n0 ws h cells slots pc L S) (pc' : Nat) (hd : decode code pc = .ok (.dload k, 2)) (hl : L[k]? = some (.val (.double v))) (hp : pc + 2 = pc') : Wk Z own p l e R s m args below meth c code mx B h0 n0 ws h cells slots pc' L (.double v :: S) :=
  G.plain fun T H hx hy t k => XS.dload (g := mkF m pc L (S)) H hx rfl (by rw [hy]; exact hd) hl (by subst hp; exact k)
theorem Wk.dloadN {k : Fin 4} {v : UInt64} (G : Wk Z own p l e R s m args below meth c code mx B h0 n0 ws h cells slots pc L S) (pc' : Nat) (hd : decode code pc = .ok (.dload_n k, 1)) (hl : L[k.val]? = some (.val (.double v))) (hp : pc + 1 = pc') : Wk Z own p l e R s m args below meth c code mx B h0 n0 ws h cells slots pc' L (.double v :: S) :=
  G.plain fun T H hx hy t k => XS.dloadN (g := mkF m pc L (S)) H hx rfl (by rw [hy]; exact hd) hl (by subst hp; exact k)
theorem Wk.istore {k : Nat} {x : Int32} (G : Wk Z own p l e R s m args below meth c code mx B h0 n0 ws h cells slots pc L (.int x :: S)) (pc' : Nat) (L' : Array Slot) (hd : decode code pc = .ok (.istore k, 2)) (hl : storeLocals L k (.int x) = some L') (hp : pc + 2 = pc') : Wk Z own p l e R s m args below meth c code mx B h0 n0 ws h cells slots pc' L' S :=
  G.plain fun T H hx hy t k => XS.istore (g := mkF m pc L (.int x :: S)) H hx rfl (by rw [hy]; exact hd) rfl hl (by subst hp; exact k)
theorem Wk.istoreN {k : Fin 4} {x : Int32} (G : Wk Z own p l e R s m args below meth c code mx B h0 n0 ws h cells slots pc L (.int x :: S)) (pc' : Nat) (L' : Array Slot) (hd : decode code pc = .ok (.istore_n k, 1)) (hl : storeLocals L k.val (.int x) = some L') (hp : pc + 1 = pc') : Wk Z own p l e R s m args below meth c code mx B h0 n0 ws h cells slots pc' L' S :=
  G.plain fun T H hx hy t k => XS.istoreN (g := mkF m pc L (.int x :: S)) H hx rfl (by rw [hy]; exact hd) rfl hl (by subst hp; exact k)
theorem Wk.lstore {k : Nat} {x : Int64} (G : Wk Z own p l e R s m args below meth c code mx B h0 n0 ws h cells slots pc L (.long x :: S)) (pc' : Nat) (L' : Array Slot) (hd : decode code pc = .ok (.lstore k, 2)) (hl : storeLocals L k (.long x) = some L') (hp : pc + 2 = pc') : Wk Z own p l e R s m args below meth c code mx B h0 n0 ws h cells slots pc' L' S :=
  G.plain fun T H hx hy t k => XT.lstore (g := mkF m pc L (.long x :: S)) H hx rfl (by rw [hy]; exact hd) rfl hl (by subst hp; exact k)
theorem Wk.lstoreN {k : Fin 4} {x : Int64} (G : Wk Z own p l e R s m args below meth c code mx B h0 n0 ws h cells slots pc L (.long x :: S)) (pc' : Nat) (L' : Array Slot) (hd : decode code pc = .ok (.lstore_n k, 1)) (hl : storeLocals L k.val (.long x) = some L') (hp : pc + 1 = pc') : Wk Z own p l e R s m args below meth c code mx B h0 n0 ws h cells slots pc' L' S :=
  G.plain fun T H hx hy t k => XT.lstoreN (g := mkF m pc L (.long x :: S)) H hx rfl (by rw [hy]; exact hd) rfl hl (by subst hp; exact k)
theorem Wk.dstore {k : Nat} {x : UInt64} (G : Wk Z own p l e R s m args below meth c code mx B h0 n0 ws h cells slots pc L (.double x :: S)) (pc' : Nat) (L' : Array Slot) (hd : decode code pc = .ok (.dstore k, 2)) (hl : storeLocals L k (.double x) = some L') (hp : pc + 2 = pc') : Wk Z own p l e R s m args below meth c code mx B h0 n0 ws h cells slots pc' L' S :=
  G.plain fun T H hx hy t k => XS.dstore (g := mkF m pc L (.double x :: S)) H hx rfl (by rw [hy]; exact hd) rfl hl (by subst hp; exact k)
theorem Wk.dstoreN {k : Fin 4} {x : UInt64} (G : Wk Z own p l e R s m args below meth c code mx B h0 n0 ws h cells slots pc L (.double x :: S)) (pc' : Nat) (L' : Array Slot) (hd : decode code pc = .ok (.dstore_n k, 1)) (hl : storeLocals L k.val (.double x) = some L') (hp : pc + 1 = pc') : Wk Z own p l e R s m args below meth c code mx B h0 n0 ws h cells slots pc' L' S :=
  G.plain fun T H hx hy t k => XS.dstoreN (g := mkF m pc L (.double x :: S)) H hx rfl (by rw [hy]; exact hd) rfl hl (by subst hp; exact k)
theorem Wk.astore {k : Nat} {x : Value} (G : Wk Z own p l e R s m args below meth c code mx B h0 n0 ws h cells slots pc L (x :: S)) (pc' : Nat) (L' : Array Slot) (hd : decode code pc = .ok (.astore k, 2)) (hv : x.isRef = true) (hl : storeLocals L k x = some L') (hp : pc + 2 = pc') : Wk Z own p l e R s m args below meth c code mx B h0 n0 ws h cells slots pc' L' S :=
  G.plain fun T H hx hy t k => XS.astore (g := mkF m pc L (x :: S)) H hx rfl (by rw [hy]; exact hd) rfl hv hl (by subst hp; exact k)
theorem Wk.astoreN {k : Fin 4} {x : Value} (G : Wk Z own p l e R s m args below meth c code mx B h0 n0 ws h cells slots pc L (x :: S)) (pc' : Nat) (L' : Array Slot) (hd : decode code pc = .ok (.astore_n k, 1)) (hv : x.isRef = true) (hl : storeLocals L k.val x = some L') (hp : pc + 1 = pc') : Wk Z own p l e R s m args below meth c code mx B h0 n0 ws h cells slots pc' L' S :=
  G.plain fun T H hx hy t k => XS.astoreN (g := mkF m pc L (x :: S)) H hx rfl (by rw [hy]; exact hd) rfl hv hl (by subst hp; exact k)
theorem Wk.iinc {k : Nat} {cst : Int} {x : Int32} (G : Wk Z own p l e R s m args below meth c code mx B h0 n0 ws h cells slots pc L S) (pc' : Nat) (L' : Array Slot) (hd : decode code pc = .ok (.iinc k cst, 3)) (hl : L[k]? = some (.val (.int x))) (hl' : storeLocals L k (.int (x + Int32.ofInt cst)) = some L') (hp : pc + 3 = pc') : Wk Z own p l e R s m args below meth c code mx B h0 n0 ws h cells slots pc' L' S :=
  G.plain fun T H hx hy t k => XS.iinc (g := mkF m pc L (S)) H hx rfl (by rw [hy]; exact hd) hl hl' (by subst hp; exact k)
theorem Wk.iconst {i : Int} (G : Wk Z own p l e R s m args below meth c code mx B h0 n0 ws h cells slots pc L S) (pc' : Nat) (v : Int32) (hd : decode code pc = .ok (.iconst i, 1)) (hv : Int32.ofInt i = v) (hp : pc + 1 = pc') : Wk Z own p l e R s m args below meth c code mx B h0 n0 ws h cells slots pc' L (.int v :: S) :=
  G.plain fun T H hx hy t k => XS.iconst (g := mkF m pc L (S)) H hx rfl (by rw [hy]; exact hd) (by subst hv hp; exact k)
theorem Wk.bipush {i : Int} (G : Wk Z own p l e R s m args below meth c code mx B h0 n0 ws h cells slots pc L S) (pc' : Nat) (v : Int32) (hd : decode code pc = .ok (.bipush i, 2)) (hv : (Int8.ofInt i).toInt32 = v) (hp : pc + 2 = pc') : Wk Z own p l e R s m args below meth c code mx B h0 n0 ws h cells slots pc' L (.int v :: S) :=
  G.plain fun T H hx hy t k => XS.bipush (g := mkF m pc L (S)) H hx rfl (by rw [hy]; exact hd) (by subst hv hp; exact k)
theorem Wk.sipush {i : Int} (G : Wk Z own p l e R s m args below meth c code mx B h0 n0 ws h cells slots pc L S) (pc' : Nat) (v : Int32) (hd : decode code pc = .ok (.sipush i, 3)) (hv : (Int16.ofInt i).toInt32 = v) (hp : pc + 3 = pc') : Wk Z own p l e R s m args below meth c code mx B h0 n0 ws h cells slots pc' L (.int v :: S) :=
  G.plain fun T H hx hy t k => XS.sipush (g := mkF m pc L (S)) H hx rfl (by rw [hy]; exact hd) (by subst hv hp; exact k)
theorem Wk.lconst0  (G : Wk Z own p l e R s m args below meth c code mx B h0 n0 ws h cells slots pc L S) (pc' : Nat) (hd : decode code pc = .ok (.lconst 0, 1)) (hp : pc + 1 = pc') : Wk Z own p l e R s m args below meth c code mx B h0 n0 ws h cells slots pc' L (.long 0 :: S) :=
  G.plain fun T H hx hy t k => XT.lconst (g := mkF m pc L (S)) H hx rfl (by rw [hy]; exact hd) (by subst hp; exact k)
theorem Wk.lconst1  (G : Wk Z own p l e R s m args below meth c code mx B h0 n0 ws h cells slots pc L S) (pc' : Nat) (hd : decode code pc = .ok (.lconst 1, 1)) (hp : pc + 1 = pc') : Wk Z own p l e R s m args below meth c code mx B h0 n0 ws h cells slots pc' L (.long 1 :: S) :=
  G.plain fun T H hx hy t k => XT.lconst (g := mkF m pc L (S)) H hx rfl (by rw [hy]; exact hd) (by subst hp; exact k)
theorem Wk.aconstNull  (G : Wk Z own p l e R s m args below meth c code mx B h0 n0 ws h cells slots pc L S) (pc' : Nat) (hd : decode code pc = .ok (.aconst_null, 1)) (hp : pc + 1 = pc') : Wk Z own p l e R s m args below meth c code mx B h0 n0 ws h cells slots pc' L (.null :: S) :=
  G.plain fun T H hx hy t k => XS.aconstNull (g := mkF m pc L (S)) H hx rfl (by rw [hy]; exact hd) (by subst hp; exact k)
theorem Wk.iadd {x y : Int32} (G : Wk Z own p l e R s m args below meth c code mx B h0 n0 ws h cells slots pc L (.int y :: .int x :: S)) (pc' : Nat) (hd : decode code pc = .ok (.iadd, 1)) (hp : pc + 1 = pc') : Wk Z own p l e R s m args below meth c code mx B h0 n0 ws h cells slots pc' L (.int (x + y) :: S) :=
  G.plain fun T H hx hy t k => XS.iadd (g := mkF m pc L (.int y :: .int x :: S)) H hx rfl (by rw [hy]; exact hd) rfl (by subst hp; exact k)
theorem Wk.isub {x y : Int32} (G : Wk Z own p l e R s m args below meth c code mx B h0 n0 ws h cells slots pc L (.int y :: .int x :: S)) (pc' : Nat) (hd : decode code pc = .ok (.isub, 1)) (hp : pc + 1 = pc') : Wk Z own p l e R s m args below meth c code mx B h0 n0 ws h cells slots pc' L (.int (x - y) :: S) :=
  G.plain fun T H hx hy t k => XS.isub (g := mkF m pc L (.int y :: .int x :: S)) H hx rfl (by rw [hy]; exact hd) rfl (by subst hp; exact k)
theorem Wk.imul {x y : Int32} (G : Wk Z own p l e R s m args below meth c code mx B h0 n0 ws h cells slots pc L (.int y :: .int x :: S)) (pc' : Nat) (hd : decode code pc = .ok (.imul, 1)) (hp : pc + 1 = pc') : Wk Z own p l e R s m args below meth c code mx B h0 n0 ws h cells slots pc' L (.int (x * y) :: S) :=
  G.plain fun T H hx hy t k => XS.imul (g := mkF m pc L (.int y :: .int x :: S)) H hx rfl (by rw [hy]; exact hd) rfl (by subst hp; exact k)
theorem Wk.iand {x y : Int32} (G : Wk Z own p l e R s m args below meth c code mx B h0 n0 ws h cells slots pc L (.int y :: .int x :: S)) (pc' : Nat) (hd : decode code pc = .ok (.iand, 1)) (hp : pc + 1 = pc') : Wk Z own p l e R s m args below meth c code mx B h0 n0 ws h cells slots pc' L (.int (x &&& y) :: S) :=
  G.plain fun T H hx hy t k => XS.iand (g := mkF m pc L (.int y :: .int x :: S)) H hx rfl (by rw [hy]; exact hd) rfl (by subst hp; exact k)
theorem Wk.ior {x y : Int32} (G : Wk Z own p l e R s m args below meth c code mx B h0 n0 ws h cells slots pc L (.int y :: .int x :: S)) (pc' : Nat) (hd : decode code pc = .ok (.ior, 1)) (hp : pc + 1 = pc') : Wk Z own p l e R s m args below meth c code mx B h0 n0 ws h cells slots pc' L (.int (x ||| y) :: S) :=
  G.plain fun T H hx hy t k => XT.ior (g := mkF m pc L (.int y :: .int x :: S)) H hx rfl (by rw [hy]; exact hd) rfl (by subst hp; exact k)
theorem Wk.ixor {x y : Int32} (G : Wk Z own p l e R s m args below meth c code mx B h0 n0 ws h cells slots pc L (.int y :: .int x :: S)) (pc' : Nat) (hd : decode code pc = .ok (.ixor, 1)) (hp : pc + 1 = pc') : Wk Z own p l e R s m args below meth c code mx B h0 n0 ws h cells slots pc' L (.int (x ^^^ y) :: S) :=
  G.plain fun T H hx hy t k => XT.ixor (g := mkF m pc L (.int y :: .int x :: S)) H hx rfl (by rw [hy]; exact hd) rfl (by subst hp; exact k)
theorem Wk.ishl {x y : Int32} (G : Wk Z own p l e R s m args below meth c code mx B h0 n0 ws h cells slots pc L (.int y :: .int x :: S)) (pc' : Nat) (hd : decode code pc = .ok (.ishl, 1)) (hp : pc + 1 = pc') : Wk Z own p l e R s m args below meth c code mx B h0 n0 ws h cells slots pc' L (.int (x <<< (y &&& 31)) :: S) :=
  G.plain fun T H hx hy t k => XT.ishl (g := mkF m pc L (.int y :: .int x :: S)) H hx rfl (by rw [hy]; exact hd) rfl (by subst hp; exact k)
theorem Wk.ishr {x y : Int32} (G : Wk Z own p l e R s m args below meth c code mx B h0 n0 ws h cells slots pc L (.int y :: .int x :: S)) (pc' : Nat) (hd : decode code pc = .ok (.ishr, 1)) (hp : pc + 1 = pc') : Wk Z own p l e R s m args below meth c code mx B h0 n0 ws h cells slots pc' L (.int (x >>> (y &&& 31)) :: S) :=
  G.plain fun T H hx hy t k => XT.ishr (g := mkF m pc L (.int y :: .int x :: S)) H hx rfl (by rw [hy]; exact hd) rfl (by subst hp; exact k)
theorem Wk.iushr {x y : Int32} (G : Wk Z own p l e R s m args below meth c code mx B h0 n0 ws h cells slots pc L (.int y :: .int x :: S)) (pc' : Nat) (hd : decode code pc = .ok (.iushr, 1)) (hp : pc + 1 = pc') : Wk Z own p l e R s m args below meth c code mx B h0 n0 ws h cells slots pc' L (.int (XT.ushr x y) :: S) :=
  G.plain fun T H hx hy t k => XT.iushr (g := mkF m pc L (.int y :: .int x :: S)) H hx rfl (by rw [hy]; exact hd) rfl (by subst hp; exact k)
theorem Wk.idiv {x y : Int32} (G : Wk Z own p l e R s m args below meth c code mx B h0 n0 ws h cells slots pc L (.int y :: .int x :: S)) (pc' : Nat) (hd : decode code pc = .ok (.idiv, 1)) (hy0 : y ≠ 0) (hp : pc + 1 = pc') : Wk Z own p l e R s m args below meth c code mx B h0 n0 ws h cells slots pc' L (.int (x / y) :: S) :=
  G.plain fun T H hx hy t k => XS.idiv (g := mkF m pc L (.int y :: .int x :: S)) H hx rfl (by rw [hy]; exact hd) rfl hy0 (by subst hp; exact k)
theorem Wk.irem {x y : Int32} (G : Wk Z own p l e R s m args below meth c code mx B h0 n0 ws h cells slots pc L (.int y :: .int x :: S)) (pc' : Nat) (hd : decode code pc = .ok (.irem, 1)) (hy0 : y ≠ 0) (hp : pc + 1 = pc') : Wk Z own p l e R s m args below meth c code mx B h0 n0 ws h cells slots pc' L (.int (x - (x / y) * y) :: S) :=
  G.plain fun T H hx hy t k => XS.irem (g := mkF m pc L (.int y :: .int x :: S)) H hx rfl (by rw [hy]; exact hd) rfl hy0 (by subst hp; exact k)
theorem Wk.ineg {x : Int32} (G : Wk Z own p l e R s m args below meth c code mx B h0 n0 ws h cells slots pc L (.int x :: S)) (pc' : Nat) (hd : decode code pc = .ok (.ineg, 1)) (hp : pc + 1 = pc') : Wk Z own p l e R s m args below meth c code mx B h0 n0 ws h cells slots pc' L (.int (-x) :: S) :=
  G.plain fun T H hx hy t k => XS.ineg (g := mkF m pc L (.int x :: S)) H hx rfl (by rw [hy]; exact hd) rfl (by subst hp; exact k)
theorem Wk.ladd {x y : Int64} (G : Wk Z own p l e R s m args below meth c code mx B h0 n0 ws h cells slots pc L (.long y :: .long x :: S)) (pc' : Nat) (hd : decode code pc = .ok (.ladd, 1)) (hp : pc + 1 = pc') : Wk Z own p l e R s m args below meth c code mx B h0 n0 ws h cells slots pc' L (.long (x + y) :: S) :=
  G.plain fun T H hx hy t k => XT.ladd (g := mkF m pc L (.long y :: .long x :: S)) H hx rfl (by rw [hy]; exact hd) rfl (by subst hp; exact k)
theorem Wk.lsub {x y : Int64} (G : Wk Z own p l e R s m args below meth c code mx B h0 n0 ws h cells slots pc L (.long y :: .long x :: S)) (pc' : Nat) (hd : decode code pc = .ok (.lsub, 1)) (hp : pc + 1 = pc') : Wk Z own p l e R s m args below meth c code mx B h0 n0 ws h cells slots pc' L (.long (x - y) :: S) :=
  G.plain fun T H hx hy t k => XT.lsub (g := mkF m pc L (.long y :: .long x :: S)) H hx rfl (by rw [hy]; exact hd) rfl (by subst hp; exact k)
theorem Wk.lmul {x y : Int64} (G : Wk Z own p l e R s m args below meth c code mx B h0 n0 ws h cells slots pc L (.long y :: .long x :: S)) (pc' : Nat) (hd : decode code pc = .ok (.lmul, 1)) (hp : pc + 1 = pc') : Wk Z own p l e R s m args below meth c code mx B h0 n0 ws h cells slots pc' L (.long (x * y) :: S) :=
  G.plain fun T H hx hy t k => XT.lmul (g := mkF m pc L (.long y :: .long x :: S)) H hx rfl (by rw [hy]; exact hd) rfl (by subst hp; exact k)
theorem Wk.land {x y : Int64} (G : Wk Z own p l e R s m args below meth c code mx B h0 n0 ws h cells slots pc L (.long y :: .long x :: S)) (pc' : Nat) (hd : decode code pc = .ok (.land, 1)) (hp : pc + 1 = pc') : Wk Z own p l e R s m args below meth c code mx B h0 n0 ws h cells slots pc' L (.long (x &&& y) :: S) :=
  G.plain fun T H hx hy t k => XT.land (g := mkF m pc L (.long y :: .long x :: S)) H hx rfl (by rw [hy]; exact hd) rfl (by subst hp; exact k)
theorem Wk.lor {x y : Int64} (G : Wk Z own p l e R s m args below meth c code mx B h0 n0 ws h cells slots pc L (.long y :: .long x :: S)) (pc' : Nat) (hd : decode code pc = .ok (.lor, 1)) (hp : pc + 1 = pc') : Wk Z own p l e R s m args below meth c code mx B h0 n0 ws h cells slots pc' L (.long (x ||| y) :: S) :=
  G.plain fun T H hx hy t k => XT.lor (g := mkF m pc L (.long y :: .long x :: S)) H hx rfl (by rw [hy]; exact hd) rfl (by subst hp; exact k)
theorem Wk.lxor {x y : Int64} (G : Wk Z own p l e R s m args below meth c code mx B h0 n0 ws h cells slots pc L (.long y :: .long x :: S)) (pc' : Nat) (hd : decode code pc = .ok (.lxor, 1)) (hp : pc + 1 = pc') : Wk Z own p l e R s m args below meth c code mx B h0 n0 ws h cells slots pc' L (.long (x ^^^ y) :: S) :=
  G.plain fun T H hx hy t k => XT.lxor (g := mkF m pc L (.long y :: .long x :: S)) H hx rfl (by rw [hy]; exact hd) rfl (by subst hp; exact k)
theorem Wk.ldiv {x y : Int64} (G : Wk Z own p l e R s m args below meth c code mx B h0 n0 ws h cells slots pc L (.long y :: .long x :: S)) (pc' : Nat) (hd : decode code pc = .ok (.ldiv, 1)) (hy0 : y ≠ 0) (hp : pc + 1 = pc') : Wk Z own p l e R s m args below meth c code mx B h0 n0 ws h cells slots pc' L (.long (x / y) :: S) :=
  G.plain fun T H hx hy t k => XT.ldiv (g := mkF m pc L (.long y :: .long x :: S)) H hx rfl (by rw [hy]; exact hd) rfl hy0 (by subst hp; exact k)
theorem Wk.lrem {x y : Int64} (G : Wk Z own p l e R s m args below meth c code mx B h0 n0 ws h cells slots pc L (.long y :: .long x :: S)) (pc' : Nat) (hd : decode code pc = .ok (.lrem, 1)) (hy0 : y ≠ 0) (hp : pc + 1 = pc') : Wk Z own p l e R s m args below meth c code mx B h0 n0 ws h cells slots pc' L (.long (x - (x / y) * y) :: S) :=
  G.plain fun T H hx hy t k => XT.lrem (g := mkF m pc L (.long y :: .long x :: S)) H hx rfl (by rw [hy]; exact hd) rfl hy0 (by subst hp; exact k)
theorem Wk.lneg {x : Int64} (G : Wk Z own p l e R s m args below meth c code mx B h0 n0 ws h cells slots pc L (.long x :: S)) (pc' : Nat) (hd : decode code pc = .ok (.lneg, 1)) (hp : pc + 1 = pc') : Wk Z own p l e R s m args below meth c code mx B h0 n0 ws h cells slots pc' L (.long (-x) :: S) :=
  G.plain fun T H hx hy t k => XT.lneg (g := mkF m pc L (.long x :: S)) H hx rfl (by rw [hy]; exact hd) rfl (by subst hp; exact k)
theorem Wk.lushr {x : Int64} {y : Int32} (G : Wk Z own p l e R s m args below meth c code mx B h0 n0 ws h cells slots pc L (.int y :: .long x :: S)) (pc' : Nat) (hd : decode code pc = .ok (.lushr, 1)) (hp : pc + 1 = pc') : Wk Z own p l e R s m args below meth c code mx B h0 n0 ws h cells slots pc' L (.long (XT.ushrL x y) :: S) :=
  G.plain fun T H hx hy t k => XT.lushr (g := mkF m pc L (.int y :: .long x :: S)) H hx rfl (by rw [hy]; exact hd) rfl (by subst hp; exact k)
theorem Wk.lcmp {x y : Int64} (G : Wk Z own p l e R s m args below meth c code mx B h0 n0 ws h cells slots pc L (.long y :: .long x :: S)) (pc' : Nat) (hd : decode code pc = .ok (.lcmp, 1)) (hp : pc + 1 = pc') : Wk Z own p l e R s m args below meth c code mx B h0 n0 ws h cells slots pc' L (.int (XT.cmpL x y) :: S) :=
  G.plain fun T H hx hy t k => XT.lcmp (g := mkF m pc L (.long y :: .long x :: S)) H hx rfl (by rw [hy]; exact hd) rfl (by subst hp; exact k)
theorem Wk.i2l {x : Int32} (G : Wk Z own p l e R s m args below meth c code mx B h0 n0 ws h cells slots pc L (.int x :: S)) (pc' : Nat) (hd : decode code pc = .ok (.i2l, 1)) (hp : pc + 1 = pc') : Wk Z own p l e R s m args below meth c code mx B h0 n0 ws h cells slots pc' L (.long x.toInt64 :: S) :=
  G.plain fun T H hx hy t k => XT.i2l (g := mkF m pc L (.int x :: S)) H hx rfl (by rw [hy]; exact hd) rfl (by subst hp; exact k)
theorem Wk.l2i {x : Int64} (G : Wk Z own p l e R s m args below meth c code mx B h0 n0 ws h cells slots pc L (.long x :: S)) (pc' : Nat) (hd : decode code pc = .ok (.l2i, 1)) (hp : pc + 1 = pc') : Wk Z own p l e R s m args below meth c code mx B h0 n0 ws h cells slots pc' L (.int x.toInt32 :: S) :=
  G.plain fun T H hx hy t k => XT.l2i (g := mkF m pc L (.long x :: S)) H hx rfl (by rw [hy]; exact hd) rfl (by subst hp; exact k)
theorem Wk.i2b {x : Int32} (G : Wk Z own p l e R s m args below meth c code mx B h0 n0 ws h cells slots pc L (.int x :: S)) (pc' : Nat) (hd : decode code pc = .ok (.i2b, 1)) (hp : pc + 1 = pc') : Wk Z own p l e R s m args below meth c code mx B h0 n0 ws h cells slots pc' L (.int x.toInt8.toInt32 :: S) :=
  G.plain fun T H hx hy t k => XT.i2b (g := mkF m pc L (.int x :: S)) H hx rfl (by rw [hy]; exact hd) rfl (by subst hp; exact k)
theorem Wk.i2c {x : Int32} (G : Wk Z own p l e R s m args below meth c code mx B h0 n0 ws h cells slots pc L (.int x :: S)) (pc' : Nat) (hd : decode code pc = .ok (.i2c, 1)) (hp : pc + 1 = pc') : Wk Z own p l e R s m args below meth c code mx B h0 n0 ws h cells slots pc' L (.int x.toUInt32.toUInt16.toUInt32.toInt32 :: S) :=
  G.plain fun T H hx hy t k => XT.i2c (g := mkF m pc L (.int x :: S)) H hx rfl (by rw [hy]; exact hd) rfl (by subst hp; exact k)
theorem Wk.dup {x : Value} (G : Wk Z own p l e R s m args below meth c code mx B h0 n0 ws h cells slots pc L (x :: S)) (pc' : Nat) (hd : decode code pc = .ok (.dup, 1)) (hc : x.category = 1) (hp : pc + 1 = pc') : Wk Z own p l e R s m args below meth c code mx B h0 n0 ws h cells slots pc' L (x :: x :: S) :=
  G.plain fun T H hx hy t k => XS.dup (g := mkF m pc L (x :: S)) H hx rfl (by rw [hy]; exact hd) rfl hc (by subst hp; exact k)
theorem Wk.pop {x : Value} (G : Wk Z own p l e R s m args below meth c code mx B h0 n0 ws h cells slots pc L (x :: S)) (pc' : Nat) (hd : decode code pc = .ok (.pop, 1)) (hc : x.category = 1) (hp : pc + 1 = pc') : Wk Z own p l e R s m args below meth c code mx B h0 n0 ws h cells slots pc' L S :=
  G.plain fun T H hx hy t k => XT.pop (g := mkF m pc L (x :: S)) H hx rfl (by rw [hy]; exact hd) rfl hc (by subst hp; exact k)
theorem Wk.dupX1 {x y : Value} (G : Wk Z own p l e R s m args below meth c code mx B h0 n0 ws h cells slots pc L (y :: x :: S)) (pc' : Nat) (hd : decode code pc = .ok (.dup_x1, 1)) (hc : y.category = 1) (hc' : x.category = 1) (hp : pc + 1 = pc') : Wk Z own p l e R s m args below meth c code mx B h0 n0 ws h cells slots pc' L (y :: x :: y :: S) :=
  G.plain fun T H hx hy t k => XT.dupX1 (g := mkF m pc L (y :: x :: S)) H hx rfl (by rw [hy]; exact hd) rfl hc hc' (by subst hp; exact k)
theorem Wk.i2dS {x : Int32} {v : UInt64} (G : Wk Z own p l e R s m args below meth c code mx B h0 n0 ws h cells slots pc L (.int x :: S)) (pc' : Nat) (hd : decode code pc = .ok (.i2d, 1)) (hv : FP.i2d x = v) (hp : pc + 1 = pc') : Wk Z own p l e R s m args below meth c code mx B h0 n0 ws h cells slots pc' L (.double v :: S) :=
  G.plain fun T H hx hy t k => XS.i2dS (g := mkF m pc L (.int x :: S)) H hx rfl (by rw [hy]; exact hd) rfl hv (by subst hp; exact k)
theorem Wk.l2dS {x : Int64} {v : UInt64} (G : Wk Z own p l e R s m args below meth c code mx B h0 n0 ws h cells slots pc L (.long x :: S)) (pc' : Nat) (hd : decode code pc = .ok (.l2d, 1)) (hv : FP.l2d x = v) (hp : pc + 1 = pc') : Wk Z own p l e R s m args below meth c code mx B h0 n0 ws h cells slots pc' L (.double v :: S) :=
  G.plain fun T H hx hy t k => XS.l2dS (g := mkF m pc L (.long x :: S)) H hx rfl (by rw [hy]; exact hd) rfl hv (by subst hp; exact k)
theorem Wk.daddS {x y v : UInt64} (G : Wk Z own p l e R s m args below meth c code mx B h0 n0 ws h cells slots pc L (.double y :: .double x :: S)) (pc' : Nat) (hd : decode code pc = .ok (.dadd, 1)) (hn : Jvm.Free.Fl.NoNaN64 (FP.dadd x y)) (hv : FP.dadd x y = v) (hp : pc + 1 = pc') : Wk Z own p l e R s m args below meth c code mx B h0 n0 ws h cells slots pc' L (.double v :: S) :=
  G.plain fun T H hx hy t k => XS.daddS (g := mkF m pc L (.double y :: .double x :: S)) H hx rfl (by rw [hy]; exact hd) rfl hn hv (by subst hp; exact k)
theorem Wk.dcmpS {o : CmpOp} {x y : UInt64} {v : Int32} (G : Wk Z own p l e R s m args below meth c code mx B h0 n0 ws h cells slots pc L (.double y :: .double x :: S)) (pc' : Nat) (hd : decode code pc = .ok (.dcmp o, 1)) (hv : cmpValue (FP.dcmp x y) o = v) (hp : pc + 1 = pc') : Wk Z own p l e R s m args below meth c code mx B h0 n0 ws h cells slots pc' L (.int v :: S) :=
  G.plain fun T H hx hy t k => XS.dcmpS (g := mkF m pc L (.double y :: .double x :: S)) H hx rfl (by rw [hy]; exact hd) rfl hv (by subst hp; exact k)
theorem Wk.goto  {o : Int} (G : Wk Z own p l e R s m args below meth c code mx B h0 n0 ws h cells slots pc L S) (pc' : Nat) (hd : decode code pc = .ok (.goto o, 3)) (ho : 0 ≤ (pc : Int) + o) (hp : ((pc : Int) + o).toNat = pc') : Wk Z own p l e R s m args below meth c code mx B h0 n0 ws h cells slots pc' L S :=
  G.plain fun T H hx hy t k => XS.goto (g := mkF m pc L (S)) (pc' := pc') H hx rfl rfl (by rw [hy]; exact hd) ho hp k
theorem Wk.ifT {cd : ClassFile.Cond} {x : Int32} {o : Int} (G : Wk Z own p l e R s m args below meth c code mx B h0 n0 ws h cells slots pc L (.int x :: S)) (pc' : Nat) (hd : decode code pc = .ok (.ifCond cd o, 3)) (hc : ifCond.holds cd x = true) (ho : 0 ≤ (pc : Int) + o) (hp : ((pc : Int) + o).toNat = pc') : Wk Z own p l e R s m args below meth c code mx B h0 n0 ws h cells slots pc' L S :=
  G.plain fun T H hx hy t k => XS.ifYes (g := mkF m pc L (.int x :: S)) (pc' := pc') H hx rfl rfl (by rw [hy]; exact hd) rfl hc ho hp k
theorem Wk.icmpT {cd : ClassFile.Cond} {x y : Int32} {o : Int} (G : Wk Z own p l e R s m args below meth c code mx B h0 n0 ws h cells slots pc L (.int y :: .int x :: S)) (pc' : Nat) (hd : decode code pc = .ok (.if_icmp cd o, 3)) (hc : if_icmp.holds cd x y = true) (ho : 0 ≤ (pc : Int) + o) (hp : ((pc : Int) + o).toNat = pc') : Wk Z own p l e R s m args below meth c code mx B h0 n0 ws h cells slots pc' L S :=
  G.plain fun T H hx hy t k => XS.icmpYes (g := mkF m pc L (.int y :: .int x :: S)) (pc' := pc') H hx rfl rfl (by rw [hy]; exact hd) rfl hc ho hp k
theorem Wk.ifnullT  {o : Int} (G : Wk Z own p l e R s m args below meth c code mx B h0 n0 ws h cells slots pc L (.null :: S)) (pc' : Nat) (hd : decode code pc = .ok (.ifnull o, 3)) (ho : 0 ≤ (pc : Int) + o) (hp : ((pc : Int) + o).toNat = pc') : Wk Z own p l e R s m args below meth c code mx B h0 n0 ws h cells slots pc' L S :=
  G.plain fun T H hx hy t k => XS.ifnullYes (g := mkF m pc L (.null :: S)) (pc' := pc') H hx rfl rfl (by rw [hy]; exact hd) rfl ho hp k
theorem Wk.ifnonnullT {b : Addr} {o : Int} (G : Wk Z own p l e R s m args below meth c code mx B h0 n0 ws h cells slots pc L (.ref b :: S)) (pc' : Nat) (hd : decode code pc = .ok (.ifnonnull o, 3)) (ho : 0 ≤ (pc : Int) + o) (hp : ((pc : Int) + o).toNat = pc') : Wk Z own p l e R s m args below meth c code mx B h0 n0 ws h cells slots pc' L S :=
  G.plain fun T H hx hy t k => XT.ifnonnullYes (g := mkF m pc L (.ref b :: S)) (pc' := pc') H hx rfl rfl (by rw [hy]; exact hd) rfl ho hp k
theorem Wk.acmpT {cd : ClassFile.ACond} {x y : Value} {o : Int} (G : Wk Z own p l e R s m args below meth c code mx B h0 n0 ws h cells slots pc L (y :: x :: S)) (pc' : Nat) (hd : decode code pc = .ok (.if_acmp cd o, 3)) (hx1 : x.isRef = true) (hy1 : y.isRef = true) (hc : XT.acmp cd x y = true) (ho : 0 ≤ (pc : Int) + o) (hp : ((pc : Int) + o).toNat = pc') : Wk Z own p l e R s m args below meth c code mx B h0 n0 ws h cells slots pc' L S :=
  G.plain fun T H hx hy t k => XT.acmpYes (g := mkF m pc L (y :: x :: S)) (pc' := pc') H hx rfl rfl (by rw [hy]; exact hd) rfl hx1 hy1 hc ho hp k
theorem Wk.ifF {cd : ClassFile.Cond} {x : Int32} {o : Int} (G : Wk Z own p l e R s m args below meth c code mx B h0 n0 ws h cells slots pc L (.int x :: S)) (pc' : Nat) (hd : decode code pc = .ok (.ifCond cd o, 3)) (hc : ifCond.holds cd x = false) (hp : pc + 3 = pc') : Wk Z own p l e R s m args below meth c code mx B h0 n0 ws h cells slots pc' L S :=
  G.plain fun T H hx hy t k => XS.ifNo (g := mkF m pc L (.int x :: S)) H hx rfl (by rw [hy]; exact hd) rfl hc (by subst hp; exact k)
theorem Wk.icmpF {cd : ClassFile.Cond} {x y : Int32} {o : Int} (G : Wk Z own p l e R s m args below meth c code mx B h0 n0 ws h cells slots pc L (.int y :: .int x :: S)) (pc' : Nat) (hd : decode code pc = .ok (.if_icmp cd o, 3)) (hc : if_icmp.holds cd x y = false) (hp : pc + 3 = pc') : Wk Z own p l e R s m args below meth c code mx B h0 n0 ws h cells slots pc' L S :=
  G.plain fun T H hx hy t k => XS.icmpNo (g := mkF m pc L (.int y :: .int x :: S)) H hx rfl (by rw [hy]; exact hd) rfl hc (by subst hp; exact k)
theorem Wk.ifnullF {b : Addr} {o : Int} (G : Wk Z own p l e R s m args below meth c code mx B h0 n0 ws h cells slots pc L (.ref b :: S)) (pc' : Nat) (hd : decode code pc = .ok (.ifnull o, 3)) (hp : pc + 3 = pc') : Wk Z own p l e R s m args below meth c code mx B h0 n0 ws h cells slots pc' L S :=
  G.plain fun T H hx hy t k => XS.ifnullNo (g := mkF m pc L (.ref b :: S)) H hx rfl (by rw [hy]; exact hd) rfl (by subst hp; exact k)
theorem Wk.ifnonnullF  {o : Int} (G : Wk Z own p l e R s m args below meth c code mx B h0 n0 ws h cells slots pc L (.null :: S)) (pc' : Nat) (hd : decode code pc = .ok (.ifnonnull o, 3)) (hp : pc + 3 = pc') : Wk Z own p l e R s m args below meth c code mx B h0 n0 ws h cells slots pc' L S :=
  G.plain fun T H hx hy t k => XT.ifnonnullNo (g := mkF m pc L (.null :: S)) H hx rfl (by rw [hy]; exact hd) rfl (by subst hp; exact k)
theorem Wk.acmpF {cd : ClassFile.ACond} {x y : Value} {o : Int} (G : Wk Z own p l e R s m args below meth c code mx B h0 n0 ws h cells slots pc L (y :: x :: S)) (pc' : Nat) (hd : decode code pc = .ok (.if_acmp cd o, 3)) (hx1 : x.isRef = true) (hy1 : y.isRef = true) (hc : XT.acmp cd x y = false) (hp : pc + 3 = pc') : Wk Z own p l e R s m args below meth c code mx B h0 n0 ws h cells slots pc' L S :=
  G.plain fun T H hx hy t k => XT.acmpNo (g := mkF m pc L (y :: x :: S)) H hx rfl (by rw [hy]; exact hd) rfl hx1 hy1 hc (by subst hp; exact k)
theorem ext_keep {h h' : Heap} (E : Ext h h') : Keep h h' [] := (Keep.refl h []).ext E
def NW (h0 : Heap) (ws : List Addr) (a : Addr) : Prop := a ∈ ws ∨ h0.size ≤ a
theorem NW.new {a : Addr} (q : h0.size ≤ a) : NW h0 ws a := Or.inr q
theorem Wk.isNew (G : Wk Z own p l e R s m args below meth c code mx B h0 n0 ws h cells slots pc L S) {a : Addr} (q : a = h.size) : NW h0 ws a := Or.inr (q ▸ G.sz)
theorem ne_new {a b : Addr} {n : Nat} (q : a = n) (r : b < n) : b ≠ a := Nat.ne_of_lt (q.symm ▸ r)
theorem Wk.new {C : String} {index n : Nat} (G : Wk Z own p l e R s m args below meth c code mx B h0 n0 ws h cells slots pc L S) (pc' : Nat) (w : (Cond.classLink own index C).before a0 Z = true) (wi : (Cond.instantiable C n).before a0 Z = true) (wz : (Cond.initialized C).before a0 Z = true) (hd : decode code pc = .ok (.new index, 3)) (hp : pc + 3 = pc') (hc : cells + 1 ≤ R.cells) (hl : slots + n ≤ R.slots) : ∃ (a : Addr) (h' : Heap), Wk Z own p l e R s m args below meth c code mx B h0 n0 ws h' (cells + 1) (slots + n) pc' L (.ref a :: S) ∧ a = h.size ∧ h0.size ≤ a ∧ Ext h h' ∧ Exa Z h' a C ∧ (∀ {O nm d : String} {ty : FieldType}, Laid Z a0 C O nm d → parseFieldDescriptor d = some ty → Fld Z h' a O nm d (defaultValue ty)) ∧ Unt h' a := by
  obtain ⟨⟨hx, hby, hml, hown, hZ⟩, ⟨z1, z2, z3⟩, T, locs, X, N, eT, k⟩ := G
  obtain ⟨T', h', X', e', E, A, D, U, st⟩ := newO X hx hZ hown w wi wz eT (g := mkF m pc L S) rfl (hb hby hd) hc hl
  exact ⟨h.size, h', ⟨⟨hx, hby, hml, hown, hZ⟩, ⟨z1, z2.ext E, z3⟩, T', _, X', N, e', fun t q => k t (st t (by subst hp; exact q))⟩, rfl, z2.1, E, A, D, U⟩
theorem Wk.newarray {aty : ArrayType} {n : Int32} (G : Wk Z own p l e R s m args below meth c code mx B h0 n0 ws h cells slots pc L (.int n :: S)) (pc' : Nat) (w : (Cond.arrayClass (newarray.typeOf aty)).before a0 Z = true) (hd : decode code pc = .ok (.newarray aty, 2)) (hn : ¬ n < 0) (cap : Nat) (hcap : n.toNatClampNeg ≤ cap) (hb8 : cap * 8 ≤ 536870912) (hp : pc + 2 = pc') (hc : cells + 1 ≤ R.cells) (hl : slots + cap ≤ R.slots) : ∃ (a : Addr) (h' : Heap) (k : ClassId), Wk Z own p l e R s m args below meth c code mx B h0 n0 ws h' (cells + 1) (slots + cap) pc' L (.ref a :: S) ∧ a = h.size ∧ h0.size ≤ a ∧ Ext h h' ∧ Arv Z h' a k (newarray.typeOf aty) n [] (defaultValue (newarray.typeOf aty)) := by
  obtain ⟨⟨hx, hby, hml, hown, hZ⟩, ⟨z1, z2, z3⟩, T, locs, X, N, eT, k⟩ := G
  obtain ⟨T', h', cA, X', e', E, A, st⟩ := newP X hx hZ w eT (g := mkF m pc L (.int n :: S)) rfl (hb hby hd) rfl hn hcap hb8 hc hl
  exact ⟨h.size, h', cA, ⟨⟨hx, hby, hml, hown, hZ⟩, ⟨z1, z2.ext E, z3⟩, T', _, X', N, e', fun t q => k t (st t (by subst hp; exact q))⟩, rfl, z2.1, E, Arv.new A hn⟩
theorem Wk.getf {R0 O n d host : String} {index : Nat} {a : Addr} {v : Value} (G : Wk Z own p l e R s m args below meth c code mx B h0 n0 ws h cells slots pc L (.ref a :: S)) (pc' : Nat) (w : (Cond.fieldLink own index R0 n d).before a0 Z = true ∨ (Cond.fieldLinkNest own index R0 n d host).before a0 Z = true) (via : Via Z R0 O n d) (F : Fld Z h a O n d v) (hd : decode code pc = .ok (.getfield index, 3)) (hp : pc + 3 = pc') : Wk Z own p l e R s m args below meth c code mx B h0 n0 ws h cells slots pc' L (v :: S) := by
  obtain ⟨⟨hx, hby, hml, hown, hZ⟩, ⟨z1, z2, z3⟩, T, locs, X, N, eT, k⟩ := G
  obtain ⟨T', X', e', st⟩ := getF X hx hZ hown w via eT F (g := mkF m pc L (.ref a :: S)) rfl rfl (hb hby hd)
  exact ⟨⟨hx, hby, hml, hown, hZ⟩, ⟨z1, z2, z3⟩, T', _, X', N, e', fun t q => k t (st t (by subst hp; exact q))⟩
theorem Wk.gets {R0 O n d host : String} {index : Nat} {v : Value} (G : Wk Z own p l e R s m args below meth c code mx B h0 n0 ws h cells slots pc L S) (pc' : Nat) (w : (Cond.fieldLink own index R0 n d).before a0 Z = true ∨ (Cond.fieldLinkNest own index R0 n d host).before a0 Z = true) (via : Via Z R0 O n d) (F : Sta Z h O n d v) (hd : decode code pc = .ok (.getstatic index, 3)) (hp : pc + 3 = pc') : Wk Z own p l e R s m args below meth c code mx B h0 n0 ws h cells slots pc' L (v :: S) := by
  obtain ⟨⟨hx, hby, hml, hown, hZ⟩, ⟨z1, z2, z3⟩, T, locs, X, N, eT, k⟩ := G
  obtain ⟨T', X', e', st⟩ := getS2 X hx hZ hown w via eT F (g := mkF m pc L S) rfl (hb hby hd)
  exact ⟨⟨hx, hby, hml, hown, hZ⟩, ⟨z1, z2, z3⟩, T', _, X', N, e', fun t q => k t (st t (by subst hp; exact q))⟩
theorem Wk.putf {R0 O n d host C : String} {index kk : Nat} {ty : FieldType} {a : Addr} {v old : Value} (G : Wk Z own p l e R s m args below meth c code mx B h0 n0 ws h cells slots pc L (v :: .ref a :: S)) (pc' : Nat) (w : (Cond.fieldLink own index R0 n d).before a0 Z = true ∨ (Cond.fieldLinkNest own index R0 n d host).before a0 Z = true) (via : Via Z R0 O n d) (F : Fld Z h a O n d old) (E : Exa Z h a C) (lay : (Cond.lays C O n d).before a0 Z = true ∨ ((Cond.laysFinal C O n d).before a0 Z = true ∧ own = O ∧ meth.name = "<init>")) (wi : (Cond.instantiable C kk).before a0 Z = true) (hty : parseFieldDescriptor d = some ty) (hn : narrow ty v = v) (hf : fits ty v = true) (q : NW h0 ws a) (hd : decode code pc = .ok (.putfield index, 3)) (hp : pc + 3 = pc') : ∃ (h' : Heap), Wk Z own p l e R s m args below meth c code mx B h0 n0 ws h' cells slots pc' L S ∧ Wr h h' a (Jvm.RoadKit.slotOf Z O n d) v ∧ Fld Z h' a O n d v ∧ Keep h h' [a] := by
  have qn := G.nw q
  obtain ⟨⟨hx, hby, hml, hown, hZ⟩, ⟨z1, z2, z3⟩, T, locs, X, N, eT, k⟩ := G
  obtain ⟨T', h', X', e', W', st⟩ := putF X hx hZ hown w via eT F E lay wi hty hn hf (g := mkF m pc L (v :: .ref a :: S)) rfl rfl (hb hby hd)
  exact ⟨h', ⟨⟨hx, hby, hml, hown, hZ⟩, ⟨z1, z2.wr W' q, z3⟩, T', _, X', Fr.snoc X' N qn, e', fun t q => k t (st t (by subst hp; exact q))⟩, W', F.same W', Keep.of_wr W'⟩
theorem Wk.alen {a : Addr} {k : ClassId} {ty : FieldType} {z : Int32} {vs : List Value} {dv : Value} (G : Wk Z own p l e R s m args below meth c code mx B h0 n0 ws h cells slots pc L (.ref a :: S)) (pc' : Nat) (A : Arv Z h a k ty z vs dv) (hd : decode code pc = .ok (.arraylength, 1)) (hp : pc + 1 = pc') : Wk Z own p l e R s m args below meth c code mx B h0 n0 ws h cells slots pc' L (.int z :: S) := by
  obtain ⟨⟨hx, hby, hml, hown, hZ⟩, ⟨z1, z2, z3⟩, T, locs, X, N, eT, k⟩ := G
  obtain ⟨cl, Ar, -, hSz, hN, -⟩ := A
  refine ⟨⟨hx, hby, hml, hown, hZ⟩, ⟨z1, z2, z3⟩, T, locs, X, N, eT, fun t q => k t ?_⟩
  refine X.arraylength hx (by rw [eT]; exact Ar.1) (State.isArrayOf_alike hZ.alike Ar.2.1) (g := mkF m pc L (.ref a :: S)) rfl rfl (hb hby hd) _ ?_
  rw [len_of hSz hN]; exact hp ▸ q
theorem Wk.iaload {a : Addr} {k : ClassId} {z j : Int32} {vs : List Value} {dv v : Value} (G : Wk Z own p l e R s m args below meth c code mx B h0 n0 ws h cells slots pc L (.int j :: .ref a :: S)) (pc' : Nat) (A : Arv Z h a k .int z vs dv) (hj : ¬ j < 0 ∧ j < z) (hv : vs.getD j.toNatClampNeg dv = v) (hd : decode code pc = .ok (.iaload, 1)) (hp : pc + 1 = pc') : Wk Z own p l e R s m args below meth c code mx B h0 n0 ws h cells slots pc' L (v :: S) := by
  obtain ⟨⟨hx, hby, hml, hown, hZ⟩, ⟨z1, z2, z3⟩, T, locs, X, N, eT, k⟩ := G
  obtain ⟨cl, Ar, -, hSz, hN, H, -⟩ := A
  refine ⟨⟨hx, hby, hml, hown, hZ⟩, ⟨z1, z2, z3⟩, T, locs, X, N, eT, fun t q => k t ?_⟩
  have hin := inb_of hSz hj
  exact X.iaload hx (by rw [eT]; exact Ar.1) (State.isArrayOf_alike hZ.alike Ar.2.1) Ar.2.2 hin (H.at hin hv) (g := mkF m pc L (.int j :: .ref a :: S)) rfl rfl (hb hby hd) t (by subst hp; exact q)
theorem Wk.laload {a : Addr} {k : ClassId} {z j : Int32} {vs : List Value} {dv v : Value} (G : Wk Z own p l e R s m args below meth c code mx B h0 n0 ws h cells slots pc L (.int j :: .ref a :: S)) (pc' : Nat) (A : Arv Z h a k .long z vs dv) (hj : ¬ j < 0 ∧ j < z) (hv : vs.getD j.toNatClampNeg dv = v) (hd : decode code pc = .ok (.laload, 1)) (hp : pc + 1 = pc') : Wk Z own p l e R s m args below meth c code mx B h0 n0 ws h cells slots pc' L (v :: S) := by
  obtain ⟨⟨hx, hby, hml, hown, hZ⟩, ⟨z1, z2, z3⟩, T, locs, X, N, eT, k⟩ := G
  obtain ⟨cl, Ar, -, hSz, hN, H, -⟩ := A
  refine ⟨⟨hx, hby, hml, hown, hZ⟩, ⟨z1, z2, z3⟩, T, locs, X, N, eT, fun t q => k t ?_⟩
  have hin := inb_of hSz hj
  exact X.laload hx (by rw [eT]; exact Ar.1) (State.isArrayOf_alike hZ.alike Ar.2.1) Ar.2.2 hin (H.at hin hv) (g := mkF m pc L (.int j :: .ref a :: S)) rfl rfl (hb hby hd) t (by subst hp; exact q)
theorem Wk.caload {a : Addr} {k : ClassId} {z j : Int32} {vs : List Value} {dv v : Value} (G : Wk Z own p l e R s m args below meth c code mx B h0 n0 ws h cells slots pc L (.int j :: .ref a :: S)) (pc' : Nat) (A : Arv Z h a k .char z vs dv) (hj : ¬ j < 0 ∧ j < z) (hv : vs.getD j.toNatClampNeg dv = v) (hd : decode code pc = .ok (.caload, 1)) (hp : pc + 1 = pc') : Wk Z own p l e R s m args below meth c code mx B h0 n0 ws h cells slots pc' L (v :: S) := by
  obtain ⟨⟨hx, hby, hml, hown, hZ⟩, ⟨z1, z2, z3⟩, T, locs, X, N, eT, k⟩ := G
  obtain ⟨cl, Ar, -, hSz, hN, H, -⟩ := A
  refine ⟨⟨hx, hby, hml, hown, hZ⟩, ⟨z1, z2, z3⟩, T, locs, X, N, eT, fun t q => k t ?_⟩
  have hin := inb_of hSz hj
  exact X.caload hx (by rw [eT]; exact Ar.1) (State.isArrayOf_alike hZ.alike Ar.2.1) Ar.2.2 hin (H.at hin hv) (g := mkF m pc L (.int j :: .ref a :: S)) rfl rfl (hb hby hd) t (by subst hp; exact q)
theorem Wk.baload {a : Addr} {k : ClassId} {z j : Int32} {vs : List Value} {dv v : Value} (G : Wk Z own p l e R s m args below meth c code mx B h0 n0 ws h cells slots pc L (.int j :: .ref a :: S)) (pc' : Nat) (A : Arv Z h a k .byte z vs dv) (hj : ¬ j < 0 ∧ j < z) (hv : vs.getD j.toNatClampNeg dv = v) (hd : decode code pc = .ok (.baload, 1)) (hp : pc + 1 = pc') : Wk Z own p l e R s m args below meth c code mx B h0 n0 ws h cells slots pc' L (v :: S) := by
  obtain ⟨⟨hx, hby, hml, hown, hZ⟩, ⟨z1, z2, z3⟩, T, locs, X, N, eT, k⟩ := G
  obtain ⟨cl, Ar, -, hSz, hN, H, -⟩ := A
  refine ⟨⟨hx, hby, hml, hown, hZ⟩, ⟨z1, z2, z3⟩, T, locs, X, N, eT, fun t q => k t ?_⟩
  have hin := inb_of hSz hj
  exact X.baloadBytes hx (by rw [eT]; exact Ar.1) (State.isArrayOf_alike hZ.alike Ar.2.1) Ar.2.2 hin (H.at hin hv) (g := mkF m pc L (.int j :: .ref a :: S)) rfl rfl (hb hby hd) t (by subst hp; exact q)
theorem Wk.daload {a : Addr} {k : ClassId} {z j : Int32} {vs : List Value} {dv v : Value} (G : Wk Z own p l e R s m args below meth c code mx B h0 n0 ws h cells slots pc L (.int j :: .ref a :: S)) (pc' : Nat) (A : Arv Z h a k .double z vs dv) (hj : ¬ j < 0 ∧ j < z) (hv : vs.getD j.toNatClampNeg dv = v) (hd : decode code pc = .ok (.daload, 1)) (hp : pc + 1 = pc') : Wk Z own p l e R s m args below meth c code mx B h0 n0 ws h cells slots pc' L (v :: S) := by
  obtain ⟨⟨hx, hby, hml, hown, hZ⟩, ⟨z1, z2, z3⟩, T, locs, X, N, eT, k⟩ := G
  obtain ⟨cl, Ar, -, hSz, hN, H, -⟩ := A
  refine ⟨⟨hx, hby, hml, hown, hZ⟩, ⟨z1, z2, z3⟩, T, locs, X, N, eT, fun t q => k t ?_⟩
  have hin := inb_of hSz hj
  exact X.daload hx (by rw [eT]; exact Ar.1) (State.isArrayOf_alike hZ.alike Ar.2.1) Ar.2.2 hin (H.at hin hv) (g := mkF m pc L (.int j :: .ref a :: S)) rfl rfl (hb hby hd) t (by subst hp; exact q)
theorem Wk.iastore {a : Addr} {k : ClassId} {z j : Int32} {x : Int32} {vs : List Value} {dv : Value} (G : Wk Z own p l e R s m args below meth c code mx B h0 n0 ws h cells slots pc L (.int x :: .int j :: .ref a :: S)) (pc' : Nat) (i : Nat) (A : Arv Z h a k .int z vs dv) (hj : ¬ j < 0 ∧ j < z) (hi : j.toNatClampNeg = i) (hl : i < vs.length) (q : NW h0 ws a) (hd : decode code pc = .ok (.iastore, 1)) (hp : pc + 1 = pc') : ∃ (h' : Heap), Wk Z own p l e R s m args below meth c code mx B h0 n0 ws h' cells slots pc' L S ∧ Arv Z h' a k .int z (vs.set i (.int x)) dv ∧ Keep h h' [a] := by
  have qn := G.nw q
  obtain ⟨⟨hx, hby, hml, hown, hZ⟩, ⟨z1, z2, z3⟩, T, locs, X, N, eT, k⟩ := G
  obtain ⟨cl, Ar, q1, hSz, hN, H, F⟩ := A
  obtain ⟨T', h', X', e', W', st⟩ := stI X hx hZ eT Ar (inb_of hSz hj) (g := mkF m pc L (.int x :: .int j :: .ref a :: S)) rfl rfl (hb hby hd)
  exact ⟨h', ⟨⟨hx, hby, hml, hown, hZ⟩, ⟨z1, z2.wr W' q, z3⟩, T', _, X', Fr.snoc X' N qn, e', fun t q => k t (st t (by subst hp; exact q))⟩, Arv.set Ar q1 hSz hN H F rfl W' i hi hl, Keep.of_wr W'⟩
theorem Wk.lastore {a : Addr} {k : ClassId} {z j : Int32} {x : Int64} {vs : List Value} {dv : Value} (G : Wk Z own p l e R s m args below meth c code mx B h0 n0 ws h cells slots pc L (.long x :: .int j :: .ref a :: S)) (pc' : Nat) (i : Nat) (A : Arv Z h a k .long z vs dv) (hj : ¬ j < 0 ∧ j < z) (hi : j.toNatClampNeg = i) (hl : i < vs.length) (q : NW h0 ws a) (hd : decode code pc = .ok (.lastore, 1)) (hp : pc + 1 = pc') : ∃ (h' : Heap), Wk Z own p l e R s m args below meth c code mx B h0 n0 ws h' cells slots pc' L S ∧ Arv Z h' a k .long z (vs.set i (.long x)) dv ∧ Keep h h' [a] := by
  have qn := G.nw q
  obtain ⟨⟨hx, hby, hml, hown, hZ⟩, ⟨z1, z2, z3⟩, T, locs, X, N, eT, k⟩ := G
  obtain ⟨cl, Ar, q1, hSz, hN, H, F⟩ := A
  obtain ⟨T', h', X', e', W', st⟩ := stJ X hx hZ eT Ar (inb_of hSz hj) (g := mkF m pc L (.long x :: .int j :: .ref a :: S)) rfl rfl (hb hby hd)
  exact ⟨h', ⟨⟨hx, hby, hml, hown, hZ⟩, ⟨z1, z2.wr W' q, z3⟩, T', _, X', Fr.snoc X' N qn, e', fun t q => k t (st t (by subst hp; exact q))⟩, Arv.set Ar q1 hSz hN H F rfl W' i hi hl, Keep.of_wr W'⟩
theorem Wk.dastore {a : Addr} {k : ClassId} {z j : Int32} {x : UInt64} {vs : List Value} {dv : Value} (G : Wk Z own p l e R s m args below meth c code mx B h0 n0 ws h cells slots pc L (.double x :: .int j :: .ref a :: S)) (pc' : Nat) (i : Nat) (A : Arv Z h a k .double z vs dv) (hj : ¬ j < 0 ∧ j < z) (hi : j.toNatClampNeg = i) (hl : i < vs.length) (q : NW h0 ws a) (hd : decode code pc = .ok (.dastore, 1)) (hp : pc + 1 = pc') : ∃ (h' : Heap), Wk Z own p l e R s m args below meth c code mx B h0 n0 ws h' cells slots pc' L S ∧ Arv Z h' a k .double z (vs.set i (.double x)) dv ∧ Keep h h' [a] := by
  have qn := G.nw q
  obtain ⟨⟨hx, hby, hml, hown, hZ⟩, ⟨z1, z2, z3⟩, T, locs, X, N, eT, k⟩ := G
  obtain ⟨cl, Ar, q1, hSz, hN, H, F⟩ := A
  obtain ⟨T', h', X', e', W', st⟩ := stD X hx hZ eT Ar (inb_of hSz hj) (g := mkF m pc L (.double x :: .int j :: .ref a :: S)) rfl rfl (hb hby hd)
  exact ⟨h', ⟨⟨hx, hby, hml, hown, hZ⟩, ⟨z1, z2.wr W' q, z3⟩, T', _, X', Fr.snoc X' N qn, e', fun t q => k t (st t (by subst hp; exact q))⟩, Arv.set Ar q1 hSz hN H F rfl W' i hi hl, Keep.of_wr W'⟩
theorem Wk.castore {a : Addr} {k : ClassId} {z j : Int32} {x : Int32} {vs : List Value} {dv : Value} (G : Wk Z own p l e R s m args below meth c code mx B h0 n0 ws h cells slots pc L (.int x :: .int j :: .ref a :: S)) (pc' : Nat) (i : Nat) (A : Arv Z h a k .char z vs dv) (hj : ¬ j < 0 ∧ j < z) (hi : j.toNatClampNeg = i) (hl : i < vs.length) (q : NW h0 ws a) (hd : decode code pc = .ok (.castore, 1)) (hp : pc + 1 = pc') : ∃ (h' : Heap), Wk Z own p l e R s m args below meth c code mx B h0 n0 ws h' cells slots pc' L S ∧ Arv Z h' a k .char z (vs.set i (.int (nar .char x))) dv ∧ Keep h h' [a] := by
  have qn := G.nw q
  obtain ⟨⟨hx, hby, hml, hown, hZ⟩, ⟨z1, z2, z3⟩, T, locs, X, N, eT, k⟩ := G
  obtain ⟨cl, Ar, q1, hSz, hN, H, F⟩ := A
  obtain ⟨T', h', X', e', W', st⟩ := stC X hx hZ eT Ar (inb_of hSz hj) (g := mkF m pc L (.int x :: .int j :: .ref a :: S)) rfl rfl (hb hby hd)
  exact ⟨h', ⟨⟨hx, hby, hml, hown, hZ⟩, ⟨z1, z2.wr W' q, z3⟩, T', _, X', Fr.snoc X' N qn, e', fun t q => k t (st t (by subst hp; exact q))⟩, Arv.set Ar q1 hSz hN H F (fits_nar_char x) W' i hi hl, Keep.of_wr W'⟩
theorem Wk.bastore {a : Addr} {k : ClassId} {z j : Int32} {x : Int32} {vs : List Value} {dv : Value} (G : Wk Z own p l e R s m args below meth c code mx B h0 n0 ws h cells slots pc L (.int x :: .int j :: .ref a :: S)) (pc' : Nat) (i : Nat) (A : Arv Z h a k .byte z vs dv) (hj : ¬ j < 0 ∧ j < z) (hi : j.toNatClampNeg = i) (hl : i < vs.length) (q : NW h0 ws a) (hd : decode code pc = .ok (.bastore, 1)) (hp : pc + 1 = pc') : ∃ (h' : Heap), Wk Z own p l e R s m args below meth c code mx B h0 n0 ws h' cells slots pc' L S ∧ Arv Z h' a k .byte z (vs.set i (.int x.toInt8.toInt32)) dv ∧ Keep h h' [a] := by
  have qn := G.nw q
  obtain ⟨⟨hx, hby, hml, hown, hZ⟩, ⟨z1, z2, z3⟩, T, locs, X, N, eT, k⟩ := G
  obtain ⟨cl, Ar, q1, hSz, hN, H, F⟩ := A
  obtain ⟨T', h', X', e', W', st⟩ := stB X hx hZ eT Ar (inb_of hSz hj) (g := mkF m pc L (.int x :: .int j :: .ref a :: S)) rfl rfl (hb hby hd)
  exact ⟨h', ⟨⟨hx, hby, hml, hown, hZ⟩, ⟨z1, z2.wr W' q, z3⟩, T', _, X', Fr.snoc X' N qn, e', fun t q => k t (st t (by subst hp; exact q))⟩, Arv.set Ar q1 hSz hN H F (fits_nar_byte x) W' i hi hl, Keep.of_wr W'⟩
theorem Wk.initO {a : Addr} {idx : Nat} (G : Wk Z own p l e R s m args below meth c code mx B h0 n0 ws h cells slots pc L (.ref a :: S)) (pc' : Nat) (w1 : (Cond.methodLink own idx Lib.objectInit).before a0 Z = true) (w2 : (Cond.instanceMethod Lib.objectInit).before a0 Z = true) (w3 : (Cond.code Lib.objectInit ⟨#[0xb1]⟩ 1 none).before a0 Z = true) (hd : decode code pc = .ok (.invokespecial idx, 3)) (hz : L.size = mx) (hf : 1 ≤ R.frames) (hl : (S.map fun v => v.category).sum + 12 ≤ R.locals) (hp : pc + 3 = pc') : Wk Z own p l e R s m args below meth c code mx B h0 n0 ws h cells slots pc' L S := by
  obtain ⟨⟨hx, hby, hml, hown, hZ⟩, ⟨z1, z2, z3⟩, T, locs, X, N, eT, k⟩ := G
  obtain ⟨T', X', e', st⟩ := Jvm.RoadKit.initO X hx hZ hown w1 w2 w3 eT (g := mkF m pc L (.ref a :: S)) rfl (hz.trans hml.symm) rfl (hb hby hd) hf (W := (S.map fun v => v.category).sum) (by show 2 * 0 + _ ≤ _; omega) hl
  exact ⟨⟨hx, hby, hml, hown, hZ⟩, ⟨z1, z2, z3⟩, T', _, X', N, e', fun t q => k t (st t (by subst hp; exact q))⟩
theorem Wk.ldcI {index : Nat} {v : Int32} (G : Wk Z own p l e R s m args below meth c code mx B h0 n0 ws h cells slots pc L S) (pc' : Nat) (w : (Cond.constant own index v).before a0 Z = true) (hd : decode code pc = .ok (.ldc index, 2)) (hp : pc + 2 = pc') : Wk Z own p l e R s m args below meth c code mx B h0 n0 ws h cells slots pc' L (.int v :: S) := by
  obtain ⟨⟨hx, hby, hml, hown, hZ⟩, ⟨z1, z2, z3⟩, T, locs, X, N, eT, k⟩ := G
  exact ⟨⟨hx, hby, hml, hown, hZ⟩, ⟨z1, z2, z3⟩, T, locs, X, N, eT, fun t q => k t (X.ldcInt hx hown (mvT hZ w) (g := mkF m pc L S) rfl (hb hby hd) t (by subst hp; exact q))⟩
theorem Wk.ldcWI {index : Nat} {v : Int32} (G : Wk Z own p l e R s m args below meth c code mx B h0 n0 ws h cells slots pc L S) (pc' : Nat) (w : (Cond.constant own index v).before a0 Z = true) (hd : decode code pc = .ok (.ldc_w index, 3)) (hp : pc + 3 = pc') : Wk Z own p l e R s m args below meth c code mx B h0 n0 ws h cells slots pc' L (.int v :: S) := by
  obtain ⟨⟨hx, hby, hml, hown, hZ⟩, ⟨z1, z2, z3⟩, T, locs, X, N, eT, k⟩ := G
  exact ⟨⟨hx, hby, hml, hown, hZ⟩, ⟨z1, z2, z3⟩, T, locs, X, N, eT, fun t q => k t (X.ldcWInt hx hown (mvT hZ w) (g := mkF m pc L S) rfl (hb hby hd) t (by subst hp; exact q))⟩
theorem Wk.ldc2J {index : Nat} {v : Int64} (G : Wk Z own p l e R s m args below meth c code mx B h0 n0 ws h cells slots pc L S) (pc' : Nat) (w : (Cond.constantLong own index v).before a0 Z = true) (hd : decode code pc = .ok (.ldc2_w index, 3)) (hp : pc + 3 = pc') : Wk Z own p l e R s m args below meth c code mx B h0 n0 ws h cells slots pc' L (.long v :: S) := by
  obtain ⟨⟨hx, hby, hml, hown, hZ⟩, ⟨z1, z2, z3⟩, T, locs, X, N, eT, k⟩ := G
  exact ⟨⟨hx, hby, hml, hown, hZ⟩, ⟨z1, z2, z3⟩, T, locs, X, N, eT, fun t q => k t (X.ldc2Long hx hown (mvT hZ w) (g := mkF m pc L S) rfl (hb hby hd) t (by subst hp; exact q))⟩
/-- a body's contract: from the heap h0 with the arguments as', it returns; only what is new since n0 was written; h0 stands but for ws -/
def Con (Z : State) (l : Launch) (y : MethodName) (bytes : ByteArray) (maxL : Nat) (ret : Option FieldType) (rm : Room) (tws : List Jvm.Cond) (as' : Array Value) (h0 : Heap) (n0 : Nat) (ws : List Addr) (Q : Option Value → Heap → Prop) : Prop :=
  MetFree l y (head1 (Cond.code y bytes maxL ret :: tws) rm) (fun a U => a = as' ∧ Z.Warmed39 U.vm ∧ U.heap = h0) (fun _ _ _ _ _ => True) (fun _ U o U' => ∃ v LL, o = .returned v ∧ (Fr n0 LL ∧ Keep h0 U'.heap ws ∧ Q v U'.heap) ∧ FrameEnd U o U' LL rm.cells rm.slots)
def VV (Q : Value → Heap → Prop) : Option Value → Heap → Prop := fun v h => ∃ w, v = some w ∧ Q w h
def V0 (Q : Heap → Prop) : Option Value → Heap → Prop := fun v h => v = none ∧ Q h
/-- the walk's end -/
def Fin (p : Program) (e : Env) (below : List Frame) (B s : State) (h0 : Heap) (n0 : Nat) (ws : List Addr) (k n : Nat) (Q : Option Value → Heap → Prop) : Prop :=
  ∃ s₂ o, Steps p.tables e below B s₂ ∧ s₂.status = .running ∧ Ended s₂ below o ∧ ∃ v LL, o = .returned v ∧ (Fr n0 LL ∧ Keep h0 s₂.heap ws ∧ Q v s₂.heap) ∧ FrameEnd s o s₂ LL k n
theorem Con.body {tws : List Jvm.Cond} {y : MethodName} {bytes : ByteArray} {maxL : Nat} {ret : Option FieldType} {rm : Room} {as' : Array Value} {Q : Option Value → Heap → Prop} (hpl : plainName y.cls = true) (z1 : n0 ≤ h0.size) (z3 : ∀ x ∈ ws, n0 ≤ x) (L0 : Array Slot) (hef : ∀ m, entryFrame m as' maxL = mkF m 0 L0 [])
    (body : ∀ (p : Program) (e : Env) (s : State) (m : MethodId) (below : List Frame) (meth : Method) (c : Code) (B : State), meth.name = y.name → meth.sig.returnType = ret → meth.locks = false → Wk Z y.cls p l e rm s m as' below meth c bytes maxL B h0 n0 ws h0 0 0 0 L0 [] → Fin p e below B s h0 n0 ws rm.cells rm.slots Q) : Con Z l y bytes maxL ret rm tws as' h0 n0 ws Q := by
  refine MetFree.of_bodySF (plainFor_of_name hpl) hisR ?_
  intro p e s m args below meth c s₁ Bd hml hP hK
  obtain ⟨rfl, hZ, hh⟩ := hP
  refine body p e s m below meth c _ (name_of_methodNamed Bd.named Bd.method).1 Bd.returns Bd.notSynchronized ⟨⟨Bd.exec, Bd.bytes, hml, findClass_of_methodNamed Bd.named, hZ⟩, ⟨z1, Keep.refl _ _, z3⟩, s₁, [], Stand.of_body Bd, Fr.nil n0, by rw [← hh, Bd.state]; rfl, fun t q => ?_⟩
  rw [hef m]; exact q
theorem Wk.retV  {Q : Option Value → Heap → Prop} {kk nn : Nat} (G : Wk Z own p l e R s m args below meth c code mx B h0 n0 ws h cells slots pc L ([])) (hret : meth.sig.returnType = none) (hlk : meth.locks = false) (hd : decode code pc = .ok (.return_, 1)) (hQ : Q (none) h) (hc : cells ≤ kk) (hs : slots ≤ nn) : Fin p e below B s h0 n0 ws kk nn Q := by
  obtain ⟨⟨hx, hby, hml, hown, hZ⟩, ⟨z1, z2, z3⟩, T, locs, X, N, eT, k⟩ := G
  obtain ⟨fs, hr, hrun, hended, hW, hsame⟩ := X.leave (v := none) (fun _ => rfl) hlk
  refine ⟨_, _, k _ ?_, hrun, hended, _, _, rfl, ⟨N, ?_, ?_⟩, ⟨_, rfl⟩, hW, hsame.mono hc hs⟩
  · exact X.returnOut hx hret (hb hby hd) hr
  · show Keep h0 T.heap ws
    rw [eT]; exact z2
  · show Q _ T.heap
    rw [eT]; exact hQ
theorem Wk.retI {z : Int32} {Q : Option Value → Heap → Prop} {kk nn : Nat} (G : Wk Z own p l e R s m args below meth c code mx B h0 n0 ws h cells slots pc L (.int z :: S)) (hret : meth.sig.returnType = some .int) (hlk : meth.locks = false) (hd : decode code pc = .ok (.ireturn, 1)) (hQ : Q (some (.int z)) h) (hc : cells ≤ kk) (hs : slots ≤ nn) : Fin p e below B s h0 n0 ws kk nn Q := by
  obtain ⟨⟨hx, hby, hml, hown, hZ⟩, ⟨z1, z2, z3⟩, T, locs, X, N, eT, k⟩ := G
  obtain ⟨fs, hr, hrun, hended, hW, hsame⟩ := X.leave (v := some (.int z)) (fun h => by rw [hret] at h; cases h) hlk
  refine ⟨_, _, k _ ?_, hrun, hended, _, _, rfl, ⟨N, ?_, ?_⟩, ⟨_, rfl⟩, hW, hsame.mono hc hs⟩
  · exact retOut X hx hret rfl (Or.inl ⟨rfl, Or.inl rfl, _, rfl⟩) (hb hby hd) hr
  · show Keep h0 T.heap ws
    rw [eT]; exact z2
  · show Q _ T.heap
    rw [eT]; exact hQ
theorem Wk.retN {z : Int32} {t : FieldType} {Q : Option Value → Heap → Prop} {kk nn : Nat} (G : Wk Z own p l e R s m args below meth c code mx B h0 n0 ws h cells slots pc L (.int z :: S)) (hret : meth.sig.returnType = some t) (ht : t = .boolean ∨ t = .byte ∨ t = .char ∨ t = .short) (hlk : meth.locks = false) (hd : decode code pc = .ok (.ireturn, 1)) (hQ : Q (some (.int (nar t z))) h) (hc : cells ≤ kk) (hs : slots ≤ nn) : Fin p e below B s h0 n0 ws kk nn Q := by
  obtain ⟨⟨hx, hby, hml, hown, hZ⟩, ⟨z1, z2, z3⟩, T, locs, X, N, eT, k⟩ := G
  obtain ⟨fs, hr, hrun, hended, hW, hsame⟩ := X.leave (v := some (.int (nar t z))) (fun h => by rw [hret] at h; cases h) hlk
  refine ⟨_, _, k _ ?_, hrun, hended, _, _, rfl, ⟨N, ?_, ?_⟩, ⟨_, rfl⟩, hW, hsame.mono hc hs⟩
  · exact Jvm.RoadKit.retN X hx hret ht (hb hby hd) hr
  · show Keep h0 T.heap ws
    rw [eT]; exact z2
  · show Q _ T.heap
    rw [eT]; exact hQ
theorem Wk.retL {z : Int64} {Q : Option Value → Heap → Prop} {kk nn : Nat} (G : Wk Z own p l e R s m args below meth c code mx B h0 n0 ws h cells slots pc L (.long z :: S)) (hret : meth.sig.returnType = some .long) (hlk : meth.locks = false) (hd : decode code pc = .ok (.lreturn, 1)) (hQ : Q (some (.long z)) h) (hc : cells ≤ kk) (hs : slots ≤ nn) : Fin p e below B s h0 n0 ws kk nn Q := by
  obtain ⟨⟨hx, hby, hml, hown, hZ⟩, ⟨z1, z2, z3⟩, T, locs, X, N, eT, k⟩ := G
  obtain ⟨fs, hr, hrun, hended, hW, hsame⟩ := X.leave (v := some (.long z)) (fun h => by rw [hret] at h; cases h) hlk
  refine ⟨_, _, k _ ?_, hrun, hended, _, _, rfl, ⟨N, ?_, ?_⟩, ⟨_, rfl⟩, hW, hsame.mono hc hs⟩
  · exact retOut X hx hret rfl (Or.inr (Or.inl ⟨rfl, rfl, _, rfl⟩)) (hb hby hd) hr
  · show Keep h0 T.heap ws
    rw [eT]; exact z2
  · show Q _ T.heap
    rw [eT]; exact hQ
theorem Wk.retD {z : UInt64} {Q : Option Value → Heap → Prop} {kk nn : Nat} (G : Wk Z own p l e R s m args below meth c code mx B h0 n0 ws h cells slots pc L (.double z :: S)) (hret : meth.sig.returnType = some .double) (hlk : meth.locks = false) (hd : decode code pc = .ok (.dreturn, 1)) (hQ : Q (some (.double z)) h) (hc : cells ≤ kk) (hs : slots ≤ nn) : Fin p e below B s h0 n0 ws kk nn Q := by
  obtain ⟨⟨hx, hby, hml, hown, hZ⟩, ⟨z1, z2, z3⟩, T, locs, X, N, eT, k⟩ := G
  obtain ⟨fs, hr, hrun, hended, hW, hsame⟩ := X.leave (v := some (.double z)) (fun h => by rw [hret] at h; cases h) hlk
  refine ⟨_, _, k _ ?_, hrun, hended, _, _, rfl, ⟨N, ?_, ?_⟩, ⟨_, rfl⟩, hW, hsame.mono hc hs⟩
  · exact retOut X hx hret rfl (Or.inr (Or.inr (Or.inl ⟨rfl, rfl, _, rfl⟩))) (hb hby hd) hr
  · show Keep h0 T.heap ws
    rw [eT]; exact z2
  · show Q _ T.heap
    rw [eT]; exact hQ
theorem Wk.retA {w : Value} {t : FieldType} {Q : Option Value → Heap → Prop} {kk nn : Nat} (G : Wk Z own p l e R s m args below meth c code mx B h0 n0 ws h cells slots pc L (w :: S)) (hret : meth.sig.returnType = some t) (ht : t.isReference = true) (hw : w.isRef = true) (hlk : meth.locks = false) (hd : decode code pc = .ok (.areturn, 1)) (hQ : Q (some w) h) (hc : cells ≤ kk) (hs : slots ≤ nn) : Fin p e below B s h0 n0 ws kk nn Q := by
  obtain ⟨⟨hx, hby, hml, hown, hZ⟩, ⟨z1, z2, z3⟩, T, locs, X, N, eT, k⟩ := G
  obtain ⟨fs, hr, hrun, hended, hW, hsame⟩ := X.leave (v := some w) (fun h => by rw [hret] at h; cases h) hlk
  refine ⟨_, _, k _ ?_, hrun, hended, _, _, rfl, ⟨N, ?_, ?_⟩, ⟨_, rfl⟩, hW, hsame.mono hc hs⟩
  · exact retOut X hx hret (by cases t <;> first | rfl | simp [FieldType.isReference] at ht) (Or.inr (Or.inr (Or.inr (Or.inr ⟨rfl, ht, hw⟩)))) (hb hby hd) hr
  · show Keep h0 T.heap ws
    rw [eT]; exact z2
  · show Q _ T.heap
    rw [eT]; exact hQ
theorem Wk.callS {index : Nat} {y : MethodName} {bytes : ByteArray} {maxL : Nat} {ret : Option FieldType} {rm : Room} {wsC : List Addr} {St : List Value} {Q : Option Value → Heap → Prop} (G : Wk Z own p l e R s m args below meth c code mx B h0 n0 ws h cells slots pc L (St)) (pc' : Nat) (w1 : (Cond.methodLink own index y).before a0 Z = true) (w2 : (Cond.static y).before a0 Z = true) (wz : (Cond.initialized y.cls).before a0 Z = true) (wc : (Cond.code y bytes maxL ret).before a0 Z = true) (hy : y.cls ≠ "java/lang/invoke/MethodHandle" ∧ y.cls ≠ "java/lang/invoke/VarHandle") (argsL rest : List Value) (hst : St = argsL.reverse ++ rest) (hM : Con Z l y bytes maxL ret rm [] argsL.toArray h n0 wsC Q) (hlen : ∀ sig, parseMethodDescriptor y.desc = some sig → argsL.length = sig.parameters.length) (hd : decode code pc = .ok (.invokestatic index, 3)) (hz : L.size = mx) (hf : rm.frames + 1 ≤ R.frames) (hl : (rest.map fun v => v.category).sum + (maxL + 11) + rm.locals ≤ R.locals) (hc : cells + rm.cells ≤ R.cells) (hs : slots + rm.slots ≤ R.slots) (hws : ∀ x ∈ wsC, NW h0 ws x) (hp : pc + 3 = pc') :
    ∃ (v : Option Value) (h' : Heap), Wk Z own p l e R s m args below meth c code mx B h0 n0 ws h' (cells + rm.cells) (slots + rm.slots) pc' L (v.toList ++ rest) ∧ Keep h h' wsC ∧ Q v h' := by
  have nw := fun x (q : NW h0 ws x) => G.nw q
  obtain ⟨⟨hx, hby, hml, hown, hZ⟩, ⟨z1, z2, z3⟩, T, locs, X, N, eT, k⟩ := G
  subst hst
  obtain ⟨v, _, ⟨T', L', k', n'⟩, -, X', ⟨Lc, hQ, l', y', z'⟩, st⟩ := Jvm.LawKit.callS X hx (y := y) hown (mvT hZ w1) (mvT hZ w2) (mvT hZ wz) (mvT hZ wc) hy (backOf (Q := fun v h' LL => Fr n0 LL ∧ Keep h h' wsC ∧ Q v h') (W := (rest.map fun v => v.category).sum) hM hZ wc wz hf hl) (g := mkF m pc L (argsL.reverse ++ rest)) rfl (hz.trans hml.symm) (argsL := argsL) (rest := rest) hlen rfl (by show 2 * 0 + _ ≤ _; omega) (hb hby hd) (fun _ _ => ⟨rfl, eT, hc, hs⟩)
  dsimp only [Pt.U, Pt.locs, Pt.cells, Pt.slots] at X' l' y' z' st hQ
  subst l' y' z'
  obtain ⟨N', K', hQ⟩ := hQ
  exact ⟨v, T'.heap, ⟨⟨hx, hby, hml, hown, hZ⟩, ⟨z1, z2.trans K' hws, z3⟩, T', _, X', N.app N', rfl, fun t q => k t (st t (by subst hp; exact q))⟩, K', hQ⟩
theorem Wk.callI {index : Nat} {y : MethodName} {bytes : ByteArray} {maxL : Nat} {rm : Room} {wsC : List Addr} {St : List Value} {a : Addr} {Q : Option Value → Heap → Prop} (G : Wk Z own p l e R s m args below meth c code mx B h0 n0 ws h cells slots pc L (St)) (pc' : Nat) (hy1 : y.name = "<init>") (w1 : (Cond.methodLink own index y).before a0 Z = true) (w2 : (Cond.instanceMethod y).before a0 Z = true) (wz : (Cond.initialized y.cls).before a0 Z = true) (wc : (Cond.code y bytes maxL none).before a0 Z = true) (hy : y.cls ≠ "java/lang/invoke/MethodHandle" ∧ y.cls ≠ "java/lang/invoke/VarHandle") (argsL rest : List Value) (hst : St = argsL.reverse ++ .ref a :: rest) (hM : Con Z l y bytes maxL none rm [] (.ref a :: argsL).toArray h n0 wsC Q) (hlen : ∀ sig, parseMethodDescriptor y.desc = some sig → argsL.length = sig.parameters.length) (hd : decode code pc = .ok (.invokespecial index, 3)) (hz : L.size = mx) (hf : rm.frames + 1 ≤ R.frames) (hl : (rest.map fun v => v.category).sum + (maxL + 11) + rm.locals ≤ R.locals) (hc : cells + rm.cells ≤ R.cells) (hs : slots + rm.slots ≤ R.slots) (hws : ∀ x ∈ wsC, NW h0 ws x) (hp : pc + 3 = pc') :
    ∃ (v : Option Value) (h' : Heap), Wk Z own p l e R s m args below meth c code mx B h0 n0 ws h' (cells + rm.cells) (slots + rm.slots) pc' L (v.toList ++ rest) ∧ Keep h h' wsC ∧ Q v h' := by
  have nw := fun x (q : NW h0 ws x) => G.nw q
  obtain ⟨⟨hx, hby, hml, hown, hZ⟩, ⟨z1, z2, z3⟩, T, locs, X, N, eT, k⟩ := G
  subst hst
  obtain ⟨v, _, ⟨T', L', k', n'⟩, -, X', ⟨Lc, hQ, l', y', z'⟩, st⟩ := X.specialBack hx (y := y) hy1 hown (mvT hZ w1) (mvT hZ w2) (mvT hZ wc) hy (backOf (Q := fun v h' LL => Fr n0 LL ∧ Keep h h' wsC ∧ Q v h') (W := (rest.map fun v => v.category).sum) hM hZ wc wz hf hl) (g := mkF m pc L (argsL.reverse ++ .ref a :: rest)) rfl (hz.trans hml.symm) (Steps.refl _) (a := a) (argsL := argsL) (rest := rest) hlen rfl (by show 2 * 0 + _ ≤ _; omega) (hb hby hd) (fun _ _ => ⟨rfl, eT, hc, hs⟩)
  dsimp only [Pt.U, Pt.locs, Pt.cells, Pt.slots] at X' l' y' z' st hQ
  subst l' y' z'
  obtain ⟨N', K', hQ⟩ := hQ
  exact ⟨v, T'.heap, ⟨⟨hx, hby, hml, hown, hZ⟩, ⟨z1, z2.trans K' hws, z3⟩, T', _, X', N.app N', rfl, fun t q => k t (st.trans (by subst hp; exact q))⟩, K', hQ⟩
theorem Wk.callV {index : Nat} {y : MethodName} {bytes : ByteArray} {maxL : Nat} {ret : Option FieldType} {rm : Room} {wsC : List Addr} {St : List Value} {a : Addr} {C : String} {zz : MethodName} {Q : Option Value → Heap → Prop} (G : Wk Z own p l e R s m args below meth c code mx B h0 n0 ws h cells slots pc L (St)) (pc' : Nat) (w1 : (Cond.methodLink own index y).before a0 Z = true) (w2 : (Cond.declares y).before a0 Z = true) (hnf : ∀ s' : State, Z.Warmed39 s'.vm → NotFace s' y) (w3 : (Cond.selects C y zz).before a0 Z = true) (w4 : (Cond.instanceMethod zz).before a0 Z = true) (wz : (Cond.initialized zz.cls).before a0 Z = true) (wc : (Cond.code zz bytes maxL ret).before a0 Z = true) (Ex : Exa Z h a C) (hy : y.cls ≠ "java/lang/invoke/MethodHandle" ∧ y.cls ≠ "java/lang/invoke/VarHandle") (argsL rest : List Value) (hst : St = argsL.reverse ++ .ref a :: rest) (hM : Con Z l zz bytes maxL ret rm [] (.ref a :: argsL).toArray h n0 wsC Q) (hlen : ∀ sig, parseMethodDescriptor y.desc = some sig → argsL.length = sig.parameters.length) (hd : decode code pc = .ok (.invokevirtual index, 3)) (hz : L.size = mx) (hf : rm.frames + 1 ≤ R.frames) (hl : (rest.map fun v => v.category).sum + (maxL + 11) + rm.locals ≤ R.locals) (hc : cells + rm.cells ≤ R.cells) (hs : slots + rm.slots ≤ R.slots) (hws : ∀ x ∈ wsC, NW h0 ws x) (hp : pc + 3 = pc') :
    ∃ (v : Option Value) (h' : Heap), Wk Z own p l e R s m args below meth c code mx B h0 n0 ws h' (cells + rm.cells) (slots + rm.slots) pc' L (v.toList ++ rest) ∧ Keep h h' wsC ∧ Q v h' := by
  have nw := fun x (q : NW h0 ws x) => G.nw q
  obtain ⟨⟨hx, hby, hml, hown, hZ⟩, ⟨z1, z2, z3⟩, T, locs, X, N, eT, k⟩ := G
  subst hst
  obtain ⟨cq, kq, q1, q2, q3⟩ := isOf (T := T) hZ eT Ex
  obtain ⟨v, _, ⟨T', L', k', n'⟩, -, X', ⟨Lc, hQ, l', y', z'⟩, st⟩ := X.virtualBack hx (y := y) (z := zz) hown (mvT hZ w1) (mvT hZ w2) (hnf s hZ) (mvT hZ w3) (mvT hZ w4) hy (backOf (Q := fun v h' LL => Fr n0 LL ∧ Keep h h' wsC ∧ Q v h') (W := (rest.map fun v => v.category).sum) hM hZ wc wz hf hl) q1 q3 (g := mkF m pc L (argsL.reverse ++ .ref a :: rest)) rfl (hz.trans hml.symm) (Steps.refl _) (argsL := argsL) (rest := rest) hlen rfl (by show 2 * 0 + _ ≤ _; omega) (hb hby hd) (fun _ _ => ⟨rfl, eT, hc, hs⟩)
  dsimp only [Pt.U, Pt.locs, Pt.cells, Pt.slots] at X' l' y' z' st hQ
  subst l' y' z'
  obtain ⟨N', K', hQ⟩ := hQ
  exact ⟨v, T'.heap, ⟨⟨hx, hby, hml, hown, hZ⟩, ⟨z1, z2.trans K' hws, z3⟩, T', _, X', N.app N', rfl, fun t q => k t (st.trans (by subst hp; exact q))⟩, K', hQ⟩
theorem nfSel {C : String} {y : MethodName} (w3 : (Cond.selects C y y).before a0 Z = true) : ∀ s' : State, Z.Warmed39 s'.vm → NotFace s' y := fun s' hZ => notFace_of_selects (args := #[]) (mvT hZ w3)
theorem Wk.val {v : Option Value} {w : Value} {rest : List Value} (G : Wk Z own p l e R s m args below meth c code mx B h0 n0 ws h cells slots pc L (v.toList ++ rest)) (q : v = some w) : Wk Z own p l e R s m args below meth c code mx B h0 n0 ws h cells slots pc L (w :: rest) := by subst q; exact G
theorem Wk.nov {v : Option Value} {rest : List Value} (G : Wk Z own p l e R s m args below meth c code mx B h0 n0 ws h cells slots pc L (v.toList ++ rest)) (q : v = none) : Wk Z own p l e R s m args below meth c code mx B h0 n0 ws h cells slots pc L (rest) := by subst q; exact G
end OwnK
end Jvm.OwnK
namespace Jvm.Pilot.@@N@@
open Jvm Jvm.ClassFile Sem Op Lib Jvm.Free Jvm.Free.Fl Jvm.Stand Jvm.LawKit Jvm.RoadKit Jvm.OwnK Bundle Jvm.Pilot.@@N@@.Jvm.D
theorem pn_com_example_unhurried_frontier_unhurriedfrontier_CrawlOrder : plainName "com/example/unhurried_frontier/unhurriedfrontier/CrawlOrder" = true := by first | (simp [plainName, overriddenIn]; done) | decide +kernel
theorem pn_com_example_unhurried_frontier_unhurriedfrontier_CrawlOrderShareAtPinLaw : plainName "com/example/unhurried_frontier/unhurriedfrontier/CrawlOrderShareAtPinLaw" = true := by first | (simp [plainName, overriddenIn]; done) | decide +kernel
theorem pd___D_V : parseMethodDescriptor "([D)V" = some ⟨[(.array .double)], none⟩ := by decide +kernel
theorem pd__I_D : parseMethodDescriptor "(I)D" = some ⟨[.int], some .double⟩ := by decide +kernel
theorem d1_0 : decode prog_1_method_1_code 0 = .ok (.aload_n 0, 1) := by decide +kernel
theorem d1_1 : decode prog_1_method_1_code 1 = .ok (.invokespecial 1, 3) := by decide +kernel
theorem d1_4 : decode prog_1_method_1_code 4 = .ok (.aload_n 1, 1) := by decide +kernel
theorem d1_5 : decode prog_1_method_1_code 5 = .ok (.arraylength, 1) := by decide +kernel
theorem d1_6 : decode prog_1_method_1_code 6 = .ok (.iconst 1, 1) := by decide +kernel
theorem d1_7 : decode prog_1_method_1_code 7 = .ok (.iadd, 1) := by decide +kernel
theorem d1_8 : decode prog_1_method_1_code 8 = .ok (.newarray .double, 2) := by decide +kernel
theorem d1_10 : decode prog_1_method_1_code 10 = .ok (.astore_n 2, 1) := by decide +kernel
theorem d1_11 : decode prog_1_method_1_code 11 = .ok (.iconst 0, 1) := by decide +kernel
theorem d1_12 : decode prog_1_method_1_code 12 = .ok (.istore_n 3, 1) := by decide +kernel
theorem d1_13 : decode prog_1_method_1_code 13 = .ok (.iload_n 3, 1) := by decide +kernel
theorem d1_14 : decode prog_1_method_1_code 14 = .ok (.aload_n 1, 1) := by decide +kernel
theorem d1_15 : decode prog_1_method_1_code 15 = .ok (.arraylength, 1) := by decide +kernel
theorem d1_16 : decode prog_1_method_1_code 16 = .ok (.if_icmp .ge 21, 3) := by decide +kernel
theorem d1_19 : decode prog_1_method_1_code 19 = .ok (.aload_n 2, 1) := by decide +kernel
theorem d1_20 : decode prog_1_method_1_code 20 = .ok (.iload_n 3, 1) := by decide +kernel
theorem d1_21 : decode prog_1_method_1_code 21 = .ok (.iconst 1, 1) := by decide +kernel
theorem d1_22 : decode prog_1_method_1_code 22 = .ok (.iadd, 1) := by decide +kernel
theorem d1_23 : decode prog_1_method_1_code 23 = .ok (.aload_n 2, 1) := by decide +kernel
theorem d1_24 : decode prog_1_method_1_code 24 = .ok (.iload_n 3, 1) := by decide +kernel
theorem d1_25 : decode prog_1_method_1_code 25 = .ok (.daload, 1) := by decide +kernel
theorem d1_26 : decode prog_1_method_1_code 26 = .ok (.aload_n 1, 1) := by decide +kernel
theorem d1_27 : decode prog_1_method_1_code 27 = .ok (.iload_n 3, 1) := by decide +kernel
theorem d1_28 : decode prog_1_method_1_code 28 = .ok (.daload, 1) := by decide +kernel
theorem d1_29 : decode prog_1_method_1_code 29 = .ok (.dadd, 1) := by decide +kernel
theorem d1_30 : decode prog_1_method_1_code 30 = .ok (.dastore, 1) := by decide +kernel
theorem d1_31 : decode prog_1_method_1_code 31 = .ok (.iinc 3 1, 3) := by decide +kernel
theorem d1_34 : decode prog_1_method_1_code 34 = .ok (.goto (-21), 3) := by decide +kernel
theorem d1_37 : decode prog_1_method_1_code 37 = .ok (.aload_n 0, 1) := by decide +kernel
theorem d1_38 : decode prog_1_method_1_code 38 = .ok (.aload_n 1, 1) := by decide +kernel
theorem d1_39 : decode prog_1_method_1_code 39 = .ok (.putfield 7, 3) := by decide +kernel
theorem d1_42 : decode prog_1_method_1_code 42 = .ok (.aload_n 0, 1) := by decide +kernel
theorem d1_43 : decode prog_1_method_1_code 43 = .ok (.aload_n 2, 1) := by decide +kernel
theorem d1_44 : decode prog_1_method_1_code 44 = .ok (.putfield 13, 3) := by decide +kernel
theorem d1_47 : decode prog_1_method_1_code 47 = .ok (.return_, 1) := by decide +kernel
theorem d3_0 : decode prog_1_method_3_code 0 = .ok (.aload_n 0, 1) := by decide +kernel
theorem d3_1 : decode prog_1_method_3_code 1 = .ok (.getfield 13, 3) := by decide +kernel
theorem d3_4 : decode prog_1_method_3_code 4 = .ok (.aload_n 0, 1) := by decide +kernel
theorem d3_5 : decode prog_1_method_3_code 5 = .ok (.getfield 7, 3) := by decide +kernel
theorem d3_8 : decode prog_1_method_3_code 8 = .ok (.arraylength, 1) := by decide +kernel
theorem d3_9 : decode prog_1_method_3_code 9 = .ok (.i2l, 1) := by decide +kernel
theorem d3_10 : decode prog_1_method_3_code 10 = .ok (.iload_n 1, 1) := by decide +kernel
theorem d3_11 : decode prog_1_method_3_code 11 = .ok (.i2l, 1) := by decide +kernel
theorem d3_12 : decode prog_1_method_3_code 12 = .ok (.lmul, 1) := by decide +kernel
theorem d3_13 : decode prog_1_method_3_code 13 = .ok (.ldc2_w 16, 3) := by decide +kernel
theorem d3_16 : decode prog_1_method_3_code 16 = .ok (.ldiv, 1) := by decide +kernel
theorem d3_17 : decode prog_1_method_3_code 17 = .ok (.l2i, 1) := by decide +kernel
theorem d3_18 : decode prog_1_method_3_code 18 = .ok (.daload, 1) := by decide +kernel
theorem d3_19 : decode prog_1_method_3_code 19 = .ok (.dreturn, 1) := by decide +kernel
def Bk (k : Int) (s : Int64) : Prop := -(k * 2147483648) ≤ s.toInt ∧ s.toInt ≤ k * 2147483648
theorem Bk.b53 {k : Int} {s : Int64} (h : Bk k s) (hk : k ≤ 5) : B53 s := by
  obtain ⟨h1, h2⟩ := h; exact ⟨by omega, by omega⟩
theorem Bk.add {k : Int} {s x : Int64} (h : Bk k s) (hx : Bk 1 x) (hk : k ≤ 5) : Bk (k + 1) (s + x) := by
  have e := add64 (h.b53 hk) (hx.b53 (by omega))
  obtain ⟨h1, h2⟩ := h; obtain ⟨h3, h4⟩ := hx
  exact ⟨by rw [e]; omega, by rw [e]; omega⟩
theorem Bk.zero : Bk 0 0 := ⟨by decide, by decide⟩
theorem Bk.int (x : Int32) : Bk 1 x.toInt64 := by
  have h1 := x.le_toInt; have h2 := x.toInt_lt
  exact ⟨by rw [Int32.toInt_toInt64]; omega, by rw [Int32.toInt_toInt64]; omega⟩
theorem own_rem (x : Int32) (d : Int32) (D : Int) (hd : d.toInt = D) (hD : 0 < D) : 0 ≤ ((x &&& 2147483647) - ((x &&& 2147483647) / d) * d).toInt ∧ ((x &&& 2147483647) - ((x &&& 2147483647) / d) * d).toInt < D := by
  have h := c_and x 2147483647 (by decide)
  have hr := (c_irem (x &&& 2147483647) d D hd).1 h.1
  rw [irem_eq_mod, hr]
  exact ⟨Int.emod_nonneg _ (by omega), Int.emod_lt_of_pos _ hD⟩
theorem own_five {v : Int32} (h1 : 0 ≤ v.toInt) (h2 : v.toInt < 5) : v = 0 ∨ v = 1 ∨ v = 2 ∨ v = 3 ∨ v = 4 := by
  have h : v.toInt = 0 ∨ v.toInt = 1 ∨ v.toInt = 2 ∨ v.toInt = 3 ∨ v.toInt = 4 := by omega
  rcases h with h | h | h | h | h
  · exact Or.inl (Int32.toInt_inj.mp h)
  · exact Or.inr (Or.inl (Int32.toInt_inj.mp h))
  · exact Or.inr (Or.inr (Or.inl (Int32.toInt_inj.mp h)))
  · exact Or.inr (Or.inr (Or.inr (Or.inl (Int32.toInt_inj.mp h))))
  · exact Or.inr (Or.inr (Or.inr (Or.inr (Int32.toInt_inj.mp h))))
theorem own_lt {x k : Int32} {K : Int} (hk : k.toInt = K) (h : x.toInt < K) : x < k := by rw [Int32.lt_iff_toInt_lt, hk]; exact h
theorem own_nlt {x k : Int32} {K : Int} (hk : k.toInt = K) (h : K ≤ x.toInt) : ¬ x < k := by rw [Int32.lt_iff_toInt_lt, hk]; omega
theorem own_idx {n q k : Int32} {N K : Int} (hn : n.toInt = N) (hk : k.toInt = K) (h1 : 0 ≤ N) (h2 : N ≤ 4) (q1 : 0 ≤ q.toInt) (q2 : q.toInt ≤ 100) (k1 : 100 * K ≤ N * q.toInt) (k2 : N * q.toInt < 100 * K + 100) : ((n.toInt64 * q.toInt64) / (100 : Int64)).toInt32 = k := by
  have hb : 0 ≤ N * q.toInt ∧ N * q.toInt ≤ 400 := by
    have : N = 0 ∨ N = 1 ∨ N = 2 ∨ N = 3 ∨ N = 4 := by omega
    rcases this with rfl | rfl | rfl | rfl | rfl <;> omega
  have e1 : (n.toInt64 * q.toInt64).toInt = N * q.toInt := by
    rw [Int64.toInt_mul, Int32.toInt_toInt64, Int32.toInt_toInt64, hn]
    exact Int.bmod_eq_of_le_mul_two (by omega) (by omega)
  have e2 := (c_ldiv (n.toInt64 * q.toInt64) 100 100 rfl (by decide)).1 (by omega)
  rw [e1] at e2
  apply Int32.toInt_inj.mp
  have e3 := c_l2i ((n.toInt64 * q.toInt64) / (100 : Int64))
  have e4 := rng32 ((n.toInt64 * q.toInt64) / (100 : Int64)).toInt32
  rw [e2] at e3
  omega
theorem own_sc {n q : Int32} {N : Int} (hn : n.toInt = N) (h1 : 0 ≤ N) (h2 : N ≤ 4) (q1 : 0 ≤ q.toInt) (q2 : q.toInt ≤ 100) : (n * q).toInt = N * q.toInt := by
  have hb : 0 ≤ N * q.toInt ∧ N * q.toInt ≤ 400 := by
    have : N = 0 ∨ N = 1 ∨ N = 2 ∨ N = 3 ∨ N = 4 := by omega
    rcases this with rfl | rfl | rfl | rfl | rfl <;> omega
  have e := c_imul n q
  have r := rng32 (n * q)
  rw [hn] at e
  omega
theorem ef1 (a b : Addr) (m : MethodId) : entryFrame m #[.ref a, .ref b] 4 = mkF m 0 #[.val (.ref a), .val (.ref b), .unset, .unset] [] := by first | (simp [entryFrame, mkF, argsToLocals, Value.category]; done) | rfl
theorem ef3 (a : Addr) (q : Int32) (m : MethodId) : entryFrame m #[.ref a, .int q] 2 = mkF m 0 #[.val (.ref a), .val (.int q)] [] := by first | (simp [entryFrame, mkF, argsToLocals, Value.category]; done) | rfl
set_option maxRecDepth 65536 in
set_option maxHeartbeats 40000000 in
theorem own_ini0 (l : Launch) (Z : State) (a0 : Array Value) (hw : ∀ d ∈ tables_1, d.before a0 Z = true) (a b : Addr) (kb : ClassId) (h0 : Heap) (n0 : Nat) (z1 : n0 ≤ h0.size) (ge : n0 ≤ a) (Ea : Exa Z h0 a "com/example/unhurried_frontier/unhurriedfrontier/CrawlOrder") (F1 : Fld Z h0 a "com/example/unhurried_frontier/unhurriedfrontier/CrawlOrder" "rank" "[D" .null) (F2 : Fld Z h0 a "com/example/unhurried_frontier/unhurriedfrontier/CrawlOrder" "gathered" "[D" .null) (Ab : Arv Z h0 b kb .double (0 : Int32) [] (.double (FP.l2d 0))) :
    Con Z l (⟨"com/example/unhurried_frontier/unhurriedfrontier/CrawlOrder", "<init>", "([D)V"⟩ : MethodName) prog_1_method_1_code 4 none ({ frames := 1, cells := 1, slots := 5, locals := 12 } : Room) [] #[.ref a, .ref b] h0 n0 [a] (V0 fun h => ∃ (g : Addr) (kg : ClassId), Fld Z h a "com/example/unhurried_frontier/unhurriedfrontier/CrawlOrder" "rank" "[D" (.ref b) ∧ Fld Z h a "com/example/unhurried_frontier/unhurriedfrontier/CrawlOrder" "gathered" "[D" (.ref g) ∧ Arv Z h g kg .double ((0 : Int32) + 1) [(.double (FP.l2d (0 : Int64)))] (.double (FP.l2d 0)) ∧ Arv Z h b kb .double (0 : Int32) [] (.double (FP.l2d 0)) ∧ Exa Z h a "com/example/unhurried_frontier/unhurriedfrontier/CrawlOrder") := by
  refine Con.body pn_com_example_unhurried_frontier_unhurriedfrontier_CrawlOrder z1 (allS ge all0) #[.val (.ref a), .val (.ref b), .unset, .unset] (ef1 a b) ?_
  intro p e s m below meth c B hnm hret hlk G
  replace G := G.aloadN 1 d1_0 rfl rfl rfl
  replace G := G.initO 4 (hw _ (List.mem_of_getElem? (i := 8) rfl)) (hw _ (List.mem_of_getElem? (i := 9) rfl)) (hw _ (List.mem_of_getElem? (i := 10) rfl)) d1_1 rfl (Nat.le_of_ble_eq_true rfl) (Nat.le_of_ble_eq_true rfl) rfl
  replace G := G.aloadN 5 d1_4 rfl rfl rfl
  replace G := G.alen 6 Ab d1_5 rfl
  replace G := G.iconst 7 (1 : Int32) d1_6 rfl rfl
  replace G := G.iadd 8 d1_7 rfl
  obtain ⟨g, h1, kg, G', gg, sg, Eg, Ag⟩ := G.newarray 10 (hw _ (List.mem_of_getElem? (i := 1) rfl)) d1_8 (by decide) 5 (Nat.le_of_ble_eq_true rfl) (by decide) rfl (Nat.le_of_ble_eq_true rfl) (Nat.le_of_ble_eq_true rfl)
  clear G; have G := G'; clear G'
  have Ag : Arv Z h1 g kg .double ((0 : Int32) + 1) [(.double (FP.l2d 0))] (.double (FP.l2d 0)) := by rw [l2d_zero]; exact Ag.pad (vs' := [(.double 0)]) (pad_rep [] (.double 0) 1)
  have nab : a ≠ g := ne_new gg Ea.lt
  have nbb : b ≠ g := ne_new gg Ab.lt
  replace Ea := Ea.ext Eg; replace F1 := F1.ext Eg; replace F2 := F2.ext Eg; replace Ab := Ab.ext Eg
  have nwg := NW.new (ws := [a]) sg
  replace G := G.astoreN 11 #[.val (.ref a), .val (.ref b), .val (.ref g), .unset] d1_10 rfl rfl rfl
  replace G := G.iconst 12 (0 : Int32) d1_11 rfl rfl
  replace G := G.istoreN 13 #[.val (.ref a), .val (.ref b), .val (.ref g), .val (.int (0 : Int32))] d1_12 rfl rfl
  replace G := G.iloadN 14 d1_13 rfl rfl
  replace G := G.aloadN 15 d1_14 rfl rfl rfl
  replace G := G.alen 16 Ab d1_15 rfl
  replace G := G.icmpT 37 d1_16 (XT.ii_ge_t (by decide)) (by decide) (by decide)
  replace G := G.aloadN 38 d1_37 rfl rfl rfl
  replace G := G.aloadN 39 d1_38 rfl rfl rfl
  obtain ⟨hp1, G', Wp1, Fp1, Kp1⟩ := G.putf 42 (host := "") (Or.inl (hw _ (List.mem_of_getElem? (i := 11) rfl))) Via.refl F1 Ea (Or.inr ⟨(hw _ (List.mem_of_getElem? (i := 12) rfl)), rfl, hnm⟩) (hw _ (List.mem_of_getElem? (i := 3) rfl)) (ty := (.array .double)) (by decide) rfl rfl (Or.inl (by simp)) d1_39 rfl
  clear G; have G := G'; clear G'
  have nba : b ≠ a := fun q => ne_arr Ea (hw _ (List.mem_of_getElem? (i := 3) rfl)) (Ab.choose_spec.1) q.symm
  replace F2 := F2.other Wp1 (Or.inr (slot_ne (Or.inr (hw _ (List.mem_of_getElem? (i := 14) rfl))) (Or.inr (hw _ (List.mem_of_getElem? (i := 12) rfl))) (by decide) (t := .array .double) (t' := .array .double) (by decide) (by decide)))
  replace Ea := Ea.wr Wp1; replace Ab := Ab.keep Kp1 (ninS nba nin0); replace Ag := Ag.keep Kp1 (ninS nab.symm nin0)
  replace G := G.aloadN 43 d1_42 rfl rfl rfl
  replace G := G.aloadN 44 d1_43 rfl rfl rfl
  obtain ⟨hp2, G', Wp2, Fp2, Kp2⟩ := G.putf 47 (host := "") (Or.inl (hw _ (List.mem_of_getElem? (i := 13) rfl))) Via.refl F2 Ea (Or.inr ⟨(hw _ (List.mem_of_getElem? (i := 14) rfl)), rfl, hnm⟩) (hw _ (List.mem_of_getElem? (i := 3) rfl)) (ty := (.array .double)) (by decide) rfl rfl (Or.inl (by simp)) d1_44 rfl
  clear G; have G := G'; clear G'
  replace Fp1 := Fp1.other Wp2 (Or.inr (slot_ne (Or.inr (hw _ (List.mem_of_getElem? (i := 12) rfl))) (Or.inr (hw _ (List.mem_of_getElem? (i := 14) rfl))) (by decide) (t := .array .double) (t' := .array .double) (by decide) (by decide)))
  replace Ea := Ea.wr Wp2; replace Ab := Ab.keep Kp2 (ninS nba nin0); replace Ag := Ag.keep Kp2 (ninS nab.symm nin0)
  exact G.retV hret hlk d1_47 ⟨rfl, g, kg, Fp1, Fp2, Ag, Ab, Ea⟩ (Nat.le_of_ble_eq_true rfl) (Nat.le_of_ble_eq_true rfl)
set_option maxRecDepth 65536 in
set_option maxHeartbeats 40000000 in
theorem own_ini1 (l : Launch) (Z : State) (a0 : Array Value) (hw : ∀ d ∈ tables_1, d.before a0 Z = true) (a b : Addr) (kb : ClassId) (x0 : Int64) (b0 : Bk 1 x0) (h0 : Heap) (n0 : Nat) (z1 : n0 ≤ h0.size) (ge : n0 ≤ a) (Ea : Exa Z h0 a "com/example/unhurried_frontier/unhurriedfrontier/CrawlOrder") (F1 : Fld Z h0 a "com/example/unhurried_frontier/unhurriedfrontier/CrawlOrder" "rank" "[D" .null) (F2 : Fld Z h0 a "com/example/unhurried_frontier/unhurriedfrontier/CrawlOrder" "gathered" "[D" .null) (Ab : Arv Z h0 b kb .double (1 : Int32) [(.double (FP.l2d x0))] (.double (FP.l2d 0))) :
    Con Z l (⟨"com/example/unhurried_frontier/unhurriedfrontier/CrawlOrder", "<init>", "([D)V"⟩ : MethodName) prog_1_method_1_code 4 none ({ frames := 1, cells := 1, slots := 5, locals := 12 } : Room) [] #[.ref a, .ref b] h0 n0 [a] (V0 fun h => ∃ (g : Addr) (kg : ClassId), Fld Z h a "com/example/unhurried_frontier/unhurriedfrontier/CrawlOrder" "rank" "[D" (.ref b) ∧ Fld Z h a "com/example/unhurried_frontier/unhurriedfrontier/CrawlOrder" "gathered" "[D" (.ref g) ∧ Arv Z h g kg .double ((1 : Int32) + 1) [(.double (FP.l2d (0 : Int64))), (.double (FP.l2d ((0 : Int64) + x0)))] (.double (FP.l2d 0)) ∧ Arv Z h b kb .double (1 : Int32) [(.double (FP.l2d x0))] (.double (FP.l2d 0)) ∧ Exa Z h a "com/example/unhurried_frontier/unhurriedfrontier/CrawlOrder") := by
  refine Con.body pn_com_example_unhurried_frontier_unhurriedfrontier_CrawlOrder z1 (allS ge all0) #[.val (.ref a), .val (.ref b), .unset, .unset] (ef1 a b) ?_
  intro p e s m below meth c B hnm hret hlk G
  replace G := G.aloadN 1 d1_0 rfl rfl rfl
  replace G := G.initO 4 (hw _ (List.mem_of_getElem? (i := 8) rfl)) (hw _ (List.mem_of_getElem? (i := 9) rfl)) (hw _ (List.mem_of_getElem? (i := 10) rfl)) d1_1 rfl (Nat.le_of_ble_eq_true rfl) (Nat.le_of_ble_eq_true rfl) rfl
  replace G := G.aloadN 5 d1_4 rfl rfl rfl
  replace G := G.alen 6 Ab d1_5 rfl
  replace G := G.iconst 7 (1 : Int32) d1_6 rfl rfl
  replace G := G.iadd 8 d1_7 rfl
  obtain ⟨g, h1, kg, G', gg, sg, Eg, Ag⟩ := G.newarray 10 (hw _ (List.mem_of_getElem? (i := 1) rfl)) d1_8 (by decide) 5 (Nat.le_of_ble_eq_true rfl) (by decide) rfl (Nat.le_of_ble_eq_true rfl) (Nat.le_of_ble_eq_true rfl)
  clear G; have G := G'; clear G'
  have Ag : Arv Z h1 g kg .double ((1 : Int32) + 1) [(.double (FP.l2d 0)), (.double (FP.l2d 0))] (.double (FP.l2d 0)) := by rw [l2d_zero]; exact Ag.pad (vs' := [(.double 0), (.double 0)]) (pad_rep [] (.double 0) 2)
  have nab : a ≠ g := ne_new gg Ea.lt
  have nbb : b ≠ g := ne_new gg Ab.lt
  replace Ea := Ea.ext Eg; replace F1 := F1.ext Eg; replace F2 := F2.ext Eg; replace Ab := Ab.ext Eg
  have nwg := NW.new (ws := [a]) sg
  replace G := G.astoreN 11 #[.val (.ref a), .val (.ref b), .val (.ref g), .unset] d1_10 rfl rfl rfl
  replace G := G.iconst 12 (0 : Int32) d1_11 rfl rfl
  replace G := G.istoreN 13 #[.val (.ref a), .val (.ref b), .val (.ref g), .val (.int (0 : Int32))] d1_12 rfl rfl
  replace G := G.iloadN 14 d1_13 rfl rfl
  replace G := G.aloadN 15 d1_14 rfl rfl rfl
  replace G := G.alen 16 Ab d1_15 rfl
  replace G := G.icmpF 19 d1_16 (XT.ii_ge_f (by decide)) rfl
  replace G := G.aloadN 20 d1_19 rfl rfl rfl
  replace G := G.iloadN 21 d1_20 rfl rfl
  replace G := G.iconst 22 (1 : Int32) d1_21 rfl rfl
  replace G := G.iadd 23 d1_22 rfl
  replace G := G.aloadN 24 d1_23 rfl rfl rfl
  replace G := G.iloadN 25 d1_24 rfl rfl
  replace G := G.daload 26 Ag (by decide) rfl d1_25 rfl
  replace G := G.aloadN 27 d1_26 rfl rfl rfl
  replace G := G.iloadN 28 d1_27 rfl rfl
  replace G := G.daload 29 Ab (by decide) rfl d1_28 rfl
  replace G := G.daddS 30 d1_29 (nn_w (dadd_w (Bk.zero.b53 (by decide)) (b0.b53 (by decide)))) (dadd_w (Bk.zero.b53 (by decide)) (b0.b53 (by decide))) rfl
  obtain ⟨h2, G', As0, Ks0⟩ := G.dastore 31 1 Ag (by decide) rfl (Nat.le_of_ble_eq_true rfl) nwg d1_30 rfl
  clear G; have G := G'; clear G'
  replace Ag : Arv Z h2 g kg .double ((1 : Int32) + 1) [(.double (FP.l2d (0 : Int64))), (.double (FP.l2d ((0 : Int64) + x0)))] (.double (FP.l2d 0)) := As0
  replace Ea := Ea.keep Ks0; replace F1 := F1.keep Ks0 (ninS nab nin0); replace F2 := F2.keep Ks0 (ninS nab nin0); replace Ab := Ab.keep Ks0 (ninS nbb nin0)
  replace G := G.iinc 34 #[.val (.ref a), .val (.ref b), .val (.ref g), .val (.int ((0 : Int32) + (1 : Int32)))] d1_31 rfl rfl rfl
  replace G := G.goto 13 d1_34 (by decide) (by decide)
  replace G := G.iloadN 14 d1_13 rfl rfl
  replace G := G.aloadN 15 d1_14 rfl rfl rfl
  replace G := G.alen 16 Ab d1_15 rfl
  replace G := G.icmpT 37 d1_16 (XT.ii_ge_t (by decide)) (by decide) (by decide)
  replace G := G.aloadN 38 d1_37 rfl rfl rfl
  replace G := G.aloadN 39 d1_38 rfl rfl rfl
  obtain ⟨hp1, G', Wp1, Fp1, Kp1⟩ := G.putf 42 (host := "") (Or.inl (hw _ (List.mem_of_getElem? (i := 11) rfl))) Via.refl F1 Ea (Or.inr ⟨(hw _ (List.mem_of_getElem? (i := 12) rfl)), rfl, hnm⟩) (hw _ (List.mem_of_getElem? (i := 3) rfl)) (ty := (.array .double)) (by decide) rfl rfl (Or.inl (by simp)) d1_39 rfl
  clear G; have G := G'; clear G'
  have nba : b ≠ a := fun q => ne_arr Ea (hw _ (List.mem_of_getElem? (i := 3) rfl)) (Ab.choose_spec.1) q.symm
  replace F2 := F2.other Wp1 (Or.inr (slot_ne (Or.inr (hw _ (List.mem_of_getElem? (i := 14) rfl))) (Or.inr (hw _ (List.mem_of_getElem? (i := 12) rfl))) (by decide) (t := .array .double) (t' := .array .double) (by decide) (by decide)))
  replace Ea := Ea.wr Wp1; replace Ab := Ab.keep Kp1 (ninS nba nin0); replace Ag := Ag.keep Kp1 (ninS nab.symm nin0)
  replace G := G.aloadN 43 d1_42 rfl rfl rfl
  replace G := G.aloadN 44 d1_43 rfl rfl rfl
  obtain ⟨hp2, G', Wp2, Fp2, Kp2⟩ := G.putf 47 (host := "") (Or.inl (hw _ (List.mem_of_getElem? (i := 13) rfl))) Via.refl F2 Ea (Or.inr ⟨(hw _ (List.mem_of_getElem? (i := 14) rfl)), rfl, hnm⟩) (hw _ (List.mem_of_getElem? (i := 3) rfl)) (ty := (.array .double)) (by decide) rfl rfl (Or.inl (by simp)) d1_44 rfl
  clear G; have G := G'; clear G'
  replace Fp1 := Fp1.other Wp2 (Or.inr (slot_ne (Or.inr (hw _ (List.mem_of_getElem? (i := 12) rfl))) (Or.inr (hw _ (List.mem_of_getElem? (i := 14) rfl))) (by decide) (t := .array .double) (t' := .array .double) (by decide) (by decide)))
  replace Ea := Ea.wr Wp2; replace Ab := Ab.keep Kp2 (ninS nba nin0); replace Ag := Ag.keep Kp2 (ninS nab.symm nin0)
  exact G.retV hret hlk d1_47 ⟨rfl, g, kg, Fp1, Fp2, Ag, Ab, Ea⟩ (Nat.le_of_ble_eq_true rfl) (Nat.le_of_ble_eq_true rfl)
set_option maxRecDepth 65536 in
set_option maxHeartbeats 40000000 in
theorem own_ini2 (l : Launch) (Z : State) (a0 : Array Value) (hw : ∀ d ∈ tables_1, d.before a0 Z = true) (a b : Addr) (kb : ClassId) (x0 x1 : Int64) (b0 : Bk 1 x0) (b1 : Bk 1 x1) (h0 : Heap) (n0 : Nat) (z1 : n0 ≤ h0.size) (ge : n0 ≤ a) (Ea : Exa Z h0 a "com/example/unhurried_frontier/unhurriedfrontier/CrawlOrder") (F1 : Fld Z h0 a "com/example/unhurried_frontier/unhurriedfrontier/CrawlOrder" "rank" "[D" .null) (F2 : Fld Z h0 a "com/example/unhurried_frontier/unhurriedfrontier/CrawlOrder" "gathered" "[D" .null) (Ab : Arv Z h0 b kb .double (2 : Int32) [(.double (FP.l2d x0)), (.double (FP.l2d x1))] (.double (FP.l2d 0))) :
    Con Z l (⟨"com/example/unhurried_frontier/unhurriedfrontier/CrawlOrder", "<init>", "([D)V"⟩ : MethodName) prog_1_method_1_code 4 none ({ frames := 1, cells := 1, slots := 5, locals := 12 } : Room) [] #[.ref a, .ref b] h0 n0 [a] (V0 fun h => ∃ (g : Addr) (kg : ClassId), Fld Z h a "com/example/unhurried_frontier/unhurriedfrontier/CrawlOrder" "rank" "[D" (.ref b) ∧ Fld Z h a "com/example/unhurried_frontier/unhurriedfrontier/CrawlOrder" "gathered" "[D" (.ref g) ∧ Arv Z h g kg .double ((2 : Int32) + 1) [(.double (FP.l2d (0 : Int64))), (.double (FP.l2d ((0 : Int64) + x0))), (.double (FP.l2d (((0 : Int64) + x0) + x1)))] (.double (FP.l2d 0)) ∧ Arv Z h b kb .double (2 : Int32) [(.double (FP.l2d x0)), (.double (FP.l2d x1))] (.double (FP.l2d 0)) ∧ Exa Z h a "com/example/unhurried_frontier/unhurriedfrontier/CrawlOrder") := by
  refine Con.body pn_com_example_unhurried_frontier_unhurriedfrontier_CrawlOrder z1 (allS ge all0) #[.val (.ref a), .val (.ref b), .unset, .unset] (ef1 a b) ?_
  intro p e s m below meth c B hnm hret hlk G
  replace G := G.aloadN 1 d1_0 rfl rfl rfl
  replace G := G.initO 4 (hw _ (List.mem_of_getElem? (i := 8) rfl)) (hw _ (List.mem_of_getElem? (i := 9) rfl)) (hw _ (List.mem_of_getElem? (i := 10) rfl)) d1_1 rfl (Nat.le_of_ble_eq_true rfl) (Nat.le_of_ble_eq_true rfl) rfl
  replace G := G.aloadN 5 d1_4 rfl rfl rfl
  replace G := G.alen 6 Ab d1_5 rfl
  replace G := G.iconst 7 (1 : Int32) d1_6 rfl rfl
  replace G := G.iadd 8 d1_7 rfl
  obtain ⟨g, h1, kg, G', gg, sg, Eg, Ag⟩ := G.newarray 10 (hw _ (List.mem_of_getElem? (i := 1) rfl)) d1_8 (by decide) 5 (Nat.le_of_ble_eq_true rfl) (by decide) rfl (Nat.le_of_ble_eq_true rfl) (Nat.le_of_ble_eq_true rfl)
  clear G; have G := G'; clear G'
  have Ag : Arv Z h1 g kg .double ((2 : Int32) + 1) [(.double (FP.l2d 0)), (.double (FP.l2d 0)), (.double (FP.l2d 0))] (.double (FP.l2d 0)) := by rw [l2d_zero]; exact Ag.pad (vs' := [(.double 0), (.double 0), (.double 0)]) (pad_rep [] (.double 0) 3)
  have nab : a ≠ g := ne_new gg Ea.lt
  have nbb : b ≠ g := ne_new gg Ab.lt
  replace Ea := Ea.ext Eg; replace F1 := F1.ext Eg; replace F2 := F2.ext Eg; replace Ab := Ab.ext Eg
  have nwg := NW.new (ws := [a]) sg
  replace G := G.astoreN 11 #[.val (.ref a), .val (.ref b), .val (.ref g), .unset] d1_10 rfl rfl rfl
  replace G := G.iconst 12 (0 : Int32) d1_11 rfl rfl
  replace G := G.istoreN 13 #[.val (.ref a), .val (.ref b), .val (.ref g), .val (.int (0 : Int32))] d1_12 rfl rfl
  replace G := G.iloadN 14 d1_13 rfl rfl
  replace G := G.aloadN 15 d1_14 rfl rfl rfl
  replace G := G.alen 16 Ab d1_15 rfl
  replace G := G.icmpF 19 d1_16 (XT.ii_ge_f (by decide)) rfl
  replace G := G.aloadN 20 d1_19 rfl rfl rfl
  replace G := G.iloadN 21 d1_20 rfl rfl
  replace G := G.iconst 22 (1 : Int32) d1_21 rfl rfl
  replace G := G.iadd 23 d1_22 rfl
  replace G := G.aloadN 24 d1_23 rfl rfl rfl
  replace G := G.iloadN 25 d1_24 rfl rfl
  replace G := G.daload 26 Ag (by decide) rfl d1_25 rfl
  replace G := G.aloadN 27 d1_26 rfl rfl rfl
  replace G := G.iloadN 28 d1_27 rfl rfl
  replace G := G.daload 29 Ab (by decide) rfl d1_28 rfl
  replace G := G.daddS 30 d1_29 (nn_w (dadd_w (Bk.zero.b53 (by decide)) (b0.b53 (by decide)))) (dadd_w (Bk.zero.b53 (by decide)) (b0.b53 (by decide))) rfl
  obtain ⟨h2, G', As0, Ks0⟩ := G.dastore 31 1 Ag (by decide) rfl (Nat.le_of_ble_eq_true rfl) nwg d1_30 rfl
  clear G; have G := G'; clear G'
  replace Ag : Arv Z h2 g kg .double ((2 : Int32) + 1) [(.double (FP.l2d (0 : Int64))), (.double (FP.l2d ((0 : Int64) + x0))), (.double (FP.l2d 0))] (.double (FP.l2d 0)) := As0
  replace Ea := Ea.keep Ks0; replace F1 := F1.keep Ks0 (ninS nab nin0); replace F2 := F2.keep Ks0 (ninS nab nin0); replace Ab := Ab.keep Ks0 (ninS nbb nin0)
  replace G := G.iinc 34 #[.val (.ref a), .val (.ref b), .val (.ref g), .val (.int ((0 : Int32) + (1 : Int32)))] d1_31 rfl rfl rfl
  replace G := G.goto 13 d1_34 (by decide) (by decide)
  replace G := G.iloadN 14 d1_13 rfl rfl
  replace G := G.aloadN 15 d1_14 rfl rfl rfl
  replace G := G.alen 16 Ab d1_15 rfl
  replace G := G.icmpF 19 d1_16 (XT.ii_ge_f (by decide)) rfl
  replace G := G.aloadN 20 d1_19 rfl rfl rfl
  replace G := G.iloadN 21 d1_20 rfl rfl
  replace G := G.iconst 22 (1 : Int32) d1_21 rfl rfl
  replace G := G.iadd 23 d1_22 rfl
  replace G := G.aloadN 24 d1_23 rfl rfl rfl
  replace G := G.iloadN 25 d1_24 rfl rfl
  replace G := G.daload 26 Ag (by decide) rfl d1_25 rfl
  replace G := G.aloadN 27 d1_26 rfl rfl rfl
  replace G := G.iloadN 28 d1_27 rfl rfl
  replace G := G.daload 29 Ab (by decide) rfl d1_28 rfl
  replace G := G.daddS 30 d1_29 (nn_w (dadd_w ((Bk.add Bk.zero b0 (by decide)).b53 (by decide)) (b1.b53 (by decide)))) (dadd_w ((Bk.add Bk.zero b0 (by decide)).b53 (by decide)) (b1.b53 (by decide))) rfl
  obtain ⟨h3, G', As1, Ks1⟩ := G.dastore 31 2 Ag (by decide) rfl (Nat.le_of_ble_eq_true rfl) nwg d1_30 rfl
  clear G; have G := G'; clear G'
  replace Ag : Arv Z h3 g kg .double ((2 : Int32) + 1) [(.double (FP.l2d (0 : Int64))), (.double (FP.l2d ((0 : Int64) + x0))), (.double (FP.l2d (((0 : Int64) + x0) + x1)))] (.double (FP.l2d 0)) := As1
  replace Ea := Ea.keep Ks1; replace F1 := F1.keep Ks1 (ninS nab nin0); replace F2 := F2.keep Ks1 (ninS nab nin0); replace Ab := Ab.keep Ks1 (ninS nbb nin0)
  replace G := G.iinc 34 #[.val (.ref a), .val (.ref b), .val (.ref g), .val (.int (((0 : Int32) + (1 : Int32)) + (1 : Int32)))] d1_31 rfl rfl rfl
  replace G := G.goto 13 d1_34 (by decide) (by decide)
  replace G := G.iloadN 14 d1_13 rfl rfl
  replace G := G.aloadN 15 d1_14 rfl rfl rfl
  replace G := G.alen 16 Ab d1_15 rfl
  replace G := G.icmpT 37 d1_16 (XT.ii_ge_t (by decide)) (by decide) (by decide)
  replace G := G.aloadN 38 d1_37 rfl rfl rfl
  replace G := G.aloadN 39 d1_38 rfl rfl rfl
  obtain ⟨hp1, G', Wp1, Fp1, Kp1⟩ := G.putf 42 (host := "") (Or.inl (hw _ (List.mem_of_getElem? (i := 11) rfl))) Via.refl F1 Ea (Or.inr ⟨(hw _ (List.mem_of_getElem? (i := 12) rfl)), rfl, hnm⟩) (hw _ (List.mem_of_getElem? (i := 3) rfl)) (ty := (.array .double)) (by decide) rfl rfl (Or.inl (by simp)) d1_39 rfl
  clear G; have G := G'; clear G'
  have nba : b ≠ a := fun q => ne_arr Ea (hw _ (List.mem_of_getElem? (i := 3) rfl)) (Ab.choose_spec.1) q.symm
  replace F2 := F2.other Wp1 (Or.inr (slot_ne (Or.inr (hw _ (List.mem_of_getElem? (i := 14) rfl))) (Or.inr (hw _ (List.mem_of_getElem? (i := 12) rfl))) (by decide) (t := .array .double) (t' := .array .double) (by decide) (by decide)))
  replace Ea := Ea.wr Wp1; replace Ab := Ab.keep Kp1 (ninS nba nin0); replace Ag := Ag.keep Kp1 (ninS nab.symm nin0)
  replace G := G.aloadN 43 d1_42 rfl rfl rfl
  replace G := G.aloadN 44 d1_43 rfl rfl rfl
  obtain ⟨hp2, G', Wp2, Fp2, Kp2⟩ := G.putf 47 (host := "") (Or.inl (hw _ (List.mem_of_getElem? (i := 13) rfl))) Via.refl F2 Ea (Or.inr ⟨(hw _ (List.mem_of_getElem? (i := 14) rfl)), rfl, hnm⟩) (hw _ (List.mem_of_getElem? (i := 3) rfl)) (ty := (.array .double)) (by decide) rfl rfl (Or.inl (by simp)) d1_44 rfl
  clear G; have G := G'; clear G'
  replace Fp1 := Fp1.other Wp2 (Or.inr (slot_ne (Or.inr (hw _ (List.mem_of_getElem? (i := 12) rfl))) (Or.inr (hw _ (List.mem_of_getElem? (i := 14) rfl))) (by decide) (t := .array .double) (t' := .array .double) (by decide) (by decide)))
  replace Ea := Ea.wr Wp2; replace Ab := Ab.keep Kp2 (ninS nba nin0); replace Ag := Ag.keep Kp2 (ninS nab.symm nin0)
  exact G.retV hret hlk d1_47 ⟨rfl, g, kg, Fp1, Fp2, Ag, Ab, Ea⟩ (Nat.le_of_ble_eq_true rfl) (Nat.le_of_ble_eq_true rfl)
set_option maxRecDepth 65536 in
set_option maxHeartbeats 40000000 in
theorem own_ini3 (l : Launch) (Z : State) (a0 : Array Value) (hw : ∀ d ∈ tables_1, d.before a0 Z = true) (a b : Addr) (kb : ClassId) (x0 x1 x2 : Int64) (b0 : Bk 1 x0) (b1 : Bk 1 x1) (b2 : Bk 1 x2) (h0 : Heap) (n0 : Nat) (z1 : n0 ≤ h0.size) (ge : n0 ≤ a) (Ea : Exa Z h0 a "com/example/unhurried_frontier/unhurriedfrontier/CrawlOrder") (F1 : Fld Z h0 a "com/example/unhurried_frontier/unhurriedfrontier/CrawlOrder" "rank" "[D" .null) (F2 : Fld Z h0 a "com/example/unhurried_frontier/unhurriedfrontier/CrawlOrder" "gathered" "[D" .null) (Ab : Arv Z h0 b kb .double (3 : Int32) [(.double (FP.l2d x0)), (.double (FP.l2d x1)), (.double (FP.l2d x2))] (.double (FP.l2d 0))) :
    Con Z l (⟨"com/example/unhurried_frontier/unhurriedfrontier/CrawlOrder", "<init>", "([D)V"⟩ : MethodName) prog_1_method_1_code 4 none ({ frames := 1, cells := 1, slots := 5, locals := 12 } : Room) [] #[.ref a, .ref b] h0 n0 [a] (V0 fun h => ∃ (g : Addr) (kg : ClassId), Fld Z h a "com/example/unhurried_frontier/unhurriedfrontier/CrawlOrder" "rank" "[D" (.ref b) ∧ Fld Z h a "com/example/unhurried_frontier/unhurriedfrontier/CrawlOrder" "gathered" "[D" (.ref g) ∧ Arv Z h g kg .double ((3 : Int32) + 1) [(.double (FP.l2d (0 : Int64))), (.double (FP.l2d ((0 : Int64) + x0))), (.double (FP.l2d (((0 : Int64) + x0) + x1))), (.double (FP.l2d ((((0 : Int64) + x0) + x1) + x2)))] (.double (FP.l2d 0)) ∧ Arv Z h b kb .double (3 : Int32) [(.double (FP.l2d x0)), (.double (FP.l2d x1)), (.double (FP.l2d x2))] (.double (FP.l2d 0)) ∧ Exa Z h a "com/example/unhurried_frontier/unhurriedfrontier/CrawlOrder") := by
  refine Con.body pn_com_example_unhurried_frontier_unhurriedfrontier_CrawlOrder z1 (allS ge all0) #[.val (.ref a), .val (.ref b), .unset, .unset] (ef1 a b) ?_
  intro p e s m below meth c B hnm hret hlk G
  replace G := G.aloadN 1 d1_0 rfl rfl rfl
  replace G := G.initO 4 (hw _ (List.mem_of_getElem? (i := 8) rfl)) (hw _ (List.mem_of_getElem? (i := 9) rfl)) (hw _ (List.mem_of_getElem? (i := 10) rfl)) d1_1 rfl (Nat.le_of_ble_eq_true rfl) (Nat.le_of_ble_eq_true rfl) rfl
  replace G := G.aloadN 5 d1_4 rfl rfl rfl
  replace G := G.alen 6 Ab d1_5 rfl
  replace G := G.iconst 7 (1 : Int32) d1_6 rfl rfl
  replace G := G.iadd 8 d1_7 rfl
  obtain ⟨g, h1, kg, G', gg, sg, Eg, Ag⟩ := G.newarray 10 (hw _ (List.mem_of_getElem? (i := 1) rfl)) d1_8 (by decide) 5 (Nat.le_of_ble_eq_true rfl) (by decide) rfl (Nat.le_of_ble_eq_true rfl) (Nat.le_of_ble_eq_true rfl)
  clear G; have G := G'; clear G'
  have Ag : Arv Z h1 g kg .double ((3 : Int32) + 1) [(.double (FP.l2d 0)), (.double (FP.l2d 0)), (.double (FP.l2d 0)), (.double (FP.l2d 0))] (.double (FP.l2d 0)) := by rw [l2d_zero]; exact Ag.pad (vs' := [(.double 0), (.double 0), (.double 0), (.double 0)]) (pad_rep [] (.double 0) 4)
  have nab : a ≠ g := ne_new gg Ea.lt
  have nbb : b ≠ g := ne_new gg Ab.lt
  replace Ea := Ea.ext Eg; replace F1 := F1.ext Eg; replace F2 := F2.ext Eg; replace Ab := Ab.ext Eg
  have nwg := NW.new (ws := [a]) sg
  replace G := G.astoreN 11 #[.val (.ref a), .val (.ref b), .val (.ref g), .unset] d1_10 rfl rfl rfl
  replace G := G.iconst 12 (0 : Int32) d1_11 rfl rfl
  replace G := G.istoreN 13 #[.val (.ref a), .val (.ref b), .val (.ref g), .val (.int (0 : Int32))] d1_12 rfl rfl
  replace G := G.iloadN 14 d1_13 rfl rfl
  replace G := G.aloadN 15 d1_14 rfl rfl rfl
  replace G := G.alen 16 Ab d1_15 rfl
  replace G := G.icmpF 19 d1_16 (XT.ii_ge_f (by decide)) rfl
  replace G := G.aloadN 20 d1_19 rfl rfl rfl
  replace G := G.iloadN 21 d1_20 rfl rfl
  replace G := G.iconst 22 (1 : Int32) d1_21 rfl rfl
  replace G := G.iadd 23 d1_22 rfl
  replace G := G.aloadN 24 d1_23 rfl rfl rfl
  replace G := G.iloadN 25 d1_24 rfl rfl
  replace G := G.daload 26 Ag (by decide) rfl d1_25 rfl
  replace G := G.aloadN 27 d1_26 rfl rfl rfl
  replace G := G.iloadN 28 d1_27 rfl rfl
  replace G := G.daload 29 Ab (by decide) rfl d1_28 rfl
  replace G := G.daddS 30 d1_29 (nn_w (dadd_w (Bk.zero.b53 (by decide)) (b0.b53 (by decide)))) (dadd_w (Bk.zero.b53 (by decide)) (b0.b53 (by decide))) rfl
  obtain ⟨h2, G', As0, Ks0⟩ := G.dastore 31 1 Ag (by decide) rfl (Nat.le_of_ble_eq_true rfl) nwg d1_30 rfl
  clear G; have G := G'; clear G'
  replace Ag : Arv Z h2 g kg .double ((3 : Int32) + 1) [(.double (FP.l2d (0 : Int64))), (.double (FP.l2d ((0 : Int64) + x0))), (.double (FP.l2d 0)), (.double (FP.l2d 0))] (.double (FP.l2d 0)) := As0
  replace Ea := Ea.keep Ks0; replace F1 := F1.keep Ks0 (ninS nab nin0); replace F2 := F2.keep Ks0 (ninS nab nin0); replace Ab := Ab.keep Ks0 (ninS nbb nin0)
  replace G := G.iinc 34 #[.val (.ref a), .val (.ref b), .val (.ref g), .val (.int ((0 : Int32) + (1 : Int32)))] d1_31 rfl rfl rfl
  replace G := G.goto 13 d1_34 (by decide) (by decide)
  replace G := G.iloadN 14 d1_13 rfl rfl
  replace G := G.aloadN 15 d1_14 rfl rfl rfl
  replace G := G.alen 16 Ab d1_15 rfl
  replace G := G.icmpF 19 d1_16 (XT.ii_ge_f (by decide)) rfl
  replace G := G.aloadN 20 d1_19 rfl rfl rfl
  replace G := G.iloadN 21 d1_20 rfl rfl
  replace G := G.iconst 22 (1 : Int32) d1_21 rfl rfl
  replace G := G.iadd 23 d1_22 rfl
  replace G := G.aloadN 24 d1_23 rfl rfl rfl
  replace G := G.iloadN 25 d1_24 rfl rfl
  replace G := G.daload 26 Ag (by decide) rfl d1_25 rfl
  replace G := G.aloadN 27 d1_26 rfl rfl rfl
  replace G := G.iloadN 28 d1_27 rfl rfl
  replace G := G.daload 29 Ab (by decide) rfl d1_28 rfl
  replace G := G.daddS 30 d1_29 (nn_w (dadd_w ((Bk.add Bk.zero b0 (by decide)).b53 (by decide)) (b1.b53 (by decide)))) (dadd_w ((Bk.add Bk.zero b0 (by decide)).b53 (by decide)) (b1.b53 (by decide))) rfl
  obtain ⟨h3, G', As1, Ks1⟩ := G.dastore 31 2 Ag (by decide) rfl (Nat.le_of_ble_eq_true rfl) nwg d1_30 rfl
  clear G; have G := G'; clear G'
  replace Ag : Arv Z h3 g kg .double ((3 : Int32) + 1) [(.double (FP.l2d (0 : Int64))), (.double (FP.l2d ((0 : Int64) + x0))), (.double (FP.l2d (((0 : Int64) + x0) + x1))), (.double (FP.l2d 0))] (.double (FP.l2d 0)) := As1
  replace Ea := Ea.keep Ks1; replace F1 := F1.keep Ks1 (ninS nab nin0); replace F2 := F2.keep Ks1 (ninS nab nin0); replace Ab := Ab.keep Ks1 (ninS nbb nin0)
  replace G := G.iinc 34 #[.val (.ref a), .val (.ref b), .val (.ref g), .val (.int (((0 : Int32) + (1 : Int32)) + (1 : Int32)))] d1_31 rfl rfl rfl
  replace G := G.goto 13 d1_34 (by decide) (by decide)
  replace G := G.iloadN 14 d1_13 rfl rfl
  replace G := G.aloadN 15 d1_14 rfl rfl rfl
  replace G := G.alen 16 Ab d1_15 rfl
  replace G := G.icmpF 19 d1_16 (XT.ii_ge_f (by decide)) rfl
  replace G := G.aloadN 20 d1_19 rfl rfl rfl
  replace G := G.iloadN 21 d1_20 rfl rfl
  replace G := G.iconst 22 (1 : Int32) d1_21 rfl rfl
  replace G := G.iadd 23 d1_22 rfl
  replace G := G.aloadN 24 d1_23 rfl rfl rfl
  replace G := G.iloadN 25 d1_24 rfl rfl
  replace G := G.daload 26 Ag (by decide) rfl d1_25 rfl
  replace G := G.aloadN 27 d1_26 rfl rfl rfl
  replace G := G.iloadN 28 d1_27 rfl rfl
  replace G := G.daload 29 Ab (by decide) rfl d1_28 rfl
  replace G := G.daddS 30 d1_29 (nn_w (dadd_w ((Bk.add (Bk.add Bk.zero b0 (by decide)) b1 (by decide)).b53 (by decide)) (b2.b53 (by decide)))) (dadd_w ((Bk.add (Bk.add Bk.zero b0 (by decide)) b1 (by decide)).b53 (by decide)) (b2.b53 (by decide))) rfl
  obtain ⟨h4, G', As2, Ks2⟩ := G.dastore 31 3 Ag (by decide) rfl (Nat.le_of_ble_eq_true rfl) nwg d1_30 rfl
  clear G; have G := G'; clear G'
  replace Ag : Arv Z h4 g kg .double ((3 : Int32) + 1) [(.double (FP.l2d (0 : Int64))), (.double (FP.l2d ((0 : Int64) + x0))), (.double (FP.l2d (((0 : Int64) + x0) + x1))), (.double (FP.l2d ((((0 : Int64) + x0) + x1) + x2)))] (.double (FP.l2d 0)) := As2
  replace Ea := Ea.keep Ks2; replace F1 := F1.keep Ks2 (ninS nab nin0); replace F2 := F2.keep Ks2 (ninS nab nin0); replace Ab := Ab.keep Ks2 (ninS nbb nin0)
  replace G := G.iinc 34 #[.val (.ref a), .val (.ref b), .val (.ref g), .val (.int ((((0 : Int32) + (1 : Int32)) + (1 : Int32)) + (1 : Int32)))] d1_31 rfl rfl rfl
  replace G := G.goto 13 d1_34 (by decide) (by decide)
  replace G := G.iloadN 14 d1_13 rfl rfl
  replace G := G.aloadN 15 d1_14 rfl rfl rfl
  replace G := G.alen 16 Ab d1_15 rfl
  replace G := G.icmpT 37 d1_16 (XT.ii_ge_t (by decide)) (by decide) (by decide)
  replace G := G.aloadN 38 d1_37 rfl rfl rfl
  replace G := G.aloadN 39 d1_38 rfl rfl rfl
  obtain ⟨hp1, G', Wp1, Fp1, Kp1⟩ := G.putf 42 (host := "") (Or.inl (hw _ (List.mem_of_getElem? (i := 11) rfl))) Via.refl F1 Ea (Or.inr ⟨(hw _ (List.mem_of_getElem? (i := 12) rfl)), rfl, hnm⟩) (hw _ (List.mem_of_getElem? (i := 3) rfl)) (ty := (.array .double)) (by decide) rfl rfl (Or.inl (by simp)) d1_39 rfl
  clear G; have G := G'; clear G'
  have nba : b ≠ a := fun q => ne_arr Ea (hw _ (List.mem_of_getElem? (i := 3) rfl)) (Ab.choose_spec.1) q.symm
  replace F2 := F2.other Wp1 (Or.inr (slot_ne (Or.inr (hw _ (List.mem_of_getElem? (i := 14) rfl))) (Or.inr (hw _ (List.mem_of_getElem? (i := 12) rfl))) (by decide) (t := .array .double) (t' := .array .double) (by decide) (by decide)))
  replace Ea := Ea.wr Wp1; replace Ab := Ab.keep Kp1 (ninS nba nin0); replace Ag := Ag.keep Kp1 (ninS nab.symm nin0)
  replace G := G.aloadN 43 d1_42 rfl rfl rfl
  replace G := G.aloadN 44 d1_43 rfl rfl rfl
  obtain ⟨hp2, G', Wp2, Fp2, Kp2⟩ := G.putf 47 (host := "") (Or.inl (hw _ (List.mem_of_getElem? (i := 13) rfl))) Via.refl F2 Ea (Or.inr ⟨(hw _ (List.mem_of_getElem? (i := 14) rfl)), rfl, hnm⟩) (hw _ (List.mem_of_getElem? (i := 3) rfl)) (ty := (.array .double)) (by decide) rfl rfl (Or.inl (by simp)) d1_44 rfl
  clear G; have G := G'; clear G'
  replace Fp1 := Fp1.other Wp2 (Or.inr (slot_ne (Or.inr (hw _ (List.mem_of_getElem? (i := 12) rfl))) (Or.inr (hw _ (List.mem_of_getElem? (i := 14) rfl))) (by decide) (t := .array .double) (t' := .array .double) (by decide) (by decide)))
  replace Ea := Ea.wr Wp2; replace Ab := Ab.keep Kp2 (ninS nba nin0); replace Ag := Ag.keep Kp2 (ninS nab.symm nin0)
  exact G.retV hret hlk d1_47 ⟨rfl, g, kg, Fp1, Fp2, Ag, Ab, Ea⟩ (Nat.le_of_ble_eq_true rfl) (Nat.le_of_ble_eq_true rfl)
set_option maxRecDepth 65536 in
set_option maxHeartbeats 40000000 in
theorem own_ini4 (l : Launch) (Z : State) (a0 : Array Value) (hw : ∀ d ∈ tables_1, d.before a0 Z = true) (a b : Addr) (kb : ClassId) (x0 x1 x2 x3 : Int64) (b0 : Bk 1 x0) (b1 : Bk 1 x1) (b2 : Bk 1 x2) (b3 : Bk 1 x3) (h0 : Heap) (n0 : Nat) (z1 : n0 ≤ h0.size) (ge : n0 ≤ a) (Ea : Exa Z h0 a "com/example/unhurried_frontier/unhurriedfrontier/CrawlOrder") (F1 : Fld Z h0 a "com/example/unhurried_frontier/unhurriedfrontier/CrawlOrder" "rank" "[D" .null) (F2 : Fld Z h0 a "com/example/unhurried_frontier/unhurriedfrontier/CrawlOrder" "gathered" "[D" .null) (Ab : Arv Z h0 b kb .double (4 : Int32) [(.double (FP.l2d x0)), (.double (FP.l2d x1)), (.double (FP.l2d x2)), (.double (FP.l2d x3))] (.double (FP.l2d 0))) :
    Con Z l (⟨"com/example/unhurried_frontier/unhurriedfrontier/CrawlOrder", "<init>", "([D)V"⟩ : MethodName) prog_1_method_1_code 4 none ({ frames := 1, cells := 1, slots := 5, locals := 12 } : Room) [] #[.ref a, .ref b] h0 n0 [a] (V0 fun h => ∃ (g : Addr) (kg : ClassId), Fld Z h a "com/example/unhurried_frontier/unhurriedfrontier/CrawlOrder" "rank" "[D" (.ref b) ∧ Fld Z h a "com/example/unhurried_frontier/unhurriedfrontier/CrawlOrder" "gathered" "[D" (.ref g) ∧ Arv Z h g kg .double ((4 : Int32) + 1) [(.double (FP.l2d (0 : Int64))), (.double (FP.l2d ((0 : Int64) + x0))), (.double (FP.l2d (((0 : Int64) + x0) + x1))), (.double (FP.l2d ((((0 : Int64) + x0) + x1) + x2))), (.double (FP.l2d (((((0 : Int64) + x0) + x1) + x2) + x3)))] (.double (FP.l2d 0)) ∧ Arv Z h b kb .double (4 : Int32) [(.double (FP.l2d x0)), (.double (FP.l2d x1)), (.double (FP.l2d x2)), (.double (FP.l2d x3))] (.double (FP.l2d 0)) ∧ Exa Z h a "com/example/unhurried_frontier/unhurriedfrontier/CrawlOrder") := by
  refine Con.body pn_com_example_unhurried_frontier_unhurriedfrontier_CrawlOrder z1 (allS ge all0) #[.val (.ref a), .val (.ref b), .unset, .unset] (ef1 a b) ?_
  intro p e s m below meth c B hnm hret hlk G
  replace G := G.aloadN 1 d1_0 rfl rfl rfl
  replace G := G.initO 4 (hw _ (List.mem_of_getElem? (i := 8) rfl)) (hw _ (List.mem_of_getElem? (i := 9) rfl)) (hw _ (List.mem_of_getElem? (i := 10) rfl)) d1_1 rfl (Nat.le_of_ble_eq_true rfl) (Nat.le_of_ble_eq_true rfl) rfl
  replace G := G.aloadN 5 d1_4 rfl rfl rfl
  replace G := G.alen 6 Ab d1_5 rfl
  replace G := G.iconst 7 (1 : Int32) d1_6 rfl rfl
  replace G := G.iadd 8 d1_7 rfl
  obtain ⟨g, h1, kg, G', gg, sg, Eg, Ag⟩ := G.newarray 10 (hw _ (List.mem_of_getElem? (i := 1) rfl)) d1_8 (by decide) 5 (Nat.le_of_ble_eq_true rfl) (by decide) rfl (Nat.le_of_ble_eq_true rfl) (Nat.le_of_ble_eq_true rfl)
  clear G; have G := G'; clear G'
  have Ag : Arv Z h1 g kg .double ((4 : Int32) + 1) [(.double (FP.l2d 0)), (.double (FP.l2d 0)), (.double (FP.l2d 0)), (.double (FP.l2d 0)), (.double (FP.l2d 0))] (.double (FP.l2d 0)) := by rw [l2d_zero]; exact Ag.pad (vs' := [(.double 0), (.double 0), (.double 0), (.double 0), (.double 0)]) (pad_rep [] (.double 0) 5)
  have nab : a ≠ g := ne_new gg Ea.lt
  have nbb : b ≠ g := ne_new gg Ab.lt
  replace Ea := Ea.ext Eg; replace F1 := F1.ext Eg; replace F2 := F2.ext Eg; replace Ab := Ab.ext Eg
  have nwg := NW.new (ws := [a]) sg
  replace G := G.astoreN 11 #[.val (.ref a), .val (.ref b), .val (.ref g), .unset] d1_10 rfl rfl rfl
  replace G := G.iconst 12 (0 : Int32) d1_11 rfl rfl
  replace G := G.istoreN 13 #[.val (.ref a), .val (.ref b), .val (.ref g), .val (.int (0 : Int32))] d1_12 rfl rfl
  replace G := G.iloadN 14 d1_13 rfl rfl
  replace G := G.aloadN 15 d1_14 rfl rfl rfl
  replace G := G.alen 16 Ab d1_15 rfl
  replace G := G.icmpF 19 d1_16 (XT.ii_ge_f (by decide)) rfl
  replace G := G.aloadN 20 d1_19 rfl rfl rfl
  replace G := G.iloadN 21 d1_20 rfl rfl
  replace G := G.iconst 22 (1 : Int32) d1_21 rfl rfl
  replace G := G.iadd 23 d1_22 rfl
  replace G := G.aloadN 24 d1_23 rfl rfl rfl
  replace G := G.iloadN 25 d1_24 rfl rfl
  replace G := G.daload 26 Ag (by decide) rfl d1_25 rfl
  replace G := G.aloadN 27 d1_26 rfl rfl rfl
  replace G := G.iloadN 28 d1_27 rfl rfl
  replace G := G.daload 29 Ab (by decide) rfl d1_28 rfl
  replace G := G.daddS 30 d1_29 (nn_w (dadd_w (Bk.zero.b53 (by decide)) (b0.b53 (by decide)))) (dadd_w (Bk.zero.b53 (by decide)) (b0.b53 (by decide))) rfl
  obtain ⟨h2, G', As0, Ks0⟩ := G.dastore 31 1 Ag (by decide) rfl (Nat.le_of_ble_eq_true rfl) nwg d1_30 rfl
  clear G; have G := G'; clear G'
  replace Ag : Arv Z h2 g kg .double ((4 : Int32) + 1) [(.double (FP.l2d (0 : Int64))), (.double (FP.l2d ((0 : Int64) + x0))), (.double (FP.l2d 0)), (.double (FP.l2d 0)), (.double (FP.l2d 0))] (.double (FP.l2d 0)) := As0
  replace Ea := Ea.keep Ks0; replace F1 := F1.keep Ks0 (ninS nab nin0); replace F2 := F2.keep Ks0 (ninS nab nin0); replace Ab := Ab.keep Ks0 (ninS nbb nin0)
  replace G := G.iinc 34 #[.val (.ref a), .val (.ref b), .val (.ref g), .val (.int ((0 : Int32) + (1 : Int32)))] d1_31 rfl rfl rfl
  replace G := G.goto 13 d1_34 (by decide) (by decide)
  replace G := G.iloadN 14 d1_13 rfl rfl
  replace G := G.aloadN 15 d1_14 rfl rfl rfl
  replace G := G.alen 16 Ab d1_15 rfl
  replace G := G.icmpF 19 d1_16 (XT.ii_ge_f (by decide)) rfl
  replace G := G.aloadN 20 d1_19 rfl rfl rfl
  replace G := G.iloadN 21 d1_20 rfl rfl
  replace G := G.iconst 22 (1 : Int32) d1_21 rfl rfl
  replace G := G.iadd 23 d1_22 rfl
  replace G := G.aloadN 24 d1_23 rfl rfl rfl
  replace G := G.iloadN 25 d1_24 rfl rfl
  replace G := G.daload 26 Ag (by decide) rfl d1_25 rfl
  replace G := G.aloadN 27 d1_26 rfl rfl rfl
  replace G := G.iloadN 28 d1_27 rfl rfl
  replace G := G.daload 29 Ab (by decide) rfl d1_28 rfl
  replace G := G.daddS 30 d1_29 (nn_w (dadd_w ((Bk.add Bk.zero b0 (by decide)).b53 (by decide)) (b1.b53 (by decide)))) (dadd_w ((Bk.add Bk.zero b0 (by decide)).b53 (by decide)) (b1.b53 (by decide))) rfl
  obtain ⟨h3, G', As1, Ks1⟩ := G.dastore 31 2 Ag (by decide) rfl (Nat.le_of_ble_eq_true rfl) nwg d1_30 rfl
  clear G; have G := G'; clear G'
  replace Ag : Arv Z h3 g kg .double ((4 : Int32) + 1) [(.double (FP.l2d (0 : Int64))), (.double (FP.l2d ((0 : Int64) + x0))), (.double (FP.l2d (((0 : Int64) + x0) + x1))), (.double (FP.l2d 0)), (.double (FP.l2d 0))] (.double (FP.l2d 0)) := As1
  replace Ea := Ea.keep Ks1; replace F1 := F1.keep Ks1 (ninS nab nin0); replace F2 := F2.keep Ks1 (ninS nab nin0); replace Ab := Ab.keep Ks1 (ninS nbb nin0)
  replace G := G.iinc 34 #[.val (.ref a), .val (.ref b), .val (.ref g), .val (.int (((0 : Int32) + (1 : Int32)) + (1 : Int32)))] d1_31 rfl rfl rfl
  replace G := G.goto 13 d1_34 (by decide) (by decide)
  replace G := G.iloadN 14 d1_13 rfl rfl
  replace G := G.aloadN 15 d1_14 rfl rfl rfl
  replace G := G.alen 16 Ab d1_15 rfl
  replace G := G.icmpF 19 d1_16 (XT.ii_ge_f (by decide)) rfl
  replace G := G.aloadN 20 d1_19 rfl rfl rfl
  replace G := G.iloadN 21 d1_20 rfl rfl
  replace G := G.iconst 22 (1 : Int32) d1_21 rfl rfl
  replace G := G.iadd 23 d1_22 rfl
  replace G := G.aloadN 24 d1_23 rfl rfl rfl
  replace G := G.iloadN 25 d1_24 rfl rfl
  replace G := G.daload 26 Ag (by decide) rfl d1_25 rfl
  replace G := G.aloadN 27 d1_26 rfl rfl rfl
  replace G := G.iloadN 28 d1_27 rfl rfl
  replace G := G.daload 29 Ab (by decide) rfl d1_28 rfl
  replace G := G.daddS 30 d1_29 (nn_w (dadd_w ((Bk.add (Bk.add Bk.zero b0 (by decide)) b1 (by decide)).b53 (by decide)) (b2.b53 (by decide)))) (dadd_w ((Bk.add (Bk.add Bk.zero b0 (by decide)) b1 (by decide)).b53 (by decide)) (b2.b53 (by decide))) rfl
  obtain ⟨h4, G', As2, Ks2⟩ := G.dastore 31 3 Ag (by decide) rfl (Nat.le_of_ble_eq_true rfl) nwg d1_30 rfl
  clear G; have G := G'; clear G'
  replace Ag : Arv Z h4 g kg .double ((4 : Int32) + 1) [(.double (FP.l2d (0 : Int64))), (.double (FP.l2d ((0 : Int64) + x0))), (.double (FP.l2d (((0 : Int64) + x0) + x1))), (.double (FP.l2d ((((0 : Int64) + x0) + x1) + x2))), (.double (FP.l2d 0))] (.double (FP.l2d 0)) := As2
  replace Ea := Ea.keep Ks2; replace F1 := F1.keep Ks2 (ninS nab nin0); replace F2 := F2.keep Ks2 (ninS nab nin0); replace Ab := Ab.keep Ks2 (ninS nbb nin0)
  replace G := G.iinc 34 #[.val (.ref a), .val (.ref b), .val (.ref g), .val (.int ((((0 : Int32) + (1 : Int32)) + (1 : Int32)) + (1 : Int32)))] d1_31 rfl rfl rfl
  replace G := G.goto 13 d1_34 (by decide) (by decide)
  replace G := G.iloadN 14 d1_13 rfl rfl
  replace G := G.aloadN 15 d1_14 rfl rfl rfl
  replace G := G.alen 16 Ab d1_15 rfl
  replace G := G.icmpF 19 d1_16 (XT.ii_ge_f (by decide)) rfl
  replace G := G.aloadN 20 d1_19 rfl rfl rfl
  replace G := G.iloadN 21 d1_20 rfl rfl
  replace G := G.iconst 22 (1 : Int32) d1_21 rfl rfl
  replace G := G.iadd 23 d1_22 rfl
  replace G := G.aloadN 24 d1_23 rfl rfl rfl
  replace G := G.iloadN 25 d1_24 rfl rfl
  replace G := G.daload 26 Ag (by decide) rfl d1_25 rfl
  replace G := G.aloadN 27 d1_26 rfl rfl rfl
  replace G := G.iloadN 28 d1_27 rfl rfl
  replace G := G.daload 29 Ab (by decide) rfl d1_28 rfl
  replace G := G.daddS 30 d1_29 (nn_w (dadd_w ((Bk.add (Bk.add (Bk.add Bk.zero b0 (by decide)) b1 (by decide)) b2 (by decide)).b53 (by decide)) (b3.b53 (by decide)))) (dadd_w ((Bk.add (Bk.add (Bk.add Bk.zero b0 (by decide)) b1 (by decide)) b2 (by decide)).b53 (by decide)) (b3.b53 (by decide))) rfl
  obtain ⟨h5, G', As3, Ks3⟩ := G.dastore 31 4 Ag (by decide) rfl (Nat.le_of_ble_eq_true rfl) nwg d1_30 rfl
  clear G; have G := G'; clear G'
  replace Ag : Arv Z h5 g kg .double ((4 : Int32) + 1) [(.double (FP.l2d (0 : Int64))), (.double (FP.l2d ((0 : Int64) + x0))), (.double (FP.l2d (((0 : Int64) + x0) + x1))), (.double (FP.l2d ((((0 : Int64) + x0) + x1) + x2))), (.double (FP.l2d (((((0 : Int64) + x0) + x1) + x2) + x3)))] (.double (FP.l2d 0)) := As3
  replace Ea := Ea.keep Ks3; replace F1 := F1.keep Ks3 (ninS nab nin0); replace F2 := F2.keep Ks3 (ninS nab nin0); replace Ab := Ab.keep Ks3 (ninS nbb nin0)
  replace G := G.iinc 34 #[.val (.ref a), .val (.ref b), .val (.ref g), .val (.int (((((0 : Int32) + (1 : Int32)) + (1 : Int32)) + (1 : Int32)) + (1 : Int32)))] d1_31 rfl rfl rfl
  replace G := G.goto 13 d1_34 (by decide) (by decide)
  replace G := G.iloadN 14 d1_13 rfl rfl
  replace G := G.aloadN 15 d1_14 rfl rfl rfl
  replace G := G.alen 16 Ab d1_15 rfl
  replace G := G.icmpT 37 d1_16 (XT.ii_ge_t (by decide)) (by decide) (by decide)
  replace G := G.aloadN 38 d1_37 rfl rfl rfl
  replace G := G.aloadN 39 d1_38 rfl rfl rfl
  obtain ⟨hp1, G', Wp1, Fp1, Kp1⟩ := G.putf 42 (host := "") (Or.inl (hw _ (List.mem_of_getElem? (i := 11) rfl))) Via.refl F1 Ea (Or.inr ⟨(hw _ (List.mem_of_getElem? (i := 12) rfl)), rfl, hnm⟩) (hw _ (List.mem_of_getElem? (i := 3) rfl)) (ty := (.array .double)) (by decide) rfl rfl (Or.inl (by simp)) d1_39 rfl
  clear G; have G := G'; clear G'
  have nba : b ≠ a := fun q => ne_arr Ea (hw _ (List.mem_of_getElem? (i := 3) rfl)) (Ab.choose_spec.1) q.symm
  replace F2 := F2.other Wp1 (Or.inr (slot_ne (Or.inr (hw _ (List.mem_of_getElem? (i := 14) rfl))) (Or.inr (hw _ (List.mem_of_getElem? (i := 12) rfl))) (by decide) (t := .array .double) (t' := .array .double) (by decide) (by decide)))
  replace Ea := Ea.wr Wp1; replace Ab := Ab.keep Kp1 (ninS nba nin0); replace Ag := Ag.keep Kp1 (ninS nab.symm nin0)
  replace G := G.aloadN 43 d1_42 rfl rfl rfl
  replace G := G.aloadN 44 d1_43 rfl rfl rfl
  obtain ⟨hp2, G', Wp2, Fp2, Kp2⟩ := G.putf 47 (host := "") (Or.inl (hw _ (List.mem_of_getElem? (i := 13) rfl))) Via.refl F2 Ea (Or.inr ⟨(hw _ (List.mem_of_getElem? (i := 14) rfl)), rfl, hnm⟩) (hw _ (List.mem_of_getElem? (i := 3) rfl)) (ty := (.array .double)) (by decide) rfl rfl (Or.inl (by simp)) d1_44 rfl
  clear G; have G := G'; clear G'
  replace Fp1 := Fp1.other Wp2 (Or.inr (slot_ne (Or.inr (hw _ (List.mem_of_getElem? (i := 12) rfl))) (Or.inr (hw _ (List.mem_of_getElem? (i := 14) rfl))) (by decide) (t := .array .double) (t' := .array .double) (by decide) (by decide)))
  replace Ea := Ea.wr Wp2; replace Ab := Ab.keep Kp2 (ninS nba nin0); replace Ag := Ag.keep Kp2 (ninS nab.symm nin0)
  exact G.retV hret hlk d1_47 ⟨rfl, g, kg, Fp1, Fp2, Ag, Ab, Ea⟩ (Nat.le_of_ble_eq_true rfl) (Nat.le_of_ble_eq_true rfl)
set_option maxRecDepth 65536 in
set_option maxHeartbeats 40000000 in
theorem own_sh0_0 (l : Launch) (Z : State) (a0 : Array Value) (hw : ∀ d ∈ tables_1, d.before a0 Z = true) (a b g : Addr) (kb kg : ClassId) (q : Int32) (h0 : Heap) (n0 : Nat) (z1 : n0 ≤ h0.size) (F1 : Fld Z h0 a "com/example/unhurried_frontier/unhurriedfrontier/CrawlOrder" "rank" "[D" (.ref b)) (F2 : Fld Z h0 a "com/example/unhurried_frontier/unhurriedfrontier/CrawlOrder" "gathered" "[D" (.ref g)) (Ag : Arv Z h0 g kg .double ((0 : Int32) + 1) [(.double (FP.l2d (0 : Int64)))] (.double (FP.l2d 0))) (Ab : Arv Z h0 b kb .double (0 : Int32) [] (.double (FP.l2d 0))) (hi : (((0 : Int32).toInt64 * q.toInt64) / (100 : Int64)).toInt32 = 0) :
    Con Z l (⟨"com/example/unhurried_frontier/unhurriedfrontier/CrawlOrder", "shareAt", "(I)D"⟩ : MethodName) prog_1_method_3_code 2 (some .double) ({ frames := 0, cells := 0, slots := 0, locals := 0 } : Room) [] #[.ref a, .int q] h0 n0 [] (VV fun v h => v = (.double (FP.l2d (0 : Int64))) ∧ h = h0) := by
  refine Con.body pn_com_example_unhurried_frontier_unhurriedfrontier_CrawlOrder z1 all0 #[.val (.ref a), .val (.int q)] (ef3 a q) ?_
  intro p e s m below meth c B hnm hret hlk G
  replace G := G.aloadN 1 d3_0 rfl rfl rfl
  replace G := G.getf 4 (host := "") (Or.inl (hw _ (List.mem_of_getElem? (i := 13) rfl))) Via.refl F2 d3_1 rfl
  replace G := G.aloadN 5 d3_4 rfl rfl rfl
  replace G := G.getf 8 (host := "") (Or.inl (hw _ (List.mem_of_getElem? (i := 11) rfl))) Via.refl F1 d3_5 rfl
  replace G := G.alen 9 Ab d3_8 rfl
  replace G := G.i2l 10 d3_9 rfl
  replace G := G.iloadN 11 d3_10 rfl rfl
  replace G := G.i2l 12 d3_11 rfl
  replace G := G.lmul 13 d3_12 rfl
  replace G := G.ldc2J 16 (hw _ (List.mem_of_getElem? (i := 20) rfl)) d3_13 rfl
  replace G := G.ldiv 17 d3_16 (by decide) rfl
  replace G := G.l2i 18 d3_17 rfl
  replace G := G.top (y := (.int (0 : Int32))) (congrArg Value.int hi)
  replace G := G.daload 19 Ag (by decide) rfl d3_18 rfl
  exact G.retD hret hlk d3_19 ⟨_, rfl, rfl, rfl⟩ (Nat.le_of_ble_eq_true rfl) (Nat.le_of_ble_eq_true rfl)
set_option maxRecDepth 65536 in
set_option maxHeartbeats 40000000 in
theorem own_sh1_0 (l : Launch) (Z : State) (a0 : Array Value) (hw : ∀ d ∈ tables_1, d.before a0 Z = true) (a b g : Addr) (kb kg : ClassId) (x0 : Int64) (q : Int32) (h0 : Heap) (n0 : Nat) (z1 : n0 ≤ h0.size) (F1 : Fld Z h0 a "com/example/unhurried_frontier/unhurriedfrontier/CrawlOrder" "rank" "[D" (.ref b)) (F2 : Fld Z h0 a "com/example/unhurried_frontier/unhurriedfrontier/CrawlOrder" "gathered" "[D" (.ref g)) (Ag : Arv Z h0 g kg .double ((1 : Int32) + 1) [(.double (FP.l2d (0 : Int64))), (.double (FP.l2d ((0 : Int64) + x0)))] (.double (FP.l2d 0))) (Ab : Arv Z h0 b kb .double (1 : Int32) [(.double (FP.l2d x0))] (.double (FP.l2d 0))) (hi : (((1 : Int32).toInt64 * q.toInt64) / (100 : Int64)).toInt32 = 0) :
    Con Z l (⟨"com/example/unhurried_frontier/unhurriedfrontier/CrawlOrder", "shareAt", "(I)D"⟩ : MethodName) prog_1_method_3_code 2 (some .double) ({ frames := 0, cells := 0, slots := 0, locals := 0 } : Room) [] #[.ref a, .int q] h0 n0 [] (VV fun v h => v = (.double (FP.l2d (0 : Int64))) ∧ h = h0) := by
  refine Con.body pn_com_example_unhurried_frontier_unhurriedfrontier_CrawlOrder z1 all0 #[.val (.ref a), .val (.int q)] (ef3 a q) ?_
  intro p e s m below meth c B hnm hret hlk G
  replace G := G.aloadN 1 d3_0 rfl rfl rfl
  replace G := G.getf 4 (host := "") (Or.inl (hw _ (List.mem_of_getElem? (i := 13) rfl))) Via.refl F2 d3_1 rfl
  replace G := G.aloadN 5 d3_4 rfl rfl rfl
  replace G := G.getf 8 (host := "") (Or.inl (hw _ (List.mem_of_getElem? (i := 11) rfl))) Via.refl F1 d3_5 rfl
  replace G := G.alen 9 Ab d3_8 rfl
  replace G := G.i2l 10 d3_9 rfl
  replace G := G.iloadN 11 d3_10 rfl rfl
  replace G := G.i2l 12 d3_11 rfl
  replace G := G.lmul 13 d3_12 rfl
  replace G := G.ldc2J 16 (hw _ (List.mem_of_getElem? (i := 20) rfl)) d3_13 rfl
  replace G := G.ldiv 17 d3_16 (by decide) rfl
  replace G := G.l2i 18 d3_17 rfl
  replace G := G.top (y := (.int (0 : Int32))) (congrArg Value.int hi)
  replace G := G.daload 19 Ag (by decide) rfl d3_18 rfl
  exact G.retD hret hlk d3_19 ⟨_, rfl, rfl, rfl⟩ (Nat.le_of_ble_eq_true rfl) (Nat.le_of_ble_eq_true rfl)
set_option maxRecDepth 65536 in
set_option maxHeartbeats 40000000 in
theorem own_sh1_1 (l : Launch) (Z : State) (a0 : Array Value) (hw : ∀ d ∈ tables_1, d.before a0 Z = true) (a b g : Addr) (kb kg : ClassId) (x0 : Int64) (q : Int32) (h0 : Heap) (n0 : Nat) (z1 : n0 ≤ h0.size) (F1 : Fld Z h0 a "com/example/unhurried_frontier/unhurriedfrontier/CrawlOrder" "rank" "[D" (.ref b)) (F2 : Fld Z h0 a "com/example/unhurried_frontier/unhurriedfrontier/CrawlOrder" "gathered" "[D" (.ref g)) (Ag : Arv Z h0 g kg .double ((1 : Int32) + 1) [(.double (FP.l2d (0 : Int64))), (.double (FP.l2d ((0 : Int64) + x0)))] (.double (FP.l2d 0))) (Ab : Arv Z h0 b kb .double (1 : Int32) [(.double (FP.l2d x0))] (.double (FP.l2d 0))) (hi : (((1 : Int32).toInt64 * q.toInt64) / (100 : Int64)).toInt32 = 1) :
    Con Z l (⟨"com/example/unhurried_frontier/unhurriedfrontier/CrawlOrder", "shareAt", "(I)D"⟩ : MethodName) prog_1_method_3_code 2 (some .double) ({ frames := 0, cells := 0, slots := 0, locals := 0 } : Room) [] #[.ref a, .int q] h0 n0 [] (VV fun v h => v = (.double (FP.l2d ((0 : Int64) + x0))) ∧ h = h0) := by
  refine Con.body pn_com_example_unhurried_frontier_unhurriedfrontier_CrawlOrder z1 all0 #[.val (.ref a), .val (.int q)] (ef3 a q) ?_
  intro p e s m below meth c B hnm hret hlk G
  replace G := G.aloadN 1 d3_0 rfl rfl rfl
  replace G := G.getf 4 (host := "") (Or.inl (hw _ (List.mem_of_getElem? (i := 13) rfl))) Via.refl F2 d3_1 rfl
  replace G := G.aloadN 5 d3_4 rfl rfl rfl
  replace G := G.getf 8 (host := "") (Or.inl (hw _ (List.mem_of_getElem? (i := 11) rfl))) Via.refl F1 d3_5 rfl
  replace G := G.alen 9 Ab d3_8 rfl
  replace G := G.i2l 10 d3_9 rfl
  replace G := G.iloadN 11 d3_10 rfl rfl
  replace G := G.i2l 12 d3_11 rfl
  replace G := G.lmul 13 d3_12 rfl
  replace G := G.ldc2J 16 (hw _ (List.mem_of_getElem? (i := 20) rfl)) d3_13 rfl
  replace G := G.ldiv 17 d3_16 (by decide) rfl
  replace G := G.l2i 18 d3_17 rfl
  replace G := G.top (y := (.int (1 : Int32))) (congrArg Value.int hi)
  replace G := G.daload 19 Ag (by decide) rfl d3_18 rfl
  exact G.retD hret hlk d3_19 ⟨_, rfl, rfl, rfl⟩ (Nat.le_of_ble_eq_true rfl) (Nat.le_of_ble_eq_true rfl)
set_option maxRecDepth 65536 in
set_option maxHeartbeats 40000000 in
theorem own_sh2_0 (l : Launch) (Z : State) (a0 : Array Value) (hw : ∀ d ∈ tables_1, d.before a0 Z = true) (a b g : Addr) (kb kg : ClassId) (x0 x1 : Int64) (q : Int32) (h0 : Heap) (n0 : Nat) (z1 : n0 ≤ h0.size) (F1 : Fld Z h0 a "com/example/unhurried_frontier/unhurriedfrontier/CrawlOrder" "rank" "[D" (.ref b)) (F2 : Fld Z h0 a "com/example/unhurried_frontier/unhurriedfrontier/CrawlOrder" "gathered" "[D" (.ref g)) (Ag : Arv Z h0 g kg .double ((2 : Int32) + 1) [(.double (FP.l2d (0 : Int64))), (.double (FP.l2d ((0 : Int64) + x0))), (.double (FP.l2d (((0 : Int64) + x0) + x1)))] (.double (FP.l2d 0))) (Ab : Arv Z h0 b kb .double (2 : Int32) [(.double (FP.l2d x0)), (.double (FP.l2d x1))] (.double (FP.l2d 0))) (hi : (((2 : Int32).toInt64 * q.toInt64) / (100 : Int64)).toInt32 = 0) :
    Con Z l (⟨"com/example/unhurried_frontier/unhurriedfrontier/CrawlOrder", "shareAt", "(I)D"⟩ : MethodName) prog_1_method_3_code 2 (some .double) ({ frames := 0, cells := 0, slots := 0, locals := 0 } : Room) [] #[.ref a, .int q] h0 n0 [] (VV fun v h => v = (.double (FP.l2d (0 : Int64))) ∧ h = h0) := by
  refine Con.body pn_com_example_unhurried_frontier_unhurriedfrontier_CrawlOrder z1 all0 #[.val (.ref a), .val (.int q)] (ef3 a q) ?_
  intro p e s m below meth c B hnm hret hlk G
  replace G := G.aloadN 1 d3_0 rfl rfl rfl
  replace G := G.getf 4 (host := "") (Or.inl (hw _ (List.mem_of_getElem? (i := 13) rfl))) Via.refl F2 d3_1 rfl
  replace G := G.aloadN 5 d3_4 rfl rfl rfl
  replace G := G.getf 8 (host := "") (Or.inl (hw _ (List.mem_of_getElem? (i := 11) rfl))) Via.refl F1 d3_5 rfl
  replace G := G.alen 9 Ab d3_8 rfl
  replace G := G.i2l 10 d3_9 rfl
  replace G := G.iloadN 11 d3_10 rfl rfl
  replace G := G.i2l 12 d3_11 rfl
  replace G := G.lmul 13 d3_12 rfl
  replace G := G.ldc2J 16 (hw _ (List.mem_of_getElem? (i := 20) rfl)) d3_13 rfl
  replace G := G.ldiv 17 d3_16 (by decide) rfl
  replace G := G.l2i 18 d3_17 rfl
  replace G := G.top (y := (.int (0 : Int32))) (congrArg Value.int hi)
  replace G := G.daload 19 Ag (by decide) rfl d3_18 rfl
  exact G.retD hret hlk d3_19 ⟨_, rfl, rfl, rfl⟩ (Nat.le_of_ble_eq_true rfl) (Nat.le_of_ble_eq_true rfl)
set_option maxRecDepth 65536 in
set_option maxHeartbeats 40000000 in
theorem own_sh2_1 (l : Launch) (Z : State) (a0 : Array Value) (hw : ∀ d ∈ tables_1, d.before a0 Z = true) (a b g : Addr) (kb kg : ClassId) (x0 x1 : Int64) (q : Int32) (h0 : Heap) (n0 : Nat) (z1 : n0 ≤ h0.size) (F1 : Fld Z h0 a "com/example/unhurried_frontier/unhurriedfrontier/CrawlOrder" "rank" "[D" (.ref b)) (F2 : Fld Z h0 a "com/example/unhurried_frontier/unhurriedfrontier/CrawlOrder" "gathered" "[D" (.ref g)) (Ag : Arv Z h0 g kg .double ((2 : Int32) + 1) [(.double (FP.l2d (0 : Int64))), (.double (FP.l2d ((0 : Int64) + x0))), (.double (FP.l2d (((0 : Int64) + x0) + x1)))] (.double (FP.l2d 0))) (Ab : Arv Z h0 b kb .double (2 : Int32) [(.double (FP.l2d x0)), (.double (FP.l2d x1))] (.double (FP.l2d 0))) (hi : (((2 : Int32).toInt64 * q.toInt64) / (100 : Int64)).toInt32 = 1) :
    Con Z l (⟨"com/example/unhurried_frontier/unhurriedfrontier/CrawlOrder", "shareAt", "(I)D"⟩ : MethodName) prog_1_method_3_code 2 (some .double) ({ frames := 0, cells := 0, slots := 0, locals := 0 } : Room) [] #[.ref a, .int q] h0 n0 [] (VV fun v h => v = (.double (FP.l2d ((0 : Int64) + x0))) ∧ h = h0) := by
  refine Con.body pn_com_example_unhurried_frontier_unhurriedfrontier_CrawlOrder z1 all0 #[.val (.ref a), .val (.int q)] (ef3 a q) ?_
  intro p e s m below meth c B hnm hret hlk G
  replace G := G.aloadN 1 d3_0 rfl rfl rfl
  replace G := G.getf 4 (host := "") (Or.inl (hw _ (List.mem_of_getElem? (i := 13) rfl))) Via.refl F2 d3_1 rfl
  replace G := G.aloadN 5 d3_4 rfl rfl rfl
  replace G := G.getf 8 (host := "") (Or.inl (hw _ (List.mem_of_getElem? (i := 11) rfl))) Via.refl F1 d3_5 rfl
  replace G := G.alen 9 Ab d3_8 rfl
  replace G := G.i2l 10 d3_9 rfl
  replace G := G.iloadN 11 d3_10 rfl rfl
  replace G := G.i2l 12 d3_11 rfl
  replace G := G.lmul 13 d3_12 rfl
  replace G := G.ldc2J 16 (hw _ (List.mem_of_getElem? (i := 20) rfl)) d3_13 rfl
  replace G := G.ldiv 17 d3_16 (by decide) rfl
  replace G := G.l2i 18 d3_17 rfl
  replace G := G.top (y := (.int (1 : Int32))) (congrArg Value.int hi)
  replace G := G.daload 19 Ag (by decide) rfl d3_18 rfl
  exact G.retD hret hlk d3_19 ⟨_, rfl, rfl, rfl⟩ (Nat.le_of_ble_eq_true rfl) (Nat.le_of_ble_eq_true rfl)
set_option maxRecDepth 65536 in
set_option maxHeartbeats 40000000 in
theorem own_sh2_2 (l : Launch) (Z : State) (a0 : Array Value) (hw : ∀ d ∈ tables_1, d.before a0 Z = true) (a b g : Addr) (kb kg : ClassId) (x0 x1 : Int64) (q : Int32) (h0 : Heap) (n0 : Nat) (z1 : n0 ≤ h0.size) (F1 : Fld Z h0 a "com/example/unhurried_frontier/unhurriedfrontier/CrawlOrder" "rank" "[D" (.ref b)) (F2 : Fld Z h0 a "com/example/unhurried_frontier/unhurriedfrontier/CrawlOrder" "gathered" "[D" (.ref g)) (Ag : Arv Z h0 g kg .double ((2 : Int32) + 1) [(.double (FP.l2d (0 : Int64))), (.double (FP.l2d ((0 : Int64) + x0))), (.double (FP.l2d (((0 : Int64) + x0) + x1)))] (.double (FP.l2d 0))) (Ab : Arv Z h0 b kb .double (2 : Int32) [(.double (FP.l2d x0)), (.double (FP.l2d x1))] (.double (FP.l2d 0))) (hi : (((2 : Int32).toInt64 * q.toInt64) / (100 : Int64)).toInt32 = 2) :
    Con Z l (⟨"com/example/unhurried_frontier/unhurriedfrontier/CrawlOrder", "shareAt", "(I)D"⟩ : MethodName) prog_1_method_3_code 2 (some .double) ({ frames := 0, cells := 0, slots := 0, locals := 0 } : Room) [] #[.ref a, .int q] h0 n0 [] (VV fun v h => v = (.double (FP.l2d (((0 : Int64) + x0) + x1))) ∧ h = h0) := by
  refine Con.body pn_com_example_unhurried_frontier_unhurriedfrontier_CrawlOrder z1 all0 #[.val (.ref a), .val (.int q)] (ef3 a q) ?_
  intro p e s m below meth c B hnm hret hlk G
  replace G := G.aloadN 1 d3_0 rfl rfl rfl
  replace G := G.getf 4 (host := "") (Or.inl (hw _ (List.mem_of_getElem? (i := 13) rfl))) Via.refl F2 d3_1 rfl
  replace G := G.aloadN 5 d3_4 rfl rfl rfl
  replace G := G.getf 8 (host := "") (Or.inl (hw _ (List.mem_of_getElem? (i := 11) rfl))) Via.refl F1 d3_5 rfl
  replace G := G.alen 9 Ab d3_8 rfl
  replace G := G.i2l 10 d3_9 rfl
  replace G := G.iloadN 11 d3_10 rfl rfl
  replace G := G.i2l 12 d3_11 rfl
  replace G := G.lmul 13 d3_12 rfl
  replace G := G.ldc2J 16 (hw _ (List.mem_of_getElem? (i := 20) rfl)) d3_13 rfl
  replace G := G.ldiv 17 d3_16 (by decide) rfl
  replace G := G.l2i 18 d3_17 rfl
  replace G := G.top (y := (.int (2 : Int32))) (congrArg Value.int hi)
  replace G := G.daload 19 Ag (by decide) rfl d3_18 rfl
  exact G.retD hret hlk d3_19 ⟨_, rfl, rfl, rfl⟩ (Nat.le_of_ble_eq_true rfl) (Nat.le_of_ble_eq_true rfl)
set_option maxRecDepth 65536 in
set_option maxHeartbeats 40000000 in
theorem own_sh3_0 (l : Launch) (Z : State) (a0 : Array Value) (hw : ∀ d ∈ tables_1, d.before a0 Z = true) (a b g : Addr) (kb kg : ClassId) (x0 x1 x2 : Int64) (q : Int32) (h0 : Heap) (n0 : Nat) (z1 : n0 ≤ h0.size) (F1 : Fld Z h0 a "com/example/unhurried_frontier/unhurriedfrontier/CrawlOrder" "rank" "[D" (.ref b)) (F2 : Fld Z h0 a "com/example/unhurried_frontier/unhurriedfrontier/CrawlOrder" "gathered" "[D" (.ref g)) (Ag : Arv Z h0 g kg .double ((3 : Int32) + 1) [(.double (FP.l2d (0 : Int64))), (.double (FP.l2d ((0 : Int64) + x0))), (.double (FP.l2d (((0 : Int64) + x0) + x1))), (.double (FP.l2d ((((0 : Int64) + x0) + x1) + x2)))] (.double (FP.l2d 0))) (Ab : Arv Z h0 b kb .double (3 : Int32) [(.double (FP.l2d x0)), (.double (FP.l2d x1)), (.double (FP.l2d x2))] (.double (FP.l2d 0))) (hi : (((3 : Int32).toInt64 * q.toInt64) / (100 : Int64)).toInt32 = 0) :
    Con Z l (⟨"com/example/unhurried_frontier/unhurriedfrontier/CrawlOrder", "shareAt", "(I)D"⟩ : MethodName) prog_1_method_3_code 2 (some .double) ({ frames := 0, cells := 0, slots := 0, locals := 0 } : Room) [] #[.ref a, .int q] h0 n0 [] (VV fun v h => v = (.double (FP.l2d (0 : Int64))) ∧ h = h0) := by
  refine Con.body pn_com_example_unhurried_frontier_unhurriedfrontier_CrawlOrder z1 all0 #[.val (.ref a), .val (.int q)] (ef3 a q) ?_
  intro p e s m below meth c B hnm hret hlk G
  replace G := G.aloadN 1 d3_0 rfl rfl rfl
  replace G := G.getf 4 (host := "") (Or.inl (hw _ (List.mem_of_getElem? (i := 13) rfl))) Via.refl F2 d3_1 rfl
  replace G := G.aloadN 5 d3_4 rfl rfl rfl
  replace G := G.getf 8 (host := "") (Or.inl (hw _ (List.mem_of_getElem? (i := 11) rfl))) Via.refl F1 d3_5 rfl
  replace G := G.alen 9 Ab d3_8 rfl
  replace G := G.i2l 10 d3_9 rfl
  replace G := G.iloadN 11 d3_10 rfl rfl
  replace G := G.i2l 12 d3_11 rfl
  replace G := G.lmul 13 d3_12 rfl
  replace G := G.ldc2J 16 (hw _ (List.mem_of_getElem? (i := 20) rfl)) d3_13 rfl
  replace G := G.ldiv 17 d3_16 (by decide) rfl
  replace G := G.l2i 18 d3_17 rfl
  replace G := G.top (y := (.int (0 : Int32))) (congrArg Value.int hi)
  replace G := G.daload 19 Ag (by decide) rfl d3_18 rfl
  exact G.retD hret hlk d3_19 ⟨_, rfl, rfl, rfl⟩ (Nat.le_of_ble_eq_true rfl) (Nat.le_of_ble_eq_true rfl)
set_option maxRecDepth 65536 in
set_option maxHeartbeats 40000000 in
theorem own_sh3_1 (l : Launch) (Z : State) (a0 : Array Value) (hw : ∀ d ∈ tables_1, d.before a0 Z = true) (a b g : Addr) (kb kg : ClassId) (x0 x1 x2 : Int64) (q : Int32) (h0 : Heap) (n0 : Nat) (z1 : n0 ≤ h0.size) (F1 : Fld Z h0 a "com/example/unhurried_frontier/unhurriedfrontier/CrawlOrder" "rank" "[D" (.ref b)) (F2 : Fld Z h0 a "com/example/unhurried_frontier/unhurriedfrontier/CrawlOrder" "gathered" "[D" (.ref g)) (Ag : Arv Z h0 g kg .double ((3 : Int32) + 1) [(.double (FP.l2d (0 : Int64))), (.double (FP.l2d ((0 : Int64) + x0))), (.double (FP.l2d (((0 : Int64) + x0) + x1))), (.double (FP.l2d ((((0 : Int64) + x0) + x1) + x2)))] (.double (FP.l2d 0))) (Ab : Arv Z h0 b kb .double (3 : Int32) [(.double (FP.l2d x0)), (.double (FP.l2d x1)), (.double (FP.l2d x2))] (.double (FP.l2d 0))) (hi : (((3 : Int32).toInt64 * q.toInt64) / (100 : Int64)).toInt32 = 1) :
    Con Z l (⟨"com/example/unhurried_frontier/unhurriedfrontier/CrawlOrder", "shareAt", "(I)D"⟩ : MethodName) prog_1_method_3_code 2 (some .double) ({ frames := 0, cells := 0, slots := 0, locals := 0 } : Room) [] #[.ref a, .int q] h0 n0 [] (VV fun v h => v = (.double (FP.l2d ((0 : Int64) + x0))) ∧ h = h0) := by
  refine Con.body pn_com_example_unhurried_frontier_unhurriedfrontier_CrawlOrder z1 all0 #[.val (.ref a), .val (.int q)] (ef3 a q) ?_
  intro p e s m below meth c B hnm hret hlk G
  replace G := G.aloadN 1 d3_0 rfl rfl rfl
  replace G := G.getf 4 (host := "") (Or.inl (hw _ (List.mem_of_getElem? (i := 13) rfl))) Via.refl F2 d3_1 rfl
  replace G := G.aloadN 5 d3_4 rfl rfl rfl
  replace G := G.getf 8 (host := "") (Or.inl (hw _ (List.mem_of_getElem? (i := 11) rfl))) Via.refl F1 d3_5 rfl
  replace G := G.alen 9 Ab d3_8 rfl
  replace G := G.i2l 10 d3_9 rfl
  replace G := G.iloadN 11 d3_10 rfl rfl
  replace G := G.i2l 12 d3_11 rfl
  replace G := G.lmul 13 d3_12 rfl
  replace G := G.ldc2J 16 (hw _ (List.mem_of_getElem? (i := 20) rfl)) d3_13 rfl
  replace G := G.ldiv 17 d3_16 (by decide) rfl
  replace G := G.l2i 18 d3_17 rfl
  replace G := G.top (y := (.int (1 : Int32))) (congrArg Value.int hi)
  replace G := G.daload 19 Ag (by decide) rfl d3_18 rfl
  exact G.retD hret hlk d3_19 ⟨_, rfl, rfl, rfl⟩ (Nat.le_of_ble_eq_true rfl) (Nat.le_of_ble_eq_true rfl)
set_option maxRecDepth 65536 in
set_option maxHeartbeats 40000000 in
theorem own_sh3_2 (l : Launch) (Z : State) (a0 : Array Value) (hw : ∀ d ∈ tables_1, d.before a0 Z = true) (a b g : Addr) (kb kg : ClassId) (x0 x1 x2 : Int64) (q : Int32) (h0 : Heap) (n0 : Nat) (z1 : n0 ≤ h0.size) (F1 : Fld Z h0 a "com/example/unhurried_frontier/unhurriedfrontier/CrawlOrder" "rank" "[D" (.ref b)) (F2 : Fld Z h0 a "com/example/unhurried_frontier/unhurriedfrontier/CrawlOrder" "gathered" "[D" (.ref g)) (Ag : Arv Z h0 g kg .double ((3 : Int32) + 1) [(.double (FP.l2d (0 : Int64))), (.double (FP.l2d ((0 : Int64) + x0))), (.double (FP.l2d (((0 : Int64) + x0) + x1))), (.double (FP.l2d ((((0 : Int64) + x0) + x1) + x2)))] (.double (FP.l2d 0))) (Ab : Arv Z h0 b kb .double (3 : Int32) [(.double (FP.l2d x0)), (.double (FP.l2d x1)), (.double (FP.l2d x2))] (.double (FP.l2d 0))) (hi : (((3 : Int32).toInt64 * q.toInt64) / (100 : Int64)).toInt32 = 2) :
    Con Z l (⟨"com/example/unhurried_frontier/unhurriedfrontier/CrawlOrder", "shareAt", "(I)D"⟩ : MethodName) prog_1_method_3_code 2 (some .double) ({ frames := 0, cells := 0, slots := 0, locals := 0 } : Room) [] #[.ref a, .int q] h0 n0 [] (VV fun v h => v = (.double (FP.l2d (((0 : Int64) + x0) + x1))) ∧ h = h0) := by
  refine Con.body pn_com_example_unhurried_frontier_unhurriedfrontier_CrawlOrder z1 all0 #[.val (.ref a), .val (.int q)] (ef3 a q) ?_
  intro p e s m below meth c B hnm hret hlk G
  replace G := G.aloadN 1 d3_0 rfl rfl rfl
  replace G := G.getf 4 (host := "") (Or.inl (hw _ (List.mem_of_getElem? (i := 13) rfl))) Via.refl F2 d3_1 rfl
  replace G := G.aloadN 5 d3_4 rfl rfl rfl
  replace G := G.getf 8 (host := "") (Or.inl (hw _ (List.mem_of_getElem? (i := 11) rfl))) Via.refl F1 d3_5 rfl
  replace G := G.alen 9 Ab d3_8 rfl
  replace G := G.i2l 10 d3_9 rfl
  replace G := G.iloadN 11 d3_10 rfl rfl
  replace G := G.i2l 12 d3_11 rfl
  replace G := G.lmul 13 d3_12 rfl
  replace G := G.ldc2J 16 (hw _ (List.mem_of_getElem? (i := 20) rfl)) d3_13 rfl
  replace G := G.ldiv 17 d3_16 (by decide) rfl
  replace G := G.l2i 18 d3_17 rfl
  replace G := G.top (y := (.int (2 : Int32))) (congrArg Value.int hi)
  replace G := G.daload 19 Ag (by decide) rfl d3_18 rfl
  exact G.retD hret hlk d3_19 ⟨_, rfl, rfl, rfl⟩ (Nat.le_of_ble_eq_true rfl) (Nat.le_of_ble_eq_true rfl)
set_option maxRecDepth 65536 in
set_option maxHeartbeats 40000000 in
theorem own_sh3_3 (l : Launch) (Z : State) (a0 : Array Value) (hw : ∀ d ∈ tables_1, d.before a0 Z = true) (a b g : Addr) (kb kg : ClassId) (x0 x1 x2 : Int64) (q : Int32) (h0 : Heap) (n0 : Nat) (z1 : n0 ≤ h0.size) (F1 : Fld Z h0 a "com/example/unhurried_frontier/unhurriedfrontier/CrawlOrder" "rank" "[D" (.ref b)) (F2 : Fld Z h0 a "com/example/unhurried_frontier/unhurriedfrontier/CrawlOrder" "gathered" "[D" (.ref g)) (Ag : Arv Z h0 g kg .double ((3 : Int32) + 1) [(.double (FP.l2d (0 : Int64))), (.double (FP.l2d ((0 : Int64) + x0))), (.double (FP.l2d (((0 : Int64) + x0) + x1))), (.double (FP.l2d ((((0 : Int64) + x0) + x1) + x2)))] (.double (FP.l2d 0))) (Ab : Arv Z h0 b kb .double (3 : Int32) [(.double (FP.l2d x0)), (.double (FP.l2d x1)), (.double (FP.l2d x2))] (.double (FP.l2d 0))) (hi : (((3 : Int32).toInt64 * q.toInt64) / (100 : Int64)).toInt32 = 3) :
    Con Z l (⟨"com/example/unhurried_frontier/unhurriedfrontier/CrawlOrder", "shareAt", "(I)D"⟩ : MethodName) prog_1_method_3_code 2 (some .double) ({ frames := 0, cells := 0, slots := 0, locals := 0 } : Room) [] #[.ref a, .int q] h0 n0 [] (VV fun v h => v = (.double (FP.l2d ((((0 : Int64) + x0) + x1) + x2))) ∧ h = h0) := by
  refine Con.body pn_com_example_unhurried_frontier_unhurriedfrontier_CrawlOrder z1 all0 #[.val (.ref a), .val (.int q)] (ef3 a q) ?_
  intro p e s m below meth c B hnm hret hlk G
  replace G := G.aloadN 1 d3_0 rfl rfl rfl
  replace G := G.getf 4 (host := "") (Or.inl (hw _ (List.mem_of_getElem? (i := 13) rfl))) Via.refl F2 d3_1 rfl
  replace G := G.aloadN 5 d3_4 rfl rfl rfl
  replace G := G.getf 8 (host := "") (Or.inl (hw _ (List.mem_of_getElem? (i := 11) rfl))) Via.refl F1 d3_5 rfl
  replace G := G.alen 9 Ab d3_8 rfl
  replace G := G.i2l 10 d3_9 rfl
  replace G := G.iloadN 11 d3_10 rfl rfl
  replace G := G.i2l 12 d3_11 rfl
  replace G := G.lmul 13 d3_12 rfl
  replace G := G.ldc2J 16 (hw _ (List.mem_of_getElem? (i := 20) rfl)) d3_13 rfl
  replace G := G.ldiv 17 d3_16 (by decide) rfl
  replace G := G.l2i 18 d3_17 rfl
  replace G := G.top (y := (.int (3 : Int32))) (congrArg Value.int hi)
  replace G := G.daload 19 Ag (by decide) rfl d3_18 rfl
  exact G.retD hret hlk d3_19 ⟨_, rfl, rfl, rfl⟩ (Nat.le_of_ble_eq_true rfl) (Nat.le_of_ble_eq_true rfl)
set_option maxRecDepth 65536 in
set_option maxHeartbeats 40000000 in
theorem own_sh4_0 (l : Launch) (Z : State) (a0 : Array Value) (hw : ∀ d ∈ tables_1, d.before a0 Z = true) (a b g : Addr) (kb kg : ClassId) (x0 x1 x2 x3 : Int64) (q : Int32) (h0 : Heap) (n0 : Nat) (z1 : n0 ≤ h0.size) (F1 : Fld Z h0 a "com/example/unhurried_frontier/unhurriedfrontier/CrawlOrder" "rank" "[D" (.ref b)) (F2 : Fld Z h0 a "com/example/unhurried_frontier/unhurriedfrontier/CrawlOrder" "gathered" "[D" (.ref g)) (Ag : Arv Z h0 g kg .double ((4 : Int32) + 1) [(.double (FP.l2d (0 : Int64))), (.double (FP.l2d ((0 : Int64) + x0))), (.double (FP.l2d (((0 : Int64) + x0) + x1))), (.double (FP.l2d ((((0 : Int64) + x0) + x1) + x2))), (.double (FP.l2d (((((0 : Int64) + x0) + x1) + x2) + x3)))] (.double (FP.l2d 0))) (Ab : Arv Z h0 b kb .double (4 : Int32) [(.double (FP.l2d x0)), (.double (FP.l2d x1)), (.double (FP.l2d x2)), (.double (FP.l2d x3))] (.double (FP.l2d 0))) (hi : (((4 : Int32).toInt64 * q.toInt64) / (100 : Int64)).toInt32 = 0) :
    Con Z l (⟨"com/example/unhurried_frontier/unhurriedfrontier/CrawlOrder", "shareAt", "(I)D"⟩ : MethodName) prog_1_method_3_code 2 (some .double) ({ frames := 0, cells := 0, slots := 0, locals := 0 } : Room) [] #[.ref a, .int q] h0 n0 [] (VV fun v h => v = (.double (FP.l2d (0 : Int64))) ∧ h = h0) := by
  refine Con.body pn_com_example_unhurried_frontier_unhurriedfrontier_CrawlOrder z1 all0 #[.val (.ref a), .val (.int q)] (ef3 a q) ?_
  intro p e s m below meth c B hnm hret hlk G
  replace G := G.aloadN 1 d3_0 rfl rfl rfl
  replace G := G.getf 4 (host := "") (Or.inl (hw _ (List.mem_of_getElem? (i := 13) rfl))) Via.refl F2 d3_1 rfl
  replace G := G.aloadN 5 d3_4 rfl rfl rfl
  replace G := G.getf 8 (host := "") (Or.inl (hw _ (List.mem_of_getElem? (i := 11) rfl))) Via.refl F1 d3_5 rfl
  replace G := G.alen 9 Ab d3_8 rfl
  replace G := G.i2l 10 d3_9 rfl
  replace G := G.iloadN 11 d3_10 rfl rfl
  replace G := G.i2l 12 d3_11 rfl
  replace G := G.lmul 13 d3_12 rfl
  replace G := G.ldc2J 16 (hw _ (List.mem_of_getElem? (i := 20) rfl)) d3_13 rfl
  replace G := G.ldiv 17 d3_16 (by decide) rfl
  replace G := G.l2i 18 d3_17 rfl
  replace G := G.top (y := (.int (0 : Int32))) (congrArg Value.int hi)
  replace G := G.daload 19 Ag (by decide) rfl d3_18 rfl
  exact G.retD hret hlk d3_19 ⟨_, rfl, rfl, rfl⟩ (Nat.le_of_ble_eq_true rfl) (Nat.le_of_ble_eq_true rfl)
set_option maxRecDepth 65536 in
set_option maxHeartbeats 40000000 in
theorem own_sh4_1 (l : Launch) (Z : State) (a0 : Array Value) (hw : ∀ d ∈ tables_1, d.before a0 Z = true) (a b g : Addr) (kb kg : ClassId) (x0 x1 x2 x3 : Int64) (q : Int32) (h0 : Heap) (n0 : Nat) (z1 : n0 ≤ h0.size) (F1 : Fld Z h0 a "com/example/unhurried_frontier/unhurriedfrontier/CrawlOrder" "rank" "[D" (.ref b)) (F2 : Fld Z h0 a "com/example/unhurried_frontier/unhurriedfrontier/CrawlOrder" "gathered" "[D" (.ref g)) (Ag : Arv Z h0 g kg .double ((4 : Int32) + 1) [(.double (FP.l2d (0 : Int64))), (.double (FP.l2d ((0 : Int64) + x0))), (.double (FP.l2d (((0 : Int64) + x0) + x1))), (.double (FP.l2d ((((0 : Int64) + x0) + x1) + x2))), (.double (FP.l2d (((((0 : Int64) + x0) + x1) + x2) + x3)))] (.double (FP.l2d 0))) (Ab : Arv Z h0 b kb .double (4 : Int32) [(.double (FP.l2d x0)), (.double (FP.l2d x1)), (.double (FP.l2d x2)), (.double (FP.l2d x3))] (.double (FP.l2d 0))) (hi : (((4 : Int32).toInt64 * q.toInt64) / (100 : Int64)).toInt32 = 1) :
    Con Z l (⟨"com/example/unhurried_frontier/unhurriedfrontier/CrawlOrder", "shareAt", "(I)D"⟩ : MethodName) prog_1_method_3_code 2 (some .double) ({ frames := 0, cells := 0, slots := 0, locals := 0 } : Room) [] #[.ref a, .int q] h0 n0 [] (VV fun v h => v = (.double (FP.l2d ((0 : Int64) + x0))) ∧ h = h0) := by
  refine Con.body pn_com_example_unhurried_frontier_unhurriedfrontier_CrawlOrder z1 all0 #[.val (.ref a), .val (.int q)] (ef3 a q) ?_
  intro p e s m below meth c B hnm hret hlk G
  replace G := G.aloadN 1 d3_0 rfl rfl rfl
  replace G := G.getf 4 (host := "") (Or.inl (hw _ (List.mem_of_getElem? (i := 13) rfl))) Via.refl F2 d3_1 rfl
  replace G := G.aloadN 5 d3_4 rfl rfl rfl
  replace G := G.getf 8 (host := "") (Or.inl (hw _ (List.mem_of_getElem? (i := 11) rfl))) Via.refl F1 d3_5 rfl
  replace G := G.alen 9 Ab d3_8 rfl
  replace G := G.i2l 10 d3_9 rfl
  replace G := G.iloadN 11 d3_10 rfl rfl
  replace G := G.i2l 12 d3_11 rfl
  replace G := G.lmul 13 d3_12 rfl
  replace G := G.ldc2J 16 (hw _ (List.mem_of_getElem? (i := 20) rfl)) d3_13 rfl
  replace G := G.ldiv 17 d3_16 (by decide) rfl
  replace G := G.l2i 18 d3_17 rfl
  replace G := G.top (y := (.int (1 : Int32))) (congrArg Value.int hi)
  replace G := G.daload 19 Ag (by decide) rfl d3_18 rfl
  exact G.retD hret hlk d3_19 ⟨_, rfl, rfl, rfl⟩ (Nat.le_of_ble_eq_true rfl) (Nat.le_of_ble_eq_true rfl)
set_option maxRecDepth 65536 in
set_option maxHeartbeats 40000000 in
theorem own_sh4_2 (l : Launch) (Z : State) (a0 : Array Value) (hw : ∀ d ∈ tables_1, d.before a0 Z = true) (a b g : Addr) (kb kg : ClassId) (x0 x1 x2 x3 : Int64) (q : Int32) (h0 : Heap) (n0 : Nat) (z1 : n0 ≤ h0.size) (F1 : Fld Z h0 a "com/example/unhurried_frontier/unhurriedfrontier/CrawlOrder" "rank" "[D" (.ref b)) (F2 : Fld Z h0 a "com/example/unhurried_frontier/unhurriedfrontier/CrawlOrder" "gathered" "[D" (.ref g)) (Ag : Arv Z h0 g kg .double ((4 : Int32) + 1) [(.double (FP.l2d (0 : Int64))), (.double (FP.l2d ((0 : Int64) + x0))), (.double (FP.l2d (((0 : Int64) + x0) + x1))), (.double (FP.l2d ((((0 : Int64) + x0) + x1) + x2))), (.double (FP.l2d (((((0 : Int64) + x0) + x1) + x2) + x3)))] (.double (FP.l2d 0))) (Ab : Arv Z h0 b kb .double (4 : Int32) [(.double (FP.l2d x0)), (.double (FP.l2d x1)), (.double (FP.l2d x2)), (.double (FP.l2d x3))] (.double (FP.l2d 0))) (hi : (((4 : Int32).toInt64 * q.toInt64) / (100 : Int64)).toInt32 = 2) :
    Con Z l (⟨"com/example/unhurried_frontier/unhurriedfrontier/CrawlOrder", "shareAt", "(I)D"⟩ : MethodName) prog_1_method_3_code 2 (some .double) ({ frames := 0, cells := 0, slots := 0, locals := 0 } : Room) [] #[.ref a, .int q] h0 n0 [] (VV fun v h => v = (.double (FP.l2d (((0 : Int64) + x0) + x1))) ∧ h = h0) := by
  refine Con.body pn_com_example_unhurried_frontier_unhurriedfrontier_CrawlOrder z1 all0 #[.val (.ref a), .val (.int q)] (ef3 a q) ?_
  intro p e s m below meth c B hnm hret hlk G
  replace G := G.aloadN 1 d3_0 rfl rfl rfl
  replace G := G.getf 4 (host := "") (Or.inl (hw _ (List.mem_of_getElem? (i := 13) rfl))) Via.refl F2 d3_1 rfl
  replace G := G.aloadN 5 d3_4 rfl rfl rfl
  replace G := G.getf 8 (host := "") (Or.inl (hw _ (List.mem_of_getElem? (i := 11) rfl))) Via.refl F1 d3_5 rfl
  replace G := G.alen 9 Ab d3_8 rfl
  replace G := G.i2l 10 d3_9 rfl
  replace G := G.iloadN 11 d3_10 rfl rfl
  replace G := G.i2l 12 d3_11 rfl
  replace G := G.lmul 13 d3_12 rfl
  replace G := G.ldc2J 16 (hw _ (List.mem_of_getElem? (i := 20) rfl)) d3_13 rfl
  replace G := G.ldiv 17 d3_16 (by decide) rfl
  replace G := G.l2i 18 d3_17 rfl
  replace G := G.top (y := (.int (2 : Int32))) (congrArg Value.int hi)
  replace G := G.daload 19 Ag (by decide) rfl d3_18 rfl
  exact G.retD hret hlk d3_19 ⟨_, rfl, rfl, rfl⟩ (Nat.le_of_ble_eq_true rfl) (Nat.le_of_ble_eq_true rfl)
set_option maxRecDepth 65536 in
set_option maxHeartbeats 40000000 in
theorem own_sh4_3 (l : Launch) (Z : State) (a0 : Array Value) (hw : ∀ d ∈ tables_1, d.before a0 Z = true) (a b g : Addr) (kb kg : ClassId) (x0 x1 x2 x3 : Int64) (q : Int32) (h0 : Heap) (n0 : Nat) (z1 : n0 ≤ h0.size) (F1 : Fld Z h0 a "com/example/unhurried_frontier/unhurriedfrontier/CrawlOrder" "rank" "[D" (.ref b)) (F2 : Fld Z h0 a "com/example/unhurried_frontier/unhurriedfrontier/CrawlOrder" "gathered" "[D" (.ref g)) (Ag : Arv Z h0 g kg .double ((4 : Int32) + 1) [(.double (FP.l2d (0 : Int64))), (.double (FP.l2d ((0 : Int64) + x0))), (.double (FP.l2d (((0 : Int64) + x0) + x1))), (.double (FP.l2d ((((0 : Int64) + x0) + x1) + x2))), (.double (FP.l2d (((((0 : Int64) + x0) + x1) + x2) + x3)))] (.double (FP.l2d 0))) (Ab : Arv Z h0 b kb .double (4 : Int32) [(.double (FP.l2d x0)), (.double (FP.l2d x1)), (.double (FP.l2d x2)), (.double (FP.l2d x3))] (.double (FP.l2d 0))) (hi : (((4 : Int32).toInt64 * q.toInt64) / (100 : Int64)).toInt32 = 3) :
    Con Z l (⟨"com/example/unhurried_frontier/unhurriedfrontier/CrawlOrder", "shareAt", "(I)D"⟩ : MethodName) prog_1_method_3_code 2 (some .double) ({ frames := 0, cells := 0, slots := 0, locals := 0 } : Room) [] #[.ref a, .int q] h0 n0 [] (VV fun v h => v = (.double (FP.l2d ((((0 : Int64) + x0) + x1) + x2))) ∧ h = h0) := by
  refine Con.body pn_com_example_unhurried_frontier_unhurriedfrontier_CrawlOrder z1 all0 #[.val (.ref a), .val (.int q)] (ef3 a q) ?_
  intro p e s m below meth c B hnm hret hlk G
  replace G := G.aloadN 1 d3_0 rfl rfl rfl
  replace G := G.getf 4 (host := "") (Or.inl (hw _ (List.mem_of_getElem? (i := 13) rfl))) Via.refl F2 d3_1 rfl
  replace G := G.aloadN 5 d3_4 rfl rfl rfl
  replace G := G.getf 8 (host := "") (Or.inl (hw _ (List.mem_of_getElem? (i := 11) rfl))) Via.refl F1 d3_5 rfl
  replace G := G.alen 9 Ab d3_8 rfl
  replace G := G.i2l 10 d3_9 rfl
  replace G := G.iloadN 11 d3_10 rfl rfl
  replace G := G.i2l 12 d3_11 rfl
  replace G := G.lmul 13 d3_12 rfl
  replace G := G.ldc2J 16 (hw _ (List.mem_of_getElem? (i := 20) rfl)) d3_13 rfl
  replace G := G.ldiv 17 d3_16 (by decide) rfl
  replace G := G.l2i 18 d3_17 rfl
  replace G := G.top (y := (.int (3 : Int32))) (congrArg Value.int hi)
  replace G := G.daload 19 Ag (by decide) rfl d3_18 rfl
  exact G.retD hret hlk d3_19 ⟨_, rfl, rfl, rfl⟩ (Nat.le_of_ble_eq_true rfl) (Nat.le_of_ble_eq_true rfl)
set_option maxRecDepth 65536 in
set_option maxHeartbeats 40000000 in
theorem own_sh4_4 (l : Launch) (Z : State) (a0 : Array Value) (hw : ∀ d ∈ tables_1, d.before a0 Z = true) (a b g : Addr) (kb kg : ClassId) (x0 x1 x2 x3 : Int64) (q : Int32) (h0 : Heap) (n0 : Nat) (z1 : n0 ≤ h0.size) (F1 : Fld Z h0 a "com/example/unhurried_frontier/unhurriedfrontier/CrawlOrder" "rank" "[D" (.ref b)) (F2 : Fld Z h0 a "com/example/unhurried_frontier/unhurriedfrontier/CrawlOrder" "gathered" "[D" (.ref g)) (Ag : Arv Z h0 g kg .double ((4 : Int32) + 1) [(.double (FP.l2d (0 : Int64))), (.double (FP.l2d ((0 : Int64) + x0))), (.double (FP.l2d (((0 : Int64) + x0) + x1))), (.double (FP.l2d ((((0 : Int64) + x0) + x1) + x2))), (.double (FP.l2d (((((0 : Int64) + x0) + x1) + x2) + x3)))] (.double (FP.l2d 0))) (Ab : Arv Z h0 b kb .double (4 : Int32) [(.double (FP.l2d x0)), (.double (FP.l2d x1)), (.double (FP.l2d x2)), (.double (FP.l2d x3))] (.double (FP.l2d 0))) (hi : (((4 : Int32).toInt64 * q.toInt64) / (100 : Int64)).toInt32 = 4) :
    Con Z l (⟨"com/example/unhurried_frontier/unhurriedfrontier/CrawlOrder", "shareAt", "(I)D"⟩ : MethodName) prog_1_method_3_code 2 (some .double) ({ frames := 0, cells := 0, slots := 0, locals := 0 } : Room) [] #[.ref a, .int q] h0 n0 [] (VV fun v h => v = (.double (FP.l2d (((((0 : Int64) + x0) + x1) + x2) + x3))) ∧ h = h0) := by
  refine Con.body pn_com_example_unhurried_frontier_unhurriedfrontier_CrawlOrder z1 all0 #[.val (.ref a), .val (.int q)] (ef3 a q) ?_
  intro p e s m below meth c B hnm hret hlk G
  replace G := G.aloadN 1 d3_0 rfl rfl rfl
  replace G := G.getf 4 (host := "") (Or.inl (hw _ (List.mem_of_getElem? (i := 13) rfl))) Via.refl F2 d3_1 rfl
  replace G := G.aloadN 5 d3_4 rfl rfl rfl
  replace G := G.getf 8 (host := "") (Or.inl (hw _ (List.mem_of_getElem? (i := 11) rfl))) Via.refl F1 d3_5 rfl
  replace G := G.alen 9 Ab d3_8 rfl
  replace G := G.i2l 10 d3_9 rfl
  replace G := G.iloadN 11 d3_10 rfl rfl
  replace G := G.i2l 12 d3_11 rfl
  replace G := G.lmul 13 d3_12 rfl
  replace G := G.ldc2J 16 (hw _ (List.mem_of_getElem? (i := 20) rfl)) d3_13 rfl
  replace G := G.ldiv 17 d3_16 (by decide) rfl
  replace G := G.l2i 18 d3_17 rfl
  replace G := G.top (y := (.int (4 : Int32))) (congrArg Value.int hi)
  replace G := G.daload 19 Ag (by decide) rfl d3_18 rfl
  exact G.retD hret hlk d3_19 ⟨_, rfl, rfl, rfl⟩ (Nat.le_of_ble_eq_true rfl) (Nat.le_of_ble_eq_true rfl)
theorem ef0 (p0 p1 p2 p3 p4 p5 : Int32) (m : MethodId) : entryFrame m #[.int p0, .int p1, .int p2, .int p3, .int p4, .int p5] maxLocals = mkF m 0 #[.val (.int p0), .val (.int p1), .val (.int p2), .val (.int p3), .val (.int p4), .val (.int p5), .unset, .unset, .unset, .unset, .unset, .unset, .unset, .unset, .unset, .unset] [] := by first | (simp [entryFrame, mkF, argsToLocals, Value.category, maxLocals]; done) | rfl
set_option maxRecDepth 65536 in
set_option maxHeartbeats 40000000 in
theorem own_law (l : Launch) (Z : State) (a0 : Array Value) (hw : ∀ d ∈ tables_1, d.before a0 Z = true) (tws : List Jvm.Cond) (p0 p1 p2 p3 p4 p5 : Int32) (h0 : Heap) (n0 : Nat) (z1 : n0 ≤ h0.size) : Con Z l x code maxLocals ret room_1 tws #[.int p0, .int p1, .int p2, .int p3, .int p4, .int p5] h0 n0 [] (VV fun v _ => v = .int 1) := by
  refine Con.body pn_com_example_unhurried_frontier_unhurriedfrontier_CrawlOrderShareAtPinLaw z1 all0 _ (ef0 p0 p1 p2 p3 p4 p5) ?_
  intro p e s m below meth c B hnm hret hlk G
  replace G := G.iloadN 1 at_0 rfl rfl
  replace G := G.ldcI 3 (hw _ (List.mem_of_getElem? (i := 0) rfl)) at_1 rfl
  replace G := G.iand 4 at_3 rfl
  replace G := G.iconst 5 (5 : Int32) at_4 rfl rfl
  replace G := G.irem 6 at_5 (by decide) rfl
  obtain ⟨v6, e6, G'⟩ := G.nameI
  clear G; have G := G'; clear G'
  replace G := G.istore 8 #[.val (.int p0), .val (.int p1), .val (.int p2), .val (.int p3), .val (.int p4), .val (.int p5), .val (.int v6), .unset, .unset, .unset, .unset, .unset, .unset, .unset, .unset, .unset] at_6 rfl rfl
  replace G := G.iloadN 9 at_8 rfl rfl
  replace G := G.ldcI 11 (hw _ (List.mem_of_getElem? (i := 0) rfl)) at_9 rfl
  replace G := G.iand 12 at_11 rfl
  replace G := G.bipush 14 (101 : Int32) at_12 (by decide) rfl
  replace G := G.irem 15 at_14 (by decide) rfl
  obtain ⟨v7, e7, G'⟩ := G.nameI
  clear G; have G := G'; clear G'
  replace G := G.istore 17 #[.val (.int p0), .val (.int p1), .val (.int p2), .val (.int p3), .val (.int p4), .val (.int p5), .val (.int v6), .val (.int v7), .unset, .unset, .unset, .unset, .unset, .unset, .unset, .unset] at_15 rfl rfl
  obtain ⟨q1, q2⟩ : 0 ≤ v7.toInt ∧ v7.toInt < 101 := by rw [e7]; exact own_rem p1 101 101 rfl (by decide)
  have q3 : v7.toInt ≤ 100 := by omega
  obtain ⟨f1, f2⟩ : 0 ≤ v6.toInt ∧ v6.toInt < 5 := by rw [e6]; exact own_rem p0 5 5 rfl (by decide)
  clear e6 e7
  rcases own_five f1 f2 with rfl | rfl | rfl | rfl | rfl
  · skip
    replace G := G.iload 19 at_17 rfl rfl
    obtain ⟨b, h1, kb, G', gb, sb, Eb, Ab⟩ := G.newarray 21 (hw _ (List.mem_of_getElem? (i := 1) rfl)) at_19 (by decide) 4 (Nat.le_of_ble_eq_true rfl) (by decide) rfl (Nat.le_of_ble_eq_true rfl) (Nat.le_of_ble_eq_true rfl)
    clear G; have G := G'; clear G'
    have Ab : Arv Z h1 b kb .double (0 : Int32) [] (.double (FP.l2d 0)) := by rw [l2d_zero]; exact Ab.pad (vs' := []) (pad_rep [] (.double 0) 0)
    have nwb : NW h0 [] b := NW.new sb
    replace G := G.astore 23 #[.val (.int p0), .val (.int p1), .val (.int p2), .val (.int p3), .val (.int p4), .val (.int p5), .val (.int (0 : Int32)), .val (.int v7), .val (.ref b), .unset, .unset, .unset, .unset, .unset, .unset, .unset] at_21 rfl rfl rfl
    replace G := G.iload 25 at_23 rfl rfl
    replace G := G.iconst 26 (1 : Int32) at_25 rfl rfl
    replace G := G.icmpT 35 at_26 (XT.ii_lt_t (by decide)) (by decide) (by decide)
    replace G := G.iload 37 at_35 rfl rfl
    replace G := G.iconst 38 (2 : Int32) at_37 rfl rfl
    replace G := G.icmpT 47 at_38 (XT.ii_lt_t (by decide)) (by decide) (by decide)
    replace G := G.iload 49 at_47 rfl rfl
    replace G := G.iconst 50 (3 : Int32) at_49 rfl rfl
    replace G := G.icmpT 60 at_50 (XT.ii_lt_t (by decide)) (by decide) (by decide)
    replace G := G.iload 62 at_60 rfl rfl
    replace G := G.iconst 63 (4 : Int32) at_62 rfl rfl
    replace G := G.icmpT 73 at_63 (XT.ii_lt_t (by decide)) (by decide) (by decide)
    obtain ⟨a, h3, G', ga, sa, Ea, Xa, Da, Ua⟩ := G.new 76 (hw _ (List.mem_of_getElem? (i := 2) rfl)) (hw _ (List.mem_of_getElem? (i := 3) rfl)) (hw _ (List.mem_of_getElem? (i := 4) rfl)) at_73 rfl (Nat.le_of_ble_eq_true rfl) (Nat.le_of_ble_eq_true rfl)
    clear G; have G := G'; clear G'
    have F1 := Da (Or.inr (hw _ (List.mem_of_getElem? (i := 12) rfl))) (ty := .array .double) (by decide)
    have F2 := Da (Or.inr (hw _ (List.mem_of_getElem? (i := 14) rfl))) (ty := .array .double) (by decide)
    replace Ab := Ab.ext Ea
    replace G := G.dup 77 at_76 rfl rfl
    replace G := G.aload 79 at_77 rfl rfl rfl
    obtain ⟨vc1, h4, G', Kc1, Qc1⟩ := G.callI 82 rfl (hw _ (List.mem_of_getElem? (i := 5) rfl)) (hw _ (List.mem_of_getElem? (i := 6) rfl)) (hw _ (List.mem_of_getElem? (i := 4) rfl)) (hw _ (List.mem_of_getElem? (i := 7) rfl)) (by decide) [(.ref b)] [(.ref a)] rfl (own_ini0 l Z a0 hw a b kb   h3 n0 G.n0le (Nat.le_trans z1 sa) Xa F1 F2 Ab) (lenOf pd___D_V rfl) at_79 rfl (Nat.le_of_ble_eq_true rfl) (Nat.le_of_ble_eq_true rfl) (Nat.le_of_ble_eq_true rfl) (Nat.le_of_ble_eq_true rfl) (allS (Or.inr sa) all0) rfl
    clear G; have G := G'; clear G'
    obtain ⟨qc1, g, kg, F1, F2, Ag, Ab, Xa⟩ := Qc1
    replace G := G.nov qc1
    replace G := G.astore 84 #[.val (.int p0), .val (.int p1), .val (.int p2), .val (.int p3), .val (.int p4), .val (.int p5), .val (.int (0 : Int32)), .val (.int v7), .val (.ref b), .val (.ref a), .unset, .unset, .unset, .unset, .unset, .unset] at_82 rfl rfl rfl
    replace G := G.aload 86 at_84 rfl rfl rfl
    replace G := G.iload 88 at_86 rfl rfl
    have hk : (100 * (0 : Int) ≤ (0 : Int) * v7.toInt ∧ (0 : Int) * v7.toInt < 100 * (0 : Int) + 100) := by omega
    rcases hk with ⟨k1, k2⟩
    · skip
      obtain ⟨vc2, h5, G', Kc2, Qc2⟩ := G.callV 91 (hw _ (List.mem_of_getElem? (i := 15) rfl)) (hw _ (List.mem_of_getElem? (i := 16) rfl)) (nfSel (hw _ (List.mem_of_getElem? (i := 18) rfl))) (hw _ (List.mem_of_getElem? (i := 18) rfl)) (hw _ (List.mem_of_getElem? (i := 17) rfl)) (hw _ (List.mem_of_getElem? (i := 4) rfl)) (hw _ (List.mem_of_getElem? (i := 19) rfl)) Xa (by decide) [(.int v7)] [] rfl (own_sh0_0 l Z a0 hw a b g kb kg  v7 h4 n0 G.n0le F1 F2 Ag Ab (own_idx (N := 0) (K := 0) rfl rfl (by decide) (by decide) q1 q3 k1 k2)) (lenOf pd__I_D rfl) at_88 rfl (Nat.le_of_ble_eq_true rfl) (Nat.le_of_ble_eq_true rfl) (Nat.le_of_ble_eq_true rfl) (Nat.le_of_ble_eq_true rfl) (fun _ q => nomatch q) rfl
      clear G; have G := G'; clear G'
      obtain ⟨wc2, qc2, rfl, rfl⟩ := Qc2
      replace G := G.val qc2
      replace G := G.dstore 93 #[.val (.int p0), .val (.int p1), .val (.int p2), .val (.int p3), .val (.int p4), .val (.int p5), .val (.int (0 : Int32)), .val (.int v7), .val (.ref b), .val (.ref a), .val (.double (FP.l2d (0 : Int64))), .second, .unset, .unset, .unset, .unset] at_91 rfl rfl
      replace G := G.iload 95 at_93 rfl rfl
      replace G := G.iload 97 at_95 rfl rfl
      replace G := G.imul 98 at_97 rfl
      obtain ⟨v12, e12, G'⟩ := G.nameI
      clear G; have G := G'; clear G'
      have c12 : v12.toInt = (0 : Int) * v7.toInt := by rw [e12]; exact own_sc (N := 0) rfl (by decide) (by decide) q1 q3
      clear e12
      replace G := G.istore 100 #[.val (.int p0), .val (.int p1), .val (.int p2), .val (.int p3), .val (.int p4), .val (.int p5), .val (.int (0 : Int32)), .val (.int v7), .val (.ref b), .val (.ref a), .val (.double (FP.l2d (0 : Int64))), .second, .val (.int v12), .unset, .unset, .unset] at_98 rfl rfl
      replace G := G.iconst 101 (0 : Int32) at_100 rfl rfl
      replace G := G.istore 103 #[.val (.int p0), .val (.int p1), .val (.int p2), .val (.int p3), .val (.int p4), .val (.int p5), .val (.int (0 : Int32)), .val (.int v7), .val (.ref b), .val (.ref a), .val (.double (FP.l2d (0 : Int64))), .second, .val (.int v12), .val (.int (0 : Int32)), .unset, .unset] at_101 rfl rfl
      replace G := G.iload 105 at_103 rfl rfl
      replace G := G.bipush 107 (100 : Int32) at_105 (by decide) rfl
      replace G := G.icmpT 113 at_107 (XT.ii_lt_t (own_lt (K := 100) rfl (by omega))) (by decide) (by decide)
      replace G := G.iload 115 at_113 rfl rfl
      replace G := G.sipush 118 (200 : Int32) at_115 (by decide) rfl
      replace G := G.icmpT 124 at_118 (XT.ii_lt_t (own_lt (K := 200) rfl (by omega))) (by decide) (by decide)
      replace G := G.iload 126 at_124 rfl rfl
      replace G := G.sipush 129 (300 : Int32) at_126 (by decide) rfl
      replace G := G.icmpT 135 at_129 (XT.ii_lt_t (own_lt (K := 300) rfl (by omega))) (by decide) (by decide)
      replace G := G.iload 137 at_135 rfl rfl
      replace G := G.sipush 140 (400 : Int32) at_137 (by decide) rfl
      replace G := G.icmpT 146 at_140 (XT.ii_lt_t (own_lt (K := 400) rfl (by omega))) (by decide) (by decide)
      replace G := G.lconst0 147 at_146 rfl
      replace G := G.lstore 149 #[.val (.int p0), .val (.int p1), .val (.int p2), .val (.int p3), .val (.int p4), .val (.int p5), .val (.int (0 : Int32)), .val (.int v7), .val (.ref b), .val (.ref a), .val (.double (FP.l2d (0 : Int64))), .second, .val (.int v12), .val (.int (0 : Int32)), .val (.long (0 : Int64)), .second] at_147 rfl rfl
      replace G := G.iload 151 at_149 rfl rfl
      replace G := G.iconst 152 (1 : Int32) at_151 rfl rfl
      replace G := G.icmpT 162 at_152 (XT.ii_lt_t (by decide)) (by decide) (by decide)
      replace G := G.iload 164 at_162 rfl rfl
      replace G := G.iconst 165 (2 : Int32) at_164 rfl rfl
      replace G := G.icmpT 175 at_165 (XT.ii_lt_t (by decide)) (by decide) (by decide)
      replace G := G.iload 177 at_175 rfl rfl
      replace G := G.iconst 178 (3 : Int32) at_177 rfl rfl
      replace G := G.icmpT 189 at_178 (XT.ii_lt_t (by decide)) (by decide) (by decide)
      replace G := G.iload 191 at_189 rfl rfl
      replace G := G.iconst 192 (4 : Int32) at_191 rfl rfl
      replace G := G.icmpT 203 at_192 (XT.ii_lt_t (by decide)) (by decide) (by decide)
      replace G := G.dload 205 at_203 rfl rfl
      replace G := G.lload 207 at_205 rfl rfl
      replace G := G.l2dS 208 at_207 rfl rfl
      replace G := G.dcmpS 209 at_208 (dcmpV_self (nn_w rfl) _) rfl
      replace G := G.ifF 212 at_209 (XT.i0_ne_f rfl) rfl
      replace G := G.iconst 213 (1 : Int32) at_212 rfl rfl
      replace G := G.goto 217 at_213 (by decide) (by decide)
      exact G.retN hret (Or.inl rfl) hlk at_217 ⟨_, rfl, rfl⟩ (Nat.le_of_ble_eq_true rfl) (Nat.le_of_ble_eq_true rfl)
  · skip
    replace G := G.iload 19 at_17 rfl rfl
    obtain ⟨b, h1, kb, G', gb, sb, Eb, Ab⟩ := G.newarray 21 (hw _ (List.mem_of_getElem? (i := 1) rfl)) at_19 (by decide) 4 (Nat.le_of_ble_eq_true rfl) (by decide) rfl (Nat.le_of_ble_eq_true rfl) (Nat.le_of_ble_eq_true rfl)
    clear G; have G := G'; clear G'
    have Ab : Arv Z h1 b kb .double (1 : Int32) [(.double (FP.l2d 0))] (.double (FP.l2d 0)) := by rw [l2d_zero]; exact Ab.pad (vs' := [(.double 0)]) (pad_rep [] (.double 0) 1)
    have nwb : NW h0 [] b := NW.new sb
    replace G := G.astore 23 #[.val (.int p0), .val (.int p1), .val (.int p2), .val (.int p3), .val (.int p4), .val (.int p5), .val (.int (1 : Int32)), .val (.int v7), .val (.ref b), .unset, .unset, .unset, .unset, .unset, .unset, .unset] at_21 rfl rfl rfl
    replace G := G.iload 25 at_23 rfl rfl
    replace G := G.iconst 26 (1 : Int32) at_25 rfl rfl
    replace G := G.icmpF 29 at_26 (XT.ii_lt_f (by decide)) rfl
    replace G := G.aload 31 at_29 rfl rfl rfl
    replace G := G.iconst 32 (0 : Int32) at_31 rfl rfl
    replace G := G.iloadN 33 at_32 rfl rfl
    replace G := G.i2dS 34 at_33 (i2d_w p2) rfl
    obtain ⟨hs0, G', As0, Ks0⟩ := G.dastore 35 0 Ab (by decide) rfl (Nat.le_of_ble_eq_true rfl) nwb at_34 rfl
    clear G; have G := G'; clear G'
    replace Ab : Arv Z hs0 b kb .double (1 : Int32) [(.double (FP.l2d p2.toInt64))] (.double (FP.l2d 0)) := As0
    replace G := G.iload 37 at_35 rfl rfl
    replace G := G.iconst 38 (2 : Int32) at_37 rfl rfl
    replace G := G.icmpT 47 at_38 (XT.ii_lt_t (by decide)) (by decide) (by decide)
    replace G := G.iload 49 at_47 rfl rfl
    replace G := G.iconst 50 (3 : Int32) at_49 rfl rfl
    replace G := G.icmpT 60 at_50 (XT.ii_lt_t (by decide)) (by decide) (by decide)
    replace G := G.iload 62 at_60 rfl rfl
    replace G := G.iconst 63 (4 : Int32) at_62 rfl rfl
    replace G := G.icmpT 73 at_63 (XT.ii_lt_t (by decide)) (by decide) (by decide)
    obtain ⟨a, h3, G', ga, sa, Ea, Xa, Da, Ua⟩ := G.new 76 (hw _ (List.mem_of_getElem? (i := 2) rfl)) (hw _ (List.mem_of_getElem? (i := 3) rfl)) (hw _ (List.mem_of_getElem? (i := 4) rfl)) at_73 rfl (Nat.le_of_ble_eq_true rfl) (Nat.le_of_ble_eq_true rfl)
    clear G; have G := G'; clear G'
    have F1 := Da (Or.inr (hw _ (List.mem_of_getElem? (i := 12) rfl))) (ty := .array .double) (by decide)
    have F2 := Da (Or.inr (hw _ (List.mem_of_getElem? (i := 14) rfl))) (ty := .array .double) (by decide)
    replace Ab := Ab.ext Ea
    replace G := G.dup 77 at_76 rfl rfl
    replace G := G.aload 79 at_77 rfl rfl rfl
    obtain ⟨vc1, h4, G', Kc1, Qc1⟩ := G.callI 82 rfl (hw _ (List.mem_of_getElem? (i := 5) rfl)) (hw _ (List.mem_of_getElem? (i := 6) rfl)) (hw _ (List.mem_of_getElem? (i := 4) rfl)) (hw _ (List.mem_of_getElem? (i := 7) rfl)) (by decide) [(.ref b)] [(.ref a)] rfl (own_ini1 l Z a0 hw a b kb p2.toInt64 (Bk.int p2) h3 n0 G.n0le (Nat.le_trans z1 sa) Xa F1 F2 Ab) (lenOf pd___D_V rfl) at_79 rfl (Nat.le_of_ble_eq_true rfl) (Nat.le_of_ble_eq_true rfl) (Nat.le_of_ble_eq_true rfl) (Nat.le_of_ble_eq_true rfl) (allS (Or.inr sa) all0) rfl
    clear G; have G := G'; clear G'
    obtain ⟨qc1, g, kg, F1, F2, Ag, Ab, Xa⟩ := Qc1
    replace G := G.nov qc1
    replace G := G.astore 84 #[.val (.int p0), .val (.int p1), .val (.int p2), .val (.int p3), .val (.int p4), .val (.int p5), .val (.int (1 : Int32)), .val (.int v7), .val (.ref b), .val (.ref a), .unset, .unset, .unset, .unset, .unset, .unset] at_82 rfl rfl rfl
    replace G := G.aload 86 at_84 rfl rfl rfl
    replace G := G.iload 88 at_86 rfl rfl
    have hk : (100 * (0 : Int) ≤ (1 : Int) * v7.toInt ∧ (1 : Int) * v7.toInt < 100 * (0 : Int) + 100) ∨ (100 * (1 : Int) ≤ (1 : Int) * v7.toInt ∧ (1 : Int) * v7.toInt < 100 * (1 : Int) + 100) := by omega
    rcases hk with ⟨k1, k2⟩ | ⟨k1, k2⟩
    · skip
      obtain ⟨vc2, h5, G', Kc2, Qc2⟩ := G.callV 91 (hw _ (List.mem_of_getElem? (i := 15) rfl)) (hw _ (List.mem_of_getElem? (i := 16) rfl)) (nfSel (hw _ (List.mem_of_getElem? (i := 18) rfl))) (hw _ (List.mem_of_getElem? (i := 18) rfl)) (hw _ (List.mem_of_getElem? (i := 17) rfl)) (hw _ (List.mem_of_getElem? (i := 4) rfl)) (hw _ (List.mem_of_getElem? (i := 19) rfl)) Xa (by decide) [(.int v7)] [] rfl (own_sh1_0 l Z a0 hw a b g kb kg p2.toInt64 v7 h4 n0 G.n0le F1 F2 Ag Ab (own_idx (N := 1) (K := 0) rfl rfl (by decide) (by decide) q1 q3 k1 k2)) (lenOf pd__I_D rfl) at_88 rfl (Nat.le_of_ble_eq_true rfl) (Nat.le_of_ble_eq_true rfl) (Nat.le_of_ble_eq_true rfl) (Nat.le_of_ble_eq_true rfl) (fun _ q => nomatch q) rfl
      clear G; have G := G'; clear G'
      obtain ⟨wc2, qc2, rfl, rfl⟩ := Qc2
      replace G := G.val qc2
      replace G := G.dstore 93 #[.val (.int p0), .val (.int p1), .val (.int p2), .val (.int p3), .val (.int p4), .val (.int p5), .val (.int (1 : Int32)), .val (.int v7), .val (.ref b), .val (.ref a), .val (.double (FP.l2d (0 : Int64))), .second, .unset, .unset, .unset, .unset] at_91 rfl rfl
      replace G := G.iload 95 at_93 rfl rfl
      replace G := G.iload 97 at_95 rfl rfl
      replace G := G.imul 98 at_97 rfl
      obtain ⟨v12, e12, G'⟩ := G.nameI
      clear G; have G := G'; clear G'
      have c12 : v12.toInt = (1 : Int) * v7.toInt := by rw [e12]; exact own_sc (N := 1) rfl (by decide) (by decide) q1 q3
      clear e12
      replace G := G.istore 100 #[.val (.int p0), .val (.int p1), .val (.int p2), .val (.int p3), .val (.int p4), .val (.int p5), .val (.int (1 : Int32)), .val (.int v7), .val (.ref b), .val (.ref a), .val (.double (FP.l2d (0 : Int64))), .second, .val (.int v12), .unset, .unset, .unset] at_98 rfl rfl
      replace G := G.iconst 101 (0 : Int32) at_100 rfl rfl
      replace G := G.istore 103 #[.val (.int p0), .val (.int p1), .val (.int p2), .val (.int p3), .val (.int p4), .val (.int p5), .val (.int (1 : Int32)), .val (.int v7), .val (.ref b), .val (.ref a), .val (.double (FP.l2d (0 : Int64))), .second, .val (.int v12), .val (.int (0 : Int32)), .unset, .unset] at_101 rfl rfl
      replace G := G.iload 105 at_103 rfl rfl
      replace G := G.bipush 107 (100 : Int32) at_105 (by decide) rfl
      replace G := G.icmpT 113 at_107 (XT.ii_lt_t (own_lt (K := 100) rfl (by omega))) (by decide) (by decide)
      replace G := G.iload 115 at_113 rfl rfl
      replace G := G.sipush 118 (200 : Int32) at_115 (by decide) rfl
      replace G := G.icmpT 124 at_118 (XT.ii_lt_t (own_lt (K := 200) rfl (by omega))) (by decide) (by decide)
      replace G := G.iload 126 at_124 rfl rfl
      replace G := G.sipush 129 (300 : Int32) at_126 (by decide) rfl
      replace G := G.icmpT 135 at_129 (XT.ii_lt_t (own_lt (K := 300) rfl (by omega))) (by decide) (by decide)
      replace G := G.iload 137 at_135 rfl rfl
      replace G := G.sipush 140 (400 : Int32) at_137 (by decide) rfl
      replace G := G.icmpT 146 at_140 (XT.ii_lt_t (own_lt (K := 400) rfl (by omega))) (by decide) (by decide)
      replace G := G.lconst0 147 at_146 rfl
      replace G := G.lstore 149 #[.val (.int p0), .val (.int p1), .val (.int p2), .val (.int p3), .val (.int p4), .val (.int p5), .val (.int (1 : Int32)), .val (.int v7), .val (.ref b), .val (.ref a), .val (.double (FP.l2d (0 : Int64))), .second, .val (.int v12), .val (.int (0 : Int32)), .val (.long (0 : Int64)), .second] at_147 rfl rfl
      replace G := G.iload 151 at_149 rfl rfl
      replace G := G.iconst 152 (1 : Int32) at_151 rfl rfl
      replace G := G.icmpT 162 at_152 (XT.ii_lt_t (by decide)) (by decide) (by decide)
      replace G := G.iload 164 at_162 rfl rfl
      replace G := G.iconst 165 (2 : Int32) at_164 rfl rfl
      replace G := G.icmpT 175 at_165 (XT.ii_lt_t (by decide)) (by decide) (by decide)
      replace G := G.iload 177 at_175 rfl rfl
      replace G := G.iconst 178 (3 : Int32) at_177 rfl rfl
      replace G := G.icmpT 189 at_178 (XT.ii_lt_t (by decide)) (by decide) (by decide)
      replace G := G.iload 191 at_189 rfl rfl
      replace G := G.iconst 192 (4 : Int32) at_191 rfl rfl
      replace G := G.icmpT 203 at_192 (XT.ii_lt_t (by decide)) (by decide) (by decide)
      replace G := G.dload 205 at_203 rfl rfl
      replace G := G.lload 207 at_205 rfl rfl
      replace G := G.l2dS 208 at_207 rfl rfl
      replace G := G.dcmpS 209 at_208 (dcmpV_self (nn_w rfl) _) rfl
      replace G := G.ifF 212 at_209 (XT.i0_ne_f rfl) rfl
      replace G := G.iconst 213 (1 : Int32) at_212 rfl rfl
      replace G := G.goto 217 at_213 (by decide) (by decide)
      exact G.retN hret (Or.inl rfl) hlk at_217 ⟨_, rfl, rfl⟩ (Nat.le_of_ble_eq_true rfl) (Nat.le_of_ble_eq_true rfl)
    · skip
      obtain ⟨vc2, h5, G', Kc2, Qc2⟩ := G.callV 91 (hw _ (List.mem_of_getElem? (i := 15) rfl)) (hw _ (List.mem_of_getElem? (i := 16) rfl)) (nfSel (hw _ (List.mem_of_getElem? (i := 18) rfl))) (hw _ (List.mem_of_getElem? (i := 18) rfl)) (hw _ (List.mem_of_getElem? (i := 17) rfl)) (hw _ (List.mem_of_getElem? (i := 4) rfl)) (hw _ (List.mem_of_getElem? (i := 19) rfl)) Xa (by decide) [(.int v7)] [] rfl (own_sh1_1 l Z a0 hw a b g kb kg p2.toInt64 v7 h4 n0 G.n0le F1 F2 Ag Ab (own_idx (N := 1) (K := 1) rfl rfl (by decide) (by decide) q1 q3 k1 k2)) (lenOf pd__I_D rfl) at_88 rfl (Nat.le_of_ble_eq_true rfl) (Nat.le_of_ble_eq_true rfl) (Nat.le_of_ble_eq_true rfl) (Nat.le_of_ble_eq_true rfl) (fun _ q => nomatch q) rfl
      clear G; have G := G'; clear G'
      obtain ⟨wc2, qc2, rfl, rfl⟩ := Qc2
      replace G := G.val qc2
      replace G := G.dstore 93 #[.val (.int p0), .val (.int p1), .val (.int p2), .val (.int p3), .val (.int p4), .val (.int p5), .val (.int (1 : Int32)), .val (.int v7), .val (.ref b), .val (.ref a), .val (.double (FP.l2d ((0 : Int64) + p2.toInt64))), .second, .unset, .unset, .unset, .unset] at_91 rfl rfl
      replace G := G.iload 95 at_93 rfl rfl
      replace G := G.iload 97 at_95 rfl rfl
      replace G := G.imul 98 at_97 rfl
      obtain ⟨v12, e12, G'⟩ := G.nameI
      clear G; have G := G'; clear G'
      have c12 : v12.toInt = (1 : Int) * v7.toInt := by rw [e12]; exact own_sc (N := 1) rfl (by decide) (by decide) q1 q3
      clear e12
      replace G := G.istore 100 #[.val (.int p0), .val (.int p1), .val (.int p2), .val (.int p3), .val (.int p4), .val (.int p5), .val (.int (1 : Int32)), .val (.int v7), .val (.ref b), .val (.ref a), .val (.double (FP.l2d ((0 : Int64) + p2.toInt64))), .second, .val (.int v12), .unset, .unset, .unset] at_98 rfl rfl
      replace G := G.iconst 101 (0 : Int32) at_100 rfl rfl
      replace G := G.istore 103 #[.val (.int p0), .val (.int p1), .val (.int p2), .val (.int p3), .val (.int p4), .val (.int p5), .val (.int (1 : Int32)), .val (.int v7), .val (.ref b), .val (.ref a), .val (.double (FP.l2d ((0 : Int64) + p2.toInt64))), .second, .val (.int v12), .val (.int (0 : Int32)), .unset, .unset] at_101 rfl rfl
      replace G := G.iload 105 at_103 rfl rfl
      replace G := G.bipush 107 (100 : Int32) at_105 (by decide) rfl
      replace G := G.icmpF 110 at_107 (XT.ii_lt_f (own_nlt (K := 100) rfl (by omega))) rfl
      replace G := G.iconst 111 (1 : Int32) at_110 rfl rfl
      replace G := G.istore 113 #[.val (.int p0), .val (.int p1), .val (.int p2), .val (.int p3), .val (.int p4), .val (.int p5), .val (.int (1 : Int32)), .val (.int v7), .val (.ref b), .val (.ref a), .val (.double (FP.l2d ((0 : Int64) + p2.toInt64))), .second, .val (.int v12), .val (.int (1 : Int32)), .unset, .unset] at_111 rfl rfl
      replace G := G.iload 115 at_113 rfl rfl
      replace G := G.sipush 118 (200 : Int32) at_115 (by decide) rfl
      replace G := G.icmpT 124 at_118 (XT.ii_lt_t (own_lt (K := 200) rfl (by omega))) (by decide) (by decide)
      replace G := G.iload 126 at_124 rfl rfl
      replace G := G.sipush 129 (300 : Int32) at_126 (by decide) rfl
      replace G := G.icmpT 135 at_129 (XT.ii_lt_t (own_lt (K := 300) rfl (by omega))) (by decide) (by decide)
      replace G := G.iload 137 at_135 rfl rfl
      replace G := G.sipush 140 (400 : Int32) at_137 (by decide) rfl
      replace G := G.icmpT 146 at_140 (XT.ii_lt_t (own_lt (K := 400) rfl (by omega))) (by decide) (by decide)
      replace G := G.lconst0 147 at_146 rfl
      replace G := G.lstore 149 #[.val (.int p0), .val (.int p1), .val (.int p2), .val (.int p3), .val (.int p4), .val (.int p5), .val (.int (1 : Int32)), .val (.int v7), .val (.ref b), .val (.ref a), .val (.double (FP.l2d ((0 : Int64) + p2.toInt64))), .second, .val (.int v12), .val (.int (1 : Int32)), .val (.long (0 : Int64)), .second] at_147 rfl rfl
      replace G := G.iload 151 at_149 rfl rfl
      replace G := G.iconst 152 (1 : Int32) at_151 rfl rfl
      replace G := G.icmpF 155 at_152 (XT.ii_lt_f (by decide)) rfl
      replace G := G.lload 157 at_155 rfl rfl
      replace G := G.iloadN 158 at_157 rfl rfl
      replace G := G.i2l 159 at_158 rfl
      replace G := G.ladd 160 at_159 rfl
      replace G := G.lstore 162 #[.val (.int p0), .val (.int p1), .val (.int p2), .val (.int p3), .val (.int p4), .val (.int p5), .val (.int (1 : Int32)), .val (.int v7), .val (.ref b), .val (.ref a), .val (.double (FP.l2d ((0 : Int64) + p2.toInt64))), .second, .val (.int v12), .val (.int (1 : Int32)), .val (.long ((0 : Int64) + (p2).toInt64)), .second] at_160 rfl rfl
      replace G := G.iload 164 at_162 rfl rfl
      replace G := G.iconst 165 (2 : Int32) at_164 rfl rfl
      replace G := G.icmpT 175 at_165 (XT.ii_lt_t (by decide)) (by decide) (by decide)
      replace G := G.iload 177 at_175 rfl rfl
      replace G := G.iconst 178 (3 : Int32) at_177 rfl rfl
      replace G := G.icmpT 189 at_178 (XT.ii_lt_t (by decide)) (by decide) (by decide)
      replace G := G.iload 191 at_189 rfl rfl
      replace G := G.iconst 192 (4 : Int32) at_191 rfl rfl
      replace G := G.icmpT 203 at_192 (XT.ii_lt_t (by decide)) (by decide) (by decide)
      replace G := G.dload 205 at_203 rfl rfl
      replace G := G.lload 207 at_205 rfl rfl
      replace G := G.l2dS 208 at_207 rfl rfl
      replace G := G.dcmpS 209 at_208 (dcmpV_self (nn_w rfl) _) rfl
      replace G := G.ifF 212 at_209 (XT.i0_ne_f rfl) rfl
      replace G := G.iconst 213 (1 : Int32) at_212 rfl rfl
      replace G := G.goto 217 at_213 (by decide) (by decide)
      exact G.retN hret (Or.inl rfl) hlk at_217 ⟨_, rfl, rfl⟩ (Nat.le_of_ble_eq_true rfl) (Nat.le_of_ble_eq_true rfl)
  · skip
    replace G := G.iload 19 at_17 rfl rfl
    obtain ⟨b, h1, kb, G', gb, sb, Eb, Ab⟩ := G.newarray 21 (hw _ (List.mem_of_getElem? (i := 1) rfl)) at_19 (by decide) 4 (Nat.le_of_ble_eq_true rfl) (by decide) rfl (Nat.le_of_ble_eq_true rfl) (Nat.le_of_ble_eq_true rfl)
    clear G; have G := G'; clear G'
    have Ab : Arv Z h1 b kb .double (2 : Int32) [(.double (FP.l2d 0)), (.double (FP.l2d 0))] (.double (FP.l2d 0)) := by rw [l2d_zero]; exact Ab.pad (vs' := [(.double 0), (.double 0)]) (pad_rep [] (.double 0) 2)
    have nwb : NW h0 [] b := NW.new sb
    replace G := G.astore 23 #[.val (.int p0), .val (.int p1), .val (.int p2), .val (.int p3), .val (.int p4), .val (.int p5), .val (.int (2 : Int32)), .val (.int v7), .val (.ref b), .unset, .unset, .unset, .unset, .unset, .unset, .unset] at_21 rfl rfl rfl
    replace G := G.iload 25 at_23 rfl rfl
    replace G := G.iconst 26 (1 : Int32) at_25 rfl rfl
    replace G := G.icmpF 29 at_26 (XT.ii_lt_f (by decide)) rfl
    replace G := G.aload 31 at_29 rfl rfl rfl
    replace G := G.iconst 32 (0 : Int32) at_31 rfl rfl
    replace G := G.iloadN 33 at_32 rfl rfl
    replace G := G.i2dS 34 at_33 (i2d_w p2) rfl
    obtain ⟨hs0, G', As0, Ks0⟩ := G.dastore 35 0 Ab (by decide) rfl (Nat.le_of_ble_eq_true rfl) nwb at_34 rfl
    clear G; have G := G'; clear G'
    replace Ab : Arv Z hs0 b kb .double (2 : Int32) [(.double (FP.l2d p2.toInt64)), (.double (FP.l2d 0))] (.double (FP.l2d 0)) := As0
    replace G := G.iload 37 at_35 rfl rfl
    replace G := G.iconst 38 (2 : Int32) at_37 rfl rfl
    replace G := G.icmpF 41 at_38 (XT.ii_lt_f (by decide)) rfl
    replace G := G.aload 43 at_41 rfl rfl rfl
    replace G := G.iconst 44 (1 : Int32) at_43 rfl rfl
    replace G := G.iloadN 45 at_44 rfl rfl
    replace G := G.i2dS 46 at_45 (i2d_w p3) rfl
    obtain ⟨hs1, G', As1, Ks1⟩ := G.dastore 47 1 Ab (by decide) rfl (Nat.le_of_ble_eq_true rfl) nwb at_46 rfl
    clear G; have G := G'; clear G'
    replace Ab : Arv Z hs1 b kb .double (2 : Int32) [(.double (FP.l2d p2.toInt64)), (.double (FP.l2d p3.toInt64))] (.double (FP.l2d 0)) := As1
    replace G := G.iload 49 at_47 rfl rfl
    replace G := G.iconst 50 (3 : Int32) at_49 rfl rfl
    replace G := G.icmpT 60 at_50 (XT.ii_lt_t (by decide)) (by decide) (by decide)
    replace G := G.iload 62 at_60 rfl rfl
    replace G := G.iconst 63 (4 : Int32) at_62 rfl rfl
    replace G := G.icmpT 73 at_63 (XT.ii_lt_t (by decide)) (by decide) (by decide)
    obtain ⟨a, h3, G', ga, sa, Ea, Xa, Da, Ua⟩ := G.new 76 (hw _ (List.mem_of_getElem? (i := 2) rfl)) (hw _ (List.mem_of_getElem? (i := 3) rfl)) (hw _ (List.mem_of_getElem? (i := 4) rfl)) at_73 rfl (Nat.le_of_ble_eq_true rfl) (Nat.le_of_ble_eq_true rfl)
    clear G; have G := G'; clear G'
    have F1 := Da (Or.inr (hw _ (List.mem_of_getElem? (i := 12) rfl))) (ty := .array .double) (by decide)
    have F2 := Da (Or.inr (hw _ (List.mem_of_getElem? (i := 14) rfl))) (ty := .array .double) (by decide)
    replace Ab := Ab.ext Ea
    replace G := G.dup 77 at_76 rfl rfl
    replace G := G.aload 79 at_77 rfl rfl rfl
    obtain ⟨vc1, h4, G', Kc1, Qc1⟩ := G.callI 82 rfl (hw _ (List.mem_of_getElem? (i := 5) rfl)) (hw _ (List.mem_of_getElem? (i := 6) rfl)) (hw _ (List.mem_of_getElem? (i := 4) rfl)) (hw _ (List.mem_of_getElem? (i := 7) rfl)) (by decide) [(.ref b)] [(.ref a)] rfl (own_ini2 l Z a0 hw a b kb p2.toInt64 p3.toInt64 (Bk.int p2) (Bk.int p3) h3 n0 G.n0le (Nat.le_trans z1 sa) Xa F1 F2 Ab) (lenOf pd___D_V rfl) at_79 rfl (Nat.le_of_ble_eq_true rfl) (Nat.le_of_ble_eq_true rfl) (Nat.le_of_ble_eq_true rfl) (Nat.le_of_ble_eq_true rfl) (allS (Or.inr sa) all0) rfl
    clear G; have G := G'; clear G'
    obtain ⟨qc1, g, kg, F1, F2, Ag, Ab, Xa⟩ := Qc1
    replace G := G.nov qc1
    replace G := G.astore 84 #[.val (.int p0), .val (.int p1), .val (.int p2), .val (.int p3), .val (.int p4), .val (.int p5), .val (.int (2 : Int32)), .val (.int v7), .val (.ref b), .val (.ref a), .unset, .unset, .unset, .unset, .unset, .unset] at_82 rfl rfl rfl
    replace G := G.aload 86 at_84 rfl rfl rfl
    replace G := G.iload 88 at_86 rfl rfl
    have hk : (100 * (0 : Int) ≤ (2 : Int) * v7.toInt ∧ (2 : Int) * v7.toInt < 100 * (0 : Int) + 100) ∨ (100 * (1 : Int) ≤ (2 : Int) * v7.toInt ∧ (2 : Int) * v7.toInt < 100 * (1 : Int) + 100) ∨ (100 * (2 : Int) ≤ (2 : Int) * v7.toInt ∧ (2 : Int) * v7.toInt < 100 * (2 : Int) + 100) := by omega
    rcases hk with ⟨k1, k2⟩ | ⟨k1, k2⟩ | ⟨k1, k2⟩
    · skip
      obtain ⟨vc2, h5, G', Kc2, Qc2⟩ := G.callV 91 (hw _ (List.mem_of_getElem? (i := 15) rfl)) (hw _ (List.mem_of_getElem? (i := 16) rfl)) (nfSel (hw _ (List.mem_of_getElem? (i := 18) rfl))) (hw _ (List.mem_of_getElem? (i := 18) rfl)) (hw _ (List.mem_of_getElem? (i := 17) rfl)) (hw _ (List.mem_of_getElem? (i := 4) rfl)) (hw _ (List.mem_of_getElem? (i := 19) rfl)) Xa (by decide) [(.int v7)] [] rfl (own_sh2_0 l Z a0 hw a b g kb kg p2.toInt64 p3.toInt64 v7 h4 n0 G.n0le F1 F2 Ag Ab (own_idx (N := 2) (K := 0) rfl rfl (by decide) (by decide) q1 q3 k1 k2)) (lenOf pd__I_D rfl) at_88 rfl (Nat.le_of_ble_eq_true rfl) (Nat.le_of_ble_eq_true rfl) (Nat.le_of_ble_eq_true rfl) (Nat.le_of_ble_eq_true rfl) (fun _ q => nomatch q) rfl
      clear G; have G := G'; clear G'
      obtain ⟨wc2, qc2, rfl, rfl⟩ := Qc2
      replace G := G.val qc2
      replace G := G.dstore 93 #[.val (.int p0), .val (.int p1), .val (.int p2), .val (.int p3), .val (.int p4), .val (.int p5), .val (.int (2 : Int32)), .val (.int v7), .val (.ref b), .val (.ref a), .val (.double (FP.l2d (0 : Int64))), .second, .unset, .unset, .unset, .unset] at_91 rfl rfl
      replace G := G.iload 95 at_93 rfl rfl
      replace G := G.iload 97 at_95 rfl rfl
      replace G := G.imul 98 at_97 rfl
      obtain ⟨v12, e12, G'⟩ := G.nameI
      clear G; have G := G'; clear G'
      have c12 : v12.toInt = (2 : Int) * v7.toInt := by rw [e12]; exact own_sc (N := 2) rfl (by decide) (by decide) q1 q3
      clear e12
      replace G := G.istore 100 #[.val (.int p0), .val (.int p1), .val (.int p2), .val (.int p3), .val (.int p4), .val (.int p5), .val (.int (2 : Int32)), .val (.int v7), .val (.ref b), .val (.ref a), .val (.double (FP.l2d (0 : Int64))), .second, .val (.int v12), .unset, .unset, .unset] at_98 rfl rfl
      replace G := G.iconst 101 (0 : Int32) at_100 rfl rfl
      replace G := G.istore 103 #[.val (.int p0), .val (.int p1), .val (.int p2), .val (.int p3), .val (.int p4), .val (.int p5), .val (.int (2 : Int32)), .val (.int v7), .val (.ref b), .val (.ref a), .val (.double (FP.l2d (0 : Int64))), .second, .val (.int v12), .val (.int (0 : Int32)), .unset, .unset] at_101 rfl rfl
      replace G := G.iload 105 at_103 rfl rfl
      replace G := G.bipush 107 (100 : Int32) at_105 (by decide) rfl
      replace G := G.icmpT 113 at_107 (XT.ii_lt_t (own_lt (K := 100) rfl (by omega))) (by decide) (by decide)
      replace G := G.iload 115 at_113 rfl rfl
      replace G := G.sipush 118 (200 : Int32) at_115 (by decide) rfl
      replace G := G.icmpT 124 at_118 (XT.ii_lt_t (own_lt (K := 200) rfl (by omega))) (by decide) (by decide)
      replace G := G.iload 126 at_124 rfl rfl
      replace G := G.sipush 129 (300 : Int32) at_126 (by decide) rfl
      replace G := G.icmpT 135 at_129 (XT.ii_lt_t (own_lt (K := 300) rfl (by omega))) (by decide) (by decide)
      replace G := G.iload 137 at_135 rfl rfl
      replace G := G.sipush 140 (400 : Int32) at_137 (by decide) rfl
      replace G := G.icmpT 146 at_140 (XT.ii_lt_t (own_lt (K := 400) rfl (by omega))) (by decide) (by decide)
      replace G := G.lconst0 147 at_146 rfl
      replace G := G.lstore 149 #[.val (.int p0), .val (.int p1), .val (.int p2), .val (.int p3), .val (.int p4), .val (.int p5), .val (.int (2 : Int32)), .val (.int v7), .val (.ref b), .val (.ref a), .val (.double (FP.l2d (0 : Int64))), .second, .val (.int v12), .val (.int (0 : Int32)), .val (.long (0 : Int64)), .second] at_147 rfl rfl
      replace G := G.iload 151 at_149 rfl rfl
      replace G := G.iconst 152 (1 : Int32) at_151 rfl rfl
      replace G := G.icmpT 162 at_152 (XT.ii_lt_t (by decide)) (by decide) (by decide)
      replace G := G.iload 164 at_162 rfl rfl
      replace G := G.iconst 165 (2 : Int32) at_164 rfl rfl
      replace G := G.icmpT 175 at_165 (XT.ii_lt_t (by decide)) (by decide) (by decide)
      replace G := G.iload 177 at_175 rfl rfl
      replace G := G.iconst 178 (3 : Int32) at_177 rfl rfl
      replace G := G.icmpT 189 at_178 (XT.ii_lt_t (by decide)) (by decide) (by decide)
      replace G := G.iload 191 at_189 rfl rfl
      replace G := G.iconst 192 (4 : Int32) at_191 rfl rfl
      replace G := G.icmpT 203 at_192 (XT.ii_lt_t (by decide)) (by decide) (by decide)
      replace G := G.dload 205 at_203 rfl rfl
      replace G := G.lload 207 at_205 rfl rfl
      replace G := G.l2dS 208 at_207 rfl rfl
      replace G := G.dcmpS 209 at_208 (dcmpV_self (nn_w rfl) _) rfl
      replace G := G.ifF 212 at_209 (XT.i0_ne_f rfl) rfl
      replace G := G.iconst 213 (1 : Int32) at_212 rfl rfl
      replace G := G.goto 217 at_213 (by decide) (by decide)
      exact G.retN hret (Or.inl rfl) hlk at_217 ⟨_, rfl, rfl⟩ (Nat.le_of_ble_eq_true rfl) (Nat.le_of_ble_eq_true rfl)
    · skip
      obtain ⟨vc2, h5, G', Kc2, Qc2⟩ := G.callV 91 (hw _ (List.mem_of_getElem? (i := 15) rfl)) (hw _ (List.mem_of_getElem? (i := 16) rfl)) (nfSel (hw _ (List.mem_of_getElem? (i := 18) rfl))) (hw _ (List.mem_of_getElem? (i := 18) rfl)) (hw _ (List.mem_of_getElem? (i := 17) rfl)) (hw _ (List.mem_of_getElem? (i := 4) rfl)) (hw _ (List.mem_of_getElem? (i := 19) rfl)) Xa (by decide) [(.int v7)] [] rfl (own_sh2_1 l Z a0 hw a b g kb kg p2.toInt64 p3.toInt64 v7 h4 n0 G.n0le F1 F2 Ag Ab (own_idx (N := 2) (K := 1) rfl rfl (by decide) (by decide) q1 q3 k1 k2)) (lenOf pd__I_D rfl) at_88 rfl (Nat.le_of_ble_eq_true rfl) (Nat.le_of_ble_eq_true rfl) (Nat.le_of_ble_eq_true rfl) (Nat.le_of_ble_eq_true rfl) (fun _ q => nomatch q) rfl
      clear G; have G := G'; clear G'
      obtain ⟨wc2, qc2, rfl, rfl⟩ := Qc2
      replace G := G.val qc2
      replace G := G.dstore 93 #[.val (.int p0), .val (.int p1), .val (.int p2), .val (.int p3), .val (.int p4), .val (.int p5), .val (.int (2 : Int32)), .val (.int v7), .val (.ref b), .val (.ref a), .val (.double (FP.l2d ((0 : Int64) + p2.toInt64))), .second, .unset, .unset, .unset, .unset] at_91 rfl rfl
      replace G := G.iload 95 at_93 rfl rfl
      replace G := G.iload 97 at_95 rfl rfl
      replace G := G.imul 98 at_97 rfl
      obtain ⟨v12, e12, G'⟩ := G.nameI
      clear G; have G := G'; clear G'
      have c12 : v12.toInt = (2 : Int) * v7.toInt := by rw [e12]; exact own_sc (N := 2) rfl (by decide) (by decide) q1 q3
      clear e12
      replace G := G.istore 100 #[.val (.int p0), .val (.int p1), .val (.int p2), .val (.int p3), .val (.int p4), .val (.int p5), .val (.int (2 : Int32)), .val (.int v7), .val (.ref b), .val (.ref a), .val (.double (FP.l2d ((0 : Int64) + p2.toInt64))), .second, .val (.int v12), .unset, .unset, .unset] at_98 rfl rfl
      replace G := G.iconst 101 (0 : Int32) at_100 rfl rfl
      replace G := G.istore 103 #[.val (.int p0), .val (.int p1), .val (.int p2), .val (.int p3), .val (.int p4), .val (.int p5), .val (.int (2 : Int32)), .val (.int v7), .val (.ref b), .val (.ref a), .val (.double (FP.l2d ((0 : Int64) + p2.toInt64))), .second, .val (.int v12), .val (.int (0 : Int32)), .unset, .unset] at_101 rfl rfl
      replace G := G.iload 105 at_103 rfl rfl
      replace G := G.bipush 107 (100 : Int32) at_105 (by decide) rfl
      replace G := G.icmpF 110 at_107 (XT.ii_lt_f (own_nlt (K := 100) rfl (by omega))) rfl
      replace G := G.iconst 111 (1 : Int32) at_110 rfl rfl
      replace G := G.istore 113 #[.val (.int p0), .val (.int p1), .val (.int p2), .val (.int p3), .val (.int p4), .val (.int p5), .val (.int (2 : Int32)), .val (.int v7), .val (.ref b), .val (.ref a), .val (.double (FP.l2d ((0 : Int64) + p2.toInt64))), .second, .val (.int v12), .val (.int (1 : Int32)), .unset, .unset] at_111 rfl rfl
      replace G := G.iload 115 at_113 rfl rfl
      replace G := G.sipush 118 (200 : Int32) at_115 (by decide) rfl
      replace G := G.icmpT 124 at_118 (XT.ii_lt_t (own_lt (K := 200) rfl (by omega))) (by decide) (by decide)
      replace G := G.iload 126 at_124 rfl rfl
      replace G := G.sipush 129 (300 : Int32) at_126 (by decide) rfl
      replace G := G.icmpT 135 at_129 (XT.ii_lt_t (own_lt (K := 300) rfl (by omega))) (by decide) (by decide)
      replace G := G.iload 137 at_135 rfl rfl
      replace G := G.sipush 140 (400 : Int32) at_137 (by decide) rfl
      replace G := G.icmpT 146 at_140 (XT.ii_lt_t (own_lt (K := 400) rfl (by omega))) (by decide) (by decide)
      replace G := G.lconst0 147 at_146 rfl
      replace G := G.lstore 149 #[.val (.int p0), .val (.int p1), .val (.int p2), .val (.int p3), .val (.int p4), .val (.int p5), .val (.int (2 : Int32)), .val (.int v7), .val (.ref b), .val (.ref a), .val (.double (FP.l2d ((0 : Int64) + p2.toInt64))), .second, .val (.int v12), .val (.int (1 : Int32)), .val (.long (0 : Int64)), .second] at_147 rfl rfl
      replace G := G.iload 151 at_149 rfl rfl
      replace G := G.iconst 152 (1 : Int32) at_151 rfl rfl
      replace G := G.icmpF 155 at_152 (XT.ii_lt_f (by decide)) rfl
      replace G := G.lload 157 at_155 rfl rfl
      replace G := G.iloadN 158 at_157 rfl rfl
      replace G := G.i2l 159 at_158 rfl
      replace G := G.ladd 160 at_159 rfl
      replace G := G.lstore 162 #[.val (.int p0), .val (.int p1), .val (.int p2), .val (.int p3), .val (.int p4), .val (.int p5), .val (.int (2 : Int32)), .val (.int v7), .val (.ref b), .val (.ref a), .val (.double (FP.l2d ((0 : Int64) + p2.toInt64))), .second, .val (.int v12), .val (.int (1 : Int32)), .val (.long ((0 : Int64) + (p2).toInt64)), .second] at_160 rfl rfl
      replace G := G.iload 164 at_162 rfl rfl
      replace G := G.iconst 165 (2 : Int32) at_164 rfl rfl
      replace G := G.icmpT 175 at_165 (XT.ii_lt_t (by decide)) (by decide) (by decide)
      replace G := G.iload 177 at_175 rfl rfl
      replace G := G.iconst 178 (3 : Int32) at_177 rfl rfl
      replace G := G.icmpT 189 at_178 (XT.ii_lt_t (by decide)) (by decide) (by decide)
      replace G := G.iload 191 at_189 rfl rfl
      replace G := G.iconst 192 (4 : Int32) at_191 rfl rfl
      replace G := G.icmpT 203 at_192 (XT.ii_lt_t (by decide)) (by decide) (by decide)
      replace G := G.dload 205 at_203 rfl rfl
      replace G := G.lload 207 at_205 rfl rfl
      replace G := G.l2dS 208 at_207 rfl rfl
      replace G := G.dcmpS 209 at_208 (dcmpV_self (nn_w rfl) _) rfl
      replace G := G.ifF 212 at_209 (XT.i0_ne_f rfl) rfl
      replace G := G.iconst 213 (1 : Int32) at_212 rfl rfl
      replace G := G.goto 217 at_213 (by decide) (by decide)
      exact G.retN hret (Or.inl rfl) hlk at_217 ⟨_, rfl, rfl⟩ (Nat.le_of_ble_eq_true rfl) (Nat.le_of_ble_eq_true rfl)
    · skip
      obtain ⟨vc2, h5, G', Kc2, Qc2⟩ := G.callV 91 (hw _ (List.mem_of_getElem? (i := 15) rfl)) (hw _ (List.mem_of_getElem? (i := 16) rfl)) (nfSel (hw _ (List.mem_of_getElem? (i := 18) rfl))) (hw _ (List.mem_of_getElem? (i := 18) rfl)) (hw _ (List.mem_of_getElem? (i := 17) rfl)) (hw _ (List.mem_of_getElem? (i := 4) rfl)) (hw _ (List.mem_of_getElem? (i := 19) rfl)) Xa (by decide) [(.int v7)] [] rfl (own_sh2_2 l Z a0 hw a b g kb kg p2.toInt64 p3.toInt64 v7 h4 n0 G.n0le F1 F2 Ag Ab (own_idx (N := 2) (K := 2) rfl rfl (by decide) (by decide) q1 q3 k1 k2)) (lenOf pd__I_D rfl) at_88 rfl (Nat.le_of_ble_eq_true rfl) (Nat.le_of_ble_eq_true rfl) (Nat.le_of_ble_eq_true rfl) (Nat.le_of_ble_eq_true rfl) (fun _ q => nomatch q) rfl
      clear G; have G := G'; clear G'
      obtain ⟨wc2, qc2, rfl, rfl⟩ := Qc2
      replace G := G.val qc2
      replace G := G.dstore 93 #[.val (.int p0), .val (.int p1), .val (.int p2), .val (.int p3), .val (.int p4), .val (.int p5), .val (.int (2 : Int32)), .val (.int v7), .val (.ref b), .val (.ref a), .val (.double (FP.l2d (((0 : Int64) + p2.toInt64) + p3.toInt64))), .second, .unset, .unset, .unset, .unset] at_91 rfl rfl
      replace G := G.iload 95 at_93 rfl rfl
      replace G := G.iload 97 at_95 rfl rfl
      replace G := G.imul 98 at_97 rfl
      obtain ⟨v12, e12, G'⟩ := G.nameI
      clear G; have G := G'; clear G'
      have c12 : v12.toInt = (2 : Int) * v7.toInt := by rw [e12]; exact own_sc (N := 2) rfl (by decide) (by decide) q1 q3
      clear e12
      replace G := G.istore 100 #[.val (.int p0), .val (.int p1), .val (.int p2), .val (.int p3), .val (.int p4), .val (.int p5), .val (.int (2 : Int32)), .val (.int v7), .val (.ref b), .val (.ref a), .val (.double (FP.l2d (((0 : Int64) + p2.toInt64) + p3.toInt64))), .second, .val (.int v12), .unset, .unset, .unset] at_98 rfl rfl
      replace G := G.iconst 101 (0 : Int32) at_100 rfl rfl
      replace G := G.istore 103 #[.val (.int p0), .val (.int p1), .val (.int p2), .val (.int p3), .val (.int p4), .val (.int p5), .val (.int (2 : Int32)), .val (.int v7), .val (.ref b), .val (.ref a), .val (.double (FP.l2d (((0 : Int64) + p2.toInt64) + p3.toInt64))), .second, .val (.int v12), .val (.int (0 : Int32)), .unset, .unset] at_101 rfl rfl
      replace G := G.iload 105 at_103 rfl rfl
      replace G := G.bipush 107 (100 : Int32) at_105 (by decide) rfl
      replace G := G.icmpF 110 at_107 (XT.ii_lt_f (own_nlt (K := 100) rfl (by omega))) rfl
      replace G := G.iconst 111 (1 : Int32) at_110 rfl rfl
      replace G := G.istore 113 #[.val (.int p0), .val (.int p1), .val (.int p2), .val (.int p3), .val (.int p4), .val (.int p5), .val (.int (2 : Int32)), .val (.int v7), .val (.ref b), .val (.ref a), .val (.double (FP.l2d (((0 : Int64) + p2.toInt64) + p3.toInt64))), .second, .val (.int v12), .val (.int (1 : Int32)), .unset, .unset] at_111 rfl rfl
      replace G := G.iload 115 at_113 rfl rfl
      replace G := G.sipush 118 (200 : Int32) at_115 (by decide) rfl
      replace G := G.icmpF 121 at_118 (XT.ii_lt_f (own_nlt (K := 200) rfl (by omega))) rfl
      replace G := G.iconst 122 (2 : Int32) at_121 rfl rfl
      replace G := G.istore 124 #[.val (.int p0), .val (.int p1), .val (.int p2), .val (.int p3), .val (.int p4), .val (.int p5), .val (.int (2 : Int32)), .val (.int v7), .val (.ref b), .val (.ref a), .val (.double (FP.l2d (((0 : Int64) + p2.toInt64) + p3.toInt64))), .second, .val (.int v12), .val (.int (2 : Int32)), .unset, .unset] at_122 rfl rfl
      replace G := G.iload 126 at_124 rfl rfl
      replace G := G.sipush 129 (300 : Int32) at_126 (by decide) rfl
      replace G := G.icmpT 135 at_129 (XT.ii_lt_t (own_lt (K := 300) rfl (by omega))) (by decide) (by decide)
      replace G := G.iload 137 at_135 rfl rfl
      replace G := G.sipush 140 (400 : Int32) at_137 (by decide) rfl
      replace G := G.icmpT 146 at_140 (XT.ii_lt_t (own_lt (K := 400) rfl (by omega))) (by decide) (by decide)
      replace G := G.lconst0 147 at_146 rfl
      replace G := G.lstore 149 #[.val (.int p0), .val (.int p1), .val (.int p2), .val (.int p3), .val (.int p4), .val (.int p5), .val (.int (2 : Int32)), .val (.int v7), .val (.ref b), .val (.ref a), .val (.double (FP.l2d (((0 : Int64) + p2.toInt64) + p3.toInt64))), .second, .val (.int v12), .val (.int (2 : Int32)), .val (.long (0 : Int64)), .second] at_147 rfl rfl
      replace G := G.iload 151 at_149 rfl rfl
      replace G := G.iconst 152 (1 : Int32) at_151 rfl rfl
      replace G := G.icmpF 155 at_152 (XT.ii_lt_f (by decide)) rfl
      replace G := G.lload 157 at_155 rfl rfl
      replace G := G.iloadN 158 at_157 rfl rfl
      replace G := G.i2l 159 at_158 rfl
      replace G := G.ladd 160 at_159 rfl
      replace G := G.lstore 162 #[.val (.int p0), .val (.int p1), .val (.int p2), .val (.int p3), .val (.int p4), .val (.int p5), .val (.int (2 : Int32)), .val (.int v7), .val (.ref b), .val (.ref a), .val (.double (FP.l2d (((0 : Int64) + p2.toInt64) + p3.toInt64))), .second, .val (.int v12), .val (.int (2 : Int32)), .val (.long ((0 : Int64) + (p2).toInt64)), .second] at_160 rfl rfl
      replace G := G.iload 164 at_162 rfl rfl
      replace G := G.iconst 165 (2 : Int32) at_164 rfl rfl
      replace G := G.icmpF 168 at_165 (XT.ii_lt_f (by decide)) rfl
      replace G := G.lload 170 at_168 rfl rfl
      replace G := G.iloadN 171 at_170 rfl rfl
      replace G := G.i2l 172 at_171 rfl
      replace G := G.ladd 173 at_172 rfl
      replace G := G.lstore 175 #[.val (.int p0), .val (.int p1), .val (.int p2), .val (.int p3), .val (.int p4), .val (.int p5), .val (.int (2 : Int32)), .val (.int v7), .val (.ref b), .val (.ref a), .val (.double (FP.l2d (((0 : Int64) + p2.toInt64) + p3.toInt64))), .second, .val (.int v12), .val (.int (2 : Int32)), .val (.long (((0 : Int64) + (p2).toInt64) + (p3).toInt64)), .second] at_173 rfl rfl
      replace G := G.iload 177 at_175 rfl rfl
      replace G := G.iconst 178 (3 : Int32) at_177 rfl rfl
      replace G := G.icmpT 189 at_178 (XT.ii_lt_t (by decide)) (by decide) (by decide)
      replace G := G.iload 191 at_189 rfl rfl
      replace G := G.iconst 192 (4 : Int32) at_191 rfl rfl
      replace G := G.icmpT 203 at_192 (XT.ii_lt_t (by decide)) (by decide) (by decide)
      replace G := G.dload 205 at_203 rfl rfl
      replace G := G.lload 207 at_205 rfl rfl
      replace G := G.l2dS 208 at_207 rfl rfl
      replace G := G.dcmpS 209 at_208 (dcmpV_self (nn_w rfl) _) rfl
      replace G := G.ifF 212 at_209 (XT.i0_ne_f rfl) rfl
      replace G := G.iconst 213 (1 : Int32) at_212 rfl rfl
      replace G := G.goto 217 at_213 (by decide) (by decide)
      exact G.retN hret (Or.inl rfl) hlk at_217 ⟨_, rfl, rfl⟩ (Nat.le_of_ble_eq_true rfl) (Nat.le_of_ble_eq_true rfl)
  · skip
    replace G := G.iload 19 at_17 rfl rfl
    obtain ⟨b, h1, kb, G', gb, sb, Eb, Ab⟩ := G.newarray 21 (hw _ (List.mem_of_getElem? (i := 1) rfl)) at_19 (by decide) 4 (Nat.le_of_ble_eq_true rfl) (by decide) rfl (Nat.le_of_ble_eq_true rfl) (Nat.le_of_ble_eq_true rfl)
    clear G; have G := G'; clear G'
    have Ab : Arv Z h1 b kb .double (3 : Int32) [(.double (FP.l2d 0)), (.double (FP.l2d 0)), (.double (FP.l2d 0))] (.double (FP.l2d 0)) := by rw [l2d_zero]; exact Ab.pad (vs' := [(.double 0), (.double 0), (.double 0)]) (pad_rep [] (.double 0) 3)
    have nwb : NW h0 [] b := NW.new sb
    replace G := G.astore 23 #[.val (.int p0), .val (.int p1), .val (.int p2), .val (.int p3), .val (.int p4), .val (.int p5), .val (.int (3 : Int32)), .val (.int v7), .val (.ref b), .unset, .unset, .unset, .unset, .unset, .unset, .unset] at_21 rfl rfl rfl
    replace G := G.iload 25 at_23 rfl rfl
    replace G := G.iconst 26 (1 : Int32) at_25 rfl rfl
    replace G := G.icmpF 29 at_26 (XT.ii_lt_f (by decide)) rfl
    replace G := G.aload 31 at_29 rfl rfl rfl
    replace G := G.iconst 32 (0 : Int32) at_31 rfl rfl
    replace G := G.iloadN 33 at_32 rfl rfl
    replace G := G.i2dS 34 at_33 (i2d_w p2) rfl
    obtain ⟨hs0, G', As0, Ks0⟩ := G.dastore 35 0 Ab (by decide) rfl (Nat.le_of_ble_eq_true rfl) nwb at_34 rfl
    clear G; have G := G'; clear G'
    replace Ab : Arv Z hs0 b kb .double (3 : Int32) [(.double (FP.l2d p2.toInt64)), (.double (FP.l2d 0)), (.double (FP.l2d 0))] (.double (FP.l2d 0)) := As0
    replace G := G.iload 37 at_35 rfl rfl
    replace G := G.iconst 38 (2 : Int32) at_37 rfl rfl
    replace G := G.icmpF 41 at_38 (XT.ii_lt_f (by decide)) rfl
    replace G := G.aload 43 at_41 rfl rfl rfl
    replace G := G.iconst 44 (1 : Int32) at_43 rfl rfl
    replace G := G.iloadN 45 at_44 rfl rfl
    replace G := G.i2dS 46 at_45 (i2d_w p3) rfl
    obtain ⟨hs1, G', As1, Ks1⟩ := G.dastore 47 1 Ab (by decide) rfl (Nat.le_of_ble_eq_true rfl) nwb at_46 rfl
    clear G; have G := G'; clear G'
    replace Ab : Arv Z hs1 b kb .double (3 : Int32) [(.double (FP.l2d p2.toInt64)), (.double (FP.l2d p3.toInt64)), (.double (FP.l2d 0))] (.double (FP.l2d 0)) := As1
    replace G := G.iload 49 at_47 rfl rfl
    replace G := G.iconst 50 (3 : Int32) at_49 rfl rfl
    replace G := G.icmpF 53 at_50 (XT.ii_lt_f (by decide)) rfl
    replace G := G.aload 55 at_53 rfl rfl rfl
    replace G := G.iconst 56 (2 : Int32) at_55 rfl rfl
    replace G := G.iload 58 at_56 rfl rfl
    replace G := G.i2dS 59 at_58 (i2d_w p4) rfl
    obtain ⟨hs2, G', As2, Ks2⟩ := G.dastore 60 2 Ab (by decide) rfl (Nat.le_of_ble_eq_true rfl) nwb at_59 rfl
    clear G; have G := G'; clear G'
    replace Ab : Arv Z hs2 b kb .double (3 : Int32) [(.double (FP.l2d p2.toInt64)), (.double (FP.l2d p3.toInt64)), (.double (FP.l2d p4.toInt64))] (.double (FP.l2d 0)) := As2
    replace G := G.iload 62 at_60 rfl rfl
    replace G := G.iconst 63 (4 : Int32) at_62 rfl rfl
    replace G := G.icmpT 73 at_63 (XT.ii_lt_t (by decide)) (by decide) (by decide)
    obtain ⟨a, h3, G', ga, sa, Ea, Xa, Da, Ua⟩ := G.new 76 (hw _ (List.mem_of_getElem? (i := 2) rfl)) (hw _ (List.mem_of_getElem? (i := 3) rfl)) (hw _ (List.mem_of_getElem? (i := 4) rfl)) at_73 rfl (Nat.le_of_ble_eq_true rfl) (Nat.le_of_ble_eq_true rfl)
    clear G; have G := G'; clear G'
    have F1 := Da (Or.inr (hw _ (List.mem_of_getElem? (i := 12) rfl))) (ty := .array .double) (by decide)
    have F2 := Da (Or.inr (hw _ (List.mem_of_getElem? (i := 14) rfl))) (ty := .array .double) (by decide)
    replace Ab := Ab.ext Ea
    replace G := G.dup 77 at_76 rfl rfl
    replace G := G.aload 79 at_77 rfl rfl rfl
    obtain ⟨vc1, h4, G', Kc1, Qc1⟩ := G.callI 82 rfl (hw _ (List.mem_of_getElem? (i := 5) rfl)) (hw _ (List.mem_of_getElem? (i := 6) rfl)) (hw _ (List.mem_of_getElem? (i := 4) rfl)) (hw _ (List.mem_of_getElem? (i := 7) rfl)) (by decide) [(.ref b)] [(.ref a)] rfl (own_ini3 l Z a0 hw a b kb p2.toInt64 p3.toInt64 p4.toInt64 (Bk.int p2) (Bk.int p3) (Bk.int p4) h3 n0 G.n0le (Nat.le_trans z1 sa) Xa F1 F2 Ab) (lenOf pd___D_V rfl) at_79 rfl (Nat.le_of_ble_eq_true rfl) (Nat.le_of_ble_eq_true rfl) (Nat.le_of_ble_eq_true rfl) (Nat.le_of_ble_eq_true rfl) (allS (Or.inr sa) all0) rfl
    clear G; have G := G'; clear G'
    obtain ⟨qc1, g, kg, F1, F2, Ag, Ab, Xa⟩ := Qc1
    replace G := G.nov qc1
    replace G := G.astore 84 #[.val (.int p0), .val (.int p1), .val (.int p2), .val (.int p3), .val (.int p4), .val (.int p5), .val (.int (3 : Int32)), .val (.int v7), .val (.ref b), .val (.ref a), .unset, .unset, .unset, .unset, .unset, .unset] at_82 rfl rfl rfl
    replace G := G.aload 86 at_84 rfl rfl rfl
    replace G := G.iload 88 at_86 rfl rfl
    have hk : (100 * (0 : Int) ≤ (3 : Int) * v7.toInt ∧ (3 : Int) * v7.toInt < 100 * (0 : Int) + 100) ∨ (100 * (1 : Int) ≤ (3 : Int) * v7.toInt ∧ (3 : Int) * v7.toInt < 100 * (1 : Int) + 100) ∨ (100 * (2 : Int) ≤ (3 : Int) * v7.toInt ∧ (3 : Int) * v7.toInt < 100 * (2 : Int) + 100) ∨ (100 * (3 : Int) ≤ (3 : Int) * v7.toInt ∧ (3 : Int) * v7.toInt < 100 * (3 : Int) + 100) := by omega
    rcases hk with ⟨k1, k2⟩ | ⟨k1, k2⟩ | ⟨k1, k2⟩ | ⟨k1, k2⟩
    · skip
      obtain ⟨vc2, h5, G', Kc2, Qc2⟩ := G.callV 91 (hw _ (List.mem_of_getElem? (i := 15) rfl)) (hw _ (List.mem_of_getElem? (i := 16) rfl)) (nfSel (hw _ (List.mem_of_getElem? (i := 18) rfl))) (hw _ (List.mem_of_getElem? (i := 18) rfl)) (hw _ (List.mem_of_getElem? (i := 17) rfl)) (hw _ (List.mem_of_getElem? (i := 4) rfl)) (hw _ (List.mem_of_getElem? (i := 19) rfl)) Xa (by decide) [(.int v7)] [] rfl (own_sh3_0 l Z a0 hw a b g kb kg p2.toInt64 p3.toInt64 p4.toInt64 v7 h4 n0 G.n0le F1 F2 Ag Ab (own_idx (N := 3) (K := 0) rfl rfl (by decide) (by decide) q1 q3 k1 k2)) (lenOf pd__I_D rfl) at_88 rfl (Nat.le_of_ble_eq_true rfl) (Nat.le_of_ble_eq_true rfl) (Nat.le_of_ble_eq_true rfl) (Nat.le_of_ble_eq_true rfl) (fun _ q => nomatch q) rfl
      clear G; have G := G'; clear G'
      obtain ⟨wc2, qc2, rfl, rfl⟩ := Qc2
      replace G := G.val qc2
      replace G := G.dstore 93 #[.val (.int p0), .val (.int p1), .val (.int p2), .val (.int p3), .val (.int p4), .val (.int p5), .val (.int (3 : Int32)), .val (.int v7), .val (.ref b), .val (.ref a), .val (.double (FP.l2d (0 : Int64))), .second, .unset, .unset, .unset, .unset] at_91 rfl rfl
      replace G := G.iload 95 at_93 rfl rfl
      replace G := G.iload 97 at_95 rfl rfl
      replace G := G.imul 98 at_97 rfl
      obtain ⟨v12, e12, G'⟩ := G.nameI
      clear G; have G := G'; clear G'
      have c12 : v12.toInt = (3 : Int) * v7.toInt := by rw [e12]; exact own_sc (N := 3) rfl (by decide) (by decide) q1 q3
      clear e12
      replace G := G.istore 100 #[.val (.int p0), .val (.int p1), .val (.int p2), .val (.int p3), .val (.int p4), .val (.int p5), .val (.int (3 : Int32)), .val (.int v7), .val (.ref b), .val (.ref a), .val (.double (FP.l2d (0 : Int64))), .second, .val (.int v12), .unset, .unset, .unset] at_98 rfl rfl
      replace G := G.iconst 101 (0 : Int32) at_100 rfl rfl
      replace G := G.istore 103 #[.val (.int p0), .val (.int p1), .val (.int p2), .val (.int p3), .val (.int p4), .val (.int p5), .val (.int (3 : Int32)), .val (.int v7), .val (.ref b), .val (.ref a), .val (.double (FP.l2d (0 : Int64))), .second, .val (.int v12), .val (.int (0 : Int32)), .unset, .unset] at_101 rfl rfl
      replace G := G.iload 105 at_103 rfl rfl
      replace G := G.bipush 107 (100 : Int32) at_105 (by decide) rfl
      replace G := G.icmpT 113 at_107 (XT.ii_lt_t (own_lt (K := 100) rfl (by omega))) (by decide) (by decide)
      replace G := G.iload 115 at_113 rfl rfl
      replace G := G.sipush 118 (200 : Int32) at_115 (by decide) rfl
      replace G := G.icmpT 124 at_118 (XT.ii_lt_t (own_lt (K := 200) rfl (by omega))) (by decide) (by decide)
      replace G := G.iload 126 at_124 rfl rfl
      replace G := G.sipush 129 (300 : Int32) at_126 (by decide) rfl
      replace G := G.icmpT 135 at_129 (XT.ii_lt_t (own_lt (K := 300) rfl (by omega))) (by decide) (by decide)
      replace G := G.iload 137 at_135 rfl rfl
      replace G := G.sipush 140 (400 : Int32) at_137 (by decide) rfl
      replace G := G.icmpT 146 at_140 (XT.ii_lt_t (own_lt (K := 400) rfl (by omega))) (by decide) (by decide)
      replace G := G.lconst0 147 at_146 rfl
      replace G := G.lstore 149 #[.val (.int p0), .val (.int p1), .val (.int p2), .val (.int p3), .val (.int p4), .val (.int p5), .val (.int (3 : Int32)), .val (.int v7), .val (.ref b), .val (.ref a), .val (.double (FP.l2d (0 : Int64))), .second, .val (.int v12), .val (.int (0 : Int32)), .val (.long (0 : Int64)), .second] at_147 rfl rfl
      replace G := G.iload 151 at_149 rfl rfl
      replace G := G.iconst 152 (1 : Int32) at_151 rfl rfl
      replace G := G.icmpT 162 at_152 (XT.ii_lt_t (by decide)) (by decide) (by decide)
      replace G := G.iload 164 at_162 rfl rfl
      replace G := G.iconst 165 (2 : Int32) at_164 rfl rfl
      replace G := G.icmpT 175 at_165 (XT.ii_lt_t (by decide)) (by decide) (by decide)
      replace G := G.iload 177 at_175 rfl rfl
      replace G := G.iconst 178 (3 : Int32) at_177 rfl rfl
      replace G := G.icmpT 189 at_178 (XT.ii_lt_t (by decide)) (by decide) (by decide)
      replace G := G.iload 191 at_189 rfl rfl
      replace G := G.iconst 192 (4 : Int32) at_191 rfl rfl
      replace G := G.icmpT 203 at_192 (XT.ii_lt_t (by decide)) (by decide) (by decide)
      replace G := G.dload 205 at_203 rfl rfl
      replace G := G.lload 207 at_205 rfl rfl
      replace G := G.l2dS 208 at_207 rfl rfl
      replace G := G.dcmpS 209 at_208 (dcmpV_self (nn_w rfl) _) rfl
      replace G := G.ifF 212 at_209 (XT.i0_ne_f rfl) rfl
      replace G := G.iconst 213 (1 : Int32) at_212 rfl rfl
      replace G := G.goto 217 at_213 (by decide) (by decide)
      exact G.retN hret (Or.inl rfl) hlk at_217 ⟨_, rfl, rfl⟩ (Nat.le_of_ble_eq_true rfl) (Nat.le_of_ble_eq_true rfl)
    · skip
      obtain ⟨vc2, h5, G', Kc2, Qc2⟩ := G.callV 91 (hw _ (List.mem_of_getElem? (i := 15) rfl)) (hw _ (List.mem_of_getElem? (i := 16) rfl)) (nfSel (hw _ (List.mem_of_getElem? (i := 18) rfl))) (hw _ (List.mem_of_getElem? (i := 18) rfl)) (hw _ (List.mem_of_getElem? (i := 17) rfl)) (hw _ (List.mem_of_getElem? (i := 4) rfl)) (hw _ (List.mem_of_getElem? (i := 19) rfl)) Xa (by decide) [(.int v7)] [] rfl (own_sh3_1 l Z a0 hw a b g kb kg p2.toInt64 p3.toInt64 p4.toInt64 v7 h4 n0 G.n0le F1 F2 Ag Ab (own_idx (N := 3) (K := 1) rfl rfl (by decide) (by decide) q1 q3 k1 k2)) (lenOf pd__I_D rfl) at_88 rfl (Nat.le_of_ble_eq_true rfl) (Nat.le_of_ble_eq_true rfl) (Nat.le_of_ble_eq_true rfl) (Nat.le_of_ble_eq_true rfl) (fun _ q => nomatch q) rfl
      clear G; have G := G'; clear G'
      obtain ⟨wc2, qc2, rfl, rfl⟩ := Qc2
      replace G := G.val qc2
      replace G := G.dstore 93 #[.val (.int p0), .val (.int p1), .val (.int p2), .val (.int p3), .val (.int p4), .val (.int p5), .val (.int (3 : Int32)), .val (.int v7), .val (.ref b), .val (.ref a), .val (.double (FP.l2d ((0 : Int64) + p2.toInt64))), .second, .unset, .unset, .unset, .unset] at_91 rfl rfl
      replace G := G.iload 95 at_93 rfl rfl
      replace G := G.iload 97 at_95 rfl rfl
      replace G := G.imul 98 at_97 rfl
      obtain ⟨v12, e12, G'⟩ := G.nameI
      clear G; have G := G'; clear G'
      have c12 : v12.toInt = (3 : Int) * v7.toInt := by rw [e12]; exact own_sc (N := 3) rfl (by decide) (by decide) q1 q3
      clear e12
      replace G := G.istore 100 #[.val (.int p0), .val (.int p1), .val (.int p2), .val (.int p3), .val (.int p4), .val (.int p5), .val (.int (3 : Int32)), .val (.int v7), .val (.ref b), .val (.ref a), .val (.double (FP.l2d ((0 : Int64) + p2.toInt64))), .second, .val (.int v12), .unset, .unset, .unset] at_98 rfl rfl
      replace G := G.iconst 101 (0 : Int32) at_100 rfl rfl
      replace G := G.istore 103 #[.val (.int p0), .val (.int p1), .val (.int p2), .val (.int p3), .val (.int p4), .val (.int p5), .val (.int (3 : Int32)), .val (.int v7), .val (.ref b), .val (.ref a), .val (.double (FP.l2d ((0 : Int64) + p2.toInt64))), .second, .val (.int v12), .val (.int (0 : Int32)), .unset, .unset] at_101 rfl rfl
      replace G := G.iload 105 at_103 rfl rfl
      replace G := G.bipush 107 (100 : Int32) at_105 (by decide) rfl
      replace G := G.icmpF 110 at_107 (XT.ii_lt_f (own_nlt (K := 100) rfl (by omega))) rfl
      replace G := G.iconst 111 (1 : Int32) at_110 rfl rfl
      replace G := G.istore 113 #[.val (.int p0), .val (.int p1), .val (.int p2), .val (.int p3), .val (.int p4), .val (.int p5), .val (.int (3 : Int32)), .val (.int v7), .val (.ref b), .val (.ref a), .val (.double (FP.l2d ((0 : Int64) + p2.toInt64))), .second, .val (.int v12), .val (.int (1 : Int32)), .unset, .unset] at_111 rfl rfl
      replace G := G.iload 115 at_113 rfl rfl
      replace G := G.sipush 118 (200 : Int32) at_115 (by decide) rfl
      replace G := G.icmpT 124 at_118 (XT.ii_lt_t (own_lt (K := 200) rfl (by omega))) (by decide) (by decide)
      replace G := G.iload 126 at_124 rfl rfl
      replace G := G.sipush 129 (300 : Int32) at_126 (by decide) rfl
      replace G := G.icmpT 135 at_129 (XT.ii_lt_t (own_lt (K := 300) rfl (by omega))) (by decide) (by decide)
      replace G := G.iload 137 at_135 rfl rfl
      replace G := G.sipush 140 (400 : Int32) at_137 (by decide) rfl
      replace G := G.icmpT 146 at_140 (XT.ii_lt_t (own_lt (K := 400) rfl (by omega))) (by decide) (by decide)
      replace G := G.lconst0 147 at_146 rfl
      replace G := G.lstore 149 #[.val (.int p0), .val (.int p1), .val (.int p2), .val (.int p3), .val (.int p4), .val (.int p5), .val (.int (3 : Int32)), .val (.int v7), .val (.ref b), .val (.ref a), .val (.double (FP.l2d ((0 : Int64) + p2.toInt64))), .second, .val (.int v12), .val (.int (1 : Int32)), .val (.long (0 : Int64)), .second] at_147 rfl rfl
      replace G := G.iload 151 at_149 rfl rfl
      replace G := G.iconst 152 (1 : Int32) at_151 rfl rfl
      replace G := G.icmpF 155 at_152 (XT.ii_lt_f (by decide)) rfl
      replace G := G.lload 157 at_155 rfl rfl
      replace G := G.iloadN 158 at_157 rfl rfl
      replace G := G.i2l 159 at_158 rfl
      replace G := G.ladd 160 at_159 rfl
      replace G := G.lstore 162 #[.val (.int p0), .val (.int p1), .val (.int p2), .val (.int p3), .val (.int p4), .val (.int p5), .val (.int (3 : Int32)), .val (.int v7), .val (.ref b), .val (.ref a), .val (.double (FP.l2d ((0 : Int64) + p2.toInt64))), .second, .val (.int v12), .val (.int (1 : Int32)), .val (.long ((0 : Int64) + (p2).toInt64)), .second] at_160 rfl rfl
      replace G := G.iload 164 at_162 rfl rfl
      replace G := G.iconst 165 (2 : Int32) at_164 rfl rfl
      replace G := G.icmpT 175 at_165 (XT.ii_lt_t (by decide)) (by decide) (by decide)
      replace G := G.iload 177 at_175 rfl rfl
      replace G := G.iconst 178 (3 : Int32) at_177 rfl rfl
      replace G := G.icmpT 189 at_178 (XT.ii_lt_t (by decide)) (by decide) (by decide)
      replace G := G.iload 191 at_189 rfl rfl
      replace G := G.iconst 192 (4 : Int32) at_191 rfl rfl
      replace G := G.icmpT 203 at_192 (XT.ii_lt_t (by decide)) (by decide) (by decide)
      replace G := G.dload 205 at_203 rfl rfl
      replace G := G.lload 207 at_205 rfl rfl
      replace G := G.l2dS 208 at_207 rfl rfl
      replace G := G.dcmpS 209 at_208 (dcmpV_self (nn_w rfl) _) rfl
      replace G := G.ifF 212 at_209 (XT.i0_ne_f rfl) rfl
      replace G := G.iconst 213 (1 : Int32) at_212 rfl rfl
      replace G := G.goto 217 at_213 (by decide) (by decide)
      exact G.retN hret (Or.inl rfl) hlk at_217 ⟨_, rfl, rfl⟩ (Nat.le_of_ble_eq_true rfl) (Nat.le_of_ble_eq_true rfl)
    · skip
      obtain ⟨vc2, h5, G', Kc2, Qc2⟩ := G.callV 91 (hw _ (List.mem_of_getElem? (i := 15) rfl)) (hw _ (List.mem_of_getElem? (i := 16) rfl)) (nfSel (hw _ (List.mem_of_getElem? (i := 18) rfl))) (hw _ (List.mem_of_getElem? (i := 18) rfl)) (hw _ (List.mem_of_getElem? (i := 17) rfl)) (hw _ (List.mem_of_getElem? (i := 4) rfl)) (hw _ (List.mem_of_getElem? (i := 19) rfl)) Xa (by decide) [(.int v7)] [] rfl (own_sh3_2 l Z a0 hw a b g kb kg p2.toInt64 p3.toInt64 p4.toInt64 v7 h4 n0 G.n0le F1 F2 Ag Ab (own_idx (N := 3) (K := 2) rfl rfl (by decide) (by decide) q1 q3 k1 k2)) (lenOf pd__I_D rfl) at_88 rfl (Nat.le_of_ble_eq_true rfl) (Nat.le_of_ble_eq_true rfl) (Nat.le_of_ble_eq_true rfl) (Nat.le_of_ble_eq_true rfl) (fun _ q => nomatch q) rfl
      clear G; have G := G'; clear G'
      obtain ⟨wc2, qc2, rfl, rfl⟩ := Qc2
      replace G := G.val qc2
      replace G := G.dstore 93 #[.val (.int p0), .val (.int p1), .val (.int p2), .val (.int p3), .val (.int p4), .val (.int p5), .val (.int (3 : Int32)), .val (.int v7), .val (.ref b), .val (.ref a), .val (.double (FP.l2d (((0 : Int64) + p2.toInt64) + p3.toInt64))), .second, .unset, .unset, .unset, .unset] at_91 rfl rfl
      replace G := G.iload 95 at_93 rfl rfl
      replace G := G.iload 97 at_95 rfl rfl
      replace G := G.imul 98 at_97 rfl
      obtain ⟨v12, e12, G'⟩ := G.nameI
      clear G; have G := G'; clear G'
      have c12 : v12.toInt = (3 : Int) * v7.toInt := by rw [e12]; exact own_sc (N := 3) rfl (by decide) (by decide) q1 q3
      clear e12
      replace G := G.istore 100 #[.val (.int p0), .val (.int p1), .val (.int p2), .val (.int p3), .val (.int p4), .val (.int p5), .val (.int (3 : Int32)), .val (.int v7), .val (.ref b), .val (.ref a), .val (.double (FP.l2d (((0 : Int64) + p2.toInt64) + p3.toInt64))), .second, .val (.int v12), .unset, .unset, .unset] at_98 rfl rfl
      replace G := G.iconst 101 (0 : Int32) at_100 rfl rfl
      replace G := G.istore 103 #[.val (.int p0), .val (.int p1), .val (.int p2), .val (.int p3), .val (.int p4), .val (.int p5), .val (.int (3 : Int32)), .val (.int v7), .val (.ref b), .val (.ref a), .val (.double (FP.l2d (((0 : Int64) + p2.toInt64) + p3.toInt64))), .second, .val (.int v12), .val (.int (0 : Int32)), .unset, .unset] at_101 rfl rfl
      replace G := G.iload 105 at_103 rfl rfl
      replace G := G.bipush 107 (100 : Int32) at_105 (by decide) rfl
      replace G := G.icmpF 110 at_107 (XT.ii_lt_f (own_nlt (K := 100) rfl (by omega))) rfl
      replace G := G.iconst 111 (1 : Int32) at_110 rfl rfl
      replace G := G.istore 113 #[.val (.int p0), .val (.int p1), .val (.int p2), .val (.int p3), .val (.int p4), .val (.int p5), .val (.int (3 : Int32)), .val (.int v7), .val (.ref b), .val (.ref a), .val (.double (FP.l2d (((0 : Int64) + p2.toInt64) + p3.toInt64))), .second, .val (.int v12), .val (.int (1 : Int32)), .unset, .unset] at_111 rfl rfl
      replace G := G.iload 115 at_113 rfl rfl
      replace G := G.sipush 118 (200 : Int32) at_115 (by decide) rfl
      replace G := G.icmpF 121 at_118 (XT.ii_lt_f (own_nlt (K := 200) rfl (by omega))) rfl
      replace G := G.iconst 122 (2 : Int32) at_121 rfl rfl
      replace G := G.istore 124 #[.val (.int p0), .val (.int p1), .val (.int p2), .val (.int p3), .val (.int p4), .val (.int p5), .val (.int (3 : Int32)), .val (.int v7), .val (.ref b), .val (.ref a), .val (.double (FP.l2d (((0 : Int64) + p2.toInt64) + p3.toInt64))), .second, .val (.int v12), .val (.int (2 : Int32)), .unset, .unset] at_122 rfl rfl
      replace G := G.iload 126 at_124 rfl rfl
      replace G := G.sipush 129 (300 : Int32) at_126 (by decide) rfl
      replace G := G.icmpT 135 at_129 (XT.ii_lt_t (own_lt (K := 300) rfl (by omega))) (by decide) (by decide)
      replace G := G.iload 137 at_135 rfl rfl
      replace G := G.sipush 140 (400 : Int32) at_137 (by decide) rfl
      replace G := G.icmpT 146 at_140 (XT.ii_lt_t (own_lt (K := 400) rfl (by omega))) (by decide) (by decide)
      replace G := G.lconst0 147 at_146 rfl
      replace G := G.lstore 149 #[.val (.int p0), .val (.int p1), .val (.int p2), .val (.int p3), .val (.int p4), .val (.int p5), .val (.int (3 : Int32)), .val (.int v7), .val (.ref b), .val (.ref a), .val (.double (FP.l2d (((0 : Int64) + p2.toInt64) + p3.toInt64))), .second, .val (.int v12), .val (.int (2 : Int32)), .val (.long (0 : Int64)), .second] at_147 rfl rfl
      replace G := G.iload 151 at_149 rfl rfl
      replace G := G.iconst 152 (1 : Int32) at_151 rfl rfl
      replace G := G.icmpF 155 at_152 (XT.ii_lt_f (by decide)) rfl
      replace G := G.lload 157 at_155 rfl rfl
      replace G := G.iloadN 158 at_157 rfl rfl
      replace G := G.i2l 159 at_158 rfl
      replace G := G.ladd 160 at_159 rfl
      replace G := G.lstore 162 #[.val (.int p0), .val (.int p1), .val (.int p2), .val (.int p3), .val (.int p4), .val (.int p5), .val (.int (3 : Int32)), .val (.int v7), .val (.ref b), .val (.ref a), .val (.double (FP.l2d (((0 : Int64) + p2.toInt64) + p3.toInt64))), .second, .val (.int v12), .val (.int (2 : Int32)), .val (.long ((0 : Int64) + (p2).toInt64)), .second] at_160 rfl rfl
      replace G := G.iload 164 at_162 rfl rfl
      replace G := G.iconst 165 (2 : Int32) at_164 rfl rfl
      replace G := G.icmpF 168 at_165 (XT.ii_lt_f (by decide)) rfl
      replace G := G.lload 170 at_168 rfl rfl
      replace G := G.iloadN 171 at_170 rfl rfl
      replace G := G.i2l 172 at_171 rfl
      replace G := G.ladd 173 at_172 rfl
      replace G := G.lstore 175 #[.val (.int p0), .val (.int p1), .val (.int p2), .val (.int p3), .val (.int p4), .val (.int p5), .val (.int (3 : Int32)), .val (.int v7), .val (.ref b), .val (.ref a), .val (.double (FP.l2d (((0 : Int64) + p2.toInt64) + p3.toInt64))), .second, .val (.int v12), .val (.int (2 : Int32)), .val (.long (((0 : Int64) + (p2).toInt64) + (p3).toInt64)), .second] at_173 rfl rfl
      replace G := G.iload 177 at_175 rfl rfl
      replace G := G.iconst 178 (3 : Int32) at_177 rfl rfl
      replace G := G.icmpT 189 at_178 (XT.ii_lt_t (by decide)) (by decide) (by decide)
      replace G := G.iload 191 at_189 rfl rfl
      replace G := G.iconst 192 (4 : Int32) at_191 rfl rfl
      replace G := G.icmpT 203 at_192 (XT.ii_lt_t (by decide)) (by decide) (by decide)
      replace G := G.dload 205 at_203 rfl rfl
      replace G := G.lload 207 at_205 rfl rfl
      replace G := G.l2dS 208 at_207 rfl rfl
      replace G := G.dcmpS 209 at_208 (dcmpV_self (nn_w rfl) _) rfl
      replace G := G.ifF 212 at_209 (XT.i0_ne_f rfl) rfl
      replace G := G.iconst 213 (1 : Int32) at_212 rfl rfl
      replace G := G.goto 217 at_213 (by decide) (by decide)
      exact G.retN hret (Or.inl rfl) hlk at_217 ⟨_, rfl, rfl⟩ (Nat.le_of_ble_eq_true rfl) (Nat.le_of_ble_eq_true rfl)
    · skip
      obtain ⟨vc2, h5, G', Kc2, Qc2⟩ := G.callV 91 (hw _ (List.mem_of_getElem? (i := 15) rfl)) (hw _ (List.mem_of_getElem? (i := 16) rfl)) (nfSel (hw _ (List.mem_of_getElem? (i := 18) rfl))) (hw _ (List.mem_of_getElem? (i := 18) rfl)) (hw _ (List.mem_of_getElem? (i := 17) rfl)) (hw _ (List.mem_of_getElem? (i := 4) rfl)) (hw _ (List.mem_of_getElem? (i := 19) rfl)) Xa (by decide) [(.int v7)] [] rfl (own_sh3_3 l Z a0 hw a b g kb kg p2.toInt64 p3.toInt64 p4.toInt64 v7 h4 n0 G.n0le F1 F2 Ag Ab (own_idx (N := 3) (K := 3) rfl rfl (by decide) (by decide) q1 q3 k1 k2)) (lenOf pd__I_D rfl) at_88 rfl (Nat.le_of_ble_eq_true rfl) (Nat.le_of_ble_eq_true rfl) (Nat.le_of_ble_eq_true rfl) (Nat.le_of_ble_eq_true rfl) (fun _ q => nomatch q) rfl
      clear G; have G := G'; clear G'
      obtain ⟨wc2, qc2, rfl, rfl⟩ := Qc2
      replace G := G.val qc2
      replace G := G.dstore 93 #[.val (.int p0), .val (.int p1), .val (.int p2), .val (.int p3), .val (.int p4), .val (.int p5), .val (.int (3 : Int32)), .val (.int v7), .val (.ref b), .val (.ref a), .val (.double (FP.l2d ((((0 : Int64) + p2.toInt64) + p3.toInt64) + p4.toInt64))), .second, .unset, .unset, .unset, .unset] at_91 rfl rfl
      replace G := G.iload 95 at_93 rfl rfl
      replace G := G.iload 97 at_95 rfl rfl
      replace G := G.imul 98 at_97 rfl
      obtain ⟨v12, e12, G'⟩ := G.nameI
      clear G; have G := G'; clear G'
      have c12 : v12.toInt = (3 : Int) * v7.toInt := by rw [e12]; exact own_sc (N := 3) rfl (by decide) (by decide) q1 q3
      clear e12
      replace G := G.istore 100 #[.val (.int p0), .val (.int p1), .val (.int p2), .val (.int p3), .val (.int p4), .val (.int p5), .val (.int (3 : Int32)), .val (.int v7), .val (.ref b), .val (.ref a), .val (.double (FP.l2d ((((0 : Int64) + p2.toInt64) + p3.toInt64) + p4.toInt64))), .second, .val (.int v12), .unset, .unset, .unset] at_98 rfl rfl
      replace G := G.iconst 101 (0 : Int32) at_100 rfl rfl
      replace G := G.istore 103 #[.val (.int p0), .val (.int p1), .val (.int p2), .val (.int p3), .val (.int p4), .val (.int p5), .val (.int (3 : Int32)), .val (.int v7), .val (.ref b), .val (.ref a), .val (.double (FP.l2d ((((0 : Int64) + p2.toInt64) + p3.toInt64) + p4.toInt64))), .second, .val (.int v12), .val (.int (0 : Int32)), .unset, .unset] at_101 rfl rfl
      replace G := G.iload 105 at_103 rfl rfl
      replace G := G.bipush 107 (100 : Int32) at_105 (by decide) rfl
      replace G := G.icmpF 110 at_107 (XT.ii_lt_f (own_nlt (K := 100) rfl (by omega))) rfl
      replace G := G.iconst 111 (1 : Int32) at_110 rfl rfl
      replace G := G.istore 113 #[.val (.int p0), .val (.int p1), .val (.int p2), .val (.int p3), .val (.int p4), .val (.int p5), .val (.int (3 : Int32)), .val (.int v7), .val (.ref b), .val (.ref a), .val (.double (FP.l2d ((((0 : Int64) + p2.toInt64) + p3.toInt64) + p4.toInt64))), .second, .val (.int v12), .val (.int (1 : Int32)), .unset, .unset] at_111 rfl rfl
      replace G := G.iload 115 at_113 rfl rfl
      replace G := G.sipush 118 (200 : Int32) at_115 (by decide) rfl
      replace G := G.icmpF 121 at_118 (XT.ii_lt_f (own_nlt (K := 200) rfl (by omega))) rfl
      replace G := G.iconst 122 (2 : Int32) at_121 rfl rfl
      replace G := G.istore 124 #[.val (.int p0), .val (.int p1), .val (.int p2), .val (.int p3), .val (.int p4), .val (.int p5), .val (.int (3 : Int32)), .val (.int v7), .val (.ref b), .val (.ref a), .val (.double (FP.l2d ((((0 : Int64) + p2.toInt64) + p3.toInt64) + p4.toInt64))), .second, .val (.int v12), .val (.int (2 : Int32)), .unset, .unset] at_122 rfl rfl
      replace G := G.iload 126 at_124 rfl rfl
      replace G := G.sipush 129 (300 : Int32) at_126 (by decide) rfl
      replace G := G.icmpF 132 at_129 (XT.ii_lt_f (own_nlt (K := 300) rfl (by omega))) rfl
      replace G := G.iconst 133 (3 : Int32) at_132 rfl rfl
      replace G := G.istore 135 #[.val (.int p0), .val (.int p1), .val (.int p2), .val (.int p3), .val (.int p4), .val (.int p5), .val (.int (3 : Int32)), .val (.int v7), .val (.ref b), .val (.ref a), .val (.double (FP.l2d ((((0 : Int64) + p2.toInt64) + p3.toInt64) + p4.toInt64))), .second, .val (.int v12), .val (.int (3 : Int32)), .unset, .unset] at_133 rfl rfl
      replace G := G.iload 137 at_135 rfl rfl
      replace G := G.sipush 140 (400 : Int32) at_137 (by decide) rfl
      replace G := G.icmpT 146 at_140 (XT.ii_lt_t (own_lt (K := 400) rfl (by omega))) (by decide) (by decide)
      replace G := G.lconst0 147 at_146 rfl
      replace G := G.lstore 149 #[.val (.int p0), .val (.int p1), .val (.int p2), .val (.int p3), .val (.int p4), .val (.int p5), .val (.int (3 : Int32)), .val (.int v7), .val (.ref b), .val (.ref a), .val (.double (FP.l2d ((((0 : Int64) + p2.toInt64) + p3.toInt64) + p4.toInt64))), .second, .val (.int v12), .val (.int (3 : Int32)), .val (.long (0 : Int64)), .second] at_147 rfl rfl
      replace G := G.iload 151 at_149 rfl rfl
      replace G := G.iconst 152 (1 : Int32) at_151 rfl rfl
      replace G := G.icmpF 155 at_152 (XT.ii_lt_f (by decide)) rfl
      replace G := G.lload 157 at_155 rfl rfl
      replace G := G.iloadN 158 at_157 rfl rfl
      replace G := G.i2l 159 at_158 rfl
      replace G := G.ladd 160 at_159 rfl
      replace G := G.lstore 162 #[.val (.int p0), .val (.int p1), .val (.int p2), .val (.int p3), .val (.int p4), .val (.int p5), .val (.int (3 : Int32)), .val (.int v7), .val (.ref b), .val (.ref a), .val (.double (FP.l2d ((((0 : Int64) + p2.toInt64) + p3.toInt64) + p4.toInt64))), .second, .val (.int v12), .val (.int (3 : Int32)), .val (.long ((0 : Int64) + (p2).toInt64)), .second] at_160 rfl rfl
      replace G := G.iload 164 at_162 rfl rfl
      replace G := G.iconst 165 (2 : Int32) at_164 rfl rfl
      replace G := G.icmpF 168 at_165 (XT.ii_lt_f (by decide)) rfl
      replace G := G.lload 170 at_168 rfl rfl
      replace G := G.iloadN 171 at_170 rfl rfl
      replace G := G.i2l 172 at_171 rfl
      replace G := G.ladd 173 at_172 rfl
      replace G := G.lstore 175 #[.val (.int p0), .val (.int p1), .val (.int p2), .val (.int p3), .val (.int p4), .val (.int p5), .val (.int (3 : Int32)), .val (.int v7), .val (.ref b), .val (.ref a), .val (.double (FP.l2d ((((0 : Int64) + p2.toInt64) + p3.toInt64) + p4.toInt64))), .second, .val (.int v12), .val (.int (3 : Int32)), .val (.long (((0 : Int64) + (p2).toInt64) + (p3).toInt64)), .second] at_173 rfl rfl
      replace G := G.iload 177 at_175 rfl rfl
      replace G := G.iconst 178 (3 : Int32) at_177 rfl rfl
      replace G := G.icmpF 181 at_178 (XT.ii_lt_f (by decide)) rfl
      replace G := G.lload 183 at_181 rfl rfl
      replace G := G.iload 185 at_183 rfl rfl
      replace G := G.i2l 186 at_185 rfl
      replace G := G.ladd 187 at_186 rfl
      replace G := G.lstore 189 #[.val (.int p0), .val (.int p1), .val (.int p2), .val (.int p3), .val (.int p4), .val (.int p5), .val (.int (3 : Int32)), .val (.int v7), .val (.ref b), .val (.ref a), .val (.double (FP.l2d ((((0 : Int64) + p2.toInt64) + p3.toInt64) + p4.toInt64))), .second, .val (.int v12), .val (.int (3 : Int32)), .val (.long ((((0 : Int64) + (p2).toInt64) + (p3).toInt64) + (p4).toInt64)), .second] at_187 rfl rfl
      replace G := G.iload 191 at_189 rfl rfl
      replace G := G.iconst 192 (4 : Int32) at_191 rfl rfl
      replace G := G.icmpT 203 at_192 (XT.ii_lt_t (by decide)) (by decide) (by decide)
      replace G := G.dload 205 at_203 rfl rfl
      replace G := G.lload 207 at_205 rfl rfl
      replace G := G.l2dS 208 at_207 rfl rfl
      replace G := G.dcmpS 209 at_208 (dcmpV_self (nn_w rfl) _) rfl
      replace G := G.ifF 212 at_209 (XT.i0_ne_f rfl) rfl
      replace G := G.iconst 213 (1 : Int32) at_212 rfl rfl
      replace G := G.goto 217 at_213 (by decide) (by decide)
      exact G.retN hret (Or.inl rfl) hlk at_217 ⟨_, rfl, rfl⟩ (Nat.le_of_ble_eq_true rfl) (Nat.le_of_ble_eq_true rfl)
  · skip
    replace G := G.iload 19 at_17 rfl rfl
    obtain ⟨b, h1, kb, G', gb, sb, Eb, Ab⟩ := G.newarray 21 (hw _ (List.mem_of_getElem? (i := 1) rfl)) at_19 (by decide) 4 (Nat.le_of_ble_eq_true rfl) (by decide) rfl (Nat.le_of_ble_eq_true rfl) (Nat.le_of_ble_eq_true rfl)
    clear G; have G := G'; clear G'
    have Ab : Arv Z h1 b kb .double (4 : Int32) [(.double (FP.l2d 0)), (.double (FP.l2d 0)), (.double (FP.l2d 0)), (.double (FP.l2d 0))] (.double (FP.l2d 0)) := by rw [l2d_zero]; exact Ab.pad (vs' := [(.double 0), (.double 0), (.double 0), (.double 0)]) (pad_rep [] (.double 0) 4)
    have nwb : NW h0 [] b := NW.new sb
    replace G := G.astore 23 #[.val (.int p0), .val (.int p1), .val (.int p2), .val (.int p3), .val (.int p4), .val (.int p5), .val (.int (4 : Int32)), .val (.int v7), .val (.ref b), .unset, .unset, .unset, .unset, .unset, .unset, .unset] at_21 rfl rfl rfl
    replace G := G.iload 25 at_23 rfl rfl
    replace G := G.iconst 26 (1 : Int32) at_25 rfl rfl
    replace G := G.icmpF 29 at_26 (XT.ii_lt_f (by decide)) rfl
    replace G := G.aload 31 at_29 rfl rfl rfl
    replace G := G.iconst 32 (0 : Int32) at_31 rfl rfl
    replace G := G.iloadN 33 at_32 rfl rfl
    replace G := G.i2dS 34 at_33 (i2d_w p2) rfl
    obtain ⟨hs0, G', As0, Ks0⟩ := G.dastore 35 0 Ab (by decide) rfl (Nat.le_of_ble_eq_true rfl) nwb at_34 rfl
    clear G; have G := G'; clear G'
    replace Ab : Arv Z hs0 b kb .double (4 : Int32) [(.double (FP.l2d p2.toInt64)), (.double (FP.l2d 0)), (.double (FP.l2d 0)), (.double (FP.l2d 0))] (.double (FP.l2d 0)) := As0
    replace G := G.iload 37 at_35 rfl rfl
    replace G := G.iconst 38 (2 : Int32) at_37 rfl rfl
    replace G := G.icmpF 41 at_38 (XT.ii_lt_f (by decide)) rfl
    replace G := G.aload 43 at_41 rfl rfl rfl
    replace G := G.iconst 44 (1 : Int32) at_43 rfl rfl
    replace G := G.iloadN 45 at_44 rfl rfl
    replace G := G.i2dS 46 at_45 (i2d_w p3) rfl
    obtain ⟨hs1, G', As1, Ks1⟩ := G.dastore 47 1 Ab (by decide) rfl (Nat.le_of_ble_eq_true rfl) nwb at_46 rfl
    clear G; have G := G'; clear G'
    replace Ab : Arv Z hs1 b kb .double (4 : Int32) [(.double (FP.l2d p2.toInt64)), (.double (FP.l2d p3.toInt64)), (.double (FP.l2d 0)), (.double (FP.l2d 0))] (.double (FP.l2d 0)) := As1
    replace G := G.iload 49 at_47 rfl rfl
    replace G := G.iconst 50 (3 : Int32) at_49 rfl rfl
    replace G := G.icmpF 53 at_50 (XT.ii_lt_f (by decide)) rfl
    replace G := G.aload 55 at_53 rfl rfl rfl
    replace G := G.iconst 56 (2 : Int32) at_55 rfl rfl
    replace G := G.iload 58 at_56 rfl rfl
    replace G := G.i2dS 59 at_58 (i2d_w p4) rfl
    obtain ⟨hs2, G', As2, Ks2⟩ := G.dastore 60 2 Ab (by decide) rfl (Nat.le_of_ble_eq_true rfl) nwb at_59 rfl
    clear G; have G := G'; clear G'
    replace Ab : Arv Z hs2 b kb .double (4 : Int32) [(.double (FP.l2d p2.toInt64)), (.double (FP.l2d p3.toInt64)), (.double (FP.l2d p4.toInt64)), (.double (FP.l2d 0))] (.double (FP.l2d 0)) := As2
    replace G := G.iload 62 at_60 rfl rfl
    replace G := G.iconst 63 (4 : Int32) at_62 rfl rfl
    replace G := G.icmpF 66 at_63 (XT.ii_lt_f (by decide)) rfl
    replace G := G.aload 68 at_66 rfl rfl rfl
    replace G := G.iconst 69 (3 : Int32) at_68 rfl rfl
    replace G := G.iload 71 at_69 rfl rfl
    replace G := G.i2dS 72 at_71 (i2d_w p5) rfl
    obtain ⟨hs3, G', As3, Ks3⟩ := G.dastore 73 3 Ab (by decide) rfl (Nat.le_of_ble_eq_true rfl) nwb at_72 rfl
    clear G; have G := G'; clear G'
    replace Ab : Arv Z hs3 b kb .double (4 : Int32) [(.double (FP.l2d p2.toInt64)), (.double (FP.l2d p3.toInt64)), (.double (FP.l2d p4.toInt64)), (.double (FP.l2d p5.toInt64))] (.double (FP.l2d 0)) := As3
    obtain ⟨a, h3, G', ga, sa, Ea, Xa, Da, Ua⟩ := G.new 76 (hw _ (List.mem_of_getElem? (i := 2) rfl)) (hw _ (List.mem_of_getElem? (i := 3) rfl)) (hw _ (List.mem_of_getElem? (i := 4) rfl)) at_73 rfl (Nat.le_of_ble_eq_true rfl) (Nat.le_of_ble_eq_true rfl)
    clear G; have G := G'; clear G'
    have F1 := Da (Or.inr (hw _ (List.mem_of_getElem? (i := 12) rfl))) (ty := .array .double) (by decide)
    have F2 := Da (Or.inr (hw _ (List.mem_of_getElem? (i := 14) rfl))) (ty := .array .double) (by decide)
    replace Ab := Ab.ext Ea
    replace G := G.dup 77 at_76 rfl rfl
    replace G := G.aload 79 at_77 rfl rfl rfl
    obtain ⟨vc1, h4, G', Kc1, Qc1⟩ := G.callI 82 rfl (hw _ (List.mem_of_getElem? (i := 5) rfl)) (hw _ (List.mem_of_getElem? (i := 6) rfl)) (hw _ (List.mem_of_getElem? (i := 4) rfl)) (hw _ (List.mem_of_getElem? (i := 7) rfl)) (by decide) [(.ref b)] [(.ref a)] rfl (own_ini4 l Z a0 hw a b kb p2.toInt64 p3.toInt64 p4.toInt64 p5.toInt64 (Bk.int p2) (Bk.int p3) (Bk.int p4) (Bk.int p5) h3 n0 G.n0le (Nat.le_trans z1 sa) Xa F1 F2 Ab) (lenOf pd___D_V rfl) at_79 rfl (Nat.le_of_ble_eq_true rfl) (Nat.le_of_ble_eq_true rfl) (Nat.le_of_ble_eq_true rfl) (Nat.le_of_ble_eq_true rfl) (allS (Or.inr sa) all0) rfl
    clear G; have G := G'; clear G'
    obtain ⟨qc1, g, kg, F1, F2, Ag, Ab, Xa⟩ := Qc1
    replace G := G.nov qc1
    replace G := G.astore 84 #[.val (.int p0), .val (.int p1), .val (.int p2), .val (.int p3), .val (.int p4), .val (.int p5), .val (.int (4 : Int32)), .val (.int v7), .val (.ref b), .val (.ref a), .unset, .unset, .unset, .unset, .unset, .unset] at_82 rfl rfl rfl
    replace G := G.aload 86 at_84 rfl rfl rfl
    replace G := G.iload 88 at_86 rfl rfl
    have hk : (100 * (0 : Int) ≤ (4 : Int) * v7.toInt ∧ (4 : Int) * v7.toInt < 100 * (0 : Int) + 100) ∨ (100 * (1 : Int) ≤ (4 : Int) * v7.toInt ∧ (4 : Int) * v7.toInt < 100 * (1 : Int) + 100) ∨ (100 * (2 : Int) ≤ (4 : Int) * v7.toInt ∧ (4 : Int) * v7.toInt < 100 * (2 : Int) + 100) ∨ (100 * (3 : Int) ≤ (4 : Int) * v7.toInt ∧ (4 : Int) * v7.toInt < 100 * (3 : Int) + 100) ∨ (100 * (4 : Int) ≤ (4 : Int) * v7.toInt ∧ (4 : Int) * v7.toInt < 100 * (4 : Int) + 100) := by omega
    rcases hk with ⟨k1, k2⟩ | ⟨k1, k2⟩ | ⟨k1, k2⟩ | ⟨k1, k2⟩ | ⟨k1, k2⟩
    · skip
      obtain ⟨vc2, h5, G', Kc2, Qc2⟩ := G.callV 91 (hw _ (List.mem_of_getElem? (i := 15) rfl)) (hw _ (List.mem_of_getElem? (i := 16) rfl)) (nfSel (hw _ (List.mem_of_getElem? (i := 18) rfl))) (hw _ (List.mem_of_getElem? (i := 18) rfl)) (hw _ (List.mem_of_getElem? (i := 17) rfl)) (hw _ (List.mem_of_getElem? (i := 4) rfl)) (hw _ (List.mem_of_getElem? (i := 19) rfl)) Xa (by decide) [(.int v7)] [] rfl (own_sh4_0 l Z a0 hw a b g kb kg p2.toInt64 p3.toInt64 p4.toInt64 p5.toInt64 v7 h4 n0 G.n0le F1 F2 Ag Ab (own_idx (N := 4) (K := 0) rfl rfl (by decide) (by decide) q1 q3 k1 k2)) (lenOf pd__I_D rfl) at_88 rfl (Nat.le_of_ble_eq_true rfl) (Nat.le_of_ble_eq_true rfl) (Nat.le_of_ble_eq_true rfl) (Nat.le_of_ble_eq_true rfl) (fun _ q => nomatch q) rfl
      clear G; have G := G'; clear G'
      obtain ⟨wc2, qc2, rfl, rfl⟩ := Qc2
      replace G := G.val qc2
      replace G := G.dstore 93 #[.val (.int p0), .val (.int p1), .val (.int p2), .val (.int p3), .val (.int p4), .val (.int p5), .val (.int (4 : Int32)), .val (.int v7), .val (.ref b), .val (.ref a), .val (.double (FP.l2d (0 : Int64))), .second, .unset, .unset, .unset, .unset] at_91 rfl rfl
      replace G := G.iload 95 at_93 rfl rfl
      replace G := G.iload 97 at_95 rfl rfl
      replace G := G.imul 98 at_97 rfl
      obtain ⟨v12, e12, G'⟩ := G.nameI
      clear G; have G := G'; clear G'
      have c12 : v12.toInt = (4 : Int) * v7.toInt := by rw [e12]; exact own_sc (N := 4) rfl (by decide) (by decide) q1 q3
      clear e12
      replace G := G.istore 100 #[.val (.int p0), .val (.int p1), .val (.int p2), .val (.int p3), .val (.int p4), .val (.int p5), .val (.int (4 : Int32)), .val (.int v7), .val (.ref b), .val (.ref a), .val (.double (FP.l2d (0 : Int64))), .second, .val (.int v12), .unset, .unset, .unset] at_98 rfl rfl
      replace G := G.iconst 101 (0 : Int32) at_100 rfl rfl
      replace G := G.istore 103 #[.val (.int p0), .val (.int p1), .val (.int p2), .val (.int p3), .val (.int p4), .val (.int p5), .val (.int (4 : Int32)), .val (.int v7), .val (.ref b), .val (.ref a), .val (.double (FP.l2d (0 : Int64))), .second, .val (.int v12), .val (.int (0 : Int32)), .unset, .unset] at_101 rfl rfl
      replace G := G.iload 105 at_103 rfl rfl
      replace G := G.bipush 107 (100 : Int32) at_105 (by decide) rfl
      replace G := G.icmpT 113 at_107 (XT.ii_lt_t (own_lt (K := 100) rfl (by omega))) (by decide) (by decide)
      replace G := G.iload 115 at_113 rfl rfl
      replace G := G.sipush 118 (200 : Int32) at_115 (by decide) rfl
      replace G := G.icmpT 124 at_118 (XT.ii_lt_t (own_lt (K := 200) rfl (by omega))) (by decide) (by decide)
      replace G := G.iload 126 at_124 rfl rfl
      replace G := G.sipush 129 (300 : Int32) at_126 (by decide) rfl
      replace G := G.icmpT 135 at_129 (XT.ii_lt_t (own_lt (K := 300) rfl (by omega))) (by decide) (by decide)
      replace G := G.iload 137 at_135 rfl rfl
      replace G := G.sipush 140 (400 : Int32) at_137 (by decide) rfl
      replace G := G.icmpT 146 at_140 (XT.ii_lt_t (own_lt (K := 400) rfl (by omega))) (by decide) (by decide)
      replace G := G.lconst0 147 at_146 rfl
      replace G := G.lstore 149 #[.val (.int p0), .val (.int p1), .val (.int p2), .val (.int p3), .val (.int p4), .val (.int p5), .val (.int (4 : Int32)), .val (.int v7), .val (.ref b), .val (.ref a), .val (.double (FP.l2d (0 : Int64))), .second, .val (.int v12), .val (.int (0 : Int32)), .val (.long (0 : Int64)), .second] at_147 rfl rfl
      replace G := G.iload 151 at_149 rfl rfl
      replace G := G.iconst 152 (1 : Int32) at_151 rfl rfl
      replace G := G.icmpT 162 at_152 (XT.ii_lt_t (by decide)) (by decide) (by decide)
      replace G := G.iload 164 at_162 rfl rfl
      replace G := G.iconst 165 (2 : Int32) at_164 rfl rfl
      replace G := G.icmpT 175 at_165 (XT.ii_lt_t (by decide)) (by decide) (by decide)
      replace G := G.iload 177 at_175 rfl rfl
      replace G := G.iconst 178 (3 : Int32) at_177 rfl rfl
      replace G := G.icmpT 189 at_178 (XT.ii_lt_t (by decide)) (by decide) (by decide)
      replace G := G.iload 191 at_189 rfl rfl
      replace G := G.iconst 192 (4 : Int32) at_191 rfl rfl
      replace G := G.icmpT 203 at_192 (XT.ii_lt_t (by decide)) (by decide) (by decide)
      replace G := G.dload 205 at_203 rfl rfl
      replace G := G.lload 207 at_205 rfl rfl
      replace G := G.l2dS 208 at_207 rfl rfl
      replace G := G.dcmpS 209 at_208 (dcmpV_self (nn_w rfl) _) rfl
      replace G := G.ifF 212 at_209 (XT.i0_ne_f rfl) rfl
      replace G := G.iconst 213 (1 : Int32) at_212 rfl rfl
      replace G := G.goto 217 at_213 (by decide) (by decide)
      exact G.retN hret (Or.inl rfl) hlk at_217 ⟨_, rfl, rfl⟩ (Nat.le_of_ble_eq_true rfl) (Nat.le_of_ble_eq_true rfl)
    · skip
      obtain ⟨vc2, h5, G', Kc2, Qc2⟩ := G.callV 91 (hw _ (List.mem_of_getElem? (i := 15) rfl)) (hw _ (List.mem_of_getElem? (i := 16) rfl)) (nfSel (hw _ (List.mem_of_getElem? (i := 18) rfl))) (hw _ (List.mem_of_getElem? (i := 18) rfl)) (hw _ (List.mem_of_getElem? (i := 17) rfl)) (hw _ (List.mem_of_getElem? (i := 4) rfl)) (hw _ (List.mem_of_getElem? (i := 19) rfl)) Xa (by decide) [(.int v7)] [] rfl (own_sh4_1 l Z a0 hw a b g kb kg p2.toInt64 p3.toInt64 p4.toInt64 p5.toInt64 v7 h4 n0 G.n0le F1 F2 Ag Ab (own_idx (N := 4) (K := 1) rfl rfl (by decide) (by decide) q1 q3 k1 k2)) (lenOf pd__I_D rfl) at_88 rfl (Nat.le_of_ble_eq_true rfl) (Nat.le_of_ble_eq_true rfl) (Nat.le_of_ble_eq_true rfl) (Nat.le_of_ble_eq_true rfl) (fun _ q => nomatch q) rfl
      clear G; have G := G'; clear G'
      obtain ⟨wc2, qc2, rfl, rfl⟩ := Qc2
      replace G := G.val qc2
      replace G := G.dstore 93 #[.val (.int p0), .val (.int p1), .val (.int p2), .val (.int p3), .val (.int p4), .val (.int p5), .val (.int (4 : Int32)), .val (.int v7), .val (.ref b), .val (.ref a), .val (.double (FP.l2d ((0 : Int64) + p2.toInt64))), .second, .unset, .unset, .unset, .unset] at_91 rfl rfl
      replace G := G.iload 95 at_93 rfl rfl
      replace G := G.iload 97 at_95 rfl rfl
      replace G := G.imul 98 at_97 rfl
      obtain ⟨v12, e12, G'⟩ := G.nameI
      clear G; have G := G'; clear G'
      have c12 : v12.toInt = (4 : Int) * v7.toInt := by rw [e12]; exact own_sc (N := 4) rfl (by decide) (by decide) q1 q3
      clear e12
      replace G := G.istore 100 #[.val (.int p0), .val (.int p1), .val (.int p2), .val (.int p3), .val (.int p4), .val (.int p5), .val (.int (4 : Int32)), .val (.int v7), .val (.ref b), .val (.ref a), .val (.double (FP.l2d ((0 : Int64) + p2.toInt64))), .second, .val (.int v12), .unset, .unset, .unset] at_98 rfl rfl
      replace G := G.iconst 101 (0 : Int32) at_100 rfl rfl
      replace G := G.istore 103 #[.val (.int p0), .val (.int p1), .val (.int p2), .val (.int p3), .val (.int p4), .val (.int p5), .val (.int (4 : Int32)), .val (.int v7), .val (.ref b), .val (.ref a), .val (.double (FP.l2d ((0 : Int64) + p2.toInt64))), .second, .val (.int v12), .val (.int (0 : Int32)), .unset, .unset] at_101 rfl rfl
      replace G := G.iload 105 at_103 rfl rfl
      replace G := G.bipush 107 (100 : Int32) at_105 (by decide) rfl
      replace G := G.icmpF 110 at_107 (XT.ii_lt_f (own_nlt (K := 100) rfl (by omega))) rfl
      replace G := G.iconst 111 (1 : Int32) at_110 rfl rfl
      replace G := G.istore 113 #[.val (.int p0), .val (.int p1), .val (.int p2), .val (.int p3), .val (.int p4), .val (.int p5), .val (.int (4 : Int32)), .val (.int v7), .val (.ref b), .val (.ref a), .val (.double (FP.l2d ((0 : Int64) + p2.toInt64))), .second, .val (.int v12), .val (.int (1 : Int32)), .unset, .unset] at_111 rfl rfl
      replace G := G.iload 115 at_113 rfl rfl
      replace G := G.sipush 118 (200 : Int32) at_115 (by decide) rfl
      replace G := G.icmpT 124 at_118 (XT.ii_lt_t (own_lt (K := 200) rfl (by omega))) (by decide) (by decide)
      replace G := G.iload 126 at_124 rfl rfl
      replace G := G.sipush 129 (300 : Int32) at_126 (by decide) rfl
      replace G := G.icmpT 135 at_129 (XT.ii_lt_t (own_lt (K := 300) rfl (by omega))) (by decide) (by decide)
      replace G := G.iload 137 at_135 rfl rfl
      replace G := G.sipush 140 (400 : Int32) at_137 (by decide) rfl
      replace G := G.icmpT 146 at_140 (XT.ii_lt_t (own_lt (K := 400) rfl (by omega))) (by decide) (by decide)
      replace G := G.lconst0 147 at_146 rfl
      replace G := G.lstore 149 #[.val (.int p0), .val (.int p1), .val (.int p2), .val (.int p3), .val (.int p4), .val (.int p5), .val (.int (4 : Int32)), .val (.int v7), .val (.ref b), .val (.ref a), .val (.double (FP.l2d ((0 : Int64) + p2.toInt64))), .second, .val (.int v12), .val (.int (1 : Int32)), .val (.long (0 : Int64)), .second] at_147 rfl rfl
      replace G := G.iload 151 at_149 rfl rfl
      replace G := G.iconst 152 (1 : Int32) at_151 rfl rfl
      replace G := G.icmpF 155 at_152 (XT.ii_lt_f (by decide)) rfl
      replace G := G.lload 157 at_155 rfl rfl
      replace G := G.iloadN 158 at_157 rfl rfl
      replace G := G.i2l 159 at_158 rfl
      replace G := G.ladd 160 at_159 rfl
      replace G := G.lstore 162 #[.val (.int p0), .val (.int p1), .val (.int p2), .val (.int p3), .val (.int p4), .val (.int p5), .val (.int (4 : Int32)), .val (.int v7), .val (.ref b), .val (.ref a), .val (.double (FP.l2d ((0 : Int64) + p2.toInt64))), .second, .val (.int v12), .val (.int (1 : Int32)), .val (.long ((0 : Int64) + (p2).toInt64)), .second] at_160 rfl rfl
      replace G := G.iload 164 at_162 rfl rfl
      replace G := G.iconst 165 (2 : Int32) at_164 rfl rfl
      replace G := G.icmpT 175 at_165 (XT.ii_lt_t (by decide)) (by decide) (by decide)
      replace G := G.iload 177 at_175 rfl rfl
      replace G := G.iconst 178 (3 : Int32) at_177 rfl rfl
      replace G := G.icmpT 189 at_178 (XT.ii_lt_t (by decide)) (by decide) (by decide)
      replace G := G.iload 191 at_189 rfl rfl
      replace G := G.iconst 192 (4 : Int32) at_191 rfl rfl
      replace G := G.icmpT 203 at_192 (XT.ii_lt_t (by decide)) (by decide) (by decide)
      replace G := G.dload 205 at_203 rfl rfl
      replace G := G.lload 207 at_205 rfl rfl
      replace G := G.l2dS 208 at_207 rfl rfl
      replace G := G.dcmpS 209 at_208 (dcmpV_self (nn_w rfl) _) rfl
      replace G := G.ifF 212 at_209 (XT.i0_ne_f rfl) rfl
      replace G := G.iconst 213 (1 : Int32) at_212 rfl rfl
      replace G := G.goto 217 at_213 (by decide) (by decide)
      exact G.retN hret (Or.inl rfl) hlk at_217 ⟨_, rfl, rfl⟩ (Nat.le_of_ble_eq_true rfl) (Nat.le_of_ble_eq_true rfl)
    · skip
      obtain ⟨vc2, h5, G', Kc2, Qc2⟩ := G.callV 91 (hw _ (List.mem_of_getElem? (i := 15) rfl)) (hw _ (List.mem_of_getElem? (i := 16) rfl)) (nfSel (hw _ (List.mem_of_getElem? (i := 18) rfl))) (hw _ (List.mem_of_getElem? (i := 18) rfl)) (hw _ (List.mem_of_getElem? (i := 17) rfl)) (hw _ (List.mem_of_getElem? (i := 4) rfl)) (hw _ (List.mem_of_getElem? (i := 19) rfl)) Xa (by decide) [(.int v7)] [] rfl (own_sh4_2 l Z a0 hw a b g kb kg p2.toInt64 p3.toInt64 p4.toInt64 p5.toInt64 v7 h4 n0 G.n0le F1 F2 Ag Ab (own_idx (N := 4) (K := 2) rfl rfl (by decide) (by decide) q1 q3 k1 k2)) (lenOf pd__I_D rfl) at_88 rfl (Nat.le_of_ble_eq_true rfl) (Nat.le_of_ble_eq_true rfl) (Nat.le_of_ble_eq_true rfl) (Nat.le_of_ble_eq_true rfl) (fun _ q => nomatch q) rfl
      clear G; have G := G'; clear G'
      obtain ⟨wc2, qc2, rfl, rfl⟩ := Qc2
      replace G := G.val qc2
      replace G := G.dstore 93 #[.val (.int p0), .val (.int p1), .val (.int p2), .val (.int p3), .val (.int p4), .val (.int p5), .val (.int (4 : Int32)), .val (.int v7), .val (.ref b), .val (.ref a), .val (.double (FP.l2d (((0 : Int64) + p2.toInt64) + p3.toInt64))), .second, .unset, .unset, .unset, .unset] at_91 rfl rfl
      replace G := G.iload 95 at_93 rfl rfl
      replace G := G.iload 97 at_95 rfl rfl
      replace G := G.imul 98 at_97 rfl
      obtain ⟨v12, e12, G'⟩ := G.nameI
      clear G; have G := G'; clear G'
      have c12 : v12.toInt = (4 : Int) * v7.toInt := by rw [e12]; exact own_sc (N := 4) rfl (by decide) (by decide) q1 q3
      clear e12
      replace G := G.istore 100 #[.val (.int p0), .val (.int p1), .val (.int p2), .val (.int p3), .val (.int p4), .val (.int p5), .val (.int (4 : Int32)), .val (.int v7), .val (.ref b), .val (.ref a), .val (.double (FP.l2d (((0 : Int64) + p2.toInt64) + p3.toInt64))), .second, .val (.int v12), .unset, .unset, .unset] at_98 rfl rfl
      replace G := G.iconst 101 (0 : Int32) at_100 rfl rfl
      replace G := G.istore 103 #[.val (.int p0), .val (.int p1), .val (.int p2), .val (.int p3), .val (.int p4), .val (.int p5), .val (.int (4 : Int32)), .val (.int v7), .val (.ref b), .val (.ref a), .val (.double (FP.l2d (((0 : Int64) + p2.toInt64) + p3.toInt64))), .second, .val (.int v12), .val (.int (0 : Int32)), .unset, .unset] at_101 rfl rfl
      replace G := G.iload 105 at_103 rfl rfl
      replace G := G.bipush 107 (100 : Int32) at_105 (by decide) rfl
      replace G := G.icmpF 110 at_107 (XT.ii_lt_f (own_nlt (K := 100) rfl (by omega))) rfl
      replace G := G.iconst 111 (1 : Int32) at_110 rfl rfl
      replace G := G.istore 113 #[.val (.int p0), .val (.int p1), .val (.int p2), .val (.int p3), .val (.int p4), .val (.int p5), .val (.int (4 : Int32)), .val (.int v7), .val (.ref b), .val (.ref a), .val (.double (FP.l2d (((0 : Int64) + p2.toInt64) + p3.toInt64))), .second, .val (.int v12), .val (.int (1 : Int32)), .unset, .unset] at_111 rfl rfl
      replace G := G.iload 115 at_113 rfl rfl
      replace G := G.sipush 118 (200 : Int32) at_115 (by decide) rfl
      replace G := G.icmpF 121 at_118 (XT.ii_lt_f (own_nlt (K := 200) rfl (by omega))) rfl
      replace G := G.iconst 122 (2 : Int32) at_121 rfl rfl
      replace G := G.istore 124 #[.val (.int p0), .val (.int p1), .val (.int p2), .val (.int p3), .val (.int p4), .val (.int p5), .val (.int (4 : Int32)), .val (.int v7), .val (.ref b), .val (.ref a), .val (.double (FP.l2d (((0 : Int64) + p2.toInt64) + p3.toInt64))), .second, .val (.int v12), .val (.int (2 : Int32)), .unset, .unset] at_122 rfl rfl
      replace G := G.iload 126 at_124 rfl rfl
      replace G := G.sipush 129 (300 : Int32) at_126 (by decide) rfl
      replace G := G.icmpT 135 at_129 (XT.ii_lt_t (own_lt (K := 300) rfl (by omega))) (by decide) (by decide)
      replace G := G.iload 137 at_135 rfl rfl
      replace G := G.sipush 140 (400 : Int32) at_137 (by decide) rfl
      replace G := G.icmpT 146 at_140 (XT.ii_lt_t (own_lt (K := 400) rfl (by omega))) (by decide) (by decide)
      replace G := G.lconst0 147 at_146 rfl
      replace G := G.lstore 149 #[.val (.int p0), .val (.int p1), .val (.int p2), .val (.int p3), .val (.int p4), .val (.int p5), .val (.int (4 : Int32)), .val (.int v7), .val (.ref b), .val (.ref a), .val (.double (FP.l2d (((0 : Int64) + p2.toInt64) + p3.toInt64))), .second, .val (.int v12), .val (.int (2 : Int32)), .val (.long (0 : Int64)), .second] at_147 rfl rfl
      replace G := G.iload 151 at_149 rfl rfl
      replace G := G.iconst 152 (1 : Int32) at_151 rfl rfl
      replace G := G.icmpF 155 at_152 (XT.ii_lt_f (by decide)) rfl
      replace G := G.lload 157 at_155 rfl rfl
      replace G := G.iloadN 158 at_157 rfl rfl
      replace G := G.i2l 159 at_158 rfl
      replace G := G.ladd 160 at_159 rfl
      replace G := G.lstore 162 #[.val (.int p0), .val (.int p1), .val (.int p2), .val (.int p3), .val (.int p4), .val (.int p5), .val (.int (4 : Int32)), .val (.int v7), .val (.ref b), .val (.ref a), .val (.double (FP.l2d (((0 : Int64) + p2.toInt64) + p3.toInt64))), .second, .val (.int v12), .val (.int (2 : Int32)), .val (.long ((0 : Int64) + (p2).toInt64)), .second] at_160 rfl rfl
      replace G := G.iload 164 at_162 rfl rfl
      replace G := G.iconst 165 (2 : Int32) at_164 rfl rfl
      replace G := G.icmpF 168 at_165 (XT.ii_lt_f (by decide)) rfl
      replace G := G.lload 170 at_168 rfl rfl
      replace G := G.iloadN 171 at_170 rfl rfl
      replace G := G.i2l 172 at_171 rfl
      replace G := G.ladd 173 at_172 rfl
      replace G := G.lstore 175 #[.val (.int p0), .val (.int p1), .val (.int p2), .val (.int p3), .val (.int p4), .val (.int p5), .val (.int (4 : Int32)), .val (.int v7), .val (.ref b), .val (.ref a), .val (.double (FP.l2d (((0 : Int64) + p2.toInt64) + p3.toInt64))), .second, .val (.int v12), .val (.int (2 : Int32)), .val (.long (((0 : Int64) + (p2).toInt64) + (p3).toInt64)), .second] at_173 rfl rfl
      replace G := G.iload 177 at_175 rfl rfl
      replace G := G.iconst 178 (3 : Int32) at_177 rfl rfl
      replace G := G.icmpT 189 at_178 (XT.ii_lt_t (by decide)) (by decide) (by decide)
      replace G := G.iload 191 at_189 rfl rfl
      replace G := G.iconst 192 (4 : Int32) at_191 rfl rfl
      replace G := G.icmpT 203 at_192 (XT.ii_lt_t (by decide)) (by decide) (by decide)
      replace G := G.dload 205 at_203 rfl rfl
      replace G := G.lload 207 at_205 rfl rfl
      replace G := G.l2dS 208 at_207 rfl rfl
      replace G := G.dcmpS 209 at_208 (dcmpV_self (nn_w rfl) _) rfl
      replace G := G.ifF 212 at_209 (XT.i0_ne_f rfl) rfl
      replace G := G.iconst 213 (1 : Int32) at_212 rfl rfl
      replace G := G.goto 217 at_213 (by decide) (by decide)
      exact G.retN hret (Or.inl rfl) hlk at_217 ⟨_, rfl, rfl⟩ (Nat.le_of_ble_eq_true rfl) (Nat.le_of_ble_eq_true rfl)
    · skip
      obtain ⟨vc2, h5, G', Kc2, Qc2⟩ := G.callV 91 (hw _ (List.mem_of_getElem? (i := 15) rfl)) (hw _ (List.mem_of_getElem? (i := 16) rfl)) (nfSel (hw _ (List.mem_of_getElem? (i := 18) rfl))) (hw _ (List.mem_of_getElem? (i := 18) rfl)) (hw _ (List.mem_of_getElem? (i := 17) rfl)) (hw _ (List.mem_of_getElem? (i := 4) rfl)) (hw _ (List.mem_of_getElem? (i := 19) rfl)) Xa (by decide) [(.int v7)] [] rfl (own_sh4_3 l Z a0 hw a b g kb kg p2.toInt64 p3.toInt64 p4.toInt64 p5.toInt64 v7 h4 n0 G.n0le F1 F2 Ag Ab (own_idx (N := 4) (K := 3) rfl rfl (by decide) (by decide) q1 q3 k1 k2)) (lenOf pd__I_D rfl) at_88 rfl (Nat.le_of_ble_eq_true rfl) (Nat.le_of_ble_eq_true rfl) (Nat.le_of_ble_eq_true rfl) (Nat.le_of_ble_eq_true rfl) (fun _ q => nomatch q) rfl
      clear G; have G := G'; clear G'
      obtain ⟨wc2, qc2, rfl, rfl⟩ := Qc2
      replace G := G.val qc2
      replace G := G.dstore 93 #[.val (.int p0), .val (.int p1), .val (.int p2), .val (.int p3), .val (.int p4), .val (.int p5), .val (.int (4 : Int32)), .val (.int v7), .val (.ref b), .val (.ref a), .val (.double (FP.l2d ((((0 : Int64) + p2.toInt64) + p3.toInt64) + p4.toInt64))), .second, .unset, .unset, .unset, .unset] at_91 rfl rfl
      replace G := G.iload 95 at_93 rfl rfl
      replace G := G.iload 97 at_95 rfl rfl
      replace G := G.imul 98 at_97 rfl
      obtain ⟨v12, e12, G'⟩ := G.nameI
      clear G; have G := G'; clear G'
      have c12 : v12.toInt = (4 : Int) * v7.toInt := by rw [e12]; exact own_sc (N := 4) rfl (by decide) (by decide) q1 q3
      clear e12
      replace G := G.istore 100 #[.val (.int p0), .val (.int p1), .val (.int p2), .val (.int p3), .val (.int p4), .val (.int p5), .val (.int (4 : Int32)), .val (.int v7), .val (.ref b), .val (.ref a), .val (.double (FP.l2d ((((0 : Int64) + p2.toInt64) + p3.toInt64) + p4.toInt64))), .second, .val (.int v12), .unset, .unset, .unset] at_98 rfl rfl
      replace G := G.iconst 101 (0 : Int32) at_100 rfl rfl
      replace G := G.istore 103 #[.val (.int p0), .val (.int p1), .val (.int p2), .val (.int p3), .val (.int p4), .val (.int p5), .val (.int (4 : Int32)), .val (.int v7), .val (.ref b), .val (.ref a), .val (.double (FP.l2d ((((0 : Int64) + p2.toInt64) + p3.toInt64) + p4.toInt64))), .second, .val (.int v12), .val (.int (0 : Int32)), .unset, .unset] at_101 rfl rfl
      replace G := G.iload 105 at_103 rfl rfl
      replace G := G.bipush 107 (100 : Int32) at_105 (by decide) rfl
      replace G := G.icmpF 110 at_107 (XT.ii_lt_f (own_nlt (K := 100) rfl (by omega))) rfl
      replace G := G.iconst 111 (1 : Int32) at_110 rfl rfl
      replace G := G.istore 113 #[.val (.int p0), .val (.int p1), .val (.int p2), .val (.int p3), .val (.int p4), .val (.int p5), .val (.int (4 : Int32)), .val (.int v7), .val (.ref b), .val (.ref a), .val (.double (FP.l2d ((((0 : Int64) + p2.toInt64) + p3.toInt64) + p4.toInt64))), .second, .val (.int v12), .val (.int (1 : Int32)), .unset, .unset] at_111 rfl rfl
      replace G := G.iload 115 at_113 rfl rfl
      replace G := G.sipush 118 (200 : Int32) at_115 (by decide) rfl
      replace G := G.icmpF 121 at_118 (XT.ii_lt_f (own_nlt (K := 200) rfl (by omega))) rfl
      replace G := G.iconst 122 (2 : Int32) at_121 rfl rfl
      replace G := G.istore 124 #[.val (.int p0), .val (.int p1), .val (.int p2), .val (.int p3), .val (.int p4), .val (.int p5), .val (.int (4 : Int32)), .val (.int v7), .val (.ref b), .val (.ref a), .val (.double (FP.l2d ((((0 : Int64) + p2.toInt64) + p3.toInt64) + p4.toInt64))), .second, .val (.int v12), .val (.int (2 : Int32)), .unset, .unset] at_122 rfl rfl
      replace G := G.iload 126 at_124 rfl rfl
      replace G := G.sipush 129 (300 : Int32) at_126 (by decide) rfl
      replace G := G.icmpF 132 at_129 (XT.ii_lt_f (own_nlt (K := 300) rfl (by omega))) rfl
      replace G := G.iconst 133 (3 : Int32) at_132 rfl rfl
      replace G := G.istore 135 #[.val (.int p0), .val (.int p1), .val (.int p2), .val (.int p3), .val (.int p4), .val (.int p5), .val (.int (4 : Int32)), .val (.int v7), .val (.ref b), .val (.ref a), .val (.double (FP.l2d ((((0 : Int64) + p2.toInt64) + p3.toInt64) + p4.toInt64))), .second, .val (.int v12), .val (.int (3 : Int32)), .unset, .unset] at_133 rfl rfl
      replace G := G.iload 137 at_135 rfl rfl
      replace G := G.sipush 140 (400 : Int32) at_137 (by decide) rfl
      replace G := G.icmpT 146 at_140 (XT.ii_lt_t (own_lt (K := 400) rfl (by omega))) (by decide) (by decide)
      replace G := G.lconst0 147 at_146 rfl
      replace G := G.lstore 149 #[.val (.int p0), .val (.int p1), .val (.int p2), .val (.int p3), .val (.int p4), .val (.int p5), .val (.int (4 : Int32)), .val (.int v7), .val (.ref b), .val (.ref a), .val (.double (FP.l2d ((((0 : Int64) + p2.toInt64) + p3.toInt64) + p4.toInt64))), .second, .val (.int v12), .val (.int (3 : Int32)), .val (.long (0 : Int64)), .second] at_147 rfl rfl
      replace G := G.iload 151 at_149 rfl rfl
      replace G := G.iconst 152 (1 : Int32) at_151 rfl rfl
      replace G := G.icmpF 155 at_152 (XT.ii_lt_f (by decide)) rfl
      replace G := G.lload 157 at_155 rfl rfl
      replace G := G.iloadN 158 at_157 rfl rfl
      replace G := G.i2l 159 at_158 rfl
      replace G := G.ladd 160 at_159 rfl
      replace G := G.lstore 162 #[.val (.int p0), .val (.int p1), .val (.int p2), .val (.int p3), .val (.int p4), .val (.int p5), .val (.int (4 : Int32)), .val (.int v7), .val (.ref b), .val (.ref a), .val (.double (FP.l2d ((((0 : Int64) + p2.toInt64) + p3.toInt64) + p4.toInt64))), .second, .val (.int v12), .val (.int (3 : Int32)), .val (.long ((0 : Int64) + (p2).toInt64)), .second] at_160 rfl rfl
      replace G := G.iload 164 at_162 rfl rfl
      replace G := G.iconst 165 (2 : Int32) at_164 rfl rfl
      replace G := G.icmpF 168 at_165 (XT.ii_lt_f (by decide)) rfl
      replace G := G.lload 170 at_168 rfl rfl
      replace G := G.iloadN 171 at_170 rfl rfl
      replace G := G.i2l 172 at_171 rfl
      replace G := G.ladd 173 at_172 rfl
      replace G := G.lstore 175 #[.val (.int p0), .val (.int p1), .val (.int p2), .val (.int p3), .val (.int p4), .val (.int p5), .val (.int (4 : Int32)), .val (.int v7), .val (.ref b), .val (.ref a), .val (.double (FP.l2d ((((0 : Int64) + p2.toInt64) + p3.toInt64) + p4.toInt64))), .second, .val (.int v12), .val (.int (3 : Int32)), .val (.long (((0 : Int64) + (p2).toInt64) + (p3).toInt64)), .second] at_173 rfl rfl
      replace G := G.iload 177 at_175 rfl rfl
      replace G := G.iconst 178 (3 : Int32) at_177 rfl rfl
      replace G := G.icmpF 181 at_178 (XT.ii_lt_f (by decide)) rfl
      replace G := G.lload 183 at_181 rfl rfl
      replace G := G.iload 185 at_183 rfl rfl
      replace G := G.i2l 186 at_185 rfl
      replace G := G.ladd 187 at_186 rfl
      replace G := G.lstore 189 #[.val (.int p0), .val (.int p1), .val (.int p2), .val (.int p3), .val (.int p4), .val (.int p5), .val (.int (4 : Int32)), .val (.int v7), .val (.ref b), .val (.ref a), .val (.double (FP.l2d ((((0 : Int64) + p2.toInt64) + p3.toInt64) + p4.toInt64))), .second, .val (.int v12), .val (.int (3 : Int32)), .val (.long ((((0 : Int64) + (p2).toInt64) + (p3).toInt64) + (p4).toInt64)), .second] at_187 rfl rfl
      replace G := G.iload 191 at_189 rfl rfl
      replace G := G.iconst 192 (4 : Int32) at_191 rfl rfl
      replace G := G.icmpT 203 at_192 (XT.ii_lt_t (by decide)) (by decide) (by decide)
      replace G := G.dload 205 at_203 rfl rfl
      replace G := G.lload 207 at_205 rfl rfl
      replace G := G.l2dS 208 at_207 rfl rfl
      replace G := G.dcmpS 209 at_208 (dcmpV_self (nn_w rfl) _) rfl
      replace G := G.ifF 212 at_209 (XT.i0_ne_f rfl) rfl
      replace G := G.iconst 213 (1 : Int32) at_212 rfl rfl
      replace G := G.goto 217 at_213 (by decide) (by decide)
      exact G.retN hret (Or.inl rfl) hlk at_217 ⟨_, rfl, rfl⟩ (Nat.le_of_ble_eq_true rfl) (Nat.le_of_ble_eq_true rfl)
    · skip
      obtain ⟨vc2, h5, G', Kc2, Qc2⟩ := G.callV 91 (hw _ (List.mem_of_getElem? (i := 15) rfl)) (hw _ (List.mem_of_getElem? (i := 16) rfl)) (nfSel (hw _ (List.mem_of_getElem? (i := 18) rfl))) (hw _ (List.mem_of_getElem? (i := 18) rfl)) (hw _ (List.mem_of_getElem? (i := 17) rfl)) (hw _ (List.mem_of_getElem? (i := 4) rfl)) (hw _ (List.mem_of_getElem? (i := 19) rfl)) Xa (by decide) [(.int v7)] [] rfl (own_sh4_4 l Z a0 hw a b g kb kg p2.toInt64 p3.toInt64 p4.toInt64 p5.toInt64 v7 h4 n0 G.n0le F1 F2 Ag Ab (own_idx (N := 4) (K := 4) rfl rfl (by decide) (by decide) q1 q3 k1 k2)) (lenOf pd__I_D rfl) at_88 rfl (Nat.le_of_ble_eq_true rfl) (Nat.le_of_ble_eq_true rfl) (Nat.le_of_ble_eq_true rfl) (Nat.le_of_ble_eq_true rfl) (fun _ q => nomatch q) rfl
      clear G; have G := G'; clear G'
      obtain ⟨wc2, qc2, rfl, rfl⟩ := Qc2
      replace G := G.val qc2
      replace G := G.dstore 93 #[.val (.int p0), .val (.int p1), .val (.int p2), .val (.int p3), .val (.int p4), .val (.int p5), .val (.int (4 : Int32)), .val (.int v7), .val (.ref b), .val (.ref a), .val (.double (FP.l2d (((((0 : Int64) + p2.toInt64) + p3.toInt64) + p4.toInt64) + p5.toInt64))), .second, .unset, .unset, .unset, .unset] at_91 rfl rfl
      replace G := G.iload 95 at_93 rfl rfl
      replace G := G.iload 97 at_95 rfl rfl
      replace G := G.imul 98 at_97 rfl
      obtain ⟨v12, e12, G'⟩ := G.nameI
      clear G; have G := G'; clear G'
      have c12 : v12.toInt = (4 : Int) * v7.toInt := by rw [e12]; exact own_sc (N := 4) rfl (by decide) (by decide) q1 q3
      clear e12
      replace G := G.istore 100 #[.val (.int p0), .val (.int p1), .val (.int p2), .val (.int p3), .val (.int p4), .val (.int p5), .val (.int (4 : Int32)), .val (.int v7), .val (.ref b), .val (.ref a), .val (.double (FP.l2d (((((0 : Int64) + p2.toInt64) + p3.toInt64) + p4.toInt64) + p5.toInt64))), .second, .val (.int v12), .unset, .unset, .unset] at_98 rfl rfl
      replace G := G.iconst 101 (0 : Int32) at_100 rfl rfl
      replace G := G.istore 103 #[.val (.int p0), .val (.int p1), .val (.int p2), .val (.int p3), .val (.int p4), .val (.int p5), .val (.int (4 : Int32)), .val (.int v7), .val (.ref b), .val (.ref a), .val (.double (FP.l2d (((((0 : Int64) + p2.toInt64) + p3.toInt64) + p4.toInt64) + p5.toInt64))), .second, .val (.int v12), .val (.int (0 : Int32)), .unset, .unset] at_101 rfl rfl
      replace G := G.iload 105 at_103 rfl rfl
      replace G := G.bipush 107 (100 : Int32) at_105 (by decide) rfl
      replace G := G.icmpF 110 at_107 (XT.ii_lt_f (own_nlt (K := 100) rfl (by omega))) rfl
      replace G := G.iconst 111 (1 : Int32) at_110 rfl rfl
      replace G := G.istore 113 #[.val (.int p0), .val (.int p1), .val (.int p2), .val (.int p3), .val (.int p4), .val (.int p5), .val (.int (4 : Int32)), .val (.int v7), .val (.ref b), .val (.ref a), .val (.double (FP.l2d (((((0 : Int64) + p2.toInt64) + p3.toInt64) + p4.toInt64) + p5.toInt64))), .second, .val (.int v12), .val (.int (1 : Int32)), .unset, .unset] at_111 rfl rfl
      replace G := G.iload 115 at_113 rfl rfl
      replace G := G.sipush 118 (200 : Int32) at_115 (by decide) rfl
      replace G := G.icmpF 121 at_118 (XT.ii_lt_f (own_nlt (K := 200) rfl (by omega))) rfl
      replace G := G.iconst 122 (2 : Int32) at_121 rfl rfl
      replace G := G.istore 124 #[.val (.int p0), .val (.int p1), .val (.int p2), .val (.int p3), .val (.int p4), .val (.int p5), .val (.int (4 : Int32)), .val (.int v7), .val (.ref b), .val (.ref a), .val (.double (FP.l2d (((((0 : Int64) + p2.toInt64) + p3.toInt64) + p4.toInt64) + p5.toInt64))), .second, .val (.int v12), .val (.int (2 : Int32)), .unset, .unset] at_122 rfl rfl
      replace G := G.iload 126 at_124 rfl rfl
      replace G := G.sipush 129 (300 : Int32) at_126 (by decide) rfl
      replace G := G.icmpF 132 at_129 (XT.ii_lt_f (own_nlt (K := 300) rfl (by omega))) rfl
      replace G := G.iconst 133 (3 : Int32) at_132 rfl rfl
      replace G := G.istore 135 #[.val (.int p0), .val (.int p1), .val (.int p2), .val (.int p3), .val (.int p4), .val (.int p5), .val (.int (4 : Int32)), .val (.int v7), .val (.ref b), .val (.ref a), .val (.double (FP.l2d (((((0 : Int64) + p2.toInt64) + p3.toInt64) + p4.toInt64) + p5.toInt64))), .second, .val (.int v12), .val (.int (3 : Int32)), .unset, .unset] at_133 rfl rfl
      replace G := G.iload 137 at_135 rfl rfl
      replace G := G.sipush 140 (400 : Int32) at_137 (by decide) rfl
      replace G := G.icmpF 143 at_140 (XT.ii_lt_f (own_nlt (K := 400) rfl (by omega))) rfl
      replace G := G.iconst 144 (4 : Int32) at_143 rfl rfl
      replace G := G.istore 146 #[.val (.int p0), .val (.int p1), .val (.int p2), .val (.int p3), .val (.int p4), .val (.int p5), .val (.int (4 : Int32)), .val (.int v7), .val (.ref b), .val (.ref a), .val (.double (FP.l2d (((((0 : Int64) + p2.toInt64) + p3.toInt64) + p4.toInt64) + p5.toInt64))), .second, .val (.int v12), .val (.int (4 : Int32)), .unset, .unset] at_144 rfl rfl
      replace G := G.lconst0 147 at_146 rfl
      replace G := G.lstore 149 #[.val (.int p0), .val (.int p1), .val (.int p2), .val (.int p3), .val (.int p4), .val (.int p5), .val (.int (4 : Int32)), .val (.int v7), .val (.ref b), .val (.ref a), .val (.double (FP.l2d (((((0 : Int64) + p2.toInt64) + p3.toInt64) + p4.toInt64) + p5.toInt64))), .second, .val (.int v12), .val (.int (4 : Int32)), .val (.long (0 : Int64)), .second] at_147 rfl rfl
      replace G := G.iload 151 at_149 rfl rfl
      replace G := G.iconst 152 (1 : Int32) at_151 rfl rfl
      replace G := G.icmpF 155 at_152 (XT.ii_lt_f (by decide)) rfl
      replace G := G.lload 157 at_155 rfl rfl
      replace G := G.iloadN 158 at_157 rfl rfl
      replace G := G.i2l 159 at_158 rfl
      replace G := G.ladd 160 at_159 rfl
      replace G := G.lstore 162 #[.val (.int p0), .val (.int p1), .val (.int p2), .val (.int p3), .val (.int p4), .val (.int p5), .val (.int (4 : Int32)), .val (.int v7), .val (.ref b), .val (.ref a), .val (.double (FP.l2d (((((0 : Int64) + p2.toInt64) + p3.toInt64) + p4.toInt64) + p5.toInt64))), .second, .val (.int v12), .val (.int (4 : Int32)), .val (.long ((0 : Int64) + (p2).toInt64)), .second] at_160 rfl rfl
      replace G := G.iload 164 at_162 rfl rfl
      replace G := G.iconst 165 (2 : Int32) at_164 rfl rfl
      replace G := G.icmpF 168 at_165 (XT.ii_lt_f (by decide)) rfl
      replace G := G.lload 170 at_168 rfl rfl
      replace G := G.iloadN 171 at_170 rfl rfl
      replace G := G.i2l 172 at_171 rfl
      replace G := G.ladd 173 at_172 rfl
      replace G := G.lstore 175 #[.val (.int p0), .val (.int p1), .val (.int p2), .val (.int p3), .val (.int p4), .val (.int p5), .val (.int (4 : Int32)), .val (.int v7), .val (.ref b), .val (.ref a), .val (.double (FP.l2d (((((0 : Int64) + p2.toInt64) + p3.toInt64) + p4.toInt64) + p5.toInt64))), .second, .val (.int v12), .val (.int (4 : Int32)), .val (.long (((0 : Int64) + (p2).toInt64) + (p3).toInt64)), .second] at_173 rfl rfl
      replace G := G.iload 177 at_175 rfl rfl
      replace G := G.iconst 178 (3 : Int32) at_177 rfl rfl
      replace G := G.icmpF 181 at_178 (XT.ii_lt_f (by decide)) rfl
      replace G := G.lload 183 at_181 rfl rfl
      replace G := G.iload 185 at_183 rfl rfl
      replace G := G.i2l 186 at_185 rfl
      replace G := G.ladd 187 at_186 rfl
      replace G := G.lstore 189 #[.val (.int p0), .val (.int p1), .val (.int p2), .val (.int p3), .val (.int p4), .val (.int p5), .val (.int (4 : Int32)), .val (.int v7), .val (.ref b), .val (.ref a), .val (.double (FP.l2d (((((0 : Int64) + p2.toInt64) + p3.toInt64) + p4.toInt64) + p5.toInt64))), .second, .val (.int v12), .val (.int (4 : Int32)), .val (.long ((((0 : Int64) + (p2).toInt64) + (p3).toInt64) + (p4).toInt64)), .second] at_187 rfl rfl
      replace G := G.iload 191 at_189 rfl rfl
      replace G := G.iconst 192 (4 : Int32) at_191 rfl rfl
      replace G := G.icmpF 195 at_192 (XT.ii_lt_f (by decide)) rfl
      replace G := G.lload 197 at_195 rfl rfl
      replace G := G.iload 199 at_197 rfl rfl
      replace G := G.i2l 200 at_199 rfl
      replace G := G.ladd 201 at_200 rfl
      replace G := G.lstore 203 #[.val (.int p0), .val (.int p1), .val (.int p2), .val (.int p3), .val (.int p4), .val (.int p5), .val (.int (4 : Int32)), .val (.int v7), .val (.ref b), .val (.ref a), .val (.double (FP.l2d (((((0 : Int64) + p2.toInt64) + p3.toInt64) + p4.toInt64) + p5.toInt64))), .second, .val (.int v12), .val (.int (4 : Int32)), .val (.long (((((0 : Int64) + (p2).toInt64) + (p3).toInt64) + (p4).toInt64) + (p5).toInt64)), .second] at_201 rfl rfl
      replace G := G.dload 205 at_203 rfl rfl
      replace G := G.lload 207 at_205 rfl rfl
      replace G := G.l2dS 208 at_207 rfl rfl
      replace G := G.dcmpS 209 at_208 (dcmpV_self (nn_w rfl) _) rfl
      replace G := G.ifF 212 at_209 (XT.i0_ne_f rfl) rfl
      replace G := G.iconst 213 (1 : Int32) at_212 rfl rfl
      replace G := G.goto 217 at_213 (by decide) (by decide)
      exact G.retN hret (Or.inl rfl) hlk at_217 ⟨_, rfl, rfl⟩ (Nat.le_of_ble_eq_true rfl) (Nat.le_of_ble_eq_true rfl)
set_option maxRecDepth 65536 in
set_option maxHeartbeats 40000000 in
theorem comes_1 {Post : Tables → Env → Array Value → State → Outcome → State → Prop} (hpost : ∀ tb e args s v u, (limb_1_1.after args s (.returned v) u = true ∧ limb_1_2.after args s (.returned v) u = true ∧ True) → FrameEnd s (.returned v) u (Jvm.fieldLocs frame_1_writes args s ++ Jvm.arrayLocs frame_1_arrays args s ++ Jvm.staticLocs frame_1_statics s) 16 128 → Post tb e args s (.returned v) u) :
    ArmFor flags0 classFile x code maxLocals ret World_1 tables_1 room_1 Calls_1 rest_1 Pre_1 Post := by
  intro l hfl _ _ p e ha hc hk s m args below hf hA hF happ hP
  obtain ⟨hcalls, hrest, hpre⟩ := hP
  obtain ⟨-, -, -, hnamed, -, -, -, hat⟩ := (Spec.applies_iff hf).mp happ
  obtain ⟨hg, hn⟩ := and_e (Cond.before_iff.mp (show (Jvm.Cond.and given_1 narrow_1).before args s = true from hpre))
  obtain ⟨hcnt, g0⟩ := and_e hg
  obtain ⟨a0, g1⟩ := and_e g0
  obtain ⟨a1, g2⟩ := and_e g1
  obtain ⟨a2, g3⟩ := and_e g2
  obtain ⟨a3, g4⟩ := and_e g3
  obtain ⟨a4, g5⟩ := and_e g4
  have a5 := g5
  obtain ⟨w0, w1, w2, w3, w4, w5, rfl⟩ : ∃ w0 w1 w2 w3 w4 w5 : Value, args = #[w0, w1, w2, w3, w4, w5] := by
    have hs : args.size = 6 := by simpa [Cond.value, given_1] using hcnt
    obtain ⟨L⟩ := args
    match L, hs with
    | [w0, w1, w2, w3, w4, w5], _ => exact ⟨w0, w1, w2, w3, w4, w5, rfl⟩
  have hw := fun d (hd : d ∈ tables_1) => atoms_spec (ws := Jvm.Cond.code x code maxLocals ret :: tables_1) hat d (List.mem_cons_of_mem _ hd)
  have hfit : Fit s := fun {y c} hc i hi => by
    obtain ⟨ha, rfl⟩ := Array.getElem?_eq_some_iff.mp hc
    have q := List.all_eq_true.mp ((Array.all_eq_true_iff_forall_mem.mp hF) _ (Array.getElem_mem ha)) i (List.mem_range.mpr hi)
    simpa [Array.getElem?_eq_getElem hi] using q
  obtain ⟨i0, e0⟩ := is_v a0
  obtain rfl : w0 = (.int i0) := Option.some.inj e0
  obtain ⟨i1, e1⟩ := is_v a1
  obtain rfl : w1 = (.int i1) := Option.some.inj e1
  obtain ⟨i2, e2⟩ := is_v a2
  obtain rfl : w2 = (.int i2) := Option.some.inj e2
  obtain ⟨i3, e3⟩ := is_v a3
  obtain rfl : w3 = (.int i3) := Option.some.inj e3
  obtain ⟨i4, e4⟩ := is_v a4
  obtain rfl : w4 = (.int i4) := Option.some.inj e4
  obtain ⟨i5, e5⟩ := is_v a5
  obtain rfl : w5 = (.int i5) := Option.some.inj e5
  obtain ⟨n, o, h1, h2, h3, _, L, rfl, ⟨N, -, _, rfl, rfl⟩, hq⟩ := own_law l s _ hw tables_1 i0 i1 i2 i3 i4 i5 s.heap s.heap.size (Nat.le_refl _)  p e ha hc hk s m _ below hf ((Spec.applies_iff_loose hf).mp happ).1 ⟨rfl, State.Warmed39.refl s, rfl⟩ trivial
  refine ⟨n, _, h1, h2, h3, hpost _ _ _ _ _ _ ⟨Cond.after_iff.mpr rfl, Cond.after_iff.mpr (eq_i res_at (Term.int_eval (1)) rfl), trivial⟩ ⟨hq.1, hq.2.1, (hq.2.2.sift fun y hy => Or.inr (N y hy)).mono (by decide) (by decide)⟩⟩
theorem main_1_1 : Claimed_1_1 := comes_1 fun _ _ _ _ _ _ h hF => ⟨h.1, hF⟩
theorem main_1_2 : Claimed_1_2 := comes_1 fun _ _ _ _ _ _ h hF => ⟨h.2.1, hF⟩
end Jvm.Pilot.@@N@@
namespace Jvm.Pilot.@@N@@
open Jvm Jvm.ClassFile Sem Op Lib Jvm.Free Jvm.Stand Jvm.Pilot.@@N@@.Jvm.D
/-! MADE BY PROGRAM (witnessworld.py) out of the Statement's table words and the real class files: 9 classes; the members and pool entries that the words name. The judged class is class 1, her method 1. -/
namespace start1
open Jvm.ClassFile
def u (s : String) : CpInfo := .utf8 (stringToUtf16 s)
/-- a pool by its gaps: so many unusable entries, then the entry; so many at the end -/
def gap : Nat → List CpInfo → List CpInfo
  | 0, r => r
  | n + 1, r => .unusable :: gap n r
def poolList (es : List (Nat × CpInfo)) (last : Nat) : List CpInfo := es.foldr (fun e r => gap e.1 (e.2 :: r)) (gap last [])
def pool (es : List (Nat × CpInfo)) (last : Nat) : Array CpInfo := ⟨poolList es last⟩
def fileOf (pool : Array CpInfo) (this : Nat) (attrs : Array Attribute := #[]) (ms : Array MethodInfo := #[]) (fl : Nat := 33) (sup : Nat := 0) (ifs : Array Nat := #[]) (fds : Array FieldInfo := #[]) : ClassFile where
  minorVersion := 0
  majorVersion := 65
  constantPool := pool
  accessFlags := fl
  thisClass := this
  superClass := sup
  interfaces := ifs
  fields := fds
  methods := ms
  attributes := attrs
def plain (name : String) (sup : Option ClassId) : Class where
  name := name
  kind := .ordinary
  loader := none
  accessFlags := 33
  super := sup
  interfaces := #[]
  cf := none
  fields := #[]
  methods := #[]
  instanceTypes := #[]
  staticTypes := #[]
  resolved := #[]
  callSites := []
  init := .initialized
  statics := none
  mirror := none

def pool0 : Array CpInfo := pool [(5, u "<init>"), (0, u "()V"), (1, .class_ 10), (1, u "java/lang/Object")] 113

def k0c0 : Code := { maxStack := 0, maxLocals := 1, code := object_method_1_code, exceptionTable := #[], attributes := #[] }
def k0m0 : Method := { name := "<init>", desc := "()V", sig := { parameters := [], returnType := none }, accessFlags := 1, code := some k0c0 }
/-- java/lang/Object -/
def k0 : Class := { plain "java/lang/Object" none with
  accessFlags := 33
  interfaces := #[]
  cf := some (fileOf pool0 8 #[] #[{ accessFlags := 1, nameIndex := 5, descriptorIndex := 6, attributes := #[] }] 33 0 #[] #[])
  fields := #[]
  methods := #[k0m0]
  instanceTypes := #[]
  staticTypes := #[]
  resolved := Array.replicate 124 none
  statics := none }

def pool1 : Array CpInfo := pool [(2, .class_ 4), (1, u "java/lang/Object"), (0, u "<init>"), (0, u "()V"), (0, .integer 2147483647), (0, .class_ 9), (0, u "com/example/unhurried_frontier/unhurriedfrontier/CrawlOrder"), (0, .methodref 8 11), (0, .nameAndType 5 12), (0, u "([D)V"), (0, .methodref 8 14), (0, .nameAndType 15 16), (0, u "shareAt"), (0, u "(I)D"), (0, .class_ 18), (0, u "com/example/unhurried_frontier/unhurriedfrontier/CrawlOrderShareAtPinLaw"), (2, u "law"), (0, u "(IIIIII)Z")] 5

def k1m0 : Method := { name := "<init>", desc := "()V", sig := { parameters := [], returnType := none }, accessFlags := 1, code := none }
def k1c1 : Code := { maxStack := 4, maxLocals := 16, code := code, exceptionTable := #[], attributes := #[] }
def k1m1 : Method := { name := "law", desc := "(IIIIII)Z", sig := { parameters := [.int, .int, .int, .int, .int, .int], returnType := some .boolean }, accessFlags := 9, code := some k1c1 }
/-- com/example/unhurried_frontier/unhurriedfrontier/CrawlOrderShareAtPinLaw -/
def k1 : Class := { plain "com/example/unhurried_frontier/unhurriedfrontier/CrawlOrderShareAtPinLaw" (some 0) with
  accessFlags := 49
  interfaces := #[]
  cf := some (fileOf pool1 17 #[] #[{ accessFlags := 1, nameIndex := 5, descriptorIndex := 6, attributes := #[] }, { accessFlags := 9, nameIndex := 21, descriptorIndex := 22, attributes := #[] }] 49 2 #[] #[])
  fields := #[]
  methods := #[k1m0, k1m1]
  instanceTypes := #[]
  staticTypes := #[]
  resolved := Array.replicate 28 none
  statics := none }

def pool2 : Array CpInfo := pool [(1, .methodref 2 3), (0, .class_ 4), (0, .nameAndType 5 6), (0, u "java/lang/Object"), (0, u "<init>"), (0, u "()V"), (0, .fieldref 8 9), (0, .class_ 10), (0, .nameAndType 11 12), (0, u "com/example/unhurried_frontier/unhurriedfrontier/CrawlOrder"), (0, u "rank"), (0, u "[D"), (0, .fieldref 8 14), (0, .nameAndType 15 12), (0, u "gathered"), (0, .long 100), (24, u "([D)V"), (5, u "shareAt"), (0, u "(I)D")] 3

def k2c0 : Code := { maxStack := 6, maxLocals := 4, code := prog_1_method_1_code, exceptionTable := #[], attributes := #[] }
def k2m0 : Method := { name := "<init>", desc := "([D)V", sig := { parameters := [(.array .double)], returnType := none }, accessFlags := 0, code := some k2c0 }
def k2c1 : Code := { maxStack := 5, maxLocals := 2, code := prog_1_method_3_code, exceptionTable := #[], attributes := #[] }
def k2m1 : Method := { name := "shareAt", desc := "(I)D", sig := { parameters := [.int], returnType := some .double }, accessFlags := 0, code := some k2c1 }
/-- com/example/unhurried_frontier/unhurriedfrontier/CrawlOrder -/
def k2 : Class := { plain "com/example/unhurried_frontier/unhurriedfrontier/CrawlOrder" (some 0) with
  accessFlags := 48
  interfaces := #[]
  cf := some (fileOf pool2 8 #[] #[{ accessFlags := 0, nameIndex := 5, descriptorIndex := 41, attributes := #[] }, { accessFlags := 0, nameIndex := 47, descriptorIndex := 48, attributes := #[] }] 48 2 #[] #[{ accessFlags := 18, nameIndex := 11, descriptorIndex := 12, attributes := #[] }, { accessFlags := 18, nameIndex := 15, descriptorIndex := 12, attributes := #[] }])
  fields := #[{ name := "rank", type := (.array .double), accessFlags := 18, slot := 0, constantValue := 0 }, { name := "gathered", type := (.array .double), accessFlags := 18, slot := 1, constantValue := 0 }]
  methods := #[k2m0, k2m1]
  instanceTypes := #[(.array .double), (.array .double)]
  staticTypes := #[]
  resolved := Array.replicate 52 none
  statics := none }

def pool3 : Array CpInfo := pool [(1, u "java/lang/Cloneable"), (0, .class_ 1), (0, u "java/lang/Object"), (0, .class_ 3)] 3

/-- java/lang/Cloneable -/
def k3 : Class := { plain "java/lang/Cloneable" (some 0) with
  accessFlags := 1537
  interfaces := #[]
  cf := some (fileOf pool3 2 #[] #[] 1537 4 #[] #[])
  fields := #[]
  methods := #[]
  instanceTypes := #[]
  staticTypes := #[]
  resolved := Array.replicate 8 none
  statics := none }

def pool4 : Array CpInfo := pool [(1, u "java/io/Serializable"), (0, .class_ 1), (0, u "java/lang/Object"), (0, .class_ 3)] 3

/-- java/io/Serializable -/
def k4 : Class := { plain "java/io/Serializable" (some 0) with
  accessFlags := 1537
  interfaces := #[]
  cf := some (fileOf pool4 2 #[] #[] 1537 4 #[] #[])
  fields := #[]
  methods := #[]
  instanceTypes := #[]
  staticTypes := #[]
  resolved := Array.replicate 8 none
  statics := none }

/-- the primitive byte -/
def k5 : Class := { plain "byte" none with kind := .primitive 'B', accessFlags := 0x411 }
/-- [B -/
def k6 : Class := { plain "[B" (some 0) with kind := .array 5 .byte, interfaces := #[3, 4], accessFlags := 1041 }

/-- the primitive int -/
def k7 : Class := { plain "int" none with kind := .primitive 'I', accessFlags := 0x411 }
/-- [I -/
def k8 : Class := { plain "[I" (some 0) with kind := .array 7 .int, interfaces := #[3, 4], accessFlags := 1041 }

/-- the primitive double -/
def k9 : Class := { plain "double" none with kind := .primitive 'D', accessFlags := 0x411 }
/-- [D -/
def k10 : Class := { plain "[D" (some 0) with kind := .array 9 .double, interfaces := #[3, 4], accessFlags := 1041 }
def heap : Heap := #[]
def classes : Array Class := #[k0, k1, k2, k3, k4, k5, k6, k7, k8, k9, k10]
def interned : List (Array UInt16 × Addr) := []
def slotsUsed : Nat := 0
def theMethod : MethodId := ⟨1, 1⟩
def args0 : Array Value := #[.int 3, .int 7, .int 5, .int 6, .int 8, .int 9]
def aboutOver (below : List Frame) : State where
  vm := { classes := classes, interned := interned.toArray }
  heap := heap
  slotsUsed := slotsUsed
  threads := #[{ frames := .invoking theMethod args0 :: below }]
def below0 : List Frame := [.native { method := ⟨0, 0⟩, args := #[] }]
def about1 : State := aboutOver below0
def p0 : Program := .bare "" "" ""
def e0 : Env := launch0.env 0 0 0
theorem w_frames : about1.frames = Frame.invoking theMethod args0 :: below0 := rfl
set_option maxRecDepth 65536 in
theorem w_args : argsFit about1.vm theMethod args0 = true := by decide +kernel
set_option maxRecDepth 65536 in
theorem w_heap : heapFits about1 = true := by decide +kernel
set_option maxRecDepth 65536 in
theorem w_runnable : about1.curStatus? = some .runnable := by decide +kernel
set_option maxRecDepth 65536 in
theorem w_alone : about1.alone = true := by decide +kernel
set_option maxRecDepth 65536 in
theorem w_named : about1.methodNamed? x = some theMethod := by decide +kernel
set_option maxRecDepth 65536 in
theorem w_hears : about1.hears theMethod below0 = true := by decide +kernel
set_option maxRecDepth 65536 in
theorem w_ripe : about1.ripe theMethod args0 below0 = true := by decide +kernel
theorem w_running : about1.status = .running := rfl
set_option maxRecDepth 65536 in
theorem w_room : about1.hasRoom e0.platform room_1 = true :=
  launch0.hasRoom_least _ room_1 (by decide +kernel) (by decide +kernel) (by decide +kernel) (by decide +kernel) (by decide +kernel) (by decide +kernel)
theorem allAtoms_all (ts : List Jvm.Cond) (a : Array Jvm.Value) (st : Jvm.State) : (allAtoms ts).before a st = ts.all (fun c => c.before a st) := by
  induction ts with
  | nil => rfl
  | cons c t ih =>
    show (Jvm.Cond.and c (allAtoms t)).before a st = _
    rw [Jvm.Cond.before_and, ih, List.all_cons]
def words1 : List Jvm.Cond := Jvm.Cond.code x code maxLocals ret :: tables_1
/-- a 'code' word, met by the world's own term for the bytes: nothing is compared byte by byte -/
theorem code_word {y : MethodName} {bytes : ByteArray} {mx : Nat} {rt : Option FieldType} {a : Array Value} {s : State} {m : MethodId} {meth : Method} {c : Code} (h1 : s.methodNamed? y = some m) (h2 : s.vm.method? m = some meth) (h3 : meth.code = some c) (h4 : c.code = bytes)
    (h5 : (c.maxLocals == mx && c.exceptionTable.isEmpty && decide (c.maxStack ≤ mostOperands) && decide (meth.sig.returnType = rt) && !meth.locks && decide (parseMethodDescriptor y.desc = some meth.sig)) = true) : (Jvm.Cond.code y bytes mx rt).before a s = true := by
  simp only [Bool.and_eq_true, beq_iff_eq, Bool.not_eq_true', decide_eq_true_eq] at h5
  obtain ⟨⟨⟨⟨⟨g1, g2⟩, g3⟩, g4⟩, g5⟩, g6⟩ := h5
  simp [Cond.before, Cond.holds, Cond.value, h1, h2, h3, h4, g1, g2, g3, g4, g5, g6]
def isCode : Jvm.Cond → Bool
  | .code _ _ _ _ => true
  | _ => false
theorem all_split {L : List Jvm.Cond} {P : Jvm.Cond → Bool} (h1 : L.all (fun c => isCode c || P c) = true) (h2 : ∀ c ∈ L.filter isCode, P c = true) : L.all P = true := by
  refine List.all_eq_true.mpr fun c hc => ?_
  have h := List.all_eq_true.mp h1 c hc
  rcases Bool.eq_false_or_eq_true (isCode c) with hi | hi
  · exact h2 c (List.mem_filter.mpr ⟨hc, hi⟩)
  · simpa [hi] using h
set_option maxRecDepth 65536 in
theorem w_c0 : (Jvm.Cond.code x code maxLocals ret).before args0 about1 = true := code_word (m := ⟨1, 1⟩) (meth := k1m1) (c := k1c1) (by decide +kernel) rfl rfl rfl (by decide +kernel)
set_option maxRecDepth 65536 in
theorem w_c1 : (Jvm.Cond.code ({ cls := "com/example/unhurried_frontier/unhurriedfrontier/CrawlOrder", name := "<init>", desc := "([D)V" } : Jvm.MethodName) prog_1_method_1_code (4 : Nat) (Option.none : Option Jvm.ClassFile.FieldType)).before args0 about1 = true := code_word (m := ⟨2, 0⟩) (meth := k2m0) (c := k2c0) (by decide +kernel) rfl rfl rfl (by decide +kernel)
set_option maxRecDepth 65536 in
theorem w_c2 : (Jvm.Cond.code ({ cls := "java/lang/Object", name := "<init>", desc := "()V" } : Jvm.MethodName) object_method_1_code (1 : Nat) (Option.none : Option Jvm.ClassFile.FieldType)).before args0 about1 = true := code_word (m := ⟨0, 0⟩) (meth := k0m0) (c := k0c0) (by decide +kernel) rfl rfl rfl (by decide +kernel)
set_option maxRecDepth 65536 in
theorem w_c3 : (Jvm.Cond.code ({ cls := "com/example/unhurried_frontier/unhurriedfrontier/CrawlOrder", name := "shareAt", desc := "(I)D" } : Jvm.MethodName) prog_1_method_3_code (2 : Nat) (Option.some Jvm.ClassFile.FieldType.double)).before args0 about1 = true := code_word (m := ⟨2, 1⟩) (meth := k2m1) (c := k2c1) (by decide +kernel) rfl rfl rfl (by decide +kernel)
def codes1 : List Jvm.Cond := [Jvm.Cond.code x code maxLocals ret, Jvm.Cond.code ({ cls := "com/example/unhurried_frontier/unhurriedfrontier/CrawlOrder", name := "<init>", desc := "([D)V" } : Jvm.MethodName) prog_1_method_1_code (4 : Nat) (Option.none : Option Jvm.ClassFile.FieldType), Jvm.Cond.code ({ cls := "java/lang/Object", name := "<init>", desc := "()V" } : Jvm.MethodName) object_method_1_code (1 : Nat) (Option.none : Option Jvm.ClassFile.FieldType), Jvm.Cond.code ({ cls := "com/example/unhurried_frontier/unhurriedfrontier/CrawlOrder", name := "shareAt", desc := "(I)D" } : Jvm.MethodName) prog_1_method_3_code (2 : Nat) (Option.some Jvm.ClassFile.FieldType.double)]
set_option maxRecDepth 65536 in
theorem codes_eq : words1.filter isCode = codes1 := rfl
theorem w_codes : ∀ c ∈ words1.filter isCode, c.before args0 about1 = true := by
  rw [codes_eq]
  intro c hc
  simp only [codes1, List.mem_cons, List.not_mem_nil, or_false] at hc
  rcases hc with rfl | rfl | rfl | rfl
  · exact w_c0
  · exact w_c1
  · exact w_c2
  · exact w_c3
set_option maxRecDepth 65536 in
theorem w_t1 : words1.all (fun c => isCode c || c.before args0 about1) = true := by decide +kernel
theorem w_tables : (allAtoms (Jvm.Cond.code x code maxLocals ret :: tables_1)).before args0 about1 = true := by
  rw [allAtoms_all]
  show words1.all (fun c => c.before args0 about1) = true
  refine all_split ?_ w_codes
  rw [w_t1]
set_option maxRecDepth 65536 in
theorem w_case : (Jvm.Cond.and given_1 narrow_1).before args0 about1 = true := by decide +kernel
theorem w_applies : (headSpec (Jvm.Cond.code x code maxLocals ret :: tables_1) room_1).applies x e0.platform about1 = true :=
  (Spec.applies_iff w_frames).mpr ⟨w_running, w_runnable, w_alone, w_named, w_hears, w_ripe, w_room, w_tables⟩
theorem atStart : AtStart classFile x code maxLocals ret World_1 tables_1 room_1 Calls_1 rest_1 Pre_1 launch0 p0 e0 about1 theMethod args0 below0 :=
  ⟨lists_1, trivial, launch0.admits_env _ _ _, launch0.least_env, fairChoices_fair.cas, fairChoices_fair.clock, w_frames, w_args, w_heap, w_applies, trivial, trivial, w_case⟩
end start1
theorem witness_1 : WitnessClaimed_1 := ⟨start1.p0, start1.e0, start1.about1, start1.theMethod, start1.args0, start1.below0, start1.atStart⟩
end Jvm.Pilot.@@N@@
