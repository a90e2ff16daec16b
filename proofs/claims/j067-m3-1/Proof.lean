import JvmDerived
import JvmDerived.Pilot.@@N@@Statement
import JvmDerived.Pilot.@@N@@Code
set_option linter.unusedVariables false
set_option linter.unusedSimpArgs false
namespace Jvm.OwnL
open Sem ClassFile Op Lib Bundle Jvm.Stand Jvm.Free Jvm.LawKit Jvm.RoadKit
/-- where a walk stands: the tables v at hand (String constants of EL, if loaded, hold their text), the heap h (the entry heap h0 but for ws and what is new; the case's own start unchanged), what is safely no constant's cell (sf), and the frame -/
def Wl (Z : State) (a0 : Array Value) (own : String) (p : Program) (l : Launch) (e : Env) (R : Room) (s : State) (m : MethodId) (args : Array Value) (below : List Frame) (meth : Method) (c : Code) (code : ByteArray) (mx : Nat) (B : State) (EL : List (String × Nat)) (h0 : Heap) (n0 : Nat) (ws sf : List Addr) (h : Heap) (cells slots pc : Nat) (L : Array Slot) (S : List Value) : Prop :=
  (p.tables.exec = Jvm.exec ∧ c.code = code ∧ c.maxLocals = mx ∧ EW Z a0 EL) ∧ (Old Z n0 h ∧ Keep h0 h ws ∧ (∀ x ∈ ws, n0 ≤ x) ∧ n0 ≤ h0.size ∧ s.heap = h0) ∧
    ∃ (v : Vm) (k0 : Nat) (T : State) (locs : List Loc), Stand p l e R (s.setVm v) m args below meth c T locs cells slots ∧ (s.Since v k0 ∧ k0 ≤ h.size ∧ Z.Warmed39 v ∧ v.findClass own = some m.cls) ∧ (CHr Z EL s.vm h0 v h ∧ ∀ x ∈ sf, x < h.size ∧ Safe Z EL v h x) ∧ Fr n0 locs ∧ T.heap = h ∧ ∀ t, Steps p.tables e below (T.setTop (mkF m pc L S)) t → Steps p.tables e below B t
section OwnL
variable {Z : State} {own : String} {p : Program} {l : Launch} {e : Env} {R : Room} {s : State} {m : MethodId} {args : Array Value} {below : List Frame} {meth : Method} {c : Code} {code : ByteArray} {mx : Nat} {B : State} {EL : List (String × Nat)} {h0 : Heap} {n0 : Nat} {ws sf : List Addr} {h h' : Heap} {cells slots pc : Nat} {L L' : Array Slot} {S : List Value} {a0 : Array Value}
theorem safeNew {v : Vm} (E : Ext h h') (H : CHv Z EL v h) (F : ∀ x ∈ sf, x < h.size ∧ Safe Z EL v h x) (lt : h.size < h'.size) : ∀ x ∈ h.size :: sf, x < h'.size ∧ Safe Z EL v h' x := fun x q => by
  rcases List.mem_cons.mp q with rfl | q
  · exact ⟨lt, (Safe.new (Nat.le_refl _)).ext E H⟩
  · exact ⟨Nat.lt_of_lt_of_le (F x q).1 E.1, (F x q).2.ext E H⟩
theorem safeKeep {v : Vm} {wsC : List Addr} (K : Keep h h' wsC) (hs : ∀ x ∈ wsC, Safe Z EL v h x) (H : CHv Z EL v h) (F : ∀ x ∈ sf, x < h.size ∧ Safe Z EL v h x) : ∀ x ∈ sf, x < h'.size ∧ Safe Z EL v h' x := fun x q =>
  ⟨Nat.lt_of_lt_of_le (F x q).1 K.1, (F x q).2.keep K hs H⟩
theorem Wl.keep0 (G : Wl Z a0 own p l e R s m args below meth c code mx B EL h0 n0 ws sf h cells slots pc L S) : Keep h0 h ws := G.2.1.2.1
theorem Wl.old (G : Wl Z a0 own p l e R s m args below meth c code mx B EL h0 n0 ws sf h cells slots pc L S) : Old Z n0 h := G.2.1.1
theorem Wl.n0le (G : Wl Z a0 own p l e R s m args below meth c code mx B EL h0 n0 ws sf h cells slots pc L S) : n0 ≤ h.size := Nat.le_trans G.2.1.2.2.2.1 G.2.1.2.1.1
theorem Wl.sz (G : Wl Z a0 own p l e R s m args below meth c code mx B EL h0 n0 ws sf h cells slots pc L S) : h0.size ≤ h.size := G.2.1.2.1.1
theorem Wl.nw (G : Wl Z a0 own p l e R s m args below meth c code mx B EL h0 n0 ws sf h cells slots pc L S) {x : Addr} (q : x ∈ ws ∨ h0.size ≤ x) : n0 ≤ x := q.elim (G.2.1.2.2.1 x) (Nat.le_trans G.2.1.2.2.2.1)
theorem Wl.sta {C n d : String} {v : Value} (G : Wl Z a0 own p l e R s m args below meth c code mx B EL h0 n0 ws sf h cells slots pc L S) (F : Sta Z Z.heap C n d v) : Sta Z h C n d v := F.ext G.2.1.1.2
theorem Wl.plain {pc' : Nat} {S' : List Value} (G : Wl Z a0 own p l e R s m args below meth c code mx B EL h0 n0 ws sf h cells slots pc L S) (st : ∀ T : State, At T m c below → p.tables.exec = Jvm.exec → c.code = code → ∀ t, Steps p.tables e below (T.setTop (mkF m pc' L' S')) t → Steps p.tables e below (T.setTop (mkF m pc L S)) t) : Wl Z a0 own p l e R s m args below meth c code mx B EL h0 n0 ws sf h cells slots pc' L' (S') := by
  obtain ⟨a, b, v, k0, T, locs, X, x1, x2, N, eT, k⟩ := G
  exact ⟨a, b, v, k0, T, locs, X, x1, x2, N, eT, fun t q => k t (st T X.here a.1 a.2.1 t q)⟩
theorem Wl.nameI {x : Int32} (G : Wl Z a0 own p l e R s m args below meth c code mx B EL h0 n0 ws sf h cells slots pc L (.int x :: S)) : ∃ v, v = x ∧ Wl Z a0 own p l e R s m args below meth c code mx B EL h0 n0 ws sf h cells slots pc L (.int v :: S) := ⟨x, rfl, G⟩
theorem Wl.nameJ {x : Int64} (G : Wl Z a0 own p l e R s m args below meth c code mx B EL h0 n0 ws sf h cells slots pc L (.long x :: S)) : ∃ v, v = x ∧ Wl Z a0 own p l e R s m args below meth c code mx B EL h0 n0 ws sf h cells slots pc L (.long v :: S) := ⟨x, rfl, G⟩
theorem Wl.top {x y : Value} (G : Wl Z a0 own p l e R s m args below meth c code mx B EL h0 n0 ws sf h cells slots pc L (x :: S)) (q : x = y) : Wl Z a0 own p l e R s m args below meth c code mx B EL h0 n0 ws sf h cells slots pc L (y :: S) := q ▸ G
theorem Wl.cast {L' : Array Slot} {S' : List Value} (G : Wl Z a0 own p l e R s m args below meth c code mx B EL h0 n0 ws sf h cells slots pc L S) (q : L = L') (r : S = S') : Wl Z a0 own p l e R s m args below meth c code mx B EL h0 n0 ws sf h cells slots pc L' (S') := q ▸ r ▸ G
theorem Wl.more (G : Wl Z a0 own p l e R s m args below meth c code mx B EL h0 n0 ws sf h cells slots pc L S) {k n : Nat} (h1 : cells ≤ k) (h2 : slots ≤ n) : Wl Z a0 own p l e R s m args below meth c code mx B EL h0 n0 ws sf h k n pc L S := by
  obtain ⟨a, b, v, k0, T, locs, X, r⟩ := G
  exact ⟨a, b, v, k0, T, locs, X.more h1 h2, r⟩
theorem Wl.less {sf' : List Addr} (G : Wl Z a0 own p l e R s m args below meth c code mx B EL h0 n0 ws sf h cells slots pc L S) (q : ∀ x ∈ sf', x ∈ sf) : Wl Z a0 own p l e R s m args below meth c code mx B EL h0 n0 ws sf' h cells slots pc L S := by
  obtain ⟨a, b, v, k0, T, locs, X, x1, x2, r⟩ := G
  exact ⟨a, b, v, k0, T, locs, X, x1, ⟨x2.1, fun x y => x2.2 x (q x y)⟩, r⟩
theorem Wl.aload {k : Nat} {v : Value} (G : Wl Z a0 own p l e R s m args below meth c code mx B EL h0 n0 ws sf h cells slots pc L S) (pc' : Nat) (hd : decode code pc = .ok (.aload k, 2)) (hl : L[k]? = some (.val v)) (hv : v.isRef = true) (hp : pc + 2 = pc') : Wl Z a0 own p l e R s m args below meth c code mx B EL h0 n0 ws sf h cells slots pc' L (v :: S) :=
  G.plain fun T H hx hy t k => XS.aload (g := mkF m pc L (S)) H hx rfl (by rw [hy]; exact hd) hl hv (by subst hp; exact k)
theorem Wl.aloadN {k : Fin 4} {v : Value} (G : Wl Z a0 own p l e R s m args below meth c code mx B EL h0 n0 ws sf h cells slots pc L S) (pc' : Nat) (hd : decode code pc = .ok (.aload_n k, 1)) (hl : L[k.val]? = some (.val v)) (hv : v.isRef = true) (hp : pc + 1 = pc') : Wl Z a0 own p l e R s m args below meth c code mx B EL h0 n0 ws sf h cells slots pc' L (v :: S) :=
  G.plain fun T H hx hy t k => XS.aloadN (g := mkF m pc L (S)) H hx rfl (by rw [hy]; exact hd) hl hv (by subst hp; exact k)
theorem Wl.iload {k : Nat} {v : Int32} (G : Wl Z a0 own p l e R s m args below meth c code mx B EL h0 n0 ws sf h cells slots pc L S) (pc' : Nat) (hd : decode code pc = .ok (.iload k, 2)) (hl : L[k]? = some (.val (.int v))) (hp : pc + 2 = pc') : Wl Z a0 own p l e R s m args below meth c code mx B EL h0 n0 ws sf h cells slots pc' L (.int v :: S) :=
  G.plain fun T H hx hy t k => XS.iload (g := mkF m pc L (S)) H hx rfl (by rw [hy]; exact hd) hl (by subst hp; exact k)
theorem Wl.iloadN {k : Fin 4} {v : Int32} (G : Wl Z a0 own p l e R s m args below meth c code mx B EL h0 n0 ws sf h cells slots pc L S) (pc' : Nat) (hd : decode code pc = .ok (.iload_n k, 1)) (hl : L[k.val]? = some (.val (.int v))) (hp : pc + 1 = pc') : Wl Z a0 own p l e R s m args below meth c code mx B EL h0 n0 ws sf h cells slots pc' L (.int v :: S) :=
  G.plain fun T H hx hy t k => XS.iloadN (g := mkF m pc L (S)) H hx rfl (by rw [hy]; exact hd) hl (by subst hp; exact k)
theorem Wl.lload {k : Nat} {v : Int64} (G : Wl Z a0 own p l e R s m args below meth c code mx B EL h0 n0 ws sf h cells slots pc L S) (pc' : Nat) (hd : decode code pc = .ok (.lload k, 2)) (hl : L[k]? = some (.val (.long v))) (hp : pc + 2 = pc') : Wl Z a0 own p l e R s m args below meth c code mx B EL h0 n0 ws sf h cells slots pc' L (.long v :: S) :=
  G.plain fun T H hx hy t k => XT.lload (g := mkF m pc L (S)) H hx rfl (by rw [hy]; exact hd) hl (by subst hp; exact k)
theorem Wl.lloadN {k : Fin 4} {v : Int64} (G : Wl Z a0 own p l e R s m args below meth c code mx B EL h0 n0 ws sf h cells slots pc L S) (pc' : Nat) (hd : decode code pc = .ok (.lload_n k, 1)) (hl : L[k.val]? = some (.val (.long v))) (hp : pc + 1 = pc') : Wl Z a0 own p l e R s m args below meth c code mx B EL h0 n0 ws sf h cells slots pc' L (.long v :: S) :=
  G.plain fun T H hx hy t k => XT.lloadN (g := mkF m pc L (S)) H hx rfl (by rw [hy]; exact hd) hl (by subst hp; exact k)
theorem Wl.dload {k : Nat} {v : UInt64} (G : Wl Z a0 own p l e R s m args below meth c code mx B EL h0 n0 ws sf h cells slots pc L S) (pc' : Nat) (hd : decode code pc = .ok (.dload k, 2)) (hl : L[k]? = some (.val (.double v))) (hp : pc + 2 = pc') : Wl Z a0 own p l e R s m args below meth c code mx B EL h0 n0 ws sf h cells slots pc' L (.double v :: S) :=
  G.plain fun T H hx hy t k => XS.dload (g := mkF m pc L (S)) H hx rfl (by rw [hy]; exact hd) hl (by subst hp; exact k)
theorem Wl.dloadN {k : Fin 4} {v : UInt64} (G : Wl Z a0 own p l e R s m args below meth c code mx B EL h0 n0 ws sf h cells slots pc L S) (pc' : Nat) (hd : decode code pc = .ok (.dload_n k, 1)) (hl : L[k.val]? = some (.val (.double v))) (hp : pc + 1 = pc') : Wl Z a0 own p l e R s m args below meth c code mx B EL h0 n0 ws sf h cells slots pc' L (.double v :: S) :=
  G.plain fun T H hx hy t k => XS.dloadN (g := mkF m pc L (S)) H hx rfl (by rw [hy]; exact hd) hl (by subst hp; exact k)
theorem Wl.istore {k : Nat} {x : Int32} (G : Wl Z a0 own p l e R s m args below meth c code mx B EL h0 n0 ws sf h cells slots pc L (.int x :: S)) (pc' : Nat) (L' : Array Slot) (hd : decode code pc = .ok (.istore k, 2)) (hl : storeLocals L k (.int x) = some L') (hp : pc + 2 = pc') : Wl Z a0 own p l e R s m args below meth c code mx B EL h0 n0 ws sf h cells slots pc' L' S :=
  G.plain fun T H hx hy t k => XS.istore (g := mkF m pc L (.int x :: S)) H hx rfl (by rw [hy]; exact hd) rfl hl (by subst hp; exact k)
theorem Wl.istoreN {k : Fin 4} {x : Int32} (G : Wl Z a0 own p l e R s m args below meth c code mx B EL h0 n0 ws sf h cells slots pc L (.int x :: S)) (pc' : Nat) (L' : Array Slot) (hd : decode code pc = .ok (.istore_n k, 1)) (hl : storeLocals L k.val (.int x) = some L') (hp : pc + 1 = pc') : Wl Z a0 own p l e R s m args below meth c code mx B EL h0 n0 ws sf h cells slots pc' L' S :=
  G.plain fun T H hx hy t k => XS.istoreN (g := mkF m pc L (.int x :: S)) H hx rfl (by rw [hy]; exact hd) rfl hl (by subst hp; exact k)
theorem Wl.lstore {k : Nat} {x : Int64} (G : Wl Z a0 own p l e R s m args below meth c code mx B EL h0 n0 ws sf h cells slots pc L (.long x :: S)) (pc' : Nat) (L' : Array Slot) (hd : decode code pc = .ok (.lstore k, 2)) (hl : storeLocals L k (.long x) = some L') (hp : pc + 2 = pc') : Wl Z a0 own p l e R s m args below meth c code mx B EL h0 n0 ws sf h cells slots pc' L' S :=
  G.plain fun T H hx hy t k => XT.lstore (g := mkF m pc L (.long x :: S)) H hx rfl (by rw [hy]; exact hd) rfl hl (by subst hp; exact k)
theorem Wl.lstoreN {k : Fin 4} {x : Int64} (G : Wl Z a0 own p l e R s m args below meth c code mx B EL h0 n0 ws sf h cells slots pc L (.long x :: S)) (pc' : Nat) (L' : Array Slot) (hd : decode code pc = .ok (.lstore_n k, 1)) (hl : storeLocals L k.val (.long x) = some L') (hp : pc + 1 = pc') : Wl Z a0 own p l e R s m args below meth c code mx B EL h0 n0 ws sf h cells slots pc' L' S :=
  G.plain fun T H hx hy t k => XT.lstoreN (g := mkF m pc L (.long x :: S)) H hx rfl (by rw [hy]; exact hd) rfl hl (by subst hp; exact k)
theorem Wl.dstore {k : Nat} {x : UInt64} (G : Wl Z a0 own p l e R s m args below meth c code mx B EL h0 n0 ws sf h cells slots pc L (.double x :: S)) (pc' : Nat) (L' : Array Slot) (hd : decode code pc = .ok (.dstore k, 2)) (hl : storeLocals L k (.double x) = some L') (hp : pc + 2 = pc') : Wl Z a0 own p l e R s m args below meth c code mx B EL h0 n0 ws sf h cells slots pc' L' S :=
  G.plain fun T H hx hy t k => XS.dstore (g := mkF m pc L (.double x :: S)) H hx rfl (by rw [hy]; exact hd) rfl hl (by subst hp; exact k)
theorem Wl.dstoreN {k : Fin 4} {x : UInt64} (G : Wl Z a0 own p l e R s m args below meth c code mx B EL h0 n0 ws sf h cells slots pc L (.double x :: S)) (pc' : Nat) (L' : Array Slot) (hd : decode code pc = .ok (.dstore_n k, 1)) (hl : storeLocals L k.val (.double x) = some L') (hp : pc + 1 = pc') : Wl Z a0 own p l e R s m args below meth c code mx B EL h0 n0 ws sf h cells slots pc' L' S :=
  G.plain fun T H hx hy t k => XS.dstoreN (g := mkF m pc L (.double x :: S)) H hx rfl (by rw [hy]; exact hd) rfl hl (by subst hp; exact k)
theorem Wl.astore {k : Nat} {x : Value} (G : Wl Z a0 own p l e R s m args below meth c code mx B EL h0 n0 ws sf h cells slots pc L (x :: S)) (pc' : Nat) (L' : Array Slot) (hd : decode code pc = .ok (.astore k, 2)) (hv : x.isRef = true) (hl : storeLocals L k x = some L') (hp : pc + 2 = pc') : Wl Z a0 own p l e R s m args below meth c code mx B EL h0 n0 ws sf h cells slots pc' L' S :=
  G.plain fun T H hx hy t k => XS.astore (g := mkF m pc L (x :: S)) H hx rfl (by rw [hy]; exact hd) rfl hv hl (by subst hp; exact k)
theorem Wl.astoreN {k : Fin 4} {x : Value} (G : Wl Z a0 own p l e R s m args below meth c code mx B EL h0 n0 ws sf h cells slots pc L (x :: S)) (pc' : Nat) (L' : Array Slot) (hd : decode code pc = .ok (.astore_n k, 1)) (hv : x.isRef = true) (hl : storeLocals L k.val x = some L') (hp : pc + 1 = pc') : Wl Z a0 own p l e R s m args below meth c code mx B EL h0 n0 ws sf h cells slots pc' L' S :=
  G.plain fun T H hx hy t k => XS.astoreN (g := mkF m pc L (x :: S)) H hx rfl (by rw [hy]; exact hd) rfl hv hl (by subst hp; exact k)
theorem Wl.iinc {k : Nat} {cst : Int} {x : Int32} (G : Wl Z a0 own p l e R s m args below meth c code mx B EL h0 n0 ws sf h cells slots pc L S) (pc' : Nat) (L' : Array Slot) (hd : decode code pc = .ok (.iinc k cst, 3)) (hl : L[k]? = some (.val (.int x))) (hl' : storeLocals L k (.int (x + Int32.ofInt cst)) = some L') (hp : pc + 3 = pc') : Wl Z a0 own p l e R s m args below meth c code mx B EL h0 n0 ws sf h cells slots pc' L' S :=
  G.plain fun T H hx hy t k => XS.iinc (g := mkF m pc L (S)) H hx rfl (by rw [hy]; exact hd) hl hl' (by subst hp; exact k)
theorem Wl.iincV {k : Nat} {cst : Int} {x : Int32} (G : Wl Z a0 own p l e R s m args below meth c code mx B EL h0 n0 ws sf h cells slots pc L S) (pc' : Nat) (L' : Array Slot) (y : Int32) (hd : decode code pc = .ok (.iinc k cst, 3)) (hl : L[k]? = some (.val (.int x))) (hv : x + Int32.ofInt cst = y) (hl' : storeLocals L k (.int y) = some L') (hp : pc + 3 = pc') : Wl Z a0 own p l e R s m args below meth c code mx B EL h0 n0 ws sf h cells slots pc' L' S :=
  G.plain fun T H hx hy t k => XS.iinc (g := mkF m pc L (S)) H hx rfl (by rw [hy]; exact hd) hl (by rw [hv]; exact hl') (by subst hp; exact k)
theorem Wl.iconst {i : Int} (G : Wl Z a0 own p l e R s m args below meth c code mx B EL h0 n0 ws sf h cells slots pc L S) (pc' : Nat) (v : Int32) (hd : decode code pc = .ok (.iconst i, 1)) (hv : Int32.ofInt i = v) (hp : pc + 1 = pc') : Wl Z a0 own p l e R s m args below meth c code mx B EL h0 n0 ws sf h cells slots pc' L (.int v :: S) :=
  G.plain fun T H hx hy t k => XS.iconst (g := mkF m pc L (S)) H hx rfl (by rw [hy]; exact hd) (by subst hv hp; exact k)
theorem Wl.bipush {i : Int} (G : Wl Z a0 own p l e R s m args below meth c code mx B EL h0 n0 ws sf h cells slots pc L S) (pc' : Nat) (v : Int32) (hd : decode code pc = .ok (.bipush i, 2)) (hv : (Int8.ofInt i).toInt32 = v) (hp : pc + 2 = pc') : Wl Z a0 own p l e R s m args below meth c code mx B EL h0 n0 ws sf h cells slots pc' L (.int v :: S) :=
  G.plain fun T H hx hy t k => XS.bipush (g := mkF m pc L (S)) H hx rfl (by rw [hy]; exact hd) (by subst hv hp; exact k)
theorem Wl.sipush {i : Int} (G : Wl Z a0 own p l e R s m args below meth c code mx B EL h0 n0 ws sf h cells slots pc L S) (pc' : Nat) (v : Int32) (hd : decode code pc = .ok (.sipush i, 3)) (hv : (Int16.ofInt i).toInt32 = v) (hp : pc + 3 = pc') : Wl Z a0 own p l e R s m args below meth c code mx B EL h0 n0 ws sf h cells slots pc' L (.int v :: S) :=
  G.plain fun T H hx hy t k => XS.sipush (g := mkF m pc L (S)) H hx rfl (by rw [hy]; exact hd) (by subst hv hp; exact k)
theorem Wl.lconst0  (G : Wl Z a0 own p l e R s m args below meth c code mx B EL h0 n0 ws sf h cells slots pc L S) (pc' : Nat) (hd : decode code pc = .ok (.lconst 0, 1)) (hp : pc + 1 = pc') : Wl Z a0 own p l e R s m args below meth c code mx B EL h0 n0 ws sf h cells slots pc' L (.long 0 :: S) :=
  G.plain fun T H hx hy t k => XT.lconst (g := mkF m pc L (S)) H hx rfl (by rw [hy]; exact hd) (by subst hp; exact k)
theorem Wl.lconst1  (G : Wl Z a0 own p l e R s m args below meth c code mx B EL h0 n0 ws sf h cells slots pc L S) (pc' : Nat) (hd : decode code pc = .ok (.lconst 1, 1)) (hp : pc + 1 = pc') : Wl Z a0 own p l e R s m args below meth c code mx B EL h0 n0 ws sf h cells slots pc' L (.long 1 :: S) :=
  G.plain fun T H hx hy t k => XT.lconst (g := mkF m pc L (S)) H hx rfl (by rw [hy]; exact hd) (by subst hp; exact k)
theorem Wl.aconstNull  (G : Wl Z a0 own p l e R s m args below meth c code mx B EL h0 n0 ws sf h cells slots pc L S) (pc' : Nat) (hd : decode code pc = .ok (.aconst_null, 1)) (hp : pc + 1 = pc') : Wl Z a0 own p l e R s m args below meth c code mx B EL h0 n0 ws sf h cells slots pc' L (.null :: S) :=
  G.plain fun T H hx hy t k => XS.aconstNull (g := mkF m pc L (S)) H hx rfl (by rw [hy]; exact hd) (by subst hp; exact k)
theorem Wl.iadd {x y : Int32} (G : Wl Z a0 own p l e R s m args below meth c code mx B EL h0 n0 ws sf h cells slots pc L (.int y :: .int x :: S)) (pc' : Nat) (hd : decode code pc = .ok (.iadd, 1)) (hp : pc + 1 = pc') : Wl Z a0 own p l e R s m args below meth c code mx B EL h0 n0 ws sf h cells slots pc' L (.int (x + y) :: S) :=
  G.plain fun T H hx hy t k => XS.iadd (g := mkF m pc L (.int y :: .int x :: S)) H hx rfl (by rw [hy]; exact hd) rfl (by subst hp; exact k)
theorem Wl.isub {x y : Int32} (G : Wl Z a0 own p l e R s m args below meth c code mx B EL h0 n0 ws sf h cells slots pc L (.int y :: .int x :: S)) (pc' : Nat) (hd : decode code pc = .ok (.isub, 1)) (hp : pc + 1 = pc') : Wl Z a0 own p l e R s m args below meth c code mx B EL h0 n0 ws sf h cells slots pc' L (.int (x - y) :: S) :=
  G.plain fun T H hx hy t k => XS.isub (g := mkF m pc L (.int y :: .int x :: S)) H hx rfl (by rw [hy]; exact hd) rfl (by subst hp; exact k)
theorem Wl.imul {x y : Int32} (G : Wl Z a0 own p l e R s m args below meth c code mx B EL h0 n0 ws sf h cells slots pc L (.int y :: .int x :: S)) (pc' : Nat) (hd : decode code pc = .ok (.imul, 1)) (hp : pc + 1 = pc') : Wl Z a0 own p l e R s m args below meth c code mx B EL h0 n0 ws sf h cells slots pc' L (.int (x * y) :: S) :=
  G.plain fun T H hx hy t k => XS.imul (g := mkF m pc L (.int y :: .int x :: S)) H hx rfl (by rw [hy]; exact hd) rfl (by subst hp; exact k)
theorem Wl.iand {x y : Int32} (G : Wl Z a0 own p l e R s m args below meth c code mx B EL h0 n0 ws sf h cells slots pc L (.int y :: .int x :: S)) (pc' : Nat) (hd : decode code pc = .ok (.iand, 1)) (hp : pc + 1 = pc') : Wl Z a0 own p l e R s m args below meth c code mx B EL h0 n0 ws sf h cells slots pc' L (.int (x &&& y) :: S) :=
  G.plain fun T H hx hy t k => XS.iand (g := mkF m pc L (.int y :: .int x :: S)) H hx rfl (by rw [hy]; exact hd) rfl (by subst hp; exact k)
theorem Wl.ior {x y : Int32} (G : Wl Z a0 own p l e R s m args below meth c code mx B EL h0 n0 ws sf h cells slots pc L (.int y :: .int x :: S)) (pc' : Nat) (hd : decode code pc = .ok (.ior, 1)) (hp : pc + 1 = pc') : Wl Z a0 own p l e R s m args below meth c code mx B EL h0 n0 ws sf h cells slots pc' L (.int (x ||| y) :: S) :=
  G.plain fun T H hx hy t k => XT.ior (g := mkF m pc L (.int y :: .int x :: S)) H hx rfl (by rw [hy]; exact hd) rfl (by subst hp; exact k)
theorem Wl.ixor {x y : Int32} (G : Wl Z a0 own p l e R s m args below meth c code mx B EL h0 n0 ws sf h cells slots pc L (.int y :: .int x :: S)) (pc' : Nat) (hd : decode code pc = .ok (.ixor, 1)) (hp : pc + 1 = pc') : Wl Z a0 own p l e R s m args below meth c code mx B EL h0 n0 ws sf h cells slots pc' L (.int (x ^^^ y) :: S) :=
  G.plain fun T H hx hy t k => XT.ixor (g := mkF m pc L (.int y :: .int x :: S)) H hx rfl (by rw [hy]; exact hd) rfl (by subst hp; exact k)
theorem Wl.ishl {x y : Int32} (G : Wl Z a0 own p l e R s m args below meth c code mx B EL h0 n0 ws sf h cells slots pc L (.int y :: .int x :: S)) (pc' : Nat) (hd : decode code pc = .ok (.ishl, 1)) (hp : pc + 1 = pc') : Wl Z a0 own p l e R s m args below meth c code mx B EL h0 n0 ws sf h cells slots pc' L (.int (x <<< (y &&& 31)) :: S) :=
  G.plain fun T H hx hy t k => XT.ishl (g := mkF m pc L (.int y :: .int x :: S)) H hx rfl (by rw [hy]; exact hd) rfl (by subst hp; exact k)
theorem Wl.ishr {x y : Int32} (G : Wl Z a0 own p l e R s m args below meth c code mx B EL h0 n0 ws sf h cells slots pc L (.int y :: .int x :: S)) (pc' : Nat) (hd : decode code pc = .ok (.ishr, 1)) (hp : pc + 1 = pc') : Wl Z a0 own p l e R s m args below meth c code mx B EL h0 n0 ws sf h cells slots pc' L (.int (x >>> (y &&& 31)) :: S) :=
  G.plain fun T H hx hy t k => XT.ishr (g := mkF m pc L (.int y :: .int x :: S)) H hx rfl (by rw [hy]; exact hd) rfl (by subst hp; exact k)
theorem Wl.iushr {x y : Int32} (G : Wl Z a0 own p l e R s m args below meth c code mx B EL h0 n0 ws sf h cells slots pc L (.int y :: .int x :: S)) (pc' : Nat) (hd : decode code pc = .ok (.iushr, 1)) (hp : pc + 1 = pc') : Wl Z a0 own p l e R s m args below meth c code mx B EL h0 n0 ws sf h cells slots pc' L (.int (XT.ushr x y) :: S) :=
  G.plain fun T H hx hy t k => XT.iushr (g := mkF m pc L (.int y :: .int x :: S)) H hx rfl (by rw [hy]; exact hd) rfl (by subst hp; exact k)
theorem Wl.idiv {x y : Int32} (G : Wl Z a0 own p l e R s m args below meth c code mx B EL h0 n0 ws sf h cells slots pc L (.int y :: .int x :: S)) (pc' : Nat) (hd : decode code pc = .ok (.idiv, 1)) (hy0 : y ≠ 0) (hp : pc + 1 = pc') : Wl Z a0 own p l e R s m args below meth c code mx B EL h0 n0 ws sf h cells slots pc' L (.int (x / y) :: S) :=
  G.plain fun T H hx hy t k => XS.idiv (g := mkF m pc L (.int y :: .int x :: S)) H hx rfl (by rw [hy]; exact hd) rfl hy0 (by subst hp; exact k)
theorem Wl.irem {x y : Int32} (G : Wl Z a0 own p l e R s m args below meth c code mx B EL h0 n0 ws sf h cells slots pc L (.int y :: .int x :: S)) (pc' : Nat) (hd : decode code pc = .ok (.irem, 1)) (hy0 : y ≠ 0) (hp : pc + 1 = pc') : Wl Z a0 own p l e R s m args below meth c code mx B EL h0 n0 ws sf h cells slots pc' L (.int (x - (x / y) * y) :: S) :=
  G.plain fun T H hx hy t k => XS.irem (g := mkF m pc L (.int y :: .int x :: S)) H hx rfl (by rw [hy]; exact hd) rfl hy0 (by subst hp; exact k)
theorem Wl.ineg {x : Int32} (G : Wl Z a0 own p l e R s m args below meth c code mx B EL h0 n0 ws sf h cells slots pc L (.int x :: S)) (pc' : Nat) (hd : decode code pc = .ok (.ineg, 1)) (hp : pc + 1 = pc') : Wl Z a0 own p l e R s m args below meth c code mx B EL h0 n0 ws sf h cells slots pc' L (.int (-x) :: S) :=
  G.plain fun T H hx hy t k => XS.ineg (g := mkF m pc L (.int x :: S)) H hx rfl (by rw [hy]; exact hd) rfl (by subst hp; exact k)
theorem Wl.ladd {x y : Int64} (G : Wl Z a0 own p l e R s m args below meth c code mx B EL h0 n0 ws sf h cells slots pc L (.long y :: .long x :: S)) (pc' : Nat) (hd : decode code pc = .ok (.ladd, 1)) (hp : pc + 1 = pc') : Wl Z a0 own p l e R s m args below meth c code mx B EL h0 n0 ws sf h cells slots pc' L (.long (x + y) :: S) :=
  G.plain fun T H hx hy t k => XT.ladd (g := mkF m pc L (.long y :: .long x :: S)) H hx rfl (by rw [hy]; exact hd) rfl (by subst hp; exact k)
theorem Wl.lsub {x y : Int64} (G : Wl Z a0 own p l e R s m args below meth c code mx B EL h0 n0 ws sf h cells slots pc L (.long y :: .long x :: S)) (pc' : Nat) (hd : decode code pc = .ok (.lsub, 1)) (hp : pc + 1 = pc') : Wl Z a0 own p l e R s m args below meth c code mx B EL h0 n0 ws sf h cells slots pc' L (.long (x - y) :: S) :=
  G.plain fun T H hx hy t k => XT.lsub (g := mkF m pc L (.long y :: .long x :: S)) H hx rfl (by rw [hy]; exact hd) rfl (by subst hp; exact k)
theorem Wl.lmul {x y : Int64} (G : Wl Z a0 own p l e R s m args below meth c code mx B EL h0 n0 ws sf h cells slots pc L (.long y :: .long x :: S)) (pc' : Nat) (hd : decode code pc = .ok (.lmul, 1)) (hp : pc + 1 = pc') : Wl Z a0 own p l e R s m args below meth c code mx B EL h0 n0 ws sf h cells slots pc' L (.long (x * y) :: S) :=
  G.plain fun T H hx hy t k => XT.lmul (g := mkF m pc L (.long y :: .long x :: S)) H hx rfl (by rw [hy]; exact hd) rfl (by subst hp; exact k)
theorem Wl.land {x y : Int64} (G : Wl Z a0 own p l e R s m args below meth c code mx B EL h0 n0 ws sf h cells slots pc L (.long y :: .long x :: S)) (pc' : Nat) (hd : decode code pc = .ok (.land, 1)) (hp : pc + 1 = pc') : Wl Z a0 own p l e R s m args below meth c code mx B EL h0 n0 ws sf h cells slots pc' L (.long (x &&& y) :: S) :=
  G.plain fun T H hx hy t k => XT.land (g := mkF m pc L (.long y :: .long x :: S)) H hx rfl (by rw [hy]; exact hd) rfl (by subst hp; exact k)
theorem Wl.lor {x y : Int64} (G : Wl Z a0 own p l e R s m args below meth c code mx B EL h0 n0 ws sf h cells slots pc L (.long y :: .long x :: S)) (pc' : Nat) (hd : decode code pc = .ok (.lor, 1)) (hp : pc + 1 = pc') : Wl Z a0 own p l e R s m args below meth c code mx B EL h0 n0 ws sf h cells slots pc' L (.long (x ||| y) :: S) :=
  G.plain fun T H hx hy t k => XT.lor (g := mkF m pc L (.long y :: .long x :: S)) H hx rfl (by rw [hy]; exact hd) rfl (by subst hp; exact k)
theorem Wl.lxor {x y : Int64} (G : Wl Z a0 own p l e R s m args below meth c code mx B EL h0 n0 ws sf h cells slots pc L (.long y :: .long x :: S)) (pc' : Nat) (hd : decode code pc = .ok (.lxor, 1)) (hp : pc + 1 = pc') : Wl Z a0 own p l e R s m args below meth c code mx B EL h0 n0 ws sf h cells slots pc' L (.long (x ^^^ y) :: S) :=
  G.plain fun T H hx hy t k => XT.lxor (g := mkF m pc L (.long y :: .long x :: S)) H hx rfl (by rw [hy]; exact hd) rfl (by subst hp; exact k)
theorem Wl.ldiv {x y : Int64} (G : Wl Z a0 own p l e R s m args below meth c code mx B EL h0 n0 ws sf h cells slots pc L (.long y :: .long x :: S)) (pc' : Nat) (hd : decode code pc = .ok (.ldiv, 1)) (hy0 : y ≠ 0) (hp : pc + 1 = pc') : Wl Z a0 own p l e R s m args below meth c code mx B EL h0 n0 ws sf h cells slots pc' L (.long (x / y) :: S) :=
  G.plain fun T H hx hy t k => XT.ldiv (g := mkF m pc L (.long y :: .long x :: S)) H hx rfl (by rw [hy]; exact hd) rfl hy0 (by subst hp; exact k)
theorem Wl.lrem {x y : Int64} (G : Wl Z a0 own p l e R s m args below meth c code mx B EL h0 n0 ws sf h cells slots pc L (.long y :: .long x :: S)) (pc' : Nat) (hd : decode code pc = .ok (.lrem, 1)) (hy0 : y ≠ 0) (hp : pc + 1 = pc') : Wl Z a0 own p l e R s m args below meth c code mx B EL h0 n0 ws sf h cells slots pc' L (.long (x - (x / y) * y) :: S) :=
  G.plain fun T H hx hy t k => XT.lrem (g := mkF m pc L (.long y :: .long x :: S)) H hx rfl (by rw [hy]; exact hd) rfl hy0 (by subst hp; exact k)
theorem Wl.lneg {x : Int64} (G : Wl Z a0 own p l e R s m args below meth c code mx B EL h0 n0 ws sf h cells slots pc L (.long x :: S)) (pc' : Nat) (hd : decode code pc = .ok (.lneg, 1)) (hp : pc + 1 = pc') : Wl Z a0 own p l e R s m args below meth c code mx B EL h0 n0 ws sf h cells slots pc' L (.long (-x) :: S) :=
  G.plain fun T H hx hy t k => XT.lneg (g := mkF m pc L (.long x :: S)) H hx rfl (by rw [hy]; exact hd) rfl (by subst hp; exact k)
theorem Wl.lushr {x : Int64} {y : Int32} (G : Wl Z a0 own p l e R s m args below meth c code mx B EL h0 n0 ws sf h cells slots pc L (.int y :: .long x :: S)) (pc' : Nat) (hd : decode code pc = .ok (.lushr, 1)) (hp : pc + 1 = pc') : Wl Z a0 own p l e R s m args below meth c code mx B EL h0 n0 ws sf h cells slots pc' L (.long (XT.ushrL x y) :: S) :=
  G.plain fun T H hx hy t k => XT.lushr (g := mkF m pc L (.int y :: .long x :: S)) H hx rfl (by rw [hy]; exact hd) rfl (by subst hp; exact k)
theorem Wl.lcmp {x y : Int64} (G : Wl Z a0 own p l e R s m args below meth c code mx B EL h0 n0 ws sf h cells slots pc L (.long y :: .long x :: S)) (pc' : Nat) (hd : decode code pc = .ok (.lcmp, 1)) (hp : pc + 1 = pc') : Wl Z a0 own p l e R s m args below meth c code mx B EL h0 n0 ws sf h cells slots pc' L (.int (XT.cmpL x y) :: S) :=
  G.plain fun T H hx hy t k => XT.lcmp (g := mkF m pc L (.long y :: .long x :: S)) H hx rfl (by rw [hy]; exact hd) rfl (by subst hp; exact k)
theorem Wl.i2l {x : Int32} (G : Wl Z a0 own p l e R s m args below meth c code mx B EL h0 n0 ws sf h cells slots pc L (.int x :: S)) (pc' : Nat) (hd : decode code pc = .ok (.i2l, 1)) (hp : pc + 1 = pc') : Wl Z a0 own p l e R s m args below meth c code mx B EL h0 n0 ws sf h cells slots pc' L (.long x.toInt64 :: S) :=
  G.plain fun T H hx hy t k => XT.i2l (g := mkF m pc L (.int x :: S)) H hx rfl (by rw [hy]; exact hd) rfl (by subst hp; exact k)
theorem Wl.l2i {x : Int64} (G : Wl Z a0 own p l e R s m args below meth c code mx B EL h0 n0 ws sf h cells slots pc L (.long x :: S)) (pc' : Nat) (hd : decode code pc = .ok (.l2i, 1)) (hp : pc + 1 = pc') : Wl Z a0 own p l e R s m args below meth c code mx B EL h0 n0 ws sf h cells slots pc' L (.int x.toInt32 :: S) :=
  G.plain fun T H hx hy t k => XT.l2i (g := mkF m pc L (.long x :: S)) H hx rfl (by rw [hy]; exact hd) rfl (by subst hp; exact k)
theorem Wl.i2b {x : Int32} (G : Wl Z a0 own p l e R s m args below meth c code mx B EL h0 n0 ws sf h cells slots pc L (.int x :: S)) (pc' : Nat) (hd : decode code pc = .ok (.i2b, 1)) (hp : pc + 1 = pc') : Wl Z a0 own p l e R s m args below meth c code mx B EL h0 n0 ws sf h cells slots pc' L (.int x.toInt8.toInt32 :: S) :=
  G.plain fun T H hx hy t k => XT.i2b (g := mkF m pc L (.int x :: S)) H hx rfl (by rw [hy]; exact hd) rfl (by subst hp; exact k)
theorem Wl.i2c {x : Int32} (G : Wl Z a0 own p l e R s m args below meth c code mx B EL h0 n0 ws sf h cells slots pc L (.int x :: S)) (pc' : Nat) (hd : decode code pc = .ok (.i2c, 1)) (hp : pc + 1 = pc') : Wl Z a0 own p l e R s m args below meth c code mx B EL h0 n0 ws sf h cells slots pc' L (.int x.toUInt32.toUInt16.toUInt32.toInt32 :: S) :=
  G.plain fun T H hx hy t k => XT.i2c (g := mkF m pc L (.int x :: S)) H hx rfl (by rw [hy]; exact hd) rfl (by subst hp; exact k)
theorem Wl.dup {x : Value} (G : Wl Z a0 own p l e R s m args below meth c code mx B EL h0 n0 ws sf h cells slots pc L (x :: S)) (pc' : Nat) (hd : decode code pc = .ok (.dup, 1)) (hc : x.category = 1) (hp : pc + 1 = pc') : Wl Z a0 own p l e R s m args below meth c code mx B EL h0 n0 ws sf h cells slots pc' L (x :: x :: S) :=
  G.plain fun T H hx hy t k => XS.dup (g := mkF m pc L (x :: S)) H hx rfl (by rw [hy]; exact hd) rfl hc (by subst hp; exact k)
theorem Wl.pop {x : Value} (G : Wl Z a0 own p l e R s m args below meth c code mx B EL h0 n0 ws sf h cells slots pc L (x :: S)) (pc' : Nat) (hd : decode code pc = .ok (.pop, 1)) (hc : x.category = 1) (hp : pc + 1 = pc') : Wl Z a0 own p l e R s m args below meth c code mx B EL h0 n0 ws sf h cells slots pc' L S :=
  G.plain fun T H hx hy t k => XT.pop (g := mkF m pc L (x :: S)) H hx rfl (by rw [hy]; exact hd) rfl hc (by subst hp; exact k)
theorem Wl.dupX1 {x y : Value} (G : Wl Z a0 own p l e R s m args below meth c code mx B EL h0 n0 ws sf h cells slots pc L (y :: x :: S)) (pc' : Nat) (hd : decode code pc = .ok (.dup_x1, 1)) (hc : y.category = 1) (hc' : x.category = 1) (hp : pc + 1 = pc') : Wl Z a0 own p l e R s m args below meth c code mx B EL h0 n0 ws sf h cells slots pc' L (y :: x :: y :: S) :=
  G.plain fun T H hx hy t k => XT.dupX1 (g := mkF m pc L (y :: x :: S)) H hx rfl (by rw [hy]; exact hd) rfl hc hc' (by subst hp; exact k)
theorem Wl.i2dS {x : Int32} {v : UInt64} (G : Wl Z a0 own p l e R s m args below meth c code mx B EL h0 n0 ws sf h cells slots pc L (.int x :: S)) (pc' : Nat) (hd : decode code pc = .ok (.i2d, 1)) (hv : FP.i2d x = v) (hp : pc + 1 = pc') : Wl Z a0 own p l e R s m args below meth c code mx B EL h0 n0 ws sf h cells slots pc' L (.double v :: S) :=
  G.plain fun T H hx hy t k => XS.i2dS (g := mkF m pc L (.int x :: S)) H hx rfl (by rw [hy]; exact hd) rfl hv (by subst hp; exact k)
theorem Wl.l2dS {x : Int64} {v : UInt64} (G : Wl Z a0 own p l e R s m args below meth c code mx B EL h0 n0 ws sf h cells slots pc L (.long x :: S)) (pc' : Nat) (hd : decode code pc = .ok (.l2d, 1)) (hv : FP.l2d x = v) (hp : pc + 1 = pc') : Wl Z a0 own p l e R s m args below meth c code mx B EL h0 n0 ws sf h cells slots pc' L (.double v :: S) :=
  G.plain fun T H hx hy t k => XS.l2dS (g := mkF m pc L (.long x :: S)) H hx rfl (by rw [hy]; exact hd) rfl hv (by subst hp; exact k)
theorem Wl.daddS {x y v : UInt64} (G : Wl Z a0 own p l e R s m args below meth c code mx B EL h0 n0 ws sf h cells slots pc L (.double y :: .double x :: S)) (pc' : Nat) (hd : decode code pc = .ok (.dadd, 1)) (hn : Jvm.Free.Fl.NoNaN64 (FP.dadd x y)) (hv : FP.dadd x y = v) (hp : pc + 1 = pc') : Wl Z a0 own p l e R s m args below meth c code mx B EL h0 n0 ws sf h cells slots pc' L (.double v :: S) :=
  G.plain fun T H hx hy t k => XS.daddS (g := mkF m pc L (.double y :: .double x :: S)) H hx rfl (by rw [hy]; exact hd) rfl hn hv (by subst hp; exact k)
theorem Wl.dcmpS {o : CmpOp} {x y : UInt64} {v : Int32} (G : Wl Z a0 own p l e R s m args below meth c code mx B EL h0 n0 ws sf h cells slots pc L (.double y :: .double x :: S)) (pc' : Nat) (hd : decode code pc = .ok (.dcmp o, 1)) (hv : cmpValue (FP.dcmp x y) o = v) (hp : pc + 1 = pc') : Wl Z a0 own p l e R s m args below meth c code mx B EL h0 n0 ws sf h cells slots pc' L (.int v :: S) :=
  G.plain fun T H hx hy t k => XS.dcmpS (g := mkF m pc L (.double y :: .double x :: S)) H hx rfl (by rw [hy]; exact hd) rfl hv (by subst hp; exact k)
theorem Wl.goto  {o : Int} (G : Wl Z a0 own p l e R s m args below meth c code mx B EL h0 n0 ws sf h cells slots pc L S) (pc' : Nat) (hd : decode code pc = .ok (.goto o, 3)) (ho : 0 ≤ (pc : Int) + o) (hp : ((pc : Int) + o).toNat = pc') : Wl Z a0 own p l e R s m args below meth c code mx B EL h0 n0 ws sf h cells slots pc' L S :=
  G.plain fun T H hx hy t k => XS.goto (g := mkF m pc L (S)) (pc' := pc') H hx rfl rfl (by rw [hy]; exact hd) ho hp k
theorem Wl.ifT {cd : ClassFile.Cond} {x : Int32} {o : Int} (G : Wl Z a0 own p l e R s m args below meth c code mx B EL h0 n0 ws sf h cells slots pc L (.int x :: S)) (pc' : Nat) (hd : decode code pc = .ok (.ifCond cd o, 3)) (hc : ifCond.holds cd x = true) (ho : 0 ≤ (pc : Int) + o) (hp : ((pc : Int) + o).toNat = pc') : Wl Z a0 own p l e R s m args below meth c code mx B EL h0 n0 ws sf h cells slots pc' L S :=
  G.plain fun T H hx hy t k => XS.ifYes (g := mkF m pc L (.int x :: S)) (pc' := pc') H hx rfl rfl (by rw [hy]; exact hd) rfl hc ho hp k
theorem Wl.icmpT {cd : ClassFile.Cond} {x y : Int32} {o : Int} (G : Wl Z a0 own p l e R s m args below meth c code mx B EL h0 n0 ws sf h cells slots pc L (.int y :: .int x :: S)) (pc' : Nat) (hd : decode code pc = .ok (.if_icmp cd o, 3)) (hc : if_icmp.holds cd x y = true) (ho : 0 ≤ (pc : Int) + o) (hp : ((pc : Int) + o).toNat = pc') : Wl Z a0 own p l e R s m args below meth c code mx B EL h0 n0 ws sf h cells slots pc' L S :=
  G.plain fun T H hx hy t k => XS.icmpYes (g := mkF m pc L (.int y :: .int x :: S)) (pc' := pc') H hx rfl rfl (by rw [hy]; exact hd) rfl hc ho hp k
theorem Wl.ifnullT  {o : Int} (G : Wl Z a0 own p l e R s m args below meth c code mx B EL h0 n0 ws sf h cells slots pc L (.null :: S)) (pc' : Nat) (hd : decode code pc = .ok (.ifnull o, 3)) (ho : 0 ≤ (pc : Int) + o) (hp : ((pc : Int) + o).toNat = pc') : Wl Z a0 own p l e R s m args below meth c code mx B EL h0 n0 ws sf h cells slots pc' L S :=
  G.plain fun T H hx hy t k => XS.ifnullYes (g := mkF m pc L (.null :: S)) (pc' := pc') H hx rfl rfl (by rw [hy]; exact hd) rfl ho hp k
theorem Wl.ifnonnullT {b : Addr} {o : Int} (G : Wl Z a0 own p l e R s m args below meth c code mx B EL h0 n0 ws sf h cells slots pc L (.ref b :: S)) (pc' : Nat) (hd : decode code pc = .ok (.ifnonnull o, 3)) (ho : 0 ≤ (pc : Int) + o) (hp : ((pc : Int) + o).toNat = pc') : Wl Z a0 own p l e R s m args below meth c code mx B EL h0 n0 ws sf h cells slots pc' L S :=
  G.plain fun T H hx hy t k => XT.ifnonnullYes (g := mkF m pc L (.ref b :: S)) (pc' := pc') H hx rfl rfl (by rw [hy]; exact hd) rfl ho hp k
theorem Wl.acmpT {cd : ClassFile.ACond} {x y : Value} {o : Int} (G : Wl Z a0 own p l e R s m args below meth c code mx B EL h0 n0 ws sf h cells slots pc L (y :: x :: S)) (pc' : Nat) (hd : decode code pc = .ok (.if_acmp cd o, 3)) (hx1 : x.isRef = true) (hy1 : y.isRef = true) (hc : XT.acmp cd x y = true) (ho : 0 ≤ (pc : Int) + o) (hp : ((pc : Int) + o).toNat = pc') : Wl Z a0 own p l e R s m args below meth c code mx B EL h0 n0 ws sf h cells slots pc' L S :=
  G.plain fun T H hx hy t k => XT.acmpYes (g := mkF m pc L (y :: x :: S)) (pc' := pc') H hx rfl rfl (by rw [hy]; exact hd) rfl hx1 hy1 hc ho hp k
theorem Wl.ifF {cd : ClassFile.Cond} {x : Int32} {o : Int} (G : Wl Z a0 own p l e R s m args below meth c code mx B EL h0 n0 ws sf h cells slots pc L (.int x :: S)) (pc' : Nat) (hd : decode code pc = .ok (.ifCond cd o, 3)) (hc : ifCond.holds cd x = false) (hp : pc + 3 = pc') : Wl Z a0 own p l e R s m args below meth c code mx B EL h0 n0 ws sf h cells slots pc' L S :=
  G.plain fun T H hx hy t k => XS.ifNo (g := mkF m pc L (.int x :: S)) H hx rfl (by rw [hy]; exact hd) rfl hc (by subst hp; exact k)
theorem Wl.icmpF {cd : ClassFile.Cond} {x y : Int32} {o : Int} (G : Wl Z a0 own p l e R s m args below meth c code mx B EL h0 n0 ws sf h cells slots pc L (.int y :: .int x :: S)) (pc' : Nat) (hd : decode code pc = .ok (.if_icmp cd o, 3)) (hc : if_icmp.holds cd x y = false) (hp : pc + 3 = pc') : Wl Z a0 own p l e R s m args below meth c code mx B EL h0 n0 ws sf h cells slots pc' L S :=
  G.plain fun T H hx hy t k => XS.icmpNo (g := mkF m pc L (.int y :: .int x :: S)) H hx rfl (by rw [hy]; exact hd) rfl hc (by subst hp; exact k)
theorem Wl.ifnullF {b : Addr} {o : Int} (G : Wl Z a0 own p l e R s m args below meth c code mx B EL h0 n0 ws sf h cells slots pc L (.ref b :: S)) (pc' : Nat) (hd : decode code pc = .ok (.ifnull o, 3)) (hp : pc + 3 = pc') : Wl Z a0 own p l e R s m args below meth c code mx B EL h0 n0 ws sf h cells slots pc' L S :=
  G.plain fun T H hx hy t k => XS.ifnullNo (g := mkF m pc L (.ref b :: S)) H hx rfl (by rw [hy]; exact hd) rfl (by subst hp; exact k)
theorem Wl.ifnonnullF  {o : Int} (G : Wl Z a0 own p l e R s m args below meth c code mx B EL h0 n0 ws sf h cells slots pc L (.null :: S)) (pc' : Nat) (hd : decode code pc = .ok (.ifnonnull o, 3)) (hp : pc + 3 = pc') : Wl Z a0 own p l e R s m args below meth c code mx B EL h0 n0 ws sf h cells slots pc' L S :=
  G.plain fun T H hx hy t k => XT.ifnonnullNo (g := mkF m pc L (.null :: S)) H hx rfl (by rw [hy]; exact hd) rfl (by subst hp; exact k)
theorem Wl.acmpF {cd : ClassFile.ACond} {x y : Value} {o : Int} (G : Wl Z a0 own p l e R s m args below meth c code mx B EL h0 n0 ws sf h cells slots pc L (y :: x :: S)) (pc' : Nat) (hd : decode code pc = .ok (.if_acmp cd o, 3)) (hx1 : x.isRef = true) (hy1 : y.isRef = true) (hc : XT.acmp cd x y = false) (hp : pc + 3 = pc') : Wl Z a0 own p l e R s m args below meth c code mx B EL h0 n0 ws sf h cells slots pc' L S :=
  G.plain fun T H hx hy t k => XT.acmpNo (g := mkF m pc L (y :: x :: S)) H hx rfl (by rw [hy]; exact hd) rfl hx1 hy1 hc (by subst hp; exact k)
theorem ext_keep {h h' : Heap} (E : Ext h h') : Keep h h' [] := (Keep.refl h []).ext E
def NW (h0 : Heap) (ws : List Addr) (a : Addr) : Prop := a ∈ ws ∨ h0.size ≤ a
theorem NW.new {a : Addr} (q : h0.size ≤ a) : NW h0 ws a := Or.inr q
theorem ne_new {a b : Addr} {n : Nat} (q : a = n) (r : b < n) : b ≠ a := Nat.ne_of_lt (q.symm ▸ r)
theorem ne_ge {a b : Addr} {n : Nat} (r : a < n) (q : n ≤ b) : b ≠ a := (Nat.ne_of_lt (Nat.lt_of_lt_of_le r q)).symm
theorem Wl.new {C : String} {index n : Nat} (G : Wl Z a0 own p l e R s m args below meth c code mx B EL h0 n0 ws sf h cells slots pc L S) (pc' : Nat) (w : (Cond.classLink own index C).before a0 Z = true) (wi : (Cond.instantiable C n).before a0 Z = true) (wz : (Cond.initialized C).before a0 Z = true) (hd : decode code pc = .ok (.new index, 3)) (hp : pc + 3 = pc') (hc : cells + 1 ≤ R.cells) (hl : slots + n ≤ R.slots) : ∃ (a : Addr) (h' : Heap), Wl Z a0 own p l e R s m args below meth c code mx B EL h0 n0 ws (a :: sf) h' (cells + 1) (slots + n) pc' L (.ref a :: S) ∧ a = h.size ∧ h0.size ≤ a ∧ Ext h h' ∧ Exa Z h' a C ∧ (∀ {O nm d : String} {ty : FieldType}, Laid Z a0 C O nm d → parseFieldDescriptor d = some ty → Fld Z h' a O nm d (defaultValue ty)) ∧ Unt h' a := by
  obtain ⟨⟨hx, hby, hml, hEW⟩, ⟨o1, z2, z3, z1, es⟩, v0, k0, T, locs, X, ⟨hS, hk, hZ, hown⟩, ⟨hC, hF⟩, N, eT, k⟩ := G
  obtain ⟨T', h', X', e', E, A, D, U, st⟩ := newO X hx hZ hown w wi wz eT (g := mkF m pc L S) rfl (hb hby hd) hc hl
  exact ⟨h.size, h', ⟨⟨hx, hby, hml, hEW⟩, ⟨o1.ext E, z2.ext E, z3, z1, es⟩, v0, k0, T', _, X', ⟨hS, Nat.le_trans hk E.1, hZ, hown⟩, ⟨hC.trans (CHr.ext E hC.1), safeNew E hC.1 hF A.lt⟩, N, e', fun t q => k t (st t (by subst hp; exact q))⟩, rfl, z2.1, E, A, D, U⟩
theorem Wl.newarray {aty : ArrayType} {n : Int32} (G : Wl Z a0 own p l e R s m args below meth c code mx B EL h0 n0 ws sf h cells slots pc L (.int n :: S)) (pc' : Nat) (w : (Cond.arrayClass (newarray.typeOf aty)).before a0 Z = true) (hd : decode code pc = .ok (.newarray aty, 2)) (hn : ¬ n < 0) (cap : Nat) (hcap : n.toNatClampNeg ≤ cap) (hb8 : cap * 8 ≤ 536870912) (hp : pc + 2 = pc') (hc : cells + 1 ≤ R.cells) (hl : slots + cap ≤ R.slots) : ∃ (a : Addr) (h' : Heap) (k : ClassId), Wl Z a0 own p l e R s m args below meth c code mx B EL h0 n0 ws (a :: sf) h' (cells + 1) (slots + cap) pc' L (.ref a :: S) ∧ a = h.size ∧ h0.size ≤ a ∧ Ext h h' ∧ Arv Z h' a k (newarray.typeOf aty) n [] (defaultValue (newarray.typeOf aty)) := by
  obtain ⟨⟨hx, hby, hml, hEW⟩, ⟨o1, z2, z3, z1, es⟩, v0, k0, T, locs, X, ⟨hS, hk, hZ, hown⟩, ⟨hC, hF⟩, N, eT, k⟩ := G
  obtain ⟨T', h', cA, X', e', E, A, st⟩ := newP X hx hZ w eT (g := mkF m pc L (.int n :: S)) rfl (hb hby hd) rfl hn hcap hb8 hc hl
  exact ⟨h.size, h', cA, ⟨⟨hx, hby, hml, hEW⟩, ⟨o1.ext E, z2.ext E, z3, z1, es⟩, v0, k0, T', _, X', ⟨hS, Nat.le_trans hk E.1, hZ, hown⟩, ⟨hC.trans (CHr.ext E hC.1), safeNew E hC.1 hF A.lt⟩, N, e', fun t q => k t (st t (by subst hp; exact q))⟩, rfl, z2.1, E, Arv.new A hn⟩
theorem Wl.getf {R0 O n d host : String} {index : Nat} {a : Addr} {v : Value} (G : Wl Z a0 own p l e R s m args below meth c code mx B EL h0 n0 ws sf h cells slots pc L (.ref a :: S)) (pc' : Nat) (w : (Cond.fieldLink own index R0 n d).before a0 Z = true ∨ (Cond.fieldLinkNest own index R0 n d host).before a0 Z = true) (via : Via Z R0 O n d) (F : Fld Z h a O n d v) (hd : decode code pc = .ok (.getfield index, 3)) (hp : pc + 3 = pc') : Wl Z a0 own p l e R s m args below meth c code mx B EL h0 n0 ws sf h cells slots pc' L (v :: S) := by
  obtain ⟨⟨hx, hby, hml, hEW⟩, ⟨o1, z2, z3, z1, es⟩, v0, k0, T, locs, X, ⟨hS, hk, hZ, hown⟩, ⟨hC, hF⟩, N, eT, k⟩ := G
  obtain ⟨T', X', e', st⟩ := getF X hx hZ hown w via eT F (g := mkF m pc L (.ref a :: S)) rfl rfl (hb hby hd)
  exact ⟨⟨hx, hby, hml, hEW⟩, ⟨o1, z2, z3, z1, es⟩, v0, k0, T', _, X', ⟨hS, hk, hZ, hown⟩, ⟨hC, hF⟩, N, e', fun t q => k t (st t (by subst hp; exact q))⟩
theorem Wl.gets {R0 O n d host : String} {index : Nat} {v : Value} (G : Wl Z a0 own p l e R s m args below meth c code mx B EL h0 n0 ws sf h cells slots pc L S) (pc' : Nat) (w : (Cond.fieldLink own index R0 n d).before a0 Z = true ∨ (Cond.fieldLinkNest own index R0 n d host).before a0 Z = true) (via : Via Z R0 O n d) (F : Sta Z h O n d v) (hd : decode code pc = .ok (.getstatic index, 3)) (hp : pc + 3 = pc') : Wl Z a0 own p l e R s m args below meth c code mx B EL h0 n0 ws sf h cells slots pc' L (v :: S) := by
  obtain ⟨⟨hx, hby, hml, hEW⟩, ⟨o1, z2, z3, z1, es⟩, v0, k0, T, locs, X, ⟨hS, hk, hZ, hown⟩, ⟨hC, hF⟩, N, eT, k⟩ := G
  obtain ⟨T', X', e', st⟩ := getS2 X hx hZ hown w via eT F (g := mkF m pc L S) rfl (hb hby hd)
  exact ⟨⟨hx, hby, hml, hEW⟩, ⟨o1, z2, z3, z1, es⟩, v0, k0, T', _, X', ⟨hS, hk, hZ, hown⟩, ⟨hC, hF⟩, N, e', fun t q => k t (st t (by subst hp; exact q))⟩
theorem Wl.putf {R0 O n d host C : String} {index kk : Nat} {ty : FieldType} {a : Addr} {v old : Value} (G : Wl Z a0 own p l e R s m args below meth c code mx B EL h0 n0 ws sf h cells slots pc L (v :: .ref a :: S)) (pc' : Nat) (w : (Cond.fieldLink own index R0 n d).before a0 Z = true ∨ (Cond.fieldLinkNest own index R0 n d host).before a0 Z = true) (via : Via Z R0 O n d) (F : Fld Z h a O n d old) (E : Exa Z h a C) (lay : (Cond.lays C O n d).before a0 Z = true ∨ ((Cond.laysFinal C O n d).before a0 Z = true ∧ own = O ∧ meth.name = "<init>")) (wi : (Cond.instantiable C kk).before a0 Z = true) (hty : parseFieldDescriptor d = some ty) (hn : narrow ty v = v) (hf : fits ty v = true) (q : NW h0 ws a) (qs : a ∈ sf) (hd : decode code pc = .ok (.putfield index, 3)) (hp : pc + 3 = pc') : ∃ (h' : Heap), Wl Z a0 own p l e R s m args below meth c code mx B EL h0 n0 ws sf h' cells slots pc' L S ∧ Wr h h' a (Jvm.RoadKit.slotOf Z O n d) v ∧ Fld Z h' a O n d v ∧ Keep h h' [a] := by
  have qn := G.nw q
  obtain ⟨⟨hx, hby, hml, hEW⟩, ⟨o1, z2, z3, z1, es⟩, v0, k0, T, locs, X, ⟨hS, hk, hZ, hown⟩, ⟨hC, hF⟩, N, eT, k⟩ := G
  obtain ⟨T', h', X', e', W', st⟩ := putF X hx hZ hown w via eT F E lay wi hty hn hf (g := mkF m pc L (v :: .ref a :: S)) rfl rfl (hb hby hd)
  exact ⟨h', ⟨⟨hx, hby, hml, hEW⟩, ⟨o1.wr W' qn, z2.wr W' q, z3, z1, es⟩, v0, k0, T', _, X', ⟨hS, (by rw [W'.size]; exact hk), hZ, hown⟩, ⟨hC.trans (CHr.wr W' (hF _ qs).2 hC.1), safeKeep (Keep.of_wr W') (fun x y => by cases List.mem_singleton.mp y; exact (hF _ qs).2) hC.1 hF⟩, Fr.snoc X' N qn, e', fun t q => k t (st t (by subst hp; exact q))⟩, W', F.same W', Keep.of_wr W'⟩
theorem Wl.alen {a : Addr} {k : ClassId} {ty : FieldType} {z : Int32} {vs : List Value} {dv : Value} (G : Wl Z a0 own p l e R s m args below meth c code mx B EL h0 n0 ws sf h cells slots pc L (.ref a :: S)) (pc' : Nat) (A : Arv Z h a k ty z vs dv) (hd : decode code pc = .ok (.arraylength, 1)) (hp : pc + 1 = pc') : Wl Z a0 own p l e R s m args below meth c code mx B EL h0 n0 ws sf h cells slots pc' L (.int z :: S) := by
  obtain ⟨⟨hx, hby, hml, hEW⟩, ⟨o1, z2, z3, z1, es⟩, v0, k0, T, locs, X, ⟨hS, hk, hZ, hown⟩, ⟨hC, hF⟩, N, eT, k⟩ := G
  obtain ⟨cl, Ar, -, hSz, hN, -⟩ := A
  refine ⟨⟨hx, hby, hml, hEW⟩, ⟨o1, z2, z3, z1, es⟩, v0, k0, T, locs, X, ⟨hS, hk, hZ, hown⟩, ⟨hC, hF⟩, N, eT, fun t q => k t ?_⟩
  refine X.arraylength hx (by rw [eT]; exact Ar.1) (State.isArrayOf_alike hZ.alike Ar.2.1) (g := mkF m pc L (.ref a :: S)) rfl rfl (hb hby hd) _ ?_
  rw [len_of hSz hN]; exact hp ▸ q
theorem Wl.iaload {a : Addr} {k : ClassId} {z j : Int32} {vs : List Value} {dv v : Value} (G : Wl Z a0 own p l e R s m args below meth c code mx B EL h0 n0 ws sf h cells slots pc L (.int j :: .ref a :: S)) (pc' : Nat) (A : Arv Z h a k .int z vs dv) (hj : ¬ j < 0 ∧ j < z) (hv : vs.getD j.toNatClampNeg dv = v) (hd : decode code pc = .ok (.iaload, 1)) (hp : pc + 1 = pc') : Wl Z a0 own p l e R s m args below meth c code mx B EL h0 n0 ws sf h cells slots pc' L (v :: S) := by
  obtain ⟨⟨hx, hby, hml, hEW⟩, ⟨o1, z2, z3, z1, es⟩, v0, k0, T, locs, X, ⟨hS, hk, hZ, hown⟩, ⟨hC, hF⟩, N, eT, k⟩ := G
  obtain ⟨cl, Ar, -, hSz, hN, H, -⟩ := A
  refine ⟨⟨hx, hby, hml, hEW⟩, ⟨o1, z2, z3, z1, es⟩, v0, k0, T, locs, X, ⟨hS, hk, hZ, hown⟩, ⟨hC, hF⟩, N, eT, fun t q => k t ?_⟩
  have hin := inb_of hSz hj
  exact X.iaload hx (by rw [eT]; exact Ar.1) (State.isArrayOf_alike hZ.alike Ar.2.1) Ar.2.2 hin (H.at hin hv) (g := mkF m pc L (.int j :: .ref a :: S)) rfl rfl (hb hby hd) t (by subst hp; exact q)
theorem Wl.laload {a : Addr} {k : ClassId} {z j : Int32} {vs : List Value} {dv v : Value} (G : Wl Z a0 own p l e R s m args below meth c code mx B EL h0 n0 ws sf h cells slots pc L (.int j :: .ref a :: S)) (pc' : Nat) (A : Arv Z h a k .long z vs dv) (hj : ¬ j < 0 ∧ j < z) (hv : vs.getD j.toNatClampNeg dv = v) (hd : decode code pc = .ok (.laload, 1)) (hp : pc + 1 = pc') : Wl Z a0 own p l e R s m args below meth c code mx B EL h0 n0 ws sf h cells slots pc' L (v :: S) := by
  obtain ⟨⟨hx, hby, hml, hEW⟩, ⟨o1, z2, z3, z1, es⟩, v0, k0, T, locs, X, ⟨hS, hk, hZ, hown⟩, ⟨hC, hF⟩, N, eT, k⟩ := G
  obtain ⟨cl, Ar, -, hSz, hN, H, -⟩ := A
  refine ⟨⟨hx, hby, hml, hEW⟩, ⟨o1, z2, z3, z1, es⟩, v0, k0, T, locs, X, ⟨hS, hk, hZ, hown⟩, ⟨hC, hF⟩, N, eT, fun t q => k t ?_⟩
  have hin := inb_of hSz hj
  exact X.laload hx (by rw [eT]; exact Ar.1) (State.isArrayOf_alike hZ.alike Ar.2.1) Ar.2.2 hin (H.at hin hv) (g := mkF m pc L (.int j :: .ref a :: S)) rfl rfl (hb hby hd) t (by subst hp; exact q)
theorem Wl.caload {a : Addr} {k : ClassId} {z j : Int32} {vs : List Value} {dv v : Value} (G : Wl Z a0 own p l e R s m args below meth c code mx B EL h0 n0 ws sf h cells slots pc L (.int j :: .ref a :: S)) (pc' : Nat) (A : Arv Z h a k .char z vs dv) (hj : ¬ j < 0 ∧ j < z) (hv : vs.getD j.toNatClampNeg dv = v) (hd : decode code pc = .ok (.caload, 1)) (hp : pc + 1 = pc') : Wl Z a0 own p l e R s m args below meth c code mx B EL h0 n0 ws sf h cells slots pc' L (v :: S) := by
  obtain ⟨⟨hx, hby, hml, hEW⟩, ⟨o1, z2, z3, z1, es⟩, v0, k0, T, locs, X, ⟨hS, hk, hZ, hown⟩, ⟨hC, hF⟩, N, eT, k⟩ := G
  obtain ⟨cl, Ar, -, hSz, hN, H, -⟩ := A
  refine ⟨⟨hx, hby, hml, hEW⟩, ⟨o1, z2, z3, z1, es⟩, v0, k0, T, locs, X, ⟨hS, hk, hZ, hown⟩, ⟨hC, hF⟩, N, eT, fun t q => k t ?_⟩
  have hin := inb_of hSz hj
  exact X.caload hx (by rw [eT]; exact Ar.1) (State.isArrayOf_alike hZ.alike Ar.2.1) Ar.2.2 hin (H.at hin hv) (g := mkF m pc L (.int j :: .ref a :: S)) rfl rfl (hb hby hd) t (by subst hp; exact q)
theorem Wl.baload {a : Addr} {k : ClassId} {z j : Int32} {vs : List Value} {dv v : Value} (G : Wl Z a0 own p l e R s m args below meth c code mx B EL h0 n0 ws sf h cells slots pc L (.int j :: .ref a :: S)) (pc' : Nat) (A : Arv Z h a k .byte z vs dv) (hj : ¬ j < 0 ∧ j < z) (hv : vs.getD j.toNatClampNeg dv = v) (hd : decode code pc = .ok (.baload, 1)) (hp : pc + 1 = pc') : Wl Z a0 own p l e R s m args below meth c code mx B EL h0 n0 ws sf h cells slots pc' L (v :: S) := by
  obtain ⟨⟨hx, hby, hml, hEW⟩, ⟨o1, z2, z3, z1, es⟩, v0, k0, T, locs, X, ⟨hS, hk, hZ, hown⟩, ⟨hC, hF⟩, N, eT, k⟩ := G
  obtain ⟨cl, Ar, -, hSz, hN, H, -⟩ := A
  refine ⟨⟨hx, hby, hml, hEW⟩, ⟨o1, z2, z3, z1, es⟩, v0, k0, T, locs, X, ⟨hS, hk, hZ, hown⟩, ⟨hC, hF⟩, N, eT, fun t q => k t ?_⟩
  have hin := inb_of hSz hj
  exact X.baloadBytes hx (by rw [eT]; exact Ar.1) (State.isArrayOf_alike hZ.alike Ar.2.1) Ar.2.2 hin (H.at hin hv) (g := mkF m pc L (.int j :: .ref a :: S)) rfl rfl (hb hby hd) t (by subst hp; exact q)
theorem Wl.daload {a : Addr} {k : ClassId} {z j : Int32} {vs : List Value} {dv v : Value} (G : Wl Z a0 own p l e R s m args below meth c code mx B EL h0 n0 ws sf h cells slots pc L (.int j :: .ref a :: S)) (pc' : Nat) (A : Arv Z h a k .double z vs dv) (hj : ¬ j < 0 ∧ j < z) (hv : vs.getD j.toNatClampNeg dv = v) (hd : decode code pc = .ok (.daload, 1)) (hp : pc + 1 = pc') : Wl Z a0 own p l e R s m args below meth c code mx B EL h0 n0 ws sf h cells slots pc' L (v :: S) := by
  obtain ⟨⟨hx, hby, hml, hEW⟩, ⟨o1, z2, z3, z1, es⟩, v0, k0, T, locs, X, ⟨hS, hk, hZ, hown⟩, ⟨hC, hF⟩, N, eT, k⟩ := G
  obtain ⟨cl, Ar, -, hSz, hN, H, -⟩ := A
  refine ⟨⟨hx, hby, hml, hEW⟩, ⟨o1, z2, z3, z1, es⟩, v0, k0, T, locs, X, ⟨hS, hk, hZ, hown⟩, ⟨hC, hF⟩, N, eT, fun t q => k t ?_⟩
  have hin := inb_of hSz hj
  exact X.daload hx (by rw [eT]; exact Ar.1) (State.isArrayOf_alike hZ.alike Ar.2.1) Ar.2.2 hin (H.at hin hv) (g := mkF m pc L (.int j :: .ref a :: S)) rfl rfl (hb hby hd) t (by subst hp; exact q)
theorem Wl.iastore {a : Addr} {k : ClassId} {z j : Int32} {x : Int32} {vs : List Value} {dv : Value} (G : Wl Z a0 own p l e R s m args below meth c code mx B EL h0 n0 ws sf h cells slots pc L (.int x :: .int j :: .ref a :: S)) (pc' : Nat) (i : Nat) (A : Arv Z h a k .int z vs dv) (hj : ¬ j < 0 ∧ j < z) (hi : j.toNatClampNeg = i) (hl : i < vs.length) (q : NW h0 ws a) (qs : a ∈ sf) (hd : decode code pc = .ok (.iastore, 1)) (hp : pc + 1 = pc') : ∃ (h' : Heap), Wl Z a0 own p l e R s m args below meth c code mx B EL h0 n0 ws sf h' cells slots pc' L S ∧ Arv Z h' a k .int z (vs.set i (.int x)) dv ∧ Keep h h' [a] := by
  have qn := G.nw q
  obtain ⟨⟨hx, hby, hml, hEW⟩, ⟨o1, z2, z3, z1, es⟩, v0, k0, T, locs, X, ⟨hS, hk, hZ, hown⟩, ⟨hC, hF⟩, N, eT, k⟩ := G
  obtain ⟨cl, Ar, q1, hSz, hN, H, F⟩ := A
  obtain ⟨T', h', X', e', W', st⟩ := stI X hx hZ eT Ar (inb_of hSz hj) (g := mkF m pc L (.int x :: .int j :: .ref a :: S)) rfl rfl (hb hby hd)
  exact ⟨h', ⟨⟨hx, hby, hml, hEW⟩, ⟨o1.wr W' qn, z2.wr W' q, z3, z1, es⟩, v0, k0, T', _, X', ⟨hS, (by rw [W'.size]; exact hk), hZ, hown⟩, ⟨hC.trans (CHr.wr W' (hF _ qs).2 hC.1), safeKeep (Keep.of_wr W') (fun x y => by cases List.mem_singleton.mp y; exact (hF _ qs).2) hC.1 hF⟩, Fr.snoc X' N qn, e', fun t q => k t (st t (by subst hp; exact q))⟩, Arv.set Ar q1 hSz hN H F rfl W' i hi hl, Keep.of_wr W'⟩
theorem Wl.lastore {a : Addr} {k : ClassId} {z j : Int32} {x : Int64} {vs : List Value} {dv : Value} (G : Wl Z a0 own p l e R s m args below meth c code mx B EL h0 n0 ws sf h cells slots pc L (.long x :: .int j :: .ref a :: S)) (pc' : Nat) (i : Nat) (A : Arv Z h a k .long z vs dv) (hj : ¬ j < 0 ∧ j < z) (hi : j.toNatClampNeg = i) (hl : i < vs.length) (q : NW h0 ws a) (qs : a ∈ sf) (hd : decode code pc = .ok (.lastore, 1)) (hp : pc + 1 = pc') : ∃ (h' : Heap), Wl Z a0 own p l e R s m args below meth c code mx B EL h0 n0 ws sf h' cells slots pc' L S ∧ Arv Z h' a k .long z (vs.set i (.long x)) dv ∧ Keep h h' [a] := by
  have qn := G.nw q
  obtain ⟨⟨hx, hby, hml, hEW⟩, ⟨o1, z2, z3, z1, es⟩, v0, k0, T, locs, X, ⟨hS, hk, hZ, hown⟩, ⟨hC, hF⟩, N, eT, k⟩ := G
  obtain ⟨cl, Ar, q1, hSz, hN, H, F⟩ := A
  obtain ⟨T', h', X', e', W', st⟩ := stJ X hx hZ eT Ar (inb_of hSz hj) (g := mkF m pc L (.long x :: .int j :: .ref a :: S)) rfl rfl (hb hby hd)
  exact ⟨h', ⟨⟨hx, hby, hml, hEW⟩, ⟨o1.wr W' qn, z2.wr W' q, z3, z1, es⟩, v0, k0, T', _, X', ⟨hS, (by rw [W'.size]; exact hk), hZ, hown⟩, ⟨hC.trans (CHr.wr W' (hF _ qs).2 hC.1), safeKeep (Keep.of_wr W') (fun x y => by cases List.mem_singleton.mp y; exact (hF _ qs).2) hC.1 hF⟩, Fr.snoc X' N qn, e', fun t q => k t (st t (by subst hp; exact q))⟩, Arv.set Ar q1 hSz hN H F rfl W' i hi hl, Keep.of_wr W'⟩
theorem Wl.dastore {a : Addr} {k : ClassId} {z j : Int32} {x : UInt64} {vs : List Value} {dv : Value} (G : Wl Z a0 own p l e R s m args below meth c code mx B EL h0 n0 ws sf h cells slots pc L (.double x :: .int j :: .ref a :: S)) (pc' : Nat) (i : Nat) (A : Arv Z h a k .double z vs dv) (hj : ¬ j < 0 ∧ j < z) (hi : j.toNatClampNeg = i) (hl : i < vs.length) (q : NW h0 ws a) (qs : a ∈ sf) (hd : decode code pc = .ok (.dastore, 1)) (hp : pc + 1 = pc') : ∃ (h' : Heap), Wl Z a0 own p l e R s m args below meth c code mx B EL h0 n0 ws sf h' cells slots pc' L S ∧ Arv Z h' a k .double z (vs.set i (.double x)) dv ∧ Keep h h' [a] := by
  have qn := G.nw q
  obtain ⟨⟨hx, hby, hml, hEW⟩, ⟨o1, z2, z3, z1, es⟩, v0, k0, T, locs, X, ⟨hS, hk, hZ, hown⟩, ⟨hC, hF⟩, N, eT, k⟩ := G
  obtain ⟨cl, Ar, q1, hSz, hN, H, F⟩ := A
  obtain ⟨T', h', X', e', W', st⟩ := stD X hx hZ eT Ar (inb_of hSz hj) (g := mkF m pc L (.double x :: .int j :: .ref a :: S)) rfl rfl (hb hby hd)
  exact ⟨h', ⟨⟨hx, hby, hml, hEW⟩, ⟨o1.wr W' qn, z2.wr W' q, z3, z1, es⟩, v0, k0, T', _, X', ⟨hS, (by rw [W'.size]; exact hk), hZ, hown⟩, ⟨hC.trans (CHr.wr W' (hF _ qs).2 hC.1), safeKeep (Keep.of_wr W') (fun x y => by cases List.mem_singleton.mp y; exact (hF _ qs).2) hC.1 hF⟩, Fr.snoc X' N qn, e', fun t q => k t (st t (by subst hp; exact q))⟩, Arv.set Ar q1 hSz hN H F rfl W' i hi hl, Keep.of_wr W'⟩
theorem Wl.castore {a : Addr} {k : ClassId} {z j : Int32} {x : Int32} {vs : List Value} {dv : Value} (G : Wl Z a0 own p l e R s m args below meth c code mx B EL h0 n0 ws sf h cells slots pc L (.int x :: .int j :: .ref a :: S)) (pc' : Nat) (i : Nat) (A : Arv Z h a k .char z vs dv) (hj : ¬ j < 0 ∧ j < z) (hi : j.toNatClampNeg = i) (hl : i < vs.length) (q : NW h0 ws a) (qs : a ∈ sf) (hd : decode code pc = .ok (.castore, 1)) (hp : pc + 1 = pc') : ∃ (h' : Heap), Wl Z a0 own p l e R s m args below meth c code mx B EL h0 n0 ws sf h' cells slots pc' L S ∧ Arv Z h' a k .char z (vs.set i (.int (nar .char x))) dv ∧ Keep h h' [a] := by
  have qn := G.nw q
  obtain ⟨⟨hx, hby, hml, hEW⟩, ⟨o1, z2, z3, z1, es⟩, v0, k0, T, locs, X, ⟨hS, hk, hZ, hown⟩, ⟨hC, hF⟩, N, eT, k⟩ := G
  obtain ⟨cl, Ar, q1, hSz, hN, H, F⟩ := A
  obtain ⟨T', h', X', e', W', st⟩ := stC X hx hZ eT Ar (inb_of hSz hj) (g := mkF m pc L (.int x :: .int j :: .ref a :: S)) rfl rfl (hb hby hd)
  exact ⟨h', ⟨⟨hx, hby, hml, hEW⟩, ⟨o1.wr W' qn, z2.wr W' q, z3, z1, es⟩, v0, k0, T', _, X', ⟨hS, (by rw [W'.size]; exact hk), hZ, hown⟩, ⟨hC.trans (CHr.wr W' (hF _ qs).2 hC.1), safeKeep (Keep.of_wr W') (fun x y => by cases List.mem_singleton.mp y; exact (hF _ qs).2) hC.1 hF⟩, Fr.snoc X' N qn, e', fun t q => k t (st t (by subst hp; exact q))⟩, Arv.set Ar q1 hSz hN H F (fits_nar_char x) W' i hi hl, Keep.of_wr W'⟩
theorem Wl.bastore {a : Addr} {k : ClassId} {z j : Int32} {x : Int32} {vs : List Value} {dv : Value} (G : Wl Z a0 own p l e R s m args below meth c code mx B EL h0 n0 ws sf h cells slots pc L (.int x :: .int j :: .ref a :: S)) (pc' : Nat) (i : Nat) (A : Arv Z h a k .byte z vs dv) (hj : ¬ j < 0 ∧ j < z) (hi : j.toNatClampNeg = i) (hl : i < vs.length) (q : NW h0 ws a) (qs : a ∈ sf) (hd : decode code pc = .ok (.bastore, 1)) (hp : pc + 1 = pc') : ∃ (h' : Heap), Wl Z a0 own p l e R s m args below meth c code mx B EL h0 n0 ws sf h' cells slots pc' L S ∧ Arv Z h' a k .byte z (vs.set i (.int x.toInt8.toInt32)) dv ∧ Keep h h' [a] := by
  have qn := G.nw q
  obtain ⟨⟨hx, hby, hml, hEW⟩, ⟨o1, z2, z3, z1, es⟩, v0, k0, T, locs, X, ⟨hS, hk, hZ, hown⟩, ⟨hC, hF⟩, N, eT, k⟩ := G
  obtain ⟨cl, Ar, q1, hSz, hN, H, F⟩ := A
  obtain ⟨T', h', X', e', W', st⟩ := stB X hx hZ eT Ar (inb_of hSz hj) (g := mkF m pc L (.int x :: .int j :: .ref a :: S)) rfl rfl (hb hby hd)
  exact ⟨h', ⟨⟨hx, hby, hml, hEW⟩, ⟨o1.wr W' qn, z2.wr W' q, z3, z1, es⟩, v0, k0, T', _, X', ⟨hS, (by rw [W'.size]; exact hk), hZ, hown⟩, ⟨hC.trans (CHr.wr W' (hF _ qs).2 hC.1), safeKeep (Keep.of_wr W') (fun x y => by cases List.mem_singleton.mp y; exact (hF _ qs).2) hC.1 hF⟩, Fr.snoc X' N qn, e', fun t q => k t (st t (by subst hp; exact q))⟩, Arv.set Ar q1 hSz hN H F (fits_nar_byte x) W' i hi hl, Keep.of_wr W'⟩
theorem Wl.newarrayE {aty : ArrayType} {n : Int32} {ad : String} (G : Wl Z a0 own p l e R s m args below meth c code mx B EL h0 n0 ws sf h cells slots pc L (.int n :: S)) (pc' : Nat) (w : (Cond.arrayClass (newarray.typeOf aty)).before a0 Z = true) (had : "[" ++ (newarray.typeOf aty).toString = ad) (hd : decode code pc = .ok (.newarray aty, 2)) (hn : ¬ n < 0) (cap : Nat) (hcap : n.toNatClampNeg ≤ cap) (hb8 : cap * 8 ≤ 536870912) (hp : pc + 2 = pc') (hc : cells + 1 ≤ R.cells) (hl : slots + cap ≤ R.slots) : ∃ (a : Addr) (h' : Heap) (k : ClassId), Wl Z a0 own p l e R s m args below meth c code mx B EL h0 n0 ws (a :: sf) h' (cells + 1) (slots + cap) pc' L (.ref a :: S) ∧ a = h.size ∧ h0.size ≤ a ∧ Ext h h' ∧ Arv Z h' a k (newarray.typeOf aty) n [] (defaultValue (newarray.typeOf aty)) ∧ Exa Z h' a ad := by
  obtain ⟨⟨hx, hby, hml, hEW⟩, ⟨o1, z2, z3, z1, es⟩, v0, k0, T, locs, X, ⟨hS, hk, hZ, hown⟩, ⟨hC, hF⟩, N, eT, k⟩ := G
  obtain ⟨T', h', cA, X', e', E, A, Ex, st⟩ := newPE X hx hZ w eT (g := mkF m pc L (.int n :: S)) rfl (hb hby hd) rfl hn hcap hb8 hc hl had
  exact ⟨h.size, h', cA, ⟨⟨hx, hby, hml, hEW⟩, ⟨o1.ext E, z2.ext E, z3, z1, es⟩, v0, k0, T', _, X', ⟨hS, Nat.le_trans hk E.1, hZ, hown⟩, ⟨hC.trans (CHr.ext E hC.1), safeNew E hC.1 hF A.lt⟩, N, e', fun t q => k t (st t (by subst hp; exact q))⟩, rfl, z2.1, E, Arv.new A hn, Ex⟩
theorem fitC_of {a : Addr} {cl : Cell} {ty : FieldType} {vs : List Value} {dv : Value} (A : Arr Z h a cl ty) (H : Has cl vs dv) (F : ∀ i, i < cl.slots.size → fits ty (vs.getD i dv) = true) : FitC Z cl := fun i v hv => by
  obtain ⟨hi, -⟩ := Array.getElem?_eq_some_iff.mp hv
  have e := H i hi
  rw [hv] at e
  obtain ⟨-, k, hk, comp, hkind⟩ := A.2.1
  simp only [State.fitsSlot, State.slotType?, hk, hkind, Option.bind_eq_bind, Option.bind_some]
  rw [Option.some.inj e]; exact F i hi
theorem Wl.cloneV {ad : String} {index : Nat} {a : Addr} {k : ClassId} {ty : FieldType} {z : Int32} {vs : List Value} {dv : Value} (G : Wl Z a0 own p l e R s m args below meth c code mx B EL h0 n0 ws sf h cells slots pc L (.ref a :: S)) (pc' : Nat) (w1 : (Cond.methodLink own index ⟨ad, "clone", "()Ljava/lang/Object;"⟩).before a0 Z = true) (w2 : (Cond.sameMethod ad "java/lang/Object" "clone" "()Ljava/lang/Object;").before a0 Z = true) (w3 : (Cond.native ⟨"java/lang/Object", "clone", "()Ljava/lang/Object;"⟩).before a0 Z = true) (w4 : (Cond.instanceMethod ⟨"java/lang/Object", "clone", "()Ljava/lang/Object;"⟩).before a0 Z = true) (w5 : (Cond.selects ad ⟨ad, "clone", "()Ljava/lang/Object;"⟩ ⟨"java/lang/Object", "clone", "()Ljava/lang/Object;"⟩).before a0 Z = true) (w6 : (Cond.castable ad "java/lang/Cloneable").before a0 Z = true) (A : Arv Z h a k ty z vs dv) (E0 : Exa Z h a ad) (hd : decode code pc = .ok (.invokevirtual index, 3)) (hz : L.size = mx) (hf : 1 ≤ R.frames) (hlo : (S.map fun v => v.category).sum + 14 ≤ R.locals) (cap : Nat) (hcap : z.toNatClampNeg ≤ cap) (hc : cells + 1 ≤ R.cells) (hl : slots + cap ≤ R.slots) (hp : pc + 3 = pc') : ∃ (b : Addr) (h' : Heap), Wl Z a0 own p l e R s m args below meth c code mx B EL h0 n0 ws (b :: sf) h' (cells + 1) (slots + cap) pc' L (.ref b :: S) ∧ b = h.size ∧ h0.size ≤ b ∧ Ext h h' ∧ Arv Z h' b k ty z vs dv ∧ Exa Z h' b ad := by
  obtain ⟨⟨hx, hby, hml, hEW⟩, ⟨o1, z2, z3, z1, es⟩, v0, k0, T, locs, X, ⟨hS, hk, hZ, hown⟩, ⟨hC, hF⟩, N, eT, k⟩ := G
  obtain ⟨cl, Ar, q1, hSz, hN, H, F⟩ := A
  obtain ⟨T', h', X', e', E, A', Ex, st⟩ := cloneA (s := s.setVm v0) X hx hZ hown w1 w2 w3 w4 w5 w6 eT Ar E0 (fitC_of Ar H F) (g := mkF m pc L (.ref a :: S)) rfl (hz.trans hml.symm) rfl (hb hby hd) hf (W := (S.map fun v => v.category).sum) (by show 2 * 0 + _ ≤ _; omega) hlo (cap := cap) (by rw [hSz]; exact hcap) hc hl
  exact ⟨h.size, h', ⟨⟨hx, hby, hml, hEW⟩, ⟨o1.ext E, z2.ext E, z3, z1, es⟩, v0, k0, T', _, X', ⟨hS, Nat.le_trans hk E.1, hZ, hown⟩, ⟨hC.trans (CHr.ext E hC.1), safeNew E hC.1 hF A'.lt⟩, N, e', fun t q => k t (st t (by subst hp; exact q))⟩, rfl, z2.1, E, ⟨cloneOf cl, A', q1, hSz, hN, H, F⟩, Ex⟩
theorem Wl.anewR {C : String} {index : Nat} {n : Int32} (G : Wl Z a0 own p l e R s m args below meth c code mx B EL h0 n0 ws sf h cells slots pc L (.int n :: S)) (pc' : Nat) (w1 : (Cond.classLink own index C).before a0 Z = true) (w2 : (Cond.arrayOver (.object C)).before a0 Z = true) (hd : decode code pc = .ok (.anewarray index, 3)) (hn : ¬ n < 0) (cap : Nat) (hcap : n.toNatClampNeg ≤ cap) (hb8 : cap * 8 ≤ 536870912) (hp : pc + 3 = pc') (hc : cells + 1 ≤ R.cells) (hl : slots + cap ≤ R.slots) : ∃ (a : Addr) (h' : Heap) (k : ClassId), Wl Z a0 own p l e R s m args below meth c code mx B EL h0 n0 ws (a :: sf) h' (cells + 1) (slots + cap) pc' L (.ref a :: S) ∧ a = h.size ∧ h0.size ≤ a ∧ Ext h h' ∧ Arv Z h' a k (.object C) n [] .null ∧ Ovr Z k C := by
  obtain ⟨⟨hx, hby, hml, hEW⟩, ⟨o1, z2, z3, z1, es⟩, v0, k0, T, locs, X, ⟨hS, hk, hZ, hown⟩, ⟨hC, hF⟩, N, eT, k⟩ := G
  obtain ⟨T', h', cA, X', e', E, A, O, st⟩ := newR (s := s.setVm v0) X hx hZ hown w1 w2 eT (g := mkF m pc L (.int n :: S)) rfl (hb hby hd) rfl hn hcap hb8 hc hl
  exact ⟨h.size, h', cA, ⟨⟨hx, hby, hml, hEW⟩, ⟨o1.ext E, z2.ext E, z3, z1, es⟩, v0, k0, T', _, X', ⟨hS, Nat.le_trans hk E.1, hZ, hown⟩, ⟨hC.trans (CHr.ext E hC.1), safeNew E hC.1 hF A.lt⟩, N, e', fun t q => k t (st t (by subst hp; exact q))⟩, rfl, z2.1, E, Arv.new A hn, O⟩
theorem Wl.aaload {a : Addr} {k : ClassId} {z j : Int32} {C : String} {vs : List Value} {dv v : Value} (G : Wl Z a0 own p l e R s m args below meth c code mx B EL h0 n0 ws sf h cells slots pc L (.int j :: .ref a :: S)) (pc' : Nat) (A : Arv Z h a k (.object C) z vs dv) (hj : ¬ j < 0 ∧ j < z) (hv : vs.getD j.toNatClampNeg dv = v) (hd : decode code pc = .ok (.aaload, 1)) (hp : pc + 1 = pc') : Wl Z a0 own p l e R s m args below meth c code mx B EL h0 n0 ws sf h cells slots pc' L (v :: S) := by
  obtain ⟨⟨hx, hby, hml, hEW⟩, ⟨o1, z2, z3, z1, es⟩, v0, k0, T, locs, X, ⟨hS, hk, hZ, hown⟩, ⟨hC, hF⟩, N, eT, k⟩ := G
  obtain ⟨cl, Ar, -, hSz, hN, H, -⟩ := A
  refine ⟨⟨hx, hby, hml, hEW⟩, ⟨o1, z2, z3, z1, es⟩, v0, k0, T, locs, X, ⟨hS, hk, hZ, hown⟩, ⟨hC, hF⟩, N, eT, fun t q => k t ?_⟩
  have hin := inb_of hSz hj
  exact X.aaload hx (by rw [eT]; exact Ar.1) (State.isArrayOf_alike hZ.alike Ar.2.1) rfl Ar.2.2 hin (H.at hin hv) (g := mkF m pc L (.int j :: .ref a :: S)) rfl rfl (hb hby hd) t (by subst hp; exact q)
theorem Wl.aastore {a y : Addr} {k : ClassId} {z j : Int32} {C : String} {vs : List Value} {dv : Value} (G : Wl Z a0 own p l e R s m args below meth c code mx B EL h0 n0 ws sf h cells slots pc L (.ref y :: .int j :: .ref a :: S)) (pc' : Nat) (i : Nat) (A : Arv Z h a k (.object C) z vs dv) (O : Ovr Z k C) (I : Ins Z h y C true) (hj : ¬ j < 0 ∧ j < z) (hi : j.toNatClampNeg = i) (hl : i < vs.length) (q : NW h0 ws a) (qs : a ∈ sf) (hd : decode code pc = .ok (.aastore, 1)) (hp : pc + 1 = pc') : ∃ (h' : Heap), Wl Z a0 own p l e R s m args below meth c code mx B EL h0 n0 ws sf h' cells slots pc' L S ∧ Arv Z h' a k (.object C) z (vs.set i (.ref y)) dv ∧ Keep h h' [a] := by
  have qn := G.nw q
  obtain ⟨⟨hx, hby, hml, hEW⟩, ⟨o1, z2, z3, z1, es⟩, v0, k0, T, locs, X, ⟨hS, hk, hZ, hown⟩, ⟨hC, hF⟩, N, eT, k⟩ := G
  obtain ⟨cl, Ar, q1, hSz, hN, H, F⟩ := A
  obtain ⟨T', h', X', e', W', st⟩ := stR X hx hZ eT Ar (inb_of hSz hj) rfl (Sto.of Ar (q1 ▸ O) I) (g := mkF m pc L (.ref y :: .int j :: .ref a :: S)) rfl rfl (hb hby hd)
  exact ⟨h', ⟨⟨hx, hby, hml, hEW⟩, ⟨o1.wr W' qn, z2.wr W' q, z3, z1, es⟩, v0, k0, T', _, X', ⟨hS, (by rw [W'.size]; exact hk), hZ, hown⟩, ⟨hC.trans (CHr.wr W' (hF _ qs).2 hC.1), safeKeep (Keep.of_wr W') (fun x y => by cases List.mem_singleton.mp y; exact (hF _ qs).2) hC.1 hF⟩, Fr.snoc X' N qn, e', fun t q => k t (st t (by subst hp; exact q))⟩, Arv.set Ar q1 hSz hN H F rfl W' i hi hl, Keep.of_wr W'⟩
theorem Wl.initO {a : Addr} {idx : Nat} (G : Wl Z a0 own p l e R s m args below meth c code mx B EL h0 n0 ws sf h cells slots pc L (.ref a :: S)) (pc' : Nat) (w1 : (Cond.methodLink own idx Lib.objectInit).before a0 Z = true) (w2 : (Cond.instanceMethod Lib.objectInit).before a0 Z = true) (w3 : (Cond.code Lib.objectInit ⟨#[0xb1]⟩ 1 none).before a0 Z = true) (hd : decode code pc = .ok (.invokespecial idx, 3)) (hz : L.size = mx) (hf : 1 ≤ R.frames) (hl : (S.map fun v => v.category).sum + 12 ≤ R.locals) (hp : pc + 3 = pc') : Wl Z a0 own p l e R s m args below meth c code mx B EL h0 n0 ws sf h cells slots pc' L S := by
  obtain ⟨⟨hx, hby, hml, hEW⟩, ⟨o1, z2, z3, z1, es⟩, v0, k0, T, locs, X, ⟨hS, hk, hZ, hown⟩, ⟨hC, hF⟩, N, eT, k⟩ := G
  obtain ⟨T', X', e', st⟩ := Jvm.RoadKit.initO X hx hZ hown w1 w2 w3 eT (g := mkF m pc L (.ref a :: S)) rfl (hz.trans hml.symm) rfl (hb hby hd) hf (W := (S.map fun v => v.category).sum) (by show 2 * 0 + _ ≤ _; omega) hl
  exact ⟨⟨hx, hby, hml, hEW⟩, ⟨o1, z2, z3, z1, es⟩, v0, k0, T', _, X', ⟨hS, hk, hZ, hown⟩, ⟨hC, hF⟩, N, e', fun t q => k t (st t (by subst hp; exact q))⟩
theorem Wl.ldcI {index : Nat} {v : Int32} (G : Wl Z a0 own p l e R s m args below meth c code mx B EL h0 n0 ws sf h cells slots pc L S) (pc' : Nat) (w : (Cond.constant own index v).before a0 Z = true) (hd : decode code pc = .ok (.ldc index, 2)) (hp : pc + 2 = pc') : Wl Z a0 own p l e R s m args below meth c code mx B EL h0 n0 ws sf h cells slots pc' L (.int v :: S) := by
  obtain ⟨⟨hx, hby, hml, hEW⟩, ⟨o1, z2, z3, z1, es⟩, v0, k0, T, locs, X, ⟨hS, hk, hZ, hown⟩, ⟨hC, hF⟩, N, eT, k⟩ := G
  exact ⟨⟨hx, hby, hml, hEW⟩, ⟨o1, z2, z3, z1, es⟩, v0, k0, T, locs, X, ⟨hS, hk, hZ, hown⟩, ⟨hC, hF⟩, N, eT, fun t q => k t (X.ldcInt hx hown (mvT hZ w) (g := mkF m pc L S) rfl (hb hby hd) t (by subst hp; exact q))⟩
theorem Wl.ldcWI {index : Nat} {v : Int32} (G : Wl Z a0 own p l e R s m args below meth c code mx B EL h0 n0 ws sf h cells slots pc L S) (pc' : Nat) (w : (Cond.constant own index v).before a0 Z = true) (hd : decode code pc = .ok (.ldc_w index, 3)) (hp : pc + 3 = pc') : Wl Z a0 own p l e R s m args below meth c code mx B EL h0 n0 ws sf h cells slots pc' L (.int v :: S) := by
  obtain ⟨⟨hx, hby, hml, hEW⟩, ⟨o1, z2, z3, z1, es⟩, v0, k0, T, locs, X, ⟨hS, hk, hZ, hown⟩, ⟨hC, hF⟩, N, eT, k⟩ := G
  exact ⟨⟨hx, hby, hml, hEW⟩, ⟨o1, z2, z3, z1, es⟩, v0, k0, T, locs, X, ⟨hS, hk, hZ, hown⟩, ⟨hC, hF⟩, N, eT, fun t q => k t (X.ldcWInt hx hown (mvT hZ w) (g := mkF m pc L S) rfl (hb hby hd) t (by subst hp; exact q))⟩
theorem Wl.ldc2J {index : Nat} {v : Int64} (G : Wl Z a0 own p l e R s m args below meth c code mx B EL h0 n0 ws sf h cells slots pc L S) (pc' : Nat) (w : (Cond.constantLong own index v).before a0 Z = true) (hd : decode code pc = .ok (.ldc2_w index, 3)) (hp : pc + 3 = pc') : Wl Z a0 own p l e R s m args below meth c code mx B EL h0 n0 ws sf h cells slots pc' L (.long v :: S) := by
  obtain ⟨⟨hx, hby, hml, hEW⟩, ⟨o1, z2, z3, z1, es⟩, v0, k0, T, locs, X, ⟨hS, hk, hZ, hown⟩, ⟨hC, hF⟩, N, eT, k⟩ := G
  exact ⟨⟨hx, hby, hml, hEW⟩, ⟨o1, z2, z3, z1, es⟩, v0, k0, T, locs, X, ⟨hS, hk, hZ, hown⟩, ⟨hC, hF⟩, N, eT, fun t q => k t (X.ldc2Long hx hown (mvT hZ w) (g := mkF m pc L S) rfl (hb hby hd) t (by subst hp; exact q))⟩
/-- a body's contract: from the heap h0 with the arguments as', it returns; only what is new since n0 was written; h0 stands but for ws; String constants stay whole; sf: what must be no constant's cell; Q's list: what else is none -/
def Con (Z : State) (a0 : Array Value) (l : Launch) (y : MethodName) (bytes : ByteArray) (maxL : Nat) (ret : Option FieldType) (rm : Room) (tws : List Jvm.Cond) (as' : Array Value) (EL : List (String × Nat)) (h0 : Heap) (n0 : Nat) (ws sf : List Addr) (Q : Option Value → Heap → List Addr → Prop) : Prop :=
  MetFree l y (head1 (Cond.code y bytes maxL ret :: tws) rm) (fun a U => a = as' ∧ Z.Warmed39 U.vm ∧ U.heap = h0 ∧ CHv Z EL U.vm h0 ∧ ∀ x ∈ sf, x < h0.size ∧ Safe Z EL U.vm h0 x) (fun _ _ _ _ _ => True) (fun _ U o U' => ∃ v LL, o = .returned v ∧ (∃ so, Fr n0 LL ∧ Keep h0 U'.heap ws ∧ Q v U'.heap so ∧ CHr Z EL U.vm U.heap U'.vm U'.heap ∧ ∀ x ∈ so, x < U'.heap.size ∧ Safe Z EL U'.vm U'.heap x) ∧ ReturnedEndW U o U' LL rm.cells rm.slots)
def VV (Q : Value → Heap → List Addr → Prop) : Option Value → Heap → List Addr → Prop := fun v h so => ∃ w, v = some w ∧ Q w h so
def V0 (Q : Heap → List Addr → Prop) : Option Value → Heap → List Addr → Prop := fun v h so => v = none ∧ Q h so
/-- the walk's end -/
def Fin (Z : State) (EL : List (String × Nat)) (p : Program) (e : Env) (below : List Frame) (B s : State) (h0 : Heap) (n0 : Nat) (ws : List Addr) (k n : Nat) (Q : Option Value → Heap → List Addr → Prop) : Prop :=
  ∃ s₂ o, Steps p.tables e below B s₂ ∧ s₂.status = .running ∧ Ended s₂ below o ∧ ∃ v LL, o = .returned v ∧ (∃ so, Fr n0 LL ∧ Keep h0 s₂.heap ws ∧ Q v s₂.heap so ∧ CHr Z EL s.vm s.heap s₂.vm s₂.heap ∧ ∀ x ∈ so, x < s₂.heap.size ∧ Safe Z EL s₂.vm s₂.heap x) ∧ ReturnedEndW s o s₂ LL k n
theorem Con.body {tws : List Jvm.Cond} {y : MethodName} {bytes : ByteArray} {maxL : Nat} {ret : Option FieldType} {rm : Room} {as' : Array Value} {Q : Option Value → Heap → List Addr → Prop} (hpl : plainFor y = true) (hEW : EW Z a0 EL) (o1 : Old Z n0 h0) (z3 : ∀ x ∈ ws, n0 ≤ x) (L0 : Array Slot) (hef : ∀ m, entryFrame m as' maxL = mkF m 0 L0 [])
    (body : ∀ (p : Program) (e : Env) (s : State) (m : MethodId) (below : List Frame) (meth : Method) (c : Code) (B : State), meth.name = y.name → meth.sig.returnType = ret → meth.locks = false → Wl Z a0 y.cls p l e rm s m as' below meth c bytes maxL B EL h0 n0 ws sf h0 0 0 0 L0 [] → Fin Z EL p e below B s h0 n0 ws rm.cells rm.slots Q) : Con Z a0 l y bytes maxL ret rm tws as' EL h0 n0 ws sf Q := by
  refine MetFree.of_bodySF hpl hisR ?_
  intro p e s m args below meth c s₁ Bd hml hP hK
  obtain ⟨rfl, hZ, hh, hC, hF⟩ := hP
  refine body p e s m below meth c _ (name_of_methodNamed Bd.named Bd.method).1 Bd.returns Bd.notSynchronized ⟨⟨Bd.exec, Bd.bytes, hml, hEW⟩, ⟨o1, Keep.refl _ _, z3, by rw [← o1.1]; exact o1.2.1, hh⟩, s.vm, 0, s₁, [], Stand.of_body Bd, ⟨(State.WarmedH.refl s).since 0, Nat.zero_le _, hZ, findClass_of_methodNamed Bd.named⟩, ⟨CHr.refl hC, hF⟩, Fr.nil n0, by rw [← hh, Bd.state]; rfl, fun t q => ?_⟩
  rw [hef m]; exact q
theorem Wl.retV  {Q : Option Value → Heap → List Addr → Prop} {kk nn : Nat} (G : Wl Z a0 own p l e R s m args below meth c code mx B EL h0 n0 ws sf h cells slots pc L ([])) (hret : meth.sig.returnType = none) (hlk : meth.locks = false) (hd : decode code pc = .ok (.return_, 1)) (so : List Addr) (hso : ∀ x ∈ so, x ∈ sf) (hQ : Q (none) h so) (hc : cells ≤ kk) (hs : slots ≤ nn) : Fin Z EL p e below B s h0 n0 ws kk nn Q := by
  obtain ⟨⟨hx, hby, hml, hEW⟩, ⟨o1, z2, z3, z1, es⟩, v0, k0, T, locs, X, ⟨hS, hk, hZ, hown⟩, ⟨hC, hF⟩, N, eT, k⟩ := G
  obtain ⟨fs, hr, hrun, hended, hW⟩ := X.leaveW hS (by rw [eT]; exact hk) (v := none) (fun _ => rfl) hlk
  have hCT := CHv.at X hZ hEW hC.1
  refine ⟨_, _, k _ ?_, hrun, hended, _, _, rfl, ⟨so, N, ?_, ?_, ?_, ?_⟩, hW.1, hW.2.1, hW.2.2.1, hW.2.2.2.mono hc hs⟩
  · exact X.returnOut hx hret (hb hby hd) hr
  · show Keep h0 T.heap ws
    rw [eT]; exact z2
  · show Q _ T.heap so
    rw [eT]; exact hQ
  · show CHr Z EL s.vm s.heap T.vm T.heap
    rw [eT, es]
    exact hC.trans hCT
  · intro x hx
    show x < T.heap.size ∧ Safe Z EL T.vm T.heap x
    rw [eT]; exact ⟨(hF x (hso x hx)).1, hCT.safe (hF x (hso x hx)).1 (hF x (hso x hx)).2⟩
theorem Wl.retI {z : Int32} {Q : Option Value → Heap → List Addr → Prop} {kk nn : Nat} (G : Wl Z a0 own p l e R s m args below meth c code mx B EL h0 n0 ws sf h cells slots pc L (.int z :: S)) (hret : meth.sig.returnType = some .int) (hlk : meth.locks = false) (hd : decode code pc = .ok (.ireturn, 1)) (so : List Addr) (hso : ∀ x ∈ so, x ∈ sf) (hQ : Q (some (.int z)) h so) (hc : cells ≤ kk) (hs : slots ≤ nn) : Fin Z EL p e below B s h0 n0 ws kk nn Q := by
  obtain ⟨⟨hx, hby, hml, hEW⟩, ⟨o1, z2, z3, z1, es⟩, v0, k0, T, locs, X, ⟨hS, hk, hZ, hown⟩, ⟨hC, hF⟩, N, eT, k⟩ := G
  obtain ⟨fs, hr, hrun, hended, hW⟩ := X.leaveW hS (by rw [eT]; exact hk) (v := some (.int z)) (fun h => by rw [hret] at h; cases h) hlk
  have hCT := CHv.at X hZ hEW hC.1
  refine ⟨_, _, k _ ?_, hrun, hended, _, _, rfl, ⟨so, N, ?_, ?_, ?_, ?_⟩, hW.1, hW.2.1, hW.2.2.1, hW.2.2.2.mono hc hs⟩
  · exact retOut X hx hret rfl (Or.inl ⟨rfl, Or.inl rfl, _, rfl⟩) (hb hby hd) hr
  · show Keep h0 T.heap ws
    rw [eT]; exact z2
  · show Q _ T.heap so
    rw [eT]; exact hQ
  · show CHr Z EL s.vm s.heap T.vm T.heap
    rw [eT, es]
    exact hC.trans hCT
  · intro x hx
    show x < T.heap.size ∧ Safe Z EL T.vm T.heap x
    rw [eT]; exact ⟨(hF x (hso x hx)).1, hCT.safe (hF x (hso x hx)).1 (hF x (hso x hx)).2⟩
theorem Wl.retN {z : Int32} {t : FieldType} {Q : Option Value → Heap → List Addr → Prop} {kk nn : Nat} (G : Wl Z a0 own p l e R s m args below meth c code mx B EL h0 n0 ws sf h cells slots pc L (.int z :: S)) (hret : meth.sig.returnType = some t) (ht : t = .boolean ∨ t = .byte ∨ t = .char ∨ t = .short) (hlk : meth.locks = false) (hd : decode code pc = .ok (.ireturn, 1)) (so : List Addr) (hso : ∀ x ∈ so, x ∈ sf) (hQ : Q (some (.int (nar t z))) h so) (hc : cells ≤ kk) (hs : slots ≤ nn) : Fin Z EL p e below B s h0 n0 ws kk nn Q := by
  obtain ⟨⟨hx, hby, hml, hEW⟩, ⟨o1, z2, z3, z1, es⟩, v0, k0, T, locs, X, ⟨hS, hk, hZ, hown⟩, ⟨hC, hF⟩, N, eT, k⟩ := G
  obtain ⟨fs, hr, hrun, hended, hW⟩ := X.leaveW hS (by rw [eT]; exact hk) (v := some (.int (nar t z))) (fun h => by rw [hret] at h; cases h) hlk
  have hCT := CHv.at X hZ hEW hC.1
  refine ⟨_, _, k _ ?_, hrun, hended, _, _, rfl, ⟨so, N, ?_, ?_, ?_, ?_⟩, hW.1, hW.2.1, hW.2.2.1, hW.2.2.2.mono hc hs⟩
  · exact Jvm.RoadKit.retN X hx hret ht (hb hby hd) hr
  · show Keep h0 T.heap ws
    rw [eT]; exact z2
  · show Q _ T.heap so
    rw [eT]; exact hQ
  · show CHr Z EL s.vm s.heap T.vm T.heap
    rw [eT, es]
    exact hC.trans hCT
  · intro x hx
    show x < T.heap.size ∧ Safe Z EL T.vm T.heap x
    rw [eT]; exact ⟨(hF x (hso x hx)).1, hCT.safe (hF x (hso x hx)).1 (hF x (hso x hx)).2⟩
theorem Wl.retL {z : Int64} {Q : Option Value → Heap → List Addr → Prop} {kk nn : Nat} (G : Wl Z a0 own p l e R s m args below meth c code mx B EL h0 n0 ws sf h cells slots pc L (.long z :: S)) (hret : meth.sig.returnType = some .long) (hlk : meth.locks = false) (hd : decode code pc = .ok (.lreturn, 1)) (so : List Addr) (hso : ∀ x ∈ so, x ∈ sf) (hQ : Q (some (.long z)) h so) (hc : cells ≤ kk) (hs : slots ≤ nn) : Fin Z EL p e below B s h0 n0 ws kk nn Q := by
  obtain ⟨⟨hx, hby, hml, hEW⟩, ⟨o1, z2, z3, z1, es⟩, v0, k0, T, locs, X, ⟨hS, hk, hZ, hown⟩, ⟨hC, hF⟩, N, eT, k⟩ := G
  obtain ⟨fs, hr, hrun, hended, hW⟩ := X.leaveW hS (by rw [eT]; exact hk) (v := some (.long z)) (fun h => by rw [hret] at h; cases h) hlk
  have hCT := CHv.at X hZ hEW hC.1
  refine ⟨_, _, k _ ?_, hrun, hended, _, _, rfl, ⟨so, N, ?_, ?_, ?_, ?_⟩, hW.1, hW.2.1, hW.2.2.1, hW.2.2.2.mono hc hs⟩
  · exact retOut X hx hret rfl (Or.inr (Or.inl ⟨rfl, rfl, _, rfl⟩)) (hb hby hd) hr
  · show Keep h0 T.heap ws
    rw [eT]; exact z2
  · show Q _ T.heap so
    rw [eT]; exact hQ
  · show CHr Z EL s.vm s.heap T.vm T.heap
    rw [eT, es]
    exact hC.trans hCT
  · intro x hx
    show x < T.heap.size ∧ Safe Z EL T.vm T.heap x
    rw [eT]; exact ⟨(hF x (hso x hx)).1, hCT.safe (hF x (hso x hx)).1 (hF x (hso x hx)).2⟩
theorem Wl.retA {w : Value} {t : FieldType} {Q : Option Value → Heap → List Addr → Prop} {kk nn : Nat} (G : Wl Z a0 own p l e R s m args below meth c code mx B EL h0 n0 ws sf h cells slots pc L (w :: S)) (hret : meth.sig.returnType = some t) (ht : t.isReference = true) (hw : w.isRef = true) (hlk : meth.locks = false) (hd : decode code pc = .ok (.areturn, 1)) (so : List Addr) (hso : ∀ x ∈ so, x ∈ sf) (hQ : Q (some w) h so) (hc : cells ≤ kk) (hs : slots ≤ nn) : Fin Z EL p e below B s h0 n0 ws kk nn Q := by
  obtain ⟨⟨hx, hby, hml, hEW⟩, ⟨o1, z2, z3, z1, es⟩, v0, k0, T, locs, X, ⟨hS, hk, hZ, hown⟩, ⟨hC, hF⟩, N, eT, k⟩ := G
  obtain ⟨fs, hr, hrun, hended, hW⟩ := X.leaveW hS (by rw [eT]; exact hk) (v := some w) (fun h => by rw [hret] at h; cases h) hlk
  have hCT := CHv.at X hZ hEW hC.1
  refine ⟨_, _, k _ ?_, hrun, hended, _, _, rfl, ⟨so, N, ?_, ?_, ?_, ?_⟩, hW.1, hW.2.1, hW.2.2.1, hW.2.2.2.mono hc hs⟩
  · exact retOut X hx hret (by cases t <;> first | rfl | simp [FieldType.isReference] at ht) (Or.inr (Or.inr (Or.inr (Or.inr ⟨rfl, ht, hw⟩)))) (hb hby hd) hr
  · show Keep h0 T.heap ws
    rw [eT]; exact z2
  · show Q _ T.heap so
    rw [eT]; exact hQ
  · show CHr Z EL s.vm s.heap T.vm T.heap
    rw [eT, es]
    exact hC.trans hCT
  · intro x hx
    show x < T.heap.size ∧ Safe Z EL T.vm T.heap x
    rw [eT]; exact ⟨(hF x (hso x hx)).1, hCT.safe (hF x (hso x hx)).1 (hF x (hso x hx)).2⟩
theorem backL {y : MethodName} {bytes : ByteArray} {maxL : Nat} {ret : Option FieldType} {rm : Room} {len W : Nat} {as' : Array Value} {v0 : Vm} {wsC sfC : List Addr} {Q : Option Value → Heap → List Addr → Prop}
    (hM : Con Z a0 l y bytes maxL ret rm [] as' EL h n0 wsC sfC Q) (hZ : Z.Warmed39 v0) (wc : (Cond.code y bytes maxL ret).before a0 Z = true) (wz : (Cond.initialized y.cls).before a0 Z = true) (hf : rm.frames + 1 ≤ R.frames) (hl : W + (maxL + 11) + rm.locals ≤ R.locals) (hEL : EW Z a0 EL) (H : CHv Z EL v0 h) (hF : ∀ x ∈ sfC, x < h.size ∧ Safe Z EL v0 h x) :
    BackS l R p e below (s.setVm v0) args y len W (fun A a => a = as' ∧ A.U.heap = h ∧ A.cells + rm.cells ≤ R.cells ∧ A.slots + rm.slots ≤ R.slots)
      (fun A _ v B => ∃ LL, (∃ so, Fr n0 LL ∧ Keep h B.U.heap wsC ∧ Q v B.U.heap so ∧ CHr Z EL v0 h B.U.vm B.U.heap ∧ ∀ x ∈ so, x < B.U.heap.size ∧ Safe Z EL B.U.vm B.U.heap x) ∧ B.locs = A.locs ++ LL ∧ B.cells = A.cells + rm.cells ∧ B.slots = A.slots + rm.slots) :=
  BackS.of_freeW (bytes := bytes) (maxL := maxL) (ret := ret) (E := fun _ first o t LL k n => k = rm.cells ∧ n = rm.slots ∧ ∃ v, o = .returned v ∧ ∃ so, Fr n0 LL ∧ Keep h t.heap wsC ∧ Q v t.heap so ∧ CHr Z EL first.vm first.heap t.vm t.heap ∧ ∀ x ∈ so, x < t.heap.size ∧ Safe Z EL t.vm t.heap x) hM hf hl
    (fun m meth c A a Y hp => have hU : Z.Warmed39 A.U.vm := wtrans (s := s.setVm v0) hZ Y.warmed
      ⟨by show (Cond.and _ .tt).before a A.U = true; rw [Cond.before_and, mv hU wc]; rfl, mv hU wc, mv hU wz, hp.2.2.1, hp.2.2.2⟩)
    (fun m meth c A a g mk Y hp => ⟨hp.1, wtrans (s := s.setVm v0) hZ Y.warmed, hp.2.1, (CHv.at Y hZ hEL H).1, fun x hx => ⟨(hF x hx).1, (CHv.at Y hZ hEL H).safe (hF x hx).1 (hF x hx).2⟩⟩) (fun _ _ _ _ _ _ _ _ _ => trivial)
    (fun _ _ _ _ ⟨v, LL, h1, h2, h3⟩ => ⟨LL, _, _, h3, rfl, rfl, v, h1, h2⟩)
    (fun m meth c A a g mk v t LL k n Y hp _ _ ⟨e1, e2, v', e3, so, q1, q2, q3, q4, q5⟩ => by
      cases e3; subst e1 e2
      refine ⟨LL, ⟨so, q1, q2, q3, (CHv.at Y hZ hEL H).trans ?_, q5⟩, rfl, rfl, rfl⟩
      rw [← hp.2.1]; exact q4)
theorem Wl.callS {index : Nat} {y : MethodName} {bytes : ByteArray} {maxL : Nat} {ret : Option FieldType} {rm : Room} {wsC sfC : List Addr} {St : List Value} {Q : Option Value → Heap → List Addr → Prop} (G : Wl Z a0 own p l e R s m args below meth c code mx B EL h0 n0 ws sf h cells slots pc L (St)) (pc' : Nat) (w1 : (Cond.methodLink own index y).before a0 Z = true) (w2 : (Cond.static y).before a0 Z = true) (wz : (Cond.initialized y.cls).before a0 Z = true) (wc : (Cond.code y bytes maxL ret).before a0 Z = true) (hy : y.cls ≠ "java/lang/invoke/MethodHandle" ∧ y.cls ≠ "java/lang/invoke/VarHandle") (argsL rest : List Value) (hst : St = argsL.reverse ++ rest) (hM : Con Z a0 l y bytes maxL ret rm [] argsL.toArray EL h n0 wsC sfC Q) (hlen : ∀ sig, parseMethodDescriptor y.desc = some sig → argsL.length = sig.parameters.length) (hd : decode code pc = .ok (.invokestatic index, 3)) (hz : L.size = mx) (hf : rm.frames + 1 ≤ R.frames) (hl : (rest.map fun v => v.category).sum + (maxL + 11) + rm.locals ≤ R.locals) (hc : cells + rm.cells ≤ R.cells) (hs : slots + rm.slots ≤ R.slots) (hws : ∀ x ∈ wsC, NW h0 ws x) (hsf : ∀ x ∈ sfC, x ∈ sf) (hwf : ∀ x ∈ wsC, x ∈ sf) (hp : pc + 3 = pc') :
    ∃ (v : Option Value) (h' : Heap) (so : List Addr), Wl Z a0 own p l e R s m args below meth c code mx B EL h0 n0 ws (so ++ sf) h' (cells + rm.cells) (slots + rm.slots) pc' L (v.toList ++ rest) ∧ Keep h h' wsC ∧ Q v h' so := by
  have nw := fun x (q : NW h0 ws x) => G.nw q
  obtain ⟨⟨hx, hby, hml, hEW⟩, ⟨o1, z2, z3, z1, es⟩, v0, k0, T, locs, X, ⟨hS, hk, hZ, hown⟩, ⟨hC, hF⟩, N, eT, k⟩ := G
  subst hst
  obtain ⟨v, _, ⟨T', L', k', n'⟩, -, X', hS', g', ⟨Lc, ⟨so, N', K', hQ, C', F'⟩, l', y', z'⟩, st⟩ := callSS X hx (y := y) hown (mvT (s := s.setVm v0) hZ w1) (mvT (s := s.setVm v0) hZ w2) (mvT (s := s.setVm v0) hZ wz) (mvT (s := s.setVm v0) hZ wc) hy (backL (s := s) (W := (rest.map fun v => v.category).sum) hM hZ wc wz hf hl hEW hC.1 (fun x hx => hF x (hsf x hx))) (g := mkF m pc L (argsL.reverse ++ rest)) rfl (hz.trans hml.symm) (argsL := argsL) (rest := rest) hlen rfl (by show 2 * 0 + _ ≤ _; omega) (hb hby hd) (fun _ _ => ⟨rfl, eT, hc, hs⟩)
  dsimp only [Pt.U, Pt.locs, Pt.cells, Pt.slots] at X' hS' g' l' y' z' st N' K' hQ C' F'
  subst l' y' z'
  obtain ⟨X2, hS2, hZ2, hown2⟩ := rebS (s := s) hS (by rw [← eT] at hk; exact hk) X' hS' g' hZ hown
  exact ⟨v, T'.heap, so, ⟨⟨hx, hby, hml, hEW⟩, ⟨o1.keep K' (fun x q => nw x (hws x q)), z2.trans K' hws, z3, z1, es⟩, T'.vm, _, T', _, X2, ⟨hS2, Nat.le_refl _, hZ2, hown2⟩, ⟨hC.trans C', fun x q => (List.mem_append.mp q).elim (F' x) (fun r => ⟨Nat.lt_of_lt_of_le (hF x r).1 K'.1, C'.safe (hF x r).1 (hF x r).2⟩)⟩, N.app N', rfl, fun t q => k t (st.trans (by subst hp; exact q))⟩, K', hQ⟩
theorem Wl.callI {index : Nat} {y : MethodName} {bytes : ByteArray} {maxL : Nat} {ret : Option FieldType} {rm : Room} {wsC sfC : List Addr} {St : List Value} {a : Addr} {Q : Option Value → Heap → List Addr → Prop} (G : Wl Z a0 own p l e R s m args below meth c code mx B EL h0 n0 ws sf h cells slots pc L (St)) (pc' : Nat) (hr : ret = none) (hy1 : y.name = "<init>") (w1 : (Cond.methodLink own index y).before a0 Z = true) (w2 : (Cond.instanceMethod y).before a0 Z = true) (wz : (Cond.initialized y.cls).before a0 Z = true) (wc : (Cond.code y bytes maxL ret).before a0 Z = true) (hy : y.cls ≠ "java/lang/invoke/MethodHandle" ∧ y.cls ≠ "java/lang/invoke/VarHandle") (argsL rest : List Value) (hst : St = argsL.reverse ++ .ref a :: rest) (hM : Con Z a0 l y bytes maxL ret rm [] (.ref a :: argsL).toArray EL h n0 wsC sfC Q) (hlen : ∀ sig, parseMethodDescriptor y.desc = some sig → argsL.length = sig.parameters.length) (hd : decode code pc = .ok (.invokespecial index, 3)) (hz : L.size = mx) (hf : rm.frames + 1 ≤ R.frames) (hl : (rest.map fun v => v.category).sum + (maxL + 11) + rm.locals ≤ R.locals) (hc : cells + rm.cells ≤ R.cells) (hs : slots + rm.slots ≤ R.slots) (hws : ∀ x ∈ wsC, NW h0 ws x) (hsf : ∀ x ∈ sfC, x ∈ sf) (hwf : ∀ x ∈ wsC, x ∈ sf) (hp : pc + 3 = pc') :
    ∃ (v : Option Value) (h' : Heap) (so : List Addr), Wl Z a0 own p l e R s m args below meth c code mx B EL h0 n0 ws (so ++ sf) h' (cells + rm.cells) (slots + rm.slots) pc' L (v.toList ++ rest) ∧ Keep h h' wsC ∧ Q v h' so := by
  have nw := fun x (q : NW h0 ws x) => G.nw q
  obtain ⟨⟨hx, hby, hml, hEW⟩, ⟨o1, z2, z3, z1, es⟩, v0, k0, T, locs, X, ⟨hS, hk, hZ, hown⟩, ⟨hC, hF⟩, N, eT, k⟩ := G
  subst hst
  subst hr
  obtain ⟨v, _, ⟨T', L', k', n'⟩, -, X', hS', g', ⟨Lc, ⟨so, N', K', hQ, C', F'⟩, l', y', z'⟩, st⟩ := X.specialBackS hx (y := y) hy1 hown (mvT (s := s.setVm v0) hZ w1) (mvT (s := s.setVm v0) hZ w2) (mvT (s := s.setVm v0) hZ wc) hy (backL (s := s) (W := (rest.map fun v => v.category).sum) hM hZ wc wz hf hl hEW hC.1 (fun x hx => hF x (hsf x hx))) (g := mkF m pc L (argsL.reverse ++ .ref a :: rest)) rfl (hz.trans hml.symm) (Steps.refl _) (a := a) (argsL := argsL) (rest := rest) hlen rfl (by show 2 * 0 + _ ≤ _; omega) (hb hby hd) (fun _ _ => ⟨rfl, eT, hc, hs⟩)
  dsimp only [Pt.U, Pt.locs, Pt.cells, Pt.slots] at X' hS' g' l' y' z' st N' K' hQ C' F'
  subst l' y' z'
  obtain ⟨X2, hS2, hZ2, hown2⟩ := rebS (s := s) hS (by rw [← eT] at hk; exact hk) X' hS' g' hZ hown
  exact ⟨v, T'.heap, so, ⟨⟨hx, hby, hml, hEW⟩, ⟨o1.keep K' (fun x q => nw x (hws x q)), z2.trans K' hws, z3, z1, es⟩, T'.vm, _, T', _, X2, ⟨hS2, Nat.le_refl _, hZ2, hown2⟩, ⟨hC.trans C', fun x q => (List.mem_append.mp q).elim (F' x) (fun r => ⟨Nat.lt_of_lt_of_le (hF x r).1 K'.1, C'.safe (hF x r).1 (hF x r).2⟩)⟩, N.app N', rfl, fun t q => k t (st.trans (by subst hp; exact q))⟩, K', hQ⟩
theorem Wl.callV {index : Nat} {y : MethodName} {bytes : ByteArray} {maxL : Nat} {ret : Option FieldType} {rm : Room} {wsC sfC : List Addr} {St : List Value} {a : Addr} {C : String} {zz : MethodName} {Q : Option Value → Heap → List Addr → Prop} (G : Wl Z a0 own p l e R s m args below meth c code mx B EL h0 n0 ws sf h cells slots pc L (St)) (pc' : Nat) (w1 : (Cond.methodLink own index y).before a0 Z = true) (w2 : (Cond.declares y).before a0 Z = true) (hnf : ∀ s' : State, Z.Warmed39 s'.vm → NotFace s' y) (w3 : (Cond.selects C y zz).before a0 Z = true) (w4 : (Cond.instanceMethod zz).before a0 Z = true) (wz : (Cond.initialized zz.cls).before a0 Z = true) (wc : (Cond.code zz bytes maxL ret).before a0 Z = true) (Ex : Exa Z h a C) (hy : y.cls ≠ "java/lang/invoke/MethodHandle" ∧ y.cls ≠ "java/lang/invoke/VarHandle") (argsL rest : List Value) (hst : St = argsL.reverse ++ .ref a :: rest) (hM : Con Z a0 l zz bytes maxL ret rm [] (.ref a :: argsL).toArray EL h n0 wsC sfC Q) (hlen : ∀ sig, parseMethodDescriptor y.desc = some sig → argsL.length = sig.parameters.length) (hd : decode code pc = .ok (.invokevirtual index, 3)) (hz : L.size = mx) (hf : rm.frames + 1 ≤ R.frames) (hl : (rest.map fun v => v.category).sum + (maxL + 11) + rm.locals ≤ R.locals) (hc : cells + rm.cells ≤ R.cells) (hs : slots + rm.slots ≤ R.slots) (hws : ∀ x ∈ wsC, NW h0 ws x) (hsf : ∀ x ∈ sfC, x ∈ sf) (hwf : ∀ x ∈ wsC, x ∈ sf) (hp : pc + 3 = pc') :
    ∃ (v : Option Value) (h' : Heap) (so : List Addr), Wl Z a0 own p l e R s m args below meth c code mx B EL h0 n0 ws (so ++ sf) h' (cells + rm.cells) (slots + rm.slots) pc' L (v.toList ++ rest) ∧ Keep h h' wsC ∧ Q v h' so := by
  have nw := fun x (q : NW h0 ws x) => G.nw q
  obtain ⟨⟨hx, hby, hml, hEW⟩, ⟨o1, z2, z3, z1, es⟩, v0, k0, T, locs, X, ⟨hS, hk, hZ, hown⟩, ⟨hC, hF⟩, N, eT, k⟩ := G
  subst hst
  obtain ⟨cq, kq, q1, q2, q3⟩ := isOf (s := s.setVm v0) (T := T) hZ eT Ex
  obtain ⟨v, _, ⟨T', L', k', n'⟩, -, X', hS', g', ⟨Lc, ⟨so, N', K', hQ, C', F'⟩, l', y', z'⟩, st⟩ := X.virtualBackS hx (y := y) (z := zz) hown (mvT (s := s.setVm v0) hZ w1) (mvT (s := s.setVm v0) hZ w2) (hnf (s.setVm v0) hZ) (mvT (s := s.setVm v0) hZ w3) (mvT (s := s.setVm v0) hZ w4) hy (backL (s := s) (W := (rest.map fun v => v.category).sum) hM hZ wc wz hf hl hEW hC.1 (fun x hx => hF x (hsf x hx))) q1 q3 (g := mkF m pc L (argsL.reverse ++ .ref a :: rest)) rfl (hz.trans hml.symm) (Steps.refl _) (argsL := argsL) (rest := rest) hlen rfl (by show 2 * 0 + _ ≤ _; omega) (hb hby hd) (fun _ _ => ⟨rfl, eT, hc, hs⟩)
  dsimp only [Pt.U, Pt.locs, Pt.cells, Pt.slots] at X' hS' g' l' y' z' st N' K' hQ C' F'
  subst l' y' z'
  obtain ⟨X2, hS2, hZ2, hown2⟩ := rebS (s := s) hS (by rw [← eT] at hk; exact hk) X' hS' g' hZ hown
  exact ⟨v, T'.heap, so, ⟨⟨hx, hby, hml, hEW⟩, ⟨o1.keep K' (fun x q => nw x (hws x q)), z2.trans K' hws, z3, z1, es⟩, T'.vm, _, T', _, X2, ⟨hS2, Nat.le_refl _, hZ2, hown2⟩, ⟨hC.trans C', fun x q => (List.mem_append.mp q).elim (F' x) (fun r => ⟨Nat.lt_of_lt_of_le (hF x r).1 K'.1, C'.safe (hF x r).1 (hF x r).2⟩)⟩, N.app N', rfl, fun t q => k t (st.trans (by subst hp; exact q))⟩, K', hQ⟩
theorem Wl.callU {index : Nat} {y : MethodName} {bytes : ByteArray} {maxL : Nat} {ret : Option FieldType} {rm : Room} {wsC sfC : List Addr} {St : List Value} {a : Addr} {C owner : String} {zz : MethodName} {Q : Option Value → Heap → List Addr → Prop} (G : Wl Z a0 own p l e R s m args below meth c code mx B EL h0 n0 ws sf h cells slots pc L (St)) (pc' : Nat) (w1 : (Cond.methodLink own index y).before a0 Z = true) (w2 : (Cond.sameMethod y.cls owner y.name y.desc).before a0 Z = true) (w5 : (Cond.declares ⟨owner, y.name, y.desc⟩).before a0 Z = true) (w3 : (Cond.selects C y zz).before a0 Z = true) (w4 : (Cond.instanceMethod zz).before a0 Z = true) (wz : (Cond.initialized zz.cls).before a0 Z = true) (wc : (Cond.code zz bytes maxL ret).before a0 Z = true) (Ex : Exa Z h a C) (hy : owner ≠ "java/lang/invoke/MethodHandle" ∧ owner ≠ "java/lang/invoke/VarHandle") (argsL rest : List Value) (hst : St = argsL.reverse ++ .ref a :: rest) (hM : Con Z a0 l zz bytes maxL ret rm [] (.ref a :: argsL).toArray EL h n0 wsC sfC Q) (hlen : ∀ sig, parseMethodDescriptor y.desc = some sig → argsL.length = sig.parameters.length) (hd : decode code pc = .ok (.invokevirtual index, 3)) (hz : L.size = mx) (hf : rm.frames + 1 ≤ R.frames) (hl : (rest.map fun v => v.category).sum + (maxL + 11) + rm.locals ≤ R.locals) (hc : cells + rm.cells ≤ R.cells) (hs : slots + rm.slots ≤ R.slots) (hws : ∀ x ∈ wsC, NW h0 ws x) (hsf : ∀ x ∈ sfC, x ∈ sf) (hwf : ∀ x ∈ wsC, x ∈ sf) (hp : pc + 3 = pc') :
    ∃ (v : Option Value) (h' : Heap) (so : List Addr), Wl Z a0 own p l e R s m args below meth c code mx B EL h0 n0 ws (so ++ sf) h' (cells + rm.cells) (slots + rm.slots) pc' L (v.toList ++ rest) ∧ Keep h h' wsC ∧ Q v h' so := by
  have nw := fun x (q : NW h0 ws x) => G.nw q
  obtain ⟨⟨hx, hby, hml, hEW⟩, ⟨o1, z2, z3, z1, es⟩, v0, k0, T, locs, X, ⟨hS, hk, hZ, hown⟩, ⟨hC, hF⟩, N, eT, k⟩ := G
  subst hst
  obtain ⟨cq, kq, q1, q2, q3⟩ := isOf (s := s.setVm v0) (T := T) hZ eT Ex
  obtain ⟨v, _, ⟨T', L', k', n'⟩, -, X', hS', g', ⟨Lc, ⟨so, N', K', hQ, C', F'⟩, l', y', z'⟩, st⟩ := X.virtualBackUpS hx (x := y) (y := zz) hown (mvT (s := s.setVm v0) hZ w1) (mvT (s := s.setVm v0) hZ w2) (mvT (s := s.setVm v0) hZ w5) hy (mvT (s := s.setVm v0) hZ w3) (mvT (s := s.setVm v0) hZ w4) (backL (s := s) (W := (rest.map fun v => v.category).sum) hM hZ wc wz hf hl hEW hC.1 (fun x hx => hF x (hsf x hx))) q1 q3 (g := mkF m pc L (argsL.reverse ++ .ref a :: rest)) rfl (hz.trans hml.symm) (Steps.refl _) (argsL := argsL) (rest := rest) hlen rfl (by show 2 * 0 + _ ≤ _; omega) (hb hby hd) (fun _ _ => ⟨rfl, eT, hc, hs⟩)
  dsimp only [Pt.U, Pt.locs, Pt.cells, Pt.slots] at X' hS' g' l' y' z' st N' K' hQ C' F'
  subst l' y' z'
  obtain ⟨X2, hS2, hZ2, hown2⟩ := rebS (s := s) hS (by rw [← eT] at hk; exact hk) X' hS' g' hZ hown
  exact ⟨v, T'.heap, so, ⟨⟨hx, hby, hml, hEW⟩, ⟨o1.keep K' (fun x q => nw x (hws x q)), z2.trans K' hws, z3, z1, es⟩, T'.vm, _, T', _, X2, ⟨hS2, Nat.le_refl _, hZ2, hown2⟩, ⟨hC.trans C', fun x q => (List.mem_append.mp q).elim (F' x) (fun r => ⟨Nat.lt_of_lt_of_le (hF x r).1 K'.1, C'.safe (hF x r).1 (hF x r).2⟩)⟩, N.app N', rfl, fun t q => k t (st.trans (by subst hp; exact q))⟩, K', hQ⟩
theorem Wl.callF {index : Nat} {y : MethodName} {bytes : ByteArray} {maxL : Nat} {ret : Option FieldType} {rm : Room} {wsC sfC : List Addr} {St : List Value} {a : Addr} {C : String} {count : Nat} {zz : MethodName} {Q : Option Value → Heap → List Addr → Prop} (G : Wl Z a0 own p l e R s m args below meth c code mx B EL h0 n0 ws sf h cells slots pc L (St)) (pc' : Nat) (w1 : (Cond.methodLink own index y).before a0 Z = true) (w2 : (Cond.declares y).before a0 Z = true) (w5 : (Cond.interfaceMethod y.cls y.cls y.name y.desc).before a0 Z = true) (k5 : ((Cond.interfaceMethod y.cls y.cls y.name y.desc).onTables && (Cond.interfaceMethod y.cls y.cls y.name y.desc).keepsFace) = true) (w3 : (Cond.selects C y zz).before a0 Z = true) (w4 : (Cond.instanceMethod zz).before a0 Z = true) (w6 : (Cond.publicMethod zz).before a0 Z = true) (w7 : (Cond.unhidden C y.name y.desc).before a0 Z = true) (w8 : (Cond.castable C y.cls).before a0 Z = true) (wz : (Cond.initialized zz.cls).before a0 Z = true) (wc : (Cond.code zz bytes maxL ret).before a0 Z = true) (Ex : Exa Z h a C) (hy : y.cls ≠ "java/lang/invoke/MethodHandle" ∧ y.cls ≠ "java/lang/invoke/VarHandle") (argsL rest : List Value) (hst : St = argsL.reverse ++ .ref a :: rest) (hM : Con Z a0 l zz bytes maxL ret rm [] (.ref a :: argsL).toArray EL h n0 wsC sfC Q) (hlen : ∀ sig, parseMethodDescriptor y.desc = some sig → argsL.length = sig.parameters.length) (hd : decode code pc = .ok (.invokeinterface index count, 5)) (hz : L.size = mx) (hf : rm.frames + 1 ≤ R.frames) (hl : (rest.map fun v => v.category).sum + (maxL + 11) + rm.locals ≤ R.locals) (hc : cells + rm.cells ≤ R.cells) (hs : slots + rm.slots ≤ R.slots) (hws : ∀ x ∈ wsC, NW h0 ws x) (hsf : ∀ x ∈ sfC, x ∈ sf) (hwf : ∀ x ∈ wsC, x ∈ sf) (hp : pc + 5 = pc') :
    ∃ (v : Option Value) (h' : Heap) (so : List Addr), Wl Z a0 own p l e R s m args below meth c code mx B EL h0 n0 ws (so ++ sf) h' (cells + rm.cells) (slots + rm.slots) pc' L (v.toList ++ rest) ∧ Keep h h' wsC ∧ Q v h' so := by
  have nw := fun x (q : NW h0 ws x) => G.nw q
  obtain ⟨⟨hx, hby, hml, hEW⟩, ⟨o1, z2, z3, z1, es⟩, v0, k0, T, locs, X, ⟨hS, hk, hZ, hown⟩, ⟨hC, hF⟩, N, eT, k⟩ := G
  subst hst
  obtain ⟨cq, kq, q1, q2, q3⟩ := isOf (s := s.setVm v0) (T := T) hZ eT Ex
  obtain ⟨v, _, ⟨T', L', k', n'⟩, -, X', hS', g', ⟨Lc, ⟨so, N', K', hQ, C', F'⟩, l', y', z'⟩, st⟩ := X.interfaceBackS hx (xi := y) (y := zz) hown (mvT (s := s.setVm v0) hZ w1) (mvT (s := s.setVm v0) hZ w2) (mvT (s := s.setVm v0) hZ w5 k5) (mvT (s := s.setVm v0) hZ w3) (mvT (s := s.setVm v0) hZ w4) (mvT (s := s.setVm v0) hZ w6) (mvT (s := s.setVm v0) hZ w7) (mvT (s := s.setVm v0) hZ w8) hy (backL (s := s) (W := (rest.map fun v => v.category).sum) hM hZ wc wz hf hl hEW hC.1 (fun x hx => hF x (hsf x hx))) q1 q2 q3 (g := mkF m pc L (argsL.reverse ++ .ref a :: rest)) rfl (hz.trans hml.symm) (Steps.refl _) (argsL := argsL) (rest := rest) hlen rfl (by show 2 * 0 + _ ≤ _; omega) (hb hby hd) (fun _ _ => ⟨rfl, eT, hc, hs⟩)
  dsimp only [Pt.U, Pt.locs, Pt.cells, Pt.slots] at X' hS' g' l' y' z' st N' K' hQ C' F'
  subst l' y' z'
  obtain ⟨X2, hS2, hZ2, hown2⟩ := rebS (s := s) hS (by rw [← eT] at hk; exact hk) X' hS' g' hZ hown
  exact ⟨v, T'.heap, so, ⟨⟨hx, hby, hml, hEW⟩, ⟨o1.keep K' (fun x q => nw x (hws x q)), z2.trans K' hws, z3, z1, es⟩, T'.vm, _, T', _, X2, ⟨hS2, Nat.le_refl _, hZ2, hown2⟩, ⟨hC.trans C', fun x q => (List.mem_append.mp q).elim (F' x) (fun r => ⟨Nat.lt_of_lt_of_le (hF x r).1 K'.1, C'.safe (hF x r).1 (hF x r).2⟩)⟩, N.app N', rfl, fun t q => k t (st.trans (by subst hp; exact q))⟩, K', hQ⟩
theorem Wl.callSup {index : Nat} {y : MethodName} {bytes : ByteArray} {maxL : Nat} {ret : Option FieldType} {rm : Room} {wsC sfC : List Addr} {St : List Value} {a : Addr} {K : String} {Q : Option Value → Heap → List Addr → Prop} (G : Wl Z a0 own p l e R s m args below meth c code mx B EL h0 n0 ws sf h cells slots pc L (St)) (pc' : Nat) (w1 : (Cond.methodLink own index y).before a0 Z = true) (w2 : (Cond.sameMethod y.cls y.cls y.name y.desc).before a0 Z = true) (w3 : (Cond.instanceMethod y).before a0 Z = true) (w4 : (Cond.superclass own y.cls).before a0 Z = true) (hn : y.name ≠ "<init>") (wz : (Cond.initialized y.cls).before a0 Z = true) (wc : (Cond.code y bytes maxL ret).before a0 Z = true) (Ex : Ins Z h a K true) (argsL rest : List Value) (hst : St = argsL.reverse ++ .ref a :: rest) (hM : Con Z a0 l y bytes maxL ret rm [] (.ref a :: argsL).toArray EL h n0 wsC sfC Q) (hlen : ∀ sig, parseMethodDescriptor y.desc = some sig → argsL.length = sig.parameters.length) (hd : decode code pc = .ok (.invokespecial index, 3)) (hz : L.size = mx) (hf : rm.frames + 1 ≤ R.frames) (hl : (rest.map fun v => v.category).sum + (maxL + 11) + rm.locals ≤ R.locals) (hc : cells + rm.cells ≤ R.cells) (hs : slots + rm.slots ≤ R.slots) (hws : ∀ x ∈ wsC, NW h0 ws x) (hsf : ∀ x ∈ sfC, x ∈ sf) (hwf : ∀ x ∈ wsC, x ∈ sf) (hp : pc + 3 = pc') :
    ∃ (v : Option Value) (h' : Heap) (so : List Addr), Wl Z a0 own p l e R s m args below meth c code mx B EL h0 n0 ws (so ++ sf) h' (cells + rm.cells) (slots + rm.slots) pc' L (v.toList ++ rest) ∧ Keep h h' wsC ∧ Q v h' so := by
  have nw := fun x (q : NW h0 ws x) => G.nw q
  obtain ⟨⟨hx, hby, hml, hEW⟩, ⟨o1, z2, z3, z1, es⟩, v0, k0, T, locs, X, ⟨hS, hk, hZ, hown⟩, ⟨hC, hF⟩, N, eT, k⟩ := G
  subst hst
  obtain ⟨v, _, ⟨T', L', k', n'⟩, -, X', hS', g', ⟨Lc, ⟨so, N', K', hQ, C', F'⟩, l', y', z'⟩, st⟩ := superBackS (s := s.setVm v0) X hx hZ (y := y) hown w1 w2 w3 w4 hn (backL (s := s) (W := (rest.map fun v => v.category).sum) hM hZ wc wz hf hl hEW hC.1 (fun x hx => hF x (hsf x hx))) eT Ex (g := mkF m pc L (argsL.reverse ++ .ref a :: rest)) rfl (hz.trans hml.symm) wc (argsL := argsL) (rest := rest) hlen rfl (by show 2 * 0 + _ ≤ _; omega) (hb hby hd) (fun _ _ => ⟨rfl, eT, hc, hs⟩)
  dsimp only [Pt.U, Pt.locs, Pt.cells, Pt.slots] at X' hS' g' l' y' z' st N' K' hQ C' F'
  subst l' y' z'
  obtain ⟨X2, hS2, hZ2, hown2⟩ := rebS (s := s) hS (by rw [← eT] at hk; exact hk) X' hS' g' hZ hown
  exact ⟨v, T'.heap, so, ⟨⟨hx, hby, hml, hEW⟩, ⟨o1.keep K' (fun x q => nw x (hws x q)), z2.trans K' hws, z3, z1, es⟩, T'.vm, _, T', _, X2, ⟨hS2, Nat.le_refl _, hZ2, hown2⟩, ⟨hC.trans C', fun x q => (List.mem_append.mp q).elim (F' x) (fun r => ⟨Nat.lt_of_lt_of_le (hF x r).1 K'.1, C'.safe (hF x r).1 (hF x r).2⟩)⟩, N.app N', rfl, fun t q => k t (st.trans (by subst hp; exact q))⟩, K', hQ⟩
theorem nfSel {C : String} {y : MethodName} (w3 : (Cond.selects C y y).before a0 Z = true) : ∀ s' : State, Z.Warmed39 s'.vm → NotFace s' y := fun s' hZ => notFace_of_selects (args := #[]) (mvT hZ w3)
theorem Wl.val {v : Option Value} {w : Value} {rest : List Value} (G : Wl Z a0 own p l e R s m args below meth c code mx B EL h0 n0 ws sf h cells slots pc L (v.toList ++ rest)) (q : v = some w) : Wl Z a0 own p l e R s m args below meth c code mx B EL h0 n0 ws sf h cells slots pc L (w :: rest) := by subst q; exact G
theorem Wl.nov {v : Option Value} {rest : List Value} (G : Wl Z a0 own p l e R s m args below meth c code mx B EL h0 n0 ws sf h cells slots pc L (v.toList ++ rest)) (q : v = none) : Wl Z a0 own p l e R s m args below meth c code mx B EL h0 n0 ws sf h cells slots pc L (rest) := by subst q; exact G
theorem Wl.callP {index : Nat} {y : MethodName} {bytes : ByteArray} {maxL : Nat} {ret : Option FieldType} {rm : Room} {wsC sfC : List Addr} {St : List Value} {a : Addr} {C : String} {Q : Option Value → Heap → List Addr → Prop} (G : Wl Z a0 own p l e R s m args below meth c code mx B EL h0 n0 ws sf h cells slots pc L (St)) (pc' : Nat) (w1 : (Cond.methodLink own index y).before a0 Z = true) (w2 : (Cond.instanceMethod y).before a0 Z = true) (w3 : (Cond.selects y.cls y y).before a0 Z = true) (w4 : (Cond.privateMethod y).before a0 Z = true) (wz : (Cond.initialized y.cls).before a0 Z = true) (wc : (Cond.code y bytes maxL ret).before a0 Z = true) (Ex : Exa Z h a C) (hy : y.cls ≠ "java/lang/invoke/MethodHandle" ∧ y.cls ≠ "java/lang/invoke/VarHandle") (argsL rest : List Value) (hst : St = argsL.reverse ++ .ref a :: rest) (hM : Con Z a0 l y bytes maxL ret rm [] (.ref a :: argsL).toArray EL h n0 wsC sfC Q) (hlen : ∀ sig, parseMethodDescriptor y.desc = some sig → argsL.length = sig.parameters.length) (hd : decode code pc = .ok (.invokevirtual index, 3)) (hz : L.size = mx) (hf : rm.frames + 1 ≤ R.frames) (hl : (rest.map fun v => v.category).sum + (maxL + 11) + rm.locals ≤ R.locals) (hc : cells + rm.cells ≤ R.cells) (hs : slots + rm.slots ≤ R.slots) (hws : ∀ x ∈ wsC, NW h0 ws x) (hsf : ∀ x ∈ sfC, x ∈ sf) (hwf : ∀ x ∈ wsC, x ∈ sf) (hp : pc + 3 = pc') :
    ∃ (v : Option Value) (h' : Heap) (so : List Addr), Wl Z a0 own p l e R s m args below meth c code mx B EL h0 n0 ws (so ++ sf) h' (cells + rm.cells) (slots + rm.slots) pc' L (v.toList ++ rest) ∧ Keep h h' wsC ∧ Q v h' so := by
  have nw := fun x (q : NW h0 ws x) => G.nw q
  obtain ⟨⟨hx, hby, hml, hEW⟩, ⟨o1, z2, z3, z1, es⟩, v0, k0, T, locs, X, ⟨hS, hk, hZ, hown⟩, ⟨hC, hF⟩, N, eT, k⟩ := G
  subst hst
  obtain ⟨cellq, kq, q1, -, -, q4, -⟩ := Ex
  obtain ⟨v, _, ⟨T', L', k', n'⟩, -, X', hS', g', ⟨Lc, ⟨so, N', K', hQ, C', F'⟩, l', y', z'⟩, st⟩ := X.privateBackS hx (y := y) hown (mvT (s := s.setVm v0) hZ w1) (mvT (s := s.setVm v0) hZ w2) (mvT (s := s.setVm v0) hZ w3) (Cond.privateMethod_at (args := args) (mvP (s := s.setVm v0) hZ w4)) (mvT (s := s.setVm v0) hZ wc) hy (backL (s := s) (W := (rest.map fun v => v.category).sum) hM hZ wc wz hf hl hEW hC.1 (fun x hx => hF x (hsf x hx))) (g := mkF m pc L (argsL.reverse ++ .ref a :: rest)) rfl (hz.trans hml.symm) (Steps.refl _) (by rw [eT]; exact q1) (fun q r => by rw [r] at q4; cases q4) (argsL := argsL) (rest := rest) hlen rfl (by show 2 * 0 + _ ≤ _; omega) (hb hby hd) (fun _ _ => ⟨rfl, eT, hc, hs⟩)
  dsimp only [Pt.U, Pt.locs, Pt.cells, Pt.slots] at X' hS' g' l' y' z' st N' K' hQ C' F'
  subst l' y' z'
  obtain ⟨X2, hS2, hZ2, hown2⟩ := rebS (s := s) hS (by rw [← eT] at hk; exact hk) X' hS' g' hZ hown
  exact ⟨v, T'.heap, so, ⟨⟨hx, hby, hml, hEW⟩, ⟨o1.keep K' (fun x q => nw x (hws x q)), z2.trans K' hws, z3, z1, es⟩, T'.vm, _, T', _, X2, ⟨hS2, Nat.le_refl _, hZ2, hown2⟩, ⟨hC.trans C', fun x q => (List.mem_append.mp q).elim (F' x) (fun r => ⟨Nat.lt_of_lt_of_le (hF x r).1 K'.1, C'.safe (hF x r).1 (hF x r).2⟩)⟩, N.app N', rfl, fun t q => k t (st.trans (by subst hp; exact q))⟩, K', hQ⟩
theorem declOf {y : MethodName} {bytes : ByteArray} {maxL : Nat} {ret : Option FieldType} (w2 : (Cond.instanceMethod y).before a0 Z = true) (wc : (Cond.code y bytes maxL ret).before a0 Z = true) : (Cond.declares y).before a0 Z = true := by
  obtain ⟨mk, methM, hnamed, hmethM, hstM, -⟩ := Cond.instanceMethod_spec w2
  obtain ⟨methM', cM, hmethM', -, -, -, -, -, -, hsigM⟩ := Cond.code_spec hnamed wc
  cases hmethM.symm.trans hmethM'
  simp [Cond.before, Cond.holds, Cond.value, hnamed, hmethM, hstM, hsigM]
theorem nfVia {C : String} {y y' : MethodName} (hc : y'.cls = y.cls) (w3 : (Cond.selects C y y).before a0 Z = true) (w4 : (Cond.instanceMethod y).before a0 Z = true) : ∀ s' : State, Z.Warmed39 s'.vm → NotFace s' y' := fun s' hZ r0 h0 => by
  obtain ⟨mk, methM, hnamed, -⟩ := Cond.instanceMethod_spec (mv (args := #[]) hZ w4)
  obtain ⟨kr, h1, h2⟩ := notFace_of_selects (args := #[]) (mvT hZ w3) mk hnamed
  have e1 := findClass_of_methodNamed hnamed
  have e2 := findClass_of_methodNamed h0
  rw [hc] at e2
  have e3 := Option.some.inj (e1.symm.trans e2)
  exact ⟨kr, by rw [← e3]; exact h1, h2⟩
theorem sameOf {y : MethodName} (w2 : (Cond.instanceMethod y).before a0 Z = true) (nf : ∀ s' : State, Z.Warmed39 s'.vm → NotFace s' y) (hy : y.cls ≠ "java/lang/invoke/MethodHandle" ∧ y.cls ≠ "java/lang/invoke/VarHandle") : (Cond.sameMethod y.cls y.cls y.name y.desc).before a0 Z = true := by
  obtain ⟨mk, methM, hnamed, -⟩ := Cond.instanceMethod_spec w2
  obtain ⟨kr, h1, h2⟩ := nf Z (State.Warmed39.refl Z) mk hnamed
  have e1 := findClass_of_methodNamed hnamed
  have e2 := State.methodFound?_of_named hnamed hy
  have e3 : Z.methodNamed? ⟨y.cls, y.name, y.desc⟩ = some mk := hnamed
  simp [Cond.before, Cond.holds, Cond.value, e1, e2, e3, h1, h2]
theorem Wl.ccast {K : String} {index : Nat} {a : Addr} (G : Wl Z a0 own p l e R s m args below meth c code mx B EL h0 n0 ws sf h cells slots pc L (.ref a :: S)) (pc' : Nat) (w : (Cond.classLink own index K).before a0 Z = true) (F : Ins Z h a K true) (hd : decode code pc = .ok (.checkcast index, 3)) (hp : pc + 3 = pc') : Wl Z a0 own p l e R s m args below meth c code mx B EL h0 n0 ws sf h cells slots pc' L (.ref a :: S) := by
  obtain ⟨⟨hx, hby, hml, hEW⟩, ⟨o1, z2, z3, z1, es⟩, v0, k0, T, locs, X, ⟨hS, hk, hZ, hown⟩, ⟨hC, hF⟩, N, eT, k⟩ := G
  obtain ⟨T', X', e', st⟩ := castY (s := s.setVm v0) X hx hZ hown w eT F (g := mkF m pc L (.ref a :: S)) rfl rfl (hb hby hd)
  exact ⟨⟨hx, hby, hml, hEW⟩, ⟨o1, z2, z3, z1, es⟩, v0, k0, T', _, X', ⟨hS, hk, hZ, hown⟩, ⟨hC, hF⟩, N, e', fun t q => k t (st t (by subst hp; exact q))⟩
theorem Wl.instY {K : String} {index : Nat} {a : Addr} (G : Wl Z a0 own p l e R s m args below meth c code mx B EL h0 n0 ws sf h cells slots pc L (.ref a :: S)) (pc' : Nat) (w : (Cond.classLink own index K).before a0 Z = true) (F : Ins Z h a K true) (hd : decode code pc = .ok (.instanceof index, 3)) (hp : pc + 3 = pc') : Wl Z a0 own p l e R s m args below meth c code mx B EL h0 n0 ws sf h cells slots pc' L (.int 1 :: S) := by
  obtain ⟨⟨hx, hby, hml, hEW⟩, ⟨o1, z2, z3, z1, es⟩, v0, k0, T, locs, X, ⟨hS, hk, hZ, hown⟩, ⟨hC, hF⟩, N, eT, k⟩ := G
  obtain ⟨T', X', e', st⟩ := Jvm.RoadKit.instY (s := s.setVm v0) X hx hZ hown w eT F (g := mkF m pc L (.ref a :: S)) rfl rfl (hb hby hd)
  exact ⟨⟨hx, hby, hml, hEW⟩, ⟨o1, z2, z3, z1, es⟩, v0, k0, T', _, X', ⟨hS, hk, hZ, hown⟩, ⟨hC, hF⟩, N, e', fun t q => k t (st t (by subst hp; exact q))⟩
theorem Wl.cpy {index : Nat} {a b : Addr} {k k' : ClassId} {ty : FieldType} {z z' sp dp nn : Int32} {vs vd : List Value} {dv dd : Value} (G : Wl Z a0 own p l e R s m args below meth c code mx B EL h0 n0 ws sf h cells slots pc L (.int nn :: .int dp :: .ref b :: .int sp :: .ref a :: S)) (pc' : Nat) (w1 : (Cond.methodLink own index Jvm.Stand.acN).before a0 Z = true) (w2 : (Cond.native Jvm.Stand.acN).before a0 Z = true) (w3 : (Cond.static Jvm.Stand.acN).before a0 Z = true) (w4 : (Cond.initialized "java/lang/System").before a0 Z = true) (A : Arv Z h a k ty z vs dv) (B' : Arv Z h b k' ty z' vd dd) (hr : refKind ty = false) (h1 : ¬ sp < 0) (h2 : ¬ dp < 0) (h3 : ¬ nn < 0) (h4 : sp.toNatClampNeg + nn.toNatClampNeg ≤ z.toNatClampNeg) (h5 : dp.toNatClampNeg + nn.toNatClampNeg ≤ z'.toNatClampNeg) (hl : dp.toNatClampNeg + nn.toNatClampNeg ≤ vd.length) (q : NW h0 ws b) (qs : b ∈ sf) (hd : decode code pc = .ok (.invokestatic index, 3)) (hz : L.size = mx) (hf : 1 ≤ R.frames) (hlo : (S.map fun v => v.category).sum + (nativeFrameWords "java/lang/System" "arraycopy" 5 + 11) ≤ R.locals) (hp : pc + 3 = pc') : ∃ (h' : Heap), Wl Z a0 own p l e R s m args below meth c code mx B EL h0 n0 ws sf h' cells slots pc' L S ∧ Arv Z h' b k' ty z' (vd.take dp.toNatClampNeg ++ ((List.range nn.toNatClampNeg).map fun i => vs.getD (sp.toNatClampNeg + i) dv) ++ vd.drop (dp.toNatClampNeg + nn.toNatClampNeg)) dd ∧ Keep h h' [b] := by
  have qn := G.nw q
  obtain ⟨⟨hx, hby, hml, hEW⟩, ⟨o1, z2, z3, z1, es⟩, v0, k0, T, locs, X, ⟨hS, hk, hZ, hown⟩, ⟨hC, hF⟩, N, eT, k⟩ := G
  obtain ⟨T', h', LL, X', e', N', K', A', st⟩ := cpA (s := s.setVm v0) X hx hZ hown w1 w2 w3 w4 eT A B' (Or.inl ⟨rfl, hr⟩) h1 h2 h3 h4 h5 rfl hl N qn (g := mkF m pc L (.int nn :: .int dp :: .ref b :: .int sp :: .ref a :: S)) rfl (hz.trans hml.symm) rfl (hb hby hd) hf (W := (S.map fun v => v.category).sum) (by show 2 * 0 + _ ≤ _; omega) hlo
  have hsb : ∀ x ∈ [b], Safe Z EL v0 h x := fun x y => by cases List.mem_singleton.mp y; exact (hF _ qs).2
  exact ⟨h', ⟨⟨hx, hby, hml, hEW⟩, ⟨o1.keep K' (allS qn all0), z2.trans K' (allS q all0), z3, z1, es⟩, v0, k0, T', _, X', ⟨hS, Nat.le_trans hk K'.1, hZ, hown⟩, ⟨hC.trans (CHr.keep K' hsb hC.1), safeKeep K' hsb hC.1 hF⟩, N', e', fun t q => k t (st t (by subst hp; exact q))⟩, A', K'⟩
theorem Wl.ldcS {index : Nat} {text : String} {vs : List Value} {z : Int32} (G : Wl Z a0 own p l e R s m args below meth c code mx B EL h0 n0 ws sf h cells slots pc L S) (pc' : Nat) (w : (Cond.stringLink own index text).before a0 Z = true) (wS : ∀ a ∈ Bundle.stringAtoms, a.before a0 Z = true) (hmem : (own, index) ∈ EL) (ht : (∀ c ∈ text.toList, c.toNat < 256) ∧ text.toList.map (fun c => Value.int (Jvm.Lit.byteI c.toNat.toUInt16)) = vs) (hz : ¬ z < 0) (hl : z.toNatClampNeg = vs.length) (hd : decode code pc = .ok (.ldc index, 2)) (n : Nat) (hn : 4 * text.toList.length ≤ n) (hbig : n ≤ 536870912) (hc : cells + 2 ≤ R.cells) (hl' : slots + (n + 4) ≤ R.slots) (hp : pc + 2 = pc') : ∃ (a b : Addr) (h' : Heap) (kk : ClassId), Wl Z a0 own p l e R s m args below meth c code mx B EL h0 n0 ws sf h' (cells + 2) (slots + (n + 4)) pc' L (.ref a :: S) ∧ Ext h h' ∧ Exa Z h' a "java/lang/String" ∧ Fld Z h' a "java/lang/String" "coder" "B" (.int 0) ∧ Fld Z h' a "java/lang/String" "value" "[B" (.ref b) ∧ Arv Z h' b kk .byte z vs (.int 0) ∧ ∀ x ∈ sf, x ≠ a ∧ x ≠ b := by
  obtain ⟨⟨hx, hby, hml, hEW⟩, ⟨o1, z2, z3, z1, es⟩, v0, k0, T, locs, X, ⟨hS, hk, hZ, hown⟩, ⟨hC, hF⟩, N, eT, k⟩ := G
  obtain ⟨a, T', h', k1, b, kk, X', e', E, hS', hk', hZ', hown', Ex, Fc, Fv, A, -, -, C', -, hne, st⟩ := ldcCH X hx hZ hown w wS eT hS hk hEW hmem hC.1 ht hz hl (g := mkF m pc L S) rfl (hb hby hd) hn hbig hc hl'
  have hF' : ∀ x ∈ sf, x < h'.size ∧ Safe Z EL T'.vm h' x := fun x q => ⟨Nat.lt_of_lt_of_le (hF x q).1 E.1, C'.safe (hF x q).1 (hF x q).2⟩
  exact ⟨a, b, h', kk, ⟨⟨hx, hby, hml, hEW⟩, ⟨o1.ext E, z2.ext E, z3, z1, es⟩, T'.vm, k1, T', _, X', ⟨hS', hk', hZ', hown'⟩, ⟨hC.trans C', hF'⟩, N, e', fun t q => k t (st t (by subst hp; exact q))⟩, E, Ex, Fc, Fv, A, fun x q => hne x (hF' x q).2⟩
end OwnL
end Jvm.OwnL
namespace Jvm.Pilot.@@N@@
open Jvm Jvm.ClassFile Sem Op Lib Jvm.Free Jvm.Free.Fl Jvm.Stand Jvm.LawKit Jvm.RoadKit Jvm.OwnL Bundle Jvm.Pilot.@@N@@.Jvm.D
set_option maxRecDepth 65536
set_option maxHeartbeats 40000000
theorem nle {a b : Nat} (h : Nat.ble a b = true) : a ≤ b := Nat.le_of_ble_eq_true h
theorem mm {α : Type} {l : List α} {a : α} (i : Nat) (h : l[i]? = some a) : a ∈ l := List.mem_of_getElem? h
theorem ofn_int {n : Nat} (h : n < 2147483648) : (Int32.ofNat n).toInt = (n : Int) := Int32.toInt_ofNat_small h
theorem ofn_nat {n : Nat} (h : n < 2147483648) : (Int32.ofNat n).toNatClampNeg = n := by simp only [Int32.toNatClampNeg, ofn_int h]; omega
theorem ofn_nn {n : Nat} (h : n < 2147483648) : ¬ Int32.ofNat n < 0 := by
  rw [Int32.lt_iff_toInt_lt, ofn_int h]; show ¬ (n : Int) < 0; omega
theorem ofn_lt {i n : Nat} (hi : i < n) (h : n < 2147483648) : Int32.ofNat i < Int32.ofNat n := by
  rw [Int32.lt_iff_toInt_lt, ofn_int h, ofn_int (by omega)]; omega
theorem ofn_nlt {i n : Nat} (hi : n ≤ i) (h : i < 2147483648) : ¬ Int32.ofNat i < Int32.ofNat n := by
  rw [Int32.lt_iff_toInt_lt, ofn_int h, ofn_int (by omega)]; omega
theorem ofn_ne {i n : Nat} (hi : i ≠ n) (h1 : i < 2147483648) (h2 : n < 2147483648) : ¬ Int32.ofNat i = Int32.ofNat n := fun q => hi (by
  have := congrArg Int32.toInt q; rw [ofn_int h1, ofn_int h2] at this; omega)
theorem ofn_add (a b : Nat) : Int32.ofNat a + Int32.ofNat b = Int32.ofNat (a + b) := (Int32.ofNat_add a b).symm
theorem ofn_sub {a b : Nat} (h : b ≤ a) (ha : a < 2147483648) : Int32.ofNat a - Int32.ofNat b = Int32.ofNat (a - b) := by
  apply Int32.toInt_inj.mp
  have e := c_isub (Int32.ofNat a) (Int32.ofNat b)
  have r := rng32 (Int32.ofNat a - Int32.ofNat b)
  rw [ofn_int ha, ofn_int (by omega)] at e
  rw [ofn_int (by omega)]; omega
theorem ofn_le0 {a b : Nat} (h : a ≤ b) (hb : b < 2147483648) : ¬ 0 < Int32.ofNat a - Int32.ofNat b := by
  have e := c_isub (Int32.ofNat a) (Int32.ofNat b)
  have r := rng32 (Int32.ofNat a - Int32.ofNat b)
  rw [ofn_int (by omega), ofn_int hb] at e
  rw [Int32.lt_iff_toInt_lt]; show ¬ (0 : Int) < _; omega
theorem shr0 (x : Int32) : x >>> ((0 : Int32) &&& 31) = x := by
  apply Int32.toInt_inj.mp; rw [c_ishr x 0 0 rfl]; simp
theorem shl0 (x : Int32) : x <<< ((0 : Int32) &&& 31) = x := by
  have e : (0 : Int32) &&& 31 = 0 := by decide
  have f := c_ishl x 0 0 rfl
  have r := rng32 (x <<< ((0 : Int32) &&& 31)); have r2 := rng32 x
  rw [show ((2 ^ 0 : Nat) : Int) = 1 from rfl, Int.mul_one] at f
  apply Int32.toInt_inj.mp; omega
theorem byt2 (x : Int32) : x.toInt8.toInt32.toInt8.toInt32 = x.toInt8.toInt32 := by simp
theorem sub0 (x : Int32) : x - 0 = x := by simp
theorem ofn_succ (i : Nat) : Int32.ofNat i + Int32.ofInt 1 = Int32.ofNat (i + 1) := (Int32.ofNat_add i 1).symm
theorem cpy_res (bs cs : List Value) (d : Value) : ((bs ++ List.replicate cs.length d).take bs.length ++ ((List.range cs.length).map fun i => cs.getD (0 + i) d) ++ (bs ++ List.replicate cs.length d).drop (bs.length + cs.length)) = bs ++ cs := by
  have e1 : (bs ++ List.replicate cs.length d).take bs.length = bs := by simp
  have e2 : (bs ++ List.replicate cs.length d).drop (bs.length + cs.length) = [] := List.drop_eq_nil_of_le (by simp)
  have e3 : ((List.range cs.length).map fun i => cs.getD (0 + i) d) = cs := by
    apply List.ext_getElem?
    intro i
    by_cases h : i < cs.length
    · simp [h]
    · simp [h, List.getElem?_eq_none (Nat.le_of_not_lt h)]
  rw [e1, e2, e3]; simp
def bytV (c : Int32) : Value := .int c.toInt8.toInt32
theorem tk_succ {α : Type} (cs : List Int32) (f : Int32 → α) (i : Nat) (h : i < cs.length) : (cs.take (i + 1)).map f = (cs.take i).map f ++ [f (cs.getD i 0)] := by
  rw [List.take_add_one, List.map_append]; simp [h]
theorem set_app (l : List Value) (d x : Value) (i : Nat) (h : l.length = i) : (l ++ [d]).set i x = l ++ [x] := by subst h; simp
theorem getD_mem (cs : List Int32) (i : Nat) (h : i < cs.length) : cs.getD i 0 ∈ cs := by simp [h]
theorem getD_map (cs : List Int32) (i : Nat) (h : i < cs.length) : (cs.map Value.int).getD i (.int 0) = .int (cs.getD i 0) := by simp [h]
theorem getD_mapB (cs : List Int32) (i : Nat) (h : i < cs.length) : (cs.map bytV).getD i (.int 0) = bytV (cs.getD i 0) := by simp [h]
theorem cod0 (x : Int32) : XT.ushr (x - x) 31 = 0 := by
  have e : x - x = 0 := by simp
  rw [e]; decide
/-- a Latin-1 String: the object a, its array b, its bytes -/
def Str (Z : State) (h : Heap) (a b : Addr) (bs : List Value) : Prop := Exa Z h a "java/lang/String" ∧ Fld Z h a "java/lang/String" "coder" "B" (.int 0) ∧ Fld Z h a "java/lang/String" "value" "[B" (.ref b) ∧ ∃ k, Arv Z h b k .byte (Int32.ofNat bs.length) bs (.int 0)
theorem Str.ext {Z : State} {h h' : Heap} {a b : Addr} {bs : List Value} (F : Str Z h a b bs) (E : Ext h h') : Str Z h' a b bs := by obtain ⟨h1, h2, h3, k, h4⟩ := F; exact ⟨h1.ext E, h2.ext E, h3.ext E, k, h4.ext E⟩
theorem Str.keep {Z : State} {h h' : Heap} {a b : Addr} {bs : List Value} {ws : List Addr} (F : Str Z h a b bs) (K : Keep h h' ws) (q : a ∉ ws) (r : b ∉ ws) : Str Z h' a b bs := by obtain ⟨h1, h2, h3, k, h4⟩ := F; exact ⟨h1.keep K, h2.keep K q, h3.keep K q, k, h4.keep K r⟩
/-- a StringBuilder: the object a, its array b of cap bytes, its bytes so far -/
def Sbd (Z : State) (h : Heap) (a b : Addr) (cap : Nat) (bs : List Value) : Prop := Exa Z h a "java/lang/StringBuilder" ∧ Fld Z h a "java/lang/AbstractStringBuilder" "value" "[B" (.ref b) ∧ Fld Z h a "java/lang/AbstractStringBuilder" "coder" "B" (.int 0) ∧ Fld Z h a "java/lang/AbstractStringBuilder" "count" "I" (.int (Int32.ofNat bs.length)) ∧ ∃ k, Arv Z h b k .byte (Int32.ofNat cap) bs (.int 0)
theorem Sbd.ext {Z : State} {h h' : Heap} {a b : Addr} {cap : Nat} {bs : List Value} (F : Sbd Z h a b cap bs) (E : Ext h h') : Sbd Z h' a b cap bs := by obtain ⟨h1, h2, h3, h4, k, h5⟩ := F; exact ⟨h1.ext E, h2.ext E, h3.ext E, h4.ext E, k, h5.ext E⟩
theorem Sbd.keep {Z : State} {h h' : Heap} {a b : Addr} {cap : Nat} {bs : List Value} {ws : List Addr} (F : Sbd Z h a b cap bs) (K : Keep h h' ws) (q : a ∉ ws) (r : b ∉ ws) : Sbd Z h' a b cap bs := by obtain ⟨h1, h2, h3, h4, k, h5⟩ := F; exact ⟨h1.keep K, h2.keep K q, h3.keep K q, h4.keep K q, k, h5.keep K r⟩
theorem Str.lt {Z : State} {h : Heap} {a b : Addr} {bs : List Value} (F : Str Z h a b bs) : a < h.size := F.1.lt
theorem Str.ltb {Z : State} {h : Heap} {a b : Addr} {bs : List Value} (F : Str Z h a b bs) : b < h.size := by obtain ⟨-, -, -, k, h4⟩ := F; exact h4.lt
theorem Sbd.lt {Z : State} {h : Heap} {a b : Addr} {cap : Nat} {bs : List Value} (F : Sbd Z h a b cap bs) : a < h.size := F.1.lt
theorem Sbd.ltb {Z : State} {h : Heap} {a b : Addr} {cap : Nat} {bs : List Value} (F : Sbd Z h a b cap bs) : b < h.size := by obtain ⟨-, -, -, -, k, h4⟩ := F; exact h4.lt
def dOnes : List Value := (List.range 100).map fun j => .int (Int32.ofNat (48 + j % 10))
def dTens : List Value := (List.range 100).map fun j => .int (Int32.ofNat (48 + j / 10))
theorem dOnes_at {r : Nat} (h : r < 100) : dOnes.getD r (.int 0) = .int (Int32.ofNat (48 + r % 10)) := by simp [dOnes, h]
theorem dTens_at {r : Nat} (h : r < 100) : dTens.getD r (.int 0) = .int (Int32.ofNat (48 + r / 10)) := by simp [dTens, h]
def dg (N k : Nat) : Value := .int (Int32.ofNat (48 + N / 10 ^ k % 10))
theorem dig_b {e : Nat} (h : e < 10) : (Int32.ofNat (48 + e)).toInt8.toInt32 = Int32.ofNat (48 + e) := by
  have : e = 0 ∨ e = 1 ∨ e = 2 ∨ e = 3 ∨ e = 4 ∨ e = 5 ∨ e = 6 ∨ e = 7 ∨ e = 8 ∨ e = 9 := by omega
  rcases this with rfl | rfl | rfl | rfl | rfl | rfl | rfl | rfl | rfl | rfl <;> decide
theorem ofn_pred (k : Nat) : Int32.ofNat (k + 1) + Int32.ofInt (-1) = Int32.ofNat k := by
  rw [Int32.ofNat_add]; show Int32.ofNat k + 1 + -1 = _; rw [Int32.add_assoc]; simp
theorem set_app2 (bs Ld : List Value) (j n : Nat) (x : Value) (h : n = bs.length + j) : (bs ++ Ld).set n x = bs ++ Ld.set j x := by subst h; simp [List.set_append]
theorem ng_int {M : Nat} (h : M < 2147483648) : (-(Int32.ofNat M)).toInt = -(M : Int) := by
  have e := c_ineg (Int32.ofNat M); have r := rng32 (-(Int32.ofNat M)); rw [ofn_int h] at e; omega
theorem ng_div {M : Nat} (h : M < 2147483648) : -(Int32.ofNat M) / 100 = -(Int32.ofNat (M / 100)) := by
  apply Int32.toInt_inj.mp
  have e := c_idiv (-(Int32.ofNat M)) 100 100 rfl (by decide)
  rw [ng_int h] at e
  rw [ng_int (by omega)]
  by_cases h0 : M = 0
  · subst h0; have := e.1 (by decide); rw [this]; decide
  · rw [e.2 (by omega)]; omega
theorem ng_rem {M : Nat} (h : M < 2147483648) : -(Int32.ofNat (M / 100)) * 100 - -(Int32.ofNat M) = Int32.ofNat (M % 100) := by
  apply Int32.toInt_inj.mp
  have e1 := c_imul (-(Int32.ofNat (M / 100))) 100
  have e2 := c_isub (-(Int32.ofNat (M / 100)) * 100) (-(Int32.ofNat M))
  have r1 := rng32 (-(Int32.ofNat (M / 100)) * 100); have r2 := rng32 (-(Int32.ofNat (M / 100)) * 100 - -(Int32.ofNat M))
  rw [ng_int (by omega), show (100 : Int32).toInt = 100 from rfl] at e1
  rw [ng_int h] at e2
  rw [ofn_int (by omega)]; omega
theorem ng_lt {M : Nat} {k : Int32} {K : Int} (h : M < 2147483648) (hk : k.toInt = K) (q : -(M : Int) < K) : -(Int32.ofNat M) < k := by rw [Int32.lt_iff_toInt_lt, ng_int h, hk]; exact q
theorem ng_nlt {M : Nat} {k : Int32} {K : Int} (h : M < 2147483648) (hk : k.toInt = K) (q : K ≤ -(M : Int)) : ¬ -(Int32.ofNat M) < k := by rw [Int32.lt_iff_toInt_lt, ng_int h, hk]; omega
theorem ng_gt {M : Nat} {k : Int32} {K : Int} (h : M < 2147483648) (hk : k.toInt = K) (q : K < -(M : Int)) : k < -(Int32.ofNat M) := by rw [Int32.lt_iff_toInt_lt, ng_int h, hk]; exact q
theorem ng_ngt {M : Nat} {k : Int32} {K : Int} (h : M < 2147483648) (hk : k.toInt = K) (q : -(M : Int) ≤ K) : ¬ k < -(Int32.ofNat M) := by rw [Int32.lt_iff_toInt_lt, ng_int h, hk]; omega
def nd (N : Nat) : Nat := if N < 10 then 1 else if N < 100 then 2 else if N < 1000 then 3 else if N < 10000 then 4 else if N < 100000 then 5 else if N < 1000000 then 6 else if N < 10000000 then 7 else if N < 100000000 then 8 else if N < 1000000000 then 9 else 10
def digs (N : Nat) : List Value := (List.range (nd N)).map fun j => dg N (nd N - 1 - j)
theorem nd_cases {N : Nat} (h : N < 2147483648) : (0 ≤ N ∧ N < 10) ∨ (10 ≤ N ∧ N < 100) ∨ (100 ≤ N ∧ N < 1000) ∨ (1000 ≤ N ∧ N < 10000) ∨ (10000 ≤ N ∧ N < 100000) ∨ (100000 ≤ N ∧ N < 1000000) ∨ (1000000 ≤ N ∧ N < 10000000) ∨ (10000000 ≤ N ∧ N < 100000000) ∨ (100000000 ≤ N ∧ N < 1000000000) ∨ (1000000000 ≤ N ∧ N < 2147483648) := by omega
theorem digs_len (N : Nat) : (digs N).length = nd N := by simp [digs]
theorem digs_at {N k : Nat} (h : k < nd N) : (digs N).getD k (.int 0) = dg N (nd N - 1 - k) := by simp [digs, h]
theorem nd_1 {N : Nat} (hlo : 0 ≤ N) (hhi : N < 10) : nd N = 1 := by unfold nd;  rw [if_pos (by omega)]
theorem digs_1 {N : Nat} (hlo : 0 ≤ N) (hhi : N < 10) : digs N = [dg N 0] := by unfold digs; rw [nd_1 hlo hhi]; rfl
theorem nd_2 {N : Nat} (hlo : 10 ≤ N) (hhi : N < 100) : nd N = 2 := by unfold nd; rw [if_neg (by omega)]; rw [if_pos (by omega)]
theorem digs_2 {N : Nat} (hlo : 10 ≤ N) (hhi : N < 100) : digs N = [dg N 1, dg N 0] := by unfold digs; rw [nd_2 hlo hhi]; rfl
theorem nd_3 {N : Nat} (hlo : 100 ≤ N) (hhi : N < 1000) : nd N = 3 := by unfold nd; rw [if_neg (by omega)]; rw [if_neg (by omega)]; rw [if_pos (by omega)]
theorem digs_3 {N : Nat} (hlo : 100 ≤ N) (hhi : N < 1000) : digs N = [dg N 2, dg N 1, dg N 0] := by unfold digs; rw [nd_3 hlo hhi]; rfl
theorem nd_4 {N : Nat} (hlo : 1000 ≤ N) (hhi : N < 10000) : nd N = 4 := by unfold nd; rw [if_neg (by omega)]; rw [if_neg (by omega)]; rw [if_neg (by omega)]; rw [if_pos (by omega)]
theorem digs_4 {N : Nat} (hlo : 1000 ≤ N) (hhi : N < 10000) : digs N = [dg N 3, dg N 2, dg N 1, dg N 0] := by unfold digs; rw [nd_4 hlo hhi]; rfl
theorem nd_5 {N : Nat} (hlo : 10000 ≤ N) (hhi : N < 100000) : nd N = 5 := by unfold nd; rw [if_neg (by omega)]; rw [if_neg (by omega)]; rw [if_neg (by omega)]; rw [if_neg (by omega)]; rw [if_pos (by omega)]
theorem digs_5 {N : Nat} (hlo : 10000 ≤ N) (hhi : N < 100000) : digs N = [dg N 4, dg N 3, dg N 2, dg N 1, dg N 0] := by unfold digs; rw [nd_5 hlo hhi]; rfl
theorem nd_6 {N : Nat} (hlo : 100000 ≤ N) (hhi : N < 1000000) : nd N = 6 := by unfold nd; rw [if_neg (by omega)]; rw [if_neg (by omega)]; rw [if_neg (by omega)]; rw [if_neg (by omega)]; rw [if_neg (by omega)]; rw [if_pos (by omega)]
theorem digs_6 {N : Nat} (hlo : 100000 ≤ N) (hhi : N < 1000000) : digs N = [dg N 5, dg N 4, dg N 3, dg N 2, dg N 1, dg N 0] := by unfold digs; rw [nd_6 hlo hhi]; rfl
theorem nd_7 {N : Nat} (hlo : 1000000 ≤ N) (hhi : N < 10000000) : nd N = 7 := by unfold nd; rw [if_neg (by omega)]; rw [if_neg (by omega)]; rw [if_neg (by omega)]; rw [if_neg (by omega)]; rw [if_neg (by omega)]; rw [if_neg (by omega)]; rw [if_pos (by omega)]
theorem digs_7 {N : Nat} (hlo : 1000000 ≤ N) (hhi : N < 10000000) : digs N = [dg N 6, dg N 5, dg N 4, dg N 3, dg N 2, dg N 1, dg N 0] := by unfold digs; rw [nd_7 hlo hhi]; rfl
theorem nd_8 {N : Nat} (hlo : 10000000 ≤ N) (hhi : N < 100000000) : nd N = 8 := by unfold nd; rw [if_neg (by omega)]; rw [if_neg (by omega)]; rw [if_neg (by omega)]; rw [if_neg (by omega)]; rw [if_neg (by omega)]; rw [if_neg (by omega)]; rw [if_neg (by omega)]; rw [if_pos (by omega)]
theorem digs_8 {N : Nat} (hlo : 10000000 ≤ N) (hhi : N < 100000000) : digs N = [dg N 7, dg N 6, dg N 5, dg N 4, dg N 3, dg N 2, dg N 1, dg N 0] := by unfold digs; rw [nd_8 hlo hhi]; rfl
theorem nd_9 {N : Nat} (hlo : 100000000 ≤ N) (hhi : N < 1000000000) : nd N = 9 := by unfold nd; rw [if_neg (by omega)]; rw [if_neg (by omega)]; rw [if_neg (by omega)]; rw [if_neg (by omega)]; rw [if_neg (by omega)]; rw [if_neg (by omega)]; rw [if_neg (by omega)]; rw [if_neg (by omega)]; rw [if_pos (by omega)]
theorem digs_9 {N : Nat} (hlo : 100000000 ≤ N) (hhi : N < 1000000000) : digs N = [dg N 8, dg N 7, dg N 6, dg N 5, dg N 4, dg N 3, dg N 2, dg N 1, dg N 0] := by unfold digs; rw [nd_9 hlo hhi]; rfl
theorem nd_10 {N : Nat} (hlo : 1000000000 ≤ N) (hhi : N < 2147483648) : nd N = 10 := by unfold nd; rw [if_neg (by omega)]; rw [if_neg (by omega)]; rw [if_neg (by omega)]; rw [if_neg (by omega)]; rw [if_neg (by omega)]; rw [if_neg (by omega)]; rw [if_neg (by omega)]; rw [if_neg (by omega)]; rw [if_neg (by omega)];
theorem digs_10 {N : Nat} (hlo : 1000000000 ≤ N) (hhi : N < 2147483648) : digs N = [dg N 9, dg N 8, dg N 7, dg N 6, dg N 5, dg N 4, dg N 3, dg N 2, dg N 1, dg N 0] := by unfold digs; rw [nd_10 hlo hhi]; rfl
theorem nd_le {N : Nat} (h : N < 2147483648) : 1 ≤ nd N ∧ nd N ≤ 10 := by
  rcases nd_cases h with ⟨q1, q2⟩ | ⟨q1, q2⟩ | ⟨q1, q2⟩ | ⟨q1, q2⟩ | ⟨q1, q2⟩ | ⟨q1, q2⟩ | ⟨q1, q2⟩ | ⟨q1, q2⟩ | ⟨q1, q2⟩ | ⟨q1, q2⟩
  · rw [nd_1 q1 q2]; exact ⟨by decide, by decide⟩
  · rw [nd_2 q1 q2]; exact ⟨by decide, by decide⟩
  · rw [nd_3 q1 q2]; exact ⟨by decide, by decide⟩
  · rw [nd_4 q1 q2]; exact ⟨by decide, by decide⟩
  · rw [nd_5 q1 q2]; exact ⟨by decide, by decide⟩
  · rw [nd_6 q1 q2]; exact ⟨by decide, by decide⟩
  · rw [nd_7 q1 q2]; exact ⟨by decide, by decide⟩
  · rw [nd_8 q1 q2]; exact ⟨by decide, by decide⟩
  · rw [nd_9 q1 q2]; exact ⟨by decide, by decide⟩
  · rw [nd_10 q1 q2]; exact ⟨by decide, by decide⟩
theorem m8 (x : Int32) : ∃ c, c < 256 ∧ x &&& 255 = Int32.ofNat c := by
  have e := c_mask x 255 8 (by decide) rfl
  rw [show ((2 ^ 8 : Nat) : Int) = 256 from rfl] at e
  refine ⟨(x.toInt % 256).toNat, by omega, ?_⟩
  apply Int32.toInt_inj.mp; rw [e, ofn_int (by omega)]; omega
theorem m2 (x : Int32) : ∃ c, c < 4 ∧ x &&& 3 = Int32.ofNat c := by
  have e := c_mask x 3 2 (by decide) rfl
  rw [show ((2 ^ 2 : Nat) : Int) = 4 from rfl] at e
  refine ⟨(x.toInt % 4).toNat, by omega, ?_⟩
  apply Int32.toInt_inj.mp; rw [e, ofn_int (by omega)]; omega
theorem m31 (x : Int32) : ∃ c, c < 2147483648 ∧ x &&& 2147483647 = Int32.ofNat c := by
  have e := c_mask x 2147483647 31 (by decide) rfl
  rw [show ((2 ^ 31 : Nat) : Int) = 2147483648 from rfl] at e
  refine ⟨(x.toInt % 2147483648).toNat, by omega, ?_⟩
  apply Int32.toInt_inj.mp; rw [e, ofn_int (by omega)]; omega
theorem i2c_n0 : ∀ t : Fin 256, (Int32.ofNat t.1).toUInt32.toUInt16.toUInt32.toInt32 = Int32.ofNat t.1 ∧ (Int32.ofNat t.1).toInt8.toInt32 &&& 255 = Int32.ofNat t.1 ∧ ¬ (255 : Int32) < Int32.ofNat t.1 ∧ Int32.ofNat t.1 &&& 255 = Int32.ofNat t.1 ∧ fits .char (.int (Int32.ofNat t.1)) = true := by decide +kernel
theorem i2c_n {c : Nat} (h : c < 256) : (Int32.ofNat c).toUInt32.toUInt16.toUInt32.toInt32 = Int32.ofNat c := (i2c_n0 ⟨c, h⟩).1
theorem bm {c : Nat} (h : c < 256) : (Int32.ofNat c).toInt8.toInt32 &&& 255 = Int32.ofNat c := (i2c_n0 ⟨c, h⟩).2.1
theorem c255 {c : Nat} (h : c < 256) : ¬ (255 : Int32) < Int32.ofNat c := (i2c_n0 ⟨c, h⟩).2.2.1
theorem m255 {c : Nat} (h : c < 256) : Int32.ofNat c &&& 255 = Int32.ofNat c := (i2c_n0 ⟨c, h⟩).2.2.2.1
theorem fit255 {c : Nat} (h : c < 256) : fits .char (.int (Int32.ofNat c)) = true := (i2c_n0 ⟨c, h⟩).2.2.2.2
theorem ofn_div {N P : Nat} (hN : N < 2147483648) (h0 : 0 < P) (hP : P < 2147483648) : Int32.ofNat N / Int32.ofNat P = Int32.ofNat (N / P) := by
  apply Int32.toInt_inj.mp
  have e := c_idiv (Int32.ofNat N) (Int32.ofNat P) P (ofn_int hP) (fun q => by have := congrArg Int32.toInt q; rw [ofn_int hP, show (-1 : Int32).toInt = -1 from rfl] at this; omega)
  rw [ofn_int hN] at e
  have hd : N / P ≤ N := Nat.div_le_self _ _
  rw [ofn_int (by omega), e.1 (by omega)]; rfl
theorem ofn_rem10 {M : Nat} (hM : M < 2147483648) : Int32.ofNat M - Int32.ofNat M / 10 * 10 = Int32.ofNat (M % 10) := by
  have e := ofn_div hM (P := 10) (by decide) (by decide)
  rw [show Int32.ofNat 10 = (10 : Int32) from rfl] at e
  rw [e, show (10 : Int32) = Int32.ofNat 10 from rfl, ← Int32.ofNat_mul, ofn_sub (by omega) hM]
  congr 1; omega
theorem wS_of {Z : State} {a0 : Array Value} (hw : ∀ d ∈ tables_1, d.before a0 Z = true) : ∀ a ∈ Bundle.stringAtoms, a.before a0 Z = true := by
  intro a ha
  simp only [Bundle.stringAtoms, Bundle.sN, List.mem_cons, List.not_mem_nil, or_false] at ha
  rcases ha with rfl | rfl | rfl | rfl | rfl | rfl | rfl
  · exact (hw _ (mm 8 rfl))
  · exact (hw _ (mm 7 rfl))
  · exact (hw _ (mm 20 rfl))
  · exact (hw _ (mm 21 rfl))
  · exact (hw _ (mm 22 rfl))
  · exact (hw _ (mm 23 rfl))
  · exact (hw _ (mm 24 rfl))
theorem ne_or {x b b' : Addr} {n : Nat} (h : x ≠ b) (lt : x < n) (q : b' = b ∨ n ≤ b') : x ≠ b' := q.elim (fun e => e ▸ h) (fun r => Nat.ne_of_lt (Nat.lt_of_lt_of_le lt r))
theorem cpg (bs : List Value) (cap : Nat) (d : Value) (h : bs.length ≤ cap) : ∀ i, bs.getD i d = ((List.replicate cap d).take 0 ++ ((List.range cap).map fun i => bs.getD (0 + i) d) ++ (List.replicate cap d).drop (0 + cap)).getD i d := fun i => by
  have e1 : (List.replicate cap d).drop (0 + cap) = [] := List.drop_eq_nil_of_le (by simp)
  rw [e1, List.append_nil, List.take_zero, List.nil_append]
  simp only [List.getD_eq_getElem?_getD, List.getElem?_map, List.getElem?_range, Nat.zero_add]
  by_cases q : i < cap
  · simp [q]
  · simp [q, List.getElem?_eq_none (show bs.length ≤ i by omega)]
def GC (c mc c' : Nat) : Prop := (c' = c ∧ mc ≤ c) ∨ (c < mc ∧ c' = c + max (mc - c) (c + 2))
def gcap (cap mc : Nat) : Nat := cap + max (mc - cap) (cap + 2)
theorem gcap_b {cap mc : Nat} (h : cap < mc) (hm : mc ≤ 62) : mc ≤ gcap cap mc ∧ cap < gcap cap mc ∧ gcap cap mc ≤ 126 := by unfold gcap; omega
def byt (c : Nat) : Int32 := (Int32.ofNat c).toInt8.toInt32
theorem byt_int {c : Nat} (h : c < 2147483648) : (byt c).toInt % 256 = (c % 256 : Nat) := by
  unfold byt
  rw [Int8.toInt_toInt32, Int32.toInt_toInt8, ofn_int h]
  simp only [Int.bmod]; split <;> omega
theorem byt_mask {c : Nat} (h : c < 2147483648) : byt c &&& 255 = Int32.ofNat (c % 256) := by
  apply Int32.toInt_inj.mp
  rw [c_mask _ 255 8 (by decide) rfl, ofn_int (by omega), ← byt_int h]; rfl
theorem shr8 {c : Nat} (h : c < 2147483648) : Int32.ofNat c >>> ((8 : Int32) &&& 31) = Int32.ofNat (c / 256) := by
  apply Int32.toInt_inj.mp
  rw [c_ishr _ 8 8 rfl, ofn_int h, ofn_int (by omega)]; rfl
theorem shl8 {c : Nat} (h : c < 256) : Int32.ofNat c <<< ((8 : Int32) &&& 31) = Int32.ofNat (c * 256) := by
  rw [shlm (m := 256) (by decide), show (256 : Int32) = Int32.ofNat 256 from rfl, ← Int32.ofNat_mul]
theorem or8 {a b : Nat} (h : a < 256) : Int32.ofNat a ||| Int32.ofNat (b * 256) = Int32.ofNat (a + b * 256) := by
  have e : b * 256 ||| a = b * 256 + a := by
    have := Nat.shiftLeft_add_eq_or_of_lt (i := 8) (b := a) (by omega) b
    rw [Nat.shiftLeft_eq] at this; exact this.symm
  apply Int32.toBitVec_inj.mp
  show BitVec.ofNat 32 a ||| BitVec.ofNat 32 (b * 256) = BitVec.ofNat 32 (a + b * 256)
  rw [← BitVec.ofNat_or, Nat.or_comm, e, Nat.add_comm]
theorem i2c_w {c : Nat} (h : c < 65536) : (Int32.ofNat c).toUInt32.toUInt16.toUInt32.toInt32 = Int32.ofNat c := by
  apply Int32.toBitVec_inj.mp
  simp only [Int32.toBitVec_ofNat', UInt32.toBitVec_toInt32, UInt16.toBitVec_toUInt32, UInt32.toBitVec_toUInt16, Int32.toBitVec_toUInt32]
  apply BitVec.eq_of_toNat_eq
  simp only [BitVec.toNat_setWidth, BitVec.toNat_ofNat]
  omega
theorem shr1 {n : Nat} (h : n < 1073741824) : Int32.ofNat (n * 2) >>> ((1 : Int32) &&& 31) = Int32.ofNat n := by
  apply Int32.toInt_inj.mp
  rw [c_ishr _ 1 1 rfl, ofn_int (by omega), ofn_int (by omega)]
  show ((n * 2 : Nat) : Int) / 2 = n; omega
theorem shl1 {n : Nat} (h : n < 1073741824) : Int32.ofNat n <<< ((1 : Int32) &&& 31) = Int32.ofNat (n * 2) := by
  rw [shlm (m := 2) (by decide), show (2 : Int32) = Int32.ofNat 2 from rfl, ← Int32.ofNat_mul]
theorem shrK {n k : Nat} (hk : k = 0 ∨ k = 1) (h : n < 1073741824) : Int32.ofNat (n * 2 ^ k) >>> (Int32.ofNat k &&& 31) = Int32.ofNat n := by
  rcases hk with rfl | rfl
  · rw [Nat.pow_zero, Nat.mul_one]; exact shr0 _
  · rw [Nat.pow_one]; exact shr1 h
theorem shlK {n k : Nat} (hk : k = 0 ∨ k = 1) (h : n < 1073741824) : Int32.ofNat n <<< (Int32.ofNat k &&& 31) = Int32.ofNat (n * 2 ^ k) := by
  rcases hk with rfl | rfl
  · rw [Nat.pow_zero, Nat.mul_one]; exact shl0 _
  · rw [Nat.pow_one]; exact shl1 h
def enc (k c : Nat) : List Value := if k = 0 then [.int (byt c)] else [.int (byt c), .int (byt (c / 256))]
def encS (k : Nat) (cs : List Nat) : List Value := cs.flatMap (enc k)
theorem encS_app (k : Nat) (xs ys : List Nat) : encS k (xs ++ ys) = encS k xs ++ encS k ys := List.flatMap_append
theorem encS_cons (k c : Nat) (ys : List Nat) : encS k (c :: ys) = enc k c ++ encS k ys := rfl
theorem encS_len0 (cs : List Nat) : (encS 0 cs).length = cs.length := by
  induction cs with
  | nil => rfl
  | cons c r ih => rw [encS_cons, List.length_append, ih]; show 1 + r.length = r.length + 1; omega
theorem encS_len1 (cs : List Nat) : (encS 1 cs).length = cs.length * 2 := by
  induction cs with
  | nil => rfl
  | cons c r ih => rw [encS_cons, List.length_append, ih]; show 2 + r.length * 2 = (r.length + 1) * 2; omega
theorem encS_len {k : Nat} (hk : k = 0 ∨ k = 1) (cs : List Nat) : (encS k cs).length = cs.length * 2 ^ k := by
  rcases hk with rfl | rfl
  · rw [encS_len0]; omega
  · rw [encS_len1]
theorem encS0_at : ∀ (cs : List Nat) (i : Nat), i < cs.length → (encS 0 cs).getD i (.int 0) = .int (byt (cs.getD i 0))
  | c :: r, 0, _ => rfl
  | c :: r, i + 1, h => by
    have := encS0_at r i (by simpa using h)
    exact this
theorem encS1_at : ∀ (cs : List Nat) (i : Nat), i < cs.length → (encS 1 cs).getD (i * 2) (.int 0) = .int (byt (cs.getD i 0)) ∧ (encS 1 cs).getD (i * 2 + 1) (.int 0) = .int (byt (cs.getD i 0 / 256))
  | c :: r, 0, _ => ⟨rfl, rfl⟩
  | c :: r, i + 1, h => by
    have := encS1_at r i (by simpa using h)
    rw [show (i + 1) * 2 = i * 2 + 1 + 1 by omega]
    exact this
theorem put2 (L : List Value) (n : Nat) (x y : Value) (h : L.length = n) : ((L ++ [Value.int 0, Value.int 0]).set n x).set (n + 1) y = L ++ [x, y] := by
  subst h; simp [List.set_append]
theorem getc {c : Nat} (h : c < 65536) : ((byt c &&& 255) <<< ((0 : Int32) &&& 31) ||| (byt (c / 256) &&& 255) <<< ((8 : Int32) &&& 31)) = Int32.ofNat c := by
  rw [byt_mask (by omega), byt_mask (by omega), shl0, shl8 (by omega), or8 (by omega)]
  congr 1; omega
/-- a String of the coder k -/
def StrK (Z : State) (h : Heap) (a b : Addr) (k : Nat) (cs : List Nat) : Prop := Exa Z h a "java/lang/String" ∧ Fld Z h a "java/lang/String" "coder" "B" (.int (Int32.ofNat k)) ∧ Fld Z h a "java/lang/String" "value" "[B" (.ref b) ∧ ∃ kb, Arv Z h b kb .byte (Int32.ofNat (cs.length * 2 ^ k)) (encS k cs) (.int 0)
theorem StrK.ext {Z : State} {h h' : Heap} {a b : Addr} {k : Nat} {cs : List Nat} (F : StrK Z h a b k cs) (E : Ext h h') : StrK Z h' a b k cs := by obtain ⟨h1, h2, h3, kb, h4⟩ := F; exact ⟨h1.ext E, h2.ext E, h3.ext E, kb, h4.ext E⟩
theorem StrK.keep {Z : State} {h h' : Heap} {a b : Addr} {k : Nat} {cs : List Nat} {ws : List Addr} (F : StrK Z h a b k cs) (K : Keep h h' ws) (q : a ∉ ws) (r : b ∉ ws) : StrK Z h' a b k cs := by obtain ⟨h1, h2, h3, kb, h4⟩ := F; exact ⟨h1.keep K, h2.keep K q, h3.keep K q, kb, h4.keep K r⟩
theorem StrK.lt {Z : State} {h : Heap} {a b : Addr} {k : Nat} {cs : List Nat} (F : StrK Z h a b k cs) : a < h.size := F.1.lt
theorem StrK.ltb {Z : State} {h : Heap} {a b : Addr} {k : Nat} {cs : List Nat} (F : StrK Z h a b k cs) : b < h.size := by obtain ⟨-, -, -, kb, h4⟩ := F; exact h4.lt
/-- a StringBuilder of the coder k -/
def SbdK (Z : State) (h : Heap) (a b : Addr) (cap k : Nat) (cs : List Nat) : Prop := Exa Z h a "java/lang/StringBuilder" ∧ Fld Z h a "java/lang/AbstractStringBuilder" "value" "[B" (.ref b) ∧ Fld Z h a "java/lang/AbstractStringBuilder" "coder" "B" (.int (Int32.ofNat k)) ∧ Fld Z h a "java/lang/AbstractStringBuilder" "count" "I" (.int (Int32.ofNat cs.length)) ∧ Fld Z h a "java/lang/AbstractStringBuilder" "maybeLatin1" "Z" (.int 0) ∧ ∃ kb, Arv Z h b kb .byte (Int32.ofNat (cap * 2 ^ k)) (encS k cs) (.int 0)
theorem SbdK.ext {Z : State} {h h' : Heap} {a b : Addr} {cap k : Nat} {cs : List Nat} (F : SbdK Z h a b cap k cs) (E : Ext h h') : SbdK Z h' a b cap k cs := by obtain ⟨h1, h2, h3, h4, h5, kb, h6⟩ := F; exact ⟨h1.ext E, h2.ext E, h3.ext E, h4.ext E, h5.ext E, kb, h6.ext E⟩
theorem SbdK.keep {Z : State} {h h' : Heap} {a b : Addr} {cap k : Nat} {cs : List Nat} {ws : List Addr} (F : SbdK Z h a b cap k cs) (K : Keep h h' ws) (q : a ∉ ws) (r : b ∉ ws) : SbdK Z h' a b cap k cs := by obtain ⟨h1, h2, h3, h4, h5, kb, h6⟩ := F; exact ⟨h1.keep K, h2.keep K q, h3.keep K q, h4.keep K q, h5.keep K q, kb, h6.keep K r⟩
theorem SbdK.lt {Z : State} {h : Heap} {a b : Addr} {cap k : Nat} {cs : List Nat} (F : SbdK Z h a b cap k cs) : a < h.size := F.1.lt
theorem SbdK.ltb {Z : State} {h : Heap} {a b : Addr} {cap k : Nat} {cs : List Nat} (F : SbdK Z h a b cap k cs) : b < h.size := by obtain ⟨-, -, -, -, -, kb, h4⟩ := F; exact h4.lt
/-- the coder that a text of its own takes -/
def kd (cs : List Nat) : Nat := if cs.all (fun c => decide (c < 256)) then 0 else 1
theorem kd01 (cs : List Nat) : kd cs = 0 ∨ kd cs = 1 := by unfold kd; split; exact Or.inl rfl; exact Or.inr rfl
theorem kd_app (xs ys : List Nat) : kd (xs ++ ys) = max (kd xs) (kd ys) := by
  unfold kd; rw [List.all_append]
  cases xs.all (fun c => decide (c < 256)) <;> cases ys.all (fun c => decide (c < 256)) <;> rfl
theorem kd0 {cs : List Nat} (h : kd cs = 0) : ∀ c ∈ cs, c < 256 := by
  unfold kd at h; split at h
  · rename_i q; exact fun c hc => of_decide_eq_true (List.all_eq_true.mp q c hc)
  · cases h
theorem kd_of {cs : List Nat} (h : ∀ c ∈ cs, c < 256) : kd cs = 0 := by
  unfold kd; rw [if_pos (List.all_eq_true.mpr fun c hc => decide_eq_true (h c hc))]
theorem getD_memN (cs : List Nat) (i : Nat) (h : i < cs.length) : cs.getD i 0 ∈ cs := by simp [h]
theorem getD_mapN (cs : List Nat) (i : Nat) (h : i < cs.length) : (cs.map fun c => Value.int (Int32.ofNat c)).getD i (.int 0) = .int (Int32.ofNat (cs.getD i 0)) := by simp [h]
theorem tk_succN (cs : List Nat) (i : Nat) (h : i < cs.length) : cs.take (i + 1) = cs.take i ++ [cs.getD i 0] := by rw [List.take_add_one]; simp [h]
theorem kd1_of {cs : List Nat} {j : Nat} (h : j < cs.length) (q : 256 ≤ cs.getD j 0) : kd cs = 1 := by
  rcases kd01 cs with e | e
  · have := kd0 e _ (getD_memN cs j h); omega
  · exact e
theorem cod1 {n : Nat} (h : 0 < n) (hn : n < 1073741824) : XT.ushr (Int32.ofNat n - Int32.ofNat (n * 2)) 31 = 1 := by
  have e := c_isub (Int32.ofNat n) (Int32.ofNat (n * 2))
  have r := rng32 (Int32.ofNat n - Int32.ofNat (n * 2))
  rw [ofn_int (by omega), ofn_int (by omega)] at e
  apply Int32.toInt_inj.mp
  have f := c_iushr (Int32.ofNat n - Int32.ofNat (n * 2)) 31 31 rfl (by decide)
  refine f.trans ?_
  show _ = (1 : Int)
  omega
theorem codK {n k : Nat} (hk : k = 0 ∨ k = 1) (h : 0 < n) (hn : n < 1073741824) : (XT.ushr (Int32.ofNat n - Int32.ofNat (n * 2 ^ k)) 31).toInt8.toInt32 = Int32.ofNat k := by
  rcases hk with rfl | rfl
  · rw [Nat.pow_zero, Nat.mul_one, cod0]; rfl
  · rw [Nat.pow_one, cod1 h hn]; rfl
theorem ofk8 {k : Nat} (hk : k = 0 ∨ k = 1) : (Int32.ofNat k).toInt8.toInt32 = Int32.ofNat k := by rcases hk with rfl | rfl <;> rfl
theorem or_nn {x y : Int32} (hx : ¬ x < 0) (hy : ¬ y < 0) : ¬ (x ||| y) < 0 := by
  have e : ∀ z : Int32, z < 0 ↔ z.toBitVec.msb = true := fun z => by
    rw [Int32.lt_iff_toInt_lt, BitVec.msb_eq_toInt]; exact (decide_eq_true_iff).symm
  rw [e] at hx hy ⊢
  rw [Int32.toBitVec_or, BitVec.msb_or]
  simp only [Bool.not_eq_true] at hx hy
  rw [hx, hy]; decide
theorem ofk_ne {k k' : Nat} (hk : k = 0 ∨ k = 1) (hk' : k' = 0 ∨ k' = 1) (h : k ≠ k') : ¬ Int32.ofNat k = Int32.ofNat k' := ofn_ne h (by omega) (by omega)
theorem byt_inj {x y : Nat} (hx : x < 65536) (hy : y < 65536) (h : byt x = byt y) : x % 256 = y % 256 := by
  have e := (byt_mask (c := x) (by omega)).symm.trans ((congrArg (· &&& 255) h).trans (byt_mask (c := y) (by omega)))
  have := congrArg Int32.toInt e
  rw [ofn_int (by omega), ofn_int (by omega)] at this; omega
theorem encS_inj {k : Nat} (hk : k = 0 ∨ k = 1) : ∀ (xs ys : List Nat), (∀ c ∈ xs, c < 65536) → (∀ c ∈ ys, c < 65536) → (k = 0 → ∀ c ∈ xs, c < 256) → (k = 0 → ∀ c ∈ ys, c < 256) → encS k xs = encS k ys → xs = ys
  | [], [], _, _, _, _, _ => rfl
  | x :: xs, [], _, _, _, _, h => by rcases hk with rfl | rfl <;> cases h
  | [], y :: ys, _, _, _, _, h => by rcases hk with rfl | rfl <;> cases h
  | x :: xs, y :: ys, hx, hy, h1, h2, h => by
    have bx := hx x (List.mem_cons_self ..); have by' := hy y (List.mem_cons_self ..)
    have r := fun q => encS_inj hk xs ys (fun c hc => hx c (List.mem_cons_of_mem _ hc)) (fun c hc => hy c (List.mem_cons_of_mem _ hc)) (fun e c hc => h1 e c (List.mem_cons_of_mem _ hc)) (fun e c hc => h2 e c (List.mem_cons_of_mem _ hc)) q
    rcases hk with rfl | rfl
    · have h' : Value.int (byt x) :: encS 0 xs = Value.int (byt y) :: encS 0 ys := h
      obtain ⟨e1, e2⟩ := List.cons.inj h'
      have e3 := byt_inj bx by' (Value.int.inj e1)
      have u1 := h1 rfl x (List.mem_cons_self ..); have u2 := h2 rfl y (List.mem_cons_self ..)
      rw [r e2, show x = y by omega]
    · have h' : Value.int (byt x) :: Value.int (byt (x / 256)) :: encS 1 xs = Value.int (byt y) :: Value.int (byt (y / 256)) :: encS 1 ys := h
      obtain ⟨e1, e2⟩ := List.cons.inj h'
      obtain ⟨e3, e4⟩ := List.cons.inj e2
      have e5 := byt_inj bx by' (Value.int.inj e1)
      have e6 := byt_inj (x := x / 256) (y := y / 256) (by omega) (by omega) (Value.int.inj e3)
      rw [r e4, show x = y by omega]
theorem encS_int {k : Nat} (hk : k = 0 ∨ k = 1) : ∀ (xs : List Nat) (i : Nat), i < (encS k xs).length → ∃ v : Int32, (encS k xs).getD i (.int 0) = .int v := by
  intro xs
  have all : ∀ v ∈ encS k xs, ∃ z : Int32, v = .int z := by
    intro v hv
    obtain ⟨c, -, hc⟩ := List.mem_flatMap.mp hv
    rcases hk with rfl | rfl
    · cases List.mem_singleton.mp (show v ∈ [Value.int (byt c)] from hc); exact ⟨_, rfl⟩
    · rcases List.mem_cons.mp (show v ∈ [Value.int (byt c), Value.int (byt (c / 256))] from hc) with rfl | h
      · exact ⟨_, rfl⟩
      · cases List.mem_singleton.mp h; exact ⟨_, rfl⟩
  intro i hi
  obtain ⟨z, hz⟩ := all ((encS k xs)[i]) (List.getElem_mem hi)
  exact ⟨z, by rw [List.getD_eq_getElem?_getD, List.getElem?_eq_getElem hi]; exact hz⟩
theorem list_eq {xs ys : List Value} (hl : xs.length = ys.length) (h : ∀ j, j < xs.length → xs.getD j (.int 0) = ys.getD j (.int 0)) : xs = ys := by
  apply List.ext_getElem hl
  intro i h1 h2
  have := h i h1
  rw [List.getD_eq_getElem?_getD, List.getD_eq_getElem?_getD, List.getElem?_eq_getElem h1, List.getElem?_eq_getElem h2] at this
  exact this
def SbdX (Z : State) (h : Heap) (a b : Addr) (cap k : Nat) (cs : List Nat) : Prop := SbdK Z h a b cap k cs ∧ Exa Z h b "[B"
theorem SbdX.ext {Z : State} {h h' : Heap} {a b : Addr} {cap k : Nat} {cs : List Nat} (F : SbdX Z h a b cap k cs) (E : Ext h h') : SbdX Z h' a b cap k cs := ⟨F.1.ext E, F.2.ext E⟩
theorem SbdX.keep {Z : State} {h h' : Heap} {a b : Addr} {cap k : Nat} {cs : List Nat} {ws : List Addr} (F : SbdX Z h a b cap k cs) (K : Keep h h' ws) (q : a ∉ ws) (r : b ∉ ws) : SbdX Z h' a b cap k cs := ⟨F.1.keep K q r, F.2.keep K⟩
theorem SbdX.lt {Z : State} {h : Heap} {a b : Addr} {cap k : Nat} {cs : List Nat} (F : SbdX Z h a b cap k cs) : a < h.size := F.1.1.lt
theorem SbdX.ltb {Z : State} {h : Heap} {a b : Addr} {cap k : Nat} {cs : List Nat} (F : SbdX Z h a b cap k cs) : b < h.size := F.2.lt
theorem gcapX {cap mc k : Nat} (hk : k = 0 ∨ k = 1) : cap * 2 ^ k + max ((mc - cap) * 2 ^ k) (cap * 2 ^ k + 2 * 2 ^ k) = gcap cap mc * 2 ^ k := by
  unfold gcap; rcases hk with rfl | rfl
  · simp only [Nat.pow_zero, Nat.mul_one]
  · simp only [Nat.pow_one]; omega
theorem gcap_bX {cap mc : Nat} (h : cap < mc) (hm : mc ≤ 12) : mc ≤ gcap cap mc ∧ cap < gcap cap mc ∧ gcap cap mc ≤ 26 := by unfold gcap; omega
theorem p2 {k : Nat} (hk : k = 0 ∨ k = 1) : 1 ≤ 2 ^ k ∧ 2 ^ k ≤ 2 := by rcases hk with rfl | rfl <;> decide
def ixOf (x : Nat) : Int32 := if x = 92 then 0 else if x = 9 then 1 else if x = 10 then 2 else if x = 13 then 3 else -1
def esc (x : Nat) : List Nat := if x = 92 then [92, 92] else if x = 9 then [92, 116] else if x = 10 then [92, 110] else if x = 13 then [92, 114] else [x]
theorem byt_lit : ∀ t : Fin 256, ((92 : Int32) = byt t.1 ↔ t.1 = 92) ∧ ((9 : Int32) = byt t.1 ↔ t.1 = 9) ∧ ((10 : Int32) = byt t.1 ↔ t.1 = 10) ∧ ((13 : Int32) = byt t.1 ↔ t.1 = 13) := by decide +kernel
def O (cs : List Nat) (i : Nat) : List Nat := (cs.take i).flatMap esc
theorem O_succ {cs : List Nat} {i : Nat} (h : i < cs.length) : O cs (i + 1) = O cs i ++ esc (cs.getD i 0) := by unfold O; rw [tk_succN cs i h, List.flatMap_append]; simp
theorem esc_len (x : Nat) : (esc x).length ≤ 2 := by unfold esc; repeat' split
                                                     all_goals exact Nat.le_of_ble_eq_true rfl
theorem O_len (cs : List Nat) : ∀ i, (O cs i).length ≤ 2 * i
  | 0 => by simp [O]
  | i + 1 => by
    rcases Nat.lt_or_ge i cs.length with h | h
    · rw [O_succ h, List.length_append]; have := O_len cs i; have := esc_len (cs.getD i 0); omega
    · have e : O cs (i + 1) = O cs i := by unfold O; rw [List.take_of_length_le (by omega), List.take_of_length_le h]
      rw [e]; have := O_len cs i; omega
theorem ix_of {x : Nat} (h : ixOf x < 0) : esc x = [x] := by
  unfold ixOf at h; unfold esc
  by_cases h1 : x = 92
  · rw [if_pos h1] at h; exact absurd h (by decide)
  · rw [if_neg h1] at h ⊢
    by_cases h2 : x = 9
    · rw [if_pos h2] at h; exact absurd h (by decide)
    · rw [if_neg h2] at h ⊢
      by_cases h3 : x = 10
      · rw [if_pos h3] at h; exact absurd h (by decide)
      · rw [if_neg h3] at h ⊢
        by_cases h4 : x = 13
        · rw [if_pos h4] at h; exact absurd h (by decide)
        · rw [if_neg h4]
theorem ix_at {x : Nat} (h : ¬ ixOf x < 0) : ∃ j, j < 4 ∧ ixOf x = Int32.ofNat j ∧ esc x = [92, [92, 116, 110, 114].getD j 0] := by
  unfold ixOf at h ⊢; unfold esc
  by_cases h1 : x = 92
  · rw [if_pos h1, if_pos h1]; exact ⟨0, by decide, rfl, rfl⟩
  · rw [if_neg h1] at h; rw [if_neg h1, if_neg h1]
    by_cases h2 : x = 9
    · rw [if_pos h2, if_pos h2]; exact ⟨1, by decide, rfl, rfl⟩
    · rw [if_neg h2] at h; rw [if_neg h2, if_neg h2]
      by_cases h3 : x = 10
      · rw [if_pos h3, if_pos h3]; exact ⟨2, by decide, rfl, rfl⟩
      · rw [if_neg h3] at h; rw [if_neg h3, if_neg h3]
        by_cases h4 : x = 13
        · rw [if_pos h4, if_pos h4]; exact ⟨3, by decide, rfl, rfl⟩
        · rw [if_neg h4] at h; exact absurd (by decide) h
theorem i2c_ex (y : Int32) : ∃ x, x < 65536 ∧ y.toUInt32.toUInt16.toUInt32.toInt32 = Int32.ofNat x := by
  refine ⟨y.toUInt32.toUInt16.toNat, UInt16.toNat_lt _, ?_⟩
  apply Int32.toBitVec_inj.mp
  apply BitVec.eq_of_toNat_eq
  have := UInt16.toNat_lt y.toUInt32.toUInt16
  simp only [Int32.toBitVec_ofNat', UInt32.toBitVec_toInt32, UInt16.toBitVec_toUInt32, BitVec.toNat_setWidth, BitVec.toNat_ofNat, UInt16.toNat_toBitVec] <;> omega
theorem m5 (x : Int32) : ∃ n, n ≤ 4 ∧ (x &&& 2147483647) - (x &&& 2147483647) / 5 * 5 = Int32.ofNat n := by
  obtain ⟨c, hc, e⟩ := m31 x
  have f := ofn_div hc (P := 5) (by decide) (by decide)
  rw [show Int32.ofNat 5 = (5 : Int32) from rfl] at f
  refine ⟨c % 5, by omega, ?_⟩
  rw [e, f, show (5 : Int32) = Int32.ofNat 5 from rfl, ← Int32.ofNat_mul, ofn_sub (by omega) hc]
  congr 1; omega
theorem put1 (L : List Value) (n : Nat) (x : Value) (h : L.length = n) : (L ++ [Value.int 0]).set n x = L ++ [x] := by subst h; simp
theorem esc_b {x : Nat} (hx : x < 65536) : ∀ c ∈ esc x, c < 65536 := by
  unfold esc; intro c hc
  repeat' split at hc
  all_goals (simp only [List.mem_cons, List.not_mem_nil, or_false] at hc; omega)
theorem fesc_b {cs : List Nat} (h : ∀ c ∈ cs, c < 65536) : ∀ c ∈ cs.flatMap esc, c < 65536 := by
  intro c hc; obtain ⟨x, hx, hm⟩ := List.mem_flatMap.mp hc; exact esc_b (h x hx) c hm
theorem pn_java_lang_StringUTF16 : plainName "java/lang/StringUTF16" = true := by first | (simp [plainName, overriddenIn]; done) | decide +kernel
theorem pd__I_I : parseMethodDescriptor "(I)I" = some ⟨[.int], some .int⟩ := by decide +kernel
theorem pd__I__B : parseMethodDescriptor "(I)[B" = some ⟨[.int], some (.array .byte)⟩ := by decide +kernel
theorem pd___BII_V : parseMethodDescriptor "([BII)V" = some ⟨[(.array .byte), .int, .int], none⟩ := by decide +kernel
theorem pd___CI_BII_I : parseMethodDescriptor "([CI[BII)I" = some ⟨[(.array .char), .int, (.array .byte), .int, .int], some .int⟩ := by decide +kernel
theorem pd___CII__B : parseMethodDescriptor "([CII)[B" = some ⟨[(.array .char), .int, .int], some (.array .byte)⟩ := by decide +kernel
theorem pd___BI_C : parseMethodDescriptor "([BI)C" = some ⟨[(.array .byte), .int], some .char⟩ := by decide +kernel
theorem pd___BI_B : parseMethodDescriptor "([BI)B" = some ⟨[(.array .byte), .int], some .byte⟩ := by decide +kernel
theorem pn_java_lang_String : plainName "java/lang/String" = true := by first | (simp [plainName, overriddenIn]; done) | decide +kernel
theorem pd___CIILjava_lang_Void__V : parseMethodDescriptor "([CIILjava/lang/Void;)V" = some ⟨[(.array .char), .int, .int, (.object "java/lang/Void")], none⟩ := by decide +kernel
theorem pd___B : parseMethodDescriptor "()B" = some ⟨[], some .byte⟩ := by decide +kernel
theorem pn_jdk_internal_util_Preconditions : plainName "jdk/internal/util/Preconditions" = true := by first | (simp [plainName, overriddenIn]; done) | decide +kernel
theorem pd__IIILjava_util_function_BiFunction__I : parseMethodDescriptor "(IIILjava/util/function/BiFunction;)I" = some ⟨[.int, .int, .int, (.object "java/util/function/BiFunction")], some .int⟩ := by decide +kernel
theorem pd___B_I : parseMethodDescriptor "([B)I" = some ⟨[(.array .byte)], some .int⟩ := by decide +kernel
theorem pd__III_I : parseMethodDescriptor "(III)I" = some ⟨[.int, .int, .int], some .int⟩ := by decide +kernel
theorem pd__II_B_V : parseMethodDescriptor "(II[B)V" = some ⟨[.int, .int, (.array .byte)], none⟩ := by decide +kernel
theorem pd___BI_BII_V : parseMethodDescriptor "([BI[BII)V" = some ⟨[(.array .byte), .int, (.array .byte), .int, .int], none⟩ := by decide +kernel
theorem pn_java_lang_StringLatin1 : plainName "java/lang/StringLatin1" = true := by first | (simp [plainName, overriddenIn]; done) | decide +kernel
theorem pd__II_I : parseMethodDescriptor "(II)I" = some ⟨[.int, .int], some .int⟩ := by decide +kernel
theorem pn_jdk_internal_util_ArraysSupport : plainName "jdk/internal/util/ArraysSupport" = true := by first | (simp [plainName, overriddenIn]; done) | decide +kernel
theorem pn_java_lang_AbstractStringBuilder : plainName "java/lang/AbstractStringBuilder" = true := by first | (simp [plainName, overriddenIn]; done) | decide +kernel
theorem pn_java_util_Arrays : plainName "java/util/Arrays" = true := by first | (simp [plainName, overriddenIn]; done) | decide +kernel
theorem pd___BI__B : parseMethodDescriptor "([BI)[B" = some ⟨[(.array .byte), .int], some (.array .byte)⟩ := by decide +kernel
theorem pd__I_V : parseMethodDescriptor "(I)V" = some ⟨[.int], none⟩ := by decide +kernel
theorem pn_java_lang_StringBuilder : plainName "java/lang/StringBuilder" = true := by first | (simp [plainName, overriddenIn]; done) | decide +kernel
theorem pd___Z : parseMethodDescriptor "()Z" = some ⟨[], some .boolean⟩ := by decide +kernel
theorem pd__IILjava_util_function_BiFunction__I : parseMethodDescriptor "(IILjava/util/function/BiFunction;)I" = some ⟨[.int, .int, (.object "java/util/function/BiFunction")], some .int⟩ := by decide +kernel
theorem pd__II_V : parseMethodDescriptor "(II)V" = some ⟨[.int, .int], none⟩ := by decide +kernel
theorem pd__I_B_V : parseMethodDescriptor "(I[B)V" = some ⟨[.int, (.array .byte)], none⟩ := by decide +kernel
theorem pd__C_Z : parseMethodDescriptor "(C)Z" = some ⟨[.char], some .boolean⟩ := by decide +kernel
theorem pd___V : parseMethodDescriptor "()V" = some ⟨[], none⟩ := by decide +kernel
theorem pd__C_Ljava_lang_AbstractStringBuilder_ : parseMethodDescriptor "(C)Ljava/lang/AbstractStringBuilder;" = some ⟨[.char], some (.object "java/lang/AbstractStringBuilder")⟩ := by decide +kernel
theorem pd___BII__B : parseMethodDescriptor "([BII)[B" = some ⟨[(.array .byte), .int, .int], some (.array .byte)⟩ := by decide +kernel
theorem pd___I : parseMethodDescriptor "()I" = some ⟨[], some .int⟩ := by decide +kernel
theorem pd____B : parseMethodDescriptor "()[B" = some ⟨[], some (.array .byte)⟩ := by decide +kernel
theorem pd__Ljava_lang_AbstractStringBuilder_Ljava_lang_Void__V : parseMethodDescriptor "(Ljava/lang/AbstractStringBuilder;Ljava/lang/Void;)V" = some ⟨[(.object "java/lang/AbstractStringBuilder"), (.object "java/lang/Void")], none⟩ := by decide +kernel
theorem pd__Ljava_lang_StringBuilder__V : parseMethodDescriptor "(Ljava/lang/StringBuilder;)V" = some ⟨[(.object "java/lang/StringBuilder")], none⟩ := by decide +kernel
theorem pd__I_Z : parseMethodDescriptor "(I)Z" = some ⟨[.int], some .boolean⟩ := by decide +kernel
theorem pd___BIII_I : parseMethodDescriptor "([BIII)I" = some ⟨[(.array .byte), .int, .int, .int], some .int⟩ := by decide +kernel
theorem pd___Ljava_lang_String_ : parseMethodDescriptor "()Ljava/lang/String;" = some ⟨[], some (.object "java/lang/String")⟩ := by decide +kernel
theorem pd__I_C : parseMethodDescriptor "(I)C" = some ⟨[.int], some .char⟩ := by decide +kernel
theorem pd__C_Ljava_lang_StringBuilder_ : parseMethodDescriptor "(C)Ljava/lang/StringBuilder;" = some ⟨[.char], some (.object "java/lang/StringBuilder")⟩ := by decide +kernel
theorem pn_com_example_unhurried_frontier_unhurriedfrontier_TsvFile : plainName "com/example/unhurried_frontier/unhurriedfrontier/TsvFile" = true := by first | (simp [plainName, overriddenIn]; done) | decide +kernel
theorem pn_com_example_unhurried_frontier_unhurriedfrontier_TsvFileEscapedPinLaw : plainName "com/example/unhurried_frontier/unhurriedfrontier/TsvFileEscapedPinLaw" = true := by first | (simp [plainName, overriddenIn]; done) | decide +kernel
theorem pd___C_V : parseMethodDescriptor "([C)V" = some ⟨[(.array .char)], none⟩ := by decide +kernel
theorem pd__Ljava_lang_String__Ljava_lang_String_ : parseMethodDescriptor "(Ljava/lang/String;)Ljava/lang/String;" = some ⟨[(.object "java/lang/String")], some (.object "java/lang/String")⟩ := by decide +kernel
theorem pd__Ljava_lang_String__CII_Z : parseMethodDescriptor "(Ljava/lang/String;[CII)Z" = some ⟨[(.object "java/lang/String"), (.array .char), .int, .int], some .boolean⟩ := by decide +kernel
theorem pd___CIC_I : parseMethodDescriptor "([CIC)I" = some ⟨[(.array .char), .int, .char], some .int⟩ := by decide +kernel
theorem d51_0 : decode jdk_52_method_6_code 0 = .ok (.aload_n 0, 1) := by decide +kernel
theorem d51_1 : decode jdk_52_method_6_code 1 = .ok (.arraylength, 1) := by decide +kernel
theorem d51_2 : decode jdk_52_method_6_code 2 = .ok (.iconst 1, 1) := by decide +kernel
theorem d51_3 : decode jdk_52_method_6_code 3 = .ok (.ishr, 1) := by decide +kernel
theorem d51_4 : decode jdk_52_method_6_code 4 = .ok (.ireturn, 1) := by decide +kernel
theorem c_ulen (l : Launch) (Z : State) (a0 : Array Value) (hw : ∀ d ∈ tables_1, d.before a0 Z = true) (hEW : EW Z a0 consts_1) (n0 : Nat) (c1 : Int32) (hc1 : ¬ c1 = 0) (S1 : Sta Z Z.heap "java/lang/String" "COMPACT_STRINGS" "Z" (.int c1)) (v2 : Value) (hv2 : v2.isRef = true) (S2 : Sta Z Z.heap "jdk/internal/util/Preconditions" "SIOOBE_FORMATTER" "Ljava/util/function/BiFunction;" v2) (S3 : Sta Z Z.heap "java/lang/StringUTF16" "$assertionsDisabled" "Z" (.int 1)) (S4 : Sta Z Z.heap "java/lang/StringUTF16" "HI_BYTE_SHIFT" "I" (.int 0)) (S5 : Sta Z Z.heap "java/lang/StringUTF16" "LO_BYTE_SHIFT" "I" (.int 8)) (b : Addr) (kb : ClassId) (n : Nat) (vs : List Value) {h0 : Heap} (o1 : Old Z n0 h0) (hn : n < 1073741824) (Ab : Arv Z h0 b kb .byte (Int32.ofNat (n * 2)) vs (.int 0)) :
    Con Z a0 l (⟨"java/lang/StringUTF16", "length", "([B)I"⟩ : MethodName) jdk_52_method_6_code 1 (some .int) ({ frames := 0, cells := 0, slots := 0, locals := 0 } : Room) [] #[(.ref b)] consts_1 h0 n0 [] [] (VV fun w h so => w = .int (Int32.ofNat n) ∧ h = h0 ∧ so = []) := by
  refine Con.body (plainFor_of_name pn_java_lang_StringUTF16) hEW o1 all0 #[.val (.ref b)] (fun m => by first | (simp [entryFrame, mkF, argsToLocals, Value.category]; done) | rfl) ?_
  intro p e s m below meth c B hnm hret hlk G
  replace G := G.aloadN 1 d51_0 rfl rfl rfl |>.alen 2 Ab d51_1 rfl |>.iconst 3 (1 : Int32) d51_2 rfl rfl |>.ishr 4 d51_3 rfl |>.top (y := (.int (Int32.ofNat n))) (congrArg Value.int (shr1 hn))
  exact G.retI hret hlk d51_4 [] all0 ⟨_, rfl, rfl, rfl, rfl⟩ (nle rfl) (nle rfl)
theorem d47_0 : decode jdk_52_method_4_code 0 = .ok (.getstatic 44, 3) := by decide +kernel
theorem d47_3 : decode jdk_52_method_4_code 3 = .ok (.ifCond .ne 25, 3) := by decide +kernel
theorem d47_6 : decode jdk_52_method_4_code 6 = .ok (.iload_n 1, 1) := by decide +kernel
theorem d47_7 : decode jdk_52_method_4_code 7 = .ok (.ifCond .lt 11, 3) := by decide +kernel
theorem d47_10 : decode jdk_52_method_4_code 10 = .ok (.iload_n 1, 1) := by decide +kernel
theorem d47_11 : decode jdk_52_method_4_code 11 = .ok (.aload_n 0, 1) := by decide +kernel
theorem d47_12 : decode jdk_52_method_4_code 12 = .ok (.invokestatic 48, 3) := by decide +kernel
theorem d47_15 : decode jdk_52_method_4_code 15 = .ok (.if_icmp .lt 13, 3) := by decide +kernel
theorem d47_18 : decode jdk_52_method_4_code 18 = .ok (.new 52, 3) := by decide +kernel
theorem d47_21 : decode jdk_52_method_4_code 21 = .ok (.dup, 1) := by decide +kernel
theorem d47_22 : decode jdk_52_method_4_code 22 = .ok (.ldc 54, 2) := by decide +kernel
theorem d47_24 : decode jdk_52_method_4_code 24 = .ok (.invokespecial 56, 3) := by decide +kernel
theorem d47_27 : decode jdk_52_method_4_code 27 = .ok (.athrow, 1) := by decide +kernel
theorem d47_28 : decode jdk_52_method_4_code 28 = .ok (.iload_n 1, 1) := by decide +kernel
theorem d47_29 : decode jdk_52_method_4_code 29 = .ok (.iconst 1, 1) := by decide +kernel
theorem d47_30 : decode jdk_52_method_4_code 30 = .ok (.ishl, 1) := by decide +kernel
theorem d47_31 : decode jdk_52_method_4_code 31 = .ok (.istore_n 1, 1) := by decide +kernel
theorem d47_32 : decode jdk_52_method_4_code 32 = .ok (.aload_n 0, 1) := by decide +kernel
theorem d47_33 : decode jdk_52_method_4_code 33 = .ok (.iload_n 1, 1) := by decide +kernel
theorem d47_34 : decode jdk_52_method_4_code 34 = .ok (.iinc 1 1, 3) := by decide +kernel
theorem d47_37 : decode jdk_52_method_4_code 37 = .ok (.iload_n 2, 1) := by decide +kernel
theorem d47_38 : decode jdk_52_method_4_code 38 = .ok (.getstatic 59, 3) := by decide +kernel
theorem d47_41 : decode jdk_52_method_4_code 41 = .ok (.ishr, 1) := by decide +kernel
theorem d47_42 : decode jdk_52_method_4_code 42 = .ok (.i2b, 1) := by decide +kernel
theorem d47_43 : decode jdk_52_method_4_code 43 = .ok (.bastore, 1) := by decide +kernel
theorem d47_44 : decode jdk_52_method_4_code 44 = .ok (.aload_n 0, 1) := by decide +kernel
theorem d47_45 : decode jdk_52_method_4_code 45 = .ok (.iload_n 1, 1) := by decide +kernel
theorem d47_46 : decode jdk_52_method_4_code 46 = .ok (.iload_n 2, 1) := by decide +kernel
theorem d47_47 : decode jdk_52_method_4_code 47 = .ok (.getstatic 63, 3) := by decide +kernel
theorem d47_50 : decode jdk_52_method_4_code 50 = .ok (.ishr, 1) := by decide +kernel
theorem d47_51 : decode jdk_52_method_4_code 51 = .ok (.i2b, 1) := by decide +kernel
theorem d47_52 : decode jdk_52_method_4_code 52 = .ok (.bastore, 1) := by decide +kernel
theorem d47_53 : decode jdk_52_method_4_code 53 = .ok (.return_, 1) := by decide +kernel
theorem c_putCh (l : Launch) (Z : State) (a0 : Array Value) (hw : ∀ d ∈ tables_1, d.before a0 Z = true) (hEW : EW Z a0 consts_1) (n0 : Nat) (c1 : Int32) (hc1 : ¬ c1 = 0) (S1 : Sta Z Z.heap "java/lang/String" "COMPACT_STRINGS" "Z" (.int c1)) (v2 : Value) (hv2 : v2.isRef = true) (S2 : Sta Z Z.heap "jdk/internal/util/Preconditions" "SIOOBE_FORMATTER" "Ljava/util/function/BiFunction;" v2) (S3 : Sta Z Z.heap "java/lang/StringUTF16" "$assertionsDisabled" "Z" (.int 1)) (S4 : Sta Z Z.heap "java/lang/StringUTF16" "HI_BYTE_SHIFT" "I" (.int 0)) (S5 : Sta Z Z.heap "java/lang/StringUTF16" "LO_BYTE_SHIFT" "I" (.int 8)) (b : Addr) (kb : ClassId) (n ch : Nat) (cs : List Nat) {h0 : Heap} (o1 : Old Z n0 h0) (ge_b : n0 ≤ b) (hc : ch < 65536) (hi : cs.length < n) (hn : n < 1073741824) (Ab : Arv Z h0 b kb .byte (Int32.ofNat (n * 2)) (encS 1 cs) (.int 0)) :
    Con Z a0 l (⟨"java/lang/StringUTF16", "putChar", "([BII)V"⟩ : MethodName) jdk_52_method_4_code 3 (none) ({ frames := 0, cells := 0, slots := 0, locals := 0 } : Room) [] #[(.ref b), (.int (Int32.ofNat cs.length)), (.int (Int32.ofNat ch))] consts_1 h0 n0 [b] [b] (V0 fun h so => Arv Z h b kb .byte (Int32.ofNat (n * 2)) (encS 1 (cs ++ [ch])) (.int 0) ∧ so = []) := by
  refine Con.body (plainFor_of_name pn_java_lang_StringUTF16) hEW o1 (allS ge_b all0) #[.val (.ref b), .val (.int (Int32.ofNat cs.length)), .val (.int (Int32.ofNat ch))] (fun m => by first | (simp [entryFrame, mkF, argsToLocals, Value.category]; done) | rfl) ?_
  intro p e s m below meth c B hnm hret hlk G
  have hl := encS_len1 cs
  replace G := G.gets 3 (host := "") (Or.inl (hw _ (mm 232 rfl))) Via.refl (G.sta S3) d47_0 rfl |>.ifT 28 d47_3 (XT.i0_ne_t (by decide)) (by decide) (by decide) |>.iloadN 29 d47_28 rfl rfl |>.iconst 30 (1 : Int32) d47_29 rfl rfl |>.ishl 31 d47_30 rfl |>.top (y := (.int (Int32.ofNat (cs.length * 2)))) (congrArg Value.int (shl1 (by omega))) |>.istoreN 32 #[.val (.ref b), .val (.int (Int32.ofNat (cs.length * 2))), .val (.int (Int32.ofNat ch))] d47_31 rfl rfl |>.aloadN 33 d47_32 rfl rfl rfl
  replace G := G.iloadN 34 d47_33 rfl rfl |>.iincV 37 #[.val (.ref b), .val (.int (Int32.ofNat (cs.length * 2 + 1))), .val (.int (Int32.ofNat ch))] (Int32.ofNat (cs.length * 2 + 1)) d47_34 rfl (ofn_succ _) rfl rfl |>.iloadN 38 d47_37 rfl rfl |>.gets 41 (host := "") (Or.inl (hw _ (mm 233 rfl))) Via.refl (G.sta S4) d47_38 rfl |>.ishr 42 d47_41 rfl |>.top (y := (.int (Int32.ofNat ch))) (congrArg Value.int (shr0 _)) |>.i2b 43 d47_42 rfl
  replace Ab := Ab.pad (vs' := encS 1 cs ++ [(.int 0), (.int 0)]) (pad_rep _ (.int 0) 2)
  obtain ⟨h1, G', As, Ks⟩ := G.bastore 44 (cs.length * 2) Ab ⟨ofn_nn (by omega), ofn_lt (by omega) (by omega)⟩ (ofn_nat (by omega)) (by simp [hl]) (Or.inl (mm 0 rfl)) (mm 0 rfl) d47_43 rfl
  replace G := G'; clear G'
  replace G := G.aloadN 45 d47_44 rfl rfl rfl |>.iloadN 46 d47_45 rfl rfl |>.iloadN 47 d47_46 rfl rfl |>.gets 50 (host := "") (Or.inl (hw _ (mm 234 rfl))) Via.refl (G.sta S5) d47_47 rfl |>.ishr 51 d47_50 rfl |>.top (y := (.int (Int32.ofNat (ch / 256)))) (congrArg Value.int (shr8 (by omega))) |>.i2b 52 d47_51 rfl
  obtain ⟨h2, G', At, Kt⟩ := G.bastore 53 (cs.length * 2 + 1) As ⟨ofn_nn (by omega), ofn_lt (by omega) (by omega)⟩ (ofn_nat (by omega)) (by simp [hl]) (Or.inl (mm 0 rfl)) (mm 0 rfl) d47_52 rfl
  replace G := G'; clear G'
  rw [byt2, byt2, put2 _ _ _ _ hl] at At
  replace At : Arv Z h2 b kb .byte (Int32.ofNat (n * 2)) (encS 1 (cs ++ [ch])) (.int 0) := by rw [encS_app]; exact At
  exact G.retV hret hlk d47_53 [] all0 ⟨rfl, At, rfl⟩ (nle rfl) (nle rfl)
theorem d48_0 : decode jdk_52_method_5_code 0 = .ok (.getstatic 44, 3) := by decide +kernel
theorem d48_3 : decode jdk_52_method_5_code 3 = .ok (.ifCond .ne 25, 3) := by decide +kernel
theorem d48_6 : decode jdk_52_method_5_code 6 = .ok (.iload_n 1, 1) := by decide +kernel
theorem d48_7 : decode jdk_52_method_5_code 7 = .ok (.ifCond .lt 11, 3) := by decide +kernel
theorem d48_10 : decode jdk_52_method_5_code 10 = .ok (.iload_n 1, 1) := by decide +kernel
theorem d48_11 : decode jdk_52_method_5_code 11 = .ok (.aload_n 0, 1) := by decide +kernel
theorem d48_12 : decode jdk_52_method_5_code 12 = .ok (.invokestatic 48, 3) := by decide +kernel
theorem d48_15 : decode jdk_52_method_5_code 15 = .ok (.if_icmp .lt 13, 3) := by decide +kernel
theorem d48_18 : decode jdk_52_method_5_code 18 = .ok (.new 52, 3) := by decide +kernel
theorem d48_21 : decode jdk_52_method_5_code 21 = .ok (.dup, 1) := by decide +kernel
theorem d48_22 : decode jdk_52_method_5_code 22 = .ok (.ldc 54, 2) := by decide +kernel
theorem d48_24 : decode jdk_52_method_5_code 24 = .ok (.invokespecial 56, 3) := by decide +kernel
theorem d48_27 : decode jdk_52_method_5_code 27 = .ok (.athrow, 1) := by decide +kernel
theorem d48_28 : decode jdk_52_method_5_code 28 = .ok (.iload_n 1, 1) := by decide +kernel
theorem d48_29 : decode jdk_52_method_5_code 29 = .ok (.iconst 1, 1) := by decide +kernel
theorem d48_30 : decode jdk_52_method_5_code 30 = .ok (.ishl, 1) := by decide +kernel
theorem d48_31 : decode jdk_52_method_5_code 31 = .ok (.istore_n 1, 1) := by decide +kernel
theorem d48_32 : decode jdk_52_method_5_code 32 = .ok (.aload_n 0, 1) := by decide +kernel
theorem d48_33 : decode jdk_52_method_5_code 33 = .ok (.iload_n 1, 1) := by decide +kernel
theorem d48_34 : decode jdk_52_method_5_code 34 = .ok (.iinc 1 1, 3) := by decide +kernel
theorem d48_37 : decode jdk_52_method_5_code 37 = .ok (.baload, 1) := by decide +kernel
theorem d48_38 : decode jdk_52_method_5_code 38 = .ok (.sipush 255, 3) := by decide +kernel
theorem d48_41 : decode jdk_52_method_5_code 41 = .ok (.iand, 1) := by decide +kernel
theorem d48_42 : decode jdk_52_method_5_code 42 = .ok (.getstatic 59, 3) := by decide +kernel
theorem d48_45 : decode jdk_52_method_5_code 45 = .ok (.ishl, 1) := by decide +kernel
theorem d48_46 : decode jdk_52_method_5_code 46 = .ok (.aload_n 0, 1) := by decide +kernel
theorem d48_47 : decode jdk_52_method_5_code 47 = .ok (.iload_n 1, 1) := by decide +kernel
theorem d48_48 : decode jdk_52_method_5_code 48 = .ok (.baload, 1) := by decide +kernel
theorem d48_49 : decode jdk_52_method_5_code 49 = .ok (.sipush 255, 3) := by decide +kernel
theorem d48_52 : decode jdk_52_method_5_code 52 = .ok (.iand, 1) := by decide +kernel
theorem d48_53 : decode jdk_52_method_5_code 53 = .ok (.getstatic 63, 3) := by decide +kernel
theorem d48_56 : decode jdk_52_method_5_code 56 = .ok (.ishl, 1) := by decide +kernel
theorem d48_57 : decode jdk_52_method_5_code 57 = .ok (.ior, 1) := by decide +kernel
theorem d48_58 : decode jdk_52_method_5_code 58 = .ok (.i2c, 1) := by decide +kernel
theorem d48_59 : decode jdk_52_method_5_code 59 = .ok (.ireturn, 1) := by decide +kernel
theorem c_getCh (l : Launch) (Z : State) (a0 : Array Value) (hw : ∀ d ∈ tables_1, d.before a0 Z = true) (hEW : EW Z a0 consts_1) (n0 : Nat) (c1 : Int32) (hc1 : ¬ c1 = 0) (S1 : Sta Z Z.heap "java/lang/String" "COMPACT_STRINGS" "Z" (.int c1)) (v2 : Value) (hv2 : v2.isRef = true) (S2 : Sta Z Z.heap "jdk/internal/util/Preconditions" "SIOOBE_FORMATTER" "Ljava/util/function/BiFunction;" v2) (S3 : Sta Z Z.heap "java/lang/StringUTF16" "$assertionsDisabled" "Z" (.int 1)) (S4 : Sta Z Z.heap "java/lang/StringUTF16" "HI_BYTE_SHIFT" "I" (.int 0)) (S5 : Sta Z Z.heap "java/lang/StringUTF16" "LO_BYTE_SHIFT" "I" (.int 8)) (b : Addr) (kb : ClassId) (n i : Nat) (cs : List Nat) {h0 : Heap} (o1 : Old Z n0 h0) (hc : cs.getD i 0 < 65536) (hi : i < cs.length) (hcn : cs.length ≤ n) (hn : n < 1073741824) (Ab : Arv Z h0 b kb .byte (Int32.ofNat (n * 2)) (encS 1 cs) (.int 0)) :
    Con Z a0 l (⟨"java/lang/StringUTF16", "getChar", "([BI)C"⟩ : MethodName) jdk_52_method_5_code 2 (some .char) ({ frames := 0, cells := 0, slots := 0, locals := 0 } : Room) [] #[(.ref b), (.int (Int32.ofNat i))] consts_1 h0 n0 [] [] (VV fun w h so => w = .int (Int32.ofNat (cs.getD i 0)) ∧ h = h0 ∧ so = []) := by
  refine Con.body (plainFor_of_name pn_java_lang_StringUTF16) hEW o1 all0 #[.val (.ref b), .val (.int (Int32.ofNat i))] (fun m => by first | (simp [entryFrame, mkF, argsToLocals, Value.category]; done) | rfl) ?_
  intro p e s m below meth c B hnm hret hlk G
  replace G := G.gets 3 (host := "") (Or.inl (hw _ (mm 232 rfl))) Via.refl (G.sta S3) d48_0 rfl |>.ifT 28 d48_3 (XT.i0_ne_t (by decide)) (by decide) (by decide) |>.iloadN 29 d48_28 rfl rfl |>.iconst 30 (1 : Int32) d48_29 rfl rfl |>.ishl 31 d48_30 rfl |>.top (y := (.int (Int32.ofNat (i * 2)))) (congrArg Value.int (shl1 (by omega))) |>.istoreN 32 #[.val (.ref b), .val (.int (Int32.ofNat (i * 2)))] d48_31 rfl rfl |>.aloadN 33 d48_32 rfl rfl rfl
  replace G := G.iloadN 34 d48_33 rfl rfl |>.iincV 37 #[.val (.ref b), .val (.int (Int32.ofNat (i * 2 + 1)))] (Int32.ofNat (i * 2 + 1)) d48_34 rfl (ofn_succ _) rfl rfl |>.baload 38 (v := (.int (byt (cs.getD i 0)))) Ab ⟨ofn_nn (by omega), ofn_lt (by omega) (by omega)⟩ (by rw [ofn_nat (by omega)]; exact (encS1_at cs i hi).1) d48_37 rfl |>.sipush 41 (255 : Int32) d48_38 (by decide) rfl |>.iand 42 d48_41 rfl |>.gets 45 (host := "") (Or.inl (hw _ (mm 233 rfl))) Via.refl (G.sta S4) d48_42 rfl |>.ishl 46 d48_45 rfl |>.aloadN 47 d48_46 rfl rfl rfl
  replace G := G.iloadN 48 d48_47 rfl rfl |>.baload 49 (v := (.int (byt (cs.getD i 0 / 256)))) Ab ⟨ofn_nn (by omega), ofn_lt (by omega) (by omega)⟩ (by rw [ofn_nat (by omega)]; exact (encS1_at cs i hi).2) d48_48 rfl |>.sipush 52 (255 : Int32) d48_49 (by decide) rfl |>.iand 53 d48_52 rfl |>.gets 56 (host := "") (Or.inl (hw _ (mm 234 rfl))) Via.refl (G.sta S5) d48_53 rfl |>.ishl 57 d48_56 rfl |>.ior 58 d48_57 rfl |>.top (y := (.int (Int32.ofNat (cs.getD i 0)))) (congrArg Value.int (getc hc))
  replace G := G.i2c 59 d48_58 rfl |>.top (y := (.int (Int32.ofNat (cs.getD i 0)))) (congrArg Value.int (i2c_w hc))
  exact G.retN hret (Or.inr (Or.inr (Or.inl rfl))) hlk d48_59 [] all0 ⟨_, rfl, congrArg Value.int (i2c_w hc), rfl, rfl⟩ (nle rfl) (nle rfl)
theorem d46_0 : decode jdk_52_method_3_code 0 = .ok (.iload_n 0, 1) := by decide +kernel
theorem d46_1 : decode jdk_52_method_3_code 1 = .ok (.ifCond .ge 11, 3) := by decide +kernel
theorem d46_4 : decode jdk_52_method_3_code 4 = .ok (.new 17, 3) := by decide +kernel
theorem d46_7 : decode jdk_52_method_3_code 7 = .ok (.dup, 1) := by decide +kernel
theorem d46_8 : decode jdk_52_method_3_code 8 = .ok (.invokespecial 19, 3) := by decide +kernel
theorem d46_11 : decode jdk_52_method_3_code 11 = .ok (.athrow, 1) := by decide +kernel
theorem d46_12 : decode jdk_52_method_3_code 12 = .ok (.iload_n 0, 1) := by decide +kernel
theorem d46_13 : decode jdk_52_method_3_code 13 = .ok (.ldc 20, 2) := by decide +kernel
theorem d46_15 : decode jdk_52_method_3_code 15 = .ok (.if_icmp .lt 40, 3) := by decide +kernel
theorem d46_18 : decode jdk_52_method_3_code 18 = .ok (.new 21, 3) := by decide +kernel
theorem d46_21 : decode jdk_52_method_3_code 21 = .ok (.dup, 1) := by decide +kernel
theorem d46_22 : decode jdk_52_method_3_code 22 = .ok (.new 23, 3) := by decide +kernel
theorem d46_25 : decode jdk_52_method_3_code 25 = .ok (.dup, 1) := by decide +kernel
theorem d46_26 : decode jdk_52_method_3_code 26 = .ok (.invokespecial 25, 3) := by decide +kernel
theorem d46_29 : decode jdk_52_method_3_code 29 = .ok (.ldc 26, 2) := by decide +kernel
theorem d46_31 : decode jdk_52_method_3_code 31 = .ok (.invokevirtual 28, 3) := by decide +kernel
theorem d46_34 : decode jdk_52_method_3_code 34 = .ok (.iload_n 0, 1) := by decide +kernel
theorem d46_35 : decode jdk_52_method_3_code 35 = .ok (.invokevirtual 32, 3) := by decide +kernel
theorem d46_38 : decode jdk_52_method_3_code 38 = .ok (.ldc 35, 2) := by decide +kernel
theorem d46_40 : decode jdk_52_method_3_code 40 = .ok (.invokevirtual 28, 3) := by decide +kernel
theorem d46_43 : decode jdk_52_method_3_code 43 = .ok (.ldc 20, 2) := by decide +kernel
theorem d46_45 : decode jdk_52_method_3_code 45 = .ok (.invokevirtual 32, 3) := by decide +kernel
theorem d46_48 : decode jdk_52_method_3_code 48 = .ok (.invokevirtual 37, 3) := by decide +kernel
theorem d46_51 : decode jdk_52_method_3_code 51 = .ok (.invokespecial 41, 3) := by decide +kernel
theorem d46_54 : decode jdk_52_method_3_code 54 = .ok (.athrow, 1) := by decide +kernel
theorem d46_55 : decode jdk_52_method_3_code 55 = .ok (.iload_n 0, 1) := by decide +kernel
theorem d46_56 : decode jdk_52_method_3_code 56 = .ok (.iconst 1, 1) := by decide +kernel
theorem d46_57 : decode jdk_52_method_3_code 57 = .ok (.ishl, 1) := by decide +kernel
theorem d46_58 : decode jdk_52_method_3_code 58 = .ok (.ireturn, 1) := by decide +kernel
theorem c_nbl (l : Launch) (Z : State) (a0 : Array Value) (hw : ∀ d ∈ tables_1, d.before a0 Z = true) (hEW : EW Z a0 consts_1) (n0 : Nat) (c1 : Int32) (hc1 : ¬ c1 = 0) (S1 : Sta Z Z.heap "java/lang/String" "COMPACT_STRINGS" "Z" (.int c1)) (v2 : Value) (hv2 : v2.isRef = true) (S2 : Sta Z Z.heap "jdk/internal/util/Preconditions" "SIOOBE_FORMATTER" "Ljava/util/function/BiFunction;" v2) (S3 : Sta Z Z.heap "java/lang/StringUTF16" "$assertionsDisabled" "Z" (.int 1)) (S4 : Sta Z Z.heap "java/lang/StringUTF16" "HI_BYTE_SHIFT" "I" (.int 0)) (S5 : Sta Z Z.heap "java/lang/StringUTF16" "LO_BYTE_SHIFT" "I" (.int 8)) (n : Nat) {h0 : Heap} (o1 : Old Z n0 h0) (hn : n < 1000) :
    Con Z a0 l (⟨"java/lang/StringUTF16", "newBytesLength", "(I)I"⟩ : MethodName) jdk_52_method_3_code 1 (some .int) ({ frames := 0, cells := 0, slots := 0, locals := 0 } : Room) [] #[(.int (Int32.ofNat n))] consts_1 h0 n0 [] [] (VV fun w h so => w = .int (Int32.ofNat (n * 2)) ∧ h = h0 ∧ so = []) := by
  refine Con.body (plainFor_of_name pn_java_lang_StringUTF16) hEW o1 all0 #[.val (.int (Int32.ofNat n))] (fun m => by first | (simp [entryFrame, mkF, argsToLocals, Value.category]; done) | rfl) ?_
  intro p e s m below meth c B hnm hret hlk G
  replace G := G.iloadN 1 d46_0 rfl rfl |>.ifT 12 d46_1 (XT.i0_ge_t (ofn_nn (by omega))) (by decide) (by decide) |>.iloadN 13 d46_12 rfl rfl |>.ldcI 15 (hw _ (mm 228 rfl)) d46_13 rfl |>.icmpT 55 d46_15 (XT.ii_lt_t (ofn_lt (n := 1073741823) (by omega) (by decide))) (by decide) (by decide) |>.iloadN 56 d46_55 rfl rfl |>.iconst 57 (1 : Int32) d46_56 rfl rfl |>.ishl 58 d46_57 rfl
  replace G := G.top (y := (.int (Int32.ofNat (n * 2)))) (congrArg Value.int (shl1 (by omega)))
  exact G.retI hret hlk d46_58 [] all0 ⟨_, rfl, rfl, rfl, rfl⟩ (nle rfl) (nle rfl)
theorem d45_0 : decode jdk_52_method_2_code 0 = .ok (.iload_n 0, 1) := by decide +kernel
theorem d45_1 : decode jdk_52_method_2_code 1 = .ok (.invokestatic 11, 3) := by decide +kernel
theorem d45_4 : decode jdk_52_method_2_code 4 = .ok (.newarray .byte, 2) := by decide +kernel
theorem d45_6 : decode jdk_52_method_2_code 6 = .ok (.areturn, 1) := by decide +kernel
theorem c_nbf (l : Launch) (Z : State) (a0 : Array Value) (hw : ∀ d ∈ tables_1, d.before a0 Z = true) (hEW : EW Z a0 consts_1) (n0 : Nat) (c1 : Int32) (hc1 : ¬ c1 = 0) (S1 : Sta Z Z.heap "java/lang/String" "COMPACT_STRINGS" "Z" (.int c1)) (v2 : Value) (hv2 : v2.isRef = true) (S2 : Sta Z Z.heap "jdk/internal/util/Preconditions" "SIOOBE_FORMATTER" "Ljava/util/function/BiFunction;" v2) (S3 : Sta Z Z.heap "java/lang/StringUTF16" "$assertionsDisabled" "Z" (.int 1)) (S4 : Sta Z Z.heap "java/lang/StringUTF16" "HI_BYTE_SHIFT" "I" (.int 0)) (S5 : Sta Z Z.heap "java/lang/StringUTF16" "LO_BYTE_SHIFT" "I" (.int 8)) (n : Nat) {h0 : Heap} (o1 : Old Z n0 h0) (hn : n ≤ 26) :
    Con Z a0 l (⟨"java/lang/StringUTF16", "newBytesFor", "(I)[B"⟩ : MethodName) jdk_52_method_2_code 1 (some (.array .byte)) ({ frames := 1, cells := 1, slots := 52, locals := 12 } : Room) [] #[(.int (Int32.ofNat n))] consts_1 h0 n0 [] [] (VV fun w h so => ∃ d, w = .ref d ∧ (∃ k, Arv Z h d k .byte (Int32.ofNat (n * 2)) [] (.int 0)) ∧ h0.size ≤ d ∧ so = [d]) := by
  refine Con.body (plainFor_of_name pn_java_lang_StringUTF16) hEW o1 all0 #[.val (.int (Int32.ofNat n))] (fun m => by first | (simp [entryFrame, mkF, argsToLocals, Value.category]; done) | rfl) ?_
  intro p e s m below meth c B hnm hret hlk G
  replace G := G.iloadN 1 d45_0 rfl rfl
  obtain ⟨vn, h_n, son, G', Kn, Qn⟩ := G.callS 4 (hw _ (mm 225 rfl)) (hw _ (mm 226 rfl)) (hw _ (mm 112 rfl)) (hw _ (mm 227 rfl)) (by decide) [(.int (Int32.ofNat n))] [] rfl (c_nbl l Z a0 hw hEW n0 c1 hc1 S1 v2 hv2 S2 S3 S4 S5 n G.old (by omega)) (lenOf pd__I_I rfl) d45_1 rfl (nle rfl) (nle rfl) (nle rfl) (nle rfl) all0 all0 all0 rfl
  replace G := G'; clear G'
  obtain ⟨wn, qn, rfl, en, rfl⟩ := Qn
  replace G := G.val qn
  subst en
  obtain ⟨d, h1, kd, G', gd, sd, Ed, Ad⟩ := G.newarray 6 (hw _ (mm 20 rfl)) d45_4 (ofn_nn (by omega)) 52 (by rw [ofn_nat (by omega)]; omega) (by decide) rfl (nle rfl) (nle rfl)
  replace G := G'; clear G'
  exact G.retA hret rfl rfl hlk d45_6 [d] (allS (mm 0 rfl) all0) ⟨_, rfl, d, rfl, ⟨kd, Ad⟩, sd, rfl⟩ (nle rfl) (nle rfl)
theorem d44_0 : decode jdk_52_method_14_code 0 = .ok (.iload_n 2, 1) := by decide +kernel
theorem d44_1 : decode jdk_52_method_14_code 1 = .ok (.invokestatic 107, 3) := by decide +kernel
theorem d44_4 : decode jdk_52_method_14_code 4 = .ok (.astore_n 3, 1) := by decide +kernel
theorem d44_5 : decode jdk_52_method_14_code 5 = .ok (.iconst 0, 1) := by decide +kernel
theorem d44_6 : decode jdk_52_method_14_code 6 = .ok (.istore 4, 2) := by decide +kernel
theorem d44_8 : decode jdk_52_method_14_code 8 = .ok (.iload 4, 2) := by decide +kernel
theorem d44_10 : decode jdk_52_method_14_code 10 = .ok (.iload_n 2, 1) := by decide +kernel
theorem d44_11 : decode jdk_52_method_14_code 11 = .ok (.if_icmp .ge 21, 3) := by decide +kernel
theorem d44_14 : decode jdk_52_method_14_code 14 = .ok (.aload_n 3, 1) := by decide +kernel
theorem d44_15 : decode jdk_52_method_14_code 15 = .ok (.iload 4, 2) := by decide +kernel
theorem d44_17 : decode jdk_52_method_14_code 17 = .ok (.aload_n 0, 1) := by decide +kernel
theorem d44_18 : decode jdk_52_method_14_code 18 = .ok (.iload_n 1, 1) := by decide +kernel
theorem d44_19 : decode jdk_52_method_14_code 19 = .ok (.caload, 1) := by decide +kernel
theorem d44_20 : decode jdk_52_method_14_code 20 = .ok (.invokestatic 111, 3) := by decide +kernel
theorem d44_23 : decode jdk_52_method_14_code 23 = .ok (.iinc 1 1, 3) := by decide +kernel
theorem d44_26 : decode jdk_52_method_14_code 26 = .ok (.iinc 4 1, 3) := by decide +kernel
theorem d44_29 : decode jdk_52_method_14_code 29 = .ok (.goto (-21), 3) := by decide +kernel
theorem d44_32 : decode jdk_52_method_14_code 32 = .ok (.aload_n 3, 1) := by decide +kernel
theorem d44_33 : decode jdk_52_method_14_code 33 = .ok (.areturn, 1) := by decide +kernel
theorem c_toBy (l : Launch) (Z : State) (a0 : Array Value) (hw : ∀ d ∈ tables_1, d.before a0 Z = true) (hEW : EW Z a0 consts_1) (n0 : Nat) (c1 : Int32) (hc1 : ¬ c1 = 0) (S1 : Sta Z Z.heap "java/lang/String" "COMPACT_STRINGS" "Z" (.int c1)) (v2 : Value) (hv2 : v2.isRef = true) (S2 : Sta Z Z.heap "jdk/internal/util/Preconditions" "SIOOBE_FORMATTER" "Ljava/util/function/BiFunction;" v2) (S3 : Sta Z Z.heap "java/lang/StringUTF16" "$assertionsDisabled" "Z" (.int 1)) (S4 : Sta Z Z.heap "java/lang/StringUTF16" "HI_BYTE_SHIFT" "I" (.int 0)) (S5 : Sta Z Z.heap "java/lang/StringUTF16" "LO_BYTE_SHIFT" "I" (.int 8)) (va : Addr) (kv : ClassId) (cs : List Nat) {h0 : Heap} (o1 : Old Z n0 h0) (hmax : cs.length ≤ 8) (hc : ∀ c ∈ cs, c < 65536) (Av : Arv Z h0 va kv .char (Int32.ofNat cs.length) (cs.map fun c => Value.int (Int32.ofNat c)) (.int 0)) :
    Con Z a0 l (⟨"java/lang/StringUTF16", "toBytes", "([CII)[B"⟩ : MethodName) jdk_52_method_14_code 5 (some (.array .byte)) ({ frames := 2, cells := 1, slots := 52, locals := 24 } : Room) [] #[(.ref va), (.int (0 : Int32)), (.int (Int32.ofNat cs.length))] consts_1 h0 n0 [] [] (VV fun w h so => ∃ d, w = .ref d ∧ (∃ k, Arv Z h d k .byte (Int32.ofNat (cs.length * 2)) (encS 1 cs) (.int 0)) ∧ h0.size ≤ d ∧ so = [d]) := by
  refine Con.body (plainFor_of_name pn_java_lang_StringUTF16) hEW o1 all0 #[.val (.ref va), .val (.int (0 : Int32)), .val (.int (Int32.ofNat cs.length)), .unset, .unset] (fun m => by first | (simp [entryFrame, mkF, argsToLocals, Value.category]; done) | rfl) ?_
  intro p e s m below meth c B hnm hret hlk G
  have hn : cs.length < 1000 := by omega
  replace G := G.iloadN 1 d44_0 rfl rfl
  obtain ⟨vn, h1, son, G', Kn, Qn⟩ := G.callS 4 (hw _ (mm 222 rfl)) (hw _ (mm 223 rfl)) (hw _ (mm 112 rfl)) (hw _ (mm 224 rfl)) (by decide) [(.int (Int32.ofNat cs.length))] [] rfl (c_nbf l Z a0 hw hEW n0 c1 hc1 S1 v2 hv2 S2 S3 S4 S5 cs.length G.old (by omega)) (lenOf pd__I__B rfl) d44_1 rfl (nle rfl) (nle rfl) (nle rfl) (nle rfl) all0 all0 all0 rfl
  replace G := G'; clear G'
  obtain ⟨wn, qn, d, rfl, ⟨kdd, Ad⟩, sd, rfl⟩ := Qn
  replace G := G.val qn
  have nvd : va ≠ d := (ne_ge Av.lt sd).symm
  replace Av := Av.keep Kn nin0
  replace G := G.astoreN 5 #[.val (.ref va), .val (.int (0 : Int32)), .val (.int (Int32.ofNat cs.length)), .val (.ref d), .unset] d44_4 rfl rfl rfl |>.iconst 6 (0 : Int32) d44_5 rfl rfl |>.istore 8 #[.val (.ref va), .val (.int (0 : Int32)), .val (.int (Int32.ofNat cs.length)), .val (.ref d), .val (.int (0 : Int32))] d44_6 rfl rfl
  have loop : ∀ (k : Nat) (h : Heap) (i : Nat), i + k = cs.length → Arv Z h va kv .char (Int32.ofNat cs.length) (cs.map fun c => Value.int (Int32.ofNat c)) (.int 0) → Arv Z h d kdd .byte (Int32.ofNat (cs.length * 2)) (encS 1 (cs.take i)) (.int 0) → Wl Z a0 "java/lang/StringUTF16" p l e ({ frames := 2, cells := 1, slots := 52, locals := 24 } : Room) s m #[(.ref va), (.int (0 : Int32)), (.int (Int32.ofNat cs.length))] below meth c jdk_52_method_14_code 5 B consts_1 h0 n0 [] [d] h 1 52 8 #[.val (.ref va), .val (.int (Int32.ofNat i)), .val (.int (Int32.ofNat cs.length)), .val (.ref d), .val (.int (Int32.ofNat i))] [] → Fin Z consts_1 p e below B s h0 n0 [] ({ frames := 2, cells := 1, slots := 52, locals := 24 } : Room).cells ({ frames := 2, cells := 1, slots := 52, locals := 24 } : Room).slots (VV fun w h so => ∃ d, w = .ref d ∧ (∃ k, Arv Z h d k .byte (Int32.ofNat (cs.length * 2)) (encS 1 cs) (.int 0)) ∧ h0.size ≤ d ∧ so = [d]) := by
    intro k; induction k with
    | zero =>
      intro h i hik Av Ad G
      obtain rfl : i = cs.length := by omega
      replace G := G.iload 10 d44_8 rfl rfl |>.iloadN 11 d44_10 rfl rfl |>.icmpT 32 d44_11 (XT.ii_ge_t (ofn_nlt (Nat.le_refl _) (by omega))) (by decide) (by decide) |>.aloadN 33 d44_32 rfl rfl rfl
      rw [List.take_length] at Ad
      exact G.retA hret rfl rfl hlk d44_33 [d] (allS (mm 0 rfl) all0) ⟨_, rfl, d, rfl, ⟨kdd, Ad⟩, sd, rfl⟩ (nle rfl) (nle rfl)
    | succ k ih =>
      intro h i hik Av Ad G
      have hi : i < cs.length := by omega
      have hci := hc _ (getD_memN cs i hi)
      replace G := G.iload 10 d44_8 rfl rfl |>.iloadN 11 d44_10 rfl rfl |>.icmpF 14 d44_11 (XT.ii_ge_f (ofn_lt hi (by omega))) rfl |>.aloadN 15 d44_14 rfl rfl rfl |>.iload 17 d44_15 rfl rfl |>.aloadN 18 d44_17 rfl rfl rfl |>.iloadN 19 d44_18 rfl rfl |>.caload 20 (v := (.int (Int32.ofNat (cs.getD i 0)))) Av ⟨ofn_nn (by omega), ofn_lt hi (by omega)⟩ (by rw [ofn_nat (by omega)]; exact getD_mapN cs i hi) d44_19 rfl
      have hti : (cs.take i).length = i := by rw [List.length_take]; omega
      replace G := G.cast (S' := [(.int (Int32.ofNat (cs.getD i 0))), (.int (Int32.ofNat (cs.take i).length)), (.ref d)]) rfl (by rw [hti])
      obtain ⟨vp, h2, sop, G', Kp, Qp⟩ := G.callS 23 (hw _ (mm 229 rfl)) (hw _ (mm 230 rfl)) (hw _ (mm 112 rfl)) (hw _ (mm 231 rfl)) (by decide) [(.ref d), (.int (Int32.ofNat (cs.take i).length)), (.int (Int32.ofNat (cs.getD i 0)))] [] rfl (c_putCh l Z a0 hw hEW n0 c1 hc1 S1 v2 hv2 S2 S3 S4 S5 d kdd cs.length (cs.getD i 0) (cs.take i) G.old (G.nw (Or.inr sd)) hci (by rw [hti]; exact hi) (by omega) Ad) (lenOf pd___BII_V rfl) d44_20 rfl (nle rfl) (nle rfl) (nle rfl) (nle rfl) (allS (Or.inr sd) all0) (allS (mm 0 rfl) all0) (allS (mm 0 rfl) all0) rfl
      replace G := G'; clear G'
      obtain ⟨qp, Ad, rfl⟩ := Qp
      replace G := G.nov qp
      replace Av := Av.keep Kp (ninS nvd nin0)
      rw [← tk_succN cs i hi] at Ad
      replace G := G.iincV 26 #[.val (.ref va), .val (.int (Int32.ofNat (i + 1))), .val (.int (Int32.ofNat cs.length)), .val (.ref d), .val (.int (Int32.ofNat i))] (Int32.ofNat (i + 1)) d44_23 rfl (ofn_succ i) rfl rfl |>.iincV 29 #[.val (.ref va), .val (.int (Int32.ofNat (i + 1))), .val (.int (Int32.ofNat cs.length)), .val (.ref d), .val (.int (Int32.ofNat (i + 1)))] (Int32.ofNat (i + 1)) d44_26 rfl (ofn_succ i) rfl rfl |>.goto 8 d44_29 (by decide) (by decide)
      exact ih _ (i + 1) (by omega) Av Ad G
  exact loop cs.length _ 0 (by omega) Av Ad G
theorem d20_0 : decode jdk_52_method_21_code 0 = .ok (.iconst 0, 1) := by decide +kernel
theorem d20_1 : decode jdk_52_method_21_code 1 = .ok (.istore 5, 2) := by decide +kernel
theorem d20_3 : decode jdk_52_method_21_code 3 = .ok (.iload 5, 2) := by decide +kernel
theorem d20_5 : decode jdk_52_method_21_code 5 = .ok (.iload 4, 2) := by decide +kernel
theorem d20_7 : decode jdk_52_method_21_code 7 = .ok (.if_icmp .ge 37, 3) := by decide +kernel
theorem d20_10 : decode jdk_52_method_21_code 10 = .ok (.aload_n 0, 1) := by decide +kernel
theorem d20_11 : decode jdk_52_method_21_code 11 = .ok (.iload_n 1, 1) := by decide +kernel
theorem d20_12 : decode jdk_52_method_21_code 12 = .ok (.caload, 1) := by decide +kernel
theorem d20_13 : decode jdk_52_method_21_code 13 = .ok (.istore 6, 2) := by decide +kernel
theorem d20_15 : decode jdk_52_method_21_code 15 = .ok (.iload 6, 2) := by decide +kernel
theorem d20_17 : decode jdk_52_method_21_code 17 = .ok (.sipush 255, 3) := by decide +kernel
theorem d20_20 : decode jdk_52_method_21_code 20 = .ok (.if_icmp .le 6, 3) := by decide +kernel
theorem d20_23 : decode jdk_52_method_21_code 23 = .ok (.iload 5, 2) := by decide +kernel
theorem d20_25 : decode jdk_52_method_21_code 25 = .ok (.ireturn, 1) := by decide +kernel
theorem d20_26 : decode jdk_52_method_21_code 26 = .ok (.aload_n 2, 1) := by decide +kernel
theorem d20_27 : decode jdk_52_method_21_code 27 = .ok (.iload_n 3, 1) := by decide +kernel
theorem d20_28 : decode jdk_52_method_21_code 28 = .ok (.iload 6, 2) := by decide +kernel
theorem d20_30 : decode jdk_52_method_21_code 30 = .ok (.i2b, 1) := by decide +kernel
theorem d20_31 : decode jdk_52_method_21_code 31 = .ok (.bastore, 1) := by decide +kernel
theorem d20_32 : decode jdk_52_method_21_code 32 = .ok (.iinc 1 1, 3) := by decide +kernel
theorem d20_35 : decode jdk_52_method_21_code 35 = .ok (.iinc 3 1, 3) := by decide +kernel
theorem d20_38 : decode jdk_52_method_21_code 38 = .ok (.iinc 5 1, 3) := by decide +kernel
theorem d20_41 : decode jdk_52_method_21_code 41 = .ok (.goto (-38), 3) := by decide +kernel
theorem d20_44 : decode jdk_52_method_21_code 44 = .ok (.iload 4, 2) := by decide +kernel
theorem d20_46 : decode jdk_52_method_21_code 46 = .ok (.ireturn, 1) := by decide +kernel
theorem c_cmpN (l : Launch) (Z : State) (a0 : Array Value) (hw : ∀ d ∈ tables_1, d.before a0 Z = true) (hEW : EW Z a0 consts_1) (n0 : Nat) (c1 : Int32) (hc1 : ¬ c1 = 0) (S1 : Sta Z Z.heap "java/lang/String" "COMPACT_STRINGS" "Z" (.int c1)) (v2 : Value) (hv2 : v2.isRef = true) (S2 : Sta Z Z.heap "jdk/internal/util/Preconditions" "SIOOBE_FORMATTER" "Ljava/util/function/BiFunction;" v2) (S3 : Sta Z Z.heap "java/lang/StringUTF16" "$assertionsDisabled" "Z" (.int 1)) (S4 : Sta Z Z.heap "java/lang/StringUTF16" "HI_BYTE_SHIFT" "I" (.int 0)) (S5 : Sta Z Z.heap "java/lang/StringUTF16" "LO_BYTE_SHIFT" "I" (.int 8)) (va d : Addr) (kv kdd : ClassId) (cs : List Nat) {h0 : Heap} (o1 : Old Z n0 h0) (ge_d : n0 ≤ d) (hmax : cs.length ≤ 8) (hc : ∀ c ∈ cs, c < 65536) (nvd : va ≠ d) (Av : Arv Z h0 va kv .char (Int32.ofNat cs.length) (cs.map fun c => Value.int (Int32.ofNat c)) (.int 0)) (Ad : Arv Z h0 d kdd .byte (Int32.ofNat cs.length) [] (.int 0)) :
    Con Z a0 l (⟨"java/lang/StringUTF16", "compress", "([CI[BII)I"⟩ : MethodName) jdk_52_method_21_code 7 (some .int) ({ frames := 0, cells := 0, slots := 0, locals := 0 } : Room) [] #[(.ref va), (.int (0 : Int32)), (.ref d), (.int (0 : Int32)), (.int (Int32.ofNat cs.length))] consts_1 h0 n0 [d] [d] (VV fun w h so => ∃ j, w = .int (Int32.ofNat j) ∧ ((j = cs.length ∧ (∀ c ∈ cs, c < 256) ∧ Arv Z h d kdd .byte (Int32.ofNat cs.length) (encS 0 cs) (.int 0)) ∨ (j < cs.length ∧ 256 ≤ cs.getD j 0)) ∧ so = []) := by
  refine Con.body (plainFor_of_name pn_java_lang_StringUTF16) hEW o1 (allS ge_d all0) #[.val (.ref va), .val (.int (0 : Int32)), .val (.ref d), .val (.int (0 : Int32)), .val (.int (Int32.ofNat cs.length)), .unset, .unset] (fun m => by first | (simp [entryFrame, mkF, argsToLocals, Value.category]; done) | rfl) ?_
  intro p e s m below meth c B hnm hret hlk G
  have hn : cs.length < 2147483648 := by omega
  have loop : ∀ (k : Nat) (h : Heap) (i : Nat) (sl : Slot), (sl = .unset ∨ ∃ cc : Int32, sl = .val (.int cc)) → i + k = cs.length → (∀ c ∈ cs.take i, c < 256) → Arv Z h va kv .char (Int32.ofNat cs.length) (cs.map fun c => Value.int (Int32.ofNat c)) (.int 0) → Arv Z h d kdd .byte (Int32.ofNat cs.length) (encS 0 (cs.take i)) (.int 0) → Wl Z a0 "java/lang/StringUTF16" p l e ({ frames := 0, cells := 0, slots := 0, locals := 0 } : Room) s m #[(.ref va), (.int (0 : Int32)), (.ref d), (.int (0 : Int32)), (.int (Int32.ofNat cs.length))] below meth c jdk_52_method_21_code 7 B consts_1 h0 n0 [d] [d] h 0 0 3 #[.val (.ref va), .val (.int (Int32.ofNat i)), .val (.ref d), .val (.int (Int32.ofNat i)), .val (.int (Int32.ofNat cs.length)), .val (.int (Int32.ofNat i)), sl] [] → Fin Z consts_1 p e below B s h0 n0 [d] ({ frames := 0, cells := 0, slots := 0, locals := 0 } : Room).cells ({ frames := 0, cells := 0, slots := 0, locals := 0 } : Room).slots (VV fun w h so => ∃ j, w = .int (Int32.ofNat j) ∧ ((j = cs.length ∧ (∀ c ∈ cs, c < 256) ∧ Arv Z h d kdd .byte (Int32.ofNat cs.length) (encS 0 cs) (.int 0)) ∨ (j < cs.length ∧ 256 ≤ cs.getD j 0)) ∧ so = []) := by
    intro k; induction k with
    | zero =>
      intro h i sl hsl hik hall Av Ad G
      obtain rfl : i = cs.length := by omega
      replace G := G.iload 5 d20_3 rfl rfl |>.iload 7 d20_5 rfl rfl |>.icmpT 44 d20_7 (XT.ii_ge_t (ofn_nlt (Nat.le_refl _) hn)) (by decide) (by decide) |>.iload 46 d20_44 rfl rfl
      rw [List.take_length] at Ad hall
      exact G.retI hret hlk d20_46 [] all0 ⟨_, rfl, cs.length, rfl, Or.inl ⟨rfl, hall, Ad⟩, rfl⟩ (nle rfl) (nle rfl)
    | succ k ih =>
      intro h i sl hsl hik hall Av Ad G
      have hi : i < cs.length := by omega
      have hci := hc _ (getD_memN cs i hi)
      replace G := G.iload 5 d20_3 rfl rfl |>.iload 7 d20_5 rfl rfl |>.icmpF 10 d20_7 (XT.ii_ge_f (ofn_lt hi hn)) rfl |>.aloadN 11 d20_10 rfl rfl rfl |>.iloadN 12 d20_11 rfl rfl |>.caload 13 (v := (.int (Int32.ofNat (cs.getD i 0)))) Av ⟨ofn_nn (by omega), ofn_lt hi hn⟩ (by rw [ofn_nat (by omega)]; exact getD_mapN cs i hi) d20_12 rfl |>.istore 15 #[.val (.ref va), .val (.int (Int32.ofNat i)), .val (.ref d), .val (.int (Int32.ofNat i)), .val (.int (Int32.ofNat cs.length)), .val (.int (Int32.ofNat i)), .val (.int (Int32.ofNat (cs.getD i 0)))] d20_13 (by rcases hsl with rfl | ⟨cc, rfl⟩ <;> rfl) rfl |>.iload 17 d20_15 rfl rfl
      replace G := G.sipush 20 (255 : Int32) d20_17 (by decide) rfl
      rcases Nat.lt_or_ge (cs.getD i 0) 256 with hx | hx
      · skip
        replace G := G.icmpT 26 d20_20 (XT.ii_le_t (c255 hx)) (by decide) (by decide) |>.aloadN 27 d20_26 rfl rfl rfl |>.iloadN 28 d20_27 rfl rfl |>.iload 30 d20_28 rfl rfl |>.i2b 31 d20_30 rfl
        have hti : (encS 0 (cs.take i)).length = i := by rw [encS_len0, List.length_take]; omega
        have Ad' := Ad.pad (vs' := encS 0 (cs.take i) ++ [(.int 0)]) (pad_rep _ (.int 0) 1)
        obtain ⟨h2, G', As, Ks⟩ := G.bastore 32 i Ad' ⟨ofn_nn (by omega), ofn_lt hi hn⟩ (ofn_nat (by omega)) (by rw [List.length_append, hti]; simp) (Or.inl (mm 0 rfl)) (mm 0 rfl) d20_31 rfl
        replace G := G'; clear G'
        rw [set_app _ _ _ _ hti, byt2] at As
        replace As : Arv Z h2 d kdd .byte (Int32.ofNat cs.length) (encS 0 (cs.take (i + 1))) (.int 0) := by rw [tk_succN cs i hi, encS_app]; exact As
        replace Av := Av.keep Ks (ninS nvd nin0)
        have hall' : ∀ c ∈ cs.take (i + 1), c < 256 := by rw [tk_succN cs i hi]; intro c hc'; rcases List.mem_append.mp hc' with q | q; exact hall c q; cases List.mem_singleton.mp q; exact hx
        replace G := G.iincV 35 #[.val (.ref va), .val (.int (Int32.ofNat (i + 1))), .val (.ref d), .val (.int (Int32.ofNat i)), .val (.int (Int32.ofNat cs.length)), .val (.int (Int32.ofNat i)), .val (.int (Int32.ofNat (cs.getD i 0)))] (Int32.ofNat (i + 1)) d20_32 rfl (ofn_succ i) rfl rfl |>.iincV 38 #[.val (.ref va), .val (.int (Int32.ofNat (i + 1))), .val (.ref d), .val (.int (Int32.ofNat (i + 1))), .val (.int (Int32.ofNat cs.length)), .val (.int (Int32.ofNat i)), .val (.int (Int32.ofNat (cs.getD i 0)))] (Int32.ofNat (i + 1)) d20_35 rfl (ofn_succ i) rfl rfl |>.iincV 41 #[.val (.ref va), .val (.int (Int32.ofNat (i + 1))), .val (.ref d), .val (.int (Int32.ofNat (i + 1))), .val (.int (Int32.ofNat cs.length)), .val (.int (Int32.ofNat (i + 1))), .val (.int (Int32.ofNat (cs.getD i 0)))] (Int32.ofNat (i + 1)) d20_38 rfl (ofn_succ i) rfl rfl |>.goto 3 d20_41 (by decide) (by decide)
        exact ih _ (i + 1) _ (Or.inr ⟨_, rfl⟩) (by omega) hall' Av As G
      · skip
        replace G := G.icmpF 23 d20_20 (XT.ii_le_f (ofn_lt (i := 255) hx (by omega))) rfl |>.iload 25 d20_23 rfl rfl
        exact G.retI hret hlk d20_25 [] all0 ⟨_, rfl, i, rfl, Or.inr ⟨hi, hx⟩, rfl⟩ (nle rfl) (nle rfl)
  replace G := G.iconst 1 (0 : Int32) d20_0 rfl rfl |>.istore 3 #[.val (.ref va), .val (.int (0 : Int32)), .val (.ref d), .val (.int (0 : Int32)), .val (.int (Int32.ofNat cs.length)), .val (.int (0 : Int32)), .unset] d20_1 rfl rfl
  exact loop cs.length _ 0 _ (Or.inl rfl) (by omega) (fun c q => nomatch q) Av Ad G
theorem d19_0 : decode jdk_52_method_16_code 0 = .ok (.iload_n 2, 1) := by decide +kernel
theorem d19_1 : decode jdk_52_method_16_code 1 = .ok (.newarray .byte, 2) := by decide +kernel
theorem d19_3 : decode jdk_52_method_16_code 3 = .ok (.astore_n 3, 1) := by decide +kernel
theorem d19_4 : decode jdk_52_method_16_code 4 = .ok (.aload_n 0, 1) := by decide +kernel
theorem d19_5 : decode jdk_52_method_16_code 5 = .ok (.iload_n 1, 1) := by decide +kernel
theorem d19_6 : decode jdk_52_method_16_code 6 = .ok (.aload_n 3, 1) := by decide +kernel
theorem d19_7 : decode jdk_52_method_16_code 7 = .ok (.iconst 0, 1) := by decide +kernel
theorem d19_8 : decode jdk_52_method_16_code 8 = .ok (.iload_n 2, 1) := by decide +kernel
theorem d19_9 : decode jdk_52_method_16_code 9 = .ok (.invokestatic 115, 3) := by decide +kernel
theorem d19_12 : decode jdk_52_method_16_code 12 = .ok (.istore 4, 2) := by decide +kernel
theorem d19_14 : decode jdk_52_method_16_code 14 = .ok (.iload 4, 2) := by decide +kernel
theorem d19_16 : decode jdk_52_method_16_code 16 = .ok (.iload_n 2, 1) := by decide +kernel
theorem d19_17 : decode jdk_52_method_16_code 17 = .ok (.if_icmp .eq 40, 3) := by decide +kernel
theorem d19_20 : decode jdk_52_method_16_code 20 = .ok (.aload_n 0, 1) := by decide +kernel
theorem d19_21 : decode jdk_52_method_16_code 21 = .ok (.iload_n 1, 1) := by decide +kernel
theorem d19_22 : decode jdk_52_method_16_code 22 = .ok (.iload_n 2, 1) := by decide +kernel
theorem d19_23 : decode jdk_52_method_16_code 23 = .ok (.invokestatic 119, 3) := by decide +kernel
theorem d19_26 : decode jdk_52_method_16_code 26 = .ok (.astore 5, 2) := by decide +kernel
theorem d19_28 : decode jdk_52_method_16_code 28 = .ok (.aload 5, 2) := by decide +kernel
theorem d19_30 : decode jdk_52_method_16_code 30 = .ok (.iload 4, 2) := by decide +kernel
theorem d19_32 : decode jdk_52_method_16_code 32 = .ok (.invokestatic 71, 3) := by decide +kernel
theorem d19_35 : decode jdk_52_method_16_code 35 = .ok (.sipush 255, 3) := by decide +kernel
theorem d19_38 : decode jdk_52_method_16_code 38 = .ok (.if_icmp .gt 16, 3) := by decide +kernel
theorem d19_41 : decode jdk_52_method_16_code 41 = .ok (.aload 5, 2) := by decide +kernel
theorem d19_43 : decode jdk_52_method_16_code 43 = .ok (.iconst 0, 1) := by decide +kernel
theorem d19_44 : decode jdk_52_method_16_code 44 = .ok (.aload_n 3, 1) := by decide +kernel
theorem d19_45 : decode jdk_52_method_16_code 45 = .ok (.iconst 0, 1) := by decide +kernel
theorem d19_46 : decode jdk_52_method_16_code 46 = .ok (.iload_n 2, 1) := by decide +kernel
theorem d19_47 : decode jdk_52_method_16_code 47 = .ok (.invokestatic 123, 3) := by decide +kernel
theorem d19_50 : decode jdk_52_method_16_code 50 = .ok (.iload_n 2, 1) := by decide +kernel
theorem d19_51 : decode jdk_52_method_16_code 51 = .ok (.if_icmp .eq 6, 3) := by decide +kernel
theorem d19_54 : decode jdk_52_method_16_code 54 = .ok (.aload 5, 2) := by decide +kernel
theorem d19_56 : decode jdk_52_method_16_code 56 = .ok (.areturn, 1) := by decide +kernel
theorem d19_57 : decode jdk_52_method_16_code 57 = .ok (.aload_n 3, 1) := by decide +kernel
theorem d19_58 : decode jdk_52_method_16_code 58 = .ok (.areturn, 1) := by decide +kernel
theorem c_cmpK (l : Launch) (Z : State) (a0 : Array Value) (hw : ∀ d ∈ tables_1, d.before a0 Z = true) (hEW : EW Z a0 consts_1) (n0 : Nat) (c1 : Int32) (hc1 : ¬ c1 = 0) (S1 : Sta Z Z.heap "java/lang/String" "COMPACT_STRINGS" "Z" (.int c1)) (v2 : Value) (hv2 : v2.isRef = true) (S2 : Sta Z Z.heap "jdk/internal/util/Preconditions" "SIOOBE_FORMATTER" "Ljava/util/function/BiFunction;" v2) (S3 : Sta Z Z.heap "java/lang/StringUTF16" "$assertionsDisabled" "Z" (.int 1)) (S4 : Sta Z Z.heap "java/lang/StringUTF16" "HI_BYTE_SHIFT" "I" (.int 0)) (S5 : Sta Z Z.heap "java/lang/StringUTF16" "LO_BYTE_SHIFT" "I" (.int 8)) (va : Addr) (kv : ClassId) (cs : List Nat) {h0 : Heap} (o1 : Old Z n0 h0) (hmax : cs.length ≤ 8) (hc : ∀ c ∈ cs, c < 65536) (Av : Arv Z h0 va kv .char (Int32.ofNat cs.length) (cs.map fun c => Value.int (Int32.ofNat c)) (.int 0)) :
    Con Z a0 l (⟨"java/lang/StringUTF16", "compress", "([CII)[B"⟩ : MethodName) jdk_52_method_16_code 6 (some (.array .byte)) ({ frames := 3, cells := 2, slots := 60, locals := 40 } : Room) [] #[(.ref va), (.int (0 : Int32)), (.int (Int32.ofNat cs.length))] consts_1 h0 n0 [] [] (VV fun w h so => ∃ d, w = .ref d ∧ (∃ kb, Arv Z h d kb .byte (Int32.ofNat (cs.length * 2 ^ kd cs)) (encS (kd cs) cs) (.int 0)) ∧ h0.size ≤ d ∧ so = [d]) := by
  refine Con.body (plainFor_of_name pn_java_lang_StringUTF16) hEW o1 all0 #[.val (.ref va), .val (.int (0 : Int32)), .val (.int (Int32.ofNat cs.length)), .unset, .unset, .unset] (fun m => by first | (simp [entryFrame, mkF, argsToLocals, Value.category]; done) | rfl) ?_
  intro p e s m below meth c B hnm hret hlk G
  have hn : cs.length < 2147483648 := by omega
  replace G := G.iloadN 1 d19_0 rfl rfl
  obtain ⟨d, h1, kd, G', gd, sd, Ed, Ad⟩ := G.newarray 3 (hw _ (mm 20 rfl)) d19_1 (ofn_nn hn) 8 (by rw [ofn_nat hn]; exact hmax) (by decide) rfl (nle rfl) (nle rfl)
  replace G := G'; clear G'
  have nvd : va ≠ d := ne_new gd Av.lt
  replace Av := Av.ext Ed
  replace G := G.astoreN 4 #[.val (.ref va), .val (.int (0 : Int32)), .val (.int (Int32.ofNat cs.length)), .val (.ref d), .unset, .unset] d19_3 rfl rfl rfl |>.aloadN 5 d19_4 rfl rfl rfl |>.iloadN 6 d19_5 rfl rfl |>.aloadN 7 d19_6 rfl rfl rfl |>.iconst 8 (0 : Int32) d19_7 rfl rfl |>.iloadN 9 d19_8 rfl rfl
  obtain ⟨vc, h2, soc, G', Kc, Qc⟩ := G.callS 12 (hw _ (mm 114 rfl)) (hw _ (mm 115 rfl)) (hw _ (mm 112 rfl)) (hw _ (mm 116 rfl)) (by decide) [(.ref va), (.int (0 : Int32)), (.ref d), (.int (0 : Int32)), (.int (Int32.ofNat cs.length))] [] rfl (c_cmpN l Z a0 hw hEW n0 c1 hc1 S1 v2 hv2 S2 S3 S4 S5 va d kv kd cs G.old (G.nw (Or.inr sd)) hmax hc nvd Av Ad) (lenOf pd___CI_BII_I rfl) d19_9 rfl (nle rfl) (nle rfl) (nle rfl) (nle rfl) (allS (Or.inr sd) all0) (allS (mm 0 rfl) all0) (allS (mm 0 rfl) all0) rfl
  replace G := G'; clear G'
  obtain ⟨wc, qc, j, rfl, hj, rfl⟩ := Qc
  replace G := G.val qc
  replace Av := Av.keep Kc (ninS nvd nin0)
  replace G := G.istore 14 #[.val (.ref va), .val (.int (0 : Int32)), .val (.int (Int32.ofNat cs.length)), .val (.ref d), .val (.int (Int32.ofNat j)), .unset] d19_12 rfl rfl |>.iload 16 d19_14 rfl rfl |>.iloadN 17 d19_16 rfl rfl
  rcases hj with hj | hj
  · skip
    obtain ⟨rfl, hall, Ae⟩ := hj
    replace G := G.icmpT 57 d19_17 (XT.ii_eq_t rfl) (by decide) (by decide) |>.aloadN 58 d19_57 rfl rfl rfl
    exact G.retA hret rfl rfl hlk d19_58 [d] (allS (mm 0 rfl) all0) ⟨_, rfl, d, rfl, ⟨_, by rw [kd_of hall, Nat.pow_zero, Nat.mul_one]; exact Ae⟩, sd, rfl⟩ (nle rfl) (nle rfl)
  · skip
    obtain ⟨hj, hx⟩ := hj
    replace G := G.icmpF 20 d19_17 (XT.ii_eq_f (ofn_ne (by omega) (by omega) hn)) rfl |>.aloadN 21 d19_20 rfl rfl rfl |>.iloadN 22 d19_21 rfl rfl |>.iloadN 23 d19_22 rfl rfl
    have sz := G.sz
    obtain ⟨vt, h3, sot, G', Kt, Qt⟩ := G.callS 26 (hw _ (mm 219 rfl)) (hw _ (mm 220 rfl)) (hw _ (mm 112 rfl)) (hw _ (mm 221 rfl)) (by decide) [(.ref va), (.int (0 : Int32)), (.int (Int32.ofNat cs.length))] [] rfl (c_toBy l Z a0 hw hEW n0 c1 hc1 S1 v2 hv2 S2 S3 S4 S5 va kv cs G.old (by omega) hc Av) (lenOf pd___CII__B rfl) d19_23 rfl (nle rfl) (nle rfl) (nle rfl) (nle rfl) all0 all0 all0 rfl
    replace G := G'; clear G'
    obtain ⟨wt, qt, e1, rfl, ⟨ke, Ae⟩, se, rfl⟩ := Qt
    replace G := G.val qt |>.astore 28 #[.val (.ref va), .val (.int (0 : Int32)), .val (.int (Int32.ofNat cs.length)), .val (.ref d), .val (.int (Int32.ofNat j)), .val (.ref e1)] d19_26 rfl rfl rfl |>.aload 30 d19_28 rfl rfl rfl |>.iload 32 d19_30 rfl rfl
    obtain ⟨vg, h_g, sog, G', Kg, Qg⟩ := G.callS 35 (hw _ (mm 235 rfl)) (hw _ (mm 236 rfl)) (hw _ (mm 112 rfl)) (hw _ (mm 237 rfl)) (by decide) [(.ref e1), (.int (Int32.ofNat j))] [] rfl (c_getCh l Z a0 hw hEW n0 c1 hc1 S1 v2 hv2 S2 S3 S4 S5 e1 ke cs.length j cs G.old (hc _ (getD_memN cs j hj)) hj (Nat.le_refl _) (by omega) Ae) (lenOf pd___BI_C rfl) d19_32 rfl (nle rfl) (nle rfl) (nle rfl) (nle rfl) all0 all0 all0 rfl
    replace G := G'; clear G'
    obtain ⟨wg, qg, rfl, eg, rfl⟩ := Qg
    replace G := G.val qg
    subst eg
    replace G := G.sipush 38 (255 : Int32) d19_35 (by decide) rfl
    have hcj := hc _ (getD_memN cs j hj)
    replace G := G.icmpT 54 d19_38 (XT.ii_gt_t (ofn_lt (i := 255) hx (by omega))) (by decide) (by decide) |>.aload 56 d19_54 rfl rfl rfl
    exact G.retA hret rfl rfl hlk d19_56 [e1] (allS (mm 0 rfl) all0) ⟨_, rfl, e1, rfl, ⟨_, by rw [kd1_of hj hx, Nat.pow_one]; exact Ae⟩, Nat.le_trans sz se, rfl⟩ (nle rfl) (nle rfl)
theorem d21_0 : decode jdk_52_method_15_code 0 = .ok (.iload_n 1, 1) := by decide +kernel
theorem d21_1 : decode jdk_52_method_15_code 1 = .ok (.aload_n 0, 1) := by decide +kernel
theorem d21_2 : decode jdk_52_method_15_code 2 = .ok (.arraylength, 1) := by decide +kernel
theorem d21_3 : decode jdk_52_method_15_code 3 = .ok (.isub, 1) := by decide +kernel
theorem d21_4 : decode jdk_52_method_15_code 4 = .ok (.bipush 31, 2) := by decide +kernel
theorem d21_6 : decode jdk_52_method_15_code 6 = .ok (.iushr, 1) := by decide +kernel
theorem d21_7 : decode jdk_52_method_15_code 7 = .ok (.i2b, 1) := by decide +kernel
theorem d21_8 : decode jdk_52_method_15_code 8 = .ok (.ireturn, 1) := by decide +kernel
theorem c_codK (l : Launch) (Z : State) (a0 : Array Value) (hw : ∀ d ∈ tables_1, d.before a0 Z = true) (hEW : EW Z a0 consts_1) (n0 : Nat) (c1 : Int32) (hc1 : ¬ c1 = 0) (S1 : Sta Z Z.heap "java/lang/String" "COMPACT_STRINGS" "Z" (.int c1)) (v2 : Value) (hv2 : v2.isRef = true) (S2 : Sta Z Z.heap "jdk/internal/util/Preconditions" "SIOOBE_FORMATTER" "Ljava/util/function/BiFunction;" v2) (S3 : Sta Z Z.heap "java/lang/StringUTF16" "$assertionsDisabled" "Z" (.int 1)) (S4 : Sta Z Z.heap "java/lang/StringUTF16" "HI_BYTE_SHIFT" "I" (.int 0)) (S5 : Sta Z Z.heap "java/lang/StringUTF16" "LO_BYTE_SHIFT" "I" (.int 8)) (b : Addr) (kb : ClassId) (n k : Nat) (vs : List Value) {h0 : Heap} (o1 : Old Z n0 h0) (hk : k = 0 ∨ k = 1) (h1 : 0 < n) (h2 : n < 1073741824) (Ab : Arv Z h0 b kb .byte (Int32.ofNat (n * 2 ^ k)) vs (.int 0)) :
    Con Z a0 l (⟨"java/lang/StringUTF16", "coderFromArrayLen", "([BI)B"⟩ : MethodName) jdk_52_method_15_code 2 (some .byte) ({ frames := 0, cells := 0, slots := 0, locals := 0 } : Room) [] #[(.ref b), (.int (Int32.ofNat n))] consts_1 h0 n0 [] [] (VV fun w h so => w = .int (Int32.ofNat k) ∧ h = h0 ∧ so = []) := by
  refine Con.body (plainFor_of_name pn_java_lang_StringUTF16) hEW o1 all0 #[.val (.ref b), .val (.int (Int32.ofNat n))] (fun m => by first | (simp [entryFrame, mkF, argsToLocals, Value.category]; done) | rfl) ?_
  intro p e s m below meth c B hnm hret hlk G
  replace G := G.iloadN 1 d21_0 rfl rfl |>.aloadN 2 d21_1 rfl rfl rfl |>.alen 3 Ab d21_2 rfl |>.isub 4 d21_3 rfl |>.bipush 6 (31 : Int32) d21_4 (by decide) rfl |>.iushr 7 d21_6 rfl |>.i2b 8 d21_7 rfl |>.top (y := (.int (Int32.ofNat k))) (congrArg Value.int (codK hk h1 h2))
  exact G.retN hret (Or.inr (Or.inl rfl)) hlk d21_8 [] all0 ⟨_, rfl, congrArg Value.int (ofk8 hk), rfl, rfl⟩ (nle rfl) (nle rfl)
theorem d3_0 : decode jdk_42_method_149_code 0 = .ok (.aload_n 0, 1) := by decide +kernel
theorem d3_1 : decode jdk_42_method_149_code 1 = .ok (.invokespecial 1, 3) := by decide +kernel
theorem d3_4 : decode jdk_42_method_149_code 4 = .ok (.iload_n 3, 1) := by decide +kernel
theorem d3_5 : decode jdk_42_method_149_code 5 = .ok (.ifCond .ne 22, 3) := by decide +kernel
theorem d3_8 : decode jdk_42_method_149_code 8 = .ok (.aload_n 0, 1) := by decide +kernel
theorem d3_9 : decode jdk_42_method_149_code 9 = .ok (.ldc 7, 2) := by decide +kernel
theorem d3_11 : decode jdk_42_method_149_code 11 = .ok (.getfield 9, 3) := by decide +kernel
theorem d3_14 : decode jdk_42_method_149_code 14 = .ok (.putfield 9, 3) := by decide +kernel
theorem d3_17 : decode jdk_42_method_149_code 17 = .ok (.aload_n 0, 1) := by decide +kernel
theorem d3_18 : decode jdk_42_method_149_code 18 = .ok (.ldc 7, 2) := by decide +kernel
theorem d3_20 : decode jdk_42_method_149_code 20 = .ok (.getfield 15, 3) := by decide +kernel
theorem d3_23 : decode jdk_42_method_149_code 23 = .ok (.putfield 15, 3) := by decide +kernel
theorem d3_26 : decode jdk_42_method_149_code 26 = .ok (.return_, 1) := by decide +kernel
theorem d3_27 : decode jdk_42_method_149_code 27 = .ok (.getstatic 38, 3) := by decide +kernel
theorem d3_30 : decode jdk_42_method_149_code 30 = .ok (.ifCond .eq 28, 3) := by decide +kernel
theorem d3_33 : decode jdk_42_method_149_code 33 = .ok (.aload_n 1, 1) := by decide +kernel
theorem d3_34 : decode jdk_42_method_149_code 34 = .ok (.iload_n 2, 1) := by decide +kernel
theorem d3_35 : decode jdk_42_method_149_code 35 = .ok (.iload_n 3, 1) := by decide +kernel
theorem d3_36 : decode jdk_42_method_149_code 36 = .ok (.invokestatic 177, 3) := by decide +kernel
theorem d3_39 : decode jdk_42_method_149_code 39 = .ok (.astore 5, 2) := by decide +kernel
theorem d3_41 : decode jdk_42_method_149_code 41 = .ok (.aload_n 0, 1) := by decide +kernel
theorem d3_42 : decode jdk_42_method_149_code 42 = .ok (.aload 5, 2) := by decide +kernel
theorem d3_44 : decode jdk_42_method_149_code 44 = .ok (.iload_n 3, 1) := by decide +kernel
theorem d3_45 : decode jdk_42_method_149_code 45 = .ok (.invokestatic 47, 3) := by decide +kernel
theorem d3_48 : decode jdk_42_method_149_code 48 = .ok (.putfield 15, 3) := by decide +kernel
theorem d3_51 : decode jdk_42_method_149_code 51 = .ok (.aload_n 0, 1) := by decide +kernel
theorem d3_52 : decode jdk_42_method_149_code 52 = .ok (.aload 5, 2) := by decide +kernel
theorem d3_54 : decode jdk_42_method_149_code 54 = .ok (.putfield 9, 3) := by decide +kernel
theorem d3_57 : decode jdk_42_method_149_code 57 = .ok (.return_, 1) := by decide +kernel
theorem d3_58 : decode jdk_42_method_149_code 58 = .ok (.aload_n 0, 1) := by decide +kernel
theorem d3_59 : decode jdk_42_method_149_code 59 = .ok (.iconst 1, 1) := by decide +kernel
theorem d3_60 : decode jdk_42_method_149_code 60 = .ok (.putfield 15, 3) := by decide +kernel
theorem d3_63 : decode jdk_42_method_149_code 63 = .ok (.aload_n 0, 1) := by decide +kernel
theorem d3_64 : decode jdk_42_method_149_code 64 = .ok (.aload_n 1, 1) := by decide +kernel
theorem d3_65 : decode jdk_42_method_149_code 65 = .ok (.iload_n 2, 1) := by decide +kernel
theorem d3_66 : decode jdk_42_method_149_code 66 = .ok (.iload_n 3, 1) := by decide +kernel
theorem d3_67 : decode jdk_42_method_149_code 67 = .ok (.invokestatic 180, 3) := by decide +kernel
theorem d3_70 : decode jdk_42_method_149_code 70 = .ok (.putfield 9, 3) := by decide +kernel
theorem d3_73 : decode jdk_42_method_149_code 73 = .ok (.return_, 1) := by decide +kernel
theorem c_strVK (l : Launch) (Z : State) (a0 : Array Value) (hw : ∀ d ∈ tables_1, d.before a0 Z = true) (hEW : EW Z a0 consts_1) (n0 : Nat) (c1 : Int32) (hc1 : ¬ c1 = 0) (S1 : Sta Z Z.heap "java/lang/String" "COMPACT_STRINGS" "Z" (.int c1)) (v2 : Value) (hv2 : v2.isRef = true) (S2 : Sta Z Z.heap "jdk/internal/util/Preconditions" "SIOOBE_FORMATTER" "Ljava/util/function/BiFunction;" v2) (S3 : Sta Z Z.heap "java/lang/StringUTF16" "$assertionsDisabled" "Z" (.int 1)) (S4 : Sta Z Z.heap "java/lang/StringUTF16" "HI_BYTE_SHIFT" "I" (.int 0)) (S5 : Sta Z Z.heap "java/lang/StringUTF16" "LO_BYTE_SHIFT" "I" (.int 8)) (a va : Addr) (kv : ClassId) (cs : List Nat) {h0 : Heap} (o1 : Old Z n0 h0) (ge_a : n0 ≤ a) (Xa : Exa Z h0 a "java/lang/String") (Fv : Fld Z h0 a "java/lang/String" "value" "[B" .null) (Fc : Fld Z h0 a "java/lang/String" "coder" "B" (.int 0)) (hmax : cs.length ≤ 8) (hc : ∀ c ∈ cs, c < 65536) (Av : Arv Z h0 va kv .char (Int32.ofNat cs.length) (cs.map fun c => Value.int (Int32.ofNat c)) (.int 0)) :
    Con Z a0 l (⟨"java/lang/String", "<init>", "([CIILjava/lang/Void;)V"⟩ : MethodName) jdk_42_method_149_code 6 (none) ({ frames := 4, cells := 4, slots := 60, locals := 57 } : Room) [] #[(.ref a), (.ref va), (.int (0 : Int32)), (.int (Int32.ofNat cs.length)), .null] consts_1 h0 n0 [a] [a] (V0 fun h so => ∃ b, StrK Z h a b (kd cs) cs ∧ b ≠ a ∧ so = []) := by
  refine Con.body (plainFor_of_name pn_java_lang_String) hEW o1 (allS ge_a all0) #[.val (.ref a), .val (.ref va), .val (.int (0 : Int32)), .val (.int (Int32.ofNat cs.length)), .val .null, .unset] (fun m => by first | (simp [entryFrame, mkF, argsToLocals, Value.category]; done) | rfl) ?_
  intro p e s m below meth c B hnm hret hlk G
  have hn : cs.length < 2147483648 := by omega
  replace G := G.aloadN 1 d3_0 rfl rfl rfl |>.initO 4 (hw _ (mm 16 rfl)) (hw _ (mm 17 rfl)) (hw _ (mm 18 rfl)) d3_1 rfl (nle rfl) (nle rfl) rfl |>.iloadN 5 d3_4 rfl rfl
  rcases Nat.eq_zero_or_pos cs.length with h0' | h0'
  · skip
    obtain rfl : cs = [] := List.length_eq_zero_iff.mp h0'
    replace G := G.ifF 8 d3_5 (XT.i0_ne_f rfl) rfl |>.aloadN 9 d3_8 rfl rfl rfl
    obtain ⟨l1, l2, h1, kkx1, G', Ex1, Xx1, Fcx1, Fvx1, Ax1, nex1⟩ := G.ldcS 11 (hw _ (mm 19 rfl)) (wS_of hw) (mm 2 rfl) (vs := []) (z := (0 : Int32)) (by decide) (by decide) rfl d3_9 0 (by decide) (by decide) (nle rfl) (nle rfl) rfl
    replace G := G'; clear G'
    replace Xa := Xa.ext Ex1; replace Fv := Fv.ext Ex1; replace Fc := Fc.ext Ex1; have n1 := (nex1 a (mm 0 rfl)).2
    replace G := G.getf 14 (host := "") (Or.inl (hw _ (mm 25 rfl))) Via.refl Fvx1 d3_11 rfl
    obtain ⟨h2, G', Wv', Fv', Kv'⟩ := G.putf 17 (host := "") (Or.inl (hw _ (mm 25 rfl))) Via.refl Fv Xa (Or.inr ⟨(hw _ (mm 21 rfl)), rfl, hnm⟩) (hw _ (mm 7 rfl)) (ty := (.array .byte)) (by decide) rfl rfl (Or.inl (mm 0 rfl)) (mm 0 rfl) d3_14 rfl
    replace G := G'; clear G'
    replace Fc := Fc.other Wv' (Or.inr (slot_ne (Or.inr (hw _ (mm 22 rfl))) (Or.inr (hw _ (mm 21 rfl))) (by decide) (t := .byte) (t' := (.array .byte)) (by decide) (by decide))); replace Xa := Xa.wr Wv'; replace Ax1 := Ax1.keep Kv' (ninS n1.symm nin0)
    replace G := G.aloadN 18 d3_17 rfl rfl rfl
    obtain ⟨l3, l4, h3, kkx2, G', Ex2, Xx2, Fcx2, Fvx2, Ax2, nex2⟩ := G.ldcS 20 (hw _ (mm 19 rfl)) (wS_of hw) (mm 2 rfl) (vs := []) (z := (0 : Int32)) (by decide) (by decide) rfl d3_18 0 (by decide) (by decide) (nle rfl) (nle rfl) rfl
    replace G := G'; clear G'
    replace Xa := Xa.ext Ex2; replace Fv' := Fv'.ext Ex2; replace Fc := Fc.ext Ex2; replace Ax1 := Ax1.ext Ex2
    replace G := G.getf 23 (host := "") (Or.inl (hw _ (mm 26 rfl))) Via.refl Fcx2 d3_20 rfl
    obtain ⟨h4, G', Wc', Fc', Kc'⟩ := G.putf 26 (host := "") (Or.inl (hw _ (mm 26 rfl))) Via.refl Fc Xa (Or.inr ⟨(hw _ (mm 22 rfl)), rfl, hnm⟩) (hw _ (mm 7 rfl)) (ty := .byte) (by decide) rfl rfl (Or.inl (mm 0 rfl)) (mm 0 rfl) d3_23 rfl
    replace G := G'; clear G'
    replace Fv' := Fv'.other Wc' (Or.inr (slot_ne (Or.inr (hw _ (mm 21 rfl))) (Or.inr (hw _ (mm 22 rfl))) (by decide) (t := (.array .byte)) (t' := .byte) (by decide) (by decide))); replace Xa := Xa.wr Wc'; replace Ax1 := Ax1.keep Kc' (ninS n1.symm nin0)
    exact G.retV hret hlk d3_26 [] all0 ⟨rfl, l2, ⟨Xa, Fc', Fv', _, Ax1⟩, n1.symm, rfl⟩ (nle rfl) (nle rfl)
  · skip
    replace G := G.ifT 27 d3_5 (XT.i0_ne_t (ofn_ne (n := 0) (by omega) hn (by decide))) (by decide) (by decide) |>.gets 30 (host := "") (Or.inl (hw _ (mm 44 rfl))) Via.refl (G.sta S1) d3_27 rfl |>.ifF 33 d3_30 (XT.i0_eq_f hc1) rfl |>.aloadN 34 d3_33 rfl rfl rfl |>.iloadN 35 d3_34 rfl rfl |>.iloadN 36 d3_35 rfl rfl
    obtain ⟨vc, h1, soc, G', Kc, Qc⟩ := G.callS 39 (hw _ (mm 110 rfl)) (hw _ (mm 111 rfl)) (hw _ (mm 112 rfl)) (hw _ (mm 113 rfl)) (by decide) [(.ref va), (.int (0 : Int32)), (.int (Int32.ofNat cs.length))] [] rfl (c_cmpK l Z a0 hw hEW n0 c1 hc1 S1 v2 hv2 S2 S3 S4 S5 va kv cs G.old (by omega) hc Av) (lenOf pd___CII__B rfl) d3_36 rfl (nle rfl) (nle rfl) (nle rfl) (nle rfl) all0 all0 all0 rfl
    replace G := G'; clear G'
    obtain ⟨wc, qc, b, rfl, ⟨kb, Ab⟩, sb, rfl⟩ := Qc
    replace G := G.val qc
    have nba : b ≠ a := ne_ge Xa.lt sb
    replace Xa := Xa.keep Kc; replace Fv := Fv.keep Kc nin0; replace Fc := Fc.keep Kc nin0
    replace G := G.astore 41 #[.val (.ref a), .val (.ref va), .val (.int (0 : Int32)), .val (.int (Int32.ofNat cs.length)), .val .null, .val (.ref b)] d3_39 rfl rfl rfl |>.aloadN 42 d3_41 rfl rfl rfl |>.aload 44 d3_42 rfl rfl rfl |>.iloadN 45 d3_44 rfl rfl
    obtain ⟨vd, h_d, sod, G', Kd, Qd⟩ := G.callS 48 (hw _ (mm 117 rfl)) (hw _ (mm 118 rfl)) (hw _ (mm 112 rfl)) (hw _ (mm 119 rfl)) (by decide) [(.ref b), (.int (Int32.ofNat cs.length))] [(.ref a)] rfl (c_codK l Z a0 hw hEW n0 c1 hc1 S1 v2 hv2 S2 S3 S4 S5 b kb cs.length (kd cs) (encS (kd cs) cs) G.old (kd01 cs) (by omega) (by omega) Ab) (lenOf pd___BI_B rfl) d3_45 rfl (nle rfl) (nle rfl) (nle rfl) (nle rfl) all0 all0 all0 rfl
    replace G := G'; clear G'
    obtain ⟨wd, qd, rfl, ed, rfl⟩ := Qd
    replace G := G.val qd
    subst ed
    obtain ⟨h2, G', Wc2, Fc2, Kc2⟩ := G.putf 51 (host := "") (Or.inl (hw _ (mm 26 rfl))) Via.refl Fc Xa (Or.inr ⟨(hw _ (mm 22 rfl)), rfl, hnm⟩) (hw _ (mm 7 rfl)) (ty := .byte) (by decide) (congrArg Value.int (ofk8 (kd01 cs))) (by rcases kd01 cs with e | e <;> rw [e] <;> rfl) (Or.inl (mm 0 rfl)) (mm 1 rfl) d3_48 rfl
    replace G := G'; clear G'
    replace Fv := Fv.other Wc2 (Or.inr (slot_ne (Or.inr (hw _ (mm 21 rfl))) (Or.inr (hw _ (mm 22 rfl))) (by decide) (t := (.array .byte)) (t' := .byte) (by decide) (by decide))); replace Xa := Xa.wr Wc2; replace Ab := Ab.keep Kc2 (ninS nba nin0)
    replace G := G.aloadN 52 d3_51 rfl rfl rfl |>.aload 54 d3_52 rfl rfl rfl
    obtain ⟨h3, G', Wv2', Fv2', Kv2'⟩ := G.putf 57 (host := "") (Or.inl (hw _ (mm 25 rfl))) Via.refl Fv Xa (Or.inr ⟨(hw _ (mm 21 rfl)), rfl, hnm⟩) (hw _ (mm 7 rfl)) (ty := (.array .byte)) (by decide) rfl rfl (Or.inl (mm 0 rfl)) (mm 1 rfl) d3_54 rfl
    replace G := G'; clear G'
    replace Fc2 := Fc2.other Wv2' (Or.inr (slot_ne (Or.inr (hw _ (mm 22 rfl))) (Or.inr (hw _ (mm 21 rfl))) (by decide) (t := .byte) (t' := (.array .byte)) (by decide) (by decide))); replace Xa := Xa.wr Wv2'; replace Ab := Ab.keep Kv2' (ninS nba nin0)
    exact G.retV hret hlk d3_57 [] all0 ⟨rfl, b, ⟨Xa, Fc2, Fv2', kb, Ab⟩, nba, rfl⟩ (nle rfl) (nle rfl)
theorem d2_0 : decode jdk_42_method_3_code 0 = .ok (.aload_n 0, 1) := by decide +kernel
theorem d2_1 : decode jdk_42_method_3_code 1 = .ok (.aload_n 1, 1) := by decide +kernel
theorem d2_2 : decode jdk_42_method_3_code 2 = .ok (.iconst 0, 1) := by decide +kernel
theorem d2_3 : decode jdk_42_method_3_code 3 = .ok (.aload_n 1, 1) := by decide +kernel
theorem d2_4 : decode jdk_42_method_3_code 4 = .ok (.arraylength, 1) := by decide +kernel
theorem d2_5 : decode jdk_42_method_3_code 5 = .ok (.aconst_null, 1) := by decide +kernel
theorem d2_6 : decode jdk_42_method_3_code 6 = .ok (.invokespecial 27, 3) := by decide +kernel
theorem d2_9 : decode jdk_42_method_3_code 9 = .ok (.return_, 1) := by decide +kernel
theorem c_strK (l : Launch) (Z : State) (a0 : Array Value) (hw : ∀ d ∈ tables_1, d.before a0 Z = true) (hEW : EW Z a0 consts_1) (n0 : Nat) (c1 : Int32) (hc1 : ¬ c1 = 0) (S1 : Sta Z Z.heap "java/lang/String" "COMPACT_STRINGS" "Z" (.int c1)) (v2 : Value) (hv2 : v2.isRef = true) (S2 : Sta Z Z.heap "jdk/internal/util/Preconditions" "SIOOBE_FORMATTER" "Ljava/util/function/BiFunction;" v2) (S3 : Sta Z Z.heap "java/lang/StringUTF16" "$assertionsDisabled" "Z" (.int 1)) (S4 : Sta Z Z.heap "java/lang/StringUTF16" "HI_BYTE_SHIFT" "I" (.int 0)) (S5 : Sta Z Z.heap "java/lang/StringUTF16" "LO_BYTE_SHIFT" "I" (.int 8)) (a va : Addr) (kv : ClassId) (cs : List Nat) {h0 : Heap} (o1 : Old Z n0 h0) (ge_a : n0 ≤ a) (Xa : Exa Z h0 a "java/lang/String") (Fv : Fld Z h0 a "java/lang/String" "value" "[B" .null) (Fc : Fld Z h0 a "java/lang/String" "coder" "B" (.int 0)) (hmax : cs.length ≤ 8) (hc : ∀ c ∈ cs, c < 65536) (Av : Arv Z h0 va kv .char (Int32.ofNat cs.length) (cs.map fun c => Value.int (Int32.ofNat c)) (.int 0)) :
    Con Z a0 l (⟨"java/lang/String", "<init>", "([C)V"⟩ : MethodName) jdk_42_method_3_code 2 (none) ({ frames := 5, cells := 4, slots := 60, locals := 74 } : Room) [] #[(.ref a), (.ref va)] consts_1 h0 n0 [a] [a] (V0 fun h so => ∃ b, StrK Z h a b (kd cs) cs ∧ b ≠ a ∧ so = []) := by
  refine Con.body (plainFor_of_name pn_java_lang_String) hEW o1 (allS ge_a all0) #[.val (.ref a), .val (.ref va)] (fun m => by first | (simp [entryFrame, mkF, argsToLocals, Value.category]; done) | rfl) ?_
  intro p e s m below meth c B hnm hret hlk G
  replace G := G.aloadN 1 d2_0 rfl rfl rfl |>.aloadN 2 d2_1 rfl rfl rfl |>.iconst 3 (0 : Int32) d2_2 rfl rfl |>.aloadN 4 d2_3 rfl rfl rfl |>.alen 5 Av d2_4 rfl |>.aconstNull 6 d2_5 rfl
  obtain ⟨vc, h1, soc, G', Kc, Qc⟩ := G.callI 9 rfl rfl (hw _ (mm 12 rfl)) (hw _ (mm 13 rfl)) (hw _ (mm 8 rfl)) (hw _ (mm 15 rfl)) (by decide) [(.ref va), (.int (0 : Int32)), (.int (Int32.ofNat cs.length)), .null] [] rfl (c_strVK l Z a0 hw hEW n0 c1 hc1 S1 v2 hv2 S2 S3 S4 S5 a va kv cs G.old ge_a Xa Fv Fc hmax hc Av) (lenOf pd___CIILjava_lang_Void__V rfl) d2_6 rfl (nle rfl) (nle rfl) (nle rfl) (nle rfl) (allS (Or.inl (mm 0 rfl)) all0) (allS (mm 0 rfl) all0) (allS (mm 0 rfl) all0) rfl
  replace G := G'; clear G'
  obtain ⟨qc, b, hT, nb, rfl⟩ := Qc
  replace G := G.nov qc
  exact G.retV hret hlk d2_9 [] all0 ⟨rfl, b, hT, nb, rfl⟩ (nle rfl) (nle rfl)
theorem d7_0 : decode jdk_42_method_152_code 0 = .ok (.getstatic 38, 3) := by decide +kernel
theorem d7_3 : decode jdk_42_method_152_code 3 = .ok (.ifCond .eq 10, 3) := by decide +kernel
theorem d7_6 : decode jdk_42_method_152_code 6 = .ok (.aload_n 0, 1) := by decide +kernel
theorem d7_7 : decode jdk_42_method_152_code 7 = .ok (.getfield 15, 3) := by decide +kernel
theorem d7_10 : decode jdk_42_method_152_code 10 = .ok (.goto 4, 3) := by decide +kernel
theorem d7_13 : decode jdk_42_method_152_code 13 = .ok (.iconst 1, 1) := by decide +kernel
theorem d7_14 : decode jdk_42_method_152_code 14 = .ok (.ireturn, 1) := by decide +kernel
theorem c_coderK (l : Launch) (Z : State) (a0 : Array Value) (hw : ∀ d ∈ tables_1, d.before a0 Z = true) (hEW : EW Z a0 consts_1) (n0 : Nat) (c1 : Int32) (hc1 : ¬ c1 = 0) (S1 : Sta Z Z.heap "java/lang/String" "COMPACT_STRINGS" "Z" (.int c1)) (v2 : Value) (hv2 : v2.isRef = true) (S2 : Sta Z Z.heap "jdk/internal/util/Preconditions" "SIOOBE_FORMATTER" "Ljava/util/function/BiFunction;" v2) (S3 : Sta Z Z.heap "java/lang/StringUTF16" "$assertionsDisabled" "Z" (.int 1)) (S4 : Sta Z Z.heap "java/lang/StringUTF16" "HI_BYTE_SHIFT" "I" (.int 0)) (S5 : Sta Z Z.heap "java/lang/StringUTF16" "LO_BYTE_SHIFT" "I" (.int 8)) (a : Addr) (k : Nat) {h0 : Heap} (o1 : Old Z n0 h0) (hk : k = 0 ∨ k = 1) (Fc : Fld Z h0 a "java/lang/String" "coder" "B" (.int (Int32.ofNat k))) :
    Con Z a0 l (⟨"java/lang/String", "coder", "()B"⟩ : MethodName) jdk_42_method_152_code 1 (some .byte) ({ frames := 0, cells := 0, slots := 0, locals := 0 } : Room) [] #[(.ref a)] consts_1 h0 n0 [] [] (VV fun w h so => w = .int (Int32.ofNat k) ∧ h = h0 ∧ so = []) := by
  refine Con.body (plainFor_of_name pn_java_lang_String) hEW o1 all0 #[.val (.ref a)] (fun m => by first | (simp [entryFrame, mkF, argsToLocals, Value.category]; done) | rfl) ?_
  intro p e s m below meth c B hnm hret hlk G
  replace G := G.gets 3 (host := "") (Or.inl (hw _ (mm 44 rfl))) Via.refl (G.sta S1) d7_0 rfl |>.ifF 6 d7_3 (XT.i0_eq_f hc1) rfl |>.aloadN 7 d7_6 rfl rfl rfl |>.getf 10 (host := "") (Or.inl (hw _ (mm 26 rfl))) Via.refl Fc d7_7 rfl |>.goto 14 d7_10 (by decide) (by decide)
  exact G.retN hret (Or.inr (Or.inl rfl)) hlk d7_14 [] all0 ⟨_, rfl, congrArg Value.int (ofk8 hk), rfl, rfl⟩ (nle rfl) (nle rfl)
theorem d6_0 : decode jdk_42_method_54_code 0 = .ok (.aload_n 0, 1) := by decide +kernel
theorem d6_1 : decode jdk_42_method_54_code 1 = .ok (.getfield 9, 3) := by decide +kernel
theorem d6_4 : decode jdk_42_method_54_code 4 = .ok (.arraylength, 1) := by decide +kernel
theorem d6_5 : decode jdk_42_method_54_code 5 = .ok (.aload_n 0, 1) := by decide +kernel
theorem d6_6 : decode jdk_42_method_54_code 6 = .ok (.invokevirtual 335, 3) := by decide +kernel
theorem d6_9 : decode jdk_42_method_54_code 9 = .ok (.ishr, 1) := by decide +kernel
theorem d6_10 : decode jdk_42_method_54_code 10 = .ok (.ireturn, 1) := by decide +kernel
theorem c_lengthK (l : Launch) (Z : State) (a0 : Array Value) (hw : ∀ d ∈ tables_1, d.before a0 Z = true) (hEW : EW Z a0 consts_1) (n0 : Nat) (c1 : Int32) (hc1 : ¬ c1 = 0) (S1 : Sta Z Z.heap "java/lang/String" "COMPACT_STRINGS" "Z" (.int c1)) (v2 : Value) (hv2 : v2.isRef = true) (S2 : Sta Z Z.heap "jdk/internal/util/Preconditions" "SIOOBE_FORMATTER" "Ljava/util/function/BiFunction;" v2) (S3 : Sta Z Z.heap "java/lang/StringUTF16" "$assertionsDisabled" "Z" (.int 1)) (S4 : Sta Z Z.heap "java/lang/StringUTF16" "HI_BYTE_SHIFT" "I" (.int 0)) (S5 : Sta Z Z.heap "java/lang/StringUTF16" "LO_BYTE_SHIFT" "I" (.int 8)) (a b : Addr) (k : Nat) (cs : List Nat) {h0 : Heap} (o1 : Old Z n0 h0) (hk : k = 0 ∨ k = 1) (hn : cs.length < 1073741824) (hS : StrK Z h0 a b k cs) :
    Con Z a0 l (⟨"java/lang/String", "length", "()I"⟩ : MethodName) jdk_42_method_54_code 1 (some .int) ({ frames := 1, cells := 0, slots := 0, locals := 13 } : Room) [] #[(.ref a)] consts_1 h0 n0 [] [] (VV fun w h so => w = .int (Int32.ofNat cs.length) ∧ h = h0 ∧ so = []) := by
  refine Con.body (plainFor_of_name pn_java_lang_String) hEW o1 all0 #[.val (.ref a)] (fun m => by first | (simp [entryFrame, mkF, argsToLocals, Value.category]; done) | rfl) ?_
  intro p e s m below meth c B hnm hret hlk G
  obtain ⟨Xa, Fc, Fv, kb, Ab⟩ := hS
  replace G := G.aloadN 1 d6_0 rfl rfl rfl |>.getf 4 (host := "") (Or.inl (hw _ (mm 25 rfl))) Via.refl Fv d6_1 rfl |>.alen 5 Ab d6_4 rfl |>.aloadN 6 d6_5 rfl rfl rfl
  obtain ⟨vc, h_c, soc, G', Kc, Qc⟩ := G.callV 9 (hw _ (mm 39 rfl)) (hw _ (mm 40 rfl)) (nfSel (hw _ (mm 42 rfl))) (hw _ (mm 42 rfl)) (hw _ (mm 41 rfl)) (hw _ (mm 8 rfl)) (hw _ (mm 43 rfl)) Xa (by decide) [] [(.int (Int32.ofNat (cs.length * 2 ^ k)))] rfl (c_coderK l Z a0 hw hEW n0 c1 hc1 S1 v2 hv2 S2 S3 S4 S5 a k G.old hk Fc) (lenOf pd___B rfl) d6_6 rfl (nle rfl) (nle rfl) (nle rfl) (nle rfl) all0 all0 all0 rfl
  replace G := G'; clear G'
  obtain ⟨wc, qc, rfl, ec, rfl⟩ := Qc
  replace G := G.val qc
  subst ec
  replace G := G.ishr 10 d6_9 rfl |>.top (y := (.int (Int32.ofNat cs.length))) (congrArg Value.int (shrK hk hn))
  exact G.retI hret hlk d6_10 [] all0 ⟨_, rfl, rfl, rfl, rfl⟩ (nle rfl) (nle rfl)
theorem d57_0 : decode jdk_41_method_13_code 0 = .ok (.iload_n 2, 1) := by decide +kernel
theorem d57_1 : decode jdk_41_method_13_code 1 = .ok (.iload_n 0, 1) := by decide +kernel
theorem d57_2 : decode jdk_41_method_13_code 2 = .ok (.ior, 1) := by decide +kernel
theorem d57_3 : decode jdk_41_method_13_code 3 = .ok (.iload_n 1, 1) := by decide +kernel
theorem d57_4 : decode jdk_41_method_13_code 4 = .ok (.ior, 1) := by decide +kernel
theorem d57_5 : decode jdk_41_method_13_code 5 = .ok (.ifCond .lt 10, 3) := by decide +kernel
theorem d57_8 : decode jdk_41_method_13_code 8 = .ok (.iload_n 1, 1) := by decide +kernel
theorem d57_9 : decode jdk_41_method_13_code 9 = .ok (.iload_n 2, 1) := by decide +kernel
theorem d57_10 : decode jdk_41_method_13_code 10 = .ok (.iload_n 0, 1) := by decide +kernel
theorem d57_11 : decode jdk_41_method_13_code 11 = .ok (.isub, 1) := by decide +kernel
theorem d57_12 : decode jdk_41_method_13_code 12 = .ok (.if_icmp .le 11, 3) := by decide +kernel
theorem d57_15 : decode jdk_41_method_13_code 15 = .ok (.aload_n 3, 1) := by decide +kernel
theorem d57_16 : decode jdk_41_method_13_code 16 = .ok (.iload_n 0, 1) := by decide +kernel
theorem d57_17 : decode jdk_41_method_13_code 17 = .ok (.iload_n 1, 1) := by decide +kernel
theorem d57_18 : decode jdk_41_method_13_code 18 = .ok (.iload_n 2, 1) := by decide +kernel
theorem d57_19 : decode jdk_41_method_13_code 19 = .ok (.invokestatic 103, 3) := by decide +kernel
theorem d57_22 : decode jdk_41_method_13_code 22 = .ok (.athrow, 1) := by decide +kernel
theorem d57_23 : decode jdk_41_method_13_code 23 = .ok (.iload_n 0, 1) := by decide +kernel
theorem d57_24 : decode jdk_41_method_13_code 24 = .ok (.ireturn, 1) := by decide +kernel
theorem c_cfis (l : Launch) (Z : State) (a0 : Array Value) (hw : ∀ d ∈ tables_1, d.before a0 Z = true) (hEW : EW Z a0 consts_1) (n0 : Nat) (c1 : Int32) (hc1 : ¬ c1 = 0) (S1 : Sta Z Z.heap "java/lang/String" "COMPACT_STRINGS" "Z" (.int c1)) (v2 : Value) (hv2 : v2.isRef = true) (S2 : Sta Z Z.heap "jdk/internal/util/Preconditions" "SIOOBE_FORMATTER" "Ljava/util/function/BiFunction;" v2) (S3 : Sta Z Z.heap "java/lang/StringUTF16" "$assertionsDisabled" "Z" (.int 1)) (S4 : Sta Z Z.heap "java/lang/StringUTF16" "HI_BYTE_SHIFT" "I" (.int 0)) (S5 : Sta Z Z.heap "java/lang/StringUTF16" "LO_BYTE_SHIFT" "I" (.int 8)) (o z n : Nat) {h0 : Heap} (o1 : Old Z n0 h0) (h1 : o + z ≤ n) (h2 : n < 1073741824) :
    Con Z a0 l (⟨"jdk/internal/util/Preconditions", "checkFromIndexSize", "(IIILjava/util/function/BiFunction;)I"⟩ : MethodName) jdk_41_method_13_code 4 (some .int) ({ frames := 0, cells := 0, slots := 0, locals := 0 } : Room) [] #[(.int (Int32.ofNat o)), (.int (Int32.ofNat z)), (.int (Int32.ofNat n)), v2] consts_1 h0 n0 [] [] (VV fun w h so => w = .int (Int32.ofNat o) ∧ h = h0 ∧ so = []) := by
  refine Con.body (plainFor_of_name pn_jdk_internal_util_Preconditions) hEW o1 all0 #[.val (.int (Int32.ofNat o)), .val (.int (Int32.ofNat z)), .val (.int (Int32.ofNat n)), .val v2] (fun m => by rcases XT.refc hv2 with rfl | ⟨r, rfl⟩ <;> rfl) ?_
  intro p e s m below meth c B hnm hret hlk G
  replace G := G.iloadN 1 d57_0 rfl rfl |>.iloadN 2 d57_1 rfl rfl |>.ior 3 d57_2 rfl |>.iloadN 4 d57_3 rfl rfl |>.ior 5 d57_4 rfl |>.ifF 8 d57_5 (XT.i0_lt_f (or_nn (or_nn (ofn_nn (by omega)) (ofn_nn (by omega))) (ofn_nn (by omega)))) rfl |>.iloadN 9 d57_8 rfl rfl |>.iloadN 10 d57_9 rfl rfl
  replace G := G.iloadN 11 d57_10 rfl rfl |>.isub 12 d57_11 rfl
  have es := ofn_sub (a := n) (b := o) (by omega) (by omega)
  replace G := G.icmpT 23 d57_12 (XT.ii_le_t (by rw [es]; exact ofn_nlt (by omega) (by omega))) (by decide) (by decide) |>.iloadN 24 d57_23 rfl rfl
  exact G.retI hret hlk d57_24 [] all0 ⟨_, rfl, rfl, rfl, rfl⟩ (nle rfl) (nle rfl)
theorem d56_0 : decode jdk_42_method_157_code 0 = .ok (.iload_n 0, 1) := by decide +kernel
theorem d56_1 : decode jdk_42_method_157_code 1 = .ok (.iload_n 1, 1) := by decide +kernel
theorem d56_2 : decode jdk_42_method_157_code 2 = .ok (.iload_n 2, 1) := by decide +kernel
theorem d56_3 : decode jdk_42_method_157_code 3 = .ok (.getstatic 1053, 3) := by decide +kernel
theorem d56_6 : decode jdk_42_method_157_code 6 = .ok (.invokestatic 1065, 3) := by decide +kernel
theorem d56_9 : decode jdk_42_method_157_code 9 = .ok (.ireturn, 1) := by decide +kernel
theorem c_scbo (l : Launch) (Z : State) (a0 : Array Value) (hw : ∀ d ∈ tables_1, d.before a0 Z = true) (hEW : EW Z a0 consts_1) (n0 : Nat) (c1 : Int32) (hc1 : ¬ c1 = 0) (S1 : Sta Z Z.heap "java/lang/String" "COMPACT_STRINGS" "Z" (.int c1)) (v2 : Value) (hv2 : v2.isRef = true) (S2 : Sta Z Z.heap "jdk/internal/util/Preconditions" "SIOOBE_FORMATTER" "Ljava/util/function/BiFunction;" v2) (S3 : Sta Z Z.heap "java/lang/StringUTF16" "$assertionsDisabled" "Z" (.int 1)) (S4 : Sta Z Z.heap "java/lang/StringUTF16" "HI_BYTE_SHIFT" "I" (.int 0)) (S5 : Sta Z Z.heap "java/lang/StringUTF16" "LO_BYTE_SHIFT" "I" (.int 8)) (o z n : Nat) {h0 : Heap} (o1 : Old Z n0 h0) (h1 : o + z ≤ n) (h2 : n < 1073741824) :
    Con Z a0 l (⟨"java/lang/String", "checkBoundsOffCount", "(III)I"⟩ : MethodName) jdk_42_method_157_code 3 (some .int) ({ frames := 1, cells := 0, slots := 0, locals := 15 } : Room) [] #[(.int (Int32.ofNat o)), (.int (Int32.ofNat z)), (.int (Int32.ofNat n))] consts_1 h0 n0 [] [] (VV fun w h so => w = .int (Int32.ofNat o) ∧ h = h0 ∧ so = []) := by
  refine Con.body (plainFor_of_name pn_java_lang_String) hEW o1 all0 #[.val (.int (Int32.ofNat o)), .val (.int (Int32.ofNat z)), .val (.int (Int32.ofNat n))] (fun m => by first | (simp [entryFrame, mkF, argsToLocals, Value.category]; done) | rfl) ?_
  intro p e s m below meth c B hnm hret hlk G
  replace G := G.iloadN 1 d56_0 rfl rfl |>.iloadN 2 d56_1 rfl rfl |>.iloadN 3 d56_2 rfl rfl |>.gets 6 (host := "") (Or.inl (hw _ (mm 137 rfl))) Via.refl (G.sta S2) d56_3 rfl
  obtain ⟨vp, h_p, sop, G', Kp, Qp⟩ := G.callS 9 (hw _ (mm 266 rfl)) (hw _ (mm 267 rfl)) (hw _ (mm 138 rfl)) (hw _ (mm 268 rfl)) (by decide) [(.int (Int32.ofNat o)), (.int (Int32.ofNat z)), (.int (Int32.ofNat n)), v2] [] rfl (c_cfis l Z a0 hw hEW n0 c1 hc1 S1 v2 hv2 S2 S3 S4 S5 o z n G.old h1 h2) (lenOf pd__IIILjava_util_function_BiFunction__I rfl) d56_6 rfl (nle rfl) (nle rfl) (nle rfl) (nle rfl) all0 all0 all0 rfl
  replace G := G'; clear G'
  obtain ⟨wp, qp, rfl, ep, rfl⟩ := Qp
  replace G := G.val qp
  subst ep
  exact G.retI hret hlk d56_9 [] all0 ⟨_, rfl, rfl, rfl, rfl⟩ (nle rfl) (nle rfl)
theorem d55_0 : decode jdk_52_method_94_code 0 = .ok (.iload_n 0, 1) := by decide +kernel
theorem d55_1 : decode jdk_52_method_94_code 1 = .ok (.iload_n 1, 1) := by decide +kernel
theorem d55_2 : decode jdk_52_method_94_code 2 = .ok (.aload_n 2, 1) := by decide +kernel
theorem d55_3 : decode jdk_52_method_94_code 3 = .ok (.invokestatic 48, 3) := by decide +kernel
theorem d55_6 : decode jdk_52_method_94_code 6 = .ok (.invokestatic 419, 3) := by decide +kernel
theorem d55_9 : decode jdk_52_method_94_code 9 = .ok (.pop, 1) := by decide +kernel
theorem d55_10 : decode jdk_52_method_94_code 10 = .ok (.return_, 1) := by decide +kernel
theorem c_ucbo (l : Launch) (Z : State) (a0 : Array Value) (hw : ∀ d ∈ tables_1, d.before a0 Z = true) (hEW : EW Z a0 consts_1) (n0 : Nat) (c1 : Int32) (hc1 : ¬ c1 = 0) (S1 : Sta Z Z.heap "java/lang/String" "COMPACT_STRINGS" "Z" (.int c1)) (v2 : Value) (hv2 : v2.isRef = true) (S2 : Sta Z Z.heap "jdk/internal/util/Preconditions" "SIOOBE_FORMATTER" "Ljava/util/function/BiFunction;" v2) (S3 : Sta Z Z.heap "java/lang/StringUTF16" "$assertionsDisabled" "Z" (.int 1)) (S4 : Sta Z Z.heap "java/lang/StringUTF16" "HI_BYTE_SHIFT" "I" (.int 0)) (S5 : Sta Z Z.heap "java/lang/StringUTF16" "LO_BYTE_SHIFT" "I" (.int 8)) (b : Addr) (kb : ClassId) (o z n : Nat) (vs : List Value) {h0 : Heap} (o1 : Old Z n0 h0) (h1 : o + z ≤ n) (h2 : n < 1073741824) (Ab : Arv Z h0 b kb .byte (Int32.ofNat (n * 2)) vs (.int 0)) :
    Con Z a0 l (⟨"java/lang/StringUTF16", "checkBoundsOffCount", "(II[B)V"⟩ : MethodName) jdk_52_method_94_code 3 (none) ({ frames := 2, cells := 0, slots := 0, locals := 29 } : Room) [] #[(.int (Int32.ofNat o)), (.int (Int32.ofNat z)), (.ref b)] consts_1 h0 n0 [] [] (V0 fun h so => h = h0 ∧ so = []) := by
  refine Con.body (plainFor_of_name pn_java_lang_StringUTF16) hEW o1 all0 #[.val (.int (Int32.ofNat o)), .val (.int (Int32.ofNat z)), .val (.ref b)] (fun m => by first | (simp [entryFrame, mkF, argsToLocals, Value.category]; done) | rfl) ?_
  intro p e s m below meth c B hnm hret hlk G
  replace G := G.iloadN 1 d55_0 rfl rfl |>.iloadN 2 d55_1 rfl rfl |>.aloadN 3 d55_2 rfl rfl rfl
  obtain ⟨vl, h_l, sol, G', Kl, Ql⟩ := G.callS 6 (hw _ (mm 244 rfl)) (hw _ (mm 245 rfl)) (hw _ (mm 112 rfl)) (hw _ (mm 246 rfl)) (by decide) [(.ref b)] [(.int (Int32.ofNat z)), (.int (Int32.ofNat o))] rfl (c_ulen l Z a0 hw hEW n0 c1 hc1 S1 v2 hv2 S2 S3 S4 S5 b kb n vs G.old h2 Ab) (lenOf pd___B_I rfl) d55_3 rfl (nle rfl) (nle rfl) (nle rfl) (nle rfl) all0 all0 all0 rfl
  replace G := G'; clear G'
  obtain ⟨wl, ql, rfl, el, rfl⟩ := Ql
  replace G := G.val ql
  subst el
  obtain ⟨vp, h_p, sop, G', Kp, Qp⟩ := G.callS 9 (hw _ (mm 263 rfl)) (hw _ (mm 264 rfl)) (hw _ (mm 8 rfl)) (hw _ (mm 265 rfl)) (by decide) [(.int (Int32.ofNat o)), (.int (Int32.ofNat z)), (.int (Int32.ofNat n))] [] rfl (c_scbo l Z a0 hw hEW n0 c1 hc1 S1 v2 hv2 S2 S3 S4 S5 o z n G.old h1 h2) (lenOf pd__III_I rfl) d55_6 rfl (nle rfl) (nle rfl) (nle rfl) (nle rfl) all0 all0 all0 rfl
  replace G := G'; clear G'
  obtain ⟨wp, qp, rfl, ep, rfl⟩ := Qp
  replace G := G.val qp
  subst ep
  replace G := G.pop 10 d55_9 rfl rfl
  exact G.retV hret hlk d55_10 [] all0 ⟨rfl, rfl, rfl⟩ (nle rfl) (nle rfl)
theorem d54_0 : decode jdk_52_method_86_code 0 = .ok (.iload_n 3, 1) := by decide +kernel
theorem d54_1 : decode jdk_52_method_86_code 1 = .ok (.iload 4, 2) := by decide +kernel
theorem d54_3 : decode jdk_52_method_86_code 3 = .ok (.aload_n 2, 1) := by decide +kernel
theorem d54_4 : decode jdk_52_method_86_code 4 = .ok (.invokestatic 173, 3) := by decide +kernel
theorem d54_7 : decode jdk_52_method_86_code 7 = .ok (.iconst 0, 1) := by decide +kernel
theorem d54_8 : decode jdk_52_method_86_code 8 = .ok (.istore 5, 2) := by decide +kernel
theorem d54_10 : decode jdk_52_method_86_code 10 = .ok (.iload 5, 2) := by decide +kernel
theorem d54_12 : decode jdk_52_method_86_code 12 = .ok (.iload 4, 2) := by decide +kernel
theorem d54_14 : decode jdk_52_method_86_code 14 = .ok (.if_icmp .ge 27, 3) := by decide +kernel
theorem d54_17 : decode jdk_52_method_86_code 17 = .ok (.aload_n 2, 1) := by decide +kernel
theorem d54_18 : decode jdk_52_method_86_code 18 = .ok (.iload_n 3, 1) := by decide +kernel
theorem d54_19 : decode jdk_52_method_86_code 19 = .ok (.iinc 3 1, 3) := by decide +kernel
theorem d54_22 : decode jdk_52_method_86_code 22 = .ok (.aload_n 0, 1) := by decide +kernel
theorem d54_23 : decode jdk_52_method_86_code 23 = .ok (.iload_n 1, 1) := by decide +kernel
theorem d54_24 : decode jdk_52_method_86_code 24 = .ok (.iinc 1 1, 3) := by decide +kernel
theorem d54_27 : decode jdk_52_method_86_code 27 = .ok (.baload, 1) := by decide +kernel
theorem d54_28 : decode jdk_52_method_86_code 28 = .ok (.sipush 255, 3) := by decide +kernel
theorem d54_31 : decode jdk_52_method_86_code 31 = .ok (.iand, 1) := by decide +kernel
theorem d54_32 : decode jdk_52_method_86_code 32 = .ok (.invokestatic 111, 3) := by decide +kernel
theorem d54_35 : decode jdk_52_method_86_code 35 = .ok (.iinc 5 1, 3) := by decide +kernel
theorem d54_38 : decode jdk_52_method_86_code 38 = .ok (.goto (-28), 3) := by decide +kernel
theorem d54_41 : decode jdk_52_method_86_code 41 = .ok (.return_, 1) := by decide +kernel
theorem c_uInfl (l : Launch) (Z : State) (a0 : Array Value) (hw : ∀ d ∈ tables_1, d.before a0 Z = true) (hEW : EW Z a0 consts_1) (n0 : Nat) (c1 : Int32) (hc1 : ¬ c1 = 0) (S1 : Sta Z Z.heap "java/lang/String" "COMPACT_STRINGS" "Z" (.int c1)) (v2 : Value) (hv2 : v2.isRef = true) (S2 : Sta Z Z.heap "jdk/internal/util/Preconditions" "SIOOBE_FORMATTER" "Ljava/util/function/BiFunction;" v2) (S3 : Sta Z Z.heap "java/lang/StringUTF16" "$assertionsDisabled" "Z" (.int 1)) (S4 : Sta Z Z.heap "java/lang/StringUTF16" "HI_BYTE_SHIFT" "I" (.int 0)) (S5 : Sta Z Z.heap "java/lang/StringUTF16" "LO_BYTE_SHIFT" "I" (.int 8)) (b d : Addr) (kb kdd : ClassId) (zn n : Nat) (cs0 cs1 : List Nat) {h0 : Heap} (o1 : Old Z n0 h0) (ge_d : n0 ≤ d) (hn : n < 1073741824) (hz : zn < 1073741824) (hle : cs0.length + cs1.length ≤ n) (hl1 : cs1.length ≤ zn) (hc : ∀ c ∈ cs1, c < 256) (nbd : b ≠ d) (Ab : Arv Z h0 b kb .byte (Int32.ofNat zn) (encS 0 cs1) (.int 0)) (Ad : Arv Z h0 d kdd .byte (Int32.ofNat (n * 2)) (encS 1 cs0) (.int 0)) :
    Con Z a0 l (⟨"java/lang/StringUTF16", "inflate", "([BI[BII)V"⟩ : MethodName) jdk_52_method_86_code 6 (none) ({ frames := 3, cells := 0, slots := 0, locals := 43 } : Room) [] #[(.ref b), (.int (0 : Int32)), (.ref d), (.int (Int32.ofNat cs0.length)), (.int (Int32.ofNat cs1.length))] consts_1 h0 n0 [d] [d] (V0 fun h so => Arv Z h d kdd .byte (Int32.ofNat (n * 2)) (encS 1 (cs0 ++ cs1)) (.int 0) ∧ so = []) := by
  refine Con.body (plainFor_of_name pn_java_lang_StringUTF16) hEW o1 (allS ge_d all0) #[.val (.ref b), .val (.int (0 : Int32)), .val (.ref d), .val (.int (Int32.ofNat cs0.length)), .val (.int (Int32.ofNat cs1.length)), .unset] (fun m => by first | (simp [entryFrame, mkF, argsToLocals, Value.category]; done) | rfl) ?_
  intro p e s m below meth c B hnm hret hlk G
  replace G := G.iloadN 1 d54_0 rfl rfl |>.iload 3 d54_1 rfl rfl |>.aloadN 4 d54_3 rfl rfl rfl
  obtain ⟨vb', h_b, sob', G', Kb', Qb'⟩ := G.callS 7 (hw _ (mm 260 rfl)) (hw _ (mm 261 rfl)) (hw _ (mm 112 rfl)) (hw _ (mm 262 rfl)) (by decide) [(.int (Int32.ofNat cs0.length)), (.int (Int32.ofNat cs1.length)), (.ref d)] [] rfl (c_ucbo l Z a0 hw hEW n0 c1 hc1 S1 v2 hv2 S2 S3 S4 S5 d kdd cs0.length cs1.length n (encS 1 cs0) G.old hle hn Ad) (lenOf pd__II_B_V rfl) d54_4 rfl (nle rfl) (nle rfl) (nle rfl) (nle rfl) all0 all0 all0 rfl
  replace G := G'; clear G'
  obtain ⟨qb', eb, rfl⟩ := Qb'
  replace G := G.nov qb'
  subst eb
  replace G := G.iconst 8 (0 : Int32) d54_7 rfl rfl |>.istore 10 #[.val (.ref b), .val (.int (0 : Int32)), .val (.ref d), .val (.int (Int32.ofNat cs0.length)), .val (.int (Int32.ofNat cs1.length)), .val (.int (0 : Int32))] d54_8 rfl rfl
  have loop : ∀ (j : Nat) (h : Heap) (i : Nat), i + j = cs1.length → Arv Z h b kb .byte (Int32.ofNat zn) (encS 0 cs1) (.int 0) → Arv Z h d kdd .byte (Int32.ofNat (n * 2)) (encS 1 (cs0 ++ cs1.take i)) (.int 0) → Wl Z a0 "java/lang/StringUTF16" p l e ({ frames := 3, cells := 0, slots := 0, locals := 43 } : Room) s m #[(.ref b), (.int (0 : Int32)), (.ref d), (.int (Int32.ofNat cs0.length)), (.int (Int32.ofNat cs1.length))] below meth c jdk_52_method_86_code 6 B consts_1 h_b n0 [d] [d] h 0 0 10 #[.val (.ref b), .val (.int (Int32.ofNat i)), .val (.ref d), .val (.int (Int32.ofNat (cs0.length + i))), .val (.int (Int32.ofNat cs1.length)), .val (.int (Int32.ofNat i))] [] → Fin Z consts_1 p e below B s h_b n0 [d] ({ frames := 3, cells := 0, slots := 0, locals := 43 } : Room).cells ({ frames := 3, cells := 0, slots := 0, locals := 43 } : Room).slots (V0 fun h so => Arv Z h d kdd .byte (Int32.ofNat (n * 2)) (encS 1 (cs0 ++ cs1)) (.int 0) ∧ so = []) := by
    intro j; induction j with
    | zero =>
      intro h i hij Ab Ad G
      obtain rfl : i = cs1.length := by omega
      replace G := G.iload 12 d54_10 rfl rfl |>.iload 14 d54_12 rfl rfl |>.icmpT 41 d54_14 (XT.ii_ge_t (ofn_nlt (Nat.le_refl _) (by omega))) (by decide) (by decide)
      rw [List.take_length] at Ad
      exact G.retV hret hlk d54_41 [] all0 ⟨rfl, Ad, rfl⟩ (nle rfl) (nle rfl)
    | succ j ih =>
      intro h i hij Ab Ad G
      have hi : i < cs1.length := by omega
      have hci := hc _ (getD_memN cs1 i hi)
      have hti : (cs0 ++ cs1.take i).length = cs0.length + i := by rw [List.length_append, List.length_take]; omega
      replace G := G.iload 12 d54_10 rfl rfl |>.iload 14 d54_12 rfl rfl |>.icmpF 17 d54_14 (XT.ii_ge_f (ofn_lt hi (by omega))) rfl |>.aloadN 18 d54_17 rfl rfl rfl |>.iloadN 19 d54_18 rfl rfl |>.iincV 22 #[.val (.ref b), .val (.int (Int32.ofNat i)), .val (.ref d), .val (.int (Int32.ofNat (cs0.length + i + 1))), .val (.int (Int32.ofNat cs1.length)), .val (.int (Int32.ofNat i))] (Int32.ofNat (cs0.length + i + 1)) d54_19 rfl (ofn_succ _) rfl rfl |>.aloadN 23 d54_22 rfl rfl rfl |>.iloadN 24 d54_23 rfl rfl
      replace G := G.iincV 27 #[.val (.ref b), .val (.int (Int32.ofNat (i + 1))), .val (.ref d), .val (.int (Int32.ofNat (cs0.length + i + 1))), .val (.int (Int32.ofNat cs1.length)), .val (.int (Int32.ofNat i))] (Int32.ofNat (i + 1)) d54_24 rfl (ofn_succ _) rfl rfl |>.baload 28 (v := (.int (byt (cs1.getD i 0)))) Ab ⟨ofn_nn (by omega), ofn_lt (by omega) (by omega)⟩ (by rw [ofn_nat (by omega)]; exact encS0_at cs1 i hi) d54_27 rfl |>.sipush 31 (255 : Int32) d54_28 (by decide) rfl |>.iand 32 d54_31 rfl |>.top (y := (.int (Int32.ofNat (cs1.getD i 0)))) (congrArg Value.int ((byt_mask (by omega)).trans (by rw [Nat.mod_eq_of_lt hci]))) |>.cast (S' := [(.int (Int32.ofNat (cs1.getD i 0))), (.int (Int32.ofNat (cs0 ++ cs1.take i).length)), (.ref d)]) rfl (by rw [hti])
      obtain ⟨vp, h2, sop, G', Kp, Qp⟩ := G.callS 35 (hw _ (mm 229 rfl)) (hw _ (mm 230 rfl)) (hw _ (mm 112 rfl)) (hw _ (mm 231 rfl)) (by decide) [(.ref d), (.int (Int32.ofNat (cs0 ++ cs1.take i).length)), (.int (Int32.ofNat (cs1.getD i 0)))] [] rfl (c_putCh l Z a0 hw hEW n0 c1 hc1 S1 v2 hv2 S2 S3 S4 S5 d kdd n (cs1.getD i 0) (cs0 ++ cs1.take i) G.old (G.nw (Or.inl (mm 0 rfl))) (by omega) (by omega) hn Ad) (lenOf pd___BII_V rfl) d54_32 rfl (nle rfl) (nle rfl) (nle rfl) (nle rfl) (allS (Or.inl (mm 0 rfl)) all0) (allS (mm 0 rfl) all0) (allS (mm 0 rfl) all0) rfl
      replace G := G'; clear G'
      obtain ⟨qp, Ad, rfl⟩ := Qp
      replace G := G.nov qp
      replace Ab := Ab.keep Kp (ninS nbd nin0)
      rw [List.append_assoc, ← tk_succN cs1 i hi] at Ad
      replace G := G.iincV 38 #[.val (.ref b), .val (.int (Int32.ofNat (i + 1))), .val (.ref d), .val (.int (Int32.ofNat (cs0.length + i + 1))), .val (.int (Int32.ofNat cs1.length)), .val (.int (Int32.ofNat (i + 1)))] (Int32.ofNat (i + 1)) d54_35 rfl (ofn_succ _) rfl rfl |>.goto 10 d54_38 (by decide) (by decide)
      rw [Nat.add_assoc] at G
      exact ih _ (i + 1) (by omega) Ab Ad G
  rw [show cs0 = cs0 ++ cs1.take 0 from (List.append_nil _).symm] at Ad
  exact loop cs1.length _ 0 (by omega) Ab Ad G
theorem d53_0 : decode jdk_43_method_50_code 0 = .ok (.aload_n 0, 1) := by decide +kernel
theorem d53_1 : decode jdk_43_method_50_code 1 = .ok (.iload_n 1, 1) := by decide +kernel
theorem d53_2 : decode jdk_43_method_50_code 2 = .ok (.aload_n 2, 1) := by decide +kernel
theorem d53_3 : decode jdk_43_method_50_code 3 = .ok (.iload_n 3, 1) := by decide +kernel
theorem d53_4 : decode jdk_43_method_50_code 4 = .ok (.iload 4, 2) := by decide +kernel
theorem d53_6 : decode jdk_43_method_50_code 6 = .ok (.invokestatic 240, 3) := by decide +kernel
theorem d53_9 : decode jdk_43_method_50_code 9 = .ok (.return_, 1) := by decide +kernel
theorem c_lInfl (l : Launch) (Z : State) (a0 : Array Value) (hw : ∀ d ∈ tables_1, d.before a0 Z = true) (hEW : EW Z a0 consts_1) (n0 : Nat) (c1 : Int32) (hc1 : ¬ c1 = 0) (S1 : Sta Z Z.heap "java/lang/String" "COMPACT_STRINGS" "Z" (.int c1)) (v2 : Value) (hv2 : v2.isRef = true) (S2 : Sta Z Z.heap "jdk/internal/util/Preconditions" "SIOOBE_FORMATTER" "Ljava/util/function/BiFunction;" v2) (S3 : Sta Z Z.heap "java/lang/StringUTF16" "$assertionsDisabled" "Z" (.int 1)) (S4 : Sta Z Z.heap "java/lang/StringUTF16" "HI_BYTE_SHIFT" "I" (.int 0)) (S5 : Sta Z Z.heap "java/lang/StringUTF16" "LO_BYTE_SHIFT" "I" (.int 8)) (b d : Addr) (kb kdd : ClassId) (zn n : Nat) (cs0 cs1 : List Nat) {h0 : Heap} (o1 : Old Z n0 h0) (ge_d : n0 ≤ d) (hn : n < 1073741824) (hz : zn < 1073741824) (hle : cs0.length + cs1.length ≤ n) (hl1 : cs1.length ≤ zn) (hc : ∀ c ∈ cs1, c < 256) (nbd : b ≠ d) (Ab : Arv Z h0 b kb .byte (Int32.ofNat zn) (encS 0 cs1) (.int 0)) (Ad : Arv Z h0 d kdd .byte (Int32.ofNat (n * 2)) (encS 1 cs0) (.int 0)) :
    Con Z a0 l (⟨"java/lang/StringLatin1", "inflate", "([BI[BII)V"⟩ : MethodName) jdk_43_method_50_code 5 (none) ({ frames := 4, cells := 0, slots := 0, locals := 60 } : Room) [] #[(.ref b), (.int (0 : Int32)), (.ref d), (.int (Int32.ofNat cs0.length)), (.int (Int32.ofNat cs1.length))] consts_1 h0 n0 [d] [d] (V0 fun h so => Arv Z h d kdd .byte (Int32.ofNat (n * 2)) (encS 1 (cs0 ++ cs1)) (.int 0) ∧ so = []) := by
  refine Con.body (plainFor_of_name pn_java_lang_StringLatin1) hEW o1 (allS ge_d all0) #[.val (.ref b), .val (.int (0 : Int32)), .val (.ref d), .val (.int (Int32.ofNat cs0.length)), .val (.int (Int32.ofNat cs1.length))] (fun m => by first | (simp [entryFrame, mkF, argsToLocals, Value.category]; done) | rfl) ?_
  intro p e s m below meth c B hnm hret hlk G
  replace G := G.aloadN 1 d53_0 rfl rfl rfl |>.iloadN 2 d53_1 rfl rfl |>.aloadN 3 d53_2 rfl rfl rfl |>.iloadN 4 d53_3 rfl rfl |>.iload 6 d53_4 rfl rfl
  obtain ⟨vi, h1, soi, G', Ki, Qi⟩ := G.callS 9 (hw _ (mm 257 rfl)) (hw _ (mm 258 rfl)) (hw _ (mm 112 rfl)) (hw _ (mm 259 rfl)) (by decide) [(.ref b), (.int (0 : Int32)), (.ref d), (.int (Int32.ofNat cs0.length)), (.int (Int32.ofNat cs1.length))] [] rfl (c_uInfl l Z a0 hw hEW n0 c1 hc1 S1 v2 hv2 S2 S3 S4 S5 b d kb kdd zn n cs0 cs1 G.old ge_d hn hz hle hl1 hc nbd Ab Ad) (lenOf pd___BI_BII_V rfl) d53_6 rfl (nle rfl) (nle rfl) (nle rfl) (nle rfl) (allS (Or.inl (mm 0 rfl)) all0) (allS (mm 0 rfl) all0) (allS (mm 0 rfl) all0) rfl
  replace G := G'; clear G'
  obtain ⟨qi, Ad, rfl⟩ := Qi
  replace G := G.nov qi
  exact G.retV hret hlk d53_9 [] all0 ⟨rfl, Ad, rfl⟩ (nle rfl) (nle rfl)
theorem d31_0 : decode jdk_29_method_65_code 0 = .ok (.iload_n 0, 1) := by decide +kernel
theorem d31_1 : decode jdk_29_method_65_code 1 = .ok (.iload_n 1, 1) := by decide +kernel
theorem d31_2 : decode jdk_29_method_65_code 2 = .ok (.if_icmp .lt 7, 3) := by decide +kernel
theorem d31_5 : decode jdk_29_method_65_code 5 = .ok (.iload_n 0, 1) := by decide +kernel
theorem d31_6 : decode jdk_29_method_65_code 6 = .ok (.goto 4, 3) := by decide +kernel
theorem d31_9 : decode jdk_29_method_65_code 9 = .ok (.iload_n 1, 1) := by decide +kernel
theorem d31_10 : decode jdk_29_method_65_code 10 = .ok (.ireturn, 1) := by decide +kernel
theorem c_max (l : Launch) (Z : State) (a0 : Array Value) (hw : ∀ d ∈ tables_1, d.before a0 Z = true) (hEW : EW Z a0 consts_1) (n0 : Nat) (c1 : Int32) (hc1 : ¬ c1 = 0) (S1 : Sta Z Z.heap "java/lang/String" "COMPACT_STRINGS" "Z" (.int c1)) (v2 : Value) (hv2 : v2.isRef = true) (S2 : Sta Z Z.heap "jdk/internal/util/Preconditions" "SIOOBE_FORMATTER" "Ljava/util/function/BiFunction;" v2) (S3 : Sta Z Z.heap "java/lang/StringUTF16" "$assertionsDisabled" "Z" (.int 1)) (S4 : Sta Z Z.heap "java/lang/StringUTF16" "HI_BYTE_SHIFT" "I" (.int 0)) (S5 : Sta Z Z.heap "java/lang/StringUTF16" "LO_BYTE_SHIFT" "I" (.int 8)) (x y : Nat) {h0 : Heap} (o1 : Old Z n0 h0) (hx : x < 2147483648) (hy : y < 2147483648) :
    Con Z a0 l (⟨"java/lang/Math", "max", "(II)I"⟩ : MethodName) jdk_29_method_65_code 2 (some .int) ({ frames := 0, cells := 0, slots := 0, locals := 0 } : Room) [] #[(.int (Int32.ofNat x)), (.int (Int32.ofNat y))] consts_1 h0 n0 [] [] (VV fun w h so => w = .int (Int32.ofNat (max x y)) ∧ h = h0 ∧ so = []) := by
  refine Con.body (by decide +kernel) hEW o1 all0 #[.val (.int (Int32.ofNat x)), .val (.int (Int32.ofNat y))] (fun m => by first | (simp [entryFrame, mkF, argsToLocals, Value.category]; done) | rfl) ?_
  intro p e s m below meth c B hnm hret hlk G
  rcases Nat.lt_or_ge x y with q | q
  · skip
    replace G := G.iloadN 1 d31_0 rfl rfl |>.iloadN 2 d31_1 rfl rfl |>.icmpT 9 d31_2 (XT.ii_lt_t (ofn_lt q hy)) (by decide) (by decide) |>.iloadN 10 d31_9 rfl rfl
    exact G.retI hret hlk d31_10 [] all0 ⟨_, rfl, by rw [Nat.max_eq_right (Nat.le_of_lt q)], rfl, rfl⟩ (nle rfl) (nle rfl)
  · skip
    replace G := G.iloadN 1 d31_0 rfl rfl |>.iloadN 2 d31_1 rfl rfl |>.icmpF 5 d31_2 (XT.ii_lt_f (ofn_nlt q hx)) rfl |>.iloadN 6 d31_5 rfl rfl |>.goto 10 d31_6 (by decide) (by decide)
    exact G.retI hret hlk d31_10 [] all0 ⟨_, rfl, by rw [Nat.max_eq_left q], rfl, rfl⟩ (nle rfl) (nle rfl)
theorem d39_0 : decode jdk_48_method_27_code 0 = .ok (.iload_n 0, 1) := by decide +kernel
theorem d39_1 : decode jdk_48_method_27_code 1 = .ok (.iload_n 1, 1) := by decide +kernel
theorem d39_2 : decode jdk_48_method_27_code 2 = .ok (.iload_n 2, 1) := by decide +kernel
theorem d39_3 : decode jdk_48_method_27_code 3 = .ok (.invokestatic 194, 3) := by decide +kernel
theorem d39_6 : decode jdk_48_method_27_code 6 = .ok (.iadd, 1) := by decide +kernel
theorem d39_7 : decode jdk_48_method_27_code 7 = .ok (.istore_n 3, 1) := by decide +kernel
theorem d39_8 : decode jdk_48_method_27_code 8 = .ok (.iconst 0, 1) := by decide +kernel
theorem d39_9 : decode jdk_48_method_27_code 9 = .ok (.iload_n 3, 1) := by decide +kernel
theorem d39_10 : decode jdk_48_method_27_code 10 = .ok (.if_icmp .ge 11, 3) := by decide +kernel
theorem d39_13 : decode jdk_48_method_27_code 13 = .ok (.iload_n 3, 1) := by decide +kernel
theorem d39_14 : decode jdk_48_method_27_code 14 = .ok (.ldc 200, 2) := by decide +kernel
theorem d39_16 : decode jdk_48_method_27_code 16 = .ok (.if_icmp .gt 5, 3) := by decide +kernel
theorem d39_19 : decode jdk_48_method_27_code 19 = .ok (.iload_n 3, 1) := by decide +kernel
theorem d39_20 : decode jdk_48_method_27_code 20 = .ok (.ireturn, 1) := by decide +kernel
theorem d39_21 : decode jdk_48_method_27_code 21 = .ok (.iload_n 0, 1) := by decide +kernel
theorem d39_22 : decode jdk_48_method_27_code 22 = .ok (.iload_n 1, 1) := by decide +kernel
theorem d39_23 : decode jdk_48_method_27_code 23 = .ok (.invokestatic 201, 3) := by decide +kernel
theorem d39_26 : decode jdk_48_method_27_code 26 = .ok (.ireturn, 1) := by decide +kernel
theorem c_newLen (l : Launch) (Z : State) (a0 : Array Value) (hw : ∀ d ∈ tables_1, d.before a0 Z = true) (hEW : EW Z a0 consts_1) (n0 : Nat) (c1 : Int32) (hc1 : ¬ c1 = 0) (S1 : Sta Z Z.heap "java/lang/String" "COMPACT_STRINGS" "Z" (.int c1)) (v2 : Value) (hv2 : v2.isRef = true) (S2 : Sta Z Z.heap "jdk/internal/util/Preconditions" "SIOOBE_FORMATTER" "Ljava/util/function/BiFunction;" v2) (S3 : Sta Z Z.heap "java/lang/StringUTF16" "$assertionsDisabled" "Z" (.int 1)) (S4 : Sta Z Z.heap "java/lang/StringUTF16" "HI_BYTE_SHIFT" "I" (.int 0)) (S5 : Sta Z Z.heap "java/lang/StringUTF16" "LO_BYTE_SHIFT" "I" (.int 8)) (o g p' : Nat) {h0 : Heap} (o1 : Old Z n0 h0) (h1 : 0 < p') (h2 : o < 100000) (h3 : g < 100000) (h4 : p' < 100000) :
    Con Z a0 l (⟨"jdk/internal/util/ArraysSupport", "newLength", "(III)I"⟩ : MethodName) jdk_48_method_27_code 4 (some .int) ({ frames := 1, cells := 0, slots := 0, locals := 14 } : Room) [] #[(.int (Int32.ofNat o)), (.int (Int32.ofNat g)), (.int (Int32.ofNat p'))] consts_1 h0 n0 [] [] (VV fun w h so => w = .int (Int32.ofNat (o + max g p')) ∧ h = h0 ∧ so = []) := by
  refine Con.body (plainFor_of_name pn_jdk_internal_util_ArraysSupport) hEW o1 all0 #[.val (.int (Int32.ofNat o)), .val (.int (Int32.ofNat g)), .val (.int (Int32.ofNat p')), .unset] (fun m => by first | (simp [entryFrame, mkF, argsToLocals, Value.category]; done) | rfl) ?_
  intro p e s m below meth c B hnm hret hlk G
  replace G := G.iloadN 1 d39_0 rfl rfl |>.iloadN 2 d39_1 rfl rfl |>.iloadN 3 d39_2 rfl rfl
  obtain ⟨vm1, h_m, som1, G', Km1, Qm1⟩ := G.callS 6 (hw _ (mm 198 rfl)) (hw _ (mm 161 rfl)) (hw _ (mm 162 rfl)) (hw _ (mm 163 rfl)) (by decide) [(.int (Int32.ofNat g)), (.int (Int32.ofNat p'))] [(.int (Int32.ofNat o))] rfl (c_max l Z a0 hw hEW n0 c1 hc1 S1 v2 hv2 S2 S3 S4 S5 g p' G.old (by omega) (by omega)) (lenOf pd__II_I rfl) d39_3 rfl (nle rfl) (nle rfl) (nle rfl) (nle rfl) all0 all0 all0 rfl
  replace G := G'; clear G'
  obtain ⟨wm1, qm1, rfl, em, rfl⟩ := Qm1
  replace G := G.val qm1
  subst em
  replace G := G.iadd 7 d39_6 rfl |>.top (y := (.int (Int32.ofNat (o + max g p')))) (congrArg Value.int (ofn_add _ _)) |>.istoreN 8 #[.val (.int (Int32.ofNat o)), .val (.int (Int32.ofNat g)), .val (.int (Int32.ofNat p')), .val (.int (Int32.ofNat (o + max g p')))] d39_7 rfl rfl |>.iconst 9 (0 : Int32) d39_8 rfl rfl |>.iloadN 10 d39_9 rfl rfl |>.icmpF 13 d39_10 (XT.ii_ge_f (ofn_lt (i := 0) (by omega) (by omega))) rfl |>.iloadN 14 d39_13 rfl rfl |>.ldcI 16 (hw _ (mm 199 rfl)) d39_14 rfl
  replace G := G.icmpF 19 d39_16 (XT.ii_gt_f (ofn_nlt (i := 2147483639) (by omega) (by decide))) rfl |>.iloadN 20 d39_19 rfl rfl
  exact G.retI hret hlk d39_20 [] all0 ⟨_, rfl, rfl, rfl, rfl⟩ (nle rfl) (nle rfl)
theorem d38_0 : decode jdk_68_method_10_code 0 = .ok (.aload_n 0, 1) := by decide +kernel
theorem d38_1 : decode jdk_68_method_10_code 1 = .ok (.getfield 15, 3) := by decide +kernel
theorem d38_4 : decode jdk_68_method_10_code 4 = .ok (.arraylength, 1) := by decide +kernel
theorem d38_5 : decode jdk_68_method_10_code 5 = .ok (.istore_n 2, 1) := by decide +kernel
theorem d38_6 : decode jdk_68_method_10_code 6 = .ok (.iload_n 1, 1) := by decide +kernel
theorem d38_7 : decode jdk_68_method_10_code 7 = .ok (.aload_n 0, 1) := by decide +kernel
theorem d38_8 : decode jdk_68_method_10_code 8 = .ok (.getfield 22, 3) := by decide +kernel
theorem d38_11 : decode jdk_68_method_10_code 11 = .ok (.ishl, 1) := by decide +kernel
theorem d38_12 : decode jdk_68_method_10_code 12 = .ok (.istore_n 3, 1) := by decide +kernel
theorem d38_13 : decode jdk_68_method_10_code 13 = .ok (.iload_n 3, 1) := by decide +kernel
theorem d38_14 : decode jdk_68_method_10_code 14 = .ok (.iload_n 2, 1) := by decide +kernel
theorem d38_15 : decode jdk_68_method_10_code 15 = .ok (.isub, 1) := by decide +kernel
theorem d38_16 : decode jdk_68_method_10_code 16 = .ok (.istore 4, 2) := by decide +kernel
theorem d38_18 : decode jdk_68_method_10_code 18 = .ok (.iload_n 2, 1) := by decide +kernel
theorem d38_19 : decode jdk_68_method_10_code 19 = .ok (.iload 4, 2) := by decide +kernel
theorem d38_21 : decode jdk_68_method_10_code 21 = .ok (.iload_n 2, 1) := by decide +kernel
theorem d38_22 : decode jdk_68_method_10_code 22 = .ok (.iconst 2, 1) := by decide +kernel
theorem d38_23 : decode jdk_68_method_10_code 23 = .ok (.aload_n 0, 1) := by decide +kernel
theorem d38_24 : decode jdk_68_method_10_code 24 = .ok (.getfield 22, 3) := by decide +kernel
theorem d38_27 : decode jdk_68_method_10_code 27 = .ok (.ishl, 1) := by decide +kernel
theorem d38_28 : decode jdk_68_method_10_code 28 = .ok (.iadd, 1) := by decide +kernel
theorem d38_29 : decode jdk_68_method_10_code 29 = .ok (.invokestatic 114, 3) := by decide +kernel
theorem d38_32 : decode jdk_68_method_10_code 32 = .ok (.istore 5, 2) := by decide +kernel
theorem d38_34 : decode jdk_68_method_10_code 34 = .ok (.iload 5, 2) := by decide +kernel
theorem d38_36 : decode jdk_68_method_10_code 36 = .ok (.ldc 39, 2) := by decide +kernel
theorem d38_38 : decode jdk_68_method_10_code 38 = .ok (.if_icmp .ne 13, 3) := by decide +kernel
theorem d38_41 : decode jdk_68_method_10_code 41 = .ok (.new 120, 3) := by decide +kernel
theorem d38_44 : decode jdk_68_method_10_code 44 = .ok (.dup, 1) := by decide +kernel
theorem d38_45 : decode jdk_68_method_10_code 45 = .ok (.ldc 122, 2) := by decide +kernel
theorem d38_47 : decode jdk_68_method_10_code 47 = .ok (.invokespecial 124, 3) := by decide +kernel
theorem d38_50 : decode jdk_68_method_10_code 50 = .ok (.athrow, 1) := by decide +kernel
theorem d38_51 : decode jdk_68_method_10_code 51 = .ok (.iload 5, 2) := by decide +kernel
theorem d38_53 : decode jdk_68_method_10_code 53 = .ok (.aload_n 0, 1) := by decide +kernel
theorem d38_54 : decode jdk_68_method_10_code 54 = .ok (.getfield 22, 3) := by decide +kernel
theorem d38_57 : decode jdk_68_method_10_code 57 = .ok (.ishr, 1) := by decide +kernel
theorem d38_58 : decode jdk_68_method_10_code 58 = .ok (.ireturn, 1) := by decide +kernel
theorem c_newCapX (l : Launch) (Z : State) (a0 : Array Value) (hw : ∀ d ∈ tables_1, d.before a0 Z = true) (hEW : EW Z a0 consts_1) (n0 : Nat) (c1 : Int32) (hc1 : ¬ c1 = 0) (S1 : Sta Z Z.heap "java/lang/String" "COMPACT_STRINGS" "Z" (.int c1)) (v2 : Value) (hv2 : v2.isRef = true) (S2 : Sta Z Z.heap "jdk/internal/util/Preconditions" "SIOOBE_FORMATTER" "Ljava/util/function/BiFunction;" v2) (S3 : Sta Z Z.heap "java/lang/StringUTF16" "$assertionsDisabled" "Z" (.int 1)) (S4 : Sta Z Z.heap "java/lang/StringUTF16" "HI_BYTE_SHIFT" "I" (.int 0)) (S5 : Sta Z Z.heap "java/lang/StringUTF16" "LO_BYTE_SHIFT" "I" (.int 8)) (a b : Addr) (cap mc k : Nat) (cs : List Nat) {h0 : Heap} (o1 : Old Z n0 h0) (hk : k = 0 ∨ k = 1) (hlt : cap < mc) (hmc : mc ≤ 12) (hS : SbdK Z h0 a b cap k cs) :
    Con Z a0 l (⟨"java/lang/AbstractStringBuilder", "newCapacity", "(I)I"⟩ : MethodName) jdk_68_method_10_code 6 (some .int) ({ frames := 2, cells := 0, slots := 0, locals := 29 } : Room) [] #[(.ref a), (.int (Int32.ofNat mc))] consts_1 h0 n0 [] [] (VV fun w h so => w = .int (Int32.ofNat (gcap cap mc)) ∧ h = h0 ∧ so = []) := by
  refine Con.body (plainFor_of_name pn_java_lang_AbstractStringBuilder) hEW o1 all0 #[.val (.ref a), .val (.int (Int32.ofNat mc)), .unset, .unset, .unset, .unset] (fun m => by first | (simp [entryFrame, mkF, argsToLocals, Value.category]; done) | rfl) ?_
  intro p e s m below meth c B hnm hret hlk G
  obtain ⟨Xa, Fv, Fc, Fn, Fm, kb, Ab⟩ := hS
  have hg := gcap_bX hlt hmc; have hp := p2 hk; have e1 : mc * 2 ^ k - cap * 2 ^ k = (mc - cap) * 2 ^ k := (Nat.sub_mul _ _ _).symm; have e2 := Nat.mul_le_mul (Nat.le_of_lt hlt) (Nat.le_refl (2 ^ k)); have e3 := Nat.mul_le_mul hmc hp.2; have e4 := Nat.mul_le_mul (Nat.sub_le mc cap) (Nat.le_refl (2 ^ k)); have e5 := gcapX (cap := cap) (mc := mc) hk
  replace G := G.aloadN 1 d38_0 rfl rfl rfl |>.getf 4 (host := "") (Or.inl (hw _ (mm 56 rfl))) Via.refl Fv d38_1 rfl |>.alen 5 Ab d38_4 rfl |>.istoreN 6 #[.val (.ref a), .val (.int (Int32.ofNat mc)), .val (.int (Int32.ofNat (cap * 2 ^ k))), .unset, .unset, .unset] d38_5 rfl rfl |>.iloadN 7 d38_6 rfl rfl |>.aloadN 8 d38_7 rfl rfl rfl |>.getf 11 (host := "") (Or.inl (hw _ (mm 58 rfl))) Via.refl Fc d38_8 rfl |>.ishl 12 d38_11 rfl
  replace G := G.top (y := (.int (Int32.ofNat (mc * 2 ^ k)))) (congrArg Value.int (shlK hk (by omega))) |>.istoreN 13 #[.val (.ref a), .val (.int (Int32.ofNat mc)), .val (.int (Int32.ofNat (cap * 2 ^ k))), .val (.int (Int32.ofNat (mc * 2 ^ k))), .unset, .unset] d38_12 rfl rfl |>.iloadN 14 d38_13 rfl rfl |>.iloadN 15 d38_14 rfl rfl |>.isub 16 d38_15 rfl |>.top (y := (.int (Int32.ofNat ((mc - cap) * 2 ^ k)))) (congrArg Value.int ((ofn_sub e2 (by omega)).trans (by rw [e1]))) |>.istore 18 #[.val (.ref a), .val (.int (Int32.ofNat mc)), .val (.int (Int32.ofNat (cap * 2 ^ k))), .val (.int (Int32.ofNat (mc * 2 ^ k))), .val (.int (Int32.ofNat ((mc - cap) * 2 ^ k))), .unset] d38_16 rfl rfl |>.iloadN 19 d38_18 rfl rfl
  replace G := G.iload 21 d38_19 rfl rfl |>.iloadN 22 d38_21 rfl rfl |>.iconst 23 (2 : Int32) d38_22 rfl rfl |>.aloadN 24 d38_23 rfl rfl rfl |>.getf 27 (host := "") (Or.inl (hw _ (mm 58 rfl))) Via.refl Fc d38_24 rfl |>.ishl 28 d38_27 rfl |>.top (y := (.int (Int32.ofNat (2 * 2 ^ k)))) (congrArg Value.int (shlK (n := 2) hk (by omega))) |>.iadd 29 d38_28 rfl
  replace G := G.top (y := (.int (Int32.ofNat (cap * 2 ^ k + 2 * 2 ^ k)))) (congrArg Value.int (ofn_add _ _))
  obtain ⟨vn1, h_n, son1, G', Kn1, Qn1⟩ := G.callS 32 (hw _ (mm 194 rfl)) (hw _ (mm 195 rfl)) (hw _ (mm 196 rfl)) (hw _ (mm 197 rfl)) (by decide) [(.int (Int32.ofNat (cap * 2 ^ k))), (.int (Int32.ofNat ((mc - cap) * 2 ^ k))), (.int (Int32.ofNat (cap * 2 ^ k + 2 * 2 ^ k)))] [] rfl (c_newLen l Z a0 hw hEW n0 c1 hc1 S1 v2 hv2 S2 S3 S4 S5 (cap * 2 ^ k) ((mc - cap) * 2 ^ k) (cap * 2 ^ k + 2 * 2 ^ k) G.old (by omega) (by omega) (by omega) (by omega)) (lenOf pd__III_I rfl) d38_29 rfl (nle rfl) (nle rfl) (nle rfl) (nle rfl) all0 all0 all0 rfl
  replace G := G'; clear G'
  obtain ⟨wn1, qn1, rfl, en, rfl⟩ := Qn1
  replace G := G.val qn1
  subst en
  replace G := G.top (y := (.int (Int32.ofNat (gcap cap mc * 2 ^ k)))) (by rw [e5])
  have e6 := Nat.mul_le_mul hg.2.2 hp.2
  replace G := G.istore 34 #[.val (.ref a), .val (.int (Int32.ofNat mc)), .val (.int (Int32.ofNat (cap * 2 ^ k))), .val (.int (Int32.ofNat (mc * 2 ^ k))), .val (.int (Int32.ofNat ((mc - cap) * 2 ^ k))), .val (.int (Int32.ofNat (gcap cap mc * 2 ^ k)))] d38_32 rfl rfl |>.iload 36 d38_34 rfl rfl |>.ldcI 38 (hw _ (mm 200 rfl)) d38_36 rfl |>.icmpT 51 d38_38 (XT.ii_ne_t (ofn_ne (n := 2147483647) (Nat.ne_of_lt (by omega)) (by omega) (by decide))) (by decide) (by decide) |>.iload 53 d38_51 rfl rfl |>.aloadN 54 d38_53 rfl rfl rfl |>.getf 57 (host := "") (Or.inl (hw _ (mm 58 rfl))) Via.refl Fc d38_54 rfl |>.ishr 58 d38_57 rfl
  replace G := G.top (y := (.int (Int32.ofNat (gcap cap mc)))) (congrArg Value.int (shrK hk (by omega)))
  exact G.retI hret hlk d38_58 [] all0 ⟨_, rfl, rfl, rfl, rfl⟩ (nle rfl) (nle rfl)
theorem d32_0 : decode jdk_29_method_69_code 0 = .ok (.iload_n 0, 1) := by decide +kernel
theorem d32_1 : decode jdk_29_method_69_code 1 = .ok (.iload_n 1, 1) := by decide +kernel
theorem d32_2 : decode jdk_29_method_69_code 2 = .ok (.if_icmp .gt 7, 3) := by decide +kernel
theorem d32_5 : decode jdk_29_method_69_code 5 = .ok (.iload_n 0, 1) := by decide +kernel
theorem d32_6 : decode jdk_29_method_69_code 6 = .ok (.goto 4, 3) := by decide +kernel
theorem d32_9 : decode jdk_29_method_69_code 9 = .ok (.iload_n 1, 1) := by decide +kernel
theorem d32_10 : decode jdk_29_method_69_code 10 = .ok (.ireturn, 1) := by decide +kernel
theorem c_minL (l : Launch) (Z : State) (a0 : Array Value) (hw : ∀ d ∈ tables_1, d.before a0 Z = true) (hEW : EW Z a0 consts_1) (n0 : Nat) (c1 : Int32) (hc1 : ¬ c1 = 0) (S1 : Sta Z Z.heap "java/lang/String" "COMPACT_STRINGS" "Z" (.int c1)) (v2 : Value) (hv2 : v2.isRef = true) (S2 : Sta Z Z.heap "jdk/internal/util/Preconditions" "SIOOBE_FORMATTER" "Ljava/util/function/BiFunction;" v2) (S3 : Sta Z Z.heap "java/lang/StringUTF16" "$assertionsDisabled" "Z" (.int 1)) (S4 : Sta Z Z.heap "java/lang/StringUTF16" "HI_BYTE_SHIFT" "I" (.int 0)) (S5 : Sta Z Z.heap "java/lang/StringUTF16" "LO_BYTE_SHIFT" "I" (.int 8)) (x y : Int32) {h0 : Heap} (o1 : Old Z n0 h0) (hxy : ¬ y < x) :
    Con Z a0 l (⟨"java/lang/Math", "min", "(II)I"⟩ : MethodName) jdk_29_method_69_code 2 (some .int) ({ frames := 0, cells := 0, slots := 0, locals := 0 } : Room) [] #[(.int x), (.int y)] consts_1 h0 n0 [] [] (VV fun w h so => w = .int x ∧ h = h0 ∧ so = []) := by
  refine Con.body (by decide +kernel) hEW o1 all0 #[.val (.int x), .val (.int y)] (fun m => by first | (simp [entryFrame, mkF, argsToLocals, Value.category]; done) | rfl) ?_
  intro p e s m below meth c B hnm hret hlk G
  replace G := G.iloadN 1 d32_0 rfl rfl |>.iloadN 2 d32_1 rfl rfl |>.icmpF 5 d32_2 (XT.ii_gt_f hxy) rfl |>.iloadN 6 d32_5 rfl rfl |>.goto 10 d32_6 (by decide) (by decide)
  exact G.retI hret hlk d32_10 [] all0 ⟨_, rfl, rfl, rfl, rfl⟩ (nle rfl) (nle rfl)
theorem d40_0 : decode jdk_65_method_121_code 0 = .ok (.iload_n 1, 1) := by decide +kernel
theorem d40_1 : decode jdk_65_method_121_code 1 = .ok (.aload_n 0, 1) := by decide +kernel
theorem d40_2 : decode jdk_65_method_121_code 2 = .ok (.arraylength, 1) := by decide +kernel
theorem d40_3 : decode jdk_65_method_121_code 3 = .ok (.if_icmp .ne 11, 3) := by decide +kernel
theorem d40_6 : decode jdk_65_method_121_code 6 = .ok (.aload_n 0, 1) := by decide +kernel
theorem d40_7 : decode jdk_65_method_121_code 7 = .ok (.invokevirtual 310, 3) := by decide +kernel
theorem d40_10 : decode jdk_65_method_121_code 10 = .ok (.checkcast 311, 3) := by decide +kernel
theorem d40_13 : decode jdk_65_method_121_code 13 = .ok (.areturn, 1) := by decide +kernel
theorem d40_14 : decode jdk_65_method_121_code 14 = .ok (.iload_n 1, 1) := by decide +kernel
theorem d40_15 : decode jdk_65_method_121_code 15 = .ok (.newarray .byte, 2) := by decide +kernel
theorem d40_17 : decode jdk_65_method_121_code 17 = .ok (.astore_n 2, 1) := by decide +kernel
theorem d40_18 : decode jdk_65_method_121_code 18 = .ok (.aload_n 0, 1) := by decide +kernel
theorem d40_19 : decode jdk_65_method_121_code 19 = .ok (.iconst 0, 1) := by decide +kernel
theorem d40_20 : decode jdk_65_method_121_code 20 = .ok (.aload_n 2, 1) := by decide +kernel
theorem d40_21 : decode jdk_65_method_121_code 21 = .ok (.iconst 0, 1) := by decide +kernel
theorem d40_22 : decode jdk_65_method_121_code 22 = .ok (.aload_n 0, 1) := by decide +kernel
theorem d40_23 : decode jdk_65_method_121_code 23 = .ok (.arraylength, 1) := by decide +kernel
theorem d40_24 : decode jdk_65_method_121_code 24 = .ok (.iload_n 1, 1) := by decide +kernel
theorem d40_25 : decode jdk_65_method_121_code 25 = .ok (.invokestatic 304, 3) := by decide +kernel
theorem d40_28 : decode jdk_65_method_121_code 28 = .ok (.invokestatic 150, 3) := by decide +kernel
theorem d40_31 : decode jdk_65_method_121_code 31 = .ok (.aload_n 2, 1) := by decide +kernel
theorem d40_32 : decode jdk_65_method_121_code 32 = .ok (.areturn, 1) := by decide +kernel
theorem c_copyX (l : Launch) (Z : State) (a0 : Array Value) (hw : ∀ d ∈ tables_1, d.before a0 Z = true) (hEW : EW Z a0 consts_1) (n0 : Nat) (c1 : Int32) (hc1 : ¬ c1 = 0) (S1 : Sta Z Z.heap "java/lang/String" "COMPACT_STRINGS" "Z" (.int c1)) (v2 : Value) (hv2 : v2.isRef = true) (S2 : Sta Z Z.heap "jdk/internal/util/Preconditions" "SIOOBE_FORMATTER" "Ljava/util/function/BiFunction;" v2) (S3 : Sta Z Z.heap "java/lang/StringUTF16" "$assertionsDisabled" "Z" (.int 1)) (S4 : Sta Z Z.heap "java/lang/StringUTF16" "HI_BYTE_SHIFT" "I" (.int 0)) (S5 : Sta Z Z.heap "java/lang/StringUTF16" "LO_BYTE_SHIFT" "I" (.int 8)) (b : Addr) (kb : ClassId) (zc nb : Nat) (vs : List Value) {h0 : Heap} (o1 : Old Z n0 h0) (hlt : zc < nb) (hmax : nb ≤ 52) (hbs : vs.length ≤ zc) (Ab : Arv Z h0 b kb .byte (Int32.ofNat zc) vs (.int 0)) :
    Con Z a0 l (⟨"java/util/Arrays", "copyOf", "([BI)[B"⟩ : MethodName) jdk_65_method_121_code 3 (some (.array .byte)) ({ frames := 1, cells := 1, slots := 52, locals := 41 } : Room) [] #[(.ref b), (.int (Int32.ofNat nb))] consts_1 h0 n0 [] [] (VV fun w h so => ∃ d, w = .ref d ∧ (∃ k, Arv Z h d k .byte (Int32.ofNat nb) vs (.int 0)) ∧ Exa Z h d "[B" ∧ h0.size ≤ d ∧ so = [d]) := by
  refine Con.body (plainFor_of_name pn_java_util_Arrays) hEW o1 all0 #[.val (.ref b), .val (.int (Int32.ofNat nb)), .unset] (fun m => by first | (simp [entryFrame, mkF, argsToLocals, Value.category]; done) | rfl) ?_
  intro p e s m below meth c B hnm hret hlk G
  replace G := G.iloadN 1 d40_0 rfl rfl |>.aloadN 2 d40_1 rfl rfl rfl |>.alen 3 Ab d40_2 rfl |>.icmpT 14 d40_3 (XT.ii_ne_t (ofn_ne (by omega) (by omega) (by omega))) (by decide) (by decide) |>.iloadN 15 d40_14 rfl rfl
  obtain ⟨d, h1, kd, G', gd, sd, Ed, Ad, Yd⟩ := G.newarrayE 17 (ad := "[B") (hw _ (mm 20 rfl)) (by decide) d40_15 (ofn_nn (by omega)) 52 (by rw [ofn_nat (by omega)]; exact hmax) (by decide) rfl (nle rfl) (nle rfl)
  replace G := G'; clear G'
  replace Ab := Ab.ext Ed
  replace G := G.astoreN 18 #[.val (.ref b), .val (.int (Int32.ofNat nb)), .val (.ref d)] d40_17 rfl rfl rfl |>.aloadN 19 d40_18 rfl rfl rfl |>.iconst 20 (0 : Int32) d40_19 rfl rfl |>.aloadN 21 d40_20 rfl rfl rfl |>.iconst 22 (0 : Int32) d40_21 rfl rfl |>.aloadN 23 d40_22 rfl rfl rfl |>.alen 24 Ab d40_23 rfl |>.iloadN 25 d40_24 rfl rfl
  obtain ⟨vm1, h_m, som1, G', Km1, Qm1⟩ := G.callS 28 (hw _ (mm 204 rfl)) (hw _ (mm 165 rfl)) (hw _ (mm 162 rfl)) (hw _ (mm 166 rfl)) (by decide) [(.int (Int32.ofNat zc)), (.int (Int32.ofNat nb))] [(.int (0 : Int32)), (.ref d), (.int (0 : Int32)), (.ref b)] rfl (c_minL l Z a0 hw hEW n0 c1 hc1 S1 v2 hv2 S2 S3 S4 S5 (Int32.ofNat zc) (Int32.ofNat nb) G.old (ofn_nlt (Nat.le_of_lt hlt) (by omega))) (lenOf pd__II_I rfl) d40_25 rfl (nle rfl) (nle rfl) (nle rfl) (nle rfl) all0 all0 all0 rfl
  replace G := G'; clear G'
  obtain ⟨wm1, qm1, rfl, em, rfl⟩ := Qm1
  replace G := G.val qm1
  subst em
  have Ad' := Ad.pad (vs' := List.replicate zc (.int 0)) (pad_rep [] (.int 0) zc)
  have m1 : zc < 2147483648 := by omega
  obtain ⟨h2, G', Ap, Kp⟩ := G.cpy 31 (hw _ (mm 205 rfl)) (hw _ (mm 208 rfl)) (hw _ (mm 206 rfl)) (hw _ (mm 207 rfl)) Ab Ad' rfl (by decide) (by decide) (ofn_nn m1) (by rw [ofn_nat m1]; exact Nat.le_of_eq (Nat.zero_add _)) (by rw [ofn_nat m1, ofn_nat (by omega)]; rw [show (0 : Int32).toNatClampNeg = 0 from rfl]; omega) (by rw [ofn_nat m1]; simp) (Or.inr sd) (mm 0 rfl) d40_28 rfl (nle rfl) (nle rfl) rfl
  replace G := G'; clear G'
  rw [ofn_nat m1, show (0 : Int32).toNatClampNeg = 0 from rfl] at Ap
  replace Ap := Ap.pad (cpg vs zc (.int 0) hbs); replace Yd := Yd.keep Kp
  replace G := G.aloadN 32 d40_31 rfl rfl rfl
  exact G.retA hret rfl rfl hlk d40_32 [d] (allS (mm 0 rfl) all0) ⟨_, rfl, d, rfl, ⟨kd, Ap⟩, Yd, sd, rfl⟩ (nle rfl) (nle rfl)
theorem d36_0 : decode jdk_68_method_9_code 0 = .ok (.aload_n 0, 1) := by decide +kernel
theorem d36_1 : decode jdk_68_method_9_code 1 = .ok (.getfield 15, 3) := by decide +kernel
theorem d36_4 : decode jdk_68_method_9_code 4 = .ok (.arraylength, 1) := by decide +kernel
theorem d36_5 : decode jdk_68_method_9_code 5 = .ok (.aload_n 0, 1) := by decide +kernel
theorem d36_6 : decode jdk_68_method_9_code 6 = .ok (.getfield 22, 3) := by decide +kernel
theorem d36_9 : decode jdk_68_method_9_code 9 = .ok (.ishr, 1) := by decide +kernel
theorem d36_10 : decode jdk_68_method_9_code 10 = .ok (.istore_n 2, 1) := by decide +kernel
theorem d36_11 : decode jdk_68_method_9_code 11 = .ok (.iload_n 1, 1) := by decide +kernel
theorem d36_12 : decode jdk_68_method_9_code 12 = .ok (.iload_n 2, 1) := by decide +kernel
theorem d36_13 : decode jdk_68_method_9_code 13 = .ok (.isub, 1) := by decide +kernel
theorem d36_14 : decode jdk_68_method_9_code 14 = .ok (.ifCond .le 24, 3) := by decide +kernel
theorem d36_17 : decode jdk_68_method_9_code 17 = .ok (.aload_n 0, 1) := by decide +kernel
theorem d36_18 : decode jdk_68_method_9_code 18 = .ok (.aload_n 0, 1) := by decide +kernel
theorem d36_19 : decode jdk_68_method_9_code 19 = .ok (.getfield 15, 3) := by decide +kernel
theorem d36_22 : decode jdk_68_method_9_code 22 = .ok (.aload_n 0, 1) := by decide +kernel
theorem d36_23 : decode jdk_68_method_9_code 23 = .ok (.iload_n 1, 1) := by decide +kernel
theorem d36_24 : decode jdk_68_method_9_code 24 = .ok (.invokevirtual 104, 3) := by decide +kernel
theorem d36_27 : decode jdk_68_method_9_code 27 = .ok (.aload_n 0, 1) := by decide +kernel
theorem d36_28 : decode jdk_68_method_9_code 28 = .ok (.getfield 22, 3) := by decide +kernel
theorem d36_31 : decode jdk_68_method_9_code 31 = .ok (.ishl, 1) := by decide +kernel
theorem d36_32 : decode jdk_68_method_9_code 32 = .ok (.invokestatic 108, 3) := by decide +kernel
theorem d36_35 : decode jdk_68_method_9_code 35 = .ok (.putfield 15, 3) := by decide +kernel
theorem d36_38 : decode jdk_68_method_9_code 38 = .ok (.return_, 1) := by decide +kernel
theorem c_ensX (l : Launch) (Z : State) (a0 : Array Value) (hw : ∀ d ∈ tables_1, d.before a0 Z = true) (hEW : EW Z a0 consts_1) (n0 : Nat) (c1 : Int32) (hc1 : ¬ c1 = 0) (S1 : Sta Z Z.heap "java/lang/String" "COMPACT_STRINGS" "Z" (.int c1)) (v2 : Value) (hv2 : v2.isRef = true) (S2 : Sta Z Z.heap "jdk/internal/util/Preconditions" "SIOOBE_FORMATTER" "Ljava/util/function/BiFunction;" v2) (S3 : Sta Z Z.heap "java/lang/StringUTF16" "$assertionsDisabled" "Z" (.int 1)) (S4 : Sta Z Z.heap "java/lang/StringUTF16" "HI_BYTE_SHIFT" "I" (.int 0)) (S5 : Sta Z Z.heap "java/lang/StringUTF16" "LO_BYTE_SHIFT" "I" (.int 8)) (a b : Addr) (cap mc k : Nat) (cs : List Nat) {h0 : Heap} (o1 : Old Z n0 h0) (ge_a : n0 ≤ a) (hk : k = 0 ∨ k = 1) (hmc : mc ≤ 12) (hcap : cap ≤ 26) (hbs : cs.length ≤ cap) (hS : SbdX Z h0 a b cap k cs) :
    Con Z a0 l (⟨"java/lang/AbstractStringBuilder", "ensureCapacityInternal", "(I)V"⟩ : MethodName) jdk_68_method_9_code 3 (none) ({ frames := 3, cells := 1, slots := 52, locals := 56 } : Room) [] #[(.ref a), (.int (Int32.ofNat mc))] consts_1 h0 n0 [a] [a, b] (V0 fun h so => ∃ b' cap', SbdX Z h a b' cap' k cs ∧ mc ≤ cap' ∧ cap' ≤ 26 ∧ (b' = b ∨ h0.size ≤ b') ∧ so = [b']) := by
  refine Con.body (plainFor_of_name pn_java_lang_AbstractStringBuilder) hEW o1 (allS ge_a all0) #[.val (.ref a), .val (.int (Int32.ofNat mc)), .unset] (fun m => by first | (simp [entryFrame, mkF, argsToLocals, Value.category]; done) | rfl) ?_
  intro p e s m below meth c B hnm hret hlk G
  have hp := p2 hk; have hle2 := encS_len hk cs; have e0 := Nat.mul_le_mul hbs (Nat.le_refl (2 ^ k))
  rcases Nat.lt_or_ge cap mc with hlt | hge
  · skip
    have hg := gcap_bX hlt hmc; have hS' := hS
    obtain ⟨⟨Xa, Fv, Fc, Fn, Fm, kb, Ab⟩, Yb⟩ := hS
    have e9 := Nat.mul_le_mul hcap hp.2
    replace G := G.aloadN 1 d36_0 rfl rfl rfl |>.getf 4 (host := "") (Or.inl (hw _ (mm 56 rfl))) Via.refl Fv d36_1 rfl |>.alen 5 Ab d36_4 rfl |>.aloadN 6 d36_5 rfl rfl rfl |>.getf 9 (host := "") (Or.inl (hw _ (mm 58 rfl))) Via.refl Fc d36_6 rfl |>.ishr 10 d36_9 rfl |>.top (y := (.int (Int32.ofNat cap))) (congrArg Value.int (shrK hk (by omega))) |>.istoreN 11 #[.val (.ref a), .val (.int (Int32.ofNat mc)), .val (.int (Int32.ofNat cap))] d36_10 rfl rfl
    replace G := G.iloadN 12 d36_11 rfl rfl |>.iloadN 13 d36_12 rfl rfl |>.isub 14 d36_13 rfl |>.ifF 17 d36_14 (XT.i0_le_f (by rw [ofn_sub (Nat.le_of_lt hlt) (by omega)]; exact ofn_lt (i := 0) (by omega) (by omega))) rfl |>.aloadN 18 d36_17 rfl rfl rfl |>.aloadN 19 d36_18 rfl rfl rfl |>.getf 22 (host := "") (Or.inl (hw _ (mm 56 rfl))) Via.refl Fv d36_19 rfl |>.aloadN 23 d36_22 rfl rfl rfl
    replace G := G.iloadN 24 d36_23 rfl rfl
    obtain ⟨vn1, h_n, son1, G', Kn1, Qn1⟩ := G.callV 27 (hw _ (mm 189 rfl)) (declOf (hw _ (mm 190 rfl)) (hw _ (mm 193 rfl))) (nfSel (hw _ (mm 192 rfl))) (hw _ (mm 192 rfl)) (hw _ (mm 190 rfl)) (hw _ (mm 52 rfl)) (hw _ (mm 193 rfl)) Xa (by decide) [(.int (Int32.ofNat mc))] [(.ref b), (.ref a)] rfl (c_newCapX l Z a0 hw hEW n0 c1 hc1 S1 v2 hv2 S2 S3 S4 S5 a b cap mc k cs G.old hk hlt hmc hS'.1) (lenOf pd__I_I rfl) d36_24 rfl (nle rfl) (nle rfl) (nle rfl) (nle rfl) all0 all0 all0 rfl
    replace G := G'; clear G'
    obtain ⟨wn1, qn1, rfl, en, rfl⟩ := Qn1
    replace G := G.val qn1
    subst en
    replace G := G.aloadN 28 d36_27 rfl rfl rfl |>.getf 31 (host := "") (Or.inl (hw _ (mm 58 rfl))) Via.refl Fc d36_28 rfl |>.ishl 32 d36_31 rfl |>.top (y := (.int (Int32.ofNat (gcap cap mc * 2 ^ k)))) (congrArg Value.int (shlK hk (by omega)))
    have e6 := Nat.mul_le_mul hg.2.2 hp.2; have e7 := Nat.mul_lt_mul_of_pos_right hg.2.1 hp.1
    obtain ⟨vc, h1, soc, G', Kc, Qc⟩ := G.callS 35 (hw _ (mm 201 rfl)) (hw _ (mm 202 rfl)) (hw _ (mm 95 rfl)) (hw _ (mm 203 rfl)) (by decide) [(.ref b), (.int (Int32.ofNat (gcap cap mc * 2 ^ k)))] [(.ref a)] rfl (c_copyX l Z a0 hw hEW n0 c1 hc1 S1 v2 hv2 S2 S3 S4 S5 b kb (cap * 2 ^ k) (gcap cap mc * 2 ^ k) (encS k cs) G.old e7 (by omega) (by rw [hle2]; exact e0) Ab) (lenOf pd___BI__B rfl) d36_32 rfl (nle rfl) (nle rfl) (nle rfl) (nle rfl) all0 all0 all0 rfl
    replace G := G'; clear G'
    obtain ⟨wc, qc, d, rfl, ⟨kdd, Ad⟩, Yd, sd, rfl⟩ := Qc
    replace G := G.val qc
    have nad : a ≠ d := (ne_ge Xa.lt sd).symm
    replace Xa := Xa.keep Kc; replace Fv := Fv.keep Kc nin0; replace Fc := Fc.keep Kc nin0; replace Fn := Fn.keep Kc nin0; replace Fm := Fm.keep Kc nin0
    obtain ⟨h2, G', Wv', Fv', Kv'⟩ := G.putf 38 (host := "") (Or.inl (hw _ (mm 56 rfl))) Via.refl Fv Xa (Or.inl (hw _ (mm 57 rfl))) (hw _ (mm 32 rfl)) (ty := (.array .byte)) (by decide) rfl rfl (Or.inl (mm 0 rfl)) (mm 1 rfl) d36_35 rfl
    replace G := G'; clear G'
    replace Fn := Fn.other Wv' (Or.inr (slot_ne (Or.inl (hw _ (mm 87 rfl))) (Or.inl (hw _ (mm 57 rfl))) (by decide) (t := .int) (t' := (.array .byte)) (by decide) (by decide))); replace Fc := Fc.other Wv' (Or.inr (slot_ne (Or.inl (hw _ (mm 59 rfl))) (Or.inl (hw _ (mm 57 rfl))) (by decide) (t := .byte) (t' := (.array .byte)) (by decide) (by decide))); replace Fm := Fm.other Wv' (Or.inr (slot_ne (Or.inl (hw _ (mm 273 rfl))) (Or.inl (hw _ (mm 57 rfl))) (by decide) (t := .boolean) (t' := (.array .byte)) (by decide) (by decide))); replace Xa := Xa.wr Wv'; replace Ad := Ad.keep Kv' (ninS nad.symm nin0); replace Yd := Yd.keep Kv'
    exact G.retV hret hlk d36_38 [d] (allS (mm 0 rfl) all0) ⟨rfl, d, gcap cap mc, ⟨⟨Xa, Fv', Fc, Fn, Fm, kdd, Ad⟩, Yd⟩, hg.1, hg.2.2, Or.inr sd, rfl⟩ (nle rfl) (nle rfl)
  · skip
    have hS' := hS
    obtain ⟨⟨Xa, Fv, Fc, Fn, Fm, kb, Ab⟩, Yb⟩ := hS
    have e9 := Nat.mul_le_mul hcap hp.2
    replace G := G.aloadN 1 d36_0 rfl rfl rfl |>.getf 4 (host := "") (Or.inl (hw _ (mm 56 rfl))) Via.refl Fv d36_1 rfl |>.alen 5 Ab d36_4 rfl |>.aloadN 6 d36_5 rfl rfl rfl |>.getf 9 (host := "") (Or.inl (hw _ (mm 58 rfl))) Via.refl Fc d36_6 rfl |>.ishr 10 d36_9 rfl |>.top (y := (.int (Int32.ofNat cap))) (congrArg Value.int (shrK hk (by omega))) |>.istoreN 11 #[.val (.ref a), .val (.int (Int32.ofNat mc)), .val (.int (Int32.ofNat cap))] d36_10 rfl rfl
    replace G := G.iloadN 12 d36_11 rfl rfl |>.iloadN 13 d36_12 rfl rfl |>.isub 14 d36_13 rfl |>.ifT 38 d36_14 (XT.i0_le_t (ofn_le0 hge (by omega))) (by decide) (by decide)
    exact G.retV hret hlk d36_38 [b] (allS (mm 1 rfl) all0) ⟨rfl, b, cap, hS', hge, hcap, Or.inl rfl, rfl⟩ (nle rfl) (nle rfl)
theorem d9_0 : decode jdk_68_method_2_code 0 = .ok (.aload_n 0, 1) := by decide +kernel
theorem d9_1 : decode jdk_68_method_2_code 1 = .ok (.invokespecial 3, 3) := by decide +kernel
theorem d9_4 : decode jdk_68_method_2_code 4 = .ok (.getstatic 18, 3) := by decide +kernel
theorem d9_7 : decode jdk_68_method_2_code 7 = .ok (.ifCond .eq 18, 3) := by decide +kernel
theorem d9_10 : decode jdk_68_method_2_code 10 = .ok (.aload_n 0, 1) := by decide +kernel
theorem d9_11 : decode jdk_68_method_2_code 11 = .ok (.iload_n 1, 1) := by decide +kernel
theorem d9_12 : decode jdk_68_method_2_code 12 = .ok (.newarray .byte, 2) := by decide +kernel
theorem d9_14 : decode jdk_68_method_2_code 14 = .ok (.putfield 15, 3) := by decide +kernel
theorem d9_17 : decode jdk_68_method_2_code 17 = .ok (.aload_n 0, 1) := by decide +kernel
theorem d9_18 : decode jdk_68_method_2_code 18 = .ok (.iconst 0, 1) := by decide +kernel
theorem d9_19 : decode jdk_68_method_2_code 19 = .ok (.putfield 22, 3) := by decide +kernel
theorem d9_22 : decode jdk_68_method_2_code 22 = .ok (.goto 16, 3) := by decide +kernel
theorem d9_25 : decode jdk_68_method_2_code 25 = .ok (.aload_n 0, 1) := by decide +kernel
theorem d9_26 : decode jdk_68_method_2_code 26 = .ok (.iload_n 1, 1) := by decide +kernel
theorem d9_27 : decode jdk_68_method_2_code 27 = .ok (.invokestatic 26, 3) := by decide +kernel
theorem d9_30 : decode jdk_68_method_2_code 30 = .ok (.putfield 15, 3) := by decide +kernel
theorem d9_33 : decode jdk_68_method_2_code 33 = .ok (.aload_n 0, 1) := by decide +kernel
theorem d9_34 : decode jdk_68_method_2_code 34 = .ok (.iconst 1, 1) := by decide +kernel
theorem d9_35 : decode jdk_68_method_2_code 35 = .ok (.putfield 22, 3) := by decide +kernel
theorem d9_38 : decode jdk_68_method_2_code 38 = .ok (.return_, 1) := by decide +kernel
theorem c_asbIX (l : Launch) (Z : State) (a0 : Array Value) (hw : ∀ d ∈ tables_1, d.before a0 Z = true) (hEW : EW Z a0 consts_1) (n0 : Nat) (c1 : Int32) (hc1 : ¬ c1 = 0) (S1 : Sta Z Z.heap "java/lang/String" "COMPACT_STRINGS" "Z" (.int c1)) (v2 : Value) (hv2 : v2.isRef = true) (S2 : Sta Z Z.heap "jdk/internal/util/Preconditions" "SIOOBE_FORMATTER" "Ljava/util/function/BiFunction;" v2) (S3 : Sta Z Z.heap "java/lang/StringUTF16" "$assertionsDisabled" "Z" (.int 1)) (S4 : Sta Z Z.heap "java/lang/StringUTF16" "HI_BYTE_SHIFT" "I" (.int 0)) (S5 : Sta Z Z.heap "java/lang/StringUTF16" "LO_BYTE_SHIFT" "I" (.int 8)) (a : Addr) (cap : Nat) {h0 : Heap} (o1 : Old Z n0 h0) (ge_a : n0 ≤ a) (hcap : cap ≤ 8) (Xa : Exa Z h0 a "java/lang/StringBuilder") (Fv : Fld Z h0 a "java/lang/AbstractStringBuilder" "value" "[B" .null) (Fc : Fld Z h0 a "java/lang/AbstractStringBuilder" "coder" "B" (.int 0)) (Fn : Fld Z h0 a "java/lang/AbstractStringBuilder" "count" "I" (.int 0)) (Fm : Fld Z h0 a "java/lang/AbstractStringBuilder" "maybeLatin1" "Z" (.int 0)) :
    Con Z a0 l (⟨"java/lang/AbstractStringBuilder", "<init>", "(I)V"⟩ : MethodName) jdk_68_method_2_code 2 (none) ({ frames := 1, cells := 1, slots := 8, locals := 12 } : Room) [] #[(.ref a), (.int (Int32.ofNat cap))] consts_1 h0 n0 [a] [a] (V0 fun h so => ∃ b, SbdX Z h a b cap 0 [] ∧ h0.size ≤ b ∧ so = [b]) := by
  refine Con.body (plainFor_of_name pn_java_lang_AbstractStringBuilder) hEW o1 (allS ge_a all0) #[.val (.ref a), .val (.int (Int32.ofNat cap))] (fun m => by first | (simp [entryFrame, mkF, argsToLocals, Value.category]; done) | rfl) ?_
  intro p e s m below meth c B hnm hret hlk G
  replace G := G.aloadN 1 d9_0 rfl rfl rfl |>.initO 4 (hw _ (mm 54 rfl)) (hw _ (mm 17 rfl)) (hw _ (mm 18 rfl)) d9_1 rfl (nle rfl) (nle rfl) rfl |>.gets 7 (host := "") (Or.inl (hw _ (mm 55 rfl))) Via.refl (G.sta S1) d9_4 rfl |>.ifF 10 d9_7 (XT.i0_eq_f hc1) rfl |>.aloadN 11 d9_10 rfl rfl rfl |>.iloadN 12 d9_11 rfl rfl
  obtain ⟨b, h1, kb, G', gb, sb, Eb, Ab, Yb⟩ := G.newarrayE 14 (ad := "[B") (hw _ (mm 20 rfl)) (by decide) d9_12 (ofn_nn (by omega)) 8 (by rw [ofn_nat (by omega)]; exact hcap) (by decide) rfl (nle rfl) (nle rfl)
  replace G := G'; clear G'
  have nab : a ≠ b := ne_new gb Xa.lt
  replace Xa := Xa.ext Eb; replace Fv := Fv.ext Eb; replace Fc := Fc.ext Eb; replace Fn := Fn.ext Eb; replace Fm := Fm.ext Eb
  obtain ⟨h2, G', Wv, Fv, Kv⟩ := G.putf 17 (host := "") (Or.inl (hw _ (mm 56 rfl))) Via.refl Fv Xa (Or.inl (hw _ (mm 57 rfl))) (hw _ (mm 32 rfl)) (ty := (.array .byte)) (by decide) rfl rfl (Or.inl (mm 0 rfl)) (mm 1 rfl) d9_14 rfl
  replace G := G'; clear G'
  replace Fn := Fn.other Wv (Or.inr (slot_ne (Or.inl (hw _ (mm 87 rfl))) (Or.inl (hw _ (mm 57 rfl))) (by decide) (t := .int) (t' := (.array .byte)) (by decide) (by decide))); replace Fc := Fc.other Wv (Or.inr (slot_ne (Or.inl (hw _ (mm 59 rfl))) (Or.inl (hw _ (mm 57 rfl))) (by decide) (t := .byte) (t' := (.array .byte)) (by decide) (by decide))); replace Fm := Fm.other Wv (Or.inr (slot_ne (Or.inl (hw _ (mm 273 rfl))) (Or.inl (hw _ (mm 57 rfl))) (by decide) (t := .boolean) (t' := (.array .byte)) (by decide) (by decide))); replace Xa := Xa.wr Wv; replace Ab := Ab.keep Kv (ninS nab.symm nin0); replace Yb := Yb.keep Kv
  replace G := G.aloadN 18 d9_17 rfl rfl rfl |>.iconst 19 (0 : Int32) d9_18 rfl rfl
  obtain ⟨h3, G', Wc, Fc, Kc⟩ := G.putf 22 (host := "") (Or.inl (hw _ (mm 58 rfl))) Via.refl Fc Xa (Or.inl (hw _ (mm 59 rfl))) (hw _ (mm 32 rfl)) (ty := .byte) (by decide) rfl rfl (Or.inl (mm 0 rfl)) (mm 1 rfl) d9_19 rfl
  replace G := G'; clear G'
  replace Fn := Fn.other Wc (Or.inr (slot_ne (Or.inl (hw _ (mm 87 rfl))) (Or.inl (hw _ (mm 59 rfl))) (by decide) (t := .int) (t' := .byte) (by decide) (by decide))); replace Fv := Fv.other Wc (Or.inr (slot_ne (Or.inl (hw _ (mm 57 rfl))) (Or.inl (hw _ (mm 59 rfl))) (by decide) (t := (.array .byte)) (t' := .byte) (by decide) (by decide))); replace Fm := Fm.other Wc (Or.inr (slot_ne (Or.inl (hw _ (mm 273 rfl))) (Or.inl (hw _ (mm 59 rfl))) (by decide) (t := .boolean) (t' := .byte) (by decide) (by decide))); replace Xa := Xa.wr Wc; replace Ab := Ab.keep Kc (ninS nab.symm nin0); replace Yb := Yb.keep Kc
  replace G := G.goto 38 d9_22 (by decide) (by decide)
  exact G.retV hret hlk d9_38 [b] (allS (mm 0 rfl) all0) ⟨rfl, b, ⟨⟨Xa, Fv, Fc, Fn, Fm, kb, by rw [Nat.pow_zero, Nat.mul_one]; exact Ab⟩, Yb⟩, sb, rfl⟩ (nle rfl) (nle rfl)
theorem d8_0 : decode jdk_67_method_2_code 0 = .ok (.aload_n 0, 1) := by decide +kernel
theorem d8_1 : decode jdk_67_method_2_code 1 = .ok (.iload_n 1, 1) := by decide +kernel
theorem d8_2 : decode jdk_67_method_2_code 2 = .ok (.invokespecial 1, 3) := by decide +kernel
theorem d8_5 : decode jdk_67_method_2_code 5 = .ok (.return_, 1) := by decide +kernel
theorem c_sbIX (l : Launch) (Z : State) (a0 : Array Value) (hw : ∀ d ∈ tables_1, d.before a0 Z = true) (hEW : EW Z a0 consts_1) (n0 : Nat) (c1 : Int32) (hc1 : ¬ c1 = 0) (S1 : Sta Z Z.heap "java/lang/String" "COMPACT_STRINGS" "Z" (.int c1)) (v2 : Value) (hv2 : v2.isRef = true) (S2 : Sta Z Z.heap "jdk/internal/util/Preconditions" "SIOOBE_FORMATTER" "Ljava/util/function/BiFunction;" v2) (S3 : Sta Z Z.heap "java/lang/StringUTF16" "$assertionsDisabled" "Z" (.int 1)) (S4 : Sta Z Z.heap "java/lang/StringUTF16" "HI_BYTE_SHIFT" "I" (.int 0)) (S5 : Sta Z Z.heap "java/lang/StringUTF16" "LO_BYTE_SHIFT" "I" (.int 8)) (a : Addr) (cap : Nat) {h0 : Heap} (o1 : Old Z n0 h0) (ge_a : n0 ≤ a) (hcap : cap ≤ 8) (Xa : Exa Z h0 a "java/lang/StringBuilder") (Fv : Fld Z h0 a "java/lang/AbstractStringBuilder" "value" "[B" .null) (Fc : Fld Z h0 a "java/lang/AbstractStringBuilder" "coder" "B" (.int 0)) (Fn : Fld Z h0 a "java/lang/AbstractStringBuilder" "count" "I" (.int 0)) (Fm : Fld Z h0 a "java/lang/AbstractStringBuilder" "maybeLatin1" "Z" (.int 0)) :
    Con Z a0 l (⟨"java/lang/StringBuilder", "<init>", "(I)V"⟩ : MethodName) jdk_67_method_2_code 2 (none) ({ frames := 2, cells := 1, slots := 8, locals := 25 } : Room) [] #[(.ref a), (.int (Int32.ofNat cap))] consts_1 h0 n0 [a] [a] (V0 fun h so => ∃ b, SbdX Z h a b cap 0 [] ∧ h0.size ≤ b ∧ so = [b]) := by
  refine Con.body (plainFor_of_name pn_java_lang_StringBuilder) hEW o1 (allS ge_a all0) #[.val (.ref a), .val (.int (Int32.ofNat cap))] (fun m => by first | (simp [entryFrame, mkF, argsToLocals, Value.category]; done) | rfl) ?_
  intro p e s m below meth c B hnm hret hlk G
  replace G := G.aloadN 1 d8_0 rfl rfl rfl |>.iloadN 2 d8_1 rfl rfl
  obtain ⟨vi, h1, soi, G', Ki, Qi⟩ := G.callI 5 rfl rfl (hw _ (mm 48 rfl)) (hw _ (mm 49 rfl)) (hw _ (mm 52 rfl)) (hw _ (mm 53 rfl)) (by decide) [(.int (Int32.ofNat cap))] [] rfl (c_asbIX l Z a0 hw hEW n0 c1 hc1 S1 v2 hv2 S2 S3 S4 S5 a cap G.old ge_a hcap Xa Fv Fc Fn Fm) (lenOf pd__I_V rfl) d8_2 rfl (nle rfl) (nle rfl) (nle rfl) (nle rfl) (allS (Or.inl (mm 0 rfl)) all0) (allS (mm 0 rfl) all0) (allS (mm 0 rfl) all0) rfl
  replace G := G'; clear G'
  obtain ⟨qi, b, hS, hb, rfl⟩ := Qi
  replace G := G.nov qi
  exact G.retV hret hlk d8_5 [b] (allS (mm 0 rfl) all0) ⟨rfl, b, hS, hb, rfl⟩ (nle rfl) (nle rfl)
theorem d16_0 : decode jdk_68_method_68_code 0 = .ok (.getstatic 18, 3) := by decide +kernel
theorem d16_3 : decode jdk_68_method_68_code 3 = .ok (.ifCond .eq 14, 3) := by decide +kernel
theorem d16_6 : decode jdk_68_method_68_code 6 = .ok (.aload_n 0, 1) := by decide +kernel
theorem d16_7 : decode jdk_68_method_68_code 7 = .ok (.getfield 22, 3) := by decide +kernel
theorem d16_10 : decode jdk_68_method_68_code 10 = .ok (.ifCond .ne 7, 3) := by decide +kernel
theorem d16_13 : decode jdk_68_method_68_code 13 = .ok (.iconst 1, 1) := by decide +kernel
theorem d16_14 : decode jdk_68_method_68_code 14 = .ok (.goto 4, 3) := by decide +kernel
theorem d16_17 : decode jdk_68_method_68_code 17 = .ok (.iconst 0, 1) := by decide +kernel
theorem d16_18 : decode jdk_68_method_68_code 18 = .ok (.ireturn, 1) := by decide +kernel
theorem c_isL1K (l : Launch) (Z : State) (a0 : Array Value) (hw : ∀ d ∈ tables_1, d.before a0 Z = true) (hEW : EW Z a0 consts_1) (n0 : Nat) (c1 : Int32) (hc1 : ¬ c1 = 0) (S1 : Sta Z Z.heap "java/lang/String" "COMPACT_STRINGS" "Z" (.int c1)) (v2 : Value) (hv2 : v2.isRef = true) (S2 : Sta Z Z.heap "jdk/internal/util/Preconditions" "SIOOBE_FORMATTER" "Ljava/util/function/BiFunction;" v2) (S3 : Sta Z Z.heap "java/lang/StringUTF16" "$assertionsDisabled" "Z" (.int 1)) (S4 : Sta Z Z.heap "java/lang/StringUTF16" "HI_BYTE_SHIFT" "I" (.int 0)) (S5 : Sta Z Z.heap "java/lang/StringUTF16" "LO_BYTE_SHIFT" "I" (.int 8)) (a b : Addr) (cap k : Nat) (cs : List Nat) {h0 : Heap} (o1 : Old Z n0 h0) (hk : k = 0 ∨ k = 1) (hS : SbdK Z h0 a b cap k cs) :
    Con Z a0 l (⟨"java/lang/AbstractStringBuilder", "isLatin1", "()Z"⟩ : MethodName) jdk_68_method_68_code 1 (some .boolean) ({ frames := 0, cells := 0, slots := 0, locals := 0 } : Room) [] #[(.ref a)] consts_1 h0 n0 [] [] (VV fun w h so => w = .int (Int32.ofNat (1 - k)) ∧ h = h0 ∧ so = []) := by
  refine Con.body (plainFor_of_name pn_java_lang_AbstractStringBuilder) hEW o1 all0 #[.val (.ref a)] (fun m => by first | (simp [entryFrame, mkF, argsToLocals, Value.category]; done) | rfl) ?_
  intro p e s m below meth c B hnm hret hlk G
  replace G := G.gets 3 (host := "") (Or.inl (hw _ (mm 55 rfl))) Via.refl (G.sta S1) d16_0 rfl |>.ifF 6 d16_3 (XT.i0_eq_f hc1) rfl |>.aloadN 7 d16_6 rfl rfl rfl |>.getf 10 (host := "") (Or.inl (hw _ (mm 58 rfl))) Via.refl hS.2.2.1 d16_7 rfl
  rcases hk with rfl | rfl
  · skip
    replace G := G.ifF 13 d16_10 (XT.i0_ne_f rfl) rfl |>.iconst 14 (1 : Int32) d16_13 rfl rfl |>.goto 18 d16_14 (by decide) (by decide)
    exact G.retN hret (Or.inl rfl) hlk d16_18 [] all0 ⟨_, rfl, rfl, rfl, rfl⟩ (nle rfl) (nle rfl)
  · skip
    replace G := G.ifT 17 d16_10 (XT.i0_ne_t (by decide)) (by decide) (by decide) |>.iconst 18 (0 : Int32) d16_17 rfl rfl
    exact G.retN hret (Or.inl rfl) hlk d16_18 [] all0 ⟨_, rfl, rfl, rfl, rfl⟩ (nle rfl) (nle rfl)
theorem c_nbfX (l : Launch) (Z : State) (a0 : Array Value) (hw : ∀ d ∈ tables_1, d.before a0 Z = true) (hEW : EW Z a0 consts_1) (n0 : Nat) (c1 : Int32) (hc1 : ¬ c1 = 0) (S1 : Sta Z Z.heap "java/lang/String" "COMPACT_STRINGS" "Z" (.int c1)) (v2 : Value) (hv2 : v2.isRef = true) (S2 : Sta Z Z.heap "jdk/internal/util/Preconditions" "SIOOBE_FORMATTER" "Ljava/util/function/BiFunction;" v2) (S3 : Sta Z Z.heap "java/lang/StringUTF16" "$assertionsDisabled" "Z" (.int 1)) (S4 : Sta Z Z.heap "java/lang/StringUTF16" "HI_BYTE_SHIFT" "I" (.int 0)) (S5 : Sta Z Z.heap "java/lang/StringUTF16" "LO_BYTE_SHIFT" "I" (.int 8)) (n : Nat) {h0 : Heap} (o1 : Old Z n0 h0) (hn : n ≤ 26) :
    Con Z a0 l (⟨"java/lang/StringUTF16", "newBytesFor", "(I)[B"⟩ : MethodName) jdk_52_method_2_code 1 (some (.array .byte)) ({ frames := 1, cells := 1, slots := 52, locals := 12 } : Room) [] #[(.int (Int32.ofNat n))] consts_1 h0 n0 [] [] (VV fun w h so => ∃ d, w = .ref d ∧ (∃ k, Arv Z h d k .byte (Int32.ofNat (n * 2)) [] (.int 0)) ∧ Exa Z h d "[B" ∧ h0.size ≤ d ∧ so = [d]) := by
  refine Con.body (plainFor_of_name pn_java_lang_StringUTF16) hEW o1 all0 #[.val (.int (Int32.ofNat n))] (fun m => by first | (simp [entryFrame, mkF, argsToLocals, Value.category]; done) | rfl) ?_
  intro p e s m below meth c B hnm hret hlk G
  replace G := G.iloadN 1 d45_0 rfl rfl
  obtain ⟨vn, h_n, son, G', Kn, Qn⟩ := G.callS 4 (hw _ (mm 225 rfl)) (hw _ (mm 226 rfl)) (hw _ (mm 112 rfl)) (hw _ (mm 227 rfl)) (by decide) [(.int (Int32.ofNat n))] [] rfl (c_nbl l Z a0 hw hEW n0 c1 hc1 S1 v2 hv2 S2 S3 S4 S5 n G.old (by omega)) (lenOf pd__I_I rfl) d45_1 rfl (nle rfl) (nle rfl) (nle rfl) (nle rfl) all0 all0 all0 rfl
  replace G := G'; clear G'
  obtain ⟨wn, qn, rfl, en, rfl⟩ := Qn
  replace G := G.val qn
  subst en
  obtain ⟨d, h1, kd, G', gd, sd, Ed, Ad, Yd⟩ := G.newarrayE 6 (ad := "[B") (hw _ (mm 20 rfl)) (by decide) d45_4 (ofn_nn (by omega)) 52 (by rw [ofn_nat (by omega)]; omega) (by decide) rfl (nle rfl) (nle rfl)
  replace G := G'; clear G'
  exact G.retA hret rfl rfl hlk d45_6 [d] (allS (mm 0 rfl) all0) ⟨_, rfl, d, rfl, ⟨kd, Ad⟩, Yd, sd, rfl⟩ (nle rfl) (nle rfl)
theorem d52_0 : decode jdk_68_method_11_code 0 = .ok (.aload_n 0, 1) := by decide +kernel
theorem d52_1 : decode jdk_68_method_11_code 1 = .ok (.invokevirtual 83, 3) := by decide +kernel
theorem d52_4 : decode jdk_68_method_11_code 4 = .ok (.ifCond .ne 4, 3) := by decide +kernel
theorem d52_7 : decode jdk_68_method_11_code 7 = .ok (.return_, 1) := by decide +kernel
theorem d52_8 : decode jdk_68_method_11_code 8 = .ok (.aload_n 0, 1) := by decide +kernel
theorem d52_9 : decode jdk_68_method_11_code 9 = .ok (.getfield 15, 3) := by decide +kernel
theorem d52_12 : decode jdk_68_method_11_code 12 = .ok (.arraylength, 1) := by decide +kernel
theorem d52_13 : decode jdk_68_method_11_code 13 = .ok (.invokestatic 26, 3) := by decide +kernel
theorem d52_16 : decode jdk_68_method_11_code 16 = .ok (.astore_n 1, 1) := by decide +kernel
theorem d52_17 : decode jdk_68_method_11_code 17 = .ok (.aload_n 0, 1) := by decide +kernel
theorem d52_18 : decode jdk_68_method_11_code 18 = .ok (.getfield 15, 3) := by decide +kernel
theorem d52_21 : decode jdk_68_method_11_code 21 = .ok (.iconst 0, 1) := by decide +kernel
theorem d52_22 : decode jdk_68_method_11_code 22 = .ok (.aload_n 1, 1) := by decide +kernel
theorem d52_23 : decode jdk_68_method_11_code 23 = .ok (.iconst 0, 1) := by decide +kernel
theorem d52_24 : decode jdk_68_method_11_code 24 = .ok (.aload_n 0, 1) := by decide +kernel
theorem d52_25 : decode jdk_68_method_11_code 25 = .ok (.getfield 79, 3) := by decide +kernel
theorem d52_28 : decode jdk_68_method_11_code 28 = .ok (.invokestatic 125, 3) := by decide +kernel
theorem d52_31 : decode jdk_68_method_11_code 31 = .ok (.aload_n 0, 1) := by decide +kernel
theorem d52_32 : decode jdk_68_method_11_code 32 = .ok (.aload_n 1, 1) := by decide +kernel
theorem d52_33 : decode jdk_68_method_11_code 33 = .ok (.putfield 15, 3) := by decide +kernel
theorem d52_36 : decode jdk_68_method_11_code 36 = .ok (.aload_n 0, 1) := by decide +kernel
theorem d52_37 : decode jdk_68_method_11_code 37 = .ok (.iconst 1, 1) := by decide +kernel
theorem d52_38 : decode jdk_68_method_11_code 38 = .ok (.putfield 22, 3) := by decide +kernel
theorem d52_41 : decode jdk_68_method_11_code 41 = .ok (.return_, 1) := by decide +kernel
theorem c_inflX (l : Launch) (Z : State) (a0 : Array Value) (hw : ∀ d ∈ tables_1, d.before a0 Z = true) (hEW : EW Z a0 consts_1) (n0 : Nat) (c1 : Int32) (hc1 : ¬ c1 = 0) (S1 : Sta Z Z.heap "java/lang/String" "COMPACT_STRINGS" "Z" (.int c1)) (v2 : Value) (hv2 : v2.isRef = true) (S2 : Sta Z Z.heap "jdk/internal/util/Preconditions" "SIOOBE_FORMATTER" "Ljava/util/function/BiFunction;" v2) (S3 : Sta Z Z.heap "java/lang/StringUTF16" "$assertionsDisabled" "Z" (.int 1)) (S4 : Sta Z Z.heap "java/lang/StringUTF16" "HI_BYTE_SHIFT" "I" (.int 0)) (S5 : Sta Z Z.heap "java/lang/StringUTF16" "LO_BYTE_SHIFT" "I" (.int 8)) (a b : Addr) (cap : Nat) (cs : List Nat) {h0 : Heap} (o1 : Old Z n0 h0) (ge_a : n0 ≤ a) (hcap : cap ≤ 26) (hlen : cs.length ≤ cap) (h8 : ∀ c ∈ cs, c < 256) (hS : SbdX Z h0 a b cap 0 cs) :
    Con Z a0 l (⟨"java/lang/AbstractStringBuilder", "inflate", "()V"⟩ : MethodName) jdk_68_method_11_code 2 (none) ({ frames := 5, cells := 1, slots := 52, locals := 76 } : Room) [] #[(.ref a)] consts_1 h0 n0 [a] [a, b] (V0 fun h so => ∃ b', SbdX Z h a b' cap 1 cs ∧ h0.size ≤ b' ∧ so = [b']) := by
  refine Con.body (plainFor_of_name pn_java_lang_AbstractStringBuilder) hEW o1 (allS ge_a all0) #[.val (.ref a), .unset] (fun m => by first | (simp [entryFrame, mkF, argsToLocals, Value.category]; done) | rfl) ?_
  intro p e s m below meth c B hnm hret hlk G
  obtain ⟨hS, Yb⟩ := hS
  replace G := G.aloadN 1 d52_0 rfl rfl rfl
  obtain ⟨vl, h_l, sol, G', Kl, Ql⟩ := G.callV 4 (hw _ (mm 184 rfl)) (hw _ (mm 89 rfl)) (nfSel (hw _ (mm 91 rfl))) (hw _ (mm 91 rfl)) (hw _ (mm 90 rfl)) (hw _ (mm 52 rfl)) (hw _ (mm 92 rfl)) hS.1 (by decide) [] [] rfl (c_isL1K l Z a0 hw hEW n0 c1 hc1 S1 v2 hv2 S2 S3 S4 S5 a b cap 0 cs G.old (Or.inl rfl) hS) (lenOf pd___Z rfl) d52_1 rfl (nle rfl) (nle rfl) (nle rfl) (nle rfl) all0 all0 all0 rfl
  replace G := G'; clear G'
  obtain ⟨wl, ql, rfl, el, rfl⟩ := Ql
  replace G := G.val ql
  subst el
  replace G := G.ifT 8 d52_4 (XT.i0_ne_t (by decide)) (by decide) (by decide)
  obtain ⟨Xa, Fv, Fc, Fn, Fm, kb, Ab⟩ := hS
  rw [Nat.pow_zero, Nat.mul_one] at Ab
  replace G := G.aloadN 9 d52_8 rfl rfl rfl |>.getf 12 (host := "") (Or.inl (hw _ (mm 56 rfl))) Via.refl Fv d52_9 rfl |>.alen 13 Ab d52_12 rfl
  obtain ⟨vn, h1, son, G', Kn, Qn⟩ := G.callS 16 (hw _ (mm 253 rfl)) (hw _ (mm 223 rfl)) (hw _ (mm 112 rfl)) (hw _ (mm 224 rfl)) (by decide) [(.int (Int32.ofNat cap))] [] rfl (c_nbfX l Z a0 hw hEW n0 c1 hc1 S1 v2 hv2 S2 S3 S4 S5 cap G.old hcap) (lenOf pd__I__B rfl) d52_13 rfl (nle rfl) (nle rfl) (nle rfl) (nle rfl) all0 all0 all0 rfl
  replace G := G'; clear G'
  obtain ⟨wn, qn, d, rfl, ⟨kdd, Ad⟩, Yd, sd, rfl⟩ := Qn
  replace G := G.val qn
  have nbd : b ≠ d := (ne_ge Ab.lt sd).symm; have nad : a ≠ d := (ne_ge Xa.lt sd).symm
  replace Ab := Ab.keep Kn nin0; replace Xa := Xa.keep Kn; replace Fv := Fv.keep Kn nin0; replace Fc := Fc.keep Kn nin0; replace Fn := Fn.keep Kn nin0; replace Fm := Fm.keep Kn nin0
  replace G := G.astoreN 17 #[.val (.ref a), .val (.ref d)] d52_16 rfl rfl rfl |>.aloadN 18 d52_17 rfl rfl rfl |>.getf 21 (host := "") (Or.inl (hw _ (mm 56 rfl))) Via.refl Fv d52_18 rfl |>.iconst 22 (0 : Int32) d52_21 rfl rfl |>.aloadN 23 d52_22 rfl rfl rfl |>.iconst 24 (0 : Int32) d52_23 rfl rfl |>.aloadN 25 d52_24 rfl rfl rfl |>.getf 28 (host := "") (Or.inl (hw _ (mm 86 rfl))) Via.refl Fn d52_25 rfl
  obtain ⟨vi, h2, soi, G', Ki, Qi⟩ := G.callS 31 (hw _ (mm 254 rfl)) (hw _ (mm 255 rfl)) (hw _ (mm 132 rfl)) (hw _ (mm 256 rfl)) (by decide) [(.ref b), (.int (0 : Int32)), (.ref d), (.int (0 : Int32)), (.int (Int32.ofNat cs.length))] [] rfl (c_lInfl l Z a0 hw hEW n0 c1 hc1 S1 v2 hv2 S2 S3 S4 S5 b d kb kdd cap cap [] cs G.old (G.nw (Or.inr sd)) (by omega) (by omega) (by simpa using hlen) hlen h8 nbd Ab Ad) (lenOf pd___BI_BII_V rfl) d52_28 rfl (nle rfl) (nle rfl) (nle rfl) (nle rfl) (allS (Or.inr sd) all0) (allS (mm 0 rfl) all0) (allS (mm 0 rfl) all0) rfl
  replace G := G'; clear G'
  obtain ⟨qi, Ad, rfl⟩ := Qi
  replace G := G.nov qi
  replace Xa := Xa.keep Ki; replace Fv := Fv.keep Ki (ninS nad nin0); replace Fc := Fc.keep Ki (ninS nad nin0); replace Fn := Fn.keep Ki (ninS nad nin0); replace Fm := Fm.keep Ki (ninS nad nin0); replace Yd := Yd.keep Ki
  replace G := G.aloadN 32 d52_31 rfl rfl rfl |>.aloadN 33 d52_32 rfl rfl rfl
  obtain ⟨h3, G', Wv', Fv', Kv'⟩ := G.putf 36 (host := "") (Or.inl (hw _ (mm 56 rfl))) Via.refl Fv Xa (Or.inl (hw _ (mm 57 rfl))) (hw _ (mm 32 rfl)) (ty := (.array .byte)) (by decide) rfl rfl (Or.inl (mm 0 rfl)) (mm 1 rfl) d52_33 rfl
  replace G := G'; clear G'
  replace Fn := Fn.other Wv' (Or.inr (slot_ne (Or.inl (hw _ (mm 87 rfl))) (Or.inl (hw _ (mm 57 rfl))) (by decide) (t := .int) (t' := (.array .byte)) (by decide) (by decide))); replace Fc := Fc.other Wv' (Or.inr (slot_ne (Or.inl (hw _ (mm 59 rfl))) (Or.inl (hw _ (mm 57 rfl))) (by decide) (t := .byte) (t' := (.array .byte)) (by decide) (by decide))); replace Fm := Fm.other Wv' (Or.inr (slot_ne (Or.inl (hw _ (mm 273 rfl))) (Or.inl (hw _ (mm 57 rfl))) (by decide) (t := .boolean) (t' := (.array .byte)) (by decide) (by decide))); replace Xa := Xa.wr Wv'; replace Ad := Ad.keep Kv' (ninS nad.symm nin0); replace Yd := Yd.keep Kv'
  replace G := G.aloadN 37 d52_36 rfl rfl rfl |>.iconst 38 (1 : Int32) d52_37 rfl rfl
  obtain ⟨h4, G', Wc', Fc', Kc'⟩ := G.putf 41 (host := "") (Or.inl (hw _ (mm 58 rfl))) Via.refl Fc Xa (Or.inl (hw _ (mm 59 rfl))) (hw _ (mm 32 rfl)) (ty := .byte) (by decide) rfl rfl (Or.inl (mm 0 rfl)) (mm 1 rfl) d52_38 rfl
  replace G := G'; clear G'
  replace Fn := Fn.other Wc' (Or.inr (slot_ne (Or.inl (hw _ (mm 87 rfl))) (Or.inl (hw _ (mm 59 rfl))) (by decide) (t := .int) (t' := .byte) (by decide) (by decide))); replace Fv' := Fv'.other Wc' (Or.inr (slot_ne (Or.inl (hw _ (mm 57 rfl))) (Or.inl (hw _ (mm 59 rfl))) (by decide) (t := (.array .byte)) (t' := .byte) (by decide) (by decide))); replace Fm := Fm.other Wc' (Or.inr (slot_ne (Or.inl (hw _ (mm 273 rfl))) (Or.inl (hw _ (mm 59 rfl))) (by decide) (t := .boolean) (t' := .byte) (by decide) (by decide))); replace Xa := Xa.wr Wc'; replace Ad := Ad.keep Kc' (ninS nad.symm nin0); replace Yd := Yd.keep Kc'
  exact G.retV hret hlk d52_41 [d] (allS (mm 0 rfl) all0) ⟨rfl, d, ⟨⟨Xa, Fv', Fc', Fn, Fm, kdd, Ad⟩, Yd⟩, sd, rfl⟩ (nle rfl) (nle rfl)
theorem d26_0 : decode jdk_41_method_11_code 0 = .ok (.iload_n 0, 1) := by decide +kernel
theorem d26_1 : decode jdk_41_method_11_code 1 = .ok (.ifCond .lt 8, 3) := by decide +kernel
theorem d26_4 : decode jdk_41_method_11_code 4 = .ok (.iload_n 0, 1) := by decide +kernel
theorem d26_5 : decode jdk_41_method_11_code 5 = .ok (.iload_n 1, 1) := by decide +kernel
theorem d26_6 : decode jdk_41_method_11_code 6 = .ok (.if_icmp .lt 10, 3) := by decide +kernel
theorem d26_9 : decode jdk_41_method_11_code 9 = .ok (.aload_n 2, 1) := by decide +kernel
theorem d26_10 : decode jdk_41_method_11_code 10 = .ok (.iload_n 0, 1) := by decide +kernel
theorem d26_11 : decode jdk_41_method_11_code 11 = .ok (.iload_n 1, 1) := by decide +kernel
theorem d26_12 : decode jdk_41_method_11_code 12 = .ok (.invokestatic 95, 3) := by decide +kernel
theorem d26_15 : decode jdk_41_method_11_code 15 = .ok (.athrow, 1) := by decide +kernel
theorem d26_16 : decode jdk_41_method_11_code 16 = .ok (.iload_n 0, 1) := by decide +kernel
theorem d26_17 : decode jdk_41_method_11_code 17 = .ok (.ireturn, 1) := by decide +kernel
theorem c_pci (l : Launch) (Z : State) (a0 : Array Value) (hw : ∀ d ∈ tables_1, d.before a0 Z = true) (hEW : EW Z a0 consts_1) (n0 : Nat) (c1 : Int32) (hc1 : ¬ c1 = 0) (S1 : Sta Z Z.heap "java/lang/String" "COMPACT_STRINGS" "Z" (.int c1)) (v2 : Value) (hv2 : v2.isRef = true) (S2 : Sta Z Z.heap "jdk/internal/util/Preconditions" "SIOOBE_FORMATTER" "Ljava/util/function/BiFunction;" v2) (S3 : Sta Z Z.heap "java/lang/StringUTF16" "$assertionsDisabled" "Z" (.int 1)) (S4 : Sta Z Z.heap "java/lang/StringUTF16" "HI_BYTE_SHIFT" "I" (.int 0)) (S5 : Sta Z Z.heap "java/lang/StringUTF16" "LO_BYTE_SHIFT" "I" (.int 8)) (i n : Int32) {h0 : Heap} (o1 : Old Z n0 h0) (h1 : ¬ i < 0) (h2 : i < n) :
    Con Z a0 l (⟨"jdk/internal/util/Preconditions", "checkIndex", "(IILjava/util/function/BiFunction;)I"⟩ : MethodName) jdk_41_method_11_code 3 (some .int) ({ frames := 0, cells := 0, slots := 0, locals := 0 } : Room) [] #[(.int i), (.int n), v2] consts_1 h0 n0 [] [] (VV fun w h so => w = .int i ∧ h = h0 ∧ so = []) := by
  refine Con.body (plainFor_of_name pn_jdk_internal_util_Preconditions) hEW o1 all0 #[.val (.int i), .val (.int n), .val v2] (fun m => by rcases XT.refc hv2 with rfl | ⟨r, rfl⟩ <;> rfl) ?_
  intro p e s m below meth c B hnm hret hlk G
  replace G := G.iloadN 1 d26_0 rfl rfl |>.ifF 4 d26_1 (XT.i0_lt_f h1) rfl |>.iloadN 5 d26_4 rfl rfl |>.iloadN 6 d26_5 rfl rfl |>.icmpT 16 d26_6 (XT.ii_lt_t h2) (by decide) (by decide) |>.iloadN 17 d26_16 rfl rfl
  exact G.retI hret hlk d26_17 [] all0 ⟨_, rfl, rfl, rfl, rfl⟩ (nle rfl) (nle rfl)
theorem d25_0 : decode jdk_42_method_155_code 0 = .ok (.iload_n 0, 1) := by decide +kernel
theorem d25_1 : decode jdk_42_method_155_code 1 = .ok (.iload_n 1, 1) := by decide +kernel
theorem d25_2 : decode jdk_42_method_155_code 2 = .ok (.getstatic 1053, 3) := by decide +kernel
theorem d25_5 : decode jdk_42_method_155_code 5 = .ok (.invokestatic 1059, 3) := by decide +kernel
theorem d25_8 : decode jdk_42_method_155_code 8 = .ok (.pop, 1) := by decide +kernel
theorem d25_9 : decode jdk_42_method_155_code 9 = .ok (.return_, 1) := by decide +kernel
theorem c_chkIdx (l : Launch) (Z : State) (a0 : Array Value) (hw : ∀ d ∈ tables_1, d.before a0 Z = true) (hEW : EW Z a0 consts_1) (n0 : Nat) (c1 : Int32) (hc1 : ¬ c1 = 0) (S1 : Sta Z Z.heap "java/lang/String" "COMPACT_STRINGS" "Z" (.int c1)) (v2 : Value) (hv2 : v2.isRef = true) (S2 : Sta Z Z.heap "jdk/internal/util/Preconditions" "SIOOBE_FORMATTER" "Ljava/util/function/BiFunction;" v2) (S3 : Sta Z Z.heap "java/lang/StringUTF16" "$assertionsDisabled" "Z" (.int 1)) (S4 : Sta Z Z.heap "java/lang/StringUTF16" "HI_BYTE_SHIFT" "I" (.int 0)) (S5 : Sta Z Z.heap "java/lang/StringUTF16" "LO_BYTE_SHIFT" "I" (.int 8)) (i n : Int32) {h0 : Heap} (o1 : Old Z n0 h0) (h1 : ¬ i < 0) (h2 : i < n) :
    Con Z a0 l (⟨"java/lang/String", "checkIndex", "(II)V"⟩ : MethodName) jdk_42_method_155_code 2 (none) ({ frames := 1, cells := 0, slots := 0, locals := 14 } : Room) [] #[(.int i), (.int n)] consts_1 h0 n0 [] [] (V0 fun h so => h = h0 ∧ so = []) := by
  refine Con.body (plainFor_of_name pn_java_lang_String) hEW o1 all0 #[.val (.int i), .val (.int n)] (fun m => by first | (simp [entryFrame, mkF, argsToLocals, Value.category]; done) | rfl) ?_
  intro p e s m below meth c B hnm hret hlk G
  replace G := G.iloadN 1 d25_0 rfl rfl |>.iloadN 2 d25_1 rfl rfl |>.gets 5 (host := "") (Or.inl (hw _ (mm 137 rfl))) Via.refl (G.sta S2) d25_2 rfl
  obtain ⟨vp, h_p, sop, G', Kp, Qp⟩ := G.callS 8 (hw _ (mm 139 rfl)) (hw _ (mm 140 rfl)) (hw _ (mm 138 rfl)) (hw _ (mm 141 rfl)) (by decide) [(.int i), (.int n), v2] [] rfl (c_pci l Z a0 hw hEW n0 c1 hc1 S1 v2 hv2 S2 S3 S4 S5 i n G.old h1 h2) (lenOf pd__IILjava_util_function_BiFunction__I rfl) d25_5 rfl (nle rfl) (nle rfl) (nle rfl) (nle rfl) all0 all0 all0 rfl
  replace G := G'; clear G'
  obtain ⟨wp, qp, rfl, ep, rfl⟩ := Qp
  replace G := G.val qp
  subst ep
  replace G := G.pop 9 d25_8 rfl rfl
  exact G.retV hret hlk d25_9 [] all0 ⟨rfl, rfl, rfl⟩ (nle rfl) (nle rfl)
theorem d24_0 : decode jdk_43_method_2_code 0 = .ok (.iload_n 1, 1) := by decide +kernel
theorem d24_1 : decode jdk_43_method_2_code 1 = .ok (.aload_n 0, 1) := by decide +kernel
theorem d24_2 : decode jdk_43_method_2_code 2 = .ok (.arraylength, 1) := by decide +kernel
theorem d24_3 : decode jdk_43_method_2_code 3 = .ok (.invokestatic 9, 3) := by decide +kernel
theorem d24_6 : decode jdk_43_method_2_code 6 = .ok (.aload_n 0, 1) := by decide +kernel
theorem d24_7 : decode jdk_43_method_2_code 7 = .ok (.iload_n 1, 1) := by decide +kernel
theorem d24_8 : decode jdk_43_method_2_code 8 = .ok (.baload, 1) := by decide +kernel
theorem d24_9 : decode jdk_43_method_2_code 9 = .ok (.sipush 255, 3) := by decide +kernel
theorem d24_12 : decode jdk_43_method_2_code 12 = .ok (.iand, 1) := by decide +kernel
theorem d24_13 : decode jdk_43_method_2_code 13 = .ok (.i2c, 1) := by decide +kernel
theorem d24_14 : decode jdk_43_method_2_code 14 = .ok (.ireturn, 1) := by decide +kernel
theorem c_l1char (l : Launch) (Z : State) (a0 : Array Value) (hw : ∀ d ∈ tables_1, d.before a0 Z = true) (hEW : EW Z a0 consts_1) (n0 : Nat) (c1 : Int32) (hc1 : ¬ c1 = 0) (S1 : Sta Z Z.heap "java/lang/String" "COMPACT_STRINGS" "Z" (.int c1)) (v2 : Value) (hv2 : v2.isRef = true) (S2 : Sta Z Z.heap "jdk/internal/util/Preconditions" "SIOOBE_FORMATTER" "Ljava/util/function/BiFunction;" v2) (S3 : Sta Z Z.heap "java/lang/StringUTF16" "$assertionsDisabled" "Z" (.int 1)) (S4 : Sta Z Z.heap "java/lang/StringUTF16" "HI_BYTE_SHIFT" "I" (.int 0)) (S5 : Sta Z Z.heap "java/lang/StringUTF16" "LO_BYTE_SHIFT" "I" (.int 8)) (b : Addr) (kb : ClassId) (bs : List Value) (i : Nat) (x : Int32) {h0 : Heap} (o1 : Old Z n0 h0) (hi : i < bs.length) (hn : bs.length < 2147483648) (hv : bs.getD i (.int 0) = .int x) (Ab : Arv Z h0 b kb .byte (Int32.ofNat bs.length) bs (.int 0)) :
    Con Z a0 l (⟨"java/lang/StringLatin1", "charAt", "([BI)C"⟩ : MethodName) jdk_43_method_2_code 2 (some .char) ({ frames := 2, cells := 0, slots := 0, locals := 27 } : Room) [] #[(.ref b), (.int (Int32.ofNat i))] consts_1 h0 n0 [] [] (VV fun w h so => w = .int (x &&& 255) ∧ h = h0 ∧ so = []) := by
  refine Con.body (plainFor_of_name pn_java_lang_StringLatin1) hEW o1 all0 #[.val (.ref b), .val (.int (Int32.ofNat i))] (fun m => by first | (simp [entryFrame, mkF, argsToLocals, Value.category]; done) | rfl) ?_
  intro p e s m below meth c B hnm hret hlk G
  replace G := G.iloadN 1 d24_0 rfl rfl |>.aloadN 2 d24_1 rfl rfl rfl |>.alen 3 Ab d24_2 rfl
  obtain ⟨vc, h_c, soc, G', Kc, Qc⟩ := G.callS 6 (hw _ (mm 134 rfl)) (hw _ (mm 135 rfl)) (hw _ (mm 8 rfl)) (hw _ (mm 136 rfl)) (by decide) [(.int (Int32.ofNat i)), (.int (Int32.ofNat bs.length))] [] rfl (c_chkIdx l Z a0 hw hEW n0 c1 hc1 S1 v2 hv2 S2 S3 S4 S5 (Int32.ofNat i) (Int32.ofNat bs.length) G.old (ofn_nn (by omega)) (ofn_lt hi hn)) (lenOf pd__II_V rfl) d24_3 rfl (nle rfl) (nle rfl) (nle rfl) (nle rfl) all0 all0 all0 rfl
  replace G := G'; clear G'
  obtain ⟨qc, ec, rfl⟩ := Qc
  replace G := G.nov qc
  subst ec
  replace G := G.aloadN 7 d24_6 rfl rfl rfl |>.iloadN 8 d24_7 rfl rfl |>.baload 9 (v := (.int x)) Ab ⟨ofn_nn (by omega), ofn_lt hi hn⟩ (by rw [ofn_nat (by omega)]; exact hv) d24_8 rfl |>.sipush 12 (255 : Int32) d24_9 (by decide) rfl |>.iand 13 d24_12 rfl |>.i2c 14 d24_13 rfl |>.top (y := (.int (x &&& 255))) (congrArg Value.int (i2c_mask x))
  exact G.retN hret (Or.inr (Or.inr (Or.inl rfl))) hlk d24_14 [] all0 ⟨_, rfl, congrArg Value.int (i2c_mask x), rfl, rfl⟩ (nle rfl) (nle rfl)
theorem d23_0 : decode jdk_42_method_154_code 0 = .ok (.getstatic 38, 3) := by decide +kernel
theorem d23_3 : decode jdk_42_method_154_code 3 = .ok (.ifCond .eq 14, 3) := by decide +kernel
theorem d23_6 : decode jdk_42_method_154_code 6 = .ok (.aload_n 0, 1) := by decide +kernel
theorem d23_7 : decode jdk_42_method_154_code 7 = .ok (.getfield 15, 3) := by decide +kernel
theorem d23_10 : decode jdk_42_method_154_code 10 = .ok (.ifCond .ne 7, 3) := by decide +kernel
theorem d23_13 : decode jdk_42_method_154_code 13 = .ok (.iconst 1, 1) := by decide +kernel
theorem d23_14 : decode jdk_42_method_154_code 14 = .ok (.goto 4, 3) := by decide +kernel
theorem d23_17 : decode jdk_42_method_154_code 17 = .ok (.iconst 0, 1) := by decide +kernel
theorem d23_18 : decode jdk_42_method_154_code 18 = .ok (.ireturn, 1) := by decide +kernel
theorem c_isL1S (l : Launch) (Z : State) (a0 : Array Value) (hw : ∀ d ∈ tables_1, d.before a0 Z = true) (hEW : EW Z a0 consts_1) (n0 : Nat) (c1 : Int32) (hc1 : ¬ c1 = 0) (S1 : Sta Z Z.heap "java/lang/String" "COMPACT_STRINGS" "Z" (.int c1)) (v2 : Value) (hv2 : v2.isRef = true) (S2 : Sta Z Z.heap "jdk/internal/util/Preconditions" "SIOOBE_FORMATTER" "Ljava/util/function/BiFunction;" v2) (S3 : Sta Z Z.heap "java/lang/StringUTF16" "$assertionsDisabled" "Z" (.int 1)) (S4 : Sta Z Z.heap "java/lang/StringUTF16" "HI_BYTE_SHIFT" "I" (.int 0)) (S5 : Sta Z Z.heap "java/lang/StringUTF16" "LO_BYTE_SHIFT" "I" (.int 8)) (a : Addr) {h0 : Heap} (o1 : Old Z n0 h0) (Fc : Fld Z h0 a "java/lang/String" "coder" "B" (.int 0)) :
    Con Z a0 l (⟨"java/lang/String", "isLatin1", "()Z"⟩ : MethodName) jdk_42_method_154_code 1 (some .boolean) ({ frames := 0, cells := 0, slots := 0, locals := 0 } : Room) [] #[(.ref a)] consts_1 h0 n0 [] [] (VV fun w h so => w = .int 1 ∧ h = h0 ∧ so = []) := by
  refine Con.body (plainFor_of_name pn_java_lang_String) hEW o1 all0 #[.val (.ref a)] (fun m => by first | (simp [entryFrame, mkF, argsToLocals, Value.category]; done) | rfl) ?_
  intro p e s m below meth c B hnm hret hlk G
  replace G := G.gets 3 (host := "") (Or.inl (hw _ (mm 44 rfl))) Via.refl (G.sta S1) d23_0 rfl |>.ifF 6 d23_3 (XT.i0_eq_f hc1) rfl |>.aloadN 7 d23_6 rfl rfl rfl |>.getf 10 (host := "") (Or.inl (hw _ (mm 26 rfl))) Via.refl Fc d23_7 rfl |>.ifF 13 d23_10 (XT.i0_ne_f rfl) rfl |>.iconst 14 (1 : Int32) d23_13 rfl rfl |>.goto 18 d23_14 (by decide) (by decide)
  exact G.retN hret (Or.inl rfl) hlk d23_18 [] all0 ⟨_, rfl, rfl, rfl, rfl⟩ (nle rfl) (nle rfl)
theorem d22_0 : decode jdk_42_method_56_code 0 = .ok (.aload_n 0, 1) := by decide +kernel
theorem d22_1 : decode jdk_42_method_56_code 1 = .ok (.invokevirtual 492, 3) := by decide +kernel
theorem d22_4 : decode jdk_42_method_56_code 4 = .ok (.ifCond .eq 12, 3) := by decide +kernel
theorem d22_7 : decode jdk_42_method_56_code 7 = .ok (.aload_n 0, 1) := by decide +kernel
theorem d22_8 : decode jdk_42_method_56_code 8 = .ok (.getfield 9, 3) := by decide +kernel
theorem d22_11 : decode jdk_42_method_56_code 11 = .ok (.iload_n 1, 1) := by decide +kernel
theorem d22_12 : decode jdk_42_method_56_code 12 = .ok (.invokestatic 495, 3) := by decide +kernel
theorem d22_15 : decode jdk_42_method_56_code 15 = .ok (.ireturn, 1) := by decide +kernel
theorem d22_16 : decode jdk_42_method_56_code 16 = .ok (.aload_n 0, 1) := by decide +kernel
theorem d22_17 : decode jdk_42_method_56_code 17 = .ok (.getfield 9, 3) := by decide +kernel
theorem d22_20 : decode jdk_42_method_56_code 20 = .ok (.iload_n 1, 1) := by decide +kernel
theorem d22_21 : decode jdk_42_method_56_code 21 = .ok (.invokestatic 498, 3) := by decide +kernel
theorem d22_24 : decode jdk_42_method_56_code 24 = .ok (.ireturn, 1) := by decide +kernel
theorem c_charAt (l : Launch) (Z : State) (a0 : Array Value) (hw : ∀ d ∈ tables_1, d.before a0 Z = true) (hEW : EW Z a0 consts_1) (n0 : Nat) (c1 : Int32) (hc1 : ¬ c1 = 0) (S1 : Sta Z Z.heap "java/lang/String" "COMPACT_STRINGS" "Z" (.int c1)) (v2 : Value) (hv2 : v2.isRef = true) (S2 : Sta Z Z.heap "jdk/internal/util/Preconditions" "SIOOBE_FORMATTER" "Ljava/util/function/BiFunction;" v2) (S3 : Sta Z Z.heap "java/lang/StringUTF16" "$assertionsDisabled" "Z" (.int 1)) (S4 : Sta Z Z.heap "java/lang/StringUTF16" "HI_BYTE_SHIFT" "I" (.int 0)) (S5 : Sta Z Z.heap "java/lang/StringUTF16" "LO_BYTE_SHIFT" "I" (.int 8)) (a b : Addr) (bs : List Value) (i : Nat) (x : Int32) {h0 : Heap} (o1 : Old Z n0 h0) (hi : i < bs.length) (hn : bs.length < 2147483648) (hv : bs.getD i (.int 0) = .int x) (hS : Str Z h0 a b bs) :
    Con Z a0 l (⟨"java/lang/String", "charAt", "(I)C"⟩ : MethodName) jdk_42_method_56_code 2 (some .char) ({ frames := 3, cells := 0, slots := 0, locals := 40 } : Room) [] #[(.ref a), (.int (Int32.ofNat i))] consts_1 h0 n0 [] [] (VV fun w h so => w = .int (x &&& 255) ∧ h = h0 ∧ so = []) := by
  refine Con.body (plainFor_of_name pn_java_lang_String) hEW o1 all0 #[.val (.ref a), .val (.int (Int32.ofNat i))] (fun m => by first | (simp [entryFrame, mkF, argsToLocals, Value.category]; done) | rfl) ?_
  intro p e s m below meth c B hnm hret hlk G
  obtain ⟨Xa, Fc, Fv, kb, Ab⟩ := hS
  replace G := G.aloadN 1 d22_0 rfl rfl rfl
  obtain ⟨vl, h_l, sol, G', Kl, Ql⟩ := G.callV 4 (hw _ (mm 125 rfl)) (hw _ (mm 126 rfl)) (nfSel (hw _ (mm 128 rfl))) (hw _ (mm 128 rfl)) (hw _ (mm 127 rfl)) (hw _ (mm 8 rfl)) (hw _ (mm 129 rfl)) Xa (by decide) [] [] rfl (c_isL1S l Z a0 hw hEW n0 c1 hc1 S1 v2 hv2 S2 S3 S4 S5 a G.old Fc) (lenOf pd___Z rfl) d22_1 rfl (nle rfl) (nle rfl) (nle rfl) (nle rfl) all0 all0 all0 rfl
  replace G := G'; clear G'
  obtain ⟨wl, ql, rfl, el, rfl⟩ := Ql
  replace G := G.val ql
  subst el
  replace G := G.ifF 7 d22_4 (XT.i0_eq_f (by decide)) rfl |>.aloadN 8 d22_7 rfl rfl rfl |>.getf 11 (host := "") (Or.inl (hw _ (mm 25 rfl))) Via.refl Fv d22_8 rfl |>.iloadN 12 d22_11 rfl rfl
  obtain ⟨vc, h_c, soc, G', Kc, Qc⟩ := G.callS 15 (hw _ (mm 130 rfl)) (hw _ (mm 131 rfl)) (hw _ (mm 132 rfl)) (hw _ (mm 133 rfl)) (by decide) [(.ref b), (.int (Int32.ofNat i))] [] rfl (c_l1char l Z a0 hw hEW n0 c1 hc1 S1 v2 hv2 S2 S3 S4 S5 b kb bs i x G.old hi hn hv Ab) (lenOf pd___BI_C rfl) d22_12 rfl (nle rfl) (nle rfl) (nle rfl) (nle rfl) all0 all0 all0 rfl
  replace G := G'; clear G'
  obtain ⟨wc, qc, rfl, ec, rfl⟩ := Qc
  replace G := G.val qc
  subst ec
  exact G.retN hret (Or.inr (Or.inr (Or.inl rfl))) hlk d22_15 [] all0 ⟨_, rfl, congrArg Value.int (i2c_mask x), rfl, rfl⟩ (nle rfl) (nle rfl)
theorem d50_0 : decode jdk_52_method_91_code 0 = .ok (.iload_n 0, 1) := by decide +kernel
theorem d50_1 : decode jdk_52_method_91_code 1 = .ok (.aload_n 1, 1) := by decide +kernel
theorem d50_2 : decode jdk_52_method_91_code 2 = .ok (.invokestatic 48, 3) := by decide +kernel
theorem d50_5 : decode jdk_52_method_91_code 5 = .ok (.invokestatic 414, 3) := by decide +kernel
theorem d50_8 : decode jdk_52_method_91_code 8 = .ok (.return_, 1) := by decide +kernel
theorem c_uchk (l : Launch) (Z : State) (a0 : Array Value) (hw : ∀ d ∈ tables_1, d.before a0 Z = true) (hEW : EW Z a0 consts_1) (n0 : Nat) (c1 : Int32) (hc1 : ¬ c1 = 0) (S1 : Sta Z Z.heap "java/lang/String" "COMPACT_STRINGS" "Z" (.int c1)) (v2 : Value) (hv2 : v2.isRef = true) (S2 : Sta Z Z.heap "jdk/internal/util/Preconditions" "SIOOBE_FORMATTER" "Ljava/util/function/BiFunction;" v2) (S3 : Sta Z Z.heap "java/lang/StringUTF16" "$assertionsDisabled" "Z" (.int 1)) (S4 : Sta Z Z.heap "java/lang/StringUTF16" "HI_BYTE_SHIFT" "I" (.int 0)) (S5 : Sta Z Z.heap "java/lang/StringUTF16" "LO_BYTE_SHIFT" "I" (.int 8)) (b : Addr) (kb : ClassId) (n i : Nat) (vs : List Value) {h0 : Heap} (o1 : Old Z n0 h0) (hi : i < n) (hn : n < 1073741824) (Ab : Arv Z h0 b kb .byte (Int32.ofNat (n * 2)) vs (.int 0)) :
    Con Z a0 l (⟨"java/lang/StringUTF16", "checkIndex", "(I[B)V"⟩ : MethodName) jdk_52_method_91_code 2 (none) ({ frames := 2, cells := 0, slots := 0, locals := 27 } : Room) [] #[(.int (Int32.ofNat i)), (.ref b)] consts_1 h0 n0 [] [] (V0 fun h so => h = h0 ∧ so = []) := by
  refine Con.body (plainFor_of_name pn_java_lang_StringUTF16) hEW o1 all0 #[.val (.int (Int32.ofNat i)), .val (.ref b)] (fun m => by first | (simp [entryFrame, mkF, argsToLocals, Value.category]; done) | rfl) ?_
  intro p e s m below meth c B hnm hret hlk G
  replace G := G.iloadN 1 d50_0 rfl rfl |>.aloadN 2 d50_1 rfl rfl rfl
  obtain ⟨vl, h_l, sol, G', Kl, Ql⟩ := G.callS 5 (hw _ (mm 244 rfl)) (hw _ (mm 245 rfl)) (hw _ (mm 112 rfl)) (hw _ (mm 246 rfl)) (by decide) [(.ref b)] [(.int (Int32.ofNat i))] rfl (c_ulen l Z a0 hw hEW n0 c1 hc1 S1 v2 hv2 S2 S3 S4 S5 b kb n vs G.old hn Ab) (lenOf pd___B_I rfl) d50_2 rfl (nle rfl) (nle rfl) (nle rfl) (nle rfl) all0 all0 all0 rfl
  replace G := G'; clear G'
  obtain ⟨wl, ql, rfl, el, rfl⟩ := Ql
  replace G := G.val ql
  subst el
  obtain ⟨vc, h_c, soc, G', Kc, Qc⟩ := G.callS 8 (hw _ (mm 247 rfl)) (hw _ (mm 135 rfl)) (hw _ (mm 8 rfl)) (hw _ (mm 136 rfl)) (by decide) [(.int (Int32.ofNat i)), (.int (Int32.ofNat n))] [] rfl (c_chkIdx l Z a0 hw hEW n0 c1 hc1 S1 v2 hv2 S2 S3 S4 S5 (Int32.ofNat i) (Int32.ofNat n) G.old (ofn_nn (by omega)) (ofn_lt hi (by omega))) (lenOf pd__II_V rfl) d50_5 rfl (nle rfl) (nle rfl) (nle rfl) (nle rfl) all0 all0 all0 rfl
  replace G := G'; clear G'
  obtain ⟨qc, ec, rfl⟩ := Qc
  replace G := G.nov qc
  subst ec
  exact G.retV hret hlk d50_8 [] all0 ⟨rfl, rfl, rfl⟩ (nle rfl) (nle rfl)
theorem d49_0 : decode jdk_52_method_83_code 0 = .ok (.iload_n 1, 1) := by decide +kernel
theorem d49_1 : decode jdk_52_method_83_code 1 = .ok (.aload_n 0, 1) := by decide +kernel
theorem d49_2 : decode jdk_52_method_83_code 2 = .ok (.invokestatic 67, 3) := by decide +kernel
theorem d49_5 : decode jdk_52_method_83_code 5 = .ok (.aload_n 0, 1) := by decide +kernel
theorem d49_6 : decode jdk_52_method_83_code 6 = .ok (.iload_n 1, 1) := by decide +kernel
theorem d49_7 : decode jdk_52_method_83_code 7 = .ok (.invokestatic 71, 3) := by decide +kernel
theorem d49_10 : decode jdk_52_method_83_code 10 = .ok (.ireturn, 1) := by decide +kernel
theorem c_uchAt (l : Launch) (Z : State) (a0 : Array Value) (hw : ∀ d ∈ tables_1, d.before a0 Z = true) (hEW : EW Z a0 consts_1) (n0 : Nat) (c1 : Int32) (hc1 : ¬ c1 = 0) (S1 : Sta Z Z.heap "java/lang/String" "COMPACT_STRINGS" "Z" (.int c1)) (v2 : Value) (hv2 : v2.isRef = true) (S2 : Sta Z Z.heap "jdk/internal/util/Preconditions" "SIOOBE_FORMATTER" "Ljava/util/function/BiFunction;" v2) (S3 : Sta Z Z.heap "java/lang/StringUTF16" "$assertionsDisabled" "Z" (.int 1)) (S4 : Sta Z Z.heap "java/lang/StringUTF16" "HI_BYTE_SHIFT" "I" (.int 0)) (S5 : Sta Z Z.heap "java/lang/StringUTF16" "LO_BYTE_SHIFT" "I" (.int 8)) (b : Addr) (kb : ClassId) (i : Nat) (cs : List Nat) {h0 : Heap} (o1 : Old Z n0 h0) (hc : cs.getD i 0 < 65536) (hi : i < cs.length) (hn : cs.length < 1073741824) (Ab : Arv Z h0 b kb .byte (Int32.ofNat (cs.length * 2)) (encS 1 cs) (.int 0)) :
    Con Z a0 l (⟨"java/lang/StringUTF16", "charAt", "([BI)C"⟩ : MethodName) jdk_52_method_83_code 2 (some .char) ({ frames := 3, cells := 0, slots := 0, locals := 40 } : Room) [] #[(.ref b), (.int (Int32.ofNat i))] consts_1 h0 n0 [] [] (VV fun w h so => w = .int (Int32.ofNat (cs.getD i 0)) ∧ h = h0 ∧ so = []) := by
  refine Con.body (plainFor_of_name pn_java_lang_StringUTF16) hEW o1 all0 #[.val (.ref b), .val (.int (Int32.ofNat i))] (fun m => by first | (simp [entryFrame, mkF, argsToLocals, Value.category]; done) | rfl) ?_
  intro p e s m below meth c B hnm hret hlk G
  replace G := G.iloadN 1 d49_0 rfl rfl |>.aloadN 2 d49_1 rfl rfl rfl
  obtain ⟨vk', h_k, sok', G', Kk', Qk'⟩ := G.callS 5 (hw _ (mm 241 rfl)) (hw _ (mm 242 rfl)) (hw _ (mm 112 rfl)) (hw _ (mm 243 rfl)) (by decide) [(.int (Int32.ofNat i)), (.ref b)] [] rfl (c_uchk l Z a0 hw hEW n0 c1 hc1 S1 v2 hv2 S2 S3 S4 S5 b kb cs.length i (encS 1 cs) G.old hi hn Ab) (lenOf pd__I_B_V rfl) d49_2 rfl (nle rfl) (nle rfl) (nle rfl) (nle rfl) all0 all0 all0 rfl
  replace G := G'; clear G'
  obtain ⟨qk', ek, rfl⟩ := Qk'
  replace G := G.nov qk'
  subst ek
  replace G := G.aloadN 6 d49_5 rfl rfl rfl |>.iloadN 7 d49_6 rfl rfl
  obtain ⟨vg, h_g, sog, G', Kg, Qg⟩ := G.callS 10 (hw _ (mm 235 rfl)) (hw _ (mm 236 rfl)) (hw _ (mm 112 rfl)) (hw _ (mm 237 rfl)) (by decide) [(.ref b), (.int (Int32.ofNat i))] [] rfl (c_getCh l Z a0 hw hEW n0 c1 hc1 S1 v2 hv2 S2 S3 S4 S5 b kb cs.length i cs G.old hc hi (Nat.le_refl _) hn Ab) (lenOf pd___BI_C rfl) d49_7 rfl (nle rfl) (nle rfl) (nle rfl) (nle rfl) all0 all0 all0 rfl
  replace G := G'; clear G'
  obtain ⟨wg, qg, rfl, eg, rfl⟩ := Qg
  replace G := G.val qg
  subst eg
  exact G.retN hret (Or.inr (Or.inr (Or.inl rfl))) hlk d49_10 [] all0 ⟨_, rfl, congrArg Value.int (i2c_w hc), rfl, rfl⟩ (nle rfl) (nle rfl)
theorem c_isL1SK (l : Launch) (Z : State) (a0 : Array Value) (hw : ∀ d ∈ tables_1, d.before a0 Z = true) (hEW : EW Z a0 consts_1) (n0 : Nat) (c1 : Int32) (hc1 : ¬ c1 = 0) (S1 : Sta Z Z.heap "java/lang/String" "COMPACT_STRINGS" "Z" (.int c1)) (v2 : Value) (hv2 : v2.isRef = true) (S2 : Sta Z Z.heap "jdk/internal/util/Preconditions" "SIOOBE_FORMATTER" "Ljava/util/function/BiFunction;" v2) (S3 : Sta Z Z.heap "java/lang/StringUTF16" "$assertionsDisabled" "Z" (.int 1)) (S4 : Sta Z Z.heap "java/lang/StringUTF16" "HI_BYTE_SHIFT" "I" (.int 0)) (S5 : Sta Z Z.heap "java/lang/StringUTF16" "LO_BYTE_SHIFT" "I" (.int 8)) (a : Addr) (k : Nat) {h0 : Heap} (o1 : Old Z n0 h0) (hk : k = 0 ∨ k = 1) (Fc : Fld Z h0 a "java/lang/String" "coder" "B" (.int (Int32.ofNat k))) :
    Con Z a0 l (⟨"java/lang/String", "isLatin1", "()Z"⟩ : MethodName) jdk_42_method_154_code 1 (some .boolean) ({ frames := 0, cells := 0, slots := 0, locals := 0 } : Room) [] #[(.ref a)] consts_1 h0 n0 [] [] (VV fun w h so => w = .int (Int32.ofNat (1 - k)) ∧ h = h0 ∧ so = []) := by
  refine Con.body (plainFor_of_name pn_java_lang_String) hEW o1 all0 #[.val (.ref a)] (fun m => by first | (simp [entryFrame, mkF, argsToLocals, Value.category]; done) | rfl) ?_
  intro p e s m below meth c B hnm hret hlk G
  replace G := G.gets 3 (host := "") (Or.inl (hw _ (mm 44 rfl))) Via.refl (G.sta S1) d23_0 rfl |>.ifF 6 d23_3 (XT.i0_eq_f hc1) rfl |>.aloadN 7 d23_6 rfl rfl rfl |>.getf 10 (host := "") (Or.inl (hw _ (mm 26 rfl))) Via.refl Fc d23_7 rfl
  rcases hk with rfl | rfl
  · skip
    replace G := G.ifF 13 d23_10 (XT.i0_ne_f rfl) rfl |>.iconst 14 (1 : Int32) d23_13 rfl rfl |>.goto 18 d23_14 (by decide) (by decide)
    exact G.retN hret (Or.inl rfl) hlk d23_18 [] all0 ⟨_, rfl, rfl, rfl, rfl⟩ (nle rfl) (nle rfl)
  · skip
    replace G := G.ifT 17 d23_10 (XT.i0_ne_t (by decide)) (by decide) (by decide) |>.iconst 18 (0 : Int32) d23_17 rfl rfl
    exact G.retN hret (Or.inl rfl) hlk d23_18 [] all0 ⟨_, rfl, rfl, rfl, rfl⟩ (nle rfl) (nle rfl)
theorem c_charK (l : Launch) (Z : State) (a0 : Array Value) (hw : ∀ d ∈ tables_1, d.before a0 Z = true) (hEW : EW Z a0 consts_1) (n0 : Nat) (c1 : Int32) (hc1 : ¬ c1 = 0) (S1 : Sta Z Z.heap "java/lang/String" "COMPACT_STRINGS" "Z" (.int c1)) (v2 : Value) (hv2 : v2.isRef = true) (S2 : Sta Z Z.heap "jdk/internal/util/Preconditions" "SIOOBE_FORMATTER" "Ljava/util/function/BiFunction;" v2) (S3 : Sta Z Z.heap "java/lang/StringUTF16" "$assertionsDisabled" "Z" (.int 1)) (S4 : Sta Z Z.heap "java/lang/StringUTF16" "HI_BYTE_SHIFT" "I" (.int 0)) (S5 : Sta Z Z.heap "java/lang/StringUTF16" "LO_BYTE_SHIFT" "I" (.int 8)) (a b : Addr) (k i : Nat) (cs : List Nat) {h0 : Heap} (o1 : Old Z n0 h0) (hk : k = 0 ∨ k = 1) (hi : i < cs.length) (hn : cs.length < 1000) (hc : ∀ c ∈ cs, c < 65536) (h8 : k = 0 → ∀ c ∈ cs, c < 256) (hS : StrK Z h0 a b k cs) :
    Con Z a0 l (⟨"java/lang/String", "charAt", "(I)C"⟩ : MethodName) jdk_42_method_56_code 2 (some .char) ({ frames := 4, cells := 0, slots := 0, locals := 53 } : Room) [] #[(.ref a), (.int (Int32.ofNat i))] consts_1 h0 n0 [] [] (VV fun w h so => w = .int (Int32.ofNat (cs.getD i 0)) ∧ h = h0 ∧ so = []) := by
  refine Con.body (plainFor_of_name pn_java_lang_String) hEW o1 all0 #[.val (.ref a), .val (.int (Int32.ofNat i))] (fun m => by first | (simp [entryFrame, mkF, argsToLocals, Value.category]; done) | rfl) ?_
  intro p e s m below meth c B hnm hret hlk G
  have hcc := hc _ (getD_memN cs i hi)
  obtain ⟨Xa, Fc, Fv, kb, Ab⟩ := hS
  replace G := G.aloadN 1 d22_0 rfl rfl rfl
  obtain ⟨vl, h_l, sol, G', Kl, Ql⟩ := G.callV 4 (hw _ (mm 125 rfl)) (hw _ (mm 126 rfl)) (nfSel (hw _ (mm 128 rfl))) (hw _ (mm 128 rfl)) (hw _ (mm 127 rfl)) (hw _ (mm 8 rfl)) (hw _ (mm 129 rfl)) Xa (by decide) [] [] rfl (c_isL1SK l Z a0 hw hEW n0 c1 hc1 S1 v2 hv2 S2 S3 S4 S5 a k G.old hk Fc) (lenOf pd___Z rfl) d22_1 rfl (nle rfl) (nle rfl) (nle rfl) (nle rfl) all0 all0 all0 rfl
  replace G := G'; clear G'
  obtain ⟨wl, ql, rfl, el, rfl⟩ := Ql
  replace G := G.val ql
  subst el
  rcases hk with rfl | rfl
  · skip
    have hle2 := encS_len0 cs
    rw [Nat.pow_zero, Nat.mul_one, ← hle2] at Ab
    replace G := G.ifF 7 d22_4 (XT.i0_eq_f (by decide)) rfl |>.aloadN 8 d22_7 rfl rfl rfl |>.getf 11 (host := "") (Or.inl (hw _ (mm 25 rfl))) Via.refl Fv d22_8 rfl |>.iloadN 12 d22_11 rfl rfl
    obtain ⟨vc, h_c, soc, G', Kc, Qc⟩ := G.callS 15 (hw _ (mm 130 rfl)) (hw _ (mm 131 rfl)) (hw _ (mm 132 rfl)) (hw _ (mm 133 rfl)) (by decide) [(.ref b), (.int (Int32.ofNat i))] [] rfl (c_l1char l Z a0 hw hEW n0 c1 hc1 S1 v2 hv2 S2 S3 S4 S5 b kb (encS 0 cs) i (byt (cs.getD i 0)) G.old (by omega) (by omega) (encS0_at cs i hi) Ab) (lenOf pd___BI_C rfl) d22_12 rfl (nle rfl) (nle rfl) (nle rfl) (nle rfl) all0 all0 all0 rfl
    replace G := G'; clear G'
    obtain ⟨wc, qc, rfl, ec, rfl⟩ := Qc
    replace G := G.val qc
    subst ec
    have h88 := h8 rfl _ (getD_memN cs i hi)
    replace G := G.top (y := (.int (Int32.ofNat (cs.getD i 0)))) (congrArg Value.int ((byt_mask (by omega)).trans (by rw [Nat.mod_eq_of_lt h88])))
    exact G.retN hret (Or.inr (Or.inr (Or.inl rfl))) hlk d22_15 [] all0 ⟨_, rfl, congrArg Value.int (i2c_w hcc), rfl, rfl⟩ (nle rfl) (nle rfl)
  · skip
    rw [Nat.pow_one] at Ab
    replace G := G.ifT 16 d22_4 (XT.i0_eq_t rfl) (by decide) (by decide) |>.aloadN 17 d22_16 rfl rfl rfl |>.getf 20 (host := "") (Or.inl (hw _ (mm 25 rfl))) Via.refl Fv d22_17 rfl |>.iloadN 21 d22_20 rfl rfl
    obtain ⟨vc, h_c, soc, G', Kc, Qc⟩ := G.callS 24 (hw _ (mm 238 rfl)) (hw _ (mm 239 rfl)) (hw _ (mm 112 rfl)) (hw _ (mm 240 rfl)) (by decide) [(.ref b), (.int (Int32.ofNat i))] [] rfl (c_uchAt l Z a0 hw hEW n0 c1 hc1 S1 v2 hv2 S2 S3 S4 S5 b kb i cs G.old hcc hi (by omega) Ab) (lenOf pd___BI_C rfl) d22_21 rfl (nle rfl) (nle rfl) (nle rfl) (nle rfl) all0 all0 all0 rfl
    replace G := G'; clear G'
    obtain ⟨wc, qc, rfl, ec, rfl⟩ := Qc
    replace G := G.val qc
    subst ec
    exact G.retN hret (Or.inr (Or.inr (Or.inl rfl))) hlk d22_24 [] all0 ⟨_, rfl, congrArg Value.int (i2c_w hcc), rfl, rfl⟩ (nle rfl) (nle rfl)
theorem d58_0 : decode jdk_52_method_71_code 0 = .ok (.iload_n 1, 1) := by decide +kernel
theorem d58_1 : decode jdk_52_method_71_code 1 = .ok (.aload_n 0, 1) := by decide +kernel
theorem d58_2 : decode jdk_52_method_71_code 2 = .ok (.invokestatic 67, 3) := by decide +kernel
theorem d58_5 : decode jdk_52_method_71_code 5 = .ok (.aload_n 0, 1) := by decide +kernel
theorem d58_6 : decode jdk_52_method_71_code 6 = .ok (.iload_n 1, 1) := by decide +kernel
theorem d58_7 : decode jdk_52_method_71_code 7 = .ok (.iload_n 2, 1) := by decide +kernel
theorem d58_8 : decode jdk_52_method_71_code 8 = .ok (.invokestatic 111, 3) := by decide +kernel
theorem d58_11 : decode jdk_52_method_71_code 11 = .ok (.return_, 1) := by decide +kernel
theorem c_putSB (l : Launch) (Z : State) (a0 : Array Value) (hw : ∀ d ∈ tables_1, d.before a0 Z = true) (hEW : EW Z a0 consts_1) (n0 : Nat) (c1 : Int32) (hc1 : ¬ c1 = 0) (S1 : Sta Z Z.heap "java/lang/String" "COMPACT_STRINGS" "Z" (.int c1)) (v2 : Value) (hv2 : v2.isRef = true) (S2 : Sta Z Z.heap "jdk/internal/util/Preconditions" "SIOOBE_FORMATTER" "Ljava/util/function/BiFunction;" v2) (S3 : Sta Z Z.heap "java/lang/StringUTF16" "$assertionsDisabled" "Z" (.int 1)) (S4 : Sta Z Z.heap "java/lang/StringUTF16" "HI_BYTE_SHIFT" "I" (.int 0)) (S5 : Sta Z Z.heap "java/lang/StringUTF16" "LO_BYTE_SHIFT" "I" (.int 8)) (b : Addr) (kb : ClassId) (n ch : Nat) (cs : List Nat) {h0 : Heap} (o1 : Old Z n0 h0) (ge_b : n0 ≤ b) (hc : ch < 65536) (hi : cs.length < n) (hn : n < 1073741824) (Ab : Arv Z h0 b kb .byte (Int32.ofNat (n * 2)) (encS 1 cs) (.int 0)) :
    Con Z a0 l (⟨"java/lang/StringUTF16", "putCharSB", "([BII)V"⟩ : MethodName) jdk_52_method_71_code 3 (none) ({ frames := 3, cells := 0, slots := 0, locals := 40 } : Room) [] #[(.ref b), (.int (Int32.ofNat cs.length)), (.int (Int32.ofNat ch))] consts_1 h0 n0 [b] [b] (V0 fun h so => Arv Z h b kb .byte (Int32.ofNat (n * 2)) (encS 1 (cs ++ [ch])) (.int 0) ∧ so = []) := by
  refine Con.body (plainFor_of_name pn_java_lang_StringUTF16) hEW o1 (allS ge_b all0) #[.val (.ref b), .val (.int (Int32.ofNat cs.length)), .val (.int (Int32.ofNat ch))] (fun m => by first | (simp [entryFrame, mkF, argsToLocals, Value.category]; done) | rfl) ?_
  intro p e s m below meth c B hnm hret hlk G
  replace G := G.iloadN 1 d58_0 rfl rfl |>.aloadN 2 d58_1 rfl rfl rfl
  obtain ⟨vk', h_k, sok', G', Kk', Qk'⟩ := G.callS 5 (hw _ (mm 241 rfl)) (hw _ (mm 242 rfl)) (hw _ (mm 112 rfl)) (hw _ (mm 243 rfl)) (by decide) [(.int (Int32.ofNat cs.length)), (.ref b)] [] rfl (c_uchk l Z a0 hw hEW n0 c1 hc1 S1 v2 hv2 S2 S3 S4 S5 b kb n cs.length (encS 1 cs) G.old hi hn Ab) (lenOf pd__I_B_V rfl) d58_2 rfl (nle rfl) (nle rfl) (nle rfl) (nle rfl) all0 all0 all0 rfl
  replace G := G'; clear G'
  obtain ⟨qk', ek, rfl⟩ := Qk'
  replace G := G.nov qk'
  subst ek
  replace G := G.aloadN 6 d58_5 rfl rfl rfl |>.iloadN 7 d58_6 rfl rfl |>.iloadN 8 d58_7 rfl rfl
  obtain ⟨vp, h1, sop, G', Kp, Qp⟩ := G.callS 11 (hw _ (mm 229 rfl)) (hw _ (mm 230 rfl)) (hw _ (mm 112 rfl)) (hw _ (mm 231 rfl)) (by decide) [(.ref b), (.int (Int32.ofNat cs.length)), (.int (Int32.ofNat ch))] [] rfl (c_putCh l Z a0 hw hEW n0 c1 hc1 S1 v2 hv2 S2 S3 S4 S5 b kb n ch cs G.old ge_b hc hi hn Ab) (lenOf pd___BII_V rfl) d58_8 rfl (nle rfl) (nle rfl) (nle rfl) (nle rfl) (allS (Or.inl (mm 0 rfl)) all0) (allS (mm 0 rfl) all0) (allS (mm 0 rfl) all0) rfl
  replace G := G'; clear G'
  obtain ⟨qp, Ab, rfl⟩ := Qp
  replace G := G.nov qp
  exact G.retV hret hlk d58_11 [] all0 ⟨rfl, Ab, rfl⟩ (nle rfl) (nle rfl)
theorem d37_0 : decode jdk_43_method_3_code 0 = .ok (.iload_n 0, 1) := by decide +kernel
theorem d37_1 : decode jdk_43_method_3_code 1 = .ok (.sipush 255, 3) := by decide +kernel
theorem d37_4 : decode jdk_43_method_3_code 4 = .ok (.if_icmp .gt 7, 3) := by decide +kernel
theorem d37_7 : decode jdk_43_method_3_code 7 = .ok (.iconst 1, 1) := by decide +kernel
theorem d37_8 : decode jdk_43_method_3_code 8 = .ok (.goto 4, 3) := by decide +kernel
theorem d37_11 : decode jdk_43_method_3_code 11 = .ok (.iconst 0, 1) := by decide +kernel
theorem d37_12 : decode jdk_43_method_3_code 12 = .ok (.ireturn, 1) := by decide +kernel
theorem c_ce1 (l : Launch) (Z : State) (a0 : Array Value) (hw : ∀ d ∈ tables_1, d.before a0 Z = true) (hEW : EW Z a0 consts_1) (n0 : Nat) (c1 : Int32) (hc1 : ¬ c1 = 0) (S1 : Sta Z Z.heap "java/lang/String" "COMPACT_STRINGS" "Z" (.int c1)) (v2 : Value) (hv2 : v2.isRef = true) (S2 : Sta Z Z.heap "jdk/internal/util/Preconditions" "SIOOBE_FORMATTER" "Ljava/util/function/BiFunction;" v2) (S3 : Sta Z Z.heap "java/lang/StringUTF16" "$assertionsDisabled" "Z" (.int 1)) (S4 : Sta Z Z.heap "java/lang/StringUTF16" "HI_BYTE_SHIFT" "I" (.int 0)) (S5 : Sta Z Z.heap "java/lang/StringUTF16" "LO_BYTE_SHIFT" "I" (.int 8)) (x : Nat) {h0 : Heap} (o1 : Old Z n0 h0) (hx : x < 256) :
    Con Z a0 l (⟨"java/lang/StringLatin1", "canEncode", "(C)Z"⟩ : MethodName) jdk_43_method_3_code 1 (some .boolean) ({ frames := 0, cells := 0, slots := 0, locals := 0 } : Room) [] #[(.int (Int32.ofNat x))] consts_1 h0 n0 [] [] (VV fun w h so => w = .int 1 ∧ h = h0 ∧ so = []) := by
  refine Con.body (plainFor_of_name pn_java_lang_StringLatin1) hEW o1 all0 #[.val (.int (Int32.ofNat x))] (fun m => by first | (simp [entryFrame, mkF, argsToLocals, Value.category]; done) | rfl) ?_
  intro p e s m below meth c B hnm hret hlk G
  replace G := G.iloadN 1 d37_0 rfl rfl |>.sipush 4 (255 : Int32) d37_1 (by decide) rfl |>.icmpF 7 d37_4 (XT.ii_gt_f (c255 hx)) rfl |>.iconst 8 (1 : Int32) d37_7 rfl rfl |>.goto 12 d37_8 (by decide) (by decide)
  exact G.retN hret (Or.inl rfl) hlk d37_12 [] all0 ⟨_, rfl, rfl, rfl, rfl⟩ (nle rfl) (nle rfl)
theorem c_ce0 (l : Launch) (Z : State) (a0 : Array Value) (hw : ∀ d ∈ tables_1, d.before a0 Z = true) (hEW : EW Z a0 consts_1) (n0 : Nat) (c1 : Int32) (hc1 : ¬ c1 = 0) (S1 : Sta Z Z.heap "java/lang/String" "COMPACT_STRINGS" "Z" (.int c1)) (v2 : Value) (hv2 : v2.isRef = true) (S2 : Sta Z Z.heap "jdk/internal/util/Preconditions" "SIOOBE_FORMATTER" "Ljava/util/function/BiFunction;" v2) (S3 : Sta Z Z.heap "java/lang/StringUTF16" "$assertionsDisabled" "Z" (.int 1)) (S4 : Sta Z Z.heap "java/lang/StringUTF16" "HI_BYTE_SHIFT" "I" (.int 0)) (S5 : Sta Z Z.heap "java/lang/StringUTF16" "LO_BYTE_SHIFT" "I" (.int 8)) (x : Nat) {h0 : Heap} (o1 : Old Z n0 h0) (hx : 255 < x) (hx2 : x < 65536) :
    Con Z a0 l (⟨"java/lang/StringLatin1", "canEncode", "(C)Z"⟩ : MethodName) jdk_43_method_3_code 1 (some .boolean) ({ frames := 0, cells := 0, slots := 0, locals := 0 } : Room) [] #[(.int (Int32.ofNat x))] consts_1 h0 n0 [] [] (VV fun w h so => w = .int 0 ∧ h = h0 ∧ so = []) := by
  refine Con.body (plainFor_of_name pn_java_lang_StringLatin1) hEW o1 all0 #[.val (.int (Int32.ofNat x))] (fun m => by first | (simp [entryFrame, mkF, argsToLocals, Value.category]; done) | rfl) ?_
  intro p e s m below meth c B hnm hret hlk G
  replace G := G.iloadN 1 d37_0 rfl rfl |>.sipush 4 (255 : Int32) d37_1 (by decide) rfl |>.icmpT 11 d37_4 (XT.ii_gt_t (ofn_lt (i := 255) hx (by omega))) (by decide) (by decide) |>.iconst 12 (0 : Int32) d37_11 rfl rfl
  exact G.retN hret (Or.inl rfl) hlk d37_12 [] all0 ⟨_, rfl, rfl, rfl, rfl⟩ (nle rfl) (nle rfl)
theorem d35_0 : decode jdk_68_method_31_code 0 = .ok (.aload_n 0, 1) := by decide +kernel
theorem d35_1 : decode jdk_68_method_31_code 1 = .ok (.aload_n 0, 1) := by decide +kernel
theorem d35_2 : decode jdk_68_method_31_code 2 = .ok (.getfield 79, 3) := by decide +kernel
theorem d35_5 : decode jdk_68_method_31_code 5 = .ok (.iconst 1, 1) := by decide +kernel
theorem d35_6 : decode jdk_68_method_31_code 6 = .ok (.iadd, 1) := by decide +kernel
theorem d35_7 : decode jdk_68_method_31_code 7 = .ok (.invokevirtual 100, 3) := by decide +kernel
theorem d35_10 : decode jdk_68_method_31_code 10 = .ok (.aload_n 0, 1) := by decide +kernel
theorem d35_11 : decode jdk_68_method_31_code 11 = .ok (.invokevirtual 83, 3) := by decide +kernel
theorem d35_14 : decode jdk_68_method_31_code 14 = .ok (.ifCond .eq 31, 3) := by decide +kernel
theorem d35_17 : decode jdk_68_method_31_code 17 = .ok (.iload_n 1, 1) := by decide +kernel
theorem d35_18 : decode jdk_68_method_31_code 18 = .ok (.invokestatic 191, 3) := by decide +kernel
theorem d35_21 : decode jdk_68_method_31_code 21 = .ok (.ifCond .eq 24, 3) := by decide +kernel
theorem d35_24 : decode jdk_68_method_31_code 24 = .ok (.aload_n 0, 1) := by decide +kernel
theorem d35_25 : decode jdk_68_method_31_code 25 = .ok (.getfield 15, 3) := by decide +kernel
theorem d35_28 : decode jdk_68_method_31_code 28 = .ok (.aload_n 0, 1) := by decide +kernel
theorem d35_29 : decode jdk_68_method_31_code 29 = .ok (.dup, 1) := by decide +kernel
theorem d35_30 : decode jdk_68_method_31_code 30 = .ok (.getfield 79, 3) := by decide +kernel
theorem d35_33 : decode jdk_68_method_31_code 33 = .ok (.dup_x1, 1) := by decide +kernel
theorem d35_34 : decode jdk_68_method_31_code 34 = .ok (.iconst 1, 1) := by decide +kernel
theorem d35_35 : decode jdk_68_method_31_code 35 = .ok (.iadd, 1) := by decide +kernel
theorem d35_36 : decode jdk_68_method_31_code 36 = .ok (.putfield 79, 3) := by decide +kernel
theorem d35_39 : decode jdk_68_method_31_code 39 = .ok (.iload_n 1, 1) := by decide +kernel
theorem d35_40 : decode jdk_68_method_31_code 40 = .ok (.i2b, 1) := by decide +kernel
theorem d35_41 : decode jdk_68_method_31_code 41 = .ok (.bastore, 1) := by decide +kernel
theorem d35_42 : decode jdk_68_method_31_code 42 = .ok (.goto 33, 3) := by decide +kernel
theorem d35_45 : decode jdk_68_method_31_code 45 = .ok (.aload_n 0, 1) := by decide +kernel
theorem d35_46 : decode jdk_68_method_31_code 46 = .ok (.invokevirtual 83, 3) := by decide +kernel
theorem d35_49 : decode jdk_68_method_31_code 49 = .ok (.ifCond .eq 7, 3) := by decide +kernel
theorem d35_52 : decode jdk_68_method_31_code 52 = .ok (.aload_n 0, 1) := by decide +kernel
theorem d35_53 : decode jdk_68_method_31_code 53 = .ok (.invokevirtual 195, 3) := by decide +kernel
theorem d35_56 : decode jdk_68_method_31_code 56 = .ok (.aload_n 0, 1) := by decide +kernel
theorem d35_57 : decode jdk_68_method_31_code 57 = .ok (.getfield 15, 3) := by decide +kernel
theorem d35_60 : decode jdk_68_method_31_code 60 = .ok (.aload_n 0, 1) := by decide +kernel
theorem d35_61 : decode jdk_68_method_31_code 61 = .ok (.dup, 1) := by decide +kernel
theorem d35_62 : decode jdk_68_method_31_code 62 = .ok (.getfield 79, 3) := by decide +kernel
theorem d35_65 : decode jdk_68_method_31_code 65 = .ok (.dup_x1, 1) := by decide +kernel
theorem d35_66 : decode jdk_68_method_31_code 66 = .ok (.iconst 1, 1) := by decide +kernel
theorem d35_67 : decode jdk_68_method_31_code 67 = .ok (.iadd, 1) := by decide +kernel
theorem d35_68 : decode jdk_68_method_31_code 68 = .ok (.putfield 79, 3) := by decide +kernel
theorem d35_71 : decode jdk_68_method_31_code 71 = .ok (.iload_n 1, 1) := by decide +kernel
theorem d35_72 : decode jdk_68_method_31_code 72 = .ok (.invokestatic 197, 3) := by decide +kernel
theorem d35_75 : decode jdk_68_method_31_code 75 = .ok (.aload_n 0, 1) := by decide +kernel
theorem d35_76 : decode jdk_68_method_31_code 76 = .ok (.areturn, 1) := by decide +kernel
theorem c_asbCX (l : Launch) (Z : State) (a0 : Array Value) (hw : ∀ d ∈ tables_1, d.before a0 Z = true) (hEW : EW Z a0 consts_1) (n0 : Nat) (c1 : Int32) (hc1 : ¬ c1 = 0) (S1 : Sta Z Z.heap "java/lang/String" "COMPACT_STRINGS" "Z" (.int c1)) (v2 : Value) (hv2 : v2.isRef = true) (S2 : Sta Z Z.heap "jdk/internal/util/Preconditions" "SIOOBE_FORMATTER" "Ljava/util/function/BiFunction;" v2) (S3 : Sta Z Z.heap "java/lang/StringUTF16" "$assertionsDisabled" "Z" (.int 1)) (S4 : Sta Z Z.heap "java/lang/StringUTF16" "HI_BYTE_SHIFT" "I" (.int 0)) (S5 : Sta Z Z.heap "java/lang/StringUTF16" "LO_BYTE_SHIFT" "I" (.int 8)) (a b : Addr) (cap k ch : Nat) (cs : List Nat) {h0 : Heap} (o1 : Old Z n0 h0) (ge_a : n0 ≤ a) (ge_b : n0 ≤ b) (hk : k = 0 ∨ k = 1) (hc : ch < 65536) (hle : cs.length + 1 ≤ 12) (hcap : cap ≤ 26) (hbs : cs.length ≤ cap) (h8 : k = 0 → ∀ c ∈ cs, c < 256) (hS : SbdX Z h0 a b cap k cs) :
    Con Z a0 l (⟨"java/lang/AbstractStringBuilder", "append", "(C)Ljava/lang/AbstractStringBuilder;"⟩ : MethodName) jdk_68_method_31_code 2 (some (.object "java/lang/AbstractStringBuilder")) ({ frames := 6, cells := 2, slots := 104, locals := 89 } : Room) [] #[(.ref a), (.int (Int32.ofNat ch))] consts_1 h0 n0 [a, b] [a, b] (VV fun w h so => w = .ref a ∧ ∃ b' cap', SbdX Z h a b' cap' (max k (kd [ch])) (cs ++ [ch]) ∧ (cs ++ [ch]).length ≤ cap' ∧ cap' ≤ 26 ∧ (b' = b ∨ h0.size ≤ b') ∧ so = [b']) := by
  refine Con.body (plainFor_of_name pn_java_lang_AbstractStringBuilder) hEW o1 (allS ge_a (allS ge_b all0)) #[.val (.ref a), .val (.int (Int32.ofNat ch))] (fun m => by first | (simp [entryFrame, mkF, argsToLocals, Value.category]; done) | rfl) ?_
  intro p e s m below meth c B hnm hret hlk G
  replace G := G.aloadN 1 d35_0 rfl rfl rfl |>.aloadN 2 d35_1 rfl rfl rfl |>.getf 5 (host := "") (Or.inl (hw _ (mm 86 rfl))) Via.refl hS.1.2.2.2.1 d35_2 rfl |>.iconst 6 (1 : Int32) d35_5 rfl rfl |>.iadd 7 d35_6 rfl |>.top (y := (.int (Int32.ofNat (cs.length + 1)))) (congrArg Value.int (ofn_add _ 1))
  obtain ⟨ve, h1, soe, G', Ke, Qe⟩ := G.callV 10 (hw _ (mm 179 rfl)) (declOf (hw _ (mm 180 rfl)) (hw _ (mm 183 rfl))) (nfSel (hw _ (mm 182 rfl))) (hw _ (mm 182 rfl)) (hw _ (mm 180 rfl)) (hw _ (mm 52 rfl)) (hw _ (mm 183 rfl)) hS.1.1 (by decide) [(.int (Int32.ofNat (cs.length + 1)))] [] rfl (c_ensX l Z a0 hw hEW n0 c1 hc1 S1 v2 hv2 S2 S3 S4 S5 a b cap (cs.length + 1) k cs G.old ge_a hk hle hcap hbs hS) (lenOf pd__I_V rfl) d35_7 rfl (nle rfl) (nle rfl) (nle rfl) (nle rfl) (allS (Or.inl (mm 0 rfl)) all0) (allS (mm 0 rfl) (allS (mm 1 rfl) all0)) (allS (mm 0 rfl) all0) rfl
  replace G := G'; clear G'
  obtain ⟨qe, b1, cp1, hS1, hl1, hcp, hb1, rfl⟩ := Qe
  replace G := G.nov qe
  have nwb : NW h0 [a, b] b1 := hb1.elim (fun q => Or.inl (q ▸ (mm 1 rfl))) Or.inr; have sz1 := G.sz; have hlen : (cs ++ [ch]).length = cs.length + 1 := by rw [List.length_append]; rfl
  replace G := G.aloadN 11 d35_10 rfl rfl rfl
  obtain ⟨vl, h_l, sol, G', Kl, Ql⟩ := G.callV 14 (hw _ (mm 184 rfl)) (hw _ (mm 89 rfl)) (nfSel (hw _ (mm 91 rfl))) (hw _ (mm 91 rfl)) (hw _ (mm 90 rfl)) (hw _ (mm 52 rfl)) (hw _ (mm 92 rfl)) hS1.1.1 (by decide) [] [] rfl (c_isL1K l Z a0 hw hEW n0 c1 hc1 S1 v2 hv2 S2 S3 S4 S5 a b1 cp1 k cs G.old hk hS1.1) (lenOf pd___Z rfl) d35_11 rfl (nle rfl) (nle rfl) (nle rfl) (nle rfl) all0 all0 all0 rfl
  replace G := G'; clear G'
  obtain ⟨wl, ql, rfl, el, rfl⟩ := Ql
  replace G := G.val ql
  subst el
  rcases hk with rfl | rfl
  · skip
    replace G := G.ifF 17 d35_14 (XT.i0_eq_f (by decide)) rfl |>.iloadN 18 d35_17 rfl rfl
    rcases Nat.lt_or_ge ch 256 with hx | hx
    · skip
      obtain ⟨vc, h_c, soc, G', Kc, Qc⟩ := G.callS 21 (hw _ (mm 185 rfl)) (hw _ (mm 186 rfl)) (hw _ (mm 132 rfl)) (hw _ (mm 187 rfl)) (by decide) [(.int (Int32.ofNat ch))] [] rfl (c_ce1 l Z a0 hw hEW n0 c1 hc1 S1 v2 hv2 S2 S3 S4 S5 ch G.old hx) (lenOf pd__C_Z rfl) d35_18 rfl (nle rfl) (nle rfl) (nle rfl) (nle rfl) all0 all0 all0 rfl
      replace G := G'; clear G'
      obtain ⟨wc, qc, rfl, ec, rfl⟩ := Qc
      replace G := G.val qc
      subst ec
      replace G := G.ifF 24 d35_21 (XT.i0_eq_f (by decide)) rfl
      obtain ⟨⟨Xa, Fv, Fc, Fn, Fm, kb, Ab⟩, Yb⟩ := hS1
      rw [Nat.pow_zero, Nat.mul_one] at Ab
      have nab : a ≠ b1 := ne_arr Xa (hw _ (mm 32 rfl)) Ab.choose_spec.1
      replace G := G.aloadN 25 d35_24 rfl rfl rfl |>.getf 28 (host := "") (Or.inl (hw _ (mm 56 rfl))) Via.refl Fv d35_25 rfl |>.aloadN 29 d35_28 rfl rfl rfl |>.dup 30 d35_29 rfl rfl |>.getf 33 (host := "") (Or.inl (hw _ (mm 86 rfl))) Via.refl Fn d35_30 rfl |>.dupX1 34 d35_33 rfl rfl rfl |>.iconst 35 (1 : Int32) d35_34 rfl rfl |>.iadd 36 d35_35 rfl
      replace G := G.top (y := (.int (Int32.ofNat (cs ++ [ch]).length))) (congrArg Value.int ((ofn_add _ 1).trans (by rw [hlen])))
      obtain ⟨h4, G', Ww, Fw, Kw⟩ := G.putf 39 (host := "") (Or.inl (hw _ (mm 86 rfl))) Via.refl Fn Xa (Or.inl (hw _ (mm 87 rfl))) (hw _ (mm 32 rfl)) (ty := .int) (by decide) rfl rfl (Or.inl (mm 0 rfl)) (mm 1 rfl) d35_36 rfl
      replace G := G'; clear G'
      replace Fv := Fv.other Ww (Or.inr (slot_ne (Or.inl (hw _ (mm 57 rfl))) (Or.inl (hw _ (mm 87 rfl))) (by decide) (t := (.array .byte)) (t' := .int) (by decide) (by decide))); replace Fc := Fc.other Ww (Or.inr (slot_ne (Or.inl (hw _ (mm 59 rfl))) (Or.inl (hw _ (mm 87 rfl))) (by decide) (t := .byte) (t' := .int) (by decide) (by decide))); replace Fm := Fm.other Ww (Or.inr (slot_ne (Or.inl (hw _ (mm 273 rfl))) (Or.inl (hw _ (mm 87 rfl))) (by decide) (t := .boolean) (t' := .int) (by decide) (by decide))); replace Xa := Xa.wr Ww; replace Ab := Ab.keep Kw (ninS nab.symm nin0); replace Yb := Yb.keep Kw
      replace G := G.iloadN 40 d35_39 rfl rfl |>.i2b 41 d35_40 rfl
      have hle0 := encS_len0 cs; have Ab' := Ab.pad (vs' := encS 0 cs ++ [(.int 0)]) (pad_rep _ (.int 0) 1)
      obtain ⟨h5, G', As, Ks⟩ := G.bastore 42 cs.length Ab' ⟨ofn_nn (by omega), ofn_lt (by omega) (by omega)⟩ (ofn_nat (by omega)) (by rw [List.length_append, hle0]; simp) nwb (mm 0 rfl) d35_41 rfl
      replace G := G'; clear G'
      rw [set_app _ _ _ _ hle0, byt2] at As
      replace As : Arv Z h5 b1 kb .byte (Int32.ofNat cp1) (encS 0 (cs ++ [ch])) (.int 0) := by rw [encS_app]; exact As
      replace Xa := Xa.keep Ks; replace Fv := Fv.keep Ks (ninS nab nin0); replace Fc := Fc.keep Ks (ninS nab nin0); replace Fw := Fw.keep Ks (ninS nab nin0); replace Fm := Fm.keep Ks (ninS nab nin0); replace Yb := Yb.keep Ks
      replace G := G.goto 75 d35_42 (by decide) (by decide) |>.aloadN 76 d35_75 rfl rfl rfl
      have em : max 0 (kd [ch]) = 0 := by rw [kd_of (cs := [ch]) (by intro c q; cases List.mem_singleton.mp q; exact hx)]; rfl
      exact G.retA hret rfl rfl hlk d35_76 [b1] (allS (mm 0 rfl) all0) ⟨_, rfl, rfl, b1, cp1, by rw [em]; exact ⟨⟨Xa, Fv, Fc, Fw, Fm, kb, by rw [Nat.pow_zero, Nat.mul_one]; exact As⟩, Yb⟩, by omega, hcp, hb1, rfl⟩ (nle rfl) (nle rfl)
    · skip
      obtain ⟨vc, h_c, soc, G', Kc, Qc⟩ := G.callS 21 (hw _ (mm 185 rfl)) (hw _ (mm 186 rfl)) (hw _ (mm 132 rfl)) (hw _ (mm 187 rfl)) (by decide) [(.int (Int32.ofNat ch))] [] rfl (c_ce0 l Z a0 hw hEW n0 c1 hc1 S1 v2 hv2 S2 S3 S4 S5 ch G.old hx hc) (lenOf pd__C_Z rfl) d35_18 rfl (nle rfl) (nle rfl) (nle rfl) (nle rfl) all0 all0 all0 rfl
      replace G := G'; clear G'
      obtain ⟨wc, qc, rfl, ec, rfl⟩ := Qc
      replace G := G.val qc
      subst ec
      replace G := G.ifT 45 d35_21 (XT.i0_eq_t rfl) (by decide) (by decide) |>.aloadN 46 d35_45 rfl rfl rfl
      obtain ⟨vm, h_m, som, G', Km, Qm⟩ := G.callV 49 (hw _ (mm 184 rfl)) (hw _ (mm 89 rfl)) (nfSel (hw _ (mm 91 rfl))) (hw _ (mm 91 rfl)) (hw _ (mm 90 rfl)) (hw _ (mm 52 rfl)) (hw _ (mm 92 rfl)) hS1.1.1 (by decide) [] [] rfl (c_isL1K l Z a0 hw hEW n0 c1 hc1 S1 v2 hv2 S2 S3 S4 S5 a b1 cp1 0 cs G.old (Or.inl rfl) hS1.1) (lenOf pd___Z rfl) d35_46 rfl (nle rfl) (nle rfl) (nle rfl) (nle rfl) all0 all0 all0 rfl
      replace G := G'; clear G'
      obtain ⟨wm, qm, rfl, em, rfl⟩ := Qm
      replace G := G.val qm
      subst em
      replace G := G.ifF 52 d35_49 (XT.i0_eq_f (by decide)) rfl |>.aloadN 53 d35_52 rfl rfl rfl
      have sz2 := G.sz
      obtain ⟨vi, h3, soi, G', Ki, Qi⟩ := G.callV 56 (hw _ (mm 248 rfl)) (declOf (hw _ (mm 249 rfl)) (hw _ (mm 252 rfl))) (nfSel (hw _ (mm 251 rfl))) (hw _ (mm 251 rfl)) (hw _ (mm 249 rfl)) (hw _ (mm 52 rfl)) (hw _ (mm 252 rfl)) hS1.1.1 (by decide) [] [] rfl (c_inflX l Z a0 hw hEW n0 c1 hc1 S1 v2 hv2 S2 S3 S4 S5 a b1 cp1 cs G.old ge_a hcp (by omega) (h8 rfl) hS1) (lenOf pd___V rfl) d35_53 rfl (nle rfl) (nle rfl) (nle rfl) (nle rfl) (allS (Or.inl (mm 0 rfl)) all0) (allS (mm 1 rfl) (allS (mm 0 rfl) all0)) (allS (mm 1 rfl) all0) rfl
      replace G := G'; clear G'
      obtain ⟨qi, b2, hS2, sb2, rfl⟩ := Qi
      replace G := G.nov qi
      have sb3 := Nat.le_trans sz2 sb2
      obtain ⟨⟨Xa, Fv, Fc, Fn, Fm, kb, Ab⟩, Yb⟩ := hS2
      rw [Nat.pow_one] at Ab
      have nab : a ≠ b2 := ne_arr Xa (hw _ (mm 32 rfl)) Ab.choose_spec.1
      replace G := G.aloadN 57 d35_56 rfl rfl rfl |>.getf 60 (host := "") (Or.inl (hw _ (mm 56 rfl))) Via.refl Fv d35_57 rfl |>.aloadN 61 d35_60 rfl rfl rfl |>.dup 62 d35_61 rfl rfl |>.getf 65 (host := "") (Or.inl (hw _ (mm 86 rfl))) Via.refl Fn d35_62 rfl |>.dupX1 66 d35_65 rfl rfl rfl |>.iconst 67 (1 : Int32) d35_66 rfl rfl |>.iadd 68 d35_67 rfl
      replace G := G.top (y := (.int (Int32.ofNat (cs ++ [ch]).length))) (congrArg Value.int ((ofn_add _ 1).trans (by rw [hlen])))
      obtain ⟨h4, G', Ww, Fw, Kw⟩ := G.putf 71 (host := "") (Or.inl (hw _ (mm 86 rfl))) Via.refl Fn Xa (Or.inl (hw _ (mm 87 rfl))) (hw _ (mm 32 rfl)) (ty := .int) (by decide) rfl rfl (Or.inl (mm 0 rfl)) (mm 2 rfl) d35_68 rfl
      replace G := G'; clear G'
      replace Fv := Fv.other Ww (Or.inr (slot_ne (Or.inl (hw _ (mm 57 rfl))) (Or.inl (hw _ (mm 87 rfl))) (by decide) (t := (.array .byte)) (t' := .int) (by decide) (by decide))); replace Fc := Fc.other Ww (Or.inr (slot_ne (Or.inl (hw _ (mm 59 rfl))) (Or.inl (hw _ (mm 87 rfl))) (by decide) (t := .byte) (t' := .int) (by decide) (by decide))); replace Fm := Fm.other Ww (Or.inr (slot_ne (Or.inl (hw _ (mm 273 rfl))) (Or.inl (hw _ (mm 87 rfl))) (by decide) (t := .boolean) (t' := .int) (by decide) (by decide))); replace Xa := Xa.wr Ww; replace Ab := Ab.keep Kw (ninS nab.symm nin0); replace Yb := Yb.keep Kw
      replace G := G.iloadN 72 d35_71 rfl rfl
      obtain ⟨vp, h5, sop, G', Kp, Qp⟩ := G.callS 75 (hw _ (mm 269 rfl)) (hw _ (mm 270 rfl)) (hw _ (mm 112 rfl)) (hw _ (mm 271 rfl)) (by decide) [(.ref b2), (.int (Int32.ofNat cs.length)), (.int (Int32.ofNat ch))] [] rfl (c_putSB l Z a0 hw hEW n0 c1 hc1 S1 v2 hv2 S2 S3 S4 S5 b2 kb cp1 ch cs G.old (G.nw (Or.inr sb3)) hc (by omega) (by omega) Ab) (lenOf pd___BII_V rfl) d35_72 rfl (nle rfl) (nle rfl) (nle rfl) (nle rfl) (allS (Or.inr sb3) all0) (allS (mm 0 rfl) all0) (allS (mm 0 rfl) all0) rfl
      replace G := G'; clear G'
      obtain ⟨qp, Ab, rfl⟩ := Qp
      replace G := G.nov qp
      replace Xa := Xa.keep Kp; replace Fv := Fv.keep Kp (ninS nab nin0); replace Fc := Fc.keep Kp (ninS nab nin0); replace Fw := Fw.keep Kp (ninS nab nin0); replace Fm := Fm.keep Kp (ninS nab nin0); replace Yb := Yb.keep Kp
      replace G := G.aloadN 76 d35_75 rfl rfl rfl
      have em : max 0 (kd [ch]) = 1 := by rw [kd1_of (cs := [ch]) (j := 0) (by simp) hx]; rfl
      exact G.retA hret rfl rfl hlk d35_76 [b2] (allS (mm 0 rfl) all0) ⟨_, rfl, rfl, b2, cp1, by rw [em]; exact ⟨⟨Xa, Fv, Fc, Fw, Fm, kb, by rw [Nat.pow_one]; exact Ab⟩, Yb⟩, by omega, hcp, Or.inr sb3, rfl⟩ (nle rfl) (nle rfl)
  · skip
    replace G := G.ifT 45 d35_14 (XT.i0_eq_t rfl) (by decide) (by decide) |>.aloadN 46 d35_45 rfl rfl rfl
    obtain ⟨vm, h_m, som, G', Km, Qm⟩ := G.callV 49 (hw _ (mm 184 rfl)) (hw _ (mm 89 rfl)) (nfSel (hw _ (mm 91 rfl))) (hw _ (mm 91 rfl)) (hw _ (mm 90 rfl)) (hw _ (mm 52 rfl)) (hw _ (mm 92 rfl)) hS1.1.1 (by decide) [] [] rfl (c_isL1K l Z a0 hw hEW n0 c1 hc1 S1 v2 hv2 S2 S3 S4 S5 a b1 cp1 1 cs G.old (Or.inr rfl) hS1.1) (lenOf pd___Z rfl) d35_46 rfl (nle rfl) (nle rfl) (nle rfl) (nle rfl) all0 all0 all0 rfl
    replace G := G'; clear G'
    obtain ⟨wm, qm, rfl, em, rfl⟩ := Qm
    replace G := G.val qm
    subst em
    replace G := G.ifT 56 d35_49 (XT.i0_eq_t rfl) (by decide) (by decide)
    obtain ⟨⟨Xa, Fv, Fc, Fn, Fm, kb, Ab⟩, Yb⟩ := hS1
    rw [Nat.pow_one] at Ab
    have nab : a ≠ b1 := ne_arr Xa (hw _ (mm 32 rfl)) Ab.choose_spec.1
    replace G := G.aloadN 57 d35_56 rfl rfl rfl |>.getf 60 (host := "") (Or.inl (hw _ (mm 56 rfl))) Via.refl Fv d35_57 rfl |>.aloadN 61 d35_60 rfl rfl rfl |>.dup 62 d35_61 rfl rfl |>.getf 65 (host := "") (Or.inl (hw _ (mm 86 rfl))) Via.refl Fn d35_62 rfl |>.dupX1 66 d35_65 rfl rfl rfl |>.iconst 67 (1 : Int32) d35_66 rfl rfl |>.iadd 68 d35_67 rfl
    replace G := G.top (y := (.int (Int32.ofNat (cs ++ [ch]).length))) (congrArg Value.int ((ofn_add _ 1).trans (by rw [hlen])))
    obtain ⟨h4, G', Ww, Fw, Kw⟩ := G.putf 71 (host := "") (Or.inl (hw _ (mm 86 rfl))) Via.refl Fn Xa (Or.inl (hw _ (mm 87 rfl))) (hw _ (mm 32 rfl)) (ty := .int) (by decide) rfl rfl (Or.inl (mm 0 rfl)) (mm 1 rfl) d35_68 rfl
    replace G := G'; clear G'
    replace Fv := Fv.other Ww (Or.inr (slot_ne (Or.inl (hw _ (mm 57 rfl))) (Or.inl (hw _ (mm 87 rfl))) (by decide) (t := (.array .byte)) (t' := .int) (by decide) (by decide))); replace Fc := Fc.other Ww (Or.inr (slot_ne (Or.inl (hw _ (mm 59 rfl))) (Or.inl (hw _ (mm 87 rfl))) (by decide) (t := .byte) (t' := .int) (by decide) (by decide))); replace Fm := Fm.other Ww (Or.inr (slot_ne (Or.inl (hw _ (mm 273 rfl))) (Or.inl (hw _ (mm 87 rfl))) (by decide) (t := .boolean) (t' := .int) (by decide) (by decide))); replace Xa := Xa.wr Ww; replace Ab := Ab.keep Kw (ninS nab.symm nin0); replace Yb := Yb.keep Kw
    replace G := G.iloadN 72 d35_71 rfl rfl
    obtain ⟨vp, h5, sop, G', Kp, Qp⟩ := G.callS 75 (hw _ (mm 269 rfl)) (hw _ (mm 270 rfl)) (hw _ (mm 112 rfl)) (hw _ (mm 271 rfl)) (by decide) [(.ref b1), (.int (Int32.ofNat cs.length)), (.int (Int32.ofNat ch))] [] rfl (c_putSB l Z a0 hw hEW n0 c1 hc1 S1 v2 hv2 S2 S3 S4 S5 b1 kb cp1 ch cs G.old (G.nw nwb) hc (by omega) (by omega) Ab) (lenOf pd___BII_V rfl) d35_72 rfl (nle rfl) (nle rfl) (nle rfl) (nle rfl) (allS nwb all0) (allS (mm 0 rfl) all0) (allS (mm 0 rfl) all0) rfl
    replace G := G'; clear G'
    obtain ⟨qp, Ab, rfl⟩ := Qp
    replace G := G.nov qp
    replace Xa := Xa.keep Kp; replace Fv := Fv.keep Kp (ninS nab nin0); replace Fc := Fc.keep Kp (ninS nab nin0); replace Fw := Fw.keep Kp (ninS nab nin0); replace Fm := Fm.keep Kp (ninS nab nin0); replace Yb := Yb.keep Kp
    replace G := G.aloadN 76 d35_75 rfl rfl rfl
    have em : max 1 (kd [ch]) = 1 := by have := kd01 [ch]; omega
    exact G.retA hret rfl rfl hlk d35_76 [b1] (allS (mm 0 rfl) all0) ⟨_, rfl, rfl, b1, cp1, by rw [em]; exact ⟨⟨Xa, Fv, Fc, Fw, Fm, kb, by rw [Nat.pow_one]; exact Ab⟩, Yb⟩, by omega, hcp, hb1, rfl⟩ (nle rfl) (nle rfl)
theorem d34_0 : decode jdk_67_method_14_code 0 = .ok (.aload_n 0, 1) := by decide +kernel
theorem d34_1 : decode jdk_67_method_14_code 1 = .ok (.iload_n 1, 1) := by decide +kernel
theorem d34_2 : decode jdk_67_method_14_code 2 = .ok (.invokespecial 50, 3) := by decide +kernel
theorem d34_5 : decode jdk_67_method_14_code 5 = .ok (.pop, 1) := by decide +kernel
theorem d34_6 : decode jdk_67_method_14_code 6 = .ok (.aload_n 0, 1) := by decide +kernel
theorem d34_7 : decode jdk_67_method_14_code 7 = .ok (.areturn, 1) := by decide +kernel
theorem c_appCX (l : Launch) (Z : State) (a0 : Array Value) (hw : ∀ d ∈ tables_1, d.before a0 Z = true) (hEW : EW Z a0 consts_1) (n0 : Nat) (c1 : Int32) (hc1 : ¬ c1 = 0) (S1 : Sta Z Z.heap "java/lang/String" "COMPACT_STRINGS" "Z" (.int c1)) (v2 : Value) (hv2 : v2.isRef = true) (S2 : Sta Z Z.heap "jdk/internal/util/Preconditions" "SIOOBE_FORMATTER" "Ljava/util/function/BiFunction;" v2) (S3 : Sta Z Z.heap "java/lang/StringUTF16" "$assertionsDisabled" "Z" (.int 1)) (S4 : Sta Z Z.heap "java/lang/StringUTF16" "HI_BYTE_SHIFT" "I" (.int 0)) (S5 : Sta Z Z.heap "java/lang/StringUTF16" "LO_BYTE_SHIFT" "I" (.int 8)) (a b : Addr) (cap k ch : Nat) (cs : List Nat) {h0 : Heap} (o1 : Old Z n0 h0) (ge_a : n0 ≤ a) (ge_b : n0 ≤ b) (hk : k = 0 ∨ k = 1) (hc : ch < 65536) (hle : cs.length + 1 ≤ 12) (hcap : cap ≤ 26) (hbs : cs.length ≤ cap) (h8 : k = 0 → ∀ c ∈ cs, c < 256) (hS : SbdX Z h0 a b cap k cs) :
    Con Z a0 l (⟨"java/lang/StringBuilder", "append", "(C)Ljava/lang/StringBuilder;"⟩ : MethodName) jdk_67_method_14_code 2 (some (.object "java/lang/StringBuilder")) ({ frames := 7, cells := 2, slots := 104, locals := 102 } : Room) [] #[(.ref a), (.int (Int32.ofNat ch))] consts_1 h0 n0 [a, b] [a, b] (VV fun w h so => w = .ref a ∧ ∃ b' cap', SbdX Z h a b' cap' (max k (kd [ch])) (cs ++ [ch]) ∧ (cs ++ [ch]).length ≤ cap' ∧ cap' ≤ 26 ∧ (b' = b ∨ h0.size ≤ b') ∧ so = [b']) := by
  refine Con.body (plainFor_of_name pn_java_lang_StringBuilder) hEW o1 (allS ge_a (allS ge_b all0)) #[.val (.ref a), .val (.int (Int32.ofNat ch))] (fun m => by first | (simp [entryFrame, mkF, argsToLocals, Value.category]; done) | rfl) ?_
  intro p e s m below meth c B hnm hret hlk G
  replace G := G.aloadN 1 d34_0 rfl rfl rfl |>.iloadN 2 d34_1 rfl rfl
  obtain ⟨vp, h1, sop, G', Kp, Qp⟩ := G.callSup 5 (hw _ (mm 175 rfl)) (sameOf (hw _ (mm 176 rfl)) (nfVia (y := (⟨"java/lang/AbstractStringBuilder", "getValue", "()[B"⟩ : MethodName)) rfl (hw _ (mm 75 rfl)) (hw _ (mm 74 rfl))) (by decide)) (hw _ (mm 176 rfl)) (hw _ (mm 84 rfl)) (by decide) (hw _ (mm 52 rfl)) (hw _ (mm 178 rfl)) (Ins.self hS.1.1) [(.int (Int32.ofNat ch))] [] rfl (c_asbCX l Z a0 hw hEW n0 c1 hc1 S1 v2 hv2 S2 S3 S4 S5 a b cap k ch cs G.old ge_a ge_b hk hc hle hcap hbs h8 hS) (lenOf pd__C_Ljava_lang_AbstractStringBuilder_ rfl) d34_2 rfl (nle rfl) (nle rfl) (nle rfl) (nle rfl) (allS (Or.inl (mm 0 rfl)) (allS (Or.inl (mm 1 rfl)) all0)) (allS (mm 0 rfl) (allS (mm 1 rfl) all0)) (allS (mm 0 rfl) (allS (mm 1 rfl) all0)) rfl
  replace G := G'; clear G'
  obtain ⟨wp, qp, rfl, b1, cp1, hS1, hl1, hc2, hb1, rfl⟩ := Qp
  replace G := G.val qp |>.pop 6 d34_5 rfl rfl |>.aloadN 7 d34_6 rfl rfl rfl
  exact G.retA hret rfl rfl hlk d34_7 [b1] (allS (mm 0 rfl) all0) ⟨_, rfl, rfl, b1, cp1, hS1, hl1, hc2, hb1, rfl⟩ (nle rfl) (nle rfl)
theorem c_asbSX (l : Launch) (Z : State) (a0 : Array Value) (hw : ∀ d ∈ tables_1, d.before a0 Z = true) (hEW : EW Z a0 consts_1) (n0 : Nat) (c1 : Int32) (hc1 : ¬ c1 = 0) (S1 : Sta Z Z.heap "java/lang/String" "COMPACT_STRINGS" "Z" (.int c1)) (v2 : Value) (hv2 : v2.isRef = true) (S2 : Sta Z Z.heap "jdk/internal/util/Preconditions" "SIOOBE_FORMATTER" "Ljava/util/function/BiFunction;" v2) (S3 : Sta Z Z.heap "java/lang/StringUTF16" "$assertionsDisabled" "Z" (.int 1)) (S4 : Sta Z Z.heap "java/lang/StringUTF16" "HI_BYTE_SHIFT" "I" (.int 0)) (S5 : Sta Z Z.heap "java/lang/StringUTF16" "LO_BYTE_SHIFT" "I" (.int 8)) (a b : Addr) (cap k ch : Nat) (cs : List Nat) {h0 : Heap} (o1 : Old Z n0 h0) (ge_a : n0 ≤ a) (ge_b : n0 ≤ b) (hk : k = 0 ∨ k = 1) (hsm : ch < 256) (hc : ch < 65536) (hle : cs.length + 1 ≤ 12) (hcap : cap ≤ 26) (hbs : cs.length ≤ cap) (h8 : k = 0 → ∀ c ∈ cs, c < 256) (hS : SbdX Z h0 a b cap k cs) :
    Con Z a0 l (⟨"java/lang/AbstractStringBuilder", "append", "(C)Ljava/lang/AbstractStringBuilder;"⟩ : MethodName) jdk_68_method_31_code 2 (some (.object "java/lang/AbstractStringBuilder")) ({ frames := 4, cells := 1, slots := 52, locals := 70 } : Room) [] #[(.ref a), (.int (Int32.ofNat ch))] consts_1 h0 n0 [a, b] [a, b] (VV fun w h so => w = .ref a ∧ ∃ b' cap', SbdX Z h a b' cap' (max k (kd [ch])) (cs ++ [ch]) ∧ (cs ++ [ch]).length ≤ cap' ∧ cap' ≤ 26 ∧ (b' = b ∨ h0.size ≤ b') ∧ so = [b']) := by
  refine Con.body (plainFor_of_name pn_java_lang_AbstractStringBuilder) hEW o1 (allS ge_a (allS ge_b all0)) #[.val (.ref a), .val (.int (Int32.ofNat ch))] (fun m => by first | (simp [entryFrame, mkF, argsToLocals, Value.category]; done) | rfl) ?_
  intro p e s m below meth c B hnm hret hlk G
  replace G := G.aloadN 1 d35_0 rfl rfl rfl |>.aloadN 2 d35_1 rfl rfl rfl |>.getf 5 (host := "") (Or.inl (hw _ (mm 86 rfl))) Via.refl hS.1.2.2.2.1 d35_2 rfl |>.iconst 6 (1 : Int32) d35_5 rfl rfl |>.iadd 7 d35_6 rfl |>.top (y := (.int (Int32.ofNat (cs.length + 1)))) (congrArg Value.int (ofn_add _ 1))
  obtain ⟨ve, h1, soe, G', Ke, Qe⟩ := G.callV 10 (hw _ (mm 179 rfl)) (declOf (hw _ (mm 180 rfl)) (hw _ (mm 183 rfl))) (nfSel (hw _ (mm 182 rfl))) (hw _ (mm 182 rfl)) (hw _ (mm 180 rfl)) (hw _ (mm 52 rfl)) (hw _ (mm 183 rfl)) hS.1.1 (by decide) [(.int (Int32.ofNat (cs.length + 1)))] [] rfl (c_ensX l Z a0 hw hEW n0 c1 hc1 S1 v2 hv2 S2 S3 S4 S5 a b cap (cs.length + 1) k cs G.old ge_a hk hle hcap hbs hS) (lenOf pd__I_V rfl) d35_7 rfl (nle rfl) (nle rfl) (nle rfl) (nle rfl) (allS (Or.inl (mm 0 rfl)) all0) (allS (mm 0 rfl) (allS (mm 1 rfl) all0)) (allS (mm 0 rfl) all0) rfl
  replace G := G'; clear G'
  obtain ⟨qe, b1, cp1, hS1, hl1, hcp, hb1, rfl⟩ := Qe
  replace G := G.nov qe
  have nwb : NW h0 [a, b] b1 := hb1.elim (fun q => Or.inl (q ▸ (mm 1 rfl))) Or.inr; have sz1 := G.sz; have hlen : (cs ++ [ch]).length = cs.length + 1 := by rw [List.length_append]; rfl
  replace G := G.aloadN 11 d35_10 rfl rfl rfl
  obtain ⟨vl, h_l, sol, G', Kl, Ql⟩ := G.callV 14 (hw _ (mm 184 rfl)) (hw _ (mm 89 rfl)) (nfSel (hw _ (mm 91 rfl))) (hw _ (mm 91 rfl)) (hw _ (mm 90 rfl)) (hw _ (mm 52 rfl)) (hw _ (mm 92 rfl)) hS1.1.1 (by decide) [] [] rfl (c_isL1K l Z a0 hw hEW n0 c1 hc1 S1 v2 hv2 S2 S3 S4 S5 a b1 cp1 k cs G.old hk hS1.1) (lenOf pd___Z rfl) d35_11 rfl (nle rfl) (nle rfl) (nle rfl) (nle rfl) all0 all0 all0 rfl
  replace G := G'; clear G'
  obtain ⟨wl, ql, rfl, el, rfl⟩ := Ql
  replace G := G.val ql
  subst el
  rcases hk with rfl | rfl
  · skip
    replace G := G.ifF 17 d35_14 (XT.i0_eq_f (by decide)) rfl |>.iloadN 18 d35_17 rfl rfl
    have hx := hsm
    obtain ⟨vc, h_c, soc, G', Kc, Qc⟩ := G.callS 21 (hw _ (mm 185 rfl)) (hw _ (mm 186 rfl)) (hw _ (mm 132 rfl)) (hw _ (mm 187 rfl)) (by decide) [(.int (Int32.ofNat ch))] [] rfl (c_ce1 l Z a0 hw hEW n0 c1 hc1 S1 v2 hv2 S2 S3 S4 S5 ch G.old hx) (lenOf pd__C_Z rfl) d35_18 rfl (nle rfl) (nle rfl) (nle rfl) (nle rfl) all0 all0 all0 rfl
    replace G := G'; clear G'
    obtain ⟨wc, qc, rfl, ec, rfl⟩ := Qc
    replace G := G.val qc
    subst ec
    replace G := G.ifF 24 d35_21 (XT.i0_eq_f (by decide)) rfl
    obtain ⟨⟨Xa, Fv, Fc, Fn, Fm, kb, Ab⟩, Yb⟩ := hS1
    rw [Nat.pow_zero, Nat.mul_one] at Ab
    have nab : a ≠ b1 := ne_arr Xa (hw _ (mm 32 rfl)) Ab.choose_spec.1
    replace G := G.aloadN 25 d35_24 rfl rfl rfl |>.getf 28 (host := "") (Or.inl (hw _ (mm 56 rfl))) Via.refl Fv d35_25 rfl |>.aloadN 29 d35_28 rfl rfl rfl |>.dup 30 d35_29 rfl rfl |>.getf 33 (host := "") (Or.inl (hw _ (mm 86 rfl))) Via.refl Fn d35_30 rfl |>.dupX1 34 d35_33 rfl rfl rfl |>.iconst 35 (1 : Int32) d35_34 rfl rfl |>.iadd 36 d35_35 rfl
    replace G := G.top (y := (.int (Int32.ofNat (cs ++ [ch]).length))) (congrArg Value.int ((ofn_add _ 1).trans (by rw [hlen])))
    obtain ⟨h4, G', Ww, Fw, Kw⟩ := G.putf 39 (host := "") (Or.inl (hw _ (mm 86 rfl))) Via.refl Fn Xa (Or.inl (hw _ (mm 87 rfl))) (hw _ (mm 32 rfl)) (ty := .int) (by decide) rfl rfl (Or.inl (mm 0 rfl)) (mm 1 rfl) d35_36 rfl
    replace G := G'; clear G'
    replace Fv := Fv.other Ww (Or.inr (slot_ne (Or.inl (hw _ (mm 57 rfl))) (Or.inl (hw _ (mm 87 rfl))) (by decide) (t := (.array .byte)) (t' := .int) (by decide) (by decide))); replace Fc := Fc.other Ww (Or.inr (slot_ne (Or.inl (hw _ (mm 59 rfl))) (Or.inl (hw _ (mm 87 rfl))) (by decide) (t := .byte) (t' := .int) (by decide) (by decide))); replace Fm := Fm.other Ww (Or.inr (slot_ne (Or.inl (hw _ (mm 273 rfl))) (Or.inl (hw _ (mm 87 rfl))) (by decide) (t := .boolean) (t' := .int) (by decide) (by decide))); replace Xa := Xa.wr Ww; replace Ab := Ab.keep Kw (ninS nab.symm nin0); replace Yb := Yb.keep Kw
    replace G := G.iloadN 40 d35_39 rfl rfl |>.i2b 41 d35_40 rfl
    have hle0 := encS_len0 cs; have Ab' := Ab.pad (vs' := encS 0 cs ++ [(.int 0)]) (pad_rep _ (.int 0) 1)
    obtain ⟨h5, G', As, Ks⟩ := G.bastore 42 cs.length Ab' ⟨ofn_nn (by omega), ofn_lt (by omega) (by omega)⟩ (ofn_nat (by omega)) (by rw [List.length_append, hle0]; simp) nwb (mm 0 rfl) d35_41 rfl
    replace G := G'; clear G'
    rw [set_app _ _ _ _ hle0, byt2] at As
    replace As : Arv Z h5 b1 kb .byte (Int32.ofNat cp1) (encS 0 (cs ++ [ch])) (.int 0) := by rw [encS_app]; exact As
    replace Xa := Xa.keep Ks; replace Fv := Fv.keep Ks (ninS nab nin0); replace Fc := Fc.keep Ks (ninS nab nin0); replace Fw := Fw.keep Ks (ninS nab nin0); replace Fm := Fm.keep Ks (ninS nab nin0); replace Yb := Yb.keep Ks
    replace G := G.goto 75 d35_42 (by decide) (by decide) |>.aloadN 76 d35_75 rfl rfl rfl
    have em : max 0 (kd [ch]) = 0 := by rw [kd_of (cs := [ch]) (by intro c q; cases List.mem_singleton.mp q; exact hx)]; rfl
    exact G.retA hret rfl rfl hlk d35_76 [b1] (allS (mm 0 rfl) all0) ⟨_, rfl, rfl, b1, cp1, by rw [em]; exact ⟨⟨Xa, Fv, Fc, Fw, Fm, kb, by rw [Nat.pow_zero, Nat.mul_one]; exact As⟩, Yb⟩, by omega, hcp, hb1, rfl⟩ (nle rfl) (nle rfl)
  · skip
    replace G := G.ifT 45 d35_14 (XT.i0_eq_t rfl) (by decide) (by decide) |>.aloadN 46 d35_45 rfl rfl rfl
    obtain ⟨vm, h_m, som, G', Km, Qm⟩ := G.callV 49 (hw _ (mm 184 rfl)) (hw _ (mm 89 rfl)) (nfSel (hw _ (mm 91 rfl))) (hw _ (mm 91 rfl)) (hw _ (mm 90 rfl)) (hw _ (mm 52 rfl)) (hw _ (mm 92 rfl)) hS1.1.1 (by decide) [] [] rfl (c_isL1K l Z a0 hw hEW n0 c1 hc1 S1 v2 hv2 S2 S3 S4 S5 a b1 cp1 1 cs G.old (Or.inr rfl) hS1.1) (lenOf pd___Z rfl) d35_46 rfl (nle rfl) (nle rfl) (nle rfl) (nle rfl) all0 all0 all0 rfl
    replace G := G'; clear G'
    obtain ⟨wm, qm, rfl, em, rfl⟩ := Qm
    replace G := G.val qm
    subst em
    replace G := G.ifT 56 d35_49 (XT.i0_eq_t rfl) (by decide) (by decide)
    obtain ⟨⟨Xa, Fv, Fc, Fn, Fm, kb, Ab⟩, Yb⟩ := hS1
    rw [Nat.pow_one] at Ab
    have nab : a ≠ b1 := ne_arr Xa (hw _ (mm 32 rfl)) Ab.choose_spec.1
    replace G := G.aloadN 57 d35_56 rfl rfl rfl |>.getf 60 (host := "") (Or.inl (hw _ (mm 56 rfl))) Via.refl Fv d35_57 rfl |>.aloadN 61 d35_60 rfl rfl rfl |>.dup 62 d35_61 rfl rfl |>.getf 65 (host := "") (Or.inl (hw _ (mm 86 rfl))) Via.refl Fn d35_62 rfl |>.dupX1 66 d35_65 rfl rfl rfl |>.iconst 67 (1 : Int32) d35_66 rfl rfl |>.iadd 68 d35_67 rfl
    replace G := G.top (y := (.int (Int32.ofNat (cs ++ [ch]).length))) (congrArg Value.int ((ofn_add _ 1).trans (by rw [hlen])))
    obtain ⟨h4, G', Ww, Fw, Kw⟩ := G.putf 71 (host := "") (Or.inl (hw _ (mm 86 rfl))) Via.refl Fn Xa (Or.inl (hw _ (mm 87 rfl))) (hw _ (mm 32 rfl)) (ty := .int) (by decide) rfl rfl (Or.inl (mm 0 rfl)) (mm 1 rfl) d35_68 rfl
    replace G := G'; clear G'
    replace Fv := Fv.other Ww (Or.inr (slot_ne (Or.inl (hw _ (mm 57 rfl))) (Or.inl (hw _ (mm 87 rfl))) (by decide) (t := (.array .byte)) (t' := .int) (by decide) (by decide))); replace Fc := Fc.other Ww (Or.inr (slot_ne (Or.inl (hw _ (mm 59 rfl))) (Or.inl (hw _ (mm 87 rfl))) (by decide) (t := .byte) (t' := .int) (by decide) (by decide))); replace Fm := Fm.other Ww (Or.inr (slot_ne (Or.inl (hw _ (mm 273 rfl))) (Or.inl (hw _ (mm 87 rfl))) (by decide) (t := .boolean) (t' := .int) (by decide) (by decide))); replace Xa := Xa.wr Ww; replace Ab := Ab.keep Kw (ninS nab.symm nin0); replace Yb := Yb.keep Kw
    replace G := G.iloadN 72 d35_71 rfl rfl
    obtain ⟨vp, h5, sop, G', Kp, Qp⟩ := G.callS 75 (hw _ (mm 269 rfl)) (hw _ (mm 270 rfl)) (hw _ (mm 112 rfl)) (hw _ (mm 271 rfl)) (by decide) [(.ref b1), (.int (Int32.ofNat cs.length)), (.int (Int32.ofNat ch))] [] rfl (c_putSB l Z a0 hw hEW n0 c1 hc1 S1 v2 hv2 S2 S3 S4 S5 b1 kb cp1 ch cs G.old (G.nw nwb) hc (by omega) (by omega) Ab) (lenOf pd___BII_V rfl) d35_72 rfl (nle rfl) (nle rfl) (nle rfl) (nle rfl) (allS nwb all0) (allS (mm 0 rfl) all0) (allS (mm 0 rfl) all0) rfl
    replace G := G'; clear G'
    obtain ⟨qp, Ab, rfl⟩ := Qp
    replace G := G.nov qp
    replace Xa := Xa.keep Kp; replace Fv := Fv.keep Kp (ninS nab nin0); replace Fc := Fc.keep Kp (ninS nab nin0); replace Fw := Fw.keep Kp (ninS nab nin0); replace Fm := Fm.keep Kp (ninS nab nin0); replace Yb := Yb.keep Kp
    replace G := G.aloadN 76 d35_75 rfl rfl rfl
    have em : max 1 (kd [ch]) = 1 := by have := kd01 [ch]; omega
    exact G.retA hret rfl rfl hlk d35_76 [b1] (allS (mm 0 rfl) all0) ⟨_, rfl, rfl, b1, cp1, by rw [em]; exact ⟨⟨Xa, Fv, Fc, Fw, Fm, kb, by rw [Nat.pow_one]; exact Ab⟩, Yb⟩, by omega, hcp, hb1, rfl⟩ (nle rfl) (nle rfl)
theorem c_appSX (l : Launch) (Z : State) (a0 : Array Value) (hw : ∀ d ∈ tables_1, d.before a0 Z = true) (hEW : EW Z a0 consts_1) (n0 : Nat) (c1 : Int32) (hc1 : ¬ c1 = 0) (S1 : Sta Z Z.heap "java/lang/String" "COMPACT_STRINGS" "Z" (.int c1)) (v2 : Value) (hv2 : v2.isRef = true) (S2 : Sta Z Z.heap "jdk/internal/util/Preconditions" "SIOOBE_FORMATTER" "Ljava/util/function/BiFunction;" v2) (S3 : Sta Z Z.heap "java/lang/StringUTF16" "$assertionsDisabled" "Z" (.int 1)) (S4 : Sta Z Z.heap "java/lang/StringUTF16" "HI_BYTE_SHIFT" "I" (.int 0)) (S5 : Sta Z Z.heap "java/lang/StringUTF16" "LO_BYTE_SHIFT" "I" (.int 8)) (a b : Addr) (cap k ch : Nat) (cs : List Nat) {h0 : Heap} (o1 : Old Z n0 h0) (ge_a : n0 ≤ a) (ge_b : n0 ≤ b) (hk : k = 0 ∨ k = 1) (hsm : ch < 256) (hc : ch < 65536) (hle : cs.length + 1 ≤ 12) (hcap : cap ≤ 26) (hbs : cs.length ≤ cap) (h8 : k = 0 → ∀ c ∈ cs, c < 256) (hS : SbdX Z h0 a b cap k cs) :
    Con Z a0 l (⟨"java/lang/StringBuilder", "append", "(C)Ljava/lang/StringBuilder;"⟩ : MethodName) jdk_67_method_14_code 2 (some (.object "java/lang/StringBuilder")) ({ frames := 5, cells := 1, slots := 52, locals := 83 } : Room) [] #[(.ref a), (.int (Int32.ofNat ch))] consts_1 h0 n0 [a, b] [a, b] (VV fun w h so => w = .ref a ∧ ∃ b' cap', SbdX Z h a b' cap' (max k (kd [ch])) (cs ++ [ch]) ∧ (cs ++ [ch]).length ≤ cap' ∧ cap' ≤ 26 ∧ (b' = b ∨ h0.size ≤ b') ∧ so = [b']) := by
  refine Con.body (plainFor_of_name pn_java_lang_StringBuilder) hEW o1 (allS ge_a (allS ge_b all0)) #[.val (.ref a), .val (.int (Int32.ofNat ch))] (fun m => by first | (simp [entryFrame, mkF, argsToLocals, Value.category]; done) | rfl) ?_
  intro p e s m below meth c B hnm hret hlk G
  replace G := G.aloadN 1 d34_0 rfl rfl rfl |>.iloadN 2 d34_1 rfl rfl
  obtain ⟨vp, h1, sop, G', Kp, Qp⟩ := G.callSup 5 (hw _ (mm 175 rfl)) (sameOf (hw _ (mm 176 rfl)) (nfVia (y := (⟨"java/lang/AbstractStringBuilder", "getValue", "()[B"⟩ : MethodName)) rfl (hw _ (mm 75 rfl)) (hw _ (mm 74 rfl))) (by decide)) (hw _ (mm 176 rfl)) (hw _ (mm 84 rfl)) (by decide) (hw _ (mm 52 rfl)) (hw _ (mm 178 rfl)) (Ins.self hS.1.1) [(.int (Int32.ofNat ch))] [] rfl (c_asbSX l Z a0 hw hEW n0 c1 hc1 S1 v2 hv2 S2 S3 S4 S5 a b cap k ch cs G.old ge_a ge_b hk hsm hc hle hcap hbs h8 hS) (lenOf pd__C_Ljava_lang_AbstractStringBuilder_ rfl) d34_2 rfl (nle rfl) (nle rfl) (nle rfl) (nle rfl) (allS (Or.inl (mm 0 rfl)) (allS (Or.inl (mm 1 rfl)) all0)) (allS (mm 0 rfl) (allS (mm 1 rfl) all0)) (allS (mm 0 rfl) (allS (mm 1 rfl) all0)) rfl
  replace G := G'; clear G'
  obtain ⟨wp, qp, rfl, b1, cp1, hS1, hl1, hc2, hb1, rfl⟩ := Qp
  replace G := G.val qp |>.pop 6 d34_5 rfl rfl |>.aloadN 7 d34_6 rfl rfl rfl
  exact G.retA hret rfl rfl hlk d34_7 [b1] (allS (mm 0 rfl) all0) ⟨_, rfl, rfl, b1, cp1, hS1, hl1, hc2, hb1, rfl⟩ (nle rfl) (nle rfl)
theorem c_minR (l : Launch) (Z : State) (a0 : Array Value) (hw : ∀ d ∈ tables_1, d.before a0 Z = true) (hEW : EW Z a0 consts_1) (n0 : Nat) (c1 : Int32) (hc1 : ¬ c1 = 0) (S1 : Sta Z Z.heap "java/lang/String" "COMPACT_STRINGS" "Z" (.int c1)) (v2 : Value) (hv2 : v2.isRef = true) (S2 : Sta Z Z.heap "jdk/internal/util/Preconditions" "SIOOBE_FORMATTER" "Ljava/util/function/BiFunction;" v2) (S3 : Sta Z Z.heap "java/lang/StringUTF16" "$assertionsDisabled" "Z" (.int 1)) (S4 : Sta Z Z.heap "java/lang/StringUTF16" "HI_BYTE_SHIFT" "I" (.int 0)) (S5 : Sta Z Z.heap "java/lang/StringUTF16" "LO_BYTE_SHIFT" "I" (.int 8)) (x y : Int32) {h0 : Heap} (o1 : Old Z n0 h0) (hxy : y < x) :
    Con Z a0 l (⟨"java/lang/Math", "min", "(II)I"⟩ : MethodName) jdk_29_method_69_code 2 (some .int) ({ frames := 0, cells := 0, slots := 0, locals := 0 } : Room) [] #[(.int x), (.int y)] consts_1 h0 n0 [] [] (VV fun w h so => w = .int y ∧ h = h0 ∧ so = []) := by
  refine Con.body (by decide +kernel) hEW o1 all0 #[.val (.int x), .val (.int y)] (fun m => by first | (simp [entryFrame, mkF, argsToLocals, Value.category]; done) | rfl) ?_
  intro p e s m below meth c B hnm hret hlk G
  replace G := G.iloadN 1 d32_0 rfl rfl |>.iloadN 2 d32_1 rfl rfl |>.icmpT 9 d32_2 (XT.ii_gt_t hxy) (by decide) (by decide) |>.iloadN 10 d32_9 rfl rfl
  exact G.retI hret hlk d32_10 [] all0 ⟨_, rfl, rfl, rfl, rfl⟩ (nle rfl) (nle rfl)
theorem d42_0 : decode jdk_65_method_131_code 0 = .ok (.iload_n 1, 1) := by decide +kernel
theorem d42_1 : decode jdk_65_method_131_code 1 = .ok (.iload_n 0, 1) := by decide +kernel
theorem d42_2 : decode jdk_65_method_131_code 2 = .ok (.if_icmp .ge 35, 3) := by decide +kernel
theorem d42_5 : decode jdk_65_method_131_code 5 = .ok (.new 43, 3) := by decide +kernel
theorem d42_8 : decode jdk_65_method_131_code 8 = .ok (.dup, 1) := by decide +kernel
theorem d42_9 : decode jdk_65_method_131_code 9 = .ok (.new 45, 3) := by decide +kernel
theorem d42_12 : decode jdk_65_method_131_code 12 = .ok (.dup, 1) := by decide +kernel
theorem d42_13 : decode jdk_65_method_131_code 13 = .ok (.invokespecial 47, 3) := by decide +kernel
theorem d42_16 : decode jdk_65_method_131_code 16 = .ok (.iload_n 0, 1) := by decide +kernel
theorem d42_17 : decode jdk_65_method_131_code 17 = .ok (.invokevirtual 54, 3) := by decide +kernel
theorem d42_20 : decode jdk_65_method_131_code 20 = .ok (.ldc_w 337, 3) := by decide +kernel
theorem d42_23 : decode jdk_65_method_131_code 23 = .ok (.invokevirtual 50, 3) := by decide +kernel
theorem d42_26 : decode jdk_65_method_131_code 26 = .ok (.iload_n 1, 1) := by decide +kernel
theorem d42_27 : decode jdk_65_method_131_code 27 = .ok (.invokevirtual 54, 3) := by decide +kernel
theorem d42_30 : decode jdk_65_method_131_code 30 = .ok (.invokevirtual 61, 3) := by decide +kernel
theorem d42_33 : decode jdk_65_method_131_code 33 = .ok (.invokespecial 65, 3) := by decide +kernel
theorem d42_36 : decode jdk_65_method_131_code 36 = .ok (.athrow, 1) := by decide +kernel
theorem d42_37 : decode jdk_65_method_131_code 37 = .ok (.return_, 1) := by decide +kernel
theorem c_chkLen (l : Launch) (Z : State) (a0 : Array Value) (hw : ∀ d ∈ tables_1, d.before a0 Z = true) (hEW : EW Z a0 consts_1) (n0 : Nat) (c1 : Int32) (hc1 : ¬ c1 = 0) (S1 : Sta Z Z.heap "java/lang/String" "COMPACT_STRINGS" "Z" (.int c1)) (v2 : Value) (hv2 : v2.isRef = true) (S2 : Sta Z Z.heap "jdk/internal/util/Preconditions" "SIOOBE_FORMATTER" "Ljava/util/function/BiFunction;" v2) (S3 : Sta Z Z.heap "java/lang/StringUTF16" "$assertionsDisabled" "Z" (.int 1)) (S4 : Sta Z Z.heap "java/lang/StringUTF16" "HI_BYTE_SHIFT" "I" (.int 0)) (S5 : Sta Z Z.heap "java/lang/StringUTF16" "LO_BYTE_SHIFT" "I" (.int 8)) (x y : Int32) {h0 : Heap} (o1 : Old Z n0 h0) (hxy : ¬ y < x) :
    Con Z a0 l (⟨"java/util/Arrays", "checkLength", "(II)V"⟩ : MethodName) jdk_65_method_131_code 2 (none) ({ frames := 0, cells := 0, slots := 0, locals := 0 } : Room) [] #[(.int x), (.int y)] consts_1 h0 n0 [] [] (V0 fun h so => h = h0 ∧ so = []) := by
  refine Con.body (plainFor_of_name pn_java_util_Arrays) hEW o1 all0 #[.val (.int x), .val (.int y)] (fun m => by first | (simp [entryFrame, mkF, argsToLocals, Value.category]; done) | rfl) ?_
  intro p e s m below meth c B hnm hret hlk G
  replace G := G.iloadN 1 d42_0 rfl rfl |>.iloadN 2 d42_1 rfl rfl |>.icmpT 37 d42_2 (XT.ii_ge_t hxy) (by decide) (by decide)
  exact G.retV hret hlk d42_37 [] all0 ⟨rfl, rfl, rfl⟩ (nle rfl) (nle rfl)
theorem d41_0 : decode jdk_65_method_133_code 0 = .ok (.iload_n 1, 1) := by decide +kernel
theorem d41_1 : decode jdk_65_method_133_code 1 = .ok (.iload_n 2, 1) := by decide +kernel
theorem d41_2 : decode jdk_65_method_133_code 2 = .ok (.invokestatic 343, 3) := by decide +kernel
theorem d41_5 : decode jdk_65_method_133_code 5 = .ok (.iload_n 2, 1) := by decide +kernel
theorem d41_6 : decode jdk_65_method_133_code 6 = .ok (.iload_n 1, 1) := by decide +kernel
theorem d41_7 : decode jdk_65_method_133_code 7 = .ok (.isub, 1) := by decide +kernel
theorem d41_8 : decode jdk_65_method_133_code 8 = .ok (.istore_n 3, 1) := by decide +kernel
theorem d41_9 : decode jdk_65_method_133_code 9 = .ok (.iload_n 3, 1) := by decide +kernel
theorem d41_10 : decode jdk_65_method_133_code 10 = .ok (.newarray .byte, 2) := by decide +kernel
theorem d41_12 : decode jdk_65_method_133_code 12 = .ok (.astore 4, 2) := by decide +kernel
theorem d41_14 : decode jdk_65_method_133_code 14 = .ok (.aload_n 0, 1) := by decide +kernel
theorem d41_15 : decode jdk_65_method_133_code 15 = .ok (.iload_n 1, 1) := by decide +kernel
theorem d41_16 : decode jdk_65_method_133_code 16 = .ok (.aload 4, 2) := by decide +kernel
theorem d41_18 : decode jdk_65_method_133_code 18 = .ok (.iconst 0, 1) := by decide +kernel
theorem d41_19 : decode jdk_65_method_133_code 19 = .ok (.aload_n 0, 1) := by decide +kernel
theorem d41_20 : decode jdk_65_method_133_code 20 = .ok (.arraylength, 1) := by decide +kernel
theorem d41_21 : decode jdk_65_method_133_code 21 = .ok (.iload_n 1, 1) := by decide +kernel
theorem d41_22 : decode jdk_65_method_133_code 22 = .ok (.isub, 1) := by decide +kernel
theorem d41_23 : decode jdk_65_method_133_code 23 = .ok (.iload_n 3, 1) := by decide +kernel
theorem d41_24 : decode jdk_65_method_133_code 24 = .ok (.invokestatic 304, 3) := by decide +kernel
theorem d41_27 : decode jdk_65_method_133_code 27 = .ok (.invokestatic 150, 3) := by decide +kernel
theorem d41_30 : decode jdk_65_method_133_code 30 = .ok (.aload 4, 2) := by decide +kernel
theorem d41_32 : decode jdk_65_method_133_code 32 = .ok (.areturn, 1) := by decide +kernel
theorem c_corb (l : Launch) (Z : State) (a0 : Array Value) (hw : ∀ d ∈ tables_1, d.before a0 Z = true) (hEW : EW Z a0 consts_1) (n0 : Nat) (c1 : Int32) (hc1 : ¬ c1 = 0) (S1 : Sta Z Z.heap "java/lang/String" "COMPACT_STRINGS" "Z" (.int c1)) (v2 : Value) (hv2 : v2.isRef = true) (S2 : Sta Z Z.heap "jdk/internal/util/Preconditions" "SIOOBE_FORMATTER" "Ljava/util/function/BiFunction;" v2) (S3 : Sta Z Z.heap "java/lang/StringUTF16" "$assertionsDisabled" "Z" (.int 1)) (S4 : Sta Z Z.heap "java/lang/StringUTF16" "HI_BYTE_SHIFT" "I" (.int 0)) (S5 : Sta Z Z.heap "java/lang/StringUTF16" "LO_BYTE_SHIFT" "I" (.int 8)) (b : Addr) (kb : ClassId) (cap : Nat) (bs : List Value) {h0 : Heap} (o1 : Old Z n0 h0) (hlt : bs.length < cap) (hcap : cap < 2147483648) (hmax : bs.length ≤ 24) (Ab : Arv Z h0 b kb .byte (Int32.ofNat cap) bs (.int 0)) :
    Con Z a0 l (⟨"java/util/Arrays", "copyOfRangeByte", "([BII)[B"⟩ : MethodName) jdk_65_method_133_code 5 (some (.array .byte)) ({ frames := 1, cells := 1, slots := 24, locals := 41 } : Room) [] #[(.ref b), (.int (0 : Int32)), (.int (Int32.ofNat bs.length))] consts_1 h0 n0 [] [] (VV fun w h so => ∃ n, w = .ref n ∧ (∃ k, Arv Z h n k .byte (Int32.ofNat bs.length) bs (.int 0)) ∧ h0.size ≤ n ∧ so = [n]) := by
  refine Con.body (plainFor_of_name pn_java_util_Arrays) hEW o1 all0 #[.val (.ref b), .val (.int (0 : Int32)), .val (.int (Int32.ofNat bs.length)), .unset, .unset] (fun m => by first | (simp [entryFrame, mkF, argsToLocals, Value.category]; done) | rfl) ?_
  intro p e s m below meth c B hnm hret hlk G
  have m1 : cap < 2147483648 := hcap
  have m2 : bs.length < 2147483648 := by omega
  replace G := G.iloadN 1 d41_0 rfl rfl |>.iloadN 2 d41_1 rfl rfl
  obtain ⟨vk, h_k, sok, G', Kk, Qk⟩ := G.callS 5 (hw _ (mm 212 rfl)) (hw _ (mm 213 rfl)) (hw _ (mm 95 rfl)) (hw _ (mm 214 rfl)) (by decide) [(.int (0 : Int32)), (.int (Int32.ofNat bs.length))] [] rfl (c_chkLen l Z a0 hw hEW n0 c1 hc1 S1 v2 hv2 S2 S3 S4 S5 0 (Int32.ofNat bs.length) G.old (ofn_nn m2)) (lenOf pd__II_V rfl) d41_2 rfl (nle rfl) (nle rfl) (nle rfl) (nle rfl) all0 all0 all0 rfl
  replace G := G'; clear G'
  obtain ⟨qk, ek, rfl⟩ := Qk
  replace G := G.nov qk
  subst ek
  replace G := G.iloadN 6 d41_5 rfl rfl |>.iloadN 7 d41_6 rfl rfl |>.isub 8 d41_7 rfl |>.top (y := (.int (Int32.ofNat bs.length))) (congrArg Value.int (sub0 _)) |>.istoreN 9 #[.val (.ref b), .val (.int (0 : Int32)), .val (.int (Int32.ofNat bs.length)), .val (.int (Int32.ofNat bs.length)), .unset] d41_8 rfl rfl |>.iloadN 10 d41_9 rfl rfl
  obtain ⟨n, h1, kn, G', gn, sn, En, An⟩ := G.newarray 12 (hw _ (mm 20 rfl)) d41_10 (ofn_nn m2) 24 (by rw [ofn_nat m2]; exact hmax) (by decide) rfl (nle rfl) (nle rfl)
  replace G := G'; clear G'
  replace Ab := Ab.ext En
  replace G := G.astore 14 #[.val (.ref b), .val (.int (0 : Int32)), .val (.int (Int32.ofNat bs.length)), .val (.int (Int32.ofNat bs.length)), .val (.ref n)] d41_12 rfl rfl rfl |>.aloadN 15 d41_14 rfl rfl rfl |>.iloadN 16 d41_15 rfl rfl |>.aload 18 d41_16 rfl rfl rfl |>.iconst 19 (0 : Int32) d41_18 rfl rfl |>.aloadN 20 d41_19 rfl rfl rfl |>.alen 21 Ab d41_20 rfl |>.iloadN 22 d41_21 rfl rfl
  replace G := G.isub 23 d41_22 rfl |>.top (y := (.int (Int32.ofNat cap))) (congrArg Value.int (sub0 _)) |>.iloadN 24 d41_23 rfl rfl
  obtain ⟨vm, h_m, som, G', Km, Qm⟩ := G.callS 27 (hw _ (mm 204 rfl)) (hw _ (mm 165 rfl)) (hw _ (mm 162 rfl)) (hw _ (mm 166 rfl)) (by decide) [(.int (Int32.ofNat cap)), (.int (Int32.ofNat bs.length))] [(.int (0 : Int32)), (.ref n), (.int (0 : Int32)), (.ref b)] rfl (c_minR l Z a0 hw hEW n0 c1 hc1 S1 v2 hv2 S2 S3 S4 S5 (Int32.ofNat cap) (Int32.ofNat bs.length) G.old (ofn_lt hlt hcap)) (lenOf pd__II_I rfl) d41_24 rfl (nle rfl) (nle rfl) (nle rfl) (nle rfl) all0 all0 all0 rfl
  replace G := G'; clear G'
  obtain ⟨wm, qm, rfl, em, rfl⟩ := Qm
  replace G := G.val qm
  subst em
  have An' := An.pad (vs' := [] ++ List.replicate bs.length (.int 0)) (pad_rep [] (.int 0) bs.length)
  obtain ⟨h2, G', Ap, Kp⟩ := G.cpy 30 (hw _ (mm 205 rfl)) (hw _ (mm 208 rfl)) (hw _ (mm 206 rfl)) (hw _ (mm 207 rfl)) Ab An' rfl (by decide) (by decide) (ofn_nn m2) (by rw [ofn_nat m2, ofn_nat hcap, show (0 : Int32).toNatClampNeg = 0 from rfl]; omega) (by rw [ofn_nat m2, show (0 : Int32).toNatClampNeg = 0 from rfl]; omega) (by rw [ofn_nat m2, show (0 : Int32).toNatClampNeg = 0 from rfl]; simp) (Or.inr sn) (mm 0 rfl) d41_27 rfl (nle rfl) (nle rfl) rfl
  replace G := G'; clear G'
  rw [ofn_nat m2, show (0 : Int32).toNatClampNeg = 0 from rfl] at Ap
  replace Ap := (cpy_res [] bs (.int 0)) ▸ Ap
  replace G := G.aload 32 d41_30 rfl rfl rfl
  exact G.retA hret rfl rfl hlk d41_32 [n] (allS (mm 0 rfl) all0) ⟨_, rfl, n, rfl, ⟨kn, Ap⟩, sn, rfl⟩ (nle rfl) (nle rfl)
theorem d17_0 : decode jdk_65_method_132_code 0 = .ok (.iload_n 1, 1) := by decide +kernel
theorem d17_1 : decode jdk_65_method_132_code 1 = .ok (.ifCond .ne 9, 3) := by decide +kernel
theorem d17_4 : decode jdk_65_method_132_code 4 = .ok (.iload_n 2, 1) := by decide +kernel
theorem d17_5 : decode jdk_65_method_132_code 5 = .ok (.aload_n 0, 1) := by decide +kernel
theorem d17_6 : decode jdk_65_method_132_code 6 = .ok (.arraylength, 1) := by decide +kernel
theorem d17_7 : decode jdk_65_method_132_code 7 = .ok (.if_icmp .eq 10, 3) := by decide +kernel
theorem d17_10 : decode jdk_65_method_132_code 10 = .ok (.aload_n 0, 1) := by decide +kernel
theorem d17_11 : decode jdk_65_method_132_code 11 = .ok (.iload_n 1, 1) := by decide +kernel
theorem d17_12 : decode jdk_65_method_132_code 12 = .ok (.iload_n 2, 1) := by decide +kernel
theorem d17_13 : decode jdk_65_method_132_code 13 = .ok (.invokestatic 339, 3) := by decide +kernel
theorem d17_16 : decode jdk_65_method_132_code 16 = .ok (.areturn, 1) := by decide +kernel
theorem d17_17 : decode jdk_65_method_132_code 17 = .ok (.aload_n 0, 1) := by decide +kernel
theorem d17_18 : decode jdk_65_method_132_code 18 = .ok (.invokevirtual 310, 3) := by decide +kernel
theorem d17_21 : decode jdk_65_method_132_code 21 = .ok (.checkcast 311, 3) := by decide +kernel
theorem d17_24 : decode jdk_65_method_132_code 24 = .ok (.areturn, 1) := by decide +kernel
theorem c_corX (l : Launch) (Z : State) (a0 : Array Value) (hw : ∀ d ∈ tables_1, d.before a0 Z = true) (hEW : EW Z a0 consts_1) (n0 : Nat) (c1 : Int32) (hc1 : ¬ c1 = 0) (S1 : Sta Z Z.heap "java/lang/String" "COMPACT_STRINGS" "Z" (.int c1)) (v2 : Value) (hv2 : v2.isRef = true) (S2 : Sta Z Z.heap "jdk/internal/util/Preconditions" "SIOOBE_FORMATTER" "Ljava/util/function/BiFunction;" v2) (S3 : Sta Z Z.heap "java/lang/StringUTF16" "$assertionsDisabled" "Z" (.int 1)) (S4 : Sta Z Z.heap "java/lang/StringUTF16" "HI_BYTE_SHIFT" "I" (.int 0)) (S5 : Sta Z Z.heap "java/lang/StringUTF16" "LO_BYTE_SHIFT" "I" (.int 8)) (b : Addr) (kb : ClassId) (cap : Nat) (bs : List Value) {h0 : Heap} (o1 : Old Z n0 h0) (hle : bs.length ≤ cap) (hcap : cap < 2147483648) (hmax : bs.length ≤ 24) (Yb : Exa Z h0 b "[B") (Ab : Arv Z h0 b kb .byte (Int32.ofNat cap) bs (.int 0)) :
    Con Z a0 l (⟨"java/util/Arrays", "copyOfRange", "([BII)[B"⟩ : MethodName) jdk_65_method_132_code 3 (some (.array .byte)) ({ frames := 2, cells := 1, slots := 24, locals := 57 } : Room) [] #[(.ref b), (.int (0 : Int32)), (.int (Int32.ofNat bs.length))] consts_1 h0 n0 [] [] (VV fun w h so => ∃ n, w = .ref n ∧ (∃ k, Arv Z h n k .byte (Int32.ofNat bs.length) bs (.int 0)) ∧ h0.size ≤ n ∧ so = [n]) := by
  refine Con.body (plainFor_of_name pn_java_util_Arrays) hEW o1 all0 #[.val (.ref b), .val (.int (0 : Int32)), .val (.int (Int32.ofNat bs.length))] (fun m => by first | (simp [entryFrame, mkF, argsToLocals, Value.category]; done) | rfl) ?_
  intro p e s m below meth c B hnm hret hlk G
  replace G := G.iloadN 1 d17_0 rfl rfl |>.ifF 4 d17_1 (XT.i0_ne_f rfl) rfl |>.iloadN 5 d17_4 rfl rfl |>.aloadN 6 d17_5 rfl rfl rfl |>.alen 7 Ab d17_6 rfl
  rcases Nat.lt_or_eq_of_le hle with hq | hq
  · skip
    replace G := G.icmpF 10 d17_7 (XT.ii_eq_f (ofn_ne (by omega) (by omega) hcap)) rfl |>.aloadN 11 d17_10 rfl rfl rfl |>.iloadN 12 d17_11 rfl rfl |>.iloadN 13 d17_12 rfl rfl
    obtain ⟨vc, h1, soc, G', Kc, Qc⟩ := G.callS 16 (hw _ (mm 209 rfl)) (hw _ (mm 210 rfl)) (hw _ (mm 95 rfl)) (hw _ (mm 211 rfl)) (by decide) [(.ref b), (.int (0 : Int32)), (.int (Int32.ofNat bs.length))] [] rfl (c_corb l Z a0 hw hEW n0 c1 hc1 S1 v2 hv2 S2 S3 S4 S5 b kb cap bs G.old hq hcap hmax Ab) (lenOf pd___BII__B rfl) d17_13 rfl (nle rfl) (nle rfl) (nle rfl) (nle rfl) all0 all0 all0 rfl
    replace G := G'; clear G'
    obtain ⟨wc, qc, n, rfl, hA, sn, rfl⟩ := Qc
    replace G := G.val qc
    exact G.retA hret rfl rfl hlk d17_16 [n] (allS (mm 0 rfl) all0) ⟨_, rfl, n, rfl, hA, sn, rfl⟩ (nle rfl) (nle rfl)
  · skip
    subst hq
    replace G := G.icmpT 17 d17_7 (XT.ii_eq_t rfl) (by decide) (by decide) |>.aloadN 18 d17_17 rfl rfl rfl
    obtain ⟨n, h1, G', gn, sn, En, An, Yn⟩ := G.cloneV 21 (hw _ (mm 97 rfl)) (hw _ (mm 98 rfl)) (hw _ (mm 102 rfl)) (hw _ (mm 100 rfl)) (hw _ (mm 101 rfl)) (hw _ (mm 103 rfl)) Ab Yb d17_18 rfl (nle rfl) (nle rfl) 24 (by rw [ofn_nat hcap]; exact hmax) (nle rfl) (nle rfl) rfl
    replace G := G'; clear G'
    replace G := G.ccast 24 (hw _ (mm 104 rfl)) (Ins.self Yn) d17_21 rfl
    exact G.retA hret rfl rfl hlk d17_24 [n] (allS (mm 0 rfl) all0) ⟨_, rfl, n, rfl, ⟨kb, An⟩, sn, rfl⟩ (nle rfl) (nle rfl)
theorem d13_0 : decode jdk_68_method_64_code 0 = .ok (.aload_n 0, 1) := by decide +kernel
theorem d13_1 : decode jdk_68_method_64_code 1 = .ok (.getfield 15, 3) := by decide +kernel
theorem d13_4 : decode jdk_68_method_64_code 4 = .ok (.areturn, 1) := by decide +kernel
theorem c_getVX (l : Launch) (Z : State) (a0 : Array Value) (hw : ∀ d ∈ tables_1, d.before a0 Z = true) (hEW : EW Z a0 consts_1) (n0 : Nat) (c1 : Int32) (hc1 : ¬ c1 = 0) (S1 : Sta Z Z.heap "java/lang/String" "COMPACT_STRINGS" "Z" (.int c1)) (v2 : Value) (hv2 : v2.isRef = true) (S2 : Sta Z Z.heap "jdk/internal/util/Preconditions" "SIOOBE_FORMATTER" "Ljava/util/function/BiFunction;" v2) (S3 : Sta Z Z.heap "java/lang/StringUTF16" "$assertionsDisabled" "Z" (.int 1)) (S4 : Sta Z Z.heap "java/lang/StringUTF16" "HI_BYTE_SHIFT" "I" (.int 0)) (S5 : Sta Z Z.heap "java/lang/StringUTF16" "LO_BYTE_SHIFT" "I" (.int 8)) (a b : Addr) (cap k : Nat) (cs : List Nat) {h0 : Heap} (o1 : Old Z n0 h0) (hS : SbdX Z h0 a b cap k cs) :
    Con Z a0 l (⟨"java/lang/AbstractStringBuilder", "getValue", "()[B"⟩ : MethodName) jdk_68_method_64_code 1 (some (.array .byte)) ({ frames := 0, cells := 0, slots := 0, locals := 0 } : Room) [] #[(.ref a)] consts_1 h0 n0 [] [] (VV fun w h so => w = .ref b ∧ h = h0 ∧ so = []) := by
  refine Con.body (plainFor_of_name pn_java_lang_AbstractStringBuilder) hEW o1 all0 #[.val (.ref a)] (fun m => by first | (simp [entryFrame, mkF, argsToLocals, Value.category]; done) | rfl) ?_
  intro p e s m below meth c B hnm hret hlk G
  replace G := G.aloadN 1 d13_0 rfl rfl rfl |>.getf 4 (host := "") (Or.inl (hw _ (mm 56 rfl))) Via.refl hS.1.2.1 d13_1 rfl
  exact G.retA hret rfl rfl hlk d13_4 [] all0 ⟨_, rfl, rfl, rfl, rfl⟩ (nle rfl) (nle rfl)
theorem d15_0 : decode jdk_68_method_6_code 0 = .ok (.aload_n 0, 1) := by decide +kernel
theorem d15_1 : decode jdk_68_method_6_code 1 = .ok (.getfield 79, 3) := by decide +kernel
theorem d15_4 : decode jdk_68_method_6_code 4 = .ok (.ireturn, 1) := by decide +kernel
theorem c_asbLX (l : Launch) (Z : State) (a0 : Array Value) (hw : ∀ d ∈ tables_1, d.before a0 Z = true) (hEW : EW Z a0 consts_1) (n0 : Nat) (c1 : Int32) (hc1 : ¬ c1 = 0) (S1 : Sta Z Z.heap "java/lang/String" "COMPACT_STRINGS" "Z" (.int c1)) (v2 : Value) (hv2 : v2.isRef = true) (S2 : Sta Z Z.heap "jdk/internal/util/Preconditions" "SIOOBE_FORMATTER" "Ljava/util/function/BiFunction;" v2) (S3 : Sta Z Z.heap "java/lang/StringUTF16" "$assertionsDisabled" "Z" (.int 1)) (S4 : Sta Z Z.heap "java/lang/StringUTF16" "HI_BYTE_SHIFT" "I" (.int 0)) (S5 : Sta Z Z.heap "java/lang/StringUTF16" "LO_BYTE_SHIFT" "I" (.int 8)) (a b : Addr) (cap k : Nat) (cs : List Nat) {h0 : Heap} (o1 : Old Z n0 h0) (hS : SbdX Z h0 a b cap k cs) :
    Con Z a0 l (⟨"java/lang/AbstractStringBuilder", "length", "()I"⟩ : MethodName) jdk_68_method_6_code 1 (some .int) ({ frames := 0, cells := 0, slots := 0, locals := 0 } : Room) [] #[(.ref a)] consts_1 h0 n0 [] [] (VV fun w h so => w = .int (Int32.ofNat cs.length) ∧ h = h0 ∧ so = []) := by
  refine Con.body (plainFor_of_name pn_java_lang_AbstractStringBuilder) hEW o1 all0 #[.val (.ref a)] (fun m => by first | (simp [entryFrame, mkF, argsToLocals, Value.category]; done) | rfl) ?_
  intro p e s m below meth c B hnm hret hlk G
  replace G := G.aloadN 1 d15_0 rfl rfl rfl |>.getf 4 (host := "") (Or.inl (hw _ (mm 86 rfl))) Via.refl hS.1.2.2.2.1 d15_1 rfl
  exact G.retI hret hlk d15_4 [] all0 ⟨_, rfl, rfl, rfl, rfl⟩ (nle rfl) (nle rfl)
theorem d14_0 : decode jdk_67_method_93_code 0 = .ok (.aload_n 0, 1) := by decide +kernel
theorem d14_1 : decode jdk_67_method_93_code 1 = .ok (.invokespecial 343, 3) := by decide +kernel
theorem d14_4 : decode jdk_67_method_93_code 4 = .ok (.ireturn, 1) := by decide +kernel
theorem c_sbLX (l : Launch) (Z : State) (a0 : Array Value) (hw : ∀ d ∈ tables_1, d.before a0 Z = true) (hEW : EW Z a0 consts_1) (n0 : Nat) (c1 : Int32) (hc1 : ¬ c1 = 0) (S1 : Sta Z Z.heap "java/lang/String" "COMPACT_STRINGS" "Z" (.int c1)) (v2 : Value) (hv2 : v2.isRef = true) (S2 : Sta Z Z.heap "jdk/internal/util/Preconditions" "SIOOBE_FORMATTER" "Ljava/util/function/BiFunction;" v2) (S3 : Sta Z Z.heap "java/lang/StringUTF16" "$assertionsDisabled" "Z" (.int 1)) (S4 : Sta Z Z.heap "java/lang/StringUTF16" "HI_BYTE_SHIFT" "I" (.int 0)) (S5 : Sta Z Z.heap "java/lang/StringUTF16" "LO_BYTE_SHIFT" "I" (.int 8)) (a b : Addr) (cap k : Nat) (cs : List Nat) {h0 : Heap} (o1 : Old Z n0 h0) (hS : SbdX Z h0 a b cap k cs) :
    Con Z a0 l (⟨"java/lang/StringBuilder", "length", "()I"⟩ : MethodName) jdk_67_method_93_code 1 (some .int) ({ frames := 1, cells := 0, slots := 0, locals := 12 } : Room) [] #[(.ref a)] consts_1 h0 n0 [] [] (VV fun w h so => w = .int (Int32.ofNat cs.length) ∧ h = h0 ∧ so = []) := by
  refine Con.body (plainFor_of_name pn_java_lang_StringBuilder) hEW o1 all0 #[.val (.ref a)] (fun m => by first | (simp [entryFrame, mkF, argsToLocals, Value.category]; done) | rfl) ?_
  intro p e s m below meth c B hnm hret hlk G
  replace G := G.aloadN 1 d14_0 rfl rfl rfl
  obtain ⟨vl, h_l, sol, G', Kl, Ql⟩ := G.callSup 4 (hw _ (mm 83 rfl)) (sameOf (hw _ (mm 79 rfl)) (nfVia (y := (⟨"java/lang/AbstractStringBuilder", "getValue", "()[B"⟩ : MethodName)) rfl (hw _ (mm 75 rfl)) (hw _ (mm 74 rfl))) (by decide)) (hw _ (mm 79 rfl)) (hw _ (mm 84 rfl)) (by decide) (hw _ (mm 52 rfl)) (hw _ (mm 85 rfl)) (Ins.self hS.1.1) [] [] rfl (c_asbLX l Z a0 hw hEW n0 c1 hc1 S1 v2 hv2 S2 S3 S4 S5 a b cap k cs G.old hS) (lenOf pd___I rfl) d14_1 rfl (nle rfl) (nle rfl) (nle rfl) (nle rfl) all0 all0 all0 rfl
  replace G := G'; clear G'
  obtain ⟨wl, ql, rfl, el, rfl⟩ := Ql
  replace G := G.val ql
  subst el
  exact G.retI hret hlk d14_4 [] all0 ⟨_, rfl, rfl, rfl, rfl⟩ (nle rfl) (nle rfl)
theorem d12_0 : decode jdk_42_method_150_code 0 = .ok (.aload_n 0, 1) := by decide +kernel
theorem d12_1 : decode jdk_42_method_150_code 1 = .ok (.invokespecial 1, 3) := by decide +kernel
theorem d12_4 : decode jdk_42_method_150_code 4 = .ok (.aload_n 1, 1) := by decide +kernel
theorem d12_5 : decode jdk_42_method_150_code 5 = .ok (.invokevirtual 552, 3) := by decide +kernel
theorem d12_8 : decode jdk_42_method_150_code 8 = .ok (.astore_n 3, 1) := by decide +kernel
theorem d12_9 : decode jdk_42_method_150_code 9 = .ok (.aload_n 1, 1) := by decide +kernel
theorem d12_10 : decode jdk_42_method_150_code 10 = .ok (.invokevirtual 549, 3) := by decide +kernel
theorem d12_13 : decode jdk_42_method_150_code 13 = .ok (.istore 4, 2) := by decide +kernel
theorem d12_15 : decode jdk_42_method_150_code 15 = .ok (.aload_n 1, 1) := by decide +kernel
theorem d12_16 : decode jdk_42_method_150_code 16 = .ok (.invokevirtual 1047, 3) := by decide +kernel
theorem d12_19 : decode jdk_42_method_150_code 19 = .ok (.ifCond .eq 22, 3) := by decide +kernel
theorem d12_22 : decode jdk_42_method_150_code 22 = .ok (.aload_n 0, 1) := by decide +kernel
theorem d12_23 : decode jdk_42_method_150_code 23 = .ok (.iconst 0, 1) := by decide +kernel
theorem d12_24 : decode jdk_42_method_150_code 24 = .ok (.putfield 15, 3) := by decide +kernel
theorem d12_27 : decode jdk_42_method_150_code 27 = .ok (.aload_n 0, 1) := by decide +kernel
theorem d12_28 : decode jdk_42_method_150_code 28 = .ok (.aload_n 3, 1) := by decide +kernel
theorem d12_29 : decode jdk_42_method_150_code 29 = .ok (.iconst 0, 1) := by decide +kernel
theorem d12_30 : decode jdk_42_method_150_code 30 = .ok (.iload 4, 2) := by decide +kernel
theorem d12_32 : decode jdk_42_method_150_code 32 = .ok (.invokestatic 54, 3) := by decide +kernel
theorem d12_35 : decode jdk_42_method_150_code 35 = .ok (.putfield 9, 3) := by decide +kernel
theorem d12_38 : decode jdk_42_method_150_code 38 = .ok (.goto 59, 3) := by decide +kernel
theorem d12_41 : decode jdk_42_method_150_code 41 = .ok (.getstatic 38, 3) := by decide +kernel
theorem d12_44 : decode jdk_42_method_150_code 44 = .ok (.ifCond .eq 35, 3) := by decide +kernel
theorem d12_47 : decode jdk_42_method_150_code 47 = .ok (.aload_n 1, 1) := by decide +kernel
theorem d12_48 : decode jdk_42_method_150_code 48 = .ok (.getfield 1048, 3) := by decide +kernel
theorem d12_51 : decode jdk_42_method_150_code 51 = .ok (.ifCond .eq 28, 3) := by decide +kernel
theorem d12_54 : decode jdk_42_method_150_code 54 = .ok (.aload_n 0, 1) := by decide +kernel
theorem d12_55 : decode jdk_42_method_150_code 55 = .ok (.aload_n 3, 1) := by decide +kernel
theorem d12_56 : decode jdk_42_method_150_code 56 = .ok (.iconst 0, 1) := by decide +kernel
theorem d12_57 : decode jdk_42_method_150_code 57 = .ok (.iload 4, 2) := by decide +kernel
theorem d12_59 : decode jdk_42_method_150_code 59 = .ok (.invokestatic 1051, 3) := by decide +kernel
theorem d12_62 : decode jdk_42_method_150_code 62 = .ok (.putfield 9, 3) := by decide +kernel
theorem d12_65 : decode jdk_42_method_150_code 65 = .ok (.aload_n 0, 1) := by decide +kernel
theorem d12_66 : decode jdk_42_method_150_code 66 = .ok (.aload_n 0, 1) := by decide +kernel
theorem d12_67 : decode jdk_42_method_150_code 67 = .ok (.getfield 9, 3) := by decide +kernel
theorem d12_70 : decode jdk_42_method_150_code 70 = .ok (.iload 4, 2) := by decide +kernel
theorem d12_72 : decode jdk_42_method_150_code 72 = .ok (.invokestatic 47, 3) := by decide +kernel
theorem d12_75 : decode jdk_42_method_150_code 75 = .ok (.putfield 15, 3) := by decide +kernel
theorem d12_78 : decode jdk_42_method_150_code 78 = .ok (.return_, 1) := by decide +kernel
theorem d12_79 : decode jdk_42_method_150_code 79 = .ok (.aload_n 0, 1) := by decide +kernel
theorem d12_80 : decode jdk_42_method_150_code 80 = .ok (.iconst 1, 1) := by decide +kernel
theorem d12_81 : decode jdk_42_method_150_code 81 = .ok (.putfield 15, 3) := by decide +kernel
theorem d12_84 : decode jdk_42_method_150_code 84 = .ok (.aload_n 0, 1) := by decide +kernel
theorem d12_85 : decode jdk_42_method_150_code 85 = .ok (.aload_n 3, 1) := by decide +kernel
theorem d12_86 : decode jdk_42_method_150_code 86 = .ok (.iconst 0, 1) := by decide +kernel
theorem d12_87 : decode jdk_42_method_150_code 87 = .ok (.iload 4, 2) := by decide +kernel
theorem d12_89 : decode jdk_42_method_150_code 89 = .ok (.iconst 1, 1) := by decide +kernel
theorem d12_90 : decode jdk_42_method_150_code 90 = .ok (.ishl, 1) := by decide +kernel
theorem d12_91 : decode jdk_42_method_150_code 91 = .ok (.invokestatic 54, 3) := by decide +kernel
theorem d12_94 : decode jdk_42_method_150_code 94 = .ok (.putfield 9, 3) := by decide +kernel
theorem d12_97 : decode jdk_42_method_150_code 97 = .ok (.return_, 1) := by decide +kernel
theorem c_sASBX (l : Launch) (Z : State) (a0 : Array Value) (hw : ∀ d ∈ tables_1, d.before a0 Z = true) (hEW : EW Z a0 consts_1) (n0 : Nat) (c1 : Int32) (hc1 : ¬ c1 = 0) (S1 : Sta Z Z.heap "java/lang/String" "COMPACT_STRINGS" "Z" (.int c1)) (v2 : Value) (hv2 : v2.isRef = true) (S2 : Sta Z Z.heap "jdk/internal/util/Preconditions" "SIOOBE_FORMATTER" "Ljava/util/function/BiFunction;" v2) (S3 : Sta Z Z.heap "java/lang/StringUTF16" "$assertionsDisabled" "Z" (.int 1)) (S4 : Sta Z Z.heap "java/lang/StringUTF16" "HI_BYTE_SHIFT" "I" (.int 0)) (S5 : Sta Z Z.heap "java/lang/StringUTF16" "LO_BYTE_SHIFT" "I" (.int 8)) (s2 a b : Addr) (cap k : Nat) (cs : List Nat) {h0 : Heap} (o1 : Old Z n0 h0) (ge_s2 : n0 ≤ s2) (hk : k = 0 ∨ k = 1) (hle : cs.length ≤ cap) (hcap : cap ≤ 26) (hmx : cs.length ≤ 12) (Xs : Exa Z h0 s2 "java/lang/String") (Fv : Fld Z h0 s2 "java/lang/String" "value" "[B" .null) (Fc : Fld Z h0 s2 "java/lang/String" "coder" "B" (.int 0)) (hS : SbdX Z h0 a b cap k cs) :
    Con Z a0 l (⟨"java/lang/String", "<init>", "(Ljava/lang/AbstractStringBuilder;Ljava/lang/Void;)V"⟩ : MethodName) jdk_42_method_150_code 5 (none) ({ frames := 3, cells := 1, slots := 24, locals := 72 } : Room) [] #[(.ref s2), (.ref a), .null] consts_1 h0 n0 [s2] [s2] (V0 fun h so => ∃ n, StrK Z h s2 n k cs ∧ h0.size ≤ n ∧ so = [n]) := by
  refine Con.body (plainFor_of_name pn_java_lang_String) hEW o1 (allS ge_s2 all0) #[.val (.ref s2), .val (.ref a), .val .null, .unset, .unset] (fun m => by first | (simp [entryFrame, mkF, argsToLocals, Value.category]; done) | rfl) ?_
  intro p e s m below meth c B hnm hret hlk G
  have hle2 := encS_len hk cs; have hpp := p2 hk; have e0 := Nat.mul_le_mul hle (Nat.le_refl (2 ^ k)); have e1 := Nat.mul_le_mul hcap hpp.2; have e2 := Nat.mul_le_mul hmx hpp.2
  replace G := G.aloadN 1 d12_0 rfl rfl rfl |>.initO 4 (hw _ (mm 16 rfl)) (hw _ (mm 17 rfl)) (hw _ (mm 18 rfl)) d12_1 rfl (nle rfl) (nle rfl) rfl |>.aloadN 5 d12_4 rfl rfl rfl
  obtain ⟨vy1, h_1, soy1, G', Ky1, Qy1⟩ := G.callV 8 (hw _ (mm 72 rfl)) (hw _ (mm 73 rfl)) (nfSel (hw _ (mm 75 rfl))) (hw _ (mm 75 rfl)) (hw _ (mm 74 rfl)) (hw _ (mm 52 rfl)) (hw _ (mm 76 rfl)) hS.1.1 (by decide) [] [] rfl (c_getVX l Z a0 hw hEW n0 c1 hc1 S1 v2 hv2 S2 S3 S4 S5 a b cap k cs G.old hS) (lenOf pd____B rfl) d12_5 rfl (nle rfl) (nle rfl) (nle rfl) (nle rfl) all0 all0 all0 rfl
  replace G := G'; clear G'
  obtain ⟨wy1, qy1, rfl, ey1, rfl⟩ := Qy1
  replace G := G.val qy1
  subst ey1
  replace G := G.astoreN 9 #[.val (.ref s2), .val (.ref a), .val .null, .val (.ref b), .unset] d12_8 rfl rfl rfl |>.aloadN 10 d12_9 rfl rfl rfl
  obtain ⟨vy2, h_2, soy2, G', Ky2, Qy2⟩ := G.callV 13 (hw _ (mm 77 rfl)) (hw _ (mm 78 rfl)) (nfVia (y := (⟨"java/lang/AbstractStringBuilder", "getValue", "()[B"⟩ : MethodName)) rfl (hw _ (mm 75 rfl)) (hw _ (mm 74 rfl))) (hw _ (mm 80 rfl)) (hw _ (mm 81 rfl)) (hw _ (mm 33 rfl)) (hw _ (mm 82 rfl)) hS.1.1 (by decide) [] [] rfl (c_sbLX l Z a0 hw hEW n0 c1 hc1 S1 v2 hv2 S2 S3 S4 S5 a b cap k cs G.old hS) (lenOf pd___I rfl) d12_10 rfl (nle rfl) (nle rfl) (nle rfl) (nle rfl) all0 all0 all0 rfl
  replace G := G'; clear G'
  obtain ⟨wy2, qy2, rfl, ey2, rfl⟩ := Qy2
  replace G := G.val qy2
  subst ey2
  replace G := G.istore 15 #[.val (.ref s2), .val (.ref a), .val .null, .val (.ref b), .val (.int (Int32.ofNat cs.length))] d12_13 rfl rfl |>.aloadN 16 d12_15 rfl rfl rfl
  obtain ⟨vy3, h_3, soy3, G', Ky3, Qy3⟩ := G.callV 19 (hw _ (mm 88 rfl)) (hw _ (mm 89 rfl)) (nfSel (hw _ (mm 91 rfl))) (hw _ (mm 91 rfl)) (hw _ (mm 90 rfl)) (hw _ (mm 52 rfl)) (hw _ (mm 92 rfl)) hS.1.1 (by decide) [] [] rfl (c_isL1K l Z a0 hw hEW n0 c1 hc1 S1 v2 hv2 S2 S3 S4 S5 a b cap k cs G.old hk hS.1) (lenOf pd___Z rfl) d12_16 rfl (nle rfl) (nle rfl) (nle rfl) (nle rfl) all0 all0 all0 rfl
  replace G := G'; clear G'
  obtain ⟨wy3, qy3, rfl, ey3, rfl⟩ := Qy3
  replace G := G.val qy3
  subst ey3
  have nas : s2 ≠ a := fun q => by subst q; exact absurd rfl (ne_exa Xs hS.1.1 (by decide))
  have nbs : s2 ≠ b := by obtain ⟨⟨-, -, -, -, -, kb, Ab⟩, -⟩ := hS; exact ne_arr Xs (hw _ (mm 7 rfl)) Ab.choose_spec.1
  rcases hk with rfl | rfl
  · skip
    replace G := G.ifF 22 d12_19 (XT.i0_eq_f (by decide)) rfl |>.aloadN 23 d12_22 rfl rfl rfl |>.iconst 24 (0 : Int32) d12_23 rfl rfl
    obtain ⟨h1, G', Wc', Fc', Kc'⟩ := G.putf 27 (host := "") (Or.inl (hw _ (mm 26 rfl))) Via.refl Fc Xs (Or.inr ⟨(hw _ (mm 22 rfl)), rfl, hnm⟩) (hw _ (mm 7 rfl)) (ty := .byte) (by decide) rfl rfl (Or.inl (mm 0 rfl)) (mm 0 rfl) d12_24 rfl
    replace G := G'; clear G'
    replace Fv := Fv.other Wc' (Or.inr (slot_ne (Or.inr (hw _ (mm 21 rfl))) (Or.inr (hw _ (mm 22 rfl))) (by decide) (t := (.array .byte)) (t' := .byte) (by decide) (by decide))); replace Xs := Xs.wr Wc'; replace hS := hS.keep Kc' (ninS nas.symm nin0) (ninS nbs.symm nin0)
    obtain ⟨kb, Ab⟩ := hS.1.2.2.2.2.2
    replace G := G.aloadN 28 d12_27 rfl rfl rfl |>.aloadN 29 d12_28 rfl rfl rfl |>.iconst 30 (0 : Int32) d12_29 rfl rfl |>.iload 32 d12_30 rfl rfl |>.top (y := (.int (Int32.ofNat (encS 0 cs).length))) (congrArg Value.int (by rw [hle2, Nat.pow_zero, Nat.mul_one]))
    obtain ⟨vr, h2, sor, G', Kr, Qr⟩ := G.callS 35 (hw _ (mm 93 rfl)) (hw _ (mm 94 rfl)) (hw _ (mm 95 rfl)) (hw _ (mm 96 rfl)) (by decide) [(.ref b), (.int (0 : Int32)), (.int (Int32.ofNat (encS 0 cs).length))] [(.ref s2)] rfl (c_corX l Z a0 hw hEW n0 c1 hc1 S1 v2 hv2 S2 S3 S4 S5 b kb (cap * 2 ^ 0) (encS 0 cs) G.old (by rw [hle2]; exact e0) (by omega) (by rw [hle2]; omega) hS.2 Ab) (lenOf pd___BII__B rfl) d12_32 rfl (nle rfl) (nle rfl) (nle rfl) (nle rfl) all0 all0 all0 rfl
    replace G := G'; clear G'
    obtain ⟨wr, qr, n, rfl, ⟨kn, An⟩, sn, rfl⟩ := Qr
    replace G := G.val qr
    rw [hle2] at An
    have nsn : s2 ≠ n := (ne_ge Xs.lt sn).symm
    replace Xs := Xs.keep Kr; replace Fv := Fv.keep Kr nin0; replace Fc' := Fc'.keep Kr nin0
    obtain ⟨h3, G', Wv', Fv', Kv'⟩ := G.putf 38 (host := "") (Or.inl (hw _ (mm 25 rfl))) Via.refl Fv Xs (Or.inr ⟨(hw _ (mm 21 rfl)), rfl, hnm⟩) (hw _ (mm 7 rfl)) (ty := (.array .byte)) (by decide) rfl rfl (Or.inl (mm 0 rfl)) (mm 1 rfl) d12_35 rfl
    replace G := G'; clear G'
    replace Fc' := Fc'.other Wv' (Or.inr (slot_ne (Or.inr (hw _ (mm 22 rfl))) (Or.inr (hw _ (mm 21 rfl))) (by decide) (t := .byte) (t' := (.array .byte)) (by decide) (by decide))); replace Xs := Xs.wr Wv'; replace An := An.keep Kv' (ninS nsn.symm nin0)
    replace G := G.goto 97 d12_38 (by decide) (by decide)
    exact G.retV hret hlk d12_97 [n] (allS (mm 0 rfl) all0) ⟨rfl, n, ⟨Xs, Fc', Fv', kn, An⟩, Nat.le_trans Kc'.1 sn, rfl⟩ (nle rfl) (nle rfl)
  · skip
    replace G := G.ifT 41 d12_19 (XT.i0_eq_t rfl) (by decide) (by decide) |>.gets 44 (host := "") (Or.inl (hw _ (mm 44 rfl))) Via.refl (G.sta S1) d12_41 rfl |>.ifF 47 d12_44 (XT.i0_eq_f hc1) rfl |>.aloadN 48 d12_47 rfl rfl rfl |>.getf 51 (host := "") (Or.inl (hw _ (mm 272 rfl))) Via.refl hS.1.2.2.2.2.1 d12_48 rfl |>.ifT 79 d12_51 (XT.i0_eq_t rfl) (by decide) (by decide) |>.aloadN 80 d12_79 rfl rfl rfl |>.iconst 81 (1 : Int32) d12_80 rfl rfl
    obtain ⟨h1, G', Wc', Fc', Kc'⟩ := G.putf 84 (host := "") (Or.inl (hw _ (mm 26 rfl))) Via.refl Fc Xs (Or.inr ⟨(hw _ (mm 22 rfl)), rfl, hnm⟩) (hw _ (mm 7 rfl)) (ty := .byte) (by decide) rfl rfl (Or.inl (mm 0 rfl)) (mm 0 rfl) d12_81 rfl
    replace G := G'; clear G'
    replace Fv := Fv.other Wc' (Or.inr (slot_ne (Or.inr (hw _ (mm 21 rfl))) (Or.inr (hw _ (mm 22 rfl))) (by decide) (t := (.array .byte)) (t' := .byte) (by decide) (by decide))); replace Xs := Xs.wr Wc'; replace hS := hS.keep Kc' (ninS nas.symm nin0) (ninS nbs.symm nin0)
    obtain ⟨kb, Ab⟩ := hS.1.2.2.2.2.2
    replace G := G.aloadN 85 d12_84 rfl rfl rfl |>.aloadN 86 d12_85 rfl rfl rfl |>.iconst 87 (0 : Int32) d12_86 rfl rfl |>.iload 89 d12_87 rfl rfl |>.iconst 90 (1 : Int32) d12_89 rfl rfl |>.ishl 91 d12_90 rfl |>.top (y := (.int (Int32.ofNat (encS 1 cs).length))) (congrArg Value.int ((shl1 (by omega)).trans (by rw [hle2, Nat.pow_one])))
    obtain ⟨vr, h2, sor, G', Kr, Qr⟩ := G.callS 94 (hw _ (mm 93 rfl)) (hw _ (mm 94 rfl)) (hw _ (mm 95 rfl)) (hw _ (mm 96 rfl)) (by decide) [(.ref b), (.int (0 : Int32)), (.int (Int32.ofNat (encS 1 cs).length))] [(.ref s2)] rfl (c_corX l Z a0 hw hEW n0 c1 hc1 S1 v2 hv2 S2 S3 S4 S5 b kb (cap * 2 ^ 1) (encS 1 cs) G.old (by rw [hle2]; exact e0) (by omega) (by rw [hle2]; omega) hS.2 Ab) (lenOf pd___BII__B rfl) d12_91 rfl (nle rfl) (nle rfl) (nle rfl) (nle rfl) all0 all0 all0 rfl
    replace G := G'; clear G'
    obtain ⟨wr, qr, n, rfl, ⟨kn, An⟩, sn, rfl⟩ := Qr
    replace G := G.val qr
    rw [hle2] at An
    have nsn : s2 ≠ n := (ne_ge Xs.lt sn).symm
    replace Xs := Xs.keep Kr; replace Fv := Fv.keep Kr nin0; replace Fc' := Fc'.keep Kr nin0
    obtain ⟨h3, G', Wv', Fv', Kv'⟩ := G.putf 97 (host := "") (Or.inl (hw _ (mm 25 rfl))) Via.refl Fv Xs (Or.inr ⟨(hw _ (mm 21 rfl)), rfl, hnm⟩) (hw _ (mm 7 rfl)) (ty := (.array .byte)) (by decide) rfl rfl (Or.inl (mm 0 rfl)) (mm 1 rfl) d12_94 rfl
    replace G := G'; clear G'
    replace Fc' := Fc'.other Wv' (Or.inr (slot_ne (Or.inr (hw _ (mm 22 rfl))) (Or.inr (hw _ (mm 21 rfl))) (by decide) (t := .byte) (t' := (.array .byte)) (by decide) (by decide))); replace Xs := Xs.wr Wv'; replace An := An.keep Kv' (ninS nsn.symm nin0)
    exact G.retV hret hlk d12_97 [n] (allS (mm 0 rfl) all0) ⟨rfl, n, ⟨Xs, Fc', Fv', kn, An⟩, Nat.le_trans Kc'.1 sn, rfl⟩ (nle rfl) (nle rfl)
theorem d11_0 : decode jdk_42_method_53_code 0 = .ok (.aload_n 0, 1) := by decide +kernel
theorem d11_1 : decode jdk_42_method_53_code 1 = .ok (.aload_n 1, 1) := by decide +kernel
theorem d11_2 : decode jdk_42_method_53_code 2 = .ok (.aconst_null, 1) := by decide +kernel
theorem d11_3 : decode jdk_42_method_53_code 3 = .ok (.invokespecial 489, 3) := by decide +kernel
theorem d11_6 : decode jdk_42_method_53_code 6 = .ok (.return_, 1) := by decide +kernel
theorem c_sSBX (l : Launch) (Z : State) (a0 : Array Value) (hw : ∀ d ∈ tables_1, d.before a0 Z = true) (hEW : EW Z a0 consts_1) (n0 : Nat) (c1 : Int32) (hc1 : ¬ c1 = 0) (S1 : Sta Z Z.heap "java/lang/String" "COMPACT_STRINGS" "Z" (.int c1)) (v2 : Value) (hv2 : v2.isRef = true) (S2 : Sta Z Z.heap "jdk/internal/util/Preconditions" "SIOOBE_FORMATTER" "Ljava/util/function/BiFunction;" v2) (S3 : Sta Z Z.heap "java/lang/StringUTF16" "$assertionsDisabled" "Z" (.int 1)) (S4 : Sta Z Z.heap "java/lang/StringUTF16" "HI_BYTE_SHIFT" "I" (.int 0)) (S5 : Sta Z Z.heap "java/lang/StringUTF16" "LO_BYTE_SHIFT" "I" (.int 8)) (s2 a b : Addr) (cap k : Nat) (cs : List Nat) {h0 : Heap} (o1 : Old Z n0 h0) (ge_s2 : n0 ≤ s2) (hk : k = 0 ∨ k = 1) (hle : cs.length ≤ cap) (hcap : cap ≤ 26) (hmx : cs.length ≤ 12) (Xs : Exa Z h0 s2 "java/lang/String") (Fv : Fld Z h0 s2 "java/lang/String" "value" "[B" .null) (Fc : Fld Z h0 s2 "java/lang/String" "coder" "B" (.int 0)) (hS : SbdX Z h0 a b cap k cs) :
    Con Z a0 l (⟨"java/lang/String", "<init>", "(Ljava/lang/StringBuilder;)V"⟩ : MethodName) jdk_42_method_53_code 2 (none) ({ frames := 4, cells := 1, slots := 24, locals := 88 } : Room) [] #[(.ref s2), (.ref a)] consts_1 h0 n0 [s2] [s2] (V0 fun h so => ∃ n, StrK Z h s2 n k cs ∧ h0.size ≤ n ∧ so = [n]) := by
  refine Con.body (plainFor_of_name pn_java_lang_String) hEW o1 (allS ge_s2 all0) #[.val (.ref s2), .val (.ref a)] (fun m => by first | (simp [entryFrame, mkF, argsToLocals, Value.category]; done) | rfl) ?_
  intro p e s m below meth c B hnm hret hlk G
  replace G := G.aloadN 1 d11_0 rfl rfl rfl |>.aloadN 2 d11_1 rfl rfl rfl |>.aconstNull 3 d11_2 rfl
  obtain ⟨vi, h1, soi, G', Ki, Qi⟩ := G.callI 6 rfl rfl (hw _ (mm 69 rfl)) (hw _ (mm 70 rfl)) (hw _ (mm 8 rfl)) (hw _ (mm 71 rfl)) (by decide) [(.ref a), .null] [] rfl (c_sASBX l Z a0 hw hEW n0 c1 hc1 S1 v2 hv2 S2 S3 S4 S5 s2 a b cap k cs G.old ge_s2 hk hle hcap hmx Xs Fv Fc hS) (lenOf pd__Ljava_lang_AbstractStringBuilder_Ljava_lang_Void__V rfl) d11_3 rfl (nle rfl) (nle rfl) (nle rfl) (nle rfl) (allS (Or.inl (mm 0 rfl)) all0) (allS (mm 0 rfl) all0) (allS (mm 0 rfl) all0) rfl
  replace G := G'; clear G'
  obtain ⟨qi, n, hT, sn, rfl⟩ := Qi
  replace G := G.nov qi
  exact G.retV hret hlk d11_6 [n] (allS (mm 0 rfl) all0) ⟨rfl, n, hT, sn, rfl⟩ (nle rfl) (nle rfl)
theorem d10_0 : decode jdk_67_method_42_code 0 = .ok (.new 18, 3) := by decide +kernel
theorem d10_3 : decode jdk_67_method_42_code 3 = .ok (.dup, 1) := by decide +kernel
theorem d10_4 : decode jdk_67_method_42_code 4 = .ok (.aload_n 0, 1) := by decide +kernel
theorem d10_5 : decode jdk_67_method_42_code 5 = .ok (.invokespecial 137, 3) := by decide +kernel
theorem d10_8 : decode jdk_67_method_42_code 8 = .ok (.areturn, 1) := by decide +kernel
theorem c_toStrX (l : Launch) (Z : State) (a0 : Array Value) (hw : ∀ d ∈ tables_1, d.before a0 Z = true) (hEW : EW Z a0 consts_1) (n0 : Nat) (c1 : Int32) (hc1 : ¬ c1 = 0) (S1 : Sta Z Z.heap "java/lang/String" "COMPACT_STRINGS" "Z" (.int c1)) (v2 : Value) (hv2 : v2.isRef = true) (S2 : Sta Z Z.heap "jdk/internal/util/Preconditions" "SIOOBE_FORMATTER" "Ljava/util/function/BiFunction;" v2) (S3 : Sta Z Z.heap "java/lang/StringUTF16" "$assertionsDisabled" "Z" (.int 1)) (S4 : Sta Z Z.heap "java/lang/StringUTF16" "HI_BYTE_SHIFT" "I" (.int 0)) (S5 : Sta Z Z.heap "java/lang/StringUTF16" "LO_BYTE_SHIFT" "I" (.int 8)) (a b : Addr) (cap k : Nat) (cs : List Nat) {h0 : Heap} (o1 : Old Z n0 h0) (hk : k = 0 ∨ k = 1) (hle : cs.length ≤ cap) (hcap : cap ≤ 26) (hmx : cs.length ≤ 12) (hS : SbdX Z h0 a b cap k cs) :
    Con Z a0 l (⟨"java/lang/StringBuilder", "toString", "()Ljava/lang/String;"⟩ : MethodName) jdk_67_method_42_code 1 (some (.object "java/lang/String")) ({ frames := 5, cells := 2, slots := 28, locals := 102 } : Room) [] #[(.ref a)] consts_1 h0 n0 [] [] (VV fun w h so => ∃ s2 n, w = .ref s2 ∧ StrK Z h s2 n k cs ∧ h0.size ≤ s2 ∧ h0.size ≤ n ∧ so = [n, s2]) := by
  refine Con.body (plainFor_of_name pn_java_lang_StringBuilder) hEW o1 all0 #[.val (.ref a)] (fun m => by first | (simp [entryFrame, mkF, argsToLocals, Value.category]; done) | rfl) ?_
  intro p e s m below meth c B hnm hret hlk G
  obtain ⟨s2, h1, G', gs2, ss2, Es2, Xs2, Ds2, Us2⟩ := G.new 3 (hw _ (mm 65 rfl)) (hw _ (mm 7 rfl)) (hw _ (mm 8 rfl)) d10_0 rfl (nle rfl) (nle rfl)
  replace G := G'; clear G'
  have Fv := Ds2 (Or.inr (hw _ (mm 21 rfl))) (ty := .array .byte) (by decide); have Fc := Ds2 (Or.inr (hw _ (mm 22 rfl))) (ty := .byte) (by decide); replace hS := hS.ext Es2
  replace G := G.dup 4 d10_3 rfl rfl |>.aloadN 5 d10_4 rfl rfl rfl
  obtain ⟨vi, h2, soi, G', Ki, Qi⟩ := G.callI 8 rfl rfl (hw _ (mm 66 rfl)) (hw _ (mm 67 rfl)) (hw _ (mm 8 rfl)) (hw _ (mm 68 rfl)) (by decide) [(.ref a)] [(.ref s2)] rfl (c_sSBX l Z a0 hw hEW n0 c1 hc1 S1 v2 hv2 S2 S3 S4 S5 s2 a b cap k cs G.old (G.nw (Or.inr ss2)) hk hle hcap hmx Xs2 Fv Fc hS) (lenOf pd__Ljava_lang_StringBuilder__V rfl) d10_5 rfl (nle rfl) (nle rfl) (nle rfl) (nle rfl) (allS (Or.inr ss2) all0) (allS (mm 0 rfl) all0) (allS (mm 0 rfl) all0) rfl
  replace G := G'; clear G'
  obtain ⟨qi, n, hT, sn, rfl⟩ := Qi
  replace G := G.nov qi
  exact G.retA hret rfl rfl hlk d10_8 [n, s2] (allS (mm 0 rfl) (allS (mm 1 rfl) all0)) ⟨_, rfl, s2, n, rfl, hT, ss2, Nat.le_trans Es2.1 sn, rfl⟩ (nle rfl) (nle rfl)
theorem d33_0 : decode jdk_43_method_23_code 0 = .ok (.iload_n 1, 1) := by decide +kernel
theorem d33_1 : decode jdk_43_method_23_code 1 = .ok (.i2b, 1) := by decide +kernel
theorem d33_2 : decode jdk_43_method_23_code 2 = .ok (.istore 4, 2) := by decide +kernel
theorem d33_4 : decode jdk_43_method_23_code 4 = .ok (.iload_n 2, 1) := by decide +kernel
theorem d33_5 : decode jdk_43_method_23_code 5 = .ok (.istore 5, 2) := by decide +kernel
theorem d33_7 : decode jdk_43_method_23_code 7 = .ok (.iload 5, 2) := by decide +kernel
theorem d33_9 : decode jdk_43_method_23_code 9 = .ok (.iload_n 3, 1) := by decide +kernel
theorem d33_10 : decode jdk_43_method_23_code 10 = .ok (.if_icmp .ge 21, 3) := by decide +kernel
theorem d33_13 : decode jdk_43_method_23_code 13 = .ok (.aload_n 0, 1) := by decide +kernel
theorem d33_14 : decode jdk_43_method_23_code 14 = .ok (.iload 5, 2) := by decide +kernel
theorem d33_16 : decode jdk_43_method_23_code 16 = .ok (.baload, 1) := by decide +kernel
theorem d33_17 : decode jdk_43_method_23_code 17 = .ok (.iload 4, 2) := by decide +kernel
theorem d33_19 : decode jdk_43_method_23_code 19 = .ok (.if_icmp .ne 6, 3) := by decide +kernel
theorem d33_22 : decode jdk_43_method_23_code 22 = .ok (.iload 5, 2) := by decide +kernel
theorem d33_24 : decode jdk_43_method_23_code 24 = .ok (.ireturn, 1) := by decide +kernel
theorem d33_25 : decode jdk_43_method_23_code 25 = .ok (.iinc 5 1, 3) := by decide +kernel
theorem d33_28 : decode jdk_43_method_23_code 28 = .ok (.goto (-21), 3) := by decide +kernel
theorem d33_31 : decode jdk_43_method_23_code 31 = .ok (.iconst (-1), 1) := by decide +kernel
theorem d33_32 : decode jdk_43_method_23_code 32 = .ok (.ireturn, 1) := by decide +kernel
theorem c_ioc (l : Launch) (Z : State) (a0 : Array Value) (hw : ∀ d ∈ tables_1, d.before a0 Z = true) (hEW : EW Z a0 consts_1) (n0 : Nat) (c1 : Int32) (hc1 : ¬ c1 = 0) (S1 : Sta Z Z.heap "java/lang/String" "COMPACT_STRINGS" "Z" (.int c1)) (v2 : Value) (hv2 : v2.isRef = true) (S2 : Sta Z Z.heap "jdk/internal/util/Preconditions" "SIOOBE_FORMATTER" "Ljava/util/function/BiFunction;" v2) (S3 : Sta Z Z.heap "java/lang/StringUTF16" "$assertionsDisabled" "Z" (.int 1)) (S4 : Sta Z Z.heap "java/lang/StringUTF16" "HI_BYTE_SHIFT" "I" (.int 0)) (S5 : Sta Z Z.heap "java/lang/StringUTF16" "LO_BYTE_SHIFT" "I" (.int 8)) (b : Addr) (kb : ClassId) (x : Nat) {h0 : Heap} (o1 : Old Z n0 h0) (hx : x < 256) (Ab : Arv Z h0 b kb .byte (4 : Int32) [.int (92 : Int32), .int (9 : Int32), .int (10 : Int32), .int (13 : Int32)] (.int 0)) :
    Con Z a0 l (⟨"java/lang/StringLatin1", "indexOfChar", "([BIII)I"⟩ : MethodName) jdk_43_method_23_code 6 (some .int) ({ frames := 0, cells := 0, slots := 0, locals := 0 } : Room) [] #[(.ref b), (.int (Int32.ofNat x)), (.int (0 : Int32)), (.int (4 : Int32))] consts_1 h0 n0 [] [] (VV fun w h so => w = .int (ixOf x) ∧ h = h0 ∧ so = []) := by
  refine Con.body (plainFor_of_name pn_java_lang_StringLatin1) hEW o1 all0 #[.val (.ref b), .val (.int (Int32.ofNat x)), .val (.int (0 : Int32)), .val (.int (4 : Int32)), .unset, .unset] (fun m => by first | (simp [entryFrame, mkF, argsToLocals, Value.category]; done) | rfl) ?_
  intro p e s m below meth c B hnm hret hlk G
  have hb := byt_lit ⟨x, hx⟩
  replace G := G.iloadN 1 d33_0 rfl rfl |>.i2b 2 d33_1 rfl |>.istore 4 #[.val (.ref b), .val (.int (Int32.ofNat x)), .val (.int (0 : Int32)), .val (.int (4 : Int32)), .val (.int ((Int32.ofNat x)).toInt8.toInt32), .unset] d33_2 rfl rfl |>.iloadN 5 d33_4 rfl rfl |>.istore 7 #[.val (.ref b), .val (.int (Int32.ofNat x)), .val (.int (0 : Int32)), .val (.int (4 : Int32)), .val (.int ((Int32.ofNat x)).toInt8.toInt32), .val (.int (0 : Int32))] d33_5 rfl rfl |>.iload 9 d33_7 rfl rfl |>.iloadN 10 d33_9 rfl rfl |>.icmpF 13 d33_10 (XT.ii_ge_f (by decide)) rfl
  replace G := G.aloadN 14 d33_13 rfl rfl rfl |>.iload 16 d33_14 rfl rfl |>.baload 17 (v := (.int (92 : Int32))) Ab ⟨by decide, by decide⟩ rfl d33_16 rfl |>.iload 19 d33_17 rfl rfl
  rcases Decidable.em (x = 92) with e0 | e0
  · skip
    replace G := G.icmpF 22 d33_19 (XT.ii_ne_f (hb.1.mpr e0)) rfl |>.iload 24 d33_22 rfl rfl
    exact G.retI hret hlk d33_24 [] all0 ⟨_, rfl, by unfold ixOf; rw [if_pos e0], rfl, rfl⟩ (nle rfl) (nle rfl)
  · skip
    replace G := G.icmpT 25 d33_19 (XT.ii_ne_t (fun q => e0 (hb.1.mp q))) (by decide) (by decide) |>.iincV 28 #[.val (.ref b), .val (.int (Int32.ofNat x)), .val (.int (0 : Int32)), .val (.int (4 : Int32)), .val (.int ((Int32.ofNat x)).toInt8.toInt32), .val (.int (1 : Int32))] (1 : Int32) d33_25 rfl (by decide) rfl rfl |>.goto 7 d33_28 (by decide) (by decide) |>.iload 9 d33_7 rfl rfl |>.iloadN 10 d33_9 rfl rfl |>.icmpF 13 d33_10 (XT.ii_ge_f (by decide)) rfl |>.aloadN 14 d33_13 rfl rfl rfl |>.iload 16 d33_14 rfl rfl
    replace G := G.baload 17 (v := (.int (9 : Int32))) Ab ⟨by decide, by decide⟩ rfl d33_16 rfl |>.iload 19 d33_17 rfl rfl
    rcases Decidable.em (x = 9) with e1 | e1
    · skip
      replace G := G.icmpF 22 d33_19 (XT.ii_ne_f (hb.2.1.mpr e1)) rfl |>.iload 24 d33_22 rfl rfl
      exact G.retI hret hlk d33_24 [] all0 ⟨_, rfl, by unfold ixOf; rw [if_neg e0, if_pos e1], rfl, rfl⟩ (nle rfl) (nle rfl)
    · skip
      replace G := G.icmpT 25 d33_19 (XT.ii_ne_t (fun q => e1 (hb.2.1.mp q))) (by decide) (by decide) |>.iincV 28 #[.val (.ref b), .val (.int (Int32.ofNat x)), .val (.int (0 : Int32)), .val (.int (4 : Int32)), .val (.int ((Int32.ofNat x)).toInt8.toInt32), .val (.int (2 : Int32))] (2 : Int32) d33_25 rfl (by decide) rfl rfl |>.goto 7 d33_28 (by decide) (by decide) |>.iload 9 d33_7 rfl rfl |>.iloadN 10 d33_9 rfl rfl |>.icmpF 13 d33_10 (XT.ii_ge_f (by decide)) rfl |>.aloadN 14 d33_13 rfl rfl rfl |>.iload 16 d33_14 rfl rfl
      replace G := G.baload 17 (v := (.int (10 : Int32))) Ab ⟨by decide, by decide⟩ rfl d33_16 rfl |>.iload 19 d33_17 rfl rfl
      rcases Decidable.em (x = 10) with e2 | e2
      · skip
        replace G := G.icmpF 22 d33_19 (XT.ii_ne_f (hb.2.2.1.mpr e2)) rfl |>.iload 24 d33_22 rfl rfl
        exact G.retI hret hlk d33_24 [] all0 ⟨_, rfl, by unfold ixOf; rw [if_neg e0, if_neg e1, if_pos e2], rfl, rfl⟩ (nle rfl) (nle rfl)
      · skip
        replace G := G.icmpT 25 d33_19 (XT.ii_ne_t (fun q => e2 (hb.2.2.1.mp q))) (by decide) (by decide) |>.iincV 28 #[.val (.ref b), .val (.int (Int32.ofNat x)), .val (.int (0 : Int32)), .val (.int (4 : Int32)), .val (.int ((Int32.ofNat x)).toInt8.toInt32), .val (.int (3 : Int32))] (3 : Int32) d33_25 rfl (by decide) rfl rfl |>.goto 7 d33_28 (by decide) (by decide) |>.iload 9 d33_7 rfl rfl |>.iloadN 10 d33_9 rfl rfl |>.icmpF 13 d33_10 (XT.ii_ge_f (by decide)) rfl |>.aloadN 14 d33_13 rfl rfl rfl |>.iload 16 d33_14 rfl rfl
        replace G := G.baload 17 (v := (.int (13 : Int32))) Ab ⟨by decide, by decide⟩ rfl d33_16 rfl |>.iload 19 d33_17 rfl rfl
        rcases Decidable.em (x = 13) with e3 | e3
        · skip
          replace G := G.icmpF 22 d33_19 (XT.ii_ne_f (hb.2.2.2.mpr e3)) rfl |>.iload 24 d33_22 rfl rfl
          exact G.retI hret hlk d33_24 [] all0 ⟨_, rfl, by unfold ixOf; rw [if_neg e0, if_neg e1, if_neg e2, if_pos e3], rfl, rfl⟩ (nle rfl) (nle rfl)
        · skip
          replace G := G.icmpT 25 d33_19 (XT.ii_ne_t (fun q => e3 (hb.2.2.2.mp q))) (by decide) (by decide) |>.iincV 28 #[.val (.ref b), .val (.int (Int32.ofNat x)), .val (.int (0 : Int32)), .val (.int (4 : Int32)), .val (.int ((Int32.ofNat x)).toInt8.toInt32), .val (.int (4 : Int32))] (4 : Int32) d33_25 rfl (by decide) rfl rfl |>.goto 7 d33_28 (by decide) (by decide) |>.iload 9 d33_7 rfl rfl |>.iloadN 10 d33_9 rfl rfl |>.icmpT 31 d33_10 (XT.ii_ge_t (by decide)) (by decide) (by decide) |>.iconst 32 (-1 : Int32) d33_31 rfl rfl
          exact G.retI hret hlk d33_32 [] all0 ⟨_, rfl, by unfold ixOf; rw [if_neg e0, if_neg e1, if_neg e2, if_neg e3], rfl, rfl⟩ (nle rfl) (nle rfl)
theorem d30_0 : decode jdk_43_method_4_code 0 = .ok (.iload_n 0, 1) := by decide +kernel
theorem d30_1 : decode jdk_43_method_4_code 1 = .ok (.ifCond .lt 14, 3) := by decide +kernel
theorem d30_4 : decode jdk_43_method_4_code 4 = .ok (.iload_n 0, 1) := by decide +kernel
theorem d30_5 : decode jdk_43_method_4_code 5 = .ok (.sipush 255, 3) := by decide +kernel
theorem d30_8 : decode jdk_43_method_4_code 8 = .ok (.if_icmp .gt 7, 3) := by decide +kernel
theorem d30_11 : decode jdk_43_method_4_code 11 = .ok (.iconst 1, 1) := by decide +kernel
theorem d30_12 : decode jdk_43_method_4_code 12 = .ok (.goto 4, 3) := by decide +kernel
theorem d30_15 : decode jdk_43_method_4_code 15 = .ok (.iconst 0, 1) := by decide +kernel
theorem d30_16 : decode jdk_43_method_4_code 16 = .ok (.ireturn, 1) := by decide +kernel
theorem c_ceI (l : Launch) (Z : State) (a0 : Array Value) (hw : ∀ d ∈ tables_1, d.before a0 Z = true) (hEW : EW Z a0 consts_1) (n0 : Nat) (c1 : Int32) (hc1 : ¬ c1 = 0) (S1 : Sta Z Z.heap "java/lang/String" "COMPACT_STRINGS" "Z" (.int c1)) (v2 : Value) (hv2 : v2.isRef = true) (S2 : Sta Z Z.heap "jdk/internal/util/Preconditions" "SIOOBE_FORMATTER" "Ljava/util/function/BiFunction;" v2) (S3 : Sta Z Z.heap "java/lang/StringUTF16" "$assertionsDisabled" "Z" (.int 1)) (S4 : Sta Z Z.heap "java/lang/StringUTF16" "HI_BYTE_SHIFT" "I" (.int 0)) (S5 : Sta Z Z.heap "java/lang/StringUTF16" "LO_BYTE_SHIFT" "I" (.int 8)) (x : Nat) {h0 : Heap} (o1 : Old Z n0 h0) (hc : x < 65536) :
    Con Z a0 l (⟨"java/lang/StringLatin1", "canEncode", "(I)Z"⟩ : MethodName) jdk_43_method_4_code 1 (some .boolean) ({ frames := 0, cells := 0, slots := 0, locals := 0 } : Room) [] #[(.int (Int32.ofNat x))] consts_1 h0 n0 [] [] (VV fun w h so => w = .int (if x < 256 then 1 else 0) ∧ h = h0 ∧ so = []) := by
  refine Con.body (plainFor_of_name pn_java_lang_StringLatin1) hEW o1 all0 #[.val (.int (Int32.ofNat x))] (fun m => by first | (simp [entryFrame, mkF, argsToLocals, Value.category]; done) | rfl) ?_
  intro p e s m below meth c B hnm hret hlk G
  rcases Nat.lt_or_ge x 256 with hx | hx
  · skip
    replace G := G.iloadN 1 d30_0 rfl rfl |>.ifF 4 d30_1 (XT.i0_lt_f (ofn_nn (by omega))) rfl |>.iloadN 5 d30_4 rfl rfl |>.sipush 8 (255 : Int32) d30_5 (by decide) rfl |>.icmpF 11 d30_8 (XT.ii_gt_f (c255 hx)) rfl |>.iconst 12 (1 : Int32) d30_11 rfl rfl |>.goto 16 d30_12 (by decide) (by decide)
    exact G.retN hret (Or.inl rfl) hlk d30_16 [] all0 ⟨_, rfl, by rw [if_pos hx] <;> rfl, rfl, rfl⟩ (nle rfl) (nle rfl)
  · skip
    replace G := G.iloadN 1 d30_0 rfl rfl |>.ifF 4 d30_1 (XT.i0_lt_f (ofn_nn (by omega))) rfl |>.iloadN 5 d30_4 rfl rfl |>.sipush 8 (255 : Int32) d30_5 (by decide) rfl |>.icmpT 15 d30_8 (XT.ii_gt_t (ofn_lt (i := 255) hx (by omega))) (by decide) (by decide) |>.iconst 16 (0 : Int32) d30_15 rfl rfl
    exact G.retN hret (Or.inl rfl) hlk d30_16 [] all0 ⟨_, rfl, by rw [if_neg (Nat.not_lt.mpr hx)] <;> rfl, rfl, rfl⟩ (nle rfl) (nle rfl)
theorem d29_0 : decode jdk_43_method_22_code 0 = .ok (.iload_n 1, 1) := by decide +kernel
theorem d29_1 : decode jdk_43_method_22_code 1 = .ok (.invokestatic 88, 3) := by decide +kernel
theorem d29_4 : decode jdk_43_method_22_code 4 = .ok (.ifCond .ne 5, 3) := by decide +kernel
theorem d29_7 : decode jdk_43_method_22_code 7 = .ok (.iconst (-1), 1) := by decide +kernel
theorem d29_8 : decode jdk_43_method_22_code 8 = .ok (.ireturn, 1) := by decide +kernel
theorem d29_9 : decode jdk_43_method_22_code 9 = .ok (.iload_n 2, 1) := by decide +kernel
theorem d29_10 : decode jdk_43_method_22_code 10 = .ok (.iconst 0, 1) := by decide +kernel
theorem d29_11 : decode jdk_43_method_22_code 11 = .ok (.invokestatic 92, 3) := by decide +kernel
theorem d29_14 : decode jdk_43_method_22_code 14 = .ok (.istore_n 2, 1) := by decide +kernel
theorem d29_15 : decode jdk_43_method_22_code 15 = .ok (.iload_n 3, 1) := by decide +kernel
theorem d29_16 : decode jdk_43_method_22_code 16 = .ok (.aload_n 0, 1) := by decide +kernel
theorem d29_17 : decode jdk_43_method_22_code 17 = .ok (.arraylength, 1) := by decide +kernel
theorem d29_18 : decode jdk_43_method_22_code 18 = .ok (.invokestatic 38, 3) := by decide +kernel
theorem d29_21 : decode jdk_43_method_22_code 21 = .ok (.istore_n 3, 1) := by decide +kernel
theorem d29_22 : decode jdk_43_method_22_code 22 = .ok (.iload_n 2, 1) := by decide +kernel
theorem d29_23 : decode jdk_43_method_22_code 23 = .ok (.iload_n 3, 1) := by decide +kernel
theorem d29_24 : decode jdk_43_method_22_code 24 = .ok (.if_icmp .lt 5, 3) := by decide +kernel
theorem d29_27 : decode jdk_43_method_22_code 27 = .ok (.iconst (-1), 1) := by decide +kernel
theorem d29_28 : decode jdk_43_method_22_code 28 = .ok (.ireturn, 1) := by decide +kernel
theorem d29_29 : decode jdk_43_method_22_code 29 = .ok (.aload_n 0, 1) := by decide +kernel
theorem d29_30 : decode jdk_43_method_22_code 30 = .ok (.iload_n 1, 1) := by decide +kernel
theorem d29_31 : decode jdk_43_method_22_code 31 = .ok (.iload_n 2, 1) := by decide +kernel
theorem d29_32 : decode jdk_43_method_22_code 32 = .ok (.iload_n 3, 1) := by decide +kernel
theorem d29_33 : decode jdk_43_method_22_code 33 = .ok (.invokestatic 95, 3) := by decide +kernel
theorem d29_36 : decode jdk_43_method_22_code 36 = .ok (.ireturn, 1) := by decide +kernel
theorem c_iol (l : Launch) (Z : State) (a0 : Array Value) (hw : ∀ d ∈ tables_1, d.before a0 Z = true) (hEW : EW Z a0 consts_1) (n0 : Nat) (c1 : Int32) (hc1 : ¬ c1 = 0) (S1 : Sta Z Z.heap "java/lang/String" "COMPACT_STRINGS" "Z" (.int c1)) (v2 : Value) (hv2 : v2.isRef = true) (S2 : Sta Z Z.heap "jdk/internal/util/Preconditions" "SIOOBE_FORMATTER" "Ljava/util/function/BiFunction;" v2) (S3 : Sta Z Z.heap "java/lang/StringUTF16" "$assertionsDisabled" "Z" (.int 1)) (S4 : Sta Z Z.heap "java/lang/StringUTF16" "HI_BYTE_SHIFT" "I" (.int 0)) (S5 : Sta Z Z.heap "java/lang/StringUTF16" "LO_BYTE_SHIFT" "I" (.int 8)) (b : Addr) (kb : ClassId) (x : Nat) {h0 : Heap} (o1 : Old Z n0 h0) (hc : x < 65536) (Ab : Arv Z h0 b kb .byte (4 : Int32) [.int (92 : Int32), .int (9 : Int32), .int (10 : Int32), .int (13 : Int32)] (.int 0)) :
    Con Z a0 l (⟨"java/lang/StringLatin1", "indexOf", "([BIII)I"⟩ : MethodName) jdk_43_method_22_code 4 (some .int) ({ frames := 1, cells := 0, slots := 0, locals := 17 } : Room) [] #[(.ref b), (.int (Int32.ofNat x)), (.int (0 : Int32)), (.int (4 : Int32))] consts_1 h0 n0 [] [] (VV fun w h so => w = .int (ixOf x) ∧ h = h0 ∧ so = []) := by
  refine Con.body (plainFor_of_name pn_java_lang_StringLatin1) hEW o1 all0 #[.val (.ref b), .val (.int (Int32.ofNat x)), .val (.int (0 : Int32)), .val (.int (4 : Int32))] (fun m => by first | (simp [entryFrame, mkF, argsToLocals, Value.category]; done) | rfl) ?_
  intro p e s m below meth c B hnm hret hlk G
  replace G := G.iloadN 1 d29_0 rfl rfl
  obtain ⟨ve, h_e, soe, G', Ke, Qe⟩ := G.callS 4 (hw _ (mm 157 rfl)) (hw _ (mm 158 rfl)) (hw _ (mm 132 rfl)) (hw _ (mm 159 rfl)) (by decide) [(.int (Int32.ofNat x))] [] rfl (c_ceI l Z a0 hw hEW n0 c1 hc1 S1 v2 hv2 S2 S3 S4 S5 x G.old hc) (lenOf pd__I_Z rfl) d29_1 rfl (nle rfl) (nle rfl) (nle rfl) (nle rfl) all0 all0 all0 rfl
  replace G := G'; clear G'
  obtain ⟨we, qe, rfl, ee, rfl⟩ := Qe
  replace G := G.val qe
  subst ee
  rcases Nat.lt_or_ge x 256 with hx | hx
  · skip
    rw [if_pos hx] at G
    replace G := G.ifT 9 d29_4 (XT.i0_ne_t (by decide)) (by decide) (by decide) |>.iloadN 10 d29_9 rfl rfl |>.iconst 11 (0 : Int32) d29_10 rfl rfl |>.cast (S' := [(.int (Int32.ofNat 0)), (.int (Int32.ofNat 0))]) rfl rfl
    obtain ⟨vm, h_m, som, G', Km, Qm⟩ := G.callS 14 (hw _ (mm 160 rfl)) (hw _ (mm 161 rfl)) (hw _ (mm 162 rfl)) (hw _ (mm 163 rfl)) (by decide) [(.int (Int32.ofNat 0)), (.int (Int32.ofNat 0))] [] rfl (c_max l Z a0 hw hEW n0 c1 hc1 S1 v2 hv2 S2 S3 S4 S5 0 0 G.old (by decide) (by decide)) (lenOf pd__II_I rfl) d29_11 rfl (nle rfl) (nle rfl) (nle rfl) (nle rfl) all0 all0 all0 rfl
    replace G := G'; clear G'
    obtain ⟨wm, qm, rfl, em, rfl⟩ := Qm
    replace G := G.val qm
    subst em
    replace G := G.top (y := (.int (0 : Int32))) (rfl) |>.istoreN 15 #[.val (.ref b), .val (.int (Int32.ofNat x)), .val (.int (0 : Int32)), .val (.int (4 : Int32))] d29_14 rfl rfl |>.iloadN 16 d29_15 rfl rfl |>.aloadN 17 d29_16 rfl rfl rfl |>.alen 18 Ab d29_17 rfl
    obtain ⟨vn, h_n, son, G', Kn, Qn⟩ := G.callS 21 (hw _ (mm 164 rfl)) (hw _ (mm 165 rfl)) (hw _ (mm 162 rfl)) (hw _ (mm 166 rfl)) (by decide) [(.int (4 : Int32)), (.int (4 : Int32))] [] rfl (c_minL l Z a0 hw hEW n0 c1 hc1 S1 v2 hv2 S2 S3 S4 S5 4 4 G.old (by decide)) (lenOf pd__II_I rfl) d29_18 rfl (nle rfl) (nle rfl) (nle rfl) (nle rfl) all0 all0 all0 rfl
    replace G := G'; clear G'
    obtain ⟨wn, qn, rfl, en, rfl⟩ := Qn
    replace G := G.val qn
    subst en
    replace G := G.istoreN 22 #[.val (.ref b), .val (.int (Int32.ofNat x)), .val (.int (0 : Int32)), .val (.int (4 : Int32))] d29_21 rfl rfl |>.iloadN 23 d29_22 rfl rfl |>.iloadN 24 d29_23 rfl rfl |>.icmpT 29 d29_24 (XT.ii_lt_t (by decide)) (by decide) (by decide) |>.aloadN 30 d29_29 rfl rfl rfl |>.iloadN 31 d29_30 rfl rfl |>.iloadN 32 d29_31 rfl rfl |>.iloadN 33 d29_32 rfl rfl
    obtain ⟨vi, h_i, soi, G', Ki, Qi⟩ := G.callS 36 (hw _ (mm 167 rfl)) (hw _ (mm 168 rfl)) (hw _ (mm 132 rfl)) (hw _ (mm 169 rfl)) (by decide) [(.ref b), (.int (Int32.ofNat x)), (.int (0 : Int32)), (.int (4 : Int32))] [] rfl (c_ioc l Z a0 hw hEW n0 c1 hc1 S1 v2 hv2 S2 S3 S4 S5 b kb x G.old hx Ab) (lenOf pd___BIII_I rfl) d29_33 rfl (nle rfl) (nle rfl) (nle rfl) (nle rfl) all0 all0 all0 rfl
    replace G := G'; clear G'
    obtain ⟨wi, qi, rfl, ei, rfl⟩ := Qi
    replace G := G.val qi
    subst ei
    exact G.retI hret hlk d29_36 [] all0 ⟨_, rfl, rfl, rfl, rfl⟩ (nle rfl) (nle rfl)
  · skip
    rw [if_neg (Nat.not_lt.mpr hx)] at G
    replace G := G.ifF 7 d29_4 (XT.i0_ne_f rfl) rfl |>.iconst 8 (-1 : Int32) d29_7 rfl rfl
    exact G.retI hret hlk d29_8 [] all0 ⟨_, rfl, by unfold ixOf; rw [if_neg (by omega), if_neg (by omega), if_neg (by omega), if_neg (by omega)], rfl, rfl⟩ (nle rfl) (nle rfl)
theorem d28_0 : decode jdk_42_method_80_code 0 = .ok (.aload_n 0, 1) := by decide +kernel
theorem d28_1 : decode jdk_42_method_80_code 1 = .ok (.invokevirtual 492, 3) := by decide +kernel
theorem d28_4 : decode jdk_42_method_80_code 4 = .ok (.ifCond .eq 19, 3) := by decide +kernel
theorem d28_7 : decode jdk_42_method_80_code 7 = .ok (.aload_n 0, 1) := by decide +kernel
theorem d28_8 : decode jdk_42_method_80_code 8 = .ok (.getfield 9, 3) := by decide +kernel
theorem d28_11 : decode jdk_42_method_80_code 11 = .ok (.iload_n 1, 1) := by decide +kernel
theorem d28_12 : decode jdk_42_method_80_code 12 = .ok (.iload_n 2, 1) := by decide +kernel
theorem d28_13 : decode jdk_42_method_80_code 13 = .ok (.aload_n 0, 1) := by decide +kernel
theorem d28_14 : decode jdk_42_method_80_code 14 = .ok (.invokevirtual 505, 3) := by decide +kernel
theorem d28_17 : decode jdk_42_method_80_code 17 = .ok (.invokestatic 637, 3) := by decide +kernel
theorem d28_20 : decode jdk_42_method_80_code 20 = .ok (.goto 16, 3) := by decide +kernel
theorem d28_23 : decode jdk_42_method_80_code 23 = .ok (.aload_n 0, 1) := by decide +kernel
theorem d28_24 : decode jdk_42_method_80_code 24 = .ok (.getfield 9, 3) := by decide +kernel
theorem d28_27 : decode jdk_42_method_80_code 27 = .ok (.iload_n 1, 1) := by decide +kernel
theorem d28_28 : decode jdk_42_method_80_code 28 = .ok (.iload_n 2, 1) := by decide +kernel
theorem d28_29 : decode jdk_42_method_80_code 29 = .ok (.aload_n 0, 1) := by decide +kernel
theorem d28_30 : decode jdk_42_method_80_code 30 = .ok (.invokevirtual 505, 3) := by decide +kernel
theorem d28_33 : decode jdk_42_method_80_code 33 = .ok (.invokestatic 640, 3) := by decide +kernel
theorem d28_36 : decode jdk_42_method_80_code 36 = .ok (.ireturn, 1) := by decide +kernel
theorem c_ix2 (l : Launch) (Z : State) (a0 : Array Value) (hw : ∀ d ∈ tables_1, d.before a0 Z = true) (hEW : EW Z a0 consts_1) (n0 : Nat) (c1 : Int32) (hc1 : ¬ c1 = 0) (S1 : Sta Z Z.heap "java/lang/String" "COMPACT_STRINGS" "Z" (.int c1)) (v2 : Value) (hv2 : v2.isRef = true) (S2 : Sta Z Z.heap "jdk/internal/util/Preconditions" "SIOOBE_FORMATTER" "Ljava/util/function/BiFunction;" v2) (S3 : Sta Z Z.heap "java/lang/StringUTF16" "$assertionsDisabled" "Z" (.int 1)) (S4 : Sta Z Z.heap "java/lang/StringUTF16" "HI_BYTE_SHIFT" "I" (.int 0)) (S5 : Sta Z Z.heap "java/lang/StringUTF16" "LO_BYTE_SHIFT" "I" (.int 8)) (a b : Addr) (x : Nat) {h0 : Heap} (o1 : Old Z n0 h0) (hc : x < 65536) (hS : StrK Z h0 a b 0 [92, 9, 10, 13]) :
    Con Z a0 l (⟨"java/lang/String", "indexOf", "(II)I"⟩ : MethodName) jdk_42_method_80_code 3 (some .int) ({ frames := 2, cells := 0, slots := 0, locals := 32 } : Room) [] #[(.ref a), (.int (Int32.ofNat x)), (.int (0 : Int32))] consts_1 h0 n0 [] [] (VV fun w h so => w = .int (ixOf x) ∧ h = h0 ∧ so = []) := by
  refine Con.body (plainFor_of_name pn_java_lang_String) hEW o1 all0 #[.val (.ref a), .val (.int (Int32.ofNat x)), .val (.int (0 : Int32))] (fun m => by first | (simp [entryFrame, mkF, argsToLocals, Value.category]; done) | rfl) ?_
  intro p e s m below meth c B hnm hret hlk G
  obtain ⟨Xa, Fc, Fv, kb, Ab⟩ := hS
  have hS : StrK Z h0 a b 0 [92, 9, 10, 13] := ⟨Xa, Fc, Fv, kb, Ab⟩
  replace G := G.aloadN 1 d28_0 rfl rfl rfl
  obtain ⟨vl, h_l, sol, G', Kl, Ql⟩ := G.callV 4 (hw _ (mm 125 rfl)) (hw _ (mm 126 rfl)) (nfSel (hw _ (mm 128 rfl))) (hw _ (mm 128 rfl)) (hw _ (mm 127 rfl)) (hw _ (mm 8 rfl)) (hw _ (mm 129 rfl)) Xa (by decide) [] [] rfl (c_isL1SK l Z a0 hw hEW n0 c1 hc1 S1 v2 hv2 S2 S3 S4 S5 a 0 G.old (Or.inl rfl) Fc) (lenOf pd___Z rfl) d28_1 rfl (nle rfl) (nle rfl) (nle rfl) (nle rfl) all0 all0 all0 rfl
  replace G := G'; clear G'
  obtain ⟨wl, ql, rfl, el, rfl⟩ := Ql
  replace G := G.val ql
  subst el
  replace G := G.ifF 7 d28_4 (XT.i0_eq_f (by decide)) rfl |>.aloadN 8 d28_7 rfl rfl rfl |>.getf 11 (host := "") (Or.inl (hw _ (mm 25 rfl))) Via.refl Fv d28_8 rfl |>.iloadN 12 d28_11 rfl rfl |>.iloadN 13 d28_12 rfl rfl |>.aloadN 14 d28_13 rfl rfl rfl
  obtain ⟨vn, h_n, son, G', Kn, Qn⟩ := G.callV 17 (hw _ (mm 153 rfl)) (hw _ (mm 35 rfl)) (nfSel (hw _ (mm 37 rfl))) (hw _ (mm 37 rfl)) (hw _ (mm 36 rfl)) (hw _ (mm 8 rfl)) (hw _ (mm 38 rfl)) Xa (by decide) [] [(.int (0 : Int32)), (.int (Int32.ofNat x)), (.ref b)] rfl (c_lengthK l Z a0 hw hEW n0 c1 hc1 S1 v2 hv2 S2 S3 S4 S5 a b 0 [92, 9, 10, 13] G.old (Or.inl rfl) (by decide) hS) (lenOf pd___I rfl) d28_14 rfl (nle rfl) (nle rfl) (nle rfl) (nle rfl) all0 all0 all0 rfl
  replace G := G'; clear G'
  obtain ⟨wn, qn, rfl, en, rfl⟩ := Qn
  replace G := G.val qn
  subst en
  replace G := G.top (y := (.int (4 : Int32))) (rfl)
  obtain ⟨vi, h_i, soi, G', Ki, Qi⟩ := G.callS 20 (hw _ (mm 154 rfl)) (hw _ (mm 155 rfl)) (hw _ (mm 132 rfl)) (hw _ (mm 156 rfl)) (by decide) [(.ref b), (.int (Int32.ofNat x)), (.int (0 : Int32)), (.int (4 : Int32))] [] rfl (c_iol l Z a0 hw hEW n0 c1 hc1 S1 v2 hv2 S2 S3 S4 S5 b kb x G.old hc Ab) (lenOf pd___BIII_I rfl) d28_17 rfl (nle rfl) (nle rfl) (nle rfl) (nle rfl) all0 all0 all0 rfl
  replace G := G'; clear G'
  obtain ⟨wi, qi, rfl, ei, rfl⟩ := Qi
  replace G := G.val qi
  subst ei
  replace G := G.goto 36 d28_20 (by decide) (by decide)
  exact G.retI hret hlk d28_36 [] all0 ⟨_, rfl, rfl, rfl, rfl⟩ (nle rfl) (nle rfl)
theorem d27_0 : decode jdk_42_method_79_code 0 = .ok (.aload_n 0, 1) := by decide +kernel
theorem d27_1 : decode jdk_42_method_79_code 1 = .ok (.iload_n 1, 1) := by decide +kernel
theorem d27_2 : decode jdk_42_method_79_code 2 = .ok (.iconst 0, 1) := by decide +kernel
theorem d27_3 : decode jdk_42_method_79_code 3 = .ok (.invokevirtual 633, 3) := by decide +kernel
theorem d27_6 : decode jdk_42_method_79_code 6 = .ok (.ireturn, 1) := by decide +kernel
theorem c_ix (l : Launch) (Z : State) (a0 : Array Value) (hw : ∀ d ∈ tables_1, d.before a0 Z = true) (hEW : EW Z a0 consts_1) (n0 : Nat) (c1 : Int32) (hc1 : ¬ c1 = 0) (S1 : Sta Z Z.heap "java/lang/String" "COMPACT_STRINGS" "Z" (.int c1)) (v2 : Value) (hv2 : v2.isRef = true) (S2 : Sta Z Z.heap "jdk/internal/util/Preconditions" "SIOOBE_FORMATTER" "Ljava/util/function/BiFunction;" v2) (S3 : Sta Z Z.heap "java/lang/StringUTF16" "$assertionsDisabled" "Z" (.int 1)) (S4 : Sta Z Z.heap "java/lang/StringUTF16" "HI_BYTE_SHIFT" "I" (.int 0)) (S5 : Sta Z Z.heap "java/lang/StringUTF16" "LO_BYTE_SHIFT" "I" (.int 8)) (a b : Addr) (x : Nat) {h0 : Heap} (o1 : Old Z n0 h0) (hc : x < 65536) (hS : StrK Z h0 a b 0 [92, 9, 10, 13]) :
    Con Z a0 l (⟨"java/lang/String", "indexOf", "(I)I"⟩ : MethodName) jdk_42_method_79_code 2 (some .int) ({ frames := 3, cells := 0, slots := 0, locals := 46 } : Room) [] #[(.ref a), (.int (Int32.ofNat x))] consts_1 h0 n0 [] [] (VV fun w h so => w = .int (ixOf x) ∧ h = h0 ∧ so = []) := by
  refine Con.body (plainFor_of_name pn_java_lang_String) hEW o1 all0 #[.val (.ref a), .val (.int (Int32.ofNat x))] (fun m => by first | (simp [entryFrame, mkF, argsToLocals, Value.category]; done) | rfl) ?_
  intro p e s m below meth c B hnm hret hlk G
  replace G := G.aloadN 1 d27_0 rfl rfl rfl |>.iloadN 2 d27_1 rfl rfl |>.iconst 3 (0 : Int32) d27_2 rfl rfl
  obtain ⟨vi, h_i, soi, G', Ki, Qi⟩ := G.callV 6 (hw _ (mm 148 rfl)) (hw _ (mm 149 rfl)) (nfSel (hw _ (mm 151 rfl))) (hw _ (mm 151 rfl)) (hw _ (mm 150 rfl)) (hw _ (mm 8 rfl)) (hw _ (mm 152 rfl)) hS.1 (by decide) [(.int (Int32.ofNat x)), (.int (0 : Int32))] [] rfl (c_ix2 l Z a0 hw hEW n0 c1 hc1 S1 v2 hv2 S2 S3 S4 S5 a b x G.old hc hS) (lenOf pd__II_I rfl) d27_3 rfl (nle rfl) (nle rfl) (nle rfl) (nle rfl) all0 all0 all0 rfl
  replace G := G'; clear G'
  obtain ⟨wi, qi, rfl, ei, rfl⟩ := Qi
  replace G := G.val qi
  subst ei
  exact G.retI hret hlk d27_6 [] all0 ⟨_, rfl, rfl, rfl, rfl⟩ (nle rfl) (nle rfl)
theorem d5_0 : decode prog_8_method_5_code 0 = .ok (.new 182, 3) := by decide +kernel
theorem d5_3 : decode prog_8_method_5_code 3 = .ok (.dup, 1) := by decide +kernel
theorem d5_4 : decode prog_8_method_5_code 4 = .ok (.aload_n 0, 1) := by decide +kernel
theorem d5_5 : decode prog_8_method_5_code 5 = .ok (.invokevirtual 184, 3) := by decide +kernel
theorem d5_8 : decode prog_8_method_5_code 8 = .ok (.invokespecial 186, 3) := by decide +kernel
theorem d5_11 : decode prog_8_method_5_code 11 = .ok (.astore_n 1, 1) := by decide +kernel
theorem d5_12 : decode prog_8_method_5_code 12 = .ok (.iconst 0, 1) := by decide +kernel
theorem d5_13 : decode prog_8_method_5_code 13 = .ok (.istore_n 2, 1) := by decide +kernel
theorem d5_14 : decode prog_8_method_5_code 14 = .ok (.iload_n 2, 1) := by decide +kernel
theorem d5_15 : decode prog_8_method_5_code 15 = .ok (.aload_n 0, 1) := by decide +kernel
theorem d5_16 : decode prog_8_method_5_code 16 = .ok (.invokevirtual 184, 3) := by decide +kernel
theorem d5_19 : decode prog_8_method_5_code 19 = .ok (.if_icmp .ge 54, 3) := by decide +kernel
theorem d5_22 : decode prog_8_method_5_code 22 = .ok (.aload_n 0, 1) := by decide +kernel
theorem d5_23 : decode prog_8_method_5_code 23 = .ok (.iload_n 2, 1) := by decide +kernel
theorem d5_24 : decode prog_8_method_5_code 24 = .ok (.invokevirtual 189, 3) := by decide +kernel
theorem d5_27 : decode prog_8_method_5_code 27 = .ok (.istore_n 3, 1) := by decide +kernel
theorem d5_28 : decode prog_8_method_5_code 28 = .ok (.ldc 193, 2) := by decide +kernel
theorem d5_30 : decode prog_8_method_5_code 30 = .ok (.iload_n 3, 1) := by decide +kernel
theorem d5_31 : decode prog_8_method_5_code 31 = .ok (.invokevirtual 156, 3) := by decide +kernel
theorem d5_34 : decode prog_8_method_5_code 34 = .ok (.istore 4, 2) := by decide +kernel
theorem d5_36 : decode prog_8_method_5_code 36 = .ok (.iload 4, 2) := by decide +kernel
theorem d5_38 : decode prog_8_method_5_code 38 = .ok (.ifCond .ge 12, 3) := by decide +kernel
theorem d5_41 : decode prog_8_method_5_code 41 = .ok (.aload_n 1, 1) := by decide +kernel
theorem d5_42 : decode prog_8_method_5_code 42 = .ok (.iload_n 3, 1) := by decide +kernel
theorem d5_43 : decode prog_8_method_5_code 43 = .ok (.invokevirtual 195, 3) := by decide +kernel
theorem d5_46 : decode prog_8_method_5_code 46 = .ok (.pop, 1) := by decide +kernel
theorem d5_47 : decode prog_8_method_5_code 47 = .ok (.goto 20, 3) := by decide +kernel
theorem d5_50 : decode prog_8_method_5_code 50 = .ok (.aload_n 1, 1) := by decide +kernel
theorem d5_51 : decode prog_8_method_5_code 51 = .ok (.bipush 92, 2) := by decide +kernel
theorem d5_53 : decode prog_8_method_5_code 53 = .ok (.invokevirtual 195, 3) := by decide +kernel
theorem d5_56 : decode prog_8_method_5_code 56 = .ok (.ldc 199, 2) := by decide +kernel
theorem d5_58 : decode prog_8_method_5_code 58 = .ok (.iload 4, 2) := by decide +kernel
theorem d5_60 : decode prog_8_method_5_code 60 = .ok (.invokevirtual 189, 3) := by decide +kernel
theorem d5_63 : decode prog_8_method_5_code 63 = .ok (.invokevirtual 195, 3) := by decide +kernel
theorem d5_66 : decode prog_8_method_5_code 66 = .ok (.pop, 1) := by decide +kernel
theorem d5_67 : decode prog_8_method_5_code 67 = .ok (.iinc 2 1, 3) := by decide +kernel
theorem d5_70 : decode prog_8_method_5_code 70 = .ok (.goto (-56), 3) := by decide +kernel
theorem d5_73 : decode prog_8_method_5_code 73 = .ok (.aload_n 1, 1) := by decide +kernel
theorem d5_74 : decode prog_8_method_5_code 74 = .ok (.invokevirtual 201, 3) := by decide +kernel
theorem d5_77 : decode prog_8_method_5_code 77 = .ok (.areturn, 1) := by decide +kernel
theorem c_esc (l : Launch) (Z : State) (a0 : Array Value) (hw : ∀ d ∈ tables_1, d.before a0 Z = true) (hEW : EW Z a0 consts_1) (n0 : Nat) (c1 : Int32) (hc1 : ¬ c1 = 0) (S1 : Sta Z Z.heap "java/lang/String" "COMPACT_STRINGS" "Z" (.int c1)) (v2 : Value) (hv2 : v2.isRef = true) (S2 : Sta Z Z.heap "jdk/internal/util/Preconditions" "SIOOBE_FORMATTER" "Ljava/util/function/BiFunction;" v2) (S3 : Sta Z Z.heap "java/lang/StringUTF16" "$assertionsDisabled" "Z" (.int 1)) (S4 : Sta Z Z.heap "java/lang/StringUTF16" "HI_BYTE_SHIFT" "I" (.int 0)) (S5 : Sta Z Z.heap "java/lang/StringUTF16" "LO_BYTE_SHIFT" "I" (.int 8)) (a b : Addr) (cs : List Nat) {h0 : Heap} (o1 : Old Z n0 h0) (hn : cs.length ≤ 4) (hc : ∀ c ∈ cs, c < 65536) (hS : StrK Z h0 a b (kd cs) cs) :
    Con Z a0 l (⟨"com/example/unhurried_frontier/unhurriedfrontier/TsvFile", "escaped", "(Ljava/lang/String;)Ljava/lang/String;"⟩ : MethodName) prog_8_method_5_code 5 (some (.object "java/lang/String")) ({ frames := 8, cells := 28, slots := 1080, locals := 115 } : Room) [] #[(.ref a)] consts_1 h0 n0 [] [] (VV fun w h so => ∃ r rb, w = .ref r ∧ StrK Z h r rb (kd (cs.flatMap esc)) (cs.flatMap esc) ∧ h0.size ≤ r ∧ h0.size ≤ rb ∧ so = [r]) := by
  refine Con.body (plainFor_of_name pn_com_example_unhurried_frontier_unhurriedfrontier_TsvFile) hEW o1 all0 #[.val (.ref a), .unset, .unset, .unset, .unset] (fun m => by first | (simp [entryFrame, mkF, argsToLocals, Value.category]; done) | rfl) ?_
  intro p e s m below meth c B hnm hret hlk G
  obtain ⟨sb, h1, G', gsb, ssb, Esb, Xsb, Dsb, Usb⟩ := G.new 3 (hw _ (mm 31 rfl)) (hw _ (mm 32 rfl)) (hw _ (mm 33 rfl)) d5_0 rfl (nle rfl) (nle rfl)
  replace G := G'; clear G'
  have ne_a_sb : a ≠ sb := ne_new gsb hS.lt; have ne_b_sb : b ≠ sb := ne_new gsb hS.ltb
  replace hS := hS.ext Esb
  have Fva := Dsb (Or.inl (hw _ (mm 57 rfl))) (ty := .array .byte) (by decide); have Fca := Dsb (Or.inl (hw _ (mm 59 rfl))) (ty := .byte) (by decide); have Fna := Dsb (Or.inl (hw _ (mm 87 rfl))) (ty := .int) (by decide); have Fma := Dsb (Or.inl (hw _ (mm 273 rfl))) (ty := .boolean) (by decide)
  replace G := G.dup 4 d5_3 rfl rfl |>.aloadN 5 d5_4 rfl rfl rfl
  obtain ⟨vl, h_l, sol, G', Kl, Ql⟩ := G.callV 8 (hw _ (mm 34 rfl)) (hw _ (mm 35 rfl)) (nfSel (hw _ (mm 37 rfl))) (hw _ (mm 37 rfl)) (hw _ (mm 36 rfl)) (hw _ (mm 8 rfl)) (hw _ (mm 38 rfl)) hS.1 (by decide) [] [(.ref sb), (.ref sb)] rfl (c_lengthK l Z a0 hw hEW n0 c1 hc1 S1 v2 hv2 S2 S3 S4 S5 a b (kd cs) cs G.old (kd01 cs) (by omega) hS) (lenOf pd___I rfl) d5_5 rfl (nle rfl) (nle rfl) (nle rfl) (nle rfl) all0 all0 all0 rfl
  replace G := G'; clear G'
  obtain ⟨wl, ql, rfl, el, rfl⟩ := Ql
  replace G := G.val ql
  subst el
  have sz0 := G.sz
  obtain ⟨vi, h2, soi, G', Ki, Qi⟩ := G.callI 11 rfl rfl (hw _ (mm 45 rfl)) (hw _ (mm 46 rfl)) (hw _ (mm 33 rfl)) (hw _ (mm 47 rfl)) (by decide) [(.int (Int32.ofNat cs.length))] [(.ref sb)] rfl (c_sbIX l Z a0 hw hEW n0 c1 hc1 S1 v2 hv2 S2 S3 S4 S5 sb cs.length G.old (G.nw (Or.inr ssb)) (by omega) Xsb Fva Fca Fna Fma) (lenOf pd__I_V rfl) d5_8 rfl (nle rfl) (nle rfl) (nle rfl) (nle rfl) (allS (Or.inr ssb) all0) (allS (mm 0 rfl) all0) (allS (mm 0 rfl) all0) rfl
  replace G := G'; clear G'
  obtain ⟨qi, e0, hB, se0', rfl⟩ := Qi
  replace G := G.nov qi
  have ne_a_e0 : a ≠ e0 := (ne_ge hS.lt se0').symm; have ne_b_e0 : b ≠ e0 := (ne_ge hS.ltb se0').symm
  replace hS := hS.keep Ki (ninS ne_a_sb nin0) (ninS ne_b_sb nin0)
  have se0 := Nat.le_trans sz0 se0'
  replace G := G.astoreN 12 #[.val (.ref a), .val (.ref sb), .unset, .unset, .unset] d5_11 rfl rfl rfl |>.iconst 13 (0 : Int32) d5_12 rfl rfl |>.istoreN 14 #[.val (.ref a), .val (.ref sb), .val (.int (0 : Int32)), .unset, .unset] d5_13 rfl rfl
  have t4 : ∀ (h : Heap) (eb : Addr) (cap : Nat) (sl3 sl4 : Slot), (sl3 = .unset ∨ ∃ c : Int32, sl3 = .val (.int c)) → (sl4 = .unset ∨ ∃ c : Int32, sl4 = .val (.int c)) → 4 ≤ cs.length → StrK Z h a b (kd cs) cs → SbdX Z h sb eb cap (kd (O cs 4)) (O cs 4) → (O cs 4).length ≤ cap → cap ≤ 26 → a ≠ eb → b ≠ eb → h0.size ≤ eb → Wl Z a0 "com/example/unhurried_frontier/unhurriedfrontier/TsvFile" p l e ({ frames := 8, cells := 28, slots := 1080, locals := 115 } : Room) s m #[(.ref a)] below meth c prog_8_method_5_code 5 B consts_1 h0 n0 [] [eb, sb] h 26 1052 14 #[.val (.ref a), .val (.ref sb), .val (.int (Int32.ofNat 4)), sl3, sl4] [] → Fin Z consts_1 p e below B s h0 n0 [] ({ frames := 8, cells := 28, slots := 1080, locals := 115 } : Room).cells ({ frames := 8, cells := 28, slots := 1080, locals := 115 } : Room).slots (VV fun w h so => ∃ r rb, w = .ref r ∧ StrK Z h r rb (kd (cs.flatMap esc)) (cs.flatMap esc) ∧ h0.size ≤ r ∧ h0.size ≤ rb ∧ so = [r]) := by
    intro h eb cap sl3 sl4 hs3 hs4 hin hS hB hlc hcap nae nbe seb G
    have hol := O_len cs 4
    replace G := G.iloadN 15 d5_14 rfl rfl |>.aloadN 16 d5_15 rfl rfl rfl
    obtain ⟨vl, k_l, sol, G', Kl, Ql⟩ := G.callV 19 (hw _ (mm 34 rfl)) (hw _ (mm 35 rfl)) (nfSel (hw _ (mm 37 rfl))) (hw _ (mm 37 rfl)) (hw _ (mm 36 rfl)) (hw _ (mm 8 rfl)) (hw _ (mm 38 rfl)) hS.1 (by decide) [] [(.int (Int32.ofNat 4))] rfl (c_lengthK l Z a0 hw hEW n0 c1 hc1 S1 v2 hv2 S2 S3 S4 S5 a b (kd cs) cs G.old (kd01 cs) (by omega) hS) (lenOf pd___I rfl) d5_16 rfl (nle rfl) (nle rfl) (nle rfl) (nle rfl) all0 all0 all0 rfl
    replace G := G'; clear G'
    obtain ⟨wl, ql, rfl, el, rfl⟩ := Ql
    replace G := G.val ql
    subst el
    replace G := G.icmpT 73 d5_19 (XT.ii_ge_t (ofn_nlt (n := cs.length) (by omega) (by omega))) (by decide) (by decide) |>.aloadN 74 d5_73 rfl rfl rfl
    have eo : O cs 4 = cs.flatMap esc := by unfold O; rw [List.take_of_length_le (by omega)]
    rw [eo] at hB hlc hol
    have szt := G.sz
    obtain ⟨vt, k9, sot, G', Kt, Qt⟩ := G.callV 77 (hw _ (mm 60 rfl)) (hw _ (mm 61 rfl)) (nfSel (hw _ (mm 63 rfl))) (hw _ (mm 63 rfl)) (hw _ (mm 62 rfl)) (hw _ (mm 33 rfl)) (hw _ (mm 64 rfl)) hB.1.1 (by decide) [] [] rfl (c_toStrX l Z a0 hw hEW n0 c1 hc1 S1 v2 hv2 S2 S3 S4 S5 sb eb cap (kd (cs.flatMap esc)) (cs.flatMap esc) G.old (kd01 _) hlc hcap (by omega) hB) (lenOf pd___Ljava_lang_String_ rfl) d5_74 rfl (nle rfl) (nle rfl) (nle rfl) (nle rfl) all0 all0 all0 rfl
    replace G := G'; clear G'
    obtain ⟨wt, qt, r, rb, rfl, hR, g1, g2, rfl⟩ := Qt
    replace G := G.val qt
    exact G.retA hret rfl rfl hlk d5_77 [r] (allS (mm 1 rfl) all0) ⟨_, rfl, r, rb, rfl, hR, Nat.le_trans szt g1, Nat.le_trans szt g2, rfl⟩ (nle rfl) (nle rfl)
  have t3 : ∀ (h : Heap) (eb : Addr) (cap : Nat) (sl3 sl4 : Slot), (sl3 = .unset ∨ ∃ c : Int32, sl3 = .val (.int c)) → (sl4 = .unset ∨ ∃ c : Int32, sl4 = .val (.int c)) → 3 ≤ cs.length → StrK Z h a b (kd cs) cs → SbdX Z h sb eb cap (kd (O cs 3)) (O cs 3) → (O cs 3).length ≤ cap → cap ≤ 26 → a ≠ eb → b ≠ eb → h0.size ≤ eb → Wl Z a0 "com/example/unhurried_frontier/unhurriedfrontier/TsvFile" p l e ({ frames := 8, cells := 28, slots := 1080, locals := 115 } : Room) s m #[(.ref a)] below meth c prog_8_method_5_code 5 B consts_1 h0 n0 [] [eb, sb] h 20 792 14 #[.val (.ref a), .val (.ref sb), .val (.int (Int32.ofNat 3)), sl3, sl4] [] → Fin Z consts_1 p e below B s h0 n0 [] ({ frames := 8, cells := 28, slots := 1080, locals := 115 } : Room).cells ({ frames := 8, cells := 28, slots := 1080, locals := 115 } : Room).slots (VV fun w h so => ∃ r rb, w = .ref r ∧ StrK Z h r rb (kd (cs.flatMap esc)) (cs.flatMap esc) ∧ h0.size ≤ r ∧ h0.size ≤ rb ∧ so = [r]) := by
    intro h eb cap sl3 sl4 hs3 hs4 hin hS hB hlc hcap nae nbe seb G
    have hol := O_len cs 3
    replace G := G.iloadN 15 d5_14 rfl rfl |>.aloadN 16 d5_15 rfl rfl rfl
    obtain ⟨vl, k_l, sol, G', Kl, Ql⟩ := G.callV 19 (hw _ (mm 34 rfl)) (hw _ (mm 35 rfl)) (nfSel (hw _ (mm 37 rfl))) (hw _ (mm 37 rfl)) (hw _ (mm 36 rfl)) (hw _ (mm 8 rfl)) (hw _ (mm 38 rfl)) hS.1 (by decide) [] [(.int (Int32.ofNat 3))] rfl (c_lengthK l Z a0 hw hEW n0 c1 hc1 S1 v2 hv2 S2 S3 S4 S5 a b (kd cs) cs G.old (kd01 cs) (by omega) hS) (lenOf pd___I rfl) d5_16 rfl (nle rfl) (nle rfl) (nle rfl) (nle rfl) all0 all0 all0 rfl
    replace G := G'; clear G'
    obtain ⟨wl, ql, rfl, el, rfl⟩ := Ql
    replace G := G.val ql
    subst el
    rcases Nat.lt_or_ge 3 cs.length with hi | hi
    · skip
      have ne_a_eb := nae; have ne_b_eb := nbe
      replace G := G.icmpF 22 d5_19 (XT.ii_ge_f (ofn_lt (i := 3) (by omega) (by omega))) rfl |>.aloadN 23 d5_22 rfl rfl rfl |>.iloadN 24 d5_23 rfl rfl
      have hx := hc _ (getD_memN cs 3 (by omega))
      obtain ⟨vc, k_c, soc, G', Kc, Qc⟩ := G.callV 27 (hw _ (mm 120 rfl)) (hw _ (mm 121 rfl)) (nfSel (hw _ (mm 123 rfl))) (hw _ (mm 123 rfl)) (hw _ (mm 122 rfl)) (hw _ (mm 8 rfl)) (hw _ (mm 124 rfl)) hS.1 (by decide) [(.int (Int32.ofNat 3))] [] rfl (c_charK l Z a0 hw hEW n0 c1 hc1 S1 v2 hv2 S2 S3 S4 S5 a b (kd cs) 3 cs G.old (kd01 cs) (by omega) (by omega) hc (fun q => kd0 q) hS) (lenOf pd__I_C rfl) d5_24 rfl (nle rfl) (nle rfl) (nle rfl) (nle rfl) all0 all0 all0 rfl
      replace G := G'; clear G'
      obtain ⟨wc, qc, rfl, ec, rfl⟩ := Qc
      replace G := G.val qc
      subst ec
      replace G := G.istoreN 28 #[.val (.ref a), .val (.ref sb), .val (.int (Int32.ofNat 3)), .val (.int (Int32.ofNat (cs.getD 3 0))), sl4] d5_27 (by rcases hs3 with rfl | ⟨c, rfl⟩ <;> rfl) rfl
      obtain ⟨l1, l2, k1, kkz, G', Ez, Xz, Fcz, Fvz, Az, nez⟩ := G.ldcS 30 (hw _ (mm 142 rfl)) (wS_of hw) (mm 0 rfl) (vs := [(.int (92 : Int32)), (.int (9 : Int32)), (.int (10 : Int32)), (.int (13 : Int32))]) (z := (4 : Int32)) (by decide) (by decide) rfl d5_28 16 (by decide) (by decide) (nle rfl) (nle rfl) rfl
      replace G := G'; clear G'
      replace hS := hS.ext Ez; replace hB := hB.ext Ez
      have hL : StrK Z k1 l1 l2 0 [92, 9, 10, 13] := ⟨Xz, Fcz, Fvz, kkz, Az⟩
      replace G := G.iloadN 31 d5_30 rfl rfl
      obtain ⟨vi, k_i, soi, G', Ki, Qi⟩ := G.callV 34 (hw _ (mm 143 rfl)) (hw _ (mm 144 rfl)) (nfSel (hw _ (mm 146 rfl))) (hw _ (mm 146 rfl)) (hw _ (mm 145 rfl)) (hw _ (mm 8 rfl)) (hw _ (mm 147 rfl)) hL.1 (by decide) [(.int (Int32.ofNat (cs.getD 3 0)))] [] rfl (c_ix l Z a0 hw hEW n0 c1 hc1 S1 v2 hv2 S2 S3 S4 S5 l1 l2 (cs.getD 3 0) G.old hx hL) (lenOf pd__I_I rfl) d5_31 rfl (nle rfl) (nle rfl) (nle rfl) (nle rfl) all0 all0 all0 rfl
      replace G := G'; clear G'
      obtain ⟨wi, qi, rfl, ei, rfl⟩ := Qi
      replace G := G.val qi
      subst ei
      replace G := G.istore 36 #[.val (.ref a), .val (.ref sb), .val (.int (Int32.ofNat 3)), .val (.int (Int32.ofNat (cs.getD 3 0))), .val (.int (ixOf (cs.getD 3 0)))] d5_34 (by rcases hs4 with rfl | ⟨c, rfl⟩ <;> rfl) rfl |>.iload 38 d5_36 rfl rfl
      have hos := O_succ (cs := cs) (i := 3) (by omega); have hk8 : kd (O cs 3) = 0 → ∀ c ∈ O cs 3, c < 256 := fun q => kd0 q
      rcases Decidable.em (ixOf (cs.getD 3 0) < 0) with hq | hq
      · skip
        replace G := G.ifF 41 d5_38 (XT.i0_ge_f hq) rfl |>.aloadN 42 d5_41 rfl rfl rfl |>.iloadN 43 d5_42 rfl rfl
        have sz1 := G.sz
        obtain ⟨vp1, m1, sop1, G', Kp1, Qp1⟩ := G.callV 46 (hw _ (mm 170 rfl)) (hw _ (mm 171 rfl)) (nfSel (hw _ (mm 173 rfl))) (hw _ (mm 173 rfl)) (hw _ (mm 172 rfl)) (hw _ (mm 33 rfl)) (hw _ (mm 174 rfl)) hB.1.1 (by decide) [(.int (Int32.ofNat (cs.getD 3 0)))] [] rfl (c_appCX l Z a0 hw hEW n0 c1 hc1 S1 v2 hv2 S2 S3 S4 S5 sb eb cap (kd (O cs 3)) (cs.getD 3 0) (O cs 3) G.old (G.nw (Or.inr ssb)) (G.nw (Or.inr seb)) (by first | exact kd01 _ | (have := kd01 (O cs 3); have := kd01 [92]; omega)) hx (by first | omega | (simp only [List.length_append, List.length_cons, List.length_nil]; omega)) hcap hlc hk8 hB) (lenOf pd__C_Ljava_lang_StringBuilder_ rfl) d5_43 rfl (nle rfl) (nle rfl) (nle rfl) (nle rfl) (allS (Or.inr ssb) (allS (Or.inr seb) all0)) (allS (mm 1 rfl) (allS (mm 0 rfl) all0)) (allS (mm 1 rfl) (allS (mm 0 rfl) all0)) rfl
        replace G := G'; clear G'
        obtain ⟨wp1, qp1, rfl, e1, cp1, hB1, hl1, hk1, hb1, rfl⟩ := Qp1
        replace G := G.val qp1
        have na1 : a ≠ e1 := ne_or nae hS.lt hb1; have nb1 : b ≠ e1 := ne_or nbe hS.ltb hb1; have se1 : h0.size ≤ e1 := hb1.elim (fun q => q ▸ seb) (fun r => Nat.le_trans sz1 r)
        replace hS := hS.keep Kp1 (ninS ne_a_sb (ninS nae nin0)) (ninS ne_b_sb (ninS nbe nin0))
        have ee := ix_of hq; rw [ee] at hos; rw [← kd_app, ← hos] at hB1; rw [← hos] at hl1
        replace G := G.pop 47 d5_46 rfl rfl |>.goto 67 d5_47 (by decide) (by decide) |>.iincV 70 #[.val (.ref a), .val (.ref sb), .val (.int (Int32.ofNat 4)), .val (.int (Int32.ofNat (cs.getD 3 0))), .val (.int (ixOf (cs.getD 3 0)))] (Int32.ofNat 4) d5_67 rfl (by decide) rfl rfl |>.goto 14 d5_70 (by decide) (by decide)
        exact t4 _ e1 cp1 _ _ (Or.inr ⟨_, rfl⟩) (Or.inr ⟨_, rfl⟩) (by omega) hS hB1 hl1 hk1 na1 nb1 se1 ((G.more (k := 26) (n := 1052) (nle rfl) (nle rfl)).less (allS (mm 0 rfl) (allS (mm 2 rfl) all0)))
      · skip
        obtain ⟨j, hj, ej, ee⟩ := ix_at hq
        replace G := G.ifT 50 d5_38 (XT.i0_ge_t hq) (by decide) (by decide) |>.aloadN 51 d5_50 rfl rfl rfl |>.bipush 53 (92 : Int32) d5_51 (by decide) rfl |>.top (y := (.int (Int32.ofNat 92))) (rfl)
        have sz1 := G.sz
        obtain ⟨vp1, m1, sop1, G', Kp1, Qp1⟩ := G.callV 56 (hw _ (mm 170 rfl)) (hw _ (mm 171 rfl)) (nfSel (hw _ (mm 173 rfl))) (hw _ (mm 173 rfl)) (hw _ (mm 172 rfl)) (hw _ (mm 33 rfl)) (hw _ (mm 174 rfl)) hB.1.1 (by decide) [(.int (Int32.ofNat 92))] [] rfl (c_appSX l Z a0 hw hEW n0 c1 hc1 S1 v2 hv2 S2 S3 S4 S5 sb eb cap (kd (O cs 3)) 92 (O cs 3) G.old (G.nw (Or.inr ssb)) (G.nw (Or.inr seb)) (by first | exact kd01 _ | (have := kd01 (O cs 3); have := kd01 [92]; omega)) (by decide) (by decide) (by first | omega | (simp only [List.length_append, List.length_cons, List.length_nil]; omega)) hcap hlc hk8 hB) (lenOf pd__C_Ljava_lang_StringBuilder_ rfl) d5_53 rfl (nle rfl) (nle rfl) (nle rfl) (nle rfl) (allS (Or.inr ssb) (allS (Or.inr seb) all0)) (allS (mm 1 rfl) (allS (mm 0 rfl) all0)) (allS (mm 1 rfl) (allS (mm 0 rfl) all0)) rfl
        replace G := G'; clear G'
        obtain ⟨wp1, qp1, rfl, e1, cp1, hB1, hl1, hk1, hb1, rfl⟩ := Qp1
        replace G := G.val qp1
        have na1 : a ≠ e1 := ne_or nae hS.lt hb1; have nb1 : b ≠ e1 := ne_or nbe hS.ltb hb1; have se1 : h0.size ≤ e1 := hb1.elim (fun q => q ▸ seb) (fun r => Nat.le_trans sz1 r)
        replace hS := hS.keep Kp1 (ninS ne_a_sb (ninS nae nin0)) (ninS ne_b_sb (ninS nbe nin0))
        obtain ⟨l3, l4, k3, kky, G', Ey, Xy, Fcy, Fvy, Ay, ney⟩ := G.ldcS 58 (hw _ (mm 188 rfl)) (wS_of hw) (mm 1 rfl) (vs := [(.int (92 : Int32)), (.int (116 : Int32)), (.int (110 : Int32)), (.int (114 : Int32))]) (z := (4 : Int32)) (by decide) (by decide) rfl d5_56 16 (by decide) (by decide) (nle rfl) (nle rfl) rfl
        replace G := G'; clear G'
        replace hS := hS.ext Ey; replace hB1 := hB1.ext Ey; have hM : StrK Z k3 l3 l4 0 [92, 116, 110, 114] := ⟨Xy, Fcy, Fvy, kky, Ay⟩
        replace G := G.iload 60 d5_58 rfl rfl |>.top (y := (.int (Int32.ofNat j))) (congrArg Value.int ej)
        obtain ⟨vd, k_d, sod, G', Kd, Qd⟩ := G.callV 63 (hw _ (mm 120 rfl)) (hw _ (mm 121 rfl)) (nfSel (hw _ (mm 123 rfl))) (hw _ (mm 123 rfl)) (hw _ (mm 122 rfl)) (hw _ (mm 8 rfl)) (hw _ (mm 124 rfl)) hM.1 (by decide) [(.int (Int32.ofNat j))] [(.ref sb)] rfl (c_charK l Z a0 hw hEW n0 c1 hc1 S1 v2 hv2 S2 S3 S4 S5 l3 l4 0 j [92, 116, 110, 114] G.old (Or.inl rfl) hj (by decide) (by decide) (fun _ => by decide) hM) (lenOf pd__I_C rfl) d5_60 rfl (nle rfl) (nle rfl) (nle rfl) (nle rfl) all0 all0 all0 rfl
        replace G := G'; clear G'
        obtain ⟨wd, qd, rfl, ed, rfl⟩ := Qd
        replace G := G.val qd
        subst ed
        have hsm : [92, 116, 110, 114].getD j 0 < 256 := by rcases (show j = 0 ∨ j = 1 ∨ j = 2 ∨ j = 3 by omega) with rfl | rfl | rfl | rfl <;> decide
        have sz2 := G.sz
        obtain ⟨vp2, m2, sop2, G', Kp2, Qp2⟩ := G.callV 66 (hw _ (mm 170 rfl)) (hw _ (mm 171 rfl)) (nfSel (hw _ (mm 173 rfl))) (hw _ (mm 173 rfl)) (hw _ (mm 172 rfl)) (hw _ (mm 33 rfl)) (hw _ (mm 174 rfl)) hB1.1.1 (by decide) [(.int (Int32.ofNat ([92, 116, 110, 114].getD j 0)))] [] rfl (c_appSX l Z a0 hw hEW n0 c1 hc1 S1 v2 hv2 S2 S3 S4 S5 sb e1 cp1 (max (kd (O cs 3)) (kd [92])) ([92, 116, 110, 114].getD j 0) (O cs 3 ++ [92]) G.old (G.nw (Or.inr ssb)) (G.nw (Or.inr se1)) (by first | exact kd01 _ | (have := kd01 (O cs 3); have := kd01 [92]; omega)) hsm (by omega) (by first | omega | (simp only [List.length_append, List.length_cons, List.length_nil]; omega)) hk1 hl1 (fun q => kd0 (by rw [kd_app]; exact q)) hB1) (lenOf pd__C_Ljava_lang_StringBuilder_ rfl) d5_63 rfl (nle rfl) (nle rfl) (nle rfl) (nle rfl) (allS (Or.inr ssb) (allS (Or.inr se1) all0)) (allS (mm 2 rfl) (allS (mm 0 rfl) all0)) (allS (mm 2 rfl) (allS (mm 0 rfl) all0)) rfl
        replace G := G'; clear G'
        obtain ⟨wp2, qp2, rfl, e2, cp2, hB2, hl2, hk2, hb2, rfl⟩ := Qp2
        replace G := G.val qp2
        have na2 : a ≠ e2 := ne_or na1 hS.lt hb2; have nb2 : b ≠ e2 := ne_or nb1 hS.ltb hb2; have se2 : h0.size ≤ e2 := hb2.elim (fun q => q ▸ se1) (fun r => Nat.le_trans sz2 r)
        replace hS := hS.keep Kp2 (ninS ne_a_sb (ninS na1 nin0)) (ninS ne_b_sb (ninS nb1 nin0))
        rw [ee, show ([92, [92, 116, 110, 114].getD j 0] : List Nat) = [92] ++ [[92, 116, 110, 114].getD j 0] from rfl, ← List.append_assoc] at hos; rw [← kd_app, ← kd_app, ← hos] at hB2; rw [← hos] at hl2
        replace G := G.pop 67 d5_66 rfl rfl |>.iincV 70 #[.val (.ref a), .val (.ref sb), .val (.int (Int32.ofNat 4)), .val (.int (Int32.ofNat (cs.getD 3 0))), .val (.int (ixOf (cs.getD 3 0)))] (Int32.ofNat 4) d5_67 rfl (by decide) rfl rfl |>.goto 14 d5_70 (by decide) (by decide)
        exact t4 _ e2 cp2 _ _ (Or.inr ⟨_, rfl⟩) (Or.inr ⟨_, rfl⟩) (by omega) hS hB2 hl2 hk2 na2 nb2 se2 ((G.more (k := 26) (n := 1052) (nle rfl) (nle rfl)).less (allS (mm 0 rfl) (allS (mm 3 rfl) all0)))
    · skip
      replace G := G.icmpT 73 d5_19 (XT.ii_ge_t (ofn_nlt (n := cs.length) (by omega) (by omega))) (by decide) (by decide) |>.aloadN 74 d5_73 rfl rfl rfl
      have eo : O cs 3 = cs.flatMap esc := by unfold O; rw [List.take_of_length_le (by omega)]
      rw [eo] at hB hlc hol
      have szt := G.sz
      obtain ⟨vt, k9, sot, G', Kt, Qt⟩ := G.callV 77 (hw _ (mm 60 rfl)) (hw _ (mm 61 rfl)) (nfSel (hw _ (mm 63 rfl))) (hw _ (mm 63 rfl)) (hw _ (mm 62 rfl)) (hw _ (mm 33 rfl)) (hw _ (mm 64 rfl)) hB.1.1 (by decide) [] [] rfl (c_toStrX l Z a0 hw hEW n0 c1 hc1 S1 v2 hv2 S2 S3 S4 S5 sb eb cap (kd (cs.flatMap esc)) (cs.flatMap esc) G.old (kd01 _) hlc hcap (by omega) hB) (lenOf pd___Ljava_lang_String_ rfl) d5_74 rfl (nle rfl) (nle rfl) (nle rfl) (nle rfl) all0 all0 all0 rfl
      replace G := G'; clear G'
      obtain ⟨wt, qt, r, rb, rfl, hR, g1, g2, rfl⟩ := Qt
      replace G := G.val qt
      exact G.retA hret rfl rfl hlk d5_77 [r] (allS (mm 1 rfl) all0) ⟨_, rfl, r, rb, rfl, hR, Nat.le_trans szt g1, Nat.le_trans szt g2, rfl⟩ (nle rfl) (nle rfl)
  have t2 : ∀ (h : Heap) (eb : Addr) (cap : Nat) (sl3 sl4 : Slot), (sl3 = .unset ∨ ∃ c : Int32, sl3 = .val (.int c)) → (sl4 = .unset ∨ ∃ c : Int32, sl4 = .val (.int c)) → 2 ≤ cs.length → StrK Z h a b (kd cs) cs → SbdX Z h sb eb cap (kd (O cs 2)) (O cs 2) → (O cs 2).length ≤ cap → cap ≤ 26 → a ≠ eb → b ≠ eb → h0.size ≤ eb → Wl Z a0 "com/example/unhurried_frontier/unhurriedfrontier/TsvFile" p l e ({ frames := 8, cells := 28, slots := 1080, locals := 115 } : Room) s m #[(.ref a)] below meth c prog_8_method_5_code 5 B consts_1 h0 n0 [] [eb, sb] h 14 532 14 #[.val (.ref a), .val (.ref sb), .val (.int (Int32.ofNat 2)), sl3, sl4] [] → Fin Z consts_1 p e below B s h0 n0 [] ({ frames := 8, cells := 28, slots := 1080, locals := 115 } : Room).cells ({ frames := 8, cells := 28, slots := 1080, locals := 115 } : Room).slots (VV fun w h so => ∃ r rb, w = .ref r ∧ StrK Z h r rb (kd (cs.flatMap esc)) (cs.flatMap esc) ∧ h0.size ≤ r ∧ h0.size ≤ rb ∧ so = [r]) := by
    intro h eb cap sl3 sl4 hs3 hs4 hin hS hB hlc hcap nae nbe seb G
    have hol := O_len cs 2
    replace G := G.iloadN 15 d5_14 rfl rfl |>.aloadN 16 d5_15 rfl rfl rfl
    obtain ⟨vl, k_l, sol, G', Kl, Ql⟩ := G.callV 19 (hw _ (mm 34 rfl)) (hw _ (mm 35 rfl)) (nfSel (hw _ (mm 37 rfl))) (hw _ (mm 37 rfl)) (hw _ (mm 36 rfl)) (hw _ (mm 8 rfl)) (hw _ (mm 38 rfl)) hS.1 (by decide) [] [(.int (Int32.ofNat 2))] rfl (c_lengthK l Z a0 hw hEW n0 c1 hc1 S1 v2 hv2 S2 S3 S4 S5 a b (kd cs) cs G.old (kd01 cs) (by omega) hS) (lenOf pd___I rfl) d5_16 rfl (nle rfl) (nle rfl) (nle rfl) (nle rfl) all0 all0 all0 rfl
    replace G := G'; clear G'
    obtain ⟨wl, ql, rfl, el, rfl⟩ := Ql
    replace G := G.val ql
    subst el
    rcases Nat.lt_or_ge 2 cs.length with hi | hi
    · skip
      have ne_a_eb := nae; have ne_b_eb := nbe
      replace G := G.icmpF 22 d5_19 (XT.ii_ge_f (ofn_lt (i := 2) (by omega) (by omega))) rfl |>.aloadN 23 d5_22 rfl rfl rfl |>.iloadN 24 d5_23 rfl rfl
      have hx := hc _ (getD_memN cs 2 (by omega))
      obtain ⟨vc, k_c, soc, G', Kc, Qc⟩ := G.callV 27 (hw _ (mm 120 rfl)) (hw _ (mm 121 rfl)) (nfSel (hw _ (mm 123 rfl))) (hw _ (mm 123 rfl)) (hw _ (mm 122 rfl)) (hw _ (mm 8 rfl)) (hw _ (mm 124 rfl)) hS.1 (by decide) [(.int (Int32.ofNat 2))] [] rfl (c_charK l Z a0 hw hEW n0 c1 hc1 S1 v2 hv2 S2 S3 S4 S5 a b (kd cs) 2 cs G.old (kd01 cs) (by omega) (by omega) hc (fun q => kd0 q) hS) (lenOf pd__I_C rfl) d5_24 rfl (nle rfl) (nle rfl) (nle rfl) (nle rfl) all0 all0 all0 rfl
      replace G := G'; clear G'
      obtain ⟨wc, qc, rfl, ec, rfl⟩ := Qc
      replace G := G.val qc
      subst ec
      replace G := G.istoreN 28 #[.val (.ref a), .val (.ref sb), .val (.int (Int32.ofNat 2)), .val (.int (Int32.ofNat (cs.getD 2 0))), sl4] d5_27 (by rcases hs3 with rfl | ⟨c, rfl⟩ <;> rfl) rfl
      obtain ⟨l1, l2, k1, kkz, G', Ez, Xz, Fcz, Fvz, Az, nez⟩ := G.ldcS 30 (hw _ (mm 142 rfl)) (wS_of hw) (mm 0 rfl) (vs := [(.int (92 : Int32)), (.int (9 : Int32)), (.int (10 : Int32)), (.int (13 : Int32))]) (z := (4 : Int32)) (by decide) (by decide) rfl d5_28 16 (by decide) (by decide) (nle rfl) (nle rfl) rfl
      replace G := G'; clear G'
      replace hS := hS.ext Ez; replace hB := hB.ext Ez
      have hL : StrK Z k1 l1 l2 0 [92, 9, 10, 13] := ⟨Xz, Fcz, Fvz, kkz, Az⟩
      replace G := G.iloadN 31 d5_30 rfl rfl
      obtain ⟨vi, k_i, soi, G', Ki, Qi⟩ := G.callV 34 (hw _ (mm 143 rfl)) (hw _ (mm 144 rfl)) (nfSel (hw _ (mm 146 rfl))) (hw _ (mm 146 rfl)) (hw _ (mm 145 rfl)) (hw _ (mm 8 rfl)) (hw _ (mm 147 rfl)) hL.1 (by decide) [(.int (Int32.ofNat (cs.getD 2 0)))] [] rfl (c_ix l Z a0 hw hEW n0 c1 hc1 S1 v2 hv2 S2 S3 S4 S5 l1 l2 (cs.getD 2 0) G.old hx hL) (lenOf pd__I_I rfl) d5_31 rfl (nle rfl) (nle rfl) (nle rfl) (nle rfl) all0 all0 all0 rfl
      replace G := G'; clear G'
      obtain ⟨wi, qi, rfl, ei, rfl⟩ := Qi
      replace G := G.val qi
      subst ei
      replace G := G.istore 36 #[.val (.ref a), .val (.ref sb), .val (.int (Int32.ofNat 2)), .val (.int (Int32.ofNat (cs.getD 2 0))), .val (.int (ixOf (cs.getD 2 0)))] d5_34 (by rcases hs4 with rfl | ⟨c, rfl⟩ <;> rfl) rfl |>.iload 38 d5_36 rfl rfl
      have hos := O_succ (cs := cs) (i := 2) (by omega); have hk8 : kd (O cs 2) = 0 → ∀ c ∈ O cs 2, c < 256 := fun q => kd0 q
      rcases Decidable.em (ixOf (cs.getD 2 0) < 0) with hq | hq
      · skip
        replace G := G.ifF 41 d5_38 (XT.i0_ge_f hq) rfl |>.aloadN 42 d5_41 rfl rfl rfl |>.iloadN 43 d5_42 rfl rfl
        have sz1 := G.sz
        obtain ⟨vp1, m1, sop1, G', Kp1, Qp1⟩ := G.callV 46 (hw _ (mm 170 rfl)) (hw _ (mm 171 rfl)) (nfSel (hw _ (mm 173 rfl))) (hw _ (mm 173 rfl)) (hw _ (mm 172 rfl)) (hw _ (mm 33 rfl)) (hw _ (mm 174 rfl)) hB.1.1 (by decide) [(.int (Int32.ofNat (cs.getD 2 0)))] [] rfl (c_appCX l Z a0 hw hEW n0 c1 hc1 S1 v2 hv2 S2 S3 S4 S5 sb eb cap (kd (O cs 2)) (cs.getD 2 0) (O cs 2) G.old (G.nw (Or.inr ssb)) (G.nw (Or.inr seb)) (by first | exact kd01 _ | (have := kd01 (O cs 2); have := kd01 [92]; omega)) hx (by first | omega | (simp only [List.length_append, List.length_cons, List.length_nil]; omega)) hcap hlc hk8 hB) (lenOf pd__C_Ljava_lang_StringBuilder_ rfl) d5_43 rfl (nle rfl) (nle rfl) (nle rfl) (nle rfl) (allS (Or.inr ssb) (allS (Or.inr seb) all0)) (allS (mm 1 rfl) (allS (mm 0 rfl) all0)) (allS (mm 1 rfl) (allS (mm 0 rfl) all0)) rfl
        replace G := G'; clear G'
        obtain ⟨wp1, qp1, rfl, e1, cp1, hB1, hl1, hk1, hb1, rfl⟩ := Qp1
        replace G := G.val qp1
        have na1 : a ≠ e1 := ne_or nae hS.lt hb1; have nb1 : b ≠ e1 := ne_or nbe hS.ltb hb1; have se1 : h0.size ≤ e1 := hb1.elim (fun q => q ▸ seb) (fun r => Nat.le_trans sz1 r)
        replace hS := hS.keep Kp1 (ninS ne_a_sb (ninS nae nin0)) (ninS ne_b_sb (ninS nbe nin0))
        have ee := ix_of hq; rw [ee] at hos; rw [← kd_app, ← hos] at hB1; rw [← hos] at hl1
        replace G := G.pop 47 d5_46 rfl rfl |>.goto 67 d5_47 (by decide) (by decide) |>.iincV 70 #[.val (.ref a), .val (.ref sb), .val (.int (Int32.ofNat 3)), .val (.int (Int32.ofNat (cs.getD 2 0))), .val (.int (ixOf (cs.getD 2 0)))] (Int32.ofNat 3) d5_67 rfl (by decide) rfl rfl |>.goto 14 d5_70 (by decide) (by decide)
        exact t3 _ e1 cp1 _ _ (Or.inr ⟨_, rfl⟩) (Or.inr ⟨_, rfl⟩) (by omega) hS hB1 hl1 hk1 na1 nb1 se1 ((G.more (k := 20) (n := 792) (nle rfl) (nle rfl)).less (allS (mm 0 rfl) (allS (mm 2 rfl) all0)))
      · skip
        obtain ⟨j, hj, ej, ee⟩ := ix_at hq
        replace G := G.ifT 50 d5_38 (XT.i0_ge_t hq) (by decide) (by decide) |>.aloadN 51 d5_50 rfl rfl rfl |>.bipush 53 (92 : Int32) d5_51 (by decide) rfl |>.top (y := (.int (Int32.ofNat 92))) (rfl)
        have sz1 := G.sz
        obtain ⟨vp1, m1, sop1, G', Kp1, Qp1⟩ := G.callV 56 (hw _ (mm 170 rfl)) (hw _ (mm 171 rfl)) (nfSel (hw _ (mm 173 rfl))) (hw _ (mm 173 rfl)) (hw _ (mm 172 rfl)) (hw _ (mm 33 rfl)) (hw _ (mm 174 rfl)) hB.1.1 (by decide) [(.int (Int32.ofNat 92))] [] rfl (c_appSX l Z a0 hw hEW n0 c1 hc1 S1 v2 hv2 S2 S3 S4 S5 sb eb cap (kd (O cs 2)) 92 (O cs 2) G.old (G.nw (Or.inr ssb)) (G.nw (Or.inr seb)) (by first | exact kd01 _ | (have := kd01 (O cs 2); have := kd01 [92]; omega)) (by decide) (by decide) (by first | omega | (simp only [List.length_append, List.length_cons, List.length_nil]; omega)) hcap hlc hk8 hB) (lenOf pd__C_Ljava_lang_StringBuilder_ rfl) d5_53 rfl (nle rfl) (nle rfl) (nle rfl) (nle rfl) (allS (Or.inr ssb) (allS (Or.inr seb) all0)) (allS (mm 1 rfl) (allS (mm 0 rfl) all0)) (allS (mm 1 rfl) (allS (mm 0 rfl) all0)) rfl
        replace G := G'; clear G'
        obtain ⟨wp1, qp1, rfl, e1, cp1, hB1, hl1, hk1, hb1, rfl⟩ := Qp1
        replace G := G.val qp1
        have na1 : a ≠ e1 := ne_or nae hS.lt hb1; have nb1 : b ≠ e1 := ne_or nbe hS.ltb hb1; have se1 : h0.size ≤ e1 := hb1.elim (fun q => q ▸ seb) (fun r => Nat.le_trans sz1 r)
        replace hS := hS.keep Kp1 (ninS ne_a_sb (ninS nae nin0)) (ninS ne_b_sb (ninS nbe nin0))
        obtain ⟨l3, l4, k3, kky, G', Ey, Xy, Fcy, Fvy, Ay, ney⟩ := G.ldcS 58 (hw _ (mm 188 rfl)) (wS_of hw) (mm 1 rfl) (vs := [(.int (92 : Int32)), (.int (116 : Int32)), (.int (110 : Int32)), (.int (114 : Int32))]) (z := (4 : Int32)) (by decide) (by decide) rfl d5_56 16 (by decide) (by decide) (nle rfl) (nle rfl) rfl
        replace G := G'; clear G'
        replace hS := hS.ext Ey; replace hB1 := hB1.ext Ey; have hM : StrK Z k3 l3 l4 0 [92, 116, 110, 114] := ⟨Xy, Fcy, Fvy, kky, Ay⟩
        replace G := G.iload 60 d5_58 rfl rfl |>.top (y := (.int (Int32.ofNat j))) (congrArg Value.int ej)
        obtain ⟨vd, k_d, sod, G', Kd, Qd⟩ := G.callV 63 (hw _ (mm 120 rfl)) (hw _ (mm 121 rfl)) (nfSel (hw _ (mm 123 rfl))) (hw _ (mm 123 rfl)) (hw _ (mm 122 rfl)) (hw _ (mm 8 rfl)) (hw _ (mm 124 rfl)) hM.1 (by decide) [(.int (Int32.ofNat j))] [(.ref sb)] rfl (c_charK l Z a0 hw hEW n0 c1 hc1 S1 v2 hv2 S2 S3 S4 S5 l3 l4 0 j [92, 116, 110, 114] G.old (Or.inl rfl) hj (by decide) (by decide) (fun _ => by decide) hM) (lenOf pd__I_C rfl) d5_60 rfl (nle rfl) (nle rfl) (nle rfl) (nle rfl) all0 all0 all0 rfl
        replace G := G'; clear G'
        obtain ⟨wd, qd, rfl, ed, rfl⟩ := Qd
        replace G := G.val qd
        subst ed
        have hsm : [92, 116, 110, 114].getD j 0 < 256 := by rcases (show j = 0 ∨ j = 1 ∨ j = 2 ∨ j = 3 by omega) with rfl | rfl | rfl | rfl <;> decide
        have sz2 := G.sz
        obtain ⟨vp2, m2, sop2, G', Kp2, Qp2⟩ := G.callV 66 (hw _ (mm 170 rfl)) (hw _ (mm 171 rfl)) (nfSel (hw _ (mm 173 rfl))) (hw _ (mm 173 rfl)) (hw _ (mm 172 rfl)) (hw _ (mm 33 rfl)) (hw _ (mm 174 rfl)) hB1.1.1 (by decide) [(.int (Int32.ofNat ([92, 116, 110, 114].getD j 0)))] [] rfl (c_appSX l Z a0 hw hEW n0 c1 hc1 S1 v2 hv2 S2 S3 S4 S5 sb e1 cp1 (max (kd (O cs 2)) (kd [92])) ([92, 116, 110, 114].getD j 0) (O cs 2 ++ [92]) G.old (G.nw (Or.inr ssb)) (G.nw (Or.inr se1)) (by first | exact kd01 _ | (have := kd01 (O cs 2); have := kd01 [92]; omega)) hsm (by omega) (by first | omega | (simp only [List.length_append, List.length_cons, List.length_nil]; omega)) hk1 hl1 (fun q => kd0 (by rw [kd_app]; exact q)) hB1) (lenOf pd__C_Ljava_lang_StringBuilder_ rfl) d5_63 rfl (nle rfl) (nle rfl) (nle rfl) (nle rfl) (allS (Or.inr ssb) (allS (Or.inr se1) all0)) (allS (mm 2 rfl) (allS (mm 0 rfl) all0)) (allS (mm 2 rfl) (allS (mm 0 rfl) all0)) rfl
        replace G := G'; clear G'
        obtain ⟨wp2, qp2, rfl, e2, cp2, hB2, hl2, hk2, hb2, rfl⟩ := Qp2
        replace G := G.val qp2
        have na2 : a ≠ e2 := ne_or na1 hS.lt hb2; have nb2 : b ≠ e2 := ne_or nb1 hS.ltb hb2; have se2 : h0.size ≤ e2 := hb2.elim (fun q => q ▸ se1) (fun r => Nat.le_trans sz2 r)
        replace hS := hS.keep Kp2 (ninS ne_a_sb (ninS na1 nin0)) (ninS ne_b_sb (ninS nb1 nin0))
        rw [ee, show ([92, [92, 116, 110, 114].getD j 0] : List Nat) = [92] ++ [[92, 116, 110, 114].getD j 0] from rfl, ← List.append_assoc] at hos; rw [← kd_app, ← kd_app, ← hos] at hB2; rw [← hos] at hl2
        replace G := G.pop 67 d5_66 rfl rfl |>.iincV 70 #[.val (.ref a), .val (.ref sb), .val (.int (Int32.ofNat 3)), .val (.int (Int32.ofNat (cs.getD 2 0))), .val (.int (ixOf (cs.getD 2 0)))] (Int32.ofNat 3) d5_67 rfl (by decide) rfl rfl |>.goto 14 d5_70 (by decide) (by decide)
        exact t3 _ e2 cp2 _ _ (Or.inr ⟨_, rfl⟩) (Or.inr ⟨_, rfl⟩) (by omega) hS hB2 hl2 hk2 na2 nb2 se2 ((G.more (k := 20) (n := 792) (nle rfl) (nle rfl)).less (allS (mm 0 rfl) (allS (mm 3 rfl) all0)))
    · skip
      replace G := G.icmpT 73 d5_19 (XT.ii_ge_t (ofn_nlt (n := cs.length) (by omega) (by omega))) (by decide) (by decide) |>.aloadN 74 d5_73 rfl rfl rfl
      have eo : O cs 2 = cs.flatMap esc := by unfold O; rw [List.take_of_length_le (by omega)]
      rw [eo] at hB hlc hol
      have szt := G.sz
      obtain ⟨vt, k9, sot, G', Kt, Qt⟩ := G.callV 77 (hw _ (mm 60 rfl)) (hw _ (mm 61 rfl)) (nfSel (hw _ (mm 63 rfl))) (hw _ (mm 63 rfl)) (hw _ (mm 62 rfl)) (hw _ (mm 33 rfl)) (hw _ (mm 64 rfl)) hB.1.1 (by decide) [] [] rfl (c_toStrX l Z a0 hw hEW n0 c1 hc1 S1 v2 hv2 S2 S3 S4 S5 sb eb cap (kd (cs.flatMap esc)) (cs.flatMap esc) G.old (kd01 _) hlc hcap (by omega) hB) (lenOf pd___Ljava_lang_String_ rfl) d5_74 rfl (nle rfl) (nle rfl) (nle rfl) (nle rfl) all0 all0 all0 rfl
      replace G := G'; clear G'
      obtain ⟨wt, qt, r, rb, rfl, hR, g1, g2, rfl⟩ := Qt
      replace G := G.val qt
      exact G.retA hret rfl rfl hlk d5_77 [r] (allS (mm 1 rfl) all0) ⟨_, rfl, r, rb, rfl, hR, Nat.le_trans szt g1, Nat.le_trans szt g2, rfl⟩ (nle rfl) (nle rfl)
  have t1 : ∀ (h : Heap) (eb : Addr) (cap : Nat) (sl3 sl4 : Slot), (sl3 = .unset ∨ ∃ c : Int32, sl3 = .val (.int c)) → (sl4 = .unset ∨ ∃ c : Int32, sl4 = .val (.int c)) → 1 ≤ cs.length → StrK Z h a b (kd cs) cs → SbdX Z h sb eb cap (kd (O cs 1)) (O cs 1) → (O cs 1).length ≤ cap → cap ≤ 26 → a ≠ eb → b ≠ eb → h0.size ≤ eb → Wl Z a0 "com/example/unhurried_frontier/unhurriedfrontier/TsvFile" p l e ({ frames := 8, cells := 28, slots := 1080, locals := 115 } : Room) s m #[(.ref a)] below meth c prog_8_method_5_code 5 B consts_1 h0 n0 [] [eb, sb] h 8 272 14 #[.val (.ref a), .val (.ref sb), .val (.int (Int32.ofNat 1)), sl3, sl4] [] → Fin Z consts_1 p e below B s h0 n0 [] ({ frames := 8, cells := 28, slots := 1080, locals := 115 } : Room).cells ({ frames := 8, cells := 28, slots := 1080, locals := 115 } : Room).slots (VV fun w h so => ∃ r rb, w = .ref r ∧ StrK Z h r rb (kd (cs.flatMap esc)) (cs.flatMap esc) ∧ h0.size ≤ r ∧ h0.size ≤ rb ∧ so = [r]) := by
    intro h eb cap sl3 sl4 hs3 hs4 hin hS hB hlc hcap nae nbe seb G
    have hol := O_len cs 1
    replace G := G.iloadN 15 d5_14 rfl rfl |>.aloadN 16 d5_15 rfl rfl rfl
    obtain ⟨vl, k_l, sol, G', Kl, Ql⟩ := G.callV 19 (hw _ (mm 34 rfl)) (hw _ (mm 35 rfl)) (nfSel (hw _ (mm 37 rfl))) (hw _ (mm 37 rfl)) (hw _ (mm 36 rfl)) (hw _ (mm 8 rfl)) (hw _ (mm 38 rfl)) hS.1 (by decide) [] [(.int (Int32.ofNat 1))] rfl (c_lengthK l Z a0 hw hEW n0 c1 hc1 S1 v2 hv2 S2 S3 S4 S5 a b (kd cs) cs G.old (kd01 cs) (by omega) hS) (lenOf pd___I rfl) d5_16 rfl (nle rfl) (nle rfl) (nle rfl) (nle rfl) all0 all0 all0 rfl
    replace G := G'; clear G'
    obtain ⟨wl, ql, rfl, el, rfl⟩ := Ql
    replace G := G.val ql
    subst el
    rcases Nat.lt_or_ge 1 cs.length with hi | hi
    · skip
      have ne_a_eb := nae; have ne_b_eb := nbe
      replace G := G.icmpF 22 d5_19 (XT.ii_ge_f (ofn_lt (i := 1) (by omega) (by omega))) rfl |>.aloadN 23 d5_22 rfl rfl rfl |>.iloadN 24 d5_23 rfl rfl
      have hx := hc _ (getD_memN cs 1 (by omega))
      obtain ⟨vc, k_c, soc, G', Kc, Qc⟩ := G.callV 27 (hw _ (mm 120 rfl)) (hw _ (mm 121 rfl)) (nfSel (hw _ (mm 123 rfl))) (hw _ (mm 123 rfl)) (hw _ (mm 122 rfl)) (hw _ (mm 8 rfl)) (hw _ (mm 124 rfl)) hS.1 (by decide) [(.int (Int32.ofNat 1))] [] rfl (c_charK l Z a0 hw hEW n0 c1 hc1 S1 v2 hv2 S2 S3 S4 S5 a b (kd cs) 1 cs G.old (kd01 cs) (by omega) (by omega) hc (fun q => kd0 q) hS) (lenOf pd__I_C rfl) d5_24 rfl (nle rfl) (nle rfl) (nle rfl) (nle rfl) all0 all0 all0 rfl
      replace G := G'; clear G'
      obtain ⟨wc, qc, rfl, ec, rfl⟩ := Qc
      replace G := G.val qc
      subst ec
      replace G := G.istoreN 28 #[.val (.ref a), .val (.ref sb), .val (.int (Int32.ofNat 1)), .val (.int (Int32.ofNat (cs.getD 1 0))), sl4] d5_27 (by rcases hs3 with rfl | ⟨c, rfl⟩ <;> rfl) rfl
      obtain ⟨l1, l2, k1, kkz, G', Ez, Xz, Fcz, Fvz, Az, nez⟩ := G.ldcS 30 (hw _ (mm 142 rfl)) (wS_of hw) (mm 0 rfl) (vs := [(.int (92 : Int32)), (.int (9 : Int32)), (.int (10 : Int32)), (.int (13 : Int32))]) (z := (4 : Int32)) (by decide) (by decide) rfl d5_28 16 (by decide) (by decide) (nle rfl) (nle rfl) rfl
      replace G := G'; clear G'
      replace hS := hS.ext Ez; replace hB := hB.ext Ez
      have hL : StrK Z k1 l1 l2 0 [92, 9, 10, 13] := ⟨Xz, Fcz, Fvz, kkz, Az⟩
      replace G := G.iloadN 31 d5_30 rfl rfl
      obtain ⟨vi, k_i, soi, G', Ki, Qi⟩ := G.callV 34 (hw _ (mm 143 rfl)) (hw _ (mm 144 rfl)) (nfSel (hw _ (mm 146 rfl))) (hw _ (mm 146 rfl)) (hw _ (mm 145 rfl)) (hw _ (mm 8 rfl)) (hw _ (mm 147 rfl)) hL.1 (by decide) [(.int (Int32.ofNat (cs.getD 1 0)))] [] rfl (c_ix l Z a0 hw hEW n0 c1 hc1 S1 v2 hv2 S2 S3 S4 S5 l1 l2 (cs.getD 1 0) G.old hx hL) (lenOf pd__I_I rfl) d5_31 rfl (nle rfl) (nle rfl) (nle rfl) (nle rfl) all0 all0 all0 rfl
      replace G := G'; clear G'
      obtain ⟨wi, qi, rfl, ei, rfl⟩ := Qi
      replace G := G.val qi
      subst ei
      replace G := G.istore 36 #[.val (.ref a), .val (.ref sb), .val (.int (Int32.ofNat 1)), .val (.int (Int32.ofNat (cs.getD 1 0))), .val (.int (ixOf (cs.getD 1 0)))] d5_34 (by rcases hs4 with rfl | ⟨c, rfl⟩ <;> rfl) rfl |>.iload 38 d5_36 rfl rfl
      have hos := O_succ (cs := cs) (i := 1) (by omega); have hk8 : kd (O cs 1) = 0 → ∀ c ∈ O cs 1, c < 256 := fun q => kd0 q
      rcases Decidable.em (ixOf (cs.getD 1 0) < 0) with hq | hq
      · skip
        replace G := G.ifF 41 d5_38 (XT.i0_ge_f hq) rfl |>.aloadN 42 d5_41 rfl rfl rfl |>.iloadN 43 d5_42 rfl rfl
        have sz1 := G.sz
        obtain ⟨vp1, m1, sop1, G', Kp1, Qp1⟩ := G.callV 46 (hw _ (mm 170 rfl)) (hw _ (mm 171 rfl)) (nfSel (hw _ (mm 173 rfl))) (hw _ (mm 173 rfl)) (hw _ (mm 172 rfl)) (hw _ (mm 33 rfl)) (hw _ (mm 174 rfl)) hB.1.1 (by decide) [(.int (Int32.ofNat (cs.getD 1 0)))] [] rfl (c_appCX l Z a0 hw hEW n0 c1 hc1 S1 v2 hv2 S2 S3 S4 S5 sb eb cap (kd (O cs 1)) (cs.getD 1 0) (O cs 1) G.old (G.nw (Or.inr ssb)) (G.nw (Or.inr seb)) (by first | exact kd01 _ | (have := kd01 (O cs 1); have := kd01 [92]; omega)) hx (by first | omega | (simp only [List.length_append, List.length_cons, List.length_nil]; omega)) hcap hlc hk8 hB) (lenOf pd__C_Ljava_lang_StringBuilder_ rfl) d5_43 rfl (nle rfl) (nle rfl) (nle rfl) (nle rfl) (allS (Or.inr ssb) (allS (Or.inr seb) all0)) (allS (mm 1 rfl) (allS (mm 0 rfl) all0)) (allS (mm 1 rfl) (allS (mm 0 rfl) all0)) rfl
        replace G := G'; clear G'
        obtain ⟨wp1, qp1, rfl, e1, cp1, hB1, hl1, hk1, hb1, rfl⟩ := Qp1
        replace G := G.val qp1
        have na1 : a ≠ e1 := ne_or nae hS.lt hb1; have nb1 : b ≠ e1 := ne_or nbe hS.ltb hb1; have se1 : h0.size ≤ e1 := hb1.elim (fun q => q ▸ seb) (fun r => Nat.le_trans sz1 r)
        replace hS := hS.keep Kp1 (ninS ne_a_sb (ninS nae nin0)) (ninS ne_b_sb (ninS nbe nin0))
        have ee := ix_of hq; rw [ee] at hos; rw [← kd_app, ← hos] at hB1; rw [← hos] at hl1
        replace G := G.pop 47 d5_46 rfl rfl |>.goto 67 d5_47 (by decide) (by decide) |>.iincV 70 #[.val (.ref a), .val (.ref sb), .val (.int (Int32.ofNat 2)), .val (.int (Int32.ofNat (cs.getD 1 0))), .val (.int (ixOf (cs.getD 1 0)))] (Int32.ofNat 2) d5_67 rfl (by decide) rfl rfl |>.goto 14 d5_70 (by decide) (by decide)
        exact t2 _ e1 cp1 _ _ (Or.inr ⟨_, rfl⟩) (Or.inr ⟨_, rfl⟩) (by omega) hS hB1 hl1 hk1 na1 nb1 se1 ((G.more (k := 14) (n := 532) (nle rfl) (nle rfl)).less (allS (mm 0 rfl) (allS (mm 2 rfl) all0)))
      · skip
        obtain ⟨j, hj, ej, ee⟩ := ix_at hq
        replace G := G.ifT 50 d5_38 (XT.i0_ge_t hq) (by decide) (by decide) |>.aloadN 51 d5_50 rfl rfl rfl |>.bipush 53 (92 : Int32) d5_51 (by decide) rfl |>.top (y := (.int (Int32.ofNat 92))) (rfl)
        have sz1 := G.sz
        obtain ⟨vp1, m1, sop1, G', Kp1, Qp1⟩ := G.callV 56 (hw _ (mm 170 rfl)) (hw _ (mm 171 rfl)) (nfSel (hw _ (mm 173 rfl))) (hw _ (mm 173 rfl)) (hw _ (mm 172 rfl)) (hw _ (mm 33 rfl)) (hw _ (mm 174 rfl)) hB.1.1 (by decide) [(.int (Int32.ofNat 92))] [] rfl (c_appSX l Z a0 hw hEW n0 c1 hc1 S1 v2 hv2 S2 S3 S4 S5 sb eb cap (kd (O cs 1)) 92 (O cs 1) G.old (G.nw (Or.inr ssb)) (G.nw (Or.inr seb)) (by first | exact kd01 _ | (have := kd01 (O cs 1); have := kd01 [92]; omega)) (by decide) (by decide) (by first | omega | (simp only [List.length_append, List.length_cons, List.length_nil]; omega)) hcap hlc hk8 hB) (lenOf pd__C_Ljava_lang_StringBuilder_ rfl) d5_53 rfl (nle rfl) (nle rfl) (nle rfl) (nle rfl) (allS (Or.inr ssb) (allS (Or.inr seb) all0)) (allS (mm 1 rfl) (allS (mm 0 rfl) all0)) (allS (mm 1 rfl) (allS (mm 0 rfl) all0)) rfl
        replace G := G'; clear G'
        obtain ⟨wp1, qp1, rfl, e1, cp1, hB1, hl1, hk1, hb1, rfl⟩ := Qp1
        replace G := G.val qp1
        have na1 : a ≠ e1 := ne_or nae hS.lt hb1; have nb1 : b ≠ e1 := ne_or nbe hS.ltb hb1; have se1 : h0.size ≤ e1 := hb1.elim (fun q => q ▸ seb) (fun r => Nat.le_trans sz1 r)
        replace hS := hS.keep Kp1 (ninS ne_a_sb (ninS nae nin0)) (ninS ne_b_sb (ninS nbe nin0))
        obtain ⟨l3, l4, k3, kky, G', Ey, Xy, Fcy, Fvy, Ay, ney⟩ := G.ldcS 58 (hw _ (mm 188 rfl)) (wS_of hw) (mm 1 rfl) (vs := [(.int (92 : Int32)), (.int (116 : Int32)), (.int (110 : Int32)), (.int (114 : Int32))]) (z := (4 : Int32)) (by decide) (by decide) rfl d5_56 16 (by decide) (by decide) (nle rfl) (nle rfl) rfl
        replace G := G'; clear G'
        replace hS := hS.ext Ey; replace hB1 := hB1.ext Ey; have hM : StrK Z k3 l3 l4 0 [92, 116, 110, 114] := ⟨Xy, Fcy, Fvy, kky, Ay⟩
        replace G := G.iload 60 d5_58 rfl rfl |>.top (y := (.int (Int32.ofNat j))) (congrArg Value.int ej)
        obtain ⟨vd, k_d, sod, G', Kd, Qd⟩ := G.callV 63 (hw _ (mm 120 rfl)) (hw _ (mm 121 rfl)) (nfSel (hw _ (mm 123 rfl))) (hw _ (mm 123 rfl)) (hw _ (mm 122 rfl)) (hw _ (mm 8 rfl)) (hw _ (mm 124 rfl)) hM.1 (by decide) [(.int (Int32.ofNat j))] [(.ref sb)] rfl (c_charK l Z a0 hw hEW n0 c1 hc1 S1 v2 hv2 S2 S3 S4 S5 l3 l4 0 j [92, 116, 110, 114] G.old (Or.inl rfl) hj (by decide) (by decide) (fun _ => by decide) hM) (lenOf pd__I_C rfl) d5_60 rfl (nle rfl) (nle rfl) (nle rfl) (nle rfl) all0 all0 all0 rfl
        replace G := G'; clear G'
        obtain ⟨wd, qd, rfl, ed, rfl⟩ := Qd
        replace G := G.val qd
        subst ed
        have hsm : [92, 116, 110, 114].getD j 0 < 256 := by rcases (show j = 0 ∨ j = 1 ∨ j = 2 ∨ j = 3 by omega) with rfl | rfl | rfl | rfl <;> decide
        have sz2 := G.sz
        obtain ⟨vp2, m2, sop2, G', Kp2, Qp2⟩ := G.callV 66 (hw _ (mm 170 rfl)) (hw _ (mm 171 rfl)) (nfSel (hw _ (mm 173 rfl))) (hw _ (mm 173 rfl)) (hw _ (mm 172 rfl)) (hw _ (mm 33 rfl)) (hw _ (mm 174 rfl)) hB1.1.1 (by decide) [(.int (Int32.ofNat ([92, 116, 110, 114].getD j 0)))] [] rfl (c_appSX l Z a0 hw hEW n0 c1 hc1 S1 v2 hv2 S2 S3 S4 S5 sb e1 cp1 (max (kd (O cs 1)) (kd [92])) ([92, 116, 110, 114].getD j 0) (O cs 1 ++ [92]) G.old (G.nw (Or.inr ssb)) (G.nw (Or.inr se1)) (by first | exact kd01 _ | (have := kd01 (O cs 1); have := kd01 [92]; omega)) hsm (by omega) (by first | omega | (simp only [List.length_append, List.length_cons, List.length_nil]; omega)) hk1 hl1 (fun q => kd0 (by rw [kd_app]; exact q)) hB1) (lenOf pd__C_Ljava_lang_StringBuilder_ rfl) d5_63 rfl (nle rfl) (nle rfl) (nle rfl) (nle rfl) (allS (Or.inr ssb) (allS (Or.inr se1) all0)) (allS (mm 2 rfl) (allS (mm 0 rfl) all0)) (allS (mm 2 rfl) (allS (mm 0 rfl) all0)) rfl
        replace G := G'; clear G'
        obtain ⟨wp2, qp2, rfl, e2, cp2, hB2, hl2, hk2, hb2, rfl⟩ := Qp2
        replace G := G.val qp2
        have na2 : a ≠ e2 := ne_or na1 hS.lt hb2; have nb2 : b ≠ e2 := ne_or nb1 hS.ltb hb2; have se2 : h0.size ≤ e2 := hb2.elim (fun q => q ▸ se1) (fun r => Nat.le_trans sz2 r)
        replace hS := hS.keep Kp2 (ninS ne_a_sb (ninS na1 nin0)) (ninS ne_b_sb (ninS nb1 nin0))
        rw [ee, show ([92, [92, 116, 110, 114].getD j 0] : List Nat) = [92] ++ [[92, 116, 110, 114].getD j 0] from rfl, ← List.append_assoc] at hos; rw [← kd_app, ← kd_app, ← hos] at hB2; rw [← hos] at hl2
        replace G := G.pop 67 d5_66 rfl rfl |>.iincV 70 #[.val (.ref a), .val (.ref sb), .val (.int (Int32.ofNat 2)), .val (.int (Int32.ofNat (cs.getD 1 0))), .val (.int (ixOf (cs.getD 1 0)))] (Int32.ofNat 2) d5_67 rfl (by decide) rfl rfl |>.goto 14 d5_70 (by decide) (by decide)
        exact t2 _ e2 cp2 _ _ (Or.inr ⟨_, rfl⟩) (Or.inr ⟨_, rfl⟩) (by omega) hS hB2 hl2 hk2 na2 nb2 se2 ((G.more (k := 14) (n := 532) (nle rfl) (nle rfl)).less (allS (mm 0 rfl) (allS (mm 3 rfl) all0)))
    · skip
      replace G := G.icmpT 73 d5_19 (XT.ii_ge_t (ofn_nlt (n := cs.length) (by omega) (by omega))) (by decide) (by decide) |>.aloadN 74 d5_73 rfl rfl rfl
      have eo : O cs 1 = cs.flatMap esc := by unfold O; rw [List.take_of_length_le (by omega)]
      rw [eo] at hB hlc hol
      have szt := G.sz
      obtain ⟨vt, k9, sot, G', Kt, Qt⟩ := G.callV 77 (hw _ (mm 60 rfl)) (hw _ (mm 61 rfl)) (nfSel (hw _ (mm 63 rfl))) (hw _ (mm 63 rfl)) (hw _ (mm 62 rfl)) (hw _ (mm 33 rfl)) (hw _ (mm 64 rfl)) hB.1.1 (by decide) [] [] rfl (c_toStrX l Z a0 hw hEW n0 c1 hc1 S1 v2 hv2 S2 S3 S4 S5 sb eb cap (kd (cs.flatMap esc)) (cs.flatMap esc) G.old (kd01 _) hlc hcap (by omega) hB) (lenOf pd___Ljava_lang_String_ rfl) d5_74 rfl (nle rfl) (nle rfl) (nle rfl) (nle rfl) all0 all0 all0 rfl
      replace G := G'; clear G'
      obtain ⟨wt, qt, r, rb, rfl, hR, g1, g2, rfl⟩ := Qt
      replace G := G.val qt
      exact G.retA hret rfl rfl hlk d5_77 [r] (allS (mm 1 rfl) all0) ⟨_, rfl, r, rb, rfl, hR, Nat.le_trans szt g1, Nat.le_trans szt g2, rfl⟩ (nle rfl) (nle rfl)
  have t0 : ∀ (h : Heap) (eb : Addr) (cap : Nat) (sl3 sl4 : Slot), (sl3 = .unset ∨ ∃ c : Int32, sl3 = .val (.int c)) → (sl4 = .unset ∨ ∃ c : Int32, sl4 = .val (.int c)) → 0 ≤ cs.length → StrK Z h a b (kd cs) cs → SbdX Z h sb eb cap (kd (O cs 0)) (O cs 0) → (O cs 0).length ≤ cap → cap ≤ 26 → a ≠ eb → b ≠ eb → h0.size ≤ eb → Wl Z a0 "com/example/unhurried_frontier/unhurriedfrontier/TsvFile" p l e ({ frames := 8, cells := 28, slots := 1080, locals := 115 } : Room) s m #[(.ref a)] below meth c prog_8_method_5_code 5 B consts_1 h0 n0 [] [eb, sb] h 2 12 14 #[.val (.ref a), .val (.ref sb), .val (.int (Int32.ofNat 0)), sl3, sl4] [] → Fin Z consts_1 p e below B s h0 n0 [] ({ frames := 8, cells := 28, slots := 1080, locals := 115 } : Room).cells ({ frames := 8, cells := 28, slots := 1080, locals := 115 } : Room).slots (VV fun w h so => ∃ r rb, w = .ref r ∧ StrK Z h r rb (kd (cs.flatMap esc)) (cs.flatMap esc) ∧ h0.size ≤ r ∧ h0.size ≤ rb ∧ so = [r]) := by
    intro h eb cap sl3 sl4 hs3 hs4 hin hS hB hlc hcap nae nbe seb G
    have hol := O_len cs 0
    replace G := G.iloadN 15 d5_14 rfl rfl |>.aloadN 16 d5_15 rfl rfl rfl
    obtain ⟨vl, k_l, sol, G', Kl, Ql⟩ := G.callV 19 (hw _ (mm 34 rfl)) (hw _ (mm 35 rfl)) (nfSel (hw _ (mm 37 rfl))) (hw _ (mm 37 rfl)) (hw _ (mm 36 rfl)) (hw _ (mm 8 rfl)) (hw _ (mm 38 rfl)) hS.1 (by decide) [] [(.int (Int32.ofNat 0))] rfl (c_lengthK l Z a0 hw hEW n0 c1 hc1 S1 v2 hv2 S2 S3 S4 S5 a b (kd cs) cs G.old (kd01 cs) (by omega) hS) (lenOf pd___I rfl) d5_16 rfl (nle rfl) (nle rfl) (nle rfl) (nle rfl) all0 all0 all0 rfl
    replace G := G'; clear G'
    obtain ⟨wl, ql, rfl, el, rfl⟩ := Ql
    replace G := G.val ql
    subst el
    rcases Nat.lt_or_ge 0 cs.length with hi | hi
    · skip
      have ne_a_eb := nae; have ne_b_eb := nbe
      replace G := G.icmpF 22 d5_19 (XT.ii_ge_f (ofn_lt (i := 0) (by omega) (by omega))) rfl |>.aloadN 23 d5_22 rfl rfl rfl |>.iloadN 24 d5_23 rfl rfl
      have hx := hc _ (getD_memN cs 0 (by omega))
      obtain ⟨vc, k_c, soc, G', Kc, Qc⟩ := G.callV 27 (hw _ (mm 120 rfl)) (hw _ (mm 121 rfl)) (nfSel (hw _ (mm 123 rfl))) (hw _ (mm 123 rfl)) (hw _ (mm 122 rfl)) (hw _ (mm 8 rfl)) (hw _ (mm 124 rfl)) hS.1 (by decide) [(.int (Int32.ofNat 0))] [] rfl (c_charK l Z a0 hw hEW n0 c1 hc1 S1 v2 hv2 S2 S3 S4 S5 a b (kd cs) 0 cs G.old (kd01 cs) (by omega) (by omega) hc (fun q => kd0 q) hS) (lenOf pd__I_C rfl) d5_24 rfl (nle rfl) (nle rfl) (nle rfl) (nle rfl) all0 all0 all0 rfl
      replace G := G'; clear G'
      obtain ⟨wc, qc, rfl, ec, rfl⟩ := Qc
      replace G := G.val qc
      subst ec
      replace G := G.istoreN 28 #[.val (.ref a), .val (.ref sb), .val (.int (Int32.ofNat 0)), .val (.int (Int32.ofNat (cs.getD 0 0))), sl4] d5_27 (by rcases hs3 with rfl | ⟨c, rfl⟩ <;> rfl) rfl
      obtain ⟨l1, l2, k1, kkz, G', Ez, Xz, Fcz, Fvz, Az, nez⟩ := G.ldcS 30 (hw _ (mm 142 rfl)) (wS_of hw) (mm 0 rfl) (vs := [(.int (92 : Int32)), (.int (9 : Int32)), (.int (10 : Int32)), (.int (13 : Int32))]) (z := (4 : Int32)) (by decide) (by decide) rfl d5_28 16 (by decide) (by decide) (nle rfl) (nle rfl) rfl
      replace G := G'; clear G'
      replace hS := hS.ext Ez; replace hB := hB.ext Ez
      have hL : StrK Z k1 l1 l2 0 [92, 9, 10, 13] := ⟨Xz, Fcz, Fvz, kkz, Az⟩
      replace G := G.iloadN 31 d5_30 rfl rfl
      obtain ⟨vi, k_i, soi, G', Ki, Qi⟩ := G.callV 34 (hw _ (mm 143 rfl)) (hw _ (mm 144 rfl)) (nfSel (hw _ (mm 146 rfl))) (hw _ (mm 146 rfl)) (hw _ (mm 145 rfl)) (hw _ (mm 8 rfl)) (hw _ (mm 147 rfl)) hL.1 (by decide) [(.int (Int32.ofNat (cs.getD 0 0)))] [] rfl (c_ix l Z a0 hw hEW n0 c1 hc1 S1 v2 hv2 S2 S3 S4 S5 l1 l2 (cs.getD 0 0) G.old hx hL) (lenOf pd__I_I rfl) d5_31 rfl (nle rfl) (nle rfl) (nle rfl) (nle rfl) all0 all0 all0 rfl
      replace G := G'; clear G'
      obtain ⟨wi, qi, rfl, ei, rfl⟩ := Qi
      replace G := G.val qi
      subst ei
      replace G := G.istore 36 #[.val (.ref a), .val (.ref sb), .val (.int (Int32.ofNat 0)), .val (.int (Int32.ofNat (cs.getD 0 0))), .val (.int (ixOf (cs.getD 0 0)))] d5_34 (by rcases hs4 with rfl | ⟨c, rfl⟩ <;> rfl) rfl |>.iload 38 d5_36 rfl rfl
      have hos := O_succ (cs := cs) (i := 0) (by omega); have hk8 : kd (O cs 0) = 0 → ∀ c ∈ O cs 0, c < 256 := fun q => kd0 q
      rcases Decidable.em (ixOf (cs.getD 0 0) < 0) with hq | hq
      · skip
        replace G := G.ifF 41 d5_38 (XT.i0_ge_f hq) rfl |>.aloadN 42 d5_41 rfl rfl rfl |>.iloadN 43 d5_42 rfl rfl
        have sz1 := G.sz
        obtain ⟨vp1, m1, sop1, G', Kp1, Qp1⟩ := G.callV 46 (hw _ (mm 170 rfl)) (hw _ (mm 171 rfl)) (nfSel (hw _ (mm 173 rfl))) (hw _ (mm 173 rfl)) (hw _ (mm 172 rfl)) (hw _ (mm 33 rfl)) (hw _ (mm 174 rfl)) hB.1.1 (by decide) [(.int (Int32.ofNat (cs.getD 0 0)))] [] rfl (c_appCX l Z a0 hw hEW n0 c1 hc1 S1 v2 hv2 S2 S3 S4 S5 sb eb cap (kd (O cs 0)) (cs.getD 0 0) (O cs 0) G.old (G.nw (Or.inr ssb)) (G.nw (Or.inr seb)) (by first | exact kd01 _ | (have := kd01 (O cs 0); have := kd01 [92]; omega)) hx (by first | omega | (simp only [List.length_append, List.length_cons, List.length_nil]; omega)) hcap hlc hk8 hB) (lenOf pd__C_Ljava_lang_StringBuilder_ rfl) d5_43 rfl (nle rfl) (nle rfl) (nle rfl) (nle rfl) (allS (Or.inr ssb) (allS (Or.inr seb) all0)) (allS (mm 1 rfl) (allS (mm 0 rfl) all0)) (allS (mm 1 rfl) (allS (mm 0 rfl) all0)) rfl
        replace G := G'; clear G'
        obtain ⟨wp1, qp1, rfl, e1, cp1, hB1, hl1, hk1, hb1, rfl⟩ := Qp1
        replace G := G.val qp1
        have na1 : a ≠ e1 := ne_or nae hS.lt hb1; have nb1 : b ≠ e1 := ne_or nbe hS.ltb hb1; have se1 : h0.size ≤ e1 := hb1.elim (fun q => q ▸ seb) (fun r => Nat.le_trans sz1 r)
        replace hS := hS.keep Kp1 (ninS ne_a_sb (ninS nae nin0)) (ninS ne_b_sb (ninS nbe nin0))
        have ee := ix_of hq; rw [ee] at hos; rw [← kd_app, ← hos] at hB1; rw [← hos] at hl1
        replace G := G.pop 47 d5_46 rfl rfl |>.goto 67 d5_47 (by decide) (by decide) |>.iincV 70 #[.val (.ref a), .val (.ref sb), .val (.int (Int32.ofNat 1)), .val (.int (Int32.ofNat (cs.getD 0 0))), .val (.int (ixOf (cs.getD 0 0)))] (Int32.ofNat 1) d5_67 rfl (by decide) rfl rfl |>.goto 14 d5_70 (by decide) (by decide)
        exact t1 _ e1 cp1 _ _ (Or.inr ⟨_, rfl⟩) (Or.inr ⟨_, rfl⟩) (by omega) hS hB1 hl1 hk1 na1 nb1 se1 ((G.more (k := 8) (n := 272) (nle rfl) (nle rfl)).less (allS (mm 0 rfl) (allS (mm 2 rfl) all0)))
      · skip
        obtain ⟨j, hj, ej, ee⟩ := ix_at hq
        replace G := G.ifT 50 d5_38 (XT.i0_ge_t hq) (by decide) (by decide) |>.aloadN 51 d5_50 rfl rfl rfl |>.bipush 53 (92 : Int32) d5_51 (by decide) rfl |>.top (y := (.int (Int32.ofNat 92))) (rfl)
        have sz1 := G.sz
        obtain ⟨vp1, m1, sop1, G', Kp1, Qp1⟩ := G.callV 56 (hw _ (mm 170 rfl)) (hw _ (mm 171 rfl)) (nfSel (hw _ (mm 173 rfl))) (hw _ (mm 173 rfl)) (hw _ (mm 172 rfl)) (hw _ (mm 33 rfl)) (hw _ (mm 174 rfl)) hB.1.1 (by decide) [(.int (Int32.ofNat 92))] [] rfl (c_appSX l Z a0 hw hEW n0 c1 hc1 S1 v2 hv2 S2 S3 S4 S5 sb eb cap (kd (O cs 0)) 92 (O cs 0) G.old (G.nw (Or.inr ssb)) (G.nw (Or.inr seb)) (by first | exact kd01 _ | (have := kd01 (O cs 0); have := kd01 [92]; omega)) (by decide) (by decide) (by first | omega | (simp only [List.length_append, List.length_cons, List.length_nil]; omega)) hcap hlc hk8 hB) (lenOf pd__C_Ljava_lang_StringBuilder_ rfl) d5_53 rfl (nle rfl) (nle rfl) (nle rfl) (nle rfl) (allS (Or.inr ssb) (allS (Or.inr seb) all0)) (allS (mm 1 rfl) (allS (mm 0 rfl) all0)) (allS (mm 1 rfl) (allS (mm 0 rfl) all0)) rfl
        replace G := G'; clear G'
        obtain ⟨wp1, qp1, rfl, e1, cp1, hB1, hl1, hk1, hb1, rfl⟩ := Qp1
        replace G := G.val qp1
        have na1 : a ≠ e1 := ne_or nae hS.lt hb1; have nb1 : b ≠ e1 := ne_or nbe hS.ltb hb1; have se1 : h0.size ≤ e1 := hb1.elim (fun q => q ▸ seb) (fun r => Nat.le_trans sz1 r)
        replace hS := hS.keep Kp1 (ninS ne_a_sb (ninS nae nin0)) (ninS ne_b_sb (ninS nbe nin0))
        obtain ⟨l3, l4, k3, kky, G', Ey, Xy, Fcy, Fvy, Ay, ney⟩ := G.ldcS 58 (hw _ (mm 188 rfl)) (wS_of hw) (mm 1 rfl) (vs := [(.int (92 : Int32)), (.int (116 : Int32)), (.int (110 : Int32)), (.int (114 : Int32))]) (z := (4 : Int32)) (by decide) (by decide) rfl d5_56 16 (by decide) (by decide) (nle rfl) (nle rfl) rfl
        replace G := G'; clear G'
        replace hS := hS.ext Ey; replace hB1 := hB1.ext Ey; have hM : StrK Z k3 l3 l4 0 [92, 116, 110, 114] := ⟨Xy, Fcy, Fvy, kky, Ay⟩
        replace G := G.iload 60 d5_58 rfl rfl |>.top (y := (.int (Int32.ofNat j))) (congrArg Value.int ej)
        obtain ⟨vd, k_d, sod, G', Kd, Qd⟩ := G.callV 63 (hw _ (mm 120 rfl)) (hw _ (mm 121 rfl)) (nfSel (hw _ (mm 123 rfl))) (hw _ (mm 123 rfl)) (hw _ (mm 122 rfl)) (hw _ (mm 8 rfl)) (hw _ (mm 124 rfl)) hM.1 (by decide) [(.int (Int32.ofNat j))] [(.ref sb)] rfl (c_charK l Z a0 hw hEW n0 c1 hc1 S1 v2 hv2 S2 S3 S4 S5 l3 l4 0 j [92, 116, 110, 114] G.old (Or.inl rfl) hj (by decide) (by decide) (fun _ => by decide) hM) (lenOf pd__I_C rfl) d5_60 rfl (nle rfl) (nle rfl) (nle rfl) (nle rfl) all0 all0 all0 rfl
        replace G := G'; clear G'
        obtain ⟨wd, qd, rfl, ed, rfl⟩ := Qd
        replace G := G.val qd
        subst ed
        have hsm : [92, 116, 110, 114].getD j 0 < 256 := by rcases (show j = 0 ∨ j = 1 ∨ j = 2 ∨ j = 3 by omega) with rfl | rfl | rfl | rfl <;> decide
        have sz2 := G.sz
        obtain ⟨vp2, m2, sop2, G', Kp2, Qp2⟩ := G.callV 66 (hw _ (mm 170 rfl)) (hw _ (mm 171 rfl)) (nfSel (hw _ (mm 173 rfl))) (hw _ (mm 173 rfl)) (hw _ (mm 172 rfl)) (hw _ (mm 33 rfl)) (hw _ (mm 174 rfl)) hB1.1.1 (by decide) [(.int (Int32.ofNat ([92, 116, 110, 114].getD j 0)))] [] rfl (c_appSX l Z a0 hw hEW n0 c1 hc1 S1 v2 hv2 S2 S3 S4 S5 sb e1 cp1 (max (kd (O cs 0)) (kd [92])) ([92, 116, 110, 114].getD j 0) (O cs 0 ++ [92]) G.old (G.nw (Or.inr ssb)) (G.nw (Or.inr se1)) (by first | exact kd01 _ | (have := kd01 (O cs 0); have := kd01 [92]; omega)) hsm (by omega) (by first | omega | (simp only [List.length_append, List.length_cons, List.length_nil]; omega)) hk1 hl1 (fun q => kd0 (by rw [kd_app]; exact q)) hB1) (lenOf pd__C_Ljava_lang_StringBuilder_ rfl) d5_63 rfl (nle rfl) (nle rfl) (nle rfl) (nle rfl) (allS (Or.inr ssb) (allS (Or.inr se1) all0)) (allS (mm 2 rfl) (allS (mm 0 rfl) all0)) (allS (mm 2 rfl) (allS (mm 0 rfl) all0)) rfl
        replace G := G'; clear G'
        obtain ⟨wp2, qp2, rfl, e2, cp2, hB2, hl2, hk2, hb2, rfl⟩ := Qp2
        replace G := G.val qp2
        have na2 : a ≠ e2 := ne_or na1 hS.lt hb2; have nb2 : b ≠ e2 := ne_or nb1 hS.ltb hb2; have se2 : h0.size ≤ e2 := hb2.elim (fun q => q ▸ se1) (fun r => Nat.le_trans sz2 r)
        replace hS := hS.keep Kp2 (ninS ne_a_sb (ninS na1 nin0)) (ninS ne_b_sb (ninS nb1 nin0))
        rw [ee, show ([92, [92, 116, 110, 114].getD j 0] : List Nat) = [92] ++ [[92, 116, 110, 114].getD j 0] from rfl, ← List.append_assoc] at hos; rw [← kd_app, ← kd_app, ← hos] at hB2; rw [← hos] at hl2
        replace G := G.pop 67 d5_66 rfl rfl |>.iincV 70 #[.val (.ref a), .val (.ref sb), .val (.int (Int32.ofNat 1)), .val (.int (Int32.ofNat (cs.getD 0 0))), .val (.int (ixOf (cs.getD 0 0)))] (Int32.ofNat 1) d5_67 rfl (by decide) rfl rfl |>.goto 14 d5_70 (by decide) (by decide)
        exact t1 _ e2 cp2 _ _ (Or.inr ⟨_, rfl⟩) (Or.inr ⟨_, rfl⟩) (by omega) hS hB2 hl2 hk2 na2 nb2 se2 ((G.more (k := 8) (n := 272) (nle rfl) (nle rfl)).less (allS (mm 0 rfl) (allS (mm 3 rfl) all0)))
    · skip
      replace G := G.icmpT 73 d5_19 (XT.ii_ge_t (ofn_nlt (n := cs.length) (by omega) (by omega))) (by decide) (by decide) |>.aloadN 74 d5_73 rfl rfl rfl
      have eo : O cs 0 = cs.flatMap esc := by unfold O; rw [List.take_of_length_le (by omega)]
      rw [eo] at hB hlc hol
      have szt := G.sz
      obtain ⟨vt, k9, sot, G', Kt, Qt⟩ := G.callV 77 (hw _ (mm 60 rfl)) (hw _ (mm 61 rfl)) (nfSel (hw _ (mm 63 rfl))) (hw _ (mm 63 rfl)) (hw _ (mm 62 rfl)) (hw _ (mm 33 rfl)) (hw _ (mm 64 rfl)) hB.1.1 (by decide) [] [] rfl (c_toStrX l Z a0 hw hEW n0 c1 hc1 S1 v2 hv2 S2 S3 S4 S5 sb eb cap (kd (cs.flatMap esc)) (cs.flatMap esc) G.old (kd01 _) hlc hcap (by omega) hB) (lenOf pd___Ljava_lang_String_ rfl) d5_74 rfl (nle rfl) (nle rfl) (nle rfl) (nle rfl) all0 all0 all0 rfl
      replace G := G'; clear G'
      obtain ⟨wt, qt, r, rb, rfl, hR, g1, g2, rfl⟩ := Qt
      replace G := G.val qt
      exact G.retA hret rfl rfl hlk d5_77 [r] (allS (mm 1 rfl) all0) ⟨_, rfl, r, rb, rfl, hR, Nat.le_trans szt g1, Nat.le_trans szt g2, rfl⟩ (nle rfl) (nle rfl)
  exact t0 _ e0 cs.length _ _ (Or.inl rfl) (Or.inl rfl) (by omega) hS hB (by rw [show O cs 0 = [] from by simp [O]]; exact Nat.zero_le _) (by omega) ne_a_e0 ne_b_e0 se0 (G.less (allS (mm 0 rfl) (allS (mm 1 rfl) all0)))
theorem d1_0 : decode method_3_code 0 = .ok (.iload_n 0, 1) := by decide +kernel
theorem d1_1 : decode method_3_code 1 = .ok (.bipush 7, 2) := by decide +kernel
theorem d1_3 : decode method_3_code 3 = .ok (.iand, 1) := by decide +kernel
theorem d1_4 : decode method_3_code 4 = .ok (.istore_n 1, 1) := by decide +kernel
theorem d1_5 : decode method_3_code 5 = .ok (.iload_n 1, 1) := by decide +kernel
theorem d1_6 : decode method_3_code 6 = .ok (.ifCond .ne 6, 3) := by decide +kernel
theorem d1_9 : decode method_3_code 9 = .ok (.bipush 92, 2) := by decide +kernel
theorem d1_11 : decode method_3_code 11 = .ok (.ireturn, 1) := by decide +kernel
theorem d1_12 : decode method_3_code 12 = .ok (.iload_n 1, 1) := by decide +kernel
theorem d1_13 : decode method_3_code 13 = .ok (.iconst 1, 1) := by decide +kernel
theorem d1_14 : decode method_3_code 14 = .ok (.if_icmp .ne 6, 3) := by decide +kernel
theorem d1_17 : decode method_3_code 17 = .ok (.bipush 9, 2) := by decide +kernel
theorem d1_19 : decode method_3_code 19 = .ok (.ireturn, 1) := by decide +kernel
theorem d1_20 : decode method_3_code 20 = .ok (.iload_n 1, 1) := by decide +kernel
theorem d1_21 : decode method_3_code 21 = .ok (.iconst 2, 1) := by decide +kernel
theorem d1_22 : decode method_3_code 22 = .ok (.if_icmp .ne 6, 3) := by decide +kernel
theorem d1_25 : decode method_3_code 25 = .ok (.bipush 10, 2) := by decide +kernel
theorem d1_27 : decode method_3_code 27 = .ok (.ireturn, 1) := by decide +kernel
theorem d1_28 : decode method_3_code 28 = .ok (.iload_n 1, 1) := by decide +kernel
theorem d1_29 : decode method_3_code 29 = .ok (.iconst 3, 1) := by decide +kernel
theorem d1_30 : decode method_3_code 30 = .ok (.if_icmp .ne 6, 3) := by decide +kernel
theorem d1_33 : decode method_3_code 33 = .ok (.bipush 13, 2) := by decide +kernel
theorem d1_35 : decode method_3_code 35 = .ok (.ireturn, 1) := by decide +kernel
theorem d1_36 : decode method_3_code 36 = .ok (.iload_n 0, 1) := by decide +kernel
theorem d1_37 : decode method_3_code 37 = .ok (.iconst 3, 1) := by decide +kernel
theorem d1_38 : decode method_3_code 38 = .ok (.iushr, 1) := by decide +kernel
theorem d1_39 : decode method_3_code 39 = .ok (.i2c, 1) := by decide +kernel
theorem d1_40 : decode method_3_code 40 = .ok (.ireturn, 1) := by decide +kernel
theorem c_pick (l : Launch) (Z : State) (a0 : Array Value) (hw : ∀ d ∈ tables_1, d.before a0 Z = true) (hEW : EW Z a0 consts_1) (n0 : Nat) (c1 : Int32) (hc1 : ¬ c1 = 0) (S1 : Sta Z Z.heap "java/lang/String" "COMPACT_STRINGS" "Z" (.int c1)) (v2 : Value) (hv2 : v2.isRef = true) (S2 : Sta Z Z.heap "jdk/internal/util/Preconditions" "SIOOBE_FORMATTER" "Ljava/util/function/BiFunction;" v2) (S3 : Sta Z Z.heap "java/lang/StringUTF16" "$assertionsDisabled" "Z" (.int 1)) (S4 : Sta Z Z.heap "java/lang/StringUTF16" "HI_BYTE_SHIFT" "I" (.int 0)) (S5 : Sta Z Z.heap "java/lang/StringUTF16" "LO_BYTE_SHIFT" "I" (.int 8)) (p' : Int32) {h0 : Heap} (o1 : Old Z n0 h0)  :
    Con Z a0 l (⟨"com/example/unhurried_frontier/unhurriedfrontier/TsvFileEscapedPinLaw", "pick", "(I)C"⟩ : MethodName) method_3_code 2 (some .char) ({ frames := 0, cells := 0, slots := 0, locals := 0 } : Room) [] #[(.int p')] consts_1 h0 n0 [] [] (VV fun w h so => ∃ x, x < 65536 ∧ w = .int (Int32.ofNat x) ∧ h = h0 ∧ so = []) := by
  refine Con.body (plainFor_of_name pn_com_example_unhurried_frontier_unhurriedfrontier_TsvFileEscapedPinLaw) hEW o1 all0 #[.val (.int p'), .unset] (fun m => by first | (simp [entryFrame, mkF, argsToLocals, Value.category]; done) | rfl) ?_
  intro p e s m below meth c B hnm hret hlk G
  replace G := G.iloadN 1 d1_0 rfl rfl |>.bipush 3 (7 : Int32) d1_1 (by decide) rfl |>.iand 4 d1_3 rfl |>.istoreN 5 #[.val (.int p'), .val (.int (p' &&& (7 : Int32)))] d1_4 rfl rfl |>.iloadN 6 d1_5 rfl rfl
  rcases Decidable.em ((p' &&& 7) = 0) with e0 | e0
  · skip
    replace G := G.ifF 9 d1_6 (XT.i0_ne_f e0) rfl |>.bipush 11 (92 : Int32) d1_9 (by decide) rfl
    exact G.retN hret (Or.inr (Or.inr (Or.inl rfl))) hlk d1_11 [] all0 ⟨_, rfl, 92, by decide, congrArg Value.int (i2c_w (c := 92) (by decide)), rfl, rfl⟩ (nle rfl) (nle rfl)
  · skip
    replace G := G.ifT 12 d1_6 (XT.i0_ne_t e0) (by decide) (by decide) |>.iloadN 13 d1_12 rfl rfl |>.iconst 14 (1 : Int32) d1_13 rfl rfl
    rcases Decidable.em ((p' &&& 7) = 1) with e1 | e1
    · skip
      replace G := G.icmpF 17 d1_14 (XT.ii_ne_f e1) rfl |>.bipush 19 (9 : Int32) d1_17 (by decide) rfl
      exact G.retN hret (Or.inr (Or.inr (Or.inl rfl))) hlk d1_19 [] all0 ⟨_, rfl, 9, by decide, congrArg Value.int (i2c_w (c := 9) (by decide)), rfl, rfl⟩ (nle rfl) (nle rfl)
    · skip
      replace G := G.icmpT 20 d1_14 (XT.ii_ne_t e1) (by decide) (by decide) |>.iloadN 21 d1_20 rfl rfl |>.iconst 22 (2 : Int32) d1_21 rfl rfl
      rcases Decidable.em ((p' &&& 7) = 2) with e2 | e2
      · skip
        replace G := G.icmpF 25 d1_22 (XT.ii_ne_f e2) rfl |>.bipush 27 (10 : Int32) d1_25 (by decide) rfl
        exact G.retN hret (Or.inr (Or.inr (Or.inl rfl))) hlk d1_27 [] all0 ⟨_, rfl, 10, by decide, congrArg Value.int (i2c_w (c := 10) (by decide)), rfl, rfl⟩ (nle rfl) (nle rfl)
      · skip
        replace G := G.icmpT 28 d1_22 (XT.ii_ne_t e2) (by decide) (by decide) |>.iloadN 29 d1_28 rfl rfl |>.iconst 30 (3 : Int32) d1_29 rfl rfl
        rcases Decidable.em ((p' &&& 7) = 3) with e3 | e3
        · skip
          replace G := G.icmpF 33 d1_30 (XT.ii_ne_f e3) rfl |>.bipush 35 (13 : Int32) d1_33 (by decide) rfl
          exact G.retN hret (Or.inr (Or.inr (Or.inl rfl))) hlk d1_35 [] all0 ⟨_, rfl, 13, by decide, congrArg Value.int (i2c_w (c := 13) (by decide)), rfl, rfl⟩ (nle rfl) (nle rfl)
        · skip
          replace G := G.icmpT 36 d1_30 (XT.ii_ne_t e3) (by decide) (by decide) |>.iloadN 37 d1_36 rfl rfl |>.iconst 38 (3 : Int32) d1_37 rfl rfl |>.iushr 39 d1_38 rfl
          obtain ⟨x, hx, ex⟩ := i2c_ex (XT.ushr p' 3)
          replace G := G.i2c 40 d1_39 rfl |>.top (y := (.int (Int32.ofNat x))) (congrArg Value.int ex)
          exact G.retN hret (Or.inr (Or.inr (Or.inl rfl))) hlk d1_40 [] all0 ⟨_, rfl, x, hx, congrArg Value.int (i2c_w hx), rfl, rfl⟩ (nle rfl) (nle rfl)
theorem d43_0 : decode method_4_code 0 = .ok (.iload_n 2, 1) := by decide +kernel
theorem d43_1 : decode method_4_code 1 = .ok (.bipush 92, 2) := by decide +kernel
theorem d43_3 : decode method_4_code 3 = .ok (.if_icmp .ne 19, 3) := by decide +kernel
theorem d43_6 : decode method_4_code 6 = .ok (.aload_n 0, 1) := by decide +kernel
theorem d43_7 : decode method_4_code 7 = .ok (.iload_n 1, 1) := by decide +kernel
theorem d43_8 : decode method_4_code 8 = .ok (.bipush 92, 2) := by decide +kernel
theorem d43_10 : decode method_4_code 10 = .ok (.castore, 1) := by decide +kernel
theorem d43_11 : decode method_4_code 11 = .ok (.aload_n 0, 1) := by decide +kernel
theorem d43_12 : decode method_4_code 12 = .ok (.iload_n 1, 1) := by decide +kernel
theorem d43_13 : decode method_4_code 13 = .ok (.iconst 1, 1) := by decide +kernel
theorem d43_14 : decode method_4_code 14 = .ok (.iadd, 1) := by decide +kernel
theorem d43_15 : decode method_4_code 15 = .ok (.bipush 92, 2) := by decide +kernel
theorem d43_17 : decode method_4_code 17 = .ok (.castore, 1) := by decide +kernel
theorem d43_18 : decode method_4_code 18 = .ok (.iload_n 1, 1) := by decide +kernel
theorem d43_19 : decode method_4_code 19 = .ok (.iconst 2, 1) := by decide +kernel
theorem d43_20 : decode method_4_code 20 = .ok (.iadd, 1) := by decide +kernel
theorem d43_21 : decode method_4_code 21 = .ok (.ireturn, 1) := by decide +kernel
theorem d43_22 : decode method_4_code 22 = .ok (.iload_n 2, 1) := by decide +kernel
theorem d43_23 : decode method_4_code 23 = .ok (.bipush 9, 2) := by decide +kernel
theorem d43_25 : decode method_4_code 25 = .ok (.if_icmp .ne 19, 3) := by decide +kernel
theorem d43_28 : decode method_4_code 28 = .ok (.aload_n 0, 1) := by decide +kernel
theorem d43_29 : decode method_4_code 29 = .ok (.iload_n 1, 1) := by decide +kernel
theorem d43_30 : decode method_4_code 30 = .ok (.bipush 92, 2) := by decide +kernel
theorem d43_32 : decode method_4_code 32 = .ok (.castore, 1) := by decide +kernel
theorem d43_33 : decode method_4_code 33 = .ok (.aload_n 0, 1) := by decide +kernel
theorem d43_34 : decode method_4_code 34 = .ok (.iload_n 1, 1) := by decide +kernel
theorem d43_35 : decode method_4_code 35 = .ok (.iconst 1, 1) := by decide +kernel
theorem d43_36 : decode method_4_code 36 = .ok (.iadd, 1) := by decide +kernel
theorem d43_37 : decode method_4_code 37 = .ok (.bipush 116, 2) := by decide +kernel
theorem d43_39 : decode method_4_code 39 = .ok (.castore, 1) := by decide +kernel
theorem d43_40 : decode method_4_code 40 = .ok (.iload_n 1, 1) := by decide +kernel
theorem d43_41 : decode method_4_code 41 = .ok (.iconst 2, 1) := by decide +kernel
theorem d43_42 : decode method_4_code 42 = .ok (.iadd, 1) := by decide +kernel
theorem d43_43 : decode method_4_code 43 = .ok (.ireturn, 1) := by decide +kernel
theorem d43_44 : decode method_4_code 44 = .ok (.iload_n 2, 1) := by decide +kernel
theorem d43_45 : decode method_4_code 45 = .ok (.bipush 10, 2) := by decide +kernel
theorem d43_47 : decode method_4_code 47 = .ok (.if_icmp .ne 19, 3) := by decide +kernel
theorem d43_50 : decode method_4_code 50 = .ok (.aload_n 0, 1) := by decide +kernel
theorem d43_51 : decode method_4_code 51 = .ok (.iload_n 1, 1) := by decide +kernel
theorem d43_52 : decode method_4_code 52 = .ok (.bipush 92, 2) := by decide +kernel
theorem d43_54 : decode method_4_code 54 = .ok (.castore, 1) := by decide +kernel
theorem d43_55 : decode method_4_code 55 = .ok (.aload_n 0, 1) := by decide +kernel
theorem d43_56 : decode method_4_code 56 = .ok (.iload_n 1, 1) := by decide +kernel
theorem d43_57 : decode method_4_code 57 = .ok (.iconst 1, 1) := by decide +kernel
theorem d43_58 : decode method_4_code 58 = .ok (.iadd, 1) := by decide +kernel
theorem d43_59 : decode method_4_code 59 = .ok (.bipush 110, 2) := by decide +kernel
theorem d43_61 : decode method_4_code 61 = .ok (.castore, 1) := by decide +kernel
theorem d43_62 : decode method_4_code 62 = .ok (.iload_n 1, 1) := by decide +kernel
theorem d43_63 : decode method_4_code 63 = .ok (.iconst 2, 1) := by decide +kernel
theorem d43_64 : decode method_4_code 64 = .ok (.iadd, 1) := by decide +kernel
theorem d43_65 : decode method_4_code 65 = .ok (.ireturn, 1) := by decide +kernel
theorem d43_66 : decode method_4_code 66 = .ok (.iload_n 2, 1) := by decide +kernel
theorem d43_67 : decode method_4_code 67 = .ok (.bipush 13, 2) := by decide +kernel
theorem d43_69 : decode method_4_code 69 = .ok (.if_icmp .ne 19, 3) := by decide +kernel
theorem d43_72 : decode method_4_code 72 = .ok (.aload_n 0, 1) := by decide +kernel
theorem d43_73 : decode method_4_code 73 = .ok (.iload_n 1, 1) := by decide +kernel
theorem d43_74 : decode method_4_code 74 = .ok (.bipush 92, 2) := by decide +kernel
theorem d43_76 : decode method_4_code 76 = .ok (.castore, 1) := by decide +kernel
theorem d43_77 : decode method_4_code 77 = .ok (.aload_n 0, 1) := by decide +kernel
theorem d43_78 : decode method_4_code 78 = .ok (.iload_n 1, 1) := by decide +kernel
theorem d43_79 : decode method_4_code 79 = .ok (.iconst 1, 1) := by decide +kernel
theorem d43_80 : decode method_4_code 80 = .ok (.iadd, 1) := by decide +kernel
theorem d43_81 : decode method_4_code 81 = .ok (.bipush 114, 2) := by decide +kernel
theorem d43_83 : decode method_4_code 83 = .ok (.castore, 1) := by decide +kernel
theorem d43_84 : decode method_4_code 84 = .ok (.iload_n 1, 1) := by decide +kernel
theorem d43_85 : decode method_4_code 85 = .ok (.iconst 2, 1) := by decide +kernel
theorem d43_86 : decode method_4_code 86 = .ok (.iadd, 1) := by decide +kernel
theorem d43_87 : decode method_4_code 87 = .ok (.ireturn, 1) := by decide +kernel
theorem d43_88 : decode method_4_code 88 = .ok (.aload_n 0, 1) := by decide +kernel
theorem d43_89 : decode method_4_code 89 = .ok (.iload_n 1, 1) := by decide +kernel
theorem d43_90 : decode method_4_code 90 = .ok (.iload_n 2, 1) := by decide +kernel
theorem d43_91 : decode method_4_code 91 = .ok (.castore, 1) := by decide +kernel
theorem d43_92 : decode method_4_code 92 = .ok (.iload_n 1, 1) := by decide +kernel
theorem d43_93 : decode method_4_code 93 = .ok (.iconst 1, 1) := by decide +kernel
theorem d43_94 : decode method_4_code 94 = .ok (.iadd, 1) := by decide +kernel
theorem d43_95 : decode method_4_code 95 = .ok (.ireturn, 1) := by decide +kernel
theorem c_put (l : Launch) (Z : State) (a0 : Array Value) (hw : ∀ d ∈ tables_1, d.before a0 Z = true) (hEW : EW Z a0 consts_1) (n0 : Nat) (c1 : Int32) (hc1 : ¬ c1 = 0) (S1 : Sta Z Z.heap "java/lang/String" "COMPACT_STRINGS" "Z" (.int c1)) (v2 : Value) (hv2 : v2.isRef = true) (S2 : Sta Z Z.heap "jdk/internal/util/Preconditions" "SIOOBE_FORMATTER" "Ljava/util/function/BiFunction;" v2) (S3 : Sta Z Z.heap "java/lang/StringUTF16" "$assertionsDisabled" "Z" (.int 1)) (S4 : Sta Z Z.heap "java/lang/StringUTF16" "HI_BYTE_SHIFT" "I" (.int 0)) (S5 : Sta Z Z.heap "java/lang/StringUTF16" "LO_BYTE_SHIFT" "I" (.int 8)) (d : Addr) (kc : ClassId) (ds : List Nat) (x : Nat) {h0 : Heap} (o1 : Old Z n0 h0) (ge_d : n0 ≤ d) (hx : x < 65536) (hl : ds.length ≤ 6) (A : Arv Z h0 d kc .char (8 : Int32) (ds.map (fun c => Value.int (Int32.ofNat c))) (.int 0)) :
    Con Z a0 l (⟨"com/example/unhurried_frontier/unhurriedfrontier/TsvFileEscapedPinLaw", "put", "([CIC)I"⟩ : MethodName) method_4_code 3 (some .int) ({ frames := 0, cells := 0, slots := 0, locals := 0 } : Room) [] #[(.ref d), (.int (Int32.ofNat ds.length)), (.int (Int32.ofNat x))] consts_1 h0 n0 [d] [d] (VV fun w h so => w = .int (Int32.ofNat (ds ++ esc x).length) ∧ Arv Z h d kc .char (8 : Int32) ((ds ++ esc x).map (fun c => Value.int (Int32.ofNat c))) (.int 0) ∧ so = []) := by
  refine Con.body (plainFor_of_name pn_com_example_unhurried_frontier_unhurriedfrontier_TsvFileEscapedPinLaw) hEW o1 (allS ge_d all0) #[.val (.ref d), .val (.int (Int32.ofNat ds.length)), .val (.int (Int32.ofNat x))] (fun m => by first | (simp [entryFrame, mkF, argsToLocals, Value.category]; done) | rfl) ?_
  intro p e s m below meth c B hnm hret hlk G
  have hml : (ds.map (fun c => Value.int (Int32.ofNat c))).length = ds.length := List.length_map _
  replace G := G.iloadN 1 d43_0 rfl rfl |>.bipush 3 (92 : Int32) d43_1 (by decide) rfl
  rcases Decidable.em (x = 92) with e0 | e0
  · skip
    replace G := G.icmpF 6 d43_3 (XT.ii_ne_f (show Int32.ofNat x = 92 by rw [e0]; rfl)) rfl
    replace A := A.pad (vs' := ds.map (fun c => Value.int (Int32.ofNat c)) ++ [(.int 0), (.int 0)]) (pad_rep _ (.int 0) 2)
    replace G := G.aloadN 7 d43_6 rfl rfl rfl |>.iloadN 8 d43_7 rfl rfl |>.bipush 10 (92 : Int32) d43_8 (by decide) rfl
    obtain ⟨h1, G', As, Ks⟩ := G.castore 11 ds.length A ⟨ofn_nn (by omega), ofn_lt (n := 8) (by omega) (by decide)⟩ (ofn_nat (by omega)) (by rw [List.length_append, hml]; simp) (Or.inl (mm 0 rfl)) (mm 0 rfl) d43_10 rfl
    replace G := G'; clear G'
    replace G := G.aloadN 12 d43_11 rfl rfl rfl |>.iloadN 13 d43_12 rfl rfl |>.iconst 14 (1 : Int32) d43_13 rfl rfl |>.iadd 15 d43_14 rfl |>.top (y := (.int (Int32.ofNat (ds.length + 1)))) (congrArg Value.int (ofn_add ds.length 1)) |>.bipush 17 (92 : Int32) d43_15 (by decide) rfl
    obtain ⟨h2, G', At, Kt⟩ := G.castore 18 (ds.length + 1) As ⟨ofn_nn (by omega), ofn_lt (n := 8) (by omega) (by decide)⟩ (ofn_nat (by omega)) (by rw [List.length_set, List.length_append, hml]; simp) (Or.inl (mm 0 rfl)) (mm 0 rfl) d43_17 rfl
    replace G := G'; clear G'
    rw [put2 _ _ _ _ hml] at At
    replace G := G.iloadN 19 d43_18 rfl rfl |>.iconst 20 (2 : Int32) d43_19 rfl rfl |>.iadd 21 d43_20 rfl |>.top (y := (.int (Int32.ofNat (ds.length + 2)))) (congrArg Value.int (ofn_add ds.length 2))
    have ee : esc x = [92, 92] := by unfold esc; rw [if_pos e0]
    exact G.retI hret hlk d43_21 [] all0 ⟨_, rfl, by rw [ee, List.length_append]; rfl, by rw [ee, List.map_append]; exact At, rfl⟩ (nle rfl) (nle rfl)
  · skip
    replace G := G.icmpT 22 d43_3 (XT.ii_ne_t (ofn_ne (n := 92) e0 (by omega) (by decide))) (by decide) (by decide) |>.iloadN 23 d43_22 rfl rfl |>.bipush 25 (9 : Int32) d43_23 (by decide) rfl
    rcases Decidable.em (x = 9) with e1 | e1
    · skip
      replace G := G.icmpF 28 d43_25 (XT.ii_ne_f (show Int32.ofNat x = 9 by rw [e1]; rfl)) rfl
      replace A := A.pad (vs' := ds.map (fun c => Value.int (Int32.ofNat c)) ++ [(.int 0), (.int 0)]) (pad_rep _ (.int 0) 2)
      replace G := G.aloadN 29 d43_28 rfl rfl rfl |>.iloadN 30 d43_29 rfl rfl |>.bipush 32 (92 : Int32) d43_30 (by decide) rfl
      obtain ⟨h1, G', As, Ks⟩ := G.castore 33 ds.length A ⟨ofn_nn (by omega), ofn_lt (n := 8) (by omega) (by decide)⟩ (ofn_nat (by omega)) (by rw [List.length_append, hml]; simp) (Or.inl (mm 0 rfl)) (mm 0 rfl) d43_32 rfl
      replace G := G'; clear G'
      replace G := G.aloadN 34 d43_33 rfl rfl rfl |>.iloadN 35 d43_34 rfl rfl |>.iconst 36 (1 : Int32) d43_35 rfl rfl |>.iadd 37 d43_36 rfl |>.top (y := (.int (Int32.ofNat (ds.length + 1)))) (congrArg Value.int (ofn_add ds.length 1)) |>.bipush 39 (116 : Int32) d43_37 (by decide) rfl
      obtain ⟨h2, G', At, Kt⟩ := G.castore 40 (ds.length + 1) As ⟨ofn_nn (by omega), ofn_lt (n := 8) (by omega) (by decide)⟩ (ofn_nat (by omega)) (by rw [List.length_set, List.length_append, hml]; simp) (Or.inl (mm 0 rfl)) (mm 0 rfl) d43_39 rfl
      replace G := G'; clear G'
      rw [put2 _ _ _ _ hml] at At
      replace G := G.iloadN 41 d43_40 rfl rfl |>.iconst 42 (2 : Int32) d43_41 rfl rfl |>.iadd 43 d43_42 rfl |>.top (y := (.int (Int32.ofNat (ds.length + 2)))) (congrArg Value.int (ofn_add ds.length 2))
      have ee : esc x = [92, 116] := by unfold esc; rw [if_neg e0, if_pos e1]
      exact G.retI hret hlk d43_43 [] all0 ⟨_, rfl, by rw [ee, List.length_append]; rfl, by rw [ee, List.map_append]; exact At, rfl⟩ (nle rfl) (nle rfl)
    · skip
      replace G := G.icmpT 44 d43_25 (XT.ii_ne_t (ofn_ne (n := 9) e1 (by omega) (by decide))) (by decide) (by decide) |>.iloadN 45 d43_44 rfl rfl |>.bipush 47 (10 : Int32) d43_45 (by decide) rfl
      rcases Decidable.em (x = 10) with e2 | e2
      · skip
        replace G := G.icmpF 50 d43_47 (XT.ii_ne_f (show Int32.ofNat x = 10 by rw [e2]; rfl)) rfl
        replace A := A.pad (vs' := ds.map (fun c => Value.int (Int32.ofNat c)) ++ [(.int 0), (.int 0)]) (pad_rep _ (.int 0) 2)
        replace G := G.aloadN 51 d43_50 rfl rfl rfl |>.iloadN 52 d43_51 rfl rfl |>.bipush 54 (92 : Int32) d43_52 (by decide) rfl
        obtain ⟨h1, G', As, Ks⟩ := G.castore 55 ds.length A ⟨ofn_nn (by omega), ofn_lt (n := 8) (by omega) (by decide)⟩ (ofn_nat (by omega)) (by rw [List.length_append, hml]; simp) (Or.inl (mm 0 rfl)) (mm 0 rfl) d43_54 rfl
        replace G := G'; clear G'
        replace G := G.aloadN 56 d43_55 rfl rfl rfl |>.iloadN 57 d43_56 rfl rfl |>.iconst 58 (1 : Int32) d43_57 rfl rfl |>.iadd 59 d43_58 rfl |>.top (y := (.int (Int32.ofNat (ds.length + 1)))) (congrArg Value.int (ofn_add ds.length 1)) |>.bipush 61 (110 : Int32) d43_59 (by decide) rfl
        obtain ⟨h2, G', At, Kt⟩ := G.castore 62 (ds.length + 1) As ⟨ofn_nn (by omega), ofn_lt (n := 8) (by omega) (by decide)⟩ (ofn_nat (by omega)) (by rw [List.length_set, List.length_append, hml]; simp) (Or.inl (mm 0 rfl)) (mm 0 rfl) d43_61 rfl
        replace G := G'; clear G'
        rw [put2 _ _ _ _ hml] at At
        replace G := G.iloadN 63 d43_62 rfl rfl |>.iconst 64 (2 : Int32) d43_63 rfl rfl |>.iadd 65 d43_64 rfl |>.top (y := (.int (Int32.ofNat (ds.length + 2)))) (congrArg Value.int (ofn_add ds.length 2))
        have ee : esc x = [92, 110] := by unfold esc; rw [if_neg e0, if_neg e1, if_pos e2]
        exact G.retI hret hlk d43_65 [] all0 ⟨_, rfl, by rw [ee, List.length_append]; rfl, by rw [ee, List.map_append]; exact At, rfl⟩ (nle rfl) (nle rfl)
      · skip
        replace G := G.icmpT 66 d43_47 (XT.ii_ne_t (ofn_ne (n := 10) e2 (by omega) (by decide))) (by decide) (by decide) |>.iloadN 67 d43_66 rfl rfl |>.bipush 69 (13 : Int32) d43_67 (by decide) rfl
        rcases Decidable.em (x = 13) with e3 | e3
        · skip
          replace G := G.icmpF 72 d43_69 (XT.ii_ne_f (show Int32.ofNat x = 13 by rw [e3]; rfl)) rfl
          replace A := A.pad (vs' := ds.map (fun c => Value.int (Int32.ofNat c)) ++ [(.int 0), (.int 0)]) (pad_rep _ (.int 0) 2)
          replace G := G.aloadN 73 d43_72 rfl rfl rfl |>.iloadN 74 d43_73 rfl rfl |>.bipush 76 (92 : Int32) d43_74 (by decide) rfl
          obtain ⟨h1, G', As, Ks⟩ := G.castore 77 ds.length A ⟨ofn_nn (by omega), ofn_lt (n := 8) (by omega) (by decide)⟩ (ofn_nat (by omega)) (by rw [List.length_append, hml]; simp) (Or.inl (mm 0 rfl)) (mm 0 rfl) d43_76 rfl
          replace G := G'; clear G'
          replace G := G.aloadN 78 d43_77 rfl rfl rfl |>.iloadN 79 d43_78 rfl rfl |>.iconst 80 (1 : Int32) d43_79 rfl rfl |>.iadd 81 d43_80 rfl |>.top (y := (.int (Int32.ofNat (ds.length + 1)))) (congrArg Value.int (ofn_add ds.length 1)) |>.bipush 83 (114 : Int32) d43_81 (by decide) rfl
          obtain ⟨h2, G', At, Kt⟩ := G.castore 84 (ds.length + 1) As ⟨ofn_nn (by omega), ofn_lt (n := 8) (by omega) (by decide)⟩ (ofn_nat (by omega)) (by rw [List.length_set, List.length_append, hml]; simp) (Or.inl (mm 0 rfl)) (mm 0 rfl) d43_83 rfl
          replace G := G'; clear G'
          rw [put2 _ _ _ _ hml] at At
          replace G := G.iloadN 85 d43_84 rfl rfl |>.iconst 86 (2 : Int32) d43_85 rfl rfl |>.iadd 87 d43_86 rfl |>.top (y := (.int (Int32.ofNat (ds.length + 2)))) (congrArg Value.int (ofn_add ds.length 2))
          have ee : esc x = [92, 114] := by unfold esc; rw [if_neg e0, if_neg e1, if_neg e2, if_pos e3]
          exact G.retI hret hlk d43_87 [] all0 ⟨_, rfl, by rw [ee, List.length_append]; rfl, by rw [ee, List.map_append]; exact At, rfl⟩ (nle rfl) (nle rfl)
        · skip
          replace G := G.icmpT 88 d43_69 (XT.ii_ne_t (ofn_ne (n := 13) e3 (by omega) (by decide))) (by decide) (by decide)
          replace A := A.pad (vs' := ds.map (fun c => Value.int (Int32.ofNat c)) ++ [(.int 0)]) (pad_rep _ (.int 0) 1)
          replace G := G.aloadN 89 d43_88 rfl rfl rfl |>.iloadN 90 d43_89 rfl rfl |>.iloadN 91 d43_90 rfl rfl
          obtain ⟨h1, G', As, Ks⟩ := G.castore 92 ds.length A ⟨ofn_nn (by omega), ofn_lt (n := 8) (by omega) (by decide)⟩ (ofn_nat (by omega)) (by rw [List.length_append, hml]; simp) (Or.inl (mm 0 rfl)) (mm 0 rfl) d43_91 rfl
          replace G := G'; clear G'
          rw [put1 _ _ _ hml, show nar FieldType.char (Int32.ofNat x) = Int32.ofNat x from i2c_w hx] at As
          replace G := G.iloadN 93 d43_92 rfl rfl |>.iconst 94 (1 : Int32) d43_93 rfl rfl |>.iadd 95 d43_94 rfl |>.top (y := (.int (Int32.ofNat (ds.length + 1)))) (congrArg Value.int (ofn_add ds.length 1))
          have ee : esc x = [x] := by unfold esc; rw [if_neg e0, if_neg e1, if_neg e2, if_neg e3]
          exact G.retI hret hlk d43_95 [] all0 ⟨_, rfl, by rw [ee, List.length_append]; rfl, by rw [ee, List.map_append]; exact As, rfl⟩ (nle rfl) (nle rfl)
theorem d18_0 : decode method_5_code 0 = .ok (.iload_n 3, 1) := by decide +kernel
theorem d18_1 : decode method_5_code 1 = .ok (.iload_n 2, 1) := by decide +kernel
theorem d18_2 : decode method_5_code 2 = .ok (.if_icmp .ge 14, 3) := by decide +kernel
theorem d18_5 : decode method_5_code 5 = .ok (.aload_n 0, 1) := by decide +kernel
theorem d18_6 : decode method_5_code 6 = .ok (.iload_n 3, 1) := by decide +kernel
theorem d18_7 : decode method_5_code 7 = .ok (.invokevirtual 37, 3) := by decide +kernel
theorem d18_10 : decode method_5_code 10 = .ok (.aload_n 1, 1) := by decide +kernel
theorem d18_11 : decode method_5_code 11 = .ok (.iload_n 3, 1) := by decide +kernel
theorem d18_12 : decode method_5_code 12 = .ok (.caload, 1) := by decide +kernel
theorem d18_13 : decode method_5_code 13 = .ok (.if_icmp .ne 7, 3) := by decide +kernel
theorem d18_16 : decode method_5_code 16 = .ok (.iconst 1, 1) := by decide +kernel
theorem d18_17 : decode method_5_code 17 = .ok (.goto 4, 3) := by decide +kernel
theorem d18_20 : decode method_5_code 20 = .ok (.iconst 0, 1) := by decide +kernel
theorem d18_21 : decode method_5_code 21 = .ok (.ireturn, 1) := by decide +kernel
theorem c_same (l : Launch) (Z : State) (a0 : Array Value) (hw : ∀ d ∈ tables_1, d.before a0 Z = true) (hEW : EW Z a0 consts_1) (n0 : Nat) (c1 : Int32) (hc1 : ¬ c1 = 0) (S1 : Sta Z Z.heap "java/lang/String" "COMPACT_STRINGS" "Z" (.int c1)) (v2 : Value) (hv2 : v2.isRef = true) (S2 : Sta Z Z.heap "jdk/internal/util/Preconditions" "SIOOBE_FORMATTER" "Ljava/util/function/BiFunction;" v2) (S3 : Sta Z Z.heap "java/lang/StringUTF16" "$assertionsDisabled" "Z" (.int 1)) (S4 : Sta Z Z.heap "java/lang/StringUTF16" "HI_BYTE_SHIFT" "I" (.int 0)) (S5 : Sta Z Z.heap "java/lang/StringUTF16" "LO_BYTE_SHIFT" "I" (.int 8)) (a b d : Addr) (kc : ClassId) (i : Nat) (cs : List Nat) {h0 : Heap} (o1 : Old Z n0 h0) (hn : cs.length ≤ 8) (h8 : i < 8) (hc : ∀ c ∈ cs, c < 65536) (hS : StrK Z h0 a b (kd cs) cs) (A : Arv Z h0 d kc .char (8 : Int32) (cs.map (fun c => Value.int (Int32.ofNat c))) (.int 0)) :
    Con Z a0 l (⟨"com/example/unhurried_frontier/unhurriedfrontier/TsvFileEscapedPinLaw", "same", "(Ljava/lang/String;[CII)Z"⟩ : MethodName) method_5_code 4 (some .boolean) ({ frames := 5, cells := 0, slots := 0, locals := 66 } : Room) [] #[(.ref a), (.ref d), (.int (Int32.ofNat cs.length)), (.int (Int32.ofNat i))] consts_1 h0 n0 [] [] (VV fun w h so => w = .int 1 ∧ h = h0 ∧ so = []) := by
  refine Con.body (plainFor_of_name pn_com_example_unhurried_frontier_unhurriedfrontier_TsvFileEscapedPinLaw) hEW o1 all0 #[.val (.ref a), .val (.ref d), .val (.int (Int32.ofNat cs.length)), .val (.int (Int32.ofNat i))] (fun m => by first | (simp [entryFrame, mkF, argsToLocals, Value.category]; done) | rfl) ?_
  intro p e s m below meth c B hnm hret hlk G
  replace G := G.iloadN 1 d18_0 rfl rfl |>.iloadN 2 d18_1 rfl rfl
  rcases Nat.lt_or_ge i cs.length with hi | hi
  · skip
    replace G := G.icmpF 5 d18_2 (XT.ii_ge_f (ofn_lt hi (by omega))) rfl |>.aloadN 6 d18_5 rfl rfl rfl |>.iloadN 7 d18_6 rfl rfl
    obtain ⟨vc, h_c, soc, G', Kc, Qc⟩ := G.callV 10 (hw _ (mm 218 rfl)) (hw _ (mm 121 rfl)) (nfSel (hw _ (mm 123 rfl))) (hw _ (mm 123 rfl)) (hw _ (mm 122 rfl)) (hw _ (mm 8 rfl)) (hw _ (mm 124 rfl)) hS.1 (by decide) [(.int (Int32.ofNat i))] [] rfl (c_charK l Z a0 hw hEW n0 c1 hc1 S1 v2 hv2 S2 S3 S4 S5 a b (kd cs) i cs G.old (kd01 cs) hi (by omega) hc (fun q => kd0 q) hS) (lenOf pd__I_C rfl) d18_7 rfl (nle rfl) (nle rfl) (nle rfl) (nle rfl) all0 all0 all0 rfl
    replace G := G'; clear G'
    obtain ⟨wc, qc, rfl, ec, rfl⟩ := Qc
    replace G := G.val qc
    subst ec
    replace G := G.aloadN 11 d18_10 rfl rfl rfl |>.iloadN 12 d18_11 rfl rfl |>.caload 13 (v := (.int (Int32.ofNat (cs.getD i 0)))) A ⟨ofn_nn (by omega), ofn_lt (n := 8) (by omega) (by decide)⟩ (by rw [ofn_nat (by omega)]; exact getD_mapN cs i hi) d18_12 rfl |>.icmpF 16 d18_13 (XT.ii_ne_f rfl) rfl |>.iconst 17 (1 : Int32) d18_16 rfl rfl |>.goto 21 d18_17 (by decide) (by decide)
    exact G.retN hret (Or.inl rfl) hlk d18_21 [] all0 ⟨_, rfl, rfl, rfl, rfl⟩ (nle rfl) (nle rfl)
  · skip
    replace G := G.icmpT 16 d18_2 (XT.ii_ge_t (ofn_nlt hi (by omega))) (by decide) (by decide) |>.iconst 17 (1 : Int32) d18_16 rfl rfl |>.goto 21 d18_17 (by decide) (by decide)
    exact G.retN hret (Or.inl rfl) hlk d18_21 [] all0 ⟨_, rfl, rfl, rfl, rfl⟩ (nle rfl) (nle rfl)
theorem c_law (l : Launch) (Z : State) (a0 : Array Value) (hw : ∀ d ∈ tables_1, d.before a0 Z = true) (hEW : EW Z a0 consts_1) (n0 : Nat) (c1 : Int32) (hc1 : ¬ c1 = 0) (S1 : Sta Z Z.heap "java/lang/String" "COMPACT_STRINGS" "Z" (.int c1)) (v2 : Value) (hv2 : v2.isRef = true) (S2 : Sta Z Z.heap "jdk/internal/util/Preconditions" "SIOOBE_FORMATTER" "Ljava/util/function/BiFunction;" v2) (S3 : Sta Z Z.heap "java/lang/StringUTF16" "$assertionsDisabled" "Z" (.int 1)) (S4 : Sta Z Z.heap "java/lang/StringUTF16" "HI_BYTE_SHIFT" "I" (.int 0)) (S5 : Sta Z Z.heap "java/lang/StringUTF16" "LO_BYTE_SHIFT" "I" (.int 8)) (tws : List Jvm.Cond) (i0 i1 i2 i3 i4 : Int32) {h0 : Heap} (o1 : Old Z n0 h0)  :
    Con Z a0 l (⟨"com/example/unhurried_frontier/unhurriedfrontier/TsvFileEscapedPinLaw", "law", "(IIIII)Z"⟩ : MethodName) code 14 (some .boolean) room_1 tws #[(.int i0), (.int i1), (.int i2), (.int i3), (.int i4)] consts_1 h0 n0 [] [] (VV fun w h so => w = .int 1 ∧ so = []) := by
  refine Con.body (plainFor_of_name pn_com_example_unhurried_frontier_unhurriedfrontier_TsvFileEscapedPinLaw) hEW o1 all0 #[.val (.int i0), .val (.int i1), .val (.int i2), .val (.int i3), .val (.int i4), .unset, .unset, .unset, .unset, .unset, .unset, .unset, .unset, .unset] (fun m => by first | (simp [entryFrame, mkF, argsToLocals, Value.category]; done) | rfl) ?_
  intro p e s m below meth c B hnm hret hlk G
  replace G := G.iloadN 1 at_0 rfl rfl |>.ldcI 3 (hw _ (mm 0 rfl)) at_1 rfl |>.iand 4 at_3 rfl |>.iconst 5 (5 : Int32) at_4 rfl rfl |>.irem 6 at_5 (by decide) rfl
  obtain ⟨n, hn, en⟩ := m5 i0
  replace G := G.top (y := (.int (Int32.ofNat n))) (congrArg Value.int en) |>.istore 8 #[.val (.int i0), .val (.int i1), .val (.int i2), .val (.int i3), .val (.int i4), .val (.int (Int32.ofNat n)), .unset, .unset, .unset, .unset, .unset, .unset, .unset, .unset] at_6 rfl rfl |>.iloadN 9 at_8 rfl rfl
  obtain ⟨vv0, k_0, sov0, G', Kv0, Qv0⟩ := G.callS 12 (hw _ (mm 1 rfl)) (hw _ (mm 2 rfl)) (hw _ (mm 3 rfl)) (hw _ (mm 4 rfl)) (by decide) [(.int i1)] [] rfl (c_pick l Z a0 hw hEW n0 c1 hc1 S1 v2 hv2 S2 S3 S4 S5 i1 G.old ) (lenOf pd__I_C rfl) at_9 rfl (nle rfl) (nle rfl) (nle rfl) (nle rfl) all0 all0 all0 rfl
  replace G := G'; clear G'
  obtain ⟨wv0, qv0, x0, hx0, rfl, e0, rfl⟩ := Qv0
  replace G := G.val qv0
  subst e0
  replace G := G.istore 14 #[.val (.int i0), .val (.int i1), .val (.int i2), .val (.int i3), .val (.int i4), .val (.int (Int32.ofNat n)), .val (.int (Int32.ofNat x0)), .unset, .unset, .unset, .unset, .unset, .unset, .unset] at_12 rfl rfl |>.iloadN 15 at_14 rfl rfl
  obtain ⟨vv1, k_1, sov1, G', Kv1, Qv1⟩ := G.callS 18 (hw _ (mm 1 rfl)) (hw _ (mm 2 rfl)) (hw _ (mm 3 rfl)) (hw _ (mm 4 rfl)) (by decide) [(.int i2)] [] rfl (c_pick l Z a0 hw hEW n0 c1 hc1 S1 v2 hv2 S2 S3 S4 S5 i2 G.old ) (lenOf pd__I_C rfl) at_15 rfl (nle rfl) (nle rfl) (nle rfl) (nle rfl) all0 all0 all0 rfl
  replace G := G'; clear G'
  obtain ⟨wv1, qv1, x1, hx1, rfl, e1, rfl⟩ := Qv1
  replace G := G.val qv1
  subst e1
  replace G := G.istore 20 #[.val (.int i0), .val (.int i1), .val (.int i2), .val (.int i3), .val (.int i4), .val (.int (Int32.ofNat n)), .val (.int (Int32.ofNat x0)), .val (.int (Int32.ofNat x1)), .unset, .unset, .unset, .unset, .unset, .unset] at_18 rfl rfl |>.iloadN 21 at_20 rfl rfl
  obtain ⟨vv2, k_2, sov2, G', Kv2, Qv2⟩ := G.callS 24 (hw _ (mm 1 rfl)) (hw _ (mm 2 rfl)) (hw _ (mm 3 rfl)) (hw _ (mm 4 rfl)) (by decide) [(.int i3)] [] rfl (c_pick l Z a0 hw hEW n0 c1 hc1 S1 v2 hv2 S2 S3 S4 S5 i3 G.old ) (lenOf pd__I_C rfl) at_21 rfl (nle rfl) (nle rfl) (nle rfl) (nle rfl) all0 all0 all0 rfl
  replace G := G'; clear G'
  obtain ⟨wv2, qv2, x2, hx2, rfl, e2, rfl⟩ := Qv2
  replace G := G.val qv2
  subst e2
  replace G := G.istore 26 #[.val (.int i0), .val (.int i1), .val (.int i2), .val (.int i3), .val (.int i4), .val (.int (Int32.ofNat n)), .val (.int (Int32.ofNat x0)), .val (.int (Int32.ofNat x1)), .val (.int (Int32.ofNat x2)), .unset, .unset, .unset, .unset, .unset] at_24 rfl rfl |>.iload 28 at_26 rfl rfl
  obtain ⟨vv3, k_3, sov3, G', Kv3, Qv3⟩ := G.callS 31 (hw _ (mm 1 rfl)) (hw _ (mm 2 rfl)) (hw _ (mm 3 rfl)) (hw _ (mm 4 rfl)) (by decide) [(.int i4)] [] rfl (c_pick l Z a0 hw hEW n0 c1 hc1 S1 v2 hv2 S2 S3 S4 S5 i4 G.old ) (lenOf pd__I_C rfl) at_28 rfl (nle rfl) (nle rfl) (nle rfl) (nle rfl) all0 all0 all0 rfl
  replace G := G'; clear G'
  obtain ⟨wv3, qv3, x3, hx3, rfl, e3, rfl⟩ := Qv3
  replace G := G.val qv3
  subst e3
  replace G := G.istore 33 #[.val (.int i0), .val (.int i1), .val (.int i2), .val (.int i3), .val (.int i4), .val (.int (Int32.ofNat n)), .val (.int (Int32.ofNat x0)), .val (.int (Int32.ofNat x1)), .val (.int (Int32.ofNat x2)), .val (.int (Int32.ofNat x3)), .unset, .unset, .unset, .unset] at_31 rfl rfl
  have main : ∀ (h : Heap) (ia : Addr) (kia : ClassId) (cs : List Nat), cs.length ≤ 4 → (∀ c ∈ cs, c < 65536) → (∀ j, j < cs.length → cs.getD j 0 = [x0, x1, x2, x3].getD j 0) → Arv Z h ia kia .char (Int32.ofNat cs.length) (cs.map (fun c => Value.int (Int32.ofNat c))) (.int 0) → Wl Z a0 "com/example/unhurried_frontier/unhurriedfrontier/TsvFileEscapedPinLaw" p l e room_1 s m #[(.int i0), (.int i1), (.int i2), (.int i3), (.int i4)] below meth c code 14 B consts_1 k_3 n0 [] [ia] h 1 4 143 #[.val (.int i0), .val (.int i1), .val (.int i2), .val (.int i3), .val (.int i4), .val (.int (Int32.ofNat cs.length)), .val (.int (Int32.ofNat x0)), .val (.int (Int32.ofNat x1)), .val (.int (Int32.ofNat x2)), .val (.int (Int32.ofNat x3)), .val (.ref ia), .unset, .unset, .unset] [] → Fin Z consts_1 p e below B s k_3 n0 [] room_1.cells room_1.slots (VV fun w h so => w = .int 1 ∧ so = []) := by
    intro h ia kia cs hn4 hc hg hI G
    replace G := G.bipush 145 (8 : Int32) at_143 (by decide) rfl
    obtain ⟨ea, g1, kea, G', gea, sea, Eea, Aea⟩ := G.newarray 147 (hw _ (mm 5 rfl)) at_145 (by decide) 8 (nle rfl) (by decide) rfl (nle rfl) (nle rfl)
    replace G := G'; clear G'
    have ne_ia_ea : ia ≠ ea := ne_new gea hI.lt
    replace hI := hI.ext Eea
    have hE : Arv Z g1 ea kea .char (8 : Int32) [] (.int 0) := Aea
    replace G := G.astore 149 #[.val (.int i0), .val (.int i1), .val (.int i2), .val (.int i3), .val (.int i4), .val (.int (Int32.ofNat cs.length)), .val (.int (Int32.ofNat x0)), .val (.int (Int32.ofNat x1)), .val (.int (Int32.ofNat x2)), .val (.int (Int32.ofNat x3)), .val (.ref ia), .val (.ref ea), .unset, .unset] at_147 rfl rfl rfl
    obtain ⟨sa, g2, G', gsa, ssa, Esa, Xsa, Dsa, Usa⟩ := G.new 152 (hw _ (mm 6 rfl)) (hw _ (mm 7 rfl)) (hw _ (mm 8 rfl)) at_149 rfl (nle rfl) (nle rfl)
    replace G := G'; clear G'
    have ne_ia_sa : ia ≠ sa := ne_new gsa hI.lt; have ne_ea_sa : ea ≠ sa := ne_new gsa hE.lt
    replace hI := hI.ext Esa; replace hE := hE.ext Esa
    have Fv := Dsa (Or.inr (hw _ (mm 21 rfl))) (ty := .array .byte) (by decide); have Fc := Dsa (Or.inr (hw _ (mm 22 rfl))) (ty := .byte) (by decide)
    replace G := G.dup 153 at_152 rfl rfl |>.aload 155 at_153 rfl rfl rfl
    obtain ⟨vc, g3, soc, G', Kc, Qc⟩ := G.callI 158 rfl rfl (hw _ (mm 9 rfl)) (hw _ (mm 10 rfl)) (hw _ (mm 8 rfl)) (hw _ (mm 11 rfl)) (by decide) [(.ref ia)] [(.ref sa)] rfl (c_strK l Z a0 hw hEW n0 c1 hc1 S1 v2 hv2 S2 S3 S4 S5 sa ia kia cs G.old (G.nw (Or.inr ssa)) Xsa Fv Fc (by omega) hc hI) (lenOf pd___C_V rfl) at_155 rfl (nle rfl) (nle rfl) (nle rfl) (nle rfl) (allS (Or.inr ssa) all0) (allS (mm 0 rfl) all0) (allS (mm 0 rfl) all0) rfl
    replace G := G'; clear G'
    obtain ⟨qc, sb, hT, -, rfl⟩ := Qc
    replace G := G.nov qc
    replace hE := hE.keep Kc (ninS ne_ea_sa nin0)
    obtain ⟨vx, g4, sox, G', Kx, Qx⟩ := G.callS 161 (hw _ (mm 27 rfl)) (hw _ (mm 28 rfl)) (hw _ (mm 29 rfl)) (hw _ (mm 30 rfl)) (by decide) [(.ref sa)] [] rfl (c_esc l Z a0 hw hEW n0 c1 hc1 S1 v2 hv2 S2 S3 S4 S5 sa sb cs G.old hn4 hc hT) (lenOf pd__Ljava_lang_String__Ljava_lang_String_ rfl) at_158 rfl (nle rfl) (nle rfl) (nle rfl) (nle rfl) all0 all0 all0 rfl
    replace G := G'; clear G'
    obtain ⟨wx, qx, r, rb, rfl, hR, sr, srb, rfl⟩ := Qx
    replace G := G.val qx
    have ne_ea_r : ea ≠ r := (ne_ge hE.lt sr).symm
    have ne_ea_rb : ea ≠ rb := (ne_ge hE.lt srb).symm
    replace hE := hE.keep Kx nin0
    replace G := G.astore 163 #[.val (.int i0), .val (.int i1), .val (.int i2), .val (.int i3), .val (.int i4), .val (.int (Int32.ofNat cs.length)), .val (.int (Int32.ofNat x0)), .val (.int (Int32.ofNat x1)), .val (.int (Int32.ofNat x2)), .val (.int (Int32.ofNat x3)), .val (.ref ia), .val (.ref ea), .val (.ref r), .unset] at_161 rfl rfl rfl |>.iconst 164 (0 : Int32) at_163 rfl rfl |>.istore 166 #[.val (.int i0), .val (.int i1), .val (.int i2), .val (.int i3), .val (.int i4), .val (.int (Int32.ofNat cs.length)), .val (.int (Int32.ofNat x0)), .val (.int (Int32.ofNat x1)), .val (.int (Int32.ofNat x2)), .val (.int (Int32.ofNat x3)), .val (.ref ia), .val (.ref ea), .val (.ref r), .val (.int (0 : Int32))] at_164 rfl rfl
    have t4 : ∀ h : Heap, StrK Z h r rb (kd (cs.flatMap esc)) (cs.flatMap esc) → Arv Z h ea kea .char (8 : Int32) ((O cs 4).map (fun c => Value.int (Int32.ofNat c))) (.int 0) → Wl Z a0 "com/example/unhurried_frontier/unhurriedfrontier/TsvFileEscapedPinLaw" p l e room_1 s m #[(.int i0), (.int i1), (.int i2), (.int i3), (.int i4)] below meth c code 14 B consts_1 k_3 n0 [] [r, sa, ea, ia] h 35 1156 233 #[.val (.int i0), .val (.int i1), .val (.int i2), .val (.int i3), .val (.int i4), .val (.int (Int32.ofNat cs.length)), .val (.int (Int32.ofNat x0)), .val (.int (Int32.ofNat x1)), .val (.int (Int32.ofNat x2)), .val (.int (Int32.ofNat x3)), .val (.ref ia), .val (.ref ea), .val (.ref r), .val (.int (Int32.ofNat (O cs 4).length))] [] → Fin Z consts_1 p e below B s k_3 n0 [] room_1.cells room_1.slots (VV fun w h so => w = .int 1 ∧ so = []) := by
      intro h hR hE G
      have hol := O_len cs 4
      have eo : O cs 4 = cs.flatMap esc := by unfold O; rw [List.take_of_length_le (by omega)]
      rw [eo] at hE hol G
      replace G := G.aload 235 at_233 rfl rfl rfl
      obtain ⟨vl, k_l, sol, G', Kl, Ql⟩ := G.callV 238 (hw _ (mm 106 rfl)) (hw _ (mm 35 rfl)) (nfSel (hw _ (mm 37 rfl))) (hw _ (mm 37 rfl)) (hw _ (mm 36 rfl)) (hw _ (mm 8 rfl)) (hw _ (mm 38 rfl)) hR.1 (by decide) [] [] rfl (c_lengthK l Z a0 hw hEW n0 c1 hc1 S1 v2 hv2 S2 S3 S4 S5 r rb (kd (cs.flatMap esc)) (cs.flatMap esc) G.old (kd01 _) (by omega) hR) (lenOf pd___I rfl) at_235 rfl (nle rfl) (nle rfl) (nle rfl) (nle rfl) all0 all0 all0 rfl
      replace G := G'; clear G'
      obtain ⟨wl, ql, rfl, el, rfl⟩ := Ql
      replace G := G.val ql
      subst el
      replace G := G.iload 240 at_238 rfl rfl |>.icmpT 245 at_240 (XT.ii_eq_t rfl) (by decide) (by decide) |>.aload 247 at_245 rfl rfl rfl |>.aload 249 at_247 rfl rfl rfl |>.iload 251 at_249 rfl rfl |>.iconst 252 (0 : Int32) at_251 rfl rfl
      obtain ⟨vo0, k_s, soo0, G', Ko0, Qo0⟩ := G.callS 255 (hw _ (mm 107 rfl)) (hw _ (mm 108 rfl)) (hw _ (mm 3 rfl)) (hw _ (mm 109 rfl)) (by decide) [(.ref r), (.ref ea), (.int (Int32.ofNat (cs.flatMap esc).length)), (.int (0 : Int32))] [] rfl (c_same l Z a0 hw hEW n0 c1 hc1 S1 v2 hv2 S2 S3 S4 S5 r rb ea kea 0 (cs.flatMap esc) G.old (by omega) (by decide) (fesc_b hc) hR hE) (lenOf pd__Ljava_lang_String__CII_Z rfl) at_252 rfl (nle rfl) (nle rfl) (nle rfl) (nle rfl) all0 all0 all0 rfl
      replace G := G'; clear G'
      obtain ⟨wo0, qo0, rfl, eo0, rfl⟩ := Qo0
      replace G := G.val qo0
      subst eo0
      replace G := G.ifF 258 at_255 (XT.i0_eq_f (by decide)) rfl |>.aload 260 at_258 rfl rfl rfl |>.aload 262 at_260 rfl rfl rfl |>.iload 264 at_262 rfl rfl |>.iconst 265 (1 : Int32) at_264 rfl rfl
      obtain ⟨vo1, k_s, soo1, G', Ko1, Qo1⟩ := G.callS 268 (hw _ (mm 107 rfl)) (hw _ (mm 108 rfl)) (hw _ (mm 3 rfl)) (hw _ (mm 109 rfl)) (by decide) [(.ref r), (.ref ea), (.int (Int32.ofNat (cs.flatMap esc).length)), (.int (1 : Int32))] [] rfl (c_same l Z a0 hw hEW n0 c1 hc1 S1 v2 hv2 S2 S3 S4 S5 r rb ea kea 1 (cs.flatMap esc) G.old (by omega) (by decide) (fesc_b hc) hR hE) (lenOf pd__Ljava_lang_String__CII_Z rfl) at_265 rfl (nle rfl) (nle rfl) (nle rfl) (nle rfl) all0 all0 all0 rfl
      replace G := G'; clear G'
      obtain ⟨wo1, qo1, rfl, eo1, rfl⟩ := Qo1
      replace G := G.val qo1
      subst eo1
      replace G := G.ifF 271 at_268 (XT.i0_eq_f (by decide)) rfl |>.aload 273 at_271 rfl rfl rfl |>.aload 275 at_273 rfl rfl rfl |>.iload 277 at_275 rfl rfl |>.iconst 278 (2 : Int32) at_277 rfl rfl
      obtain ⟨vo2, k_s, soo2, G', Ko2, Qo2⟩ := G.callS 281 (hw _ (mm 107 rfl)) (hw _ (mm 108 rfl)) (hw _ (mm 3 rfl)) (hw _ (mm 109 rfl)) (by decide) [(.ref r), (.ref ea), (.int (Int32.ofNat (cs.flatMap esc).length)), (.int (2 : Int32))] [] rfl (c_same l Z a0 hw hEW n0 c1 hc1 S1 v2 hv2 S2 S3 S4 S5 r rb ea kea 2 (cs.flatMap esc) G.old (by omega) (by decide) (fesc_b hc) hR hE) (lenOf pd__Ljava_lang_String__CII_Z rfl) at_278 rfl (nle rfl) (nle rfl) (nle rfl) (nle rfl) all0 all0 all0 rfl
      replace G := G'; clear G'
      obtain ⟨wo2, qo2, rfl, eo2, rfl⟩ := Qo2
      replace G := G.val qo2
      subst eo2
      replace G := G.ifF 284 at_281 (XT.i0_eq_f (by decide)) rfl |>.aload 286 at_284 rfl rfl rfl |>.aload 288 at_286 rfl rfl rfl |>.iload 290 at_288 rfl rfl |>.iconst 291 (3 : Int32) at_290 rfl rfl
      obtain ⟨vo3, k_s, soo3, G', Ko3, Qo3⟩ := G.callS 294 (hw _ (mm 107 rfl)) (hw _ (mm 108 rfl)) (hw _ (mm 3 rfl)) (hw _ (mm 109 rfl)) (by decide) [(.ref r), (.ref ea), (.int (Int32.ofNat (cs.flatMap esc).length)), (.int (3 : Int32))] [] rfl (c_same l Z a0 hw hEW n0 c1 hc1 S1 v2 hv2 S2 S3 S4 S5 r rb ea kea 3 (cs.flatMap esc) G.old (by omega) (by decide) (fesc_b hc) hR hE) (lenOf pd__Ljava_lang_String__CII_Z rfl) at_291 rfl (nle rfl) (nle rfl) (nle rfl) (nle rfl) all0 all0 all0 rfl
      replace G := G'; clear G'
      obtain ⟨wo3, qo3, rfl, eo3, rfl⟩ := Qo3
      replace G := G.val qo3
      subst eo3
      replace G := G.ifF 297 at_294 (XT.i0_eq_f (by decide)) rfl |>.aload 299 at_297 rfl rfl rfl |>.aload 301 at_299 rfl rfl rfl |>.iload 303 at_301 rfl rfl |>.iconst 304 (4 : Int32) at_303 rfl rfl
      obtain ⟨vo4, k_s, soo4, G', Ko4, Qo4⟩ := G.callS 307 (hw _ (mm 107 rfl)) (hw _ (mm 108 rfl)) (hw _ (mm 3 rfl)) (hw _ (mm 109 rfl)) (by decide) [(.ref r), (.ref ea), (.int (Int32.ofNat (cs.flatMap esc).length)), (.int (4 : Int32))] [] rfl (c_same l Z a0 hw hEW n0 c1 hc1 S1 v2 hv2 S2 S3 S4 S5 r rb ea kea 4 (cs.flatMap esc) G.old (by omega) (by decide) (fesc_b hc) hR hE) (lenOf pd__Ljava_lang_String__CII_Z rfl) at_304 rfl (nle rfl) (nle rfl) (nle rfl) (nle rfl) all0 all0 all0 rfl
      replace G := G'; clear G'
      obtain ⟨wo4, qo4, rfl, eo4, rfl⟩ := Qo4
      replace G := G.val qo4
      subst eo4
      replace G := G.ifF 310 at_307 (XT.i0_eq_f (by decide)) rfl |>.aload 312 at_310 rfl rfl rfl |>.aload 314 at_312 rfl rfl rfl |>.iload 316 at_314 rfl rfl |>.iconst 317 (5 : Int32) at_316 rfl rfl
      obtain ⟨vo5, k_s, soo5, G', Ko5, Qo5⟩ := G.callS 320 (hw _ (mm 107 rfl)) (hw _ (mm 108 rfl)) (hw _ (mm 3 rfl)) (hw _ (mm 109 rfl)) (by decide) [(.ref r), (.ref ea), (.int (Int32.ofNat (cs.flatMap esc).length)), (.int (5 : Int32))] [] rfl (c_same l Z a0 hw hEW n0 c1 hc1 S1 v2 hv2 S2 S3 S4 S5 r rb ea kea 5 (cs.flatMap esc) G.old (by omega) (by decide) (fesc_b hc) hR hE) (lenOf pd__Ljava_lang_String__CII_Z rfl) at_317 rfl (nle rfl) (nle rfl) (nle rfl) (nle rfl) all0 all0 all0 rfl
      replace G := G'; clear G'
      obtain ⟨wo5, qo5, rfl, eo5, rfl⟩ := Qo5
      replace G := G.val qo5
      subst eo5
      replace G := G.ifF 323 at_320 (XT.i0_eq_f (by decide)) rfl |>.aload 325 at_323 rfl rfl rfl |>.aload 327 at_325 rfl rfl rfl |>.iload 329 at_327 rfl rfl |>.bipush 331 (6 : Int32) at_329 (by decide) rfl
      obtain ⟨vo6, k_s, soo6, G', Ko6, Qo6⟩ := G.callS 334 (hw _ (mm 107 rfl)) (hw _ (mm 108 rfl)) (hw _ (mm 3 rfl)) (hw _ (mm 109 rfl)) (by decide) [(.ref r), (.ref ea), (.int (Int32.ofNat (cs.flatMap esc).length)), (.int (6 : Int32))] [] rfl (c_same l Z a0 hw hEW n0 c1 hc1 S1 v2 hv2 S2 S3 S4 S5 r rb ea kea 6 (cs.flatMap esc) G.old (by omega) (by decide) (fesc_b hc) hR hE) (lenOf pd__Ljava_lang_String__CII_Z rfl) at_331 rfl (nle rfl) (nle rfl) (nle rfl) (nle rfl) all0 all0 all0 rfl
      replace G := G'; clear G'
      obtain ⟨wo6, qo6, rfl, eo6, rfl⟩ := Qo6
      replace G := G.val qo6
      subst eo6
      replace G := G.ifF 337 at_334 (XT.i0_eq_f (by decide)) rfl |>.aload 339 at_337 rfl rfl rfl |>.aload 341 at_339 rfl rfl rfl |>.iload 343 at_341 rfl rfl |>.bipush 345 (7 : Int32) at_343 (by decide) rfl
      obtain ⟨vo7, k_s, soo7, G', Ko7, Qo7⟩ := G.callS 348 (hw _ (mm 107 rfl)) (hw _ (mm 108 rfl)) (hw _ (mm 3 rfl)) (hw _ (mm 109 rfl)) (by decide) [(.ref r), (.ref ea), (.int (Int32.ofNat (cs.flatMap esc).length)), (.int (7 : Int32))] [] rfl (c_same l Z a0 hw hEW n0 c1 hc1 S1 v2 hv2 S2 S3 S4 S5 r rb ea kea 7 (cs.flatMap esc) G.old (by omega) (by decide) (fesc_b hc) hR hE) (lenOf pd__Ljava_lang_String__CII_Z rfl) at_345 rfl (nle rfl) (nle rfl) (nle rfl) (nle rfl) all0 all0 all0 rfl
      replace G := G'; clear G'
      obtain ⟨wo7, qo7, rfl, eo7, rfl⟩ := Qo7
      replace G := G.val qo7
      subst eo7
      replace G := G.ifF 351 at_348 (XT.i0_eq_f (by decide)) rfl |>.iconst 352 (1 : Int32) at_351 rfl rfl |>.goto 356 at_352 (by decide) (by decide)
      exact G.retN hret (Or.inl rfl) hlk at_356 [] all0 ⟨_, rfl, rfl, rfl⟩ (nle rfl) (nle rfl)
    have t3 : ∀ h : Heap, StrK Z h r rb (kd (cs.flatMap esc)) (cs.flatMap esc) → Arv Z h ea kea .char (8 : Int32) ((O cs 3).map (fun c => Value.int (Int32.ofNat c))) (.int 0) → Wl Z a0 "com/example/unhurried_frontier/unhurriedfrontier/TsvFileEscapedPinLaw" p l e room_1 s m #[(.int i0), (.int i1), (.int i2), (.int i3), (.int i4)] below meth c code 14 B consts_1 k_3 n0 [] [r, sa, ea, ia] h 35 1156 216 #[.val (.int i0), .val (.int i1), .val (.int i2), .val (.int i3), .val (.int i4), .val (.int (Int32.ofNat cs.length)), .val (.int (Int32.ofNat x0)), .val (.int (Int32.ofNat x1)), .val (.int (Int32.ofNat x2)), .val (.int (Int32.ofNat x3)), .val (.ref ia), .val (.ref ea), .val (.ref r), .val (.int (Int32.ofNat (O cs 3).length))] [] → Fin Z consts_1 p e below B s k_3 n0 [] room_1.cells room_1.slots (VV fun w h so => w = .int 1 ∧ so = []) := by
      intro h hR hE G
      have hol := O_len cs 3
      replace G := G.iload 218 at_216 rfl rfl |>.iconst 219 (3 : Int32) at_218 rfl rfl
      rcases Nat.lt_or_ge 3 cs.length with hq | hq
      · skip
        replace G := G.icmpF 222 at_219 (XT.ii_le_f (ofn_lt (i := 3) hq (by omega))) rfl |>.aload 224 at_222 rfl rfl rfl |>.iload 226 at_224 rfl rfl |>.iload 228 at_226 rfl rfl
        obtain ⟨vp, k1, sop, G', Kp, Qp⟩ := G.callS 231 (hw _ (mm 215 rfl)) (hw _ (mm 216 rfl)) (hw _ (mm 3 rfl)) (hw _ (mm 217 rfl)) (by decide) [(.ref ea), (.int (Int32.ofNat (O cs 3).length)), (.int (Int32.ofNat x3))] [] rfl (c_put l Z a0 hw hEW n0 c1 hc1 S1 v2 hv2 S2 S3 S4 S5 ea kea (O cs 3) x3 G.old (G.nw (Or.inr sea)) hx3 (by omega) hE) (lenOf pd___CIC_I rfl) at_228 rfl (nle rfl) (nle rfl) (nle rfl) (nle rfl) (allS (Or.inr sea) all0) (allS (mm 2 rfl) all0) (allS (mm 2 rfl) all0) rfl
        replace G := G'; clear G'
        obtain ⟨wp, qp, rfl, hF, rfl⟩ := Qp
        replace G := G.val qp
        have hos := O_succ (cs := cs) (i := 3) hq; rw [show cs.getD 3 0 = x3 from hg 3 hq] at hos; rw [← hos] at hF; replace hR := hR.keep Kp (ninS ne_ea_r.symm nin0) (ninS ne_ea_rb.symm nin0)
        replace G := G.top (y := (.int (Int32.ofNat (O cs 4).length))) (by rw [hos]) |>.istore 233 #[.val (.int i0), .val (.int i1), .val (.int i2), .val (.int i3), .val (.int i4), .val (.int (Int32.ofNat cs.length)), .val (.int (Int32.ofNat x0)), .val (.int (Int32.ofNat x1)), .val (.int (Int32.ofNat x2)), .val (.int (Int32.ofNat x3)), .val (.ref ia), .val (.ref ea), .val (.ref r), .val (.int (Int32.ofNat (O cs 4).length))] at_231 rfl rfl
        exact t4 _ hR hF G
      · skip
        replace G := G.icmpT 233 at_219 (XT.ii_le_t (ofn_nlt (i := 3) hq (by decide))) (by decide) (by decide)
        have eo : O cs 4 = O cs 3 := by unfold O; rw [List.take_of_length_le (by omega), List.take_of_length_le (by omega)]
        rw [← eo] at hE G
        exact t4 _ hR hE G
    have t2 : ∀ h : Heap, StrK Z h r rb (kd (cs.flatMap esc)) (cs.flatMap esc) → Arv Z h ea kea .char (8 : Int32) ((O cs 2).map (fun c => Value.int (Int32.ofNat c))) (.int 0) → Wl Z a0 "com/example/unhurried_frontier/unhurriedfrontier/TsvFileEscapedPinLaw" p l e room_1 s m #[(.int i0), (.int i1), (.int i2), (.int i3), (.int i4)] below meth c code 14 B consts_1 k_3 n0 [] [r, sa, ea, ia] h 35 1156 199 #[.val (.int i0), .val (.int i1), .val (.int i2), .val (.int i3), .val (.int i4), .val (.int (Int32.ofNat cs.length)), .val (.int (Int32.ofNat x0)), .val (.int (Int32.ofNat x1)), .val (.int (Int32.ofNat x2)), .val (.int (Int32.ofNat x3)), .val (.ref ia), .val (.ref ea), .val (.ref r), .val (.int (Int32.ofNat (O cs 2).length))] [] → Fin Z consts_1 p e below B s k_3 n0 [] room_1.cells room_1.slots (VV fun w h so => w = .int 1 ∧ so = []) := by
      intro h hR hE G
      have hol := O_len cs 2
      replace G := G.iload 201 at_199 rfl rfl |>.iconst 202 (2 : Int32) at_201 rfl rfl
      rcases Nat.lt_or_ge 2 cs.length with hq | hq
      · skip
        replace G := G.icmpF 205 at_202 (XT.ii_le_f (ofn_lt (i := 2) hq (by omega))) rfl |>.aload 207 at_205 rfl rfl rfl |>.iload 209 at_207 rfl rfl |>.iload 211 at_209 rfl rfl
        obtain ⟨vp, k1, sop, G', Kp, Qp⟩ := G.callS 214 (hw _ (mm 215 rfl)) (hw _ (mm 216 rfl)) (hw _ (mm 3 rfl)) (hw _ (mm 217 rfl)) (by decide) [(.ref ea), (.int (Int32.ofNat (O cs 2).length)), (.int (Int32.ofNat x2))] [] rfl (c_put l Z a0 hw hEW n0 c1 hc1 S1 v2 hv2 S2 S3 S4 S5 ea kea (O cs 2) x2 G.old (G.nw (Or.inr sea)) hx2 (by omega) hE) (lenOf pd___CIC_I rfl) at_211 rfl (nle rfl) (nle rfl) (nle rfl) (nle rfl) (allS (Or.inr sea) all0) (allS (mm 2 rfl) all0) (allS (mm 2 rfl) all0) rfl
        replace G := G'; clear G'
        obtain ⟨wp, qp, rfl, hF, rfl⟩ := Qp
        replace G := G.val qp
        have hos := O_succ (cs := cs) (i := 2) hq; rw [show cs.getD 2 0 = x2 from hg 2 hq] at hos; rw [← hos] at hF; replace hR := hR.keep Kp (ninS ne_ea_r.symm nin0) (ninS ne_ea_rb.symm nin0)
        replace G := G.top (y := (.int (Int32.ofNat (O cs 3).length))) (by rw [hos]) |>.istore 216 #[.val (.int i0), .val (.int i1), .val (.int i2), .val (.int i3), .val (.int i4), .val (.int (Int32.ofNat cs.length)), .val (.int (Int32.ofNat x0)), .val (.int (Int32.ofNat x1)), .val (.int (Int32.ofNat x2)), .val (.int (Int32.ofNat x3)), .val (.ref ia), .val (.ref ea), .val (.ref r), .val (.int (Int32.ofNat (O cs 3).length))] at_214 rfl rfl
        exact t3 _ hR hF G
      · skip
        replace G := G.icmpT 216 at_202 (XT.ii_le_t (ofn_nlt (i := 2) hq (by decide))) (by decide) (by decide)
        have eo : O cs 3 = O cs 2 := by unfold O; rw [List.take_of_length_le (by omega), List.take_of_length_le (by omega)]
        rw [← eo] at hE G
        exact t3 _ hR hE G
    have t1 : ∀ h : Heap, StrK Z h r rb (kd (cs.flatMap esc)) (cs.flatMap esc) → Arv Z h ea kea .char (8 : Int32) ((O cs 1).map (fun c => Value.int (Int32.ofNat c))) (.int 0) → Wl Z a0 "com/example/unhurried_frontier/unhurriedfrontier/TsvFileEscapedPinLaw" p l e room_1 s m #[(.int i0), (.int i1), (.int i2), (.int i3), (.int i4)] below meth c code 14 B consts_1 k_3 n0 [] [r, sa, ea, ia] h 35 1156 182 #[.val (.int i0), .val (.int i1), .val (.int i2), .val (.int i3), .val (.int i4), .val (.int (Int32.ofNat cs.length)), .val (.int (Int32.ofNat x0)), .val (.int (Int32.ofNat x1)), .val (.int (Int32.ofNat x2)), .val (.int (Int32.ofNat x3)), .val (.ref ia), .val (.ref ea), .val (.ref r), .val (.int (Int32.ofNat (O cs 1).length))] [] → Fin Z consts_1 p e below B s k_3 n0 [] room_1.cells room_1.slots (VV fun w h so => w = .int 1 ∧ so = []) := by
      intro h hR hE G
      have hol := O_len cs 1
      replace G := G.iload 184 at_182 rfl rfl |>.iconst 185 (1 : Int32) at_184 rfl rfl
      rcases Nat.lt_or_ge 1 cs.length with hq | hq
      · skip
        replace G := G.icmpF 188 at_185 (XT.ii_le_f (ofn_lt (i := 1) hq (by omega))) rfl |>.aload 190 at_188 rfl rfl rfl |>.iload 192 at_190 rfl rfl |>.iload 194 at_192 rfl rfl
        obtain ⟨vp, k1, sop, G', Kp, Qp⟩ := G.callS 197 (hw _ (mm 215 rfl)) (hw _ (mm 216 rfl)) (hw _ (mm 3 rfl)) (hw _ (mm 217 rfl)) (by decide) [(.ref ea), (.int (Int32.ofNat (O cs 1).length)), (.int (Int32.ofNat x1))] [] rfl (c_put l Z a0 hw hEW n0 c1 hc1 S1 v2 hv2 S2 S3 S4 S5 ea kea (O cs 1) x1 G.old (G.nw (Or.inr sea)) hx1 (by omega) hE) (lenOf pd___CIC_I rfl) at_194 rfl (nle rfl) (nle rfl) (nle rfl) (nle rfl) (allS (Or.inr sea) all0) (allS (mm 2 rfl) all0) (allS (mm 2 rfl) all0) rfl
        replace G := G'; clear G'
        obtain ⟨wp, qp, rfl, hF, rfl⟩ := Qp
        replace G := G.val qp
        have hos := O_succ (cs := cs) (i := 1) hq; rw [show cs.getD 1 0 = x1 from hg 1 hq] at hos; rw [← hos] at hF; replace hR := hR.keep Kp (ninS ne_ea_r.symm nin0) (ninS ne_ea_rb.symm nin0)
        replace G := G.top (y := (.int (Int32.ofNat (O cs 2).length))) (by rw [hos]) |>.istore 199 #[.val (.int i0), .val (.int i1), .val (.int i2), .val (.int i3), .val (.int i4), .val (.int (Int32.ofNat cs.length)), .val (.int (Int32.ofNat x0)), .val (.int (Int32.ofNat x1)), .val (.int (Int32.ofNat x2)), .val (.int (Int32.ofNat x3)), .val (.ref ia), .val (.ref ea), .val (.ref r), .val (.int (Int32.ofNat (O cs 2).length))] at_197 rfl rfl
        exact t2 _ hR hF G
      · skip
        replace G := G.icmpT 199 at_185 (XT.ii_le_t (ofn_nlt (i := 1) hq (by decide))) (by decide) (by decide)
        have eo : O cs 2 = O cs 1 := by unfold O; rw [List.take_of_length_le (by omega), List.take_of_length_le (by omega)]
        rw [← eo] at hE G
        exact t2 _ hR hE G
    have t0 : ∀ h : Heap, StrK Z h r rb (kd (cs.flatMap esc)) (cs.flatMap esc) → Arv Z h ea kea .char (8 : Int32) ((O cs 0).map (fun c => Value.int (Int32.ofNat c))) (.int 0) → Wl Z a0 "com/example/unhurried_frontier/unhurriedfrontier/TsvFileEscapedPinLaw" p l e room_1 s m #[(.int i0), (.int i1), (.int i2), (.int i3), (.int i4)] below meth c code 14 B consts_1 k_3 n0 [] [r, sa, ea, ia] h 35 1156 166 #[.val (.int i0), .val (.int i1), .val (.int i2), .val (.int i3), .val (.int i4), .val (.int (Int32.ofNat cs.length)), .val (.int (Int32.ofNat x0)), .val (.int (Int32.ofNat x1)), .val (.int (Int32.ofNat x2)), .val (.int (Int32.ofNat x3)), .val (.ref ia), .val (.ref ea), .val (.ref r), .val (.int (Int32.ofNat (O cs 0).length))] [] → Fin Z consts_1 p e below B s k_3 n0 [] room_1.cells room_1.slots (VV fun w h so => w = .int 1 ∧ so = []) := by
      intro h hR hE G
      have hol := O_len cs 0
      replace G := G.iload 168 at_166 rfl rfl
      rcases Nat.lt_or_ge 0 cs.length with hq | hq
      · skip
        replace G := G.ifF 171 at_168 (XT.i0_le_f (ofn_lt (i := 0) hq (by omega))) rfl |>.aload 173 at_171 rfl rfl rfl |>.iload 175 at_173 rfl rfl |>.iload 177 at_175 rfl rfl
        obtain ⟨vp, k1, sop, G', Kp, Qp⟩ := G.callS 180 (hw _ (mm 215 rfl)) (hw _ (mm 216 rfl)) (hw _ (mm 3 rfl)) (hw _ (mm 217 rfl)) (by decide) [(.ref ea), (.int (Int32.ofNat (O cs 0).length)), (.int (Int32.ofNat x0))] [] rfl (c_put l Z a0 hw hEW n0 c1 hc1 S1 v2 hv2 S2 S3 S4 S5 ea kea (O cs 0) x0 G.old (G.nw (Or.inr sea)) hx0 (by omega) hE) (lenOf pd___CIC_I rfl) at_177 rfl (nle rfl) (nle rfl) (nle rfl) (nle rfl) (allS (Or.inr sea) all0) (allS (mm 2 rfl) all0) (allS (mm 2 rfl) all0) rfl
        replace G := G'; clear G'
        obtain ⟨wp, qp, rfl, hF, rfl⟩ := Qp
        replace G := G.val qp
        have hos := O_succ (cs := cs) (i := 0) hq; rw [show cs.getD 0 0 = x0 from hg 0 hq] at hos; rw [← hos] at hF; replace hR := hR.keep Kp (ninS ne_ea_r.symm nin0) (ninS ne_ea_rb.symm nin0)
        replace G := G.top (y := (.int (Int32.ofNat (O cs 1).length))) (by rw [hos]) |>.istore 182 #[.val (.int i0), .val (.int i1), .val (.int i2), .val (.int i3), .val (.int i4), .val (.int (Int32.ofNat cs.length)), .val (.int (Int32.ofNat x0)), .val (.int (Int32.ofNat x1)), .val (.int (Int32.ofNat x2)), .val (.int (Int32.ofNat x3)), .val (.ref ia), .val (.ref ea), .val (.ref r), .val (.int (Int32.ofNat (O cs 1).length))] at_180 rfl rfl
        exact t1 _ hR hF G
      · skip
        replace G := G.ifT 182 at_168 (XT.i0_le_t (ofn_nlt (i := 0) hq (by decide))) (by decide) (by decide)
        have eo : O cs 1 = O cs 0 := by unfold O; rw [List.take_of_length_le (by omega), List.take_of_length_le (by omega)]
        rw [← eo] at hE G
        exact t1 _ hR hE G
    exact t0 _ hR hE G
  rcases (show n = 0 ∨ n = 1 ∨ n = 2 ∨ n = 3 ∨ n = 4 by omega) with rfl | rfl | rfl | rfl | rfl
  · skip
    replace G := G.iload 35 at_33 rfl rfl |>.ifF 38 at_35 (XT.i0_ne_f rfl) rfl |>.iconst 39 (0 : Int32) at_38 rfl rfl
    obtain ⟨ia, g1, kia, G', gia, sia, Eia, Aia⟩ := G.newarray 41 (hw _ (mm 5 rfl)) at_39 (by decide) 4 (nle rfl) (by decide) rfl (nle rfl) (nle rfl)
    replace G := G'; clear G'
    have hA : Arv Z g1 ia kia .char (0 : Int32) [] (.int 0) := Aia
    replace G := G.astore 43 #[.val (.int i0), .val (.int i1), .val (.int i2), .val (.int i3), .val (.int i4), .val (.int (Int32.ofNat 0)), .val (.int (Int32.ofNat x0)), .val (.int (Int32.ofNat x1)), .val (.int (Int32.ofNat x2)), .val (.int (Int32.ofNat x3)), .val (.ref ia), .unset, .unset, .unset] at_41 rfl rfl rfl |>.goto 143 at_43 (by decide) (by decide)
    exact main _ ia kia [] (nle rfl) (by intro c hc; simp only [List.mem_cons, List.not_mem_nil, or_false] at hc <;> omega) (by intro j hj; exact absurd hj (by simp)) hA G
  · skip
    replace G := G.iload 35 at_33 rfl rfl |>.ifT 46 at_35 (XT.i0_ne_t (by decide)) (by decide) (by decide) |>.iload 48 at_46 rfl rfl |>.iconst 49 (1 : Int32) at_48 rfl rfl |>.icmpF 52 at_49 (XT.ii_ne_f rfl) rfl |>.iconst 53 (1 : Int32) at_52 rfl rfl
    obtain ⟨ia, g1, kia, G', gia, sia, Eia, Aia⟩ := G.newarray 55 (hw _ (mm 5 rfl)) at_53 (by decide) 4 (nle rfl) (by decide) rfl (nle rfl) (nle rfl)
    replace G := G'; clear G'
    have hA : Arv Z g1 ia kia .char (1 : Int32) [(.int 0)] (.int 0) := Aia.pad (pad_rep [] (.int 0) 1)
    replace G := G.dup 56 at_55 rfl rfl |>.iconst 57 (0 : Int32) at_56 rfl rfl |>.iload 59 at_57 rfl rfl
    obtain ⟨g2, G', As, Ks⟩ := G.castore 60 0 hA (by decide) rfl (nle rfl) (Or.inr sia) (mm 0 rfl) at_59 rfl
    replace G := G'; clear G'
    replace hA : Arv Z g2 ia kia .char 1 [(.int (Int32.ofNat x0))] (.int 0) := by have h := As; rw [show nar FieldType.char (Int32.ofNat x0) = Int32.ofNat x0 from i2c_w hx0] at h; exact h
    replace G := G.astore 62 #[.val (.int i0), .val (.int i1), .val (.int i2), .val (.int i3), .val (.int i4), .val (.int (Int32.ofNat 1)), .val (.int (Int32.ofNat x0)), .val (.int (Int32.ofNat x1)), .val (.int (Int32.ofNat x2)), .val (.int (Int32.ofNat x3)), .val (.ref ia), .unset, .unset, .unset] at_60 rfl rfl rfl |>.goto 143 at_62 (by decide) (by decide)
    exact main _ ia kia [x0] (nle rfl) (by intro c hc; simp only [List.mem_cons, List.not_mem_nil, or_false] at hc <;> omega) (by intro j hj; simp only [List.length_cons, List.length_nil] at hj; rcases (show j = 0 by omega) with rfl <;> rfl) hA G
  · skip
    replace G := G.iload 35 at_33 rfl rfl |>.ifT 46 at_35 (XT.i0_ne_t (by decide)) (by decide) (by decide) |>.iload 48 at_46 rfl rfl |>.iconst 49 (1 : Int32) at_48 rfl rfl |>.icmpT 65 at_49 (XT.ii_ne_t (by decide)) (by decide) (by decide) |>.iload 67 at_65 rfl rfl |>.iconst 68 (2 : Int32) at_67 rfl rfl |>.icmpF 71 at_68 (XT.ii_ne_f rfl) rfl
    replace G := G.iconst 72 (2 : Int32) at_71 rfl rfl
    obtain ⟨ia, g1, kia, G', gia, sia, Eia, Aia⟩ := G.newarray 74 (hw _ (mm 5 rfl)) at_72 (by decide) 4 (nle rfl) (by decide) rfl (nle rfl) (nle rfl)
    replace G := G'; clear G'
    have hA : Arv Z g1 ia kia .char (2 : Int32) [(.int 0), (.int 0)] (.int 0) := Aia.pad (pad_rep [] (.int 0) 2)
    replace G := G.dup 75 at_74 rfl rfl |>.iconst 76 (0 : Int32) at_75 rfl rfl |>.iload 78 at_76 rfl rfl
    obtain ⟨g2, G', As, Ks⟩ := G.castore 79 0 hA (by decide) rfl (nle rfl) (Or.inr sia) (mm 0 rfl) at_78 rfl
    replace G := G'; clear G'
    replace hA : Arv Z g2 ia kia .char 2 [(.int (Int32.ofNat x0)), (.int 0)] (.int 0) := by have h := As; rw [show nar FieldType.char (Int32.ofNat x0) = Int32.ofNat x0 from i2c_w hx0] at h; exact h
    replace G := G.dup 80 at_79 rfl rfl |>.iconst 81 (1 : Int32) at_80 rfl rfl |>.iload 83 at_81 rfl rfl
    obtain ⟨g3, G', As, Ks⟩ := G.castore 84 1 hA (by decide) rfl (nle rfl) (Or.inr sia) (mm 0 rfl) at_83 rfl
    replace G := G'; clear G'
    replace hA : Arv Z g3 ia kia .char 2 [(.int (Int32.ofNat x0)), (.int (Int32.ofNat x1))] (.int 0) := by have h := As; rw [show nar FieldType.char (Int32.ofNat x1) = Int32.ofNat x1 from i2c_w hx1] at h; exact h
    replace G := G.astore 86 #[.val (.int i0), .val (.int i1), .val (.int i2), .val (.int i3), .val (.int i4), .val (.int (Int32.ofNat 2)), .val (.int (Int32.ofNat x0)), .val (.int (Int32.ofNat x1)), .val (.int (Int32.ofNat x2)), .val (.int (Int32.ofNat x3)), .val (.ref ia), .unset, .unset, .unset] at_84 rfl rfl rfl |>.goto 143 at_86 (by decide) (by decide)
    exact main _ ia kia [x0, x1] (nle rfl) (by intro c hc; simp only [List.mem_cons, List.not_mem_nil, or_false] at hc <;> omega) (by intro j hj; simp only [List.length_cons, List.length_nil] at hj; rcases (show j = 0 ∨ j = 1 by omega) with rfl | rfl <;> rfl) hA G
  · skip
    replace G := G.iload 35 at_33 rfl rfl |>.ifT 46 at_35 (XT.i0_ne_t (by decide)) (by decide) (by decide) |>.iload 48 at_46 rfl rfl |>.iconst 49 (1 : Int32) at_48 rfl rfl |>.icmpT 65 at_49 (XT.ii_ne_t (by decide)) (by decide) (by decide) |>.iload 67 at_65 rfl rfl |>.iconst 68 (2 : Int32) at_67 rfl rfl |>.icmpT 89 at_68 (XT.ii_ne_t (by decide)) (by decide) (by decide)
    replace G := G.iload 91 at_89 rfl rfl |>.iconst 92 (3 : Int32) at_91 rfl rfl |>.icmpF 95 at_92 (XT.ii_ne_f rfl) rfl |>.iconst 96 (3 : Int32) at_95 rfl rfl
    obtain ⟨ia, g1, kia, G', gia, sia, Eia, Aia⟩ := G.newarray 98 (hw _ (mm 5 rfl)) at_96 (by decide) 4 (nle rfl) (by decide) rfl (nle rfl) (nle rfl)
    replace G := G'; clear G'
    have hA : Arv Z g1 ia kia .char (3 : Int32) [(.int 0), (.int 0), (.int 0)] (.int 0) := Aia.pad (pad_rep [] (.int 0) 3)
    replace G := G.dup 99 at_98 rfl rfl |>.iconst 100 (0 : Int32) at_99 rfl rfl |>.iload 102 at_100 rfl rfl
    obtain ⟨g2, G', As, Ks⟩ := G.castore 103 0 hA (by decide) rfl (nle rfl) (Or.inr sia) (mm 0 rfl) at_102 rfl
    replace G := G'; clear G'
    replace hA : Arv Z g2 ia kia .char 3 [(.int (Int32.ofNat x0)), (.int 0), (.int 0)] (.int 0) := by have h := As; rw [show nar FieldType.char (Int32.ofNat x0) = Int32.ofNat x0 from i2c_w hx0] at h; exact h
    replace G := G.dup 104 at_103 rfl rfl |>.iconst 105 (1 : Int32) at_104 rfl rfl |>.iload 107 at_105 rfl rfl
    obtain ⟨g3, G', As, Ks⟩ := G.castore 108 1 hA (by decide) rfl (nle rfl) (Or.inr sia) (mm 0 rfl) at_107 rfl
    replace G := G'; clear G'
    replace hA : Arv Z g3 ia kia .char 3 [(.int (Int32.ofNat x0)), (.int (Int32.ofNat x1)), (.int 0)] (.int 0) := by have h := As; rw [show nar FieldType.char (Int32.ofNat x1) = Int32.ofNat x1 from i2c_w hx1] at h; exact h
    replace G := G.dup 109 at_108 rfl rfl |>.iconst 110 (2 : Int32) at_109 rfl rfl |>.iload 112 at_110 rfl rfl
    obtain ⟨g4, G', As, Ks⟩ := G.castore 113 2 hA (by decide) rfl (nle rfl) (Or.inr sia) (mm 0 rfl) at_112 rfl
    replace G := G'; clear G'
    replace hA : Arv Z g4 ia kia .char 3 [(.int (Int32.ofNat x0)), (.int (Int32.ofNat x1)), (.int (Int32.ofNat x2))] (.int 0) := by have h := As; rw [show nar FieldType.char (Int32.ofNat x2) = Int32.ofNat x2 from i2c_w hx2] at h; exact h
    replace G := G.astore 115 #[.val (.int i0), .val (.int i1), .val (.int i2), .val (.int i3), .val (.int i4), .val (.int (Int32.ofNat 3)), .val (.int (Int32.ofNat x0)), .val (.int (Int32.ofNat x1)), .val (.int (Int32.ofNat x2)), .val (.int (Int32.ofNat x3)), .val (.ref ia), .unset, .unset, .unset] at_113 rfl rfl rfl |>.goto 143 at_115 (by decide) (by decide)
    exact main _ ia kia [x0, x1, x2] (nle rfl) (by intro c hc; simp only [List.mem_cons, List.not_mem_nil, or_false] at hc <;> omega) (by intro j hj; simp only [List.length_cons, List.length_nil] at hj; rcases (show j = 0 ∨ j = 1 ∨ j = 2 by omega) with rfl | rfl | rfl <;> rfl) hA G
  · skip
    replace G := G.iload 35 at_33 rfl rfl |>.ifT 46 at_35 (XT.i0_ne_t (by decide)) (by decide) (by decide) |>.iload 48 at_46 rfl rfl |>.iconst 49 (1 : Int32) at_48 rfl rfl |>.icmpT 65 at_49 (XT.ii_ne_t (by decide)) (by decide) (by decide) |>.iload 67 at_65 rfl rfl |>.iconst 68 (2 : Int32) at_67 rfl rfl |>.icmpT 89 at_68 (XT.ii_ne_t (by decide)) (by decide) (by decide)
    replace G := G.iload 91 at_89 rfl rfl |>.iconst 92 (3 : Int32) at_91 rfl rfl |>.icmpT 118 at_92 (XT.ii_ne_t (by decide)) (by decide) (by decide) |>.iconst 119 (4 : Int32) at_118 rfl rfl
    obtain ⟨ia, g1, kia, G', gia, sia, Eia, Aia⟩ := G.newarray 121 (hw _ (mm 5 rfl)) at_119 (by decide) 4 (nle rfl) (by decide) rfl (nle rfl) (nle rfl)
    replace G := G'; clear G'
    have hA : Arv Z g1 ia kia .char (4 : Int32) [(.int 0), (.int 0), (.int 0), (.int 0)] (.int 0) := Aia.pad (pad_rep [] (.int 0) 4)
    replace G := G.dup 122 at_121 rfl rfl |>.iconst 123 (0 : Int32) at_122 rfl rfl |>.iload 125 at_123 rfl rfl
    obtain ⟨g2, G', As, Ks⟩ := G.castore 126 0 hA (by decide) rfl (nle rfl) (Or.inr sia) (mm 0 rfl) at_125 rfl
    replace G := G'; clear G'
    replace hA : Arv Z g2 ia kia .char 4 [(.int (Int32.ofNat x0)), (.int 0), (.int 0), (.int 0)] (.int 0) := by have h := As; rw [show nar FieldType.char (Int32.ofNat x0) = Int32.ofNat x0 from i2c_w hx0] at h; exact h
    replace G := G.dup 127 at_126 rfl rfl |>.iconst 128 (1 : Int32) at_127 rfl rfl |>.iload 130 at_128 rfl rfl
    obtain ⟨g3, G', As, Ks⟩ := G.castore 131 1 hA (by decide) rfl (nle rfl) (Or.inr sia) (mm 0 rfl) at_130 rfl
    replace G := G'; clear G'
    replace hA : Arv Z g3 ia kia .char 4 [(.int (Int32.ofNat x0)), (.int (Int32.ofNat x1)), (.int 0), (.int 0)] (.int 0) := by have h := As; rw [show nar FieldType.char (Int32.ofNat x1) = Int32.ofNat x1 from i2c_w hx1] at h; exact h
    replace G := G.dup 132 at_131 rfl rfl |>.iconst 133 (2 : Int32) at_132 rfl rfl |>.iload 135 at_133 rfl rfl
    obtain ⟨g4, G', As, Ks⟩ := G.castore 136 2 hA (by decide) rfl (nle rfl) (Or.inr sia) (mm 0 rfl) at_135 rfl
    replace G := G'; clear G'
    replace hA : Arv Z g4 ia kia .char 4 [(.int (Int32.ofNat x0)), (.int (Int32.ofNat x1)), (.int (Int32.ofNat x2)), (.int 0)] (.int 0) := by have h := As; rw [show nar FieldType.char (Int32.ofNat x2) = Int32.ofNat x2 from i2c_w hx2] at h; exact h
    replace G := G.dup 137 at_136 rfl rfl |>.iconst 138 (3 : Int32) at_137 rfl rfl |>.iload 140 at_138 rfl rfl
    obtain ⟨g5, G', As, Ks⟩ := G.castore 141 3 hA (by decide) rfl (nle rfl) (Or.inr sia) (mm 0 rfl) at_140 rfl
    replace G := G'; clear G'
    replace hA : Arv Z g5 ia kia .char 4 [(.int (Int32.ofNat x0)), (.int (Int32.ofNat x1)), (.int (Int32.ofNat x2)), (.int (Int32.ofNat x3))] (.int 0) := by have h := As; rw [show nar FieldType.char (Int32.ofNat x3) = Int32.ofNat x3 from i2c_w hx3] at h; exact h
    replace G := G.astore 143 #[.val (.int i0), .val (.int i1), .val (.int i2), .val (.int i3), .val (.int i4), .val (.int (Int32.ofNat 4)), .val (.int (Int32.ofNat x0)), .val (.int (Int32.ofNat x1)), .val (.int (Int32.ofNat x2)), .val (.int (Int32.ofNat x3)), .val (.ref ia), .unset, .unset, .unset] at_141 rfl rfl rfl
    exact main _ ia kia [x0, x1, x2, x3] (nle rfl) (by intro c hc; simp only [List.mem_cons, List.not_mem_nil, or_false] at hc <;> omega) (by intro j hj; simp only [List.length_cons, List.length_nil] at hj; rcases (show j = 0 ∨ j = 1 ∨ j = 2 ∨ j = 3 by omega) with rfl | rfl | rfl | rfl <;> rfl) hA G
theorem comes_1 {Post : Tables → Env → Array Value → State → Outcome → State → Prop} (hpost : ∀ tb e args s v u, (limb_1_1.after args s (.returned v) u = true ∧ limb_1_2.after args s (.returned v) u = true ∧ True) → FramedW s (.returned v) u (Jvm.fieldLocs frame_1_writes args s ++ Jvm.arrayLocs frame_1_arrays args s ++ Jvm.staticLocs frame_1_statics s) 40 3328 → Post tb e args s (.returned v) u) :
    ArmFor flags0 classFile x code maxLocals ret World_1 tables_1 room_1 Calls_1 rest_1 Pre_1 Post := by
  intro l hfl _ _ p e ha hc hk s m args below hf hA hF happ hP
  obtain ⟨hcalls, hrest, hpre⟩ := hP
  obtain ⟨-, -, -, hnamed, -, -, -, hat⟩ := (Spec.applies_iff hf).mp happ
  obtain ⟨hg, hn⟩ := and_e (Cond.before_iff.mp (show (Jvm.Cond.and given_1 narrow_1).before args s = true from hpre))
  obtain ⟨hcnt, g0⟩ := and_e hg
  obtain ⟨a0, g1⟩ := and_e g0
  obtain ⟨a1, g2⟩ := and_e g1
  obtain ⟨a2, g3⟩ := and_e g2
  obtain ⟨a3, g4⟩ := and_e g3
  have a4 := g4
  obtain ⟨w0, w1, w2, w3, w4, rfl⟩ : ∃ w0 w1 w2 w3 w4 : Value, args = #[w0, w1, w2, w3, w4] := by
    have hs : args.size = 5 := by simpa [Cond.value, given_1] using hcnt
    obtain ⟨L⟩ := args
    match L, hs with
    | [w0, w1, w2, w3, w4], _ => exact ⟨w0, w1, w2, w3, w4, rfl⟩
  have hw := fun d (hd : d ∈ tables_1) => atoms_spec (ws := Jvm.Cond.code x code maxLocals ret :: tables_1) hat d (List.mem_cons_of_mem _ hd)
  obtain ⟨hsets, hown0⟩ := atoms_of _ (rest_1_c_eq ▸ (show rest_1_c.before _ s = true from hrest))
  have hfit : Fit s := fun {y c} hc i hi => by
    obtain ⟨ha, rfl⟩ := Array.getElem?_eq_some_iff.mp hc
    have q := List.all_eq_true.mp ((Array.all_eq_true_iff_forall_mem.mp hF) _ (Array.getElem_mem ha)) i (List.mem_range.mpr hi)
    simpa [Array.getElem?_eq_getElem hi] using q
  obtain ⟨i0, e0⟩ := is_v a0
  obtain rfl : w0 = (.int i0) := Option.some.inj e0
  obtain ⟨i1, e1⟩ := is_v a1
  obtain rfl : w1 = (.int i1) := Option.some.inj e1
  obtain ⟨i2, e2⟩ := is_v a2
  obtain rfl : w2 = (.int i2) := Option.some.inj e2
  obtain ⟨i3, e3⟩ := is_v a3
  obtain rfl : w3 = (.int i3) := Option.some.inj e3
  obtain ⟨i4, e4⟩ := is_v a4
  obtain rfl : w4 = (.int i4) := Option.some.inj e4
  have hcompact : Jvm.Lit.compactW.before _ s = true := (hsets _ (mm 2 rfl))
  obtain ⟨c1, ec1⟩ := is_v (Cond.before_iff.mp (hsets _ (mm 1 rfl)))
  have S1 : Sta s s.heap "java/lang/String" "COMPACT_STRINGS" "Z" (.int c1) := Sta.start ec1 (Or.inl (hsets _ (mm 0 rfl)))
  have hc1 : ¬ (c1 = (0 : Int32)) := gotF (Cond.eq_ints ec1 (Term.int_eval (0))) (not_v (Cond.before_iff.mp hcompact))
  obtain ⟨v2, ev2, hv2⟩ := isR_v (Cond.before_iff.mp (hsets _ (mm 8 rfl)))
  have S2 : Sta s s.heap "jdk/internal/util/Preconditions" "SIOOBE_FORMATTER" "Ljava/util/function/BiFunction;" v2 := Sta.start ev2 (Or.inl (hsets _ (mm 7 rfl)))
  have S3 : Sta s s.heap "java/lang/StringUTF16" "$assertionsDisabled" "Z" (.int 1) := Sta.start (Cond.eq_int (hsets _ (mm 12 rfl)) rfl) (Or.inl (hsets _ (mm 11 rfl)))
  have S4 : Sta s s.heap "java/lang/StringUTF16" "HI_BYTE_SHIFT" "I" (.int 0) := Sta.start (Cond.eq_int (hsets _ (mm 15 rfl)) rfl) (Or.inl (hsets _ (mm 14 rfl)))
  have S5 : Sta s s.heap "java/lang/StringUTF16" "LO_BYTE_SHIFT" "I" (.int 8) := Sta.start (Cond.eq_int (hsets _ (mm 18 rfl)) rfl) (Or.inl (hsets _ (mm 17 rfl)))
  have hEW : EW s _ consts_1 := (EW.cons (hw _ (mm 142 rfl)) (by decide) (EW.cons (hw _ (mm 188 rfl)) (by decide) (EW.cons (hw _ (mm 19 rfl)) (by decide) EW.nil)))
  have hCH : CHv s consts_1 s.vm s.heap := CHv.start hEW (show ∀ p ∈ consts_1, Jvm.Lit.constHeld s p.1 p.2 from hcalls.1) hcompact (hw _ (mm 20 rfl)) (hw _ (mm 7 rfl))
  obtain ⟨n, o, h1, h2, h3, _, L, rfl, ⟨so, N, -, ⟨w, rfl, rfl, -⟩, -, -⟩, hq⟩ := c_law l s _ hw hEW s.heap.size c1 hc1 S1 v2 hv2 S2 S3 S4 S5 tables_1 i0 i1 i2 i3 i4 (Old.start s) p e ha hc hk s m _ below hf ((Spec.applies_iff_loose hf).mp happ).1 ⟨rfl, State.Warmed39.refl s, rfl, hCH, fun _ q => nomatch q⟩ trivial
  refine ⟨n, _, h1, h2, h3, hpost _ _ _ _ _ _ ⟨Cond.after_iff.mpr rfl, Cond.after_iff.mpr (eq_i res_at (Term.int_eval (1)) rfl), trivial⟩ ⟨hq.1, hq.2.1, hq.2.2.1, (hq.2.2.2.sift fun y hy => Or.inr (N y hy)).mono (by decide) (by decide)⟩⟩
theorem main_1_1 : Claimed_1_1 := comes_1 fun _ _ _ _ _ _ h hF => ⟨h.1, hF⟩
theorem main_1_2 : Claimed_1_2 := comes_1 fun _ _ _ _ _ _ h hF => ⟨h.2.1, hF⟩
end Jvm.Pilot.@@N@@
namespace Jvm.Pilot.@@N@@
open Jvm Jvm.ClassFile Sem Op Lib Jvm.Free Jvm.Stand Jvm.Pilot.@@N@@.Jvm.D
/-! MADE BY PROGRAM (witnessworld.py) out of the Statement's table words and the real class files: 28 classes; the members and pool entries that the words name. The judged class is class 1, her method 1. -/
namespace start1
open Jvm.ClassFile
def u (s : String) : CpInfo := .utf8 (stringToUtf16 s)
/-- a pool by its gaps: so many unusable entries, then the entry; so many at the end -/
def gap : Nat → List CpInfo → List CpInfo
  | 0, r => r
  | n + 1, r => .unusable :: gap n r
def poolList (es : List (Nat × CpInfo)) (last : Nat) : List CpInfo := es.foldr (fun e r => gap e.1 (e.2 :: r)) (gap last [])
def pool (es : List (Nat × CpInfo)) (last : Nat) : Array CpInfo := ⟨poolList es last⟩
def fileOf (pool : Array CpInfo) (this : Nat) (attrs : Array Attribute := #[]) (ms : Array MethodInfo := #[]) (fl : Nat := 33) (sup : Nat := 0) (ifs : Array Nat := #[]) (fds : Array FieldInfo := #[]) : ClassFile where
  minorVersion := 0
  majorVersion := 65
  constantPool := pool
  accessFlags := fl
  thisClass := this
  superClass := sup
  interfaces := ifs
  fields := fds
  methods := ms
  attributes := attrs
def plain (name : String) (sup : Option ClassId) : Class where
  name := name
  kind := .ordinary
  loader := none
  accessFlags := 33
  super := sup
  interfaces := #[]
  cf := none
  fields := #[]
  methods := #[]
  instanceTypes := #[]
  staticTypes := #[]
  resolved := #[]
  callSites := []
  init := .initialized
  statics := none
  mirror := none

def pool0 : Array CpInfo := pool [(5, u "<init>"), (0, u "()V"), (1, .class_ 10), (1, u "java/lang/Object"), (85, u "clone"), (0, u "()Ljava/lang/Object;")] 26

def k0c0 : Code := { maxStack := 0, maxLocals := 1, code := object_method_1_code, exceptionTable := #[], attributes := #[] }
def k0m0 : Method := { name := "<init>", desc := "()V", sig := { parameters := [], returnType := none }, accessFlags := 1, code := some k0c0 }
def k0m1 : Method := { name := "clone", desc := "()Ljava/lang/Object;", sig := { parameters := [], returnType := some (.object "java/lang/Object") }, accessFlags := 260, code := none }
/-- java/lang/Object -/
def k0 : Class := { plain "java/lang/Object" none with
  accessFlags := 33
  interfaces := #[]
  cf := some (fileOf pool0 8 #[] #[{ accessFlags := 1, nameIndex := 5, descriptorIndex := 6, attributes := #[] }, { accessFlags := 260, nameIndex := 96, descriptorIndex := 97, attributes := #[] }] 33 0 #[] #[])
  fields := #[]
  methods := #[k0m0, k0m1]
  instanceTypes := #[]
  staticTypes := #[]
  resolved := Array.replicate 124 none
  statics := none }

def pool1 : Array CpInfo := pool [(2, .class_ 4), (1, u "java/lang/Object"), (0, u "<init>"), (0, u "()V"), (0, .integer 2147483647), (0, .methodref 9 10), (0, .class_ 11), (0, .nameAndType 12 13), (0, u "com/example/unhurried_frontier/unhurriedfrontier/TsvFileEscapedPinLaw"), (0, u "pick"), (0, u "(I)C"), (0, .class_ 15), (0, u "java/lang/String"), (0, .methodref 14 17), (0, .nameAndType 5 18), (0, u "([C)V"), (0, .methodref 20 21), (0, .class_ 22), (0, .nameAndType 23 24), (0, u "com/example/unhurried_frontier/unhurriedfrontier/TsvFile"), (0, u "escaped"), (0, u "(Ljava/lang/String;)Ljava/lang/String;"), (0, .methodref 9 26), (0, .nameAndType 27 28), (0, u "put"), (0, u "([CIC)I"), (0, .methodref 14 30), (0, .nameAndType 31 32), (0, u "length"), (0, u "()I"), (0, .methodref 9 34), (0, .nameAndType 35 36), (0, u "same"), (0, u "(Ljava/lang/String;[CII)Z"), (0, .methodref 14 38), (0, .nameAndType 39 13), (0, u "charAt"), (2, u "law"), (0, u "(IIIII)Z")] 5

def k1m0 : Method := { name := "<init>", desc := "()V", sig := { parameters := [], returnType := none }, accessFlags := 1, code := none }
def k1c1 : Code := { maxStack := 4, maxLocals := 14, code := code, exceptionTable := #[], attributes := #[] }
def k1m1 : Method := { name := "law", desc := "(IIIII)Z", sig := { parameters := [.int, .int, .int, .int, .int], returnType := some .boolean }, accessFlags := 9, code := some k1c1 }
def k1c2 : Code := { maxStack := 2, maxLocals := 2, code := method_3_code, exceptionTable := #[], attributes := #[] }
def k1m2 : Method := { name := "pick", desc := "(I)C", sig := { parameters := [.int], returnType := some .char }, accessFlags := 10, code := some k1c2 }
def k1c3 : Code := { maxStack := 3, maxLocals := 3, code := method_4_code, exceptionTable := #[], attributes := #[] }
def k1m3 : Method := { name := "put", desc := "([CIC)I", sig := { parameters := [(.array .char), .int, .char], returnType := some .int }, accessFlags := 10, code := some k1c3 }
def k1c4 : Code := { maxStack := 3, maxLocals := 4, code := method_5_code, exceptionTable := #[], attributes := #[] }
def k1m4 : Method := { name := "same", desc := "(Ljava/lang/String;[CII)Z", sig := { parameters := [(.object "java/lang/String"), (.array .char), .int, .int], returnType := some .boolean }, accessFlags := 10, code := some k1c4 }
/-- com/example/unhurried_frontier/unhurriedfrontier/TsvFileEscapedPinLaw -/
def k1 : Class := { plain "com/example/unhurried_frontier/unhurriedfrontier/TsvFileEscapedPinLaw" (some 0) with
  accessFlags := 49
  interfaces := #[]
  cf := some (fileOf pool1 9 #[] #[{ accessFlags := 1, nameIndex := 5, descriptorIndex := 6, attributes := #[] }, { accessFlags := 9, nameIndex := 42, descriptorIndex := 43, attributes := #[] }, { accessFlags := 10, nameIndex := 12, descriptorIndex := 13, attributes := #[] }, { accessFlags := 10, nameIndex := 27, descriptorIndex := 28, attributes := #[] }, { accessFlags := 10, nameIndex := 35, descriptorIndex := 36, attributes := #[] }] 49 2 #[] #[])
  fields := #[]
  methods := #[k1m0, k1m1, k1m2, k1m3, k1m4]
  instanceTypes := #[]
  staticTypes := #[]
  resolved := Array.replicate 49 none
  statics := none }

def pool2 : Array CpInfo := pool [(1, .class_ 2), (0, u "java/io/Serializable"), (0, .class_ 4), (0, u "java/lang/Object")] 2

/-- java/io/Serializable -/
def k2 : Class := { plain "java/io/Serializable" (some 0) with
  accessFlags := 1537
  interfaces := #[]
  cf := some (fileOf pool2 1 #[] #[] 1537 3 #[] #[])
  fields := #[]
  methods := #[]
  instanceTypes := #[]
  staticTypes := #[]
  resolved := Array.replicate 7 none
  statics := none }

def pool3 : Array CpInfo := pool [(1, .class_ 2), (0, u "java/lang/Comparable"), (0, .class_ 4), (0, u "java/lang/Object")] 7

/-- java/lang/Comparable -/
def k3 : Class := { plain "java/lang/Comparable" (some 0) with
  accessFlags := 1537
  interfaces := #[]
  cf := some (fileOf pool3 1 #[] #[] 1537 3 #[] #[])
  fields := #[]
  methods := #[]
  instanceTypes := #[]
  staticTypes := #[]
  resolved := Array.replicate 12 none
  statics := none }

def pool4 : Array CpInfo := pool [(2, .class_ 4), (1, u "java/lang/CharSequence"), (42, .class_ 48), (0, u "java/lang/CharSequence$1CodePointIterator"), (10, .class_ 60), (0, u "java/lang/CharSequence$1CharIterator"), (5, .class_ 67), (0, u "java/lang/Object")] 63

/-- java/lang/CharSequence -/
def k4 : Class := { plain "java/lang/CharSequence" (some 0) with
  accessFlags := 1537
  interfaces := #[]
  cf := some (fileOf pool4 2 #[.nestMembers #[47, 59]] #[] 1537 66 #[] #[])
  fields := #[]
  methods := #[]
  instanceTypes := #[]
  staticTypes := #[]
  resolved := Array.replicate 131 none
  statics := none }

def pool5 : Array CpInfo := pool [(1, .class_ 2), (0, u "java/lang/constant/Constable"), (0, .class_ 4), (0, u "java/lang/Object")] 6

/-- java/lang/constant/Constable -/
def k5 : Class := { plain "java/lang/constant/Constable" (some 0) with
  accessFlags := 1537
  interfaces := #[]
  cf := some (fileOf pool5 1 #[] #[] 1537 3 #[] #[])
  fields := #[]
  methods := #[]
  instanceTypes := #[]
  staticTypes := #[]
  resolved := Array.replicate 11 none
  statics := none }

def pool6 : Array CpInfo := pool [(1, .class_ 2), (0, u "java/lang/constant/ConstantDesc"), (0, .class_ 4), (0, u "java/lang/Object")] 32

/-- java/lang/constant/ConstantDesc -/
def k6 : Class := { plain "java/lang/constant/ConstantDesc" (some 0) with
  accessFlags := 1537
  interfaces := #[]
  cf := some (fileOf pool6 1 #[] #[] 1537 3 #[] #[])
  fields := #[]
  methods := #[]
  instanceTypes := #[]
  staticTypes := #[]
  resolved := Array.replicate 37 none
  statics := none }

def pool7 : Array CpInfo := pool [(1, .methodref 2 3), (0, .class_ 4), (0, .nameAndType 5 6), (0, u "java/lang/Object"), (0, u "<init>"), (0, u "()V"), (0, .string 8), (0, u ""), (0, .fieldref 10 11), (0, .class_ 12), (0, .nameAndType 13 14), (0, u "java/lang/String"), (0, u "value"), (0, u "[B"), (0, .fieldref 10 16), (0, .nameAndType 17 18), (0, u "coder"), (0, u "B"), (2, u "hash"), (0, u "I"), (2, u "hashIsZero"), (0, u "Z"), (0, .methodref 10 28), (0, .nameAndType 5 29), (0, u "([CIILjava/lang/Void;)V"), (6, u "checkBoundsOffCount"), (0, u "(III)I"), (0, .fieldref 10 39), (0, .nameAndType 40 26), (0, u "COMPACT_STRINGS"), (1, .class_ 44), (1, u "java/lang/StringUTF16"), (0, u "compress"), (1, .methodref 42 48), (0, .nameAndType 49 50), (0, u "coderFromArrayLen"), (0, u "([BI)B"), (3, .methodref 55 56), (0, .class_ 57), (0, .nameAndType 58 59), (0, u "java/util/Arrays"), (0, u "copyOfRange"), (0, u "([BII)[B"), (47, .class_ 109), (1, u "java/lang/StringLatin1"), (32, u "()Z"), (34, .methodref 42 178), (0, .nameAndType 45 179), (0, u "([CII)[B"), (154, u "()I"), (0, .methodref 10 336), (0, .nameAndType 17 337), (0, u "()B"), (2, u "()[B"), (22, u "([BI)C"), (27, u "(II)V"), (35, u "(I)C"), (61, .methodref 10 490), (0, .nameAndType 5 491), (0, u "(Ljava/lang/AbstractStringBuilder;Ljava/lang/Void;)V"), (0, .methodref 10 493), (0, .nameAndType 494 142), (0, u "isLatin1"), (0, .methodref 107 496), (0, .nameAndType 497 363), (0, u "charAt"), (0, .methodref 42 496), (2, u "checkIndex"), (3, .methodref 10 506), (0, .nameAndType 507 334), (0, u "length"), (41, .methodref 550 506), (0, .class_ 551), (0, u "java/lang/AbstractStringBuilder"), (0, .methodref 550 553), (0, .nameAndType 554 340), (0, u "getValue"), (20, .class_ 576), (0, u "java/lang/CharSequence"), (22, u "CASE_INSENSITIVE_ORDER"), (0, u "Ljava/util/Comparator;"), (32, .methodref 10 634), (0, .nameAndType 635 636), (0, u "indexOf"), (0, u "(II)I"), (0, .methodref 107 638), (0, .nameAndType 635 639), (0, u "([BIII)I"), (125, u "(I)I"), (244, u "([C)V"), (36, .methodref 550 493), (0, .fieldref 550 1049), (0, .nameAndType 1050 26), (0, u "maybeLatin1"), (2, .fieldref 1054 1055), (0, .class_ 1056), (0, .nameAndType 1057 1058), (0, u "jdk/internal/util/Preconditions"), (0, u "SIOOBE_FORMATTER"), (0, u "Ljava/util/function/BiFunction;"), (0, .methodref 1054 1060), (0, .nameAndType 501 1061), (0, u "(IILjava/util/function/BiFunction;)I"), (2, u "(IIILjava/util/function/BiFunction;)I"), (0, .methodref 1054 1066), (0, .nameAndType 1067 1064), (0, u "checkFromIndexSize"), (33, u "serialPersistentFields"), (0, u "[Ljava/io/ObjectStreamField;"), (0, .class_ 1104), (0, u "java/lang/String$CaseInsensitiveComparator"), (1, .class_ 1107), (0, u "java/io/Serializable"), (0, .class_ 1109), (0, u "java/lang/Comparable"), (0, .class_ 1111), (0, u "java/lang/constant/Constable"), (0, .class_ 1113), (0, u "java/lang/constant/ConstantDesc"), (2, u "serialVersionUID"), (0, u "J"), (3, u "REPL"), (0, u "C"), (2, u "LATIN1"), (1, u "UTF16"), (105, u "(Ljava/lang/StringBuilder;)V")] 217

def k7m0 : Method := { name := "<init>", desc := "()V", sig := { parameters := [], returnType := none }, accessFlags := 1, code := none }
def k7c1 : Code := { maxStack := 5, maxLocals := 2, code := jdk_42_method_3_code, exceptionTable := #[], attributes := #[] }
def k7m1 : Method := { name := "<init>", desc := "([C)V", sig := { parameters := [(.array .char)], returnType := none }, accessFlags := 1, code := some k7c1 }
def k7c2 : Code := { maxStack := 3, maxLocals := 2, code := jdk_42_method_53_code, exceptionTable := #[], attributes := #[] }
def k7m2 : Method := { name := "<init>", desc := "(Ljava/lang/StringBuilder;)V", sig := { parameters := [(.object "java/lang/StringBuilder")], returnType := none }, accessFlags := 1, code := some k7c2 }
def k7c3 : Code := { maxStack := 2, maxLocals := 1, code := jdk_42_method_54_code, exceptionTable := #[], attributes := #[] }
def k7m3 : Method := { name := "length", desc := "()I", sig := { parameters := [], returnType := some .int }, accessFlags := 1, code := some k7c3 }
def k7c4 : Code := { maxStack := 2, maxLocals := 2, code := jdk_42_method_56_code, exceptionTable := #[], attributes := #[] }
def k7m4 : Method := { name := "charAt", desc := "(I)C", sig := { parameters := [.int], returnType := some .char }, accessFlags := 1, code := some k7c4 }
def k7c5 : Code := { maxStack := 3, maxLocals := 2, code := jdk_42_method_79_code, exceptionTable := #[], attributes := #[] }
def k7m5 : Method := { name := "indexOf", desc := "(I)I", sig := { parameters := [.int], returnType := some .int }, accessFlags := 1, code := some k7c5 }
def k7c6 : Code := { maxStack := 4, maxLocals := 3, code := jdk_42_method_80_code, exceptionTable := #[], attributes := #[] }
def k7m6 : Method := { name := "indexOf", desc := "(II)I", sig := { parameters := [.int, .int], returnType := some .int }, accessFlags := 1, code := some k7c6 }
def k7c7 : Code := { maxStack := 4, maxLocals := 6, code := jdk_42_method_149_code, exceptionTable := #[], attributes := #[] }
def k7m7 : Method := { name := "<init>", desc := "([CIILjava/lang/Void;)V", sig := { parameters := [(.array .char), .int, .int, (.object "java/lang/Void")], returnType := none }, accessFlags := 2, code := some k7c7 }
def k7c8 : Code := { maxStack := 5, maxLocals := 5, code := jdk_42_method_150_code, exceptionTable := #[], attributes := #[] }
def k7m8 : Method := { name := "<init>", desc := "(Ljava/lang/AbstractStringBuilder;Ljava/lang/Void;)V", sig := { parameters := [(.object "java/lang/AbstractStringBuilder"), (.object "java/lang/Void")], returnType := none }, accessFlags := 0, code := some k7c8 }
def k7c9 : Code := { maxStack := 1, maxLocals := 1, code := jdk_42_method_152_code, exceptionTable := #[], attributes := #[] }
def k7m9 : Method := { name := "coder", desc := "()B", sig := { parameters := [], returnType := some .byte }, accessFlags := 0, code := some k7c9 }
def k7c10 : Code := { maxStack := 1, maxLocals := 1, code := jdk_42_method_154_code, exceptionTable := #[], attributes := #[] }
def k7m10 : Method := { name := "isLatin1", desc := "()Z", sig := { parameters := [], returnType := some .boolean }, accessFlags := 0, code := some k7c10 }
def k7c11 : Code := { maxStack := 3, maxLocals := 2, code := jdk_42_method_155_code, exceptionTable := #[], attributes := #[] }
def k7m11 : Method := { name := "checkIndex", desc := "(II)V", sig := { parameters := [.int, .int], returnType := none }, accessFlags := 8, code := some k7c11 }
def k7c12 : Code := { maxStack := 4, maxLocals := 3, code := jdk_42_method_157_code, exceptionTable := #[], attributes := #[] }
def k7m12 : Method := { name := "checkBoundsOffCount", desc := "(III)I", sig := { parameters := [.int, .int, .int], returnType := some .int }, accessFlags := 8, code := some k7c12 }
/-- java/lang/String -/
def k7 : Class := { plain "java/lang/String" (some 0) with
  accessFlags := 49
  interfaces := #[2, 3, 4, 5, 6]
  cf := some (fileOf pool7 10 #[.nestMembers #[1103]] #[{ accessFlags := 1, nameIndex := 5, descriptorIndex := 6, attributes := #[] }, { accessFlags := 1, nameIndex := 5, descriptorIndex := 1010, attributes := #[] }, { accessFlags := 1, nameIndex := 5, descriptorIndex := 1233, attributes := #[] }, { accessFlags := 1, nameIndex := 507, descriptorIndex := 334, attributes := #[] }, { accessFlags := 1, nameIndex := 497, descriptorIndex := 427, attributes := #[] }, { accessFlags := 1, nameIndex := 635, descriptorIndex := 765, attributes := #[] }, { accessFlags := 1, nameIndex := 635, descriptorIndex := 636, attributes := #[] }, { accessFlags := 2, nameIndex := 5, descriptorIndex := 29, attributes := #[] }, { accessFlags := 0, nameIndex := 5, descriptorIndex := 491, attributes := #[] }, { accessFlags := 0, nameIndex := 17, descriptorIndex := 337, attributes := #[] }, { accessFlags := 0, nameIndex := 494, descriptorIndex := 142, attributes := #[] }, { accessFlags := 8, nameIndex := 501, descriptorIndex := 391, attributes := #[] }, { accessFlags := 8, nameIndex := 36, descriptorIndex := 37, attributes := #[] }] 49 2 #[1106, 1108, 575, 1110, 1112] #[{ accessFlags := 18, nameIndex := 13, descriptorIndex := 14, attributes := #[] }, { accessFlags := 18, nameIndex := 17, descriptorIndex := 18, attributes := #[] }, { accessFlags := 2, nameIndex := 21, descriptorIndex := 22, attributes := #[] }, { accessFlags := 2, nameIndex := 25, descriptorIndex := 26, attributes := #[] }, { accessFlags := 26, nameIndex := 1116, descriptorIndex := 1117, attributes := #[] }, { accessFlags := 24, nameIndex := 40, descriptorIndex := 26, attributes := #[] }, { accessFlags := 26, nameIndex := 1101, descriptorIndex := 1102, attributes := #[] }, { accessFlags := 26, nameIndex := 1121, descriptorIndex := 1122, attributes := #[] }, { accessFlags := 25, nameIndex := 599, descriptorIndex := 600, attributes := #[] }, { accessFlags := 24, nameIndex := 1125, descriptorIndex := 18, attributes := #[] }, { accessFlags := 24, nameIndex := 1127, descriptorIndex := 18, attributes := #[] }])
  fields := #[{ name := "value", type := (.array .byte), accessFlags := 18, slot := 0, constantValue := 0 }, { name := "coder", type := .byte, accessFlags := 18, slot := 1, constantValue := 0 }, { name := "hash", type := .int, accessFlags := 2, slot := 2, constantValue := 0 }, { name := "hashIsZero", type := .boolean, accessFlags := 2, slot := 3, constantValue := 0 }, { name := "serialVersionUID", type := .long, accessFlags := 26, slot := 0, constantValue := 0 }, { name := "COMPACT_STRINGS", type := .boolean, accessFlags := 24, slot := 1, constantValue := 0 }, { name := "serialPersistentFields", type := (.array (.object "java/io/ObjectStreamField")), accessFlags := 26, slot := 2, constantValue := 0 }, { name := "REPL", type := .char, accessFlags := 26, slot := 3, constantValue := 0 }, { name := "CASE_INSENSITIVE_ORDER", type := (.object "java/util/Comparator"), accessFlags := 25, slot := 4, constantValue := 0 }, { name := "LATIN1", type := .byte, accessFlags := 24, slot := 5, constantValue := 0 }, { name := "UTF16", type := .byte, accessFlags := 24, slot := 6, constantValue := 0 }]
  methods := #[k7m0, k7m1, k7m2, k7m3, k7m4, k7m5, k7m6, k7m7, k7m8, k7m9, k7m10, k7m11, k7m12]
  instanceTypes := #[(.array .byte), .byte, .int, .boolean]
  staticTypes := #[.long, .boolean, (.array (.object "java/io/ObjectStreamField")), .char, (.object "java/util/Comparator"), .byte, .byte]
  resolved := Array.replicate 1451 none
  statics := some 0 }

def pool8 : Array CpInfo := pool [(1, .class_ 2), (0, u "java/lang/AutoCloseable"), (0, .class_ 4), (0, u "java/lang/Object")] 7

/-- java/lang/AutoCloseable -/
def k8 : Class := { plain "java/lang/AutoCloseable" (some 0) with
  accessFlags := 1537
  interfaces := #[]
  cf := some (fileOf pool8 1 #[] #[] 1537 3 #[] #[])
  fields := #[]
  methods := #[]
  instanceTypes := #[]
  staticTypes := #[]
  resolved := Array.replicate 12 none
  statics := none }

def pool9 : Array CpInfo := pool [(1, .class_ 2), (0, u "java/io/Closeable"), (0, .class_ 4), (0, u "java/lang/Object"), (0, .class_ 6), (0, u "java/lang/AutoCloseable")] 7

/-- java/io/Closeable -/
def k9 : Class := { plain "java/io/Closeable" (some 0) with
  accessFlags := 1537
  interfaces := #[8]
  cf := some (fileOf pool9 1 #[] #[] 1537 3 #[5] #[])
  fields := #[]
  methods := #[]
  instanceTypes := #[]
  staticTypes := #[]
  resolved := Array.replicate 14 none
  statics := none }

def pool10 : Array CpInfo := pool [(2, .class_ 4), (1, u "java/lang/Object"), (0, u "<init>"), (5, .class_ 13), (1, u "com/example/unhurried_frontier/unhurriedfrontier/TsvFile"), (0, u "added"), (0, u "Ljava/io/ByteArrayOutputStream;"), (8, u "taken"), (0, u "Ljava/nio/ByteBuffer;"), (2, u "forced"), (0, u "Z"), (2, u "file"), (0, u "Ljava/nio/file/Path;"), (2, u "channel"), (0, u "Ljava/nio/channels/FileChannel;"), (2, u "length"), (0, u "J"), (51, .class_ 95), (1, u "java/lang/String"), (22, u "()I"), (18, u "(Ljava/lang/String;)Ljava/lang/String;"), (18, .methodref 93 157), (0, .nameAndType 158 159), (0, u "indexOf"), (0, u "(I)I"), (9, .nameAndType 170 171), (0, u "toString"), (0, u "()Ljava/lang/String;"), (10, .class_ 183), (0, u "java/lang/StringBuilder"), (0, .methodref 93 185), (0, .nameAndType 40 118), (0, .methodref 182 187), (0, .nameAndType 5 188), (0, u "(I)V"), (0, .methodref 93 190), (0, .nameAndType 191 192), (0, u "charAt"), (0, u "(I)C"), (0, .string 194), (0, u "\\\t\n\r"), (0, .methodref 182 196), (0, .nameAndType 197 198), (0, u "append"), (0, u "(C)Ljava/lang/StringBuilder;"), (0, .string 200), (0, u "\\tnr"), (0, .methodref 182 169), (35, u "forceFailure"), (0, u "Ljava/io/IOException;"), (8, .class_ 248), (0, u "com/example/unhurried_frontier/unhurriedfrontier/TsvFile$Reader"), (6, .class_ 256), (0, u "java/io/Closeable"), (0, u "ESCAPED"), (0, u "Ljava/lang/String;"), (1, u "ESCAPES"), (0, u "NOT_AS_WRITTEN"), (16, u "escaped")] 27

def k10c0 : Code := { maxStack := 3, maxLocals := 5, code := prog_8_method_5_code, exceptionTable := #[], attributes := #[] }
def k10m0 : Method := { name := "escaped", desc := "(Ljava/lang/String;)Ljava/lang/String;", sig := { parameters := [(.object "java/lang/String")], returnType := some (.object "java/lang/String") }, accessFlags := 8, code := some k10c0 }
/-- com/example/unhurried_frontier/unhurriedfrontier/TsvFile -/
def k10 : Class := { plain "com/example/unhurried_frontier/unhurriedfrontier/TsvFile" (some 0) with
  accessFlags := 48
  interfaces := #[9]
  cf := some (fileOf pool10 11 #[.nestMembers #[247]] #[{ accessFlags := 8, nameIndex := 278, descriptorIndex := 137, attributes := #[] }] 48 2 #[255] #[{ accessFlags := 26, nameIndex := 257, descriptorIndex := 258, attributes := #[] }, { accessFlags := 26, nameIndex := 260, descriptorIndex := 258, attributes := #[] }, { accessFlags := 26, nameIndex := 261, descriptorIndex := 258, attributes := #[] }, { accessFlags := 18, nameIndex := 32, descriptorIndex := 33, attributes := #[] }, { accessFlags := 18, nameIndex := 36, descriptorIndex := 37, attributes := #[] }, { accessFlags := 18, nameIndex := 14, descriptorIndex := 15, attributes := #[] }, { accessFlags := 2, nameIndex := 24, descriptorIndex := 25, attributes := #[] }, { accessFlags := 2, nameIndex := 40, descriptorIndex := 41, attributes := #[] }, { accessFlags := 2, nameIndex := 28, descriptorIndex := 29, attributes := #[] }, { accessFlags := 2, nameIndex := 237, descriptorIndex := 238, attributes := #[] }])
  fields := #[{ name := "ESCAPED", type := (.object "java/lang/String"), accessFlags := 26, slot := 0, constantValue := 0 }, { name := "ESCAPES", type := (.object "java/lang/String"), accessFlags := 26, slot := 1, constantValue := 0 }, { name := "NOT_AS_WRITTEN", type := (.object "java/lang/String"), accessFlags := 26, slot := 2, constantValue := 0 }, { name := "file", type := (.object "java/nio/file/Path"), accessFlags := 18, slot := 0, constantValue := 0 }, { name := "channel", type := (.object "java/nio/channels/FileChannel"), accessFlags := 18, slot := 1, constantValue := 0 }, { name := "added", type := (.object "java/io/ByteArrayOutputStream"), accessFlags := 18, slot := 2, constantValue := 0 }, { name := "taken", type := (.object "java/nio/ByteBuffer"), accessFlags := 2, slot := 3, constantValue := 0 }, { name := "length", type := .long, accessFlags := 2, slot := 4, constantValue := 0 }, { name := "forced", type := .boolean, accessFlags := 2, slot := 5, constantValue := 0 }, { name := "forceFailure", type := (.object "java/io/IOException"), accessFlags := 2, slot := 6, constantValue := 0 }]
  methods := #[k10m0]
  instanceTypes := #[(.object "java/nio/file/Path"), (.object "java/nio/channels/FileChannel"), (.object "java/io/ByteArrayOutputStream"), (.object "java/nio/ByteBuffer"), .long, .boolean, (.object "java/io/IOException")]
  staticTypes := #[(.object "java/lang/String"), (.object "java/lang/String"), (.object "java/lang/String")]
  resolved := Array.replicate 306 none
  statics := none }

def pool11 : Array CpInfo := pool [(1, .class_ 2), (0, u "java/lang/Appendable"), (0, .class_ 4), (0, u "java/lang/Object")] 9

/-- java/lang/Appendable -/
def k11 : Class := { plain "java/lang/Appendable" (some 0) with
  accessFlags := 1537
  interfaces := #[]
  cf := some (fileOf pool11 1 #[] #[] 1537 3 #[] #[])
  fields := #[]
  methods := #[]
  instanceTypes := #[]
  staticTypes := #[]
  resolved := Array.replicate 14 none
  statics := none }

def pool12 : Array CpInfo := pool [(1, .class_ 2), (0, u "java/lang/String"), (0, .methodref 4 5), (0, .class_ 6), (0, .nameAndType 7 8), (0, u "java/lang/Object"), (0, u "<init>"), (0, u "()V"), (1, .class_ 12), (1, u "java/lang/AbstractStringBuilder"), (0, u "EMPTYVALUE"), (0, u "[B"), (0, .fieldref 10 16), (0, .nameAndType 17 14), (0, u "value"), (0, .fieldref 1 19), (0, .nameAndType 20 21), (0, u "COMPACT_STRINGS"), (0, u "Z"), (0, .fieldref 10 23), (0, .nameAndType 24 25), (0, u "coder"), (0, u "B"), (0, .methodref 27 28), (0, .class_ 29), (0, .nameAndType 30 31), (0, u "java/lang/StringUTF16"), (0, u "newBytesFor"), (0, u "(I)[B"), (2, u "length"), (0, u "()I"), (3, .integer 2147483647), (5, u "append"), (2, .class_ 49), (0, u "java/lang/CharSequence"), (25, u "maybeLatin1"), (3, .fieldref 10 80), (0, .nameAndType 81 82), (0, u "count"), (0, u "I"), (0, .methodref 10 84), (0, .nameAndType 85 86), (0, u "isLatin1"), (0, u "()Z"), (1, .class_ 90), (1, u "java/lang/StringLatin1"), (9, .methodref 10 101), (0, .nameAndType 102 103), (0, u "ensureCapacityInternal"), (0, u "(I)V"), (0, .methodref 10 105), (0, .nameAndType 106 107), (0, u "newCapacity"), (0, u "(I)I"), (0, .methodref 109 110), (0, .class_ 111), (0, .nameAndType 112 113), (0, u "java/util/Arrays"), (0, u "copyOf"), (0, u "([BI)[B"), (0, .methodref 115 116), (0, .class_ 117), (0, .nameAndType 118 119), (0, u "jdk/internal/util/ArraysSupport"), (0, u "newLength"), (0, u "(III)I"), (5, .methodref 88 126), (0, .nameAndType 127 128), (0, u "inflate"), (0, u "([BI[BII)V"), (7, u "([BII)V"), (54, .methodref 88 192), (0, .nameAndType 193 194), (0, u "canEncode"), (0, u "(C)Z"), (0, .methodref 10 196), (0, .nameAndType 127 8), (0, .methodref 27 198), (0, .nameAndType 199 136), (0, u "putCharSB"), (92, u "(C)Ljava/lang/AbstractStringBuilder;"), (110, u "()[B"), (40, .class_ 445), (0, u "java/lang/Appendable"), (106, u "getValue")] 56

def k12m0 : Method := { name := "<init>", desc := "()V", sig := { parameters := [], returnType := none }, accessFlags := 0, code := none }
def k12c1 : Code := { maxStack := 2, maxLocals := 2, code := jdk_68_method_2_code, exceptionTable := #[], attributes := #[] }
def k12m1 : Method := { name := "<init>", desc := "(I)V", sig := { parameters := [.int], returnType := none }, accessFlags := 0, code := some k12c1 }
def k12c2 : Code := { maxStack := 1, maxLocals := 1, code := jdk_68_method_6_code, exceptionTable := #[], attributes := #[] }
def k12m2 : Method := { name := "length", desc := "()I", sig := { parameters := [], returnType := some .int }, accessFlags := 1, code := some k12c2 }
def k12c3 : Code := { maxStack := 4, maxLocals := 3, code := jdk_68_method_9_code, exceptionTable := #[], attributes := #[] }
def k12m3 : Method := { name := "ensureCapacityInternal", desc := "(I)V", sig := { parameters := [.int], returnType := none }, accessFlags := 2, code := some k12c3 }
def k12c4 : Code := { maxStack := 5, maxLocals := 6, code := jdk_68_method_10_code, exceptionTable := #[], attributes := #[] }
def k12m4 : Method := { name := "newCapacity", desc := "(I)I", sig := { parameters := [.int], returnType := some .int }, accessFlags := 2, code := some k12c4 }
def k12c5 : Code := { maxStack := 5, maxLocals := 2, code := jdk_68_method_11_code, exceptionTable := #[], attributes := #[] }
def k12m5 : Method := { name := "inflate", desc := "()V", sig := { parameters := [], returnType := none }, accessFlags := 2, code := some k12c5 }
def k12c6 : Code := { maxStack := 5, maxLocals := 2, code := jdk_68_method_31_code, exceptionTable := #[], attributes := #[] }
def k12m6 : Method := { name := "append", desc := "(C)Ljava/lang/AbstractStringBuilder;", sig := { parameters := [.char], returnType := some (.object "java/lang/AbstractStringBuilder") }, accessFlags := 1, code := some k12c6 }
def k12c7 : Code := { maxStack := 1, maxLocals := 1, code := jdk_68_method_64_code, exceptionTable := #[], attributes := #[] }
def k12m7 : Method := { name := "getValue", desc := "()[B", sig := { parameters := [], returnType := some (.array .byte) }, accessFlags := 16, code := some k12c7 }
def k12c8 : Code := { maxStack := 1, maxLocals := 1, code := jdk_68_method_68_code, exceptionTable := #[], attributes := #[] }
def k12m8 : Method := { name := "isLatin1", desc := "()Z", sig := { parameters := [], returnType := some .boolean }, accessFlags := 16, code := some k12c8 }
/-- java/lang/AbstractStringBuilder -/
def k12 : Class := { plain "java/lang/AbstractStringBuilder" (some 0) with
  accessFlags := 1056
  interfaces := #[11, 4]
  cf := some (fileOf pool12 10 #[] #[{ accessFlags := 0, nameIndex := 7, descriptorIndex := 8, attributes := #[] }, { accessFlags := 0, nameIndex := 7, descriptorIndex := 103, attributes := #[] }, { accessFlags := 1, nameIndex := 34, descriptorIndex := 35, attributes := #[] }, { accessFlags := 2, nameIndex := 102, descriptorIndex := 103, attributes := #[] }, { accessFlags := 2, nameIndex := 106, descriptorIndex := 107, attributes := #[] }, { accessFlags := 2, nameIndex := 127, descriptorIndex := 8, attributes := #[] }, { accessFlags := 1, nameIndex := 45, descriptorIndex := 292, attributes := #[] }, { accessFlags := 16, nameIndex := 552, descriptorIndex := 403, attributes := #[] }, { accessFlags := 16, nameIndex := 85, descriptorIndex := 86, attributes := #[] }] 1056 4 #[444, 48] #[{ accessFlags := 0, nameIndex := 17, descriptorIndex := 14, attributes := #[] }, { accessFlags := 0, nameIndex := 24, descriptorIndex := 25, attributes := #[] }, { accessFlags := 0, nameIndex := 75, descriptorIndex := 21, attributes := #[] }, { accessFlags := 0, nameIndex := 81, descriptorIndex := 82, attributes := #[] }, { accessFlags := 26, nameIndex := 13, descriptorIndex := 14, attributes := #[] }])
  fields := #[{ name := "value", type := (.array .byte), accessFlags := 0, slot := 0, constantValue := 0 }, { name := "coder", type := .byte, accessFlags := 0, slot := 1, constantValue := 0 }, { name := "maybeLatin1", type := .boolean, accessFlags := 0, slot := 2, constantValue := 0 }, { name := "count", type := .int, accessFlags := 0, slot := 3, constantValue := 0 }, { name := "EMPTYVALUE", type := (.array .byte), accessFlags := 26, slot := 0, constantValue := 0 }]
  methods := #[k12m0, k12m1, k12m2, k12m3, k12m4, k12m5, k12m6, k12m7, k12m8]
  instanceTypes := #[(.array .byte), .byte, .boolean, .int]
  staticTypes := #[(.array .byte)]
  resolved := Array.replicate 609 none
  statics := none }

def pool13 : Array CpInfo := pool [(1, .methodref 2 3), (0, .class_ 4), (0, .nameAndType 5 6), (0, u "java/lang/AbstractStringBuilder"), (0, u "<init>"), (0, u "(I)V"), (11, .class_ 20), (1, u "java/lang/String"), (3, .class_ 26), (1, u "java/lang/StringBuilder"), (0, u "append"), (22, .methodref 2 51), (0, .nameAndType 27 52), (0, u "(C)Ljava/lang/AbstractStringBuilder;"), (84, .methodref 18 138), (0, .nameAndType 5 139), (0, u "(Ljava/lang/StringBuilder;)V"), (5, u "()V"), (10, u "()I"), (129, u "(C)Ljava/lang/StringBuilder;"), (56, .methodref 2 344), (0, .nameAndType 345 156), (0, u "length"), (3, .class_ 350), (0, u "java/lang/Appendable"), (0, .class_ 352), (0, u "java/io/Serializable"), (0, .class_ 354), (0, u "java/lang/Comparable"), (0, .class_ 356), (0, u "java/lang/CharSequence"), (0, u "serialVersionUID"), (0, u "J"), (40, u "toString"), (0, u "()Ljava/lang/String;")] 21

def k13m0 : Method := { name := "<init>", desc := "()V", sig := { parameters := [], returnType := none }, accessFlags := 1, code := none }
def k13c1 : Code := { maxStack := 2, maxLocals := 2, code := jdk_67_method_2_code, exceptionTable := #[], attributes := #[] }
def k13m1 : Method := { name := "<init>", desc := "(I)V", sig := { parameters := [.int], returnType := none }, accessFlags := 1, code := some k13c1 }
def k13c2 : Code := { maxStack := 2, maxLocals := 2, code := jdk_67_method_14_code, exceptionTable := #[], attributes := #[] }
def k13m2 : Method := { name := "append", desc := "(C)Ljava/lang/StringBuilder;", sig := { parameters := [.char], returnType := some (.object "java/lang/StringBuilder") }, accessFlags := 1, code := some k13c2 }
def k13c3 : Code := { maxStack := 3, maxLocals := 1, code := jdk_67_method_42_code, exceptionTable := #[], attributes := #[] }
def k13m3 : Method := { name := "toString", desc := "()Ljava/lang/String;", sig := { parameters := [], returnType := some (.object "java/lang/String") }, accessFlags := 1, code := some k13c3 }
def k13c4 : Code := { maxStack := 1, maxLocals := 1, code := jdk_67_method_93_code, exceptionTable := #[], attributes := #[] }
def k13m4 : Method := { name := "length", desc := "()I", sig := { parameters := [], returnType := some .int }, accessFlags := 4161, code := some k13c4 }
/-- java/lang/StringBuilder -/
def k13 : Class := { plain "java/lang/StringBuilder" (some 12) with
  accessFlags := 49
  interfaces := #[11, 2, 3, 4]
  cf := some (fileOf pool13 24 #[] #[{ accessFlags := 1, nameIndex := 5, descriptorIndex := 145, attributes := #[] }, { accessFlags := 1, nameIndex := 5, descriptorIndex := 6, attributes := #[] }, { accessFlags := 1, nameIndex := 27, descriptorIndex := 286, attributes := #[] }, { accessFlags := 1, nameIndex := 399, descriptorIndex := 400, attributes := #[] }, { accessFlags := 4161, nameIndex := 345, descriptorIndex := 156, attributes := #[] }] 49 2 #[349, 351, 353, 355] #[{ accessFlags := 24, nameIndex := 357, descriptorIndex := 358, attributes := #[] }])
  fields := #[{ name := "serialVersionUID", type := .long, accessFlags := 24, slot := 0, constantValue := 0 }]
  methods := #[k13m0, k13m1, k13m2, k13m3, k13m4]
  instanceTypes := #[(.array .byte), .byte, .boolean, .int]
  staticTypes := #[.long]
  resolved := Array.replicate 422 none
  statics := none }

def pool14 : Array CpInfo := pool [(2, .class_ 4), (1, u "java/lang/Object"), (0, u "<init>"), (0, u "()V"), (7, .class_ 16), (1, u "java/util/Arrays"), (57, .class_ 76), (1, u "java/util/Arrays$NaturalOrder"), (32, u "()Ljava/lang/Object;"), (3, .class_ 115), (1, u "java/util/Arrays$LegacyMergeSort"), (1, u "Z"), (10, .nameAndType 129 109), (0, u "clone"), (9, u "copyOfRange"), (10, .methodref 151 152), (0, .class_ 153), (0, .nameAndType 154 155), (0, u "java/lang/System"), (0, u "arraycopy"), (0, u "(Ljava/lang/Object;ILjava/lang/Object;II)V"), (146, u "copyOf"), (1, .methodref 305 306), (0, .class_ 307), (0, .nameAndType 308 309), (0, u "java/lang/Math"), (0, u "min"), (0, u "(II)I"), (0, .methodref 311 128), (0, .class_ 312), (0, u "[B"), (26, .methodref 14 340), (0, .nameAndType 341 342), (0, u "copyOfRangeByte"), (0, u "([BII)[B"), (0, .methodref 14 344), (0, .nameAndType 345 346), (0, u "checkLength"), (0, u "(II)V"), (28, .class_ 376), (0, u "java/util/Arrays$ArrayList"), (68, u "$assertionsDisabled"), (269, u "MIN_ARRAY_SORT_GRAN"), (0, u "I"), (2, u "INSERTIONSORT_THRESHOLD"), (149, u "([BI)[B"), (105, .class_ 976), (0, u "java/util/Arrays$ArrayItr")] 52

def k14m0 : Method := { name := "<init>", desc := "()V", sig := { parameters := [], returnType := none }, accessFlags := 2, code := none }
def k14c1 : Code := { maxStack := 6, maxLocals := 3, code := jdk_65_method_121_code, exceptionTable := #[], attributes := #[] }
def k14m1 : Method := { name := "copyOf", desc := "([BI)[B", sig := { parameters := [(.array .byte), .int], returnType := some (.array .byte) }, accessFlags := 9, code := some k14c1 }
def k14c2 : Code := { maxStack := 4, maxLocals := 2, code := jdk_65_method_131_code, exceptionTable := #[], attributes := #[] }
def k14m2 : Method := { name := "checkLength", desc := "(II)V", sig := { parameters := [.int, .int], returnType := none }, accessFlags := 10, code := some k14c2 }
def k14c3 : Code := { maxStack := 3, maxLocals := 3, code := jdk_65_method_132_code, exceptionTable := #[], attributes := #[] }
def k14m3 : Method := { name := "copyOfRange", desc := "([BII)[B", sig := { parameters := [(.array .byte), .int, .int], returnType := some (.array .byte) }, accessFlags := 9, code := some k14c3 }
def k14c4 : Code := { maxStack := 6, maxLocals := 5, code := jdk_65_method_133_code, exceptionTable := #[], attributes := #[] }
def k14m4 : Method := { name := "copyOfRangeByte", desc := "([BII)[B", sig := { parameters := [(.array .byte), .int, .int], returnType := some (.array .byte) }, accessFlags := 10, code := some k14c4 }
/-- java/util/Arrays -/
def k14 : Class := { plain "java/util/Arrays" (some 0) with
  accessFlags := 49
  interfaces := #[]
  cf := some (fileOf pool14 14 #[.nestMembers #[975, 375, 113, 74]] #[{ accessFlags := 2, nameIndex := 5, descriptorIndex := 6, attributes := #[] }, { accessFlags := 9, nameIndex := 302, descriptorIndex := 869, attributes := #[] }, { accessFlags := 10, nameIndex := 345, descriptorIndex := 346, attributes := #[] }, { accessFlags := 9, nameIndex := 139, descriptorIndex := 342, attributes := #[] }, { accessFlags := 10, nameIndex := 341, descriptorIndex := 342, attributes := #[] }] 49 2 #[] #[{ accessFlags := 26, nameIndex := 715, descriptorIndex := 716, attributes := #[] }, { accessFlags := 26, nameIndex := 719, descriptorIndex := 716, attributes := #[] }, { accessFlags := 4120, nameIndex := 445, descriptorIndex := 117, attributes := #[] }])
  fields := #[{ name := "MIN_ARRAY_SORT_GRAN", type := .int, accessFlags := 26, slot := 0, constantValue := 0 }, { name := "INSERTIONSORT_THRESHOLD", type := .int, accessFlags := 26, slot := 1, constantValue := 0 }, { name := "$assertionsDisabled", type := .boolean, accessFlags := 4120, slot := 2, constantValue := 0 }]
  methods := #[k14m0, k14m1, k14m2, k14m3, k14m4]
  instanceTypes := #[]
  staticTypes := #[.int, .int, .boolean]
  resolved := Array.replicate 1029 none
  statics := none }

def pool15 : Array CpInfo := pool [(1, .class_ 2), (0, u "java/lang/Cloneable"), (0, .class_ 4), (0, u "java/lang/Object")] 2

/-- java/lang/Cloneable -/
def k15 : Class := { plain "java/lang/Cloneable" (some 0) with
  accessFlags := 1537
  interfaces := #[]
  cf := some (fileOf pool15 1 #[] #[] 1537 3 #[] #[])
  fields := #[]
  methods := #[]
  instanceTypes := #[]
  staticTypes := #[]
  resolved := Array.replicate 7 none
  statics := none }

def pool16 : Array CpInfo := pool [(3, .class_ 4), (0, u "java/lang/String"), (1, .class_ 8), (1, u "java/lang/Object"), (0, u "<init>"), (0, u "()V"), (0, .methodref 12 13), (0, .class_ 14), (0, .nameAndType 15 16), (0, u "java/lang/StringUTF16"), (0, u "newBytesLength"), (0, u "(I)I"), (3, .integer 1073741823), (23, .fieldref 12 45), (0, .nameAndType 46 47), (0, u "$assertionsDisabled"), (0, u "Z"), (0, .methodref 12 49), (0, .nameAndType 50 51), (0, u "length"), (0, u "([B)I"), (7, .fieldref 12 60), (0, .nameAndType 61 62), (0, u "HI_BYTE_SHIFT"), (0, u "I"), (0, .fieldref 12 64), (0, .nameAndType 65 62), (0, u "LO_BYTE_SHIFT"), (1, .methodref 12 68), (0, .nameAndType 69 70), (0, u "checkIndex"), (0, u "(I[B)V"), (0, .methodref 12 72), (0, .nameAndType 73 74), (0, u "getChar"), (0, u "([BI)C"), (24, u "(II[B)V"), (7, .methodref 12 108), (0, .nameAndType 109 110), (0, u "newBytesFor"), (0, u "(I)[B"), (0, .methodref 12 112), (0, .nameAndType 113 114), (0, u "putChar"), (0, u "([BII)V"), (0, .methodref 12 116), (0, .nameAndType 117 118), (0, u "compress"), (0, u "([CI[BII)I"), (0, .methodref 12 120), (0, .nameAndType 121 122), (0, u "toBytes"), (0, u "([CII)[B"), (17, u "inflate"), (0, u "([BI[BII)V"), (31, .methodref 12 174), (0, .nameAndType 175 99), (0, u "checkBoundsOffCount"), (85, u "coderFromArrayLen"), (0, u "([BI)B"), (18, u "(III)I"), (87, .class_ 371), (1, u "java/lang/StringUTF16$LinesSpliterator"), (20, u "charAt"), (21, .methodref 3 415), (0, .nameAndType 69 416), (0, u "(II)V"), (2, .methodref 3 420), (0, .nameAndType 175 281), (9, u "MAX_LENGTH"), (155, u "putCharSB"), (40, .class_ 628), (0, u "java/lang/StringUTF16$CodePointsSpliterator"), (0, .class_ 630), (0, u "java/lang/StringUTF16$CharsSpliterator")] 4

def k16m0 : Method := { name := "<init>", desc := "()V", sig := { parameters := [], returnType := none }, accessFlags := 0, code := none }
def k16c1 : Code := { maxStack := 1, maxLocals := 1, code := jdk_52_method_2_code, exceptionTable := #[], attributes := #[] }
def k16m1 : Method := { name := "newBytesFor", desc := "(I)[B", sig := { parameters := [.int], returnType := some (.array .byte) }, accessFlags := 9, code := some k16c1 }
def k16c2 : Code := { maxStack := 4, maxLocals := 1, code := jdk_52_method_3_code, exceptionTable := #[], attributes := #[] }
def k16m2 : Method := { name := "newBytesLength", desc := "(I)I", sig := { parameters := [.int], returnType := some .int }, accessFlags := 9, code := some k16c2 }
def k16c3 : Code := { maxStack := 4, maxLocals := 3, code := jdk_52_method_4_code, exceptionTable := #[], attributes := #[] }
def k16m3 : Method := { name := "putChar", desc := "([BII)V", sig := { parameters := [(.array .byte), .int, .int], returnType := none }, accessFlags := 8, code := some k16c3 }
def k16c4 : Code := { maxStack := 3, maxLocals := 2, code := jdk_52_method_5_code, exceptionTable := #[], attributes := #[] }
def k16m4 : Method := { name := "getChar", desc := "([BI)C", sig := { parameters := [(.array .byte), .int], returnType := some .char }, accessFlags := 8, code := some k16c4 }
def k16c5 : Code := { maxStack := 2, maxLocals := 1, code := jdk_52_method_6_code, exceptionTable := #[], attributes := #[] }
def k16m5 : Method := { name := "length", desc := "([B)I", sig := { parameters := [(.array .byte)], returnType := some .int }, accessFlags := 9, code := some k16c5 }
def k16c6 : Code := { maxStack := 4, maxLocals := 5, code := jdk_52_method_14_code, exceptionTable := #[], attributes := #[] }
def k16m6 : Method := { name := "toBytes", desc := "([CII)[B", sig := { parameters := [(.array .char), .int, .int], returnType := some (.array .byte) }, accessFlags := 9, code := some k16c6 }
def k16c7 : Code := { maxStack := 2, maxLocals := 2, code := jdk_52_method_15_code, exceptionTable := #[], attributes := #[] }
def k16m7 : Method := { name := "coderFromArrayLen", desc := "([BI)B", sig := { parameters := [(.array .byte), .int], returnType := some .byte }, accessFlags := 8, code := some k16c7 }
def k16c8 : Code := { maxStack := 5, maxLocals := 6, code := jdk_52_method_16_code, exceptionTable := #[], attributes := #[] }
def k16m8 : Method := { name := "compress", desc := "([CII)[B", sig := { parameters := [(.array .char), .int, .int], returnType := some (.array .byte) }, accessFlags := 9, code := some k16c8 }
def k16c9 : Code := { maxStack := 3, maxLocals := 7, code := jdk_52_method_21_code, exceptionTable := #[], attributes := #[] }
def k16m9 : Method := { name := "compress", desc := "([CI[BII)I", sig := { parameters := [(.array .char), .int, (.array .byte), .int, .int], returnType := some .int }, accessFlags := 9, code := some k16c9 }
def k16c10 : Code := { maxStack := 3, maxLocals := 3, code := jdk_52_method_71_code, exceptionTable := #[], attributes := #[] }
def k16m10 : Method := { name := "putCharSB", desc := "([BII)V", sig := { parameters := [(.array .byte), .int, .int], returnType := none }, accessFlags := 9, code := some k16c10 }
def k16c11 : Code := { maxStack := 2, maxLocals := 2, code := jdk_52_method_83_code, exceptionTable := #[], attributes := #[] }
def k16m11 : Method := { name := "charAt", desc := "([BI)C", sig := { parameters := [(.array .byte), .int], returnType := some .char }, accessFlags := 9, code := some k16c11 }
def k16c12 : Code := { maxStack := 4, maxLocals := 6, code := jdk_52_method_86_code, exceptionTable := #[], attributes := #[] }
def k16m12 : Method := { name := "inflate", desc := "([BI[BII)V", sig := { parameters := [(.array .byte), .int, (.array .byte), .int, .int], returnType := none }, accessFlags := 9, code := some k16c12 }
def k16c13 : Code := { maxStack := 2, maxLocals := 2, code := jdk_52_method_91_code, exceptionTable := #[], attributes := #[] }
def k16m13 : Method := { name := "checkIndex", desc := "(I[B)V", sig := { parameters := [.int, (.array .byte)], returnType := none }, accessFlags := 9, code := some k16c13 }
def k16c14 : Code := { maxStack := 3, maxLocals := 3, code := jdk_52_method_94_code, exceptionTable := #[], attributes := #[] }
def k16m14 : Method := { name := "checkBoundsOffCount", desc := "(II[B)V", sig := { parameters := [.int, .int, (.array .byte)], returnType := none }, accessFlags := 9, code := some k16c14 }
/-- java/lang/StringUTF16 -/
def k16 : Class := { plain "java/lang/StringUTF16" (some 0) with
  accessFlags := 48
  interfaces := #[]
  cf := some (fileOf pool16 12 #[.nestMembers #[627, 629, 369]] #[{ accessFlags := 0, nameIndex := 9, descriptorIndex := 10, attributes := #[] }, { accessFlags := 9, nameIndex := 109, descriptorIndex := 110, attributes := #[] }, { accessFlags := 9, nameIndex := 15, descriptorIndex := 16, attributes := #[] }, { accessFlags := 8, nameIndex := 113, descriptorIndex := 114, attributes := #[] }, { accessFlags := 8, nameIndex := 73, descriptorIndex := 74, attributes := #[] }, { accessFlags := 9, nameIndex := 50, descriptorIndex := 51, attributes := #[] }, { accessFlags := 9, nameIndex := 121, descriptorIndex := 122, attributes := #[] }, { accessFlags := 8, nameIndex := 261, descriptorIndex := 262, attributes := #[] }, { accessFlags := 9, nameIndex := 117, descriptorIndex := 122, attributes := #[] }, { accessFlags := 9, nameIndex := 117, descriptorIndex := 118, attributes := #[] }, { accessFlags := 9, nameIndex := 586, descriptorIndex := 114, attributes := #[] }, { accessFlags := 9, nameIndex := 392, descriptorIndex := 74, attributes := #[] }, { accessFlags := 9, nameIndex := 140, descriptorIndex := 141, attributes := #[] }, { accessFlags := 9, nameIndex := 69, descriptorIndex := 70, attributes := #[] }, { accessFlags := 9, nameIndex := 175, descriptorIndex := 99, attributes := #[] }] 48 6 #[] #[{ accessFlags := 26, nameIndex := 61, descriptorIndex := 62, attributes := #[] }, { accessFlags := 26, nameIndex := 65, descriptorIndex := 62, attributes := #[] }, { accessFlags := 24, nameIndex := 430, descriptorIndex := 62, attributes := #[] }, { accessFlags := 4120, nameIndex := 46, descriptorIndex := 47, attributes := #[] }])
  fields := #[{ name := "HI_BYTE_SHIFT", type := .int, accessFlags := 26, slot := 0, constantValue := 0 }, { name := "LO_BYTE_SHIFT", type := .int, accessFlags := 26, slot := 1, constantValue := 0 }, { name := "MAX_LENGTH", type := .int, accessFlags := 24, slot := 2, constantValue := 0 }, { name := "$assertionsDisabled", type := .boolean, accessFlags := 4120, slot := 3, constantValue := 0 }]
  methods := #[k16m0, k16m1, k16m2, k16m3, k16m4, k16m5, k16m6, k16m7, k16m8, k16m9, k16m10, k16m11, k16m12, k16m13, k16m14]
  instanceTypes := #[]
  staticTypes := #[.int, .int, .int, .boolean]
  resolved := Array.replicate 635 none
  statics := some 1 }

def pool17 : Array CpInfo := pool [(1, .class_ 2), (0, u "java/lang/String"), (1, .class_ 6), (1, u "java/lang/Object"), (0, u "<init>"), (0, u "()V"), (0, .methodref 1 10), (0, .nameAndType 11 12), (0, u "checkIndex"), (0, u "(II)V"), (1, .class_ 16), (1, u "java/lang/StringLatin1"), (0, u "inflate"), (2, .class_ 22), (1, u "java/lang/StringUTF16"), (3, .nameAndType 17 27), (0, u "([BI[BII)V"), (10, .methodref 39 40), (0, .class_ 41), (0, .nameAndType 42 43), (0, u "java/lang/Math"), (0, u "min"), (0, u "(II)I"), (9, u "([BI)C"), (34, .methodref 14 89), (0, .nameAndType 90 91), (0, u "canEncode"), (0, u "(I)Z"), (0, .methodref 39 93), (0, .nameAndType 94 43), (0, u "max"), (0, .methodref 14 96), (0, .nameAndType 97 98), (0, u "indexOfChar"), (0, u "([BIII)I"), (2, u "indexOf"), (3, u "(C)Z"), (15, u "$assertionsDisabled"), (0, u "Z"), (98, .class_ 223), (1, u "java/lang/StringLatin1$LinesSpliterator"), (16, .methodref 20 26), (11, u "charAt"), (137, .class_ 391), (0, u "java/lang/StringLatin1$CharsSpliterator")] 3

def k17m0 : Method := { name := "<init>", desc := "()V", sig := { parameters := [], returnType := none }, accessFlags := 0, code := none }
def k17c1 : Code := { maxStack := 2, maxLocals := 2, code := jdk_43_method_2_code, exceptionTable := #[], attributes := #[] }
def k17m1 : Method := { name := "charAt", desc := "([BI)C", sig := { parameters := [(.array .byte), .int], returnType := some .char }, accessFlags := 9, code := some k17c1 }
def k17c2 : Code := { maxStack := 2, maxLocals := 1, code := jdk_43_method_3_code, exceptionTable := #[], attributes := #[] }
def k17m2 : Method := { name := "canEncode", desc := "(C)Z", sig := { parameters := [.char], returnType := some .boolean }, accessFlags := 9, code := some k17c2 }
def k17c3 : Code := { maxStack := 2, maxLocals := 1, code := jdk_43_method_4_code, exceptionTable := #[], attributes := #[] }
def k17m3 : Method := { name := "canEncode", desc := "(I)Z", sig := { parameters := [.int], returnType := some .boolean }, accessFlags := 9, code := some k17c3 }
def k17c4 : Code := { maxStack := 4, maxLocals := 4, code := jdk_43_method_22_code, exceptionTable := #[], attributes := #[] }
def k17m4 : Method := { name := "indexOf", desc := "([BIII)I", sig := { parameters := [(.array .byte), .int, .int, .int], returnType := some .int }, accessFlags := 9, code := some k17c4 }
def k17c5 : Code := { maxStack := 2, maxLocals := 6, code := jdk_43_method_23_code, exceptionTable := #[], attributes := #[] }
def k17m5 : Method := { name := "indexOfChar", desc := "([BIII)I", sig := { parameters := [(.array .byte), .int, .int, .int], returnType := some .int }, accessFlags := 10, code := some k17c5 }
def k17c6 : Code := { maxStack := 5, maxLocals := 5, code := jdk_43_method_50_code, exceptionTable := #[], attributes := #[] }
def k17m6 : Method := { name := "inflate", desc := "([BI[BII)V", sig := { parameters := [(.array .byte), .int, (.array .byte), .int, .int], returnType := none }, accessFlags := 9, code := some k17c6 }
/-- java/lang/StringLatin1 -/
def k17 : Class := { plain "java/lang/StringLatin1" (some 0) with
  accessFlags := 48
  interfaces := #[]
  cf := some (fileOf pool17 14 #[.nestMembers #[390, 221]] #[{ accessFlags := 0, nameIndex := 7, descriptorIndex := 8, attributes := #[] }, { accessFlags := 9, nameIndex := 252, descriptorIndex := 53, attributes := #[] }, { accessFlags := 9, nameIndex := 90, descriptorIndex := 105, attributes := #[] }, { accessFlags := 9, nameIndex := 90, descriptorIndex := 91, attributes := #[] }, { accessFlags := 9, nameIndex := 101, descriptorIndex := 98, attributes := #[] }, { accessFlags := 10, nameIndex := 97, descriptorIndex := 98, attributes := #[] }, { accessFlags := 9, nameIndex := 17, descriptorIndex := 27, attributes := #[] }] 48 4 #[] #[{ accessFlags := 4120, nameIndex := 121, descriptorIndex := 122, attributes := #[] }])
  fields := #[{ name := "$assertionsDisabled", type := .boolean, accessFlags := 4120, slot := 0, constantValue := 0 }]
  methods := #[k17m0, k17m1, k17m2, k17m3, k17m4, k17m5, k17m6]
  instanceTypes := #[]
  staticTypes := #[.boolean]
  resolved := Array.replicate 395 none
  statics := none }

def pool18 : Array CpInfo := pool [(2, .class_ 4), (1, u "java/lang/Object"), (0, u "<init>"), (0, u "()V"), (17, .class_ 26), (1, u "jdk/internal/util/Preconditions"), (6, u "checkIndex"), (15, u "checkFromIndexSize"), (5, .class_ 56), (0, u "jdk/internal/util/Preconditions$4"), (57, .class_ 115), (0, u "jdk/internal/util/Preconditions$1"), (7, u "SIOOBE_FORMATTER"), (0, u "Ljava/util/function/BiFunction;"), (0, .class_ 126), (0, u "jdk/internal/util/Preconditions$2"), (3, u "AIOOBE_FORMATTER"), (0, .class_ 132), (0, u "jdk/internal/util/Preconditions$3"), (3, u "IOOBE_FORMATTER"), (41, u "(IILjava/util/function/BiFunction;)I"), (4, u "(IIILjava/util/function/BiFunction;)I")] 10

def k18m0 : Method := { name := "<init>", desc := "()V", sig := { parameters := [], returnType := none }, accessFlags := 1, code := none }
def k18c1 : Code := { maxStack := 3, maxLocals := 3, code := jdk_41_method_11_code, exceptionTable := #[], attributes := #[] }
def k18m1 : Method := { name := "checkIndex", desc := "(IILjava/util/function/BiFunction;)I", sig := { parameters := [.int, .int, (.object "java/util/function/BiFunction")], returnType := some .int }, accessFlags := 9, code := some k18c1 }
def k18c2 : Code := { maxStack := 4, maxLocals := 4, code := jdk_41_method_13_code, exceptionTable := #[], attributes := #[] }
def k18m2 : Method := { name := "checkFromIndexSize", desc := "(IIILjava/util/function/BiFunction;)I", sig := { parameters := [.int, .int, .int, (.object "java/util/function/BiFunction")], returnType := some .int }, accessFlags := 9, code := some k18c2 }
/-- jdk/internal/util/Preconditions -/
def k18 : Class := { plain "jdk/internal/util/Preconditions" (some 0) with
  accessFlags := 33
  interfaces := #[]
  cf := some (fileOf pool18 24 #[.nestMembers #[55, 131, 125, 114]] #[{ accessFlags := 1, nameIndex := 5, descriptorIndex := 6, attributes := #[] }, { accessFlags := 9, nameIndex := 33, descriptorIndex := 178, attributes := #[] }, { accessFlags := 9, nameIndex := 49, descriptorIndex := 183, attributes := #[] }] 33 2 #[] #[{ accessFlags := 25, nameIndex := 123, descriptorIndex := 124, attributes := #[] }, { accessFlags := 25, nameIndex := 130, descriptorIndex := 124, attributes := #[] }, { accessFlags := 25, nameIndex := 136, descriptorIndex := 124, attributes := #[] }])
  fields := #[{ name := "SIOOBE_FORMATTER", type := (.object "java/util/function/BiFunction"), accessFlags := 25, slot := 0, constantValue := 0 }, { name := "AIOOBE_FORMATTER", type := (.object "java/util/function/BiFunction"), accessFlags := 25, slot := 1, constantValue := 0 }, { name := "IOOBE_FORMATTER", type := (.object "java/util/function/BiFunction"), accessFlags := 25, slot := 2, constantValue := 0 }]
  methods := #[k18m0, k18m1, k18m2]
  instanceTypes := #[]
  staticTypes := #[(.object "java/util/function/BiFunction"), (.object "java/util/function/BiFunction"), (.object "java/util/function/BiFunction")]
  resolved := Array.replicate 194 none
  statics := some 2 }

def pool19 : Array CpInfo := pool [(1, .class_ 2), (0, u "java/lang/Math"), (1, .class_ 6), (1, u "java/lang/Object"), (0, u "<init>"), (0, u "()V"), (89, .class_ 100), (1, u "java/lang/Math$RandomNumberGeneratorHolder"), (71, u "negativeZeroFloatBits"), (0, u "J"), (2, u "negativeZeroDoubleBits"), (21, u "max"), (2, u "min"), (43, u "$assertionsDisabled"), (0, u "Z"), (88, u "(II)I"), (2, u "twoToTheDoubleScaleDown"), (0, u "D"), (4, u "twoToTheDoubleScaleUp"), (9, u "E"), (3, u "PI"), (2, u "TAU"), (2, u "DEGREES_TO_RADIANS"), (0, u "RADIANS_TO_DEGREES")] 94

def k19m0 : Method := { name := "<init>", desc := "()V", sig := { parameters := [], returnType := none }, accessFlags := 2, code := none }
def k19c1 : Code := { maxStack := 2, maxLocals := 2, code := jdk_29_method_65_code, exceptionTable := #[], attributes := #[] }
def k19m1 : Method := { name := "max", desc := "(II)I", sig := { parameters := [.int, .int], returnType := some .int }, accessFlags := 9, code := some k19c1 }
def k19c2 : Code := { maxStack := 2, maxLocals := 2, code := jdk_29_method_69_code, exceptionTable := #[], attributes := #[] }
def k19m2 : Method := { name := "min", desc := "(II)I", sig := { parameters := [.int, .int], returnType := some .int }, accessFlags := 9, code := some k19c2 }
/-- java/lang/Math -/
def k19 : Class := { plain "java/lang/Math" (some 0) with
  accessFlags := 49
  interfaces := #[]
  cf := some (fileOf pool19 1 #[.nestMembers #[98]] #[{ accessFlags := 2, nameIndex := 7, descriptorIndex := 8, attributes := #[] }, { accessFlags := 9, nameIndex := 198, descriptorIndex := 335, attributes := #[] }, { accessFlags := 9, nameIndex := 201, descriptorIndex := 335, attributes := #[] }] 49 4 #[] #[{ accessFlags := 25, nameIndex := 354, descriptorIndex := 339, attributes := #[] }, { accessFlags := 25, nameIndex := 358, descriptorIndex := 339, attributes := #[] }, { accessFlags := 25, nameIndex := 361, descriptorIndex := 339, attributes := #[] }, { accessFlags := 26, nameIndex := 364, descriptorIndex := 339, attributes := #[] }, { accessFlags := 26, nameIndex := 365, descriptorIndex := 339, attributes := #[] }, { accessFlags := 26, nameIndex := 172, descriptorIndex := 173, attributes := #[] }, { accessFlags := 26, nameIndex := 176, descriptorIndex := 173, attributes := #[] }, { accessFlags := 8, nameIndex := 344, descriptorIndex := 339, attributes := #[] }, { accessFlags := 8, nameIndex := 338, descriptorIndex := 339, attributes := #[] }, { accessFlags := 4120, nameIndex := 245, descriptorIndex := 246, attributes := #[] }])
  fields := #[{ name := "E", type := .double, accessFlags := 25, slot := 0, constantValue := 0 }, { name := "PI", type := .double, accessFlags := 25, slot := 1, constantValue := 0 }, { name := "TAU", type := .double, accessFlags := 25, slot := 2, constantValue := 0 }, { name := "DEGREES_TO_RADIANS", type := .double, accessFlags := 26, slot := 3, constantValue := 0 }, { name := "RADIANS_TO_DEGREES", type := .double, accessFlags := 26, slot := 4, constantValue := 0 }, { name := "negativeZeroFloatBits", type := .long, accessFlags := 26, slot := 5, constantValue := 0 }, { name := "negativeZeroDoubleBits", type := .long, accessFlags := 26, slot := 6, constantValue := 0 }, { name := "twoToTheDoubleScaleUp", type := .double, accessFlags := 8, slot := 7, constantValue := 0 }, { name := "twoToTheDoubleScaleDown", type := .double, accessFlags := 8, slot := 8, constantValue := 0 }, { name := "$assertionsDisabled", type := .boolean, accessFlags := 4120, slot := 9, constantValue := 0 }]
  methods := #[k19m0, k19m1, k19m2]
  instanceTypes := #[]
  staticTypes := #[.double, .double, .double, .double, .double, .long, .long, .double, .double, .boolean]
  resolved := Array.replicate 460 none
  statics := none }

def pool20 : Array CpInfo := pool [(9, u "<init>"), (6, .class_ 18), (1, u "java/lang/Object"), (0, u "()V"), (1, .class_ 23), (1, u "jdk/internal/util/ArraysSupport"), (0, u "LOG2_ARRAY_LONG_INDEX_SCALE"), (0, u "I"), (2, u "U"), (0, u "Ljdk/internal/misc/Unsafe;"), (8, u "BIG_ENDIAN"), (0, u "Z"), (8, u "LOG2_BYTE_BIT_SIZE"), (4, u "LOG2_ARRAY_INT_INDEX_SCALE"), (54, u "JLA"), (0, u "Ljdk/internal/access/JavaLangAccess;"), (11, u "LOG2_ARRAY_BOOLEAN_INDEX_SCALE"), (9, u "LOG2_ARRAY_BYTE_INDEX_SCALE"), (5, u "LOG2_ARRAY_CHAR_INDEX_SCALE"), (5, u "LOG2_ARRAY_SHORT_INDEX_SCALE"), (18, u "LOG2_ARRAY_FLOAT_INDEX_SCALE"), (24, u "LOG2_ARRAY_DOUBLE_INDEX_SCALE"), (6, .methodref 195 196), (0, .class_ 197), (0, .nameAndType 198 199), (0, u "java/lang/Math"), (0, u "max"), (0, u "(II)I"), (0, .integer 2147483639), (76, u "T_BOOLEAN"), (2, u "T_CHAR"), (1, u "T_FLOAT"), (1, u "T_DOUBLE"), (1, u "T_BYTE"), (1, u "T_SHORT"), (1, u "T_INT"), (1, u "T_LONG"), (1, u "SOFT_MAX_ARRAY_LENGTH"), (56, u "newLength"), (0, u "(III)I")] 25

def k20m0 : Method := { name := "<init>", desc := "()V", sig := { parameters := [], returnType := none }, accessFlags := 2, code := none }
def k20c1 : Code := { maxStack := 3, maxLocals := 4, code := jdk_48_method_27_code, exceptionTable := #[], attributes := #[] }
def k20m1 : Method := { name := "newLength", desc := "(III)I", sig := { parameters := [.int, .int, .int], returnType := some .int }, accessFlags := 9, code := some k20c1 }
/-- jdk/internal/util/ArraysSupport -/
def k20 : Class := { plain "jdk/internal/util/ArraysSupport" (some 0) with
  accessFlags := 33
  interfaces := #[]
  cf := some (fileOf pool20 21 #[] #[{ accessFlags := 2, nameIndex := 9, descriptorIndex := 19, attributes := #[] }, { accessFlags := 9, nameIndex := 351, descriptorIndex := 352, attributes := #[] }] 33 16 #[] #[{ accessFlags := 24, nameIndex := 28, descriptorIndex := 29, attributes := #[] }, { accessFlags := 26, nameIndex := 38, descriptorIndex := 39, attributes := #[] }, { accessFlags := 25, nameIndex := 121, descriptorIndex := 25, attributes := #[] }, { accessFlags := 25, nameIndex := 131, descriptorIndex := 25, attributes := #[] }, { accessFlags := 25, nameIndex := 137, descriptorIndex := 25, attributes := #[] }, { accessFlags := 25, nameIndex := 143, descriptorIndex := 25, attributes := #[] }, { accessFlags := 25, nameIndex := 53, descriptorIndex := 25, attributes := #[] }, { accessFlags := 25, nameIndex := 24, descriptorIndex := 25, attributes := #[] }, { accessFlags := 25, nameIndex := 162, descriptorIndex := 25, attributes := #[] }, { accessFlags := 25, nameIndex := 187, descriptorIndex := 25, attributes := #[] }, { accessFlags := 26, nameIndex := 48, descriptorIndex := 25, attributes := #[] }, { accessFlags := 25, nameIndex := 277, descriptorIndex := 25, attributes := #[] }, { accessFlags := 25, nameIndex := 280, descriptorIndex := 25, attributes := #[] }, { accessFlags := 25, nameIndex := 282, descriptorIndex := 25, attributes := #[] }, { accessFlags := 25, nameIndex := 284, descriptorIndex := 25, attributes := #[] }, { accessFlags := 25, nameIndex := 286, descriptorIndex := 25, attributes := #[] }, { accessFlags := 25, nameIndex := 288, descriptorIndex := 25, attributes := #[] }, { accessFlags := 25, nameIndex := 290, descriptorIndex := 25, attributes := #[] }, { accessFlags := 25, nameIndex := 292, descriptorIndex := 25, attributes := #[] }, { accessFlags := 26, nameIndex := 108, descriptorIndex := 109, attributes := #[] }, { accessFlags := 25, nameIndex := 294, descriptorIndex := 25, attributes := #[] }])
  fields := #[{ name := "U", type := (.object "jdk/internal/misc/Unsafe"), accessFlags := 24, slot := 0, constantValue := 0 }, { name := "BIG_ENDIAN", type := .boolean, accessFlags := 26, slot := 1, constantValue := 0 }, { name := "LOG2_ARRAY_BOOLEAN_INDEX_SCALE", type := .int, accessFlags := 25, slot := 2, constantValue := 0 }, { name := "LOG2_ARRAY_BYTE_INDEX_SCALE", type := .int, accessFlags := 25, slot := 3, constantValue := 0 }, { name := "LOG2_ARRAY_CHAR_INDEX_SCALE", type := .int, accessFlags := 25, slot := 4, constantValue := 0 }, { name := "LOG2_ARRAY_SHORT_INDEX_SCALE", type := .int, accessFlags := 25, slot := 5, constantValue := 0 }, { name := "LOG2_ARRAY_INT_INDEX_SCALE", type := .int, accessFlags := 25, slot := 6, constantValue := 0 }, { name := "LOG2_ARRAY_LONG_INDEX_SCALE", type := .int, accessFlags := 25, slot := 7, constantValue := 0 }, { name := "LOG2_ARRAY_FLOAT_INDEX_SCALE", type := .int, accessFlags := 25, slot := 8, constantValue := 0 }, { name := "LOG2_ARRAY_DOUBLE_INDEX_SCALE", type := .int, accessFlags := 25, slot := 9, constantValue := 0 }, { name := "LOG2_BYTE_BIT_SIZE", type := .int, accessFlags := 26, slot := 10, constantValue := 0 }, { name := "T_BOOLEAN", type := .int, accessFlags := 25, slot := 11, constantValue := 0 }, { name := "T_CHAR", type := .int, accessFlags := 25, slot := 12, constantValue := 0 }, { name := "T_FLOAT", type := .int, accessFlags := 25, slot := 13, constantValue := 0 }, { name := "T_DOUBLE", type := .int, accessFlags := 25, slot := 14, constantValue := 0 }, { name := "T_BYTE", type := .int, accessFlags := 25, slot := 15, constantValue := 0 }, { name := "T_SHORT", type := .int, accessFlags := 25, slot := 16, constantValue := 0 }, { name := "T_INT", type := .int, accessFlags := 25, slot := 17, constantValue := 0 }, { name := "T_LONG", type := .int, accessFlags := 25, slot := 18, constantValue := 0 }, { name := "JLA", type := (.object "jdk/internal/access/JavaLangAccess"), accessFlags := 26, slot := 19, constantValue := 0 }, { name := "SOFT_MAX_ARRAY_LENGTH", type := .int, accessFlags := 25, slot := 20, constantValue := 0 }]
  methods := #[k20m0, k20m1]
  instanceTypes := #[]
  staticTypes := #[(.object "jdk/internal/misc/Unsafe"), .boolean, .int, .int, .int, .int, .int, .int, .int, .int, .int, .int, .int, .int, .int, .int, .int, .int, .int, (.object "jdk/internal/access/JavaLangAccess"), .int]
  resolved := Array.replicate 378 none
  statics := none }

def pool21 : Array CpInfo := pool [(2, .class_ 4), (1, u "java/lang/Object"), (0, u "<init>"), (0, u "()V"), (1, .class_ 10), (1, u "java/lang/System"), (0, u "allowSecurityManager"), (0, u "I"), (16, u "cons"), (0, u "Ljava/io/Console;"), (77, .class_ 110), (1, u "java/lang/System$CallersHolder"), (43, u "initialErrStream"), (0, u "Ljava/io/PrintStream;"), (19, u "security"), (0, u "Ljava/lang/SecurityManager;"), (31, .class_ 209), (0, u "java/lang/System$1"), (7, u "props"), (0, u "Ljava/util/Properties;"), (2, u "lineSeparator"), (0, u "Ljava/lang/String;"), (96, .class_ 321), (1, u "java/lang/System$LoggerFinder"), (5, .class_ 328), (0, u "java/lang/System$Logger"), (67, u "err"), (2, u "out"), (91, u "notSupportedJnuEncoding"), (15, u "in"), (17, u "initialIn"), (0, u "Ljava/io/InputStream;"), (35, u "bootLayer"), (0, u "Ljava/lang/ModuleLayer;"), (99, .class_ 664), (0, u "java/lang/System$2"), (9, u "NEVER"), (2, u "MAYBE"), (49, u "arraycopy"), (0, u "(Ljava/lang/Object;ILjava/lang/Object;II)V"), (72, .class_ 802), (0, u "java/lang/System$Logger$Level")] 31

def k21m0 : Method := { name := "<init>", desc := "()V", sig := { parameters := [], returnType := none }, accessFlags := 2, code := none }
def k21m1 : Method := { name := "arraycopy", desc := "(Ljava/lang/Object;ILjava/lang/Object;II)V", sig := { parameters := [(.object "java/lang/Object"), .int, (.object "java/lang/Object"), .int, .int], returnType := none }, accessFlags := 265, code := none }
/-- java/lang/System -/
def k21 : Class := { plain "java/lang/System" (some 0) with
  accessFlags := 49
  interfaces := #[]
  cf := some (fileOf pool21 8 #[.nestMembers #[319, 327, 801, 108, 663, 208]] #[{ accessFlags := 2, nameIndex := 5, descriptorIndex := 6, attributes := #[] }, { accessFlags := 265, nameIndex := 727, descriptorIndex := 728, attributes := #[] }] 49 2 #[] #[{ accessFlags := 25, nameIndex := 507, descriptorIndex := 526, attributes := #[] }, { accessFlags := 25, nameIndex := 399, descriptorIndex := 155, attributes := #[] }, { accessFlags := 25, nameIndex := 396, descriptorIndex := 155, attributes := #[] }, { accessFlags := 10, nameIndex := 525, descriptorIndex := 526, attributes := #[] }, { accessFlags := 26, nameIndex := 674, descriptorIndex := 12, attributes := #[] }, { accessFlags := 26, nameIndex := 677, descriptorIndex := 12, attributes := #[] }, { accessFlags := 10, nameIndex := 11, descriptorIndex := 12, attributes := #[] }, { accessFlags := 74, nameIndex := 175, descriptorIndex := 176, attributes := #[] }, { accessFlags := 10, nameIndex := 491, descriptorIndex := 222, attributes := #[] }, { accessFlags := 74, nameIndex := 29, descriptorIndex := 30, attributes := #[] }, { accessFlags := 74, nameIndex := 154, descriptorIndex := 155, attributes := #[] }, { accessFlags := 10, nameIndex := 217, descriptorIndex := 218, attributes := #[] }, { accessFlags := 10, nameIndex := 221, descriptorIndex := 222, attributes := #[] }, { accessFlags := 8, nameIndex := 562, descriptorIndex := 563, attributes := #[] }])
  fields := #[{ name := "in", type := (.object "java/io/InputStream"), accessFlags := 25, slot := 0, constantValue := 0 }, { name := "out", type := (.object "java/io/PrintStream"), accessFlags := 25, slot := 1, constantValue := 0 }, { name := "err", type := (.object "java/io/PrintStream"), accessFlags := 25, slot := 2, constantValue := 0 }, { name := "initialIn", type := (.object "java/io/InputStream"), accessFlags := 10, slot := 3, constantValue := 0 }, { name := "NEVER", type := .int, accessFlags := 26, slot := 4, constantValue := 0 }, { name := "MAYBE", type := .int, accessFlags := 26, slot := 5, constantValue := 0 }, { name := "allowSecurityManager", type := .int, accessFlags := 10, slot := 6, constantValue := 0 }, { name := "security", type := (.object "java/lang/SecurityManager"), accessFlags := 74, slot := 7, constantValue := 0 }, { name := "notSupportedJnuEncoding", type := (.object "java/lang/String"), accessFlags := 10, slot := 8, constantValue := 0 }, { name := "cons", type := (.object "java/io/Console"), accessFlags := 74, slot := 9, constantValue := 0 }, { name := "initialErrStream", type := (.object "java/io/PrintStream"), accessFlags := 74, slot := 10, constantValue := 0 }, { name := "props", type := (.object "java/util/Properties"), accessFlags := 10, slot := 11, constantValue := 0 }, { name := "lineSeparator", type := (.object "java/lang/String"), accessFlags := 10, slot := 12, constantValue := 0 }, { name := "bootLayer", type := (.object "java/lang/ModuleLayer"), accessFlags := 8, slot := 13, constantValue := 0 }]
  methods := #[k21m0, k21m1]
  instanceTypes := #[]
  staticTypes := #[(.object "java/io/InputStream"), (.object "java/io/PrintStream"), (.object "java/io/PrintStream"), (.object "java/io/InputStream"), .int, .int, .int, (.object "java/lang/SecurityManager"), (.object "java/lang/String"), (.object "java/io/Console"), (.object "java/io/PrintStream"), (.object "java/util/Properties"), (.object "java/lang/String"), (.object "java/lang/ModuleLayer")]
  resolved := Array.replicate 834 none
  statics := none }

/-- the primitive byte -/
def k22 : Class := { plain "byte" none with kind := .primitive 'B', accessFlags := 0x411 }
/-- [B -/
def k23 : Class := { plain "[B" (some 0) with kind := .array 22 .byte, interfaces := #[15, 2], accessFlags := 1041 }

/-- the primitive char -/
def k24 : Class := { plain "char" none with kind := .primitive 'C', accessFlags := 0x411 }
/-- [C -/
def k25 : Class := { plain "[C" (some 0) with kind := .array 24 .char, interfaces := #[15, 2], accessFlags := 1041 }

/-- the primitive int -/
def k26 : Class := { plain "int" none with kind := .primitive 'I', accessFlags := 0x411 }
/-- [I -/
def k27 : Class := { plain "[I" (some 0) with kind := .array 26 .int, interfaces := #[15, 2], accessFlags := 1041 }

def heap : Heap := #[{ cls := 7, slots := #[.long 0, .int 1, .null, .int 0, .null, .int 0, .int 0], vm := .statics 7 },
  { cls := 16, slots := #[.int 0, .int 8, .int 0, .int 1], vm := .statics 16 },
  { cls := 18, slots := #[.null, .null, .null], vm := .statics 18 }]
def classes : Array Class := #[k0, k1, k2, k3, k4, k5, k6, k7, k8, k9, k10, k11, k12, k13, k14, k15, k16, k17, k18, k19, k20, k21, k22, k23, k24, k25, k26, k27]
def interned : List (Array UInt16 × Addr) := []
def slotsUsed : Nat := 14
def theMethod : MethodId := ⟨1, 1⟩
def args0 : Array Value := #[.int 4, .int 1, .int 2, .int 3, .int 80]
def aboutOver (below : List Frame) : State where
  vm := { classes := classes, interned := interned.toArray }
  heap := heap
  slotsUsed := slotsUsed
  threads := #[{ frames := .invoking theMethod args0 :: below }]
def below0 : List Frame := [.native { method := ⟨0, 0⟩, args := #[] }]
def about1 : State := aboutOver below0
def p0 : Program := .bare "" "" ""
def e0 : Env := launch0.env 0 0 0
theorem w_frames : about1.frames = Frame.invoking theMethod args0 :: below0 := rfl
set_option maxRecDepth 65536 in
theorem w_args : argsFit about1.vm theMethod args0 = true := by decide +kernel
set_option maxRecDepth 65536 in
theorem w_heap : heapFits about1 = true := by decide +kernel
set_option maxRecDepth 65536 in
theorem w_runnable : about1.curStatus? = some .runnable := by decide +kernel
set_option maxRecDepth 65536 in
theorem w_alone : about1.alone = true := by decide +kernel
set_option maxRecDepth 65536 in
theorem w_named : about1.methodNamed? x = some theMethod := by decide +kernel
set_option maxRecDepth 65536 in
theorem w_hears : about1.hears theMethod below0 = true := by decide +kernel
set_option maxRecDepth 65536 in
theorem w_ripe : about1.ripe theMethod args0 below0 = true := by decide +kernel
theorem w_running : about1.status = .running := rfl
set_option maxRecDepth 65536 in
theorem w_room : about1.hasRoom e0.platform room_1 = true :=
  launch0.hasRoom_least _ room_1 (by decide +kernel) (by decide +kernel) (by decide +kernel) (by decide +kernel) (by decide +kernel) (by decide +kernel)
theorem allAtoms_all (ts : List Jvm.Cond) (a : Array Jvm.Value) (st : Jvm.State) : (allAtoms ts).before a st = ts.all (fun c => c.before a st) := by
  induction ts with
  | nil => rfl
  | cons c t ih =>
    show (Jvm.Cond.and c (allAtoms t)).before a st = _
    rw [Jvm.Cond.before_and, ih, List.all_cons]
def words1 : List Jvm.Cond := Jvm.Cond.code x code maxLocals ret :: tables_1
/-- a 'code' word, met by the world's own term for the bytes: nothing is compared byte by byte -/
theorem code_word {y : MethodName} {bytes : ByteArray} {mx : Nat} {rt : Option FieldType} {a : Array Value} {s : State} {m : MethodId} {meth : Method} {c : Code} (h1 : s.methodNamed? y = some m) (h2 : s.vm.method? m = some meth) (h3 : meth.code = some c) (h4 : c.code = bytes)
    (h5 : (c.maxLocals == mx && c.exceptionTable.isEmpty && decide (c.maxStack ≤ mostOperands) && decide (meth.sig.returnType = rt) && !meth.locks && decide (parseMethodDescriptor y.desc = some meth.sig)) = true) : (Jvm.Cond.code y bytes mx rt).before a s = true := by
  simp only [Bool.and_eq_true, beq_iff_eq, Bool.not_eq_true', decide_eq_true_eq] at h5
  obtain ⟨⟨⟨⟨⟨g1, g2⟩, g3⟩, g4⟩, g5⟩, g6⟩ := h5
  simp [Cond.before, Cond.holds, Cond.value, h1, h2, h3, h4, g1, g2, g3, g4, g5, g6]
def isCode : Jvm.Cond → Bool
  | .code _ _ _ _ => true
  | _ => false
theorem all_split {L : List Jvm.Cond} {P : Jvm.Cond → Bool} (h1 : L.all (fun c => isCode c || P c) = true) (h2 : ∀ c ∈ L.filter isCode, P c = true) : L.all P = true := by
  refine List.all_eq_true.mpr fun c hc => ?_
  have h := List.all_eq_true.mp h1 c hc
  rcases Bool.eq_false_or_eq_true (isCode c) with hi | hi
  · exact h2 c (List.mem_filter.mpr ⟨hc, hi⟩)
  · simpa [hi] using h
set_option maxRecDepth 65536 in
theorem w_c0 : (Jvm.Cond.code x code maxLocals ret).before args0 about1 = true := code_word (m := ⟨1, 1⟩) (meth := k1m1) (c := k1c1) (by decide +kernel) rfl rfl rfl (by decide +kernel)
set_option maxRecDepth 65536 in
theorem w_c1 : (Jvm.Cond.code ({ cls := "com/example/unhurried_frontier/unhurriedfrontier/TsvFileEscapedPinLaw", name := "pick", desc := "(I)C" } : Jvm.MethodName) method_3_code (2 : Nat) (Option.some Jvm.ClassFile.FieldType.char)).before args0 about1 = true := code_word (m := ⟨1, 2⟩) (meth := k1m2) (c := k1c2) (by decide +kernel) rfl rfl rfl (by decide +kernel)
set_option maxRecDepth 65536 in
theorem w_c2 : (Jvm.Cond.code ({ cls := "java/lang/String", name := "<init>", desc := "([C)V" } : Jvm.MethodName) jdk_42_method_3_code (2 : Nat) (Option.none : Option Jvm.ClassFile.FieldType)).before args0 about1 = true := code_word (m := ⟨7, 1⟩) (meth := k7m1) (c := k7c1) (by decide +kernel) rfl rfl rfl (by decide +kernel)
set_option maxRecDepth 65536 in
theorem w_c3 : (Jvm.Cond.code ({ cls := "java/lang/String", name := "<init>", desc := "([CIILjava/lang/Void;)V" } : Jvm.MethodName) jdk_42_method_149_code (6 : Nat) (Option.none : Option Jvm.ClassFile.FieldType)).before args0 about1 = true := code_word (m := ⟨7, 7⟩) (meth := k7m7) (c := k7c7) (by decide +kernel) rfl rfl rfl (by decide +kernel)
set_option maxRecDepth 65536 in
theorem w_c4 : (Jvm.Cond.code ({ cls := "java/lang/Object", name := "<init>", desc := "()V" } : Jvm.MethodName) object_method_1_code (1 : Nat) (Option.none : Option Jvm.ClassFile.FieldType)).before args0 about1 = true := code_word (m := ⟨0, 0⟩) (meth := k0m0) (c := k0c0) (by decide +kernel) rfl rfl rfl (by decide +kernel)
set_option maxRecDepth 65536 in
theorem w_c5 : (Jvm.Cond.code ({ cls := "com/example/unhurried_frontier/unhurriedfrontier/TsvFile", name := "escaped", desc := "(Ljava/lang/String;)Ljava/lang/String;" } : Jvm.MethodName) prog_8_method_5_code (5 : Nat) (Option.some (Jvm.ClassFile.FieldType.object "java/lang/String"))).before args0 about1 = true := code_word (m := ⟨10, 0⟩) (meth := k10m0) (c := k10c0) (by decide +kernel) rfl rfl rfl (by decide +kernel)
set_option maxRecDepth 65536 in
theorem w_c6 : (Jvm.Cond.code ({ cls := "java/lang/String", name := "length", desc := "()I" } : Jvm.MethodName) jdk_42_method_54_code (1 : Nat) (Option.some Jvm.ClassFile.FieldType.int)).before args0 about1 = true := code_word (m := ⟨7, 3⟩) (meth := k7m3) (c := k7c3) (by decide +kernel) rfl rfl rfl (by decide +kernel)
set_option maxRecDepth 65536 in
theorem w_c7 : (Jvm.Cond.code ({ cls := "java/lang/String", name := "coder", desc := "()B" } : Jvm.MethodName) jdk_42_method_152_code (1 : Nat) (Option.some Jvm.ClassFile.FieldType.byte)).before args0 about1 = true := code_word (m := ⟨7, 9⟩) (meth := k7m9) (c := k7c9) (by decide +kernel) rfl rfl rfl (by decide +kernel)
set_option maxRecDepth 65536 in
theorem w_c8 : (Jvm.Cond.code ({ cls := "java/lang/StringBuilder", name := "<init>", desc := "(I)V" } : Jvm.MethodName) jdk_67_method_2_code (2 : Nat) (Option.none : Option Jvm.ClassFile.FieldType)).before args0 about1 = true := code_word (m := ⟨13, 1⟩) (meth := k13m1) (c := k13c1) (by decide +kernel) rfl rfl rfl (by decide +kernel)
set_option maxRecDepth 65536 in
theorem w_c9 : (Jvm.Cond.code ({ cls := "java/lang/AbstractStringBuilder", name := "<init>", desc := "(I)V" } : Jvm.MethodName) jdk_68_method_2_code (2 : Nat) (Option.none : Option Jvm.ClassFile.FieldType)).before args0 about1 = true := code_word (m := ⟨12, 1⟩) (meth := k12m1) (c := k12c1) (by decide +kernel) rfl rfl rfl (by decide +kernel)
set_option maxRecDepth 65536 in
theorem w_c10 : (Jvm.Cond.code ({ cls := "java/lang/StringBuilder", name := "toString", desc := "()Ljava/lang/String;" } : Jvm.MethodName) jdk_67_method_42_code (1 : Nat) (Option.some (Jvm.ClassFile.FieldType.object "java/lang/String"))).before args0 about1 = true := code_word (m := ⟨13, 3⟩) (meth := k13m3) (c := k13c3) (by decide +kernel) rfl rfl rfl (by decide +kernel)
set_option maxRecDepth 65536 in
theorem w_c11 : (Jvm.Cond.code ({ cls := "java/lang/String", name := "<init>", desc := "(Ljava/lang/StringBuilder;)V" } : Jvm.MethodName) jdk_42_method_53_code (2 : Nat) (Option.none : Option Jvm.ClassFile.FieldType)).before args0 about1 = true := code_word (m := ⟨7, 2⟩) (meth := k7m2) (c := k7c2) (by decide +kernel) rfl rfl rfl (by decide +kernel)
set_option maxRecDepth 65536 in
theorem w_c12 : (Jvm.Cond.code ({ cls := "java/lang/String", name := "<init>", desc := "(Ljava/lang/AbstractStringBuilder;Ljava/lang/Void;)V" } : Jvm.MethodName) jdk_42_method_150_code (5 : Nat) (Option.none : Option Jvm.ClassFile.FieldType)).before args0 about1 = true := code_word (m := ⟨7, 8⟩) (meth := k7m8) (c := k7c8) (by decide +kernel) rfl rfl rfl (by decide +kernel)
set_option maxRecDepth 65536 in
theorem w_c13 : (Jvm.Cond.code ({ cls := "java/lang/AbstractStringBuilder", name := "getValue", desc := "()[B" } : Jvm.MethodName) jdk_68_method_64_code (1 : Nat) (Option.some (Jvm.ClassFile.FieldType.array Jvm.ClassFile.FieldType.byte))).before args0 about1 = true := code_word (m := ⟨12, 7⟩) (meth := k12m7) (c := k12c7) (by decide +kernel) rfl rfl rfl (by decide +kernel)
set_option maxRecDepth 65536 in
theorem w_c14 : (Jvm.Cond.code ({ cls := "java/lang/StringBuilder", name := "length", desc := "()I" } : Jvm.MethodName) jdk_67_method_93_code (1 : Nat) (Option.some Jvm.ClassFile.FieldType.int)).before args0 about1 = true := code_word (m := ⟨13, 4⟩) (meth := k13m4) (c := k13c4) (by decide +kernel) rfl rfl rfl (by decide +kernel)
set_option maxRecDepth 65536 in
theorem w_c15 : (Jvm.Cond.code ({ cls := "java/lang/AbstractStringBuilder", name := "length", desc := "()I" } : Jvm.MethodName) jdk_68_method_6_code (1 : Nat) (Option.some Jvm.ClassFile.FieldType.int)).before args0 about1 = true := code_word (m := ⟨12, 2⟩) (meth := k12m2) (c := k12c2) (by decide +kernel) rfl rfl rfl (by decide +kernel)
set_option maxRecDepth 65536 in
theorem w_c16 : (Jvm.Cond.code ({ cls := "java/lang/AbstractStringBuilder", name := "isLatin1", desc := "()Z" } : Jvm.MethodName) jdk_68_method_68_code (1 : Nat) (Option.some Jvm.ClassFile.FieldType.boolean)).before args0 about1 = true := code_word (m := ⟨12, 8⟩) (meth := k12m8) (c := k12c8) (by decide +kernel) rfl rfl rfl (by decide +kernel)
set_option maxRecDepth 65536 in
theorem w_c17 : (Jvm.Cond.code ({ cls := "java/util/Arrays", name := "copyOfRange", desc := "([BII)[B" } : Jvm.MethodName) jdk_65_method_132_code (3 : Nat) (Option.some (Jvm.ClassFile.FieldType.array Jvm.ClassFile.FieldType.byte))).before args0 about1 = true := code_word (m := ⟨14, 3⟩) (meth := k14m3) (c := k14c3) (by decide +kernel) rfl rfl rfl (by decide +kernel)
set_option maxRecDepth 65536 in
theorem w_c18 : (Jvm.Cond.code ({ cls := "com/example/unhurried_frontier/unhurriedfrontier/TsvFileEscapedPinLaw", name := "same", desc := "(Ljava/lang/String;[CII)Z" } : Jvm.MethodName) method_5_code (4 : Nat) (Option.some Jvm.ClassFile.FieldType.boolean)).before args0 about1 = true := code_word (m := ⟨1, 4⟩) (meth := k1m4) (c := k1c4) (by decide +kernel) rfl rfl rfl (by decide +kernel)
set_option maxRecDepth 65536 in
theorem w_c19 : (Jvm.Cond.code ({ cls := "java/lang/StringUTF16", name := "compress", desc := "([CII)[B" } : Jvm.MethodName) jdk_52_method_16_code (6 : Nat) (Option.some (Jvm.ClassFile.FieldType.array Jvm.ClassFile.FieldType.byte))).before args0 about1 = true := code_word (m := ⟨16, 8⟩) (meth := k16m8) (c := k16c8) (by decide +kernel) rfl rfl rfl (by decide +kernel)
set_option maxRecDepth 65536 in
theorem w_c20 : (Jvm.Cond.code ({ cls := "java/lang/StringUTF16", name := "compress", desc := "([CI[BII)I" } : Jvm.MethodName) jdk_52_method_21_code (7 : Nat) (Option.some Jvm.ClassFile.FieldType.int)).before args0 about1 = true := code_word (m := ⟨16, 9⟩) (meth := k16m9) (c := k16c9) (by decide +kernel) rfl rfl rfl (by decide +kernel)
set_option maxRecDepth 65536 in
theorem w_c21 : (Jvm.Cond.code ({ cls := "java/lang/StringUTF16", name := "coderFromArrayLen", desc := "([BI)B" } : Jvm.MethodName) jdk_52_method_15_code (2 : Nat) (Option.some Jvm.ClassFile.FieldType.byte)).before args0 about1 = true := code_word (m := ⟨16, 7⟩) (meth := k16m7) (c := k16c7) (by decide +kernel) rfl rfl rfl (by decide +kernel)
set_option maxRecDepth 65536 in
theorem w_c22 : (Jvm.Cond.code ({ cls := "java/lang/String", name := "charAt", desc := "(I)C" } : Jvm.MethodName) jdk_42_method_56_code (2 : Nat) (Option.some Jvm.ClassFile.FieldType.char)).before args0 about1 = true := code_word (m := ⟨7, 4⟩) (meth := k7m4) (c := k7c4) (by decide +kernel) rfl rfl rfl (by decide +kernel)
set_option maxRecDepth 65536 in
theorem w_c23 : (Jvm.Cond.code ({ cls := "java/lang/String", name := "isLatin1", desc := "()Z" } : Jvm.MethodName) jdk_42_method_154_code (1 : Nat) (Option.some Jvm.ClassFile.FieldType.boolean)).before args0 about1 = true := code_word (m := ⟨7, 10⟩) (meth := k7m10) (c := k7c10) (by decide +kernel) rfl rfl rfl (by decide +kernel)
set_option maxRecDepth 65536 in
theorem w_c24 : (Jvm.Cond.code ({ cls := "java/lang/StringLatin1", name := "charAt", desc := "([BI)C" } : Jvm.MethodName) jdk_43_method_2_code (2 : Nat) (Option.some Jvm.ClassFile.FieldType.char)).before args0 about1 = true := code_word (m := ⟨17, 1⟩) (meth := k17m1) (c := k17c1) (by decide +kernel) rfl rfl rfl (by decide +kernel)
set_option maxRecDepth 65536 in
theorem w_c25 : (Jvm.Cond.code ({ cls := "java/lang/String", name := "checkIndex", desc := "(II)V" } : Jvm.MethodName) jdk_42_method_155_code (2 : Nat) (Option.none : Option Jvm.ClassFile.FieldType)).before args0 about1 = true := code_word (m := ⟨7, 11⟩) (meth := k7m11) (c := k7c11) (by decide +kernel) rfl rfl rfl (by decide +kernel)
set_option maxRecDepth 65536 in
theorem w_c26 : (Jvm.Cond.code ({ cls := "jdk/internal/util/Preconditions", name := "checkIndex", desc := "(IILjava/util/function/BiFunction;)I" } : Jvm.MethodName) jdk_41_method_11_code (3 : Nat) (Option.some Jvm.ClassFile.FieldType.int)).before args0 about1 = true := code_word (m := ⟨18, 1⟩) (meth := k18m1) (c := k18c1) (by decide +kernel) rfl rfl rfl (by decide +kernel)
set_option maxRecDepth 65536 in
theorem w_c27 : (Jvm.Cond.code ({ cls := "java/lang/String", name := "indexOf", desc := "(I)I" } : Jvm.MethodName) jdk_42_method_79_code (2 : Nat) (Option.some Jvm.ClassFile.FieldType.int)).before args0 about1 = true := code_word (m := ⟨7, 5⟩) (meth := k7m5) (c := k7c5) (by decide +kernel) rfl rfl rfl (by decide +kernel)
set_option maxRecDepth 65536 in
theorem w_c28 : (Jvm.Cond.code ({ cls := "java/lang/String", name := "indexOf", desc := "(II)I" } : Jvm.MethodName) jdk_42_method_80_code (3 : Nat) (Option.some Jvm.ClassFile.FieldType.int)).before args0 about1 = true := code_word (m := ⟨7, 6⟩) (meth := k7m6) (c := k7c6) (by decide +kernel) rfl rfl rfl (by decide +kernel)
set_option maxRecDepth 65536 in
theorem w_c29 : (Jvm.Cond.code ({ cls := "java/lang/StringLatin1", name := "indexOf", desc := "([BIII)I" } : Jvm.MethodName) jdk_43_method_22_code (4 : Nat) (Option.some Jvm.ClassFile.FieldType.int)).before args0 about1 = true := code_word (m := ⟨17, 4⟩) (meth := k17m4) (c := k17c4) (by decide +kernel) rfl rfl rfl (by decide +kernel)
set_option maxRecDepth 65536 in
theorem w_c30 : (Jvm.Cond.code ({ cls := "java/lang/StringLatin1", name := "canEncode", desc := "(I)Z" } : Jvm.MethodName) jdk_43_method_4_code (1 : Nat) (Option.some Jvm.ClassFile.FieldType.boolean)).before args0 about1 = true := code_word (m := ⟨17, 3⟩) (meth := k17m3) (c := k17c3) (by decide +kernel) rfl rfl rfl (by decide +kernel)
set_option maxRecDepth 65536 in
theorem w_c31 : (Jvm.Cond.code ({ cls := "java/lang/Math", name := "max", desc := "(II)I" } : Jvm.MethodName) jdk_29_method_65_code (2 : Nat) (Option.some Jvm.ClassFile.FieldType.int)).before args0 about1 = true := code_word (m := ⟨19, 1⟩) (meth := k19m1) (c := k19c1) (by decide +kernel) rfl rfl rfl (by decide +kernel)
set_option maxRecDepth 65536 in
theorem w_c32 : (Jvm.Cond.code ({ cls := "java/lang/Math", name := "min", desc := "(II)I" } : Jvm.MethodName) jdk_29_method_69_code (2 : Nat) (Option.some Jvm.ClassFile.FieldType.int)).before args0 about1 = true := code_word (m := ⟨19, 2⟩) (meth := k19m2) (c := k19c2) (by decide +kernel) rfl rfl rfl (by decide +kernel)
set_option maxRecDepth 65536 in
theorem w_c33 : (Jvm.Cond.code ({ cls := "java/lang/StringLatin1", name := "indexOfChar", desc := "([BIII)I" } : Jvm.MethodName) jdk_43_method_23_code (6 : Nat) (Option.some Jvm.ClassFile.FieldType.int)).before args0 about1 = true := code_word (m := ⟨17, 5⟩) (meth := k17m5) (c := k17c5) (by decide +kernel) rfl rfl rfl (by decide +kernel)
set_option maxRecDepth 65536 in
theorem w_c34 : (Jvm.Cond.code ({ cls := "java/lang/StringBuilder", name := "append", desc := "(C)Ljava/lang/StringBuilder;" } : Jvm.MethodName) jdk_67_method_14_code (2 : Nat) (Option.some (Jvm.ClassFile.FieldType.object "java/lang/StringBuilder"))).before args0 about1 = true := code_word (m := ⟨13, 2⟩) (meth := k13m2) (c := k13c2) (by decide +kernel) rfl rfl rfl (by decide +kernel)
set_option maxRecDepth 65536 in
theorem w_c35 : (Jvm.Cond.code ({ cls := "java/lang/AbstractStringBuilder", name := "append", desc := "(C)Ljava/lang/AbstractStringBuilder;" } : Jvm.MethodName) jdk_68_method_31_code (2 : Nat) (Option.some (Jvm.ClassFile.FieldType.object "java/lang/AbstractStringBuilder"))).before args0 about1 = true := code_word (m := ⟨12, 6⟩) (meth := k12m6) (c := k12c6) (by decide +kernel) rfl rfl rfl (by decide +kernel)
set_option maxRecDepth 65536 in
theorem w_c36 : (Jvm.Cond.code ({ cls := "java/lang/AbstractStringBuilder", name := "ensureCapacityInternal", desc := "(I)V" } : Jvm.MethodName) jdk_68_method_9_code (3 : Nat) (Option.none : Option Jvm.ClassFile.FieldType)).before args0 about1 = true := code_word (m := ⟨12, 3⟩) (meth := k12m3) (c := k12c3) (by decide +kernel) rfl rfl rfl (by decide +kernel)
set_option maxRecDepth 65536 in
theorem w_c37 : (Jvm.Cond.code ({ cls := "java/lang/StringLatin1", name := "canEncode", desc := "(C)Z" } : Jvm.MethodName) jdk_43_method_3_code (1 : Nat) (Option.some Jvm.ClassFile.FieldType.boolean)).before args0 about1 = true := code_word (m := ⟨17, 2⟩) (meth := k17m2) (c := k17c2) (by decide +kernel) rfl rfl rfl (by decide +kernel)
set_option maxRecDepth 65536 in
theorem w_c38 : (Jvm.Cond.code ({ cls := "java/lang/AbstractStringBuilder", name := "newCapacity", desc := "(I)I" } : Jvm.MethodName) jdk_68_method_10_code (6 : Nat) (Option.some Jvm.ClassFile.FieldType.int)).before args0 about1 = true := code_word (m := ⟨12, 4⟩) (meth := k12m4) (c := k12c4) (by decide +kernel) rfl rfl rfl (by decide +kernel)
set_option maxRecDepth 65536 in
theorem w_c39 : (Jvm.Cond.code ({ cls := "jdk/internal/util/ArraysSupport", name := "newLength", desc := "(III)I" } : Jvm.MethodName) jdk_48_method_27_code (4 : Nat) (Option.some Jvm.ClassFile.FieldType.int)).before args0 about1 = true := code_word (m := ⟨20, 1⟩) (meth := k20m1) (c := k20c1) (by decide +kernel) rfl rfl rfl (by decide +kernel)
set_option maxRecDepth 65536 in
theorem w_c40 : (Jvm.Cond.code ({ cls := "java/util/Arrays", name := "copyOf", desc := "([BI)[B" } : Jvm.MethodName) jdk_65_method_121_code (3 : Nat) (Option.some (Jvm.ClassFile.FieldType.array Jvm.ClassFile.FieldType.byte))).before args0 about1 = true := code_word (m := ⟨14, 1⟩) (meth := k14m1) (c := k14c1) (by decide +kernel) rfl rfl rfl (by decide +kernel)
set_option maxRecDepth 65536 in
theorem w_c41 : (Jvm.Cond.code ({ cls := "java/util/Arrays", name := "copyOfRangeByte", desc := "([BII)[B" } : Jvm.MethodName) jdk_65_method_133_code (5 : Nat) (Option.some (Jvm.ClassFile.FieldType.array Jvm.ClassFile.FieldType.byte))).before args0 about1 = true := code_word (m := ⟨14, 4⟩) (meth := k14m4) (c := k14c4) (by decide +kernel) rfl rfl rfl (by decide +kernel)
set_option maxRecDepth 65536 in
theorem w_c42 : (Jvm.Cond.code ({ cls := "java/util/Arrays", name := "checkLength", desc := "(II)V" } : Jvm.MethodName) jdk_65_method_131_code (2 : Nat) (Option.none : Option Jvm.ClassFile.FieldType)).before args0 about1 = true := code_word (m := ⟨14, 2⟩) (meth := k14m2) (c := k14c2) (by decide +kernel) rfl rfl rfl (by decide +kernel)
set_option maxRecDepth 65536 in
theorem w_c43 : (Jvm.Cond.code ({ cls := "com/example/unhurried_frontier/unhurriedfrontier/TsvFileEscapedPinLaw", name := "put", desc := "([CIC)I" } : Jvm.MethodName) method_4_code (3 : Nat) (Option.some Jvm.ClassFile.FieldType.int)).before args0 about1 = true := code_word (m := ⟨1, 3⟩) (meth := k1m3) (c := k1c3) (by decide +kernel) rfl rfl rfl (by decide +kernel)
set_option maxRecDepth 65536 in
theorem w_c44 : (Jvm.Cond.code ({ cls := "java/lang/StringUTF16", name := "toBytes", desc := "([CII)[B" } : Jvm.MethodName) jdk_52_method_14_code (5 : Nat) (Option.some (Jvm.ClassFile.FieldType.array Jvm.ClassFile.FieldType.byte))).before args0 about1 = true := code_word (m := ⟨16, 6⟩) (meth := k16m6) (c := k16c6) (by decide +kernel) rfl rfl rfl (by decide +kernel)
set_option maxRecDepth 65536 in
theorem w_c45 : (Jvm.Cond.code ({ cls := "java/lang/StringUTF16", name := "newBytesFor", desc := "(I)[B" } : Jvm.MethodName) jdk_52_method_2_code (1 : Nat) (Option.some (Jvm.ClassFile.FieldType.array Jvm.ClassFile.FieldType.byte))).before args0 about1 = true := code_word (m := ⟨16, 1⟩) (meth := k16m1) (c := k16c1) (by decide +kernel) rfl rfl rfl (by decide +kernel)
set_option maxRecDepth 65536 in
theorem w_c46 : (Jvm.Cond.code ({ cls := "java/lang/StringUTF16", name := "newBytesLength", desc := "(I)I" } : Jvm.MethodName) jdk_52_method_3_code (1 : Nat) (Option.some Jvm.ClassFile.FieldType.int)).before args0 about1 = true := code_word (m := ⟨16, 2⟩) (meth := k16m2) (c := k16c2) (by decide +kernel) rfl rfl rfl (by decide +kernel)
set_option maxRecDepth 65536 in
theorem w_c47 : (Jvm.Cond.code ({ cls := "java/lang/StringUTF16", name := "putChar", desc := "([BII)V" } : Jvm.MethodName) jdk_52_method_4_code (3 : Nat) (Option.none : Option Jvm.ClassFile.FieldType)).before args0 about1 = true := code_word (m := ⟨16, 3⟩) (meth := k16m3) (c := k16c3) (by decide +kernel) rfl rfl rfl (by decide +kernel)
set_option maxRecDepth 65536 in
theorem w_c48 : (Jvm.Cond.code ({ cls := "java/lang/StringUTF16", name := "getChar", desc := "([BI)C" } : Jvm.MethodName) jdk_52_method_5_code (2 : Nat) (Option.some Jvm.ClassFile.FieldType.char)).before args0 about1 = true := code_word (m := ⟨16, 4⟩) (meth := k16m4) (c := k16c4) (by decide +kernel) rfl rfl rfl (by decide +kernel)
set_option maxRecDepth 65536 in
theorem w_c49 : (Jvm.Cond.code ({ cls := "java/lang/StringUTF16", name := "charAt", desc := "([BI)C" } : Jvm.MethodName) jdk_52_method_83_code (2 : Nat) (Option.some Jvm.ClassFile.FieldType.char)).before args0 about1 = true := code_word (m := ⟨16, 11⟩) (meth := k16m11) (c := k16c11) (by decide +kernel) rfl rfl rfl (by decide +kernel)
set_option maxRecDepth 65536 in
theorem w_c50 : (Jvm.Cond.code ({ cls := "java/lang/StringUTF16", name := "checkIndex", desc := "(I[B)V" } : Jvm.MethodName) jdk_52_method_91_code (2 : Nat) (Option.none : Option Jvm.ClassFile.FieldType)).before args0 about1 = true := code_word (m := ⟨16, 13⟩) (meth := k16m13) (c := k16c13) (by decide +kernel) rfl rfl rfl (by decide +kernel)
set_option maxRecDepth 65536 in
theorem w_c51 : (Jvm.Cond.code ({ cls := "java/lang/StringUTF16", name := "length", desc := "([B)I" } : Jvm.MethodName) jdk_52_method_6_code (1 : Nat) (Option.some Jvm.ClassFile.FieldType.int)).before args0 about1 = true := code_word (m := ⟨16, 5⟩) (meth := k16m5) (c := k16c5) (by decide +kernel) rfl rfl rfl (by decide +kernel)
set_option maxRecDepth 65536 in
theorem w_c52 : (Jvm.Cond.code ({ cls := "java/lang/AbstractStringBuilder", name := "inflate", desc := "()V" } : Jvm.MethodName) jdk_68_method_11_code (2 : Nat) (Option.none : Option Jvm.ClassFile.FieldType)).before args0 about1 = true := code_word (m := ⟨12, 5⟩) (meth := k12m5) (c := k12c5) (by decide +kernel) rfl rfl rfl (by decide +kernel)
set_option maxRecDepth 65536 in
theorem w_c53 : (Jvm.Cond.code ({ cls := "java/lang/StringLatin1", name := "inflate", desc := "([BI[BII)V" } : Jvm.MethodName) jdk_43_method_50_code (5 : Nat) (Option.none : Option Jvm.ClassFile.FieldType)).before args0 about1 = true := code_word (m := ⟨17, 6⟩) (meth := k17m6) (c := k17c6) (by decide +kernel) rfl rfl rfl (by decide +kernel)
set_option maxRecDepth 65536 in
theorem w_c54 : (Jvm.Cond.code ({ cls := "java/lang/StringUTF16", name := "inflate", desc := "([BI[BII)V" } : Jvm.MethodName) jdk_52_method_86_code (6 : Nat) (Option.none : Option Jvm.ClassFile.FieldType)).before args0 about1 = true := code_word (m := ⟨16, 12⟩) (meth := k16m12) (c := k16c12) (by decide +kernel) rfl rfl rfl (by decide +kernel)
set_option maxRecDepth 65536 in
theorem w_c55 : (Jvm.Cond.code ({ cls := "java/lang/StringUTF16", name := "checkBoundsOffCount", desc := "(II[B)V" } : Jvm.MethodName) jdk_52_method_94_code (3 : Nat) (Option.none : Option Jvm.ClassFile.FieldType)).before args0 about1 = true := code_word (m := ⟨16, 14⟩) (meth := k16m14) (c := k16c14) (by decide +kernel) rfl rfl rfl (by decide +kernel)
set_option maxRecDepth 65536 in
theorem w_c56 : (Jvm.Cond.code ({ cls := "java/lang/String", name := "checkBoundsOffCount", desc := "(III)I" } : Jvm.MethodName) jdk_42_method_157_code (3 : Nat) (Option.some Jvm.ClassFile.FieldType.int)).before args0 about1 = true := code_word (m := ⟨7, 12⟩) (meth := k7m12) (c := k7c12) (by decide +kernel) rfl rfl rfl (by decide +kernel)
set_option maxRecDepth 65536 in
theorem w_c57 : (Jvm.Cond.code ({ cls := "jdk/internal/util/Preconditions", name := "checkFromIndexSize", desc := "(IIILjava/util/function/BiFunction;)I" } : Jvm.MethodName) jdk_41_method_13_code (4 : Nat) (Option.some Jvm.ClassFile.FieldType.int)).before args0 about1 = true := code_word (m := ⟨18, 2⟩) (meth := k18m2) (c := k18c2) (by decide +kernel) rfl rfl rfl (by decide +kernel)
set_option maxRecDepth 65536 in
theorem w_c58 : (Jvm.Cond.code ({ cls := "java/lang/StringUTF16", name := "putCharSB", desc := "([BII)V" } : Jvm.MethodName) jdk_52_method_71_code (3 : Nat) (Option.none : Option Jvm.ClassFile.FieldType)).before args0 about1 = true := code_word (m := ⟨16, 10⟩) (meth := k16m10) (c := k16c10) (by decide +kernel) rfl rfl rfl (by decide +kernel)
def codes1 : List Jvm.Cond := [Jvm.Cond.code x code maxLocals ret, Jvm.Cond.code ({ cls := "com/example/unhurried_frontier/unhurriedfrontier/TsvFileEscapedPinLaw", name := "pick", desc := "(I)C" } : Jvm.MethodName) method_3_code (2 : Nat) (Option.some Jvm.ClassFile.FieldType.char), Jvm.Cond.code ({ cls := "java/lang/String", name := "<init>", desc := "([C)V" } : Jvm.MethodName) jdk_42_method_3_code (2 : Nat) (Option.none : Option Jvm.ClassFile.FieldType), Jvm.Cond.code ({ cls := "java/lang/String", name := "<init>", desc := "([CIILjava/lang/Void;)V" } : Jvm.MethodName) jdk_42_method_149_code (6 : Nat) (Option.none : Option Jvm.ClassFile.FieldType), Jvm.Cond.code ({ cls := "java/lang/Object", name := "<init>", desc := "()V" } : Jvm.MethodName) object_method_1_code (1 : Nat) (Option.none : Option Jvm.ClassFile.FieldType), Jvm.Cond.code ({ cls := "com/example/unhurried_frontier/unhurriedfrontier/TsvFile", name := "escaped", desc := "(Ljava/lang/String;)Ljava/lang/String;" } : Jvm.MethodName) prog_8_method_5_code (5 : Nat) (Option.some (Jvm.ClassFile.FieldType.object "java/lang/String")), Jvm.Cond.code ({ cls := "java/lang/String", name := "length", desc := "()I" } : Jvm.MethodName) jdk_42_method_54_code (1 : Nat) (Option.some Jvm.ClassFile.FieldType.int), Jvm.Cond.code ({ cls := "java/lang/String", name := "coder", desc := "()B" } : Jvm.MethodName) jdk_42_method_152_code (1 : Nat) (Option.some Jvm.ClassFile.FieldType.byte), Jvm.Cond.code ({ cls := "java/lang/StringBuilder", name := "<init>", desc := "(I)V" } : Jvm.MethodName) jdk_67_method_2_code (2 : Nat) (Option.none : Option Jvm.ClassFile.FieldType), Jvm.Cond.code ({ cls := "java/lang/AbstractStringBuilder", name := "<init>", desc := "(I)V" } : Jvm.MethodName) jdk_68_method_2_code (2 : Nat) (Option.none : Option Jvm.ClassFile.FieldType), Jvm.Cond.code ({ cls := "java/lang/StringBuilder", name := "toString", desc := "()Ljava/lang/String;" } : Jvm.MethodName) jdk_67_method_42_code (1 : Nat) (Option.some (Jvm.ClassFile.FieldType.object "java/lang/String")), Jvm.Cond.code ({ cls := "java/lang/String", name := "<init>", desc := "(Ljava/lang/StringBuilder;)V" } : Jvm.MethodName) jdk_42_method_53_code (2 : Nat) (Option.none : Option Jvm.ClassFile.FieldType), Jvm.Cond.code ({ cls := "java/lang/String", name := "<init>", desc := "(Ljava/lang/AbstractStringBuilder;Ljava/lang/Void;)V" } : Jvm.MethodName) jdk_42_method_150_code (5 : Nat) (Option.none : Option Jvm.ClassFile.FieldType), Jvm.Cond.code ({ cls := "java/lang/AbstractStringBuilder", name := "getValue", desc := "()[B" } : Jvm.MethodName) jdk_68_method_64_code (1 : Nat) (Option.some (Jvm.ClassFile.FieldType.array Jvm.ClassFile.FieldType.byte)), Jvm.Cond.code ({ cls := "java/lang/StringBuilder", name := "length", desc := "()I" } : Jvm.MethodName) jdk_67_method_93_code (1 : Nat) (Option.some Jvm.ClassFile.FieldType.int), Jvm.Cond.code ({ cls := "java/lang/AbstractStringBuilder", name := "length", desc := "()I" } : Jvm.MethodName) jdk_68_method_6_code (1 : Nat) (Option.some Jvm.ClassFile.FieldType.int), Jvm.Cond.code ({ cls := "java/lang/AbstractStringBuilder", name := "isLatin1", desc := "()Z" } : Jvm.MethodName) jdk_68_method_68_code (1 : Nat) (Option.some Jvm.ClassFile.FieldType.boolean), Jvm.Cond.code ({ cls := "java/util/Arrays", name := "copyOfRange", desc := "([BII)[B" } : Jvm.MethodName) jdk_65_method_132_code (3 : Nat) (Option.some (Jvm.ClassFile.FieldType.array Jvm.ClassFile.FieldType.byte)), Jvm.Cond.code ({ cls := "com/example/unhurried_frontier/unhurriedfrontier/TsvFileEscapedPinLaw", name := "same", desc := "(Ljava/lang/String;[CII)Z" } : Jvm.MethodName) method_5_code (4 : Nat) (Option.some Jvm.ClassFile.FieldType.boolean), Jvm.Cond.code ({ cls := "java/lang/StringUTF16", name := "compress", desc := "([CII)[B" } : Jvm.MethodName) jdk_52_method_16_code (6 : Nat) (Option.some (Jvm.ClassFile.FieldType.array Jvm.ClassFile.FieldType.byte)), Jvm.Cond.code ({ cls := "java/lang/StringUTF16", name := "compress", desc := "([CI[BII)I" } : Jvm.MethodName) jdk_52_method_21_code (7 : Nat) (Option.some Jvm.ClassFile.FieldType.int), Jvm.Cond.code ({ cls := "java/lang/StringUTF16", name := "coderFromArrayLen", desc := "([BI)B" } : Jvm.MethodName) jdk_52_method_15_code (2 : Nat) (Option.some Jvm.ClassFile.FieldType.byte), Jvm.Cond.code ({ cls := "java/lang/String", name := "charAt", desc := "(I)C" } : Jvm.MethodName) jdk_42_method_56_code (2 : Nat) (Option.some Jvm.ClassFile.FieldType.char), Jvm.Cond.code ({ cls := "java/lang/String", name := "isLatin1", desc := "()Z" } : Jvm.MethodName) jdk_42_method_154_code (1 : Nat) (Option.some Jvm.ClassFile.FieldType.boolean), Jvm.Cond.code ({ cls := "java/lang/StringLatin1", name := "charAt", desc := "([BI)C" } : Jvm.MethodName) jdk_43_method_2_code (2 : Nat) (Option.some Jvm.ClassFile.FieldType.char), Jvm.Cond.code ({ cls := "java/lang/String", name := "checkIndex", desc := "(II)V" } : Jvm.MethodName) jdk_42_method_155_code (2 : Nat) (Option.none : Option Jvm.ClassFile.FieldType), Jvm.Cond.code ({ cls := "jdk/internal/util/Preconditions", name := "checkIndex", desc := "(IILjava/util/function/BiFunction;)I" } : Jvm.MethodName) jdk_41_method_11_code (3 : Nat) (Option.some Jvm.ClassFile.FieldType.int), Jvm.Cond.code ({ cls := "java/lang/String", name := "indexOf", desc := "(I)I" } : Jvm.MethodName) jdk_42_method_79_code (2 : Nat) (Option.some Jvm.ClassFile.FieldType.int), Jvm.Cond.code ({ cls := "java/lang/String", name := "indexOf", desc := "(II)I" } : Jvm.MethodName) jdk_42_method_80_code (3 : Nat) (Option.some Jvm.ClassFile.FieldType.int), Jvm.Cond.code ({ cls := "java/lang/StringLatin1", name := "indexOf", desc := "([BIII)I" } : Jvm.MethodName) jdk_43_method_22_code (4 : Nat) (Option.some Jvm.ClassFile.FieldType.int), Jvm.Cond.code ({ cls := "java/lang/StringLatin1", name := "canEncode", desc := "(I)Z" } : Jvm.MethodName) jdk_43_method_4_code (1 : Nat) (Option.some Jvm.ClassFile.FieldType.boolean), Jvm.Cond.code ({ cls := "java/lang/Math", name := "max", desc := "(II)I" } : Jvm.MethodName) jdk_29_method_65_code (2 : Nat) (Option.some Jvm.ClassFile.FieldType.int), Jvm.Cond.code ({ cls := "java/lang/Math", name := "min", desc := "(II)I" } : Jvm.MethodName) jdk_29_method_69_code (2 : Nat) (Option.some Jvm.ClassFile.FieldType.int), Jvm.Cond.code ({ cls := "java/lang/StringLatin1", name := "indexOfChar", desc := "([BIII)I" } : Jvm.MethodName) jdk_43_method_23_code (6 : Nat) (Option.some Jvm.ClassFile.FieldType.int), Jvm.Cond.code ({ cls := "java/lang/StringBuilder", name := "append", desc := "(C)Ljava/lang/StringBuilder;" } : Jvm.MethodName) jdk_67_method_14_code (2 : Nat) (Option.some (Jvm.ClassFile.FieldType.object "java/lang/StringBuilder")), Jvm.Cond.code ({ cls := "java/lang/AbstractStringBuilder", name := "append", desc := "(C)Ljava/lang/AbstractStringBuilder;" } : Jvm.MethodName) jdk_68_method_31_code (2 : Nat) (Option.some (Jvm.ClassFile.FieldType.object "java/lang/AbstractStringBuilder")), Jvm.Cond.code ({ cls := "java/lang/AbstractStringBuilder", name := "ensureCapacityInternal", desc := "(I)V" } : Jvm.MethodName) jdk_68_method_9_code (3 : Nat) (Option.none : Option Jvm.ClassFile.FieldType), Jvm.Cond.code ({ cls := "java/lang/StringLatin1", name := "canEncode", desc := "(C)Z" } : Jvm.MethodName) jdk_43_method_3_code (1 : Nat) (Option.some Jvm.ClassFile.FieldType.boolean), Jvm.Cond.code ({ cls := "java/lang/AbstractStringBuilder", name := "newCapacity", desc := "(I)I" } : Jvm.MethodName) jdk_68_method_10_code (6 : Nat) (Option.some Jvm.ClassFile.FieldType.int), Jvm.Cond.code ({ cls := "jdk/internal/util/ArraysSupport", name := "newLength", desc := "(III)I" } : Jvm.MethodName) jdk_48_method_27_code (4 : Nat) (Option.some Jvm.ClassFile.FieldType.int), Jvm.Cond.code ({ cls := "java/util/Arrays", name := "copyOf", desc := "([BI)[B" } : Jvm.MethodName) jdk_65_method_121_code (3 : Nat) (Option.some (Jvm.ClassFile.FieldType.array Jvm.ClassFile.FieldType.byte)), Jvm.Cond.code ({ cls := "java/util/Arrays", name := "copyOfRangeByte", desc := "([BII)[B" } : Jvm.MethodName) jdk_65_method_133_code (5 : Nat) (Option.some (Jvm.ClassFile.FieldType.array Jvm.ClassFile.FieldType.byte)), Jvm.Cond.code ({ cls := "java/util/Arrays", name := "checkLength", desc := "(II)V" } : Jvm.MethodName) jdk_65_method_131_code (2 : Nat) (Option.none : Option Jvm.ClassFile.FieldType), Jvm.Cond.code ({ cls := "com/example/unhurried_frontier/unhurriedfrontier/TsvFileEscapedPinLaw", name := "put", desc := "([CIC)I" } : Jvm.MethodName) method_4_code (3 : Nat) (Option.some Jvm.ClassFile.FieldType.int), Jvm.Cond.code ({ cls := "java/lang/StringUTF16", name := "toBytes", desc := "([CII)[B" } : Jvm.MethodName) jdk_52_method_14_code (5 : Nat) (Option.some (Jvm.ClassFile.FieldType.array Jvm.ClassFile.FieldType.byte)), Jvm.Cond.code ({ cls := "java/lang/StringUTF16", name := "newBytesFor", desc := "(I)[B" } : Jvm.MethodName) jdk_52_method_2_code (1 : Nat) (Option.some (Jvm.ClassFile.FieldType.array Jvm.ClassFile.FieldType.byte)), Jvm.Cond.code ({ cls := "java/lang/StringUTF16", name := "newBytesLength", desc := "(I)I" } : Jvm.MethodName) jdk_52_method_3_code (1 : Nat) (Option.some Jvm.ClassFile.FieldType.int), Jvm.Cond.code ({ cls := "java/lang/StringUTF16", name := "putChar", desc := "([BII)V" } : Jvm.MethodName) jdk_52_method_4_code (3 : Nat) (Option.none : Option Jvm.ClassFile.FieldType), Jvm.Cond.code ({ cls := "java/lang/StringUTF16", name := "getChar", desc := "([BI)C" } : Jvm.MethodName) jdk_52_method_5_code (2 : Nat) (Option.some Jvm.ClassFile.FieldType.char), Jvm.Cond.code ({ cls := "java/lang/StringUTF16", name := "charAt", desc := "([BI)C" } : Jvm.MethodName) jdk_52_method_83_code (2 : Nat) (Option.some Jvm.ClassFile.FieldType.char), Jvm.Cond.code ({ cls := "java/lang/StringUTF16", name := "checkIndex", desc := "(I[B)V" } : Jvm.MethodName) jdk_52_method_91_code (2 : Nat) (Option.none : Option Jvm.ClassFile.FieldType), Jvm.Cond.code ({ cls := "java/lang/StringUTF16", name := "length", desc := "([B)I" } : Jvm.MethodName) jdk_52_method_6_code (1 : Nat) (Option.some Jvm.ClassFile.FieldType.int), Jvm.Cond.code ({ cls := "java/lang/AbstractStringBuilder", name := "inflate", desc := "()V" } : Jvm.MethodName) jdk_68_method_11_code (2 : Nat) (Option.none : Option Jvm.ClassFile.FieldType), Jvm.Cond.code ({ cls := "java/lang/StringLatin1", name := "inflate", desc := "([BI[BII)V" } : Jvm.MethodName) jdk_43_method_50_code (5 : Nat) (Option.none : Option Jvm.ClassFile.FieldType), Jvm.Cond.code ({ cls := "java/lang/StringUTF16", name := "inflate", desc := "([BI[BII)V" } : Jvm.MethodName) jdk_52_method_86_code (6 : Nat) (Option.none : Option Jvm.ClassFile.FieldType), Jvm.Cond.code ({ cls := "java/lang/StringUTF16", name := "checkBoundsOffCount", desc := "(II[B)V" } : Jvm.MethodName) jdk_52_method_94_code (3 : Nat) (Option.none : Option Jvm.ClassFile.FieldType), Jvm.Cond.code ({ cls := "java/lang/String", name := "checkBoundsOffCount", desc := "(III)I" } : Jvm.MethodName) jdk_42_method_157_code (3 : Nat) (Option.some Jvm.ClassFile.FieldType.int), Jvm.Cond.code ({ cls := "jdk/internal/util/Preconditions", name := "checkFromIndexSize", desc := "(IIILjava/util/function/BiFunction;)I" } : Jvm.MethodName) jdk_41_method_13_code (4 : Nat) (Option.some Jvm.ClassFile.FieldType.int), Jvm.Cond.code ({ cls := "java/lang/StringUTF16", name := "putCharSB", desc := "([BII)V" } : Jvm.MethodName) jdk_52_method_71_code (3 : Nat) (Option.none : Option Jvm.ClassFile.FieldType)]
set_option maxRecDepth 65536 in
theorem codes_eq : words1.filter isCode = codes1 := rfl
theorem w_codes : ∀ c ∈ words1.filter isCode, c.before args0 about1 = true := by
  rw [codes_eq]
  intro c hc
  simp only [codes1, List.mem_cons, List.not_mem_nil, or_false] at hc
  rcases hc with rfl | rfl | rfl | rfl | rfl | rfl | rfl | rfl | rfl | rfl | rfl | rfl | rfl | rfl | rfl | rfl | rfl | rfl | rfl | rfl | rfl | rfl | rfl | rfl | rfl | rfl | rfl | rfl | rfl | rfl | rfl | rfl | rfl | rfl | rfl | rfl | rfl | rfl | rfl | rfl | rfl | rfl | rfl | rfl | rfl | rfl | rfl | rfl | rfl | rfl | rfl | rfl | rfl | rfl | rfl | rfl | rfl | rfl | rfl
  · exact w_c0
  · exact w_c1
  · exact w_c2
  · exact w_c3
  · exact w_c4
  · exact w_c5
  · exact w_c6
  · exact w_c7
  · exact w_c8
  · exact w_c9
  · exact w_c10
  · exact w_c11
  · exact w_c12
  · exact w_c13
  · exact w_c14
  · exact w_c15
  · exact w_c16
  · exact w_c17
  · exact w_c18
  · exact w_c19
  · exact w_c20
  · exact w_c21
  · exact w_c22
  · exact w_c23
  · exact w_c24
  · exact w_c25
  · exact w_c26
  · exact w_c27
  · exact w_c28
  · exact w_c29
  · exact w_c30
  · exact w_c31
  · exact w_c32
  · exact w_c33
  · exact w_c34
  · exact w_c35
  · exact w_c36
  · exact w_c37
  · exact w_c38
  · exact w_c39
  · exact w_c40
  · exact w_c41
  · exact w_c42
  · exact w_c43
  · exact w_c44
  · exact w_c45
  · exact w_c46
  · exact w_c47
  · exact w_c48
  · exact w_c49
  · exact w_c50
  · exact w_c51
  · exact w_c52
  · exact w_c53
  · exact w_c54
  · exact w_c55
  · exact w_c56
  · exact w_c57
  · exact w_c58
set_option maxRecDepth 65536 in
theorem w_t1 : (words1.take 24).all (fun c => isCode c || c.before args0 about1) = true := by decide +kernel
set_option maxRecDepth 65536 in
theorem w_t2 : ((words1.drop 24).take 24).all (fun c => isCode c || c.before args0 about1) = true := by decide +kernel
set_option maxRecDepth 65536 in
theorem w_t3 : (((words1.drop 24).drop 24).take 24).all (fun c => isCode c || c.before args0 about1) = true := by decide +kernel
set_option maxRecDepth 65536 in
theorem w_t4 : ((((words1.drop 24).drop 24).drop 24).take 24).all (fun c => isCode c || c.before args0 about1) = true := by decide +kernel
set_option maxRecDepth 65536 in
theorem w_t5 : (((((words1.drop 24).drop 24).drop 24).drop 24).take 24).all (fun c => isCode c || c.before args0 about1) = true := by decide +kernel
set_option maxRecDepth 65536 in
theorem w_t6 : ((((((words1.drop 24).drop 24).drop 24).drop 24).drop 24).take 24).all (fun c => isCode c || c.before args0 about1) = true := by decide +kernel
set_option maxRecDepth 65536 in
theorem w_t7 : (((((((words1.drop 24).drop 24).drop 24).drop 24).drop 24).drop 24).take 24).all (fun c => isCode c || c.before args0 about1) = true := by decide +kernel
set_option maxRecDepth 65536 in
theorem w_t8 : ((((((((words1.drop 24).drop 24).drop 24).drop 24).drop 24).drop 24).drop 24).take 24).all (fun c => isCode c || c.before args0 about1) = true := by decide +kernel
set_option maxRecDepth 65536 in
theorem w_t9 : (((((((((words1.drop 24).drop 24).drop 24).drop 24).drop 24).drop 24).drop 24).drop 24).take 24).all (fun c => isCode c || c.before args0 about1) = true := by decide +kernel
set_option maxRecDepth 65536 in
theorem w_t10 : ((((((((((words1.drop 24).drop 24).drop 24).drop 24).drop 24).drop 24).drop 24).drop 24).drop 24).take 24).all (fun c => isCode c || c.before args0 about1) = true := by decide +kernel
set_option maxRecDepth 65536 in
theorem w_t11 : (((((((((((words1.drop 24).drop 24).drop 24).drop 24).drop 24).drop 24).drop 24).drop 24).drop 24).drop 24).take 24).all (fun c => isCode c || c.before args0 about1) = true := by decide +kernel
set_option maxRecDepth 65536 in
theorem w_t12 : (((((((((((words1.drop 24).drop 24).drop 24).drop 24).drop 24).drop 24).drop 24).drop 24).drop 24).drop 24).drop 24).all (fun c => isCode c || c.before args0 about1) = true := by decide +kernel
theorem w_tables : (allAtoms (Jvm.Cond.code x code maxLocals ret :: tables_1)).before args0 about1 = true := by
  rw [allAtoms_all]
  show words1.all (fun c => c.before args0 about1) = true
  refine all_split ?_ w_codes
  rw [← List.take_append_drop 24 words1, List.all_append, w_t1, ← List.take_append_drop 24 (words1.drop 24), List.all_append, w_t2, ← List.take_append_drop 24 ((words1.drop 24).drop 24), List.all_append, w_t3, ← List.take_append_drop 24 (((words1.drop 24).drop 24).drop 24), List.all_append, w_t4, ← List.take_append_drop 24 ((((words1.drop 24).drop 24).drop 24).drop 24), List.all_append, w_t5, ← List.take_append_drop 24 (((((words1.drop 24).drop 24).drop 24).drop 24).drop 24), List.all_append, w_t6, ← List.take_append_drop 24 ((((((words1.drop 24).drop 24).drop 24).drop 24).drop 24).drop 24), List.all_append, w_t7, ← List.take_append_drop 24 (((((((words1.drop 24).drop 24).drop 24).drop 24).drop 24).drop 24).drop 24), List.all_append, w_t8, ← List.take_append_drop 24 ((((((((words1.drop 24).drop 24).drop 24).drop 24).drop 24).drop 24).drop 24).drop 24), List.all_append, w_t9, ← List.take_append_drop 24 (((((((((words1.drop 24).drop 24).drop 24).drop 24).drop 24).drop 24).drop 24).drop 24).drop 24), List.all_append, w_t10, ← List.take_append_drop 24 ((((((((((words1.drop 24).drop 24).drop 24).drop 24).drop 24).drop 24).drop 24).drop 24).drop 24).drop 24), List.all_append, w_t11, w_t12]
  rfl
set_option maxRecDepth 65536 in
theorem w_rest : rest_1_c.before args0 about1 = true := by decide +kernel
set_option maxRecDepth 65536 in
theorem w_case : (Jvm.Cond.and given_1 narrow_1).before args0 about1 = true := by decide +kernel
set_option maxRecDepth 65536 in
theorem w_consts : constsHeld consts_1 about1 := Jvm.Lit.constsHeldB_iff.mp (by decide +kernel)
theorem w_applies : (headSpec (Jvm.Cond.code x code maxLocals ret :: tables_1) room_1).applies x e0.platform about1 = true :=
  (Spec.applies_iff w_frames).mpr ⟨w_running, w_runnable, w_alone, w_named, w_hears, w_ripe, w_room, w_tables⟩
theorem atStart : AtStart classFile x code maxLocals ret World_1 tables_1 room_1 Calls_1 rest_1 Pre_1 launch0 p0 e0 about1 theMethod args0 below0 :=
  ⟨lists_1, trivial, launch0.admits_env _ _ _, launch0.least_env, fairChoices_fair.cas, fairChoices_fair.clock, w_frames, w_args, w_heap, w_applies, ⟨w_consts, trivial⟩, w_rest, w_case⟩
end start1
theorem witness_1 : WitnessClaimed_1 := ⟨start1.p0, start1.e0, start1.about1, start1.theMethod, start1.args0, start1.below0, start1.atStart⟩
end Jvm.Pilot.@@N@@
