import JvmDerived
import JvmDerived.Pilot.@@N@@Statement
import JvmDerived.Pilot.@@N@@Code
set_option linter.unusedVariables false
set_option linter.unusedSimpArgs false
namespace Jvm.OwnL
open Sem ClassFile Op Lib Bundle Jvm.Stand Jvm.Free Jvm.LawKit Jvm.RoadKit
/-- where a walk stands: the tables v at hand (String constants of EL, if loaded, hold their text), the heap h (the entry heap h0 but for ws and what is new; the case's own start unchanged), what is safely no constant's cell (sf), and the frame -/
def Wl (Z : State) (a0 : Array Value) (own : String) (p : Program) (l : Launch) (e : Env) (R : Room) (s : State) (m : MethodId) (args : Array Value) (below : List Frame) (meth : Method) (c : Code) (code : ByteArray) (mx : Nat) (B : State) (EL : List (String × Nat)) (h0 : Heap) (n0 : Nat) (ws sf : List Addr) (h : Heap) (cells slots pc : Nat) (L : Array Slot) (S : List Value) : Prop :=
  (p.tables.exec = Jvm.exec ∧ c.code = code ∧ c.maxLocals = mx ∧ EW Z a0 EL) ∧ (Old Z n0 h ∧ Keep h0 h ws ∧ (∀ x ∈ ws, n0 ≤ x) ∧ n0 ≤ h0.size ∧ s.heap = h0) ∧
    ∃ (v : Vm) (k0 : Nat) (T : State) (locs : List Loc), Stand p l e R (s.setVm v) m args below meth c T locs cells slots ∧ (s.Since v k0 ∧ k0 ≤ h.size ∧ Z.Warmed39 v ∧ v.findClass own = some m.cls) ∧ (CHr Z EL s.vm h0 v h ∧ ∀ x ∈ sf, x < h.size ∧ Safe Z EL v h x) ∧ Fr n0 locs ∧ T.heap = h ∧ ∀ t, Steps p.tables e below (T.setTop (mkF m pc L S)) t → Steps p.tables e below B t
section OwnL
variable {Z : State} {own : String} {p : Program} {l : Launch} {e : Env} {R : Room} {s : State} {m : MethodId} {args : Array Value} {below : List Frame} {meth : Method} {c : Code} {code : ByteArray} {mx : Nat} {B : State} {EL : List (String × Nat)} {h0 : Heap} {n0 : Nat} {ws sf : List Addr} {h h' : Heap} {cells slots pc : Nat} {L L' : Array Slot} {S : List Value} {a0 : Array Value}
theorem safeNew {v : Vm} (E : Ext h h') (H : CHv Z EL v h) (F : ∀ x ∈ sf, x < h.size ∧ Safe Z EL v h x) (lt : h.size < h'.size) : ∀ x ∈ h.size :: sf, x < h'.size ∧ Safe Z EL v h' x := fun x q => by
  rcases List.mem_cons.mp q with rfl | q
  · exact ⟨lt, (Safe.new (Nat.le_refl _)).ext E H⟩
  · exact ⟨Nat.lt_of_lt_of_le (F x q).1 E.1, (F x q).2.ext E H⟩
theorem safeKeep {v : Vm} {wsC : List Addr} (K : Keep h h' wsC) (hs : ∀ x ∈ wsC, Safe Z EL v h x) (H : CHv Z EL v h) (F : ∀ x ∈ sf, x < h.size ∧ Safe Z EL v h x) : ∀ x ∈ sf, x < h'.size ∧ Safe Z EL v h' x := fun x q =>
  ⟨Nat.lt_of_lt_of_le (F x q).1 K.1, (F x q).2.keep K hs H⟩
theorem Wl.keep0 (G : Wl Z a0 own p l e R s m args below meth c code mx B EL h0 n0 ws sf h cells slots pc L S) : Keep h0 h ws := G.2.1.2.1
theorem Wl.old (G : Wl Z a0 own p l e R s m args below meth c code mx B EL h0 n0 ws sf h cells slots pc L S) : Old Z n0 h := G.2.1.1
theorem Wl.n0le (G : Wl Z a0 own p l e R s m args below meth c code mx B EL h0 n0 ws sf h cells slots pc L S) : n0 ≤ h.size := Nat.le_trans G.2.1.2.2.2.1 G.2.1.2.1.1
theorem Wl.sz (G : Wl Z a0 own p l e R s m args below meth c code mx B EL h0 n0 ws sf h cells slots pc L S) : h0.size ≤ h.size := G.2.1.2.1.1
theorem Wl.nw (G : Wl Z a0 own p l e R s m args below meth c code mx B EL h0 n0 ws sf h cells slots pc L S) {x : Addr} (q : x ∈ ws ∨ h0.size ≤ x) : n0 ≤ x := q.elim (G.2.1.2.2.1 x) (Nat.le_trans G.2.1.2.2.2.1)
theorem Wl.sta {C n d : String} {v : Value} (G : Wl Z a0 own p l e R s m args below meth c code mx B EL h0 n0 ws sf h cells slots pc L S) (F : Sta Z Z.heap C n d v) : Sta Z h C n d v := F.ext G.2.1.1.2
theorem Wl.plain {pc' : Nat} {S' : List Value} (G : Wl Z a0 own p l e R s m args below meth c code mx B EL h0 n0 ws sf h cells slots pc L S) (st : ∀ T : State, At T m c below → p.tables.exec = Jvm.exec → c.code = code → ∀ t, Steps p.tables e below (T.setTop (mkF m pc' L' S')) t → Steps p.tables e below (T.setTop (mkF m pc L S)) t) : Wl Z a0 own p l e R s m args below meth c code mx B EL h0 n0 ws sf h cells slots pc' L' (S') := by
  obtain ⟨a, b, v, k0, T, locs, X, x1, x2, N, eT, k⟩ := G
  exact ⟨a, b, v, k0, T, locs, X, x1, x2, N, eT, fun t q => k t (st T X.here a.1 a.2.1 t q)⟩
theorem Wl.nameI {x : Int32} (G : Wl Z a0 own p l e R s m args below meth c code mx B EL h0 n0 ws sf h cells slots pc L (.int x :: S)) : ∃ v, v = x ∧ Wl Z a0 own p l e R s m args below meth c code mx B EL h0 n0 ws sf h cells slots pc L (.int v :: S) := ⟨x, rfl, G⟩
theorem Wl.nameJ {x : Int64} (G : Wl Z a0 own p l e R s m args below meth c code mx B EL h0 n0 ws sf h cells slots pc L (.long x :: S)) : ∃ v, v = x ∧ Wl Z a0 own p l e R s m args below meth c code mx B EL h0 n0 ws sf h cells slots pc L (.long v :: S) := ⟨x, rfl, G⟩
theorem Wl.top {x y : Value} (G : Wl Z a0 own p l e R s m args below meth c code mx B EL h0 n0 ws sf h cells slots pc L (x :: S)) (q : x = y) : Wl Z a0 own p l e R s m args below meth c code mx B EL h0 n0 ws sf h cells slots pc L (y :: S) := q ▸ G
theorem Wl.cast {L' : Array Slot} {S' : List Value} (G : Wl Z a0 own p l e R s m args below meth c code mx B EL h0 n0 ws sf h cells slots pc L S) (q : L = L') (r : S = S') : Wl Z a0 own p l e R s m args below meth c code mx B EL h0 n0 ws sf h cells slots pc L' (S') := q ▸ r ▸ G
theorem Wl.more (G : Wl Z a0 own p l e R s m args below meth c code mx B EL h0 n0 ws sf h cells slots pc L S) {k n : Nat} (h1 : cells ≤ k) (h2 : slots ≤ n) : Wl Z a0 own p l e R s m args below meth c code mx B EL h0 n0 ws sf h k n pc L S := by
  obtain ⟨a, b, v, k0, T, locs, X, r⟩ := G
  exact ⟨a, b, v, k0, T, locs, X.more h1 h2, r⟩
theorem Wl.less {sf' : List Addr} (G : Wl Z a0 own p l e R s m args below meth c code mx B EL h0 n0 ws sf h cells slots pc L S) (q : ∀ x ∈ sf', x ∈ sf) : Wl Z a0 own p l e R s m args below meth c code mx B EL h0 n0 ws sf' h cells slots pc L S := by
  obtain ⟨a, b, v, k0, T, locs, X, x1, x2, r⟩ := G
  exact ⟨a, b, v, k0, T, locs, X, x1, ⟨x2.1, fun x y => x2.2 x (q x y)⟩, r⟩
theorem Wl.aload {k : Nat} {v : Value} (G : Wl Z a0 own p l e R s m args below meth c code mx B EL h0 n0 ws sf h cells slots pc L S) (pc' : Nat) (hd : decode code pc = .ok (.aload k, 2)) (hl : L[k]? = some (.val v)) (hv : v.isRef = true) (hp : pc + 2 = pc') : Wl Z a0 own p l e R s m args below meth c code mx B EL h0 n0 ws sf h cells slots pc' L (v :: S) :=
  G.plain fun T H hx hy t k => XS.aload (g := mkF m pc L (S)) H hx rfl (by rw [hy]; exact hd) hl hv (by subst hp; exact k)
theorem Wl.aloadN {k : Fin 4} {v : Value} (G : Wl Z a0 own p l e R s m args below meth c code mx B EL h0 n0 ws sf h cells slots pc L S) (pc' : Nat) (hd : decode code pc = .ok (.aload_n k, 1)) (hl : L[k.val]? = some (.val v)) (hv : v.isRef = true) (hp : pc + 1 = pc') : Wl Z a0 own p l e R s m args below meth c code mx B EL h0 n0 ws sf h cells slots pc' L (v :: S) :=
  G.plain fun T H hx hy t k => XS.aloadN (g := mkF m pc L (S)) H hx rfl (by rw [hy]; exact hd) hl hv (by subst hp; exact k)
theorem Wl.iload {k : Nat} {v : Int32} (G : Wl Z a0 own p l e R s m args below meth c code mx B EL h0 n0 ws sf h cells slots pc L S) (pc' : Nat) (hd : decode code pc = .ok (.iload k, 2)) (hl : L[k]? = some (.val (.int v))) (hp : pc + 2 = pc') : Wl Z a0 own p l e R s m args below meth c code mx B EL h0 n0 ws sf h cells slots pc' L (.int v :: S) :=
  G.plain fun T H hx hy t k => XS.iload (g := mkF m pc L (S)) H hx rfl (by rw [hy]; exact hd) hl (by subst hp; exact k)
theorem Wl.iloadN {k : Fin 4} {v : Int32} (G : Wl Z a0 own p l e R s m args below meth c code mx B EL h0 n0 ws sf h cells slots pc L S) (pc' : Nat) (hd : decode code pc = .ok (.iload_n k, 1)) (hl : L[k.val]? = some (.val (.int v))) (hp : pc + 1 = pc') : Wl Z a0 own p l e R s m args below meth c code mx B EL h0 n0 ws sf h cells slots pc' L (.int v :: S) :=
  G.plain fun T H hx hy t k => XS.iloadN (g := mkF m pc L (S)) H hx rfl (by rw [hy]; exact hd) hl (by subst hp; exact k)
theorem Wl.lload {k : Nat} {v : Int64} (G : Wl Z a0 own p l e R s m args below meth c code mx B EL h0 n0 ws sf h cells slots pc L S) (pc' : Nat) (hd : decode code pc = .ok (.lload k, 2)) (hl : L[k]? = some (.val (.long v))) (hp : pc + 2 = pc') : Wl Z a0 own p l e R s m args below meth c code mx B EL h0 n0 ws sf h cells slots pc' L (.long v :: S) :=
  G.plain fun T H hx hy t k => XT.lload (g := mkF m pc L (S)) H hx rfl (by rw [hy]; exact hd) hl (by subst hp; exact k)
theorem Wl.lloadN {k : Fin 4} {v : Int64} (G : Wl Z a0 own p l e R s m args below meth c code mx B EL h0 n0 ws sf h cells slots pc L S) (pc' : Nat) (hd : decode code pc = .ok (.lload_n k, 1)) (hl : L[k.val]? = some (.val (.long v))) (hp : pc + 1 = pc') : Wl Z a0 own p l e R s m args below meth c code mx B EL h0 n0 ws sf h cells slots pc' L (.long v :: S) :=
  G.plain fun T H hx hy t k => XT.lloadN (g := mkF m pc L (S)) H hx rfl (by rw [hy]; exact hd) hl (by subst hp; exact k)
theorem Wl.dload {k : Nat} {v : UInt64} (G : Wl Z a0 own p l e R s m args below meth c code mx B EL h0 n0 ws sf h cells slots pc L S) (pc' : Nat) (hd : decode code pc = .ok (.dload k, 2)) (hl : L[k]? = some (.val (.double v))) (hp : pc + 2 = pc') : Wl Z a0 own p l e R s m args below meth c code mx B EL h0 n0 ws sf h cells slots pc' L (.double v :: S) :=
  G.plain fun T H hx hy t k => XS.dload (g := mkF m pc L (S)) H hx rfl (by rw [hy]; exact hd) hl (by subst hp; exact k)
theorem Wl.dloadN {k : Fin 4} {v : UInt64} (G : Wl Z a0 own p l e R s m args below meth c code mx B EL h0 n0 ws sf h cells slots pc L S) (pc' : Nat) (hd : decode code pc = .ok (.dload_n k, 1)) (hl : L[k.val]? = some (.val (.double v))) (hp : pc + 1 = pc') : Wl Z a0 own p l e R s m args below meth c code mx B EL h0 n0 ws sf h cells slots pc' L (.double v :: S) :=
  G.plain fun T H hx hy t k => XS.dloadN (g := mkF m pc L (S)) H hx rfl (by rw [hy]; exact hd) hl (by subst hp; exact k)
theorem Wl.istore {k : Nat} {x : Int32} (G : Wl Z a0 own p l e R s m args below meth c code mx B EL h0 n0 ws sf h cells slots pc L (.int x :: S)) (pc' : Nat) (L' : Array Slot) (hd : decode code pc = .ok (.istore k, 2)) (hl : storeLocals L k (.int x) = some L') (hp : pc + 2 = pc') : Wl Z a0 own p l e R s m args below meth c code mx B EL h0 n0 ws sf h cells slots pc' L' S :=
  G.plain fun T H hx hy t k => XS.istore (g := mkF m pc L (.int x :: S)) H hx rfl (by rw [hy]; exact hd) rfl hl (by subst hp; exact k)
theorem Wl.istoreN {k : Fin 4} {x : Int32} (G : Wl Z a0 own p l e R s m args below meth c code mx B EL h0 n0 ws sf h cells slots pc L (.int x :: S)) (pc' : Nat) (L' : Array Slot) (hd : decode code pc = .ok (.istore_n k, 1)) (hl : storeLocals L k.val (.int x) = some L') (hp : pc + 1 = pc') : Wl Z a0 own p l e R s m args below meth c code mx B EL h0 n0 ws sf h cells slots pc' L' S :=
  G.plain fun T H hx hy t k => XS.istoreN (g := mkF m pc L (.int x :: S)) H hx rfl (by rw [hy]; exact hd) rfl hl (by subst hp; exact k)
theorem Wl.lstore {k : Nat} {x : Int64} (G : Wl Z a0 own p l e R s m args below meth c code mx B EL h0 n0 ws sf h cells slots pc L (.long x :: S)) (pc' : Nat) (L' : Array Slot) (hd : decode code pc = .ok (.lstore k, 2)) (hl : storeLocals L k (.long x) = some L') (hp : pc + 2 = pc') : Wl Z a0 own p l e R s m args below meth c code mx B EL h0 n0 ws sf h cells slots pc' L' S :=
  G.plain fun T H hx hy t k => XT.lstore (g := mkF m pc L (.long x :: S)) H hx rfl (by rw [hy]; exact hd) rfl hl (by subst hp; exact k)
theorem Wl.lstoreN {k : Fin 4} {x : Int64} (G : Wl Z a0 own p l e R s m args below meth c code mx B EL h0 n0 ws sf h cells slots pc L (.long x :: S)) (pc' : Nat) (L' : Array Slot) (hd : decode code pc = .ok (.lstore_n k, 1)) (hl : storeLocals L k.val (.long x) = some L') (hp : pc + 1 = pc') : Wl Z a0 own p l e R s m args below meth c code mx B EL h0 n0 ws sf h cells slots pc' L' S :=
  G.plain fun T H hx hy t k => XT.lstoreN (g := mkF m pc L (.long x :: S)) H hx rfl (by rw [hy]; exact hd) rfl hl (by subst hp; exact k)
theorem Wl.dstore {k : Nat} {x : UInt64} (G : Wl Z a0 own p l e R s m args below meth c code mx B EL h0 n0 ws sf h cells slots pc L (.double x :: S)) (pc' : Nat) (L' : Array Slot) (hd : decode code pc = .ok (.dstore k, 2)) (hl : storeLocals L k (.double x) = some L') (hp : pc + 2 = pc') : Wl Z a0 own p l e R s m args below meth c code mx B EL h0 n0 ws sf h cells slots pc' L' S :=
  G.plain fun T H hx hy t k => XS.dstore (g := mkF m pc L (.double x :: S)) H hx rfl (by rw [hy]; exact hd) rfl hl (by subst hp; exact k)
theorem Wl.dstoreN {k : Fin 4} {x : UInt64} (G : Wl Z a0 own p l e R s m args below meth c code mx B EL h0 n0 ws sf h cells slots pc L (.double x :: S)) (pc' : Nat) (L' : Array Slot) (hd : decode code pc = .ok (.dstore_n k, 1)) (hl : storeLocals L k.val (.double x) = some L') (hp : pc + 1 = pc') : Wl Z a0 own p l e R s m args below meth c code mx B EL h0 n0 ws sf h cells slots pc' L' S :=
  G.plain fun T H hx hy t k => XS.dstoreN (g := mkF m pc L (.double x :: S)) H hx rfl (by rw [hy]; exact hd) rfl hl (by subst hp; exact k)
theorem Wl.astore {k : Nat} {x : Value} (G : Wl Z a0 own p l e R s m args below meth c code mx B EL h0 n0 ws sf h cells slots pc L (x :: S)) (pc' : Nat) (L' : Array Slot) (hd : decode code pc = .ok (.astore k, 2)) (hv : x.isRef = true) (hl : storeLocals L k x = some L') (hp : pc + 2 = pc') : Wl Z a0 own p l e R s m args below meth c code mx B EL h0 n0 ws sf h cells slots pc' L' S :=
  G.plain fun T H hx hy t k => XS.astore (g := mkF m pc L (x :: S)) H hx rfl (by rw [hy]; exact hd) rfl hv hl (by subst hp; exact k)
theorem Wl.astoreN {k : Fin 4} {x : Value} (G : Wl Z a0 own p l e R s m args below meth c code mx B EL h0 n0 ws sf h cells slots pc L (x :: S)) (pc' : Nat) (L' : Array Slot) (hd : decode code pc = .ok (.astore_n k, 1)) (hv : x.isRef = true) (hl : storeLocals L k.val x = some L') (hp : pc + 1 = pc') : Wl Z a0 own p l e R s m args below meth c code mx B EL h0 n0 ws sf h cells slots pc' L' S :=
  G.plain fun T H hx hy t k => XS.astoreN (g := mkF m pc L (x :: S)) H hx rfl (by rw [hy]; exact hd) rfl hv hl (by subst hp; exact k)
theorem Wl.iinc {k : Nat} {cst : Int} {x : Int32} (G : Wl Z a0 own p l e R s m args below meth c code mx B EL h0 n0 ws sf h cells slots pc L S) (pc' : Nat) (L' : Array Slot) (hd : decode code pc = .ok (.iinc k cst, 3)) (hl : L[k]? = some (.val (.int x))) (hl' : storeLocals L k (.int (x + Int32.ofInt cst)) = some L') (hp : pc + 3 = pc') : Wl Z a0 own p l e R s m args below meth c code mx B EL h0 n0 ws sf h cells slots pc' L' S :=
  G.plain fun T H hx hy t k => XS.iinc (g := mkF m pc L (S)) H hx rfl (by rw [hy]; exact hd) hl hl' (by subst hp; exact k)
theorem Wl.iincV {k : Nat} {cst : Int} {x : Int32} (G : Wl Z a0 own p l e R s m args below meth c code mx B EL h0 n0 ws sf h cells slots pc L S) (pc' : Nat) (L' : Array Slot) (y : Int32) (hd : decode code pc = .ok (.iinc k cst, 3)) (hl : L[k]? = some (.val (.int x))) (hv : x + Int32.ofInt cst = y) (hl' : storeLocals L k (.int y) = some L') (hp : pc + 3 = pc') : Wl Z a0 own p l e R s m args below meth c code mx B EL h0 n0 ws sf h cells slots pc' L' S :=
  G.plain fun T H hx hy t k => XS.iinc (g := mkF m pc L (S)) H hx rfl (by rw [hy]; exact hd) hl (by rw [hv]; exact hl') (by subst hp; exact k)
theorem Wl.iconst {i : Int} (G : Wl Z a0 own p l e R s m args below meth c code mx B EL h0 n0 ws sf h cells slots pc L S) (pc' : Nat) (v : Int32) (hd : decode code pc = .ok (.iconst i, 1)) (hv : Int32.ofInt i = v) (hp : pc + 1 = pc') : Wl Z a0 own p l e R s m args below meth c code mx B EL h0 n0 ws sf h cells slots pc' L (.int v :: S) :=
  G.plain fun T H hx hy t k => XS.iconst (g := mkF m pc L (S)) H hx rfl (by rw [hy]; exact hd) (by subst hv hp; exact k)
theorem Wl.bipush {i : Int} (G : Wl Z a0 own p l e R s m args below meth c code mx B EL h0 n0 ws sf h cells slots pc L S) (pc' : Nat) (v : Int32) (hd : decode code pc = .ok (.bipush i, 2)) (hv : (Int8.ofInt i).toInt32 = v) (hp : pc + 2 = pc') : Wl Z a0 own p l e R s m args below meth c code mx B EL h0 n0 ws sf h cells slots pc' L (.int v :: S) :=
  G.plain fun T H hx hy t k => XS.bipush (g := mkF m pc L (S)) H hx rfl (by rw [hy]; exact hd) (by subst hv hp; exact k)
theorem Wl.sipush {i : Int} (G : Wl Z a0 own p l e R s m args below meth c code mx B EL h0 n0 ws sf h cells slots pc L S) (pc' : Nat) (v : Int32) (hd : decode code pc = .ok (.sipush i, 3)) (hv : (Int16.ofInt i).toInt32 = v) (hp : pc + 3 = pc') : Wl Z a0 own p l e R s m args below meth c code mx B EL h0 n0 ws sf h cells slots pc' L (.int v :: S) :=
  G.plain fun T H hx hy t k => XS.sipush (g := mkF m pc L (S)) H hx rfl (by rw [hy]; exact hd) (by subst hv hp; exact k)
theorem Wl.lconst0  (G : Wl Z a0 own p l e R s m args below meth c code mx B EL h0 n0 ws sf h cells slots pc L S) (pc' : Nat) (hd : decode code pc = .ok (.lconst 0, 1)) (hp : pc + 1 = pc') : Wl Z a0 own p l e R s m args below meth c code mx B EL h0 n0 ws sf h cells slots pc' L (.long 0 :: S) :=
  G.plain fun T H hx hy t k => XT.lconst (g := mkF m pc L (S)) H hx rfl (by rw [hy]; exact hd) (by subst hp; exact k)
theorem Wl.lconst1  (G : Wl Z a0 own p l e R s m args below meth c code mx B EL h0 n0 ws sf h cells slots pc L S) (pc' : Nat) (hd : decode code pc = .ok (.lconst 1, 1)) (hp : pc + 1 = pc') : Wl Z a0 own p l e R s m args below meth c code mx B EL h0 n0 ws sf h cells slots pc' L (.long 1 :: S) :=
  G.plain fun T H hx hy t k => XT.lconst (g := mkF m pc L (S)) H hx rfl (by rw [hy]; exact hd) (by subst hp; exact k)
theorem Wl.aconstNull  (G : Wl Z a0 own p l e R s m args below meth c code mx B EL h0 n0 ws sf h cells slots pc L S) (pc' : Nat) (hd : decode code pc = .ok (.aconst_null, 1)) (hp : pc + 1 = pc') : Wl Z a0 own p l e R s m args below meth c code mx B EL h0 n0 ws sf h cells slots pc' L (.null :: S) :=
  G.plain fun T H hx hy t k => XS.aconstNull (g := mkF m pc L (S)) H hx rfl (by rw [hy]; exact hd) (by subst hp; exact k)
theorem Wl.iadd {x y : Int32} (G : Wl Z a0 own p l e R s m args below meth c code mx B EL h0 n0 ws sf h cells slots pc L (.int y :: .int x :: S)) (pc' : Nat) (hd : decode code pc = .ok (.iadd, 1)) (hp : pc + 1 = pc') : Wl Z a0 own p l e R s m args below meth c code mx B EL h0 n0 ws sf h cells slots pc' L (.int (x + y) :: S) :=
  G.plain fun T H hx hy t k => XS.iadd (g := mkF m pc L (.int y :: .int x :: S)) H hx rfl (by rw [hy]; exact hd) rfl (by subst hp; exact k)
theorem Wl.isub {x y : Int32} (G : Wl Z a0 own p l e R s m args below meth c code mx B EL h0 n0 ws sf h cells slots pc L (.int y :: .int x :: S)) (pc' : Nat) (hd : decode code pc = .ok (.isub, 1)) (hp : pc + 1 = pc') : Wl Z a0 own p l e R s m args below meth c code mx B EL h0 n0 ws sf h cells slots pc' L (.int (x - y) :: S) :=
  G.plain fun T H hx hy t k => XS.isub (g := mkF m pc L (.int y :: .int x :: S)) H hx rfl (by rw [hy]; exact hd) rfl (by subst hp; exact k)
theorem Wl.imul {x y : Int32} (G : Wl Z a0 own p l e R s m args below meth c code mx B EL h0 n0 ws sf h cells slots pc L (.int y :: .int x :: S)) (pc' : Nat) (hd : decode code pc = .ok (.imul, 1)) (hp : pc + 1 = pc') : Wl Z a0 own p l e R s m args below meth c code mx B EL h0 n0 ws sf h cells slots pc' L (.int (x * y) :: S) :=
  G.plain fun T H hx hy t k => XS.imul (g := mkF m pc L (.int y :: .int x :: S)) H hx rfl (by rw [hy]; exact hd) rfl (by subst hp; exact k)
theorem Wl.iand {x y : Int32} (G : Wl Z a0 own p l e R s m args below meth c code mx B EL h0 n0 ws sf h cells slots pc L (.int y :: .int x :: S)) (pc' : Nat) (hd : decode code pc = .ok (.iand, 1)) (hp : pc + 1 = pc') : Wl Z a0 own p l e R s m args below meth c code mx B EL h0 n0 ws sf h cells slots pc' L (.int (x &&& y) :: S) :=
  G.plain fun T H hx hy t k => XS.iand (g := mkF m pc L (.int y :: .int x :: S)) H hx rfl (by rw [hy]; exact hd) rfl (by subst hp; exact k)
theorem Wl.ior {x y : Int32} (G : Wl Z a0 own p l e R s m args below meth c code mx B EL h0 n0 ws sf h cells slots pc L (.int y :: .int x :: S)) (pc' : Nat) (hd : decode code pc = .ok (.ior, 1)) (hp : pc + 1 = pc') : Wl Z a0 own p l e R s m args below meth c code mx B EL h0 n0 ws sf h cells slots pc' L (.int (x ||| y) :: S) :=
  G.plain fun T H hx hy t k => XT.ior (g := mkF m pc L (.int y :: .int x :: S)) H hx rfl (by rw [hy]; exact hd) rfl (by subst hp; exact k)
theorem Wl.ixor {x y : Int32} (G : Wl Z a0 own p l e R s m args below meth c code mx B EL h0 n0 ws sf h cells slots pc L (.int y :: .int x :: S)) (pc' : Nat) (hd : decode code pc = .ok (.ixor, 1)) (hp : pc + 1 = pc') : Wl Z a0 own p l e R s m args below meth c code mx B EL h0 n0 ws sf h cells slots pc' L (.int (x ^^^ y) :: S) :=
  G.plain fun T H hx hy t k => XT.ixor (g := mkF m pc L (.int y :: .int x :: S)) H hx rfl (by rw [hy]; exact hd) rfl (by subst hp; exact k)
theorem Wl.ishl {x y : Int32} (G : Wl Z a0 own p l e R s m args below meth c code mx B EL h0 n0 ws sf h cells slots pc L (.int y :: .int x :: S)) (pc' : Nat) (hd : decode code pc = .ok (.ishl, 1)) (hp : pc + 1 = pc') : Wl Z a0 own p l e R s m args below meth c code mx B EL h0 n0 ws sf h cells slots pc' L (.int (x <<< (y &&& 31)) :: S) :=
  G.plain fun T H hx hy t k => XT.ishl (g := mkF m pc L (.int y :: .int x :: S)) H hx rfl (by rw [hy]; exact hd) rfl (by subst hp; exact k)
theorem Wl.ishr {x y : Int32} (G : Wl Z a0 own p l e R s m args below meth c code mx B EL h0 n0 ws sf h cells slots pc L (.int y :: .int x :: S)) (pc' : Nat) (hd : decode code pc = .ok (.ishr, 1)) (hp : pc + 1 = pc') : Wl Z a0 own p l e R s m args below meth c code mx B EL h0 n0 ws sf h cells slots pc' L (.int (x >>> (y &&& 31)) :: S) :=
  G.plain fun T H hx hy t k => XT.ishr (g := mkF m pc L (.int y :: .int x :: S)) H hx rfl (by rw [hy]; exact hd) rfl (by subst hp; exact k)
theorem Wl.iushr {x y : Int32} (G : Wl Z a0 own p l e R s m args below meth c code mx B EL h0 n0 ws sf h cells slots pc L (.int y :: .int x :: S)) (pc' : Nat) (hd : decode code pc = .ok (.iushr, 1)) (hp : pc + 1 = pc') : Wl Z a0 own p l e R s m args below meth c code mx B EL h0 n0 ws sf h cells slots pc' L (.int (XT.ushr x y) :: S) :=
  G.plain fun T H hx hy t k => XT.iushr (g := mkF m pc L (.int y :: .int x :: S)) H hx rfl (by rw [hy]; exact hd) rfl (by subst hp; exact k)
theorem Wl.idiv {x y : Int32} (G : Wl Z a0 own p l e R s m args below meth c code mx B EL h0 n0 ws sf h cells slots pc L (.int y :: .int x :: S)) (pc' : Nat) (hd : decode code pc = .ok (.idiv, 1)) (hy0 : y ≠ 0) (hp : pc + 1 = pc') : Wl Z a0 own p l e R s m args below meth c code mx B EL h0 n0 ws sf h cells slots pc' L (.int (x / y) :: S) :=
  G.plain fun T H hx hy t k => XS.idiv (g := mkF m pc L (.int y :: .int x :: S)) H hx rfl (by rw [hy]; exact hd) rfl hy0 (by subst hp; exact k)
theorem Wl.irem {x y : Int32} (G : Wl Z a0 own p l e R s m args below meth c code mx B EL h0 n0 ws sf h cells slots pc L (.int y :: .int x :: S)) (pc' : Nat) (hd : decode code pc = .ok (.irem, 1)) (hy0 : y ≠ 0) (hp : pc + 1 = pc') : Wl Z a0 own p l e R s m args below meth c code mx B EL h0 n0 ws sf h cells slots pc' L (.int (x - (x / y) * y) :: S) :=
  G.plain fun T H hx hy t k => XS.irem (g := mkF m pc L (.int y :: .int x :: S)) H hx rfl (by rw [hy]; exact hd) rfl hy0 (by subst hp; exact k)
theorem Wl.ineg {x : Int32} (G : Wl Z a0 own p l e R s m args below meth c code mx B EL h0 n0 ws sf h cells slots pc L (.int x :: S)) (pc' : Nat) (hd : decode code pc = .ok (.ineg, 1)) (hp : pc + 1 = pc') : Wl Z a0 own p l e R s m args below meth c code mx B EL h0 n0 ws sf h cells slots pc' L (.int (-x) :: S) :=
  G.plain fun T H hx hy t k => XS.ineg (g := mkF m pc L (.int x :: S)) H hx rfl (by rw [hy]; exact hd) rfl (by subst hp; exact k)
theorem Wl.ladd {x y : Int64} (G : Wl Z a0 own p l e R s m args below meth c code mx B EL h0 n0 ws sf h cells slots pc L (.long y :: .long x :: S)) (pc' : Nat) (hd : decode code pc = .ok (.ladd, 1)) (hp : pc + 1 = pc') : Wl Z a0 own p l e R s m args below meth c code mx B EL h0 n0 ws sf h cells slots pc' L (.long (x + y) :: S) :=
  G.plain fun T H hx hy t k => XT.ladd (g := mkF m pc L (.long y :: .long x :: S)) H hx rfl (by rw [hy]; exact hd) rfl (by subst hp; exact k)
theorem Wl.lsub {x y : Int64} (G : Wl Z a0 own p l e R s m args below meth c code mx B EL h0 n0 ws sf h cells slots pc L (.long y :: .long x :: S)) (pc' : Nat) (hd : decode code pc = .ok (.lsub, 1)) (hp : pc + 1 = pc') : Wl Z a0 own p l e R s m args below meth c code mx B EL h0 n0 ws sf h cells slots pc' L (.long (x - y) :: S) :=
  G.plain fun T H hx hy t k => XT.lsub (g := mkF m pc L (.long y :: .long x :: S)) H hx rfl (by rw [hy]; exact hd) rfl (by subst hp; exact k)
theorem Wl.lmul {x y : Int64} (G : Wl Z a0 own p l e R s m args below meth c code mx B EL h0 n0 ws sf h cells slots pc L (.long y :: .long x :: S)) (pc' : Nat) (hd : decode code pc = .ok (.lmul, 1)) (hp : pc + 1 = pc') : Wl Z a0 own p l e R s m args below meth c code mx B EL h0 n0 ws sf h cells slots pc' L (.long (x * y) :: S) :=
  G.plain fun T H hx hy t k => XT.lmul (g := mkF m pc L (.long y :: .long x :: S)) H hx rfl (by rw [hy]; exact hd) rfl (by subst hp; exact k)
theorem Wl.land {x y : Int64} (G : Wl Z a0 own p l e R s m args below meth c code mx B EL h0 n0 ws sf h cells slots pc L (.long y :: .long x :: S)) (pc' : Nat) (hd : decode code pc = .ok (.land, 1)) (hp : pc + 1 = pc') : Wl Z a0 own p l e R s m args below meth c code mx B EL h0 n0 ws sf h cells slots pc' L (.long (x &&& y) :: S) :=
  G.plain fun T H hx hy t k => XT.land (g := mkF m pc L (.long y :: .long x :: S)) H hx rfl (by rw [hy]; exact hd) rfl (by subst hp; exact k)
theorem Wl.lor {x y : Int64} (G : Wl Z a0 own p l e R s m args below meth c code mx B EL h0 n0 ws sf h cells slots pc L (.long y :: .long x :: S)) (pc' : Nat) (hd : decode code pc = .ok (.lor, 1)) (hp : pc + 1 = pc') : Wl Z a0 own p l e R s m args below meth c code mx B EL h0 n0 ws sf h cells slots pc' L (.long (x ||| y) :: S) :=
  G.plain fun T H hx hy t k => XT.lor (g := mkF m pc L (.long y :: .long x :: S)) H hx rfl (by rw [hy]; exact hd) rfl (by subst hp; exact k)
theorem Wl.lxor {x y : Int64} (G : Wl Z a0 own p l e R s m args below meth c code mx B EL h0 n0 ws sf h cells slots pc L (.long y :: .long x :: S)) (pc' : Nat) (hd : decode code pc = .ok (.lxor, 1)) (hp : pc + 1 = pc') : Wl Z a0 own p l e R s m args below meth c code mx B EL h0 n0 ws sf h cells slots pc' L (.long (x ^^^ y) :: S) :=
  G.plain fun T H hx hy t k => XT.lxor (g := mkF m pc L (.long y :: .long x :: S)) H hx rfl (by rw [hy]; exact hd) rfl (by subst hp; exact k)
theorem Wl.ldiv {x y : Int64} (G : Wl Z a0 own p l e R s m args below meth c code mx B EL h0 n0 ws sf h cells slots pc L (.long y :: .long x :: S)) (pc' : Nat) (hd : decode code pc = .ok (.ldiv, 1)) (hy0 : y ≠ 0) (hp : pc + 1 = pc') : Wl Z a0 own p l e R s m args below meth c code mx B EL h0 n0 ws sf h cells slots pc' L (.long (x / y) :: S) :=
  G.plain fun T H hx hy t k => XT.ldiv (g := mkF m pc L (.long y :: .long x :: S)) H hx rfl (by rw [hy]; exact hd) rfl hy0 (by subst hp; exact k)
theorem Wl.lrem {x y : Int64} (G : Wl Z a0 own p l e R s m args below meth c code mx B EL h0 n0 ws sf h cells slots pc L (.long y :: .long x :: S)) (pc' : Nat) (hd : decode code pc = .ok (.lrem, 1)) (hy0 : y ≠ 0) (hp : pc + 1 = pc') : Wl Z a0 own p l e R s m args below meth c code mx B EL h0 n0 ws sf h cells slots pc' L (.long (x - (x / y) * y) :: S) :=
  G.plain fun T H hx hy t k => XT.lrem (g := mkF m pc L (.long y :: .long x :: S)) H hx rfl (by rw [hy]; exact hd) rfl hy0 (by subst hp; exact k)
theorem Wl.lneg {x : Int64} (G : Wl Z a0 own p l e R s m args below meth c code mx B EL h0 n0 ws sf h cells slots pc L (.long x :: S)) (pc' : Nat) (hd : decode code pc = .ok (.lneg, 1)) (hp : pc + 1 = pc') : Wl Z a0 own p l e R s m args below meth c code mx B EL h0 n0 ws sf h cells slots pc' L (.long (-x) :: S) :=
  G.plain fun T H hx hy t k => XT.lneg (g := mkF m pc L (.long x :: S)) H hx rfl (by rw [hy]; exact hd) rfl (by subst hp; exact k)
theorem Wl.lushr {x : Int64} {y : Int32} (G : Wl Z a0 own p l e R s m args below meth c code mx B EL h0 n0 ws sf h cells slots pc L (.int y :: .long x :: S)) (pc' : Nat) (hd : decode code pc = .ok (.lushr, 1)) (hp : pc + 1 = pc') : Wl Z a0 own p l e R s m args below meth c code mx B EL h0 n0 ws sf h cells slots pc' L (.long (XT.ushrL x y) :: S) :=
  G.plain fun T H hx hy t k => XT.lushr (g := mkF m pc L (.int y :: .long x :: S)) H hx rfl (by rw [hy]; exact hd) rfl (by subst hp; exact k)
theorem Wl.lcmp {x y : Int64} (G : Wl Z a0 own p l e R s m args below meth c code mx B EL h0 n0 ws sf h cells slots pc L (.long y :: .long x :: S)) (pc' : Nat) (hd : decode code pc = .ok (.lcmp, 1)) (hp : pc + 1 = pc') : Wl Z a0 own p l e R s m args below meth c code mx B EL h0 n0 ws sf h cells slots pc' L (.int (XT.cmpL x y) :: S) :=
  G.plain fun T H hx hy t k => XT.lcmp (g := mkF m pc L (.long y :: .long x :: S)) H hx rfl (by rw [hy]; exact hd) rfl (by subst hp; exact k)
theorem Wl.i2l {x : Int32} (G : Wl Z a0 own p l e R s m args below meth c code mx B EL h0 n0 ws sf h cells slots pc L (.int x :: S)) (pc' : Nat) (hd : decode code pc = .ok (.i2l, 1)) (hp : pc + 1 = pc') : Wl Z a0 own p l e R s m args below meth c code mx B EL h0 n0 ws sf h cells slots pc' L (.long x.toInt64 :: S) :=
  G.plain fun T H hx hy t k => XT.i2l (g := mkF m pc L (.int x :: S)) H hx rfl (by rw [hy]; exact hd) rfl (by subst hp; exact k)
theorem Wl.l2i {x : Int64} (G : Wl Z a0 own p l e R s m args below meth c code mx B EL h0 n0 ws sf h cells slots pc L (.long x :: S)) (pc' : Nat) (hd : decode code pc = .ok (.l2i, 1)) (hp : pc + 1 = pc') : Wl Z a0 own p l e R s m args below meth c code mx B EL h0 n0 ws sf h cells slots pc' L (.int x.toInt32 :: S) :=
  G.plain fun T H hx hy t k => XT.l2i (g := mkF m pc L (.long x :: S)) H hx rfl (by rw [hy]; exact hd) rfl (by subst hp; exact k)
theorem Wl.i2b {x : Int32} (G : Wl Z a0 own p l e R s m args below meth c code mx B EL h0 n0 ws sf h cells slots pc L (.int x :: S)) (pc' : Nat) (hd : decode code pc = .ok (.i2b, 1)) (hp : pc + 1 = pc') : Wl Z a0 own p l e R s m args below meth c code mx B EL h0 n0 ws sf h cells slots pc' L (.int x.toInt8.toInt32 :: S) :=
  G.plain fun T H hx hy t k => XT.i2b (g := mkF m pc L (.int x :: S)) H hx rfl (by rw [hy]; exact hd) rfl (by subst hp; exact k)
theorem Wl.i2c {x : Int32} (G : Wl Z a0 own p l e R s m args below meth c code mx B EL h0 n0 ws sf h cells slots pc L (.int x :: S)) (pc' : Nat) (hd : decode code pc = .ok (.i2c, 1)) (hp : pc + 1 = pc') : Wl Z a0 own p l e R s m args below meth c code mx B EL h0 n0 ws sf h cells slots pc' L (.int x.toUInt32.toUInt16.toUInt32.toInt32 :: S) :=
  G.plain fun T H hx hy t k => XT.i2c (g := mkF m pc L (.int x :: S)) H hx rfl (by rw [hy]; exact hd) rfl (by subst hp; exact k)
theorem Wl.dup {x : Value} (G : Wl Z a0 own p l e R s m args below meth c code mx B EL h0 n0 ws sf h cells slots pc L (x :: S)) (pc' : Nat) (hd : decode code pc = .ok (.dup, 1)) (hc : x.category = 1) (hp : pc + 1 = pc') : Wl Z a0 own p l e R s m args below meth c code mx B EL h0 n0 ws sf h cells slots pc' L (x :: x :: S) :=
  G.plain fun T H hx hy t k => XS.dup (g := mkF m pc L (x :: S)) H hx rfl (by rw [hy]; exact hd) rfl hc (by subst hp; exact k)
theorem Wl.pop {x : Value} (G : Wl Z a0 own p l e R s m args below meth c code mx B EL h0 n0 ws sf h cells slots pc L (x :: S)) (pc' : Nat) (hd : decode code pc = .ok (.pop, 1)) (hc : x.category = 1) (hp : pc + 1 = pc') : Wl Z a0 own p l e R s m args below meth c code mx B EL h0 n0 ws sf h cells slots pc' L S :=
  G.plain fun T H hx hy t k => XT.pop (g := mkF m pc L (x :: S)) H hx rfl (by rw [hy]; exact hd) rfl hc (by subst hp; exact k)
theorem Wl.dupX1 {x y : Value} (G : Wl Z a0 own p l e R s m args below meth c code mx B EL h0 n0 ws sf h cells slots pc L (y :: x :: S)) (pc' : Nat) (hd : decode code pc = .ok (.dup_x1, 1)) (hc : y.category = 1) (hc' : x.category = 1) (hp : pc + 1 = pc') : Wl Z a0 own p l e R s m args below meth c code mx B EL h0 n0 ws sf h cells slots pc' L (y :: x :: y :: S) :=
  G.plain fun T H hx hy t k => XT.dupX1 (g := mkF m pc L (y :: x :: S)) H hx rfl (by rw [hy]; exact hd) rfl hc hc' (by subst hp; exact k)
theorem Wl.i2dS {x : Int32} {v : UInt64} (G : Wl Z a0 own p l e R s m args below meth c code mx B EL h0 n0 ws sf h cells slots pc L (.int x :: S)) (pc' : Nat) (hd : decode code pc = .ok (.i2d, 1)) (hv : FP.i2d x = v) (hp : pc + 1 = pc') : Wl Z a0 own p l e R s m args below meth c code mx B EL h0 n0 ws sf h cells slots pc' L (.double v :: S) :=
  G.plain fun T H hx hy t k => XS.i2dS (g := mkF m pc L (.int x :: S)) H hx rfl (by rw [hy]; exact hd) rfl hv (by subst hp; exact k)
theorem Wl.l2dS {x : Int64} {v : UInt64} (G : Wl Z a0 own p l e R s m args below meth c code mx B EL h0 n0 ws sf h cells slots pc L (.long x :: S)) (pc' : Nat) (hd : decode code pc = .ok (.l2d, 1)) (hv : FP.l2d x = v) (hp : pc + 1 = pc') : Wl Z a0 own p l e R s m args below meth c code mx B EL h0 n0 ws sf h cells slots pc' L (.double v :: S) :=
  G.plain fun T H hx hy t k => XS.l2dS (g := mkF m pc L (.long x :: S)) H hx rfl (by rw [hy]; exact hd) rfl hv (by subst hp; exact k)
theorem Wl.daddS {x y v : UInt64} (G : Wl Z a0 own p l e R s m args below meth c code mx B EL h0 n0 ws sf h cells slots pc L (.double y :: .double x :: S)) (pc' : Nat) (hd : decode code pc = .ok (.dadd, 1)) (hn : Jvm.Free.Fl.NoNaN64 (FP.dadd x y)) (hv : FP.dadd x y = v) (hp : pc + 1 = pc') : Wl Z a0 own p l e R s m args below meth c code mx B EL h0 n0 ws sf h cells slots pc' L (.double v :: S) :=
  G.plain fun T H hx hy t k => XS.daddS (g := mkF m pc L (.double y :: .double x :: S)) H hx rfl (by rw [hy]; exact hd) rfl hn hv (by subst hp; exact k)
theorem Wl.dcmpS {o : CmpOp} {x y : UInt64} {v : Int32} (G : Wl Z a0 own p l e R s m args below meth c code mx B EL h0 n0 ws sf h cells slots pc L (.double y :: .double x :: S)) (pc' : Nat) (hd : decode code pc = .ok (.dcmp o, 1)) (hv : cmpValue (FP.dcmp x y) o = v) (hp : pc + 1 = pc') : Wl Z a0 own p l e R s m args below meth c code mx B EL h0 n0 ws sf h cells slots pc' L (.int v :: S) :=
  G.plain fun T H hx hy t k => XS.dcmpS (g := mkF m pc L (.double y :: .double x :: S)) H hx rfl (by rw [hy]; exact hd) rfl hv (by subst hp; exact k)
theorem Wl.goto  {o : Int} (G : Wl Z a0 own p l e R s m args below meth c code mx B EL h0 n0 ws sf h cells slots pc L S) (pc' : Nat) (hd : decode code pc = .ok (.goto o, 3)) (ho : 0 ≤ (pc : Int) + o) (hp : ((pc : Int) + o).toNat = pc') : Wl Z a0 own p l e R s m args below meth c code mx B EL h0 n0 ws sf h cells slots pc' L S :=
  G.plain fun T H hx hy t k => XS.goto (g := mkF m pc L (S)) (pc' := pc') H hx rfl rfl (by rw [hy]; exact hd) ho hp k
theorem Wl.ifT {cd : ClassFile.Cond} {x : Int32} {o : Int} (G : Wl Z a0 own p l e R s m args below meth c code mx B EL h0 n0 ws sf h cells slots pc L (.int x :: S)) (pc' : Nat) (hd : decode code pc = .ok (.ifCond cd o, 3)) (hc : ifCond.holds cd x = true) (ho : 0 ≤ (pc : Int) + o) (hp : ((pc : Int) + o).toNat = pc') : Wl Z a0 own p l e R s m args below meth c code mx B EL h0 n0 ws sf h cells slots pc' L S :=
  G.plain fun T H hx hy t k => XS.ifYes (g := mkF m pc L (.int x :: S)) (pc' := pc') H hx rfl rfl (by rw [hy]; exact hd) rfl hc ho hp k
theorem Wl.icmpT {cd : ClassFile.Cond} {x y : Int32} {o : Int} (G : Wl Z a0 own p l e R s m args below meth c code mx B EL h0 n0 ws sf h cells slots pc L (.int y :: .int x :: S)) (pc' : Nat) (hd : decode code pc = .ok (.if_icmp cd o, 3)) (hc : if_icmp.holds cd x y = true) (ho : 0 ≤ (pc : Int) + o) (hp : ((pc : Int) + o).toNat = pc') : Wl Z a0 own p l e R s m args below meth c code mx B EL h0 n0 ws sf h cells slots pc' L S :=
  G.plain fun T H hx hy t k => XS.icmpYes (g := mkF m pc L (.int y :: .int x :: S)) (pc' := pc') H hx rfl rfl (by rw [hy]; exact hd) rfl hc ho hp k
theorem Wl.ifnullT  {o : Int} (G : Wl Z a0 own p l e R s m args below meth c code mx B EL h0 n0 ws sf h cells slots pc L (.null :: S)) (pc' : Nat) (hd : decode code pc = .ok (.ifnull o, 3)) (ho : 0 ≤ (pc : Int) + o) (hp : ((pc : Int) + o).toNat = pc') : Wl Z a0 own p l e R s m args below meth c code mx B EL h0 n0 ws sf h cells slots pc' L S :=
  G.plain fun T H hx hy t k => XS.ifnullYes (g := mkF m pc L (.null :: S)) (pc' := pc') H hx rfl rfl (by rw [hy]; exact hd) rfl ho hp k
theorem Wl.ifnonnullT {b : Addr} {o : Int} (G : Wl Z a0 own p l e R s m args below meth c code mx B EL h0 n0 ws sf h cells slots pc L (.ref b :: S)) (pc' : Nat) (hd : decode code pc = .ok (.ifnonnull o, 3)) (ho : 0 ≤ (pc : Int) + o) (hp : ((pc : Int) + o).toNat = pc') : Wl Z a0 own p l e R s m args below meth c code mx B EL h0 n0 ws sf h cells slots pc' L S :=
  G.plain fun T H hx hy t k => XT.ifnonnullYes (g := mkF m pc L (.ref b :: S)) (pc' := pc') H hx rfl rfl (by rw [hy]; exact hd) rfl ho hp k
theorem Wl.acmpT {cd : ClassFile.ACond} {x y : Value} {o : Int} (G : Wl Z a0 own p l e R s m args below meth c code mx B EL h0 n0 ws sf h cells slots pc L (y :: x :: S)) (pc' : Nat) (hd : decode code pc = .ok (.if_acmp cd o, 3)) (hx1 : x.isRef = true) (hy1 : y.isRef = true) (hc : XT.acmp cd x y = true) (ho : 0 ≤ (pc : Int) + o) (hp : ((pc : Int) + o).toNat = pc') : Wl Z a0 own p l e R s m args below meth c code mx B EL h0 n0 ws sf h cells slots pc' L S :=
  G.plain fun T H hx hy t k => XT.acmpYes (g := mkF m pc L (y :: x :: S)) (pc' := pc') H hx rfl rfl (by rw [hy]; exact hd) rfl hx1 hy1 hc ho hp k
theorem Wl.ifF {cd : ClassFile.Cond} {x : Int32} {o : Int} (G : Wl Z a0 own p l e R s m args below meth c code mx B EL h0 n0 ws sf h cells slots pc L (.int x :: S)) (pc' : Nat) (hd : decode code pc = .ok (.ifCond cd o, 3)) (hc : ifCond.holds cd x = false) (hp : pc + 3 = pc') : Wl Z a0 own p l e R s m args below meth c code mx B EL h0 n0 ws sf h cells slots pc' L S :=
  G.plain fun T H hx hy t k => XS.ifNo (g := mkF m pc L (.int x :: S)) H hx rfl (by rw [hy]; exact hd) rfl hc (by subst hp; exact k)
theorem Wl.icmpF {cd : ClassFile.Cond} {x y : Int32} {o : Int} (G : Wl Z a0 own p l e R s m args below meth c code mx B EL h0 n0 ws sf h cells slots pc L (.int y :: .int x :: S)) (pc' : Nat) (hd : decode code pc = .ok (.if_icmp cd o, 3)) (hc : if_icmp.holds cd x y = false) (hp : pc + 3 = pc') : Wl Z a0 own p l e R s m args below meth c code mx B EL h0 n0 ws sf h cells slots pc' L S :=
  G.plain fun T H hx hy t k => XS.icmpNo (g := mkF m pc L (.int y :: .int x :: S)) H hx rfl (by rw [hy]; exact hd) rfl hc (by subst hp; exact k)
theorem Wl.ifnullF {b : Addr} {o : Int} (G : Wl Z a0 own p l e R s m args below meth c code mx B EL h0 n0 ws sf h cells slots pc L (.ref b :: S)) (pc' : Nat) (hd : decode code pc = .ok (.ifnull o, 3)) (hp : pc + 3 = pc') : Wl Z a0 own p l e R s m args below meth c code mx B EL h0 n0 ws sf h cells slots pc' L S :=
  G.plain fun T H hx hy t k => XS.ifnullNo (g := mkF m pc L (.ref b :: S)) H hx rfl (by rw [hy]; exact hd) rfl (by subst hp; exact k)
theorem Wl.ifnonnullF  {o : Int} (G : Wl Z a0 own p l e R s m args below meth c code mx B EL h0 n0 ws sf h cells slots pc L (.null :: S)) (pc' : Nat) (hd : decode code pc = .ok (.ifnonnull o, 3)) (hp : pc + 3 = pc') : Wl Z a0 own p l e R s m args below meth c code mx B EL h0 n0 ws sf h cells slots pc' L S :=
  G.plain fun T H hx hy t k => XT.ifnonnullNo (g := mkF m pc L (.null :: S)) H hx rfl (by rw [hy]; exact hd) rfl (by subst hp; exact k)
theorem Wl.acmpF {cd : ClassFile.ACond} {x y : Value} {o : Int} (G : Wl Z a0 own p l e R s m args below meth c code mx B EL h0 n0 ws sf h cells slots pc L (y :: x :: S)) (pc' : Nat) (hd : decode code pc = .ok (.if_acmp cd o, 3)) (hx1 : x.isRef = true) (hy1 : y.isRef = true) (hc : XT.acmp cd x y = false) (hp : pc + 3 = pc') : Wl Z a0 own p l e R s m args below meth c code mx B EL h0 n0 ws sf h cells slots pc' L S :=
  G.plain fun T H hx hy t k => XT.acmpNo (g := mkF m pc L (y :: x :: S)) H hx rfl (by rw [hy]; exact hd) rfl hx1 hy1 hc (by subst hp; exact k)
theorem ext_keep {h h' : Heap} (E : Ext h h') : Keep h h' [] := (Keep.refl h []).ext E
def NW (h0 : Heap) (ws : List Addr) (a : Addr) : Prop := a ∈ ws ∨ h0.size ≤ a
theorem NW.new {a : Addr} (q : h0.size ≤ a) : NW h0 ws a := Or.inr q
theorem ne_new {a b : Addr} {n : Nat} (q : a = n) (r : b < n) : b ≠ a := Nat.ne_of_lt (q.symm ▸ r)
theorem ne_ge {a b : Addr} {n : Nat} (r : a < n) (q : n ≤ b) : b ≠ a := (Nat.ne_of_lt (Nat.lt_of_lt_of_le r q)).symm
theorem Wl.new {C : String} {index n : Nat} (G : Wl Z a0 own p l e R s m args below meth c code mx B EL h0 n0 ws sf h cells slots pc L S) (pc' : Nat) (w : (Cond.classLink own index C).before a0 Z = true) (wi : (Cond.instantiable C n).before a0 Z = true) (wz : (Cond.initialized C).before a0 Z = true) (hd : decode code pc = .ok (.new index, 3)) (hp : pc + 3 = pc') (hc : cells + 1 ≤ R.cells) (hl : slots + n ≤ R.slots) : ∃ (a : Addr) (h' : Heap), Wl Z a0 own p l e R s m args below meth c code mx B EL h0 n0 ws (a :: sf) h' (cells + 1) (slots + n) pc' L (.ref a :: S) ∧ a = h.size ∧ h0.size ≤ a ∧ Ext h h' ∧ Exa Z h' a C ∧ (∀ {O nm d : String} {ty : FieldType}, Laid Z a0 C O nm d → parseFieldDescriptor d = some ty → Fld Z h' a O nm d (defaultValue ty)) ∧ Unt h' a := by
  obtain ⟨⟨hx, hby, hml, hEW⟩, ⟨o1, z2, z3, z1, es⟩, v0, k0, T, locs, X, ⟨hS, hk, hZ, hown⟩, ⟨hC, hF⟩, N, eT, k⟩ := G
  obtain ⟨T', h', X', e', E, A, D, U, st⟩ := newO X hx hZ hown w wi wz eT (g := mkF m pc L S) rfl (hb hby hd) hc hl
  exact ⟨h.size, h', ⟨⟨hx, hby, hml, hEW⟩, ⟨o1.ext E, z2.ext E, z3, z1, es⟩, v0, k0, T', _, X', ⟨hS, Nat.le_trans hk E.1, hZ, hown⟩, ⟨hC.trans (CHr.ext E hC.1), safeNew E hC.1 hF A.lt⟩, N, e', fun t q => k t (st t (by subst hp; exact q))⟩, rfl, z2.1, E, A, D, U⟩
theorem Wl.newarray {aty : ArrayType} {n : Int32} (G : Wl Z a0 own p l e R s m args below meth c code mx B EL h0 n0 ws sf h cells slots pc L (.int n :: S)) (pc' : Nat) (w : (Cond.arrayClass (newarray.typeOf aty)).before a0 Z = true) (hd : decode code pc = .ok (.newarray aty, 2)) (hn : ¬ n < 0) (cap : Nat) (hcap : n.toNatClampNeg ≤ cap) (hb8 : cap * 8 ≤ 536870912) (hp : pc + 2 = pc') (hc : cells + 1 ≤ R.cells) (hl : slots + cap ≤ R.slots) : ∃ (a : Addr) (h' : Heap) (k : ClassId), Wl Z a0 own p l e R s m args below meth c code mx B EL h0 n0 ws (a :: sf) h' (cells + 1) (slots + cap) pc' L (.ref a :: S) ∧ a = h.size ∧ h0.size ≤ a ∧ Ext h h' ∧ Arv Z h' a k (newarray.typeOf aty) n [] (defaultValue (newarray.typeOf aty)) := by
  obtain ⟨⟨hx, hby, hml, hEW⟩, ⟨o1, z2, z3, z1, es⟩, v0, k0, T, locs, X, ⟨hS, hk, hZ, hown⟩, ⟨hC, hF⟩, N, eT, k⟩ := G
  obtain ⟨T', h', cA, X', e', E, A, st⟩ := newP X hx hZ w eT (g := mkF m pc L (.int n :: S)) rfl (hb hby hd) rfl hn hcap hb8 hc hl
  exact ⟨h.size, h', cA, ⟨⟨hx, hby, hml, hEW⟩, ⟨o1.ext E, z2.ext E, z3, z1, es⟩, v0, k0, T', _, X', ⟨hS, Nat.le_trans hk E.1, hZ, hown⟩, ⟨hC.trans (CHr.ext E hC.1), safeNew E hC.1 hF A.lt⟩, N, e', fun t q => k t (st t (by subst hp; exact q))⟩, rfl, z2.1, E, Arv.new A hn⟩
theorem Wl.getf {R0 O n d host : String} {index : Nat} {a : Addr} {v : Value} (G : Wl Z a0 own p l e R s m args below meth c code mx B EL h0 n0 ws sf h cells slots pc L (.ref a :: S)) (pc' : Nat) (w : (Cond.fieldLink own index R0 n d).before a0 Z = true ∨ (Cond.fieldLinkNest own index R0 n d host).before a0 Z = true) (via : Via Z R0 O n d) (F : Fld Z h a O n d v) (hd : decode code pc = .ok (.getfield index, 3)) (hp : pc + 3 = pc') : Wl Z a0 own p l e R s m args below meth c code mx B EL h0 n0 ws sf h cells slots pc' L (v :: S) := by
  obtain ⟨⟨hx, hby, hml, hEW⟩, ⟨o1, z2, z3, z1, es⟩, v0, k0, T, locs, X, ⟨hS, hk, hZ, hown⟩, ⟨hC, hF⟩, N, eT, k⟩ := G
  obtain ⟨T', X', e', st⟩ := getF X hx hZ hown w via eT F (g := mkF m pc L (.ref a :: S)) rfl rfl (hb hby hd)
  exact ⟨⟨hx, hby, hml, hEW⟩, ⟨o1, z2, z3, z1, es⟩, v0, k0, T', _, X', ⟨hS, hk, hZ, hown⟩, ⟨hC, hF⟩, N, e', fun t q => k t (st t (by subst hp; exact q))⟩
theorem Wl.gets {R0 O n d host : String} {index : Nat} {v : Value} (G : Wl Z a0 own p l e R s m args below meth c code mx B EL h0 n0 ws sf h cells slots pc L S) (pc' : Nat) (w : (Cond.fieldLink own index R0 n d).before a0 Z = true ∨ (Cond.fieldLinkNest own index R0 n d host).before a0 Z = true) (via : Via Z R0 O n d) (F : Sta Z h O n d v) (hd : decode code pc = .ok (.getstatic index, 3)) (hp : pc + 3 = pc') : Wl Z a0 own p l e R s m args below meth c code mx B EL h0 n0 ws sf h cells slots pc' L (v :: S) := by
  obtain ⟨⟨hx, hby, hml, hEW⟩, ⟨o1, z2, z3, z1, es⟩, v0, k0, T, locs, X, ⟨hS, hk, hZ, hown⟩, ⟨hC, hF⟩, N, eT, k⟩ := G
  obtain ⟨T', X', e', st⟩ := getS2 X hx hZ hown w via eT F (g := mkF m pc L S) rfl (hb hby hd)
  exact ⟨⟨hx, hby, hml, hEW⟩, ⟨o1, z2, z3, z1, es⟩, v0, k0, T', _, X', ⟨hS, hk, hZ, hown⟩, ⟨hC, hF⟩, N, e', fun t q => k t (st t (by subst hp; exact q))⟩
theorem Wl.putf {R0 O n d host C : String} {index kk : Nat} {ty : FieldType} {a : Addr} {v old : Value} (G : Wl Z a0 own p l e R s m args below meth c code mx B EL h0 n0 ws sf h cells slots pc L (v :: .ref a :: S)) (pc' : Nat) (w : (Cond.fieldLink own index R0 n d).before a0 Z = true ∨ (Cond.fieldLinkNest own index R0 n d host).before a0 Z = true) (via : Via Z R0 O n d) (F : Fld Z h a O n d old) (E : Exa Z h a C) (lay : (Cond.lays C O n d).before a0 Z = true ∨ ((Cond.laysFinal C O n d).before a0 Z = true ∧ own = O ∧ meth.name = "<init>")) (wi : (Cond.instantiable C kk).before a0 Z = true) (hty : parseFieldDescriptor d = some ty) (hn : narrow ty v = v) (hf : fits ty v = true) (q : NW h0 ws a) (qs : a ∈ sf) (hd : decode code pc = .ok (.putfield index, 3)) (hp : pc + 3 = pc') : ∃ (h' : Heap), Wl Z a0 own p l e R s m args below meth c code mx B EL h0 n0 ws sf h' cells slots pc' L S ∧ Wr h h' a (Jvm.RoadKit.slotOf Z O n d) v ∧ Fld Z h' a O n d v ∧ Keep h h' [a] := by
  have qn := G.nw q
  obtain ⟨⟨hx, hby, hml, hEW⟩, ⟨o1, z2, z3, z1, es⟩, v0, k0, T, locs, X, ⟨hS, hk, hZ, hown⟩, ⟨hC, hF⟩, N, eT, k⟩ := G
  obtain ⟨T', h', X', e', W', st⟩ := putF X hx hZ hown w via eT F E lay wi hty hn hf (g := mkF m pc L (v :: .ref a :: S)) rfl rfl (hb hby hd)
  exact ⟨h', ⟨⟨hx, hby, hml, hEW⟩, ⟨o1.wr W' qn, z2.wr W' q, z3, z1, es⟩, v0, k0, T', _, X', ⟨hS, (by rw [W'.size]; exact hk), hZ, hown⟩, ⟨hC.trans (CHr.wr W' (hF _ qs).2 hC.1), safeKeep (Keep.of_wr W') (fun x y => by cases List.mem_singleton.mp y; exact (hF _ qs).2) hC.1 hF⟩, Fr.snoc X' N qn, e', fun t q => k t (st t (by subst hp; exact q))⟩, W', F.same W', Keep.of_wr W'⟩
theorem Wl.alen {a : Addr} {k : ClassId} {ty : FieldType} {z : Int32} {vs : List Value} {dv : Value} (G : Wl Z a0 own p l e R s m args below meth c code mx B EL h0 n0 ws sf h cells slots pc L (.ref a :: S)) (pc' : Nat) (A : Arv Z h a k ty z vs dv) (hd : decode code pc = .ok (.arraylength, 1)) (hp : pc + 1 = pc') : Wl Z a0 own p l e R s m args below meth c code mx B EL h0 n0 ws sf h cells slots pc' L (.int z :: S) := by
  obtain ⟨⟨hx, hby, hml, hEW⟩, ⟨o1, z2, z3, z1, es⟩, v0, k0, T, locs, X, ⟨hS, hk, hZ, hown⟩, ⟨hC, hF⟩, N, eT, k⟩ := G
  obtain ⟨cl, Ar, -, hSz, hN, -⟩ := A
  refine ⟨⟨hx, hby, hml, hEW⟩, ⟨o1, z2, z3, z1, es⟩, v0, k0, T, locs, X, ⟨hS, hk, hZ, hown⟩, ⟨hC, hF⟩, N, eT, fun t q => k t ?_⟩
  refine X.arraylength hx (by rw [eT]; exact Ar.1) (State.isArrayOf_alike hZ.alike Ar.2.1) (g := mkF m pc L (.ref a :: S)) rfl rfl (hb hby hd) _ ?_
  rw [len_of hSz hN]; exact hp ▸ q
theorem Wl.iaload {a : Addr} {k : ClassId} {z j : Int32} {vs : List Value} {dv v : Value} (G : Wl Z a0 own p l e R s m args below meth c code mx B EL h0 n0 ws sf h cells slots pc L (.int j :: .ref a :: S)) (pc' : Nat) (A : Arv Z h a k .int z vs dv) (hj : ¬ j < 0 ∧ j < z) (hv : vs.getD j.toNatClampNeg dv = v) (hd : decode code pc = .ok (.iaload, 1)) (hp : pc + 1 = pc') : Wl Z a0 own p l e R s m args below meth c code mx B EL h0 n0 ws sf h cells slots pc' L (v :: S) := by
  obtain ⟨⟨hx, hby, hml, hEW⟩, ⟨o1, z2, z3, z1, es⟩, v0, k0, T, locs, X, ⟨hS, hk, hZ, hown⟩, ⟨hC, hF⟩, N, eT, k⟩ := G
  obtain ⟨cl, Ar, -, hSz, hN, H, -⟩ := A
  refine ⟨⟨hx, hby, hml, hEW⟩, ⟨o1, z2, z3, z1, es⟩, v0, k0, T, locs, X, ⟨hS, hk, hZ, hown⟩, ⟨hC, hF⟩, N, eT, fun t q => k t ?_⟩
  have hin := inb_of hSz hj
  exact X.iaload hx (by rw [eT]; exact Ar.1) (State.isArrayOf_alike hZ.alike Ar.2.1) Ar.2.2 hin (H.at hin hv) (g := mkF m pc L (.int j :: .ref a :: S)) rfl rfl (hb hby hd) t (by subst hp; exact q)
theorem Wl.laload {a : Addr} {k : ClassId} {z j : Int32} {vs : List Value} {dv v : Value} (G : Wl Z a0 own p l e R s m args below meth c code mx B EL h0 n0 ws sf h cells slots pc L (.int j :: .ref a :: S)) (pc' : Nat) (A : Arv Z h a k .long z vs dv) (hj : ¬ j < 0 ∧ j < z) (hv : vs.getD j.toNatClampNeg dv = v) (hd : decode code pc = .ok (.laload, 1)) (hp : pc + 1 = pc') : Wl Z a0 own p l e R s m args below meth c code mx B EL h0 n0 ws sf h cells slots pc' L (v :: S) := by
  obtain ⟨⟨hx, hby, hml, hEW⟩, ⟨o1, z2, z3, z1, es⟩, v0, k0, T, locs, X, ⟨hS, hk, hZ, hown⟩, ⟨hC, hF⟩, N, eT, k⟩ := G
  obtain ⟨cl, Ar, -, hSz, hN, H, -⟩ := A
  refine ⟨⟨hx, hby, hml, hEW⟩, ⟨o1, z2, z3, z1, es⟩, v0, k0, T, locs, X, ⟨hS, hk, hZ, hown⟩, ⟨hC, hF⟩, N, eT, fun t q => k t ?_⟩
  have hin := inb_of hSz hj
  exact X.laload hx (by rw [eT]; exact Ar.1) (State.isArrayOf_alike hZ.alike Ar.2.1) Ar.2.2 hin (H.at hin hv) (g := mkF m pc L (.int j :: .ref a :: S)) rfl rfl (hb hby hd) t (by subst hp; exact q)
theorem Wl.caload {a : Addr} {k : ClassId} {z j : Int32} {vs : List Value} {dv v : Value} (G : Wl Z a0 own p l e R s m args below meth c code mx B EL h0 n0 ws sf h cells slots pc L (.int j :: .ref a :: S)) (pc' : Nat) (A : Arv Z h a k .char z vs dv) (hj : ¬ j < 0 ∧ j < z) (hv : vs.getD j.toNatClampNeg dv = v) (hd : decode code pc = .ok (.caload, 1)) (hp : pc + 1 = pc') : Wl Z a0 own p l e R s m args below meth c code mx B EL h0 n0 ws sf h cells slots pc' L (v :: S) := by
  obtain ⟨⟨hx, hby, hml, hEW⟩, ⟨o1, z2, z3, z1, es⟩, v0, k0, T, locs, X, ⟨hS, hk, hZ, hown⟩, ⟨hC, hF⟩, N, eT, k⟩ := G
  obtain ⟨cl, Ar, -, hSz, hN, H, -⟩ := A
  refine ⟨⟨hx, hby, hml, hEW⟩, ⟨o1, z2, z3, z1, es⟩, v0, k0, T, locs, X, ⟨hS, hk, hZ, hown⟩, ⟨hC, hF⟩, N, eT, fun t q => k t ?_⟩
  have hin := inb_of hSz hj
  exact X.caload hx (by rw [eT]; exact Ar.1) (State.isArrayOf_alike hZ.alike Ar.2.1) Ar.2.2 hin (H.at hin hv) (g := mkF m pc L (.int j :: .ref a :: S)) rfl rfl (hb hby hd) t (by subst hp; exact q)
theorem Wl.baload {a : Addr} {k : ClassId} {z j : Int32} {vs : List Value} {dv v : Value} (G : Wl Z a0 own p l e R s m args below meth c code mx B EL h0 n0 ws sf h cells slots pc L (.int j :: .ref a :: S)) (pc' : Nat) (A : Arv Z h a k .byte z vs dv) (hj : ¬ j < 0 ∧ j < z) (hv : vs.getD j.toNatClampNeg dv = v) (hd : decode code pc = .ok (.baload, 1)) (hp : pc + 1 = pc') : Wl Z a0 own p l e R s m args below meth c code mx B EL h0 n0 ws sf h cells slots pc' L (v :: S) := by
  obtain ⟨⟨hx, hby, hml, hEW⟩, ⟨o1, z2, z3, z1, es⟩, v0, k0, T, locs, X, ⟨hS, hk, hZ, hown⟩, ⟨hC, hF⟩, N, eT, k⟩ := G
  obtain ⟨cl, Ar, -, hSz, hN, H, -⟩ := A
  refine ⟨⟨hx, hby, hml, hEW⟩, ⟨o1, z2, z3, z1, es⟩, v0, k0, T, locs, X, ⟨hS, hk, hZ, hown⟩, ⟨hC, hF⟩, N, eT, fun t q => k t ?_⟩
  have hin := inb_of hSz hj
  exact X.baloadBytes hx (by rw [eT]; exact Ar.1) (State.isArrayOf_alike hZ.alike Ar.2.1) Ar.2.2 hin (H.at hin hv) (g := mkF m pc L (.int j :: .ref a :: S)) rfl rfl (hb hby hd) t (by subst hp; exact q)
theorem Wl.daload {a : Addr} {k : ClassId} {z j : Int32} {vs : List Value} {dv v : Value} (G : Wl Z a0 own p l e R s m args below meth c code mx B EL h0 n0 ws sf h cells slots pc L (.int j :: .ref a :: S)) (pc' : Nat) (A : Arv Z h a k .double z vs dv) (hj : ¬ j < 0 ∧ j < z) (hv : vs.getD j.toNatClampNeg dv = v) (hd : decode code pc = .ok (.daload, 1)) (hp : pc + 1 = pc') : Wl Z a0 own p l e R s m args below meth c code mx B EL h0 n0 ws sf h cells slots pc' L (v :: S) := by
  obtain ⟨⟨hx, hby, hml, hEW⟩, ⟨o1, z2, z3, z1, es⟩, v0, k0, T, locs, X, ⟨hS, hk, hZ, hown⟩, ⟨hC, hF⟩, N, eT, k⟩ := G
  obtain ⟨cl, Ar, -, hSz, hN, H, -⟩ := A
  refine ⟨⟨hx, hby, hml, hEW⟩, ⟨o1, z2, z3, z1, es⟩, v0, k0, T, locs, X, ⟨hS, hk, hZ, hown⟩, ⟨hC, hF⟩, N, eT, fun t q => k t ?_⟩
  have hin := inb_of hSz hj
  exact X.daload hx (by rw [eT]; exact Ar.1) (State.isArrayOf_alike hZ.alike Ar.2.1) Ar.2.2 hin (H.at hin hv) (g := mkF m pc L (.int j :: .ref a :: S)) rfl rfl (hb hby hd) t (by subst hp; exact q)
theorem Wl.iastore {a : Addr} {k : ClassId} {z j : Int32} {x : Int32} {vs : List Value} {dv : Value} (G : Wl Z a0 own p l e R s m args below meth c code mx B EL h0 n0 ws sf h cells slots pc L (.int x :: .int j :: .ref a :: S)) (pc' : Nat) (i : Nat) (A : Arv Z h a k .int z vs dv) (hj : ¬ j < 0 ∧ j < z) (hi : j.toNatClampNeg = i) (hl : i < vs.length) (q : NW h0 ws a) (qs : a ∈ sf) (hd : decode code pc = .ok (.iastore, 1)) (hp : pc + 1 = pc') : ∃ (h' : Heap), Wl Z a0 own p l e R s m args below meth c code mx B EL h0 n0 ws sf h' cells slots pc' L S ∧ Arv Z h' a k .int z (vs.set i (.int x)) dv ∧ Keep h h' [a] := by
  have qn := G.nw q
  obtain ⟨⟨hx, hby, hml, hEW⟩, ⟨o1, z2, z3, z1, es⟩, v0, k0, T, locs, X, ⟨hS, hk, hZ, hown⟩, ⟨hC, hF⟩, N, eT, k⟩ := G
  obtain ⟨cl, Ar, q1, hSz, hN, H, F⟩ := A
  obtain ⟨T', h', X', e', W', st⟩ := stI X hx hZ eT Ar (inb_of hSz hj) (g := mkF m pc L (.int x :: .int j :: .ref a :: S)) rfl rfl (hb hby hd)
  exact ⟨h', ⟨⟨hx, hby, hml, hEW⟩, ⟨o1.wr W' qn, z2.wr W' q, z3, z1, es⟩, v0, k0, T', _, X', ⟨hS, (by rw [W'.size]; exact hk), hZ, hown⟩, ⟨hC.trans (CHr.wr W' (hF _ qs).2 hC.1), safeKeep (Keep.of_wr W') (fun x y => by cases List.mem_singleton.mp y; exact (hF _ qs).2) hC.1 hF⟩, Fr.snoc X' N qn, e', fun t q => k t (st t (by subst hp; exact q))⟩, Arv.set Ar q1 hSz hN H F rfl W' i hi hl, Keep.of_wr W'⟩
theorem Wl.lastore {a : Addr} {k : ClassId} {z j : Int32} {x : Int64} {vs : List Value} {dv : Value} (G : Wl Z a0 own p l e R s m args below meth c code mx B EL h0 n0 ws sf h cells slots pc L (.long x :: .int j :: .ref a :: S)) (pc' : Nat) (i : Nat) (A : Arv Z h a k .long z vs dv) (hj : ¬ j < 0 ∧ j < z) (hi : j.toNatClampNeg = i) (hl : i < vs.length) (q : NW h0 ws a) (qs : a ∈ sf) (hd : decode code pc = .ok (.lastore, 1)) (hp : pc + 1 = pc') : ∃ (h' : Heap), Wl Z a0 own p l e R s m args below meth c code mx B EL h0 n0 ws sf h' cells slots pc' L S ∧ Arv Z h' a k .long z (vs.set i (.long x)) dv ∧ Keep h h' [a] := by
  have qn := G.nw q
  obtain ⟨⟨hx, hby, hml, hEW⟩, ⟨o1, z2, z3, z1, es⟩, v0, k0, T, locs, X, ⟨hS, hk, hZ, hown⟩, ⟨hC, hF⟩, N, eT, k⟩ := G
  obtain ⟨cl, Ar, q1, hSz, hN, H, F⟩ := A
  obtain ⟨T', h', X', e', W', st⟩ := stJ X hx hZ eT Ar (inb_of hSz hj) (g := mkF m pc L (.long x :: .int j :: .ref a :: S)) rfl rfl (hb hby hd)
  exact ⟨h', ⟨⟨hx, hby, hml, hEW⟩, ⟨o1.wr W' qn, z2.wr W' q, z3, z1, es⟩, v0, k0, T', _, X', ⟨hS, (by rw [W'.size]; exact hk), hZ, hown⟩, ⟨hC.trans (CHr.wr W' (hF _ qs).2 hC.1), safeKeep (Keep.of_wr W') (fun x y => by cases List.mem_singleton.mp y; exact (hF _ qs).2) hC.1 hF⟩, Fr.snoc X' N qn, e', fun t q => k t (st t (by subst hp; exact q))⟩, Arv.set Ar q1 hSz hN H F rfl W' i hi hl, Keep.of_wr W'⟩
theorem Wl.dastore {a : Addr} {k : ClassId} {z j : Int32} {x : UInt64} {vs : List Value} {dv : Value} (G : Wl Z a0 own p l e R s m args below meth c code mx B EL h0 n0 ws sf h cells slots pc L (.double x :: .int j :: .ref a :: S)) (pc' : Nat) (i : Nat) (A : Arv Z h a k .double z vs dv) (hj : ¬ j < 0 ∧ j < z) (hi : j.toNatClampNeg = i) (hl : i < vs.length) (q : NW h0 ws a) (qs : a ∈ sf) (hd : decode code pc = .ok (.dastore, 1)) (hp : pc + 1 = pc') : ∃ (h' : Heap), Wl Z a0 own p l e R s m args below meth c code mx B EL h0 n0 ws sf h' cells slots pc' L S ∧ Arv Z h' a k .double z (vs.set i (.double x)) dv ∧ Keep h h' [a] := by
  have qn := G.nw q
  obtain ⟨⟨hx, hby, hml, hEW⟩, ⟨o1, z2, z3, z1, es⟩, v0, k0, T, locs, X, ⟨hS, hk, hZ, hown⟩, ⟨hC, hF⟩, N, eT, k⟩ := G
  obtain ⟨cl, Ar, q1, hSz, hN, H, F⟩ := A
  obtain ⟨T', h', X', e', W', st⟩ := stD X hx hZ eT Ar (inb_of hSz hj) (g := mkF m pc L (.double x :: .int j :: .ref a :: S)) rfl rfl (hb hby hd)
  exact ⟨h', ⟨⟨hx, hby, hml, hEW⟩, ⟨o1.wr W' qn, z2.wr W' q, z3, z1, es⟩, v0, k0, T', _, X', ⟨hS, (by rw [W'.size]; exact hk), hZ, hown⟩, ⟨hC.trans (CHr.wr W' (hF _ qs).2 hC.1), safeKeep (Keep.of_wr W') (fun x y => by cases List.mem_singleton.mp y; exact (hF _ qs).2) hC.1 hF⟩, Fr.snoc X' N qn, e', fun t q => k t (st t (by subst hp; exact q))⟩, Arv.set Ar q1 hSz hN H F rfl W' i hi hl, Keep.of_wr W'⟩
theorem Wl.castore {a : Addr} {k : ClassId} {z j : Int32} {x : Int32} {vs : List Value} {dv : Value} (G : Wl Z a0 own p l e R s m args below meth c code mx B EL h0 n0 ws sf h cells slots pc L (.int x :: .int j :: .ref a :: S)) (pc' : Nat) (i : Nat) (A : Arv Z h a k .char z vs dv) (hj : ¬ j < 0 ∧ j < z) (hi : j.toNatClampNeg = i) (hl : i < vs.length) (q : NW h0 ws a) (qs : a ∈ sf) (hd : decode code pc = .ok (.castore, 1)) (hp : pc + 1 = pc') : ∃ (h' : Heap), Wl Z a0 own p l e R s m args below meth c code mx B EL h0 n0 ws sf h' cells slots pc' L S ∧ Arv Z h' a k .char z (vs.set i (.int (nar .char x))) dv ∧ Keep h h' [a] := by
  have qn := G.nw q
  obtain ⟨⟨hx, hby, hml, hEW⟩, ⟨o1, z2, z3, z1, es⟩, v0, k0, T, locs, X, ⟨hS, hk, hZ, hown⟩, ⟨hC, hF⟩, N, eT, k⟩ := G
  obtain ⟨cl, Ar, q1, hSz, hN, H, F⟩ := A
  obtain ⟨T', h', X', e', W', st⟩ := stC X hx hZ eT Ar (inb_of hSz hj) (g := mkF m pc L (.int x :: .int j :: .ref a :: S)) rfl rfl (hb hby hd)
  exact ⟨h', ⟨⟨hx, hby, hml, hEW⟩, ⟨o1.wr W' qn, z2.wr W' q, z3, z1, es⟩, v0, k0, T', _, X', ⟨hS, (by rw [W'.size]; exact hk), hZ, hown⟩, ⟨hC.trans (CHr.wr W' (hF _ qs).2 hC.1), safeKeep (Keep.of_wr W') (fun x y => by cases List.mem_singleton.mp y; exact (hF _ qs).2) hC.1 hF⟩, Fr.snoc X' N qn, e', fun t q => k t (st t (by subst hp; exact q))⟩, Arv.set Ar q1 hSz hN H F (fits_nar_char x) W' i hi hl, Keep.of_wr W'⟩
theorem Wl.bastore {a : Addr} {k : ClassId} {z j : Int32} {x : Int32} {vs : List Value} {dv : Value} (G : Wl Z a0 own p l e R s m args below meth c code mx B EL h0 n0 ws sf h cells slots pc L (.int x :: .int j :: .ref a :: S)) (pc' : Nat) (i : Nat) (A : Arv Z h a k .byte z vs dv) (hj : ¬ j < 0 ∧ j < z) (hi : j.toNatClampNeg = i) (hl : i < vs.length) (q : NW h0 ws a) (qs : a ∈ sf) (hd : decode code pc = .ok (.bastore, 1)) (hp : pc + 1 = pc') : ∃ (h' : Heap), Wl Z a0 own p l e R s m args below meth c code mx B EL h0 n0 ws sf h' cells slots pc' L S ∧ Arv Z h' a k .byte z (vs.set i (.int x.toInt8.toInt32)) dv ∧ Keep h h' [a] := by
  have qn := G.nw q
  obtain ⟨⟨hx, hby, hml, hEW⟩, ⟨o1, z2, z3, z1, es⟩, v0, k0, T, locs, X, ⟨hS, hk, hZ, hown⟩, ⟨hC, hF⟩, N, eT, k⟩ := G
  obtain ⟨cl, Ar, q1, hSz, hN, H, F⟩ := A
  obtain ⟨T', h', X', e', W', st⟩ := stB X hx hZ eT Ar (inb_of hSz hj) (g := mkF m pc L (.int x :: .int j :: .ref a :: S)) rfl rfl (hb hby hd)
  exact ⟨h', ⟨⟨hx, hby, hml, hEW⟩, ⟨o1.wr W' qn, z2.wr W' q, z3, z1, es⟩, v0, k0, T', _, X', ⟨hS, (by rw [W'.size]; exact hk), hZ, hown⟩, ⟨hC.trans (CHr.wr W' (hF _ qs).2 hC.1), safeKeep (Keep.of_wr W') (fun x y => by cases List.mem_singleton.mp y; exact (hF _ qs).2) hC.1 hF⟩, Fr.snoc X' N qn, e', fun t q => k t (st t (by subst hp; exact q))⟩, Arv.set Ar q1 hSz hN H F (fits_nar_byte x) W' i hi hl, Keep.of_wr W'⟩
theorem Wl.newarrayE {aty : ArrayType} {n : Int32} {ad : String} (G : Wl Z a0 own p l e R s m args below meth c code mx B EL h0 n0 ws sf h cells slots pc L (.int n :: S)) (pc' : Nat) (w : (Cond.arrayClass (newarray.typeOf aty)).before a0 Z = true) (had : "[" ++ (newarray.typeOf aty).toString = ad) (hd : decode code pc = .ok (.newarray aty, 2)) (hn : ¬ n < 0) (cap : Nat) (hcap : n.toNatClampNeg ≤ cap) (hb8 : cap * 8 ≤ 536870912) (hp : pc + 2 = pc') (hc : cells + 1 ≤ R.cells) (hl : slots + cap ≤ R.slots) : ∃ (a : Addr) (h' : Heap) (k : ClassId), Wl Z a0 own p l e R s m args below meth c code mx B EL h0 n0 ws (a :: sf) h' (cells + 1) (slots + cap) pc' L (.ref a :: S) ∧ a = h.size ∧ h0.size ≤ a ∧ Ext h h' ∧ Arv Z h' a k (newarray.typeOf aty) n [] (defaultValue (newarray.typeOf aty)) ∧ Exa Z h' a ad := by
  obtain ⟨⟨hx, hby, hml, hEW⟩, ⟨o1, z2, z3, z1, es⟩, v0, k0, T, locs, X, ⟨hS, hk, hZ, hown⟩, ⟨hC, hF⟩, N, eT, k⟩ := G
  obtain ⟨T', h', cA, X', e', E, A, Ex, st⟩ := newPE X hx hZ w eT (g := mkF m pc L (.int n :: S)) rfl (hb hby hd) rfl hn hcap hb8 hc hl had
  exact ⟨h.size, h', cA, ⟨⟨hx, hby, hml, hEW⟩, ⟨o1.ext E, z2.ext E, z3, z1, es⟩, v0, k0, T', _, X', ⟨hS, Nat.le_trans hk E.1, hZ, hown⟩, ⟨hC.trans (CHr.ext E hC.1), safeNew E hC.1 hF A.lt⟩, N, e', fun t q => k t (st t (by subst hp; exact q))⟩, rfl, z2.1, E, Arv.new A hn, Ex⟩
theorem fitC_of {a : Addr} {cl : Cell} {ty : FieldType} {vs : List Value} {dv : Value} (A : Arr Z h a cl ty) (H : Has cl vs dv) (F : ∀ i, i < cl.slots.size → fits ty (vs.getD i dv) = true) : FitC Z cl := fun i v hv => by
  obtain ⟨hi, -⟩ := Array.getElem?_eq_some_iff.mp hv
  have e := H i hi
  rw [hv] at e
  obtain ⟨-, k, hk, comp, hkind⟩ := A.2.1
  simp only [State.fitsSlot, State.slotType?, hk, hkind, Option.bind_eq_bind, Option.bind_some]
  rw [Option.some.inj e]; exact F i hi
theorem Wl.cloneV {ad : String} {index : Nat} {a : Addr} {k : ClassId} {ty : FieldType} {z : Int32} {vs : List Value} {dv : Value} (G : Wl Z a0 own p l e R s m args below meth c code mx B EL h0 n0 ws sf h cells slots pc L (.ref a :: S)) (pc' : Nat) (w1 : (Cond.methodLink own index ⟨ad, "clone", "()Ljava/lang/Object;"⟩).before a0 Z = true) (w2 : (Cond.sameMethod ad "java/lang/Object" "clone" "()Ljava/lang/Object;").before a0 Z = true) (w3 : (Cond.native ⟨"java/lang/Object", "clone", "()Ljava/lang/Object;"⟩).before a0 Z = true) (w4 : (Cond.instanceMethod ⟨"java/lang/Object", "clone", "()Ljava/lang/Object;"⟩).before a0 Z = true) (w5 : (Cond.selects ad ⟨ad, "clone", "()Ljava/lang/Object;"⟩ ⟨"java/lang/Object", "clone", "()Ljava/lang/Object;"⟩).before a0 Z = true) (w6 : (Cond.castable ad "java/lang/Cloneable").before a0 Z = true) (A : Arv Z h a k ty z vs dv) (E0 : Exa Z h a ad) (hd : decode code pc = .ok (.invokevirtual index, 3)) (hz : L.size = mx) (hf : 1 ≤ R.frames) (hlo : (S.map fun v => v.category).sum + 14 ≤ R.locals) (cap : Nat) (hcap : z.toNatClampNeg ≤ cap) (hc : cells + 1 ≤ R.cells) (hl : slots + cap ≤ R.slots) (hp : pc + 3 = pc') : ∃ (b : Addr) (h' : Heap), Wl Z a0 own p l e R s m args below meth c code mx B EL h0 n0 ws (b :: sf) h' (cells + 1) (slots + cap) pc' L (.ref b :: S) ∧ b = h.size ∧ h0.size ≤ b ∧ Ext h h' ∧ Arv Z h' b k ty z vs dv ∧ Exa Z h' b ad := by
  obtain ⟨⟨hx, hby, hml, hEW⟩, ⟨o1, z2, z3, z1, es⟩, v0, k0, T, locs, X, ⟨hS, hk, hZ, hown⟩, ⟨hC, hF⟩, N, eT, k⟩ := G
  obtain ⟨cl, Ar, q1, hSz, hN, H, F⟩ := A
  obtain ⟨T', h', X', e', E, A', Ex, st⟩ := cloneA (s := s.setVm v0) X hx hZ hown w1 w2 w3 w4 w5 w6 eT Ar E0 (fitC_of Ar H F) (g := mkF m pc L (.ref a :: S)) rfl (hz.trans hml.symm) rfl (hb hby hd) hf (W := (S.map fun v => v.category).sum) (by show 2 * 0 + _ ≤ _; omega) hlo (cap := cap) (by rw [hSz]; exact hcap) hc hl
  exact ⟨h.size, h', ⟨⟨hx, hby, hml, hEW⟩, ⟨o1.ext E, z2.ext E, z3, z1, es⟩, v0, k0, T', _, X', ⟨hS, Nat.le_trans hk E.1, hZ, hown⟩, ⟨hC.trans (CHr.ext E hC.1), safeNew E hC.1 hF A'.lt⟩, N, e', fun t q => k t (st t (by subst hp; exact q))⟩, rfl, z2.1, E, ⟨cloneOf cl, A', q1, hSz, hN, H, F⟩, Ex⟩
theorem Wl.anewR {C : String} {index : Nat} {n : Int32} (G : Wl Z a0 own p l e R s m args below meth c code mx B EL h0 n0 ws sf h cells slots pc L (.int n :: S)) (pc' : Nat) (w1 : (Cond.classLink own index C).before a0 Z = true) (w2 : (Cond.arrayOver (.object C)).before a0 Z = true) (hd : decode code pc = .ok (.anewarray index, 3)) (hn : ¬ n < 0) (cap : Nat) (hcap : n.toNatClampNeg ≤ cap) (hb8 : cap * 8 ≤ 536870912) (hp : pc + 3 = pc') (hc : cells + 1 ≤ R.cells) (hl : slots + cap ≤ R.slots) : ∃ (a : Addr) (h' : Heap) (k : ClassId), Wl Z a0 own p l e R s m args below meth c code mx B EL h0 n0 ws (a :: sf) h' (cells + 1) (slots + cap) pc' L (.ref a :: S) ∧ a = h.size ∧ h0.size ≤ a ∧ Ext h h' ∧ Arv Z h' a k (.object C) n [] .null ∧ Ovr Z k C := by
  obtain ⟨⟨hx, hby, hml, hEW⟩, ⟨o1, z2, z3, z1, es⟩, v0, k0, T, locs, X, ⟨hS, hk, hZ, hown⟩, ⟨hC, hF⟩, N, eT, k⟩ := G
  obtain ⟨T', h', cA, X', e', E, A, O, st⟩ := newR (s := s.setVm v0) X hx hZ hown w1 w2 eT (g := mkF m pc L (.int n :: S)) rfl (hb hby hd) rfl hn hcap hb8 hc hl
  exact ⟨h.size, h', cA, ⟨⟨hx, hby, hml, hEW⟩, ⟨o1.ext E, z2.ext E, z3, z1, es⟩, v0, k0, T', _, X', ⟨hS, Nat.le_trans hk E.1, hZ, hown⟩, ⟨hC.trans (CHr.ext E hC.1), safeNew E hC.1 hF A.lt⟩, N, e', fun t q => k t (st t (by subst hp; exact q))⟩, rfl, z2.1, E, Arv.new A hn, O⟩
theorem Wl.aaload {a : Addr} {k : ClassId} {z j : Int32} {C : String} {vs : List Value} {dv v : Value} (G : Wl Z a0 own p l e R s m args below meth c code mx B EL h0 n0 ws sf h cells slots pc L (.int j :: .ref a :: S)) (pc' : Nat) (A : Arv Z h a k (.object C) z vs dv) (hj : ¬ j < 0 ∧ j < z) (hv : vs.getD j.toNatClampNeg dv = v) (hd : decode code pc = .ok (.aaload, 1)) (hp : pc + 1 = pc') : Wl Z a0 own p l e R s m args below meth c code mx B EL h0 n0 ws sf h cells slots pc' L (v :: S) := by
  obtain ⟨⟨hx, hby, hml, hEW⟩, ⟨o1, z2, z3, z1, es⟩, v0, k0, T, locs, X, ⟨hS, hk, hZ, hown⟩, ⟨hC, hF⟩, N, eT, k⟩ := G
  obtain ⟨cl, Ar, -, hSz, hN, H, -⟩ := A
  refine ⟨⟨hx, hby, hml, hEW⟩, ⟨o1, z2, z3, z1, es⟩, v0, k0, T, locs, X, ⟨hS, hk, hZ, hown⟩, ⟨hC, hF⟩, N, eT, fun t q => k t ?_⟩
  have hin := inb_of hSz hj
  exact X.aaload hx (by rw [eT]; exact Ar.1) (State.isArrayOf_alike hZ.alike Ar.2.1) rfl Ar.2.2 hin (H.at hin hv) (g := mkF m pc L (.int j :: .ref a :: S)) rfl rfl (hb hby hd) t (by subst hp; exact q)
theorem Wl.aastore {a y : Addr} {k : ClassId} {z j : Int32} {C : String} {vs : List Value} {dv : Value} (G : Wl Z a0 own p l e R s m args below meth c code mx B EL h0 n0 ws sf h cells slots pc L (.ref y :: .int j :: .ref a :: S)) (pc' : Nat) (i : Nat) (A : Arv Z h a k (.object C) z vs dv) (O : Ovr Z k C) (I : Ins Z h y C true) (hj : ¬ j < 0 ∧ j < z) (hi : j.toNatClampNeg = i) (hl : i < vs.length) (q : NW h0 ws a) (qs : a ∈ sf) (hd : decode code pc = .ok (.aastore, 1)) (hp : pc + 1 = pc') : ∃ (h' : Heap), Wl Z a0 own p l e R s m args below meth c code mx B EL h0 n0 ws sf h' cells slots pc' L S ∧ Arv Z h' a k (.object C) z (vs.set i (.ref y)) dv ∧ Keep h h' [a] := by
  have qn := G.nw q
  obtain ⟨⟨hx, hby, hml, hEW⟩, ⟨o1, z2, z3, z1, es⟩, v0, k0, T, locs, X, ⟨hS, hk, hZ, hown⟩, ⟨hC, hF⟩, N, eT, k⟩ := G
  obtain ⟨cl, Ar, q1, hSz, hN, H, F⟩ := A
  obtain ⟨T', h', X', e', W', st⟩ := stR X hx hZ eT Ar (inb_of hSz hj) rfl (Sto.of Ar (q1 ▸ O) I) (g := mkF m pc L (.ref y :: .int j :: .ref a :: S)) rfl rfl (hb hby hd)
  exact ⟨h', ⟨⟨hx, hby, hml, hEW⟩, ⟨o1.wr W' qn, z2.wr W' q, z3, z1, es⟩, v0, k0, T', _, X', ⟨hS, (by rw [W'.size]; exact hk), hZ, hown⟩, ⟨hC.trans (CHr.wr W' (hF _ qs).2 hC.1), safeKeep (Keep.of_wr W') (fun x y => by cases List.mem_singleton.mp y; exact (hF _ qs).2) hC.1 hF⟩, Fr.snoc X' N qn, e', fun t q => k t (st t (by subst hp; exact q))⟩, Arv.set Ar q1 hSz hN H F rfl W' i hi hl, Keep.of_wr W'⟩
theorem Wl.initO {a : Addr} {idx : Nat} (G : Wl Z a0 own p l e R s m args below meth c code mx B EL h0 n0 ws sf h cells slots pc L (.ref a :: S)) (pc' : Nat) (w1 : (Cond.methodLink own idx Lib.objectInit).before a0 Z = true) (w2 : (Cond.instanceMethod Lib.objectInit).before a0 Z = true) (w3 : (Cond.code Lib.objectInit ⟨#[0xb1]⟩ 1 none).before a0 Z = true) (hd : decode code pc = .ok (.invokespecial idx, 3)) (hz : L.size = mx) (hf : 1 ≤ R.frames) (hl : (S.map fun v => v.category).sum + 12 ≤ R.locals) (hp : pc + 3 = pc') : Wl Z a0 own p l e R s m args below meth c code mx B EL h0 n0 ws sf h cells slots pc' L S := by
  obtain ⟨⟨hx, hby, hml, hEW⟩, ⟨o1, z2, z3, z1, es⟩, v0, k0, T, locs, X, ⟨hS, hk, hZ, hown⟩, ⟨hC, hF⟩, N, eT, k⟩ := G
  obtain ⟨T', X', e', st⟩ := Jvm.RoadKit.initO X hx hZ hown w1 w2 w3 eT (g := mkF m pc L (.ref a :: S)) rfl (hz.trans hml.symm) rfl (hb hby hd) hf (W := (S.map fun v => v.category).sum) (by show 2 * 0 + _ ≤ _; omega) hl
  exact ⟨⟨hx, hby, hml, hEW⟩, ⟨o1, z2, z3, z1, es⟩, v0, k0, T', _, X', ⟨hS, hk, hZ, hown⟩, ⟨hC, hF⟩, N, e', fun t q => k t (st t (by subst hp; exact q))⟩
theorem Wl.ldcI {index : Nat} {v : Int32} (G : Wl Z a0 own p l e R s m args below meth c code mx B EL h0 n0 ws sf h cells slots pc L S) (pc' : Nat) (w : (Cond.constant own index v).before a0 Z = true) (hd : decode code pc = .ok (.ldc index, 2)) (hp : pc + 2 = pc') : Wl Z a0 own p l e R s m args below meth c code mx B EL h0 n0 ws sf h cells slots pc' L (.int v :: S) := by
  obtain ⟨⟨hx, hby, hml, hEW⟩, ⟨o1, z2, z3, z1, es⟩, v0, k0, T, locs, X, ⟨hS, hk, hZ, hown⟩, ⟨hC, hF⟩, N, eT, k⟩ := G
  exact ⟨⟨hx, hby, hml, hEW⟩, ⟨o1, z2, z3, z1, es⟩, v0, k0, T, locs, X, ⟨hS, hk, hZ, hown⟩, ⟨hC, hF⟩, N, eT, fun t q => k t (X.ldcInt hx hown (mvT hZ w) (g := mkF m pc L S) rfl (hb hby hd) t (by subst hp; exact q))⟩
theorem Wl.ldcWI {index : Nat} {v : Int32} (G : Wl Z a0 own p l e R s m args below meth c code mx B EL h0 n0 ws sf h cells slots pc L S) (pc' : Nat) (w : (Cond.constant own index v).before a0 Z = true) (hd : decode code pc = .ok (.ldc_w index, 3)) (hp : pc + 3 = pc') : Wl Z a0 own p l e R s m args below meth c code mx B EL h0 n0 ws sf h cells slots pc' L (.int v :: S) := by
  obtain ⟨⟨hx, hby, hml, hEW⟩, ⟨o1, z2, z3, z1, es⟩, v0, k0, T, locs, X, ⟨hS, hk, hZ, hown⟩, ⟨hC, hF⟩, N, eT, k⟩ := G
  exact ⟨⟨hx, hby, hml, hEW⟩, ⟨o1, z2, z3, z1, es⟩, v0, k0, T, locs, X, ⟨hS, hk, hZ, hown⟩, ⟨hC, hF⟩, N, eT, fun t q => k t (X.ldcWInt hx hown (mvT hZ w) (g := mkF m pc L S) rfl (hb hby hd) t (by subst hp; exact q))⟩
theorem Wl.ldc2J {index : Nat} {v : Int64} (G : Wl Z a0 own p l e R s m args below meth c code mx B EL h0 n0 ws sf h cells slots pc L S) (pc' : Nat) (w : (Cond.constantLong own index v).before a0 Z = true) (hd : decode code pc = .ok (.ldc2_w index, 3)) (hp : pc + 3 = pc') : Wl Z a0 own p l e R s m args below meth c code mx B EL h0 n0 ws sf h cells slots pc' L (.long v :: S) := by
  obtain ⟨⟨hx, hby, hml, hEW⟩, ⟨o1, z2, z3, z1, es⟩, v0, k0, T, locs, X, ⟨hS, hk, hZ, hown⟩, ⟨hC, hF⟩, N, eT, k⟩ := G
  exact ⟨⟨hx, hby, hml, hEW⟩, ⟨o1, z2, z3, z1, es⟩, v0, k0, T, locs, X, ⟨hS, hk, hZ, hown⟩, ⟨hC, hF⟩, N, eT, fun t q => k t (X.ldc2Long hx hown (mvT hZ w) (g := mkF m pc L S) rfl (hb hby hd) t (by subst hp; exact q))⟩
/-- a body's contract: from the heap h0 with the arguments as', it returns; only what is new since n0 was written; h0 stands but for ws; String constants stay whole; sf: what must be no constant's cell; Q's list: what else is none -/
def Con (Z : State) (a0 : Array Value) (l : Launch) (y : MethodName) (bytes : ByteArray) (maxL : Nat) (ret : Option FieldType) (rm : Room) (tws : List Jvm.Cond) (as' : Array Value) (EL : List (String × Nat)) (h0 : Heap) (n0 : Nat) (ws sf : List Addr) (Q : Option Value → Heap → List Addr → Prop) : Prop :=
  MetFree l y (head1 (Cond.code y bytes maxL ret :: tws) rm) (fun a U => a = as' ∧ Z.Warmed39 U.vm ∧ U.heap = h0 ∧ CHv Z EL U.vm h0 ∧ ∀ x ∈ sf, x < h0.size ∧ Safe Z EL U.vm h0 x) (fun _ _ _ _ _ => True) (fun _ U o U' => ∃ v LL, o = .returned v ∧ (∃ so, Fr n0 LL ∧ Keep h0 U'.heap ws ∧ Q v U'.heap so ∧ CHr Z EL U.vm U.heap U'.vm U'.heap ∧ ∀ x ∈ so, x < U'.heap.size ∧ Safe Z EL U'.vm U'.heap x) ∧ ReturnedEndW U o U' LL rm.cells rm.slots)
def VV (Q : Value → Heap → List Addr → Prop) : Option Value → Heap → List Addr → Prop := fun v h so => ∃ w, v = some w ∧ Q w h so
def V0 (Q : Heap → List Addr → Prop) : Option Value → Heap → List Addr → Prop := fun v h so => v = none ∧ Q h so
/-- the walk's end -/
def Fin (Z : State) (EL : List (String × Nat)) (p : Program) (e : Env) (below : List Frame) (B s : State) (h0 : Heap) (n0 : Nat) (ws : List Addr) (k n : Nat) (Q : Option Value → Heap → List Addr → Prop) : Prop :=
  ∃ s₂ o, Steps p.tables e below B s₂ ∧ s₂.status = .running ∧ Ended s₂ below o ∧ ∃ v LL, o = .returned v ∧ (∃ so, Fr n0 LL ∧ Keep h0 s₂.heap ws ∧ Q v s₂.heap so ∧ CHr Z EL s.vm s.heap s₂.vm s₂.heap ∧ ∀ x ∈ so, x < s₂.heap.size ∧ Safe Z EL s₂.vm s₂.heap x) ∧ ReturnedEndW s o s₂ LL k n
theorem Con.body {tws : List Jvm.Cond} {y : MethodName} {bytes : ByteArray} {maxL : Nat} {ret : Option FieldType} {rm : Room} {as' : Array Value} {Q : Option Value → Heap → List Addr → Prop} (hpl : plainFor y = true) (hEW : EW Z a0 EL) (o1 : Old Z n0 h0) (z3 : ∀ x ∈ ws, n0 ≤ x) (L0 : Array Slot) (hef : ∀ m, entryFrame m as' maxL = mkF m 0 L0 [])
    (body : ∀ (p : Program) (e : Env) (s : State) (m : MethodId) (below : List Frame) (meth : Method) (c : Code) (B : State), meth.name = y.name → meth.sig.returnType = ret → meth.locks = false → Wl Z a0 y.cls p l e rm s m as' below meth c bytes maxL B EL h0 n0 ws sf h0 0 0 0 L0 [] → Fin Z EL p e below B s h0 n0 ws rm.cells rm.slots Q) : Con Z a0 l y bytes maxL ret rm tws as' EL h0 n0 ws sf Q := by
  refine MetFree.of_bodySF hpl hisR ?_
  intro p e s m args below meth c s₁ Bd hml hP hK
  obtain ⟨rfl, hZ, hh, hC, hF⟩ := hP
  refine body p e s m below meth c _ (name_of_methodNamed Bd.named Bd.method).1 Bd.returns Bd.notSynchronized ⟨⟨Bd.exec, Bd.bytes, hml, hEW⟩, ⟨o1, Keep.refl _ _, z3, by rw [← o1.1]; exact o1.2.1, hh⟩, s.vm, 0, s₁, [], Stand.of_body Bd, ⟨(State.WarmedH.refl s).since 0, Nat.zero_le _, hZ, findClass_of_methodNamed Bd.named⟩, ⟨CHr.refl hC, hF⟩, Fr.nil n0, by rw [← hh, Bd.state]; rfl, fun t q => ?_⟩
  rw [hef m]; exact q
theorem Wl.retV  {Q : Option Value → Heap → List Addr → Prop} {kk nn : Nat} (G : Wl Z a0 own p l e R s m args below meth c code mx B EL h0 n0 ws sf h cells slots pc L ([])) (hret : meth.sig.returnType = none) (hlk : meth.locks = false) (hd : decode code pc = .ok (.return_, 1)) (so : List Addr) (hso : ∀ x ∈ so, x ∈ sf) (hQ : Q (none) h so) (hc : cells ≤ kk) (hs : slots ≤ nn) : Fin Z EL p e below B s h0 n0 ws kk nn Q := by
  obtain ⟨⟨hx, hby, hml, hEW⟩, ⟨o1, z2, z3, z1, es⟩, v0, k0, T, locs, X, ⟨hS, hk, hZ, hown⟩, ⟨hC, hF⟩, N, eT, k⟩ := G
  obtain ⟨fs, hr, hrun, hended, hW⟩ := X.leaveW hS (by rw [eT]; exact hk) (v := none) (fun _ => rfl) hlk
  have hCT := CHv.at X hZ hEW hC.1
  refine ⟨_, _, k _ ?_, hrun, hended, _, _, rfl, ⟨so, N, ?_, ?_, ?_, ?_⟩, hW.1, hW.2.1, hW.2.2.1, hW.2.2.2.mono hc hs⟩
  · exact X.returnOut hx hret (hb hby hd) hr
  · show Keep h0 T.heap ws
    rw [eT]; exact z2
  · show Q _ T.heap so
    rw [eT]; exact hQ
  · show CHr Z EL s.vm s.heap T.vm T.heap
    rw [eT, es]
    exact hC.trans hCT
  · intro x hx
    show x < T.heap.size ∧ Safe Z EL T.vm T.heap x
    rw [eT]; exact ⟨(hF x (hso x hx)).1, hCT.safe (hF x (hso x hx)).1 (hF x (hso x hx)).2⟩
theorem Wl.retI {z : Int32} {Q : Option Value → Heap → List Addr → Prop} {kk nn : Nat} (G : Wl Z a0 own p l e R s m args below meth c code mx B EL h0 n0 ws sf h cells slots pc L (.int z :: S)) (hret : meth.sig.returnType = some .int) (hlk : meth.locks = false) (hd : decode code pc = .ok (.ireturn, 1)) (so : List Addr) (hso : ∀ x ∈ so, x ∈ sf) (hQ : Q (some (.int z)) h so) (hc : cells ≤ kk) (hs : slots ≤ nn) : Fin Z EL p e below B s h0 n0 ws kk nn Q := by
  obtain ⟨⟨hx, hby, hml, hEW⟩, ⟨o1, z2, z3, z1, es⟩, v0, k0, T, locs, X, ⟨hS, hk, hZ, hown⟩, ⟨hC, hF⟩, N, eT, k⟩ := G
  obtain ⟨fs, hr, hrun, hended, hW⟩ := X.leaveW hS (by rw [eT]; exact hk) (v := some (.int z)) (fun h => by rw [hret] at h; cases h) hlk
  have hCT := CHv.at X hZ hEW hC.1
  refine ⟨_, _, k _ ?_, hrun, hended, _, _, rfl, ⟨so, N, ?_, ?_, ?_, ?_⟩, hW.1, hW.2.1, hW.2.2.1, hW.2.2.2.mono hc hs⟩
  · exact retOut X hx hret rfl (Or.inl ⟨rfl, Or.inl rfl, _, rfl⟩) (hb hby hd) hr
  · show Keep h0 T.heap ws
    rw [eT]; exact z2
  · show Q _ T.heap so
    rw [eT]; exact hQ
  · show CHr Z EL s.vm s.heap T.vm T.heap
    rw [eT, es]
    exact hC.trans hCT
  · intro x hx
    show x < T.heap.size ∧ Safe Z EL T.vm T.heap x
    rw [eT]; exact ⟨(hF x (hso x hx)).1, hCT.safe (hF x (hso x hx)).1 (hF x (hso x hx)).2⟩
theorem Wl.retN {z : Int32} {t : FieldType} {Q : Option Value → Heap → List Addr → Prop} {kk nn : Nat} (G : Wl Z a0 own p l e R s m args below meth c code mx B EL h0 n0 ws sf h cells slots pc L (.int z :: S)) (hret : meth.sig.returnType = some t) (ht : t = .boolean ∨ t = .byte ∨ t = .char ∨ t = .short) (hlk : meth.locks = false) (hd : decode code pc = .ok (.ireturn, 1)) (so : List Addr) (hso : ∀ x ∈ so, x ∈ sf) (hQ : Q (some (.int (nar t z))) h so) (hc : cells ≤ kk) (hs : slots ≤ nn) : Fin Z EL p e below B s h0 n0 ws kk nn Q := by
  obtain ⟨⟨hx, hby, hml, hEW⟩, ⟨o1, z2, z3, z1, es⟩, v0, k0, T, locs, X, ⟨hS, hk, hZ, hown⟩, ⟨hC, hF⟩, N, eT, k⟩ := G
  obtain ⟨fs, hr, hrun, hended, hW⟩ := X.leaveW hS (by rw [eT]; exact hk) (v := some (.int (nar t z))) (fun h => by rw [hret] at h; cases h) hlk
  have hCT := CHv.at X hZ hEW hC.1
  refine ⟨_, _, k _ ?_, hrun, hended, _, _, rfl, ⟨so, N, ?_, ?_, ?_, ?_⟩, hW.1, hW.2.1, hW.2.2.1, hW.2.2.2.mono hc hs⟩
  · exact Jvm.RoadKit.retN X hx hret ht (hb hby hd) hr
  · show Keep h0 T.heap ws
    rw [eT]; exact z2
  · show Q _ T.heap so
    rw [eT]; exact hQ
  · show CHr Z EL s.vm s.heap T.vm T.heap
    rw [eT, es]
    exact hC.trans hCT
  · intro x hx
    show x < T.heap.size ∧ Safe Z EL T.vm T.heap x
    rw [eT]; exact ⟨(hF x (hso x hx)).1, hCT.safe (hF x (hso x hx)).1 (hF x (hso x hx)).2⟩
theorem Wl.retL {z : Int64} {Q : Option Value → Heap → List Addr → Prop} {kk nn : Nat} (G : Wl Z a0 own p l e R s m args below meth c code mx B EL h0 n0 ws sf h cells slots pc L (.long z :: S)) (hret : meth.sig.returnType = some .long) (hlk : meth.locks = false) (hd : decode code pc = .ok (.lreturn, 1)) (so : List Addr) (hso : ∀ x ∈ so, x ∈ sf) (hQ : Q (some (.long z)) h so) (hc : cells ≤ kk) (hs : slots ≤ nn) : Fin Z EL p e below B s h0 n0 ws kk nn Q := by
  obtain ⟨⟨hx, hby, hml, hEW⟩, ⟨o1, z2, z3, z1, es⟩, v0, k0, T, locs, X, ⟨hS, hk, hZ, hown⟩, ⟨hC, hF⟩, N, eT, k⟩ := G
  obtain ⟨fs, hr, hrun, hended, hW⟩ := X.leaveW hS (by rw [eT]; exact hk) (v := some (.long z)) (fun h => by rw [hret] at h; cases h) hlk
  have hCT := CHv.at X hZ hEW hC.1
  refine ⟨_, _, k _ ?_, hrun, hended, _, _, rfl, ⟨so, N, ?_, ?_, ?_, ?_⟩, hW.1, hW.2.1, hW.2.2.1, hW.2.2.2.mono hc hs⟩
  · exact retOut X hx hret rfl (Or.inr (Or.inl ⟨rfl, rfl, _, rfl⟩)) (hb hby hd) hr
  · show Keep h0 T.heap ws
    rw [eT]; exact z2
  · show Q _ T.heap so
    rw [eT]; exact hQ
  · show CHr Z EL s.vm s.heap T.vm T.heap
    rw [eT, es]
    exact hC.trans hCT
  · intro x hx
    show x < T.heap.size ∧ Safe Z EL T.vm T.heap x
    rw [eT]; exact ⟨(hF x (hso x hx)).1, hCT.safe (hF x (hso x hx)).1 (hF x (hso x hx)).2⟩
theorem Wl.retA {w : Value} {t : FieldType} {Q : Option Value → Heap → List Addr → Prop} {kk nn : Nat} (G : Wl Z a0 own p l e R s m args below meth c code mx B EL h0 n0 ws sf h cells slots pc L (w :: S)) (hret : meth.sig.returnType = some t) (ht : t.isReference = true) (hw : w.isRef = true) (hlk : meth.locks = false) (hd : decode code pc = .ok (.areturn, 1)) (so : List Addr) (hso : ∀ x ∈ so, x ∈ sf) (hQ : Q (some w) h so) (hc : cells ≤ kk) (hs : slots ≤ nn) : Fin Z EL p e below B s h0 n0 ws kk nn Q := by
  obtain ⟨⟨hx, hby, hml, hEW⟩, ⟨o1, z2, z3, z1, es⟩, v0, k0, T, locs, X, ⟨hS, hk, hZ, hown⟩, ⟨hC, hF⟩, N, eT, k⟩ := G
  obtain ⟨fs, hr, hrun, hended, hW⟩ := X.leaveW hS (by rw [eT]; exact hk) (v := some w) (fun h => by rw [hret] at h; cases h) hlk
  have hCT := CHv.at X hZ hEW hC.1
  refine ⟨_, _, k _ ?_, hrun, hended, _, _, rfl, ⟨so, N, ?_, ?_, ?_, ?_⟩, hW.1, hW.2.1, hW.2.2.1, hW.2.2.2.mono hc hs⟩
  · exact retOut X hx hret (by cases t <;> first | rfl | simp [FieldType.isReference] at ht) (Or.inr (Or.inr (Or.inr (Or.inr ⟨rfl, ht, hw⟩)))) (hb hby hd) hr
  · show Keep h0 T.heap ws
    rw [eT]; exact z2
  · show Q _ T.heap so
    rw [eT]; exact hQ
  · show CHr Z EL s.vm s.heap T.vm T.heap
    rw [eT, es]
    exact hC.trans hCT
  · intro x hx
    show x < T.heap.size ∧ Safe Z EL T.vm T.heap x
    rw [eT]; exact ⟨(hF x (hso x hx)).1, hCT.safe (hF x (hso x hx)).1 (hF x (hso x hx)).2⟩
theorem backL {y : MethodName} {bytes : ByteArray} {maxL : Nat} {ret : Option FieldType} {rm : Room} {len W : Nat} {as' : Array Value} {v0 : Vm} {wsC sfC : List Addr} {Q : Option Value → Heap → List Addr → Prop}
    (hM : Con Z a0 l y bytes maxL ret rm [] as' EL h n0 wsC sfC Q) (hZ : Z.Warmed39 v0) (wc : (Cond.code y bytes maxL ret).before a0 Z = true) (wz : (Cond.initialized y.cls).before a0 Z = true) (hf : rm.frames + 1 ≤ R.frames) (hl : W + (maxL + 11) + rm.locals ≤ R.locals) (hEL : EW Z a0 EL) (H : CHv Z EL v0 h) (hF : ∀ x ∈ sfC, x < h.size ∧ Safe Z EL v0 h x) :
    BackS l R p e below (s.setVm v0) args y len W (fun A a => a = as' ∧ A.U.heap = h ∧ A.cells + rm.cells ≤ R.cells ∧ A.slots + rm.slots ≤ R.slots)
      (fun A _ v B => ∃ LL, (∃ so, Fr n0 LL ∧ Keep h B.U.heap wsC ∧ Q v B.U.heap so ∧ CHr Z EL v0 h B.U.vm B.U.heap ∧ ∀ x ∈ so, x < B.U.heap.size ∧ Safe Z EL B.U.vm B.U.heap x) ∧ B.locs = A.locs ++ LL ∧ B.cells = A.cells + rm.cells ∧ B.slots = A.slots + rm.slots) :=
  BackS.of_freeW (bytes := bytes) (maxL := maxL) (ret := ret) (E := fun _ first o t LL k n => k = rm.cells ∧ n = rm.slots ∧ ∃ v, o = .returned v ∧ ∃ so, Fr n0 LL ∧ Keep h t.heap wsC ∧ Q v t.heap so ∧ CHr Z EL first.vm first.heap t.vm t.heap ∧ ∀ x ∈ so, x < t.heap.size ∧ Safe Z EL t.vm t.heap x) hM hf hl
    (fun m meth c A a Y hp => have hU : Z.Warmed39 A.U.vm := wtrans (s := s.setVm v0) hZ Y.warmed
      ⟨by show (Cond.and _ .tt).before a A.U = true; rw [Cond.before_and, mv hU wc]; rfl, mv hU wc, mv hU wz, hp.2.2.1, hp.2.2.2⟩)
    (fun m meth c A a g mk Y hp => ⟨hp.1, wtrans (s := s.setVm v0) hZ Y.warmed, hp.2.1, (CHv.at Y hZ hEL H).1, fun x hx => ⟨(hF x hx).1, (CHv.at Y hZ hEL H).safe (hF x hx).1 (hF x hx).2⟩⟩) (fun _ _ _ _ _ _ _ _ _ => trivial)
    (fun _ _ _ _ ⟨v, LL, h1, h2, h3⟩ => ⟨LL, _, _, h3, rfl, rfl, v, h1, h2⟩)
    (fun m meth c A a g mk v t LL k n Y hp _ _ ⟨e1, e2, v', e3, so, q1, q2, q3, q4, q5⟩ => by
      cases e3; subst e1 e2
      refine ⟨LL, ⟨so, q1, q2, q3, (CHv.at Y hZ hEL H).trans ?_, q5⟩, rfl, rfl, rfl⟩
      rw [← hp.2.1]; exact q4)
theorem Wl.callS {index : Nat} {y : MethodName} {bytes : ByteArray} {maxL : Nat} {ret : Option FieldType} {rm : Room} {wsC sfC : List Addr} {St : List Value} {Q : Option Value → Heap → List Addr → Prop} (G : Wl Z a0 own p l e R s m args below meth c code mx B EL h0 n0 ws sf h cells slots pc L (St)) (pc' : Nat) (w1 : (Cond.methodLink own index y).before a0 Z = true) (w2 : (Cond.static y).before a0 Z = true) (wz : (Cond.initialized y.cls).before a0 Z = true) (wc : (Cond.code y bytes maxL ret).before a0 Z = true) (hy : y.cls ≠ "java/lang/invoke/MethodHandle" ∧ y.cls ≠ "java/lang/invoke/VarHandle") (argsL rest : List Value) (hst : St = argsL.reverse ++ rest) (hM : Con Z a0 l y bytes maxL ret rm [] argsL.toArray EL h n0 wsC sfC Q) (hlen : ∀ sig, parseMethodDescriptor y.desc = some sig → argsL.length = sig.parameters.length) (hd : decode code pc = .ok (.invokestatic index, 3)) (hz : L.size = mx) (hf : rm.frames + 1 ≤ R.frames) (hl : (rest.map fun v => v.category).sum + (maxL + 11) + rm.locals ≤ R.locals) (hc : cells + rm.cells ≤ R.cells) (hs : slots + rm.slots ≤ R.slots) (hws : ∀ x ∈ wsC, NW h0 ws x) (hsf : ∀ x ∈ sfC, x ∈ sf) (hwf : ∀ x ∈ wsC, x ∈ sf) (hp : pc + 3 = pc') :
    ∃ (v : Option Value) (h' : Heap) (so : List Addr), Wl Z a0 own p l e R s m args below meth c code mx B EL h0 n0 ws (so ++ sf) h' (cells + rm.cells) (slots + rm.slots) pc' L (v.toList ++ rest) ∧ Keep h h' wsC ∧ Q v h' so := by
  have nw := fun x (q : NW h0 ws x) => G.nw q
  obtain ⟨⟨hx, hby, hml, hEW⟩, ⟨o1, z2, z3, z1, es⟩, v0, k0, T, locs, X, ⟨hS, hk, hZ, hown⟩, ⟨hC, hF⟩, N, eT, k⟩ := G
  subst hst
  obtain ⟨v, _, ⟨T', L', k', n'⟩, -, X', hS', g', ⟨Lc, ⟨so, N', K', hQ, C', F'⟩, l', y', z'⟩, st⟩ := callSS X hx (y := y) hown (mvT (s := s.setVm v0) hZ w1) (mvT (s := s.setVm v0) hZ w2) (mvT (s := s.setVm v0) hZ wz) (mvT (s := s.setVm v0) hZ wc) hy (backL (s := s) (W := (rest.map fun v => v.category).sum) hM hZ wc wz hf hl hEW hC.1 (fun x hx => hF x (hsf x hx))) (g := mkF m pc L (argsL.reverse ++ rest)) rfl (hz.trans hml.symm) (argsL := argsL) (rest := rest) hlen rfl (by show 2 * 0 + _ ≤ _; omega) (hb hby hd) (fun _ _ => ⟨rfl, eT, hc, hs⟩)
  dsimp only [Pt.U, Pt.locs, Pt.cells, Pt.slots] at X' hS' g' l' y' z' st N' K' hQ C' F'
  subst l' y' z'
  obtain ⟨X2, hS2, hZ2, hown2⟩ := rebS (s := s) hS (by rw [← eT] at hk; exact hk) X' hS' g' hZ hown
  exact ⟨v, T'.heap, so, ⟨⟨hx, hby, hml, hEW⟩, ⟨o1.keep K' (fun x q => nw x (hws x q)), z2.trans K' hws, z3, z1, es⟩, T'.vm, _, T', _, X2, ⟨hS2, Nat.le_refl _, hZ2, hown2⟩, ⟨hC.trans C', fun x q => (List.mem_append.mp q).elim (F' x) (fun r => ⟨Nat.lt_of_lt_of_le (hF x r).1 K'.1, C'.safe (hF x r).1 (hF x r).2⟩)⟩, N.app N', rfl, fun t q => k t (st.trans (by subst hp; exact q))⟩, K', hQ⟩
theorem Wl.callI {index : Nat} {y : MethodName} {bytes : ByteArray} {maxL : Nat} {ret : Option FieldType} {rm : Room} {wsC sfC : List Addr} {St : List Value} {a : Addr} {Q : Option Value → Heap → List Addr → Prop} (G : Wl Z a0 own p l e R s m args below meth c code mx B EL h0 n0 ws sf h cells slots pc L (St)) (pc' : Nat) (hr : ret = none) (hy1 : y.name = "<init>") (w1 : (Cond.methodLink own index y).before a0 Z = true) (w2 : (Cond.instanceMethod y).before a0 Z = true) (wz : (Cond.initialized y.cls).before a0 Z = true) (wc : (Cond.code y bytes maxL ret).before a0 Z = true) (hy : y.cls ≠ "java/lang/invoke/MethodHandle" ∧ y.cls ≠ "java/lang/invoke/VarHandle") (argsL rest : List Value) (hst : St = argsL.reverse ++ .ref a :: rest) (hM : Con Z a0 l y bytes maxL ret rm [] (.ref a :: argsL).toArray EL h n0 wsC sfC Q) (hlen : ∀ sig, parseMethodDescriptor y.desc = some sig → argsL.length = sig.parameters.length) (hd : decode code pc = .ok (.invokespecial index, 3)) (hz : L.size = mx) (hf : rm.frames + 1 ≤ R.frames) (hl : (rest.map fun v => v.category).sum + (maxL + 11) + rm.locals ≤ R.locals) (hc : cells + rm.cells ≤ R.cells) (hs : slots + rm.slots ≤ R.slots) (hws : ∀ x ∈ wsC, NW h0 ws x) (hsf : ∀ x ∈ sfC, x ∈ sf) (hwf : ∀ x ∈ wsC, x ∈ sf) (hp : pc + 3 = pc') :
    ∃ (v : Option Value) (h' : Heap) (so : List Addr), Wl Z a0 own p l e R s m args below meth c code mx B EL h0 n0 ws (so ++ sf) h' (cells + rm.cells) (slots + rm.slots) pc' L (v.toList ++ rest) ∧ Keep h h' wsC ∧ Q v h' so := by
  have nw := fun x (q : NW h0 ws x) => G.nw q
  obtain ⟨⟨hx, hby, hml, hEW⟩, ⟨o1, z2, z3, z1, es⟩, v0, k0, T, locs, X, ⟨hS, hk, hZ, hown⟩, ⟨hC, hF⟩, N, eT, k⟩ := G
  subst hst
  subst hr
  obtain ⟨v, _, ⟨T', L', k', n'⟩, -, X', hS', g', ⟨Lc, ⟨so, N', K', hQ, C', F'⟩, l', y', z'⟩, st⟩ := X.specialBackS hx (y := y) hy1 hown (mvT (s := s.setVm v0) hZ w1) (mvT (s := s.setVm v0) hZ w2) (mvT (s := s.setVm v0) hZ wc) hy (backL (s := s) (W := (rest.map fun v => v.category).sum) hM hZ wc wz hf hl hEW hC.1 (fun x hx => hF x (hsf x hx))) (g := mkF m pc L (argsL.reverse ++ .ref a :: rest)) rfl (hz.trans hml.symm) (Steps.refl _) (a := a) (argsL := argsL) (rest := rest) hlen rfl (by show 2 * 0 + _ ≤ _; omega) (hb hby hd) (fun _ _ => ⟨rfl, eT, hc, hs⟩)
  dsimp only [Pt.U, Pt.locs, Pt.cells, Pt.slots] at X' hS' g' l' y' z' st N' K' hQ C' F'
  subst l' y' z'
  obtain ⟨X2, hS2, hZ2, hown2⟩ := rebS (s := s) hS (by rw [← eT] at hk; exact hk) X' hS' g' hZ hown
  exact ⟨v, T'.heap, so, ⟨⟨hx, hby, hml, hEW⟩, ⟨o1.keep K' (fun x q => nw x (hws x q)), z2.trans K' hws, z3, z1, es⟩, T'.vm, _, T', _, X2, ⟨hS2, Nat.le_refl _, hZ2, hown2⟩, ⟨hC.trans C', fun x q => (List.mem_append.mp q).elim (F' x) (fun r => ⟨Nat.lt_of_lt_of_le (hF x r).1 K'.1, C'.safe (hF x r).1 (hF x r).2⟩)⟩, N.app N', rfl, fun t q => k t (st.trans (by subst hp; exact q))⟩, K', hQ⟩
theorem Wl.callV {index : Nat} {y : MethodName} {bytes : ByteArray} {maxL : Nat} {ret : Option FieldType} {rm : Room} {wsC sfC : List Addr} {St : List Value} {a : Addr} {C : String} {zz : MethodName} {Q : Option Value → Heap → List Addr → Prop} (G : Wl Z a0 own p l e R s m args below meth c code mx B EL h0 n0 ws sf h cells slots pc L (St)) (pc' : Nat) (w1 : (Cond.methodLink own index y).before a0 Z = true) (w2 : (Cond.declares y).before a0 Z = true) (hnf : ∀ s' : State, Z.Warmed39 s'.vm → NotFace s' y) (w3 : (Cond.selects C y zz).before a0 Z = true) (w4 : (Cond.instanceMethod zz).before a0 Z = true) (wz : (Cond.initialized zz.cls).before a0 Z = true) (wc : (Cond.code zz bytes maxL ret).before a0 Z = true) (Ex : Exa Z h a C) (hy : y.cls ≠ "java/lang/invoke/MethodHandle" ∧ y.cls ≠ "java/lang/invoke/VarHandle") (argsL rest : List Value) (hst : St = argsL.reverse ++ .ref a :: rest) (hM : Con Z a0 l zz bytes maxL ret rm [] (.ref a :: argsL).toArray EL h n0 wsC sfC Q) (hlen : ∀ sig, parseMethodDescriptor y.desc = some sig → argsL.length = sig.parameters.length) (hd : decode code pc = .ok (.invokevirtual index, 3)) (hz : L.size = mx) (hf : rm.frames + 1 ≤ R.frames) (hl : (rest.map fun v => v.category).sum + (maxL + 11) + rm.locals ≤ R.locals) (hc : cells + rm.cells ≤ R.cells) (hs : slots + rm.slots ≤ R.slots) (hws : ∀ x ∈ wsC, NW h0 ws x) (hsf : ∀ x ∈ sfC, x ∈ sf) (hwf : ∀ x ∈ wsC, x ∈ sf) (hp : pc + 3 = pc') :
    ∃ (v : Option Value) (h' : Heap) (so : List Addr), Wl Z a0 own p l e R s m args below meth c code mx B EL h0 n0 ws (so ++ sf) h' (cells + rm.cells) (slots + rm.slots) pc' L (v.toList ++ rest) ∧ Keep h h' wsC ∧ Q v h' so := by
  have nw := fun x (q : NW h0 ws x) => G.nw q
  obtain ⟨⟨hx, hby, hml, hEW⟩, ⟨o1, z2, z3, z1, es⟩, v0, k0, T, locs, X, ⟨hS, hk, hZ, hown⟩, ⟨hC, hF⟩, N, eT, k⟩ := G
  subst hst
  obtain ⟨cq, kq, q1, q2, q3⟩ := isOf (s := s.setVm v0) (T := T) hZ eT Ex
  obtain ⟨v, _, ⟨T', L', k', n'⟩, -, X', hS', g', ⟨Lc, ⟨so, N', K', hQ, C', F'⟩, l', y', z'⟩, st⟩ := X.virtualBackS hx (y := y) (z := zz) hown (mvT (s := s.setVm v0) hZ w1) (mvT (s := s.setVm v0) hZ w2) (hnf (s.setVm v0) hZ) (mvT (s := s.setVm v0) hZ w3) (mvT (s := s.setVm v0) hZ w4) hy (backL (s := s) (W := (rest.map fun v => v.category).sum) hM hZ wc wz hf hl hEW hC.1 (fun x hx => hF x (hsf x hx))) q1 q3 (g := mkF m pc L (argsL.reverse ++ .ref a :: rest)) rfl (hz.trans hml.symm) (Steps.refl _) (argsL := argsL) (rest := rest) hlen rfl (by show 2 * 0 + _ ≤ _; omega) (hb hby hd) (fun _ _ => ⟨rfl, eT, hc, hs⟩)
  dsimp only [Pt.U, Pt.locs, Pt.cells, Pt.slots] at X' hS' g' l' y' z' st N' K' hQ C' F'
  subst l' y' z'
  obtain ⟨X2, hS2, hZ2, hown2⟩ := rebS (s := s) hS (by rw [← eT] at hk; exact hk) X' hS' g' hZ hown
  exact ⟨v, T'.heap, so, ⟨⟨hx, hby, hml, hEW⟩, ⟨o1.keep K' (fun x q => nw x (hws x q)), z2.trans K' hws, z3, z1, es⟩, T'.vm, _, T', _, X2, ⟨hS2, Nat.le_refl _, hZ2, hown2⟩, ⟨hC.trans C', fun x q => (List.mem_append.mp q).elim (F' x) (fun r => ⟨Nat.lt_of_lt_of_le (hF x r).1 K'.1, C'.safe (hF x r).1 (hF x r).2⟩)⟩, N.app N', rfl, fun t q => k t (st.trans (by subst hp; exact q))⟩, K', hQ⟩
theorem Wl.callU {index : Nat} {y : MethodName} {bytes : ByteArray} {maxL : Nat} {ret : Option FieldType} {rm : Room} {wsC sfC : List Addr} {St : List Value} {a : Addr} {C owner : String} {zz : MethodName} {Q : Option Value → Heap → List Addr → Prop} (G : Wl Z a0 own p l e R s m args below meth c code mx B EL h0 n0 ws sf h cells slots pc L (St)) (pc' : Nat) (w1 : (Cond.methodLink own index y).before a0 Z = true) (w2 : (Cond.sameMethod y.cls owner y.name y.desc).before a0 Z = true) (w5 : (Cond.declares ⟨owner, y.name, y.desc⟩).before a0 Z = true) (w3 : (Cond.selects C y zz).before a0 Z = true) (w4 : (Cond.instanceMethod zz).before a0 Z = true) (wz : (Cond.initialized zz.cls).before a0 Z = true) (wc : (Cond.code zz bytes maxL ret).before a0 Z = true) (Ex : Exa Z h a C) (hy : owner ≠ "java/lang/invoke/MethodHandle" ∧ owner ≠ "java/lang/invoke/VarHandle") (argsL rest : List Value) (hst : St = argsL.reverse ++ .ref a :: rest) (hM : Con Z a0 l zz bytes maxL ret rm [] (.ref a :: argsL).toArray EL h n0 wsC sfC Q) (hlen : ∀ sig, parseMethodDescriptor y.desc = some sig → argsL.length = sig.parameters.length) (hd : decode code pc = .ok (.invokevirtual index, 3)) (hz : L.size = mx) (hf : rm.frames + 1 ≤ R.frames) (hl : (rest.map fun v => v.category).sum + (maxL + 11) + rm.locals ≤ R.locals) (hc : cells + rm.cells ≤ R.cells) (hs : slots + rm.slots ≤ R.slots) (hws : ∀ x ∈ wsC, NW h0 ws x) (hsf : ∀ x ∈ sfC, x ∈ sf) (hwf : ∀ x ∈ wsC, x ∈ sf) (hp : pc + 3 = pc') :
    ∃ (v : Option Value) (h' : Heap) (so : List Addr), Wl Z a0 own p l e R s m args below meth c code mx B EL h0 n0 ws (so ++ sf) h' (cells + rm.cells) (slots + rm.slots) pc' L (v.toList ++ rest) ∧ Keep h h' wsC ∧ Q v h' so := by
  have nw := fun x (q : NW h0 ws x) => G.nw q
  obtain ⟨⟨hx, hby, hml, hEW⟩, ⟨o1, z2, z3, z1, es⟩, v0, k0, T, locs, X, ⟨hS, hk, hZ, hown⟩, ⟨hC, hF⟩, N, eT, k⟩ := G
  subst hst
  obtain ⟨cq, kq, q1, q2, q3⟩ := isOf (s := s.setVm v0) (T := T) hZ eT Ex
  obtain ⟨v, _, ⟨T', L', k', n'⟩, -, X', hS', g', ⟨Lc, ⟨so, N', K', hQ, C', F'⟩, l', y', z'⟩, st⟩ := X.virtualBackUpS hx (x := y) (y := zz) hown (mvT (s := s.setVm v0) hZ w1) (mvT (s := s.setVm v0) hZ w2) (mvT (s := s.setVm v0) hZ w5) hy (mvT (s := s.setVm v0) hZ w3) (mvT (s := s.setVm v0) hZ w4) (backL (s := s) (W := (rest.map fun v => v.category).sum) hM hZ wc wz hf hl hEW hC.1 (fun x hx => hF x (hsf x hx))) q1 q3 (g := mkF m pc L (argsL.reverse ++ .ref a :: rest)) rfl (hz.trans hml.symm) (Steps.refl _) (argsL := argsL) (rest := rest) hlen rfl (by show 2 * 0 + _ ≤ _; omega) (hb hby hd) (fun _ _ => ⟨rfl, eT, hc, hs⟩)
  dsimp only [Pt.U, Pt.locs, Pt.cells, Pt.slots] at X' hS' g' l' y' z' st N' K' hQ C' F'
  subst l' y' z'
  obtain ⟨X2, hS2, hZ2, hown2⟩ := rebS (s := s) hS (by rw [← eT] at hk; exact hk) X' hS' g' hZ hown
  exact ⟨v, T'.heap, so, ⟨⟨hx, hby, hml, hEW⟩, ⟨o1.keep K' (fun x q => nw x (hws x q)), z2.trans K' hws, z3, z1, es⟩, T'.vm, _, T', _, X2, ⟨hS2, Nat.le_refl _, hZ2, hown2⟩, ⟨hC.trans C', fun x q => (List.mem_append.mp q).elim (F' x) (fun r => ⟨Nat.lt_of_lt_of_le (hF x r).1 K'.1, C'.safe (hF x r).1 (hF x r).2⟩)⟩, N.app N', rfl, fun t q => k t (st.trans (by subst hp; exact q))⟩, K', hQ⟩
theorem Wl.callF {index : Nat} {y : MethodName} {bytes : ByteArray} {maxL : Nat} {ret : Option FieldType} {rm : Room} {wsC sfC : List Addr} {St : List Value} {a : Addr} {C : String} {count : Nat} {zz : MethodName} {Q : Option Value → Heap → List Addr → Prop} (G : Wl Z a0 own p l e R s m args below meth c code mx B EL h0 n0 ws sf h cells slots pc L (St)) (pc' : Nat) (w1 : (Cond.methodLink own index y).before a0 Z = true) (w2 : (Cond.declares y).before a0 Z = true) (w5 : (Cond.interfaceMethod y.cls y.cls y.name y.desc).before a0 Z = true) (k5 : ((Cond.interfaceMethod y.cls y.cls y.name y.desc).onTables && (Cond.interfaceMethod y.cls y.cls y.name y.desc).keepsFace) = true) (w3 : (Cond.selects C y zz).before a0 Z = true) (w4 : (Cond.instanceMethod zz).before a0 Z = true) (w6 : (Cond.publicMethod zz).before a0 Z = true) (w7 : (Cond.unhidden C y.name y.desc).before a0 Z = true) (w8 : (Cond.castable C y.cls).before a0 Z = true) (wz : (Cond.initialized zz.cls).before a0 Z = true) (wc : (Cond.code zz bytes maxL ret).before a0 Z = true) (Ex : Exa Z h a C) (hy : y.cls ≠ "java/lang/invoke/MethodHandle" ∧ y.cls ≠ "java/lang/invoke/VarHandle") (argsL rest : List Value) (hst : St = argsL.reverse ++ .ref a :: rest) (hM : Con Z a0 l zz bytes maxL ret rm [] (.ref a :: argsL).toArray EL h n0 wsC sfC Q) (hlen : ∀ sig, parseMethodDescriptor y.desc = some sig → argsL.length = sig.parameters.length) (hd : decode code pc = .ok (.invokeinterface index count, 5)) (hz : L.size = mx) (hf : rm.frames + 1 ≤ R.frames) (hl : (rest.map fun v => v.category).sum + (maxL + 11) + rm.locals ≤ R.locals) (hc : cells + rm.cells ≤ R.cells) (hs : slots + rm.slots ≤ R.slots) (hws : ∀ x ∈ wsC, NW h0 ws x) (hsf : ∀ x ∈ sfC, x ∈ sf) (hwf : ∀ x ∈ wsC, x ∈ sf) (hp : pc + 5 = pc') :
    ∃ (v : Option Value) (h' : Heap) (so : List Addr), Wl Z a0 own p l e R s m args below meth c code mx B EL h0 n0 ws (so ++ sf) h' (cells + rm.cells) (slots + rm.slots) pc' L (v.toList ++ rest) ∧ Keep h h' wsC ∧ Q v h' so := by
  have nw := fun x (q : NW h0 ws x) => G.nw q
  obtain ⟨⟨hx, hby, hml, hEW⟩, ⟨o1, z2, z3, z1, es⟩, v0, k0, T, locs, X, ⟨hS, hk, hZ, hown⟩, ⟨hC, hF⟩, N, eT, k⟩ := G
  subst hst
  obtain ⟨cq, kq, q1, q2, q3⟩ := isOf (s := s.setVm v0) (T := T) hZ eT Ex
  obtain ⟨v, _, ⟨T', L', k', n'⟩, -, X', hS', g', ⟨Lc, ⟨so, N', K', hQ, C', F'⟩, l', y', z'⟩, st⟩ := X.interfaceBackS hx (xi := y) (y := zz) hown (mvT (s := s.setVm v0) hZ w1) (mvT (s := s.setVm v0) hZ w2) (mvT (s := s.setVm v0) hZ w5 k5) (mvT (s := s.setVm v0) hZ w3) (mvT (s := s.setVm v0) hZ w4) (mvT (s := s.setVm v0) hZ w6) (mvT (s := s.setVm v0) hZ w7) (mvT (s := s.setVm v0) hZ w8) hy (backL (s := s) (W := (rest.map fun v => v.category).sum) hM hZ wc wz hf hl hEW hC.1 (fun x hx => hF x (hsf x hx))) q1 q2 q3 (g := mkF m pc L (argsL.reverse ++ .ref a :: rest)) rfl (hz.trans hml.symm) (Steps.refl _) (argsL := argsL) (rest := rest) hlen rfl (by show 2 * 0 + _ ≤ _; omega) (hb hby hd) (fun _ _ => ⟨rfl, eT, hc, hs⟩)
  dsimp only [Pt.U, Pt.locs, Pt.cells, Pt.slots] at X' hS' g' l' y' z' st N' K' hQ C' F'
  subst l' y' z'
  obtain ⟨X2, hS2, hZ2, hown2⟩ := rebS (s := s) hS (by rw [← eT] at hk; exact hk) X' hS' g' hZ hown
  exact ⟨v, T'.heap, so, ⟨⟨hx, hby, hml, hEW⟩, ⟨o1.keep K' (fun x q => nw x (hws x q)), z2.trans K' hws, z3, z1, es⟩, T'.vm, _, T', _, X2, ⟨hS2, Nat.le_refl _, hZ2, hown2⟩, ⟨hC.trans C', fun x q => (List.mem_append.mp q).elim (F' x) (fun r => ⟨Nat.lt_of_lt_of_le (hF x r).1 K'.1, C'.safe (hF x r).1 (hF x r).2⟩)⟩, N.app N', rfl, fun t q => k t (st.trans (by subst hp; exact q))⟩, K', hQ⟩
theorem Wl.callSup {index : Nat} {y : MethodName} {bytes : ByteArray} {maxL : Nat} {ret : Option FieldType} {rm : Room} {wsC sfC : List Addr} {St : List Value} {a : Addr} {K : String} {Q : Option Value → Heap → List Addr → Prop} (G : Wl Z a0 own p l e R s m args below meth c code mx B EL h0 n0 ws sf h cells slots pc L (St)) (pc' : Nat) (w1 : (Cond.methodLink own index y).before a0 Z = true) (w2 : (Cond.sameMethod y.cls y.cls y.name y.desc).before a0 Z = true) (w3 : (Cond.instanceMethod y).before a0 Z = true) (w4 : (Cond.superclass own y.cls).before a0 Z = true) (hn : y.name ≠ "<init>") (wz : (Cond.initialized y.cls).before a0 Z = true) (wc : (Cond.code y bytes maxL ret).before a0 Z = true) (Ex : Ins Z h a K true) (argsL rest : List Value) (hst : St = argsL.reverse ++ .ref a :: rest) (hM : Con Z a0 l y bytes maxL ret rm [] (.ref a :: argsL).toArray EL h n0 wsC sfC Q) (hlen : ∀ sig, parseMethodDescriptor y.desc = some sig → argsL.length = sig.parameters.length) (hd : decode code pc = .ok (.invokespecial index, 3)) (hz : L.size = mx) (hf : rm.frames + 1 ≤ R.frames) (hl : (rest.map fun v => v.category).sum + (maxL + 11) + rm.locals ≤ R.locals) (hc : cells + rm.cells ≤ R.cells) (hs : slots + rm.slots ≤ R.slots) (hws : ∀ x ∈ wsC, NW h0 ws x) (hsf : ∀ x ∈ sfC, x ∈ sf) (hwf : ∀ x ∈ wsC, x ∈ sf) (hp : pc + 3 = pc') :
    ∃ (v : Option Value) (h' : Heap) (so : List Addr), Wl Z a0 own p l e R s m args below meth c code mx B EL h0 n0 ws (so ++ sf) h' (cells + rm.cells) (slots + rm.slots) pc' L (v.toList ++ rest) ∧ Keep h h' wsC ∧ Q v h' so := by
  have nw := fun x (q : NW h0 ws x) => G.nw q
  obtain ⟨⟨hx, hby, hml, hEW⟩, ⟨o1, z2, z3, z1, es⟩, v0, k0, T, locs, X, ⟨hS, hk, hZ, hown⟩, ⟨hC, hF⟩, N, eT, k⟩ := G
  subst hst
  obtain ⟨v, _, ⟨T', L', k', n'⟩, -, X', hS', g', ⟨Lc, ⟨so, N', K', hQ, C', F'⟩, l', y', z'⟩, st⟩ := superBackS (s := s.setVm v0) X hx hZ (y := y) hown w1 w2 w3 w4 hn (backL (s := s) (W := (rest.map fun v => v.category).sum) hM hZ wc wz hf hl hEW hC.1 (fun x hx => hF x (hsf x hx))) eT Ex (g := mkF m pc L (argsL.reverse ++ .ref a :: rest)) rfl (hz.trans hml.symm) wc (argsL := argsL) (rest := rest) hlen rfl (by show 2 * 0 + _ ≤ _; omega) (hb hby hd) (fun _ _ => ⟨rfl, eT, hc, hs⟩)
  dsimp only [Pt.U, Pt.locs, Pt.cells, Pt.slots] at X' hS' g' l' y' z' st N' K' hQ C' F'
  subst l' y' z'
  obtain ⟨X2, hS2, hZ2, hown2⟩ := rebS (s := s) hS (by rw [← eT] at hk; exact hk) X' hS' g' hZ hown
  exact ⟨v, T'.heap, so, ⟨⟨hx, hby, hml, hEW⟩, ⟨o1.keep K' (fun x q => nw x (hws x q)), z2.trans K' hws, z3, z1, es⟩, T'.vm, _, T', _, X2, ⟨hS2, Nat.le_refl _, hZ2, hown2⟩, ⟨hC.trans C', fun x q => (List.mem_append.mp q).elim (F' x) (fun r => ⟨Nat.lt_of_lt_of_le (hF x r).1 K'.1, C'.safe (hF x r).1 (hF x r).2⟩)⟩, N.app N', rfl, fun t q => k t (st.trans (by subst hp; exact q))⟩, K', hQ⟩
theorem nfSel {C : String} {y : MethodName} (w3 : (Cond.selects C y y).before a0 Z = true) : ∀ s' : State, Z.Warmed39 s'.vm → NotFace s' y := fun s' hZ => notFace_of_selects (args := #[]) (mvT hZ w3)
theorem Wl.val {v : Option Value} {w : Value} {rest : List Value} (G : Wl Z a0 own p l e R s m args below meth c code mx B EL h0 n0 ws sf h cells slots pc L (v.toList ++ rest)) (q : v = some w) : Wl Z a0 own p l e R s m args below meth c code mx B EL h0 n0 ws sf h cells slots pc L (w :: rest) := by subst q; exact G
theorem Wl.nov {v : Option Value} {rest : List Value} (G : Wl Z a0 own p l e R s m args below meth c code mx B EL h0 n0 ws sf h cells slots pc L (v.toList ++ rest)) (q : v = none) : Wl Z a0 own p l e R s m args below meth c code mx B EL h0 n0 ws sf h cells slots pc L (rest) := by subst q; exact G
theorem Wl.callP {index : Nat} {y : MethodName} {bytes : ByteArray} {maxL : Nat} {ret : Option FieldType} {rm : Room} {wsC sfC : List Addr} {St : List Value} {a : Addr} {C : String} {Q : Option Value → Heap → List Addr → Prop} (G : Wl Z a0 own p l e R s m args below meth c code mx B EL h0 n0 ws sf h cells slots pc L (St)) (pc' : Nat) (w1 : (Cond.methodLink own index y).before a0 Z = true) (w2 : (Cond.instanceMethod y).before a0 Z = true) (w3 : (Cond.selects y.cls y y).before a0 Z = true) (w4 : (Cond.privateMethod y).before a0 Z = true) (wz : (Cond.initialized y.cls).before a0 Z = true) (wc : (Cond.code y bytes maxL ret).before a0 Z = true) (Ex : Exa Z h a C) (hy : y.cls ≠ "java/lang/invoke/MethodHandle" ∧ y.cls ≠ "java/lang/invoke/VarHandle") (argsL rest : List Value) (hst : St = argsL.reverse ++ .ref a :: rest) (hM : Con Z a0 l y bytes maxL ret rm [] (.ref a :: argsL).toArray EL h n0 wsC sfC Q) (hlen : ∀ sig, parseMethodDescriptor y.desc = some sig → argsL.length = sig.parameters.length) (hd : decode code pc = .ok (.invokevirtual index, 3)) (hz : L.size = mx) (hf : rm.frames + 1 ≤ R.frames) (hl : (rest.map fun v => v.category).sum + (maxL + 11) + rm.locals ≤ R.locals) (hc : cells + rm.cells ≤ R.cells) (hs : slots + rm.slots ≤ R.slots) (hws : ∀ x ∈ wsC, NW h0 ws x) (hsf : ∀ x ∈ sfC, x ∈ sf) (hwf : ∀ x ∈ wsC, x ∈ sf) (hp : pc + 3 = pc') :
    ∃ (v : Option Value) (h' : Heap) (so : List Addr), Wl Z a0 own p l e R s m args below meth c code mx B EL h0 n0 ws (so ++ sf) h' (cells + rm.cells) (slots + rm.slots) pc' L (v.toList ++ rest) ∧ Keep h h' wsC ∧ Q v h' so := by
  have nw := fun x (q : NW h0 ws x) => G.nw q
  obtain ⟨⟨hx, hby, hml, hEW⟩, ⟨o1, z2, z3, z1, es⟩, v0, k0, T, locs, X, ⟨hS, hk, hZ, hown⟩, ⟨hC, hF⟩, N, eT, k⟩ := G
  subst hst
  obtain ⟨cellq, kq, q1, -, -, q4, -⟩ := Ex
  obtain ⟨v, _, ⟨T', L', k', n'⟩, -, X', hS', g', ⟨Lc, ⟨so, N', K', hQ, C', F'⟩, l', y', z'⟩, st⟩ := X.privateBackS hx (y := y) hown (mvT (s := s.setVm v0) hZ w1) (mvT (s := s.setVm v0) hZ w2) (mvT (s := s.setVm v0) hZ w3) (Cond.privateMethod_at (args := args) (mvP (s := s.setVm v0) hZ w4)) (mvT (s := s.setVm v0) hZ wc) hy (backL (s := s) (W := (rest.map fun v => v.category).sum) hM hZ wc wz hf hl hEW hC.1 (fun x hx => hF x (hsf x hx))) (g := mkF m pc L (argsL.reverse ++ .ref a :: rest)) rfl (hz.trans hml.symm) (Steps.refl _) (by rw [eT]; exact q1) (fun q r => by rw [r] at q4; cases q4) (argsL := argsL) (rest := rest) hlen rfl (by show 2 * 0 + _ ≤ _; omega) (hb hby hd) (fun _ _ => ⟨rfl, eT, hc, hs⟩)
  dsimp only [Pt.U, Pt.locs, Pt.cells, Pt.slots] at X' hS' g' l' y' z' st N' K' hQ C' F'
  subst l' y' z'
  obtain ⟨X2, hS2, hZ2, hown2⟩ := rebS (s := s) hS (by rw [← eT] at hk; exact hk) X' hS' g' hZ hown
  exact ⟨v, T'.heap, so, ⟨⟨hx, hby, hml, hEW⟩, ⟨o1.keep K' (fun x q => nw x (hws x q)), z2.trans K' hws, z3, z1, es⟩, T'.vm, _, T', _, X2, ⟨hS2, Nat.le_refl _, hZ2, hown2⟩, ⟨hC.trans C', fun x q => (List.mem_append.mp q).elim (F' x) (fun r => ⟨Nat.lt_of_lt_of_le (hF x r).1 K'.1, C'.safe (hF x r).1 (hF x r).2⟩)⟩, N.app N', rfl, fun t q => k t (st.trans (by subst hp; exact q))⟩, K', hQ⟩
theorem declOf {y : MethodName} {bytes : ByteArray} {maxL : Nat} {ret : Option FieldType} (w2 : (Cond.instanceMethod y).before a0 Z = true) (wc : (Cond.code y bytes maxL ret).before a0 Z = true) : (Cond.declares y).before a0 Z = true := by
  obtain ⟨mk, methM, hnamed, hmethM, hstM, -⟩ := Cond.instanceMethod_spec w2
  obtain ⟨methM', cM, hmethM', -, -, -, -, -, -, hsigM⟩ := Cond.code_spec hnamed wc
  cases hmethM.symm.trans hmethM'
  simp [Cond.before, Cond.holds, Cond.value, hnamed, hmethM, hstM, hsigM]
theorem nfVia {C : String} {y y' : MethodName} (hc : y'.cls = y.cls) (w3 : (Cond.selects C y y).before a0 Z = true) (w4 : (Cond.instanceMethod y).before a0 Z = true) : ∀ s' : State, Z.Warmed39 s'.vm → NotFace s' y' := fun s' hZ r0 h0 => by
  obtain ⟨mk, methM, hnamed, -⟩ := Cond.instanceMethod_spec (mv (args := #[]) hZ w4)
  obtain ⟨kr, h1, h2⟩ := notFace_of_selects (args := #[]) (mvT hZ w3) mk hnamed
  have e1 := findClass_of_methodNamed hnamed
  have e2 := findClass_of_methodNamed h0
  rw [hc] at e2
  have e3 := Option.some.inj (e1.symm.trans e2)
  exact ⟨kr, by rw [← e3]; exact h1, h2⟩
theorem sameOf {y : MethodName} (w2 : (Cond.instanceMethod y).before a0 Z = true) (nf : ∀ s' : State, Z.Warmed39 s'.vm → NotFace s' y) (hy : y.cls ≠ "java/lang/invoke/MethodHandle" ∧ y.cls ≠ "java/lang/invoke/VarHandle") : (Cond.sameMethod y.cls y.cls y.name y.desc).before a0 Z = true := by
  obtain ⟨mk, methM, hnamed, -⟩ := Cond.instanceMethod_spec w2
  obtain ⟨kr, h1, h2⟩ := nf Z (State.Warmed39.refl Z) mk hnamed
  have e1 := findClass_of_methodNamed hnamed
  have e2 := State.methodFound?_of_named hnamed hy
  have e3 : Z.methodNamed? ⟨y.cls, y.name, y.desc⟩ = some mk := hnamed
  simp [Cond.before, Cond.holds, Cond.value, e1, e2, e3, h1, h2]
theorem Wl.ccast {K : String} {index : Nat} {a : Addr} (G : Wl Z a0 own p l e R s m args below meth c code mx B EL h0 n0 ws sf h cells slots pc L (.ref a :: S)) (pc' : Nat) (w : (Cond.classLink own index K).before a0 Z = true) (F : Ins Z h a K true) (hd : decode code pc = .ok (.checkcast index, 3)) (hp : pc + 3 = pc') : Wl Z a0 own p l e R s m args below meth c code mx B EL h0 n0 ws sf h cells slots pc' L (.ref a :: S) := by
  obtain ⟨⟨hx, hby, hml, hEW⟩, ⟨o1, z2, z3, z1, es⟩, v0, k0, T, locs, X, ⟨hS, hk, hZ, hown⟩, ⟨hC, hF⟩, N, eT, k⟩ := G
  obtain ⟨T', X', e', st⟩ := castY (s := s.setVm v0) X hx hZ hown w eT F (g := mkF m pc L (.ref a :: S)) rfl rfl (hb hby hd)
  exact ⟨⟨hx, hby, hml, hEW⟩, ⟨o1, z2, z3, z1, es⟩, v0, k0, T', _, X', ⟨hS, hk, hZ, hown⟩, ⟨hC, hF⟩, N, e', fun t q => k t (st t (by subst hp; exact q))⟩
theorem Wl.instY {K : String} {index : Nat} {a : Addr} (G : Wl Z a0 own p l e R s m args below meth c code mx B EL h0 n0 ws sf h cells slots pc L (.ref a :: S)) (pc' : Nat) (w : (Cond.classLink own index K).before a0 Z = true) (F : Ins Z h a K true) (hd : decode code pc = .ok (.instanceof index, 3)) (hp : pc + 3 = pc') : Wl Z a0 own p l e R s m args below meth c code mx B EL h0 n0 ws sf h cells slots pc' L (.int 1 :: S) := by
  obtain ⟨⟨hx, hby, hml, hEW⟩, ⟨o1, z2, z3, z1, es⟩, v0, k0, T, locs, X, ⟨hS, hk, hZ, hown⟩, ⟨hC, hF⟩, N, eT, k⟩ := G
  obtain ⟨T', X', e', st⟩ := Jvm.RoadKit.instY (s := s.setVm v0) X hx hZ hown w eT F (g := mkF m pc L (.ref a :: S)) rfl rfl (hb hby hd)
  exact ⟨⟨hx, hby, hml, hEW⟩, ⟨o1, z2, z3, z1, es⟩, v0, k0, T', _, X', ⟨hS, hk, hZ, hown⟩, ⟨hC, hF⟩, N, e', fun t q => k t (st t (by subst hp; exact q))⟩
theorem Wl.cpy {index : Nat} {a b : Addr} {k k' : ClassId} {ty : FieldType} {z z' sp dp nn : Int32} {vs vd : List Value} {dv dd : Value} (G : Wl Z a0 own p l e R s m args below meth c code mx B EL h0 n0 ws sf h cells slots pc L (.int nn :: .int dp :: .ref b :: .int sp :: .ref a :: S)) (pc' : Nat) (w1 : (Cond.methodLink own index Jvm.Stand.acN).before a0 Z = true) (w2 : (Cond.native Jvm.Stand.acN).before a0 Z = true) (w3 : (Cond.static Jvm.Stand.acN).before a0 Z = true) (w4 : (Cond.initialized "java/lang/System").before a0 Z = true) (A : Arv Z h a k ty z vs dv) (B' : Arv Z h b k' ty z' vd dd) (hr : refKind ty = false) (h1 : ¬ sp < 0) (h2 : ¬ dp < 0) (h3 : ¬ nn < 0) (h4 : sp.toNatClampNeg + nn.toNatClampNeg ≤ z.toNatClampNeg) (h5 : dp.toNatClampNeg + nn.toNatClampNeg ≤ z'.toNatClampNeg) (hl : dp.toNatClampNeg + nn.toNatClampNeg ≤ vd.length) (q : NW h0 ws b) (qs : b ∈ sf) (hd : decode code pc = .ok (.invokestatic index, 3)) (hz : L.size = mx) (hf : 1 ≤ R.frames) (hlo : (S.map fun v => v.category).sum + (nativeFrameWords "java/lang/System" "arraycopy" 5 + 11) ≤ R.locals) (hp : pc + 3 = pc') : ∃ (h' : Heap), Wl Z a0 own p l e R s m args below meth c code mx B EL h0 n0 ws sf h' cells slots pc' L S ∧ Arv Z h' b k' ty z' (vd.take dp.toNatClampNeg ++ ((List.range nn.toNatClampNeg).map fun i => vs.getD (sp.toNatClampNeg + i) dv) ++ vd.drop (dp.toNatClampNeg + nn.toNatClampNeg)) dd ∧ Keep h h' [b] := by
  have qn := G.nw q
  obtain ⟨⟨hx, hby, hml, hEW⟩, ⟨o1, z2, z3, z1, es⟩, v0, k0, T, locs, X, ⟨hS, hk, hZ, hown⟩, ⟨hC, hF⟩, N, eT, k⟩ := G
  obtain ⟨T', h', LL, X', e', N', K', A', st⟩ := cpA (s := s.setVm v0) X hx hZ hown w1 w2 w3 w4 eT A B' (Or.inl ⟨rfl, hr⟩) h1 h2 h3 h4 h5 rfl hl N qn (g := mkF m pc L (.int nn :: .int dp :: .ref b :: .int sp :: .ref a :: S)) rfl (hz.trans hml.symm) rfl (hb hby hd) hf (W := (S.map fun v => v.category).sum) (by show 2 * 0 + _ ≤ _; omega) hlo
  have hsb : ∀ x ∈ [b], Safe Z EL v0 h x := fun x y => by cases List.mem_singleton.mp y; exact (hF _ qs).2
  exact ⟨h', ⟨⟨hx, hby, hml, hEW⟩, ⟨o1.keep K' (allS qn all0), z2.trans K' (allS q all0), z3, z1, es⟩, v0, k0, T', _, X', ⟨hS, Nat.le_trans hk K'.1, hZ, hown⟩, ⟨hC.trans (CHr.keep K' hsb hC.1), safeKeep K' hsb hC.1 hF⟩, N', e', fun t q => k t (st t (by subst hp; exact q))⟩, A', K'⟩
theorem Wl.ldcS {index : Nat} {text : String} {vs : List Value} {z : Int32} (G : Wl Z a0 own p l e R s m args below meth c code mx B EL h0 n0 ws sf h cells slots pc L S) (pc' : Nat) (w : (Cond.stringLink own index text).before a0 Z = true) (wS : ∀ a ∈ Bundle.stringAtoms, a.before a0 Z = true) (hmem : (own, index) ∈ EL) (ht : (∀ c ∈ text.toList, c.toNat < 256) ∧ text.toList.map (fun c => Value.int (Jvm.Lit.byteI c.toNat.toUInt16)) = vs) (hz : ¬ z < 0) (hl : z.toNatClampNeg = vs.length) (hd : decode code pc = .ok (.ldc index, 2)) (n : Nat) (hn : 4 * text.toList.length ≤ n) (hbig : n ≤ 536870912) (hc : cells + 2 ≤ R.cells) (hl' : slots + (n + 4) ≤ R.slots) (hp : pc + 2 = pc') : ∃ (a b : Addr) (h' : Heap) (kk : ClassId), Wl Z a0 own p l e R s m args below meth c code mx B EL h0 n0 ws sf h' (cells + 2) (slots + (n + 4)) pc' L (.ref a :: S) ∧ Ext h h' ∧ Exa Z h' a "java/lang/String" ∧ Fld Z h' a "java/lang/String" "coder" "B" (.int 0) ∧ Fld Z h' a "java/lang/String" "value" "[B" (.ref b) ∧ Arv Z h' b kk .byte z vs (.int 0) ∧ ∀ x ∈ sf, x ≠ a ∧ x ≠ b := by
  obtain ⟨⟨hx, hby, hml, hEW⟩, ⟨o1, z2, z3, z1, es⟩, v0, k0, T, locs, X, ⟨hS, hk, hZ, hown⟩, ⟨hC, hF⟩, N, eT, k⟩ := G
  obtain ⟨a, T', h', k1, b, kk, X', e', E, hS', hk', hZ', hown', Ex, Fc, Fv, A, -, -, C', -, hne, st⟩ := ldcCH X hx hZ hown w wS eT hS hk hEW hmem hC.1 ht hz hl (g := mkF m pc L S) rfl (hb hby hd) hn hbig hc hl'
  have hF' : ∀ x ∈ sf, x < h'.size ∧ Safe Z EL T'.vm h' x := fun x q => ⟨Nat.lt_of_lt_of_le (hF x q).1 E.1, C'.safe (hF x q).1 (hF x q).2⟩
  exact ⟨a, b, h', kk, ⟨⟨hx, hby, hml, hEW⟩, ⟨o1.ext E, z2.ext E, z3, z1, es⟩, T'.vm, k1, T', _, X', ⟨hS', hk', hZ', hown'⟩, ⟨hC.trans C', hF'⟩, N, e', fun t q => k t (st t (by subst hp; exact q))⟩, E, Ex, Fc, Fv, A, fun x q => hne x (hF' x q).2⟩
end OwnL
end Jvm.OwnL
namespace Jvm.OwnX
open Sem ClassFile Op Lib Bundle Jvm.Stand Jvm.Free Jvm.LawKit Jvm.RoadKit Jvm.OwnL Jvm.Free.Exc
/-- the words on Throwable that the walk of fillInStackTrace() asks for, the fields laid in the class rc -/
def tw (rc : String) : List Jvm.Cond := [.initialized tN, .superclass tN "java/lang/Object", .instanceMethod tFill, .codeSync tFill LibCode.Throwable.Fill.code 1 (some (.object tN)), .instanceMethod tFill0, .native tFill0, .instanceMethod oInit, .code oInit ⟨#[0xb1]⟩ 1 none, .methodLink tN 1 oInit, .methodLink tN 27 tFill, .methodLink tN 202 tFill0, .fieldLink tN 7 tN "cause" thD, .lays rc tN "cause" thD, .fieldLink tN 17 tN "stackTrace" steD, .lays rc tN "stackTrace" steD, .fieldLink tN 24 tN "suppressedExceptions" listD, .lays rc tN "suppressedExceptions" listD, .fieldLink tN 13 tN "UNASSIGNED_STACK" steD, .laysStatic tN "UNASSIGNED_STACK" steD, .fieldLink tN 20 tN "SUPPRESSED_SENTINEL" listD, .laysStatic tN "SUPPRESSED_SENTINEL" listD, .lays rc tN "detailMessage" msgD, .declares tFill, .selects rc tFill0 tFill0, .selects rc tFill tFill, .fieldLink tN 198 tN "backtrace" obD, .lays rc tN "backtrace" obD, .arrayOver (.object "java/lang/Object"), .soleField tN "backtrace", .soleField tN "depth", .lays rc tN "depth" "I"]
theorem tw_ok {rc : String} : (tw rc).all xOk = true := rfl
theorem thC {args : Array Value} {s : State} {pl : Platform} {rc : String} (h1 : pl.frameOwnsMonitors = true) (h2 : pl.finalization = false) (hpl : pl.magicAccessors = ({} : Platform).magicAccessors) (w : ∀ d ∈ tw rc, d.before args s = true) :
    ∃ T : ThrowableC, T.Links pl s ∧ s.vm.findClass tN = some T.cT ∧ s.methodNamed? tFill = some T.fill ∧ s.methodNamed? tFill0 = some T.fill0 ∧ s.fieldFound? tN "stackTrace" steD = some (T.cT, T.kT, T.i17, T.fStack) ∧ (T.fStack.name = "stackTrace" ∧ T.fStack.type = .array (.object "java/lang/StackTraceElement")) ∧
      s.fieldFound? tN "UNASSIGNED_STACK" steD = some (T.cT, T.kT, T.i13, T.fUnassigned) ∧ ∃ iM, s.fieldFound? tN "detailMessage" msgD = some (T.cT, T.kT, iM, T.fMsg) ∧ T.fMsg.name = "detailMessage" := by
  have a : ∀ d, d ∈ tw rc → d.holds args s none s [] = true := fun d q => w d q
  obtain ⟨⟨ct, j0⟩, me0, y0, v0, z1, z2, z3, z4⟩ := Cond.native_spec (a _ (List.mem_of_getElem? (i := 5) rfl))
  have fT : s.vm.findClass tN = some ct := findClass_of_methodNamed y0
  obtain ⟨kt, gT, nT⟩ := Vm.findClass_spec fT
  obtain ⟨_, k1, _, _, e1, _, _, _, _, nI⟩ := Cond.superclass_spec fT (a _ (List.mem_of_getElem? (i := 1) rfl))
  cases gT.symm.trans e1
  obtain ⟨jF, mF, y1, v1, p1, p2, p3, -, -⟩ := Cond.ownMethod (x := tFill) fT gT (a _ (List.mem_of_getElem? (i := 2) rfl))
  obtain ⟨mF', cF, v1', f1, f2, f3, f4, f5, -, f6⟩ := Cond.codeSync_spec y1 (a _ (List.mem_of_getElem? (i := 3) rfl))
  cases v1.symm.trans v1'
  obtain ⟨j0', me0', y0', v0', r1, r2, r3, r4, r5⟩ := Cond.ownMethod (x := tFill0) fT gT (a _ (List.mem_of_getElem? (i := 4) rfl))
  cases y0.symm.trans y0'
  cases v0.symm.trans v0'
  obtain ⟨mO, meO, yO, vO, o1, o2⟩ := Cond.instanceMethod_spec (a _ (List.mem_of_getElem? (i := 6) rfl))
  obtain ⟨meO', cO, vO', c1, c2, c3, -, c4, -, c5⟩ := Cond.code_spec yO (a _ (List.mem_of_getElem? (i := 7) rfl))
  cases vO.symm.trans vO'
  obtain ⟨kO, gO, nO⟩ := Vm.findClass_spec (findClass_of_methodNamed yO)
  obtain ⟨q1, q2⟩ := name_of_methodNamed yO vO
  obtain ⟨ci1, n1, cf, l1, l2, l3, l4⟩ := Cond.linkedMethod fT gT yO (a _ (List.mem_of_getElem? (i := 8) rfl)) pl hpl
  obtain ⟨ci27, n27, cf2, l5, l6, l7, l8⟩ := Cond.linkedMethod fT gT y1 (a _ (List.mem_of_getElem? (i := 9) rfl)) pl hpl
  cases l3.symm.trans l7
  obtain ⟨ci202, n202, cf3, l9, l10, l11, l12⟩ := Cond.linkedMethod fT gT y0 (a _ (List.mem_of_getElem? (i := 10) rfl)) pl hpl
  cases l3.symm.trans l11
  obtain ⟨ci7, i7, fC, a1, a2, a3, a4, a5, -, -, -⟩ := Cond.ownField (t := .object tN) fT gT (by decide +kernel) (a _ (List.mem_of_getElem? (i := 11) rfl)) (a _ (List.mem_of_getElem? (i := 12) rfl)) pl hpl
  obtain ⟨ci17, i17, fS, b1, b2, b3, b4, b5, b6, b7, b8⟩ := Cond.ownField (t := .array (.object "java/lang/StackTraceElement")) fT gT (by decide +kernel) (a _ (List.mem_of_getElem? (i := 13) rfl)) (a _ (List.mem_of_getElem? (i := 14) rfl)) pl hpl
  obtain ⟨ci24, i24, fP, d1, d2, d3, d4, d5, d6, d7, d8⟩ := Cond.ownField (t := .object "java/util/List") fT gT (by decide +kernel) (a _ (List.mem_of_getElem? (i := 15) rfl)) (a _ (List.mem_of_getElem? (i := 16) rfl)) pl hpl
  obtain ⟨ci13, i13, fU, aS, cellS, u1, u2, u3, u4, -, -, u5, -, -, -, -, u6⟩ := Cond.ownStatic (t := .array (.object "java/lang/StackTraceElement")) fT gT (by decide +kernel) (a _ (List.mem_of_getElem? (i := 17) rfl)) (a _ (List.mem_of_getElem? (i := 18) rfl)) pl hpl
  obtain ⟨ci20, i20, fE, _, _, t1, t2, t3, t4, -, -, -, -, -, -, -, -⟩ := Cond.ownStatic (t := .object "java/util/List") fT gT (by decide +kernel) (a _ (List.mem_of_getElem? (i := 19) rfl)) (a _ (List.mem_of_getElem? (i := 20) rfl)) pl hpl
  obtain ⟨cR, kR, cM, kM, iM, fM, fR, gR, ffM, sM, nM, -⟩ := Cond.lays_spec (a _ (List.mem_of_getElem? (i := 21) rfl))
  cases fT.symm.trans (Cond.lays_declared (a _ (List.mem_of_getElem? (i := 21) rfl)) ffM)
  cases gT.symm.trans (State.fieldFound?_spec ffM).1
  have nm := (State.fieldFound?_type ffM (t := .object "java/lang/String") (by decide +kernel)).1
  obtain ⟨-, dS, s1, s2⟩ := Cond.laysAt fR gR b8 (a _ (List.mem_of_getElem? (i := 14) rfl))
  obtain ⟨-, dP, s3, s4⟩ := Cond.laysAt fR gR d8 (a _ (List.mem_of_getElem? (i := 16) rfl))
  have ap : fS.slot ≠ fP.slot := Cond.laysApart s1 s3 s2 s4 (by rw [b6, d6]; decide)
  have gF : mF.sig = ⟨[], some (.object tN)⟩ := Option.some.inj (f6.symm.trans (by decide +kernel))
  have g0 : me0.sig = ⟨[.int], some (.object tN)⟩ := Option.some.inj (z4.symm.trans (by decide +kernel))
  have gO' : meO.sig = ⟨[], none⟩ := Option.some.inj (c5.symm.trans (by decide +kernel))
  refine ⟨{ cT := ct, kT := kt, cO := ct, aS := aS, fillIdx := jF, fill0Idx := j0, initSIdx := jF, obj := mO, kObj := kO, methFill := mF, methFill0 := me0, methInitS := mF, methObj := meO, codeFill := cF, codeInitS := cF, codeObj := cO, fBack := fC, fDepth := fC, fStack := fS, fCause := fC, fSupp := fP, fMsg := fM, fUnassigned := fU, fSentinel := fE, cfT := cf, ci1 := ci1, n1 := n1, ci27 := ci27, n27 := n27, ci202 := ci202, n202 := n202, ci7 := ci7, i7 := i7, ci13 := ci13, i13 := i13, ci17 := ci17, i17 := i17, ci20 := ci20, i20 := i20, ci24 := ci24, i24 := i24 }, ?_, fT, y1, y0, b8, ⟨b6, b7⟩, u6, iM, ffM, nm⟩
  constructor
  case owns => exact h1
  case noFinalization => exact h2
  case cls => exact gT
  case name => exact nT
  case boot => exact Vm.findClass_boot fT gT
  case notInterface => exact nI
  case initialized => exact Cond.initialized_spec fT gT (a _ (List.mem_of_getElem? (i := 0) rfl))
  case statics => exact u5
  case fillParams => show mF.sig.parameters = []; rw [gF]
  case fill0Params => show me0.sig.parameters = [.int]; rw [g0]
  case objParams => show meO.sig.parameters.length = 0; rw [gO']; rfl
  case objFound => show lookupSpecial s.vm mO.cls "<init>" meO.desc = .method mO; rw [q2]; exact lookupSpecial_of_named yO vO o1
  case stackApartSupp => exact ap
  all_goals assumption
theorem same_fld {U U' : State} (al : U.vm.Alike U'.vm) {O n d : String} {c c' i i' : Nat} {k k' : Class} {f f' : Field} (q : U.fieldFound? O n d = some (c, k, i, f)) (r : U'.fieldFound? O n d = some (c', k', i', f')) : f = f' := by
  obtain ⟨_, _, _, q'⟩ := Jvm.Free.BdW.found_ride (U := U) (U' := U') al ⟨c, k, i, q⟩
  cases q'.symm.trans r; rfl
theorem allC0 {α : Type} {P : α → Prop} : ∀ x ∈ ([] : List α), P x := fun _ q => nomatch q
theorem allCS {α : Type} {P : α → Prop} {y : α} {L : List α} (q : P y) (r : ∀ x ∈ L, P x) : ∀ x ∈ y :: L, P x := fun x z => (List.mem_cons.mp z).elim (fun u => u ▸ q) (r x)
end Jvm.OwnX
namespace Jvm.OwnL
open Sem ClassFile Op Lib Bundle Jvm.Stand Jvm.Free Jvm.LawKit Jvm.RoadKit Jvm.OwnX Jvm.Free.Exc
section OwnX
variable {Z : State} {own : String} {p : Program} {l : Launch} {e : Env} {R : Room} {s : State} {m : MethodId} {args : Array Value} {below : List Frame} {meth : Method} {c : Code} {code : ByteArray} {mx : Nat} {B : State} {EL : List (String × Nat)} {h0 : Heap} {n0 : Nat} {ws sf : List Addr} {h h' : Heap} {cells slots pc : Nat} {L L' : Array Slot} {S : List Value} {a0 : Array Value}
theorem Wl.fill {rc : String} {a u : Addr} {nI : Nat} (G : Wl Z a0 tN p l e R s m args below meth c code mx B EL h0 n0 ws sf h cells slots pc L (.ref a :: S)) (pc' : Nat) (w : ∀ d ∈ tw rc, d.before a0 Z = true) (wi : (Cond.instantiable rc nI).before a0 Z = true) (o0 : Old Z n0 h0) (hTr : ∀ e : Env, l.admits e → e.platform.stackTraces = true) (hTK : s.vm.MethodsKnown) (hBl : s.vm.FramesKnown below)
    (Ex : Exa Z h a rc) (N : Unt h a) (Fb : Fld Z h a tN "backtrace" obD .null) (Fs : Fld Z h a tN "stackTrace" steD (.ref u)) (Fm : Fld Z h a tN "detailMessage" msgD .null) (Su : Sta Z h tN "UNASSIGNED_STACK" steD (.ref u)) (q : NW h0 ws a) (qs : a ∈ sf)
    (hd : decode code pc = .ok (.invokevirtual 27, 3)) (hz : L.size = mx) (hf : 3 ≤ R.frames) (hlo : (S.map fun v => v.category).sum + 42 ≤ R.locals) (hc : cells + 1 ≤ R.cells) (hl : slots + 2752 ≤ R.slots) (hp : pc + 3 = pc') :
    ∃ h' : Heap, Wl Z a0 tN p l e R s m args below meth c code mx B EL h0 n0 ws sf h' (cells + 1) (slots + 2752) pc' L (.ref a :: S) ∧ Keep h h' [a] ∧ Exa Z h' a rc ∧ Fld Z h' a tN "detailMessage" msgD .null := by
  have qn := G.nw q
  obtain ⟨⟨hx, hby, hml, hEW⟩, ⟨o1, z2, z3, z1, es⟩, v0, k0, T, locs, X, ⟨hS, hk, hZ, hown⟩, ⟨hC, hF⟩, NL, eT, k⟩ := G
  have al : Z.vm.Alike v0 := hZ.alike
  have hTh : ThS Z (s.setVm v0).heap := by show ThS Z s.heap; rw [es]; exact ThS.start.ext o0.2
  have W : ∀ d ∈ tw rc, d.before args (s.setVm v0) = true := fun d hd' => mvX hTh hZ (List.all_eq_true.mp tw_ok d hd') (w d hd')
  have hpl : e.platform.magicAccessors = ({} : Platform).magicAccessors := by rw [X.admits.platform]
  obtain ⟨T', LK, fT, nF, nF0, ffS, ⟨nS, tS⟩, ffU, iM, ffM, nM⟩ := thC (pl := e.platform) (by rw [X.admits.platform]) (by rw [X.admits.platform]) hpl W
  obtain ⟨cell, kX, x1, x2, x3, x4, x5⟩ := id Ex
  obtain ⟨c2, w1, w2, w3⟩ := N
  cases x1.symm.trans w1
  obtain ⟨c4, k4, i1, i2, i3, -⟩ := Cond.instantiable_spec wi
  cases x2.symm.trans i1
  cases x3.symm.trans i2
  obtain ⟨kY, g1, g2⟩ := al.2.2 _ _ x3
  have hfound : (s.setVm v0).vm.findClass rc = some cell.cls := by show v0.findClass rc = _; rw [al.findClass]; exact x2
  have hord : kY.kind = .ordinary := by rw [g2]; exact i3
  have hsz : cell.slots.size = kY.instanceTypes.size := by rw [g2]; exact x5 i3
  obtain ⟨_, _, _, _, fS, s1, s2, -, -, -, -, s7⟩ := Fs
  cases x1.symm.trans s1
  cases same_fld (U' := s.setVm v0) al s2 ffS
  obtain ⟨_, _, _, _, fB, b1, b2, -, -, -, -, b7⟩ := Fb
  cases x1.symm.trans b1
  obtain ⟨_, cfm, kfm, ifm, fM, m1, m2, m3, m4, m5, m6, m7⟩ := Fm
  cases x1.symm.trans m1
  cases same_fld (U' := s.setVm v0) al m2 ffM
  obtain ⟨cfu, iu, ku, fU, st, cellS, t1, t2, t3, t4, t5, t6, t7⟩ := Su
  obtain ⟨ku', g3, g4⟩ := State.fieldFound?_setVm (s := Z) al t1
  cases (show (s.setVm v0).fieldFound? tN "UNASSIGNED_STACK" steD = _ from g3).symm.trans ffU
  have hst : T'.aS = st := by
    have := LK.statics
    rw [g4] at this
    exact Option.some.inj (this.symm.trans t4)
  have hneS : T'.aS ≠ a := fun r => by
    rw [hst] at r; rw [r, x1] at t5; cases t5; rw [x4] at t6; cases t6
  have hkS : cellS.vm ≠ .unknown := fun r => by rw [r] at t6; cases t6
  obtain ⟨ci198, i198, fB', d1, d2, d3, d4, -, d6, d7, d8⟩ := Cond.ownField (C' := rc) (t := .object "java/lang/Object") fT LK.cls (by decide +kernel) (W _ (List.mem_of_getElem? (i := 25) rfl)) (W _ (List.mem_of_getElem? (i := 26) rfl)) e.platform hpl
  cases same_fld (U' := s.setVm v0) al b2 d8
  obtain ⟨_, _, cD, kD, iD, fD, -, -, ffD, sD, -, -, -, -⟩ := Cond.lays_spec (W _ (List.mem_of_getElem? (i := 30) rfl))
  cases fT.symm.trans (Cond.lays_declared (W _ (List.mem_of_getElem? (i := 30) rfl)) ffD)
  obtain ⟨e1, e2⟩ := State.fieldFound?_spec ffD
  cases LK.cls.symm.trans e1
  obtain ⟨nD, tD⟩ := State.fieldFound?_type ffD (t := .int) (by decide +kernel)
  have fb := Cond.soleField_find fT LK.cls (W _ (List.mem_of_getElem? (i := 28) rfl)) d3 d6 d4
  have fd := Cond.soleField_find fT LK.cls (W _ (List.mem_of_getElem? (i := 29) rfl)) e2 nD sD
  obtain ⟨comp, cO, kO, -, -, hkO, hkindO, hO⟩ := Cond.arrayOver_spec (W _ (List.mem_of_getElem? (i := 27) rfl))
  obtain ⟨tyS, dS, hS1, hS2⟩ := Cond.laysAt hfound g1 ffS (W _ (List.mem_of_getElem? (i := 14) rfl))
  obtain ⟨tyM, dM, hM1, hM2⟩ := Cond.laysAt hfound g1 ffM (W _ (List.mem_of_getElem? (i := 21) rfl))
  obtain ⟨tyB, dB, hB1, hB2⟩ := Cond.laysAt hfound g1 d8 (W _ (List.mem_of_getElem? (i := 26) rfl))
  obtain ⟨tyD, dD, hD1, hD2⟩ := Cond.laysAt hfound g1 ffD (W _ (List.mem_of_getElem? (i := 30) rfl))
  have mS := Cond.laysApart hM1 hS1 hM2 hS2 (by rw [nM, nS]; decide)
  have mB := Cond.laysApart hM1 hB1 hM2 hB2 (by rw [nM, d6]; decide)
  have mD := Cond.laysApart hM1 hD1 hM2 hD2 (by rw [nM, nD]; decide)
  have tk : ∀ {f : Field} {v : Value}, kY.instanceTypes[f.slot]? = some f.type → fits f.type v = true → Jvm.Takes (s.setVm v0) cell f v := fun {f v} r1 r2 => by
    obtain ⟨r3, r4⟩ := Takes.of_laid (s := s.setVm v0) (v := v) g1 hord r1 r2
    exact ⟨by rw [hsz]; simpa using r3, by rw [w2]; exact r4⟩
  have sel0 : selectMethod e.platform (s.setVm v0).vm cell.cls T'.fill0 = .method T'.fill0 := by
    obtain ⟨_, _, _, r1, r2, r3, r4, -⟩ := Cond.selects_spec (W _ (List.mem_of_getElem? (i := 23) rfl))
    cases r1.symm.trans hfound
    cases r2.symm.trans (State.methodFound?_of_named nF0 (by decide))
    cases r3.symm.trans nF0
    rw [Launch.admits_selectMethod X.admits]; exact r4
  have hSE := (W _ (List.mem_of_getElem? (i := 24) rfl))
  obtain ⟨v6, vm6, ⟨T6, L6, c6, n6⟩, hW6, X6, ⟨hv6, vm7, lines, hlines, hW7, hU, hL, hc6, hn6⟩, come⟩ := X.virtualBack hx (own := tN) (C := rc) (index := 27) (y := tFill) (z := tFill) hown (W _ (List.mem_of_getElem? (i := 9) rfl)) (W _ (List.mem_of_getElem? (i := 22) rfl)) (notFace_of_selects hSE) hSE (W _ (List.mem_of_getElem? (i := 2) rfl)) (by decide)
    (Jvm.Free.Str.fillPays (l := l) (W := (S.map fun v => v.category).sum) hx (hTr e X.admits) T' LK nF (u0 := ⟨.ref u, rfl⟩) (by simp) (self := a) (cell := cell) (cellS := cellS) (fun _ => by rw [w2]; simp) (by rw [w2]; simp) (by rw [w3]) (by rw [w3]) s7 sel0 hneS hkS t7 (tk tyS (by rw [tS]; rfl))
      ⟨{ ci198 := ci198, i198 := i198, fBack := fB }, ⟨d1, d2, d3, d4⟩, b7⟩ (Vm.MethodsKnown.alikeC hS.1.alike hTK) (Vm.FramesKnown.alikeC hS.1.alike hBl) fT hO hkO hkindO fb fd (fun y => tk tyB (by rw [d7]; rfl)) (fun n => tk tyD (by rw [tD]; rfl)) (by omega) hlo)
    (b := a) (cB := cell.cls) hfound ⟨cell, by rw [eT]; exact x1, rfl, by rw [w2]; rfl⟩ (g := mkF m pc L (.ref a :: S)) rfl (hz.trans hml.symm) (Steps.refl _) (argsL := []) (rest := S)
    (fun sig r => by rw [show parseMethodDescriptor tFill.desc = some ⟨[], some (.object tN)⟩ from by decide +kernel] at r; rw [← Option.some.inj r]; rfl) rfl (by show 2 * 0 + _ ≤ _; omega) (hb hby hd)
    (fun vmx hWx => ⟨rfl, hc, hl, by show T.heap[a]? = _; rw [eT]; exact x1, by show T.heap[T'.aS]? = _; rw [eT, hst]; exact t5⟩)
  dsimp only [Pt.U, Pt.locs, Pt.cells, Pt.slots] at X6 hU hL hc6 hn6 come
  subst hv6 hL hc6 hn6
  have hlt : a < h.size := (Array.getElem?_eq_some_iff.mp x1).1
  have hh : T6.heap = (h.push (traceHolder cO lines)).setIfInBounds a (Jvm.Free.Str.filledOn T'.toThrowableT fB fD cell ⟨.ref u, rfl⟩ h.size lines.length.toInt32) := by rw [hU, ← eT]; rfl
  have at_a : T6.heap[a]? = some (Jvm.Free.Str.filledOn T'.toThrowableT fB fD cell ⟨.ref u, rfl⟩ h.size lines.length.toInt32) := by rw [hh, Array.getElem?_setIfInBounds_self_of_lt]; rw [Array.size_push]; exact Nat.lt_succ_of_lt hlt
  have at_o : ∀ (y : Addr) (cy : Cell), h[y]? = some cy → y ≠ a → T6.heap[y]? = some cy := fun y cy r1 r2 => by
    rw [hh, Array.getElem?_setIfInBounds_ne (Ne.symm r2), Array.getElem?_push_lt (Array.getElem?_eq_some_iff.mp r1).1]
    exact congrArg some (Array.getElem?_eq_some_iff.mp r1).2
  have K' : Keep h T6.heap [a] := by
    refine ⟨by rw [hh]; simp, fun y cy r1 r2 => at_o y cy r1 (fun z => r2 (List.mem_singleton.mpr z)), fun y cy r1 => ?_⟩
    by_cases r2 : y = a
    · subst r2; cases x1.symm.trans r1; exact ⟨_, at_a, rfl, rfl, by simp [Jvm.Free.Str.filledOn, Cell.setSlot]⟩
    · exact ⟨cy, at_o y cy r1 r2, rfl, rfl, rfl⟩
  have hsb : ∀ x ∈ [a], Safe Z EL v0 h x := fun x y => by cases List.mem_singleton.mp y; exact (hF _ qs).2
  refine ⟨T6.heap, ⟨⟨hx, hby, hml, hEW⟩, ⟨o1.keep K' (allS qn all0), z2.trans K' (allS q all0), z3, z1, es⟩, v0, k0, T6, _, X6.more (Nat.le_refl _) (Nat.add_le_add_left (traceHolder_size_le cO hlines) _), ⟨hS, Nat.le_trans hk K'.1, hZ, hown⟩, ⟨hC.trans (CHr.keep K' hsb hC.1), safeKeep K' hsb hC.1 hF⟩, NL.app (fun y hy => ?_), rfl, fun t q => k t (come.trans (by subst hp; exact q))⟩, K', Ex.keep K', ?_⟩
  · simp only [List.mem_cons, List.not_mem_nil, or_false] at hy
    rcases hy with rfl | rfl | rfl <;> exact qn
  · refine ⟨_, cfm, kfm, ifm, _, at_a, m2, m3, m4, m5, m6, ?_⟩
    simpa [Jvm.Free.Str.filledOn, Cell.setSlot, Array.getElem?_setIfInBounds, mS, mB, mD, mS.symm, mB.symm, mD.symm] using m7
def Kn : Program → Env → List Frame → State → Array Value → Prop := fun _ _ below s _ => s.vm.MethodsKnown ∧ s.vm.FramesKnown below
/-- Con, where the tables' methods and the frames below are known -/
def ConK (Z : State) (a0 : Array Value) (l : Launch) (y : MethodName) (bytes : ByteArray) (maxL : Nat) (ret : Option FieldType) (rm : Room) (tws : List Jvm.Cond) (as' : Array Value) (EL : List (String × Nat)) (h0 : Heap) (n0 : Nat) (ws sf : List Addr) (Q : Option Value → Heap → List Addr → Prop) : Prop :=
  MetFree l y (head1 (Cond.code y bytes maxL ret :: tws) rm) (fun a U => a = as' ∧ Z.Warmed39 U.vm ∧ U.heap = h0 ∧ CHv Z EL U.vm h0 ∧ ∀ x ∈ sf, x < h0.size ∧ Safe Z EL U.vm h0 x) Kn (fun _ U o U' => ∃ v LL, o = .returned v ∧ (∃ so, Fr n0 LL ∧ Keep h0 U'.heap ws ∧ Q v U'.heap so ∧ CHr Z EL U.vm U.heap U'.vm U'.heap ∧ ∀ x ∈ so, x < U'.heap.size ∧ Safe Z EL U'.vm U'.heap x) ∧ ReturnedEndW U o U' LL rm.cells rm.slots)
theorem ConK.body {tws : List Jvm.Cond} {y : MethodName} {bytes : ByteArray} {maxL : Nat} {ret : Option FieldType} {rm : Room} {as' : Array Value} {Q : Option Value → Heap → List Addr → Prop} (hpl : plainFor y = true) (hEW : EW Z a0 EL) (o1 : Old Z n0 h0) (z3 : ∀ x ∈ ws, n0 ≤ x) (L0 : Array Slot) (hef : ∀ m, entryFrame m as' maxL = mkF m 0 L0 [])
    (body : ∀ (p : Program) (e : Env) (s : State) (m : MethodId) (below : List Frame) (meth : Method) (c : Code) (B : State), s.vm.MethodsKnown → s.vm.FramesKnown below → meth.name = y.name → meth.sig.returnType = ret → meth.locks = false → Wl Z a0 y.cls p l e rm s m as' below meth c bytes maxL B EL h0 n0 ws sf h0 0 0 0 L0 [] → Fin Z EL p e below B s h0 n0 ws rm.cells rm.slots Q) : ConK Z a0 l y bytes maxL ret rm tws as' EL h0 n0 ws sf Q := by
  refine MetFree.of_bodySF hpl hisR ?_
  intro p e s m args below meth c s₁ Bd hml hP hK
  obtain ⟨rfl, hZ, hh, hC, hF⟩ := hP
  refine body p e s m below meth c _ hK.1 hK.2 (name_of_methodNamed Bd.named Bd.method).1 Bd.returns Bd.notSynchronized ⟨⟨Bd.exec, Bd.bytes, hml, hEW⟩, ⟨o1, Keep.refl _ _, z3, by rw [← o1.1]; exact o1.2.1, hh⟩, s.vm, 0, s₁, [], Stand.of_body Bd, ⟨(State.WarmedH.refl s).since 0, Nat.zero_le _, hZ, findClass_of_methodNamed Bd.named⟩, ⟨CHr.refl hC, hF⟩, Fr.nil n0, by rw [← hh, Bd.state]; rfl, fun t q => ?_⟩
  rw [hef m]; exact q
theorem backLK {y : MethodName} {bytes : ByteArray} {maxL : Nat} {ret : Option FieldType} {rm : Room} {len W : Nat} {as' : Array Value} {v0 : Vm} {wsC sfC : List Addr} {Q : Option Value → Heap → List Addr → Prop}
    (hM : ConK Z a0 l y bytes maxL ret rm [] as' EL h n0 wsC sfC Q) (hTK : v0.MethodsKnown) (hBl : v0.FramesKnown below) (hZ : Z.Warmed39 v0) (wc : (Cond.code y bytes maxL ret).before a0 Z = true) (wz : (Cond.initialized y.cls).before a0 Z = true) (hf : rm.frames + 1 ≤ R.frames) (hl : W + (maxL + 11) + rm.locals ≤ R.locals) (hEL : EW Z a0 EL) (H : CHv Z EL v0 h) (hF : ∀ x ∈ sfC, x < h.size ∧ Safe Z EL v0 h x) :
    BackS l R p e below (s.setVm v0) args y len W (fun A a => a = as' ∧ A.U.heap = h ∧ A.cells + rm.cells ≤ R.cells ∧ A.slots + rm.slots ≤ R.slots)
      (fun A _ v B => ∃ LL, (∃ so, Fr n0 LL ∧ Keep h B.U.heap wsC ∧ Q v B.U.heap so ∧ CHr Z EL v0 h B.U.vm B.U.heap ∧ ∀ x ∈ so, x < B.U.heap.size ∧ Safe Z EL B.U.vm B.U.heap x) ∧ B.locs = A.locs ++ LL ∧ B.cells = A.cells + rm.cells ∧ B.slots = A.slots + rm.slots) :=
  BackS.of_freeWG (bytes := bytes) (maxL := maxL) (ret := ret) (E := fun _ first o t LL k n => k = rm.cells ∧ n = rm.slots ∧ ∃ v, o = .returned v ∧ ∃ so, Fr n0 LL ∧ Keep h t.heap wsC ∧ Q v t.heap so ∧ CHr Z EL first.vm first.heap t.vm t.heap ∧ ∀ x ∈ so, x < t.heap.size ∧ Safe Z EL t.vm t.heap x) hM hf hl
    (fun m meth c A a Y hp => have hU : Z.Warmed39 A.U.vm := wtrans (s := s.setVm v0) hZ Y.warmed
      ⟨by show (Cond.and _ .tt).before a A.U = true; rw [Cond.before_and, mv hU wc]; rfl, mv hU wc, mv hU wz, hp.2.2.1, hp.2.2.2⟩)
    (fun m meth c A a g mk Y hp => ⟨hp.1, wtrans (s := s.setVm v0) hZ Y.warmed, hp.2.1, (CHv.at Y hZ hEL H).1, fun x hx => ⟨(hF x hx).1, (CHv.at Y hZ hEL H).safe (hF x hx).1 (hF x hx).2⟩⟩) (fun m meth c A a g mk Y hp hg => known_frames Y hg hTK hBl)
    (fun _ _ _ _ ⟨v, LL, h1, h2, h3⟩ => ⟨LL, _, _, h3, rfl, rfl, v, h1, h2⟩)
    (fun m meth c A a g mk v t LL k n Y hp _ _ ⟨e1, e2, v', e3, so, q1, q2, q3, q4, q5⟩ => by
      cases e3; subst e1 e2
      refine ⟨LL, ⟨so, q1, q2, q3, (CHv.at Y hZ hEL H).trans ?_, q5⟩, rfl, rfl, rfl⟩
      rw [← hp.2.1]; exact q4)
theorem Wl.callSK {index : Nat} {y : MethodName} {bytes : ByteArray} {maxL : Nat} {ret : Option FieldType} {rm : Room} {wsC sfC : List Addr} {St : List Value} {Q : Option Value → Heap → List Addr → Prop} (G : Wl Z a0 own p l e R s m args below meth c code mx B EL h0 n0 ws sf h cells slots pc L (St)) (pc' : Nat) (w1 : (Cond.methodLink own index y).before a0 Z = true) (w2 : (Cond.static y).before a0 Z = true) (wz : (Cond.initialized y.cls).before a0 Z = true) (wc : (Cond.code y bytes maxL ret).before a0 Z = true) (hy : y.cls ≠ "java/lang/invoke/MethodHandle" ∧ y.cls ≠ "java/lang/invoke/VarHandle") (argsL rest : List Value) (hst : St = argsL.reverse ++ rest) (hTK : s.vm.MethodsKnown) (hBl : s.vm.FramesKnown below) (hM : ConK Z a0 l y bytes maxL ret rm [] argsL.toArray EL h n0 wsC sfC Q) (hlen : ∀ sig, parseMethodDescriptor y.desc = some sig → argsL.length = sig.parameters.length) (hd : decode code pc = .ok (.invokestatic index, 3)) (hz : L.size = mx) (hf : rm.frames + 1 ≤ R.frames) (hl : (rest.map fun v => v.category).sum + (maxL + 11) + rm.locals ≤ R.locals) (hc : cells + rm.cells ≤ R.cells) (hs : slots + rm.slots ≤ R.slots) (hws : ∀ x ∈ wsC, NW h0 ws x) (hsf : ∀ x ∈ sfC, x ∈ sf) (hwf : ∀ x ∈ wsC, x ∈ sf) (hp : pc + 3 = pc') :
    ∃ (v : Option Value) (h' : Heap) (so : List Addr), Wl Z a0 own p l e R s m args below meth c code mx B EL h0 n0 ws (so ++ sf) h' (cells + rm.cells) (slots + rm.slots) pc' L (v.toList ++ rest) ∧ Keep h h' wsC ∧ Q v h' so := by
  have nw := fun x (q : NW h0 ws x) => G.nw q
  obtain ⟨⟨hx, hby, hml, hEW⟩, ⟨o1, z2, z3, z1, es⟩, v0, k0, T, locs, X, ⟨hS, hk, hZ, hown⟩, ⟨hC, hF⟩, N, eT, k⟩ := G
  subst hst
  obtain ⟨v, _, ⟨T', L', k', n'⟩, -, X', hS', g', ⟨Lc, ⟨so, N', K', hQ, C', F'⟩, l', y', z'⟩, st⟩ := callSS X hx (y := y) hown (mvT (s := s.setVm v0) hZ w1) (mvT (s := s.setVm v0) hZ w2) (mvT (s := s.setVm v0) hZ wz) (mvT (s := s.setVm v0) hZ wc) hy (backLK (s := s) (W := (rest.map fun v => v.category).sum) hM (Vm.MethodsKnown.alikeC hS.1.alike hTK) (Vm.FramesKnown.alikeC hS.1.alike hBl) hZ wc wz hf hl hEW hC.1 (fun x hx => hF x (hsf x hx))) (g := mkF m pc L (argsL.reverse ++ rest)) rfl (hz.trans hml.symm) (argsL := argsL) (rest := rest) hlen rfl (by show 2 * 0 + _ ≤ _; omega) (hb hby hd) (fun _ _ => ⟨rfl, eT, hc, hs⟩)
  dsimp only [Pt.U, Pt.locs, Pt.cells, Pt.slots] at X' hS' g' l' y' z' st N' K' hQ C' F'
  subst l' y' z'
  obtain ⟨X2, hS2, hZ2, hown2⟩ := rebS (s := s) hS (by rw [← eT] at hk; exact hk) X' hS' g' hZ hown
  exact ⟨v, T'.heap, so, ⟨⟨hx, hby, hml, hEW⟩, ⟨o1.keep K' (fun x q => nw x (hws x q)), z2.trans K' hws, z3, z1, es⟩, T'.vm, _, T', _, X2, ⟨hS2, Nat.le_refl _, hZ2, hown2⟩, ⟨hC.trans C', fun x q => (List.mem_append.mp q).elim (F' x) (fun r => ⟨Nat.lt_of_lt_of_le (hF x r).1 K'.1, C'.safe (hF x r).1 (hF x r).2⟩)⟩, N.app N', rfl, fun t q => k t (st.trans (by subst hp; exact q))⟩, K', hQ⟩
theorem Wl.callIK {index : Nat} {y : MethodName} {bytes : ByteArray} {maxL : Nat} {ret : Option FieldType} {rm : Room} {wsC sfC : List Addr} {St : List Value} {a : Addr} {Q : Option Value → Heap → List Addr → Prop} (G : Wl Z a0 own p l e R s m args below meth c code mx B EL h0 n0 ws sf h cells slots pc L (St)) (pc' : Nat) (hr : ret = none) (hy1 : y.name = "<init>") (w1 : (Cond.methodLink own index y).before a0 Z = true) (w2 : (Cond.instanceMethod y).before a0 Z = true) (wz : (Cond.initialized y.cls).before a0 Z = true) (wc : (Cond.code y bytes maxL ret).before a0 Z = true) (hy : y.cls ≠ "java/lang/invoke/MethodHandle" ∧ y.cls ≠ "java/lang/invoke/VarHandle") (argsL rest : List Value) (hst : St = argsL.reverse ++ .ref a :: rest) (hTK : s.vm.MethodsKnown) (hBl : s.vm.FramesKnown below) (hM : ConK Z a0 l y bytes maxL ret rm [] (.ref a :: argsL).toArray EL h n0 wsC sfC Q) (hlen : ∀ sig, parseMethodDescriptor y.desc = some sig → argsL.length = sig.parameters.length) (hd : decode code pc = .ok (.invokespecial index, 3)) (hz : L.size = mx) (hf : rm.frames + 1 ≤ R.frames) (hl : (rest.map fun v => v.category).sum + (maxL + 11) + rm.locals ≤ R.locals) (hc : cells + rm.cells ≤ R.cells) (hs : slots + rm.slots ≤ R.slots) (hws : ∀ x ∈ wsC, NW h0 ws x) (hsf : ∀ x ∈ sfC, x ∈ sf) (hwf : ∀ x ∈ wsC, x ∈ sf) (hp : pc + 3 = pc') :
    ∃ (v : Option Value) (h' : Heap) (so : List Addr), Wl Z a0 own p l e R s m args below meth c code mx B EL h0 n0 ws (so ++ sf) h' (cells + rm.cells) (slots + rm.slots) pc' L (v.toList ++ rest) ∧ Keep h h' wsC ∧ Q v h' so := by
  have nw := fun x (q : NW h0 ws x) => G.nw q
  obtain ⟨⟨hx, hby, hml, hEW⟩, ⟨o1, z2, z3, z1, es⟩, v0, k0, T, locs, X, ⟨hS, hk, hZ, hown⟩, ⟨hC, hF⟩, N, eT, k⟩ := G
  subst hst
  subst hr
  obtain ⟨v, _, ⟨T', L', k', n'⟩, -, X', hS', g', ⟨Lc, ⟨so, N', K', hQ, C', F'⟩, l', y', z'⟩, st⟩ := X.specialBackS hx (y := y) hy1 hown (mvT (s := s.setVm v0) hZ w1) (mvT (s := s.setVm v0) hZ w2) (mvT (s := s.setVm v0) hZ wc) hy (backLK (s := s) (W := (rest.map fun v => v.category).sum) hM (Vm.MethodsKnown.alikeC hS.1.alike hTK) (Vm.FramesKnown.alikeC hS.1.alike hBl) hZ wc wz hf hl hEW hC.1 (fun x hx => hF x (hsf x hx))) (g := mkF m pc L (argsL.reverse ++ .ref a :: rest)) rfl (hz.trans hml.symm) (Steps.refl _) (a := a) (argsL := argsL) (rest := rest) hlen rfl (by show 2 * 0 + _ ≤ _; omega) (hb hby hd) (fun _ _ => ⟨rfl, eT, hc, hs⟩)
  dsimp only [Pt.U, Pt.locs, Pt.cells, Pt.slots] at X' hS' g' l' y' z' st N' K' hQ C' F'
  subst l' y' z'
  obtain ⟨X2, hS2, hZ2, hown2⟩ := rebS (s := s) hS (by rw [← eT] at hk; exact hk) X' hS' g' hZ hown
  exact ⟨v, T'.heap, so, ⟨⟨hx, hby, hml, hEW⟩, ⟨o1.keep K' (fun x q => nw x (hws x q)), z2.trans K' hws, z3, z1, es⟩, T'.vm, _, T', _, X2, ⟨hS2, Nat.le_refl _, hZ2, hown2⟩, ⟨hC.trans C', fun x q => (List.mem_append.mp q).elim (F' x) (fun r => ⟨Nat.lt_of_lt_of_le (hF x r).1 K'.1, C'.safe (hF x r).1 (hF x r).2⟩)⟩, N.app N', rfl, fun t q => k t (st.trans (by subst hp; exact q))⟩, K', hQ⟩
end OwnX
end Jvm.OwnL
namespace Jvm.Pilot.@@N@@
open Jvm Jvm.ClassFile Sem Op Lib Jvm.Free Jvm.Free.Fl Jvm.Stand Jvm.LawKit Jvm.RoadKit Jvm.OwnL Jvm.OwnX Bundle Jvm.Pilot.@@N@@.Jvm.D
set_option maxRecDepth 65536
set_option maxHeartbeats 40000000
theorem nle {a b : Nat} (h : Nat.ble a b = true) : a ≤ b := Nat.le_of_ble_eq_true h
theorem mm {α : Type} {l : List α} {a : α} (i : Nat) (h : l[i]? = some a) : a ∈ l := List.mem_of_getElem? h
theorem ofn_int {n : Nat} (h : n < 2147483648) : (Int32.ofNat n).toInt = (n : Int) := Int32.toInt_ofNat_small h
theorem ofn_nat {n : Nat} (h : n < 2147483648) : (Int32.ofNat n).toNatClampNeg = n := by simp only [Int32.toNatClampNeg, ofn_int h]; omega
theorem ofn_nn {n : Nat} (h : n < 2147483648) : ¬ Int32.ofNat n < 0 := by
  rw [Int32.lt_iff_toInt_lt, ofn_int h]; show ¬ (n : Int) < 0; omega
theorem ofn_lt {i n : Nat} (hi : i < n) (h : n < 2147483648) : Int32.ofNat i < Int32.ofNat n := by
  rw [Int32.lt_iff_toInt_lt, ofn_int h, ofn_int (by omega)]; omega
theorem ofn_nlt {i n : Nat} (hi : n ≤ i) (h : i < 2147483648) : ¬ Int32.ofNat i < Int32.ofNat n := by
  rw [Int32.lt_iff_toInt_lt, ofn_int h, ofn_int (by omega)]; omega
theorem ofn_ne {i n : Nat} (hi : i ≠ n) (h1 : i < 2147483648) (h2 : n < 2147483648) : ¬ Int32.ofNat i = Int32.ofNat n := fun q => hi (by
  have := congrArg Int32.toInt q; rw [ofn_int h1, ofn_int h2] at this; omega)
theorem ofn_add (a b : Nat) : Int32.ofNat a + Int32.ofNat b = Int32.ofNat (a + b) := (Int32.ofNat_add a b).symm
theorem ofn_sub {a b : Nat} (h : b ≤ a) (ha : a < 2147483648) : Int32.ofNat a - Int32.ofNat b = Int32.ofNat (a - b) := by
  apply Int32.toInt_inj.mp
  have e := c_isub (Int32.ofNat a) (Int32.ofNat b)
  have r := rng32 (Int32.ofNat a - Int32.ofNat b)
  rw [ofn_int ha, ofn_int (by omega)] at e
  rw [ofn_int (by omega)]; omega
theorem ofn_le0 {a b : Nat} (h : a ≤ b) (hb : b < 2147483648) : ¬ 0 < Int32.ofNat a - Int32.ofNat b := by
  have e := c_isub (Int32.ofNat a) (Int32.ofNat b)
  have r := rng32 (Int32.ofNat a - Int32.ofNat b)
  rw [ofn_int (by omega), ofn_int hb] at e
  rw [Int32.lt_iff_toInt_lt]; show ¬ (0 : Int) < _; omega
theorem shr0 (x : Int32) : x >>> ((0 : Int32) &&& 31) = x := by
  apply Int32.toInt_inj.mp; rw [c_ishr x 0 0 rfl]; simp
theorem shl0 (x : Int32) : x <<< ((0 : Int32) &&& 31) = x := by
  have e : (0 : Int32) &&& 31 = 0 := by decide
  have f := c_ishl x 0 0 rfl
  have r := rng32 (x <<< ((0 : Int32) &&& 31)); have r2 := rng32 x
  rw [show ((2 ^ 0 : Nat) : Int) = 1 from rfl, Int.mul_one] at f
  apply Int32.toInt_inj.mp; omega
theorem byt2 (x : Int32) : x.toInt8.toInt32.toInt8.toInt32 = x.toInt8.toInt32 := by simp
theorem sub0 (x : Int32) : x - 0 = x := by simp
theorem ofn_succ (i : Nat) : Int32.ofNat i + Int32.ofInt 1 = Int32.ofNat (i + 1) := (Int32.ofNat_add i 1).symm
theorem cpy_res (bs cs : List Value) (d : Value) : ((bs ++ List.replicate cs.length d).take bs.length ++ ((List.range cs.length).map fun i => cs.getD (0 + i) d) ++ (bs ++ List.replicate cs.length d).drop (bs.length + cs.length)) = bs ++ cs := by
  have e1 : (bs ++ List.replicate cs.length d).take bs.length = bs := by simp
  have e2 : (bs ++ List.replicate cs.length d).drop (bs.length + cs.length) = [] := List.drop_eq_nil_of_le (by simp)
  have e3 : ((List.range cs.length).map fun i => cs.getD (0 + i) d) = cs := by
    apply List.ext_getElem?
    intro i
    by_cases h : i < cs.length
    · simp [h]
    · simp [h, List.getElem?_eq_none (Nat.le_of_not_lt h)]
  rw [e1, e2, e3]; simp
def bytV (c : Int32) : Value := .int c.toInt8.toInt32
theorem tk_succ {α : Type} (cs : List Int32) (f : Int32 → α) (i : Nat) (h : i < cs.length) : (cs.take (i + 1)).map f = (cs.take i).map f ++ [f (cs.getD i 0)] := by
  rw [List.take_add_one, List.map_append]; simp [h]
theorem set_app (l : List Value) (d x : Value) (i : Nat) (h : l.length = i) : (l ++ [d]).set i x = l ++ [x] := by subst h; simp
theorem getD_mem (cs : List Int32) (i : Nat) (h : i < cs.length) : cs.getD i 0 ∈ cs := by simp [h]
theorem getD_map (cs : List Int32) (i : Nat) (h : i < cs.length) : (cs.map Value.int).getD i (.int 0) = .int (cs.getD i 0) := by simp [h]
theorem getD_mapB (cs : List Int32) (i : Nat) (h : i < cs.length) : (cs.map bytV).getD i (.int 0) = bytV (cs.getD i 0) := by simp [h]
theorem cod0 (x : Int32) : XT.ushr (x - x) 31 = 0 := by
  have e : x - x = 0 := by simp
  rw [e]; decide
/-- a Latin-1 String: the object a, its array b, its bytes -/
def Str (Z : State) (h : Heap) (a b : Addr) (bs : List Value) : Prop := Exa Z h a "java/lang/String" ∧ Fld Z h a "java/lang/String" "coder" "B" (.int 0) ∧ Fld Z h a "java/lang/String" "value" "[B" (.ref b) ∧ ∃ k, Arv Z h b k .byte (Int32.ofNat bs.length) bs (.int 0)
theorem Str.ext {Z : State} {h h' : Heap} {a b : Addr} {bs : List Value} (F : Str Z h a b bs) (E : Ext h h') : Str Z h' a b bs := by obtain ⟨h1, h2, h3, k, h4⟩ := F; exact ⟨h1.ext E, h2.ext E, h3.ext E, k, h4.ext E⟩
theorem Str.keep {Z : State} {h h' : Heap} {a b : Addr} {bs : List Value} {ws : List Addr} (F : Str Z h a b bs) (K : Keep h h' ws) (q : a ∉ ws) (r : b ∉ ws) : Str Z h' a b bs := by obtain ⟨h1, h2, h3, k, h4⟩ := F; exact ⟨h1.keep K, h2.keep K q, h3.keep K q, k, h4.keep K r⟩
/-- a StringBuilder: the object a, its array b of cap bytes, its bytes so far -/
def Sbd (Z : State) (h : Heap) (a b : Addr) (cap : Nat) (bs : List Value) : Prop := Exa Z h a "java/lang/StringBuilder" ∧ Fld Z h a "java/lang/AbstractStringBuilder" "value" "[B" (.ref b) ∧ Fld Z h a "java/lang/AbstractStringBuilder" "coder" "B" (.int 0) ∧ Fld Z h a "java/lang/AbstractStringBuilder" "count" "I" (.int (Int32.ofNat bs.length)) ∧ ∃ k, Arv Z h b k .byte (Int32.ofNat cap) bs (.int 0)
theorem Sbd.ext {Z : State} {h h' : Heap} {a b : Addr} {cap : Nat} {bs : List Value} (F : Sbd Z h a b cap bs) (E : Ext h h') : Sbd Z h' a b cap bs := by obtain ⟨h1, h2, h3, h4, k, h5⟩ := F; exact ⟨h1.ext E, h2.ext E, h3.ext E, h4.ext E, k, h5.ext E⟩
theorem Sbd.keep {Z : State} {h h' : Heap} {a b : Addr} {cap : Nat} {bs : List Value} {ws : List Addr} (F : Sbd Z h a b cap bs) (K : Keep h h' ws) (q : a ∉ ws) (r : b ∉ ws) : Sbd Z h' a b cap bs := by obtain ⟨h1, h2, h3, h4, k, h5⟩ := F; exact ⟨h1.keep K, h2.keep K q, h3.keep K q, h4.keep K q, k, h5.keep K r⟩
theorem Str.lt {Z : State} {h : Heap} {a b : Addr} {bs : List Value} (F : Str Z h a b bs) : a < h.size := F.1.lt
theorem Str.ltb {Z : State} {h : Heap} {a b : Addr} {bs : List Value} (F : Str Z h a b bs) : b < h.size := by obtain ⟨-, -, -, k, h4⟩ := F; exact h4.lt
theorem Sbd.lt {Z : State} {h : Heap} {a b : Addr} {cap : Nat} {bs : List Value} (F : Sbd Z h a b cap bs) : a < h.size := F.1.lt
theorem Sbd.ltb {Z : State} {h : Heap} {a b : Addr} {cap : Nat} {bs : List Value} (F : Sbd Z h a b cap bs) : b < h.size := by obtain ⟨-, -, -, -, k, h4⟩ := F; exact h4.lt
def dOnes : List Value := (List.range 100).map fun j => .int (Int32.ofNat (48 + j % 10))
def dTens : List Value := (List.range 100).map fun j => .int (Int32.ofNat (48 + j / 10))
theorem dOnes_at {r : Nat} (h : r < 100) : dOnes.getD r (.int 0) = .int (Int32.ofNat (48 + r % 10)) := by simp [dOnes, h]
theorem dTens_at {r : Nat} (h : r < 100) : dTens.getD r (.int 0) = .int (Int32.ofNat (48 + r / 10)) := by simp [dTens, h]
def dg (N k : Nat) : Value := .int (Int32.ofNat (48 + N / 10 ^ k % 10))
theorem dig_b {e : Nat} (h : e < 10) : (Int32.ofNat (48 + e)).toInt8.toInt32 = Int32.ofNat (48 + e) := by
  have : e = 0 ∨ e = 1 ∨ e = 2 ∨ e = 3 ∨ e = 4 ∨ e = 5 ∨ e = 6 ∨ e = 7 ∨ e = 8 ∨ e = 9 := by omega
  rcases this with rfl | rfl | rfl | rfl | rfl | rfl | rfl | rfl | rfl | rfl <;> decide
theorem ofn_pred (k : Nat) : Int32.ofNat (k + 1) + Int32.ofInt (-1) = Int32.ofNat k := by
  rw [Int32.ofNat_add]; show Int32.ofNat k + 1 + -1 = _; rw [Int32.add_assoc]; simp
theorem set_app2 (bs Ld : List Value) (j n : Nat) (x : Value) (h : n = bs.length + j) : (bs ++ Ld).set n x = bs ++ Ld.set j x := by subst h; simp [List.set_append]
theorem ng_int {M : Nat} (h : M < 2147483648) : (-(Int32.ofNat M)).toInt = -(M : Int) := by
  have e := c_ineg (Int32.ofNat M); have r := rng32 (-(Int32.ofNat M)); rw [ofn_int h] at e; omega
theorem ng_div {M : Nat} (h : M < 2147483648) : -(Int32.ofNat M) / 100 = -(Int32.ofNat (M / 100)) := by
  apply Int32.toInt_inj.mp
  have e := c_idiv (-(Int32.ofNat M)) 100 100 rfl (by decide)
  rw [ng_int h] at e
  rw [ng_int (by omega)]
  by_cases h0 : M = 0
  · subst h0; have := e.1 (by decide); rw [this]; decide
  · rw [e.2 (by omega)]; omega
theorem ng_rem {M : Nat} (h : M < 2147483648) : -(Int32.ofNat (M / 100)) * 100 - -(Int32.ofNat M) = Int32.ofNat (M % 100) := by
  apply Int32.toInt_inj.mp
  have e1 := c_imul (-(Int32.ofNat (M / 100))) 100
  have e2 := c_isub (-(Int32.ofNat (M / 100)) * 100) (-(Int32.ofNat M))
  have r1 := rng32 (-(Int32.ofNat (M / 100)) * 100); have r2 := rng32 (-(Int32.ofNat (M / 100)) * 100 - -(Int32.ofNat M))
  rw [ng_int (by omega), show (100 : Int32).toInt = 100 from rfl] at e1
  rw [ng_int h] at e2
  rw [ofn_int (by omega)]; omega
theorem ng_lt {M : Nat} {k : Int32} {K : Int} (h : M < 2147483648) (hk : k.toInt = K) (q : -(M : Int) < K) : -(Int32.ofNat M) < k := by rw [Int32.lt_iff_toInt_lt, ng_int h, hk]; exact q
theorem ng_nlt {M : Nat} {k : Int32} {K : Int} (h : M < 2147483648) (hk : k.toInt = K) (q : K ≤ -(M : Int)) : ¬ -(Int32.ofNat M) < k := by rw [Int32.lt_iff_toInt_lt, ng_int h, hk]; omega
theorem ng_gt {M : Nat} {k : Int32} {K : Int} (h : M < 2147483648) (hk : k.toInt = K) (q : K < -(M : Int)) : k < -(Int32.ofNat M) := by rw [Int32.lt_iff_toInt_lt, ng_int h, hk]; exact q
theorem ng_ngt {M : Nat} {k : Int32} {K : Int} (h : M < 2147483648) (hk : k.toInt = K) (q : -(M : Int) ≤ K) : ¬ k < -(Int32.ofNat M) := by rw [Int32.lt_iff_toInt_lt, ng_int h, hk]; omega
def nd (N : Nat) : Nat := if N < 10 then 1 else if N < 100 then 2 else if N < 1000 then 3 else if N < 10000 then 4 else if N < 100000 then 5 else if N < 1000000 then 6 else if N < 10000000 then 7 else if N < 100000000 then 8 else if N < 1000000000 then 9 else 10
def digs (N : Nat) : List Value := (List.range (nd N)).map fun j => dg N (nd N - 1 - j)
theorem nd_cases {N : Nat} (h : N < 2147483648) : (0 ≤ N ∧ N < 10) ∨ (10 ≤ N ∧ N < 100) ∨ (100 ≤ N ∧ N < 1000) ∨ (1000 ≤ N ∧ N < 10000) ∨ (10000 ≤ N ∧ N < 100000) ∨ (100000 ≤ N ∧ N < 1000000) ∨ (1000000 ≤ N ∧ N < 10000000) ∨ (10000000 ≤ N ∧ N < 100000000) ∨ (100000000 ≤ N ∧ N < 1000000000) ∨ (1000000000 ≤ N ∧ N < 2147483648) := by omega
theorem digs_len (N : Nat) : (digs N).length = nd N := by simp [digs]
theorem digs_at {N k : Nat} (h : k < nd N) : (digs N).getD k (.int 0) = dg N (nd N - 1 - k) := by simp [digs, h]
theorem nd_1 {N : Nat} (hlo : 0 ≤ N) (hhi : N < 10) : nd N = 1 := by unfold nd;  rw [if_pos (by omega)]
theorem digs_1 {N : Nat} (hlo : 0 ≤ N) (hhi : N < 10) : digs N = [dg N 0] := by unfold digs; rw [nd_1 hlo hhi]; rfl
theorem nd_2 {N : Nat} (hlo : 10 ≤ N) (hhi : N < 100) : nd N = 2 := by unfold nd; rw [if_neg (by omega)]; rw [if_pos (by omega)]
theorem digs_2 {N : Nat} (hlo : 10 ≤ N) (hhi : N < 100) : digs N = [dg N 1, dg N 0] := by unfold digs; rw [nd_2 hlo hhi]; rfl
theorem nd_3 {N : Nat} (hlo : 100 ≤ N) (hhi : N < 1000) : nd N = 3 := by unfold nd; rw [if_neg (by omega)]; rw [if_neg (by omega)]; rw [if_pos (by omega)]
theorem digs_3 {N : Nat} (hlo : 100 ≤ N) (hhi : N < 1000) : digs N = [dg N 2, dg N 1, dg N 0] := by unfold digs; rw [nd_3 hlo hhi]; rfl
theorem nd_4 {N : Nat} (hlo : 1000 ≤ N) (hhi : N < 10000) : nd N = 4 := by unfold nd; rw [if_neg (by omega)]; rw [if_neg (by omega)]; rw [if_neg (by omega)]; rw [if_pos (by omega)]
theorem digs_4 {N : Nat} (hlo : 1000 ≤ N) (hhi : N < 10000) : digs N = [dg N 3, dg N 2, dg N 1, dg N 0] := by unfold digs; rw [nd_4 hlo hhi]; rfl
theorem nd_5 {N : Nat} (hlo : 10000 ≤ N) (hhi : N < 100000) : nd N = 5 := by unfold nd; rw [if_neg (by omega)]; rw [if_neg (by omega)]; rw [if_neg (by omega)]; rw [if_neg (by omega)]; rw [if_pos (by omega)]
theorem digs_5 {N : Nat} (hlo : 10000 ≤ N) (hhi : N < 100000) : digs N = [dg N 4, dg N 3, dg N 2, dg N 1, dg N 0] := by unfold digs; rw [nd_5 hlo hhi]; rfl
theorem nd_6 {N : Nat} (hlo : 100000 ≤ N) (hhi : N < 1000000) : nd N = 6 := by unfold nd; rw [if_neg (by omega)]; rw [if_neg (by omega)]; rw [if_neg (by omega)]; rw [if_neg (by omega)]; rw [if_neg (by omega)]; rw [if_pos (by omega)]
theorem digs_6 {N : Nat} (hlo : 100000 ≤ N) (hhi : N < 1000000) : digs N = [dg N 5, dg N 4, dg N 3, dg N 2, dg N 1, dg N 0] := by unfold digs; rw [nd_6 hlo hhi]; rfl
theorem nd_7 {N : Nat} (hlo : 1000000 ≤ N) (hhi : N < 10000000) : nd N = 7 := by unfold nd; rw [if_neg (by omega)]; rw [if_neg (by omega)]; rw [if_neg (by omega)]; rw [if_neg (by omega)]; rw [if_neg (by omega)]; rw [if_neg (by omega)]; rw [if_pos (by omega)]
theorem digs_7 {N : Nat} (hlo : 1000000 ≤ N) (hhi : N < 10000000) : digs N = [dg N 6, dg N 5, dg N 4, dg N 3, dg N 2, dg N 1, dg N 0] := by unfold digs; rw [nd_7 hlo hhi]; rfl
theorem nd_8 {N : Nat} (hlo : 10000000 ≤ N) (hhi : N < 100000000) : nd N = 8 := by unfold nd; rw [if_neg (by omega)]; rw [if_neg (by omega)]; rw [if_neg (by omega)]; rw [if_neg (by omega)]; rw [if_neg (by omega)]; rw [if_neg (by omega)]; rw [if_neg (by omega)]; rw [if_pos (by omega)]
theorem digs_8 {N : Nat} (hlo : 10000000 ≤ N) (hhi : N < 100000000) : digs N = [dg N 7, dg N 6, dg N 5, dg N 4, dg N 3, dg N 2, dg N 1, dg N 0] := by unfold digs; rw [nd_8 hlo hhi]; rfl
theorem nd_9 {N : Nat} (hlo : 100000000 ≤ N) (hhi : N < 1000000000) : nd N = 9 := by unfold nd; rw [if_neg (by omega)]; rw [if_neg (by omega)]; rw [if_neg (by omega)]; rw [if_neg (by omega)]; rw [if_neg (by omega)]; rw [if_neg (by omega)]; rw [if_neg (by omega)]; rw [if_neg (by omega)]; rw [if_pos (by omega)]
theorem digs_9 {N : Nat} (hlo : 100000000 ≤ N) (hhi : N < 1000000000) : digs N = [dg N 8, dg N 7, dg N 6, dg N 5, dg N 4, dg N 3, dg N 2, dg N 1, dg N 0] := by unfold digs; rw [nd_9 hlo hhi]; rfl
theorem nd_10 {N : Nat} (hlo : 1000000000 ≤ N) (hhi : N < 2147483648) : nd N = 10 := by unfold nd; rw [if_neg (by omega)]; rw [if_neg (by omega)]; rw [if_neg (by omega)]; rw [if_neg (by omega)]; rw [if_neg (by omega)]; rw [if_neg (by omega)]; rw [if_neg (by omega)]; rw [if_neg (by omega)]; rw [if_neg (by omega)];
theorem digs_10 {N : Nat} (hlo : 1000000000 ≤ N) (hhi : N < 2147483648) : digs N = [dg N 9, dg N 8, dg N 7, dg N 6, dg N 5, dg N 4, dg N 3, dg N 2, dg N 1, dg N 0] := by unfold digs; rw [nd_10 hlo hhi]; rfl
theorem nd_le {N : Nat} (h : N < 2147483648) : 1 ≤ nd N ∧ nd N ≤ 10 := by
  rcases nd_cases h with ⟨q1, q2⟩ | ⟨q1, q2⟩ | ⟨q1, q2⟩ | ⟨q1, q2⟩ | ⟨q1, q2⟩ | ⟨q1, q2⟩ | ⟨q1, q2⟩ | ⟨q1, q2⟩ | ⟨q1, q2⟩ | ⟨q1, q2⟩
  · rw [nd_1 q1 q2]; exact ⟨by decide, by decide⟩
  · rw [nd_2 q1 q2]; exact ⟨by decide, by decide⟩
  · rw [nd_3 q1 q2]; exact ⟨by decide, by decide⟩
  · rw [nd_4 q1 q2]; exact ⟨by decide, by decide⟩
  · rw [nd_5 q1 q2]; exact ⟨by decide, by decide⟩
  · rw [nd_6 q1 q2]; exact ⟨by decide, by decide⟩
  · rw [nd_7 q1 q2]; exact ⟨by decide, by decide⟩
  · rw [nd_8 q1 q2]; exact ⟨by decide, by decide⟩
  · rw [nd_9 q1 q2]; exact ⟨by decide, by decide⟩
  · rw [nd_10 q1 q2]; exact ⟨by decide, by decide⟩
theorem m8 (x : Int32) : ∃ c, c < 256 ∧ x &&& 255 = Int32.ofNat c := by
  have e := c_mask x 255 8 (by decide) rfl
  rw [show ((2 ^ 8 : Nat) : Int) = 256 from rfl] at e
  refine ⟨(x.toInt % 256).toNat, by omega, ?_⟩
  apply Int32.toInt_inj.mp; rw [e, ofn_int (by omega)]; omega
theorem m2 (x : Int32) : ∃ c, c < 4 ∧ x &&& 3 = Int32.ofNat c := by
  have e := c_mask x 3 2 (by decide) rfl
  rw [show ((2 ^ 2 : Nat) : Int) = 4 from rfl] at e
  refine ⟨(x.toInt % 4).toNat, by omega, ?_⟩
  apply Int32.toInt_inj.mp; rw [e, ofn_int (by omega)]; omega
theorem m31 (x : Int32) : ∃ c, c < 2147483648 ∧ x &&& 2147483647 = Int32.ofNat c := by
  have e := c_mask x 2147483647 31 (by decide) rfl
  rw [show ((2 ^ 31 : Nat) : Int) = 2147483648 from rfl] at e
  refine ⟨(x.toInt % 2147483648).toNat, by omega, ?_⟩
  apply Int32.toInt_inj.mp; rw [e, ofn_int (by omega)]; omega
theorem i2c_n0 : ∀ t : Fin 256, (Int32.ofNat t.1).toUInt32.toUInt16.toUInt32.toInt32 = Int32.ofNat t.1 ∧ (Int32.ofNat t.1).toInt8.toInt32 &&& 255 = Int32.ofNat t.1 ∧ ¬ (255 : Int32) < Int32.ofNat t.1 ∧ Int32.ofNat t.1 &&& 255 = Int32.ofNat t.1 ∧ fits .char (.int (Int32.ofNat t.1)) = true := by decide +kernel
theorem i2c_n {c : Nat} (h : c < 256) : (Int32.ofNat c).toUInt32.toUInt16.toUInt32.toInt32 = Int32.ofNat c := (i2c_n0 ⟨c, h⟩).1
theorem bm {c : Nat} (h : c < 256) : (Int32.ofNat c).toInt8.toInt32 &&& 255 = Int32.ofNat c := (i2c_n0 ⟨c, h⟩).2.1
theorem c255 {c : Nat} (h : c < 256) : ¬ (255 : Int32) < Int32.ofNat c := (i2c_n0 ⟨c, h⟩).2.2.1
theorem m255 {c : Nat} (h : c < 256) : Int32.ofNat c &&& 255 = Int32.ofNat c := (i2c_n0 ⟨c, h⟩).2.2.2.1
theorem fit255 {c : Nat} (h : c < 256) : fits .char (.int (Int32.ofNat c)) = true := (i2c_n0 ⟨c, h⟩).2.2.2.2
theorem ofn_div {N P : Nat} (hN : N < 2147483648) (h0 : 0 < P) (hP : P < 2147483648) : Int32.ofNat N / Int32.ofNat P = Int32.ofNat (N / P) := by
  apply Int32.toInt_inj.mp
  have e := c_idiv (Int32.ofNat N) (Int32.ofNat P) P (ofn_int hP) (fun q => by have := congrArg Int32.toInt q; rw [ofn_int hP, show (-1 : Int32).toInt = -1 from rfl] at this; omega)
  rw [ofn_int hN] at e
  have hd : N / P ≤ N := Nat.div_le_self _ _
  rw [ofn_int (by omega), e.1 (by omega)]; rfl
theorem ofn_rem10 {M : Nat} (hM : M < 2147483648) : Int32.ofNat M - Int32.ofNat M / 10 * 10 = Int32.ofNat (M % 10) := by
  have e := ofn_div hM (P := 10) (by decide) (by decide)
  rw [show Int32.ofNat 10 = (10 : Int32) from rfl] at e
  rw [e, show (10 : Int32) = Int32.ofNat 10 from rfl, ← Int32.ofNat_mul, ofn_sub (by omega) hM]
  congr 1; omega
theorem wS_of {Z : State} {a0 : Array Value} (hw : ∀ d ∈ tables_1, d.before a0 Z = true) : ∀ a ∈ Bundle.stringAtoms, a.before a0 Z = true := by
  intro a ha
  simp only [Bundle.stringAtoms, Bundle.sN, List.mem_cons, List.not_mem_nil, or_false] at ha
  rcases ha with rfl | rfl | rfl | rfl | rfl | rfl | rfl
  · exact (hw _ (mm 6 rfl))
  · exact (hw _ (mm 5 rfl))
  · exact (hw _ (mm 19 rfl))
  · exact (hw _ (mm 20 rfl))
  · exact (hw _ (mm 21 rfl))
  · exact (hw _ (mm 22 rfl))
  · exact (hw _ (mm 23 rfl))
theorem ne_or {x b b' : Addr} {n : Nat} (h : x ≠ b) (lt : x < n) (q : b' = b ∨ n ≤ b') : x ≠ b' := q.elim (fun e => e ▸ h) (fun r => Nat.ne_of_lt (Nat.lt_of_lt_of_le lt r))
theorem cpg (bs : List Value) (cap : Nat) (d : Value) (h : bs.length ≤ cap) : ∀ i, bs.getD i d = ((List.replicate cap d).take 0 ++ ((List.range cap).map fun i => bs.getD (0 + i) d) ++ (List.replicate cap d).drop (0 + cap)).getD i d := fun i => by
  have e1 : (List.replicate cap d).drop (0 + cap) = [] := List.drop_eq_nil_of_le (by simp)
  rw [e1, List.append_nil, List.take_zero, List.nil_append]
  simp only [List.getD_eq_getElem?_getD, List.getElem?_map, List.getElem?_range, Nat.zero_add]
  by_cases q : i < cap
  · simp [q]
  · simp [q, List.getElem?_eq_none (show bs.length ≤ i by omega)]
def GC (c mc c' : Nat) : Prop := (c' = c ∧ mc ≤ c) ∨ (c < mc ∧ c' = c + max (mc - c) (c + 2))
def gcap (cap mc : Nat) : Nat := cap + max (mc - cap) (cap + 2)
theorem gcap_b {cap mc : Nat} (h : cap < mc) (hm : mc ≤ 62) : mc ≤ gcap cap mc ∧ cap < gcap cap mc ∧ gcap cap mc ≤ 126 := by unfold gcap; omega
def SbdY (Z : State) (h : Heap) (a b : Addr) (cap : Nat) (bs : List Value) : Prop := Sbd Z h a b cap bs ∧ Exa Z h b "[B"
theorem SbdY.ext {Z : State} {h h' : Heap} {a b : Addr} {cap : Nat} {bs : List Value} (F : SbdY Z h a b cap bs) (E : Ext h h') : SbdY Z h' a b cap bs := ⟨F.1.ext E, F.2.ext E⟩
theorem SbdY.keep {Z : State} {h h' : Heap} {a b : Addr} {cap : Nat} {bs : List Value} {ws : List Addr} (F : SbdY Z h a b cap bs) (K : Keep h h' ws) (q : a ∉ ws) (r : b ∉ ws) : SbdY Z h' a b cap bs := ⟨F.1.keep K q r, F.2.keep K⟩
theorem SbdY.lt {Z : State} {h : Heap} {a b : Addr} {cap : Nat} {bs : List Value} (F : SbdY Z h a b cap bs) : a < h.size := F.1.1.lt
theorem SbdY.ltb {Z : State} {h : Heap} {a b : Addr} {cap : Nat} {bs : List Value} (F : SbdY Z h a b cap bs) : b < h.size := F.2.lt
def ndL (M : Nat) : Nat := if M < 10 then 1 else ndL (M / 10) + 1
termination_by M
decreasing_by omega
theorem ndL_lt {M : Nat} (h : M < 10) : ndL M = 1 := by rw [ndL, if_pos h]
theorem ndL_ge {M : Nat} (h : 10 ≤ M) : ndL M = ndL (M / 10) + 1 := by rw [ndL, if_neg (by omega)]
theorem ndL_of : ∀ (k : Nat) {M lo hi : Nat}, lo = 10 ^ k → hi = 10 ^ (k + 1) → lo ≤ M → M < hi → ndL M = k + 1
  | 0, M, lo, hi, e1, e2, h1, h2 => ndL_lt (by subst e2; simpa using h2)
  | k + 1, M, lo, hi, e1, e2, h1, h2 => by
    have p1 : (10 : Nat) ^ (k + 1) = 10 ^ k * 10 := Nat.pow_succ ..
    have p2 : (10 : Nat) ^ (k + 1 + 1) = 10 ^ (k + 1) * 10 := Nat.pow_succ ..
    have p0 : 0 < 10 ^ k := Nat.pow_pos (by decide)
    rw [ndL_ge (by omega), ndL_of k rfl rfl (by omega) (by omega)]
theorem ndL_pos (M : Nat) : 1 ≤ ndL M := by
  by_cases h : M < 10
  · rw [ndL_lt h]; exact Nat.le_refl _
  · rw [ndL_ge (by omega)]; omega
theorem ndL_100 {M : Nat} (h : 100 ≤ M) : ndL M = ndL (M / 100) + 2 := by
  rw [ndL_ge (by omega), ndL_ge (by omega), Nat.div_div_eq_div_mul]
theorem ndL_bd : ∀ (k : Nat) {M : Nat}, M < 10 ^ k → 0 < k → ndL M ≤ k
  | 0, _, _, h => absurd h (by decide)
  | k + 1, M, h, _ => by
    by_cases q : M < 10
    · rw [ndL_lt q]; omega
    · have p1 : (10 : Nat) ^ (k + 1) = 10 ^ k * 10 := Nat.pow_succ ..
      have : 0 < k := by rcases k with _ | k; omega; omega
      rw [ndL_ge (by omega)]; have := ndL_bd k (M := M / 10) (by omega) this; omega
theorem ndL_lo : ∀ (k : Nat) {M : Nat}, ndL M = k + 1 → 0 < k → 10 ^ k ≤ M
  | 0, _, _, h => absurd h (by decide)
  | k + 1, M, h, _ => by
    by_cases q : M < 10
    · rw [ndL_lt q] at h; omega
    · rw [ndL_ge (by omega)] at h
      have p1 : (10 : Nat) ^ (k + 1) = 10 ^ k * 10 := Nat.pow_succ ..
      rcases k with _ | k
      · omega
      · have := ndL_lo (k + 1) (M := M / 10) (by omega) (by omega); omega
theorem ndL_hi : ∀ (k : Nat) {M : Nat}, ndL M = k → M < 10 ^ k
  | 0, M, h => by have := ndL_pos M; omega
  | k + 1, M, h => by
    have p1 : (10 : Nat) ^ (k + 1) = 10 ^ k * 10 := Nat.pow_succ ..
    have p0 : 0 < 10 ^ k := Nat.pow_pos (by decide)
    by_cases q : M < 10
    · omega
    · rw [ndL_ge (by omega)] at h
      have := ndL_hi k (M := M / 10) (by omega); omega
def dgs : Nat → Nat → List Value
  | 0, _ => []
  | n + 1, M => dgs n (M / 10) ++ [.int (Int32.ofNat (48 + M % 10))]
theorem dgs_len : ∀ (n M : Nat), (dgs n M).length = n
  | 0, _ => rfl
  | n + 1, M => by rw [dgs, List.length_append, dgs_len n]; rfl
theorem dgs_two (n M : Nat) (ds : List Value) : dgs (n + 2) M ++ ds = dgs n (M / 100) ++ (.int (Int32.ofNat (48 + M % 100 / 10)) :: .int (Int32.ofNat (48 + M % 100 % 10)) :: ds) := by
  rw [dgs, dgs, Nat.div_div_eq_div_mul, show M / 10 % 10 = M % 100 / 10 by omega, show M % 10 = M % 100 % 10 by omega]
  simp only [List.append_assoc, List.cons_append, List.nil_append]
theorem dgs_at : ∀ (n M k : Nat), k < n → (dgs n M).getD k (.int 0) = .int (Int32.ofNat (48 + M / 10 ^ (n - 1 - k) % 10))
  | n + 1, M, k, h => by
    rw [dgs]
    by_cases q : k < n
    · have e : n + 1 - 1 - k = (n - 1 - k) + 1 := by omega
      rw [List.getD_eq_getElem?_getD, List.getElem?_append_left (by rw [dgs_len]; exact q), ← List.getD_eq_getElem?_getD, dgs_at n (M / 10) k q, e, Nat.pow_succ, Nat.div_div_eq_div_mul, Nat.mul_comm]
    · obtain rfl : k = n := by omega
      rw [List.getD_eq_getElem?_getD, List.getElem?_append_right (by rw [dgs_len]; exact Nat.le_refl _), dgs_len]
      simp
theorem setBack (bs ds : List Value) (r : Nat) (x : Value) : (bs ++ List.replicate (r + 1) (Value.int 0) ++ ds).set (bs.length + r) x = bs ++ List.replicate r (Value.int 0) ++ (x :: ds) := by
  have e : bs ++ List.replicate (r + 1) (Value.int 0) ++ ds = (bs ++ List.replicate r (Value.int 0)) ++ (Value.int 0 :: ds) := by
    rw [List.replicate_succ']; simp only [List.append_assoc, List.cons_append, List.nil_append]
  have l : (bs ++ List.replicate r (Value.int 0)).length = bs.length + r := by simp
  rw [e, ← l, List.set_append_right _ _ (Nat.le_refl _), Nat.sub_self]; rfl
/- a long x that is -M -/
theorem lq {x : Int64} {M : Nat} (hx : x.toInt = -(M : Int)) : (x / 100).toInt = -((M / 100 : Nat) : Int) := by
  have e := c_ldiv x 100 100 rfl (by decide)
  by_cases h0 : M = 0
  · subst h0; rw [e.1 (by omega), hx]; rfl
  · rw [e.2 (by omega), hx]; omega
theorem lr {x q : Int64} {M : Nat} (hM : M ≤ 9223372036854775808) (hx : x.toInt = -(M : Int)) (hq : q.toInt = -((M / 100 : Nat) : Int)) : (q * 100 - x).toInt32 = Int32.ofNat (M % 100) := by
  have e1 := c_lmul q 100
  have e2 := c_lsub (q * 100) x
  have r1 := rng64 (q * 100); have r2 := rng64 (q * 100 - x)
  rw [hq, show (100 : Int64).toInt = 100 from rfl] at e1
  rw [hx] at e2
  have e3 := c_l2i (q * 100 - x); have r3 := rng32 (q * 100 - x).toInt32
  apply Int32.toInt_inj.mp; rw [ofn_int (by omega)]; omega
theorem l_gt {x k : Int64} {M : Nat} {K : Int} (hx : x.toInt = -(M : Int)) (hk : k.toInt = K) (q : K < -(M : Int)) : k < x := by rw [Int64.lt_iff_toInt_lt, hx, hk]; exact q
theorem l_ngt {x k : Int64} {M : Nat} {K : Int} (hx : x.toInt = -(M : Int)) (hk : k.toInt = K) (q : -(M : Int) ≤ K) : ¬ k < x := by rw [Int64.lt_iff_toInt_lt, hx, hk]; omega
theorem l_i {x : Int64} {M : Nat} (hM : M ≤ 2147483648) (hx : x.toInt = -(M : Int)) : x.toInt32.toInt = -(M : Int) := by
  have e := c_l2i x; have r := rng32 x.toInt32; rw [hx] at e; omega
theorem l_neg {x : Int64} {M : Nat} (hx : x.toInt = (M : Int)) : (-x).toInt = -(M : Int) := by
  have e := c_lneg x; have r := rng64 (-x); have r1 := rng64 x; rw [hx] at e; omega
theorem iq {x : Int32} {M : Nat} (hx : x.toInt = -(M : Int)) : (x / 100).toInt = -((M / 100 : Nat) : Int) := by
  have e := c_idiv x 100 100 rfl (by decide)
  by_cases h0 : M = 0
  · subst h0; rw [e.1 (by omega), hx]; rfl
  · rw [e.2 (by omega), hx]; omega
theorem ir {x q : Int32} {M : Nat} (hM : M ≤ 2147483648) (hx : x.toInt = -(M : Int)) (hq : q.toInt = -((M / 100 : Nat) : Int)) : q * 100 - x = Int32.ofNat (M % 100) := by
  have e1 := c_imul q 100
  have e2 := c_isub (q * 100) x
  have r1 := rng32 (q * 100); have r2 := rng32 (q * 100 - x)
  rw [hq, show (100 : Int32).toInt = 100 from rfl] at e1
  rw [hx] at e2
  apply Int32.toInt_inj.mp; rw [ofn_int (by omega)]; omega
theorem i_gt {x k : Int32} {M : Nat} {K : Int} (hx : x.toInt = -(M : Int)) (hk : k.toInt = K) (q : K < -(M : Int)) : k < x := by rw [Int32.lt_iff_toInt_lt, hx, hk]; exact q
theorem i_ngt {x k : Int32} {M : Nat} {K : Int} (hx : x.toInt = -(M : Int)) (hk : k.toInt = K) (q : -(M : Int) ≤ K) : ¬ k < x := by rw [Int32.lt_iff_toInt_lt, hx, hk]; omega
theorem i_lt {x k : Int32} {M : Nat} {K : Int} (hx : x.toInt = -(M : Int)) (hk : k.toInt = K) (q : -(M : Int) < K) : x < k := by rw [Int32.lt_iff_toInt_lt, hx, hk]; exact q
theorem i_nlt {x k : Int32} {M : Nat} {K : Int} (hx : x.toInt = -(M : Int)) (hk : k.toInt = K) (q : K ≤ -(M : Int)) : ¬ x < k := by rw [Int32.lt_iff_toInt_lt, hx, hk]; omega
theorem i_neg {x : Int32} {M : Nat} (hM : M < 100) (hx : x.toInt = -(M : Int)) : -x = Int32.ofNat M := by
  have e := c_ineg x; have r := rng32 (-x); rw [hx] at e
  apply Int32.toInt_inj.mp; rw [ofn_int (by omega)]; omega
def mkL (n x y : Nat) : List Nat := if n = 0 then [] else if n = 1 then [x] else [x, y]
theorem mkL_len {n x y : Nat} (h : n ≤ 2) : (mkL n x y).length = n := by rcases (show n = 0 ∨ n = 1 ∨ n = 2 by omega) with rfl | rfl | rfl <;> rfl
theorem mkL_b {n x y : Nat} (hx : x < 256) (hy : y < 256) : ∀ c ∈ mkL n x y, c < 256 := by
  unfold mkL; intro c hc; split at hc
  · cases hc
  · split at hc
    · cases List.mem_singleton.mp hc; exact hx
    · rcases List.mem_cons.mp hc with rfl | hc
      · exact hx
      · cases List.mem_singleton.mp hc; exact hy
def bl (cs : List Nat) : List Value := cs.map fun c => bytV (Int32.ofNat c)
theorem bl_len (cs : List Nat) : (bl cs).length = cs.length := by simp [bl]
theorem bl_app (xs ys : List Nat) : bl xs ++ bl ys = bl (xs ++ ys) := by simp [bl]
theorem bl_at {cs : List Nat} {i : Nat} (h : i < cs.length) : (bl cs).getD i (.int 0) = .int (Int32.ofNat (cs.getD i 0)).toInt8.toInt32 := by simp [bl, bytV, h]
theorem ofn_rem3 {M : Nat} (hM : M < 2147483648) : Int32.ofNat M - Int32.ofNat M / 3 * 3 = Int32.ofNat (M % 3) := by
  have e := ofn_div hM (P := 3) (by decide) (by decide)
  rw [show Int32.ofNat 3 = (3 : Int32) from rfl] at e
  rw [e, show (3 : Int32) = Int32.ofNat 3 from rfl, ← Int32.ofNat_mul, ofn_sub (by omega) hM]
  congr 1; omega
theorem m3s (x : Int32) : ∃ c, c ≤ 2 ∧ ((x &&& 255) - (x &&& 255) / 3 * 3) = Int32.ofNat c := by
  obtain ⟨c, hc, e⟩ := m8 x
  exact ⟨c % 3, by omega, by rw [e]; exact ofn_rem3 (by omega)⟩
def pv : List Value := (List.range 19).map fun j => Value.long (Int64.ofNat (10 ^ j))
theorem pv_at {j : Nat} (h : j < 19) : pv.getD j (.long 0) = .long (Int64.ofNat (10 ^ j)) := by simp [pv, h]
theorem p10 : ∀ t : Fin 19, (Int64.ofNat (10 ^ t.1)).toInt = ((10 ^ t.1 : Nat) : Int) ∧ Int64.ofNat (10 ^ t.1) ≠ 0 ∧ Int64.ofNat (10 ^ t.1) ≠ -1 := by decide +kernel
theorem dv {x : Int64} {M j : Nat} (hj : j < 19) (hx : x.toInt = -(M : Int)) : (x / Int64.ofNat (10 ^ j)).toInt = -((M / 10 ^ j : Nat) : Int) := by
  obtain ⟨e1, -, e3⟩ := p10 ⟨j, hj⟩
  have e := c_ldiv x (Int64.ofNat (10 ^ j)) ((10 ^ j : Nat) : Int) e1 e3
  by_cases h0 : M = 0
  · subst h0; rw [e.1 (by omega), hx]; simp
  · rw [e.2 (by omega), hx, Int.neg_neg]; rfl
theorem dgt {q : Int64} {Q : Nat} (hq : q.toInt = -(Q : Int)) : (-(q - q / 10 * 10)).toInt32 = Int32.ofNat (Q % 10) := by
  have e := c_lrem q 10 10 rfl
  have e1 : (q - q / 10 * 10).toInt = -((Q % 10 : Nat) : Int) := by
    by_cases h0 : Q = 0
    · subst h0; rw [e.1 (by omega), hq]; rfl
    · rw [e.2 (by omega), hq, Int.neg_neg]; rfl
  have e2 := c_lneg (q - q / 10 * 10); have r2 := rng64 (-(q - q / 10 * 10))
  have e3 := c_l2i (-(q - q / 10 * 10)); have r3 := rng32 (-(q - q / 10 * 10)).toInt32
  rw [e1] at e2
  apply Int32.toInt_inj.mp; rw [ofn_int (by omega)]; omega
theorem q_ne {q : Int64} {Q : Nat} (hq : q.toInt = -(Q : Int)) (h : Q ≠ 0) : ¬ q = 0 := fun e => by subst e; have : (0 : Int64).toInt = 0 := rfl; omega
theorem q_eq {q : Int64} {Q : Nat} (hq : q.toInt = -(Q : Int)) (h : Q = 0) : q = 0 := by apply Int64.toInt_inj.mp; rw [hq, h]; rfl
theorem mkk {c D : Nat} (hc : c < 2147483648) (hD : 0 < D) (hD2 : D < 2147483648) : Int32.ofNat c - Int32.ofNat c / Int32.ofNat D * Int32.ofNat D = Int32.ofNat (c % D) := by
  rw [ofn_div hc hD hD2, ← Int32.ofNat_mul, ofn_sub (Nat.div_mul_le_self ..) hc]
  congr 1; have := Nat.div_add_mod c D; rw [Nat.mul_comm] at this; omega
theorem gL {xs ys : List Value} {i : Nat} {d : Value} (h : i < xs.length) : (xs ++ ys).getD i d = xs.getD i d := by simp only [List.getD_eq_getElem?_getD, List.getElem?_append_left h]
theorem gR {xs ys : List Value} {i j : Nat} {d : Value} (h : i = xs.length + j) : (xs ++ ys).getD i d = ys.getD j d := by subst h; simp [List.getD_eq_getElem?_getD, List.getElem?_append_right]
theorem vt {A N B : List Value} {a n b : Nat} (ha : A.length = a) (hn : N.length = n) (hb : B.length = b) :
    (∀ i, i < a → (A ++ bl [58] ++ N ++ bl [58, 32] ++ B).getD i (.int 0) = A.getD i (.int 0)) ∧ (A ++ bl [58] ++ N ++ bl [58, 32] ++ B).getD a (.int 0) = .int 58 ∧ (∀ k, k < n → (A ++ bl [58] ++ N ++ bl [58, 32] ++ B).getD (a + 1 + k) (.int 0) = N.getD k (.int 0)) ∧
    (A ++ bl [58] ++ N ++ bl [58, 32] ++ B).getD (a + 1 + n) (.int 0) = .int 58 ∧ (A ++ bl [58] ++ N ++ bl [58, 32] ++ B).getD (a + 1 + n + 1) (.int 0) = .int 32 ∧ (∀ j, j < b → (A ++ bl [58] ++ N ++ bl [58, 32] ++ B).getD (a + 1 + n + 2 + j) (.int 0) = B.getD j (.int 0)) := by
  have e : A ++ bl [58] ++ N ++ bl [58, 32] ++ B = A ++ (bl [58] ++ (N ++ (bl [58, 32] ++ B))) := by simp only [List.append_assoc]
  have l1 : (bl [58]).length = 1 := rfl
  have l2 : (bl [58, 32]).length = 2 := rfl
  rw [e]
  refine ⟨fun i hi => gL (by omega), ?_, fun k hk => ?_, ?_, ?_, fun j hj => ?_⟩
  · rw [gR (j := 0) (by omega), gL (by omega)]; rfl
  · rw [gR (j := 1 + k) (by omega), gR (j := k) (by omega), gL (by omega)]
  · rw [gR (j := 1 + n) (by omega), gR (j := n) (by omega), gR (j := 0) (by omega), gL (by omega)]; rfl
  · rw [gR (j := 1 + n + 1) (by omega), gR (j := n + 1) (by omega), gR (j := 1) (by omega), gL (by omega)]; rfl
  · rw [gR (j := 1 + n + 2 + j) (by omega), gR (j := n + 2 + j) (by omega), gR (j := 2 + j) (by omega), gR (j := j) (by omega)]
theorem tw_of {Z : State} {a0 : Array Value} (hw : ∀ d ∈ tables_1, d.before a0 Z = true) : ∀ d ∈ Jvm.OwnX.tw "com/example/fianza/fianza/InputException", d.before a0 Z = true := by
  unfold Jvm.OwnX.tw
  exact Jvm.OwnX.allCS (hw _ (mm 203 rfl)) (Jvm.OwnX.allCS (hw _ (mm 221 rfl)) (Jvm.OwnX.allCS (hw _ (mm 216 rfl)) (Jvm.OwnX.allCS (hw _ (mm 222 rfl)) (Jvm.OwnX.allCS (hw _ (mm 223 rfl)) (Jvm.OwnX.allCS (hw _ (mm 224 rfl)) (Jvm.OwnX.allCS (hw _ (mm 16 rfl)) (Jvm.OwnX.allCS (hw _ (mm 17 rfl)) (Jvm.OwnX.allCS (hw _ (mm 205 rfl)) (Jvm.OwnX.allCS (hw _ (mm 214 rfl)) (Jvm.OwnX.allCS (hw _ (mm 227 rfl)) (Jvm.OwnX.allCS (hw _ (mm 206 rfl)) (Jvm.OwnX.allCS (hw _ (mm 207 rfl)) (Jvm.OwnX.allCS (hw _ (mm 209 rfl)) (Jvm.OwnX.allCS (hw _ (mm 210 rfl)) (Jvm.OwnX.allCS (hw _ (mm 212 rfl)) (Jvm.OwnX.allCS (hw _ (mm 213 rfl)) (Jvm.OwnX.allCS (hw _ (mm 208 rfl)) (Jvm.OwnX.allCS (hw _ (mm 234 rfl)) (Jvm.OwnX.allCS (hw _ (mm 211 rfl)) (Jvm.OwnX.allCS (hw _ (mm 235 rfl)) (Jvm.OwnX.allCS (hw _ (mm 237 rfl)) (Jvm.OwnX.allCS (hw _ (mm 215 rfl)) (Jvm.OwnX.allCS (hw _ (mm 236 rfl)) (Jvm.OwnX.allCS (hw _ (mm 217 rfl)) (Jvm.OwnX.allCS (hw _ (mm 232 rfl)) (Jvm.OwnX.allCS (hw _ (mm 238 rfl)) (Jvm.OwnX.allCS (hw _ (mm 218 rfl)) (Jvm.OwnX.allCS (hw _ (mm 219 rfl)) (Jvm.OwnX.allCS (hw _ (mm 220 rfl)) (Jvm.OwnX.allCS (hw _ (mm 239 rfl)) (Jvm.OwnX.allC0)))))))))))))))))))))))))))))))
theorem arr_nn {args : Array Value} {s : State} {t : Term} {ty : FieldType} {v : Value} (w : (Jvm.Cond.arrayOf t ty).before args s = true) (ev : t.eval args s none [] s = some v) (hr : v.isRef = true) : ∃ a, v = .ref a := by
  rcases ref_cases hr with rfl | ⟨a, rfl⟩
  · simp [Cond.before, Cond.holds, Cond.value, ev] at w
  · exact ⟨a, rfl⟩
theorem known_t {s : State} (h : tablesKnown s = true) : s.vm.MethodsKnown := fun m x hm => by
  simp only [Vm.method?] at hm
  cases hk : s.vm.classes[m.cls]? with
  | none => simp [hk] at hm
  | some k =>
    simp only [hk, Option.bind_some] at hm
    refine ⟨k, hk, fun cf hcf => ?_⟩
    obtain ⟨hlt, e⟩ := Array.getElem?_eq_some_iff.mp hk
    have q := (Array.all_eq_true_iff_forall_mem.mp h) _ (Array.getElem_mem hlt)
    rw [e, hcf] at q
    have q' : k.methods.size = cf.methods.size := by simpa using q
    have := (Array.getElem?_eq_some_iff.mp hm).1
    rw [q'] at this
    simp [this]
theorem known_f {s : State} {m : MethodId} {as : Array Value} {below : List Frame} (hf : s.frames = .invoking m as :: below) (h : framesKnown s = true) : s.vm.FramesKnown below := fun y hy m' hm' => by
  have q := (List.all_eq_true.mp h) y (by rw [hf]; exact List.mem_cons_of_mem _ hy)
  have one : ∀ m : MethodId, methodKnown s.vm m = true → s.vm.knowsMethod m := fun m r => by
    unfold methodKnown at r
    cases hk : s.vm.classes[m.cls]? with
    | none => rw [hk] at r; cases r
    | some k => rw [hk] at r; dsimp only at r; exact ⟨k, hk, fun cf hcf => by rw [hcf] at r; exact r⟩
  cases y with
  | java g => cases hm'; exact one _ q
  | native g => cases hm'; exact one _ q
  | _ => cases hm'
theorem arv100 {Z : State} {a0 : Array Value} {C n : String} {rhs : Term} {vs : List Value} (w1 : (Cond.initializedFor C n "[B").before a0 Z = true) (w2 : (Cond.exactly (.static C n "[B") "[B").before a0 Z = true) (w3 : (Cond.eq (.length (.static C n "[B")) (.int 100)).before a0 Z = true) (w4 : (Cond.all (.static C n "[B") (.eq (.elem (.static C n "[B") (.index 0)) rhs)).before a0 Z = true) (harr : (Cond.arrayClass .byte).before a0 Z = true)
    (hr : ∀ j, j < 100 → ∃ x, rhs.eval a0 Z none [j] Z = some (.int x) ∧ vs.getD j (.int 0) = .int x ∧ fits .byte (.int x) = true) : ∃ (t : Addr) (k : ClassId), Sta Z Z.heap C n "[B" (.ref t) ∧ Arv Z Z.heap t k .byte 100 vs (.int 0) := by
  obtain ⟨d, cB, D, kB, hev, hfcB, hcellD, hkB, hstatD, hclsD, -⟩ := Cond.exactly_spec w2
  have hevAll : ∀ idx, (Term.static C n "[B").eval a0 Z none idx Z = some (.ref d) := fun idx => by
    have : (Term.static C n "[B").eval a0 Z none idx Z = (Term.static C n "[B").eval a0 Z none [] Z := by simp only [Term.eval]
    rw [this]; exact hev
  have hl := Cond.eq_int w3 rfl
  obtain ⟨d', D', hev', harrAt, hlen⟩ := Term.length_spec hl
  cases hev.symm.trans hev'
  obtain ⟨hcellD', hknD, -, -⟩ := State.arrayAt?_spec harrAt
  cases hcellD.symm.trans hcellD'
  have h31 := SBG.length_lt hev harrAt hl
  have hsz : D.slots.size = 100 := by
    have h2 : Int32.ofNat D.slots.size = Int32.ofNat 100 := (Value.int.inj hlen).symm
    have := congrArg Int32.toInt h2
    rw [Int32.toInt_ofNat_small h31, Int32.toInt_ofNat_small (by omega)] at this; omega
  obtain ⟨cB', kB', comp, hnameB, hkB', hkindB⟩ := Cond.arrayClass_spec harr
  have eBA : ("[" ++ FieldType.toString .byte) = "[B" := by decide
  rw [eBA] at hnameB
  cases hfcB.symm.trans hnameB
  cases hkB.symm.trans hkB'
  refine ⟨d, D.cls, Sta.start hev (Or.inl w1), D, ⟨hcellD, ⟨(fun q h => by rw [h] at hstatD; cases hstatD), kB, (by rw [hclsD]; exact hkB), comp, hkindB⟩, hknD⟩, rfl, by rw [hsz]; rfl, by decide, fun i hi => ?_, fun i hi => ?_⟩
  · obtain ⟨x, e1, e2, -⟩ := hr i (by omega)
    have q := Cond.all_elim (hevAll []) harrAt (Cond.before_iff.mp w4) i hi
    obtain ⟨y, z, f1, f2, k1, k2⟩ := cmp_v (Or.inl q)
    cases e1.symm.trans f2
    obtain ⟨y', rfl⟩ : ∃ y', y = .int y' := k2
    have := gotT (Cond.eq_ints f1 f2) q
    subst this
    have hii : (Int32.ofNat i).toNatClampNeg = i := by simp only [Int32.toNatClampNeg, Int32.toInt_ofNat_small (show i < 2 ^ 31 by omega)]; omega
    have nn : ¬ Int32.ofNat i < 0 := by rw [Int32.lt_iff_toInt_lt, Int32.toInt_ofNat_small (show i < 2 ^ 31 by omega)]; show ¬ (i : Int) < 0; omega
    have g := (elem_f (hevAll [i]) (show (Term.index 0).eval a0 Z none [i] Z = some (.int (Int32.ofNat i)) from rfl) harrAt nn).symm.trans f1
    rw [hii] at g; rw [e2]; exact g
  · obtain ⟨x, e1, e2, e3⟩ := hr i (by omega)
    rw [e2]; exact e3
theorem ones_eq : ∀ t : Fin 100, (48 : Int32) + t.1.toInt32 % 10 = Int32.ofNat (48 + t.1 % 10) ∧ fits .byte (.int (Int32.ofNat (48 + t.1 % 10))) = true := by decide +kernel
theorem tens_eq : ∀ t : Fin 100, (48 : Int32) + t.1.toInt32 / 10 = Int32.ofNat (48 + t.1 / 10) ∧ fits .byte (.int (Int32.ofNat (48 + t.1 / 10))) = true := by decide +kernel
theorem pn_java_lang_String : plainName "java/lang/String" = true := by first | (simp [plainName, overriddenIn]; done) | decide +kernel
theorem pd___B : parseMethodDescriptor "()B" = some ⟨[], some .byte⟩ := by decide +kernel
theorem pn_java_lang_AbstractStringBuilder : plainName "java/lang/AbstractStringBuilder" = true := by first | (simp [plainName, overriddenIn]; done) | decide +kernel
theorem pd__Ljava_lang_String__V : parseMethodDescriptor "(Ljava/lang/String;)V" = some ⟨[(.object "java/lang/String")], none⟩ := by decide +kernel
theorem pd___BIB_V : parseMethodDescriptor "([BIB)V" = some ⟨[(.array .byte), .int, .byte], none⟩ := by decide +kernel
theorem pd___I : parseMethodDescriptor "()I" = some ⟨[], some .int⟩ := by decide +kernel
theorem pn_java_lang_StringBuilder : plainName "java/lang/StringBuilder" = true := by first | (simp [plainName, overriddenIn]; done) | decide +kernel
theorem pd__II_I : parseMethodDescriptor "(II)I" = some ⟨[.int, .int], some .int⟩ := by decide +kernel
theorem pn_jdk_internal_util_ArraysSupport : plainName "jdk/internal/util/ArraysSupport" = true := by first | (simp [plainName, overriddenIn]; done) | decide +kernel
theorem pd__III_I : parseMethodDescriptor "(III)I" = some ⟨[.int, .int, .int], some .int⟩ := by decide +kernel
theorem pn_java_util_Arrays : plainName "java/util/Arrays" = true := by first | (simp [plainName, overriddenIn]; done) | decide +kernel
theorem pd__I_I : parseMethodDescriptor "(I)I" = some ⟨[.int], some .int⟩ := by decide +kernel
theorem pd___BI__B : parseMethodDescriptor "([BI)[B" = some ⟨[(.array .byte), .int], some (.array .byte)⟩ := by decide +kernel
theorem pd__I_V : parseMethodDescriptor "(I)V" = some ⟨[.int], none⟩ := by decide +kernel
theorem pd__ILjava_lang_String__V : parseMethodDescriptor "(ILjava/lang/String;)V" = some ⟨[.int, (.object "java/lang/String")], none⟩ := by decide +kernel
theorem pd__Ljava_lang_String__Ljava_lang_AbstractStringBuilder_ : parseMethodDescriptor "(Ljava/lang/String;)Ljava/lang/AbstractStringBuilder;" = some ⟨[(.object "java/lang/String")], some (.object "java/lang/AbstractStringBuilder")⟩ := by decide +kernel
theorem pd__II_V : parseMethodDescriptor "(II)V" = some ⟨[.int, .int], none⟩ := by decide +kernel
theorem pd___BII__B : parseMethodDescriptor "([BII)[B" = some ⟨[(.array .byte), .int, .int], some (.array .byte)⟩ := by decide +kernel
theorem pd____B : parseMethodDescriptor "()[B" = some ⟨[], some (.array .byte)⟩ := by decide +kernel
theorem pd___Z : parseMethodDescriptor "()Z" = some ⟨[], some .boolean⟩ := by decide +kernel
theorem pd__Ljava_lang_AbstractStringBuilder_Ljava_lang_Void__V : parseMethodDescriptor "(Ljava/lang/AbstractStringBuilder;Ljava/lang/Void;)V" = some ⟨[(.object "java/lang/AbstractStringBuilder"), (.object "java/lang/Void")], none⟩ := by decide +kernel
theorem pd__Ljava_lang_StringBuilder__V : parseMethodDescriptor "(Ljava/lang/StringBuilder;)V" = some ⟨[(.object "java/lang/StringBuilder")], none⟩ := by decide +kernel
theorem pn_jdk_internal_util_Preconditions : plainName "jdk/internal/util/Preconditions" = true := by first | (simp [plainName, overriddenIn]; done) | decide +kernel
theorem pd__IILjava_util_function_BiFunction__I : parseMethodDescriptor "(IILjava/util/function/BiFunction;)I" = some ⟨[.int, .int, (.object "java/util/function/BiFunction")], some .int⟩ := by decide +kernel
theorem pn_java_lang_StringLatin1 : plainName "java/lang/StringLatin1" = true := by first | (simp [plainName, overriddenIn]; done) | decide +kernel
theorem pd___BI_C : parseMethodDescriptor "([BI)C" = some ⟨[(.array .byte), .int], some .char⟩ := by decide +kernel
theorem pd__C_Z : parseMethodDescriptor "(C)Z" = some ⟨[.char], some .boolean⟩ := by decide +kernel
theorem pd__C__B : parseMethodDescriptor "(C)[B" = some ⟨[.char], some (.array .byte)⟩ := by decide +kernel
theorem pd___BB_V : parseMethodDescriptor "([BB)V" = some ⟨[(.array .byte), .byte], none⟩ := by decide +kernel
theorem pn_java_lang_StringUTF16 : plainName "java/lang/StringUTF16" = true := by first | (simp [plainName, overriddenIn]; done) | decide +kernel
theorem pd___CI_BII_I : parseMethodDescriptor "([CI[BII)I" = some ⟨[(.array .char), .int, (.array .byte), .int, .int], some .int⟩ := by decide +kernel
theorem pd___CII__B : parseMethodDescriptor "([CII)[B" = some ⟨[(.array .char), .int, .int], some (.array .byte)⟩ := by decide +kernel
theorem pd___BI_B : parseMethodDescriptor "([BI)B" = some ⟨[(.array .byte), .int], some .byte⟩ := by decide +kernel
theorem pd___CIILjava_lang_Void__V : parseMethodDescriptor "([CIILjava/lang/Void;)V" = some ⟨[(.array .char), .int, .int, (.object "java/lang/Void")], none⟩ := by decide +kernel
theorem pn_java_lang_Long : plainName "java/lang/Long" = true := by first | (simp [plainName, overriddenIn]; done) | decide +kernel
theorem pd__J_I : parseMethodDescriptor "(J)I" = some ⟨[.long], some .int⟩ := by decide +kernel
theorem pd__JI_B_I : parseMethodDescriptor "(JI[B)I" = some ⟨[.long, .int, (.array .byte)], some .int⟩ := by decide +kernel
theorem pd__J_Ljava_lang_AbstractStringBuilder_ : parseMethodDescriptor "(J)Ljava/lang/AbstractStringBuilder;" = some ⟨[.long], some (.object "java/lang/AbstractStringBuilder")⟩ := by decide +kernel
theorem pd___C_V : parseMethodDescriptor "([C)V" = some ⟨[(.array .char)], none⟩ := by decide +kernel
theorem pn_com_example_fianza_fianza_InputExceptionAtPinLaw : plainName "com/example/fianza/fianza/InputExceptionAtPinLaw" = true := by first | (simp [plainName, overriddenIn]; done) | decide +kernel
theorem pd__C_Ljava_lang_String_ : parseMethodDescriptor "(C)Ljava/lang/String;" = some ⟨[.char], some (.object "java/lang/String")⟩ := by decide +kernel
theorem pn_java_lang_Throwable : plainName "java/lang/Throwable" = true := by first | (simp [plainName, overriddenIn]; done) | decide +kernel
theorem pn_java_lang_Exception : plainName "java/lang/Exception" = true := by first | (simp [plainName, overriddenIn]; done) | decide +kernel
theorem pn_java_lang_RuntimeException : plainName "java/lang/RuntimeException" = true := by first | (simp [plainName, overriddenIn]; done) | decide +kernel
theorem pn_com_example_fianza_fianza_InputException : plainName "com/example/fianza/fianza/InputException" = true := by first | (simp [plainName, overriddenIn]; done) | decide +kernel
theorem pd___V : parseMethodDescriptor "()V" = some ⟨[], none⟩ := by decide +kernel
theorem pd__Ljava_lang_String__Ljava_lang_StringBuilder_ : parseMethodDescriptor "(Ljava/lang/String;)Ljava/lang/StringBuilder;" = some ⟨[(.object "java/lang/String")], some (.object "java/lang/StringBuilder")⟩ := by decide +kernel
theorem pd__J_Ljava_lang_StringBuilder_ : parseMethodDescriptor "(J)Ljava/lang/StringBuilder;" = some ⟨[.long], some (.object "java/lang/StringBuilder")⟩ := by decide +kernel
theorem pd___Ljava_lang_String_ : parseMethodDescriptor "()Ljava/lang/String;" = some ⟨[], some (.object "java/lang/String")⟩ := by decide +kernel
theorem pd__ICC_Ljava_lang_String_ : parseMethodDescriptor "(ICC)Ljava/lang/String;" = some ⟨[.int, .char, .char], some (.object "java/lang/String")⟩ := by decide +kernel
theorem pd__Ljava_lang_String_JLjava_lang_String__Lcom_example_fianza_fianza_InputException_ : parseMethodDescriptor "(Ljava/lang/String;JLjava/lang/String;)Lcom/example/fianza/fianza/InputException;" = some ⟨[(.object "java/lang/String"), .long, (.object "java/lang/String")], some (.object "com/example/fianza/fianza/InputException")⟩ := by decide +kernel
theorem pd__I_C : parseMethodDescriptor "(I)C" = some ⟨[.int], some .char⟩ := by decide +kernel
theorem d11_0 : decode jdk_42_method_152_code 0 = .ok (.getstatic 38, 3) := by decide +kernel
theorem d11_3 : decode jdk_42_method_152_code 3 = .ok (.ifCond .eq 10, 3) := by decide +kernel
theorem d11_6 : decode jdk_42_method_152_code 6 = .ok (.aload_n 0, 1) := by decide +kernel
theorem d11_7 : decode jdk_42_method_152_code 7 = .ok (.getfield 15, 3) := by decide +kernel
theorem d11_10 : decode jdk_42_method_152_code 10 = .ok (.goto 4, 3) := by decide +kernel
theorem d11_13 : decode jdk_42_method_152_code 13 = .ok (.iconst 1, 1) := by decide +kernel
theorem d11_14 : decode jdk_42_method_152_code 14 = .ok (.ireturn, 1) := by decide +kernel
theorem c_coder (l : Launch) (Z : State) (a0 : Array Value) (hw : ∀ d ∈ tables_1, d.before a0 Z = true) (hEW : EW Z a0 consts_1) (n0 : Nat) (c1 : Int32) (hc1 : ¬ c1 = 0) (S1 : Sta Z Z.heap "java/lang/String" "COMPACT_STRINGS" "Z" (.int c1)) (v2 : Value) (hv2 : v2.isRef = true) (S2 : Sta Z Z.heap "jdk/internal/util/Preconditions" "SIOOBE_FORMATTER" "Ljava/util/function/BiFunction;" v2) (a : Addr) {h0 : Heap} (o1 : Old Z n0 h0) (Fc : Fld Z h0 a "java/lang/String" "coder" "B" (.int 0)) :
    Con Z a0 l (⟨"java/lang/String", "coder", "()B"⟩ : MethodName) jdk_42_method_152_code 1 (some .byte) ({ frames := 0, cells := 0, slots := 0, locals := 0 } : Room) [] #[(.ref a)] consts_1 h0 n0 [] [] (VV fun w h so => w = .int 0 ∧ h = h0 ∧ so = []) := by
  refine Con.body (plainFor_of_name pn_java_lang_String) hEW o1 all0 #[.val (.ref a)] (fun m => by first | (simp [entryFrame, mkF, argsToLocals, Value.category]; done) | rfl) ?_
  intro p e s m below meth c B hnm hret hlk G
  replace G := G.gets 3 (host := "") (Or.inl (hw _ (mm 89 rfl))) Via.refl (G.sta S1) d11_0 rfl |>.ifF 6 d11_3 (XT.i0_eq_f hc1) rfl |>.aloadN 7 d11_6 rfl rfl rfl |>.getf 10 (host := "") (Or.inl (hw _ (mm 25 rfl))) Via.refl Fc d11_7 rfl |>.goto 14 d11_10 (by decide) (by decide)
  exact G.retN hret (Or.inr (Or.inl rfl)) hlk d11_14 [] all0 ⟨_, rfl, rfl, rfl, rfl⟩ (nle rfl) (nle rfl)
theorem d10_0 : decode jdk_42_method_54_code 0 = .ok (.aload_n 0, 1) := by decide +kernel
theorem d10_1 : decode jdk_42_method_54_code 1 = .ok (.getfield 9, 3) := by decide +kernel
theorem d10_4 : decode jdk_42_method_54_code 4 = .ok (.arraylength, 1) := by decide +kernel
theorem d10_5 : decode jdk_42_method_54_code 5 = .ok (.aload_n 0, 1) := by decide +kernel
theorem d10_6 : decode jdk_42_method_54_code 6 = .ok (.invokevirtual 335, 3) := by decide +kernel
theorem d10_9 : decode jdk_42_method_54_code 9 = .ok (.ishr, 1) := by decide +kernel
theorem d10_10 : decode jdk_42_method_54_code 10 = .ok (.ireturn, 1) := by decide +kernel
theorem c_length (l : Launch) (Z : State) (a0 : Array Value) (hw : ∀ d ∈ tables_1, d.before a0 Z = true) (hEW : EW Z a0 consts_1) (n0 : Nat) (c1 : Int32) (hc1 : ¬ c1 = 0) (S1 : Sta Z Z.heap "java/lang/String" "COMPACT_STRINGS" "Z" (.int c1)) (v2 : Value) (hv2 : v2.isRef = true) (S2 : Sta Z Z.heap "jdk/internal/util/Preconditions" "SIOOBE_FORMATTER" "Ljava/util/function/BiFunction;" v2) (a b : Addr) (bs : List Value) {h0 : Heap} (o1 : Old Z n0 h0) (hS : Str Z h0 a b bs) :
    Con Z a0 l (⟨"java/lang/String", "length", "()I"⟩ : MethodName) jdk_42_method_54_code 1 (some .int) ({ frames := 1, cells := 0, slots := 0, locals := 13 } : Room) [] #[(.ref a)] consts_1 h0 n0 [] [] (VV fun w h so => w = .int (Int32.ofNat bs.length) ∧ h = h0 ∧ so = []) := by
  refine Con.body (plainFor_of_name pn_java_lang_String) hEW o1 all0 #[.val (.ref a)] (fun m => by first | (simp [entryFrame, mkF, argsToLocals, Value.category]; done) | rfl) ?_
  intro p e s m below meth c B hnm hret hlk G
  obtain ⟨Xa, Fc, Fv, kb, Ab⟩ := hS
  replace G := G.aloadN 1 d10_0 rfl rfl rfl |>.getf 4 (host := "") (Or.inl (hw _ (mm 24 rfl))) Via.refl Fv d10_1 rfl |>.alen 5 Ab d10_4 rfl |>.aloadN 6 d10_5 rfl rfl rfl
  obtain ⟨vc, h_c, soc, G', Kc, Qc⟩ := G.callV 9 (hw _ (mm 84 rfl)) (hw _ (mm 85 rfl)) (nfSel (hw _ (mm 87 rfl))) (hw _ (mm 87 rfl)) (hw _ (mm 86 rfl)) (hw _ (mm 6 rfl)) (hw _ (mm 88 rfl)) Xa (by decide) [] [(.int (Int32.ofNat bs.length))] rfl (c_coder l Z a0 hw hEW n0 c1 hc1 S1 v2 hv2 S2 a G.old Fc) (lenOf pd___B rfl) d10_6 rfl (nle rfl) (nle rfl) (nle rfl) (nle rfl) all0 all0 all0 rfl
  replace G := G'; clear G'
  obtain ⟨wc, qc, rfl, ec, rfl⟩ := Qc
  replace G := G.val qc
  subst ec
  replace G := G.ishr 10 d10_9 rfl |>.top (y := (.int (Int32.ofNat bs.length))) (congrArg Value.int (shr0 _))
  exact G.retI hret hlk d10_10 [] all0 ⟨_, rfl, rfl, rfl, rfl⟩ (nle rfl) (nle rfl)
theorem d14_0 : decode jdk_68_method_71_code 0 = .ok (.getstatic 18, 3) := by decide +kernel
theorem d14_3 : decode jdk_68_method_71_code 3 = .ok (.ifCond .eq 18, 3) := by decide +kernel
theorem d14_6 : decode jdk_68_method_71_code 6 = .ok (.aload_n 0, 1) := by decide +kernel
theorem d14_7 : decode jdk_68_method_71_code 7 = .ok (.getfield 22, 3) := by decide +kernel
theorem d14_10 : decode jdk_68_method_71_code 10 = .ok (.aload_n 1, 1) := by decide +kernel
theorem d14_11 : decode jdk_68_method_71_code 11 = .ok (.invokevirtual 40, 3) := by decide +kernel
theorem d14_14 : decode jdk_68_method_71_code 14 = .ok (.if_icmp .eq 7, 3) := by decide +kernel
theorem d14_17 : decode jdk_68_method_71_code 17 = .ok (.aload_n 0, 1) := by decide +kernel
theorem d14_18 : decode jdk_68_method_71_code 18 = .ok (.invokevirtual 195, 3) := by decide +kernel
theorem d14_21 : decode jdk_68_method_71_code 21 = .ok (.return_, 1) := by decide +kernel
theorem c_infl (l : Launch) (Z : State) (a0 : Array Value) (hw : ∀ d ∈ tables_1, d.before a0 Z = true) (hEW : EW Z a0 consts_1) (n0 : Nat) (c1 : Int32) (hc1 : ¬ c1 = 0) (S1 : Sta Z Z.heap "java/lang/String" "COMPACT_STRINGS" "Z" (.int c1)) (v2 : Value) (hv2 : v2.isRef = true) (S2 : Sta Z Z.heap "jdk/internal/util/Preconditions" "SIOOBE_FORMATTER" "Ljava/util/function/BiFunction;" v2) (a b a2 b2 : Addr) (cap : Nat) (bs cs : List Value) {h0 : Heap} (o1 : Old Z n0 h0) (hS : Sbd Z h0 a b cap bs) (hT : Str Z h0 a2 b2 cs) :
    Con Z a0 l (⟨"java/lang/AbstractStringBuilder", "inflateIfNeededFor", "(Ljava/lang/String;)V"⟩ : MethodName) jdk_68_method_71_code 2 (none) ({ frames := 1, cells := 0, slots := 0, locals := 13 } : Room) [] #[(.ref a), (.ref a2)] consts_1 h0 n0 [] [] (V0 fun h so => h = h0 ∧ so = []) := by
  refine Con.body (plainFor_of_name pn_java_lang_AbstractStringBuilder) hEW o1 all0 #[.val (.ref a), .val (.ref a2)] (fun m => by first | (simp [entryFrame, mkF, argsToLocals, Value.category]; done) | rfl) ?_
  intro p e s m below meth c B hnm hret hlk G
  replace G := G.gets 3 (host := "") (Or.inl (hw _ (mm 64 rfl))) Via.refl (G.sta S1) d14_0 rfl |>.ifF 6 d14_3 (XT.i0_eq_f hc1) rfl |>.aloadN 7 d14_6 rfl rfl rfl |>.getf 10 (host := "") (Or.inl (hw _ (mm 67 rfl))) Via.refl hS.2.2.1 d14_7 rfl |>.aloadN 11 d14_10 rfl rfl rfl
  obtain ⟨vc, h_c, soc, G', Kc, Qc⟩ := G.callV 14 (hw _ (mm 107 rfl)) (hw _ (mm 85 rfl)) (nfSel (hw _ (mm 87 rfl))) (hw _ (mm 87 rfl)) (hw _ (mm 86 rfl)) (hw _ (mm 6 rfl)) (hw _ (mm 88 rfl)) hT.1 (by decide) [] [(.int (0 : Int32))] rfl (c_coder l Z a0 hw hEW n0 c1 hc1 S1 v2 hv2 S2 a2 G.old hT.2.1) (lenOf pd___B rfl) d14_11 rfl (nle rfl) (nle rfl) (nle rfl) (nle rfl) all0 all0 all0 rfl
  replace G := G'; clear G'
  obtain ⟨wc, qc, rfl, ec, rfl⟩ := Qc
  replace G := G.val qc
  subst ec
  replace G := G.icmpT 21 d14_14 (XT.ii_eq_t rfl) (by decide) (by decide)
  exact G.retV hret hlk d14_21 [] all0 ⟨rfl, rfl, rfl⟩ (nle rfl) (nle rfl)
theorem d15_0 : decode jdk_42_method_147_code 0 = .ok (.aload_n 0, 1) := by decide +kernel
theorem d15_1 : decode jdk_42_method_147_code 1 = .ok (.invokevirtual 335, 3) := by decide +kernel
theorem d15_4 : decode jdk_42_method_147_code 4 = .ok (.iload_n 3, 1) := by decide +kernel
theorem d15_5 : decode jdk_42_method_147_code 5 = .ok (.if_icmp .ne 23, 3) := by decide +kernel
theorem d15_8 : decode jdk_42_method_147_code 8 = .ok (.aload_n 0, 1) := by decide +kernel
theorem d15_9 : decode jdk_42_method_147_code 9 = .ok (.getfield 9, 3) := by decide +kernel
theorem d15_12 : decode jdk_42_method_147_code 12 = .ok (.iconst 0, 1) := by decide +kernel
theorem d15_13 : decode jdk_42_method_147_code 13 = .ok (.aload_n 1, 1) := by decide +kernel
theorem d15_14 : decode jdk_42_method_147_code 14 = .ok (.iload_n 2, 1) := by decide +kernel
theorem d15_15 : decode jdk_42_method_147_code 15 = .ok (.iload_n 3, 1) := by decide +kernel
theorem d15_16 : decode jdk_42_method_147_code 16 = .ok (.ishl, 1) := by decide +kernel
theorem d15_17 : decode jdk_42_method_147_code 17 = .ok (.aload_n 0, 1) := by decide +kernel
theorem d15_18 : decode jdk_42_method_147_code 18 = .ok (.getfield 9, 3) := by decide +kernel
theorem d15_21 : decode jdk_42_method_147_code 21 = .ok (.arraylength, 1) := by decide +kernel
theorem d15_22 : decode jdk_42_method_147_code 22 = .ok (.invokestatic 212, 3) := by decide +kernel
theorem d15_25 : decode jdk_42_method_147_code 25 = .ok (.goto 18, 3) := by decide +kernel
theorem d15_28 : decode jdk_42_method_147_code 28 = .ok (.aload_n 0, 1) := by decide +kernel
theorem d15_29 : decode jdk_42_method_147_code 29 = .ok (.getfield 9, 3) := by decide +kernel
theorem d15_32 : decode jdk_42_method_147_code 32 = .ok (.iconst 0, 1) := by decide +kernel
theorem d15_33 : decode jdk_42_method_147_code 33 = .ok (.aload_n 1, 1) := by decide +kernel
theorem d15_34 : decode jdk_42_method_147_code 34 = .ok (.iload_n 2, 1) := by decide +kernel
theorem d15_35 : decode jdk_42_method_147_code 35 = .ok (.aload_n 0, 1) := by decide +kernel
theorem d15_36 : decode jdk_42_method_147_code 36 = .ok (.getfield 9, 3) := by decide +kernel
theorem d15_39 : decode jdk_42_method_147_code 39 = .ok (.arraylength, 1) := by decide +kernel
theorem d15_40 : decode jdk_42_method_147_code 40 = .ok (.invokestatic 106, 3) := by decide +kernel
theorem d15_43 : decode jdk_42_method_147_code 43 = .ok (.return_, 1) := by decide +kernel
theorem c_getB (l : Launch) (Z : State) (a0 : Array Value) (hw : ∀ d ∈ tables_1, d.before a0 Z = true) (hEW : EW Z a0 consts_1) (n0 : Nat) (c1 : Int32) (hc1 : ¬ c1 = 0) (S1 : Sta Z Z.heap "java/lang/String" "COMPACT_STRINGS" "Z" (.int c1)) (v2 : Value) (hv2 : v2.isRef = true) (S2 : Sta Z Z.heap "jdk/internal/util/Preconditions" "SIOOBE_FORMATTER" "Ljava/util/function/BiFunction;" v2) (a2 b2 b : Addr) (kb : ClassId) (cap : Nat) (bs cs : List Value) {h0 : Heap} (o1 : Old Z n0 h0) (ge_b : n0 ≤ b) (hle : bs.length + cs.length ≤ cap) (hcap : cap < 2147483648) (hT : Str Z h0 a2 b2 cs) (Ab : Arv Z h0 b kb .byte (Int32.ofNat cap) bs (.int 0)) :
    Con Z a0 l (⟨"java/lang/String", "getBytes", "([BIB)V"⟩ : MethodName) jdk_42_method_147_code 4 (none) ({ frames := 1, cells := 0, slots := 0, locals := 41 } : Room) [] #[(.ref a2), (.ref b), (.int (Int32.ofNat bs.length)), (.int (0 : Int32))] consts_1 h0 n0 [b] [b] (V0 fun h so => Arv Z h b kb .byte (Int32.ofNat cap) (bs ++ cs) (.int 0) ∧ so = []) := by
  refine Con.body (plainFor_of_name pn_java_lang_String) hEW o1 (allS ge_b all0) #[.val (.ref a2), .val (.ref b), .val (.int (Int32.ofNat bs.length)), .val (.int (0 : Int32))] (fun m => by first | (simp [entryFrame, mkF, argsToLocals, Value.category]; done) | rfl) ?_
  intro p e s m below meth c B hnm hret hlk G
  obtain ⟨Xa2, Fc2, Fv2, kb2, Ab2⟩ := hT
  replace G := G.aloadN 1 d15_0 rfl rfl rfl
  obtain ⟨vc, h_c, soc, G', Kc, Qc⟩ := G.callV 4 (hw _ (mm 84 rfl)) (hw _ (mm 85 rfl)) (nfSel (hw _ (mm 87 rfl))) (hw _ (mm 87 rfl)) (hw _ (mm 86 rfl)) (hw _ (mm 6 rfl)) (hw _ (mm 88 rfl)) Xa2 (by decide) [] [] rfl (c_coder l Z a0 hw hEW n0 c1 hc1 S1 v2 hv2 S2 a2 G.old Fc2) (lenOf pd___B rfl) d15_1 rfl (nle rfl) (nle rfl) (nle rfl) (nle rfl) all0 all0 all0 rfl
  replace G := G'; clear G'
  obtain ⟨wc, qc, rfl, ec, rfl⟩ := Qc
  replace G := G.val qc
  subst ec
  replace G := G.iloadN 5 d15_4 rfl rfl |>.icmpF 8 d15_5 (XT.ii_ne_f rfl) rfl |>.aloadN 9 d15_8 rfl rfl rfl |>.getf 12 (host := "") (Or.inl (hw _ (mm 24 rfl))) Via.refl Fv2 d15_9 rfl |>.iconst 13 (0 : Int32) d15_12 rfl rfl |>.aloadN 14 d15_13 rfl rfl rfl |>.iloadN 15 d15_14 rfl rfl |>.iloadN 16 d15_15 rfl rfl
  replace G := G.ishl 17 d15_16 rfl |>.top (y := (.int (Int32.ofNat bs.length))) (congrArg Value.int (shl0 _)) |>.aloadN 18 d15_17 rfl rfl rfl |>.getf 21 (host := "") (Or.inl (hw _ (mm 24 rfl))) Via.refl Fv2 d15_18 rfl |>.alen 22 Ab2 d15_21 rfl
  have m1 : bs.length < 2147483648 := by omega
  have m2 : cs.length < 2147483648 := by omega
  have Ab' := Ab.pad (vs' := bs ++ List.replicate cs.length (.int 0)) (pad_rep bs (.int 0) cs.length)
  obtain ⟨h1, G', Ap, Kp⟩ := G.cpy 25 (hw _ (mm 113 rfl)) (hw _ (mm 116 rfl)) (hw _ (mm 114 rfl)) (hw _ (mm 115 rfl)) Ab2 Ab' rfl (by decide) (ofn_nn m1) (ofn_nn m2) (by rw [ofn_nat m2]; exact Nat.le_of_eq (Nat.zero_add _)) (by rw [ofn_nat m1, ofn_nat m2, ofn_nat hcap]; exact hle) (by rw [ofn_nat m1, ofn_nat m2]; simp) (Or.inl (mm 0 rfl)) (mm 0 rfl) d15_22 rfl (nle rfl) (nle rfl) rfl
  replace G := G'; clear G'
  rw [ofn_nat m1, ofn_nat m2, show (0 : Int32).toNatClampNeg = 0 from rfl, cpy_res] at Ap
  replace G := G.goto 43 d15_25 (by decide) (by decide)
  exact G.retV hret hlk d15_43 [] all0 ⟨rfl, Ap, rfl⟩ (nle rfl) (nle rfl)
theorem d13_0 : decode jdk_68_method_73_code 0 = .ok (.aload_n 0, 1) := by decide +kernel
theorem d13_1 : decode jdk_68_method_73_code 1 = .ok (.aload_n 2, 1) := by decide +kernel
theorem d13_2 : decode jdk_68_method_73_code 2 = .ok (.invokevirtual 397, 3) := by decide +kernel
theorem d13_5 : decode jdk_68_method_73_code 5 = .ok (.aload_n 2, 1) := by decide +kernel
theorem d13_6 : decode jdk_68_method_73_code 6 = .ok (.aload_n 0, 1) := by decide +kernel
theorem d13_7 : decode jdk_68_method_73_code 7 = .ok (.getfield 15, 3) := by decide +kernel
theorem d13_10 : decode jdk_68_method_73_code 10 = .ok (.iload_n 1, 1) := by decide +kernel
theorem d13_11 : decode jdk_68_method_73_code 11 = .ok (.aload_n 0, 1) := by decide +kernel
theorem d13_12 : decode jdk_68_method_73_code 12 = .ok (.getfield 22, 3) := by decide +kernel
theorem d13_15 : decode jdk_68_method_73_code 15 = .ok (.invokevirtual 399, 3) := by decide +kernel
theorem d13_18 : decode jdk_68_method_73_code 18 = .ok (.return_, 1) := by decide +kernel
theorem c_putStr (l : Launch) (Z : State) (a0 : Array Value) (hw : ∀ d ∈ tables_1, d.before a0 Z = true) (hEW : EW Z a0 consts_1) (n0 : Nat) (c1 : Int32) (hc1 : ¬ c1 = 0) (S1 : Sta Z Z.heap "java/lang/String" "COMPACT_STRINGS" "Z" (.int c1)) (v2 : Value) (hv2 : v2.isRef = true) (S2 : Sta Z Z.heap "jdk/internal/util/Preconditions" "SIOOBE_FORMATTER" "Ljava/util/function/BiFunction;" v2) (a b a2 b2 : Addr) (cap : Nat) (bs cs : List Value) {h0 : Heap} (o1 : Old Z n0 h0) (ge_b : n0 ≤ b) (hle : bs.length + cs.length ≤ cap) (hcap : cap < 2147483648) (hS : Sbd Z h0 a b cap bs) (hT : Str Z h0 a2 b2 cs) :
    Con Z a0 l (⟨"java/lang/AbstractStringBuilder", "putStringAt", "(ILjava/lang/String;)V"⟩ : MethodName) jdk_68_method_73_code 3 (none) ({ frames := 2, cells := 0, slots := 0, locals := 56 } : Room) [] #[(.ref a), (.int (Int32.ofNat bs.length)), (.ref a2)] consts_1 h0 n0 [b] [b] (V0 fun h so => (∃ k, Arv Z h b k .byte (Int32.ofNat cap) (bs ++ cs) (.int 0)) ∧ so = []) := by
  refine Con.body (plainFor_of_name pn_java_lang_AbstractStringBuilder) hEW o1 (allS ge_b all0) #[.val (.ref a), .val (.int (Int32.ofNat bs.length)), .val (.ref a2)] (fun m => by first | (simp [entryFrame, mkF, argsToLocals, Value.category]; done) | rfl) ?_
  intro p e s m below meth c B hnm hret hlk G
  replace G := G.aloadN 1 d13_0 rfl rfl rfl |>.aloadN 2 d13_1 rfl rfl rfl
  obtain ⟨vi, h_i, soi, G', Ki, Qi⟩ := G.callV 5 (hw _ (mm 102 rfl)) (declOf (hw _ (mm 103 rfl)) (hw _ (mm 106 rfl))) (nfSel (hw _ (mm 105 rfl))) (hw _ (mm 105 rfl)) (hw _ (mm 103 rfl)) (hw _ (mm 61 rfl)) (hw _ (mm 106 rfl)) hS.1 (by decide) [(.ref a2)] [] rfl (c_infl l Z a0 hw hEW n0 c1 hc1 S1 v2 hv2 S2 a b a2 b2 cap bs cs G.old hS hT) (lenOf pd__Ljava_lang_String__V rfl) d13_2 rfl (nle rfl) (nle rfl) (nle rfl) (nle rfl) all0 all0 all0 rfl
  replace G := G'; clear G'
  obtain ⟨qi, ei, rfl⟩ := Qi
  replace G := G.nov qi
  subst ei
  obtain ⟨Xa, Fv, Fc, Fn, kb, Ab⟩ := hS
  replace G := G.aloadN 6 d13_5 rfl rfl rfl |>.aloadN 7 d13_6 rfl rfl rfl |>.getf 10 (host := "") (Or.inl (hw _ (mm 65 rfl))) Via.refl Fv d13_7 rfl |>.iloadN 11 d13_10 rfl rfl |>.aloadN 12 d13_11 rfl rfl rfl |>.getf 15 (host := "") (Or.inl (hw _ (mm 67 rfl))) Via.refl Fc d13_12 rfl
  obtain ⟨vg, h1, sog, G', Kg, Qg⟩ := G.callV 18 (hw _ (mm 108 rfl)) (hw _ (mm 109 rfl)) (nfSel (hw _ (mm 111 rfl))) (hw _ (mm 111 rfl)) (hw _ (mm 110 rfl)) (hw _ (mm 6 rfl)) (hw _ (mm 112 rfl)) hT.1 (by decide) [(.ref b), (.int (Int32.ofNat bs.length)), (.int (0 : Int32))] [] rfl (c_getB l Z a0 hw hEW n0 c1 hc1 S1 v2 hv2 S2 a2 b2 b kb cap bs cs G.old ge_b hle hcap hT Ab) (lenOf pd___BIB_V rfl) d13_15 rfl (nle rfl) (nle rfl) (nle rfl) (nle rfl) (allS (Or.inl (mm 0 rfl)) all0) (allS (mm 0 rfl) all0) (allS (mm 0 rfl) all0) rfl
  replace G := G'; clear G'
  obtain ⟨qg, Ag, rfl⟩ := Qg
  replace G := G.nov qg
  exact G.retV hret hlk d13_18 [] all0 ⟨rfl, ⟨kb, Ag⟩, rfl⟩ (nle rfl) (nle rfl)
theorem d24_0 : decode jdk_68_method_64_code 0 = .ok (.aload_n 0, 1) := by decide +kernel
theorem d24_1 : decode jdk_68_method_64_code 1 = .ok (.getfield 15, 3) := by decide +kernel
theorem d24_4 : decode jdk_68_method_64_code 4 = .ok (.areturn, 1) := by decide +kernel
theorem c_getVal (l : Launch) (Z : State) (a0 : Array Value) (hw : ∀ d ∈ tables_1, d.before a0 Z = true) (hEW : EW Z a0 consts_1) (n0 : Nat) (c1 : Int32) (hc1 : ¬ c1 = 0) (S1 : Sta Z Z.heap "java/lang/String" "COMPACT_STRINGS" "Z" (.int c1)) (v2 : Value) (hv2 : v2.isRef = true) (S2 : Sta Z Z.heap "jdk/internal/util/Preconditions" "SIOOBE_FORMATTER" "Ljava/util/function/BiFunction;" v2) (a b : Addr) (cap : Nat) (bs : List Value) {h0 : Heap} (o1 : Old Z n0 h0) (hS : Sbd Z h0 a b cap bs) :
    Con Z a0 l (⟨"java/lang/AbstractStringBuilder", "getValue", "()[B"⟩ : MethodName) jdk_68_method_64_code 1 (some (.array .byte)) ({ frames := 0, cells := 0, slots := 0, locals := 0 } : Room) [] #[(.ref a)] consts_1 h0 n0 [] [] (VV fun w h so => w = .ref b ∧ h = h0 ∧ so = []) := by
  refine Con.body (plainFor_of_name pn_java_lang_AbstractStringBuilder) hEW o1 all0 #[.val (.ref a)] (fun m => by first | (simp [entryFrame, mkF, argsToLocals, Value.category]; done) | rfl) ?_
  intro p e s m below meth c B hnm hret hlk G
  replace G := G.aloadN 1 d24_0 rfl rfl rfl |>.getf 4 (host := "") (Or.inl (hw _ (mm 65 rfl))) Via.refl hS.2.1 d24_1 rfl
  exact G.retA hret rfl rfl hlk d24_4 [] all0 ⟨_, rfl, rfl, rfl, rfl⟩ (nle rfl) (nle rfl)
theorem d26_0 : decode jdk_68_method_6_code 0 = .ok (.aload_n 0, 1) := by decide +kernel
theorem d26_1 : decode jdk_68_method_6_code 1 = .ok (.getfield 79, 3) := by decide +kernel
theorem d26_4 : decode jdk_68_method_6_code 4 = .ok (.ireturn, 1) := by decide +kernel
theorem c_asbLen (l : Launch) (Z : State) (a0 : Array Value) (hw : ∀ d ∈ tables_1, d.before a0 Z = true) (hEW : EW Z a0 consts_1) (n0 : Nat) (c1 : Int32) (hc1 : ¬ c1 = 0) (S1 : Sta Z Z.heap "java/lang/String" "COMPACT_STRINGS" "Z" (.int c1)) (v2 : Value) (hv2 : v2.isRef = true) (S2 : Sta Z Z.heap "jdk/internal/util/Preconditions" "SIOOBE_FORMATTER" "Ljava/util/function/BiFunction;" v2) (a b : Addr) (cap : Nat) (bs : List Value) {h0 : Heap} (o1 : Old Z n0 h0) (hS : Sbd Z h0 a b cap bs) :
    Con Z a0 l (⟨"java/lang/AbstractStringBuilder", "length", "()I"⟩ : MethodName) jdk_68_method_6_code 1 (some .int) ({ frames := 0, cells := 0, slots := 0, locals := 0 } : Room) [] #[(.ref a)] consts_1 h0 n0 [] [] (VV fun w h so => w = .int (Int32.ofNat bs.length) ∧ h = h0 ∧ so = []) := by
  refine Con.body (plainFor_of_name pn_java_lang_AbstractStringBuilder) hEW o1 all0 #[.val (.ref a)] (fun m => by first | (simp [entryFrame, mkF, argsToLocals, Value.category]; done) | rfl) ?_
  intro p e s m below meth c B hnm hret hlk G
  replace G := G.aloadN 1 d26_0 rfl rfl rfl |>.getf 4 (host := "") (Or.inl (hw _ (mm 90 rfl))) Via.refl hS.2.2.2.1 d26_1 rfl
  exact G.retI hret hlk d26_4 [] all0 ⟨_, rfl, rfl, rfl, rfl⟩ (nle rfl) (nle rfl)
theorem d25_0 : decode jdk_67_method_93_code 0 = .ok (.aload_n 0, 1) := by decide +kernel
theorem d25_1 : decode jdk_67_method_93_code 1 = .ok (.invokespecial 343, 3) := by decide +kernel
theorem d25_4 : decode jdk_67_method_93_code 4 = .ok (.ireturn, 1) := by decide +kernel
theorem c_sbLen (l : Launch) (Z : State) (a0 : Array Value) (hw : ∀ d ∈ tables_1, d.before a0 Z = true) (hEW : EW Z a0 consts_1) (n0 : Nat) (c1 : Int32) (hc1 : ¬ c1 = 0) (S1 : Sta Z Z.heap "java/lang/String" "COMPACT_STRINGS" "Z" (.int c1)) (v2 : Value) (hv2 : v2.isRef = true) (S2 : Sta Z Z.heap "jdk/internal/util/Preconditions" "SIOOBE_FORMATTER" "Ljava/util/function/BiFunction;" v2) (a b : Addr) (cap : Nat) (bs : List Value) {h0 : Heap} (o1 : Old Z n0 h0) (hS : Sbd Z h0 a b cap bs) :
    Con Z a0 l (⟨"java/lang/StringBuilder", "length", "()I"⟩ : MethodName) jdk_67_method_93_code 1 (some .int) ({ frames := 1, cells := 0, slots := 0, locals := 12 } : Room) [] #[(.ref a)] consts_1 h0 n0 [] [] (VV fun w h so => w = .int (Int32.ofNat bs.length) ∧ h = h0 ∧ so = []) := by
  refine Con.body (plainFor_of_name pn_java_lang_StringBuilder) hEW o1 all0 #[.val (.ref a)] (fun m => by first | (simp [entryFrame, mkF, argsToLocals, Value.category]; done) | rfl) ?_
  intro p e s m below meth c B hnm hret hlk G
  replace G := G.aloadN 1 d25_0 rfl rfl rfl
  obtain ⟨vl, h_l, sol, G', Kl, Ql⟩ := G.callSup 4 (hw _ (mm 167 rfl)) (sameOf (hw _ (mm 163 rfl)) (nfVia (y := (⟨"java/lang/AbstractStringBuilder", "ensureCapacityInternal", "(I)V"⟩ : MethodName)) rfl (hw _ (mm 95 rfl)) (hw _ (mm 93 rfl))) (by decide)) (hw _ (mm 163 rfl)) (hw _ (mm 76 rfl)) (by decide) (hw _ (mm 61 rfl)) (hw _ (mm 168 rfl)) (Ins.self hS.1) [] [] rfl (c_asbLen l Z a0 hw hEW n0 c1 hc1 S1 v2 hv2 S2 a b cap bs G.old hS) (lenOf pd___I rfl) d25_1 rfl (nle rfl) (nle rfl) (nle rfl) (nle rfl) all0 all0 all0 rfl
  replace G := G'; clear G'
  obtain ⟨wl, ql, rfl, el, rfl⟩ := Ql
  replace G := G.val ql
  subst el
  exact G.retI hret hlk d25_4 [] all0 ⟨_, rfl, rfl, rfl, rfl⟩ (nle rfl) (nle rfl)
theorem d19_0 : decode jdk_68_method_68_code 0 = .ok (.getstatic 18, 3) := by decide +kernel
theorem d19_3 : decode jdk_68_method_68_code 3 = .ok (.ifCond .eq 14, 3) := by decide +kernel
theorem d19_6 : decode jdk_68_method_68_code 6 = .ok (.aload_n 0, 1) := by decide +kernel
theorem d19_7 : decode jdk_68_method_68_code 7 = .ok (.getfield 22, 3) := by decide +kernel
theorem d19_10 : decode jdk_68_method_68_code 10 = .ok (.ifCond .ne 7, 3) := by decide +kernel
theorem d19_13 : decode jdk_68_method_68_code 13 = .ok (.iconst 1, 1) := by decide +kernel
theorem d19_14 : decode jdk_68_method_68_code 14 = .ok (.goto 4, 3) := by decide +kernel
theorem d19_17 : decode jdk_68_method_68_code 17 = .ok (.iconst 0, 1) := by decide +kernel
theorem d19_18 : decode jdk_68_method_68_code 18 = .ok (.ireturn, 1) := by decide +kernel
theorem c_isL1 (l : Launch) (Z : State) (a0 : Array Value) (hw : ∀ d ∈ tables_1, d.before a0 Z = true) (hEW : EW Z a0 consts_1) (n0 : Nat) (c1 : Int32) (hc1 : ¬ c1 = 0) (S1 : Sta Z Z.heap "java/lang/String" "COMPACT_STRINGS" "Z" (.int c1)) (v2 : Value) (hv2 : v2.isRef = true) (S2 : Sta Z Z.heap "jdk/internal/util/Preconditions" "SIOOBE_FORMATTER" "Ljava/util/function/BiFunction;" v2) (a b : Addr) (cap : Nat) (bs : List Value) {h0 : Heap} (o1 : Old Z n0 h0) (hS : Sbd Z h0 a b cap bs) :
    Con Z a0 l (⟨"java/lang/AbstractStringBuilder", "isLatin1", "()Z"⟩ : MethodName) jdk_68_method_68_code 1 (some .boolean) ({ frames := 0, cells := 0, slots := 0, locals := 0 } : Room) [] #[(.ref a)] consts_1 h0 n0 [] [] (VV fun w h so => w = .int 1 ∧ h = h0 ∧ so = []) := by
  refine Con.body (plainFor_of_name pn_java_lang_AbstractStringBuilder) hEW o1 all0 #[.val (.ref a)] (fun m => by first | (simp [entryFrame, mkF, argsToLocals, Value.category]; done) | rfl) ?_
  intro p e s m below meth c B hnm hret hlk G
  replace G := G.gets 3 (host := "") (Or.inl (hw _ (mm 64 rfl))) Via.refl (G.sta S1) d19_0 rfl |>.ifF 6 d19_3 (XT.i0_eq_f hc1) rfl |>.aloadN 7 d19_6 rfl rfl rfl |>.getf 10 (host := "") (Or.inl (hw _ (mm 67 rfl))) Via.refl hS.2.2.1 d19_7 rfl |>.ifF 13 d19_10 (XT.i0_ne_f rfl) rfl |>.iconst 14 (1 : Int32) d19_13 rfl rfl |>.goto 18 d19_14 (by decide) (by decide)
  exact G.retN hret (Or.inl rfl) hlk d19_18 [] all0 ⟨_, rfl, rfl, rfl, rfl⟩ (nle rfl) (nle rfl)
theorem d45_0 : decode jdk_29_method_65_code 0 = .ok (.iload_n 0, 1) := by decide +kernel
theorem d45_1 : decode jdk_29_method_65_code 1 = .ok (.iload_n 1, 1) := by decide +kernel
theorem d45_2 : decode jdk_29_method_65_code 2 = .ok (.if_icmp .lt 7, 3) := by decide +kernel
theorem d45_5 : decode jdk_29_method_65_code 5 = .ok (.iload_n 0, 1) := by decide +kernel
theorem d45_6 : decode jdk_29_method_65_code 6 = .ok (.goto 4, 3) := by decide +kernel
theorem d45_9 : decode jdk_29_method_65_code 9 = .ok (.iload_n 1, 1) := by decide +kernel
theorem d45_10 : decode jdk_29_method_65_code 10 = .ok (.ireturn, 1) := by decide +kernel
theorem c_max (l : Launch) (Z : State) (a0 : Array Value) (hw : ∀ d ∈ tables_1, d.before a0 Z = true) (hEW : EW Z a0 consts_1) (n0 : Nat) (c1 : Int32) (hc1 : ¬ c1 = 0) (S1 : Sta Z Z.heap "java/lang/String" "COMPACT_STRINGS" "Z" (.int c1)) (v2 : Value) (hv2 : v2.isRef = true) (S2 : Sta Z Z.heap "jdk/internal/util/Preconditions" "SIOOBE_FORMATTER" "Ljava/util/function/BiFunction;" v2) (x y : Nat) {h0 : Heap} (o1 : Old Z n0 h0) (hx : x < 2147483648) (hy : y < 2147483648) :
    Con Z a0 l (⟨"java/lang/Math", "max", "(II)I"⟩ : MethodName) jdk_29_method_65_code 2 (some .int) ({ frames := 0, cells := 0, slots := 0, locals := 0 } : Room) [] #[(.int (Int32.ofNat x)), (.int (Int32.ofNat y))] consts_1 h0 n0 [] [] (VV fun w h so => w = .int (Int32.ofNat (max x y)) ∧ h = h0 ∧ so = []) := by
  refine Con.body (by decide +kernel) hEW o1 all0 #[.val (.int (Int32.ofNat x)), .val (.int (Int32.ofNat y))] (fun m => by first | (simp [entryFrame, mkF, argsToLocals, Value.category]; done) | rfl) ?_
  intro p e s m below meth c B hnm hret hlk G
  rcases Nat.lt_or_ge x y with q | q
  · skip
    replace G := G.iloadN 1 d45_0 rfl rfl |>.iloadN 2 d45_1 rfl rfl |>.icmpT 9 d45_2 (XT.ii_lt_t (ofn_lt q hy)) (by decide) (by decide) |>.iloadN 10 d45_9 rfl rfl
    exact G.retI hret hlk d45_10 [] all0 ⟨_, rfl, by rw [Nat.max_eq_right (Nat.le_of_lt q)], rfl, rfl⟩ (nle rfl) (nle rfl)
  · skip
    replace G := G.iloadN 1 d45_0 rfl rfl |>.iloadN 2 d45_1 rfl rfl |>.icmpF 5 d45_2 (XT.ii_lt_f (ofn_nlt q hx)) rfl |>.iloadN 6 d45_5 rfl rfl |>.goto 10 d45_6 (by decide) (by decide)
    exact G.retI hret hlk d45_10 [] all0 ⟨_, rfl, by rw [Nat.max_eq_left q], rfl, rfl⟩ (nle rfl) (nle rfl)
theorem d44_0 : decode jdk_48_method_27_code 0 = .ok (.iload_n 0, 1) := by decide +kernel
theorem d44_1 : decode jdk_48_method_27_code 1 = .ok (.iload_n 1, 1) := by decide +kernel
theorem d44_2 : decode jdk_48_method_27_code 2 = .ok (.iload_n 2, 1) := by decide +kernel
theorem d44_3 : decode jdk_48_method_27_code 3 = .ok (.invokestatic 194, 3) := by decide +kernel
theorem d44_6 : decode jdk_48_method_27_code 6 = .ok (.iadd, 1) := by decide +kernel
theorem d44_7 : decode jdk_48_method_27_code 7 = .ok (.istore_n 3, 1) := by decide +kernel
theorem d44_8 : decode jdk_48_method_27_code 8 = .ok (.iconst 0, 1) := by decide +kernel
theorem d44_9 : decode jdk_48_method_27_code 9 = .ok (.iload_n 3, 1) := by decide +kernel
theorem d44_10 : decode jdk_48_method_27_code 10 = .ok (.if_icmp .ge 11, 3) := by decide +kernel
theorem d44_13 : decode jdk_48_method_27_code 13 = .ok (.iload_n 3, 1) := by decide +kernel
theorem d44_14 : decode jdk_48_method_27_code 14 = .ok (.ldc 200, 2) := by decide +kernel
theorem d44_16 : decode jdk_48_method_27_code 16 = .ok (.if_icmp .gt 5, 3) := by decide +kernel
theorem d44_19 : decode jdk_48_method_27_code 19 = .ok (.iload_n 3, 1) := by decide +kernel
theorem d44_20 : decode jdk_48_method_27_code 20 = .ok (.ireturn, 1) := by decide +kernel
theorem d44_21 : decode jdk_48_method_27_code 21 = .ok (.iload_n 0, 1) := by decide +kernel
theorem d44_22 : decode jdk_48_method_27_code 22 = .ok (.iload_n 1, 1) := by decide +kernel
theorem d44_23 : decode jdk_48_method_27_code 23 = .ok (.invokestatic 201, 3) := by decide +kernel
theorem d44_26 : decode jdk_48_method_27_code 26 = .ok (.ireturn, 1) := by decide +kernel
theorem c_newLen (l : Launch) (Z : State) (a0 : Array Value) (hw : ∀ d ∈ tables_1, d.before a0 Z = true) (hEW : EW Z a0 consts_1) (n0 : Nat) (c1 : Int32) (hc1 : ¬ c1 = 0) (S1 : Sta Z Z.heap "java/lang/String" "COMPACT_STRINGS" "Z" (.int c1)) (v2 : Value) (hv2 : v2.isRef = true) (S2 : Sta Z Z.heap "jdk/internal/util/Preconditions" "SIOOBE_FORMATTER" "Ljava/util/function/BiFunction;" v2) (o g p' : Nat) {h0 : Heap} (o1 : Old Z n0 h0) (h1 : 0 < p') (h2 : o < 100000) (h3 : g < 100000) (h4 : p' < 100000) :
    Con Z a0 l (⟨"jdk/internal/util/ArraysSupport", "newLength", "(III)I"⟩ : MethodName) jdk_48_method_27_code 4 (some .int) ({ frames := 1, cells := 0, slots := 0, locals := 14 } : Room) [] #[(.int (Int32.ofNat o)), (.int (Int32.ofNat g)), (.int (Int32.ofNat p'))] consts_1 h0 n0 [] [] (VV fun w h so => w = .int (Int32.ofNat (o + max g p')) ∧ h = h0 ∧ so = []) := by
  refine Con.body (plainFor_of_name pn_jdk_internal_util_ArraysSupport) hEW o1 all0 #[.val (.int (Int32.ofNat o)), .val (.int (Int32.ofNat g)), .val (.int (Int32.ofNat p')), .unset] (fun m => by first | (simp [entryFrame, mkF, argsToLocals, Value.category]; done) | rfl) ?_
  intro p e s m below meth c B hnm hret hlk G
  replace G := G.iloadN 1 d44_0 rfl rfl |>.iloadN 2 d44_1 rfl rfl |>.iloadN 3 d44_2 rfl rfl
  obtain ⟨vm1, h_m, som1, G', Km1, Qm1⟩ := G.callS 6 (hw _ (mm 283 rfl)) (hw _ (mm 284 rfl)) (hw _ (mm 182 rfl)) (hw _ (mm 285 rfl)) (by decide) [(.int (Int32.ofNat g)), (.int (Int32.ofNat p'))] [(.int (Int32.ofNat o))] rfl (c_max l Z a0 hw hEW n0 c1 hc1 S1 v2 hv2 S2 g p' G.old (by omega) (by omega)) (lenOf pd__II_I rfl) d44_3 rfl (nle rfl) (nle rfl) (nle rfl) (nle rfl) all0 all0 all0 rfl
  replace G := G'; clear G'
  obtain ⟨wm1, qm1, rfl, em, rfl⟩ := Qm1
  replace G := G.val qm1
  subst em
  replace G := G.iadd 7 d44_6 rfl |>.top (y := (.int (Int32.ofNat (o + max g p')))) (congrArg Value.int (ofn_add _ _)) |>.istoreN 8 #[.val (.int (Int32.ofNat o)), .val (.int (Int32.ofNat g)), .val (.int (Int32.ofNat p')), .val (.int (Int32.ofNat (o + max g p')))] d44_7 rfl rfl |>.iconst 9 (0 : Int32) d44_8 rfl rfl |>.iloadN 10 d44_9 rfl rfl |>.icmpF 13 d44_10 (XT.ii_ge_f (ofn_lt (i := 0) (by omega) (by omega))) rfl |>.iloadN 14 d44_13 rfl rfl |>.ldcI 16 (hw _ (mm 286 rfl)) d44_14 rfl
  replace G := G.icmpF 19 d44_16 (XT.ii_gt_f (ofn_nlt (i := 2147483639) (by omega) (by decide))) rfl |>.iloadN 20 d44_19 rfl rfl
  exact G.retI hret hlk d44_20 [] all0 ⟨_, rfl, rfl, rfl, rfl⟩ (nle rfl) (nle rfl)
theorem d43_0 : decode jdk_68_method_10_code 0 = .ok (.aload_n 0, 1) := by decide +kernel
theorem d43_1 : decode jdk_68_method_10_code 1 = .ok (.getfield 15, 3) := by decide +kernel
theorem d43_4 : decode jdk_68_method_10_code 4 = .ok (.arraylength, 1) := by decide +kernel
theorem d43_5 : decode jdk_68_method_10_code 5 = .ok (.istore_n 2, 1) := by decide +kernel
theorem d43_6 : decode jdk_68_method_10_code 6 = .ok (.iload_n 1, 1) := by decide +kernel
theorem d43_7 : decode jdk_68_method_10_code 7 = .ok (.aload_n 0, 1) := by decide +kernel
theorem d43_8 : decode jdk_68_method_10_code 8 = .ok (.getfield 22, 3) := by decide +kernel
theorem d43_11 : decode jdk_68_method_10_code 11 = .ok (.ishl, 1) := by decide +kernel
theorem d43_12 : decode jdk_68_method_10_code 12 = .ok (.istore_n 3, 1) := by decide +kernel
theorem d43_13 : decode jdk_68_method_10_code 13 = .ok (.iload_n 3, 1) := by decide +kernel
theorem d43_14 : decode jdk_68_method_10_code 14 = .ok (.iload_n 2, 1) := by decide +kernel
theorem d43_15 : decode jdk_68_method_10_code 15 = .ok (.isub, 1) := by decide +kernel
theorem d43_16 : decode jdk_68_method_10_code 16 = .ok (.istore 4, 2) := by decide +kernel
theorem d43_18 : decode jdk_68_method_10_code 18 = .ok (.iload_n 2, 1) := by decide +kernel
theorem d43_19 : decode jdk_68_method_10_code 19 = .ok (.iload 4, 2) := by decide +kernel
theorem d43_21 : decode jdk_68_method_10_code 21 = .ok (.iload_n 2, 1) := by decide +kernel
theorem d43_22 : decode jdk_68_method_10_code 22 = .ok (.iconst 2, 1) := by decide +kernel
theorem d43_23 : decode jdk_68_method_10_code 23 = .ok (.aload_n 0, 1) := by decide +kernel
theorem d43_24 : decode jdk_68_method_10_code 24 = .ok (.getfield 22, 3) := by decide +kernel
theorem d43_27 : decode jdk_68_method_10_code 27 = .ok (.ishl, 1) := by decide +kernel
theorem d43_28 : decode jdk_68_method_10_code 28 = .ok (.iadd, 1) := by decide +kernel
theorem d43_29 : decode jdk_68_method_10_code 29 = .ok (.invokestatic 114, 3) := by decide +kernel
theorem d43_32 : decode jdk_68_method_10_code 32 = .ok (.istore 5, 2) := by decide +kernel
theorem d43_34 : decode jdk_68_method_10_code 34 = .ok (.iload 5, 2) := by decide +kernel
theorem d43_36 : decode jdk_68_method_10_code 36 = .ok (.ldc 39, 2) := by decide +kernel
theorem d43_38 : decode jdk_68_method_10_code 38 = .ok (.if_icmp .ne 13, 3) := by decide +kernel
theorem d43_41 : decode jdk_68_method_10_code 41 = .ok (.new 120, 3) := by decide +kernel
theorem d43_44 : decode jdk_68_method_10_code 44 = .ok (.dup, 1) := by decide +kernel
theorem d43_45 : decode jdk_68_method_10_code 45 = .ok (.ldc 122, 2) := by decide +kernel
theorem d43_47 : decode jdk_68_method_10_code 47 = .ok (.invokespecial 124, 3) := by decide +kernel
theorem d43_50 : decode jdk_68_method_10_code 50 = .ok (.athrow, 1) := by decide +kernel
theorem d43_51 : decode jdk_68_method_10_code 51 = .ok (.iload 5, 2) := by decide +kernel
theorem d43_53 : decode jdk_68_method_10_code 53 = .ok (.aload_n 0, 1) := by decide +kernel
theorem d43_54 : decode jdk_68_method_10_code 54 = .ok (.getfield 22, 3) := by decide +kernel
theorem d43_57 : decode jdk_68_method_10_code 57 = .ok (.ishr, 1) := by decide +kernel
theorem d43_58 : decode jdk_68_method_10_code 58 = .ok (.ireturn, 1) := by decide +kernel
theorem c_newCap (l : Launch) (Z : State) (a0 : Array Value) (hw : ∀ d ∈ tables_1, d.before a0 Z = true) (hEW : EW Z a0 consts_1) (n0 : Nat) (c1 : Int32) (hc1 : ¬ c1 = 0) (S1 : Sta Z Z.heap "java/lang/String" "COMPACT_STRINGS" "Z" (.int c1)) (v2 : Value) (hv2 : v2.isRef = true) (S2 : Sta Z Z.heap "jdk/internal/util/Preconditions" "SIOOBE_FORMATTER" "Ljava/util/function/BiFunction;" v2) (a b : Addr) (cap mc : Nat) (bs : List Value) {h0 : Heap} (o1 : Old Z n0 h0) (hlt : cap < mc) (hmc : mc ≤ 62) (hS : Sbd Z h0 a b cap bs) :
    Con Z a0 l (⟨"java/lang/AbstractStringBuilder", "newCapacity", "(I)I"⟩ : MethodName) jdk_68_method_10_code 6 (some .int) ({ frames := 2, cells := 0, slots := 0, locals := 29 } : Room) [] #[(.ref a), (.int (Int32.ofNat mc))] consts_1 h0 n0 [] [] (VV fun w h so => w = .int (Int32.ofNat (gcap cap mc)) ∧ h = h0 ∧ so = []) := by
  refine Con.body (plainFor_of_name pn_java_lang_AbstractStringBuilder) hEW o1 all0 #[.val (.ref a), .val (.int (Int32.ofNat mc)), .unset, .unset, .unset, .unset] (fun m => by first | (simp [entryFrame, mkF, argsToLocals, Value.category]; done) | rfl) ?_
  intro p e s m below meth c B hnm hret hlk G
  obtain ⟨Xa, Fv, Fc, Fn, kb, Ab⟩ := hS
  have hg := gcap_b hlt hmc
  replace G := G.aloadN 1 d43_0 rfl rfl rfl |>.getf 4 (host := "") (Or.inl (hw _ (mm 65 rfl))) Via.refl Fv d43_1 rfl |>.alen 5 Ab d43_4 rfl |>.istoreN 6 #[.val (.ref a), .val (.int (Int32.ofNat mc)), .val (.int (Int32.ofNat cap)), .unset, .unset, .unset] d43_5 rfl rfl |>.iloadN 7 d43_6 rfl rfl |>.aloadN 8 d43_7 rfl rfl rfl |>.getf 11 (host := "") (Or.inl (hw _ (mm 67 rfl))) Via.refl Fc d43_8 rfl |>.ishl 12 d43_11 rfl
  replace G := G.top (y := (.int (Int32.ofNat mc))) (congrArg Value.int (shl0 _)) |>.istoreN 13 #[.val (.ref a), .val (.int (Int32.ofNat mc)), .val (.int (Int32.ofNat cap)), .val (.int (Int32.ofNat mc)), .unset, .unset] d43_12 rfl rfl |>.iloadN 14 d43_13 rfl rfl |>.iloadN 15 d43_14 rfl rfl |>.isub 16 d43_15 rfl |>.top (y := (.int (Int32.ofNat (mc - cap)))) (congrArg Value.int (ofn_sub (Nat.le_of_lt hlt) (by omega))) |>.istore 18 #[.val (.ref a), .val (.int (Int32.ofNat mc)), .val (.int (Int32.ofNat cap)), .val (.int (Int32.ofNat mc)), .val (.int (Int32.ofNat (mc - cap))), .unset] d43_16 rfl rfl |>.iloadN 19 d43_18 rfl rfl
  replace G := G.iload 21 d43_19 rfl rfl |>.iloadN 22 d43_21 rfl rfl |>.iconst 23 (2 : Int32) d43_22 rfl rfl |>.aloadN 24 d43_23 rfl rfl rfl |>.getf 27 (host := "") (Or.inl (hw _ (mm 67 rfl))) Via.refl Fc d43_24 rfl |>.ishl 28 d43_27 rfl |>.top (y := (.int (2 : Int32))) (congrArg Value.int (shl0 _)) |>.iadd 29 d43_28 rfl
  replace G := G.top (y := (.int (Int32.ofNat (cap + 2)))) (congrArg Value.int (ofn_add cap 2))
  obtain ⟨vn1, h_n, son1, G', Kn1, Qn1⟩ := G.callS 32 (hw _ (mm 279 rfl)) (hw _ (mm 280 rfl)) (hw _ (mm 281 rfl)) (hw _ (mm 282 rfl)) (by decide) [(.int (Int32.ofNat cap)), (.int (Int32.ofNat (mc - cap))), (.int (Int32.ofNat (cap + 2)))] [] rfl (c_newLen l Z a0 hw hEW n0 c1 hc1 S1 v2 hv2 S2 cap (mc - cap) (cap + 2) G.old (by omega) (by omega) (by omega) (by omega)) (lenOf pd__III_I rfl) d43_29 rfl (nle rfl) (nle rfl) (nle rfl) (nle rfl) all0 all0 all0 rfl
  replace G := G'; clear G'
  obtain ⟨wn1, qn1, rfl, en, rfl⟩ := Qn1
  replace G := G.val qn1
  subst en
  replace G := G.istore 34 #[.val (.ref a), .val (.int (Int32.ofNat mc)), .val (.int (Int32.ofNat cap)), .val (.int (Int32.ofNat mc)), .val (.int (Int32.ofNat (mc - cap))), .val (.int (Int32.ofNat (gcap cap mc)))] d43_32 rfl rfl |>.iload 36 d43_34 rfl rfl |>.ldcI 38 (hw _ (mm 287 rfl)) d43_36 rfl |>.icmpT 51 d43_38 (XT.ii_ne_t (ofn_ne (n := 2147483647) (Nat.ne_of_lt (by omega)) (by omega) (by decide))) (by decide) (by decide) |>.iload 53 d43_51 rfl rfl |>.aloadN 54 d43_53 rfl rfl rfl |>.getf 57 (host := "") (Or.inl (hw _ (mm 67 rfl))) Via.refl Fc d43_54 rfl |>.ishr 58 d43_57 rfl
  replace G := G.top (y := (.int (Int32.ofNat (gcap cap mc)))) (congrArg Value.int (shr0 _))
  exact G.retI hret hlk d43_58 [] all0 ⟨_, rfl, rfl, rfl, rfl⟩ (nle rfl) (nle rfl)
theorem d30_0 : decode jdk_29_method_69_code 0 = .ok (.iload_n 0, 1) := by decide +kernel
theorem d30_1 : decode jdk_29_method_69_code 1 = .ok (.iload_n 1, 1) := by decide +kernel
theorem d30_2 : decode jdk_29_method_69_code 2 = .ok (.if_icmp .gt 7, 3) := by decide +kernel
theorem d30_5 : decode jdk_29_method_69_code 5 = .ok (.iload_n 0, 1) := by decide +kernel
theorem d30_6 : decode jdk_29_method_69_code 6 = .ok (.goto 4, 3) := by decide +kernel
theorem d30_9 : decode jdk_29_method_69_code 9 = .ok (.iload_n 1, 1) := by decide +kernel
theorem d30_10 : decode jdk_29_method_69_code 10 = .ok (.ireturn, 1) := by decide +kernel
theorem c_minL (l : Launch) (Z : State) (a0 : Array Value) (hw : ∀ d ∈ tables_1, d.before a0 Z = true) (hEW : EW Z a0 consts_1) (n0 : Nat) (c1 : Int32) (hc1 : ¬ c1 = 0) (S1 : Sta Z Z.heap "java/lang/String" "COMPACT_STRINGS" "Z" (.int c1)) (v2 : Value) (hv2 : v2.isRef = true) (S2 : Sta Z Z.heap "jdk/internal/util/Preconditions" "SIOOBE_FORMATTER" "Ljava/util/function/BiFunction;" v2) (x y : Int32) {h0 : Heap} (o1 : Old Z n0 h0) (hxy : ¬ y < x) :
    Con Z a0 l (⟨"java/lang/Math", "min", "(II)I"⟩ : MethodName) jdk_29_method_69_code 2 (some .int) ({ frames := 0, cells := 0, slots := 0, locals := 0 } : Room) [] #[(.int x), (.int y)] consts_1 h0 n0 [] [] (VV fun w h so => w = .int x ∧ h = h0 ∧ so = []) := by
  refine Con.body (by decide +kernel) hEW o1 all0 #[.val (.int x), .val (.int y)] (fun m => by first | (simp [entryFrame, mkF, argsToLocals, Value.category]; done) | rfl) ?_
  intro p e s m below meth c B hnm hret hlk G
  replace G := G.iloadN 1 d30_0 rfl rfl |>.iloadN 2 d30_1 rfl rfl |>.icmpF 5 d30_2 (XT.ii_gt_f hxy) rfl |>.iloadN 6 d30_5 rfl rfl |>.goto 10 d30_6 (by decide) (by decide)
  exact G.retI hret hlk d30_10 [] all0 ⟨_, rfl, rfl, rfl, rfl⟩ (nle rfl) (nle rfl)
theorem d46_0 : decode jdk_65_method_121_code 0 = .ok (.iload_n 1, 1) := by decide +kernel
theorem d46_1 : decode jdk_65_method_121_code 1 = .ok (.aload_n 0, 1) := by decide +kernel
theorem d46_2 : decode jdk_65_method_121_code 2 = .ok (.arraylength, 1) := by decide +kernel
theorem d46_3 : decode jdk_65_method_121_code 3 = .ok (.if_icmp .ne 11, 3) := by decide +kernel
theorem d46_6 : decode jdk_65_method_121_code 6 = .ok (.aload_n 0, 1) := by decide +kernel
theorem d46_7 : decode jdk_65_method_121_code 7 = .ok (.invokevirtual 310, 3) := by decide +kernel
theorem d46_10 : decode jdk_65_method_121_code 10 = .ok (.checkcast 311, 3) := by decide +kernel
theorem d46_13 : decode jdk_65_method_121_code 13 = .ok (.areturn, 1) := by decide +kernel
theorem d46_14 : decode jdk_65_method_121_code 14 = .ok (.iload_n 1, 1) := by decide +kernel
theorem d46_15 : decode jdk_65_method_121_code 15 = .ok (.newarray .byte, 2) := by decide +kernel
theorem d46_17 : decode jdk_65_method_121_code 17 = .ok (.astore_n 2, 1) := by decide +kernel
theorem d46_18 : decode jdk_65_method_121_code 18 = .ok (.aload_n 0, 1) := by decide +kernel
theorem d46_19 : decode jdk_65_method_121_code 19 = .ok (.iconst 0, 1) := by decide +kernel
theorem d46_20 : decode jdk_65_method_121_code 20 = .ok (.aload_n 2, 1) := by decide +kernel
theorem d46_21 : decode jdk_65_method_121_code 21 = .ok (.iconst 0, 1) := by decide +kernel
theorem d46_22 : decode jdk_65_method_121_code 22 = .ok (.aload_n 0, 1) := by decide +kernel
theorem d46_23 : decode jdk_65_method_121_code 23 = .ok (.arraylength, 1) := by decide +kernel
theorem d46_24 : decode jdk_65_method_121_code 24 = .ok (.iload_n 1, 1) := by decide +kernel
theorem d46_25 : decode jdk_65_method_121_code 25 = .ok (.invokestatic 304, 3) := by decide +kernel
theorem d46_28 : decode jdk_65_method_121_code 28 = .ok (.invokestatic 150, 3) := by decide +kernel
theorem d46_31 : decode jdk_65_method_121_code 31 = .ok (.aload_n 2, 1) := by decide +kernel
theorem d46_32 : decode jdk_65_method_121_code 32 = .ok (.areturn, 1) := by decide +kernel
theorem c_copyOf (l : Launch) (Z : State) (a0 : Array Value) (hw : ∀ d ∈ tables_1, d.before a0 Z = true) (hEW : EW Z a0 consts_1) (n0 : Nat) (c1 : Int32) (hc1 : ¬ c1 = 0) (S1 : Sta Z Z.heap "java/lang/String" "COMPACT_STRINGS" "Z" (.int c1)) (v2 : Value) (hv2 : v2.isRef = true) (S2 : Sta Z Z.heap "jdk/internal/util/Preconditions" "SIOOBE_FORMATTER" "Ljava/util/function/BiFunction;" v2) (b : Addr) (kb : ClassId) (cap nc : Nat) (bs : List Value) {h0 : Heap} (o1 : Old Z n0 h0) (hlt : cap < nc) (hmax : nc ≤ 126) (hbs : bs.length ≤ cap) (Ab : Arv Z h0 b kb .byte (Int32.ofNat cap) bs (.int 0)) :
    Con Z a0 l (⟨"java/util/Arrays", "copyOf", "([BI)[B"⟩ : MethodName) jdk_65_method_121_code 3 (some (.array .byte)) ({ frames := 1, cells := 1, slots := 126, locals := 41 } : Room) [] #[(.ref b), (.int (Int32.ofNat nc))] consts_1 h0 n0 [] [] (VV fun w h so => ∃ d, w = .ref d ∧ (∃ k, Arv Z h d k .byte (Int32.ofNat nc) bs (.int 0)) ∧ h0.size ≤ d ∧ so = [d]) := by
  refine Con.body (plainFor_of_name pn_java_util_Arrays) hEW o1 all0 #[.val (.ref b), .val (.int (Int32.ofNat nc)), .unset] (fun m => by first | (simp [entryFrame, mkF, argsToLocals, Value.category]; done) | rfl) ?_
  intro p e s m below meth c B hnm hret hlk G
  replace G := G.iloadN 1 d46_0 rfl rfl |>.aloadN 2 d46_1 rfl rfl rfl |>.alen 3 Ab d46_2 rfl |>.icmpT 14 d46_3 (XT.ii_ne_t (ofn_ne (by omega) (by omega) (by omega))) (by decide) (by decide) |>.iloadN 15 d46_14 rfl rfl
  obtain ⟨d, h1, kd, G', gd, sd, Ed, Ad⟩ := G.newarray 17 (hw _ (mm 19 rfl)) d46_15 (ofn_nn (by omega)) 126 (by rw [ofn_nat (by omega)]; exact hmax) (by decide) rfl (nle rfl) (nle rfl)
  replace G := G'; clear G'
  replace Ab := Ab.ext Ed
  replace G := G.astoreN 18 #[.val (.ref b), .val (.int (Int32.ofNat nc)), .val (.ref d)] d46_17 rfl rfl rfl |>.aloadN 19 d46_18 rfl rfl rfl |>.iconst 20 (0 : Int32) d46_19 rfl rfl |>.aloadN 21 d46_20 rfl rfl rfl |>.iconst 22 (0 : Int32) d46_21 rfl rfl |>.aloadN 23 d46_22 rfl rfl rfl |>.alen 24 Ab d46_23 rfl |>.iloadN 25 d46_24 rfl rfl
  obtain ⟨vm1, h_m, som1, G', Km1, Qm1⟩ := G.callS 28 (hw _ (mm 180 rfl)) (hw _ (mm 181 rfl)) (hw _ (mm 182 rfl)) (hw _ (mm 183 rfl)) (by decide) [(.int (Int32.ofNat cap)), (.int (Int32.ofNat nc))] [(.int (0 : Int32)), (.ref d), (.int (0 : Int32)), (.ref b)] rfl (c_minL l Z a0 hw hEW n0 c1 hc1 S1 v2 hv2 S2 (Int32.ofNat cap) (Int32.ofNat nc) G.old (ofn_nlt (Nat.le_of_lt hlt) (by omega))) (lenOf pd__II_I rfl) d46_25 rfl (nle rfl) (nle rfl) (nle rfl) (nle rfl) all0 all0 all0 rfl
  replace G := G'; clear G'
  obtain ⟨wm1, qm1, rfl, em, rfl⟩ := Qm1
  replace G := G.val qm1
  subst em
  have Ad' := Ad.pad (vs' := List.replicate cap (.int 0)) (pad_rep [] (.int 0) cap)
  have m1 : cap < 2147483648 := by omega
  obtain ⟨h2, G', Ap, Kp⟩ := G.cpy 31 (hw _ (mm 184 rfl)) (hw _ (mm 116 rfl)) (hw _ (mm 114 rfl)) (hw _ (mm 115 rfl)) Ab Ad' rfl (by decide) (by decide) (ofn_nn m1) (by rw [ofn_nat m1]; exact Nat.le_of_eq (Nat.zero_add _)) (by rw [ofn_nat m1, ofn_nat (by omega)]; rw [show (0 : Int32).toNatClampNeg = 0 from rfl]; omega) (by rw [ofn_nat m1]; simp) (Or.inr sd) (mm 0 rfl) d46_28 rfl (nle rfl) (nle rfl) rfl
  replace G := G'; clear G'
  rw [ofn_nat m1, show (0 : Int32).toNatClampNeg = 0 from rfl] at Ap
  replace Ap := Ap.pad (cpg bs cap (.int 0) hbs)
  replace G := G.aloadN 32 d46_31 rfl rfl rfl
  exact G.retA hret rfl rfl hlk d46_32 [d] (allS (mm 0 rfl) all0) ⟨_, rfl, d, rfl, ⟨kd, Ap⟩, sd, rfl⟩ (nle rfl) (nle rfl)
theorem d12_0 : decode jdk_68_method_9_code 0 = .ok (.aload_n 0, 1) := by decide +kernel
theorem d12_1 : decode jdk_68_method_9_code 1 = .ok (.getfield 15, 3) := by decide +kernel
theorem d12_4 : decode jdk_68_method_9_code 4 = .ok (.arraylength, 1) := by decide +kernel
theorem d12_5 : decode jdk_68_method_9_code 5 = .ok (.aload_n 0, 1) := by decide +kernel
theorem d12_6 : decode jdk_68_method_9_code 6 = .ok (.getfield 22, 3) := by decide +kernel
theorem d12_9 : decode jdk_68_method_9_code 9 = .ok (.ishr, 1) := by decide +kernel
theorem d12_10 : decode jdk_68_method_9_code 10 = .ok (.istore_n 2, 1) := by decide +kernel
theorem d12_11 : decode jdk_68_method_9_code 11 = .ok (.iload_n 1, 1) := by decide +kernel
theorem d12_12 : decode jdk_68_method_9_code 12 = .ok (.iload_n 2, 1) := by decide +kernel
theorem d12_13 : decode jdk_68_method_9_code 13 = .ok (.isub, 1) := by decide +kernel
theorem d12_14 : decode jdk_68_method_9_code 14 = .ok (.ifCond .le 24, 3) := by decide +kernel
theorem d12_17 : decode jdk_68_method_9_code 17 = .ok (.aload_n 0, 1) := by decide +kernel
theorem d12_18 : decode jdk_68_method_9_code 18 = .ok (.aload_n 0, 1) := by decide +kernel
theorem d12_19 : decode jdk_68_method_9_code 19 = .ok (.getfield 15, 3) := by decide +kernel
theorem d12_22 : decode jdk_68_method_9_code 22 = .ok (.aload_n 0, 1) := by decide +kernel
theorem d12_23 : decode jdk_68_method_9_code 23 = .ok (.iload_n 1, 1) := by decide +kernel
theorem d12_24 : decode jdk_68_method_9_code 24 = .ok (.invokevirtual 104, 3) := by decide +kernel
theorem d12_27 : decode jdk_68_method_9_code 27 = .ok (.aload_n 0, 1) := by decide +kernel
theorem d12_28 : decode jdk_68_method_9_code 28 = .ok (.getfield 22, 3) := by decide +kernel
theorem d12_31 : decode jdk_68_method_9_code 31 = .ok (.ishl, 1) := by decide +kernel
theorem d12_32 : decode jdk_68_method_9_code 32 = .ok (.invokestatic 108, 3) := by decide +kernel
theorem d12_35 : decode jdk_68_method_9_code 35 = .ok (.putfield 15, 3) := by decide +kernel
theorem d12_38 : decode jdk_68_method_9_code 38 = .ok (.return_, 1) := by decide +kernel
theorem c_ensG (l : Launch) (Z : State) (a0 : Array Value) (hw : ∀ d ∈ tables_1, d.before a0 Z = true) (hEW : EW Z a0 consts_1) (n0 : Nat) (c1 : Int32) (hc1 : ¬ c1 = 0) (S1 : Sta Z Z.heap "java/lang/String" "COMPACT_STRINGS" "Z" (.int c1)) (v2 : Value) (hv2 : v2.isRef = true) (S2 : Sta Z Z.heap "jdk/internal/util/Preconditions" "SIOOBE_FORMATTER" "Ljava/util/function/BiFunction;" v2) (a b : Addr) (cap mc : Nat) (bs : List Value) {h0 : Heap} (o1 : Old Z n0 h0) (ge_a : n0 ≤ a) (hmc : mc ≤ 62) (hcap : cap ≤ 126) (hbs : bs.length ≤ cap) (hS : Sbd Z h0 a b cap bs) :
    Con Z a0 l (⟨"java/lang/AbstractStringBuilder", "ensureCapacityInternal", "(I)V"⟩ : MethodName) jdk_68_method_9_code 3 (none) ({ frames := 3, cells := 1, slots := 126, locals := 56 } : Room) [] #[(.ref a), (.int (Int32.ofNat mc))] consts_1 h0 n0 [a] [a, b] (V0 fun h so => ∃ b' cap', Sbd Z h a b' cap' bs ∧ mc ≤ cap' ∧ cap' ≤ 126 ∧ GC cap mc cap' ∧ (b' = b ∨ h0.size ≤ b') ∧ so = [b']) := by
  refine Con.body (plainFor_of_name pn_java_lang_AbstractStringBuilder) hEW o1 (allS ge_a all0) #[.val (.ref a), .val (.int (Int32.ofNat mc)), .unset] (fun m => by first | (simp [entryFrame, mkF, argsToLocals, Value.category]; done) | rfl) ?_
  intro p e s m below meth c B hnm hret hlk G
  rcases Nat.lt_or_ge cap mc with hlt | hge
  · have hg := gcap_b hlt hmc
    have hS' := hS
    obtain ⟨Xa, Fv, Fc, Fn, kb, Ab⟩ := hS
    replace G := G.aloadN 1 d12_0 rfl rfl rfl |>.getf 4 (host := "") (Or.inl (hw _ (mm 65 rfl))) Via.refl Fv d12_1 rfl |>.alen 5 Ab d12_4 rfl |>.aloadN 6 d12_5 rfl rfl rfl |>.getf 9 (host := "") (Or.inl (hw _ (mm 67 rfl))) Via.refl Fc d12_6 rfl |>.ishr 10 d12_9 rfl |>.top (y := (.int (Int32.ofNat cap))) (congrArg Value.int (shr0 _)) |>.istoreN 11 #[.val (.ref a), .val (.int (Int32.ofNat mc)), .val (.int (Int32.ofNat cap))] d12_10 rfl rfl
    replace G := G.iloadN 12 d12_11 rfl rfl |>.iloadN 13 d12_12 rfl rfl |>.isub 14 d12_13 rfl |>.ifF 17 d12_14 (XT.i0_le_f (by rw [ofn_sub (Nat.le_of_lt hlt) (by omega)]; exact ofn_lt (i := 0) (by omega) (by omega))) rfl |>.aloadN 18 d12_17 rfl rfl rfl |>.aloadN 19 d12_18 rfl rfl rfl |>.getf 22 (host := "") (Or.inl (hw _ (mm 65 rfl))) Via.refl Fv d12_19 rfl |>.aloadN 23 d12_22 rfl rfl rfl
    replace G := G.iloadN 24 d12_23 rfl rfl
    obtain ⟨vn1, h_n, son1, G', Kn1, Qn1⟩ := G.callV 27 (hw _ (mm 274 rfl)) (declOf (hw _ (mm 275 rfl)) (hw _ (mm 278 rfl))) (nfSel (hw _ (mm 277 rfl))) (hw _ (mm 277 rfl)) (hw _ (mm 275 rfl)) (hw _ (mm 61 rfl)) (hw _ (mm 278 rfl)) Xa (by decide) [(.int (Int32.ofNat mc))] [(.ref b), (.ref a)] rfl (c_newCap l Z a0 hw hEW n0 c1 hc1 S1 v2 hv2 S2 a b cap mc bs G.old hlt hmc hS') (lenOf pd__I_I rfl) d12_24 rfl (nle rfl) (nle rfl) (nle rfl) (nle rfl) all0 all0 all0 rfl
    replace G := G'; clear G'
    obtain ⟨wn1, qn1, rfl, en, rfl⟩ := Qn1
    replace G := G.val qn1
    subst en
    replace G := G.aloadN 28 d12_27 rfl rfl rfl |>.getf 31 (host := "") (Or.inl (hw _ (mm 67 rfl))) Via.refl Fc d12_28 rfl |>.ishl 32 d12_31 rfl |>.top (y := (.int (Int32.ofNat (gcap cap mc)))) (congrArg Value.int (shl0 _))
    obtain ⟨vc, h1, soc, G', Kc, Qc⟩ := G.callS 35 (hw _ (mm 288 rfl)) (hw _ (mm 289 rfl)) (hw _ (mm 172 rfl)) (hw _ (mm 290 rfl)) (by decide) [(.ref b), (.int (Int32.ofNat (gcap cap mc)))] [(.ref a)] rfl (c_copyOf l Z a0 hw hEW n0 c1 hc1 S1 v2 hv2 S2 b kb cap (gcap cap mc) bs G.old hg.2.1 hg.2.2 hbs Ab) (lenOf pd___BI__B rfl) d12_32 rfl (nle rfl) (nle rfl) (nle rfl) (nle rfl) all0 all0 all0 rfl
    replace G := G'; clear G'
    obtain ⟨wc, qc, d, rfl, ⟨kd, Ad⟩, sd, rfl⟩ := Qc
    replace G := G.val qc
    have nad : a ≠ d := (ne_ge Xa.lt sd).symm
    replace Xa := Xa.keep Kc; replace Fv := Fv.keep Kc nin0; replace Fc := Fc.keep Kc nin0; replace Fn := Fn.keep Kc nin0
    obtain ⟨h2, G', Wv, Fv, Kv⟩ := G.putf 38 (host := "") (Or.inl (hw _ (mm 65 rfl))) Via.refl Fv Xa (Or.inl (hw _ (mm 66 rfl))) (hw _ (mm 52 rfl)) (ty := (.array .byte)) (by decide) rfl rfl (Or.inl (mm 0 rfl)) (mm 1 rfl) d12_35 rfl
    replace G := G'; clear G'
    replace Fn := Fn.other Wv (Or.inr (slot_ne (Or.inl (hw _ (mm 91 rfl))) (Or.inl (hw _ (mm 66 rfl))) (by decide) (t := .int) (t' := (.array .byte)) (by decide) (by decide))); replace Fc := Fc.other Wv (Or.inr (slot_ne (Or.inl (hw _ (mm 68 rfl))) (Or.inl (hw _ (mm 66 rfl))) (by decide) (t := .byte) (t' := (.array .byte)) (by decide) (by decide))); replace Xa := Xa.wr Wv; replace Ad := Ad.keep Kv (ninS nad.symm nin0)
    exact G.retV hret hlk d12_38 [d] (allS (mm 0 rfl) all0) ⟨rfl, d, gcap cap mc, ⟨Xa, Fv, Fc, Fn, kd, Ad⟩, hg.1, hg.2.2, Or.inr ⟨hlt, rfl⟩, Or.inr sd, rfl⟩ (nle rfl) (nle rfl)
  · have hS' := hS
    obtain ⟨Xa, Fv, Fc, Fn, kb, Ab⟩ := hS
    replace G := G.aloadN 1 d12_0 rfl rfl rfl |>.getf 4 (host := "") (Or.inl (hw _ (mm 65 rfl))) Via.refl Fv d12_1 rfl |>.alen 5 Ab d12_4 rfl |>.aloadN 6 d12_5 rfl rfl rfl |>.getf 9 (host := "") (Or.inl (hw _ (mm 67 rfl))) Via.refl Fc d12_6 rfl |>.ishr 10 d12_9 rfl |>.top (y := (.int (Int32.ofNat cap))) (congrArg Value.int (shr0 _)) |>.istoreN 11 #[.val (.ref a), .val (.int (Int32.ofNat mc)), .val (.int (Int32.ofNat cap))] d12_10 rfl rfl
    replace G := G.iloadN 12 d12_11 rfl rfl |>.iloadN 13 d12_12 rfl rfl |>.isub 14 d12_13 rfl |>.ifT 38 d12_14 (XT.i0_le_t (ofn_le0 hge (by omega))) (by decide) (by decide)
    exact G.retV hret hlk d12_38 [b] (allS (mm 1 rfl) all0) ⟨rfl, b, cap, hS', hge, hcap, Or.inl ⟨rfl, hge⟩, Or.inl rfl, rfl⟩ (nle rfl) (nle rfl)
theorem d7_0 : decode jdk_68_method_2_code 0 = .ok (.aload_n 0, 1) := by decide +kernel
theorem d7_1 : decode jdk_68_method_2_code 1 = .ok (.invokespecial 3, 3) := by decide +kernel
theorem d7_4 : decode jdk_68_method_2_code 4 = .ok (.getstatic 18, 3) := by decide +kernel
theorem d7_7 : decode jdk_68_method_2_code 7 = .ok (.ifCond .eq 18, 3) := by decide +kernel
theorem d7_10 : decode jdk_68_method_2_code 10 = .ok (.aload_n 0, 1) := by decide +kernel
theorem d7_11 : decode jdk_68_method_2_code 11 = .ok (.iload_n 1, 1) := by decide +kernel
theorem d7_12 : decode jdk_68_method_2_code 12 = .ok (.newarray .byte, 2) := by decide +kernel
theorem d7_14 : decode jdk_68_method_2_code 14 = .ok (.putfield 15, 3) := by decide +kernel
theorem d7_17 : decode jdk_68_method_2_code 17 = .ok (.aload_n 0, 1) := by decide +kernel
theorem d7_18 : decode jdk_68_method_2_code 18 = .ok (.iconst 0, 1) := by decide +kernel
theorem d7_19 : decode jdk_68_method_2_code 19 = .ok (.putfield 22, 3) := by decide +kernel
theorem d7_22 : decode jdk_68_method_2_code 22 = .ok (.goto 16, 3) := by decide +kernel
theorem d7_25 : decode jdk_68_method_2_code 25 = .ok (.aload_n 0, 1) := by decide +kernel
theorem d7_26 : decode jdk_68_method_2_code 26 = .ok (.iload_n 1, 1) := by decide +kernel
theorem d7_27 : decode jdk_68_method_2_code 27 = .ok (.invokestatic 26, 3) := by decide +kernel
theorem d7_30 : decode jdk_68_method_2_code 30 = .ok (.putfield 15, 3) := by decide +kernel
theorem d7_33 : decode jdk_68_method_2_code 33 = .ok (.aload_n 0, 1) := by decide +kernel
theorem d7_34 : decode jdk_68_method_2_code 34 = .ok (.iconst 1, 1) := by decide +kernel
theorem d7_35 : decode jdk_68_method_2_code 35 = .ok (.putfield 22, 3) := by decide +kernel
theorem d7_38 : decode jdk_68_method_2_code 38 = .ok (.return_, 1) := by decide +kernel
theorem c_asbIY (l : Launch) (Z : State) (a0 : Array Value) (hw : ∀ d ∈ tables_1, d.before a0 Z = true) (hEW : EW Z a0 consts_1) (n0 : Nat) (c1 : Int32) (hc1 : ¬ c1 = 0) (S1 : Sta Z Z.heap "java/lang/String" "COMPACT_STRINGS" "Z" (.int c1)) (v2 : Value) (hv2 : v2.isRef = true) (S2 : Sta Z Z.heap "jdk/internal/util/Preconditions" "SIOOBE_FORMATTER" "Ljava/util/function/BiFunction;" v2) (a : Addr) {h0 : Heap} (o1 : Old Z n0 h0) (ge_a : n0 ≤ a) (Xa : Exa Z h0 a "java/lang/StringBuilder") (Fv : Fld Z h0 a "java/lang/AbstractStringBuilder" "value" "[B" .null) (Fc : Fld Z h0 a "java/lang/AbstractStringBuilder" "coder" "B" (.int 0)) (Fn : Fld Z h0 a "java/lang/AbstractStringBuilder" "count" "I" (.int 0)) :
    Con Z a0 l (⟨"java/lang/AbstractStringBuilder", "<init>", "(I)V"⟩ : MethodName) jdk_68_method_2_code 2 (none) ({ frames := 1, cells := 1, slots := 16, locals := 12 } : Room) [] #[(.ref a), (.int (16 : Int32))] consts_1 h0 n0 [a] [a] (V0 fun h so => ∃ b, SbdY Z h a b 16 [] ∧ h0.size ≤ b ∧ so = [b]) := by
  refine Con.body (plainFor_of_name pn_java_lang_AbstractStringBuilder) hEW o1 (allS ge_a all0) #[.val (.ref a), .val (.int (16 : Int32))] (fun m => by first | (simp [entryFrame, mkF, argsToLocals, Value.category]; done) | rfl) ?_
  intro p e s m below meth c B hnm hret hlk G
  replace G := G.aloadN 1 d7_0 rfl rfl rfl |>.initO 4 (hw _ (mm 63 rfl)) (hw _ (mm 16 rfl)) (hw _ (mm 17 rfl)) d7_1 rfl (nle rfl) (nle rfl) rfl |>.gets 7 (host := "") (Or.inl (hw _ (mm 64 rfl))) Via.refl (G.sta S1) d7_4 rfl |>.ifF 10 d7_7 (XT.i0_eq_f hc1) rfl |>.aloadN 11 d7_10 rfl rfl rfl |>.iloadN 12 d7_11 rfl rfl
  obtain ⟨b, h1, kb, G', gb, sb, Eb, Ab, Yb⟩ := G.newarrayE 14 (ad := "[B") (hw _ (mm 19 rfl)) (by decide) d7_12 (by decide) 16 (nle rfl) (by decide) rfl (nle rfl) (nle rfl)
  replace G := G'; clear G'
  have nab : a ≠ b := ne_new gb Xa.lt
  replace Xa := Xa.ext Eb; replace Fv := Fv.ext Eb; replace Fc := Fc.ext Eb; replace Fn := Fn.ext Eb
  obtain ⟨h2, G', Wv, Fv, Kv⟩ := G.putf 17 (host := "") (Or.inl (hw _ (mm 65 rfl))) Via.refl Fv Xa (Or.inl (hw _ (mm 66 rfl))) (hw _ (mm 52 rfl)) (ty := (.array .byte)) (by decide) rfl rfl (Or.inl (mm 0 rfl)) (mm 1 rfl) d7_14 rfl
  replace G := G'; clear G'
  replace Fn := Fn.other Wv (Or.inr (slot_ne (Or.inl (hw _ (mm 91 rfl))) (Or.inl (hw _ (mm 66 rfl))) (by decide) (t := .int) (t' := (.array .byte)) (by decide) (by decide))); replace Fc := Fc.other Wv (Or.inr (slot_ne (Or.inl (hw _ (mm 68 rfl))) (Or.inl (hw _ (mm 66 rfl))) (by decide) (t := .byte) (t' := (.array .byte)) (by decide) (by decide))); replace Xa := Xa.wr Wv; replace Ab := Ab.keep Kv (ninS nab.symm nin0); replace Yb := Yb.keep Kv
  replace G := G.aloadN 18 d7_17 rfl rfl rfl |>.iconst 19 (0 : Int32) d7_18 rfl rfl
  obtain ⟨h3, G', Wc, Fc, Kc⟩ := G.putf 22 (host := "") (Or.inl (hw _ (mm 67 rfl))) Via.refl Fc Xa (Or.inl (hw _ (mm 68 rfl))) (hw _ (mm 52 rfl)) (ty := .byte) (by decide) rfl rfl (Or.inl (mm 0 rfl)) (mm 1 rfl) d7_19 rfl
  replace G := G'; clear G'
  replace Fn := Fn.other Wc (Or.inr (slot_ne (Or.inl (hw _ (mm 91 rfl))) (Or.inl (hw _ (mm 68 rfl))) (by decide) (t := .int) (t' := .byte) (by decide) (by decide))); replace Fv := Fv.other Wc (Or.inr (slot_ne (Or.inl (hw _ (mm 66 rfl))) (Or.inl (hw _ (mm 68 rfl))) (by decide) (t := (.array .byte)) (t' := .byte) (by decide) (by decide))); replace Xa := Xa.wr Wc; replace Ab := Ab.keep Kc (ninS nab.symm nin0); replace Yb := Yb.keep Kc
  replace G := G.goto 38 d7_22 (by decide) (by decide)
  exact G.retV hret hlk d7_38 [b] (allS (mm 0 rfl) all0) ⟨rfl, b, ⟨⟨Xa, Fv, Fc, Fn, kb, Ab⟩, Yb⟩, sb, rfl⟩ (nle rfl) (nle rfl)
theorem d6_0 : decode jdk_67_method_1_code 0 = .ok (.aload_n 0, 1) := by decide +kernel
theorem d6_1 : decode jdk_67_method_1_code 1 = .ok (.bipush 16, 2) := by decide +kernel
theorem d6_3 : decode jdk_67_method_1_code 3 = .ok (.invokespecial 1, 3) := by decide +kernel
theorem d6_6 : decode jdk_67_method_1_code 6 = .ok (.return_, 1) := by decide +kernel
theorem c_sbIY (l : Launch) (Z : State) (a0 : Array Value) (hw : ∀ d ∈ tables_1, d.before a0 Z = true) (hEW : EW Z a0 consts_1) (n0 : Nat) (c1 : Int32) (hc1 : ¬ c1 = 0) (S1 : Sta Z Z.heap "java/lang/String" "COMPACT_STRINGS" "Z" (.int c1)) (v2 : Value) (hv2 : v2.isRef = true) (S2 : Sta Z Z.heap "jdk/internal/util/Preconditions" "SIOOBE_FORMATTER" "Ljava/util/function/BiFunction;" v2) (a : Addr) {h0 : Heap} (o1 : Old Z n0 h0) (ge_a : n0 ≤ a) (Xa : Exa Z h0 a "java/lang/StringBuilder") (Fv : Fld Z h0 a "java/lang/AbstractStringBuilder" "value" "[B" .null) (Fc : Fld Z h0 a "java/lang/AbstractStringBuilder" "coder" "B" (.int 0)) (Fn : Fld Z h0 a "java/lang/AbstractStringBuilder" "count" "I" (.int 0)) :
    Con Z a0 l (⟨"java/lang/StringBuilder", "<init>", "()V"⟩ : MethodName) jdk_67_method_1_code 1 (none) ({ frames := 2, cells := 1, slots := 16, locals := 25 } : Room) [] #[(.ref a)] consts_1 h0 n0 [a] [a] (V0 fun h so => ∃ b, SbdY Z h a b 16 [] ∧ h0.size ≤ b ∧ so = [b]) := by
  refine Con.body (plainFor_of_name pn_java_lang_StringBuilder) hEW o1 (allS ge_a all0) #[.val (.ref a)] (fun m => by first | (simp [entryFrame, mkF, argsToLocals, Value.category]; done) | rfl) ?_
  intro p e s m below meth c B hnm hret hlk G
  replace G := G.aloadN 1 d6_0 rfl rfl rfl |>.bipush 3 (16 : Int32) d6_1 (by decide) rfl
  obtain ⟨vi, h1, soi, G', Ki, Qi⟩ := G.callI 6 rfl rfl (hw _ (mm 57 rfl)) (hw _ (mm 58 rfl)) (hw _ (mm 61 rfl)) (hw _ (mm 62 rfl)) (by decide) [(.int (16 : Int32))] [] rfl (c_asbIY l Z a0 hw hEW n0 c1 hc1 S1 v2 hv2 S2 a G.old ge_a Xa Fv Fc Fn) (lenOf pd__I_V rfl) d6_3 rfl (nle rfl) (nle rfl) (nle rfl) (nle rfl) (allS (Or.inl (mm 0 rfl)) all0) (allS (mm 0 rfl) all0) (allS (mm 0 rfl) all0) rfl
  replace G := G'; clear G'
  obtain ⟨qi, b, hS, hb, rfl⟩ := Qi
  replace G := G.nov qi
  exact G.retV hret hlk d6_6 [b] (allS (mm 0 rfl) all0) ⟨rfl, b, hS, hb, rfl⟩ (nle rfl) (nle rfl)
theorem c_copyY (l : Launch) (Z : State) (a0 : Array Value) (hw : ∀ d ∈ tables_1, d.before a0 Z = true) (hEW : EW Z a0 consts_1) (n0 : Nat) (c1 : Int32) (hc1 : ¬ c1 = 0) (S1 : Sta Z Z.heap "java/lang/String" "COMPACT_STRINGS" "Z" (.int c1)) (v2 : Value) (hv2 : v2.isRef = true) (S2 : Sta Z Z.heap "jdk/internal/util/Preconditions" "SIOOBE_FORMATTER" "Ljava/util/function/BiFunction;" v2) (b : Addr) (kb : ClassId) (cap nc : Nat) (bs : List Value) {h0 : Heap} (o1 : Old Z n0 h0) (hlt : cap < nc) (hmax : nc ≤ 126) (hbs : bs.length ≤ cap) (Ab : Arv Z h0 b kb .byte (Int32.ofNat cap) bs (.int 0)) :
    Con Z a0 l (⟨"java/util/Arrays", "copyOf", "([BI)[B"⟩ : MethodName) jdk_65_method_121_code 3 (some (.array .byte)) ({ frames := 1, cells := 1, slots := 126, locals := 41 } : Room) [] #[(.ref b), (.int (Int32.ofNat nc))] consts_1 h0 n0 [] [] (VV fun w h so => ∃ d, w = .ref d ∧ (∃ k, Arv Z h d k .byte (Int32.ofNat nc) bs (.int 0)) ∧ Exa Z h d "[B" ∧ h0.size ≤ d ∧ so = [d]) := by
  refine Con.body (plainFor_of_name pn_java_util_Arrays) hEW o1 all0 #[.val (.ref b), .val (.int (Int32.ofNat nc)), .unset] (fun m => by first | (simp [entryFrame, mkF, argsToLocals, Value.category]; done) | rfl) ?_
  intro p e s m below meth c B hnm hret hlk G
  replace G := G.iloadN 1 d46_0 rfl rfl |>.aloadN 2 d46_1 rfl rfl rfl |>.alen 3 Ab d46_2 rfl |>.icmpT 14 d46_3 (XT.ii_ne_t (ofn_ne (by omega) (by omega) (by omega))) (by decide) (by decide) |>.iloadN 15 d46_14 rfl rfl
  obtain ⟨d, h1, kd, G', gd, sd, Ed, Ad, Yd⟩ := G.newarrayE 17 (ad := "[B") (hw _ (mm 19 rfl)) (by decide) d46_15 (ofn_nn (by omega)) 126 (by rw [ofn_nat (by omega)]; exact hmax) (by decide) rfl (nle rfl) (nle rfl)
  replace G := G'; clear G'
  replace Ab := Ab.ext Ed
  replace G := G.astoreN 18 #[.val (.ref b), .val (.int (Int32.ofNat nc)), .val (.ref d)] d46_17 rfl rfl rfl |>.aloadN 19 d46_18 rfl rfl rfl |>.iconst 20 (0 : Int32) d46_19 rfl rfl |>.aloadN 21 d46_20 rfl rfl rfl |>.iconst 22 (0 : Int32) d46_21 rfl rfl |>.aloadN 23 d46_22 rfl rfl rfl |>.alen 24 Ab d46_23 rfl |>.iloadN 25 d46_24 rfl rfl
  obtain ⟨vm1, h_m, som1, G', Km1, Qm1⟩ := G.callS 28 (hw _ (mm 180 rfl)) (hw _ (mm 181 rfl)) (hw _ (mm 182 rfl)) (hw _ (mm 183 rfl)) (by decide) [(.int (Int32.ofNat cap)), (.int (Int32.ofNat nc))] [(.int (0 : Int32)), (.ref d), (.int (0 : Int32)), (.ref b)] rfl (c_minL l Z a0 hw hEW n0 c1 hc1 S1 v2 hv2 S2 (Int32.ofNat cap) (Int32.ofNat nc) G.old (ofn_nlt (Nat.le_of_lt hlt) (by omega))) (lenOf pd__II_I rfl) d46_25 rfl (nle rfl) (nle rfl) (nle rfl) (nle rfl) all0 all0 all0 rfl
  replace G := G'; clear G'
  obtain ⟨wm1, qm1, rfl, em, rfl⟩ := Qm1
  replace G := G.val qm1
  subst em
  have Ad' := Ad.pad (vs' := List.replicate cap (.int 0)) (pad_rep [] (.int 0) cap)
  have m1 : cap < 2147483648 := by omega
  obtain ⟨h2, G', Ap, Kp⟩ := G.cpy 31 (hw _ (mm 184 rfl)) (hw _ (mm 116 rfl)) (hw _ (mm 114 rfl)) (hw _ (mm 115 rfl)) Ab Ad' rfl (by decide) (by decide) (ofn_nn m1) (by rw [ofn_nat m1]; exact Nat.le_of_eq (Nat.zero_add _)) (by rw [ofn_nat m1, ofn_nat (by omega)]; rw [show (0 : Int32).toNatClampNeg = 0 from rfl]; omega) (by rw [ofn_nat m1]; simp) (Or.inr sd) (mm 0 rfl) d46_28 rfl (nle rfl) (nle rfl) rfl
  replace G := G'; clear G'
  rw [ofn_nat m1, show (0 : Int32).toNatClampNeg = 0 from rfl] at Ap
  replace Ap := Ap.pad (cpg bs cap (.int 0) hbs); replace Yd := Yd.keep Kp
  replace G := G.aloadN 32 d46_31 rfl rfl rfl
  exact G.retA hret rfl rfl hlk d46_32 [d] (allS (mm 0 rfl) all0) ⟨_, rfl, d, rfl, ⟨kd, Ap⟩, Yd, sd, rfl⟩ (nle rfl) (nle rfl)
theorem c_ensY (l : Launch) (Z : State) (a0 : Array Value) (hw : ∀ d ∈ tables_1, d.before a0 Z = true) (hEW : EW Z a0 consts_1) (n0 : Nat) (c1 : Int32) (hc1 : ¬ c1 = 0) (S1 : Sta Z Z.heap "java/lang/String" "COMPACT_STRINGS" "Z" (.int c1)) (v2 : Value) (hv2 : v2.isRef = true) (S2 : Sta Z Z.heap "jdk/internal/util/Preconditions" "SIOOBE_FORMATTER" "Ljava/util/function/BiFunction;" v2) (a b : Addr) (cap mc : Nat) (bs : List Value) {h0 : Heap} (o1 : Old Z n0 h0) (ge_a : n0 ≤ a) (hmc : mc ≤ 62) (hcap : cap ≤ 126) (hbs : bs.length ≤ cap) (hS : SbdY Z h0 a b cap bs) :
    Con Z a0 l (⟨"java/lang/AbstractStringBuilder", "ensureCapacityInternal", "(I)V"⟩ : MethodName) jdk_68_method_9_code 3 (none) ({ frames := 3, cells := 1, slots := 126, locals := 56 } : Room) [] #[(.ref a), (.int (Int32.ofNat mc))] consts_1 h0 n0 [a] [a, b] (V0 fun h so => ∃ b' cap', SbdY Z h a b' cap' bs ∧ mc ≤ cap' ∧ cap' ≤ 126 ∧ (b' = b ∨ h0.size ≤ b') ∧ so = [b']) := by
  refine Con.body (plainFor_of_name pn_java_lang_AbstractStringBuilder) hEW o1 (allS ge_a all0) #[.val (.ref a), .val (.int (Int32.ofNat mc)), .unset] (fun m => by first | (simp [entryFrame, mkF, argsToLocals, Value.category]; done) | rfl) ?_
  intro p e s m below meth c B hnm hret hlk G
  rcases Nat.lt_or_ge cap mc with hlt | hge
  · skip
    have hg := gcap_b hlt hmc; have hS' := hS
    obtain ⟨⟨Xa, Fv, Fc, Fn, kb, Ab⟩, Yb⟩ := hS
    replace G := G.aloadN 1 d12_0 rfl rfl rfl |>.getf 4 (host := "") (Or.inl (hw _ (mm 65 rfl))) Via.refl Fv d12_1 rfl |>.alen 5 Ab d12_4 rfl |>.aloadN 6 d12_5 rfl rfl rfl |>.getf 9 (host := "") (Or.inl (hw _ (mm 67 rfl))) Via.refl Fc d12_6 rfl |>.ishr 10 d12_9 rfl |>.top (y := (.int (Int32.ofNat cap))) (congrArg Value.int (shr0 _)) |>.istoreN 11 #[.val (.ref a), .val (.int (Int32.ofNat mc)), .val (.int (Int32.ofNat cap))] d12_10 rfl rfl
    replace G := G.iloadN 12 d12_11 rfl rfl |>.iloadN 13 d12_12 rfl rfl |>.isub 14 d12_13 rfl |>.ifF 17 d12_14 (XT.i0_le_f (by rw [ofn_sub (Nat.le_of_lt hlt) (by omega)]; exact ofn_lt (i := 0) (by omega) (by omega))) rfl |>.aloadN 18 d12_17 rfl rfl rfl |>.aloadN 19 d12_18 rfl rfl rfl |>.getf 22 (host := "") (Or.inl (hw _ (mm 65 rfl))) Via.refl Fv d12_19 rfl |>.aloadN 23 d12_22 rfl rfl rfl
    replace G := G.iloadN 24 d12_23 rfl rfl
    obtain ⟨vn1, h_n, son1, G', Kn1, Qn1⟩ := G.callV 27 (hw _ (mm 274 rfl)) (declOf (hw _ (mm 275 rfl)) (hw _ (mm 278 rfl))) (nfSel (hw _ (mm 277 rfl))) (hw _ (mm 277 rfl)) (hw _ (mm 275 rfl)) (hw _ (mm 61 rfl)) (hw _ (mm 278 rfl)) Xa (by decide) [(.int (Int32.ofNat mc))] [(.ref b), (.ref a)] rfl (c_newCap l Z a0 hw hEW n0 c1 hc1 S1 v2 hv2 S2 a b cap mc bs G.old hlt hmc hS'.1) (lenOf pd__I_I rfl) d12_24 rfl (nle rfl) (nle rfl) (nle rfl) (nle rfl) all0 all0 all0 rfl
    replace G := G'; clear G'
    obtain ⟨wn1, qn1, rfl, en, rfl⟩ := Qn1
    replace G := G.val qn1
    subst en
    replace G := G.aloadN 28 d12_27 rfl rfl rfl |>.getf 31 (host := "") (Or.inl (hw _ (mm 67 rfl))) Via.refl Fc d12_28 rfl |>.ishl 32 d12_31 rfl |>.top (y := (.int (Int32.ofNat (gcap cap mc)))) (congrArg Value.int (shl0 _))
    obtain ⟨vc, h1, soc, G', Kc, Qc⟩ := G.callS 35 (hw _ (mm 288 rfl)) (hw _ (mm 289 rfl)) (hw _ (mm 172 rfl)) (hw _ (mm 290 rfl)) (by decide) [(.ref b), (.int (Int32.ofNat (gcap cap mc)))] [(.ref a)] rfl (c_copyY l Z a0 hw hEW n0 c1 hc1 S1 v2 hv2 S2 b kb cap (gcap cap mc) bs G.old hg.2.1 hg.2.2 hbs Ab) (lenOf pd___BI__B rfl) d12_32 rfl (nle rfl) (nle rfl) (nle rfl) (nle rfl) all0 all0 all0 rfl
    replace G := G'; clear G'
    obtain ⟨wc, qc, d, rfl, ⟨kdd, Ad⟩, Yd, sd, rfl⟩ := Qc
    replace G := G.val qc
    have nad : a ≠ d := (ne_ge Xa.lt sd).symm
    replace Xa := Xa.keep Kc; replace Fv := Fv.keep Kc nin0; replace Fc := Fc.keep Kc nin0; replace Fn := Fn.keep Kc nin0
    obtain ⟨h2, G', Wv', Fv', Kv'⟩ := G.putf 38 (host := "") (Or.inl (hw _ (mm 65 rfl))) Via.refl Fv Xa (Or.inl (hw _ (mm 66 rfl))) (hw _ (mm 52 rfl)) (ty := (.array .byte)) (by decide) rfl rfl (Or.inl (mm 0 rfl)) (mm 1 rfl) d12_35 rfl
    replace G := G'; clear G'
    replace Fn := Fn.other Wv' (Or.inr (slot_ne (Or.inl (hw _ (mm 91 rfl))) (Or.inl (hw _ (mm 66 rfl))) (by decide) (t := .int) (t' := (.array .byte)) (by decide) (by decide))); replace Fc := Fc.other Wv' (Or.inr (slot_ne (Or.inl (hw _ (mm 68 rfl))) (Or.inl (hw _ (mm 66 rfl))) (by decide) (t := .byte) (t' := (.array .byte)) (by decide) (by decide))); replace Xa := Xa.wr Wv'; replace Ad := Ad.keep Kv' (ninS nad.symm nin0); replace Yd := Yd.keep Kv'
    exact G.retV hret hlk d12_38 [d] (allS (mm 0 rfl) all0) ⟨rfl, d, gcap cap mc, ⟨⟨Xa, Fv', Fc, Fn, kdd, Ad⟩, Yd⟩, hg.1, hg.2.2, Or.inr sd, rfl⟩ (nle rfl) (nle rfl)
  · skip
    have hS' := hS
    obtain ⟨⟨Xa, Fv, Fc, Fn, kb, Ab⟩, Yb⟩ := hS
    replace G := G.aloadN 1 d12_0 rfl rfl rfl |>.getf 4 (host := "") (Or.inl (hw _ (mm 65 rfl))) Via.refl Fv d12_1 rfl |>.alen 5 Ab d12_4 rfl |>.aloadN 6 d12_5 rfl rfl rfl |>.getf 9 (host := "") (Or.inl (hw _ (mm 67 rfl))) Via.refl Fc d12_6 rfl |>.ishr 10 d12_9 rfl |>.top (y := (.int (Int32.ofNat cap))) (congrArg Value.int (shr0 _)) |>.istoreN 11 #[.val (.ref a), .val (.int (Int32.ofNat mc)), .val (.int (Int32.ofNat cap))] d12_10 rfl rfl
    replace G := G.iloadN 12 d12_11 rfl rfl |>.iloadN 13 d12_12 rfl rfl |>.isub 14 d12_13 rfl |>.ifT 38 d12_14 (XT.i0_le_t (ofn_le0 hge (by omega))) (by decide) (by decide)
    exact G.retV hret hlk d12_38 [b] (allS (mm 1 rfl) all0) ⟨rfl, b, cap, hS', hge, hcap, Or.inl rfl, rfl⟩ (nle rfl) (nle rfl)
theorem d9_0 : decode jdk_68_method_22_code 0 = .ok (.aload_n 1, 1) := by decide +kernel
theorem d9_1 : decode jdk_68_method_22_code 1 = .ok (.ifnonnull 8, 3) := by decide +kernel
theorem d9_4 : decode jdk_68_method_22_code 4 = .ok (.aload_n 0, 1) := by decide +kernel
theorem d9_5 : decode jdk_68_method_22_code 5 = .ok (.invokevirtual 204, 3) := by decide +kernel
theorem d9_8 : decode jdk_68_method_22_code 8 = .ok (.areturn, 1) := by decide +kernel
theorem d9_9 : decode jdk_68_method_22_code 9 = .ok (.aload_n 1, 1) := by decide +kernel
theorem d9_10 : decode jdk_68_method_22_code 10 = .ok (.invokevirtual 32, 3) := by decide +kernel
theorem d9_13 : decode jdk_68_method_22_code 13 = .ok (.istore_n 2, 1) := by decide +kernel
theorem d9_14 : decode jdk_68_method_22_code 14 = .ok (.aload_n 0, 1) := by decide +kernel
theorem d9_15 : decode jdk_68_method_22_code 15 = .ok (.aload_n 0, 1) := by decide +kernel
theorem d9_16 : decode jdk_68_method_22_code 16 = .ok (.getfield 79, 3) := by decide +kernel
theorem d9_19 : decode jdk_68_method_22_code 19 = .ok (.iload_n 2, 1) := by decide +kernel
theorem d9_20 : decode jdk_68_method_22_code 20 = .ok (.iadd, 1) := by decide +kernel
theorem d9_21 : decode jdk_68_method_22_code 21 = .ok (.invokevirtual 100, 3) := by decide +kernel
theorem d9_24 : decode jdk_68_method_22_code 24 = .ok (.aload_n 0, 1) := by decide +kernel
theorem d9_25 : decode jdk_68_method_22_code 25 = .ok (.aload_n 0, 1) := by decide +kernel
theorem d9_26 : decode jdk_68_method_22_code 26 = .ok (.getfield 79, 3) := by decide +kernel
theorem d9_29 : decode jdk_68_method_22_code 29 = .ok (.aload_n 1, 1) := by decide +kernel
theorem d9_30 : decode jdk_68_method_22_code 30 = .ok (.invokevirtual 208, 3) := by decide +kernel
theorem d9_33 : decode jdk_68_method_22_code 33 = .ok (.aload_n 0, 1) := by decide +kernel
theorem d9_34 : decode jdk_68_method_22_code 34 = .ok (.dup, 1) := by decide +kernel
theorem d9_35 : decode jdk_68_method_22_code 35 = .ok (.getfield 79, 3) := by decide +kernel
theorem d9_38 : decode jdk_68_method_22_code 38 = .ok (.iload_n 2, 1) := by decide +kernel
theorem d9_39 : decode jdk_68_method_22_code 39 = .ok (.iadd, 1) := by decide +kernel
theorem d9_40 : decode jdk_68_method_22_code 40 = .ok (.putfield 79, 3) := by decide +kernel
theorem d9_43 : decode jdk_68_method_22_code 43 = .ok (.aload_n 0, 1) := by decide +kernel
theorem d9_44 : decode jdk_68_method_22_code 44 = .ok (.areturn, 1) := by decide +kernel
theorem c_asbAppY (l : Launch) (Z : State) (a0 : Array Value) (hw : ∀ d ∈ tables_1, d.before a0 Z = true) (hEW : EW Z a0 consts_1) (n0 : Nat) (c1 : Int32) (hc1 : ¬ c1 = 0) (S1 : Sta Z Z.heap "java/lang/String" "COMPACT_STRINGS" "Z" (.int c1)) (v2 : Value) (hv2 : v2.isRef = true) (S2 : Sta Z Z.heap "jdk/internal/util/Preconditions" "SIOOBE_FORMATTER" "Ljava/util/function/BiFunction;" v2) (a b a2 b2 : Addr) (cap : Nat) (bs cs : List Value) {h0 : Heap} (o1 : Old Z n0 h0) (ge_a : n0 ≤ a) (ge_b : n0 ≤ b) (hle : bs.length + cs.length ≤ 62) (hcap : cap ≤ 126) (hbs : bs.length ≤ cap) (hS : SbdY Z h0 a b cap bs) (hT : Str Z h0 a2 b2 cs) (n2a : a2 ≠ a) (n2b : b2 ≠ a) :
    Con Z a0 l (⟨"java/lang/AbstractStringBuilder", "append", "(Ljava/lang/String;)Ljava/lang/AbstractStringBuilder;"⟩ : MethodName) jdk_68_method_22_code 3 (some (.object "java/lang/AbstractStringBuilder")) ({ frames := 4, cells := 1, slots := 126, locals := 70 } : Room) [] #[(.ref a), (.ref a2)] consts_1 h0 n0 [a, b] [a, b] (VV fun w h so => w = .ref a ∧ ∃ b' cap', SbdY Z h a b' cap' (bs ++ cs) ∧ (bs ++ cs).length ≤ cap' ∧ cap' ≤ 126 ∧ (b' = b ∨ h0.size ≤ b') ∧ so = [b']) := by
  refine Con.body (plainFor_of_name pn_java_lang_AbstractStringBuilder) hEW o1 (allS ge_a (allS ge_b all0)) #[.val (.ref a), .val (.ref a2), .unset] (fun m => by first | (simp [entryFrame, mkF, argsToLocals, Value.category]; done) | rfl) ?_
  intro p e s m below meth c B hnm hret hlk G
  replace G := G.aloadN 1 d9_0 rfl rfl rfl |>.ifnonnullT 9 d9_1 (by decide) (by decide) |>.aloadN 10 d9_9 rfl rfl rfl
  obtain ⟨vl, h_l, sol, G', Kl, Ql⟩ := G.callV 13 (hw _ (mm 79 rfl)) (hw _ (mm 80 rfl)) (nfSel (hw _ (mm 82 rfl))) (hw _ (mm 82 rfl)) (hw _ (mm 81 rfl)) (hw _ (mm 6 rfl)) (hw _ (mm 83 rfl)) hT.1 (by decide) [] [] rfl (c_length l Z a0 hw hEW n0 c1 hc1 S1 v2 hv2 S2 a2 b2 cs G.old hT) (lenOf pd___I rfl) d9_10 rfl (nle rfl) (nle rfl) (nle rfl) (nle rfl) all0 all0 all0 rfl
  replace G := G'; clear G'
  obtain ⟨wl, ql, rfl, el, rfl⟩ := Ql
  replace G := G.val ql
  subst el
  replace G := G.istoreN 14 #[.val (.ref a), .val (.ref a2), .val (.int (Int32.ofNat cs.length))] d9_13 rfl rfl |>.aloadN 15 d9_14 rfl rfl rfl |>.aloadN 16 d9_15 rfl rfl rfl |>.getf 19 (host := "") (Or.inl (hw _ (mm 90 rfl))) Via.refl hS.1.2.2.2.1 d9_16 rfl |>.iloadN 20 d9_19 rfl rfl |>.iadd 21 d9_20 rfl |>.top (y := (.int (Int32.ofNat (bs.length + cs.length)))) (congrArg Value.int (ofn_add _ _))
  obtain ⟨ve, h1, soe, G', Ke, Qe⟩ := G.callV 24 (hw _ (mm 92 rfl)) (declOf (hw _ (mm 93 rfl)) (hw _ (mm 96 rfl))) (nfSel (hw _ (mm 95 rfl))) (hw _ (mm 95 rfl)) (hw _ (mm 93 rfl)) (hw _ (mm 61 rfl)) (hw _ (mm 96 rfl)) hS.1.1 (by decide) [(.int (Int32.ofNat (bs.length + cs.length)))] [] rfl (c_ensY l Z a0 hw hEW n0 c1 hc1 S1 v2 hv2 S2 a b cap (bs.length + cs.length) bs G.old ge_a hle hcap hbs hS) (lenOf pd__I_V rfl) d9_21 rfl (nle rfl) (nle rfl) (nle rfl) (nle rfl) (allS (Or.inl (mm 0 rfl)) all0) (allS (mm 0 rfl) (allS (mm 1 rfl) all0)) (allS (mm 0 rfl) all0) rfl
  replace G := G'; clear G'
  obtain ⟨qe, b1, cp1, hS1, hl1, hcp, hb1, rfl⟩ := Qe
  replace G := G.nov qe
  replace hT := hT.keep Ke (ninS n2a nin0) (ninS n2b nin0); have nwb : NW h_l [a, b] b1 := hb1.elim (fun q => Or.inl (q ▸ (mm 1 rfl))) Or.inr
  replace G := G.aloadN 25 d9_24 rfl rfl rfl |>.aloadN 26 d9_25 rfl rfl rfl |>.getf 29 (host := "") (Or.inl (hw _ (mm 90 rfl))) Via.refl hS1.1.2.2.2.1 d9_26 rfl |>.aloadN 30 d9_29 rfl rfl rfl
  obtain ⟨vp, h2, sop, G', Kp, Qp⟩ := G.callV 33 (hw _ (mm 97 rfl)) (declOf (hw _ (mm 98 rfl)) (hw _ (mm 101 rfl))) (nfSel (hw _ (mm 100 rfl))) (hw _ (mm 100 rfl)) (hw _ (mm 98 rfl)) (hw _ (mm 61 rfl)) (hw _ (mm 101 rfl)) hS1.1.1 (by decide) [(.int (Int32.ofNat bs.length)), (.ref a2)] [] rfl (c_putStr l Z a0 hw hEW n0 c1 hc1 S1 v2 hv2 S2 a b1 a2 b2 cp1 bs cs G.old (G.nw nwb) hl1 (by omega) hS1.1 hT) (lenOf pd__ILjava_lang_String__V rfl) d9_30 rfl (nle rfl) (nle rfl) (nle rfl) (nle rfl) (allS nwb all0) (allS (mm 0 rfl) all0) (allS (mm 0 rfl) all0) rfl
  replace G := G'; clear G'
  obtain ⟨qp, ⟨kb, Ab⟩, rfl⟩ := Qp
  replace G := G.nov qp
  obtain ⟨⟨Xa, Fv, Fc, Fn, kb0, Ab0⟩, Yb⟩ := hS1
  have nab : a ≠ b1 := ne_arr Xa (hw _ (mm 52 rfl)) Ab0.choose_spec.1
  replace Xa := Xa.keep Kp; replace Fv := Fv.keep Kp (ninS nab nin0); replace Fc := Fc.keep Kp (ninS nab nin0); replace Fn := Fn.keep Kp (ninS nab nin0); replace Yb := Yb.keep Kp
  replace G := G.aloadN 34 d9_33 rfl rfl rfl |>.dup 35 d9_34 rfl rfl |>.getf 38 (host := "") (Or.inl (hw _ (mm 90 rfl))) Via.refl Fn d9_35 rfl |>.iloadN 39 d9_38 rfl rfl |>.iadd 40 d9_39 rfl |>.top (y := (.int (Int32.ofNat (bs ++ cs).length))) (congrArg Value.int ((ofn_add _ _).trans (by rw [List.length_append])))
  obtain ⟨h3, G', Ww, Fw, Kw⟩ := G.putf 43 (host := "") (Or.inl (hw _ (mm 90 rfl))) Via.refl Fn Xa (Or.inl (hw _ (mm 91 rfl))) (hw _ (mm 52 rfl)) (ty := .int) (by decide) rfl rfl (Or.inl (mm 0 rfl)) (mm 1 rfl) d9_40 rfl
  replace G := G'; clear G'
  replace Fv := Fv.other Ww (Or.inr (slot_ne (Or.inl (hw _ (mm 66 rfl))) (Or.inl (hw _ (mm 91 rfl))) (by decide) (t := (.array .byte)) (t' := .int) (by decide) (by decide))); replace Fc := Fc.other Ww (Or.inr (slot_ne (Or.inl (hw _ (mm 68 rfl))) (Or.inl (hw _ (mm 91 rfl))) (by decide) (t := .byte) (t' := .int) (by decide) (by decide))); replace Xa := Xa.wr Ww; replace Ab := Ab.keep Kw (ninS nab.symm nin0); replace Yb := Yb.keep Kw
  replace G := G.aloadN 44 d9_43 rfl rfl rfl
  exact G.retA hret rfl rfl hlk d9_44 [b1] (allS (mm 0 rfl) all0) ⟨_, rfl, rfl, b1, cp1, ⟨⟨Xa, Fv, Fc, Fw, kb, Ab⟩, Yb⟩, by rw [List.length_append]; exact hl1, hcp, hb1, rfl⟩ (nle rfl) (nle rfl)
theorem d8_0 : decode jdk_67_method_7_code 0 = .ok (.aload_n 0, 1) := by decide +kernel
theorem d8_1 : decode jdk_67_method_7_code 1 = .ok (.aload_n 1, 1) := by decide +kernel
theorem d8_2 : decode jdk_67_method_7_code 2 = .ok (.invokespecial 29, 3) := by decide +kernel
theorem d8_5 : decode jdk_67_method_7_code 5 = .ok (.pop, 1) := by decide +kernel
theorem d8_6 : decode jdk_67_method_7_code 6 = .ok (.aload_n 0, 1) := by decide +kernel
theorem d8_7 : decode jdk_67_method_7_code 7 = .ok (.areturn, 1) := by decide +kernel
theorem c_appY (l : Launch) (Z : State) (a0 : Array Value) (hw : ∀ d ∈ tables_1, d.before a0 Z = true) (hEW : EW Z a0 consts_1) (n0 : Nat) (c1 : Int32) (hc1 : ¬ c1 = 0) (S1 : Sta Z Z.heap "java/lang/String" "COMPACT_STRINGS" "Z" (.int c1)) (v2 : Value) (hv2 : v2.isRef = true) (S2 : Sta Z Z.heap "jdk/internal/util/Preconditions" "SIOOBE_FORMATTER" "Ljava/util/function/BiFunction;" v2) (a b a2 b2 : Addr) (cap : Nat) (bs cs : List Value) {h0 : Heap} (o1 : Old Z n0 h0) (ge_a : n0 ≤ a) (ge_b : n0 ≤ b) (hle : bs.length + cs.length ≤ 62) (hcap : cap ≤ 126) (hbs : bs.length ≤ cap) (hS : SbdY Z h0 a b cap bs) (hT : Str Z h0 a2 b2 cs) (n2a : a2 ≠ a) (n2b : b2 ≠ a) :
    Con Z a0 l (⟨"java/lang/StringBuilder", "append", "(Ljava/lang/String;)Ljava/lang/StringBuilder;"⟩ : MethodName) jdk_67_method_7_code 2 (some (.object "java/lang/StringBuilder")) ({ frames := 5, cells := 1, slots := 126, locals := 84 } : Room) [] #[(.ref a), (.ref a2)] consts_1 h0 n0 [a, b] [a, b] (VV fun w h so => w = .ref a ∧ ∃ b' cap', SbdY Z h a b' cap' (bs ++ cs) ∧ (bs ++ cs).length ≤ cap' ∧ cap' ≤ 126 ∧ (b' = b ∨ h0.size ≤ b') ∧ so = [b']) := by
  refine Con.body (plainFor_of_name pn_java_lang_StringBuilder) hEW o1 (allS ge_a (allS ge_b all0)) #[.val (.ref a), .val (.ref a2)] (fun m => by first | (simp [entryFrame, mkF, argsToLocals, Value.category]; done) | rfl) ?_
  intro p e s m below meth c B hnm hret hlk G
  replace G := G.aloadN 1 d8_0 rfl rfl rfl |>.aloadN 2 d8_1 rfl rfl rfl
  obtain ⟨vp, h1, sop, G', Kp, Qp⟩ := G.callSup 5 (hw _ (mm 74 rfl)) (sameOf (hw _ (mm 75 rfl)) (nfVia (y := (⟨"java/lang/AbstractStringBuilder", "ensureCapacityInternal", "(I)V"⟩ : MethodName)) rfl (hw _ (mm 95 rfl)) (hw _ (mm 93 rfl))) (by decide)) (hw _ (mm 75 rfl)) (hw _ (mm 76 rfl)) (by decide) (hw _ (mm 61 rfl)) (hw _ (mm 78 rfl)) (Ins.self hS.1.1) [(.ref a2)] [] rfl (c_asbAppY l Z a0 hw hEW n0 c1 hc1 S1 v2 hv2 S2 a b a2 b2 cap bs cs G.old ge_a ge_b hle hcap hbs hS hT n2a n2b) (lenOf pd__Ljava_lang_String__Ljava_lang_AbstractStringBuilder_ rfl) d8_2 rfl (nle rfl) (nle rfl) (nle rfl) (nle rfl) (allS (Or.inl (mm 0 rfl)) (allS (Or.inl (mm 1 rfl)) all0)) (allS (mm 0 rfl) (allS (mm 1 rfl) all0)) (allS (mm 0 rfl) (allS (mm 1 rfl) all0)) rfl
  replace G := G'; clear G'
  obtain ⟨wp, qp, rfl, b1, cp1, hS1, hl1, hcp, hb1, rfl⟩ := Qp
  replace G := G.val qp |>.pop 6 d8_5 rfl rfl |>.aloadN 7 d8_6 rfl rfl rfl
  exact G.retA hret rfl rfl hlk d8_7 [b1] (allS (mm 0 rfl) all0) ⟨_, rfl, rfl, b1, cp1, hS1, hl1, hcp, hb1, rfl⟩ (nle rfl) (nle rfl)
theorem c_minR (l : Launch) (Z : State) (a0 : Array Value) (hw : ∀ d ∈ tables_1, d.before a0 Z = true) (hEW : EW Z a0 consts_1) (n0 : Nat) (c1 : Int32) (hc1 : ¬ c1 = 0) (S1 : Sta Z Z.heap "java/lang/String" "COMPACT_STRINGS" "Z" (.int c1)) (v2 : Value) (hv2 : v2.isRef = true) (S2 : Sta Z Z.heap "jdk/internal/util/Preconditions" "SIOOBE_FORMATTER" "Ljava/util/function/BiFunction;" v2) (x y : Int32) {h0 : Heap} (o1 : Old Z n0 h0) (hxy : y < x) :
    Con Z a0 l (⟨"java/lang/Math", "min", "(II)I"⟩ : MethodName) jdk_29_method_69_code 2 (some .int) ({ frames := 0, cells := 0, slots := 0, locals := 0 } : Room) [] #[(.int x), (.int y)] consts_1 h0 n0 [] [] (VV fun w h so => w = .int y ∧ h = h0 ∧ so = []) := by
  refine Con.body (by decide +kernel) hEW o1 all0 #[.val (.int x), .val (.int y)] (fun m => by first | (simp [entryFrame, mkF, argsToLocals, Value.category]; done) | rfl) ?_
  intro p e s m below meth c B hnm hret hlk G
  replace G := G.iloadN 1 d30_0 rfl rfl |>.iloadN 2 d30_1 rfl rfl |>.icmpT 9 d30_2 (XT.ii_gt_t hxy) (by decide) (by decide) |>.iloadN 10 d30_9 rfl rfl
  exact G.retI hret hlk d30_10 [] all0 ⟨_, rfl, rfl, rfl, rfl⟩ (nle rfl) (nle rfl)
theorem d29_0 : decode jdk_65_method_131_code 0 = .ok (.iload_n 1, 1) := by decide +kernel
theorem d29_1 : decode jdk_65_method_131_code 1 = .ok (.iload_n 0, 1) := by decide +kernel
theorem d29_2 : decode jdk_65_method_131_code 2 = .ok (.if_icmp .ge 35, 3) := by decide +kernel
theorem d29_5 : decode jdk_65_method_131_code 5 = .ok (.new 43, 3) := by decide +kernel
theorem d29_8 : decode jdk_65_method_131_code 8 = .ok (.dup, 1) := by decide +kernel
theorem d29_9 : decode jdk_65_method_131_code 9 = .ok (.new 45, 3) := by decide +kernel
theorem d29_12 : decode jdk_65_method_131_code 12 = .ok (.dup, 1) := by decide +kernel
theorem d29_13 : decode jdk_65_method_131_code 13 = .ok (.invokespecial 47, 3) := by decide +kernel
theorem d29_16 : decode jdk_65_method_131_code 16 = .ok (.iload_n 0, 1) := by decide +kernel
theorem d29_17 : decode jdk_65_method_131_code 17 = .ok (.invokevirtual 54, 3) := by decide +kernel
theorem d29_20 : decode jdk_65_method_131_code 20 = .ok (.ldc_w 337, 3) := by decide +kernel
theorem d29_23 : decode jdk_65_method_131_code 23 = .ok (.invokevirtual 50, 3) := by decide +kernel
theorem d29_26 : decode jdk_65_method_131_code 26 = .ok (.iload_n 1, 1) := by decide +kernel
theorem d29_27 : decode jdk_65_method_131_code 27 = .ok (.invokevirtual 54, 3) := by decide +kernel
theorem d29_30 : decode jdk_65_method_131_code 30 = .ok (.invokevirtual 61, 3) := by decide +kernel
theorem d29_33 : decode jdk_65_method_131_code 33 = .ok (.invokespecial 65, 3) := by decide +kernel
theorem d29_36 : decode jdk_65_method_131_code 36 = .ok (.athrow, 1) := by decide +kernel
theorem d29_37 : decode jdk_65_method_131_code 37 = .ok (.return_, 1) := by decide +kernel
theorem c_chkLen (l : Launch) (Z : State) (a0 : Array Value) (hw : ∀ d ∈ tables_1, d.before a0 Z = true) (hEW : EW Z a0 consts_1) (n0 : Nat) (c1 : Int32) (hc1 : ¬ c1 = 0) (S1 : Sta Z Z.heap "java/lang/String" "COMPACT_STRINGS" "Z" (.int c1)) (v2 : Value) (hv2 : v2.isRef = true) (S2 : Sta Z Z.heap "jdk/internal/util/Preconditions" "SIOOBE_FORMATTER" "Ljava/util/function/BiFunction;" v2) (x y : Int32) {h0 : Heap} (o1 : Old Z n0 h0) (hxy : ¬ y < x) :
    Con Z a0 l (⟨"java/util/Arrays", "checkLength", "(II)V"⟩ : MethodName) jdk_65_method_131_code 2 (none) ({ frames := 0, cells := 0, slots := 0, locals := 0 } : Room) [] #[(.int x), (.int y)] consts_1 h0 n0 [] [] (V0 fun h so => h = h0 ∧ so = []) := by
  refine Con.body (plainFor_of_name pn_java_util_Arrays) hEW o1 all0 #[.val (.int x), .val (.int y)] (fun m => by first | (simp [entryFrame, mkF, argsToLocals, Value.category]; done) | rfl) ?_
  intro p e s m below meth c B hnm hret hlk G
  replace G := G.iloadN 1 d29_0 rfl rfl |>.iloadN 2 d29_1 rfl rfl |>.icmpT 37 d29_2 (XT.ii_ge_t hxy) (by decide) (by decide)
  exact G.retV hret hlk d29_37 [] all0 ⟨rfl, rfl, rfl⟩ (nle rfl) (nle rfl)
theorem d28_0 : decode jdk_65_method_133_code 0 = .ok (.iload_n 1, 1) := by decide +kernel
theorem d28_1 : decode jdk_65_method_133_code 1 = .ok (.iload_n 2, 1) := by decide +kernel
theorem d28_2 : decode jdk_65_method_133_code 2 = .ok (.invokestatic 343, 3) := by decide +kernel
theorem d28_5 : decode jdk_65_method_133_code 5 = .ok (.iload_n 2, 1) := by decide +kernel
theorem d28_6 : decode jdk_65_method_133_code 6 = .ok (.iload_n 1, 1) := by decide +kernel
theorem d28_7 : decode jdk_65_method_133_code 7 = .ok (.isub, 1) := by decide +kernel
theorem d28_8 : decode jdk_65_method_133_code 8 = .ok (.istore_n 3, 1) := by decide +kernel
theorem d28_9 : decode jdk_65_method_133_code 9 = .ok (.iload_n 3, 1) := by decide +kernel
theorem d28_10 : decode jdk_65_method_133_code 10 = .ok (.newarray .byte, 2) := by decide +kernel
theorem d28_12 : decode jdk_65_method_133_code 12 = .ok (.astore 4, 2) := by decide +kernel
theorem d28_14 : decode jdk_65_method_133_code 14 = .ok (.aload_n 0, 1) := by decide +kernel
theorem d28_15 : decode jdk_65_method_133_code 15 = .ok (.iload_n 1, 1) := by decide +kernel
theorem d28_16 : decode jdk_65_method_133_code 16 = .ok (.aload 4, 2) := by decide +kernel
theorem d28_18 : decode jdk_65_method_133_code 18 = .ok (.iconst 0, 1) := by decide +kernel
theorem d28_19 : decode jdk_65_method_133_code 19 = .ok (.aload_n 0, 1) := by decide +kernel
theorem d28_20 : decode jdk_65_method_133_code 20 = .ok (.arraylength, 1) := by decide +kernel
theorem d28_21 : decode jdk_65_method_133_code 21 = .ok (.iload_n 1, 1) := by decide +kernel
theorem d28_22 : decode jdk_65_method_133_code 22 = .ok (.isub, 1) := by decide +kernel
theorem d28_23 : decode jdk_65_method_133_code 23 = .ok (.iload_n 3, 1) := by decide +kernel
theorem d28_24 : decode jdk_65_method_133_code 24 = .ok (.invokestatic 304, 3) := by decide +kernel
theorem d28_27 : decode jdk_65_method_133_code 27 = .ok (.invokestatic 150, 3) := by decide +kernel
theorem d28_30 : decode jdk_65_method_133_code 30 = .ok (.aload 4, 2) := by decide +kernel
theorem d28_32 : decode jdk_65_method_133_code 32 = .ok (.areturn, 1) := by decide +kernel
theorem c_corb (l : Launch) (Z : State) (a0 : Array Value) (hw : ∀ d ∈ tables_1, d.before a0 Z = true) (hEW : EW Z a0 consts_1) (n0 : Nat) (c1 : Int32) (hc1 : ¬ c1 = 0) (S1 : Sta Z Z.heap "java/lang/String" "COMPACT_STRINGS" "Z" (.int c1)) (v2 : Value) (hv2 : v2.isRef = true) (S2 : Sta Z Z.heap "jdk/internal/util/Preconditions" "SIOOBE_FORMATTER" "Ljava/util/function/BiFunction;" v2) (b : Addr) (kb : ClassId) (cap : Nat) (bs : List Value) {h0 : Heap} (o1 : Old Z n0 h0) (hlt : bs.length < cap) (hcap : cap < 2147483648) (hmax : bs.length ≤ 32) (Ab : Arv Z h0 b kb .byte (Int32.ofNat cap) bs (.int 0)) :
    Con Z a0 l (⟨"java/util/Arrays", "copyOfRangeByte", "([BII)[B"⟩ : MethodName) jdk_65_method_133_code 5 (some (.array .byte)) ({ frames := 1, cells := 1, slots := 32, locals := 41 } : Room) [] #[(.ref b), (.int (0 : Int32)), (.int (Int32.ofNat bs.length))] consts_1 h0 n0 [] [] (VV fun w h so => ∃ n, w = .ref n ∧ (∃ k, Arv Z h n k .byte (Int32.ofNat bs.length) bs (.int 0)) ∧ h0.size ≤ n ∧ so = [n]) := by
  refine Con.body (plainFor_of_name pn_java_util_Arrays) hEW o1 all0 #[.val (.ref b), .val (.int (0 : Int32)), .val (.int (Int32.ofNat bs.length)), .unset, .unset] (fun m => by first | (simp [entryFrame, mkF, argsToLocals, Value.category]; done) | rfl) ?_
  intro p e s m below meth c B hnm hret hlk G
  have m1 : cap < 2147483648 := hcap
  have m2 : bs.length < 2147483648 := by omega
  replace G := G.iloadN 1 d28_0 rfl rfl |>.iloadN 2 d28_1 rfl rfl
  obtain ⟨vk, h_k, sok, G', Kk, Qk⟩ := G.callS 5 (hw _ (mm 177 rfl)) (hw _ (mm 178 rfl)) (hw _ (mm 172 rfl)) (hw _ (mm 179 rfl)) (by decide) [(.int (0 : Int32)), (.int (Int32.ofNat bs.length))] [] rfl (c_chkLen l Z a0 hw hEW n0 c1 hc1 S1 v2 hv2 S2 0 (Int32.ofNat bs.length) G.old (ofn_nn m2)) (lenOf pd__II_V rfl) d28_2 rfl (nle rfl) (nle rfl) (nle rfl) (nle rfl) all0 all0 all0 rfl
  replace G := G'; clear G'
  obtain ⟨qk, ek, rfl⟩ := Qk
  replace G := G.nov qk
  subst ek
  replace G := G.iloadN 6 d28_5 rfl rfl |>.iloadN 7 d28_6 rfl rfl |>.isub 8 d28_7 rfl |>.top (y := (.int (Int32.ofNat bs.length))) (congrArg Value.int (sub0 _)) |>.istoreN 9 #[.val (.ref b), .val (.int (0 : Int32)), .val (.int (Int32.ofNat bs.length)), .val (.int (Int32.ofNat bs.length)), .unset] d28_8 rfl rfl |>.iloadN 10 d28_9 rfl rfl
  obtain ⟨n, h1, kn, G', gn, sn, En, An⟩ := G.newarray 12 (hw _ (mm 19 rfl)) d28_10 (ofn_nn m2) 32 (by rw [ofn_nat m2]; exact hmax) (by decide) rfl (nle rfl) (nle rfl)
  replace G := G'; clear G'
  replace Ab := Ab.ext En
  replace G := G.astore 14 #[.val (.ref b), .val (.int (0 : Int32)), .val (.int (Int32.ofNat bs.length)), .val (.int (Int32.ofNat bs.length)), .val (.ref n)] d28_12 rfl rfl rfl |>.aloadN 15 d28_14 rfl rfl rfl |>.iloadN 16 d28_15 rfl rfl |>.aload 18 d28_16 rfl rfl rfl |>.iconst 19 (0 : Int32) d28_18 rfl rfl |>.aloadN 20 d28_19 rfl rfl rfl |>.alen 21 Ab d28_20 rfl |>.iloadN 22 d28_21 rfl rfl
  replace G := G.isub 23 d28_22 rfl |>.top (y := (.int (Int32.ofNat cap))) (congrArg Value.int (sub0 _)) |>.iloadN 24 d28_23 rfl rfl
  obtain ⟨vm, h_m, som, G', Km, Qm⟩ := G.callS 27 (hw _ (mm 180 rfl)) (hw _ (mm 181 rfl)) (hw _ (mm 182 rfl)) (hw _ (mm 183 rfl)) (by decide) [(.int (Int32.ofNat cap)), (.int (Int32.ofNat bs.length))] [(.int (0 : Int32)), (.ref n), (.int (0 : Int32)), (.ref b)] rfl (c_minR l Z a0 hw hEW n0 c1 hc1 S1 v2 hv2 S2 (Int32.ofNat cap) (Int32.ofNat bs.length) G.old (ofn_lt hlt hcap)) (lenOf pd__II_I rfl) d28_24 rfl (nle rfl) (nle rfl) (nle rfl) (nle rfl) all0 all0 all0 rfl
  replace G := G'; clear G'
  obtain ⟨wm, qm, rfl, em, rfl⟩ := Qm
  replace G := G.val qm
  subst em
  have An' := An.pad (vs' := [] ++ List.replicate bs.length (.int 0)) (pad_rep [] (.int 0) bs.length)
  obtain ⟨h2, G', Ap, Kp⟩ := G.cpy 30 (hw _ (mm 184 rfl)) (hw _ (mm 116 rfl)) (hw _ (mm 114 rfl)) (hw _ (mm 115 rfl)) Ab An' rfl (by decide) (by decide) (ofn_nn m2) (by rw [ofn_nat m2, ofn_nat hcap, show (0 : Int32).toNatClampNeg = 0 from rfl]; omega) (by rw [ofn_nat m2, show (0 : Int32).toNatClampNeg = 0 from rfl]; omega) (by rw [ofn_nat m2, show (0 : Int32).toNatClampNeg = 0 from rfl]; simp) (Or.inr sn) (mm 0 rfl) d28_27 rfl (nle rfl) (nle rfl) rfl
  replace G := G'; clear G'
  rw [ofn_nat m2, show (0 : Int32).toNatClampNeg = 0 from rfl] at Ap
  replace Ap := (cpy_res [] bs (.int 0)) ▸ Ap
  replace G := G.aload 32 d28_30 rfl rfl rfl
  exact G.retA hret rfl rfl hlk d28_32 [n] (allS (mm 0 rfl) all0) ⟨_, rfl, n, rfl, ⟨kn, Ap⟩, sn, rfl⟩ (nle rfl) (nle rfl)
theorem d27_0 : decode jdk_65_method_132_code 0 = .ok (.iload_n 1, 1) := by decide +kernel
theorem d27_1 : decode jdk_65_method_132_code 1 = .ok (.ifCond .ne 9, 3) := by decide +kernel
theorem d27_4 : decode jdk_65_method_132_code 4 = .ok (.iload_n 2, 1) := by decide +kernel
theorem d27_5 : decode jdk_65_method_132_code 5 = .ok (.aload_n 0, 1) := by decide +kernel
theorem d27_6 : decode jdk_65_method_132_code 6 = .ok (.arraylength, 1) := by decide +kernel
theorem d27_7 : decode jdk_65_method_132_code 7 = .ok (.if_icmp .eq 10, 3) := by decide +kernel
theorem d27_10 : decode jdk_65_method_132_code 10 = .ok (.aload_n 0, 1) := by decide +kernel
theorem d27_11 : decode jdk_65_method_132_code 11 = .ok (.iload_n 1, 1) := by decide +kernel
theorem d27_12 : decode jdk_65_method_132_code 12 = .ok (.iload_n 2, 1) := by decide +kernel
theorem d27_13 : decode jdk_65_method_132_code 13 = .ok (.invokestatic 339, 3) := by decide +kernel
theorem d27_16 : decode jdk_65_method_132_code 16 = .ok (.areturn, 1) := by decide +kernel
theorem d27_17 : decode jdk_65_method_132_code 17 = .ok (.aload_n 0, 1) := by decide +kernel
theorem d27_18 : decode jdk_65_method_132_code 18 = .ok (.invokevirtual 310, 3) := by decide +kernel
theorem d27_21 : decode jdk_65_method_132_code 21 = .ok (.checkcast 311, 3) := by decide +kernel
theorem d27_24 : decode jdk_65_method_132_code 24 = .ok (.areturn, 1) := by decide +kernel
theorem c_corX (l : Launch) (Z : State) (a0 : Array Value) (hw : ∀ d ∈ tables_1, d.before a0 Z = true) (hEW : EW Z a0 consts_1) (n0 : Nat) (c1 : Int32) (hc1 : ¬ c1 = 0) (S1 : Sta Z Z.heap "java/lang/String" "COMPACT_STRINGS" "Z" (.int c1)) (v2 : Value) (hv2 : v2.isRef = true) (S2 : Sta Z Z.heap "jdk/internal/util/Preconditions" "SIOOBE_FORMATTER" "Ljava/util/function/BiFunction;" v2) (b : Addr) (kb : ClassId) (cap : Nat) (bs : List Value) {h0 : Heap} (o1 : Old Z n0 h0) (hle : bs.length ≤ cap) (hcap : cap < 2147483648) (hmax : bs.length ≤ 32) (Yb : Exa Z h0 b "[B") (Ab : Arv Z h0 b kb .byte (Int32.ofNat cap) bs (.int 0)) :
    Con Z a0 l (⟨"java/util/Arrays", "copyOfRange", "([BII)[B"⟩ : MethodName) jdk_65_method_132_code 3 (some (.array .byte)) ({ frames := 2, cells := 1, slots := 32, locals := 57 } : Room) [] #[(.ref b), (.int (0 : Int32)), (.int (Int32.ofNat bs.length))] consts_1 h0 n0 [] [] (VV fun w h so => ∃ n, w = .ref n ∧ (∃ k, Arv Z h n k .byte (Int32.ofNat bs.length) bs (.int 0)) ∧ h0.size ≤ n ∧ so = [n]) := by
  refine Con.body (plainFor_of_name pn_java_util_Arrays) hEW o1 all0 #[.val (.ref b), .val (.int (0 : Int32)), .val (.int (Int32.ofNat bs.length))] (fun m => by first | (simp [entryFrame, mkF, argsToLocals, Value.category]; done) | rfl) ?_
  intro p e s m below meth c B hnm hret hlk G
  replace G := G.iloadN 1 d27_0 rfl rfl |>.ifF 4 d27_1 (XT.i0_ne_f rfl) rfl |>.iloadN 5 d27_4 rfl rfl |>.aloadN 6 d27_5 rfl rfl rfl |>.alen 7 Ab d27_6 rfl
  rcases Nat.lt_or_eq_of_le hle with hq | hq
  · skip
    replace G := G.icmpF 10 d27_7 (XT.ii_eq_f (ofn_ne (by omega) (by omega) hcap)) rfl |>.aloadN 11 d27_10 rfl rfl rfl |>.iloadN 12 d27_11 rfl rfl |>.iloadN 13 d27_12 rfl rfl
    obtain ⟨vc, h1, soc, G', Kc, Qc⟩ := G.callS 16 (hw _ (mm 174 rfl)) (hw _ (mm 175 rfl)) (hw _ (mm 172 rfl)) (hw _ (mm 176 rfl)) (by decide) [(.ref b), (.int (0 : Int32)), (.int (Int32.ofNat bs.length))] [] rfl (c_corb l Z a0 hw hEW n0 c1 hc1 S1 v2 hv2 S2 b kb cap bs G.old hq hcap hmax Ab) (lenOf pd___BII__B rfl) d27_13 rfl (nle rfl) (nle rfl) (nle rfl) (nle rfl) all0 all0 all0 rfl
    replace G := G'; clear G'
    obtain ⟨wc, qc, n, rfl, hA, sn, rfl⟩ := Qc
    replace G := G.val qc
    exact G.retA hret rfl rfl hlk d27_16 [n] (allS (mm 0 rfl) all0) ⟨_, rfl, n, rfl, hA, sn, rfl⟩ (nle rfl) (nle rfl)
  · skip
    subst hq
    replace G := G.icmpT 17 d27_7 (XT.ii_eq_t rfl) (by decide) (by decide) |>.aloadN 18 d27_17 rfl rfl rfl
    obtain ⟨n, h1, G', gn, sn, En, An, Yn⟩ := G.cloneV 21 (hw _ (mm 315 rfl)) (hw _ (mm 316 rfl)) (hw _ (mm 320 rfl)) (hw _ (mm 318 rfl)) (hw _ (mm 319 rfl)) (hw _ (mm 321 rfl)) Ab Yb d27_18 rfl (nle rfl) (nle rfl) 32 (by rw [ofn_nat hcap]; exact hmax) (nle rfl) (nle rfl) rfl
    replace G := G'; clear G'
    replace G := G.ccast 24 (hw _ (mm 322 rfl)) (Ins.self Yn) d27_21 rfl
    exact G.retA hret rfl rfl hlk d27_24 [n] (allS (mm 0 rfl) all0) ⟨_, rfl, n, rfl, ⟨kb, An⟩, sn, rfl⟩ (nle rfl) (nle rfl)
theorem d23_0 : decode jdk_42_method_150_code 0 = .ok (.aload_n 0, 1) := by decide +kernel
theorem d23_1 : decode jdk_42_method_150_code 1 = .ok (.invokespecial 1, 3) := by decide +kernel
theorem d23_4 : decode jdk_42_method_150_code 4 = .ok (.aload_n 1, 1) := by decide +kernel
theorem d23_5 : decode jdk_42_method_150_code 5 = .ok (.invokevirtual 552, 3) := by decide +kernel
theorem d23_8 : decode jdk_42_method_150_code 8 = .ok (.astore_n 3, 1) := by decide +kernel
theorem d23_9 : decode jdk_42_method_150_code 9 = .ok (.aload_n 1, 1) := by decide +kernel
theorem d23_10 : decode jdk_42_method_150_code 10 = .ok (.invokevirtual 549, 3) := by decide +kernel
theorem d23_13 : decode jdk_42_method_150_code 13 = .ok (.istore 4, 2) := by decide +kernel
theorem d23_15 : decode jdk_42_method_150_code 15 = .ok (.aload_n 1, 1) := by decide +kernel
theorem d23_16 : decode jdk_42_method_150_code 16 = .ok (.invokevirtual 1047, 3) := by decide +kernel
theorem d23_19 : decode jdk_42_method_150_code 19 = .ok (.ifCond .eq 22, 3) := by decide +kernel
theorem d23_22 : decode jdk_42_method_150_code 22 = .ok (.aload_n 0, 1) := by decide +kernel
theorem d23_23 : decode jdk_42_method_150_code 23 = .ok (.iconst 0, 1) := by decide +kernel
theorem d23_24 : decode jdk_42_method_150_code 24 = .ok (.putfield 15, 3) := by decide +kernel
theorem d23_27 : decode jdk_42_method_150_code 27 = .ok (.aload_n 0, 1) := by decide +kernel
theorem d23_28 : decode jdk_42_method_150_code 28 = .ok (.aload_n 3, 1) := by decide +kernel
theorem d23_29 : decode jdk_42_method_150_code 29 = .ok (.iconst 0, 1) := by decide +kernel
theorem d23_30 : decode jdk_42_method_150_code 30 = .ok (.iload 4, 2) := by decide +kernel
theorem d23_32 : decode jdk_42_method_150_code 32 = .ok (.invokestatic 54, 3) := by decide +kernel
theorem d23_35 : decode jdk_42_method_150_code 35 = .ok (.putfield 9, 3) := by decide +kernel
theorem d23_38 : decode jdk_42_method_150_code 38 = .ok (.goto 59, 3) := by decide +kernel
theorem d23_41 : decode jdk_42_method_150_code 41 = .ok (.getstatic 38, 3) := by decide +kernel
theorem d23_44 : decode jdk_42_method_150_code 44 = .ok (.ifCond .eq 35, 3) := by decide +kernel
theorem d23_47 : decode jdk_42_method_150_code 47 = .ok (.aload_n 1, 1) := by decide +kernel
theorem d23_48 : decode jdk_42_method_150_code 48 = .ok (.getfield 1048, 3) := by decide +kernel
theorem d23_51 : decode jdk_42_method_150_code 51 = .ok (.ifCond .eq 28, 3) := by decide +kernel
theorem d23_54 : decode jdk_42_method_150_code 54 = .ok (.aload_n 0, 1) := by decide +kernel
theorem d23_55 : decode jdk_42_method_150_code 55 = .ok (.aload_n 3, 1) := by decide +kernel
theorem d23_56 : decode jdk_42_method_150_code 56 = .ok (.iconst 0, 1) := by decide +kernel
theorem d23_57 : decode jdk_42_method_150_code 57 = .ok (.iload 4, 2) := by decide +kernel
theorem d23_59 : decode jdk_42_method_150_code 59 = .ok (.invokestatic 1051, 3) := by decide +kernel
theorem d23_62 : decode jdk_42_method_150_code 62 = .ok (.putfield 9, 3) := by decide +kernel
theorem d23_65 : decode jdk_42_method_150_code 65 = .ok (.aload_n 0, 1) := by decide +kernel
theorem d23_66 : decode jdk_42_method_150_code 66 = .ok (.aload_n 0, 1) := by decide +kernel
theorem d23_67 : decode jdk_42_method_150_code 67 = .ok (.getfield 9, 3) := by decide +kernel
theorem d23_70 : decode jdk_42_method_150_code 70 = .ok (.iload 4, 2) := by decide +kernel
theorem d23_72 : decode jdk_42_method_150_code 72 = .ok (.invokestatic 47, 3) := by decide +kernel
theorem d23_75 : decode jdk_42_method_150_code 75 = .ok (.putfield 15, 3) := by decide +kernel
theorem d23_78 : decode jdk_42_method_150_code 78 = .ok (.return_, 1) := by decide +kernel
theorem d23_79 : decode jdk_42_method_150_code 79 = .ok (.aload_n 0, 1) := by decide +kernel
theorem d23_80 : decode jdk_42_method_150_code 80 = .ok (.iconst 1, 1) := by decide +kernel
theorem d23_81 : decode jdk_42_method_150_code 81 = .ok (.putfield 15, 3) := by decide +kernel
theorem d23_84 : decode jdk_42_method_150_code 84 = .ok (.aload_n 0, 1) := by decide +kernel
theorem d23_85 : decode jdk_42_method_150_code 85 = .ok (.aload_n 3, 1) := by decide +kernel
theorem d23_86 : decode jdk_42_method_150_code 86 = .ok (.iconst 0, 1) := by decide +kernel
theorem d23_87 : decode jdk_42_method_150_code 87 = .ok (.iload 4, 2) := by decide +kernel
theorem d23_89 : decode jdk_42_method_150_code 89 = .ok (.iconst 1, 1) := by decide +kernel
theorem d23_90 : decode jdk_42_method_150_code 90 = .ok (.ishl, 1) := by decide +kernel
theorem d23_91 : decode jdk_42_method_150_code 91 = .ok (.invokestatic 54, 3) := by decide +kernel
theorem d23_94 : decode jdk_42_method_150_code 94 = .ok (.putfield 9, 3) := by decide +kernel
theorem d23_97 : decode jdk_42_method_150_code 97 = .ok (.return_, 1) := by decide +kernel
theorem c_sASBY (l : Launch) (Z : State) (a0 : Array Value) (hw : ∀ d ∈ tables_1, d.before a0 Z = true) (hEW : EW Z a0 consts_1) (n0 : Nat) (c1 : Int32) (hc1 : ¬ c1 = 0) (S1 : Sta Z Z.heap "java/lang/String" "COMPACT_STRINGS" "Z" (.int c1)) (v2 : Value) (hv2 : v2.isRef = true) (S2 : Sta Z Z.heap "jdk/internal/util/Preconditions" "SIOOBE_FORMATTER" "Ljava/util/function/BiFunction;" v2) (s2 a b : Addr) (cap : Nat) (bs : List Value) {h0 : Heap} (o1 : Old Z n0 h0) (ge_s2 : n0 ≤ s2) (hle : bs.length ≤ cap) (hcap : cap ≤ 126) (hmax : bs.length ≤ 32) (Xs : Exa Z h0 s2 "java/lang/String") (Fv : Fld Z h0 s2 "java/lang/String" "value" "[B" .null) (Fc : Fld Z h0 s2 "java/lang/String" "coder" "B" (.int 0)) (hS : SbdY Z h0 a b cap bs) :
    Con Z a0 l (⟨"java/lang/String", "<init>", "(Ljava/lang/AbstractStringBuilder;Ljava/lang/Void;)V"⟩ : MethodName) jdk_42_method_150_code 5 (none) ({ frames := 3, cells := 1, slots := 32, locals := 72 } : Room) [] #[(.ref s2), (.ref a), .null] consts_1 h0 n0 [s2] [s2] (V0 fun h so => ∃ n, Str Z h s2 n bs ∧ h0.size ≤ n ∧ so = [n]) := by
  refine Con.body (plainFor_of_name pn_java_lang_String) hEW o1 (allS ge_s2 all0) #[.val (.ref s2), .val (.ref a), .val .null, .unset, .unset] (fun m => by first | (simp [entryFrame, mkF, argsToLocals, Value.category]; done) | rfl) ?_
  intro p e s m below meth c B hnm hret hlk G
  replace G := G.aloadN 1 d23_0 rfl rfl rfl |>.initO 4 (hw _ (mm 15 rfl)) (hw _ (mm 16 rfl)) (hw _ (mm 17 rfl)) d23_1 rfl (nle rfl) (nle rfl) rfl |>.aloadN 5 d23_4 rfl rfl rfl
  obtain ⟨vy1, h_1, soy1, G', Ky1, Qy1⟩ := G.callV 8 (hw _ (mm 156 rfl)) (hw _ (mm 157 rfl)) (nfSel (hw _ (mm 159 rfl))) (hw _ (mm 159 rfl)) (hw _ (mm 158 rfl)) (hw _ (mm 61 rfl)) (hw _ (mm 160 rfl)) hS.1.1 (by decide) [] [] rfl (c_getVal l Z a0 hw hEW n0 c1 hc1 S1 v2 hv2 S2 a b cap bs G.old hS.1) (lenOf pd____B rfl) d23_5 rfl (nle rfl) (nle rfl) (nle rfl) (nle rfl) all0 all0 all0 rfl
  replace G := G'; clear G'
  obtain ⟨wy1, qy1, rfl, ey1, rfl⟩ := Qy1
  replace G := G.val qy1
  subst ey1
  replace G := G.astoreN 9 #[.val (.ref s2), .val (.ref a), .val .null, .val (.ref b), .unset] d23_8 rfl rfl rfl |>.aloadN 10 d23_9 rfl rfl rfl
  obtain ⟨vy2, h_2, soy2, G', Ky2, Qy2⟩ := G.callV 13 (hw _ (mm 161 rfl)) (hw _ (mm 162 rfl)) (nfVia (y := (⟨"java/lang/AbstractStringBuilder", "ensureCapacityInternal", "(I)V"⟩ : MethodName)) rfl (hw _ (mm 95 rfl)) (hw _ (mm 93 rfl))) (hw _ (mm 164 rfl)) (hw _ (mm 165 rfl)) (hw _ (mm 53 rfl)) (hw _ (mm 166 rfl)) hS.1.1 (by decide) [] [] rfl (c_sbLen l Z a0 hw hEW n0 c1 hc1 S1 v2 hv2 S2 a b cap bs G.old hS.1) (lenOf pd___I rfl) d23_10 rfl (nle rfl) (nle rfl) (nle rfl) (nle rfl) all0 all0 all0 rfl
  replace G := G'; clear G'
  obtain ⟨wy2, qy2, rfl, ey2, rfl⟩ := Qy2
  replace G := G.val qy2
  subst ey2
  replace G := G.istore 15 #[.val (.ref s2), .val (.ref a), .val .null, .val (.ref b), .val (.int (Int32.ofNat bs.length))] d23_13 rfl rfl |>.aloadN 16 d23_15 rfl rfl rfl
  obtain ⟨vy3, h_3, soy3, G', Ky3, Qy3⟩ := G.callV 19 (hw _ (mm 169 rfl)) (hw _ (mm 133 rfl)) (nfSel (hw _ (mm 135 rfl))) (hw _ (mm 135 rfl)) (hw _ (mm 134 rfl)) (hw _ (mm 61 rfl)) (hw _ (mm 136 rfl)) hS.1.1 (by decide) [] [] rfl (c_isL1 l Z a0 hw hEW n0 c1 hc1 S1 v2 hv2 S2 a b cap bs G.old hS.1) (lenOf pd___Z rfl) d23_16 rfl (nle rfl) (nle rfl) (nle rfl) (nle rfl) all0 all0 all0 rfl
  replace G := G'; clear G'
  obtain ⟨wy3, qy3, rfl, ey3, rfl⟩ := Qy3
  replace G := G.val qy3
  subst ey3
  replace G := G.ifF 22 d23_19 (XT.i0_eq_f (by decide)) rfl |>.aloadN 23 d23_22 rfl rfl rfl |>.iconst 24 (0 : Int32) d23_23 rfl rfl
  have nas : s2 ≠ a := fun q => by subst q; exact absurd rfl (ne_exa Xs hS.1.1 (by decide))
  have nbs : s2 ≠ b := by obtain ⟨⟨-, -, -, -, kb, Ab⟩, -⟩ := hS; exact ne_arr Xs (hw _ (mm 5 rfl)) Ab.choose_spec.1
  obtain ⟨h1, G', Wc', Fc', Kc'⟩ := G.putf 27 (host := "") (Or.inl (hw _ (mm 25 rfl))) Via.refl Fc Xs (Or.inr ⟨(hw _ (mm 21 rfl)), rfl, hnm⟩) (hw _ (mm 5 rfl)) (ty := .byte) (by decide) rfl rfl (Or.inl (mm 0 rfl)) (mm 0 rfl) d23_24 rfl
  replace G := G'; clear G'
  replace Fv := Fv.other Wc' (Or.inr (slot_ne (Or.inr (hw _ (mm 20 rfl))) (Or.inr (hw _ (mm 21 rfl))) (by decide) (t := (.array .byte)) (t' := .byte) (by decide) (by decide))); replace Xs := Xs.wr Wc'; replace hS := hS.keep Kc' (ninS nas.symm nin0) (ninS nbs.symm nin0)
  obtain ⟨kb, Ab⟩ := hS.1.2.2.2.2
  replace G := G.aloadN 28 d23_27 rfl rfl rfl |>.aloadN 29 d23_28 rfl rfl rfl |>.iconst 30 (0 : Int32) d23_29 rfl rfl |>.iload 32 d23_30 rfl rfl
  obtain ⟨vr, h2, sor, G', Kr, Qr⟩ := G.callS 35 (hw _ (mm 170 rfl)) (hw _ (mm 171 rfl)) (hw _ (mm 172 rfl)) (hw _ (mm 173 rfl)) (by decide) [(.ref b), (.int (0 : Int32)), (.int (Int32.ofNat bs.length))] [(.ref s2)] rfl (c_corX l Z a0 hw hEW n0 c1 hc1 S1 v2 hv2 S2 b kb cap bs G.old hle (by omega) hmax hS.2 Ab) (lenOf pd___BII__B rfl) d23_32 rfl (nle rfl) (nle rfl) (nle rfl) (nle rfl) all0 all0 all0 rfl
  replace G := G'; clear G'
  obtain ⟨wr, qr, n, rfl, ⟨kn, An⟩, sn, rfl⟩ := Qr
  replace G := G.val qr
  have nsn : s2 ≠ n := (ne_ge Xs.lt sn).symm
  replace Xs := Xs.keep Kr; replace Fv := Fv.keep Kr nin0; replace Fc' := Fc'.keep Kr nin0
  obtain ⟨h3, G', Wv', Fv', Kv'⟩ := G.putf 38 (host := "") (Or.inl (hw _ (mm 24 rfl))) Via.refl Fv Xs (Or.inr ⟨(hw _ (mm 20 rfl)), rfl, hnm⟩) (hw _ (mm 5 rfl)) (ty := (.array .byte)) (by decide) rfl rfl (Or.inl (mm 0 rfl)) (mm 1 rfl) d23_35 rfl
  replace G := G'; clear G'
  replace Fc' := Fc'.other Wv' (Or.inr (slot_ne (Or.inr (hw _ (mm 21 rfl))) (Or.inr (hw _ (mm 20 rfl))) (by decide) (t := .byte) (t' := (.array .byte)) (by decide) (by decide))); replace Xs := Xs.wr Wv'; replace An := An.keep Kv' (ninS nsn.symm nin0)
  replace G := G.goto 97 d23_38 (by decide) (by decide)
  exact G.retV hret hlk d23_97 [n] (allS (mm 0 rfl) all0) ⟨rfl, n, ⟨Xs, Fc', Fv', kn, An⟩, Nat.le_trans Kc'.1 sn, rfl⟩ (nle rfl) (nle rfl)
theorem d22_0 : decode jdk_42_method_53_code 0 = .ok (.aload_n 0, 1) := by decide +kernel
theorem d22_1 : decode jdk_42_method_53_code 1 = .ok (.aload_n 1, 1) := by decide +kernel
theorem d22_2 : decode jdk_42_method_53_code 2 = .ok (.aconst_null, 1) := by decide +kernel
theorem d22_3 : decode jdk_42_method_53_code 3 = .ok (.invokespecial 489, 3) := by decide +kernel
theorem d22_6 : decode jdk_42_method_53_code 6 = .ok (.return_, 1) := by decide +kernel
theorem c_sSBY (l : Launch) (Z : State) (a0 : Array Value) (hw : ∀ d ∈ tables_1, d.before a0 Z = true) (hEW : EW Z a0 consts_1) (n0 : Nat) (c1 : Int32) (hc1 : ¬ c1 = 0) (S1 : Sta Z Z.heap "java/lang/String" "COMPACT_STRINGS" "Z" (.int c1)) (v2 : Value) (hv2 : v2.isRef = true) (S2 : Sta Z Z.heap "jdk/internal/util/Preconditions" "SIOOBE_FORMATTER" "Ljava/util/function/BiFunction;" v2) (s2 a b : Addr) (cap : Nat) (bs : List Value) {h0 : Heap} (o1 : Old Z n0 h0) (ge_s2 : n0 ≤ s2) (hle : bs.length ≤ cap) (hcap : cap ≤ 126) (hmax : bs.length ≤ 32) (Xs : Exa Z h0 s2 "java/lang/String") (Fv : Fld Z h0 s2 "java/lang/String" "value" "[B" .null) (Fc : Fld Z h0 s2 "java/lang/String" "coder" "B" (.int 0)) (hS : SbdY Z h0 a b cap bs) :
    Con Z a0 l (⟨"java/lang/String", "<init>", "(Ljava/lang/StringBuilder;)V"⟩ : MethodName) jdk_42_method_53_code 2 (none) ({ frames := 4, cells := 1, slots := 32, locals := 88 } : Room) [] #[(.ref s2), (.ref a)] consts_1 h0 n0 [s2] [s2] (V0 fun h so => ∃ n, Str Z h s2 n bs ∧ h0.size ≤ n ∧ so = [n]) := by
  refine Con.body (plainFor_of_name pn_java_lang_String) hEW o1 (allS ge_s2 all0) #[.val (.ref s2), .val (.ref a)] (fun m => by first | (simp [entryFrame, mkF, argsToLocals, Value.category]; done) | rfl) ?_
  intro p e s m below meth c B hnm hret hlk G
  replace G := G.aloadN 1 d22_0 rfl rfl rfl |>.aloadN 2 d22_1 rfl rfl rfl |>.aconstNull 3 d22_2 rfl
  obtain ⟨vi, h1, soi, G', Ki, Qi⟩ := G.callI 6 rfl rfl (hw _ (mm 153 rfl)) (hw _ (mm 154 rfl)) (hw _ (mm 6 rfl)) (hw _ (mm 155 rfl)) (by decide) [(.ref a), .null] [] rfl (c_sASBY l Z a0 hw hEW n0 c1 hc1 S1 v2 hv2 S2 s2 a b cap bs G.old ge_s2 hle hcap hmax Xs Fv Fc hS) (lenOf pd__Ljava_lang_AbstractStringBuilder_Ljava_lang_Void__V rfl) d22_3 rfl (nle rfl) (nle rfl) (nle rfl) (nle rfl) (allS (Or.inl (mm 0 rfl)) all0) (allS (mm 0 rfl) all0) (allS (mm 0 rfl) all0) rfl
  replace G := G'; clear G'
  obtain ⟨qi, n, hT, sn, rfl⟩ := Qi
  replace G := G.nov qi
  exact G.retV hret hlk d22_6 [n] (allS (mm 0 rfl) all0) ⟨rfl, n, hT, sn, rfl⟩ (nle rfl) (nle rfl)
theorem d21_0 : decode jdk_67_method_42_code 0 = .ok (.new 18, 3) := by decide +kernel
theorem d21_3 : decode jdk_67_method_42_code 3 = .ok (.dup, 1) := by decide +kernel
theorem d21_4 : decode jdk_67_method_42_code 4 = .ok (.aload_n 0, 1) := by decide +kernel
theorem d21_5 : decode jdk_67_method_42_code 5 = .ok (.invokespecial 137, 3) := by decide +kernel
theorem d21_8 : decode jdk_67_method_42_code 8 = .ok (.areturn, 1) := by decide +kernel
theorem c_toStrY (l : Launch) (Z : State) (a0 : Array Value) (hw : ∀ d ∈ tables_1, d.before a0 Z = true) (hEW : EW Z a0 consts_1) (n0 : Nat) (c1 : Int32) (hc1 : ¬ c1 = 0) (S1 : Sta Z Z.heap "java/lang/String" "COMPACT_STRINGS" "Z" (.int c1)) (v2 : Value) (hv2 : v2.isRef = true) (S2 : Sta Z Z.heap "jdk/internal/util/Preconditions" "SIOOBE_FORMATTER" "Ljava/util/function/BiFunction;" v2) (a b : Addr) (cap : Nat) (bs : List Value) {h0 : Heap} (o1 : Old Z n0 h0) (hle : bs.length ≤ cap) (hcap : cap ≤ 126) (hmax : bs.length ≤ 32) (hS : SbdY Z h0 a b cap bs) :
    Con Z a0 l (⟨"java/lang/StringBuilder", "toString", "()Ljava/lang/String;"⟩ : MethodName) jdk_67_method_42_code 1 (some (.object "java/lang/String")) ({ frames := 5, cells := 2, slots := 36, locals := 102 } : Room) [] #[(.ref a)] consts_1 h0 n0 [] [] (VV fun w h so => ∃ s2 n, w = .ref s2 ∧ Str Z h s2 n bs ∧ h0.size ≤ s2 ∧ h0.size ≤ n ∧ so = [n, s2]) := by
  refine Con.body (plainFor_of_name pn_java_lang_StringBuilder) hEW o1 all0 #[.val (.ref a)] (fun m => by first | (simp [entryFrame, mkF, argsToLocals, Value.category]; done) | rfl) ?_
  intro p e s m below meth c B hnm hret hlk G
  obtain ⟨s2, h1, G', gs2, ss2, Es2, Xs2, Ds2, Us2⟩ := G.new 3 (hw _ (mm 149 rfl)) (hw _ (mm 5 rfl)) (hw _ (mm 6 rfl)) d21_0 rfl (nle rfl) (nle rfl)
  replace G := G'; clear G'
  have Fv := Ds2 (Or.inr (hw _ (mm 20 rfl))) (ty := .array .byte) (by decide); have Fc := Ds2 (Or.inr (hw _ (mm 21 rfl))) (ty := .byte) (by decide); replace hS := hS.ext Es2
  replace G := G.dup 4 d21_3 rfl rfl |>.aloadN 5 d21_4 rfl rfl rfl
  obtain ⟨vi, h2, soi, G', Ki, Qi⟩ := G.callI 8 rfl rfl (hw _ (mm 150 rfl)) (hw _ (mm 151 rfl)) (hw _ (mm 6 rfl)) (hw _ (mm 152 rfl)) (by decide) [(.ref a)] [(.ref s2)] rfl (c_sSBY l Z a0 hw hEW n0 c1 hc1 S1 v2 hv2 S2 s2 a b cap bs G.old (G.nw (Or.inr ss2)) hle hcap hmax Xs2 Fv Fc hS) (lenOf pd__Ljava_lang_StringBuilder__V rfl) d21_5 rfl (nle rfl) (nle rfl) (nle rfl) (nle rfl) (allS (Or.inr ss2) all0) (allS (mm 0 rfl) all0) (allS (mm 0 rfl) all0) rfl
  replace G := G'; clear G'
  obtain ⟨qi, n, hT, sn, rfl⟩ := Qi
  replace G := G.nov qi
  exact G.retA hret rfl rfl hlk d21_8 [n, s2] (allS (mm 0 rfl) (allS (mm 1 rfl) all0)) ⟨_, rfl, s2, n, rfl, hT, ss2, Nat.le_trans Es2.1 sn, rfl⟩ (nle rfl) (nle rfl)
theorem d42_0 : decode jdk_41_method_11_code 0 = .ok (.iload_n 0, 1) := by decide +kernel
theorem d42_1 : decode jdk_41_method_11_code 1 = .ok (.ifCond .lt 8, 3) := by decide +kernel
theorem d42_4 : decode jdk_41_method_11_code 4 = .ok (.iload_n 0, 1) := by decide +kernel
theorem d42_5 : decode jdk_41_method_11_code 5 = .ok (.iload_n 1, 1) := by decide +kernel
theorem d42_6 : decode jdk_41_method_11_code 6 = .ok (.if_icmp .lt 10, 3) := by decide +kernel
theorem d42_9 : decode jdk_41_method_11_code 9 = .ok (.aload_n 2, 1) := by decide +kernel
theorem d42_10 : decode jdk_41_method_11_code 10 = .ok (.iload_n 0, 1) := by decide +kernel
theorem d42_11 : decode jdk_41_method_11_code 11 = .ok (.iload_n 1, 1) := by decide +kernel
theorem d42_12 : decode jdk_41_method_11_code 12 = .ok (.invokestatic 95, 3) := by decide +kernel
theorem d42_15 : decode jdk_41_method_11_code 15 = .ok (.athrow, 1) := by decide +kernel
theorem d42_16 : decode jdk_41_method_11_code 16 = .ok (.iload_n 0, 1) := by decide +kernel
theorem d42_17 : decode jdk_41_method_11_code 17 = .ok (.ireturn, 1) := by decide +kernel
theorem c_pci (l : Launch) (Z : State) (a0 : Array Value) (hw : ∀ d ∈ tables_1, d.before a0 Z = true) (hEW : EW Z a0 consts_1) (n0 : Nat) (c1 : Int32) (hc1 : ¬ c1 = 0) (S1 : Sta Z Z.heap "java/lang/String" "COMPACT_STRINGS" "Z" (.int c1)) (v2 : Value) (hv2 : v2.isRef = true) (S2 : Sta Z Z.heap "jdk/internal/util/Preconditions" "SIOOBE_FORMATTER" "Ljava/util/function/BiFunction;" v2) (i n : Int32) {h0 : Heap} (o1 : Old Z n0 h0) (h1 : ¬ i < 0) (h2 : i < n) :
    Con Z a0 l (⟨"jdk/internal/util/Preconditions", "checkIndex", "(IILjava/util/function/BiFunction;)I"⟩ : MethodName) jdk_41_method_11_code 3 (some .int) ({ frames := 0, cells := 0, slots := 0, locals := 0 } : Room) [] #[(.int i), (.int n), v2] consts_1 h0 n0 [] [] (VV fun w h so => w = .int i ∧ h = h0 ∧ so = []) := by
  refine Con.body (plainFor_of_name pn_jdk_internal_util_Preconditions) hEW o1 all0 #[.val (.int i), .val (.int n), .val v2] (fun m => by rcases XT.refc hv2 with rfl | ⟨r, rfl⟩ <;> rfl) ?_
  intro p e s m below meth c B hnm hret hlk G
  replace G := G.iloadN 1 d42_0 rfl rfl |>.ifF 4 d42_1 (XT.i0_lt_f h1) rfl |>.iloadN 5 d42_4 rfl rfl |>.iloadN 6 d42_5 rfl rfl |>.icmpT 16 d42_6 (XT.ii_lt_t h2) (by decide) (by decide) |>.iloadN 17 d42_16 rfl rfl
  exact G.retI hret hlk d42_17 [] all0 ⟨_, rfl, rfl, rfl, rfl⟩ (nle rfl) (nle rfl)
theorem d41_0 : decode jdk_42_method_155_code 0 = .ok (.iload_n 0, 1) := by decide +kernel
theorem d41_1 : decode jdk_42_method_155_code 1 = .ok (.iload_n 1, 1) := by decide +kernel
theorem d41_2 : decode jdk_42_method_155_code 2 = .ok (.getstatic 1053, 3) := by decide +kernel
theorem d41_5 : decode jdk_42_method_155_code 5 = .ok (.invokestatic 1059, 3) := by decide +kernel
theorem d41_8 : decode jdk_42_method_155_code 8 = .ok (.pop, 1) := by decide +kernel
theorem d41_9 : decode jdk_42_method_155_code 9 = .ok (.return_, 1) := by decide +kernel
theorem c_chkIdx (l : Launch) (Z : State) (a0 : Array Value) (hw : ∀ d ∈ tables_1, d.before a0 Z = true) (hEW : EW Z a0 consts_1) (n0 : Nat) (c1 : Int32) (hc1 : ¬ c1 = 0) (S1 : Sta Z Z.heap "java/lang/String" "COMPACT_STRINGS" "Z" (.int c1)) (v2 : Value) (hv2 : v2.isRef = true) (S2 : Sta Z Z.heap "jdk/internal/util/Preconditions" "SIOOBE_FORMATTER" "Ljava/util/function/BiFunction;" v2) (i n : Int32) {h0 : Heap} (o1 : Old Z n0 h0) (h1 : ¬ i < 0) (h2 : i < n) :
    Con Z a0 l (⟨"java/lang/String", "checkIndex", "(II)V"⟩ : MethodName) jdk_42_method_155_code 2 (none) ({ frames := 1, cells := 0, slots := 0, locals := 14 } : Room) [] #[(.int i), (.int n)] consts_1 h0 n0 [] [] (V0 fun h so => h = h0 ∧ so = []) := by
  refine Con.body (plainFor_of_name pn_java_lang_String) hEW o1 all0 #[.val (.int i), .val (.int n)] (fun m => by first | (simp [entryFrame, mkF, argsToLocals, Value.category]; done) | rfl) ?_
  intro p e s m below meth c B hnm hret hlk G
  replace G := G.iloadN 1 d41_0 rfl rfl |>.iloadN 2 d41_1 rfl rfl |>.gets 5 (host := "") (Or.inl (hw _ (mm 266 rfl))) Via.refl (G.sta S2) d41_2 rfl
  obtain ⟨vp, h_p, sop, G', Kp, Qp⟩ := G.callS 8 (hw _ (mm 268 rfl)) (hw _ (mm 269 rfl)) (hw _ (mm 267 rfl)) (hw _ (mm 270 rfl)) (by decide) [(.int i), (.int n), v2] [] rfl (c_pci l Z a0 hw hEW n0 c1 hc1 S1 v2 hv2 S2 i n G.old h1 h2) (lenOf pd__IILjava_util_function_BiFunction__I rfl) d41_5 rfl (nle rfl) (nle rfl) (nle rfl) (nle rfl) all0 all0 all0 rfl
  replace G := G'; clear G'
  obtain ⟨wp, qp, rfl, ep, rfl⟩ := Qp
  replace G := G.val qp
  subst ep
  replace G := G.pop 9 d41_8 rfl rfl
  exact G.retV hret hlk d41_9 [] all0 ⟨rfl, rfl, rfl⟩ (nle rfl) (nle rfl)
theorem d40_0 : decode jdk_43_method_2_code 0 = .ok (.iload_n 1, 1) := by decide +kernel
theorem d40_1 : decode jdk_43_method_2_code 1 = .ok (.aload_n 0, 1) := by decide +kernel
theorem d40_2 : decode jdk_43_method_2_code 2 = .ok (.arraylength, 1) := by decide +kernel
theorem d40_3 : decode jdk_43_method_2_code 3 = .ok (.invokestatic 9, 3) := by decide +kernel
theorem d40_6 : decode jdk_43_method_2_code 6 = .ok (.aload_n 0, 1) := by decide +kernel
theorem d40_7 : decode jdk_43_method_2_code 7 = .ok (.iload_n 1, 1) := by decide +kernel
theorem d40_8 : decode jdk_43_method_2_code 8 = .ok (.baload, 1) := by decide +kernel
theorem d40_9 : decode jdk_43_method_2_code 9 = .ok (.sipush 255, 3) := by decide +kernel
theorem d40_12 : decode jdk_43_method_2_code 12 = .ok (.iand, 1) := by decide +kernel
theorem d40_13 : decode jdk_43_method_2_code 13 = .ok (.i2c, 1) := by decide +kernel
theorem d40_14 : decode jdk_43_method_2_code 14 = .ok (.ireturn, 1) := by decide +kernel
theorem c_l1char (l : Launch) (Z : State) (a0 : Array Value) (hw : ∀ d ∈ tables_1, d.before a0 Z = true) (hEW : EW Z a0 consts_1) (n0 : Nat) (c1 : Int32) (hc1 : ¬ c1 = 0) (S1 : Sta Z Z.heap "java/lang/String" "COMPACT_STRINGS" "Z" (.int c1)) (v2 : Value) (hv2 : v2.isRef = true) (S2 : Sta Z Z.heap "jdk/internal/util/Preconditions" "SIOOBE_FORMATTER" "Ljava/util/function/BiFunction;" v2) (b : Addr) (kb : ClassId) (bs : List Value) (i : Nat) (x : Int32) {h0 : Heap} (o1 : Old Z n0 h0) (hi : i < bs.length) (hn : bs.length < 2147483648) (hv : bs.getD i (.int 0) = .int x) (Ab : Arv Z h0 b kb .byte (Int32.ofNat bs.length) bs (.int 0)) :
    Con Z a0 l (⟨"java/lang/StringLatin1", "charAt", "([BI)C"⟩ : MethodName) jdk_43_method_2_code 2 (some .char) ({ frames := 2, cells := 0, slots := 0, locals := 27 } : Room) [] #[(.ref b), (.int (Int32.ofNat i))] consts_1 h0 n0 [] [] (VV fun w h so => w = .int (x &&& 255) ∧ h = h0 ∧ so = []) := by
  refine Con.body (plainFor_of_name pn_java_lang_StringLatin1) hEW o1 all0 #[.val (.ref b), .val (.int (Int32.ofNat i))] (fun m => by first | (simp [entryFrame, mkF, argsToLocals, Value.category]; done) | rfl) ?_
  intro p e s m below meth c B hnm hret hlk G
  replace G := G.iloadN 1 d40_0 rfl rfl |>.aloadN 2 d40_1 rfl rfl rfl |>.alen 3 Ab d40_2 rfl
  obtain ⟨vc, h_c, soc, G', Kc, Qc⟩ := G.callS 6 (hw _ (mm 263 rfl)) (hw _ (mm 264 rfl)) (hw _ (mm 6 rfl)) (hw _ (mm 265 rfl)) (by decide) [(.int (Int32.ofNat i)), (.int (Int32.ofNat bs.length))] [] rfl (c_chkIdx l Z a0 hw hEW n0 c1 hc1 S1 v2 hv2 S2 (Int32.ofNat i) (Int32.ofNat bs.length) G.old (ofn_nn (by omega)) (ofn_lt hi hn)) (lenOf pd__II_V rfl) d40_3 rfl (nle rfl) (nle rfl) (nle rfl) (nle rfl) all0 all0 all0 rfl
  replace G := G'; clear G'
  obtain ⟨qc, ec, rfl⟩ := Qc
  replace G := G.nov qc
  subst ec
  replace G := G.aloadN 7 d40_6 rfl rfl rfl |>.iloadN 8 d40_7 rfl rfl |>.baload 9 (v := (.int x)) Ab ⟨ofn_nn (by omega), ofn_lt hi hn⟩ (by rw [ofn_nat (by omega)]; exact hv) d40_8 rfl |>.sipush 12 (255 : Int32) d40_9 (by decide) rfl |>.iand 13 d40_12 rfl |>.i2c 14 d40_13 rfl |>.top (y := (.int (x &&& 255))) (congrArg Value.int (i2c_mask x))
  exact G.retN hret (Or.inr (Or.inr (Or.inl rfl))) hlk d40_14 [] all0 ⟨_, rfl, congrArg Value.int (i2c_mask x), rfl, rfl⟩ (nle rfl) (nle rfl)
theorem d39_0 : decode jdk_42_method_154_code 0 = .ok (.getstatic 38, 3) := by decide +kernel
theorem d39_3 : decode jdk_42_method_154_code 3 = .ok (.ifCond .eq 14, 3) := by decide +kernel
theorem d39_6 : decode jdk_42_method_154_code 6 = .ok (.aload_n 0, 1) := by decide +kernel
theorem d39_7 : decode jdk_42_method_154_code 7 = .ok (.getfield 15, 3) := by decide +kernel
theorem d39_10 : decode jdk_42_method_154_code 10 = .ok (.ifCond .ne 7, 3) := by decide +kernel
theorem d39_13 : decode jdk_42_method_154_code 13 = .ok (.iconst 1, 1) := by decide +kernel
theorem d39_14 : decode jdk_42_method_154_code 14 = .ok (.goto 4, 3) := by decide +kernel
theorem d39_17 : decode jdk_42_method_154_code 17 = .ok (.iconst 0, 1) := by decide +kernel
theorem d39_18 : decode jdk_42_method_154_code 18 = .ok (.ireturn, 1) := by decide +kernel
theorem c_isL1S (l : Launch) (Z : State) (a0 : Array Value) (hw : ∀ d ∈ tables_1, d.before a0 Z = true) (hEW : EW Z a0 consts_1) (n0 : Nat) (c1 : Int32) (hc1 : ¬ c1 = 0) (S1 : Sta Z Z.heap "java/lang/String" "COMPACT_STRINGS" "Z" (.int c1)) (v2 : Value) (hv2 : v2.isRef = true) (S2 : Sta Z Z.heap "jdk/internal/util/Preconditions" "SIOOBE_FORMATTER" "Ljava/util/function/BiFunction;" v2) (a : Addr) {h0 : Heap} (o1 : Old Z n0 h0) (Fc : Fld Z h0 a "java/lang/String" "coder" "B" (.int 0)) :
    Con Z a0 l (⟨"java/lang/String", "isLatin1", "()Z"⟩ : MethodName) jdk_42_method_154_code 1 (some .boolean) ({ frames := 0, cells := 0, slots := 0, locals := 0 } : Room) [] #[(.ref a)] consts_1 h0 n0 [] [] (VV fun w h so => w = .int 1 ∧ h = h0 ∧ so = []) := by
  refine Con.body (plainFor_of_name pn_java_lang_String) hEW o1 all0 #[.val (.ref a)] (fun m => by first | (simp [entryFrame, mkF, argsToLocals, Value.category]; done) | rfl) ?_
  intro p e s m below meth c B hnm hret hlk G
  replace G := G.gets 3 (host := "") (Or.inl (hw _ (mm 89 rfl))) Via.refl (G.sta S1) d39_0 rfl |>.ifF 6 d39_3 (XT.i0_eq_f hc1) rfl |>.aloadN 7 d39_6 rfl rfl rfl |>.getf 10 (host := "") (Or.inl (hw _ (mm 25 rfl))) Via.refl Fc d39_7 rfl |>.ifF 13 d39_10 (XT.i0_ne_f rfl) rfl |>.iconst 14 (1 : Int32) d39_13 rfl rfl |>.goto 18 d39_14 (by decide) (by decide)
  exact G.retN hret (Or.inl rfl) hlk d39_18 [] all0 ⟨_, rfl, rfl, rfl, rfl⟩ (nle rfl) (nle rfl)
theorem d38_0 : decode jdk_42_method_56_code 0 = .ok (.aload_n 0, 1) := by decide +kernel
theorem d38_1 : decode jdk_42_method_56_code 1 = .ok (.invokevirtual 492, 3) := by decide +kernel
theorem d38_4 : decode jdk_42_method_56_code 4 = .ok (.ifCond .eq 12, 3) := by decide +kernel
theorem d38_7 : decode jdk_42_method_56_code 7 = .ok (.aload_n 0, 1) := by decide +kernel
theorem d38_8 : decode jdk_42_method_56_code 8 = .ok (.getfield 9, 3) := by decide +kernel
theorem d38_11 : decode jdk_42_method_56_code 11 = .ok (.iload_n 1, 1) := by decide +kernel
theorem d38_12 : decode jdk_42_method_56_code 12 = .ok (.invokestatic 495, 3) := by decide +kernel
theorem d38_15 : decode jdk_42_method_56_code 15 = .ok (.ireturn, 1) := by decide +kernel
theorem d38_16 : decode jdk_42_method_56_code 16 = .ok (.aload_n 0, 1) := by decide +kernel
theorem d38_17 : decode jdk_42_method_56_code 17 = .ok (.getfield 9, 3) := by decide +kernel
theorem d38_20 : decode jdk_42_method_56_code 20 = .ok (.iload_n 1, 1) := by decide +kernel
theorem d38_21 : decode jdk_42_method_56_code 21 = .ok (.invokestatic 498, 3) := by decide +kernel
theorem d38_24 : decode jdk_42_method_56_code 24 = .ok (.ireturn, 1) := by decide +kernel
theorem c_charAt (l : Launch) (Z : State) (a0 : Array Value) (hw : ∀ d ∈ tables_1, d.before a0 Z = true) (hEW : EW Z a0 consts_1) (n0 : Nat) (c1 : Int32) (hc1 : ¬ c1 = 0) (S1 : Sta Z Z.heap "java/lang/String" "COMPACT_STRINGS" "Z" (.int c1)) (v2 : Value) (hv2 : v2.isRef = true) (S2 : Sta Z Z.heap "jdk/internal/util/Preconditions" "SIOOBE_FORMATTER" "Ljava/util/function/BiFunction;" v2) (a b : Addr) (bs : List Value) (i : Nat) (x : Int32) {h0 : Heap} (o1 : Old Z n0 h0) (hi : i < bs.length) (hn : bs.length < 2147483648) (hv : bs.getD i (.int 0) = .int x) (hS : Str Z h0 a b bs) :
    Con Z a0 l (⟨"java/lang/String", "charAt", "(I)C"⟩ : MethodName) jdk_42_method_56_code 2 (some .char) ({ frames := 3, cells := 0, slots := 0, locals := 40 } : Room) [] #[(.ref a), (.int (Int32.ofNat i))] consts_1 h0 n0 [] [] (VV fun w h so => w = .int (x &&& 255) ∧ h = h0 ∧ so = []) := by
  refine Con.body (plainFor_of_name pn_java_lang_String) hEW o1 all0 #[.val (.ref a), .val (.int (Int32.ofNat i))] (fun m => by first | (simp [entryFrame, mkF, argsToLocals, Value.category]; done) | rfl) ?_
  intro p e s m below meth c B hnm hret hlk G
  obtain ⟨Xa, Fc, Fv, kb, Ab⟩ := hS
  replace G := G.aloadN 1 d38_0 rfl rfl rfl
  obtain ⟨vl, h_l, sol, G', Kl, Ql⟩ := G.callV 4 (hw _ (mm 254 rfl)) (hw _ (mm 255 rfl)) (nfSel (hw _ (mm 257 rfl))) (hw _ (mm 257 rfl)) (hw _ (mm 256 rfl)) (hw _ (mm 6 rfl)) (hw _ (mm 258 rfl)) Xa (by decide) [] [] rfl (c_isL1S l Z a0 hw hEW n0 c1 hc1 S1 v2 hv2 S2 a G.old Fc) (lenOf pd___Z rfl) d38_1 rfl (nle rfl) (nle rfl) (nle rfl) (nle rfl) all0 all0 all0 rfl
  replace G := G'; clear G'
  obtain ⟨wl, ql, rfl, el, rfl⟩ := Ql
  replace G := G.val ql
  subst el
  replace G := G.ifF 7 d38_4 (XT.i0_eq_f (by decide)) rfl |>.aloadN 8 d38_7 rfl rfl rfl |>.getf 11 (host := "") (Or.inl (hw _ (mm 24 rfl))) Via.refl Fv d38_8 rfl |>.iloadN 12 d38_11 rfl rfl
  obtain ⟨vc, h_c, soc, G', Kc, Qc⟩ := G.callS 15 (hw _ (mm 259 rfl)) (hw _ (mm 260 rfl)) (hw _ (mm 261 rfl)) (hw _ (mm 262 rfl)) (by decide) [(.ref b), (.int (Int32.ofNat i))] [] rfl (c_l1char l Z a0 hw hEW n0 c1 hc1 S1 v2 hv2 S2 b kb bs i x G.old hi hn hv Ab) (lenOf pd___BI_C rfl) d38_12 rfl (nle rfl) (nle rfl) (nle rfl) (nle rfl) all0 all0 all0 rfl
  replace G := G'; clear G'
  obtain ⟨wc, qc, rfl, ec, rfl⟩ := Qc
  replace G := G.val qc
  subst ec
  exact G.retN hret (Or.inr (Or.inr (Or.inl rfl))) hlk d38_15 [] all0 ⟨_, rfl, congrArg Value.int (i2c_mask x), rfl, rfl⟩ (nle rfl) (nle rfl)
theorem d51_0 : decode jdk_43_method_3_code 0 = .ok (.iload_n 0, 1) := by decide +kernel
theorem d51_1 : decode jdk_43_method_3_code 1 = .ok (.sipush 255, 3) := by decide +kernel
theorem d51_4 : decode jdk_43_method_3_code 4 = .ok (.if_icmp .gt 7, 3) := by decide +kernel
theorem d51_7 : decode jdk_43_method_3_code 7 = .ok (.iconst 1, 1) := by decide +kernel
theorem d51_8 : decode jdk_43_method_3_code 8 = .ok (.goto 4, 3) := by decide +kernel
theorem d51_11 : decode jdk_43_method_3_code 11 = .ok (.iconst 0, 1) := by decide +kernel
theorem d51_12 : decode jdk_43_method_3_code 12 = .ok (.ireturn, 1) := by decide +kernel
theorem c_canEnc (l : Launch) (Z : State) (a0 : Array Value) (hw : ∀ d ∈ tables_1, d.before a0 Z = true) (hEW : EW Z a0 consts_1) (n0 : Nat) (c1 : Int32) (hc1 : ¬ c1 = 0) (S1 : Sta Z Z.heap "java/lang/String" "COMPACT_STRINGS" "Z" (.int c1)) (v2 : Value) (hv2 : v2.isRef = true) (S2 : Sta Z Z.heap "jdk/internal/util/Preconditions" "SIOOBE_FORMATTER" "Ljava/util/function/BiFunction;" v2) (x : Int32) {h0 : Heap} (o1 : Old Z n0 h0) (hx : ¬ (255 : Int32) < x) :
    Con Z a0 l (⟨"java/lang/StringLatin1", "canEncode", "(C)Z"⟩ : MethodName) jdk_43_method_3_code 1 (some .boolean) ({ frames := 0, cells := 0, slots := 0, locals := 0 } : Room) [] #[(.int x)] consts_1 h0 n0 [] [] (VV fun w h so => w = .int 1 ∧ h = h0 ∧ so = []) := by
  refine Con.body (plainFor_of_name pn_java_lang_StringLatin1) hEW o1 all0 #[.val (.int x)] (fun m => by first | (simp [entryFrame, mkF, argsToLocals, Value.category]; done) | rfl) ?_
  intro p e s m below meth c B hnm hret hlk G
  replace G := G.iloadN 1 d51_0 rfl rfl |>.sipush 4 (255 : Int32) d51_1 (by decide) rfl |>.icmpF 7 d51_4 (XT.ii_gt_f hx) rfl |>.iconst 8 (1 : Int32) d51_7 rfl rfl |>.goto 12 d51_8 (by decide) (by decide)
  exact G.retN hret (Or.inl rfl) hlk d51_12 [] all0 ⟨_, rfl, rfl, rfl, rfl⟩ (nle rfl) (nle rfl)
theorem d52_0 : decode jdk_43_method_46_code 0 = .ok (.iconst 1, 1) := by decide +kernel
theorem d52_1 : decode jdk_43_method_46_code 1 = .ok (.newarray .byte, 2) := by decide +kernel
theorem d52_3 : decode jdk_43_method_46_code 3 = .ok (.dup, 1) := by decide +kernel
theorem d52_4 : decode jdk_43_method_46_code 4 = .ok (.iconst 0, 1) := by decide +kernel
theorem d52_5 : decode jdk_43_method_46_code 5 = .ok (.iload_n 0, 1) := by decide +kernel
theorem d52_6 : decode jdk_43_method_46_code 6 = .ok (.i2b, 1) := by decide +kernel
theorem d52_7 : decode jdk_43_method_46_code 7 = .ok (.bastore, 1) := by decide +kernel
theorem d52_8 : decode jdk_43_method_46_code 8 = .ok (.areturn, 1) := by decide +kernel
theorem c_toBytesC (l : Launch) (Z : State) (a0 : Array Value) (hw : ∀ d ∈ tables_1, d.before a0 Z = true) (hEW : EW Z a0 consts_1) (n0 : Nat) (c1 : Int32) (hc1 : ¬ c1 = 0) (S1 : Sta Z Z.heap "java/lang/String" "COMPACT_STRINGS" "Z" (.int c1)) (v2 : Value) (hv2 : v2.isRef = true) (S2 : Sta Z Z.heap "jdk/internal/util/Preconditions" "SIOOBE_FORMATTER" "Ljava/util/function/BiFunction;" v2) (x : Int32) {h0 : Heap} (o1 : Old Z n0 h0)  :
    Con Z a0 l (⟨"java/lang/StringLatin1", "toBytes", "(C)[B"⟩ : MethodName) jdk_43_method_46_code 1 (some (.array .byte)) ({ frames := 0, cells := 1, slots := 1, locals := 0 } : Room) [] #[(.int x)] consts_1 h0 n0 [] [] (VV fun w h so => ∃ b, w = .ref b ∧ (∃ k, Arv Z h b k .byte 1 [.int x.toInt8.toInt32] (.int 0)) ∧ h0.size ≤ b ∧ so = [b]) := by
  refine Con.body (plainFor_of_name pn_java_lang_StringLatin1) hEW o1 all0 #[.val (.int x)] (fun m => by first | (simp [entryFrame, mkF, argsToLocals, Value.category]; done) | rfl) ?_
  intro p e s m below meth c B hnm hret hlk G
  replace G := G.iconst 1 (1 : Int32) d52_0 rfl rfl
  obtain ⟨b, h1, kb, G', gb, sb, Eb, Ab⟩ := G.newarray 3 (hw _ (mm 19 rfl)) d52_1 (by decide) 1 (nle rfl) (by decide) rfl (nle rfl) (nle rfl)
  replace G := G'; clear G'
  have Ab' := Ab.pad (vs' := [(.int 0)]) (pad_rep [] (.int 0) 1)
  replace G := G.dup 4 d52_3 rfl rfl |>.iconst 5 (0 : Int32) d52_4 rfl rfl |>.iloadN 6 d52_5 rfl rfl |>.i2b 7 d52_6 rfl
  obtain ⟨h2, G', As, Ks⟩ := G.bastore 8 0 Ab' (by decide) rfl (nle rfl) (Or.inr sb) (mm 0 rfl) d52_7 rfl
  replace G := G'; clear G'
  exact G.retA hret rfl rfl hlk d52_8 [b] (allS (mm 0 rfl) all0) ⟨_, rfl, b, rfl, ⟨kb, byt2 x ▸ As⟩, sb, rfl⟩ (nle rfl) (nle rfl)
theorem d53_0 : decode jdk_42_method_151_code 0 = .ok (.aload_n 0, 1) := by decide +kernel
theorem d53_1 : decode jdk_42_method_151_code 1 = .ok (.invokespecial 1, 3) := by decide +kernel
theorem d53_4 : decode jdk_42_method_151_code 4 = .ok (.aload_n 0, 1) := by decide +kernel
theorem d53_5 : decode jdk_42_method_151_code 5 = .ok (.aload_n 1, 1) := by decide +kernel
theorem d53_6 : decode jdk_42_method_151_code 6 = .ok (.putfield 9, 3) := by decide +kernel
theorem d53_9 : decode jdk_42_method_151_code 9 = .ok (.aload_n 0, 1) := by decide +kernel
theorem d53_10 : decode jdk_42_method_151_code 10 = .ok (.iload_n 2, 1) := by decide +kernel
theorem d53_11 : decode jdk_42_method_151_code 11 = .ok (.putfield 15, 3) := by decide +kernel
theorem d53_14 : decode jdk_42_method_151_code 14 = .ok (.return_, 1) := by decide +kernel
theorem c_strBB (l : Launch) (Z : State) (a0 : Array Value) (hw : ∀ d ∈ tables_1, d.before a0 Z = true) (hEW : EW Z a0 consts_1) (n0 : Nat) (c1 : Int32) (hc1 : ¬ c1 = 0) (S1 : Sta Z Z.heap "java/lang/String" "COMPACT_STRINGS" "Z" (.int c1)) (v2 : Value) (hv2 : v2.isRef = true) (S2 : Sta Z Z.heap "jdk/internal/util/Preconditions" "SIOOBE_FORMATTER" "Ljava/util/function/BiFunction;" v2) (a b : Addr) (kb : ClassId) (bs : List Value) {h0 : Heap} (o1 : Old Z n0 h0) (ge_a : n0 ≤ a) (nba : b ≠ a) (Xa : Exa Z h0 a "java/lang/String") (Fv : Fld Z h0 a "java/lang/String" "value" "[B" .null) (Fc : Fld Z h0 a "java/lang/String" "coder" "B" (.int 0)) (Ab : Arv Z h0 b kb .byte (Int32.ofNat bs.length) bs (.int 0)) :
    Con Z a0 l (⟨"java/lang/String", "<init>", "([BB)V"⟩ : MethodName) jdk_42_method_151_code 3 (none) ({ frames := 1, cells := 0, slots := 0, locals := 12 } : Room) [] #[(.ref a), (.ref b), (.int (0 : Int32))] consts_1 h0 n0 [a] [a] (V0 fun h so => Str Z h a b bs ∧ so = []) := by
  refine Con.body (plainFor_of_name pn_java_lang_String) hEW o1 (allS ge_a all0) #[.val (.ref a), .val (.ref b), .val (.int (0 : Int32))] (fun m => by first | (simp [entryFrame, mkF, argsToLocals, Value.category]; done) | rfl) ?_
  intro p e s m below meth c B hnm hret hlk G
  replace G := G.aloadN 1 d53_0 rfl rfl rfl |>.initO 4 (hw _ (mm 15 rfl)) (hw _ (mm 16 rfl)) (hw _ (mm 17 rfl)) d53_1 rfl (nle rfl) (nle rfl) rfl |>.aloadN 5 d53_4 rfl rfl rfl |>.aloadN 6 d53_5 rfl rfl rfl
  obtain ⟨h1, G', Wv, Fv, Kv⟩ := G.putf 9 (host := "") (Or.inl (hw _ (mm 24 rfl))) Via.refl Fv Xa (Or.inr ⟨(hw _ (mm 20 rfl)), rfl, hnm⟩) (hw _ (mm 5 rfl)) (ty := (.array .byte)) (by decide) rfl rfl (Or.inl (mm 0 rfl)) (mm 0 rfl) d53_6 rfl
  replace G := G'; clear G'
  replace Fc := Fc.other Wv (Or.inr (slot_ne (Or.inr (hw _ (mm 21 rfl))) (Or.inr (hw _ (mm 20 rfl))) (by decide) (t := .byte) (t' := (.array .byte)) (by decide) (by decide)))
  replace Xa := Xa.wr Wv; replace Ab := Ab.keep Kv (ninS nba nin0)
  replace G := G.aloadN 10 d53_9 rfl rfl rfl |>.iloadN 11 d53_10 rfl rfl
  obtain ⟨h2, G', Wc, Fc, Kc⟩ := G.putf 14 (host := "") (Or.inl (hw _ (mm 25 rfl))) Via.refl Fc Xa (Or.inr ⟨(hw _ (mm 21 rfl)), rfl, hnm⟩) (hw _ (mm 5 rfl)) (ty := .byte) (by decide) rfl rfl (Or.inl (mm 0 rfl)) (mm 0 rfl) d53_11 rfl
  replace G := G'; clear G'
  replace Fv := Fv.other Wc (Or.inr (slot_ne (Or.inr (hw _ (mm 20 rfl))) (Or.inr (hw _ (mm 21 rfl))) (by decide) (t := (.array .byte)) (t' := .byte) (by decide) (by decide)))
  replace Xa := Xa.wr Wc; replace Ab := Ab.keep Kc (ninS nba nin0)
  exact G.retV hret hlk d53_14 [] all0 ⟨rfl, ⟨Xa, Fc, Fv, kb, Ab⟩, rfl⟩ (nle rfl) (nle rfl)
theorem d50_0 : decode jdk_42_method_139_code 0 = .ok (.getstatic 38, 3) := by decide +kernel
theorem d50_3 : decode jdk_42_method_139_code 3 = .ok (.ifCond .eq 23, 3) := by decide +kernel
theorem d50_6 : decode jdk_42_method_139_code 6 = .ok (.iload_n 0, 1) := by decide +kernel
theorem d50_7 : decode jdk_42_method_139_code 7 = .ok (.invokestatic 1015, 3) := by decide +kernel
theorem d50_10 : decode jdk_42_method_139_code 10 = .ok (.ifCond .eq 16, 3) := by decide +kernel
theorem d50_13 : decode jdk_42_method_139_code 13 = .ok (.new 10, 3) := by decide +kernel
theorem d50_16 : decode jdk_42_method_139_code 16 = .ok (.dup, 1) := by decide +kernel
theorem d50_17 : decode jdk_42_method_139_code 17 = .ok (.iload_n 0, 1) := by decide +kernel
theorem d50_18 : decode jdk_42_method_139_code 18 = .ok (.invokestatic 1018, 3) := by decide +kernel
theorem d50_21 : decode jdk_42_method_139_code 21 = .ok (.iconst 0, 1) := by decide +kernel
theorem d50_22 : decode jdk_42_method_139_code 22 = .ok (.invokespecial 209, 3) := by decide +kernel
theorem d50_25 : decode jdk_42_method_139_code 25 = .ok (.areturn, 1) := by decide +kernel
theorem d50_26 : decode jdk_42_method_139_code 26 = .ok (.new 10, 3) := by decide +kernel
theorem d50_29 : decode jdk_42_method_139_code 29 = .ok (.dup, 1) := by decide +kernel
theorem d50_30 : decode jdk_42_method_139_code 30 = .ok (.iload_n 0, 1) := by decide +kernel
theorem d50_31 : decode jdk_42_method_139_code 31 = .ok (.invokestatic 1021, 3) := by decide +kernel
theorem d50_34 : decode jdk_42_method_139_code 34 = .ok (.iconst 1, 1) := by decide +kernel
theorem d50_35 : decode jdk_42_method_139_code 35 = .ok (.invokespecial 209, 3) := by decide +kernel
theorem d50_38 : decode jdk_42_method_139_code 38 = .ok (.areturn, 1) := by decide +kernel
theorem c_valC (l : Launch) (Z : State) (a0 : Array Value) (hw : ∀ d ∈ tables_1, d.before a0 Z = true) (hEW : EW Z a0 consts_1) (n0 : Nat) (c1 : Int32) (hc1 : ¬ c1 = 0) (S1 : Sta Z Z.heap "java/lang/String" "COMPACT_STRINGS" "Z" (.int c1)) (v2 : Value) (hv2 : v2.isRef = true) (S2 : Sta Z Z.heap "jdk/internal/util/Preconditions" "SIOOBE_FORMATTER" "Ljava/util/function/BiFunction;" v2) (x : Int32) {h0 : Heap} (o1 : Old Z n0 h0) (hx : ¬ (255 : Int32) < x) :
    Con Z a0 l (⟨"java/lang/String", "valueOf", "(C)Ljava/lang/String;"⟩ : MethodName) jdk_42_method_139_code 1 (some (.object "java/lang/String")) ({ frames := 2, cells := 2, slots := 5, locals := 27 } : Room) [] #[(.int x)] consts_1 h0 n0 [] [] (VV fun w h so => ∃ a b, w = .ref a ∧ Str Z h a b [.int x.toInt8.toInt32] ∧ h0.size ≤ a ∧ h0.size ≤ b ∧ so = [b, a]) := by
  refine Con.body (plainFor_of_name pn_java_lang_String) hEW o1 all0 #[.val (.int x)] (fun m => by first | (simp [entryFrame, mkF, argsToLocals, Value.category]; done) | rfl) ?_
  intro p e s m below meth c B hnm hret hlk G
  replace G := G.gets 3 (host := "") (Or.inl (hw _ (mm 89 rfl))) Via.refl (G.sta S1) d50_0 rfl |>.ifF 6 d50_3 (XT.i0_eq_f hc1) rfl |>.iloadN 7 d50_6 rfl rfl
  obtain ⟨ve, h_e, soe, G', Ke, Qe⟩ := G.callS 10 (hw _ (mm 305 rfl)) (hw _ (mm 306 rfl)) (hw _ (mm 261 rfl)) (hw _ (mm 307 rfl)) (by decide) [(.int x)] [] rfl (c_canEnc l Z a0 hw hEW n0 c1 hc1 S1 v2 hv2 S2 x G.old hx) (lenOf pd__C_Z rfl) d50_7 rfl (nle rfl) (nle rfl) (nle rfl) (nle rfl) all0 all0 all0 rfl
  replace G := G'; clear G'
  obtain ⟨we, qe, rfl, ee, rfl⟩ := Qe
  replace G := G.val qe
  subst ee
  replace G := G.ifF 13 d50_10 (XT.i0_eq_f (by decide)) rfl
  obtain ⟨a, h1, G', ga, sa, Ea, Xa, Da, Ua⟩ := G.new 16 (hw _ (mm 308 rfl)) (hw _ (mm 5 rfl)) (hw _ (mm 6 rfl)) d50_13 rfl (nle rfl) (nle rfl)
  replace G := G'; clear G'
  have Fv := Da (Or.inr (hw _ (mm 20 rfl))) (ty := .array .byte) (by decide)
  have Fc := Da (Or.inr (hw _ (mm 21 rfl))) (ty := .byte) (by decide)
  replace G := G.dup 17 d50_16 rfl rfl |>.iloadN 18 d50_17 rfl rfl
  obtain ⟨vt, h2, sot, G', Kt, Qt⟩ := G.callS 21 (hw _ (mm 309 rfl)) (hw _ (mm 310 rfl)) (hw _ (mm 261 rfl)) (hw _ (mm 311 rfl)) (by decide) [(.int x)] [(.ref a), (.ref a)] rfl (c_toBytesC l Z a0 hw hEW n0 c1 hc1 S1 v2 hv2 S2 x G.old ) (lenOf pd__C__B rfl) d50_18 rfl (nle rfl) (nle rfl) (nle rfl) (nle rfl) all0 all0 all0 rfl
  replace G := G'; clear G'
  obtain ⟨wt, qt, b, rfl, ⟨kb, Ab⟩, sb, rfl⟩ := Qt
  replace G := G.val qt
  have nba : b ≠ a := ne_ge Xa.lt sb
  replace Xa := Xa.keep Kt; replace Fv := Fv.keep Kt nin0; replace Fc := Fc.keep Kt nin0
  replace G := G.iconst 22 (0 : Int32) d50_21 rfl rfl
  obtain ⟨vs, h3, sos, G', Ks, Qs⟩ := G.callI 25 rfl rfl (hw _ (mm 312 rfl)) (hw _ (mm 313 rfl)) (hw _ (mm 6 rfl)) (hw _ (mm 314 rfl)) (by decide) [(.ref b), (.int (0 : Int32))] [(.ref a)] rfl (c_strBB l Z a0 hw hEW n0 c1 hc1 S1 v2 hv2 S2 a b kb [.int x.toInt8.toInt32] G.old (G.nw (Or.inr sa)) nba Xa Fv Fc Ab) (lenOf pd___BB_V rfl) d50_22 rfl (nle rfl) (nle rfl) (nle rfl) (nle rfl) (allS (Or.inr sa) all0) (allS (mm 1 rfl) all0) (allS (mm 1 rfl) all0) rfl
  replace G := G'; clear G'
  obtain ⟨qs, hT, rfl⟩ := Qs
  replace G := G.nov qs
  exact G.retA hret rfl rfl hlk d50_25 [b, a] (allS (mm 0 rfl) (allS (mm 1 rfl) all0)) ⟨_, rfl, a, b, rfl, hT, sa, Nat.le_trans Ea.1 sb, rfl⟩ (nle rfl) (nle rfl)
theorem d48_0 : decode jdk_52_method_21_code 0 = .ok (.iconst 0, 1) := by decide +kernel
theorem d48_1 : decode jdk_52_method_21_code 1 = .ok (.istore 5, 2) := by decide +kernel
theorem d48_3 : decode jdk_52_method_21_code 3 = .ok (.iload 5, 2) := by decide +kernel
theorem d48_5 : decode jdk_52_method_21_code 5 = .ok (.iload 4, 2) := by decide +kernel
theorem d48_7 : decode jdk_52_method_21_code 7 = .ok (.if_icmp .ge 37, 3) := by decide +kernel
theorem d48_10 : decode jdk_52_method_21_code 10 = .ok (.aload_n 0, 1) := by decide +kernel
theorem d48_11 : decode jdk_52_method_21_code 11 = .ok (.iload_n 1, 1) := by decide +kernel
theorem d48_12 : decode jdk_52_method_21_code 12 = .ok (.caload, 1) := by decide +kernel
theorem d48_13 : decode jdk_52_method_21_code 13 = .ok (.istore 6, 2) := by decide +kernel
theorem d48_15 : decode jdk_52_method_21_code 15 = .ok (.iload 6, 2) := by decide +kernel
theorem d48_17 : decode jdk_52_method_21_code 17 = .ok (.sipush 255, 3) := by decide +kernel
theorem d48_20 : decode jdk_52_method_21_code 20 = .ok (.if_icmp .le 6, 3) := by decide +kernel
theorem d48_23 : decode jdk_52_method_21_code 23 = .ok (.iload 5, 2) := by decide +kernel
theorem d48_25 : decode jdk_52_method_21_code 25 = .ok (.ireturn, 1) := by decide +kernel
theorem d48_26 : decode jdk_52_method_21_code 26 = .ok (.aload_n 2, 1) := by decide +kernel
theorem d48_27 : decode jdk_52_method_21_code 27 = .ok (.iload_n 3, 1) := by decide +kernel
theorem d48_28 : decode jdk_52_method_21_code 28 = .ok (.iload 6, 2) := by decide +kernel
theorem d48_30 : decode jdk_52_method_21_code 30 = .ok (.i2b, 1) := by decide +kernel
theorem d48_31 : decode jdk_52_method_21_code 31 = .ok (.bastore, 1) := by decide +kernel
theorem d48_32 : decode jdk_52_method_21_code 32 = .ok (.iinc 1 1, 3) := by decide +kernel
theorem d48_35 : decode jdk_52_method_21_code 35 = .ok (.iinc 3 1, 3) := by decide +kernel
theorem d48_38 : decode jdk_52_method_21_code 38 = .ok (.iinc 5 1, 3) := by decide +kernel
theorem d48_41 : decode jdk_52_method_21_code 41 = .ok (.goto (-38), 3) := by decide +kernel
theorem d48_44 : decode jdk_52_method_21_code 44 = .ok (.iload 4, 2) := by decide +kernel
theorem d48_46 : decode jdk_52_method_21_code 46 = .ok (.ireturn, 1) := by decide +kernel
theorem c_cmpL (l : Launch) (Z : State) (a0 : Array Value) (hw : ∀ d ∈ tables_1, d.before a0 Z = true) (hEW : EW Z a0 consts_1) (n0 : Nat) (c1 : Int32) (hc1 : ¬ c1 = 0) (S1 : Sta Z Z.heap "java/lang/String" "COMPACT_STRINGS" "Z" (.int c1)) (v2 : Value) (hv2 : v2.isRef = true) (S2 : Sta Z Z.heap "jdk/internal/util/Preconditions" "SIOOBE_FORMATTER" "Ljava/util/function/BiFunction;" v2) (va d : Addr) (kv kd : ClassId) (cs : List Int32) {h0 : Heap} (o1 : Old Z n0 h0) (ge_d : n0 ≤ d) (hne : 0 < cs.length) (hn : cs.length < 2147483648) (hc : ∀ x ∈ cs, ¬ (255 : Int32) < x) (nvd : va ≠ d) (Av : Arv Z h0 va kv .char (Int32.ofNat cs.length) (cs.map Value.int) (.int 0)) (Ad : Arv Z h0 d kd .byte (Int32.ofNat cs.length) [] (.int 0)) :
    Con Z a0 l (⟨"java/lang/StringUTF16", "compress", "([CI[BII)I"⟩ : MethodName) jdk_52_method_21_code 7 (some .int) ({ frames := 0, cells := 0, slots := 0, locals := 0 } : Room) [] #[(.ref va), (.int (0 : Int32)), (.ref d), (.int (0 : Int32)), (.int (Int32.ofNat cs.length))] consts_1 h0 n0 [d] [d] (VV fun w h so => w = .int (Int32.ofNat cs.length) ∧ Arv Z h d kd .byte (Int32.ofNat cs.length) (cs.map bytV) (.int 0) ∧ so = []) := by
  refine Con.body (plainFor_of_name pn_java_lang_StringUTF16) hEW o1 (allS ge_d all0) #[.val (.ref va), .val (.int (0 : Int32)), .val (.ref d), .val (.int (0 : Int32)), .val (.int (Int32.ofNat cs.length)), .unset, .unset] (fun m => by first | (simp [entryFrame, mkF, argsToLocals, Value.category]; done) | rfl) ?_
  intro p e s m below meth c B hnm hret hlk G
  have loop : ∀ (k : Nat) (h : Heap) (i : Nat) (cc : Int32), i + k = cs.length → Arv Z h va kv .char (Int32.ofNat cs.length) (cs.map Value.int) (.int 0) → Arv Z h d kd .byte (Int32.ofNat cs.length) ((cs.take i).map bytV) (.int 0) → Wl Z a0 "java/lang/StringUTF16" p l e ({ frames := 0, cells := 0, slots := 0, locals := 0 } : Room) s m #[(.ref va), (.int (0 : Int32)), (.ref d), (.int (0 : Int32)), (.int (Int32.ofNat cs.length))] below meth c jdk_52_method_21_code 7 B consts_1 h0 n0 [d] [d] h 0 0 3 #[.val (.ref va), .val (.int (Int32.ofNat i)), .val (.ref d), .val (.int (Int32.ofNat i)), .val (.int (Int32.ofNat cs.length)), .val (.int (Int32.ofNat i)), .val (.int cc)] [] → Fin Z consts_1 p e below B s h0 n0 [d] ({ frames := 0, cells := 0, slots := 0, locals := 0 } : Room).cells ({ frames := 0, cells := 0, slots := 0, locals := 0 } : Room).slots (VV fun w h so => w = .int (Int32.ofNat cs.length) ∧ Arv Z h d kd .byte (Int32.ofNat cs.length) (cs.map bytV) (.int 0) ∧ so = []) := by
    intro k; induction k with
    | zero =>
      intro h i cc hik Av Ad G
      obtain rfl : i = cs.length := by omega
      replace G := G.iload 5 d48_3 rfl rfl |>.iload 7 d48_5 rfl rfl |>.icmpT 44 d48_7 (XT.ii_ge_t (ofn_nlt (Nat.le_refl _) hn)) (by decide) (by decide) |>.iload 46 d48_44 rfl rfl
      rw [List.take_length] at Ad
      exact G.retI hret hlk d48_46 [] all0 ⟨_, rfl, rfl, Ad, rfl⟩ (nle rfl) (nle rfl)
    | succ k ih =>
      intro h i cc hik Av Ad G
      have hi : i < cs.length := by omega
      replace G := G.iload 5 d48_3 rfl rfl |>.iload 7 d48_5 rfl rfl |>.icmpF 10 d48_7 (XT.ii_ge_f (ofn_lt hi hn)) rfl |>.aloadN 11 d48_10 rfl rfl rfl |>.iloadN 12 d48_11 rfl rfl
      have hci := hc _ (getD_mem cs i hi)
      replace G := G.caload 13 (v := (.int (cs.getD i 0))) Av ⟨ofn_nn (by omega), ofn_lt hi hn⟩ (by rw [ofn_nat (by omega)]; exact getD_map cs i hi) d48_12 rfl |>.istore 15 #[.val (.ref va), .val (.int (Int32.ofNat i)), .val (.ref d), .val (.int (Int32.ofNat i)), .val (.int (Int32.ofNat cs.length)), .val (.int (Int32.ofNat i)), .val (.int (cs.getD i 0))] d48_13 rfl rfl |>.iload 17 d48_15 rfl rfl |>.sipush 20 (255 : Int32) d48_17 (by decide) rfl |>.icmpT 26 d48_20 (XT.ii_le_t hci) (by decide) (by decide) |>.aloadN 27 d48_26 rfl rfl rfl |>.iloadN 28 d48_27 rfl rfl |>.iload 30 d48_28 rfl rfl
      replace G := G.i2b 31 d48_30 rfl
      have Ad' := Ad.pad (vs' := (cs.take i).map bytV ++ [(.int 0)]) (pad_rep _ (.int 0) 1)
      have hlen : ((cs.take i).map bytV).length = i := by first | (simp; done) | (simp; omega)
      obtain ⟨h2, G', As, Ks⟩ := G.bastore 32 i Ad' ⟨ofn_nn (by omega), ofn_lt hi hn⟩ (ofn_nat (by omega)) (by rw [List.length_append, hlen]; simp) (Or.inl (mm 0 rfl)) (mm 0 rfl) d48_31 rfl
      replace G := G'; clear G'
      rw [set_app _ _ _ _ hlen, byt2] at As
      replace Ad : Arv Z h2 d kd .byte (Int32.ofNat cs.length) ((cs.take (i + 1)).map bytV) (.int 0) := by rw [tk_succ cs bytV i hi]; exact As
      replace Av := Av.keep Ks (ninS nvd nin0)
      replace G := G.iincV 35 #[.val (.ref va), .val (.int (Int32.ofNat (i + 1))), .val (.ref d), .val (.int (Int32.ofNat i)), .val (.int (Int32.ofNat cs.length)), .val (.int (Int32.ofNat i)), .val (.int (cs.getD i 0))] (Int32.ofNat (i + 1)) d48_32 rfl (ofn_succ i) rfl rfl |>.iincV 38 #[.val (.ref va), .val (.int (Int32.ofNat (i + 1))), .val (.ref d), .val (.int (Int32.ofNat (i + 1))), .val (.int (Int32.ofNat cs.length)), .val (.int (Int32.ofNat i)), .val (.int (cs.getD i 0))] (Int32.ofNat (i + 1)) d48_35 rfl (ofn_succ i) rfl rfl |>.iincV 41 #[.val (.ref va), .val (.int (Int32.ofNat (i + 1))), .val (.ref d), .val (.int (Int32.ofNat (i + 1))), .val (.int (Int32.ofNat cs.length)), .val (.int (Int32.ofNat (i + 1))), .val (.int (cs.getD i 0))] (Int32.ofNat (i + 1)) d48_38 rfl (ofn_succ i) rfl rfl |>.goto 3 d48_41 (by decide) (by decide)
      exact ih _ (i + 1) _ (by omega) Av Ad G
  have hi : 0 < cs.length := hne
  replace G := G.iconst 1 (0 : Int32) d48_0 rfl rfl |>.istore 3 #[.val (.ref va), .val (.int (0 : Int32)), .val (.ref d), .val (.int (0 : Int32)), .val (.int (Int32.ofNat cs.length)), .val (.int (0 : Int32)), .unset] d48_1 rfl rfl
  replace Ad : Arv Z h0 d kd .byte (Int32.ofNat cs.length) ((cs.take 0).map bytV) (.int 0) := Ad
  replace G : Wl Z a0 "java/lang/StringUTF16" p l e ({ frames := 0, cells := 0, slots := 0, locals := 0 } : Room) s m #[(.ref va), (.int (0 : Int32)), (.ref d), (.int (0 : Int32)), (.int (Int32.ofNat cs.length))] below meth c jdk_52_method_21_code 7 B consts_1 h0 n0 [d] [d] h0 0 0 3 #[.val (.ref va), .val (.int (Int32.ofNat 0)), .val (.ref d), .val (.int (Int32.ofNat 0)), .val (.int (Int32.ofNat cs.length)), .val (.int (Int32.ofNat 0)), .unset] [] := G
  replace G := G.iload 5 d48_3 rfl rfl |>.iload 7 d48_5 rfl rfl |>.icmpF 10 d48_7 (XT.ii_ge_f (ofn_lt hi hn)) rfl |>.aloadN 11 d48_10 rfl rfl rfl |>.iloadN 12 d48_11 rfl rfl
  have hci := hc _ (getD_mem cs 0 hi)
  replace G := G.caload 13 (v := (.int (cs.getD 0 0))) Av ⟨ofn_nn (by omega), ofn_lt hi hn⟩ (by rw [ofn_nat (by omega)]; exact getD_map cs 0 hi) d48_12 rfl |>.istore 15 #[.val (.ref va), .val (.int (Int32.ofNat 0)), .val (.ref d), .val (.int (Int32.ofNat 0)), .val (.int (Int32.ofNat cs.length)), .val (.int (Int32.ofNat 0)), .val (.int (cs.getD 0 0))] d48_13 rfl rfl |>.iload 17 d48_15 rfl rfl |>.sipush 20 (255 : Int32) d48_17 (by decide) rfl |>.icmpT 26 d48_20 (XT.ii_le_t hci) (by decide) (by decide) |>.aloadN 27 d48_26 rfl rfl rfl |>.iloadN 28 d48_27 rfl rfl |>.iload 30 d48_28 rfl rfl
  replace G := G.i2b 31 d48_30 rfl
  have Ad' := Ad.pad (vs' := (cs.take 0).map bytV ++ [(.int 0)]) (pad_rep _ (.int 0) 1)
  have hlen : ((cs.take 0).map bytV).length = 0 := by first | (simp; done) | (simp; omega)
  obtain ⟨h2, G', As, Ks⟩ := G.bastore 32 0 Ad' ⟨ofn_nn (by omega), ofn_lt hi hn⟩ (ofn_nat (by omega)) (by rw [List.length_append, hlen]; simp) (Or.inl (mm 0 rfl)) (mm 0 rfl) d48_31 rfl
  replace G := G'; clear G'
  rw [set_app _ _ _ _ hlen, byt2] at As
  replace Ad : Arv Z h2 d kd .byte (Int32.ofNat cs.length) ((cs.take (0 + 1)).map bytV) (.int 0) := by rw [tk_succ cs bytV 0 hi]; exact As
  replace Av := Av.keep Ks (ninS nvd nin0)
  replace G := G.iincV 35 #[.val (.ref va), .val (.int (Int32.ofNat (0 + 1))), .val (.ref d), .val (.int (Int32.ofNat 0)), .val (.int (Int32.ofNat cs.length)), .val (.int (Int32.ofNat 0)), .val (.int (cs.getD 0 0))] (Int32.ofNat (0 + 1)) d48_32 rfl (ofn_succ 0) rfl rfl |>.iincV 38 #[.val (.ref va), .val (.int (Int32.ofNat (0 + 1))), .val (.ref d), .val (.int (Int32.ofNat (0 + 1))), .val (.int (Int32.ofNat cs.length)), .val (.int (Int32.ofNat 0)), .val (.int (cs.getD 0 0))] (Int32.ofNat (0 + 1)) d48_35 rfl (ofn_succ 0) rfl rfl |>.iincV 41 #[.val (.ref va), .val (.int (Int32.ofNat (0 + 1))), .val (.ref d), .val (.int (Int32.ofNat (0 + 1))), .val (.int (Int32.ofNat cs.length)), .val (.int (Int32.ofNat (0 + 1))), .val (.int (cs.getD 0 0))] (Int32.ofNat (0 + 1)) d48_38 rfl (ofn_succ 0) rfl rfl |>.goto 3 d48_41 (by decide) (by decide)
  exact loop (cs.length - 1) _ 1 _ (by omega) Av Ad G
theorem d47_0 : decode jdk_52_method_16_code 0 = .ok (.iload_n 2, 1) := by decide +kernel
theorem d47_1 : decode jdk_52_method_16_code 1 = .ok (.newarray .byte, 2) := by decide +kernel
theorem d47_3 : decode jdk_52_method_16_code 3 = .ok (.astore_n 3, 1) := by decide +kernel
theorem d47_4 : decode jdk_52_method_16_code 4 = .ok (.aload_n 0, 1) := by decide +kernel
theorem d47_5 : decode jdk_52_method_16_code 5 = .ok (.iload_n 1, 1) := by decide +kernel
theorem d47_6 : decode jdk_52_method_16_code 6 = .ok (.aload_n 3, 1) := by decide +kernel
theorem d47_7 : decode jdk_52_method_16_code 7 = .ok (.iconst 0, 1) := by decide +kernel
theorem d47_8 : decode jdk_52_method_16_code 8 = .ok (.iload_n 2, 1) := by decide +kernel
theorem d47_9 : decode jdk_52_method_16_code 9 = .ok (.invokestatic 115, 3) := by decide +kernel
theorem d47_12 : decode jdk_52_method_16_code 12 = .ok (.istore 4, 2) := by decide +kernel
theorem d47_14 : decode jdk_52_method_16_code 14 = .ok (.iload 4, 2) := by decide +kernel
theorem d47_16 : decode jdk_52_method_16_code 16 = .ok (.iload_n 2, 1) := by decide +kernel
theorem d47_17 : decode jdk_52_method_16_code 17 = .ok (.if_icmp .eq 40, 3) := by decide +kernel
theorem d47_20 : decode jdk_52_method_16_code 20 = .ok (.aload_n 0, 1) := by decide +kernel
theorem d47_21 : decode jdk_52_method_16_code 21 = .ok (.iload_n 1, 1) := by decide +kernel
theorem d47_22 : decode jdk_52_method_16_code 22 = .ok (.iload_n 2, 1) := by decide +kernel
theorem d47_23 : decode jdk_52_method_16_code 23 = .ok (.invokestatic 119, 3) := by decide +kernel
theorem d47_26 : decode jdk_52_method_16_code 26 = .ok (.astore 5, 2) := by decide +kernel
theorem d47_28 : decode jdk_52_method_16_code 28 = .ok (.aload 5, 2) := by decide +kernel
theorem d47_30 : decode jdk_52_method_16_code 30 = .ok (.iload 4, 2) := by decide +kernel
theorem d47_32 : decode jdk_52_method_16_code 32 = .ok (.invokestatic 71, 3) := by decide +kernel
theorem d47_35 : decode jdk_52_method_16_code 35 = .ok (.sipush 255, 3) := by decide +kernel
theorem d47_38 : decode jdk_52_method_16_code 38 = .ok (.if_icmp .gt 16, 3) := by decide +kernel
theorem d47_41 : decode jdk_52_method_16_code 41 = .ok (.aload 5, 2) := by decide +kernel
theorem d47_43 : decode jdk_52_method_16_code 43 = .ok (.iconst 0, 1) := by decide +kernel
theorem d47_44 : decode jdk_52_method_16_code 44 = .ok (.aload_n 3, 1) := by decide +kernel
theorem d47_45 : decode jdk_52_method_16_code 45 = .ok (.iconst 0, 1) := by decide +kernel
theorem d47_46 : decode jdk_52_method_16_code 46 = .ok (.iload_n 2, 1) := by decide +kernel
theorem d47_47 : decode jdk_52_method_16_code 47 = .ok (.invokestatic 123, 3) := by decide +kernel
theorem d47_50 : decode jdk_52_method_16_code 50 = .ok (.iload_n 2, 1) := by decide +kernel
theorem d47_51 : decode jdk_52_method_16_code 51 = .ok (.if_icmp .eq 6, 3) := by decide +kernel
theorem d47_54 : decode jdk_52_method_16_code 54 = .ok (.aload 5, 2) := by decide +kernel
theorem d47_56 : decode jdk_52_method_16_code 56 = .ok (.areturn, 1) := by decide +kernel
theorem d47_57 : decode jdk_52_method_16_code 57 = .ok (.aload_n 3, 1) := by decide +kernel
theorem d47_58 : decode jdk_52_method_16_code 58 = .ok (.areturn, 1) := by decide +kernel
theorem c_cmpA (l : Launch) (Z : State) (a0 : Array Value) (hw : ∀ d ∈ tables_1, d.before a0 Z = true) (hEW : EW Z a0 consts_1) (n0 : Nat) (c1 : Int32) (hc1 : ¬ c1 = 0) (S1 : Sta Z Z.heap "java/lang/String" "COMPACT_STRINGS" "Z" (.int c1)) (v2 : Value) (hv2 : v2.isRef = true) (S2 : Sta Z Z.heap "jdk/internal/util/Preconditions" "SIOOBE_FORMATTER" "Ljava/util/function/BiFunction;" v2) (va : Addr) (kv : ClassId) (cs : List Int32) {h0 : Heap} (o1 : Old Z n0 h0) (hne : 0 < cs.length) (hmax : cs.length ≤ 2) (hc : ∀ x ∈ cs, ¬ (255 : Int32) < x) (Av : Arv Z h0 va kv .char (Int32.ofNat cs.length) (cs.map Value.int) (.int 0)) :
    Con Z a0 l (⟨"java/lang/StringUTF16", "compress", "([CII)[B"⟩ : MethodName) jdk_52_method_16_code 6 (some (.array .byte)) ({ frames := 1, cells := 1, slots := 2, locals := 18 } : Room) [] #[(.ref va), (.int (0 : Int32)), (.int (Int32.ofNat cs.length))] consts_1 h0 n0 [] [] (VV fun w h so => ∃ d, w = .ref d ∧ (∃ k, Arv Z h d k .byte (Int32.ofNat cs.length) (cs.map bytV) (.int 0)) ∧ h0.size ≤ d ∧ so = [d]) := by
  refine Con.body (plainFor_of_name pn_java_lang_StringUTF16) hEW o1 all0 #[.val (.ref va), .val (.int (0 : Int32)), .val (.int (Int32.ofNat cs.length)), .unset, .unset, .unset] (fun m => by first | (simp [entryFrame, mkF, argsToLocals, Value.category]; done) | rfl) ?_
  intro p e s m below meth c B hnm hret hlk G
  have hn : cs.length < 2147483648 := by omega
  replace G := G.iloadN 1 d47_0 rfl rfl
  obtain ⟨d, h1, kd, G', gd, sd, Ed, Ad⟩ := G.newarray 3 (hw _ (mm 19 rfl)) d47_1 (ofn_nn hn) 2 (by rw [ofn_nat hn]; exact hmax) (by decide) rfl (nle rfl) (nle rfl)
  replace G := G'; clear G'
  have nvd : va ≠ d := ne_new gd Av.lt
  replace Av := Av.ext Ed
  replace G := G.astoreN 4 #[.val (.ref va), .val (.int (0 : Int32)), .val (.int (Int32.ofNat cs.length)), .val (.ref d), .unset, .unset] d47_3 rfl rfl rfl |>.aloadN 5 d47_4 rfl rfl rfl |>.iloadN 6 d47_5 rfl rfl |>.aloadN 7 d47_6 rfl rfl rfl |>.iconst 8 (0 : Int32) d47_7 rfl rfl |>.iloadN 9 d47_8 rfl rfl
  obtain ⟨vc, h2, soc, G', Kc, Qc⟩ := G.callS 12 (hw _ (mm 296 rfl)) (hw _ (mm 297 rfl)) (hw _ (mm 294 rfl)) (hw _ (mm 298 rfl)) (by decide) [(.ref va), (.int (0 : Int32)), (.ref d), (.int (0 : Int32)), (.int (Int32.ofNat cs.length))] [] rfl (c_cmpL l Z a0 hw hEW n0 c1 hc1 S1 v2 hv2 S2 va d kv kd cs G.old (G.nw (Or.inr sd)) hne hn hc nvd Av Ad) (lenOf pd___CI_BII_I rfl) d47_9 rfl (nle rfl) (nle rfl) (nle rfl) (nle rfl) (allS (Or.inr sd) all0) (allS (mm 0 rfl) all0) (allS (mm 0 rfl) all0) rfl
  replace G := G'; clear G'
  obtain ⟨wc, qc, rfl, Ad, rfl⟩ := Qc
  replace G := G.val qc |>.istore 14 #[.val (.ref va), .val (.int (0 : Int32)), .val (.int (Int32.ofNat cs.length)), .val (.ref d), .val (.int (Int32.ofNat cs.length)), .unset] d47_12 rfl rfl |>.iload 16 d47_14 rfl rfl |>.iloadN 17 d47_16 rfl rfl |>.icmpT 57 d47_17 (XT.ii_eq_t rfl) (by decide) (by decide) |>.aloadN 58 d47_57 rfl rfl rfl
  exact G.retA hret rfl rfl hlk d47_58 [d] (allS (mm 0 rfl) all0) ⟨_, rfl, d, rfl, ⟨kd, Ad⟩, sd, rfl⟩ (nle rfl) (nle rfl)
theorem d49_0 : decode jdk_52_method_15_code 0 = .ok (.iload_n 1, 1) := by decide +kernel
theorem d49_1 : decode jdk_52_method_15_code 1 = .ok (.aload_n 0, 1) := by decide +kernel
theorem d49_2 : decode jdk_52_method_15_code 2 = .ok (.arraylength, 1) := by decide +kernel
theorem d49_3 : decode jdk_52_method_15_code 3 = .ok (.isub, 1) := by decide +kernel
theorem d49_4 : decode jdk_52_method_15_code 4 = .ok (.bipush 31, 2) := by decide +kernel
theorem d49_6 : decode jdk_52_method_15_code 6 = .ok (.iushr, 1) := by decide +kernel
theorem d49_7 : decode jdk_52_method_15_code 7 = .ok (.i2b, 1) := by decide +kernel
theorem d49_8 : decode jdk_52_method_15_code 8 = .ok (.ireturn, 1) := by decide +kernel
theorem c_cod (l : Launch) (Z : State) (a0 : Array Value) (hw : ∀ d ∈ tables_1, d.before a0 Z = true) (hEW : EW Z a0 consts_1) (n0 : Nat) (c1 : Int32) (hc1 : ¬ c1 = 0) (S1 : Sta Z Z.heap "java/lang/String" "COMPACT_STRINGS" "Z" (.int c1)) (v2 : Value) (hv2 : v2.isRef = true) (S2 : Sta Z Z.heap "jdk/internal/util/Preconditions" "SIOOBE_FORMATTER" "Ljava/util/function/BiFunction;" v2) (b : Addr) (kb : ClassId) (z : Int32) (vs : List Value) {h0 : Heap} (o1 : Old Z n0 h0) (Ab : Arv Z h0 b kb .byte z vs (.int 0)) :
    Con Z a0 l (⟨"java/lang/StringUTF16", "coderFromArrayLen", "([BI)B"⟩ : MethodName) jdk_52_method_15_code 2 (some .byte) ({ frames := 0, cells := 0, slots := 0, locals := 0 } : Room) [] #[(.ref b), (.int z)] consts_1 h0 n0 [] [] (VV fun w h so => w = .int 0 ∧ h = h0 ∧ so = []) := by
  refine Con.body (plainFor_of_name pn_java_lang_StringUTF16) hEW o1 all0 #[.val (.ref b), .val (.int z)] (fun m => by first | (simp [entryFrame, mkF, argsToLocals, Value.category]; done) | rfl) ?_
  intro p e s m below meth c B hnm hret hlk G
  replace G := G.iloadN 1 d49_0 rfl rfl |>.aloadN 2 d49_1 rfl rfl rfl |>.alen 3 Ab d49_2 rfl |>.isub 4 d49_3 rfl |>.bipush 6 (31 : Int32) d49_4 (by decide) rfl |>.iushr 7 d49_6 rfl |>.top (y := (.int (0 : Int32))) (congrArg Value.int (cod0 z)) |>.i2b 8 d49_7 rfl
  exact G.retN hret (Or.inr (Or.inl rfl)) hlk d49_8 [] all0 ⟨_, rfl, rfl, rfl, rfl⟩ (nle rfl) (nle rfl)
theorem d3_0 : decode jdk_42_method_149_code 0 = .ok (.aload_n 0, 1) := by decide +kernel
theorem d3_1 : decode jdk_42_method_149_code 1 = .ok (.invokespecial 1, 3) := by decide +kernel
theorem d3_4 : decode jdk_42_method_149_code 4 = .ok (.iload_n 3, 1) := by decide +kernel
theorem d3_5 : decode jdk_42_method_149_code 5 = .ok (.ifCond .ne 22, 3) := by decide +kernel
theorem d3_8 : decode jdk_42_method_149_code 8 = .ok (.aload_n 0, 1) := by decide +kernel
theorem d3_9 : decode jdk_42_method_149_code 9 = .ok (.ldc 7, 2) := by decide +kernel
theorem d3_11 : decode jdk_42_method_149_code 11 = .ok (.getfield 9, 3) := by decide +kernel
theorem d3_14 : decode jdk_42_method_149_code 14 = .ok (.putfield 9, 3) := by decide +kernel
theorem d3_17 : decode jdk_42_method_149_code 17 = .ok (.aload_n 0, 1) := by decide +kernel
theorem d3_18 : decode jdk_42_method_149_code 18 = .ok (.ldc 7, 2) := by decide +kernel
theorem d3_20 : decode jdk_42_method_149_code 20 = .ok (.getfield 15, 3) := by decide +kernel
theorem d3_23 : decode jdk_42_method_149_code 23 = .ok (.putfield 15, 3) := by decide +kernel
theorem d3_26 : decode jdk_42_method_149_code 26 = .ok (.return_, 1) := by decide +kernel
theorem d3_27 : decode jdk_42_method_149_code 27 = .ok (.getstatic 38, 3) := by decide +kernel
theorem d3_30 : decode jdk_42_method_149_code 30 = .ok (.ifCond .eq 28, 3) := by decide +kernel
theorem d3_33 : decode jdk_42_method_149_code 33 = .ok (.aload_n 1, 1) := by decide +kernel
theorem d3_34 : decode jdk_42_method_149_code 34 = .ok (.iload_n 2, 1) := by decide +kernel
theorem d3_35 : decode jdk_42_method_149_code 35 = .ok (.iload_n 3, 1) := by decide +kernel
theorem d3_36 : decode jdk_42_method_149_code 36 = .ok (.invokestatic 177, 3) := by decide +kernel
theorem d3_39 : decode jdk_42_method_149_code 39 = .ok (.astore 5, 2) := by decide +kernel
theorem d3_41 : decode jdk_42_method_149_code 41 = .ok (.aload_n 0, 1) := by decide +kernel
theorem d3_42 : decode jdk_42_method_149_code 42 = .ok (.aload 5, 2) := by decide +kernel
theorem d3_44 : decode jdk_42_method_149_code 44 = .ok (.iload_n 3, 1) := by decide +kernel
theorem d3_45 : decode jdk_42_method_149_code 45 = .ok (.invokestatic 47, 3) := by decide +kernel
theorem d3_48 : decode jdk_42_method_149_code 48 = .ok (.putfield 15, 3) := by decide +kernel
theorem d3_51 : decode jdk_42_method_149_code 51 = .ok (.aload_n 0, 1) := by decide +kernel
theorem d3_52 : decode jdk_42_method_149_code 52 = .ok (.aload 5, 2) := by decide +kernel
theorem d3_54 : decode jdk_42_method_149_code 54 = .ok (.putfield 9, 3) := by decide +kernel
theorem d3_57 : decode jdk_42_method_149_code 57 = .ok (.return_, 1) := by decide +kernel
theorem d3_58 : decode jdk_42_method_149_code 58 = .ok (.aload_n 0, 1) := by decide +kernel
theorem d3_59 : decode jdk_42_method_149_code 59 = .ok (.iconst 1, 1) := by decide +kernel
theorem d3_60 : decode jdk_42_method_149_code 60 = .ok (.putfield 15, 3) := by decide +kernel
theorem d3_63 : decode jdk_42_method_149_code 63 = .ok (.aload_n 0, 1) := by decide +kernel
theorem d3_64 : decode jdk_42_method_149_code 64 = .ok (.aload_n 1, 1) := by decide +kernel
theorem d3_65 : decode jdk_42_method_149_code 65 = .ok (.iload_n 2, 1) := by decide +kernel
theorem d3_66 : decode jdk_42_method_149_code 66 = .ok (.iload_n 3, 1) := by decide +kernel
theorem d3_67 : decode jdk_42_method_149_code 67 = .ok (.invokestatic 180, 3) := by decide +kernel
theorem d3_70 : decode jdk_42_method_149_code 70 = .ok (.putfield 9, 3) := by decide +kernel
theorem d3_73 : decode jdk_42_method_149_code 73 = .ok (.return_, 1) := by decide +kernel
theorem c_strCV (l : Launch) (Z : State) (a0 : Array Value) (hw : ∀ d ∈ tables_1, d.before a0 Z = true) (hEW : EW Z a0 consts_1) (n0 : Nat) (c1 : Int32) (hc1 : ¬ c1 = 0) (S1 : Sta Z Z.heap "java/lang/String" "COMPACT_STRINGS" "Z" (.int c1)) (v2 : Value) (hv2 : v2.isRef = true) (S2 : Sta Z Z.heap "jdk/internal/util/Preconditions" "SIOOBE_FORMATTER" "Ljava/util/function/BiFunction;" v2) (a va : Addr) (kv : ClassId) (cs : List Int32) {h0 : Heap} (o1 : Old Z n0 h0) (ge_a : n0 ≤ a) (Xa : Exa Z h0 a "java/lang/String") (Fv : Fld Z h0 a "java/lang/String" "value" "[B" .null) (Fc : Fld Z h0 a "java/lang/String" "coder" "B" (.int 0)) (hne : 0 < cs.length) (hmax : cs.length ≤ 2) (hc : ∀ x ∈ cs, ¬ (255 : Int32) < x) (Av : Arv Z h0 va kv .char (Int32.ofNat cs.length) (cs.map Value.int) (.int 0)) :
    Con Z a0 l (⟨"java/lang/String", "<init>", "([CIILjava/lang/Void;)V"⟩ : MethodName) jdk_42_method_149_code 6 (none) ({ frames := 2, cells := 1, slots := 2, locals := 35 } : Room) [] #[(.ref a), (.ref va), (.int (0 : Int32)), (.int (Int32.ofNat cs.length)), .null] consts_1 h0 n0 [a] [a] (V0 fun h so => ∃ b, Str Z h a b (cs.map bytV) ∧ h0.size ≤ b ∧ so = [b]) := by
  refine Con.body (plainFor_of_name pn_java_lang_String) hEW o1 (allS ge_a all0) #[.val (.ref a), .val (.ref va), .val (.int (0 : Int32)), .val (.int (Int32.ofNat cs.length)), .val .null, .unset] (fun m => by first | (simp [entryFrame, mkF, argsToLocals, Value.category]; done) | rfl) ?_
  intro p e s m below meth c B hnm hret hlk G
  have hn : cs.length < 2147483648 := by omega
  replace G := G.aloadN 1 d3_0 rfl rfl rfl |>.initO 4 (hw _ (mm 15 rfl)) (hw _ (mm 16 rfl)) (hw _ (mm 17 rfl)) d3_1 rfl (nle rfl) (nle rfl) rfl |>.iloadN 5 d3_4 rfl rfl |>.ifT 27 d3_5 (XT.i0_ne_t (ofn_ne (n := 0) (by omega) hn (by decide))) (by decide) (by decide) |>.gets 30 (host := "") (Or.inl (hw _ (mm 89 rfl))) Via.refl (G.sta S1) d3_27 rfl |>.ifF 33 d3_30 (XT.i0_eq_f hc1) rfl |>.aloadN 34 d3_33 rfl rfl rfl |>.iloadN 35 d3_34 rfl rfl
  replace G := G.iloadN 36 d3_35 rfl rfl
  obtain ⟨vc, h1, soc, G', Kc, Qc⟩ := G.callS 39 (hw _ (mm 292 rfl)) (hw _ (mm 293 rfl)) (hw _ (mm 294 rfl)) (hw _ (mm 295 rfl)) (by decide) [(.ref va), (.int (0 : Int32)), (.int (Int32.ofNat cs.length))] [] rfl (c_cmpA l Z a0 hw hEW n0 c1 hc1 S1 v2 hv2 S2 va kv cs G.old hne hmax hc Av) (lenOf pd___CII__B rfl) d3_36 rfl (nle rfl) (nle rfl) (nle rfl) (nle rfl) all0 all0 all0 rfl
  replace G := G'; clear G'
  obtain ⟨wc, qc, b, rfl, ⟨kb, Ab⟩, sb, rfl⟩ := Qc
  replace G := G.val qc
  have nba : b ≠ a := ne_ge Xa.lt sb
  replace Xa := Xa.keep Kc; replace Fv := Fv.keep Kc nin0; replace Fc := Fc.keep Kc nin0
  replace G := G.astore 41 #[.val (.ref a), .val (.ref va), .val (.int (0 : Int32)), .val (.int (Int32.ofNat cs.length)), .val .null, .val (.ref b)] d3_39 rfl rfl rfl |>.aloadN 42 d3_41 rfl rfl rfl |>.aload 44 d3_42 rfl rfl rfl |>.iloadN 45 d3_44 rfl rfl
  obtain ⟨vd, h_d, sod, G', Kd, Qd⟩ := G.callS 48 (hw _ (mm 299 rfl)) (hw _ (mm 300 rfl)) (hw _ (mm 294 rfl)) (hw _ (mm 301 rfl)) (by decide) [(.ref b), (.int (Int32.ofNat cs.length))] [(.ref a)] rfl (c_cod l Z a0 hw hEW n0 c1 hc1 S1 v2 hv2 S2 b kb (Int32.ofNat cs.length) (cs.map bytV) G.old Ab) (lenOf pd___BI_B rfl) d3_45 rfl (nle rfl) (nle rfl) (nle rfl) (nle rfl) all0 all0 all0 rfl
  replace G := G'; clear G'
  obtain ⟨wd, qd, rfl, ed, rfl⟩ := Qd
  replace G := G.val qd
  subst ed
  obtain ⟨h2, G', Wc2, Fc2, Kc2⟩ := G.putf 51 (host := "") (Or.inl (hw _ (mm 25 rfl))) Via.refl Fc Xa (Or.inr ⟨(hw _ (mm 21 rfl)), rfl, hnm⟩) (hw _ (mm 5 rfl)) (ty := .byte) (by decide) rfl rfl (Or.inl (mm 0 rfl)) (mm 1 rfl) d3_48 rfl
  replace G := G'; clear G'
  replace Fv := Fv.other Wc2 (Or.inr (slot_ne (Or.inr (hw _ (mm 20 rfl))) (Or.inr (hw _ (mm 21 rfl))) (by decide) (t := (.array .byte)) (t' := .byte) (by decide) (by decide)))
  replace Xa := Xa.wr Wc2; replace Ab := Ab.keep Kc2 (ninS nba nin0)
  replace G := G.aloadN 52 d3_51 rfl rfl rfl |>.aload 54 d3_52 rfl rfl rfl
  obtain ⟨h3, G', Wv2', Fv2', Kv2'⟩ := G.putf 57 (host := "") (Or.inl (hw _ (mm 24 rfl))) Via.refl Fv Xa (Or.inr ⟨(hw _ (mm 20 rfl)), rfl, hnm⟩) (hw _ (mm 5 rfl)) (ty := (.array .byte)) (by decide) rfl rfl (Or.inl (mm 0 rfl)) (mm 1 rfl) d3_54 rfl
  replace G := G'; clear G'
  replace Fc2 := Fc2.other Wv2' (Or.inr (slot_ne (Or.inr (hw _ (mm 21 rfl))) (Or.inr (hw _ (mm 20 rfl))) (by decide) (t := .byte) (t' := (.array .byte)) (by decide) (by decide)))
  replace Xa := Xa.wr Wv2'; replace Ab := Ab.keep Kv2' (ninS nba nin0)
  have Ab2 : Arv Z h3 b kb .byte (Int32.ofNat (cs.map bytV).length) (cs.map bytV) (.int 0) := by rw [List.length_map]; exact Ab
  exact G.retV hret hlk d3_57 [b] (allS (mm 0 rfl) all0) ⟨rfl, b, ⟨Xa, Fc2, Fv2', kb, Ab2⟩, sb, rfl⟩ (nle rfl) (nle rfl)
theorem d2_0 : decode jdk_42_method_3_code 0 = .ok (.aload_n 0, 1) := by decide +kernel
theorem d2_1 : decode jdk_42_method_3_code 1 = .ok (.aload_n 1, 1) := by decide +kernel
theorem d2_2 : decode jdk_42_method_3_code 2 = .ok (.iconst 0, 1) := by decide +kernel
theorem d2_3 : decode jdk_42_method_3_code 3 = .ok (.aload_n 1, 1) := by decide +kernel
theorem d2_4 : decode jdk_42_method_3_code 4 = .ok (.arraylength, 1) := by decide +kernel
theorem d2_5 : decode jdk_42_method_3_code 5 = .ok (.aconst_null, 1) := by decide +kernel
theorem d2_6 : decode jdk_42_method_3_code 6 = .ok (.invokespecial 27, 3) := by decide +kernel
theorem d2_9 : decode jdk_42_method_3_code 9 = .ok (.return_, 1) := by decide +kernel
theorem c_strC (l : Launch) (Z : State) (a0 : Array Value) (hw : ∀ d ∈ tables_1, d.before a0 Z = true) (hEW : EW Z a0 consts_1) (n0 : Nat) (c1 : Int32) (hc1 : ¬ c1 = 0) (S1 : Sta Z Z.heap "java/lang/String" "COMPACT_STRINGS" "Z" (.int c1)) (v2 : Value) (hv2 : v2.isRef = true) (S2 : Sta Z Z.heap "jdk/internal/util/Preconditions" "SIOOBE_FORMATTER" "Ljava/util/function/BiFunction;" v2) (a va : Addr) (kv : ClassId) (cs : List Int32) {h0 : Heap} (o1 : Old Z n0 h0) (ge_a : n0 ≤ a) (Xa : Exa Z h0 a "java/lang/String") (Fv : Fld Z h0 a "java/lang/String" "value" "[B" .null) (Fc : Fld Z h0 a "java/lang/String" "coder" "B" (.int 0)) (hne : 0 < cs.length) (hmax : cs.length ≤ 2) (hc : ∀ x ∈ cs, ¬ (255 : Int32) < x) (Av : Arv Z h0 va kv .char (Int32.ofNat cs.length) (cs.map Value.int) (.int 0)) :
    Con Z a0 l (⟨"java/lang/String", "<init>", "([C)V"⟩ : MethodName) jdk_42_method_3_code 2 (none) ({ frames := 3, cells := 1, slots := 2, locals := 52 } : Room) [] #[(.ref a), (.ref va)] consts_1 h0 n0 [a] [a] (V0 fun h so => ∃ b, Str Z h a b (cs.map bytV) ∧ h0.size ≤ b ∧ so = [b]) := by
  refine Con.body (plainFor_of_name pn_java_lang_String) hEW o1 (allS ge_a all0) #[.val (.ref a), .val (.ref va)] (fun m => by first | (simp [entryFrame, mkF, argsToLocals, Value.category]; done) | rfl) ?_
  intro p e s m below meth c B hnm hret hlk G
  replace G := G.aloadN 1 d2_0 rfl rfl rfl |>.aloadN 2 d2_1 rfl rfl rfl |>.iconst 3 (0 : Int32) d2_2 rfl rfl |>.aloadN 4 d2_3 rfl rfl rfl |>.alen 5 Av d2_4 rfl |>.aconstNull 6 d2_5 rfl
  obtain ⟨vc, h1, soc, G', Kc, Qc⟩ := G.callI 9 rfl rfl (hw _ (mm 11 rfl)) (hw _ (mm 12 rfl)) (hw _ (mm 6 rfl)) (hw _ (mm 14 rfl)) (by decide) [(.ref va), (.int (0 : Int32)), (.int (Int32.ofNat cs.length)), .null] [] rfl (c_strCV l Z a0 hw hEW n0 c1 hc1 S1 v2 hv2 S2 a va kv cs G.old ge_a Xa Fv Fc hne hmax hc Av) (lenOf pd___CIILjava_lang_Void__V rfl) d2_6 rfl (nle rfl) (nle rfl) (nle rfl) (nle rfl) (allS (Or.inl (mm 0 rfl)) all0) (allS (mm 0 rfl) all0) (allS (mm 0 rfl) all0) rfl
  replace G := G'; clear G'
  obtain ⟨qc, b, hT, sb, rfl⟩ := Qc
  replace G := G.nov qc
  exact G.retV hret hlk d2_9 [b] (allS (mm 0 rfl) all0) ⟨rfl, b, hT, sb, rfl⟩ (nle rfl) (nle rfl)
theorem c_strEV (l : Launch) (Z : State) (a0 : Array Value) (hw : ∀ d ∈ tables_1, d.before a0 Z = true) (hEW : EW Z a0 consts_1) (n0 : Nat) (c1 : Int32) (hc1 : ¬ c1 = 0) (S1 : Sta Z Z.heap "java/lang/String" "COMPACT_STRINGS" "Z" (.int c1)) (v2 : Value) (hv2 : v2.isRef = true) (S2 : Sta Z Z.heap "jdk/internal/util/Preconditions" "SIOOBE_FORMATTER" "Ljava/util/function/BiFunction;" v2) (a va : Addr) (kv : ClassId) {h0 : Heap} (o1 : Old Z n0 h0) (ge_a : n0 ≤ a) (Xa : Exa Z h0 a "java/lang/String") (Fv : Fld Z h0 a "java/lang/String" "value" "[B" .null) (Fc : Fld Z h0 a "java/lang/String" "coder" "B" (.int 0)) (Av : Arv Z h0 va kv .char (0 : Int32) [] (.int 0)) :
    Con Z a0 l (⟨"java/lang/String", "<init>", "([CIILjava/lang/Void;)V"⟩ : MethodName) jdk_42_method_149_code 6 (none) ({ frames := 1, cells := 4, slots := 8, locals := 12 } : Room) [] #[(.ref a), (.ref va), (.int (0 : Int32)), (.int (0 : Int32)), .null] consts_1 h0 n0 [a] [a] (V0 fun h so => ∃ b, Str Z h a b [] ∧ b ≠ a ∧ so = []) := by
  refine Con.body (plainFor_of_name pn_java_lang_String) hEW o1 (allS ge_a all0) #[.val (.ref a), .val (.ref va), .val (.int (0 : Int32)), .val (.int (0 : Int32)), .val .null, .unset] (fun m => by first | (simp [entryFrame, mkF, argsToLocals, Value.category]; done) | rfl) ?_
  intro p e s m below meth c B hnm hret hlk G
  replace G := G.aloadN 1 d3_0 rfl rfl rfl |>.initO 4 (hw _ (mm 15 rfl)) (hw _ (mm 16 rfl)) (hw _ (mm 17 rfl)) d3_1 rfl (nle rfl) (nle rfl) rfl |>.iloadN 5 d3_4 rfl rfl |>.ifF 8 d3_5 (XT.i0_ne_f rfl) rfl |>.aloadN 9 d3_8 rfl rfl rfl
  obtain ⟨l1, l2, h1, kkx1, G', Ex1, Xx1, Fcx1, Fvx1, Ax1, nex1⟩ := G.ldcS 11 (hw _ (mm 18 rfl)) (wS_of hw) (mm 2 rfl) (vs := []) (z := (0 : Int32)) (by decide) (by decide) rfl d3_9 0 (by decide) (by decide) (nle rfl) (nle rfl) rfl
  replace G := G'; clear G'
  replace Xa := Xa.ext Ex1; replace Fv := Fv.ext Ex1; replace Fc := Fc.ext Ex1; have n1 := (nex1 a (mm 0 rfl)).2
  replace G := G.getf 14 (host := "") (Or.inl (hw _ (mm 24 rfl))) Via.refl Fvx1 d3_11 rfl
  obtain ⟨h2, G', Wv', Fv', Kv'⟩ := G.putf 17 (host := "") (Or.inl (hw _ (mm 24 rfl))) Via.refl Fv Xa (Or.inr ⟨(hw _ (mm 20 rfl)), rfl, hnm⟩) (hw _ (mm 5 rfl)) (ty := (.array .byte)) (by decide) rfl rfl (Or.inl (mm 0 rfl)) (mm 0 rfl) d3_14 rfl
  replace G := G'; clear G'
  replace Fc := Fc.other Wv' (Or.inr (slot_ne (Or.inr (hw _ (mm 21 rfl))) (Or.inr (hw _ (mm 20 rfl))) (by decide) (t := .byte) (t' := (.array .byte)) (by decide) (by decide))); replace Xa := Xa.wr Wv'; replace Ax1 := Ax1.keep Kv' (ninS n1.symm nin0)
  replace G := G.aloadN 18 d3_17 rfl rfl rfl
  obtain ⟨l3, l4, h3, kkx2, G', Ex2, Xx2, Fcx2, Fvx2, Ax2, nex2⟩ := G.ldcS 20 (hw _ (mm 18 rfl)) (wS_of hw) (mm 2 rfl) (vs := []) (z := (0 : Int32)) (by decide) (by decide) rfl d3_18 0 (by decide) (by decide) (nle rfl) (nle rfl) rfl
  replace G := G'; clear G'
  replace Xa := Xa.ext Ex2; replace Fv' := Fv'.ext Ex2; replace Fc := Fc.ext Ex2; replace Ax1 := Ax1.ext Ex2
  replace G := G.getf 23 (host := "") (Or.inl (hw _ (mm 25 rfl))) Via.refl Fcx2 d3_20 rfl
  obtain ⟨h4, G', Wc', Fc', Kc'⟩ := G.putf 26 (host := "") (Or.inl (hw _ (mm 25 rfl))) Via.refl Fc Xa (Or.inr ⟨(hw _ (mm 21 rfl)), rfl, hnm⟩) (hw _ (mm 5 rfl)) (ty := .byte) (by decide) rfl rfl (Or.inl (mm 0 rfl)) (mm 0 rfl) d3_23 rfl
  replace G := G'; clear G'
  replace Fv' := Fv'.other Wc' (Or.inr (slot_ne (Or.inr (hw _ (mm 20 rfl))) (Or.inr (hw _ (mm 21 rfl))) (by decide) (t := (.array .byte)) (t' := .byte) (by decide) (by decide))); replace Xa := Xa.wr Wc'; replace Ax1 := Ax1.keep Kc' (ninS n1.symm nin0)
  exact G.retV hret hlk d3_26 [] all0 ⟨rfl, l2, ⟨Xa, Fc', Fv', _, Ax1⟩, n1.symm, rfl⟩ (nle rfl) (nle rfl)
theorem c_strE (l : Launch) (Z : State) (a0 : Array Value) (hw : ∀ d ∈ tables_1, d.before a0 Z = true) (hEW : EW Z a0 consts_1) (n0 : Nat) (c1 : Int32) (hc1 : ¬ c1 = 0) (S1 : Sta Z Z.heap "java/lang/String" "COMPACT_STRINGS" "Z" (.int c1)) (v2 : Value) (hv2 : v2.isRef = true) (S2 : Sta Z Z.heap "jdk/internal/util/Preconditions" "SIOOBE_FORMATTER" "Ljava/util/function/BiFunction;" v2) (a va : Addr) (kv : ClassId) {h0 : Heap} (o1 : Old Z n0 h0) (ge_a : n0 ≤ a) (Xa : Exa Z h0 a "java/lang/String") (Fv : Fld Z h0 a "java/lang/String" "value" "[B" .null) (Fc : Fld Z h0 a "java/lang/String" "coder" "B" (.int 0)) (Av : Arv Z h0 va kv .char (0 : Int32) [] (.int 0)) :
    Con Z a0 l (⟨"java/lang/String", "<init>", "([C)V"⟩ : MethodName) jdk_42_method_3_code 2 (none) ({ frames := 2, cells := 4, slots := 8, locals := 29 } : Room) [] #[(.ref a), (.ref va)] consts_1 h0 n0 [a] [a] (V0 fun h so => ∃ b, Str Z h a b [] ∧ b ≠ a ∧ so = []) := by
  refine Con.body (plainFor_of_name pn_java_lang_String) hEW o1 (allS ge_a all0) #[.val (.ref a), .val (.ref va)] (fun m => by first | (simp [entryFrame, mkF, argsToLocals, Value.category]; done) | rfl) ?_
  intro p e s m below meth c B hnm hret hlk G
  replace G := G.aloadN 1 d2_0 rfl rfl rfl |>.aloadN 2 d2_1 rfl rfl rfl |>.iconst 3 (0 : Int32) d2_2 rfl rfl |>.aloadN 4 d2_3 rfl rfl rfl |>.alen 5 Av d2_4 rfl |>.aconstNull 6 d2_5 rfl
  obtain ⟨vc, h1, soc, G', Kc, Qc⟩ := G.callI 9 rfl rfl (hw _ (mm 11 rfl)) (hw _ (mm 12 rfl)) (hw _ (mm 6 rfl)) (hw _ (mm 14 rfl)) (by decide) [(.ref va), (.int (0 : Int32)), (.int (0 : Int32)), .null] [] rfl (c_strEV l Z a0 hw hEW n0 c1 hc1 S1 v2 hv2 S2 a va kv G.old ge_a Xa Fv Fc Av) (lenOf pd___CIILjava_lang_Void__V rfl) d2_6 rfl (nle rfl) (nle rfl) (nle rfl) (nle rfl) (allS (Or.inl (mm 0 rfl)) all0) (allS (mm 0 rfl) all0) (allS (mm 0 rfl) all0) rfl
  replace G := G'; clear G'
  obtain ⟨qc, b, hT, nb, rfl⟩ := Qc
  replace G := G.nov qc
  exact G.retV hret hlk d2_9 [] all0 ⟨rfl, b, hT, nb, rfl⟩ (nle rfl) (nle rfl)
theorem d18_0 : decode jdk_35_method_15_code 0 = .ok (.iconst 1, 1) := by decide +kernel
theorem d18_1 : decode jdk_35_method_15_code 1 = .ok (.istore_n 2, 1) := by decide +kernel
theorem d18_2 : decode jdk_35_method_15_code 2 = .ok (.lload_n 0, 1) := by decide +kernel
theorem d18_3 : decode jdk_35_method_15_code 3 = .ok (.lconst 0, 1) := by decide +kernel
theorem d18_4 : decode jdk_35_method_15_code 4 = .ok (.lcmp, 1) := by decide +kernel
theorem d18_5 : decode jdk_35_method_15_code 5 = .ok (.ifCond .lt 8, 3) := by decide +kernel
theorem d18_8 : decode jdk_35_method_15_code 8 = .ok (.iconst 0, 1) := by decide +kernel
theorem d18_9 : decode jdk_35_method_15_code 9 = .ok (.istore_n 2, 1) := by decide +kernel
theorem d18_10 : decode jdk_35_method_15_code 10 = .ok (.lload_n 0, 1) := by decide +kernel
theorem d18_11 : decode jdk_35_method_15_code 11 = .ok (.lneg, 1) := by decide +kernel
theorem d18_12 : decode jdk_35_method_15_code 12 = .ok (.lstore_n 0, 1) := by decide +kernel
theorem d18_13 : decode jdk_35_method_15_code 13 = .ok (.ldc2_w 140, 3) := by decide +kernel
theorem d18_16 : decode jdk_35_method_15_code 16 = .ok (.lstore_n 3, 1) := by decide +kernel
theorem d18_17 : decode jdk_35_method_15_code 17 = .ok (.iconst 1, 1) := by decide +kernel
theorem d18_18 : decode jdk_35_method_15_code 18 = .ok (.istore 5, 2) := by decide +kernel
theorem d18_20 : decode jdk_35_method_15_code 20 = .ok (.iload 5, 2) := by decide +kernel
theorem d18_22 : decode jdk_35_method_15_code 22 = .ok (.bipush 19, 2) := by decide +kernel
theorem d18_24 : decode jdk_35_method_15_code 24 = .ok (.if_icmp .ge 26, 3) := by decide +kernel
theorem d18_27 : decode jdk_35_method_15_code 27 = .ok (.lload_n 0, 1) := by decide +kernel
theorem d18_28 : decode jdk_35_method_15_code 28 = .ok (.lload_n 3, 1) := by decide +kernel
theorem d18_29 : decode jdk_35_method_15_code 29 = .ok (.lcmp, 1) := by decide +kernel
theorem d18_30 : decode jdk_35_method_15_code 30 = .ok (.ifCond .le 8, 3) := by decide +kernel
theorem d18_33 : decode jdk_35_method_15_code 33 = .ok (.iload 5, 2) := by decide +kernel
theorem d18_35 : decode jdk_35_method_15_code 35 = .ok (.iload_n 2, 1) := by decide +kernel
theorem d18_36 : decode jdk_35_method_15_code 36 = .ok (.iadd, 1) := by decide +kernel
theorem d18_37 : decode jdk_35_method_15_code 37 = .ok (.ireturn, 1) := by decide +kernel
theorem d18_38 : decode jdk_35_method_15_code 38 = .ok (.ldc2_w 53, 3) := by decide +kernel
theorem d18_41 : decode jdk_35_method_15_code 41 = .ok (.lload_n 3, 1) := by decide +kernel
theorem d18_42 : decode jdk_35_method_15_code 42 = .ok (.lmul, 1) := by decide +kernel
theorem d18_43 : decode jdk_35_method_15_code 43 = .ok (.lstore_n 3, 1) := by decide +kernel
theorem d18_44 : decode jdk_35_method_15_code 44 = .ok (.iinc 5 1, 3) := by decide +kernel
theorem d18_47 : decode jdk_35_method_15_code 47 = .ok (.goto (-27), 3) := by decide +kernel
theorem d18_50 : decode jdk_35_method_15_code 50 = .ok (.bipush 19, 2) := by decide +kernel
theorem d18_52 : decode jdk_35_method_15_code 52 = .ok (.iload_n 2, 1) := by decide +kernel
theorem d18_53 : decode jdk_35_method_15_code 53 = .ok (.iadd, 1) := by decide +kernel
theorem d18_54 : decode jdk_35_method_15_code 54 = .ok (.ireturn, 1) := by decide +kernel
theorem c_szL0 (l : Launch) (Z : State) (a0 : Array Value) (hw : ∀ d ∈ tables_1, d.before a0 Z = true) (hEW : EW Z a0 consts_1) (n0 : Nat) (c1 : Int32) (hc1 : ¬ c1 = 0) (S1 : Sta Z Z.heap "java/lang/String" "COMPACT_STRINGS" "Z" (.int c1)) (v2 : Value) (hv2 : v2.isRef = true) (S2 : Sta Z Z.heap "jdk/internal/util/Preconditions" "SIOOBE_FORMATTER" "Ljava/util/function/BiFunction;" v2) (t1 t2 : Addr) (kt1 kt2 : ClassId) (SD1 : Sta Z Z.heap "java/lang/Integer" "DigitOnes" "[B" (.ref t1)) (SD2 : Sta Z Z.heap "java/lang/Integer" "DigitTens" "[B" (.ref t2)) (AD1 : Arv Z Z.heap t1 kt1 .byte 100 dOnes (.int 0)) (AD2 : Arv Z Z.heap t2 kt2 .byte 100 dTens (.int 0)) (x : Int64) (M : Nat) {h0 : Heap} (o1 : Old Z n0 h0) (hM : M ≤ 9223372036854775808) (hx : x.toInt = (M : Int)) :
    Con Z a0 l (⟨"java/lang/Long", "stringSize", "(J)I"⟩ : MethodName) jdk_35_method_15_code 6 (some .int) ({ frames := 0, cells := 0, slots := 0, locals := 0 } : Room) [] #[(.long x)] consts_1 h0 n0 [] [] (VV fun w h so => w = .int (Int32.ofNat (ndL M + 0)) ∧ h = h0 ∧ so = []) := by
  refine Con.body (plainFor_of_name pn_java_lang_Long) hEW o1 all0 #[.val (.long x), .second, .unset, .unset, .unset, .unset] (fun m => by first | (simp [entryFrame, mkF, argsToLocals, Value.category]; done) | rfl) ?_
  intro p e s m below meth c B hnm hret hlk G
  replace G := G.iconst 1 (1 : Int32) d18_0 rfl rfl |>.istoreN 2 #[.val (.long x), .second, .val (.int (1 : Int32)), .unset, .unset, .unset] d18_1 rfl rfl |>.lloadN 3 d18_2 rfl rfl |>.lconst0 4 d18_3 rfl |>.lcmp 5 d18_4 rfl |>.ifF 8 d18_5 (XT.ll_lt_f (by rw [Int64.lt_iff_toInt_lt, hx]; show ¬ (M : Int) < 0; omega)) rfl |>.iconst 9 (0 : Int32) d18_8 rfl rfl |>.istoreN 10 #[.val (.long x), .second, .val (.int (0 : Int32)), .unset, .unset, .unset] d18_9 rfl rfl
  replace G := G.lloadN 11 d18_10 rfl rfl |>.lneg 12 d18_11 rfl
  obtain ⟨xn, exn, G'⟩ := G.nameJ
  replace G := G'; clear G'
  have hy : xn.toInt = -(M : Int) := by rw [exn]; exact l_neg hx
  replace G := G.lstoreN 13 #[.val (.long xn), .second, .val (.int (0 : Int32)), .unset, .unset, .unset] d18_12 rfl rfl |>.ldc2J 16 (hw _ (mm 131 rfl)) d18_13 rfl |>.lstoreN 17 #[.val (.long xn), .second, .val (.int (0 : Int32)), .val (.long (-10 : Int64)), .second, .unset] d18_16 rfl rfl |>.iconst 18 (1 : Int32) d18_17 rfl rfl |>.istore 20 #[.val (.long xn), .second, .val (.int (0 : Int32)), .val (.long (-10 : Int64)), .second, .val (.int (1 : Int32))] d18_18 rfl rfl |>.iload 22 d18_20 rfl rfl |>.bipush 24 (19 : Int32) d18_22 (by decide) rfl |>.icmpF 27 d18_24 (XT.ii_ge_f (by decide)) rfl
  replace G := G.lloadN 28 d18_27 rfl rfl |>.lloadN 29 d18_28 rfl rfl |>.lcmp 30 d18_29 rfl
  rcases Nat.lt_or_ge M 10 with hq | hq
  · skip
    replace G := G.ifF 33 d18_30 (XT.ll_le_f (l_gt (K := -10) hy rfl (by omega))) rfl |>.iload 35 d18_33 rfl rfl |>.iloadN 36 d18_35 rfl rfl |>.iadd 37 d18_36 rfl |>.top (y := (.int (Int32.ofNat (ndL M + 0)))) (congrArg Value.int (by rw [ndL_lt hq]; rfl))
    exact G.retI hret hlk d18_37 [] all0 ⟨_, rfl, rfl, rfl, rfl⟩ (nle rfl) (nle rfl)
  · skip
    replace G := G.ifT 38 d18_30 (XT.ll_le_t (l_ngt (K := -10) hy rfl (by omega))) (by decide) (by decide)
    have hg1 := hq
    replace G := G.ldc2J 41 (hw _ (mm 272 rfl)) d18_38 rfl |>.lloadN 42 d18_41 rfl rfl |>.lmul 43 d18_42 rfl |>.top (y := (.long (-100 : Int64))) (congrArg Value.long (by decide)) |>.lstoreN 44 #[.val (.long xn), .second, .val (.int (0 : Int32)), .val (.long (-100 : Int64)), .second, .val (.int (1 : Int32))] d18_43 rfl rfl |>.iincV 47 #[.val (.long xn), .second, .val (.int (0 : Int32)), .val (.long (-100 : Int64)), .second, .val (.int (2 : Int32))] (2 : Int32) d18_44 rfl (by decide) rfl rfl |>.goto 20 d18_47 (by decide) (by decide) |>.iload 22 d18_20 rfl rfl
    replace G := G.bipush 24 (19 : Int32) d18_22 (by decide) rfl |>.icmpF 27 d18_24 (XT.ii_ge_f (by decide)) rfl |>.lloadN 28 d18_27 rfl rfl |>.lloadN 29 d18_28 rfl rfl |>.lcmp 30 d18_29 rfl
    rcases Nat.lt_or_ge M 100 with hq | hq
    · skip
      replace G := G.ifF 33 d18_30 (XT.ll_le_f (l_gt (K := -100) hy rfl (by omega))) rfl |>.iload 35 d18_33 rfl rfl |>.iloadN 36 d18_35 rfl rfl |>.iadd 37 d18_36 rfl |>.top (y := (.int (Int32.ofNat (ndL M + 0)))) (congrArg Value.int (by rw [ndL_of 1 (lo := 10) (hi := 100) (by decide) (by decide) hg1 hq]; rfl))
      exact G.retI hret hlk d18_37 [] all0 ⟨_, rfl, rfl, rfl, rfl⟩ (nle rfl) (nle rfl)
    · skip
      replace G := G.ifT 38 d18_30 (XT.ll_le_t (l_ngt (K := -100) hy rfl (by omega))) (by decide) (by decide)
      have hg2 := hq
      replace G := G.ldc2J 41 (hw _ (mm 272 rfl)) d18_38 rfl |>.lloadN 42 d18_41 rfl rfl |>.lmul 43 d18_42 rfl |>.top (y := (.long (-1000 : Int64))) (congrArg Value.long (by decide)) |>.lstoreN 44 #[.val (.long xn), .second, .val (.int (0 : Int32)), .val (.long (-1000 : Int64)), .second, .val (.int (2 : Int32))] d18_43 rfl rfl |>.iincV 47 #[.val (.long xn), .second, .val (.int (0 : Int32)), .val (.long (-1000 : Int64)), .second, .val (.int (3 : Int32))] (3 : Int32) d18_44 rfl (by decide) rfl rfl |>.goto 20 d18_47 (by decide) (by decide) |>.iload 22 d18_20 rfl rfl
      replace G := G.bipush 24 (19 : Int32) d18_22 (by decide) rfl |>.icmpF 27 d18_24 (XT.ii_ge_f (by decide)) rfl |>.lloadN 28 d18_27 rfl rfl |>.lloadN 29 d18_28 rfl rfl |>.lcmp 30 d18_29 rfl
      rcases Nat.lt_or_ge M 1000 with hq | hq
      · skip
        replace G := G.ifF 33 d18_30 (XT.ll_le_f (l_gt (K := -1000) hy rfl (by omega))) rfl |>.iload 35 d18_33 rfl rfl |>.iloadN 36 d18_35 rfl rfl |>.iadd 37 d18_36 rfl |>.top (y := (.int (Int32.ofNat (ndL M + 0)))) (congrArg Value.int (by rw [ndL_of 2 (lo := 100) (hi := 1000) (by decide) (by decide) hg2 hq]; rfl))
        exact G.retI hret hlk d18_37 [] all0 ⟨_, rfl, rfl, rfl, rfl⟩ (nle rfl) (nle rfl)
      · skip
        replace G := G.ifT 38 d18_30 (XT.ll_le_t (l_ngt (K := -1000) hy rfl (by omega))) (by decide) (by decide)
        have hg3 := hq
        replace G := G.ldc2J 41 (hw _ (mm 272 rfl)) d18_38 rfl |>.lloadN 42 d18_41 rfl rfl |>.lmul 43 d18_42 rfl |>.top (y := (.long (-10000 : Int64))) (congrArg Value.long (by decide)) |>.lstoreN 44 #[.val (.long xn), .second, .val (.int (0 : Int32)), .val (.long (-10000 : Int64)), .second, .val (.int (3 : Int32))] d18_43 rfl rfl |>.iincV 47 #[.val (.long xn), .second, .val (.int (0 : Int32)), .val (.long (-10000 : Int64)), .second, .val (.int (4 : Int32))] (4 : Int32) d18_44 rfl (by decide) rfl rfl |>.goto 20 d18_47 (by decide) (by decide) |>.iload 22 d18_20 rfl rfl
        replace G := G.bipush 24 (19 : Int32) d18_22 (by decide) rfl |>.icmpF 27 d18_24 (XT.ii_ge_f (by decide)) rfl |>.lloadN 28 d18_27 rfl rfl |>.lloadN 29 d18_28 rfl rfl |>.lcmp 30 d18_29 rfl
        rcases Nat.lt_or_ge M 10000 with hq | hq
        · skip
          replace G := G.ifF 33 d18_30 (XT.ll_le_f (l_gt (K := -10000) hy rfl (by omega))) rfl |>.iload 35 d18_33 rfl rfl |>.iloadN 36 d18_35 rfl rfl |>.iadd 37 d18_36 rfl |>.top (y := (.int (Int32.ofNat (ndL M + 0)))) (congrArg Value.int (by rw [ndL_of 3 (lo := 1000) (hi := 10000) (by decide) (by decide) hg3 hq]; rfl))
          exact G.retI hret hlk d18_37 [] all0 ⟨_, rfl, rfl, rfl, rfl⟩ (nle rfl) (nle rfl)
        · skip
          replace G := G.ifT 38 d18_30 (XT.ll_le_t (l_ngt (K := -10000) hy rfl (by omega))) (by decide) (by decide)
          have hg4 := hq
          replace G := G.ldc2J 41 (hw _ (mm 272 rfl)) d18_38 rfl |>.lloadN 42 d18_41 rfl rfl |>.lmul 43 d18_42 rfl |>.top (y := (.long (-100000 : Int64))) (congrArg Value.long (by decide)) |>.lstoreN 44 #[.val (.long xn), .second, .val (.int (0 : Int32)), .val (.long (-100000 : Int64)), .second, .val (.int (4 : Int32))] d18_43 rfl rfl |>.iincV 47 #[.val (.long xn), .second, .val (.int (0 : Int32)), .val (.long (-100000 : Int64)), .second, .val (.int (5 : Int32))] (5 : Int32) d18_44 rfl (by decide) rfl rfl |>.goto 20 d18_47 (by decide) (by decide) |>.iload 22 d18_20 rfl rfl
          replace G := G.bipush 24 (19 : Int32) d18_22 (by decide) rfl |>.icmpF 27 d18_24 (XT.ii_ge_f (by decide)) rfl |>.lloadN 28 d18_27 rfl rfl |>.lloadN 29 d18_28 rfl rfl |>.lcmp 30 d18_29 rfl
          rcases Nat.lt_or_ge M 100000 with hq | hq
          · skip
            replace G := G.ifF 33 d18_30 (XT.ll_le_f (l_gt (K := -100000) hy rfl (by omega))) rfl |>.iload 35 d18_33 rfl rfl |>.iloadN 36 d18_35 rfl rfl |>.iadd 37 d18_36 rfl |>.top (y := (.int (Int32.ofNat (ndL M + 0)))) (congrArg Value.int (by rw [ndL_of 4 (lo := 10000) (hi := 100000) (by decide) (by decide) hg4 hq]; rfl))
            exact G.retI hret hlk d18_37 [] all0 ⟨_, rfl, rfl, rfl, rfl⟩ (nle rfl) (nle rfl)
          · skip
            replace G := G.ifT 38 d18_30 (XT.ll_le_t (l_ngt (K := -100000) hy rfl (by omega))) (by decide) (by decide)
            have hg5 := hq
            replace G := G.ldc2J 41 (hw _ (mm 272 rfl)) d18_38 rfl |>.lloadN 42 d18_41 rfl rfl |>.lmul 43 d18_42 rfl |>.top (y := (.long (-1000000 : Int64))) (congrArg Value.long (by decide)) |>.lstoreN 44 #[.val (.long xn), .second, .val (.int (0 : Int32)), .val (.long (-1000000 : Int64)), .second, .val (.int (5 : Int32))] d18_43 rfl rfl |>.iincV 47 #[.val (.long xn), .second, .val (.int (0 : Int32)), .val (.long (-1000000 : Int64)), .second, .val (.int (6 : Int32))] (6 : Int32) d18_44 rfl (by decide) rfl rfl |>.goto 20 d18_47 (by decide) (by decide) |>.iload 22 d18_20 rfl rfl
            replace G := G.bipush 24 (19 : Int32) d18_22 (by decide) rfl |>.icmpF 27 d18_24 (XT.ii_ge_f (by decide)) rfl |>.lloadN 28 d18_27 rfl rfl |>.lloadN 29 d18_28 rfl rfl |>.lcmp 30 d18_29 rfl
            rcases Nat.lt_or_ge M 1000000 with hq | hq
            · skip
              replace G := G.ifF 33 d18_30 (XT.ll_le_f (l_gt (K := -1000000) hy rfl (by omega))) rfl |>.iload 35 d18_33 rfl rfl |>.iloadN 36 d18_35 rfl rfl |>.iadd 37 d18_36 rfl |>.top (y := (.int (Int32.ofNat (ndL M + 0)))) (congrArg Value.int (by rw [ndL_of 5 (lo := 100000) (hi := 1000000) (by decide) (by decide) hg5 hq]; rfl))
              exact G.retI hret hlk d18_37 [] all0 ⟨_, rfl, rfl, rfl, rfl⟩ (nle rfl) (nle rfl)
            · skip
              replace G := G.ifT 38 d18_30 (XT.ll_le_t (l_ngt (K := -1000000) hy rfl (by omega))) (by decide) (by decide)
              have hg6 := hq
              replace G := G.ldc2J 41 (hw _ (mm 272 rfl)) d18_38 rfl |>.lloadN 42 d18_41 rfl rfl |>.lmul 43 d18_42 rfl |>.top (y := (.long (-10000000 : Int64))) (congrArg Value.long (by decide)) |>.lstoreN 44 #[.val (.long xn), .second, .val (.int (0 : Int32)), .val (.long (-10000000 : Int64)), .second, .val (.int (6 : Int32))] d18_43 rfl rfl |>.iincV 47 #[.val (.long xn), .second, .val (.int (0 : Int32)), .val (.long (-10000000 : Int64)), .second, .val (.int (7 : Int32))] (7 : Int32) d18_44 rfl (by decide) rfl rfl |>.goto 20 d18_47 (by decide) (by decide) |>.iload 22 d18_20 rfl rfl
              replace G := G.bipush 24 (19 : Int32) d18_22 (by decide) rfl |>.icmpF 27 d18_24 (XT.ii_ge_f (by decide)) rfl |>.lloadN 28 d18_27 rfl rfl |>.lloadN 29 d18_28 rfl rfl |>.lcmp 30 d18_29 rfl
              rcases Nat.lt_or_ge M 10000000 with hq | hq
              · skip
                replace G := G.ifF 33 d18_30 (XT.ll_le_f (l_gt (K := -10000000) hy rfl (by omega))) rfl |>.iload 35 d18_33 rfl rfl |>.iloadN 36 d18_35 rfl rfl |>.iadd 37 d18_36 rfl |>.top (y := (.int (Int32.ofNat (ndL M + 0)))) (congrArg Value.int (by rw [ndL_of 6 (lo := 1000000) (hi := 10000000) (by decide) (by decide) hg6 hq]; rfl))
                exact G.retI hret hlk d18_37 [] all0 ⟨_, rfl, rfl, rfl, rfl⟩ (nle rfl) (nle rfl)
              · skip
                replace G := G.ifT 38 d18_30 (XT.ll_le_t (l_ngt (K := -10000000) hy rfl (by omega))) (by decide) (by decide)
                have hg7 := hq
                replace G := G.ldc2J 41 (hw _ (mm 272 rfl)) d18_38 rfl |>.lloadN 42 d18_41 rfl rfl |>.lmul 43 d18_42 rfl |>.top (y := (.long (-100000000 : Int64))) (congrArg Value.long (by decide)) |>.lstoreN 44 #[.val (.long xn), .second, .val (.int (0 : Int32)), .val (.long (-100000000 : Int64)), .second, .val (.int (7 : Int32))] d18_43 rfl rfl |>.iincV 47 #[.val (.long xn), .second, .val (.int (0 : Int32)), .val (.long (-100000000 : Int64)), .second, .val (.int (8 : Int32))] (8 : Int32) d18_44 rfl (by decide) rfl rfl |>.goto 20 d18_47 (by decide) (by decide) |>.iload 22 d18_20 rfl rfl
                replace G := G.bipush 24 (19 : Int32) d18_22 (by decide) rfl |>.icmpF 27 d18_24 (XT.ii_ge_f (by decide)) rfl |>.lloadN 28 d18_27 rfl rfl |>.lloadN 29 d18_28 rfl rfl |>.lcmp 30 d18_29 rfl
                rcases Nat.lt_or_ge M 100000000 with hq | hq
                · skip
                  replace G := G.ifF 33 d18_30 (XT.ll_le_f (l_gt (K := -100000000) hy rfl (by omega))) rfl |>.iload 35 d18_33 rfl rfl |>.iloadN 36 d18_35 rfl rfl |>.iadd 37 d18_36 rfl |>.top (y := (.int (Int32.ofNat (ndL M + 0)))) (congrArg Value.int (by rw [ndL_of 7 (lo := 10000000) (hi := 100000000) (by decide) (by decide) hg7 hq]; rfl))
                  exact G.retI hret hlk d18_37 [] all0 ⟨_, rfl, rfl, rfl, rfl⟩ (nle rfl) (nle rfl)
                · skip
                  replace G := G.ifT 38 d18_30 (XT.ll_le_t (l_ngt (K := -100000000) hy rfl (by omega))) (by decide) (by decide)
                  have hg8 := hq
                  replace G := G.ldc2J 41 (hw _ (mm 272 rfl)) d18_38 rfl |>.lloadN 42 d18_41 rfl rfl |>.lmul 43 d18_42 rfl |>.top (y := (.long (-1000000000 : Int64))) (congrArg Value.long (by decide)) |>.lstoreN 44 #[.val (.long xn), .second, .val (.int (0 : Int32)), .val (.long (-1000000000 : Int64)), .second, .val (.int (8 : Int32))] d18_43 rfl rfl |>.iincV 47 #[.val (.long xn), .second, .val (.int (0 : Int32)), .val (.long (-1000000000 : Int64)), .second, .val (.int (9 : Int32))] (9 : Int32) d18_44 rfl (by decide) rfl rfl |>.goto 20 d18_47 (by decide) (by decide) |>.iload 22 d18_20 rfl rfl
                  replace G := G.bipush 24 (19 : Int32) d18_22 (by decide) rfl |>.icmpF 27 d18_24 (XT.ii_ge_f (by decide)) rfl |>.lloadN 28 d18_27 rfl rfl |>.lloadN 29 d18_28 rfl rfl |>.lcmp 30 d18_29 rfl
                  rcases Nat.lt_or_ge M 1000000000 with hq | hq
                  · skip
                    replace G := G.ifF 33 d18_30 (XT.ll_le_f (l_gt (K := -1000000000) hy rfl (by omega))) rfl |>.iload 35 d18_33 rfl rfl |>.iloadN 36 d18_35 rfl rfl |>.iadd 37 d18_36 rfl |>.top (y := (.int (Int32.ofNat (ndL M + 0)))) (congrArg Value.int (by rw [ndL_of 8 (lo := 100000000) (hi := 1000000000) (by decide) (by decide) hg8 hq]; rfl))
                    exact G.retI hret hlk d18_37 [] all0 ⟨_, rfl, rfl, rfl, rfl⟩ (nle rfl) (nle rfl)
                  · skip
                    replace G := G.ifT 38 d18_30 (XT.ll_le_t (l_ngt (K := -1000000000) hy rfl (by omega))) (by decide) (by decide)
                    have hg9 := hq
                    replace G := G.ldc2J 41 (hw _ (mm 272 rfl)) d18_38 rfl |>.lloadN 42 d18_41 rfl rfl |>.lmul 43 d18_42 rfl |>.top (y := (.long (-10000000000 : Int64))) (congrArg Value.long (by decide)) |>.lstoreN 44 #[.val (.long xn), .second, .val (.int (0 : Int32)), .val (.long (-10000000000 : Int64)), .second, .val (.int (9 : Int32))] d18_43 rfl rfl |>.iincV 47 #[.val (.long xn), .second, .val (.int (0 : Int32)), .val (.long (-10000000000 : Int64)), .second, .val (.int (10 : Int32))] (10 : Int32) d18_44 rfl (by decide) rfl rfl |>.goto 20 d18_47 (by decide) (by decide) |>.iload 22 d18_20 rfl rfl
                    replace G := G.bipush 24 (19 : Int32) d18_22 (by decide) rfl |>.icmpF 27 d18_24 (XT.ii_ge_f (by decide)) rfl |>.lloadN 28 d18_27 rfl rfl |>.lloadN 29 d18_28 rfl rfl |>.lcmp 30 d18_29 rfl
                    rcases Nat.lt_or_ge M 10000000000 with hq | hq
                    · skip
                      replace G := G.ifF 33 d18_30 (XT.ll_le_f (l_gt (K := -10000000000) hy rfl (by omega))) rfl |>.iload 35 d18_33 rfl rfl |>.iloadN 36 d18_35 rfl rfl |>.iadd 37 d18_36 rfl |>.top (y := (.int (Int32.ofNat (ndL M + 0)))) (congrArg Value.int (by rw [ndL_of 9 (lo := 1000000000) (hi := 10000000000) (by decide) (by decide) hg9 hq]; rfl))
                      exact G.retI hret hlk d18_37 [] all0 ⟨_, rfl, rfl, rfl, rfl⟩ (nle rfl) (nle rfl)
                    · skip
                      replace G := G.ifT 38 d18_30 (XT.ll_le_t (l_ngt (K := -10000000000) hy rfl (by omega))) (by decide) (by decide)
                      have hg10 := hq
                      replace G := G.ldc2J 41 (hw _ (mm 272 rfl)) d18_38 rfl |>.lloadN 42 d18_41 rfl rfl |>.lmul 43 d18_42 rfl |>.top (y := (.long (-100000000000 : Int64))) (congrArg Value.long (by decide)) |>.lstoreN 44 #[.val (.long xn), .second, .val (.int (0 : Int32)), .val (.long (-100000000000 : Int64)), .second, .val (.int (10 : Int32))] d18_43 rfl rfl |>.iincV 47 #[.val (.long xn), .second, .val (.int (0 : Int32)), .val (.long (-100000000000 : Int64)), .second, .val (.int (11 : Int32))] (11 : Int32) d18_44 rfl (by decide) rfl rfl |>.goto 20 d18_47 (by decide) (by decide) |>.iload 22 d18_20 rfl rfl
                      replace G := G.bipush 24 (19 : Int32) d18_22 (by decide) rfl |>.icmpF 27 d18_24 (XT.ii_ge_f (by decide)) rfl |>.lloadN 28 d18_27 rfl rfl |>.lloadN 29 d18_28 rfl rfl |>.lcmp 30 d18_29 rfl
                      rcases Nat.lt_or_ge M 100000000000 with hq | hq
                      · skip
                        replace G := G.ifF 33 d18_30 (XT.ll_le_f (l_gt (K := -100000000000) hy rfl (by omega))) rfl |>.iload 35 d18_33 rfl rfl |>.iloadN 36 d18_35 rfl rfl |>.iadd 37 d18_36 rfl |>.top (y := (.int (Int32.ofNat (ndL M + 0)))) (congrArg Value.int (by rw [ndL_of 10 (lo := 10000000000) (hi := 100000000000) (by decide) (by decide) hg10 hq]; rfl))
                        exact G.retI hret hlk d18_37 [] all0 ⟨_, rfl, rfl, rfl, rfl⟩ (nle rfl) (nle rfl)
                      · skip
                        replace G := G.ifT 38 d18_30 (XT.ll_le_t (l_ngt (K := -100000000000) hy rfl (by omega))) (by decide) (by decide)
                        have hg11 := hq
                        replace G := G.ldc2J 41 (hw _ (mm 272 rfl)) d18_38 rfl |>.lloadN 42 d18_41 rfl rfl |>.lmul 43 d18_42 rfl |>.top (y := (.long (-1000000000000 : Int64))) (congrArg Value.long (by decide)) |>.lstoreN 44 #[.val (.long xn), .second, .val (.int (0 : Int32)), .val (.long (-1000000000000 : Int64)), .second, .val (.int (11 : Int32))] d18_43 rfl rfl |>.iincV 47 #[.val (.long xn), .second, .val (.int (0 : Int32)), .val (.long (-1000000000000 : Int64)), .second, .val (.int (12 : Int32))] (12 : Int32) d18_44 rfl (by decide) rfl rfl |>.goto 20 d18_47 (by decide) (by decide) |>.iload 22 d18_20 rfl rfl
                        replace G := G.bipush 24 (19 : Int32) d18_22 (by decide) rfl |>.icmpF 27 d18_24 (XT.ii_ge_f (by decide)) rfl |>.lloadN 28 d18_27 rfl rfl |>.lloadN 29 d18_28 rfl rfl |>.lcmp 30 d18_29 rfl
                        rcases Nat.lt_or_ge M 1000000000000 with hq | hq
                        · skip
                          replace G := G.ifF 33 d18_30 (XT.ll_le_f (l_gt (K := -1000000000000) hy rfl (by omega))) rfl |>.iload 35 d18_33 rfl rfl |>.iloadN 36 d18_35 rfl rfl |>.iadd 37 d18_36 rfl |>.top (y := (.int (Int32.ofNat (ndL M + 0)))) (congrArg Value.int (by rw [ndL_of 11 (lo := 100000000000) (hi := 1000000000000) (by decide) (by decide) hg11 hq]; rfl))
                          exact G.retI hret hlk d18_37 [] all0 ⟨_, rfl, rfl, rfl, rfl⟩ (nle rfl) (nle rfl)
                        · skip
                          replace G := G.ifT 38 d18_30 (XT.ll_le_t (l_ngt (K := -1000000000000) hy rfl (by omega))) (by decide) (by decide)
                          have hg12 := hq
                          replace G := G.ldc2J 41 (hw _ (mm 272 rfl)) d18_38 rfl |>.lloadN 42 d18_41 rfl rfl |>.lmul 43 d18_42 rfl |>.top (y := (.long (-10000000000000 : Int64))) (congrArg Value.long (by decide)) |>.lstoreN 44 #[.val (.long xn), .second, .val (.int (0 : Int32)), .val (.long (-10000000000000 : Int64)), .second, .val (.int (12 : Int32))] d18_43 rfl rfl |>.iincV 47 #[.val (.long xn), .second, .val (.int (0 : Int32)), .val (.long (-10000000000000 : Int64)), .second, .val (.int (13 : Int32))] (13 : Int32) d18_44 rfl (by decide) rfl rfl |>.goto 20 d18_47 (by decide) (by decide) |>.iload 22 d18_20 rfl rfl
                          replace G := G.bipush 24 (19 : Int32) d18_22 (by decide) rfl |>.icmpF 27 d18_24 (XT.ii_ge_f (by decide)) rfl |>.lloadN 28 d18_27 rfl rfl |>.lloadN 29 d18_28 rfl rfl |>.lcmp 30 d18_29 rfl
                          rcases Nat.lt_or_ge M 10000000000000 with hq | hq
                          · skip
                            replace G := G.ifF 33 d18_30 (XT.ll_le_f (l_gt (K := -10000000000000) hy rfl (by omega))) rfl |>.iload 35 d18_33 rfl rfl |>.iloadN 36 d18_35 rfl rfl |>.iadd 37 d18_36 rfl |>.top (y := (.int (Int32.ofNat (ndL M + 0)))) (congrArg Value.int (by rw [ndL_of 12 (lo := 1000000000000) (hi := 10000000000000) (by decide) (by decide) hg12 hq]; rfl))
                            exact G.retI hret hlk d18_37 [] all0 ⟨_, rfl, rfl, rfl, rfl⟩ (nle rfl) (nle rfl)
                          · skip
                            replace G := G.ifT 38 d18_30 (XT.ll_le_t (l_ngt (K := -10000000000000) hy rfl (by omega))) (by decide) (by decide)
                            have hg13 := hq
                            replace G := G.ldc2J 41 (hw _ (mm 272 rfl)) d18_38 rfl |>.lloadN 42 d18_41 rfl rfl |>.lmul 43 d18_42 rfl |>.top (y := (.long (-100000000000000 : Int64))) (congrArg Value.long (by decide)) |>.lstoreN 44 #[.val (.long xn), .second, .val (.int (0 : Int32)), .val (.long (-100000000000000 : Int64)), .second, .val (.int (13 : Int32))] d18_43 rfl rfl |>.iincV 47 #[.val (.long xn), .second, .val (.int (0 : Int32)), .val (.long (-100000000000000 : Int64)), .second, .val (.int (14 : Int32))] (14 : Int32) d18_44 rfl (by decide) rfl rfl |>.goto 20 d18_47 (by decide) (by decide) |>.iload 22 d18_20 rfl rfl
                            replace G := G.bipush 24 (19 : Int32) d18_22 (by decide) rfl |>.icmpF 27 d18_24 (XT.ii_ge_f (by decide)) rfl |>.lloadN 28 d18_27 rfl rfl |>.lloadN 29 d18_28 rfl rfl |>.lcmp 30 d18_29 rfl
                            rcases Nat.lt_or_ge M 100000000000000 with hq | hq
                            · skip
                              replace G := G.ifF 33 d18_30 (XT.ll_le_f (l_gt (K := -100000000000000) hy rfl (by omega))) rfl |>.iload 35 d18_33 rfl rfl |>.iloadN 36 d18_35 rfl rfl |>.iadd 37 d18_36 rfl |>.top (y := (.int (Int32.ofNat (ndL M + 0)))) (congrArg Value.int (by rw [ndL_of 13 (lo := 10000000000000) (hi := 100000000000000) (by decide) (by decide) hg13 hq]; rfl))
                              exact G.retI hret hlk d18_37 [] all0 ⟨_, rfl, rfl, rfl, rfl⟩ (nle rfl) (nle rfl)
                            · skip
                              replace G := G.ifT 38 d18_30 (XT.ll_le_t (l_ngt (K := -100000000000000) hy rfl (by omega))) (by decide) (by decide)
                              have hg14 := hq
                              replace G := G.ldc2J 41 (hw _ (mm 272 rfl)) d18_38 rfl |>.lloadN 42 d18_41 rfl rfl |>.lmul 43 d18_42 rfl |>.top (y := (.long (-1000000000000000 : Int64))) (congrArg Value.long (by decide)) |>.lstoreN 44 #[.val (.long xn), .second, .val (.int (0 : Int32)), .val (.long (-1000000000000000 : Int64)), .second, .val (.int (14 : Int32))] d18_43 rfl rfl |>.iincV 47 #[.val (.long xn), .second, .val (.int (0 : Int32)), .val (.long (-1000000000000000 : Int64)), .second, .val (.int (15 : Int32))] (15 : Int32) d18_44 rfl (by decide) rfl rfl |>.goto 20 d18_47 (by decide) (by decide) |>.iload 22 d18_20 rfl rfl
                              replace G := G.bipush 24 (19 : Int32) d18_22 (by decide) rfl |>.icmpF 27 d18_24 (XT.ii_ge_f (by decide)) rfl |>.lloadN 28 d18_27 rfl rfl |>.lloadN 29 d18_28 rfl rfl |>.lcmp 30 d18_29 rfl
                              rcases Nat.lt_or_ge M 1000000000000000 with hq | hq
                              · skip
                                replace G := G.ifF 33 d18_30 (XT.ll_le_f (l_gt (K := -1000000000000000) hy rfl (by omega))) rfl |>.iload 35 d18_33 rfl rfl |>.iloadN 36 d18_35 rfl rfl |>.iadd 37 d18_36 rfl |>.top (y := (.int (Int32.ofNat (ndL M + 0)))) (congrArg Value.int (by rw [ndL_of 14 (lo := 100000000000000) (hi := 1000000000000000) (by decide) (by decide) hg14 hq]; rfl))
                                exact G.retI hret hlk d18_37 [] all0 ⟨_, rfl, rfl, rfl, rfl⟩ (nle rfl) (nle rfl)
                              · skip
                                replace G := G.ifT 38 d18_30 (XT.ll_le_t (l_ngt (K := -1000000000000000) hy rfl (by omega))) (by decide) (by decide)
                                have hg15 := hq
                                replace G := G.ldc2J 41 (hw _ (mm 272 rfl)) d18_38 rfl |>.lloadN 42 d18_41 rfl rfl |>.lmul 43 d18_42 rfl |>.top (y := (.long (-10000000000000000 : Int64))) (congrArg Value.long (by decide)) |>.lstoreN 44 #[.val (.long xn), .second, .val (.int (0 : Int32)), .val (.long (-10000000000000000 : Int64)), .second, .val (.int (15 : Int32))] d18_43 rfl rfl |>.iincV 47 #[.val (.long xn), .second, .val (.int (0 : Int32)), .val (.long (-10000000000000000 : Int64)), .second, .val (.int (16 : Int32))] (16 : Int32) d18_44 rfl (by decide) rfl rfl |>.goto 20 d18_47 (by decide) (by decide) |>.iload 22 d18_20 rfl rfl
                                replace G := G.bipush 24 (19 : Int32) d18_22 (by decide) rfl |>.icmpF 27 d18_24 (XT.ii_ge_f (by decide)) rfl |>.lloadN 28 d18_27 rfl rfl |>.lloadN 29 d18_28 rfl rfl |>.lcmp 30 d18_29 rfl
                                rcases Nat.lt_or_ge M 10000000000000000 with hq | hq
                                · skip
                                  replace G := G.ifF 33 d18_30 (XT.ll_le_f (l_gt (K := -10000000000000000) hy rfl (by omega))) rfl |>.iload 35 d18_33 rfl rfl |>.iloadN 36 d18_35 rfl rfl |>.iadd 37 d18_36 rfl |>.top (y := (.int (Int32.ofNat (ndL M + 0)))) (congrArg Value.int (by rw [ndL_of 15 (lo := 1000000000000000) (hi := 10000000000000000) (by decide) (by decide) hg15 hq]; rfl))
                                  exact G.retI hret hlk d18_37 [] all0 ⟨_, rfl, rfl, rfl, rfl⟩ (nle rfl) (nle rfl)
                                · skip
                                  replace G := G.ifT 38 d18_30 (XT.ll_le_t (l_ngt (K := -10000000000000000) hy rfl (by omega))) (by decide) (by decide)
                                  have hg16 := hq
                                  replace G := G.ldc2J 41 (hw _ (mm 272 rfl)) d18_38 rfl |>.lloadN 42 d18_41 rfl rfl |>.lmul 43 d18_42 rfl |>.top (y := (.long (-100000000000000000 : Int64))) (congrArg Value.long (by decide)) |>.lstoreN 44 #[.val (.long xn), .second, .val (.int (0 : Int32)), .val (.long (-100000000000000000 : Int64)), .second, .val (.int (16 : Int32))] d18_43 rfl rfl |>.iincV 47 #[.val (.long xn), .second, .val (.int (0 : Int32)), .val (.long (-100000000000000000 : Int64)), .second, .val (.int (17 : Int32))] (17 : Int32) d18_44 rfl (by decide) rfl rfl |>.goto 20 d18_47 (by decide) (by decide) |>.iload 22 d18_20 rfl rfl
                                  replace G := G.bipush 24 (19 : Int32) d18_22 (by decide) rfl |>.icmpF 27 d18_24 (XT.ii_ge_f (by decide)) rfl |>.lloadN 28 d18_27 rfl rfl |>.lloadN 29 d18_28 rfl rfl |>.lcmp 30 d18_29 rfl
                                  rcases Nat.lt_or_ge M 100000000000000000 with hq | hq
                                  · skip
                                    replace G := G.ifF 33 d18_30 (XT.ll_le_f (l_gt (K := -100000000000000000) hy rfl (by omega))) rfl |>.iload 35 d18_33 rfl rfl |>.iloadN 36 d18_35 rfl rfl |>.iadd 37 d18_36 rfl |>.top (y := (.int (Int32.ofNat (ndL M + 0)))) (congrArg Value.int (by rw [ndL_of 16 (lo := 10000000000000000) (hi := 100000000000000000) (by decide) (by decide) hg16 hq]; rfl))
                                    exact G.retI hret hlk d18_37 [] all0 ⟨_, rfl, rfl, rfl, rfl⟩ (nle rfl) (nle rfl)
                                  · skip
                                    replace G := G.ifT 38 d18_30 (XT.ll_le_t (l_ngt (K := -100000000000000000) hy rfl (by omega))) (by decide) (by decide)
                                    have hg17 := hq
                                    replace G := G.ldc2J 41 (hw _ (mm 272 rfl)) d18_38 rfl |>.lloadN 42 d18_41 rfl rfl |>.lmul 43 d18_42 rfl |>.top (y := (.long (-1000000000000000000 : Int64))) (congrArg Value.long (by decide)) |>.lstoreN 44 #[.val (.long xn), .second, .val (.int (0 : Int32)), .val (.long (-1000000000000000000 : Int64)), .second, .val (.int (17 : Int32))] d18_43 rfl rfl |>.iincV 47 #[.val (.long xn), .second, .val (.int (0 : Int32)), .val (.long (-1000000000000000000 : Int64)), .second, .val (.int (18 : Int32))] (18 : Int32) d18_44 rfl (by decide) rfl rfl |>.goto 20 d18_47 (by decide) (by decide) |>.iload 22 d18_20 rfl rfl
                                    replace G := G.bipush 24 (19 : Int32) d18_22 (by decide) rfl |>.icmpF 27 d18_24 (XT.ii_ge_f (by decide)) rfl |>.lloadN 28 d18_27 rfl rfl |>.lloadN 29 d18_28 rfl rfl |>.lcmp 30 d18_29 rfl
                                    rcases Nat.lt_or_ge M 1000000000000000000 with hq | hq
                                    · skip
                                      replace G := G.ifF 33 d18_30 (XT.ll_le_f (l_gt (K := -1000000000000000000) hy rfl (by omega))) rfl |>.iload 35 d18_33 rfl rfl |>.iloadN 36 d18_35 rfl rfl |>.iadd 37 d18_36 rfl |>.top (y := (.int (Int32.ofNat (ndL M + 0)))) (congrArg Value.int (by rw [ndL_of 17 (lo := 100000000000000000) (hi := 1000000000000000000) (by decide) (by decide) hg17 hq]; rfl))
                                      exact G.retI hret hlk d18_37 [] all0 ⟨_, rfl, rfl, rfl, rfl⟩ (nle rfl) (nle rfl)
                                    · skip
                                      replace G := G.ifT 38 d18_30 (XT.ll_le_t (l_ngt (K := -1000000000000000000) hy rfl (by omega))) (by decide) (by decide)
                                      have hg18 := hq
                                      replace G := G.ldc2J 41 (hw _ (mm 272 rfl)) d18_38 rfl |>.lloadN 42 d18_41 rfl rfl |>.lmul 43 d18_42 rfl |>.top (y := (.long (8446744073709551616 : Int64))) (congrArg Value.long (by decide)) |>.lstoreN 44 #[.val (.long xn), .second, .val (.int (0 : Int32)), .val (.long (8446744073709551616 : Int64)), .second, .val (.int (18 : Int32))] d18_43 rfl rfl |>.iincV 47 #[.val (.long xn), .second, .val (.int (0 : Int32)), .val (.long (8446744073709551616 : Int64)), .second, .val (.int (19 : Int32))] (19 : Int32) d18_44 rfl (by decide) rfl rfl |>.goto 20 d18_47 (by decide) (by decide) |>.iload 22 d18_20 rfl rfl
                                      replace G := G.bipush 24 (19 : Int32) d18_22 (by decide) rfl |>.icmpT 50 d18_24 (XT.ii_ge_t (by decide)) (by decide) (by decide) |>.bipush 52 (19 : Int32) d18_50 (by decide) rfl |>.iloadN 53 d18_52 rfl rfl |>.iadd 54 d18_53 rfl |>.top (y := (.int (Int32.ofNat (ndL M + 0)))) (congrArg Value.int (by rw [ndL_of 18 (lo := 1000000000000000000) (hi := 10000000000000000000) (by decide) (by decide) hg18 (by omega)]; rfl))
                                      exact G.retI hret hlk d18_54 [] all0 ⟨_, rfl, rfl, rfl, rfl⟩ (nle rfl) (nle rfl)
theorem c_szL1 (l : Launch) (Z : State) (a0 : Array Value) (hw : ∀ d ∈ tables_1, d.before a0 Z = true) (hEW : EW Z a0 consts_1) (n0 : Nat) (c1 : Int32) (hc1 : ¬ c1 = 0) (S1 : Sta Z Z.heap "java/lang/String" "COMPACT_STRINGS" "Z" (.int c1)) (v2 : Value) (hv2 : v2.isRef = true) (S2 : Sta Z Z.heap "jdk/internal/util/Preconditions" "SIOOBE_FORMATTER" "Ljava/util/function/BiFunction;" v2) (t1 t2 : Addr) (kt1 kt2 : ClassId) (SD1 : Sta Z Z.heap "java/lang/Integer" "DigitOnes" "[B" (.ref t1)) (SD2 : Sta Z Z.heap "java/lang/Integer" "DigitTens" "[B" (.ref t2)) (AD1 : Arv Z Z.heap t1 kt1 .byte 100 dOnes (.int 0)) (AD2 : Arv Z Z.heap t2 kt2 .byte 100 dTens (.int 0)) (x : Int64) (M : Nat) {h0 : Heap} (o1 : Old Z n0 h0) (hM : M ≤ 9223372036854775808) (h0' : 0 < M) (hx : x.toInt = -(M : Int)) :
    Con Z a0 l (⟨"java/lang/Long", "stringSize", "(J)I"⟩ : MethodName) jdk_35_method_15_code 6 (some .int) ({ frames := 0, cells := 0, slots := 0, locals := 0 } : Room) [] #[(.long x)] consts_1 h0 n0 [] [] (VV fun w h so => w = .int (Int32.ofNat (ndL M + 1)) ∧ h = h0 ∧ so = []) := by
  refine Con.body (plainFor_of_name pn_java_lang_Long) hEW o1 all0 #[.val (.long x), .second, .unset, .unset, .unset, .unset] (fun m => by first | (simp [entryFrame, mkF, argsToLocals, Value.category]; done) | rfl) ?_
  intro p e s m below meth c B hnm hret hlk G
  replace G := G.iconst 1 (1 : Int32) d18_0 rfl rfl |>.istoreN 2 #[.val (.long x), .second, .val (.int (1 : Int32)), .unset, .unset, .unset] d18_1 rfl rfl |>.lloadN 3 d18_2 rfl rfl |>.lconst0 4 d18_3 rfl |>.lcmp 5 d18_4 rfl |>.ifT 13 d18_5 (XT.ll_lt_t (by rw [Int64.lt_iff_toInt_lt, hx]; show -(M : Int) < 0; omega)) (by decide) (by decide)
  have hy := hx
  replace G := G.ldc2J 16 (hw _ (mm 131 rfl)) d18_13 rfl |>.lstoreN 17 #[.val (.long x), .second, .val (.int (1 : Int32)), .val (.long (-10 : Int64)), .second, .unset] d18_16 rfl rfl |>.iconst 18 (1 : Int32) d18_17 rfl rfl |>.istore 20 #[.val (.long x), .second, .val (.int (1 : Int32)), .val (.long (-10 : Int64)), .second, .val (.int (1 : Int32))] d18_18 rfl rfl |>.iload 22 d18_20 rfl rfl |>.bipush 24 (19 : Int32) d18_22 (by decide) rfl |>.icmpF 27 d18_24 (XT.ii_ge_f (by decide)) rfl |>.lloadN 28 d18_27 rfl rfl
  replace G := G.lloadN 29 d18_28 rfl rfl |>.lcmp 30 d18_29 rfl
  rcases Nat.lt_or_ge M 10 with hq | hq
  · skip
    replace G := G.ifF 33 d18_30 (XT.ll_le_f (l_gt (K := -10) hy rfl (by omega))) rfl |>.iload 35 d18_33 rfl rfl |>.iloadN 36 d18_35 rfl rfl |>.iadd 37 d18_36 rfl |>.top (y := (.int (Int32.ofNat (ndL M + 1)))) (congrArg Value.int (by rw [ndL_lt hq]; rfl))
    exact G.retI hret hlk d18_37 [] all0 ⟨_, rfl, rfl, rfl, rfl⟩ (nle rfl) (nle rfl)
  · skip
    replace G := G.ifT 38 d18_30 (XT.ll_le_t (l_ngt (K := -10) hy rfl (by omega))) (by decide) (by decide)
    have hg1 := hq
    replace G := G.ldc2J 41 (hw _ (mm 272 rfl)) d18_38 rfl |>.lloadN 42 d18_41 rfl rfl |>.lmul 43 d18_42 rfl |>.top (y := (.long (-100 : Int64))) (congrArg Value.long (by decide)) |>.lstoreN 44 #[.val (.long x), .second, .val (.int (1 : Int32)), .val (.long (-100 : Int64)), .second, .val (.int (1 : Int32))] d18_43 rfl rfl |>.iincV 47 #[.val (.long x), .second, .val (.int (1 : Int32)), .val (.long (-100 : Int64)), .second, .val (.int (2 : Int32))] (2 : Int32) d18_44 rfl (by decide) rfl rfl |>.goto 20 d18_47 (by decide) (by decide) |>.iload 22 d18_20 rfl rfl
    replace G := G.bipush 24 (19 : Int32) d18_22 (by decide) rfl |>.icmpF 27 d18_24 (XT.ii_ge_f (by decide)) rfl |>.lloadN 28 d18_27 rfl rfl |>.lloadN 29 d18_28 rfl rfl |>.lcmp 30 d18_29 rfl
    rcases Nat.lt_or_ge M 100 with hq | hq
    · skip
      replace G := G.ifF 33 d18_30 (XT.ll_le_f (l_gt (K := -100) hy rfl (by omega))) rfl |>.iload 35 d18_33 rfl rfl |>.iloadN 36 d18_35 rfl rfl |>.iadd 37 d18_36 rfl |>.top (y := (.int (Int32.ofNat (ndL M + 1)))) (congrArg Value.int (by rw [ndL_of 1 (lo := 10) (hi := 100) (by decide) (by decide) hg1 hq]; rfl))
      exact G.retI hret hlk d18_37 [] all0 ⟨_, rfl, rfl, rfl, rfl⟩ (nle rfl) (nle rfl)
    · skip
      replace G := G.ifT 38 d18_30 (XT.ll_le_t (l_ngt (K := -100) hy rfl (by omega))) (by decide) (by decide)
      have hg2 := hq
      replace G := G.ldc2J 41 (hw _ (mm 272 rfl)) d18_38 rfl |>.lloadN 42 d18_41 rfl rfl |>.lmul 43 d18_42 rfl |>.top (y := (.long (-1000 : Int64))) (congrArg Value.long (by decide)) |>.lstoreN 44 #[.val (.long x), .second, .val (.int (1 : Int32)), .val (.long (-1000 : Int64)), .second, .val (.int (2 : Int32))] d18_43 rfl rfl |>.iincV 47 #[.val (.long x), .second, .val (.int (1 : Int32)), .val (.long (-1000 : Int64)), .second, .val (.int (3 : Int32))] (3 : Int32) d18_44 rfl (by decide) rfl rfl |>.goto 20 d18_47 (by decide) (by decide) |>.iload 22 d18_20 rfl rfl
      replace G := G.bipush 24 (19 : Int32) d18_22 (by decide) rfl |>.icmpF 27 d18_24 (XT.ii_ge_f (by decide)) rfl |>.lloadN 28 d18_27 rfl rfl |>.lloadN 29 d18_28 rfl rfl |>.lcmp 30 d18_29 rfl
      rcases Nat.lt_or_ge M 1000 with hq | hq
      · skip
        replace G := G.ifF 33 d18_30 (XT.ll_le_f (l_gt (K := -1000) hy rfl (by omega))) rfl |>.iload 35 d18_33 rfl rfl |>.iloadN 36 d18_35 rfl rfl |>.iadd 37 d18_36 rfl |>.top (y := (.int (Int32.ofNat (ndL M + 1)))) (congrArg Value.int (by rw [ndL_of 2 (lo := 100) (hi := 1000) (by decide) (by decide) hg2 hq]; rfl))
        exact G.retI hret hlk d18_37 [] all0 ⟨_, rfl, rfl, rfl, rfl⟩ (nle rfl) (nle rfl)
      · skip
        replace G := G.ifT 38 d18_30 (XT.ll_le_t (l_ngt (K := -1000) hy rfl (by omega))) (by decide) (by decide)
        have hg3 := hq
        replace G := G.ldc2J 41 (hw _ (mm 272 rfl)) d18_38 rfl |>.lloadN 42 d18_41 rfl rfl |>.lmul 43 d18_42 rfl |>.top (y := (.long (-10000 : Int64))) (congrArg Value.long (by decide)) |>.lstoreN 44 #[.val (.long x), .second, .val (.int (1 : Int32)), .val (.long (-10000 : Int64)), .second, .val (.int (3 : Int32))] d18_43 rfl rfl |>.iincV 47 #[.val (.long x), .second, .val (.int (1 : Int32)), .val (.long (-10000 : Int64)), .second, .val (.int (4 : Int32))] (4 : Int32) d18_44 rfl (by decide) rfl rfl |>.goto 20 d18_47 (by decide) (by decide) |>.iload 22 d18_20 rfl rfl
        replace G := G.bipush 24 (19 : Int32) d18_22 (by decide) rfl |>.icmpF 27 d18_24 (XT.ii_ge_f (by decide)) rfl |>.lloadN 28 d18_27 rfl rfl |>.lloadN 29 d18_28 rfl rfl |>.lcmp 30 d18_29 rfl
        rcases Nat.lt_or_ge M 10000 with hq | hq
        · skip
          replace G := G.ifF 33 d18_30 (XT.ll_le_f (l_gt (K := -10000) hy rfl (by omega))) rfl |>.iload 35 d18_33 rfl rfl |>.iloadN 36 d18_35 rfl rfl |>.iadd 37 d18_36 rfl |>.top (y := (.int (Int32.ofNat (ndL M + 1)))) (congrArg Value.int (by rw [ndL_of 3 (lo := 1000) (hi := 10000) (by decide) (by decide) hg3 hq]; rfl))
          exact G.retI hret hlk d18_37 [] all0 ⟨_, rfl, rfl, rfl, rfl⟩ (nle rfl) (nle rfl)
        · skip
          replace G := G.ifT 38 d18_30 (XT.ll_le_t (l_ngt (K := -10000) hy rfl (by omega))) (by decide) (by decide)
          have hg4 := hq
          replace G := G.ldc2J 41 (hw _ (mm 272 rfl)) d18_38 rfl |>.lloadN 42 d18_41 rfl rfl |>.lmul 43 d18_42 rfl |>.top (y := (.long (-100000 : Int64))) (congrArg Value.long (by decide)) |>.lstoreN 44 #[.val (.long x), .second, .val (.int (1 : Int32)), .val (.long (-100000 : Int64)), .second, .val (.int (4 : Int32))] d18_43 rfl rfl |>.iincV 47 #[.val (.long x), .second, .val (.int (1 : Int32)), .val (.long (-100000 : Int64)), .second, .val (.int (5 : Int32))] (5 : Int32) d18_44 rfl (by decide) rfl rfl |>.goto 20 d18_47 (by decide) (by decide) |>.iload 22 d18_20 rfl rfl
          replace G := G.bipush 24 (19 : Int32) d18_22 (by decide) rfl |>.icmpF 27 d18_24 (XT.ii_ge_f (by decide)) rfl |>.lloadN 28 d18_27 rfl rfl |>.lloadN 29 d18_28 rfl rfl |>.lcmp 30 d18_29 rfl
          rcases Nat.lt_or_ge M 100000 with hq | hq
          · skip
            replace G := G.ifF 33 d18_30 (XT.ll_le_f (l_gt (K := -100000) hy rfl (by omega))) rfl |>.iload 35 d18_33 rfl rfl |>.iloadN 36 d18_35 rfl rfl |>.iadd 37 d18_36 rfl |>.top (y := (.int (Int32.ofNat (ndL M + 1)))) (congrArg Value.int (by rw [ndL_of 4 (lo := 10000) (hi := 100000) (by decide) (by decide) hg4 hq]; rfl))
            exact G.retI hret hlk d18_37 [] all0 ⟨_, rfl, rfl, rfl, rfl⟩ (nle rfl) (nle rfl)
          · skip
            replace G := G.ifT 38 d18_30 (XT.ll_le_t (l_ngt (K := -100000) hy rfl (by omega))) (by decide) (by decide)
            have hg5 := hq
            replace G := G.ldc2J 41 (hw _ (mm 272 rfl)) d18_38 rfl |>.lloadN 42 d18_41 rfl rfl |>.lmul 43 d18_42 rfl |>.top (y := (.long (-1000000 : Int64))) (congrArg Value.long (by decide)) |>.lstoreN 44 #[.val (.long x), .second, .val (.int (1 : Int32)), .val (.long (-1000000 : Int64)), .second, .val (.int (5 : Int32))] d18_43 rfl rfl |>.iincV 47 #[.val (.long x), .second, .val (.int (1 : Int32)), .val (.long (-1000000 : Int64)), .second, .val (.int (6 : Int32))] (6 : Int32) d18_44 rfl (by decide) rfl rfl |>.goto 20 d18_47 (by decide) (by decide) |>.iload 22 d18_20 rfl rfl
            replace G := G.bipush 24 (19 : Int32) d18_22 (by decide) rfl |>.icmpF 27 d18_24 (XT.ii_ge_f (by decide)) rfl |>.lloadN 28 d18_27 rfl rfl |>.lloadN 29 d18_28 rfl rfl |>.lcmp 30 d18_29 rfl
            rcases Nat.lt_or_ge M 1000000 with hq | hq
            · skip
              replace G := G.ifF 33 d18_30 (XT.ll_le_f (l_gt (K := -1000000) hy rfl (by omega))) rfl |>.iload 35 d18_33 rfl rfl |>.iloadN 36 d18_35 rfl rfl |>.iadd 37 d18_36 rfl |>.top (y := (.int (Int32.ofNat (ndL M + 1)))) (congrArg Value.int (by rw [ndL_of 5 (lo := 100000) (hi := 1000000) (by decide) (by decide) hg5 hq]; rfl))
              exact G.retI hret hlk d18_37 [] all0 ⟨_, rfl, rfl, rfl, rfl⟩ (nle rfl) (nle rfl)
            · skip
              replace G := G.ifT 38 d18_30 (XT.ll_le_t (l_ngt (K := -1000000) hy rfl (by omega))) (by decide) (by decide)
              have hg6 := hq
              replace G := G.ldc2J 41 (hw _ (mm 272 rfl)) d18_38 rfl |>.lloadN 42 d18_41 rfl rfl |>.lmul 43 d18_42 rfl |>.top (y := (.long (-10000000 : Int64))) (congrArg Value.long (by decide)) |>.lstoreN 44 #[.val (.long x), .second, .val (.int (1 : Int32)), .val (.long (-10000000 : Int64)), .second, .val (.int (6 : Int32))] d18_43 rfl rfl |>.iincV 47 #[.val (.long x), .second, .val (.int (1 : Int32)), .val (.long (-10000000 : Int64)), .second, .val (.int (7 : Int32))] (7 : Int32) d18_44 rfl (by decide) rfl rfl |>.goto 20 d18_47 (by decide) (by decide) |>.iload 22 d18_20 rfl rfl
              replace G := G.bipush 24 (19 : Int32) d18_22 (by decide) rfl |>.icmpF 27 d18_24 (XT.ii_ge_f (by decide)) rfl |>.lloadN 28 d18_27 rfl rfl |>.lloadN 29 d18_28 rfl rfl |>.lcmp 30 d18_29 rfl
              rcases Nat.lt_or_ge M 10000000 with hq | hq
              · skip
                replace G := G.ifF 33 d18_30 (XT.ll_le_f (l_gt (K := -10000000) hy rfl (by omega))) rfl |>.iload 35 d18_33 rfl rfl |>.iloadN 36 d18_35 rfl rfl |>.iadd 37 d18_36 rfl |>.top (y := (.int (Int32.ofNat (ndL M + 1)))) (congrArg Value.int (by rw [ndL_of 6 (lo := 1000000) (hi := 10000000) (by decide) (by decide) hg6 hq]; rfl))
                exact G.retI hret hlk d18_37 [] all0 ⟨_, rfl, rfl, rfl, rfl⟩ (nle rfl) (nle rfl)
              · skip
                replace G := G.ifT 38 d18_30 (XT.ll_le_t (l_ngt (K := -10000000) hy rfl (by omega))) (by decide) (by decide)
                have hg7 := hq
                replace G := G.ldc2J 41 (hw _ (mm 272 rfl)) d18_38 rfl |>.lloadN 42 d18_41 rfl rfl |>.lmul 43 d18_42 rfl |>.top (y := (.long (-100000000 : Int64))) (congrArg Value.long (by decide)) |>.lstoreN 44 #[.val (.long x), .second, .val (.int (1 : Int32)), .val (.long (-100000000 : Int64)), .second, .val (.int (7 : Int32))] d18_43 rfl rfl |>.iincV 47 #[.val (.long x), .second, .val (.int (1 : Int32)), .val (.long (-100000000 : Int64)), .second, .val (.int (8 : Int32))] (8 : Int32) d18_44 rfl (by decide) rfl rfl |>.goto 20 d18_47 (by decide) (by decide) |>.iload 22 d18_20 rfl rfl
                replace G := G.bipush 24 (19 : Int32) d18_22 (by decide) rfl |>.icmpF 27 d18_24 (XT.ii_ge_f (by decide)) rfl |>.lloadN 28 d18_27 rfl rfl |>.lloadN 29 d18_28 rfl rfl |>.lcmp 30 d18_29 rfl
                rcases Nat.lt_or_ge M 100000000 with hq | hq
                · skip
                  replace G := G.ifF 33 d18_30 (XT.ll_le_f (l_gt (K := -100000000) hy rfl (by omega))) rfl |>.iload 35 d18_33 rfl rfl |>.iloadN 36 d18_35 rfl rfl |>.iadd 37 d18_36 rfl |>.top (y := (.int (Int32.ofNat (ndL M + 1)))) (congrArg Value.int (by rw [ndL_of 7 (lo := 10000000) (hi := 100000000) (by decide) (by decide) hg7 hq]; rfl))
                  exact G.retI hret hlk d18_37 [] all0 ⟨_, rfl, rfl, rfl, rfl⟩ (nle rfl) (nle rfl)
                · skip
                  replace G := G.ifT 38 d18_30 (XT.ll_le_t (l_ngt (K := -100000000) hy rfl (by omega))) (by decide) (by decide)
                  have hg8 := hq
                  replace G := G.ldc2J 41 (hw _ (mm 272 rfl)) d18_38 rfl |>.lloadN 42 d18_41 rfl rfl |>.lmul 43 d18_42 rfl |>.top (y := (.long (-1000000000 : Int64))) (congrArg Value.long (by decide)) |>.lstoreN 44 #[.val (.long x), .second, .val (.int (1 : Int32)), .val (.long (-1000000000 : Int64)), .second, .val (.int (8 : Int32))] d18_43 rfl rfl |>.iincV 47 #[.val (.long x), .second, .val (.int (1 : Int32)), .val (.long (-1000000000 : Int64)), .second, .val (.int (9 : Int32))] (9 : Int32) d18_44 rfl (by decide) rfl rfl |>.goto 20 d18_47 (by decide) (by decide) |>.iload 22 d18_20 rfl rfl
                  replace G := G.bipush 24 (19 : Int32) d18_22 (by decide) rfl |>.icmpF 27 d18_24 (XT.ii_ge_f (by decide)) rfl |>.lloadN 28 d18_27 rfl rfl |>.lloadN 29 d18_28 rfl rfl |>.lcmp 30 d18_29 rfl
                  rcases Nat.lt_or_ge M 1000000000 with hq | hq
                  · skip
                    replace G := G.ifF 33 d18_30 (XT.ll_le_f (l_gt (K := -1000000000) hy rfl (by omega))) rfl |>.iload 35 d18_33 rfl rfl |>.iloadN 36 d18_35 rfl rfl |>.iadd 37 d18_36 rfl |>.top (y := (.int (Int32.ofNat (ndL M + 1)))) (congrArg Value.int (by rw [ndL_of 8 (lo := 100000000) (hi := 1000000000) (by decide) (by decide) hg8 hq]; rfl))
                    exact G.retI hret hlk d18_37 [] all0 ⟨_, rfl, rfl, rfl, rfl⟩ (nle rfl) (nle rfl)
                  · skip
                    replace G := G.ifT 38 d18_30 (XT.ll_le_t (l_ngt (K := -1000000000) hy rfl (by omega))) (by decide) (by decide)
                    have hg9 := hq
                    replace G := G.ldc2J 41 (hw _ (mm 272 rfl)) d18_38 rfl |>.lloadN 42 d18_41 rfl rfl |>.lmul 43 d18_42 rfl |>.top (y := (.long (-10000000000 : Int64))) (congrArg Value.long (by decide)) |>.lstoreN 44 #[.val (.long x), .second, .val (.int (1 : Int32)), .val (.long (-10000000000 : Int64)), .second, .val (.int (9 : Int32))] d18_43 rfl rfl |>.iincV 47 #[.val (.long x), .second, .val (.int (1 : Int32)), .val (.long (-10000000000 : Int64)), .second, .val (.int (10 : Int32))] (10 : Int32) d18_44 rfl (by decide) rfl rfl |>.goto 20 d18_47 (by decide) (by decide) |>.iload 22 d18_20 rfl rfl
                    replace G := G.bipush 24 (19 : Int32) d18_22 (by decide) rfl |>.icmpF 27 d18_24 (XT.ii_ge_f (by decide)) rfl |>.lloadN 28 d18_27 rfl rfl |>.lloadN 29 d18_28 rfl rfl |>.lcmp 30 d18_29 rfl
                    rcases Nat.lt_or_ge M 10000000000 with hq | hq
                    · skip
                      replace G := G.ifF 33 d18_30 (XT.ll_le_f (l_gt (K := -10000000000) hy rfl (by omega))) rfl |>.iload 35 d18_33 rfl rfl |>.iloadN 36 d18_35 rfl rfl |>.iadd 37 d18_36 rfl |>.top (y := (.int (Int32.ofNat (ndL M + 1)))) (congrArg Value.int (by rw [ndL_of 9 (lo := 1000000000) (hi := 10000000000) (by decide) (by decide) hg9 hq]; rfl))
                      exact G.retI hret hlk d18_37 [] all0 ⟨_, rfl, rfl, rfl, rfl⟩ (nle rfl) (nle rfl)
                    · skip
                      replace G := G.ifT 38 d18_30 (XT.ll_le_t (l_ngt (K := -10000000000) hy rfl (by omega))) (by decide) (by decide)
                      have hg10 := hq
                      replace G := G.ldc2J 41 (hw _ (mm 272 rfl)) d18_38 rfl |>.lloadN 42 d18_41 rfl rfl |>.lmul 43 d18_42 rfl |>.top (y := (.long (-100000000000 : Int64))) (congrArg Value.long (by decide)) |>.lstoreN 44 #[.val (.long x), .second, .val (.int (1 : Int32)), .val (.long (-100000000000 : Int64)), .second, .val (.int (10 : Int32))] d18_43 rfl rfl |>.iincV 47 #[.val (.long x), .second, .val (.int (1 : Int32)), .val (.long (-100000000000 : Int64)), .second, .val (.int (11 : Int32))] (11 : Int32) d18_44 rfl (by decide) rfl rfl |>.goto 20 d18_47 (by decide) (by decide) |>.iload 22 d18_20 rfl rfl
                      replace G := G.bipush 24 (19 : Int32) d18_22 (by decide) rfl |>.icmpF 27 d18_24 (XT.ii_ge_f (by decide)) rfl |>.lloadN 28 d18_27 rfl rfl |>.lloadN 29 d18_28 rfl rfl |>.lcmp 30 d18_29 rfl
                      rcases Nat.lt_or_ge M 100000000000 with hq | hq
                      · skip
                        replace G := G.ifF 33 d18_30 (XT.ll_le_f (l_gt (K := -100000000000) hy rfl (by omega))) rfl |>.iload 35 d18_33 rfl rfl |>.iloadN 36 d18_35 rfl rfl |>.iadd 37 d18_36 rfl |>.top (y := (.int (Int32.ofNat (ndL M + 1)))) (congrArg Value.int (by rw [ndL_of 10 (lo := 10000000000) (hi := 100000000000) (by decide) (by decide) hg10 hq]; rfl))
                        exact G.retI hret hlk d18_37 [] all0 ⟨_, rfl, rfl, rfl, rfl⟩ (nle rfl) (nle rfl)
                      · skip
                        replace G := G.ifT 38 d18_30 (XT.ll_le_t (l_ngt (K := -100000000000) hy rfl (by omega))) (by decide) (by decide)
                        have hg11 := hq
                        replace G := G.ldc2J 41 (hw _ (mm 272 rfl)) d18_38 rfl |>.lloadN 42 d18_41 rfl rfl |>.lmul 43 d18_42 rfl |>.top (y := (.long (-1000000000000 : Int64))) (congrArg Value.long (by decide)) |>.lstoreN 44 #[.val (.long x), .second, .val (.int (1 : Int32)), .val (.long (-1000000000000 : Int64)), .second, .val (.int (11 : Int32))] d18_43 rfl rfl |>.iincV 47 #[.val (.long x), .second, .val (.int (1 : Int32)), .val (.long (-1000000000000 : Int64)), .second, .val (.int (12 : Int32))] (12 : Int32) d18_44 rfl (by decide) rfl rfl |>.goto 20 d18_47 (by decide) (by decide) |>.iload 22 d18_20 rfl rfl
                        replace G := G.bipush 24 (19 : Int32) d18_22 (by decide) rfl |>.icmpF 27 d18_24 (XT.ii_ge_f (by decide)) rfl |>.lloadN 28 d18_27 rfl rfl |>.lloadN 29 d18_28 rfl rfl |>.lcmp 30 d18_29 rfl
                        rcases Nat.lt_or_ge M 1000000000000 with hq | hq
                        · skip
                          replace G := G.ifF 33 d18_30 (XT.ll_le_f (l_gt (K := -1000000000000) hy rfl (by omega))) rfl |>.iload 35 d18_33 rfl rfl |>.iloadN 36 d18_35 rfl rfl |>.iadd 37 d18_36 rfl |>.top (y := (.int (Int32.ofNat (ndL M + 1)))) (congrArg Value.int (by rw [ndL_of 11 (lo := 100000000000) (hi := 1000000000000) (by decide) (by decide) hg11 hq]; rfl))
                          exact G.retI hret hlk d18_37 [] all0 ⟨_, rfl, rfl, rfl, rfl⟩ (nle rfl) (nle rfl)
                        · skip
                          replace G := G.ifT 38 d18_30 (XT.ll_le_t (l_ngt (K := -1000000000000) hy rfl (by omega))) (by decide) (by decide)
                          have hg12 := hq
                          replace G := G.ldc2J 41 (hw _ (mm 272 rfl)) d18_38 rfl |>.lloadN 42 d18_41 rfl rfl |>.lmul 43 d18_42 rfl |>.top (y := (.long (-10000000000000 : Int64))) (congrArg Value.long (by decide)) |>.lstoreN 44 #[.val (.long x), .second, .val (.int (1 : Int32)), .val (.long (-10000000000000 : Int64)), .second, .val (.int (12 : Int32))] d18_43 rfl rfl |>.iincV 47 #[.val (.long x), .second, .val (.int (1 : Int32)), .val (.long (-10000000000000 : Int64)), .second, .val (.int (13 : Int32))] (13 : Int32) d18_44 rfl (by decide) rfl rfl |>.goto 20 d18_47 (by decide) (by decide) |>.iload 22 d18_20 rfl rfl
                          replace G := G.bipush 24 (19 : Int32) d18_22 (by decide) rfl |>.icmpF 27 d18_24 (XT.ii_ge_f (by decide)) rfl |>.lloadN 28 d18_27 rfl rfl |>.lloadN 29 d18_28 rfl rfl |>.lcmp 30 d18_29 rfl
                          rcases Nat.lt_or_ge M 10000000000000 with hq | hq
                          · skip
                            replace G := G.ifF 33 d18_30 (XT.ll_le_f (l_gt (K := -10000000000000) hy rfl (by omega))) rfl |>.iload 35 d18_33 rfl rfl |>.iloadN 36 d18_35 rfl rfl |>.iadd 37 d18_36 rfl |>.top (y := (.int (Int32.ofNat (ndL M + 1)))) (congrArg Value.int (by rw [ndL_of 12 (lo := 1000000000000) (hi := 10000000000000) (by decide) (by decide) hg12 hq]; rfl))
                            exact G.retI hret hlk d18_37 [] all0 ⟨_, rfl, rfl, rfl, rfl⟩ (nle rfl) (nle rfl)
                          · skip
                            replace G := G.ifT 38 d18_30 (XT.ll_le_t (l_ngt (K := -10000000000000) hy rfl (by omega))) (by decide) (by decide)
                            have hg13 := hq
                            replace G := G.ldc2J 41 (hw _ (mm 272 rfl)) d18_38 rfl |>.lloadN 42 d18_41 rfl rfl |>.lmul 43 d18_42 rfl |>.top (y := (.long (-100000000000000 : Int64))) (congrArg Value.long (by decide)) |>.lstoreN 44 #[.val (.long x), .second, .val (.int (1 : Int32)), .val (.long (-100000000000000 : Int64)), .second, .val (.int (13 : Int32))] d18_43 rfl rfl |>.iincV 47 #[.val (.long x), .second, .val (.int (1 : Int32)), .val (.long (-100000000000000 : Int64)), .second, .val (.int (14 : Int32))] (14 : Int32) d18_44 rfl (by decide) rfl rfl |>.goto 20 d18_47 (by decide) (by decide) |>.iload 22 d18_20 rfl rfl
                            replace G := G.bipush 24 (19 : Int32) d18_22 (by decide) rfl |>.icmpF 27 d18_24 (XT.ii_ge_f (by decide)) rfl |>.lloadN 28 d18_27 rfl rfl |>.lloadN 29 d18_28 rfl rfl |>.lcmp 30 d18_29 rfl
                            rcases Nat.lt_or_ge M 100000000000000 with hq | hq
                            · skip
                              replace G := G.ifF 33 d18_30 (XT.ll_le_f (l_gt (K := -100000000000000) hy rfl (by omega))) rfl |>.iload 35 d18_33 rfl rfl |>.iloadN 36 d18_35 rfl rfl |>.iadd 37 d18_36 rfl |>.top (y := (.int (Int32.ofNat (ndL M + 1)))) (congrArg Value.int (by rw [ndL_of 13 (lo := 10000000000000) (hi := 100000000000000) (by decide) (by decide) hg13 hq]; rfl))
                              exact G.retI hret hlk d18_37 [] all0 ⟨_, rfl, rfl, rfl, rfl⟩ (nle rfl) (nle rfl)
                            · skip
                              replace G := G.ifT 38 d18_30 (XT.ll_le_t (l_ngt (K := -100000000000000) hy rfl (by omega))) (by decide) (by decide)
                              have hg14 := hq
                              replace G := G.ldc2J 41 (hw _ (mm 272 rfl)) d18_38 rfl |>.lloadN 42 d18_41 rfl rfl |>.lmul 43 d18_42 rfl |>.top (y := (.long (-1000000000000000 : Int64))) (congrArg Value.long (by decide)) |>.lstoreN 44 #[.val (.long x), .second, .val (.int (1 : Int32)), .val (.long (-1000000000000000 : Int64)), .second, .val (.int (14 : Int32))] d18_43 rfl rfl |>.iincV 47 #[.val (.long x), .second, .val (.int (1 : Int32)), .val (.long (-1000000000000000 : Int64)), .second, .val (.int (15 : Int32))] (15 : Int32) d18_44 rfl (by decide) rfl rfl |>.goto 20 d18_47 (by decide) (by decide) |>.iload 22 d18_20 rfl rfl
                              replace G := G.bipush 24 (19 : Int32) d18_22 (by decide) rfl |>.icmpF 27 d18_24 (XT.ii_ge_f (by decide)) rfl |>.lloadN 28 d18_27 rfl rfl |>.lloadN 29 d18_28 rfl rfl |>.lcmp 30 d18_29 rfl
                              rcases Nat.lt_or_ge M 1000000000000000 with hq | hq
                              · skip
                                replace G := G.ifF 33 d18_30 (XT.ll_le_f (l_gt (K := -1000000000000000) hy rfl (by omega))) rfl |>.iload 35 d18_33 rfl rfl |>.iloadN 36 d18_35 rfl rfl |>.iadd 37 d18_36 rfl |>.top (y := (.int (Int32.ofNat (ndL M + 1)))) (congrArg Value.int (by rw [ndL_of 14 (lo := 100000000000000) (hi := 1000000000000000) (by decide) (by decide) hg14 hq]; rfl))
                                exact G.retI hret hlk d18_37 [] all0 ⟨_, rfl, rfl, rfl, rfl⟩ (nle rfl) (nle rfl)
                              · skip
                                replace G := G.ifT 38 d18_30 (XT.ll_le_t (l_ngt (K := -1000000000000000) hy rfl (by omega))) (by decide) (by decide)
                                have hg15 := hq
                                replace G := G.ldc2J 41 (hw _ (mm 272 rfl)) d18_38 rfl |>.lloadN 42 d18_41 rfl rfl |>.lmul 43 d18_42 rfl |>.top (y := (.long (-10000000000000000 : Int64))) (congrArg Value.long (by decide)) |>.lstoreN 44 #[.val (.long x), .second, .val (.int (1 : Int32)), .val (.long (-10000000000000000 : Int64)), .second, .val (.int (15 : Int32))] d18_43 rfl rfl |>.iincV 47 #[.val (.long x), .second, .val (.int (1 : Int32)), .val (.long (-10000000000000000 : Int64)), .second, .val (.int (16 : Int32))] (16 : Int32) d18_44 rfl (by decide) rfl rfl |>.goto 20 d18_47 (by decide) (by decide) |>.iload 22 d18_20 rfl rfl
                                replace G := G.bipush 24 (19 : Int32) d18_22 (by decide) rfl |>.icmpF 27 d18_24 (XT.ii_ge_f (by decide)) rfl |>.lloadN 28 d18_27 rfl rfl |>.lloadN 29 d18_28 rfl rfl |>.lcmp 30 d18_29 rfl
                                rcases Nat.lt_or_ge M 10000000000000000 with hq | hq
                                · skip
                                  replace G := G.ifF 33 d18_30 (XT.ll_le_f (l_gt (K := -10000000000000000) hy rfl (by omega))) rfl |>.iload 35 d18_33 rfl rfl |>.iloadN 36 d18_35 rfl rfl |>.iadd 37 d18_36 rfl |>.top (y := (.int (Int32.ofNat (ndL M + 1)))) (congrArg Value.int (by rw [ndL_of 15 (lo := 1000000000000000) (hi := 10000000000000000) (by decide) (by decide) hg15 hq]; rfl))
                                  exact G.retI hret hlk d18_37 [] all0 ⟨_, rfl, rfl, rfl, rfl⟩ (nle rfl) (nle rfl)
                                · skip
                                  replace G := G.ifT 38 d18_30 (XT.ll_le_t (l_ngt (K := -10000000000000000) hy rfl (by omega))) (by decide) (by decide)
                                  have hg16 := hq
                                  replace G := G.ldc2J 41 (hw _ (mm 272 rfl)) d18_38 rfl |>.lloadN 42 d18_41 rfl rfl |>.lmul 43 d18_42 rfl |>.top (y := (.long (-100000000000000000 : Int64))) (congrArg Value.long (by decide)) |>.lstoreN 44 #[.val (.long x), .second, .val (.int (1 : Int32)), .val (.long (-100000000000000000 : Int64)), .second, .val (.int (16 : Int32))] d18_43 rfl rfl |>.iincV 47 #[.val (.long x), .second, .val (.int (1 : Int32)), .val (.long (-100000000000000000 : Int64)), .second, .val (.int (17 : Int32))] (17 : Int32) d18_44 rfl (by decide) rfl rfl |>.goto 20 d18_47 (by decide) (by decide) |>.iload 22 d18_20 rfl rfl
                                  replace G := G.bipush 24 (19 : Int32) d18_22 (by decide) rfl |>.icmpF 27 d18_24 (XT.ii_ge_f (by decide)) rfl |>.lloadN 28 d18_27 rfl rfl |>.lloadN 29 d18_28 rfl rfl |>.lcmp 30 d18_29 rfl
                                  rcases Nat.lt_or_ge M 100000000000000000 with hq | hq
                                  · skip
                                    replace G := G.ifF 33 d18_30 (XT.ll_le_f (l_gt (K := -100000000000000000) hy rfl (by omega))) rfl |>.iload 35 d18_33 rfl rfl |>.iloadN 36 d18_35 rfl rfl |>.iadd 37 d18_36 rfl |>.top (y := (.int (Int32.ofNat (ndL M + 1)))) (congrArg Value.int (by rw [ndL_of 16 (lo := 10000000000000000) (hi := 100000000000000000) (by decide) (by decide) hg16 hq]; rfl))
                                    exact G.retI hret hlk d18_37 [] all0 ⟨_, rfl, rfl, rfl, rfl⟩ (nle rfl) (nle rfl)
                                  · skip
                                    replace G := G.ifT 38 d18_30 (XT.ll_le_t (l_ngt (K := -100000000000000000) hy rfl (by omega))) (by decide) (by decide)
                                    have hg17 := hq
                                    replace G := G.ldc2J 41 (hw _ (mm 272 rfl)) d18_38 rfl |>.lloadN 42 d18_41 rfl rfl |>.lmul 43 d18_42 rfl |>.top (y := (.long (-1000000000000000000 : Int64))) (congrArg Value.long (by decide)) |>.lstoreN 44 #[.val (.long x), .second, .val (.int (1 : Int32)), .val (.long (-1000000000000000000 : Int64)), .second, .val (.int (17 : Int32))] d18_43 rfl rfl |>.iincV 47 #[.val (.long x), .second, .val (.int (1 : Int32)), .val (.long (-1000000000000000000 : Int64)), .second, .val (.int (18 : Int32))] (18 : Int32) d18_44 rfl (by decide) rfl rfl |>.goto 20 d18_47 (by decide) (by decide) |>.iload 22 d18_20 rfl rfl
                                    replace G := G.bipush 24 (19 : Int32) d18_22 (by decide) rfl |>.icmpF 27 d18_24 (XT.ii_ge_f (by decide)) rfl |>.lloadN 28 d18_27 rfl rfl |>.lloadN 29 d18_28 rfl rfl |>.lcmp 30 d18_29 rfl
                                    rcases Nat.lt_or_ge M 1000000000000000000 with hq | hq
                                    · skip
                                      replace G := G.ifF 33 d18_30 (XT.ll_le_f (l_gt (K := -1000000000000000000) hy rfl (by omega))) rfl |>.iload 35 d18_33 rfl rfl |>.iloadN 36 d18_35 rfl rfl |>.iadd 37 d18_36 rfl |>.top (y := (.int (Int32.ofNat (ndL M + 1)))) (congrArg Value.int (by rw [ndL_of 17 (lo := 100000000000000000) (hi := 1000000000000000000) (by decide) (by decide) hg17 hq]; rfl))
                                      exact G.retI hret hlk d18_37 [] all0 ⟨_, rfl, rfl, rfl, rfl⟩ (nle rfl) (nle rfl)
                                    · skip
                                      replace G := G.ifT 38 d18_30 (XT.ll_le_t (l_ngt (K := -1000000000000000000) hy rfl (by omega))) (by decide) (by decide)
                                      have hg18 := hq
                                      replace G := G.ldc2J 41 (hw _ (mm 272 rfl)) d18_38 rfl |>.lloadN 42 d18_41 rfl rfl |>.lmul 43 d18_42 rfl |>.top (y := (.long (8446744073709551616 : Int64))) (congrArg Value.long (by decide)) |>.lstoreN 44 #[.val (.long x), .second, .val (.int (1 : Int32)), .val (.long (8446744073709551616 : Int64)), .second, .val (.int (18 : Int32))] d18_43 rfl rfl |>.iincV 47 #[.val (.long x), .second, .val (.int (1 : Int32)), .val (.long (8446744073709551616 : Int64)), .second, .val (.int (19 : Int32))] (19 : Int32) d18_44 rfl (by decide) rfl rfl |>.goto 20 d18_47 (by decide) (by decide) |>.iload 22 d18_20 rfl rfl
                                      replace G := G.bipush 24 (19 : Int32) d18_22 (by decide) rfl |>.icmpT 50 d18_24 (XT.ii_ge_t (by decide)) (by decide) (by decide) |>.bipush 52 (19 : Int32) d18_50 (by decide) rfl |>.iloadN 53 d18_52 rfl rfl |>.iadd 54 d18_53 rfl |>.top (y := (.int (Int32.ofNat (ndL M + 1)))) (congrArg Value.int (by rw [ndL_of 18 (lo := 1000000000000000000) (hi := 10000000000000000000) (by decide) (by decide) hg18 (by omega)]; rfl))
                                      exact G.retI hret hlk d18_54 [] all0 ⟨_, rfl, rfl, rfl, rfl⟩ (nle rfl) (nle rfl)
theorem d20_0 : decode jdk_35_method_14_code 0 = .ok (.iload_n 2, 1) := by decide +kernel
theorem d20_1 : decode jdk_35_method_14_code 1 = .ok (.istore 7, 2) := by decide +kernel
theorem d20_3 : decode jdk_35_method_14_code 3 = .ok (.lload_n 0, 1) := by decide +kernel
theorem d20_4 : decode jdk_35_method_14_code 4 = .ok (.lconst 0, 1) := by decide +kernel
theorem d20_5 : decode jdk_35_method_14_code 5 = .ok (.lcmp, 1) := by decide +kernel
theorem d20_6 : decode jdk_35_method_14_code 6 = .ok (.ifCond .ge 7, 3) := by decide +kernel
theorem d20_9 : decode jdk_35_method_14_code 9 = .ok (.iconst 1, 1) := by decide +kernel
theorem d20_10 : decode jdk_35_method_14_code 10 = .ok (.goto 4, 3) := by decide +kernel
theorem d20_13 : decode jdk_35_method_14_code 13 = .ok (.iconst 0, 1) := by decide +kernel
theorem d20_14 : decode jdk_35_method_14_code 14 = .ok (.istore 8, 2) := by decide +kernel
theorem d20_16 : decode jdk_35_method_14_code 16 = .ok (.iload 8, 2) := by decide +kernel
theorem d20_18 : decode jdk_35_method_14_code 18 = .ok (.ifCond .ne 6, 3) := by decide +kernel
theorem d20_21 : decode jdk_35_method_14_code 21 = .ok (.lload_n 0, 1) := by decide +kernel
theorem d20_22 : decode jdk_35_method_14_code 22 = .ok (.lneg, 1) := by decide +kernel
theorem d20_23 : decode jdk_35_method_14_code 23 = .ok (.lstore_n 0, 1) := by decide +kernel
theorem d20_24 : decode jdk_35_method_14_code 24 = .ok (.lload_n 0, 1) := by decide +kernel
theorem d20_25 : decode jdk_35_method_14_code 25 = .ok (.ldc2_w 129, 3) := by decide +kernel
theorem d20_28 : decode jdk_35_method_14_code 28 = .ok (.lcmp, 1) := by decide +kernel
theorem d20_29 : decode jdk_35_method_14_code 29 = .ok (.ifCond .gt 53, 3) := by decide +kernel
theorem d20_32 : decode jdk_35_method_14_code 32 = .ok (.lload_n 0, 1) := by decide +kernel
theorem d20_33 : decode jdk_35_method_14_code 33 = .ok (.ldc2_w 131, 3) := by decide +kernel
theorem d20_36 : decode jdk_35_method_14_code 36 = .ok (.ldiv, 1) := by decide +kernel
theorem d20_37 : decode jdk_35_method_14_code 37 = .ok (.lstore 4, 2) := by decide +kernel
theorem d20_39 : decode jdk_35_method_14_code 39 = .ok (.lload 4, 2) := by decide +kernel
theorem d20_41 : decode jdk_35_method_14_code 41 = .ok (.ldc2_w 131, 3) := by decide +kernel
theorem d20_44 : decode jdk_35_method_14_code 44 = .ok (.lmul, 1) := by decide +kernel
theorem d20_45 : decode jdk_35_method_14_code 45 = .ok (.lload_n 0, 1) := by decide +kernel
theorem d20_46 : decode jdk_35_method_14_code 46 = .ok (.lsub, 1) := by decide +kernel
theorem d20_47 : decode jdk_35_method_14_code 47 = .ok (.l2i, 1) := by decide +kernel
theorem d20_48 : decode jdk_35_method_14_code 48 = .ok (.istore 6, 2) := by decide +kernel
theorem d20_50 : decode jdk_35_method_14_code 50 = .ok (.lload 4, 2) := by decide +kernel
theorem d20_52 : decode jdk_35_method_14_code 52 = .ok (.lstore_n 0, 1) := by decide +kernel
theorem d20_53 : decode jdk_35_method_14_code 53 = .ok (.aload_n 3, 1) := by decide +kernel
theorem d20_54 : decode jdk_35_method_14_code 54 = .ok (.iinc 7 (-1), 3) := by decide +kernel
theorem d20_57 : decode jdk_35_method_14_code 57 = .ok (.iload 7, 2) := by decide +kernel
theorem d20_59 : decode jdk_35_method_14_code 59 = .ok (.getstatic 133, 3) := by decide +kernel
theorem d20_62 : decode jdk_35_method_14_code 62 = .ok (.iload 6, 2) := by decide +kernel
theorem d20_64 : decode jdk_35_method_14_code 64 = .ok (.baload, 1) := by decide +kernel
theorem d20_65 : decode jdk_35_method_14_code 65 = .ok (.bastore, 1) := by decide +kernel
theorem d20_66 : decode jdk_35_method_14_code 66 = .ok (.aload_n 3, 1) := by decide +kernel
theorem d20_67 : decode jdk_35_method_14_code 67 = .ok (.iinc 7 (-1), 3) := by decide +kernel
theorem d20_70 : decode jdk_35_method_14_code 70 = .ok (.iload 7, 2) := by decide +kernel
theorem d20_72 : decode jdk_35_method_14_code 72 = .ok (.getstatic 137, 3) := by decide +kernel
theorem d20_75 : decode jdk_35_method_14_code 75 = .ok (.iload 6, 2) := by decide +kernel
theorem d20_77 : decode jdk_35_method_14_code 77 = .ok (.baload, 1) := by decide +kernel
theorem d20_78 : decode jdk_35_method_14_code 78 = .ok (.bastore, 1) := by decide +kernel
theorem d20_79 : decode jdk_35_method_14_code 79 = .ok (.goto (-55), 3) := by decide +kernel
theorem d20_82 : decode jdk_35_method_14_code 82 = .ok (.lload_n 0, 1) := by decide +kernel
theorem d20_83 : decode jdk_35_method_14_code 83 = .ok (.l2i, 1) := by decide +kernel
theorem d20_84 : decode jdk_35_method_14_code 84 = .ok (.istore 10, 2) := by decide +kernel
theorem d20_86 : decode jdk_35_method_14_code 86 = .ok (.iload 10, 2) := by decide +kernel
theorem d20_88 : decode jdk_35_method_14_code 88 = .ok (.bipush (-100), 2) := by decide +kernel
theorem d20_90 : decode jdk_35_method_14_code 90 = .ok (.if_icmp .gt 53, 3) := by decide +kernel
theorem d20_93 : decode jdk_35_method_14_code 93 = .ok (.iload 10, 2) := by decide +kernel
theorem d20_95 : decode jdk_35_method_14_code 95 = .ok (.bipush 100, 2) := by decide +kernel
theorem d20_97 : decode jdk_35_method_14_code 97 = .ok (.idiv, 1) := by decide +kernel
theorem d20_98 : decode jdk_35_method_14_code 98 = .ok (.istore 9, 2) := by decide +kernel
theorem d20_100 : decode jdk_35_method_14_code 100 = .ok (.iload 9, 2) := by decide +kernel
theorem d20_102 : decode jdk_35_method_14_code 102 = .ok (.bipush 100, 2) := by decide +kernel
theorem d20_104 : decode jdk_35_method_14_code 104 = .ok (.imul, 1) := by decide +kernel
theorem d20_105 : decode jdk_35_method_14_code 105 = .ok (.iload 10, 2) := by decide +kernel
theorem d20_107 : decode jdk_35_method_14_code 107 = .ok (.isub, 1) := by decide +kernel
theorem d20_108 : decode jdk_35_method_14_code 108 = .ok (.istore 6, 2) := by decide +kernel
theorem d20_110 : decode jdk_35_method_14_code 110 = .ok (.iload 9, 2) := by decide +kernel
theorem d20_112 : decode jdk_35_method_14_code 112 = .ok (.istore 10, 2) := by decide +kernel
theorem d20_114 : decode jdk_35_method_14_code 114 = .ok (.aload_n 3, 1) := by decide +kernel
theorem d20_115 : decode jdk_35_method_14_code 115 = .ok (.iinc 7 (-1), 3) := by decide +kernel
theorem d20_118 : decode jdk_35_method_14_code 118 = .ok (.iload 7, 2) := by decide +kernel
theorem d20_120 : decode jdk_35_method_14_code 120 = .ok (.getstatic 133, 3) := by decide +kernel
theorem d20_123 : decode jdk_35_method_14_code 123 = .ok (.iload 6, 2) := by decide +kernel
theorem d20_125 : decode jdk_35_method_14_code 125 = .ok (.baload, 1) := by decide +kernel
theorem d20_126 : decode jdk_35_method_14_code 126 = .ok (.bastore, 1) := by decide +kernel
theorem d20_127 : decode jdk_35_method_14_code 127 = .ok (.aload_n 3, 1) := by decide +kernel
theorem d20_128 : decode jdk_35_method_14_code 128 = .ok (.iinc 7 (-1), 3) := by decide +kernel
theorem d20_131 : decode jdk_35_method_14_code 131 = .ok (.iload 7, 2) := by decide +kernel
theorem d20_133 : decode jdk_35_method_14_code 133 = .ok (.getstatic 137, 3) := by decide +kernel
theorem d20_136 : decode jdk_35_method_14_code 136 = .ok (.iload 6, 2) := by decide +kernel
theorem d20_138 : decode jdk_35_method_14_code 138 = .ok (.baload, 1) := by decide +kernel
theorem d20_139 : decode jdk_35_method_14_code 139 = .ok (.bastore, 1) := by decide +kernel
theorem d20_140 : decode jdk_35_method_14_code 140 = .ok (.goto (-54), 3) := by decide +kernel
theorem d20_143 : decode jdk_35_method_14_code 143 = .ok (.aload_n 3, 1) := by decide +kernel
theorem d20_144 : decode jdk_35_method_14_code 144 = .ok (.iinc 7 (-1), 3) := by decide +kernel
theorem d20_147 : decode jdk_35_method_14_code 147 = .ok (.iload 7, 2) := by decide +kernel
theorem d20_149 : decode jdk_35_method_14_code 149 = .ok (.getstatic 133, 3) := by decide +kernel
theorem d20_152 : decode jdk_35_method_14_code 152 = .ok (.iload 10, 2) := by decide +kernel
theorem d20_154 : decode jdk_35_method_14_code 154 = .ok (.ineg, 1) := by decide +kernel
theorem d20_155 : decode jdk_35_method_14_code 155 = .ok (.baload, 1) := by decide +kernel
theorem d20_156 : decode jdk_35_method_14_code 156 = .ok (.bastore, 1) := by decide +kernel
theorem d20_157 : decode jdk_35_method_14_code 157 = .ok (.iload 10, 2) := by decide +kernel
theorem d20_159 : decode jdk_35_method_14_code 159 = .ok (.bipush (-9), 2) := by decide +kernel
theorem d20_161 : decode jdk_35_method_14_code 161 = .ok (.if_icmp .ge 17, 3) := by decide +kernel
theorem d20_164 : decode jdk_35_method_14_code 164 = .ok (.aload_n 3, 1) := by decide +kernel
theorem d20_165 : decode jdk_35_method_14_code 165 = .ok (.iinc 7 (-1), 3) := by decide +kernel
theorem d20_168 : decode jdk_35_method_14_code 168 = .ok (.iload 7, 2) := by decide +kernel
theorem d20_170 : decode jdk_35_method_14_code 170 = .ok (.getstatic 137, 3) := by decide +kernel
theorem d20_173 : decode jdk_35_method_14_code 173 = .ok (.iload 10, 2) := by decide +kernel
theorem d20_175 : decode jdk_35_method_14_code 175 = .ok (.ineg, 1) := by decide +kernel
theorem d20_176 : decode jdk_35_method_14_code 176 = .ok (.baload, 1) := by decide +kernel
theorem d20_177 : decode jdk_35_method_14_code 177 = .ok (.bastore, 1) := by decide +kernel
theorem d20_178 : decode jdk_35_method_14_code 178 = .ok (.iload 8, 2) := by decide +kernel
theorem d20_180 : decode jdk_35_method_14_code 180 = .ok (.ifCond .eq 12, 3) := by decide +kernel
theorem d20_183 : decode jdk_35_method_14_code 183 = .ok (.aload_n 3, 1) := by decide +kernel
theorem d20_184 : decode jdk_35_method_14_code 184 = .ok (.iinc 7 (-1), 3) := by decide +kernel
theorem d20_187 : decode jdk_35_method_14_code 187 = .ok (.iload 7, 2) := by decide +kernel
theorem d20_189 : decode jdk_35_method_14_code 189 = .ok (.bipush 45, 2) := by decide +kernel
theorem d20_191 : decode jdk_35_method_14_code 191 = .ok (.bastore, 1) := by decide +kernel
theorem d20_192 : decode jdk_35_method_14_code 192 = .ok (.iload 7, 2) := by decide +kernel
theorem d20_194 : decode jdk_35_method_14_code 194 = .ok (.ireturn, 1) := by decide +kernel
theorem c_gcL0 (l : Launch) (Z : State) (a0 : Array Value) (hw : ∀ d ∈ tables_1, d.before a0 Z = true) (hEW : EW Z a0 consts_1) (n0 : Nat) (c1 : Int32) (hc1 : ¬ c1 = 0) (S1 : Sta Z Z.heap "java/lang/String" "COMPACT_STRINGS" "Z" (.int c1)) (v2 : Value) (hv2 : v2.isRef = true) (S2 : Sta Z Z.heap "jdk/internal/util/Preconditions" "SIOOBE_FORMATTER" "Ljava/util/function/BiFunction;" v2) (t1 t2 : Addr) (kt1 kt2 : ClassId) (SD1 : Sta Z Z.heap "java/lang/Integer" "DigitOnes" "[B" (.ref t1)) (SD2 : Sta Z Z.heap "java/lang/Integer" "DigitTens" "[B" (.ref t2)) (AD1 : Arv Z Z.heap t1 kt1 .byte 100 dOnes (.int 0)) (AD2 : Arv Z Z.heap t2 kt2 .byte 100 dTens (.int 0)) (b : Addr) (kb : ClassId) (cap : Nat) (bs : List Value) (x : Int64) (M : Nat) {h0 : Heap} (o1 : Old Z n0 h0) (ge_b : n0 ≤ b) (hM : M ≤ 9223372036854775808) (hx : x.toInt = (M : Int)) (hle : bs.length + (ndL M + 0) ≤ cap) (hcap : cap < 2147483648) (Ab : Arv Z h0 b kb .byte (Int32.ofNat cap) bs (.int 0)) :
    Con Z a0 l (⟨"java/lang/Long", "getChars", "(JI[B)I"⟩ : MethodName) jdk_35_method_14_code 11 (some .int) ({ frames := 0, cells := 0, slots := 0, locals := 0 } : Room) [] #[(.long x), (.int (Int32.ofNat (bs.length + (ndL M + 0)))), (.ref b)] consts_1 h0 n0 [b] [b] (VV fun w h so => (∃ z, w = .int z) ∧ Arv Z h b kb .byte (Int32.ofNat cap) (bs ++ (([] : List Value) ++ dgs (ndL M) M)) (.int 0) ∧ so = []) := by
  refine Con.body (plainFor_of_name pn_java_lang_Long) hEW o1 (allS ge_b all0) #[.val (.long x), .second, .val (.int (Int32.ofNat (bs.length + (ndL M + 0)))), .val (.ref b), .unset, .unset, .unset, .unset, .unset, .unset, .unset] (fun m => by first | (simp [entryFrame, mkF, argsToLocals, Value.category]; done) | rfl) ?_
  intro p e s m below meth c B hnm hret hlk G
  have hnp := ndL_pos M
  have ph2 : ∀ (N : Nat) (i2 : Int32) (h : Heap) (P : Nat) (ds : List Value) (sl0 sl1 sl4 sl5 sl6 sl9 : Slot), (sl6 = .unset ∨ ∃ c : Int32, sl6 = .val (.int c)) → (sl9 = .unset ∨ ∃ c : Int32, sl9 = .val (.int c)) → N ≤ 2147483648 → i2.toInt = -(N : Int) → P = ndL N + 0 → P ≤ ndL M + 0 → ([] : List Value) ++ (dgs (ndL N) N ++ ds) = (([] : List Value) ++ dgs (ndL M) M) → Arv Z h b kb .byte (Int32.ofNat cap) (bs ++ List.replicate P (Value.int 0) ++ ds) (.int 0) → Wl Z a0 "java/lang/Long" p l e ({ frames := 0, cells := 0, slots := 0, locals := 0 } : Room) s m #[(.long x), (.int (Int32.ofNat (bs.length + (ndL M + 0)))), (.ref b)] below meth c jdk_35_method_14_code 11 B consts_1 h0 n0 [b] [b] h 0 0 86 #[sl0, sl1, .val (.int (Int32.ofNat (bs.length + (ndL M + 0)))), .val (.ref b), sl4, sl5, sl6, .val (.int (Int32.ofNat (bs.length + P))), .val (.int (0 : Int32)), sl9, .val (.int i2)] [] → Fin Z consts_1 p e below B s h0 n0 [b] ({ frames := 0, cells := 0, slots := 0, locals := 0 } : Room).cells ({ frames := 0, cells := 0, slots := 0, locals := 0 } : Room).slots (VV fun w h so => (∃ z, w = .int z) ∧ Arv Z h b kb .byte (Int32.ofNat cap) (bs ++ (([] : List Value) ++ dgs (ndL M) M)) (.int 0) ∧ so = []) := by
    intro N; induction N using Nat.strongRecOn with
    | _ N ih =>
      intro i2 h P ds sl0 sl1 sl4 sl5 sl6 sl9 hs6 hs9 hN hi hP hPM hT Ab G
      replace G := G.iload 88 d20_86 rfl rfl |>.bipush 90 (-100 : Int32) d20_88 (by decide) rfl
      rcases Nat.lt_or_ge N 100 with hq | hq
      · skip
        replace G := G.icmpT 143 d20_90 (XT.ii_gt_t (i_gt (K := -100) hi rfl (by omega))) (by decide) (by decide)
        rcases Nat.lt_or_ge N 10 with h10 | h10
        · skip
          have hnd : ndL N = 1 := ndL_lt h10
          obtain rfl : P = 1 := by omega
          replace G := G.aloadN 144 d20_143 rfl rfl rfl |>.iincV 147 #[sl0, sl1, .val (.int (Int32.ofNat (bs.length + (ndL M + 0)))), .val (.ref b), sl4, sl5, sl6, .val (.int (Int32.ofNat (bs.length + 0))), .val (.int (0 : Int32)), sl9, .val (.int i2)] (Int32.ofNat (bs.length + 0)) d20_144 rfl (ofn_pred (bs.length + 0)) rfl rfl |>.iload 149 d20_147 rfl rfl |>.gets 152 (host := "") (Or.inl (hw _ (mm 141 rfl))) Via.refl (G.sta SD1) d20_149 rfl |>.iload 154 d20_152 rfl rfl |>.ineg 155 d20_154 rfl |>.top (y := (.int (Int32.ofNat (N)))) (congrArg Value.int (i_neg hq hi)) |>.baload 156 (v := (.int (Int32.ofNat (48 + N % 10)))) (AD1.ext G.old.2) ⟨ofn_nn (by omega), ofn_lt (n := 100) (by omega) (by decide)⟩ (by rw [ofn_nat (by omega)]; exact dOnes_at (by omega)) d20_155 rfl
          obtain ⟨g1, G', As, Ks⟩ := G.bastore 157 (bs.length + 0) Ab ⟨ofn_nn (by omega), ofn_lt (by omega) hcap⟩ (ofn_nat (by omega)) (by simp only [List.length_append, List.length_replicate]; omega) (Or.inl (mm 0 rfl)) (mm 0 rfl) d20_156 rfl
          replace G := G'; clear G'
          replace Ab : Arv Z g1 b kb .byte (Int32.ofNat cap) (bs ++ List.replicate 0 (Value.int 0) ++ ((.int (Int32.ofNat (48 + N % 10))) :: ds)) (.int 0) := by have h := As; rw [dig_b (by omega)] at h; exact Eq.mp (congrArg (fun l => Arv Z g1 b kb .byte (Int32.ofNat cap) l (.int 0)) (setBack bs ds 0 (.int (Int32.ofNat (48 + N % 10))))) h
          replace G := G.iload 159 d20_157 rfl rfl |>.bipush 161 (-9 : Int32) d20_159 (by decide) rfl |>.icmpT 178 d20_161 (XT.ii_ge_t (i_nlt (K := -9) hi rfl (by omega))) (by decide) (by decide) |>.iload 180 d20_178 rfl rfl |>.ifT 192 d20_180 (XT.i0_eq_t rfl) (by decide) (by decide) |>.iload 194 d20_192 rfl rfl
          have he : bs ++ List.replicate 0 (Value.int 0) ++ ((.int (Int32.ofNat (48 + N % 10))) :: ds) = bs ++ (([] : List Value) ++ dgs (ndL M) M) := by rw [← hT, hnd]; simp only [dgs, List.replicate_zero, List.append_nil, List.nil_append, List.append_assoc, List.cons_append]
          rw [he] at Ab
          exact G.retI hret hlk d20_194 [] all0 ⟨_, rfl, ⟨_, rfl⟩, Ab, rfl⟩ (nle rfl) (nle rfl)
        · skip
          have hnd : ndL N = 2 := by rw [ndL_ge h10, ndL_lt (by omega)]
          obtain rfl : P = 2 := by omega
          replace G := G.aloadN 144 d20_143 rfl rfl rfl |>.iincV 147 #[sl0, sl1, .val (.int (Int32.ofNat (bs.length + (ndL M + 0)))), .val (.ref b), sl4, sl5, sl6, .val (.int (Int32.ofNat (bs.length + 1))), .val (.int (0 : Int32)), sl9, .val (.int i2)] (Int32.ofNat (bs.length + 1)) d20_144 rfl (ofn_pred (bs.length + 1)) rfl rfl |>.iload 149 d20_147 rfl rfl |>.gets 152 (host := "") (Or.inl (hw _ (mm 141 rfl))) Via.refl (G.sta SD1) d20_149 rfl |>.iload 154 d20_152 rfl rfl |>.ineg 155 d20_154 rfl |>.top (y := (.int (Int32.ofNat (N)))) (congrArg Value.int (i_neg hq hi)) |>.baload 156 (v := (.int (Int32.ofNat (48 + N % 10)))) (AD1.ext G.old.2) ⟨ofn_nn (by omega), ofn_lt (n := 100) (by omega) (by decide)⟩ (by rw [ofn_nat (by omega)]; exact dOnes_at (by omega)) d20_155 rfl
          obtain ⟨g2, G', As, Ks⟩ := G.bastore 157 (bs.length + 1) Ab ⟨ofn_nn (by omega), ofn_lt (by omega) hcap⟩ (ofn_nat (by omega)) (by simp only [List.length_append, List.length_replicate]; omega) (Or.inl (mm 0 rfl)) (mm 0 rfl) d20_156 rfl
          replace G := G'; clear G'
          replace Ab : Arv Z g2 b kb .byte (Int32.ofNat cap) (bs ++ List.replicate 1 (Value.int 0) ++ ((.int (Int32.ofNat (48 + N % 10))) :: ds)) (.int 0) := by have h := As; rw [dig_b (by omega)] at h; exact Eq.mp (congrArg (fun l => Arv Z g2 b kb .byte (Int32.ofNat cap) l (.int 0)) (setBack bs ds 1 (.int (Int32.ofNat (48 + N % 10))))) h
          replace G := G.iload 159 d20_157 rfl rfl |>.bipush 161 (-9 : Int32) d20_159 (by decide) rfl |>.icmpF 164 d20_161 (XT.ii_ge_f (i_lt (K := -9) hi rfl (by omega))) rfl |>.aloadN 165 d20_164 rfl rfl rfl |>.iincV 168 #[sl0, sl1, .val (.int (Int32.ofNat (bs.length + (ndL M + 0)))), .val (.ref b), sl4, sl5, sl6, .val (.int (Int32.ofNat (bs.length + 0))), .val (.int (0 : Int32)), sl9, .val (.int i2)] (Int32.ofNat (bs.length + 0)) d20_165 rfl (ofn_pred (bs.length + 0)) rfl rfl |>.iload 170 d20_168 rfl rfl |>.gets 173 (host := "") (Or.inl (hw _ (mm 273 rfl))) Via.refl (G.sta SD2) d20_170 rfl |>.iload 175 d20_173 rfl rfl
          replace G := G.ineg 176 d20_175 rfl |>.top (y := (.int (Int32.ofNat (N)))) (congrArg Value.int (i_neg hq hi)) |>.baload 177 (v := (.int (Int32.ofNat (48 + N / 10)))) (AD2.ext G.old.2) ⟨ofn_nn (by omega), ofn_lt (n := 100) (by omega) (by decide)⟩ (by rw [ofn_nat (by omega)]; exact dTens_at (by omega)) d20_176 rfl
          obtain ⟨g3, G', As, Ks⟩ := G.bastore 178 (bs.length + 0) Ab ⟨ofn_nn (by omega), ofn_lt (by omega) hcap⟩ (ofn_nat (by omega)) (by simp only [List.length_append, List.length_replicate]; omega) (Or.inl (mm 0 rfl)) (mm 0 rfl) d20_177 rfl
          replace G := G'; clear G'
          replace Ab : Arv Z g3 b kb .byte (Int32.ofNat cap) (bs ++ List.replicate 0 (Value.int 0) ++ ((.int (Int32.ofNat (48 + N / 10))) :: ((.int (Int32.ofNat (48 + N % 10))) :: ds))) (.int 0) := by have h := As; rw [dig_b (by omega)] at h; exact Eq.mp (congrArg (fun l => Arv Z g3 b kb .byte (Int32.ofNat cap) l (.int 0)) (setBack bs ((.int (Int32.ofNat (48 + N % 10))) :: ds) 0 (.int (Int32.ofNat (48 + N / 10))))) h
          replace G := G.iload 180 d20_178 rfl rfl |>.ifT 192 d20_180 (XT.i0_eq_t rfl) (by decide) (by decide) |>.iload 194 d20_192 rfl rfl
          have he : bs ++ List.replicate 0 (Value.int 0) ++ ((.int (Int32.ofNat (48 + N / 10))) :: ((.int (Int32.ofNat (48 + N % 10))) :: ds)) = bs ++ (([] : List Value) ++ dgs (ndL M) M) := by rw [← hT, hnd]; simp only [dgs, List.replicate_zero, List.append_nil, List.nil_append, List.append_assoc, List.cons_append, show N / 10 % 10 = N / 10 from Nat.mod_eq_of_lt (by omega)]
          rw [he] at Ab
          exact G.retI hret hlk d20_194 [] all0 ⟨_, rfl, ⟨_, rfl⟩, Ab, rfl⟩ (nle rfl) (nle rfl)
      · skip
        replace G := G.icmpF 93 d20_90 (XT.ii_gt_f (i_ngt (K := -100) hi rfl (by omega))) rfl |>.iload 95 d20_93 rfl rfl |>.bipush 97 (100 : Int32) d20_95 (by decide) rfl |>.idiv 98 d20_97 (by decide) rfl
        obtain ⟨q2, eq2, G'⟩ := G.nameI
        replace G := G'; clear G'
        have hq2 : q2.toInt = -((N / 100 : Nat) : Int) := by rw [eq2]; exact iq hi
        replace G := G.istore 100 #[sl0, sl1, .val (.int (Int32.ofNat (bs.length + (ndL M + 0)))), .val (.ref b), sl4, sl5, sl6, .val (.int (Int32.ofNat (bs.length + P))), .val (.int (0 : Int32)), .val (.int q2), .val (.int i2)] d20_98 (by rcases hs9 with rfl | ⟨c, rfl⟩ <;> rfl) rfl |>.iload 102 d20_100 rfl rfl |>.bipush 104 (100 : Int32) d20_102 (by decide) rfl |>.imul 105 d20_104 rfl |>.iload 107 d20_105 rfl rfl |>.isub 108 d20_107 rfl |>.top (y := (.int (Int32.ofNat (N % 100)))) (congrArg Value.int (ir hN hi hq2)) |>.istore 110 #[sl0, sl1, .val (.int (Int32.ofNat (bs.length + (ndL M + 0)))), .val (.ref b), sl4, sl5, .val (.int (Int32.ofNat (N % 100))), .val (.int (Int32.ofNat (bs.length + P))), .val (.int (0 : Int32)), .val (.int q2), .val (.int i2)] d20_108 (by rcases hs6 with rfl | ⟨c, rfl⟩ <;> rfl) rfl
        replace G := G.iload 112 d20_110 rfl rfl |>.istore 114 #[sl0, sl1, .val (.int (Int32.ofNat (bs.length + (ndL M + 0)))), .val (.ref b), sl4, sl5, .val (.int (Int32.ofNat (N % 100))), .val (.int (Int32.ofNat (bs.length + P))), .val (.int (0 : Int32)), .val (.int q2), .val (.int q2)] d20_112 rfl rfl
        have h2 := ndL_100 hq
        obtain ⟨r, rfl⟩ : ∃ r, P = r + 2 := ⟨P - 2, by omega⟩
        replace G := G.aloadN 115 d20_114 rfl rfl rfl |>.iincV 118 #[sl0, sl1, .val (.int (Int32.ofNat (bs.length + (ndL M + 0)))), .val (.ref b), sl4, sl5, .val (.int (Int32.ofNat (N % 100))), .val (.int (Int32.ofNat (bs.length + (r + 1)))), .val (.int (0 : Int32)), .val (.int q2), .val (.int q2)] (Int32.ofNat (bs.length + (r + 1))) d20_115 rfl (ofn_pred (bs.length + (r + 1))) rfl rfl |>.iload 120 d20_118 rfl rfl |>.gets 123 (host := "") (Or.inl (hw _ (mm 141 rfl))) Via.refl (G.sta SD1) d20_120 rfl |>.iload 125 d20_123 rfl rfl |>.baload 126 (v := (.int (Int32.ofNat (48 + N % 100 % 10)))) (AD1.ext G.old.2) ⟨ofn_nn (by omega), ofn_lt (n := 100) (by omega) (by decide)⟩ (by rw [ofn_nat (by omega)]; exact dOnes_at (by omega)) d20_125 rfl
        obtain ⟨g4, G', As, Ks⟩ := G.bastore 127 (bs.length + (r + 1)) Ab ⟨ofn_nn (by omega), ofn_lt (by omega) hcap⟩ (ofn_nat (by omega)) (by simp only [List.length_append, List.length_replicate]; omega) (Or.inl (mm 0 rfl)) (mm 0 rfl) d20_126 rfl
        replace G := G'; clear G'
        replace Ab : Arv Z g4 b kb .byte (Int32.ofNat cap) (bs ++ List.replicate (r + 1) (Value.int 0) ++ ((.int (Int32.ofNat (48 + N % 100 % 10))) :: ds)) (.int 0) := by have h := As; rw [dig_b (by omega)] at h; exact Eq.mp (congrArg (fun l => Arv Z g4 b kb .byte (Int32.ofNat cap) l (.int 0)) (setBack bs ds (r + 1) (.int (Int32.ofNat (48 + N % 100 % 10))))) h
        replace G := G.aloadN 128 d20_127 rfl rfl rfl |>.iincV 131 #[sl0, sl1, .val (.int (Int32.ofNat (bs.length + (ndL M + 0)))), .val (.ref b), sl4, sl5, .val (.int (Int32.ofNat (N % 100))), .val (.int (Int32.ofNat (bs.length + r))), .val (.int (0 : Int32)), .val (.int q2), .val (.int q2)] (Int32.ofNat (bs.length + r)) d20_128 rfl (ofn_pred (bs.length + r)) rfl rfl |>.iload 133 d20_131 rfl rfl |>.gets 136 (host := "") (Or.inl (hw _ (mm 273 rfl))) Via.refl (G.sta SD2) d20_133 rfl |>.iload 138 d20_136 rfl rfl |>.baload 139 (v := (.int (Int32.ofNat (48 + N % 100 / 10)))) (AD2.ext G.old.2) ⟨ofn_nn (by omega), ofn_lt (n := 100) (by omega) (by decide)⟩ (by rw [ofn_nat (by omega)]; exact dTens_at (by omega)) d20_138 rfl
        obtain ⟨g5, G', As, Ks⟩ := G.bastore 140 (bs.length + r) Ab ⟨ofn_nn (by omega), ofn_lt (by omega) hcap⟩ (ofn_nat (by omega)) (by simp only [List.length_append, List.length_replicate]; omega) (Or.inl (mm 0 rfl)) (mm 0 rfl) d20_139 rfl
        replace G := G'; clear G'
        replace Ab : Arv Z g5 b kb .byte (Int32.ofNat cap) (bs ++ List.replicate r (Value.int 0) ++ ((.int (Int32.ofNat (48 + N % 100 / 10))) :: ((.int (Int32.ofNat (48 + N % 100 % 10))) :: ds))) (.int 0) := by have h := As; rw [dig_b (by omega)] at h; exact Eq.mp (congrArg (fun l => Arv Z g5 b kb .byte (Int32.ofNat cap) l (.int 0)) (setBack bs ((.int (Int32.ofNat (48 + N % 100 % 10))) :: ds) r (.int (Int32.ofNat (48 + N % 100 / 10))))) h
        replace G := G.goto 86 d20_140 (by decide) (by decide)
        exact ih (N / 100) (by omega) q2 _ r ((.int (Int32.ofNat (48 + N % 100 / 10))) :: ((.int (Int32.ofNat (48 + N % 100 % 10))) :: ds)) _ _ _ _ _ _ (Or.inr ⟨_, rfl⟩) (Or.inr ⟨_, rfl⟩) (by omega) hq2 (by omega) (by omega) (by rw [h2, dgs_two] at hT; exact hT) Ab G
  have ph1 : ∀ (N : Nat) (xx : Int64) (h : Heap) (P : Nat) (ds : List Value) (sl4 sl5 sl6 : Slot), ((sl4 = .unset ∧ sl5 = .unset) ∨ ∃ c : Int64, sl4 = .val (.long c) ∧ sl5 = .second) → (sl6 = .unset ∨ ∃ c : Int32, sl6 = .val (.int c)) → N ≤ 9223372036854775808 → xx.toInt = -(N : Int) → P = ndL N + 0 → P ≤ ndL M + 0 → ([] : List Value) ++ (dgs (ndL N) N ++ ds) = (([] : List Value) ++ dgs (ndL M) M) → Arv Z h b kb .byte (Int32.ofNat cap) (bs ++ List.replicate P (Value.int 0) ++ ds) (.int 0) → Wl Z a0 "java/lang/Long" p l e ({ frames := 0, cells := 0, slots := 0, locals := 0 } : Room) s m #[(.long x), (.int (Int32.ofNat (bs.length + (ndL M + 0)))), (.ref b)] below meth c jdk_35_method_14_code 11 B consts_1 h0 n0 [b] [b] h 0 0 24 #[.val (.long xx), .second, .val (.int (Int32.ofNat (bs.length + (ndL M + 0)))), .val (.ref b), sl4, sl5, sl6, .val (.int (Int32.ofNat (bs.length + P))), .val (.int (0 : Int32)), .unset, .unset] [] → Fin Z consts_1 p e below B s h0 n0 [b] ({ frames := 0, cells := 0, slots := 0, locals := 0 } : Room).cells ({ frames := 0, cells := 0, slots := 0, locals := 0 } : Room).slots (VV fun w h so => (∃ z, w = .int z) ∧ Arv Z h b kb .byte (Int32.ofNat cap) (bs ++ (([] : List Value) ++ dgs (ndL M) M)) (.int 0) ∧ so = []) := by
    intro N; induction N using Nat.strongRecOn with
    | _ N ih =>
      intro xx h P ds sl4 sl5 sl6 hs4 hs6 hN hy hP hPM hT Ab G
      replace G := G.lloadN 25 d20_24 rfl rfl |>.ldc2J 28 (hw _ (mm 140 rfl)) d20_25 rfl |>.lcmp 29 d20_28 rfl
      rcases Nat.lt_or_ge N 2147483648 with hq | hq
      · skip
        replace G := G.ifT 82 d20_29 (XT.ll_gt_t (l_gt (K := -2147483648) hy rfl (by omega))) (by decide) (by decide) |>.lloadN 83 d20_82 rfl rfl |>.l2i 84 d20_83 rfl
        obtain ⟨i2, ei2, G'⟩ := G.nameI
        replace G := G'; clear G'
        have hi2 : i2.toInt = -(N : Int) := by rw [ei2]; exact l_i (by omega) hy
        replace G := G.istore 86 #[.val (.long xx), .second, .val (.int (Int32.ofNat (bs.length + (ndL M + 0)))), .val (.ref b), sl4, sl5, sl6, .val (.int (Int32.ofNat (bs.length + P))), .val (.int (0 : Int32)), .unset, .val (.int i2)] d20_84 rfl rfl
        exact ph2 N i2 _ P ds _ _ _ _ _ _ hs6 (Or.inl rfl) (by omega) hi2 hP hPM hT Ab G
      · skip
        replace G := G.ifF 32 d20_29 (XT.ll_gt_f (l_ngt (K := -2147483648) hy rfl (by omega))) rfl |>.lloadN 33 d20_32 rfl rfl |>.ldc2J 36 (hw _ (mm 291 rfl)) d20_33 rfl |>.ldiv 37 d20_36 (by decide) rfl
        obtain ⟨q1, eq1, G'⟩ := G.nameJ
        replace G := G'; clear G'
        have hq1 : q1.toInt = -((N / 100 : Nat) : Int) := by rw [eq1]; exact lq hy
        replace G := G.lstore 39 #[.val (.long xx), .second, .val (.int (Int32.ofNat (bs.length + (ndL M + 0)))), .val (.ref b), .val (.long q1), .second, sl6, .val (.int (Int32.ofNat (bs.length + P))), .val (.int (0 : Int32)), .unset, .unset] d20_37 (by rcases hs4 with ⟨rfl, rfl⟩ | ⟨c, rfl, rfl⟩ <;> rfl) rfl |>.lload 41 d20_39 rfl rfl |>.ldc2J 44 (hw _ (mm 291 rfl)) d20_41 rfl |>.lmul 45 d20_44 rfl |>.lloadN 46 d20_45 rfl rfl |>.lsub 47 d20_46 rfl |>.l2i 48 d20_47 rfl |>.top (y := (.int (Int32.ofNat (N % 100)))) (congrArg Value.int (lr hN hy hq1))
        replace G := G.istore 50 #[.val (.long xx), .second, .val (.int (Int32.ofNat (bs.length + (ndL M + 0)))), .val (.ref b), .val (.long q1), .second, .val (.int (Int32.ofNat (N % 100))), .val (.int (Int32.ofNat (bs.length + P))), .val (.int (0 : Int32)), .unset, .unset] d20_48 (by rcases hs6 with rfl | ⟨c, rfl⟩ <;> rfl) rfl |>.lload 52 d20_50 rfl rfl |>.lstoreN 53 #[.val (.long q1), .second, .val (.int (Int32.ofNat (bs.length + (ndL M + 0)))), .val (.ref b), .val (.long q1), .second, .val (.int (Int32.ofNat (N % 100))), .val (.int (Int32.ofNat (bs.length + P))), .val (.int (0 : Int32)), .unset, .unset] d20_52 rfl rfl
        have h2 := ndL_100 (M := N) (by omega)
        obtain ⟨r, rfl⟩ : ∃ r, P = r + 2 := ⟨P - 2, by omega⟩
        replace G := G.aloadN 54 d20_53 rfl rfl rfl |>.iincV 57 #[.val (.long q1), .second, .val (.int (Int32.ofNat (bs.length + (ndL M + 0)))), .val (.ref b), .val (.long q1), .second, .val (.int (Int32.ofNat (N % 100))), .val (.int (Int32.ofNat (bs.length + (r + 1)))), .val (.int (0 : Int32)), .unset, .unset] (Int32.ofNat (bs.length + (r + 1))) d20_54 rfl (ofn_pred (bs.length + (r + 1))) rfl rfl |>.iload 59 d20_57 rfl rfl |>.gets 62 (host := "") (Or.inl (hw _ (mm 141 rfl))) Via.refl (G.sta SD1) d20_59 rfl |>.iload 64 d20_62 rfl rfl |>.baload 65 (v := (.int (Int32.ofNat (48 + N % 100 % 10)))) (AD1.ext G.old.2) ⟨ofn_nn (by omega), ofn_lt (n := 100) (by omega) (by decide)⟩ (by rw [ofn_nat (by omega)]; exact dOnes_at (by omega)) d20_64 rfl
        obtain ⟨g6, G', As, Ks⟩ := G.bastore 66 (bs.length + (r + 1)) Ab ⟨ofn_nn (by omega), ofn_lt (by omega) hcap⟩ (ofn_nat (by omega)) (by simp only [List.length_append, List.length_replicate]; omega) (Or.inl (mm 0 rfl)) (mm 0 rfl) d20_65 rfl
        replace G := G'; clear G'
        replace Ab : Arv Z g6 b kb .byte (Int32.ofNat cap) (bs ++ List.replicate (r + 1) (Value.int 0) ++ ((.int (Int32.ofNat (48 + N % 100 % 10))) :: ds)) (.int 0) := by have h := As; rw [dig_b (by omega)] at h; exact Eq.mp (congrArg (fun l => Arv Z g6 b kb .byte (Int32.ofNat cap) l (.int 0)) (setBack bs ds (r + 1) (.int (Int32.ofNat (48 + N % 100 % 10))))) h
        replace G := G.aloadN 67 d20_66 rfl rfl rfl |>.iincV 70 #[.val (.long q1), .second, .val (.int (Int32.ofNat (bs.length + (ndL M + 0)))), .val (.ref b), .val (.long q1), .second, .val (.int (Int32.ofNat (N % 100))), .val (.int (Int32.ofNat (bs.length + r))), .val (.int (0 : Int32)), .unset, .unset] (Int32.ofNat (bs.length + r)) d20_67 rfl (ofn_pred (bs.length + r)) rfl rfl |>.iload 72 d20_70 rfl rfl |>.gets 75 (host := "") (Or.inl (hw _ (mm 273 rfl))) Via.refl (G.sta SD2) d20_72 rfl |>.iload 77 d20_75 rfl rfl |>.baload 78 (v := (.int (Int32.ofNat (48 + N % 100 / 10)))) (AD2.ext G.old.2) ⟨ofn_nn (by omega), ofn_lt (n := 100) (by omega) (by decide)⟩ (by rw [ofn_nat (by omega)]; exact dTens_at (by omega)) d20_77 rfl
        obtain ⟨g7, G', As, Ks⟩ := G.bastore 79 (bs.length + r) Ab ⟨ofn_nn (by omega), ofn_lt (by omega) hcap⟩ (ofn_nat (by omega)) (by simp only [List.length_append, List.length_replicate]; omega) (Or.inl (mm 0 rfl)) (mm 0 rfl) d20_78 rfl
        replace G := G'; clear G'
        replace Ab : Arv Z g7 b kb .byte (Int32.ofNat cap) (bs ++ List.replicate r (Value.int 0) ++ ((.int (Int32.ofNat (48 + N % 100 / 10))) :: ((.int (Int32.ofNat (48 + N % 100 % 10))) :: ds))) (.int 0) := by have h := As; rw [dig_b (by omega)] at h; exact Eq.mp (congrArg (fun l => Arv Z g7 b kb .byte (Int32.ofNat cap) l (.int 0)) (setBack bs ((.int (Int32.ofNat (48 + N % 100 % 10))) :: ds) r (.int (Int32.ofNat (48 + N % 100 / 10))))) h
        replace G := G.goto 24 d20_79 (by decide) (by decide)
        exact ih (N / 100) (by omega) q1 _ r ((.int (Int32.ofNat (48 + N % 100 / 10))) :: ((.int (Int32.ofNat (48 + N % 100 % 10))) :: ds)) _ _ _ (Or.inr ⟨_, rfl, rfl⟩) (Or.inr ⟨_, rfl⟩) (by omega) hq1 (by omega) (by omega) (by rw [h2, dgs_two] at hT; exact hT) Ab G
  replace G := G.iloadN 1 d20_0 rfl rfl |>.istore 3 #[.val (.long x), .second, .val (.int (Int32.ofNat (bs.length + (ndL M + 0)))), .val (.ref b), .unset, .unset, .unset, .val (.int (Int32.ofNat (bs.length + (ndL M + 0)))), .unset, .unset, .unset] d20_1 rfl rfl |>.lloadN 4 d20_3 rfl rfl |>.lconst0 5 d20_4 rfl |>.lcmp 6 d20_5 rfl |>.ifT 13 d20_6 (XT.ll_ge_t (by rw [Int64.lt_iff_toInt_lt, hx]; show ¬ (M : Int) < 0; omega)) (by decide) (by decide) |>.iconst 14 (0 : Int32) d20_13 rfl rfl |>.istore 16 #[.val (.long x), .second, .val (.int (Int32.ofNat (bs.length + (ndL M + 0)))), .val (.ref b), .unset, .unset, .unset, .val (.int (Int32.ofNat (bs.length + (ndL M + 0)))), .val (.int (0 : Int32)), .unset, .unset] d20_14 rfl rfl
  replace G := G.iload 18 d20_16 rfl rfl |>.ifF 21 d20_18 (XT.i0_ne_f rfl) rfl |>.lloadN 22 d20_21 rfl rfl |>.lneg 23 d20_22 rfl
  obtain ⟨xn, exn, G'⟩ := G.nameJ
  replace G := G'; clear G'
  have hy : xn.toInt = -(M : Int) := by rw [exn]; exact l_neg hx
  replace G := G.lstoreN 24 #[.val (.long xn), .second, .val (.int (Int32.ofNat (bs.length + (ndL M + 0)))), .val (.ref b), .unset, .unset, .unset, .val (.int (Int32.ofNat (bs.length + (ndL M + 0)))), .val (.int (0 : Int32)), .unset, .unset] d20_23 rfl rfl
  have Ab' := Ab.pad (vs' := bs ++ List.replicate (ndL M + 0) (Value.int 0) ++ []) (by rw [List.append_nil]; exact pad_rep bs (.int 0) _)
  exact ph1 M xn _ (ndL M + 0) [] _ _ _ (Or.inl ⟨rfl, rfl⟩) (Or.inl rfl) hM hy rfl (Nat.le_refl _) (by rw [List.append_nil]) Ab' G
theorem c_gcL1 (l : Launch) (Z : State) (a0 : Array Value) (hw : ∀ d ∈ tables_1, d.before a0 Z = true) (hEW : EW Z a0 consts_1) (n0 : Nat) (c1 : Int32) (hc1 : ¬ c1 = 0) (S1 : Sta Z Z.heap "java/lang/String" "COMPACT_STRINGS" "Z" (.int c1)) (v2 : Value) (hv2 : v2.isRef = true) (S2 : Sta Z Z.heap "jdk/internal/util/Preconditions" "SIOOBE_FORMATTER" "Ljava/util/function/BiFunction;" v2) (t1 t2 : Addr) (kt1 kt2 : ClassId) (SD1 : Sta Z Z.heap "java/lang/Integer" "DigitOnes" "[B" (.ref t1)) (SD2 : Sta Z Z.heap "java/lang/Integer" "DigitTens" "[B" (.ref t2)) (AD1 : Arv Z Z.heap t1 kt1 .byte 100 dOnes (.int 0)) (AD2 : Arv Z Z.heap t2 kt2 .byte 100 dTens (.int 0)) (b : Addr) (kb : ClassId) (cap : Nat) (bs : List Value) (x : Int64) (M : Nat) {h0 : Heap} (o1 : Old Z n0 h0) (ge_b : n0 ≤ b) (hM : M ≤ 9223372036854775808) (h0' : 0 < M) (hx : x.toInt = -(M : Int)) (hle : bs.length + (ndL M + 1) ≤ cap) (hcap : cap < 2147483648) (Ab : Arv Z h0 b kb .byte (Int32.ofNat cap) bs (.int 0)) :
    Con Z a0 l (⟨"java/lang/Long", "getChars", "(JI[B)I"⟩ : MethodName) jdk_35_method_14_code 11 (some .int) ({ frames := 0, cells := 0, slots := 0, locals := 0 } : Room) [] #[(.long x), (.int (Int32.ofNat (bs.length + (ndL M + 1)))), (.ref b)] consts_1 h0 n0 [b] [b] (VV fun w h so => (∃ z, w = .int z) ∧ Arv Z h b kb .byte (Int32.ofNat cap) (bs ++ ([Value.int 45] ++ dgs (ndL M) M)) (.int 0) ∧ so = []) := by
  refine Con.body (plainFor_of_name pn_java_lang_Long) hEW o1 (allS ge_b all0) #[.val (.long x), .second, .val (.int (Int32.ofNat (bs.length + (ndL M + 1)))), .val (.ref b), .unset, .unset, .unset, .unset, .unset, .unset, .unset] (fun m => by first | (simp [entryFrame, mkF, argsToLocals, Value.category]; done) | rfl) ?_
  intro p e s m below meth c B hnm hret hlk G
  have hnp := ndL_pos M
  have ph2 : ∀ (N : Nat) (i2 : Int32) (h : Heap) (P : Nat) (ds : List Value) (sl0 sl1 sl4 sl5 sl6 sl9 : Slot), (sl6 = .unset ∨ ∃ c : Int32, sl6 = .val (.int c)) → (sl9 = .unset ∨ ∃ c : Int32, sl9 = .val (.int c)) → N ≤ 2147483648 → i2.toInt = -(N : Int) → P = ndL N + 1 → P ≤ ndL M + 1 → [Value.int 45] ++ (dgs (ndL N) N ++ ds) = ([Value.int 45] ++ dgs (ndL M) M) → Arv Z h b kb .byte (Int32.ofNat cap) (bs ++ List.replicate P (Value.int 0) ++ ds) (.int 0) → Wl Z a0 "java/lang/Long" p l e ({ frames := 0, cells := 0, slots := 0, locals := 0 } : Room) s m #[(.long x), (.int (Int32.ofNat (bs.length + (ndL M + 1)))), (.ref b)] below meth c jdk_35_method_14_code 11 B consts_1 h0 n0 [b] [b] h 0 0 86 #[sl0, sl1, .val (.int (Int32.ofNat (bs.length + (ndL M + 1)))), .val (.ref b), sl4, sl5, sl6, .val (.int (Int32.ofNat (bs.length + P))), .val (.int (1 : Int32)), sl9, .val (.int i2)] [] → Fin Z consts_1 p e below B s h0 n0 [b] ({ frames := 0, cells := 0, slots := 0, locals := 0 } : Room).cells ({ frames := 0, cells := 0, slots := 0, locals := 0 } : Room).slots (VV fun w h so => (∃ z, w = .int z) ∧ Arv Z h b kb .byte (Int32.ofNat cap) (bs ++ ([Value.int 45] ++ dgs (ndL M) M)) (.int 0) ∧ so = []) := by
    intro N; induction N using Nat.strongRecOn with
    | _ N ih =>
      intro i2 h P ds sl0 sl1 sl4 sl5 sl6 sl9 hs6 hs9 hN hi hP hPM hT Ab G
      replace G := G.iload 88 d20_86 rfl rfl |>.bipush 90 (-100 : Int32) d20_88 (by decide) rfl
      rcases Nat.lt_or_ge N 100 with hq | hq
      · skip
        replace G := G.icmpT 143 d20_90 (XT.ii_gt_t (i_gt (K := -100) hi rfl (by omega))) (by decide) (by decide)
        rcases Nat.lt_or_ge N 10 with h10 | h10
        · skip
          have hnd : ndL N = 1 := ndL_lt h10
          obtain rfl : P = 2 := by omega
          replace G := G.aloadN 144 d20_143 rfl rfl rfl |>.iincV 147 #[sl0, sl1, .val (.int (Int32.ofNat (bs.length + (ndL M + 1)))), .val (.ref b), sl4, sl5, sl6, .val (.int (Int32.ofNat (bs.length + 1))), .val (.int (1 : Int32)), sl9, .val (.int i2)] (Int32.ofNat (bs.length + 1)) d20_144 rfl (ofn_pred (bs.length + 1)) rfl rfl |>.iload 149 d20_147 rfl rfl |>.gets 152 (host := "") (Or.inl (hw _ (mm 141 rfl))) Via.refl (G.sta SD1) d20_149 rfl |>.iload 154 d20_152 rfl rfl |>.ineg 155 d20_154 rfl |>.top (y := (.int (Int32.ofNat (N)))) (congrArg Value.int (i_neg hq hi)) |>.baload 156 (v := (.int (Int32.ofNat (48 + N % 10)))) (AD1.ext G.old.2) ⟨ofn_nn (by omega), ofn_lt (n := 100) (by omega) (by decide)⟩ (by rw [ofn_nat (by omega)]; exact dOnes_at (by omega)) d20_155 rfl
          obtain ⟨g1, G', As, Ks⟩ := G.bastore 157 (bs.length + 1) Ab ⟨ofn_nn (by omega), ofn_lt (by omega) hcap⟩ (ofn_nat (by omega)) (by simp only [List.length_append, List.length_replicate]; omega) (Or.inl (mm 0 rfl)) (mm 0 rfl) d20_156 rfl
          replace G := G'; clear G'
          replace Ab : Arv Z g1 b kb .byte (Int32.ofNat cap) (bs ++ List.replicate 1 (Value.int 0) ++ ((.int (Int32.ofNat (48 + N % 10))) :: ds)) (.int 0) := by have h := As; rw [dig_b (by omega)] at h; exact Eq.mp (congrArg (fun l => Arv Z g1 b kb .byte (Int32.ofNat cap) l (.int 0)) (setBack bs ds 1 (.int (Int32.ofNat (48 + N % 10))))) h
          replace G := G.iload 159 d20_157 rfl rfl |>.bipush 161 (-9 : Int32) d20_159 (by decide) rfl |>.icmpT 178 d20_161 (XT.ii_ge_t (i_nlt (K := -9) hi rfl (by omega))) (by decide) (by decide) |>.iload 180 d20_178 rfl rfl |>.ifF 183 d20_180 (XT.i0_eq_f (by decide)) rfl |>.aloadN 184 d20_183 rfl rfl rfl |>.iincV 187 #[sl0, sl1, .val (.int (Int32.ofNat (bs.length + (ndL M + 1)))), .val (.ref b), sl4, sl5, sl6, .val (.int (Int32.ofNat (bs.length + 0))), .val (.int (1 : Int32)), sl9, .val (.int i2)] (Int32.ofNat (bs.length + 0)) d20_184 rfl (ofn_pred (bs.length + 0)) rfl rfl |>.iload 189 d20_187 rfl rfl
          replace G := G.bipush 191 (45 : Int32) d20_189 (by decide) rfl
          obtain ⟨g2, G', As, Ks⟩ := G.bastore 192 (bs.length + 0) Ab ⟨ofn_nn (by omega), ofn_lt (by omega) hcap⟩ (ofn_nat (by omega)) (by simp only [List.length_append, List.length_replicate]; omega) (Or.inl (mm 0 rfl)) (mm 0 rfl) d20_191 rfl
          replace G := G'; clear G'
          replace Ab : Arv Z g2 b kb .byte (Int32.ofNat cap) (bs ++ List.replicate 0 (Value.int 0) ++ ((.int 45) :: ((.int (Int32.ofNat (48 + N % 10))) :: ds))) (.int 0) := by have h := As; rw [show (45 : Int32).toInt8.toInt32 = 45 by decide] at h; exact Eq.mp (congrArg (fun l => Arv Z g2 b kb .byte (Int32.ofNat cap) l (.int 0)) (setBack bs ((.int (Int32.ofNat (48 + N % 10))) :: ds) 0 (.int 45))) h
          replace G := G.iload 194 d20_192 rfl rfl
          have he : bs ++ List.replicate 0 (Value.int 0) ++ ((.int 45) :: ((.int (Int32.ofNat (48 + N % 10))) :: ds)) = bs ++ ([Value.int 45] ++ dgs (ndL M) M) := by rw [← hT, hnd]; simp only [dgs, List.replicate_zero, List.append_nil, List.nil_append, List.append_assoc, List.cons_append]
          rw [he] at Ab
          exact G.retI hret hlk d20_194 [] all0 ⟨_, rfl, ⟨_, rfl⟩, Ab, rfl⟩ (nle rfl) (nle rfl)
        · skip
          have hnd : ndL N = 2 := by rw [ndL_ge h10, ndL_lt (by omega)]
          obtain rfl : P = 3 := by omega
          replace G := G.aloadN 144 d20_143 rfl rfl rfl |>.iincV 147 #[sl0, sl1, .val (.int (Int32.ofNat (bs.length + (ndL M + 1)))), .val (.ref b), sl4, sl5, sl6, .val (.int (Int32.ofNat (bs.length + 2))), .val (.int (1 : Int32)), sl9, .val (.int i2)] (Int32.ofNat (bs.length + 2)) d20_144 rfl (ofn_pred (bs.length + 2)) rfl rfl |>.iload 149 d20_147 rfl rfl |>.gets 152 (host := "") (Or.inl (hw _ (mm 141 rfl))) Via.refl (G.sta SD1) d20_149 rfl |>.iload 154 d20_152 rfl rfl |>.ineg 155 d20_154 rfl |>.top (y := (.int (Int32.ofNat (N)))) (congrArg Value.int (i_neg hq hi)) |>.baload 156 (v := (.int (Int32.ofNat (48 + N % 10)))) (AD1.ext G.old.2) ⟨ofn_nn (by omega), ofn_lt (n := 100) (by omega) (by decide)⟩ (by rw [ofn_nat (by omega)]; exact dOnes_at (by omega)) d20_155 rfl
          obtain ⟨g3, G', As, Ks⟩ := G.bastore 157 (bs.length + 2) Ab ⟨ofn_nn (by omega), ofn_lt (by omega) hcap⟩ (ofn_nat (by omega)) (by simp only [List.length_append, List.length_replicate]; omega) (Or.inl (mm 0 rfl)) (mm 0 rfl) d20_156 rfl
          replace G := G'; clear G'
          replace Ab : Arv Z g3 b kb .byte (Int32.ofNat cap) (bs ++ List.replicate 2 (Value.int 0) ++ ((.int (Int32.ofNat (48 + N % 10))) :: ds)) (.int 0) := by have h := As; rw [dig_b (by omega)] at h; exact Eq.mp (congrArg (fun l => Arv Z g3 b kb .byte (Int32.ofNat cap) l (.int 0)) (setBack bs ds 2 (.int (Int32.ofNat (48 + N % 10))))) h
          replace G := G.iload 159 d20_157 rfl rfl |>.bipush 161 (-9 : Int32) d20_159 (by decide) rfl |>.icmpF 164 d20_161 (XT.ii_ge_f (i_lt (K := -9) hi rfl (by omega))) rfl |>.aloadN 165 d20_164 rfl rfl rfl |>.iincV 168 #[sl0, sl1, .val (.int (Int32.ofNat (bs.length + (ndL M + 1)))), .val (.ref b), sl4, sl5, sl6, .val (.int (Int32.ofNat (bs.length + 1))), .val (.int (1 : Int32)), sl9, .val (.int i2)] (Int32.ofNat (bs.length + 1)) d20_165 rfl (ofn_pred (bs.length + 1)) rfl rfl |>.iload 170 d20_168 rfl rfl |>.gets 173 (host := "") (Or.inl (hw _ (mm 273 rfl))) Via.refl (G.sta SD2) d20_170 rfl |>.iload 175 d20_173 rfl rfl
          replace G := G.ineg 176 d20_175 rfl |>.top (y := (.int (Int32.ofNat (N)))) (congrArg Value.int (i_neg hq hi)) |>.baload 177 (v := (.int (Int32.ofNat (48 + N / 10)))) (AD2.ext G.old.2) ⟨ofn_nn (by omega), ofn_lt (n := 100) (by omega) (by decide)⟩ (by rw [ofn_nat (by omega)]; exact dTens_at (by omega)) d20_176 rfl
          obtain ⟨g4, G', As, Ks⟩ := G.bastore 178 (bs.length + 1) Ab ⟨ofn_nn (by omega), ofn_lt (by omega) hcap⟩ (ofn_nat (by omega)) (by simp only [List.length_append, List.length_replicate]; omega) (Or.inl (mm 0 rfl)) (mm 0 rfl) d20_177 rfl
          replace G := G'; clear G'
          replace Ab : Arv Z g4 b kb .byte (Int32.ofNat cap) (bs ++ List.replicate 1 (Value.int 0) ++ ((.int (Int32.ofNat (48 + N / 10))) :: ((.int (Int32.ofNat (48 + N % 10))) :: ds))) (.int 0) := by have h := As; rw [dig_b (by omega)] at h; exact Eq.mp (congrArg (fun l => Arv Z g4 b kb .byte (Int32.ofNat cap) l (.int 0)) (setBack bs ((.int (Int32.ofNat (48 + N % 10))) :: ds) 1 (.int (Int32.ofNat (48 + N / 10))))) h
          replace G := G.iload 180 d20_178 rfl rfl |>.ifF 183 d20_180 (XT.i0_eq_f (by decide)) rfl |>.aloadN 184 d20_183 rfl rfl rfl |>.iincV 187 #[sl0, sl1, .val (.int (Int32.ofNat (bs.length + (ndL M + 1)))), .val (.ref b), sl4, sl5, sl6, .val (.int (Int32.ofNat (bs.length + 0))), .val (.int (1 : Int32)), sl9, .val (.int i2)] (Int32.ofNat (bs.length + 0)) d20_184 rfl (ofn_pred (bs.length + 0)) rfl rfl |>.iload 189 d20_187 rfl rfl |>.bipush 191 (45 : Int32) d20_189 (by decide) rfl
          obtain ⟨g5, G', As, Ks⟩ := G.bastore 192 (bs.length + 0) Ab ⟨ofn_nn (by omega), ofn_lt (by omega) hcap⟩ (ofn_nat (by omega)) (by simp only [List.length_append, List.length_replicate]; omega) (Or.inl (mm 0 rfl)) (mm 0 rfl) d20_191 rfl
          replace G := G'; clear G'
          replace Ab : Arv Z g5 b kb .byte (Int32.ofNat cap) (bs ++ List.replicate 0 (Value.int 0) ++ ((.int 45) :: ((.int (Int32.ofNat (48 + N / 10))) :: ((.int (Int32.ofNat (48 + N % 10))) :: ds)))) (.int 0) := by have h := As; rw [show (45 : Int32).toInt8.toInt32 = 45 by decide] at h; exact Eq.mp (congrArg (fun l => Arv Z g5 b kb .byte (Int32.ofNat cap) l (.int 0)) (setBack bs ((.int (Int32.ofNat (48 + N / 10))) :: ((.int (Int32.ofNat (48 + N % 10))) :: ds)) 0 (.int 45))) h
          replace G := G.iload 194 d20_192 rfl rfl
          have he : bs ++ List.replicate 0 (Value.int 0) ++ ((.int 45) :: ((.int (Int32.ofNat (48 + N / 10))) :: ((.int (Int32.ofNat (48 + N % 10))) :: ds))) = bs ++ ([Value.int 45] ++ dgs (ndL M) M) := by rw [← hT, hnd]; simp only [dgs, List.replicate_zero, List.append_nil, List.nil_append, List.append_assoc, List.cons_append, show N / 10 % 10 = N / 10 from Nat.mod_eq_of_lt (by omega)]
          rw [he] at Ab
          exact G.retI hret hlk d20_194 [] all0 ⟨_, rfl, ⟨_, rfl⟩, Ab, rfl⟩ (nle rfl) (nle rfl)
      · skip
        replace G := G.icmpF 93 d20_90 (XT.ii_gt_f (i_ngt (K := -100) hi rfl (by omega))) rfl |>.iload 95 d20_93 rfl rfl |>.bipush 97 (100 : Int32) d20_95 (by decide) rfl |>.idiv 98 d20_97 (by decide) rfl
        obtain ⟨q2, eq2, G'⟩ := G.nameI
        replace G := G'; clear G'
        have hq2 : q2.toInt = -((N / 100 : Nat) : Int) := by rw [eq2]; exact iq hi
        replace G := G.istore 100 #[sl0, sl1, .val (.int (Int32.ofNat (bs.length + (ndL M + 1)))), .val (.ref b), sl4, sl5, sl6, .val (.int (Int32.ofNat (bs.length + P))), .val (.int (1 : Int32)), .val (.int q2), .val (.int i2)] d20_98 (by rcases hs9 with rfl | ⟨c, rfl⟩ <;> rfl) rfl |>.iload 102 d20_100 rfl rfl |>.bipush 104 (100 : Int32) d20_102 (by decide) rfl |>.imul 105 d20_104 rfl |>.iload 107 d20_105 rfl rfl |>.isub 108 d20_107 rfl |>.top (y := (.int (Int32.ofNat (N % 100)))) (congrArg Value.int (ir hN hi hq2)) |>.istore 110 #[sl0, sl1, .val (.int (Int32.ofNat (bs.length + (ndL M + 1)))), .val (.ref b), sl4, sl5, .val (.int (Int32.ofNat (N % 100))), .val (.int (Int32.ofNat (bs.length + P))), .val (.int (1 : Int32)), .val (.int q2), .val (.int i2)] d20_108 (by rcases hs6 with rfl | ⟨c, rfl⟩ <;> rfl) rfl
        replace G := G.iload 112 d20_110 rfl rfl |>.istore 114 #[sl0, sl1, .val (.int (Int32.ofNat (bs.length + (ndL M + 1)))), .val (.ref b), sl4, sl5, .val (.int (Int32.ofNat (N % 100))), .val (.int (Int32.ofNat (bs.length + P))), .val (.int (1 : Int32)), .val (.int q2), .val (.int q2)] d20_112 rfl rfl
        have h2 := ndL_100 hq
        obtain ⟨r, rfl⟩ : ∃ r, P = r + 2 := ⟨P - 2, by omega⟩
        replace G := G.aloadN 115 d20_114 rfl rfl rfl |>.iincV 118 #[sl0, sl1, .val (.int (Int32.ofNat (bs.length + (ndL M + 1)))), .val (.ref b), sl4, sl5, .val (.int (Int32.ofNat (N % 100))), .val (.int (Int32.ofNat (bs.length + (r + 1)))), .val (.int (1 : Int32)), .val (.int q2), .val (.int q2)] (Int32.ofNat (bs.length + (r + 1))) d20_115 rfl (ofn_pred (bs.length + (r + 1))) rfl rfl |>.iload 120 d20_118 rfl rfl |>.gets 123 (host := "") (Or.inl (hw _ (mm 141 rfl))) Via.refl (G.sta SD1) d20_120 rfl |>.iload 125 d20_123 rfl rfl |>.baload 126 (v := (.int (Int32.ofNat (48 + N % 100 % 10)))) (AD1.ext G.old.2) ⟨ofn_nn (by omega), ofn_lt (n := 100) (by omega) (by decide)⟩ (by rw [ofn_nat (by omega)]; exact dOnes_at (by omega)) d20_125 rfl
        obtain ⟨g6, G', As, Ks⟩ := G.bastore 127 (bs.length + (r + 1)) Ab ⟨ofn_nn (by omega), ofn_lt (by omega) hcap⟩ (ofn_nat (by omega)) (by simp only [List.length_append, List.length_replicate]; omega) (Or.inl (mm 0 rfl)) (mm 0 rfl) d20_126 rfl
        replace G := G'; clear G'
        replace Ab : Arv Z g6 b kb .byte (Int32.ofNat cap) (bs ++ List.replicate (r + 1) (Value.int 0) ++ ((.int (Int32.ofNat (48 + N % 100 % 10))) :: ds)) (.int 0) := by have h := As; rw [dig_b (by omega)] at h; exact Eq.mp (congrArg (fun l => Arv Z g6 b kb .byte (Int32.ofNat cap) l (.int 0)) (setBack bs ds (r + 1) (.int (Int32.ofNat (48 + N % 100 % 10))))) h
        replace G := G.aloadN 128 d20_127 rfl rfl rfl |>.iincV 131 #[sl0, sl1, .val (.int (Int32.ofNat (bs.length + (ndL M + 1)))), .val (.ref b), sl4, sl5, .val (.int (Int32.ofNat (N % 100))), .val (.int (Int32.ofNat (bs.length + r))), .val (.int (1 : Int32)), .val (.int q2), .val (.int q2)] (Int32.ofNat (bs.length + r)) d20_128 rfl (ofn_pred (bs.length + r)) rfl rfl |>.iload 133 d20_131 rfl rfl |>.gets 136 (host := "") (Or.inl (hw _ (mm 273 rfl))) Via.refl (G.sta SD2) d20_133 rfl |>.iload 138 d20_136 rfl rfl |>.baload 139 (v := (.int (Int32.ofNat (48 + N % 100 / 10)))) (AD2.ext G.old.2) ⟨ofn_nn (by omega), ofn_lt (n := 100) (by omega) (by decide)⟩ (by rw [ofn_nat (by omega)]; exact dTens_at (by omega)) d20_138 rfl
        obtain ⟨g7, G', As, Ks⟩ := G.bastore 140 (bs.length + r) Ab ⟨ofn_nn (by omega), ofn_lt (by omega) hcap⟩ (ofn_nat (by omega)) (by simp only [List.length_append, List.length_replicate]; omega) (Or.inl (mm 0 rfl)) (mm 0 rfl) d20_139 rfl
        replace G := G'; clear G'
        replace Ab : Arv Z g7 b kb .byte (Int32.ofNat cap) (bs ++ List.replicate r (Value.int 0) ++ ((.int (Int32.ofNat (48 + N % 100 / 10))) :: ((.int (Int32.ofNat (48 + N % 100 % 10))) :: ds))) (.int 0) := by have h := As; rw [dig_b (by omega)] at h; exact Eq.mp (congrArg (fun l => Arv Z g7 b kb .byte (Int32.ofNat cap) l (.int 0)) (setBack bs ((.int (Int32.ofNat (48 + N % 100 % 10))) :: ds) r (.int (Int32.ofNat (48 + N % 100 / 10))))) h
        replace G := G.goto 86 d20_140 (by decide) (by decide)
        exact ih (N / 100) (by omega) q2 _ r ((.int (Int32.ofNat (48 + N % 100 / 10))) :: ((.int (Int32.ofNat (48 + N % 100 % 10))) :: ds)) _ _ _ _ _ _ (Or.inr ⟨_, rfl⟩) (Or.inr ⟨_, rfl⟩) (by omega) hq2 (by omega) (by omega) (by rw [h2, dgs_two] at hT; exact hT) Ab G
  have ph1 : ∀ (N : Nat) (xx : Int64) (h : Heap) (P : Nat) (ds : List Value) (sl4 sl5 sl6 : Slot), ((sl4 = .unset ∧ sl5 = .unset) ∨ ∃ c : Int64, sl4 = .val (.long c) ∧ sl5 = .second) → (sl6 = .unset ∨ ∃ c : Int32, sl6 = .val (.int c)) → N ≤ 9223372036854775808 → xx.toInt = -(N : Int) → P = ndL N + 1 → P ≤ ndL M + 1 → [Value.int 45] ++ (dgs (ndL N) N ++ ds) = ([Value.int 45] ++ dgs (ndL M) M) → Arv Z h b kb .byte (Int32.ofNat cap) (bs ++ List.replicate P (Value.int 0) ++ ds) (.int 0) → Wl Z a0 "java/lang/Long" p l e ({ frames := 0, cells := 0, slots := 0, locals := 0 } : Room) s m #[(.long x), (.int (Int32.ofNat (bs.length + (ndL M + 1)))), (.ref b)] below meth c jdk_35_method_14_code 11 B consts_1 h0 n0 [b] [b] h 0 0 24 #[.val (.long xx), .second, .val (.int (Int32.ofNat (bs.length + (ndL M + 1)))), .val (.ref b), sl4, sl5, sl6, .val (.int (Int32.ofNat (bs.length + P))), .val (.int (1 : Int32)), .unset, .unset] [] → Fin Z consts_1 p e below B s h0 n0 [b] ({ frames := 0, cells := 0, slots := 0, locals := 0 } : Room).cells ({ frames := 0, cells := 0, slots := 0, locals := 0 } : Room).slots (VV fun w h so => (∃ z, w = .int z) ∧ Arv Z h b kb .byte (Int32.ofNat cap) (bs ++ ([Value.int 45] ++ dgs (ndL M) M)) (.int 0) ∧ so = []) := by
    intro N; induction N using Nat.strongRecOn with
    | _ N ih =>
      intro xx h P ds sl4 sl5 sl6 hs4 hs6 hN hy hP hPM hT Ab G
      replace G := G.lloadN 25 d20_24 rfl rfl |>.ldc2J 28 (hw _ (mm 140 rfl)) d20_25 rfl |>.lcmp 29 d20_28 rfl
      rcases Nat.lt_or_ge N 2147483648 with hq | hq
      · skip
        replace G := G.ifT 82 d20_29 (XT.ll_gt_t (l_gt (K := -2147483648) hy rfl (by omega))) (by decide) (by decide) |>.lloadN 83 d20_82 rfl rfl |>.l2i 84 d20_83 rfl
        obtain ⟨i2, ei2, G'⟩ := G.nameI
        replace G := G'; clear G'
        have hi2 : i2.toInt = -(N : Int) := by rw [ei2]; exact l_i (by omega) hy
        replace G := G.istore 86 #[.val (.long xx), .second, .val (.int (Int32.ofNat (bs.length + (ndL M + 1)))), .val (.ref b), sl4, sl5, sl6, .val (.int (Int32.ofNat (bs.length + P))), .val (.int (1 : Int32)), .unset, .val (.int i2)] d20_84 rfl rfl
        exact ph2 N i2 _ P ds _ _ _ _ _ _ hs6 (Or.inl rfl) (by omega) hi2 hP hPM hT Ab G
      · skip
        replace G := G.ifF 32 d20_29 (XT.ll_gt_f (l_ngt (K := -2147483648) hy rfl (by omega))) rfl |>.lloadN 33 d20_32 rfl rfl |>.ldc2J 36 (hw _ (mm 291 rfl)) d20_33 rfl |>.ldiv 37 d20_36 (by decide) rfl
        obtain ⟨q1, eq1, G'⟩ := G.nameJ
        replace G := G'; clear G'
        have hq1 : q1.toInt = -((N / 100 : Nat) : Int) := by rw [eq1]; exact lq hy
        replace G := G.lstore 39 #[.val (.long xx), .second, .val (.int (Int32.ofNat (bs.length + (ndL M + 1)))), .val (.ref b), .val (.long q1), .second, sl6, .val (.int (Int32.ofNat (bs.length + P))), .val (.int (1 : Int32)), .unset, .unset] d20_37 (by rcases hs4 with ⟨rfl, rfl⟩ | ⟨c, rfl, rfl⟩ <;> rfl) rfl |>.lload 41 d20_39 rfl rfl |>.ldc2J 44 (hw _ (mm 291 rfl)) d20_41 rfl |>.lmul 45 d20_44 rfl |>.lloadN 46 d20_45 rfl rfl |>.lsub 47 d20_46 rfl |>.l2i 48 d20_47 rfl |>.top (y := (.int (Int32.ofNat (N % 100)))) (congrArg Value.int (lr hN hy hq1))
        replace G := G.istore 50 #[.val (.long xx), .second, .val (.int (Int32.ofNat (bs.length + (ndL M + 1)))), .val (.ref b), .val (.long q1), .second, .val (.int (Int32.ofNat (N % 100))), .val (.int (Int32.ofNat (bs.length + P))), .val (.int (1 : Int32)), .unset, .unset] d20_48 (by rcases hs6 with rfl | ⟨c, rfl⟩ <;> rfl) rfl |>.lload 52 d20_50 rfl rfl |>.lstoreN 53 #[.val (.long q1), .second, .val (.int (Int32.ofNat (bs.length + (ndL M + 1)))), .val (.ref b), .val (.long q1), .second, .val (.int (Int32.ofNat (N % 100))), .val (.int (Int32.ofNat (bs.length + P))), .val (.int (1 : Int32)), .unset, .unset] d20_52 rfl rfl
        have h2 := ndL_100 (M := N) (by omega)
        obtain ⟨r, rfl⟩ : ∃ r, P = r + 2 := ⟨P - 2, by omega⟩
        replace G := G.aloadN 54 d20_53 rfl rfl rfl |>.iincV 57 #[.val (.long q1), .second, .val (.int (Int32.ofNat (bs.length + (ndL M + 1)))), .val (.ref b), .val (.long q1), .second, .val (.int (Int32.ofNat (N % 100))), .val (.int (Int32.ofNat (bs.length + (r + 1)))), .val (.int (1 : Int32)), .unset, .unset] (Int32.ofNat (bs.length + (r + 1))) d20_54 rfl (ofn_pred (bs.length + (r + 1))) rfl rfl |>.iload 59 d20_57 rfl rfl |>.gets 62 (host := "") (Or.inl (hw _ (mm 141 rfl))) Via.refl (G.sta SD1) d20_59 rfl |>.iload 64 d20_62 rfl rfl |>.baload 65 (v := (.int (Int32.ofNat (48 + N % 100 % 10)))) (AD1.ext G.old.2) ⟨ofn_nn (by omega), ofn_lt (n := 100) (by omega) (by decide)⟩ (by rw [ofn_nat (by omega)]; exact dOnes_at (by omega)) d20_64 rfl
        obtain ⟨g8, G', As, Ks⟩ := G.bastore 66 (bs.length + (r + 1)) Ab ⟨ofn_nn (by omega), ofn_lt (by omega) hcap⟩ (ofn_nat (by omega)) (by simp only [List.length_append, List.length_replicate]; omega) (Or.inl (mm 0 rfl)) (mm 0 rfl) d20_65 rfl
        replace G := G'; clear G'
        replace Ab : Arv Z g8 b kb .byte (Int32.ofNat cap) (bs ++ List.replicate (r + 1) (Value.int 0) ++ ((.int (Int32.ofNat (48 + N % 100 % 10))) :: ds)) (.int 0) := by have h := As; rw [dig_b (by omega)] at h; exact Eq.mp (congrArg (fun l => Arv Z g8 b kb .byte (Int32.ofNat cap) l (.int 0)) (setBack bs ds (r + 1) (.int (Int32.ofNat (48 + N % 100 % 10))))) h
        replace G := G.aloadN 67 d20_66 rfl rfl rfl |>.iincV 70 #[.val (.long q1), .second, .val (.int (Int32.ofNat (bs.length + (ndL M + 1)))), .val (.ref b), .val (.long q1), .second, .val (.int (Int32.ofNat (N % 100))), .val (.int (Int32.ofNat (bs.length + r))), .val (.int (1 : Int32)), .unset, .unset] (Int32.ofNat (bs.length + r)) d20_67 rfl (ofn_pred (bs.length + r)) rfl rfl |>.iload 72 d20_70 rfl rfl |>.gets 75 (host := "") (Or.inl (hw _ (mm 273 rfl))) Via.refl (G.sta SD2) d20_72 rfl |>.iload 77 d20_75 rfl rfl |>.baload 78 (v := (.int (Int32.ofNat (48 + N % 100 / 10)))) (AD2.ext G.old.2) ⟨ofn_nn (by omega), ofn_lt (n := 100) (by omega) (by decide)⟩ (by rw [ofn_nat (by omega)]; exact dTens_at (by omega)) d20_77 rfl
        obtain ⟨g9, G', As, Ks⟩ := G.bastore 79 (bs.length + r) Ab ⟨ofn_nn (by omega), ofn_lt (by omega) hcap⟩ (ofn_nat (by omega)) (by simp only [List.length_append, List.length_replicate]; omega) (Or.inl (mm 0 rfl)) (mm 0 rfl) d20_78 rfl
        replace G := G'; clear G'
        replace Ab : Arv Z g9 b kb .byte (Int32.ofNat cap) (bs ++ List.replicate r (Value.int 0) ++ ((.int (Int32.ofNat (48 + N % 100 / 10))) :: ((.int (Int32.ofNat (48 + N % 100 % 10))) :: ds))) (.int 0) := by have h := As; rw [dig_b (by omega)] at h; exact Eq.mp (congrArg (fun l => Arv Z g9 b kb .byte (Int32.ofNat cap) l (.int 0)) (setBack bs ((.int (Int32.ofNat (48 + N % 100 % 10))) :: ds) r (.int (Int32.ofNat (48 + N % 100 / 10))))) h
        replace G := G.goto 24 d20_79 (by decide) (by decide)
        exact ih (N / 100) (by omega) q1 _ r ((.int (Int32.ofNat (48 + N % 100 / 10))) :: ((.int (Int32.ofNat (48 + N % 100 % 10))) :: ds)) _ _ _ (Or.inr ⟨_, rfl, rfl⟩) (Or.inr ⟨_, rfl⟩) (by omega) hq1 (by omega) (by omega) (by rw [h2, dgs_two] at hT; exact hT) Ab G
  replace G := G.iloadN 1 d20_0 rfl rfl |>.istore 3 #[.val (.long x), .second, .val (.int (Int32.ofNat (bs.length + (ndL M + 1)))), .val (.ref b), .unset, .unset, .unset, .val (.int (Int32.ofNat (bs.length + (ndL M + 1)))), .unset, .unset, .unset] d20_1 rfl rfl |>.lloadN 4 d20_3 rfl rfl |>.lconst0 5 d20_4 rfl |>.lcmp 6 d20_5 rfl |>.ifF 9 d20_6 (XT.ll_ge_f (by rw [Int64.lt_iff_toInt_lt, hx]; show -(M : Int) < 0; omega)) rfl |>.iconst 10 (1 : Int32) d20_9 rfl rfl |>.goto 14 d20_10 (by decide) (by decide)
  replace G := G.istore 16 #[.val (.long x), .second, .val (.int (Int32.ofNat (bs.length + (ndL M + 1)))), .val (.ref b), .unset, .unset, .unset, .val (.int (Int32.ofNat (bs.length + (ndL M + 1)))), .val (.int (1 : Int32)), .unset, .unset] d20_14 rfl rfl |>.iload 18 d20_16 rfl rfl |>.ifT 24 d20_18 (XT.i0_ne_t (by decide)) (by decide) (by decide)
  have hy := hx
  have Ab' := Ab.pad (vs' := bs ++ List.replicate (ndL M + 1) (Value.int 0) ++ []) (by rw [List.append_nil]; exact pad_rep bs (.int 0) _)
  exact ph1 M x _ (ndL M + 1) [] _ _ _ (Or.inl ⟨rfl, rfl⟩) (Or.inl rfl) hM hy rfl (Nat.le_refl _) (by rw [List.append_nil]) Ab' G
theorem d17_0 : decode jdk_68_method_33_code 0 = .ok (.aload_n 0, 1) := by decide +kernel
theorem d17_1 : decode jdk_68_method_33_code 1 = .ok (.getfield 79, 3) := by decide +kernel
theorem d17_4 : decode jdk_68_method_33_code 4 = .ok (.istore_n 3, 1) := by decide +kernel
theorem d17_5 : decode jdk_68_method_33_code 5 = .ok (.iload_n 3, 1) := by decide +kernel
theorem d17_6 : decode jdk_68_method_33_code 6 = .ok (.lload_n 1, 1) := by decide +kernel
theorem d17_7 : decode jdk_68_method_33_code 7 = .ok (.invokestatic 254, 3) := by decide +kernel
theorem d17_10 : decode jdk_68_method_33_code 10 = .ok (.iadd, 1) := by decide +kernel
theorem d17_11 : decode jdk_68_method_33_code 11 = .ok (.istore 4, 2) := by decide +kernel
theorem d17_13 : decode jdk_68_method_33_code 13 = .ok (.aload_n 0, 1) := by decide +kernel
theorem d17_14 : decode jdk_68_method_33_code 14 = .ok (.iload 4, 2) := by decide +kernel
theorem d17_16 : decode jdk_68_method_33_code 16 = .ok (.invokevirtual 100, 3) := by decide +kernel
theorem d17_19 : decode jdk_68_method_33_code 19 = .ok (.aload_n 0, 1) := by decide +kernel
theorem d17_20 : decode jdk_68_method_33_code 20 = .ok (.invokevirtual 83, 3) := by decide +kernel
theorem d17_23 : decode jdk_68_method_33_code 23 = .ok (.ifCond .eq 17, 3) := by decide +kernel
theorem d17_26 : decode jdk_68_method_33_code 26 = .ok (.lload_n 1, 1) := by decide +kernel
theorem d17_27 : decode jdk_68_method_33_code 27 = .ok (.iload 4, 2) := by decide +kernel
theorem d17_29 : decode jdk_68_method_33_code 29 = .ok (.aload_n 0, 1) := by decide +kernel
theorem d17_30 : decode jdk_68_method_33_code 30 = .ok (.getfield 15, 3) := by decide +kernel
theorem d17_33 : decode jdk_68_method_33_code 33 = .ok (.invokestatic 259, 3) := by decide +kernel
theorem d17_36 : decode jdk_68_method_33_code 36 = .ok (.pop, 1) := by decide +kernel
theorem d17_37 : decode jdk_68_method_33_code 37 = .ok (.goto 15, 3) := by decide +kernel
theorem d17_40 : decode jdk_68_method_33_code 40 = .ok (.lload_n 1, 1) := by decide +kernel
theorem d17_41 : decode jdk_68_method_33_code 41 = .ok (.iload_n 3, 1) := by decide +kernel
theorem d17_42 : decode jdk_68_method_33_code 42 = .ok (.iload 4, 2) := by decide +kernel
theorem d17_44 : decode jdk_68_method_33_code 44 = .ok (.aload_n 0, 1) := by decide +kernel
theorem d17_45 : decode jdk_68_method_33_code 45 = .ok (.getfield 15, 3) := by decide +kernel
theorem d17_48 : decode jdk_68_method_33_code 48 = .ok (.invokestatic 262, 3) := by decide +kernel
theorem d17_51 : decode jdk_68_method_33_code 51 = .ok (.pop, 1) := by decide +kernel
theorem d17_52 : decode jdk_68_method_33_code 52 = .ok (.aload_n 0, 1) := by decide +kernel
theorem d17_53 : decode jdk_68_method_33_code 53 = .ok (.iload 4, 2) := by decide +kernel
theorem d17_55 : decode jdk_68_method_33_code 55 = .ok (.putfield 79, 3) := by decide +kernel
theorem d17_58 : decode jdk_68_method_33_code 58 = .ok (.aload_n 0, 1) := by decide +kernel
theorem d17_59 : decode jdk_68_method_33_code 59 = .ok (.areturn, 1) := by decide +kernel
theorem c_asbJ0 (l : Launch) (Z : State) (a0 : Array Value) (hw : ∀ d ∈ tables_1, d.before a0 Z = true) (hEW : EW Z a0 consts_1) (n0 : Nat) (c1 : Int32) (hc1 : ¬ c1 = 0) (S1 : Sta Z Z.heap "java/lang/String" "COMPACT_STRINGS" "Z" (.int c1)) (v2 : Value) (hv2 : v2.isRef = true) (S2 : Sta Z Z.heap "jdk/internal/util/Preconditions" "SIOOBE_FORMATTER" "Ljava/util/function/BiFunction;" v2) (t1 t2 : Addr) (kt1 kt2 : ClassId) (SD1 : Sta Z Z.heap "java/lang/Integer" "DigitOnes" "[B" (.ref t1)) (SD2 : Sta Z Z.heap "java/lang/Integer" "DigitTens" "[B" (.ref t2)) (AD1 : Arv Z Z.heap t1 kt1 .byte 100 dOnes (.int 0)) (AD2 : Arv Z Z.heap t2 kt2 .byte 100 dTens (.int 0)) (a b : Addr) (cap : Nat) (bs : List Value) (x : Int64) (M : Nat) {h0 : Heap} (o1 : Old Z n0 h0) (ge_a : n0 ≤ a) (ge_b : n0 ≤ b) (hM : M ≤ 9223372036854775808) (hx : x.toInt = (M : Int)) (hle : bs.length + (ndL M + 0) ≤ 62) (hcap : cap ≤ 126) (hbs : bs.length ≤ cap) (hS : SbdY Z h0 a b cap bs) :
    Con Z a0 l (⟨"java/lang/AbstractStringBuilder", "append", "(J)Ljava/lang/AbstractStringBuilder;"⟩ : MethodName) jdk_68_method_33_code 5 (some (.object "java/lang/AbstractStringBuilder")) ({ frames := 4, cells := 1, slots := 126, locals := 70 } : Room) [] #[(.ref a), (.long x)] consts_1 h0 n0 [a, b] [a, b] (VV fun w h so => w = .ref a ∧ ∃ b' cap', SbdY Z h a b' cap' (bs ++ (([] : List Value) ++ dgs (ndL M) M)) ∧ (bs ++ (([] : List Value) ++ dgs (ndL M) M)).length ≤ cap' ∧ cap' ≤ 126 ∧ (b' = b ∨ h0.size ≤ b') ∧ so = [b']) := by
  refine Con.body (plainFor_of_name pn_java_lang_AbstractStringBuilder) hEW o1 (allS ge_a (allS ge_b all0)) #[.val (.ref a), .val (.long x), .second, .unset, .unset] (fun m => by first | (simp [entryFrame, mkF, argsToLocals, Value.category]; done) | rfl) ?_
  intro p e s m below meth c B hnm hret hlk G
  have hlt : (([] : List Value) ++ dgs (ndL M) M).length = (ndL M + 0) := by rw [List.length_append, dgs_len]; simp <;> omega
  replace G := G.aloadN 1 d17_0 rfl rfl rfl |>.getf 4 (host := "") (Or.inl (hw _ (mm 90 rfl))) Via.refl hS.1.2.2.2.1 d17_1 rfl |>.istoreN 5 #[.val (.ref a), .val (.long x), .second, .val (.int (Int32.ofNat bs.length)), .unset] d17_4 rfl rfl |>.iloadN 6 d17_5 rfl rfl |>.lloadN 7 d17_6 rfl rfl
  obtain ⟨vz, h_z, soz, G', Kz, Qz⟩ := G.callS 10 (hw _ (mm 127 rfl)) (hw _ (mm 128 rfl)) (hw _ (mm 129 rfl)) (hw _ (mm 130 rfl)) (by decide) [(.long x)] [(.int (Int32.ofNat bs.length))] rfl (c_szL0 l Z a0 hw hEW n0 c1 hc1 S1 v2 hv2 S2 t1 t2 kt1 kt2 SD1 SD2 AD1 AD2 x M G.old hM hx) (lenOf pd__J_I rfl) d17_7 rfl (nle rfl) (nle rfl) (nle rfl) (nle rfl) all0 all0 all0 rfl
  replace G := G'; clear G'
  obtain ⟨wz, qz, rfl, ez, rfl⟩ := Qz
  replace G := G.val qz
  subst ez
  replace G := G.iadd 11 d17_10 rfl |>.top (y := (.int (Int32.ofNat (bs.length + (ndL M + 0))))) (congrArg Value.int (ofn_add bs.length (ndL M + 0))) |>.istore 13 #[.val (.ref a), .val (.long x), .second, .val (.int (Int32.ofNat bs.length)), .val (.int (Int32.ofNat (bs.length + (ndL M + 0))))] d17_11 rfl rfl |>.aloadN 14 d17_13 rfl rfl rfl |>.iload 16 d17_14 rfl rfl
  obtain ⟨ve, h1, soe, G', Ke, Qe⟩ := G.callV 19 (hw _ (mm 92 rfl)) (declOf (hw _ (mm 93 rfl)) (hw _ (mm 96 rfl))) (nfSel (hw _ (mm 95 rfl))) (hw _ (mm 95 rfl)) (hw _ (mm 93 rfl)) (hw _ (mm 61 rfl)) (hw _ (mm 96 rfl)) hS.1.1 (by decide) [(.int (Int32.ofNat (bs.length + (ndL M + 0))))] [] rfl (c_ensY l Z a0 hw hEW n0 c1 hc1 S1 v2 hv2 S2 a b cap (bs.length + (ndL M + 0)) bs G.old ge_a hle hcap hbs hS) (lenOf pd__I_V rfl) d17_16 rfl (nle rfl) (nle rfl) (nle rfl) (nle rfl) (allS (Or.inl (mm 0 rfl)) all0) (allS (mm 0 rfl) (allS (mm 1 rfl) all0)) (allS (mm 0 rfl) all0) rfl
  replace G := G'; clear G'
  obtain ⟨qe, b1, cp1, hS1, hl1, hcp, hb1, rfl⟩ := Qe
  replace G := G.nov qe
  have nwb : NW h_z [a, b] b1 := hb1.elim (fun q => Or.inl (q ▸ (mm 1 rfl))) Or.inr
  replace G := G.aloadN 20 d17_19 rfl rfl rfl
  obtain ⟨vl, h_l, sol, G', Kl, Ql⟩ := G.callV 23 (hw _ (mm 132 rfl)) (hw _ (mm 133 rfl)) (nfSel (hw _ (mm 135 rfl))) (hw _ (mm 135 rfl)) (hw _ (mm 134 rfl)) (hw _ (mm 61 rfl)) (hw _ (mm 136 rfl)) hS1.1.1 (by decide) [] [] rfl (c_isL1 l Z a0 hw hEW n0 c1 hc1 S1 v2 hv2 S2 a b1 cp1 bs G.old hS1.1) (lenOf pd___Z rfl) d17_20 rfl (nle rfl) (nle rfl) (nle rfl) (nle rfl) all0 all0 all0 rfl
  replace G := G'; clear G'
  obtain ⟨wl, ql, rfl, el, rfl⟩ := Ql
  replace G := G.val ql
  subst el
  replace G := G.ifF 26 d17_23 (XT.i0_eq_f (by decide)) rfl |>.lloadN 27 d17_26 rfl rfl |>.iload 29 d17_27 rfl rfl |>.aloadN 30 d17_29 rfl rfl rfl |>.getf 33 (host := "") (Or.inl (hw _ (mm 65 rfl))) Via.refl hS1.1.2.1 d17_30 rfl
  obtain ⟨⟨Xa, Fv, Fc, Fn, kb, Ab⟩, Yb⟩ := hS1
  have nab : a ≠ b1 := ne_arr Xa (hw _ (mm 52 rfl)) Ab.choose_spec.1
  obtain ⟨vp, h2, sop, G', Kp, Qp⟩ := G.callS 36 (hw _ (mm 137 rfl)) (hw _ (mm 138 rfl)) (hw _ (mm 129 rfl)) (hw _ (mm 139 rfl)) (by decide) [(.long x), (.int (Int32.ofNat (bs.length + (ndL M + 0)))), (.ref b1)] [] rfl (c_gcL0 l Z a0 hw hEW n0 c1 hc1 S1 v2 hv2 S2 t1 t2 kt1 kt2 SD1 SD2 AD1 AD2 b1 kb cp1 bs x M G.old (G.nw nwb) hM hx hl1 (by omega) Ab) (lenOf pd__JI_B_I rfl) d17_33 rfl (nle rfl) (nle rfl) (nle rfl) (nle rfl) (allS nwb all0) (allS (mm 0 rfl) all0) (allS (mm 0 rfl) all0) rfl
  replace G := G'; clear G'
  obtain ⟨wp, qp, ⟨zz, rfl⟩, Ab1, rfl⟩ := Qp
  replace G := G.val qp
  replace Xa := Xa.keep Kp; replace Fv := Fv.keep Kp (ninS nab nin0); replace Fc := Fc.keep Kp (ninS nab nin0); replace Fn := Fn.keep Kp (ninS nab nin0); replace Yb := Yb.keep Kp
  replace G := G.pop 37 d17_36 rfl rfl |>.goto 52 d17_37 (by decide) (by decide) |>.aloadN 53 d17_52 rfl rfl rfl |>.iload 55 d17_53 rfl rfl |>.top (y := (.int (Int32.ofNat (bs ++ (([] : List Value) ++ dgs (ndL M) M)).length))) (congrArg Value.int (by rw [List.length_append, hlt]))
  obtain ⟨h3, G', Ww, Fw, Kw⟩ := G.putf 58 (host := "") (Or.inl (hw _ (mm 90 rfl))) Via.refl Fn Xa (Or.inl (hw _ (mm 91 rfl))) (hw _ (mm 52 rfl)) (ty := .int) (by decide) rfl rfl (Or.inl (mm 0 rfl)) (mm 1 rfl) d17_55 rfl
  replace G := G'; clear G'
  replace Fv := Fv.other Ww (Or.inr (slot_ne (Or.inl (hw _ (mm 66 rfl))) (Or.inl (hw _ (mm 91 rfl))) (by decide) (t := (.array .byte)) (t' := .int) (by decide) (by decide))); replace Fc := Fc.other Ww (Or.inr (slot_ne (Or.inl (hw _ (mm 68 rfl))) (Or.inl (hw _ (mm 91 rfl))) (by decide) (t := .byte) (t' := .int) (by decide) (by decide))); replace Xa := Xa.wr Ww; replace Ab1 := Ab1.keep Kw (ninS nab.symm nin0); replace Yb := Yb.keep Kw
  replace G := G.aloadN 59 d17_58 rfl rfl rfl
  exact G.retA hret rfl rfl hlk d17_59 [b1] (allS (mm 0 rfl) all0) ⟨_, rfl, rfl, b1, cp1, ⟨⟨Xa, Fv, Fc, Fw, kb, Ab1⟩, Yb⟩, by rw [List.length_append, hlt]; exact hl1, hcp, hb1, rfl⟩ (nle rfl) (nle rfl)
theorem d16_0 : decode jdk_67_method_16_code 0 = .ok (.aload_n 0, 1) := by decide +kernel
theorem d16_1 : decode jdk_67_method_16_code 1 = .ok (.lload_n 1, 1) := by decide +kernel
theorem d16_2 : decode jdk_67_method_16_code 2 = .ok (.invokespecial 56, 3) := by decide +kernel
theorem d16_5 : decode jdk_67_method_16_code 5 = .ok (.pop, 1) := by decide +kernel
theorem d16_6 : decode jdk_67_method_16_code 6 = .ok (.aload_n 0, 1) := by decide +kernel
theorem d16_7 : decode jdk_67_method_16_code 7 = .ok (.areturn, 1) := by decide +kernel
theorem c_appJ0 (l : Launch) (Z : State) (a0 : Array Value) (hw : ∀ d ∈ tables_1, d.before a0 Z = true) (hEW : EW Z a0 consts_1) (n0 : Nat) (c1 : Int32) (hc1 : ¬ c1 = 0) (S1 : Sta Z Z.heap "java/lang/String" "COMPACT_STRINGS" "Z" (.int c1)) (v2 : Value) (hv2 : v2.isRef = true) (S2 : Sta Z Z.heap "jdk/internal/util/Preconditions" "SIOOBE_FORMATTER" "Ljava/util/function/BiFunction;" v2) (t1 t2 : Addr) (kt1 kt2 : ClassId) (SD1 : Sta Z Z.heap "java/lang/Integer" "DigitOnes" "[B" (.ref t1)) (SD2 : Sta Z Z.heap "java/lang/Integer" "DigitTens" "[B" (.ref t2)) (AD1 : Arv Z Z.heap t1 kt1 .byte 100 dOnes (.int 0)) (AD2 : Arv Z Z.heap t2 kt2 .byte 100 dTens (.int 0)) (a b : Addr) (cap : Nat) (bs : List Value) (x : Int64) (M : Nat) {h0 : Heap} (o1 : Old Z n0 h0) (ge_a : n0 ≤ a) (ge_b : n0 ≤ b) (hM : M ≤ 9223372036854775808) (hx : x.toInt = (M : Int)) (hle : bs.length + (ndL M + 0) ≤ 62) (hcap : cap ≤ 126) (hbs : bs.length ≤ cap) (hS : SbdY Z h0 a b cap bs) :
    Con Z a0 l (⟨"java/lang/StringBuilder", "append", "(J)Ljava/lang/StringBuilder;"⟩ : MethodName) jdk_67_method_16_code 3 (some (.object "java/lang/StringBuilder")) ({ frames := 5, cells := 1, slots := 126, locals := 86 } : Room) [] #[(.ref a), (.long x)] consts_1 h0 n0 [a, b] [a, b] (VV fun w h so => w = .ref a ∧ ∃ b' cap', SbdY Z h a b' cap' (bs ++ (([] : List Value) ++ dgs (ndL M) M)) ∧ (bs ++ (([] : List Value) ++ dgs (ndL M) M)).length ≤ cap' ∧ cap' ≤ 126 ∧ (b' = b ∨ h0.size ≤ b') ∧ so = [b']) := by
  refine Con.body (plainFor_of_name pn_java_lang_StringBuilder) hEW o1 (allS ge_a (allS ge_b all0)) #[.val (.ref a), .val (.long x), .second] (fun m => by first | (simp [entryFrame, mkF, argsToLocals, Value.category]; done) | rfl) ?_
  intro p e s m below meth c B hnm hret hlk G
  replace G := G.aloadN 1 d16_0 rfl rfl rfl |>.lloadN 2 d16_1 rfl rfl
  obtain ⟨vp, h1, sop, G', Kp, Qp⟩ := G.callSup 5 (hw _ (mm 123 rfl)) (sameOf (hw _ (mm 124 rfl)) (nfVia (y := (⟨"java/lang/AbstractStringBuilder", "ensureCapacityInternal", "(I)V"⟩ : MethodName)) rfl (hw _ (mm 95 rfl)) (hw _ (mm 93 rfl))) (by decide)) (hw _ (mm 124 rfl)) (hw _ (mm 76 rfl)) (by decide) (hw _ (mm 61 rfl)) (hw _ (mm 126 rfl)) (Ins.self hS.1.1) [(.long x)] [] rfl (c_asbJ0 l Z a0 hw hEW n0 c1 hc1 S1 v2 hv2 S2 t1 t2 kt1 kt2 SD1 SD2 AD1 AD2 a b cap bs x M G.old ge_a ge_b hM hx hle hcap hbs hS) (lenOf pd__J_Ljava_lang_AbstractStringBuilder_ rfl) d16_2 rfl (nle rfl) (nle rfl) (nle rfl) (nle rfl) (allS (Or.inl (mm 0 rfl)) (allS (Or.inl (mm 1 rfl)) all0)) (allS (mm 0 rfl) (allS (mm 1 rfl) all0)) (allS (mm 0 rfl) (allS (mm 1 rfl) all0)) rfl
  replace G := G'; clear G'
  obtain ⟨wp, qp, rfl, b1, cp1, hS1, hl1, hcp, hb1, rfl⟩ := Qp
  replace G := G.val qp |>.pop 6 d16_5 rfl rfl |>.aloadN 7 d16_6 rfl rfl rfl
  exact G.retA hret rfl rfl hlk d16_7 [b1] (allS (mm 0 rfl) all0) ⟨_, rfl, rfl, b1, cp1, hS1, hl1, hcp, hb1, rfl⟩ (nle rfl) (nle rfl)
theorem c_asbJ1 (l : Launch) (Z : State) (a0 : Array Value) (hw : ∀ d ∈ tables_1, d.before a0 Z = true) (hEW : EW Z a0 consts_1) (n0 : Nat) (c1 : Int32) (hc1 : ¬ c1 = 0) (S1 : Sta Z Z.heap "java/lang/String" "COMPACT_STRINGS" "Z" (.int c1)) (v2 : Value) (hv2 : v2.isRef = true) (S2 : Sta Z Z.heap "jdk/internal/util/Preconditions" "SIOOBE_FORMATTER" "Ljava/util/function/BiFunction;" v2) (t1 t2 : Addr) (kt1 kt2 : ClassId) (SD1 : Sta Z Z.heap "java/lang/Integer" "DigitOnes" "[B" (.ref t1)) (SD2 : Sta Z Z.heap "java/lang/Integer" "DigitTens" "[B" (.ref t2)) (AD1 : Arv Z Z.heap t1 kt1 .byte 100 dOnes (.int 0)) (AD2 : Arv Z Z.heap t2 kt2 .byte 100 dTens (.int 0)) (a b : Addr) (cap : Nat) (bs : List Value) (x : Int64) (M : Nat) {h0 : Heap} (o1 : Old Z n0 h0) (ge_a : n0 ≤ a) (ge_b : n0 ≤ b) (hM : M ≤ 9223372036854775808) (h0' : 0 < M) (hx : x.toInt = -(M : Int)) (hle : bs.length + (ndL M + 1) ≤ 62) (hcap : cap ≤ 126) (hbs : bs.length ≤ cap) (hS : SbdY Z h0 a b cap bs) :
    Con Z a0 l (⟨"java/lang/AbstractStringBuilder", "append", "(J)Ljava/lang/AbstractStringBuilder;"⟩ : MethodName) jdk_68_method_33_code 5 (some (.object "java/lang/AbstractStringBuilder")) ({ frames := 4, cells := 1, slots := 126, locals := 70 } : Room) [] #[(.ref a), (.long x)] consts_1 h0 n0 [a, b] [a, b] (VV fun w h so => w = .ref a ∧ ∃ b' cap', SbdY Z h a b' cap' (bs ++ ([Value.int 45] ++ dgs (ndL M) M)) ∧ (bs ++ ([Value.int 45] ++ dgs (ndL M) M)).length ≤ cap' ∧ cap' ≤ 126 ∧ (b' = b ∨ h0.size ≤ b') ∧ so = [b']) := by
  refine Con.body (plainFor_of_name pn_java_lang_AbstractStringBuilder) hEW o1 (allS ge_a (allS ge_b all0)) #[.val (.ref a), .val (.long x), .second, .unset, .unset] (fun m => by first | (simp [entryFrame, mkF, argsToLocals, Value.category]; done) | rfl) ?_
  intro p e s m below meth c B hnm hret hlk G
  have hlt : ([Value.int 45] ++ dgs (ndL M) M).length = (ndL M + 1) := by rw [List.length_append, dgs_len]; simp <;> omega
  replace G := G.aloadN 1 d17_0 rfl rfl rfl |>.getf 4 (host := "") (Or.inl (hw _ (mm 90 rfl))) Via.refl hS.1.2.2.2.1 d17_1 rfl |>.istoreN 5 #[.val (.ref a), .val (.long x), .second, .val (.int (Int32.ofNat bs.length)), .unset] d17_4 rfl rfl |>.iloadN 6 d17_5 rfl rfl |>.lloadN 7 d17_6 rfl rfl
  obtain ⟨vz, h_z, soz, G', Kz, Qz⟩ := G.callS 10 (hw _ (mm 127 rfl)) (hw _ (mm 128 rfl)) (hw _ (mm 129 rfl)) (hw _ (mm 130 rfl)) (by decide) [(.long x)] [(.int (Int32.ofNat bs.length))] rfl (c_szL1 l Z a0 hw hEW n0 c1 hc1 S1 v2 hv2 S2 t1 t2 kt1 kt2 SD1 SD2 AD1 AD2 x M G.old hM h0' hx) (lenOf pd__J_I rfl) d17_7 rfl (nle rfl) (nle rfl) (nle rfl) (nle rfl) all0 all0 all0 rfl
  replace G := G'; clear G'
  obtain ⟨wz, qz, rfl, ez, rfl⟩ := Qz
  replace G := G.val qz
  subst ez
  replace G := G.iadd 11 d17_10 rfl |>.top (y := (.int (Int32.ofNat (bs.length + (ndL M + 1))))) (congrArg Value.int (ofn_add bs.length (ndL M + 1))) |>.istore 13 #[.val (.ref a), .val (.long x), .second, .val (.int (Int32.ofNat bs.length)), .val (.int (Int32.ofNat (bs.length + (ndL M + 1))))] d17_11 rfl rfl |>.aloadN 14 d17_13 rfl rfl rfl |>.iload 16 d17_14 rfl rfl
  obtain ⟨ve, h1, soe, G', Ke, Qe⟩ := G.callV 19 (hw _ (mm 92 rfl)) (declOf (hw _ (mm 93 rfl)) (hw _ (mm 96 rfl))) (nfSel (hw _ (mm 95 rfl))) (hw _ (mm 95 rfl)) (hw _ (mm 93 rfl)) (hw _ (mm 61 rfl)) (hw _ (mm 96 rfl)) hS.1.1 (by decide) [(.int (Int32.ofNat (bs.length + (ndL M + 1))))] [] rfl (c_ensY l Z a0 hw hEW n0 c1 hc1 S1 v2 hv2 S2 a b cap (bs.length + (ndL M + 1)) bs G.old ge_a hle hcap hbs hS) (lenOf pd__I_V rfl) d17_16 rfl (nle rfl) (nle rfl) (nle rfl) (nle rfl) (allS (Or.inl (mm 0 rfl)) all0) (allS (mm 0 rfl) (allS (mm 1 rfl) all0)) (allS (mm 0 rfl) all0) rfl
  replace G := G'; clear G'
  obtain ⟨qe, b1, cp1, hS1, hl1, hcp, hb1, rfl⟩ := Qe
  replace G := G.nov qe
  have nwb : NW h_z [a, b] b1 := hb1.elim (fun q => Or.inl (q ▸ (mm 1 rfl))) Or.inr
  replace G := G.aloadN 20 d17_19 rfl rfl rfl
  obtain ⟨vl, h_l, sol, G', Kl, Ql⟩ := G.callV 23 (hw _ (mm 132 rfl)) (hw _ (mm 133 rfl)) (nfSel (hw _ (mm 135 rfl))) (hw _ (mm 135 rfl)) (hw _ (mm 134 rfl)) (hw _ (mm 61 rfl)) (hw _ (mm 136 rfl)) hS1.1.1 (by decide) [] [] rfl (c_isL1 l Z a0 hw hEW n0 c1 hc1 S1 v2 hv2 S2 a b1 cp1 bs G.old hS1.1) (lenOf pd___Z rfl) d17_20 rfl (nle rfl) (nle rfl) (nle rfl) (nle rfl) all0 all0 all0 rfl
  replace G := G'; clear G'
  obtain ⟨wl, ql, rfl, el, rfl⟩ := Ql
  replace G := G.val ql
  subst el
  replace G := G.ifF 26 d17_23 (XT.i0_eq_f (by decide)) rfl |>.lloadN 27 d17_26 rfl rfl |>.iload 29 d17_27 rfl rfl |>.aloadN 30 d17_29 rfl rfl rfl |>.getf 33 (host := "") (Or.inl (hw _ (mm 65 rfl))) Via.refl hS1.1.2.1 d17_30 rfl
  obtain ⟨⟨Xa, Fv, Fc, Fn, kb, Ab⟩, Yb⟩ := hS1
  have nab : a ≠ b1 := ne_arr Xa (hw _ (mm 52 rfl)) Ab.choose_spec.1
  obtain ⟨vp, h2, sop, G', Kp, Qp⟩ := G.callS 36 (hw _ (mm 137 rfl)) (hw _ (mm 138 rfl)) (hw _ (mm 129 rfl)) (hw _ (mm 139 rfl)) (by decide) [(.long x), (.int (Int32.ofNat (bs.length + (ndL M + 1)))), (.ref b1)] [] rfl (c_gcL1 l Z a0 hw hEW n0 c1 hc1 S1 v2 hv2 S2 t1 t2 kt1 kt2 SD1 SD2 AD1 AD2 b1 kb cp1 bs x M G.old (G.nw nwb) hM h0' hx hl1 (by omega) Ab) (lenOf pd__JI_B_I rfl) d17_33 rfl (nle rfl) (nle rfl) (nle rfl) (nle rfl) (allS nwb all0) (allS (mm 0 rfl) all0) (allS (mm 0 rfl) all0) rfl
  replace G := G'; clear G'
  obtain ⟨wp, qp, ⟨zz, rfl⟩, Ab1, rfl⟩ := Qp
  replace G := G.val qp
  replace Xa := Xa.keep Kp; replace Fv := Fv.keep Kp (ninS nab nin0); replace Fc := Fc.keep Kp (ninS nab nin0); replace Fn := Fn.keep Kp (ninS nab nin0); replace Yb := Yb.keep Kp
  replace G := G.pop 37 d17_36 rfl rfl |>.goto 52 d17_37 (by decide) (by decide) |>.aloadN 53 d17_52 rfl rfl rfl |>.iload 55 d17_53 rfl rfl |>.top (y := (.int (Int32.ofNat (bs ++ ([Value.int 45] ++ dgs (ndL M) M)).length))) (congrArg Value.int (by rw [List.length_append, hlt]))
  obtain ⟨h3, G', Ww, Fw, Kw⟩ := G.putf 58 (host := "") (Or.inl (hw _ (mm 90 rfl))) Via.refl Fn Xa (Or.inl (hw _ (mm 91 rfl))) (hw _ (mm 52 rfl)) (ty := .int) (by decide) rfl rfl (Or.inl (mm 0 rfl)) (mm 1 rfl) d17_55 rfl
  replace G := G'; clear G'
  replace Fv := Fv.other Ww (Or.inr (slot_ne (Or.inl (hw _ (mm 66 rfl))) (Or.inl (hw _ (mm 91 rfl))) (by decide) (t := (.array .byte)) (t' := .int) (by decide) (by decide))); replace Fc := Fc.other Ww (Or.inr (slot_ne (Or.inl (hw _ (mm 68 rfl))) (Or.inl (hw _ (mm 91 rfl))) (by decide) (t := .byte) (t' := .int) (by decide) (by decide))); replace Xa := Xa.wr Ww; replace Ab1 := Ab1.keep Kw (ninS nab.symm nin0); replace Yb := Yb.keep Kw
  replace G := G.aloadN 59 d17_58 rfl rfl rfl
  exact G.retA hret rfl rfl hlk d17_59 [b1] (allS (mm 0 rfl) all0) ⟨_, rfl, rfl, b1, cp1, ⟨⟨Xa, Fv, Fc, Fw, kb, Ab1⟩, Yb⟩, by rw [List.length_append, hlt]; exact hl1, hcp, hb1, rfl⟩ (nle rfl) (nle rfl)
theorem c_appJ1 (l : Launch) (Z : State) (a0 : Array Value) (hw : ∀ d ∈ tables_1, d.before a0 Z = true) (hEW : EW Z a0 consts_1) (n0 : Nat) (c1 : Int32) (hc1 : ¬ c1 = 0) (S1 : Sta Z Z.heap "java/lang/String" "COMPACT_STRINGS" "Z" (.int c1)) (v2 : Value) (hv2 : v2.isRef = true) (S2 : Sta Z Z.heap "jdk/internal/util/Preconditions" "SIOOBE_FORMATTER" "Ljava/util/function/BiFunction;" v2) (t1 t2 : Addr) (kt1 kt2 : ClassId) (SD1 : Sta Z Z.heap "java/lang/Integer" "DigitOnes" "[B" (.ref t1)) (SD2 : Sta Z Z.heap "java/lang/Integer" "DigitTens" "[B" (.ref t2)) (AD1 : Arv Z Z.heap t1 kt1 .byte 100 dOnes (.int 0)) (AD2 : Arv Z Z.heap t2 kt2 .byte 100 dTens (.int 0)) (a b : Addr) (cap : Nat) (bs : List Value) (x : Int64) (M : Nat) {h0 : Heap} (o1 : Old Z n0 h0) (ge_a : n0 ≤ a) (ge_b : n0 ≤ b) (hM : M ≤ 9223372036854775808) (h0' : 0 < M) (hx : x.toInt = -(M : Int)) (hle : bs.length + (ndL M + 1) ≤ 62) (hcap : cap ≤ 126) (hbs : bs.length ≤ cap) (hS : SbdY Z h0 a b cap bs) :
    Con Z a0 l (⟨"java/lang/StringBuilder", "append", "(J)Ljava/lang/StringBuilder;"⟩ : MethodName) jdk_67_method_16_code 3 (some (.object "java/lang/StringBuilder")) ({ frames := 5, cells := 1, slots := 126, locals := 86 } : Room) [] #[(.ref a), (.long x)] consts_1 h0 n0 [a, b] [a, b] (VV fun w h so => w = .ref a ∧ ∃ b' cap', SbdY Z h a b' cap' (bs ++ ([Value.int 45] ++ dgs (ndL M) M)) ∧ (bs ++ ([Value.int 45] ++ dgs (ndL M) M)).length ≤ cap' ∧ cap' ≤ 126 ∧ (b' = b ∨ h0.size ≤ b') ∧ so = [b']) := by
  refine Con.body (plainFor_of_name pn_java_lang_StringBuilder) hEW o1 (allS ge_a (allS ge_b all0)) #[.val (.ref a), .val (.long x), .second] (fun m => by first | (simp [entryFrame, mkF, argsToLocals, Value.category]; done) | rfl) ?_
  intro p e s m below meth c B hnm hret hlk G
  replace G := G.aloadN 1 d16_0 rfl rfl rfl |>.lloadN 2 d16_1 rfl rfl
  obtain ⟨vp, h1, sop, G', Kp, Qp⟩ := G.callSup 5 (hw _ (mm 123 rfl)) (sameOf (hw _ (mm 124 rfl)) (nfVia (y := (⟨"java/lang/AbstractStringBuilder", "ensureCapacityInternal", "(I)V"⟩ : MethodName)) rfl (hw _ (mm 95 rfl)) (hw _ (mm 93 rfl))) (by decide)) (hw _ (mm 124 rfl)) (hw _ (mm 76 rfl)) (by decide) (hw _ (mm 61 rfl)) (hw _ (mm 126 rfl)) (Ins.self hS.1.1) [(.long x)] [] rfl (c_asbJ1 l Z a0 hw hEW n0 c1 hc1 S1 v2 hv2 S2 t1 t2 kt1 kt2 SD1 SD2 AD1 AD2 a b cap bs x M G.old ge_a ge_b hM h0' hx hle hcap hbs hS) (lenOf pd__J_Ljava_lang_AbstractStringBuilder_ rfl) d16_2 rfl (nle rfl) (nle rfl) (nle rfl) (nle rfl) (allS (Or.inl (mm 0 rfl)) (allS (Or.inl (mm 1 rfl)) all0)) (allS (mm 0 rfl) (allS (mm 1 rfl) all0)) (allS (mm 0 rfl) (allS (mm 1 rfl) all0)) rfl
  replace G := G'; clear G'
  obtain ⟨wp, qp, rfl, b1, cp1, hS1, hl1, hcp, hb1, rfl⟩ := Qp
  replace G := G.val qp |>.pop 6 d16_5 rfl rfl |>.aloadN 7 d16_6 rfl rfl rfl
  exact G.retA hret rfl rfl hlk d16_7 [b1] (allS (mm 0 rfl) all0) ⟨_, rfl, rfl, b1, cp1, hS1, hl1, hcp, hb1, rfl⟩ (nle rfl) (nle rfl)
theorem d1_0 : decode method_2_code 0 = .ok (.iload_n 0, 1) := by decide +kernel
theorem d1_1 : decode method_2_code 1 = .ok (.ifCond .ne 14, 3) := by decide +kernel
theorem d1_4 : decode method_2_code 4 = .ok (.new 7, 3) := by decide +kernel
theorem d1_7 : decode method_2_code 7 = .ok (.dup, 1) := by decide +kernel
theorem d1_8 : decode method_2_code 8 = .ok (.iconst 0, 1) := by decide +kernel
theorem d1_9 : decode method_2_code 9 = .ok (.newarray .char, 2) := by decide +kernel
theorem d1_11 : decode method_2_code 11 = .ok (.invokespecial 9, 3) := by decide +kernel
theorem d1_14 : decode method_2_code 14 = .ok (.areturn, 1) := by decide +kernel
theorem d1_15 : decode method_2_code 15 = .ok (.iload_n 0, 1) := by decide +kernel
theorem d1_16 : decode method_2_code 16 = .ok (.iconst 1, 1) := by decide +kernel
theorem d1_17 : decode method_2_code 17 = .ok (.if_icmp .ne 8, 3) := by decide +kernel
theorem d1_20 : decode method_2_code 20 = .ok (.iload_n 1, 1) := by decide +kernel
theorem d1_21 : decode method_2_code 21 = .ok (.invokestatic 12, 3) := by decide +kernel
theorem d1_24 : decode method_2_code 24 = .ok (.areturn, 1) := by decide +kernel
theorem d1_25 : decode method_2_code 25 = .ok (.new 7, 3) := by decide +kernel
theorem d1_28 : decode method_2_code 28 = .ok (.dup, 1) := by decide +kernel
theorem d1_29 : decode method_2_code 29 = .ok (.iconst 2, 1) := by decide +kernel
theorem d1_30 : decode method_2_code 30 = .ok (.newarray .char, 2) := by decide +kernel
theorem d1_32 : decode method_2_code 32 = .ok (.dup, 1) := by decide +kernel
theorem d1_33 : decode method_2_code 33 = .ok (.iconst 0, 1) := by decide +kernel
theorem d1_34 : decode method_2_code 34 = .ok (.iload_n 1, 1) := by decide +kernel
theorem d1_35 : decode method_2_code 35 = .ok (.castore, 1) := by decide +kernel
theorem d1_36 : decode method_2_code 36 = .ok (.dup, 1) := by decide +kernel
theorem d1_37 : decode method_2_code 37 = .ok (.iconst 1, 1) := by decide +kernel
theorem d1_38 : decode method_2_code 38 = .ok (.iload_n 2, 1) := by decide +kernel
theorem d1_39 : decode method_2_code 39 = .ok (.castore, 1) := by decide +kernel
theorem d1_40 : decode method_2_code 40 = .ok (.invokespecial 9, 3) := by decide +kernel
theorem d1_43 : decode method_2_code 43 = .ok (.areturn, 1) := by decide +kernel
theorem c_mk0 (l : Launch) (Z : State) (a0 : Array Value) (hw : ∀ d ∈ tables_1, d.before a0 Z = true) (hEW : EW Z a0 consts_1) (n0 : Nat) (c1 : Int32) (hc1 : ¬ c1 = 0) (S1 : Sta Z Z.heap "java/lang/String" "COMPACT_STRINGS" "Z" (.int c1)) (v2 : Value) (hv2 : v2.isRef = true) (S2 : Sta Z Z.heap "jdk/internal/util/Preconditions" "SIOOBE_FORMATTER" "Ljava/util/function/BiFunction;" v2) (t1 t2 : Addr) (kt1 kt2 : ClassId) (SD1 : Sta Z Z.heap "java/lang/Integer" "DigitOnes" "[B" (.ref t1)) (SD2 : Sta Z Z.heap "java/lang/Integer" "DigitTens" "[B" (.ref t2)) (AD1 : Arv Z Z.heap t1 kt1 .byte 100 dOnes (.int 0)) (AD2 : Arv Z Z.heap t2 kt2 .byte 100 dTens (.int 0)) (x y : Nat) {h0 : Heap} (o1 : Old Z n0 h0) (hx : x < 256) (hy : y < 256) :
    Con Z a0 l (⟨"com/example/fianza/fianza/InputExceptionAtPinLaw", "make", "(ICC)Ljava/lang/String;"⟩ : MethodName) method_2_code 3 (some (.object "java/lang/String")) ({ frames := 4, cells := 6, slots := 14, locals := 66 } : Room) [] #[(.int (Int32.ofNat 0)), (.int (Int32.ofNat x)), (.int (Int32.ofNat y))] consts_1 h0 n0 [] [] (VV fun w h so => ∃ a b, w = .ref a ∧ Str Z h a b (bl (mkL 0 x y)) ∧ h0.size ≤ a ∧ so = [a]) := by
  refine Con.body (plainFor_of_name pn_com_example_fianza_fianza_InputExceptionAtPinLaw) hEW o1 all0 #[.val (.int (Int32.ofNat 0)), .val (.int (Int32.ofNat x)), .val (.int (Int32.ofNat y))] (fun m => by first | (simp [entryFrame, mkF, argsToLocals, Value.category]; done) | rfl) ?_
  intro p e s m below meth c B hnm hret hlk G
  replace G := G.iloadN 1 d1_0 rfl rfl |>.ifF 4 d1_1 (XT.i0_ne_f rfl) rfl
  obtain ⟨sa, g1, G', gsa, ssa, Esa, Xsa, Dsa, Usa⟩ := G.new 7 (hw _ (mm 4 rfl)) (hw _ (mm 5 rfl)) (hw _ (mm 6 rfl)) d1_4 rfl (nle rfl) (nle rfl)
  replace G := G'; clear G'
  have Fv := Dsa (Or.inr (hw _ (mm 20 rfl))) (ty := .array .byte) (by decide); have Fc := Dsa (Or.inr (hw _ (mm 21 rfl))) (ty := .byte) (by decide)
  replace G := G.dup 8 d1_7 rfl rfl |>.iconst 9 (0 : Int32) d1_8 rfl rfl
  obtain ⟨ca, g2, kca, G', gca, sca, Eca, Aca⟩ := G.newarray 11 (hw _ (mm 7 rfl)) d1_9 (by decide) 2 (nle rfl) (by decide) rfl (nle rfl) (nle rfl)
  replace G := G'; clear G'
  have nsc : sa ≠ ca := ne_new gca Xsa.lt; replace Xsa := Xsa.ext Eca; replace Fv := Fv.ext Eca; replace Fc := Fc.ext Eca
  have hA : Arv Z g2 ca kca .char (0 : Int32) [] (.int 0) := Aca
  obtain ⟨vc, g9, soc, G', Kc, Qc⟩ := G.callI 14 rfl rfl (hw _ (mm 8 rfl)) (hw _ (mm 9 rfl)) (hw _ (mm 6 rfl)) (hw _ (mm 10 rfl)) (by decide) [(.ref ca)] [(.ref sa)] rfl (c_strE l Z a0 hw hEW n0 c1 hc1 S1 v2 hv2 S2 sa ca kca G.old (G.nw (Or.inr ssa)) Xsa Fv Fc hA) (lenOf pd___C_V rfl) d1_11 rfl (nle rfl) (nle rfl) (nle rfl) (nle rfl) (allS (Or.inr ssa) all0) (allS (mm 1 rfl) all0) (allS (mm 1 rfl) all0) rfl
  replace G := G'; clear G'
  obtain ⟨qc, sb, hT, -, rfl⟩ := Qc
  replace G := G.nov qc
  exact G.retA hret rfl rfl hlk d1_14 [sa] (allS (mm 1 rfl) all0) ⟨_, rfl, sa, sb, rfl, hT, ssa, rfl⟩ (nle rfl) (nle rfl)
theorem c_mk1 (l : Launch) (Z : State) (a0 : Array Value) (hw : ∀ d ∈ tables_1, d.before a0 Z = true) (hEW : EW Z a0 consts_1) (n0 : Nat) (c1 : Int32) (hc1 : ¬ c1 = 0) (S1 : Sta Z Z.heap "java/lang/String" "COMPACT_STRINGS" "Z" (.int c1)) (v2 : Value) (hv2 : v2.isRef = true) (S2 : Sta Z Z.heap "jdk/internal/util/Preconditions" "SIOOBE_FORMATTER" "Ljava/util/function/BiFunction;" v2) (t1 t2 : Addr) (kt1 kt2 : ClassId) (SD1 : Sta Z Z.heap "java/lang/Integer" "DigitOnes" "[B" (.ref t1)) (SD2 : Sta Z Z.heap "java/lang/Integer" "DigitTens" "[B" (.ref t2)) (AD1 : Arv Z Z.heap t1 kt1 .byte 100 dOnes (.int 0)) (AD2 : Arv Z Z.heap t2 kt2 .byte 100 dTens (.int 0)) (x y : Nat) {h0 : Heap} (o1 : Old Z n0 h0) (hx : x < 256) (hy : y < 256) :
    Con Z a0 l (⟨"com/example/fianza/fianza/InputExceptionAtPinLaw", "make", "(ICC)Ljava/lang/String;"⟩ : MethodName) method_2_code 3 (some (.object "java/lang/String")) ({ frames := 4, cells := 6, slots := 14, locals := 66 } : Room) [] #[(.int (Int32.ofNat 1)), (.int (Int32.ofNat x)), (.int (Int32.ofNat y))] consts_1 h0 n0 [] [] (VV fun w h so => ∃ a b, w = .ref a ∧ Str Z h a b (bl (mkL 1 x y)) ∧ h0.size ≤ a ∧ so = [a]) := by
  refine Con.body (plainFor_of_name pn_com_example_fianza_fianza_InputExceptionAtPinLaw) hEW o1 all0 #[.val (.int (Int32.ofNat 1)), .val (.int (Int32.ofNat x)), .val (.int (Int32.ofNat y))] (fun m => by first | (simp [entryFrame, mkF, argsToLocals, Value.category]; done) | rfl) ?_
  intro p e s m below meth c B hnm hret hlk G
  replace G := G.iloadN 1 d1_0 rfl rfl |>.ifT 15 d1_1 (XT.i0_ne_t (by decide)) (by decide) (by decide) |>.iloadN 16 d1_15 rfl rfl |>.iconst 17 (1 : Int32) d1_16 rfl rfl |>.icmpF 20 d1_17 (XT.ii_ne_f rfl) rfl |>.iloadN 21 d1_20 rfl rfl
  obtain ⟨vv, g1, sov, G', Kv, Qv⟩ := G.callS 24 (hw _ (mm 302 rfl)) (hw _ (mm 303 rfl)) (hw _ (mm 6 rfl)) (hw _ (mm 304 rfl)) (by decide) [(.int (Int32.ofNat x))] [] rfl (c_valC l Z a0 hw hEW n0 c1 hc1 S1 v2 hv2 S2 (Int32.ofNat x) G.old (c255 hx)) (lenOf pd__C_Ljava_lang_String_ rfl) d1_21 rfl (nle rfl) (nle rfl) (nle rfl) (nle rfl) all0 all0 all0 rfl
  replace G := G'; clear G'
  obtain ⟨wv, qv, sa, sb, rfl, hT, ssa, -, rfl⟩ := Qv
  replace G := G.val qv
  exact G.retA hret rfl rfl hlk d1_24 [sa] (allS (mm 1 rfl) all0) ⟨_, rfl, sa, sb, rfl, hT, ssa, rfl⟩ (nle rfl) (nle rfl)
theorem c_mk2 (l : Launch) (Z : State) (a0 : Array Value) (hw : ∀ d ∈ tables_1, d.before a0 Z = true) (hEW : EW Z a0 consts_1) (n0 : Nat) (c1 : Int32) (hc1 : ¬ c1 = 0) (S1 : Sta Z Z.heap "java/lang/String" "COMPACT_STRINGS" "Z" (.int c1)) (v2 : Value) (hv2 : v2.isRef = true) (S2 : Sta Z Z.heap "jdk/internal/util/Preconditions" "SIOOBE_FORMATTER" "Ljava/util/function/BiFunction;" v2) (t1 t2 : Addr) (kt1 kt2 : ClassId) (SD1 : Sta Z Z.heap "java/lang/Integer" "DigitOnes" "[B" (.ref t1)) (SD2 : Sta Z Z.heap "java/lang/Integer" "DigitTens" "[B" (.ref t2)) (AD1 : Arv Z Z.heap t1 kt1 .byte 100 dOnes (.int 0)) (AD2 : Arv Z Z.heap t2 kt2 .byte 100 dTens (.int 0)) (x y : Nat) {h0 : Heap} (o1 : Old Z n0 h0) (hx : x < 256) (hy : y < 256) :
    Con Z a0 l (⟨"com/example/fianza/fianza/InputExceptionAtPinLaw", "make", "(ICC)Ljava/lang/String;"⟩ : MethodName) method_2_code 3 (some (.object "java/lang/String")) ({ frames := 4, cells := 6, slots := 14, locals := 66 } : Room) [] #[(.int (Int32.ofNat 2)), (.int (Int32.ofNat x)), (.int (Int32.ofNat y))] consts_1 h0 n0 [] [] (VV fun w h so => ∃ a b, w = .ref a ∧ Str Z h a b (bl (mkL 2 x y)) ∧ h0.size ≤ a ∧ so = [a]) := by
  refine Con.body (plainFor_of_name pn_com_example_fianza_fianza_InputExceptionAtPinLaw) hEW o1 all0 #[.val (.int (Int32.ofNat 2)), .val (.int (Int32.ofNat x)), .val (.int (Int32.ofNat y))] (fun m => by first | (simp [entryFrame, mkF, argsToLocals, Value.category]; done) | rfl) ?_
  intro p e s m below meth c B hnm hret hlk G
  replace G := G.iloadN 1 d1_0 rfl rfl |>.ifT 15 d1_1 (XT.i0_ne_t (by decide)) (by decide) (by decide) |>.iloadN 16 d1_15 rfl rfl |>.iconst 17 (1 : Int32) d1_16 rfl rfl |>.icmpT 25 d1_17 (XT.ii_ne_t (by decide)) (by decide) (by decide)
  obtain ⟨sa, g1, G', gsa, ssa, Esa, Xsa, Dsa, Usa⟩ := G.new 28 (hw _ (mm 4 rfl)) (hw _ (mm 5 rfl)) (hw _ (mm 6 rfl)) d1_25 rfl (nle rfl) (nle rfl)
  replace G := G'; clear G'
  have Fv := Dsa (Or.inr (hw _ (mm 20 rfl))) (ty := .array .byte) (by decide); have Fc := Dsa (Or.inr (hw _ (mm 21 rfl))) (ty := .byte) (by decide)
  replace G := G.dup 29 d1_28 rfl rfl |>.iconst 30 (2 : Int32) d1_29 rfl rfl
  obtain ⟨ca, g2, kca, G', gca, sca, Eca, Aca⟩ := G.newarray 32 (hw _ (mm 7 rfl)) d1_30 (by decide) 2 (nle rfl) (by decide) rfl (nle rfl) (nle rfl)
  replace G := G'; clear G'
  have nsc : sa ≠ ca := ne_new gca Xsa.lt; replace Xsa := Xsa.ext Eca; replace Fv := Fv.ext Eca; replace Fc := Fc.ext Eca
  have hA : Arv Z g2 ca kca .char (2 : Int32) [(.int 0), (.int 0)] (.int 0) := Aca.pad (pad_rep [] (.int 0) 2)
  replace G := G.dup 33 d1_32 rfl rfl |>.iconst 34 (0 : Int32) d1_33 rfl rfl |>.iloadN 35 d1_34 rfl rfl
  obtain ⟨g3, G', As, Ks⟩ := G.castore 36 0 hA (by decide) rfl (nle rfl) (Or.inr sca) (mm 0 rfl) d1_35 rfl
  replace G := G'; clear G'
  replace hA : Arv Z g3 ca kca .char 2 [(.int (Int32.ofNat x)), (.int 0)] (.int 0) := by have h := As; rw [show nar FieldType.char (Int32.ofNat x) = Int32.ofNat x from i2c_n hx] at h; exact h
  replace Xsa := Xsa.keep Ks; replace Fv := Fv.keep Ks (ninS nsc nin0); replace Fc := Fc.keep Ks (ninS nsc nin0)
  replace G := G.dup 37 d1_36 rfl rfl |>.iconst 38 (1 : Int32) d1_37 rfl rfl |>.iloadN 39 d1_38 rfl rfl
  obtain ⟨g4, G', As, Ks⟩ := G.castore 40 1 hA (by decide) rfl (nle rfl) (Or.inr sca) (mm 0 rfl) d1_39 rfl
  replace G := G'; clear G'
  replace hA : Arv Z g4 ca kca .char 2 [(.int (Int32.ofNat x)), (.int (Int32.ofNat y))] (.int 0) := by have h := As; rw [show nar FieldType.char (Int32.ofNat y) = Int32.ofNat y from i2c_n hy] at h; exact h
  replace Xsa := Xsa.keep Ks; replace Fv := Fv.keep Ks (ninS nsc nin0); replace Fc := Fc.keep Ks (ninS nsc nin0)
  obtain ⟨vc, g9, soc, G', Kc, Qc⟩ := G.callI 43 rfl rfl (hw _ (mm 8 rfl)) (hw _ (mm 9 rfl)) (hw _ (mm 6 rfl)) (hw _ (mm 10 rfl)) (by decide) [(.ref ca)] [(.ref sa)] rfl (c_strC l Z a0 hw hEW n0 c1 hc1 S1 v2 hv2 S2 sa ca kca [Int32.ofNat x, Int32.ofNat y] G.old (G.nw (Or.inr ssa)) Xsa Fv Fc (nle rfl) (nle rfl) (by intro z hz; simp only [List.mem_cons, List.not_mem_nil, or_false] at hz; rcases hz with rfl | rfl <;> first | exact c255 hx | exact c255 hy) hA) (lenOf pd___C_V rfl) d1_40 rfl (nle rfl) (nle rfl) (nle rfl) (nle rfl) (allS (Or.inr ssa) all0) (allS (mm 1 rfl) all0) (allS (mm 1 rfl) all0) rfl
  replace G := G'; clear G'
  obtain ⟨qc, sb, hT, -, rfl⟩ := Qc
  replace G := G.nov qc
  exact G.retA hret rfl rfl hlk d1_43 [sa] (allS (mm 2 rfl) all0) ⟨_, rfl, sa, sb, rfl, hT, ssa, rfl⟩ (nle rfl) (nle rfl)
theorem c_mk (l : Launch) (Z : State) (a0 : Array Value) (hw : ∀ d ∈ tables_1, d.before a0 Z = true) (hEW : EW Z a0 consts_1) (n0 : Nat) (c1 : Int32) (hc1 : ¬ c1 = 0) (S1 : Sta Z Z.heap "java/lang/String" "COMPACT_STRINGS" "Z" (.int c1)) (v2 : Value) (hv2 : v2.isRef = true) (S2 : Sta Z Z.heap "jdk/internal/util/Preconditions" "SIOOBE_FORMATTER" "Ljava/util/function/BiFunction;" v2) (t1 t2 : Addr) (kt1 kt2 : ClassId) (SD1 : Sta Z Z.heap "java/lang/Integer" "DigitOnes" "[B" (.ref t1)) (SD2 : Sta Z Z.heap "java/lang/Integer" "DigitTens" "[B" (.ref t2)) (AD1 : Arv Z Z.heap t1 kt1 .byte 100 dOnes (.int 0)) (AD2 : Arv Z Z.heap t2 kt2 .byte 100 dTens (.int 0)) (n x y : Nat) {h0 : Heap} (o1 : Old Z n0 h0) (hn : n ≤ 2) (hx : x < 256) (hy : y < 256) :
    Con Z a0 l (⟨"com/example/fianza/fianza/InputExceptionAtPinLaw", "make", "(ICC)Ljava/lang/String;"⟩ : MethodName) method_2_code 3 (some (.object "java/lang/String")) ({ frames := 4, cells := 6, slots := 14, locals := 66 } : Room) [] #[(.int (Int32.ofNat n)), (.int (Int32.ofNat x)), (.int (Int32.ofNat y))] consts_1 h0 n0 [] [] (VV fun w h so => ∃ a b, w = .ref a ∧ Str Z h a b (bl (mkL n x y)) ∧ h0.size ≤ a ∧ so = [a]) := by
  rcases (show n = 0 ∨ n = 1 ∨ n = 2 by omega) with rfl | rfl | rfl
  · exact c_mk0 l Z a0 hw hEW n0 c1 hc1 S1 v2 hv2 S2 t1 t2 kt1 kt2 SD1 SD2 AD1 AD2 x y o1 hx hy
  · exact c_mk1 l Z a0 hw hEW n0 c1 hc1 S1 v2 hv2 S2 t1 t2 kt1 kt2 SD1 SD2 AD1 AD2 x y o1 hx hy
  · exact c_mk2 l Z a0 hw hEW n0 c1 hc1 S1 v2 hv2 S2 t1 t2 kt1 kt2 SD1 SD2 AD1 AD2 x y o1 hx hy
theorem d34_0 : decode jdk_78_method_2_code 0 = .ok (.aload_n 0, 1) := by decide +kernel
theorem d34_1 : decode jdk_78_method_2_code 1 = .ok (.invokespecial 1, 3) := by decide +kernel
theorem d34_4 : decode jdk_78_method_2_code 4 = .ok (.aload_n 0, 1) := by decide +kernel
theorem d34_5 : decode jdk_78_method_2_code 5 = .ok (.aload_n 0, 1) := by decide +kernel
theorem d34_6 : decode jdk_78_method_2_code 6 = .ok (.putfield 7, 3) := by decide +kernel
theorem d34_9 : decode jdk_78_method_2_code 9 = .ok (.aload_n 0, 1) := by decide +kernel
theorem d34_10 : decode jdk_78_method_2_code 10 = .ok (.getstatic 13, 3) := by decide +kernel
theorem d34_13 : decode jdk_78_method_2_code 13 = .ok (.putfield 17, 3) := by decide +kernel
theorem d34_16 : decode jdk_78_method_2_code 16 = .ok (.aload_n 0, 1) := by decide +kernel
theorem d34_17 : decode jdk_78_method_2_code 17 = .ok (.getstatic 20, 3) := by decide +kernel
theorem d34_20 : decode jdk_78_method_2_code 20 = .ok (.putfield 24, 3) := by decide +kernel
theorem d34_23 : decode jdk_78_method_2_code 23 = .ok (.aload_n 0, 1) := by decide +kernel
theorem d34_24 : decode jdk_78_method_2_code 24 = .ok (.invokevirtual 27, 3) := by decide +kernel
theorem d34_27 : decode jdk_78_method_2_code 27 = .ok (.pop, 1) := by decide +kernel
theorem d34_28 : decode jdk_78_method_2_code 28 = .ok (.aload_n 0, 1) := by decide +kernel
theorem d34_29 : decode jdk_78_method_2_code 29 = .ok (.aload_n 1, 1) := by decide +kernel
theorem d34_30 : decode jdk_78_method_2_code 30 = .ok (.putfield 31, 3) := by decide +kernel
theorem d34_33 : decode jdk_78_method_2_code 33 = .ok (.return_, 1) := by decide +kernel
theorem c_tI (l : Launch) (Z : State) (a0 : Array Value) (hw : ∀ d ∈ tables_1, d.before a0 Z = true) (hEW : EW Z a0 consts_1) (n0 : Nat) (c1 : Int32) (hc1 : ¬ c1 = 0) (S1 : Sta Z Z.heap "java/lang/String" "COMPACT_STRINGS" "Z" (.int c1)) (v2 : Value) (hv2 : v2.isRef = true) (S2 : Sta Z Z.heap "jdk/internal/util/Preconditions" "SIOOBE_FORMATTER" "Ljava/util/function/BiFunction;" v2) (t1 t2 : Addr) (kt1 kt2 : ClassId) (SD1 : Sta Z Z.heap "java/lang/Integer" "DigitOnes" "[B" (.ref t1)) (SD2 : Sta Z Z.heap "java/lang/Integer" "DigitTens" "[B" (.ref t2)) (AD1 : Arv Z Z.heap t1 kt1 .byte 100 dOnes (.int 0)) (AD2 : Arv Z Z.heap t2 kt2 .byte 100 dTens (.int 0)) (hTr : ∀ e : Env, l.admits e → e.platform.stackTraces = true) (u' : Addr) (SU : Sta Z Z.heap "java/lang/Throwable" "UNASSIGNED_STACK" "[Ljava/lang/StackTraceElement;" (.ref u')) (vs' : Value) (hvs : vs'.isRef = true) (SS : Sta Z Z.heap "java/lang/Throwable" "SUPPRESSED_SENTINEL" "Ljava/util/List;" vs') (q t : Addr) {h0 : Heap} (o1 : Old Z n0 h0) (ge_q : n0 ≤ q) (Xq : Exa Z h0 q "com/example/fianza/fianza/InputException") (Uq : Unt h0 q) (Fc : Fld Z h0 q "java/lang/Throwable" "cause" "Ljava/lang/Throwable;" .null) (Fs : Fld Z h0 q "java/lang/Throwable" "stackTrace" "[Ljava/lang/StackTraceElement;" .null) (Fp : Fld Z h0 q "java/lang/Throwable" "suppressedExceptions" "Ljava/util/List;" .null) (Fb : Fld Z h0 q "java/lang/Throwable" "backtrace" "Ljava/lang/Object;" .null) (Fm : Fld Z h0 q "java/lang/Throwable" "detailMessage" "Ljava/lang/String;" .null) :
    ConK Z a0 l (⟨"java/lang/Throwable", "<init>", "(Ljava/lang/String;)V"⟩ : MethodName) jdk_78_method_2_code 2 (none) ({ frames := 3, cells := 1, slots := 2752, locals := 42 } : Room) [] #[(.ref q), (.ref t)] consts_1 h0 n0 [q] [q] (V0 fun h so => Exa Z h q "com/example/fianza/fianza/InputException" ∧ Fld Z h q "java/lang/Throwable" "detailMessage" "Ljava/lang/String;" (.ref t) ∧ so = []) := by
  refine ConK.body (plainFor_of_name pn_java_lang_Throwable) hEW o1 (allS ge_q all0) #[.val (.ref q), .val (.ref t)] (fun m => by first | (simp [entryFrame, mkF, argsToLocals, Value.category]; done) | rfl) ?_
  intro p e s m below meth c B hTK hBl hnm hret hlk G
  replace G := G.aloadN 1 d34_0 rfl rfl rfl |>.initO 4 (hw _ (mm 205 rfl)) (hw _ (mm 16 rfl)) (hw _ (mm 17 rfl)) d34_1 rfl (nle rfl) (nle rfl) rfl |>.aloadN 5 d34_4 rfl rfl rfl |>.aloadN 6 d34_5 rfl rfl rfl
  obtain ⟨h1, G', Wc', Fc', Kc'⟩ := G.putf 9 (host := "") (Or.inl (hw _ (mm 206 rfl))) Via.refl Fc Xq (Or.inl (hw _ (mm 207 rfl))) (hw _ (mm 50 rfl)) (ty := (.object "java/lang/Throwable")) (by decide) rfl rfl (Or.inl (mm 0 rfl)) (mm 0 rfl) d34_6 rfl
  replace G := G'; clear G'
  replace Fs := Fs.other Wc' (Or.inr (slot_ne (Or.inl (hw _ (mm 210 rfl))) (Or.inl (hw _ (mm 207 rfl))) (by decide) (t := (.array (.object "java/lang/StackTraceElement"))) (t' := (.object "java/lang/Throwable")) (by decide) (by decide))); replace Fp := Fp.other Wc' (Or.inr (slot_ne (Or.inl (hw _ (mm 213 rfl))) (Or.inl (hw _ (mm 207 rfl))) (by decide) (t := (.object "java/util/List")) (t' := (.object "java/lang/Throwable")) (by decide) (by decide))); replace Fb := Fb.other Wc' (Or.inr (slot_ne (Or.inl (hw _ (mm 238 rfl))) (Or.inl (hw _ (mm 207 rfl))) (by decide) (t := (.object "java/lang/Object")) (t' := (.object "java/lang/Throwable")) (by decide) (by decide))); replace Fm := Fm.other Wc' (Or.inr (slot_ne (Or.inl (hw _ (mm 237 rfl))) (Or.inl (hw _ (mm 207 rfl))) (by decide) (t := (.object "java/lang/String")) (t' := (.object "java/lang/Throwable")) (by decide) (by decide))); replace Xq := Xq.wr Wc'; replace Uq := Uq.wr Wc'
  replace G := G.aloadN 10 d34_9 rfl rfl rfl |>.gets 13 (host := "") (Or.inl (hw _ (mm 208 rfl))) Via.refl (G.sta SU) d34_10 rfl
  obtain ⟨h2, G', Ws', Fs', Ks'⟩ := G.putf 16 (host := "") (Or.inl (hw _ (mm 209 rfl))) Via.refl Fs Xq (Or.inl (hw _ (mm 210 rfl))) (hw _ (mm 50 rfl)) (ty := (.array (.object "java/lang/StackTraceElement"))) (by decide) rfl rfl (Or.inl (mm 0 rfl)) (mm 0 rfl) d34_13 rfl
  replace G := G'; clear G'
  replace Fp := Fp.other Ws' (Or.inr (slot_ne (Or.inl (hw _ (mm 213 rfl))) (Or.inl (hw _ (mm 210 rfl))) (by decide) (t := (.object "java/util/List")) (t' := (.array (.object "java/lang/StackTraceElement"))) (by decide) (by decide))); replace Fb := Fb.other Ws' (Or.inr (slot_ne (Or.inl (hw _ (mm 238 rfl))) (Or.inl (hw _ (mm 210 rfl))) (by decide) (t := (.object "java/lang/Object")) (t' := (.array (.object "java/lang/StackTraceElement"))) (by decide) (by decide))); replace Fm := Fm.other Ws' (Or.inr (slot_ne (Or.inl (hw _ (mm 237 rfl))) (Or.inl (hw _ (mm 210 rfl))) (by decide) (t := (.object "java/lang/String")) (t' := (.array (.object "java/lang/StackTraceElement"))) (by decide) (by decide))); replace Xq := Xq.wr Ws'; replace Uq := Uq.wr Ws'
  replace G := G.aloadN 17 d34_16 rfl rfl rfl |>.gets 20 (host := "") (Or.inl (hw _ (mm 211 rfl))) Via.refl (G.sta SS) d34_17 rfl
  obtain ⟨h3, G', Wp', Fp', Kp'⟩ := G.putf 23 (host := "") (Or.inl (hw _ (mm 212 rfl))) Via.refl Fp Xq (Or.inl (hw _ (mm 213 rfl))) (hw _ (mm 50 rfl)) (ty := (.object "java/util/List")) (by decide) (by rcases ref_cases hvs with rfl | ⟨_, rfl⟩ <;> rfl) (by rcases ref_cases hvs with rfl | ⟨_, rfl⟩ <;> rfl) (Or.inl (mm 0 rfl)) (mm 0 rfl) d34_20 rfl
  replace G := G'; clear G'
  replace Fb := Fb.other Wp' (Or.inr (slot_ne (Or.inl (hw _ (mm 238 rfl))) (Or.inl (hw _ (mm 213 rfl))) (by decide) (t := (.object "java/lang/Object")) (t' := (.object "java/util/List")) (by decide) (by decide))); replace Fm := Fm.other Wp' (Or.inr (slot_ne (Or.inl (hw _ (mm 237 rfl))) (Or.inl (hw _ (mm 213 rfl))) (by decide) (t := (.object "java/lang/String")) (t' := (.object "java/util/List")) (by decide) (by decide))); replace Xq := Xq.wr Wp'; replace Uq := Uq.wr Wp'
  replace Fs' := Fs'.other Wp' (Or.inr (slot_ne (Or.inl (hw _ (mm 210 rfl))) (Or.inl (hw _ (mm 213 rfl))) (by decide) (t := (.array (.object "java/lang/StackTraceElement"))) (t' := (.object "java/util/List")) (by decide) (by decide)))
  replace G := G.aloadN 24 d34_23 rfl rfl rfl
  obtain ⟨h4, G', K4, Xq4, Fm4⟩ := G.fill 27 (tw_of hw) (hw _ (mm 50 rfl)) o1 hTr hTK hBl Xq Uq Fb Fs' Fm (G.sta SU) (Or.inl (mm 0 rfl)) (mm 0 rfl) d34_24 rfl (nle rfl) (nle rfl) (nle rfl) (nle rfl) rfl
  replace G := G'; clear G'
  replace G := G.pop 28 d34_27 rfl rfl |>.aloadN 29 d34_28 rfl rfl rfl |>.aloadN 30 d34_29 rfl rfl rfl
  obtain ⟨h5, G', Wm', Fm', Km'⟩ := G.putf 33 (host := "") (Or.inl (hw _ (mm 241 rfl))) Via.refl Fm4 Xq4 (Or.inl (hw _ (mm 237 rfl))) (hw _ (mm 50 rfl)) (ty := (.object "java/lang/String")) (by decide) rfl rfl (Or.inl (mm 0 rfl)) (mm 0 rfl) d34_30 rfl
  replace G := G'; clear G'
  replace Xq4 := Xq4.wr Wm'
  exact G.retV hret hlk d34_33 [] all0 ⟨rfl, Xq4, Fm', rfl⟩ (nle rfl) (nle rfl)
theorem d33_0 : decode jdk_59_method_2_code 0 = .ok (.aload_n 0, 1) := by decide +kernel
theorem d33_1 : decode jdk_59_method_2_code 1 = .ok (.aload_n 1, 1) := by decide +kernel
theorem d33_2 : decode jdk_59_method_2_code 2 = .ok (.invokespecial 7, 3) := by decide +kernel
theorem d33_5 : decode jdk_59_method_2_code 5 = .ok (.return_, 1) := by decide +kernel
theorem c_eI (l : Launch) (Z : State) (a0 : Array Value) (hw : ∀ d ∈ tables_1, d.before a0 Z = true) (hEW : EW Z a0 consts_1) (n0 : Nat) (c1 : Int32) (hc1 : ¬ c1 = 0) (S1 : Sta Z Z.heap "java/lang/String" "COMPACT_STRINGS" "Z" (.int c1)) (v2 : Value) (hv2 : v2.isRef = true) (S2 : Sta Z Z.heap "jdk/internal/util/Preconditions" "SIOOBE_FORMATTER" "Ljava/util/function/BiFunction;" v2) (t1 t2 : Addr) (kt1 kt2 : ClassId) (SD1 : Sta Z Z.heap "java/lang/Integer" "DigitOnes" "[B" (.ref t1)) (SD2 : Sta Z Z.heap "java/lang/Integer" "DigitTens" "[B" (.ref t2)) (AD1 : Arv Z Z.heap t1 kt1 .byte 100 dOnes (.int 0)) (AD2 : Arv Z Z.heap t2 kt2 .byte 100 dTens (.int 0)) (hTr : ∀ e : Env, l.admits e → e.platform.stackTraces = true) (u' : Addr) (SU : Sta Z Z.heap "java/lang/Throwable" "UNASSIGNED_STACK" "[Ljava/lang/StackTraceElement;" (.ref u')) (vs' : Value) (hvs : vs'.isRef = true) (SS : Sta Z Z.heap "java/lang/Throwable" "SUPPRESSED_SENTINEL" "Ljava/util/List;" vs') (q t : Addr) {h0 : Heap} (o1 : Old Z n0 h0) (ge_q : n0 ≤ q) (Xq : Exa Z h0 q "com/example/fianza/fianza/InputException") (Uq : Unt h0 q) (Fc : Fld Z h0 q "java/lang/Throwable" "cause" "Ljava/lang/Throwable;" .null) (Fs : Fld Z h0 q "java/lang/Throwable" "stackTrace" "[Ljava/lang/StackTraceElement;" .null) (Fp : Fld Z h0 q "java/lang/Throwable" "suppressedExceptions" "Ljava/util/List;" .null) (Fb : Fld Z h0 q "java/lang/Throwable" "backtrace" "Ljava/lang/Object;" .null) (Fm : Fld Z h0 q "java/lang/Throwable" "detailMessage" "Ljava/lang/String;" .null) :
    ConK Z a0 l (⟨"java/lang/Exception", "<init>", "(Ljava/lang/String;)V"⟩ : MethodName) jdk_59_method_2_code 2 (none) ({ frames := 4, cells := 1, slots := 2752, locals := 55 } : Room) [] #[(.ref q), (.ref t)] consts_1 h0 n0 [q] [q] (V0 fun h so => Exa Z h q "com/example/fianza/fianza/InputException" ∧ Fld Z h q "java/lang/Throwable" "detailMessage" "Ljava/lang/String;" (.ref t) ∧ so = []) := by
  refine ConK.body (plainFor_of_name pn_java_lang_Exception) hEW o1 (allS ge_q all0) #[.val (.ref q), .val (.ref t)] (fun m => by first | (simp [entryFrame, mkF, argsToLocals, Value.category]; done) | rfl) ?_
  intro p e s m below meth c B hTK hBl hnm hret hlk G
  replace G := G.aloadN 1 d33_0 rfl rfl rfl |>.aloadN 2 d33_1 rfl rfl rfl
  obtain ⟨vi, h1, soi, G', Ki, Qi⟩ := G.callIK 5 rfl rfl (hw _ (mm 199 rfl)) (hw _ (mm 200 rfl)) (hw _ (mm 203 rfl)) (hw _ (mm 204 rfl)) (by decide) [(.ref t)] [] rfl hTK hBl (c_tI l Z a0 hw hEW n0 c1 hc1 S1 v2 hv2 S2 t1 t2 kt1 kt2 SD1 SD2 AD1 AD2 hTr u' SU vs' hvs SS q t G.old ge_q Xq Uq Fc Fs Fp Fb Fm) (lenOf pd__Ljava_lang_String__V rfl) d33_2 rfl (nle rfl) (nle rfl) (nle rfl) (nle rfl) (allS (Or.inl (mm 0 rfl)) all0) (allS (mm 0 rfl) all0) (allS (mm 0 rfl) all0) rfl
  replace G := G'; clear G'
  obtain ⟨qi, Xq1, Fm1, rfl⟩ := Qi
  replace G := G.nov qi
  exact G.retV hret hlk d33_5 [] all0 ⟨rfl, Xq1, Fm1, rfl⟩ (nle rfl) (nle rfl)
theorem d32_0 : decode jdk_58_method_2_code 0 = .ok (.aload_n 0, 1) := by decide +kernel
theorem d32_1 : decode jdk_58_method_2_code 1 = .ok (.aload_n 1, 1) := by decide +kernel
theorem d32_2 : decode jdk_58_method_2_code 2 = .ok (.invokespecial 7, 3) := by decide +kernel
theorem d32_5 : decode jdk_58_method_2_code 5 = .ok (.return_, 1) := by decide +kernel
theorem c_rI (l : Launch) (Z : State) (a0 : Array Value) (hw : ∀ d ∈ tables_1, d.before a0 Z = true) (hEW : EW Z a0 consts_1) (n0 : Nat) (c1 : Int32) (hc1 : ¬ c1 = 0) (S1 : Sta Z Z.heap "java/lang/String" "COMPACT_STRINGS" "Z" (.int c1)) (v2 : Value) (hv2 : v2.isRef = true) (S2 : Sta Z Z.heap "jdk/internal/util/Preconditions" "SIOOBE_FORMATTER" "Ljava/util/function/BiFunction;" v2) (t1 t2 : Addr) (kt1 kt2 : ClassId) (SD1 : Sta Z Z.heap "java/lang/Integer" "DigitOnes" "[B" (.ref t1)) (SD2 : Sta Z Z.heap "java/lang/Integer" "DigitTens" "[B" (.ref t2)) (AD1 : Arv Z Z.heap t1 kt1 .byte 100 dOnes (.int 0)) (AD2 : Arv Z Z.heap t2 kt2 .byte 100 dTens (.int 0)) (hTr : ∀ e : Env, l.admits e → e.platform.stackTraces = true) (u' : Addr) (SU : Sta Z Z.heap "java/lang/Throwable" "UNASSIGNED_STACK" "[Ljava/lang/StackTraceElement;" (.ref u')) (vs' : Value) (hvs : vs'.isRef = true) (SS : Sta Z Z.heap "java/lang/Throwable" "SUPPRESSED_SENTINEL" "Ljava/util/List;" vs') (q t : Addr) {h0 : Heap} (o1 : Old Z n0 h0) (ge_q : n0 ≤ q) (Xq : Exa Z h0 q "com/example/fianza/fianza/InputException") (Uq : Unt h0 q) (Fc : Fld Z h0 q "java/lang/Throwable" "cause" "Ljava/lang/Throwable;" .null) (Fs : Fld Z h0 q "java/lang/Throwable" "stackTrace" "[Ljava/lang/StackTraceElement;" .null) (Fp : Fld Z h0 q "java/lang/Throwable" "suppressedExceptions" "Ljava/util/List;" .null) (Fb : Fld Z h0 q "java/lang/Throwable" "backtrace" "Ljava/lang/Object;" .null) (Fm : Fld Z h0 q "java/lang/Throwable" "detailMessage" "Ljava/lang/String;" .null) :
    ConK Z a0 l (⟨"java/lang/RuntimeException", "<init>", "(Ljava/lang/String;)V"⟩ : MethodName) jdk_58_method_2_code 2 (none) ({ frames := 5, cells := 1, slots := 2752, locals := 68 } : Room) [] #[(.ref q), (.ref t)] consts_1 h0 n0 [q] [q] (V0 fun h so => Exa Z h q "com/example/fianza/fianza/InputException" ∧ Fld Z h q "java/lang/Throwable" "detailMessage" "Ljava/lang/String;" (.ref t) ∧ so = []) := by
  refine ConK.body (plainFor_of_name pn_java_lang_RuntimeException) hEW o1 (allS ge_q all0) #[.val (.ref q), .val (.ref t)] (fun m => by first | (simp [entryFrame, mkF, argsToLocals, Value.category]; done) | rfl) ?_
  intro p e s m below meth c B hTK hBl hnm hret hlk G
  replace G := G.aloadN 1 d32_0 rfl rfl rfl |>.aloadN 2 d32_1 rfl rfl rfl
  obtain ⟨vi, h1, soi, G', Ki, Qi⟩ := G.callIK 5 rfl rfl (hw _ (mm 193 rfl)) (hw _ (mm 194 rfl)) (hw _ (mm 197 rfl)) (hw _ (mm 198 rfl)) (by decide) [(.ref t)] [] rfl hTK hBl (c_eI l Z a0 hw hEW n0 c1 hc1 S1 v2 hv2 S2 t1 t2 kt1 kt2 SD1 SD2 AD1 AD2 hTr u' SU vs' hvs SS q t G.old ge_q Xq Uq Fc Fs Fp Fb Fm) (lenOf pd__Ljava_lang_String__V rfl) d32_2 rfl (nle rfl) (nle rfl) (nle rfl) (nle rfl) (allS (Or.inl (mm 0 rfl)) all0) (allS (mm 0 rfl) all0) (allS (mm 0 rfl) all0) rfl
  replace G := G'; clear G'
  obtain ⟨qi, Xq1, Fm1, rfl⟩ := Qi
  replace G := G.nov qi
  exact G.retV hret hlk d32_5 [] all0 ⟨rfl, Xq1, Fm1, rfl⟩ (nle rfl) (nle rfl)
theorem d31_0 : decode prog_25_method_1_code 0 = .ok (.aload_n 0, 1) := by decide +kernel
theorem d31_1 : decode prog_25_method_1_code 1 = .ok (.aload_n 1, 1) := by decide +kernel
theorem d31_2 : decode prog_25_method_1_code 2 = .ok (.invokespecial 1, 3) := by decide +kernel
theorem d31_5 : decode prog_25_method_1_code 5 = .ok (.return_, 1) := by decide +kernel
theorem c_xI (l : Launch) (Z : State) (a0 : Array Value) (hw : ∀ d ∈ tables_1, d.before a0 Z = true) (hEW : EW Z a0 consts_1) (n0 : Nat) (c1 : Int32) (hc1 : ¬ c1 = 0) (S1 : Sta Z Z.heap "java/lang/String" "COMPACT_STRINGS" "Z" (.int c1)) (v2 : Value) (hv2 : v2.isRef = true) (S2 : Sta Z Z.heap "jdk/internal/util/Preconditions" "SIOOBE_FORMATTER" "Ljava/util/function/BiFunction;" v2) (t1 t2 : Addr) (kt1 kt2 : ClassId) (SD1 : Sta Z Z.heap "java/lang/Integer" "DigitOnes" "[B" (.ref t1)) (SD2 : Sta Z Z.heap "java/lang/Integer" "DigitTens" "[B" (.ref t2)) (AD1 : Arv Z Z.heap t1 kt1 .byte 100 dOnes (.int 0)) (AD2 : Arv Z Z.heap t2 kt2 .byte 100 dTens (.int 0)) (hTr : ∀ e : Env, l.admits e → e.platform.stackTraces = true) (u' : Addr) (SU : Sta Z Z.heap "java/lang/Throwable" "UNASSIGNED_STACK" "[Ljava/lang/StackTraceElement;" (.ref u')) (vs' : Value) (hvs : vs'.isRef = true) (SS : Sta Z Z.heap "java/lang/Throwable" "SUPPRESSED_SENTINEL" "Ljava/util/List;" vs') (q t : Addr) {h0 : Heap} (o1 : Old Z n0 h0) (ge_q : n0 ≤ q) (Xq : Exa Z h0 q "com/example/fianza/fianza/InputException") (Uq : Unt h0 q) (Fc : Fld Z h0 q "java/lang/Throwable" "cause" "Ljava/lang/Throwable;" .null) (Fs : Fld Z h0 q "java/lang/Throwable" "stackTrace" "[Ljava/lang/StackTraceElement;" .null) (Fp : Fld Z h0 q "java/lang/Throwable" "suppressedExceptions" "Ljava/util/List;" .null) (Fb : Fld Z h0 q "java/lang/Throwable" "backtrace" "Ljava/lang/Object;" .null) (Fm : Fld Z h0 q "java/lang/Throwable" "detailMessage" "Ljava/lang/String;" .null) :
    ConK Z a0 l (⟨"com/example/fianza/fianza/InputException", "<init>", "(Ljava/lang/String;)V"⟩ : MethodName) prog_25_method_1_code 2 (none) ({ frames := 6, cells := 1, slots := 2752, locals := 81 } : Room) [] #[(.ref q), (.ref t)] consts_1 h0 n0 [q] [q] (V0 fun h so => Exa Z h q "com/example/fianza/fianza/InputException" ∧ Fld Z h q "java/lang/Throwable" "detailMessage" "Ljava/lang/String;" (.ref t) ∧ so = []) := by
  refine ConK.body (plainFor_of_name pn_com_example_fianza_fianza_InputException) hEW o1 (allS ge_q all0) #[.val (.ref q), .val (.ref t)] (fun m => by first | (simp [entryFrame, mkF, argsToLocals, Value.category]; done) | rfl) ?_
  intro p e s m below meth c B hTK hBl hnm hret hlk G
  replace G := G.aloadN 1 d31_0 rfl rfl rfl |>.aloadN 2 d31_1 rfl rfl rfl
  obtain ⟨vi, h1, soi, G', Ki, Qi⟩ := G.callIK 5 rfl rfl (hw _ (mm 188 rfl)) (hw _ (mm 189 rfl)) (hw _ (mm 191 rfl)) (hw _ (mm 192 rfl)) (by decide) [(.ref t)] [] rfl hTK hBl (c_rI l Z a0 hw hEW n0 c1 hc1 S1 v2 hv2 S2 t1 t2 kt1 kt2 SD1 SD2 AD1 AD2 hTr u' SU vs' hvs SS q t G.old ge_q Xq Uq Fc Fs Fp Fb Fm) (lenOf pd__Ljava_lang_String__V rfl) d31_2 rfl (nle rfl) (nle rfl) (nle rfl) (nle rfl) (allS (Or.inl (mm 0 rfl)) all0) (allS (mm 0 rfl) all0) (allS (mm 0 rfl) all0) rfl
  replace G := G'; clear G'
  obtain ⟨qi, Xq1, Fm1, rfl⟩ := Qi
  replace G := G.nov qi
  exact G.retV hret hlk d31_5 [] all0 ⟨rfl, Xq1, Fm1, rfl⟩ (nle rfl) (nle rfl)
theorem d37_0 : decode jdk_78_method_6_code 0 = .ok (.aload_n 0, 1) := by decide +kernel
theorem d37_1 : decode jdk_78_method_6_code 1 = .ok (.getfield 31, 3) := by decide +kernel
theorem d37_4 : decode jdk_78_method_6_code 4 = .ok (.areturn, 1) := by decide +kernel
theorem c_gm (l : Launch) (Z : State) (a0 : Array Value) (hw : ∀ d ∈ tables_1, d.before a0 Z = true) (hEW : EW Z a0 consts_1) (n0 : Nat) (c1 : Int32) (hc1 : ¬ c1 = 0) (S1 : Sta Z Z.heap "java/lang/String" "COMPACT_STRINGS" "Z" (.int c1)) (v2 : Value) (hv2 : v2.isRef = true) (S2 : Sta Z Z.heap "jdk/internal/util/Preconditions" "SIOOBE_FORMATTER" "Ljava/util/function/BiFunction;" v2) (t1 t2 : Addr) (kt1 kt2 : ClassId) (SD1 : Sta Z Z.heap "java/lang/Integer" "DigitOnes" "[B" (.ref t1)) (SD2 : Sta Z Z.heap "java/lang/Integer" "DigitTens" "[B" (.ref t2)) (AD1 : Arv Z Z.heap t1 kt1 .byte 100 dOnes (.int 0)) (AD2 : Arv Z Z.heap t2 kt2 .byte 100 dTens (.int 0)) (hTr : ∀ e : Env, l.admits e → e.platform.stackTraces = true) (u' : Addr) (SU : Sta Z Z.heap "java/lang/Throwable" "UNASSIGNED_STACK" "[Ljava/lang/StackTraceElement;" (.ref u')) (vs' : Value) (hvs : vs'.isRef = true) (SS : Sta Z Z.heap "java/lang/Throwable" "SUPPRESSED_SENTINEL" "Ljava/util/List;" vs') (q t : Addr) {h0 : Heap} (o1 : Old Z n0 h0) (Fm : Fld Z h0 q "java/lang/Throwable" "detailMessage" "Ljava/lang/String;" (.ref t)) :
    Con Z a0 l (⟨"java/lang/Throwable", "getMessage", "()Ljava/lang/String;"⟩ : MethodName) jdk_78_method_6_code 1 (some (.object "java/lang/String")) ({ frames := 0, cells := 0, slots := 0, locals := 0 } : Room) [] #[(.ref q)] consts_1 h0 n0 [] [] (VV fun w h so => w = .ref t ∧ h = h0 ∧ so = []) := by
  refine Con.body (plainFor_of_name pn_java_lang_Throwable) hEW o1 all0 #[.val (.ref q)] (fun m => by first | (simp [entryFrame, mkF, argsToLocals, Value.category]; done) | rfl) ?_
  intro p e s m below meth c B hnm hret hlk G
  replace G := G.aloadN 1 d37_0 rfl rfl rfl |>.getf 4 (host := "") (Or.inl (hw _ (mm 241 rfl))) Via.refl Fm d37_1 rfl
  exact G.retA hret rfl rfl hlk d37_4 [] all0 ⟨_, rfl, rfl, rfl, rfl⟩ (nle rfl) (nle rfl)
theorem d5_0 : decode prog_25_method_3_code 0 = .ok (.new 7, 3) := by decide +kernel
theorem d5_3 : decode prog_25_method_3_code 3 = .ok (.dup, 1) := by decide +kernel
theorem d5_4 : decode prog_25_method_3_code 4 = .ok (.new 9, 3) := by decide +kernel
theorem d5_7 : decode prog_25_method_3_code 7 = .ok (.dup, 1) := by decide +kernel
theorem d5_8 : decode prog_25_method_3_code 8 = .ok (.invokespecial 11, 3) := by decide +kernel
theorem d5_11 : decode prog_25_method_3_code 11 = .ok (.aload_n 0, 1) := by decide +kernel
theorem d5_12 : decode prog_25_method_3_code 12 = .ok (.invokevirtual 14, 3) := by decide +kernel
theorem d5_15 : decode prog_25_method_3_code 15 = .ok (.ldc 25, 2) := by decide +kernel
theorem d5_17 : decode prog_25_method_3_code 17 = .ok (.invokevirtual 14, 3) := by decide +kernel
theorem d5_20 : decode prog_25_method_3_code 20 = .ok (.lload_n 1, 1) := by decide +kernel
theorem d5_21 : decode prog_25_method_3_code 21 = .ok (.invokevirtual 27, 3) := by decide +kernel
theorem d5_24 : decode prog_25_method_3_code 24 = .ok (.ldc 18, 2) := by decide +kernel
theorem d5_26 : decode prog_25_method_3_code 26 = .ok (.invokevirtual 14, 3) := by decide +kernel
theorem d5_29 : decode prog_25_method_3_code 29 = .ok (.aload_n 3, 1) := by decide +kernel
theorem d5_30 : decode prog_25_method_3_code 30 = .ok (.invokevirtual 14, 3) := by decide +kernel
theorem d5_33 : decode prog_25_method_3_code 33 = .ok (.invokevirtual 20, 3) := by decide +kernel
theorem d5_36 : decode prog_25_method_3_code 36 = .ok (.invokespecial 24, 3) := by decide +kernel
theorem d5_39 : decode prog_25_method_3_code 39 = .ok (.areturn, 1) := by decide +kernel
theorem c_at0 (l : Launch) (Z : State) (a0 : Array Value) (hw : ∀ d ∈ tables_1, d.before a0 Z = true) (hEW : EW Z a0 consts_1) (n0 : Nat) (c1 : Int32) (hc1 : ¬ c1 = 0) (S1 : Sta Z Z.heap "java/lang/String" "COMPACT_STRINGS" "Z" (.int c1)) (v2 : Value) (hv2 : v2.isRef = true) (S2 : Sta Z Z.heap "jdk/internal/util/Preconditions" "SIOOBE_FORMATTER" "Ljava/util/function/BiFunction;" v2) (t1 t2 : Addr) (kt1 kt2 : ClassId) (SD1 : Sta Z Z.heap "java/lang/Integer" "DigitOnes" "[B" (.ref t1)) (SD2 : Sta Z Z.heap "java/lang/Integer" "DigitTens" "[B" (.ref t2)) (AD1 : Arv Z Z.heap t1 kt1 .byte 100 dOnes (.int 0)) (AD2 : Arv Z Z.heap t2 kt2 .byte 100 dTens (.int 0)) (hTr : ∀ e : Env, l.admits e → e.platform.stackTraces = true) (u' : Addr) (SU : Sta Z Z.heap "java/lang/Throwable" "UNASSIGNED_STACK" "[Ljava/lang/StackTraceElement;" (.ref u')) (vs' : Value) (hvs : vs'.isRef = true) (SS : Sta Z Z.heap "java/lang/Throwable" "SUPPRESSED_SENTINEL" "Ljava/util/List;" vs') (a1 b1 a2 b2 : Addr) (fs ms : List Nat) (x : Int64) (M : Nat) {h0 : Heap} (o1 : Old Z n0 h0) (h1 : fs.length ≤ 2) (h2 : ms.length ≤ 2) (hM : M ≤ 9223372036854775808) (hx : x.toInt = (M : Int)) (hF : Str Z h0 a1 b1 (bl fs)) (hN : Str Z h0 a2 b2 (bl ms)) :
    ConK Z a0 l (⟨"com/example/fianza/fianza/InputException", "at", "(Ljava/lang/String;JLjava/lang/String;)Lcom/example/fianza/fianza/InputException;"⟩ : MethodName) prog_25_method_3_code 4 (some (.object "com/example/fianza/fianza/InputException")) ({ frames := 7, cells := 15, slots := 3464, locals := 116 } : Room) [] #[(.ref a1), (.long x), (.ref a2)] consts_1 h0 n0 [] [] (VV fun w h so => ∃ q t tb, w = .ref q ∧ Exa Z h q "com/example/fianza/fianza/InputException" ∧ Fld Z h q "java/lang/Throwable" "detailMessage" "Ljava/lang/String;" (.ref t) ∧ Str Z h t tb (bl fs ++ bl [58] ++ (([] : List Value) ++ dgs (ndL M) M) ++ bl [58, 32] ++ bl ms) ∧ so = []) := by
  refine ConK.body (plainFor_of_name pn_com_example_fianza_fianza_InputException) hEW o1 all0 #[.val (.ref a1), .val (.long x), .second, .val (.ref a2)] (fun m => by first | (simp [entryFrame, mkF, argsToLocals, Value.category]; done) | rfl) ?_
  intro p e s m below meth c B hTK hBl hnm hret hlk G
  obtain ⟨q, g1, G', gq, sq, Eq, Xq, Dq, Uq⟩ := G.new 3 (hw _ (mm 49 rfl)) (hw _ (mm 50 rfl)) (hw _ (mm 47 rfl)) d5_0 rfl (nle rfl) (nle rfl)
  replace G := G'; clear G'
  have ne_a1_q : a1 ≠ q := ne_new gq hF.lt; have ne_b1_q : b1 ≠ q := ne_new gq hF.ltb; have ne_a2_q : a2 ≠ q := ne_new gq hN.lt; have ne_b2_q : b2 ≠ q := ne_new gq hN.ltb
  replace hF := hF.ext Eq; replace hN := hN.ext Eq
  have Fc := Dq (Or.inl (hw _ (mm 207 rfl))) (ty := (.object "java/lang/Throwable")) (by decide); have Fs := Dq (Or.inl (hw _ (mm 210 rfl))) (ty := (.array (.object "java/lang/StackTraceElement"))) (by decide); have Fp := Dq (Or.inl (hw _ (mm 213 rfl))) (ty := (.object "java/util/List")) (by decide); have Fb := Dq (Or.inl (hw _ (mm 238 rfl))) (ty := (.object "java/lang/Object")) (by decide); have Fm := Dq (Or.inl (hw _ (mm 237 rfl))) (ty := (.object "java/lang/String")) (by decide)
  replace G := G.dup 4 d5_3 rfl rfl
  obtain ⟨a, g2, G', ga, sa, Ea, Xa, Da, Ua⟩ := G.new 7 (hw _ (mm 51 rfl)) (hw _ (mm 52 rfl)) (hw _ (mm 53 rfl)) d5_4 rfl (nle rfl) (nle rfl)
  replace G := G'; clear G'
  have ne_a1_a : a1 ≠ a := ne_new ga hF.lt; have ne_b1_a : b1 ≠ a := ne_new ga hF.ltb; have ne_a2_a : a2 ≠ a := ne_new ga hN.lt; have ne_b2_a : b2 ≠ a := ne_new ga hN.ltb; have ne_q_a : q ≠ a := ne_new ga Xq.lt
  replace hF := hF.ext Ea; replace hN := hN.ext Ea; replace Xq := Xq.ext Ea; replace Uq := Uq.ext Ea; replace Fc := Fc.ext Ea; replace Fs := Fs.ext Ea; replace Fp := Fp.ext Ea; replace Fb := Fb.ext Ea; replace Fm := Fm.ext Ea
  have Fva := Da (Or.inl (hw _ (mm 66 rfl))) (ty := .array .byte) (by decide); have Fca := Da (Or.inl (hw _ (mm 68 rfl))) (ty := .byte) (by decide); have Fna := Da (Or.inl (hw _ (mm 91 rfl))) (ty := .int) (by decide)
  replace G := G.dup 8 d5_7 rfl rfl
  have sz := G.sz
  obtain ⟨vi, g3, soi, G', Ki, Qi⟩ := G.callI 11 rfl rfl (hw _ (mm 54 rfl)) (hw _ (mm 55 rfl)) (hw _ (mm 53 rfl)) (hw _ (mm 56 rfl)) (by decide) [] [(.ref a), (.ref q), (.ref q)] rfl (c_sbIY l Z a0 hw hEW n0 c1 hc1 S1 v2 hv2 S2 a G.old (G.nw (Or.inr sa)) Xa Fva Fca Fna) (lenOf pd___V rfl) d5_8 rfl (nle rfl) (nle rfl) (nle rfl) (nle rfl) (allS (Or.inr sa) all0) (allS (mm 0 rfl) all0) (allS (mm 0 rfl) all0) rfl
  replace G := G'; clear G'
  obtain ⟨qi, e0, hB0, se0', rfl⟩ := Qi
  replace G := G.nov qi
  have ne_a1_e0 : a1 ≠ e0 := (ne_ge hF.lt se0').symm; have ne_b1_e0 : b1 ≠ e0 := (ne_ge hF.ltb se0').symm; have ne_a2_e0 : a2 ≠ e0 := (ne_ge hN.lt se0').symm; have ne_b2_e0 : b2 ≠ e0 := (ne_ge hN.ltb se0').symm; have ne_q_e0 : q ≠ e0 := (ne_ge Xq.lt se0').symm
  replace hF := hF.keep Ki (ninS ne_a1_a nin0) (ninS ne_b1_a nin0); replace hN := hN.keep Ki (ninS ne_a2_a nin0) (ninS ne_b2_a nin0); replace Xq := Xq.keep Ki; replace Uq := Uq.keep Ki (ninS ne_q_a nin0); replace Fc := Fc.keep Ki (ninS ne_q_a nin0); replace Fs := Fs.keep Ki (ninS ne_q_a nin0); replace Fp := Fp.keep Ki (ninS ne_q_a nin0); replace Fb := Fb.keep Ki (ninS ne_q_a nin0); replace Fm := Fm.keep Ki (ninS ne_q_a nin0)
  have se0 := Nat.le_trans sz se0'; have hk0 : 16 ≤ 126 := (by decide); have hl0 : ([] : List Value).length ≤ 16 := (by decide); have hn19 : ndL M ≤ 19 := ndL_bd 19 (M := M) (by omega) (by decide)
  replace G := G.aloadN 12 d5_11 rfl rfl rfl
  have sz0 := G.sz
  obtain ⟨vp0, g4, sop0, G', Kp0, Qp0⟩ := G.callV 15 (hw _ (mm 69 rfl)) (hw _ (mm 70 rfl)) (nfSel (hw _ (mm 72 rfl))) (hw _ (mm 72 rfl)) (hw _ (mm 71 rfl)) (hw _ (mm 53 rfl)) (hw _ (mm 73 rfl)) hB0.1.1 (by decide) [(.ref a1)] [(.ref q), (.ref q)] rfl (c_appY l Z a0 hw hEW n0 c1 hc1 S1 v2 hv2 S2 a e0 a1 b1 16 [] (bl fs) G.old (G.nw (Or.inr sa)) (G.nw (Or.inr se0)) (by simp only [List.length_append, List.length_cons, List.length_nil, bl_len, dgs_len]; omega) hk0 hl0 hB0 hF ne_a1_a ne_b1_a) (lenOf pd__Ljava_lang_String__Ljava_lang_StringBuilder_ rfl) d5_12 rfl (nle rfl) (nle rfl) (nle rfl) (nle rfl) (allS (Or.inr sa) (allS (Or.inr se0) all0)) (allS (mm 1 rfl) (allS (mm 0 rfl) all0)) (allS (mm 1 rfl) (allS (mm 0 rfl) all0)) rfl
  replace G := G'; clear G'
  obtain ⟨wp0, qp0, rfl, e1, cp1, hB1, hl1, hk1, hb1, rfl⟩ := Qp0
  replace G := G.val qp0
  have se1 : h0.size ≤ e1 := hb1.elim (fun z => z ▸ se0) (fun r => Nat.le_trans sz0 r); have ne_a1_e1 : a1 ≠ e1 := ne_or ne_a1_e0 hF.lt hb1; have ne_b1_e1 : b1 ≠ e1 := ne_or ne_b1_e0 hF.ltb hb1; have ne_a2_e1 : a2 ≠ e1 := ne_or ne_a2_e0 hN.lt hb1; have ne_b2_e1 : b2 ≠ e1 := ne_or ne_b2_e0 hN.ltb hb1; have ne_q_e1 : q ≠ e1 := ne_or ne_q_e0 Xq.lt hb1
  replace hF := hF.keep Kp0 (ninS ne_a1_a (ninS ne_a1_e0 nin0)) (ninS ne_b1_a (ninS ne_b1_e0 nin0)); replace hN := hN.keep Kp0 (ninS ne_a2_a (ninS ne_a2_e0 nin0)) (ninS ne_b2_a (ninS ne_b2_e0 nin0)); replace Xq := Xq.keep Kp0; replace Uq := Uq.keep Kp0 (ninS ne_q_a (ninS ne_q_e0 nin0)); replace Fc := Fc.keep Kp0 (ninS ne_q_a (ninS ne_q_e0 nin0)); replace Fs := Fs.keep Kp0 (ninS ne_q_a (ninS ne_q_e0 nin0)); replace Fp := Fp.keep Kp0 (ninS ne_q_a (ninS ne_q_e0 nin0)); replace Fb := Fb.keep Kp0 (ninS ne_q_a (ninS ne_q_e0 nin0)); replace Fm := Fm.keep Kp0 (ninS ne_q_a (ninS ne_q_e0 nin0))
  rw [List.nil_append] at hB1 hl1
  obtain ⟨l1, l2, g5, kkz, G', Ez, Xz, Fcz, Fvz, Az, nez⟩ := G.ldcS 17 (hw _ (mm 117 rfl)) (wS_of hw) (mm 1 rfl) (vs := [(.int (58 : Int32))]) (z := (1 : Int32)) (by decide) (by decide) rfl d5_15 4 (by decide) (by decide) (nle rfl) (nle rfl) rfl
  replace G := G'; clear G'
  have ne_l1_a : l1 ≠ a := (nez a (mm 2 rfl)).1.symm; have ne_l2_a : l2 ≠ a := (nez a (mm 2 rfl)).2.symm
  replace hF := hF.ext Ez; replace hN := hN.ext Ez; replace Xq := Xq.ext Ez; replace Uq := Uq.ext Ez; replace Fc := Fc.ext Ez; replace Fs := Fs.ext Ez; replace Fp := Fp.ext Ez; replace Fb := Fb.ext Ez; replace Fm := Fm.ext Ez
  replace hB1 := hB1.ext Ez; have hLz : Str Z g5 l1 l2 (bl [58]) := ⟨Xz, Fcz, Fvz, kkz, Az⟩
  have sz1 := G.sz
  obtain ⟨vp1, g6, sop1, G', Kp1, Qp1⟩ := G.callV 20 (hw _ (mm 69 rfl)) (hw _ (mm 70 rfl)) (nfSel (hw _ (mm 72 rfl))) (hw _ (mm 72 rfl)) (hw _ (mm 71 rfl)) (hw _ (mm 53 rfl)) (hw _ (mm 73 rfl)) hB1.1.1 (by decide) [(.ref l1)] [(.ref q), (.ref q)] rfl (c_appY l Z a0 hw hEW n0 c1 hc1 S1 v2 hv2 S2 a e1 l1 l2 cp1 (bl fs) (bl [58]) G.old (G.nw (Or.inr sa)) (G.nw (Or.inr se1)) (by simp only [List.length_append, List.length_cons, List.length_nil, bl_len, dgs_len]; omega) hk1 hl1 hB1 hLz ne_l1_a ne_l2_a) (lenOf pd__Ljava_lang_String__Ljava_lang_StringBuilder_ rfl) d5_17 rfl (nle rfl) (nle rfl) (nle rfl) (nle rfl) (allS (Or.inr sa) (allS (Or.inr se1) all0)) (allS (mm 2 rfl) (allS (mm 0 rfl) all0)) (allS (mm 2 rfl) (allS (mm 0 rfl) all0)) rfl
  replace G := G'; clear G'
  obtain ⟨wp1, qp1, rfl, e2, cp2, hB2, hl2, hk2, hb2, rfl⟩ := Qp1
  replace G := G.val qp1
  have se2 : h0.size ≤ e2 := hb2.elim (fun z => z ▸ se1) (fun r => Nat.le_trans sz1 r); have ne_a1_e2 : a1 ≠ e2 := ne_or ne_a1_e1 hF.lt hb2; have ne_b1_e2 : b1 ≠ e2 := ne_or ne_b1_e1 hF.ltb hb2; have ne_a2_e2 : a2 ≠ e2 := ne_or ne_a2_e1 hN.lt hb2; have ne_b2_e2 : b2 ≠ e2 := ne_or ne_b2_e1 hN.ltb hb2; have ne_q_e2 : q ≠ e2 := ne_or ne_q_e1 Xq.lt hb2
  replace hF := hF.keep Kp1 (ninS ne_a1_a (ninS ne_a1_e1 nin0)) (ninS ne_b1_a (ninS ne_b1_e1 nin0)); replace hN := hN.keep Kp1 (ninS ne_a2_a (ninS ne_a2_e1 nin0)) (ninS ne_b2_a (ninS ne_b2_e1 nin0)); replace Xq := Xq.keep Kp1; replace Uq := Uq.keep Kp1 (ninS ne_q_a (ninS ne_q_e1 nin0)); replace Fc := Fc.keep Kp1 (ninS ne_q_a (ninS ne_q_e1 nin0)); replace Fs := Fs.keep Kp1 (ninS ne_q_a (ninS ne_q_e1 nin0)); replace Fp := Fp.keep Kp1 (ninS ne_q_a (ninS ne_q_e1 nin0)); replace Fb := Fb.keep Kp1 (ninS ne_q_a (ninS ne_q_e1 nin0)); replace Fm := Fm.keep Kp1 (ninS ne_q_a (ninS ne_q_e1 nin0))
  replace G := G.lloadN 21 d5_20 rfl rfl
  have sz2 := G.sz
  obtain ⟨vp2, g7, sop2, G', Kp2, Qp2⟩ := G.callV 24 (hw _ (mm 118 rfl)) (hw _ (mm 119 rfl)) (nfSel (hw _ (mm 121 rfl))) (hw _ (mm 121 rfl)) (hw _ (mm 120 rfl)) (hw _ (mm 53 rfl)) (hw _ (mm 122 rfl)) hB2.1.1 (by decide) [(.long x)] [(.ref q), (.ref q)] rfl (c_appJ0 l Z a0 hw hEW n0 c1 hc1 S1 v2 hv2 S2 t1 t2 kt1 kt2 SD1 SD2 AD1 AD2 a e2 cp2 ((bl fs) ++ (bl [58])) x M G.old (G.nw (Or.inr sa)) (G.nw (Or.inr se2)) hM hx (by simp only [List.length_append, List.length_cons, List.length_nil, bl_len, dgs_len]; omega) hk2 hl2 hB2) (lenOf pd__J_Ljava_lang_StringBuilder_ rfl) d5_21 rfl (nle rfl) (nle rfl) (nle rfl) (nle rfl) (allS (Or.inr sa) (allS (Or.inr se2) all0)) (allS (mm 3 rfl) (allS (mm 0 rfl) all0)) (allS (mm 3 rfl) (allS (mm 0 rfl) all0)) rfl
  replace G := G'; clear G'
  obtain ⟨wp2, qp2, rfl, e3, cp3, hB3, hl3, hk3, hb3, rfl⟩ := Qp2
  replace G := G.val qp2
  have se3 : h0.size ≤ e3 := hb3.elim (fun z => z ▸ se2) (fun r => Nat.le_trans sz2 r); have ne_a1_e3 : a1 ≠ e3 := ne_or ne_a1_e2 hF.lt hb3; have ne_b1_e3 : b1 ≠ e3 := ne_or ne_b1_e2 hF.ltb hb3; have ne_a2_e3 : a2 ≠ e3 := ne_or ne_a2_e2 hN.lt hb3; have ne_b2_e3 : b2 ≠ e3 := ne_or ne_b2_e2 hN.ltb hb3; have ne_q_e3 : q ≠ e3 := ne_or ne_q_e2 Xq.lt hb3
  replace hF := hF.keep Kp2 (ninS ne_a1_a (ninS ne_a1_e2 nin0)) (ninS ne_b1_a (ninS ne_b1_e2 nin0)); replace hN := hN.keep Kp2 (ninS ne_a2_a (ninS ne_a2_e2 nin0)) (ninS ne_b2_a (ninS ne_b2_e2 nin0)); replace Xq := Xq.keep Kp2; replace Uq := Uq.keep Kp2 (ninS ne_q_a (ninS ne_q_e2 nin0)); replace Fc := Fc.keep Kp2 (ninS ne_q_a (ninS ne_q_e2 nin0)); replace Fs := Fs.keep Kp2 (ninS ne_q_a (ninS ne_q_e2 nin0)); replace Fp := Fp.keep Kp2 (ninS ne_q_a (ninS ne_q_e2 nin0)); replace Fb := Fb.keep Kp2 (ninS ne_q_a (ninS ne_q_e2 nin0)); replace Fm := Fm.keep Kp2 (ninS ne_q_a (ninS ne_q_e2 nin0))
  obtain ⟨l3, l4, g8, kky, G', Ey, Xy, Fcy, Fvy, Ay, ney⟩ := G.ldcS 26 (hw _ (mm 143 rfl)) (wS_of hw) (mm 0 rfl) (vs := [(.int (58 : Int32)), (.int (32 : Int32))]) (z := (2 : Int32)) (by decide) (by decide) rfl d5_24 8 (by decide) (by decide) (nle rfl) (nle rfl) rfl
  replace G := G'; clear G'
  have ne_l3_a : l3 ≠ a := (ney a (mm 4 rfl)).1.symm; have ne_l4_a : l4 ≠ a := (ney a (mm 4 rfl)).2.symm
  replace hF := hF.ext Ey; replace hN := hN.ext Ey; replace Xq := Xq.ext Ey; replace Uq := Uq.ext Ey; replace Fc := Fc.ext Ey; replace Fs := Fs.ext Ey; replace Fp := Fp.ext Ey; replace Fb := Fb.ext Ey; replace Fm := Fm.ext Ey
  replace hB3 := hB3.ext Ey; have hLy : Str Z g8 l3 l4 (bl [58, 32]) := ⟨Xy, Fcy, Fvy, kky, Ay⟩
  have sz3 := G.sz
  obtain ⟨vp3, g9, sop3, G', Kp3, Qp3⟩ := G.callV 29 (hw _ (mm 69 rfl)) (hw _ (mm 70 rfl)) (nfSel (hw _ (mm 72 rfl))) (hw _ (mm 72 rfl)) (hw _ (mm 71 rfl)) (hw _ (mm 53 rfl)) (hw _ (mm 73 rfl)) hB3.1.1 (by decide) [(.ref l3)] [(.ref q), (.ref q)] rfl (c_appY l Z a0 hw hEW n0 c1 hc1 S1 v2 hv2 S2 a e3 l3 l4 cp3 (((bl fs) ++ (bl [58])) ++ (([] : List Value) ++ dgs (ndL M) M)) (bl [58, 32]) G.old (G.nw (Or.inr sa)) (G.nw (Or.inr se3)) (by simp only [List.length_append, List.length_cons, List.length_nil, bl_len, dgs_len]; omega) hk3 hl3 hB3 hLy ne_l3_a ne_l4_a) (lenOf pd__Ljava_lang_String__Ljava_lang_StringBuilder_ rfl) d5_26 rfl (nle rfl) (nle rfl) (nle rfl) (nle rfl) (allS (Or.inr sa) (allS (Or.inr se3) all0)) (allS (mm 4 rfl) (allS (mm 0 rfl) all0)) (allS (mm 4 rfl) (allS (mm 0 rfl) all0)) rfl
  replace G := G'; clear G'
  obtain ⟨wp3, qp3, rfl, e4, cp4, hB4, hl4, hk4, hb4, rfl⟩ := Qp3
  replace G := G.val qp3
  have se4 : h0.size ≤ e4 := hb4.elim (fun z => z ▸ se3) (fun r => Nat.le_trans sz3 r); have ne_a1_e4 : a1 ≠ e4 := ne_or ne_a1_e3 hF.lt hb4; have ne_b1_e4 : b1 ≠ e4 := ne_or ne_b1_e3 hF.ltb hb4; have ne_a2_e4 : a2 ≠ e4 := ne_or ne_a2_e3 hN.lt hb4; have ne_b2_e4 : b2 ≠ e4 := ne_or ne_b2_e3 hN.ltb hb4; have ne_q_e4 : q ≠ e4 := ne_or ne_q_e3 Xq.lt hb4
  replace hF := hF.keep Kp3 (ninS ne_a1_a (ninS ne_a1_e3 nin0)) (ninS ne_b1_a (ninS ne_b1_e3 nin0)); replace hN := hN.keep Kp3 (ninS ne_a2_a (ninS ne_a2_e3 nin0)) (ninS ne_b2_a (ninS ne_b2_e3 nin0)); replace Xq := Xq.keep Kp3; replace Uq := Uq.keep Kp3 (ninS ne_q_a (ninS ne_q_e3 nin0)); replace Fc := Fc.keep Kp3 (ninS ne_q_a (ninS ne_q_e3 nin0)); replace Fs := Fs.keep Kp3 (ninS ne_q_a (ninS ne_q_e3 nin0)); replace Fp := Fp.keep Kp3 (ninS ne_q_a (ninS ne_q_e3 nin0)); replace Fb := Fb.keep Kp3 (ninS ne_q_a (ninS ne_q_e3 nin0)); replace Fm := Fm.keep Kp3 (ninS ne_q_a (ninS ne_q_e3 nin0))
  replace G := G.aloadN 30 d5_29 rfl rfl rfl
  have sz4 := G.sz
  obtain ⟨vp4, g10, sop4, G', Kp4, Qp4⟩ := G.callV 33 (hw _ (mm 69 rfl)) (hw _ (mm 70 rfl)) (nfSel (hw _ (mm 72 rfl))) (hw _ (mm 72 rfl)) (hw _ (mm 71 rfl)) (hw _ (mm 53 rfl)) (hw _ (mm 73 rfl)) hB4.1.1 (by decide) [(.ref a2)] [(.ref q), (.ref q)] rfl (c_appY l Z a0 hw hEW n0 c1 hc1 S1 v2 hv2 S2 a e4 a2 b2 cp4 ((((bl fs) ++ (bl [58])) ++ (([] : List Value) ++ dgs (ndL M) M)) ++ (bl [58, 32])) (bl ms) G.old (G.nw (Or.inr sa)) (G.nw (Or.inr se4)) (by simp only [List.length_append, List.length_cons, List.length_nil, bl_len, dgs_len]; omega) hk4 hl4 hB4 hN ne_a2_a ne_b2_a) (lenOf pd__Ljava_lang_String__Ljava_lang_StringBuilder_ rfl) d5_30 rfl (nle rfl) (nle rfl) (nle rfl) (nle rfl) (allS (Or.inr sa) (allS (Or.inr se4) all0)) (allS (mm 5 rfl) (allS (mm 0 rfl) all0)) (allS (mm 5 rfl) (allS (mm 0 rfl) all0)) rfl
  replace G := G'; clear G'
  obtain ⟨wp4, qp4, rfl, e5, cp5, hB5, hl5, hk5, hb5, rfl⟩ := Qp4
  replace G := G.val qp4
  have se5 : h0.size ≤ e5 := hb5.elim (fun z => z ▸ se4) (fun r => Nat.le_trans sz4 r); have ne_a1_e5 : a1 ≠ e5 := ne_or ne_a1_e4 hF.lt hb5; have ne_b1_e5 : b1 ≠ e5 := ne_or ne_b1_e4 hF.ltb hb5; have ne_a2_e5 : a2 ≠ e5 := ne_or ne_a2_e4 hN.lt hb5; have ne_b2_e5 : b2 ≠ e5 := ne_or ne_b2_e4 hN.ltb hb5; have ne_q_e5 : q ≠ e5 := ne_or ne_q_e4 Xq.lt hb5
  replace hF := hF.keep Kp4 (ninS ne_a1_a (ninS ne_a1_e4 nin0)) (ninS ne_b1_a (ninS ne_b1_e4 nin0)); replace hN := hN.keep Kp4 (ninS ne_a2_a (ninS ne_a2_e4 nin0)) (ninS ne_b2_a (ninS ne_b2_e4 nin0)); replace Xq := Xq.keep Kp4; replace Uq := Uq.keep Kp4 (ninS ne_q_a (ninS ne_q_e4 nin0)); replace Fc := Fc.keep Kp4 (ninS ne_q_a (ninS ne_q_e4 nin0)); replace Fs := Fs.keep Kp4 (ninS ne_q_a (ninS ne_q_e4 nin0)); replace Fp := Fp.keep Kp4 (ninS ne_q_a (ninS ne_q_e4 nin0)); replace Fb := Fb.keep Kp4 (ninS ne_q_a (ninS ne_q_e4 nin0)); replace Fm := Fm.keep Kp4 (ninS ne_q_a (ninS ne_q_e4 nin0))
  replace hB5 : SbdY Z g10 a e5 cp5 (bl fs ++ bl [58] ++ (([] : List Value) ++ dgs (ndL M) M) ++ bl [58, 32] ++ bl ms) := hB5; replace hl5 : (bl fs ++ bl [58] ++ (([] : List Value) ++ dgs (ndL M) M) ++ bl [58, 32] ++ bl ms).length ≤ cp5 := hl5
  have szt := G.sz
  obtain ⟨vt, k1, sot, G', Kt, Qt⟩ := G.callV 36 (hw _ (mm 144 rfl)) (hw _ (mm 145 rfl)) (nfSel (hw _ (mm 147 rfl))) (hw _ (mm 147 rfl)) (hw _ (mm 146 rfl)) (hw _ (mm 53 rfl)) (hw _ (mm 148 rfl)) hB5.1.1 (by decide) [] [(.ref q), (.ref q)] rfl (c_toStrY l Z a0 hw hEW n0 c1 hc1 S1 v2 hv2 S2 a e5 cp5 (bl fs ++ bl [58] ++ (([] : List Value) ++ dgs (ndL M) M) ++ bl [58, 32] ++ bl ms) G.old hl5 hk5 (by simp only [List.length_append, List.length_cons, List.length_nil, bl_len, dgs_len]; omega) hB5) (lenOf pd___Ljava_lang_String_ rfl) d5_33 rfl (nle rfl) (nle rfl) (nle rfl) (nle rfl) all0 all0 all0 rfl
  replace G := G'; clear G'
  obtain ⟨wt, qt, t, tb, rfl, hT, st1, st2, rfl⟩ := Qt
  replace G := G.val qt
  have ne_a1_t : a1 ≠ t := (ne_ge hF.lt st1).symm; have ne_b1_t : b1 ≠ t := (ne_ge hF.ltb st1).symm; have ne_a2_t : a2 ≠ t := (ne_ge hN.lt st1).symm; have ne_b2_t : b2 ≠ t := (ne_ge hN.ltb st1).symm; have ne_q_t : q ≠ t := (ne_ge Xq.lt st1).symm
  have ne_a1_tb : a1 ≠ tb := (ne_ge hF.lt st2).symm; have ne_b1_tb : b1 ≠ tb := (ne_ge hF.ltb st2).symm; have ne_a2_tb : a2 ≠ tb := (ne_ge hN.lt st2).symm; have ne_b2_tb : b2 ≠ tb := (ne_ge hN.ltb st2).symm; have ne_q_tb : q ≠ tb := (ne_ge Xq.lt st2).symm
  replace Xq := Xq.keep Kt; replace Uq := Uq.keep Kt nin0; replace Fc := Fc.keep Kt nin0; replace Fs := Fs.keep Kt nin0; replace Fp := Fp.keep Kt nin0; replace Fb := Fb.keep Kt nin0; replace Fm := Fm.keep Kt nin0
  obtain ⟨vx, k2, sox, G', Kx, Qx⟩ := G.callIK 39 rfl rfl (hw _ (mm 185 rfl)) (hw _ (mm 186 rfl)) (hw _ (mm 47 rfl)) (hw _ (mm 187 rfl)) (by decide) [(.ref t)] [(.ref q)] rfl hTK hBl (c_xI l Z a0 hw hEW n0 c1 hc1 S1 v2 hv2 S2 t1 t2 kt1 kt2 SD1 SD2 AD1 AD2 hTr u' SU vs' hvs SS q t G.old (G.nw (Or.inr sq)) Xq Uq Fc Fs Fp Fb Fm) (lenOf pd__Ljava_lang_String__V rfl) d5_36 rfl (nle rfl) (nle rfl) (nle rfl) (nle rfl) (allS (Or.inr sq) all0) (allS (mm 9 rfl) all0) (allS (mm 9 rfl) all0) rfl
  replace G := G'; clear G'
  obtain ⟨qx, Xq1, Fm1, rfl⟩ := Qx
  replace G := G.nov qx
  replace hT := hT.keep Kx (ninS ne_q_t.symm nin0) (ninS ne_q_tb.symm nin0)
  exact G.retA hret rfl rfl hlk d5_39 [] all0 ⟨_, rfl, q, t, tb, rfl, Xq1, Fm1, hT, rfl⟩ (nle rfl) (nle rfl)
theorem c_at1 (l : Launch) (Z : State) (a0 : Array Value) (hw : ∀ d ∈ tables_1, d.before a0 Z = true) (hEW : EW Z a0 consts_1) (n0 : Nat) (c1 : Int32) (hc1 : ¬ c1 = 0) (S1 : Sta Z Z.heap "java/lang/String" "COMPACT_STRINGS" "Z" (.int c1)) (v2 : Value) (hv2 : v2.isRef = true) (S2 : Sta Z Z.heap "jdk/internal/util/Preconditions" "SIOOBE_FORMATTER" "Ljava/util/function/BiFunction;" v2) (t1 t2 : Addr) (kt1 kt2 : ClassId) (SD1 : Sta Z Z.heap "java/lang/Integer" "DigitOnes" "[B" (.ref t1)) (SD2 : Sta Z Z.heap "java/lang/Integer" "DigitTens" "[B" (.ref t2)) (AD1 : Arv Z Z.heap t1 kt1 .byte 100 dOnes (.int 0)) (AD2 : Arv Z Z.heap t2 kt2 .byte 100 dTens (.int 0)) (hTr : ∀ e : Env, l.admits e → e.platform.stackTraces = true) (u' : Addr) (SU : Sta Z Z.heap "java/lang/Throwable" "UNASSIGNED_STACK" "[Ljava/lang/StackTraceElement;" (.ref u')) (vs' : Value) (hvs : vs'.isRef = true) (SS : Sta Z Z.heap "java/lang/Throwable" "SUPPRESSED_SENTINEL" "Ljava/util/List;" vs') (a1 b1 a2 b2 : Addr) (fs ms : List Nat) (x : Int64) (M : Nat) {h0 : Heap} (o1 : Old Z n0 h0) (h1 : fs.length ≤ 2) (h2 : ms.length ≤ 2) (hM : M ≤ 9223372036854775808) (h0' : 0 < M) (hx : x.toInt = -(M : Int)) (hF : Str Z h0 a1 b1 (bl fs)) (hN : Str Z h0 a2 b2 (bl ms)) :
    ConK Z a0 l (⟨"com/example/fianza/fianza/InputException", "at", "(Ljava/lang/String;JLjava/lang/String;)Lcom/example/fianza/fianza/InputException;"⟩ : MethodName) prog_25_method_3_code 4 (some (.object "com/example/fianza/fianza/InputException")) ({ frames := 7, cells := 15, slots := 3464, locals := 116 } : Room) [] #[(.ref a1), (.long x), (.ref a2)] consts_1 h0 n0 [] [] (VV fun w h so => ∃ q t tb, w = .ref q ∧ Exa Z h q "com/example/fianza/fianza/InputException" ∧ Fld Z h q "java/lang/Throwable" "detailMessage" "Ljava/lang/String;" (.ref t) ∧ Str Z h t tb (bl fs ++ bl [58] ++ ([Value.int 45] ++ dgs (ndL M) M) ++ bl [58, 32] ++ bl ms) ∧ so = []) := by
  refine ConK.body (plainFor_of_name pn_com_example_fianza_fianza_InputException) hEW o1 all0 #[.val (.ref a1), .val (.long x), .second, .val (.ref a2)] (fun m => by first | (simp [entryFrame, mkF, argsToLocals, Value.category]; done) | rfl) ?_
  intro p e s m below meth c B hTK hBl hnm hret hlk G
  obtain ⟨q, g1, G', gq, sq, Eq, Xq, Dq, Uq⟩ := G.new 3 (hw _ (mm 49 rfl)) (hw _ (mm 50 rfl)) (hw _ (mm 47 rfl)) d5_0 rfl (nle rfl) (nle rfl)
  replace G := G'; clear G'
  have ne_a1_q : a1 ≠ q := ne_new gq hF.lt; have ne_b1_q : b1 ≠ q := ne_new gq hF.ltb; have ne_a2_q : a2 ≠ q := ne_new gq hN.lt; have ne_b2_q : b2 ≠ q := ne_new gq hN.ltb
  replace hF := hF.ext Eq; replace hN := hN.ext Eq
  have Fc := Dq (Or.inl (hw _ (mm 207 rfl))) (ty := (.object "java/lang/Throwable")) (by decide); have Fs := Dq (Or.inl (hw _ (mm 210 rfl))) (ty := (.array (.object "java/lang/StackTraceElement"))) (by decide); have Fp := Dq (Or.inl (hw _ (mm 213 rfl))) (ty := (.object "java/util/List")) (by decide); have Fb := Dq (Or.inl (hw _ (mm 238 rfl))) (ty := (.object "java/lang/Object")) (by decide); have Fm := Dq (Or.inl (hw _ (mm 237 rfl))) (ty := (.object "java/lang/String")) (by decide)
  replace G := G.dup 4 d5_3 rfl rfl
  obtain ⟨a, g2, G', ga, sa, Ea, Xa, Da, Ua⟩ := G.new 7 (hw _ (mm 51 rfl)) (hw _ (mm 52 rfl)) (hw _ (mm 53 rfl)) d5_4 rfl (nle rfl) (nle rfl)
  replace G := G'; clear G'
  have ne_a1_a : a1 ≠ a := ne_new ga hF.lt; have ne_b1_a : b1 ≠ a := ne_new ga hF.ltb; have ne_a2_a : a2 ≠ a := ne_new ga hN.lt; have ne_b2_a : b2 ≠ a := ne_new ga hN.ltb; have ne_q_a : q ≠ a := ne_new ga Xq.lt
  replace hF := hF.ext Ea; replace hN := hN.ext Ea; replace Xq := Xq.ext Ea; replace Uq := Uq.ext Ea; replace Fc := Fc.ext Ea; replace Fs := Fs.ext Ea; replace Fp := Fp.ext Ea; replace Fb := Fb.ext Ea; replace Fm := Fm.ext Ea
  have Fva := Da (Or.inl (hw _ (mm 66 rfl))) (ty := .array .byte) (by decide); have Fca := Da (Or.inl (hw _ (mm 68 rfl))) (ty := .byte) (by decide); have Fna := Da (Or.inl (hw _ (mm 91 rfl))) (ty := .int) (by decide)
  replace G := G.dup 8 d5_7 rfl rfl
  have sz := G.sz
  obtain ⟨vi, g3, soi, G', Ki, Qi⟩ := G.callI 11 rfl rfl (hw _ (mm 54 rfl)) (hw _ (mm 55 rfl)) (hw _ (mm 53 rfl)) (hw _ (mm 56 rfl)) (by decide) [] [(.ref a), (.ref q), (.ref q)] rfl (c_sbIY l Z a0 hw hEW n0 c1 hc1 S1 v2 hv2 S2 a G.old (G.nw (Or.inr sa)) Xa Fva Fca Fna) (lenOf pd___V rfl) d5_8 rfl (nle rfl) (nle rfl) (nle rfl) (nle rfl) (allS (Or.inr sa) all0) (allS (mm 0 rfl) all0) (allS (mm 0 rfl) all0) rfl
  replace G := G'; clear G'
  obtain ⟨qi, e0, hB0, se0', rfl⟩ := Qi
  replace G := G.nov qi
  have ne_a1_e0 : a1 ≠ e0 := (ne_ge hF.lt se0').symm; have ne_b1_e0 : b1 ≠ e0 := (ne_ge hF.ltb se0').symm; have ne_a2_e0 : a2 ≠ e0 := (ne_ge hN.lt se0').symm; have ne_b2_e0 : b2 ≠ e0 := (ne_ge hN.ltb se0').symm; have ne_q_e0 : q ≠ e0 := (ne_ge Xq.lt se0').symm
  replace hF := hF.keep Ki (ninS ne_a1_a nin0) (ninS ne_b1_a nin0); replace hN := hN.keep Ki (ninS ne_a2_a nin0) (ninS ne_b2_a nin0); replace Xq := Xq.keep Ki; replace Uq := Uq.keep Ki (ninS ne_q_a nin0); replace Fc := Fc.keep Ki (ninS ne_q_a nin0); replace Fs := Fs.keep Ki (ninS ne_q_a nin0); replace Fp := Fp.keep Ki (ninS ne_q_a nin0); replace Fb := Fb.keep Ki (ninS ne_q_a nin0); replace Fm := Fm.keep Ki (ninS ne_q_a nin0)
  have se0 := Nat.le_trans sz se0'; have hk0 : 16 ≤ 126 := (by decide); have hl0 : ([] : List Value).length ≤ 16 := (by decide); have hn19 : ndL M ≤ 19 := ndL_bd 19 (M := M) (by omega) (by decide)
  replace G := G.aloadN 12 d5_11 rfl rfl rfl
  have sz0 := G.sz
  obtain ⟨vp0, g4, sop0, G', Kp0, Qp0⟩ := G.callV 15 (hw _ (mm 69 rfl)) (hw _ (mm 70 rfl)) (nfSel (hw _ (mm 72 rfl))) (hw _ (mm 72 rfl)) (hw _ (mm 71 rfl)) (hw _ (mm 53 rfl)) (hw _ (mm 73 rfl)) hB0.1.1 (by decide) [(.ref a1)] [(.ref q), (.ref q)] rfl (c_appY l Z a0 hw hEW n0 c1 hc1 S1 v2 hv2 S2 a e0 a1 b1 16 [] (bl fs) G.old (G.nw (Or.inr sa)) (G.nw (Or.inr se0)) (by simp only [List.length_append, List.length_cons, List.length_nil, bl_len, dgs_len]; omega) hk0 hl0 hB0 hF ne_a1_a ne_b1_a) (lenOf pd__Ljava_lang_String__Ljava_lang_StringBuilder_ rfl) d5_12 rfl (nle rfl) (nle rfl) (nle rfl) (nle rfl) (allS (Or.inr sa) (allS (Or.inr se0) all0)) (allS (mm 1 rfl) (allS (mm 0 rfl) all0)) (allS (mm 1 rfl) (allS (mm 0 rfl) all0)) rfl
  replace G := G'; clear G'
  obtain ⟨wp0, qp0, rfl, e1, cp1, hB1, hl1, hk1, hb1, rfl⟩ := Qp0
  replace G := G.val qp0
  have se1 : h0.size ≤ e1 := hb1.elim (fun z => z ▸ se0) (fun r => Nat.le_trans sz0 r); have ne_a1_e1 : a1 ≠ e1 := ne_or ne_a1_e0 hF.lt hb1; have ne_b1_e1 : b1 ≠ e1 := ne_or ne_b1_e0 hF.ltb hb1; have ne_a2_e1 : a2 ≠ e1 := ne_or ne_a2_e0 hN.lt hb1; have ne_b2_e1 : b2 ≠ e1 := ne_or ne_b2_e0 hN.ltb hb1; have ne_q_e1 : q ≠ e1 := ne_or ne_q_e0 Xq.lt hb1
  replace hF := hF.keep Kp0 (ninS ne_a1_a (ninS ne_a1_e0 nin0)) (ninS ne_b1_a (ninS ne_b1_e0 nin0)); replace hN := hN.keep Kp0 (ninS ne_a2_a (ninS ne_a2_e0 nin0)) (ninS ne_b2_a (ninS ne_b2_e0 nin0)); replace Xq := Xq.keep Kp0; replace Uq := Uq.keep Kp0 (ninS ne_q_a (ninS ne_q_e0 nin0)); replace Fc := Fc.keep Kp0 (ninS ne_q_a (ninS ne_q_e0 nin0)); replace Fs := Fs.keep Kp0 (ninS ne_q_a (ninS ne_q_e0 nin0)); replace Fp := Fp.keep Kp0 (ninS ne_q_a (ninS ne_q_e0 nin0)); replace Fb := Fb.keep Kp0 (ninS ne_q_a (ninS ne_q_e0 nin0)); replace Fm := Fm.keep Kp0 (ninS ne_q_a (ninS ne_q_e0 nin0))
  rw [List.nil_append] at hB1 hl1
  obtain ⟨l1, l2, g5, kkz, G', Ez, Xz, Fcz, Fvz, Az, nez⟩ := G.ldcS 17 (hw _ (mm 117 rfl)) (wS_of hw) (mm 1 rfl) (vs := [(.int (58 : Int32))]) (z := (1 : Int32)) (by decide) (by decide) rfl d5_15 4 (by decide) (by decide) (nle rfl) (nle rfl) rfl
  replace G := G'; clear G'
  have ne_l1_a : l1 ≠ a := (nez a (mm 2 rfl)).1.symm; have ne_l2_a : l2 ≠ a := (nez a (mm 2 rfl)).2.symm
  replace hF := hF.ext Ez; replace hN := hN.ext Ez; replace Xq := Xq.ext Ez; replace Uq := Uq.ext Ez; replace Fc := Fc.ext Ez; replace Fs := Fs.ext Ez; replace Fp := Fp.ext Ez; replace Fb := Fb.ext Ez; replace Fm := Fm.ext Ez
  replace hB1 := hB1.ext Ez; have hLz : Str Z g5 l1 l2 (bl [58]) := ⟨Xz, Fcz, Fvz, kkz, Az⟩
  have sz1 := G.sz
  obtain ⟨vp1, g6, sop1, G', Kp1, Qp1⟩ := G.callV 20 (hw _ (mm 69 rfl)) (hw _ (mm 70 rfl)) (nfSel (hw _ (mm 72 rfl))) (hw _ (mm 72 rfl)) (hw _ (mm 71 rfl)) (hw _ (mm 53 rfl)) (hw _ (mm 73 rfl)) hB1.1.1 (by decide) [(.ref l1)] [(.ref q), (.ref q)] rfl (c_appY l Z a0 hw hEW n0 c1 hc1 S1 v2 hv2 S2 a e1 l1 l2 cp1 (bl fs) (bl [58]) G.old (G.nw (Or.inr sa)) (G.nw (Or.inr se1)) (by simp only [List.length_append, List.length_cons, List.length_nil, bl_len, dgs_len]; omega) hk1 hl1 hB1 hLz ne_l1_a ne_l2_a) (lenOf pd__Ljava_lang_String__Ljava_lang_StringBuilder_ rfl) d5_17 rfl (nle rfl) (nle rfl) (nle rfl) (nle rfl) (allS (Or.inr sa) (allS (Or.inr se1) all0)) (allS (mm 2 rfl) (allS (mm 0 rfl) all0)) (allS (mm 2 rfl) (allS (mm 0 rfl) all0)) rfl
  replace G := G'; clear G'
  obtain ⟨wp1, qp1, rfl, e2, cp2, hB2, hl2, hk2, hb2, rfl⟩ := Qp1
  replace G := G.val qp1
  have se2 : h0.size ≤ e2 := hb2.elim (fun z => z ▸ se1) (fun r => Nat.le_trans sz1 r); have ne_a1_e2 : a1 ≠ e2 := ne_or ne_a1_e1 hF.lt hb2; have ne_b1_e2 : b1 ≠ e2 := ne_or ne_b1_e1 hF.ltb hb2; have ne_a2_e2 : a2 ≠ e2 := ne_or ne_a2_e1 hN.lt hb2; have ne_b2_e2 : b2 ≠ e2 := ne_or ne_b2_e1 hN.ltb hb2; have ne_q_e2 : q ≠ e2 := ne_or ne_q_e1 Xq.lt hb2
  replace hF := hF.keep Kp1 (ninS ne_a1_a (ninS ne_a1_e1 nin0)) (ninS ne_b1_a (ninS ne_b1_e1 nin0)); replace hN := hN.keep Kp1 (ninS ne_a2_a (ninS ne_a2_e1 nin0)) (ninS ne_b2_a (ninS ne_b2_e1 nin0)); replace Xq := Xq.keep Kp1; replace Uq := Uq.keep Kp1 (ninS ne_q_a (ninS ne_q_e1 nin0)); replace Fc := Fc.keep Kp1 (ninS ne_q_a (ninS ne_q_e1 nin0)); replace Fs := Fs.keep Kp1 (ninS ne_q_a (ninS ne_q_e1 nin0)); replace Fp := Fp.keep Kp1 (ninS ne_q_a (ninS ne_q_e1 nin0)); replace Fb := Fb.keep Kp1 (ninS ne_q_a (ninS ne_q_e1 nin0)); replace Fm := Fm.keep Kp1 (ninS ne_q_a (ninS ne_q_e1 nin0))
  replace G := G.lloadN 21 d5_20 rfl rfl
  have sz2 := G.sz
  obtain ⟨vp2, g7, sop2, G', Kp2, Qp2⟩ := G.callV 24 (hw _ (mm 118 rfl)) (hw _ (mm 119 rfl)) (nfSel (hw _ (mm 121 rfl))) (hw _ (mm 121 rfl)) (hw _ (mm 120 rfl)) (hw _ (mm 53 rfl)) (hw _ (mm 122 rfl)) hB2.1.1 (by decide) [(.long x)] [(.ref q), (.ref q)] rfl (c_appJ1 l Z a0 hw hEW n0 c1 hc1 S1 v2 hv2 S2 t1 t2 kt1 kt2 SD1 SD2 AD1 AD2 a e2 cp2 ((bl fs) ++ (bl [58])) x M G.old (G.nw (Or.inr sa)) (G.nw (Or.inr se2)) hM h0' hx (by simp only [List.length_append, List.length_cons, List.length_nil, bl_len, dgs_len]; omega) hk2 hl2 hB2) (lenOf pd__J_Ljava_lang_StringBuilder_ rfl) d5_21 rfl (nle rfl) (nle rfl) (nle rfl) (nle rfl) (allS (Or.inr sa) (allS (Or.inr se2) all0)) (allS (mm 3 rfl) (allS (mm 0 rfl) all0)) (allS (mm 3 rfl) (allS (mm 0 rfl) all0)) rfl
  replace G := G'; clear G'
  obtain ⟨wp2, qp2, rfl, e3, cp3, hB3, hl3, hk3, hb3, rfl⟩ := Qp2
  replace G := G.val qp2
  have se3 : h0.size ≤ e3 := hb3.elim (fun z => z ▸ se2) (fun r => Nat.le_trans sz2 r); have ne_a1_e3 : a1 ≠ e3 := ne_or ne_a1_e2 hF.lt hb3; have ne_b1_e3 : b1 ≠ e3 := ne_or ne_b1_e2 hF.ltb hb3; have ne_a2_e3 : a2 ≠ e3 := ne_or ne_a2_e2 hN.lt hb3; have ne_b2_e3 : b2 ≠ e3 := ne_or ne_b2_e2 hN.ltb hb3; have ne_q_e3 : q ≠ e3 := ne_or ne_q_e2 Xq.lt hb3
  replace hF := hF.keep Kp2 (ninS ne_a1_a (ninS ne_a1_e2 nin0)) (ninS ne_b1_a (ninS ne_b1_e2 nin0)); replace hN := hN.keep Kp2 (ninS ne_a2_a (ninS ne_a2_e2 nin0)) (ninS ne_b2_a (ninS ne_b2_e2 nin0)); replace Xq := Xq.keep Kp2; replace Uq := Uq.keep Kp2 (ninS ne_q_a (ninS ne_q_e2 nin0)); replace Fc := Fc.keep Kp2 (ninS ne_q_a (ninS ne_q_e2 nin0)); replace Fs := Fs.keep Kp2 (ninS ne_q_a (ninS ne_q_e2 nin0)); replace Fp := Fp.keep Kp2 (ninS ne_q_a (ninS ne_q_e2 nin0)); replace Fb := Fb.keep Kp2 (ninS ne_q_a (ninS ne_q_e2 nin0)); replace Fm := Fm.keep Kp2 (ninS ne_q_a (ninS ne_q_e2 nin0))
  obtain ⟨l3, l4, g8, kky, G', Ey, Xy, Fcy, Fvy, Ay, ney⟩ := G.ldcS 26 (hw _ (mm 143 rfl)) (wS_of hw) (mm 0 rfl) (vs := [(.int (58 : Int32)), (.int (32 : Int32))]) (z := (2 : Int32)) (by decide) (by decide) rfl d5_24 8 (by decide) (by decide) (nle rfl) (nle rfl) rfl
  replace G := G'; clear G'
  have ne_l3_a : l3 ≠ a := (ney a (mm 4 rfl)).1.symm; have ne_l4_a : l4 ≠ a := (ney a (mm 4 rfl)).2.symm
  replace hF := hF.ext Ey; replace hN := hN.ext Ey; replace Xq := Xq.ext Ey; replace Uq := Uq.ext Ey; replace Fc := Fc.ext Ey; replace Fs := Fs.ext Ey; replace Fp := Fp.ext Ey; replace Fb := Fb.ext Ey; replace Fm := Fm.ext Ey
  replace hB3 := hB3.ext Ey; have hLy : Str Z g8 l3 l4 (bl [58, 32]) := ⟨Xy, Fcy, Fvy, kky, Ay⟩
  have sz3 := G.sz
  obtain ⟨vp3, g9, sop3, G', Kp3, Qp3⟩ := G.callV 29 (hw _ (mm 69 rfl)) (hw _ (mm 70 rfl)) (nfSel (hw _ (mm 72 rfl))) (hw _ (mm 72 rfl)) (hw _ (mm 71 rfl)) (hw _ (mm 53 rfl)) (hw _ (mm 73 rfl)) hB3.1.1 (by decide) [(.ref l3)] [(.ref q), (.ref q)] rfl (c_appY l Z a0 hw hEW n0 c1 hc1 S1 v2 hv2 S2 a e3 l3 l4 cp3 (((bl fs) ++ (bl [58])) ++ ([Value.int 45] ++ dgs (ndL M) M)) (bl [58, 32]) G.old (G.nw (Or.inr sa)) (G.nw (Or.inr se3)) (by simp only [List.length_append, List.length_cons, List.length_nil, bl_len, dgs_len]; omega) hk3 hl3 hB3 hLy ne_l3_a ne_l4_a) (lenOf pd__Ljava_lang_String__Ljava_lang_StringBuilder_ rfl) d5_26 rfl (nle rfl) (nle rfl) (nle rfl) (nle rfl) (allS (Or.inr sa) (allS (Or.inr se3) all0)) (allS (mm 4 rfl) (allS (mm 0 rfl) all0)) (allS (mm 4 rfl) (allS (mm 0 rfl) all0)) rfl
  replace G := G'; clear G'
  obtain ⟨wp3, qp3, rfl, e4, cp4, hB4, hl4, hk4, hb4, rfl⟩ := Qp3
  replace G := G.val qp3
  have se4 : h0.size ≤ e4 := hb4.elim (fun z => z ▸ se3) (fun r => Nat.le_trans sz3 r); have ne_a1_e4 : a1 ≠ e4 := ne_or ne_a1_e3 hF.lt hb4; have ne_b1_e4 : b1 ≠ e4 := ne_or ne_b1_e3 hF.ltb hb4; have ne_a2_e4 : a2 ≠ e4 := ne_or ne_a2_e3 hN.lt hb4; have ne_b2_e4 : b2 ≠ e4 := ne_or ne_b2_e3 hN.ltb hb4; have ne_q_e4 : q ≠ e4 := ne_or ne_q_e3 Xq.lt hb4
  replace hF := hF.keep Kp3 (ninS ne_a1_a (ninS ne_a1_e3 nin0)) (ninS ne_b1_a (ninS ne_b1_e3 nin0)); replace hN := hN.keep Kp3 (ninS ne_a2_a (ninS ne_a2_e3 nin0)) (ninS ne_b2_a (ninS ne_b2_e3 nin0)); replace Xq := Xq.keep Kp3; replace Uq := Uq.keep Kp3 (ninS ne_q_a (ninS ne_q_e3 nin0)); replace Fc := Fc.keep Kp3 (ninS ne_q_a (ninS ne_q_e3 nin0)); replace Fs := Fs.keep Kp3 (ninS ne_q_a (ninS ne_q_e3 nin0)); replace Fp := Fp.keep Kp3 (ninS ne_q_a (ninS ne_q_e3 nin0)); replace Fb := Fb.keep Kp3 (ninS ne_q_a (ninS ne_q_e3 nin0)); replace Fm := Fm.keep Kp3 (ninS ne_q_a (ninS ne_q_e3 nin0))
  replace G := G.aloadN 30 d5_29 rfl rfl rfl
  have sz4 := G.sz
  obtain ⟨vp4, g10, sop4, G', Kp4, Qp4⟩ := G.callV 33 (hw _ (mm 69 rfl)) (hw _ (mm 70 rfl)) (nfSel (hw _ (mm 72 rfl))) (hw _ (mm 72 rfl)) (hw _ (mm 71 rfl)) (hw _ (mm 53 rfl)) (hw _ (mm 73 rfl)) hB4.1.1 (by decide) [(.ref a2)] [(.ref q), (.ref q)] rfl (c_appY l Z a0 hw hEW n0 c1 hc1 S1 v2 hv2 S2 a e4 a2 b2 cp4 ((((bl fs) ++ (bl [58])) ++ ([Value.int 45] ++ dgs (ndL M) M)) ++ (bl [58, 32])) (bl ms) G.old (G.nw (Or.inr sa)) (G.nw (Or.inr se4)) (by simp only [List.length_append, List.length_cons, List.length_nil, bl_len, dgs_len]; omega) hk4 hl4 hB4 hN ne_a2_a ne_b2_a) (lenOf pd__Ljava_lang_String__Ljava_lang_StringBuilder_ rfl) d5_30 rfl (nle rfl) (nle rfl) (nle rfl) (nle rfl) (allS (Or.inr sa) (allS (Or.inr se4) all0)) (allS (mm 5 rfl) (allS (mm 0 rfl) all0)) (allS (mm 5 rfl) (allS (mm 0 rfl) all0)) rfl
  replace G := G'; clear G'
  obtain ⟨wp4, qp4, rfl, e5, cp5, hB5, hl5, hk5, hb5, rfl⟩ := Qp4
  replace G := G.val qp4
  have se5 : h0.size ≤ e5 := hb5.elim (fun z => z ▸ se4) (fun r => Nat.le_trans sz4 r); have ne_a1_e5 : a1 ≠ e5 := ne_or ne_a1_e4 hF.lt hb5; have ne_b1_e5 : b1 ≠ e5 := ne_or ne_b1_e4 hF.ltb hb5; have ne_a2_e5 : a2 ≠ e5 := ne_or ne_a2_e4 hN.lt hb5; have ne_b2_e5 : b2 ≠ e5 := ne_or ne_b2_e4 hN.ltb hb5; have ne_q_e5 : q ≠ e5 := ne_or ne_q_e4 Xq.lt hb5
  replace hF := hF.keep Kp4 (ninS ne_a1_a (ninS ne_a1_e4 nin0)) (ninS ne_b1_a (ninS ne_b1_e4 nin0)); replace hN := hN.keep Kp4 (ninS ne_a2_a (ninS ne_a2_e4 nin0)) (ninS ne_b2_a (ninS ne_b2_e4 nin0)); replace Xq := Xq.keep Kp4; replace Uq := Uq.keep Kp4 (ninS ne_q_a (ninS ne_q_e4 nin0)); replace Fc := Fc.keep Kp4 (ninS ne_q_a (ninS ne_q_e4 nin0)); replace Fs := Fs.keep Kp4 (ninS ne_q_a (ninS ne_q_e4 nin0)); replace Fp := Fp.keep Kp4 (ninS ne_q_a (ninS ne_q_e4 nin0)); replace Fb := Fb.keep Kp4 (ninS ne_q_a (ninS ne_q_e4 nin0)); replace Fm := Fm.keep Kp4 (ninS ne_q_a (ninS ne_q_e4 nin0))
  replace hB5 : SbdY Z g10 a e5 cp5 (bl fs ++ bl [58] ++ ([Value.int 45] ++ dgs (ndL M) M) ++ bl [58, 32] ++ bl ms) := hB5; replace hl5 : (bl fs ++ bl [58] ++ ([Value.int 45] ++ dgs (ndL M) M) ++ bl [58, 32] ++ bl ms).length ≤ cp5 := hl5
  have szt := G.sz
  obtain ⟨vt, k1, sot, G', Kt, Qt⟩ := G.callV 36 (hw _ (mm 144 rfl)) (hw _ (mm 145 rfl)) (nfSel (hw _ (mm 147 rfl))) (hw _ (mm 147 rfl)) (hw _ (mm 146 rfl)) (hw _ (mm 53 rfl)) (hw _ (mm 148 rfl)) hB5.1.1 (by decide) [] [(.ref q), (.ref q)] rfl (c_toStrY l Z a0 hw hEW n0 c1 hc1 S1 v2 hv2 S2 a e5 cp5 (bl fs ++ bl [58] ++ ([Value.int 45] ++ dgs (ndL M) M) ++ bl [58, 32] ++ bl ms) G.old hl5 hk5 (by simp only [List.length_append, List.length_cons, List.length_nil, bl_len, dgs_len]; omega) hB5) (lenOf pd___Ljava_lang_String_ rfl) d5_33 rfl (nle rfl) (nle rfl) (nle rfl) (nle rfl) all0 all0 all0 rfl
  replace G := G'; clear G'
  obtain ⟨wt, qt, t, tb, rfl, hT, st1, st2, rfl⟩ := Qt
  replace G := G.val qt
  have ne_a1_t : a1 ≠ t := (ne_ge hF.lt st1).symm; have ne_b1_t : b1 ≠ t := (ne_ge hF.ltb st1).symm; have ne_a2_t : a2 ≠ t := (ne_ge hN.lt st1).symm; have ne_b2_t : b2 ≠ t := (ne_ge hN.ltb st1).symm; have ne_q_t : q ≠ t := (ne_ge Xq.lt st1).symm
  have ne_a1_tb : a1 ≠ tb := (ne_ge hF.lt st2).symm; have ne_b1_tb : b1 ≠ tb := (ne_ge hF.ltb st2).symm; have ne_a2_tb : a2 ≠ tb := (ne_ge hN.lt st2).symm; have ne_b2_tb : b2 ≠ tb := (ne_ge hN.ltb st2).symm; have ne_q_tb : q ≠ tb := (ne_ge Xq.lt st2).symm
  replace Xq := Xq.keep Kt; replace Uq := Uq.keep Kt nin0; replace Fc := Fc.keep Kt nin0; replace Fs := Fs.keep Kt nin0; replace Fp := Fp.keep Kt nin0; replace Fb := Fb.keep Kt nin0; replace Fm := Fm.keep Kt nin0
  obtain ⟨vx, k2, sox, G', Kx, Qx⟩ := G.callIK 39 rfl rfl (hw _ (mm 185 rfl)) (hw _ (mm 186 rfl)) (hw _ (mm 47 rfl)) (hw _ (mm 187 rfl)) (by decide) [(.ref t)] [(.ref q)] rfl hTK hBl (c_xI l Z a0 hw hEW n0 c1 hc1 S1 v2 hv2 S2 t1 t2 kt1 kt2 SD1 SD2 AD1 AD2 hTr u' SU vs' hvs SS q t G.old (G.nw (Or.inr sq)) Xq Uq Fc Fs Fp Fb Fm) (lenOf pd__Ljava_lang_String__V rfl) d5_36 rfl (nle rfl) (nle rfl) (nle rfl) (nle rfl) (allS (Or.inr sq) all0) (allS (mm 9 rfl) all0) (allS (mm 9 rfl) all0) rfl
  replace G := G'; clear G'
  obtain ⟨qx, Xq1, Fm1, rfl⟩ := Qx
  replace G := G.nov qx
  replace hT := hT.keep Kx (ninS ne_q_t.symm nin0) (ninS ne_q_tb.symm nin0)
  exact G.retA hret rfl rfl hlk d5_39 [] all0 ⟨_, rfl, q, t, tb, rfl, Xq1, Fm1, hT, rfl⟩ (nle rfl) (nle rfl)
theorem c_law (l : Launch) (Z : State) (a0 : Array Value) (hw : ∀ d ∈ tables_1, d.before a0 Z = true) (hEW : EW Z a0 consts_1) (n0 : Nat) (c1 : Int32) (hc1 : ¬ c1 = 0) (S1 : Sta Z Z.heap "java/lang/String" "COMPACT_STRINGS" "Z" (.int c1)) (v2 : Value) (hv2 : v2.isRef = true) (S2 : Sta Z Z.heap "jdk/internal/util/Preconditions" "SIOOBE_FORMATTER" "Ljava/util/function/BiFunction;" v2) (t1 t2 : Addr) (kt1 kt2 : ClassId) (SD1 : Sta Z Z.heap "java/lang/Integer" "DigitOnes" "[B" (.ref t1)) (SD2 : Sta Z Z.heap "java/lang/Integer" "DigitTens" "[B" (.ref t2)) (AD1 : Arv Z Z.heap t1 kt1 .byte 100 dOnes (.int 0)) (AD2 : Arv Z Z.heap t2 kt2 .byte 100 dTens (.int 0)) (hTr : ∀ e : Env, l.admits e → e.platform.stackTraces = true) (u' : Addr) (SU : Sta Z Z.heap "java/lang/Throwable" "UNASSIGNED_STACK" "[Ljava/lang/StackTraceElement;" (.ref u')) (vs' : Value) (hvs : vs'.isRef = true) (SS : Sta Z Z.heap "java/lang/Throwable" "SUPPRESSED_SENTINEL" "Ljava/util/List;" vs') (tws : List Jvm.Cond) (i0 : Int32) (i1 : Int64) (i2 i3 : Int32) {h0 : Heap} (o1 : Old Z n0 h0)  :
    ConK Z a0 l (⟨"com/example/fianza/fianza/InputExceptionAtPinLaw", "law", "(IJII)Z"⟩ : MethodName) code 29 (some .boolean) room_1 tws #[(.int i0), (.long i1), (.int i2), (.int i3)] consts_1 h0 n0 [] [] (VV fun w h so => w = .int 1 ∧ so = []) := by
  refine ConK.body (plainFor_of_name pn_com_example_fianza_fianza_InputExceptionAtPinLaw) hEW o1 all0 #[.val (.int i0), .val (.long i1), .second, .val (.int i2), .val (.int i3), .unset, .unset, .unset, .unset, .unset, .unset, .unset, .unset, .unset, .unset, .unset, .unset, .unset, .unset, .unset, .unset, .unset, .unset, .unset, .unset, .unset, .unset, .unset, .unset] (fun m => by first | (simp [entryFrame, mkF, argsToLocals, Value.category]; done) | rfl) ?_
  intro p e s m below meth c B hTK hBl hnm hret hlk G
  obtain ⟨f0, hf0, ef0⟩ := m8 i0; obtain ⟨f1, hf1, ef1⟩ := m8 (XT.ushr i0 8); obtain ⟨nf, hnf, enf⟩ := m3s (XT.ushr i0 16); obtain ⟨m0, hm0, em0⟩ := m8 i2; obtain ⟨m1, hm1, em1⟩ := m8 (XT.ushr i2 8); obtain ⟨nm, hnm', enm⟩ := m3s (XT.ushr i2 16)
  replace G := G.iloadN 1 at_0 rfl rfl |>.sipush 4 (255 : Int32) at_1 (by decide) rfl |>.iand 5 at_4 rfl |>.top (y := (.int (Int32.ofNat f0))) (congrArg Value.int ef0) |>.i2c 6 at_5 rfl |>.top (y := (.int (Int32.ofNat f0))) (congrArg Value.int (i2c_n hf0)) |>.istore 8 #[.val (.int i0), .val (.long i1), .second, .val (.int i2), .val (.int i3), .val (.int (Int32.ofNat f0)), .unset, .unset, .unset, .unset, .unset, .unset, .unset, .unset, .unset, .unset, .unset, .unset, .unset, .unset, .unset, .unset, .unset, .unset, .unset, .unset, .unset, .unset, .unset] at_6 rfl rfl |>.iloadN 9 at_8 rfl rfl
  replace G := G.bipush 11 (8 : Int32) at_9 (by decide) rfl |>.iushr 12 at_11 rfl |>.sipush 15 (255 : Int32) at_12 (by decide) rfl |>.iand 16 at_15 rfl |>.top (y := (.int (Int32.ofNat f1))) (congrArg Value.int ef1) |>.i2c 17 at_16 rfl |>.top (y := (.int (Int32.ofNat f1))) (congrArg Value.int (i2c_n hf1)) |>.istore 19 #[.val (.int i0), .val (.long i1), .second, .val (.int i2), .val (.int i3), .val (.int (Int32.ofNat f0)), .val (.int (Int32.ofNat f1)), .unset, .unset, .unset, .unset, .unset, .unset, .unset, .unset, .unset, .unset, .unset, .unset, .unset, .unset, .unset, .unset, .unset, .unset, .unset, .unset, .unset, .unset] at_17 rfl rfl
  replace G := G.iloadN 20 at_19 rfl rfl |>.bipush 22 (16 : Int32) at_20 (by decide) rfl |>.iushr 23 at_22 rfl |>.sipush 26 (255 : Int32) at_23 (by decide) rfl |>.iand 27 at_26 rfl |>.iconst 28 (3 : Int32) at_27 rfl rfl |>.irem 29 at_28 (by decide) rfl |>.top (y := (.int (Int32.ofNat nf))) (congrArg Value.int enf)
  replace G := G.istore 31 #[.val (.int i0), .val (.long i1), .second, .val (.int i2), .val (.int i3), .val (.int (Int32.ofNat f0)), .val (.int (Int32.ofNat f1)), .val (.int (Int32.ofNat nf)), .unset, .unset, .unset, .unset, .unset, .unset, .unset, .unset, .unset, .unset, .unset, .unset, .unset, .unset, .unset, .unset, .unset, .unset, .unset, .unset, .unset] at_29 rfl rfl |>.iloadN 32 at_31 rfl rfl |>.sipush 35 (255 : Int32) at_32 (by decide) rfl |>.iand 36 at_35 rfl |>.top (y := (.int (Int32.ofNat m0))) (congrArg Value.int em0) |>.i2c 37 at_36 rfl |>.top (y := (.int (Int32.ofNat m0))) (congrArg Value.int (i2c_n hm0)) |>.istore 39 #[.val (.int i0), .val (.long i1), .second, .val (.int i2), .val (.int i3), .val (.int (Int32.ofNat f0)), .val (.int (Int32.ofNat f1)), .val (.int (Int32.ofNat nf)), .val (.int (Int32.ofNat m0)), .unset, .unset, .unset, .unset, .unset, .unset, .unset, .unset, .unset, .unset, .unset, .unset, .unset, .unset, .unset, .unset, .unset, .unset, .unset, .unset] at_37 rfl rfl
  replace G := G.iloadN 40 at_39 rfl rfl |>.bipush 42 (8 : Int32) at_40 (by decide) rfl |>.iushr 43 at_42 rfl |>.sipush 46 (255 : Int32) at_43 (by decide) rfl |>.iand 47 at_46 rfl |>.top (y := (.int (Int32.ofNat m1))) (congrArg Value.int em1) |>.i2c 48 at_47 rfl |>.top (y := (.int (Int32.ofNat m1))) (congrArg Value.int (i2c_n hm1))
  replace G := G.istore 50 #[.val (.int i0), .val (.long i1), .second, .val (.int i2), .val (.int i3), .val (.int (Int32.ofNat f0)), .val (.int (Int32.ofNat f1)), .val (.int (Int32.ofNat nf)), .val (.int (Int32.ofNat m0)), .val (.int (Int32.ofNat m1)), .unset, .unset, .unset, .unset, .unset, .unset, .unset, .unset, .unset, .unset, .unset, .unset, .unset, .unset, .unset, .unset, .unset, .unset, .unset] at_48 rfl rfl |>.iloadN 51 at_50 rfl rfl |>.bipush 53 (16 : Int32) at_51 (by decide) rfl |>.iushr 54 at_53 rfl |>.sipush 57 (255 : Int32) at_54 (by decide) rfl |>.iand 58 at_57 rfl |>.iconst 59 (3 : Int32) at_58 rfl rfl |>.irem 60 at_59 (by decide) rfl
  replace G := G.top (y := (.int (Int32.ofNat nm))) (congrArg Value.int enm) |>.istore 62 #[.val (.int i0), .val (.long i1), .second, .val (.int i2), .val (.int i3), .val (.int (Int32.ofNat f0)), .val (.int (Int32.ofNat f1)), .val (.int (Int32.ofNat nf)), .val (.int (Int32.ofNat m0)), .val (.int (Int32.ofNat m1)), .val (.int (Int32.ofNat nm)), .unset, .unset, .unset, .unset, .unset, .unset, .unset, .unset, .unset, .unset, .unset, .unset, .unset, .unset, .unset, .unset, .unset, .unset] at_60 rfl rfl |>.iload 64 at_62 rfl rfl |>.iload 66 at_64 rfl rfl |>.iload 68 at_66 rfl rfl
  obtain ⟨vma1, ga1, soma1, G', Kma1, Qma1⟩ := G.callS 71 (hw _ (mm 0 rfl)) (hw _ (mm 1 rfl)) (hw _ (mm 2 rfl)) (hw _ (mm 3 rfl)) (by decide) [(.int (Int32.ofNat nf)), (.int (Int32.ofNat f0)), (.int (Int32.ofNat f1))] [] rfl (c_mk l Z a0 hw hEW n0 c1 hc1 S1 v2 hv2 S2 t1 t2 kt1 kt2 SD1 SD2 AD1 AD2 nf f0 f1 G.old hnf hf0 hf1) (lenOf pd__ICC_Ljava_lang_String_ rfl) at_68 rfl (nle rfl) (nle rfl) (nle rfl) (nle rfl) all0 all0 all0 rfl
  replace G := G'; clear G'
  obtain ⟨wma1, qma1, a1, b1, rfl, hF, sa1, rfl⟩ := Qma1
  replace G := G.val qma1 |>.astore 73 #[.val (.int i0), .val (.long i1), .second, .val (.int i2), .val (.int i3), .val (.int (Int32.ofNat f0)), .val (.int (Int32.ofNat f1)), .val (.int (Int32.ofNat nf)), .val (.int (Int32.ofNat m0)), .val (.int (Int32.ofNat m1)), .val (.int (Int32.ofNat nm)), .val (.ref a1), .unset, .unset, .unset, .unset, .unset, .unset, .unset, .unset, .unset, .unset, .unset, .unset, .unset, .unset, .unset, .unset, .unset] at_71 rfl rfl rfl |>.iload 75 at_73 rfl rfl |>.iload 77 at_75 rfl rfl |>.iload 79 at_77 rfl rfl
  obtain ⟨vma2, ga2, soma2, G', Kma2, Qma2⟩ := G.callS 82 (hw _ (mm 0 rfl)) (hw _ (mm 1 rfl)) (hw _ (mm 2 rfl)) (hw _ (mm 3 rfl)) (by decide) [(.int (Int32.ofNat nm)), (.int (Int32.ofNat m0)), (.int (Int32.ofNat m1))] [] rfl (c_mk l Z a0 hw hEW n0 c1 hc1 S1 v2 hv2 S2 t1 t2 kt1 kt2 SD1 SD2 AD1 AD2 nm m0 m1 G.old hnm' hm0 hm1) (lenOf pd__ICC_Ljava_lang_String_ rfl) at_79 rfl (nle rfl) (nle rfl) (nle rfl) (nle rfl) all0 all0 all0 rfl
  replace G := G'; clear G'
  obtain ⟨wma2, qma2, a2, b2, rfl, hN, sa2, rfl⟩ := Qma2
  replace G := G.val qma2
  replace hF := hF.keep Kma2 nin0 nin0
  replace G := G.astore 84 #[.val (.int i0), .val (.long i1), .second, .val (.int i2), .val (.int i3), .val (.int (Int32.ofNat f0)), .val (.int (Int32.ofNat f1)), .val (.int (Int32.ofNat nf)), .val (.int (Int32.ofNat m0)), .val (.int (Int32.ofNat m1)), .val (.int (Int32.ofNat nm)), .val (.ref a1), .val (.ref a2), .unset, .unset, .unset, .unset, .unset, .unset, .unset, .unset, .unset, .unset, .unset, .unset, .unset, .unset, .unset, .unset] at_82 rfl rfl rfl |>.bipush 86 (19 : Int32) at_84 (by decide) rfl
  obtain ⟨pa, g3, kpa, G', gpa, spa, Epa, Apa⟩ := G.newarray 88 (hw _ (mm 26 rfl)) at_86 (by decide) 19 (nle rfl) (by decide) rfl (nle rfl) (nle rfl)
  replace G := G'; clear G'
  have ne_a1_pa : a1 ≠ pa := ne_new gpa hF.lt; have ne_b1_pa : b1 ≠ pa := ne_new gpa hF.ltb; have ne_a2_pa : a2 ≠ pa := ne_new gpa hN.lt; have ne_b2_pa : b2 ≠ pa := ne_new gpa hN.ltb
  replace hF := hF.ext Epa; replace hN := hN.ext Epa
  have Ap : Arv Z g3 pa kpa .long (19 : Int32) [(.long 0), (.long 0), (.long 0), (.long 0), (.long 0), (.long 0), (.long 0), (.long 0), (.long 0), (.long 0), (.long 0), (.long 0), (.long 0), (.long 0), (.long 0), (.long 0), (.long 0), (.long 0), (.long 0)] (.long 0) := Apa.pad (pad_rep [] (.long 0) 19)
  replace G := G.dup 89 at_88 rfl rfl |>.iconst 90 (0 : Int32) at_89 rfl rfl |>.lconst1 91 at_90 rfl
  obtain ⟨k0, G', As, Ks⟩ := G.lastore 92 0 Ap (by decide) rfl (nle rfl) (Or.inr spa) (mm 0 rfl) at_91 rfl
  replace G := G'; clear G'
  replace Ap : Arv Z k0 pa kpa .long (19 : Int32) [(.long (1 : Int64)), (.long 0), (.long 0), (.long 0), (.long 0), (.long 0), (.long 0), (.long 0), (.long 0), (.long 0), (.long 0), (.long 0), (.long 0), (.long 0), (.long 0), (.long 0), (.long 0), (.long 0), (.long 0)] (.long 0) := As
  replace hF := hF.keep Ks (ninS ne_a1_pa nin0) (ninS ne_b1_pa nin0); replace hN := hN.keep Ks (ninS ne_a2_pa nin0) (ninS ne_b2_pa nin0)
  replace G := G.dup 93 at_92 rfl rfl |>.iconst 94 (1 : Int32) at_93 rfl rfl |>.ldc2J 97 (hw _ (mm 27 rfl)) at_94 rfl
  obtain ⟨k1, G', As, Ks⟩ := G.lastore 98 1 Ap (by decide) rfl (nle rfl) (Or.inr spa) (mm 0 rfl) at_97 rfl
  replace G := G'; clear G'
  replace Ap : Arv Z k1 pa kpa .long (19 : Int32) [(.long (1 : Int64)), (.long (10 : Int64)), (.long 0), (.long 0), (.long 0), (.long 0), (.long 0), (.long 0), (.long 0), (.long 0), (.long 0), (.long 0), (.long 0), (.long 0), (.long 0), (.long 0), (.long 0), (.long 0), (.long 0)] (.long 0) := As
  replace hF := hF.keep Ks (ninS ne_a1_pa nin0) (ninS ne_b1_pa nin0); replace hN := hN.keep Ks (ninS ne_a2_pa nin0) (ninS ne_b2_pa nin0)
  replace G := G.dup 99 at_98 rfl rfl |>.iconst 100 (2 : Int32) at_99 rfl rfl |>.ldc2J 103 (hw _ (mm 28 rfl)) at_100 rfl
  obtain ⟨k2, G', As, Ks⟩ := G.lastore 104 2 Ap (by decide) rfl (nle rfl) (Or.inr spa) (mm 0 rfl) at_103 rfl
  replace G := G'; clear G'
  replace Ap : Arv Z k2 pa kpa .long (19 : Int32) [(.long (1 : Int64)), (.long (10 : Int64)), (.long (100 : Int64)), (.long 0), (.long 0), (.long 0), (.long 0), (.long 0), (.long 0), (.long 0), (.long 0), (.long 0), (.long 0), (.long 0), (.long 0), (.long 0), (.long 0), (.long 0), (.long 0)] (.long 0) := As
  replace hF := hF.keep Ks (ninS ne_a1_pa nin0) (ninS ne_b1_pa nin0); replace hN := hN.keep Ks (ninS ne_a2_pa nin0) (ninS ne_b2_pa nin0)
  replace G := G.dup 105 at_104 rfl rfl |>.iconst 106 (3 : Int32) at_105 rfl rfl |>.ldc2J 109 (hw _ (mm 29 rfl)) at_106 rfl
  obtain ⟨k3, G', As, Ks⟩ := G.lastore 110 3 Ap (by decide) rfl (nle rfl) (Or.inr spa) (mm 0 rfl) at_109 rfl
  replace G := G'; clear G'
  replace Ap : Arv Z k3 pa kpa .long (19 : Int32) [(.long (1 : Int64)), (.long (10 : Int64)), (.long (100 : Int64)), (.long (1000 : Int64)), (.long 0), (.long 0), (.long 0), (.long 0), (.long 0), (.long 0), (.long 0), (.long 0), (.long 0), (.long 0), (.long 0), (.long 0), (.long 0), (.long 0), (.long 0)] (.long 0) := As
  replace hF := hF.keep Ks (ninS ne_a1_pa nin0) (ninS ne_b1_pa nin0); replace hN := hN.keep Ks (ninS ne_a2_pa nin0) (ninS ne_b2_pa nin0)
  replace G := G.dup 111 at_110 rfl rfl |>.iconst 112 (4 : Int32) at_111 rfl rfl |>.ldc2J 115 (hw _ (mm 30 rfl)) at_112 rfl
  obtain ⟨k4, G', As, Ks⟩ := G.lastore 116 4 Ap (by decide) rfl (nle rfl) (Or.inr spa) (mm 0 rfl) at_115 rfl
  replace G := G'; clear G'
  replace Ap : Arv Z k4 pa kpa .long (19 : Int32) [(.long (1 : Int64)), (.long (10 : Int64)), (.long (100 : Int64)), (.long (1000 : Int64)), (.long (10000 : Int64)), (.long 0), (.long 0), (.long 0), (.long 0), (.long 0), (.long 0), (.long 0), (.long 0), (.long 0), (.long 0), (.long 0), (.long 0), (.long 0), (.long 0)] (.long 0) := As
  replace hF := hF.keep Ks (ninS ne_a1_pa nin0) (ninS ne_b1_pa nin0); replace hN := hN.keep Ks (ninS ne_a2_pa nin0) (ninS ne_b2_pa nin0)
  replace G := G.dup 117 at_116 rfl rfl |>.iconst 118 (5 : Int32) at_117 rfl rfl |>.ldc2J 121 (hw _ (mm 31 rfl)) at_118 rfl
  obtain ⟨k5, G', As, Ks⟩ := G.lastore 122 5 Ap (by decide) rfl (nle rfl) (Or.inr spa) (mm 0 rfl) at_121 rfl
  replace G := G'; clear G'
  replace Ap : Arv Z k5 pa kpa .long (19 : Int32) [(.long (1 : Int64)), (.long (10 : Int64)), (.long (100 : Int64)), (.long (1000 : Int64)), (.long (10000 : Int64)), (.long (100000 : Int64)), (.long 0), (.long 0), (.long 0), (.long 0), (.long 0), (.long 0), (.long 0), (.long 0), (.long 0), (.long 0), (.long 0), (.long 0), (.long 0)] (.long 0) := As
  replace hF := hF.keep Ks (ninS ne_a1_pa nin0) (ninS ne_b1_pa nin0); replace hN := hN.keep Ks (ninS ne_a2_pa nin0) (ninS ne_b2_pa nin0)
  replace G := G.dup 123 at_122 rfl rfl |>.bipush 125 (6 : Int32) at_123 (by decide) rfl |>.ldc2J 128 (hw _ (mm 32 rfl)) at_125 rfl
  obtain ⟨k6, G', As, Ks⟩ := G.lastore 129 6 Ap (by decide) rfl (nle rfl) (Or.inr spa) (mm 0 rfl) at_128 rfl
  replace G := G'; clear G'
  replace Ap : Arv Z k6 pa kpa .long (19 : Int32) [(.long (1 : Int64)), (.long (10 : Int64)), (.long (100 : Int64)), (.long (1000 : Int64)), (.long (10000 : Int64)), (.long (100000 : Int64)), (.long (1000000 : Int64)), (.long 0), (.long 0), (.long 0), (.long 0), (.long 0), (.long 0), (.long 0), (.long 0), (.long 0), (.long 0), (.long 0), (.long 0)] (.long 0) := As
  replace hF := hF.keep Ks (ninS ne_a1_pa nin0) (ninS ne_b1_pa nin0); replace hN := hN.keep Ks (ninS ne_a2_pa nin0) (ninS ne_b2_pa nin0)
  replace G := G.dup 130 at_129 rfl rfl |>.bipush 132 (7 : Int32) at_130 (by decide) rfl |>.ldc2J 135 (hw _ (mm 33 rfl)) at_132 rfl
  obtain ⟨k7, G', As, Ks⟩ := G.lastore 136 7 Ap (by decide) rfl (nle rfl) (Or.inr spa) (mm 0 rfl) at_135 rfl
  replace G := G'; clear G'
  replace Ap : Arv Z k7 pa kpa .long (19 : Int32) [(.long (1 : Int64)), (.long (10 : Int64)), (.long (100 : Int64)), (.long (1000 : Int64)), (.long (10000 : Int64)), (.long (100000 : Int64)), (.long (1000000 : Int64)), (.long (10000000 : Int64)), (.long 0), (.long 0), (.long 0), (.long 0), (.long 0), (.long 0), (.long 0), (.long 0), (.long 0), (.long 0), (.long 0)] (.long 0) := As
  replace hF := hF.keep Ks (ninS ne_a1_pa nin0) (ninS ne_b1_pa nin0); replace hN := hN.keep Ks (ninS ne_a2_pa nin0) (ninS ne_b2_pa nin0)
  replace G := G.dup 137 at_136 rfl rfl |>.bipush 139 (8 : Int32) at_137 (by decide) rfl |>.ldc2J 142 (hw _ (mm 34 rfl)) at_139 rfl
  obtain ⟨k8, G', As, Ks⟩ := G.lastore 143 8 Ap (by decide) rfl (nle rfl) (Or.inr spa) (mm 0 rfl) at_142 rfl
  replace G := G'; clear G'
  replace Ap : Arv Z k8 pa kpa .long (19 : Int32) [(.long (1 : Int64)), (.long (10 : Int64)), (.long (100 : Int64)), (.long (1000 : Int64)), (.long (10000 : Int64)), (.long (100000 : Int64)), (.long (1000000 : Int64)), (.long (10000000 : Int64)), (.long (100000000 : Int64)), (.long 0), (.long 0), (.long 0), (.long 0), (.long 0), (.long 0), (.long 0), (.long 0), (.long 0), (.long 0)] (.long 0) := As
  replace hF := hF.keep Ks (ninS ne_a1_pa nin0) (ninS ne_b1_pa nin0); replace hN := hN.keep Ks (ninS ne_a2_pa nin0) (ninS ne_b2_pa nin0)
  replace G := G.dup 144 at_143 rfl rfl |>.bipush 146 (9 : Int32) at_144 (by decide) rfl |>.ldc2J 149 (hw _ (mm 35 rfl)) at_146 rfl
  obtain ⟨k9, G', As, Ks⟩ := G.lastore 150 9 Ap (by decide) rfl (nle rfl) (Or.inr spa) (mm 0 rfl) at_149 rfl
  replace G := G'; clear G'
  replace Ap : Arv Z k9 pa kpa .long (19 : Int32) [(.long (1 : Int64)), (.long (10 : Int64)), (.long (100 : Int64)), (.long (1000 : Int64)), (.long (10000 : Int64)), (.long (100000 : Int64)), (.long (1000000 : Int64)), (.long (10000000 : Int64)), (.long (100000000 : Int64)), (.long (1000000000 : Int64)), (.long 0), (.long 0), (.long 0), (.long 0), (.long 0), (.long 0), (.long 0), (.long 0), (.long 0)] (.long 0) := As
  replace hF := hF.keep Ks (ninS ne_a1_pa nin0) (ninS ne_b1_pa nin0); replace hN := hN.keep Ks (ninS ne_a2_pa nin0) (ninS ne_b2_pa nin0)
  replace G := G.dup 151 at_150 rfl rfl |>.bipush 153 (10 : Int32) at_151 (by decide) rfl |>.ldc2J 156 (hw _ (mm 36 rfl)) at_153 rfl
  obtain ⟨k10, G', As, Ks⟩ := G.lastore 157 10 Ap (by decide) rfl (nle rfl) (Or.inr spa) (mm 0 rfl) at_156 rfl
  replace G := G'; clear G'
  replace Ap : Arv Z k10 pa kpa .long (19 : Int32) [(.long (1 : Int64)), (.long (10 : Int64)), (.long (100 : Int64)), (.long (1000 : Int64)), (.long (10000 : Int64)), (.long (100000 : Int64)), (.long (1000000 : Int64)), (.long (10000000 : Int64)), (.long (100000000 : Int64)), (.long (1000000000 : Int64)), (.long (10000000000 : Int64)), (.long 0), (.long 0), (.long 0), (.long 0), (.long 0), (.long 0), (.long 0), (.long 0)] (.long 0) := As
  replace hF := hF.keep Ks (ninS ne_a1_pa nin0) (ninS ne_b1_pa nin0); replace hN := hN.keep Ks (ninS ne_a2_pa nin0) (ninS ne_b2_pa nin0)
  replace G := G.dup 158 at_157 rfl rfl |>.bipush 160 (11 : Int32) at_158 (by decide) rfl |>.ldc2J 163 (hw _ (mm 37 rfl)) at_160 rfl
  obtain ⟨k11, G', As, Ks⟩ := G.lastore 164 11 Ap (by decide) rfl (nle rfl) (Or.inr spa) (mm 0 rfl) at_163 rfl
  replace G := G'; clear G'
  replace Ap : Arv Z k11 pa kpa .long (19 : Int32) [(.long (1 : Int64)), (.long (10 : Int64)), (.long (100 : Int64)), (.long (1000 : Int64)), (.long (10000 : Int64)), (.long (100000 : Int64)), (.long (1000000 : Int64)), (.long (10000000 : Int64)), (.long (100000000 : Int64)), (.long (1000000000 : Int64)), (.long (10000000000 : Int64)), (.long (100000000000 : Int64)), (.long 0), (.long 0), (.long 0), (.long 0), (.long 0), (.long 0), (.long 0)] (.long 0) := As
  replace hF := hF.keep Ks (ninS ne_a1_pa nin0) (ninS ne_b1_pa nin0); replace hN := hN.keep Ks (ninS ne_a2_pa nin0) (ninS ne_b2_pa nin0)
  replace G := G.dup 165 at_164 rfl rfl |>.bipush 167 (12 : Int32) at_165 (by decide) rfl |>.ldc2J 170 (hw _ (mm 38 rfl)) at_167 rfl
  obtain ⟨k12, G', As, Ks⟩ := G.lastore 171 12 Ap (by decide) rfl (nle rfl) (Or.inr spa) (mm 0 rfl) at_170 rfl
  replace G := G'; clear G'
  replace Ap : Arv Z k12 pa kpa .long (19 : Int32) [(.long (1 : Int64)), (.long (10 : Int64)), (.long (100 : Int64)), (.long (1000 : Int64)), (.long (10000 : Int64)), (.long (100000 : Int64)), (.long (1000000 : Int64)), (.long (10000000 : Int64)), (.long (100000000 : Int64)), (.long (1000000000 : Int64)), (.long (10000000000 : Int64)), (.long (100000000000 : Int64)), (.long (1000000000000 : Int64)), (.long 0), (.long 0), (.long 0), (.long 0), (.long 0), (.long 0)] (.long 0) := As
  replace hF := hF.keep Ks (ninS ne_a1_pa nin0) (ninS ne_b1_pa nin0); replace hN := hN.keep Ks (ninS ne_a2_pa nin0) (ninS ne_b2_pa nin0)
  replace G := G.dup 172 at_171 rfl rfl |>.bipush 174 (13 : Int32) at_172 (by decide) rfl |>.ldc2J 177 (hw _ (mm 39 rfl)) at_174 rfl
  obtain ⟨k13, G', As, Ks⟩ := G.lastore 178 13 Ap (by decide) rfl (nle rfl) (Or.inr spa) (mm 0 rfl) at_177 rfl
  replace G := G'; clear G'
  replace Ap : Arv Z k13 pa kpa .long (19 : Int32) [(.long (1 : Int64)), (.long (10 : Int64)), (.long (100 : Int64)), (.long (1000 : Int64)), (.long (10000 : Int64)), (.long (100000 : Int64)), (.long (1000000 : Int64)), (.long (10000000 : Int64)), (.long (100000000 : Int64)), (.long (1000000000 : Int64)), (.long (10000000000 : Int64)), (.long (100000000000 : Int64)), (.long (1000000000000 : Int64)), (.long (10000000000000 : Int64)), (.long 0), (.long 0), (.long 0), (.long 0), (.long 0)] (.long 0) := As
  replace hF := hF.keep Ks (ninS ne_a1_pa nin0) (ninS ne_b1_pa nin0); replace hN := hN.keep Ks (ninS ne_a2_pa nin0) (ninS ne_b2_pa nin0)
  replace G := G.dup 179 at_178 rfl rfl |>.bipush 181 (14 : Int32) at_179 (by decide) rfl |>.ldc2J 184 (hw _ (mm 40 rfl)) at_181 rfl
  obtain ⟨k14, G', As, Ks⟩ := G.lastore 185 14 Ap (by decide) rfl (nle rfl) (Or.inr spa) (mm 0 rfl) at_184 rfl
  replace G := G'; clear G'
  replace Ap : Arv Z k14 pa kpa .long (19 : Int32) [(.long (1 : Int64)), (.long (10 : Int64)), (.long (100 : Int64)), (.long (1000 : Int64)), (.long (10000 : Int64)), (.long (100000 : Int64)), (.long (1000000 : Int64)), (.long (10000000 : Int64)), (.long (100000000 : Int64)), (.long (1000000000 : Int64)), (.long (10000000000 : Int64)), (.long (100000000000 : Int64)), (.long (1000000000000 : Int64)), (.long (10000000000000 : Int64)), (.long (100000000000000 : Int64)), (.long 0), (.long 0), (.long 0), (.long 0)] (.long 0) := As
  replace hF := hF.keep Ks (ninS ne_a1_pa nin0) (ninS ne_b1_pa nin0); replace hN := hN.keep Ks (ninS ne_a2_pa nin0) (ninS ne_b2_pa nin0)
  replace G := G.dup 186 at_185 rfl rfl |>.bipush 188 (15 : Int32) at_186 (by decide) rfl |>.ldc2J 191 (hw _ (mm 41 rfl)) at_188 rfl
  obtain ⟨k15, G', As, Ks⟩ := G.lastore 192 15 Ap (by decide) rfl (nle rfl) (Or.inr spa) (mm 0 rfl) at_191 rfl
  replace G := G'; clear G'
  replace Ap : Arv Z k15 pa kpa .long (19 : Int32) [(.long (1 : Int64)), (.long (10 : Int64)), (.long (100 : Int64)), (.long (1000 : Int64)), (.long (10000 : Int64)), (.long (100000 : Int64)), (.long (1000000 : Int64)), (.long (10000000 : Int64)), (.long (100000000 : Int64)), (.long (1000000000 : Int64)), (.long (10000000000 : Int64)), (.long (100000000000 : Int64)), (.long (1000000000000 : Int64)), (.long (10000000000000 : Int64)), (.long (100000000000000 : Int64)), (.long (1000000000000000 : Int64)), (.long 0), (.long 0), (.long 0)] (.long 0) := As
  replace hF := hF.keep Ks (ninS ne_a1_pa nin0) (ninS ne_b1_pa nin0); replace hN := hN.keep Ks (ninS ne_a2_pa nin0) (ninS ne_b2_pa nin0)
  replace G := G.dup 193 at_192 rfl rfl |>.bipush 195 (16 : Int32) at_193 (by decide) rfl |>.ldc2J 198 (hw _ (mm 42 rfl)) at_195 rfl
  obtain ⟨k16, G', As, Ks⟩ := G.lastore 199 16 Ap (by decide) rfl (nle rfl) (Or.inr spa) (mm 0 rfl) at_198 rfl
  replace G := G'; clear G'
  replace Ap : Arv Z k16 pa kpa .long (19 : Int32) [(.long (1 : Int64)), (.long (10 : Int64)), (.long (100 : Int64)), (.long (1000 : Int64)), (.long (10000 : Int64)), (.long (100000 : Int64)), (.long (1000000 : Int64)), (.long (10000000 : Int64)), (.long (100000000 : Int64)), (.long (1000000000 : Int64)), (.long (10000000000 : Int64)), (.long (100000000000 : Int64)), (.long (1000000000000 : Int64)), (.long (10000000000000 : Int64)), (.long (100000000000000 : Int64)), (.long (1000000000000000 : Int64)), (.long (10000000000000000 : Int64)), (.long 0), (.long 0)] (.long 0) := As
  replace hF := hF.keep Ks (ninS ne_a1_pa nin0) (ninS ne_b1_pa nin0); replace hN := hN.keep Ks (ninS ne_a2_pa nin0) (ninS ne_b2_pa nin0)
  replace G := G.dup 200 at_199 rfl rfl |>.bipush 202 (17 : Int32) at_200 (by decide) rfl |>.ldc2J 205 (hw _ (mm 43 rfl)) at_202 rfl
  obtain ⟨k17, G', As, Ks⟩ := G.lastore 206 17 Ap (by decide) rfl (nle rfl) (Or.inr spa) (mm 0 rfl) at_205 rfl
  replace G := G'; clear G'
  replace Ap : Arv Z k17 pa kpa .long (19 : Int32) [(.long (1 : Int64)), (.long (10 : Int64)), (.long (100 : Int64)), (.long (1000 : Int64)), (.long (10000 : Int64)), (.long (100000 : Int64)), (.long (1000000 : Int64)), (.long (10000000 : Int64)), (.long (100000000 : Int64)), (.long (1000000000 : Int64)), (.long (10000000000 : Int64)), (.long (100000000000 : Int64)), (.long (1000000000000 : Int64)), (.long (10000000000000 : Int64)), (.long (100000000000000 : Int64)), (.long (1000000000000000 : Int64)), (.long (10000000000000000 : Int64)), (.long (100000000000000000 : Int64)), (.long 0)] (.long 0) := As
  replace hF := hF.keep Ks (ninS ne_a1_pa nin0) (ninS ne_b1_pa nin0); replace hN := hN.keep Ks (ninS ne_a2_pa nin0) (ninS ne_b2_pa nin0)
  replace G := G.dup 207 at_206 rfl rfl |>.bipush 209 (18 : Int32) at_207 (by decide) rfl |>.ldc2J 212 (hw _ (mm 44 rfl)) at_209 rfl
  obtain ⟨k18, G', As, Ks⟩ := G.lastore 213 18 Ap (by decide) rfl (nle rfl) (Or.inr spa) (mm 0 rfl) at_212 rfl
  replace G := G'; clear G'
  replace Ap : Arv Z k18 pa kpa .long (19 : Int32) [(.long (1 : Int64)), (.long (10 : Int64)), (.long (100 : Int64)), (.long (1000 : Int64)), (.long (10000 : Int64)), (.long (100000 : Int64)), (.long (1000000 : Int64)), (.long (10000000 : Int64)), (.long (100000000 : Int64)), (.long (1000000000 : Int64)), (.long (10000000000 : Int64)), (.long (100000000000 : Int64)), (.long (1000000000000 : Int64)), (.long (10000000000000 : Int64)), (.long (100000000000000 : Int64)), (.long (1000000000000000 : Int64)), (.long (10000000000000000 : Int64)), (.long (100000000000000000 : Int64)), (.long (1000000000000000000 : Int64))] (.long 0) := As
  replace hF := hF.keep Ks (ninS ne_a1_pa nin0) (ninS ne_b1_pa nin0); replace hN := hN.keep Ks (ninS ne_a2_pa nin0) (ninS ne_b2_pa nin0)
  replace Ap : Arv Z k18 pa kpa .long (19 : Int32) pv (.long 0) := by rw [show pv = [(.long (1 : Int64)), (.long (10 : Int64)), (.long (100 : Int64)), (.long (1000 : Int64)), (.long (10000 : Int64)), (.long (100000 : Int64)), (.long (1000000 : Int64)), (.long (10000000 : Int64)), (.long (100000000 : Int64)), (.long (1000000000 : Int64)), (.long (10000000000 : Int64)), (.long (100000000000 : Int64)), (.long (1000000000000 : Int64)), (.long (10000000000000 : Int64)), (.long (100000000000000 : Int64)), (.long (1000000000000000 : Int64)), (.long (10000000000000000 : Int64)), (.long (100000000000000000 : Int64)), (.long (1000000000000000000 : Int64))] from (by decide +kernel)]; exact Ap
  replace G := G.astore 215 #[.val (.int i0), .val (.long i1), .second, .val (.int i2), .val (.int i3), .val (.int (Int32.ofNat f0)), .val (.int (Int32.ofNat f1)), .val (.int (Int32.ofNat nf)), .val (.int (Int32.ofNat m0)), .val (.int (Int32.ofNat m1)), .val (.int (Int32.ofNat nm)), .val (.ref a1), .val (.ref a2), .val (.ref pa), .unset, .unset, .unset, .unset, .unset, .unset, .unset, .unset, .unset, .unset, .unset, .unset, .unset, .unset, .unset] at_213 rfl rfl rfl |>.aload 217 at_215 rfl rfl rfl |>.lloadN 218 at_217 rfl rfl |>.aload 220 at_218 rfl rfl rfl
  have l1 := mkL_len (x := f0) (y := f1) hnf; have l2 := mkL_len (x := m0) (y := m1) hnm'
  obtain ⟨M, hM, hsg⟩ : ∃ M : Nat, M ≤ 9223372036854775808 ∧ (i1.toInt = (M : Int) ∨ (0 < M ∧ i1.toInt = -(M : Int))) := by
    have r := rng64 i1
    refine ⟨i1.toInt.natAbs, by omega, ?_⟩
    by_cases z : 0 ≤ i1.toInt
    · left; omega
    · right; omega
  rcases hsg with hx | hx
  · skip
    obtain ⟨vx, j1, sox, G', Kx, Qx⟩ := G.callSK 223 (hw _ (mm 45 rfl)) (hw _ (mm 46 rfl)) (hw _ (mm 47 rfl)) (hw _ (mm 48 rfl)) (by decide) [(.ref a1), (.long i1), (.ref a2)] [] rfl hTK hBl (c_at0 l Z a0 hw hEW n0 c1 hc1 S1 v2 hv2 S2 t1 t2 kt1 kt2 SD1 SD2 AD1 AD2 hTr u' SU vs' hvs SS a1 b1 a2 b2 (mkL nf f0 f1) (mkL nm m0 m1) i1 M G.old (by omega) (by omega) hM hx hF hN) (lenOf pd__Ljava_lang_String_JLjava_lang_String__Lcom_example_fianza_fianza_InputException_ rfl) at_220 rfl (nle rfl) (nle rfl) (nle rfl) (nle rfl) all0 all0 all0 rfl
    replace G := G'; clear G'
    obtain ⟨wx, qx, q, t, tb, rfl, Xq, Fm, hT, rfl⟩ := Qx
    replace G := G.val qx
    replace Ap := Ap.keep Kx nin0
    replace G := G.astore 225 #[.val (.int i0), .val (.long i1), .second, .val (.int i2), .val (.int i3), .val (.int (Int32.ofNat f0)), .val (.int (Int32.ofNat f1)), .val (.int (Int32.ofNat nf)), .val (.int (Int32.ofNat m0)), .val (.int (Int32.ofNat m1)), .val (.int (Int32.ofNat nm)), .val (.ref a1), .val (.ref a2), .val (.ref pa), .val (.ref q), .unset, .unset, .unset, .unset, .unset, .unset, .unset, .unset, .unset, .unset, .unset, .unset, .unset, .unset] at_223 rfl rfl rfl |>.aload 227 at_225 rfl rfl rfl |>.ifnonnullT 232 at_227 (by decide) (by decide) |>.aload 234 at_232 rfl rfl rfl
    obtain ⟨vy, j_4, soy, G', Ky, Qy⟩ := G.callU 237 (owner := "java/lang/Throwable") (hw _ (mm 242 rfl)) (hw _ (mm 243 rfl)) (hw _ (mm 244 rfl)) (hw _ (mm 246 rfl)) (hw _ (mm 245 rfl)) (hw _ (mm 203 rfl)) (hw _ (mm 247 rfl)) Xq (by decide) [] [] rfl (c_gm l Z a0 hw hEW n0 c1 hc1 S1 v2 hv2 S2 t1 t2 kt1 kt2 SD1 SD2 AD1 AD2 hTr u' SU vs' hvs SS q t G.old Fm) (lenOf pd___Ljava_lang_String_ rfl) at_234 rfl (nle rfl) (nle rfl) (nle rfl) (nle rfl) all0 all0 all0 rfl
    replace G := G'; clear G'
    obtain ⟨wy, qy, rfl, ey, rfl⟩ := Qy
    replace G := G.val qy
    subst ey
    replace G := G.astore 239 #[.val (.int i0), .val (.long i1), .second, .val (.int i2), .val (.int i3), .val (.int (Int32.ofNat f0)), .val (.int (Int32.ofNat f1)), .val (.int (Int32.ofNat nf)), .val (.int (Int32.ofNat m0)), .val (.int (Int32.ofNat m1)), .val (.int (Int32.ofNat nm)), .val (.ref a1), .val (.ref a2), .val (.ref pa), .val (.ref q), .val (.ref t), .unset, .unset, .unset, .unset, .unset, .unset, .unset, .unset, .unset, .unset, .unset, .unset, .unset] at_237 rfl rfl rfl |>.aload 241 at_239 rfl rfl rfl |>.ifnonnullT 246 at_241 (by decide) (by decide) |>.aload 248 at_246 rfl rfl rfl
    have hn1 := ndL_pos M; have hn19 : ndL M ≤ 19 := ndL_bd 19 (M := M) (by omega) (by decide); have hlen : (bl (mkL nf f0 f1) ++ bl [58] ++ (([] : List Value) ++ dgs (ndL M) M) ++ bl [58, 32] ++ bl (mkL nm m0 m1)).length = nf + 1 + (ndL M + 0) + 2 + nm := by simp only [List.length_append, List.length_cons, List.length_nil, bl_len, dgs_len, l1, l2]; omega
    obtain ⟨t0, t1', t2', t3, t4, t5⟩ := vt (A := bl (mkL nf f0 f1)) (N := (([] : List Value) ++ dgs (ndL M) M)) (B := bl (mkL nm m0 m1)) (a := nf) (n := (ndL M + 0)) (b := nm) (by rw [bl_len, l1]) (by simp only [List.length_append, List.length_cons, List.length_nil, dgs_len]; omega) (by rw [bl_len, l2])
    obtain ⟨vl, j_5, sol, G', Kl, Ql⟩ := G.callV 251 (hw _ (mm 248 rfl)) (hw _ (mm 80 rfl)) (nfSel (hw _ (mm 82 rfl))) (hw _ (mm 82 rfl)) (hw _ (mm 81 rfl)) (hw _ (mm 6 rfl)) (hw _ (mm 83 rfl)) hT.1 (by decide) [] [] rfl (c_length l Z a0 hw hEW n0 c1 hc1 S1 v2 hv2 S2 t tb (bl (mkL nf f0 f1) ++ bl [58] ++ (([] : List Value) ++ dgs (ndL M) M) ++ bl [58, 32] ++ bl (mkL nm m0 m1)) G.old hT) (lenOf pd___I rfl) at_248 rfl (nle rfl) (nle rfl) (nle rfl) (nle rfl) all0 all0 all0 rfl
    replace G := G'; clear G'
    obtain ⟨wl, ql, rfl, el, rfl⟩ := Ql
    replace G := G.val ql
    subst el
    replace G := G.top (y := (.int (Int32.ofNat (nf + 1 + (ndL M + 0) + 2 + nm)))) (by rw [hlen]) |>.istore 253 #[.val (.int i0), .val (.long i1), .second, .val (.int i2), .val (.int i3), .val (.int (Int32.ofNat f0)), .val (.int (Int32.ofNat f1)), .val (.int (Int32.ofNat nf)), .val (.int (Int32.ofNat m0)), .val (.int (Int32.ofNat m1)), .val (.int (Int32.ofNat nm)), .val (.ref a1), .val (.ref a2), .val (.ref pa), .val (.ref q), .val (.ref t), .val (.int (Int32.ofNat (nf + 1 + (ndL M + 0) + 2 + nm))), .unset, .unset, .unset, .unset, .unset, .unset, .unset, .unset, .unset, .unset, .unset, .unset] at_251 rfl rfl |>.iload 255 at_253 rfl rfl |>.iload 257 at_255 rfl rfl |>.isub 258 at_257 rfl |>.top (y := (.int (Int32.ofNat (1 + (ndL M + 0) + 2 + nm)))) (congrArg Value.int ((ofn_sub (by omega) (by omega)).trans (by congr 1 <;> omega))) |>.iconst 259 (3 : Int32) at_258 rfl rfl |>.isub 260 at_259 rfl
    replace G := G.top (y := (.int (Int32.ofNat ((ndL M + 0) + nm)))) (congrArg Value.int ((ofn_sub (b := 3) (by omega) (by omega)).trans (by congr 1 <;> omega))) |>.iload 262 at_260 rfl rfl |>.isub 263 at_262 rfl |>.top (y := (.int (Int32.ofNat (ndL M + 0)))) (congrArg Value.int ((ofn_sub (by omega) (by omega)).trans (by congr 1 <;> omega))) |>.istore 265 #[.val (.int i0), .val (.long i1), .second, .val (.int i2), .val (.int i3), .val (.int (Int32.ofNat f0)), .val (.int (Int32.ofNat f1)), .val (.int (Int32.ofNat nf)), .val (.int (Int32.ofNat m0)), .val (.int (Int32.ofNat m1)), .val (.int (Int32.ofNat nm)), .val (.ref a1), .val (.ref a2), .val (.ref pa), .val (.ref q), .val (.ref t), .val (.int (Int32.ofNat (nf + 1 + (ndL M + 0) + 2 + nm))), .val (.int (Int32.ofNat (ndL M + 0))), .unset, .unset, .unset, .unset, .unset, .unset, .unset, .unset, .unset, .unset, .unset] at_263 rfl rfl |>.lloadN 266 at_265 rfl rfl |>.lconst0 267 at_266 rfl |>.lcmp 268 at_267 rfl
    replace G := G.ifT 275 at_268 (XT.ll_ge_t (by rw [Int64.lt_iff_toInt_lt, hx]; show ¬ (M : Int) < 0; omega)) (by decide) (by decide) |>.iconst 276 (0 : Int32) at_275 rfl rfl |>.istore 278 #[.val (.int i0), .val (.long i1), .second, .val (.int i2), .val (.int i3), .val (.int (Int32.ofNat f0)), .val (.int (Int32.ofNat f1)), .val (.int (Int32.ofNat nf)), .val (.int (Int32.ofNat m0)), .val (.int (Int32.ofNat m1)), .val (.int (Int32.ofNat nm)), .val (.ref a1), .val (.ref a2), .val (.ref pa), .val (.ref q), .val (.ref t), .val (.int (Int32.ofNat (nf + 1 + (ndL M + 0) + 2 + nm))), .val (.int (Int32.ofNat (ndL M + 0))), .val (.int (0 : Int32)), .unset, .unset, .unset, .unset, .unset, .unset, .unset, .unset, .unset, .unset] at_276 rfl rfl |>.iload 280 at_278 rfl rfl |>.ifT 290 at_280 (XT.i0_eq_t rfl) (by decide) (by decide) |>.iload 292 at_290 rfl rfl |>.top (y := (.int (Int32.ofNat (ndL M)))) (rfl) |>.istore 294 #[.val (.int i0), .val (.long i1), .second, .val (.int i2), .val (.int i3), .val (.int (Int32.ofNat f0)), .val (.int (Int32.ofNat f1)), .val (.int (Int32.ofNat nf)), .val (.int (Int32.ofNat m0)), .val (.int (Int32.ofNat m1)), .val (.int (Int32.ofNat nm)), .val (.ref a1), .val (.ref a2), .val (.ref pa), .val (.ref q), .val (.ref t), .val (.int (Int32.ofNat (nf + 1 + (ndL M + 0) + 2 + nm))), .val (.int (Int32.ofNat (ndL M + 0))), .val (.int (0 : Int32)), .val (.int (Int32.ofNat (ndL M))), .unset, .unset, .unset, .unset, .unset, .unset, .unset, .unset, .unset] at_292 rfl rfl
    replace G := G.iload 296 at_294 rfl rfl |>.iconst 297 (1 : Int32) at_296 rfl rfl |>.icmpF 300 at_297 (XT.ii_lt_f (ofn_nlt (n := 1) hn1 (by omega))) rfl |>.iload 302 at_300 rfl rfl |>.bipush 304 (19 : Int32) at_302 (by decide) rfl |>.icmpT 309 at_304 (XT.ii_le_t (ofn_nlt (i := 19) hn19 (by decide))) (by decide) (by decide) |>.iload 311 at_309 rfl rfl |>.ifT 318 at_311 (XT.i0_eq_t rfl) (by decide) (by decide)
    replace G := G.lloadN 319 at_318 rfl rfl |>.lneg 320 at_319 rfl
    obtain ⟨nn, enn, G'⟩ := G.nameJ
    replace G := G'; clear G'
    have hy : nn.toInt = -(M : Int) := by rw [enn]; exact l_neg hx
    replace G := G.lstore 322 #[.val (.int i0), .val (.long i1), .second, .val (.int i2), .val (.int i3), .val (.int (Int32.ofNat f0)), .val (.int (Int32.ofNat f1)), .val (.int (Int32.ofNat nf)), .val (.int (Int32.ofNat m0)), .val (.int (Int32.ofNat m1)), .val (.int (Int32.ofNat nm)), .val (.ref a1), .val (.ref a2), .val (.ref pa), .val (.ref q), .val (.ref t), .val (.int (Int32.ofNat (nf + 1 + (ndL M + 0) + 2 + nm))), .val (.int (Int32.ofNat (ndL M + 0))), .val (.int (0 : Int32)), .val (.int (Int32.ofNat (ndL M))), .val (.long nn), .second, .unset, .unset, .unset, .unset, .unset, .unset, .unset] at_320 rfl rfl
    have k500 : ∀ h : Heap, Str Z h t tb (bl (mkL nf f0 f1) ++ bl [58] ++ (([] : List Value) ++ dgs (ndL M) M) ++ bl [58, 32] ++ bl (mkL nm m0 m1)) → Arv Z h pa kpa .long (19 : Int32) pv (.long 0) → Wl Z a0 "com/example/fianza/fianza/InputExceptionAtPinLaw" p l e room_1 s m #[(.int i0), (.long i1), (.int i2), (.int i3)] below meth c code 29 B consts_1 h0 n0 [] [pa, a2, a1] h 28 3511 500 #[.val (.int i0), .val (.long i1), .second, .val (.int i2), .val (.int i3), .val (.int (Int32.ofNat f0)), .val (.int (Int32.ofNat f1)), .val (.int (Int32.ofNat nf)), .val (.int (Int32.ofNat m0)), .val (.int (Int32.ofNat m1)), .val (.int (Int32.ofNat nm)), .val (.ref a1), .val (.ref a2), .val (.ref pa), .val (.ref q), .val (.ref t), .val (.int (Int32.ofNat (nf + 1 + (ndL M + 0) + 2 + nm))), .val (.int (Int32.ofNat (ndL M + 0))), .val (.int (0 : Int32)), .val (.int (Int32.ofNat (ndL M))), .val (.long nn), .second, .val (.int (Int32.ofNat (nf + 1 + (ndL M + 0)))), .unset, .unset, .unset, .unset, .unset, .unset] [] → Fin Z consts_1 p e below B s h0 n0 [] room_1.cells room_1.slots (VV fun w h so => w = .int 1 ∧ so = []) := by
      intro h hT Ap G
      replace G := G.iload 502 at_500 rfl rfl |>.ldcI 504 (hw _ (mm 271 rfl)) at_502 rfl |>.iand 505 at_504 rfl
      obtain ⟨pk, hpk, epk⟩ := m31 i3
      replace G := G.top (y := (.int (Int32.ofNat pk))) (congrArg Value.int epk) |>.iload 507 at_505 rfl rfl |>.irem 508 at_507 (fun z => ofn_ne (n := 0) (by omega) (by omega) (by decide) z) rfl
      obtain ⟨kk, hkk, ekk⟩ : ∃ kk, kk < (ndL M + 0) ∧ pk % (ndL M + 0) = kk := ⟨_, Nat.mod_lt _ (by omega), rfl⟩
      replace G := G.top (y := (.int (Int32.ofNat kk))) (congrArg Value.int ((mkk hpk (by omega) (by omega)).trans (by rw [ekk]))) |>.istore 510 #[.val (.int i0), .val (.long i1), .second, .val (.int i2), .val (.int i3), .val (.int (Int32.ofNat f0)), .val (.int (Int32.ofNat f1)), .val (.int (Int32.ofNat nf)), .val (.int (Int32.ofNat m0)), .val (.int (Int32.ofNat m1)), .val (.int (Int32.ofNat nm)), .val (.ref a1), .val (.ref a2), .val (.ref pa), .val (.ref q), .val (.ref t), .val (.int (Int32.ofNat (nf + 1 + (ndL M + 0) + 2 + nm))), .val (.int (Int32.ofNat (ndL M + 0))), .val (.int (0 : Int32)), .val (.int (Int32.ofNat (ndL M))), .val (.long nn), .second, .val (.int (Int32.ofNat (nf + 1 + (ndL M + 0)))), .val (.int (Int32.ofNat kk)), .unset, .unset, .unset, .unset, .unset] at_508 rfl rfl |>.aload 512 at_510 rfl rfl rfl |>.iload 514 at_512 rfl rfl |>.iconst 515 (1 : Int32) at_514 rfl rfl |>.iadd 516 at_515 rfl |>.top (y := (.int (Int32.ofNat (nf + 1)))) (congrArg Value.int (ofn_add nf 1)) |>.iload 518 at_516 rfl rfl
      replace G := G.iadd 519 at_518 rfl |>.top (y := (.int (Int32.ofNat (nf + 1 + kk)))) (congrArg Value.int (ofn_add _ kk))
      obtain ⟨vc, k_c, soc, G', Kc, Qc⟩ := G.callV 522 (hw _ (mm 249 rfl)) (hw _ (mm 250 rfl)) (nfSel (hw _ (mm 252 rfl))) (hw _ (mm 252 rfl)) (hw _ (mm 251 rfl)) (hw _ (mm 6 rfl)) (hw _ (mm 253 rfl)) hT.1 (by decide) [(.int (Int32.ofNat (nf + 1 + kk)))] [] rfl (c_charAt l Z a0 hw hEW n0 c1 hc1 S1 v2 hv2 S2 t tb (bl (mkL nf f0 f1) ++ bl [58] ++ (([] : List Value) ++ dgs (ndL M) M) ++ bl [58, 32] ++ bl (mkL nm m0 m1)) (nf + 1 + kk) (Int32.ofNat (48 + M / 10 ^ (ndL M - 1 - kk) % 10)) G.old (by rw [hlen]; omega) (by rw [hlen]; omega) ((t2' kk hkk).trans (dgs_at _ _ _ (by omega))) hT) (lenOf pd__I_C rfl) at_519 rfl (nle rfl) (nle rfl) (nle rfl) (nle rfl) all0 all0 all0 rfl
      replace G := G'; clear G'
      obtain ⟨wc, qc, rfl, ec, rfl⟩ := Qc
      replace G := G.val qc
      subst ec
      replace G := G.top (y := (.int (Int32.ofNat (48 + M / 10 ^ (ndL M - 1 - kk) % 10)))) (congrArg Value.int (m255 (by omega))) |>.istore 524 #[.val (.int i0), .val (.long i1), .second, .val (.int i2), .val (.int i3), .val (.int (Int32.ofNat f0)), .val (.int (Int32.ofNat f1)), .val (.int (Int32.ofNat nf)), .val (.int (Int32.ofNat m0)), .val (.int (Int32.ofNat m1)), .val (.int (Int32.ofNat nm)), .val (.ref a1), .val (.ref a2), .val (.ref pa), .val (.ref q), .val (.ref t), .val (.int (Int32.ofNat (nf + 1 + (ndL M + 0) + 2 + nm))), .val (.int (Int32.ofNat (ndL M + 0))), .val (.int (0 : Int32)), .val (.int (Int32.ofNat (ndL M))), .val (.long nn), .second, .val (.int (Int32.ofNat (nf + 1 + (ndL M + 0)))), .val (.int (Int32.ofNat kk)), .val (.int (Int32.ofNat (48 + M / 10 ^ (ndL M - 1 - kk) % 10))), .unset, .unset, .unset, .unset] at_522 rfl rfl |>.iload 526 at_524 rfl rfl |>.ifT 541 at_526 (XT.i0_eq_t rfl) (by decide) (by decide) |>.iload 543 at_541 rfl rfl |>.iconst 544 (1 : Int32) at_543 rfl rfl |>.isub 545 at_544 rfl |>.top (y := (.int (Int32.ofNat ((ndL M + 0) - 1)))) (congrArg Value.int (ofn_sub (b := 1) (by omega) (by omega)))
      replace G := G.iload 547 at_545 rfl rfl |>.isub 548 at_547 rfl |>.top (y := (.int (Int32.ofNat (ndL M - 1 - kk)))) (congrArg Value.int ((ofn_sub (by omega) (by omega)).trans (by congr 1))) |>.istore 550 #[.val (.int i0), .val (.long i1), .second, .val (.int i2), .val (.int i3), .val (.int (Int32.ofNat f0)), .val (.int (Int32.ofNat f1)), .val (.int (Int32.ofNat nf)), .val (.int (Int32.ofNat m0)), .val (.int (Int32.ofNat m1)), .val (.int (Int32.ofNat nm)), .val (.ref a1), .val (.ref a2), .val (.ref pa), .val (.ref q), .val (.ref t), .val (.int (Int32.ofNat (nf + 1 + (ndL M + 0) + 2 + nm))), .val (.int (Int32.ofNat (ndL M + 0))), .val (.int (0 : Int32)), .val (.int (Int32.ofNat (ndL M))), .val (.long nn), .second, .val (.int (Int32.ofNat (nf + 1 + (ndL M + 0)))), .val (.int (Int32.ofNat kk)), .val (.int (Int32.ofNat (48 + M / 10 ^ (ndL M - 1 - kk) % 10))), .unset, .val (.int (Int32.ofNat (ndL M - 1 - kk))), .unset, .unset] at_548 rfl rfl |>.lload 552 at_550 rfl rfl |>.aload 554 at_552 rfl rfl rfl |>.iload 556 at_554 rfl rfl |>.laload 557 (v := (.long (Int64.ofNat (10 ^ (ndL M - 1 - kk))))) Ap ⟨ofn_nn (by omega), ofn_lt (n := 19) (by omega) (by decide)⟩ (by rw [ofn_nat (by omega)]; exact pv_at (by omega)) at_556 rfl
      replace G := G.ldiv 558 at_557 (p10 ⟨(ndL M - 1 - kk), by omega⟩).2.1 rfl
      obtain ⟨qq, eqq, G'⟩ := G.nameJ
      replace G := G'; clear G'
      have hqq : qq.toInt = -((M / 10 ^ (ndL M - 1 - kk) : Nat) : Int) := by rw [eqq]; exact dv (by omega) hy
      replace G := G.ldc2J 561 (hw _ (mm 27 rfl)) at_558 rfl |>.lrem 562 at_561 (by decide) rfl |>.lneg 563 at_562 rfl |>.lstore 565 #[.val (.int i0), .val (.long i1), .second, .val (.int i2), .val (.int i3), .val (.int (Int32.ofNat f0)), .val (.int (Int32.ofNat f1)), .val (.int (Int32.ofNat nf)), .val (.int (Int32.ofNat m0)), .val (.int (Int32.ofNat m1)), .val (.int (Int32.ofNat nm)), .val (.ref a1), .val (.ref a2), .val (.ref pa), .val (.ref q), .val (.ref t), .val (.int (Int32.ofNat (nf + 1 + (ndL M + 0) + 2 + nm))), .val (.int (Int32.ofNat (ndL M + 0))), .val (.int (0 : Int32)), .val (.int (Int32.ofNat (ndL M))), .val (.long nn), .second, .val (.int (Int32.ofNat (nf + 1 + (ndL M + 0)))), .val (.int (Int32.ofNat kk)), .val (.int (Int32.ofNat (48 + M / 10 ^ (ndL M - 1 - kk) % 10))), .unset, .val (.int (Int32.ofNat (ndL M - 1 - kk))), .val (.long (-(qq - (qq / (10 : Int64)) * (10 : Int64)))), .second] at_563 rfl rfl
      have hdg := dgt hqq
      replace G := G.bipush 567 (48 : Int32) at_565 (by decide) rfl |>.lload 569 at_567 rfl rfl |>.l2i 570 at_569 rfl |>.top (y := (.int (Int32.ofNat (M / 10 ^ (ndL M - 1 - kk) % 10)))) (congrArg Value.int hdg) |>.iadd 571 at_570 rfl |>.top (y := (.int (Int32.ofNat (48 + M / 10 ^ (ndL M - 1 - kk) % 10)))) (congrArg Value.int (ofn_add 48 _)) |>.i2c 572 at_571 rfl |>.top (y := (.int (Int32.ofNat (48 + M / 10 ^ (ndL M - 1 - kk) % 10)))) (congrArg Value.int (i2c_n (by omega)))
      have hcw : Int32.ofNat (48 + M / 10 ^ (ndL M - 1 - kk) % 10) = Int32.ofNat (48 + M / 10 ^ (ndL M - 1 - kk) % 10) := rfl
      replace G := G.istore 574 #[.val (.int i0), .val (.long i1), .second, .val (.int i2), .val (.int i3), .val (.int (Int32.ofNat f0)), .val (.int (Int32.ofNat f1)), .val (.int (Int32.ofNat nf)), .val (.int (Int32.ofNat m0)), .val (.int (Int32.ofNat m1)), .val (.int (Int32.ofNat nm)), .val (.ref a1), .val (.ref a2), .val (.ref pa), .val (.ref q), .val (.ref t), .val (.int (Int32.ofNat (nf + 1 + (ndL M + 0) + 2 + nm))), .val (.int (Int32.ofNat (ndL M + 0))), .val (.int (0 : Int32)), .val (.int (Int32.ofNat (ndL M))), .val (.long nn), .second, .val (.int (Int32.ofNat (nf + 1 + (ndL M + 0)))), .val (.int (Int32.ofNat kk)), .val (.int (Int32.ofNat (48 + M / 10 ^ (ndL M - 1 - kk) % 10))), .val (.int (Int32.ofNat (48 + M / 10 ^ (ndL M - 1 - kk) % 10))), .val (.int (Int32.ofNat (ndL M - 1 - kk))), .val (.long (-(qq - (qq / (10 : Int64)) * (10 : Int64)))), .second] at_572 rfl rfl |>.iload 576 at_574 rfl rfl |>.iload 578 at_576 rfl rfl |>.icmpF 581 at_578 (XT.ii_ne_f hcw) rfl |>.iconst 582 (1 : Int32) at_581 rfl rfl |>.goto 586 at_582 (by decide) (by decide)
      exact G.retN hret (Or.inl rfl) hlk at_586 [] all0 ⟨_, rfl, rfl, rfl⟩ (nle rfl) (nle rfl)
    have k478 : ∀ h : Heap, Str Z h t tb (bl (mkL nf f0 f1) ++ bl [58] ++ (([] : List Value) ++ dgs (ndL M) M) ++ bl [58, 32] ++ bl (mkL nm m0 m1)) → Arv Z h pa kpa .long (19 : Int32) pv (.long 0) → Wl Z a0 "com/example/fianza/fianza/InputExceptionAtPinLaw" p l e room_1 s m #[(.int i0), (.long i1), (.int i2), (.int i3)] below meth c code 29 B consts_1 h0 n0 [] [pa, a2, a1] h 28 3511 478 #[.val (.int i0), .val (.long i1), .second, .val (.int i2), .val (.int i3), .val (.int (Int32.ofNat f0)), .val (.int (Int32.ofNat f1)), .val (.int (Int32.ofNat nf)), .val (.int (Int32.ofNat m0)), .val (.int (Int32.ofNat m1)), .val (.int (Int32.ofNat nm)), .val (.ref a1), .val (.ref a2), .val (.ref pa), .val (.ref q), .val (.ref t), .val (.int (Int32.ofNat (nf + 1 + (ndL M + 0) + 2 + nm))), .val (.int (Int32.ofNat (ndL M + 0))), .val (.int (0 : Int32)), .val (.int (Int32.ofNat (ndL M))), .val (.long nn), .second, .val (.int (Int32.ofNat (nf + 1 + (ndL M + 0)))), .unset, .unset, .unset, .unset, .unset, .unset] [] → Fin Z consts_1 p e below B s h0 n0 [] room_1.cells room_1.slots (VV fun w h so => w = .int 1 ∧ so = []) := by
      intro h hT Ap G
      replace G := G.iload 480 at_478 rfl rfl |>.iconst 481 (2 : Int32) at_480 rfl rfl
      rcases Nat.lt_or_ge nm 2 with hq | hq
      · skip
        replace G := G.icmpT 500 at_481 (XT.ii_lt_t (ofn_lt (n := 2) hq (by decide))) (by decide) (by decide)
        exact k500 _ hT Ap G
      · skip
        replace G := G.icmpF 484 at_481 (XT.ii_lt_f (ofn_nlt (n := 2) hq (by omega))) rfl |>.aload 486 at_484 rfl rfl rfl |>.iload 488 at_486 rfl rfl |>.iconst 489 (3 : Int32) at_488 rfl rfl |>.iadd 490 at_489 rfl |>.top (y := (.int (Int32.ofNat (nf + 1 + (ndL M + 0) + 3)))) (congrArg Value.int (ofn_add _ 3))
        obtain ⟨vc, k_c, soc, G', Kc, Qc⟩ := G.callV 493 (hw _ (mm 249 rfl)) (hw _ (mm 250 rfl)) (nfSel (hw _ (mm 252 rfl))) (hw _ (mm 252 rfl)) (hw _ (mm 251 rfl)) (hw _ (mm 6 rfl)) (hw _ (mm 253 rfl)) hT.1 (by decide) [(.int (Int32.ofNat (nf + 1 + (ndL M + 0) + 3)))] [] rfl (c_charAt l Z a0 hw hEW n0 c1 hc1 S1 v2 hv2 S2 t tb (bl (mkL nf f0 f1) ++ bl [58] ++ (([] : List Value) ++ dgs (ndL M) M) ++ bl [58, 32] ++ bl (mkL nm m0 m1)) (nf + 1 + (ndL M + 0) + 3) (Int32.ofNat m1).toInt8.toInt32 G.old (by rw [hlen]; omega) (by rw [hlen]; omega) ((t5 1 (by omega)).trans (by obtain rfl : nm = 2 := (by omega); rfl)) hT) (lenOf pd__I_C rfl) at_490 rfl (nle rfl) (nle rfl) (nle rfl) (nle rfl) all0 all0 all0 rfl
        replace G := G'; clear G'
        obtain ⟨wc, qc, rfl, ec, rfl⟩ := Qc
        replace G := G.val qc
        subst ec
        replace G := G.top (y := (.int (Int32.ofNat m1))) (congrArg Value.int (bm hm1)) |>.iload 495 at_493 rfl rfl |>.icmpT 500 at_495 (XT.ii_eq_t rfl) (by decide) (by decide)
        exact k500 _ hT Ap G
    have k456 : ∀ h : Heap, Str Z h t tb (bl (mkL nf f0 f1) ++ bl [58] ++ (([] : List Value) ++ dgs (ndL M) M) ++ bl [58, 32] ++ bl (mkL nm m0 m1)) → Arv Z h pa kpa .long (19 : Int32) pv (.long 0) → Wl Z a0 "com/example/fianza/fianza/InputExceptionAtPinLaw" p l e room_1 s m #[(.int i0), (.long i1), (.int i2), (.int i3)] below meth c code 29 B consts_1 h0 n0 [] [pa, a2, a1] h 28 3511 456 #[.val (.int i0), .val (.long i1), .second, .val (.int i2), .val (.int i3), .val (.int (Int32.ofNat f0)), .val (.int (Int32.ofNat f1)), .val (.int (Int32.ofNat nf)), .val (.int (Int32.ofNat m0)), .val (.int (Int32.ofNat m1)), .val (.int (Int32.ofNat nm)), .val (.ref a1), .val (.ref a2), .val (.ref pa), .val (.ref q), .val (.ref t), .val (.int (Int32.ofNat (nf + 1 + (ndL M + 0) + 2 + nm))), .val (.int (Int32.ofNat (ndL M + 0))), .val (.int (0 : Int32)), .val (.int (Int32.ofNat (ndL M))), .val (.long nn), .second, .val (.int (Int32.ofNat (nf + 1 + (ndL M + 0)))), .unset, .unset, .unset, .unset, .unset, .unset] [] → Fin Z consts_1 p e below B s h0 n0 [] room_1.cells room_1.slots (VV fun w h so => w = .int 1 ∧ so = []) := by
      intro h hT Ap G
      replace G := G.iload 458 at_456 rfl rfl |>.iconst 459 (1 : Int32) at_458 rfl rfl
      rcases Nat.lt_or_ge nm 1 with hq | hq
      · skip
        replace G := G.icmpT 478 at_459 (XT.ii_lt_t (ofn_lt (n := 1) hq (by decide))) (by decide) (by decide)
        exact k478 _ hT Ap G
      · skip
        replace G := G.icmpF 462 at_459 (XT.ii_lt_f (ofn_nlt (n := 1) hq (by omega))) rfl |>.aload 464 at_462 rfl rfl rfl |>.iload 466 at_464 rfl rfl |>.iconst 467 (2 : Int32) at_466 rfl rfl |>.iadd 468 at_467 rfl |>.top (y := (.int (Int32.ofNat (nf + 1 + (ndL M + 0) + 2)))) (congrArg Value.int (ofn_add _ 2))
        obtain ⟨vc, k_c, soc, G', Kc, Qc⟩ := G.callV 471 (hw _ (mm 249 rfl)) (hw _ (mm 250 rfl)) (nfSel (hw _ (mm 252 rfl))) (hw _ (mm 252 rfl)) (hw _ (mm 251 rfl)) (hw _ (mm 6 rfl)) (hw _ (mm 253 rfl)) hT.1 (by decide) [(.int (Int32.ofNat (nf + 1 + (ndL M + 0) + 2)))] [] rfl (c_charAt l Z a0 hw hEW n0 c1 hc1 S1 v2 hv2 S2 t tb (bl (mkL nf f0 f1) ++ bl [58] ++ (([] : List Value) ++ dgs (ndL M) M) ++ bl [58, 32] ++ bl (mkL nm m0 m1)) (nf + 1 + (ndL M + 0) + 2) (Int32.ofNat m0).toInt8.toInt32 G.old (by rw [hlen]; omega) (by rw [hlen]; omega) ((t5 0 (by omega)).trans (by rcases (show nm = 1 ∨ nm = 2 by omega) with rfl | rfl <;> rfl)) hT) (lenOf pd__I_C rfl) at_468 rfl (nle rfl) (nle rfl) (nle rfl) (nle rfl) all0 all0 all0 rfl
        replace G := G'; clear G'
        obtain ⟨wc, qc, rfl, ec, rfl⟩ := Qc
        replace G := G.val qc
        subst ec
        replace G := G.top (y := (.int (Int32.ofNat m0))) (congrArg Value.int (bm hm0)) |>.iload 473 at_471 rfl rfl |>.icmpT 478 at_473 (XT.ii_eq_t rfl) (by decide) (by decide)
        exact k478 _ hT Ap G
    have k405 : ∀ h : Heap, Str Z h t tb (bl (mkL nf f0 f1) ++ bl [58] ++ (([] : List Value) ++ dgs (ndL M) M) ++ bl [58, 32] ++ bl (mkL nm m0 m1)) → Arv Z h pa kpa .long (19 : Int32) pv (.long 0) → Wl Z a0 "com/example/fianza/fianza/InputExceptionAtPinLaw" p l e room_1 s m #[(.int i0), (.long i1), (.int i2), (.int i3)] below meth c code 29 B consts_1 h0 n0 [] [pa, a2, a1] h 28 3511 405 #[.val (.int i0), .val (.long i1), .second, .val (.int i2), .val (.int i3), .val (.int (Int32.ofNat f0)), .val (.int (Int32.ofNat f1)), .val (.int (Int32.ofNat nf)), .val (.int (Int32.ofNat m0)), .val (.int (Int32.ofNat m1)), .val (.int (Int32.ofNat nm)), .val (.ref a1), .val (.ref a2), .val (.ref pa), .val (.ref q), .val (.ref t), .val (.int (Int32.ofNat (nf + 1 + (ndL M + 0) + 2 + nm))), .val (.int (Int32.ofNat (ndL M + 0))), .val (.int (0 : Int32)), .val (.int (Int32.ofNat (ndL M))), .val (.long nn), .second, .unset, .unset, .unset, .unset, .unset, .unset, .unset] [] → Fin Z consts_1 p e below B s h0 n0 [] room_1.cells room_1.slots (VV fun w h so => w = .int 1 ∧ so = []) := by
      intro h hT Ap G
      replace G := G.aload 407 at_405 rfl rfl rfl |>.iload 409 at_407 rfl rfl
      obtain ⟨vc, k_c, soc, G', Kc, Qc⟩ := G.callV 412 (hw _ (mm 249 rfl)) (hw _ (mm 250 rfl)) (nfSel (hw _ (mm 252 rfl))) (hw _ (mm 252 rfl)) (hw _ (mm 251 rfl)) (hw _ (mm 6 rfl)) (hw _ (mm 253 rfl)) hT.1 (by decide) [(.int (Int32.ofNat nf))] [] rfl (c_charAt l Z a0 hw hEW n0 c1 hc1 S1 v2 hv2 S2 t tb (bl (mkL nf f0 f1) ++ bl [58] ++ (([] : List Value) ++ dgs (ndL M) M) ++ bl [58, 32] ++ bl (mkL nm m0 m1)) nf (58 : Int32) G.old (by rw [hlen]; omega) (by rw [hlen]; omega) t1' hT) (lenOf pd__I_C rfl) at_409 rfl (nle rfl) (nle rfl) (nle rfl) (nle rfl) all0 all0 all0 rfl
      replace G := G'; clear G'
      obtain ⟨wc, qc, rfl, ec, rfl⟩ := Qc
      replace G := G.val qc
      subst ec
      replace G := G.top (y := (.int (58 : Int32))) (congrArg Value.int (by decide)) |>.bipush 414 (58 : Int32) at_412 (by decide) rfl |>.icmpT 419 at_414 (XT.ii_eq_t rfl) (by decide) (by decide) |>.iload 421 at_419 rfl rfl |>.iconst 422 (1 : Int32) at_421 rfl rfl |>.iadd 423 at_422 rfl |>.top (y := (.int (Int32.ofNat (nf + 1)))) (congrArg Value.int (ofn_add nf 1)) |>.iload 425 at_423 rfl rfl
      replace G := G.iadd 426 at_425 rfl |>.top (y := (.int (Int32.ofNat (nf + 1 + (ndL M + 0))))) (congrArg Value.int (ofn_add _ _)) |>.istore 428 #[.val (.int i0), .val (.long i1), .second, .val (.int i2), .val (.int i3), .val (.int (Int32.ofNat f0)), .val (.int (Int32.ofNat f1)), .val (.int (Int32.ofNat nf)), .val (.int (Int32.ofNat m0)), .val (.int (Int32.ofNat m1)), .val (.int (Int32.ofNat nm)), .val (.ref a1), .val (.ref a2), .val (.ref pa), .val (.ref q), .val (.ref t), .val (.int (Int32.ofNat (nf + 1 + (ndL M + 0) + 2 + nm))), .val (.int (Int32.ofNat (ndL M + 0))), .val (.int (0 : Int32)), .val (.int (Int32.ofNat (ndL M))), .val (.long nn), .second, .val (.int (Int32.ofNat (nf + 1 + (ndL M + 0)))), .unset, .unset, .unset, .unset, .unset, .unset] at_426 rfl rfl |>.aload 430 at_428 rfl rfl rfl |>.iload 432 at_430 rfl rfl
      obtain ⟨vd, k_c, sod, G', Kd, Qd⟩ := G.callV 435 (hw _ (mm 249 rfl)) (hw _ (mm 250 rfl)) (nfSel (hw _ (mm 252 rfl))) (hw _ (mm 252 rfl)) (hw _ (mm 251 rfl)) (hw _ (mm 6 rfl)) (hw _ (mm 253 rfl)) hT.1 (by decide) [(.int (Int32.ofNat (nf + 1 + (ndL M + 0))))] [] rfl (c_charAt l Z a0 hw hEW n0 c1 hc1 S1 v2 hv2 S2 t tb (bl (mkL nf f0 f1) ++ bl [58] ++ (([] : List Value) ++ dgs (ndL M) M) ++ bl [58, 32] ++ bl (mkL nm m0 m1)) (nf + 1 + (ndL M + 0)) (58 : Int32) G.old (by rw [hlen]; omega) (by rw [hlen]; omega) t3 hT) (lenOf pd__I_C rfl) at_432 rfl (nle rfl) (nle rfl) (nle rfl) (nle rfl) all0 all0 all0 rfl
      replace G := G'; clear G'
      obtain ⟨wd, qd, rfl, ed, rfl⟩ := Qd
      replace G := G.val qd
      subst ed
      replace G := G.top (y := (.int (58 : Int32))) (congrArg Value.int (by decide)) |>.bipush 437 (58 : Int32) at_435 (by decide) rfl |>.icmpF 440 at_437 (XT.ii_ne_f rfl) rfl |>.aload 442 at_440 rfl rfl rfl |>.iload 444 at_442 rfl rfl |>.iconst 445 (1 : Int32) at_444 rfl rfl |>.iadd 446 at_445 rfl |>.top (y := (.int (Int32.ofNat (nf + 1 + (ndL M + 0) + 1)))) (congrArg Value.int (ofn_add _ 1))
      obtain ⟨ve', k_c, soe', G', Ke', Qe'⟩ := G.callV 449 (hw _ (mm 249 rfl)) (hw _ (mm 250 rfl)) (nfSel (hw _ (mm 252 rfl))) (hw _ (mm 252 rfl)) (hw _ (mm 251 rfl)) (hw _ (mm 6 rfl)) (hw _ (mm 253 rfl)) hT.1 (by decide) [(.int (Int32.ofNat (nf + 1 + (ndL M + 0) + 1)))] [] rfl (c_charAt l Z a0 hw hEW n0 c1 hc1 S1 v2 hv2 S2 t tb (bl (mkL nf f0 f1) ++ bl [58] ++ (([] : List Value) ++ dgs (ndL M) M) ++ bl [58, 32] ++ bl (mkL nm m0 m1)) (nf + 1 + (ndL M + 0) + 1) (32 : Int32) G.old (by rw [hlen]; omega) (by rw [hlen]; omega) t4 hT) (lenOf pd__I_C rfl) at_446 rfl (nle rfl) (nle rfl) (nle rfl) (nle rfl) all0 all0 all0 rfl
      replace G := G'; clear G'
      obtain ⟨we', qe', rfl, ee', rfl⟩ := Qe'
      replace G := G.val qe'
      subst ee'
      replace G := G.top (y := (.int (32 : Int32))) (congrArg Value.int (by decide)) |>.bipush 451 (32 : Int32) at_449 (by decide) rfl |>.icmpT 456 at_451 (XT.ii_eq_t rfl) (by decide) (by decide)
      exact k456 _ hT Ap G
    have k386 : ∀ h : Heap, Str Z h t tb (bl (mkL nf f0 f1) ++ bl [58] ++ (([] : List Value) ++ dgs (ndL M) M) ++ bl [58, 32] ++ bl (mkL nm m0 m1)) → Arv Z h pa kpa .long (19 : Int32) pv (.long 0) → Wl Z a0 "com/example/fianza/fianza/InputExceptionAtPinLaw" p l e room_1 s m #[(.int i0), (.long i1), (.int i2), (.int i3)] below meth c code 29 B consts_1 h0 n0 [] [pa, a2, a1] h 28 3511 386 #[.val (.int i0), .val (.long i1), .second, .val (.int i2), .val (.int i3), .val (.int (Int32.ofNat f0)), .val (.int (Int32.ofNat f1)), .val (.int (Int32.ofNat nf)), .val (.int (Int32.ofNat m0)), .val (.int (Int32.ofNat m1)), .val (.int (Int32.ofNat nm)), .val (.ref a1), .val (.ref a2), .val (.ref pa), .val (.ref q), .val (.ref t), .val (.int (Int32.ofNat (nf + 1 + (ndL M + 0) + 2 + nm))), .val (.int (Int32.ofNat (ndL M + 0))), .val (.int (0 : Int32)), .val (.int (Int32.ofNat (ndL M))), .val (.long nn), .second, .unset, .unset, .unset, .unset, .unset, .unset, .unset] [] → Fin Z consts_1 p e below B s h0 n0 [] room_1.cells room_1.slots (VV fun w h so => w = .int 1 ∧ so = []) := by
      intro h hT Ap G
      replace G := G.iload 388 at_386 rfl rfl |>.iconst 389 (2 : Int32) at_388 rfl rfl
      rcases Nat.lt_or_ge nf 2 with hq | hq
      · skip
        replace G := G.icmpT 405 at_389 (XT.ii_lt_t (ofn_lt (n := 2) hq (by decide))) (by decide) (by decide)
        exact k405 _ hT Ap G
      · skip
        replace G := G.icmpF 392 at_389 (XT.ii_lt_f (ofn_nlt (n := 2) hq (by omega))) rfl |>.aload 394 at_392 rfl rfl rfl |>.iconst 395 (1 : Int32) at_394 rfl rfl |>.top (y := (.int (Int32.ofNat 1))) (rfl)
        obtain ⟨vc, k_c, soc, G', Kc, Qc⟩ := G.callV 398 (hw _ (mm 249 rfl)) (hw _ (mm 250 rfl)) (nfSel (hw _ (mm 252 rfl))) (hw _ (mm 252 rfl)) (hw _ (mm 251 rfl)) (hw _ (mm 6 rfl)) (hw _ (mm 253 rfl)) hT.1 (by decide) [(.int (Int32.ofNat 1))] [] rfl (c_charAt l Z a0 hw hEW n0 c1 hc1 S1 v2 hv2 S2 t tb (bl (mkL nf f0 f1) ++ bl [58] ++ (([] : List Value) ++ dgs (ndL M) M) ++ bl [58, 32] ++ bl (mkL nm m0 m1)) 1 (Int32.ofNat f1).toInt8.toInt32 G.old (by rw [hlen]; omega) (by rw [hlen]; omega) ((t0 1 (by omega)).trans (by obtain rfl : nf = 2 := (by omega); rfl)) hT) (lenOf pd__I_C rfl) at_395 rfl (nle rfl) (nle rfl) (nle rfl) (nle rfl) all0 all0 all0 rfl
        replace G := G'; clear G'
        obtain ⟨wc, qc, rfl, ec, rfl⟩ := Qc
        replace G := G.val qc
        subst ec
        replace G := G.top (y := (.int (Int32.ofNat f1))) (congrArg Value.int (bm hf1)) |>.iload 400 at_398 rfl rfl |>.icmpT 405 at_400 (XT.ii_eq_t rfl) (by decide) (by decide)
        exact k405 _ hT Ap G
    have k367 : ∀ h : Heap, Str Z h t tb (bl (mkL nf f0 f1) ++ bl [58] ++ (([] : List Value) ++ dgs (ndL M) M) ++ bl [58, 32] ++ bl (mkL nm m0 m1)) → Arv Z h pa kpa .long (19 : Int32) pv (.long 0) → Wl Z a0 "com/example/fianza/fianza/InputExceptionAtPinLaw" p l e room_1 s m #[(.int i0), (.long i1), (.int i2), (.int i3)] below meth c code 29 B consts_1 h0 n0 [] [pa, a2, a1] h 28 3511 367 #[.val (.int i0), .val (.long i1), .second, .val (.int i2), .val (.int i3), .val (.int (Int32.ofNat f0)), .val (.int (Int32.ofNat f1)), .val (.int (Int32.ofNat nf)), .val (.int (Int32.ofNat m0)), .val (.int (Int32.ofNat m1)), .val (.int (Int32.ofNat nm)), .val (.ref a1), .val (.ref a2), .val (.ref pa), .val (.ref q), .val (.ref t), .val (.int (Int32.ofNat (nf + 1 + (ndL M + 0) + 2 + nm))), .val (.int (Int32.ofNat (ndL M + 0))), .val (.int (0 : Int32)), .val (.int (Int32.ofNat (ndL M))), .val (.long nn), .second, .unset, .unset, .unset, .unset, .unset, .unset, .unset] [] → Fin Z consts_1 p e below B s h0 n0 [] room_1.cells room_1.slots (VV fun w h so => w = .int 1 ∧ so = []) := by
      intro h hT Ap G
      replace G := G.iload 369 at_367 rfl rfl |>.iconst 370 (1 : Int32) at_369 rfl rfl
      rcases Nat.lt_or_ge nf 1 with hq | hq
      · skip
        replace G := G.icmpT 386 at_370 (XT.ii_lt_t (ofn_lt (n := 1) hq (by decide))) (by decide) (by decide)
        exact k386 _ hT Ap G
      · skip
        replace G := G.icmpF 373 at_370 (XT.ii_lt_f (ofn_nlt (n := 1) hq (by omega))) rfl |>.aload 375 at_373 rfl rfl rfl |>.iconst 376 (0 : Int32) at_375 rfl rfl |>.top (y := (.int (Int32.ofNat 0))) (rfl)
        obtain ⟨vc, k_c, soc, G', Kc, Qc⟩ := G.callV 379 (hw _ (mm 249 rfl)) (hw _ (mm 250 rfl)) (nfSel (hw _ (mm 252 rfl))) (hw _ (mm 252 rfl)) (hw _ (mm 251 rfl)) (hw _ (mm 6 rfl)) (hw _ (mm 253 rfl)) hT.1 (by decide) [(.int (Int32.ofNat 0))] [] rfl (c_charAt l Z a0 hw hEW n0 c1 hc1 S1 v2 hv2 S2 t tb (bl (mkL nf f0 f1) ++ bl [58] ++ (([] : List Value) ++ dgs (ndL M) M) ++ bl [58, 32] ++ bl (mkL nm m0 m1)) 0 (Int32.ofNat f0).toInt8.toInt32 G.old (by rw [hlen]; omega) (by rw [hlen]; omega) ((t0 0 (by omega)).trans (by rcases (show nf = 1 ∨ nf = 2 by omega) with rfl | rfl <;> rfl)) hT) (lenOf pd__I_C rfl) at_376 rfl (nle rfl) (nle rfl) (nle rfl) (nle rfl) all0 all0 all0 rfl
        replace G := G'; clear G'
        obtain ⟨wc, qc, rfl, ec, rfl⟩ := Qc
        replace G := G.val qc
        subst ec
        replace G := G.top (y := (.int (Int32.ofNat f0))) (congrArg Value.int (bm hf0)) |>.iload 381 at_379 rfl rfl |>.icmpT 386 at_381 (XT.ii_eq_t rfl) (by decide) (by decide)
        exact k386 _ hT Ap G
    have k345 : ∀ h : Heap, Str Z h t tb (bl (mkL nf f0 f1) ++ bl [58] ++ (([] : List Value) ++ dgs (ndL M) M) ++ bl [58, 32] ++ bl (mkL nm m0 m1)) → Arv Z h pa kpa .long (19 : Int32) pv (.long 0) → Wl Z a0 "com/example/fianza/fianza/InputExceptionAtPinLaw" p l e room_1 s m #[(.int i0), (.long i1), (.int i2), (.int i3)] below meth c code 29 B consts_1 h0 n0 [] [pa, a2, a1] h 28 3511 345 #[.val (.int i0), .val (.long i1), .second, .val (.int i2), .val (.int i3), .val (.int (Int32.ofNat f0)), .val (.int (Int32.ofNat f1)), .val (.int (Int32.ofNat nf)), .val (.int (Int32.ofNat m0)), .val (.int (Int32.ofNat m1)), .val (.int (Int32.ofNat nm)), .val (.ref a1), .val (.ref a2), .val (.ref pa), .val (.ref q), .val (.ref t), .val (.int (Int32.ofNat (nf + 1 + (ndL M + 0) + 2 + nm))), .val (.int (Int32.ofNat (ndL M + 0))), .val (.int (0 : Int32)), .val (.int (Int32.ofNat (ndL M))), .val (.long nn), .second, .unset, .unset, .unset, .unset, .unset, .unset, .unset] [] → Fin Z consts_1 p e below B s h0 n0 [] room_1.cells room_1.slots (VV fun w h so => w = .int 1 ∧ so = []) := by
      intro h hT Ap G
      replace G := G.iload 347 at_345 rfl rfl |>.bipush 349 (19 : Int32) at_347 (by decide) rfl
      rcases Nat.lt_or_ge (ndL M) 19 with hq | hq
      · skip
        replace G := G.icmpF 352 at_349 (XT.ii_ge_f (ofn_lt (n := 19) hq (by decide))) rfl |>.lload 354 at_352 rfl rfl |>.aload 356 at_354 rfl rfl rfl |>.iload 358 at_356 rfl rfl |>.laload 359 (v := (.long (Int64.ofNat (10 ^ (ndL M))))) Ap ⟨ofn_nn (by omega), ofn_lt (n := 19) (by omega) (by decide)⟩ (by rw [ofn_nat (by omega)]; exact pv_at (by omega)) at_358 rfl |>.ldiv 360 at_359 (p10 ⟨(ndL M), by omega⟩).2.1 rfl
        obtain ⟨qq, eqq, G'⟩ := G.nameJ
        replace G := G'; clear G'
        have hqq : qq.toInt = -((M / 10 ^ (ndL M) : Nat) : Int) := by rw [eqq]; exact dv (by omega) hy
        replace G := G.lconst0 361 at_360 rfl |>.lcmp 362 at_361 rfl |>.ifT 367 at_362 (XT.ll_eq_t (q_eq hqq (Nat.div_eq_of_lt (ndL_hi _ rfl)))) (by decide) (by decide)
        exact k367 _ hT Ap G
      · skip
        replace G := G.icmpT 367 at_349 (XT.ii_ge_t (ofn_nlt (n := 19) hq (by omega))) (by decide) (by decide)
        exact k367 _ hT Ap G
    replace G := G.iload 324 at_322 rfl rfl |>.iconst 325 (1 : Int32) at_324 rfl rfl
    rcases Nat.lt_or_ge 1 (ndL M) with hq | hq
    · skip
      replace G := G.icmpF 328 at_325 (XT.ii_le_f (ofn_lt (i := 1) hq (by omega))) rfl |>.lload 330 at_328 rfl rfl |>.aload 332 at_330 rfl rfl rfl |>.iload 334 at_332 rfl rfl |>.iconst 335 (1 : Int32) at_334 rfl rfl |>.isub 336 at_335 rfl |>.top (y := (.int (Int32.ofNat (ndL M - 1)))) (congrArg Value.int (ofn_sub (b := 1) (by omega) (by omega))) |>.laload 337 (v := (.long (Int64.ofNat (10 ^ (ndL M - 1))))) Ap ⟨ofn_nn (by omega), ofn_lt (n := 19) (by omega) (by decide)⟩ (by rw [ofn_nat (by omega)]; exact pv_at (by omega)) at_336 rfl
      replace G := G.ldiv 338 at_337 (p10 ⟨(ndL M - 1), by omega⟩).2.1 rfl
      obtain ⟨qq, eqq, G'⟩ := G.nameJ
      replace G := G'; clear G'
      have hqq : qq.toInt = -((M / 10 ^ (ndL M - 1) : Nat) : Int) := by rw [eqq]; exact dv (by omega) hy
      replace G := G.lconst0 339 at_338 rfl |>.lcmp 340 at_339 rfl
      have hp := ndL_lo (ndL M - 1) (M := M) (by omega) (by omega)
      replace G := G.ifT 345 at_340 (XT.ll_ne_t (q_ne hqq (Nat.ne_of_gt (Nat.div_pos hp (Nat.pow_pos (by decide)))))) (by decide) (by decide)
      exact k345 _ hT Ap G
    · skip
      replace G := G.icmpT 345 at_325 (XT.ii_le_t (ofn_nlt (i := 1) hq (by decide))) (by decide) (by decide)
      exact k345 _ hT Ap G
  · skip
    obtain ⟨h0', hx⟩ := hx
    obtain ⟨vx, j1, sox, G', Kx, Qx⟩ := G.callSK 223 (hw _ (mm 45 rfl)) (hw _ (mm 46 rfl)) (hw _ (mm 47 rfl)) (hw _ (mm 48 rfl)) (by decide) [(.ref a1), (.long i1), (.ref a2)] [] rfl hTK hBl (c_at1 l Z a0 hw hEW n0 c1 hc1 S1 v2 hv2 S2 t1 t2 kt1 kt2 SD1 SD2 AD1 AD2 hTr u' SU vs' hvs SS a1 b1 a2 b2 (mkL nf f0 f1) (mkL nm m0 m1) i1 M G.old (by omega) (by omega) hM h0' hx hF hN) (lenOf pd__Ljava_lang_String_JLjava_lang_String__Lcom_example_fianza_fianza_InputException_ rfl) at_220 rfl (nle rfl) (nle rfl) (nle rfl) (nle rfl) all0 all0 all0 rfl
    replace G := G'; clear G'
    obtain ⟨wx, qx, q, t, tb, rfl, Xq, Fm, hT, rfl⟩ := Qx
    replace G := G.val qx
    replace Ap := Ap.keep Kx nin0
    replace G := G.astore 225 #[.val (.int i0), .val (.long i1), .second, .val (.int i2), .val (.int i3), .val (.int (Int32.ofNat f0)), .val (.int (Int32.ofNat f1)), .val (.int (Int32.ofNat nf)), .val (.int (Int32.ofNat m0)), .val (.int (Int32.ofNat m1)), .val (.int (Int32.ofNat nm)), .val (.ref a1), .val (.ref a2), .val (.ref pa), .val (.ref q), .unset, .unset, .unset, .unset, .unset, .unset, .unset, .unset, .unset, .unset, .unset, .unset, .unset, .unset] at_223 rfl rfl rfl |>.aload 227 at_225 rfl rfl rfl |>.ifnonnullT 232 at_227 (by decide) (by decide) |>.aload 234 at_232 rfl rfl rfl
    obtain ⟨vy, j_4, soy, G', Ky, Qy⟩ := G.callU 237 (owner := "java/lang/Throwable") (hw _ (mm 242 rfl)) (hw _ (mm 243 rfl)) (hw _ (mm 244 rfl)) (hw _ (mm 246 rfl)) (hw _ (mm 245 rfl)) (hw _ (mm 203 rfl)) (hw _ (mm 247 rfl)) Xq (by decide) [] [] rfl (c_gm l Z a0 hw hEW n0 c1 hc1 S1 v2 hv2 S2 t1 t2 kt1 kt2 SD1 SD2 AD1 AD2 hTr u' SU vs' hvs SS q t G.old Fm) (lenOf pd___Ljava_lang_String_ rfl) at_234 rfl (nle rfl) (nle rfl) (nle rfl) (nle rfl) all0 all0 all0 rfl
    replace G := G'; clear G'
    obtain ⟨wy, qy, rfl, ey, rfl⟩ := Qy
    replace G := G.val qy
    subst ey
    replace G := G.astore 239 #[.val (.int i0), .val (.long i1), .second, .val (.int i2), .val (.int i3), .val (.int (Int32.ofNat f0)), .val (.int (Int32.ofNat f1)), .val (.int (Int32.ofNat nf)), .val (.int (Int32.ofNat m0)), .val (.int (Int32.ofNat m1)), .val (.int (Int32.ofNat nm)), .val (.ref a1), .val (.ref a2), .val (.ref pa), .val (.ref q), .val (.ref t), .unset, .unset, .unset, .unset, .unset, .unset, .unset, .unset, .unset, .unset, .unset, .unset, .unset] at_237 rfl rfl rfl |>.aload 241 at_239 rfl rfl rfl |>.ifnonnullT 246 at_241 (by decide) (by decide) |>.aload 248 at_246 rfl rfl rfl
    have hn1 := ndL_pos M; have hn19 : ndL M ≤ 19 := ndL_bd 19 (M := M) (by omega) (by decide); have hlen : (bl (mkL nf f0 f1) ++ bl [58] ++ ([Value.int 45] ++ dgs (ndL M) M) ++ bl [58, 32] ++ bl (mkL nm m0 m1)).length = nf + 1 + (ndL M + 1) + 2 + nm := by simp only [List.length_append, List.length_cons, List.length_nil, bl_len, dgs_len, l1, l2]; omega
    obtain ⟨t0, t1', t2', t3, t4, t5⟩ := vt (A := bl (mkL nf f0 f1)) (N := ([Value.int 45] ++ dgs (ndL M) M)) (B := bl (mkL nm m0 m1)) (a := nf) (n := (ndL M + 1)) (b := nm) (by rw [bl_len, l1]) (by simp only [List.length_append, List.length_cons, List.length_nil, dgs_len]; omega) (by rw [bl_len, l2])
    obtain ⟨vl, j_5, sol, G', Kl, Ql⟩ := G.callV 251 (hw _ (mm 248 rfl)) (hw _ (mm 80 rfl)) (nfSel (hw _ (mm 82 rfl))) (hw _ (mm 82 rfl)) (hw _ (mm 81 rfl)) (hw _ (mm 6 rfl)) (hw _ (mm 83 rfl)) hT.1 (by decide) [] [] rfl (c_length l Z a0 hw hEW n0 c1 hc1 S1 v2 hv2 S2 t tb (bl (mkL nf f0 f1) ++ bl [58] ++ ([Value.int 45] ++ dgs (ndL M) M) ++ bl [58, 32] ++ bl (mkL nm m0 m1)) G.old hT) (lenOf pd___I rfl) at_248 rfl (nle rfl) (nle rfl) (nle rfl) (nle rfl) all0 all0 all0 rfl
    replace G := G'; clear G'
    obtain ⟨wl, ql, rfl, el, rfl⟩ := Ql
    replace G := G.val ql
    subst el
    replace G := G.top (y := (.int (Int32.ofNat (nf + 1 + (ndL M + 1) + 2 + nm)))) (by rw [hlen]) |>.istore 253 #[.val (.int i0), .val (.long i1), .second, .val (.int i2), .val (.int i3), .val (.int (Int32.ofNat f0)), .val (.int (Int32.ofNat f1)), .val (.int (Int32.ofNat nf)), .val (.int (Int32.ofNat m0)), .val (.int (Int32.ofNat m1)), .val (.int (Int32.ofNat nm)), .val (.ref a1), .val (.ref a2), .val (.ref pa), .val (.ref q), .val (.ref t), .val (.int (Int32.ofNat (nf + 1 + (ndL M + 1) + 2 + nm))), .unset, .unset, .unset, .unset, .unset, .unset, .unset, .unset, .unset, .unset, .unset, .unset] at_251 rfl rfl |>.iload 255 at_253 rfl rfl |>.iload 257 at_255 rfl rfl |>.isub 258 at_257 rfl |>.top (y := (.int (Int32.ofNat (1 + (ndL M + 1) + 2 + nm)))) (congrArg Value.int ((ofn_sub (by omega) (by omega)).trans (by congr 1 <;> omega))) |>.iconst 259 (3 : Int32) at_258 rfl rfl |>.isub 260 at_259 rfl
    replace G := G.top (y := (.int (Int32.ofNat ((ndL M + 1) + nm)))) (congrArg Value.int ((ofn_sub (b := 3) (by omega) (by omega)).trans (by congr 1 <;> omega))) |>.iload 262 at_260 rfl rfl |>.isub 263 at_262 rfl |>.top (y := (.int (Int32.ofNat (ndL M + 1)))) (congrArg Value.int ((ofn_sub (by omega) (by omega)).trans (by congr 1 <;> omega))) |>.istore 265 #[.val (.int i0), .val (.long i1), .second, .val (.int i2), .val (.int i3), .val (.int (Int32.ofNat f0)), .val (.int (Int32.ofNat f1)), .val (.int (Int32.ofNat nf)), .val (.int (Int32.ofNat m0)), .val (.int (Int32.ofNat m1)), .val (.int (Int32.ofNat nm)), .val (.ref a1), .val (.ref a2), .val (.ref pa), .val (.ref q), .val (.ref t), .val (.int (Int32.ofNat (nf + 1 + (ndL M + 1) + 2 + nm))), .val (.int (Int32.ofNat (ndL M + 1))), .unset, .unset, .unset, .unset, .unset, .unset, .unset, .unset, .unset, .unset, .unset] at_263 rfl rfl |>.lloadN 266 at_265 rfl rfl |>.lconst0 267 at_266 rfl |>.lcmp 268 at_267 rfl
    replace G := G.ifF 271 at_268 (XT.ll_ge_f (by rw [Int64.lt_iff_toInt_lt, hx]; show -(M : Int) < 0; omega)) rfl |>.iconst 272 (1 : Int32) at_271 rfl rfl |>.goto 276 at_272 (by decide) (by decide) |>.istore 278 #[.val (.int i0), .val (.long i1), .second, .val (.int i2), .val (.int i3), .val (.int (Int32.ofNat f0)), .val (.int (Int32.ofNat f1)), .val (.int (Int32.ofNat nf)), .val (.int (Int32.ofNat m0)), .val (.int (Int32.ofNat m1)), .val (.int (Int32.ofNat nm)), .val (.ref a1), .val (.ref a2), .val (.ref pa), .val (.ref q), .val (.ref t), .val (.int (Int32.ofNat (nf + 1 + (ndL M + 1) + 2 + nm))), .val (.int (Int32.ofNat (ndL M + 1))), .val (.int (1 : Int32)), .unset, .unset, .unset, .unset, .unset, .unset, .unset, .unset, .unset, .unset] at_276 rfl rfl |>.iload 280 at_278 rfl rfl |>.ifF 283 at_280 (XT.i0_eq_f (by decide)) rfl |>.iload 285 at_283 rfl rfl |>.iconst 286 (1 : Int32) at_285 rfl rfl
    replace G := G.isub 287 at_286 rfl |>.top (y := (.int (Int32.ofNat (ndL M)))) (congrArg Value.int ((ofn_sub (b := 1) (by omega) (by omega)).trans (by congr 1 <;> omega))) |>.goto 292 at_287 (by decide) (by decide) |>.istore 294 #[.val (.int i0), .val (.long i1), .second, .val (.int i2), .val (.int i3), .val (.int (Int32.ofNat f0)), .val (.int (Int32.ofNat f1)), .val (.int (Int32.ofNat nf)), .val (.int (Int32.ofNat m0)), .val (.int (Int32.ofNat m1)), .val (.int (Int32.ofNat nm)), .val (.ref a1), .val (.ref a2), .val (.ref pa), .val (.ref q), .val (.ref t), .val (.int (Int32.ofNat (nf + 1 + (ndL M + 1) + 2 + nm))), .val (.int (Int32.ofNat (ndL M + 1))), .val (.int (1 : Int32)), .val (.int (Int32.ofNat (ndL M))), .unset, .unset, .unset, .unset, .unset, .unset, .unset, .unset, .unset] at_292 rfl rfl |>.iload 296 at_294 rfl rfl |>.iconst 297 (1 : Int32) at_296 rfl rfl |>.icmpF 300 at_297 (XT.ii_lt_f (ofn_nlt (n := 1) hn1 (by omega))) rfl |>.iload 302 at_300 rfl rfl
    replace G := G.bipush 304 (19 : Int32) at_302 (by decide) rfl |>.icmpT 309 at_304 (XT.ii_le_t (ofn_nlt (i := 19) hn19 (by decide))) (by decide) (by decide) |>.iload 311 at_309 rfl rfl |>.ifF 314 at_311 (XT.i0_eq_f (by decide)) rfl |>.lloadN 315 at_314 rfl rfl |>.goto 320 at_315 (by decide) (by decide)
    have hy := hx
    replace G := G.lstore 322 #[.val (.int i0), .val (.long i1), .second, .val (.int i2), .val (.int i3), .val (.int (Int32.ofNat f0)), .val (.int (Int32.ofNat f1)), .val (.int (Int32.ofNat nf)), .val (.int (Int32.ofNat m0)), .val (.int (Int32.ofNat m1)), .val (.int (Int32.ofNat nm)), .val (.ref a1), .val (.ref a2), .val (.ref pa), .val (.ref q), .val (.ref t), .val (.int (Int32.ofNat (nf + 1 + (ndL M + 1) + 2 + nm))), .val (.int (Int32.ofNat (ndL M + 1))), .val (.int (1 : Int32)), .val (.int (Int32.ofNat (ndL M))), .val (.long i1), .second, .unset, .unset, .unset, .unset, .unset, .unset, .unset] at_320 rfl rfl
    have k500 : ∀ h : Heap, Str Z h t tb (bl (mkL nf f0 f1) ++ bl [58] ++ ([Value.int 45] ++ dgs (ndL M) M) ++ bl [58, 32] ++ bl (mkL nm m0 m1)) → Arv Z h pa kpa .long (19 : Int32) pv (.long 0) → Wl Z a0 "com/example/fianza/fianza/InputExceptionAtPinLaw" p l e room_1 s m #[(.int i0), (.long i1), (.int i2), (.int i3)] below meth c code 29 B consts_1 h0 n0 [] [pa, a2, a1] h 28 3511 500 #[.val (.int i0), .val (.long i1), .second, .val (.int i2), .val (.int i3), .val (.int (Int32.ofNat f0)), .val (.int (Int32.ofNat f1)), .val (.int (Int32.ofNat nf)), .val (.int (Int32.ofNat m0)), .val (.int (Int32.ofNat m1)), .val (.int (Int32.ofNat nm)), .val (.ref a1), .val (.ref a2), .val (.ref pa), .val (.ref q), .val (.ref t), .val (.int (Int32.ofNat (nf + 1 + (ndL M + 1) + 2 + nm))), .val (.int (Int32.ofNat (ndL M + 1))), .val (.int (1 : Int32)), .val (.int (Int32.ofNat (ndL M))), .val (.long i1), .second, .val (.int (Int32.ofNat (nf + 1 + (ndL M + 1)))), .unset, .unset, .unset, .unset, .unset, .unset] [] → Fin Z consts_1 p e below B s h0 n0 [] room_1.cells room_1.slots (VV fun w h so => w = .int 1 ∧ so = []) := by
      intro h hT Ap G
      replace G := G.iload 502 at_500 rfl rfl |>.ldcI 504 (hw _ (mm 271 rfl)) at_502 rfl |>.iand 505 at_504 rfl
      obtain ⟨pk, hpk, epk⟩ := m31 i3
      replace G := G.top (y := (.int (Int32.ofNat pk))) (congrArg Value.int epk) |>.iload 507 at_505 rfl rfl |>.irem 508 at_507 (fun z => ofn_ne (n := 0) (by omega) (by omega) (by decide) z) rfl
      obtain ⟨kk, hkk, ekk⟩ : ∃ kk, kk < (ndL M + 1) ∧ pk % (ndL M + 1) = kk := ⟨_, Nat.mod_lt _ (by omega), rfl⟩
      replace G := G.top (y := (.int (Int32.ofNat kk))) (congrArg Value.int ((mkk hpk (by omega) (by omega)).trans (by rw [ekk]))) |>.istore 510 #[.val (.int i0), .val (.long i1), .second, .val (.int i2), .val (.int i3), .val (.int (Int32.ofNat f0)), .val (.int (Int32.ofNat f1)), .val (.int (Int32.ofNat nf)), .val (.int (Int32.ofNat m0)), .val (.int (Int32.ofNat m1)), .val (.int (Int32.ofNat nm)), .val (.ref a1), .val (.ref a2), .val (.ref pa), .val (.ref q), .val (.ref t), .val (.int (Int32.ofNat (nf + 1 + (ndL M + 1) + 2 + nm))), .val (.int (Int32.ofNat (ndL M + 1))), .val (.int (1 : Int32)), .val (.int (Int32.ofNat (ndL M))), .val (.long i1), .second, .val (.int (Int32.ofNat (nf + 1 + (ndL M + 1)))), .val (.int (Int32.ofNat kk)), .unset, .unset, .unset, .unset, .unset] at_508 rfl rfl |>.aload 512 at_510 rfl rfl rfl |>.iload 514 at_512 rfl rfl |>.iconst 515 (1 : Int32) at_514 rfl rfl |>.iadd 516 at_515 rfl |>.top (y := (.int (Int32.ofNat (nf + 1)))) (congrArg Value.int (ofn_add nf 1)) |>.iload 518 at_516 rfl rfl
      replace G := G.iadd 519 at_518 rfl |>.top (y := (.int (Int32.ofNat (nf + 1 + kk)))) (congrArg Value.int (ofn_add _ kk))
      rcases Decidable.em (kk = 0) with hk0 | hk0
      · skip
        subst hk0
        obtain ⟨vc, k_c, soc, G', Kc, Qc⟩ := G.callV 522 (hw _ (mm 249 rfl)) (hw _ (mm 250 rfl)) (nfSel (hw _ (mm 252 rfl))) (hw _ (mm 252 rfl)) (hw _ (mm 251 rfl)) (hw _ (mm 6 rfl)) (hw _ (mm 253 rfl)) hT.1 (by decide) [(.int (Int32.ofNat (nf + 1 + 0)))] [] rfl (c_charAt l Z a0 hw hEW n0 c1 hc1 S1 v2 hv2 S2 t tb (bl (mkL nf f0 f1) ++ bl [58] ++ ([Value.int 45] ++ dgs (ndL M) M) ++ bl [58, 32] ++ bl (mkL nm m0 m1)) (nf + 1 + 0) (45 : Int32) G.old (by rw [hlen]; omega) (by rw [hlen]; omega) ((t2' 0 (by omega)).trans rfl) hT) (lenOf pd__I_C rfl) at_519 rfl (nle rfl) (nle rfl) (nle rfl) (nle rfl) all0 all0 all0 rfl
        replace G := G'; clear G'
        obtain ⟨wc, qc, rfl, ec, rfl⟩ := Qc
        replace G := G.val qc
        subst ec
        replace G := G.top (y := (.int (45 : Int32))) (congrArg Value.int (by decide)) |>.istore 524 #[.val (.int i0), .val (.long i1), .second, .val (.int i2), .val (.int i3), .val (.int (Int32.ofNat f0)), .val (.int (Int32.ofNat f1)), .val (.int (Int32.ofNat nf)), .val (.int (Int32.ofNat m0)), .val (.int (Int32.ofNat m1)), .val (.int (Int32.ofNat nm)), .val (.ref a1), .val (.ref a2), .val (.ref pa), .val (.ref q), .val (.ref t), .val (.int (Int32.ofNat (nf + 1 + (ndL M + 1) + 2 + nm))), .val (.int (Int32.ofNat (ndL M + 1))), .val (.int (1 : Int32)), .val (.int (Int32.ofNat (ndL M))), .val (.long i1), .second, .val (.int (Int32.ofNat (nf + 1 + (ndL M + 1)))), .val (.int (Int32.ofNat 0)), .val (.int (45 : Int32)), .unset, .unset, .unset, .unset] at_522 rfl rfl |>.iload 526 at_524 rfl rfl |>.ifF 529 at_526 (XT.i0_eq_f (by decide)) rfl |>.iload 531 at_529 rfl rfl |>.ifF 534 at_531 (XT.i0_ne_f rfl) rfl
        have hcw : (45 : Int32) = (45 : Int32) := rfl
        replace G := G.bipush 536 (45 : Int32) at_534 (by decide) rfl |>.istore 538 #[.val (.int i0), .val (.long i1), .second, .val (.int i2), .val (.int i3), .val (.int (Int32.ofNat f0)), .val (.int (Int32.ofNat f1)), .val (.int (Int32.ofNat nf)), .val (.int (Int32.ofNat m0)), .val (.int (Int32.ofNat m1)), .val (.int (Int32.ofNat nm)), .val (.ref a1), .val (.ref a2), .val (.ref pa), .val (.ref q), .val (.ref t), .val (.int (Int32.ofNat (nf + 1 + (ndL M + 1) + 2 + nm))), .val (.int (Int32.ofNat (ndL M + 1))), .val (.int (1 : Int32)), .val (.int (Int32.ofNat (ndL M))), .val (.long i1), .second, .val (.int (Int32.ofNat (nf + 1 + (ndL M + 1)))), .val (.int (Int32.ofNat 0)), .val (.int (45 : Int32)), .val (.int (45 : Int32)), .unset, .unset, .unset] at_536 rfl rfl |>.goto 574 at_538 (by decide) (by decide) |>.iload 576 at_574 rfl rfl |>.iload 578 at_576 rfl rfl |>.icmpF 581 at_578 (XT.ii_ne_f hcw) rfl |>.iconst 582 (1 : Int32) at_581 rfl rfl |>.goto 586 at_582 (by decide) (by decide)
        exact G.retN hret (Or.inl rfl) hlk at_586 [] all0 ⟨_, rfl, rfl, rfl⟩ (nle rfl) (nle rfl)
      · skip
        obtain ⟨vc, k_c, soc, G', Kc, Qc⟩ := G.callV 522 (hw _ (mm 249 rfl)) (hw _ (mm 250 rfl)) (nfSel (hw _ (mm 252 rfl))) (hw _ (mm 252 rfl)) (hw _ (mm 251 rfl)) (hw _ (mm 6 rfl)) (hw _ (mm 253 rfl)) hT.1 (by decide) [(.int (Int32.ofNat (nf + 1 + kk)))] [] rfl (c_charAt l Z a0 hw hEW n0 c1 hc1 S1 v2 hv2 S2 t tb (bl (mkL nf f0 f1) ++ bl [58] ++ ([Value.int 45] ++ dgs (ndL M) M) ++ bl [58, 32] ++ bl (mkL nm m0 m1)) (nf + 1 + kk) (Int32.ofNat (48 + M / 10 ^ (ndL M - kk) % 10)) G.old (by rw [hlen]; omega) (by rw [hlen]; omega) ((t2' kk hkk).trans ((gR (xs := [Value.int 45]) (j := kk - 1) (by show kk = 1 + (kk - 1); omega)).trans ((dgs_at _ _ _ (by omega)).trans (by rw [show ndL M - 1 - (kk - 1) = ndL M - kk by omega])))) hT) (lenOf pd__I_C rfl) at_519 rfl (nle rfl) (nle rfl) (nle rfl) (nle rfl) all0 all0 all0 rfl
        replace G := G'; clear G'
        obtain ⟨wc, qc, rfl, ec, rfl⟩ := Qc
        replace G := G.val qc
        subst ec
        replace G := G.top (y := (.int (Int32.ofNat (48 + M / 10 ^ (ndL M - kk) % 10)))) (congrArg Value.int (m255 (by omega))) |>.istore 524 #[.val (.int i0), .val (.long i1), .second, .val (.int i2), .val (.int i3), .val (.int (Int32.ofNat f0)), .val (.int (Int32.ofNat f1)), .val (.int (Int32.ofNat nf)), .val (.int (Int32.ofNat m0)), .val (.int (Int32.ofNat m1)), .val (.int (Int32.ofNat nm)), .val (.ref a1), .val (.ref a2), .val (.ref pa), .val (.ref q), .val (.ref t), .val (.int (Int32.ofNat (nf + 1 + (ndL M + 1) + 2 + nm))), .val (.int (Int32.ofNat (ndL M + 1))), .val (.int (1 : Int32)), .val (.int (Int32.ofNat (ndL M))), .val (.long i1), .second, .val (.int (Int32.ofNat (nf + 1 + (ndL M + 1)))), .val (.int (Int32.ofNat kk)), .val (.int (Int32.ofNat (48 + M / 10 ^ (ndL M - kk) % 10))), .unset, .unset, .unset, .unset] at_522 rfl rfl |>.iload 526 at_524 rfl rfl |>.ifF 529 at_526 (XT.i0_eq_f (by decide)) rfl |>.iload 531 at_529 rfl rfl |>.ifT 541 at_531 (XT.i0_ne_t (ofn_ne (n := 0) hk0 (by omega) (by decide))) (by decide) (by decide) |>.iload 543 at_541 rfl rfl |>.iconst 544 (1 : Int32) at_543 rfl rfl
        replace G := G.isub 545 at_544 rfl |>.top (y := (.int (Int32.ofNat ((ndL M + 1) - 1)))) (congrArg Value.int (ofn_sub (b := 1) (by omega) (by omega))) |>.iload 547 at_545 rfl rfl |>.isub 548 at_547 rfl |>.top (y := (.int (Int32.ofNat (ndL M - kk)))) (congrArg Value.int ((ofn_sub (by omega) (by omega)).trans (by congr 1 <;> omega))) |>.istore 550 #[.val (.int i0), .val (.long i1), .second, .val (.int i2), .val (.int i3), .val (.int (Int32.ofNat f0)), .val (.int (Int32.ofNat f1)), .val (.int (Int32.ofNat nf)), .val (.int (Int32.ofNat m0)), .val (.int (Int32.ofNat m1)), .val (.int (Int32.ofNat nm)), .val (.ref a1), .val (.ref a2), .val (.ref pa), .val (.ref q), .val (.ref t), .val (.int (Int32.ofNat (nf + 1 + (ndL M + 1) + 2 + nm))), .val (.int (Int32.ofNat (ndL M + 1))), .val (.int (1 : Int32)), .val (.int (Int32.ofNat (ndL M))), .val (.long i1), .second, .val (.int (Int32.ofNat (nf + 1 + (ndL M + 1)))), .val (.int (Int32.ofNat kk)), .val (.int (Int32.ofNat (48 + M / 10 ^ (ndL M - kk) % 10))), .unset, .val (.int (Int32.ofNat (ndL M - kk))), .unset, .unset] at_548 rfl rfl |>.lload 552 at_550 rfl rfl |>.aload 554 at_552 rfl rfl rfl
        replace G := G.iload 556 at_554 rfl rfl |>.laload 557 (v := (.long (Int64.ofNat (10 ^ (ndL M - kk))))) Ap ⟨ofn_nn (by omega), ofn_lt (n := 19) (by omega) (by decide)⟩ (by rw [ofn_nat (by omega)]; exact pv_at (by omega)) at_556 rfl |>.ldiv 558 at_557 (p10 ⟨(ndL M - kk), by omega⟩).2.1 rfl
        obtain ⟨qq, eqq, G'⟩ := G.nameJ
        replace G := G'; clear G'
        have hqq : qq.toInt = -((M / 10 ^ (ndL M - kk) : Nat) : Int) := by rw [eqq]; exact dv (by omega) hy
        replace G := G.ldc2J 561 (hw _ (mm 27 rfl)) at_558 rfl |>.lrem 562 at_561 (by decide) rfl |>.lneg 563 at_562 rfl |>.lstore 565 #[.val (.int i0), .val (.long i1), .second, .val (.int i2), .val (.int i3), .val (.int (Int32.ofNat f0)), .val (.int (Int32.ofNat f1)), .val (.int (Int32.ofNat nf)), .val (.int (Int32.ofNat m0)), .val (.int (Int32.ofNat m1)), .val (.int (Int32.ofNat nm)), .val (.ref a1), .val (.ref a2), .val (.ref pa), .val (.ref q), .val (.ref t), .val (.int (Int32.ofNat (nf + 1 + (ndL M + 1) + 2 + nm))), .val (.int (Int32.ofNat (ndL M + 1))), .val (.int (1 : Int32)), .val (.int (Int32.ofNat (ndL M))), .val (.long i1), .second, .val (.int (Int32.ofNat (nf + 1 + (ndL M + 1)))), .val (.int (Int32.ofNat kk)), .val (.int (Int32.ofNat (48 + M / 10 ^ (ndL M - kk) % 10))), .unset, .val (.int (Int32.ofNat (ndL M - kk))), .val (.long (-(qq - (qq / (10 : Int64)) * (10 : Int64)))), .second] at_563 rfl rfl
        have hdg := dgt hqq
        replace G := G.bipush 567 (48 : Int32) at_565 (by decide) rfl |>.lload 569 at_567 rfl rfl |>.l2i 570 at_569 rfl |>.top (y := (.int (Int32.ofNat (M / 10 ^ (ndL M - kk) % 10)))) (congrArg Value.int hdg) |>.iadd 571 at_570 rfl |>.top (y := (.int (Int32.ofNat (48 + M / 10 ^ (ndL M - kk) % 10)))) (congrArg Value.int (ofn_add 48 _)) |>.i2c 572 at_571 rfl |>.top (y := (.int (Int32.ofNat (48 + M / 10 ^ (ndL M - kk) % 10)))) (congrArg Value.int (i2c_n (by omega)))
        have hcw : Int32.ofNat (48 + M / 10 ^ (ndL M - kk) % 10) = Int32.ofNat (48 + M / 10 ^ (ndL M - kk) % 10) := rfl
        replace G := G.istore 574 #[.val (.int i0), .val (.long i1), .second, .val (.int i2), .val (.int i3), .val (.int (Int32.ofNat f0)), .val (.int (Int32.ofNat f1)), .val (.int (Int32.ofNat nf)), .val (.int (Int32.ofNat m0)), .val (.int (Int32.ofNat m1)), .val (.int (Int32.ofNat nm)), .val (.ref a1), .val (.ref a2), .val (.ref pa), .val (.ref q), .val (.ref t), .val (.int (Int32.ofNat (nf + 1 + (ndL M + 1) + 2 + nm))), .val (.int (Int32.ofNat (ndL M + 1))), .val (.int (1 : Int32)), .val (.int (Int32.ofNat (ndL M))), .val (.long i1), .second, .val (.int (Int32.ofNat (nf + 1 + (ndL M + 1)))), .val (.int (Int32.ofNat kk)), .val (.int (Int32.ofNat (48 + M / 10 ^ (ndL M - kk) % 10))), .val (.int (Int32.ofNat (48 + M / 10 ^ (ndL M - kk) % 10))), .val (.int (Int32.ofNat (ndL M - kk))), .val (.long (-(qq - (qq / (10 : Int64)) * (10 : Int64)))), .second] at_572 rfl rfl |>.iload 576 at_574 rfl rfl |>.iload 578 at_576 rfl rfl |>.icmpF 581 at_578 (XT.ii_ne_f hcw) rfl |>.iconst 582 (1 : Int32) at_581 rfl rfl |>.goto 586 at_582 (by decide) (by decide)
        exact G.retN hret (Or.inl rfl) hlk at_586 [] all0 ⟨_, rfl, rfl, rfl⟩ (nle rfl) (nle rfl)
    have k478 : ∀ h : Heap, Str Z h t tb (bl (mkL nf f0 f1) ++ bl [58] ++ ([Value.int 45] ++ dgs (ndL M) M) ++ bl [58, 32] ++ bl (mkL nm m0 m1)) → Arv Z h pa kpa .long (19 : Int32) pv (.long 0) → Wl Z a0 "com/example/fianza/fianza/InputExceptionAtPinLaw" p l e room_1 s m #[(.int i0), (.long i1), (.int i2), (.int i3)] below meth c code 29 B consts_1 h0 n0 [] [pa, a2, a1] h 28 3511 478 #[.val (.int i0), .val (.long i1), .second, .val (.int i2), .val (.int i3), .val (.int (Int32.ofNat f0)), .val (.int (Int32.ofNat f1)), .val (.int (Int32.ofNat nf)), .val (.int (Int32.ofNat m0)), .val (.int (Int32.ofNat m1)), .val (.int (Int32.ofNat nm)), .val (.ref a1), .val (.ref a2), .val (.ref pa), .val (.ref q), .val (.ref t), .val (.int (Int32.ofNat (nf + 1 + (ndL M + 1) + 2 + nm))), .val (.int (Int32.ofNat (ndL M + 1))), .val (.int (1 : Int32)), .val (.int (Int32.ofNat (ndL M))), .val (.long i1), .second, .val (.int (Int32.ofNat (nf + 1 + (ndL M + 1)))), .unset, .unset, .unset, .unset, .unset, .unset] [] → Fin Z consts_1 p e below B s h0 n0 [] room_1.cells room_1.slots (VV fun w h so => w = .int 1 ∧ so = []) := by
      intro h hT Ap G
      replace G := G.iload 480 at_478 rfl rfl |>.iconst 481 (2 : Int32) at_480 rfl rfl
      rcases Nat.lt_or_ge nm 2 with hq | hq
      · skip
        replace G := G.icmpT 500 at_481 (XT.ii_lt_t (ofn_lt (n := 2) hq (by decide))) (by decide) (by decide)
        exact k500 _ hT Ap G
      · skip
        replace G := G.icmpF 484 at_481 (XT.ii_lt_f (ofn_nlt (n := 2) hq (by omega))) rfl |>.aload 486 at_484 rfl rfl rfl |>.iload 488 at_486 rfl rfl |>.iconst 489 (3 : Int32) at_488 rfl rfl |>.iadd 490 at_489 rfl |>.top (y := (.int (Int32.ofNat (nf + 1 + (ndL M + 1) + 3)))) (congrArg Value.int (ofn_add _ 3))
        obtain ⟨vc, k_c, soc, G', Kc, Qc⟩ := G.callV 493 (hw _ (mm 249 rfl)) (hw _ (mm 250 rfl)) (nfSel (hw _ (mm 252 rfl))) (hw _ (mm 252 rfl)) (hw _ (mm 251 rfl)) (hw _ (mm 6 rfl)) (hw _ (mm 253 rfl)) hT.1 (by decide) [(.int (Int32.ofNat (nf + 1 + (ndL M + 1) + 3)))] [] rfl (c_charAt l Z a0 hw hEW n0 c1 hc1 S1 v2 hv2 S2 t tb (bl (mkL nf f0 f1) ++ bl [58] ++ ([Value.int 45] ++ dgs (ndL M) M) ++ bl [58, 32] ++ bl (mkL nm m0 m1)) (nf + 1 + (ndL M + 1) + 3) (Int32.ofNat m1).toInt8.toInt32 G.old (by rw [hlen]; omega) (by rw [hlen]; omega) ((t5 1 (by omega)).trans (by obtain rfl : nm = 2 := (by omega); rfl)) hT) (lenOf pd__I_C rfl) at_490 rfl (nle rfl) (nle rfl) (nle rfl) (nle rfl) all0 all0 all0 rfl
        replace G := G'; clear G'
        obtain ⟨wc, qc, rfl, ec, rfl⟩ := Qc
        replace G := G.val qc
        subst ec
        replace G := G.top (y := (.int (Int32.ofNat m1))) (congrArg Value.int (bm hm1)) |>.iload 495 at_493 rfl rfl |>.icmpT 500 at_495 (XT.ii_eq_t rfl) (by decide) (by decide)
        exact k500 _ hT Ap G
    have k456 : ∀ h : Heap, Str Z h t tb (bl (mkL nf f0 f1) ++ bl [58] ++ ([Value.int 45] ++ dgs (ndL M) M) ++ bl [58, 32] ++ bl (mkL nm m0 m1)) → Arv Z h pa kpa .long (19 : Int32) pv (.long 0) → Wl Z a0 "com/example/fianza/fianza/InputExceptionAtPinLaw" p l e room_1 s m #[(.int i0), (.long i1), (.int i2), (.int i3)] below meth c code 29 B consts_1 h0 n0 [] [pa, a2, a1] h 28 3511 456 #[.val (.int i0), .val (.long i1), .second, .val (.int i2), .val (.int i3), .val (.int (Int32.ofNat f0)), .val (.int (Int32.ofNat f1)), .val (.int (Int32.ofNat nf)), .val (.int (Int32.ofNat m0)), .val (.int (Int32.ofNat m1)), .val (.int (Int32.ofNat nm)), .val (.ref a1), .val (.ref a2), .val (.ref pa), .val (.ref q), .val (.ref t), .val (.int (Int32.ofNat (nf + 1 + (ndL M + 1) + 2 + nm))), .val (.int (Int32.ofNat (ndL M + 1))), .val (.int (1 : Int32)), .val (.int (Int32.ofNat (ndL M))), .val (.long i1), .second, .val (.int (Int32.ofNat (nf + 1 + (ndL M + 1)))), .unset, .unset, .unset, .unset, .unset, .unset] [] → Fin Z consts_1 p e below B s h0 n0 [] room_1.cells room_1.slots (VV fun w h so => w = .int 1 ∧ so = []) := by
      intro h hT Ap G
      replace G := G.iload 458 at_456 rfl rfl |>.iconst 459 (1 : Int32) at_458 rfl rfl
      rcases Nat.lt_or_ge nm 1 with hq | hq
      · skip
        replace G := G.icmpT 478 at_459 (XT.ii_lt_t (ofn_lt (n := 1) hq (by decide))) (by decide) (by decide)
        exact k478 _ hT Ap G
      · skip
        replace G := G.icmpF 462 at_459 (XT.ii_lt_f (ofn_nlt (n := 1) hq (by omega))) rfl |>.aload 464 at_462 rfl rfl rfl |>.iload 466 at_464 rfl rfl |>.iconst 467 (2 : Int32) at_466 rfl rfl |>.iadd 468 at_467 rfl |>.top (y := (.int (Int32.ofNat (nf + 1 + (ndL M + 1) + 2)))) (congrArg Value.int (ofn_add _ 2))
        obtain ⟨vc, k_c, soc, G', Kc, Qc⟩ := G.callV 471 (hw _ (mm 249 rfl)) (hw _ (mm 250 rfl)) (nfSel (hw _ (mm 252 rfl))) (hw _ (mm 252 rfl)) (hw _ (mm 251 rfl)) (hw _ (mm 6 rfl)) (hw _ (mm 253 rfl)) hT.1 (by decide) [(.int (Int32.ofNat (nf + 1 + (ndL M + 1) + 2)))] [] rfl (c_charAt l Z a0 hw hEW n0 c1 hc1 S1 v2 hv2 S2 t tb (bl (mkL nf f0 f1) ++ bl [58] ++ ([Value.int 45] ++ dgs (ndL M) M) ++ bl [58, 32] ++ bl (mkL nm m0 m1)) (nf + 1 + (ndL M + 1) + 2) (Int32.ofNat m0).toInt8.toInt32 G.old (by rw [hlen]; omega) (by rw [hlen]; omega) ((t5 0 (by omega)).trans (by rcases (show nm = 1 ∨ nm = 2 by omega) with rfl | rfl <;> rfl)) hT) (lenOf pd__I_C rfl) at_468 rfl (nle rfl) (nle rfl) (nle rfl) (nle rfl) all0 all0 all0 rfl
        replace G := G'; clear G'
        obtain ⟨wc, qc, rfl, ec, rfl⟩ := Qc
        replace G := G.val qc
        subst ec
        replace G := G.top (y := (.int (Int32.ofNat m0))) (congrArg Value.int (bm hm0)) |>.iload 473 at_471 rfl rfl |>.icmpT 478 at_473 (XT.ii_eq_t rfl) (by decide) (by decide)
        exact k478 _ hT Ap G
    have k405 : ∀ h : Heap, Str Z h t tb (bl (mkL nf f0 f1) ++ bl [58] ++ ([Value.int 45] ++ dgs (ndL M) M) ++ bl [58, 32] ++ bl (mkL nm m0 m1)) → Arv Z h pa kpa .long (19 : Int32) pv (.long 0) → Wl Z a0 "com/example/fianza/fianza/InputExceptionAtPinLaw" p l e room_1 s m #[(.int i0), (.long i1), (.int i2), (.int i3)] below meth c code 29 B consts_1 h0 n0 [] [pa, a2, a1] h 28 3511 405 #[.val (.int i0), .val (.long i1), .second, .val (.int i2), .val (.int i3), .val (.int (Int32.ofNat f0)), .val (.int (Int32.ofNat f1)), .val (.int (Int32.ofNat nf)), .val (.int (Int32.ofNat m0)), .val (.int (Int32.ofNat m1)), .val (.int (Int32.ofNat nm)), .val (.ref a1), .val (.ref a2), .val (.ref pa), .val (.ref q), .val (.ref t), .val (.int (Int32.ofNat (nf + 1 + (ndL M + 1) + 2 + nm))), .val (.int (Int32.ofNat (ndL M + 1))), .val (.int (1 : Int32)), .val (.int (Int32.ofNat (ndL M))), .val (.long i1), .second, .unset, .unset, .unset, .unset, .unset, .unset, .unset] [] → Fin Z consts_1 p e below B s h0 n0 [] room_1.cells room_1.slots (VV fun w h so => w = .int 1 ∧ so = []) := by
      intro h hT Ap G
      replace G := G.aload 407 at_405 rfl rfl rfl |>.iload 409 at_407 rfl rfl
      obtain ⟨vc, k_c, soc, G', Kc, Qc⟩ := G.callV 412 (hw _ (mm 249 rfl)) (hw _ (mm 250 rfl)) (nfSel (hw _ (mm 252 rfl))) (hw _ (mm 252 rfl)) (hw _ (mm 251 rfl)) (hw _ (mm 6 rfl)) (hw _ (mm 253 rfl)) hT.1 (by decide) [(.int (Int32.ofNat nf))] [] rfl (c_charAt l Z a0 hw hEW n0 c1 hc1 S1 v2 hv2 S2 t tb (bl (mkL nf f0 f1) ++ bl [58] ++ ([Value.int 45] ++ dgs (ndL M) M) ++ bl [58, 32] ++ bl (mkL nm m0 m1)) nf (58 : Int32) G.old (by rw [hlen]; omega) (by rw [hlen]; omega) t1' hT) (lenOf pd__I_C rfl) at_409 rfl (nle rfl) (nle rfl) (nle rfl) (nle rfl) all0 all0 all0 rfl
      replace G := G'; clear G'
      obtain ⟨wc, qc, rfl, ec, rfl⟩ := Qc
      replace G := G.val qc
      subst ec
      replace G := G.top (y := (.int (58 : Int32))) (congrArg Value.int (by decide)) |>.bipush 414 (58 : Int32) at_412 (by decide) rfl |>.icmpT 419 at_414 (XT.ii_eq_t rfl) (by decide) (by decide) |>.iload 421 at_419 rfl rfl |>.iconst 422 (1 : Int32) at_421 rfl rfl |>.iadd 423 at_422 rfl |>.top (y := (.int (Int32.ofNat (nf + 1)))) (congrArg Value.int (ofn_add nf 1)) |>.iload 425 at_423 rfl rfl
      replace G := G.iadd 426 at_425 rfl |>.top (y := (.int (Int32.ofNat (nf + 1 + (ndL M + 1))))) (congrArg Value.int (ofn_add _ _)) |>.istore 428 #[.val (.int i0), .val (.long i1), .second, .val (.int i2), .val (.int i3), .val (.int (Int32.ofNat f0)), .val (.int (Int32.ofNat f1)), .val (.int (Int32.ofNat nf)), .val (.int (Int32.ofNat m0)), .val (.int (Int32.ofNat m1)), .val (.int (Int32.ofNat nm)), .val (.ref a1), .val (.ref a2), .val (.ref pa), .val (.ref q), .val (.ref t), .val (.int (Int32.ofNat (nf + 1 + (ndL M + 1) + 2 + nm))), .val (.int (Int32.ofNat (ndL M + 1))), .val (.int (1 : Int32)), .val (.int (Int32.ofNat (ndL M))), .val (.long i1), .second, .val (.int (Int32.ofNat (nf + 1 + (ndL M + 1)))), .unset, .unset, .unset, .unset, .unset, .unset] at_426 rfl rfl |>.aload 430 at_428 rfl rfl rfl |>.iload 432 at_430 rfl rfl
      obtain ⟨vd, k_c, sod, G', Kd, Qd⟩ := G.callV 435 (hw _ (mm 249 rfl)) (hw _ (mm 250 rfl)) (nfSel (hw _ (mm 252 rfl))) (hw _ (mm 252 rfl)) (hw _ (mm 251 rfl)) (hw _ (mm 6 rfl)) (hw _ (mm 253 rfl)) hT.1 (by decide) [(.int (Int32.ofNat (nf + 1 + (ndL M + 1))))] [] rfl (c_charAt l Z a0 hw hEW n0 c1 hc1 S1 v2 hv2 S2 t tb (bl (mkL nf f0 f1) ++ bl [58] ++ ([Value.int 45] ++ dgs (ndL M) M) ++ bl [58, 32] ++ bl (mkL nm m0 m1)) (nf + 1 + (ndL M + 1)) (58 : Int32) G.old (by rw [hlen]; omega) (by rw [hlen]; omega) t3 hT) (lenOf pd__I_C rfl) at_432 rfl (nle rfl) (nle rfl) (nle rfl) (nle rfl) all0 all0 all0 rfl
      replace G := G'; clear G'
      obtain ⟨wd, qd, rfl, ed, rfl⟩ := Qd
      replace G := G.val qd
      subst ed
      replace G := G.top (y := (.int (58 : Int32))) (congrArg Value.int (by decide)) |>.bipush 437 (58 : Int32) at_435 (by decide) rfl |>.icmpF 440 at_437 (XT.ii_ne_f rfl) rfl |>.aload 442 at_440 rfl rfl rfl |>.iload 444 at_442 rfl rfl |>.iconst 445 (1 : Int32) at_444 rfl rfl |>.iadd 446 at_445 rfl |>.top (y := (.int (Int32.ofNat (nf + 1 + (ndL M + 1) + 1)))) (congrArg Value.int (ofn_add _ 1))
      obtain ⟨ve', k_c, soe', G', Ke', Qe'⟩ := G.callV 449 (hw _ (mm 249 rfl)) (hw _ (mm 250 rfl)) (nfSel (hw _ (mm 252 rfl))) (hw _ (mm 252 rfl)) (hw _ (mm 251 rfl)) (hw _ (mm 6 rfl)) (hw _ (mm 253 rfl)) hT.1 (by decide) [(.int (Int32.ofNat (nf + 1 + (ndL M + 1) + 1)))] [] rfl (c_charAt l Z a0 hw hEW n0 c1 hc1 S1 v2 hv2 S2 t tb (bl (mkL nf f0 f1) ++ bl [58] ++ ([Value.int 45] ++ dgs (ndL M) M) ++ bl [58, 32] ++ bl (mkL nm m0 m1)) (nf + 1 + (ndL M + 1) + 1) (32 : Int32) G.old (by rw [hlen]; omega) (by rw [hlen]; omega) t4 hT) (lenOf pd__I_C rfl) at_446 rfl (nle rfl) (nle rfl) (nle rfl) (nle rfl) all0 all0 all0 rfl
      replace G := G'; clear G'
      obtain ⟨we', qe', rfl, ee', rfl⟩ := Qe'
      replace G := G.val qe'
      subst ee'
      replace G := G.top (y := (.int (32 : Int32))) (congrArg Value.int (by decide)) |>.bipush 451 (32 : Int32) at_449 (by decide) rfl |>.icmpT 456 at_451 (XT.ii_eq_t rfl) (by decide) (by decide)
      exact k456 _ hT Ap G
    have k386 : ∀ h : Heap, Str Z h t tb (bl (mkL nf f0 f1) ++ bl [58] ++ ([Value.int 45] ++ dgs (ndL M) M) ++ bl [58, 32] ++ bl (mkL nm m0 m1)) → Arv Z h pa kpa .long (19 : Int32) pv (.long 0) → Wl Z a0 "com/example/fianza/fianza/InputExceptionAtPinLaw" p l e room_1 s m #[(.int i0), (.long i1), (.int i2), (.int i3)] below meth c code 29 B consts_1 h0 n0 [] [pa, a2, a1] h 28 3511 386 #[.val (.int i0), .val (.long i1), .second, .val (.int i2), .val (.int i3), .val (.int (Int32.ofNat f0)), .val (.int (Int32.ofNat f1)), .val (.int (Int32.ofNat nf)), .val (.int (Int32.ofNat m0)), .val (.int (Int32.ofNat m1)), .val (.int (Int32.ofNat nm)), .val (.ref a1), .val (.ref a2), .val (.ref pa), .val (.ref q), .val (.ref t), .val (.int (Int32.ofNat (nf + 1 + (ndL M + 1) + 2 + nm))), .val (.int (Int32.ofNat (ndL M + 1))), .val (.int (1 : Int32)), .val (.int (Int32.ofNat (ndL M))), .val (.long i1), .second, .unset, .unset, .unset, .unset, .unset, .unset, .unset] [] → Fin Z consts_1 p e below B s h0 n0 [] room_1.cells room_1.slots (VV fun w h so => w = .int 1 ∧ so = []) := by
      intro h hT Ap G
      replace G := G.iload 388 at_386 rfl rfl |>.iconst 389 (2 : Int32) at_388 rfl rfl
      rcases Nat.lt_or_ge nf 2 with hq | hq
      · skip
        replace G := G.icmpT 405 at_389 (XT.ii_lt_t (ofn_lt (n := 2) hq (by decide))) (by decide) (by decide)
        exact k405 _ hT Ap G
      · skip
        replace G := G.icmpF 392 at_389 (XT.ii_lt_f (ofn_nlt (n := 2) hq (by omega))) rfl |>.aload 394 at_392 rfl rfl rfl |>.iconst 395 (1 : Int32) at_394 rfl rfl |>.top (y := (.int (Int32.ofNat 1))) (rfl)
        obtain ⟨vc, k_c, soc, G', Kc, Qc⟩ := G.callV 398 (hw _ (mm 249 rfl)) (hw _ (mm 250 rfl)) (nfSel (hw _ (mm 252 rfl))) (hw _ (mm 252 rfl)) (hw _ (mm 251 rfl)) (hw _ (mm 6 rfl)) (hw _ (mm 253 rfl)) hT.1 (by decide) [(.int (Int32.ofNat 1))] [] rfl (c_charAt l Z a0 hw hEW n0 c1 hc1 S1 v2 hv2 S2 t tb (bl (mkL nf f0 f1) ++ bl [58] ++ ([Value.int 45] ++ dgs (ndL M) M) ++ bl [58, 32] ++ bl (mkL nm m0 m1)) 1 (Int32.ofNat f1).toInt8.toInt32 G.old (by rw [hlen]; omega) (by rw [hlen]; omega) ((t0 1 (by omega)).trans (by obtain rfl : nf = 2 := (by omega); rfl)) hT) (lenOf pd__I_C rfl) at_395 rfl (nle rfl) (nle rfl) (nle rfl) (nle rfl) all0 all0 all0 rfl
        replace G := G'; clear G'
        obtain ⟨wc, qc, rfl, ec, rfl⟩ := Qc
        replace G := G.val qc
        subst ec
        replace G := G.top (y := (.int (Int32.ofNat f1))) (congrArg Value.int (bm hf1)) |>.iload 400 at_398 rfl rfl |>.icmpT 405 at_400 (XT.ii_eq_t rfl) (by decide) (by decide)
        exact k405 _ hT Ap G
    have k367 : ∀ h : Heap, Str Z h t tb (bl (mkL nf f0 f1) ++ bl [58] ++ ([Value.int 45] ++ dgs (ndL M) M) ++ bl [58, 32] ++ bl (mkL nm m0 m1)) → Arv Z h pa kpa .long (19 : Int32) pv (.long 0) → Wl Z a0 "com/example/fianza/fianza/InputExceptionAtPinLaw" p l e room_1 s m #[(.int i0), (.long i1), (.int i2), (.int i3)] below meth c code 29 B consts_1 h0 n0 [] [pa, a2, a1] h 28 3511 367 #[.val (.int i0), .val (.long i1), .second, .val (.int i2), .val (.int i3), .val (.int (Int32.ofNat f0)), .val (.int (Int32.ofNat f1)), .val (.int (Int32.ofNat nf)), .val (.int (Int32.ofNat m0)), .val (.int (Int32.ofNat m1)), .val (.int (Int32.ofNat nm)), .val (.ref a1), .val (.ref a2), .val (.ref pa), .val (.ref q), .val (.ref t), .val (.int (Int32.ofNat (nf + 1 + (ndL M + 1) + 2 + nm))), .val (.int (Int32.ofNat (ndL M + 1))), .val (.int (1 : Int32)), .val (.int (Int32.ofNat (ndL M))), .val (.long i1), .second, .unset, .unset, .unset, .unset, .unset, .unset, .unset] [] → Fin Z consts_1 p e below B s h0 n0 [] room_1.cells room_1.slots (VV fun w h so => w = .int 1 ∧ so = []) := by
      intro h hT Ap G
      replace G := G.iload 369 at_367 rfl rfl |>.iconst 370 (1 : Int32) at_369 rfl rfl
      rcases Nat.lt_or_ge nf 1 with hq | hq
      · skip
        replace G := G.icmpT 386 at_370 (XT.ii_lt_t (ofn_lt (n := 1) hq (by decide))) (by decide) (by decide)
        exact k386 _ hT Ap G
      · skip
        replace G := G.icmpF 373 at_370 (XT.ii_lt_f (ofn_nlt (n := 1) hq (by omega))) rfl |>.aload 375 at_373 rfl rfl rfl |>.iconst 376 (0 : Int32) at_375 rfl rfl |>.top (y := (.int (Int32.ofNat 0))) (rfl)
        obtain ⟨vc, k_c, soc, G', Kc, Qc⟩ := G.callV 379 (hw _ (mm 249 rfl)) (hw _ (mm 250 rfl)) (nfSel (hw _ (mm 252 rfl))) (hw _ (mm 252 rfl)) (hw _ (mm 251 rfl)) (hw _ (mm 6 rfl)) (hw _ (mm 253 rfl)) hT.1 (by decide) [(.int (Int32.ofNat 0))] [] rfl (c_charAt l Z a0 hw hEW n0 c1 hc1 S1 v2 hv2 S2 t tb (bl (mkL nf f0 f1) ++ bl [58] ++ ([Value.int 45] ++ dgs (ndL M) M) ++ bl [58, 32] ++ bl (mkL nm m0 m1)) 0 (Int32.ofNat f0).toInt8.toInt32 G.old (by rw [hlen]; omega) (by rw [hlen]; omega) ((t0 0 (by omega)).trans (by rcases (show nf = 1 ∨ nf = 2 by omega) with rfl | rfl <;> rfl)) hT) (lenOf pd__I_C rfl) at_376 rfl (nle rfl) (nle rfl) (nle rfl) (nle rfl) all0 all0 all0 rfl
        replace G := G'; clear G'
        obtain ⟨wc, qc, rfl, ec, rfl⟩ := Qc
        replace G := G.val qc
        subst ec
        replace G := G.top (y := (.int (Int32.ofNat f0))) (congrArg Value.int (bm hf0)) |>.iload 381 at_379 rfl rfl |>.icmpT 386 at_381 (XT.ii_eq_t rfl) (by decide) (by decide)
        exact k386 _ hT Ap G
    have k345 : ∀ h : Heap, Str Z h t tb (bl (mkL nf f0 f1) ++ bl [58] ++ ([Value.int 45] ++ dgs (ndL M) M) ++ bl [58, 32] ++ bl (mkL nm m0 m1)) → Arv Z h pa kpa .long (19 : Int32) pv (.long 0) → Wl Z a0 "com/example/fianza/fianza/InputExceptionAtPinLaw" p l e room_1 s m #[(.int i0), (.long i1), (.int i2), (.int i3)] below meth c code 29 B consts_1 h0 n0 [] [pa, a2, a1] h 28 3511 345 #[.val (.int i0), .val (.long i1), .second, .val (.int i2), .val (.int i3), .val (.int (Int32.ofNat f0)), .val (.int (Int32.ofNat f1)), .val (.int (Int32.ofNat nf)), .val (.int (Int32.ofNat m0)), .val (.int (Int32.ofNat m1)), .val (.int (Int32.ofNat nm)), .val (.ref a1), .val (.ref a2), .val (.ref pa), .val (.ref q), .val (.ref t), .val (.int (Int32.ofNat (nf + 1 + (ndL M + 1) + 2 + nm))), .val (.int (Int32.ofNat (ndL M + 1))), .val (.int (1 : Int32)), .val (.int (Int32.ofNat (ndL M))), .val (.long i1), .second, .unset, .unset, .unset, .unset, .unset, .unset, .unset] [] → Fin Z consts_1 p e below B s h0 n0 [] room_1.cells room_1.slots (VV fun w h so => w = .int 1 ∧ so = []) := by
      intro h hT Ap G
      replace G := G.iload 347 at_345 rfl rfl |>.bipush 349 (19 : Int32) at_347 (by decide) rfl
      rcases Nat.lt_or_ge (ndL M) 19 with hq | hq
      · skip
        replace G := G.icmpF 352 at_349 (XT.ii_ge_f (ofn_lt (n := 19) hq (by decide))) rfl |>.lload 354 at_352 rfl rfl |>.aload 356 at_354 rfl rfl rfl |>.iload 358 at_356 rfl rfl |>.laload 359 (v := (.long (Int64.ofNat (10 ^ (ndL M))))) Ap ⟨ofn_nn (by omega), ofn_lt (n := 19) (by omega) (by decide)⟩ (by rw [ofn_nat (by omega)]; exact pv_at (by omega)) at_358 rfl |>.ldiv 360 at_359 (p10 ⟨(ndL M), by omega⟩).2.1 rfl
        obtain ⟨qq, eqq, G'⟩ := G.nameJ
        replace G := G'; clear G'
        have hqq : qq.toInt = -((M / 10 ^ (ndL M) : Nat) : Int) := by rw [eqq]; exact dv (by omega) hy
        replace G := G.lconst0 361 at_360 rfl |>.lcmp 362 at_361 rfl |>.ifT 367 at_362 (XT.ll_eq_t (q_eq hqq (Nat.div_eq_of_lt (ndL_hi _ rfl)))) (by decide) (by decide)
        exact k367 _ hT Ap G
      · skip
        replace G := G.icmpT 367 at_349 (XT.ii_ge_t (ofn_nlt (n := 19) hq (by omega))) (by decide) (by decide)
        exact k367 _ hT Ap G
    replace G := G.iload 324 at_322 rfl rfl |>.iconst 325 (1 : Int32) at_324 rfl rfl
    rcases Nat.lt_or_ge 1 (ndL M) with hq | hq
    · skip
      replace G := G.icmpF 328 at_325 (XT.ii_le_f (ofn_lt (i := 1) hq (by omega))) rfl |>.lload 330 at_328 rfl rfl |>.aload 332 at_330 rfl rfl rfl |>.iload 334 at_332 rfl rfl |>.iconst 335 (1 : Int32) at_334 rfl rfl |>.isub 336 at_335 rfl |>.top (y := (.int (Int32.ofNat (ndL M - 1)))) (congrArg Value.int (ofn_sub (b := 1) (by omega) (by omega))) |>.laload 337 (v := (.long (Int64.ofNat (10 ^ (ndL M - 1))))) Ap ⟨ofn_nn (by omega), ofn_lt (n := 19) (by omega) (by decide)⟩ (by rw [ofn_nat (by omega)]; exact pv_at (by omega)) at_336 rfl
      replace G := G.ldiv 338 at_337 (p10 ⟨(ndL M - 1), by omega⟩).2.1 rfl
      obtain ⟨qq, eqq, G'⟩ := G.nameJ
      replace G := G'; clear G'
      have hqq : qq.toInt = -((M / 10 ^ (ndL M - 1) : Nat) : Int) := by rw [eqq]; exact dv (by omega) hy
      replace G := G.lconst0 339 at_338 rfl |>.lcmp 340 at_339 rfl
      have hp := ndL_lo (ndL M - 1) (M := M) (by omega) (by omega)
      replace G := G.ifT 345 at_340 (XT.ll_ne_t (q_ne hqq (Nat.ne_of_gt (Nat.div_pos hp (Nat.pow_pos (by decide)))))) (by decide) (by decide)
      exact k345 _ hT Ap G
    · skip
      replace G := G.icmpT 345 at_325 (XT.ii_le_t (ofn_nlt (i := 1) hq (by decide))) (by decide) (by decide)
      exact k345 _ hT Ap G
theorem comes_1 {Post : Tables → Env → Array Value → State → Outcome → State → Prop} (hpost : ∀ tb e args s v u, (limb_1_1.after args s (.returned v) u = true ∧ limb_1_2.after args s (.returned v) u = true ∧ True) → FramedW s (.returned v) u (Jvm.fieldLocs frame_1_writes args s ++ Jvm.arrayLocs frame_1_arrays args s ++ Jvm.staticLocs frame_1_statics s) 48 8960 → Post tb e args s (.returned v) u) :
    ArmFor flags0 classFile x code maxLocals ret World_1 tables_1 room_1 Calls_1 rest_1 Pre_1 Post := by
  intro l hfl _ _ p e ha hc hk s m args below hf hA hF happ hP
  obtain ⟨hcalls, hrest, hpre⟩ := hP
  obtain ⟨-, -, -, hnamed, -, -, -, hat⟩ := (Spec.applies_iff hf).mp happ
  obtain ⟨hg, hn⟩ := and_e (Cond.before_iff.mp (show (Jvm.Cond.and given_1 narrow_1).before args s = true from hpre))
  obtain ⟨hcnt, g0⟩ := and_e hg
  obtain ⟨a0, g1⟩ := and_e g0
  obtain ⟨a1, g2⟩ := and_e g1
  obtain ⟨a2, g3⟩ := and_e g2
  have a3 := g3
  obtain ⟨w0, w1, w2, w3, rfl⟩ : ∃ w0 w1 w2 w3 : Value, args = #[w0, w1, w2, w3] := by
    have hs : args.size = 4 := by simpa [Cond.value, given_1] using hcnt
    obtain ⟨L⟩ := args
    match L, hs with
    | [w0, w1, w2, w3], _ => exact ⟨w0, w1, w2, w3, rfl⟩
  have hw := fun d (hd : d ∈ tables_1) => atoms_spec (ws := Jvm.Cond.code x code maxLocals ret :: tables_1) hat d (List.mem_cons_of_mem _ hd)
  obtain ⟨hsets, hown0⟩ := atoms_of _ (rest_1_c_eq ▸ (show rest_1_c.before _ s = true from hrest))
  have hfit : Fit s := fun {y c} hc i hi => by
    obtain ⟨ha, rfl⟩ := Array.getElem?_eq_some_iff.mp hc
    have q := List.all_eq_true.mp ((Array.all_eq_true_iff_forall_mem.mp hF) _ (Array.getElem_mem ha)) i (List.mem_range.mpr hi)
    simpa [Array.getElem?_eq_getElem hi] using q
  obtain ⟨i0, e0⟩ := is_v a0
  obtain rfl : w0 = (.int i0) := Option.some.inj e0
  obtain ⟨i1, e1⟩ := isL_v a1
  obtain rfl : w1 = (.long i1) := Option.some.inj e1
  obtain ⟨i2, e2⟩ := is_v a2
  obtain rfl : w2 = (.int i2) := Option.some.inj e2
  obtain ⟨i3, e3⟩ := is_v a3
  obtain rfl : w3 = (.int i3) := Option.some.inj e3
  have hcompact : Jvm.Lit.compactW.before _ s = true := (hsets _ (mm 2 rfl))
  obtain ⟨c1, ec1⟩ := is_v (Cond.before_iff.mp (hsets _ (mm 1 rfl)))
  have S1 : Sta s s.heap "java/lang/String" "COMPACT_STRINGS" "Z" (.int c1) := Sta.start ec1 (Or.inl (hsets _ (mm 0 rfl)))
  have hc1 : ¬ (c1 = (0 : Int32)) := gotF (Cond.eq_ints ec1 (Term.int_eval (0))) (not_v (Cond.before_iff.mp hcompact))
  obtain ⟨v2, ev2, hv2⟩ := isR_v (Cond.before_iff.mp (hsets _ (mm 8 rfl)))
  have S2 : Sta s s.heap "jdk/internal/util/Preconditions" "SIOOBE_FORMATTER" "Ljava/util/function/BiFunction;" v2 := Sta.start ev2 (Or.inl (hsets _ (mm 7 rfl)))
  obtain ⟨t1, kt1, SD1, AD1⟩ := arv100 (vs := dOnes) (hsets _ (mm 11 rfl)) (hsets _ (mm 12 rfl)) (hsets _ (mm 13 rfl)) (hsets _ (mm 14 rfl)) (hw _ (mm 19 rfl)) (fun j hj => ⟨_, rfl, by rw [dOnes_at hj]; exact congrArg Value.int (ones_eq ⟨j, hj⟩).1.symm, by rw [(ones_eq ⟨j, hj⟩).1]; exact (ones_eq ⟨j, hj⟩).2⟩)
  obtain ⟨t2, kt2, SD2, AD2⟩ := arv100 (vs := dTens) (hsets _ (mm 16 rfl)) (hsets _ (mm 17 rfl)) (hsets _ (mm 18 rfl)) (hsets _ (mm 19 rfl)) (hw _ (mm 19 rfl)) (fun j hj => ⟨_, rfl, by rw [dTens_at hj]; exact congrArg Value.int (tens_eq ⟨j, hj⟩).1.symm, by rw [(tens_eq ⟨j, hj⟩).1]; exact (tens_eq ⟨j, hj⟩).2⟩)
  obtain ⟨vU, eU, hU⟩ := isR_v (Cond.before_iff.mp (hsets _ (mm 27 rfl)))
  obtain ⟨u', rfl⟩ := arr_nn (hsets _ (mm 28 rfl)) eU hU
  have SU : Sta s s.heap "java/lang/Throwable" "UNASSIGNED_STACK" "[Ljava/lang/StackTraceElement;" (.ref u') := Sta.start eU (Or.inl (hsets _ (mm 26 rfl)))
  obtain ⟨vs', evs', hvs⟩ := isR_v (Cond.before_iff.mp (hsets _ (mm 32 rfl)))
  have SS : Sta s s.heap "java/lang/Throwable" "SUPPRESSED_SENTINEL" "Ljava/util/List;" vs' := Sta.start evs' (Or.inl (hsets _ (mm 31 rfl)))
  have hEW : EW s _ consts_1 := (EW.cons (hw _ (mm 143 rfl)) (by decide) (EW.cons (hw _ (mm 117 rfl)) (by decide) (EW.cons (hw _ (mm 18 rfl)) (by decide) EW.nil)))
  have hCH : CHv s consts_1 s.vm s.heap := CHv.start hEW (show ∀ p ∈ consts_1, Jvm.Lit.constHeld s p.1 p.2 from hcalls.2.2.1) hcompact (hw _ (mm 19 rfl)) (hw _ (mm 5 rfl))
  obtain ⟨n, o, h1, h2, h3, _, L, rfl, ⟨so, N, -, ⟨w, rfl, rfl, -⟩, -, -⟩, hq⟩ := c_law l s _ hw hEW s.heap.size c1 hc1 S1 v2 hv2 S2 t1 t2 kt1 kt2 SD1 SD2 AD1 AD2 (fun e ha => Launch.traces_on hfl ha) u' SU vs' hvs SS tables_1 i0 i1 i2 i3 (Old.start s) p e ha hc hk s m _ below hf ((Spec.applies_iff_loose hf).mp happ).1 ⟨rfl, State.Warmed39.refl s, rfl, hCH, fun _ q => nomatch q⟩ ⟨known_t hcalls.2.1, known_f hf hcalls.1⟩
  refine ⟨n, _, h1, h2, h3, hpost _ _ _ _ _ _ ⟨Cond.after_iff.mpr rfl, Cond.after_iff.mpr (eq_i res_at (Term.int_eval (1)) rfl), trivial⟩ ⟨hq.1, hq.2.1, hq.2.2.1, (hq.2.2.2.sift fun y hy => Or.inr (N y hy)).mono (by decide) (by decide)⟩⟩
theorem main_1_1 : Claimed_1_1 := comes_1 fun _ _ _ _ _ _ h hF => ⟨h.1, hF⟩
theorem main_1_2 : Claimed_1_2 := comes_1 fun _ _ _ _ _ _ h hF => ⟨h.2.1, hF⟩
end Jvm.Pilot.@@N@@
namespace Jvm.Pilot.@@N@@
open Jvm Jvm.ClassFile Sem Op Lib Jvm.Free Jvm.Stand Jvm.Pilot.@@N@@.Jvm.D
/-! MADE BY PROGRAM (witnessworld.py) out of the Statement's table words and the real class files: 47 classes; the members and pool entries that the words name. The judged class is class 1, her method 2. -/
namespace start1
open Jvm.ClassFile
def u (s : String) : CpInfo := .utf8 (stringToUtf16 s)
/-- a pool by its gaps: so many unusable entries, then the entry; so many at the end -/
def gap : Nat → List CpInfo → List CpInfo
  | 0, r => r
  | n + 1, r => .unusable :: gap n r
def poolList (es : List (Nat × CpInfo)) (last : Nat) : List CpInfo := es.foldr (fun e r => gap e.1 (e.2 :: r)) (gap last [])
def pool (es : List (Nat × CpInfo)) (last : Nat) : Array CpInfo := ⟨poolList es last⟩
def fileOf (pool : Array CpInfo) (this : Nat) (attrs : Array Attribute := #[]) (ms : Array MethodInfo := #[]) (fl : Nat := 33) (sup : Nat := 0) (ifs : Array Nat := #[]) (fds : Array FieldInfo := #[]) : ClassFile where
  minorVersion := 0
  majorVersion := 65
  constantPool := pool
  accessFlags := fl
  thisClass := this
  superClass := sup
  interfaces := ifs
  fields := fds
  methods := ms
  attributes := attrs
def plain (name : String) (sup : Option ClassId) : Class where
  name := name
  kind := .ordinary
  loader := none
  accessFlags := 33
  super := sup
  interfaces := #[]
  cf := none
  fields := #[]
  methods := #[]
  instanceTypes := #[]
  staticTypes := #[]
  resolved := #[]
  callSites := []
  init := .initialized
  statics := none
  mirror := none

def pool0 : Array CpInfo := pool [(5, u "<init>"), (0, u "()V"), (1, .class_ 10), (1, u "java/lang/Object"), (85, u "clone"), (0, u "()Ljava/lang/Object;")] 26

def k0c0 : Code := { maxStack := 0, maxLocals := 1, code := object_method_1_code, exceptionTable := #[], attributes := #[] }
def k0m0 : Method := { name := "<init>", desc := "()V", sig := { parameters := [], returnType := none }, accessFlags := 1, code := some k0c0 }
def k0m1 : Method := { name := "clone", desc := "()Ljava/lang/Object;", sig := { parameters := [], returnType := some (.object "java/lang/Object") }, accessFlags := 260, code := none }
/-- java/lang/Object -/
def k0 : Class := { plain "java/lang/Object" none with
  accessFlags := 33
  interfaces := #[]
  cf := some (fileOf pool0 8 #[] #[{ accessFlags := 1, nameIndex := 5, descriptorIndex := 6, attributes := #[] }, { accessFlags := 260, nameIndex := 96, descriptorIndex := 97, attributes := #[] }] 33 0 #[] #[])
  fields := #[]
  methods := #[k0m0, k0m1]
  instanceTypes := #[]
  staticTypes := #[]
  resolved := Array.replicate 124 none
  statics := none }

def pool1 : Array CpInfo := pool [(2, .class_ 4), (1, u "java/lang/Object"), (0, u "<init>"), (0, u "()V"), (0, .class_ 8), (0, u "java/lang/String"), (0, .methodref 7 10), (0, .nameAndType 5 11), (0, u "([C)V"), (0, .methodref 7 13), (0, .nameAndType 14 15), (0, u "valueOf"), (0, u "(C)Ljava/lang/String;"), (0, .methodref 17 18), (0, .class_ 19), (0, .nameAndType 20 21), (0, u "com/example/fianza/fianza/InputExceptionAtPinLaw"), (0, u "make"), (0, u "(ICC)Ljava/lang/String;"), (0, .long 10), (1, .long 100), (1, .long 1000), (1, .long 10000), (1, .long 100000), (1, .long 1000000), (1, .long 10000000), (1, .long 100000000), (1, .long 1000000000), (1, .long 10000000000), (1, .long 100000000000), (1, .long 1000000000000), (1, .long 10000000000000), (1, .long 100000000000000), (1, .long 1000000000000000), (1, .long 10000000000000000), (1, .long 100000000000000000), (1, .long 1000000000000000000), (1, .methodref 59 60), (0, .class_ 61), (0, .nameAndType 62 63), (0, u "com/example/fianza/fianza/InputException"), (0, u "at"), (0, u "(Ljava/lang/String;JLjava/lang/String;)Lcom/example/fianza/fianza/InputException;"), (0, .methodref 59 65), (0, .nameAndType 66 67), (0, u "getMessage"), (0, u "()Ljava/lang/String;"), (0, .methodref 7 69), (0, .nameAndType 70 71), (0, u "length"), (0, u "()I"), (0, .methodref 7 73), (0, .nameAndType 74 75), (0, u "charAt"), (0, u "(I)C"), (0, .integer 2147483647), (3, u "law"), (0, u "(IJII)Z")] 4

def k1m0 : Method := { name := "<init>", desc := "()V", sig := { parameters := [], returnType := none }, accessFlags := 1, code := none }
def k1c1 : Code := { maxStack := 6, maxLocals := 3, code := method_2_code, exceptionTable := #[], attributes := #[] }
def k1m1 : Method := { name := "make", desc := "(ICC)Ljava/lang/String;", sig := { parameters := [.int, .char, .char], returnType := some (.object "java/lang/String") }, accessFlags := 10, code := some k1c1 }
def k1c2 : Code := { maxStack := 5, maxLocals := 29, code := code, exceptionTable := #[], attributes := #[] }
def k1m2 : Method := { name := "law", desc := "(IJII)Z", sig := { parameters := [.int, .long, .int, .int], returnType := some .boolean }, accessFlags := 9, code := some k1c2 }
/-- com/example/fianza/fianza/InputExceptionAtPinLaw -/
def k1 : Class := { plain "com/example/fianza/fianza/InputExceptionAtPinLaw" (some 0) with
  accessFlags := 49
  interfaces := #[]
  cf := some (fileOf pool1 17 #[] #[{ accessFlags := 1, nameIndex := 5, descriptorIndex := 6, attributes := #[] }, { accessFlags := 10, nameIndex := 20, descriptorIndex := 21, attributes := #[] }, { accessFlags := 9, nameIndex := 80, descriptorIndex := 81, attributes := #[] }] 49 2 #[] #[])
  fields := #[]
  methods := #[k1m0, k1m1, k1m2]
  instanceTypes := #[]
  staticTypes := #[]
  resolved := Array.replicate 86 none
  statics := none }

def pool2 : Array CpInfo := pool [(1, .class_ 2), (0, u "java/io/Serializable"), (0, .class_ 4), (0, u "java/lang/Object")] 2

/-- java/io/Serializable -/
def k2 : Class := { plain "java/io/Serializable" (some 0) with
  accessFlags := 1537
  interfaces := #[]
  cf := some (fileOf pool2 1 #[] #[] 1537 3 #[] #[])
  fields := #[]
  methods := #[]
  instanceTypes := #[]
  staticTypes := #[]
  resolved := Array.replicate 7 none
  statics := none }

def pool3 : Array CpInfo := pool [(1, .class_ 2), (0, u "java/lang/Comparable"), (0, .class_ 4), (0, u "java/lang/Object")] 7

/-- java/lang/Comparable -/
def k3 : Class := { plain "java/lang/Comparable" (some 0) with
  accessFlags := 1537
  interfaces := #[]
  cf := some (fileOf pool3 1 #[] #[] 1537 3 #[] #[])
  fields := #[]
  methods := #[]
  instanceTypes := #[]
  staticTypes := #[]
  resolved := Array.replicate 12 none
  statics := none }

def pool4 : Array CpInfo := pool [(2, .class_ 4), (1, u "java/lang/CharSequence"), (42, .class_ 48), (0, u "java/lang/CharSequence$1CodePointIterator"), (10, .class_ 60), (0, u "java/lang/CharSequence$1CharIterator"), (5, .class_ 67), (0, u "java/lang/Object")] 63

/-- java/lang/CharSequence -/
def k4 : Class := { plain "java/lang/CharSequence" (some 0) with
  accessFlags := 1537
  interfaces := #[]
  cf := some (fileOf pool4 2 #[.nestMembers #[47, 59]] #[] 1537 66 #[] #[])
  fields := #[]
  methods := #[]
  instanceTypes := #[]
  staticTypes := #[]
  resolved := Array.replicate 131 none
  statics := none }

def pool5 : Array CpInfo := pool [(1, .class_ 2), (0, u "java/lang/constant/Constable"), (0, .class_ 4), (0, u "java/lang/Object")] 6

/-- java/lang/constant/Constable -/
def k5 : Class := { plain "java/lang/constant/Constable" (some 0) with
  accessFlags := 1537
  interfaces := #[]
  cf := some (fileOf pool5 1 #[] #[] 1537 3 #[] #[])
  fields := #[]
  methods := #[]
  instanceTypes := #[]
  staticTypes := #[]
  resolved := Array.replicate 11 none
  statics := none }

def pool6 : Array CpInfo := pool [(1, .class_ 2), (0, u "java/lang/constant/ConstantDesc"), (0, .class_ 4), (0, u "java/lang/Object")] 32

/-- java/lang/constant/ConstantDesc -/
def k6 : Class := { plain "java/lang/constant/ConstantDesc" (some 0) with
  accessFlags := 1537
  interfaces := #[]
  cf := some (fileOf pool6 1 #[] #[] 1537 3 #[] #[])
  fields := #[]
  methods := #[]
  instanceTypes := #[]
  staticTypes := #[]
  resolved := Array.replicate 37 none
  statics := none }

def pool7 : Array CpInfo := pool [(1, .methodref 2 3), (0, .class_ 4), (0, .nameAndType 5 6), (0, u "java/lang/Object"), (0, u "<init>"), (0, u "()V"), (0, .string 8), (0, u ""), (0, .fieldref 10 11), (0, .class_ 12), (0, .nameAndType 13 14), (0, u "java/lang/String"), (0, u "value"), (0, u "[B"), (0, .fieldref 10 16), (0, .nameAndType 17 18), (0, u "coder"), (0, u "B"), (2, u "hash"), (0, u "I"), (2, u "hashIsZero"), (0, u "Z"), (0, .methodref 10 28), (0, .nameAndType 5 29), (0, u "([CIILjava/lang/Void;)V"), (8, .fieldref 10 39), (0, .nameAndType 40 26), (0, u "COMPACT_STRINGS"), (1, .class_ 44), (1, u "java/lang/StringUTF16"), (0, u "compress"), (1, .methodref 42 48), (0, .nameAndType 49 50), (0, u "coderFromArrayLen"), (0, u "([BI)B"), (2, u "toBytes"), (0, .methodref 55 56), (0, .class_ 57), (0, .nameAndType 58 59), (0, u "java/util/Arrays"), (0, u "copyOfRange"), (0, u "([BII)[B"), (47, .class_ 109), (1, u "java/lang/StringLatin1"), (32, u "()Z"), (34, .methodref 42 178), (0, .nameAndType 45 179), (0, u "([CII)[B"), (13, .class_ 195), (1, u "java/lang/System"), (13, .methodref 10 210), (0, .nameAndType 5 211), (0, u "([BB)V"), (0, .methodref 193 213), (0, .nameAndType 214 215), (0, u "arraycopy"), (0, u "(Ljava/lang/Object;ILjava/lang/Object;II)V"), (118, u "()I"), (0, .methodref 10 336), (0, .nameAndType 17 337), (0, u "()B"), (2, u "()[B"), (22, u "([BI)C"), (5, u "(C)Z"), (21, u "(II)V"), (35, u "(I)C"), (61, .methodref 10 490), (0, .nameAndType 5 491), (0, u "(Ljava/lang/AbstractStringBuilder;Ljava/lang/Void;)V"), (0, .methodref 10 493), (0, .nameAndType 494 142), (0, u "isLatin1"), (0, .methodref 107 496), (0, .nameAndType 497 363), (0, u "charAt"), (3, u "checkIndex"), (4, .nameAndType 507 334), (0, u "length"), (24, u "getBytes"), (16, .methodref 550 506), (0, .class_ 551), (0, u "java/lang/AbstractStringBuilder"), (0, .methodref 550 553), (0, .nameAndType 554 340), (0, u "getValue"), (20, .class_ 576), (0, u "java/lang/CharSequence"), (22, u "CASE_INSENSITIVE_ORDER"), (0, u "Ljava/util/Comparator;"), (181, u "valueOf"), (0, u "(C)Ljava/lang/String;"), (37, u "([BIB)V"), (188, u "([C)V"), (4, .methodref 107 1016), (0, .nameAndType 1017 369), (0, u "canEncode"), (0, .methodref 107 1019), (0, .nameAndType 53 1020), (0, u "(C)[B"), (26, .methodref 550 493), (5, .fieldref 1054 1055), (0, .class_ 1056), (0, .nameAndType 1057 1058), (0, u "jdk/internal/util/Preconditions"), (0, u "SIOOBE_FORMATTER"), (0, u "Ljava/util/function/BiFunction;"), (0, .methodref 1054 1060), (0, .nameAndType 501 1061), (0, u "(IILjava/util/function/BiFunction;)I"), (39, u "serialPersistentFields"), (0, u "[Ljava/io/ObjectStreamField;"), (0, .class_ 1104), (0, u "java/lang/String$CaseInsensitiveComparator"), (1, .class_ 1107), (0, u "java/io/Serializable"), (0, .class_ 1109), (0, u "java/lang/Comparable"), (0, .class_ 1111), (0, u "java/lang/constant/Constable"), (0, .class_ 1113), (0, u "java/lang/constant/ConstantDesc"), (2, u "serialVersionUID"), (0, u "J"), (3, u "REPL"), (0, u "C"), (2, u "LATIN1"), (1, u "UTF16"), (105, u "(Ljava/lang/StringBuilder;)V")] 217

def k7m0 : Method := { name := "<init>", desc := "()V", sig := { parameters := [], returnType := none }, accessFlags := 1, code := none }
def k7c1 : Code := { maxStack := 5, maxLocals := 2, code := jdk_42_method_3_code, exceptionTable := #[], attributes := #[] }
def k7m1 : Method := { name := "<init>", desc := "([C)V", sig := { parameters := [(.array .char)], returnType := none }, accessFlags := 1, code := some k7c1 }
def k7c2 : Code := { maxStack := 3, maxLocals := 2, code := jdk_42_method_53_code, exceptionTable := #[], attributes := #[] }
def k7m2 : Method := { name := "<init>", desc := "(Ljava/lang/StringBuilder;)V", sig := { parameters := [(.object "java/lang/StringBuilder")], returnType := none }, accessFlags := 1, code := some k7c2 }
def k7c3 : Code := { maxStack := 2, maxLocals := 1, code := jdk_42_method_54_code, exceptionTable := #[], attributes := #[] }
def k7m3 : Method := { name := "length", desc := "()I", sig := { parameters := [], returnType := some .int }, accessFlags := 1, code := some k7c3 }
def k7c4 : Code := { maxStack := 2, maxLocals := 2, code := jdk_42_method_56_code, exceptionTable := #[], attributes := #[] }
def k7m4 : Method := { name := "charAt", desc := "(I)C", sig := { parameters := [.int], returnType := some .char }, accessFlags := 1, code := some k7c4 }
def k7c5 : Code := { maxStack := 4, maxLocals := 1, code := jdk_42_method_139_code, exceptionTable := #[], attributes := #[] }
def k7m5 : Method := { name := "valueOf", desc := "(C)Ljava/lang/String;", sig := { parameters := [.char], returnType := some (.object "java/lang/String") }, accessFlags := 9, code := some k7c5 }
def k7c6 : Code := { maxStack := 5, maxLocals := 4, code := jdk_42_method_147_code, exceptionTable := #[], attributes := #[] }
def k7m6 : Method := { name := "getBytes", desc := "([BIB)V", sig := { parameters := [(.array .byte), .int, .byte], returnType := none }, accessFlags := 0, code := some k7c6 }
def k7c7 : Code := { maxStack := 4, maxLocals := 6, code := jdk_42_method_149_code, exceptionTable := #[], attributes := #[] }
def k7m7 : Method := { name := "<init>", desc := "([CIILjava/lang/Void;)V", sig := { parameters := [(.array .char), .int, .int, (.object "java/lang/Void")], returnType := none }, accessFlags := 2, code := some k7c7 }
def k7c8 : Code := { maxStack := 5, maxLocals := 5, code := jdk_42_method_150_code, exceptionTable := #[], attributes := #[] }
def k7m8 : Method := { name := "<init>", desc := "(Ljava/lang/AbstractStringBuilder;Ljava/lang/Void;)V", sig := { parameters := [(.object "java/lang/AbstractStringBuilder"), (.object "java/lang/Void")], returnType := none }, accessFlags := 0, code := some k7c8 }
def k7c9 : Code := { maxStack := 2, maxLocals := 3, code := jdk_42_method_151_code, exceptionTable := #[], attributes := #[] }
def k7m9 : Method := { name := "<init>", desc := "([BB)V", sig := { parameters := [(.array .byte), .byte], returnType := none }, accessFlags := 0, code := some k7c9 }
def k7c10 : Code := { maxStack := 1, maxLocals := 1, code := jdk_42_method_152_code, exceptionTable := #[], attributes := #[] }
def k7m10 : Method := { name := "coder", desc := "()B", sig := { parameters := [], returnType := some .byte }, accessFlags := 0, code := some k7c10 }
def k7c11 : Code := { maxStack := 1, maxLocals := 1, code := jdk_42_method_154_code, exceptionTable := #[], attributes := #[] }
def k7m11 : Method := { name := "isLatin1", desc := "()Z", sig := { parameters := [], returnType := some .boolean }, accessFlags := 0, code := some k7c11 }
def k7c12 : Code := { maxStack := 3, maxLocals := 2, code := jdk_42_method_155_code, exceptionTable := #[], attributes := #[] }
def k7m12 : Method := { name := "checkIndex", desc := "(II)V", sig := { parameters := [.int, .int], returnType := none }, accessFlags := 8, code := some k7c12 }
/-- java/lang/String -/
def k7 : Class := { plain "java/lang/String" (some 0) with
  accessFlags := 49
  interfaces := #[2, 3, 4, 5, 6]
  cf := some (fileOf pool7 10 #[.nestMembers #[1103]] #[{ accessFlags := 1, nameIndex := 5, descriptorIndex := 6, attributes := #[] }, { accessFlags := 1, nameIndex := 5, descriptorIndex := 1010, attributes := #[] }, { accessFlags := 1, nameIndex := 5, descriptorIndex := 1233, attributes := #[] }, { accessFlags := 1, nameIndex := 507, descriptorIndex := 334, attributes := #[] }, { accessFlags := 1, nameIndex := 497, descriptorIndex := 427, attributes := #[] }, { accessFlags := 9, nameIndex := 782, descriptorIndex := 783, attributes := #[] }, { accessFlags := 0, nameIndex := 532, descriptorIndex := 821, attributes := #[] }, { accessFlags := 2, nameIndex := 5, descriptorIndex := 29, attributes := #[] }, { accessFlags := 0, nameIndex := 5, descriptorIndex := 491, attributes := #[] }, { accessFlags := 0, nameIndex := 5, descriptorIndex := 211, attributes := #[] }, { accessFlags := 0, nameIndex := 17, descriptorIndex := 337, attributes := #[] }, { accessFlags := 0, nameIndex := 494, descriptorIndex := 142, attributes := #[] }, { accessFlags := 8, nameIndex := 501, descriptorIndex := 391, attributes := #[] }] 49 2 #[1106, 1108, 575, 1110, 1112] #[{ accessFlags := 18, nameIndex := 13, descriptorIndex := 14, attributes := #[] }, { accessFlags := 18, nameIndex := 17, descriptorIndex := 18, attributes := #[] }, { accessFlags := 2, nameIndex := 21, descriptorIndex := 22, attributes := #[] }, { accessFlags := 2, nameIndex := 25, descriptorIndex := 26, attributes := #[] }, { accessFlags := 26, nameIndex := 1116, descriptorIndex := 1117, attributes := #[] }, { accessFlags := 24, nameIndex := 40, descriptorIndex := 26, attributes := #[] }, { accessFlags := 26, nameIndex := 1101, descriptorIndex := 1102, attributes := #[] }, { accessFlags := 26, nameIndex := 1121, descriptorIndex := 1122, attributes := #[] }, { accessFlags := 25, nameIndex := 599, descriptorIndex := 600, attributes := #[] }, { accessFlags := 24, nameIndex := 1125, descriptorIndex := 18, attributes := #[] }, { accessFlags := 24, nameIndex := 1127, descriptorIndex := 18, attributes := #[] }])
  fields := #[{ name := "value", type := (.array .byte), accessFlags := 18, slot := 0, constantValue := 0 }, { name := "coder", type := .byte, accessFlags := 18, slot := 1, constantValue := 0 }, { name := "hash", type := .int, accessFlags := 2, slot := 2, constantValue := 0 }, { name := "hashIsZero", type := .boolean, accessFlags := 2, slot := 3, constantValue := 0 }, { name := "serialVersionUID", type := .long, accessFlags := 26, slot := 0, constantValue := 0 }, { name := "COMPACT_STRINGS", type := .boolean, accessFlags := 24, slot := 1, constantValue := 0 }, { name := "serialPersistentFields", type := (.array (.object "java/io/ObjectStreamField")), accessFlags := 26, slot := 2, constantValue := 0 }, { name := "REPL", type := .char, accessFlags := 26, slot := 3, constantValue := 0 }, { name := "CASE_INSENSITIVE_ORDER", type := (.object "java/util/Comparator"), accessFlags := 25, slot := 4, constantValue := 0 }, { name := "LATIN1", type := .byte, accessFlags := 24, slot := 5, constantValue := 0 }, { name := "UTF16", type := .byte, accessFlags := 24, slot := 6, constantValue := 0 }]
  methods := #[k7m0, k7m1, k7m2, k7m3, k7m4, k7m5, k7m6, k7m7, k7m8, k7m9, k7m10, k7m11, k7m12]
  instanceTypes := #[(.array .byte), .byte, .int, .boolean]
  staticTypes := #[.long, .boolean, (.array (.object "java/io/ObjectStreamField")), .char, (.object "java/util/Comparator"), .byte, .byte]
  resolved := Array.replicate 1451 none
  statics := some 0 }

def pool8 : Array CpInfo := pool [(1, .methodref 2 3), (0, .class_ 4), (0, .nameAndType 5 6), (0, u "java/lang/Object"), (0, u "<init>"), (0, u "()V"), (0, .fieldref 8 9), (0, .class_ 10), (0, .nameAndType 11 12), (0, u "java/lang/Throwable"), (0, u "cause"), (0, u "Ljava/lang/Throwable;"), (0, .fieldref 8 14), (0, .nameAndType 15 16), (0, u "UNASSIGNED_STACK"), (0, u "[Ljava/lang/StackTraceElement;"), (0, .fieldref 8 18), (0, .nameAndType 19 16), (0, u "stackTrace"), (0, .fieldref 8 21), (0, .nameAndType 22 23), (0, u "SUPPRESSED_SENTINEL"), (0, u "Ljava/util/List;"), (0, .fieldref 8 25), (0, .nameAndType 26 23), (0, u "suppressedExceptions"), (0, .methodref 8 28), (0, .nameAndType 29 30), (0, u "fillInStackTrace"), (0, u "()Ljava/lang/Throwable;"), (0, .fieldref 8 32), (0, .nameAndType 33 34), (0, u "detailMessage"), (0, u "Ljava/lang/String;"), (3, u "()Ljava/lang/String;"), (2, u "getMessage"), (51, .class_ 94), (0, u "java/lang/Throwable$WrappedPrintStream"), (6, .class_ 103), (1, u "java/lang/Throwable$PrintStreamOrWriter"), (61, u "$assertionsDisabled"), (0, u "Z"), (26, .class_ 194), (0, u "java/lang/Throwable$WrappedPrintWriter"), (3, .fieldref 8 199), (0, .nameAndType 200 201), (0, u "backtrace"), (0, u "Ljava/lang/Object;"), (0, .methodref 8 203), (0, .nameAndType 29 204), (0, u "(I)Ljava/lang/Throwable;"), (6, u "depth"), (0, u "I"), (10, u "(Ljava/lang/String;)V"), (45, .class_ 271), (1, u "java/lang/Throwable$SentinelHolder"), (32, u "EMPTY_THROWABLE_ARRAY"), (0, u "[Ljava/lang/Throwable;"), (12, .class_ 319), (0, u "java/io/Serializable"), (0, u "serialVersionUID"), (0, u "J"), (5, u "NULL_CAUSE_MESSAGE"), (0, u "SELF_SUPPRESSION_MESSAGE"), (0, u "CAUSE_CAPTION"), (0, u "SUPPRESSED_CAPTION")] 73

def k8c0 : Code := { maxStack := 2, maxLocals := 1, code := jdk_78_method_1_code, exceptionTable := #[], attributes := #[] }
def k8m0 : Method := { name := "<init>", desc := "()V", sig := { parameters := [], returnType := none }, accessFlags := 1, code := some k8c0 }
def k8c1 : Code := { maxStack := 2, maxLocals := 2, code := jdk_78_method_2_code, exceptionTable := #[], attributes := #[] }
def k8m1 : Method := { name := "<init>", desc := "(Ljava/lang/String;)V", sig := { parameters := [(.object "java/lang/String")], returnType := none }, accessFlags := 1, code := some k8c1 }
def k8c2 : Code := { maxStack := 1, maxLocals := 1, code := jdk_78_method_6_code, exceptionTable := #[], attributes := #[] }
def k8m2 : Method := { name := "getMessage", desc := "()Ljava/lang/String;", sig := { parameters := [], returnType := some (.object "java/lang/String") }, accessFlags := 1, code := some k8c2 }
def k8c3 : Code := { maxStack := 2, maxLocals := 1, code := ⟨#[0x2a, 0xb4, 0x00, 0x11, 0xc7, 0x00, 0x0a, 0x2a, 0xb4, 0x00, 0xc6, 0xc6, 0x00, 0x10, 0x2a, 0x03, 0xb6, 0x00, 0xca, 0x57, 0x2a, 0xb2, 0x00, 0x0d, 0xb5, 0x00, 0x11, 0x2a, 0xb0]⟩, exceptionTable := #[], attributes := #[] }
def k8m3 : Method := { name := "fillInStackTrace", desc := "()Ljava/lang/Throwable;", sig := { parameters := [], returnType := some (.object "java/lang/Throwable") }, accessFlags := 33, code := some k8c3 }
def k8m4 : Method := { name := "fillInStackTrace", desc := "(I)Ljava/lang/Throwable;", sig := { parameters := [.int], returnType := some (.object "java/lang/Throwable") }, accessFlags := 258, code := none }
/-- java/lang/Throwable -/
def k8 : Class := { plain "java/lang/Throwable" (some 0) with
  accessFlags := 33
  interfaces := #[2]
  cf := some (fileOf pool8 8 #[.nestMembers #[193, 93, 101, 269]] #[{ accessFlags := 1, nameIndex := 5, descriptorIndex := 6, attributes := #[] }, { accessFlags := 1, nameIndex := 5, descriptorIndex := 223, attributes := #[] }, { accessFlags := 1, nameIndex := 41, descriptorIndex := 38, attributes := #[] }, { accessFlags := 33, nameIndex := 29, descriptorIndex := 30, attributes := #[] }, { accessFlags := 258, nameIndex := 29, descriptorIndex := 204, attributes := #[] }] 33 2 #[318] #[{ accessFlags := 26, nameIndex := 320, descriptorIndex := 321, attributes := #[] }, { accessFlags := 130, nameIndex := 200, descriptorIndex := 201, attributes := #[] }, { accessFlags := 2, nameIndex := 33, descriptorIndex := 34, attributes := #[] }, { accessFlags := 26, nameIndex := 15, descriptorIndex := 16, attributes := #[] }, { accessFlags := 2, nameIndex := 11, descriptorIndex := 12, attributes := #[] }, { accessFlags := 2, nameIndex := 19, descriptorIndex := 16, attributes := #[] }, { accessFlags := 130, nameIndex := 211, descriptorIndex := 212, attributes := #[] }, { accessFlags := 26, nameIndex := 22, descriptorIndex := 23, attributes := #[] }, { accessFlags := 2, nameIndex := 26, descriptorIndex := 23, attributes := #[] }, { accessFlags := 26, nameIndex := 327, descriptorIndex := 34, attributes := #[] }, { accessFlags := 26, nameIndex := 328, descriptorIndex := 34, attributes := #[] }, { accessFlags := 26, nameIndex := 329, descriptorIndex := 34, attributes := #[] }, { accessFlags := 26, nameIndex := 330, descriptorIndex := 34, attributes := #[] }, { accessFlags := 26, nameIndex := 304, descriptorIndex := 305, attributes := #[] }, { accessFlags := 4120, nameIndex := 165, descriptorIndex := 166, attributes := #[] }])
  fields := #[{ name := "serialVersionUID", type := .long, accessFlags := 26, slot := 0, constantValue := 0 }, { name := "backtrace", type := (.object "java/lang/Object"), accessFlags := 130, slot := 0, constantValue := 0 }, { name := "detailMessage", type := (.object "java/lang/String"), accessFlags := 2, slot := 1, constantValue := 0 }, { name := "UNASSIGNED_STACK", type := (.array (.object "java/lang/StackTraceElement")), accessFlags := 26, slot := 1, constantValue := 0 }, { name := "cause", type := (.object "java/lang/Throwable"), accessFlags := 2, slot := 2, constantValue := 0 }, { name := "stackTrace", type := (.array (.object "java/lang/StackTraceElement")), accessFlags := 2, slot := 3, constantValue := 0 }, { name := "depth", type := .int, accessFlags := 130, slot := 4, constantValue := 0 }, { name := "SUPPRESSED_SENTINEL", type := (.object "java/util/List"), accessFlags := 26, slot := 2, constantValue := 0 }, { name := "suppressedExceptions", type := (.object "java/util/List"), accessFlags := 2, slot := 5, constantValue := 0 }, { name := "NULL_CAUSE_MESSAGE", type := (.object "java/lang/String"), accessFlags := 26, slot := 3, constantValue := 0 }, { name := "SELF_SUPPRESSION_MESSAGE", type := (.object "java/lang/String"), accessFlags := 26, slot := 4, constantValue := 0 }, { name := "CAUSE_CAPTION", type := (.object "java/lang/String"), accessFlags := 26, slot := 5, constantValue := 0 }, { name := "SUPPRESSED_CAPTION", type := (.object "java/lang/String"), accessFlags := 26, slot := 6, constantValue := 0 }, { name := "EMPTY_THROWABLE_ARRAY", type := (.array (.object "java/lang/Throwable")), accessFlags := 26, slot := 7, constantValue := 0 }, { name := "$assertionsDisabled", type := .boolean, accessFlags := 4120, slot := 8, constantValue := 0 }]
  methods := #[k8m0, k8m1, k8m2, k8m3, k8m4]
  instanceTypes := #[(.object "java/lang/Object"), (.object "java/lang/String"), (.object "java/lang/Throwable"), (.array (.object "java/lang/StackTraceElement")), .int, (.object "java/util/List")]
  staticTypes := #[.long, (.array (.object "java/lang/StackTraceElement")), (.object "java/util/List"), (.object "java/lang/String"), (.object "java/lang/String"), (.object "java/lang/String"), (.object "java/lang/String"), (.array (.object "java/lang/Throwable")), .boolean]
  resolved := Array.replicate 404 none
  statics := some 1 }

def pool9 : Array CpInfo := pool [(2, .class_ 4), (1, u "java/lang/Throwable"), (0, u "<init>"), (0, u "()V"), (0, .methodref 2 8), (0, .nameAndType 5 9), (0, u "(Ljava/lang/String;)V"), (9, .class_ 20), (0, u "java/lang/Exception"), (0, u "serialVersionUID"), (0, u "J")] 17

def k9m0 : Method := { name := "<init>", desc := "()V", sig := { parameters := [], returnType := none }, accessFlags := 1, code := none }
def k9c1 : Code := { maxStack := 2, maxLocals := 2, code := jdk_59_method_2_code, exceptionTable := #[], attributes := #[] }
def k9m1 : Method := { name := "<init>", desc := "(Ljava/lang/String;)V", sig := { parameters := [(.object "java/lang/String")], returnType := none }, accessFlags := 1, code := some k9c1 }
/-- java/lang/Exception -/
def k9 : Class := { plain "java/lang/Exception" (some 8) with
  accessFlags := 33
  interfaces := #[]
  cf := some (fileOf pool9 19 #[] #[{ accessFlags := 1, nameIndex := 5, descriptorIndex := 6, attributes := #[] }, { accessFlags := 1, nameIndex := 5, descriptorIndex := 9, attributes := #[] }] 33 2 #[] #[{ accessFlags := 24, nameIndex := 21, descriptorIndex := 22, attributes := #[] }])
  fields := #[{ name := "serialVersionUID", type := .long, accessFlags := 24, slot := 0, constantValue := 0 }]
  methods := #[k9m0, k9m1]
  instanceTypes := #[(.object "java/lang/Object"), (.object "java/lang/String"), (.object "java/lang/Throwable"), (.array (.object "java/lang/StackTraceElement")), .int, (.object "java/util/List")]
  staticTypes := #[.long]
  resolved := Array.replicate 40 none
  statics := none }

def pool10 : Array CpInfo := pool [(2, .class_ 4), (1, u "java/lang/Exception"), (0, u "<init>"), (0, u "()V"), (0, .methodref 2 8), (0, .nameAndType 5 9), (0, u "(Ljava/lang/String;)V"), (9, .class_ 20), (0, u "java/lang/RuntimeException"), (0, u "serialVersionUID"), (0, u "J")] 17

def k10m0 : Method := { name := "<init>", desc := "()V", sig := { parameters := [], returnType := none }, accessFlags := 1, code := none }
def k10c1 : Code := { maxStack := 2, maxLocals := 2, code := jdk_58_method_2_code, exceptionTable := #[], attributes := #[] }
def k10m1 : Method := { name := "<init>", desc := "(Ljava/lang/String;)V", sig := { parameters := [(.object "java/lang/String")], returnType := none }, accessFlags := 1, code := some k10c1 }
/-- java/lang/RuntimeException -/
def k10 : Class := { plain "java/lang/RuntimeException" (some 9) with
  accessFlags := 33
  interfaces := #[]
  cf := some (fileOf pool10 19 #[] #[{ accessFlags := 1, nameIndex := 5, descriptorIndex := 6, attributes := #[] }, { accessFlags := 1, nameIndex := 5, descriptorIndex := 9, attributes := #[] }] 33 2 #[] #[{ accessFlags := 24, nameIndex := 21, descriptorIndex := 22, attributes := #[] }])
  fields := #[{ name := "serialVersionUID", type := .long, accessFlags := 24, slot := 0, constantValue := 0 }]
  methods := #[k10m0, k10m1]
  instanceTypes := #[(.object "java/lang/Object"), (.object "java/lang/String"), (.object "java/lang/Throwable"), (.array (.object "java/lang/StackTraceElement")), .int, (.object "java/util/List")]
  staticTypes := #[.long]
  resolved := Array.replicate 40 none
  statics := none }

def pool11 : Array CpInfo := pool [(1, .methodref 2 3), (0, .class_ 4), (0, .nameAndType 5 6), (0, u "java/lang/RuntimeException"), (0, u "<init>"), (0, u "(Ljava/lang/String;)V"), (0, .class_ 8), (0, u "com/example/fianza/fianza/InputException"), (0, .class_ 10), (0, u "java/lang/StringBuilder"), (0, .methodref 9 12), (0, .nameAndType 5 13), (0, u "()V"), (0, .methodref 9 15), (0, .nameAndType 16 17), (0, u "append"), (0, u "(Ljava/lang/String;)Ljava/lang/StringBuilder;"), (0, .string 19), (0, u ": "), (0, .methodref 9 21), (0, .nameAndType 22 23), (0, u "toString"), (0, u "()Ljava/lang/String;"), (0, .methodref 7 3), (0, .string 26), (0, u ":"), (0, .methodref 9 28), (0, .nameAndType 16 29), (0, u "(J)Ljava/lang/StringBuilder;"), (0, u "serialVersionUID"), (0, u "J"), (7, u "at"), (0, u "(Ljava/lang/String;JLjava/lang/String;)Lcom/example/fianza/fianza/InputException;")] 2

def k11c0 : Code := { maxStack := 2, maxLocals := 2, code := prog_25_method_1_code, exceptionTable := #[], attributes := #[] }
def k11m0 : Method := { name := "<init>", desc := "(Ljava/lang/String;)V", sig := { parameters := [(.object "java/lang/String")], returnType := none }, accessFlags := 0, code := some k11c0 }
def k11c1 : Code := { maxStack := 5, maxLocals := 4, code := prog_25_method_3_code, exceptionTable := #[], attributes := #[] }
def k11m1 : Method := { name := "at", desc := "(Ljava/lang/String;JLjava/lang/String;)Lcom/example/fianza/fianza/InputException;", sig := { parameters := [(.object "java/lang/String"), .long, (.object "java/lang/String")], returnType := some (.object "com/example/fianza/fianza/InputException") }, accessFlags := 8, code := some k11c1 }
/-- com/example/fianza/fianza/InputException -/
def k11 : Class := { plain "com/example/fianza/fianza/InputException" (some 10) with
  accessFlags := 48
  interfaces := #[]
  cf := some (fileOf pool11 7 #[] #[{ accessFlags := 0, nameIndex := 5, descriptorIndex := 6, attributes := #[] }, { accessFlags := 8, nameIndex := 39, descriptorIndex := 40, attributes := #[] }] 48 2 #[] #[{ accessFlags := 26, nameIndex := 30, descriptorIndex := 31, attributes := #[] }])
  fields := #[{ name := "serialVersionUID", type := .long, accessFlags := 26, slot := 0, constantValue := 0 }]
  methods := #[k11m0, k11m1]
  instanceTypes := #[(.object "java/lang/Object"), (.object "java/lang/String"), (.object "java/lang/Throwable"), (.array (.object "java/lang/StackTraceElement")), .int, (.object "java/util/List")]
  staticTypes := #[.long]
  resolved := Array.replicate 43 none
  statics := none }

def pool12 : Array CpInfo := pool [(1, .class_ 2), (0, u "java/lang/Appendable"), (0, .class_ 4), (0, u "java/lang/Object")] 9

/-- java/lang/Appendable -/
def k12 : Class := { plain "java/lang/Appendable" (some 0) with
  accessFlags := 1537
  interfaces := #[]
  cf := some (fileOf pool12 1 #[] #[] 1537 3 #[] #[])
  fields := #[]
  methods := #[]
  instanceTypes := #[]
  staticTypes := #[]
  resolved := Array.replicate 14 none
  statics := none }

def pool13 : Array CpInfo := pool [(1, .class_ 2), (0, u "java/lang/String"), (0, .methodref 4 5), (0, .class_ 6), (0, .nameAndType 7 8), (0, u "java/lang/Object"), (0, u "<init>"), (0, u "()V"), (1, .class_ 12), (1, u "java/lang/AbstractStringBuilder"), (0, u "EMPTYVALUE"), (0, u "[B"), (0, .fieldref 10 16), (0, .nameAndType 17 14), (0, u "value"), (0, .fieldref 1 19), (0, .nameAndType 20 21), (0, u "COMPACT_STRINGS"), (0, u "Z"), (0, .fieldref 10 23), (0, .nameAndType 24 25), (0, u "coder"), (0, u "B"), (6, .methodref 1 33), (0, .nameAndType 34 35), (0, u "length"), (0, u "()I"), (3, .integer 2147483647), (0, .methodref 1 41), (0, .nameAndType 24 42), (0, u "()B"), (2, u "append"), (0, u "(Ljava/lang/String;)Ljava/lang/AbstractStringBuilder;"), (1, .class_ 49), (0, u "java/lang/CharSequence"), (19, u "(Ljava/lang/String;)V"), (5, u "maybeLatin1"), (3, .fieldref 10 80), (0, .nameAndType 81 82), (0, u "count"), (0, u "I"), (0, .methodref 10 84), (0, .nameAndType 85 86), (0, u "isLatin1"), (0, u "()Z"), (13, .methodref 10 101), (0, .nameAndType 102 103), (0, u "ensureCapacityInternal"), (0, u "(I)V"), (0, .methodref 10 105), (0, .nameAndType 106 107), (0, u "newCapacity"), (0, u "(I)I"), (0, .methodref 109 110), (0, .class_ 111), (0, .nameAndType 112 113), (0, u "java/util/Arrays"), (0, u "copyOf"), (0, u "([BI)[B"), (0, .methodref 115 116), (0, .class_ 117), (0, .nameAndType 118 119), (0, u "jdk/internal/util/ArraysSupport"), (0, u "newLength"), (0, u "(III)I"), (68, u "getChars"), (19, .methodref 10 209), (0, .nameAndType 210 211), (0, u "putStringAt"), (0, u "(ILjava/lang/String;)V"), (5, u "inflateIfNeededFor"), (2, .nameAndType 221 222), (0, u "getBytes"), (0, u "([BIB)V"), (24, u "stringSize"), (6, .methodref 255 256), (0, .class_ 257), (0, .nameAndType 247 258), (0, u "java/lang/Long"), (0, u "(J)I"), (0, .methodref 255 260), (0, .nameAndType 188 261), (0, u "(JI[B)I"), (135, .methodref 10 398), (0, .nameAndType 217 69), (0, .methodref 1 220), (3, u "()[B"), (40, .class_ 445), (0, u "java/lang/Appendable"), (67, u "(J)Ljava/lang/AbstractStringBuilder;"), (38, u "getValue")] 56

def k13m0 : Method := { name := "<init>", desc := "()V", sig := { parameters := [], returnType := none }, accessFlags := 0, code := none }
def k13c1 : Code := { maxStack := 2, maxLocals := 2, code := jdk_68_method_2_code, exceptionTable := #[], attributes := #[] }
def k13m1 : Method := { name := "<init>", desc := "(I)V", sig := { parameters := [.int], returnType := none }, accessFlags := 0, code := some k13c1 }
def k13c2 : Code := { maxStack := 1, maxLocals := 1, code := jdk_68_method_6_code, exceptionTable := #[], attributes := #[] }
def k13m2 : Method := { name := "length", desc := "()I", sig := { parameters := [], returnType := some .int }, accessFlags := 1, code := some k13c2 }
def k13c3 : Code := { maxStack := 4, maxLocals := 3, code := jdk_68_method_9_code, exceptionTable := #[], attributes := #[] }
def k13m3 : Method := { name := "ensureCapacityInternal", desc := "(I)V", sig := { parameters := [.int], returnType := none }, accessFlags := 2, code := some k13c3 }
def k13c4 : Code := { maxStack := 5, maxLocals := 6, code := jdk_68_method_10_code, exceptionTable := #[], attributes := #[] }
def k13m4 : Method := { name := "newCapacity", desc := "(I)I", sig := { parameters := [.int], returnType := some .int }, accessFlags := 2, code := some k13c4 }
def k13c5 : Code := { maxStack := 3, maxLocals := 3, code := jdk_68_method_22_code, exceptionTable := #[], attributes := #[] }
def k13m5 : Method := { name := "append", desc := "(Ljava/lang/String;)Ljava/lang/AbstractStringBuilder;", sig := { parameters := [(.object "java/lang/String")], returnType := some (.object "java/lang/AbstractStringBuilder") }, accessFlags := 1, code := some k13c5 }
def k13c6 : Code := { maxStack := 5, maxLocals := 5, code := jdk_68_method_33_code, exceptionTable := #[], attributes := #[] }
def k13m6 : Method := { name := "append", desc := "(J)Ljava/lang/AbstractStringBuilder;", sig := { parameters := [.long], returnType := some (.object "java/lang/AbstractStringBuilder") }, accessFlags := 1, code := some k13c6 }
def k13c7 : Code := { maxStack := 1, maxLocals := 1, code := jdk_68_method_64_code, exceptionTable := #[], attributes := #[] }
def k13m7 : Method := { name := "getValue", desc := "()[B", sig := { parameters := [], returnType := some (.array .byte) }, accessFlags := 16, code := some k13c7 }
def k13c8 : Code := { maxStack := 1, maxLocals := 1, code := jdk_68_method_68_code, exceptionTable := #[], attributes := #[] }
def k13m8 : Method := { name := "isLatin1", desc := "()Z", sig := { parameters := [], returnType := some .boolean }, accessFlags := 16, code := some k13c8 }
def k13c9 : Code := { maxStack := 2, maxLocals := 2, code := jdk_68_method_71_code, exceptionTable := #[], attributes := #[] }
def k13m9 : Method := { name := "inflateIfNeededFor", desc := "(Ljava/lang/String;)V", sig := { parameters := [(.object "java/lang/String")], returnType := none }, accessFlags := 2, code := some k13c9 }
def k13c10 : Code := { maxStack := 4, maxLocals := 3, code := jdk_68_method_73_code, exceptionTable := #[], attributes := #[] }
def k13m10 : Method := { name := "putStringAt", desc := "(ILjava/lang/String;)V", sig := { parameters := [.int, (.object "java/lang/String")], returnType := none }, accessFlags := 2, code := some k13c10 }
/-- java/lang/AbstractStringBuilder -/
def k13 : Class := { plain "java/lang/AbstractStringBuilder" (some 0) with
  accessFlags := 1056
  interfaces := #[12, 4]
  cf := some (fileOf pool13 10 #[] #[{ accessFlags := 0, nameIndex := 7, descriptorIndex := 8, attributes := #[] }, { accessFlags := 0, nameIndex := 7, descriptorIndex := 103, attributes := #[] }, { accessFlags := 1, nameIndex := 34, descriptorIndex := 35, attributes := #[] }, { accessFlags := 2, nameIndex := 102, descriptorIndex := 103, attributes := #[] }, { accessFlags := 2, nameIndex := 106, descriptorIndex := 107, attributes := #[] }, { accessFlags := 1, nameIndex := 45, descriptorIndex := 46, attributes := #[] }, { accessFlags := 1, nameIndex := 45, descriptorIndex := 513, attributes := #[] }, { accessFlags := 16, nameIndex := 552, descriptorIndex := 403, attributes := #[] }, { accessFlags := 16, nameIndex := 85, descriptorIndex := 86, attributes := #[] }, { accessFlags := 2, nameIndex := 217, descriptorIndex := 69, attributes := #[] }, { accessFlags := 2, nameIndex := 210, descriptorIndex := 211, attributes := #[] }] 1056 4 #[444, 48] #[{ accessFlags := 0, nameIndex := 17, descriptorIndex := 14, attributes := #[] }, { accessFlags := 0, nameIndex := 24, descriptorIndex := 25, attributes := #[] }, { accessFlags := 0, nameIndex := 75, descriptorIndex := 21, attributes := #[] }, { accessFlags := 0, nameIndex := 81, descriptorIndex := 82, attributes := #[] }, { accessFlags := 26, nameIndex := 13, descriptorIndex := 14, attributes := #[] }])
  fields := #[{ name := "value", type := (.array .byte), accessFlags := 0, slot := 0, constantValue := 0 }, { name := "coder", type := .byte, accessFlags := 0, slot := 1, constantValue := 0 }, { name := "maybeLatin1", type := .boolean, accessFlags := 0, slot := 2, constantValue := 0 }, { name := "count", type := .int, accessFlags := 0, slot := 3, constantValue := 0 }, { name := "EMPTYVALUE", type := (.array .byte), accessFlags := 26, slot := 0, constantValue := 0 }]
  methods := #[k13m0, k13m1, k13m2, k13m3, k13m4, k13m5, k13m6, k13m7, k13m8, k13m9, k13m10]
  instanceTypes := #[(.array .byte), .byte, .boolean, .int]
  staticTypes := #[(.array .byte)]
  resolved := Array.replicate 609 none
  statics := none }

def pool14 : Array CpInfo := pool [(1, .methodref 2 3), (0, .class_ 4), (0, .nameAndType 5 6), (0, u "java/lang/AbstractStringBuilder"), (0, u "<init>"), (0, u "(I)V"), (11, .class_ 20), (1, u "java/lang/String"), (3, .class_ 26), (1, u "java/lang/StringBuilder"), (0, u "append"), (0, u "(Ljava/lang/String;)Ljava/lang/StringBuilder;"), (0, .methodref 2 30), (0, .nameAndType 27 31), (0, u "(Ljava/lang/String;)Ljava/lang/AbstractStringBuilder;"), (24, .methodref 2 57), (0, .nameAndType 27 58), (0, u "(J)Ljava/lang/AbstractStringBuilder;"), (78, .methodref 18 138), (0, .nameAndType 5 139), (0, u "(Ljava/lang/StringBuilder;)V"), (5, u "()V"), (10, u "()I"), (124, u "(J)Ljava/lang/StringBuilder;"), (61, .methodref 2 344), (0, .nameAndType 345 156), (0, u "length"), (3, .class_ 350), (0, u "java/lang/Appendable"), (0, .class_ 352), (0, u "java/io/Serializable"), (0, .class_ 354), (0, u "java/lang/Comparable"), (0, .class_ 356), (0, u "java/lang/CharSequence"), (0, u "serialVersionUID"), (0, u "J"), (40, u "toString"), (0, u "()Ljava/lang/String;")] 21

def k14c0 : Code := { maxStack := 2, maxLocals := 1, code := jdk_67_method_1_code, exceptionTable := #[], attributes := #[] }
def k14m0 : Method := { name := "<init>", desc := "()V", sig := { parameters := [], returnType := none }, accessFlags := 1, code := some k14c0 }
def k14c1 : Code := { maxStack := 2, maxLocals := 2, code := jdk_67_method_7_code, exceptionTable := #[], attributes := #[] }
def k14m1 : Method := { name := "append", desc := "(Ljava/lang/String;)Ljava/lang/StringBuilder;", sig := { parameters := [(.object "java/lang/String")], returnType := some (.object "java/lang/StringBuilder") }, accessFlags := 1, code := some k14c1 }
def k14c2 : Code := { maxStack := 3, maxLocals := 3, code := jdk_67_method_16_code, exceptionTable := #[], attributes := #[] }
def k14m2 : Method := { name := "append", desc := "(J)Ljava/lang/StringBuilder;", sig := { parameters := [.long], returnType := some (.object "java/lang/StringBuilder") }, accessFlags := 1, code := some k14c2 }
def k14c3 : Code := { maxStack := 3, maxLocals := 1, code := jdk_67_method_42_code, exceptionTable := #[], attributes := #[] }
def k14m3 : Method := { name := "toString", desc := "()Ljava/lang/String;", sig := { parameters := [], returnType := some (.object "java/lang/String") }, accessFlags := 1, code := some k14c3 }
def k14c4 : Code := { maxStack := 1, maxLocals := 1, code := jdk_67_method_93_code, exceptionTable := #[], attributes := #[] }
def k14m4 : Method := { name := "length", desc := "()I", sig := { parameters := [], returnType := some .int }, accessFlags := 4161, code := some k14c4 }
/-- java/lang/StringBuilder -/
def k14 : Class := { plain "java/lang/StringBuilder" (some 13) with
  accessFlags := 49
  interfaces := #[12, 2, 3, 4]
  cf := some (fileOf pool14 24 #[] #[{ accessFlags := 1, nameIndex := 5, descriptorIndex := 145, attributes := #[] }, { accessFlags := 1, nameIndex := 27, descriptorIndex := 28, attributes := #[] }, { accessFlags := 1, nameIndex := 27, descriptorIndex := 281, attributes := #[] }, { accessFlags := 1, nameIndex := 399, descriptorIndex := 400, attributes := #[] }, { accessFlags := 4161, nameIndex := 345, descriptorIndex := 156, attributes := #[] }] 49 2 #[349, 351, 353, 355] #[{ accessFlags := 24, nameIndex := 357, descriptorIndex := 358, attributes := #[] }])
  fields := #[{ name := "serialVersionUID", type := .long, accessFlags := 24, slot := 0, constantValue := 0 }]
  methods := #[k14m0, k14m1, k14m2, k14m3, k14m4]
  instanceTypes := #[(.array .byte), .byte, .boolean, .int]
  staticTypes := #[.long]
  resolved := Array.replicate 422 none
  statics := none }

def pool15 : Array CpInfo := pool [(2, .class_ 4), (1, u "java/lang/Object"), (0, u "<init>"), (0, u "()V"), (1, .class_ 10), (1, u "java/lang/System"), (0, u "allowSecurityManager"), (0, u "I"), (16, u "cons"), (0, u "Ljava/io/Console;"), (77, .class_ 110), (1, u "java/lang/System$CallersHolder"), (43, u "initialErrStream"), (0, u "Ljava/io/PrintStream;"), (19, u "security"), (0, u "Ljava/lang/SecurityManager;"), (31, .class_ 209), (0, u "java/lang/System$1"), (7, u "props"), (0, u "Ljava/util/Properties;"), (2, u "lineSeparator"), (0, u "Ljava/lang/String;"), (96, .class_ 321), (1, u "java/lang/System$LoggerFinder"), (5, .class_ 328), (0, u "java/lang/System$Logger"), (67, u "err"), (2, u "out"), (91, u "notSupportedJnuEncoding"), (15, u "in"), (17, u "initialIn"), (0, u "Ljava/io/InputStream;"), (35, u "bootLayer"), (0, u "Ljava/lang/ModuleLayer;"), (99, .class_ 664), (0, u "java/lang/System$2"), (9, u "NEVER"), (2, u "MAYBE"), (49, u "arraycopy"), (0, u "(Ljava/lang/Object;ILjava/lang/Object;II)V"), (72, .class_ 802), (0, u "java/lang/System$Logger$Level")] 31

def k15m0 : Method := { name := "<init>", desc := "()V", sig := { parameters := [], returnType := none }, accessFlags := 2, code := none }
def k15m1 : Method := { name := "arraycopy", desc := "(Ljava/lang/Object;ILjava/lang/Object;II)V", sig := { parameters := [(.object "java/lang/Object"), .int, (.object "java/lang/Object"), .int, .int], returnType := none }, accessFlags := 265, code := none }
/-- java/lang/System -/
def k15 : Class := { plain "java/lang/System" (some 0) with
  accessFlags := 49
  interfaces := #[]
  cf := some (fileOf pool15 8 #[.nestMembers #[319, 327, 801, 108, 663, 208]] #[{ accessFlags := 2, nameIndex := 5, descriptorIndex := 6, attributes := #[] }, { accessFlags := 265, nameIndex := 727, descriptorIndex := 728, attributes := #[] }] 49 2 #[] #[{ accessFlags := 25, nameIndex := 507, descriptorIndex := 526, attributes := #[] }, { accessFlags := 25, nameIndex := 399, descriptorIndex := 155, attributes := #[] }, { accessFlags := 25, nameIndex := 396, descriptorIndex := 155, attributes := #[] }, { accessFlags := 10, nameIndex := 525, descriptorIndex := 526, attributes := #[] }, { accessFlags := 26, nameIndex := 674, descriptorIndex := 12, attributes := #[] }, { accessFlags := 26, nameIndex := 677, descriptorIndex := 12, attributes := #[] }, { accessFlags := 10, nameIndex := 11, descriptorIndex := 12, attributes := #[] }, { accessFlags := 74, nameIndex := 175, descriptorIndex := 176, attributes := #[] }, { accessFlags := 10, nameIndex := 491, descriptorIndex := 222, attributes := #[] }, { accessFlags := 74, nameIndex := 29, descriptorIndex := 30, attributes := #[] }, { accessFlags := 74, nameIndex := 154, descriptorIndex := 155, attributes := #[] }, { accessFlags := 10, nameIndex := 217, descriptorIndex := 218, attributes := #[] }, { accessFlags := 10, nameIndex := 221, descriptorIndex := 222, attributes := #[] }, { accessFlags := 8, nameIndex := 562, descriptorIndex := 563, attributes := #[] }])
  fields := #[{ name := "in", type := (.object "java/io/InputStream"), accessFlags := 25, slot := 0, constantValue := 0 }, { name := "out", type := (.object "java/io/PrintStream"), accessFlags := 25, slot := 1, constantValue := 0 }, { name := "err", type := (.object "java/io/PrintStream"), accessFlags := 25, slot := 2, constantValue := 0 }, { name := "initialIn", type := (.object "java/io/InputStream"), accessFlags := 10, slot := 3, constantValue := 0 }, { name := "NEVER", type := .int, accessFlags := 26, slot := 4, constantValue := 0 }, { name := "MAYBE", type := .int, accessFlags := 26, slot := 5, constantValue := 0 }, { name := "allowSecurityManager", type := .int, accessFlags := 10, slot := 6, constantValue := 0 }, { name := "security", type := (.object "java/lang/SecurityManager"), accessFlags := 74, slot := 7, constantValue := 0 }, { name := "notSupportedJnuEncoding", type := (.object "java/lang/String"), accessFlags := 10, slot := 8, constantValue := 0 }, { name := "cons", type := (.object "java/io/Console"), accessFlags := 74, slot := 9, constantValue := 0 }, { name := "initialErrStream", type := (.object "java/io/PrintStream"), accessFlags := 74, slot := 10, constantValue := 0 }, { name := "props", type := (.object "java/util/Properties"), accessFlags := 10, slot := 11, constantValue := 0 }, { name := "lineSeparator", type := (.object "java/lang/String"), accessFlags := 10, slot := 12, constantValue := 0 }, { name := "bootLayer", type := (.object "java/lang/ModuleLayer"), accessFlags := 8, slot := 13, constantValue := 0 }]
  methods := #[k15m0, k15m1]
  instanceTypes := #[]
  staticTypes := #[(.object "java/io/InputStream"), (.object "java/io/PrintStream"), (.object "java/io/PrintStream"), (.object "java/io/InputStream"), .int, .int, .int, (.object "java/lang/SecurityManager"), (.object "java/lang/String"), (.object "java/io/Console"), (.object "java/io/PrintStream"), (.object "java/util/Properties"), (.object "java/lang/String"), (.object "java/lang/ModuleLayer")]
  resolved := Array.replicate 834 none
  statics := none }

def pool16 : Array CpInfo := pool [(2, .class_ 4), (1, u "java/lang/Object"), (0, u "<init>"), (0, u "()V"), (1, .class_ 10), (1, u "java/lang/Number"), (2, .class_ 14), (0, u "java/io/Serializable"), (0, u "serialVersionUID"), (0, u "J")] 20

def k16m0 : Method := { name := "<init>", desc := "()V", sig := { parameters := [], returnType := none }, accessFlags := 1, code := none }
/-- java/lang/Number -/
def k16 : Class := { plain "java/lang/Number" (some 0) with
  accessFlags := 1057
  interfaces := #[2]
  cf := some (fileOf pool16 8 #[] #[{ accessFlags := 1, nameIndex := 5, descriptorIndex := 6, attributes := #[] }] 1057 2 #[13] #[{ accessFlags := 26, nameIndex := 15, descriptorIndex := 16, attributes := #[] }])
  fields := #[{ name := "serialVersionUID", type := .long, accessFlags := 26, slot := 0, constantValue := 0 }]
  methods := #[k16m0]
  instanceTypes := #[]
  staticTypes := #[.long]
  resolved := Array.replicate 37 none
  statics := none }

def pool17 : Array CpInfo := pool [(1, .class_ 2), (0, u "java/lang/Long"), (15, .class_ 20), (1, u "java/lang/Integer"), (32, .long 10), (47, u "(J)I"), (18, u "stringSize"), (2, u "getChars"), (0, u "(JI[B)I"), (4, .long 18446744071562067968), (1, .long 100), (1, .fieldref 18 134), (0, .nameAndType 135 136), (0, u "DigitOnes"), (0, u "[B"), (0, .fieldref 18 138), (0, .nameAndType 139 136), (0, u "DigitTens"), (0, .long 18446744073709551606), (94, .class_ 237), (1, u "java/lang/Long$LongCache"), (33, .class_ 272), (0, u "java/lang/Number"), (2, u "value"), (0, u "J"), (84, u "TYPE"), (0, u "Ljava/lang/Class;"), (0, .class_ 364), (0, u "java/lang/Comparable"), (0, .class_ 366), (0, u "java/lang/constant/Constable"), (0, .class_ 368), (0, u "java/lang/constant/ConstantDesc"), (0, u "MIN_VALUE"), (1, u "MAX_VALUE"), (4, u "SIZE"), (0, u "I"), (1, u "BYTES"), (1, u "serialVersionUID")] 142

def k17c0 : Code := { maxStack := 4, maxLocals := 11, code := jdk_35_method_14_code, exceptionTable := #[], attributes := #[] }
def k17m0 : Method := { name := "getChars", desc := "(JI[B)I", sig := { parameters := [.long, .int, (.array .byte)], returnType := some .int }, accessFlags := 8, code := some k17c0 }
def k17c1 : Code := { maxStack := 4, maxLocals := 6, code := jdk_35_method_15_code, exceptionTable := #[], attributes := #[] }
def k17m1 : Method := { name := "stringSize", desc := "(J)I", sig := { parameters := [.long], returnType := some .int }, accessFlags := 8, code := some k17c1 }
/-- java/lang/Long -/
def k17 : Class := { plain "java/lang/Long" (some 16) with
  accessFlags := 49
  interfaces := #[3, 5, 6]
  cf := some (fileOf pool17 1 #[.nestMembers #[235]] #[{ accessFlags := 8, nameIndex := 123, descriptorIndex := 124, attributes := #[] }, { accessFlags := 8, nameIndex := 120, descriptorIndex := 101, attributes := #[] }] 49 271 #[363, 365, 367] #[{ accessFlags := 25, nameIndex := 369, descriptorIndex := 276, attributes := #[] }, { accessFlags := 25, nameIndex := 371, descriptorIndex := 276, attributes := #[] }, { accessFlags := 25, nameIndex := 361, descriptorIndex := 362, attributes := #[] }, { accessFlags := 18, nameIndex := 275, descriptorIndex := 276, attributes := #[] }, { accessFlags := 25, nameIndex := 376, descriptorIndex := 377, attributes := #[] }, { accessFlags := 25, nameIndex := 379, descriptorIndex := 377, attributes := #[] }, { accessFlags := 26, nameIndex := 381, descriptorIndex := 276, attributes := #[] }])
  fields := #[{ name := "MIN_VALUE", type := .long, accessFlags := 25, slot := 0, constantValue := 0 }, { name := "MAX_VALUE", type := .long, accessFlags := 25, slot := 1, constantValue := 0 }, { name := "TYPE", type := (.object "java/lang/Class"), accessFlags := 25, slot := 2, constantValue := 0 }, { name := "value", type := .long, accessFlags := 18, slot := 0, constantValue := 0 }, { name := "SIZE", type := .int, accessFlags := 25, slot := 3, constantValue := 0 }, { name := "BYTES", type := .int, accessFlags := 25, slot := 4, constantValue := 0 }, { name := "serialVersionUID", type := .long, accessFlags := 26, slot := 5, constantValue := 0 }]
  methods := #[k17m0, k17m1]
  instanceTypes := #[.long]
  staticTypes := #[.long, .long, (.object "java/lang/Class"), .int, .int, .long]
  resolved := Array.replicate 524 none
  statics := none }

def pool18 : Array CpInfo := pool [(1, .class_ 2), (0, u "java/lang/Integer"), (16, u "digits"), (0, u "[C"), (64, u "DigitOnes"), (0, u "[B"), (2, u "DigitTens"), (99, .class_ 190), (0, u "java/lang/Integer$IntegerCache"), (3, u "I"), (8, .class_ 204), (0, u "java/lang/Number"), (2, u "value"), (94, u "TYPE"), (0, u "Ljava/lang/Class;"), (0, .class_ 305), (0, u "java/lang/Comparable"), (0, .class_ 307), (0, u "java/lang/constant/Constable"), (0, .class_ 309), (0, u "java/lang/constant/ConstantDesc"), (0, u "MIN_VALUE"), (1, u "MAX_VALUE"), (3, u "SIZE"), (1, u "BYTES"), (1, u "serialVersionUID"), (0, u "J")] 131

/-- java/lang/Integer -/
def k18 : Class := { plain "java/lang/Integer" (some 16) with
  accessFlags := 49
  interfaces := #[3, 5, 6]
  cf := some (fileOf pool18 1 #[.nestMembers #[189]] #[] 49 203 #[304, 306, 308] #[{ accessFlags := 25, nameIndex := 310, descriptorIndex := 194, attributes := #[] }, { accessFlags := 25, nameIndex := 312, descriptorIndex := 194, attributes := #[] }, { accessFlags := 25, nameIndex := 302, descriptorIndex := 303, attributes := #[] }, { accessFlags := 24, nameIndex := 19, descriptorIndex := 20, attributes := #[] }, { accessFlags := 24, nameIndex := 89, descriptorIndex := 86, attributes := #[] }, { accessFlags := 24, nameIndex := 85, descriptorIndex := 86, attributes := #[] }, { accessFlags := 18, nameIndex := 207, descriptorIndex := 194, attributes := #[] }, { accessFlags := 25, nameIndex := 316, descriptorIndex := 194, attributes := #[] }, { accessFlags := 25, nameIndex := 318, descriptorIndex := 194, attributes := #[] }, { accessFlags := 26, nameIndex := 320, descriptorIndex := 321, attributes := #[] }])
  fields := #[{ name := "MIN_VALUE", type := .int, accessFlags := 25, slot := 0, constantValue := 0 }, { name := "MAX_VALUE", type := .int, accessFlags := 25, slot := 1, constantValue := 0 }, { name := "TYPE", type := (.object "java/lang/Class"), accessFlags := 25, slot := 2, constantValue := 0 }, { name := "digits", type := (.array .char), accessFlags := 24, slot := 3, constantValue := 0 }, { name := "DigitTens", type := (.array .byte), accessFlags := 24, slot := 4, constantValue := 0 }, { name := "DigitOnes", type := (.array .byte), accessFlags := 24, slot := 5, constantValue := 0 }, { name := "value", type := .int, accessFlags := 18, slot := 0, constantValue := 0 }, { name := "SIZE", type := .int, accessFlags := 25, slot := 6, constantValue := 0 }, { name := "BYTES", type := .int, accessFlags := 25, slot := 7, constantValue := 0 }, { name := "serialVersionUID", type := .long, accessFlags := 26, slot := 8, constantValue := 0 }]
  methods := #[]
  instanceTypes := #[.int]
  staticTypes := #[.int, .int, (.object "java/lang/Class"), (.array .char), (.array .byte), (.array .byte), .int, .int, .long]
  resolved := Array.replicate 453 none
  statics := some 2 }

def pool19 : Array CpInfo := pool [(2, .class_ 4), (1, u "java/lang/Object"), (0, u "<init>"), (0, u "()V"), (7, .class_ 16), (1, u "java/util/Arrays"), (57, .class_ 76), (1, u "java/util/Arrays$NaturalOrder"), (32, u "()Ljava/lang/Object;"), (3, .class_ 115), (1, u "java/util/Arrays$LegacyMergeSort"), (1, u "Z"), (10, .nameAndType 129 109), (0, u "clone"), (9, u "copyOfRange"), (10, .methodref 151 152), (0, .class_ 153), (0, .nameAndType 154 155), (0, u "java/lang/System"), (0, u "arraycopy"), (0, u "(Ljava/lang/Object;ILjava/lang/Object;II)V"), (146, u "copyOf"), (1, .methodref 305 306), (0, .class_ 307), (0, .nameAndType 308 309), (0, u "java/lang/Math"), (0, u "min"), (0, u "(II)I"), (0, .methodref 311 128), (0, .class_ 312), (0, u "[B"), (26, .methodref 14 340), (0, .nameAndType 341 342), (0, u "copyOfRangeByte"), (0, u "([BII)[B"), (0, .methodref 14 344), (0, .nameAndType 345 346), (0, u "checkLength"), (0, u "(II)V"), (28, .class_ 376), (0, u "java/util/Arrays$ArrayList"), (68, u "$assertionsDisabled"), (269, u "MIN_ARRAY_SORT_GRAN"), (0, u "I"), (2, u "INSERTIONSORT_THRESHOLD"), (149, u "([BI)[B"), (105, .class_ 976), (0, u "java/util/Arrays$ArrayItr")] 52

def k19m0 : Method := { name := "<init>", desc := "()V", sig := { parameters := [], returnType := none }, accessFlags := 2, code := none }
def k19c1 : Code := { maxStack := 6, maxLocals := 3, code := jdk_65_method_121_code, exceptionTable := #[], attributes := #[] }
def k19m1 : Method := { name := "copyOf", desc := "([BI)[B", sig := { parameters := [(.array .byte), .int], returnType := some (.array .byte) }, accessFlags := 9, code := some k19c1 }
def k19c2 : Code := { maxStack := 4, maxLocals := 2, code := jdk_65_method_131_code, exceptionTable := #[], attributes := #[] }
def k19m2 : Method := { name := "checkLength", desc := "(II)V", sig := { parameters := [.int, .int], returnType := none }, accessFlags := 10, code := some k19c2 }
def k19c3 : Code := { maxStack := 3, maxLocals := 3, code := jdk_65_method_132_code, exceptionTable := #[], attributes := #[] }
def k19m3 : Method := { name := "copyOfRange", desc := "([BII)[B", sig := { parameters := [(.array .byte), .int, .int], returnType := some (.array .byte) }, accessFlags := 9, code := some k19c3 }
def k19c4 : Code := { maxStack := 6, maxLocals := 5, code := jdk_65_method_133_code, exceptionTable := #[], attributes := #[] }
def k19m4 : Method := { name := "copyOfRangeByte", desc := "([BII)[B", sig := { parameters := [(.array .byte), .int, .int], returnType := some (.array .byte) }, accessFlags := 10, code := some k19c4 }
/-- java/util/Arrays -/
def k19 : Class := { plain "java/util/Arrays" (some 0) with
  accessFlags := 49
  interfaces := #[]
  cf := some (fileOf pool19 14 #[.nestMembers #[975, 375, 113, 74]] #[{ accessFlags := 2, nameIndex := 5, descriptorIndex := 6, attributes := #[] }, { accessFlags := 9, nameIndex := 302, descriptorIndex := 869, attributes := #[] }, { accessFlags := 10, nameIndex := 345, descriptorIndex := 346, attributes := #[] }, { accessFlags := 9, nameIndex := 139, descriptorIndex := 342, attributes := #[] }, { accessFlags := 10, nameIndex := 341, descriptorIndex := 342, attributes := #[] }] 49 2 #[] #[{ accessFlags := 26, nameIndex := 715, descriptorIndex := 716, attributes := #[] }, { accessFlags := 26, nameIndex := 719, descriptorIndex := 716, attributes := #[] }, { accessFlags := 4120, nameIndex := 445, descriptorIndex := 117, attributes := #[] }])
  fields := #[{ name := "MIN_ARRAY_SORT_GRAN", type := .int, accessFlags := 26, slot := 0, constantValue := 0 }, { name := "INSERTIONSORT_THRESHOLD", type := .int, accessFlags := 26, slot := 1, constantValue := 0 }, { name := "$assertionsDisabled", type := .boolean, accessFlags := 4120, slot := 2, constantValue := 0 }]
  methods := #[k19m0, k19m1, k19m2, k19m3, k19m4]
  instanceTypes := #[]
  staticTypes := #[.int, .int, .boolean]
  resolved := Array.replicate 1029 none
  statics := none }

def pool20 : Array CpInfo := pool [(1, .class_ 2), (0, u "java/lang/Math"), (1, .class_ 6), (1, u "java/lang/Object"), (0, u "<init>"), (0, u "()V"), (89, .class_ 100), (1, u "java/lang/Math$RandomNumberGeneratorHolder"), (71, u "negativeZeroFloatBits"), (0, u "J"), (2, u "negativeZeroDoubleBits"), (21, u "max"), (2, u "min"), (43, u "$assertionsDisabled"), (0, u "Z"), (88, u "(II)I"), (2, u "twoToTheDoubleScaleDown"), (0, u "D"), (4, u "twoToTheDoubleScaleUp"), (9, u "E"), (3, u "PI"), (2, u "TAU"), (2, u "DEGREES_TO_RADIANS"), (0, u "RADIANS_TO_DEGREES")] 94

def k20m0 : Method := { name := "<init>", desc := "()V", sig := { parameters := [], returnType := none }, accessFlags := 2, code := none }
def k20c1 : Code := { maxStack := 2, maxLocals := 2, code := jdk_29_method_65_code, exceptionTable := #[], attributes := #[] }
def k20m1 : Method := { name := "max", desc := "(II)I", sig := { parameters := [.int, .int], returnType := some .int }, accessFlags := 9, code := some k20c1 }
def k20c2 : Code := { maxStack := 2, maxLocals := 2, code := jdk_29_method_69_code, exceptionTable := #[], attributes := #[] }
def k20m2 : Method := { name := "min", desc := "(II)I", sig := { parameters := [.int, .int], returnType := some .int }, accessFlags := 9, code := some k20c2 }
/-- java/lang/Math -/
def k20 : Class := { plain "java/lang/Math" (some 0) with
  accessFlags := 49
  interfaces := #[]
  cf := some (fileOf pool20 1 #[.nestMembers #[98]] #[{ accessFlags := 2, nameIndex := 7, descriptorIndex := 8, attributes := #[] }, { accessFlags := 9, nameIndex := 198, descriptorIndex := 335, attributes := #[] }, { accessFlags := 9, nameIndex := 201, descriptorIndex := 335, attributes := #[] }] 49 4 #[] #[{ accessFlags := 25, nameIndex := 354, descriptorIndex := 339, attributes := #[] }, { accessFlags := 25, nameIndex := 358, descriptorIndex := 339, attributes := #[] }, { accessFlags := 25, nameIndex := 361, descriptorIndex := 339, attributes := #[] }, { accessFlags := 26, nameIndex := 364, descriptorIndex := 339, attributes := #[] }, { accessFlags := 26, nameIndex := 365, descriptorIndex := 339, attributes := #[] }, { accessFlags := 26, nameIndex := 172, descriptorIndex := 173, attributes := #[] }, { accessFlags := 26, nameIndex := 176, descriptorIndex := 173, attributes := #[] }, { accessFlags := 8, nameIndex := 344, descriptorIndex := 339, attributes := #[] }, { accessFlags := 8, nameIndex := 338, descriptorIndex := 339, attributes := #[] }, { accessFlags := 4120, nameIndex := 245, descriptorIndex := 246, attributes := #[] }])
  fields := #[{ name := "E", type := .double, accessFlags := 25, slot := 0, constantValue := 0 }, { name := "PI", type := .double, accessFlags := 25, slot := 1, constantValue := 0 }, { name := "TAU", type := .double, accessFlags := 25, slot := 2, constantValue := 0 }, { name := "DEGREES_TO_RADIANS", type := .double, accessFlags := 26, slot := 3, constantValue := 0 }, { name := "RADIANS_TO_DEGREES", type := .double, accessFlags := 26, slot := 4, constantValue := 0 }, { name := "negativeZeroFloatBits", type := .long, accessFlags := 26, slot := 5, constantValue := 0 }, { name := "negativeZeroDoubleBits", type := .long, accessFlags := 26, slot := 6, constantValue := 0 }, { name := "twoToTheDoubleScaleUp", type := .double, accessFlags := 8, slot := 7, constantValue := 0 }, { name := "twoToTheDoubleScaleDown", type := .double, accessFlags := 8, slot := 8, constantValue := 0 }, { name := "$assertionsDisabled", type := .boolean, accessFlags := 4120, slot := 9, constantValue := 0 }]
  methods := #[k20m0, k20m1, k20m2]
  instanceTypes := #[]
  staticTypes := #[.double, .double, .double, .double, .double, .long, .long, .double, .double, .boolean]
  resolved := Array.replicate 460 none
  statics := none }

def pool21 : Array CpInfo := pool [(1, .class_ 2), (0, u "java/lang/String"), (1, .class_ 6), (1, u "java/lang/Object"), (0, u "<init>"), (0, u "()V"), (0, .methodref 1 10), (0, .nameAndType 11 12), (0, u "checkIndex"), (0, u "(II)V"), (1, .class_ 16), (1, u "java/lang/StringLatin1"), (36, u "([BI)C"), (36, u "canEncode"), (14, u "(C)Z"), (15, u "$assertionsDisabled"), (0, u "Z"), (98, .class_ 223), (1, u "java/lang/StringLatin1$LinesSpliterator"), (28, u "charAt"), (127, u "toBytes"), (1, u "(C)[B"), (7, .class_ 391), (0, u "java/lang/StringLatin1$CharsSpliterator")] 3

def k21m0 : Method := { name := "<init>", desc := "()V", sig := { parameters := [], returnType := none }, accessFlags := 0, code := none }
def k21c1 : Code := { maxStack := 2, maxLocals := 2, code := jdk_43_method_2_code, exceptionTable := #[], attributes := #[] }
def k21m1 : Method := { name := "charAt", desc := "([BI)C", sig := { parameters := [(.array .byte), .int], returnType := some .char }, accessFlags := 9, code := some k21c1 }
def k21c2 : Code := { maxStack := 2, maxLocals := 1, code := jdk_43_method_3_code, exceptionTable := #[], attributes := #[] }
def k21m2 : Method := { name := "canEncode", desc := "(C)Z", sig := { parameters := [.char], returnType := some .boolean }, accessFlags := 9, code := some k21c2 }
def k21c3 : Code := { maxStack := 4, maxLocals := 1, code := jdk_43_method_46_code, exceptionTable := #[], attributes := #[] }
def k21m3 : Method := { name := "toBytes", desc := "(C)[B", sig := { parameters := [.char], returnType := some (.array .byte) }, accessFlags := 9, code := some k21c3 }
/-- java/lang/StringLatin1 -/
def k21 : Class := { plain "java/lang/StringLatin1" (some 0) with
  accessFlags := 48
  interfaces := #[]
  cf := some (fileOf pool21 14 #[.nestMembers #[390, 221]] #[{ accessFlags := 0, nameIndex := 7, descriptorIndex := 8, attributes := #[] }, { accessFlags := 9, nameIndex := 252, descriptorIndex := 53, attributes := #[] }, { accessFlags := 9, nameIndex := 90, descriptorIndex := 105, attributes := #[] }, { accessFlags := 9, nameIndex := 380, descriptorIndex := 382, attributes := #[] }] 48 4 #[] #[{ accessFlags := 4120, nameIndex := 121, descriptorIndex := 122, attributes := #[] }])
  fields := #[{ name := "$assertionsDisabled", type := .boolean, accessFlags := 4120, slot := 0, constantValue := 0 }]
  methods := #[k21m0, k21m1, k21m2, k21m3]
  instanceTypes := #[]
  staticTypes := #[.boolean]
  resolved := Array.replicate 395 none
  statics := none }

def pool22 : Array CpInfo := pool [(2, .class_ 4), (1, u "java/lang/Object"), (0, u "<init>"), (0, u "()V"), (17, .class_ 26), (1, u "jdk/internal/util/Preconditions"), (6, u "checkIndex"), (21, .class_ 56), (0, u "jdk/internal/util/Preconditions$4"), (57, .class_ 115), (0, u "jdk/internal/util/Preconditions$1"), (7, u "SIOOBE_FORMATTER"), (0, u "Ljava/util/function/BiFunction;"), (0, .class_ 126), (0, u "jdk/internal/util/Preconditions$2"), (3, u "AIOOBE_FORMATTER"), (0, .class_ 132), (0, u "jdk/internal/util/Preconditions$3"), (3, u "IOOBE_FORMATTER"), (41, u "(IILjava/util/function/BiFunction;)I")] 15

def k22m0 : Method := { name := "<init>", desc := "()V", sig := { parameters := [], returnType := none }, accessFlags := 1, code := none }
def k22c1 : Code := { maxStack := 3, maxLocals := 3, code := jdk_41_method_11_code, exceptionTable := #[], attributes := #[] }
def k22m1 : Method := { name := "checkIndex", desc := "(IILjava/util/function/BiFunction;)I", sig := { parameters := [.int, .int, (.object "java/util/function/BiFunction")], returnType := some .int }, accessFlags := 9, code := some k22c1 }
/-- jdk/internal/util/Preconditions -/
def k22 : Class := { plain "jdk/internal/util/Preconditions" (some 0) with
  accessFlags := 33
  interfaces := #[]
  cf := some (fileOf pool22 24 #[.nestMembers #[55, 131, 125, 114]] #[{ accessFlags := 1, nameIndex := 5, descriptorIndex := 6, attributes := #[] }, { accessFlags := 9, nameIndex := 33, descriptorIndex := 178, attributes := #[] }] 33 2 #[] #[{ accessFlags := 25, nameIndex := 123, descriptorIndex := 124, attributes := #[] }, { accessFlags := 25, nameIndex := 130, descriptorIndex := 124, attributes := #[] }, { accessFlags := 25, nameIndex := 136, descriptorIndex := 124, attributes := #[] }])
  fields := #[{ name := "SIOOBE_FORMATTER", type := (.object "java/util/function/BiFunction"), accessFlags := 25, slot := 0, constantValue := 0 }, { name := "AIOOBE_FORMATTER", type := (.object "java/util/function/BiFunction"), accessFlags := 25, slot := 1, constantValue := 0 }, { name := "IOOBE_FORMATTER", type := (.object "java/util/function/BiFunction"), accessFlags := 25, slot := 2, constantValue := 0 }]
  methods := #[k22m0, k22m1]
  instanceTypes := #[]
  staticTypes := #[(.object "java/util/function/BiFunction"), (.object "java/util/function/BiFunction"), (.object "java/util/function/BiFunction")]
  resolved := Array.replicate 194 none
  statics := some 3 }

def pool23 : Array CpInfo := pool [(9, u "<init>"), (6, .class_ 18), (1, u "java/lang/Object"), (0, u "()V"), (1, .class_ 23), (1, u "jdk/internal/util/ArraysSupport"), (0, u "LOG2_ARRAY_LONG_INDEX_SCALE"), (0, u "I"), (2, u "U"), (0, u "Ljdk/internal/misc/Unsafe;"), (8, u "BIG_ENDIAN"), (0, u "Z"), (8, u "LOG2_BYTE_BIT_SIZE"), (4, u "LOG2_ARRAY_INT_INDEX_SCALE"), (54, u "JLA"), (0, u "Ljdk/internal/access/JavaLangAccess;"), (11, u "LOG2_ARRAY_BOOLEAN_INDEX_SCALE"), (9, u "LOG2_ARRAY_BYTE_INDEX_SCALE"), (5, u "LOG2_ARRAY_CHAR_INDEX_SCALE"), (5, u "LOG2_ARRAY_SHORT_INDEX_SCALE"), (18, u "LOG2_ARRAY_FLOAT_INDEX_SCALE"), (24, u "LOG2_ARRAY_DOUBLE_INDEX_SCALE"), (6, .methodref 195 196), (0, .class_ 197), (0, .nameAndType 198 199), (0, u "java/lang/Math"), (0, u "max"), (0, u "(II)I"), (0, .integer 2147483639), (76, u "T_BOOLEAN"), (2, u "T_CHAR"), (1, u "T_FLOAT"), (1, u "T_DOUBLE"), (1, u "T_BYTE"), (1, u "T_SHORT"), (1, u "T_INT"), (1, u "T_LONG"), (1, u "SOFT_MAX_ARRAY_LENGTH"), (56, u "newLength"), (0, u "(III)I")] 25

def k23m0 : Method := { name := "<init>", desc := "()V", sig := { parameters := [], returnType := none }, accessFlags := 2, code := none }
def k23c1 : Code := { maxStack := 3, maxLocals := 4, code := jdk_48_method_27_code, exceptionTable := #[], attributes := #[] }
def k23m1 : Method := { name := "newLength", desc := "(III)I", sig := { parameters := [.int, .int, .int], returnType := some .int }, accessFlags := 9, code := some k23c1 }
/-- jdk/internal/util/ArraysSupport -/
def k23 : Class := { plain "jdk/internal/util/ArraysSupport" (some 0) with
  accessFlags := 33
  interfaces := #[]
  cf := some (fileOf pool23 21 #[] #[{ accessFlags := 2, nameIndex := 9, descriptorIndex := 19, attributes := #[] }, { accessFlags := 9, nameIndex := 351, descriptorIndex := 352, attributes := #[] }] 33 16 #[] #[{ accessFlags := 24, nameIndex := 28, descriptorIndex := 29, attributes := #[] }, { accessFlags := 26, nameIndex := 38, descriptorIndex := 39, attributes := #[] }, { accessFlags := 25, nameIndex := 121, descriptorIndex := 25, attributes := #[] }, { accessFlags := 25, nameIndex := 131, descriptorIndex := 25, attributes := #[] }, { accessFlags := 25, nameIndex := 137, descriptorIndex := 25, attributes := #[] }, { accessFlags := 25, nameIndex := 143, descriptorIndex := 25, attributes := #[] }, { accessFlags := 25, nameIndex := 53, descriptorIndex := 25, attributes := #[] }, { accessFlags := 25, nameIndex := 24, descriptorIndex := 25, attributes := #[] }, { accessFlags := 25, nameIndex := 162, descriptorIndex := 25, attributes := #[] }, { accessFlags := 25, nameIndex := 187, descriptorIndex := 25, attributes := #[] }, { accessFlags := 26, nameIndex := 48, descriptorIndex := 25, attributes := #[] }, { accessFlags := 25, nameIndex := 277, descriptorIndex := 25, attributes := #[] }, { accessFlags := 25, nameIndex := 280, descriptorIndex := 25, attributes := #[] }, { accessFlags := 25, nameIndex := 282, descriptorIndex := 25, attributes := #[] }, { accessFlags := 25, nameIndex := 284, descriptorIndex := 25, attributes := #[] }, { accessFlags := 25, nameIndex := 286, descriptorIndex := 25, attributes := #[] }, { accessFlags := 25, nameIndex := 288, descriptorIndex := 25, attributes := #[] }, { accessFlags := 25, nameIndex := 290, descriptorIndex := 25, attributes := #[] }, { accessFlags := 25, nameIndex := 292, descriptorIndex := 25, attributes := #[] }, { accessFlags := 26, nameIndex := 108, descriptorIndex := 109, attributes := #[] }, { accessFlags := 25, nameIndex := 294, descriptorIndex := 25, attributes := #[] }])
  fields := #[{ name := "U", type := (.object "jdk/internal/misc/Unsafe"), accessFlags := 24, slot := 0, constantValue := 0 }, { name := "BIG_ENDIAN", type := .boolean, accessFlags := 26, slot := 1, constantValue := 0 }, { name := "LOG2_ARRAY_BOOLEAN_INDEX_SCALE", type := .int, accessFlags := 25, slot := 2, constantValue := 0 }, { name := "LOG2_ARRAY_BYTE_INDEX_SCALE", type := .int, accessFlags := 25, slot := 3, constantValue := 0 }, { name := "LOG2_ARRAY_CHAR_INDEX_SCALE", type := .int, accessFlags := 25, slot := 4, constantValue := 0 }, { name := "LOG2_ARRAY_SHORT_INDEX_SCALE", type := .int, accessFlags := 25, slot := 5, constantValue := 0 }, { name := "LOG2_ARRAY_INT_INDEX_SCALE", type := .int, accessFlags := 25, slot := 6, constantValue := 0 }, { name := "LOG2_ARRAY_LONG_INDEX_SCALE", type := .int, accessFlags := 25, slot := 7, constantValue := 0 }, { name := "LOG2_ARRAY_FLOAT_INDEX_SCALE", type := .int, accessFlags := 25, slot := 8, constantValue := 0 }, { name := "LOG2_ARRAY_DOUBLE_INDEX_SCALE", type := .int, accessFlags := 25, slot := 9, constantValue := 0 }, { name := "LOG2_BYTE_BIT_SIZE", type := .int, accessFlags := 26, slot := 10, constantValue := 0 }, { name := "T_BOOLEAN", type := .int, accessFlags := 25, slot := 11, constantValue := 0 }, { name := "T_CHAR", type := .int, accessFlags := 25, slot := 12, constantValue := 0 }, { name := "T_FLOAT", type := .int, accessFlags := 25, slot := 13, constantValue := 0 }, { name := "T_DOUBLE", type := .int, accessFlags := 25, slot := 14, constantValue := 0 }, { name := "T_BYTE", type := .int, accessFlags := 25, slot := 15, constantValue := 0 }, { name := "T_SHORT", type := .int, accessFlags := 25, slot := 16, constantValue := 0 }, { name := "T_INT", type := .int, accessFlags := 25, slot := 17, constantValue := 0 }, { name := "T_LONG", type := .int, accessFlags := 25, slot := 18, constantValue := 0 }, { name := "JLA", type := (.object "jdk/internal/access/JavaLangAccess"), accessFlags := 26, slot := 19, constantValue := 0 }, { name := "SOFT_MAX_ARRAY_LENGTH", type := .int, accessFlags := 25, slot := 20, constantValue := 0 }]
  methods := #[k23m0, k23m1]
  instanceTypes := #[]
  staticTypes := #[(.object "jdk/internal/misc/Unsafe"), .boolean, .int, .int, .int, .int, .int, .int, .int, .int, .int, .int, .int, .int, .int, .int, .int, .int, .int, (.object "jdk/internal/access/JavaLangAccess"), .int]
  resolved := Array.replicate 378 none
  statics := none }

def pool24 : Array CpInfo := pool [(6, .class_ 8), (1, u "java/lang/Object"), (0, u "<init>"), (0, u "()V"), (1, .class_ 14), (1, u "java/lang/StringUTF16"), (31, u "$assertionsDisabled"), (0, u "Z"), (13, u "HI_BYTE_SHIFT"), (0, u "I"), (2, u "LO_BYTE_SHIFT"), (49, .methodref 12 116), (0, .nameAndType 117 118), (0, u "compress"), (0, u "([CI[BII)I"), (3, u "([CII)[B"), (138, u "coderFromArrayLen"), (0, u "([BI)B"), (106, .class_ 371), (1, u "java/lang/StringUTF16$LinesSpliterator"), (58, u "MAX_LENGTH"), (196, .class_ 628), (0, u "java/lang/StringUTF16$CodePointsSpliterator"), (0, .class_ 630), (0, u "java/lang/StringUTF16$CharsSpliterator")] 4

def k24m0 : Method := { name := "<init>", desc := "()V", sig := { parameters := [], returnType := none }, accessFlags := 0, code := none }
def k24c1 : Code := { maxStack := 2, maxLocals := 2, code := jdk_52_method_15_code, exceptionTable := #[], attributes := #[] }
def k24m1 : Method := { name := "coderFromArrayLen", desc := "([BI)B", sig := { parameters := [(.array .byte), .int], returnType := some .byte }, accessFlags := 8, code := some k24c1 }
def k24c2 : Code := { maxStack := 5, maxLocals := 6, code := jdk_52_method_16_code, exceptionTable := #[], attributes := #[] }
def k24m2 : Method := { name := "compress", desc := "([CII)[B", sig := { parameters := [(.array .char), .int, .int], returnType := some (.array .byte) }, accessFlags := 9, code := some k24c2 }
def k24c3 : Code := { maxStack := 3, maxLocals := 7, code := jdk_52_method_21_code, exceptionTable := #[], attributes := #[] }
def k24m3 : Method := { name := "compress", desc := "([CI[BII)I", sig := { parameters := [(.array .char), .int, (.array .byte), .int, .int], returnType := some .int }, accessFlags := 9, code := some k24c3 }
/-- java/lang/StringUTF16 -/
def k24 : Class := { plain "java/lang/StringUTF16" (some 0) with
  accessFlags := 48
  interfaces := #[]
  cf := some (fileOf pool24 12 #[.nestMembers #[627, 629, 369]] #[{ accessFlags := 0, nameIndex := 9, descriptorIndex := 10, attributes := #[] }, { accessFlags := 8, nameIndex := 261, descriptorIndex := 262, attributes := #[] }, { accessFlags := 9, nameIndex := 117, descriptorIndex := 122, attributes := #[] }, { accessFlags := 9, nameIndex := 117, descriptorIndex := 118, attributes := #[] }] 48 6 #[] #[{ accessFlags := 26, nameIndex := 61, descriptorIndex := 62, attributes := #[] }, { accessFlags := 26, nameIndex := 65, descriptorIndex := 62, attributes := #[] }, { accessFlags := 24, nameIndex := 430, descriptorIndex := 62, attributes := #[] }, { accessFlags := 4120, nameIndex := 46, descriptorIndex := 47, attributes := #[] }])
  fields := #[{ name := "HI_BYTE_SHIFT", type := .int, accessFlags := 26, slot := 0, constantValue := 0 }, { name := "LO_BYTE_SHIFT", type := .int, accessFlags := 26, slot := 1, constantValue := 0 }, { name := "MAX_LENGTH", type := .int, accessFlags := 24, slot := 2, constantValue := 0 }, { name := "$assertionsDisabled", type := .boolean, accessFlags := 4120, slot := 3, constantValue := 0 }]
  methods := #[k24m0, k24m1, k24m2, k24m3]
  instanceTypes := #[]
  staticTypes := #[.int, .int, .int, .boolean]
  resolved := Array.replicate 635 none
  statics := none }

def pool25 : Array CpInfo := pool [(1, .class_ 2), (0, u "java/lang/Cloneable"), (0, .class_ 4), (0, u "java/lang/Object")] 2

/-- java/lang/Cloneable -/
def k25 : Class := { plain "java/lang/Cloneable" (some 0) with
  accessFlags := 1537
  interfaces := #[]
  cf := some (fileOf pool25 1 #[] #[] 1537 3 #[] #[])
  fields := #[]
  methods := #[]
  instanceTypes := #[]
  staticTypes := #[]
  resolved := Array.replicate 7 none
  statics := none }

def pool26 : Array CpInfo := pool [(2, .class_ 4), (1, u "java/lang/Object"), (0, u "<init>"), (0, u "()V"), (12, .class_ 20), (0, u "java/util/Collections"), (63, u "r"), (0, u "Ljava/util/Random;"), (80, .class_ 167), (0, u "java/util/Collections$UnmodifiableCollection"), (6, .class_ 175), (0, u "java/util/Collections$UnmodifiableSequencedCollection"), (6, .class_ 183), (0, u "java/util/Collections$UnmodifiableSet"), (6, .class_ 191), (0, u "java/util/Collections$UnmodifiableSequencedSet"), (6, .class_ 199), (0, u "java/util/Collections$UnmodifiableSortedSet"), (6, .class_ 207), (0, u "java/util/Collections$UnmodifiableNavigableSet"), (4, .class_ 213), (0, u "java/util/Collections$UnmodifiableList"), (1, .class_ 216), (0, u "java/util/Collections$UnmodifiableRandomAccessList"), (6, .class_ 224), (0, u "java/util/Collections$UnmodifiableMap"), (6, .class_ 232), (0, u "java/util/Collections$UnmodifiableSequencedMap"), (4, .class_ 238), (0, u "java/util/Collections$UnmodifiableSortedMap"), (6, .class_ 246), (0, u "java/util/Collections$UnmodifiableNavigableMap"), (3, .class_ 251), (0, u "java/util/Collections$SynchronizedCollection"), (4, .class_ 257), (0, u "java/util/Collections$SynchronizedSet"), (4, .class_ 263), (0, u "java/util/Collections$SynchronizedSortedSet"), (1, .class_ 266), (0, u "java/util/Collections$SynchronizedNavigableSet"), (1, .class_ 269), (0, u "java/util/Collections$SynchronizedRandomAccessList"), (1, .class_ 272), (0, u "java/util/Collections$SynchronizedList"), (5, .class_ 279), (0, u "java/util/Collections$SynchronizedMap"), (1, .class_ 282), (0, u "java/util/Collections$SynchronizedSortedMap"), (1, .class_ 285), (0, u "java/util/Collections$SynchronizedNavigableMap"), (1, .class_ 288), (0, u "java/util/Collections$CheckedCollection"), (11, .class_ 301), (0, u "java/util/Collections$CheckedQueue"), (3, .class_ 306), (0, u "java/util/Collections$CheckedSet"), (3, .class_ 311), (0, u "java/util/Collections$CheckedSortedSet"), (3, .class_ 316), (0, u "java/util/Collections$CheckedNavigableSet"), (3, .class_ 321), (0, u "java/util/Collections$CheckedRandomAccessList"), (3, .class_ 326), (0, u "java/util/Collections$CheckedList"), (1, .class_ 329), (0, u "java/util/Collections$CheckedMap"), (3, .class_ 334), (0, u "java/util/Collections$CheckedSortedMap"), (3, .class_ 339), (0, u "java/util/Collections$CheckedNavigableMap"), (4, .class_ 346), (1, u "java/util/Collections$EmptyIterator"), (3, .class_ 352), (1, u "java/util/Collections$EmptyListIterator"), (2, .class_ 357), (1, u "java/util/Collections$EmptyEnumeration"), (4, u "EMPTY_SET"), (0, u "Ljava/util/Set;"), (6, u "EMPTY_LIST"), (0, u "Ljava/util/List;"), (2, u "EMPTY_MAP"), (0, u "Ljava/util/Map;"), (4, .class_ 381), (0, u "java/util/Collections$SingletonSet"), (2, .class_ 385), (0, u "java/util/Collections$1"), (1, .class_ 388), (0, u "java/util/Collections$2"), (1, .class_ 391), (0, u "java/util/Collections$SingletonList"), (1, .class_ 394), (0, u "java/util/Collections$SingletonMap"), (22, .class_ 418), (0, u "java/util/Collections$CopiesList"), (4, .class_ 425), (1, u "java/util/Collections$ReverseComparator"), (8, .class_ 435), (0, u "java/util/Collections$ReverseComparator2"), (6, .class_ 443), (0, u "java/util/Collections$3"), (25, .class_ 470), (0, u "java/util/Collections$SetFromMap"), (2, .class_ 474), (0, u "java/util/Collections$SequencedSetFromMap"), (3, .class_ 479), (0, u "java/util/Collections$AsLIFOQueue"), (11, .class_ 492), (0, u "java/util/Collections$EmptySet"), (1, .class_ 495), (0, u "java/util/Collections$EmptyList"), (1, .class_ 498), (0, u "java/util/Collections$EmptyMap"), (1, u "BINARYSEARCH_THRESHOLD"), (0, u "I"), (2, u "REVERSE_THRESHOLD"), (1, u "SHUFFLE_THRESHOLD"), (1, u "FILL_THRESHOLD"), (1, u "ROTATE_THRESHOLD"), (1, u "COPY_THRESHOLD"), (1, u "REPLACEALL_THRESHOLD"), (1, u "INDEXOFSUBLIST_THRESHOLD"), (333, .class_ 851), (0, u "java/util/Collections$CheckedMap$CheckedEntrySet"), (0, .class_ 853), (0, u "java/util/Collections$CheckedMap$CheckedEntrySet$CheckedEntry"), (0, .class_ 855), (0, u "java/util/Collections$CheckedMap$CheckedEntrySet$1"), (0, .class_ 857), (0, u "java/util/Collections$CheckedList$1"), (0, .class_ 859), (0, u "java/util/Collections$CheckedCollection$1"), (0, .class_ 861), (0, u "java/util/Collections$UnmodifiableNavigableMap$EmptyNavigableMap"), (0, .class_ 863), (0, u "java/util/Collections$UnmodifiableMap$UnmodifiableEntrySet"), (0, .class_ 865), (0, u "java/util/Collections$UnmodifiableMap$UnmodifiableEntrySet$UnmodifiableEntry"), (0, .class_ 867), (0, u "java/util/Collections$UnmodifiableMap$UnmodifiableEntrySet$UnmodifiableEntrySetSpliterator"), (0, .class_ 869), (0, u "java/util/Collections$UnmodifiableMap$UnmodifiableEntrySet$1"), (0, .class_ 871), (0, u "java/util/Collections$UnmodifiableList$1"), (0, .class_ 873), (0, u "java/util/Collections$UnmodifiableNavigableSet$EmptyNavigableSet"), (0, .class_ 875), (0, u "java/util/Collections$UnmodifiableCollection$1")] 57

def k26m0 : Method := { name := "<init>", desc := "()V", sig := { parameters := [], returnType := none }, accessFlags := 2, code := none }
/-- java/util/Collections -/
def k26 : Class := { plain "java/util/Collections" (some 0) with
  accessFlags := 33
  interfaces := #[]
  cf := some (fileOf pool26 19 #[.nestMembers #[478, 473, 469, 434, 423, 417, 393, 390, 380, 497, 494, 491, 355, 350, 344, 338, 333, 328, 850, 852, 854, 320, 325, 856, 315, 310, 305, 300, 287, 858, 284, 281, 278, 268, 271, 265, 262, 256, 250, 245, 860, 237, 231, 223, 862, 864, 866, 868, 215, 212, 870, 206, 872, 198, 190, 182, 174, 166, 874, 442, 387, 384]] #[{ accessFlags := 2, nameIndex := 5, descriptorIndex := 6, attributes := #[] }] 33 2 #[] #[{ accessFlags := 26, nameIndex := 500, descriptorIndex := 501, attributes := #[] }, { accessFlags := 26, nameIndex := 504, descriptorIndex := 501, attributes := #[] }, { accessFlags := 26, nameIndex := 506, descriptorIndex := 501, attributes := #[] }, { accessFlags := 26, nameIndex := 508, descriptorIndex := 501, attributes := #[] }, { accessFlags := 26, nameIndex := 510, descriptorIndex := 501, attributes := #[] }, { accessFlags := 26, nameIndex := 512, descriptorIndex := 501, attributes := #[] }, { accessFlags := 26, nameIndex := 514, descriptorIndex := 501, attributes := #[] }, { accessFlags := 26, nameIndex := 516, descriptorIndex := 501, attributes := #[] }, { accessFlags := 10, nameIndex := 84, descriptorIndex := 85, attributes := #[] }, { accessFlags := 25, nameIndex := 362, descriptorIndex := 363, attributes := #[] }, { accessFlags := 25, nameIndex := 370, descriptorIndex := 371, attributes := #[] }, { accessFlags := 25, nameIndex := 374, descriptorIndex := 375, attributes := #[] }])
  fields := #[{ name := "BINARYSEARCH_THRESHOLD", type := .int, accessFlags := 26, slot := 0, constantValue := 0 }, { name := "REVERSE_THRESHOLD", type := .int, accessFlags := 26, slot := 1, constantValue := 0 }, { name := "SHUFFLE_THRESHOLD", type := .int, accessFlags := 26, slot := 2, constantValue := 0 }, { name := "FILL_THRESHOLD", type := .int, accessFlags := 26, slot := 3, constantValue := 0 }, { name := "ROTATE_THRESHOLD", type := .int, accessFlags := 26, slot := 4, constantValue := 0 }, { name := "COPY_THRESHOLD", type := .int, accessFlags := 26, slot := 5, constantValue := 0 }, { name := "REPLACEALL_THRESHOLD", type := .int, accessFlags := 26, slot := 6, constantValue := 0 }, { name := "INDEXOFSUBLIST_THRESHOLD", type := .int, accessFlags := 26, slot := 7, constantValue := 0 }, { name := "r", type := (.object "java/util/Random"), accessFlags := 10, slot := 8, constantValue := 0 }, { name := "EMPTY_SET", type := (.object "java/util/Set"), accessFlags := 25, slot := 9, constantValue := 0 }, { name := "EMPTY_LIST", type := (.object "java/util/List"), accessFlags := 25, slot := 10, constantValue := 0 }, { name := "EMPTY_MAP", type := (.object "java/util/Map"), accessFlags := 25, slot := 11, constantValue := 0 }]
  methods := #[k26m0]
  instanceTypes := #[]
  staticTypes := #[.int, .int, .int, .int, .int, .int, .int, .int, (.object "java/util/Random"), (.object "java/util/Set"), (.object "java/util/List"), (.object "java/util/Map")]
  resolved := Array.replicate 933 none
  statics := some 4 }

def pool27 : Array CpInfo := pool [(8, .class_ 10), (1, u "java/lang/Iterable"), (24, .class_ 36), (0, u "java/lang/Object")] 25

/-- java/lang/Iterable -/
def k27 : Class := { plain "java/lang/Iterable" (some 0) with
  accessFlags := 1537
  interfaces := #[]
  cf := some (fileOf pool27 8 #[] #[] 1537 35 #[] #[])
  fields := #[]
  methods := #[]
  instanceTypes := #[]
  staticTypes := #[]
  resolved := Array.replicate 62 none
  statics := none }

def pool28 : Array CpInfo := pool [(10, .class_ 12), (1, u "java/util/Collection"), (47, .class_ 61), (0, u "java/lang/Object"), (0, .class_ 63), (0, u "java/lang/Iterable")] 51

/-- java/util/Collection -/
def k28 : Class := { plain "java/util/Collection" (some 0) with
  accessFlags := 1537
  interfaces := #[27]
  cf := some (fileOf pool28 10 #[] #[] 1537 60 #[62] #[])
  fields := #[]
  methods := #[]
  instanceTypes := #[]
  staticTypes := #[]
  resolved := Array.replicate 115 none
  statics := none }

def pool29 : Array CpInfo := pool [(2, .class_ 4), (1, u "java/lang/Object"), (0, u "<init>"), (0, u "()V"), (1, .class_ 10), (1, u "java/util/AbstractCollection"), (66, .class_ 78), (0, u "java/util/Collection")] 81

def k29m0 : Method := { name := "<init>", desc := "()V", sig := { parameters := [], returnType := none }, accessFlags := 4, code := none }
/-- java/util/AbstractCollection -/
def k29 : Class := { plain "java/util/AbstractCollection" (some 0) with
  accessFlags := 1057
  interfaces := #[28]
  cf := some (fileOf pool29 8 #[] #[{ accessFlags := 4, nameIndex := 5, descriptorIndex := 6, attributes := #[] }] 1057 2 #[77] #[])
  fields := #[]
  methods := #[k29m0]
  instanceTypes := #[]
  staticTypes := #[]
  resolved := Array.replicate 160 none
  statics := none }

def pool30 : Array CpInfo := pool [(8, .class_ 10), (1, u "java/util/SequencedCollection"), (15, .class_ 27), (0, u "java/lang/Object"), (0, .class_ 29), (0, u "java/util/Collection")] 27

/-- java/util/SequencedCollection -/
def k30 : Class := { plain "java/util/SequencedCollection" (some 0) with
  accessFlags := 1537
  interfaces := #[28]
  cf := some (fileOf pool30 8 #[] #[] 1537 26 #[28] #[])
  fields := #[]
  methods := #[]
  instanceTypes := #[]
  staticTypes := #[]
  resolved := Array.replicate 57 none
  statics := none }

def pool31 : Array CpInfo := pool [(8, .class_ 10), (1, u "java/util/List"), (92, .class_ 104), (0, u "java/lang/Object"), (15, .class_ 121), (0, u "java/util/SequencedCollection")] 129

/-- java/util/List -/
def k31 : Class := { plain "java/util/List" (some 0) with
  accessFlags := 1537
  interfaces := #[30]
  cf := some (fileOf pool31 8 #[] #[] 1537 103 #[120] #[])
  fields := #[]
  methods := #[]
  instanceTypes := #[]
  staticTypes := #[]
  resolved := Array.replicate 251 none
  statics := none }

def pool32 : Array CpInfo := pool [(2, .class_ 4), (1, u "java/util/AbstractCollection"), (0, u "<init>"), (0, u "()V"), (1, .class_ 10), (1, u "java/util/AbstractList"), (0, u "modCount"), (0, u "I"), (64, .class_ 78), (0, u "java/util/AbstractList$Itr"), (3, .class_ 83), (0, u "java/util/AbstractList$ListItr"), (9, .class_ 94), (0, u "java/util/AbstractList$RandomAccessSubList"), (3, .class_ 99), (0, u "java/util/AbstractList$SubList"), (33, .class_ 134), (0, u "java/util/List"), (73, .class_ 209), (0, u "java/util/AbstractList$SubList$1"), (0, .class_ 211), (0, u "java/util/AbstractList$RandomAccessSpliterator")] 6

def k32m0 : Method := { name := "<init>", desc := "()V", sig := { parameters := [], returnType := none }, accessFlags := 4, code := none }
/-- java/util/AbstractList -/
def k32 : Class := { plain "java/util/AbstractList" (some 29) with
  accessFlags := 1057
  interfaces := #[31]
  cf := some (fileOf pool32 8 #[.nestMembers #[93, 98, 208, 210, 82, 77]] #[{ accessFlags := 4, nameIndex := 5, descriptorIndex := 6, attributes := #[] }] 1057 2 #[133] #[{ accessFlags := 132, nameIndex := 11, descriptorIndex := 12, attributes := #[] }])
  fields := #[{ name := "modCount", type := .int, accessFlags := 132, slot := 0, constantValue := 0 }]
  methods := #[k32m0]
  instanceTypes := #[.int]
  staticTypes := #[]
  resolved := Array.replicate 218 none
  statics := none }

def pool33 : Array CpInfo := pool [(1, .class_ 2), (0, u "java/util/RandomAccess"), (0, .class_ 4), (0, u "java/lang/Object")] 2

/-- java/util/RandomAccess -/
def k33 : Class := { plain "java/util/RandomAccess" (some 0) with
  accessFlags := 1537
  interfaces := #[]
  cf := some (fileOf pool33 1 #[] #[] 1537 3 #[] #[])
  fields := #[]
  methods := #[]
  instanceTypes := #[]
  staticTypes := #[]
  resolved := Array.replicate 7 none
  statics := none }

def pool34 : Array CpInfo := pool [(2, .class_ 4), (1, u "java/util/AbstractList"), (0, u "<init>"), (0, u "()V"), (1, .class_ 10), (1, u "java/util/Collections"), (54, .class_ 66), (0, u "java/util/Collections$EmptyList"), (0, .class_ 68), (0, u "java/util/RandomAccess"), (0, .class_ 70), (0, u "java/io/Serializable"), (0, u "serialVersionUID"), (0, u "J")] 77

def k34m0 : Method := { name := "<init>", desc := "()V", sig := { parameters := [], returnType := none }, accessFlags := 2, code := none }
/-- java/util/Collections$EmptyList -/
def k34 : Class := { plain "java/util/Collections$EmptyList" (some 32) with
  accessFlags := 32
  interfaces := #[33, 2]
  cf := some (fileOf pool34 65 #[.nestHost 8] #[{ accessFlags := 2, nameIndex := 5, descriptorIndex := 6, attributes := #[] }] 32 2 #[67, 69] #[{ accessFlags := 26, nameIndex := 71, descriptorIndex := 72, attributes := #[] }])
  fields := #[{ name := "serialVersionUID", type := .long, accessFlags := 26, slot := 0, constantValue := 0 }]
  methods := #[k34m0]
  instanceTypes := #[.int]
  staticTypes := #[.long]
  resolved := Array.replicate 150 none
  statics := none }

def pool35 : Array CpInfo := pool [(2, .class_ 4), (1, u "java/lang/StackTraceElement"), (0, u "<init>"), (2, .class_ 10), (1, u "java/lang/Object"), (0, u "()V"), (2, u "format"), (0, u "B"), (2, u "classLoaderName"), (0, u "Ljava/lang/String;"), (2, u "moduleName"), (2, u "moduleVersion"), (12, u "declaringClass"), (4, u "methodName"), (2, u "fileName"), (2, u "lineNumber"), (0, u "I"), (65, u "declaringClassObject"), (0, u "Ljava/lang/Class;"), (33, .class_ 153), (1, u "java/lang/StackTraceElement$HashedModules"), (17, .class_ 172), (0, u "java/io/Serializable"), (0, u "NATIVE_METHOD"), (1, u "UNKNOWN_SOURCE"), (2, u "BUILTIN_CLASS_LOADER"), (1, u "JDK_NON_UPGRADEABLE_MODULE"), (1, u "serialVersionUID"), (0, u "J")] 51

def k35m0 : Method := { name := "<init>", desc := "()V", sig := { parameters := [], returnType := none }, accessFlags := 2, code := none }
/-- java/lang/StackTraceElement -/
def k35 : Class := { plain "java/lang/StackTraceElement" (some 0) with
  accessFlags := 49
  interfaces := #[2]
  cf := some (fileOf pool35 2 #[.nestMembers #[151]] #[{ accessFlags := 2, nameIndex := 5, descriptorIndex := 11, attributes := #[] }] 49 8 #[171] #[{ accessFlags := 26, nameIndex := 173, descriptorIndex := 19, attributes := #[] }, { accessFlags := 26, nameIndex := 175, descriptorIndex := 19, attributes := #[] }, { accessFlags := 130, nameIndex := 116, descriptorIndex := 117, attributes := #[] }, { accessFlags := 2, nameIndex := 18, descriptorIndex := 19, attributes := #[] }, { accessFlags := 2, nameIndex := 22, descriptorIndex := 19, attributes := #[] }, { accessFlags := 2, nameIndex := 25, descriptorIndex := 19, attributes := #[] }, { accessFlags := 2, nameIndex := 38, descriptorIndex := 19, attributes := #[] }, { accessFlags := 2, nameIndex := 43, descriptorIndex := 19, attributes := #[] }, { accessFlags := 2, nameIndex := 46, descriptorIndex := 19, attributes := #[] }, { accessFlags := 2, nameIndex := 49, descriptorIndex := 50, attributes := #[] }, { accessFlags := 2, nameIndex := 14, descriptorIndex := 15, attributes := #[] }, { accessFlags := 26, nameIndex := 178, descriptorIndex := 15, attributes := #[] }, { accessFlags := 26, nameIndex := 180, descriptorIndex := 15, attributes := #[] }, { accessFlags := 26, nameIndex := 182, descriptorIndex := 183, attributes := #[] }])
  fields := #[{ name := "NATIVE_METHOD", type := (.object "java/lang/String"), accessFlags := 26, slot := 0, constantValue := 0 }, { name := "UNKNOWN_SOURCE", type := (.object "java/lang/String"), accessFlags := 26, slot := 1, constantValue := 0 }, { name := "declaringClassObject", type := (.object "java/lang/Class"), accessFlags := 130, slot := 0, constantValue := 0 }, { name := "classLoaderName", type := (.object "java/lang/String"), accessFlags := 2, slot := 1, constantValue := 0 }, { name := "moduleName", type := (.object "java/lang/String"), accessFlags := 2, slot := 2, constantValue := 0 }, { name := "moduleVersion", type := (.object "java/lang/String"), accessFlags := 2, slot := 3, constantValue := 0 }, { name := "declaringClass", type := (.object "java/lang/String"), accessFlags := 2, slot := 4, constantValue := 0 }, { name := "methodName", type := (.object "java/lang/String"), accessFlags := 2, slot := 5, constantValue := 0 }, { name := "fileName", type := (.object "java/lang/String"), accessFlags := 2, slot := 6, constantValue := 0 }, { name := "lineNumber", type := .int, accessFlags := 2, slot := 7, constantValue := 0 }, { name := "format", type := .byte, accessFlags := 2, slot := 8, constantValue := 0 }, { name := "BUILTIN_CLASS_LOADER", type := .byte, accessFlags := 26, slot := 2, constantValue := 0 }, { name := "JDK_NON_UPGRADEABLE_MODULE", type := .byte, accessFlags := 26, slot := 3, constantValue := 0 }, { name := "serialVersionUID", type := .long, accessFlags := 26, slot := 4, constantValue := 0 }]
  methods := #[k35m0]
  instanceTypes := #[(.object "java/lang/Class"), (.object "java/lang/String"), (.object "java/lang/String"), (.object "java/lang/String"), (.object "java/lang/String"), (.object "java/lang/String"), (.object "java/lang/String"), .int, .byte]
  staticTypes := #[(.object "java/lang/String"), (.object "java/lang/String"), .byte, .byte, .long]
  resolved := Array.replicate 235 none
  statics := none }

/-- the primitive byte -/
def k36 : Class := { plain "byte" none with kind := .primitive 'B', accessFlags := 0x411 }
/-- [B -/
def k37 : Class := { plain "[B" (some 0) with kind := .array 36 .byte, interfaces := #[25, 2], accessFlags := 1041 }

/-- the primitive char -/
def k38 : Class := { plain "char" none with kind := .primitive 'C', accessFlags := 0x411 }
/-- [C -/
def k39 : Class := { plain "[C" (some 0) with kind := .array 38 .char, interfaces := #[25, 2], accessFlags := 1041 }

/-- the primitive int -/
def k40 : Class := { plain "int" none with kind := .primitive 'I', accessFlags := 0x411 }
/-- [I -/
def k41 : Class := { plain "[I" (some 0) with kind := .array 40 .int, interfaces := #[25, 2], accessFlags := 1041 }

/-- the primitive long -/
def k42 : Class := { plain "long" none with kind := .primitive 'J', accessFlags := 0x411 }
/-- [J -/
def k43 : Class := { plain "[J" (some 0) with kind := .array 42 .long, interfaces := #[25, 2], accessFlags := 1041 }

/-- [Ljava/lang/Object; -/
def k44 : Class := { plain "[Ljava/lang/Object;" (some 0) with kind := .array 0 (.object "java/lang/Object"), interfaces := #[25, 2], accessFlags := 1041 }

/-- [Ljava/lang/StackTraceElement; -/
def k45 : Class := { plain "[Ljava/lang/StackTraceElement;" (some 0) with kind := .array 35 (.object "java/lang/StackTraceElement"), interfaces := #[25, 2], accessFlags := 1041 }

/-- [Ljava/lang/Throwable; -/
def k46 : Class := { plain "[Ljava/lang/Throwable;" (some 0) with kind := .array 8 (.object "java/lang/Throwable"), interfaces := #[25, 2], accessFlags := 1041 }

def heap : Heap := #[{ cls := 7, slots := #[.long 0, .int 1, .null, .int 0, .null, .int 0, .int 0], vm := .statics 7 },
  { cls := 8, slots := #[.long 0, .ref 7, .ref 8, .null, .null, .null, .null, .ref 9, .int 1], vm := .statics 8 },
  { cls := 18, slots := #[.int 0, .int 0, .null, .null, .ref 6, .ref 5, .int 0, .int 0, .long 0], vm := .statics 18 },
  { cls := 22, slots := #[.null, .null, .null], vm := .statics 22 },
  { cls := 26, slots := #[.int 0, .int 0, .int 0, .int 0, .int 0, .int 0, .int 0, .int 0, .null, .null, .ref 8, .null], vm := .statics 26 },
  { cls := 37, slots := #[.int 48, .int 49, .int 50, .int 51, .int 52, .int 53, .int 54, .int 55, .int 56, .int 57, .int 48, .int 49, .int 50, .int 51, .int 52, .int 53, .int 54, .int 55, .int 56, .int 57, .int 48, .int 49, .int 50, .int 51, .int 52, .int 53, .int 54, .int 55, .int 56, .int 57, .int 48, .int 49, .int 50, .int 51, .int 52, .int 53, .int 54, .int 55, .int 56, .int 57, .int 48, .int 49, .int 50, .int 51, .int 52, .int 53, .int 54, .int 55, .int 56, .int 57, .int 48, .int 49, .int 50, .int 51, .int 52, .int 53, .int 54, .int 55, .int 56, .int 57, .int 48, .int 49, .int 50, .int 51, .int 52, .int 53, .int 54, .int 55, .int 56, .int 57, .int 48, .int 49, .int 50, .int 51, .int 52, .int 53, .int 54, .int 55, .int 56, .int 57, .int 48, .int 49, .int 50, .int 51, .int 52, .int 53, .int 54, .int 55, .int 56, .int 57, .int 48, .int 49, .int 50, .int 51, .int 52, .int 53, .int 54, .int 55, .int 56, .int 57], vm := .none },
  { cls := 37, slots := #[.int 48, .int 48, .int 48, .int 48, .int 48, .int 48, .int 48, .int 48, .int 48, .int 48, .int 49, .int 49, .int 49, .int 49, .int 49, .int 49, .int 49, .int 49, .int 49, .int 49, .int 50, .int 50, .int 50, .int 50, .int 50, .int 50, .int 50, .int 50, .int 50, .int 50, .int 51, .int 51, .int 51, .int 51, .int 51, .int 51, .int 51, .int 51, .int 51, .int 51, .int 52, .int 52, .int 52, .int 52, .int 52, .int 52, .int 52, .int 52, .int 52, .int 52, .int 53, .int 53, .int 53, .int 53, .int 53, .int 53, .int 53, .int 53, .int 53, .int 53, .int 54, .int 54, .int 54, .int 54, .int 54, .int 54, .int 54, .int 54, .int 54, .int 54, .int 55, .int 55, .int 55, .int 55, .int 55, .int 55, .int 55, .int 55, .int 55, .int 55, .int 56, .int 56, .int 56, .int 56, .int 56, .int 56, .int 56, .int 56, .int 56, .int 56, .int 57, .int 57, .int 57, .int 57, .int 57, .int 57, .int 57, .int 57, .int 57, .int 57], vm := .none },
  { cls := 45, slots := #[], vm := .none },
  { cls := 34, slots := #[.int 0], vm := .none },
  { cls := 46, slots := #[], vm := .none }]
def classes : Array Class := #[k0, k1, k2, k3, k4, k5, k6, k7, k8, k9, k10, k11, k12, k13, k14, k15, k16, k17, k18, k19, k20, k21, k22, k23, k24, k25, k26, k27, k28, k29, k30, k31, k32, k33, k34, k35, k36, k37, k38, k39, k40, k41, k42, k43, k44, k45, k46]
def interned : List (Array UInt16 × Addr) := []
def slotsUsed : Nat := 241
def theMethod : MethodId := ⟨1, 2⟩
def args0 : Array Value := #[.int 1, .long 7, .int 2, .int 3]
def aboutOver (below : List Frame) : State where
  vm := { classes := classes, interned := interned.toArray }
  heap := heap
  slotsUsed := slotsUsed
  threads := #[{ frames := .invoking theMethod args0 :: below }]
def below0 : List Frame := [.native { method := ⟨0, 0⟩, args := #[] }]
def about1 : State := aboutOver below0
def p0 : Program := .bare "" "" ""
def e0 : Env := launch0.env 0 0 0
theorem w_frames : about1.frames = Frame.invoking theMethod args0 :: below0 := rfl
set_option maxRecDepth 65536 in
theorem w_args : argsFit about1.vm theMethod args0 = true := by decide +kernel
set_option maxRecDepth 65536 in
theorem w_heap : heapFits about1 = true := by decide +kernel
set_option maxRecDepth 65536 in
theorem w_runnable : about1.curStatus? = some .runnable := by decide +kernel
set_option maxRecDepth 65536 in
theorem w_alone : about1.alone = true := by decide +kernel
set_option maxRecDepth 65536 in
theorem w_named : about1.methodNamed? x = some theMethod := by decide +kernel
set_option maxRecDepth 65536 in
theorem w_hears : about1.hears theMethod below0 = true := by decide +kernel
set_option maxRecDepth 65536 in
theorem w_ripe : about1.ripe theMethod args0 below0 = true := by decide +kernel
theorem w_running : about1.status = .running := rfl
set_option maxRecDepth 65536 in
theorem w_room : about1.hasRoom e0.platform room_1 = true :=
  launch0.hasRoom_least _ room_1 (by decide +kernel) (by decide +kernel) (by decide +kernel) (by decide +kernel) (by decide +kernel) (by decide +kernel)
theorem allAtoms_all (ts : List Jvm.Cond) (a : Array Jvm.Value) (st : Jvm.State) : (allAtoms ts).before a st = ts.all (fun c => c.before a st) := by
  induction ts with
  | nil => rfl
  | cons c t ih =>
    show (Jvm.Cond.and c (allAtoms t)).before a st = _
    rw [Jvm.Cond.before_and, ih, List.all_cons]
def words1 : List Jvm.Cond := Jvm.Cond.code x code maxLocals ret :: tables_1
/-- a 'code' word, met by the world's own term for the bytes: nothing is compared byte by byte -/
theorem code_word {y : MethodName} {bytes : ByteArray} {mx : Nat} {rt : Option FieldType} {a : Array Value} {s : State} {m : MethodId} {meth : Method} {c : Code} (h1 : s.methodNamed? y = some m) (h2 : s.vm.method? m = some meth) (h3 : meth.code = some c) (h4 : c.code = bytes)
    (h5 : (c.maxLocals == mx && c.exceptionTable.isEmpty && decide (c.maxStack ≤ mostOperands) && decide (meth.sig.returnType = rt) && !meth.locks && decide (parseMethodDescriptor y.desc = some meth.sig)) = true) : (Jvm.Cond.code y bytes mx rt).before a s = true := by
  simp only [Bool.and_eq_true, beq_iff_eq, Bool.not_eq_true', decide_eq_true_eq] at h5
  obtain ⟨⟨⟨⟨⟨g1, g2⟩, g3⟩, g4⟩, g5⟩, g6⟩ := h5
  simp [Cond.before, Cond.holds, Cond.value, h1, h2, h3, h4, g1, g2, g3, g4, g5, g6]
def isCode : Jvm.Cond → Bool
  | .code _ _ _ _ => true
  | _ => false
theorem all_split {L : List Jvm.Cond} {P : Jvm.Cond → Bool} (h1 : L.all (fun c => isCode c || P c) = true) (h2 : ∀ c ∈ L.filter isCode, P c = true) : L.all P = true := by
  refine List.all_eq_true.mpr fun c hc => ?_
  have h := List.all_eq_true.mp h1 c hc
  rcases Bool.eq_false_or_eq_true (isCode c) with hi | hi
  · exact h2 c (List.mem_filter.mpr ⟨hc, hi⟩)
  · simpa [hi] using h
set_option maxRecDepth 65536 in
theorem w_c0 : (Jvm.Cond.code x code maxLocals ret).before args0 about1 = true := code_word (m := ⟨1, 2⟩) (meth := k1m2) (c := k1c2) (by decide +kernel) rfl rfl rfl (by decide +kernel)
set_option maxRecDepth 65536 in
theorem w_c1 : (Jvm.Cond.code ({ cls := "com/example/fianza/fianza/InputExceptionAtPinLaw", name := "make", desc := "(ICC)Ljava/lang/String;" } : Jvm.MethodName) method_2_code (3 : Nat) (Option.some (Jvm.ClassFile.FieldType.object "java/lang/String"))).before args0 about1 = true := code_word (m := ⟨1, 1⟩) (meth := k1m1) (c := k1c1) (by decide +kernel) rfl rfl rfl (by decide +kernel)
set_option maxRecDepth 65536 in
theorem w_c2 : (Jvm.Cond.code ({ cls := "java/lang/String", name := "<init>", desc := "([C)V" } : Jvm.MethodName) jdk_42_method_3_code (2 : Nat) (Option.none : Option Jvm.ClassFile.FieldType)).before args0 about1 = true := code_word (m := ⟨7, 1⟩) (meth := k7m1) (c := k7c1) (by decide +kernel) rfl rfl rfl (by decide +kernel)
set_option maxRecDepth 65536 in
theorem w_c3 : (Jvm.Cond.code ({ cls := "java/lang/String", name := "<init>", desc := "([CIILjava/lang/Void;)V" } : Jvm.MethodName) jdk_42_method_149_code (6 : Nat) (Option.none : Option Jvm.ClassFile.FieldType)).before args0 about1 = true := code_word (m := ⟨7, 7⟩) (meth := k7m7) (c := k7c7) (by decide +kernel) rfl rfl rfl (by decide +kernel)
set_option maxRecDepth 65536 in
theorem w_c4 : (Jvm.Cond.code ({ cls := "java/lang/Object", name := "<init>", desc := "()V" } : Jvm.MethodName) object_method_1_code (1 : Nat) (Option.none : Option Jvm.ClassFile.FieldType)).before args0 about1 = true := code_word (m := ⟨0, 0⟩) (meth := k0m0) (c := k0c0) (by decide +kernel) rfl rfl rfl (by decide +kernel)
set_option maxRecDepth 65536 in
theorem w_c5 : (Jvm.Cond.code ({ cls := "com/example/fianza/fianza/InputException", name := "at", desc := "(Ljava/lang/String;JLjava/lang/String;)Lcom/example/fianza/fianza/InputException;" } : Jvm.MethodName) prog_25_method_3_code (4 : Nat) (Option.some (Jvm.ClassFile.FieldType.object "com/example/fianza/fianza/InputException"))).before args0 about1 = true := code_word (m := ⟨11, 1⟩) (meth := k11m1) (c := k11c1) (by decide +kernel) rfl rfl rfl (by decide +kernel)
set_option maxRecDepth 65536 in
theorem w_c6 : (Jvm.Cond.code ({ cls := "java/lang/StringBuilder", name := "<init>", desc := "()V" } : Jvm.MethodName) jdk_67_method_1_code (1 : Nat) (Option.none : Option Jvm.ClassFile.FieldType)).before args0 about1 = true := code_word (m := ⟨14, 0⟩) (meth := k14m0) (c := k14c0) (by decide +kernel) rfl rfl rfl (by decide +kernel)
set_option maxRecDepth 65536 in
theorem w_c7 : (Jvm.Cond.code ({ cls := "java/lang/AbstractStringBuilder", name := "<init>", desc := "(I)V" } : Jvm.MethodName) jdk_68_method_2_code (2 : Nat) (Option.none : Option Jvm.ClassFile.FieldType)).before args0 about1 = true := code_word (m := ⟨13, 1⟩) (meth := k13m1) (c := k13c1) (by decide +kernel) rfl rfl rfl (by decide +kernel)
set_option maxRecDepth 65536 in
theorem w_c8 : (Jvm.Cond.code ({ cls := "java/lang/StringBuilder", name := "append", desc := "(Ljava/lang/String;)Ljava/lang/StringBuilder;" } : Jvm.MethodName) jdk_67_method_7_code (2 : Nat) (Option.some (Jvm.ClassFile.FieldType.object "java/lang/StringBuilder"))).before args0 about1 = true := code_word (m := ⟨14, 1⟩) (meth := k14m1) (c := k14c1) (by decide +kernel) rfl rfl rfl (by decide +kernel)
set_option maxRecDepth 65536 in
theorem w_c9 : (Jvm.Cond.code ({ cls := "java/lang/AbstractStringBuilder", name := "append", desc := "(Ljava/lang/String;)Ljava/lang/AbstractStringBuilder;" } : Jvm.MethodName) jdk_68_method_22_code (3 : Nat) (Option.some (Jvm.ClassFile.FieldType.object "java/lang/AbstractStringBuilder"))).before args0 about1 = true := code_word (m := ⟨13, 5⟩) (meth := k13m5) (c := k13c5) (by decide +kernel) rfl rfl rfl (by decide +kernel)
set_option maxRecDepth 65536 in
theorem w_c10 : (Jvm.Cond.code ({ cls := "java/lang/String", name := "length", desc := "()I" } : Jvm.MethodName) jdk_42_method_54_code (1 : Nat) (Option.some Jvm.ClassFile.FieldType.int)).before args0 about1 = true := code_word (m := ⟨7, 3⟩) (meth := k7m3) (c := k7c3) (by decide +kernel) rfl rfl rfl (by decide +kernel)
set_option maxRecDepth 65536 in
theorem w_c11 : (Jvm.Cond.code ({ cls := "java/lang/String", name := "coder", desc := "()B" } : Jvm.MethodName) jdk_42_method_152_code (1 : Nat) (Option.some Jvm.ClassFile.FieldType.byte)).before args0 about1 = true := code_word (m := ⟨7, 10⟩) (meth := k7m10) (c := k7c10) (by decide +kernel) rfl rfl rfl (by decide +kernel)
set_option maxRecDepth 65536 in
theorem w_c12 : (Jvm.Cond.code ({ cls := "java/lang/AbstractStringBuilder", name := "ensureCapacityInternal", desc := "(I)V" } : Jvm.MethodName) jdk_68_method_9_code (3 : Nat) (Option.none : Option Jvm.ClassFile.FieldType)).before args0 about1 = true := code_word (m := ⟨13, 3⟩) (meth := k13m3) (c := k13c3) (by decide +kernel) rfl rfl rfl (by decide +kernel)
set_option maxRecDepth 65536 in
theorem w_c13 : (Jvm.Cond.code ({ cls := "java/lang/AbstractStringBuilder", name := "putStringAt", desc := "(ILjava/lang/String;)V" } : Jvm.MethodName) jdk_68_method_73_code (3 : Nat) (Option.none : Option Jvm.ClassFile.FieldType)).before args0 about1 = true := code_word (m := ⟨13, 10⟩) (meth := k13m10) (c := k13c10) (by decide +kernel) rfl rfl rfl (by decide +kernel)
set_option maxRecDepth 65536 in
theorem w_c14 : (Jvm.Cond.code ({ cls := "java/lang/AbstractStringBuilder", name := "inflateIfNeededFor", desc := "(Ljava/lang/String;)V" } : Jvm.MethodName) jdk_68_method_71_code (2 : Nat) (Option.none : Option Jvm.ClassFile.FieldType)).before args0 about1 = true := code_word (m := ⟨13, 9⟩) (meth := k13m9) (c := k13c9) (by decide +kernel) rfl rfl rfl (by decide +kernel)
set_option maxRecDepth 65536 in
theorem w_c15 : (Jvm.Cond.code ({ cls := "java/lang/String", name := "getBytes", desc := "([BIB)V" } : Jvm.MethodName) jdk_42_method_147_code (4 : Nat) (Option.none : Option Jvm.ClassFile.FieldType)).before args0 about1 = true := code_word (m := ⟨7, 6⟩) (meth := k7m6) (c := k7c6) (by decide +kernel) rfl rfl rfl (by decide +kernel)
set_option maxRecDepth 65536 in
theorem w_c16 : (Jvm.Cond.code ({ cls := "java/lang/StringBuilder", name := "append", desc := "(J)Ljava/lang/StringBuilder;" } : Jvm.MethodName) jdk_67_method_16_code (3 : Nat) (Option.some (Jvm.ClassFile.FieldType.object "java/lang/StringBuilder"))).before args0 about1 = true := code_word (m := ⟨14, 2⟩) (meth := k14m2) (c := k14c2) (by decide +kernel) rfl rfl rfl (by decide +kernel)
set_option maxRecDepth 65536 in
theorem w_c17 : (Jvm.Cond.code ({ cls := "java/lang/AbstractStringBuilder", name := "append", desc := "(J)Ljava/lang/AbstractStringBuilder;" } : Jvm.MethodName) jdk_68_method_33_code (5 : Nat) (Option.some (Jvm.ClassFile.FieldType.object "java/lang/AbstractStringBuilder"))).before args0 about1 = true := code_word (m := ⟨13, 6⟩) (meth := k13m6) (c := k13c6) (by decide +kernel) rfl rfl rfl (by decide +kernel)
set_option maxRecDepth 65536 in
theorem w_c18 : (Jvm.Cond.code ({ cls := "java/lang/Long", name := "stringSize", desc := "(J)I" } : Jvm.MethodName) jdk_35_method_15_code (6 : Nat) (Option.some Jvm.ClassFile.FieldType.int)).before args0 about1 = true := code_word (m := ⟨17, 1⟩) (meth := k17m1) (c := k17c1) (by decide +kernel) rfl rfl rfl (by decide +kernel)
set_option maxRecDepth 65536 in
theorem w_c19 : (Jvm.Cond.code ({ cls := "java/lang/AbstractStringBuilder", name := "isLatin1", desc := "()Z" } : Jvm.MethodName) jdk_68_method_68_code (1 : Nat) (Option.some Jvm.ClassFile.FieldType.boolean)).before args0 about1 = true := code_word (m := ⟨13, 8⟩) (meth := k13m8) (c := k13c8) (by decide +kernel) rfl rfl rfl (by decide +kernel)
set_option maxRecDepth 65536 in
theorem w_c20 : (Jvm.Cond.code ({ cls := "java/lang/Long", name := "getChars", desc := "(JI[B)I" } : Jvm.MethodName) jdk_35_method_14_code (11 : Nat) (Option.some Jvm.ClassFile.FieldType.int)).before args0 about1 = true := code_word (m := ⟨17, 0⟩) (meth := k17m0) (c := k17c0) (by decide +kernel) rfl rfl rfl (by decide +kernel)
set_option maxRecDepth 65536 in
theorem w_c21 : (Jvm.Cond.code ({ cls := "java/lang/StringBuilder", name := "toString", desc := "()Ljava/lang/String;" } : Jvm.MethodName) jdk_67_method_42_code (1 : Nat) (Option.some (Jvm.ClassFile.FieldType.object "java/lang/String"))).before args0 about1 = true := code_word (m := ⟨14, 3⟩) (meth := k14m3) (c := k14c3) (by decide +kernel) rfl rfl rfl (by decide +kernel)
set_option maxRecDepth 65536 in
theorem w_c22 : (Jvm.Cond.code ({ cls := "java/lang/String", name := "<init>", desc := "(Ljava/lang/StringBuilder;)V" } : Jvm.MethodName) jdk_42_method_53_code (2 : Nat) (Option.none : Option Jvm.ClassFile.FieldType)).before args0 about1 = true := code_word (m := ⟨7, 2⟩) (meth := k7m2) (c := k7c2) (by decide +kernel) rfl rfl rfl (by decide +kernel)
set_option maxRecDepth 65536 in
theorem w_c23 : (Jvm.Cond.code ({ cls := "java/lang/String", name := "<init>", desc := "(Ljava/lang/AbstractStringBuilder;Ljava/lang/Void;)V" } : Jvm.MethodName) jdk_42_method_150_code (5 : Nat) (Option.none : Option Jvm.ClassFile.FieldType)).before args0 about1 = true := code_word (m := ⟨7, 8⟩) (meth := k7m8) (c := k7c8) (by decide +kernel) rfl rfl rfl (by decide +kernel)
set_option maxRecDepth 65536 in
theorem w_c24 : (Jvm.Cond.code ({ cls := "java/lang/AbstractStringBuilder", name := "getValue", desc := "()[B" } : Jvm.MethodName) jdk_68_method_64_code (1 : Nat) (Option.some (Jvm.ClassFile.FieldType.array Jvm.ClassFile.FieldType.byte))).before args0 about1 = true := code_word (m := ⟨13, 7⟩) (meth := k13m7) (c := k13c7) (by decide +kernel) rfl rfl rfl (by decide +kernel)
set_option maxRecDepth 65536 in
theorem w_c25 : (Jvm.Cond.code ({ cls := "java/lang/StringBuilder", name := "length", desc := "()I" } : Jvm.MethodName) jdk_67_method_93_code (1 : Nat) (Option.some Jvm.ClassFile.FieldType.int)).before args0 about1 = true := code_word (m := ⟨14, 4⟩) (meth := k14m4) (c := k14c4) (by decide +kernel) rfl rfl rfl (by decide +kernel)
set_option maxRecDepth 65536 in
theorem w_c26 : (Jvm.Cond.code ({ cls := "java/lang/AbstractStringBuilder", name := "length", desc := "()I" } : Jvm.MethodName) jdk_68_method_6_code (1 : Nat) (Option.some Jvm.ClassFile.FieldType.int)).before args0 about1 = true := code_word (m := ⟨13, 2⟩) (meth := k13m2) (c := k13c2) (by decide +kernel) rfl rfl rfl (by decide +kernel)
set_option maxRecDepth 65536 in
theorem w_c27 : (Jvm.Cond.code ({ cls := "java/util/Arrays", name := "copyOfRange", desc := "([BII)[B" } : Jvm.MethodName) jdk_65_method_132_code (3 : Nat) (Option.some (Jvm.ClassFile.FieldType.array Jvm.ClassFile.FieldType.byte))).before args0 about1 = true := code_word (m := ⟨19, 3⟩) (meth := k19m3) (c := k19c3) (by decide +kernel) rfl rfl rfl (by decide +kernel)
set_option maxRecDepth 65536 in
theorem w_c28 : (Jvm.Cond.code ({ cls := "java/util/Arrays", name := "copyOfRangeByte", desc := "([BII)[B" } : Jvm.MethodName) jdk_65_method_133_code (5 : Nat) (Option.some (Jvm.ClassFile.FieldType.array Jvm.ClassFile.FieldType.byte))).before args0 about1 = true := code_word (m := ⟨19, 4⟩) (meth := k19m4) (c := k19c4) (by decide +kernel) rfl rfl rfl (by decide +kernel)
set_option maxRecDepth 65536 in
theorem w_c29 : (Jvm.Cond.code ({ cls := "java/util/Arrays", name := "checkLength", desc := "(II)V" } : Jvm.MethodName) jdk_65_method_131_code (2 : Nat) (Option.none : Option Jvm.ClassFile.FieldType)).before args0 about1 = true := code_word (m := ⟨19, 2⟩) (meth := k19m2) (c := k19c2) (by decide +kernel) rfl rfl rfl (by decide +kernel)
set_option maxRecDepth 65536 in
theorem w_c30 : (Jvm.Cond.code ({ cls := "java/lang/Math", name := "min", desc := "(II)I" } : Jvm.MethodName) jdk_29_method_69_code (2 : Nat) (Option.some Jvm.ClassFile.FieldType.int)).before args0 about1 = true := code_word (m := ⟨20, 2⟩) (meth := k20m2) (c := k20c2) (by decide +kernel) rfl rfl rfl (by decide +kernel)
set_option maxRecDepth 65536 in
theorem w_c31 : (Jvm.Cond.code ({ cls := "com/example/fianza/fianza/InputException", name := "<init>", desc := "(Ljava/lang/String;)V" } : Jvm.MethodName) prog_25_method_1_code (2 : Nat) (Option.none : Option Jvm.ClassFile.FieldType)).before args0 about1 = true := code_word (m := ⟨11, 0⟩) (meth := k11m0) (c := k11c0) (by decide +kernel) rfl rfl rfl (by decide +kernel)
set_option maxRecDepth 65536 in
theorem w_c32 : (Jvm.Cond.code ({ cls := "java/lang/RuntimeException", name := "<init>", desc := "(Ljava/lang/String;)V" } : Jvm.MethodName) jdk_58_method_2_code (2 : Nat) (Option.none : Option Jvm.ClassFile.FieldType)).before args0 about1 = true := code_word (m := ⟨10, 1⟩) (meth := k10m1) (c := k10c1) (by decide +kernel) rfl rfl rfl (by decide +kernel)
set_option maxRecDepth 65536 in
theorem w_c33 : (Jvm.Cond.code ({ cls := "java/lang/Exception", name := "<init>", desc := "(Ljava/lang/String;)V" } : Jvm.MethodName) jdk_59_method_2_code (2 : Nat) (Option.none : Option Jvm.ClassFile.FieldType)).before args0 about1 = true := code_word (m := ⟨9, 1⟩) (meth := k9m1) (c := k9c1) (by decide +kernel) rfl rfl rfl (by decide +kernel)
set_option maxRecDepth 65536 in
theorem w_c34 : (Jvm.Cond.code ({ cls := "java/lang/Throwable", name := "<init>", desc := "(Ljava/lang/String;)V" } : Jvm.MethodName) jdk_78_method_2_code (2 : Nat) (Option.none : Option Jvm.ClassFile.FieldType)).before args0 about1 = true := code_word (m := ⟨8, 1⟩) (meth := k8m1) (c := k8c1) (by decide +kernel) rfl rfl rfl (by decide +kernel)
set_option maxRecDepth 65536 in
theorem w_c35 : (Jvm.Cond.code ({ cls := "java/lang/Throwable", name := "<init>", desc := "()V" } : Jvm.MethodName) jdk_78_method_1_code (1 : Nat) (Option.none : Option Jvm.ClassFile.FieldType)).before args0 about1 = true := code_word (m := ⟨8, 0⟩) (meth := k8m0) (c := k8c0) (by decide +kernel) rfl rfl rfl (by decide +kernel)
set_option maxRecDepth 65536 in
theorem w_c36 : (Jvm.Cond.code ({ cls := "java/lang/Throwable", name := "getMessage", desc := "()Ljava/lang/String;" } : Jvm.MethodName) jdk_78_method_6_code (1 : Nat) (Option.some (Jvm.ClassFile.FieldType.object "java/lang/String"))).before args0 about1 = true := code_word (m := ⟨8, 2⟩) (meth := k8m2) (c := k8c2) (by decide +kernel) rfl rfl rfl (by decide +kernel)
set_option maxRecDepth 65536 in
theorem w_c37 : (Jvm.Cond.code ({ cls := "java/lang/String", name := "charAt", desc := "(I)C" } : Jvm.MethodName) jdk_42_method_56_code (2 : Nat) (Option.some Jvm.ClassFile.FieldType.char)).before args0 about1 = true := code_word (m := ⟨7, 4⟩) (meth := k7m4) (c := k7c4) (by decide +kernel) rfl rfl rfl (by decide +kernel)
set_option maxRecDepth 65536 in
theorem w_c38 : (Jvm.Cond.code ({ cls := "java/lang/String", name := "isLatin1", desc := "()Z" } : Jvm.MethodName) jdk_42_method_154_code (1 : Nat) (Option.some Jvm.ClassFile.FieldType.boolean)).before args0 about1 = true := code_word (m := ⟨7, 11⟩) (meth := k7m11) (c := k7c11) (by decide +kernel) rfl rfl rfl (by decide +kernel)
set_option maxRecDepth 65536 in
theorem w_c39 : (Jvm.Cond.code ({ cls := "java/lang/StringLatin1", name := "charAt", desc := "([BI)C" } : Jvm.MethodName) jdk_43_method_2_code (2 : Nat) (Option.some Jvm.ClassFile.FieldType.char)).before args0 about1 = true := code_word (m := ⟨21, 1⟩) (meth := k21m1) (c := k21c1) (by decide +kernel) rfl rfl rfl (by decide +kernel)
set_option maxRecDepth 65536 in
theorem w_c40 : (Jvm.Cond.code ({ cls := "java/lang/String", name := "checkIndex", desc := "(II)V" } : Jvm.MethodName) jdk_42_method_155_code (2 : Nat) (Option.none : Option Jvm.ClassFile.FieldType)).before args0 about1 = true := code_word (m := ⟨7, 12⟩) (meth := k7m12) (c := k7c12) (by decide +kernel) rfl rfl rfl (by decide +kernel)
set_option maxRecDepth 65536 in
theorem w_c41 : (Jvm.Cond.code ({ cls := "jdk/internal/util/Preconditions", name := "checkIndex", desc := "(IILjava/util/function/BiFunction;)I" } : Jvm.MethodName) jdk_41_method_11_code (3 : Nat) (Option.some Jvm.ClassFile.FieldType.int)).before args0 about1 = true := code_word (m := ⟨22, 1⟩) (meth := k22m1) (c := k22c1) (by decide +kernel) rfl rfl rfl (by decide +kernel)
set_option maxRecDepth 65536 in
theorem w_c42 : (Jvm.Cond.code ({ cls := "java/lang/AbstractStringBuilder", name := "newCapacity", desc := "(I)I" } : Jvm.MethodName) jdk_68_method_10_code (6 : Nat) (Option.some Jvm.ClassFile.FieldType.int)).before args0 about1 = true := code_word (m := ⟨13, 4⟩) (meth := k13m4) (c := k13c4) (by decide +kernel) rfl rfl rfl (by decide +kernel)
set_option maxRecDepth 65536 in
theorem w_c43 : (Jvm.Cond.code ({ cls := "jdk/internal/util/ArraysSupport", name := "newLength", desc := "(III)I" } : Jvm.MethodName) jdk_48_method_27_code (4 : Nat) (Option.some Jvm.ClassFile.FieldType.int)).before args0 about1 = true := code_word (m := ⟨23, 1⟩) (meth := k23m1) (c := k23c1) (by decide +kernel) rfl rfl rfl (by decide +kernel)
set_option maxRecDepth 65536 in
theorem w_c44 : (Jvm.Cond.code ({ cls := "java/lang/Math", name := "max", desc := "(II)I" } : Jvm.MethodName) jdk_29_method_65_code (2 : Nat) (Option.some Jvm.ClassFile.FieldType.int)).before args0 about1 = true := code_word (m := ⟨20, 1⟩) (meth := k20m1) (c := k20c1) (by decide +kernel) rfl rfl rfl (by decide +kernel)
set_option maxRecDepth 65536 in
theorem w_c45 : (Jvm.Cond.code ({ cls := "java/util/Arrays", name := "copyOf", desc := "([BI)[B" } : Jvm.MethodName) jdk_65_method_121_code (3 : Nat) (Option.some (Jvm.ClassFile.FieldType.array Jvm.ClassFile.FieldType.byte))).before args0 about1 = true := code_word (m := ⟨19, 1⟩) (meth := k19m1) (c := k19c1) (by decide +kernel) rfl rfl rfl (by decide +kernel)
set_option maxRecDepth 65536 in
theorem w_c46 : (Jvm.Cond.code ({ cls := "java/lang/StringUTF16", name := "compress", desc := "([CII)[B" } : Jvm.MethodName) jdk_52_method_16_code (6 : Nat) (Option.some (Jvm.ClassFile.FieldType.array Jvm.ClassFile.FieldType.byte))).before args0 about1 = true := code_word (m := ⟨24, 2⟩) (meth := k24m2) (c := k24c2) (by decide +kernel) rfl rfl rfl (by decide +kernel)
set_option maxRecDepth 65536 in
theorem w_c47 : (Jvm.Cond.code ({ cls := "java/lang/StringUTF16", name := "compress", desc := "([CI[BII)I" } : Jvm.MethodName) jdk_52_method_21_code (7 : Nat) (Option.some Jvm.ClassFile.FieldType.int)).before args0 about1 = true := code_word (m := ⟨24, 3⟩) (meth := k24m3) (c := k24c3) (by decide +kernel) rfl rfl rfl (by decide +kernel)
set_option maxRecDepth 65536 in
theorem w_c48 : (Jvm.Cond.code ({ cls := "java/lang/StringUTF16", name := "coderFromArrayLen", desc := "([BI)B" } : Jvm.MethodName) jdk_52_method_15_code (2 : Nat) (Option.some Jvm.ClassFile.FieldType.byte)).before args0 about1 = true := code_word (m := ⟨24, 1⟩) (meth := k24m1) (c := k24c1) (by decide +kernel) rfl rfl rfl (by decide +kernel)
set_option maxRecDepth 65536 in
theorem w_c49 : (Jvm.Cond.code ({ cls := "java/lang/String", name := "valueOf", desc := "(C)Ljava/lang/String;" } : Jvm.MethodName) jdk_42_method_139_code (1 : Nat) (Option.some (Jvm.ClassFile.FieldType.object "java/lang/String"))).before args0 about1 = true := code_word (m := ⟨7, 5⟩) (meth := k7m5) (c := k7c5) (by decide +kernel) rfl rfl rfl (by decide +kernel)
set_option maxRecDepth 65536 in
theorem w_c50 : (Jvm.Cond.code ({ cls := "java/lang/StringLatin1", name := "canEncode", desc := "(C)Z" } : Jvm.MethodName) jdk_43_method_3_code (1 : Nat) (Option.some Jvm.ClassFile.FieldType.boolean)).before args0 about1 = true := code_word (m := ⟨21, 2⟩) (meth := k21m2) (c := k21c2) (by decide +kernel) rfl rfl rfl (by decide +kernel)
set_option maxRecDepth 65536 in
theorem w_c51 : (Jvm.Cond.code ({ cls := "java/lang/StringLatin1", name := "toBytes", desc := "(C)[B" } : Jvm.MethodName) jdk_43_method_46_code (1 : Nat) (Option.some (Jvm.ClassFile.FieldType.array Jvm.ClassFile.FieldType.byte))).before args0 about1 = true := code_word (m := ⟨21, 3⟩) (meth := k21m3) (c := k21c3) (by decide +kernel) rfl rfl rfl (by decide +kernel)
set_option maxRecDepth 65536 in
theorem w_c52 : (Jvm.Cond.code ({ cls := "java/lang/String", name := "<init>", desc := "([BB)V" } : Jvm.MethodName) jdk_42_method_151_code (3 : Nat) (Option.none : Option Jvm.ClassFile.FieldType)).before args0 about1 = true := code_word (m := ⟨7, 9⟩) (meth := k7m9) (c := k7c9) (by decide +kernel) rfl rfl rfl (by decide +kernel)
def codes1 : List Jvm.Cond := [Jvm.Cond.code x code maxLocals ret, Jvm.Cond.code ({ cls := "com/example/fianza/fianza/InputExceptionAtPinLaw", name := "make", desc := "(ICC)Ljava/lang/String;" } : Jvm.MethodName) method_2_code (3 : Nat) (Option.some (Jvm.ClassFile.FieldType.object "java/lang/String")), Jvm.Cond.code ({ cls := "java/lang/String", name := "<init>", desc := "([C)V" } : Jvm.MethodName) jdk_42_method_3_code (2 : Nat) (Option.none : Option Jvm.ClassFile.FieldType), Jvm.Cond.code ({ cls := "java/lang/String", name := "<init>", desc := "([CIILjava/lang/Void;)V" } : Jvm.MethodName) jdk_42_method_149_code (6 : Nat) (Option.none : Option Jvm.ClassFile.FieldType), Jvm.Cond.code ({ cls := "java/lang/Object", name := "<init>", desc := "()V" } : Jvm.MethodName) object_method_1_code (1 : Nat) (Option.none : Option Jvm.ClassFile.FieldType), Jvm.Cond.code ({ cls := "com/example/fianza/fianza/InputException", name := "at", desc := "(Ljava/lang/String;JLjava/lang/String;)Lcom/example/fianza/fianza/InputException;" } : Jvm.MethodName) prog_25_method_3_code (4 : Nat) (Option.some (Jvm.ClassFile.FieldType.object "com/example/fianza/fianza/InputException")), Jvm.Cond.code ({ cls := "java/lang/StringBuilder", name := "<init>", desc := "()V" } : Jvm.MethodName) jdk_67_method_1_code (1 : Nat) (Option.none : Option Jvm.ClassFile.FieldType), Jvm.Cond.code ({ cls := "java/lang/AbstractStringBuilder", name := "<init>", desc := "(I)V" } : Jvm.MethodName) jdk_68_method_2_code (2 : Nat) (Option.none : Option Jvm.ClassFile.FieldType), Jvm.Cond.code ({ cls := "java/lang/StringBuilder", name := "append", desc := "(Ljava/lang/String;)Ljava/lang/StringBuilder;" } : Jvm.MethodName) jdk_67_method_7_code (2 : Nat) (Option.some (Jvm.ClassFile.FieldType.object "java/lang/StringBuilder")), Jvm.Cond.code ({ cls := "java/lang/AbstractStringBuilder", name := "append", desc := "(Ljava/lang/String;)Ljava/lang/AbstractStringBuilder;" } : Jvm.MethodName) jdk_68_method_22_code (3 : Nat) (Option.some (Jvm.ClassFile.FieldType.object "java/lang/AbstractStringBuilder")), Jvm.Cond.code ({ cls := "java/lang/String", name := "length", desc := "()I" } : Jvm.MethodName) jdk_42_method_54_code (1 : Nat) (Option.some Jvm.ClassFile.FieldType.int), Jvm.Cond.code ({ cls := "java/lang/String", name := "coder", desc := "()B" } : Jvm.MethodName) jdk_42_method_152_code (1 : Nat) (Option.some Jvm.ClassFile.FieldType.byte), Jvm.Cond.code ({ cls := "java/lang/AbstractStringBuilder", name := "ensureCapacityInternal", desc := "(I)V" } : Jvm.MethodName) jdk_68_method_9_code (3 : Nat) (Option.none : Option Jvm.ClassFile.FieldType), Jvm.Cond.code ({ cls := "java/lang/AbstractStringBuilder", name := "putStringAt", desc := "(ILjava/lang/String;)V" } : Jvm.MethodName) jdk_68_method_73_code (3 : Nat) (Option.none : Option Jvm.ClassFile.FieldType), Jvm.Cond.code ({ cls := "java/lang/AbstractStringBuilder", name := "inflateIfNeededFor", desc := "(Ljava/lang/String;)V" } : Jvm.MethodName) jdk_68_method_71_code (2 : Nat) (Option.none : Option Jvm.ClassFile.FieldType), Jvm.Cond.code ({ cls := "java/lang/String", name := "getBytes", desc := "([BIB)V" } : Jvm.MethodName) jdk_42_method_147_code (4 : Nat) (Option.none : Option Jvm.ClassFile.FieldType), Jvm.Cond.code ({ cls := "java/lang/StringBuilder", name := "append", desc := "(J)Ljava/lang/StringBuilder;" } : Jvm.MethodName) jdk_67_method_16_code (3 : Nat) (Option.some (Jvm.ClassFile.FieldType.object "java/lang/StringBuilder")), Jvm.Cond.code ({ cls := "java/lang/AbstractStringBuilder", name := "append", desc := "(J)Ljava/lang/AbstractStringBuilder;" } : Jvm.MethodName) jdk_68_method_33_code (5 : Nat) (Option.some (Jvm.ClassFile.FieldType.object "java/lang/AbstractStringBuilder")), Jvm.Cond.code ({ cls := "java/lang/Long", name := "stringSize", desc := "(J)I" } : Jvm.MethodName) jdk_35_method_15_code (6 : Nat) (Option.some Jvm.ClassFile.FieldType.int), Jvm.Cond.code ({ cls := "java/lang/AbstractStringBuilder", name := "isLatin1", desc := "()Z" } : Jvm.MethodName) jdk_68_method_68_code (1 : Nat) (Option.some Jvm.ClassFile.FieldType.boolean), Jvm.Cond.code ({ cls := "java/lang/Long", name := "getChars", desc := "(JI[B)I" } : Jvm.MethodName) jdk_35_method_14_code (11 : Nat) (Option.some Jvm.ClassFile.FieldType.int), Jvm.Cond.code ({ cls := "java/lang/StringBuilder", name := "toString", desc := "()Ljava/lang/String;" } : Jvm.MethodName) jdk_67_method_42_code (1 : Nat) (Option.some (Jvm.ClassFile.FieldType.object "java/lang/String")), Jvm.Cond.code ({ cls := "java/lang/String", name := "<init>", desc := "(Ljava/lang/StringBuilder;)V" } : Jvm.MethodName) jdk_42_method_53_code (2 : Nat) (Option.none : Option Jvm.ClassFile.FieldType), Jvm.Cond.code ({ cls := "java/lang/String", name := "<init>", desc := "(Ljava/lang/AbstractStringBuilder;Ljava/lang/Void;)V" } : Jvm.MethodName) jdk_42_method_150_code (5 : Nat) (Option.none : Option Jvm.ClassFile.FieldType), Jvm.Cond.code ({ cls := "java/lang/AbstractStringBuilder", name := "getValue", desc := "()[B" } : Jvm.MethodName) jdk_68_method_64_code (1 : Nat) (Option.some (Jvm.ClassFile.FieldType.array Jvm.ClassFile.FieldType.byte)), Jvm.Cond.code ({ cls := "java/lang/StringBuilder", name := "length", desc := "()I" } : Jvm.MethodName) jdk_67_method_93_code (1 : Nat) (Option.some Jvm.ClassFile.FieldType.int), Jvm.Cond.code ({ cls := "java/lang/AbstractStringBuilder", name := "length", desc := "()I" } : Jvm.MethodName) jdk_68_method_6_code (1 : Nat) (Option.some Jvm.ClassFile.FieldType.int), Jvm.Cond.code ({ cls := "java/util/Arrays", name := "copyOfRange", desc := "([BII)[B" } : Jvm.MethodName) jdk_65_method_132_code (3 : Nat) (Option.some (Jvm.ClassFile.FieldType.array Jvm.ClassFile.FieldType.byte)), Jvm.Cond.code ({ cls := "java/util/Arrays", name := "copyOfRangeByte", desc := "([BII)[B" } : Jvm.MethodName) jdk_65_method_133_code (5 : Nat) (Option.some (Jvm.ClassFile.FieldType.array Jvm.ClassFile.FieldType.byte)), Jvm.Cond.code ({ cls := "java/util/Arrays", name := "checkLength", desc := "(II)V" } : Jvm.MethodName) jdk_65_method_131_code (2 : Nat) (Option.none : Option Jvm.ClassFile.FieldType), Jvm.Cond.code ({ cls := "java/lang/Math", name := "min", desc := "(II)I" } : Jvm.MethodName) jdk_29_method_69_code (2 : Nat) (Option.some Jvm.ClassFile.FieldType.int), Jvm.Cond.code ({ cls := "com/example/fianza/fianza/InputException", name := "<init>", desc := "(Ljava/lang/String;)V" } : Jvm.MethodName) prog_25_method_1_code (2 : Nat) (Option.none : Option Jvm.ClassFile.FieldType), Jvm.Cond.code ({ cls := "java/lang/RuntimeException", name := "<init>", desc := "(Ljava/lang/String;)V" } : Jvm.MethodName) jdk_58_method_2_code (2 : Nat) (Option.none : Option Jvm.ClassFile.FieldType), Jvm.Cond.code ({ cls := "java/lang/Exception", name := "<init>", desc := "(Ljava/lang/String;)V" } : Jvm.MethodName) jdk_59_method_2_code (2 : Nat) (Option.none : Option Jvm.ClassFile.FieldType), Jvm.Cond.code ({ cls := "java/lang/Throwable", name := "<init>", desc := "(Ljava/lang/String;)V" } : Jvm.MethodName) jdk_78_method_2_code (2 : Nat) (Option.none : Option Jvm.ClassFile.FieldType), Jvm.Cond.code ({ cls := "java/lang/Throwable", name := "<init>", desc := "()V" } : Jvm.MethodName) jdk_78_method_1_code (1 : Nat) (Option.none : Option Jvm.ClassFile.FieldType), Jvm.Cond.code ({ cls := "java/lang/Throwable", name := "getMessage", desc := "()Ljava/lang/String;" } : Jvm.MethodName) jdk_78_method_6_code (1 : Nat) (Option.some (Jvm.ClassFile.FieldType.object "java/lang/String")), Jvm.Cond.code ({ cls := "java/lang/String", name := "charAt", desc := "(I)C" } : Jvm.MethodName) jdk_42_method_56_code (2 : Nat) (Option.some Jvm.ClassFile.FieldType.char), Jvm.Cond.code ({ cls := "java/lang/String", name := "isLatin1", desc := "()Z" } : Jvm.MethodName) jdk_42_method_154_code (1 : Nat) (Option.some Jvm.ClassFile.FieldType.boolean), Jvm.Cond.code ({ cls := "java/lang/StringLatin1", name := "charAt", desc := "([BI)C" } : Jvm.MethodName) jdk_43_method_2_code (2 : Nat) (Option.some Jvm.ClassFile.FieldType.char), Jvm.Cond.code ({ cls := "java/lang/String", name := "checkIndex", desc := "(II)V" } : Jvm.MethodName) jdk_42_method_155_code (2 : Nat) (Option.none : Option Jvm.ClassFile.FieldType), Jvm.Cond.code ({ cls := "jdk/internal/util/Preconditions", name := "checkIndex", desc := "(IILjava/util/function/BiFunction;)I" } : Jvm.MethodName) jdk_41_method_11_code (3 : Nat) (Option.some Jvm.ClassFile.FieldType.int), Jvm.Cond.code ({ cls := "java/lang/AbstractStringBuilder", name := "newCapacity", desc := "(I)I" } : Jvm.MethodName) jdk_68_method_10_code (6 : Nat) (Option.some Jvm.ClassFile.FieldType.int), Jvm.Cond.code ({ cls := "jdk/internal/util/ArraysSupport", name := "newLength", desc := "(III)I" } : Jvm.MethodName) jdk_48_method_27_code (4 : Nat) (Option.some Jvm.ClassFile.FieldType.int), Jvm.Cond.code ({ cls := "java/lang/Math", name := "max", desc := "(II)I" } : Jvm.MethodName) jdk_29_method_65_code (2 : Nat) (Option.some Jvm.ClassFile.FieldType.int), Jvm.Cond.code ({ cls := "java/util/Arrays", name := "copyOf", desc := "([BI)[B" } : Jvm.MethodName) jdk_65_method_121_code (3 : Nat) (Option.some (Jvm.ClassFile.FieldType.array Jvm.ClassFile.FieldType.byte)), Jvm.Cond.code ({ cls := "java/lang/StringUTF16", name := "compress", desc := "([CII)[B" } : Jvm.MethodName) jdk_52_method_16_code (6 : Nat) (Option.some (Jvm.ClassFile.FieldType.array Jvm.ClassFile.FieldType.byte)), Jvm.Cond.code ({ cls := "java/lang/StringUTF16", name := "compress", desc := "([CI[BII)I" } : Jvm.MethodName) jdk_52_method_21_code (7 : Nat) (Option.some Jvm.ClassFile.FieldType.int), Jvm.Cond.code ({ cls := "java/lang/StringUTF16", name := "coderFromArrayLen", desc := "([BI)B" } : Jvm.MethodName) jdk_52_method_15_code (2 : Nat) (Option.some Jvm.ClassFile.FieldType.byte), Jvm.Cond.code ({ cls := "java/lang/String", name := "valueOf", desc := "(C)Ljava/lang/String;" } : Jvm.MethodName) jdk_42_method_139_code (1 : Nat) (Option.some (Jvm.ClassFile.FieldType.object "java/lang/String")), Jvm.Cond.code ({ cls := "java/lang/StringLatin1", name := "canEncode", desc := "(C)Z" } : Jvm.MethodName) jdk_43_method_3_code (1 : Nat) (Option.some Jvm.ClassFile.FieldType.boolean), Jvm.Cond.code ({ cls := "java/lang/StringLatin1", name := "toBytes", desc := "(C)[B" } : Jvm.MethodName) jdk_43_method_46_code (1 : Nat) (Option.some (Jvm.ClassFile.FieldType.array Jvm.ClassFile.FieldType.byte)), Jvm.Cond.code ({ cls := "java/lang/String", name := "<init>", desc := "([BB)V" } : Jvm.MethodName) jdk_42_method_151_code (3 : Nat) (Option.none : Option Jvm.ClassFile.FieldType)]
set_option maxRecDepth 65536 in
theorem codes_eq : words1.filter isCode = codes1 := rfl
theorem w_codes : ∀ c ∈ words1.filter isCode, c.before args0 about1 = true := by
  rw [codes_eq]
  intro c hc
  simp only [codes1, List.mem_cons, List.not_mem_nil, or_false] at hc
  rcases hc with rfl | rfl | rfl | rfl | rfl | rfl | rfl | rfl | rfl | rfl | rfl | rfl | rfl | rfl | rfl | rfl | rfl | rfl | rfl | rfl | rfl | rfl | rfl | rfl | rfl | rfl | rfl | rfl | rfl | rfl | rfl | rfl | rfl | rfl | rfl | rfl | rfl | rfl | rfl | rfl | rfl | rfl | rfl | rfl | rfl | rfl | rfl | rfl | rfl | rfl | rfl | rfl | rfl
  · exact w_c0
  · exact w_c1
  · exact w_c2
  · exact w_c3
  · exact w_c4
  · exact w_c5
  · exact w_c6
  · exact w_c7
  · exact w_c8
  · exact w_c9
  · exact w_c10
  · exact w_c11
  · exact w_c12
  · exact w_c13
  · exact w_c14
  · exact w_c15
  · exact w_c16
  · exact w_c17
  · exact w_c18
  · exact w_c19
  · exact w_c20
  · exact w_c21
  · exact w_c22
  · exact w_c23
  · exact w_c24
  · exact w_c25
  · exact w_c26
  · exact w_c27
  · exact w_c28
  · exact w_c29
  · exact w_c30
  · exact w_c31
  · exact w_c32
  · exact w_c33
  · exact w_c34
  · exact w_c35
  · exact w_c36
  · exact w_c37
  · exact w_c38
  · exact w_c39
  · exact w_c40
  · exact w_c41
  · exact w_c42
  · exact w_c43
  · exact w_c44
  · exact w_c45
  · exact w_c46
  · exact w_c47
  · exact w_c48
  · exact w_c49
  · exact w_c50
  · exact w_c51
  · exact w_c52
set_option maxRecDepth 65536 in
theorem w_t1 : (words1.take 24).all (fun c => isCode c || c.before args0 about1) = true := by decide +kernel
set_option maxRecDepth 65536 in
theorem w_t2 : ((words1.drop 24).take 24).all (fun c => isCode c || c.before args0 about1) = true := by decide +kernel
set_option maxRecDepth 65536 in
theorem w_t3 : (((words1.drop 24).drop 24).take 24).all (fun c => isCode c || c.before args0 about1) = true := by decide +kernel
set_option maxRecDepth 65536 in
theorem w_t4 : ((((words1.drop 24).drop 24).drop 24).take 24).all (fun c => isCode c || c.before args0 about1) = true := by decide +kernel
set_option maxRecDepth 65536 in
theorem w_t5 : (((((words1.drop 24).drop 24).drop 24).drop 24).take 24).all (fun c => isCode c || c.before args0 about1) = true := by decide +kernel
set_option maxRecDepth 65536 in
theorem w_t6 : ((((((words1.drop 24).drop 24).drop 24).drop 24).drop 24).take 24).all (fun c => isCode c || c.before args0 about1) = true := by decide +kernel
set_option maxRecDepth 65536 in
theorem w_t7 : (((((((words1.drop 24).drop 24).drop 24).drop 24).drop 24).drop 24).take 24).all (fun c => isCode c || c.before args0 about1) = true := by decide +kernel
set_option maxRecDepth 65536 in
theorem w_t8 : ((((((((words1.drop 24).drop 24).drop 24).drop 24).drop 24).drop 24).drop 24).take 24).all (fun c => isCode c || c.before args0 about1) = true := by decide +kernel
set_option maxRecDepth 65536 in
theorem w_t9 : (((((((((words1.drop 24).drop 24).drop 24).drop 24).drop 24).drop 24).drop 24).drop 24).take 24).all (fun c => isCode c || c.before args0 about1) = true := by decide +kernel
set_option maxRecDepth 65536 in
theorem w_t10 : ((((((((((words1.drop 24).drop 24).drop 24).drop 24).drop 24).drop 24).drop 24).drop 24).drop 24).take 24).all (fun c => isCode c || c.before args0 about1) = true := by decide +kernel
set_option maxRecDepth 65536 in
theorem w_t11 : (((((((((((words1.drop 24).drop 24).drop 24).drop 24).drop 24).drop 24).drop 24).drop 24).drop 24).drop 24).take 24).all (fun c => isCode c || c.before args0 about1) = true := by decide +kernel
set_option maxRecDepth 65536 in
theorem w_t12 : ((((((((((((words1.drop 24).drop 24).drop 24).drop 24).drop 24).drop 24).drop 24).drop 24).drop 24).drop 24).drop 24).take 24).all (fun c => isCode c || c.before args0 about1) = true := by decide +kernel
set_option maxRecDepth 65536 in
theorem w_t13 : (((((((((((((words1.drop 24).drop 24).drop 24).drop 24).drop 24).drop 24).drop 24).drop 24).drop 24).drop 24).drop 24).drop 24).take 24).all (fun c => isCode c || c.before args0 about1) = true := by decide +kernel
set_option maxRecDepth 65536 in
theorem w_t14 : (((((((((((((words1.drop 24).drop 24).drop 24).drop 24).drop 24).drop 24).drop 24).drop 24).drop 24).drop 24).drop 24).drop 24).drop 24).all (fun c => isCode c || c.before args0 about1) = true := by decide +kernel
theorem w_tables : (allAtoms (Jvm.Cond.code x code maxLocals ret :: tables_1)).before args0 about1 = true := by
  rw [allAtoms_all]
  show words1.all (fun c => c.before args0 about1) = true
  refine all_split ?_ w_codes
  rw [← List.take_append_drop 24 words1, List.all_append, w_t1, ← List.take_append_drop 24 (words1.drop 24), List.all_append, w_t2, ← List.take_append_drop 24 ((words1.drop 24).drop 24), List.all_append, w_t3, ← List.take_append_drop 24 (((words1.drop 24).drop 24).drop 24), List.all_append, w_t4, ← List.take_append_drop 24 ((((words1.drop 24).drop 24).drop 24).drop 24), List.all_append, w_t5, ← List.take_append_drop 24 (((((words1.drop 24).drop 24).drop 24).drop 24).drop 24), List.all_append, w_t6, ← List.take_append_drop 24 ((((((words1.drop 24).drop 24).drop 24).drop 24).drop 24).drop 24), List.all_append, w_t7, ← List.take_append_drop 24 (((((((words1.drop 24).drop 24).drop 24).drop 24).drop 24).drop 24).drop 24), List.all_append, w_t8, ← List.take_append_drop 24 ((((((((words1.drop 24).drop 24).drop 24).drop 24).drop 24).drop 24).drop 24).drop 24), List.all_append, w_t9, ← List.take_append_drop 24 (((((((((words1.drop 24).drop 24).drop 24).drop 24).drop 24).drop 24).drop 24).drop 24).drop 24), List.all_append, w_t10, ← List.take_append_drop 24 ((((((((((words1.drop 24).drop 24).drop 24).drop 24).drop 24).drop 24).drop 24).drop 24).drop 24).drop 24), List.all_append, w_t11, ← List.take_append_drop 24 (((((((((((words1.drop 24).drop 24).drop 24).drop 24).drop 24).drop 24).drop 24).drop 24).drop 24).drop 24).drop 24), List.all_append, w_t12, ← List.take_append_drop 24 ((((((((((((words1.drop 24).drop 24).drop 24).drop 24).drop 24).drop 24).drop 24).drop 24).drop 24).drop 24).drop 24).drop 24), List.all_append, w_t13, w_t14]
  rfl
set_option maxRecDepth 65536 in
theorem w_rest : rest_1_c.before args0 about1 = true := by decide +kernel
set_option maxRecDepth 65536 in
theorem w_case : (Jvm.Cond.and given_1 narrow_1).before args0 about1 = true := by decide +kernel
set_option maxRecDepth 65536 in
theorem w_consts : constsHeld consts_1 about1 := Jvm.Lit.constsHeldB_iff.mp (by decide +kernel)
theorem w_applies : (headSpec (Jvm.Cond.code x code maxLocals ret :: tables_1) room_1).applies x e0.platform about1 = true :=
  (Spec.applies_iff w_frames).mpr ⟨w_running, w_runnable, w_alone, w_named, w_hears, w_ripe, w_room, w_tables⟩
theorem atStart : AtStart classFile x code maxLocals ret World_1 tables_1 room_1 Calls_1 rest_1 Pre_1 launch0 p0 e0 about1 theMethod args0 below0 :=
  ⟨lists_1, trivial, launch0.admits_env _ _ _, launch0.least_env, fairChoices_fair.cas, fairChoices_fair.clock, w_frames, w_args, w_heap, w_applies, ⟨(by decide +kernel : framesKnown about1 = true), ⟨(by decide +kernel : tablesKnown about1 = true), ⟨w_consts, trivial⟩⟩⟩, w_rest, w_case⟩
end start1
theorem witness_1 : WitnessClaimed_1 := ⟨start1.p0, start1.e0, start1.about1, start1.theMethod, start1.args0, start1.below0, start1.atStart⟩
end Jvm.Pilot.@@N@@
