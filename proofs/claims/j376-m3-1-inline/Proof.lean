import JvmDerived
import JvmDerived.Pilot.@@N@@Statement
import JvmDerived.Pilot.@@N@@Code
set_option linter.unusedVariables false
set_option linter.unusedSimpArgs false
namespace Jvm.OwnL
open Sem ClassFile Op Lib Bundle Jvm.Stand Jvm.Free Jvm.LawKit Jvm.RoadKit
/-- where a walk stands: the tables v at hand (String constants of EL, if loaded, hold their text), the heap h (the entry heap h0 but for ws and what is new; the case's own start unchanged), what is safely no constant's cell (sf), and the frame -/
def Wl (Z : State) (a0 : Array Value) (own : String) (p : Program) (l : Launch) (e : Env) (R : Room) (s : State) (m : MethodId) (args : Array Value) (below : List Frame) (meth : Method) (c : Code) (code : ByteArray) (mx : Nat) (B : State) (EL : List (String × Nat)) (h0 : Heap) (n0 : Nat) (ws sf : List Addr) (h : Heap) (cells slots pc : Nat) (L : Array Slot) (S : List Value) : Prop :=
  (p.tables.exec = Jvm.exec ∧ c.code = code ∧ c.maxLocals = mx ∧ EW Z a0 EL) ∧ (Old Z n0 h ∧ Keep h0 h ws ∧ (∀ x ∈ ws, n0 ≤ x) ∧ n0 ≤ h0.size ∧ s.heap = h0) ∧
    ∃ (v : Vm) (k0 : Nat) (T : State) (locs : List Loc), Stand p l e R (s.setVm v) m args below meth c T locs cells slots ∧ (s.Since v k0 ∧ k0 ≤ h.size ∧ Z.Warmed39 v ∧ v.findClass own = some m.cls) ∧ (CHr Z EL s.vm h0 v h ∧ ∀ x ∈ sf, x < h.size ∧ Safe Z EL v h x) ∧ Fr n0 locs ∧ T.heap = h ∧ ∀ t, Steps p.tables e below (T.setTop (mkF m pc L S)) t → Steps p.tables e below B t
section OwnL
variable {Z : State} {own : String} {p : Program} {l : Launch} {e : Env} {R : Room} {s : State} {m : MethodId} {args : Array Value} {below : List Frame} {meth : Method} {c : Code} {code : ByteArray} {mx : Nat} {B : State} {EL : List (String × Nat)} {h0 : Heap} {n0 : Nat} {ws sf : List Addr} {h h' : Heap} {cells slots pc : Nat} {L L' : Array Slot} {S : List Value} {a0 : Array Value}
theorem safeNew {v : Vm} (E : Ext h h') (H : CHv Z EL v h) (F : ∀ x ∈ sf, x < h.size ∧ Safe Z EL v h x) (lt : h.size < h'.size) : ∀ x ∈ h.size :: sf, x < h'.size ∧ Safe Z EL v h' x := fun x q => by
  rcases List.mem_cons.mp q with rfl | q
  · exact ⟨lt, (Safe.new (Nat.le_refl _)).ext E H⟩
  · exact ⟨Nat.lt_of_lt_of_le (F x q).1 E.1, (F x q).2.ext E H⟩
theorem safeKeep {v : Vm} {wsC : List Addr} (K : Keep h h' wsC) (hs : ∀ x ∈ wsC, Safe Z EL v h x) (H : CHv Z EL v h) (F : ∀ x ∈ sf, x < h.size ∧ Safe Z EL v h x) : ∀ x ∈ sf, x < h'.size ∧ Safe Z EL v h' x := fun x q =>
  ⟨Nat.lt_of_lt_of_le (F x q).1 K.1, (F x q).2.keep K hs H⟩
theorem Wl.keep0 (G : Wl Z a0 own p l e R s m args below meth c code mx B EL h0 n0 ws sf h cells slots pc L S) : Keep h0 h ws := G.2.1.2.1
theorem Wl.old (G : Wl Z a0 own p l e R s m args below meth c code mx B EL h0 n0 ws sf h cells slots pc L S) : Old Z n0 h := G.2.1.1
theorem Wl.n0le (G : Wl Z a0 own p l e R s m args below meth c code mx B EL h0 n0 ws sf h cells slots pc L S) : n0 ≤ h.size := Nat.le_trans G.2.1.2.2.2.1 G.2.1.2.1.1
theorem Wl.sz (G : Wl Z a0 own p l e R s m args below meth c code mx B EL h0 n0 ws sf h cells slots pc L S) : h0.size ≤ h.size := G.2.1.2.1.1
theorem Wl.nw (G : Wl Z a0 own p l e R s m args below meth c code mx B EL h0 n0 ws sf h cells slots pc L S) {x : Addr} (q : x ∈ ws ∨ h0.size ≤ x) : n0 ≤ x := q.elim (G.2.1.2.2.1 x) (Nat.le_trans G.2.1.2.2.2.1)
theorem Wl.sta {C n d : String} {v : Value} (G : Wl Z a0 own p l e R s m args below meth c code mx B EL h0 n0 ws sf h cells slots pc L S) (F : Sta Z Z.heap C n d v) : Sta Z h C n d v := F.ext G.2.1.1.2
theorem Wl.plain {pc' : Nat} {S' : List Value} (G : Wl Z a0 own p l e R s m args below meth c code mx B EL h0 n0 ws sf h cells slots pc L S) (st : ∀ T : State, At T m c below → p.tables.exec = Jvm.exec → c.code = code → ∀ t, Steps p.tables e below (T.setTop (mkF m pc' L' S')) t → Steps p.tables e below (T.setTop (mkF m pc L S)) t) : Wl Z a0 own p l e R s m args below meth c code mx B EL h0 n0 ws sf h cells slots pc' L' (S') := by
  obtain ⟨a, b, v, k0, T, locs, X, x1, x2, N, eT, k⟩ := G
  exact ⟨a, b, v, k0, T, locs, X, x1, x2, N, eT, fun t q => k t (st T X.here a.1 a.2.1 t q)⟩
theorem Wl.nameI {x : Int32} (G : Wl Z a0 own p l e R s m args below meth c code mx B EL h0 n0 ws sf h cells slots pc L (.int x :: S)) : ∃ v, v = x ∧ Wl Z a0 own p l e R s m args below meth c code mx B EL h0 n0 ws sf h cells slots pc L (.int v :: S) := ⟨x, rfl, G⟩
theorem Wl.nameJ {x : Int64} (G : Wl Z a0 own p l e R s m args below meth c code mx B EL h0 n0 ws sf h cells slots pc L (.long x :: S)) : ∃ v, v = x ∧ Wl Z a0 own p l e R s m args below meth c code mx B EL h0 n0 ws sf h cells slots pc L (.long v :: S) := ⟨x, rfl, G⟩
theorem Wl.top {x y : Value} (G : Wl Z a0 own p l e R s m args below meth c code mx B EL h0 n0 ws sf h cells slots pc L (x :: S)) (q : x = y) : Wl Z a0 own p l e R s m args below meth c code mx B EL h0 n0 ws sf h cells slots pc L (y :: S) := q ▸ G
theorem Wl.cast {L' : Array Slot} {S' : List Value} (G : Wl Z a0 own p l e R s m args below meth c code mx B EL h0 n0 ws sf h cells slots pc L S) (q : L = L') (r : S = S') : Wl Z a0 own p l e R s m args below meth c code mx B EL h0 n0 ws sf h cells slots pc L' (S') := q ▸ r ▸ G
theorem Wl.more (G : Wl Z a0 own p l e R s m args below meth c code mx B EL h0 n0 ws sf h cells slots pc L S) {k n : Nat} (h1 : cells ≤ k) (h2 : slots ≤ n) : Wl Z a0 own p l e R s m args below meth c code mx B EL h0 n0 ws sf h k n pc L S := by
  obtain ⟨a, b, v, k0, T, locs, X, r⟩ := G
  exact ⟨a, b, v, k0, T, locs, X.more h1 h2, r⟩
theorem Wl.less {sf' : List Addr} (G : Wl Z a0 own p l e R s m args below meth c code mx B EL h0 n0 ws sf h cells slots pc L S) (q : ∀ x ∈ sf', x ∈ sf) : Wl Z a0 own p l e R s m args below meth c code mx B EL h0 n0 ws sf' h cells slots pc L S := by
  obtain ⟨a, b, v, k0, T, locs, X, x1, x2, r⟩ := G
  exact ⟨a, b, v, k0, T, locs, X, x1, ⟨x2.1, fun x y => x2.2 x (q x y)⟩, r⟩
theorem Wl.aload {k : Nat} {v : Value} (G : Wl Z a0 own p l e R s m args below meth c code mx B EL h0 n0 ws sf h cells slots pc L S) (pc' : Nat) (hd : decode code pc = .ok (.aload k, 2)) (hl : L[k]? = some (.val v)) (hv : v.isRef = true) (hp : pc + 2 = pc') : Wl Z a0 own p l e R s m args below meth c code mx B EL h0 n0 ws sf h cells slots pc' L (v :: S) :=
  G.plain fun T H hx hy t k => XS.aload (g := mkF m pc L (S)) H hx rfl (by rw [hy]; exact hd) hl hv (by subst hp; exact k)
theorem Wl.aloadN {k : Fin 4} {v : Value} (G : Wl Z a0 own p l e R s m args below meth c code mx B EL h0 n0 ws sf h cells slots pc L S) (pc' : Nat) (hd : decode code pc = .ok (.aload_n k, 1)) (hl : L[k.val]? = some (.val v)) (hv : v.isRef = true) (hp : pc + 1 = pc') : Wl Z a0 own p l e R s m args below meth c code mx B EL h0 n0 ws sf h cells slots pc' L (v :: S) :=
  G.plain fun T H hx hy t k => XS.aloadN (g := mkF m pc L (S)) H hx rfl (by rw [hy]; exact hd) hl hv (by subst hp; exact k)
theorem Wl.iload {k : Nat} {v : Int32} (G : Wl Z a0 own p l e R s m args below meth c code mx B EL h0 n0 ws sf h cells slots pc L S) (pc' : Nat) (hd : decode code pc = .ok (.iload k, 2)) (hl : L[k]? = some (.val (.int v))) (hp : pc + 2 = pc') : Wl Z a0 own p l e R s m args below meth c code mx B EL h0 n0 ws sf h cells slots pc' L (.int v :: S) :=
  G.plain fun T H hx hy t k => XS.iload (g := mkF m pc L (S)) H hx rfl (by rw [hy]; exact hd) hl (by subst hp; exact k)
theorem Wl.iloadN {k : Fin 4} {v : Int32} (G : Wl Z a0 own p l e R s m args below meth c code mx B EL h0 n0 ws sf h cells slots pc L S) (pc' : Nat) (hd : decode code pc = .ok (.iload_n k, 1)) (hl : L[k.val]? = some (.val (.int v))) (hp : pc + 1 = pc') : Wl Z a0 own p l e R s m args below meth c code mx B EL h0 n0 ws sf h cells slots pc' L (.int v :: S) :=
  G.plain fun T H hx hy t k => XS.iloadN (g := mkF m pc L (S)) H hx rfl (by rw [hy]; exact hd) hl (by subst hp; exact k)
theorem Wl.lload {k : Nat} {v : Int64} (G : Wl Z a0 own p l e R s m args below meth c code mx B EL h0 n0 ws sf h cells slots pc L S) (pc' : Nat) (hd : decode code pc = .ok (.lload k, 2)) (hl : L[k]? = some (.val (.long v))) (hp : pc + 2 = pc') : Wl Z a0 own p l e R s m args below meth c code mx B EL h0 n0 ws sf h cells slots pc' L (.long v :: S) :=
  G.plain fun T H hx hy t k => XT.lload (g := mkF m pc L (S)) H hx rfl (by rw [hy]; exact hd) hl (by subst hp; exact k)
theorem Wl.lloadN {k : Fin 4} {v : Int64} (G : Wl Z a0 own p l e R s m args below meth c code mx B EL h0 n0 ws sf h cells slots pc L S) (pc' : Nat) (hd : decode code pc = .ok (.lload_n k, 1)) (hl : L[k.val]? = some (.val (.long v))) (hp : pc + 1 = pc') : Wl Z a0 own p l e R s m args below meth c code mx B EL h0 n0 ws sf h cells slots pc' L (.long v :: S) :=
  G.plain fun T H hx hy t k => XT.lloadN (g := mkF m pc L (S)) H hx rfl (by rw [hy]; exact hd) hl (by subst hp; exact k)
theorem Wl.dload {k : Nat} {v : UInt64} (G : Wl Z a0 own p l e R s m args below meth c code mx B EL h0 n0 ws sf h cells slots pc L S) (pc' : Nat) (hd : decode code pc = .ok (.dload k, 2)) (hl : L[k]? = some (.val (.double v))) (hp : pc + 2 = pc') : Wl Z a0 own p l e R s m args below meth c code mx B EL h0 n0 ws sf h cells slots pc' L (.double v :: S) :=
  G.plain fun T H hx hy t k => XS.dload (g := mkF m pc L (S)) H hx rfl (by rw [hy]; exact hd) hl (by subst hp; exact k)
theorem Wl.dloadN {k : Fin 4} {v : UInt64} (G : Wl Z a0 own p l e R s m args below meth c code mx B EL h0 n0 ws sf h cells slots pc L S) (pc' : Nat) (hd : decode code pc = .ok (.dload_n k, 1)) (hl : L[k.val]? = some (.val (.double v))) (hp : pc + 1 = pc') : Wl Z a0 own p l e R s m args below meth c code mx B EL h0 n0 ws sf h cells slots pc' L (.double v :: S) :=
  G.plain fun T H hx hy t k => XS.dloadN (g := mkF m pc L (S)) H hx rfl (by rw [hy]; exact hd) hl (by subst hp; exact k)
theorem Wl.istore {k : Nat} {x : Int32} (G : Wl Z a0 own p l e R s m args below meth c code mx B EL h0 n0 ws sf h cells slots pc L (.int x :: S)) (pc' : Nat) (L' : Array Slot) (hd : decode code pc = .ok (.istore k, 2)) (hl : storeLocals L k (.int x) = some L') (hp : pc + 2 = pc') : Wl Z a0 own p l e R s m args below meth c code mx B EL h0 n0 ws sf h cells slots pc' L' S :=
  G.plain fun T H hx hy t k => XS.istore (g := mkF m pc L (.int x :: S)) H hx rfl (by rw [hy]; exact hd) rfl hl (by subst hp; exact k)
theorem Wl.istoreN {k : Fin 4} {x : Int32} (G : Wl Z a0 own p l e R s m args below meth c code mx B EL h0 n0 ws sf h cells slots pc L (.int x :: S)) (pc' : Nat) (L' : Array Slot) (hd : decode code pc = .ok (.istore_n k, 1)) (hl : storeLocals L k.val (.int x) = some L') (hp : pc + 1 = pc') : Wl Z a0 own p l e R s m args below meth c code mx B EL h0 n0 ws sf h cells slots pc' L' S :=
  G.plain fun T H hx hy t k => XS.istoreN (g := mkF m pc L (.int x :: S)) H hx rfl (by rw [hy]; exact hd) rfl hl (by subst hp; exact k)
theorem Wl.lstore {k : Nat} {x : Int64} (G : Wl Z a0 own p l e R s m args below meth c code mx B EL h0 n0 ws sf h cells slots pc L (.long x :: S)) (pc' : Nat) (L' : Array Slot) (hd : decode code pc = .ok (.lstore k, 2)) (hl : storeLocals L k (.long x) = some L') (hp : pc + 2 = pc') : Wl Z a0 own p l e R s m args below meth c code mx B EL h0 n0 ws sf h cells slots pc' L' S :=
  G.plain fun T H hx hy t k => XT.lstore (g := mkF m pc L (.long x :: S)) H hx rfl (by rw [hy]; exact hd) rfl hl (by subst hp; exact k)
theorem Wl.lstoreN {k : Fin 4} {x : Int64} (G : Wl Z a0 own p l e R s m args below meth c code mx B EL h0 n0 ws sf h cells slots pc L (.long x :: S)) (pc' : Nat) (L' : Array Slot) (hd : decode code pc = .ok (.lstore_n k, 1)) (hl : storeLocals L k.val (.long x) = some L') (hp : pc + 1 = pc') : Wl Z a0 own p l e R s m args below meth c code mx B EL h0 n0 ws sf h cells slots pc' L' S :=
  G.plain fun T H hx hy t k => XT.lstoreN (g := mkF m pc L (.long x :: S)) H hx rfl (by rw [hy]; exact hd) rfl hl (by subst hp; exact k)
theorem Wl.dstore {k : Nat} {x : UInt64} (G : Wl Z a0 own p l e R s m args below meth c code mx B EL h0 n0 ws sf h cells slots pc L (.double x :: S)) (pc' : Nat) (L' : Array Slot) (hd : decode code pc = .ok (.dstore k, 2)) (hl : storeLocals L k (.double x) = some L') (hp : pc + 2 = pc') : Wl Z a0 own p l e R s m args below meth c code mx B EL h0 n0 ws sf h cells slots pc' L' S :=
  G.plain fun T H hx hy t k => XS.dstore (g := mkF m pc L (.double x :: S)) H hx rfl (by rw [hy]; exact hd) rfl hl (by subst hp; exact k)
theorem Wl.dstoreN {k : Fin 4} {x : UInt64} (G : Wl Z a0 own p l e R s m args below meth c code mx B EL h0 n0 ws sf h cells slots pc L (.double x :: S)) (pc' : Nat) (L' : Array Slot) (hd : decode code pc = .ok (.dstore_n k, 1)) (hl : storeLocals L k.val (.double x) = some L') (hp : pc + 1 = pc') : Wl Z a0 own p l e R s m args below meth c code mx B EL h0 n0 ws sf h cells slots pc' L' S :=
  G.plain fun T H hx hy t k => XS.dstoreN (g := mkF m pc L (.double x :: S)) H hx rfl (by rw [hy]; exact hd) rfl hl (by subst hp; exact k)
theorem Wl.astore {k : Nat} {x : Value} (G : Wl Z a0 own p l e R s m args below meth c code mx B EL h0 n0 ws sf h cells slots pc L (x :: S)) (pc' : Nat) (L' : Array Slot) (hd : decode code pc = .ok (.astore k, 2)) (hv : x.isRef = true) (hl : storeLocals L k x = some L') (hp : pc + 2 = pc') : Wl Z a0 own p l e R s m args below meth c code mx B EL h0 n0 ws sf h cells slots pc' L' S :=
  G.plain fun T H hx hy t k => XS.astore (g := mkF m pc L (x :: S)) H hx rfl (by rw [hy]; exact hd) rfl hv hl (by subst hp; exact k)
theorem Wl.astoreN {k : Fin 4} {x : Value} (G : Wl Z a0 own p l e R s m args below meth c code mx B EL h0 n0 ws sf h cells slots pc L (x :: S)) (pc' : Nat) (L' : Array Slot) (hd : decode code pc = .ok (.astore_n k, 1)) (hv : x.isRef = true) (hl : storeLocals L k.val x = some L') (hp : pc + 1 = pc') : Wl Z a0 own p l e R s m args below meth c code mx B EL h0 n0 ws sf h cells slots pc' L' S :=
  G.plain fun T H hx hy t k => XS.astoreN (g := mkF m pc L (x :: S)) H hx rfl (by rw [hy]; exact hd) rfl hv hl (by subst hp; exact k)
theorem Wl.iinc {k : Nat} {cst : Int} {x : Int32} (G : Wl Z a0 own p l e R s m args below meth c code mx B EL h0 n0 ws sf h cells slots pc L S) (pc' : Nat) (L' : Array Slot) (hd : decode code pc = .ok (.iinc k cst, 3)) (hl : L[k]? = some (.val (.int x))) (hl' : storeLocals L k (.int (x + Int32.ofInt cst)) = some L') (hp : pc + 3 = pc') : Wl Z a0 own p l e R s m args below meth c code mx B EL h0 n0 ws sf h cells slots pc' L' S :=
  G.plain fun T H hx hy t k => XS.iinc (g := mkF m pc L (S)) H hx rfl (by rw [hy]; exact hd) hl hl' (by subst hp; exact k)
theorem Wl.iincV {k : Nat} {cst : Int} {x : Int32} (G : Wl Z a0 own p l e R s m args below meth c code mx B EL h0 n0 ws sf h cells slots pc L S) (pc' : Nat) (L' : Array Slot) (y : Int32) (hd : decode code pc = .ok (.iinc k cst, 3)) (hl : L[k]? = some (.val (.int x))) (hv : x + Int32.ofInt cst = y) (hl' : storeLocals L k (.int y) = some L') (hp : pc + 3 = pc') : Wl Z a0 own p l e R s m args below meth c code mx B EL h0 n0 ws sf h cells slots pc' L' S :=
  G.plain fun T H hx hy t k => XS.iinc (g := mkF m pc L (S)) H hx rfl (by rw [hy]; exact hd) hl (by rw [hv]; exact hl') (by subst hp; exact k)
theorem Wl.iconst {i : Int} (G : Wl Z a0 own p l e R s m args below meth c code mx B EL h0 n0 ws sf h cells slots pc L S) (pc' : Nat) (v : Int32) (hd : decode code pc = .ok (.iconst i, 1)) (hv : Int32.ofInt i = v) (hp : pc + 1 = pc') : Wl Z a0 own p l e R s m args below meth c code mx B EL h0 n0 ws sf h cells slots pc' L (.int v :: S) :=
  G.plain fun T H hx hy t k => XS.iconst (g := mkF m pc L (S)) H hx rfl (by rw [hy]; exact hd) (by subst hv hp; exact k)
theorem Wl.bipush {i : Int} (G : Wl Z a0 own p l e R s m args below meth c code mx B EL h0 n0 ws sf h cells slots pc L S) (pc' : Nat) (v : Int32) (hd : decode code pc = .ok (.bipush i, 2)) (hv : (Int8.ofInt i).toInt32 = v) (hp : pc + 2 = pc') : Wl Z a0 own p l e R s m args below meth c code mx B EL h0 n0 ws sf h cells slots pc' L (.int v :: S) :=
  G.plain fun T H hx hy t k => XS.bipush (g := mkF m pc L (S)) H hx rfl (by rw [hy]; exact hd) (by subst hv hp; exact k)
theorem Wl.sipush {i : Int} (G : Wl Z a0 own p l e R s m args below meth c code mx B EL h0 n0 ws sf h cells slots pc L S) (pc' : Nat) (v : Int32) (hd : decode code pc = .ok (.sipush i, 3)) (hv : (Int16.ofInt i).toInt32 = v) (hp : pc + 3 = pc') : Wl Z a0 own p l e R s m args below meth c code mx B EL h0 n0 ws sf h cells slots pc' L (.int v :: S) :=
  G.plain fun T H hx hy t k => XS.sipush (g := mkF m pc L (S)) H hx rfl (by rw [hy]; exact hd) (by subst hv hp; exact k)
theorem Wl.lconst0  (G : Wl Z a0 own p l e R s m args below meth c code mx B EL h0 n0 ws sf h cells slots pc L S) (pc' : Nat) (hd : decode code pc = .ok (.lconst 0, 1)) (hp : pc + 1 = pc') : Wl Z a0 own p l e R s m args below meth c code mx B EL h0 n0 ws sf h cells slots pc' L (.long 0 :: S) :=
  G.plain fun T H hx hy t k => XT.lconst (g := mkF m pc L (S)) H hx rfl (by rw [hy]; exact hd) (by subst hp; exact k)
theorem Wl.lconst1  (G : Wl Z a0 own p l e R s m args below meth c code mx B EL h0 n0 ws sf h cells slots pc L S) (pc' : Nat) (hd : decode code pc = .ok (.lconst 1, 1)) (hp : pc + 1 = pc') : Wl Z a0 own p l e R s m args below meth c code mx B EL h0 n0 ws sf h cells slots pc' L (.long 1 :: S) :=
  G.plain fun T H hx hy t k => XT.lconst (g := mkF m pc L (S)) H hx rfl (by rw [hy]; exact hd) (by subst hp; exact k)
theorem Wl.aconstNull  (G : Wl Z a0 own p l e R s m args below meth c code mx B EL h0 n0 ws sf h cells slots pc L S) (pc' : Nat) (hd : decode code pc = .ok (.aconst_null, 1)) (hp : pc + 1 = pc') : Wl Z a0 own p l e R s m args below meth c code mx B EL h0 n0 ws sf h cells slots pc' L (.null :: S) :=
  G.plain fun T H hx hy t k => XS.aconstNull (g := mkF m pc L (S)) H hx rfl (by rw [hy]; exact hd) (by subst hp; exact k)
theorem Wl.iadd {x y : Int32} (G : Wl Z a0 own p l e R s m args below meth c code mx B EL h0 n0 ws sf h cells slots pc L (.int y :: .int x :: S)) (pc' : Nat) (hd : decode code pc = .ok (.iadd, 1)) (hp : pc + 1 = pc') : Wl Z a0 own p l e R s m args below meth c code mx B EL h0 n0 ws sf h cells slots pc' L (.int (x + y) :: S) :=
  G.plain fun T H hx hy t k => XS.iadd (g := mkF m pc L (.int y :: .int x :: S)) H hx rfl (by rw [hy]; exact hd) rfl (by subst hp; exact k)
theorem Wl.isub {x y : Int32} (G : Wl Z a0 own p l e R s m args below meth c code mx B EL h0 n0 ws sf h cells slots pc L (.int y :: .int x :: S)) (pc' : Nat) (hd : decode code pc = .ok (.isub, 1)) (hp : pc + 1 = pc') : Wl Z a0 own p l e R s m args below meth c code mx B EL h0 n0 ws sf h cells slots pc' L (.int (x - y) :: S) :=
  G.plain fun T H hx hy t k => XS.isub (g := mkF m pc L (.int y :: .int x :: S)) H hx rfl (by rw [hy]; exact hd) rfl (by subst hp; exact k)
theorem Wl.imul {x y : Int32} (G : Wl Z a0 own p l e R s m args below meth c code mx B EL h0 n0 ws sf h cells slots pc L (.int y :: .int x :: S)) (pc' : Nat) (hd : decode code pc = .ok (.imul, 1)) (hp : pc + 1 = pc') : Wl Z a0 own p l e R s m args below meth c code mx B EL h0 n0 ws sf h cells slots pc' L (.int (x * y) :: S) :=
  G.plain fun T H hx hy t k => XS.imul (g := mkF m pc L (.int y :: .int x :: S)) H hx rfl (by rw [hy]; exact hd) rfl (by subst hp; exact k)
theorem Wl.iand {x y : Int32} (G : Wl Z a0 own p l e R s m args below meth c code mx B EL h0 n0 ws sf h cells slots pc L (.int y :: .int x :: S)) (pc' : Nat) (hd : decode code pc = .ok (.iand, 1)) (hp : pc + 1 = pc') : Wl Z a0 own p l e R s m args below meth c code mx B EL h0 n0 ws sf h cells slots pc' L (.int (x &&& y) :: S) :=
  G.plain fun T H hx hy t k => XS.iand (g := mkF m pc L (.int y :: .int x :: S)) H hx rfl (by rw [hy]; exact hd) rfl (by subst hp; exact k)
theorem Wl.ior {x y : Int32} (G : Wl Z a0 own p l e R s m args below meth c code mx B EL h0 n0 ws sf h cells slots pc L (.int y :: .int x :: S)) (pc' : Nat) (hd : decode code pc = .ok (.ior, 1)) (hp : pc + 1 = pc') : Wl Z a0 own p l e R s m args below meth c code mx B EL h0 n0 ws sf h cells slots pc' L (.int (x ||| y) :: S) :=
  G.plain fun T H hx hy t k => XT.ior (g := mkF m pc L (.int y :: .int x :: S)) H hx rfl (by rw [hy]; exact hd) rfl (by subst hp; exact k)
theorem Wl.ixor {x y : Int32} (G : Wl Z a0 own p l e R s m args below meth c code mx B EL h0 n0 ws sf h cells slots pc L (.int y :: .int x :: S)) (pc' : Nat) (hd : decode code pc = .ok (.ixor, 1)) (hp : pc + 1 = pc') : Wl Z a0 own p l e R s m args below meth c code mx B EL h0 n0 ws sf h cells slots pc' L (.int (x ^^^ y) :: S) :=
  G.plain fun T H hx hy t k => XT.ixor (g := mkF m pc L (.int y :: .int x :: S)) H hx rfl (by rw [hy]; exact hd) rfl (by subst hp; exact k)
theorem Wl.ishl {x y : Int32} (G : Wl Z a0 own p l e R s m args below meth c code mx B EL h0 n0 ws sf h cells slots pc L (.int y :: .int x :: S)) (pc' : Nat) (hd : decode code pc = .ok (.ishl, 1)) (hp : pc + 1 = pc') : Wl Z a0 own p l e R s m args below meth c code mx B EL h0 n0 ws sf h cells slots pc' L (.int (x <<< (y &&& 31)) :: S) :=
  G.plain fun T H hx hy t k => XT.ishl (g := mkF m pc L (.int y :: .int x :: S)) H hx rfl (by rw [hy]; exact hd) rfl (by subst hp; exact k)
theorem Wl.ishr {x y : Int32} (G : Wl Z a0 own p l e R s m args below meth c code mx B EL h0 n0 ws sf h cells slots pc L (.int y :: .int x :: S)) (pc' : Nat) (hd : decode code pc = .ok (.ishr, 1)) (hp : pc + 1 = pc') : Wl Z a0 own p l e R s m args below meth c code mx B EL h0 n0 ws sf h cells slots pc' L (.int (x >>> (y &&& 31)) :: S) :=
  G.plain fun T H hx hy t k => XT.ishr (g := mkF m pc L (.int y :: .int x :: S)) H hx rfl (by rw [hy]; exact hd) rfl (by subst hp; exact k)
theorem Wl.iushr {x y : Int32} (G : Wl Z a0 own p l e R s m args below meth c code mx B EL h0 n0 ws sf h cells slots pc L (.int y :: .int x :: S)) (pc' : Nat) (hd : decode code pc = .ok (.iushr, 1)) (hp : pc + 1 = pc') : Wl Z a0 own p l e R s m args below meth c code mx B EL h0 n0 ws sf h cells slots pc' L (.int (XT.ushr x y) :: S) :=
  G.plain fun T H hx hy t k => XT.iushr (g := mkF m pc L (.int y :: .int x :: S)) H hx rfl (by rw [hy]; exact hd) rfl (by subst hp; exact k)
theorem Wl.idiv {x y : Int32} (G : Wl Z a0 own p l e R s m args below meth c code mx B EL h0 n0 ws sf h cells slots pc L (.int y :: .int x :: S)) (pc' : Nat) (hd : decode code pc = .ok (.idiv, 1)) (hy0 : y ≠ 0) (hp : pc + 1 = pc') : Wl Z a0 own p l e R s m args below meth c code mx B EL h0 n0 ws sf h cells slots pc' L (.int (x / y) :: S) :=
  G.plain fun T H hx hy t k => XS.idiv (g := mkF m pc L (.int y :: .int x :: S)) H hx rfl (by rw [hy]; exact hd) rfl hy0 (by subst hp; exact k)
theorem Wl.irem {x y : Int32} (G : Wl Z a0 own p l e R s m args below meth c code mx B EL h0 n0 ws sf h cells slots pc L (.int y :: .int x :: S)) (pc' : Nat) (hd : decode code pc = .ok (.irem, 1)) (hy0 : y ≠ 0) (hp : pc + 1 = pc') : Wl Z a0 own p l e R s m args below meth c code mx B EL h0 n0 ws sf h cells slots pc' L (.int (x - (x / y) * y) :: S) :=
  G.plain fun T H hx hy t k => XS.irem (g := mkF m pc L (.int y :: .int x :: S)) H hx rfl (by rw [hy]; exact hd) rfl hy0 (by subst hp; exact k)
theorem Wl.ineg {x : Int32} (G : Wl Z a0 own p l e R s m args below meth c code mx B EL h0 n0 ws sf h cells slots pc L (.int x :: S)) (pc' : Nat) (hd : decode code pc = .ok (.ineg, 1)) (hp : pc + 1 = pc') : Wl Z a0 own p l e R s m args below meth c code mx B EL h0 n0 ws sf h cells slots pc' L (.int (-x) :: S) :=
  G.plain fun T H hx hy t k => XS.ineg (g := mkF m pc L (.int x :: S)) H hx rfl (by rw [hy]; exact hd) rfl (by subst hp; exact k)
theorem Wl.ladd {x y : Int64} (G : Wl Z a0 own p l e R s m args below meth c code mx B EL h0 n0 ws sf h cells slots pc L (.long y :: .long x :: S)) (pc' : Nat) (hd : decode code pc = .ok (.ladd, 1)) (hp : pc + 1 = pc') : Wl Z a0 own p l e R s m args below meth c code mx B EL h0 n0 ws sf h cells slots pc' L (.long (x + y) :: S) :=
  G.plain fun T H hx hy t k => XT.ladd (g := mkF m pc L (.long y :: .long x :: S)) H hx rfl (by rw [hy]; exact hd) rfl (by subst hp; exact k)
theorem Wl.lsub {x y : Int64} (G : Wl Z a0 own p l e R s m args below meth c code mx B EL h0 n0 ws sf h cells slots pc L (.long y :: .long x :: S)) (pc' : Nat) (hd : decode code pc = .ok (.lsub, 1)) (hp : pc + 1 = pc') : Wl Z a0 own p l e R s m args below meth c code mx B EL h0 n0 ws sf h cells slots pc' L (.long (x - y) :: S) :=
  G.plain fun T H hx hy t k => XT.lsub (g := mkF m pc L (.long y :: .long x :: S)) H hx rfl (by rw [hy]; exact hd) rfl (by subst hp; exact k)
theorem Wl.lmul {x y : Int64} (G : Wl Z a0 own p l e R s m args below meth c code mx B EL h0 n0 ws sf h cells slots pc L (.long y :: .long x :: S)) (pc' : Nat) (hd : decode code pc = .ok (.lmul, 1)) (hp : pc + 1 = pc') : Wl Z a0 own p l e R s m args below meth c code mx B EL h0 n0 ws sf h cells slots pc' L (.long (x * y) :: S) :=
  G.plain fun T H hx hy t k => XT.lmul (g := mkF m pc L (.long y :: .long x :: S)) H hx rfl (by rw [hy]; exact hd) rfl (by subst hp; exact k)
theorem Wl.land {x y : Int64} (G : Wl Z a0 own p l e R s m args below meth c code mx B EL h0 n0 ws sf h cells slots pc L (.long y :: .long x :: S)) (pc' : Nat) (hd : decode code pc = .ok (.land, 1)) (hp : pc + 1 = pc') : Wl Z a0 own p l e R s m args below meth c code mx B EL h0 n0 ws sf h cells slots pc' L (.long (x &&& y) :: S) :=
  G.plain fun T H hx hy t k => XT.land (g := mkF m pc L (.long y :: .long x :: S)) H hx rfl (by rw [hy]; exact hd) rfl (by subst hp; exact k)
theorem Wl.lor {x y : Int64} (G : Wl Z a0 own p l e R s m args below meth c code mx B EL h0 n0 ws sf h cells slots pc L (.long y :: .long x :: S)) (pc' : Nat) (hd : decode code pc = .ok (.lor, 1)) (hp : pc + 1 = pc') : Wl Z a0 own p l e R s m args below meth c code mx B EL h0 n0 ws sf h cells slots pc' L (.long (x ||| y) :: S) :=
  G.plain fun T H hx hy t k => XT.lor (g := mkF m pc L (.long y :: .long x :: S)) H hx rfl (by rw [hy]; exact hd) rfl (by subst hp; exact k)
theorem Wl.lxor {x y : Int64} (G : Wl Z a0 own p l e R s m args below meth c code mx B EL h0 n0 ws sf h cells slots pc L (.long y :: .long x :: S)) (pc' : Nat) (hd : decode code pc = .ok (.lxor, 1)) (hp : pc + 1 = pc') : Wl Z a0 own p l e R s m args below meth c code mx B EL h0 n0 ws sf h cells slots pc' L (.long (x ^^^ y) :: S) :=
  G.plain fun T H hx hy t k => XT.lxor (g := mkF m pc L (.long y :: .long x :: S)) H hx rfl (by rw [hy]; exact hd) rfl (by subst hp; exact k)
theorem Wl.ldiv {x y : Int64} (G : Wl Z a0 own p l e R s m args below meth c code mx B EL h0 n0 ws sf h cells slots pc L (.long y :: .long x :: S)) (pc' : Nat) (hd : decode code pc = .ok (.ldiv, 1)) (hy0 : y ≠ 0) (hp : pc + 1 = pc') : Wl Z a0 own p l e R s m args below meth c code mx B EL h0 n0 ws sf h cells slots pc' L (.long (x / y) :: S) :=
  G.plain fun T H hx hy t k => XT.ldiv (g := mkF m pc L (.long y :: .long x :: S)) H hx rfl (by rw [hy]; exact hd) rfl hy0 (by subst hp; exact k)
theorem Wl.lrem {x y : Int64} (G : Wl Z a0 own p l e R s m args below meth c code mx B EL h0 n0 ws sf h cells slots pc L (.long y :: .long x :: S)) (pc' : Nat) (hd : decode code pc = .ok (.lrem, 1)) (hy0 : y ≠ 0) (hp : pc + 1 = pc') : Wl Z a0 own p l e R s m args below meth c code mx B EL h0 n0 ws sf h cells slots pc' L (.long (x - (x / y) * y) :: S) :=
  G.plain fun T H hx hy t k => XT.lrem (g := mkF m pc L (.long y :: .long x :: S)) H hx rfl (by rw [hy]; exact hd) rfl hy0 (by subst hp; exact k)
theorem Wl.lneg {x : Int64} (G : Wl Z a0 own p l e R s m args below meth c code mx B EL h0 n0 ws sf h cells slots pc L (.long x :: S)) (pc' : Nat) (hd : decode code pc = .ok (.lneg, 1)) (hp : pc + 1 = pc') : Wl Z a0 own p l e R s m args below meth c code mx B EL h0 n0 ws sf h cells slots pc' L (.long (-x) :: S) :=
  G.plain fun T H hx hy t k => XT.lneg (g := mkF m pc L (.long x :: S)) H hx rfl (by rw [hy]; exact hd) rfl (by subst hp; exact k)
theorem Wl.lushr {x : Int64} {y : Int32} (G : Wl Z a0 own p l e R s m args below meth c code mx B EL h0 n0 ws sf h cells slots pc L (.int y :: .long x :: S)) (pc' : Nat) (hd : decode code pc = .ok (.lushr, 1)) (hp : pc + 1 = pc') : Wl Z a0 own p l e R s m args below meth c code mx B EL h0 n0 ws sf h cells slots pc' L (.long (XT.ushrL x y) :: S) :=
  G.plain fun T H hx hy t k => XT.lushr (g := mkF m pc L (.int y :: .long x :: S)) H hx rfl (by rw [hy]; exact hd) rfl (by subst hp; exact k)
theorem Wl.lcmp {x y : Int64} (G : Wl Z a0 own p l e R s m args below meth c code mx B EL h0 n0 ws sf h cells slots pc L (.long y :: .long x :: S)) (pc' : Nat) (hd : decode code pc = .ok (.lcmp, 1)) (hp : pc + 1 = pc') : Wl Z a0 own p l e R s m args below meth c code mx B EL h0 n0 ws sf h cells slots pc' L (.int (XT.cmpL x y) :: S) :=
  G.plain fun T H hx hy t k => XT.lcmp (g := mkF m pc L (.long y :: .long x :: S)) H hx rfl (by rw [hy]; exact hd) rfl (by subst hp; exact k)
theorem Wl.i2l {x : Int32} (G : Wl Z a0 own p l e R s m args below meth c code mx B EL h0 n0 ws sf h cells slots pc L (.int x :: S)) (pc' : Nat) (hd : decode code pc = .ok (.i2l, 1)) (hp : pc + 1 = pc') : Wl Z a0 own p l e R s m args below meth c code mx B EL h0 n0 ws sf h cells slots pc' L (.long x.toInt64 :: S) :=
  G.plain fun T H hx hy t k => XT.i2l (g := mkF m pc L (.int x :: S)) H hx rfl (by rw [hy]; exact hd) rfl (by subst hp; exact k)
theorem Wl.l2i {x : Int64} (G : Wl Z a0 own p l e R s m args below meth c code mx B EL h0 n0 ws sf h cells slots pc L (.long x :: S)) (pc' : Nat) (hd : decode code pc = .ok (.l2i, 1)) (hp : pc + 1 = pc') : Wl Z a0 own p l e R s m args below meth c code mx B EL h0 n0 ws sf h cells slots pc' L (.int x.toInt32 :: S) :=
  G.plain fun T H hx hy t k => XT.l2i (g := mkF m pc L (.long x :: S)) H hx rfl (by rw [hy]; exact hd) rfl (by subst hp; exact k)
theorem Wl.i2b {x : Int32} (G : Wl Z a0 own p l e R s m args below meth c code mx B EL h0 n0 ws sf h cells slots pc L (.int x :: S)) (pc' : Nat) (hd : decode code pc = .ok (.i2b, 1)) (hp : pc + 1 = pc') : Wl Z a0 own p l e R s m args below meth c code mx B EL h0 n0 ws sf h cells slots pc' L (.int x.toInt8.toInt32 :: S) :=
  G.plain fun T H hx hy t k => XT.i2b (g := mkF m pc L (.int x :: S)) H hx rfl (by rw [hy]; exact hd) rfl (by subst hp; exact k)
theorem Wl.i2c {x : Int32} (G : Wl Z a0 own p l e R s m args below meth c code mx B EL h0 n0 ws sf h cells slots pc L (.int x :: S)) (pc' : Nat) (hd : decode code pc = .ok (.i2c, 1)) (hp : pc + 1 = pc') : Wl Z a0 own p l e R s m args below meth c code mx B EL h0 n0 ws sf h cells slots pc' L (.int x.toUInt32.toUInt16.toUInt32.toInt32 :: S) :=
  G.plain fun T H hx hy t k => XT.i2c (g := mkF m pc L (.int x :: S)) H hx rfl (by rw [hy]; exact hd) rfl (by subst hp; exact k)
theorem Wl.dup {x : Value} (G : Wl Z a0 own p l e R s m args below meth c code mx B EL h0 n0 ws sf h cells slots pc L (x :: S)) (pc' : Nat) (hd : decode code pc = .ok (.dup, 1)) (hc : x.category = 1) (hp : pc + 1 = pc') : Wl Z a0 own p l e R s m args below meth c code mx B EL h0 n0 ws sf h cells slots pc' L (x :: x :: S) :=
  G.plain fun T H hx hy t k => XS.dup (g := mkF m pc L (x :: S)) H hx rfl (by rw [hy]; exact hd) rfl hc (by subst hp; exact k)
theorem Wl.pop {x : Value} (G : Wl Z a0 own p l e R s m args below meth c code mx B EL h0 n0 ws sf h cells slots pc L (x :: S)) (pc' : Nat) (hd : decode code pc = .ok (.pop, 1)) (hc : x.category = 1) (hp : pc + 1 = pc') : Wl Z a0 own p l e R s m args below meth c code mx B EL h0 n0 ws sf h cells slots pc' L S :=
  G.plain fun T H hx hy t k => XT.pop (g := mkF m pc L (x :: S)) H hx rfl (by rw [hy]; exact hd) rfl hc (by subst hp; exact k)
theorem Wl.dupX1 {x y : Value} (G : Wl Z a0 own p l e R s m args below meth c code mx B EL h0 n0 ws sf h cells slots pc L (y :: x :: S)) (pc' : Nat) (hd : decode code pc = .ok (.dup_x1, 1)) (hc : y.category = 1) (hc' : x.category = 1) (hp : pc + 1 = pc') : Wl Z a0 own p l e R s m args below meth c code mx B EL h0 n0 ws sf h cells slots pc' L (y :: x :: y :: S) :=
  G.plain fun T H hx hy t k => XT.dupX1 (g := mkF m pc L (y :: x :: S)) H hx rfl (by rw [hy]; exact hd) rfl hc hc' (by subst hp; exact k)
theorem Wl.i2dS {x : Int32} {v : UInt64} (G : Wl Z a0 own p l e R s m args below meth c code mx B EL h0 n0 ws sf h cells slots pc L (.int x :: S)) (pc' : Nat) (hd : decode code pc = .ok (.i2d, 1)) (hv : FP.i2d x = v) (hp : pc + 1 = pc') : Wl Z a0 own p l e R s m args below meth c code mx B EL h0 n0 ws sf h cells slots pc' L (.double v :: S) :=
  G.plain fun T H hx hy t k => XS.i2dS (g := mkF m pc L (.int x :: S)) H hx rfl (by rw [hy]; exact hd) rfl hv (by subst hp; exact k)
theorem Wl.l2dS {x : Int64} {v : UInt64} (G : Wl Z a0 own p l e R s m args below meth c code mx B EL h0 n0 ws sf h cells slots pc L (.long x :: S)) (pc' : Nat) (hd : decode code pc = .ok (.l2d, 1)) (hv : FP.l2d x = v) (hp : pc + 1 = pc') : Wl Z a0 own p l e R s m args below meth c code mx B EL h0 n0 ws sf h cells slots pc' L (.double v :: S) :=
  G.plain fun T H hx hy t k => XS.l2dS (g := mkF m pc L (.long x :: S)) H hx rfl (by rw [hy]; exact hd) rfl hv (by subst hp; exact k)
theorem Wl.daddS {x y v : UInt64} (G : Wl Z a0 own p l e R s m args below meth c code mx B EL h0 n0 ws sf h cells slots pc L (.double y :: .double x :: S)) (pc' : Nat) (hd : decode code pc = .ok (.dadd, 1)) (hn : Jvm.Free.Fl.NoNaN64 (FP.dadd x y)) (hv : FP.dadd x y = v) (hp : pc + 1 = pc') : Wl Z a0 own p l e R s m args below meth c code mx B EL h0 n0 ws sf h cells slots pc' L (.double v :: S) :=
  G.plain fun T H hx hy t k => XS.daddS (g := mkF m pc L (.double y :: .double x :: S)) H hx rfl (by rw [hy]; exact hd) rfl hn hv (by subst hp; exact k)
theorem Wl.dcmpS {o : CmpOp} {x y : UInt64} {v : Int32} (G : Wl Z a0 own p l e R s m args below meth c code mx B EL h0 n0 ws sf h cells slots pc L (.double y :: .double x :: S)) (pc' : Nat) (hd : decode code pc = .ok (.dcmp o, 1)) (hv : cmpValue (FP.dcmp x y) o = v) (hp : pc + 1 = pc') : Wl Z a0 own p l e R s m args below meth c code mx B EL h0 n0 ws sf h cells slots pc' L (.int v :: S) :=
  G.plain fun T H hx hy t k => XS.dcmpS (g := mkF m pc L (.double y :: .double x :: S)) H hx rfl (by rw [hy]; exact hd) rfl hv (by subst hp; exact k)
theorem Wl.goto  {o : Int} (G : Wl Z a0 own p l e R s m args below meth c code mx B EL h0 n0 ws sf h cells slots pc L S) (pc' : Nat) (hd : decode code pc = .ok (.goto o, 3)) (ho : 0 ≤ (pc : Int) + o) (hp : ((pc : Int) + o).toNat = pc') : Wl Z a0 own p l e R s m args below meth c code mx B EL h0 n0 ws sf h cells slots pc' L S :=
  G.plain fun T H hx hy t k => XS.goto (g := mkF m pc L (S)) (pc' := pc') H hx rfl rfl (by rw [hy]; exact hd) ho hp k
theorem Wl.ifT {cd : ClassFile.Cond} {x : Int32} {o : Int} (G : Wl Z a0 own p l e R s m args below meth c code mx B EL h0 n0 ws sf h cells slots pc L (.int x :: S)) (pc' : Nat) (hd : decode code pc = .ok (.ifCond cd o, 3)) (hc : ifCond.holds cd x = true) (ho : 0 ≤ (pc : Int) + o) (hp : ((pc : Int) + o).toNat = pc') : Wl Z a0 own p l e R s m args below meth c code mx B EL h0 n0 ws sf h cells slots pc' L S :=
  G.plain fun T H hx hy t k => XS.ifYes (g := mkF m pc L (.int x :: S)) (pc' := pc') H hx rfl rfl (by rw [hy]; exact hd) rfl hc ho hp k
theorem Wl.icmpT {cd : ClassFile.Cond} {x y : Int32} {o : Int} (G : Wl Z a0 own p l e R s m args below meth c code mx B EL h0 n0 ws sf h cells slots pc L (.int y :: .int x :: S)) (pc' : Nat) (hd : decode code pc = .ok (.if_icmp cd o, 3)) (hc : if_icmp.holds cd x y = true) (ho : 0 ≤ (pc : Int) + o) (hp : ((pc : Int) + o).toNat = pc') : Wl Z a0 own p l e R s m args below meth c code mx B EL h0 n0 ws sf h cells slots pc' L S :=
  G.plain fun T H hx hy t k => XS.icmpYes (g := mkF m pc L (.int y :: .int x :: S)) (pc' := pc') H hx rfl rfl (by rw [hy]; exact hd) rfl hc ho hp k
theorem Wl.ifnullT  {o : Int} (G : Wl Z a0 own p l e R s m args below meth c code mx B EL h0 n0 ws sf h cells slots pc L (.null :: S)) (pc' : Nat) (hd : decode code pc = .ok (.ifnull o, 3)) (ho : 0 ≤ (pc : Int) + o) (hp : ((pc : Int) + o).toNat = pc') : Wl Z a0 own p l e R s m args below meth c code mx B EL h0 n0 ws sf h cells slots pc' L S :=
  G.plain fun T H hx hy t k => XS.ifnullYes (g := mkF m pc L (.null :: S)) (pc' := pc') H hx rfl rfl (by rw [hy]; exact hd) rfl ho hp k
theorem Wl.ifnonnullT {b : Addr} {o : Int} (G : Wl Z a0 own p l e R s m args below meth c code mx B EL h0 n0 ws sf h cells slots pc L (.ref b :: S)) (pc' : Nat) (hd : decode code pc = .ok (.ifnonnull o, 3)) (ho : 0 ≤ (pc : Int) + o) (hp : ((pc : Int) + o).toNat = pc') : Wl Z a0 own p l e R s m args below meth c code mx B EL h0 n0 ws sf h cells slots pc' L S :=
  G.plain fun T H hx hy t k => XT.ifnonnullYes (g := mkF m pc L (.ref b :: S)) (pc' := pc') H hx rfl rfl (by rw [hy]; exact hd) rfl ho hp k
theorem Wl.acmpT {cd : ClassFile.ACond} {x y : Value} {o : Int} (G : Wl Z a0 own p l e R s m args below meth c code mx B EL h0 n0 ws sf h cells slots pc L (y :: x :: S)) (pc' : Nat) (hd : decode code pc = .ok (.if_acmp cd o, 3)) (hx1 : x.isRef = true) (hy1 : y.isRef = true) (hc : XT.acmp cd x y = true) (ho : 0 ≤ (pc : Int) + o) (hp : ((pc : Int) + o).toNat = pc') : Wl Z a0 own p l e R s m args below meth c code mx B EL h0 n0 ws sf h cells slots pc' L S :=
  G.plain fun T H hx hy t k => XT.acmpYes (g := mkF m pc L (y :: x :: S)) (pc' := pc') H hx rfl rfl (by rw [hy]; exact hd) rfl hx1 hy1 hc ho hp k
theorem Wl.ifF {cd : ClassFile.Cond} {x : Int32} {o : Int} (G : Wl Z a0 own p l e R s m args below meth c code mx B EL h0 n0 ws sf h cells slots pc L (.int x :: S)) (pc' : Nat) (hd : decode code pc = .ok (.ifCond cd o, 3)) (hc : ifCond.holds cd x = false) (hp : pc + 3 = pc') : Wl Z a0 own p l e R s m args below meth c code mx B EL h0 n0 ws sf h cells slots pc' L S :=
  G.plain fun T H hx hy t k => XS.ifNo (g := mkF m pc L (.int x :: S)) H hx rfl (by rw [hy]; exact hd) rfl hc (by subst hp; exact k)
theorem Wl.icmpF {cd : ClassFile.Cond} {x y : Int32} {o : Int} (G : Wl Z a0 own p l e R s m args below meth c code mx B EL h0 n0 ws sf h cells slots pc L (.int y :: .int x :: S)) (pc' : Nat) (hd : decode code pc = .ok (.if_icmp cd o, 3)) (hc : if_icmp.holds cd x y = false) (hp : pc + 3 = pc') : Wl Z a0 own p l e R s m args below meth c code mx B EL h0 n0 ws sf h cells slots pc' L S :=
  G.plain fun T H hx hy t k => XS.icmpNo (g := mkF m pc L (.int y :: .int x :: S)) H hx rfl (by rw [hy]; exact hd) rfl hc (by subst hp; exact k)
theorem Wl.ifnullF {b : Addr} {o : Int} (G : Wl Z a0 own p l e R s m args below meth c code mx B EL h0 n0 ws sf h cells slots pc L (.ref b :: S)) (pc' : Nat) (hd : decode code pc = .ok (.ifnull o, 3)) (hp : pc + 3 = pc') : Wl Z a0 own p l e R s m args below meth c code mx B EL h0 n0 ws sf h cells slots pc' L S :=
  G.plain fun T H hx hy t k => XS.ifnullNo (g := mkF m pc L (.ref b :: S)) H hx rfl (by rw [hy]; exact hd) rfl (by subst hp; exact k)
theorem Wl.ifnonnullF  {o : Int} (G : Wl Z a0 own p l e R s m args below meth c code mx B EL h0 n0 ws sf h cells slots pc L (.null :: S)) (pc' : Nat) (hd : decode code pc = .ok (.ifnonnull o, 3)) (hp : pc + 3 = pc') : Wl Z a0 own p l e R s m args below meth c code mx B EL h0 n0 ws sf h cells slots pc' L S :=
  G.plain fun T H hx hy t k => XT.ifnonnullNo (g := mkF m pc L (.null :: S)) H hx rfl (by rw [hy]; exact hd) rfl (by subst hp; exact k)
theorem Wl.acmpF {cd : ClassFile.ACond} {x y : Value} {o : Int} (G : Wl Z a0 own p l e R s m args below meth c code mx B EL h0 n0 ws sf h cells slots pc L (y :: x :: S)) (pc' : Nat) (hd : decode code pc = .ok (.if_acmp cd o, 3)) (hx1 : x.isRef = true) (hy1 : y.isRef = true) (hc : XT.acmp cd x y = false) (hp : pc + 3 = pc') : Wl Z a0 own p l e R s m args below meth c code mx B EL h0 n0 ws sf h cells slots pc' L S :=
  G.plain fun T H hx hy t k => XT.acmpNo (g := mkF m pc L (y :: x :: S)) H hx rfl (by rw [hy]; exact hd) rfl hx1 hy1 hc (by subst hp; exact k)
theorem ext_keep {h h' : Heap} (E : Ext h h') : Keep h h' [] := (Keep.refl h []).ext E
def NW (h0 : Heap) (ws : List Addr) (a : Addr) : Prop := a ∈ ws ∨ h0.size ≤ a
theorem NW.new {a : Addr} (q : h0.size ≤ a) : NW h0 ws a := Or.inr q
theorem ne_new {a b : Addr} {n : Nat} (q : a = n) (r : b < n) : b ≠ a := Nat.ne_of_lt (q.symm ▸ r)
theorem ne_ge {a b : Addr} {n : Nat} (r : a < n) (q : n ≤ b) : b ≠ a := (Nat.ne_of_lt (Nat.lt_of_lt_of_le r q)).symm
theorem Wl.new {C : String} {index n : Nat} (G : Wl Z a0 own p l e R s m args below meth c code mx B EL h0 n0 ws sf h cells slots pc L S) (pc' : Nat) (w : (Cond.classLink own index C).before a0 Z = true) (wi : (Cond.instantiable C n).before a0 Z = true) (wz : (Cond.initialized C).before a0 Z = true) (hd : decode code pc = .ok (.new index, 3)) (hp : pc + 3 = pc') (hc : cells + 1 ≤ R.cells) (hl : slots + n ≤ R.slots) : ∃ (a : Addr) (h' : Heap), Wl Z a0 own p l e R s m args below meth c code mx B EL h0 n0 ws (a :: sf) h' (cells + 1) (slots + n) pc' L (.ref a :: S) ∧ a = h.size ∧ h0.size ≤ a ∧ Ext h h' ∧ Exa Z h' a C ∧ (∀ {O nm d : String} {ty : FieldType}, Laid Z a0 C O nm d → parseFieldDescriptor d = some ty → Fld Z h' a O nm d (defaultValue ty)) ∧ Unt h' a := by
  obtain ⟨⟨hx, hby, hml, hEW⟩, ⟨o1, z2, z3, z1, es⟩, v0, k0, T, locs, X, ⟨hS, hk, hZ, hown⟩, ⟨hC, hF⟩, N, eT, k⟩ := G
  obtain ⟨T', h', X', e', E, A, D, U, st⟩ := newO X hx hZ hown w wi wz eT (g := mkF m pc L S) rfl (hb hby hd) hc hl
  exact ⟨h.size, h', ⟨⟨hx, hby, hml, hEW⟩, ⟨o1.ext E, z2.ext E, z3, z1, es⟩, v0, k0, T', _, X', ⟨hS, Nat.le_trans hk E.1, hZ, hown⟩, ⟨hC.trans (CHr.ext E hC.1), safeNew E hC.1 hF A.lt⟩, N, e', fun t q => k t (st t (by subst hp; exact q))⟩, rfl, z2.1, E, A, D, U⟩
theorem Wl.newarray {aty : ArrayType} {n : Int32} (G : Wl Z a0 own p l e R s m args below meth c code mx B EL h0 n0 ws sf h cells slots pc L (.int n :: S)) (pc' : Nat) (w : (Cond.arrayClass (newarray.typeOf aty)).before a0 Z = true) (hd : decode code pc = .ok (.newarray aty, 2)) (hn : ¬ n < 0) (cap : Nat) (hcap : n.toNatClampNeg ≤ cap) (hb8 : cap * 8 ≤ 536870912) (hp : pc + 2 = pc') (hc : cells + 1 ≤ R.cells) (hl : slots + cap ≤ R.slots) : ∃ (a : Addr) (h' : Heap) (k : ClassId), Wl Z a0 own p l e R s m args below meth c code mx B EL h0 n0 ws (a :: sf) h' (cells + 1) (slots + cap) pc' L (.ref a :: S) ∧ a = h.size ∧ h0.size ≤ a ∧ Ext h h' ∧ Arv Z h' a k (newarray.typeOf aty) n [] (defaultValue (newarray.typeOf aty)) := by
  obtain ⟨⟨hx, hby, hml, hEW⟩, ⟨o1, z2, z3, z1, es⟩, v0, k0, T, locs, X, ⟨hS, hk, hZ, hown⟩, ⟨hC, hF⟩, N, eT, k⟩ := G
  obtain ⟨T', h', cA, X', e', E, A, st⟩ := newP X hx hZ w eT (g := mkF m pc L (.int n :: S)) rfl (hb hby hd) rfl hn hcap hb8 hc hl
  exact ⟨h.size, h', cA, ⟨⟨hx, hby, hml, hEW⟩, ⟨o1.ext E, z2.ext E, z3, z1, es⟩, v0, k0, T', _, X', ⟨hS, Nat.le_trans hk E.1, hZ, hown⟩, ⟨hC.trans (CHr.ext E hC.1), safeNew E hC.1 hF A.lt⟩, N, e', fun t q => k t (st t (by subst hp; exact q))⟩, rfl, z2.1, E, Arv.new A hn⟩
theorem Wl.getf {R0 O n d host : String} {index : Nat} {a : Addr} {v : Value} (G : Wl Z a0 own p l e R s m args below meth c code mx B EL h0 n0 ws sf h cells slots pc L (.ref a :: S)) (pc' : Nat) (w : (Cond.fieldLink own index R0 n d).before a0 Z = true ∨ (Cond.fieldLinkNest own index R0 n d host).before a0 Z = true) (via : Via Z R0 O n d) (F : Fld Z h a O n d v) (hd : decode code pc = .ok (.getfield index, 3)) (hp : pc + 3 = pc') : Wl Z a0 own p l e R s m args below meth c code mx B EL h0 n0 ws sf h cells slots pc' L (v :: S) := by
  obtain ⟨⟨hx, hby, hml, hEW⟩, ⟨o1, z2, z3, z1, es⟩, v0, k0, T, locs, X, ⟨hS, hk, hZ, hown⟩, ⟨hC, hF⟩, N, eT, k⟩ := G
  obtain ⟨T', X', e', st⟩ := getF X hx hZ hown w via eT F (g := mkF m pc L (.ref a :: S)) rfl rfl (hb hby hd)
  exact ⟨⟨hx, hby, hml, hEW⟩, ⟨o1, z2, z3, z1, es⟩, v0, k0, T', _, X', ⟨hS, hk, hZ, hown⟩, ⟨hC, hF⟩, N, e', fun t q => k t (st t (by subst hp; exact q))⟩
theorem Wl.gets {R0 O n d host : String} {index : Nat} {v : Value} (G : Wl Z a0 own p l e R s m args below meth c code mx B EL h0 n0 ws sf h cells slots pc L S) (pc' : Nat) (w : (Cond.fieldLink own index R0 n d).before a0 Z = true ∨ (Cond.fieldLinkNest own index R0 n d host).before a0 Z = true) (via : Via Z R0 O n d) (F : Sta Z h O n d v) (hd : decode code pc = .ok (.getstatic index, 3)) (hp : pc + 3 = pc') : Wl Z a0 own p l e R s m args below meth c code mx B EL h0 n0 ws sf h cells slots pc' L (v :: S) := by
  obtain ⟨⟨hx, hby, hml, hEW⟩, ⟨o1, z2, z3, z1, es⟩, v0, k0, T, locs, X, ⟨hS, hk, hZ, hown⟩, ⟨hC, hF⟩, N, eT, k⟩ := G
  obtain ⟨T', X', e', st⟩ := getS2 X hx hZ hown w via eT F (g := mkF m pc L S) rfl (hb hby hd)
  exact ⟨⟨hx, hby, hml, hEW⟩, ⟨o1, z2, z3, z1, es⟩, v0, k0, T', _, X', ⟨hS, hk, hZ, hown⟩, ⟨hC, hF⟩, N, e', fun t q => k t (st t (by subst hp; exact q))⟩
theorem Wl.putf {R0 O n d host C : String} {index kk : Nat} {ty : FieldType} {a : Addr} {v old : Value} (G : Wl Z a0 own p l e R s m args below meth c code mx B EL h0 n0 ws sf h cells slots pc L (v :: .ref a :: S)) (pc' : Nat) (w : (Cond.fieldLink own index R0 n d).before a0 Z = true ∨ (Cond.fieldLinkNest own index R0 n d host).before a0 Z = true) (via : Via Z R0 O n d) (F : Fld Z h a O n d old) (E : Exa Z h a C) (lay : (Cond.lays C O n d).before a0 Z = true ∨ ((Cond.laysFinal C O n d).before a0 Z = true ∧ own = O ∧ meth.name = "<init>")) (wi : (Cond.instantiable C kk).before a0 Z = true) (hty : parseFieldDescriptor d = some ty) (hn : narrow ty v = v) (hf : fits ty v = true) (q : NW h0 ws a) (qs : a ∈ sf) (hd : decode code pc = .ok (.putfield index, 3)) (hp : pc + 3 = pc') : ∃ (h' : Heap), Wl Z a0 own p l e R s m args below meth c code mx B EL h0 n0 ws sf h' cells slots pc' L S ∧ Wr h h' a (Jvm.RoadKit.slotOf Z O n d) v ∧ Fld Z h' a O n d v ∧ Keep h h' [a] := by
  have qn := G.nw q
  obtain ⟨⟨hx, hby, hml, hEW⟩, ⟨o1, z2, z3, z1, es⟩, v0, k0, T, locs, X, ⟨hS, hk, hZ, hown⟩, ⟨hC, hF⟩, N, eT, k⟩ := G
  obtain ⟨T', h', X', e', W', st⟩ := putF X hx hZ hown w via eT F E lay wi hty hn hf (g := mkF m pc L (v :: .ref a :: S)) rfl rfl (hb hby hd)
  exact ⟨h', ⟨⟨hx, hby, hml, hEW⟩, ⟨o1.wr W' qn, z2.wr W' q, z3, z1, es⟩, v0, k0, T', _, X', ⟨hS, (by rw [W'.size]; exact hk), hZ, hown⟩, ⟨hC.trans (CHr.wr W' (hF _ qs).2 hC.1), safeKeep (Keep.of_wr W') (fun x y => by cases List.mem_singleton.mp y; exact (hF _ qs).2) hC.1 hF⟩, Fr.snoc X' N qn, e', fun t q => k t (st t (by subst hp; exact q))⟩, W', F.same W', Keep.of_wr W'⟩
theorem Wl.alen {a : Addr} {k : ClassId} {ty : FieldType} {z : Int32} {vs : List Value} {dv : Value} (G : Wl Z a0 own p l e R s m args below meth c code mx B EL h0 n0 ws sf h cells slots pc L (.ref a :: S)) (pc' : Nat) (A : Arv Z h a k ty z vs dv) (hd : decode code pc = .ok (.arraylength, 1)) (hp : pc + 1 = pc') : Wl Z a0 own p l e R s m args below meth c code mx B EL h0 n0 ws sf h cells slots pc' L (.int z :: S) := by
  obtain ⟨⟨hx, hby, hml, hEW⟩, ⟨o1, z2, z3, z1, es⟩, v0, k0, T, locs, X, ⟨hS, hk, hZ, hown⟩, ⟨hC, hF⟩, N, eT, k⟩ := G
  obtain ⟨cl, Ar, -, hSz, hN, -⟩ := A
  refine ⟨⟨hx, hby, hml, hEW⟩, ⟨o1, z2, z3, z1, es⟩, v0, k0, T, locs, X, ⟨hS, hk, hZ, hown⟩, ⟨hC, hF⟩, N, eT, fun t q => k t ?_⟩
  refine X.arraylength hx (by rw [eT]; exact Ar.1) (State.isArrayOf_alike hZ.alike Ar.2.1) (g := mkF m pc L (.ref a :: S)) rfl rfl (hb hby hd) _ ?_
  rw [len_of hSz hN]; exact hp ▸ q
theorem Wl.iaload {a : Addr} {k : ClassId} {z j : Int32} {vs : List Value} {dv v : Value} (G : Wl Z a0 own p l e R s m args below meth c code mx B EL h0 n0 ws sf h cells slots pc L (.int j :: .ref a :: S)) (pc' : Nat) (A : Arv Z h a k .int z vs dv) (hj : ¬ j < 0 ∧ j < z) (hv : vs.getD j.toNatClampNeg dv = v) (hd : decode code pc = .ok (.iaload, 1)) (hp : pc + 1 = pc') : Wl Z a0 own p l e R s m args below meth c code mx B EL h0 n0 ws sf h cells slots pc' L (v :: S) := by
  obtain ⟨⟨hx, hby, hml, hEW⟩, ⟨o1, z2, z3, z1, es⟩, v0, k0, T, locs, X, ⟨hS, hk, hZ, hown⟩, ⟨hC, hF⟩, N, eT, k⟩ := G
  obtain ⟨cl, Ar, -, hSz, hN, H, -⟩ := A
  refine ⟨⟨hx, hby, hml, hEW⟩, ⟨o1, z2, z3, z1, es⟩, v0, k0, T, locs, X, ⟨hS, hk, hZ, hown⟩, ⟨hC, hF⟩, N, eT, fun t q => k t ?_⟩
  have hin := inb_of hSz hj
  exact X.iaload hx (by rw [eT]; exact Ar.1) (State.isArrayOf_alike hZ.alike Ar.2.1) Ar.2.2 hin (H.at hin hv) (g := mkF m pc L (.int j :: .ref a :: S)) rfl rfl (hb hby hd) t (by subst hp; exact q)
theorem Wl.laload {a : Addr} {k : ClassId} {z j : Int32} {vs : List Value} {dv v : Value} (G : Wl Z a0 own p l e R s m args below meth c code mx B EL h0 n0 ws sf h cells slots pc L (.int j :: .ref a :: S)) (pc' : Nat) (A : Arv Z h a k .long z vs dv) (hj : ¬ j < 0 ∧ j < z) (hv : vs.getD j.toNatClampNeg dv = v) (hd : decode code pc = .ok (.laload, 1)) (hp : pc + 1 = pc') : Wl Z a0 own p l e R s m args below meth c code mx B EL h0 n0 ws sf h cells slots pc' L (v :: S) := by
  obtain ⟨⟨hx, hby, hml, hEW⟩, ⟨o1, z2, z3, z1, es⟩, v0, k0, T, locs, X, ⟨hS, hk, hZ, hown⟩, ⟨hC, hF⟩, N, eT, k⟩ := G
  obtain ⟨cl, Ar, -, hSz, hN, H, -⟩ := A
  refine ⟨⟨hx, hby, hml, hEW⟩, ⟨o1, z2, z3, z1, es⟩, v0, k0, T, locs, X, ⟨hS, hk, hZ, hown⟩, ⟨hC, hF⟩, N, eT, fun t q => k t ?_⟩
  have hin := inb_of hSz hj
  exact X.laload hx (by rw [eT]; exact Ar.1) (State.isArrayOf_alike hZ.alike Ar.2.1) Ar.2.2 hin (H.at hin hv) (g := mkF m pc L (.int j :: .ref a :: S)) rfl rfl (hb hby hd) t (by subst hp; exact q)
theorem Wl.caload {a : Addr} {k : ClassId} {z j : Int32} {vs : List Value} {dv v : Value} (G : Wl Z a0 own p l e R s m args below meth c code mx B EL h0 n0 ws sf h cells slots pc L (.int j :: .ref a :: S)) (pc' : Nat) (A : Arv Z h a k .char z vs dv) (hj : ¬ j < 0 ∧ j < z) (hv : vs.getD j.toNatClampNeg dv = v) (hd : decode code pc = .ok (.caload, 1)) (hp : pc + 1 = pc') : Wl Z a0 own p l e R s m args below meth c code mx B EL h0 n0 ws sf h cells slots pc' L (v :: S) := by
  obtain ⟨⟨hx, hby, hml, hEW⟩, ⟨o1, z2, z3, z1, es⟩, v0, k0, T, locs, X, ⟨hS, hk, hZ, hown⟩, ⟨hC, hF⟩, N, eT, k⟩ := G
  obtain ⟨cl, Ar, -, hSz, hN, H, -⟩ := A
  refine ⟨⟨hx, hby, hml, hEW⟩, ⟨o1, z2, z3, z1, es⟩, v0, k0, T, locs, X, ⟨hS, hk, hZ, hown⟩, ⟨hC, hF⟩, N, eT, fun t q => k t ?_⟩
  have hin := inb_of hSz hj
  exact X.caload hx (by rw [eT]; exact Ar.1) (State.isArrayOf_alike hZ.alike Ar.2.1) Ar.2.2 hin (H.at hin hv) (g := mkF m pc L (.int j :: .ref a :: S)) rfl rfl (hb hby hd) t (by subst hp; exact q)
theorem Wl.baload {a : Addr} {k : ClassId} {z j : Int32} {vs : List Value} {dv v : Value} (G : Wl Z a0 own p l e R s m args below meth c code mx B EL h0 n0 ws sf h cells slots pc L (.int j :: .ref a :: S)) (pc' : Nat) (A : Arv Z h a k .byte z vs dv) (hj : ¬ j < 0 ∧ j < z) (hv : vs.getD j.toNatClampNeg dv = v) (hd : decode code pc = .ok (.baload, 1)) (hp : pc + 1 = pc') : Wl Z a0 own p l e R s m args below meth c code mx B EL h0 n0 ws sf h cells slots pc' L (v :: S) := by
  obtain ⟨⟨hx, hby, hml, hEW⟩, ⟨o1, z2, z3, z1, es⟩, v0, k0, T, locs, X, ⟨hS, hk, hZ, hown⟩, ⟨hC, hF⟩, N, eT, k⟩ := G
  obtain ⟨cl, Ar, -, hSz, hN, H, -⟩ := A
  refine ⟨⟨hx, hby, hml, hEW⟩, ⟨o1, z2, z3, z1, es⟩, v0, k0, T, locs, X, ⟨hS, hk, hZ, hown⟩, ⟨hC, hF⟩, N, eT, fun t q => k t ?_⟩
  have hin := inb_of hSz hj
  exact X.baloadBytes hx (by rw [eT]; exact Ar.1) (State.isArrayOf_alike hZ.alike Ar.2.1) Ar.2.2 hin (H.at hin hv) (g := mkF m pc L (.int j :: .ref a :: S)) rfl rfl (hb hby hd) t (by subst hp; exact q)
theorem Wl.daload {a : Addr} {k : ClassId} {z j : Int32} {vs : List Value} {dv v : Value} (G : Wl Z a0 own p l e R s m args below meth c code mx B EL h0 n0 ws sf h cells slots pc L (.int j :: .ref a :: S)) (pc' : Nat) (A : Arv Z h a k .double z vs dv) (hj : ¬ j < 0 ∧ j < z) (hv : vs.getD j.toNatClampNeg dv = v) (hd : decode code pc = .ok (.daload, 1)) (hp : pc + 1 = pc') : Wl Z a0 own p l e R s m args below meth c code mx B EL h0 n0 ws sf h cells slots pc' L (v :: S) := by
  obtain ⟨⟨hx, hby, hml, hEW⟩, ⟨o1, z2, z3, z1, es⟩, v0, k0, T, locs, X, ⟨hS, hk, hZ, hown⟩, ⟨hC, hF⟩, N, eT, k⟩ := G
  obtain ⟨cl, Ar, -, hSz, hN, H, -⟩ := A
  refine ⟨⟨hx, hby, hml, hEW⟩, ⟨o1, z2, z3, z1, es⟩, v0, k0, T, locs, X, ⟨hS, hk, hZ, hown⟩, ⟨hC, hF⟩, N, eT, fun t q => k t ?_⟩
  have hin := inb_of hSz hj
  exact X.daload hx (by rw [eT]; exact Ar.1) (State.isArrayOf_alike hZ.alike Ar.2.1) Ar.2.2 hin (H.at hin hv) (g := mkF m pc L (.int j :: .ref a :: S)) rfl rfl (hb hby hd) t (by subst hp; exact q)
theorem Wl.iastore {a : Addr} {k : ClassId} {z j : Int32} {x : Int32} {vs : List Value} {dv : Value} (G : Wl Z a0 own p l e R s m args below meth c code mx B EL h0 n0 ws sf h cells slots pc L (.int x :: .int j :: .ref a :: S)) (pc' : Nat) (i : Nat) (A : Arv Z h a k .int z vs dv) (hj : ¬ j < 0 ∧ j < z) (hi : j.toNatClampNeg = i) (hl : i < vs.length) (q : NW h0 ws a) (qs : a ∈ sf) (hd : decode code pc = .ok (.iastore, 1)) (hp : pc + 1 = pc') : ∃ (h' : Heap), Wl Z a0 own p l e R s m args below meth c code mx B EL h0 n0 ws sf h' cells slots pc' L S ∧ Arv Z h' a k .int z (vs.set i (.int x)) dv ∧ Keep h h' [a] := by
  have qn := G.nw q
  obtain ⟨⟨hx, hby, hml, hEW⟩, ⟨o1, z2, z3, z1, es⟩, v0, k0, T, locs, X, ⟨hS, hk, hZ, hown⟩, ⟨hC, hF⟩, N, eT, k⟩ := G
  obtain ⟨cl, Ar, q1, hSz, hN, H, F⟩ := A
  obtain ⟨T', h', X', e', W', st⟩ := stI X hx hZ eT Ar (inb_of hSz hj) (g := mkF m pc L (.int x :: .int j :: .ref a :: S)) rfl rfl (hb hby hd)
  exact ⟨h', ⟨⟨hx, hby, hml, hEW⟩, ⟨o1.wr W' qn, z2.wr W' q, z3, z1, es⟩, v0, k0, T', _, X', ⟨hS, (by rw [W'.size]; exact hk), hZ, hown⟩, ⟨hC.trans (CHr.wr W' (hF _ qs).2 hC.1), safeKeep (Keep.of_wr W') (fun x y => by cases List.mem_singleton.mp y; exact (hF _ qs).2) hC.1 hF⟩, Fr.snoc X' N qn, e', fun t q => k t (st t (by subst hp; exact q))⟩, Arv.set Ar q1 hSz hN H F rfl W' i hi hl, Keep.of_wr W'⟩
theorem Wl.lastore {a : Addr} {k : ClassId} {z j : Int32} {x : Int64} {vs : List Value} {dv : Value} (G : Wl Z a0 own p l e R s m args below meth c code mx B EL h0 n0 ws sf h cells slots pc L (.long x :: .int j :: .ref a :: S)) (pc' : Nat) (i : Nat) (A : Arv Z h a k .long z vs dv) (hj : ¬ j < 0 ∧ j < z) (hi : j.toNatClampNeg = i) (hl : i < vs.length) (q : NW h0 ws a) (qs : a ∈ sf) (hd : decode code pc = .ok (.lastore, 1)) (hp : pc + 1 = pc') : ∃ (h' : Heap), Wl Z a0 own p l e R s m args below meth c code mx B EL h0 n0 ws sf h' cells slots pc' L S ∧ Arv Z h' a k .long z (vs.set i (.long x)) dv ∧ Keep h h' [a] := by
  have qn := G.nw q
  obtain ⟨⟨hx, hby, hml, hEW⟩, ⟨o1, z2, z3, z1, es⟩, v0, k0, T, locs, X, ⟨hS, hk, hZ, hown⟩, ⟨hC, hF⟩, N, eT, k⟩ := G
  obtain ⟨cl, Ar, q1, hSz, hN, H, F⟩ := A
  obtain ⟨T', h', X', e', W', st⟩ := stJ X hx hZ eT Ar (inb_of hSz hj) (g := mkF m pc L (.long x :: .int j :: .ref a :: S)) rfl rfl (hb hby hd)
  exact ⟨h', ⟨⟨hx, hby, hml, hEW⟩, ⟨o1.wr W' qn, z2.wr W' q, z3, z1, es⟩, v0, k0, T', _, X', ⟨hS, (by rw [W'.size]; exact hk), hZ, hown⟩, ⟨hC.trans (CHr.wr W' (hF _ qs).2 hC.1), safeKeep (Keep.of_wr W') (fun x y => by cases List.mem_singleton.mp y; exact (hF _ qs).2) hC.1 hF⟩, Fr.snoc X' N qn, e', fun t q => k t (st t (by subst hp; exact q))⟩, Arv.set Ar q1 hSz hN H F rfl W' i hi hl, Keep.of_wr W'⟩
theorem Wl.dastore {a : Addr} {k : ClassId} {z j : Int32} {x : UInt64} {vs : List Value} {dv : Value} (G : Wl Z a0 own p l e R s m args below meth c code mx B EL h0 n0 ws sf h cells slots pc L (.double x :: .int j :: .ref a :: S)) (pc' : Nat) (i : Nat) (A : Arv Z h a k .double z vs dv) (hj : ¬ j < 0 ∧ j < z) (hi : j.toNatClampNeg = i) (hl : i < vs.length) (q : NW h0 ws a) (qs : a ∈ sf) (hd : decode code pc = .ok (.dastore, 1)) (hp : pc + 1 = pc') : ∃ (h' : Heap), Wl Z a0 own p l e R s m args below meth c code mx B EL h0 n0 ws sf h' cells slots pc' L S ∧ Arv Z h' a k .double z (vs.set i (.double x)) dv ∧ Keep h h' [a] := by
  have qn := G.nw q
  obtain ⟨⟨hx, hby, hml, hEW⟩, ⟨o1, z2, z3, z1, es⟩, v0, k0, T, locs, X, ⟨hS, hk, hZ, hown⟩, ⟨hC, hF⟩, N, eT, k⟩ := G
  obtain ⟨cl, Ar, q1, hSz, hN, H, F⟩ := A
  obtain ⟨T', h', X', e', W', st⟩ := stD X hx hZ eT Ar (inb_of hSz hj) (g := mkF m pc L (.double x :: .int j :: .ref a :: S)) rfl rfl (hb hby hd)
  exact ⟨h', ⟨⟨hx, hby, hml, hEW⟩, ⟨o1.wr W' qn, z2.wr W' q, z3, z1, es⟩, v0, k0, T', _, X', ⟨hS, (by rw [W'.size]; exact hk), hZ, hown⟩, ⟨hC.trans (CHr.wr W' (hF _ qs).2 hC.1), safeKeep (Keep.of_wr W') (fun x y => by cases List.mem_singleton.mp y; exact (hF _ qs).2) hC.1 hF⟩, Fr.snoc X' N qn, e', fun t q => k t (st t (by subst hp; exact q))⟩, Arv.set Ar q1 hSz hN H F rfl W' i hi hl, Keep.of_wr W'⟩
theorem Wl.castore {a : Addr} {k : ClassId} {z j : Int32} {x : Int32} {vs : List Value} {dv : Value} (G : Wl Z a0 own p l e R s m args below meth c code mx B EL h0 n0 ws sf h cells slots pc L (.int x :: .int j :: .ref a :: S)) (pc' : Nat) (i : Nat) (A : Arv Z h a k .char z vs dv) (hj : ¬ j < 0 ∧ j < z) (hi : j.toNatClampNeg = i) (hl : i < vs.length) (q : NW h0 ws a) (qs : a ∈ sf) (hd : decode code pc = .ok (.castore, 1)) (hp : pc + 1 = pc') : ∃ (h' : Heap), Wl Z a0 own p l e R s m args below meth c code mx B EL h0 n0 ws sf h' cells slots pc' L S ∧ Arv Z h' a k .char z (vs.set i (.int (nar .char x))) dv ∧ Keep h h' [a] := by
  have qn := G.nw q
  obtain ⟨⟨hx, hby, hml, hEW⟩, ⟨o1, z2, z3, z1, es⟩, v0, k0, T, locs, X, ⟨hS, hk, hZ, hown⟩, ⟨hC, hF⟩, N, eT, k⟩ := G
  obtain ⟨cl, Ar, q1, hSz, hN, H, F⟩ := A
  obtain ⟨T', h', X', e', W', st⟩ := stC X hx hZ eT Ar (inb_of hSz hj) (g := mkF m pc L (.int x :: .int j :: .ref a :: S)) rfl rfl (hb hby hd)
  exact ⟨h', ⟨⟨hx, hby, hml, hEW⟩, ⟨o1.wr W' qn, z2.wr W' q, z3, z1, es⟩, v0, k0, T', _, X', ⟨hS, (by rw [W'.size]; exact hk), hZ, hown⟩, ⟨hC.trans (CHr.wr W' (hF _ qs).2 hC.1), safeKeep (Keep.of_wr W') (fun x y => by cases List.mem_singleton.mp y; exact (hF _ qs).2) hC.1 hF⟩, Fr.snoc X' N qn, e', fun t q => k t (st t (by subst hp; exact q))⟩, Arv.set Ar q1 hSz hN H F (fits_nar_char x) W' i hi hl, Keep.of_wr W'⟩
theorem Wl.bastore {a : Addr} {k : ClassId} {z j : Int32} {x : Int32} {vs : List Value} {dv : Value} (G : Wl Z a0 own p l e R s m args below meth c code mx B EL h0 n0 ws sf h cells slots pc L (.int x :: .int j :: .ref a :: S)) (pc' : Nat) (i : Nat) (A : Arv Z h a k .byte z vs dv) (hj : ¬ j < 0 ∧ j < z) (hi : j.toNatClampNeg = i) (hl : i < vs.length) (q : NW h0 ws a) (qs : a ∈ sf) (hd : decode code pc = .ok (.bastore, 1)) (hp : pc + 1 = pc') : ∃ (h' : Heap), Wl Z a0 own p l e R s m args below meth c code mx B EL h0 n0 ws sf h' cells slots pc' L S ∧ Arv Z h' a k .byte z (vs.set i (.int x.toInt8.toInt32)) dv ∧ Keep h h' [a] := by
  have qn := G.nw q
  obtain ⟨⟨hx, hby, hml, hEW⟩, ⟨o1, z2, z3, z1, es⟩, v0, k0, T, locs, X, ⟨hS, hk, hZ, hown⟩, ⟨hC, hF⟩, N, eT, k⟩ := G
  obtain ⟨cl, Ar, q1, hSz, hN, H, F⟩ := A
  obtain ⟨T', h', X', e', W', st⟩ := stB X hx hZ eT Ar (inb_of hSz hj) (g := mkF m pc L (.int x :: .int j :: .ref a :: S)) rfl rfl (hb hby hd)
  exact ⟨h', ⟨⟨hx, hby, hml, hEW⟩, ⟨o1.wr W' qn, z2.wr W' q, z3, z1, es⟩, v0, k0, T', _, X', ⟨hS, (by rw [W'.size]; exact hk), hZ, hown⟩, ⟨hC.trans (CHr.wr W' (hF _ qs).2 hC.1), safeKeep (Keep.of_wr W') (fun x y => by cases List.mem_singleton.mp y; exact (hF _ qs).2) hC.1 hF⟩, Fr.snoc X' N qn, e', fun t q => k t (st t (by subst hp; exact q))⟩, Arv.set Ar q1 hSz hN H F (fits_nar_byte x) W' i hi hl, Keep.of_wr W'⟩
theorem Wl.newarrayE {aty : ArrayType} {n : Int32} {ad : String} (G : Wl Z a0 own p l e R s m args below meth c code mx B EL h0 n0 ws sf h cells slots pc L (.int n :: S)) (pc' : Nat) (w : (Cond.arrayClass (newarray.typeOf aty)).before a0 Z = true) (had : "[" ++ (newarray.typeOf aty).toString = ad) (hd : decode code pc = .ok (.newarray aty, 2)) (hn : ¬ n < 0) (cap : Nat) (hcap : n.toNatClampNeg ≤ cap) (hb8 : cap * 8 ≤ 536870912) (hp : pc + 2 = pc') (hc : cells + 1 ≤ R.cells) (hl : slots + cap ≤ R.slots) : ∃ (a : Addr) (h' : Heap) (k : ClassId), Wl Z a0 own p l e R s m args below meth c code mx B EL h0 n0 ws (a :: sf) h' (cells + 1) (slots + cap) pc' L (.ref a :: S) ∧ a = h.size ∧ h0.size ≤ a ∧ Ext h h' ∧ Arv Z h' a k (newarray.typeOf aty) n [] (defaultValue (newarray.typeOf aty)) ∧ Exa Z h' a ad := by
  obtain ⟨⟨hx, hby, hml, hEW⟩, ⟨o1, z2, z3, z1, es⟩, v0, k0, T, locs, X, ⟨hS, hk, hZ, hown⟩, ⟨hC, hF⟩, N, eT, k⟩ := G
  obtain ⟨T', h', cA, X', e', E, A, Ex, st⟩ := newPE X hx hZ w eT (g := mkF m pc L (.int n :: S)) rfl (hb hby hd) rfl hn hcap hb8 hc hl had
  exact ⟨h.size, h', cA, ⟨⟨hx, hby, hml, hEW⟩, ⟨o1.ext E, z2.ext E, z3, z1, es⟩, v0, k0, T', _, X', ⟨hS, Nat.le_trans hk E.1, hZ, hown⟩, ⟨hC.trans (CHr.ext E hC.1), safeNew E hC.1 hF A.lt⟩, N, e', fun t q => k t (st t (by subst hp; exact q))⟩, rfl, z2.1, E, Arv.new A hn, Ex⟩
theorem fitC_of {a : Addr} {cl : Cell} {ty : FieldType} {vs : List Value} {dv : Value} (A : Arr Z h a cl ty) (H : Has cl vs dv) (F : ∀ i, i < cl.slots.size → fits ty (vs.getD i dv) = true) : FitC Z cl := fun i v hv => by
  obtain ⟨hi, -⟩ := Array.getElem?_eq_some_iff.mp hv
  have e := H i hi
  rw [hv] at e
  obtain ⟨-, k, hk, comp, hkind⟩ := A.2.1
  simp only [State.fitsSlot, State.slotType?, hk, hkind, Option.bind_eq_bind, Option.bind_some]
  rw [Option.some.inj e]; exact F i hi
theorem Wl.cloneV {ad : String} {index : Nat} {a : Addr} {k : ClassId} {ty : FieldType} {z : Int32} {vs : List Value} {dv : Value} (G : Wl Z a0 own p l e R s m args below meth c code mx B EL h0 n0 ws sf h cells slots pc L (.ref a :: S)) (pc' : Nat) (w1 : (Cond.methodLink own index ⟨ad, "clone", "()Ljava/lang/Object;"⟩).before a0 Z = true) (w2 : (Cond.sameMethod ad "java/lang/Object" "clone" "()Ljava/lang/Object;").before a0 Z = true) (w3 : (Cond.native ⟨"java/lang/Object", "clone", "()Ljava/lang/Object;"⟩).before a0 Z = true) (w4 : (Cond.instanceMethod ⟨"java/lang/Object", "clone", "()Ljava/lang/Object;"⟩).before a0 Z = true) (w5 : (Cond.selects ad ⟨ad, "clone", "()Ljava/lang/Object;"⟩ ⟨"java/lang/Object", "clone", "()Ljava/lang/Object;"⟩).before a0 Z = true) (w6 : (Cond.castable ad "java/lang/Cloneable").before a0 Z = true) (A : Arv Z h a k ty z vs dv) (E0 : Exa Z h a ad) (hd : decode code pc = .ok (.invokevirtual index, 3)) (hz : L.size = mx) (hf : 1 ≤ R.frames) (hlo : (S.map fun v => v.category).sum + 14 ≤ R.locals) (cap : Nat) (hcap : z.toNatClampNeg ≤ cap) (hc : cells + 1 ≤ R.cells) (hl : slots + cap ≤ R.slots) (hp : pc + 3 = pc') : ∃ (b : Addr) (h' : Heap), Wl Z a0 own p l e R s m args below meth c code mx B EL h0 n0 ws (b :: sf) h' (cells + 1) (slots + cap) pc' L (.ref b :: S) ∧ b = h.size ∧ h0.size ≤ b ∧ Ext h h' ∧ Arv Z h' b k ty z vs dv ∧ Exa Z h' b ad := by
  obtain ⟨⟨hx, hby, hml, hEW⟩, ⟨o1, z2, z3, z1, es⟩, v0, k0, T, locs, X, ⟨hS, hk, hZ, hown⟩, ⟨hC, hF⟩, N, eT, k⟩ := G
  obtain ⟨cl, Ar, q1, hSz, hN, H, F⟩ := A
  obtain ⟨T', h', X', e', E, A', Ex, st⟩ := cloneA (s := s.setVm v0) X hx hZ hown w1 w2 w3 w4 w5 w6 eT Ar E0 (fitC_of Ar H F) (g := mkF m pc L (.ref a :: S)) rfl (hz.trans hml.symm) rfl (hb hby hd) hf (W := (S.map fun v => v.category).sum) (by show 2 * 0 + _ ≤ _; omega) hlo (cap := cap) (by rw [hSz]; exact hcap) hc hl
  exact ⟨h.size, h', ⟨⟨hx, hby, hml, hEW⟩, ⟨o1.ext E, z2.ext E, z3, z1, es⟩, v0, k0, T', _, X', ⟨hS, Nat.le_trans hk E.1, hZ, hown⟩, ⟨hC.trans (CHr.ext E hC.1), safeNew E hC.1 hF A'.lt⟩, N, e', fun t q => k t (st t (by subst hp; exact q))⟩, rfl, z2.1, E, ⟨cloneOf cl, A', q1, hSz, hN, H, F⟩, Ex⟩
theorem Wl.anewR {C : String} {index : Nat} {n : Int32} (G : Wl Z a0 own p l e R s m args below meth c code mx B EL h0 n0 ws sf h cells slots pc L (.int n :: S)) (pc' : Nat) (w1 : (Cond.classLink own index C).before a0 Z = true) (w2 : (Cond.arrayOver (.object C)).before a0 Z = true) (hd : decode code pc = .ok (.anewarray index, 3)) (hn : ¬ n < 0) (cap : Nat) (hcap : n.toNatClampNeg ≤ cap) (hb8 : cap * 8 ≤ 536870912) (hp : pc + 3 = pc') (hc : cells + 1 ≤ R.cells) (hl : slots + cap ≤ R.slots) : ∃ (a : Addr) (h' : Heap) (k : ClassId), Wl Z a0 own p l e R s m args below meth c code mx B EL h0 n0 ws (a :: sf) h' (cells + 1) (slots + cap) pc' L (.ref a :: S) ∧ a = h.size ∧ h0.size ≤ a ∧ Ext h h' ∧ Arv Z h' a k (.object C) n [] .null ∧ Ovr Z k C := by
  obtain ⟨⟨hx, hby, hml, hEW⟩, ⟨o1, z2, z3, z1, es⟩, v0, k0, T, locs, X, ⟨hS, hk, hZ, hown⟩, ⟨hC, hF⟩, N, eT, k⟩ := G
  obtain ⟨T', h', cA, X', e', E, A, O, st⟩ := newR (s := s.setVm v0) X hx hZ hown w1 w2 eT (g := mkF m pc L (.int n :: S)) rfl (hb hby hd) rfl hn hcap hb8 hc hl
  exact ⟨h.size, h', cA, ⟨⟨hx, hby, hml, hEW⟩, ⟨o1.ext E, z2.ext E, z3, z1, es⟩, v0, k0, T', _, X', ⟨hS, Nat.le_trans hk E.1, hZ, hown⟩, ⟨hC.trans (CHr.ext E hC.1), safeNew E hC.1 hF A.lt⟩, N, e', fun t q => k t (st t (by subst hp; exact q))⟩, rfl, z2.1, E, Arv.new A hn, O⟩
theorem Wl.aaload {a : Addr} {k : ClassId} {z j : Int32} {C : String} {vs : List Value} {dv v : Value} (G : Wl Z a0 own p l e R s m args below meth c code mx B EL h0 n0 ws sf h cells slots pc L (.int j :: .ref a :: S)) (pc' : Nat) (A : Arv Z h a k (.object C) z vs dv) (hj : ¬ j < 0 ∧ j < z) (hv : vs.getD j.toNatClampNeg dv = v) (hd : decode code pc = .ok (.aaload, 1)) (hp : pc + 1 = pc') : Wl Z a0 own p l e R s m args below meth c code mx B EL h0 n0 ws sf h cells slots pc' L (v :: S) := by
  obtain ⟨⟨hx, hby, hml, hEW⟩, ⟨o1, z2, z3, z1, es⟩, v0, k0, T, locs, X, ⟨hS, hk, hZ, hown⟩, ⟨hC, hF⟩, N, eT, k⟩ := G
  obtain ⟨cl, Ar, -, hSz, hN, H, -⟩ := A
  refine ⟨⟨hx, hby, hml, hEW⟩, ⟨o1, z2, z3, z1, es⟩, v0, k0, T, locs, X, ⟨hS, hk, hZ, hown⟩, ⟨hC, hF⟩, N, eT, fun t q => k t ?_⟩
  have hin := inb_of hSz hj
  exact X.aaload hx (by rw [eT]; exact Ar.1) (State.isArrayOf_alike hZ.alike Ar.2.1) rfl Ar.2.2 hin (H.at hin hv) (g := mkF m pc L (.int j :: .ref a :: S)) rfl rfl (hb hby hd) t (by subst hp; exact q)
theorem Wl.aastore {a y : Addr} {k : ClassId} {z j : Int32} {C : String} {vs : List Value} {dv : Value} (G : Wl Z a0 own p l e R s m args below meth c code mx B EL h0 n0 ws sf h cells slots pc L (.ref y :: .int j :: .ref a :: S)) (pc' : Nat) (i : Nat) (A : Arv Z h a k (.object C) z vs dv) (O : Ovr Z k C) (I : Ins Z h y C true) (hj : ¬ j < 0 ∧ j < z) (hi : j.toNatClampNeg = i) (hl : i < vs.length) (q : NW h0 ws a) (qs : a ∈ sf) (hd : decode code pc = .ok (.aastore, 1)) (hp : pc + 1 = pc') : ∃ (h' : Heap), Wl Z a0 own p l e R s m args below meth c code mx B EL h0 n0 ws sf h' cells slots pc' L S ∧ Arv Z h' a k (.object C) z (vs.set i (.ref y)) dv ∧ Keep h h' [a] := by
  have qn := G.nw q
  obtain ⟨⟨hx, hby, hml, hEW⟩, ⟨o1, z2, z3, z1, es⟩, v0, k0, T, locs, X, ⟨hS, hk, hZ, hown⟩, ⟨hC, hF⟩, N, eT, k⟩ := G
  obtain ⟨cl, Ar, q1, hSz, hN, H, F⟩ := A
  obtain ⟨T', h', X', e', W', st⟩ := stR X hx hZ eT Ar (inb_of hSz hj) rfl (Sto.of Ar (q1 ▸ O) I) (g := mkF m pc L (.ref y :: .int j :: .ref a :: S)) rfl rfl (hb hby hd)
  exact ⟨h', ⟨⟨hx, hby, hml, hEW⟩, ⟨o1.wr W' qn, z2.wr W' q, z3, z1, es⟩, v0, k0, T', _, X', ⟨hS, (by rw [W'.size]; exact hk), hZ, hown⟩, ⟨hC.trans (CHr.wr W' (hF _ qs).2 hC.1), safeKeep (Keep.of_wr W') (fun x y => by cases List.mem_singleton.mp y; exact (hF _ qs).2) hC.1 hF⟩, Fr.snoc X' N qn, e', fun t q => k t (st t (by subst hp; exact q))⟩, Arv.set Ar q1 hSz hN H F rfl W' i hi hl, Keep.of_wr W'⟩
theorem Wl.initO {a : Addr} {idx : Nat} (G : Wl Z a0 own p l e R s m args below meth c code mx B EL h0 n0 ws sf h cells slots pc L (.ref a :: S)) (pc' : Nat) (w1 : (Cond.methodLink own idx Lib.objectInit).before a0 Z = true) (w2 : (Cond.instanceMethod Lib.objectInit).before a0 Z = true) (w3 : (Cond.code Lib.objectInit ⟨#[0xb1]⟩ 1 none).before a0 Z = true) (hd : decode code pc = .ok (.invokespecial idx, 3)) (hz : L.size = mx) (hf : 1 ≤ R.frames) (hl : (S.map fun v => v.category).sum + 12 ≤ R.locals) (hp : pc + 3 = pc') : Wl Z a0 own p l e R s m args below meth c code mx B EL h0 n0 ws sf h cells slots pc' L S := by
  obtain ⟨⟨hx, hby, hml, hEW⟩, ⟨o1, z2, z3, z1, es⟩, v0, k0, T, locs, X, ⟨hS, hk, hZ, hown⟩, ⟨hC, hF⟩, N, eT, k⟩ := G
  obtain ⟨T', X', e', st⟩ := Jvm.RoadKit.initO X hx hZ hown w1 w2 w3 eT (g := mkF m pc L (.ref a :: S)) rfl (hz.trans hml.symm) rfl (hb hby hd) hf (W := (S.map fun v => v.category).sum) (by show 2 * 0 + _ ≤ _; omega) hl
  exact ⟨⟨hx, hby, hml, hEW⟩, ⟨o1, z2, z3, z1, es⟩, v0, k0, T', _, X', ⟨hS, hk, hZ, hown⟩, ⟨hC, hF⟩, N, e', fun t q => k t (st t (by subst hp; exact q))⟩
theorem Wl.ldcI {index : Nat} {v : Int32} (G : Wl Z a0 own p l e R s m args below meth c code mx B EL h0 n0 ws sf h cells slots pc L S) (pc' : Nat) (w : (Cond.constant own index v).before a0 Z = true) (hd : decode code pc = .ok (.ldc index, 2)) (hp : pc + 2 = pc') : Wl Z a0 own p l e R s m args below meth c code mx B EL h0 n0 ws sf h cells slots pc' L (.int v :: S) := by
  obtain ⟨⟨hx, hby, hml, hEW⟩, ⟨o1, z2, z3, z1, es⟩, v0, k0, T, locs, X, ⟨hS, hk, hZ, hown⟩, ⟨hC, hF⟩, N, eT, k⟩ := G
  exact ⟨⟨hx, hby, hml, hEW⟩, ⟨o1, z2, z3, z1, es⟩, v0, k0, T, locs, X, ⟨hS, hk, hZ, hown⟩, ⟨hC, hF⟩, N, eT, fun t q => k t (X.ldcInt hx hown (mvT hZ w) (g := mkF m pc L S) rfl (hb hby hd) t (by subst hp; exact q))⟩
theorem Wl.ldcWI {index : Nat} {v : Int32} (G : Wl Z a0 own p l e R s m args below meth c code mx B EL h0 n0 ws sf h cells slots pc L S) (pc' : Nat) (w : (Cond.constant own index v).before a0 Z = true) (hd : decode code pc = .ok (.ldc_w index, 3)) (hp : pc + 3 = pc') : Wl Z a0 own p l e R s m args below meth c code mx B EL h0 n0 ws sf h cells slots pc' L (.int v :: S) := by
  obtain ⟨⟨hx, hby, hml, hEW⟩, ⟨o1, z2, z3, z1, es⟩, v0, k0, T, locs, X, ⟨hS, hk, hZ, hown⟩, ⟨hC, hF⟩, N, eT, k⟩ := G
  exact ⟨⟨hx, hby, hml, hEW⟩, ⟨o1, z2, z3, z1, es⟩, v0, k0, T, locs, X, ⟨hS, hk, hZ, hown⟩, ⟨hC, hF⟩, N, eT, fun t q => k t (X.ldcWInt hx hown (mvT hZ w) (g := mkF m pc L S) rfl (hb hby hd) t (by subst hp; exact q))⟩
theorem Wl.ldc2J {index : Nat} {v : Int64} (G : Wl Z a0 own p l e R s m args below meth c code mx B EL h0 n0 ws sf h cells slots pc L S) (pc' : Nat) (w : (Cond.constantLong own index v).before a0 Z = true) (hd : decode code pc = .ok (.ldc2_w index, 3)) (hp : pc + 3 = pc') : Wl Z a0 own p l e R s m args below meth c code mx B EL h0 n0 ws sf h cells slots pc' L (.long v :: S) := by
  obtain ⟨⟨hx, hby, hml, hEW⟩, ⟨o1, z2, z3, z1, es⟩, v0, k0, T, locs, X, ⟨hS, hk, hZ, hown⟩, ⟨hC, hF⟩, N, eT, k⟩ := G
  exact ⟨⟨hx, hby, hml, hEW⟩, ⟨o1, z2, z3, z1, es⟩, v0, k0, T, locs, X, ⟨hS, hk, hZ, hown⟩, ⟨hC, hF⟩, N, eT, fun t q => k t (X.ldc2Long hx hown (mvT hZ w) (g := mkF m pc L S) rfl (hb hby hd) t (by subst hp; exact q))⟩
/-- a body's contract: from the heap h0 with the arguments as', it returns; only what is new since n0 was written; h0 stands but for ws; String constants stay whole; sf: what must be no constant's cell; Q's list: what else is none -/
def Con (Z : State) (a0 : Array Value) (l : Launch) (y : MethodName) (bytes : ByteArray) (maxL : Nat) (ret : Option FieldType) (rm : Room) (tws : List Jvm.Cond) (as' : Array Value) (EL : List (String × Nat)) (h0 : Heap) (n0 : Nat) (ws sf : List Addr) (Q : Option Value → Heap → List Addr → Prop) : Prop :=
  MetFree l y (head1 (Cond.code y bytes maxL ret :: tws) rm) (fun a U => a = as' ∧ Z.Warmed39 U.vm ∧ U.heap = h0 ∧ CHv Z EL U.vm h0 ∧ ∀ x ∈ sf, x < h0.size ∧ Safe Z EL U.vm h0 x) (fun _ _ _ _ _ => True) (fun _ U o U' => ∃ v LL, o = .returned v ∧ (∃ so, Fr n0 LL ∧ Keep h0 U'.heap ws ∧ Q v U'.heap so ∧ CHr Z EL U.vm U.heap U'.vm U'.heap ∧ ∀ x ∈ so, x < U'.heap.size ∧ Safe Z EL U'.vm U'.heap x) ∧ ReturnedEndW U o U' LL rm.cells rm.slots)
def VV (Q : Value → Heap → List Addr → Prop) : Option Value → Heap → List Addr → Prop := fun v h so => ∃ w, v = some w ∧ Q w h so
def V0 (Q : Heap → List Addr → Prop) : Option Value → Heap → List Addr → Prop := fun v h so => v = none ∧ Q h so
/-- the walk's end -/
def Fin (Z : State) (EL : List (String × Nat)) (p : Program) (e : Env) (below : List Frame) (B s : State) (h0 : Heap) (n0 : Nat) (ws : List Addr) (k n : Nat) (Q : Option Value → Heap → List Addr → Prop) : Prop :=
  ∃ s₂ o, Steps p.tables e below B s₂ ∧ s₂.status = .running ∧ Ended s₂ below o ∧ ∃ v LL, o = .returned v ∧ (∃ so, Fr n0 LL ∧ Keep h0 s₂.heap ws ∧ Q v s₂.heap so ∧ CHr Z EL s.vm s.heap s₂.vm s₂.heap ∧ ∀ x ∈ so, x < s₂.heap.size ∧ Safe Z EL s₂.vm s₂.heap x) ∧ ReturnedEndW s o s₂ LL k n
theorem Con.body {tws : List Jvm.Cond} {y : MethodName} {bytes : ByteArray} {maxL : Nat} {ret : Option FieldType} {rm : Room} {as' : Array Value} {Q : Option Value → Heap → List Addr → Prop} (hpl : plainFor y = true) (hEW : EW Z a0 EL) (o1 : Old Z n0 h0) (z3 : ∀ x ∈ ws, n0 ≤ x) (L0 : Array Slot) (hef : ∀ m, entryFrame m as' maxL = mkF m 0 L0 [])
    (body : ∀ (p : Program) (e : Env) (s : State) (m : MethodId) (below : List Frame) (meth : Method) (c : Code) (B : State), meth.name = y.name → meth.sig.returnType = ret → meth.locks = false → Wl Z a0 y.cls p l e rm s m as' below meth c bytes maxL B EL h0 n0 ws sf h0 0 0 0 L0 [] → Fin Z EL p e below B s h0 n0 ws rm.cells rm.slots Q) : Con Z a0 l y bytes maxL ret rm tws as' EL h0 n0 ws sf Q := by
  refine MetFree.of_bodySF hpl hisR ?_
  intro p e s m args below meth c s₁ Bd hml hP hK
  obtain ⟨rfl, hZ, hh, hC, hF⟩ := hP
  refine body p e s m below meth c _ (name_of_methodNamed Bd.named Bd.method).1 Bd.returns Bd.notSynchronized ⟨⟨Bd.exec, Bd.bytes, hml, hEW⟩, ⟨o1, Keep.refl _ _, z3, by rw [← o1.1]; exact o1.2.1, hh⟩, s.vm, 0, s₁, [], Stand.of_body Bd, ⟨(State.WarmedH.refl s).since 0, Nat.zero_le _, hZ, findClass_of_methodNamed Bd.named⟩, ⟨CHr.refl hC, hF⟩, Fr.nil n0, by rw [← hh, Bd.state]; rfl, fun t q => ?_⟩
  rw [hef m]; exact q
theorem Wl.retV  {Q : Option Value → Heap → List Addr → Prop} {kk nn : Nat} (G : Wl Z a0 own p l e R s m args below meth c code mx B EL h0 n0 ws sf h cells slots pc L ([])) (hret : meth.sig.returnType = none) (hlk : meth.locks = false) (hd : decode code pc = .ok (.return_, 1)) (so : List Addr) (hso : ∀ x ∈ so, x ∈ sf) (hQ : Q (none) h so) (hc : cells ≤ kk) (hs : slots ≤ nn) : Fin Z EL p e below B s h0 n0 ws kk nn Q := by
  obtain ⟨⟨hx, hby, hml, hEW⟩, ⟨o1, z2, z3, z1, es⟩, v0, k0, T, locs, X, ⟨hS, hk, hZ, hown⟩, ⟨hC, hF⟩, N, eT, k⟩ := G
  obtain ⟨fs, hr, hrun, hended, hW⟩ := X.leaveW hS (by rw [eT]; exact hk) (v := none) (fun _ => rfl) hlk
  have hCT := CHv.at X hZ hEW hC.1
  refine ⟨_, _, k _ ?_, hrun, hended, _, _, rfl, ⟨so, N, ?_, ?_, ?_, ?_⟩, hW.1, hW.2.1, hW.2.2.1, hW.2.2.2.mono hc hs⟩
  · exact X.returnOut hx hret (hb hby hd) hr
  · show Keep h0 T.heap ws
    rw [eT]; exact z2
  · show Q _ T.heap so
    rw [eT]; exact hQ
  · show CHr Z EL s.vm s.heap T.vm T.heap
    rw [eT, es]
    exact hC.trans hCT
  · intro x hx
    show x < T.heap.size ∧ Safe Z EL T.vm T.heap x
    rw [eT]; exact ⟨(hF x (hso x hx)).1, hCT.safe (hF x (hso x hx)).1 (hF x (hso x hx)).2⟩
theorem Wl.retI {z : Int32} {Q : Option Value → Heap → List Addr → Prop} {kk nn : Nat} (G : Wl Z a0 own p l e R s m args below meth c code mx B EL h0 n0 ws sf h cells slots pc L (.int z :: S)) (hret : meth.sig.returnType = some .int) (hlk : meth.locks = false) (hd : decode code pc = .ok (.ireturn, 1)) (so : List Addr) (hso : ∀ x ∈ so, x ∈ sf) (hQ : Q (some (.int z)) h so) (hc : cells ≤ kk) (hs : slots ≤ nn) : Fin Z EL p e below B s h0 n0 ws kk nn Q := by
  obtain ⟨⟨hx, hby, hml, hEW⟩, ⟨o1, z2, z3, z1, es⟩, v0, k0, T, locs, X, ⟨hS, hk, hZ, hown⟩, ⟨hC, hF⟩, N, eT, k⟩ := G
  obtain ⟨fs, hr, hrun, hended, hW⟩ := X.leaveW hS (by rw [eT]; exact hk) (v := some (.int z)) (fun h => by rw [hret] at h; cases h) hlk
  have hCT := CHv.at X hZ hEW hC.1
  refine ⟨_, _, k _ ?_, hrun, hended, _, _, rfl, ⟨so, N, ?_, ?_, ?_, ?_⟩, hW.1, hW.2.1, hW.2.2.1, hW.2.2.2.mono hc hs⟩
  · exact retOut X hx hret rfl (Or.inl ⟨rfl, Or.inl rfl, _, rfl⟩) (hb hby hd) hr
  · show Keep h0 T.heap ws
    rw [eT]; exact z2
  · show Q _ T.heap so
    rw [eT]; exact hQ
  · show CHr Z EL s.vm s.heap T.vm T.heap
    rw [eT, es]
    exact hC.trans hCT
  · intro x hx
    show x < T.heap.size ∧ Safe Z EL T.vm T.heap x
    rw [eT]; exact ⟨(hF x (hso x hx)).1, hCT.safe (hF x (hso x hx)).1 (hF x (hso x hx)).2⟩
theorem Wl.retN {z : Int32} {t : FieldType} {Q : Option Value → Heap → List Addr → Prop} {kk nn : Nat} (G : Wl Z a0 own p l e R s m args below meth c code mx B EL h0 n0 ws sf h cells slots pc L (.int z :: S)) (hret : meth.sig.returnType = some t) (ht : t = .boolean ∨ t = .byte ∨ t = .char ∨ t = .short) (hlk : meth.locks = false) (hd : decode code pc = .ok (.ireturn, 1)) (so : List Addr) (hso : ∀ x ∈ so, x ∈ sf) (hQ : Q (some (.int (nar t z))) h so) (hc : cells ≤ kk) (hs : slots ≤ nn) : Fin Z EL p e below B s h0 n0 ws kk nn Q := by
  obtain ⟨⟨hx, hby, hml, hEW⟩, ⟨o1, z2, z3, z1, es⟩, v0, k0, T, locs, X, ⟨hS, hk, hZ, hown⟩, ⟨hC, hF⟩, N, eT, k⟩ := G
  obtain ⟨fs, hr, hrun, hended, hW⟩ := X.leaveW hS (by rw [eT]; exact hk) (v := some (.int (nar t z))) (fun h => by rw [hret] at h; cases h) hlk
  have hCT := CHv.at X hZ hEW hC.1
  refine ⟨_, _, k _ ?_, hrun, hended, _, _, rfl, ⟨so, N, ?_, ?_, ?_, ?_⟩, hW.1, hW.2.1, hW.2.2.1, hW.2.2.2.mono hc hs⟩
  · exact Jvm.RoadKit.retN X hx hret ht (hb hby hd) hr
  · show Keep h0 T.heap ws
    rw [eT]; exact z2
  · show Q _ T.heap so
    rw [eT]; exact hQ
  · show CHr Z EL s.vm s.heap T.vm T.heap
    rw [eT, es]
    exact hC.trans hCT
  · intro x hx
    show x < T.heap.size ∧ Safe Z EL T.vm T.heap x
    rw [eT]; exact ⟨(hF x (hso x hx)).1, hCT.safe (hF x (hso x hx)).1 (hF x (hso x hx)).2⟩
theorem Wl.retL {z : Int64} {Q : Option Value → Heap → List Addr → Prop} {kk nn : Nat} (G : Wl Z a0 own p l e R s m args below meth c code mx B EL h0 n0 ws sf h cells slots pc L (.long z :: S)) (hret : meth.sig.returnType = some .long) (hlk : meth.locks = false) (hd : decode code pc = .ok (.lreturn, 1)) (so : List Addr) (hso : ∀ x ∈ so, x ∈ sf) (hQ : Q (some (.long z)) h so) (hc : cells ≤ kk) (hs : slots ≤ nn) : Fin Z EL p e below B s h0 n0 ws kk nn Q := by
  obtain ⟨⟨hx, hby, hml, hEW⟩, ⟨o1, z2, z3, z1, es⟩, v0, k0, T, locs, X, ⟨hS, hk, hZ, hown⟩, ⟨hC, hF⟩, N, eT, k⟩ := G
  obtain ⟨fs, hr, hrun, hended, hW⟩ := X.leaveW hS (by rw [eT]; exact hk) (v := some (.long z)) (fun h => by rw [hret] at h; cases h) hlk
  have hCT := CHv.at X hZ hEW hC.1
  refine ⟨_, _, k _ ?_, hrun, hended, _, _, rfl, ⟨so, N, ?_, ?_, ?_, ?_⟩, hW.1, hW.2.1, hW.2.2.1, hW.2.2.2.mono hc hs⟩
  · exact retOut X hx hret rfl (Or.inr (Or.inl ⟨rfl, rfl, _, rfl⟩)) (hb hby hd) hr
  · show Keep h0 T.heap ws
    rw [eT]; exact z2
  · show Q _ T.heap so
    rw [eT]; exact hQ
  · show CHr Z EL s.vm s.heap T.vm T.heap
    rw [eT, es]
    exact hC.trans hCT
  · intro x hx
    show x < T.heap.size ∧ Safe Z EL T.vm T.heap x
    rw [eT]; exact ⟨(hF x (hso x hx)).1, hCT.safe (hF x (hso x hx)).1 (hF x (hso x hx)).2⟩
theorem Wl.retA {w : Value} {t : FieldType} {Q : Option Value → Heap → List Addr → Prop} {kk nn : Nat} (G : Wl Z a0 own p l e R s m args below meth c code mx B EL h0 n0 ws sf h cells slots pc L (w :: S)) (hret : meth.sig.returnType = some t) (ht : t.isReference = true) (hw : w.isRef = true) (hlk : meth.locks = false) (hd : decode code pc = .ok (.areturn, 1)) (so : List Addr) (hso : ∀ x ∈ so, x ∈ sf) (hQ : Q (some w) h so) (hc : cells ≤ kk) (hs : slots ≤ nn) : Fin Z EL p e below B s h0 n0 ws kk nn Q := by
  obtain ⟨⟨hx, hby, hml, hEW⟩, ⟨o1, z2, z3, z1, es⟩, v0, k0, T, locs, X, ⟨hS, hk, hZ, hown⟩, ⟨hC, hF⟩, N, eT, k⟩ := G
  obtain ⟨fs, hr, hrun, hended, hW⟩ := X.leaveW hS (by rw [eT]; exact hk) (v := some w) (fun h => by rw [hret] at h; cases h) hlk
  have hCT := CHv.at X hZ hEW hC.1
  refine ⟨_, _, k _ ?_, hrun, hended, _, _, rfl, ⟨so, N, ?_, ?_, ?_, ?_⟩, hW.1, hW.2.1, hW.2.2.1, hW.2.2.2.mono hc hs⟩
  · exact retOut X hx hret (by cases t <;> first | rfl | simp [FieldType.isReference] at ht) (Or.inr (Or.inr (Or.inr (Or.inr ⟨rfl, ht, hw⟩)))) (hb hby hd) hr
  · show Keep h0 T.heap ws
    rw [eT]; exact z2
  · show Q _ T.heap so
    rw [eT]; exact hQ
  · show CHr Z EL s.vm s.heap T.vm T.heap
    rw [eT, es]
    exact hC.trans hCT
  · intro x hx
    show x < T.heap.size ∧ Safe Z EL T.vm T.heap x
    rw [eT]; exact ⟨(hF x (hso x hx)).1, hCT.safe (hF x (hso x hx)).1 (hF x (hso x hx)).2⟩
theorem backL {y : MethodName} {bytes : ByteArray} {maxL : Nat} {ret : Option FieldType} {rm : Room} {len W : Nat} {as' : Array Value} {v0 : Vm} {wsC sfC : List Addr} {Q : Option Value → Heap → List Addr → Prop}
    (hM : Con Z a0 l y bytes maxL ret rm [] as' EL h n0 wsC sfC Q) (hZ : Z.Warmed39 v0) (wc : (Cond.code y bytes maxL ret).before a0 Z = true) (wz : (Cond.initialized y.cls).before a0 Z = true) (hf : rm.frames + 1 ≤ R.frames) (hl : W + (maxL + 11) + rm.locals ≤ R.locals) (hEL : EW Z a0 EL) (H : CHv Z EL v0 h) (hF : ∀ x ∈ sfC, x < h.size ∧ Safe Z EL v0 h x) :
    BackS l R p e below (s.setVm v0) args y len W (fun A a => a = as' ∧ A.U.heap = h ∧ A.cells + rm.cells ≤ R.cells ∧ A.slots + rm.slots ≤ R.slots)
      (fun A _ v B => ∃ LL, (∃ so, Fr n0 LL ∧ Keep h B.U.heap wsC ∧ Q v B.U.heap so ∧ CHr Z EL v0 h B.U.vm B.U.heap ∧ ∀ x ∈ so, x < B.U.heap.size ∧ Safe Z EL B.U.vm B.U.heap x) ∧ B.locs = A.locs ++ LL ∧ B.cells = A.cells + rm.cells ∧ B.slots = A.slots + rm.slots) :=
  BackS.of_freeW (bytes := bytes) (maxL := maxL) (ret := ret) (E := fun _ first o t LL k n => k = rm.cells ∧ n = rm.slots ∧ ∃ v, o = .returned v ∧ ∃ so, Fr n0 LL ∧ Keep h t.heap wsC ∧ Q v t.heap so ∧ CHr Z EL first.vm first.heap t.vm t.heap ∧ ∀ x ∈ so, x < t.heap.size ∧ Safe Z EL t.vm t.heap x) hM hf hl
    (fun m meth c A a Y hp => have hU : Z.Warmed39 A.U.vm := wtrans (s := s.setVm v0) hZ Y.warmed
      ⟨by show (Cond.and _ .tt).before a A.U = true; rw [Cond.before_and, mv hU wc]; rfl, mv hU wc, mv hU wz, hp.2.2.1, hp.2.2.2⟩)
    (fun m meth c A a g mk Y hp => ⟨hp.1, wtrans (s := s.setVm v0) hZ Y.warmed, hp.2.1, (CHv.at Y hZ hEL H).1, fun x hx => ⟨(hF x hx).1, (CHv.at Y hZ hEL H).safe (hF x hx).1 (hF x hx).2⟩⟩) (fun _ _ _ _ _ _ _ _ _ => trivial)
    (fun _ _ _ _ ⟨v, LL, h1, h2, h3⟩ => ⟨LL, _, _, h3, rfl, rfl, v, h1, h2⟩)
    (fun m meth c A a g mk v t LL k n Y hp _ _ ⟨e1, e2, v', e3, so, q1, q2, q3, q4, q5⟩ => by
      cases e3; subst e1 e2
      refine ⟨LL, ⟨so, q1, q2, q3, (CHv.at Y hZ hEL H).trans ?_, q5⟩, rfl, rfl, rfl⟩
      rw [← hp.2.1]; exact q4)
theorem Wl.callS {index : Nat} {y : MethodName} {bytes : ByteArray} {maxL : Nat} {ret : Option FieldType} {rm : Room} {wsC sfC : List Addr} {St : List Value} {Q : Option Value → Heap → List Addr → Prop} (G : Wl Z a0 own p l e R s m args below meth c code mx B EL h0 n0 ws sf h cells slots pc L (St)) (pc' : Nat) (w1 : (Cond.methodLink own index y).before a0 Z = true) (w2 : (Cond.static y).before a0 Z = true) (wz : (Cond.initialized y.cls).before a0 Z = true) (wc : (Cond.code y bytes maxL ret).before a0 Z = true) (hy : y.cls ≠ "java/lang/invoke/MethodHandle" ∧ y.cls ≠ "java/lang/invoke/VarHandle") (argsL rest : List Value) (hst : St = argsL.reverse ++ rest) (hM : Con Z a0 l y bytes maxL ret rm [] argsL.toArray EL h n0 wsC sfC Q) (hlen : ∀ sig, parseMethodDescriptor y.desc = some sig → argsL.length = sig.parameters.length) (hd : decode code pc = .ok (.invokestatic index, 3)) (hz : L.size = mx) (hf : rm.frames + 1 ≤ R.frames) (hl : (rest.map fun v => v.category).sum + (maxL + 11) + rm.locals ≤ R.locals) (hc : cells + rm.cells ≤ R.cells) (hs : slots + rm.slots ≤ R.slots) (hws : ∀ x ∈ wsC, NW h0 ws x) (hsf : ∀ x ∈ sfC, x ∈ sf) (hwf : ∀ x ∈ wsC, x ∈ sf) (hp : pc + 3 = pc') :
    ∃ (v : Option Value) (h' : Heap) (so : List Addr), Wl Z a0 own p l e R s m args below meth c code mx B EL h0 n0 ws (so ++ sf) h' (cells + rm.cells) (slots + rm.slots) pc' L (v.toList ++ rest) ∧ Keep h h' wsC ∧ Q v h' so := by
  have nw := fun x (q : NW h0 ws x) => G.nw q
  obtain ⟨⟨hx, hby, hml, hEW⟩, ⟨o1, z2, z3, z1, es⟩, v0, k0, T, locs, X, ⟨hS, hk, hZ, hown⟩, ⟨hC, hF⟩, N, eT, k⟩ := G
  subst hst
  obtain ⟨v, _, ⟨T', L', k', n'⟩, -, X', hS', g', ⟨Lc, ⟨so, N', K', hQ, C', F'⟩, l', y', z'⟩, st⟩ := callSS X hx (y := y) hown (mvT (s := s.setVm v0) hZ w1) (mvT (s := s.setVm v0) hZ w2) (mvT (s := s.setVm v0) hZ wz) (mvT (s := s.setVm v0) hZ wc) hy (backL (s := s) (W := (rest.map fun v => v.category).sum) hM hZ wc wz hf hl hEW hC.1 (fun x hx => hF x (hsf x hx))) (g := mkF m pc L (argsL.reverse ++ rest)) rfl (hz.trans hml.symm) (argsL := argsL) (rest := rest) hlen rfl (by show 2 * 0 + _ ≤ _; omega) (hb hby hd) (fun _ _ => ⟨rfl, eT, hc, hs⟩)
  dsimp only [Pt.U, Pt.locs, Pt.cells, Pt.slots] at X' hS' g' l' y' z' st N' K' hQ C' F'
  subst l' y' z'
  obtain ⟨X2, hS2, hZ2, hown2⟩ := rebS (s := s) hS (by rw [← eT] at hk; exact hk) X' hS' g' hZ hown
  exact ⟨v, T'.heap, so, ⟨⟨hx, hby, hml, hEW⟩, ⟨o1.keep K' (fun x q => nw x (hws x q)), z2.trans K' hws, z3, z1, es⟩, T'.vm, _, T', _, X2, ⟨hS2, Nat.le_refl _, hZ2, hown2⟩, ⟨hC.trans C', fun x q => (List.mem_append.mp q).elim (F' x) (fun r => ⟨Nat.lt_of_lt_of_le (hF x r).1 K'.1, C'.safe (hF x r).1 (hF x r).2⟩)⟩, N.app N', rfl, fun t q => k t (st.trans (by subst hp; exact q))⟩, K', hQ⟩
theorem Wl.callI {index : Nat} {y : MethodName} {bytes : ByteArray} {maxL : Nat} {ret : Option FieldType} {rm : Room} {wsC sfC : List Addr} {St : List Value} {a : Addr} {Q : Option Value → Heap → List Addr → Prop} (G : Wl Z a0 own p l e R s m args below meth c code mx B EL h0 n0 ws sf h cells slots pc L (St)) (pc' : Nat) (hr : ret = none) (hy1 : y.name = "<init>") (w1 : (Cond.methodLink own index y).before a0 Z = true) (w2 : (Cond.instanceMethod y).before a0 Z = true) (wz : (Cond.initialized y.cls).before a0 Z = true) (wc : (Cond.code y bytes maxL ret).before a0 Z = true) (hy : y.cls ≠ "java/lang/invoke/MethodHandle" ∧ y.cls ≠ "java/lang/invoke/VarHandle") (argsL rest : List Value) (hst : St = argsL.reverse ++ .ref a :: rest) (hM : Con Z a0 l y bytes maxL ret rm [] (.ref a :: argsL).toArray EL h n0 wsC sfC Q) (hlen : ∀ sig, parseMethodDescriptor y.desc = some sig → argsL.length = sig.parameters.length) (hd : decode code pc = .ok (.invokespecial index, 3)) (hz : L.size = mx) (hf : rm.frames + 1 ≤ R.frames) (hl : (rest.map fun v => v.category).sum + (maxL + 11) + rm.locals ≤ R.locals) (hc : cells + rm.cells ≤ R.cells) (hs : slots + rm.slots ≤ R.slots) (hws : ∀ x ∈ wsC, NW h0 ws x) (hsf : ∀ x ∈ sfC, x ∈ sf) (hwf : ∀ x ∈ wsC, x ∈ sf) (hp : pc + 3 = pc') :
    ∃ (v : Option Value) (h' : Heap) (so : List Addr), Wl Z a0 own p l e R s m args below meth c code mx B EL h0 n0 ws (so ++ sf) h' (cells + rm.cells) (slots + rm.slots) pc' L (v.toList ++ rest) ∧ Keep h h' wsC ∧ Q v h' so := by
  have nw := fun x (q : NW h0 ws x) => G.nw q
  obtain ⟨⟨hx, hby, hml, hEW⟩, ⟨o1, z2, z3, z1, es⟩, v0, k0, T, locs, X, ⟨hS, hk, hZ, hown⟩, ⟨hC, hF⟩, N, eT, k⟩ := G
  subst hst
  subst hr
  obtain ⟨v, _, ⟨T', L', k', n'⟩, -, X', hS', g', ⟨Lc, ⟨so, N', K', hQ, C', F'⟩, l', y', z'⟩, st⟩ := X.specialBackS hx (y := y) hy1 hown (mvT (s := s.setVm v0) hZ w1) (mvT (s := s.setVm v0) hZ w2) (mvT (s := s.setVm v0) hZ wc) hy (backL (s := s) (W := (rest.map fun v => v.category).sum) hM hZ wc wz hf hl hEW hC.1 (fun x hx => hF x (hsf x hx))) (g := mkF m pc L (argsL.reverse ++ .ref a :: rest)) rfl (hz.trans hml.symm) (Steps.refl _) (a := a) (argsL := argsL) (rest := rest) hlen rfl (by show 2 * 0 + _ ≤ _; omega) (hb hby hd) (fun _ _ => ⟨rfl, eT, hc, hs⟩)
  dsimp only [Pt.U, Pt.locs, Pt.cells, Pt.slots] at X' hS' g' l' y' z' st N' K' hQ C' F'
  subst l' y' z'
  obtain ⟨X2, hS2, hZ2, hown2⟩ := rebS (s := s) hS (by rw [← eT] at hk; exact hk) X' hS' g' hZ hown
  exact ⟨v, T'.heap, so, ⟨⟨hx, hby, hml, hEW⟩, ⟨o1.keep K' (fun x q => nw x (hws x q)), z2.trans K' hws, z3, z1, es⟩, T'.vm, _, T', _, X2, ⟨hS2, Nat.le_refl _, hZ2, hown2⟩, ⟨hC.trans C', fun x q => (List.mem_append.mp q).elim (F' x) (fun r => ⟨Nat.lt_of_lt_of_le (hF x r).1 K'.1, C'.safe (hF x r).1 (hF x r).2⟩)⟩, N.app N', rfl, fun t q => k t (st.trans (by subst hp; exact q))⟩, K', hQ⟩
theorem Wl.callV {index : Nat} {y : MethodName} {bytes : ByteArray} {maxL : Nat} {ret : Option FieldType} {rm : Room} {wsC sfC : List Addr} {St : List Value} {a : Addr} {C : String} {zz : MethodName} {Q : Option Value → Heap → List Addr → Prop} (G : Wl Z a0 own p l e R s m args below meth c code mx B EL h0 n0 ws sf h cells slots pc L (St)) (pc' : Nat) (w1 : (Cond.methodLink own index y).before a0 Z = true) (w2 : (Cond.declares y).before a0 Z = true) (hnf : ∀ s' : State, Z.Warmed39 s'.vm → NotFace s' y) (w3 : (Cond.selects C y zz).before a0 Z = true) (w4 : (Cond.instanceMethod zz).before a0 Z = true) (wz : (Cond.initialized zz.cls).before a0 Z = true) (wc : (Cond.code zz bytes maxL ret).before a0 Z = true) (Ex : Exa Z h a C) (hy : y.cls ≠ "java/lang/invoke/MethodHandle" ∧ y.cls ≠ "java/lang/invoke/VarHandle") (argsL rest : List Value) (hst : St = argsL.reverse ++ .ref a :: rest) (hM : Con Z a0 l zz bytes maxL ret rm [] (.ref a :: argsL).toArray EL h n0 wsC sfC Q) (hlen : ∀ sig, parseMethodDescriptor y.desc = some sig → argsL.length = sig.parameters.length) (hd : decode code pc = .ok (.invokevirtual index, 3)) (hz : L.size = mx) (hf : rm.frames + 1 ≤ R.frames) (hl : (rest.map fun v => v.category).sum + (maxL + 11) + rm.locals ≤ R.locals) (hc : cells + rm.cells ≤ R.cells) (hs : slots + rm.slots ≤ R.slots) (hws : ∀ x ∈ wsC, NW h0 ws x) (hsf : ∀ x ∈ sfC, x ∈ sf) (hwf : ∀ x ∈ wsC, x ∈ sf) (hp : pc + 3 = pc') :
    ∃ (v : Option Value) (h' : Heap) (so : List Addr), Wl Z a0 own p l e R s m args below meth c code mx B EL h0 n0 ws (so ++ sf) h' (cells + rm.cells) (slots + rm.slots) pc' L (v.toList ++ rest) ∧ Keep h h' wsC ∧ Q v h' so := by
  have nw := fun x (q : NW h0 ws x) => G.nw q
  obtain ⟨⟨hx, hby, hml, hEW⟩, ⟨o1, z2, z3, z1, es⟩, v0, k0, T, locs, X, ⟨hS, hk, hZ, hown⟩, ⟨hC, hF⟩, N, eT, k⟩ := G
  subst hst
  obtain ⟨cq, kq, q1, q2, q3⟩ := isOf (s := s.setVm v0) (T := T) hZ eT Ex
  obtain ⟨v, _, ⟨T', L', k', n'⟩, -, X', hS', g', ⟨Lc, ⟨so, N', K', hQ, C', F'⟩, l', y', z'⟩, st⟩ := X.virtualBackS hx (y := y) (z := zz) hown (mvT (s := s.setVm v0) hZ w1) (mvT (s := s.setVm v0) hZ w2) (hnf (s.setVm v0) hZ) (mvT (s := s.setVm v0) hZ w3) (mvT (s := s.setVm v0) hZ w4) hy (backL (s := s) (W := (rest.map fun v => v.category).sum) hM hZ wc wz hf hl hEW hC.1 (fun x hx => hF x (hsf x hx))) q1 q3 (g := mkF m pc L (argsL.reverse ++ .ref a :: rest)) rfl (hz.trans hml.symm) (Steps.refl _) (argsL := argsL) (rest := rest) hlen rfl (by show 2 * 0 + _ ≤ _; omega) (hb hby hd) (fun _ _ => ⟨rfl, eT, hc, hs⟩)
  dsimp only [Pt.U, Pt.locs, Pt.cells, Pt.slots] at X' hS' g' l' y' z' st N' K' hQ C' F'
  subst l' y' z'
  obtain ⟨X2, hS2, hZ2, hown2⟩ := rebS (s := s) hS (by rw [← eT] at hk; exact hk) X' hS' g' hZ hown
  exact ⟨v, T'.heap, so, ⟨⟨hx, hby, hml, hEW⟩, ⟨o1.keep K' (fun x q => nw x (hws x q)), z2.trans K' hws, z3, z1, es⟩, T'.vm, _, T', _, X2, ⟨hS2, Nat.le_refl _, hZ2, hown2⟩, ⟨hC.trans C', fun x q => (List.mem_append.mp q).elim (F' x) (fun r => ⟨Nat.lt_of_lt_of_le (hF x r).1 K'.1, C'.safe (hF x r).1 (hF x r).2⟩)⟩, N.app N', rfl, fun t q => k t (st.trans (by subst hp; exact q))⟩, K', hQ⟩
theorem Wl.callU {index : Nat} {y : MethodName} {bytes : ByteArray} {maxL : Nat} {ret : Option FieldType} {rm : Room} {wsC sfC : List Addr} {St : List Value} {a : Addr} {C owner : String} {zz : MethodName} {Q : Option Value → Heap → List Addr → Prop} (G : Wl Z a0 own p l e R s m args below meth c code mx B EL h0 n0 ws sf h cells slots pc L (St)) (pc' : Nat) (w1 : (Cond.methodLink own index y).before a0 Z = true) (w2 : (Cond.sameMethod y.cls owner y.name y.desc).before a0 Z = true) (w5 : (Cond.declares ⟨owner, y.name, y.desc⟩).before a0 Z = true) (w3 : (Cond.selects C y zz).before a0 Z = true) (w4 : (Cond.instanceMethod zz).before a0 Z = true) (wz : (Cond.initialized zz.cls).before a0 Z = true) (wc : (Cond.code zz bytes maxL ret).before a0 Z = true) (Ex : Exa Z h a C) (hy : owner ≠ "java/lang/invoke/MethodHandle" ∧ owner ≠ "java/lang/invoke/VarHandle") (argsL rest : List Value) (hst : St = argsL.reverse ++ .ref a :: rest) (hM : Con Z a0 l zz bytes maxL ret rm [] (.ref a :: argsL).toArray EL h n0 wsC sfC Q) (hlen : ∀ sig, parseMethodDescriptor y.desc = some sig → argsL.length = sig.parameters.length) (hd : decode code pc = .ok (.invokevirtual index, 3)) (hz : L.size = mx) (hf : rm.frames + 1 ≤ R.frames) (hl : (rest.map fun v => v.category).sum + (maxL + 11) + rm.locals ≤ R.locals) (hc : cells + rm.cells ≤ R.cells) (hs : slots + rm.slots ≤ R.slots) (hws : ∀ x ∈ wsC, NW h0 ws x) (hsf : ∀ x ∈ sfC, x ∈ sf) (hwf : ∀ x ∈ wsC, x ∈ sf) (hp : pc + 3 = pc') :
    ∃ (v : Option Value) (h' : Heap) (so : List Addr), Wl Z a0 own p l e R s m args below meth c code mx B EL h0 n0 ws (so ++ sf) h' (cells + rm.cells) (slots + rm.slots) pc' L (v.toList ++ rest) ∧ Keep h h' wsC ∧ Q v h' so := by
  have nw := fun x (q : NW h0 ws x) => G.nw q
  obtain ⟨⟨hx, hby, hml, hEW⟩, ⟨o1, z2, z3, z1, es⟩, v0, k0, T, locs, X, ⟨hS, hk, hZ, hown⟩, ⟨hC, hF⟩, N, eT, k⟩ := G
  subst hst
  obtain ⟨cq, kq, q1, q2, q3⟩ := isOf (s := s.setVm v0) (T := T) hZ eT Ex
  obtain ⟨v, _, ⟨T', L', k', n'⟩, -, X', hS', g', ⟨Lc, ⟨so, N', K', hQ, C', F'⟩, l', y', z'⟩, st⟩ := X.virtualBackUpS hx (x := y) (y := zz) hown (mvT (s := s.setVm v0) hZ w1) (mvT (s := s.setVm v0) hZ w2) (mvT (s := s.setVm v0) hZ w5) hy (mvT (s := s.setVm v0) hZ w3) (mvT (s := s.setVm v0) hZ w4) (backL (s := s) (W := (rest.map fun v => v.category).sum) hM hZ wc wz hf hl hEW hC.1 (fun x hx => hF x (hsf x hx))) q1 q3 (g := mkF m pc L (argsL.reverse ++ .ref a :: rest)) rfl (hz.trans hml.symm) (Steps.refl _) (argsL := argsL) (rest := rest) hlen rfl (by show 2 * 0 + _ ≤ _; omega) (hb hby hd) (fun _ _ => ⟨rfl, eT, hc, hs⟩)
  dsimp only [Pt.U, Pt.locs, Pt.cells, Pt.slots] at X' hS' g' l' y' z' st N' K' hQ C' F'
  subst l' y' z'
  obtain ⟨X2, hS2, hZ2, hown2⟩ := rebS (s := s) hS (by rw [← eT] at hk; exact hk) X' hS' g' hZ hown
  exact ⟨v, T'.heap, so, ⟨⟨hx, hby, hml, hEW⟩, ⟨o1.keep K' (fun x q => nw x (hws x q)), z2.trans K' hws, z3, z1, es⟩, T'.vm, _, T', _, X2, ⟨hS2, Nat.le_refl _, hZ2, hown2⟩, ⟨hC.trans C', fun x q => (List.mem_append.mp q).elim (F' x) (fun r => ⟨Nat.lt_of_lt_of_le (hF x r).1 K'.1, C'.safe (hF x r).1 (hF x r).2⟩)⟩, N.app N', rfl, fun t q => k t (st.trans (by subst hp; exact q))⟩, K', hQ⟩
theorem Wl.callF {index : Nat} {y : MethodName} {bytes : ByteArray} {maxL : Nat} {ret : Option FieldType} {rm : Room} {wsC sfC : List Addr} {St : List Value} {a : Addr} {C : String} {count : Nat} {zz : MethodName} {Q : Option Value → Heap → List Addr → Prop} (G : Wl Z a0 own p l e R s m args below meth c code mx B EL h0 n0 ws sf h cells slots pc L (St)) (pc' : Nat) (w1 : (Cond.methodLink own index y).before a0 Z = true) (w2 : (Cond.declares y).before a0 Z = true) (w5 : (Cond.interfaceMethod y.cls y.cls y.name y.desc).before a0 Z = true) (k5 : ((Cond.interfaceMethod y.cls y.cls y.name y.desc).onTables && (Cond.interfaceMethod y.cls y.cls y.name y.desc).keepsFace) = true) (w3 : (Cond.selects C y zz).before a0 Z = true) (w4 : (Cond.instanceMethod zz).before a0 Z = true) (w6 : (Cond.publicMethod zz).before a0 Z = true) (w7 : (Cond.unhidden C y.name y.desc).before a0 Z = true) (w8 : (Cond.castable C y.cls).before a0 Z = true) (wz : (Cond.initialized zz.cls).before a0 Z = true) (wc : (Cond.code zz bytes maxL ret).before a0 Z = true) (Ex : Exa Z h a C) (hy : y.cls ≠ "java/lang/invoke/MethodHandle" ∧ y.cls ≠ "java/lang/invoke/VarHandle") (argsL rest : List Value) (hst : St = argsL.reverse ++ .ref a :: rest) (hM : Con Z a0 l zz bytes maxL ret rm [] (.ref a :: argsL).toArray EL h n0 wsC sfC Q) (hlen : ∀ sig, parseMethodDescriptor y.desc = some sig → argsL.length = sig.parameters.length) (hd : decode code pc = .ok (.invokeinterface index count, 5)) (hz : L.size = mx) (hf : rm.frames + 1 ≤ R.frames) (hl : (rest.map fun v => v.category).sum + (maxL + 11) + rm.locals ≤ R.locals) (hc : cells + rm.cells ≤ R.cells) (hs : slots + rm.slots ≤ R.slots) (hws : ∀ x ∈ wsC, NW h0 ws x) (hsf : ∀ x ∈ sfC, x ∈ sf) (hwf : ∀ x ∈ wsC, x ∈ sf) (hp : pc + 5 = pc') :
    ∃ (v : Option Value) (h' : Heap) (so : List Addr), Wl Z a0 own p l e R s m args below meth c code mx B EL h0 n0 ws (so ++ sf) h' (cells + rm.cells) (slots + rm.slots) pc' L (v.toList ++ rest) ∧ Keep h h' wsC ∧ Q v h' so := by
  have nw := fun x (q : NW h0 ws x) => G.nw q
  obtain ⟨⟨hx, hby, hml, hEW⟩, ⟨o1, z2, z3, z1, es⟩, v0, k0, T, locs, X, ⟨hS, hk, hZ, hown⟩, ⟨hC, hF⟩, N, eT, k⟩ := G
  subst hst
  obtain ⟨cq, kq, q1, q2, q3⟩ := isOf (s := s.setVm v0) (T := T) hZ eT Ex
  obtain ⟨v, _, ⟨T', L', k', n'⟩, -, X', hS', g', ⟨Lc, ⟨so, N', K', hQ, C', F'⟩, l', y', z'⟩, st⟩ := X.interfaceBackS hx (xi := y) (y := zz) hown (mvT (s := s.setVm v0) hZ w1) (mvT (s := s.setVm v0) hZ w2) (mvT (s := s.setVm v0) hZ w5 k5) (mvT (s := s.setVm v0) hZ w3) (mvT (s := s.setVm v0) hZ w4) (mvT (s := s.setVm v0) hZ w6) (mvT (s := s.setVm v0) hZ w7) (mvT (s := s.setVm v0) hZ w8) hy (backL (s := s) (W := (rest.map fun v => v.category).sum) hM hZ wc wz hf hl hEW hC.1 (fun x hx => hF x (hsf x hx))) q1 q2 q3 (g := mkF m pc L (argsL.reverse ++ .ref a :: rest)) rfl (hz.trans hml.symm) (Steps.refl _) (argsL := argsL) (rest := rest) hlen rfl (by show 2 * 0 + _ ≤ _; omega) (hb hby hd) (fun _ _ => ⟨rfl, eT, hc, hs⟩)
  dsimp only [Pt.U, Pt.locs, Pt.cells, Pt.slots] at X' hS' g' l' y' z' st N' K' hQ C' F'
  subst l' y' z'
  obtain ⟨X2, hS2, hZ2, hown2⟩ := rebS (s := s) hS (by rw [← eT] at hk; exact hk) X' hS' g' hZ hown
  exact ⟨v, T'.heap, so, ⟨⟨hx, hby, hml, hEW⟩, ⟨o1.keep K' (fun x q => nw x (hws x q)), z2.trans K' hws, z3, z1, es⟩, T'.vm, _, T', _, X2, ⟨hS2, Nat.le_refl _, hZ2, hown2⟩, ⟨hC.trans C', fun x q => (List.mem_append.mp q).elim (F' x) (fun r => ⟨Nat.lt_of_lt_of_le (hF x r).1 K'.1, C'.safe (hF x r).1 (hF x r).2⟩)⟩, N.app N', rfl, fun t q => k t (st.trans (by subst hp; exact q))⟩, K', hQ⟩
theorem Wl.callSup {index : Nat} {y : MethodName} {bytes : ByteArray} {maxL : Nat} {ret : Option FieldType} {rm : Room} {wsC sfC : List Addr} {St : List Value} {a : Addr} {K : String} {Q : Option Value → Heap → List Addr → Prop} (G : Wl Z a0 own p l e R s m args below meth c code mx B EL h0 n0 ws sf h cells slots pc L (St)) (pc' : Nat) (w1 : (Cond.methodLink own index y).before a0 Z = true) (w2 : (Cond.sameMethod y.cls y.cls y.name y.desc).before a0 Z = true) (w3 : (Cond.instanceMethod y).before a0 Z = true) (w4 : (Cond.superclass own y.cls).before a0 Z = true) (hn : y.name ≠ "<init>") (wz : (Cond.initialized y.cls).before a0 Z = true) (wc : (Cond.code y bytes maxL ret).before a0 Z = true) (Ex : Ins Z h a K true) (argsL rest : List Value) (hst : St = argsL.reverse ++ .ref a :: rest) (hM : Con Z a0 l y bytes maxL ret rm [] (.ref a :: argsL).toArray EL h n0 wsC sfC Q) (hlen : ∀ sig, parseMethodDescriptor y.desc = some sig → argsL.length = sig.parameters.length) (hd : decode code pc = .ok (.invokespecial index, 3)) (hz : L.size = mx) (hf : rm.frames + 1 ≤ R.frames) (hl : (rest.map fun v => v.category).sum + (maxL + 11) + rm.locals ≤ R.locals) (hc : cells + rm.cells ≤ R.cells) (hs : slots + rm.slots ≤ R.slots) (hws : ∀ x ∈ wsC, NW h0 ws x) (hsf : ∀ x ∈ sfC, x ∈ sf) (hwf : ∀ x ∈ wsC, x ∈ sf) (hp : pc + 3 = pc') :
    ∃ (v : Option Value) (h' : Heap) (so : List Addr), Wl Z a0 own p l e R s m args below meth c code mx B EL h0 n0 ws (so ++ sf) h' (cells + rm.cells) (slots + rm.slots) pc' L (v.toList ++ rest) ∧ Keep h h' wsC ∧ Q v h' so := by
  have nw := fun x (q : NW h0 ws x) => G.nw q
  obtain ⟨⟨hx, hby, hml, hEW⟩, ⟨o1, z2, z3, z1, es⟩, v0, k0, T, locs, X, ⟨hS, hk, hZ, hown⟩, ⟨hC, hF⟩, N, eT, k⟩ := G
  subst hst
  obtain ⟨v, _, ⟨T', L', k', n'⟩, -, X', hS', g', ⟨Lc, ⟨so, N', K', hQ, C', F'⟩, l', y', z'⟩, st⟩ := superBackS (s := s.setVm v0) X hx hZ (y := y) hown w1 w2 w3 w4 hn (backL (s := s) (W := (rest.map fun v => v.category).sum) hM hZ wc wz hf hl hEW hC.1 (fun x hx => hF x (hsf x hx))) eT Ex (g := mkF m pc L (argsL.reverse ++ .ref a :: rest)) rfl (hz.trans hml.symm) wc (argsL := argsL) (rest := rest) hlen rfl (by show 2 * 0 + _ ≤ _; omega) (hb hby hd) (fun _ _ => ⟨rfl, eT, hc, hs⟩)
  dsimp only [Pt.U, Pt.locs, Pt.cells, Pt.slots] at X' hS' g' l' y' z' st N' K' hQ C' F'
  subst l' y' z'
  obtain ⟨X2, hS2, hZ2, hown2⟩ := rebS (s := s) hS (by rw [← eT] at hk; exact hk) X' hS' g' hZ hown
  exact ⟨v, T'.heap, so, ⟨⟨hx, hby, hml, hEW⟩, ⟨o1.keep K' (fun x q => nw x (hws x q)), z2.trans K' hws, z3, z1, es⟩, T'.vm, _, T', _, X2, ⟨hS2, Nat.le_refl _, hZ2, hown2⟩, ⟨hC.trans C', fun x q => (List.mem_append.mp q).elim (F' x) (fun r => ⟨Nat.lt_of_lt_of_le (hF x r).1 K'.1, C'.safe (hF x r).1 (hF x r).2⟩)⟩, N.app N', rfl, fun t q => k t (st.trans (by subst hp; exact q))⟩, K', hQ⟩
theorem nfSel {C : String} {y : MethodName} (w3 : (Cond.selects C y y).before a0 Z = true) : ∀ s' : State, Z.Warmed39 s'.vm → NotFace s' y := fun s' hZ => notFace_of_selects (args := #[]) (mvT hZ w3)
theorem Wl.val {v : Option Value} {w : Value} {rest : List Value} (G : Wl Z a0 own p l e R s m args below meth c code mx B EL h0 n0 ws sf h cells slots pc L (v.toList ++ rest)) (q : v = some w) : Wl Z a0 own p l e R s m args below meth c code mx B EL h0 n0 ws sf h cells slots pc L (w :: rest) := by subst q; exact G
theorem Wl.nov {v : Option Value} {rest : List Value} (G : Wl Z a0 own p l e R s m args below meth c code mx B EL h0 n0 ws sf h cells slots pc L (v.toList ++ rest)) (q : v = none) : Wl Z a0 own p l e R s m args below meth c code mx B EL h0 n0 ws sf h cells slots pc L (rest) := by subst q; exact G
theorem Wl.callP {index : Nat} {y : MethodName} {bytes : ByteArray} {maxL : Nat} {ret : Option FieldType} {rm : Room} {wsC sfC : List Addr} {St : List Value} {a : Addr} {C : String} {Q : Option Value → Heap → List Addr → Prop} (G : Wl Z a0 own p l e R s m args below meth c code mx B EL h0 n0 ws sf h cells slots pc L (St)) (pc' : Nat) (w1 : (Cond.methodLink own index y).before a0 Z = true) (w2 : (Cond.instanceMethod y).before a0 Z = true) (w3 : (Cond.selects y.cls y y).before a0 Z = true) (w4 : (Cond.privateMethod y).before a0 Z = true) (wz : (Cond.initialized y.cls).before a0 Z = true) (wc : (Cond.code y bytes maxL ret).before a0 Z = true) (Ex : Exa Z h a C) (hy : y.cls ≠ "java/lang/invoke/MethodHandle" ∧ y.cls ≠ "java/lang/invoke/VarHandle") (argsL rest : List Value) (hst : St = argsL.reverse ++ .ref a :: rest) (hM : Con Z a0 l y bytes maxL ret rm [] (.ref a :: argsL).toArray EL h n0 wsC sfC Q) (hlen : ∀ sig, parseMethodDescriptor y.desc = some sig → argsL.length = sig.parameters.length) (hd : decode code pc = .ok (.invokevirtual index, 3)) (hz : L.size = mx) (hf : rm.frames + 1 ≤ R.frames) (hl : (rest.map fun v => v.category).sum + (maxL + 11) + rm.locals ≤ R.locals) (hc : cells + rm.cells ≤ R.cells) (hs : slots + rm.slots ≤ R.slots) (hws : ∀ x ∈ wsC, NW h0 ws x) (hsf : ∀ x ∈ sfC, x ∈ sf) (hwf : ∀ x ∈ wsC, x ∈ sf) (hp : pc + 3 = pc') :
    ∃ (v : Option Value) (h' : Heap) (so : List Addr), Wl Z a0 own p l e R s m args below meth c code mx B EL h0 n0 ws (so ++ sf) h' (cells + rm.cells) (slots + rm.slots) pc' L (v.toList ++ rest) ∧ Keep h h' wsC ∧ Q v h' so := by
  have nw := fun x (q : NW h0 ws x) => G.nw q
  obtain ⟨⟨hx, hby, hml, hEW⟩, ⟨o1, z2, z3, z1, es⟩, v0, k0, T, locs, X, ⟨hS, hk, hZ, hown⟩, ⟨hC, hF⟩, N, eT, k⟩ := G
  subst hst
  obtain ⟨cellq, kq, q1, -, -, q4, -⟩ := Ex
  obtain ⟨v, _, ⟨T', L', k', n'⟩, -, X', hS', g', ⟨Lc, ⟨so, N', K', hQ, C', F'⟩, l', y', z'⟩, st⟩ := X.privateBackS hx (y := y) hown (mvT (s := s.setVm v0) hZ w1) (mvT (s := s.setVm v0) hZ w2) (mvT (s := s.setVm v0) hZ w3) (Cond.privateMethod_at (args := args) (mvP (s := s.setVm v0) hZ w4)) (mvT (s := s.setVm v0) hZ wc) hy (backL (s := s) (W := (rest.map fun v => v.category).sum) hM hZ wc wz hf hl hEW hC.1 (fun x hx => hF x (hsf x hx))) (g := mkF m pc L (argsL.reverse ++ .ref a :: rest)) rfl (hz.trans hml.symm) (Steps.refl _) (by rw [eT]; exact q1) (fun q r => by rw [r] at q4; cases q4) (argsL := argsL) (rest := rest) hlen rfl (by show 2 * 0 + _ ≤ _; omega) (hb hby hd) (fun _ _ => ⟨rfl, eT, hc, hs⟩)
  dsimp only [Pt.U, Pt.locs, Pt.cells, Pt.slots] at X' hS' g' l' y' z' st N' K' hQ C' F'
  subst l' y' z'
  obtain ⟨X2, hS2, hZ2, hown2⟩ := rebS (s := s) hS (by rw [← eT] at hk; exact hk) X' hS' g' hZ hown
  exact ⟨v, T'.heap, so, ⟨⟨hx, hby, hml, hEW⟩, ⟨o1.keep K' (fun x q => nw x (hws x q)), z2.trans K' hws, z3, z1, es⟩, T'.vm, _, T', _, X2, ⟨hS2, Nat.le_refl _, hZ2, hown2⟩, ⟨hC.trans C', fun x q => (List.mem_append.mp q).elim (F' x) (fun r => ⟨Nat.lt_of_lt_of_le (hF x r).1 K'.1, C'.safe (hF x r).1 (hF x r).2⟩)⟩, N.app N', rfl, fun t q => k t (st.trans (by subst hp; exact q))⟩, K', hQ⟩
theorem declOf {y : MethodName} {bytes : ByteArray} {maxL : Nat} {ret : Option FieldType} (w2 : (Cond.instanceMethod y).before a0 Z = true) (wc : (Cond.code y bytes maxL ret).before a0 Z = true) : (Cond.declares y).before a0 Z = true := by
  obtain ⟨mk, methM, hnamed, hmethM, hstM, -⟩ := Cond.instanceMethod_spec w2
  obtain ⟨methM', cM, hmethM', -, -, -, -, -, -, hsigM⟩ := Cond.code_spec hnamed wc
  cases hmethM.symm.trans hmethM'
  simp [Cond.before, Cond.holds, Cond.value, hnamed, hmethM, hstM, hsigM]
theorem nfVia {C : String} {y y' : MethodName} (hc : y'.cls = y.cls) (w3 : (Cond.selects C y y).before a0 Z = true) (w4 : (Cond.instanceMethod y).before a0 Z = true) : ∀ s' : State, Z.Warmed39 s'.vm → NotFace s' y' := fun s' hZ r0 h0 => by
  obtain ⟨mk, methM, hnamed, -⟩ := Cond.instanceMethod_spec (mv (args := #[]) hZ w4)
  obtain ⟨kr, h1, h2⟩ := notFace_of_selects (args := #[]) (mvT hZ w3) mk hnamed
  have e1 := findClass_of_methodNamed hnamed
  have e2 := findClass_of_methodNamed h0
  rw [hc] at e2
  have e3 := Option.some.inj (e1.symm.trans e2)
  exact ⟨kr, by rw [← e3]; exact h1, h2⟩
theorem sameOf {y : MethodName} (w2 : (Cond.instanceMethod y).before a0 Z = true) (nf : ∀ s' : State, Z.Warmed39 s'.vm → NotFace s' y) (hy : y.cls ≠ "java/lang/invoke/MethodHandle" ∧ y.cls ≠ "java/lang/invoke/VarHandle") : (Cond.sameMethod y.cls y.cls y.name y.desc).before a0 Z = true := by
  obtain ⟨mk, methM, hnamed, -⟩ := Cond.instanceMethod_spec w2
  obtain ⟨kr, h1, h2⟩ := nf Z (State.Warmed39.refl Z) mk hnamed
  have e1 := findClass_of_methodNamed hnamed
  have e2 := State.methodFound?_of_named hnamed hy
  have e3 : Z.methodNamed? ⟨y.cls, y.name, y.desc⟩ = some mk := hnamed
  simp [Cond.before, Cond.holds, Cond.value, e1, e2, e3, h1, h2]
theorem Wl.ccast {K : String} {index : Nat} {a : Addr} (G : Wl Z a0 own p l e R s m args below meth c code mx B EL h0 n0 ws sf h cells slots pc L (.ref a :: S)) (pc' : Nat) (w : (Cond.classLink own index K).before a0 Z = true) (F : Ins Z h a K true) (hd : decode code pc = .ok (.checkcast index, 3)) (hp : pc + 3 = pc') : Wl Z a0 own p l e R s m args below meth c code mx B EL h0 n0 ws sf h cells slots pc' L (.ref a :: S) := by
  obtain ⟨⟨hx, hby, hml, hEW⟩, ⟨o1, z2, z3, z1, es⟩, v0, k0, T, locs, X, ⟨hS, hk, hZ, hown⟩, ⟨hC, hF⟩, N, eT, k⟩ := G
  obtain ⟨T', X', e', st⟩ := castY (s := s.setVm v0) X hx hZ hown w eT F (g := mkF m pc L (.ref a :: S)) rfl rfl (hb hby hd)
  exact ⟨⟨hx, hby, hml, hEW⟩, ⟨o1, z2, z3, z1, es⟩, v0, k0, T', _, X', ⟨hS, hk, hZ, hown⟩, ⟨hC, hF⟩, N, e', fun t q => k t (st t (by subst hp; exact q))⟩
theorem Wl.instY {K : String} {index : Nat} {a : Addr} (G : Wl Z a0 own p l e R s m args below meth c code mx B EL h0 n0 ws sf h cells slots pc L (.ref a :: S)) (pc' : Nat) (w : (Cond.classLink own index K).before a0 Z = true) (F : Ins Z h a K true) (hd : decode code pc = .ok (.instanceof index, 3)) (hp : pc + 3 = pc') : Wl Z a0 own p l e R s m args below meth c code mx B EL h0 n0 ws sf h cells slots pc' L (.int 1 :: S) := by
  obtain ⟨⟨hx, hby, hml, hEW⟩, ⟨o1, z2, z3, z1, es⟩, v0, k0, T, locs, X, ⟨hS, hk, hZ, hown⟩, ⟨hC, hF⟩, N, eT, k⟩ := G
  obtain ⟨T', X', e', st⟩ := Jvm.RoadKit.instY (s := s.setVm v0) X hx hZ hown w eT F (g := mkF m pc L (.ref a :: S)) rfl rfl (hb hby hd)
  exact ⟨⟨hx, hby, hml, hEW⟩, ⟨o1, z2, z3, z1, es⟩, v0, k0, T', _, X', ⟨hS, hk, hZ, hown⟩, ⟨hC, hF⟩, N, e', fun t q => k t (st t (by subst hp; exact q))⟩
theorem Wl.cpy {index : Nat} {a b : Addr} {k k' : ClassId} {ty : FieldType} {z z' sp dp nn : Int32} {vs vd : List Value} {dv dd : Value} (G : Wl Z a0 own p l e R s m args below meth c code mx B EL h0 n0 ws sf h cells slots pc L (.int nn :: .int dp :: .ref b :: .int sp :: .ref a :: S)) (pc' : Nat) (w1 : (Cond.methodLink own index Jvm.Stand.acN).before a0 Z = true) (w2 : (Cond.native Jvm.Stand.acN).before a0 Z = true) (w3 : (Cond.static Jvm.Stand.acN).before a0 Z = true) (w4 : (Cond.initialized "java/lang/System").before a0 Z = true) (A : Arv Z h a k ty z vs dv) (B' : Arv Z h b k' ty z' vd dd) (hr : refKind ty = false) (h1 : ¬ sp < 0) (h2 : ¬ dp < 0) (h3 : ¬ nn < 0) (h4 : sp.toNatClampNeg + nn.toNatClampNeg ≤ z.toNatClampNeg) (h5 : dp.toNatClampNeg + nn.toNatClampNeg ≤ z'.toNatClampNeg) (hl : dp.toNatClampNeg + nn.toNatClampNeg ≤ vd.length) (q : NW h0 ws b) (qs : b ∈ sf) (hd : decode code pc = .ok (.invokestatic index, 3)) (hz : L.size = mx) (hf : 1 ≤ R.frames) (hlo : (S.map fun v => v.category).sum + (nativeFrameWords "java/lang/System" "arraycopy" 5 + 11) ≤ R.locals) (hp : pc + 3 = pc') : ∃ (h' : Heap), Wl Z a0 own p l e R s m args below meth c code mx B EL h0 n0 ws sf h' cells slots pc' L S ∧ Arv Z h' b k' ty z' (vd.take dp.toNatClampNeg ++ ((List.range nn.toNatClampNeg).map fun i => vs.getD (sp.toNatClampNeg + i) dv) ++ vd.drop (dp.toNatClampNeg + nn.toNatClampNeg)) dd ∧ Keep h h' [b] := by
  have qn := G.nw q
  obtain ⟨⟨hx, hby, hml, hEW⟩, ⟨o1, z2, z3, z1, es⟩, v0, k0, T, locs, X, ⟨hS, hk, hZ, hown⟩, ⟨hC, hF⟩, N, eT, k⟩ := G
  obtain ⟨T', h', LL, X', e', N', K', A', st⟩ := cpA (s := s.setVm v0) X hx hZ hown w1 w2 w3 w4 eT A B' (Or.inl ⟨rfl, hr⟩) h1 h2 h3 h4 h5 rfl hl N qn (g := mkF m pc L (.int nn :: .int dp :: .ref b :: .int sp :: .ref a :: S)) rfl (hz.trans hml.symm) rfl (hb hby hd) hf (W := (S.map fun v => v.category).sum) (by show 2 * 0 + _ ≤ _; omega) hlo
  have hsb : ∀ x ∈ [b], Safe Z EL v0 h x := fun x y => by cases List.mem_singleton.mp y; exact (hF _ qs).2
  exact ⟨h', ⟨⟨hx, hby, hml, hEW⟩, ⟨o1.keep K' (allS qn all0), z2.trans K' (allS q all0), z3, z1, es⟩, v0, k0, T', _, X', ⟨hS, Nat.le_trans hk K'.1, hZ, hown⟩, ⟨hC.trans (CHr.keep K' hsb hC.1), safeKeep K' hsb hC.1 hF⟩, N', e', fun t q => k t (st t (by subst hp; exact q))⟩, A', K'⟩
theorem Wl.ldcS {index : Nat} {text : String} {vs : List Value} {z : Int32} (G : Wl Z a0 own p l e R s m args below meth c code mx B EL h0 n0 ws sf h cells slots pc L S) (pc' : Nat) (w : (Cond.stringLink own index text).before a0 Z = true) (wS : ∀ a ∈ Bundle.stringAtoms, a.before a0 Z = true) (hmem : (own, index) ∈ EL) (ht : (∀ c ∈ text.toList, c.toNat < 256) ∧ text.toList.map (fun c => Value.int (Jvm.Lit.byteI c.toNat.toUInt16)) = vs) (hz : ¬ z < 0) (hl : z.toNatClampNeg = vs.length) (hd : decode code pc = .ok (.ldc index, 2)) (n : Nat) (hn : 4 * text.toList.length ≤ n) (hbig : n ≤ 536870912) (hc : cells + 2 ≤ R.cells) (hl' : slots + (n + 4) ≤ R.slots) (hp : pc + 2 = pc') : ∃ (a b : Addr) (h' : Heap) (kk : ClassId), Wl Z a0 own p l e R s m args below meth c code mx B EL h0 n0 ws sf h' (cells + 2) (slots + (n + 4)) pc' L (.ref a :: S) ∧ Ext h h' ∧ Exa Z h' a "java/lang/String" ∧ Fld Z h' a "java/lang/String" "coder" "B" (.int 0) ∧ Fld Z h' a "java/lang/String" "value" "[B" (.ref b) ∧ Arv Z h' b kk .byte z vs (.int 0) ∧ ∀ x ∈ sf, x ≠ a ∧ x ≠ b := by
  obtain ⟨⟨hx, hby, hml, hEW⟩, ⟨o1, z2, z3, z1, es⟩, v0, k0, T, locs, X, ⟨hS, hk, hZ, hown⟩, ⟨hC, hF⟩, N, eT, k⟩ := G
  obtain ⟨a, T', h', k1, b, kk, X', e', E, hS', hk', hZ', hown', Ex, Fc, Fv, A, -, -, C', -, hne, st⟩ := ldcCH X hx hZ hown w wS eT hS hk hEW hmem hC.1 ht hz hl (g := mkF m pc L S) rfl (hb hby hd) hn hbig hc hl'
  have hF' : ∀ x ∈ sf, x < h'.size ∧ Safe Z EL T'.vm h' x := fun x q => ⟨Nat.lt_of_lt_of_le (hF x q).1 E.1, C'.safe (hF x q).1 (hF x q).2⟩
  exact ⟨a, b, h', kk, ⟨⟨hx, hby, hml, hEW⟩, ⟨o1.ext E, z2.ext E, z3, z1, es⟩, T'.vm, k1, T', _, X', ⟨hS', hk', hZ', hown'⟩, ⟨hC.trans C', hF'⟩, N, e', fun t q => k t (st t (by subst hp; exact q))⟩, E, Ex, Fc, Fv, A, fun x q => hne x (hF' x q).2⟩
end OwnL
end Jvm.OwnL
namespace Jvm.OwnX
open Sem ClassFile Op Lib Bundle Jvm.Stand Jvm.Free Jvm.LawKit Jvm.RoadKit Jvm.OwnL Jvm.Free.Exc
/-- the words on Throwable that the walk of fillInStackTrace() asks for, the fields laid in the class rc -/
def tw (rc : String) : List Jvm.Cond := [.initialized tN, .superclass tN "java/lang/Object", .instanceMethod tFill, .codeSync tFill LibCode.Throwable.Fill.code 1 (some (.object tN)), .instanceMethod tFill0, .native tFill0, .instanceMethod oInit, .code oInit ⟨#[0xb1]⟩ 1 none, .methodLink tN 1 oInit, .methodLink tN 27 tFill, .methodLink tN 202 tFill0, .fieldLink tN 7 tN "cause" thD, .lays rc tN "cause" thD, .fieldLink tN 17 tN "stackTrace" steD, .lays rc tN "stackTrace" steD, .fieldLink tN 24 tN "suppressedExceptions" listD, .lays rc tN "suppressedExceptions" listD, .fieldLink tN 13 tN "UNASSIGNED_STACK" steD, .laysStatic tN "UNASSIGNED_STACK" steD, .fieldLink tN 20 tN "SUPPRESSED_SENTINEL" listD, .laysStatic tN "SUPPRESSED_SENTINEL" listD, .lays rc tN "detailMessage" msgD, .declares tFill, .selects rc tFill0 tFill0, .selects rc tFill tFill, .fieldLink tN 198 tN "backtrace" obD, .lays rc tN "backtrace" obD, .arrayOver (.object "java/lang/Object"), .soleField tN "backtrace", .soleField tN "depth", .lays rc tN "depth" "I"]
theorem tw_ok {rc : String} : (tw rc).all xOk = true := rfl
theorem thC {args : Array Value} {s : State} {pl : Platform} {rc : String} (h1 : pl.frameOwnsMonitors = true) (h2 : pl.finalization = false) (hpl : pl.magicAccessors = ({} : Platform).magicAccessors) (w : ∀ d ∈ tw rc, d.before args s = true) :
    ∃ T : ThrowableC, T.Links pl s ∧ s.vm.findClass tN = some T.cT ∧ s.methodNamed? tFill = some T.fill ∧ s.methodNamed? tFill0 = some T.fill0 ∧ s.fieldFound? tN "stackTrace" steD = some (T.cT, T.kT, T.i17, T.fStack) ∧ (T.fStack.name = "stackTrace" ∧ T.fStack.type = .array (.object "java/lang/StackTraceElement")) ∧
      s.fieldFound? tN "UNASSIGNED_STACK" steD = some (T.cT, T.kT, T.i13, T.fUnassigned) ∧ ∃ iM, s.fieldFound? tN "detailMessage" msgD = some (T.cT, T.kT, iM, T.fMsg) ∧ T.fMsg.name = "detailMessage" := by
  have a : ∀ d, d ∈ tw rc → d.holds args s none s [] = true := fun d q => w d q
  obtain ⟨⟨ct, j0⟩, me0, y0, v0, z1, z2, z3, z4⟩ := Cond.native_spec (a _ (List.mem_of_getElem? (i := 5) rfl))
  have fT : s.vm.findClass tN = some ct := findClass_of_methodNamed y0
  obtain ⟨kt, gT, nT⟩ := Vm.findClass_spec fT
  obtain ⟨_, k1, _, _, e1, _, _, _, _, nI⟩ := Cond.superclass_spec fT (a _ (List.mem_of_getElem? (i := 1) rfl))
  cases gT.symm.trans e1
  obtain ⟨jF, mF, y1, v1, p1, p2, p3, -, -⟩ := Cond.ownMethod (x := tFill) fT gT (a _ (List.mem_of_getElem? (i := 2) rfl))
  obtain ⟨mF', cF, v1', f1, f2, f3, f4, f5, -, f6⟩ := Cond.codeSync_spec y1 (a _ (List.mem_of_getElem? (i := 3) rfl))
  cases v1.symm.trans v1'
  obtain ⟨j0', me0', y0', v0', r1, r2, r3, r4, r5⟩ := Cond.ownMethod (x := tFill0) fT gT (a _ (List.mem_of_getElem? (i := 4) rfl))
  cases y0.symm.trans y0'
  cases v0.symm.trans v0'
  obtain ⟨mO, meO, yO, vO, o1, o2⟩ := Cond.instanceMethod_spec (a _ (List.mem_of_getElem? (i := 6) rfl))
  obtain ⟨meO', cO, vO', c1, c2, c3, -, c4, -, c5⟩ := Cond.code_spec yO (a _ (List.mem_of_getElem? (i := 7) rfl))
  cases vO.symm.trans vO'
  obtain ⟨kO, gO, nO⟩ := Vm.findClass_spec (findClass_of_methodNamed yO)
  obtain ⟨q1, q2⟩ := name_of_methodNamed yO vO
  obtain ⟨ci1, n1, cf, l1, l2, l3, l4⟩ := Cond.linkedMethod fT gT yO (a _ (List.mem_of_getElem? (i := 8) rfl)) pl hpl
  obtain ⟨ci27, n27, cf2, l5, l6, l7, l8⟩ := Cond.linkedMethod fT gT y1 (a _ (List.mem_of_getElem? (i := 9) rfl)) pl hpl
  cases l3.symm.trans l7
  obtain ⟨ci202, n202, cf3, l9, l10, l11, l12⟩ := Cond.linkedMethod fT gT y0 (a _ (List.mem_of_getElem? (i := 10) rfl)) pl hpl
  cases l3.symm.trans l11
  obtain ⟨ci7, i7, fC, a1, a2, a3, a4, a5, -, -, -⟩ := Cond.ownField (t := .object tN) fT gT (by decide +kernel) (a _ (List.mem_of_getElem? (i := 11) rfl)) (a _ (List.mem_of_getElem? (i := 12) rfl)) pl hpl
  obtain ⟨ci17, i17, fS, b1, b2, b3, b4, b5, b6, b7, b8⟩ := Cond.ownField (t := .array (.object "java/lang/StackTraceElement")) fT gT (by decide +kernel) (a _ (List.mem_of_getElem? (i := 13) rfl)) (a _ (List.mem_of_getElem? (i := 14) rfl)) pl hpl
  obtain ⟨ci24, i24, fP, d1, d2, d3, d4, d5, d6, d7, d8⟩ := Cond.ownField (t := .object "java/util/List") fT gT (by decide +kernel) (a _ (List.mem_of_getElem? (i := 15) rfl)) (a _ (List.mem_of_getElem? (i := 16) rfl)) pl hpl
  obtain ⟨ci13, i13, fU, aS, cellS, u1, u2, u3, u4, -, -, u5, -, -, -, -, u6⟩ := Cond.ownStatic (t := .array (.object "java/lang/StackTraceElement")) fT gT (by decide +kernel) (a _ (List.mem_of_getElem? (i := 17) rfl)) (a _ (List.mem_of_getElem? (i := 18) rfl)) pl hpl
  obtain ⟨ci20, i20, fE, _, _, t1, t2, t3, t4, -, -, -, -, -, -, -, -⟩ := Cond.ownStatic (t := .object "java/util/List") fT gT (by decide +kernel) (a _ (List.mem_of_getElem? (i := 19) rfl)) (a _ (List.mem_of_getElem? (i := 20) rfl)) pl hpl
  obtain ⟨cR, kR, cM, kM, iM, fM, fR, gR, ffM, sM, nM, -⟩ := Cond.lays_spec (a _ (List.mem_of_getElem? (i := 21) rfl))
  cases fT.symm.trans (Cond.lays_declared (a _ (List.mem_of_getElem? (i := 21) rfl)) ffM)
  cases gT.symm.trans (State.fieldFound?_spec ffM).1
  have nm := (State.fieldFound?_type ffM (t := .object "java/lang/String") (by decide +kernel)).1
  obtain ⟨-, dS, s1, s2⟩ := Cond.laysAt fR gR b8 (a _ (List.mem_of_getElem? (i := 14) rfl))
  obtain ⟨-, dP, s3, s4⟩ := Cond.laysAt fR gR d8 (a _ (List.mem_of_getElem? (i := 16) rfl))
  have ap : fS.slot ≠ fP.slot := Cond.laysApart s1 s3 s2 s4 (by rw [b6, d6]; decide)
  have gF : mF.sig = ⟨[], some (.object tN)⟩ := Option.some.inj (f6.symm.trans (by decide +kernel))
  have g0 : me0.sig = ⟨[.int], some (.object tN)⟩ := Option.some.inj (z4.symm.trans (by decide +kernel))
  have gO' : meO.sig = ⟨[], none⟩ := Option.some.inj (c5.symm.trans (by decide +kernel))
  refine ⟨{ cT := ct, kT := kt, cO := ct, aS := aS, fillIdx := jF, fill0Idx := j0, initSIdx := jF, obj := mO, kObj := kO, methFill := mF, methFill0 := me0, methInitS := mF, methObj := meO, codeFill := cF, codeInitS := cF, codeObj := cO, fBack := fC, fDepth := fC, fStack := fS, fCause := fC, fSupp := fP, fMsg := fM, fUnassigned := fU, fSentinel := fE, cfT := cf, ci1 := ci1, n1 := n1, ci27 := ci27, n27 := n27, ci202 := ci202, n202 := n202, ci7 := ci7, i7 := i7, ci13 := ci13, i13 := i13, ci17 := ci17, i17 := i17, ci20 := ci20, i20 := i20, ci24 := ci24, i24 := i24 }, ?_, fT, y1, y0, b8, ⟨b6, b7⟩, u6, iM, ffM, nm⟩
  constructor
  case owns => exact h1
  case noFinalization => exact h2
  case cls => exact gT
  case name => exact nT
  case boot => exact Vm.findClass_boot fT gT
  case notInterface => exact nI
  case initialized => exact Cond.initialized_spec fT gT (a _ (List.mem_of_getElem? (i := 0) rfl))
  case statics => exact u5
  case fillParams => show mF.sig.parameters = []; rw [gF]
  case fill0Params => show me0.sig.parameters = [.int]; rw [g0]
  case objParams => show meO.sig.parameters.length = 0; rw [gO']; rfl
  case objFound => show lookupSpecial s.vm mO.cls "<init>" meO.desc = .method mO; rw [q2]; exact lookupSpecial_of_named yO vO o1
  case stackApartSupp => exact ap
  all_goals assumption
theorem same_fld {U U' : State} (al : U.vm.Alike U'.vm) {O n d : String} {c c' i i' : Nat} {k k' : Class} {f f' : Field} (q : U.fieldFound? O n d = some (c, k, i, f)) (r : U'.fieldFound? O n d = some (c', k', i', f')) : f = f' := by
  obtain ⟨_, _, _, q'⟩ := Jvm.Free.BdW.found_ride (U := U) (U' := U') al ⟨c, k, i, q⟩
  cases q'.symm.trans r; rfl
theorem allC0 {α : Type} {P : α → Prop} : ∀ x ∈ ([] : List α), P x := fun _ q => nomatch q
theorem allCS {α : Type} {P : α → Prop} {y : α} {L : List α} (q : P y) (r : ∀ x ∈ L, P x) : ∀ x ∈ y :: L, P x := fun x z => (List.mem_cons.mp z).elim (fun u => u ▸ q) (r x)
end Jvm.OwnX
namespace Jvm.OwnL
open Sem ClassFile Op Lib Bundle Jvm.Stand Jvm.Free Jvm.LawKit Jvm.RoadKit Jvm.OwnX Jvm.Free.Exc
section OwnX
variable {Z : State} {own : String} {p : Program} {l : Launch} {e : Env} {R : Room} {s : State} {m : MethodId} {args : Array Value} {below : List Frame} {meth : Method} {c : Code} {code : ByteArray} {mx : Nat} {B : State} {EL : List (String × Nat)} {h0 : Heap} {n0 : Nat} {ws sf : List Addr} {h h' : Heap} {cells slots pc : Nat} {L L' : Array Slot} {S : List Value} {a0 : Array Value}
theorem Wl.fill {rc : String} {a u : Addr} {nI : Nat} (G : Wl Z a0 tN p l e R s m args below meth c code mx B EL h0 n0 ws sf h cells slots pc L (.ref a :: S)) (pc' : Nat) (w : ∀ d ∈ tw rc, d.before a0 Z = true) (wi : (Cond.instantiable rc nI).before a0 Z = true) (o0 : Old Z n0 h0) (hTr : ∀ e : Env, l.admits e → e.platform.stackTraces = true) (hTK : s.vm.MethodsKnown) (hBl : s.vm.FramesKnown below)
    (Ex : Exa Z h a rc) (N : Unt h a) (Fb : Fld Z h a tN "backtrace" obD .null) (Fs : Fld Z h a tN "stackTrace" steD (.ref u)) (Fm : Fld Z h a tN "detailMessage" msgD .null) (Su : Sta Z h tN "UNASSIGNED_STACK" steD (.ref u)) (q : NW h0 ws a) (qs : a ∈ sf)
    (hd : decode code pc = .ok (.invokevirtual 27, 3)) (hz : L.size = mx) (hf : 3 ≤ R.frames) (hlo : (S.map fun v => v.category).sum + 42 ≤ R.locals) (hc : cells + 1 ≤ R.cells) (hl : slots + 2752 ≤ R.slots) (hp : pc + 3 = pc') :
    ∃ h' : Heap, Wl Z a0 tN p l e R s m args below meth c code mx B EL h0 n0 ws sf h' (cells + 1) (slots + 2752) pc' L (.ref a :: S) ∧ Keep h h' [a] ∧ Exa Z h' a rc ∧ Fld Z h' a tN "detailMessage" msgD .null := by
  have qn := G.nw q
  obtain ⟨⟨hx, hby, hml, hEW⟩, ⟨o1, z2, z3, z1, es⟩, v0, k0, T, locs, X, ⟨hS, hk, hZ, hown⟩, ⟨hC, hF⟩, NL, eT, k⟩ := G
  have al : Z.vm.Alike v0 := hZ.alike
  have hTh : ThS Z (s.setVm v0).heap := by show ThS Z s.heap; rw [es]; exact ThS.start.ext o0.2
  have W : ∀ d ∈ tw rc, d.before args (s.setVm v0) = true := fun d hd' => mvX hTh hZ (List.all_eq_true.mp tw_ok d hd') (w d hd')
  have hpl : e.platform.magicAccessors = ({} : Platform).magicAccessors := by rw [X.admits.platform]
  obtain ⟨T', LK, fT, nF, nF0, ffS, ⟨nS, tS⟩, ffU, iM, ffM, nM⟩ := thC (pl := e.platform) (by rw [X.admits.platform]) (by rw [X.admits.platform]) hpl W
  obtain ⟨cell, kX, x1, x2, x3, x4, x5⟩ := id Ex
  obtain ⟨c2, w1, w2, w3⟩ := N
  cases x1.symm.trans w1
  obtain ⟨c4, k4, i1, i2, i3, -⟩ := Cond.instantiable_spec wi
  cases x2.symm.trans i1
  cases x3.symm.trans i2
  obtain ⟨kY, g1, g2⟩ := al.2.2 _ _ x3
  have hfound : (s.setVm v0).vm.findClass rc = some cell.cls := by show v0.findClass rc = _; rw [al.findClass]; exact x2
  have hord : kY.kind = .ordinary := by rw [g2]; exact i3
  have hsz : cell.slots.size = kY.instanceTypes.size := by rw [g2]; exact x5 i3
  obtain ⟨_, _, _, _, fS, s1, s2, -, -, -, -, s7⟩ := Fs
  cases x1.symm.trans s1
  cases same_fld (U' := s.setVm v0) al s2 ffS
  obtain ⟨_, _, _, _, fB, b1, b2, -, -, -, -, b7⟩ := Fb
  cases x1.symm.trans b1
  obtain ⟨_, cfm, kfm, ifm, fM, m1, m2, m3, m4, m5, m6, m7⟩ := Fm
  cases x1.symm.trans m1
  cases same_fld (U' := s.setVm v0) al m2 ffM
  obtain ⟨cfu, iu, ku, fU, st, cellS, t1, t2, t3, t4, t5, t6, t7⟩ := Su
  obtain ⟨ku', g3, g4⟩ := State.fieldFound?_setVm (s := Z) al t1
  cases (show (s.setVm v0).fieldFound? tN "UNASSIGNED_STACK" steD = _ from g3).symm.trans ffU
  have hst : T'.aS = st := by
    have := LK.statics
    rw [g4] at this
    exact Option.some.inj (this.symm.trans t4)
  have hneS : T'.aS ≠ a := fun r => by
    rw [hst] at r; rw [r, x1] at t5; cases t5; rw [x4] at t6; cases t6
  have hkS : cellS.vm ≠ .unknown := fun r => by rw [r] at t6; cases t6
  obtain ⟨ci198, i198, fB', d1, d2, d3, d4, -, d6, d7, d8⟩ := Cond.ownField (C' := rc) (t := .object "java/lang/Object") fT LK.cls (by decide +kernel) (W _ (List.mem_of_getElem? (i := 25) rfl)) (W _ (List.mem_of_getElem? (i := 26) rfl)) e.platform hpl
  cases same_fld (U' := s.setVm v0) al b2 d8
  obtain ⟨_, _, cD, kD, iD, fD, -, -, ffD, sD, -, -, -, -⟩ := Cond.lays_spec (W _ (List.mem_of_getElem? (i := 30) rfl))
  cases fT.symm.trans (Cond.lays_declared (W _ (List.mem_of_getElem? (i := 30) rfl)) ffD)
  obtain ⟨e1, e2⟩ := State.fieldFound?_spec ffD
  cases LK.cls.symm.trans e1
  obtain ⟨nD, tD⟩ := State.fieldFound?_type ffD (t := .int) (by decide +kernel)
  have fb := Cond.soleField_find fT LK.cls (W _ (List.mem_of_getElem? (i := 28) rfl)) d3 d6 d4
  have fd := Cond.soleField_find fT LK.cls (W _ (List.mem_of_getElem? (i := 29) rfl)) e2 nD sD
  obtain ⟨comp, cO, kO, -, -, hkO, hkindO, hO⟩ := Cond.arrayOver_spec (W _ (List.mem_of_getElem? (i := 27) rfl))
  obtain ⟨tyS, dS, hS1, hS2⟩ := Cond.laysAt hfound g1 ffS (W _ (List.mem_of_getElem? (i := 14) rfl))
  obtain ⟨tyM, dM, hM1, hM2⟩ := Cond.laysAt hfound g1 ffM (W _ (List.mem_of_getElem? (i := 21) rfl))
  obtain ⟨tyB, dB, hB1, hB2⟩ := Cond.laysAt hfound g1 d8 (W _ (List.mem_of_getElem? (i := 26) rfl))
  obtain ⟨tyD, dD, hD1, hD2⟩ := Cond.laysAt hfound g1 ffD (W _ (List.mem_of_getElem? (i := 30) rfl))
  have mS := Cond.laysApart hM1 hS1 hM2 hS2 (by rw [nM, nS]; decide)
  have mB := Cond.laysApart hM1 hB1 hM2 hB2 (by rw [nM, d6]; decide)
  have mD := Cond.laysApart hM1 hD1 hM2 hD2 (by rw [nM, nD]; decide)
  have tk : ∀ {f : Field} {v : Value}, kY.instanceTypes[f.slot]? = some f.type → fits f.type v = true → Jvm.Takes (s.setVm v0) cell f v := fun {f v} r1 r2 => by
    obtain ⟨r3, r4⟩ := Takes.of_laid (s := s.setVm v0) (v := v) g1 hord r1 r2
    exact ⟨by rw [hsz]; simpa using r3, by rw [w2]; exact r4⟩
  have sel0 : selectMethod e.platform (s.setVm v0).vm cell.cls T'.fill0 = .method T'.fill0 := by
    obtain ⟨_, _, _, r1, r2, r3, r4, -⟩ := Cond.selects_spec (W _ (List.mem_of_getElem? (i := 23) rfl))
    cases r1.symm.trans hfound
    cases r2.symm.trans (State.methodFound?_of_named nF0 (by decide))
    cases r3.symm.trans nF0
    rw [Launch.admits_selectMethod X.admits]; exact r4
  have hSE := (W _ (List.mem_of_getElem? (i := 24) rfl))
  obtain ⟨v6, vm6, ⟨T6, L6, c6, n6⟩, hW6, X6, ⟨hv6, vm7, lines, hlines, hW7, hU, hL, hc6, hn6⟩, come⟩ := X.virtualBack hx (own := tN) (C := rc) (index := 27) (y := tFill) (z := tFill) hown (W _ (List.mem_of_getElem? (i := 9) rfl)) (W _ (List.mem_of_getElem? (i := 22) rfl)) (notFace_of_selects hSE) hSE (W _ (List.mem_of_getElem? (i := 2) rfl)) (by decide)
    (Jvm.Free.Str.fillPays (l := l) (W := (S.map fun v => v.category).sum) hx (hTr e X.admits) T' LK nF (u0 := ⟨.ref u, rfl⟩) (by simp) (self := a) (cell := cell) (cellS := cellS) (fun _ => by rw [w2]; simp) (by rw [w2]; simp) (by rw [w3]) (by rw [w3]) s7 sel0 hneS hkS t7 (tk tyS (by rw [tS]; rfl))
      ⟨{ ci198 := ci198, i198 := i198, fBack := fB }, ⟨d1, d2, d3, d4⟩, b7⟩ (Vm.MethodsKnown.alikeC hS.1.alike hTK) (Vm.FramesKnown.alikeC hS.1.alike hBl) fT hO hkO hkindO fb fd (fun y => tk tyB (by rw [d7]; rfl)) (fun n => tk tyD (by rw [tD]; rfl)) (by omega) hlo)
    (b := a) (cB := cell.cls) hfound ⟨cell, by rw [eT]; exact x1, rfl, by rw [w2]; rfl⟩ (g := mkF m pc L (.ref a :: S)) rfl (hz.trans hml.symm) (Steps.refl _) (argsL := []) (rest := S)
    (fun sig r => by rw [show parseMethodDescriptor tFill.desc = some ⟨[], some (.object tN)⟩ from by decide +kernel] at r; rw [← Option.some.inj r]; rfl) rfl (by show 2 * 0 + _ ≤ _; omega) (hb hby hd)
    (fun vmx hWx => ⟨rfl, hc, hl, by show T.heap[a]? = _; rw [eT]; exact x1, by show T.heap[T'.aS]? = _; rw [eT, hst]; exact t5⟩)
  dsimp only [Pt.U, Pt.locs, Pt.cells, Pt.slots] at X6 hU hL hc6 hn6 come
  subst hv6 hL hc6 hn6
  have hlt : a < h.size := (Array.getElem?_eq_some_iff.mp x1).1
  have hh : T6.heap = (h.push (traceHolder cO lines)).setIfInBounds a (Jvm.Free.Str.filledOn T'.toThrowableT fB fD cell ⟨.ref u, rfl⟩ h.size lines.length.toInt32) := by rw [hU, ← eT]; rfl
  have at_a : T6.heap[a]? = some (Jvm.Free.Str.filledOn T'.toThrowableT fB fD cell ⟨.ref u, rfl⟩ h.size lines.length.toInt32) := by rw [hh, Array.getElem?_setIfInBounds_self_of_lt]; rw [Array.size_push]; exact Nat.lt_succ_of_lt hlt
  have at_o : ∀ (y : Addr) (cy : Cell), h[y]? = some cy → y ≠ a → T6.heap[y]? = some cy := fun y cy r1 r2 => by
    rw [hh, Array.getElem?_setIfInBounds_ne (Ne.symm r2), Array.getElem?_push_lt (Array.getElem?_eq_some_iff.mp r1).1]
    exact congrArg some (Array.getElem?_eq_some_iff.mp r1).2
  have K' : Keep h T6.heap [a] := by
    refine ⟨by rw [hh]; simp, fun y cy r1 r2 => at_o y cy r1 (fun z => r2 (List.mem_singleton.mpr z)), fun y cy r1 => ?_⟩
    by_cases r2 : y = a
    · subst r2; cases x1.symm.trans r1; exact ⟨_, at_a, rfl, rfl, by simp [Jvm.Free.Str.filledOn, Cell.setSlot]⟩
    · exact ⟨cy, at_o y cy r1 r2, rfl, rfl, rfl⟩
  have hsb : ∀ x ∈ [a], Safe Z EL v0 h x := fun x y => by cases List.mem_singleton.mp y; exact (hF _ qs).2
  refine ⟨T6.heap, ⟨⟨hx, hby, hml, hEW⟩, ⟨o1.keep K' (allS qn all0), z2.trans K' (allS q all0), z3, z1, es⟩, v0, k0, T6, _, X6.more (Nat.le_refl _) (Nat.add_le_add_left (traceHolder_size_le cO hlines) _), ⟨hS, Nat.le_trans hk K'.1, hZ, hown⟩, ⟨hC.trans (CHr.keep K' hsb hC.1), safeKeep K' hsb hC.1 hF⟩, NL.app (fun y hy => ?_), rfl, fun t q => k t (come.trans (by subst hp; exact q))⟩, K', Ex.keep K', ?_⟩
  · simp only [List.mem_cons, List.not_mem_nil, or_false] at hy
    rcases hy with rfl | rfl | rfl <;> exact qn
  · refine ⟨_, cfm, kfm, ifm, _, at_a, m2, m3, m4, m5, m6, ?_⟩
    simpa [Jvm.Free.Str.filledOn, Cell.setSlot, Array.getElem?_setIfInBounds, mS, mB, mD, mS.symm, mB.symm, mD.symm] using m7
def Kn : Program → Env → List Frame → State → Array Value → Prop := fun _ _ below s _ => s.vm.MethodsKnown ∧ s.vm.FramesKnown below
/-- Con, where the tables' methods and the frames below are known -/
def ConK (Z : State) (a0 : Array Value) (l : Launch) (y : MethodName) (bytes : ByteArray) (maxL : Nat) (ret : Option FieldType) (rm : Room) (tws : List Jvm.Cond) (as' : Array Value) (EL : List (String × Nat)) (h0 : Heap) (n0 : Nat) (ws sf : List Addr) (Q : Option Value → Heap → List Addr → Prop) : Prop :=
  MetFree l y (head1 (Cond.code y bytes maxL ret :: tws) rm) (fun a U => a = as' ∧ Z.Warmed39 U.vm ∧ U.heap = h0 ∧ CHv Z EL U.vm h0 ∧ ∀ x ∈ sf, x < h0.size ∧ Safe Z EL U.vm h0 x) Kn (fun _ U o U' => ∃ v LL, o = .returned v ∧ (∃ so, Fr n0 LL ∧ Keep h0 U'.heap ws ∧ Q v U'.heap so ∧ CHr Z EL U.vm U.heap U'.vm U'.heap ∧ ∀ x ∈ so, x < U'.heap.size ∧ Safe Z EL U'.vm U'.heap x) ∧ ReturnedEndW U o U' LL rm.cells rm.slots)
theorem ConK.body {tws : List Jvm.Cond} {y : MethodName} {bytes : ByteArray} {maxL : Nat} {ret : Option FieldType} {rm : Room} {as' : Array Value} {Q : Option Value → Heap → List Addr → Prop} (hpl : plainFor y = true) (hEW : EW Z a0 EL) (o1 : Old Z n0 h0) (z3 : ∀ x ∈ ws, n0 ≤ x) (L0 : Array Slot) (hef : ∀ m, entryFrame m as' maxL = mkF m 0 L0 [])
    (body : ∀ (p : Program) (e : Env) (s : State) (m : MethodId) (below : List Frame) (meth : Method) (c : Code) (B : State), s.vm.MethodsKnown → s.vm.FramesKnown below → meth.name = y.name → meth.sig.returnType = ret → meth.locks = false → Wl Z a0 y.cls p l e rm s m as' below meth c bytes maxL B EL h0 n0 ws sf h0 0 0 0 L0 [] → Fin Z EL p e below B s h0 n0 ws rm.cells rm.slots Q) : ConK Z a0 l y bytes maxL ret rm tws as' EL h0 n0 ws sf Q := by
  refine MetFree.of_bodySF hpl hisR ?_
  intro p e s m args below meth c s₁ Bd hml hP hK
  obtain ⟨rfl, hZ, hh, hC, hF⟩ := hP
  refine body p e s m below meth c _ hK.1 hK.2 (name_of_methodNamed Bd.named Bd.method).1 Bd.returns Bd.notSynchronized ⟨⟨Bd.exec, Bd.bytes, hml, hEW⟩, ⟨o1, Keep.refl _ _, z3, by rw [← o1.1]; exact o1.2.1, hh⟩, s.vm, 0, s₁, [], Stand.of_body Bd, ⟨(State.WarmedH.refl s).since 0, Nat.zero_le _, hZ, findClass_of_methodNamed Bd.named⟩, ⟨CHr.refl hC, hF⟩, Fr.nil n0, by rw [← hh, Bd.state]; rfl, fun t q => ?_⟩
  rw [hef m]; exact q
theorem backLK {y : MethodName} {bytes : ByteArray} {maxL : Nat} {ret : Option FieldType} {rm : Room} {len W : Nat} {as' : Array Value} {v0 : Vm} {wsC sfC : List Addr} {Q : Option Value → Heap → List Addr → Prop}
    (hM : ConK Z a0 l y bytes maxL ret rm [] as' EL h n0 wsC sfC Q) (hTK : v0.MethodsKnown) (hBl : v0.FramesKnown below) (hZ : Z.Warmed39 v0) (wc : (Cond.code y bytes maxL ret).before a0 Z = true) (wz : (Cond.initialized y.cls).before a0 Z = true) (hf : rm.frames + 1 ≤ R.frames) (hl : W + (maxL + 11) + rm.locals ≤ R.locals) (hEL : EW Z a0 EL) (H : CHv Z EL v0 h) (hF : ∀ x ∈ sfC, x < h.size ∧ Safe Z EL v0 h x) :
    BackS l R p e below (s.setVm v0) args y len W (fun A a => a = as' ∧ A.U.heap = h ∧ A.cells + rm.cells ≤ R.cells ∧ A.slots + rm.slots ≤ R.slots)
      (fun A _ v B => ∃ LL, (∃ so, Fr n0 LL ∧ Keep h B.U.heap wsC ∧ Q v B.U.heap so ∧ CHr Z EL v0 h B.U.vm B.U.heap ∧ ∀ x ∈ so, x < B.U.heap.size ∧ Safe Z EL B.U.vm B.U.heap x) ∧ B.locs = A.locs ++ LL ∧ B.cells = A.cells + rm.cells ∧ B.slots = A.slots + rm.slots) :=
  BackS.of_freeWG (bytes := bytes) (maxL := maxL) (ret := ret) (E := fun _ first o t LL k n => k = rm.cells ∧ n = rm.slots ∧ ∃ v, o = .returned v ∧ ∃ so, Fr n0 LL ∧ Keep h t.heap wsC ∧ Q v t.heap so ∧ CHr Z EL first.vm first.heap t.vm t.heap ∧ ∀ x ∈ so, x < t.heap.size ∧ Safe Z EL t.vm t.heap x) hM hf hl
    (fun m meth c A a Y hp => have hU : Z.Warmed39 A.U.vm := wtrans (s := s.setVm v0) hZ Y.warmed
      ⟨by show (Cond.and _ .tt).before a A.U = true; rw [Cond.before_and, mv hU wc]; rfl, mv hU wc, mv hU wz, hp.2.2.1, hp.2.2.2⟩)
    (fun m meth c A a g mk Y hp => ⟨hp.1, wtrans (s := s.setVm v0) hZ Y.warmed, hp.2.1, (CHv.at Y hZ hEL H).1, fun x hx => ⟨(hF x hx).1, (CHv.at Y hZ hEL H).safe (hF x hx).1 (hF x hx).2⟩⟩) (fun m meth c A a g mk Y hp hg => known_frames Y hg hTK hBl)
    (fun _ _ _ _ ⟨v, LL, h1, h2, h3⟩ => ⟨LL, _, _, h3, rfl, rfl, v, h1, h2⟩)
    (fun m meth c A a g mk v t LL k n Y hp _ _ ⟨e1, e2, v', e3, so, q1, q2, q3, q4, q5⟩ => by
      cases e3; subst e1 e2
      refine ⟨LL, ⟨so, q1, q2, q3, (CHv.at Y hZ hEL H).trans ?_, q5⟩, rfl, rfl, rfl⟩
      rw [← hp.2.1]; exact q4)
theorem Wl.callSK {index : Nat} {y : MethodName} {bytes : ByteArray} {maxL : Nat} {ret : Option FieldType} {rm : Room} {wsC sfC : List Addr} {St : List Value} {Q : Option Value → Heap → List Addr → Prop} (G : Wl Z a0 own p l e R s m args below meth c code mx B EL h0 n0 ws sf h cells slots pc L (St)) (pc' : Nat) (w1 : (Cond.methodLink own index y).before a0 Z = true) (w2 : (Cond.static y).before a0 Z = true) (wz : (Cond.initialized y.cls).before a0 Z = true) (wc : (Cond.code y bytes maxL ret).before a0 Z = true) (hy : y.cls ≠ "java/lang/invoke/MethodHandle" ∧ y.cls ≠ "java/lang/invoke/VarHandle") (argsL rest : List Value) (hst : St = argsL.reverse ++ rest) (hTK : s.vm.MethodsKnown) (hBl : s.vm.FramesKnown below) (hM : ConK Z a0 l y bytes maxL ret rm [] argsL.toArray EL h n0 wsC sfC Q) (hlen : ∀ sig, parseMethodDescriptor y.desc = some sig → argsL.length = sig.parameters.length) (hd : decode code pc = .ok (.invokestatic index, 3)) (hz : L.size = mx) (hf : rm.frames + 1 ≤ R.frames) (hl : (rest.map fun v => v.category).sum + (maxL + 11) + rm.locals ≤ R.locals) (hc : cells + rm.cells ≤ R.cells) (hs : slots + rm.slots ≤ R.slots) (hws : ∀ x ∈ wsC, NW h0 ws x) (hsf : ∀ x ∈ sfC, x ∈ sf) (hwf : ∀ x ∈ wsC, x ∈ sf) (hp : pc + 3 = pc') :
    ∃ (v : Option Value) (h' : Heap) (so : List Addr), Wl Z a0 own p l e R s m args below meth c code mx B EL h0 n0 ws (so ++ sf) h' (cells + rm.cells) (slots + rm.slots) pc' L (v.toList ++ rest) ∧ Keep h h' wsC ∧ Q v h' so := by
  have nw := fun x (q : NW h0 ws x) => G.nw q
  obtain ⟨⟨hx, hby, hml, hEW⟩, ⟨o1, z2, z3, z1, es⟩, v0, k0, T, locs, X, ⟨hS, hk, hZ, hown⟩, ⟨hC, hF⟩, N, eT, k⟩ := G
  subst hst
  obtain ⟨v, _, ⟨T', L', k', n'⟩, -, X', hS', g', ⟨Lc, ⟨so, N', K', hQ, C', F'⟩, l', y', z'⟩, st⟩ := callSS X hx (y := y) hown (mvT (s := s.setVm v0) hZ w1) (mvT (s := s.setVm v0) hZ w2) (mvT (s := s.setVm v0) hZ wz) (mvT (s := s.setVm v0) hZ wc) hy (backLK (s := s) (W := (rest.map fun v => v.category).sum) hM (Vm.MethodsKnown.alikeC hS.1.alike hTK) (Vm.FramesKnown.alikeC hS.1.alike hBl) hZ wc wz hf hl hEW hC.1 (fun x hx => hF x (hsf x hx))) (g := mkF m pc L (argsL.reverse ++ rest)) rfl (hz.trans hml.symm) (argsL := argsL) (rest := rest) hlen rfl (by show 2 * 0 + _ ≤ _; omega) (hb hby hd) (fun _ _ => ⟨rfl, eT, hc, hs⟩)
  dsimp only [Pt.U, Pt.locs, Pt.cells, Pt.slots] at X' hS' g' l' y' z' st N' K' hQ C' F'
  subst l' y' z'
  obtain ⟨X2, hS2, hZ2, hown2⟩ := rebS (s := s) hS (by rw [← eT] at hk; exact hk) X' hS' g' hZ hown
  exact ⟨v, T'.heap, so, ⟨⟨hx, hby, hml, hEW⟩, ⟨o1.keep K' (fun x q => nw x (hws x q)), z2.trans K' hws, z3, z1, es⟩, T'.vm, _, T', _, X2, ⟨hS2, Nat.le_refl _, hZ2, hown2⟩, ⟨hC.trans C', fun x q => (List.mem_append.mp q).elim (F' x) (fun r => ⟨Nat.lt_of_lt_of_le (hF x r).1 K'.1, C'.safe (hF x r).1 (hF x r).2⟩)⟩, N.app N', rfl, fun t q => k t (st.trans (by subst hp; exact q))⟩, K', hQ⟩
theorem Wl.callIK {index : Nat} {y : MethodName} {bytes : ByteArray} {maxL : Nat} {ret : Option FieldType} {rm : Room} {wsC sfC : List Addr} {St : List Value} {a : Addr} {Q : Option Value → Heap → List Addr → Prop} (G : Wl Z a0 own p l e R s m args below meth c code mx B EL h0 n0 ws sf h cells slots pc L (St)) (pc' : Nat) (hr : ret = none) (hy1 : y.name = "<init>") (w1 : (Cond.methodLink own index y).before a0 Z = true) (w2 : (Cond.instanceMethod y).before a0 Z = true) (wz : (Cond.initialized y.cls).before a0 Z = true) (wc : (Cond.code y bytes maxL ret).before a0 Z = true) (hy : y.cls ≠ "java/lang/invoke/MethodHandle" ∧ y.cls ≠ "java/lang/invoke/VarHandle") (argsL rest : List Value) (hst : St = argsL.reverse ++ .ref a :: rest) (hTK : s.vm.MethodsKnown) (hBl : s.vm.FramesKnown below) (hM : ConK Z a0 l y bytes maxL ret rm [] (.ref a :: argsL).toArray EL h n0 wsC sfC Q) (hlen : ∀ sig, parseMethodDescriptor y.desc = some sig → argsL.length = sig.parameters.length) (hd : decode code pc = .ok (.invokespecial index, 3)) (hz : L.size = mx) (hf : rm.frames + 1 ≤ R.frames) (hl : (rest.map fun v => v.category).sum + (maxL + 11) + rm.locals ≤ R.locals) (hc : cells + rm.cells ≤ R.cells) (hs : slots + rm.slots ≤ R.slots) (hws : ∀ x ∈ wsC, NW h0 ws x) (hsf : ∀ x ∈ sfC, x ∈ sf) (hwf : ∀ x ∈ wsC, x ∈ sf) (hp : pc + 3 = pc') :
    ∃ (v : Option Value) (h' : Heap) (so : List Addr), Wl Z a0 own p l e R s m args below meth c code mx B EL h0 n0 ws (so ++ sf) h' (cells + rm.cells) (slots + rm.slots) pc' L (v.toList ++ rest) ∧ Keep h h' wsC ∧ Q v h' so := by
  have nw := fun x (q : NW h0 ws x) => G.nw q
  obtain ⟨⟨hx, hby, hml, hEW⟩, ⟨o1, z2, z3, z1, es⟩, v0, k0, T, locs, X, ⟨hS, hk, hZ, hown⟩, ⟨hC, hF⟩, N, eT, k⟩ := G
  subst hst
  subst hr
  obtain ⟨v, _, ⟨T', L', k', n'⟩, -, X', hS', g', ⟨Lc, ⟨so, N', K', hQ, C', F'⟩, l', y', z'⟩, st⟩ := X.specialBackS hx (y := y) hy1 hown (mvT (s := s.setVm v0) hZ w1) (mvT (s := s.setVm v0) hZ w2) (mvT (s := s.setVm v0) hZ wc) hy (backLK (s := s) (W := (rest.map fun v => v.category).sum) hM (Vm.MethodsKnown.alikeC hS.1.alike hTK) (Vm.FramesKnown.alikeC hS.1.alike hBl) hZ wc wz hf hl hEW hC.1 (fun x hx => hF x (hsf x hx))) (g := mkF m pc L (argsL.reverse ++ .ref a :: rest)) rfl (hz.trans hml.symm) (Steps.refl _) (a := a) (argsL := argsL) (rest := rest) hlen rfl (by show 2 * 0 + _ ≤ _; omega) (hb hby hd) (fun _ _ => ⟨rfl, eT, hc, hs⟩)
  dsimp only [Pt.U, Pt.locs, Pt.cells, Pt.slots] at X' hS' g' l' y' z' st N' K' hQ C' F'
  subst l' y' z'
  obtain ⟨X2, hS2, hZ2, hown2⟩ := rebS (s := s) hS (by rw [← eT] at hk; exact hk) X' hS' g' hZ hown
  exact ⟨v, T'.heap, so, ⟨⟨hx, hby, hml, hEW⟩, ⟨o1.keep K' (fun x q => nw x (hws x q)), z2.trans K' hws, z3, z1, es⟩, T'.vm, _, T', _, X2, ⟨hS2, Nat.le_refl _, hZ2, hown2⟩, ⟨hC.trans C', fun x q => (List.mem_append.mp q).elim (F' x) (fun r => ⟨Nat.lt_of_lt_of_le (hF x r).1 K'.1, C'.safe (hF x r).1 (hF x r).2⟩)⟩, N.app N', rfl, fun t q => k t (st.trans (by subst hp; exact q))⟩, K', hQ⟩
end OwnX
end Jvm.OwnL
namespace Jvm.Pilot.@@N@@
open Jvm Jvm.ClassFile Sem Op Lib Jvm.Free Jvm.Free.Fl Jvm.Stand Jvm.LawKit Jvm.RoadKit Jvm.OwnL Jvm.OwnX Bundle Jvm.Pilot.@@N@@.Jvm.D
set_option maxRecDepth 65536
set_option maxHeartbeats 40000000
theorem nle {a b : Nat} (h : Nat.ble a b = true) : a ≤ b := Nat.le_of_ble_eq_true h
theorem mm {α : Type} {l : List α} {a : α} (i : Nat) (h : l[i]? = some a) : a ∈ l := List.mem_of_getElem? h
theorem ofn_int {n : Nat} (h : n < 2147483648) : (Int32.ofNat n).toInt = (n : Int) := Int32.toInt_ofNat_small h
theorem ofn_nat {n : Nat} (h : n < 2147483648) : (Int32.ofNat n).toNatClampNeg = n := by simp only [Int32.toNatClampNeg, ofn_int h]; omega
theorem ofn_nn {n : Nat} (h : n < 2147483648) : ¬ Int32.ofNat n < 0 := by
  rw [Int32.lt_iff_toInt_lt, ofn_int h]; show ¬ (n : Int) < 0; omega
theorem ofn_lt {i n : Nat} (hi : i < n) (h : n < 2147483648) : Int32.ofNat i < Int32.ofNat n := by
  rw [Int32.lt_iff_toInt_lt, ofn_int h, ofn_int (by omega)]; omega
theorem ofn_nlt {i n : Nat} (hi : n ≤ i) (h : i < 2147483648) : ¬ Int32.ofNat i < Int32.ofNat n := by
  rw [Int32.lt_iff_toInt_lt, ofn_int h, ofn_int (by omega)]; omega
theorem ofn_ne {i n : Nat} (hi : i ≠ n) (h1 : i < 2147483648) (h2 : n < 2147483648) : ¬ Int32.ofNat i = Int32.ofNat n := fun q => hi (by
  have := congrArg Int32.toInt q; rw [ofn_int h1, ofn_int h2] at this; omega)
theorem ofn_add (a b : Nat) : Int32.ofNat a + Int32.ofNat b = Int32.ofNat (a + b) := (Int32.ofNat_add a b).symm
theorem ofn_sub {a b : Nat} (h : b ≤ a) (ha : a < 2147483648) : Int32.ofNat a - Int32.ofNat b = Int32.ofNat (a - b) := by
  apply Int32.toInt_inj.mp
  have e := c_isub (Int32.ofNat a) (Int32.ofNat b)
  have r := rng32 (Int32.ofNat a - Int32.ofNat b)
  rw [ofn_int ha, ofn_int (by omega)] at e
  rw [ofn_int (by omega)]; omega
theorem ofn_le0 {a b : Nat} (h : a ≤ b) (hb : b < 2147483648) : ¬ 0 < Int32.ofNat a - Int32.ofNat b := by
  have e := c_isub (Int32.ofNat a) (Int32.ofNat b)
  have r := rng32 (Int32.ofNat a - Int32.ofNat b)
  rw [ofn_int (by omega), ofn_int hb] at e
  rw [Int32.lt_iff_toInt_lt]; show ¬ (0 : Int) < _; omega
theorem shr0 (x : Int32) : x >>> ((0 : Int32) &&& 31) = x := by
  apply Int32.toInt_inj.mp; rw [c_ishr x 0 0 rfl]; simp
theorem shl0 (x : Int32) : x <<< ((0 : Int32) &&& 31) = x := by
  have e : (0 : Int32) &&& 31 = 0 := by decide
  have f := c_ishl x 0 0 rfl
  have r := rng32 (x <<< ((0 : Int32) &&& 31)); have r2 := rng32 x
  rw [show ((2 ^ 0 : Nat) : Int) = 1 from rfl, Int.mul_one] at f
  apply Int32.toInt_inj.mp; omega
theorem byt2 (x : Int32) : x.toInt8.toInt32.toInt8.toInt32 = x.toInt8.toInt32 := by simp
theorem sub0 (x : Int32) : x - 0 = x := by simp
theorem ofn_succ (i : Nat) : Int32.ofNat i + Int32.ofInt 1 = Int32.ofNat (i + 1) := (Int32.ofNat_add i 1).symm
theorem cpy_res (bs cs : List Value) (d : Value) : ((bs ++ List.replicate cs.length d).take bs.length ++ ((List.range cs.length).map fun i => cs.getD (0 + i) d) ++ (bs ++ List.replicate cs.length d).drop (bs.length + cs.length)) = bs ++ cs := by
  have e1 : (bs ++ List.replicate cs.length d).take bs.length = bs := by simp
  have e2 : (bs ++ List.replicate cs.length d).drop (bs.length + cs.length) = [] := List.drop_eq_nil_of_le (by simp)
  have e3 : ((List.range cs.length).map fun i => cs.getD (0 + i) d) = cs := by
    apply List.ext_getElem?
    intro i
    by_cases h : i < cs.length
    · simp [h]
    · simp [h, List.getElem?_eq_none (Nat.le_of_not_lt h)]
  rw [e1, e2, e3]; simp
def bytV (c : Int32) : Value := .int c.toInt8.toInt32
theorem tk_succ {α : Type} (cs : List Int32) (f : Int32 → α) (i : Nat) (h : i < cs.length) : (cs.take (i + 1)).map f = (cs.take i).map f ++ [f (cs.getD i 0)] := by
  rw [List.take_add_one, List.map_append]; simp [h]
theorem set_app (l : List Value) (d x : Value) (i : Nat) (h : l.length = i) : (l ++ [d]).set i x = l ++ [x] := by subst h; simp
theorem getD_mem (cs : List Int32) (i : Nat) (h : i < cs.length) : cs.getD i 0 ∈ cs := by simp [h]
theorem getD_map (cs : List Int32) (i : Nat) (h : i < cs.length) : (cs.map Value.int).getD i (.int 0) = .int (cs.getD i 0) := by simp [h]
theorem getD_mapB (cs : List Int32) (i : Nat) (h : i < cs.length) : (cs.map bytV).getD i (.int 0) = bytV (cs.getD i 0) := by simp [h]
theorem cod0 (x : Int32) : XT.ushr (x - x) 31 = 0 := by
  have e : x - x = 0 := by simp
  rw [e]; decide
/-- a Latin-1 String: the object a, its array b, its bytes -/
def Str (Z : State) (h : Heap) (a b : Addr) (bs : List Value) : Prop := Exa Z h a "java/lang/String" ∧ Fld Z h a "java/lang/String" "coder" "B" (.int 0) ∧ Fld Z h a "java/lang/String" "value" "[B" (.ref b) ∧ ∃ k, Arv Z h b k .byte (Int32.ofNat bs.length) bs (.int 0)
theorem Str.ext {Z : State} {h h' : Heap} {a b : Addr} {bs : List Value} (F : Str Z h a b bs) (E : Ext h h') : Str Z h' a b bs := by obtain ⟨h1, h2, h3, k, h4⟩ := F; exact ⟨h1.ext E, h2.ext E, h3.ext E, k, h4.ext E⟩
theorem Str.keep {Z : State} {h h' : Heap} {a b : Addr} {bs : List Value} {ws : List Addr} (F : Str Z h a b bs) (K : Keep h h' ws) (q : a ∉ ws) (r : b ∉ ws) : Str Z h' a b bs := by obtain ⟨h1, h2, h3, k, h4⟩ := F; exact ⟨h1.keep K, h2.keep K q, h3.keep K q, k, h4.keep K r⟩
/-- a StringBuilder: the object a, its array b of cap bytes, its bytes so far -/
def Sbd (Z : State) (h : Heap) (a b : Addr) (cap : Nat) (bs : List Value) : Prop := Exa Z h a "java/lang/StringBuilder" ∧ Fld Z h a "java/lang/AbstractStringBuilder" "value" "[B" (.ref b) ∧ Fld Z h a "java/lang/AbstractStringBuilder" "coder" "B" (.int 0) ∧ Fld Z h a "java/lang/AbstractStringBuilder" "count" "I" (.int (Int32.ofNat bs.length)) ∧ ∃ k, Arv Z h b k .byte (Int32.ofNat cap) bs (.int 0)
theorem Sbd.ext {Z : State} {h h' : Heap} {a b : Addr} {cap : Nat} {bs : List Value} (F : Sbd Z h a b cap bs) (E : Ext h h') : Sbd Z h' a b cap bs := by obtain ⟨h1, h2, h3, h4, k, h5⟩ := F; exact ⟨h1.ext E, h2.ext E, h3.ext E, h4.ext E, k, h5.ext E⟩
theorem Sbd.keep {Z : State} {h h' : Heap} {a b : Addr} {cap : Nat} {bs : List Value} {ws : List Addr} (F : Sbd Z h a b cap bs) (K : Keep h h' ws) (q : a ∉ ws) (r : b ∉ ws) : Sbd Z h' a b cap bs := by obtain ⟨h1, h2, h3, h4, k, h5⟩ := F; exact ⟨h1.keep K, h2.keep K q, h3.keep K q, h4.keep K q, k, h5.keep K r⟩
theorem Str.lt {Z : State} {h : Heap} {a b : Addr} {bs : List Value} (F : Str Z h a b bs) : a < h.size := F.1.lt
theorem Str.ltb {Z : State} {h : Heap} {a b : Addr} {bs : List Value} (F : Str Z h a b bs) : b < h.size := by obtain ⟨-, -, -, k, h4⟩ := F; exact h4.lt
theorem Sbd.lt {Z : State} {h : Heap} {a b : Addr} {cap : Nat} {bs : List Value} (F : Sbd Z h a b cap bs) : a < h.size := F.1.lt
theorem Sbd.ltb {Z : State} {h : Heap} {a b : Addr} {cap : Nat} {bs : List Value} (F : Sbd Z h a b cap bs) : b < h.size := by obtain ⟨-, -, -, -, k, h4⟩ := F; exact h4.lt
def dOnes : List Value := (List.range 100).map fun j => .int (Int32.ofNat (48 + j % 10))
def dTens : List Value := (List.range 100).map fun j => .int (Int32.ofNat (48 + j / 10))
theorem dOnes_at {r : Nat} (h : r < 100) : dOnes.getD r (.int 0) = .int (Int32.ofNat (48 + r % 10)) := by simp [dOnes, h]
theorem dTens_at {r : Nat} (h : r < 100) : dTens.getD r (.int 0) = .int (Int32.ofNat (48 + r / 10)) := by simp [dTens, h]
def dg (N k : Nat) : Value := .int (Int32.ofNat (48 + N / 10 ^ k % 10))
theorem dig_b {e : Nat} (h : e < 10) : (Int32.ofNat (48 + e)).toInt8.toInt32 = Int32.ofNat (48 + e) := by
  have : e = 0 ∨ e = 1 ∨ e = 2 ∨ e = 3 ∨ e = 4 ∨ e = 5 ∨ e = 6 ∨ e = 7 ∨ e = 8 ∨ e = 9 := by omega
  rcases this with rfl | rfl | rfl | rfl | rfl | rfl | rfl | rfl | rfl | rfl <;> decide
theorem ofn_pred (k : Nat) : Int32.ofNat (k + 1) + Int32.ofInt (-1) = Int32.ofNat k := by
  rw [Int32.ofNat_add]; show Int32.ofNat k + 1 + -1 = _; rw [Int32.add_assoc]; simp
theorem set_app2 (bs Ld : List Value) (j n : Nat) (x : Value) (h : n = bs.length + j) : (bs ++ Ld).set n x = bs ++ Ld.set j x := by subst h; simp [List.set_append]
theorem ng_int {M : Nat} (h : M < 2147483648) : (-(Int32.ofNat M)).toInt = -(M : Int) := by
  have e := c_ineg (Int32.ofNat M); have r := rng32 (-(Int32.ofNat M)); rw [ofn_int h] at e; omega
theorem ng_div {M : Nat} (h : M < 2147483648) : -(Int32.ofNat M) / 100 = -(Int32.ofNat (M / 100)) := by
  apply Int32.toInt_inj.mp
  have e := c_idiv (-(Int32.ofNat M)) 100 100 rfl (by decide)
  rw [ng_int h] at e
  rw [ng_int (by omega)]
  by_cases h0 : M = 0
  · subst h0; have := e.1 (by decide); rw [this]; decide
  · rw [e.2 (by omega)]; omega
theorem ng_rem {M : Nat} (h : M < 2147483648) : -(Int32.ofNat (M / 100)) * 100 - -(Int32.ofNat M) = Int32.ofNat (M % 100) := by
  apply Int32.toInt_inj.mp
  have e1 := c_imul (-(Int32.ofNat (M / 100))) 100
  have e2 := c_isub (-(Int32.ofNat (M / 100)) * 100) (-(Int32.ofNat M))
  have r1 := rng32 (-(Int32.ofNat (M / 100)) * 100); have r2 := rng32 (-(Int32.ofNat (M / 100)) * 100 - -(Int32.ofNat M))
  rw [ng_int (by omega), show (100 : Int32).toInt = 100 from rfl] at e1
  rw [ng_int h] at e2
  rw [ofn_int (by omega)]; omega
theorem ng_lt {M : Nat} {k : Int32} {K : Int} (h : M < 2147483648) (hk : k.toInt = K) (q : -(M : Int) < K) : -(Int32.ofNat M) < k := by rw [Int32.lt_iff_toInt_lt, ng_int h, hk]; exact q
theorem ng_nlt {M : Nat} {k : Int32} {K : Int} (h : M < 2147483648) (hk : k.toInt = K) (q : K ≤ -(M : Int)) : ¬ -(Int32.ofNat M) < k := by rw [Int32.lt_iff_toInt_lt, ng_int h, hk]; omega
theorem ng_gt {M : Nat} {k : Int32} {K : Int} (h : M < 2147483648) (hk : k.toInt = K) (q : K < -(M : Int)) : k < -(Int32.ofNat M) := by rw [Int32.lt_iff_toInt_lt, ng_int h, hk]; exact q
theorem ng_ngt {M : Nat} {k : Int32} {K : Int} (h : M < 2147483648) (hk : k.toInt = K) (q : -(M : Int) ≤ K) : ¬ k < -(Int32.ofNat M) := by rw [Int32.lt_iff_toInt_lt, ng_int h, hk]; omega
def nd (N : Nat) : Nat := if N < 10 then 1 else if N < 100 then 2 else if N < 1000 then 3 else if N < 10000 then 4 else if N < 100000 then 5 else if N < 1000000 then 6 else if N < 10000000 then 7 else if N < 100000000 then 8 else if N < 1000000000 then 9 else 10
def digs (N : Nat) : List Value := (List.range (nd N)).map fun j => dg N (nd N - 1 - j)
theorem nd_cases {N : Nat} (h : N < 2147483648) : (0 ≤ N ∧ N < 10) ∨ (10 ≤ N ∧ N < 100) ∨ (100 ≤ N ∧ N < 1000) ∨ (1000 ≤ N ∧ N < 10000) ∨ (10000 ≤ N ∧ N < 100000) ∨ (100000 ≤ N ∧ N < 1000000) ∨ (1000000 ≤ N ∧ N < 10000000) ∨ (10000000 ≤ N ∧ N < 100000000) ∨ (100000000 ≤ N ∧ N < 1000000000) ∨ (1000000000 ≤ N ∧ N < 2147483648) := by omega
theorem digs_len (N : Nat) : (digs N).length = nd N := by simp [digs]
theorem digs_at {N k : Nat} (h : k < nd N) : (digs N).getD k (.int 0) = dg N (nd N - 1 - k) := by simp [digs, h]
theorem nd_1 {N : Nat} (hlo : 0 ≤ N) (hhi : N < 10) : nd N = 1 := by unfold nd;  rw [if_pos (by omega)]
theorem digs_1 {N : Nat} (hlo : 0 ≤ N) (hhi : N < 10) : digs N = [dg N 0] := by unfold digs; rw [nd_1 hlo hhi]; rfl
theorem nd_2 {N : Nat} (hlo : 10 ≤ N) (hhi : N < 100) : nd N = 2 := by unfold nd; rw [if_neg (by omega)]; rw [if_pos (by omega)]
theorem digs_2 {N : Nat} (hlo : 10 ≤ N) (hhi : N < 100) : digs N = [dg N 1, dg N 0] := by unfold digs; rw [nd_2 hlo hhi]; rfl
theorem nd_3 {N : Nat} (hlo : 100 ≤ N) (hhi : N < 1000) : nd N = 3 := by unfold nd; rw [if_neg (by omega)]; rw [if_neg (by omega)]; rw [if_pos (by omega)]
theorem digs_3 {N : Nat} (hlo : 100 ≤ N) (hhi : N < 1000) : digs N = [dg N 2, dg N 1, dg N 0] := by unfold digs; rw [nd_3 hlo hhi]; rfl
theorem nd_4 {N : Nat} (hlo : 1000 ≤ N) (hhi : N < 10000) : nd N = 4 := by unfold nd; rw [if_neg (by omega)]; rw [if_neg (by omega)]; rw [if_neg (by omega)]; rw [if_pos (by omega)]
theorem digs_4 {N : Nat} (hlo : 1000 ≤ N) (hhi : N < 10000) : digs N = [dg N 3, dg N 2, dg N 1, dg N 0] := by unfold digs; rw [nd_4 hlo hhi]; rfl
theorem nd_5 {N : Nat} (hlo : 10000 ≤ N) (hhi : N < 100000) : nd N = 5 := by unfold nd; rw [if_neg (by omega)]; rw [if_neg (by omega)]; rw [if_neg (by omega)]; rw [if_neg (by omega)]; rw [if_pos (by omega)]
theorem digs_5 {N : Nat} (hlo : 10000 ≤ N) (hhi : N < 100000) : digs N = [dg N 4, dg N 3, dg N 2, dg N 1, dg N 0] := by unfold digs; rw [nd_5 hlo hhi]; rfl
theorem nd_6 {N : Nat} (hlo : 100000 ≤ N) (hhi : N < 1000000) : nd N = 6 := by unfold nd; rw [if_neg (by omega)]; rw [if_neg (by omega)]; rw [if_neg (by omega)]; rw [if_neg (by omega)]; rw [if_neg (by omega)]; rw [if_pos (by omega)]
theorem digs_6 {N : Nat} (hlo : 100000 ≤ N) (hhi : N < 1000000) : digs N = [dg N 5, dg N 4, dg N 3, dg N 2, dg N 1, dg N 0] := by unfold digs; rw [nd_6 hlo hhi]; rfl
theorem nd_7 {N : Nat} (hlo : 1000000 ≤ N) (hhi : N < 10000000) : nd N = 7 := by unfold nd; rw [if_neg (by omega)]; rw [if_neg (by omega)]; rw [if_neg (by omega)]; rw [if_neg (by omega)]; rw [if_neg (by omega)]; rw [if_neg (by omega)]; rw [if_pos (by omega)]
theorem digs_7 {N : Nat} (hlo : 1000000 ≤ N) (hhi : N < 10000000) : digs N = [dg N 6, dg N 5, dg N 4, dg N 3, dg N 2, dg N 1, dg N 0] := by unfold digs; rw [nd_7 hlo hhi]; rfl
theorem nd_8 {N : Nat} (hlo : 10000000 ≤ N) (hhi : N < 100000000) : nd N = 8 := by unfold nd; rw [if_neg (by omega)]; rw [if_neg (by omega)]; rw [if_neg (by omega)]; rw [if_neg (by omega)]; rw [if_neg (by omega)]; rw [if_neg (by omega)]; rw [if_neg (by omega)]; rw [if_pos (by omega)]
theorem digs_8 {N : Nat} (hlo : 10000000 ≤ N) (hhi : N < 100000000) : digs N = [dg N 7, dg N 6, dg N 5, dg N 4, dg N 3, dg N 2, dg N 1, dg N 0] := by unfold digs; rw [nd_8 hlo hhi]; rfl
theorem nd_9 {N : Nat} (hlo : 100000000 ≤ N) (hhi : N < 1000000000) : nd N = 9 := by unfold nd; rw [if_neg (by omega)]; rw [if_neg (by omega)]; rw [if_neg (by omega)]; rw [if_neg (by omega)]; rw [if_neg (by omega)]; rw [if_neg (by omega)]; rw [if_neg (by omega)]; rw [if_neg (by omega)]; rw [if_pos (by omega)]
theorem digs_9 {N : Nat} (hlo : 100000000 ≤ N) (hhi : N < 1000000000) : digs N = [dg N 8, dg N 7, dg N 6, dg N 5, dg N 4, dg N 3, dg N 2, dg N 1, dg N 0] := by unfold digs; rw [nd_9 hlo hhi]; rfl
theorem nd_10 {N : Nat} (hlo : 1000000000 ≤ N) (hhi : N < 2147483648) : nd N = 10 := by unfold nd; rw [if_neg (by omega)]; rw [if_neg (by omega)]; rw [if_neg (by omega)]; rw [if_neg (by omega)]; rw [if_neg (by omega)]; rw [if_neg (by omega)]; rw [if_neg (by omega)]; rw [if_neg (by omega)]; rw [if_neg (by omega)];
theorem digs_10 {N : Nat} (hlo : 1000000000 ≤ N) (hhi : N < 2147483648) : digs N = [dg N 9, dg N 8, dg N 7, dg N 6, dg N 5, dg N 4, dg N 3, dg N 2, dg N 1, dg N 0] := by unfold digs; rw [nd_10 hlo hhi]; rfl
theorem nd_le {N : Nat} (h : N < 2147483648) : 1 ≤ nd N ∧ nd N ≤ 10 := by
  rcases nd_cases h with ⟨q1, q2⟩ | ⟨q1, q2⟩ | ⟨q1, q2⟩ | ⟨q1, q2⟩ | ⟨q1, q2⟩ | ⟨q1, q2⟩ | ⟨q1, q2⟩ | ⟨q1, q2⟩ | ⟨q1, q2⟩ | ⟨q1, q2⟩
  · rw [nd_1 q1 q2]; exact ⟨by decide, by decide⟩
  · rw [nd_2 q1 q2]; exact ⟨by decide, by decide⟩
  · rw [nd_3 q1 q2]; exact ⟨by decide, by decide⟩
  · rw [nd_4 q1 q2]; exact ⟨by decide, by decide⟩
  · rw [nd_5 q1 q2]; exact ⟨by decide, by decide⟩
  · rw [nd_6 q1 q2]; exact ⟨by decide, by decide⟩
  · rw [nd_7 q1 q2]; exact ⟨by decide, by decide⟩
  · rw [nd_8 q1 q2]; exact ⟨by decide, by decide⟩
  · rw [nd_9 q1 q2]; exact ⟨by decide, by decide⟩
  · rw [nd_10 q1 q2]; exact ⟨by decide, by decide⟩
theorem m8 (x : Int32) : ∃ c, c < 256 ∧ x &&& 255 = Int32.ofNat c := by
  have e := c_mask x 255 8 (by decide) rfl
  rw [show ((2 ^ 8 : Nat) : Int) = 256 from rfl] at e
  refine ⟨(x.toInt % 256).toNat, by omega, ?_⟩
  apply Int32.toInt_inj.mp; rw [e, ofn_int (by omega)]; omega
theorem m2 (x : Int32) : ∃ c, c < 4 ∧ x &&& 3 = Int32.ofNat c := by
  have e := c_mask x 3 2 (by decide) rfl
  rw [show ((2 ^ 2 : Nat) : Int) = 4 from rfl] at e
  refine ⟨(x.toInt % 4).toNat, by omega, ?_⟩
  apply Int32.toInt_inj.mp; rw [e, ofn_int (by omega)]; omega
theorem m31 (x : Int32) : ∃ c, c < 2147483648 ∧ x &&& 2147483647 = Int32.ofNat c := by
  have e := c_mask x 2147483647 31 (by decide) rfl
  rw [show ((2 ^ 31 : Nat) : Int) = 2147483648 from rfl] at e
  refine ⟨(x.toInt % 2147483648).toNat, by omega, ?_⟩
  apply Int32.toInt_inj.mp; rw [e, ofn_int (by omega)]; omega
theorem i2c_n0 : ∀ t : Fin 256, (Int32.ofNat t.1).toUInt32.toUInt16.toUInt32.toInt32 = Int32.ofNat t.1 ∧ (Int32.ofNat t.1).toInt8.toInt32 &&& 255 = Int32.ofNat t.1 ∧ ¬ (255 : Int32) < Int32.ofNat t.1 ∧ Int32.ofNat t.1 &&& 255 = Int32.ofNat t.1 ∧ fits .char (.int (Int32.ofNat t.1)) = true := by decide +kernel
theorem i2c_n {c : Nat} (h : c < 256) : (Int32.ofNat c).toUInt32.toUInt16.toUInt32.toInt32 = Int32.ofNat c := (i2c_n0 ⟨c, h⟩).1
theorem bm {c : Nat} (h : c < 256) : (Int32.ofNat c).toInt8.toInt32 &&& 255 = Int32.ofNat c := (i2c_n0 ⟨c, h⟩).2.1
theorem c255 {c : Nat} (h : c < 256) : ¬ (255 : Int32) < Int32.ofNat c := (i2c_n0 ⟨c, h⟩).2.2.1
theorem m255 {c : Nat} (h : c < 256) : Int32.ofNat c &&& 255 = Int32.ofNat c := (i2c_n0 ⟨c, h⟩).2.2.2.1
theorem fit255 {c : Nat} (h : c < 256) : fits .char (.int (Int32.ofNat c)) = true := (i2c_n0 ⟨c, h⟩).2.2.2.2
theorem ofn_div {N P : Nat} (hN : N < 2147483648) (h0 : 0 < P) (hP : P < 2147483648) : Int32.ofNat N / Int32.ofNat P = Int32.ofNat (N / P) := by
  apply Int32.toInt_inj.mp
  have e := c_idiv (Int32.ofNat N) (Int32.ofNat P) P (ofn_int hP) (fun q => by have := congrArg Int32.toInt q; rw [ofn_int hP, show (-1 : Int32).toInt = -1 from rfl] at this; omega)
  rw [ofn_int hN] at e
  have hd : N / P ≤ N := Nat.div_le_self _ _
  rw [ofn_int (by omega), e.1 (by omega)]; rfl
theorem ofn_rem10 {M : Nat} (hM : M < 2147483648) : Int32.ofNat M - Int32.ofNat M / 10 * 10 = Int32.ofNat (M % 10) := by
  have e := ofn_div hM (P := 10) (by decide) (by decide)
  rw [show Int32.ofNat 10 = (10 : Int32) from rfl] at e
  rw [e, show (10 : Int32) = Int32.ofNat 10 from rfl, ← Int32.ofNat_mul, ofn_sub (by omega) hM]
  congr 1; omega
theorem wS_of {Z : State} {a0 : Array Value} (hw : ∀ d ∈ tables_1, d.before a0 Z = true) : ∀ a ∈ Bundle.stringAtoms, a.before a0 Z = true := by
  intro a ha
  simp only [Bundle.stringAtoms, Bundle.sN, List.mem_cons, List.not_mem_nil, or_false] at ha
  rcases ha with rfl | rfl | rfl | rfl | rfl | rfl | rfl
  · exact (hw _ (mm 6 rfl))
  · exact (hw _ (mm 5 rfl))
  · exact (hw _ (mm 19 rfl))
  · exact (hw _ (mm 20 rfl))
  · exact (hw _ (mm 21 rfl))
  · exact (hw _ (mm 22 rfl))
  · exact (hw _ (mm 23 rfl))
def mkL (n x y : Nat) : List Nat := if n = 0 then [] else if n = 1 then [x] else [x, y]
theorem mkL_len {n x y : Nat} (h : n ≤ 2) : (mkL n x y).length = n := by rcases (show n = 0 ∨ n = 1 ∨ n = 2 by omega) with rfl | rfl | rfl <;> rfl
theorem mkL_b {n x y : Nat} (hx : x < 256) (hy : y < 256) : ∀ c ∈ mkL n x y, c < 256 := by
  unfold mkL; intro c hc; split at hc
  · cases hc
  · split at hc
    · cases List.mem_singleton.mp hc; exact hx
    · rcases List.mem_cons.mp hc with rfl | hc
      · exact hx
      · cases List.mem_singleton.mp hc; exact hy
def bl (cs : List Nat) : List Value := cs.map fun c => bytV (Int32.ofNat c)
theorem bl_len (cs : List Nat) : (bl cs).length = cs.length := by simp [bl]
theorem bl_app (xs ys : List Nat) : bl xs ++ bl ys = bl (xs ++ ys) := by simp [bl]
theorem bl_at {cs : List Nat} {i : Nat} (h : i < cs.length) : (bl cs).getD i (.int 0) = .int (Int32.ofNat (cs.getD i 0)).toInt8.toInt32 := by simp [bl, bytV, h]
theorem m3r (x : Int32) : ∃ c, c ≤ 2 ∧ ((x &&& 3) - (x &&& 3) / 3 * 3) = Int32.ofNat c := by
  obtain ⟨c, hc, e⟩ := m2 x
  rw [e]
  rcases (show c = 0 ∨ c = 1 ∨ c = 2 ∨ c = 3 by omega) with rfl | rfl | rfl | rfl
  · exact ⟨0, by decide, by decide⟩
  · exact ⟨1, by decide, by decide⟩
  · exact ⟨2, by decide, by decide⟩
  · exact ⟨0, by decide, by decide⟩
theorem txt {nl sl n0 n1 s0 s1 : Nat} (hn : nl ≤ 2) (hs : sl ≤ 2) : (0 < nl → (mkL nl n0 n1 ++ [58, 32] ++ mkL sl s0 s1).getD 0 0 = n0) ∧ (1 < nl → (mkL nl n0 n1 ++ [58, 32] ++ mkL sl s0 s1).getD 1 0 = n1) ∧ (mkL nl n0 n1 ++ [58, 32] ++ mkL sl s0 s1).getD nl 0 = 58 ∧ (mkL nl n0 n1 ++ [58, 32] ++ mkL sl s0 s1).getD (nl + 1) 0 = 32 ∧ (0 < sl → (mkL nl n0 n1 ++ [58, 32] ++ mkL sl s0 s1).getD (nl + 2) 0 = s0) ∧ (1 < sl → (mkL nl n0 n1 ++ [58, 32] ++ mkL sl s0 s1).getD (nl + 3) 0 = s1) := by
  rcases (show nl = 0 ∨ nl = 1 ∨ nl = 2 by omega) with rfl | rfl | rfl <;> rcases (show sl = 0 ∨ sl = 1 ∨ sl = 2 by omega) with rfl | rfl | rfl <;> refine ⟨fun q => ?_, fun q => ?_, rfl, rfl, fun q => ?_, fun q => ?_⟩ <;> first | rfl | (exfalso; omega)
theorem tw_of {Z : State} {a0 : Array Value} (hw : ∀ d ∈ tables_1, d.before a0 Z = true) : ∀ d ∈ Jvm.OwnX.tw "com/example/fianza/fianza/InputException", d.before a0 Z = true := by
  unfold Jvm.OwnX.tw
  exact Jvm.OwnX.allCS (hw _ (mm 162 rfl)) (Jvm.OwnX.allCS (hw _ (mm 180 rfl)) (Jvm.OwnX.allCS (hw _ (mm 175 rfl)) (Jvm.OwnX.allCS (hw _ (mm 181 rfl)) (Jvm.OwnX.allCS (hw _ (mm 182 rfl)) (Jvm.OwnX.allCS (hw _ (mm 183 rfl)) (Jvm.OwnX.allCS (hw _ (mm 16 rfl)) (Jvm.OwnX.allCS (hw _ (mm 17 rfl)) (Jvm.OwnX.allCS (hw _ (mm 164 rfl)) (Jvm.OwnX.allCS (hw _ (mm 173 rfl)) (Jvm.OwnX.allCS (hw _ (mm 186 rfl)) (Jvm.OwnX.allCS (hw _ (mm 165 rfl)) (Jvm.OwnX.allCS (hw _ (mm 166 rfl)) (Jvm.OwnX.allCS (hw _ (mm 168 rfl)) (Jvm.OwnX.allCS (hw _ (mm 169 rfl)) (Jvm.OwnX.allCS (hw _ (mm 171 rfl)) (Jvm.OwnX.allCS (hw _ (mm 172 rfl)) (Jvm.OwnX.allCS (hw _ (mm 167 rfl)) (Jvm.OwnX.allCS (hw _ (mm 193 rfl)) (Jvm.OwnX.allCS (hw _ (mm 170 rfl)) (Jvm.OwnX.allCS (hw _ (mm 194 rfl)) (Jvm.OwnX.allCS (hw _ (mm 196 rfl)) (Jvm.OwnX.allCS (hw _ (mm 174 rfl)) (Jvm.OwnX.allCS (hw _ (mm 195 rfl)) (Jvm.OwnX.allCS (hw _ (mm 176 rfl)) (Jvm.OwnX.allCS (hw _ (mm 191 rfl)) (Jvm.OwnX.allCS (hw _ (mm 197 rfl)) (Jvm.OwnX.allCS (hw _ (mm 177 rfl)) (Jvm.OwnX.allCS (hw _ (mm 178 rfl)) (Jvm.OwnX.allCS (hw _ (mm 179 rfl)) (Jvm.OwnX.allCS (hw _ (mm 198 rfl)) (Jvm.OwnX.allC0)))))))))))))))))))))))))))))))
theorem arr_nn {args : Array Value} {s : State} {t : Term} {ty : FieldType} {v : Value} (w : (Jvm.Cond.arrayOf t ty).before args s = true) (ev : t.eval args s none [] s = some v) (hr : v.isRef = true) : ∃ a, v = .ref a := by
  rcases ref_cases hr with rfl | ⟨a, rfl⟩
  · simp [Cond.before, Cond.holds, Cond.value, ev] at w
  · exact ⟨a, rfl⟩
theorem known_t {s : State} (h : tablesKnown s = true) : s.vm.MethodsKnown := fun m x hm => by
  simp only [Vm.method?] at hm
  cases hk : s.vm.classes[m.cls]? with
  | none => simp [hk] at hm
  | some k =>
    simp only [hk, Option.bind_some] at hm
    refine ⟨k, hk, fun cf hcf => ?_⟩
    obtain ⟨hlt, e⟩ := Array.getElem?_eq_some_iff.mp hk
    have q := (Array.all_eq_true_iff_forall_mem.mp h) _ (Array.getElem_mem hlt)
    rw [e, hcf] at q
    have q' : k.methods.size = cf.methods.size := by simpa using q
    have := (Array.getElem?_eq_some_iff.mp hm).1
    rw [q'] at this
    simp [this]
theorem known_f {s : State} {m : MethodId} {as : Array Value} {below : List Frame} (hf : s.frames = .invoking m as :: below) (h : framesKnown s = true) : s.vm.FramesKnown below := fun y hy m' hm' => by
  have q := (List.all_eq_true.mp h) y (by rw [hf]; exact List.mem_cons_of_mem _ hy)
  have one : ∀ m : MethodId, methodKnown s.vm m = true → s.vm.knowsMethod m := fun m r => by
    unfold methodKnown at r
    cases hk : s.vm.classes[m.cls]? with
    | none => rw [hk] at r; cases r
    | some k => rw [hk] at r; dsimp only at r; exact ⟨k, hk, fun cf hcf => by rw [hcf] at r; exact r⟩
  cases y with
  | java g => cases hm'; exact one _ q
  | native g => cases hm'; exact one _ q
  | _ => cases hm'
theorem pn_java_lang_String : plainName "java/lang/String" = true := by first | (simp [plainName, overriddenIn]; done) | decide +kernel
theorem pd___B : parseMethodDescriptor "()B" = some ⟨[], some .byte⟩ := by decide +kernel
theorem pn_java_lang_AbstractStringBuilder : plainName "java/lang/AbstractStringBuilder" = true := by first | (simp [plainName, overriddenIn]; done) | decide +kernel
theorem pd__Ljava_lang_String__V : parseMethodDescriptor "(Ljava/lang/String;)V" = some ⟨[(.object "java/lang/String")], none⟩ := by decide +kernel
theorem pd___BIB_V : parseMethodDescriptor "([BIB)V" = some ⟨[(.array .byte), .int, .byte], none⟩ := by decide +kernel
theorem pd___I : parseMethodDescriptor "()I" = some ⟨[], some .int⟩ := by decide +kernel
theorem pd__I_V : parseMethodDescriptor "(I)V" = some ⟨[.int], none⟩ := by decide +kernel
theorem pd__ILjava_lang_String__V : parseMethodDescriptor "(ILjava/lang/String;)V" = some ⟨[.int, (.object "java/lang/String")], none⟩ := by decide +kernel
theorem pd__Ljava_lang_String__Ljava_lang_AbstractStringBuilder_ : parseMethodDescriptor "(Ljava/lang/String;)Ljava/lang/AbstractStringBuilder;" = some ⟨[(.object "java/lang/String")], some (.object "java/lang/AbstractStringBuilder")⟩ := by decide +kernel
theorem pn_java_lang_StringBuilder : plainName "java/lang/StringBuilder" = true := by first | (simp [plainName, overriddenIn]; done) | decide +kernel
theorem pn_java_util_Arrays : plainName "java/util/Arrays" = true := by first | (simp [plainName, overriddenIn]; done) | decide +kernel
theorem pd__II_V : parseMethodDescriptor "(II)V" = some ⟨[.int, .int], none⟩ := by decide +kernel
theorem pd__II_I : parseMethodDescriptor "(II)I" = some ⟨[.int, .int], some .int⟩ := by decide +kernel
theorem pd___BII__B : parseMethodDescriptor "([BII)[B" = some ⟨[(.array .byte), .int, .int], some (.array .byte)⟩ := by decide +kernel
theorem pd____B : parseMethodDescriptor "()[B" = some ⟨[], some (.array .byte)⟩ := by decide +kernel
theorem pd___Z : parseMethodDescriptor "()Z" = some ⟨[], some .boolean⟩ := by decide +kernel
theorem pd__Ljava_lang_AbstractStringBuilder_Ljava_lang_Void__V : parseMethodDescriptor "(Ljava/lang/AbstractStringBuilder;Ljava/lang/Void;)V" = some ⟨[(.object "java/lang/AbstractStringBuilder"), (.object "java/lang/Void")], none⟩ := by decide +kernel
theorem pd__Ljava_lang_StringBuilder__V : parseMethodDescriptor "(Ljava/lang/StringBuilder;)V" = some ⟨[(.object "java/lang/StringBuilder")], none⟩ := by decide +kernel
theorem pn_jdk_internal_util_Preconditions : plainName "jdk/internal/util/Preconditions" = true := by first | (simp [plainName, overriddenIn]; done) | decide +kernel
theorem pd__IILjava_util_function_BiFunction__I : parseMethodDescriptor "(IILjava/util/function/BiFunction;)I" = some ⟨[.int, .int, (.object "java/util/function/BiFunction")], some .int⟩ := by decide +kernel
theorem pn_java_lang_StringLatin1 : plainName "java/lang/StringLatin1" = true := by first | (simp [plainName, overriddenIn]; done) | decide +kernel
theorem pd___BI_C : parseMethodDescriptor "([BI)C" = some ⟨[(.array .byte), .int], some .char⟩ := by decide +kernel
theorem pn_java_lang_StringUTF16 : plainName "java/lang/StringUTF16" = true := by first | (simp [plainName, overriddenIn]; done) | decide +kernel
theorem pd___CI_BII_I : parseMethodDescriptor "([CI[BII)I" = some ⟨[(.array .char), .int, (.array .byte), .int, .int], some .int⟩ := by decide +kernel
theorem pd___CII__B : parseMethodDescriptor "([CII)[B" = some ⟨[(.array .char), .int, .int], some (.array .byte)⟩ := by decide +kernel
theorem pd___BI_B : parseMethodDescriptor "([BI)B" = some ⟨[(.array .byte), .int], some .byte⟩ := by decide +kernel
theorem pd___CIILjava_lang_Void__V : parseMethodDescriptor "([CIILjava/lang/Void;)V" = some ⟨[(.array .char), .int, .int, (.object "java/lang/Void")], none⟩ := by decide +kernel
theorem pd___C_V : parseMethodDescriptor "([C)V" = some ⟨[(.array .char)], none⟩ := by decide +kernel
theorem pn_com_example_fianza_fianza_InputExceptionInPinLaw : plainName "com/example/fianza/fianza/InputExceptionInPinLaw" = true := by first | (simp [plainName, overriddenIn]; done) | decide +kernel
theorem pn_java_lang_Throwable : plainName "java/lang/Throwable" = true := by first | (simp [plainName, overriddenIn]; done) | decide +kernel
theorem pn_java_lang_Exception : plainName "java/lang/Exception" = true := by first | (simp [plainName, overriddenIn]; done) | decide +kernel
theorem pn_java_lang_RuntimeException : plainName "java/lang/RuntimeException" = true := by first | (simp [plainName, overriddenIn]; done) | decide +kernel
theorem pn_com_example_fianza_fianza_InputException : plainName "com/example/fianza/fianza/InputException" = true := by first | (simp [plainName, overriddenIn]; done) | decide +kernel
theorem pd___V : parseMethodDescriptor "()V" = some ⟨[], none⟩ := by decide +kernel
theorem pd__Ljava_lang_String__Ljava_lang_StringBuilder_ : parseMethodDescriptor "(Ljava/lang/String;)Ljava/lang/StringBuilder;" = some ⟨[(.object "java/lang/String")], some (.object "java/lang/StringBuilder")⟩ := by decide +kernel
theorem pd___Ljava_lang_String_ : parseMethodDescriptor "()Ljava/lang/String;" = some ⟨[], some (.object "java/lang/String")⟩ := by decide +kernel
theorem pd__ICC_Ljava_lang_String_ : parseMethodDescriptor "(ICC)Ljava/lang/String;" = some ⟨[.int, .char, .char], some (.object "java/lang/String")⟩ := by decide +kernel
theorem pd__Ljava_lang_String_Ljava_lang_String__Lcom_example_fianza_fianza_InputException_ : parseMethodDescriptor "(Ljava/lang/String;Ljava/lang/String;)Lcom/example/fianza/fianza/InputException;" = some ⟨[(.object "java/lang/String"), (.object "java/lang/String")], some (.object "com/example/fianza/fianza/InputException")⟩ := by decide +kernel
theorem pd__I_C : parseMethodDescriptor "(I)C" = some ⟨[.int], some .char⟩ := by decide +kernel
theorem d11_0 : decode jdk_42_method_152_code 0 = .ok (.getstatic 38, 3) := by decide +kernel
theorem d11_3 : decode jdk_42_method_152_code 3 = .ok (.ifCond .eq 10, 3) := by decide +kernel
theorem d11_6 : decode jdk_42_method_152_code 6 = .ok (.aload_n 0, 1) := by decide +kernel
theorem d11_7 : decode jdk_42_method_152_code 7 = .ok (.getfield 15, 3) := by decide +kernel
theorem d11_10 : decode jdk_42_method_152_code 10 = .ok (.goto 4, 3) := by decide +kernel
theorem d11_13 : decode jdk_42_method_152_code 13 = .ok (.iconst 1, 1) := by decide +kernel
theorem d11_14 : decode jdk_42_method_152_code 14 = .ok (.ireturn, 1) := by decide +kernel
theorem c_coder (l : Launch) (Z : State) (a0 : Array Value) (hw : ∀ d ∈ tables_1, d.before a0 Z = true) (hEW : EW Z a0 consts_1) (n0 : Nat) (c1 : Int32) (hc1 : ¬ c1 = 0) (S1 : Sta Z Z.heap "java/lang/String" "COMPACT_STRINGS" "Z" (.int c1)) (v2 : Value) (hv2 : v2.isRef = true) (S2 : Sta Z Z.heap "jdk/internal/util/Preconditions" "SIOOBE_FORMATTER" "Ljava/util/function/BiFunction;" v2) (a : Addr) {h0 : Heap} (o1 : Old Z n0 h0) (Fc : Fld Z h0 a "java/lang/String" "coder" "B" (.int 0)) :
    Con Z a0 l (⟨"java/lang/String", "coder", "()B"⟩ : MethodName) jdk_42_method_152_code 1 (some .byte) ({ frames := 0, cells := 0, slots := 0, locals := 0 } : Room) [] #[(.ref a)] consts_1 h0 n0 [] [] (VV fun w h so => w = .int 0 ∧ h = h0 ∧ so = []) := by
  refine Con.body (plainFor_of_name pn_java_lang_String) hEW o1 all0 #[.val (.ref a)] (fun m => by first | (simp [entryFrame, mkF, argsToLocals, Value.category]; done) | rfl) ?_
  intro p e s m below meth c B hnm hret hlk G
  replace G := G.gets 3 (host := "") (Or.inl (hw _ (mm 70 rfl))) Via.refl (G.sta S1) d11_0 rfl |>.ifF 6 d11_3 (XT.i0_eq_f hc1) rfl |>.aloadN 7 d11_6 rfl rfl rfl |>.getf 10 (host := "") (Or.inl (hw _ (mm 25 rfl))) Via.refl Fc d11_7 rfl |>.goto 14 d11_10 (by decide) (by decide)
  exact G.retN hret (Or.inr (Or.inl rfl)) hlk d11_14 [] all0 ⟨_, rfl, rfl, rfl, rfl⟩ (nle rfl) (nle rfl)
theorem d10_0 : decode jdk_42_method_54_code 0 = .ok (.aload_n 0, 1) := by decide +kernel
theorem d10_1 : decode jdk_42_method_54_code 1 = .ok (.getfield 9, 3) := by decide +kernel
theorem d10_4 : decode jdk_42_method_54_code 4 = .ok (.arraylength, 1) := by decide +kernel
theorem d10_5 : decode jdk_42_method_54_code 5 = .ok (.aload_n 0, 1) := by decide +kernel
theorem d10_6 : decode jdk_42_method_54_code 6 = .ok (.invokevirtual 335, 3) := by decide +kernel
theorem d10_9 : decode jdk_42_method_54_code 9 = .ok (.ishr, 1) := by decide +kernel
theorem d10_10 : decode jdk_42_method_54_code 10 = .ok (.ireturn, 1) := by decide +kernel
theorem c_length (l : Launch) (Z : State) (a0 : Array Value) (hw : ∀ d ∈ tables_1, d.before a0 Z = true) (hEW : EW Z a0 consts_1) (n0 : Nat) (c1 : Int32) (hc1 : ¬ c1 = 0) (S1 : Sta Z Z.heap "java/lang/String" "COMPACT_STRINGS" "Z" (.int c1)) (v2 : Value) (hv2 : v2.isRef = true) (S2 : Sta Z Z.heap "jdk/internal/util/Preconditions" "SIOOBE_FORMATTER" "Ljava/util/function/BiFunction;" v2) (a b : Addr) (bs : List Value) {h0 : Heap} (o1 : Old Z n0 h0) (hS : Str Z h0 a b bs) :
    Con Z a0 l (⟨"java/lang/String", "length", "()I"⟩ : MethodName) jdk_42_method_54_code 1 (some .int) ({ frames := 1, cells := 0, slots := 0, locals := 13 } : Room) [] #[(.ref a)] consts_1 h0 n0 [] [] (VV fun w h so => w = .int (Int32.ofNat bs.length) ∧ h = h0 ∧ so = []) := by
  refine Con.body (plainFor_of_name pn_java_lang_String) hEW o1 all0 #[.val (.ref a)] (fun m => by first | (simp [entryFrame, mkF, argsToLocals, Value.category]; done) | rfl) ?_
  intro p e s m below meth c B hnm hret hlk G
  obtain ⟨Xa, Fc, Fv, kb, Ab⟩ := hS
  replace G := G.aloadN 1 d10_0 rfl rfl rfl |>.getf 4 (host := "") (Or.inl (hw _ (mm 24 rfl))) Via.refl Fv d10_1 rfl |>.alen 5 Ab d10_4 rfl |>.aloadN 6 d10_5 rfl rfl rfl
  obtain ⟨vc, h_c, soc, G', Kc, Qc⟩ := G.callV 9 (hw _ (mm 65 rfl)) (hw _ (mm 66 rfl)) (nfSel (hw _ (mm 68 rfl))) (hw _ (mm 68 rfl)) (hw _ (mm 67 rfl)) (hw _ (mm 6 rfl)) (hw _ (mm 69 rfl)) Xa (by decide) [] [(.int (Int32.ofNat bs.length))] rfl (c_coder l Z a0 hw hEW n0 c1 hc1 S1 v2 hv2 S2 a G.old Fc) (lenOf pd___B rfl) d10_6 rfl (nle rfl) (nle rfl) (nle rfl) (nle rfl) all0 all0 all0 rfl
  replace G := G'; clear G'
  obtain ⟨wc, qc, rfl, ec, rfl⟩ := Qc
  replace G := G.val qc
  subst ec
  replace G := G.ishr 10 d10_9 rfl |>.top (y := (.int (Int32.ofNat bs.length))) (congrArg Value.int (shr0 _))
  exact G.retI hret hlk d10_10 [] all0 ⟨_, rfl, rfl, rfl, rfl⟩ (nle rfl) (nle rfl)
theorem d12_0 : decode jdk_68_method_9_code 0 = .ok (.aload_n 0, 1) := by decide +kernel
theorem d12_1 : decode jdk_68_method_9_code 1 = .ok (.getfield 15, 3) := by decide +kernel
theorem d12_4 : decode jdk_68_method_9_code 4 = .ok (.arraylength, 1) := by decide +kernel
theorem d12_5 : decode jdk_68_method_9_code 5 = .ok (.aload_n 0, 1) := by decide +kernel
theorem d12_6 : decode jdk_68_method_9_code 6 = .ok (.getfield 22, 3) := by decide +kernel
theorem d12_9 : decode jdk_68_method_9_code 9 = .ok (.ishr, 1) := by decide +kernel
theorem d12_10 : decode jdk_68_method_9_code 10 = .ok (.istore_n 2, 1) := by decide +kernel
theorem d12_11 : decode jdk_68_method_9_code 11 = .ok (.iload_n 1, 1) := by decide +kernel
theorem d12_12 : decode jdk_68_method_9_code 12 = .ok (.iload_n 2, 1) := by decide +kernel
theorem d12_13 : decode jdk_68_method_9_code 13 = .ok (.isub, 1) := by decide +kernel
theorem d12_14 : decode jdk_68_method_9_code 14 = .ok (.ifCond .le 24, 3) := by decide +kernel
theorem d12_17 : decode jdk_68_method_9_code 17 = .ok (.aload_n 0, 1) := by decide +kernel
theorem d12_18 : decode jdk_68_method_9_code 18 = .ok (.aload_n 0, 1) := by decide +kernel
theorem d12_19 : decode jdk_68_method_9_code 19 = .ok (.getfield 15, 3) := by decide +kernel
theorem d12_22 : decode jdk_68_method_9_code 22 = .ok (.aload_n 0, 1) := by decide +kernel
theorem d12_23 : decode jdk_68_method_9_code 23 = .ok (.iload_n 1, 1) := by decide +kernel
theorem d12_24 : decode jdk_68_method_9_code 24 = .ok (.invokevirtual 104, 3) := by decide +kernel
theorem d12_27 : decode jdk_68_method_9_code 27 = .ok (.aload_n 0, 1) := by decide +kernel
theorem d12_28 : decode jdk_68_method_9_code 28 = .ok (.getfield 22, 3) := by decide +kernel
theorem d12_31 : decode jdk_68_method_9_code 31 = .ok (.ishl, 1) := by decide +kernel
theorem d12_32 : decode jdk_68_method_9_code 32 = .ok (.invokestatic 108, 3) := by decide +kernel
theorem d12_35 : decode jdk_68_method_9_code 35 = .ok (.putfield 15, 3) := by decide +kernel
theorem d12_38 : decode jdk_68_method_9_code 38 = .ok (.return_, 1) := by decide +kernel
theorem c_ensNG (l : Launch) (Z : State) (a0 : Array Value) (hw : ∀ d ∈ tables_1, d.before a0 Z = true) (hEW : EW Z a0 consts_1) (n0 : Nat) (c1 : Int32) (hc1 : ¬ c1 = 0) (S1 : Sta Z Z.heap "java/lang/String" "COMPACT_STRINGS" "Z" (.int c1)) (v2 : Value) (hv2 : v2.isRef = true) (S2 : Sta Z Z.heap "jdk/internal/util/Preconditions" "SIOOBE_FORMATTER" "Ljava/util/function/BiFunction;" v2) (a b : Addr) (cap mc : Nat) (bs : List Value) {h0 : Heap} (o1 : Old Z n0 h0) (hmc : mc ≤ cap) (hcap : cap < 2147483648) (hS : Sbd Z h0 a b cap bs) :
    Con Z a0 l (⟨"java/lang/AbstractStringBuilder", "ensureCapacityInternal", "(I)V"⟩ : MethodName) jdk_68_method_9_code 3 (none) ({ frames := 0, cells := 0, slots := 0, locals := 0 } : Room) [] #[(.ref a), (.int (Int32.ofNat mc))] consts_1 h0 n0 [] [] (V0 fun h so => h = h0 ∧ so = []) := by
  refine Con.body (plainFor_of_name pn_java_lang_AbstractStringBuilder) hEW o1 all0 #[.val (.ref a), .val (.int (Int32.ofNat mc)), .unset] (fun m => by first | (simp [entryFrame, mkF, argsToLocals, Value.category]; done) | rfl) ?_
  intro p e s m below meth c B hnm hret hlk G
  obtain ⟨Xa, Fv, Fc, Fn, kb, Ab⟩ := hS
  replace G := G.aloadN 1 d12_0 rfl rfl rfl |>.getf 4 (host := "") (Or.inl (hw _ (mm 46 rfl))) Via.refl Fv d12_1 rfl |>.alen 5 Ab d12_4 rfl |>.aloadN 6 d12_5 rfl rfl rfl |>.getf 9 (host := "") (Or.inl (hw _ (mm 48 rfl))) Via.refl Fc d12_6 rfl |>.ishr 10 d12_9 rfl |>.top (y := (.int (Int32.ofNat cap))) (congrArg Value.int (shr0 _)) |>.istoreN 11 #[.val (.ref a), .val (.int (Int32.ofNat mc)), .val (.int (Int32.ofNat cap))] d12_10 rfl rfl
  replace G := G.iloadN 12 d12_11 rfl rfl |>.iloadN 13 d12_12 rfl rfl |>.isub 14 d12_13 rfl |>.ifT 38 d12_14 (XT.i0_le_t (ofn_le0 hmc hcap)) (by decide) (by decide)
  exact G.retV hret hlk d12_38 [] all0 ⟨rfl, rfl, rfl⟩ (nle rfl) (nle rfl)
theorem d14_0 : decode jdk_68_method_71_code 0 = .ok (.getstatic 18, 3) := by decide +kernel
theorem d14_3 : decode jdk_68_method_71_code 3 = .ok (.ifCond .eq 18, 3) := by decide +kernel
theorem d14_6 : decode jdk_68_method_71_code 6 = .ok (.aload_n 0, 1) := by decide +kernel
theorem d14_7 : decode jdk_68_method_71_code 7 = .ok (.getfield 22, 3) := by decide +kernel
theorem d14_10 : decode jdk_68_method_71_code 10 = .ok (.aload_n 1, 1) := by decide +kernel
theorem d14_11 : decode jdk_68_method_71_code 11 = .ok (.invokevirtual 40, 3) := by decide +kernel
theorem d14_14 : decode jdk_68_method_71_code 14 = .ok (.if_icmp .eq 7, 3) := by decide +kernel
theorem d14_17 : decode jdk_68_method_71_code 17 = .ok (.aload_n 0, 1) := by decide +kernel
theorem d14_18 : decode jdk_68_method_71_code 18 = .ok (.invokevirtual 195, 3) := by decide +kernel
theorem d14_21 : decode jdk_68_method_71_code 21 = .ok (.return_, 1) := by decide +kernel
theorem c_infl (l : Launch) (Z : State) (a0 : Array Value) (hw : ∀ d ∈ tables_1, d.before a0 Z = true) (hEW : EW Z a0 consts_1) (n0 : Nat) (c1 : Int32) (hc1 : ¬ c1 = 0) (S1 : Sta Z Z.heap "java/lang/String" "COMPACT_STRINGS" "Z" (.int c1)) (v2 : Value) (hv2 : v2.isRef = true) (S2 : Sta Z Z.heap "jdk/internal/util/Preconditions" "SIOOBE_FORMATTER" "Ljava/util/function/BiFunction;" v2) (a b a2 b2 : Addr) (cap : Nat) (bs cs : List Value) {h0 : Heap} (o1 : Old Z n0 h0) (hS : Sbd Z h0 a b cap bs) (hT : Str Z h0 a2 b2 cs) :
    Con Z a0 l (⟨"java/lang/AbstractStringBuilder", "inflateIfNeededFor", "(Ljava/lang/String;)V"⟩ : MethodName) jdk_68_method_71_code 2 (none) ({ frames := 1, cells := 0, slots := 0, locals := 13 } : Room) [] #[(.ref a), (.ref a2)] consts_1 h0 n0 [] [] (V0 fun h so => h = h0 ∧ so = []) := by
  refine Con.body (plainFor_of_name pn_java_lang_AbstractStringBuilder) hEW o1 all0 #[.val (.ref a), .val (.ref a2)] (fun m => by first | (simp [entryFrame, mkF, argsToLocals, Value.category]; done) | rfl) ?_
  intro p e s m below meth c B hnm hret hlk G
  replace G := G.gets 3 (host := "") (Or.inl (hw _ (mm 45 rfl))) Via.refl (G.sta S1) d14_0 rfl |>.ifF 6 d14_3 (XT.i0_eq_f hc1) rfl |>.aloadN 7 d14_6 rfl rfl rfl |>.getf 10 (host := "") (Or.inl (hw _ (mm 48 rfl))) Via.refl hS.2.2.1 d14_7 rfl |>.aloadN 11 d14_10 rfl rfl rfl
  obtain ⟨vc, h_c, soc, G', Kc, Qc⟩ := G.callV 14 (hw _ (mm 88 rfl)) (hw _ (mm 66 rfl)) (nfSel (hw _ (mm 68 rfl))) (hw _ (mm 68 rfl)) (hw _ (mm 67 rfl)) (hw _ (mm 6 rfl)) (hw _ (mm 69 rfl)) hT.1 (by decide) [] [(.int (0 : Int32))] rfl (c_coder l Z a0 hw hEW n0 c1 hc1 S1 v2 hv2 S2 a2 G.old hT.2.1) (lenOf pd___B rfl) d14_11 rfl (nle rfl) (nle rfl) (nle rfl) (nle rfl) all0 all0 all0 rfl
  replace G := G'; clear G'
  obtain ⟨wc, qc, rfl, ec, rfl⟩ := Qc
  replace G := G.val qc
  subst ec
  replace G := G.icmpT 21 d14_14 (XT.ii_eq_t rfl) (by decide) (by decide)
  exact G.retV hret hlk d14_21 [] all0 ⟨rfl, rfl, rfl⟩ (nle rfl) (nle rfl)
theorem d15_0 : decode jdk_42_method_147_code 0 = .ok (.aload_n 0, 1) := by decide +kernel
theorem d15_1 : decode jdk_42_method_147_code 1 = .ok (.invokevirtual 335, 3) := by decide +kernel
theorem d15_4 : decode jdk_42_method_147_code 4 = .ok (.iload_n 3, 1) := by decide +kernel
theorem d15_5 : decode jdk_42_method_147_code 5 = .ok (.if_icmp .ne 23, 3) := by decide +kernel
theorem d15_8 : decode jdk_42_method_147_code 8 = .ok (.aload_n 0, 1) := by decide +kernel
theorem d15_9 : decode jdk_42_method_147_code 9 = .ok (.getfield 9, 3) := by decide +kernel
theorem d15_12 : decode jdk_42_method_147_code 12 = .ok (.iconst 0, 1) := by decide +kernel
theorem d15_13 : decode jdk_42_method_147_code 13 = .ok (.aload_n 1, 1) := by decide +kernel
theorem d15_14 : decode jdk_42_method_147_code 14 = .ok (.iload_n 2, 1) := by decide +kernel
theorem d15_15 : decode jdk_42_method_147_code 15 = .ok (.iload_n 3, 1) := by decide +kernel
theorem d15_16 : decode jdk_42_method_147_code 16 = .ok (.ishl, 1) := by decide +kernel
theorem d15_17 : decode jdk_42_method_147_code 17 = .ok (.aload_n 0, 1) := by decide +kernel
theorem d15_18 : decode jdk_42_method_147_code 18 = .ok (.getfield 9, 3) := by decide +kernel
theorem d15_21 : decode jdk_42_method_147_code 21 = .ok (.arraylength, 1) := by decide +kernel
theorem d15_22 : decode jdk_42_method_147_code 22 = .ok (.invokestatic 212, 3) := by decide +kernel
theorem d15_25 : decode jdk_42_method_147_code 25 = .ok (.goto 18, 3) := by decide +kernel
theorem d15_28 : decode jdk_42_method_147_code 28 = .ok (.aload_n 0, 1) := by decide +kernel
theorem d15_29 : decode jdk_42_method_147_code 29 = .ok (.getfield 9, 3) := by decide +kernel
theorem d15_32 : decode jdk_42_method_147_code 32 = .ok (.iconst 0, 1) := by decide +kernel
theorem d15_33 : decode jdk_42_method_147_code 33 = .ok (.aload_n 1, 1) := by decide +kernel
theorem d15_34 : decode jdk_42_method_147_code 34 = .ok (.iload_n 2, 1) := by decide +kernel
theorem d15_35 : decode jdk_42_method_147_code 35 = .ok (.aload_n 0, 1) := by decide +kernel
theorem d15_36 : decode jdk_42_method_147_code 36 = .ok (.getfield 9, 3) := by decide +kernel
theorem d15_39 : decode jdk_42_method_147_code 39 = .ok (.arraylength, 1) := by decide +kernel
theorem d15_40 : decode jdk_42_method_147_code 40 = .ok (.invokestatic 106, 3) := by decide +kernel
theorem d15_43 : decode jdk_42_method_147_code 43 = .ok (.return_, 1) := by decide +kernel
theorem c_getB (l : Launch) (Z : State) (a0 : Array Value) (hw : ∀ d ∈ tables_1, d.before a0 Z = true) (hEW : EW Z a0 consts_1) (n0 : Nat) (c1 : Int32) (hc1 : ¬ c1 = 0) (S1 : Sta Z Z.heap "java/lang/String" "COMPACT_STRINGS" "Z" (.int c1)) (v2 : Value) (hv2 : v2.isRef = true) (S2 : Sta Z Z.heap "jdk/internal/util/Preconditions" "SIOOBE_FORMATTER" "Ljava/util/function/BiFunction;" v2) (a2 b2 b : Addr) (kb : ClassId) (cap : Nat) (bs cs : List Value) {h0 : Heap} (o1 : Old Z n0 h0) (ge_b : n0 ≤ b) (hle : bs.length + cs.length ≤ cap) (hcap : cap < 2147483648) (hT : Str Z h0 a2 b2 cs) (Ab : Arv Z h0 b kb .byte (Int32.ofNat cap) bs (.int 0)) :
    Con Z a0 l (⟨"java/lang/String", "getBytes", "([BIB)V"⟩ : MethodName) jdk_42_method_147_code 4 (none) ({ frames := 1, cells := 0, slots := 0, locals := 41 } : Room) [] #[(.ref a2), (.ref b), (.int (Int32.ofNat bs.length)), (.int (0 : Int32))] consts_1 h0 n0 [b] [b] (V0 fun h so => Arv Z h b kb .byte (Int32.ofNat cap) (bs ++ cs) (.int 0) ∧ so = []) := by
  refine Con.body (plainFor_of_name pn_java_lang_String) hEW o1 (allS ge_b all0) #[.val (.ref a2), .val (.ref b), .val (.int (Int32.ofNat bs.length)), .val (.int (0 : Int32))] (fun m => by first | (simp [entryFrame, mkF, argsToLocals, Value.category]; done) | rfl) ?_
  intro p e s m below meth c B hnm hret hlk G
  obtain ⟨Xa2, Fc2, Fv2, kb2, Ab2⟩ := hT
  replace G := G.aloadN 1 d15_0 rfl rfl rfl
  obtain ⟨vc, h_c, soc, G', Kc, Qc⟩ := G.callV 4 (hw _ (mm 65 rfl)) (hw _ (mm 66 rfl)) (nfSel (hw _ (mm 68 rfl))) (hw _ (mm 68 rfl)) (hw _ (mm 67 rfl)) (hw _ (mm 6 rfl)) (hw _ (mm 69 rfl)) Xa2 (by decide) [] [] rfl (c_coder l Z a0 hw hEW n0 c1 hc1 S1 v2 hv2 S2 a2 G.old Fc2) (lenOf pd___B rfl) d15_1 rfl (nle rfl) (nle rfl) (nle rfl) (nle rfl) all0 all0 all0 rfl
  replace G := G'; clear G'
  obtain ⟨wc, qc, rfl, ec, rfl⟩ := Qc
  replace G := G.val qc
  subst ec
  replace G := G.iloadN 5 d15_4 rfl rfl |>.icmpF 8 d15_5 (XT.ii_ne_f rfl) rfl |>.aloadN 9 d15_8 rfl rfl rfl |>.getf 12 (host := "") (Or.inl (hw _ (mm 24 rfl))) Via.refl Fv2 d15_9 rfl |>.iconst 13 (0 : Int32) d15_12 rfl rfl |>.aloadN 14 d15_13 rfl rfl rfl |>.iloadN 15 d15_14 rfl rfl |>.iloadN 16 d15_15 rfl rfl
  replace G := G.ishl 17 d15_16 rfl |>.top (y := (.int (Int32.ofNat bs.length))) (congrArg Value.int (shl0 _)) |>.aloadN 18 d15_17 rfl rfl rfl |>.getf 21 (host := "") (Or.inl (hw _ (mm 24 rfl))) Via.refl Fv2 d15_18 rfl |>.alen 22 Ab2 d15_21 rfl
  have m1 : bs.length < 2147483648 := by omega
  have m2 : cs.length < 2147483648 := by omega
  have Ab' := Ab.pad (vs' := bs ++ List.replicate cs.length (.int 0)) (pad_rep bs (.int 0) cs.length)
  obtain ⟨h1, G', Ap, Kp⟩ := G.cpy 25 (hw _ (mm 94 rfl)) (hw _ (mm 97 rfl)) (hw _ (mm 95 rfl)) (hw _ (mm 96 rfl)) Ab2 Ab' rfl (by decide) (ofn_nn m1) (ofn_nn m2) (by rw [ofn_nat m2]; exact Nat.le_of_eq (Nat.zero_add _)) (by rw [ofn_nat m1, ofn_nat m2, ofn_nat hcap]; exact hle) (by rw [ofn_nat m1, ofn_nat m2]; simp) (Or.inl (mm 0 rfl)) (mm 0 rfl) d15_22 rfl (nle rfl) (nle rfl) rfl
  replace G := G'; clear G'
  rw [ofn_nat m1, ofn_nat m2, show (0 : Int32).toNatClampNeg = 0 from rfl, cpy_res] at Ap
  replace G := G.goto 43 d15_25 (by decide) (by decide)
  exact G.retV hret hlk d15_43 [] all0 ⟨rfl, Ap, rfl⟩ (nle rfl) (nle rfl)
theorem d13_0 : decode jdk_68_method_73_code 0 = .ok (.aload_n 0, 1) := by decide +kernel
theorem d13_1 : decode jdk_68_method_73_code 1 = .ok (.aload_n 2, 1) := by decide +kernel
theorem d13_2 : decode jdk_68_method_73_code 2 = .ok (.invokevirtual 397, 3) := by decide +kernel
theorem d13_5 : decode jdk_68_method_73_code 5 = .ok (.aload_n 2, 1) := by decide +kernel
theorem d13_6 : decode jdk_68_method_73_code 6 = .ok (.aload_n 0, 1) := by decide +kernel
theorem d13_7 : decode jdk_68_method_73_code 7 = .ok (.getfield 15, 3) := by decide +kernel
theorem d13_10 : decode jdk_68_method_73_code 10 = .ok (.iload_n 1, 1) := by decide +kernel
theorem d13_11 : decode jdk_68_method_73_code 11 = .ok (.aload_n 0, 1) := by decide +kernel
theorem d13_12 : decode jdk_68_method_73_code 12 = .ok (.getfield 22, 3) := by decide +kernel
theorem d13_15 : decode jdk_68_method_73_code 15 = .ok (.invokevirtual 399, 3) := by decide +kernel
theorem d13_18 : decode jdk_68_method_73_code 18 = .ok (.return_, 1) := by decide +kernel
theorem c_putStr (l : Launch) (Z : State) (a0 : Array Value) (hw : ∀ d ∈ tables_1, d.before a0 Z = true) (hEW : EW Z a0 consts_1) (n0 : Nat) (c1 : Int32) (hc1 : ¬ c1 = 0) (S1 : Sta Z Z.heap "java/lang/String" "COMPACT_STRINGS" "Z" (.int c1)) (v2 : Value) (hv2 : v2.isRef = true) (S2 : Sta Z Z.heap "jdk/internal/util/Preconditions" "SIOOBE_FORMATTER" "Ljava/util/function/BiFunction;" v2) (a b a2 b2 : Addr) (cap : Nat) (bs cs : List Value) {h0 : Heap} (o1 : Old Z n0 h0) (ge_b : n0 ≤ b) (hle : bs.length + cs.length ≤ cap) (hcap : cap < 2147483648) (hS : Sbd Z h0 a b cap bs) (hT : Str Z h0 a2 b2 cs) :
    Con Z a0 l (⟨"java/lang/AbstractStringBuilder", "putStringAt", "(ILjava/lang/String;)V"⟩ : MethodName) jdk_68_method_73_code 3 (none) ({ frames := 2, cells := 0, slots := 0, locals := 56 } : Room) [] #[(.ref a), (.int (Int32.ofNat bs.length)), (.ref a2)] consts_1 h0 n0 [b] [b] (V0 fun h so => (∃ k, Arv Z h b k .byte (Int32.ofNat cap) (bs ++ cs) (.int 0)) ∧ so = []) := by
  refine Con.body (plainFor_of_name pn_java_lang_AbstractStringBuilder) hEW o1 (allS ge_b all0) #[.val (.ref a), .val (.int (Int32.ofNat bs.length)), .val (.ref a2)] (fun m => by first | (simp [entryFrame, mkF, argsToLocals, Value.category]; done) | rfl) ?_
  intro p e s m below meth c B hnm hret hlk G
  replace G := G.aloadN 1 d13_0 rfl rfl rfl |>.aloadN 2 d13_1 rfl rfl rfl
  obtain ⟨vi, h_i, soi, G', Ki, Qi⟩ := G.callV 5 (hw _ (mm 83 rfl)) (declOf (hw _ (mm 84 rfl)) (hw _ (mm 87 rfl))) (nfSel (hw _ (mm 86 rfl))) (hw _ (mm 86 rfl)) (hw _ (mm 84 rfl)) (hw _ (mm 42 rfl)) (hw _ (mm 87 rfl)) hS.1 (by decide) [(.ref a2)] [] rfl (c_infl l Z a0 hw hEW n0 c1 hc1 S1 v2 hv2 S2 a b a2 b2 cap bs cs G.old hS hT) (lenOf pd__Ljava_lang_String__V rfl) d13_2 rfl (nle rfl) (nle rfl) (nle rfl) (nle rfl) all0 all0 all0 rfl
  replace G := G'; clear G'
  obtain ⟨qi, ei, rfl⟩ := Qi
  replace G := G.nov qi
  subst ei
  obtain ⟨Xa, Fv, Fc, Fn, kb, Ab⟩ := hS
  replace G := G.aloadN 6 d13_5 rfl rfl rfl |>.aloadN 7 d13_6 rfl rfl rfl |>.getf 10 (host := "") (Or.inl (hw _ (mm 46 rfl))) Via.refl Fv d13_7 rfl |>.iloadN 11 d13_10 rfl rfl |>.aloadN 12 d13_11 rfl rfl rfl |>.getf 15 (host := "") (Or.inl (hw _ (mm 48 rfl))) Via.refl Fc d13_12 rfl
  obtain ⟨vg, h1, sog, G', Kg, Qg⟩ := G.callV 18 (hw _ (mm 89 rfl)) (hw _ (mm 90 rfl)) (nfSel (hw _ (mm 92 rfl))) (hw _ (mm 92 rfl)) (hw _ (mm 91 rfl)) (hw _ (mm 6 rfl)) (hw _ (mm 93 rfl)) hT.1 (by decide) [(.ref b), (.int (Int32.ofNat bs.length)), (.int (0 : Int32))] [] rfl (c_getB l Z a0 hw hEW n0 c1 hc1 S1 v2 hv2 S2 a2 b2 b kb cap bs cs G.old ge_b hle hcap hT Ab) (lenOf pd___BIB_V rfl) d13_15 rfl (nle rfl) (nle rfl) (nle rfl) (nle rfl) (allS (Or.inl (mm 0 rfl)) all0) (allS (mm 0 rfl) all0) (allS (mm 0 rfl) all0) rfl
  replace G := G'; clear G'
  obtain ⟨qg, Ag, rfl⟩ := Qg
  replace G := G.nov qg
  exact G.retV hret hlk d13_18 [] all0 ⟨rfl, ⟨kb, Ag⟩, rfl⟩ (nle rfl) (nle rfl)
theorem d9_0 : decode jdk_68_method_22_code 0 = .ok (.aload_n 1, 1) := by decide +kernel
theorem d9_1 : decode jdk_68_method_22_code 1 = .ok (.ifnonnull 8, 3) := by decide +kernel
theorem d9_4 : decode jdk_68_method_22_code 4 = .ok (.aload_n 0, 1) := by decide +kernel
theorem d9_5 : decode jdk_68_method_22_code 5 = .ok (.invokevirtual 204, 3) := by decide +kernel
theorem d9_8 : decode jdk_68_method_22_code 8 = .ok (.areturn, 1) := by decide +kernel
theorem d9_9 : decode jdk_68_method_22_code 9 = .ok (.aload_n 1, 1) := by decide +kernel
theorem d9_10 : decode jdk_68_method_22_code 10 = .ok (.invokevirtual 32, 3) := by decide +kernel
theorem d9_13 : decode jdk_68_method_22_code 13 = .ok (.istore_n 2, 1) := by decide +kernel
theorem d9_14 : decode jdk_68_method_22_code 14 = .ok (.aload_n 0, 1) := by decide +kernel
theorem d9_15 : decode jdk_68_method_22_code 15 = .ok (.aload_n 0, 1) := by decide +kernel
theorem d9_16 : decode jdk_68_method_22_code 16 = .ok (.getfield 79, 3) := by decide +kernel
theorem d9_19 : decode jdk_68_method_22_code 19 = .ok (.iload_n 2, 1) := by decide +kernel
theorem d9_20 : decode jdk_68_method_22_code 20 = .ok (.iadd, 1) := by decide +kernel
theorem d9_21 : decode jdk_68_method_22_code 21 = .ok (.invokevirtual 100, 3) := by decide +kernel
theorem d9_24 : decode jdk_68_method_22_code 24 = .ok (.aload_n 0, 1) := by decide +kernel
theorem d9_25 : decode jdk_68_method_22_code 25 = .ok (.aload_n 0, 1) := by decide +kernel
theorem d9_26 : decode jdk_68_method_22_code 26 = .ok (.getfield 79, 3) := by decide +kernel
theorem d9_29 : decode jdk_68_method_22_code 29 = .ok (.aload_n 1, 1) := by decide +kernel
theorem d9_30 : decode jdk_68_method_22_code 30 = .ok (.invokevirtual 208, 3) := by decide +kernel
theorem d9_33 : decode jdk_68_method_22_code 33 = .ok (.aload_n 0, 1) := by decide +kernel
theorem d9_34 : decode jdk_68_method_22_code 34 = .ok (.dup, 1) := by decide +kernel
theorem d9_35 : decode jdk_68_method_22_code 35 = .ok (.getfield 79, 3) := by decide +kernel
theorem d9_38 : decode jdk_68_method_22_code 38 = .ok (.iload_n 2, 1) := by decide +kernel
theorem d9_39 : decode jdk_68_method_22_code 39 = .ok (.iadd, 1) := by decide +kernel
theorem d9_40 : decode jdk_68_method_22_code 40 = .ok (.putfield 79, 3) := by decide +kernel
theorem d9_43 : decode jdk_68_method_22_code 43 = .ok (.aload_n 0, 1) := by decide +kernel
theorem d9_44 : decode jdk_68_method_22_code 44 = .ok (.areturn, 1) := by decide +kernel
theorem c_asbApp (l : Launch) (Z : State) (a0 : Array Value) (hw : ∀ d ∈ tables_1, d.before a0 Z = true) (hEW : EW Z a0 consts_1) (n0 : Nat) (c1 : Int32) (hc1 : ¬ c1 = 0) (S1 : Sta Z Z.heap "java/lang/String" "COMPACT_STRINGS" "Z" (.int c1)) (v2 : Value) (hv2 : v2.isRef = true) (S2 : Sta Z Z.heap "jdk/internal/util/Preconditions" "SIOOBE_FORMATTER" "Ljava/util/function/BiFunction;" v2) (a b a2 b2 : Addr) (cap : Nat) (bs cs : List Value) {h0 : Heap} (o1 : Old Z n0 h0) (ge_a : n0 ≤ a) (ge_b : n0 ≤ b) (hle : bs.length + cs.length ≤ cap) (hcap : cap < 2147483648) (hS : Sbd Z h0 a b cap bs) (hT : Str Z h0 a2 b2 cs) :
    Con Z a0 l (⟨"java/lang/AbstractStringBuilder", "append", "(Ljava/lang/String;)Ljava/lang/AbstractStringBuilder;"⟩ : MethodName) jdk_68_method_22_code 3 (some (.object "java/lang/AbstractStringBuilder")) ({ frames := 3, cells := 0, slots := 0, locals := 70 } : Room) [] #[(.ref a), (.ref a2)] consts_1 h0 n0 [a, b] [a, b] (VV fun w h so => w = .ref a ∧ Sbd Z h a b cap (bs ++ cs) ∧ so = []) := by
  refine Con.body (plainFor_of_name pn_java_lang_AbstractStringBuilder) hEW o1 (allS ge_a (allS ge_b all0)) #[.val (.ref a), .val (.ref a2), .unset] (fun m => by first | (simp [entryFrame, mkF, argsToLocals, Value.category]; done) | rfl) ?_
  intro p e s m below meth c B hnm hret hlk G
  replace G := G.aloadN 1 d9_0 rfl rfl rfl |>.ifnonnullT 9 d9_1 (by decide) (by decide) |>.aloadN 10 d9_9 rfl rfl rfl
  obtain ⟨vl, h_l, sol, G', Kl, Ql⟩ := G.callV 13 (hw _ (mm 60 rfl)) (hw _ (mm 61 rfl)) (nfSel (hw _ (mm 63 rfl))) (hw _ (mm 63 rfl)) (hw _ (mm 62 rfl)) (hw _ (mm 6 rfl)) (hw _ (mm 64 rfl)) hT.1 (by decide) [] [] rfl (c_length l Z a0 hw hEW n0 c1 hc1 S1 v2 hv2 S2 a2 b2 cs G.old hT) (lenOf pd___I rfl) d9_10 rfl (nle rfl) (nle rfl) (nle rfl) (nle rfl) all0 all0 all0 rfl
  replace G := G'; clear G'
  obtain ⟨wl, ql, rfl, el, rfl⟩ := Ql
  replace G := G.val ql
  subst el
  replace G := G.istoreN 14 #[.val (.ref a), .val (.ref a2), .val (.int (Int32.ofNat cs.length))] d9_13 rfl rfl |>.aloadN 15 d9_14 rfl rfl rfl |>.aloadN 16 d9_15 rfl rfl rfl |>.getf 19 (host := "") (Or.inl (hw _ (mm 71 rfl))) Via.refl hS.2.2.2.1 d9_16 rfl |>.iloadN 20 d9_19 rfl rfl |>.iadd 21 d9_20 rfl |>.top (y := (.int (Int32.ofNat (bs.length + cs.length)))) (congrArg Value.int (ofn_add _ _))
  obtain ⟨ve, h_e, soe, G', Ke, Qe⟩ := G.callV 24 (hw _ (mm 73 rfl)) (declOf (hw _ (mm 74 rfl)) (hw _ (mm 77 rfl))) (nfSel (hw _ (mm 76 rfl))) (hw _ (mm 76 rfl)) (hw _ (mm 74 rfl)) (hw _ (mm 42 rfl)) (hw _ (mm 77 rfl)) hS.1 (by decide) [(.int (Int32.ofNat (bs.length + cs.length)))] [] rfl (c_ensNG l Z a0 hw hEW n0 c1 hc1 S1 v2 hv2 S2 a b cap (bs.length + cs.length) bs G.old hle hcap hS) (lenOf pd__I_V rfl) d9_21 rfl (nle rfl) (nle rfl) (nle rfl) (nle rfl) all0 all0 all0 rfl
  replace G := G'; clear G'
  obtain ⟨qe, ee, rfl⟩ := Qe
  replace G := G.nov qe
  subst ee
  replace G := G.aloadN 25 d9_24 rfl rfl rfl |>.aloadN 26 d9_25 rfl rfl rfl |>.getf 29 (host := "") (Or.inl (hw _ (mm 71 rfl))) Via.refl hS.2.2.2.1 d9_26 rfl |>.aloadN 30 d9_29 rfl rfl rfl
  obtain ⟨vp, h1, sop, G', Kp, Qp⟩ := G.callV 33 (hw _ (mm 78 rfl)) (declOf (hw _ (mm 79 rfl)) (hw _ (mm 82 rfl))) (nfSel (hw _ (mm 81 rfl))) (hw _ (mm 81 rfl)) (hw _ (mm 79 rfl)) (hw _ (mm 42 rfl)) (hw _ (mm 82 rfl)) hS.1 (by decide) [(.int (Int32.ofNat bs.length)), (.ref a2)] [] rfl (c_putStr l Z a0 hw hEW n0 c1 hc1 S1 v2 hv2 S2 a b a2 b2 cap bs cs G.old ge_b hle hcap hS hT) (lenOf pd__ILjava_lang_String__V rfl) d9_30 rfl (nle rfl) (nle rfl) (nle rfl) (nle rfl) (allS (Or.inl (mm 1 rfl)) all0) (allS (mm 1 rfl) all0) (allS (mm 1 rfl) all0) rfl
  replace G := G'; clear G'
  obtain ⟨qp, ⟨kb, Ab⟩, rfl⟩ := Qp
  replace G := G.nov qp
  obtain ⟨Xa, Fv, Fc, Fn, kb0, Ab0⟩ := hS
  have nab : a ≠ b := ne_arr Xa (hw _ (mm 33 rfl)) Ab0.choose_spec.1
  replace Xa := Xa.keep Kp; replace Fv := Fv.keep Kp (ninS nab nin0); replace Fc := Fc.keep Kp (ninS nab nin0); replace Fn := Fn.keep Kp (ninS nab nin0)
  replace G := G.aloadN 34 d9_33 rfl rfl rfl |>.dup 35 d9_34 rfl rfl |>.getf 38 (host := "") (Or.inl (hw _ (mm 71 rfl))) Via.refl Fn d9_35 rfl |>.iloadN 39 d9_38 rfl rfl |>.iadd 40 d9_39 rfl |>.top (y := (.int (Int32.ofNat (bs ++ cs).length))) (congrArg Value.int ((ofn_add _ _).trans (by rw [List.length_append])))
  obtain ⟨h2, G', Ww, Fw, Kw⟩ := G.putf 43 (host := "") (Or.inl (hw _ (mm 71 rfl))) Via.refl Fn Xa (Or.inl (hw _ (mm 72 rfl))) (hw _ (mm 33 rfl)) (ty := .int) (by decide) rfl rfl (Or.inl (mm 0 rfl)) (mm 0 rfl) d9_40 rfl
  replace G := G'; clear G'
  replace Fv := Fv.other Ww (Or.inr (slot_ne (Or.inl (hw _ (mm 47 rfl))) (Or.inl (hw _ (mm 72 rfl))) (by decide) (t := (.array .byte)) (t' := .int) (by decide) (by decide)))
  replace Fc := Fc.other Ww (Or.inr (slot_ne (Or.inl (hw _ (mm 49 rfl))) (Or.inl (hw _ (mm 72 rfl))) (by decide) (t := .byte) (t' := .int) (by decide) (by decide)))
  replace Xa := Xa.wr Ww; replace Ab := Ab.keep Kw (ninS nab.symm nin0)
  replace G := G.aloadN 44 d9_43 rfl rfl rfl
  exact G.retA hret rfl rfl hlk d9_44 [] all0 ⟨_, rfl, rfl, ⟨Xa, Fv, Fc, Fw, kb, Ab⟩, rfl⟩ (nle rfl) (nle rfl)
theorem d8_0 : decode jdk_67_method_7_code 0 = .ok (.aload_n 0, 1) := by decide +kernel
theorem d8_1 : decode jdk_67_method_7_code 1 = .ok (.aload_n 1, 1) := by decide +kernel
theorem d8_2 : decode jdk_67_method_7_code 2 = .ok (.invokespecial 29, 3) := by decide +kernel
theorem d8_5 : decode jdk_67_method_7_code 5 = .ok (.pop, 1) := by decide +kernel
theorem d8_6 : decode jdk_67_method_7_code 6 = .ok (.aload_n 0, 1) := by decide +kernel
theorem d8_7 : decode jdk_67_method_7_code 7 = .ok (.areturn, 1) := by decide +kernel
theorem c_app (l : Launch) (Z : State) (a0 : Array Value) (hw : ∀ d ∈ tables_1, d.before a0 Z = true) (hEW : EW Z a0 consts_1) (n0 : Nat) (c1 : Int32) (hc1 : ¬ c1 = 0) (S1 : Sta Z Z.heap "java/lang/String" "COMPACT_STRINGS" "Z" (.int c1)) (v2 : Value) (hv2 : v2.isRef = true) (S2 : Sta Z Z.heap "jdk/internal/util/Preconditions" "SIOOBE_FORMATTER" "Ljava/util/function/BiFunction;" v2) (a b a2 b2 : Addr) (cap : Nat) (bs cs : List Value) {h0 : Heap} (o1 : Old Z n0 h0) (ge_a : n0 ≤ a) (ge_b : n0 ≤ b) (hle : bs.length + cs.length ≤ cap) (hcap : cap < 2147483648) (hS : Sbd Z h0 a b cap bs) (hT : Str Z h0 a2 b2 cs) :
    Con Z a0 l (⟨"java/lang/StringBuilder", "append", "(Ljava/lang/String;)Ljava/lang/StringBuilder;"⟩ : MethodName) jdk_67_method_7_code 2 (some (.object "java/lang/StringBuilder")) ({ frames := 4, cells := 0, slots := 0, locals := 84 } : Room) [] #[(.ref a), (.ref a2)] consts_1 h0 n0 [a, b] [a, b] (VV fun w h so => w = .ref a ∧ Sbd Z h a b cap (bs ++ cs) ∧ so = []) := by
  refine Con.body (plainFor_of_name pn_java_lang_StringBuilder) hEW o1 (allS ge_a (allS ge_b all0)) #[.val (.ref a), .val (.ref a2)] (fun m => by first | (simp [entryFrame, mkF, argsToLocals, Value.category]; done) | rfl) ?_
  intro p e s m below meth c B hnm hret hlk G
  replace G := G.aloadN 1 d8_0 rfl rfl rfl |>.aloadN 2 d8_1 rfl rfl rfl
  obtain ⟨vp, h1, sop, G', Kp, Qp⟩ := G.callSup 5 (hw _ (mm 55 rfl)) (sameOf (hw _ (mm 56 rfl)) (nfVia (y := (⟨"java/lang/AbstractStringBuilder", "ensureCapacityInternal", "(I)V"⟩ : MethodName)) rfl (hw _ (mm 76 rfl)) (hw _ (mm 74 rfl))) (by decide)) (hw _ (mm 56 rfl)) (hw _ (mm 57 rfl)) (by decide) (hw _ (mm 42 rfl)) (hw _ (mm 59 rfl)) (Ins.self hS.1) [(.ref a2)] [] rfl (c_asbApp l Z a0 hw hEW n0 c1 hc1 S1 v2 hv2 S2 a b a2 b2 cap bs cs G.old ge_a ge_b hle hcap hS hT) (lenOf pd__Ljava_lang_String__Ljava_lang_AbstractStringBuilder_ rfl) d8_2 rfl (nle rfl) (nle rfl) (nle rfl) (nle rfl) (allS (Or.inl (mm 0 rfl)) (allS (Or.inl (mm 1 rfl)) all0)) (allS (mm 0 rfl) (allS (mm 1 rfl) all0)) (allS (mm 0 rfl) (allS (mm 1 rfl) all0)) rfl
  replace G := G'; clear G'
  obtain ⟨wp, qp, rfl, hS1, rfl⟩ := Qp
  replace G := G.val qp |>.pop 6 d8_5 rfl rfl |>.aloadN 7 d8_6 rfl rfl rfl
  exact G.retA hret rfl rfl hlk d8_7 [] all0 ⟨_, rfl, rfl, hS1, rfl⟩ (nle rfl) (nle rfl)
theorem d7_0 : decode jdk_68_method_2_code 0 = .ok (.aload_n 0, 1) := by decide +kernel
theorem d7_1 : decode jdk_68_method_2_code 1 = .ok (.invokespecial 3, 3) := by decide +kernel
theorem d7_4 : decode jdk_68_method_2_code 4 = .ok (.getstatic 18, 3) := by decide +kernel
theorem d7_7 : decode jdk_68_method_2_code 7 = .ok (.ifCond .eq 18, 3) := by decide +kernel
theorem d7_10 : decode jdk_68_method_2_code 10 = .ok (.aload_n 0, 1) := by decide +kernel
theorem d7_11 : decode jdk_68_method_2_code 11 = .ok (.iload_n 1, 1) := by decide +kernel
theorem d7_12 : decode jdk_68_method_2_code 12 = .ok (.newarray .byte, 2) := by decide +kernel
theorem d7_14 : decode jdk_68_method_2_code 14 = .ok (.putfield 15, 3) := by decide +kernel
theorem d7_17 : decode jdk_68_method_2_code 17 = .ok (.aload_n 0, 1) := by decide +kernel
theorem d7_18 : decode jdk_68_method_2_code 18 = .ok (.iconst 0, 1) := by decide +kernel
theorem d7_19 : decode jdk_68_method_2_code 19 = .ok (.putfield 22, 3) := by decide +kernel
theorem d7_22 : decode jdk_68_method_2_code 22 = .ok (.goto 16, 3) := by decide +kernel
theorem d7_25 : decode jdk_68_method_2_code 25 = .ok (.aload_n 0, 1) := by decide +kernel
theorem d7_26 : decode jdk_68_method_2_code 26 = .ok (.iload_n 1, 1) := by decide +kernel
theorem d7_27 : decode jdk_68_method_2_code 27 = .ok (.invokestatic 26, 3) := by decide +kernel
theorem d7_30 : decode jdk_68_method_2_code 30 = .ok (.putfield 15, 3) := by decide +kernel
theorem d7_33 : decode jdk_68_method_2_code 33 = .ok (.aload_n 0, 1) := by decide +kernel
theorem d7_34 : decode jdk_68_method_2_code 34 = .ok (.iconst 1, 1) := by decide +kernel
theorem d7_35 : decode jdk_68_method_2_code 35 = .ok (.putfield 22, 3) := by decide +kernel
theorem d7_38 : decode jdk_68_method_2_code 38 = .ok (.return_, 1) := by decide +kernel
theorem c_asbInit (l : Launch) (Z : State) (a0 : Array Value) (hw : ∀ d ∈ tables_1, d.before a0 Z = true) (hEW : EW Z a0 consts_1) (n0 : Nat) (c1 : Int32) (hc1 : ¬ c1 = 0) (S1 : Sta Z Z.heap "java/lang/String" "COMPACT_STRINGS" "Z" (.int c1)) (v2 : Value) (hv2 : v2.isRef = true) (S2 : Sta Z Z.heap "jdk/internal/util/Preconditions" "SIOOBE_FORMATTER" "Ljava/util/function/BiFunction;" v2) (a : Addr) {h0 : Heap} (o1 : Old Z n0 h0) (ge_a : n0 ≤ a) (Xa : Exa Z h0 a "java/lang/StringBuilder") (Fv : Fld Z h0 a "java/lang/AbstractStringBuilder" "value" "[B" .null) (Fc : Fld Z h0 a "java/lang/AbstractStringBuilder" "coder" "B" (.int 0)) (Fn : Fld Z h0 a "java/lang/AbstractStringBuilder" "count" "I" (.int 0)) :
    Con Z a0 l (⟨"java/lang/AbstractStringBuilder", "<init>", "(I)V"⟩ : MethodName) jdk_68_method_2_code 2 (none) ({ frames := 1, cells := 1, slots := 16, locals := 12 } : Room) [] #[(.ref a), (.int (16 : Int32))] consts_1 h0 n0 [a] [a] (V0 fun h so => ∃ b, Sbd Z h a b 16 [] ∧ h0.size ≤ b ∧ so = [b]) := by
  refine Con.body (plainFor_of_name pn_java_lang_AbstractStringBuilder) hEW o1 (allS ge_a all0) #[.val (.ref a), .val (.int (16 : Int32))] (fun m => by first | (simp [entryFrame, mkF, argsToLocals, Value.category]; done) | rfl) ?_
  intro p e s m below meth c B hnm hret hlk G
  replace G := G.aloadN 1 d7_0 rfl rfl rfl |>.initO 4 (hw _ (mm 44 rfl)) (hw _ (mm 16 rfl)) (hw _ (mm 17 rfl)) d7_1 rfl (nle rfl) (nle rfl) rfl |>.gets 7 (host := "") (Or.inl (hw _ (mm 45 rfl))) Via.refl (G.sta S1) d7_4 rfl |>.ifF 10 d7_7 (XT.i0_eq_f hc1) rfl |>.aloadN 11 d7_10 rfl rfl rfl |>.iloadN 12 d7_11 rfl rfl
  obtain ⟨b, h1, kb, G', gb, sb, Eb, Ab⟩ := G.newarray 14 (hw _ (mm 19 rfl)) d7_12 (by decide) 16 (nle rfl) (by decide) rfl (nle rfl) (nle rfl)
  replace G := G'; clear G'
  have nab : a ≠ b := ne_new gb Xa.lt
  replace Xa := Xa.ext Eb; replace Fv := Fv.ext Eb; replace Fc := Fc.ext Eb; replace Fn := Fn.ext Eb
  obtain ⟨h2, G', Wv, Fv, Kv⟩ := G.putf 17 (host := "") (Or.inl (hw _ (mm 46 rfl))) Via.refl Fv Xa (Or.inl (hw _ (mm 47 rfl))) (hw _ (mm 33 rfl)) (ty := (.array .byte)) (by decide) rfl rfl (Or.inl (mm 0 rfl)) (mm 1 rfl) d7_14 rfl
  replace G := G'; clear G'
  replace Fn := Fn.other Wv (Or.inr (slot_ne (Or.inl (hw _ (mm 72 rfl))) (Or.inl (hw _ (mm 47 rfl))) (by decide) (t := .int) (t' := (.array .byte)) (by decide) (by decide)))
  replace Fc := Fc.other Wv (Or.inr (slot_ne (Or.inl (hw _ (mm 49 rfl))) (Or.inl (hw _ (mm 47 rfl))) (by decide) (t := .byte) (t' := (.array .byte)) (by decide) (by decide)))
  replace Xa := Xa.wr Wv; replace Ab := Ab.keep Kv (ninS nab.symm nin0)
  replace G := G.aloadN 18 d7_17 rfl rfl rfl |>.iconst 19 (0 : Int32) d7_18 rfl rfl
  obtain ⟨h3, G', Wc, Fc, Kc⟩ := G.putf 22 (host := "") (Or.inl (hw _ (mm 48 rfl))) Via.refl Fc Xa (Or.inl (hw _ (mm 49 rfl))) (hw _ (mm 33 rfl)) (ty := .byte) (by decide) rfl rfl (Or.inl (mm 0 rfl)) (mm 1 rfl) d7_19 rfl
  replace G := G'; clear G'
  replace Fn := Fn.other Wc (Or.inr (slot_ne (Or.inl (hw _ (mm 72 rfl))) (Or.inl (hw _ (mm 49 rfl))) (by decide) (t := .int) (t' := .byte) (by decide) (by decide)))
  replace Fv := Fv.other Wc (Or.inr (slot_ne (Or.inl (hw _ (mm 47 rfl))) (Or.inl (hw _ (mm 49 rfl))) (by decide) (t := (.array .byte)) (t' := .byte) (by decide) (by decide)))
  replace Xa := Xa.wr Wc; replace Ab := Ab.keep Kc (ninS nab.symm nin0)
  replace G := G.goto 38 d7_22 (by decide) (by decide)
  exact G.retV hret hlk d7_38 [b] (allS (mm 0 rfl) all0) ⟨rfl, b, ⟨Xa, Fv, Fc, Fn, kb, Ab⟩, sb, rfl⟩ (nle rfl) (nle rfl)
theorem d6_0 : decode jdk_67_method_1_code 0 = .ok (.aload_n 0, 1) := by decide +kernel
theorem d6_1 : decode jdk_67_method_1_code 1 = .ok (.bipush 16, 2) := by decide +kernel
theorem d6_3 : decode jdk_67_method_1_code 3 = .ok (.invokespecial 1, 3) := by decide +kernel
theorem d6_6 : decode jdk_67_method_1_code 6 = .ok (.return_, 1) := by decide +kernel
theorem c_sbInit (l : Launch) (Z : State) (a0 : Array Value) (hw : ∀ d ∈ tables_1, d.before a0 Z = true) (hEW : EW Z a0 consts_1) (n0 : Nat) (c1 : Int32) (hc1 : ¬ c1 = 0) (S1 : Sta Z Z.heap "java/lang/String" "COMPACT_STRINGS" "Z" (.int c1)) (v2 : Value) (hv2 : v2.isRef = true) (S2 : Sta Z Z.heap "jdk/internal/util/Preconditions" "SIOOBE_FORMATTER" "Ljava/util/function/BiFunction;" v2) (a : Addr) {h0 : Heap} (o1 : Old Z n0 h0) (ge_a : n0 ≤ a) (Xa : Exa Z h0 a "java/lang/StringBuilder") (Fv : Fld Z h0 a "java/lang/AbstractStringBuilder" "value" "[B" .null) (Fc : Fld Z h0 a "java/lang/AbstractStringBuilder" "coder" "B" (.int 0)) (Fn : Fld Z h0 a "java/lang/AbstractStringBuilder" "count" "I" (.int 0)) :
    Con Z a0 l (⟨"java/lang/StringBuilder", "<init>", "()V"⟩ : MethodName) jdk_67_method_1_code 1 (none) ({ frames := 2, cells := 1, slots := 16, locals := 25 } : Room) [] #[(.ref a)] consts_1 h0 n0 [a] [a] (V0 fun h so => ∃ b, Sbd Z h a b 16 [] ∧ h0.size ≤ b ∧ so = [b]) := by
  refine Con.body (plainFor_of_name pn_java_lang_StringBuilder) hEW o1 (allS ge_a all0) #[.val (.ref a)] (fun m => by first | (simp [entryFrame, mkF, argsToLocals, Value.category]; done) | rfl) ?_
  intro p e s m below meth c B hnm hret hlk G
  replace G := G.aloadN 1 d6_0 rfl rfl rfl |>.bipush 3 (16 : Int32) d6_1 (by decide) rfl
  obtain ⟨vi, h1, soi, G', Ki, Qi⟩ := G.callI 6 rfl rfl (hw _ (mm 38 rfl)) (hw _ (mm 39 rfl)) (hw _ (mm 42 rfl)) (hw _ (mm 43 rfl)) (by decide) [(.int (16 : Int32))] [] rfl (c_asbInit l Z a0 hw hEW n0 c1 hc1 S1 v2 hv2 S2 a G.old ge_a Xa Fv Fc Fn) (lenOf pd__I_V rfl) d6_3 rfl (nle rfl) (nle rfl) (nle rfl) (nle rfl) (allS (Or.inl (mm 0 rfl)) all0) (allS (mm 0 rfl) all0) (allS (mm 0 rfl) all0) rfl
  replace G := G'; clear G'
  obtain ⟨qi, b, hS, hb, rfl⟩ := Qi
  replace G := G.nov qi
  exact G.retV hret hlk d6_6 [b] (allS (mm 0 rfl) all0) ⟨rfl, b, hS, hb, rfl⟩ (nle rfl) (nle rfl)
theorem d26_0 : decode jdk_29_method_69_code 0 = .ok (.iload_n 0, 1) := by decide +kernel
theorem d26_1 : decode jdk_29_method_69_code 1 = .ok (.iload_n 1, 1) := by decide +kernel
theorem d26_2 : decode jdk_29_method_69_code 2 = .ok (.if_icmp .gt 7, 3) := by decide +kernel
theorem d26_5 : decode jdk_29_method_69_code 5 = .ok (.iload_n 0, 1) := by decide +kernel
theorem d26_6 : decode jdk_29_method_69_code 6 = .ok (.goto 4, 3) := by decide +kernel
theorem d26_9 : decode jdk_29_method_69_code 9 = .ok (.iload_n 1, 1) := by decide +kernel
theorem d26_10 : decode jdk_29_method_69_code 10 = .ok (.ireturn, 1) := by decide +kernel
theorem c_minR (l : Launch) (Z : State) (a0 : Array Value) (hw : ∀ d ∈ tables_1, d.before a0 Z = true) (hEW : EW Z a0 consts_1) (n0 : Nat) (c1 : Int32) (hc1 : ¬ c1 = 0) (S1 : Sta Z Z.heap "java/lang/String" "COMPACT_STRINGS" "Z" (.int c1)) (v2 : Value) (hv2 : v2.isRef = true) (S2 : Sta Z Z.heap "jdk/internal/util/Preconditions" "SIOOBE_FORMATTER" "Ljava/util/function/BiFunction;" v2) (x y : Int32) {h0 : Heap} (o1 : Old Z n0 h0) (hxy : y < x) :
    Con Z a0 l (⟨"java/lang/Math", "min", "(II)I"⟩ : MethodName) jdk_29_method_69_code 2 (some .int) ({ frames := 0, cells := 0, slots := 0, locals := 0 } : Room) [] #[(.int x), (.int y)] consts_1 h0 n0 [] [] (VV fun w h so => w = .int y ∧ h = h0 ∧ so = []) := by
  refine Con.body (by decide +kernel) hEW o1 all0 #[.val (.int x), .val (.int y)] (fun m => by first | (simp [entryFrame, mkF, argsToLocals, Value.category]; done) | rfl) ?_
  intro p e s m below meth c B hnm hret hlk G
  replace G := G.iloadN 1 d26_0 rfl rfl |>.iloadN 2 d26_1 rfl rfl |>.icmpT 9 d26_2 (XT.ii_gt_t hxy) (by decide) (by decide) |>.iloadN 10 d26_9 rfl rfl
  exact G.retI hret hlk d26_10 [] all0 ⟨_, rfl, rfl, rfl, rfl⟩ (nle rfl) (nle rfl)
theorem d25_0 : decode jdk_65_method_131_code 0 = .ok (.iload_n 1, 1) := by decide +kernel
theorem d25_1 : decode jdk_65_method_131_code 1 = .ok (.iload_n 0, 1) := by decide +kernel
theorem d25_2 : decode jdk_65_method_131_code 2 = .ok (.if_icmp .ge 35, 3) := by decide +kernel
theorem d25_5 : decode jdk_65_method_131_code 5 = .ok (.new 43, 3) := by decide +kernel
theorem d25_8 : decode jdk_65_method_131_code 8 = .ok (.dup, 1) := by decide +kernel
theorem d25_9 : decode jdk_65_method_131_code 9 = .ok (.new 45, 3) := by decide +kernel
theorem d25_12 : decode jdk_65_method_131_code 12 = .ok (.dup, 1) := by decide +kernel
theorem d25_13 : decode jdk_65_method_131_code 13 = .ok (.invokespecial 47, 3) := by decide +kernel
theorem d25_16 : decode jdk_65_method_131_code 16 = .ok (.iload_n 0, 1) := by decide +kernel
theorem d25_17 : decode jdk_65_method_131_code 17 = .ok (.invokevirtual 54, 3) := by decide +kernel
theorem d25_20 : decode jdk_65_method_131_code 20 = .ok (.ldc_w 337, 3) := by decide +kernel
theorem d25_23 : decode jdk_65_method_131_code 23 = .ok (.invokevirtual 50, 3) := by decide +kernel
theorem d25_26 : decode jdk_65_method_131_code 26 = .ok (.iload_n 1, 1) := by decide +kernel
theorem d25_27 : decode jdk_65_method_131_code 27 = .ok (.invokevirtual 54, 3) := by decide +kernel
theorem d25_30 : decode jdk_65_method_131_code 30 = .ok (.invokevirtual 61, 3) := by decide +kernel
theorem d25_33 : decode jdk_65_method_131_code 33 = .ok (.invokespecial 65, 3) := by decide +kernel
theorem d25_36 : decode jdk_65_method_131_code 36 = .ok (.athrow, 1) := by decide +kernel
theorem d25_37 : decode jdk_65_method_131_code 37 = .ok (.return_, 1) := by decide +kernel
theorem c_chkLen (l : Launch) (Z : State) (a0 : Array Value) (hw : ∀ d ∈ tables_1, d.before a0 Z = true) (hEW : EW Z a0 consts_1) (n0 : Nat) (c1 : Int32) (hc1 : ¬ c1 = 0) (S1 : Sta Z Z.heap "java/lang/String" "COMPACT_STRINGS" "Z" (.int c1)) (v2 : Value) (hv2 : v2.isRef = true) (S2 : Sta Z Z.heap "jdk/internal/util/Preconditions" "SIOOBE_FORMATTER" "Ljava/util/function/BiFunction;" v2) (x y : Int32) {h0 : Heap} (o1 : Old Z n0 h0) (hxy : ¬ y < x) :
    Con Z a0 l (⟨"java/util/Arrays", "checkLength", "(II)V"⟩ : MethodName) jdk_65_method_131_code 2 (none) ({ frames := 0, cells := 0, slots := 0, locals := 0 } : Room) [] #[(.int x), (.int y)] consts_1 h0 n0 [] [] (V0 fun h so => h = h0 ∧ so = []) := by
  refine Con.body (plainFor_of_name pn_java_util_Arrays) hEW o1 all0 #[.val (.int x), .val (.int y)] (fun m => by first | (simp [entryFrame, mkF, argsToLocals, Value.category]; done) | rfl) ?_
  intro p e s m below meth c B hnm hret hlk G
  replace G := G.iloadN 1 d25_0 rfl rfl |>.iloadN 2 d25_1 rfl rfl |>.icmpT 37 d25_2 (XT.ii_ge_t hxy) (by decide) (by decide)
  exact G.retV hret hlk d25_37 [] all0 ⟨rfl, rfl, rfl⟩ (nle rfl) (nle rfl)
theorem d24_0 : decode jdk_65_method_133_code 0 = .ok (.iload_n 1, 1) := by decide +kernel
theorem d24_1 : decode jdk_65_method_133_code 1 = .ok (.iload_n 2, 1) := by decide +kernel
theorem d24_2 : decode jdk_65_method_133_code 2 = .ok (.invokestatic 343, 3) := by decide +kernel
theorem d24_5 : decode jdk_65_method_133_code 5 = .ok (.iload_n 2, 1) := by decide +kernel
theorem d24_6 : decode jdk_65_method_133_code 6 = .ok (.iload_n 1, 1) := by decide +kernel
theorem d24_7 : decode jdk_65_method_133_code 7 = .ok (.isub, 1) := by decide +kernel
theorem d24_8 : decode jdk_65_method_133_code 8 = .ok (.istore_n 3, 1) := by decide +kernel
theorem d24_9 : decode jdk_65_method_133_code 9 = .ok (.iload_n 3, 1) := by decide +kernel
theorem d24_10 : decode jdk_65_method_133_code 10 = .ok (.newarray .byte, 2) := by decide +kernel
theorem d24_12 : decode jdk_65_method_133_code 12 = .ok (.astore 4, 2) := by decide +kernel
theorem d24_14 : decode jdk_65_method_133_code 14 = .ok (.aload_n 0, 1) := by decide +kernel
theorem d24_15 : decode jdk_65_method_133_code 15 = .ok (.iload_n 1, 1) := by decide +kernel
theorem d24_16 : decode jdk_65_method_133_code 16 = .ok (.aload 4, 2) := by decide +kernel
theorem d24_18 : decode jdk_65_method_133_code 18 = .ok (.iconst 0, 1) := by decide +kernel
theorem d24_19 : decode jdk_65_method_133_code 19 = .ok (.aload_n 0, 1) := by decide +kernel
theorem d24_20 : decode jdk_65_method_133_code 20 = .ok (.arraylength, 1) := by decide +kernel
theorem d24_21 : decode jdk_65_method_133_code 21 = .ok (.iload_n 1, 1) := by decide +kernel
theorem d24_22 : decode jdk_65_method_133_code 22 = .ok (.isub, 1) := by decide +kernel
theorem d24_23 : decode jdk_65_method_133_code 23 = .ok (.iload_n 3, 1) := by decide +kernel
theorem d24_24 : decode jdk_65_method_133_code 24 = .ok (.invokestatic 304, 3) := by decide +kernel
theorem d24_27 : decode jdk_65_method_133_code 27 = .ok (.invokestatic 150, 3) := by decide +kernel
theorem d24_30 : decode jdk_65_method_133_code 30 = .ok (.aload 4, 2) := by decide +kernel
theorem d24_32 : decode jdk_65_method_133_code 32 = .ok (.areturn, 1) := by decide +kernel
theorem c_corb (l : Launch) (Z : State) (a0 : Array Value) (hw : ∀ d ∈ tables_1, d.before a0 Z = true) (hEW : EW Z a0 consts_1) (n0 : Nat) (c1 : Int32) (hc1 : ¬ c1 = 0) (S1 : Sta Z Z.heap "java/lang/String" "COMPACT_STRINGS" "Z" (.int c1)) (v2 : Value) (hv2 : v2.isRef = true) (S2 : Sta Z Z.heap "jdk/internal/util/Preconditions" "SIOOBE_FORMATTER" "Ljava/util/function/BiFunction;" v2) (b : Addr) (kb : ClassId) (cap : Nat) (bs : List Value) {h0 : Heap} (o1 : Old Z n0 h0) (hlt : bs.length < cap) (hcap : cap < 2147483648) (hmax : bs.length ≤ 16) (Ab : Arv Z h0 b kb .byte (Int32.ofNat cap) bs (.int 0)) :
    Con Z a0 l (⟨"java/util/Arrays", "copyOfRangeByte", "([BII)[B"⟩ : MethodName) jdk_65_method_133_code 5 (some (.array .byte)) ({ frames := 1, cells := 1, slots := 16, locals := 41 } : Room) [] #[(.ref b), (.int (0 : Int32)), (.int (Int32.ofNat bs.length))] consts_1 h0 n0 [] [] (VV fun w h so => ∃ n, w = .ref n ∧ (∃ k, Arv Z h n k .byte (Int32.ofNat bs.length) bs (.int 0)) ∧ h0.size ≤ n ∧ so = [n]) := by
  refine Con.body (plainFor_of_name pn_java_util_Arrays) hEW o1 all0 #[.val (.ref b), .val (.int (0 : Int32)), .val (.int (Int32.ofNat bs.length)), .unset, .unset] (fun m => by first | (simp [entryFrame, mkF, argsToLocals, Value.category]; done) | rfl) ?_
  intro p e s m below meth c B hnm hret hlk G
  have m1 : cap < 2147483648 := hcap
  have m2 : bs.length < 2147483648 := by omega
  replace G := G.iloadN 1 d24_0 rfl rfl |>.iloadN 2 d24_1 rfl rfl
  obtain ⟨vk, h_k, sok, G', Kk, Qk⟩ := G.callS 5 (hw _ (mm 136 rfl)) (hw _ (mm 137 rfl)) (hw _ (mm 131 rfl)) (hw _ (mm 138 rfl)) (by decide) [(.int (0 : Int32)), (.int (Int32.ofNat bs.length))] [] rfl (c_chkLen l Z a0 hw hEW n0 c1 hc1 S1 v2 hv2 S2 0 (Int32.ofNat bs.length) G.old (ofn_nn m2)) (lenOf pd__II_V rfl) d24_2 rfl (nle rfl) (nle rfl) (nle rfl) (nle rfl) all0 all0 all0 rfl
  replace G := G'; clear G'
  obtain ⟨qk, ek, rfl⟩ := Qk
  replace G := G.nov qk
  subst ek
  replace G := G.iloadN 6 d24_5 rfl rfl |>.iloadN 7 d24_6 rfl rfl |>.isub 8 d24_7 rfl |>.top (y := (.int (Int32.ofNat bs.length))) (congrArg Value.int (sub0 _)) |>.istoreN 9 #[.val (.ref b), .val (.int (0 : Int32)), .val (.int (Int32.ofNat bs.length)), .val (.int (Int32.ofNat bs.length)), .unset] d24_8 rfl rfl |>.iloadN 10 d24_9 rfl rfl
  obtain ⟨n, h1, kn, G', gn, sn, En, An⟩ := G.newarray 12 (hw _ (mm 19 rfl)) d24_10 (ofn_nn m2) 16 (by rw [ofn_nat m2]; exact hmax) (by decide) rfl (nle rfl) (nle rfl)
  replace G := G'; clear G'
  replace Ab := Ab.ext En
  replace G := G.astore 14 #[.val (.ref b), .val (.int (0 : Int32)), .val (.int (Int32.ofNat bs.length)), .val (.int (Int32.ofNat bs.length)), .val (.ref n)] d24_12 rfl rfl rfl |>.aloadN 15 d24_14 rfl rfl rfl |>.iloadN 16 d24_15 rfl rfl |>.aload 18 d24_16 rfl rfl rfl |>.iconst 19 (0 : Int32) d24_18 rfl rfl |>.aloadN 20 d24_19 rfl rfl rfl |>.alen 21 Ab d24_20 rfl |>.iloadN 22 d24_21 rfl rfl
  replace G := G.isub 23 d24_22 rfl |>.top (y := (.int (Int32.ofNat cap))) (congrArg Value.int (sub0 _)) |>.iloadN 24 d24_23 rfl rfl
  obtain ⟨vm, h_m, som, G', Km, Qm⟩ := G.callS 27 (hw _ (mm 139 rfl)) (hw _ (mm 140 rfl)) (hw _ (mm 141 rfl)) (hw _ (mm 142 rfl)) (by decide) [(.int (Int32.ofNat cap)), (.int (Int32.ofNat bs.length))] [(.int (0 : Int32)), (.ref n), (.int (0 : Int32)), (.ref b)] rfl (c_minR l Z a0 hw hEW n0 c1 hc1 S1 v2 hv2 S2 (Int32.ofNat cap) (Int32.ofNat bs.length) G.old (ofn_lt hlt hcap)) (lenOf pd__II_I rfl) d24_24 rfl (nle rfl) (nle rfl) (nle rfl) (nle rfl) all0 all0 all0 rfl
  replace G := G'; clear G'
  obtain ⟨wm, qm, rfl, em, rfl⟩ := Qm
  replace G := G.val qm
  subst em
  have An' := An.pad (vs' := [] ++ List.replicate bs.length (.int 0)) (pad_rep [] (.int 0) bs.length)
  obtain ⟨h2, G', Ap, Kp⟩ := G.cpy 30 (hw _ (mm 143 rfl)) (hw _ (mm 97 rfl)) (hw _ (mm 95 rfl)) (hw _ (mm 96 rfl)) Ab An' rfl (by decide) (by decide) (ofn_nn m2) (by rw [ofn_nat m2, ofn_nat hcap, show (0 : Int32).toNatClampNeg = 0 from rfl]; omega) (by rw [ofn_nat m2, show (0 : Int32).toNatClampNeg = 0 from rfl]; omega) (by rw [ofn_nat m2, show (0 : Int32).toNatClampNeg = 0 from rfl]; simp) (Or.inr sn) (mm 0 rfl) d24_27 rfl (nle rfl) (nle rfl) rfl
  replace G := G'; clear G'
  rw [ofn_nat m2, show (0 : Int32).toNatClampNeg = 0 from rfl] at Ap
  replace Ap := (cpy_res [] bs (.int 0)) ▸ Ap
  replace G := G.aload 32 d24_30 rfl rfl rfl
  exact G.retA hret rfl rfl hlk d24_32 [n] (allS (mm 0 rfl) all0) ⟨_, rfl, n, rfl, ⟨kn, Ap⟩, sn, rfl⟩ (nle rfl) (nle rfl)
theorem d23_0 : decode jdk_65_method_132_code 0 = .ok (.iload_n 1, 1) := by decide +kernel
theorem d23_1 : decode jdk_65_method_132_code 1 = .ok (.ifCond .ne 9, 3) := by decide +kernel
theorem d23_4 : decode jdk_65_method_132_code 4 = .ok (.iload_n 2, 1) := by decide +kernel
theorem d23_5 : decode jdk_65_method_132_code 5 = .ok (.aload_n 0, 1) := by decide +kernel
theorem d23_6 : decode jdk_65_method_132_code 6 = .ok (.arraylength, 1) := by decide +kernel
theorem d23_7 : decode jdk_65_method_132_code 7 = .ok (.if_icmp .eq 10, 3) := by decide +kernel
theorem d23_10 : decode jdk_65_method_132_code 10 = .ok (.aload_n 0, 1) := by decide +kernel
theorem d23_11 : decode jdk_65_method_132_code 11 = .ok (.iload_n 1, 1) := by decide +kernel
theorem d23_12 : decode jdk_65_method_132_code 12 = .ok (.iload_n 2, 1) := by decide +kernel
theorem d23_13 : decode jdk_65_method_132_code 13 = .ok (.invokestatic 339, 3) := by decide +kernel
theorem d23_16 : decode jdk_65_method_132_code 16 = .ok (.areturn, 1) := by decide +kernel
theorem d23_17 : decode jdk_65_method_132_code 17 = .ok (.aload_n 0, 1) := by decide +kernel
theorem d23_18 : decode jdk_65_method_132_code 18 = .ok (.invokevirtual 310, 3) := by decide +kernel
theorem d23_21 : decode jdk_65_method_132_code 21 = .ok (.checkcast 311, 3) := by decide +kernel
theorem d23_24 : decode jdk_65_method_132_code 24 = .ok (.areturn, 1) := by decide +kernel
theorem c_cor (l : Launch) (Z : State) (a0 : Array Value) (hw : ∀ d ∈ tables_1, d.before a0 Z = true) (hEW : EW Z a0 consts_1) (n0 : Nat) (c1 : Int32) (hc1 : ¬ c1 = 0) (S1 : Sta Z Z.heap "java/lang/String" "COMPACT_STRINGS" "Z" (.int c1)) (v2 : Value) (hv2 : v2.isRef = true) (S2 : Sta Z Z.heap "jdk/internal/util/Preconditions" "SIOOBE_FORMATTER" "Ljava/util/function/BiFunction;" v2) (b : Addr) (kb : ClassId) (cap : Nat) (bs : List Value) {h0 : Heap} (o1 : Old Z n0 h0) (hlt : bs.length < cap) (hcap : cap < 2147483648) (hmax : bs.length ≤ 16) (Ab : Arv Z h0 b kb .byte (Int32.ofNat cap) bs (.int 0)) :
    Con Z a0 l (⟨"java/util/Arrays", "copyOfRange", "([BII)[B"⟩ : MethodName) jdk_65_method_132_code 3 (some (.array .byte)) ({ frames := 2, cells := 1, slots := 16, locals := 57 } : Room) [] #[(.ref b), (.int (0 : Int32)), (.int (Int32.ofNat bs.length))] consts_1 h0 n0 [] [] (VV fun w h so => ∃ n, w = .ref n ∧ (∃ k, Arv Z h n k .byte (Int32.ofNat bs.length) bs (.int 0)) ∧ h0.size ≤ n ∧ so = [n]) := by
  refine Con.body (plainFor_of_name pn_java_util_Arrays) hEW o1 all0 #[.val (.ref b), .val (.int (0 : Int32)), .val (.int (Int32.ofNat bs.length))] (fun m => by first | (simp [entryFrame, mkF, argsToLocals, Value.category]; done) | rfl) ?_
  intro p e s m below meth c B hnm hret hlk G
  replace G := G.iloadN 1 d23_0 rfl rfl |>.ifF 4 d23_1 (XT.i0_ne_f rfl) rfl |>.iloadN 5 d23_4 rfl rfl |>.aloadN 6 d23_5 rfl rfl rfl |>.alen 7 Ab d23_6 rfl |>.icmpF 10 d23_7 (XT.ii_eq_f (ofn_ne (by omega) (by omega) hcap)) rfl |>.aloadN 11 d23_10 rfl rfl rfl |>.iloadN 12 d23_11 rfl rfl
  replace G := G.iloadN 13 d23_12 rfl rfl
  obtain ⟨vc, h1, soc, G', Kc, Qc⟩ := G.callS 16 (hw _ (mm 133 rfl)) (hw _ (mm 134 rfl)) (hw _ (mm 131 rfl)) (hw _ (mm 135 rfl)) (by decide) [(.ref b), (.int (0 : Int32)), (.int (Int32.ofNat bs.length))] [] rfl (c_corb l Z a0 hw hEW n0 c1 hc1 S1 v2 hv2 S2 b kb cap bs G.old hlt hcap hmax Ab) (lenOf pd___BII__B rfl) d23_13 rfl (nle rfl) (nle rfl) (nle rfl) (nle rfl) all0 all0 all0 rfl
  replace G := G'; clear G'
  obtain ⟨wc, qc, n, rfl, hA, sn, rfl⟩ := Qc
  replace G := G.val qc
  exact G.retA hret rfl rfl hlk d23_16 [n] (allS (mm 0 rfl) all0) ⟨_, rfl, n, rfl, hA, sn, rfl⟩ (nle rfl) (nle rfl)
theorem d19_0 : decode jdk_68_method_64_code 0 = .ok (.aload_n 0, 1) := by decide +kernel
theorem d19_1 : decode jdk_68_method_64_code 1 = .ok (.getfield 15, 3) := by decide +kernel
theorem d19_4 : decode jdk_68_method_64_code 4 = .ok (.areturn, 1) := by decide +kernel
theorem c_getVal (l : Launch) (Z : State) (a0 : Array Value) (hw : ∀ d ∈ tables_1, d.before a0 Z = true) (hEW : EW Z a0 consts_1) (n0 : Nat) (c1 : Int32) (hc1 : ¬ c1 = 0) (S1 : Sta Z Z.heap "java/lang/String" "COMPACT_STRINGS" "Z" (.int c1)) (v2 : Value) (hv2 : v2.isRef = true) (S2 : Sta Z Z.heap "jdk/internal/util/Preconditions" "SIOOBE_FORMATTER" "Ljava/util/function/BiFunction;" v2) (a b : Addr) (cap : Nat) (bs : List Value) {h0 : Heap} (o1 : Old Z n0 h0) (hS : Sbd Z h0 a b cap bs) :
    Con Z a0 l (⟨"java/lang/AbstractStringBuilder", "getValue", "()[B"⟩ : MethodName) jdk_68_method_64_code 1 (some (.array .byte)) ({ frames := 0, cells := 0, slots := 0, locals := 0 } : Room) [] #[(.ref a)] consts_1 h0 n0 [] [] (VV fun w h so => w = .ref b ∧ h = h0 ∧ so = []) := by
  refine Con.body (plainFor_of_name pn_java_lang_AbstractStringBuilder) hEW o1 all0 #[.val (.ref a)] (fun m => by first | (simp [entryFrame, mkF, argsToLocals, Value.category]; done) | rfl) ?_
  intro p e s m below meth c B hnm hret hlk G
  replace G := G.aloadN 1 d19_0 rfl rfl rfl |>.getf 4 (host := "") (Or.inl (hw _ (mm 46 rfl))) Via.refl hS.2.1 d19_1 rfl
  exact G.retA hret rfl rfl hlk d19_4 [] all0 ⟨_, rfl, rfl, rfl, rfl⟩ (nle rfl) (nle rfl)
theorem d21_0 : decode jdk_68_method_6_code 0 = .ok (.aload_n 0, 1) := by decide +kernel
theorem d21_1 : decode jdk_68_method_6_code 1 = .ok (.getfield 79, 3) := by decide +kernel
theorem d21_4 : decode jdk_68_method_6_code 4 = .ok (.ireturn, 1) := by decide +kernel
theorem c_asbLen (l : Launch) (Z : State) (a0 : Array Value) (hw : ∀ d ∈ tables_1, d.before a0 Z = true) (hEW : EW Z a0 consts_1) (n0 : Nat) (c1 : Int32) (hc1 : ¬ c1 = 0) (S1 : Sta Z Z.heap "java/lang/String" "COMPACT_STRINGS" "Z" (.int c1)) (v2 : Value) (hv2 : v2.isRef = true) (S2 : Sta Z Z.heap "jdk/internal/util/Preconditions" "SIOOBE_FORMATTER" "Ljava/util/function/BiFunction;" v2) (a b : Addr) (cap : Nat) (bs : List Value) {h0 : Heap} (o1 : Old Z n0 h0) (hS : Sbd Z h0 a b cap bs) :
    Con Z a0 l (⟨"java/lang/AbstractStringBuilder", "length", "()I"⟩ : MethodName) jdk_68_method_6_code 1 (some .int) ({ frames := 0, cells := 0, slots := 0, locals := 0 } : Room) [] #[(.ref a)] consts_1 h0 n0 [] [] (VV fun w h so => w = .int (Int32.ofNat bs.length) ∧ h = h0 ∧ so = []) := by
  refine Con.body (plainFor_of_name pn_java_lang_AbstractStringBuilder) hEW o1 all0 #[.val (.ref a)] (fun m => by first | (simp [entryFrame, mkF, argsToLocals, Value.category]; done) | rfl) ?_
  intro p e s m below meth c B hnm hret hlk G
  replace G := G.aloadN 1 d21_0 rfl rfl rfl |>.getf 4 (host := "") (Or.inl (hw _ (mm 71 rfl))) Via.refl hS.2.2.2.1 d21_1 rfl
  exact G.retI hret hlk d21_4 [] all0 ⟨_, rfl, rfl, rfl, rfl⟩ (nle rfl) (nle rfl)
theorem d20_0 : decode jdk_67_method_93_code 0 = .ok (.aload_n 0, 1) := by decide +kernel
theorem d20_1 : decode jdk_67_method_93_code 1 = .ok (.invokespecial 343, 3) := by decide +kernel
theorem d20_4 : decode jdk_67_method_93_code 4 = .ok (.ireturn, 1) := by decide +kernel
theorem c_sbLen (l : Launch) (Z : State) (a0 : Array Value) (hw : ∀ d ∈ tables_1, d.before a0 Z = true) (hEW : EW Z a0 consts_1) (n0 : Nat) (c1 : Int32) (hc1 : ¬ c1 = 0) (S1 : Sta Z Z.heap "java/lang/String" "COMPACT_STRINGS" "Z" (.int c1)) (v2 : Value) (hv2 : v2.isRef = true) (S2 : Sta Z Z.heap "jdk/internal/util/Preconditions" "SIOOBE_FORMATTER" "Ljava/util/function/BiFunction;" v2) (a b : Addr) (cap : Nat) (bs : List Value) {h0 : Heap} (o1 : Old Z n0 h0) (hS : Sbd Z h0 a b cap bs) :
    Con Z a0 l (⟨"java/lang/StringBuilder", "length", "()I"⟩ : MethodName) jdk_67_method_93_code 1 (some .int) ({ frames := 1, cells := 0, slots := 0, locals := 12 } : Room) [] #[(.ref a)] consts_1 h0 n0 [] [] (VV fun w h so => w = .int (Int32.ofNat bs.length) ∧ h = h0 ∧ so = []) := by
  refine Con.body (plainFor_of_name pn_java_lang_StringBuilder) hEW o1 all0 #[.val (.ref a)] (fun m => by first | (simp [entryFrame, mkF, argsToLocals, Value.category]; done) | rfl) ?_
  intro p e s m below meth c B hnm hret hlk G
  replace G := G.aloadN 1 d20_0 rfl rfl rfl
  obtain ⟨vl, h_l, sol, G', Kl, Ql⟩ := G.callSup 4 (hw _ (mm 122 rfl)) (sameOf (hw _ (mm 118 rfl)) (nfVia (y := (⟨"java/lang/AbstractStringBuilder", "ensureCapacityInternal", "(I)V"⟩ : MethodName)) rfl (hw _ (mm 76 rfl)) (hw _ (mm 74 rfl))) (by decide)) (hw _ (mm 118 rfl)) (hw _ (mm 57 rfl)) (by decide) (hw _ (mm 42 rfl)) (hw _ (mm 123 rfl)) (Ins.self hS.1) [] [] rfl (c_asbLen l Z a0 hw hEW n0 c1 hc1 S1 v2 hv2 S2 a b cap bs G.old hS) (lenOf pd___I rfl) d20_1 rfl (nle rfl) (nle rfl) (nle rfl) (nle rfl) all0 all0 all0 rfl
  replace G := G'; clear G'
  obtain ⟨wl, ql, rfl, el, rfl⟩ := Ql
  replace G := G.val ql
  subst el
  exact G.retI hret hlk d20_4 [] all0 ⟨_, rfl, rfl, rfl, rfl⟩ (nle rfl) (nle rfl)
theorem d22_0 : decode jdk_68_method_68_code 0 = .ok (.getstatic 18, 3) := by decide +kernel
theorem d22_3 : decode jdk_68_method_68_code 3 = .ok (.ifCond .eq 14, 3) := by decide +kernel
theorem d22_6 : decode jdk_68_method_68_code 6 = .ok (.aload_n 0, 1) := by decide +kernel
theorem d22_7 : decode jdk_68_method_68_code 7 = .ok (.getfield 22, 3) := by decide +kernel
theorem d22_10 : decode jdk_68_method_68_code 10 = .ok (.ifCond .ne 7, 3) := by decide +kernel
theorem d22_13 : decode jdk_68_method_68_code 13 = .ok (.iconst 1, 1) := by decide +kernel
theorem d22_14 : decode jdk_68_method_68_code 14 = .ok (.goto 4, 3) := by decide +kernel
theorem d22_17 : decode jdk_68_method_68_code 17 = .ok (.iconst 0, 1) := by decide +kernel
theorem d22_18 : decode jdk_68_method_68_code 18 = .ok (.ireturn, 1) := by decide +kernel
theorem c_isL1 (l : Launch) (Z : State) (a0 : Array Value) (hw : ∀ d ∈ tables_1, d.before a0 Z = true) (hEW : EW Z a0 consts_1) (n0 : Nat) (c1 : Int32) (hc1 : ¬ c1 = 0) (S1 : Sta Z Z.heap "java/lang/String" "COMPACT_STRINGS" "Z" (.int c1)) (v2 : Value) (hv2 : v2.isRef = true) (S2 : Sta Z Z.heap "jdk/internal/util/Preconditions" "SIOOBE_FORMATTER" "Ljava/util/function/BiFunction;" v2) (a b : Addr) (cap : Nat) (bs : List Value) {h0 : Heap} (o1 : Old Z n0 h0) (hS : Sbd Z h0 a b cap bs) :
    Con Z a0 l (⟨"java/lang/AbstractStringBuilder", "isLatin1", "()Z"⟩ : MethodName) jdk_68_method_68_code 1 (some .boolean) ({ frames := 0, cells := 0, slots := 0, locals := 0 } : Room) [] #[(.ref a)] consts_1 h0 n0 [] [] (VV fun w h so => w = .int 1 ∧ h = h0 ∧ so = []) := by
  refine Con.body (plainFor_of_name pn_java_lang_AbstractStringBuilder) hEW o1 all0 #[.val (.ref a)] (fun m => by first | (simp [entryFrame, mkF, argsToLocals, Value.category]; done) | rfl) ?_
  intro p e s m below meth c B hnm hret hlk G
  replace G := G.gets 3 (host := "") (Or.inl (hw _ (mm 45 rfl))) Via.refl (G.sta S1) d22_0 rfl |>.ifF 6 d22_3 (XT.i0_eq_f hc1) rfl |>.aloadN 7 d22_6 rfl rfl rfl |>.getf 10 (host := "") (Or.inl (hw _ (mm 48 rfl))) Via.refl hS.2.2.1 d22_7 rfl |>.ifF 13 d22_10 (XT.i0_ne_f rfl) rfl |>.iconst 14 (1 : Int32) d22_13 rfl rfl |>.goto 18 d22_14 (by decide) (by decide)
  exact G.retN hret (Or.inl rfl) hlk d22_18 [] all0 ⟨_, rfl, rfl, rfl, rfl⟩ (nle rfl) (nle rfl)
theorem d18_0 : decode jdk_42_method_150_code 0 = .ok (.aload_n 0, 1) := by decide +kernel
theorem d18_1 : decode jdk_42_method_150_code 1 = .ok (.invokespecial 1, 3) := by decide +kernel
theorem d18_4 : decode jdk_42_method_150_code 4 = .ok (.aload_n 1, 1) := by decide +kernel
theorem d18_5 : decode jdk_42_method_150_code 5 = .ok (.invokevirtual 552, 3) := by decide +kernel
theorem d18_8 : decode jdk_42_method_150_code 8 = .ok (.astore_n 3, 1) := by decide +kernel
theorem d18_9 : decode jdk_42_method_150_code 9 = .ok (.aload_n 1, 1) := by decide +kernel
theorem d18_10 : decode jdk_42_method_150_code 10 = .ok (.invokevirtual 549, 3) := by decide +kernel
theorem d18_13 : decode jdk_42_method_150_code 13 = .ok (.istore 4, 2) := by decide +kernel
theorem d18_15 : decode jdk_42_method_150_code 15 = .ok (.aload_n 1, 1) := by decide +kernel
theorem d18_16 : decode jdk_42_method_150_code 16 = .ok (.invokevirtual 1047, 3) := by decide +kernel
theorem d18_19 : decode jdk_42_method_150_code 19 = .ok (.ifCond .eq 22, 3) := by decide +kernel
theorem d18_22 : decode jdk_42_method_150_code 22 = .ok (.aload_n 0, 1) := by decide +kernel
theorem d18_23 : decode jdk_42_method_150_code 23 = .ok (.iconst 0, 1) := by decide +kernel
theorem d18_24 : decode jdk_42_method_150_code 24 = .ok (.putfield 15, 3) := by decide +kernel
theorem d18_27 : decode jdk_42_method_150_code 27 = .ok (.aload_n 0, 1) := by decide +kernel
theorem d18_28 : decode jdk_42_method_150_code 28 = .ok (.aload_n 3, 1) := by decide +kernel
theorem d18_29 : decode jdk_42_method_150_code 29 = .ok (.iconst 0, 1) := by decide +kernel
theorem d18_30 : decode jdk_42_method_150_code 30 = .ok (.iload 4, 2) := by decide +kernel
theorem d18_32 : decode jdk_42_method_150_code 32 = .ok (.invokestatic 54, 3) := by decide +kernel
theorem d18_35 : decode jdk_42_method_150_code 35 = .ok (.putfield 9, 3) := by decide +kernel
theorem d18_38 : decode jdk_42_method_150_code 38 = .ok (.goto 59, 3) := by decide +kernel
theorem d18_41 : decode jdk_42_method_150_code 41 = .ok (.getstatic 38, 3) := by decide +kernel
theorem d18_44 : decode jdk_42_method_150_code 44 = .ok (.ifCond .eq 35, 3) := by decide +kernel
theorem d18_47 : decode jdk_42_method_150_code 47 = .ok (.aload_n 1, 1) := by decide +kernel
theorem d18_48 : decode jdk_42_method_150_code 48 = .ok (.getfield 1048, 3) := by decide +kernel
theorem d18_51 : decode jdk_42_method_150_code 51 = .ok (.ifCond .eq 28, 3) := by decide +kernel
theorem d18_54 : decode jdk_42_method_150_code 54 = .ok (.aload_n 0, 1) := by decide +kernel
theorem d18_55 : decode jdk_42_method_150_code 55 = .ok (.aload_n 3, 1) := by decide +kernel
theorem d18_56 : decode jdk_42_method_150_code 56 = .ok (.iconst 0, 1) := by decide +kernel
theorem d18_57 : decode jdk_42_method_150_code 57 = .ok (.iload 4, 2) := by decide +kernel
theorem d18_59 : decode jdk_42_method_150_code 59 = .ok (.invokestatic 1051, 3) := by decide +kernel
theorem d18_62 : decode jdk_42_method_150_code 62 = .ok (.putfield 9, 3) := by decide +kernel
theorem d18_65 : decode jdk_42_method_150_code 65 = .ok (.aload_n 0, 1) := by decide +kernel
theorem d18_66 : decode jdk_42_method_150_code 66 = .ok (.aload_n 0, 1) := by decide +kernel
theorem d18_67 : decode jdk_42_method_150_code 67 = .ok (.getfield 9, 3) := by decide +kernel
theorem d18_70 : decode jdk_42_method_150_code 70 = .ok (.iload 4, 2) := by decide +kernel
theorem d18_72 : decode jdk_42_method_150_code 72 = .ok (.invokestatic 47, 3) := by decide +kernel
theorem d18_75 : decode jdk_42_method_150_code 75 = .ok (.putfield 15, 3) := by decide +kernel
theorem d18_78 : decode jdk_42_method_150_code 78 = .ok (.return_, 1) := by decide +kernel
theorem d18_79 : decode jdk_42_method_150_code 79 = .ok (.aload_n 0, 1) := by decide +kernel
theorem d18_80 : decode jdk_42_method_150_code 80 = .ok (.iconst 1, 1) := by decide +kernel
theorem d18_81 : decode jdk_42_method_150_code 81 = .ok (.putfield 15, 3) := by decide +kernel
theorem d18_84 : decode jdk_42_method_150_code 84 = .ok (.aload_n 0, 1) := by decide +kernel
theorem d18_85 : decode jdk_42_method_150_code 85 = .ok (.aload_n 3, 1) := by decide +kernel
theorem d18_86 : decode jdk_42_method_150_code 86 = .ok (.iconst 0, 1) := by decide +kernel
theorem d18_87 : decode jdk_42_method_150_code 87 = .ok (.iload 4, 2) := by decide +kernel
theorem d18_89 : decode jdk_42_method_150_code 89 = .ok (.iconst 1, 1) := by decide +kernel
theorem d18_90 : decode jdk_42_method_150_code 90 = .ok (.ishl, 1) := by decide +kernel
theorem d18_91 : decode jdk_42_method_150_code 91 = .ok (.invokestatic 54, 3) := by decide +kernel
theorem d18_94 : decode jdk_42_method_150_code 94 = .ok (.putfield 9, 3) := by decide +kernel
theorem d18_97 : decode jdk_42_method_150_code 97 = .ok (.return_, 1) := by decide +kernel
theorem c_strASB (l : Launch) (Z : State) (a0 : Array Value) (hw : ∀ d ∈ tables_1, d.before a0 Z = true) (hEW : EW Z a0 consts_1) (n0 : Nat) (c1 : Int32) (hc1 : ¬ c1 = 0) (S1 : Sta Z Z.heap "java/lang/String" "COMPACT_STRINGS" "Z" (.int c1)) (v2 : Value) (hv2 : v2.isRef = true) (S2 : Sta Z Z.heap "jdk/internal/util/Preconditions" "SIOOBE_FORMATTER" "Ljava/util/function/BiFunction;" v2) (s2 a b : Addr) (cap : Nat) (bs : List Value) {h0 : Heap} (o1 : Old Z n0 h0) (ge_s2 : n0 ≤ s2) (hlt : bs.length < cap) (hcap : cap < 2147483648) (hmax : bs.length ≤ 16) (Xs : Exa Z h0 s2 "java/lang/String") (Fv : Fld Z h0 s2 "java/lang/String" "value" "[B" .null) (Fc : Fld Z h0 s2 "java/lang/String" "coder" "B" (.int 0)) (hS : Sbd Z h0 a b cap bs) :
    Con Z a0 l (⟨"java/lang/String", "<init>", "(Ljava/lang/AbstractStringBuilder;Ljava/lang/Void;)V"⟩ : MethodName) jdk_42_method_150_code 5 (none) ({ frames := 3, cells := 1, slots := 16, locals := 72 } : Room) [] #[(.ref s2), (.ref a), .null] consts_1 h0 n0 [s2] [s2] (V0 fun h so => ∃ n, Str Z h s2 n bs ∧ h0.size ≤ n ∧ so = [n]) := by
  refine Con.body (plainFor_of_name pn_java_lang_String) hEW o1 (allS ge_s2 all0) #[.val (.ref s2), .val (.ref a), .val .null, .unset, .unset] (fun m => by first | (simp [entryFrame, mkF, argsToLocals, Value.category]; done) | rfl) ?_
  intro p e s m below meth c B hnm hret hlk G
  replace G := G.aloadN 1 d18_0 rfl rfl rfl |>.initO 4 (hw _ (mm 15 rfl)) (hw _ (mm 16 rfl)) (hw _ (mm 17 rfl)) d18_1 rfl (nle rfl) (nle rfl) rfl |>.aloadN 5 d18_4 rfl rfl rfl
  obtain ⟨vy1, h_1, soy1, G', Ky1, Qy1⟩ := G.callV 8 (hw _ (mm 111 rfl)) (hw _ (mm 112 rfl)) (nfSel (hw _ (mm 114 rfl))) (hw _ (mm 114 rfl)) (hw _ (mm 113 rfl)) (hw _ (mm 42 rfl)) (hw _ (mm 115 rfl)) hS.1 (by decide) [] [] rfl (c_getVal l Z a0 hw hEW n0 c1 hc1 S1 v2 hv2 S2 a b cap bs G.old hS) (lenOf pd____B rfl) d18_5 rfl (nle rfl) (nle rfl) (nle rfl) (nle rfl) all0 all0 all0 rfl
  replace G := G'; clear G'
  obtain ⟨wy1, qy1, rfl, ey1, rfl⟩ := Qy1
  replace G := G.val qy1
  subst ey1
  replace G := G.astoreN 9 #[.val (.ref s2), .val (.ref a), .val .null, .val (.ref b), .unset] d18_8 rfl rfl rfl |>.aloadN 10 d18_9 rfl rfl rfl
  obtain ⟨vy2, h_2, soy2, G', Ky2, Qy2⟩ := G.callV 13 (hw _ (mm 116 rfl)) (hw _ (mm 117 rfl)) (nfVia (y := (⟨"java/lang/AbstractStringBuilder", "ensureCapacityInternal", "(I)V"⟩ : MethodName)) rfl (hw _ (mm 76 rfl)) (hw _ (mm 74 rfl))) (hw _ (mm 119 rfl)) (hw _ (mm 120 rfl)) (hw _ (mm 34 rfl)) (hw _ (mm 121 rfl)) hS.1 (by decide) [] [] rfl (c_sbLen l Z a0 hw hEW n0 c1 hc1 S1 v2 hv2 S2 a b cap bs G.old hS) (lenOf pd___I rfl) d18_10 rfl (nle rfl) (nle rfl) (nle rfl) (nle rfl) all0 all0 all0 rfl
  replace G := G'; clear G'
  obtain ⟨wy2, qy2, rfl, ey2, rfl⟩ := Qy2
  replace G := G.val qy2
  subst ey2
  replace G := G.istore 15 #[.val (.ref s2), .val (.ref a), .val .null, .val (.ref b), .val (.int (Int32.ofNat bs.length))] d18_13 rfl rfl |>.aloadN 16 d18_15 rfl rfl rfl
  obtain ⟨vy3, h_3, soy3, G', Ky3, Qy3⟩ := G.callV 19 (hw _ (mm 124 rfl)) (hw _ (mm 125 rfl)) (nfSel (hw _ (mm 127 rfl))) (hw _ (mm 127 rfl)) (hw _ (mm 126 rfl)) (hw _ (mm 42 rfl)) (hw _ (mm 128 rfl)) hS.1 (by decide) [] [] rfl (c_isL1 l Z a0 hw hEW n0 c1 hc1 S1 v2 hv2 S2 a b cap bs G.old hS) (lenOf pd___Z rfl) d18_16 rfl (nle rfl) (nle rfl) (nle rfl) (nle rfl) all0 all0 all0 rfl
  replace G := G'; clear G'
  obtain ⟨wy3, qy3, rfl, ey3, rfl⟩ := Qy3
  replace G := G.val qy3
  subst ey3
  replace G := G.ifF 22 d18_19 (XT.i0_eq_f (by decide)) rfl |>.aloadN 23 d18_22 rfl rfl rfl |>.iconst 24 (0 : Int32) d18_23 rfl rfl
  have nas : s2 ≠ a := fun q => by subst q; exact absurd rfl (ne_exa Xs hS.1 (by decide))
  have nbs : s2 ≠ b := by obtain ⟨-, -, -, -, kb, Ab⟩ := hS; exact ne_arr Xs (hw _ (mm 5 rfl)) Ab.choose_spec.1
  obtain ⟨h1, G', Wc, Fc, Kc⟩ := G.putf 27 (host := "") (Or.inl (hw _ (mm 25 rfl))) Via.refl Fc Xs (Or.inr ⟨(hw _ (mm 21 rfl)), rfl, hnm⟩) (hw _ (mm 5 rfl)) (ty := .byte) (by decide) rfl rfl (Or.inl (mm 0 rfl)) (mm 0 rfl) d18_24 rfl
  replace G := G'; clear G'
  replace Fv := Fv.other Wc (Or.inr (slot_ne (Or.inr (hw _ (mm 20 rfl))) (Or.inr (hw _ (mm 21 rfl))) (by decide) (t := (.array .byte)) (t' := .byte) (by decide) (by decide)))
  replace Xs := Xs.wr Wc; replace hS := hS.keep Kc (ninS nas.symm nin0) (ninS nbs.symm nin0)
  obtain ⟨kb, Ab⟩ := hS.2.2.2.2
  replace G := G.aloadN 28 d18_27 rfl rfl rfl |>.aloadN 29 d18_28 rfl rfl rfl |>.iconst 30 (0 : Int32) d18_29 rfl rfl |>.iload 32 d18_30 rfl rfl
  obtain ⟨vr, h2, sor, G', Kr, Qr⟩ := G.callS 35 (hw _ (mm 129 rfl)) (hw _ (mm 130 rfl)) (hw _ (mm 131 rfl)) (hw _ (mm 132 rfl)) (by decide) [(.ref b), (.int (0 : Int32)), (.int (Int32.ofNat bs.length))] [(.ref s2)] rfl (c_cor l Z a0 hw hEW n0 c1 hc1 S1 v2 hv2 S2 b kb cap bs G.old hlt hcap hmax Ab) (lenOf pd___BII__B rfl) d18_32 rfl (nle rfl) (nle rfl) (nle rfl) (nle rfl) all0 all0 all0 rfl
  replace G := G'; clear G'
  obtain ⟨wr, qr, n, rfl, ⟨kn, An⟩, sn, rfl⟩ := Qr
  replace G := G.val qr
  have nsn : s2 ≠ n := (ne_ge Xs.lt sn).symm
  replace Xs := Xs.keep Kr; replace Fv := Fv.keep Kr nin0; replace Fc := Fc.keep Kr nin0
  obtain ⟨h3, G', Wv, Fv, Kv⟩ := G.putf 38 (host := "") (Or.inl (hw _ (mm 24 rfl))) Via.refl Fv Xs (Or.inr ⟨(hw _ (mm 20 rfl)), rfl, hnm⟩) (hw _ (mm 5 rfl)) (ty := (.array .byte)) (by decide) rfl rfl (Or.inl (mm 0 rfl)) (mm 1 rfl) d18_35 rfl
  replace G := G'; clear G'
  replace Fc := Fc.other Wv (Or.inr (slot_ne (Or.inr (hw _ (mm 21 rfl))) (Or.inr (hw _ (mm 20 rfl))) (by decide) (t := .byte) (t' := (.array .byte)) (by decide) (by decide)))
  replace Xs := Xs.wr Wv; replace An := An.keep Kv (ninS nsn.symm nin0)
  replace G := G.goto 97 d18_38 (by decide) (by decide)
  exact G.retV hret hlk d18_97 [n] (allS (mm 0 rfl) all0) ⟨rfl, n, ⟨Xs, Fc, Fv, kn, An⟩, Nat.le_trans Kc.1 sn, rfl⟩ (nle rfl) (nle rfl)
theorem d17_0 : decode jdk_42_method_53_code 0 = .ok (.aload_n 0, 1) := by decide +kernel
theorem d17_1 : decode jdk_42_method_53_code 1 = .ok (.aload_n 1, 1) := by decide +kernel
theorem d17_2 : decode jdk_42_method_53_code 2 = .ok (.aconst_null, 1) := by decide +kernel
theorem d17_3 : decode jdk_42_method_53_code 3 = .ok (.invokespecial 489, 3) := by decide +kernel
theorem d17_6 : decode jdk_42_method_53_code 6 = .ok (.return_, 1) := by decide +kernel
theorem c_strSB (l : Launch) (Z : State) (a0 : Array Value) (hw : ∀ d ∈ tables_1, d.before a0 Z = true) (hEW : EW Z a0 consts_1) (n0 : Nat) (c1 : Int32) (hc1 : ¬ c1 = 0) (S1 : Sta Z Z.heap "java/lang/String" "COMPACT_STRINGS" "Z" (.int c1)) (v2 : Value) (hv2 : v2.isRef = true) (S2 : Sta Z Z.heap "jdk/internal/util/Preconditions" "SIOOBE_FORMATTER" "Ljava/util/function/BiFunction;" v2) (s2 a b : Addr) (cap : Nat) (bs : List Value) {h0 : Heap} (o1 : Old Z n0 h0) (ge_s2 : n0 ≤ s2) (hlt : bs.length < cap) (hcap : cap < 2147483648) (hmax : bs.length ≤ 16) (Xs : Exa Z h0 s2 "java/lang/String") (Fv : Fld Z h0 s2 "java/lang/String" "value" "[B" .null) (Fc : Fld Z h0 s2 "java/lang/String" "coder" "B" (.int 0)) (hS : Sbd Z h0 a b cap bs) :
    Con Z a0 l (⟨"java/lang/String", "<init>", "(Ljava/lang/StringBuilder;)V"⟩ : MethodName) jdk_42_method_53_code 2 (none) ({ frames := 4, cells := 1, slots := 16, locals := 88 } : Room) [] #[(.ref s2), (.ref a)] consts_1 h0 n0 [s2] [s2] (V0 fun h so => ∃ n, Str Z h s2 n bs ∧ h0.size ≤ n ∧ so = [n]) := by
  refine Con.body (plainFor_of_name pn_java_lang_String) hEW o1 (allS ge_s2 all0) #[.val (.ref s2), .val (.ref a)] (fun m => by first | (simp [entryFrame, mkF, argsToLocals, Value.category]; done) | rfl) ?_
  intro p e s m below meth c B hnm hret hlk G
  replace G := G.aloadN 1 d17_0 rfl rfl rfl |>.aloadN 2 d17_1 rfl rfl rfl |>.aconstNull 3 d17_2 rfl
  obtain ⟨vi, h1, soi, G', Ki, Qi⟩ := G.callI 6 rfl rfl (hw _ (mm 108 rfl)) (hw _ (mm 109 rfl)) (hw _ (mm 6 rfl)) (hw _ (mm 110 rfl)) (by decide) [(.ref a), .null] [] rfl (c_strASB l Z a0 hw hEW n0 c1 hc1 S1 v2 hv2 S2 s2 a b cap bs G.old ge_s2 hlt hcap hmax Xs Fv Fc hS) (lenOf pd__Ljava_lang_AbstractStringBuilder_Ljava_lang_Void__V rfl) d17_3 rfl (nle rfl) (nle rfl) (nle rfl) (nle rfl) (allS (Or.inl (mm 0 rfl)) all0) (allS (mm 0 rfl) all0) (allS (mm 0 rfl) all0) rfl
  replace G := G'; clear G'
  obtain ⟨qi, n, hT, sn, rfl⟩ := Qi
  replace G := G.nov qi
  exact G.retV hret hlk d17_6 [n] (allS (mm 0 rfl) all0) ⟨rfl, n, hT, sn, rfl⟩ (nle rfl) (nle rfl)
theorem d16_0 : decode jdk_67_method_42_code 0 = .ok (.new 18, 3) := by decide +kernel
theorem d16_3 : decode jdk_67_method_42_code 3 = .ok (.dup, 1) := by decide +kernel
theorem d16_4 : decode jdk_67_method_42_code 4 = .ok (.aload_n 0, 1) := by decide +kernel
theorem d16_5 : decode jdk_67_method_42_code 5 = .ok (.invokespecial 137, 3) := by decide +kernel
theorem d16_8 : decode jdk_67_method_42_code 8 = .ok (.areturn, 1) := by decide +kernel
theorem c_toStr (l : Launch) (Z : State) (a0 : Array Value) (hw : ∀ d ∈ tables_1, d.before a0 Z = true) (hEW : EW Z a0 consts_1) (n0 : Nat) (c1 : Int32) (hc1 : ¬ c1 = 0) (S1 : Sta Z Z.heap "java/lang/String" "COMPACT_STRINGS" "Z" (.int c1)) (v2 : Value) (hv2 : v2.isRef = true) (S2 : Sta Z Z.heap "jdk/internal/util/Preconditions" "SIOOBE_FORMATTER" "Ljava/util/function/BiFunction;" v2) (a b : Addr) (cap : Nat) (bs : List Value) {h0 : Heap} (o1 : Old Z n0 h0) (hlt : bs.length < cap) (hcap : cap < 2147483648) (hmax : bs.length ≤ 16) (hS : Sbd Z h0 a b cap bs) :
    Con Z a0 l (⟨"java/lang/StringBuilder", "toString", "()Ljava/lang/String;"⟩ : MethodName) jdk_67_method_42_code 1 (some (.object "java/lang/String")) ({ frames := 5, cells := 2, slots := 20, locals := 102 } : Room) [] #[(.ref a)] consts_1 h0 n0 [] [] (VV fun w h so => ∃ s2 n, w = .ref s2 ∧ Str Z h s2 n bs ∧ h0.size ≤ s2 ∧ h0.size ≤ n ∧ so = [n, s2]) := by
  refine Con.body (plainFor_of_name pn_java_lang_StringBuilder) hEW o1 all0 #[.val (.ref a)] (fun m => by first | (simp [entryFrame, mkF, argsToLocals, Value.category]; done) | rfl) ?_
  intro p e s m below meth c B hnm hret hlk G
  obtain ⟨s2, h1, G', gs2, ss2, Es2, Xs2, Ds2, Us2⟩ := G.new 3 (hw _ (mm 104 rfl)) (hw _ (mm 5 rfl)) (hw _ (mm 6 rfl)) d16_0 rfl (nle rfl) (nle rfl)
  replace G := G'; clear G'
  have Fv := Ds2 (Or.inr (hw _ (mm 20 rfl))) (ty := .array .byte) (by decide)
  have Fc := Ds2 (Or.inr (hw _ (mm 21 rfl))) (ty := .byte) (by decide)
  replace hS := hS.ext Es2
  replace G := G.dup 4 d16_3 rfl rfl |>.aloadN 5 d16_4 rfl rfl rfl
  obtain ⟨vi, h2, soi, G', Ki, Qi⟩ := G.callI 8 rfl rfl (hw _ (mm 105 rfl)) (hw _ (mm 106 rfl)) (hw _ (mm 6 rfl)) (hw _ (mm 107 rfl)) (by decide) [(.ref a)] [(.ref s2)] rfl (c_strSB l Z a0 hw hEW n0 c1 hc1 S1 v2 hv2 S2 s2 a b cap bs G.old (Nat.le_trans (G.nw (Or.inr ss2)) (Nat.le_refl _)) hlt hcap hmax Xs2 Fv Fc hS) (lenOf pd__Ljava_lang_StringBuilder__V rfl) d16_5 rfl (nle rfl) (nle rfl) (nle rfl) (nle rfl) (allS (Or.inr ss2) all0) (allS (mm 0 rfl) all0) (allS (mm 0 rfl) all0) rfl
  replace G := G'; clear G'
  obtain ⟨qi, n, hT, sn, rfl⟩ := Qi
  replace G := G.nov qi
  exact G.retA hret rfl rfl hlk d16_8 [n, s2] (allS (mm 0 rfl) (allS (mm 1 rfl) all0)) ⟨_, rfl, s2, n, rfl, hT, ss2, Nat.le_trans Es2.1 sn, rfl⟩ (nle rfl) (nle rfl)
theorem d38_0 : decode jdk_41_method_11_code 0 = .ok (.iload_n 0, 1) := by decide +kernel
theorem d38_1 : decode jdk_41_method_11_code 1 = .ok (.ifCond .lt 8, 3) := by decide +kernel
theorem d38_4 : decode jdk_41_method_11_code 4 = .ok (.iload_n 0, 1) := by decide +kernel
theorem d38_5 : decode jdk_41_method_11_code 5 = .ok (.iload_n 1, 1) := by decide +kernel
theorem d38_6 : decode jdk_41_method_11_code 6 = .ok (.if_icmp .lt 10, 3) := by decide +kernel
theorem d38_9 : decode jdk_41_method_11_code 9 = .ok (.aload_n 2, 1) := by decide +kernel
theorem d38_10 : decode jdk_41_method_11_code 10 = .ok (.iload_n 0, 1) := by decide +kernel
theorem d38_11 : decode jdk_41_method_11_code 11 = .ok (.iload_n 1, 1) := by decide +kernel
theorem d38_12 : decode jdk_41_method_11_code 12 = .ok (.invokestatic 95, 3) := by decide +kernel
theorem d38_15 : decode jdk_41_method_11_code 15 = .ok (.athrow, 1) := by decide +kernel
theorem d38_16 : decode jdk_41_method_11_code 16 = .ok (.iload_n 0, 1) := by decide +kernel
theorem d38_17 : decode jdk_41_method_11_code 17 = .ok (.ireturn, 1) := by decide +kernel
theorem c_pci (l : Launch) (Z : State) (a0 : Array Value) (hw : ∀ d ∈ tables_1, d.before a0 Z = true) (hEW : EW Z a0 consts_1) (n0 : Nat) (c1 : Int32) (hc1 : ¬ c1 = 0) (S1 : Sta Z Z.heap "java/lang/String" "COMPACT_STRINGS" "Z" (.int c1)) (v2 : Value) (hv2 : v2.isRef = true) (S2 : Sta Z Z.heap "jdk/internal/util/Preconditions" "SIOOBE_FORMATTER" "Ljava/util/function/BiFunction;" v2) (i n : Int32) {h0 : Heap} (o1 : Old Z n0 h0) (h1 : ¬ i < 0) (h2 : i < n) :
    Con Z a0 l (⟨"jdk/internal/util/Preconditions", "checkIndex", "(IILjava/util/function/BiFunction;)I"⟩ : MethodName) jdk_41_method_11_code 3 (some .int) ({ frames := 0, cells := 0, slots := 0, locals := 0 } : Room) [] #[(.int i), (.int n), v2] consts_1 h0 n0 [] [] (VV fun w h so => w = .int i ∧ h = h0 ∧ so = []) := by
  refine Con.body (plainFor_of_name pn_jdk_internal_util_Preconditions) hEW o1 all0 #[.val (.int i), .val (.int n), .val v2] (fun m => by rcases XT.refc hv2 with rfl | ⟨r, rfl⟩ <;> rfl) ?_
  intro p e s m below meth c B hnm hret hlk G
  replace G := G.iloadN 1 d38_0 rfl rfl |>.ifF 4 d38_1 (XT.i0_lt_f h1) rfl |>.iloadN 5 d38_4 rfl rfl |>.iloadN 6 d38_5 rfl rfl |>.icmpT 16 d38_6 (XT.ii_lt_t h2) (by decide) (by decide) |>.iloadN 17 d38_16 rfl rfl
  exact G.retI hret hlk d38_17 [] all0 ⟨_, rfl, rfl, rfl, rfl⟩ (nle rfl) (nle rfl)
theorem d37_0 : decode jdk_42_method_155_code 0 = .ok (.iload_n 0, 1) := by decide +kernel
theorem d37_1 : decode jdk_42_method_155_code 1 = .ok (.iload_n 1, 1) := by decide +kernel
theorem d37_2 : decode jdk_42_method_155_code 2 = .ok (.getstatic 1053, 3) := by decide +kernel
theorem d37_5 : decode jdk_42_method_155_code 5 = .ok (.invokestatic 1059, 3) := by decide +kernel
theorem d37_8 : decode jdk_42_method_155_code 8 = .ok (.pop, 1) := by decide +kernel
theorem d37_9 : decode jdk_42_method_155_code 9 = .ok (.return_, 1) := by decide +kernel
theorem c_chkIdx (l : Launch) (Z : State) (a0 : Array Value) (hw : ∀ d ∈ tables_1, d.before a0 Z = true) (hEW : EW Z a0 consts_1) (n0 : Nat) (c1 : Int32) (hc1 : ¬ c1 = 0) (S1 : Sta Z Z.heap "java/lang/String" "COMPACT_STRINGS" "Z" (.int c1)) (v2 : Value) (hv2 : v2.isRef = true) (S2 : Sta Z Z.heap "jdk/internal/util/Preconditions" "SIOOBE_FORMATTER" "Ljava/util/function/BiFunction;" v2) (i n : Int32) {h0 : Heap} (o1 : Old Z n0 h0) (h1 : ¬ i < 0) (h2 : i < n) :
    Con Z a0 l (⟨"java/lang/String", "checkIndex", "(II)V"⟩ : MethodName) jdk_42_method_155_code 2 (none) ({ frames := 1, cells := 0, slots := 0, locals := 14 } : Room) [] #[(.int i), (.int n)] consts_1 h0 n0 [] [] (V0 fun h so => h = h0 ∧ so = []) := by
  refine Con.body (plainFor_of_name pn_java_lang_String) hEW o1 all0 #[.val (.int i), .val (.int n)] (fun m => by first | (simp [entryFrame, mkF, argsToLocals, Value.category]; done) | rfl) ?_
  intro p e s m below meth c B hnm hret hlk G
  replace G := G.iloadN 1 d37_0 rfl rfl |>.iloadN 2 d37_1 rfl rfl |>.gets 5 (host := "") (Or.inl (hw _ (mm 225 rfl))) Via.refl (G.sta S2) d37_2 rfl
  obtain ⟨vp, h_p, sop, G', Kp, Qp⟩ := G.callS 8 (hw _ (mm 227 rfl)) (hw _ (mm 228 rfl)) (hw _ (mm 226 rfl)) (hw _ (mm 229 rfl)) (by decide) [(.int i), (.int n), v2] [] rfl (c_pci l Z a0 hw hEW n0 c1 hc1 S1 v2 hv2 S2 i n G.old h1 h2) (lenOf pd__IILjava_util_function_BiFunction__I rfl) d37_5 rfl (nle rfl) (nle rfl) (nle rfl) (nle rfl) all0 all0 all0 rfl
  replace G := G'; clear G'
  obtain ⟨wp, qp, rfl, ep, rfl⟩ := Qp
  replace G := G.val qp
  subst ep
  replace G := G.pop 9 d37_8 rfl rfl
  exact G.retV hret hlk d37_9 [] all0 ⟨rfl, rfl, rfl⟩ (nle rfl) (nle rfl)
theorem d36_0 : decode jdk_43_method_2_code 0 = .ok (.iload_n 1, 1) := by decide +kernel
theorem d36_1 : decode jdk_43_method_2_code 1 = .ok (.aload_n 0, 1) := by decide +kernel
theorem d36_2 : decode jdk_43_method_2_code 2 = .ok (.arraylength, 1) := by decide +kernel
theorem d36_3 : decode jdk_43_method_2_code 3 = .ok (.invokestatic 9, 3) := by decide +kernel
theorem d36_6 : decode jdk_43_method_2_code 6 = .ok (.aload_n 0, 1) := by decide +kernel
theorem d36_7 : decode jdk_43_method_2_code 7 = .ok (.iload_n 1, 1) := by decide +kernel
theorem d36_8 : decode jdk_43_method_2_code 8 = .ok (.baload, 1) := by decide +kernel
theorem d36_9 : decode jdk_43_method_2_code 9 = .ok (.sipush 255, 3) := by decide +kernel
theorem d36_12 : decode jdk_43_method_2_code 12 = .ok (.iand, 1) := by decide +kernel
theorem d36_13 : decode jdk_43_method_2_code 13 = .ok (.i2c, 1) := by decide +kernel
theorem d36_14 : decode jdk_43_method_2_code 14 = .ok (.ireturn, 1) := by decide +kernel
theorem c_l1char (l : Launch) (Z : State) (a0 : Array Value) (hw : ∀ d ∈ tables_1, d.before a0 Z = true) (hEW : EW Z a0 consts_1) (n0 : Nat) (c1 : Int32) (hc1 : ¬ c1 = 0) (S1 : Sta Z Z.heap "java/lang/String" "COMPACT_STRINGS" "Z" (.int c1)) (v2 : Value) (hv2 : v2.isRef = true) (S2 : Sta Z Z.heap "jdk/internal/util/Preconditions" "SIOOBE_FORMATTER" "Ljava/util/function/BiFunction;" v2) (b : Addr) (kb : ClassId) (bs : List Value) (i : Nat) (x : Int32) {h0 : Heap} (o1 : Old Z n0 h0) (hi : i < bs.length) (hn : bs.length < 2147483648) (hv : bs.getD i (.int 0) = .int x) (Ab : Arv Z h0 b kb .byte (Int32.ofNat bs.length) bs (.int 0)) :
    Con Z a0 l (⟨"java/lang/StringLatin1", "charAt", "([BI)C"⟩ : MethodName) jdk_43_method_2_code 2 (some .char) ({ frames := 2, cells := 0, slots := 0, locals := 27 } : Room) [] #[(.ref b), (.int (Int32.ofNat i))] consts_1 h0 n0 [] [] (VV fun w h so => w = .int (x &&& 255) ∧ h = h0 ∧ so = []) := by
  refine Con.body (plainFor_of_name pn_java_lang_StringLatin1) hEW o1 all0 #[.val (.ref b), .val (.int (Int32.ofNat i))] (fun m => by first | (simp [entryFrame, mkF, argsToLocals, Value.category]; done) | rfl) ?_
  intro p e s m below meth c B hnm hret hlk G
  replace G := G.iloadN 1 d36_0 rfl rfl |>.aloadN 2 d36_1 rfl rfl rfl |>.alen 3 Ab d36_2 rfl
  obtain ⟨vc, h_c, soc, G', Kc, Qc⟩ := G.callS 6 (hw _ (mm 222 rfl)) (hw _ (mm 223 rfl)) (hw _ (mm 6 rfl)) (hw _ (mm 224 rfl)) (by decide) [(.int (Int32.ofNat i)), (.int (Int32.ofNat bs.length))] [] rfl (c_chkIdx l Z a0 hw hEW n0 c1 hc1 S1 v2 hv2 S2 (Int32.ofNat i) (Int32.ofNat bs.length) G.old (ofn_nn (by omega)) (ofn_lt hi hn)) (lenOf pd__II_V rfl) d36_3 rfl (nle rfl) (nle rfl) (nle rfl) (nle rfl) all0 all0 all0 rfl
  replace G := G'; clear G'
  obtain ⟨qc, ec, rfl⟩ := Qc
  replace G := G.nov qc
  subst ec
  replace G := G.aloadN 7 d36_6 rfl rfl rfl |>.iloadN 8 d36_7 rfl rfl |>.baload 9 (v := (.int x)) Ab ⟨ofn_nn (by omega), ofn_lt hi hn⟩ (by rw [ofn_nat (by omega)]; exact hv) d36_8 rfl |>.sipush 12 (255 : Int32) d36_9 (by decide) rfl |>.iand 13 d36_12 rfl |>.i2c 14 d36_13 rfl |>.top (y := (.int (x &&& 255))) (congrArg Value.int (i2c_mask x))
  exact G.retN hret (Or.inr (Or.inr (Or.inl rfl))) hlk d36_14 [] all0 ⟨_, rfl, congrArg Value.int (i2c_mask x), rfl, rfl⟩ (nle rfl) (nle rfl)
theorem d35_0 : decode jdk_42_method_154_code 0 = .ok (.getstatic 38, 3) := by decide +kernel
theorem d35_3 : decode jdk_42_method_154_code 3 = .ok (.ifCond .eq 14, 3) := by decide +kernel
theorem d35_6 : decode jdk_42_method_154_code 6 = .ok (.aload_n 0, 1) := by decide +kernel
theorem d35_7 : decode jdk_42_method_154_code 7 = .ok (.getfield 15, 3) := by decide +kernel
theorem d35_10 : decode jdk_42_method_154_code 10 = .ok (.ifCond .ne 7, 3) := by decide +kernel
theorem d35_13 : decode jdk_42_method_154_code 13 = .ok (.iconst 1, 1) := by decide +kernel
theorem d35_14 : decode jdk_42_method_154_code 14 = .ok (.goto 4, 3) := by decide +kernel
theorem d35_17 : decode jdk_42_method_154_code 17 = .ok (.iconst 0, 1) := by decide +kernel
theorem d35_18 : decode jdk_42_method_154_code 18 = .ok (.ireturn, 1) := by decide +kernel
theorem c_isL1S (l : Launch) (Z : State) (a0 : Array Value) (hw : ∀ d ∈ tables_1, d.before a0 Z = true) (hEW : EW Z a0 consts_1) (n0 : Nat) (c1 : Int32) (hc1 : ¬ c1 = 0) (S1 : Sta Z Z.heap "java/lang/String" "COMPACT_STRINGS" "Z" (.int c1)) (v2 : Value) (hv2 : v2.isRef = true) (S2 : Sta Z Z.heap "jdk/internal/util/Preconditions" "SIOOBE_FORMATTER" "Ljava/util/function/BiFunction;" v2) (a : Addr) {h0 : Heap} (o1 : Old Z n0 h0) (Fc : Fld Z h0 a "java/lang/String" "coder" "B" (.int 0)) :
    Con Z a0 l (⟨"java/lang/String", "isLatin1", "()Z"⟩ : MethodName) jdk_42_method_154_code 1 (some .boolean) ({ frames := 0, cells := 0, slots := 0, locals := 0 } : Room) [] #[(.ref a)] consts_1 h0 n0 [] [] (VV fun w h so => w = .int 1 ∧ h = h0 ∧ so = []) := by
  refine Con.body (plainFor_of_name pn_java_lang_String) hEW o1 all0 #[.val (.ref a)] (fun m => by first | (simp [entryFrame, mkF, argsToLocals, Value.category]; done) | rfl) ?_
  intro p e s m below meth c B hnm hret hlk G
  replace G := G.gets 3 (host := "") (Or.inl (hw _ (mm 70 rfl))) Via.refl (G.sta S1) d35_0 rfl |>.ifF 6 d35_3 (XT.i0_eq_f hc1) rfl |>.aloadN 7 d35_6 rfl rfl rfl |>.getf 10 (host := "") (Or.inl (hw _ (mm 25 rfl))) Via.refl Fc d35_7 rfl |>.ifF 13 d35_10 (XT.i0_ne_f rfl) rfl |>.iconst 14 (1 : Int32) d35_13 rfl rfl |>.goto 18 d35_14 (by decide) (by decide)
  exact G.retN hret (Or.inl rfl) hlk d35_18 [] all0 ⟨_, rfl, rfl, rfl, rfl⟩ (nle rfl) (nle rfl)
theorem d34_0 : decode jdk_42_method_56_code 0 = .ok (.aload_n 0, 1) := by decide +kernel
theorem d34_1 : decode jdk_42_method_56_code 1 = .ok (.invokevirtual 492, 3) := by decide +kernel
theorem d34_4 : decode jdk_42_method_56_code 4 = .ok (.ifCond .eq 12, 3) := by decide +kernel
theorem d34_7 : decode jdk_42_method_56_code 7 = .ok (.aload_n 0, 1) := by decide +kernel
theorem d34_8 : decode jdk_42_method_56_code 8 = .ok (.getfield 9, 3) := by decide +kernel
theorem d34_11 : decode jdk_42_method_56_code 11 = .ok (.iload_n 1, 1) := by decide +kernel
theorem d34_12 : decode jdk_42_method_56_code 12 = .ok (.invokestatic 495, 3) := by decide +kernel
theorem d34_15 : decode jdk_42_method_56_code 15 = .ok (.ireturn, 1) := by decide +kernel
theorem d34_16 : decode jdk_42_method_56_code 16 = .ok (.aload_n 0, 1) := by decide +kernel
theorem d34_17 : decode jdk_42_method_56_code 17 = .ok (.getfield 9, 3) := by decide +kernel
theorem d34_20 : decode jdk_42_method_56_code 20 = .ok (.iload_n 1, 1) := by decide +kernel
theorem d34_21 : decode jdk_42_method_56_code 21 = .ok (.invokestatic 498, 3) := by decide +kernel
theorem d34_24 : decode jdk_42_method_56_code 24 = .ok (.ireturn, 1) := by decide +kernel
theorem c_charAt (l : Launch) (Z : State) (a0 : Array Value) (hw : ∀ d ∈ tables_1, d.before a0 Z = true) (hEW : EW Z a0 consts_1) (n0 : Nat) (c1 : Int32) (hc1 : ¬ c1 = 0) (S1 : Sta Z Z.heap "java/lang/String" "COMPACT_STRINGS" "Z" (.int c1)) (v2 : Value) (hv2 : v2.isRef = true) (S2 : Sta Z Z.heap "jdk/internal/util/Preconditions" "SIOOBE_FORMATTER" "Ljava/util/function/BiFunction;" v2) (a b : Addr) (bs : List Value) (i : Nat) (x : Int32) {h0 : Heap} (o1 : Old Z n0 h0) (hi : i < bs.length) (hn : bs.length < 2147483648) (hv : bs.getD i (.int 0) = .int x) (hS : Str Z h0 a b bs) :
    Con Z a0 l (⟨"java/lang/String", "charAt", "(I)C"⟩ : MethodName) jdk_42_method_56_code 2 (some .char) ({ frames := 3, cells := 0, slots := 0, locals := 40 } : Room) [] #[(.ref a), (.int (Int32.ofNat i))] consts_1 h0 n0 [] [] (VV fun w h so => w = .int (x &&& 255) ∧ h = h0 ∧ so = []) := by
  refine Con.body (plainFor_of_name pn_java_lang_String) hEW o1 all0 #[.val (.ref a), .val (.int (Int32.ofNat i))] (fun m => by first | (simp [entryFrame, mkF, argsToLocals, Value.category]; done) | rfl) ?_
  intro p e s m below meth c B hnm hret hlk G
  obtain ⟨Xa, Fc, Fv, kb, Ab⟩ := hS
  replace G := G.aloadN 1 d34_0 rfl rfl rfl
  obtain ⟨vl, h_l, sol, G', Kl, Ql⟩ := G.callV 4 (hw _ (mm 213 rfl)) (hw _ (mm 214 rfl)) (nfSel (hw _ (mm 216 rfl))) (hw _ (mm 216 rfl)) (hw _ (mm 215 rfl)) (hw _ (mm 6 rfl)) (hw _ (mm 217 rfl)) Xa (by decide) [] [] rfl (c_isL1S l Z a0 hw hEW n0 c1 hc1 S1 v2 hv2 S2 a G.old Fc) (lenOf pd___Z rfl) d34_1 rfl (nle rfl) (nle rfl) (nle rfl) (nle rfl) all0 all0 all0 rfl
  replace G := G'; clear G'
  obtain ⟨wl, ql, rfl, el, rfl⟩ := Ql
  replace G := G.val ql
  subst el
  replace G := G.ifF 7 d34_4 (XT.i0_eq_f (by decide)) rfl |>.aloadN 8 d34_7 rfl rfl rfl |>.getf 11 (host := "") (Or.inl (hw _ (mm 24 rfl))) Via.refl Fv d34_8 rfl |>.iloadN 12 d34_11 rfl rfl
  obtain ⟨vc, h_c, soc, G', Kc, Qc⟩ := G.callS 15 (hw _ (mm 218 rfl)) (hw _ (mm 219 rfl)) (hw _ (mm 220 rfl)) (hw _ (mm 221 rfl)) (by decide) [(.ref b), (.int (Int32.ofNat i))] [] rfl (c_l1char l Z a0 hw hEW n0 c1 hc1 S1 v2 hv2 S2 b kb bs i x G.old hi hn hv Ab) (lenOf pd___BI_C rfl) d34_12 rfl (nle rfl) (nle rfl) (nle rfl) (nle rfl) all0 all0 all0 rfl
  replace G := G'; clear G'
  obtain ⟨wc, qc, rfl, ec, rfl⟩ := Qc
  replace G := G.val qc
  subst ec
  exact G.retN hret (Or.inr (Or.inr (Or.inl rfl))) hlk d34_15 [] all0 ⟨_, rfl, congrArg Value.int (i2c_mask x), rfl, rfl⟩ (nle rfl) (nle rfl)
theorem d40_0 : decode jdk_52_method_21_code 0 = .ok (.iconst 0, 1) := by decide +kernel
theorem d40_1 : decode jdk_52_method_21_code 1 = .ok (.istore 5, 2) := by decide +kernel
theorem d40_3 : decode jdk_52_method_21_code 3 = .ok (.iload 5, 2) := by decide +kernel
theorem d40_5 : decode jdk_52_method_21_code 5 = .ok (.iload 4, 2) := by decide +kernel
theorem d40_7 : decode jdk_52_method_21_code 7 = .ok (.if_icmp .ge 37, 3) := by decide +kernel
theorem d40_10 : decode jdk_52_method_21_code 10 = .ok (.aload_n 0, 1) := by decide +kernel
theorem d40_11 : decode jdk_52_method_21_code 11 = .ok (.iload_n 1, 1) := by decide +kernel
theorem d40_12 : decode jdk_52_method_21_code 12 = .ok (.caload, 1) := by decide +kernel
theorem d40_13 : decode jdk_52_method_21_code 13 = .ok (.istore 6, 2) := by decide +kernel
theorem d40_15 : decode jdk_52_method_21_code 15 = .ok (.iload 6, 2) := by decide +kernel
theorem d40_17 : decode jdk_52_method_21_code 17 = .ok (.sipush 255, 3) := by decide +kernel
theorem d40_20 : decode jdk_52_method_21_code 20 = .ok (.if_icmp .le 6, 3) := by decide +kernel
theorem d40_23 : decode jdk_52_method_21_code 23 = .ok (.iload 5, 2) := by decide +kernel
theorem d40_25 : decode jdk_52_method_21_code 25 = .ok (.ireturn, 1) := by decide +kernel
theorem d40_26 : decode jdk_52_method_21_code 26 = .ok (.aload_n 2, 1) := by decide +kernel
theorem d40_27 : decode jdk_52_method_21_code 27 = .ok (.iload_n 3, 1) := by decide +kernel
theorem d40_28 : decode jdk_52_method_21_code 28 = .ok (.iload 6, 2) := by decide +kernel
theorem d40_30 : decode jdk_52_method_21_code 30 = .ok (.i2b, 1) := by decide +kernel
theorem d40_31 : decode jdk_52_method_21_code 31 = .ok (.bastore, 1) := by decide +kernel
theorem d40_32 : decode jdk_52_method_21_code 32 = .ok (.iinc 1 1, 3) := by decide +kernel
theorem d40_35 : decode jdk_52_method_21_code 35 = .ok (.iinc 3 1, 3) := by decide +kernel
theorem d40_38 : decode jdk_52_method_21_code 38 = .ok (.iinc 5 1, 3) := by decide +kernel
theorem d40_41 : decode jdk_52_method_21_code 41 = .ok (.goto (-38), 3) := by decide +kernel
theorem d40_44 : decode jdk_52_method_21_code 44 = .ok (.iload 4, 2) := by decide +kernel
theorem d40_46 : decode jdk_52_method_21_code 46 = .ok (.ireturn, 1) := by decide +kernel
theorem c_cmpL (l : Launch) (Z : State) (a0 : Array Value) (hw : ∀ d ∈ tables_1, d.before a0 Z = true) (hEW : EW Z a0 consts_1) (n0 : Nat) (c1 : Int32) (hc1 : ¬ c1 = 0) (S1 : Sta Z Z.heap "java/lang/String" "COMPACT_STRINGS" "Z" (.int c1)) (v2 : Value) (hv2 : v2.isRef = true) (S2 : Sta Z Z.heap "jdk/internal/util/Preconditions" "SIOOBE_FORMATTER" "Ljava/util/function/BiFunction;" v2) (va d : Addr) (kv kd : ClassId) (cs : List Int32) {h0 : Heap} (o1 : Old Z n0 h0) (ge_d : n0 ≤ d) (hne : 0 < cs.length) (hn : cs.length < 2147483648) (hc : ∀ x ∈ cs, ¬ (255 : Int32) < x) (nvd : va ≠ d) (Av : Arv Z h0 va kv .char (Int32.ofNat cs.length) (cs.map Value.int) (.int 0)) (Ad : Arv Z h0 d kd .byte (Int32.ofNat cs.length) [] (.int 0)) :
    Con Z a0 l (⟨"java/lang/StringUTF16", "compress", "([CI[BII)I"⟩ : MethodName) jdk_52_method_21_code 7 (some .int) ({ frames := 0, cells := 0, slots := 0, locals := 0 } : Room) [] #[(.ref va), (.int (0 : Int32)), (.ref d), (.int (0 : Int32)), (.int (Int32.ofNat cs.length))] consts_1 h0 n0 [d] [d] (VV fun w h so => w = .int (Int32.ofNat cs.length) ∧ Arv Z h d kd .byte (Int32.ofNat cs.length) (cs.map bytV) (.int 0) ∧ so = []) := by
  refine Con.body (plainFor_of_name pn_java_lang_StringUTF16) hEW o1 (allS ge_d all0) #[.val (.ref va), .val (.int (0 : Int32)), .val (.ref d), .val (.int (0 : Int32)), .val (.int (Int32.ofNat cs.length)), .unset, .unset] (fun m => by first | (simp [entryFrame, mkF, argsToLocals, Value.category]; done) | rfl) ?_
  intro p e s m below meth c B hnm hret hlk G
  have loop : ∀ (k : Nat) (h : Heap) (i : Nat) (cc : Int32), i + k = cs.length → Arv Z h va kv .char (Int32.ofNat cs.length) (cs.map Value.int) (.int 0) → Arv Z h d kd .byte (Int32.ofNat cs.length) ((cs.take i).map bytV) (.int 0) → Wl Z a0 "java/lang/StringUTF16" p l e ({ frames := 0, cells := 0, slots := 0, locals := 0 } : Room) s m #[(.ref va), (.int (0 : Int32)), (.ref d), (.int (0 : Int32)), (.int (Int32.ofNat cs.length))] below meth c jdk_52_method_21_code 7 B consts_1 h0 n0 [d] [d] h 0 0 3 #[.val (.ref va), .val (.int (Int32.ofNat i)), .val (.ref d), .val (.int (Int32.ofNat i)), .val (.int (Int32.ofNat cs.length)), .val (.int (Int32.ofNat i)), .val (.int cc)] [] → Fin Z consts_1 p e below B s h0 n0 [d] ({ frames := 0, cells := 0, slots := 0, locals := 0 } : Room).cells ({ frames := 0, cells := 0, slots := 0, locals := 0 } : Room).slots (VV fun w h so => w = .int (Int32.ofNat cs.length) ∧ Arv Z h d kd .byte (Int32.ofNat cs.length) (cs.map bytV) (.int 0) ∧ so = []) := by
    intro k; induction k with
    | zero =>
      intro h i cc hik Av Ad G
      obtain rfl : i = cs.length := by omega
      replace G := G.iload 5 d40_3 rfl rfl |>.iload 7 d40_5 rfl rfl |>.icmpT 44 d40_7 (XT.ii_ge_t (ofn_nlt (Nat.le_refl _) hn)) (by decide) (by decide) |>.iload 46 d40_44 rfl rfl
      rw [List.take_length] at Ad
      exact G.retI hret hlk d40_46 [] all0 ⟨_, rfl, rfl, Ad, rfl⟩ (nle rfl) (nle rfl)
    | succ k ih =>
      intro h i cc hik Av Ad G
      have hi : i < cs.length := by omega
      replace G := G.iload 5 d40_3 rfl rfl |>.iload 7 d40_5 rfl rfl |>.icmpF 10 d40_7 (XT.ii_ge_f (ofn_lt hi hn)) rfl |>.aloadN 11 d40_10 rfl rfl rfl |>.iloadN 12 d40_11 rfl rfl
      have hci := hc _ (getD_mem cs i hi)
      replace G := G.caload 13 (v := (.int (cs.getD i 0))) Av ⟨ofn_nn (by omega), ofn_lt hi hn⟩ (by rw [ofn_nat (by omega)]; exact getD_map cs i hi) d40_12 rfl |>.istore 15 #[.val (.ref va), .val (.int (Int32.ofNat i)), .val (.ref d), .val (.int (Int32.ofNat i)), .val (.int (Int32.ofNat cs.length)), .val (.int (Int32.ofNat i)), .val (.int (cs.getD i 0))] d40_13 rfl rfl |>.iload 17 d40_15 rfl rfl |>.sipush 20 (255 : Int32) d40_17 (by decide) rfl |>.icmpT 26 d40_20 (XT.ii_le_t hci) (by decide) (by decide) |>.aloadN 27 d40_26 rfl rfl rfl |>.iloadN 28 d40_27 rfl rfl |>.iload 30 d40_28 rfl rfl
      replace G := G.i2b 31 d40_30 rfl
      have Ad' := Ad.pad (vs' := (cs.take i).map bytV ++ [(.int 0)]) (pad_rep _ (.int 0) 1)
      have hlen : ((cs.take i).map bytV).length = i := by first | (simp; done) | (simp; omega)
      obtain ⟨h2, G', As, Ks⟩ := G.bastore 32 i Ad' ⟨ofn_nn (by omega), ofn_lt hi hn⟩ (ofn_nat (by omega)) (by rw [List.length_append, hlen]; simp) (Or.inl (mm 0 rfl)) (mm 0 rfl) d40_31 rfl
      replace G := G'; clear G'
      rw [set_app _ _ _ _ hlen, byt2] at As
      replace Ad : Arv Z h2 d kd .byte (Int32.ofNat cs.length) ((cs.take (i + 1)).map bytV) (.int 0) := by rw [tk_succ cs bytV i hi]; exact As
      replace Av := Av.keep Ks (ninS nvd nin0)
      replace G := G.iincV 35 #[.val (.ref va), .val (.int (Int32.ofNat (i + 1))), .val (.ref d), .val (.int (Int32.ofNat i)), .val (.int (Int32.ofNat cs.length)), .val (.int (Int32.ofNat i)), .val (.int (cs.getD i 0))] (Int32.ofNat (i + 1)) d40_32 rfl (ofn_succ i) rfl rfl |>.iincV 38 #[.val (.ref va), .val (.int (Int32.ofNat (i + 1))), .val (.ref d), .val (.int (Int32.ofNat (i + 1))), .val (.int (Int32.ofNat cs.length)), .val (.int (Int32.ofNat i)), .val (.int (cs.getD i 0))] (Int32.ofNat (i + 1)) d40_35 rfl (ofn_succ i) rfl rfl |>.iincV 41 #[.val (.ref va), .val (.int (Int32.ofNat (i + 1))), .val (.ref d), .val (.int (Int32.ofNat (i + 1))), .val (.int (Int32.ofNat cs.length)), .val (.int (Int32.ofNat (i + 1))), .val (.int (cs.getD i 0))] (Int32.ofNat (i + 1)) d40_38 rfl (ofn_succ i) rfl rfl |>.goto 3 d40_41 (by decide) (by decide)
      exact ih _ (i + 1) _ (by omega) Av Ad G
  have hi : 0 < cs.length := hne
  replace G := G.iconst 1 (0 : Int32) d40_0 rfl rfl |>.istore 3 #[.val (.ref va), .val (.int (0 : Int32)), .val (.ref d), .val (.int (0 : Int32)), .val (.int (Int32.ofNat cs.length)), .val (.int (0 : Int32)), .unset] d40_1 rfl rfl
  replace Ad : Arv Z h0 d kd .byte (Int32.ofNat cs.length) ((cs.take 0).map bytV) (.int 0) := Ad
  replace G : Wl Z a0 "java/lang/StringUTF16" p l e ({ frames := 0, cells := 0, slots := 0, locals := 0 } : Room) s m #[(.ref va), (.int (0 : Int32)), (.ref d), (.int (0 : Int32)), (.int (Int32.ofNat cs.length))] below meth c jdk_52_method_21_code 7 B consts_1 h0 n0 [d] [d] h0 0 0 3 #[.val (.ref va), .val (.int (Int32.ofNat 0)), .val (.ref d), .val (.int (Int32.ofNat 0)), .val (.int (Int32.ofNat cs.length)), .val (.int (Int32.ofNat 0)), .unset] [] := G
  replace G := G.iload 5 d40_3 rfl rfl |>.iload 7 d40_5 rfl rfl |>.icmpF 10 d40_7 (XT.ii_ge_f (ofn_lt hi hn)) rfl |>.aloadN 11 d40_10 rfl rfl rfl |>.iloadN 12 d40_11 rfl rfl
  have hci := hc _ (getD_mem cs 0 hi)
  replace G := G.caload 13 (v := (.int (cs.getD 0 0))) Av ⟨ofn_nn (by omega), ofn_lt hi hn⟩ (by rw [ofn_nat (by omega)]; exact getD_map cs 0 hi) d40_12 rfl |>.istore 15 #[.val (.ref va), .val (.int (Int32.ofNat 0)), .val (.ref d), .val (.int (Int32.ofNat 0)), .val (.int (Int32.ofNat cs.length)), .val (.int (Int32.ofNat 0)), .val (.int (cs.getD 0 0))] d40_13 rfl rfl |>.iload 17 d40_15 rfl rfl |>.sipush 20 (255 : Int32) d40_17 (by decide) rfl |>.icmpT 26 d40_20 (XT.ii_le_t hci) (by decide) (by decide) |>.aloadN 27 d40_26 rfl rfl rfl |>.iloadN 28 d40_27 rfl rfl |>.iload 30 d40_28 rfl rfl
  replace G := G.i2b 31 d40_30 rfl
  have Ad' := Ad.pad (vs' := (cs.take 0).map bytV ++ [(.int 0)]) (pad_rep _ (.int 0) 1)
  have hlen : ((cs.take 0).map bytV).length = 0 := by first | (simp; done) | (simp; omega)
  obtain ⟨h2, G', As, Ks⟩ := G.bastore 32 0 Ad' ⟨ofn_nn (by omega), ofn_lt hi hn⟩ (ofn_nat (by omega)) (by rw [List.length_append, hlen]; simp) (Or.inl (mm 0 rfl)) (mm 0 rfl) d40_31 rfl
  replace G := G'; clear G'
  rw [set_app _ _ _ _ hlen, byt2] at As
  replace Ad : Arv Z h2 d kd .byte (Int32.ofNat cs.length) ((cs.take (0 + 1)).map bytV) (.int 0) := by rw [tk_succ cs bytV 0 hi]; exact As
  replace Av := Av.keep Ks (ninS nvd nin0)
  replace G := G.iincV 35 #[.val (.ref va), .val (.int (Int32.ofNat (0 + 1))), .val (.ref d), .val (.int (Int32.ofNat 0)), .val (.int (Int32.ofNat cs.length)), .val (.int (Int32.ofNat 0)), .val (.int (cs.getD 0 0))] (Int32.ofNat (0 + 1)) d40_32 rfl (ofn_succ 0) rfl rfl |>.iincV 38 #[.val (.ref va), .val (.int (Int32.ofNat (0 + 1))), .val (.ref d), .val (.int (Int32.ofNat (0 + 1))), .val (.int (Int32.ofNat cs.length)), .val (.int (Int32.ofNat 0)), .val (.int (cs.getD 0 0))] (Int32.ofNat (0 + 1)) d40_35 rfl (ofn_succ 0) rfl rfl |>.iincV 41 #[.val (.ref va), .val (.int (Int32.ofNat (0 + 1))), .val (.ref d), .val (.int (Int32.ofNat (0 + 1))), .val (.int (Int32.ofNat cs.length)), .val (.int (Int32.ofNat (0 + 1))), .val (.int (cs.getD 0 0))] (Int32.ofNat (0 + 1)) d40_38 rfl (ofn_succ 0) rfl rfl |>.goto 3 d40_41 (by decide) (by decide)
  exact loop (cs.length - 1) _ 1 _ (by omega) Av Ad G
theorem d39_0 : decode jdk_52_method_16_code 0 = .ok (.iload_n 2, 1) := by decide +kernel
theorem d39_1 : decode jdk_52_method_16_code 1 = .ok (.newarray .byte, 2) := by decide +kernel
theorem d39_3 : decode jdk_52_method_16_code 3 = .ok (.astore_n 3, 1) := by decide +kernel
theorem d39_4 : decode jdk_52_method_16_code 4 = .ok (.aload_n 0, 1) := by decide +kernel
theorem d39_5 : decode jdk_52_method_16_code 5 = .ok (.iload_n 1, 1) := by decide +kernel
theorem d39_6 : decode jdk_52_method_16_code 6 = .ok (.aload_n 3, 1) := by decide +kernel
theorem d39_7 : decode jdk_52_method_16_code 7 = .ok (.iconst 0, 1) := by decide +kernel
theorem d39_8 : decode jdk_52_method_16_code 8 = .ok (.iload_n 2, 1) := by decide +kernel
theorem d39_9 : decode jdk_52_method_16_code 9 = .ok (.invokestatic 115, 3) := by decide +kernel
theorem d39_12 : decode jdk_52_method_16_code 12 = .ok (.istore 4, 2) := by decide +kernel
theorem d39_14 : decode jdk_52_method_16_code 14 = .ok (.iload 4, 2) := by decide +kernel
theorem d39_16 : decode jdk_52_method_16_code 16 = .ok (.iload_n 2, 1) := by decide +kernel
theorem d39_17 : decode jdk_52_method_16_code 17 = .ok (.if_icmp .eq 40, 3) := by decide +kernel
theorem d39_20 : decode jdk_52_method_16_code 20 = .ok (.aload_n 0, 1) := by decide +kernel
theorem d39_21 : decode jdk_52_method_16_code 21 = .ok (.iload_n 1, 1) := by decide +kernel
theorem d39_22 : decode jdk_52_method_16_code 22 = .ok (.iload_n 2, 1) := by decide +kernel
theorem d39_23 : decode jdk_52_method_16_code 23 = .ok (.invokestatic 119, 3) := by decide +kernel
theorem d39_26 : decode jdk_52_method_16_code 26 = .ok (.astore 5, 2) := by decide +kernel
theorem d39_28 : decode jdk_52_method_16_code 28 = .ok (.aload 5, 2) := by decide +kernel
theorem d39_30 : decode jdk_52_method_16_code 30 = .ok (.iload 4, 2) := by decide +kernel
theorem d39_32 : decode jdk_52_method_16_code 32 = .ok (.invokestatic 71, 3) := by decide +kernel
theorem d39_35 : decode jdk_52_method_16_code 35 = .ok (.sipush 255, 3) := by decide +kernel
theorem d39_38 : decode jdk_52_method_16_code 38 = .ok (.if_icmp .gt 16, 3) := by decide +kernel
theorem d39_41 : decode jdk_52_method_16_code 41 = .ok (.aload 5, 2) := by decide +kernel
theorem d39_43 : decode jdk_52_method_16_code 43 = .ok (.iconst 0, 1) := by decide +kernel
theorem d39_44 : decode jdk_52_method_16_code 44 = .ok (.aload_n 3, 1) := by decide +kernel
theorem d39_45 : decode jdk_52_method_16_code 45 = .ok (.iconst 0, 1) := by decide +kernel
theorem d39_46 : decode jdk_52_method_16_code 46 = .ok (.iload_n 2, 1) := by decide +kernel
theorem d39_47 : decode jdk_52_method_16_code 47 = .ok (.invokestatic 123, 3) := by decide +kernel
theorem d39_50 : decode jdk_52_method_16_code 50 = .ok (.iload_n 2, 1) := by decide +kernel
theorem d39_51 : decode jdk_52_method_16_code 51 = .ok (.if_icmp .eq 6, 3) := by decide +kernel
theorem d39_54 : decode jdk_52_method_16_code 54 = .ok (.aload 5, 2) := by decide +kernel
theorem d39_56 : decode jdk_52_method_16_code 56 = .ok (.areturn, 1) := by decide +kernel
theorem d39_57 : decode jdk_52_method_16_code 57 = .ok (.aload_n 3, 1) := by decide +kernel
theorem d39_58 : decode jdk_52_method_16_code 58 = .ok (.areturn, 1) := by decide +kernel
theorem c_cmpA (l : Launch) (Z : State) (a0 : Array Value) (hw : ∀ d ∈ tables_1, d.before a0 Z = true) (hEW : EW Z a0 consts_1) (n0 : Nat) (c1 : Int32) (hc1 : ¬ c1 = 0) (S1 : Sta Z Z.heap "java/lang/String" "COMPACT_STRINGS" "Z" (.int c1)) (v2 : Value) (hv2 : v2.isRef = true) (S2 : Sta Z Z.heap "jdk/internal/util/Preconditions" "SIOOBE_FORMATTER" "Ljava/util/function/BiFunction;" v2) (va : Addr) (kv : ClassId) (cs : List Int32) {h0 : Heap} (o1 : Old Z n0 h0) (hne : 0 < cs.length) (hmax : cs.length ≤ 2) (hc : ∀ x ∈ cs, ¬ (255 : Int32) < x) (Av : Arv Z h0 va kv .char (Int32.ofNat cs.length) (cs.map Value.int) (.int 0)) :
    Con Z a0 l (⟨"java/lang/StringUTF16", "compress", "([CII)[B"⟩ : MethodName) jdk_52_method_16_code 6 (some (.array .byte)) ({ frames := 1, cells := 1, slots := 2, locals := 18 } : Room) [] #[(.ref va), (.int (0 : Int32)), (.int (Int32.ofNat cs.length))] consts_1 h0 n0 [] [] (VV fun w h so => ∃ d, w = .ref d ∧ (∃ k, Arv Z h d k .byte (Int32.ofNat cs.length) (cs.map bytV) (.int 0)) ∧ h0.size ≤ d ∧ so = [d]) := by
  refine Con.body (plainFor_of_name pn_java_lang_StringUTF16) hEW o1 all0 #[.val (.ref va), .val (.int (0 : Int32)), .val (.int (Int32.ofNat cs.length)), .unset, .unset, .unset] (fun m => by first | (simp [entryFrame, mkF, argsToLocals, Value.category]; done) | rfl) ?_
  intro p e s m below meth c B hnm hret hlk G
  have hn : cs.length < 2147483648 := by omega
  replace G := G.iloadN 1 d39_0 rfl rfl
  obtain ⟨d, h1, kd, G', gd, sd, Ed, Ad⟩ := G.newarray 3 (hw _ (mm 19 rfl)) d39_1 (ofn_nn hn) 2 (by rw [ofn_nat hn]; exact hmax) (by decide) rfl (nle rfl) (nle rfl)
  replace G := G'; clear G'
  have nvd : va ≠ d := ne_new gd Av.lt
  replace Av := Av.ext Ed
  replace G := G.astoreN 4 #[.val (.ref va), .val (.int (0 : Int32)), .val (.int (Int32.ofNat cs.length)), .val (.ref d), .unset, .unset] d39_3 rfl rfl rfl |>.aloadN 5 d39_4 rfl rfl rfl |>.iloadN 6 d39_5 rfl rfl |>.aloadN 7 d39_6 rfl rfl rfl |>.iconst 8 (0 : Int32) d39_7 rfl rfl |>.iloadN 9 d39_8 rfl rfl
  obtain ⟨vc, h2, soc, G', Kc, Qc⟩ := G.callS 12 (hw _ (mm 234 rfl)) (hw _ (mm 235 rfl)) (hw _ (mm 232 rfl)) (hw _ (mm 236 rfl)) (by decide) [(.ref va), (.int (0 : Int32)), (.ref d), (.int (0 : Int32)), (.int (Int32.ofNat cs.length))] [] rfl (c_cmpL l Z a0 hw hEW n0 c1 hc1 S1 v2 hv2 S2 va d kv kd cs G.old (G.nw (Or.inr sd)) hne hn hc nvd Av Ad) (lenOf pd___CI_BII_I rfl) d39_9 rfl (nle rfl) (nle rfl) (nle rfl) (nle rfl) (allS (Or.inr sd) all0) (allS (mm 0 rfl) all0) (allS (mm 0 rfl) all0) rfl
  replace G := G'; clear G'
  obtain ⟨wc, qc, rfl, Ad, rfl⟩ := Qc
  replace G := G.val qc |>.istore 14 #[.val (.ref va), .val (.int (0 : Int32)), .val (.int (Int32.ofNat cs.length)), .val (.ref d), .val (.int (Int32.ofNat cs.length)), .unset] d39_12 rfl rfl |>.iload 16 d39_14 rfl rfl |>.iloadN 17 d39_16 rfl rfl |>.icmpT 57 d39_17 (XT.ii_eq_t rfl) (by decide) (by decide) |>.aloadN 58 d39_57 rfl rfl rfl
  exact G.retA hret rfl rfl hlk d39_58 [d] (allS (mm 0 rfl) all0) ⟨_, rfl, d, rfl, ⟨kd, Ad⟩, sd, rfl⟩ (nle rfl) (nle rfl)
theorem d41_0 : decode jdk_52_method_15_code 0 = .ok (.iload_n 1, 1) := by decide +kernel
theorem d41_1 : decode jdk_52_method_15_code 1 = .ok (.aload_n 0, 1) := by decide +kernel
theorem d41_2 : decode jdk_52_method_15_code 2 = .ok (.arraylength, 1) := by decide +kernel
theorem d41_3 : decode jdk_52_method_15_code 3 = .ok (.isub, 1) := by decide +kernel
theorem d41_4 : decode jdk_52_method_15_code 4 = .ok (.bipush 31, 2) := by decide +kernel
theorem d41_6 : decode jdk_52_method_15_code 6 = .ok (.iushr, 1) := by decide +kernel
theorem d41_7 : decode jdk_52_method_15_code 7 = .ok (.i2b, 1) := by decide +kernel
theorem d41_8 : decode jdk_52_method_15_code 8 = .ok (.ireturn, 1) := by decide +kernel
theorem c_cod (l : Launch) (Z : State) (a0 : Array Value) (hw : ∀ d ∈ tables_1, d.before a0 Z = true) (hEW : EW Z a0 consts_1) (n0 : Nat) (c1 : Int32) (hc1 : ¬ c1 = 0) (S1 : Sta Z Z.heap "java/lang/String" "COMPACT_STRINGS" "Z" (.int c1)) (v2 : Value) (hv2 : v2.isRef = true) (S2 : Sta Z Z.heap "jdk/internal/util/Preconditions" "SIOOBE_FORMATTER" "Ljava/util/function/BiFunction;" v2) (b : Addr) (kb : ClassId) (z : Int32) (vs : List Value) {h0 : Heap} (o1 : Old Z n0 h0) (Ab : Arv Z h0 b kb .byte z vs (.int 0)) :
    Con Z a0 l (⟨"java/lang/StringUTF16", "coderFromArrayLen", "([BI)B"⟩ : MethodName) jdk_52_method_15_code 2 (some .byte) ({ frames := 0, cells := 0, slots := 0, locals := 0 } : Room) [] #[(.ref b), (.int z)] consts_1 h0 n0 [] [] (VV fun w h so => w = .int 0 ∧ h = h0 ∧ so = []) := by
  refine Con.body (plainFor_of_name pn_java_lang_StringUTF16) hEW o1 all0 #[.val (.ref b), .val (.int z)] (fun m => by first | (simp [entryFrame, mkF, argsToLocals, Value.category]; done) | rfl) ?_
  intro p e s m below meth c B hnm hret hlk G
  replace G := G.iloadN 1 d41_0 rfl rfl |>.aloadN 2 d41_1 rfl rfl rfl |>.alen 3 Ab d41_2 rfl |>.isub 4 d41_3 rfl |>.bipush 6 (31 : Int32) d41_4 (by decide) rfl |>.iushr 7 d41_6 rfl |>.top (y := (.int (0 : Int32))) (congrArg Value.int (cod0 z)) |>.i2b 8 d41_7 rfl
  exact G.retN hret (Or.inr (Or.inl rfl)) hlk d41_8 [] all0 ⟨_, rfl, rfl, rfl, rfl⟩ (nle rfl) (nle rfl)
theorem d3_0 : decode jdk_42_method_149_code 0 = .ok (.aload_n 0, 1) := by decide +kernel
theorem d3_1 : decode jdk_42_method_149_code 1 = .ok (.invokespecial 1, 3) := by decide +kernel
theorem d3_4 : decode jdk_42_method_149_code 4 = .ok (.iload_n 3, 1) := by decide +kernel
theorem d3_5 : decode jdk_42_method_149_code 5 = .ok (.ifCond .ne 22, 3) := by decide +kernel
theorem d3_8 : decode jdk_42_method_149_code 8 = .ok (.aload_n 0, 1) := by decide +kernel
theorem d3_9 : decode jdk_42_method_149_code 9 = .ok (.ldc 7, 2) := by decide +kernel
theorem d3_11 : decode jdk_42_method_149_code 11 = .ok (.getfield 9, 3) := by decide +kernel
theorem d3_14 : decode jdk_42_method_149_code 14 = .ok (.putfield 9, 3) := by decide +kernel
theorem d3_17 : decode jdk_42_method_149_code 17 = .ok (.aload_n 0, 1) := by decide +kernel
theorem d3_18 : decode jdk_42_method_149_code 18 = .ok (.ldc 7, 2) := by decide +kernel
theorem d3_20 : decode jdk_42_method_149_code 20 = .ok (.getfield 15, 3) := by decide +kernel
theorem d3_23 : decode jdk_42_method_149_code 23 = .ok (.putfield 15, 3) := by decide +kernel
theorem d3_26 : decode jdk_42_method_149_code 26 = .ok (.return_, 1) := by decide +kernel
theorem d3_27 : decode jdk_42_method_149_code 27 = .ok (.getstatic 38, 3) := by decide +kernel
theorem d3_30 : decode jdk_42_method_149_code 30 = .ok (.ifCond .eq 28, 3) := by decide +kernel
theorem d3_33 : decode jdk_42_method_149_code 33 = .ok (.aload_n 1, 1) := by decide +kernel
theorem d3_34 : decode jdk_42_method_149_code 34 = .ok (.iload_n 2, 1) := by decide +kernel
theorem d3_35 : decode jdk_42_method_149_code 35 = .ok (.iload_n 3, 1) := by decide +kernel
theorem d3_36 : decode jdk_42_method_149_code 36 = .ok (.invokestatic 177, 3) := by decide +kernel
theorem d3_39 : decode jdk_42_method_149_code 39 = .ok (.astore 5, 2) := by decide +kernel
theorem d3_41 : decode jdk_42_method_149_code 41 = .ok (.aload_n 0, 1) := by decide +kernel
theorem d3_42 : decode jdk_42_method_149_code 42 = .ok (.aload 5, 2) := by decide +kernel
theorem d3_44 : decode jdk_42_method_149_code 44 = .ok (.iload_n 3, 1) := by decide +kernel
theorem d3_45 : decode jdk_42_method_149_code 45 = .ok (.invokestatic 47, 3) := by decide +kernel
theorem d3_48 : decode jdk_42_method_149_code 48 = .ok (.putfield 15, 3) := by decide +kernel
theorem d3_51 : decode jdk_42_method_149_code 51 = .ok (.aload_n 0, 1) := by decide +kernel
theorem d3_52 : decode jdk_42_method_149_code 52 = .ok (.aload 5, 2) := by decide +kernel
theorem d3_54 : decode jdk_42_method_149_code 54 = .ok (.putfield 9, 3) := by decide +kernel
theorem d3_57 : decode jdk_42_method_149_code 57 = .ok (.return_, 1) := by decide +kernel
theorem d3_58 : decode jdk_42_method_149_code 58 = .ok (.aload_n 0, 1) := by decide +kernel
theorem d3_59 : decode jdk_42_method_149_code 59 = .ok (.iconst 1, 1) := by decide +kernel
theorem d3_60 : decode jdk_42_method_149_code 60 = .ok (.putfield 15, 3) := by decide +kernel
theorem d3_63 : decode jdk_42_method_149_code 63 = .ok (.aload_n 0, 1) := by decide +kernel
theorem d3_64 : decode jdk_42_method_149_code 64 = .ok (.aload_n 1, 1) := by decide +kernel
theorem d3_65 : decode jdk_42_method_149_code 65 = .ok (.iload_n 2, 1) := by decide +kernel
theorem d3_66 : decode jdk_42_method_149_code 66 = .ok (.iload_n 3, 1) := by decide +kernel
theorem d3_67 : decode jdk_42_method_149_code 67 = .ok (.invokestatic 180, 3) := by decide +kernel
theorem d3_70 : decode jdk_42_method_149_code 70 = .ok (.putfield 9, 3) := by decide +kernel
theorem d3_73 : decode jdk_42_method_149_code 73 = .ok (.return_, 1) := by decide +kernel
theorem c_strCV (l : Launch) (Z : State) (a0 : Array Value) (hw : ∀ d ∈ tables_1, d.before a0 Z = true) (hEW : EW Z a0 consts_1) (n0 : Nat) (c1 : Int32) (hc1 : ¬ c1 = 0) (S1 : Sta Z Z.heap "java/lang/String" "COMPACT_STRINGS" "Z" (.int c1)) (v2 : Value) (hv2 : v2.isRef = true) (S2 : Sta Z Z.heap "jdk/internal/util/Preconditions" "SIOOBE_FORMATTER" "Ljava/util/function/BiFunction;" v2) (a va : Addr) (kv : ClassId) (cs : List Int32) {h0 : Heap} (o1 : Old Z n0 h0) (ge_a : n0 ≤ a) (Xa : Exa Z h0 a "java/lang/String") (Fv : Fld Z h0 a "java/lang/String" "value" "[B" .null) (Fc : Fld Z h0 a "java/lang/String" "coder" "B" (.int 0)) (hne : 0 < cs.length) (hmax : cs.length ≤ 2) (hc : ∀ x ∈ cs, ¬ (255 : Int32) < x) (Av : Arv Z h0 va kv .char (Int32.ofNat cs.length) (cs.map Value.int) (.int 0)) :
    Con Z a0 l (⟨"java/lang/String", "<init>", "([CIILjava/lang/Void;)V"⟩ : MethodName) jdk_42_method_149_code 6 (none) ({ frames := 2, cells := 1, slots := 2, locals := 35 } : Room) [] #[(.ref a), (.ref va), (.int (0 : Int32)), (.int (Int32.ofNat cs.length)), .null] consts_1 h0 n0 [a] [a] (V0 fun h so => ∃ b, Str Z h a b (cs.map bytV) ∧ h0.size ≤ b ∧ so = [b]) := by
  refine Con.body (plainFor_of_name pn_java_lang_String) hEW o1 (allS ge_a all0) #[.val (.ref a), .val (.ref va), .val (.int (0 : Int32)), .val (.int (Int32.ofNat cs.length)), .val .null, .unset] (fun m => by first | (simp [entryFrame, mkF, argsToLocals, Value.category]; done) | rfl) ?_
  intro p e s m below meth c B hnm hret hlk G
  have hn : cs.length < 2147483648 := by omega
  replace G := G.aloadN 1 d3_0 rfl rfl rfl |>.initO 4 (hw _ (mm 15 rfl)) (hw _ (mm 16 rfl)) (hw _ (mm 17 rfl)) d3_1 rfl (nle rfl) (nle rfl) rfl |>.iloadN 5 d3_4 rfl rfl |>.ifT 27 d3_5 (XT.i0_ne_t (ofn_ne (n := 0) (by omega) hn (by decide))) (by decide) (by decide) |>.gets 30 (host := "") (Or.inl (hw _ (mm 70 rfl))) Via.refl (G.sta S1) d3_27 rfl |>.ifF 33 d3_30 (XT.i0_eq_f hc1) rfl |>.aloadN 34 d3_33 rfl rfl rfl |>.iloadN 35 d3_34 rfl rfl
  replace G := G.iloadN 36 d3_35 rfl rfl
  obtain ⟨vc, h1, soc, G', Kc, Qc⟩ := G.callS 39 (hw _ (mm 230 rfl)) (hw _ (mm 231 rfl)) (hw _ (mm 232 rfl)) (hw _ (mm 233 rfl)) (by decide) [(.ref va), (.int (0 : Int32)), (.int (Int32.ofNat cs.length))] [] rfl (c_cmpA l Z a0 hw hEW n0 c1 hc1 S1 v2 hv2 S2 va kv cs G.old hne hmax hc Av) (lenOf pd___CII__B rfl) d3_36 rfl (nle rfl) (nle rfl) (nle rfl) (nle rfl) all0 all0 all0 rfl
  replace G := G'; clear G'
  obtain ⟨wc, qc, b, rfl, ⟨kb, Ab⟩, sb, rfl⟩ := Qc
  replace G := G.val qc
  have nba : b ≠ a := ne_ge Xa.lt sb
  replace Xa := Xa.keep Kc; replace Fv := Fv.keep Kc nin0; replace Fc := Fc.keep Kc nin0
  replace G := G.astore 41 #[.val (.ref a), .val (.ref va), .val (.int (0 : Int32)), .val (.int (Int32.ofNat cs.length)), .val .null, .val (.ref b)] d3_39 rfl rfl rfl |>.aloadN 42 d3_41 rfl rfl rfl |>.aload 44 d3_42 rfl rfl rfl |>.iloadN 45 d3_44 rfl rfl
  obtain ⟨vd, h_d, sod, G', Kd, Qd⟩ := G.callS 48 (hw _ (mm 237 rfl)) (hw _ (mm 238 rfl)) (hw _ (mm 232 rfl)) (hw _ (mm 239 rfl)) (by decide) [(.ref b), (.int (Int32.ofNat cs.length))] [(.ref a)] rfl (c_cod l Z a0 hw hEW n0 c1 hc1 S1 v2 hv2 S2 b kb (Int32.ofNat cs.length) (cs.map bytV) G.old Ab) (lenOf pd___BI_B rfl) d3_45 rfl (nle rfl) (nle rfl) (nle rfl) (nle rfl) all0 all0 all0 rfl
  replace G := G'; clear G'
  obtain ⟨wd, qd, rfl, ed, rfl⟩ := Qd
  replace G := G.val qd
  subst ed
  obtain ⟨h2, G', Wc2, Fc2, Kc2⟩ := G.putf 51 (host := "") (Or.inl (hw _ (mm 25 rfl))) Via.refl Fc Xa (Or.inr ⟨(hw _ (mm 21 rfl)), rfl, hnm⟩) (hw _ (mm 5 rfl)) (ty := .byte) (by decide) rfl rfl (Or.inl (mm 0 rfl)) (mm 1 rfl) d3_48 rfl
  replace G := G'; clear G'
  replace Fv := Fv.other Wc2 (Or.inr (slot_ne (Or.inr (hw _ (mm 20 rfl))) (Or.inr (hw _ (mm 21 rfl))) (by decide) (t := (.array .byte)) (t' := .byte) (by decide) (by decide)))
  replace Xa := Xa.wr Wc2; replace Ab := Ab.keep Kc2 (ninS nba nin0)
  replace G := G.aloadN 52 d3_51 rfl rfl rfl |>.aload 54 d3_52 rfl rfl rfl
  obtain ⟨h3, G', Wv2', Fv2', Kv2'⟩ := G.putf 57 (host := "") (Or.inl (hw _ (mm 24 rfl))) Via.refl Fv Xa (Or.inr ⟨(hw _ (mm 20 rfl)), rfl, hnm⟩) (hw _ (mm 5 rfl)) (ty := (.array .byte)) (by decide) rfl rfl (Or.inl (mm 0 rfl)) (mm 1 rfl) d3_54 rfl
  replace G := G'; clear G'
  replace Fc2 := Fc2.other Wv2' (Or.inr (slot_ne (Or.inr (hw _ (mm 21 rfl))) (Or.inr (hw _ (mm 20 rfl))) (by decide) (t := .byte) (t' := (.array .byte)) (by decide) (by decide)))
  replace Xa := Xa.wr Wv2'; replace Ab := Ab.keep Kv2' (ninS nba nin0)
  have Ab2 : Arv Z h3 b kb .byte (Int32.ofNat (cs.map bytV).length) (cs.map bytV) (.int 0) := by rw [List.length_map]; exact Ab
  exact G.retV hret hlk d3_57 [b] (allS (mm 0 rfl) all0) ⟨rfl, b, ⟨Xa, Fc2, Fv2', kb, Ab2⟩, sb, rfl⟩ (nle rfl) (nle rfl)
theorem d2_0 : decode jdk_42_method_3_code 0 = .ok (.aload_n 0, 1) := by decide +kernel
theorem d2_1 : decode jdk_42_method_3_code 1 = .ok (.aload_n 1, 1) := by decide +kernel
theorem d2_2 : decode jdk_42_method_3_code 2 = .ok (.iconst 0, 1) := by decide +kernel
theorem d2_3 : decode jdk_42_method_3_code 3 = .ok (.aload_n 1, 1) := by decide +kernel
theorem d2_4 : decode jdk_42_method_3_code 4 = .ok (.arraylength, 1) := by decide +kernel
theorem d2_5 : decode jdk_42_method_3_code 5 = .ok (.aconst_null, 1) := by decide +kernel
theorem d2_6 : decode jdk_42_method_3_code 6 = .ok (.invokespecial 27, 3) := by decide +kernel
theorem d2_9 : decode jdk_42_method_3_code 9 = .ok (.return_, 1) := by decide +kernel
theorem c_strC (l : Launch) (Z : State) (a0 : Array Value) (hw : ∀ d ∈ tables_1, d.before a0 Z = true) (hEW : EW Z a0 consts_1) (n0 : Nat) (c1 : Int32) (hc1 : ¬ c1 = 0) (S1 : Sta Z Z.heap "java/lang/String" "COMPACT_STRINGS" "Z" (.int c1)) (v2 : Value) (hv2 : v2.isRef = true) (S2 : Sta Z Z.heap "jdk/internal/util/Preconditions" "SIOOBE_FORMATTER" "Ljava/util/function/BiFunction;" v2) (a va : Addr) (kv : ClassId) (cs : List Int32) {h0 : Heap} (o1 : Old Z n0 h0) (ge_a : n0 ≤ a) (Xa : Exa Z h0 a "java/lang/String") (Fv : Fld Z h0 a "java/lang/String" "value" "[B" .null) (Fc : Fld Z h0 a "java/lang/String" "coder" "B" (.int 0)) (hne : 0 < cs.length) (hmax : cs.length ≤ 2) (hc : ∀ x ∈ cs, ¬ (255 : Int32) < x) (Av : Arv Z h0 va kv .char (Int32.ofNat cs.length) (cs.map Value.int) (.int 0)) :
    Con Z a0 l (⟨"java/lang/String", "<init>", "([C)V"⟩ : MethodName) jdk_42_method_3_code 2 (none) ({ frames := 3, cells := 1, slots := 2, locals := 52 } : Room) [] #[(.ref a), (.ref va)] consts_1 h0 n0 [a] [a] (V0 fun h so => ∃ b, Str Z h a b (cs.map bytV) ∧ h0.size ≤ b ∧ so = [b]) := by
  refine Con.body (plainFor_of_name pn_java_lang_String) hEW o1 (allS ge_a all0) #[.val (.ref a), .val (.ref va)] (fun m => by first | (simp [entryFrame, mkF, argsToLocals, Value.category]; done) | rfl) ?_
  intro p e s m below meth c B hnm hret hlk G
  replace G := G.aloadN 1 d2_0 rfl rfl rfl |>.aloadN 2 d2_1 rfl rfl rfl |>.iconst 3 (0 : Int32) d2_2 rfl rfl |>.aloadN 4 d2_3 rfl rfl rfl |>.alen 5 Av d2_4 rfl |>.aconstNull 6 d2_5 rfl
  obtain ⟨vc, h1, soc, G', Kc, Qc⟩ := G.callI 9 rfl rfl (hw _ (mm 11 rfl)) (hw _ (mm 12 rfl)) (hw _ (mm 6 rfl)) (hw _ (mm 14 rfl)) (by decide) [(.ref va), (.int (0 : Int32)), (.int (Int32.ofNat cs.length)), .null] [] rfl (c_strCV l Z a0 hw hEW n0 c1 hc1 S1 v2 hv2 S2 a va kv cs G.old ge_a Xa Fv Fc hne hmax hc Av) (lenOf pd___CIILjava_lang_Void__V rfl) d2_6 rfl (nle rfl) (nle rfl) (nle rfl) (nle rfl) (allS (Or.inl (mm 0 rfl)) all0) (allS (mm 0 rfl) all0) (allS (mm 0 rfl) all0) rfl
  replace G := G'; clear G'
  obtain ⟨qc, b, hT, sb, rfl⟩ := Qc
  replace G := G.nov qc
  exact G.retV hret hlk d2_9 [b] (allS (mm 0 rfl) all0) ⟨rfl, b, hT, sb, rfl⟩ (nle rfl) (nle rfl)
theorem c_strEV (l : Launch) (Z : State) (a0 : Array Value) (hw : ∀ d ∈ tables_1, d.before a0 Z = true) (hEW : EW Z a0 consts_1) (n0 : Nat) (c1 : Int32) (hc1 : ¬ c1 = 0) (S1 : Sta Z Z.heap "java/lang/String" "COMPACT_STRINGS" "Z" (.int c1)) (v2 : Value) (hv2 : v2.isRef = true) (S2 : Sta Z Z.heap "jdk/internal/util/Preconditions" "SIOOBE_FORMATTER" "Ljava/util/function/BiFunction;" v2) (a va : Addr) (kv : ClassId) {h0 : Heap} (o1 : Old Z n0 h0) (ge_a : n0 ≤ a) (Xa : Exa Z h0 a "java/lang/String") (Fv : Fld Z h0 a "java/lang/String" "value" "[B" .null) (Fc : Fld Z h0 a "java/lang/String" "coder" "B" (.int 0)) (Av : Arv Z h0 va kv .char (0 : Int32) [] (.int 0)) :
    Con Z a0 l (⟨"java/lang/String", "<init>", "([CIILjava/lang/Void;)V"⟩ : MethodName) jdk_42_method_149_code 6 (none) ({ frames := 1, cells := 4, slots := 8, locals := 12 } : Room) [] #[(.ref a), (.ref va), (.int (0 : Int32)), (.int (0 : Int32)), .null] consts_1 h0 n0 [a] [a] (V0 fun h so => ∃ b, Str Z h a b [] ∧ b ≠ a ∧ so = []) := by
  refine Con.body (plainFor_of_name pn_java_lang_String) hEW o1 (allS ge_a all0) #[.val (.ref a), .val (.ref va), .val (.int (0 : Int32)), .val (.int (0 : Int32)), .val .null, .unset] (fun m => by first | (simp [entryFrame, mkF, argsToLocals, Value.category]; done) | rfl) ?_
  intro p e s m below meth c B hnm hret hlk G
  replace G := G.aloadN 1 d3_0 rfl rfl rfl |>.initO 4 (hw _ (mm 15 rfl)) (hw _ (mm 16 rfl)) (hw _ (mm 17 rfl)) d3_1 rfl (nle rfl) (nle rfl) rfl |>.iloadN 5 d3_4 rfl rfl |>.ifF 8 d3_5 (XT.i0_ne_f rfl) rfl |>.aloadN 9 d3_8 rfl rfl rfl
  obtain ⟨l1, l2, h1, kkx1, G', Ex1, Xx1, Fcx1, Fvx1, Ax1, nex1⟩ := G.ldcS 11 (hw _ (mm 18 rfl)) (wS_of hw) (mm 1 rfl) (vs := []) (z := (0 : Int32)) (by decide) (by decide) rfl d3_9 0 (by decide) (by decide) (nle rfl) (nle rfl) rfl
  replace G := G'; clear G'
  replace Xa := Xa.ext Ex1; replace Fv := Fv.ext Ex1; replace Fc := Fc.ext Ex1; have n1 := (nex1 a (mm 0 rfl)).2
  replace G := G.getf 14 (host := "") (Or.inl (hw _ (mm 24 rfl))) Via.refl Fvx1 d3_11 rfl
  obtain ⟨h2, G', Wv', Fv', Kv'⟩ := G.putf 17 (host := "") (Or.inl (hw _ (mm 24 rfl))) Via.refl Fv Xa (Or.inr ⟨(hw _ (mm 20 rfl)), rfl, hnm⟩) (hw _ (mm 5 rfl)) (ty := (.array .byte)) (by decide) rfl rfl (Or.inl (mm 0 rfl)) (mm 0 rfl) d3_14 rfl
  replace G := G'; clear G'
  replace Fc := Fc.other Wv' (Or.inr (slot_ne (Or.inr (hw _ (mm 21 rfl))) (Or.inr (hw _ (mm 20 rfl))) (by decide) (t := .byte) (t' := (.array .byte)) (by decide) (by decide))); replace Xa := Xa.wr Wv'; replace Ax1 := Ax1.keep Kv' (ninS n1.symm nin0)
  replace G := G.aloadN 18 d3_17 rfl rfl rfl
  obtain ⟨l3, l4, h3, kkx2, G', Ex2, Xx2, Fcx2, Fvx2, Ax2, nex2⟩ := G.ldcS 20 (hw _ (mm 18 rfl)) (wS_of hw) (mm 1 rfl) (vs := []) (z := (0 : Int32)) (by decide) (by decide) rfl d3_18 0 (by decide) (by decide) (nle rfl) (nle rfl) rfl
  replace G := G'; clear G'
  replace Xa := Xa.ext Ex2; replace Fv' := Fv'.ext Ex2; replace Fc := Fc.ext Ex2; replace Ax1 := Ax1.ext Ex2
  replace G := G.getf 23 (host := "") (Or.inl (hw _ (mm 25 rfl))) Via.refl Fcx2 d3_20 rfl
  obtain ⟨h4, G', Wc', Fc', Kc'⟩ := G.putf 26 (host := "") (Or.inl (hw _ (mm 25 rfl))) Via.refl Fc Xa (Or.inr ⟨(hw _ (mm 21 rfl)), rfl, hnm⟩) (hw _ (mm 5 rfl)) (ty := .byte) (by decide) rfl rfl (Or.inl (mm 0 rfl)) (mm 0 rfl) d3_23 rfl
  replace G := G'; clear G'
  replace Fv' := Fv'.other Wc' (Or.inr (slot_ne (Or.inr (hw _ (mm 20 rfl))) (Or.inr (hw _ (mm 21 rfl))) (by decide) (t := (.array .byte)) (t' := .byte) (by decide) (by decide))); replace Xa := Xa.wr Wc'; replace Ax1 := Ax1.keep Kc' (ninS n1.symm nin0)
  exact G.retV hret hlk d3_26 [] all0 ⟨rfl, l2, ⟨Xa, Fc', Fv', _, Ax1⟩, n1.symm, rfl⟩ (nle rfl) (nle rfl)
theorem c_strE (l : Launch) (Z : State) (a0 : Array Value) (hw : ∀ d ∈ tables_1, d.before a0 Z = true) (hEW : EW Z a0 consts_1) (n0 : Nat) (c1 : Int32) (hc1 : ¬ c1 = 0) (S1 : Sta Z Z.heap "java/lang/String" "COMPACT_STRINGS" "Z" (.int c1)) (v2 : Value) (hv2 : v2.isRef = true) (S2 : Sta Z Z.heap "jdk/internal/util/Preconditions" "SIOOBE_FORMATTER" "Ljava/util/function/BiFunction;" v2) (a va : Addr) (kv : ClassId) {h0 : Heap} (o1 : Old Z n0 h0) (ge_a : n0 ≤ a) (Xa : Exa Z h0 a "java/lang/String") (Fv : Fld Z h0 a "java/lang/String" "value" "[B" .null) (Fc : Fld Z h0 a "java/lang/String" "coder" "B" (.int 0)) (Av : Arv Z h0 va kv .char (0 : Int32) [] (.int 0)) :
    Con Z a0 l (⟨"java/lang/String", "<init>", "([C)V"⟩ : MethodName) jdk_42_method_3_code 2 (none) ({ frames := 2, cells := 4, slots := 8, locals := 29 } : Room) [] #[(.ref a), (.ref va)] consts_1 h0 n0 [a] [a] (V0 fun h so => ∃ b, Str Z h a b [] ∧ b ≠ a ∧ so = []) := by
  refine Con.body (plainFor_of_name pn_java_lang_String) hEW o1 (allS ge_a all0) #[.val (.ref a), .val (.ref va)] (fun m => by first | (simp [entryFrame, mkF, argsToLocals, Value.category]; done) | rfl) ?_
  intro p e s m below meth c B hnm hret hlk G
  replace G := G.aloadN 1 d2_0 rfl rfl rfl |>.aloadN 2 d2_1 rfl rfl rfl |>.iconst 3 (0 : Int32) d2_2 rfl rfl |>.aloadN 4 d2_3 rfl rfl rfl |>.alen 5 Av d2_4 rfl |>.aconstNull 6 d2_5 rfl
  obtain ⟨vc, h1, soc, G', Kc, Qc⟩ := G.callI 9 rfl rfl (hw _ (mm 11 rfl)) (hw _ (mm 12 rfl)) (hw _ (mm 6 rfl)) (hw _ (mm 14 rfl)) (by decide) [(.ref va), (.int (0 : Int32)), (.int (0 : Int32)), .null] [] rfl (c_strEV l Z a0 hw hEW n0 c1 hc1 S1 v2 hv2 S2 a va kv G.old ge_a Xa Fv Fc Av) (lenOf pd___CIILjava_lang_Void__V rfl) d2_6 rfl (nle rfl) (nle rfl) (nle rfl) (nle rfl) (allS (Or.inl (mm 0 rfl)) all0) (allS (mm 0 rfl) all0) (allS (mm 0 rfl) all0) rfl
  replace G := G'; clear G'
  obtain ⟨qc, b, hT, nb, rfl⟩ := Qc
  replace G := G.nov qc
  exact G.retV hret hlk d2_9 [] all0 ⟨rfl, b, hT, nb, rfl⟩ (nle rfl) (nle rfl)
theorem d1_0 : decode method_2_code 0 = .ok (.iload_n 0, 1) := by decide +kernel
theorem d1_1 : decode method_2_code 1 = .ok (.ifCond .ne 14, 3) := by decide +kernel
theorem d1_4 : decode method_2_code 4 = .ok (.new 7, 3) := by decide +kernel
theorem d1_7 : decode method_2_code 7 = .ok (.dup, 1) := by decide +kernel
theorem d1_8 : decode method_2_code 8 = .ok (.iconst 0, 1) := by decide +kernel
theorem d1_9 : decode method_2_code 9 = .ok (.newarray .char, 2) := by decide +kernel
theorem d1_11 : decode method_2_code 11 = .ok (.invokespecial 9, 3) := by decide +kernel
theorem d1_14 : decode method_2_code 14 = .ok (.areturn, 1) := by decide +kernel
theorem d1_15 : decode method_2_code 15 = .ok (.iload_n 0, 1) := by decide +kernel
theorem d1_16 : decode method_2_code 16 = .ok (.iconst 1, 1) := by decide +kernel
theorem d1_17 : decode method_2_code 17 = .ok (.if_icmp .ne 18, 3) := by decide +kernel
theorem d1_20 : decode method_2_code 20 = .ok (.new 7, 3) := by decide +kernel
theorem d1_23 : decode method_2_code 23 = .ok (.dup, 1) := by decide +kernel
theorem d1_24 : decode method_2_code 24 = .ok (.iconst 1, 1) := by decide +kernel
theorem d1_25 : decode method_2_code 25 = .ok (.newarray .char, 2) := by decide +kernel
theorem d1_27 : decode method_2_code 27 = .ok (.dup, 1) := by decide +kernel
theorem d1_28 : decode method_2_code 28 = .ok (.iconst 0, 1) := by decide +kernel
theorem d1_29 : decode method_2_code 29 = .ok (.iload_n 1, 1) := by decide +kernel
theorem d1_30 : decode method_2_code 30 = .ok (.castore, 1) := by decide +kernel
theorem d1_31 : decode method_2_code 31 = .ok (.invokespecial 9, 3) := by decide +kernel
theorem d1_34 : decode method_2_code 34 = .ok (.areturn, 1) := by decide +kernel
theorem d1_35 : decode method_2_code 35 = .ok (.new 7, 3) := by decide +kernel
theorem d1_38 : decode method_2_code 38 = .ok (.dup, 1) := by decide +kernel
theorem d1_39 : decode method_2_code 39 = .ok (.iconst 2, 1) := by decide +kernel
theorem d1_40 : decode method_2_code 40 = .ok (.newarray .char, 2) := by decide +kernel
theorem d1_42 : decode method_2_code 42 = .ok (.dup, 1) := by decide +kernel
theorem d1_43 : decode method_2_code 43 = .ok (.iconst 0, 1) := by decide +kernel
theorem d1_44 : decode method_2_code 44 = .ok (.iload_n 1, 1) := by decide +kernel
theorem d1_45 : decode method_2_code 45 = .ok (.castore, 1) := by decide +kernel
theorem d1_46 : decode method_2_code 46 = .ok (.dup, 1) := by decide +kernel
theorem d1_47 : decode method_2_code 47 = .ok (.iconst 1, 1) := by decide +kernel
theorem d1_48 : decode method_2_code 48 = .ok (.iload_n 2, 1) := by decide +kernel
theorem d1_49 : decode method_2_code 49 = .ok (.castore, 1) := by decide +kernel
theorem d1_50 : decode method_2_code 50 = .ok (.invokespecial 9, 3) := by decide +kernel
theorem d1_53 : decode method_2_code 53 = .ok (.areturn, 1) := by decide +kernel
theorem c_mk0 (l : Launch) (Z : State) (a0 : Array Value) (hw : ∀ d ∈ tables_1, d.before a0 Z = true) (hEW : EW Z a0 consts_1) (n0 : Nat) (c1 : Int32) (hc1 : ¬ c1 = 0) (S1 : Sta Z Z.heap "java/lang/String" "COMPACT_STRINGS" "Z" (.int c1)) (v2 : Value) (hv2 : v2.isRef = true) (S2 : Sta Z Z.heap "jdk/internal/util/Preconditions" "SIOOBE_FORMATTER" "Ljava/util/function/BiFunction;" v2) (x y : Nat) {h0 : Heap} (o1 : Old Z n0 h0) (hx : x < 256) (hy : y < 256) :
    Con Z a0 l (⟨"com/example/fianza/fianza/InputExceptionInPinLaw", "str", "(ICC)Ljava/lang/String;"⟩ : MethodName) method_2_code 3 (some (.object "java/lang/String")) ({ frames := 4, cells := 6, slots := 14, locals := 66 } : Room) [] #[(.int (Int32.ofNat 0)), (.int (Int32.ofNat x)), (.int (Int32.ofNat y))] consts_1 h0 n0 [] [] (VV fun w h so => ∃ a b, w = .ref a ∧ Str Z h a b (bl (mkL 0 x y)) ∧ h0.size ≤ a ∧ so = [a]) := by
  refine Con.body (plainFor_of_name pn_com_example_fianza_fianza_InputExceptionInPinLaw) hEW o1 all0 #[.val (.int (Int32.ofNat 0)), .val (.int (Int32.ofNat x)), .val (.int (Int32.ofNat y))] (fun m => by first | (simp [entryFrame, mkF, argsToLocals, Value.category]; done) | rfl) ?_
  intro p e s m below meth c B hnm hret hlk G
  replace G := G.iloadN 1 d1_0 rfl rfl |>.ifF 4 d1_1 (XT.i0_ne_f rfl) rfl
  obtain ⟨sa, g1, G', gsa, ssa, Esa, Xsa, Dsa, Usa⟩ := G.new 7 (hw _ (mm 4 rfl)) (hw _ (mm 5 rfl)) (hw _ (mm 6 rfl)) d1_4 rfl (nle rfl) (nle rfl)
  replace G := G'; clear G'
  have Fv := Dsa (Or.inr (hw _ (mm 20 rfl))) (ty := .array .byte) (by decide); have Fc := Dsa (Or.inr (hw _ (mm 21 rfl))) (ty := .byte) (by decide)
  replace G := G.dup 8 d1_7 rfl rfl |>.iconst 9 (0 : Int32) d1_8 rfl rfl
  obtain ⟨ca, g2, kca, G', gca, sca, Eca, Aca⟩ := G.newarray 11 (hw _ (mm 7 rfl)) d1_9 (by decide) 2 (nle rfl) (by decide) rfl (nle rfl) (nle rfl)
  replace G := G'; clear G'
  have nsc : sa ≠ ca := ne_new gca Xsa.lt; replace Xsa := Xsa.ext Eca; replace Fv := Fv.ext Eca; replace Fc := Fc.ext Eca
  have hA : Arv Z g2 ca kca .char (0 : Int32) [] (.int 0) := Aca
  obtain ⟨vc, g9, soc, G', Kc, Qc⟩ := G.callI 14 rfl rfl (hw _ (mm 8 rfl)) (hw _ (mm 9 rfl)) (hw _ (mm 6 rfl)) (hw _ (mm 10 rfl)) (by decide) [(.ref ca)] [(.ref sa)] rfl (c_strE l Z a0 hw hEW n0 c1 hc1 S1 v2 hv2 S2 sa ca kca G.old (G.nw (Or.inr ssa)) Xsa Fv Fc hA) (lenOf pd___C_V rfl) d1_11 rfl (nle rfl) (nle rfl) (nle rfl) (nle rfl) (allS (Or.inr ssa) all0) (allS (mm 1 rfl) all0) (allS (mm 1 rfl) all0) rfl
  replace G := G'; clear G'
  obtain ⟨qc, sb, hT, -, rfl⟩ := Qc
  replace G := G.nov qc
  exact G.retA hret rfl rfl hlk d1_14 [sa] (allS (mm 1 rfl) all0) ⟨_, rfl, sa, sb, rfl, hT, ssa, rfl⟩ (nle rfl) (nle rfl)
theorem c_mk1 (l : Launch) (Z : State) (a0 : Array Value) (hw : ∀ d ∈ tables_1, d.before a0 Z = true) (hEW : EW Z a0 consts_1) (n0 : Nat) (c1 : Int32) (hc1 : ¬ c1 = 0) (S1 : Sta Z Z.heap "java/lang/String" "COMPACT_STRINGS" "Z" (.int c1)) (v2 : Value) (hv2 : v2.isRef = true) (S2 : Sta Z Z.heap "jdk/internal/util/Preconditions" "SIOOBE_FORMATTER" "Ljava/util/function/BiFunction;" v2) (x y : Nat) {h0 : Heap} (o1 : Old Z n0 h0) (hx : x < 256) (hy : y < 256) :
    Con Z a0 l (⟨"com/example/fianza/fianza/InputExceptionInPinLaw", "str", "(ICC)Ljava/lang/String;"⟩ : MethodName) method_2_code 3 (some (.object "java/lang/String")) ({ frames := 4, cells := 6, slots := 14, locals := 66 } : Room) [] #[(.int (Int32.ofNat 1)), (.int (Int32.ofNat x)), (.int (Int32.ofNat y))] consts_1 h0 n0 [] [] (VV fun w h so => ∃ a b, w = .ref a ∧ Str Z h a b (bl (mkL 1 x y)) ∧ h0.size ≤ a ∧ so = [a]) := by
  refine Con.body (plainFor_of_name pn_com_example_fianza_fianza_InputExceptionInPinLaw) hEW o1 all0 #[.val (.int (Int32.ofNat 1)), .val (.int (Int32.ofNat x)), .val (.int (Int32.ofNat y))] (fun m => by first | (simp [entryFrame, mkF, argsToLocals, Value.category]; done) | rfl) ?_
  intro p e s m below meth c B hnm hret hlk G
  replace G := G.iloadN 1 d1_0 rfl rfl |>.ifT 15 d1_1 (XT.i0_ne_t (by decide)) (by decide) (by decide) |>.iloadN 16 d1_15 rfl rfl |>.iconst 17 (1 : Int32) d1_16 rfl rfl |>.icmpF 20 d1_17 (XT.ii_ne_f rfl) rfl
  obtain ⟨sa, g1, G', gsa, ssa, Esa, Xsa, Dsa, Usa⟩ := G.new 23 (hw _ (mm 4 rfl)) (hw _ (mm 5 rfl)) (hw _ (mm 6 rfl)) d1_20 rfl (nle rfl) (nle rfl)
  replace G := G'; clear G'
  have Fv := Dsa (Or.inr (hw _ (mm 20 rfl))) (ty := .array .byte) (by decide); have Fc := Dsa (Or.inr (hw _ (mm 21 rfl))) (ty := .byte) (by decide)
  replace G := G.dup 24 d1_23 rfl rfl |>.iconst 25 (1 : Int32) d1_24 rfl rfl
  obtain ⟨ca, g2, kca, G', gca, sca, Eca, Aca⟩ := G.newarray 27 (hw _ (mm 7 rfl)) d1_25 (by decide) 2 (nle rfl) (by decide) rfl (nle rfl) (nle rfl)
  replace G := G'; clear G'
  have nsc : sa ≠ ca := ne_new gca Xsa.lt; replace Xsa := Xsa.ext Eca; replace Fv := Fv.ext Eca; replace Fc := Fc.ext Eca
  have hA : Arv Z g2 ca kca .char (1 : Int32) [(.int 0)] (.int 0) := Aca.pad (pad_rep [] (.int 0) 1)
  replace G := G.dup 28 d1_27 rfl rfl |>.iconst 29 (0 : Int32) d1_28 rfl rfl |>.iloadN 30 d1_29 rfl rfl
  obtain ⟨g3, G', As, Ks⟩ := G.castore 31 0 hA (by decide) rfl (nle rfl) (Or.inr sca) (mm 0 rfl) d1_30 rfl
  replace G := G'; clear G'
  replace hA : Arv Z g3 ca kca .char 1 [(.int (Int32.ofNat x))] (.int 0) := by have h := As; rw [show nar FieldType.char (Int32.ofNat x) = Int32.ofNat x from i2c_n hx] at h; exact h
  replace Xsa := Xsa.keep Ks; replace Fv := Fv.keep Ks (ninS nsc nin0); replace Fc := Fc.keep Ks (ninS nsc nin0)
  obtain ⟨vc, g9, soc, G', Kc, Qc⟩ := G.callI 34 rfl rfl (hw _ (mm 8 rfl)) (hw _ (mm 9 rfl)) (hw _ (mm 6 rfl)) (hw _ (mm 10 rfl)) (by decide) [(.ref ca)] [(.ref sa)] rfl (c_strC l Z a0 hw hEW n0 c1 hc1 S1 v2 hv2 S2 sa ca kca [Int32.ofNat x] G.old (G.nw (Or.inr ssa)) Xsa Fv Fc (nle rfl) (nle rfl) (by intro z hz; simp only [List.mem_cons, List.not_mem_nil, or_false] at hz; rcases hz with rfl <;> first | exact c255 hx | exact c255 hy) hA) (lenOf pd___C_V rfl) d1_31 rfl (nle rfl) (nle rfl) (nle rfl) (nle rfl) (allS (Or.inr ssa) all0) (allS (mm 1 rfl) all0) (allS (mm 1 rfl) all0) rfl
  replace G := G'; clear G'
  obtain ⟨qc, sb, hT, -, rfl⟩ := Qc
  replace G := G.nov qc
  exact G.retA hret rfl rfl hlk d1_34 [sa] (allS (mm 2 rfl) all0) ⟨_, rfl, sa, sb, rfl, hT, ssa, rfl⟩ (nle rfl) (nle rfl)
theorem c_mk2 (l : Launch) (Z : State) (a0 : Array Value) (hw : ∀ d ∈ tables_1, d.before a0 Z = true) (hEW : EW Z a0 consts_1) (n0 : Nat) (c1 : Int32) (hc1 : ¬ c1 = 0) (S1 : Sta Z Z.heap "java/lang/String" "COMPACT_STRINGS" "Z" (.int c1)) (v2 : Value) (hv2 : v2.isRef = true) (S2 : Sta Z Z.heap "jdk/internal/util/Preconditions" "SIOOBE_FORMATTER" "Ljava/util/function/BiFunction;" v2) (x y : Nat) {h0 : Heap} (o1 : Old Z n0 h0) (hx : x < 256) (hy : y < 256) :
    Con Z a0 l (⟨"com/example/fianza/fianza/InputExceptionInPinLaw", "str", "(ICC)Ljava/lang/String;"⟩ : MethodName) method_2_code 3 (some (.object "java/lang/String")) ({ frames := 4, cells := 6, slots := 14, locals := 66 } : Room) [] #[(.int (Int32.ofNat 2)), (.int (Int32.ofNat x)), (.int (Int32.ofNat y))] consts_1 h0 n0 [] [] (VV fun w h so => ∃ a b, w = .ref a ∧ Str Z h a b (bl (mkL 2 x y)) ∧ h0.size ≤ a ∧ so = [a]) := by
  refine Con.body (plainFor_of_name pn_com_example_fianza_fianza_InputExceptionInPinLaw) hEW o1 all0 #[.val (.int (Int32.ofNat 2)), .val (.int (Int32.ofNat x)), .val (.int (Int32.ofNat y))] (fun m => by first | (simp [entryFrame, mkF, argsToLocals, Value.category]; done) | rfl) ?_
  intro p e s m below meth c B hnm hret hlk G
  replace G := G.iloadN 1 d1_0 rfl rfl |>.ifT 15 d1_1 (XT.i0_ne_t (by decide)) (by decide) (by decide) |>.iloadN 16 d1_15 rfl rfl |>.iconst 17 (1 : Int32) d1_16 rfl rfl |>.icmpT 35 d1_17 (XT.ii_ne_t (by decide)) (by decide) (by decide)
  obtain ⟨sa, g1, G', gsa, ssa, Esa, Xsa, Dsa, Usa⟩ := G.new 38 (hw _ (mm 4 rfl)) (hw _ (mm 5 rfl)) (hw _ (mm 6 rfl)) d1_35 rfl (nle rfl) (nle rfl)
  replace G := G'; clear G'
  have Fv := Dsa (Or.inr (hw _ (mm 20 rfl))) (ty := .array .byte) (by decide); have Fc := Dsa (Or.inr (hw _ (mm 21 rfl))) (ty := .byte) (by decide)
  replace G := G.dup 39 d1_38 rfl rfl |>.iconst 40 (2 : Int32) d1_39 rfl rfl
  obtain ⟨ca, g2, kca, G', gca, sca, Eca, Aca⟩ := G.newarray 42 (hw _ (mm 7 rfl)) d1_40 (by decide) 2 (nle rfl) (by decide) rfl (nle rfl) (nle rfl)
  replace G := G'; clear G'
  have nsc : sa ≠ ca := ne_new gca Xsa.lt; replace Xsa := Xsa.ext Eca; replace Fv := Fv.ext Eca; replace Fc := Fc.ext Eca
  have hA : Arv Z g2 ca kca .char (2 : Int32) [(.int 0), (.int 0)] (.int 0) := Aca.pad (pad_rep [] (.int 0) 2)
  replace G := G.dup 43 d1_42 rfl rfl |>.iconst 44 (0 : Int32) d1_43 rfl rfl |>.iloadN 45 d1_44 rfl rfl
  obtain ⟨g3, G', As, Ks⟩ := G.castore 46 0 hA (by decide) rfl (nle rfl) (Or.inr sca) (mm 0 rfl) d1_45 rfl
  replace G := G'; clear G'
  replace hA : Arv Z g3 ca kca .char 2 [(.int (Int32.ofNat x)), (.int 0)] (.int 0) := by have h := As; rw [show nar FieldType.char (Int32.ofNat x) = Int32.ofNat x from i2c_n hx] at h; exact h
  replace Xsa := Xsa.keep Ks; replace Fv := Fv.keep Ks (ninS nsc nin0); replace Fc := Fc.keep Ks (ninS nsc nin0)
  replace G := G.dup 47 d1_46 rfl rfl |>.iconst 48 (1 : Int32) d1_47 rfl rfl |>.iloadN 49 d1_48 rfl rfl
  obtain ⟨g4, G', As, Ks⟩ := G.castore 50 1 hA (by decide) rfl (nle rfl) (Or.inr sca) (mm 0 rfl) d1_49 rfl
  replace G := G'; clear G'
  replace hA : Arv Z g4 ca kca .char 2 [(.int (Int32.ofNat x)), (.int (Int32.ofNat y))] (.int 0) := by have h := As; rw [show nar FieldType.char (Int32.ofNat y) = Int32.ofNat y from i2c_n hy] at h; exact h
  replace Xsa := Xsa.keep Ks; replace Fv := Fv.keep Ks (ninS nsc nin0); replace Fc := Fc.keep Ks (ninS nsc nin0)
  obtain ⟨vc, g9, soc, G', Kc, Qc⟩ := G.callI 53 rfl rfl (hw _ (mm 8 rfl)) (hw _ (mm 9 rfl)) (hw _ (mm 6 rfl)) (hw _ (mm 10 rfl)) (by decide) [(.ref ca)] [(.ref sa)] rfl (c_strC l Z a0 hw hEW n0 c1 hc1 S1 v2 hv2 S2 sa ca kca [Int32.ofNat x, Int32.ofNat y] G.old (G.nw (Or.inr ssa)) Xsa Fv Fc (nle rfl) (nle rfl) (by intro z hz; simp only [List.mem_cons, List.not_mem_nil, or_false] at hz; rcases hz with rfl | rfl <;> first | exact c255 hx | exact c255 hy) hA) (lenOf pd___C_V rfl) d1_50 rfl (nle rfl) (nle rfl) (nle rfl) (nle rfl) (allS (Or.inr ssa) all0) (allS (mm 1 rfl) all0) (allS (mm 1 rfl) all0) rfl
  replace G := G'; clear G'
  obtain ⟨qc, sb, hT, -, rfl⟩ := Qc
  replace G := G.nov qc
  exact G.retA hret rfl rfl hlk d1_53 [sa] (allS (mm 2 rfl) all0) ⟨_, rfl, sa, sb, rfl, hT, ssa, rfl⟩ (nle rfl) (nle rfl)
theorem c_mk (l : Launch) (Z : State) (a0 : Array Value) (hw : ∀ d ∈ tables_1, d.before a0 Z = true) (hEW : EW Z a0 consts_1) (n0 : Nat) (c1 : Int32) (hc1 : ¬ c1 = 0) (S1 : Sta Z Z.heap "java/lang/String" "COMPACT_STRINGS" "Z" (.int c1)) (v2 : Value) (hv2 : v2.isRef = true) (S2 : Sta Z Z.heap "jdk/internal/util/Preconditions" "SIOOBE_FORMATTER" "Ljava/util/function/BiFunction;" v2) (n x y : Nat) {h0 : Heap} (o1 : Old Z n0 h0) (hn : n ≤ 2) (hx : x < 256) (hy : y < 256) :
    Con Z a0 l (⟨"com/example/fianza/fianza/InputExceptionInPinLaw", "str", "(ICC)Ljava/lang/String;"⟩ : MethodName) method_2_code 3 (some (.object "java/lang/String")) ({ frames := 4, cells := 6, slots := 14, locals := 66 } : Room) [] #[(.int (Int32.ofNat n)), (.int (Int32.ofNat x)), (.int (Int32.ofNat y))] consts_1 h0 n0 [] [] (VV fun w h so => ∃ a b, w = .ref a ∧ Str Z h a b (bl (mkL n x y)) ∧ h0.size ≤ a ∧ so = [a]) := by
  rcases (show n = 0 ∨ n = 1 ∨ n = 2 by omega) with rfl | rfl | rfl
  · exact c_mk0 l Z a0 hw hEW n0 c1 hc1 S1 v2 hv2 S2 x y o1 hx hy
  · exact c_mk1 l Z a0 hw hEW n0 c1 hc1 S1 v2 hv2 S2 x y o1 hx hy
  · exact c_mk2 l Z a0 hw hEW n0 c1 hc1 S1 v2 hv2 S2 x y o1 hx hy
theorem d30_0 : decode jdk_78_method_2_code 0 = .ok (.aload_n 0, 1) := by decide +kernel
theorem d30_1 : decode jdk_78_method_2_code 1 = .ok (.invokespecial 1, 3) := by decide +kernel
theorem d30_4 : decode jdk_78_method_2_code 4 = .ok (.aload_n 0, 1) := by decide +kernel
theorem d30_5 : decode jdk_78_method_2_code 5 = .ok (.aload_n 0, 1) := by decide +kernel
theorem d30_6 : decode jdk_78_method_2_code 6 = .ok (.putfield 7, 3) := by decide +kernel
theorem d30_9 : decode jdk_78_method_2_code 9 = .ok (.aload_n 0, 1) := by decide +kernel
theorem d30_10 : decode jdk_78_method_2_code 10 = .ok (.getstatic 13, 3) := by decide +kernel
theorem d30_13 : decode jdk_78_method_2_code 13 = .ok (.putfield 17, 3) := by decide +kernel
theorem d30_16 : decode jdk_78_method_2_code 16 = .ok (.aload_n 0, 1) := by decide +kernel
theorem d30_17 : decode jdk_78_method_2_code 17 = .ok (.getstatic 20, 3) := by decide +kernel
theorem d30_20 : decode jdk_78_method_2_code 20 = .ok (.putfield 24, 3) := by decide +kernel
theorem d30_23 : decode jdk_78_method_2_code 23 = .ok (.aload_n 0, 1) := by decide +kernel
theorem d30_24 : decode jdk_78_method_2_code 24 = .ok (.invokevirtual 27, 3) := by decide +kernel
theorem d30_27 : decode jdk_78_method_2_code 27 = .ok (.pop, 1) := by decide +kernel
theorem d30_28 : decode jdk_78_method_2_code 28 = .ok (.aload_n 0, 1) := by decide +kernel
theorem d30_29 : decode jdk_78_method_2_code 29 = .ok (.aload_n 1, 1) := by decide +kernel
theorem d30_30 : decode jdk_78_method_2_code 30 = .ok (.putfield 31, 3) := by decide +kernel
theorem d30_33 : decode jdk_78_method_2_code 33 = .ok (.return_, 1) := by decide +kernel
theorem c_tI (l : Launch) (Z : State) (a0 : Array Value) (hw : ∀ d ∈ tables_1, d.before a0 Z = true) (hEW : EW Z a0 consts_1) (n0 : Nat) (c1 : Int32) (hc1 : ¬ c1 = 0) (S1 : Sta Z Z.heap "java/lang/String" "COMPACT_STRINGS" "Z" (.int c1)) (v2 : Value) (hv2 : v2.isRef = true) (S2 : Sta Z Z.heap "jdk/internal/util/Preconditions" "SIOOBE_FORMATTER" "Ljava/util/function/BiFunction;" v2) (hTr : ∀ e : Env, l.admits e → e.platform.stackTraces = true) (u' : Addr) (SU : Sta Z Z.heap "java/lang/Throwable" "UNASSIGNED_STACK" "[Ljava/lang/StackTraceElement;" (.ref u')) (vs' : Value) (hvs : vs'.isRef = true) (SS : Sta Z Z.heap "java/lang/Throwable" "SUPPRESSED_SENTINEL" "Ljava/util/List;" vs') (q t : Addr) {h0 : Heap} (o1 : Old Z n0 h0) (ge_q : n0 ≤ q) (Xq : Exa Z h0 q "com/example/fianza/fianza/InputException") (Uq : Unt h0 q) (Fc : Fld Z h0 q "java/lang/Throwable" "cause" "Ljava/lang/Throwable;" .null) (Fs : Fld Z h0 q "java/lang/Throwable" "stackTrace" "[Ljava/lang/StackTraceElement;" .null) (Fp : Fld Z h0 q "java/lang/Throwable" "suppressedExceptions" "Ljava/util/List;" .null) (Fb : Fld Z h0 q "java/lang/Throwable" "backtrace" "Ljava/lang/Object;" .null) (Fm : Fld Z h0 q "java/lang/Throwable" "detailMessage" "Ljava/lang/String;" .null) :
    ConK Z a0 l (⟨"java/lang/Throwable", "<init>", "(Ljava/lang/String;)V"⟩ : MethodName) jdk_78_method_2_code 2 (none) ({ frames := 3, cells := 1, slots := 2752, locals := 42 } : Room) [] #[(.ref q), (.ref t)] consts_1 h0 n0 [q] [q] (V0 fun h so => Exa Z h q "com/example/fianza/fianza/InputException" ∧ Fld Z h q "java/lang/Throwable" "detailMessage" "Ljava/lang/String;" (.ref t) ∧ so = []) := by
  refine ConK.body (plainFor_of_name pn_java_lang_Throwable) hEW o1 (allS ge_q all0) #[.val (.ref q), .val (.ref t)] (fun m => by first | (simp [entryFrame, mkF, argsToLocals, Value.category]; done) | rfl) ?_
  intro p e s m below meth c B hTK hBl hnm hret hlk G
  replace G := G.aloadN 1 d30_0 rfl rfl rfl |>.initO 4 (hw _ (mm 164 rfl)) (hw _ (mm 16 rfl)) (hw _ (mm 17 rfl)) d30_1 rfl (nle rfl) (nle rfl) rfl |>.aloadN 5 d30_4 rfl rfl rfl |>.aloadN 6 d30_5 rfl rfl rfl
  obtain ⟨h1, G', Wc', Fc', Kc'⟩ := G.putf 9 (host := "") (Or.inl (hw _ (mm 165 rfl))) Via.refl Fc Xq (Or.inl (hw _ (mm 166 rfl))) (hw _ (mm 31 rfl)) (ty := (.object "java/lang/Throwable")) (by decide) rfl rfl (Or.inl (mm 0 rfl)) (mm 0 rfl) d30_6 rfl
  replace G := G'; clear G'
  replace Fs := Fs.other Wc' (Or.inr (slot_ne (Or.inl (hw _ (mm 169 rfl))) (Or.inl (hw _ (mm 166 rfl))) (by decide) (t := (.array (.object "java/lang/StackTraceElement"))) (t' := (.object "java/lang/Throwable")) (by decide) (by decide))); replace Fp := Fp.other Wc' (Or.inr (slot_ne (Or.inl (hw _ (mm 172 rfl))) (Or.inl (hw _ (mm 166 rfl))) (by decide) (t := (.object "java/util/List")) (t' := (.object "java/lang/Throwable")) (by decide) (by decide))); replace Fb := Fb.other Wc' (Or.inr (slot_ne (Or.inl (hw _ (mm 197 rfl))) (Or.inl (hw _ (mm 166 rfl))) (by decide) (t := (.object "java/lang/Object")) (t' := (.object "java/lang/Throwable")) (by decide) (by decide))); replace Fm := Fm.other Wc' (Or.inr (slot_ne (Or.inl (hw _ (mm 196 rfl))) (Or.inl (hw _ (mm 166 rfl))) (by decide) (t := (.object "java/lang/String")) (t' := (.object "java/lang/Throwable")) (by decide) (by decide))); replace Xq := Xq.wr Wc'; replace Uq := Uq.wr Wc'
  replace G := G.aloadN 10 d30_9 rfl rfl rfl |>.gets 13 (host := "") (Or.inl (hw _ (mm 167 rfl))) Via.refl (G.sta SU) d30_10 rfl
  obtain ⟨h2, G', Ws', Fs', Ks'⟩ := G.putf 16 (host := "") (Or.inl (hw _ (mm 168 rfl))) Via.refl Fs Xq (Or.inl (hw _ (mm 169 rfl))) (hw _ (mm 31 rfl)) (ty := (.array (.object "java/lang/StackTraceElement"))) (by decide) rfl rfl (Or.inl (mm 0 rfl)) (mm 0 rfl) d30_13 rfl
  replace G := G'; clear G'
  replace Fp := Fp.other Ws' (Or.inr (slot_ne (Or.inl (hw _ (mm 172 rfl))) (Or.inl (hw _ (mm 169 rfl))) (by decide) (t := (.object "java/util/List")) (t' := (.array (.object "java/lang/StackTraceElement"))) (by decide) (by decide))); replace Fb := Fb.other Ws' (Or.inr (slot_ne (Or.inl (hw _ (mm 197 rfl))) (Or.inl (hw _ (mm 169 rfl))) (by decide) (t := (.object "java/lang/Object")) (t' := (.array (.object "java/lang/StackTraceElement"))) (by decide) (by decide))); replace Fm := Fm.other Ws' (Or.inr (slot_ne (Or.inl (hw _ (mm 196 rfl))) (Or.inl (hw _ (mm 169 rfl))) (by decide) (t := (.object "java/lang/String")) (t' := (.array (.object "java/lang/StackTraceElement"))) (by decide) (by decide))); replace Xq := Xq.wr Ws'; replace Uq := Uq.wr Ws'
  replace G := G.aloadN 17 d30_16 rfl rfl rfl |>.gets 20 (host := "") (Or.inl (hw _ (mm 170 rfl))) Via.refl (G.sta SS) d30_17 rfl
  obtain ⟨h3, G', Wp', Fp', Kp'⟩ := G.putf 23 (host := "") (Or.inl (hw _ (mm 171 rfl))) Via.refl Fp Xq (Or.inl (hw _ (mm 172 rfl))) (hw _ (mm 31 rfl)) (ty := (.object "java/util/List")) (by decide) (by rcases ref_cases hvs with rfl | ⟨_, rfl⟩ <;> rfl) (by rcases ref_cases hvs with rfl | ⟨_, rfl⟩ <;> rfl) (Or.inl (mm 0 rfl)) (mm 0 rfl) d30_20 rfl
  replace G := G'; clear G'
  replace Fb := Fb.other Wp' (Or.inr (slot_ne (Or.inl (hw _ (mm 197 rfl))) (Or.inl (hw _ (mm 172 rfl))) (by decide) (t := (.object "java/lang/Object")) (t' := (.object "java/util/List")) (by decide) (by decide))); replace Fm := Fm.other Wp' (Or.inr (slot_ne (Or.inl (hw _ (mm 196 rfl))) (Or.inl (hw _ (mm 172 rfl))) (by decide) (t := (.object "java/lang/String")) (t' := (.object "java/util/List")) (by decide) (by decide))); replace Xq := Xq.wr Wp'; replace Uq := Uq.wr Wp'
  replace Fs' := Fs'.other Wp' (Or.inr (slot_ne (Or.inl (hw _ (mm 169 rfl))) (Or.inl (hw _ (mm 172 rfl))) (by decide) (t := (.array (.object "java/lang/StackTraceElement"))) (t' := (.object "java/util/List")) (by decide) (by decide)))
  replace G := G.aloadN 24 d30_23 rfl rfl rfl
  obtain ⟨h4, G', K4, Xq4, Fm4⟩ := G.fill 27 (tw_of hw) (hw _ (mm 31 rfl)) o1 hTr hTK hBl Xq Uq Fb Fs' Fm (G.sta SU) (Or.inl (mm 0 rfl)) (mm 0 rfl) d30_24 rfl (nle rfl) (nle rfl) (nle rfl) (nle rfl) rfl
  replace G := G'; clear G'
  replace G := G.pop 28 d30_27 rfl rfl |>.aloadN 29 d30_28 rfl rfl rfl |>.aloadN 30 d30_29 rfl rfl rfl
  obtain ⟨h5, G', Wm', Fm', Km'⟩ := G.putf 33 (host := "") (Or.inl (hw _ (mm 200 rfl))) Via.refl Fm4 Xq4 (Or.inl (hw _ (mm 196 rfl))) (hw _ (mm 31 rfl)) (ty := (.object "java/lang/String")) (by decide) rfl rfl (Or.inl (mm 0 rfl)) (mm 0 rfl) d30_30 rfl
  replace G := G'; clear G'
  replace Xq4 := Xq4.wr Wm'
  exact G.retV hret hlk d30_33 [] all0 ⟨rfl, Xq4, Fm', rfl⟩ (nle rfl) (nle rfl)
theorem d29_0 : decode jdk_59_method_2_code 0 = .ok (.aload_n 0, 1) := by decide +kernel
theorem d29_1 : decode jdk_59_method_2_code 1 = .ok (.aload_n 1, 1) := by decide +kernel
theorem d29_2 : decode jdk_59_method_2_code 2 = .ok (.invokespecial 7, 3) := by decide +kernel
theorem d29_5 : decode jdk_59_method_2_code 5 = .ok (.return_, 1) := by decide +kernel
theorem c_eI (l : Launch) (Z : State) (a0 : Array Value) (hw : ∀ d ∈ tables_1, d.before a0 Z = true) (hEW : EW Z a0 consts_1) (n0 : Nat) (c1 : Int32) (hc1 : ¬ c1 = 0) (S1 : Sta Z Z.heap "java/lang/String" "COMPACT_STRINGS" "Z" (.int c1)) (v2 : Value) (hv2 : v2.isRef = true) (S2 : Sta Z Z.heap "jdk/internal/util/Preconditions" "SIOOBE_FORMATTER" "Ljava/util/function/BiFunction;" v2) (hTr : ∀ e : Env, l.admits e → e.platform.stackTraces = true) (u' : Addr) (SU : Sta Z Z.heap "java/lang/Throwable" "UNASSIGNED_STACK" "[Ljava/lang/StackTraceElement;" (.ref u')) (vs' : Value) (hvs : vs'.isRef = true) (SS : Sta Z Z.heap "java/lang/Throwable" "SUPPRESSED_SENTINEL" "Ljava/util/List;" vs') (q t : Addr) {h0 : Heap} (o1 : Old Z n0 h0) (ge_q : n0 ≤ q) (Xq : Exa Z h0 q "com/example/fianza/fianza/InputException") (Uq : Unt h0 q) (Fc : Fld Z h0 q "java/lang/Throwable" "cause" "Ljava/lang/Throwable;" .null) (Fs : Fld Z h0 q "java/lang/Throwable" "stackTrace" "[Ljava/lang/StackTraceElement;" .null) (Fp : Fld Z h0 q "java/lang/Throwable" "suppressedExceptions" "Ljava/util/List;" .null) (Fb : Fld Z h0 q "java/lang/Throwable" "backtrace" "Ljava/lang/Object;" .null) (Fm : Fld Z h0 q "java/lang/Throwable" "detailMessage" "Ljava/lang/String;" .null) :
    ConK Z a0 l (⟨"java/lang/Exception", "<init>", "(Ljava/lang/String;)V"⟩ : MethodName) jdk_59_method_2_code 2 (none) ({ frames := 4, cells := 1, slots := 2752, locals := 55 } : Room) [] #[(.ref q), (.ref t)] consts_1 h0 n0 [q] [q] (V0 fun h so => Exa Z h q "com/example/fianza/fianza/InputException" ∧ Fld Z h q "java/lang/Throwable" "detailMessage" "Ljava/lang/String;" (.ref t) ∧ so = []) := by
  refine ConK.body (plainFor_of_name pn_java_lang_Exception) hEW o1 (allS ge_q all0) #[.val (.ref q), .val (.ref t)] (fun m => by first | (simp [entryFrame, mkF, argsToLocals, Value.category]; done) | rfl) ?_
  intro p e s m below meth c B hTK hBl hnm hret hlk G
  replace G := G.aloadN 1 d29_0 rfl rfl rfl |>.aloadN 2 d29_1 rfl rfl rfl
  obtain ⟨vi, h1, soi, G', Ki, Qi⟩ := G.callIK 5 rfl rfl (hw _ (mm 158 rfl)) (hw _ (mm 159 rfl)) (hw _ (mm 162 rfl)) (hw _ (mm 163 rfl)) (by decide) [(.ref t)] [] rfl hTK hBl (c_tI l Z a0 hw hEW n0 c1 hc1 S1 v2 hv2 S2 hTr u' SU vs' hvs SS q t G.old ge_q Xq Uq Fc Fs Fp Fb Fm) (lenOf pd__Ljava_lang_String__V rfl) d29_2 rfl (nle rfl) (nle rfl) (nle rfl) (nle rfl) (allS (Or.inl (mm 0 rfl)) all0) (allS (mm 0 rfl) all0) (allS (mm 0 rfl) all0) rfl
  replace G := G'; clear G'
  obtain ⟨qi, Xq1, Fm1, rfl⟩ := Qi
  replace G := G.nov qi
  exact G.retV hret hlk d29_5 [] all0 ⟨rfl, Xq1, Fm1, rfl⟩ (nle rfl) (nle rfl)
theorem d28_0 : decode jdk_58_method_2_code 0 = .ok (.aload_n 0, 1) := by decide +kernel
theorem d28_1 : decode jdk_58_method_2_code 1 = .ok (.aload_n 1, 1) := by decide +kernel
theorem d28_2 : decode jdk_58_method_2_code 2 = .ok (.invokespecial 7, 3) := by decide +kernel
theorem d28_5 : decode jdk_58_method_2_code 5 = .ok (.return_, 1) := by decide +kernel
theorem c_rI (l : Launch) (Z : State) (a0 : Array Value) (hw : ∀ d ∈ tables_1, d.before a0 Z = true) (hEW : EW Z a0 consts_1) (n0 : Nat) (c1 : Int32) (hc1 : ¬ c1 = 0) (S1 : Sta Z Z.heap "java/lang/String" "COMPACT_STRINGS" "Z" (.int c1)) (v2 : Value) (hv2 : v2.isRef = true) (S2 : Sta Z Z.heap "jdk/internal/util/Preconditions" "SIOOBE_FORMATTER" "Ljava/util/function/BiFunction;" v2) (hTr : ∀ e : Env, l.admits e → e.platform.stackTraces = true) (u' : Addr) (SU : Sta Z Z.heap "java/lang/Throwable" "UNASSIGNED_STACK" "[Ljava/lang/StackTraceElement;" (.ref u')) (vs' : Value) (hvs : vs'.isRef = true) (SS : Sta Z Z.heap "java/lang/Throwable" "SUPPRESSED_SENTINEL" "Ljava/util/List;" vs') (q t : Addr) {h0 : Heap} (o1 : Old Z n0 h0) (ge_q : n0 ≤ q) (Xq : Exa Z h0 q "com/example/fianza/fianza/InputException") (Uq : Unt h0 q) (Fc : Fld Z h0 q "java/lang/Throwable" "cause" "Ljava/lang/Throwable;" .null) (Fs : Fld Z h0 q "java/lang/Throwable" "stackTrace" "[Ljava/lang/StackTraceElement;" .null) (Fp : Fld Z h0 q "java/lang/Throwable" "suppressedExceptions" "Ljava/util/List;" .null) (Fb : Fld Z h0 q "java/lang/Throwable" "backtrace" "Ljava/lang/Object;" .null) (Fm : Fld Z h0 q "java/lang/Throwable" "detailMessage" "Ljava/lang/String;" .null) :
    ConK Z a0 l (⟨"java/lang/RuntimeException", "<init>", "(Ljava/lang/String;)V"⟩ : MethodName) jdk_58_method_2_code 2 (none) ({ frames := 5, cells := 1, slots := 2752, locals := 68 } : Room) [] #[(.ref q), (.ref t)] consts_1 h0 n0 [q] [q] (V0 fun h so => Exa Z h q "com/example/fianza/fianza/InputException" ∧ Fld Z h q "java/lang/Throwable" "detailMessage" "Ljava/lang/String;" (.ref t) ∧ so = []) := by
  refine ConK.body (plainFor_of_name pn_java_lang_RuntimeException) hEW o1 (allS ge_q all0) #[.val (.ref q), .val (.ref t)] (fun m => by first | (simp [entryFrame, mkF, argsToLocals, Value.category]; done) | rfl) ?_
  intro p e s m below meth c B hTK hBl hnm hret hlk G
  replace G := G.aloadN 1 d28_0 rfl rfl rfl |>.aloadN 2 d28_1 rfl rfl rfl
  obtain ⟨vi, h1, soi, G', Ki, Qi⟩ := G.callIK 5 rfl rfl (hw _ (mm 152 rfl)) (hw _ (mm 153 rfl)) (hw _ (mm 156 rfl)) (hw _ (mm 157 rfl)) (by decide) [(.ref t)] [] rfl hTK hBl (c_eI l Z a0 hw hEW n0 c1 hc1 S1 v2 hv2 S2 hTr u' SU vs' hvs SS q t G.old ge_q Xq Uq Fc Fs Fp Fb Fm) (lenOf pd__Ljava_lang_String__V rfl) d28_2 rfl (nle rfl) (nle rfl) (nle rfl) (nle rfl) (allS (Or.inl (mm 0 rfl)) all0) (allS (mm 0 rfl) all0) (allS (mm 0 rfl) all0) rfl
  replace G := G'; clear G'
  obtain ⟨qi, Xq1, Fm1, rfl⟩ := Qi
  replace G := G.nov qi
  exact G.retV hret hlk d28_5 [] all0 ⟨rfl, Xq1, Fm1, rfl⟩ (nle rfl) (nle rfl)
theorem d27_0 : decode prog_25_method_1_code 0 = .ok (.aload_n 0, 1) := by decide +kernel
theorem d27_1 : decode prog_25_method_1_code 1 = .ok (.aload_n 1, 1) := by decide +kernel
theorem d27_2 : decode prog_25_method_1_code 2 = .ok (.invokespecial 1, 3) := by decide +kernel
theorem d27_5 : decode prog_25_method_1_code 5 = .ok (.return_, 1) := by decide +kernel
theorem c_xI (l : Launch) (Z : State) (a0 : Array Value) (hw : ∀ d ∈ tables_1, d.before a0 Z = true) (hEW : EW Z a0 consts_1) (n0 : Nat) (c1 : Int32) (hc1 : ¬ c1 = 0) (S1 : Sta Z Z.heap "java/lang/String" "COMPACT_STRINGS" "Z" (.int c1)) (v2 : Value) (hv2 : v2.isRef = true) (S2 : Sta Z Z.heap "jdk/internal/util/Preconditions" "SIOOBE_FORMATTER" "Ljava/util/function/BiFunction;" v2) (hTr : ∀ e : Env, l.admits e → e.platform.stackTraces = true) (u' : Addr) (SU : Sta Z Z.heap "java/lang/Throwable" "UNASSIGNED_STACK" "[Ljava/lang/StackTraceElement;" (.ref u')) (vs' : Value) (hvs : vs'.isRef = true) (SS : Sta Z Z.heap "java/lang/Throwable" "SUPPRESSED_SENTINEL" "Ljava/util/List;" vs') (q t : Addr) {h0 : Heap} (o1 : Old Z n0 h0) (ge_q : n0 ≤ q) (Xq : Exa Z h0 q "com/example/fianza/fianza/InputException") (Uq : Unt h0 q) (Fc : Fld Z h0 q "java/lang/Throwable" "cause" "Ljava/lang/Throwable;" .null) (Fs : Fld Z h0 q "java/lang/Throwable" "stackTrace" "[Ljava/lang/StackTraceElement;" .null) (Fp : Fld Z h0 q "java/lang/Throwable" "suppressedExceptions" "Ljava/util/List;" .null) (Fb : Fld Z h0 q "java/lang/Throwable" "backtrace" "Ljava/lang/Object;" .null) (Fm : Fld Z h0 q "java/lang/Throwable" "detailMessage" "Ljava/lang/String;" .null) :
    ConK Z a0 l (⟨"com/example/fianza/fianza/InputException", "<init>", "(Ljava/lang/String;)V"⟩ : MethodName) prog_25_method_1_code 2 (none) ({ frames := 6, cells := 1, slots := 2752, locals := 81 } : Room) [] #[(.ref q), (.ref t)] consts_1 h0 n0 [q] [q] (V0 fun h so => Exa Z h q "com/example/fianza/fianza/InputException" ∧ Fld Z h q "java/lang/Throwable" "detailMessage" "Ljava/lang/String;" (.ref t) ∧ so = []) := by
  refine ConK.body (plainFor_of_name pn_com_example_fianza_fianza_InputException) hEW o1 (allS ge_q all0) #[.val (.ref q), .val (.ref t)] (fun m => by first | (simp [entryFrame, mkF, argsToLocals, Value.category]; done) | rfl) ?_
  intro p e s m below meth c B hTK hBl hnm hret hlk G
  replace G := G.aloadN 1 d27_0 rfl rfl rfl |>.aloadN 2 d27_1 rfl rfl rfl
  obtain ⟨vi, h1, soi, G', Ki, Qi⟩ := G.callIK 5 rfl rfl (hw _ (mm 147 rfl)) (hw _ (mm 148 rfl)) (hw _ (mm 150 rfl)) (hw _ (mm 151 rfl)) (by decide) [(.ref t)] [] rfl hTK hBl (c_rI l Z a0 hw hEW n0 c1 hc1 S1 v2 hv2 S2 hTr u' SU vs' hvs SS q t G.old ge_q Xq Uq Fc Fs Fp Fb Fm) (lenOf pd__Ljava_lang_String__V rfl) d27_2 rfl (nle rfl) (nle rfl) (nle rfl) (nle rfl) (allS (Or.inl (mm 0 rfl)) all0) (allS (mm 0 rfl) all0) (allS (mm 0 rfl) all0) rfl
  replace G := G'; clear G'
  obtain ⟨qi, Xq1, Fm1, rfl⟩ := Qi
  replace G := G.nov qi
  exact G.retV hret hlk d27_5 [] all0 ⟨rfl, Xq1, Fm1, rfl⟩ (nle rfl) (nle rfl)
theorem d33_0 : decode jdk_78_method_6_code 0 = .ok (.aload_n 0, 1) := by decide +kernel
theorem d33_1 : decode jdk_78_method_6_code 1 = .ok (.getfield 31, 3) := by decide +kernel
theorem d33_4 : decode jdk_78_method_6_code 4 = .ok (.areturn, 1) := by decide +kernel
theorem c_gm (l : Launch) (Z : State) (a0 : Array Value) (hw : ∀ d ∈ tables_1, d.before a0 Z = true) (hEW : EW Z a0 consts_1) (n0 : Nat) (c1 : Int32) (hc1 : ¬ c1 = 0) (S1 : Sta Z Z.heap "java/lang/String" "COMPACT_STRINGS" "Z" (.int c1)) (v2 : Value) (hv2 : v2.isRef = true) (S2 : Sta Z Z.heap "jdk/internal/util/Preconditions" "SIOOBE_FORMATTER" "Ljava/util/function/BiFunction;" v2) (hTr : ∀ e : Env, l.admits e → e.platform.stackTraces = true) (u' : Addr) (SU : Sta Z Z.heap "java/lang/Throwable" "UNASSIGNED_STACK" "[Ljava/lang/StackTraceElement;" (.ref u')) (vs' : Value) (hvs : vs'.isRef = true) (SS : Sta Z Z.heap "java/lang/Throwable" "SUPPRESSED_SENTINEL" "Ljava/util/List;" vs') (q t : Addr) {h0 : Heap} (o1 : Old Z n0 h0) (Fm : Fld Z h0 q "java/lang/Throwable" "detailMessage" "Ljava/lang/String;" (.ref t)) :
    Con Z a0 l (⟨"java/lang/Throwable", "getMessage", "()Ljava/lang/String;"⟩ : MethodName) jdk_78_method_6_code 1 (some (.object "java/lang/String")) ({ frames := 0, cells := 0, slots := 0, locals := 0 } : Room) [] #[(.ref q)] consts_1 h0 n0 [] [] (VV fun w h so => w = .ref t ∧ h = h0 ∧ so = []) := by
  refine Con.body (plainFor_of_name pn_java_lang_Throwable) hEW o1 all0 #[.val (.ref q)] (fun m => by first | (simp [entryFrame, mkF, argsToLocals, Value.category]; done) | rfl) ?_
  intro p e s m below meth c B hnm hret hlk G
  replace G := G.aloadN 1 d33_0 rfl rfl rfl |>.getf 4 (host := "") (Or.inl (hw _ (mm 200 rfl))) Via.refl Fm d33_1 rfl
  exact G.retA hret rfl rfl hlk d33_4 [] all0 ⟨_, rfl, rfl, rfl, rfl⟩ (nle rfl) (nle rfl)
theorem d5_0 : decode prog_25_method_2_code 0 = .ok (.new 7, 3) := by decide +kernel
theorem d5_3 : decode prog_25_method_2_code 3 = .ok (.dup, 1) := by decide +kernel
theorem d5_4 : decode prog_25_method_2_code 4 = .ok (.new 9, 3) := by decide +kernel
theorem d5_7 : decode prog_25_method_2_code 7 = .ok (.dup, 1) := by decide +kernel
theorem d5_8 : decode prog_25_method_2_code 8 = .ok (.invokespecial 11, 3) := by decide +kernel
theorem d5_11 : decode prog_25_method_2_code 11 = .ok (.aload_n 0, 1) := by decide +kernel
theorem d5_12 : decode prog_25_method_2_code 12 = .ok (.invokevirtual 14, 3) := by decide +kernel
theorem d5_15 : decode prog_25_method_2_code 15 = .ok (.ldc 18, 2) := by decide +kernel
theorem d5_17 : decode prog_25_method_2_code 17 = .ok (.invokevirtual 14, 3) := by decide +kernel
theorem d5_20 : decode prog_25_method_2_code 20 = .ok (.aload_n 1, 1) := by decide +kernel
theorem d5_21 : decode prog_25_method_2_code 21 = .ok (.invokevirtual 14, 3) := by decide +kernel
theorem d5_24 : decode prog_25_method_2_code 24 = .ok (.invokevirtual 20, 3) := by decide +kernel
theorem d5_27 : decode prog_25_method_2_code 27 = .ok (.invokespecial 24, 3) := by decide +kernel
theorem d5_30 : decode prog_25_method_2_code 30 = .ok (.areturn, 1) := by decide +kernel
theorem c_in (l : Launch) (Z : State) (a0 : Array Value) (hw : ∀ d ∈ tables_1, d.before a0 Z = true) (hEW : EW Z a0 consts_1) (n0 : Nat) (c1 : Int32) (hc1 : ¬ c1 = 0) (S1 : Sta Z Z.heap "java/lang/String" "COMPACT_STRINGS" "Z" (.int c1)) (v2 : Value) (hv2 : v2.isRef = true) (S2 : Sta Z Z.heap "jdk/internal/util/Preconditions" "SIOOBE_FORMATTER" "Ljava/util/function/BiFunction;" v2) (hTr : ∀ e : Env, l.admits e → e.platform.stackTraces = true) (u' : Addr) (SU : Sta Z Z.heap "java/lang/Throwable" "UNASSIGNED_STACK" "[Ljava/lang/StackTraceElement;" (.ref u')) (vs' : Value) (hvs : vs'.isRef = true) (SS : Sta Z Z.heap "java/lang/Throwable" "SUPPRESSED_SENTINEL" "Ljava/util/List;" vs') (a1 b1 a2 b2 : Addr) (fs ms : List Nat) {h0 : Heap} (o1 : Old Z n0 h0) (h1 : fs.length ≤ 2) (h2 : ms.length ≤ 2) (hF : Str Z h0 a1 b1 (bl fs)) (hM : Str Z h0 a2 b2 (bl ms)) :
    ConK Z a0 l (⟨"com/example/fianza/fianza/InputException", "in", "(Ljava/lang/String;Ljava/lang/String;)Lcom/example/fianza/fianza/InputException;"⟩ : MethodName) prog_25_method_2_code 2 (some (.object "com/example/fianza/fianza/InputException")) ({ frames := 7, cells := 8, slots := 2810, locals := 116 } : Room) [] #[(.ref a1), (.ref a2)] consts_1 h0 n0 [] [] (VV fun w h so => ∃ q t tb, w = .ref q ∧ Exa Z h q "com/example/fianza/fianza/InputException" ∧ Fld Z h q "java/lang/Throwable" "detailMessage" "Ljava/lang/String;" (.ref t) ∧ Str Z h t tb (bl (fs ++ [58, 32] ++ ms)) ∧ so = []) := by
  refine ConK.body (plainFor_of_name pn_com_example_fianza_fianza_InputException) hEW o1 all0 #[.val (.ref a1), .val (.ref a2)] (fun m => by first | (simp [entryFrame, mkF, argsToLocals, Value.category]; done) | rfl) ?_
  intro p e s m below meth c B hTK hBl hnm hret hlk G
  obtain ⟨q, g1, G', gq, sq, Eq, Xq, Dq, Uq⟩ := G.new 3 (hw _ (mm 30 rfl)) (hw _ (mm 31 rfl)) (hw _ (mm 28 rfl)) d5_0 rfl (nle rfl) (nle rfl)
  replace G := G'; clear G'
  have ne_a1_q : a1 ≠ q := ne_new gq hF.lt; have ne_b1_q : b1 ≠ q := ne_new gq hF.ltb; have ne_a2_q : a2 ≠ q := ne_new gq hM.lt; have ne_b2_q : b2 ≠ q := ne_new gq hM.ltb
  replace hF := hF.ext Eq; replace hM := hM.ext Eq
  have Fc := Dq (Or.inl (hw _ (mm 166 rfl))) (ty := (.object "java/lang/Throwable")) (by decide); have Fs := Dq (Or.inl (hw _ (mm 169 rfl))) (ty := (.array (.object "java/lang/StackTraceElement"))) (by decide); have Fp := Dq (Or.inl (hw _ (mm 172 rfl))) (ty := (.object "java/util/List")) (by decide); have Fb := Dq (Or.inl (hw _ (mm 197 rfl))) (ty := (.object "java/lang/Object")) (by decide); have Fm := Dq (Or.inl (hw _ (mm 196 rfl))) (ty := (.object "java/lang/String")) (by decide)
  replace G := G.dup 4 d5_3 rfl rfl
  obtain ⟨a, g2, G', ga, sa, Ea, Xa, Da, Ua⟩ := G.new 7 (hw _ (mm 32 rfl)) (hw _ (mm 33 rfl)) (hw _ (mm 34 rfl)) d5_4 rfl (nle rfl) (nle rfl)
  replace G := G'; clear G'
  have ne_a1_a : a1 ≠ a := ne_new ga hF.lt; have ne_b1_a : b1 ≠ a := ne_new ga hF.ltb; have ne_a2_a : a2 ≠ a := ne_new ga hM.lt; have ne_b2_a : b2 ≠ a := ne_new ga hM.ltb; have ne_q_a : q ≠ a := ne_new ga Xq.lt
  replace hF := hF.ext Ea; replace hM := hM.ext Ea; replace Xq := Xq.ext Ea; replace Uq := Uq.ext Ea; replace Fc := Fc.ext Ea; replace Fs := Fs.ext Ea; replace Fp := Fp.ext Ea; replace Fb := Fb.ext Ea; replace Fm := Fm.ext Ea
  have Fva := Da (Or.inl (hw _ (mm 47 rfl))) (ty := .array .byte) (by decide); have Fca := Da (Or.inl (hw _ (mm 49 rfl))) (ty := .byte) (by decide); have Fna := Da (Or.inl (hw _ (mm 72 rfl))) (ty := .int) (by decide)
  replace G := G.dup 8 d5_7 rfl rfl
  have sz0 := G.sz
  obtain ⟨vi, g3, soi, G', Ki, Qi⟩ := G.callI 11 rfl rfl (hw _ (mm 35 rfl)) (hw _ (mm 36 rfl)) (hw _ (mm 34 rfl)) (hw _ (mm 37 rfl)) (by decide) [] [(.ref a), (.ref q), (.ref q)] rfl (c_sbInit l Z a0 hw hEW n0 c1 hc1 S1 v2 hv2 S2 a G.old (G.nw (Or.inr sa)) Xa Fva Fca Fna) (lenOf pd___V rfl) d5_8 rfl (nle rfl) (nle rfl) (nle rfl) (nle rfl) (allS (Or.inr sa) all0) (allS (mm 0 rfl) all0) (allS (mm 0 rfl) all0) rfl
  replace G := G'; clear G'
  obtain ⟨qi, e0, hS, se0', rfl⟩ := Qi
  replace G := G.nov qi
  have ne_a1_e0 : a1 ≠ e0 := (ne_ge hF.lt se0').symm; have ne_b1_e0 : b1 ≠ e0 := (ne_ge hF.ltb se0').symm; have ne_a2_e0 : a2 ≠ e0 := (ne_ge hM.lt se0').symm; have ne_b2_e0 : b2 ≠ e0 := (ne_ge hM.ltb se0').symm; have ne_q_e0 : q ≠ e0 := (ne_ge Xq.lt se0').symm
  replace hF := hF.keep Ki (ninS ne_a1_a nin0) (ninS ne_b1_a nin0); replace hM := hM.keep Ki (ninS ne_a2_a nin0) (ninS ne_b2_a nin0); replace Xq := Xq.keep Ki; replace Uq := Uq.keep Ki (ninS ne_q_a nin0); replace Fc := Fc.keep Ki (ninS ne_q_a nin0); replace Fs := Fs.keep Ki (ninS ne_q_a nin0); replace Fp := Fp.keep Ki (ninS ne_q_a nin0); replace Fb := Fb.keep Ki (ninS ne_q_a nin0); replace Fm := Fm.keep Ki (ninS ne_q_a nin0)
  have se0 := Nat.le_trans sz0 se0'
  replace G := G.aloadN 12 d5_11 rfl rfl rfl
  have l1 : (bl fs).length ≤ 2 := by rw [bl_len]; exact h1
  have l2 : (bl ms).length ≤ 2 := by rw [bl_len]; exact h2
  obtain ⟨vp1, g4, sop1, G', Kp1, Qp1⟩ := G.callV 15 (hw _ (mm 50 rfl)) (hw _ (mm 51 rfl)) (nfSel (hw _ (mm 53 rfl))) (hw _ (mm 53 rfl)) (hw _ (mm 52 rfl)) (hw _ (mm 34 rfl)) (hw _ (mm 54 rfl)) hS.1 (by decide) [(.ref a1)] [(.ref q), (.ref q)] rfl (c_app l Z a0 hw hEW n0 c1 hc1 S1 v2 hv2 S2 a e0 a1 b1 16 [] (bl fs) G.old (G.nw (Or.inr sa)) (G.nw (Or.inr se0)) (by simp; omega) (by decide) hS hF) (lenOf pd__Ljava_lang_String__Ljava_lang_StringBuilder_ rfl) d5_12 rfl (nle rfl) (nle rfl) (nle rfl) (nle rfl) (allS (Or.inr sa) (allS (Or.inr se0) all0)) (allS (mm 1 rfl) (allS (mm 0 rfl) all0)) (allS (mm 1 rfl) (allS (mm 0 rfl) all0)) rfl
  replace G := G'; clear G'
  obtain ⟨wp1, qp1, rfl, hS1, rfl⟩ := Qp1
  replace G := G.val qp1
  clear hS; have hS := hS1; clear hS1
  replace hF := hF.keep Kp1 (ninS ne_a1_a (ninS ne_a1_e0 nin0)) (ninS ne_b1_a (ninS ne_b1_e0 nin0)); replace hM := hM.keep Kp1 (ninS ne_a2_a (ninS ne_a2_e0 nin0)) (ninS ne_b2_a (ninS ne_b2_e0 nin0)); replace Xq := Xq.keep Kp1; replace Uq := Uq.keep Kp1 (ninS ne_q_a (ninS ne_q_e0 nin0)); replace Fc := Fc.keep Kp1 (ninS ne_q_a (ninS ne_q_e0 nin0)); replace Fs := Fs.keep Kp1 (ninS ne_q_a (ninS ne_q_e0 nin0)); replace Fp := Fp.keep Kp1 (ninS ne_q_a (ninS ne_q_e0 nin0)); replace Fb := Fb.keep Kp1 (ninS ne_q_a (ninS ne_q_e0 nin0)); replace Fm := Fm.keep Kp1 (ninS ne_q_a (ninS ne_q_e0 nin0))
  rw [List.nil_append] at hS
  obtain ⟨l1, l2, g5, kkz, G', Ez, Xz, Fcz, Fvz, Az, nez⟩ := G.ldcS 17 (hw _ (mm 98 rfl)) (wS_of hw) (mm 0 rfl) (vs := [(.int (58 : Int32)), (.int (32 : Int32))]) (z := (2 : Int32)) (by decide) (by decide) rfl d5_15 8 (by decide) (by decide) (nle rfl) (nle rfl) rfl
  replace G := G'; clear G'
  replace hF := hF.ext Ez; replace hM := hM.ext Ez; replace Xq := Xq.ext Ez; replace Uq := Uq.ext Ez; replace Fc := Fc.ext Ez; replace Fs := Fs.ext Ez; replace Fp := Fp.ext Ez; replace Fb := Fb.ext Ez; replace Fm := Fm.ext Ez
  replace hS := hS.ext Ez; have hL : Str Z g5 l1 l2 (bl [58, 32]) := ⟨Xz, Fcz, Fvz, kkz, Az⟩
  obtain ⟨vp2, g6, sop2, G', Kp2, Qp2⟩ := G.callV 20 (hw _ (mm 50 rfl)) (hw _ (mm 51 rfl)) (nfSel (hw _ (mm 53 rfl))) (hw _ (mm 53 rfl)) (hw _ (mm 52 rfl)) (hw _ (mm 34 rfl)) (hw _ (mm 54 rfl)) hS.1 (by decide) [(.ref l1)] [(.ref q), (.ref q)] rfl (c_app l Z a0 hw hEW n0 c1 hc1 S1 v2 hv2 S2 a e0 l1 l2 16 (bl fs) (bl [58, 32]) G.old (G.nw (Or.inr sa)) (G.nw (Or.inr se0)) (by rw [bl_len [58, 32]]; simp; omega) (by decide) hS hL) (lenOf pd__Ljava_lang_String__Ljava_lang_StringBuilder_ rfl) d5_17 rfl (nle rfl) (nle rfl) (nle rfl) (nle rfl) (allS (Or.inr sa) (allS (Or.inr se0) all0)) (allS (mm 1 rfl) (allS (mm 0 rfl) all0)) (allS (mm 1 rfl) (allS (mm 0 rfl) all0)) rfl
  replace G := G'; clear G'
  obtain ⟨wp2, qp2, rfl, hS1, rfl⟩ := Qp2
  replace G := G.val qp2
  clear hS; have hS := hS1; clear hS1
  replace hF := hF.keep Kp2 (ninS ne_a1_a (ninS ne_a1_e0 nin0)) (ninS ne_b1_a (ninS ne_b1_e0 nin0)); replace hM := hM.keep Kp2 (ninS ne_a2_a (ninS ne_a2_e0 nin0)) (ninS ne_b2_a (ninS ne_b2_e0 nin0)); replace Xq := Xq.keep Kp2; replace Uq := Uq.keep Kp2 (ninS ne_q_a (ninS ne_q_e0 nin0)); replace Fc := Fc.keep Kp2 (ninS ne_q_a (ninS ne_q_e0 nin0)); replace Fs := Fs.keep Kp2 (ninS ne_q_a (ninS ne_q_e0 nin0)); replace Fp := Fp.keep Kp2 (ninS ne_q_a (ninS ne_q_e0 nin0)); replace Fb := Fb.keep Kp2 (ninS ne_q_a (ninS ne_q_e0 nin0)); replace Fm := Fm.keep Kp2 (ninS ne_q_a (ninS ne_q_e0 nin0))
  replace G := G.aloadN 21 d5_20 rfl rfl rfl
  obtain ⟨vp3, g7, sop3, G', Kp3, Qp3⟩ := G.callV 24 (hw _ (mm 50 rfl)) (hw _ (mm 51 rfl)) (nfSel (hw _ (mm 53 rfl))) (hw _ (mm 53 rfl)) (hw _ (mm 52 rfl)) (hw _ (mm 34 rfl)) (hw _ (mm 54 rfl)) hS.1 (by decide) [(.ref a2)] [(.ref q), (.ref q)] rfl (c_app l Z a0 hw hEW n0 c1 hc1 S1 v2 hv2 S2 a e0 a2 b2 16 ((bl fs) ++ (bl [58, 32])) (bl ms) G.old (G.nw (Or.inr sa)) (G.nw (Or.inr se0)) (by rw [List.length_append, bl_len [58, 32]]; simp; omega) (by decide) hS hM) (lenOf pd__Ljava_lang_String__Ljava_lang_StringBuilder_ rfl) d5_21 rfl (nle rfl) (nle rfl) (nle rfl) (nle rfl) (allS (Or.inr sa) (allS (Or.inr se0) all0)) (allS (mm 1 rfl) (allS (mm 0 rfl) all0)) (allS (mm 1 rfl) (allS (mm 0 rfl) all0)) rfl
  replace G := G'; clear G'
  obtain ⟨wp3, qp3, rfl, hS1, rfl⟩ := Qp3
  replace G := G.val qp3
  clear hS; have hS := hS1; clear hS1
  replace hF := hF.keep Kp3 (ninS ne_a1_a (ninS ne_a1_e0 nin0)) (ninS ne_b1_a (ninS ne_b1_e0 nin0)); replace hM := hM.keep Kp3 (ninS ne_a2_a (ninS ne_a2_e0 nin0)) (ninS ne_b2_a (ninS ne_b2_e0 nin0)); replace Xq := Xq.keep Kp3; replace Uq := Uq.keep Kp3 (ninS ne_q_a (ninS ne_q_e0 nin0)); replace Fc := Fc.keep Kp3 (ninS ne_q_a (ninS ne_q_e0 nin0)); replace Fs := Fs.keep Kp3 (ninS ne_q_a (ninS ne_q_e0 nin0)); replace Fp := Fp.keep Kp3 (ninS ne_q_a (ninS ne_q_e0 nin0)); replace Fb := Fb.keep Kp3 (ninS ne_q_a (ninS ne_q_e0 nin0)); replace Fm := Fm.keep Kp3 (ninS ne_q_a (ninS ne_q_e0 nin0))
  rw [bl_app, bl_app] at hS
  have sz := G.sz; have hlen : (bl (fs ++ [58, 32] ++ ms)).length = fs.length + 2 + ms.length := by rw [bl_len, List.length_append, List.length_append]; rfl
  obtain ⟨vt, g8, sot, G', Kt, Qt⟩ := G.callV 27 (hw _ (mm 99 rfl)) (hw _ (mm 100 rfl)) (nfSel (hw _ (mm 102 rfl))) (hw _ (mm 102 rfl)) (hw _ (mm 101 rfl)) (hw _ (mm 34 rfl)) (hw _ (mm 103 rfl)) hS.1 (by decide) [] [(.ref q), (.ref q)] rfl (c_toStr l Z a0 hw hEW n0 c1 hc1 S1 v2 hv2 S2 a e0 16 (bl (fs ++ [58, 32] ++ ms)) G.old (by rw [hlen]; omega) (by decide) (by rw [hlen]; omega) hS) (lenOf pd___Ljava_lang_String_ rfl) d5_24 rfl (nle rfl) (nle rfl) (nle rfl) (nle rfl) all0 all0 all0 rfl
  replace G := G'; clear G'
  obtain ⟨wt, qt, t, tb, rfl, hT, st1, st2, rfl⟩ := Qt
  replace G := G.val qt
  have ne_a1_t : a1 ≠ t := (ne_ge hF.lt st1).symm; have ne_b1_t : b1 ≠ t := (ne_ge hF.ltb st1).symm; have ne_a2_t : a2 ≠ t := (ne_ge hM.lt st1).symm; have ne_b2_t : b2 ≠ t := (ne_ge hM.ltb st1).symm; have ne_q_t : q ≠ t := (ne_ge Xq.lt st1).symm
  have ne_a1_tb : a1 ≠ tb := (ne_ge hF.lt st2).symm; have ne_b1_tb : b1 ≠ tb := (ne_ge hF.ltb st2).symm; have ne_a2_tb : a2 ≠ tb := (ne_ge hM.lt st2).symm; have ne_b2_tb : b2 ≠ tb := (ne_ge hM.ltb st2).symm; have ne_q_tb : q ≠ tb := (ne_ge Xq.lt st2).symm
  replace Xq := Xq.keep Kt; replace Uq := Uq.keep Kt nin0; replace Fc := Fc.keep Kt nin0; replace Fs := Fs.keep Kt nin0; replace Fp := Fp.keep Kt nin0; replace Fb := Fb.keep Kt nin0; replace Fm := Fm.keep Kt nin0
  obtain ⟨vx, g9, sox, G', Kx, Qx⟩ := G.callIK 30 rfl rfl (hw _ (mm 144 rfl)) (hw _ (mm 145 rfl)) (hw _ (mm 28 rfl)) (hw _ (mm 146 rfl)) (by decide) [(.ref t)] [(.ref q)] rfl hTK hBl (c_xI l Z a0 hw hEW n0 c1 hc1 S1 v2 hv2 S2 hTr u' SU vs' hvs SS q t G.old (G.nw (Or.inr sq)) Xq Uq Fc Fs Fp Fb Fm) (lenOf pd__Ljava_lang_String__V rfl) d5_27 rfl (nle rfl) (nle rfl) (nle rfl) (nle rfl) (allS (Or.inr sq) all0) (allS (mm 4 rfl) all0) (allS (mm 4 rfl) all0) rfl
  replace G := G'; clear G'
  obtain ⟨qx, Xq1, Fm1, rfl⟩ := Qx
  replace G := G.nov qx
  replace hT := hT.keep Kx (ninS ne_q_t.symm nin0) (ninS ne_q_tb.symm nin0)
  exact G.retA hret rfl rfl hlk d5_30 [] all0 ⟨_, rfl, q, t, tb, rfl, Xq1, Fm1, hT, rfl⟩ (nle rfl) (nle rfl)
theorem c_law (l : Launch) (Z : State) (a0 : Array Value) (hw : ∀ d ∈ tables_1, d.before a0 Z = true) (hEW : EW Z a0 consts_1) (n0 : Nat) (c1 : Int32) (hc1 : ¬ c1 = 0) (S1 : Sta Z Z.heap "java/lang/String" "COMPACT_STRINGS" "Z" (.int c1)) (v2 : Value) (hv2 : v2.isRef = true) (S2 : Sta Z Z.heap "jdk/internal/util/Preconditions" "SIOOBE_FORMATTER" "Ljava/util/function/BiFunction;" v2) (hTr : ∀ e : Env, l.admits e → e.platform.stackTraces = true) (u' : Addr) (SU : Sta Z Z.heap "java/lang/Throwable" "UNASSIGNED_STACK" "[Ljava/lang/StackTraceElement;" (.ref u')) (vs' : Value) (hvs : vs'.isRef = true) (SS : Sta Z Z.heap "java/lang/Throwable" "SUPPRESSED_SENTINEL" "Ljava/util/List;" vs') (tws : List Jvm.Cond) (i0 i1 : Int32) {h0 : Heap} (o1 : Old Z n0 h0)  :
    ConK Z a0 l (⟨"com/example/fianza/fianza/InputExceptionInPinLaw", "law", "(II)Z"⟩ : MethodName) code 12 (some .boolean) room_1 tws #[(.int i0), (.int i1)] consts_1 h0 n0 [] [] (VV fun w h so => w = .int 1 ∧ so = []) := by
  refine ConK.body (plainFor_of_name pn_com_example_fianza_fianza_InputExceptionInPinLaw) hEW o1 all0 #[.val (.int i0), .val (.int i1), .unset, .unset, .unset, .unset, .unset, .unset, .unset, .unset, .unset, .unset] (fun m => by first | (simp [entryFrame, mkF, argsToLocals, Value.category]; done) | rfl) ?_
  intro p e s m below meth c B hTK hBl hnm hret hlk G
  obtain ⟨nf, hnf, enf⟩ := m3r (XT.ushr i0 16); obtain ⟨nm, hnm', enm⟩ := m3r (XT.ushr i1 16); obtain ⟨f0, hf0, ef0⟩ := m8 i0; obtain ⟨f1, hf1, ef1⟩ := m8 (XT.ushr i0 8); obtain ⟨m0, hm0, em0⟩ := m8 i1; obtain ⟨m1, hm1, em1⟩ := m8 (XT.ushr i1 8)
  replace G := G.iloadN 1 at_0 rfl rfl |>.bipush 3 (16 : Int32) at_1 (by decide) rfl |>.iushr 4 at_3 rfl |>.iconst 5 (3 : Int32) at_4 rfl rfl |>.iand 6 at_5 rfl |>.iconst 7 (3 : Int32) at_6 rfl rfl |>.irem 8 at_7 (by decide) rfl |>.top (y := (.int (Int32.ofNat nf))) (congrArg Value.int enf)
  replace G := G.istoreN 9 #[.val (.int i0), .val (.int i1), .val (.int (Int32.ofNat nf)), .unset, .unset, .unset, .unset, .unset, .unset, .unset, .unset, .unset] at_8 rfl rfl |>.iloadN 10 at_9 rfl rfl |>.bipush 12 (16 : Int32) at_10 (by decide) rfl |>.iushr 13 at_12 rfl |>.iconst 14 (3 : Int32) at_13 rfl rfl |>.iand 15 at_14 rfl |>.iconst 16 (3 : Int32) at_15 rfl rfl |>.irem 17 at_16 (by decide) rfl
  replace G := G.top (y := (.int (Int32.ofNat nm))) (congrArg Value.int enm) |>.istoreN 18 #[.val (.int i0), .val (.int i1), .val (.int (Int32.ofNat nf)), .val (.int (Int32.ofNat nm)), .unset, .unset, .unset, .unset, .unset, .unset, .unset, .unset] at_17 rfl rfl |>.iloadN 19 at_18 rfl rfl |>.sipush 22 (255 : Int32) at_19 (by decide) rfl |>.iand 23 at_22 rfl |>.top (y := (.int (Int32.ofNat f0))) (congrArg Value.int ef0) |>.i2c 24 at_23 rfl |>.top (y := (.int (Int32.ofNat f0))) (congrArg Value.int (i2c_n hf0))
  replace G := G.istore 26 #[.val (.int i0), .val (.int i1), .val (.int (Int32.ofNat nf)), .val (.int (Int32.ofNat nm)), .val (.int (Int32.ofNat f0)), .unset, .unset, .unset, .unset, .unset, .unset, .unset] at_24 rfl rfl |>.iloadN 27 at_26 rfl rfl |>.bipush 29 (8 : Int32) at_27 (by decide) rfl |>.iushr 30 at_29 rfl |>.sipush 33 (255 : Int32) at_30 (by decide) rfl |>.iand 34 at_33 rfl |>.top (y := (.int (Int32.ofNat f1))) (congrArg Value.int ef1) |>.i2c 35 at_34 rfl
  replace G := G.top (y := (.int (Int32.ofNat f1))) (congrArg Value.int (i2c_n hf1)) |>.istore 37 #[.val (.int i0), .val (.int i1), .val (.int (Int32.ofNat nf)), .val (.int (Int32.ofNat nm)), .val (.int (Int32.ofNat f0)), .val (.int (Int32.ofNat f1)), .unset, .unset, .unset, .unset, .unset, .unset] at_35 rfl rfl |>.iloadN 38 at_37 rfl rfl |>.sipush 41 (255 : Int32) at_38 (by decide) rfl |>.iand 42 at_41 rfl |>.top (y := (.int (Int32.ofNat m0))) (congrArg Value.int em0) |>.i2c 43 at_42 rfl |>.top (y := (.int (Int32.ofNat m0))) (congrArg Value.int (i2c_n hm0))
  replace G := G.istore 45 #[.val (.int i0), .val (.int i1), .val (.int (Int32.ofNat nf)), .val (.int (Int32.ofNat nm)), .val (.int (Int32.ofNat f0)), .val (.int (Int32.ofNat f1)), .val (.int (Int32.ofNat m0)), .unset, .unset, .unset, .unset, .unset] at_43 rfl rfl |>.iloadN 46 at_45 rfl rfl |>.bipush 48 (8 : Int32) at_46 (by decide) rfl |>.iushr 49 at_48 rfl |>.sipush 52 (255 : Int32) at_49 (by decide) rfl |>.iand 53 at_52 rfl |>.top (y := (.int (Int32.ofNat m1))) (congrArg Value.int em1) |>.i2c 54 at_53 rfl
  replace G := G.top (y := (.int (Int32.ofNat m1))) (congrArg Value.int (i2c_n hm1)) |>.istore 56 #[.val (.int i0), .val (.int i1), .val (.int (Int32.ofNat nf)), .val (.int (Int32.ofNat nm)), .val (.int (Int32.ofNat f0)), .val (.int (Int32.ofNat f1)), .val (.int (Int32.ofNat m0)), .val (.int (Int32.ofNat m1)), .unset, .unset, .unset, .unset] at_54 rfl rfl |>.iloadN 57 at_56 rfl rfl |>.iload 59 at_57 rfl rfl |>.iload 61 at_59 rfl rfl
  obtain ⟨vma1, ga1, soma1, G', Kma1, Qma1⟩ := G.callS 64 (hw _ (mm 0 rfl)) (hw _ (mm 1 rfl)) (hw _ (mm 2 rfl)) (hw _ (mm 3 rfl)) (by decide) [(.int (Int32.ofNat nf)), (.int (Int32.ofNat f0)), (.int (Int32.ofNat f1))] [] rfl (c_mk l Z a0 hw hEW n0 c1 hc1 S1 v2 hv2 S2 nf f0 f1 G.old hnf hf0 hf1) (lenOf pd__ICC_Ljava_lang_String_ rfl) at_61 rfl (nle rfl) (nle rfl) (nle rfl) (nle rfl) all0 all0 all0 rfl
  replace G := G'; clear G'
  obtain ⟨wma1, qma1, a1, b1, rfl, hF, sa1, rfl⟩ := Qma1
  replace G := G.val qma1 |>.astore 66 #[.val (.int i0), .val (.int i1), .val (.int (Int32.ofNat nf)), .val (.int (Int32.ofNat nm)), .val (.int (Int32.ofNat f0)), .val (.int (Int32.ofNat f1)), .val (.int (Int32.ofNat m0)), .val (.int (Int32.ofNat m1)), .val (.ref a1), .unset, .unset, .unset] at_64 rfl rfl rfl |>.iloadN 67 at_66 rfl rfl |>.iload 69 at_67 rfl rfl |>.iload 71 at_69 rfl rfl
  obtain ⟨vma2, ga2, soma2, G', Kma2, Qma2⟩ := G.callS 74 (hw _ (mm 0 rfl)) (hw _ (mm 1 rfl)) (hw _ (mm 2 rfl)) (hw _ (mm 3 rfl)) (by decide) [(.int (Int32.ofNat nm)), (.int (Int32.ofNat m0)), (.int (Int32.ofNat m1))] [] rfl (c_mk l Z a0 hw hEW n0 c1 hc1 S1 v2 hv2 S2 nm m0 m1 G.old hnm' hm0 hm1) (lenOf pd__ICC_Ljava_lang_String_ rfl) at_71 rfl (nle rfl) (nle rfl) (nle rfl) (nle rfl) all0 all0 all0 rfl
  replace G := G'; clear G'
  obtain ⟨wma2, qma2, a2, b2, rfl, hM, sa2, rfl⟩ := Qma2
  replace G := G.val qma2
  replace hF := hF.keep Kma2 nin0 nin0
  replace G := G.astore 76 #[.val (.int i0), .val (.int i1), .val (.int (Int32.ofNat nf)), .val (.int (Int32.ofNat nm)), .val (.int (Int32.ofNat f0)), .val (.int (Int32.ofNat f1)), .val (.int (Int32.ofNat m0)), .val (.int (Int32.ofNat m1)), .val (.ref a1), .val (.ref a2), .unset, .unset] at_74 rfl rfl rfl |>.aload 78 at_76 rfl rfl rfl |>.aload 80 at_78 rfl rfl rfl
  have l1 := mkL_len (x := f0) (y := f1) hnf; have l2 := mkL_len (x := m0) (y := m1) hnm'; obtain ⟨tA, tB, tC, tD, tE, tF⟩ := txt (n0 := f0) (n1 := f1) (s0 := m0) (s1 := m1) hnf hnm'
  obtain ⟨vx, g3, sox, G', Kx, Qx⟩ := G.callSK 83 (hw _ (mm 26 rfl)) (hw _ (mm 27 rfl)) (hw _ (mm 28 rfl)) (hw _ (mm 29 rfl)) (by decide) [(.ref a1), (.ref a2)] [] rfl hTK hBl (c_in l Z a0 hw hEW n0 c1 hc1 S1 v2 hv2 S2 hTr u' SU vs' hvs SS a1 b1 a2 b2 (mkL nf f0 f1) (mkL nm m0 m1) G.old (by omega) (by omega) hF hM) (lenOf pd__Ljava_lang_String_Ljava_lang_String__Lcom_example_fianza_fianza_InputException_ rfl) at_80 rfl (nle rfl) (nle rfl) (nle rfl) (nle rfl) all0 all0 all0 rfl
  replace G := G'; clear G'
  obtain ⟨wx, qx, q, t, tb, rfl, Xq, Fm, hT, rfl⟩ := Qx
  replace G := G.val qx |>.astore 85 #[.val (.int i0), .val (.int i1), .val (.int (Int32.ofNat nf)), .val (.int (Int32.ofNat nm)), .val (.int (Int32.ofNat f0)), .val (.int (Int32.ofNat f1)), .val (.int (Int32.ofNat m0)), .val (.int (Int32.ofNat m1)), .val (.ref a1), .val (.ref a2), .val (.ref q), .unset] at_83 rfl rfl rfl |>.aload 87 at_85 rfl rfl rfl |>.ifnonnullT 92 at_87 (by decide) (by decide) |>.aload 94 at_92 rfl rfl rfl
  obtain ⟨vy, g_4, soy, G', Ky, Qy⟩ := G.callU 97 (owner := "java/lang/Throwable") (hw _ (mm 201 rfl)) (hw _ (mm 202 rfl)) (hw _ (mm 203 rfl)) (hw _ (mm 205 rfl)) (hw _ (mm 204 rfl)) (hw _ (mm 162 rfl)) (hw _ (mm 206 rfl)) Xq (by decide) [] [] rfl (c_gm l Z a0 hw hEW n0 c1 hc1 S1 v2 hv2 S2 hTr u' SU vs' hvs SS q t G.old Fm) (lenOf pd___Ljava_lang_String_ rfl) at_94 rfl (nle rfl) (nle rfl) (nle rfl) (nle rfl) all0 all0 all0 rfl
  replace G := G'; clear G'
  obtain ⟨wy, qy, rfl, ey, rfl⟩ := Qy
  replace G := G.val qy
  subst ey
  replace G := G.astore 99 #[.val (.int i0), .val (.int i1), .val (.int (Int32.ofNat nf)), .val (.int (Int32.ofNat nm)), .val (.int (Int32.ofNat f0)), .val (.int (Int32.ofNat f1)), .val (.int (Int32.ofNat m0)), .val (.int (Int32.ofNat m1)), .val (.ref a1), .val (.ref a2), .val (.ref q), .val (.ref t)] at_97 rfl rfl rfl |>.aload 101 at_99 rfl rfl rfl |>.ifnonnullT 106 at_101 (by decide) (by decide) |>.aload 108 at_106 rfl rfl rfl
  obtain ⟨tx, etx⟩ : ∃ tx : List Nat, tx = (mkL nf f0 f1 ++ [58, 32] ++ mkL nm m0 m1) := ⟨_, rfl⟩
  rw [← etx] at hT tA tB tC tD tE tF
  have hlen : (bl tx).length = nf + 2 + nm := by rw [etx, bl_len, List.length_append, List.length_append, l1, l2]; rfl
  have hln : tx.length = nf + 2 + nm := by rw [etx, List.length_append, List.length_append, l1, l2]; rfl
  have hcb : ∀ i, i < nf + 2 + nm → tx.getD i 0 < 256 := fun i hi => by
    have hm : tx.getD i 0 ∈ tx := by rw [← hln] at hi; simp only [List.getD_eq_getElem?_getD, List.getElem?_eq_getElem hi, Option.getD_some]; exact List.getElem_mem hi
    rw [etx] at hm ⊢
    rcases List.mem_append.mp hm with q | q
    · rcases List.mem_append.mp q with q | q
      · exact mkL_b hf0 hf1 _ q
      · exact (show ∀ c ∈ ([58, 32] : List Nat), c < 256 by decide) _ q
    · exact mkL_b hm0 hm1 _ q
  obtain ⟨vl, g_5, sol, G', Kl, Ql⟩ := G.callV 111 (hw _ (mm 207 rfl)) (hw _ (mm 61 rfl)) (nfSel (hw _ (mm 63 rfl))) (hw _ (mm 63 rfl)) (hw _ (mm 62 rfl)) (hw _ (mm 6 rfl)) (hw _ (mm 64 rfl)) hT.1 (by decide) [] [] rfl (c_length l Z a0 hw hEW n0 c1 hc1 S1 v2 hv2 S2 t tb (bl tx) G.old hT) (lenOf pd___I rfl) at_108 rfl (nle rfl) (nle rfl) (nle rfl) (nle rfl) all0 all0 all0 rfl
  replace G := G'; clear G'
  obtain ⟨wl, ql, rfl, el, rfl⟩ := Ql
  replace G := G.val ql
  subst el
  replace G := G.top (y := (.int (Int32.ofNat (nf + 2 + nm)))) (by rw [hlen]) |>.iloadN 112 at_111 rfl rfl |>.iconst 113 (2 : Int32) at_112 rfl rfl |>.iadd 114 at_113 rfl |>.top (y := (.int (Int32.ofNat (nf + 2)))) (congrArg Value.int (ofn_add nf 2)) |>.iloadN 115 at_114 rfl rfl |>.iadd 116 at_115 rfl |>.top (y := (.int (Int32.ofNat (nf + 2 + nm)))) (congrArg Value.int (ofn_add _ nm))
  replace G := G.icmpT 121 at_116 (XT.ii_eq_t rfl) (by decide) (by decide)
  skip
  have k223 : ∀ h : Heap, Str Z h t tb (bl tx) → Wl Z a0 "com/example/fianza/fianza/InputExceptionInPinLaw" p l e room_1 s m #[(.int i0), (.int i1)] below meth c code 12 B consts_1 h0 n0 [] [a2, a1] h 20 2838 223 #[.val (.int i0), .val (.int i1), .val (.int (Int32.ofNat nf)), .val (.int (Int32.ofNat nm)), .val (.int (Int32.ofNat f0)), .val (.int (Int32.ofNat f1)), .val (.int (Int32.ofNat m0)), .val (.int (Int32.ofNat m1)), .val (.ref a1), .val (.ref a2), .val (.ref q), .val (.ref t)] [] → Fin Z consts_1 p e below B s h0 n0 [] room_1.cells room_1.slots (VV fun w h so => w = .int 1 ∧ so = []) := by
    intro h hT G
    replace G := G.iconst 224 (1 : Int32) at_223 rfl rfl
    exact G.retN hret (Or.inl rfl) hlk at_224 [] all0 ⟨_, rfl, rfl, rfl⟩ (nle rfl) (nle rfl)
  have k203 : ∀ h : Heap, Str Z h t tb (bl tx) → Wl Z a0 "com/example/fianza/fianza/InputExceptionInPinLaw" p l e room_1 s m #[(.int i0), (.int i1)] below meth c code 12 B consts_1 h0 n0 [] [a2, a1] h 20 2838 203 #[.val (.int i0), .val (.int i1), .val (.int (Int32.ofNat nf)), .val (.int (Int32.ofNat nm)), .val (.int (Int32.ofNat f0)), .val (.int (Int32.ofNat f1)), .val (.int (Int32.ofNat m0)), .val (.int (Int32.ofNat m1)), .val (.ref a1), .val (.ref a2), .val (.ref q), .val (.ref t)] [] → Fin Z consts_1 p e below B s h0 n0 [] room_1.cells room_1.slots (VV fun w h so => w = .int 1 ∧ so = []) := by
    intro h hT G
    replace G := G.iloadN 204 at_203 rfl rfl |>.iconst 205 (1 : Int32) at_204 rfl rfl
    rcases Nat.lt_or_ge 1 nm with hq | hq
    · skip
      replace G := G.icmpF 208 at_205 (XT.ii_le_f (ofn_lt (i := 1) hq (by omega))) rfl |>.aload 210 at_208 rfl rfl rfl |>.iloadN 211 at_210 rfl rfl |>.iconst 212 (3 : Int32) at_211 rfl rfl |>.iadd 213 at_212 rfl |>.top (y := (.int (Int32.ofNat (nf + 3)))) (congrArg Value.int (ofn_add nf 3))
      obtain ⟨vc, k_c, soc, G', Kc, Qc⟩ := G.callV 216 (hw _ (mm 208 rfl)) (hw _ (mm 209 rfl)) (nfSel (hw _ (mm 211 rfl))) (hw _ (mm 211 rfl)) (hw _ (mm 210 rfl)) (hw _ (mm 6 rfl)) (hw _ (mm 212 rfl)) hT.1 (by decide) [(.int (Int32.ofNat (nf + 3)))] [] rfl (c_charAt l Z a0 hw hEW n0 c1 hc1 S1 v2 hv2 S2 t tb (bl tx) (nf + 3) (Int32.ofNat (tx.getD (nf + 3) 0)).toInt8.toInt32 G.old (by rw [hlen]; omega) (by rw [hlen]; omega) (bl_at (by rw [hln]; omega)) hT) (lenOf pd__I_C rfl) at_213 rfl (nle rfl) (nle rfl) (nle rfl) (nle rfl) all0 all0 all0 rfl
      replace G := G'; clear G'
      obtain ⟨wc, qc, rfl, ec, rfl⟩ := Qc
      replace G := G.val qc
      subst ec
      replace G := G.top (y := (.int (Int32.ofNat (tx.getD (nf + 3) 0)))) (congrArg Value.int (bm (hcb (nf + 3) (by omega)))) |>.iload 218 at_216 rfl rfl |>.icmpT 223 at_218 (XT.ii_eq_t (by rw [tF hq])) (by decide) (by decide)
      exact k223 _ hT G
    · skip
      replace G := G.icmpT 223 at_205 (XT.ii_le_t (ofn_nlt (i := 1) hq (by decide))) (by decide) (by decide)
      exact k223 _ hT G
  have k184 : ∀ h : Heap, Str Z h t tb (bl tx) → Wl Z a0 "com/example/fianza/fianza/InputExceptionInPinLaw" p l e room_1 s m #[(.int i0), (.int i1)] below meth c code 12 B consts_1 h0 n0 [] [a2, a1] h 20 2838 184 #[.val (.int i0), .val (.int i1), .val (.int (Int32.ofNat nf)), .val (.int (Int32.ofNat nm)), .val (.int (Int32.ofNat f0)), .val (.int (Int32.ofNat f1)), .val (.int (Int32.ofNat m0)), .val (.int (Int32.ofNat m1)), .val (.ref a1), .val (.ref a2), .val (.ref q), .val (.ref t)] [] → Fin Z consts_1 p e below B s h0 n0 [] room_1.cells room_1.slots (VV fun w h so => w = .int 1 ∧ so = []) := by
    intro h hT G
    replace G := G.iloadN 185 at_184 rfl rfl
    rcases Nat.lt_or_ge 0 nm with hq | hq
    · skip
      replace G := G.ifF 188 at_185 (XT.i0_le_f (ofn_lt (i := 0) hq (by omega))) rfl |>.aload 190 at_188 rfl rfl rfl |>.iloadN 191 at_190 rfl rfl |>.iconst 192 (2 : Int32) at_191 rfl rfl |>.iadd 193 at_192 rfl |>.top (y := (.int (Int32.ofNat (nf + 2)))) (congrArg Value.int (ofn_add nf 2))
      obtain ⟨vc, k_c, soc, G', Kc, Qc⟩ := G.callV 196 (hw _ (mm 208 rfl)) (hw _ (mm 209 rfl)) (nfSel (hw _ (mm 211 rfl))) (hw _ (mm 211 rfl)) (hw _ (mm 210 rfl)) (hw _ (mm 6 rfl)) (hw _ (mm 212 rfl)) hT.1 (by decide) [(.int (Int32.ofNat (nf + 2)))] [] rfl (c_charAt l Z a0 hw hEW n0 c1 hc1 S1 v2 hv2 S2 t tb (bl tx) (nf + 2) (Int32.ofNat (tx.getD (nf + 2) 0)).toInt8.toInt32 G.old (by rw [hlen]; omega) (by rw [hlen]; omega) (bl_at (by rw [hln]; omega)) hT) (lenOf pd__I_C rfl) at_193 rfl (nle rfl) (nle rfl) (nle rfl) (nle rfl) all0 all0 all0 rfl
      replace G := G'; clear G'
      obtain ⟨wc, qc, rfl, ec, rfl⟩ := Qc
      replace G := G.val qc
      subst ec
      replace G := G.top (y := (.int (Int32.ofNat (tx.getD (nf + 2) 0)))) (congrArg Value.int (bm (hcb (nf + 2) (by omega)))) |>.iload 198 at_196 rfl rfl |>.icmpT 203 at_198 (XT.ii_eq_t (by rw [tE hq])) (by decide) (by decide)
      exact k203 _ hT G
    · skip
      replace G := G.ifT 203 at_185 (XT.i0_le_t (ofn_nlt (i := 0) hq (by decide))) (by decide) (by decide)
      exact k203 _ hT G
  have k156 : ∀ h : Heap, Str Z h t tb (bl tx) → Wl Z a0 "com/example/fianza/fianza/InputExceptionInPinLaw" p l e room_1 s m #[(.int i0), (.int i1)] below meth c code 12 B consts_1 h0 n0 [] [a2, a1] h 20 2838 156 #[.val (.int i0), .val (.int i1), .val (.int (Int32.ofNat nf)), .val (.int (Int32.ofNat nm)), .val (.int (Int32.ofNat f0)), .val (.int (Int32.ofNat f1)), .val (.int (Int32.ofNat m0)), .val (.int (Int32.ofNat m1)), .val (.ref a1), .val (.ref a2), .val (.ref q), .val (.ref t)] [] → Fin Z consts_1 p e below B s h0 n0 [] room_1.cells room_1.slots (VV fun w h so => w = .int 1 ∧ so = []) := by
    intro h hT G
    replace G := G.aload 158 at_156 rfl rfl rfl |>.iloadN 159 at_158 rfl rfl
    obtain ⟨vc, k_c, soc, G', Kc, Qc⟩ := G.callV 162 (hw _ (mm 208 rfl)) (hw _ (mm 209 rfl)) (nfSel (hw _ (mm 211 rfl))) (hw _ (mm 211 rfl)) (hw _ (mm 210 rfl)) (hw _ (mm 6 rfl)) (hw _ (mm 212 rfl)) hT.1 (by decide) [(.int (Int32.ofNat nf))] [] rfl (c_charAt l Z a0 hw hEW n0 c1 hc1 S1 v2 hv2 S2 t tb (bl tx) nf (Int32.ofNat (tx.getD nf 0)).toInt8.toInt32 G.old (by rw [hlen]; omega) (by rw [hlen]; omega) (bl_at (by rw [hln]; omega)) hT) (lenOf pd__I_C rfl) at_159 rfl (nle rfl) (nle rfl) (nle rfl) (nle rfl) all0 all0 all0 rfl
    replace G := G'; clear G'
    obtain ⟨wc, qc, rfl, ec, rfl⟩ := Qc
    replace G := G.val qc
    subst ec
    replace G := G.top (y := (.int (Int32.ofNat (tx.getD nf 0)))) (congrArg Value.int (bm (hcb nf (by omega)))) |>.bipush 164 (58 : Int32) at_162 (by decide) rfl |>.icmpT 169 at_164 (XT.ii_eq_t (by rw [tC]; rfl)) (by decide) (by decide) |>.aload 171 at_169 rfl rfl rfl |>.iloadN 172 at_171 rfl rfl |>.iconst 173 (1 : Int32) at_172 rfl rfl |>.iadd 174 at_173 rfl |>.top (y := (.int (Int32.ofNat (nf + 1)))) (congrArg Value.int (ofn_add nf 1))
    obtain ⟨vd, k_c, sod, G', Kd, Qd⟩ := G.callV 177 (hw _ (mm 208 rfl)) (hw _ (mm 209 rfl)) (nfSel (hw _ (mm 211 rfl))) (hw _ (mm 211 rfl)) (hw _ (mm 210 rfl)) (hw _ (mm 6 rfl)) (hw _ (mm 212 rfl)) hT.1 (by decide) [(.int (Int32.ofNat (nf + 1)))] [] rfl (c_charAt l Z a0 hw hEW n0 c1 hc1 S1 v2 hv2 S2 t tb (bl tx) (nf + 1) (Int32.ofNat (tx.getD (nf + 1) 0)).toInt8.toInt32 G.old (by rw [hlen]; omega) (by rw [hlen]; omega) (bl_at (by rw [hln]; omega)) hT) (lenOf pd__I_C rfl) at_174 rfl (nle rfl) (nle rfl) (nle rfl) (nle rfl) all0 all0 all0 rfl
    replace G := G'; clear G'
    obtain ⟨wd, qd, rfl, ed, rfl⟩ := Qd
    replace G := G.val qd
    subst ed
    replace G := G.top (y := (.int (Int32.ofNat (tx.getD (nf + 1) 0)))) (congrArg Value.int (bm (hcb (nf + 1) (by omega)))) |>.bipush 179 (32 : Int32) at_177 (by decide) rfl |>.icmpT 184 at_179 (XT.ii_eq_t (by rw [tD]; rfl)) (by decide) (by decide)
    exact k184 _ hT G
  have k138 : ∀ h : Heap, Str Z h t tb (bl tx) → Wl Z a0 "com/example/fianza/fianza/InputExceptionInPinLaw" p l e room_1 s m #[(.int i0), (.int i1)] below meth c code 12 B consts_1 h0 n0 [] [a2, a1] h 20 2838 138 #[.val (.int i0), .val (.int i1), .val (.int (Int32.ofNat nf)), .val (.int (Int32.ofNat nm)), .val (.int (Int32.ofNat f0)), .val (.int (Int32.ofNat f1)), .val (.int (Int32.ofNat m0)), .val (.int (Int32.ofNat m1)), .val (.ref a1), .val (.ref a2), .val (.ref q), .val (.ref t)] [] → Fin Z consts_1 p e below B s h0 n0 [] room_1.cells room_1.slots (VV fun w h so => w = .int 1 ∧ so = []) := by
    intro h hT G
    replace G := G.iloadN 139 at_138 rfl rfl |>.iconst 140 (1 : Int32) at_139 rfl rfl
    rcases Nat.lt_or_ge 1 nf with hq | hq
    · skip
      replace G := G.icmpF 143 at_140 (XT.ii_le_f (ofn_lt (i := 1) hq (by omega))) rfl |>.aload 145 at_143 rfl rfl rfl |>.iconst 146 (1 : Int32) at_145 rfl rfl |>.top (y := (.int (Int32.ofNat 1))) (rfl)
      obtain ⟨vc, k_c, soc, G', Kc, Qc⟩ := G.callV 149 (hw _ (mm 208 rfl)) (hw _ (mm 209 rfl)) (nfSel (hw _ (mm 211 rfl))) (hw _ (mm 211 rfl)) (hw _ (mm 210 rfl)) (hw _ (mm 6 rfl)) (hw _ (mm 212 rfl)) hT.1 (by decide) [(.int (Int32.ofNat 1))] [] rfl (c_charAt l Z a0 hw hEW n0 c1 hc1 S1 v2 hv2 S2 t tb (bl tx) 1 (Int32.ofNat (tx.getD 1 0)).toInt8.toInt32 G.old (by rw [hlen]; omega) (by rw [hlen]; omega) (bl_at (by rw [hln]; omega)) hT) (lenOf pd__I_C rfl) at_146 rfl (nle rfl) (nle rfl) (nle rfl) (nle rfl) all0 all0 all0 rfl
      replace G := G'; clear G'
      obtain ⟨wc, qc, rfl, ec, rfl⟩ := Qc
      replace G := G.val qc
      subst ec
      replace G := G.top (y := (.int (Int32.ofNat (tx.getD 1 0)))) (congrArg Value.int (bm (hcb 1 (by omega)))) |>.iload 151 at_149 rfl rfl |>.icmpT 156 at_151 (XT.ii_eq_t (by rw [tB hq])) (by decide) (by decide)
      exact k156 _ hT G
    · skip
      replace G := G.icmpT 156 at_140 (XT.ii_le_t (ofn_nlt (i := 1) hq (by decide))) (by decide) (by decide)
      exact k156 _ hT G
  replace G := G.iloadN 122 at_121 rfl rfl
  rcases Nat.lt_or_ge 0 nf with hq | hq
  · skip
    replace G := G.ifF 125 at_122 (XT.i0_le_f (ofn_lt (i := 0) hq (by omega))) rfl |>.aload 127 at_125 rfl rfl rfl |>.iconst 128 (0 : Int32) at_127 rfl rfl |>.top (y := (.int (Int32.ofNat 0))) (rfl)
    obtain ⟨vc, k_c, soc, G', Kc, Qc⟩ := G.callV 131 (hw _ (mm 208 rfl)) (hw _ (mm 209 rfl)) (nfSel (hw _ (mm 211 rfl))) (hw _ (mm 211 rfl)) (hw _ (mm 210 rfl)) (hw _ (mm 6 rfl)) (hw _ (mm 212 rfl)) hT.1 (by decide) [(.int (Int32.ofNat 0))] [] rfl (c_charAt l Z a0 hw hEW n0 c1 hc1 S1 v2 hv2 S2 t tb (bl tx) 0 (Int32.ofNat (tx.getD 0 0)).toInt8.toInt32 G.old (by rw [hlen]; omega) (by rw [hlen]; omega) (bl_at (by rw [hln]; omega)) hT) (lenOf pd__I_C rfl) at_128 rfl (nle rfl) (nle rfl) (nle rfl) (nle rfl) all0 all0 all0 rfl
    replace G := G'; clear G'
    obtain ⟨wc, qc, rfl, ec, rfl⟩ := Qc
    replace G := G.val qc
    subst ec
    replace G := G.top (y := (.int (Int32.ofNat (tx.getD 0 0)))) (congrArg Value.int (bm (hcb 0 (by omega)))) |>.iload 133 at_131 rfl rfl |>.icmpT 138 at_133 (XT.ii_eq_t (by rw [tA hq])) (by decide) (by decide)
    exact k138 _ hT G
  · skip
    replace G := G.ifT 138 at_122 (XT.i0_le_t (ofn_nlt (i := 0) hq (by decide))) (by decide) (by decide)
    exact k138 _ hT G
theorem comes_1 {Post : Tables → Env → Array Value → State → Outcome → State → Prop} (hpost : ∀ tb e args s v u, (limb_1_1.after args s (.returned v) u = true ∧ limb_1_2.after args s (.returned v) u = true ∧ True) → FramedW s (.returned v) u (Jvm.fieldLocs frame_1_writes args s ++ Jvm.arrayLocs frame_1_arrays args s ++ Jvm.staticLocs frame_1_statics s) 40 7744 → Post tb e args s (.returned v) u) :
    ArmFor flags0 classFile x code maxLocals ret World_1 tables_1 room_1 Calls_1 rest_1 Pre_1 Post := by
  intro l hfl _ _ p e ha hc hk s m args below hf hA hF happ hP
  obtain ⟨hcalls, hrest, hpre⟩ := hP
  obtain ⟨-, -, -, hnamed, -, -, -, hat⟩ := (Spec.applies_iff hf).mp happ
  obtain ⟨hg, hn⟩ := and_e (Cond.before_iff.mp (show (Jvm.Cond.and given_1 narrow_1).before args s = true from hpre))
  obtain ⟨hcnt, g0⟩ := and_e hg
  obtain ⟨a0, g1⟩ := and_e g0
  have a1 := g1
  obtain ⟨w0, w1, rfl⟩ : ∃ w0 w1 : Value, args = #[w0, w1] := by
    have hs : args.size = 2 := by simpa [Cond.value, given_1] using hcnt
    obtain ⟨L⟩ := args
    match L, hs with
    | [w0, w1], _ => exact ⟨w0, w1, rfl⟩
  have hw := fun d (hd : d ∈ tables_1) => atoms_spec (ws := Jvm.Cond.code x code maxLocals ret :: tables_1) hat d (List.mem_cons_of_mem _ hd)
  obtain ⟨hsets, hown0⟩ := atoms_of _ (rest_1_c_eq ▸ (show rest_1_c.before _ s = true from hrest))
  have hfit : Fit s := fun {y c} hc i hi => by
    obtain ⟨ha, rfl⟩ := Array.getElem?_eq_some_iff.mp hc
    have q := List.all_eq_true.mp ((Array.all_eq_true_iff_forall_mem.mp hF) _ (Array.getElem_mem ha)) i (List.mem_range.mpr hi)
    simpa [Array.getElem?_eq_getElem hi] using q
  obtain ⟨i0, e0⟩ := is_v a0
  obtain rfl : w0 = (.int i0) := Option.some.inj e0
  obtain ⟨i1, e1⟩ := is_v a1
  obtain rfl : w1 = (.int i1) := Option.some.inj e1
  have hcompact : Jvm.Lit.compactW.before _ s = true := (hsets _ (mm 2 rfl))
  obtain ⟨c1, ec1⟩ := is_v (Cond.before_iff.mp (hsets _ (mm 1 rfl)))
  have S1 : Sta s s.heap "java/lang/String" "COMPACT_STRINGS" "Z" (.int c1) := Sta.start ec1 (Or.inl (hsets _ (mm 0 rfl)))
  have hc1 : ¬ (c1 = (0 : Int32)) := gotF (Cond.eq_ints ec1 (Term.int_eval (0))) (not_v (Cond.before_iff.mp hcompact))
  obtain ⟨v2, ev2, hv2⟩ := isR_v (Cond.before_iff.mp (hsets _ (mm 8 rfl)))
  have S2 : Sta s s.heap "jdk/internal/util/Preconditions" "SIOOBE_FORMATTER" "Ljava/util/function/BiFunction;" v2 := Sta.start ev2 (Or.inl (hsets _ (mm 7 rfl)))
  obtain ⟨vU, eU, hU⟩ := isR_v (Cond.before_iff.mp (hsets _ (mm 16 rfl)))
  obtain ⟨u', rfl⟩ := arr_nn (hsets _ (mm 17 rfl)) eU hU
  have SU : Sta s s.heap "java/lang/Throwable" "UNASSIGNED_STACK" "[Ljava/lang/StackTraceElement;" (.ref u') := Sta.start eU (Or.inl (hsets _ (mm 15 rfl)))
  obtain ⟨vs', evs', hvs⟩ := isR_v (Cond.before_iff.mp (hsets _ (mm 21 rfl)))
  have SS : Sta s s.heap "java/lang/Throwable" "SUPPRESSED_SENTINEL" "Ljava/util/List;" vs' := Sta.start evs' (Or.inl (hsets _ (mm 20 rfl)))
  have hEW : EW s _ consts_1 := (EW.cons (hw _ (mm 98 rfl)) (by decide) (EW.cons (hw _ (mm 18 rfl)) (by decide) EW.nil))
  have hCH : CHv s consts_1 s.vm s.heap := CHv.start hEW (show ∀ p ∈ consts_1, Jvm.Lit.constHeld s p.1 p.2 from hcalls.2.2.1) hcompact (hw _ (mm 19 rfl)) (hw _ (mm 5 rfl))
  obtain ⟨n, o, h1, h2, h3, _, L, rfl, ⟨so, N, -, ⟨w, rfl, rfl, -⟩, -, -⟩, hq⟩ := c_law l s _ hw hEW s.heap.size c1 hc1 S1 v2 hv2 S2 (fun e ha => Launch.traces_on hfl ha) u' SU vs' hvs SS tables_1 i0 i1 (Old.start s) p e ha hc hk s m _ below hf ((Spec.applies_iff_loose hf).mp happ).1 ⟨rfl, State.Warmed39.refl s, rfl, hCH, fun _ q => nomatch q⟩ ⟨known_t hcalls.2.1, known_f hf hcalls.1⟩
  refine ⟨n, _, h1, h2, h3, hpost _ _ _ _ _ _ ⟨Cond.after_iff.mpr rfl, Cond.after_iff.mpr (eq_i res_at (Term.int_eval (1)) rfl), trivial⟩ ⟨hq.1, hq.2.1, hq.2.2.1, (hq.2.2.2.sift fun y hy => Or.inr (N y hy)).mono (by decide) (by decide)⟩⟩
theorem main_1_1 : Claimed_1_1 := comes_1 fun _ _ _ _ _ _ h hF => ⟨h.1, hF⟩
theorem main_1_2 : Claimed_1_2 := comes_1 fun _ _ _ _ _ _ h hF => ⟨h.2.1, hF⟩
end Jvm.Pilot.@@N@@
namespace Jvm.Pilot.@@N@@
open Jvm Jvm.ClassFile Sem Op Lib Jvm.Free Jvm.Stand Jvm.Pilot.@@N@@.Jvm.D
/-! MADE BY PROGRAM (witnessworld.py) out of the Statement's table words and the real class files: 42 classes; the members and pool entries that the words name. The judged class is class 1, her method 2. -/
namespace start1
open Jvm.ClassFile
def u (s : String) : CpInfo := .utf8 (stringToUtf16 s)
/-- a pool by its gaps: so many unusable entries, then the entry; so many at the end -/
def gap : Nat → List CpInfo → List CpInfo
  | 0, r => r
  | n + 1, r => .unusable :: gap n r
def poolList (es : List (Nat × CpInfo)) (last : Nat) : List CpInfo := es.foldr (fun e r => gap e.1 (e.2 :: r)) (gap last [])
def pool (es : List (Nat × CpInfo)) (last : Nat) : Array CpInfo := ⟨poolList es last⟩
def fileOf (pool : Array CpInfo) (this : Nat) (attrs : Array Attribute := #[]) (ms : Array MethodInfo := #[]) (fl : Nat := 33) (sup : Nat := 0) (ifs : Array Nat := #[]) (fds : Array FieldInfo := #[]) : ClassFile where
  minorVersion := 0
  majorVersion := 65
  constantPool := pool
  accessFlags := fl
  thisClass := this
  superClass := sup
  interfaces := ifs
  fields := fds
  methods := ms
  attributes := attrs
def plain (name : String) (sup : Option ClassId) : Class where
  name := name
  kind := .ordinary
  loader := none
  accessFlags := 33
  super := sup
  interfaces := #[]
  cf := none
  fields := #[]
  methods := #[]
  instanceTypes := #[]
  staticTypes := #[]
  resolved := #[]
  callSites := []
  init := .initialized
  statics := none
  mirror := none

def pool0 : Array CpInfo := pool [(5, u "<init>"), (0, u "()V"), (1, .class_ 10), (1, u "java/lang/Object")] 113

def k0c0 : Code := { maxStack := 0, maxLocals := 1, code := object_method_1_code, exceptionTable := #[], attributes := #[] }
def k0m0 : Method := { name := "<init>", desc := "()V", sig := { parameters := [], returnType := none }, accessFlags := 1, code := some k0c0 }
/-- java/lang/Object -/
def k0 : Class := { plain "java/lang/Object" none with
  accessFlags := 33
  interfaces := #[]
  cf := some (fileOf pool0 8 #[] #[{ accessFlags := 1, nameIndex := 5, descriptorIndex := 6, attributes := #[] }] 33 0 #[] #[])
  fields := #[]
  methods := #[k0m0]
  instanceTypes := #[]
  staticTypes := #[]
  resolved := Array.replicate 124 none
  statics := none }

def pool1 : Array CpInfo := pool [(2, .class_ 4), (1, u "java/lang/Object"), (0, u "<init>"), (0, u "()V"), (0, .class_ 8), (0, u "java/lang/String"), (0, .methodref 7 10), (0, .nameAndType 5 11), (0, u "([C)V"), (0, .methodref 13 14), (0, .class_ 15), (0, .nameAndType 16 17), (0, u "com/example/fianza/fianza/InputExceptionInPinLaw"), (0, u "str"), (0, u "(ICC)Ljava/lang/String;"), (0, .methodref 19 20), (0, .class_ 21), (0, .nameAndType 22 23), (0, u "com/example/fianza/fianza/InputException"), (0, u "in"), (0, u "(Ljava/lang/String;Ljava/lang/String;)Lcom/example/fianza/fianza/InputException;"), (0, .methodref 19 25), (0, .nameAndType 26 27), (0, u "getMessage"), (0, u "()Ljava/lang/String;"), (0, .methodref 7 29), (0, .nameAndType 30 31), (0, u "length"), (0, u "()I"), (0, .methodref 7 33), (0, .nameAndType 34 35), (0, u "charAt"), (0, u "(I)C"), (3, u "law"), (0, u "(II)Z")] 2

def k1m0 : Method := { name := "<init>", desc := "()V", sig := { parameters := [], returnType := none }, accessFlags := 1, code := none }
def k1c1 : Code := { maxStack := 6, maxLocals := 3, code := method_2_code, exceptionTable := #[], attributes := #[] }
def k1m1 : Method := { name := "str", desc := "(ICC)Ljava/lang/String;", sig := { parameters := [.int, .char, .char], returnType := some (.object "java/lang/String") }, accessFlags := 10, code := some k1c1 }
def k1c2 : Code := { maxStack := 3, maxLocals := 12, code := code, exceptionTable := #[], attributes := #[] }
def k1m2 : Method := { name := "law", desc := "(II)Z", sig := { parameters := [.int, .int], returnType := some .boolean }, accessFlags := 9, code := some k1c2 }
/-- com/example/fianza/fianza/InputExceptionInPinLaw -/
def k1 : Class := { plain "com/example/fianza/fianza/InputExceptionInPinLaw" (some 0) with
  accessFlags := 49
  interfaces := #[]
  cf := some (fileOf pool1 13 #[] #[{ accessFlags := 1, nameIndex := 5, descriptorIndex := 6, attributes := #[] }, { accessFlags := 10, nameIndex := 16, descriptorIndex := 17, attributes := #[] }, { accessFlags := 9, nameIndex := 39, descriptorIndex := 40, attributes := #[] }] 49 2 #[] #[])
  fields := #[]
  methods := #[k1m0, k1m1, k1m2]
  instanceTypes := #[]
  staticTypes := #[]
  resolved := Array.replicate 43 none
  statics := none }

def pool2 : Array CpInfo := pool [(1, .class_ 2), (0, u "java/io/Serializable"), (0, .class_ 4), (0, u "java/lang/Object")] 2

/-- java/io/Serializable -/
def k2 : Class := { plain "java/io/Serializable" (some 0) with
  accessFlags := 1537
  interfaces := #[]
  cf := some (fileOf pool2 1 #[] #[] 1537 3 #[] #[])
  fields := #[]
  methods := #[]
  instanceTypes := #[]
  staticTypes := #[]
  resolved := Array.replicate 7 none
  statics := none }

def pool3 : Array CpInfo := pool [(1, .class_ 2), (0, u "java/lang/Comparable"), (0, .class_ 4), (0, u "java/lang/Object")] 7

/-- java/lang/Comparable -/
def k3 : Class := { plain "java/lang/Comparable" (some 0) with
  accessFlags := 1537
  interfaces := #[]
  cf := some (fileOf pool3 1 #[] #[] 1537 3 #[] #[])
  fields := #[]
  methods := #[]
  instanceTypes := #[]
  staticTypes := #[]
  resolved := Array.replicate 12 none
  statics := none }

def pool4 : Array CpInfo := pool [(2, .class_ 4), (1, u "java/lang/CharSequence"), (42, .class_ 48), (0, u "java/lang/CharSequence$1CodePointIterator"), (10, .class_ 60), (0, u "java/lang/CharSequence$1CharIterator"), (5, .class_ 67), (0, u "java/lang/Object")] 63

/-- java/lang/CharSequence -/
def k4 : Class := { plain "java/lang/CharSequence" (some 0) with
  accessFlags := 1537
  interfaces := #[]
  cf := some (fileOf pool4 2 #[.nestMembers #[47, 59]] #[] 1537 66 #[] #[])
  fields := #[]
  methods := #[]
  instanceTypes := #[]
  staticTypes := #[]
  resolved := Array.replicate 131 none
  statics := none }

def pool5 : Array CpInfo := pool [(1, .class_ 2), (0, u "java/lang/constant/Constable"), (0, .class_ 4), (0, u "java/lang/Object")] 6

/-- java/lang/constant/Constable -/
def k5 : Class := { plain "java/lang/constant/Constable" (some 0) with
  accessFlags := 1537
  interfaces := #[]
  cf := some (fileOf pool5 1 #[] #[] 1537 3 #[] #[])
  fields := #[]
  methods := #[]
  instanceTypes := #[]
  staticTypes := #[]
  resolved := Array.replicate 11 none
  statics := none }

def pool6 : Array CpInfo := pool [(1, .class_ 2), (0, u "java/lang/constant/ConstantDesc"), (0, .class_ 4), (0, u "java/lang/Object")] 32

/-- java/lang/constant/ConstantDesc -/
def k6 : Class := { plain "java/lang/constant/ConstantDesc" (some 0) with
  accessFlags := 1537
  interfaces := #[]
  cf := some (fileOf pool6 1 #[] #[] 1537 3 #[] #[])
  fields := #[]
  methods := #[]
  instanceTypes := #[]
  staticTypes := #[]
  resolved := Array.replicate 37 none
  statics := none }

def pool7 : Array CpInfo := pool [(1, .methodref 2 3), (0, .class_ 4), (0, .nameAndType 5 6), (0, u "java/lang/Object"), (0, u "<init>"), (0, u "()V"), (0, .string 8), (0, u ""), (0, .fieldref 10 11), (0, .class_ 12), (0, .nameAndType 13 14), (0, u "java/lang/String"), (0, u "value"), (0, u "[B"), (0, .fieldref 10 16), (0, .nameAndType 17 18), (0, u "coder"), (0, u "B"), (2, u "hash"), (0, u "I"), (2, u "hashIsZero"), (0, u "Z"), (0, .methodref 10 28), (0, .nameAndType 5 29), (0, u "([CIILjava/lang/Void;)V"), (8, .fieldref 10 39), (0, .nameAndType 40 26), (0, u "COMPACT_STRINGS"), (1, .class_ 44), (1, u "java/lang/StringUTF16"), (0, u "compress"), (1, .methodref 42 48), (0, .nameAndType 49 50), (0, u "coderFromArrayLen"), (0, u "([BI)B"), (3, .methodref 55 56), (0, .class_ 57), (0, .nameAndType 58 59), (0, u "java/util/Arrays"), (0, u "copyOfRange"), (0, u "([BII)[B"), (47, .class_ 109), (1, u "java/lang/StringLatin1"), (32, u "()Z"), (34, .methodref 42 178), (0, .nameAndType 45 179), (0, u "([CII)[B"), (13, .class_ 195), (1, u "java/lang/System"), (16, .methodref 193 213), (0, .nameAndType 214 215), (0, u "arraycopy"), (0, u "(Ljava/lang/Object;ILjava/lang/Object;II)V"), (118, u "()I"), (0, .methodref 10 336), (0, .nameAndType 17 337), (0, u "()B"), (2, u "()[B"), (22, u "([BI)C"), (27, u "(II)V"), (35, u "(I)C"), (61, .methodref 10 490), (0, .nameAndType 5 491), (0, u "(Ljava/lang/AbstractStringBuilder;Ljava/lang/Void;)V"), (0, .methodref 10 493), (0, .nameAndType 494 142), (0, u "isLatin1"), (0, .methodref 107 496), (0, .nameAndType 497 363), (0, u "charAt"), (3, u "checkIndex"), (4, .nameAndType 507 334), (0, u "length"), (24, u "getBytes"), (16, .methodref 550 506), (0, .class_ 551), (0, u "java/lang/AbstractStringBuilder"), (0, .methodref 550 553), (0, .nameAndType 554 340), (0, u "getValue"), (20, .class_ 576), (0, u "java/lang/CharSequence"), (22, u "CASE_INSENSITIVE_ORDER"), (0, u "Ljava/util/Comparator;"), (220, u "([BIB)V"), (188, u "([C)V"), (36, .methodref 550 493), (5, .fieldref 1054 1055), (0, .class_ 1056), (0, .nameAndType 1057 1058), (0, u "jdk/internal/util/Preconditions"), (0, u "SIOOBE_FORMATTER"), (0, u "Ljava/util/function/BiFunction;"), (0, .methodref 1054 1060), (0, .nameAndType 501 1061), (0, u "(IILjava/util/function/BiFunction;)I"), (39, u "serialPersistentFields"), (0, u "[Ljava/io/ObjectStreamField;"), (0, .class_ 1104), (0, u "java/lang/String$CaseInsensitiveComparator"), (1, .class_ 1107), (0, u "java/io/Serializable"), (0, .class_ 1109), (0, u "java/lang/Comparable"), (0, .class_ 1111), (0, u "java/lang/constant/Constable"), (0, .class_ 1113), (0, u "java/lang/constant/ConstantDesc"), (2, u "serialVersionUID"), (0, u "J"), (3, u "REPL"), (0, u "C"), (2, u "LATIN1"), (1, u "UTF16"), (105, u "(Ljava/lang/StringBuilder;)V")] 217

def k7m0 : Method := { name := "<init>", desc := "()V", sig := { parameters := [], returnType := none }, accessFlags := 1, code := none }
def k7c1 : Code := { maxStack := 5, maxLocals := 2, code := jdk_42_method_3_code, exceptionTable := #[], attributes := #[] }
def k7m1 : Method := { name := "<init>", desc := "([C)V", sig := { parameters := [(.array .char)], returnType := none }, accessFlags := 1, code := some k7c1 }
def k7c2 : Code := { maxStack := 3, maxLocals := 2, code := jdk_42_method_53_code, exceptionTable := #[], attributes := #[] }
def k7m2 : Method := { name := "<init>", desc := "(Ljava/lang/StringBuilder;)V", sig := { parameters := [(.object "java/lang/StringBuilder")], returnType := none }, accessFlags := 1, code := some k7c2 }
def k7c3 : Code := { maxStack := 2, maxLocals := 1, code := jdk_42_method_54_code, exceptionTable := #[], attributes := #[] }
def k7m3 : Method := { name := "length", desc := "()I", sig := { parameters := [], returnType := some .int }, accessFlags := 1, code := some k7c3 }
def k7c4 : Code := { maxStack := 2, maxLocals := 2, code := jdk_42_method_56_code, exceptionTable := #[], attributes := #[] }
def k7m4 : Method := { name := "charAt", desc := "(I)C", sig := { parameters := [.int], returnType := some .char }, accessFlags := 1, code := some k7c4 }
def k7c5 : Code := { maxStack := 5, maxLocals := 4, code := jdk_42_method_147_code, exceptionTable := #[], attributes := #[] }
def k7m5 : Method := { name := "getBytes", desc := "([BIB)V", sig := { parameters := [(.array .byte), .int, .byte], returnType := none }, accessFlags := 0, code := some k7c5 }
def k7c6 : Code := { maxStack := 4, maxLocals := 6, code := jdk_42_method_149_code, exceptionTable := #[], attributes := #[] }
def k7m6 : Method := { name := "<init>", desc := "([CIILjava/lang/Void;)V", sig := { parameters := [(.array .char), .int, .int, (.object "java/lang/Void")], returnType := none }, accessFlags := 2, code := some k7c6 }
def k7c7 : Code := { maxStack := 5, maxLocals := 5, code := jdk_42_method_150_code, exceptionTable := #[], attributes := #[] }
def k7m7 : Method := { name := "<init>", desc := "(Ljava/lang/AbstractStringBuilder;Ljava/lang/Void;)V", sig := { parameters := [(.object "java/lang/AbstractStringBuilder"), (.object "java/lang/Void")], returnType := none }, accessFlags := 0, code := some k7c7 }
def k7c8 : Code := { maxStack := 1, maxLocals := 1, code := jdk_42_method_152_code, exceptionTable := #[], attributes := #[] }
def k7m8 : Method := { name := "coder", desc := "()B", sig := { parameters := [], returnType := some .byte }, accessFlags := 0, code := some k7c8 }
def k7c9 : Code := { maxStack := 1, maxLocals := 1, code := jdk_42_method_154_code, exceptionTable := #[], attributes := #[] }
def k7m9 : Method := { name := "isLatin1", desc := "()Z", sig := { parameters := [], returnType := some .boolean }, accessFlags := 0, code := some k7c9 }
def k7c10 : Code := { maxStack := 3, maxLocals := 2, code := jdk_42_method_155_code, exceptionTable := #[], attributes := #[] }
def k7m10 : Method := { name := "checkIndex", desc := "(II)V", sig := { parameters := [.int, .int], returnType := none }, accessFlags := 8, code := some k7c10 }
/-- java/lang/String -/
def k7 : Class := { plain "java/lang/String" (some 0) with
  accessFlags := 49
  interfaces := #[2, 3, 4, 5, 6]
  cf := some (fileOf pool7 10 #[.nestMembers #[1103]] #[{ accessFlags := 1, nameIndex := 5, descriptorIndex := 6, attributes := #[] }, { accessFlags := 1, nameIndex := 5, descriptorIndex := 1010, attributes := #[] }, { accessFlags := 1, nameIndex := 5, descriptorIndex := 1233, attributes := #[] }, { accessFlags := 1, nameIndex := 507, descriptorIndex := 334, attributes := #[] }, { accessFlags := 1, nameIndex := 497, descriptorIndex := 427, attributes := #[] }, { accessFlags := 0, nameIndex := 532, descriptorIndex := 821, attributes := #[] }, { accessFlags := 2, nameIndex := 5, descriptorIndex := 29, attributes := #[] }, { accessFlags := 0, nameIndex := 5, descriptorIndex := 491, attributes := #[] }, { accessFlags := 0, nameIndex := 17, descriptorIndex := 337, attributes := #[] }, { accessFlags := 0, nameIndex := 494, descriptorIndex := 142, attributes := #[] }, { accessFlags := 8, nameIndex := 501, descriptorIndex := 391, attributes := #[] }] 49 2 #[1106, 1108, 575, 1110, 1112] #[{ accessFlags := 18, nameIndex := 13, descriptorIndex := 14, attributes := #[] }, { accessFlags := 18, nameIndex := 17, descriptorIndex := 18, attributes := #[] }, { accessFlags := 2, nameIndex := 21, descriptorIndex := 22, attributes := #[] }, { accessFlags := 2, nameIndex := 25, descriptorIndex := 26, attributes := #[] }, { accessFlags := 26, nameIndex := 1116, descriptorIndex := 1117, attributes := #[] }, { accessFlags := 24, nameIndex := 40, descriptorIndex := 26, attributes := #[] }, { accessFlags := 26, nameIndex := 1101, descriptorIndex := 1102, attributes := #[] }, { accessFlags := 26, nameIndex := 1121, descriptorIndex := 1122, attributes := #[] }, { accessFlags := 25, nameIndex := 599, descriptorIndex := 600, attributes := #[] }, { accessFlags := 24, nameIndex := 1125, descriptorIndex := 18, attributes := #[] }, { accessFlags := 24, nameIndex := 1127, descriptorIndex := 18, attributes := #[] }])
  fields := #[{ name := "value", type := (.array .byte), accessFlags := 18, slot := 0, constantValue := 0 }, { name := "coder", type := .byte, accessFlags := 18, slot := 1, constantValue := 0 }, { name := "hash", type := .int, accessFlags := 2, slot := 2, constantValue := 0 }, { name := "hashIsZero", type := .boolean, accessFlags := 2, slot := 3, constantValue := 0 }, { name := "serialVersionUID", type := .long, accessFlags := 26, slot := 0, constantValue := 0 }, { name := "COMPACT_STRINGS", type := .boolean, accessFlags := 24, slot := 1, constantValue := 0 }, { name := "serialPersistentFields", type := (.array (.object "java/io/ObjectStreamField")), accessFlags := 26, slot := 2, constantValue := 0 }, { name := "REPL", type := .char, accessFlags := 26, slot := 3, constantValue := 0 }, { name := "CASE_INSENSITIVE_ORDER", type := (.object "java/util/Comparator"), accessFlags := 25, slot := 4, constantValue := 0 }, { name := "LATIN1", type := .byte, accessFlags := 24, slot := 5, constantValue := 0 }, { name := "UTF16", type := .byte, accessFlags := 24, slot := 6, constantValue := 0 }]
  methods := #[k7m0, k7m1, k7m2, k7m3, k7m4, k7m5, k7m6, k7m7, k7m8, k7m9, k7m10]
  instanceTypes := #[(.array .byte), .byte, .int, .boolean]
  staticTypes := #[.long, .boolean, (.array (.object "java/io/ObjectStreamField")), .char, (.object "java/util/Comparator"), .byte, .byte]
  resolved := Array.replicate 1451 none
  statics := some 0 }

def pool8 : Array CpInfo := pool [(1, .methodref 2 3), (0, .class_ 4), (0, .nameAndType 5 6), (0, u "java/lang/Object"), (0, u "<init>"), (0, u "()V"), (0, .fieldref 8 9), (0, .class_ 10), (0, .nameAndType 11 12), (0, u "java/lang/Throwable"), (0, u "cause"), (0, u "Ljava/lang/Throwable;"), (0, .fieldref 8 14), (0, .nameAndType 15 16), (0, u "UNASSIGNED_STACK"), (0, u "[Ljava/lang/StackTraceElement;"), (0, .fieldref 8 18), (0, .nameAndType 19 16), (0, u "stackTrace"), (0, .fieldref 8 21), (0, .nameAndType 22 23), (0, u "SUPPRESSED_SENTINEL"), (0, u "Ljava/util/List;"), (0, .fieldref 8 25), (0, .nameAndType 26 23), (0, u "suppressedExceptions"), (0, .methodref 8 28), (0, .nameAndType 29 30), (0, u "fillInStackTrace"), (0, u "()Ljava/lang/Throwable;"), (0, .fieldref 8 32), (0, .nameAndType 33 34), (0, u "detailMessage"), (0, u "Ljava/lang/String;"), (3, u "()Ljava/lang/String;"), (2, u "getMessage"), (51, .class_ 94), (0, u "java/lang/Throwable$WrappedPrintStream"), (6, .class_ 103), (1, u "java/lang/Throwable$PrintStreamOrWriter"), (61, u "$assertionsDisabled"), (0, u "Z"), (26, .class_ 194), (0, u "java/lang/Throwable$WrappedPrintWriter"), (3, .fieldref 8 199), (0, .nameAndType 200 201), (0, u "backtrace"), (0, u "Ljava/lang/Object;"), (0, .methodref 8 203), (0, .nameAndType 29 204), (0, u "(I)Ljava/lang/Throwable;"), (6, u "depth"), (0, u "I"), (10, u "(Ljava/lang/String;)V"), (45, .class_ 271), (1, u "java/lang/Throwable$SentinelHolder"), (32, u "EMPTY_THROWABLE_ARRAY"), (0, u "[Ljava/lang/Throwable;"), (12, .class_ 319), (0, u "java/io/Serializable"), (0, u "serialVersionUID"), (0, u "J"), (5, u "NULL_CAUSE_MESSAGE"), (0, u "SELF_SUPPRESSION_MESSAGE"), (0, u "CAUSE_CAPTION"), (0, u "SUPPRESSED_CAPTION")] 73

def k8c0 : Code := { maxStack := 2, maxLocals := 1, code := jdk_78_method_1_code, exceptionTable := #[], attributes := #[] }
def k8m0 : Method := { name := "<init>", desc := "()V", sig := { parameters := [], returnType := none }, accessFlags := 1, code := some k8c0 }
def k8c1 : Code := { maxStack := 2, maxLocals := 2, code := jdk_78_method_2_code, exceptionTable := #[], attributes := #[] }
def k8m1 : Method := { name := "<init>", desc := "(Ljava/lang/String;)V", sig := { parameters := [(.object "java/lang/String")], returnType := none }, accessFlags := 1, code := some k8c1 }
def k8c2 : Code := { maxStack := 1, maxLocals := 1, code := jdk_78_method_6_code, exceptionTable := #[], attributes := #[] }
def k8m2 : Method := { name := "getMessage", desc := "()Ljava/lang/String;", sig := { parameters := [], returnType := some (.object "java/lang/String") }, accessFlags := 1, code := some k8c2 }
def k8c3 : Code := { maxStack := 2, maxLocals := 1, code := ⟨#[0x2a, 0xb4, 0x00, 0x11, 0xc7, 0x00, 0x0a, 0x2a, 0xb4, 0x00, 0xc6, 0xc6, 0x00, 0x10, 0x2a, 0x03, 0xb6, 0x00, 0xca, 0x57, 0x2a, 0xb2, 0x00, 0x0d, 0xb5, 0x00, 0x11, 0x2a, 0xb0]⟩, exceptionTable := #[], attributes := #[] }
def k8m3 : Method := { name := "fillInStackTrace", desc := "()Ljava/lang/Throwable;", sig := { parameters := [], returnType := some (.object "java/lang/Throwable") }, accessFlags := 33, code := some k8c3 }
def k8m4 : Method := { name := "fillInStackTrace", desc := "(I)Ljava/lang/Throwable;", sig := { parameters := [.int], returnType := some (.object "java/lang/Throwable") }, accessFlags := 258, code := none }
/-- java/lang/Throwable -/
def k8 : Class := { plain "java/lang/Throwable" (some 0) with
  accessFlags := 33
  interfaces := #[2]
  cf := some (fileOf pool8 8 #[.nestMembers #[193, 93, 101, 269]] #[{ accessFlags := 1, nameIndex := 5, descriptorIndex := 6, attributes := #[] }, { accessFlags := 1, nameIndex := 5, descriptorIndex := 223, attributes := #[] }, { accessFlags := 1, nameIndex := 41, descriptorIndex := 38, attributes := #[] }, { accessFlags := 33, nameIndex := 29, descriptorIndex := 30, attributes := #[] }, { accessFlags := 258, nameIndex := 29, descriptorIndex := 204, attributes := #[] }] 33 2 #[318] #[{ accessFlags := 26, nameIndex := 320, descriptorIndex := 321, attributes := #[] }, { accessFlags := 130, nameIndex := 200, descriptorIndex := 201, attributes := #[] }, { accessFlags := 2, nameIndex := 33, descriptorIndex := 34, attributes := #[] }, { accessFlags := 26, nameIndex := 15, descriptorIndex := 16, attributes := #[] }, { accessFlags := 2, nameIndex := 11, descriptorIndex := 12, attributes := #[] }, { accessFlags := 2, nameIndex := 19, descriptorIndex := 16, attributes := #[] }, { accessFlags := 130, nameIndex := 211, descriptorIndex := 212, attributes := #[] }, { accessFlags := 26, nameIndex := 22, descriptorIndex := 23, attributes := #[] }, { accessFlags := 2, nameIndex := 26, descriptorIndex := 23, attributes := #[] }, { accessFlags := 26, nameIndex := 327, descriptorIndex := 34, attributes := #[] }, { accessFlags := 26, nameIndex := 328, descriptorIndex := 34, attributes := #[] }, { accessFlags := 26, nameIndex := 329, descriptorIndex := 34, attributes := #[] }, { accessFlags := 26, nameIndex := 330, descriptorIndex := 34, attributes := #[] }, { accessFlags := 26, nameIndex := 304, descriptorIndex := 305, attributes := #[] }, { accessFlags := 4120, nameIndex := 165, descriptorIndex := 166, attributes := #[] }])
  fields := #[{ name := "serialVersionUID", type := .long, accessFlags := 26, slot := 0, constantValue := 0 }, { name := "backtrace", type := (.object "java/lang/Object"), accessFlags := 130, slot := 0, constantValue := 0 }, { name := "detailMessage", type := (.object "java/lang/String"), accessFlags := 2, slot := 1, constantValue := 0 }, { name := "UNASSIGNED_STACK", type := (.array (.object "java/lang/StackTraceElement")), accessFlags := 26, slot := 1, constantValue := 0 }, { name := "cause", type := (.object "java/lang/Throwable"), accessFlags := 2, slot := 2, constantValue := 0 }, { name := "stackTrace", type := (.array (.object "java/lang/StackTraceElement")), accessFlags := 2, slot := 3, constantValue := 0 }, { name := "depth", type := .int, accessFlags := 130, slot := 4, constantValue := 0 }, { name := "SUPPRESSED_SENTINEL", type := (.object "java/util/List"), accessFlags := 26, slot := 2, constantValue := 0 }, { name := "suppressedExceptions", type := (.object "java/util/List"), accessFlags := 2, slot := 5, constantValue := 0 }, { name := "NULL_CAUSE_MESSAGE", type := (.object "java/lang/String"), accessFlags := 26, slot := 3, constantValue := 0 }, { name := "SELF_SUPPRESSION_MESSAGE", type := (.object "java/lang/String"), accessFlags := 26, slot := 4, constantValue := 0 }, { name := "CAUSE_CAPTION", type := (.object "java/lang/String"), accessFlags := 26, slot := 5, constantValue := 0 }, { name := "SUPPRESSED_CAPTION", type := (.object "java/lang/String"), accessFlags := 26, slot := 6, constantValue := 0 }, { name := "EMPTY_THROWABLE_ARRAY", type := (.array (.object "java/lang/Throwable")), accessFlags := 26, slot := 7, constantValue := 0 }, { name := "$assertionsDisabled", type := .boolean, accessFlags := 4120, slot := 8, constantValue := 0 }]
  methods := #[k8m0, k8m1, k8m2, k8m3, k8m4]
  instanceTypes := #[(.object "java/lang/Object"), (.object "java/lang/String"), (.object "java/lang/Throwable"), (.array (.object "java/lang/StackTraceElement")), .int, (.object "java/util/List")]
  staticTypes := #[.long, (.array (.object "java/lang/StackTraceElement")), (.object "java/util/List"), (.object "java/lang/String"), (.object "java/lang/String"), (.object "java/lang/String"), (.object "java/lang/String"), (.array (.object "java/lang/Throwable")), .boolean]
  resolved := Array.replicate 404 none
  statics := some 1 }

def pool9 : Array CpInfo := pool [(2, .class_ 4), (1, u "java/lang/Throwable"), (0, u "<init>"), (0, u "()V"), (0, .methodref 2 8), (0, .nameAndType 5 9), (0, u "(Ljava/lang/String;)V"), (9, .class_ 20), (0, u "java/lang/Exception"), (0, u "serialVersionUID"), (0, u "J")] 17

def k9m0 : Method := { name := "<init>", desc := "()V", sig := { parameters := [], returnType := none }, accessFlags := 1, code := none }
def k9c1 : Code := { maxStack := 2, maxLocals := 2, code := jdk_59_method_2_code, exceptionTable := #[], attributes := #[] }
def k9m1 : Method := { name := "<init>", desc := "(Ljava/lang/String;)V", sig := { parameters := [(.object "java/lang/String")], returnType := none }, accessFlags := 1, code := some k9c1 }
/-- java/lang/Exception -/
def k9 : Class := { plain "java/lang/Exception" (some 8) with
  accessFlags := 33
  interfaces := #[]
  cf := some (fileOf pool9 19 #[] #[{ accessFlags := 1, nameIndex := 5, descriptorIndex := 6, attributes := #[] }, { accessFlags := 1, nameIndex := 5, descriptorIndex := 9, attributes := #[] }] 33 2 #[] #[{ accessFlags := 24, nameIndex := 21, descriptorIndex := 22, attributes := #[] }])
  fields := #[{ name := "serialVersionUID", type := .long, accessFlags := 24, slot := 0, constantValue := 0 }]
  methods := #[k9m0, k9m1]
  instanceTypes := #[(.object "java/lang/Object"), (.object "java/lang/String"), (.object "java/lang/Throwable"), (.array (.object "java/lang/StackTraceElement")), .int, (.object "java/util/List")]
  staticTypes := #[.long]
  resolved := Array.replicate 40 none
  statics := none }

def pool10 : Array CpInfo := pool [(2, .class_ 4), (1, u "java/lang/Exception"), (0, u "<init>"), (0, u "()V"), (0, .methodref 2 8), (0, .nameAndType 5 9), (0, u "(Ljava/lang/String;)V"), (9, .class_ 20), (0, u "java/lang/RuntimeException"), (0, u "serialVersionUID"), (0, u "J")] 17

def k10m0 : Method := { name := "<init>", desc := "()V", sig := { parameters := [], returnType := none }, accessFlags := 1, code := none }
def k10c1 : Code := { maxStack := 2, maxLocals := 2, code := jdk_58_method_2_code, exceptionTable := #[], attributes := #[] }
def k10m1 : Method := { name := "<init>", desc := "(Ljava/lang/String;)V", sig := { parameters := [(.object "java/lang/String")], returnType := none }, accessFlags := 1, code := some k10c1 }
/-- java/lang/RuntimeException -/
def k10 : Class := { plain "java/lang/RuntimeException" (some 9) with
  accessFlags := 33
  interfaces := #[]
  cf := some (fileOf pool10 19 #[] #[{ accessFlags := 1, nameIndex := 5, descriptorIndex := 6, attributes := #[] }, { accessFlags := 1, nameIndex := 5, descriptorIndex := 9, attributes := #[] }] 33 2 #[] #[{ accessFlags := 24, nameIndex := 21, descriptorIndex := 22, attributes := #[] }])
  fields := #[{ name := "serialVersionUID", type := .long, accessFlags := 24, slot := 0, constantValue := 0 }]
  methods := #[k10m0, k10m1]
  instanceTypes := #[(.object "java/lang/Object"), (.object "java/lang/String"), (.object "java/lang/Throwable"), (.array (.object "java/lang/StackTraceElement")), .int, (.object "java/util/List")]
  staticTypes := #[.long]
  resolved := Array.replicate 40 none
  statics := none }

def pool11 : Array CpInfo := pool [(1, .methodref 2 3), (0, .class_ 4), (0, .nameAndType 5 6), (0, u "java/lang/RuntimeException"), (0, u "<init>"), (0, u "(Ljava/lang/String;)V"), (0, .class_ 8), (0, u "com/example/fianza/fianza/InputException"), (0, .class_ 10), (0, u "java/lang/StringBuilder"), (0, .methodref 9 12), (0, .nameAndType 5 13), (0, u "()V"), (0, .methodref 9 15), (0, .nameAndType 16 17), (0, u "append"), (0, u "(Ljava/lang/String;)Ljava/lang/StringBuilder;"), (0, .string 19), (0, u ": "), (0, .methodref 9 21), (0, .nameAndType 22 23), (0, u "toString"), (0, u "()Ljava/lang/String;"), (0, .methodref 7 3), (5, u "serialVersionUID"), (0, u "J"), (5, u "in"), (0, u "(Ljava/lang/String;Ljava/lang/String;)Lcom/example/fianza/fianza/InputException;")] 4

def k11c0 : Code := { maxStack := 2, maxLocals := 2, code := prog_25_method_1_code, exceptionTable := #[], attributes := #[] }
def k11m0 : Method := { name := "<init>", desc := "(Ljava/lang/String;)V", sig := { parameters := [(.object "java/lang/String")], returnType := none }, accessFlags := 0, code := some k11c0 }
def k11c1 : Code := { maxStack := 4, maxLocals := 2, code := prog_25_method_2_code, exceptionTable := #[], attributes := #[] }
def k11m1 : Method := { name := "in", desc := "(Ljava/lang/String;Ljava/lang/String;)Lcom/example/fianza/fianza/InputException;", sig := { parameters := [(.object "java/lang/String"), (.object "java/lang/String")], returnType := some (.object "com/example/fianza/fianza/InputException") }, accessFlags := 8, code := some k11c1 }
/-- com/example/fianza/fianza/InputException -/
def k11 : Class := { plain "com/example/fianza/fianza/InputException" (some 10) with
  accessFlags := 48
  interfaces := #[]
  cf := some (fileOf pool11 7 #[] #[{ accessFlags := 0, nameIndex := 5, descriptorIndex := 6, attributes := #[] }, { accessFlags := 8, nameIndex := 37, descriptorIndex := 38, attributes := #[] }] 48 2 #[] #[{ accessFlags := 26, nameIndex := 30, descriptorIndex := 31, attributes := #[] }])
  fields := #[{ name := "serialVersionUID", type := .long, accessFlags := 26, slot := 0, constantValue := 0 }]
  methods := #[k11m0, k11m1]
  instanceTypes := #[(.object "java/lang/Object"), (.object "java/lang/String"), (.object "java/lang/Throwable"), (.array (.object "java/lang/StackTraceElement")), .int, (.object "java/util/List")]
  staticTypes := #[.long]
  resolved := Array.replicate 43 none
  statics := none }

def pool12 : Array CpInfo := pool [(1, .class_ 2), (0, u "java/lang/Appendable"), (0, .class_ 4), (0, u "java/lang/Object")] 9

/-- java/lang/Appendable -/
def k12 : Class := { plain "java/lang/Appendable" (some 0) with
  accessFlags := 1537
  interfaces := #[]
  cf := some (fileOf pool12 1 #[] #[] 1537 3 #[] #[])
  fields := #[]
  methods := #[]
  instanceTypes := #[]
  staticTypes := #[]
  resolved := Array.replicate 14 none
  statics := none }

def pool13 : Array CpInfo := pool [(1, .class_ 2), (0, u "java/lang/String"), (0, .methodref 4 5), (0, .class_ 6), (0, .nameAndType 7 8), (0, u "java/lang/Object"), (0, u "<init>"), (0, u "()V"), (1, .class_ 12), (1, u "java/lang/AbstractStringBuilder"), (0, u "EMPTYVALUE"), (0, u "[B"), (0, .fieldref 10 16), (0, .nameAndType 17 14), (0, u "value"), (0, .fieldref 1 19), (0, .nameAndType 20 21), (0, u "COMPACT_STRINGS"), (0, u "Z"), (0, .fieldref 10 23), (0, .nameAndType 24 25), (0, u "coder"), (0, u "B"), (6, .methodref 1 33), (0, .nameAndType 34 35), (0, u "length"), (0, u "()I"), (4, .methodref 1 41), (0, .nameAndType 24 42), (0, u "()B"), (2, u "append"), (0, u "(Ljava/lang/String;)Ljava/lang/AbstractStringBuilder;"), (1, .class_ 49), (0, u "java/lang/CharSequence"), (19, u "(Ljava/lang/String;)V"), (5, u "maybeLatin1"), (3, .fieldref 10 80), (0, .nameAndType 81 82), (0, u "count"), (0, u "I"), (2, u "isLatin1"), (0, u "()Z"), (13, .methodref 10 101), (0, .nameAndType 102 103), (0, u "ensureCapacityInternal"), (0, u "(I)V"), (104, .methodref 10 209), (0, .nameAndType 210 211), (0, u "putStringAt"), (0, u "(ILjava/lang/String;)V"), (5, u "inflateIfNeededFor"), (2, .nameAndType 221 222), (0, u "getBytes"), (0, u "([BIB)V"), (174, .methodref 10 398), (0, .nameAndType 217 69), (0, .methodref 1 220), (3, u "()[B"), (40, .class_ 445), (0, u "java/lang/Appendable"), (106, u "getValue")] 56

def k13m0 : Method := { name := "<init>", desc := "()V", sig := { parameters := [], returnType := none }, accessFlags := 0, code := none }
def k13c1 : Code := { maxStack := 2, maxLocals := 2, code := jdk_68_method_2_code, exceptionTable := #[], attributes := #[] }
def k13m1 : Method := { name := "<init>", desc := "(I)V", sig := { parameters := [.int], returnType := none }, accessFlags := 0, code := some k13c1 }
def k13c2 : Code := { maxStack := 1, maxLocals := 1, code := jdk_68_method_6_code, exceptionTable := #[], attributes := #[] }
def k13m2 : Method := { name := "length", desc := "()I", sig := { parameters := [], returnType := some .int }, accessFlags := 1, code := some k13c2 }
def k13c3 : Code := { maxStack := 4, maxLocals := 3, code := jdk_68_method_9_code, exceptionTable := #[], attributes := #[] }
def k13m3 : Method := { name := "ensureCapacityInternal", desc := "(I)V", sig := { parameters := [.int], returnType := none }, accessFlags := 2, code := some k13c3 }
def k13c4 : Code := { maxStack := 3, maxLocals := 3, code := jdk_68_method_22_code, exceptionTable := #[], attributes := #[] }
def k13m4 : Method := { name := "append", desc := "(Ljava/lang/String;)Ljava/lang/AbstractStringBuilder;", sig := { parameters := [(.object "java/lang/String")], returnType := some (.object "java/lang/AbstractStringBuilder") }, accessFlags := 1, code := some k13c4 }
def k13c5 : Code := { maxStack := 1, maxLocals := 1, code := jdk_68_method_64_code, exceptionTable := #[], attributes := #[] }
def k13m5 : Method := { name := "getValue", desc := "()[B", sig := { parameters := [], returnType := some (.array .byte) }, accessFlags := 16, code := some k13c5 }
def k13c6 : Code := { maxStack := 1, maxLocals := 1, code := jdk_68_method_68_code, exceptionTable := #[], attributes := #[] }
def k13m6 : Method := { name := "isLatin1", desc := "()Z", sig := { parameters := [], returnType := some .boolean }, accessFlags := 16, code := some k13c6 }
def k13c7 : Code := { maxStack := 2, maxLocals := 2, code := jdk_68_method_71_code, exceptionTable := #[], attributes := #[] }
def k13m7 : Method := { name := "inflateIfNeededFor", desc := "(Ljava/lang/String;)V", sig := { parameters := [(.object "java/lang/String")], returnType := none }, accessFlags := 2, code := some k13c7 }
def k13c8 : Code := { maxStack := 4, maxLocals := 3, code := jdk_68_method_73_code, exceptionTable := #[], attributes := #[] }
def k13m8 : Method := { name := "putStringAt", desc := "(ILjava/lang/String;)V", sig := { parameters := [.int, (.object "java/lang/String")], returnType := none }, accessFlags := 2, code := some k13c8 }
/-- java/lang/AbstractStringBuilder -/
def k13 : Class := { plain "java/lang/AbstractStringBuilder" (some 0) with
  accessFlags := 1056
  interfaces := #[12, 4]
  cf := some (fileOf pool13 10 #[] #[{ accessFlags := 0, nameIndex := 7, descriptorIndex := 8, attributes := #[] }, { accessFlags := 0, nameIndex := 7, descriptorIndex := 103, attributes := #[] }, { accessFlags := 1, nameIndex := 34, descriptorIndex := 35, attributes := #[] }, { accessFlags := 2, nameIndex := 102, descriptorIndex := 103, attributes := #[] }, { accessFlags := 1, nameIndex := 45, descriptorIndex := 46, attributes := #[] }, { accessFlags := 16, nameIndex := 552, descriptorIndex := 403, attributes := #[] }, { accessFlags := 16, nameIndex := 85, descriptorIndex := 86, attributes := #[] }, { accessFlags := 2, nameIndex := 217, descriptorIndex := 69, attributes := #[] }, { accessFlags := 2, nameIndex := 210, descriptorIndex := 211, attributes := #[] }] 1056 4 #[444, 48] #[{ accessFlags := 0, nameIndex := 17, descriptorIndex := 14, attributes := #[] }, { accessFlags := 0, nameIndex := 24, descriptorIndex := 25, attributes := #[] }, { accessFlags := 0, nameIndex := 75, descriptorIndex := 21, attributes := #[] }, { accessFlags := 0, nameIndex := 81, descriptorIndex := 82, attributes := #[] }, { accessFlags := 26, nameIndex := 13, descriptorIndex := 14, attributes := #[] }])
  fields := #[{ name := "value", type := (.array .byte), accessFlags := 0, slot := 0, constantValue := 0 }, { name := "coder", type := .byte, accessFlags := 0, slot := 1, constantValue := 0 }, { name := "maybeLatin1", type := .boolean, accessFlags := 0, slot := 2, constantValue := 0 }, { name := "count", type := .int, accessFlags := 0, slot := 3, constantValue := 0 }, { name := "EMPTYVALUE", type := (.array .byte), accessFlags := 26, slot := 0, constantValue := 0 }]
  methods := #[k13m0, k13m1, k13m2, k13m3, k13m4, k13m5, k13m6, k13m7, k13m8]
  instanceTypes := #[(.array .byte), .byte, .boolean, .int]
  staticTypes := #[(.array .byte)]
  resolved := Array.replicate 609 none
  statics := none }

def pool14 : Array CpInfo := pool [(1, .methodref 2 3), (0, .class_ 4), (0, .nameAndType 5 6), (0, u "java/lang/AbstractStringBuilder"), (0, u "<init>"), (0, u "(I)V"), (11, .class_ 20), (1, u "java/lang/String"), (3, .class_ 26), (1, u "java/lang/StringBuilder"), (0, u "append"), (0, u "(Ljava/lang/String;)Ljava/lang/StringBuilder;"), (0, .methodref 2 30), (0, .nameAndType 27 31), (0, u "(Ljava/lang/String;)Ljava/lang/AbstractStringBuilder;"), (105, .methodref 18 138), (0, .nameAndType 5 139), (0, u "(Ljava/lang/StringBuilder;)V"), (5, u "()V"), (10, u "()I"), (186, .methodref 2 344), (0, .nameAndType 345 156), (0, u "length"), (3, .class_ 350), (0, u "java/lang/Appendable"), (0, .class_ 352), (0, u "java/io/Serializable"), (0, .class_ 354), (0, u "java/lang/Comparable"), (0, .class_ 356), (0, u "java/lang/CharSequence"), (0, u "serialVersionUID"), (0, u "J"), (40, u "toString"), (0, u "()Ljava/lang/String;")] 21

def k14c0 : Code := { maxStack := 2, maxLocals := 1, code := jdk_67_method_1_code, exceptionTable := #[], attributes := #[] }
def k14m0 : Method := { name := "<init>", desc := "()V", sig := { parameters := [], returnType := none }, accessFlags := 1, code := some k14c0 }
def k14c1 : Code := { maxStack := 2, maxLocals := 2, code := jdk_67_method_7_code, exceptionTable := #[], attributes := #[] }
def k14m1 : Method := { name := "append", desc := "(Ljava/lang/String;)Ljava/lang/StringBuilder;", sig := { parameters := [(.object "java/lang/String")], returnType := some (.object "java/lang/StringBuilder") }, accessFlags := 1, code := some k14c1 }
def k14c2 : Code := { maxStack := 3, maxLocals := 1, code := jdk_67_method_42_code, exceptionTable := #[], attributes := #[] }
def k14m2 : Method := { name := "toString", desc := "()Ljava/lang/String;", sig := { parameters := [], returnType := some (.object "java/lang/String") }, accessFlags := 1, code := some k14c2 }
def k14c3 : Code := { maxStack := 1, maxLocals := 1, code := jdk_67_method_93_code, exceptionTable := #[], attributes := #[] }
def k14m3 : Method := { name := "length", desc := "()I", sig := { parameters := [], returnType := some .int }, accessFlags := 4161, code := some k14c3 }
/-- java/lang/StringBuilder -/
def k14 : Class := { plain "java/lang/StringBuilder" (some 13) with
  accessFlags := 49
  interfaces := #[12, 2, 3, 4]
  cf := some (fileOf pool14 24 #[] #[{ accessFlags := 1, nameIndex := 5, descriptorIndex := 145, attributes := #[] }, { accessFlags := 1, nameIndex := 27, descriptorIndex := 28, attributes := #[] }, { accessFlags := 1, nameIndex := 399, descriptorIndex := 400, attributes := #[] }, { accessFlags := 4161, nameIndex := 345, descriptorIndex := 156, attributes := #[] }] 49 2 #[349, 351, 353, 355] #[{ accessFlags := 24, nameIndex := 357, descriptorIndex := 358, attributes := #[] }])
  fields := #[{ name := "serialVersionUID", type := .long, accessFlags := 24, slot := 0, constantValue := 0 }]
  methods := #[k14m0, k14m1, k14m2, k14m3]
  instanceTypes := #[(.array .byte), .byte, .boolean, .int]
  staticTypes := #[.long]
  resolved := Array.replicate 422 none
  statics := none }

def pool15 : Array CpInfo := pool [(2, .class_ 4), (1, u "java/lang/Object"), (0, u "<init>"), (0, u "()V"), (1, .class_ 10), (1, u "java/lang/System"), (0, u "allowSecurityManager"), (0, u "I"), (16, u "cons"), (0, u "Ljava/io/Console;"), (77, .class_ 110), (1, u "java/lang/System$CallersHolder"), (43, u "initialErrStream"), (0, u "Ljava/io/PrintStream;"), (19, u "security"), (0, u "Ljava/lang/SecurityManager;"), (31, .class_ 209), (0, u "java/lang/System$1"), (7, u "props"), (0, u "Ljava/util/Properties;"), (2, u "lineSeparator"), (0, u "Ljava/lang/String;"), (96, .class_ 321), (1, u "java/lang/System$LoggerFinder"), (5, .class_ 328), (0, u "java/lang/System$Logger"), (67, u "err"), (2, u "out"), (91, u "notSupportedJnuEncoding"), (15, u "in"), (17, u "initialIn"), (0, u "Ljava/io/InputStream;"), (35, u "bootLayer"), (0, u "Ljava/lang/ModuleLayer;"), (99, .class_ 664), (0, u "java/lang/System$2"), (9, u "NEVER"), (2, u "MAYBE"), (49, u "arraycopy"), (0, u "(Ljava/lang/Object;ILjava/lang/Object;II)V"), (72, .class_ 802), (0, u "java/lang/System$Logger$Level")] 31

def k15m0 : Method := { name := "<init>", desc := "()V", sig := { parameters := [], returnType := none }, accessFlags := 2, code := none }
def k15m1 : Method := { name := "arraycopy", desc := "(Ljava/lang/Object;ILjava/lang/Object;II)V", sig := { parameters := [(.object "java/lang/Object"), .int, (.object "java/lang/Object"), .int, .int], returnType := none }, accessFlags := 265, code := none }
/-- java/lang/System -/
def k15 : Class := { plain "java/lang/System" (some 0) with
  accessFlags := 49
  interfaces := #[]
  cf := some (fileOf pool15 8 #[.nestMembers #[319, 327, 801, 108, 663, 208]] #[{ accessFlags := 2, nameIndex := 5, descriptorIndex := 6, attributes := #[] }, { accessFlags := 265, nameIndex := 727, descriptorIndex := 728, attributes := #[] }] 49 2 #[] #[{ accessFlags := 25, nameIndex := 507, descriptorIndex := 526, attributes := #[] }, { accessFlags := 25, nameIndex := 399, descriptorIndex := 155, attributes := #[] }, { accessFlags := 25, nameIndex := 396, descriptorIndex := 155, attributes := #[] }, { accessFlags := 10, nameIndex := 525, descriptorIndex := 526, attributes := #[] }, { accessFlags := 26, nameIndex := 674, descriptorIndex := 12, attributes := #[] }, { accessFlags := 26, nameIndex := 677, descriptorIndex := 12, attributes := #[] }, { accessFlags := 10, nameIndex := 11, descriptorIndex := 12, attributes := #[] }, { accessFlags := 74, nameIndex := 175, descriptorIndex := 176, attributes := #[] }, { accessFlags := 10, nameIndex := 491, descriptorIndex := 222, attributes := #[] }, { accessFlags := 74, nameIndex := 29, descriptorIndex := 30, attributes := #[] }, { accessFlags := 74, nameIndex := 154, descriptorIndex := 155, attributes := #[] }, { accessFlags := 10, nameIndex := 217, descriptorIndex := 218, attributes := #[] }, { accessFlags := 10, nameIndex := 221, descriptorIndex := 222, attributes := #[] }, { accessFlags := 8, nameIndex := 562, descriptorIndex := 563, attributes := #[] }])
  fields := #[{ name := "in", type := (.object "java/io/InputStream"), accessFlags := 25, slot := 0, constantValue := 0 }, { name := "out", type := (.object "java/io/PrintStream"), accessFlags := 25, slot := 1, constantValue := 0 }, { name := "err", type := (.object "java/io/PrintStream"), accessFlags := 25, slot := 2, constantValue := 0 }, { name := "initialIn", type := (.object "java/io/InputStream"), accessFlags := 10, slot := 3, constantValue := 0 }, { name := "NEVER", type := .int, accessFlags := 26, slot := 4, constantValue := 0 }, { name := "MAYBE", type := .int, accessFlags := 26, slot := 5, constantValue := 0 }, { name := "allowSecurityManager", type := .int, accessFlags := 10, slot := 6, constantValue := 0 }, { name := "security", type := (.object "java/lang/SecurityManager"), accessFlags := 74, slot := 7, constantValue := 0 }, { name := "notSupportedJnuEncoding", type := (.object "java/lang/String"), accessFlags := 10, slot := 8, constantValue := 0 }, { name := "cons", type := (.object "java/io/Console"), accessFlags := 74, slot := 9, constantValue := 0 }, { name := "initialErrStream", type := (.object "java/io/PrintStream"), accessFlags := 74, slot := 10, constantValue := 0 }, { name := "props", type := (.object "java/util/Properties"), accessFlags := 10, slot := 11, constantValue := 0 }, { name := "lineSeparator", type := (.object "java/lang/String"), accessFlags := 10, slot := 12, constantValue := 0 }, { name := "bootLayer", type := (.object "java/lang/ModuleLayer"), accessFlags := 8, slot := 13, constantValue := 0 }]
  methods := #[k15m0, k15m1]
  instanceTypes := #[]
  staticTypes := #[(.object "java/io/InputStream"), (.object "java/io/PrintStream"), (.object "java/io/PrintStream"), (.object "java/io/InputStream"), .int, .int, .int, (.object "java/lang/SecurityManager"), (.object "java/lang/String"), (.object "java/io/Console"), (.object "java/io/PrintStream"), (.object "java/util/Properties"), (.object "java/lang/String"), (.object "java/lang/ModuleLayer")]
  resolved := Array.replicate 834 none
  statics := none }

def pool16 : Array CpInfo := pool [(2, .class_ 4), (1, u "java/lang/Object"), (0, u "<init>"), (0, u "()V"), (7, .class_ 16), (1, u "java/util/Arrays"), (57, .class_ 76), (1, u "java/util/Arrays$NaturalOrder"), (36, .class_ 115), (1, u "java/util/Arrays$LegacyMergeSort"), (1, u "Z"), (21, u "copyOfRange"), (10, .methodref 151 152), (0, .class_ 153), (0, .nameAndType 154 155), (0, u "java/lang/System"), (0, u "arraycopy"), (0, u "(Ljava/lang/Object;ILjava/lang/Object;II)V"), (148, .methodref 305 306), (0, .class_ 307), (0, .nameAndType 308 309), (0, u "java/lang/Math"), (0, u "min"), (0, u "(II)I"), (29, .methodref 14 340), (0, .nameAndType 341 342), (0, u "copyOfRangeByte"), (0, u "([BII)[B"), (0, .methodref 14 344), (0, .nameAndType 345 346), (0, u "checkLength"), (0, u "(II)V"), (28, .class_ 376), (0, u "java/util/Arrays$ArrayList"), (68, u "$assertionsDisabled"), (269, u "MIN_ARRAY_SORT_GRAN"), (0, u "I"), (2, u "INSERTIONSORT_THRESHOLD"), (255, .class_ 976), (0, u "java/util/Arrays$ArrayItr")] 52

def k16m0 : Method := { name := "<init>", desc := "()V", sig := { parameters := [], returnType := none }, accessFlags := 2, code := none }
def k16c1 : Code := { maxStack := 4, maxLocals := 2, code := jdk_65_method_131_code, exceptionTable := #[], attributes := #[] }
def k16m1 : Method := { name := "checkLength", desc := "(II)V", sig := { parameters := [.int, .int], returnType := none }, accessFlags := 10, code := some k16c1 }
def k16c2 : Code := { maxStack := 3, maxLocals := 3, code := jdk_65_method_132_code, exceptionTable := #[], attributes := #[] }
def k16m2 : Method := { name := "copyOfRange", desc := "([BII)[B", sig := { parameters := [(.array .byte), .int, .int], returnType := some (.array .byte) }, accessFlags := 9, code := some k16c2 }
def k16c3 : Code := { maxStack := 6, maxLocals := 5, code := jdk_65_method_133_code, exceptionTable := #[], attributes := #[] }
def k16m3 : Method := { name := "copyOfRangeByte", desc := "([BII)[B", sig := { parameters := [(.array .byte), .int, .int], returnType := some (.array .byte) }, accessFlags := 10, code := some k16c3 }
/-- java/util/Arrays -/
def k16 : Class := { plain "java/util/Arrays" (some 0) with
  accessFlags := 49
  interfaces := #[]
  cf := some (fileOf pool16 14 #[.nestMembers #[975, 375, 113, 74]] #[{ accessFlags := 2, nameIndex := 5, descriptorIndex := 6, attributes := #[] }, { accessFlags := 10, nameIndex := 345, descriptorIndex := 346, attributes := #[] }, { accessFlags := 9, nameIndex := 139, descriptorIndex := 342, attributes := #[] }, { accessFlags := 10, nameIndex := 341, descriptorIndex := 342, attributes := #[] }] 49 2 #[] #[{ accessFlags := 26, nameIndex := 715, descriptorIndex := 716, attributes := #[] }, { accessFlags := 26, nameIndex := 719, descriptorIndex := 716, attributes := #[] }, { accessFlags := 4120, nameIndex := 445, descriptorIndex := 117, attributes := #[] }])
  fields := #[{ name := "MIN_ARRAY_SORT_GRAN", type := .int, accessFlags := 26, slot := 0, constantValue := 0 }, { name := "INSERTIONSORT_THRESHOLD", type := .int, accessFlags := 26, slot := 1, constantValue := 0 }, { name := "$assertionsDisabled", type := .boolean, accessFlags := 4120, slot := 2, constantValue := 0 }]
  methods := #[k16m0, k16m1, k16m2, k16m3]
  instanceTypes := #[]
  staticTypes := #[.int, .int, .boolean]
  resolved := Array.replicate 1029 none
  statics := none }

def pool17 : Array CpInfo := pool [(1, .class_ 2), (0, u "java/lang/Math"), (1, .class_ 6), (1, u "java/lang/Object"), (0, u "<init>"), (0, u "()V"), (89, .class_ 100), (1, u "java/lang/Math$RandomNumberGeneratorHolder"), (71, u "negativeZeroFloatBits"), (0, u "J"), (2, u "negativeZeroDoubleBits"), (24, u "min"), (43, u "$assertionsDisabled"), (0, u "Z"), (88, u "(II)I"), (2, u "twoToTheDoubleScaleDown"), (0, u "D"), (4, u "twoToTheDoubleScaleUp"), (9, u "E"), (3, u "PI"), (2, u "TAU"), (2, u "DEGREES_TO_RADIANS"), (0, u "RADIANS_TO_DEGREES")] 94

def k17m0 : Method := { name := "<init>", desc := "()V", sig := { parameters := [], returnType := none }, accessFlags := 2, code := none }
def k17c1 : Code := { maxStack := 2, maxLocals := 2, code := jdk_29_method_69_code, exceptionTable := #[], attributes := #[] }
def k17m1 : Method := { name := "min", desc := "(II)I", sig := { parameters := [.int, .int], returnType := some .int }, accessFlags := 9, code := some k17c1 }
/-- java/lang/Math -/
def k17 : Class := { plain "java/lang/Math" (some 0) with
  accessFlags := 49
  interfaces := #[]
  cf := some (fileOf pool17 1 #[.nestMembers #[98]] #[{ accessFlags := 2, nameIndex := 7, descriptorIndex := 8, attributes := #[] }, { accessFlags := 9, nameIndex := 201, descriptorIndex := 335, attributes := #[] }] 49 4 #[] #[{ accessFlags := 25, nameIndex := 354, descriptorIndex := 339, attributes := #[] }, { accessFlags := 25, nameIndex := 358, descriptorIndex := 339, attributes := #[] }, { accessFlags := 25, nameIndex := 361, descriptorIndex := 339, attributes := #[] }, { accessFlags := 26, nameIndex := 364, descriptorIndex := 339, attributes := #[] }, { accessFlags := 26, nameIndex := 365, descriptorIndex := 339, attributes := #[] }, { accessFlags := 26, nameIndex := 172, descriptorIndex := 173, attributes := #[] }, { accessFlags := 26, nameIndex := 176, descriptorIndex := 173, attributes := #[] }, { accessFlags := 8, nameIndex := 344, descriptorIndex := 339, attributes := #[] }, { accessFlags := 8, nameIndex := 338, descriptorIndex := 339, attributes := #[] }, { accessFlags := 4120, nameIndex := 245, descriptorIndex := 246, attributes := #[] }])
  fields := #[{ name := "E", type := .double, accessFlags := 25, slot := 0, constantValue := 0 }, { name := "PI", type := .double, accessFlags := 25, slot := 1, constantValue := 0 }, { name := "TAU", type := .double, accessFlags := 25, slot := 2, constantValue := 0 }, { name := "DEGREES_TO_RADIANS", type := .double, accessFlags := 26, slot := 3, constantValue := 0 }, { name := "RADIANS_TO_DEGREES", type := .double, accessFlags := 26, slot := 4, constantValue := 0 }, { name := "negativeZeroFloatBits", type := .long, accessFlags := 26, slot := 5, constantValue := 0 }, { name := "negativeZeroDoubleBits", type := .long, accessFlags := 26, slot := 6, constantValue := 0 }, { name := "twoToTheDoubleScaleUp", type := .double, accessFlags := 8, slot := 7, constantValue := 0 }, { name := "twoToTheDoubleScaleDown", type := .double, accessFlags := 8, slot := 8, constantValue := 0 }, { name := "$assertionsDisabled", type := .boolean, accessFlags := 4120, slot := 9, constantValue := 0 }]
  methods := #[k17m0, k17m1]
  instanceTypes := #[]
  staticTypes := #[.double, .double, .double, .double, .double, .long, .long, .double, .double, .boolean]
  resolved := Array.replicate 460 none
  statics := none }

def pool18 : Array CpInfo := pool [(1, .class_ 2), (0, u "java/lang/String"), (1, .class_ 6), (1, u "java/lang/Object"), (0, u "<init>"), (0, u "()V"), (0, .methodref 1 10), (0, .nameAndType 11 12), (0, u "checkIndex"), (0, u "(II)V"), (1, .class_ 16), (1, u "java/lang/StringLatin1"), (36, u "([BI)C"), (67, u "$assertionsDisabled"), (0, u "Z"), (98, .class_ 223), (1, u "java/lang/StringLatin1$LinesSpliterator"), (28, u "charAt"), (137, .class_ 391), (0, u "java/lang/StringLatin1$CharsSpliterator")] 3

def k18m0 : Method := { name := "<init>", desc := "()V", sig := { parameters := [], returnType := none }, accessFlags := 0, code := none }
def k18c1 : Code := { maxStack := 2, maxLocals := 2, code := jdk_43_method_2_code, exceptionTable := #[], attributes := #[] }
def k18m1 : Method := { name := "charAt", desc := "([BI)C", sig := { parameters := [(.array .byte), .int], returnType := some .char }, accessFlags := 9, code := some k18c1 }
/-- java/lang/StringLatin1 -/
def k18 : Class := { plain "java/lang/StringLatin1" (some 0) with
  accessFlags := 48
  interfaces := #[]
  cf := some (fileOf pool18 14 #[.nestMembers #[390, 221]] #[{ accessFlags := 0, nameIndex := 7, descriptorIndex := 8, attributes := #[] }, { accessFlags := 9, nameIndex := 252, descriptorIndex := 53, attributes := #[] }] 48 4 #[] #[{ accessFlags := 4120, nameIndex := 121, descriptorIndex := 122, attributes := #[] }])
  fields := #[{ name := "$assertionsDisabled", type := .boolean, accessFlags := 4120, slot := 0, constantValue := 0 }]
  methods := #[k18m0, k18m1]
  instanceTypes := #[]
  staticTypes := #[.boolean]
  resolved := Array.replicate 395 none
  statics := none }

def pool19 : Array CpInfo := pool [(2, .class_ 4), (1, u "java/lang/Object"), (0, u "<init>"), (0, u "()V"), (17, .class_ 26), (1, u "jdk/internal/util/Preconditions"), (6, u "checkIndex"), (21, .class_ 56), (0, u "jdk/internal/util/Preconditions$4"), (57, .class_ 115), (0, u "jdk/internal/util/Preconditions$1"), (7, u "SIOOBE_FORMATTER"), (0, u "Ljava/util/function/BiFunction;"), (0, .class_ 126), (0, u "jdk/internal/util/Preconditions$2"), (3, u "AIOOBE_FORMATTER"), (0, .class_ 132), (0, u "jdk/internal/util/Preconditions$3"), (3, u "IOOBE_FORMATTER"), (41, u "(IILjava/util/function/BiFunction;)I")] 15

def k19m0 : Method := { name := "<init>", desc := "()V", sig := { parameters := [], returnType := none }, accessFlags := 1, code := none }
def k19c1 : Code := { maxStack := 3, maxLocals := 3, code := jdk_41_method_11_code, exceptionTable := #[], attributes := #[] }
def k19m1 : Method := { name := "checkIndex", desc := "(IILjava/util/function/BiFunction;)I", sig := { parameters := [.int, .int, (.object "java/util/function/BiFunction")], returnType := some .int }, accessFlags := 9, code := some k19c1 }
/-- jdk/internal/util/Preconditions -/
def k19 : Class := { plain "jdk/internal/util/Preconditions" (some 0) with
  accessFlags := 33
  interfaces := #[]
  cf := some (fileOf pool19 24 #[.nestMembers #[55, 131, 125, 114]] #[{ accessFlags := 1, nameIndex := 5, descriptorIndex := 6, attributes := #[] }, { accessFlags := 9, nameIndex := 33, descriptorIndex := 178, attributes := #[] }] 33 2 #[] #[{ accessFlags := 25, nameIndex := 123, descriptorIndex := 124, attributes := #[] }, { accessFlags := 25, nameIndex := 130, descriptorIndex := 124, attributes := #[] }, { accessFlags := 25, nameIndex := 136, descriptorIndex := 124, attributes := #[] }])
  fields := #[{ name := "SIOOBE_FORMATTER", type := (.object "java/util/function/BiFunction"), accessFlags := 25, slot := 0, constantValue := 0 }, { name := "AIOOBE_FORMATTER", type := (.object "java/util/function/BiFunction"), accessFlags := 25, slot := 1, constantValue := 0 }, { name := "IOOBE_FORMATTER", type := (.object "java/util/function/BiFunction"), accessFlags := 25, slot := 2, constantValue := 0 }]
  methods := #[k19m0, k19m1]
  instanceTypes := #[]
  staticTypes := #[(.object "java/util/function/BiFunction"), (.object "java/util/function/BiFunction"), (.object "java/util/function/BiFunction")]
  resolved := Array.replicate 194 none
  statics := some 2 }

def pool20 : Array CpInfo := pool [(6, .class_ 8), (1, u "java/lang/Object"), (0, u "<init>"), (0, u "()V"), (1, .class_ 14), (1, u "java/lang/StringUTF16"), (31, u "$assertionsDisabled"), (0, u "Z"), (13, u "HI_BYTE_SHIFT"), (0, u "I"), (2, u "LO_BYTE_SHIFT"), (49, .methodref 12 116), (0, .nameAndType 117 118), (0, u "compress"), (0, u "([CI[BII)I"), (3, u "([CII)[B"), (138, u "coderFromArrayLen"), (0, u "([BI)B"), (106, .class_ 371), (1, u "java/lang/StringUTF16$LinesSpliterator"), (58, u "MAX_LENGTH"), (196, .class_ 628), (0, u "java/lang/StringUTF16$CodePointsSpliterator"), (0, .class_ 630), (0, u "java/lang/StringUTF16$CharsSpliterator")] 4

def k20m0 : Method := { name := "<init>", desc := "()V", sig := { parameters := [], returnType := none }, accessFlags := 0, code := none }
def k20c1 : Code := { maxStack := 2, maxLocals := 2, code := jdk_52_method_15_code, exceptionTable := #[], attributes := #[] }
def k20m1 : Method := { name := "coderFromArrayLen", desc := "([BI)B", sig := { parameters := [(.array .byte), .int], returnType := some .byte }, accessFlags := 8, code := some k20c1 }
def k20c2 : Code := { maxStack := 5, maxLocals := 6, code := jdk_52_method_16_code, exceptionTable := #[], attributes := #[] }
def k20m2 : Method := { name := "compress", desc := "([CII)[B", sig := { parameters := [(.array .char), .int, .int], returnType := some (.array .byte) }, accessFlags := 9, code := some k20c2 }
def k20c3 : Code := { maxStack := 3, maxLocals := 7, code := jdk_52_method_21_code, exceptionTable := #[], attributes := #[] }
def k20m3 : Method := { name := "compress", desc := "([CI[BII)I", sig := { parameters := [(.array .char), .int, (.array .byte), .int, .int], returnType := some .int }, accessFlags := 9, code := some k20c3 }
/-- java/lang/StringUTF16 -/
def k20 : Class := { plain "java/lang/StringUTF16" (some 0) with
  accessFlags := 48
  interfaces := #[]
  cf := some (fileOf pool20 12 #[.nestMembers #[627, 629, 369]] #[{ accessFlags := 0, nameIndex := 9, descriptorIndex := 10, attributes := #[] }, { accessFlags := 8, nameIndex := 261, descriptorIndex := 262, attributes := #[] }, { accessFlags := 9, nameIndex := 117, descriptorIndex := 122, attributes := #[] }, { accessFlags := 9, nameIndex := 117, descriptorIndex := 118, attributes := #[] }] 48 6 #[] #[{ accessFlags := 26, nameIndex := 61, descriptorIndex := 62, attributes := #[] }, { accessFlags := 26, nameIndex := 65, descriptorIndex := 62, attributes := #[] }, { accessFlags := 24, nameIndex := 430, descriptorIndex := 62, attributes := #[] }, { accessFlags := 4120, nameIndex := 46, descriptorIndex := 47, attributes := #[] }])
  fields := #[{ name := "HI_BYTE_SHIFT", type := .int, accessFlags := 26, slot := 0, constantValue := 0 }, { name := "LO_BYTE_SHIFT", type := .int, accessFlags := 26, slot := 1, constantValue := 0 }, { name := "MAX_LENGTH", type := .int, accessFlags := 24, slot := 2, constantValue := 0 }, { name := "$assertionsDisabled", type := .boolean, accessFlags := 4120, slot := 3, constantValue := 0 }]
  methods := #[k20m0, k20m1, k20m2, k20m3]
  instanceTypes := #[]
  staticTypes := #[.int, .int, .int, .boolean]
  resolved := Array.replicate 635 none
  statics := none }

def pool21 : Array CpInfo := pool [(9, u "<init>"), (6, .class_ 18), (1, u "java/lang/Object"), (0, u "()V"), (1, .class_ 23), (1, u "jdk/internal/util/ArraysSupport"), (0, u "LOG2_ARRAY_LONG_INDEX_SCALE"), (0, u "I"), (2, u "U"), (0, u "Ljdk/internal/misc/Unsafe;"), (8, u "BIG_ENDIAN"), (0, u "Z"), (8, u "LOG2_BYTE_BIT_SIZE"), (4, u "LOG2_ARRAY_INT_INDEX_SCALE"), (54, u "JLA"), (0, u "Ljdk/internal/access/JavaLangAccess;"), (11, u "LOG2_ARRAY_BOOLEAN_INDEX_SCALE"), (9, u "LOG2_ARRAY_BYTE_INDEX_SCALE"), (5, u "LOG2_ARRAY_CHAR_INDEX_SCALE"), (5, u "LOG2_ARRAY_SHORT_INDEX_SCALE"), (18, u "LOG2_ARRAY_FLOAT_INDEX_SCALE"), (24, u "LOG2_ARRAY_DOUBLE_INDEX_SCALE"), (89, u "T_BOOLEAN"), (2, u "T_CHAR"), (1, u "T_FLOAT"), (1, u "T_DOUBLE"), (1, u "T_BYTE"), (1, u "T_SHORT"), (1, u "T_INT"), (1, u "T_LONG"), (1, u "SOFT_MAX_ARRAY_LENGTH")] 83

def k21m0 : Method := { name := "<init>", desc := "()V", sig := { parameters := [], returnType := none }, accessFlags := 2, code := none }
/-- jdk/internal/util/ArraysSupport -/
def k21 : Class := { plain "jdk/internal/util/ArraysSupport" (some 0) with
  accessFlags := 33
  interfaces := #[]
  cf := some (fileOf pool21 21 #[] #[{ accessFlags := 2, nameIndex := 9, descriptorIndex := 19, attributes := #[] }] 33 16 #[] #[{ accessFlags := 24, nameIndex := 28, descriptorIndex := 29, attributes := #[] }, { accessFlags := 26, nameIndex := 38, descriptorIndex := 39, attributes := #[] }, { accessFlags := 25, nameIndex := 121, descriptorIndex := 25, attributes := #[] }, { accessFlags := 25, nameIndex := 131, descriptorIndex := 25, attributes := #[] }, { accessFlags := 25, nameIndex := 137, descriptorIndex := 25, attributes := #[] }, { accessFlags := 25, nameIndex := 143, descriptorIndex := 25, attributes := #[] }, { accessFlags := 25, nameIndex := 53, descriptorIndex := 25, attributes := #[] }, { accessFlags := 25, nameIndex := 24, descriptorIndex := 25, attributes := #[] }, { accessFlags := 25, nameIndex := 162, descriptorIndex := 25, attributes := #[] }, { accessFlags := 25, nameIndex := 187, descriptorIndex := 25, attributes := #[] }, { accessFlags := 26, nameIndex := 48, descriptorIndex := 25, attributes := #[] }, { accessFlags := 25, nameIndex := 277, descriptorIndex := 25, attributes := #[] }, { accessFlags := 25, nameIndex := 280, descriptorIndex := 25, attributes := #[] }, { accessFlags := 25, nameIndex := 282, descriptorIndex := 25, attributes := #[] }, { accessFlags := 25, nameIndex := 284, descriptorIndex := 25, attributes := #[] }, { accessFlags := 25, nameIndex := 286, descriptorIndex := 25, attributes := #[] }, { accessFlags := 25, nameIndex := 288, descriptorIndex := 25, attributes := #[] }, { accessFlags := 25, nameIndex := 290, descriptorIndex := 25, attributes := #[] }, { accessFlags := 25, nameIndex := 292, descriptorIndex := 25, attributes := #[] }, { accessFlags := 26, nameIndex := 108, descriptorIndex := 109, attributes := #[] }, { accessFlags := 25, nameIndex := 294, descriptorIndex := 25, attributes := #[] }])
  fields := #[{ name := "U", type := (.object "jdk/internal/misc/Unsafe"), accessFlags := 24, slot := 0, constantValue := 0 }, { name := "BIG_ENDIAN", type := .boolean, accessFlags := 26, slot := 1, constantValue := 0 }, { name := "LOG2_ARRAY_BOOLEAN_INDEX_SCALE", type := .int, accessFlags := 25, slot := 2, constantValue := 0 }, { name := "LOG2_ARRAY_BYTE_INDEX_SCALE", type := .int, accessFlags := 25, slot := 3, constantValue := 0 }, { name := "LOG2_ARRAY_CHAR_INDEX_SCALE", type := .int, accessFlags := 25, slot := 4, constantValue := 0 }, { name := "LOG2_ARRAY_SHORT_INDEX_SCALE", type := .int, accessFlags := 25, slot := 5, constantValue := 0 }, { name := "LOG2_ARRAY_INT_INDEX_SCALE", type := .int, accessFlags := 25, slot := 6, constantValue := 0 }, { name := "LOG2_ARRAY_LONG_INDEX_SCALE", type := .int, accessFlags := 25, slot := 7, constantValue := 0 }, { name := "LOG2_ARRAY_FLOAT_INDEX_SCALE", type := .int, accessFlags := 25, slot := 8, constantValue := 0 }, { name := "LOG2_ARRAY_DOUBLE_INDEX_SCALE", type := .int, accessFlags := 25, slot := 9, constantValue := 0 }, { name := "LOG2_BYTE_BIT_SIZE", type := .int, accessFlags := 26, slot := 10, constantValue := 0 }, { name := "T_BOOLEAN", type := .int, accessFlags := 25, slot := 11, constantValue := 0 }, { name := "T_CHAR", type := .int, accessFlags := 25, slot := 12, constantValue := 0 }, { name := "T_FLOAT", type := .int, accessFlags := 25, slot := 13, constantValue := 0 }, { name := "T_DOUBLE", type := .int, accessFlags := 25, slot := 14, constantValue := 0 }, { name := "T_BYTE", type := .int, accessFlags := 25, slot := 15, constantValue := 0 }, { name := "T_SHORT", type := .int, accessFlags := 25, slot := 16, constantValue := 0 }, { name := "T_INT", type := .int, accessFlags := 25, slot := 17, constantValue := 0 }, { name := "T_LONG", type := .int, accessFlags := 25, slot := 18, constantValue := 0 }, { name := "JLA", type := (.object "jdk/internal/access/JavaLangAccess"), accessFlags := 26, slot := 19, constantValue := 0 }, { name := "SOFT_MAX_ARRAY_LENGTH", type := .int, accessFlags := 25, slot := 20, constantValue := 0 }]
  methods := #[k21m0]
  instanceTypes := #[]
  staticTypes := #[(.object "jdk/internal/misc/Unsafe"), .boolean, .int, .int, .int, .int, .int, .int, .int, .int, .int, .int, .int, .int, .int, .int, .int, .int, .int, (.object "jdk/internal/access/JavaLangAccess"), .int]
  resolved := Array.replicate 378 none
  statics := none }

def pool22 : Array CpInfo := pool [(2, .class_ 4), (1, u "java/lang/Object"), (0, u "<init>"), (0, u "()V"), (12, .class_ 20), (0, u "java/util/Collections"), (63, u "r"), (0, u "Ljava/util/Random;"), (80, .class_ 167), (0, u "java/util/Collections$UnmodifiableCollection"), (6, .class_ 175), (0, u "java/util/Collections$UnmodifiableSequencedCollection"), (6, .class_ 183), (0, u "java/util/Collections$UnmodifiableSet"), (6, .class_ 191), (0, u "java/util/Collections$UnmodifiableSequencedSet"), (6, .class_ 199), (0, u "java/util/Collections$UnmodifiableSortedSet"), (6, .class_ 207), (0, u "java/util/Collections$UnmodifiableNavigableSet"), (4, .class_ 213), (0, u "java/util/Collections$UnmodifiableList"), (1, .class_ 216), (0, u "java/util/Collections$UnmodifiableRandomAccessList"), (6, .class_ 224), (0, u "java/util/Collections$UnmodifiableMap"), (6, .class_ 232), (0, u "java/util/Collections$UnmodifiableSequencedMap"), (4, .class_ 238), (0, u "java/util/Collections$UnmodifiableSortedMap"), (6, .class_ 246), (0, u "java/util/Collections$UnmodifiableNavigableMap"), (3, .class_ 251), (0, u "java/util/Collections$SynchronizedCollection"), (4, .class_ 257), (0, u "java/util/Collections$SynchronizedSet"), (4, .class_ 263), (0, u "java/util/Collections$SynchronizedSortedSet"), (1, .class_ 266), (0, u "java/util/Collections$SynchronizedNavigableSet"), (1, .class_ 269), (0, u "java/util/Collections$SynchronizedRandomAccessList"), (1, .class_ 272), (0, u "java/util/Collections$SynchronizedList"), (5, .class_ 279), (0, u "java/util/Collections$SynchronizedMap"), (1, .class_ 282), (0, u "java/util/Collections$SynchronizedSortedMap"), (1, .class_ 285), (0, u "java/util/Collections$SynchronizedNavigableMap"), (1, .class_ 288), (0, u "java/util/Collections$CheckedCollection"), (11, .class_ 301), (0, u "java/util/Collections$CheckedQueue"), (3, .class_ 306), (0, u "java/util/Collections$CheckedSet"), (3, .class_ 311), (0, u "java/util/Collections$CheckedSortedSet"), (3, .class_ 316), (0, u "java/util/Collections$CheckedNavigableSet"), (3, .class_ 321), (0, u "java/util/Collections$CheckedRandomAccessList"), (3, .class_ 326), (0, u "java/util/Collections$CheckedList"), (1, .class_ 329), (0, u "java/util/Collections$CheckedMap"), (3, .class_ 334), (0, u "java/util/Collections$CheckedSortedMap"), (3, .class_ 339), (0, u "java/util/Collections$CheckedNavigableMap"), (4, .class_ 346), (1, u "java/util/Collections$EmptyIterator"), (3, .class_ 352), (1, u "java/util/Collections$EmptyListIterator"), (2, .class_ 357), (1, u "java/util/Collections$EmptyEnumeration"), (4, u "EMPTY_SET"), (0, u "Ljava/util/Set;"), (6, u "EMPTY_LIST"), (0, u "Ljava/util/List;"), (2, u "EMPTY_MAP"), (0, u "Ljava/util/Map;"), (4, .class_ 381), (0, u "java/util/Collections$SingletonSet"), (2, .class_ 385), (0, u "java/util/Collections$1"), (1, .class_ 388), (0, u "java/util/Collections$2"), (1, .class_ 391), (0, u "java/util/Collections$SingletonList"), (1, .class_ 394), (0, u "java/util/Collections$SingletonMap"), (22, .class_ 418), (0, u "java/util/Collections$CopiesList"), (4, .class_ 425), (1, u "java/util/Collections$ReverseComparator"), (8, .class_ 435), (0, u "java/util/Collections$ReverseComparator2"), (6, .class_ 443), (0, u "java/util/Collections$3"), (25, .class_ 470), (0, u "java/util/Collections$SetFromMap"), (2, .class_ 474), (0, u "java/util/Collections$SequencedSetFromMap"), (3, .class_ 479), (0, u "java/util/Collections$AsLIFOQueue"), (11, .class_ 492), (0, u "java/util/Collections$EmptySet"), (1, .class_ 495), (0, u "java/util/Collections$EmptyList"), (1, .class_ 498), (0, u "java/util/Collections$EmptyMap"), (1, u "BINARYSEARCH_THRESHOLD"), (0, u "I"), (2, u "REVERSE_THRESHOLD"), (1, u "SHUFFLE_THRESHOLD"), (1, u "FILL_THRESHOLD"), (1, u "ROTATE_THRESHOLD"), (1, u "COPY_THRESHOLD"), (1, u "REPLACEALL_THRESHOLD"), (1, u "INDEXOFSUBLIST_THRESHOLD"), (333, .class_ 851), (0, u "java/util/Collections$CheckedMap$CheckedEntrySet"), (0, .class_ 853), (0, u "java/util/Collections$CheckedMap$CheckedEntrySet$CheckedEntry"), (0, .class_ 855), (0, u "java/util/Collections$CheckedMap$CheckedEntrySet$1"), (0, .class_ 857), (0, u "java/util/Collections$CheckedList$1"), (0, .class_ 859), (0, u "java/util/Collections$CheckedCollection$1"), (0, .class_ 861), (0, u "java/util/Collections$UnmodifiableNavigableMap$EmptyNavigableMap"), (0, .class_ 863), (0, u "java/util/Collections$UnmodifiableMap$UnmodifiableEntrySet"), (0, .class_ 865), (0, u "java/util/Collections$UnmodifiableMap$UnmodifiableEntrySet$UnmodifiableEntry"), (0, .class_ 867), (0, u "java/util/Collections$UnmodifiableMap$UnmodifiableEntrySet$UnmodifiableEntrySetSpliterator"), (0, .class_ 869), (0, u "java/util/Collections$UnmodifiableMap$UnmodifiableEntrySet$1"), (0, .class_ 871), (0, u "java/util/Collections$UnmodifiableList$1"), (0, .class_ 873), (0, u "java/util/Collections$UnmodifiableNavigableSet$EmptyNavigableSet"), (0, .class_ 875), (0, u "java/util/Collections$UnmodifiableCollection$1")] 57

def k22m0 : Method := { name := "<init>", desc := "()V", sig := { parameters := [], returnType := none }, accessFlags := 2, code := none }
/-- java/util/Collections -/
def k22 : Class := { plain "java/util/Collections" (some 0) with
  accessFlags := 33
  interfaces := #[]
  cf := some (fileOf pool22 19 #[.nestMembers #[478, 473, 469, 434, 423, 417, 393, 390, 380, 497, 494, 491, 355, 350, 344, 338, 333, 328, 850, 852, 854, 320, 325, 856, 315, 310, 305, 300, 287, 858, 284, 281, 278, 268, 271, 265, 262, 256, 250, 245, 860, 237, 231, 223, 862, 864, 866, 868, 215, 212, 870, 206, 872, 198, 190, 182, 174, 166, 874, 442, 387, 384]] #[{ accessFlags := 2, nameIndex := 5, descriptorIndex := 6, attributes := #[] }] 33 2 #[] #[{ accessFlags := 26, nameIndex := 500, descriptorIndex := 501, attributes := #[] }, { accessFlags := 26, nameIndex := 504, descriptorIndex := 501, attributes := #[] }, { accessFlags := 26, nameIndex := 506, descriptorIndex := 501, attributes := #[] }, { accessFlags := 26, nameIndex := 508, descriptorIndex := 501, attributes := #[] }, { accessFlags := 26, nameIndex := 510, descriptorIndex := 501, attributes := #[] }, { accessFlags := 26, nameIndex := 512, descriptorIndex := 501, attributes := #[] }, { accessFlags := 26, nameIndex := 514, descriptorIndex := 501, attributes := #[] }, { accessFlags := 26, nameIndex := 516, descriptorIndex := 501, attributes := #[] }, { accessFlags := 10, nameIndex := 84, descriptorIndex := 85, attributes := #[] }, { accessFlags := 25, nameIndex := 362, descriptorIndex := 363, attributes := #[] }, { accessFlags := 25, nameIndex := 370, descriptorIndex := 371, attributes := #[] }, { accessFlags := 25, nameIndex := 374, descriptorIndex := 375, attributes := #[] }])
  fields := #[{ name := "BINARYSEARCH_THRESHOLD", type := .int, accessFlags := 26, slot := 0, constantValue := 0 }, { name := "REVERSE_THRESHOLD", type := .int, accessFlags := 26, slot := 1, constantValue := 0 }, { name := "SHUFFLE_THRESHOLD", type := .int, accessFlags := 26, slot := 2, constantValue := 0 }, { name := "FILL_THRESHOLD", type := .int, accessFlags := 26, slot := 3, constantValue := 0 }, { name := "ROTATE_THRESHOLD", type := .int, accessFlags := 26, slot := 4, constantValue := 0 }, { name := "COPY_THRESHOLD", type := .int, accessFlags := 26, slot := 5, constantValue := 0 }, { name := "REPLACEALL_THRESHOLD", type := .int, accessFlags := 26, slot := 6, constantValue := 0 }, { name := "INDEXOFSUBLIST_THRESHOLD", type := .int, accessFlags := 26, slot := 7, constantValue := 0 }, { name := "r", type := (.object "java/util/Random"), accessFlags := 10, slot := 8, constantValue := 0 }, { name := "EMPTY_SET", type := (.object "java/util/Set"), accessFlags := 25, slot := 9, constantValue := 0 }, { name := "EMPTY_LIST", type := (.object "java/util/List"), accessFlags := 25, slot := 10, constantValue := 0 }, { name := "EMPTY_MAP", type := (.object "java/util/Map"), accessFlags := 25, slot := 11, constantValue := 0 }]
  methods := #[k22m0]
  instanceTypes := #[]
  staticTypes := #[.int, .int, .int, .int, .int, .int, .int, .int, (.object "java/util/Random"), (.object "java/util/Set"), (.object "java/util/List"), (.object "java/util/Map")]
  resolved := Array.replicate 933 none
  statics := some 3 }

def pool23 : Array CpInfo := pool [(8, .class_ 10), (1, u "java/lang/Iterable"), (24, .class_ 36), (0, u "java/lang/Object")] 25

/-- java/lang/Iterable -/
def k23 : Class := { plain "java/lang/Iterable" (some 0) with
  accessFlags := 1537
  interfaces := #[]
  cf := some (fileOf pool23 8 #[] #[] 1537 35 #[] #[])
  fields := #[]
  methods := #[]
  instanceTypes := #[]
  staticTypes := #[]
  resolved := Array.replicate 62 none
  statics := none }

def pool24 : Array CpInfo := pool [(10, .class_ 12), (1, u "java/util/Collection"), (47, .class_ 61), (0, u "java/lang/Object"), (0, .class_ 63), (0, u "java/lang/Iterable")] 51

/-- java/util/Collection -/
def k24 : Class := { plain "java/util/Collection" (some 0) with
  accessFlags := 1537
  interfaces := #[23]
  cf := some (fileOf pool24 10 #[] #[] 1537 60 #[62] #[])
  fields := #[]
  methods := #[]
  instanceTypes := #[]
  staticTypes := #[]
  resolved := Array.replicate 115 none
  statics := none }

def pool25 : Array CpInfo := pool [(2, .class_ 4), (1, u "java/lang/Object"), (0, u "<init>"), (0, u "()V"), (1, .class_ 10), (1, u "java/util/AbstractCollection"), (66, .class_ 78), (0, u "java/util/Collection")] 81

def k25m0 : Method := { name := "<init>", desc := "()V", sig := { parameters := [], returnType := none }, accessFlags := 4, code := none }
/-- java/util/AbstractCollection -/
def k25 : Class := { plain "java/util/AbstractCollection" (some 0) with
  accessFlags := 1057
  interfaces := #[24]
  cf := some (fileOf pool25 8 #[] #[{ accessFlags := 4, nameIndex := 5, descriptorIndex := 6, attributes := #[] }] 1057 2 #[77] #[])
  fields := #[]
  methods := #[k25m0]
  instanceTypes := #[]
  staticTypes := #[]
  resolved := Array.replicate 160 none
  statics := none }

def pool26 : Array CpInfo := pool [(8, .class_ 10), (1, u "java/util/SequencedCollection"), (15, .class_ 27), (0, u "java/lang/Object"), (0, .class_ 29), (0, u "java/util/Collection")] 27

/-- java/util/SequencedCollection -/
def k26 : Class := { plain "java/util/SequencedCollection" (some 0) with
  accessFlags := 1537
  interfaces := #[24]
  cf := some (fileOf pool26 8 #[] #[] 1537 26 #[28] #[])
  fields := #[]
  methods := #[]
  instanceTypes := #[]
  staticTypes := #[]
  resolved := Array.replicate 57 none
  statics := none }

def pool27 : Array CpInfo := pool [(8, .class_ 10), (1, u "java/util/List"), (92, .class_ 104), (0, u "java/lang/Object"), (15, .class_ 121), (0, u "java/util/SequencedCollection")] 129

/-- java/util/List -/
def k27 : Class := { plain "java/util/List" (some 0) with
  accessFlags := 1537
  interfaces := #[26]
  cf := some (fileOf pool27 8 #[] #[] 1537 103 #[120] #[])
  fields := #[]
  methods := #[]
  instanceTypes := #[]
  staticTypes := #[]
  resolved := Array.replicate 251 none
  statics := none }

def pool28 : Array CpInfo := pool [(2, .class_ 4), (1, u "java/util/AbstractCollection"), (0, u "<init>"), (0, u "()V"), (1, .class_ 10), (1, u "java/util/AbstractList"), (0, u "modCount"), (0, u "I"), (64, .class_ 78), (0, u "java/util/AbstractList$Itr"), (3, .class_ 83), (0, u "java/util/AbstractList$ListItr"), (9, .class_ 94), (0, u "java/util/AbstractList$RandomAccessSubList"), (3, .class_ 99), (0, u "java/util/AbstractList$SubList"), (33, .class_ 134), (0, u "java/util/List"), (73, .class_ 209), (0, u "java/util/AbstractList$SubList$1"), (0, .class_ 211), (0, u "java/util/AbstractList$RandomAccessSpliterator")] 6

def k28m0 : Method := { name := "<init>", desc := "()V", sig := { parameters := [], returnType := none }, accessFlags := 4, code := none }
/-- java/util/AbstractList -/
def k28 : Class := { plain "java/util/AbstractList" (some 25) with
  accessFlags := 1057
  interfaces := #[27]
  cf := some (fileOf pool28 8 #[.nestMembers #[93, 98, 208, 210, 82, 77]] #[{ accessFlags := 4, nameIndex := 5, descriptorIndex := 6, attributes := #[] }] 1057 2 #[133] #[{ accessFlags := 132, nameIndex := 11, descriptorIndex := 12, attributes := #[] }])
  fields := #[{ name := "modCount", type := .int, accessFlags := 132, slot := 0, constantValue := 0 }]
  methods := #[k28m0]
  instanceTypes := #[.int]
  staticTypes := #[]
  resolved := Array.replicate 218 none
  statics := none }

def pool29 : Array CpInfo := pool [(1, .class_ 2), (0, u "java/util/RandomAccess"), (0, .class_ 4), (0, u "java/lang/Object")] 2

/-- java/util/RandomAccess -/
def k29 : Class := { plain "java/util/RandomAccess" (some 0) with
  accessFlags := 1537
  interfaces := #[]
  cf := some (fileOf pool29 1 #[] #[] 1537 3 #[] #[])
  fields := #[]
  methods := #[]
  instanceTypes := #[]
  staticTypes := #[]
  resolved := Array.replicate 7 none
  statics := none }

def pool30 : Array CpInfo := pool [(2, .class_ 4), (1, u "java/util/AbstractList"), (0, u "<init>"), (0, u "()V"), (1, .class_ 10), (1, u "java/util/Collections"), (54, .class_ 66), (0, u "java/util/Collections$EmptyList"), (0, .class_ 68), (0, u "java/util/RandomAccess"), (0, .class_ 70), (0, u "java/io/Serializable"), (0, u "serialVersionUID"), (0, u "J")] 77

def k30m0 : Method := { name := "<init>", desc := "()V", sig := { parameters := [], returnType := none }, accessFlags := 2, code := none }
/-- java/util/Collections$EmptyList -/
def k30 : Class := { plain "java/util/Collections$EmptyList" (some 28) with
  accessFlags := 32
  interfaces := #[29, 2]
  cf := some (fileOf pool30 65 #[.nestHost 8] #[{ accessFlags := 2, nameIndex := 5, descriptorIndex := 6, attributes := #[] }] 32 2 #[67, 69] #[{ accessFlags := 26, nameIndex := 71, descriptorIndex := 72, attributes := #[] }])
  fields := #[{ name := "serialVersionUID", type := .long, accessFlags := 26, slot := 0, constantValue := 0 }]
  methods := #[k30m0]
  instanceTypes := #[.int]
  staticTypes := #[.long]
  resolved := Array.replicate 150 none
  statics := none }

def pool31 : Array CpInfo := pool [(2, .class_ 4), (1, u "java/lang/StackTraceElement"), (0, u "<init>"), (2, .class_ 10), (1, u "java/lang/Object"), (0, u "()V"), (2, u "format"), (0, u "B"), (2, u "classLoaderName"), (0, u "Ljava/lang/String;"), (2, u "moduleName"), (2, u "moduleVersion"), (12, u "declaringClass"), (4, u "methodName"), (2, u "fileName"), (2, u "lineNumber"), (0, u "I"), (65, u "declaringClassObject"), (0, u "Ljava/lang/Class;"), (33, .class_ 153), (1, u "java/lang/StackTraceElement$HashedModules"), (17, .class_ 172), (0, u "java/io/Serializable"), (0, u "NATIVE_METHOD"), (1, u "UNKNOWN_SOURCE"), (2, u "BUILTIN_CLASS_LOADER"), (1, u "JDK_NON_UPGRADEABLE_MODULE"), (1, u "serialVersionUID"), (0, u "J")] 51

def k31m0 : Method := { name := "<init>", desc := "()V", sig := { parameters := [], returnType := none }, accessFlags := 2, code := none }
/-- java/lang/StackTraceElement -/
def k31 : Class := { plain "java/lang/StackTraceElement" (some 0) with
  accessFlags := 49
  interfaces := #[2]
  cf := some (fileOf pool31 2 #[.nestMembers #[151]] #[{ accessFlags := 2, nameIndex := 5, descriptorIndex := 11, attributes := #[] }] 49 8 #[171] #[{ accessFlags := 26, nameIndex := 173, descriptorIndex := 19, attributes := #[] }, { accessFlags := 26, nameIndex := 175, descriptorIndex := 19, attributes := #[] }, { accessFlags := 130, nameIndex := 116, descriptorIndex := 117, attributes := #[] }, { accessFlags := 2, nameIndex := 18, descriptorIndex := 19, attributes := #[] }, { accessFlags := 2, nameIndex := 22, descriptorIndex := 19, attributes := #[] }, { accessFlags := 2, nameIndex := 25, descriptorIndex := 19, attributes := #[] }, { accessFlags := 2, nameIndex := 38, descriptorIndex := 19, attributes := #[] }, { accessFlags := 2, nameIndex := 43, descriptorIndex := 19, attributes := #[] }, { accessFlags := 2, nameIndex := 46, descriptorIndex := 19, attributes := #[] }, { accessFlags := 2, nameIndex := 49, descriptorIndex := 50, attributes := #[] }, { accessFlags := 2, nameIndex := 14, descriptorIndex := 15, attributes := #[] }, { accessFlags := 26, nameIndex := 178, descriptorIndex := 15, attributes := #[] }, { accessFlags := 26, nameIndex := 180, descriptorIndex := 15, attributes := #[] }, { accessFlags := 26, nameIndex := 182, descriptorIndex := 183, attributes := #[] }])
  fields := #[{ name := "NATIVE_METHOD", type := (.object "java/lang/String"), accessFlags := 26, slot := 0, constantValue := 0 }, { name := "UNKNOWN_SOURCE", type := (.object "java/lang/String"), accessFlags := 26, slot := 1, constantValue := 0 }, { name := "declaringClassObject", type := (.object "java/lang/Class"), accessFlags := 130, slot := 0, constantValue := 0 }, { name := "classLoaderName", type := (.object "java/lang/String"), accessFlags := 2, slot := 1, constantValue := 0 }, { name := "moduleName", type := (.object "java/lang/String"), accessFlags := 2, slot := 2, constantValue := 0 }, { name := "moduleVersion", type := (.object "java/lang/String"), accessFlags := 2, slot := 3, constantValue := 0 }, { name := "declaringClass", type := (.object "java/lang/String"), accessFlags := 2, slot := 4, constantValue := 0 }, { name := "methodName", type := (.object "java/lang/String"), accessFlags := 2, slot := 5, constantValue := 0 }, { name := "fileName", type := (.object "java/lang/String"), accessFlags := 2, slot := 6, constantValue := 0 }, { name := "lineNumber", type := .int, accessFlags := 2, slot := 7, constantValue := 0 }, { name := "format", type := .byte, accessFlags := 2, slot := 8, constantValue := 0 }, { name := "BUILTIN_CLASS_LOADER", type := .byte, accessFlags := 26, slot := 2, constantValue := 0 }, { name := "JDK_NON_UPGRADEABLE_MODULE", type := .byte, accessFlags := 26, slot := 3, constantValue := 0 }, { name := "serialVersionUID", type := .long, accessFlags := 26, slot := 4, constantValue := 0 }]
  methods := #[k31m0]
  instanceTypes := #[(.object "java/lang/Class"), (.object "java/lang/String"), (.object "java/lang/String"), (.object "java/lang/String"), (.object "java/lang/String"), (.object "java/lang/String"), (.object "java/lang/String"), .int, .byte]
  staticTypes := #[(.object "java/lang/String"), (.object "java/lang/String"), .byte, .byte, .long]
  resolved := Array.replicate 235 none
  statics := none }

def pool32 : Array CpInfo := pool [(1, u "java/lang/Cloneable"), (0, .class_ 1), (0, u "java/lang/Object"), (0, .class_ 3)] 3

/-- java/lang/Cloneable -/
def k32 : Class := { plain "java/lang/Cloneable" (some 0) with
  accessFlags := 1537
  interfaces := #[]
  cf := some (fileOf pool32 2 #[] #[] 1537 4 #[] #[])
  fields := #[]
  methods := #[]
  instanceTypes := #[]
  staticTypes := #[]
  resolved := Array.replicate 8 none
  statics := none }

/-- the primitive byte -/
def k33 : Class := { plain "byte" none with kind := .primitive 'B', accessFlags := 0x411 }
/-- [B -/
def k34 : Class := { plain "[B" (some 0) with kind := .array 33 .byte, interfaces := #[32, 2], accessFlags := 1041 }

/-- the primitive char -/
def k35 : Class := { plain "char" none with kind := .primitive 'C', accessFlags := 0x411 }
/-- [C -/
def k36 : Class := { plain "[C" (some 0) with kind := .array 35 .char, interfaces := #[32, 2], accessFlags := 1041 }

/-- the primitive int -/
def k37 : Class := { plain "int" none with kind := .primitive 'I', accessFlags := 0x411 }
/-- [I -/
def k38 : Class := { plain "[I" (some 0) with kind := .array 37 .int, interfaces := #[32, 2], accessFlags := 1041 }

/-- [Ljava/lang/Object; -/
def k39 : Class := { plain "[Ljava/lang/Object;" (some 0) with kind := .array 0 (.object "java/lang/Object"), interfaces := #[32, 2], accessFlags := 1041 }

/-- [Ljava/lang/StackTraceElement; -/
def k40 : Class := { plain "[Ljava/lang/StackTraceElement;" (some 0) with kind := .array 31 (.object "java/lang/StackTraceElement"), interfaces := #[32, 2], accessFlags := 1041 }

/-- [Ljava/lang/Throwable; -/
def k41 : Class := { plain "[Ljava/lang/Throwable;" (some 0) with kind := .array 8 (.object "java/lang/Throwable"), interfaces := #[32, 2], accessFlags := 1041 }

def heap : Heap := #[{ cls := 7, slots := #[.long 0, .int 1, .null, .int 0, .null, .int 0, .int 0], vm := .statics 7 },
  { cls := 8, slots := #[.long 0, .ref 4, .ref 5, .null, .null, .null, .null, .ref 6, .int 1], vm := .statics 8 },
  { cls := 19, slots := #[.null, .null, .null], vm := .statics 19 },
  { cls := 22, slots := #[.int 0, .int 0, .int 0, .int 0, .int 0, .int 0, .int 0, .int 0, .null, .null, .ref 5, .null], vm := .statics 22 },
  { cls := 40, slots := #[], vm := .none },
  { cls := 30, slots := #[.int 0], vm := .none },
  { cls := 41, slots := #[], vm := .none }]
def classes : Array Class := #[k0, k1, k2, k3, k4, k5, k6, k7, k8, k9, k10, k11, k12, k13, k14, k15, k16, k17, k18, k19, k20, k21, k22, k23, k24, k25, k26, k27, k28, k29, k30, k31, k32, k33, k34, k35, k36, k37, k38, k39, k40, k41]
def interned : List (Array UInt16 × Addr) := []
def slotsUsed : Nat := 32
def theMethod : MethodId := ⟨1, 2⟩
def args0 : Array Value := #[.int 1, .int 2]
def aboutOver (below : List Frame) : State where
  vm := { classes := classes, interned := interned.toArray }
  heap := heap
  slotsUsed := slotsUsed
  threads := #[{ frames := .invoking theMethod args0 :: below }]
def below0 : List Frame := [.native { method := ⟨0, 0⟩, args := #[] }]
def about1 : State := aboutOver below0
def p0 : Program := .bare "" "" ""
def e0 : Env := launch0.env 0 0 0
theorem w_frames : about1.frames = Frame.invoking theMethod args0 :: below0 := rfl
set_option maxRecDepth 65536 in
theorem w_args : argsFit about1.vm theMethod args0 = true := by decide +kernel
set_option maxRecDepth 65536 in
theorem w_heap : heapFits about1 = true := by decide +kernel
set_option maxRecDepth 65536 in
theorem w_runnable : about1.curStatus? = some .runnable := by decide +kernel
set_option maxRecDepth 65536 in
theorem w_alone : about1.alone = true := by decide +kernel
set_option maxRecDepth 65536 in
theorem w_named : about1.methodNamed? x = some theMethod := by decide +kernel
set_option maxRecDepth 65536 in
theorem w_hears : about1.hears theMethod below0 = true := by decide +kernel
set_option maxRecDepth 65536 in
theorem w_ripe : about1.ripe theMethod args0 below0 = true := by decide +kernel
theorem w_running : about1.status = .running := rfl
set_option maxRecDepth 65536 in
theorem w_room : about1.hasRoom e0.platform room_1 = true :=
  launch0.hasRoom_least _ room_1 (by decide +kernel) (by decide +kernel) (by decide +kernel) (by decide +kernel) (by decide +kernel) (by decide +kernel)
theorem allAtoms_all (ts : List Jvm.Cond) (a : Array Jvm.Value) (st : Jvm.State) : (allAtoms ts).before a st = ts.all (fun c => c.before a st) := by
  induction ts with
  | nil => rfl
  | cons c t ih =>
    show (Jvm.Cond.and c (allAtoms t)).before a st = _
    rw [Jvm.Cond.before_and, ih, List.all_cons]
def words1 : List Jvm.Cond := Jvm.Cond.code x code maxLocals ret :: tables_1
/-- a 'code' word, met by the world's own term for the bytes: nothing is compared byte by byte -/
theorem code_word {y : MethodName} {bytes : ByteArray} {mx : Nat} {rt : Option FieldType} {a : Array Value} {s : State} {m : MethodId} {meth : Method} {c : Code} (h1 : s.methodNamed? y = some m) (h2 : s.vm.method? m = some meth) (h3 : meth.code = some c) (h4 : c.code = bytes)
    (h5 : (c.maxLocals == mx && c.exceptionTable.isEmpty && decide (c.maxStack ≤ mostOperands) && decide (meth.sig.returnType = rt) && !meth.locks && decide (parseMethodDescriptor y.desc = some meth.sig)) = true) : (Jvm.Cond.code y bytes mx rt).before a s = true := by
  simp only [Bool.and_eq_true, beq_iff_eq, Bool.not_eq_true', decide_eq_true_eq] at h5
  obtain ⟨⟨⟨⟨⟨g1, g2⟩, g3⟩, g4⟩, g5⟩, g6⟩ := h5
  simp [Cond.before, Cond.holds, Cond.value, h1, h2, h3, h4, g1, g2, g3, g4, g5, g6]
def isCode : Jvm.Cond → Bool
  | .code _ _ _ _ => true
  | _ => false
theorem all_split {L : List Jvm.Cond} {P : Jvm.Cond → Bool} (h1 : L.all (fun c => isCode c || P c) = true) (h2 : ∀ c ∈ L.filter isCode, P c = true) : L.all P = true := by
  refine List.all_eq_true.mpr fun c hc => ?_
  have h := List.all_eq_true.mp h1 c hc
  rcases Bool.eq_false_or_eq_true (isCode c) with hi | hi
  · exact h2 c (List.mem_filter.mpr ⟨hc, hi⟩)
  · simpa [hi] using h
set_option maxRecDepth 65536 in
theorem w_c0 : (Jvm.Cond.code x code maxLocals ret).before args0 about1 = true := code_word (m := ⟨1, 2⟩) (meth := k1m2) (c := k1c2) (by decide +kernel) rfl rfl rfl (by decide +kernel)
set_option maxRecDepth 65536 in
theorem w_c1 : (Jvm.Cond.code ({ cls := "com/example/fianza/fianza/InputExceptionInPinLaw", name := "str", desc := "(ICC)Ljava/lang/String;" } : Jvm.MethodName) method_2_code (3 : Nat) (Option.some (Jvm.ClassFile.FieldType.object "java/lang/String"))).before args0 about1 = true := code_word (m := ⟨1, 1⟩) (meth := k1m1) (c := k1c1) (by decide +kernel) rfl rfl rfl (by decide +kernel)
set_option maxRecDepth 65536 in
theorem w_c2 : (Jvm.Cond.code ({ cls := "java/lang/String", name := "<init>", desc := "([C)V" } : Jvm.MethodName) jdk_42_method_3_code (2 : Nat) (Option.none : Option Jvm.ClassFile.FieldType)).before args0 about1 = true := code_word (m := ⟨7, 1⟩) (meth := k7m1) (c := k7c1) (by decide +kernel) rfl rfl rfl (by decide +kernel)
set_option maxRecDepth 65536 in
theorem w_c3 : (Jvm.Cond.code ({ cls := "java/lang/String", name := "<init>", desc := "([CIILjava/lang/Void;)V" } : Jvm.MethodName) jdk_42_method_149_code (6 : Nat) (Option.none : Option Jvm.ClassFile.FieldType)).before args0 about1 = true := code_word (m := ⟨7, 6⟩) (meth := k7m6) (c := k7c6) (by decide +kernel) rfl rfl rfl (by decide +kernel)
set_option maxRecDepth 65536 in
theorem w_c4 : (Jvm.Cond.code ({ cls := "java/lang/Object", name := "<init>", desc := "()V" } : Jvm.MethodName) object_method_1_code (1 : Nat) (Option.none : Option Jvm.ClassFile.FieldType)).before args0 about1 = true := code_word (m := ⟨0, 0⟩) (meth := k0m0) (c := k0c0) (by decide +kernel) rfl rfl rfl (by decide +kernel)
set_option maxRecDepth 65536 in
theorem w_c5 : (Jvm.Cond.code ({ cls := "com/example/fianza/fianza/InputException", name := "in", desc := "(Ljava/lang/String;Ljava/lang/String;)Lcom/example/fianza/fianza/InputException;" } : Jvm.MethodName) prog_25_method_2_code (2 : Nat) (Option.some (Jvm.ClassFile.FieldType.object "com/example/fianza/fianza/InputException"))).before args0 about1 = true := code_word (m := ⟨11, 1⟩) (meth := k11m1) (c := k11c1) (by decide +kernel) rfl rfl rfl (by decide +kernel)
set_option maxRecDepth 65536 in
theorem w_c6 : (Jvm.Cond.code ({ cls := "java/lang/StringBuilder", name := "<init>", desc := "()V" } : Jvm.MethodName) jdk_67_method_1_code (1 : Nat) (Option.none : Option Jvm.ClassFile.FieldType)).before args0 about1 = true := code_word (m := ⟨14, 0⟩) (meth := k14m0) (c := k14c0) (by decide +kernel) rfl rfl rfl (by decide +kernel)
set_option maxRecDepth 65536 in
theorem w_c7 : (Jvm.Cond.code ({ cls := "java/lang/AbstractStringBuilder", name := "<init>", desc := "(I)V" } : Jvm.MethodName) jdk_68_method_2_code (2 : Nat) (Option.none : Option Jvm.ClassFile.FieldType)).before args0 about1 = true := code_word (m := ⟨13, 1⟩) (meth := k13m1) (c := k13c1) (by decide +kernel) rfl rfl rfl (by decide +kernel)
set_option maxRecDepth 65536 in
theorem w_c8 : (Jvm.Cond.code ({ cls := "java/lang/StringBuilder", name := "append", desc := "(Ljava/lang/String;)Ljava/lang/StringBuilder;" } : Jvm.MethodName) jdk_67_method_7_code (2 : Nat) (Option.some (Jvm.ClassFile.FieldType.object "java/lang/StringBuilder"))).before args0 about1 = true := code_word (m := ⟨14, 1⟩) (meth := k14m1) (c := k14c1) (by decide +kernel) rfl rfl rfl (by decide +kernel)
set_option maxRecDepth 65536 in
theorem w_c9 : (Jvm.Cond.code ({ cls := "java/lang/AbstractStringBuilder", name := "append", desc := "(Ljava/lang/String;)Ljava/lang/AbstractStringBuilder;" } : Jvm.MethodName) jdk_68_method_22_code (3 : Nat) (Option.some (Jvm.ClassFile.FieldType.object "java/lang/AbstractStringBuilder"))).before args0 about1 = true := code_word (m := ⟨13, 4⟩) (meth := k13m4) (c := k13c4) (by decide +kernel) rfl rfl rfl (by decide +kernel)
set_option maxRecDepth 65536 in
theorem w_c10 : (Jvm.Cond.code ({ cls := "java/lang/String", name := "length", desc := "()I" } : Jvm.MethodName) jdk_42_method_54_code (1 : Nat) (Option.some Jvm.ClassFile.FieldType.int)).before args0 about1 = true := code_word (m := ⟨7, 3⟩) (meth := k7m3) (c := k7c3) (by decide +kernel) rfl rfl rfl (by decide +kernel)
set_option maxRecDepth 65536 in
theorem w_c11 : (Jvm.Cond.code ({ cls := "java/lang/String", name := "coder", desc := "()B" } : Jvm.MethodName) jdk_42_method_152_code (1 : Nat) (Option.some Jvm.ClassFile.FieldType.byte)).before args0 about1 = true := code_word (m := ⟨7, 8⟩) (meth := k7m8) (c := k7c8) (by decide +kernel) rfl rfl rfl (by decide +kernel)
set_option maxRecDepth 65536 in
theorem w_c12 : (Jvm.Cond.code ({ cls := "java/lang/AbstractStringBuilder", name := "ensureCapacityInternal", desc := "(I)V" } : Jvm.MethodName) jdk_68_method_9_code (3 : Nat) (Option.none : Option Jvm.ClassFile.FieldType)).before args0 about1 = true := code_word (m := ⟨13, 3⟩) (meth := k13m3) (c := k13c3) (by decide +kernel) rfl rfl rfl (by decide +kernel)
set_option maxRecDepth 65536 in
theorem w_c13 : (Jvm.Cond.code ({ cls := "java/lang/AbstractStringBuilder", name := "putStringAt", desc := "(ILjava/lang/String;)V" } : Jvm.MethodName) jdk_68_method_73_code (3 : Nat) (Option.none : Option Jvm.ClassFile.FieldType)).before args0 about1 = true := code_word (m := ⟨13, 8⟩) (meth := k13m8) (c := k13c8) (by decide +kernel) rfl rfl rfl (by decide +kernel)
set_option maxRecDepth 65536 in
theorem w_c14 : (Jvm.Cond.code ({ cls := "java/lang/AbstractStringBuilder", name := "inflateIfNeededFor", desc := "(Ljava/lang/String;)V" } : Jvm.MethodName) jdk_68_method_71_code (2 : Nat) (Option.none : Option Jvm.ClassFile.FieldType)).before args0 about1 = true := code_word (m := ⟨13, 7⟩) (meth := k13m7) (c := k13c7) (by decide +kernel) rfl rfl rfl (by decide +kernel)
set_option maxRecDepth 65536 in
theorem w_c15 : (Jvm.Cond.code ({ cls := "java/lang/String", name := "getBytes", desc := "([BIB)V" } : Jvm.MethodName) jdk_42_method_147_code (4 : Nat) (Option.none : Option Jvm.ClassFile.FieldType)).before args0 about1 = true := code_word (m := ⟨7, 5⟩) (meth := k7m5) (c := k7c5) (by decide +kernel) rfl rfl rfl (by decide +kernel)
set_option maxRecDepth 65536 in
theorem w_c16 : (Jvm.Cond.code ({ cls := "java/lang/StringBuilder", name := "toString", desc := "()Ljava/lang/String;" } : Jvm.MethodName) jdk_67_method_42_code (1 : Nat) (Option.some (Jvm.ClassFile.FieldType.object "java/lang/String"))).before args0 about1 = true := code_word (m := ⟨14, 2⟩) (meth := k14m2) (c := k14c2) (by decide +kernel) rfl rfl rfl (by decide +kernel)
set_option maxRecDepth 65536 in
theorem w_c17 : (Jvm.Cond.code ({ cls := "java/lang/String", name := "<init>", desc := "(Ljava/lang/StringBuilder;)V" } : Jvm.MethodName) jdk_42_method_53_code (2 : Nat) (Option.none : Option Jvm.ClassFile.FieldType)).before args0 about1 = true := code_word (m := ⟨7, 2⟩) (meth := k7m2) (c := k7c2) (by decide +kernel) rfl rfl rfl (by decide +kernel)
set_option maxRecDepth 65536 in
theorem w_c18 : (Jvm.Cond.code ({ cls := "java/lang/String", name := "<init>", desc := "(Ljava/lang/AbstractStringBuilder;Ljava/lang/Void;)V" } : Jvm.MethodName) jdk_42_method_150_code (5 : Nat) (Option.none : Option Jvm.ClassFile.FieldType)).before args0 about1 = true := code_word (m := ⟨7, 7⟩) (meth := k7m7) (c := k7c7) (by decide +kernel) rfl rfl rfl (by decide +kernel)
set_option maxRecDepth 65536 in
theorem w_c19 : (Jvm.Cond.code ({ cls := "java/lang/AbstractStringBuilder", name := "getValue", desc := "()[B" } : Jvm.MethodName) jdk_68_method_64_code (1 : Nat) (Option.some (Jvm.ClassFile.FieldType.array Jvm.ClassFile.FieldType.byte))).before args0 about1 = true := code_word (m := ⟨13, 5⟩) (meth := k13m5) (c := k13c5) (by decide +kernel) rfl rfl rfl (by decide +kernel)
set_option maxRecDepth 65536 in
theorem w_c20 : (Jvm.Cond.code ({ cls := "java/lang/StringBuilder", name := "length", desc := "()I" } : Jvm.MethodName) jdk_67_method_93_code (1 : Nat) (Option.some Jvm.ClassFile.FieldType.int)).before args0 about1 = true := code_word (m := ⟨14, 3⟩) (meth := k14m3) (c := k14c3) (by decide +kernel) rfl rfl rfl (by decide +kernel)
set_option maxRecDepth 65536 in
theorem w_c21 : (Jvm.Cond.code ({ cls := "java/lang/AbstractStringBuilder", name := "length", desc := "()I" } : Jvm.MethodName) jdk_68_method_6_code (1 : Nat) (Option.some Jvm.ClassFile.FieldType.int)).before args0 about1 = true := code_word (m := ⟨13, 2⟩) (meth := k13m2) (c := k13c2) (by decide +kernel) rfl rfl rfl (by decide +kernel)
set_option maxRecDepth 65536 in
theorem w_c22 : (Jvm.Cond.code ({ cls := "java/lang/AbstractStringBuilder", name := "isLatin1", desc := "()Z" } : Jvm.MethodName) jdk_68_method_68_code (1 : Nat) (Option.some Jvm.ClassFile.FieldType.boolean)).before args0 about1 = true := code_word (m := ⟨13, 6⟩) (meth := k13m6) (c := k13c6) (by decide +kernel) rfl rfl rfl (by decide +kernel)
set_option maxRecDepth 65536 in
theorem w_c23 : (Jvm.Cond.code ({ cls := "java/util/Arrays", name := "copyOfRange", desc := "([BII)[B" } : Jvm.MethodName) jdk_65_method_132_code (3 : Nat) (Option.some (Jvm.ClassFile.FieldType.array Jvm.ClassFile.FieldType.byte))).before args0 about1 = true := code_word (m := ⟨16, 2⟩) (meth := k16m2) (c := k16c2) (by decide +kernel) rfl rfl rfl (by decide +kernel)
set_option maxRecDepth 65536 in
theorem w_c24 : (Jvm.Cond.code ({ cls := "java/util/Arrays", name := "copyOfRangeByte", desc := "([BII)[B" } : Jvm.MethodName) jdk_65_method_133_code (5 : Nat) (Option.some (Jvm.ClassFile.FieldType.array Jvm.ClassFile.FieldType.byte))).before args0 about1 = true := code_word (m := ⟨16, 3⟩) (meth := k16m3) (c := k16c3) (by decide +kernel) rfl rfl rfl (by decide +kernel)
set_option maxRecDepth 65536 in
theorem w_c25 : (Jvm.Cond.code ({ cls := "java/util/Arrays", name := "checkLength", desc := "(II)V" } : Jvm.MethodName) jdk_65_method_131_code (2 : Nat) (Option.none : Option Jvm.ClassFile.FieldType)).before args0 about1 = true := code_word (m := ⟨16, 1⟩) (meth := k16m1) (c := k16c1) (by decide +kernel) rfl rfl rfl (by decide +kernel)
set_option maxRecDepth 65536 in
theorem w_c26 : (Jvm.Cond.code ({ cls := "java/lang/Math", name := "min", desc := "(II)I" } : Jvm.MethodName) jdk_29_method_69_code (2 : Nat) (Option.some Jvm.ClassFile.FieldType.int)).before args0 about1 = true := code_word (m := ⟨17, 1⟩) (meth := k17m1) (c := k17c1) (by decide +kernel) rfl rfl rfl (by decide +kernel)
set_option maxRecDepth 65536 in
theorem w_c27 : (Jvm.Cond.code ({ cls := "com/example/fianza/fianza/InputException", name := "<init>", desc := "(Ljava/lang/String;)V" } : Jvm.MethodName) prog_25_method_1_code (2 : Nat) (Option.none : Option Jvm.ClassFile.FieldType)).before args0 about1 = true := code_word (m := ⟨11, 0⟩) (meth := k11m0) (c := k11c0) (by decide +kernel) rfl rfl rfl (by decide +kernel)
set_option maxRecDepth 65536 in
theorem w_c28 : (Jvm.Cond.code ({ cls := "java/lang/RuntimeException", name := "<init>", desc := "(Ljava/lang/String;)V" } : Jvm.MethodName) jdk_58_method_2_code (2 : Nat) (Option.none : Option Jvm.ClassFile.FieldType)).before args0 about1 = true := code_word (m := ⟨10, 1⟩) (meth := k10m1) (c := k10c1) (by decide +kernel) rfl rfl rfl (by decide +kernel)
set_option maxRecDepth 65536 in
theorem w_c29 : (Jvm.Cond.code ({ cls := "java/lang/Exception", name := "<init>", desc := "(Ljava/lang/String;)V" } : Jvm.MethodName) jdk_59_method_2_code (2 : Nat) (Option.none : Option Jvm.ClassFile.FieldType)).before args0 about1 = true := code_word (m := ⟨9, 1⟩) (meth := k9m1) (c := k9c1) (by decide +kernel) rfl rfl rfl (by decide +kernel)
set_option maxRecDepth 65536 in
theorem w_c30 : (Jvm.Cond.code ({ cls := "java/lang/Throwable", name := "<init>", desc := "(Ljava/lang/String;)V" } : Jvm.MethodName) jdk_78_method_2_code (2 : Nat) (Option.none : Option Jvm.ClassFile.FieldType)).before args0 about1 = true := code_word (m := ⟨8, 1⟩) (meth := k8m1) (c := k8c1) (by decide +kernel) rfl rfl rfl (by decide +kernel)
set_option maxRecDepth 65536 in
theorem w_c31 : (Jvm.Cond.code ({ cls := "java/lang/Throwable", name := "<init>", desc := "()V" } : Jvm.MethodName) jdk_78_method_1_code (1 : Nat) (Option.none : Option Jvm.ClassFile.FieldType)).before args0 about1 = true := code_word (m := ⟨8, 0⟩) (meth := k8m0) (c := k8c0) (by decide +kernel) rfl rfl rfl (by decide +kernel)
set_option maxRecDepth 65536 in
theorem w_c32 : (Jvm.Cond.code ({ cls := "java/lang/Throwable", name := "getMessage", desc := "()Ljava/lang/String;" } : Jvm.MethodName) jdk_78_method_6_code (1 : Nat) (Option.some (Jvm.ClassFile.FieldType.object "java/lang/String"))).before args0 about1 = true := code_word (m := ⟨8, 2⟩) (meth := k8m2) (c := k8c2) (by decide +kernel) rfl rfl rfl (by decide +kernel)
set_option maxRecDepth 65536 in
theorem w_c33 : (Jvm.Cond.code ({ cls := "java/lang/String", name := "charAt", desc := "(I)C" } : Jvm.MethodName) jdk_42_method_56_code (2 : Nat) (Option.some Jvm.ClassFile.FieldType.char)).before args0 about1 = true := code_word (m := ⟨7, 4⟩) (meth := k7m4) (c := k7c4) (by decide +kernel) rfl rfl rfl (by decide +kernel)
set_option maxRecDepth 65536 in
theorem w_c34 : (Jvm.Cond.code ({ cls := "java/lang/String", name := "isLatin1", desc := "()Z" } : Jvm.MethodName) jdk_42_method_154_code (1 : Nat) (Option.some Jvm.ClassFile.FieldType.boolean)).before args0 about1 = true := code_word (m := ⟨7, 9⟩) (meth := k7m9) (c := k7c9) (by decide +kernel) rfl rfl rfl (by decide +kernel)
set_option maxRecDepth 65536 in
theorem w_c35 : (Jvm.Cond.code ({ cls := "java/lang/StringLatin1", name := "charAt", desc := "([BI)C" } : Jvm.MethodName) jdk_43_method_2_code (2 : Nat) (Option.some Jvm.ClassFile.FieldType.char)).before args0 about1 = true := code_word (m := ⟨18, 1⟩) (meth := k18m1) (c := k18c1) (by decide +kernel) rfl rfl rfl (by decide +kernel)
set_option maxRecDepth 65536 in
theorem w_c36 : (Jvm.Cond.code ({ cls := "java/lang/String", name := "checkIndex", desc := "(II)V" } : Jvm.MethodName) jdk_42_method_155_code (2 : Nat) (Option.none : Option Jvm.ClassFile.FieldType)).before args0 about1 = true := code_word (m := ⟨7, 10⟩) (meth := k7m10) (c := k7c10) (by decide +kernel) rfl rfl rfl (by decide +kernel)
set_option maxRecDepth 65536 in
theorem w_c37 : (Jvm.Cond.code ({ cls := "jdk/internal/util/Preconditions", name := "checkIndex", desc := "(IILjava/util/function/BiFunction;)I" } : Jvm.MethodName) jdk_41_method_11_code (3 : Nat) (Option.some Jvm.ClassFile.FieldType.int)).before args0 about1 = true := code_word (m := ⟨19, 1⟩) (meth := k19m1) (c := k19c1) (by decide +kernel) rfl rfl rfl (by decide +kernel)
set_option maxRecDepth 65536 in
theorem w_c38 : (Jvm.Cond.code ({ cls := "java/lang/StringUTF16", name := "compress", desc := "([CII)[B" } : Jvm.MethodName) jdk_52_method_16_code (6 : Nat) (Option.some (Jvm.ClassFile.FieldType.array Jvm.ClassFile.FieldType.byte))).before args0 about1 = true := code_word (m := ⟨20, 2⟩) (meth := k20m2) (c := k20c2) (by decide +kernel) rfl rfl rfl (by decide +kernel)
set_option maxRecDepth 65536 in
theorem w_c39 : (Jvm.Cond.code ({ cls := "java/lang/StringUTF16", name := "compress", desc := "([CI[BII)I" } : Jvm.MethodName) jdk_52_method_21_code (7 : Nat) (Option.some Jvm.ClassFile.FieldType.int)).before args0 about1 = true := code_word (m := ⟨20, 3⟩) (meth := k20m3) (c := k20c3) (by decide +kernel) rfl rfl rfl (by decide +kernel)
set_option maxRecDepth 65536 in
theorem w_c40 : (Jvm.Cond.code ({ cls := "java/lang/StringUTF16", name := "coderFromArrayLen", desc := "([BI)B" } : Jvm.MethodName) jdk_52_method_15_code (2 : Nat) (Option.some Jvm.ClassFile.FieldType.byte)).before args0 about1 = true := code_word (m := ⟨20, 1⟩) (meth := k20m1) (c := k20c1) (by decide +kernel) rfl rfl rfl (by decide +kernel)
def codes1 : List Jvm.Cond := [Jvm.Cond.code x code maxLocals ret, Jvm.Cond.code ({ cls := "com/example/fianza/fianza/InputExceptionInPinLaw", name := "str", desc := "(ICC)Ljava/lang/String;" } : Jvm.MethodName) method_2_code (3 : Nat) (Option.some (Jvm.ClassFile.FieldType.object "java/lang/String")), Jvm.Cond.code ({ cls := "java/lang/String", name := "<init>", desc := "([C)V" } : Jvm.MethodName) jdk_42_method_3_code (2 : Nat) (Option.none : Option Jvm.ClassFile.FieldType), Jvm.Cond.code ({ cls := "java/lang/String", name := "<init>", desc := "([CIILjava/lang/Void;)V" } : Jvm.MethodName) jdk_42_method_149_code (6 : Nat) (Option.none : Option Jvm.ClassFile.FieldType), Jvm.Cond.code ({ cls := "java/lang/Object", name := "<init>", desc := "()V" } : Jvm.MethodName) object_method_1_code (1 : Nat) (Option.none : Option Jvm.ClassFile.FieldType), Jvm.Cond.code ({ cls := "com/example/fianza/fianza/InputException", name := "in", desc := "(Ljava/lang/String;Ljava/lang/String;)Lcom/example/fianza/fianza/InputException;" } : Jvm.MethodName) prog_25_method_2_code (2 : Nat) (Option.some (Jvm.ClassFile.FieldType.object "com/example/fianza/fianza/InputException")), Jvm.Cond.code ({ cls := "java/lang/StringBuilder", name := "<init>", desc := "()V" } : Jvm.MethodName) jdk_67_method_1_code (1 : Nat) (Option.none : Option Jvm.ClassFile.FieldType), Jvm.Cond.code ({ cls := "java/lang/AbstractStringBuilder", name := "<init>", desc := "(I)V" } : Jvm.MethodName) jdk_68_method_2_code (2 : Nat) (Option.none : Option Jvm.ClassFile.FieldType), Jvm.Cond.code ({ cls := "java/lang/StringBuilder", name := "append", desc := "(Ljava/lang/String;)Ljava/lang/StringBuilder;" } : Jvm.MethodName) jdk_67_method_7_code (2 : Nat) (Option.some (Jvm.ClassFile.FieldType.object "java/lang/StringBuilder")), Jvm.Cond.code ({ cls := "java/lang/AbstractStringBuilder", name := "append", desc := "(Ljava/lang/String;)Ljava/lang/AbstractStringBuilder;" } : Jvm.MethodName) jdk_68_method_22_code (3 : Nat) (Option.some (Jvm.ClassFile.FieldType.object "java/lang/AbstractStringBuilder")), Jvm.Cond.code ({ cls := "java/lang/String", name := "length", desc := "()I" } : Jvm.MethodName) jdk_42_method_54_code (1 : Nat) (Option.some Jvm.ClassFile.FieldType.int), Jvm.Cond.code ({ cls := "java/lang/String", name := "coder", desc := "()B" } : Jvm.MethodName) jdk_42_method_152_code (1 : Nat) (Option.some Jvm.ClassFile.FieldType.byte), Jvm.Cond.code ({ cls := "java/lang/AbstractStringBuilder", name := "ensureCapacityInternal", desc := "(I)V" } : Jvm.MethodName) jdk_68_method_9_code (3 : Nat) (Option.none : Option Jvm.ClassFile.FieldType), Jvm.Cond.code ({ cls := "java/lang/AbstractStringBuilder", name := "putStringAt", desc := "(ILjava/lang/String;)V" } : Jvm.MethodName) jdk_68_method_73_code (3 : Nat) (Option.none : Option Jvm.ClassFile.FieldType), Jvm.Cond.code ({ cls := "java/lang/AbstractStringBuilder", name := "inflateIfNeededFor", desc := "(Ljava/lang/String;)V" } : Jvm.MethodName) jdk_68_method_71_code (2 : Nat) (Option.none : Option Jvm.ClassFile.FieldType), Jvm.Cond.code ({ cls := "java/lang/String", name := "getBytes", desc := "([BIB)V" } : Jvm.MethodName) jdk_42_method_147_code (4 : Nat) (Option.none : Option Jvm.ClassFile.FieldType), Jvm.Cond.code ({ cls := "java/lang/StringBuilder", name := "toString", desc := "()Ljava/lang/String;" } : Jvm.MethodName) jdk_67_method_42_code (1 : Nat) (Option.some (Jvm.ClassFile.FieldType.object "java/lang/String")), Jvm.Cond.code ({ cls := "java/lang/String", name := "<init>", desc := "(Ljava/lang/StringBuilder;)V" } : Jvm.MethodName) jdk_42_method_53_code (2 : Nat) (Option.none : Option Jvm.ClassFile.FieldType), Jvm.Cond.code ({ cls := "java/lang/String", name := "<init>", desc := "(Ljava/lang/AbstractStringBuilder;Ljava/lang/Void;)V" } : Jvm.MethodName) jdk_42_method_150_code (5 : Nat) (Option.none : Option Jvm.ClassFile.FieldType), Jvm.Cond.code ({ cls := "java/lang/AbstractStringBuilder", name := "getValue", desc := "()[B" } : Jvm.MethodName) jdk_68_method_64_code (1 : Nat) (Option.some (Jvm.ClassFile.FieldType.array Jvm.ClassFile.FieldType.byte)), Jvm.Cond.code ({ cls := "java/lang/StringBuilder", name := "length", desc := "()I" } : Jvm.MethodName) jdk_67_method_93_code (1 : Nat) (Option.some Jvm.ClassFile.FieldType.int), Jvm.Cond.code ({ cls := "java/lang/AbstractStringBuilder", name := "length", desc := "()I" } : Jvm.MethodName) jdk_68_method_6_code (1 : Nat) (Option.some Jvm.ClassFile.FieldType.int), Jvm.Cond.code ({ cls := "java/lang/AbstractStringBuilder", name := "isLatin1", desc := "()Z" } : Jvm.MethodName) jdk_68_method_68_code (1 : Nat) (Option.some Jvm.ClassFile.FieldType.boolean), Jvm.Cond.code ({ cls := "java/util/Arrays", name := "copyOfRange", desc := "([BII)[B" } : Jvm.MethodName) jdk_65_method_132_code (3 : Nat) (Option.some (Jvm.ClassFile.FieldType.array Jvm.ClassFile.FieldType.byte)), Jvm.Cond.code ({ cls := "java/util/Arrays", name := "copyOfRangeByte", desc := "([BII)[B" } : Jvm.MethodName) jdk_65_method_133_code (5 : Nat) (Option.some (Jvm.ClassFile.FieldType.array Jvm.ClassFile.FieldType.byte)), Jvm.Cond.code ({ cls := "java/util/Arrays", name := "checkLength", desc := "(II)V" } : Jvm.MethodName) jdk_65_method_131_code (2 : Nat) (Option.none : Option Jvm.ClassFile.FieldType), Jvm.Cond.code ({ cls := "java/lang/Math", name := "min", desc := "(II)I" } : Jvm.MethodName) jdk_29_method_69_code (2 : Nat) (Option.some Jvm.ClassFile.FieldType.int), Jvm.Cond.code ({ cls := "com/example/fianza/fianza/InputException", name := "<init>", desc := "(Ljava/lang/String;)V" } : Jvm.MethodName) prog_25_method_1_code (2 : Nat) (Option.none : Option Jvm.ClassFile.FieldType), Jvm.Cond.code ({ cls := "java/lang/RuntimeException", name := "<init>", desc := "(Ljava/lang/String;)V" } : Jvm.MethodName) jdk_58_method_2_code (2 : Nat) (Option.none : Option Jvm.ClassFile.FieldType), Jvm.Cond.code ({ cls := "java/lang/Exception", name := "<init>", desc := "(Ljava/lang/String;)V" } : Jvm.MethodName) jdk_59_method_2_code (2 : Nat) (Option.none : Option Jvm.ClassFile.FieldType), Jvm.Cond.code ({ cls := "java/lang/Throwable", name := "<init>", desc := "(Ljava/lang/String;)V" } : Jvm.MethodName) jdk_78_method_2_code (2 : Nat) (Option.none : Option Jvm.ClassFile.FieldType), Jvm.Cond.code ({ cls := "java/lang/Throwable", name := "<init>", desc := "()V" } : Jvm.MethodName) jdk_78_method_1_code (1 : Nat) (Option.none : Option Jvm.ClassFile.FieldType), Jvm.Cond.code ({ cls := "java/lang/Throwable", name := "getMessage", desc := "()Ljava/lang/String;" } : Jvm.MethodName) jdk_78_method_6_code (1 : Nat) (Option.some (Jvm.ClassFile.FieldType.object "java/lang/String")), Jvm.Cond.code ({ cls := "java/lang/String", name := "charAt", desc := "(I)C" } : Jvm.MethodName) jdk_42_method_56_code (2 : Nat) (Option.some Jvm.ClassFile.FieldType.char), Jvm.Cond.code ({ cls := "java/lang/String", name := "isLatin1", desc := "()Z" } : Jvm.MethodName) jdk_42_method_154_code (1 : Nat) (Option.some Jvm.ClassFile.FieldType.boolean), Jvm.Cond.code ({ cls := "java/lang/StringLatin1", name := "charAt", desc := "([BI)C" } : Jvm.MethodName) jdk_43_method_2_code (2 : Nat) (Option.some Jvm.ClassFile.FieldType.char), Jvm.Cond.code ({ cls := "java/lang/String", name := "checkIndex", desc := "(II)V" } : Jvm.MethodName) jdk_42_method_155_code (2 : Nat) (Option.none : Option Jvm.ClassFile.FieldType), Jvm.Cond.code ({ cls := "jdk/internal/util/Preconditions", name := "checkIndex", desc := "(IILjava/util/function/BiFunction;)I" } : Jvm.MethodName) jdk_41_method_11_code (3 : Nat) (Option.some Jvm.ClassFile.FieldType.int), Jvm.Cond.code ({ cls := "java/lang/StringUTF16", name := "compress", desc := "([CII)[B" } : Jvm.MethodName) jdk_52_method_16_code (6 : Nat) (Option.some (Jvm.ClassFile.FieldType.array Jvm.ClassFile.FieldType.byte)), Jvm.Cond.code ({ cls := "java/lang/StringUTF16", name := "compress", desc := "([CI[BII)I" } : Jvm.MethodName) jdk_52_method_21_code (7 : Nat) (Option.some Jvm.ClassFile.FieldType.int), Jvm.Cond.code ({ cls := "java/lang/StringUTF16", name := "coderFromArrayLen", desc := "([BI)B" } : Jvm.MethodName) jdk_52_method_15_code (2 : Nat) (Option.some Jvm.ClassFile.FieldType.byte)]
set_option maxRecDepth 65536 in
theorem codes_eq : words1.filter isCode = codes1 := rfl
theorem w_codes : ∀ c ∈ words1.filter isCode, c.before args0 about1 = true := by
  rw [codes_eq]
  intro c hc
  simp only [codes1, List.mem_cons, List.not_mem_nil, or_false] at hc
  rcases hc with rfl | rfl | rfl | rfl | rfl | rfl | rfl | rfl | rfl | rfl | rfl | rfl | rfl | rfl | rfl | rfl | rfl | rfl | rfl | rfl | rfl | rfl | rfl | rfl | rfl | rfl | rfl | rfl | rfl | rfl | rfl | rfl | rfl | rfl | rfl | rfl | rfl | rfl | rfl | rfl | rfl
  · exact w_c0
  · exact w_c1
  · exact w_c2
  · exact w_c3
  · exact w_c4
  · exact w_c5
  · exact w_c6
  · exact w_c7
  · exact w_c8
  · exact w_c9
  · exact w_c10
  · exact w_c11
  · exact w_c12
  · exact w_c13
  · exact w_c14
  · exact w_c15
  · exact w_c16
  · exact w_c17
  · exact w_c18
  · exact w_c19
  · exact w_c20
  · exact w_c21
  · exact w_c22
  · exact w_c23
  · exact w_c24
  · exact w_c25
  · exact w_c26
  · exact w_c27
  · exact w_c28
  · exact w_c29
  · exact w_c30
  · exact w_c31
  · exact w_c32
  · exact w_c33
  · exact w_c34
  · exact w_c35
  · exact w_c36
  · exact w_c37
  · exact w_c38
  · exact w_c39
  · exact w_c40
set_option maxRecDepth 65536 in
theorem w_t1 : (words1.take 24).all (fun c => isCode c || c.before args0 about1) = true := by decide +kernel
set_option maxRecDepth 65536 in
theorem w_t2 : ((words1.drop 24).take 24).all (fun c => isCode c || c.before args0 about1) = true := by decide +kernel
set_option maxRecDepth 65536 in
theorem w_t3 : (((words1.drop 24).drop 24).take 24).all (fun c => isCode c || c.before args0 about1) = true := by decide +kernel
set_option maxRecDepth 65536 in
theorem w_t4 : ((((words1.drop 24).drop 24).drop 24).take 24).all (fun c => isCode c || c.before args0 about1) = true := by decide +kernel
set_option maxRecDepth 65536 in
theorem w_t5 : (((((words1.drop 24).drop 24).drop 24).drop 24).take 24).all (fun c => isCode c || c.before args0 about1) = true := by decide +kernel
set_option maxRecDepth 65536 in
theorem w_t6 : ((((((words1.drop 24).drop 24).drop 24).drop 24).drop 24).take 24).all (fun c => isCode c || c.before args0 about1) = true := by decide +kernel
set_option maxRecDepth 65536 in
theorem w_t7 : (((((((words1.drop 24).drop 24).drop 24).drop 24).drop 24).drop 24).take 24).all (fun c => isCode c || c.before args0 about1) = true := by decide +kernel
set_option maxRecDepth 65536 in
theorem w_t8 : ((((((((words1.drop 24).drop 24).drop 24).drop 24).drop 24).drop 24).drop 24).take 24).all (fun c => isCode c || c.before args0 about1) = true := by decide +kernel
set_option maxRecDepth 65536 in
theorem w_t9 : (((((((((words1.drop 24).drop 24).drop 24).drop 24).drop 24).drop 24).drop 24).drop 24).take 24).all (fun c => isCode c || c.before args0 about1) = true := by decide +kernel
set_option maxRecDepth 65536 in
theorem w_t10 : ((((((((((words1.drop 24).drop 24).drop 24).drop 24).drop 24).drop 24).drop 24).drop 24).drop 24).take 24).all (fun c => isCode c || c.before args0 about1) = true := by decide +kernel
set_option maxRecDepth 65536 in
theorem w_t11 : ((((((((((words1.drop 24).drop 24).drop 24).drop 24).drop 24).drop 24).drop 24).drop 24).drop 24).drop 24).all (fun c => isCode c || c.before args0 about1) = true := by decide +kernel
theorem w_tables : (allAtoms (Jvm.Cond.code x code maxLocals ret :: tables_1)).before args0 about1 = true := by
  rw [allAtoms_all]
  show words1.all (fun c => c.before args0 about1) = true
  refine all_split ?_ w_codes
  rw [← List.take_append_drop 24 words1, List.all_append, w_t1, ← List.take_append_drop 24 (words1.drop 24), List.all_append, w_t2, ← List.take_append_drop 24 ((words1.drop 24).drop 24), List.all_append, w_t3, ← List.take_append_drop 24 (((words1.drop 24).drop 24).drop 24), List.all_append, w_t4, ← List.take_append_drop 24 ((((words1.drop 24).drop 24).drop 24).drop 24), List.all_append, w_t5, ← List.take_append_drop 24 (((((words1.drop 24).drop 24).drop 24).drop 24).drop 24), List.all_append, w_t6, ← List.take_append_drop 24 ((((((words1.drop 24).drop 24).drop 24).drop 24).drop 24).drop 24), List.all_append, w_t7, ← List.take_append_drop 24 (((((((words1.drop 24).drop 24).drop 24).drop 24).drop 24).drop 24).drop 24), List.all_append, w_t8, ← List.take_append_drop 24 ((((((((words1.drop 24).drop 24).drop 24).drop 24).drop 24).drop 24).drop 24).drop 24), List.all_append, w_t9, ← List.take_append_drop 24 (((((((((words1.drop 24).drop 24).drop 24).drop 24).drop 24).drop 24).drop 24).drop 24).drop 24), List.all_append, w_t10, w_t11]
  rfl
set_option maxRecDepth 65536 in
theorem w_rest : rest_1_c.before args0 about1 = true := by decide +kernel
set_option maxRecDepth 65536 in
theorem w_case : (Jvm.Cond.and given_1 narrow_1).before args0 about1 = true := by decide +kernel
set_option maxRecDepth 65536 in
theorem w_consts : constsHeld consts_1 about1 := Jvm.Lit.constsHeldB_iff.mp (by decide +kernel)
theorem w_applies : (headSpec (Jvm.Cond.code x code maxLocals ret :: tables_1) room_1).applies x e0.platform about1 = true :=
  (Spec.applies_iff w_frames).mpr ⟨w_running, w_runnable, w_alone, w_named, w_hears, w_ripe, w_room, w_tables⟩
theorem atStart : AtStart classFile x code maxLocals ret World_1 tables_1 room_1 Calls_1 rest_1 Pre_1 launch0 p0 e0 about1 theMethod args0 below0 :=
  ⟨lists_1, trivial, launch0.admits_env _ _ _, launch0.least_env, fairChoices_fair.cas, fairChoices_fair.clock, w_frames, w_args, w_heap, w_applies, ⟨(by decide +kernel : framesKnown about1 = true), ⟨(by decide +kernel : tablesKnown about1 = true), ⟨w_consts, trivial⟩⟩⟩, w_rest, w_case⟩
end start1
theorem witness_1 : WitnessClaimed_1 := ⟨start1.p0, start1.e0, start1.about1, start1.theMethod, start1.args0, start1.below0, start1.atStart⟩
end Jvm.Pilot.@@N@@
