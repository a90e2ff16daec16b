import JvmDerived
import JvmDerived.Pilot.@@N@@Statement
import JvmDerived.Pilot.@@N@@Code
set_option linter.unusedVariables false
set_option linter.unusedSimpArgs false
namespace Jvm.OwnL
open Sem ClassFile Op Lib Bundle Jvm.Stand Jvm.Free Jvm.LawKit Jvm.RoadKit
/-- where a walk stands: the tables v at hand (String constants of EL, if loaded, hold their text), the heap h (the entry heap h0 but for ws and what is new; the case's own start unchanged), what is safely no constant's cell (sf), and the frame -/
def Wl (Z : State) (a0 : Array Value) (own : String) (p : Program) (l : Launch) (e : Env) (R : Room) (s : State) (m : MethodId) (args : Array Value) (below : List Frame) (meth : Method) (c : Code) (code : ByteArray) (mx : Nat) (B : State) (EL : List (String × Nat)) (h0 : Heap) (n0 : Nat) (ws sf : List Addr) (h : Heap) (cells slots pc : Nat) (L : Array Slot) (S : List Value) : Prop :=
  (p.tables.exec = Jvm.exec ∧ c.code = code ∧ c.maxLocals = mx ∧ EW Z a0 EL) ∧ (Old Z n0 h ∧ Keep h0 h ws ∧ (∀ x ∈ ws, n0 ≤ x) ∧ n0 ≤ h0.size ∧ s.heap = h0) ∧
    ∃ (v : Vm) (k0 : Nat) (T : State) (locs : List Loc), Stand p l e R (s.setVm v) m args below meth c T locs cells slots ∧ (s.Since v k0 ∧ k0 ≤ h.size ∧ Z.Warmed39 v ∧ v.findClass own = some m.cls) ∧ (CHr Z EL s.vm h0 v h ∧ ∀ x ∈ sf, x < h.size ∧ Safe Z EL v h x) ∧ Fr n0 locs ∧ T.heap = h ∧ ∀ t, Steps p.tables e below (T.setTop (mkF m pc L S)) t → Steps p.tables e below B t
section OwnL
variable {Z : State} {own : String} {p : Program} {l : Launch} {e : Env} {R : Room} {s : State} {m : MethodId} {args : Array Value} {below : List Frame} {meth : Method} {c : Code} {code : ByteArray} {mx : Nat} {B : State} {EL : List (String × Nat)} {h0 : Heap} {n0 : Nat} {ws sf : List Addr} {h h' : Heap} {cells slots pc : Nat} {L L' : Array Slot} {S : List Value} {a0 : Array Value}
theorem safeNew {v : Vm} (E : Ext h h') (H : CHv Z EL v h) (F : ∀ x ∈ sf, x < h.size ∧ Safe Z EL v h x) (lt : h.size < h'.size) : ∀ x ∈ h.size :: sf, x < h'.size ∧ Safe Z EL v h' x := fun x q => by
  rcases List.mem_cons.mp q with rfl | q
  · exact ⟨lt, (Safe.new (Nat.le_refl _)).ext E H⟩
  · exact ⟨Nat.lt_of_lt_of_le (F x q).1 E.1, (F x q).2.ext E H⟩
theorem safeKeep {v : Vm} {wsC : List Addr} (K : Keep h h' wsC) (hs : ∀ x ∈ wsC, Safe Z EL v h x) (H : CHv Z EL v h) (F : ∀ x ∈ sf, x < h.size ∧ Safe Z EL v h x) : ∀ x ∈ sf, x < h'.size ∧ Safe Z EL v h' x := fun x q =>
  ⟨Nat.lt_of_lt_of_le (F x q).1 K.1, (F x q).2.keep K hs H⟩
theorem Wl.keep0 (G : Wl Z a0 own p l e R s m args below meth c code mx B EL h0 n0 ws sf h cells slots pc L S) : Keep h0 h ws := G.2.1.2.1
theorem Wl.old (G : Wl Z a0 own p l e R s m args below meth c code mx B EL h0 n0 ws sf h cells slots pc L S) : Old Z n0 h := G.2.1.1
theorem Wl.n0le (G : Wl Z a0 own p l e R s m args below meth c code mx B EL h0 n0 ws sf h cells slots pc L S) : n0 ≤ h.size := Nat.le_trans G.2.1.2.2.2.1 G.2.1.2.1.1
theorem Wl.sz (G : Wl Z a0 own p l e R s m args below meth c code mx B EL h0 n0 ws sf h cells slots pc L S) : h0.size ≤ h.size := G.2.1.2.1.1
theorem Wl.nw (G : Wl Z a0 own p l e R s m args below meth c code mx B EL h0 n0 ws sf h cells slots pc L S) {x : Addr} (q : x ∈ ws ∨ h0.size ≤ x) : n0 ≤ x := q.elim (G.2.1.2.2.1 x) (Nat.le_trans G.2.1.2.2.2.1)
theorem Wl.sta {C n d : String} {v : Value} (G : Wl Z a0 own p l e R s m args below meth c code mx B EL h0 n0 ws sf h cells slots pc L S) (F : Sta Z Z.heap C n d v) : Sta Z h C n d v := F.ext G.2.1.1.2
theorem Wl.plain {pc' : Nat} {S' : List Value} (G : Wl Z a0 own p l e R s m args below meth c code mx B EL h0 n0 ws sf h cells slots pc L S) (st : ∀ T : State, At T m c below → p.tables.exec = Jvm.exec → c.code = code → ∀ t, Steps p.tables e below (T.setTop (mkF m pc' L' S')) t → Steps p.tables e below (T.setTop (mkF m pc L S)) t) : Wl Z a0 own p l e R s m args below meth c code mx B EL h0 n0 ws sf h cells slots pc' L' (S') := by
  obtain ⟨a, b, v, k0, T, locs, X, x1, x2, N, eT, k⟩ := G
  exact ⟨a, b, v, k0, T, locs, X, x1, x2, N, eT, fun t q => k t (st T X.here a.1 a.2.1 t q)⟩
theorem Wl.nameI {x : Int32} (G : Wl Z a0 own p l e R s m args below meth c code mx B EL h0 n0 ws sf h cells slots pc L (.int x :: S)) : ∃ v, v = x ∧ Wl Z a0 own p l e R s m args below meth c code mx B EL h0 n0 ws sf h cells slots pc L (.int v :: S) := ⟨x, rfl, G⟩
theorem Wl.nameJ {x : Int64} (G : Wl Z a0 own p l e R s m args below meth c code mx B EL h0 n0 ws sf h cells slots pc L (.long x :: S)) : ∃ v, v = x ∧ Wl Z a0 own p l e R s m args below meth c code mx B EL h0 n0 ws sf h cells slots pc L (.long v :: S) := ⟨x, rfl, G⟩
theorem Wl.top {x y : Value} (G : Wl Z a0 own p l e R s m args below meth c code mx B EL h0 n0 ws sf h cells slots pc L (x :: S)) (q : x = y) : Wl Z a0 own p l e R s m args below meth c code mx B EL h0 n0 ws sf h cells slots pc L (y :: S) := q ▸ G
theorem Wl.cast {L' : Array Slot} {S' : List Value} (G : Wl Z a0 own p l e R s m args below meth c code mx B EL h0 n0 ws sf h cells slots pc L S) (q : L = L') (r : S = S') : Wl Z a0 own p l e R s m args below meth c code mx B EL h0 n0 ws sf h cells slots pc L' (S') := q ▸ r ▸ G
theorem Wl.more (G : Wl Z a0 own p l e R s m args below meth c code mx B EL h0 n0 ws sf h cells slots pc L S) {k n : Nat} (h1 : cells ≤ k) (h2 : slots ≤ n) : Wl Z a0 own p l e R s m args below meth c code mx B EL h0 n0 ws sf h k n pc L S := by
  obtain ⟨a, b, v, k0, T, locs, X, r⟩ := G
  exact ⟨a, b, v, k0, T, locs, X.more h1 h2, r⟩
theorem Wl.less {sf' : List Addr} (G : Wl Z a0 own p l e R s m args below meth c code mx B EL h0 n0 ws sf h cells slots pc L S) (q : ∀ x ∈ sf', x ∈ sf) : Wl Z a0 own p l e R s m args below meth c code mx B EL h0 n0 ws sf' h cells slots pc L S := by
  obtain ⟨a, b, v, k0, T, locs, X, x1, x2, r⟩ := G
  exact ⟨a, b, v, k0, T, locs, X, x1, ⟨x2.1, fun x y => x2.2 x (q x y)⟩, r⟩
theorem Wl.aload {k : Nat} {v : Value} (G : Wl Z a0 own p l e R s m args below meth c code mx B EL h0 n0 ws sf h cells slots pc L S) (pc' : Nat) (hd : decode code pc = .ok (.aload k, 2)) (hl : L[k]? = some (.val v)) (hv : v.isRef = true) (hp : pc + 2 = pc') : Wl Z a0 own p l e R s m args below meth c code mx B EL h0 n0 ws sf h cells slots pc' L (v :: S) :=
  G.plain fun T H hx hy t k => XS.aload (g := mkF m pc L (S)) H hx rfl (by rw [hy]; exact hd) hl hv (by subst hp; exact k)
theorem Wl.aloadN {k : Fin 4} {v : Value} (G : Wl Z a0 own p l e R s m args below meth c code mx B EL h0 n0 ws sf h cells slots pc L S) (pc' : Nat) (hd : decode code pc = .ok (.aload_n k, 1)) (hl : L[k.val]? = some (.val v)) (hv : v.isRef = true) (hp : pc + 1 = pc') : Wl Z a0 own p l e R s m args below meth c code mx B EL h0 n0 ws sf h cells slots pc' L (v :: S) :=
  G.plain fun T H hx hy t k => XS.aloadN (g := mkF m pc L (S)) H hx rfl (by rw [hy]; exact hd) hl hv (by subst hp; exact k)
theorem Wl.iload {k : Nat} {v : Int32} (G : Wl Z a0 own p l e R s m args below meth c code mx B EL h0 n0 ws sf h cells slots pc L S) (pc' : Nat) (hd : decode code pc = .ok (.iload k, 2)) (hl : L[k]? = some (.val (.int v))) (hp : pc + 2 = pc') : Wl Z a0 own p l e R s m args below meth c code mx B EL h0 n0 ws sf h cells slots pc' L (.int v :: S) :=
  G.plain fun T H hx hy t k => XS.iload (g := mkF m pc L (S)) H hx rfl (by rw [hy]; exact hd) hl (by subst hp; exact k)
theorem Wl.iloadN {k : Fin 4} {v : Int32} (G : Wl Z a0 own p l e R s m args below meth c code mx B EL h0 n0 ws sf h cells slots pc L S) (pc' : Nat) (hd : decode code pc = .ok (.iload_n k, 1)) (hl : L[k.val]? = some (.val (.int v))) (hp : pc + 1 = pc') : Wl Z a0 own p l e R s m args below meth c code mx B EL h0 n0 ws sf h cells slots pc' L (.int v :: S) :=
  G.plain fun T H hx hy t k => XS.iloadN (g := mkF m pc L (S)) H hx rfl (by rw [hy]; exact hd) hl (by subst hp; exact k)
theorem Wl.lload {k : Nat} {v : Int64} (G : Wl Z a0 own p l e R s m args below meth c code mx B EL h0 n0 ws sf h cells slots pc L S) (pc' : Nat) (hd : decode code pc = .ok (.lload k, 2)) (hl : L[k]? = some (.val (.long v))) (hp : pc + 2 = pc') : Wl Z a0 own p l e R s m args below meth c code mx B EL h0 n0 ws sf h cells slots pc' L (.long v :: S) :=
  G.plain fun T H hx hy t k => XT.lload (g := mkF m pc L (S)) H hx rfl (by rw [hy]; exact hd) hl (by subst hp; exact k)
theorem Wl.lloadN {k : Fin 4} {v : Int64} (G : Wl Z a0 own p l e R s m args below meth c code mx B EL h0 n0 ws sf h cells slots pc L S) (pc' : Nat) (hd : decode code pc = .ok (.lload_n k, 1)) (hl : L[k.val]? = some (.val (.long v))) (hp : pc + 1 = pc') : Wl Z a0 own p l e R s m args below meth c code mx B EL h0 n0 ws sf h cells slots pc' L (.long v :: S) :=
  G.plain fun T H hx hy t k => XT.lloadN (g := mkF m pc L (S)) H hx rfl (by rw [hy]; exact hd) hl (by subst hp; exact k)
theorem Wl.dload {k : Nat} {v : UInt64} (G : Wl Z a0 own p l e R s m args below meth c code mx B EL h0 n0 ws sf h cells slots pc L S) (pc' : Nat) (hd : decode code pc = .ok (.dload k, 2)) (hl : L[k]? = some (.val (.double v))) (hp : pc + 2 = pc') : Wl Z a0 own p l e R s m args below meth c code mx B EL h0 n0 ws sf h cells slots pc' L (.double v :: S) :=
  G.plain fun T H hx hy t k => XS.dload (g := mkF m pc L (S)) H hx rfl (by rw [hy]; exact hd) hl (by subst hp; exact k)
theorem Wl.dloadN {k : Fin 4} {v : UInt64} (G : Wl Z a0 own p l e R s m args below meth c code mx B EL h0 n0 ws sf h cells slots pc L S) (pc' : Nat) (hd : decode code pc = .ok (.dload_n k, 1)) (hl : L[k.val]? = some (.val (.double v))) (hp : pc + 1 = pc') : Wl Z a0 own p l e R s m args below meth c code mx B EL h0 n0 ws sf h cells slots pc' L (.double v :: S) :=
  G.plain fun T H hx hy t k => XS.dloadN (g := mkF m pc L (S)) H hx rfl (by rw [hy]; exact hd) hl (by subst hp; exact k)
theorem Wl.istore {k : Nat} {x : Int32} (G : Wl Z a0 own p l e R s m args below meth c code mx B EL h0 n0 ws sf h cells slots pc L (.int x :: S)) (pc' : Nat) (L' : Array Slot) (hd : decode code pc = .ok (.istore k, 2)) (hl : storeLocals L k (.int x) = some L') (hp : pc + 2 = pc') : Wl Z a0 own p l e R s m args below meth c code mx B EL h0 n0 ws sf h cells slots pc' L' S :=
  G.plain fun T H hx hy t k => XS.istore (g := mkF m pc L (.int x :: S)) H hx rfl (by rw [hy]; exact hd) rfl hl (by subst hp; exact k)
theorem Wl.istoreN {k : Fin 4} {x : Int32} (G : Wl Z a0 own p l e R s m args below meth c code mx B EL h0 n0 ws sf h cells slots pc L (.int x :: S)) (pc' : Nat) (L' : Array Slot) (hd : decode code pc = .ok (.istore_n k, 1)) (hl : storeLocals L k.val (.int x) = some L') (hp : pc + 1 = pc') : Wl Z a0 own p l e R s m args below meth c code mx B EL h0 n0 ws sf h cells slots pc' L' S :=
  G.plain fun T H hx hy t k => XS.istoreN (g := mkF m pc L (.int x :: S)) H hx rfl (by rw [hy]; exact hd) rfl hl (by subst hp; exact k)
theorem Wl.lstore {k : Nat} {x : Int64} (G : Wl Z a0 own p l e R s m args below meth c code mx B EL h0 n0 ws sf h cells slots pc L (.long x :: S)) (pc' : Nat) (L' : Array Slot) (hd : decode code pc = .ok (.lstore k, 2)) (hl : storeLocals L k (.long x) = some L') (hp : pc + 2 = pc') : Wl Z a0 own p l e R s m args below meth c code mx B EL h0 n0 ws sf h cells slots pc' L' S :=
  G.plain fun T H hx hy t k => XT.lstore (g := mkF m pc L (.long x :: S)) H hx rfl (by rw [hy]; exact hd) rfl hl (by subst hp; exact k)
theorem Wl.lstoreN {k : Fin 4} {x : Int64} (G : Wl Z a0 own p l e R s m args below meth c code mx B EL h0 n0 ws sf h cells slots pc L (.long x :: S)) (pc' : Nat) (L' : Array Slot) (hd : decode code pc = .ok (.lstore_n k, 1)) (hl : storeLocals L k.val (.long x) = some L') (hp : pc + 1 = pc') : Wl Z a0 own p l e R s m args below meth c code mx B EL h0 n0 ws sf h cells slots pc' L' S :=
  G.plain fun T H hx hy t k => XT.lstoreN (g := mkF m pc L (.long x :: S)) H hx rfl (by rw [hy]; exact hd) rfl hl (by subst hp; exact k)
theorem Wl.dstore {k : Nat} {x : UInt64} (G : Wl Z a0 own p l e R s m args below meth c code mx B EL h0 n0 ws sf h cells slots pc L (.double x :: S)) (pc' : Nat) (L' : Array Slot) (hd : decode code pc = .ok (.dstore k, 2)) (hl : storeLocals L k (.double x) = some L') (hp : pc + 2 = pc') : Wl Z a0 own p l e R s m args below meth c code mx B EL h0 n0 ws sf h cells slots pc' L' S :=
  G.plain fun T H hx hy t k => XS.dstore (g := mkF m pc L (.double x :: S)) H hx rfl (by rw [hy]; exact hd) rfl hl (by subst hp; exact k)
theorem Wl.dstoreN {k : Fin 4} {x : UInt64} (G : Wl Z a0 own p l e R s m args below meth c code mx B EL h0 n0 ws sf h cells slots pc L (.double x :: S)) (pc' : Nat) (L' : Array Slot) (hd : decode code pc = .ok (.dstore_n k, 1)) (hl : storeLocals L k.val (.double x) = some L') (hp : pc + 1 = pc') : Wl Z a0 own p l e R s m args below meth c code mx B EL h0 n0 ws sf h cells slots pc' L' S :=
  G.plain fun T H hx hy t k => XS.dstoreN (g := mkF m pc L (.double x :: S)) H hx rfl (by rw [hy]; exact hd) rfl hl (by subst hp; exact k)
theorem Wl.astore {k : Nat} {x : Value} (G : Wl Z a0 own p l e R s m args below meth c code mx B EL h0 n0 ws sf h cells slots pc L (x :: S)) (pc' : Nat) (L' : Array Slot) (hd : decode code pc = .ok (.astore k, 2)) (hv : x.isRef = true) (hl : storeLocals L k x = some L') (hp : pc + 2 = pc') : Wl Z a0 own p l e R s m args below meth c code mx B EL h0 n0 ws sf h cells slots pc' L' S :=
  G.plain fun T H hx hy t k => XS.astore (g := mkF m pc L (x :: S)) H hx rfl (by rw [hy]; exact hd) rfl hv hl (by subst hp; exact k)
theorem Wl.astoreN {k : Fin 4} {x : Value} (G : Wl Z a0 own p l e R s m args below meth c code mx B EL h0 n0 ws sf h cells slots pc L (x :: S)) (pc' : Nat) (L' : Array Slot) (hd : decode code pc = .ok (.astore_n k, 1)) (hv : x.isRef = true) (hl : storeLocals L k.val x = some L') (hp : pc + 1 = pc') : Wl Z a0 own p l e R s m args below meth c code mx B EL h0 n0 ws sf h cells slots pc' L' S :=
  G.plain fun T H hx hy t k => XS.astoreN (g := mkF m pc L (x :: S)) H hx rfl (by rw [hy]; exact hd) rfl hv hl (by subst hp; exact k)
theorem Wl.iinc {k : Nat} {cst : Int} {x : Int32} (G : Wl Z a0 own p l e R s m args below meth c code mx B EL h0 n0 ws sf h cells slots pc L S) (pc' : Nat) (L' : Array Slot) (hd : decode code pc = .ok (.iinc k cst, 3)) (hl : L[k]? = some (.val (.int x))) (hl' : storeLocals L k (.int (x + Int32.ofInt cst)) = some L') (hp : pc + 3 = pc') : Wl Z a0 own p l e R s m args below meth c code mx B EL h0 n0 ws sf h cells slots pc' L' S :=
  G.plain fun T H hx hy t k => XS.iinc (g := mkF m pc L (S)) H hx rfl (by rw [hy]; exact hd) hl hl' (by subst hp; exact k)
theorem Wl.iincV {k : Nat} {cst : Int} {x : Int32} (G : Wl Z a0 own p l e R s m args below meth c code mx B EL h0 n0 ws sf h cells slots pc L S) (pc' : Nat) (L' : Array Slot) (y : Int32) (hd : decode code pc = .ok (.iinc k cst, 3)) (hl : L[k]? = some (.val (.int x))) (hv : x + Int32.ofInt cst = y) (hl' : storeLocals L k (.int y) = some L') (hp : pc + 3 = pc') : Wl Z a0 own p l e R s m args below meth c code mx B EL h0 n0 ws sf h cells slots pc' L' S :=
  G.plain fun T H hx hy t k => XS.iinc (g := mkF m pc L (S)) H hx rfl (by rw [hy]; exact hd) hl (by rw [hv]; exact hl') (by subst hp; exact k)
theorem Wl.iconst {i : Int} (G : Wl Z a0 own p l e R s m args below meth c code mx B EL h0 n0 ws sf h cells slots pc L S) (pc' : Nat) (v : Int32) (hd : decode code pc = .ok (.iconst i, 1)) (hv : Int32.ofInt i = v) (hp : pc + 1 = pc') : Wl Z a0 own p l e R s m args below meth c code mx B EL h0 n0 ws sf h cells slots pc' L (.int v :: S) :=
  G.plain fun T H hx hy t k => XS.iconst (g := mkF m pc L (S)) H hx rfl (by rw [hy]; exact hd) (by subst hv hp; exact k)
theorem Wl.bipush {i : Int} (G : Wl Z a0 own p l e R s m args below meth c code mx B EL h0 n0 ws sf h cells slots pc L S) (pc' : Nat) (v : Int32) (hd : decode code pc = .ok (.bipush i, 2)) (hv : (Int8.ofInt i).toInt32 = v) (hp : pc + 2 = pc') : Wl Z a0 own p l e R s m args below meth c code mx B EL h0 n0 ws sf h cells slots pc' L (.int v :: S) :=
  G.plain fun T H hx hy t k => XS.bipush (g := mkF m pc L (S)) H hx rfl (by rw [hy]; exact hd) (by subst hv hp; exact k)
theorem Wl.sipush {i : Int} (G : Wl Z a0 own p l e R s m args below meth c code mx B EL h0 n0 ws sf h cells slots pc L S) (pc' : Nat) (v : Int32) (hd : decode code pc = .ok (.sipush i, 3)) (hv : (Int16.ofInt i).toInt32 = v) (hp : pc + 3 = pc') : Wl Z a0 own p l e R s m args below meth c code mx B EL h0 n0 ws sf h cells slots pc' L (.int v :: S) :=
  G.plain fun T H hx hy t k => XS.sipush (g := mkF m pc L (S)) H hx rfl (by rw [hy]; exact hd) (by subst hv hp; exact k)
theorem Wl.lconst0  (G : Wl Z a0 own p l e R s m args below meth c code mx B EL h0 n0 ws sf h cells slots pc L S) (pc' : Nat) (hd : decode code pc = .ok (.lconst 0, 1)) (hp : pc + 1 = pc') : Wl Z a0 own p l e R s m args below meth c code mx B EL h0 n0 ws sf h cells slots pc' L (.long 0 :: S) :=
  G.plain fun T H hx hy t k => XT.lconst (g := mkF m pc L (S)) H hx rfl (by rw [hy]; exact hd) (by subst hp; exact k)
theorem Wl.lconst1  (G : Wl Z a0 own p l e R s m args below meth c code mx B EL h0 n0 ws sf h cells slots pc L S) (pc' : Nat) (hd : decode code pc = .ok (.lconst 1, 1)) (hp : pc + 1 = pc') : Wl Z a0 own p l e R s m args below meth c code mx B EL h0 n0 ws sf h cells slots pc' L (.long 1 :: S) :=
  G.plain fun T H hx hy t k => XT.lconst (g := mkF m pc L (S)) H hx rfl (by rw [hy]; exact hd) (by subst hp; exact k)
theorem Wl.aconstNull  (G : Wl Z a0 own p l e R s m args below meth c code mx B EL h0 n0 ws sf h cells slots pc L S) (pc' : Nat) (hd : decode code pc = .ok (.aconst_null, 1)) (hp : pc + 1 = pc') : Wl Z a0 own p l e R s m args below meth c code mx B EL h0 n0 ws sf h cells slots pc' L (.null :: S) :=
  G.plain fun T H hx hy t k => XS.aconstNull (g := mkF m pc L (S)) H hx rfl (by rw [hy]; exact hd) (by subst hp; exact k)
theorem Wl.iadd {x y : Int32} (G : Wl Z a0 own p l e R s m args below meth c code mx B EL h0 n0 ws sf h cells slots pc L (.int y :: .int x :: S)) (pc' : Nat) (hd : decode code pc = .ok (.iadd, 1)) (hp : pc + 1 = pc') : Wl Z a0 own p l e R s m args below meth c code mx B EL h0 n0 ws sf h cells slots pc' L (.int (x + y) :: S) :=
  G.plain fun T H hx hy t k => XS.iadd (g := mkF m pc L (.int y :: .int x :: S)) H hx rfl (by rw [hy]; exact hd) rfl (by subst hp; exact k)
theorem Wl.isub {x y : Int32} (G : Wl Z a0 own p l e R s m args below meth c code mx B EL h0 n0 ws sf h cells slots pc L (.int y :: .int x :: S)) (pc' : Nat) (hd : decode code pc = .ok (.isub, 1)) (hp : pc + 1 = pc') : Wl Z a0 own p l e R s m args below meth c code mx B EL h0 n0 ws sf h cells slots pc' L (.int (x - y) :: S) :=
  G.plain fun T H hx hy t k => XS.isub (g := mkF m pc L (.int y :: .int x :: S)) H hx rfl (by rw [hy]; exact hd) rfl (by subst hp; exact k)
theorem Wl.imul {x y : Int32} (G : Wl Z a0 own p l e R s m args below meth c code mx B EL h0 n0 ws sf h cells slots pc L (.int y :: .int x :: S)) (pc' : Nat) (hd : decode code pc = .ok (.imul, 1)) (hp : pc + 1 = pc') : Wl Z a0 own p l e R s m args below meth c code mx B EL h0 n0 ws sf h cells slots pc' L (.int (x * y) :: S) :=
  G.plain fun T H hx hy t k => XS.imul (g := mkF m pc L (.int y :: .int x :: S)) H hx rfl (by rw [hy]; exact hd) rfl (by subst hp; exact k)
theorem Wl.iand {x y : Int32} (G : Wl Z a0 own p l e R s m args below meth c code mx B EL h0 n0 ws sf h cells slots pc L (.int y :: .int x :: S)) (pc' : Nat) (hd : decode code pc = .ok (.iand, 1)) (hp : pc + 1 = pc') : Wl Z a0 own p l e R s m args below meth c code mx B EL h0 n0 ws sf h cells slots pc' L (.int (x &&& y) :: S) :=
  G.plain fun T H hx hy t k => XS.iand (g := mkF m pc L (.int y :: .int x :: S)) H hx rfl (by rw [hy]; exact hd) rfl (by subst hp; exact k)
theorem Wl.ior {x y : Int32} (G : Wl Z a0 own p l e R s m args below meth c code mx B EL h0 n0 ws sf h cells slots pc L (.int y :: .int x :: S)) (pc' : Nat) (hd : decode code pc = .ok (.ior, 1)) (hp : pc + 1 = pc') : Wl Z a0 own p l e R s m args below meth c code mx B EL h0 n0 ws sf h cells slots pc' L (.int (x ||| y) :: S) :=
  G.plain fun T H hx hy t k => XT.ior (g := mkF m pc L (.int y :: .int x :: S)) H hx rfl (by rw [hy]; exact hd) rfl (by subst hp; exact k)
theorem Wl.ixor {x y : Int32} (G : Wl Z a0 own p l e R s m args below meth c code mx B EL h0 n0 ws sf h cells slots pc L (.int y :: .int x :: S)) (pc' : Nat) (hd : decode code pc = .ok (.ixor, 1)) (hp : pc + 1 = pc') : Wl Z a0 own p l e R s m args below meth c code mx B EL h0 n0 ws sf h cells slots pc' L (.int (x ^^^ y) :: S) :=
  G.plain fun T H hx hy t k => XT.ixor (g := mkF m pc L (.int y :: .int x :: S)) H hx rfl (by rw [hy]; exact hd) rfl (by subst hp; exact k)
theorem Wl.ishl {x y : Int32} (G : Wl Z a0 own p l e R s m args below meth c code mx B EL h0 n0 ws sf h cells slots pc L (.int y :: .int x :: S)) (pc' : Nat) (hd : decode code pc = .ok (.ishl, 1)) (hp : pc + 1 = pc') : Wl Z a0 own p l e R s m args below meth c code mx B EL h0 n0 ws sf h cells slots pc' L (.int (x <<< (y &&& 31)) :: S) :=
  G.plain fun T H hx hy t k => XT.ishl (g := mkF m pc L (.int y :: .int x :: S)) H hx rfl (by rw [hy]; exact hd) rfl (by subst hp; exact k)
theorem Wl.ishr {x y : Int32} (G : Wl Z a0 own p l e R s m args below meth c code mx B EL h0 n0 ws sf h cells slots pc L (.int y :: .int x :: S)) (pc' : Nat) (hd : decode code pc = .ok (.ishr, 1)) (hp : pc + 1 = pc') : Wl Z a0 own p l e R s m args below meth c code mx B EL h0 n0 ws sf h cells slots pc' L (.int (x >>> (y &&& 31)) :: S) :=
  G.plain fun T H hx hy t k => XT.ishr (g := mkF m pc L (.int y :: .int x :: S)) H hx rfl (by rw [hy]; exact hd) rfl (by subst hp; exact k)
theorem Wl.iushr {x y : Int32} (G : Wl Z a0 own p l e R s m args below meth c code mx B EL h0 n0 ws sf h cells slots pc L (.int y :: .int x :: S)) (pc' : Nat) (hd : decode code pc = .ok (.iushr, 1)) (hp : pc + 1 = pc') : Wl Z a0 own p l e R s m args below meth c code mx B EL h0 n0 ws sf h cells slots pc' L (.int (XT.ushr x y) :: S) :=
  G.plain fun T H hx hy t k => XT.iushr (g := mkF m pc L (.int y :: .int x :: S)) H hx rfl (by rw [hy]; exact hd) rfl (by subst hp; exact k)
theorem Wl.idiv {x y : Int32} (G : Wl Z a0 own p l e R s m args below meth c code mx B EL h0 n0 ws sf h cells slots pc L (.int y :: .int x :: S)) (pc' : Nat) (hd : decode code pc = .ok (.idiv, 1)) (hy0 : y ≠ 0) (hp : pc + 1 = pc') : Wl Z a0 own p l e R s m args below meth c code mx B EL h0 n0 ws sf h cells slots pc' L (.int (x / y) :: S) :=
  G.plain fun T H hx hy t k => XS.idiv (g := mkF m pc L (.int y :: .int x :: S)) H hx rfl (by rw [hy]; exact hd) rfl hy0 (by subst hp; exact k)
theorem Wl.irem {x y : Int32} (G : Wl Z a0 own p l e R s m args below meth c code mx B EL h0 n0 ws sf h cells slots pc L (.int y :: .int x :: S)) (pc' : Nat) (hd : decode code pc = .ok (.irem, 1)) (hy0 : y ≠ 0) (hp : pc + 1 = pc') : Wl Z a0 own p l e R s m args below meth c code mx B EL h0 n0 ws sf h cells slots pc' L (.int (x - (x / y) * y) :: S) :=
  G.plain fun T H hx hy t k => XS.irem (g := mkF m pc L (.int y :: .int x :: S)) H hx rfl (by rw [hy]; exact hd) rfl hy0 (by subst hp; exact k)
theorem Wl.ineg {x : Int32} (G : Wl Z a0 own p l e R s m args below meth c code mx B EL h0 n0 ws sf h cells slots pc L (.int x :: S)) (pc' : Nat) (hd : decode code pc = .ok (.ineg, 1)) (hp : pc + 1 = pc') : Wl Z a0 own p l e R s m args below meth c code mx B EL h0 n0 ws sf h cells slots pc' L (.int (-x) :: S) :=
  G.plain fun T H hx hy t k => XS.ineg (g := mkF m pc L (.int x :: S)) H hx rfl (by rw [hy]; exact hd) rfl (by subst hp; exact k)
theorem Wl.ladd {x y : Int64} (G : Wl Z a0 own p l e R s m args below meth c code mx B EL h0 n0 ws sf h cells slots pc L (.long y :: .long x :: S)) (pc' : Nat) (hd : decode code pc = .ok (.ladd, 1)) (hp : pc + 1 = pc') : Wl Z a0 own p l e R s m args below meth c code mx B EL h0 n0 ws sf h cells slots pc' L (.long (x + y) :: S) :=
  G.plain fun T H hx hy t k => XT.ladd (g := mkF m pc L (.long y :: .long x :: S)) H hx rfl (by rw [hy]; exact hd) rfl (by subst hp; exact k)
theorem Wl.lsub {x y : Int64} (G : Wl Z a0 own p l e R s m args below meth c code mx B EL h0 n0 ws sf h cells slots pc L (.long y :: .long x :: S)) (pc' : Nat) (hd : decode code pc = .ok (.lsub, 1)) (hp : pc + 1 = pc') : Wl Z a0 own p l e R s m args below meth c code mx B EL h0 n0 ws sf h cells slots pc' L (.long (x - y) :: S) :=
  G.plain fun T H hx hy t k => XT.lsub (g := mkF m pc L (.long y :: .long x :: S)) H hx rfl (by rw [hy]; exact hd) rfl (by subst hp; exact k)
theorem Wl.lmul {x y : Int64} (G : Wl Z a0 own p l e R s m args below meth c code mx B EL h0 n0 ws sf h cells slots pc L (.long y :: .long x :: S)) (pc' : Nat) (hd : decode code pc = .ok (.lmul, 1)) (hp : pc + 1 = pc') : Wl Z a0 own p l e R s m args below meth c code mx B EL h0 n0 ws sf h cells slots pc' L (.long (x * y) :: S) :=
  G.plain fun T H hx hy t k => XT.lmul (g := mkF m pc L (.long y :: .long x :: S)) H hx rfl (by rw [hy]; exact hd) rfl (by subst hp; exact k)
theorem Wl.land {x y : Int64} (G : Wl Z a0 own p l e R s m args below meth c code mx B EL h0 n0 ws sf h cells slots pc L (.long y :: .long x :: S)) (pc' : Nat) (hd : decode code pc = .ok (.land, 1)) (hp : pc + 1 = pc') : Wl Z a0 own p l e R s m args below meth c code mx B EL h0 n0 ws sf h cells slots pc' L (.long (x &&& y) :: S) :=
  G.plain fun T H hx hy t k => XT.land (g := mkF m pc L (.long y :: .long x :: S)) H hx rfl (by rw [hy]; exact hd) rfl (by subst hp; exact k)
theorem Wl.lor {x y : Int64} (G : Wl Z a0 own p l e R s m args below meth c code mx B EL h0 n0 ws sf h cells slots pc L (.long y :: .long x :: S)) (pc' : Nat) (hd : decode code pc = .ok (.lor, 1)) (hp : pc + 1 = pc') : Wl Z a0 own p l e R s m args below meth c code mx B EL h0 n0 ws sf h cells slots pc' L (.long (x ||| y) :: S) :=
  G.plain fun T H hx hy t k => XT.lor (g := mkF m pc L (.long y :: .long x :: S)) H hx rfl (by rw [hy]; exact hd) rfl (by subst hp; exact k)
theorem Wl.lxor {x y : Int64} (G : Wl Z a0 own p l e R s m args below meth c code mx B EL h0 n0 ws sf h cells slots pc L (.long y :: .long x :: S)) (pc' : Nat) (hd : decode code pc = .ok (.lxor, 1)) (hp : pc + 1 = pc') : Wl Z a0 own p l e R s m args below meth c code mx B EL h0 n0 ws sf h cells slots pc' L (.long (x ^^^ y) :: S) :=
  G.plain fun T H hx hy t k => XT.lxor (g := mkF m pc L (.long y :: .long x :: S)) H hx rfl (by rw [hy]; exact hd) rfl (by subst hp; exact k)
theorem Wl.ldiv {x y : Int64} (G : Wl Z a0 own p l e R s m args below meth c code mx B EL h0 n0 ws sf h cells slots pc L (.long y :: .long x :: S)) (pc' : Nat) (hd : decode code pc = .ok (.ldiv, 1)) (hy0 : y ≠ 0) (hp : pc + 1 = pc') : Wl Z a0 own p l e R s m args below meth c code mx B EL h0 n0 ws sf h cells slots pc' L (.long (x / y) :: S) :=
  G.plain fun T H hx hy t k => XT.ldiv (g := mkF m pc L (.long y :: .long x :: S)) H hx rfl (by rw [hy]; exact hd) rfl hy0 (by subst hp; exact k)
theorem Wl.lrem {x y : Int64} (G : Wl Z a0 own p l e R s m args below meth c code mx B EL h0 n0 ws sf h cells slots pc L (.long y :: .long x :: S)) (pc' : Nat) (hd : decode code pc = .ok (.lrem, 1)) (hy0 : y ≠ 0) (hp : pc + 1 = pc') : Wl Z a0 own p l e R s m args below meth c code mx B EL h0 n0 ws sf h cells slots pc' L (.long (x - (x / y) * y) :: S) :=
  G.plain fun T H hx hy t k => XT.lrem (g := mkF m pc L (.long y :: .long x :: S)) H hx rfl (by rw [hy]; exact hd) rfl hy0 (by subst hp; exact k)
theorem Wl.lneg {x : Int64} (G : Wl Z a0 own p l e R s m args below meth c code mx B EL h0 n0 ws sf h cells slots pc L (.long x :: S)) (pc' : Nat) (hd : decode code pc = .ok (.lneg, 1)) (hp : pc + 1 = pc') : Wl Z a0 own p l e R s m args below meth c code mx B EL h0 n0 ws sf h cells slots pc' L (.long (-x) :: S) :=
  G.plain fun T H hx hy t k => XT.lneg (g := mkF m pc L (.long x :: S)) H hx rfl (by rw [hy]; exact hd) rfl (by subst hp; exact k)
theorem Wl.lushr {x : Int64} {y : Int32} (G : Wl Z a0 own p l e R s m args below meth c code mx B EL h0 n0 ws sf h cells slots pc L (.int y :: .long x :: S)) (pc' : Nat) (hd : decode code pc = .ok (.lushr, 1)) (hp : pc + 1 = pc') : Wl Z a0 own p l e R s m args below meth c code mx B EL h0 n0 ws sf h cells slots pc' L (.long (XT.ushrL x y) :: S) :=
  G.plain fun T H hx hy t k => XT.lushr (g := mkF m pc L (.int y :: .long x :: S)) H hx rfl (by rw [hy]; exact hd) rfl (by subst hp; exact k)
theorem Wl.lcmp {x y : Int64} (G : Wl Z a0 own p l e R s m args below meth c code mx B EL h0 n0 ws sf h cells slots pc L (.long y :: .long x :: S)) (pc' : Nat) (hd : decode code pc = .ok (.lcmp, 1)) (hp : pc + 1 = pc') : Wl Z a0 own p l e R s m args below meth c code mx B EL h0 n0 ws sf h cells slots pc' L (.int (XT.cmpL x y) :: S) :=
  G.plain fun T H hx hy t k => XT.lcmp (g := mkF m pc L (.long y :: .long x :: S)) H hx rfl (by rw [hy]; exact hd) rfl (by subst hp; exact k)
theorem Wl.i2l {x : Int32} (G : Wl Z a0 own p l e R s m args below meth c code mx B EL h0 n0 ws sf h cells slots pc L (.int x :: S)) (pc' : Nat) (hd : decode code pc = .ok (.i2l, 1)) (hp : pc + 1 = pc') : Wl Z a0 own p l e R s m args below meth c code mx B EL h0 n0 ws sf h cells slots pc' L (.long x.toInt64 :: S) :=
  G.plain fun T H hx hy t k => XT.i2l (g := mkF m pc L (.int x :: S)) H hx rfl (by rw [hy]; exact hd) rfl (by subst hp; exact k)
theorem Wl.l2i {x : Int64} (G : Wl Z a0 own p l e R s m args below meth c code mx B EL h0 n0 ws sf h cells slots pc L (.long x :: S)) (pc' : Nat) (hd : decode code pc = .ok (.l2i, 1)) (hp : pc + 1 = pc') : Wl Z a0 own p l e R s m args below meth c code mx B EL h0 n0 ws sf h cells slots pc' L (.int x.toInt32 :: S) :=
  G.plain fun T H hx hy t k => XT.l2i (g := mkF m pc L (.long x :: S)) H hx rfl (by rw [hy]; exact hd) rfl (by subst hp; exact k)
theorem Wl.i2b {x : Int32} (G : Wl Z a0 own p l e R s m args below meth c code mx B EL h0 n0 ws sf h cells slots pc L (.int x :: S)) (pc' : Nat) (hd : decode code pc = .ok (.i2b, 1)) (hp : pc + 1 = pc') : Wl Z a0 own p l e R s m args below meth c code mx B EL h0 n0 ws sf h cells slots pc' L (.int x.toInt8.toInt32 :: S) :=
  G.plain fun T H hx hy t k => XT.i2b (g := mkF m pc L (.int x :: S)) H hx rfl (by rw [hy]; exact hd) rfl (by subst hp; exact k)
theorem Wl.i2c {x : Int32} (G : Wl Z a0 own p l e R s m args below meth c code mx B EL h0 n0 ws sf h cells slots pc L (.int x :: S)) (pc' : Nat) (hd : decode code pc = .ok (.i2c, 1)) (hp : pc + 1 = pc') : Wl Z a0 own p l e R s m args below meth c code mx B EL h0 n0 ws sf h cells slots pc' L (.int x.toUInt32.toUInt16.toUInt32.toInt32 :: S) :=
  G.plain fun T H hx hy t k => XT.i2c (g := mkF m pc L (.int x :: S)) H hx rfl (by rw [hy]; exact hd) rfl (by subst hp; exact k)
theorem Wl.dup {x : Value} (G : Wl Z a0 own p l e R s m args below meth c code mx B EL h0 n0 ws sf h cells slots pc L (x :: S)) (pc' : Nat) (hd : decode code pc = .ok (.dup, 1)) (hc : x.category = 1) (hp : pc + 1 = pc') : Wl Z a0 own p l e R s m args below meth c code mx B EL h0 n0 ws sf h cells slots pc' L (x :: x :: S) :=
  G.plain fun T H hx hy t k => XS.dup (g := mkF m pc L (x :: S)) H hx rfl (by rw [hy]; exact hd) rfl hc (by subst hp; exact k)
theorem Wl.pop {x : Value} (G : Wl Z a0 own p l e R s m args below meth c code mx B EL h0 n0 ws sf h cells slots pc L (x :: S)) (pc' : Nat) (hd : decode code pc = .ok (.pop, 1)) (hc : x.category = 1) (hp : pc + 1 = pc') : Wl Z a0 own p l e R s m args below meth c code mx B EL h0 n0 ws sf h cells slots pc' L S :=
  G.plain fun T H hx hy t k => XT.pop (g := mkF m pc L (x :: S)) H hx rfl (by rw [hy]; exact hd) rfl hc (by subst hp; exact k)
theorem Wl.dupX1 {x y : Value} (G : Wl Z a0 own p l e R s m args below meth c code mx B EL h0 n0 ws sf h cells slots pc L (y :: x :: S)) (pc' : Nat) (hd : decode code pc = .ok (.dup_x1, 1)) (hc : y.category = 1) (hc' : x.category = 1) (hp : pc + 1 = pc') : Wl Z a0 own p l e R s m args below meth c code mx B EL h0 n0 ws sf h cells slots pc' L (y :: x :: y :: S) :=
  G.plain fun T H hx hy t k => XT.dupX1 (g := mkF m pc L (y :: x :: S)) H hx rfl (by rw [hy]; exact hd) rfl hc hc' (by subst hp; exact k)
theorem Wl.i2dS {x : Int32} {v : UInt64} (G : Wl Z a0 own p l e R s m args below meth c code mx B EL h0 n0 ws sf h cells slots pc L (.int x :: S)) (pc' : Nat) (hd : decode code pc = .ok (.i2d, 1)) (hv : FP.i2d x = v) (hp : pc + 1 = pc') : Wl Z a0 own p l e R s m args below meth c code mx B EL h0 n0 ws sf h cells slots pc' L (.double v :: S) :=
  G.plain fun T H hx hy t k => XS.i2dS (g := mkF m pc L (.int x :: S)) H hx rfl (by rw [hy]; exact hd) rfl hv (by subst hp; exact k)
theorem Wl.l2dS {x : Int64} {v : UInt64} (G : Wl Z a0 own p l e R s m args below meth c code mx B EL h0 n0 ws sf h cells slots pc L (.long x :: S)) (pc' : Nat) (hd : decode code pc = .ok (.l2d, 1)) (hv : FP.l2d x = v) (hp : pc + 1 = pc') : Wl Z a0 own p l e R s m args below meth c code mx B EL h0 n0 ws sf h cells slots pc' L (.double v :: S) :=
  G.plain fun T H hx hy t k => XS.l2dS (g := mkF m pc L (.long x :: S)) H hx rfl (by rw [hy]; exact hd) rfl hv (by subst hp; exact k)
theorem Wl.daddS {x y v : UInt64} (G : Wl Z a0 own p l e R s m args below meth c code mx B EL h0 n0 ws sf h cells slots pc L (.double y :: .double x :: S)) (pc' : Nat) (hd : decode code pc = .ok (.dadd, 1)) (hn : Jvm.Free.Fl.NoNaN64 (FP.dadd x y)) (hv : FP.dadd x y = v) (hp : pc + 1 = pc') : Wl Z a0 own p l e R s m args below meth c code mx B EL h0 n0 ws sf h cells slots pc' L (.double v :: S) :=
  G.plain fun T H hx hy t k => XS.daddS (g := mkF m pc L (.double y :: .double x :: S)) H hx rfl (by rw [hy]; exact hd) rfl hn hv (by subst hp; exact k)
theorem Wl.dcmpS {o : CmpOp} {x y : UInt64} {v : Int32} (G : Wl Z a0 own p l e R s m args below meth c code mx B EL h0 n0 ws sf h cells slots pc L (.double y :: .double x :: S)) (pc' : Nat) (hd : decode code pc = .ok (.dcmp o, 1)) (hv : cmpValue (FP.dcmp x y) o = v) (hp : pc + 1 = pc') : Wl Z a0 own p l e R s m args below meth c code mx B EL h0 n0 ws sf h cells slots pc' L (.int v :: S) :=
  G.plain fun T H hx hy t k => XS.dcmpS (g := mkF m pc L (.double y :: .double x :: S)) H hx rfl (by rw [hy]; exact hd) rfl hv (by subst hp; exact k)
theorem Wl.goto  {o : Int} (G : Wl Z a0 own p l e R s m args below meth c code mx B EL h0 n0 ws sf h cells slots pc L S) (pc' : Nat) (hd : decode code pc = .ok (.goto o, 3)) (ho : 0 ≤ (pc : Int) + o) (hp : ((pc : Int) + o).toNat = pc') : Wl Z a0 own p l e R s m args below meth c code mx B EL h0 n0 ws sf h cells slots pc' L S :=
  G.plain fun T H hx hy t k => XS.goto (g := mkF m pc L (S)) (pc' := pc') H hx rfl rfl (by rw [hy]; exact hd) ho hp k
theorem Wl.ifT {cd : ClassFile.Cond} {x : Int32} {o : Int} (G : Wl Z a0 own p l e R s m args below meth c code mx B EL h0 n0 ws sf h cells slots pc L (.int x :: S)) (pc' : Nat) (hd : decode code pc = .ok (.ifCond cd o, 3)) (hc : ifCond.holds cd x = true) (ho : 0 ≤ (pc : Int) + o) (hp : ((pc : Int) + o).toNat = pc') : Wl Z a0 own p l e R s m args below meth c code mx B EL h0 n0 ws sf h cells slots pc' L S :=
  G.plain fun T H hx hy t k => XS.ifYes (g := mkF m pc L (.int x :: S)) (pc' := pc') H hx rfl rfl (by rw [hy]; exact hd) rfl hc ho hp k
theorem Wl.icmpT {cd : ClassFile.Cond} {x y : Int32} {o : Int} (G : Wl Z a0 own p l e R s m args below meth c code mx B EL h0 n0 ws sf h cells slots pc L (.int y :: .int x :: S)) (pc' : Nat) (hd : decode code pc = .ok (.if_icmp cd o, 3)) (hc : if_icmp.holds cd x y = true) (ho : 0 ≤ (pc : Int) + o) (hp : ((pc : Int) + o).toNat = pc') : Wl Z a0 own p l e R s m args below meth c code mx B EL h0 n0 ws sf h cells slots pc' L S :=
  G.plain fun T H hx hy t k => XS.icmpYes (g := mkF m pc L (.int y :: .int x :: S)) (pc' := pc') H hx rfl rfl (by rw [hy]; exact hd) rfl hc ho hp k
theorem Wl.ifnullT  {o : Int} (G : Wl Z a0 own p l e R s m args below meth c code mx B EL h0 n0 ws sf h cells slots pc L (.null :: S)) (pc' : Nat) (hd : decode code pc = .ok (.ifnull o, 3)) (ho : 0 ≤ (pc : Int) + o) (hp : ((pc : Int) + o).toNat = pc') : Wl Z a0 own p l e R s m args below meth c code mx B EL h0 n0 ws sf h cells slots pc' L S :=
  G.plain fun T H hx hy t k => XS.ifnullYes (g := mkF m pc L (.null :: S)) (pc' := pc') H hx rfl rfl (by rw [hy]; exact hd) rfl ho hp k
theorem Wl.ifnonnullT {b : Addr} {o : Int} (G : Wl Z a0 own p l e R s m args below meth c code mx B EL h0 n0 ws sf h cells slots pc L (.ref b :: S)) (pc' : Nat) (hd : decode code pc = .ok (.ifnonnull o, 3)) (ho : 0 ≤ (pc : Int) + o) (hp : ((pc : Int) + o).toNat = pc') : Wl Z a0 own p l e R s m args below meth c code mx B EL h0 n0 ws sf h cells slots pc' L S :=
  G.plain fun T H hx hy t k => XT.ifnonnullYes (g := mkF m pc L (.ref b :: S)) (pc' := pc') H hx rfl rfl (by rw [hy]; exact hd) rfl ho hp k
theorem Wl.acmpT {cd : ClassFile.ACond} {x y : Value} {o : Int} (G : Wl Z a0 own p l e R s m args below meth c code mx B EL h0 n0 ws sf h cells slots pc L (y :: x :: S)) (pc' : Nat) (hd : decode code pc = .ok (.if_acmp cd o, 3)) (hx1 : x.isRef = true) (hy1 : y.isRef = true) (hc : XT.acmp cd x y = true) (ho : 0 ≤ (pc : Int) + o) (hp : ((pc : Int) + o).toNat = pc') : Wl Z a0 own p l e R s m args below meth c code mx B EL h0 n0 ws sf h cells slots pc' L S :=
  G.plain fun T H hx hy t k => XT.acmpYes (g := mkF m pc L (y :: x :: S)) (pc' := pc') H hx rfl rfl (by rw [hy]; exact hd) rfl hx1 hy1 hc ho hp k
theorem Wl.ifF {cd : ClassFile.Cond} {x : Int32} {o : Int} (G : Wl Z a0 own p l e R s m args below meth c code mx B EL h0 n0 ws sf h cells slots pc L (.int x :: S)) (pc' : Nat) (hd : decode code pc = .ok (.ifCond cd o, 3)) (hc : ifCond.holds cd x = false) (hp : pc + 3 = pc') : Wl Z a0 own p l e R s m args below meth c code mx B EL h0 n0 ws sf h cells slots pc' L S :=
  G.plain fun T H hx hy t k => XS.ifNo (g := mkF m pc L (.int x :: S)) H hx rfl (by rw [hy]; exact hd) rfl hc (by subst hp; exact k)
theorem Wl.icmpF {cd : ClassFile.Cond} {x y : Int32} {o : Int} (G : Wl Z a0 own p l e R s m args below meth c code mx B EL h0 n0 ws sf h cells slots pc L (.int y :: .int x :: S)) (pc' : Nat) (hd : decode code pc = .ok (.if_icmp cd o, 3)) (hc : if_icmp.holds cd x y = false) (hp : pc + 3 = pc') : Wl Z a0 own p l e R s m args below meth c code mx B EL h0 n0 ws sf h cells slots pc' L S :=
  G.plain fun T H hx hy t k => XS.icmpNo (g := mkF m pc L (.int y :: .int x :: S)) H hx rfl (by rw [hy]; exact hd) rfl hc (by subst hp; exact k)
theorem Wl.ifnullF {b : Addr} {o : Int} (G : Wl Z a0 own p l e R s m args below meth c code mx B EL h0 n0 ws sf h cells slots pc L (.ref b :: S)) (pc' : Nat) (hd : decode code pc = .ok (.ifnull o, 3)) (hp : pc + 3 = pc') : Wl Z a0 own p l e R s m args below meth c code mx B EL h0 n0 ws sf h cells slots pc' L S :=
  G.plain fun T H hx hy t k => XS.ifnullNo (g := mkF m pc L (.ref b :: S)) H hx rfl (by rw [hy]; exact hd) rfl (by subst hp; exact k)
theorem Wl.ifnonnullF  {o : Int} (G : Wl Z a0 own p l e R s m args below meth c code mx B EL h0 n0 ws sf h cells slots pc L (.null :: S)) (pc' : Nat) (hd : decode code pc = .ok (.ifnonnull o, 3)) (hp : pc + 3 = pc') : Wl Z a0 own p l e R s m args below meth c code mx B EL h0 n0 ws sf h cells slots pc' L S :=
  G.plain fun T H hx hy t k => XT.ifnonnullNo (g := mkF m pc L (.null :: S)) H hx rfl (by rw [hy]; exact hd) rfl (by subst hp; exact k)
theorem Wl.acmpF {cd : ClassFile.ACond} {x y : Value} {o : Int} (G : Wl Z a0 own p l e R s m args below meth c code mx B EL h0 n0 ws sf h cells slots pc L (y :: x :: S)) (pc' : Nat) (hd : decode code pc = .ok (.if_acmp cd o, 3)) (hx1 : x.isRef = true) (hy1 : y.isRef = true) (hc : XT.acmp cd x y = false) (hp : pc + 3 = pc') : Wl Z a0 own p l e R s m args below meth c code mx B EL h0 n0 ws sf h cells slots pc' L S :=
  G.plain fun T H hx hy t k => XT.acmpNo (g := mkF m pc L (y :: x :: S)) H hx rfl (by rw [hy]; exact hd) rfl hx1 hy1 hc (by subst hp; exact k)
theorem ext_keep {h h' : Heap} (E : Ext h h') : Keep h h' [] := (Keep.refl h []).ext E
def NW (h0 : Heap) (ws : List Addr) (a : Addr) : Prop := a ∈ ws ∨ h0.size ≤ a
theorem NW.new {a : Addr} (q : h0.size ≤ a) : NW h0 ws a := Or.inr q
theorem ne_new {a b : Addr} {n : Nat} (q : a = n) (r : b < n) : b ≠ a := Nat.ne_of_lt (q.symm ▸ r)
theorem ne_ge {a b : Addr} {n : Nat} (r : a < n) (q : n ≤ b) : b ≠ a := (Nat.ne_of_lt (Nat.lt_of_lt_of_le r q)).symm
theorem Wl.new {C : String} {index n : Nat} (G : Wl Z a0 own p l e R s m args below meth c code mx B EL h0 n0 ws sf h cells slots pc L S) (pc' : Nat) (w : (Cond.classLink own index C).before a0 Z = true) (wi : (Cond.instantiable C n).before a0 Z = true) (wz : (Cond.initialized C).before a0 Z = true) (hd : decode code pc = .ok (.new index, 3)) (hp : pc + 3 = pc') (hc : cells + 1 ≤ R.cells) (hl : slots + n ≤ R.slots) : ∃ (a : Addr) (h' : Heap), Wl Z a0 own p l e R s m args below meth c code mx B EL h0 n0 ws (a :: sf) h' (cells + 1) (slots + n) pc' L (.ref a :: S) ∧ a = h.size ∧ h0.size ≤ a ∧ Ext h h' ∧ Exa Z h' a C ∧ (∀ {O nm d : String} {ty : FieldType}, Laid Z a0 C O nm d → parseFieldDescriptor d = some ty → Fld Z h' a O nm d (defaultValue ty)) ∧ Unt h' a := by
  obtain ⟨⟨hx, hby, hml, hEW⟩, ⟨o1, z2, z3, z1, es⟩, v0, k0, T, locs, X, ⟨hS, hk, hZ, hown⟩, ⟨hC, hF⟩, N, eT, k⟩ := G
  obtain ⟨T', h', X', e', E, A, D, U, st⟩ := newO X hx hZ hown w wi wz eT (g := mkF m pc L S) rfl (hb hby hd) hc hl
  exact ⟨h.size, h', ⟨⟨hx, hby, hml, hEW⟩, ⟨o1.ext E, z2.ext E, z3, z1, es⟩, v0, k0, T', _, X', ⟨hS, Nat.le_trans hk E.1, hZ, hown⟩, ⟨hC.trans (CHr.ext E hC.1), safeNew E hC.1 hF A.lt⟩, N, e', fun t q => k t (st t (by subst hp; exact q))⟩, rfl, z2.1, E, A, D, U⟩
theorem Wl.newarray {aty : ArrayType} {n : Int32} (G : Wl Z a0 own p l e R s m args below meth c code mx B EL h0 n0 ws sf h cells slots pc L (.int n :: S)) (pc' : Nat) (w : (Cond.arrayClass (newarray.typeOf aty)).before a0 Z = true) (hd : decode code pc = .ok (.newarray aty, 2)) (hn : ¬ n < 0) (cap : Nat) (hcap : n.toNatClampNeg ≤ cap) (hb8 : cap * 8 ≤ 536870912) (hp : pc + 2 = pc') (hc : cells + 1 ≤ R.cells) (hl : slots + cap ≤ R.slots) : ∃ (a : Addr) (h' : Heap) (k : ClassId), Wl Z a0 own p l e R s m args below meth c code mx B EL h0 n0 ws (a :: sf) h' (cells + 1) (slots + cap) pc' L (.ref a :: S) ∧ a = h.size ∧ h0.size ≤ a ∧ Ext h h' ∧ Arv Z h' a k (newarray.typeOf aty) n [] (defaultValue (newarray.typeOf aty)) := by
  obtain ⟨⟨hx, hby, hml, hEW⟩, ⟨o1, z2, z3, z1, es⟩, v0, k0, T, locs, X, ⟨hS, hk, hZ, hown⟩, ⟨hC, hF⟩, N, eT, k⟩ := G
  obtain ⟨T', h', cA, X', e', E, A, st⟩ := newP X hx hZ w eT (g := mkF m pc L (.int n :: S)) rfl (hb hby hd) rfl hn hcap hb8 hc hl
  exact ⟨h.size, h', cA, ⟨⟨hx, hby, hml, hEW⟩, ⟨o1.ext E, z2.ext E, z3, z1, es⟩, v0, k0, T', _, X', ⟨hS, Nat.le_trans hk E.1, hZ, hown⟩, ⟨hC.trans (CHr.ext E hC.1), safeNew E hC.1 hF A.lt⟩, N, e', fun t q => k t (st t (by subst hp; exact q))⟩, rfl, z2.1, E, Arv.new A hn⟩
theorem Wl.getf {R0 O n d host : String} {index : Nat} {a : Addr} {v : Value} (G : Wl Z a0 own p l e R s m args below meth c code mx B EL h0 n0 ws sf h cells slots pc L (.ref a :: S)) (pc' : Nat) (w : (Cond.fieldLink own index R0 n d).before a0 Z = true ∨ (Cond.fieldLinkNest own index R0 n d host).before a0 Z = true) (via : Via Z R0 O n d) (F : Fld Z h a O n d v) (hd : decode code pc = .ok (.getfield index, 3)) (hp : pc + 3 = pc') : Wl Z a0 own p l e R s m args below meth c code mx B EL h0 n0 ws sf h cells slots pc' L (v :: S) := by
  obtain ⟨⟨hx, hby, hml, hEW⟩, ⟨o1, z2, z3, z1, es⟩, v0, k0, T, locs, X, ⟨hS, hk, hZ, hown⟩, ⟨hC, hF⟩, N, eT, k⟩ := G
  obtain ⟨T', X', e', st⟩ := getF X hx hZ hown w via eT F (g := mkF m pc L (.ref a :: S)) rfl rfl (hb hby hd)
  exact ⟨⟨hx, hby, hml, hEW⟩, ⟨o1, z2, z3, z1, es⟩, v0, k0, T', _, X', ⟨hS, hk, hZ, hown⟩, ⟨hC, hF⟩, N, e', fun t q => k t (st t (by subst hp; exact q))⟩
theorem Wl.gets {R0 O n d host : String} {index : Nat} {v : Value} (G : Wl Z a0 own p l e R s m args below meth c code mx B EL h0 n0 ws sf h cells slots pc L S) (pc' : Nat) (w : (Cond.fieldLink own index R0 n d).before a0 Z = true ∨ (Cond.fieldLinkNest own index R0 n d host).before a0 Z = true) (via : Via Z R0 O n d) (F : Sta Z h O n d v) (hd : decode code pc = .ok (.getstatic index, 3)) (hp : pc + 3 = pc') : Wl Z a0 own p l e R s m args below meth c code mx B EL h0 n0 ws sf h cells slots pc' L (v :: S) := by
  obtain ⟨⟨hx, hby, hml, hEW⟩, ⟨o1, z2, z3, z1, es⟩, v0, k0, T, locs, X, ⟨hS, hk, hZ, hown⟩, ⟨hC, hF⟩, N, eT, k⟩ := G
  obtain ⟨T', X', e', st⟩ := getS2 X hx hZ hown w via eT F (g := mkF m pc L S) rfl (hb hby hd)
  exact ⟨⟨hx, hby, hml, hEW⟩, ⟨o1, z2, z3, z1, es⟩, v0, k0, T', _, X', ⟨hS, hk, hZ, hown⟩, ⟨hC, hF⟩, N, e', fun t q => k t (st t (by subst hp; exact q))⟩
theorem Wl.putf {R0 O n d host C : String} {index kk : Nat} {ty : FieldType} {a : Addr} {v old : Value} (G : Wl Z a0 own p l e R s m args below meth c code mx B EL h0 n0 ws sf h cells slots pc L (v :: .ref a :: S)) (pc' : Nat) (w : (Cond.fieldLink own index R0 n d).before a0 Z = true ∨ (Cond.fieldLinkNest own index R0 n d host).before a0 Z = true) (via : Via Z R0 O n d) (F : Fld Z h a O n d old) (E : Exa Z h a C) (lay : (Cond.lays C O n d).before a0 Z = true ∨ ((Cond.laysFinal C O n d).before a0 Z = true ∧ own = O ∧ meth.name = "<init>")) (wi : (Cond.instantiable C kk).before a0 Z = true) (hty : parseFieldDescriptor d = some ty) (hn : narrow ty v = v) (hf : fits ty v = true) (q : NW h0 ws a) (qs : a ∈ sf) (hd : decode code pc = .ok (.putfield index, 3)) (hp : pc + 3 = pc') : ∃ (h' : Heap), Wl Z a0 own p l e R s m args below meth c code mx B EL h0 n0 ws sf h' cells slots pc' L S ∧ Wr h h' a (Jvm.RoadKit.slotOf Z O n d) v ∧ Fld Z h' a O n d v ∧ Keep h h' [a] := by
  have qn := G.nw q
  obtain ⟨⟨hx, hby, hml, hEW⟩, ⟨o1, z2, z3, z1, es⟩, v0, k0, T, locs, X, ⟨hS, hk, hZ, hown⟩, ⟨hC, hF⟩, N, eT, k⟩ := G
  obtain ⟨T', h', X', e', W', st⟩ := putF X hx hZ hown w via eT F E lay wi hty hn hf (g := mkF m pc L (v :: .ref a :: S)) rfl rfl (hb hby hd)
  exact ⟨h', ⟨⟨hx, hby, hml, hEW⟩, ⟨o1.wr W' qn, z2.wr W' q, z3, z1, es⟩, v0, k0, T', _, X', ⟨hS, (by rw [W'.size]; exact hk), hZ, hown⟩, ⟨hC.trans (CHr.wr W' (hF _ qs).2 hC.1), safeKeep (Keep.of_wr W') (fun x y => by cases List.mem_singleton.mp y; exact (hF _ qs).2) hC.1 hF⟩, Fr.snoc X' N qn, e', fun t q => k t (st t (by subst hp; exact q))⟩, W', F.same W', Keep.of_wr W'⟩
theorem Wl.alen {a : Addr} {k : ClassId} {ty : FieldType} {z : Int32} {vs : List Value} {dv : Value} (G : Wl Z a0 own p l e R s m args below meth c code mx B EL h0 n0 ws sf h cells slots pc L (.ref a :: S)) (pc' : Nat) (A : Arv Z h a k ty z vs dv) (hd : decode code pc = .ok (.arraylength, 1)) (hp : pc + 1 = pc') : Wl Z a0 own p l e R s m args below meth c code mx B EL h0 n0 ws sf h cells slots pc' L (.int z :: S) := by
  obtain ⟨⟨hx, hby, hml, hEW⟩, ⟨o1, z2, z3, z1, es⟩, v0, k0, T, locs, X, ⟨hS, hk, hZ, hown⟩, ⟨hC, hF⟩, N, eT, k⟩ := G
  obtain ⟨cl, Ar, -, hSz, hN, -⟩ := A
  refine ⟨⟨hx, hby, hml, hEW⟩, ⟨o1, z2, z3, z1, es⟩, v0, k0, T, locs, X, ⟨hS, hk, hZ, hown⟩, ⟨hC, hF⟩, N, eT, fun t q => k t ?_⟩
  refine X.arraylength hx (by rw [eT]; exact Ar.1) (State.isArrayOf_alike hZ.alike Ar.2.1) (g := mkF m pc L (.ref a :: S)) rfl rfl (hb hby hd) _ ?_
  rw [len_of hSz hN]; exact hp ▸ q
theorem Wl.iaload {a : Addr} {k : ClassId} {z j : Int32} {vs : List Value} {dv v : Value} (G : Wl Z a0 own p l e R s m args below meth c code mx B EL h0 n0 ws sf h cells slots pc L (.int j :: .ref a :: S)) (pc' : Nat) (A : Arv Z h a k .int z vs dv) (hj : ¬ j < 0 ∧ j < z) (hv : vs.getD j.toNatClampNeg dv = v) (hd : decode code pc = .ok (.iaload, 1)) (hp : pc + 1 = pc') : Wl Z a0 own p l e R s m args below meth c code mx B EL h0 n0 ws sf h cells slots pc' L (v :: S) := by
  obtain ⟨⟨hx, hby, hml, hEW⟩, ⟨o1, z2, z3, z1, es⟩, v0, k0, T, locs, X, ⟨hS, hk, hZ, hown⟩, ⟨hC, hF⟩, N, eT, k⟩ := G
  obtain ⟨cl, Ar, -, hSz, hN, H, -⟩ := A
  refine ⟨⟨hx, hby, hml, hEW⟩, ⟨o1, z2, z3, z1, es⟩, v0, k0, T, locs, X, ⟨hS, hk, hZ, hown⟩, ⟨hC, hF⟩, N, eT, fun t q => k t ?_⟩
  have hin := inb_of hSz hj
  exact X.iaload hx (by rw [eT]; exact Ar.1) (State.isArrayOf_alike hZ.alike Ar.2.1) Ar.2.2 hin (H.at hin hv) (g := mkF m pc L (.int j :: .ref a :: S)) rfl rfl (hb hby hd) t (by subst hp; exact q)
theorem Wl.laload {a : Addr} {k : ClassId} {z j : Int32} {vs : List Value} {dv v : Value} (G : Wl Z a0 own p l e R s m args below meth c code mx B EL h0 n0 ws sf h cells slots pc L (.int j :: .ref a :: S)) (pc' : Nat) (A : Arv Z h a k .long z vs dv) (hj : ¬ j < 0 ∧ j < z) (hv : vs.getD j.toNatClampNeg dv = v) (hd : decode code pc = .ok (.laload, 1)) (hp : pc + 1 = pc') : Wl Z a0 own p l e R s m args below meth c code mx B EL h0 n0 ws sf h cells slots pc' L (v :: S) := by
  obtain ⟨⟨hx, hby, hml, hEW⟩, ⟨o1, z2, z3, z1, es⟩, v0, k0, T, locs, X, ⟨hS, hk, hZ, hown⟩, ⟨hC, hF⟩, N, eT, k⟩ := G
  obtain ⟨cl, Ar, -, hSz, hN, H, -⟩ := A
  refine ⟨⟨hx, hby, hml, hEW⟩, ⟨o1, z2, z3, z1, es⟩, v0, k0, T, locs, X, ⟨hS, hk, hZ, hown⟩, ⟨hC, hF⟩, N, eT, fun t q => k t ?_⟩
  have hin := inb_of hSz hj
  exact X.laload hx (by rw [eT]; exact Ar.1) (State.isArrayOf_alike hZ.alike Ar.2.1) Ar.2.2 hin (H.at hin hv) (g := mkF m pc L (.int j :: .ref a :: S)) rfl rfl (hb hby hd) t (by subst hp; exact q)
theorem Wl.caload {a : Addr} {k : ClassId} {z j : Int32} {vs : List Value} {dv v : Value} (G : Wl Z a0 own p l e R s m args below meth c code mx B EL h0 n0 ws sf h cells slots pc L (.int j :: .ref a :: S)) (pc' : Nat) (A : Arv Z h a k .char z vs dv) (hj : ¬ j < 0 ∧ j < z) (hv : vs.getD j.toNatClampNeg dv = v) (hd : decode code pc = .ok (.caload, 1)) (hp : pc + 1 = pc') : Wl Z a0 own p l e R s m args below meth c code mx B EL h0 n0 ws sf h cells slots pc' L (v :: S) := by
  obtain ⟨⟨hx, hby, hml, hEW⟩, ⟨o1, z2, z3, z1, es⟩, v0, k0, T, locs, X, ⟨hS, hk, hZ, hown⟩, ⟨hC, hF⟩, N, eT, k⟩ := G
  obtain ⟨cl, Ar, -, hSz, hN, H, -⟩ := A
  refine ⟨⟨hx, hby, hml, hEW⟩, ⟨o1, z2, z3, z1, es⟩, v0, k0, T, locs, X, ⟨hS, hk, hZ, hown⟩, ⟨hC, hF⟩, N, eT, fun t q => k t ?_⟩
  have hin := inb_of hSz hj
  exact X.caload hx (by rw [eT]; exact Ar.1) (State.isArrayOf_alike hZ.alike Ar.2.1) Ar.2.2 hin (H.at hin hv) (g := mkF m pc L (.int j :: .ref a :: S)) rfl rfl (hb hby hd) t (by subst hp; exact q)
theorem Wl.baload {a : Addr} {k : ClassId} {z j : Int32} {vs : List Value} {dv v : Value} (G : Wl Z a0 own p l e R s m args below meth c code mx B EL h0 n0 ws sf h cells slots pc L (.int j :: .ref a :: S)) (pc' : Nat) (A : Arv Z h a k .byte z vs dv) (hj : ¬ j < 0 ∧ j < z) (hv : vs.getD j.toNatClampNeg dv = v) (hd : decode code pc = .ok (.baload, 1)) (hp : pc + 1 = pc') : Wl Z a0 own p l e R s m args below meth c code mx B EL h0 n0 ws sf h cells slots pc' L (v :: S) := by
  obtain ⟨⟨hx, hby, hml, hEW⟩, ⟨o1, z2, z3, z1, es⟩, v0, k0, T, locs, X, ⟨hS, hk, hZ, hown⟩, ⟨hC, hF⟩, N, eT, k⟩ := G
  obtain ⟨cl, Ar, -, hSz, hN, H, -⟩ := A
  refine ⟨⟨hx, hby, hml, hEW⟩, ⟨o1, z2, z3, z1, es⟩, v0, k0, T, locs, X, ⟨hS, hk, hZ, hown⟩, ⟨hC, hF⟩, N, eT, fun t q => k t ?_⟩
  have hin := inb_of hSz hj
  exact X.baloadBytes hx (by rw [eT]; exact Ar.1) (State.isArrayOf_alike hZ.alike Ar.2.1) Ar.2.2 hin (H.at hin hv) (g := mkF m pc L (.int j :: .ref a :: S)) rfl rfl (hb hby hd) t (by subst hp; exact q)
theorem Wl.daload {a : Addr} {k : ClassId} {z j : Int32} {vs : List Value} {dv v : Value} (G : Wl Z a0 own p l e R s m args below meth c code mx B EL h0 n0 ws sf h cells slots pc L (.int j :: .ref a :: S)) (pc' : Nat) (A : Arv Z h a k .double z vs dv) (hj : ¬ j < 0 ∧ j < z) (hv : vs.getD j.toNatClampNeg dv = v) (hd : decode code pc = .ok (.daload, 1)) (hp : pc + 1 = pc') : Wl Z a0 own p l e R s m args below meth c code mx B EL h0 n0 ws sf h cells slots pc' L (v :: S) := by
  obtain ⟨⟨hx, hby, hml, hEW⟩, ⟨o1, z2, z3, z1, es⟩, v0, k0, T, locs, X, ⟨hS, hk, hZ, hown⟩, ⟨hC, hF⟩, N, eT, k⟩ := G
  obtain ⟨cl, Ar, -, hSz, hN, H, -⟩ := A
  refine ⟨⟨hx, hby, hml, hEW⟩, ⟨o1, z2, z3, z1, es⟩, v0, k0, T, locs, X, ⟨hS, hk, hZ, hown⟩, ⟨hC, hF⟩, N, eT, fun t q => k t ?_⟩
  have hin := inb_of hSz hj
  exact X.daload hx (by rw [eT]; exact Ar.1) (State.isArrayOf_alike hZ.alike Ar.2.1) Ar.2.2 hin (H.at hin hv) (g := mkF m pc L (.int j :: .ref a :: S)) rfl rfl (hb hby hd) t (by subst hp; exact q)
theorem Wl.iastore {a : Addr} {k : ClassId} {z j : Int32} {x : Int32} {vs : List Value} {dv : Value} (G : Wl Z a0 own p l e R s m args below meth c code mx B EL h0 n0 ws sf h cells slots pc L (.int x :: .int j :: .ref a :: S)) (pc' : Nat) (i : Nat) (A : Arv Z h a k .int z vs dv) (hj : ¬ j < 0 ∧ j < z) (hi : j.toNatClampNeg = i) (hl : i < vs.length) (q : NW h0 ws a) (qs : a ∈ sf) (hd : decode code pc = .ok (.iastore, 1)) (hp : pc + 1 = pc') : ∃ (h' : Heap), Wl Z a0 own p l e R s m args below meth c code mx B EL h0 n0 ws sf h' cells slots pc' L S ∧ Arv Z h' a k .int z (vs.set i (.int x)) dv ∧ Keep h h' [a] := by
  have qn := G.nw q
  obtain ⟨⟨hx, hby, hml, hEW⟩, ⟨o1, z2, z3, z1, es⟩, v0, k0, T, locs, X, ⟨hS, hk, hZ, hown⟩, ⟨hC, hF⟩, N, eT, k⟩ := G
  obtain ⟨cl, Ar, q1, hSz, hN, H, F⟩ := A
  obtain ⟨T', h', X', e', W', st⟩ := stI X hx hZ eT Ar (inb_of hSz hj) (g := mkF m pc L (.int x :: .int j :: .ref a :: S)) rfl rfl (hb hby hd)
  exact ⟨h', ⟨⟨hx, hby, hml, hEW⟩, ⟨o1.wr W' qn, z2.wr W' q, z3, z1, es⟩, v0, k0, T', _, X', ⟨hS, (by rw [W'.size]; exact hk), hZ, hown⟩, ⟨hC.trans (CHr.wr W' (hF _ qs).2 hC.1), safeKeep (Keep.of_wr W') (fun x y => by cases List.mem_singleton.mp y; exact (hF _ qs).2) hC.1 hF⟩, Fr.snoc X' N qn, e', fun t q => k t (st t (by subst hp; exact q))⟩, Arv.set Ar q1 hSz hN H F rfl W' i hi hl, Keep.of_wr W'⟩
theorem Wl.lastore {a : Addr} {k : ClassId} {z j : Int32} {x : Int64} {vs : List Value} {dv : Value} (G : Wl Z a0 own p l e R s m args below meth c code mx B EL h0 n0 ws sf h cells slots pc L (.long x :: .int j :: .ref a :: S)) (pc' : Nat) (i : Nat) (A : Arv Z h a k .long z vs dv) (hj : ¬ j < 0 ∧ j < z) (hi : j.toNatClampNeg = i) (hl : i < vs.length) (q : NW h0 ws a) (qs : a ∈ sf) (hd : decode code pc = .ok (.lastore, 1)) (hp : pc + 1 = pc') : ∃ (h' : Heap), Wl Z a0 own p l e R s m args below meth c code mx B EL h0 n0 ws sf h' cells slots pc' L S ∧ Arv Z h' a k .long z (vs.set i (.long x)) dv ∧ Keep h h' [a] := by
  have qn := G.nw q
  obtain ⟨⟨hx, hby, hml, hEW⟩, ⟨o1, z2, z3, z1, es⟩, v0, k0, T, locs, X, ⟨hS, hk, hZ, hown⟩, ⟨hC, hF⟩, N, eT, k⟩ := G
  obtain ⟨cl, Ar, q1, hSz, hN, H, F⟩ := A
  obtain ⟨T', h', X', e', W', st⟩ := stJ X hx hZ eT Ar (inb_of hSz hj) (g := mkF m pc L (.long x :: .int j :: .ref a :: S)) rfl rfl (hb hby hd)
  exact ⟨h', ⟨⟨hx, hby, hml, hEW⟩, ⟨o1.wr W' qn, z2.wr W' q, z3, z1, es⟩, v0, k0, T', _, X', ⟨hS, (by rw [W'.size]; exact hk), hZ, hown⟩, ⟨hC.trans (CHr.wr W' (hF _ qs).2 hC.1), safeKeep (Keep.of_wr W') (fun x y => by cases List.mem_singleton.mp y; exact (hF _ qs).2) hC.1 hF⟩, Fr.snoc X' N qn, e', fun t q => k t (st t (by subst hp; exact q))⟩, Arv.set Ar q1 hSz hN H F rfl W' i hi hl, Keep.of_wr W'⟩
theorem Wl.dastore {a : Addr} {k : ClassId} {z j : Int32} {x : UInt64} {vs : List Value} {dv : Value} (G : Wl Z a0 own p l e R s m args below meth c code mx B EL h0 n0 ws sf h cells slots pc L (.double x :: .int j :: .ref a :: S)) (pc' : Nat) (i : Nat) (A : Arv Z h a k .double z vs dv) (hj : ¬ j < 0 ∧ j < z) (hi : j.toNatClampNeg = i) (hl : i < vs.length) (q : NW h0 ws a) (qs : a ∈ sf) (hd : decode code pc = .ok (.dastore, 1)) (hp : pc + 1 = pc') : ∃ (h' : Heap), Wl Z a0 own p l e R s m args below meth c code mx B EL h0 n0 ws sf h' cells slots pc' L S ∧ Arv Z h' a k .double z (vs.set i (.double x)) dv ∧ Keep h h' [a] := by
  have qn := G.nw q
  obtain ⟨⟨hx, hby, hml, hEW⟩, ⟨o1, z2, z3, z1, es⟩, v0, k0, T, locs, X, ⟨hS, hk, hZ, hown⟩, ⟨hC, hF⟩, N, eT, k⟩ := G
  obtain ⟨cl, Ar, q1, hSz, hN, H, F⟩ := A
  obtain ⟨T', h', X', e', W', st⟩ := stD X hx hZ eT Ar (inb_of hSz hj) (g := mkF m pc L (.double x :: .int j :: .ref a :: S)) rfl rfl (hb hby hd)
  exact ⟨h', ⟨⟨hx, hby, hml, hEW⟩, ⟨o1.wr W' qn, z2.wr W' q, z3, z1, es⟩, v0, k0, T', _, X', ⟨hS, (by rw [W'.size]; exact hk), hZ, hown⟩, ⟨hC.trans (CHr.wr W' (hF _ qs).2 hC.1), safeKeep (Keep.of_wr W') (fun x y => by cases List.mem_singleton.mp y; exact (hF _ qs).2) hC.1 hF⟩, Fr.snoc X' N qn, e', fun t q => k t (st t (by subst hp; exact q))⟩, Arv.set Ar q1 hSz hN H F rfl W' i hi hl, Keep.of_wr W'⟩
theorem Wl.castore {a : Addr} {k : ClassId} {z j : Int32} {x : Int32} {vs : List Value} {dv : Value} (G : Wl Z a0 own p l e R s m args below meth c code mx B EL h0 n0 ws sf h cells slots pc L (.int x :: .int j :: .ref a :: S)) (pc' : Nat) (i : Nat) (A : Arv Z h a k .char z vs dv) (hj : ¬ j < 0 ∧ j < z) (hi : j.toNatClampNeg = i) (hl : i < vs.length) (q : NW h0 ws a) (qs : a ∈ sf) (hd : decode code pc = .ok (.castore, 1)) (hp : pc + 1 = pc') : ∃ (h' : Heap), Wl Z a0 own p l e R s m args below meth c code mx B EL h0 n0 ws sf h' cells slots pc' L S ∧ Arv Z h' a k .char z (vs.set i (.int (nar .char x))) dv ∧ Keep h h' [a] := by
  have qn := G.nw q
  obtain ⟨⟨hx, hby, hml, hEW⟩, ⟨o1, z2, z3, z1, es⟩, v0, k0, T, locs, X, ⟨hS, hk, hZ, hown⟩, ⟨hC, hF⟩, N, eT, k⟩ := G
  obtain ⟨cl, Ar, q1, hSz, hN, H, F⟩ := A
  obtain ⟨T', h', X', e', W', st⟩ := stC X hx hZ eT Ar (inb_of hSz hj) (g := mkF m pc L (.int x :: .int j :: .ref a :: S)) rfl rfl (hb hby hd)
  exact ⟨h', ⟨⟨hx, hby, hml, hEW⟩, ⟨o1.wr W' qn, z2.wr W' q, z3, z1, es⟩, v0, k0, T', _, X', ⟨hS, (by rw [W'.size]; exact hk), hZ, hown⟩, ⟨hC.trans (CHr.wr W' (hF _ qs).2 hC.1), safeKeep (Keep.of_wr W') (fun x y => by cases List.mem_singleton.mp y; exact (hF _ qs).2) hC.1 hF⟩, Fr.snoc X' N qn, e', fun t q => k t (st t (by subst hp; exact q))⟩, Arv.set Ar q1 hSz hN H F (fits_nar_char x) W' i hi hl, Keep.of_wr W'⟩
theorem Wl.bastore {a : Addr} {k : ClassId} {z j : Int32} {x : Int32} {vs : List Value} {dv : Value} (G : Wl Z a0 own p l e R s m args below meth c code mx B EL h0 n0 ws sf h cells slots pc L (.int x :: .int j :: .ref a :: S)) (pc' : Nat) (i : Nat) (A : Arv Z h a k .byte z vs dv) (hj : ¬ j < 0 ∧ j < z) (hi : j.toNatClampNeg = i) (hl : i < vs.length) (q : NW h0 ws a) (qs : a ∈ sf) (hd : decode code pc = .ok (.bastore, 1)) (hp : pc + 1 = pc') : ∃ (h' : Heap), Wl Z a0 own p l e R s m args below meth c code mx B EL h0 n0 ws sf h' cells slots pc' L S ∧ Arv Z h' a k .byte z (vs.set i (.int x.toInt8.toInt32)) dv ∧ Keep h h' [a] := by
  have qn := G.nw q
  obtain ⟨⟨hx, hby, hml, hEW⟩, ⟨o1, z2, z3, z1, es⟩, v0, k0, T, locs, X, ⟨hS, hk, hZ, hown⟩, ⟨hC, hF⟩, N, eT, k⟩ := G
  obtain ⟨cl, Ar, q1, hSz, hN, H, F⟩ := A
  obtain ⟨T', h', X', e', W', st⟩ := stB X hx hZ eT Ar (inb_of hSz hj) (g := mkF m pc L (.int x :: .int j :: .ref a :: S)) rfl rfl (hb hby hd)
  exact ⟨h', ⟨⟨hx, hby, hml, hEW⟩, ⟨o1.wr W' qn, z2.wr W' q, z3, z1, es⟩, v0, k0, T', _, X', ⟨hS, (by rw [W'.size]; exact hk), hZ, hown⟩, ⟨hC.trans (CHr.wr W' (hF _ qs).2 hC.1), safeKeep (Keep.of_wr W') (fun x y => by cases List.mem_singleton.mp y; exact (hF _ qs).2) hC.1 hF⟩, Fr.snoc X' N qn, e', fun t q => k t (st t (by subst hp; exact q))⟩, Arv.set Ar q1 hSz hN H F (fits_nar_byte x) W' i hi hl, Keep.of_wr W'⟩
theorem Wl.initO {a : Addr} {idx : Nat} (G : Wl Z a0 own p l e R s m args below meth c code mx B EL h0 n0 ws sf h cells slots pc L (.ref a :: S)) (pc' : Nat) (w1 : (Cond.methodLink own idx Lib.objectInit).before a0 Z = true) (w2 : (Cond.instanceMethod Lib.objectInit).before a0 Z = true) (w3 : (Cond.code Lib.objectInit ⟨#[0xb1]⟩ 1 none).before a0 Z = true) (hd : decode code pc = .ok (.invokespecial idx, 3)) (hz : L.size = mx) (hf : 1 ≤ R.frames) (hl : (S.map fun v => v.category).sum + 12 ≤ R.locals) (hp : pc + 3 = pc') : Wl Z a0 own p l e R s m args below meth c code mx B EL h0 n0 ws sf h cells slots pc' L S := by
  obtain ⟨⟨hx, hby, hml, hEW⟩, ⟨o1, z2, z3, z1, es⟩, v0, k0, T, locs, X, ⟨hS, hk, hZ, hown⟩, ⟨hC, hF⟩, N, eT, k⟩ := G
  obtain ⟨T', X', e', st⟩ := Jvm.RoadKit.initO X hx hZ hown w1 w2 w3 eT (g := mkF m pc L (.ref a :: S)) rfl (hz.trans hml.symm) rfl (hb hby hd) hf (W := (S.map fun v => v.category).sum) (by show 2 * 0 + _ ≤ _; omega) hl
  exact ⟨⟨hx, hby, hml, hEW⟩, ⟨o1, z2, z3, z1, es⟩, v0, k0, T', _, X', ⟨hS, hk, hZ, hown⟩, ⟨hC, hF⟩, N, e', fun t q => k t (st t (by subst hp; exact q))⟩
theorem Wl.ldcI {index : Nat} {v : Int32} (G : Wl Z a0 own p l e R s m args below meth c code mx B EL h0 n0 ws sf h cells slots pc L S) (pc' : Nat) (w : (Cond.constant own index v).before a0 Z = true) (hd : decode code pc = .ok (.ldc index, 2)) (hp : pc + 2 = pc') : Wl Z a0 own p l e R s m args below meth c code mx B EL h0 n0 ws sf h cells slots pc' L (.int v :: S) := by
  obtain ⟨⟨hx, hby, hml, hEW⟩, ⟨o1, z2, z3, z1, es⟩, v0, k0, T, locs, X, ⟨hS, hk, hZ, hown⟩, ⟨hC, hF⟩, N, eT, k⟩ := G
  exact ⟨⟨hx, hby, hml, hEW⟩, ⟨o1, z2, z3, z1, es⟩, v0, k0, T, locs, X, ⟨hS, hk, hZ, hown⟩, ⟨hC, hF⟩, N, eT, fun t q => k t (X.ldcInt hx hown (mvT hZ w) (g := mkF m pc L S) rfl (hb hby hd) t (by subst hp; exact q))⟩
theorem Wl.ldcWI {index : Nat} {v : Int32} (G : Wl Z a0 own p l e R s m args below meth c code mx B EL h0 n0 ws sf h cells slots pc L S) (pc' : Nat) (w : (Cond.constant own index v).before a0 Z = true) (hd : decode code pc = .ok (.ldc_w index, 3)) (hp : pc + 3 = pc') : Wl Z a0 own p l e R s m args below meth c code mx B EL h0 n0 ws sf h cells slots pc' L (.int v :: S) := by
  obtain ⟨⟨hx, hby, hml, hEW⟩, ⟨o1, z2, z3, z1, es⟩, v0, k0, T, locs, X, ⟨hS, hk, hZ, hown⟩, ⟨hC, hF⟩, N, eT, k⟩ := G
  exact ⟨⟨hx, hby, hml, hEW⟩, ⟨o1, z2, z3, z1, es⟩, v0, k0, T, locs, X, ⟨hS, hk, hZ, hown⟩, ⟨hC, hF⟩, N, eT, fun t q => k t (X.ldcWInt hx hown (mvT hZ w) (g := mkF m pc L S) rfl (hb hby hd) t (by subst hp; exact q))⟩
theorem Wl.ldc2J {index : Nat} {v : Int64} (G : Wl Z a0 own p l e R s m args below meth c code mx B EL h0 n0 ws sf h cells slots pc L S) (pc' : Nat) (w : (Cond.constantLong own index v).before a0 Z = true) (hd : decode code pc = .ok (.ldc2_w index, 3)) (hp : pc + 3 = pc') : Wl Z a0 own p l e R s m args below meth c code mx B EL h0 n0 ws sf h cells slots pc' L (.long v :: S) := by
  obtain ⟨⟨hx, hby, hml, hEW⟩, ⟨o1, z2, z3, z1, es⟩, v0, k0, T, locs, X, ⟨hS, hk, hZ, hown⟩, ⟨hC, hF⟩, N, eT, k⟩ := G
  exact ⟨⟨hx, hby, hml, hEW⟩, ⟨o1, z2, z3, z1, es⟩, v0, k0, T, locs, X, ⟨hS, hk, hZ, hown⟩, ⟨hC, hF⟩, N, eT, fun t q => k t (X.ldc2Long hx hown (mvT hZ w) (g := mkF m pc L S) rfl (hb hby hd) t (by subst hp; exact q))⟩
/-- a body's contract: from the heap h0 with the arguments as', it returns; only what is new since n0 was written; h0 stands but for ws; String constants stay whole; sf: what must be no constant's cell; Q's list: what else is none -/
def Con (Z : State) (a0 : Array Value) (l : Launch) (y : MethodName) (bytes : ByteArray) (maxL : Nat) (ret : Option FieldType) (rm : Room) (tws : List Jvm.Cond) (as' : Array Value) (EL : List (String × Nat)) (h0 : Heap) (n0 : Nat) (ws sf : List Addr) (Q : Option Value → Heap → List Addr → Prop) : Prop :=
  MetFree l y (head1 (Cond.code y bytes maxL ret :: tws) rm) (fun a U => a = as' ∧ Z.Warmed39 U.vm ∧ U.heap = h0 ∧ CHv Z EL U.vm h0 ∧ ∀ x ∈ sf, x < h0.size ∧ Safe Z EL U.vm h0 x) (fun _ _ _ _ _ => True) (fun _ U o U' => ∃ v LL, o = .returned v ∧ (∃ so, Fr n0 LL ∧ Keep h0 U'.heap ws ∧ Q v U'.heap so ∧ CHr Z EL U.vm U.heap U'.vm U'.heap ∧ ∀ x ∈ so, x < U'.heap.size ∧ Safe Z EL U'.vm U'.heap x) ∧ ReturnedEndW U o U' LL rm.cells rm.slots)
def VV (Q : Value → Heap → List Addr → Prop) : Option Value → Heap → List Addr → Prop := fun v h so => ∃ w, v = some w ∧ Q w h so
def V0 (Q : Heap → List Addr → Prop) : Option Value → Heap → List Addr → Prop := fun v h so => v = none ∧ Q h so
/-- the walk's end -/
def Fin (Z : State) (EL : List (String × Nat)) (p : Program) (e : Env) (below : List Frame) (B s : State) (h0 : Heap) (n0 : Nat) (ws : List Addr) (k n : Nat) (Q : Option Value → Heap → List Addr → Prop) : Prop :=
  ∃ s₂ o, Steps p.tables e below B s₂ ∧ s₂.status = .running ∧ Ended s₂ below o ∧ ∃ v LL, o = .returned v ∧ (∃ so, Fr n0 LL ∧ Keep h0 s₂.heap ws ∧ Q v s₂.heap so ∧ CHr Z EL s.vm s.heap s₂.vm s₂.heap ∧ ∀ x ∈ so, x < s₂.heap.size ∧ Safe Z EL s₂.vm s₂.heap x) ∧ ReturnedEndW s o s₂ LL k n
theorem Con.body {tws : List Jvm.Cond} {y : MethodName} {bytes : ByteArray} {maxL : Nat} {ret : Option FieldType} {rm : Room} {as' : Array Value} {Q : Option Value → Heap → List Addr → Prop} (hpl : plainFor y = true) (hEW : EW Z a0 EL) (o1 : Old Z n0 h0) (z3 : ∀ x ∈ ws, n0 ≤ x) (L0 : Array Slot) (hef : ∀ m, entryFrame m as' maxL = mkF m 0 L0 [])
    (body : ∀ (p : Program) (e : Env) (s : State) (m : MethodId) (below : List Frame) (meth : Method) (c : Code) (B : State), meth.name = y.name → meth.sig.returnType = ret → meth.locks = false → Wl Z a0 y.cls p l e rm s m as' below meth c bytes maxL B EL h0 n0 ws sf h0 0 0 0 L0 [] → Fin Z EL p e below B s h0 n0 ws rm.cells rm.slots Q) : Con Z a0 l y bytes maxL ret rm tws as' EL h0 n0 ws sf Q := by
  refine MetFree.of_bodySF hpl hisR ?_
  intro p e s m args below meth c s₁ Bd hml hP hK
  obtain ⟨rfl, hZ, hh, hC, hF⟩ := hP
  refine body p e s m below meth c _ (name_of_methodNamed Bd.named Bd.method).1 Bd.returns Bd.notSynchronized ⟨⟨Bd.exec, Bd.bytes, hml, hEW⟩, ⟨o1, Keep.refl _ _, z3, by rw [← o1.1]; exact o1.2.1, hh⟩, s.vm, 0, s₁, [], Stand.of_body Bd, ⟨(State.WarmedH.refl s).since 0, Nat.zero_le _, hZ, findClass_of_methodNamed Bd.named⟩, ⟨CHr.refl hC, hF⟩, Fr.nil n0, by rw [← hh, Bd.state]; rfl, fun t q => ?_⟩
  rw [hef m]; exact q
theorem Wl.retV  {Q : Option Value → Heap → List Addr → Prop} {kk nn : Nat} (G : Wl Z a0 own p l e R s m args below meth c code mx B EL h0 n0 ws sf h cells slots pc L ([])) (hret : meth.sig.returnType = none) (hlk : meth.locks = false) (hd : decode code pc = .ok (.return_, 1)) (so : List Addr) (hso : ∀ x ∈ so, x ∈ sf) (hQ : Q (none) h so) (hc : cells ≤ kk) (hs : slots ≤ nn) : Fin Z EL p e below B s h0 n0 ws kk nn Q := by
  obtain ⟨⟨hx, hby, hml, hEW⟩, ⟨o1, z2, z3, z1, es⟩, v0, k0, T, locs, X, ⟨hS, hk, hZ, hown⟩, ⟨hC, hF⟩, N, eT, k⟩ := G
  obtain ⟨fs, hr, hrun, hended, hW⟩ := X.leaveW hS (by rw [eT]; exact hk) (v := none) (fun _ => rfl) hlk
  have hCT := CHv.at X hZ hEW hC.1
  refine ⟨_, _, k _ ?_, hrun, hended, _, _, rfl, ⟨so, N, ?_, ?_, ?_, ?_⟩, hW.1, hW.2.1, hW.2.2.1, hW.2.2.2.mono hc hs⟩
  · exact X.returnOut hx hret (hb hby hd) hr
  · show Keep h0 T.heap ws
    rw [eT]; exact z2
  · show Q _ T.heap so
    rw [eT]; exact hQ
  · show CHr Z EL s.vm s.heap T.vm T.heap
    rw [eT, es]
    exact hC.trans hCT
  · intro x hx
    show x < T.heap.size ∧ Safe Z EL T.vm T.heap x
    rw [eT]; exact ⟨(hF x (hso x hx)).1, hCT.safe (hF x (hso x hx)).1 (hF x (hso x hx)).2⟩
theorem Wl.retI {z : Int32} {Q : Option Value → Heap → List Addr → Prop} {kk nn : Nat} (G : Wl Z a0 own p l e R s m args below meth c code mx B EL h0 n0 ws sf h cells slots pc L (.int z :: S)) (hret : meth.sig.returnType = some .int) (hlk : meth.locks = false) (hd : decode code pc = .ok (.ireturn, 1)) (so : List Addr) (hso : ∀ x ∈ so, x ∈ sf) (hQ : Q (some (.int z)) h so) (hc : cells ≤ kk) (hs : slots ≤ nn) : Fin Z EL p e below B s h0 n0 ws kk nn Q := by
  obtain ⟨⟨hx, hby, hml, hEW⟩, ⟨o1, z2, z3, z1, es⟩, v0, k0, T, locs, X, ⟨hS, hk, hZ, hown⟩, ⟨hC, hF⟩, N, eT, k⟩ := G
  obtain ⟨fs, hr, hrun, hended, hW⟩ := X.leaveW hS (by rw [eT]; exact hk) (v := some (.int z)) (fun h => by rw [hret] at h; cases h) hlk
  have hCT := CHv.at X hZ hEW hC.1
  refine ⟨_, _, k _ ?_, hrun, hended, _, _, rfl, ⟨so, N, ?_, ?_, ?_, ?_⟩, hW.1, hW.2.1, hW.2.2.1, hW.2.2.2.mono hc hs⟩
  · exact retOut X hx hret rfl (Or.inl ⟨rfl, Or.inl rfl, _, rfl⟩) (hb hby hd) hr
  · show Keep h0 T.heap ws
    rw [eT]; exact z2
  · show Q _ T.heap so
    rw [eT]; exact hQ
  · show CHr Z EL s.vm s.heap T.vm T.heap
    rw [eT, es]
    exact hC.trans hCT
  · intro x hx
    show x < T.heap.size ∧ Safe Z EL T.vm T.heap x
    rw [eT]; exact ⟨(hF x (hso x hx)).1, hCT.safe (hF x (hso x hx)).1 (hF x (hso x hx)).2⟩
theorem Wl.retN {z : Int32} {t : FieldType} {Q : Option Value → Heap → List Addr → Prop} {kk nn : Nat} (G : Wl Z a0 own p l e R s m args below meth c code mx B EL h0 n0 ws sf h cells slots pc L (.int z :: S)) (hret : meth.sig.returnType = some t) (ht : t = .boolean ∨ t = .byte ∨ t = .char ∨ t = .short) (hlk : meth.locks = false) (hd : decode code pc = .ok (.ireturn, 1)) (so : List Addr) (hso : ∀ x ∈ so, x ∈ sf) (hQ : Q (some (.int (nar t z))) h so) (hc : cells ≤ kk) (hs : slots ≤ nn) : Fin Z EL p e below B s h0 n0 ws kk nn Q := by
  obtain ⟨⟨hx, hby, hml, hEW⟩, ⟨o1, z2, z3, z1, es⟩, v0, k0, T, locs, X, ⟨hS, hk, hZ, hown⟩, ⟨hC, hF⟩, N, eT, k⟩ := G
  obtain ⟨fs, hr, hrun, hended, hW⟩ := X.leaveW hS (by rw [eT]; exact hk) (v := some (.int (nar t z))) (fun h => by rw [hret] at h; cases h) hlk
  have hCT := CHv.at X hZ hEW hC.1
  refine ⟨_, _, k _ ?_, hrun, hended, _, _, rfl, ⟨so, N, ?_, ?_, ?_, ?_⟩, hW.1, hW.2.1, hW.2.2.1, hW.2.2.2.mono hc hs⟩
  · exact Jvm.RoadKit.retN X hx hret ht (hb hby hd) hr
  · show Keep h0 T.heap ws
    rw [eT]; exact z2
  · show Q _ T.heap so
    rw [eT]; exact hQ
  · show CHr Z EL s.vm s.heap T.vm T.heap
    rw [eT, es]
    exact hC.trans hCT
  · intro x hx
    show x < T.heap.size ∧ Safe Z EL T.vm T.heap x
    rw [eT]; exact ⟨(hF x (hso x hx)).1, hCT.safe (hF x (hso x hx)).1 (hF x (hso x hx)).2⟩
theorem Wl.retL {z : Int64} {Q : Option Value → Heap → List Addr → Prop} {kk nn : Nat} (G : Wl Z a0 own p l e R s m args below meth c code mx B EL h0 n0 ws sf h cells slots pc L (.long z :: S)) (hret : meth.sig.returnType = some .long) (hlk : meth.locks = false) (hd : decode code pc = .ok (.lreturn, 1)) (so : List Addr) (hso : ∀ x ∈ so, x ∈ sf) (hQ : Q (some (.long z)) h so) (hc : cells ≤ kk) (hs : slots ≤ nn) : Fin Z EL p e below B s h0 n0 ws kk nn Q := by
  obtain ⟨⟨hx, hby, hml, hEW⟩, ⟨o1, z2, z3, z1, es⟩, v0, k0, T, locs, X, ⟨hS, hk, hZ, hown⟩, ⟨hC, hF⟩, N, eT, k⟩ := G
  obtain ⟨fs, hr, hrun, hended, hW⟩ := X.leaveW hS (by rw [eT]; exact hk) (v := some (.long z)) (fun h => by rw [hret] at h; cases h) hlk
  have hCT := CHv.at X hZ hEW hC.1
  refine ⟨_, _, k _ ?_, hrun, hended, _, _, rfl, ⟨so, N, ?_, ?_, ?_, ?_⟩, hW.1, hW.2.1, hW.2.2.1, hW.2.2.2.mono hc hs⟩
  · exact retOut X hx hret rfl (Or.inr (Or.inl ⟨rfl, rfl, _, rfl⟩)) (hb hby hd) hr
  · show Keep h0 T.heap ws
    rw [eT]; exact z2
  · show Q _ T.heap so
    rw [eT]; exact hQ
  · show CHr Z EL s.vm s.heap T.vm T.heap
    rw [eT, es]
    exact hC.trans hCT
  · intro x hx
    show x < T.heap.size ∧ Safe Z EL T.vm T.heap x
    rw [eT]; exact ⟨(hF x (hso x hx)).1, hCT.safe (hF x (hso x hx)).1 (hF x (hso x hx)).2⟩
theorem Wl.retA {w : Value} {t : FieldType} {Q : Option Value → Heap → List Addr → Prop} {kk nn : Nat} (G : Wl Z a0 own p l e R s m args below meth c code mx B EL h0 n0 ws sf h cells slots pc L (w :: S)) (hret : meth.sig.returnType = some t) (ht : t.isReference = true) (hw : w.isRef = true) (hlk : meth.locks = false) (hd : decode code pc = .ok (.areturn, 1)) (so : List Addr) (hso : ∀ x ∈ so, x ∈ sf) (hQ : Q (some w) h so) (hc : cells ≤ kk) (hs : slots ≤ nn) : Fin Z EL p e below B s h0 n0 ws kk nn Q := by
  obtain ⟨⟨hx, hby, hml, hEW⟩, ⟨o1, z2, z3, z1, es⟩, v0, k0, T, locs, X, ⟨hS, hk, hZ, hown⟩, ⟨hC, hF⟩, N, eT, k⟩ := G
  obtain ⟨fs, hr, hrun, hended, hW⟩ := X.leaveW hS (by rw [eT]; exact hk) (v := some w) (fun h => by rw [hret] at h; cases h) hlk
  have hCT := CHv.at X hZ hEW hC.1
  refine ⟨_, _, k _ ?_, hrun, hended, _, _, rfl, ⟨so, N, ?_, ?_, ?_, ?_⟩, hW.1, hW.2.1, hW.2.2.1, hW.2.2.2.mono hc hs⟩
  · exact retOut X hx hret (by cases t <;> first | rfl | simp [FieldType.isReference] at ht) (Or.inr (Or.inr (Or.inr (Or.inr ⟨rfl, ht, hw⟩)))) (hb hby hd) hr
  · show Keep h0 T.heap ws
    rw [eT]; exact z2
  · show Q _ T.heap so
    rw [eT]; exact hQ
  · show CHr Z EL s.vm s.heap T.vm T.heap
    rw [eT, es]
    exact hC.trans hCT
  · intro x hx
    show x < T.heap.size ∧ Safe Z EL T.vm T.heap x
    rw [eT]; exact ⟨(hF x (hso x hx)).1, hCT.safe (hF x (hso x hx)).1 (hF x (hso x hx)).2⟩
theorem backL {y : MethodName} {bytes : ByteArray} {maxL : Nat} {ret : Option FieldType} {rm : Room} {len W : Nat} {as' : Array Value} {v0 : Vm} {wsC sfC : List Addr} {Q : Option Value → Heap → List Addr → Prop}
    (hM : Con Z a0 l y bytes maxL ret rm [] as' EL h n0 wsC sfC Q) (hZ : Z.Warmed39 v0) (wc : (Cond.code y bytes maxL ret).before a0 Z = true) (wz : (Cond.initialized y.cls).before a0 Z = true) (hf : rm.frames + 1 ≤ R.frames) (hl : W + (maxL + 11) + rm.locals ≤ R.locals) (hEL : EW Z a0 EL) (H : CHv Z EL v0 h) (hF : ∀ x ∈ sfC, x < h.size ∧ Safe Z EL v0 h x) :
    BackS l R p e below (s.setVm v0) args y len W (fun A a => a = as' ∧ A.U.heap = h ∧ A.cells + rm.cells ≤ R.cells ∧ A.slots + rm.slots ≤ R.slots)
      (fun A _ v B => ∃ LL, (∃ so, Fr n0 LL ∧ Keep h B.U.heap wsC ∧ Q v B.U.heap so ∧ CHr Z EL v0 h B.U.vm B.U.heap ∧ ∀ x ∈ so, x < B.U.heap.size ∧ Safe Z EL B.U.vm B.U.heap x) ∧ B.locs = A.locs ++ LL ∧ B.cells = A.cells + rm.cells ∧ B.slots = A.slots + rm.slots) :=
  BackS.of_freeW (bytes := bytes) (maxL := maxL) (ret := ret) (E := fun _ first o t LL k n => k = rm.cells ∧ n = rm.slots ∧ ∃ v, o = .returned v ∧ ∃ so, Fr n0 LL ∧ Keep h t.heap wsC ∧ Q v t.heap so ∧ CHr Z EL first.vm first.heap t.vm t.heap ∧ ∀ x ∈ so, x < t.heap.size ∧ Safe Z EL t.vm t.heap x) hM hf hl
    (fun m meth c A a Y hp => have hU : Z.Warmed39 A.U.vm := wtrans (s := s.setVm v0) hZ Y.warmed
      ⟨by show (Cond.and _ .tt).before a A.U = true; rw [Cond.before_and, mv hU wc]; rfl, mv hU wc, mv hU wz, hp.2.2.1, hp.2.2.2⟩)
    (fun m meth c A a g mk Y hp => ⟨hp.1, wtrans (s := s.setVm v0) hZ Y.warmed, hp.2.1, (CHv.at Y hZ hEL H).1, fun x hx => ⟨(hF x hx).1, (CHv.at Y hZ hEL H).safe (hF x hx).1 (hF x hx).2⟩⟩) (fun _ _ _ _ _ _ _ _ _ => trivial)
    (fun _ _ _ _ ⟨v, LL, h1, h2, h3⟩ => ⟨LL, _, _, h3, rfl, rfl, v, h1, h2⟩)
    (fun m meth c A a g mk v t LL k n Y hp _ _ ⟨e1, e2, v', e3, so, q1, q2, q3, q4, q5⟩ => by
      cases e3; subst e1 e2
      refine ⟨LL, ⟨so, q1, q2, q3, (CHv.at Y hZ hEL H).trans ?_, q5⟩, rfl, rfl, rfl⟩
      rw [← hp.2.1]; exact q4)
theorem Wl.callS {index : Nat} {y : MethodName} {bytes : ByteArray} {maxL : Nat} {ret : Option FieldType} {rm : Room} {wsC sfC : List Addr} {St : List Value} {Q : Option Value → Heap → List Addr → Prop} (G : Wl Z a0 own p l e R s m args below meth c code mx B EL h0 n0 ws sf h cells slots pc L (St)) (pc' : Nat) (w1 : (Cond.methodLink own index y).before a0 Z = true) (w2 : (Cond.static y).before a0 Z = true) (wz : (Cond.initialized y.cls).before a0 Z = true) (wc : (Cond.code y bytes maxL ret).before a0 Z = true) (hy : y.cls ≠ "java/lang/invoke/MethodHandle" ∧ y.cls ≠ "java/lang/invoke/VarHandle") (argsL rest : List Value) (hst : St = argsL.reverse ++ rest) (hM : Con Z a0 l y bytes maxL ret rm [] argsL.toArray EL h n0 wsC sfC Q) (hlen : ∀ sig, parseMethodDescriptor y.desc = some sig → argsL.length = sig.parameters.length) (hd : decode code pc = .ok (.invokestatic index, 3)) (hz : L.size = mx) (hf : rm.frames + 1 ≤ R.frames) (hl : (rest.map fun v => v.category).sum + (maxL + 11) + rm.locals ≤ R.locals) (hc : cells + rm.cells ≤ R.cells) (hs : slots + rm.slots ≤ R.slots) (hws : ∀ x ∈ wsC, NW h0 ws x) (hsf : ∀ x ∈ sfC, x ∈ sf) (hwf : ∀ x ∈ wsC, x ∈ sf) (hp : pc + 3 = pc') :
    ∃ (v : Option Value) (h' : Heap) (so : List Addr), Wl Z a0 own p l e R s m args below meth c code mx B EL h0 n0 ws (so ++ sf) h' (cells + rm.cells) (slots + rm.slots) pc' L (v.toList ++ rest) ∧ Keep h h' wsC ∧ Q v h' so := by
  have nw := fun x (q : NW h0 ws x) => G.nw q
  obtain ⟨⟨hx, hby, hml, hEW⟩, ⟨o1, z2, z3, z1, es⟩, v0, k0, T, locs, X, ⟨hS, hk, hZ, hown⟩, ⟨hC, hF⟩, N, eT, k⟩ := G
  subst hst
  obtain ⟨v, _, ⟨T', L', k', n'⟩, -, X', hS', g', ⟨Lc, ⟨so, N', K', hQ, C', F'⟩, l', y', z'⟩, st⟩ := callSS X hx (y := y) hown (mvT (s := s.setVm v0) hZ w1) (mvT (s := s.setVm v0) hZ w2) (mvT (s := s.setVm v0) hZ wz) (mvT (s := s.setVm v0) hZ wc) hy (backL (s := s) (W := (rest.map fun v => v.category).sum) hM hZ wc wz hf hl hEW hC.1 (fun x hx => hF x (hsf x hx))) (g := mkF m pc L (argsL.reverse ++ rest)) rfl (hz.trans hml.symm) (argsL := argsL) (rest := rest) hlen rfl (by show 2 * 0 + _ ≤ _; omega) (hb hby hd) (fun _ _ => ⟨rfl, eT, hc, hs⟩)
  dsimp only [Pt.U, Pt.locs, Pt.cells, Pt.slots] at X' hS' g' l' y' z' st N' K' hQ C' F'
  subst l' y' z'
  obtain ⟨X2, hS2, hZ2, hown2⟩ := rebS (s := s) hS (by rw [← eT] at hk; exact hk) X' hS' g' hZ hown
  exact ⟨v, T'.heap, so, ⟨⟨hx, hby, hml, hEW⟩, ⟨o1.keep K' (fun x q => nw x (hws x q)), z2.trans K' hws, z3, z1, es⟩, T'.vm, _, T', _, X2, ⟨hS2, Nat.le_refl _, hZ2, hown2⟩, ⟨hC.trans C', fun x q => (List.mem_append.mp q).elim (F' x) (fun r => ⟨Nat.lt_of_lt_of_le (hF x r).1 K'.1, C'.safe (hF x r).1 (hF x r).2⟩)⟩, N.app N', rfl, fun t q => k t (st.trans (by subst hp; exact q))⟩, K', hQ⟩
theorem Wl.callI {index : Nat} {y : MethodName} {bytes : ByteArray} {maxL : Nat} {ret : Option FieldType} {rm : Room} {wsC sfC : List Addr} {St : List Value} {a : Addr} {Q : Option Value → Heap → List Addr → Prop} (G : Wl Z a0 own p l e R s m args below meth c code mx B EL h0 n0 ws sf h cells slots pc L (St)) (pc' : Nat) (hr : ret = none) (hy1 : y.name = "<init>") (w1 : (Cond.methodLink own index y).before a0 Z = true) (w2 : (Cond.instanceMethod y).before a0 Z = true) (wz : (Cond.initialized y.cls).before a0 Z = true) (wc : (Cond.code y bytes maxL ret).before a0 Z = true) (hy : y.cls ≠ "java/lang/invoke/MethodHandle" ∧ y.cls ≠ "java/lang/invoke/VarHandle") (argsL rest : List Value) (hst : St = argsL.reverse ++ .ref a :: rest) (hM : Con Z a0 l y bytes maxL ret rm [] (.ref a :: argsL).toArray EL h n0 wsC sfC Q) (hlen : ∀ sig, parseMethodDescriptor y.desc = some sig → argsL.length = sig.parameters.length) (hd : decode code pc = .ok (.invokespecial index, 3)) (hz : L.size = mx) (hf : rm.frames + 1 ≤ R.frames) (hl : (rest.map fun v => v.category).sum + (maxL + 11) + rm.locals ≤ R.locals) (hc : cells + rm.cells ≤ R.cells) (hs : slots + rm.slots ≤ R.slots) (hws : ∀ x ∈ wsC, NW h0 ws x) (hsf : ∀ x ∈ sfC, x ∈ sf) (hwf : ∀ x ∈ wsC, x ∈ sf) (hp : pc + 3 = pc') :
    ∃ (v : Option Value) (h' : Heap) (so : List Addr), Wl Z a0 own p l e R s m args below meth c code mx B EL h0 n0 ws (so ++ sf) h' (cells + rm.cells) (slots + rm.slots) pc' L (v.toList ++ rest) ∧ Keep h h' wsC ∧ Q v h' so := by
  have nw := fun x (q : NW h0 ws x) => G.nw q
  obtain ⟨⟨hx, hby, hml, hEW⟩, ⟨o1, z2, z3, z1, es⟩, v0, k0, T, locs, X, ⟨hS, hk, hZ, hown⟩, ⟨hC, hF⟩, N, eT, k⟩ := G
  subst hst
  subst hr
  obtain ⟨v, _, ⟨T', L', k', n'⟩, -, X', hS', g', ⟨Lc, ⟨so, N', K', hQ, C', F'⟩, l', y', z'⟩, st⟩ := X.specialBackS hx (y := y) hy1 hown (mvT (s := s.setVm v0) hZ w1) (mvT (s := s.setVm v0) hZ w2) (mvT (s := s.setVm v0) hZ wc) hy (backL (s := s) (W := (rest.map fun v => v.category).sum) hM hZ wc wz hf hl hEW hC.1 (fun x hx => hF x (hsf x hx))) (g := mkF m pc L (argsL.reverse ++ .ref a :: rest)) rfl (hz.trans hml.symm) (Steps.refl _) (a := a) (argsL := argsL) (rest := rest) hlen rfl (by show 2 * 0 + _ ≤ _; omega) (hb hby hd) (fun _ _ => ⟨rfl, eT, hc, hs⟩)
  dsimp only [Pt.U, Pt.locs, Pt.cells, Pt.slots] at X' hS' g' l' y' z' st N' K' hQ C' F'
  subst l' y' z'
  obtain ⟨X2, hS2, hZ2, hown2⟩ := rebS (s := s) hS (by rw [← eT] at hk; exact hk) X' hS' g' hZ hown
  exact ⟨v, T'.heap, so, ⟨⟨hx, hby, hml, hEW⟩, ⟨o1.keep K' (fun x q => nw x (hws x q)), z2.trans K' hws, z3, z1, es⟩, T'.vm, _, T', _, X2, ⟨hS2, Nat.le_refl _, hZ2, hown2⟩, ⟨hC.trans C', fun x q => (List.mem_append.mp q).elim (F' x) (fun r => ⟨Nat.lt_of_lt_of_le (hF x r).1 K'.1, C'.safe (hF x r).1 (hF x r).2⟩)⟩, N.app N', rfl, fun t q => k t (st.trans (by subst hp; exact q))⟩, K', hQ⟩
theorem Wl.callV {index : Nat} {y : MethodName} {bytes : ByteArray} {maxL : Nat} {ret : Option FieldType} {rm : Room} {wsC sfC : List Addr} {St : List Value} {a : Addr} {C : String} {zz : MethodName} {Q : Option Value → Heap → List Addr → Prop} (G : Wl Z a0 own p l e R s m args below meth c code mx B EL h0 n0 ws sf h cells slots pc L (St)) (pc' : Nat) (w1 : (Cond.methodLink own index y).before a0 Z = true) (w2 : (Cond.declares y).before a0 Z = true) (hnf : ∀ s' : State, Z.Warmed39 s'.vm → NotFace s' y) (w3 : (Cond.selects C y zz).before a0 Z = true) (w4 : (Cond.instanceMethod zz).before a0 Z = true) (wz : (Cond.initialized zz.cls).before a0 Z = true) (wc : (Cond.code zz bytes maxL ret).before a0 Z = true) (Ex : Exa Z h a C) (hy : y.cls ≠ "java/lang/invoke/MethodHandle" ∧ y.cls ≠ "java/lang/invoke/VarHandle") (argsL rest : List Value) (hst : St = argsL.reverse ++ .ref a :: rest) (hM : Con Z a0 l zz bytes maxL ret rm [] (.ref a :: argsL).toArray EL h n0 wsC sfC Q) (hlen : ∀ sig, parseMethodDescriptor y.desc = some sig → argsL.length = sig.parameters.length) (hd : decode code pc = .ok (.invokevirtual index, 3)) (hz : L.size = mx) (hf : rm.frames + 1 ≤ R.frames) (hl : (rest.map fun v => v.category).sum + (maxL + 11) + rm.locals ≤ R.locals) (hc : cells + rm.cells ≤ R.cells) (hs : slots + rm.slots ≤ R.slots) (hws : ∀ x ∈ wsC, NW h0 ws x) (hsf : ∀ x ∈ sfC, x ∈ sf) (hwf : ∀ x ∈ wsC, x ∈ sf) (hp : pc + 3 = pc') :
    ∃ (v : Option Value) (h' : Heap) (so : List Addr), Wl Z a0 own p l e R s m args below meth c code mx B EL h0 n0 ws (so ++ sf) h' (cells + rm.cells) (slots + rm.slots) pc' L (v.toList ++ rest) ∧ Keep h h' wsC ∧ Q v h' so := by
  have nw := fun x (q : NW h0 ws x) => G.nw q
  obtain ⟨⟨hx, hby, hml, hEW⟩, ⟨o1, z2, z3, z1, es⟩, v0, k0, T, locs, X, ⟨hS, hk, hZ, hown⟩, ⟨hC, hF⟩, N, eT, k⟩ := G
  subst hst
  obtain ⟨cq, kq, q1, q2, q3⟩ := isOf (s := s.setVm v0) (T := T) hZ eT Ex
  obtain ⟨v, _, ⟨T', L', k', n'⟩, -, X', hS', g', ⟨Lc, ⟨so, N', K', hQ, C', F'⟩, l', y', z'⟩, st⟩ := X.virtualBackS hx (y := y) (z := zz) hown (mvT (s := s.setVm v0) hZ w1) (mvT (s := s.setVm v0) hZ w2) (hnf (s.setVm v0) hZ) (mvT (s := s.setVm v0) hZ w3) (mvT (s := s.setVm v0) hZ w4) hy (backL (s := s) (W := (rest.map fun v => v.category).sum) hM hZ wc wz hf hl hEW hC.1 (fun x hx => hF x (hsf x hx))) q1 q3 (g := mkF m pc L (argsL.reverse ++ .ref a :: rest)) rfl (hz.trans hml.symm) (Steps.refl _) (argsL := argsL) (rest := rest) hlen rfl (by show 2 * 0 + _ ≤ _; omega) (hb hby hd) (fun _ _ => ⟨rfl, eT, hc, hs⟩)
  dsimp only [Pt.U, Pt.locs, Pt.cells, Pt.slots] at X' hS' g' l' y' z' st N' K' hQ C' F'
  subst l' y' z'
  obtain ⟨X2, hS2, hZ2, hown2⟩ := rebS (s := s) hS (by rw [← eT] at hk; exact hk) X' hS' g' hZ hown
  exact ⟨v, T'.heap, so, ⟨⟨hx, hby, hml, hEW⟩, ⟨o1.keep K' (fun x q => nw x (hws x q)), z2.trans K' hws, z3, z1, es⟩, T'.vm, _, T', _, X2, ⟨hS2, Nat.le_refl _, hZ2, hown2⟩, ⟨hC.trans C', fun x q => (List.mem_append.mp q).elim (F' x) (fun r => ⟨Nat.lt_of_lt_of_le (hF x r).1 K'.1, C'.safe (hF x r).1 (hF x r).2⟩)⟩, N.app N', rfl, fun t q => k t (st.trans (by subst hp; exact q))⟩, K', hQ⟩
theorem Wl.callU {index : Nat} {y : MethodName} {bytes : ByteArray} {maxL : Nat} {ret : Option FieldType} {rm : Room} {wsC sfC : List Addr} {St : List Value} {a : Addr} {C owner : String} {zz : MethodName} {Q : Option Value → Heap → List Addr → Prop} (G : Wl Z a0 own p l e R s m args below meth c code mx B EL h0 n0 ws sf h cells slots pc L (St)) (pc' : Nat) (w1 : (Cond.methodLink own index y).before a0 Z = true) (w2 : (Cond.sameMethod y.cls owner y.name y.desc).before a0 Z = true) (w5 : (Cond.declares ⟨owner, y.name, y.desc⟩).before a0 Z = true) (w3 : (Cond.selects C y zz).before a0 Z = true) (w4 : (Cond.instanceMethod zz).before a0 Z = true) (wz : (Cond.initialized zz.cls).before a0 Z = true) (wc : (Cond.code zz bytes maxL ret).before a0 Z = true) (Ex : Exa Z h a C) (hy : owner ≠ "java/lang/invoke/MethodHandle" ∧ owner ≠ "java/lang/invoke/VarHandle") (argsL rest : List Value) (hst : St = argsL.reverse ++ .ref a :: rest) (hM : Con Z a0 l zz bytes maxL ret rm [] (.ref a :: argsL).toArray EL h n0 wsC sfC Q) (hlen : ∀ sig, parseMethodDescriptor y.desc = some sig → argsL.length = sig.parameters.length) (hd : decode code pc = .ok (.invokevirtual index, 3)) (hz : L.size = mx) (hf : rm.frames + 1 ≤ R.frames) (hl : (rest.map fun v => v.category).sum + (maxL + 11) + rm.locals ≤ R.locals) (hc : cells + rm.cells ≤ R.cells) (hs : slots + rm.slots ≤ R.slots) (hws : ∀ x ∈ wsC, NW h0 ws x) (hsf : ∀ x ∈ sfC, x ∈ sf) (hwf : ∀ x ∈ wsC, x ∈ sf) (hp : pc + 3 = pc') :
    ∃ (v : Option Value) (h' : Heap) (so : List Addr), Wl Z a0 own p l e R s m args below meth c code mx B EL h0 n0 ws (so ++ sf) h' (cells + rm.cells) (slots + rm.slots) pc' L (v.toList ++ rest) ∧ Keep h h' wsC ∧ Q v h' so := by
  have nw := fun x (q : NW h0 ws x) => G.nw q
  obtain ⟨⟨hx, hby, hml, hEW⟩, ⟨o1, z2, z3, z1, es⟩, v0, k0, T, locs, X, ⟨hS, hk, hZ, hown⟩, ⟨hC, hF⟩, N, eT, k⟩ := G
  subst hst
  obtain ⟨cq, kq, q1, q2, q3⟩ := isOf (s := s.setVm v0) (T := T) hZ eT Ex
  obtain ⟨v, _, ⟨T', L', k', n'⟩, -, X', hS', g', ⟨Lc, ⟨so, N', K', hQ, C', F'⟩, l', y', z'⟩, st⟩ := X.virtualBackUpS hx (x := y) (y := zz) hown (mvT (s := s.setVm v0) hZ w1) (mvT (s := s.setVm v0) hZ w2) (mvT (s := s.setVm v0) hZ w5) hy (mvT (s := s.setVm v0) hZ w3) (mvT (s := s.setVm v0) hZ w4) (backL (s := s) (W := (rest.map fun v => v.category).sum) hM hZ wc wz hf hl hEW hC.1 (fun x hx => hF x (hsf x hx))) q1 q3 (g := mkF m pc L (argsL.reverse ++ .ref a :: rest)) rfl (hz.trans hml.symm) (Steps.refl _) (argsL := argsL) (rest := rest) hlen rfl (by show 2 * 0 + _ ≤ _; omega) (hb hby hd) (fun _ _ => ⟨rfl, eT, hc, hs⟩)
  dsimp only [Pt.U, Pt.locs, Pt.cells, Pt.slots] at X' hS' g' l' y' z' st N' K' hQ C' F'
  subst l' y' z'
  obtain ⟨X2, hS2, hZ2, hown2⟩ := rebS (s := s) hS (by rw [← eT] at hk; exact hk) X' hS' g' hZ hown
  exact ⟨v, T'.heap, so, ⟨⟨hx, hby, hml, hEW⟩, ⟨o1.keep K' (fun x q => nw x (hws x q)), z2.trans K' hws, z3, z1, es⟩, T'.vm, _, T', _, X2, ⟨hS2, Nat.le_refl _, hZ2, hown2⟩, ⟨hC.trans C', fun x q => (List.mem_append.mp q).elim (F' x) (fun r => ⟨Nat.lt_of_lt_of_le (hF x r).1 K'.1, C'.safe (hF x r).1 (hF x r).2⟩)⟩, N.app N', rfl, fun t q => k t (st.trans (by subst hp; exact q))⟩, K', hQ⟩
theorem Wl.callF {index : Nat} {y : MethodName} {bytes : ByteArray} {maxL : Nat} {ret : Option FieldType} {rm : Room} {wsC sfC : List Addr} {St : List Value} {a : Addr} {C : String} {count : Nat} {zz : MethodName} {Q : Option Value → Heap → List Addr → Prop} (G : Wl Z a0 own p l e R s m args below meth c code mx B EL h0 n0 ws sf h cells slots pc L (St)) (pc' : Nat) (w1 : (Cond.methodLink own index y).before a0 Z = true) (w2 : (Cond.declares y).before a0 Z = true) (w5 : (Cond.interfaceMethod y.cls y.cls y.name y.desc).before a0 Z = true) (k5 : ((Cond.interfaceMethod y.cls y.cls y.name y.desc).onTables && (Cond.interfaceMethod y.cls y.cls y.name y.desc).keepsFace) = true) (w3 : (Cond.selects C y zz).before a0 Z = true) (w4 : (Cond.instanceMethod zz).before a0 Z = true) (w6 : (Cond.publicMethod zz).before a0 Z = true) (w7 : (Cond.unhidden C y.name y.desc).before a0 Z = true) (w8 : (Cond.castable C y.cls).before a0 Z = true) (wz : (Cond.initialized zz.cls).before a0 Z = true) (wc : (Cond.code zz bytes maxL ret).before a0 Z = true) (Ex : Exa Z h a C) (hy : y.cls ≠ "java/lang/invoke/MethodHandle" ∧ y.cls ≠ "java/lang/invoke/VarHandle") (argsL rest : List Value) (hst : St = argsL.reverse ++ .ref a :: rest) (hM : Con Z a0 l zz bytes maxL ret rm [] (.ref a :: argsL).toArray EL h n0 wsC sfC Q) (hlen : ∀ sig, parseMethodDescriptor y.desc = some sig → argsL.length = sig.parameters.length) (hd : decode code pc = .ok (.invokeinterface index count, 5)) (hz : L.size = mx) (hf : rm.frames + 1 ≤ R.frames) (hl : (rest.map fun v => v.category).sum + (maxL + 11) + rm.locals ≤ R.locals) (hc : cells + rm.cells ≤ R.cells) (hs : slots + rm.slots ≤ R.slots) (hws : ∀ x ∈ wsC, NW h0 ws x) (hsf : ∀ x ∈ sfC, x ∈ sf) (hwf : ∀ x ∈ wsC, x ∈ sf) (hp : pc + 5 = pc') :
    ∃ (v : Option Value) (h' : Heap) (so : List Addr), Wl Z a0 own p l e R s m args below meth c code mx B EL h0 n0 ws (so ++ sf) h' (cells + rm.cells) (slots + rm.slots) pc' L (v.toList ++ rest) ∧ Keep h h' wsC ∧ Q v h' so := by
  have nw := fun x (q : NW h0 ws x) => G.nw q
  obtain ⟨⟨hx, hby, hml, hEW⟩, ⟨o1, z2, z3, z1, es⟩, v0, k0, T, locs, X, ⟨hS, hk, hZ, hown⟩, ⟨hC, hF⟩, N, eT, k⟩ := G
  subst hst
  obtain ⟨cq, kq, q1, q2, q3⟩ := isOf (s := s.setVm v0) (T := T) hZ eT Ex
  obtain ⟨v, _, ⟨T', L', k', n'⟩, -, X', hS', g', ⟨Lc, ⟨so, N', K', hQ, C', F'⟩, l', y', z'⟩, st⟩ := X.interfaceBackS hx (xi := y) (y := zz) hown (mvT (s := s.setVm v0) hZ w1) (mvT (s := s.setVm v0) hZ w2) (mvT (s := s.setVm v0) hZ w5 k5) (mvT (s := s.setVm v0) hZ w3) (mvT (s := s.setVm v0) hZ w4) (mvT (s := s.setVm v0) hZ w6) (mvT (s := s.setVm v0) hZ w7) (mvT (s := s.setVm v0) hZ w8) hy (backL (s := s) (W := (rest.map fun v => v.category).sum) hM hZ wc wz hf hl hEW hC.1 (fun x hx => hF x (hsf x hx))) q1 q2 q3 (g := mkF m pc L (argsL.reverse ++ .ref a :: rest)) rfl (hz.trans hml.symm) (Steps.refl _) (argsL := argsL) (rest := rest) hlen rfl (by show 2 * 0 + _ ≤ _; omega) (hb hby hd) (fun _ _ => ⟨rfl, eT, hc, hs⟩)
  dsimp only [Pt.U, Pt.locs, Pt.cells, Pt.slots] at X' hS' g' l' y' z' st N' K' hQ C' F'
  subst l' y' z'
  obtain ⟨X2, hS2, hZ2, hown2⟩ := rebS (s := s) hS (by rw [← eT] at hk; exact hk) X' hS' g' hZ hown
  exact ⟨v, T'.heap, so, ⟨⟨hx, hby, hml, hEW⟩, ⟨o1.keep K' (fun x q => nw x (hws x q)), z2.trans K' hws, z3, z1, es⟩, T'.vm, _, T', _, X2, ⟨hS2, Nat.le_refl _, hZ2, hown2⟩, ⟨hC.trans C', fun x q => (List.mem_append.mp q).elim (F' x) (fun r => ⟨Nat.lt_of_lt_of_le (hF x r).1 K'.1, C'.safe (hF x r).1 (hF x r).2⟩)⟩, N.app N', rfl, fun t q => k t (st.trans (by subst hp; exact q))⟩, K', hQ⟩
theorem Wl.callSup {index : Nat} {y : MethodName} {bytes : ByteArray} {maxL : Nat} {ret : Option FieldType} {rm : Room} {wsC sfC : List Addr} {St : List Value} {a : Addr} {K : String} {Q : Option Value → Heap → List Addr → Prop} (G : Wl Z a0 own p l e R s m args below meth c code mx B EL h0 n0 ws sf h cells slots pc L (St)) (pc' : Nat) (w1 : (Cond.methodLink own index y).before a0 Z = true) (w2 : (Cond.sameMethod y.cls y.cls y.name y.desc).before a0 Z = true) (w3 : (Cond.instanceMethod y).before a0 Z = true) (w4 : (Cond.superclass own y.cls).before a0 Z = true) (hn : y.name ≠ "<init>") (wz : (Cond.initialized y.cls).before a0 Z = true) (wc : (Cond.code y bytes maxL ret).before a0 Z = true) (Ex : Ins Z h a K true) (argsL rest : List Value) (hst : St = argsL.reverse ++ .ref a :: rest) (hM : Con Z a0 l y bytes maxL ret rm [] (.ref a :: argsL).toArray EL h n0 wsC sfC Q) (hlen : ∀ sig, parseMethodDescriptor y.desc = some sig → argsL.length = sig.parameters.length) (hd : decode code pc = .ok (.invokespecial index, 3)) (hz : L.size = mx) (hf : rm.frames + 1 ≤ R.frames) (hl : (rest.map fun v => v.category).sum + (maxL + 11) + rm.locals ≤ R.locals) (hc : cells + rm.cells ≤ R.cells) (hs : slots + rm.slots ≤ R.slots) (hws : ∀ x ∈ wsC, NW h0 ws x) (hsf : ∀ x ∈ sfC, x ∈ sf) (hwf : ∀ x ∈ wsC, x ∈ sf) (hp : pc + 3 = pc') :
    ∃ (v : Option Value) (h' : Heap) (so : List Addr), Wl Z a0 own p l e R s m args below meth c code mx B EL h0 n0 ws (so ++ sf) h' (cells + rm.cells) (slots + rm.slots) pc' L (v.toList ++ rest) ∧ Keep h h' wsC ∧ Q v h' so := by
  have nw := fun x (q : NW h0 ws x) => G.nw q
  obtain ⟨⟨hx, hby, hml, hEW⟩, ⟨o1, z2, z3, z1, es⟩, v0, k0, T, locs, X, ⟨hS, hk, hZ, hown⟩, ⟨hC, hF⟩, N, eT, k⟩ := G
  subst hst
  obtain ⟨v, _, ⟨T', L', k', n'⟩, -, X', hS', g', ⟨Lc, ⟨so, N', K', hQ, C', F'⟩, l', y', z'⟩, st⟩ := superBackS (s := s.setVm v0) X hx hZ (y := y) hown w1 w2 w3 w4 hn (backL (s := s) (W := (rest.map fun v => v.category).sum) hM hZ wc wz hf hl hEW hC.1 (fun x hx => hF x (hsf x hx))) eT Ex (g := mkF m pc L (argsL.reverse ++ .ref a :: rest)) rfl (hz.trans hml.symm) wc (argsL := argsL) (rest := rest) hlen rfl (by show 2 * 0 + _ ≤ _; omega) (hb hby hd) (fun _ _ => ⟨rfl, eT, hc, hs⟩)
  dsimp only [Pt.U, Pt.locs, Pt.cells, Pt.slots] at X' hS' g' l' y' z' st N' K' hQ C' F'
  subst l' y' z'
  obtain ⟨X2, hS2, hZ2, hown2⟩ := rebS (s := s) hS (by rw [← eT] at hk; exact hk) X' hS' g' hZ hown
  exact ⟨v, T'.heap, so, ⟨⟨hx, hby, hml, hEW⟩, ⟨o1.keep K' (fun x q => nw x (hws x q)), z2.trans K' hws, z3, z1, es⟩, T'.vm, _, T', _, X2, ⟨hS2, Nat.le_refl _, hZ2, hown2⟩, ⟨hC.trans C', fun x q => (List.mem_append.mp q).elim (F' x) (fun r => ⟨Nat.lt_of_lt_of_le (hF x r).1 K'.1, C'.safe (hF x r).1 (hF x r).2⟩)⟩, N.app N', rfl, fun t q => k t (st.trans (by subst hp; exact q))⟩, K', hQ⟩
theorem nfSel {C : String} {y : MethodName} (w3 : (Cond.selects C y y).before a0 Z = true) : ∀ s' : State, Z.Warmed39 s'.vm → NotFace s' y := fun s' hZ => notFace_of_selects (args := #[]) (mvT hZ w3)
theorem Wl.val {v : Option Value} {w : Value} {rest : List Value} (G : Wl Z a0 own p l e R s m args below meth c code mx B EL h0 n0 ws sf h cells slots pc L (v.toList ++ rest)) (q : v = some w) : Wl Z a0 own p l e R s m args below meth c code mx B EL h0 n0 ws sf h cells slots pc L (w :: rest) := by subst q; exact G
theorem Wl.nov {v : Option Value} {rest : List Value} (G : Wl Z a0 own p l e R s m args below meth c code mx B EL h0 n0 ws sf h cells slots pc L (v.toList ++ rest)) (q : v = none) : Wl Z a0 own p l e R s m args below meth c code mx B EL h0 n0 ws sf h cells slots pc L (rest) := by subst q; exact G
theorem Wl.callP {index : Nat} {y : MethodName} {bytes : ByteArray} {maxL : Nat} {ret : Option FieldType} {rm : Room} {wsC sfC : List Addr} {St : List Value} {a : Addr} {C : String} {Q : Option Value → Heap → List Addr → Prop} (G : Wl Z a0 own p l e R s m args below meth c code mx B EL h0 n0 ws sf h cells slots pc L (St)) (pc' : Nat) (w1 : (Cond.methodLink own index y).before a0 Z = true) (w2 : (Cond.instanceMethod y).before a0 Z = true) (w3 : (Cond.selects y.cls y y).before a0 Z = true) (w4 : (Cond.privateMethod y).before a0 Z = true) (wz : (Cond.initialized y.cls).before a0 Z = true) (wc : (Cond.code y bytes maxL ret).before a0 Z = true) (Ex : Exa Z h a C) (hy : y.cls ≠ "java/lang/invoke/MethodHandle" ∧ y.cls ≠ "java/lang/invoke/VarHandle") (argsL rest : List Value) (hst : St = argsL.reverse ++ .ref a :: rest) (hM : Con Z a0 l y bytes maxL ret rm [] (.ref a :: argsL).toArray EL h n0 wsC sfC Q) (hlen : ∀ sig, parseMethodDescriptor y.desc = some sig → argsL.length = sig.parameters.length) (hd : decode code pc = .ok (.invokevirtual index, 3)) (hz : L.size = mx) (hf : rm.frames + 1 ≤ R.frames) (hl : (rest.map fun v => v.category).sum + (maxL + 11) + rm.locals ≤ R.locals) (hc : cells + rm.cells ≤ R.cells) (hs : slots + rm.slots ≤ R.slots) (hws : ∀ x ∈ wsC, NW h0 ws x) (hsf : ∀ x ∈ sfC, x ∈ sf) (hwf : ∀ x ∈ wsC, x ∈ sf) (hp : pc + 3 = pc') :
    ∃ (v : Option Value) (h' : Heap) (so : List Addr), Wl Z a0 own p l e R s m args below meth c code mx B EL h0 n0 ws (so ++ sf) h' (cells + rm.cells) (slots + rm.slots) pc' L (v.toList ++ rest) ∧ Keep h h' wsC ∧ Q v h' so := by
  have nw := fun x (q : NW h0 ws x) => G.nw q
  obtain ⟨⟨hx, hby, hml, hEW⟩, ⟨o1, z2, z3, z1, es⟩, v0, k0, T, locs, X, ⟨hS, hk, hZ, hown⟩, ⟨hC, hF⟩, N, eT, k⟩ := G
  subst hst
  obtain ⟨cellq, kq, q1, -, -, q4, -⟩ := Ex
  obtain ⟨v, _, ⟨T', L', k', n'⟩, -, X', hS', g', ⟨Lc, ⟨so, N', K', hQ, C', F'⟩, l', y', z'⟩, st⟩ := X.privateBackS hx (y := y) hown (mvT (s := s.setVm v0) hZ w1) (mvT (s := s.setVm v0) hZ w2) (mvT (s := s.setVm v0) hZ w3) (Cond.privateMethod_at (args := args) (mvP (s := s.setVm v0) hZ w4)) (mvT (s := s.setVm v0) hZ wc) hy (backL (s := s) (W := (rest.map fun v => v.category).sum) hM hZ wc wz hf hl hEW hC.1 (fun x hx => hF x (hsf x hx))) (g := mkF m pc L (argsL.reverse ++ .ref a :: rest)) rfl (hz.trans hml.symm) (Steps.refl _) (by rw [eT]; exact q1) (fun q r => by rw [r] at q4; cases q4) (argsL := argsL) (rest := rest) hlen rfl (by show 2 * 0 + _ ≤ _; omega) (hb hby hd) (fun _ _ => ⟨rfl, eT, hc, hs⟩)
  dsimp only [Pt.U, Pt.locs, Pt.cells, Pt.slots] at X' hS' g' l' y' z' st N' K' hQ C' F'
  subst l' y' z'
  obtain ⟨X2, hS2, hZ2, hown2⟩ := rebS (s := s) hS (by rw [← eT] at hk; exact hk) X' hS' g' hZ hown
  exact ⟨v, T'.heap, so, ⟨⟨hx, hby, hml, hEW⟩, ⟨o1.keep K' (fun x q => nw x (hws x q)), z2.trans K' hws, z3, z1, es⟩, T'.vm, _, T', _, X2, ⟨hS2, Nat.le_refl _, hZ2, hown2⟩, ⟨hC.trans C', fun x q => (List.mem_append.mp q).elim (F' x) (fun r => ⟨Nat.lt_of_lt_of_le (hF x r).1 K'.1, C'.safe (hF x r).1 (hF x r).2⟩)⟩, N.app N', rfl, fun t q => k t (st.trans (by subst hp; exact q))⟩, K', hQ⟩
theorem declOf {y : MethodName} {bytes : ByteArray} {maxL : Nat} {ret : Option FieldType} (w2 : (Cond.instanceMethod y).before a0 Z = true) (wc : (Cond.code y bytes maxL ret).before a0 Z = true) : (Cond.declares y).before a0 Z = true := by
  obtain ⟨mk, methM, hnamed, hmethM, hstM, -⟩ := Cond.instanceMethod_spec w2
  obtain ⟨methM', cM, hmethM', -, -, -, -, -, -, hsigM⟩ := Cond.code_spec hnamed wc
  cases hmethM.symm.trans hmethM'
  simp [Cond.before, Cond.holds, Cond.value, hnamed, hmethM, hstM, hsigM]
theorem nfVia {C : String} {y y' : MethodName} (hc : y'.cls = y.cls) (w3 : (Cond.selects C y y).before a0 Z = true) (w4 : (Cond.instanceMethod y).before a0 Z = true) : ∀ s' : State, Z.Warmed39 s'.vm → NotFace s' y' := fun s' hZ r0 h0 => by
  obtain ⟨mk, methM, hnamed, -⟩ := Cond.instanceMethod_spec (mv (args := #[]) hZ w4)
  obtain ⟨kr, h1, h2⟩ := notFace_of_selects (args := #[]) (mvT hZ w3) mk hnamed
  have e1 := findClass_of_methodNamed hnamed
  have e2 := findClass_of_methodNamed h0
  rw [hc] at e2
  have e3 := Option.some.inj (e1.symm.trans e2)
  exact ⟨kr, by rw [← e3]; exact h1, h2⟩
theorem sameOf {y : MethodName} (w2 : (Cond.instanceMethod y).before a0 Z = true) (nf : ∀ s' : State, Z.Warmed39 s'.vm → NotFace s' y) (hy : y.cls ≠ "java/lang/invoke/MethodHandle" ∧ y.cls ≠ "java/lang/invoke/VarHandle") : (Cond.sameMethod y.cls y.cls y.name y.desc).before a0 Z = true := by
  obtain ⟨mk, methM, hnamed, -⟩ := Cond.instanceMethod_spec w2
  obtain ⟨kr, h1, h2⟩ := nf Z (State.Warmed39.refl Z) mk hnamed
  have e1 := findClass_of_methodNamed hnamed
  have e2 := State.methodFound?_of_named hnamed hy
  have e3 : Z.methodNamed? ⟨y.cls, y.name, y.desc⟩ = some mk := hnamed
  simp [Cond.before, Cond.holds, Cond.value, e1, e2, e3, h1, h2]
theorem Wl.ccast {K : String} {index : Nat} {a : Addr} (G : Wl Z a0 own p l e R s m args below meth c code mx B EL h0 n0 ws sf h cells slots pc L (.ref a :: S)) (pc' : Nat) (w : (Cond.classLink own index K).before a0 Z = true) (F : Ins Z h a K true) (hd : decode code pc = .ok (.checkcast index, 3)) (hp : pc + 3 = pc') : Wl Z a0 own p l e R s m args below meth c code mx B EL h0 n0 ws sf h cells slots pc' L (.ref a :: S) := by
  obtain ⟨⟨hx, hby, hml, hEW⟩, ⟨o1, z2, z3, z1, es⟩, v0, k0, T, locs, X, ⟨hS, hk, hZ, hown⟩, ⟨hC, hF⟩, N, eT, k⟩ := G
  obtain ⟨T', X', e', st⟩ := castY (s := s.setVm v0) X hx hZ hown w eT F (g := mkF m pc L (.ref a :: S)) rfl rfl (hb hby hd)
  exact ⟨⟨hx, hby, hml, hEW⟩, ⟨o1, z2, z3, z1, es⟩, v0, k0, T', _, X', ⟨hS, hk, hZ, hown⟩, ⟨hC, hF⟩, N, e', fun t q => k t (st t (by subst hp; exact q))⟩
theorem Wl.instY {K : String} {index : Nat} {a : Addr} (G : Wl Z a0 own p l e R s m args below meth c code mx B EL h0 n0 ws sf h cells slots pc L (.ref a :: S)) (pc' : Nat) (w : (Cond.classLink own index K).before a0 Z = true) (F : Ins Z h a K true) (hd : decode code pc = .ok (.instanceof index, 3)) (hp : pc + 3 = pc') : Wl Z a0 own p l e R s m args below meth c code mx B EL h0 n0 ws sf h cells slots pc' L (.int 1 :: S) := by
  obtain ⟨⟨hx, hby, hml, hEW⟩, ⟨o1, z2, z3, z1, es⟩, v0, k0, T, locs, X, ⟨hS, hk, hZ, hown⟩, ⟨hC, hF⟩, N, eT, k⟩ := G
  obtain ⟨T', X', e', st⟩ := Jvm.RoadKit.instY (s := s.setVm v0) X hx hZ hown w eT F (g := mkF m pc L (.ref a :: S)) rfl rfl (hb hby hd)
  exact ⟨⟨hx, hby, hml, hEW⟩, ⟨o1, z2, z3, z1, es⟩, v0, k0, T', _, X', ⟨hS, hk, hZ, hown⟩, ⟨hC, hF⟩, N, e', fun t q => k t (st t (by subst hp; exact q))⟩
theorem Wl.cpy {index : Nat} {a b : Addr} {k k' : ClassId} {ty : FieldType} {z z' sp dp nn : Int32} {vs vd : List Value} {dv dd : Value} (G : Wl Z a0 own p l e R s m args below meth c code mx B EL h0 n0 ws sf h cells slots pc L (.int nn :: .int dp :: .ref b :: .int sp :: .ref a :: S)) (pc' : Nat) (w1 : (Cond.methodLink own index Jvm.Stand.acN).before a0 Z = true) (w2 : (Cond.native Jvm.Stand.acN).before a0 Z = true) (w3 : (Cond.static Jvm.Stand.acN).before a0 Z = true) (w4 : (Cond.initialized "java/lang/System").before a0 Z = true) (A : Arv Z h a k ty z vs dv) (B' : Arv Z h b k' ty z' vd dd) (hr : refKind ty = false) (h1 : ¬ sp < 0) (h2 : ¬ dp < 0) (h3 : ¬ nn < 0) (h4 : sp.toNatClampNeg + nn.toNatClampNeg ≤ z.toNatClampNeg) (h5 : dp.toNatClampNeg + nn.toNatClampNeg ≤ z'.toNatClampNeg) (hl : dp.toNatClampNeg + nn.toNatClampNeg ≤ vd.length) (q : NW h0 ws b) (qs : b ∈ sf) (hd : decode code pc = .ok (.invokestatic index, 3)) (hz : L.size = mx) (hf : 1 ≤ R.frames) (hlo : (S.map fun v => v.category).sum + (nativeFrameWords "java/lang/System" "arraycopy" 5 + 11) ≤ R.locals) (hp : pc + 3 = pc') : ∃ (h' : Heap), Wl Z a0 own p l e R s m args below meth c code mx B EL h0 n0 ws sf h' cells slots pc' L S ∧ Arv Z h' b k' ty z' (vd.take dp.toNatClampNeg ++ ((List.range nn.toNatClampNeg).map fun i => vs.getD (sp.toNatClampNeg + i) dv) ++ vd.drop (dp.toNatClampNeg + nn.toNatClampNeg)) dd ∧ Keep h h' [b] := by
  have qn := G.nw q
  obtain ⟨⟨hx, hby, hml, hEW⟩, ⟨o1, z2, z3, z1, es⟩, v0, k0, T, locs, X, ⟨hS, hk, hZ, hown⟩, ⟨hC, hF⟩, N, eT, k⟩ := G
  obtain ⟨T', h', LL, X', e', N', K', A', st⟩ := cpA (s := s.setVm v0) X hx hZ hown w1 w2 w3 w4 eT A B' (Or.inl ⟨rfl, hr⟩) h1 h2 h3 h4 h5 rfl hl N qn (g := mkF m pc L (.int nn :: .int dp :: .ref b :: .int sp :: .ref a :: S)) rfl (hz.trans hml.symm) rfl (hb hby hd) hf (W := (S.map fun v => v.category).sum) (by show 2 * 0 + _ ≤ _; omega) hlo
  have hsb : ∀ x ∈ [b], Safe Z EL v0 h x := fun x y => by cases List.mem_singleton.mp y; exact (hF _ qs).2
  exact ⟨h', ⟨⟨hx, hby, hml, hEW⟩, ⟨o1.keep K' (allS qn all0), z2.trans K' (allS q all0), z3, z1, es⟩, v0, k0, T', _, X', ⟨hS, Nat.le_trans hk K'.1, hZ, hown⟩, ⟨hC.trans (CHr.keep K' hsb hC.1), safeKeep K' hsb hC.1 hF⟩, N', e', fun t q => k t (st t (by subst hp; exact q))⟩, A', K'⟩
theorem Wl.ldcS {index : Nat} {text : String} {vs : List Value} {z : Int32} (G : Wl Z a0 own p l e R s m args below meth c code mx B EL h0 n0 ws sf h cells slots pc L S) (pc' : Nat) (w : (Cond.stringLink own index text).before a0 Z = true) (wS : ∀ a ∈ Bundle.stringAtoms, a.before a0 Z = true) (hmem : (own, index) ∈ EL) (ht : (∀ c ∈ text.toList, c.toNat < 256) ∧ text.toList.map (fun c => Value.int (Jvm.Lit.byteI c.toNat.toUInt16)) = vs) (hz : ¬ z < 0) (hl : z.toNatClampNeg = vs.length) (hd : decode code pc = .ok (.ldc index, 2)) (n : Nat) (hn : 4 * text.toList.length ≤ n) (hbig : n ≤ 536870912) (hc : cells + 2 ≤ R.cells) (hl' : slots + (n + 4) ≤ R.slots) (hp : pc + 2 = pc') : ∃ (a b : Addr) (h' : Heap) (kk : ClassId), Wl Z a0 own p l e R s m args below meth c code mx B EL h0 n0 ws sf h' (cells + 2) (slots + (n + 4)) pc' L (.ref a :: S) ∧ Ext h h' ∧ Exa Z h' a "java/lang/String" ∧ Fld Z h' a "java/lang/String" "coder" "B" (.int 0) ∧ Fld Z h' a "java/lang/String" "value" "[B" (.ref b) ∧ Arv Z h' b kk .byte z vs (.int 0) ∧ ∀ x ∈ sf, x ≠ a ∧ x ≠ b := by
  obtain ⟨⟨hx, hby, hml, hEW⟩, ⟨o1, z2, z3, z1, es⟩, v0, k0, T, locs, X, ⟨hS, hk, hZ, hown⟩, ⟨hC, hF⟩, N, eT, k⟩ := G
  obtain ⟨a, T', h', k1, b, kk, X', e', E, hS', hk', hZ', hown', Ex, Fc, Fv, A, -, -, C', -, hne, st⟩ := ldcCH X hx hZ hown w wS eT hS hk hEW hmem hC.1 ht hz hl (g := mkF m pc L S) rfl (hb hby hd) hn hbig hc hl'
  have hF' : ∀ x ∈ sf, x < h'.size ∧ Safe Z EL T'.vm h' x := fun x q => ⟨Nat.lt_of_lt_of_le (hF x q).1 E.1, C'.safe (hF x q).1 (hF x q).2⟩
  exact ⟨a, b, h', kk, ⟨⟨hx, hby, hml, hEW⟩, ⟨o1.ext E, z2.ext E, z3, z1, es⟩, T'.vm, k1, T', _, X', ⟨hS', hk', hZ', hown'⟩, ⟨hC.trans C', hF'⟩, N, e', fun t q => k t (st t (by subst hp; exact q))⟩, E, Ex, Fc, Fv, A, fun x q => hne x (hF' x q).2⟩
end OwnL
end Jvm.OwnL
namespace Jvm.Pilot.@@N@@
open Jvm Jvm.ClassFile Sem Op Lib Jvm.Free Jvm.Free.Fl Jvm.Stand Jvm.LawKit Jvm.RoadKit Jvm.OwnL Bundle Jvm.Pilot.@@N@@.Jvm.D
set_option maxRecDepth 65536
set_option maxHeartbeats 40000000
theorem nle {a b : Nat} (h : Nat.ble a b = true) : a ≤ b := Nat.le_of_ble_eq_true h
theorem mm {α : Type} {l : List α} {a : α} (i : Nat) (h : l[i]? = some a) : a ∈ l := List.mem_of_getElem? h
theorem ofn_int {n : Nat} (h : n < 2147483648) : (Int32.ofNat n).toInt = (n : Int) := Int32.toInt_ofNat_small h
theorem ofn_nat {n : Nat} (h : n < 2147483648) : (Int32.ofNat n).toNatClampNeg = n := by simp only [Int32.toNatClampNeg, ofn_int h]; omega
theorem ofn_nn {n : Nat} (h : n < 2147483648) : ¬ Int32.ofNat n < 0 := by
  rw [Int32.lt_iff_toInt_lt, ofn_int h]; show ¬ (n : Int) < 0; omega
theorem ofn_lt {i n : Nat} (hi : i < n) (h : n < 2147483648) : Int32.ofNat i < Int32.ofNat n := by
  rw [Int32.lt_iff_toInt_lt, ofn_int h, ofn_int (by omega)]; omega
theorem ofn_nlt {i n : Nat} (hi : n ≤ i) (h : i < 2147483648) : ¬ Int32.ofNat i < Int32.ofNat n := by
  rw [Int32.lt_iff_toInt_lt, ofn_int h, ofn_int (by omega)]; omega
theorem ofn_ne {i n : Nat} (hi : i ≠ n) (h1 : i < 2147483648) (h2 : n < 2147483648) : ¬ Int32.ofNat i = Int32.ofNat n := fun q => hi (by
  have := congrArg Int32.toInt q; rw [ofn_int h1, ofn_int h2] at this; omega)
theorem ofn_add (a b : Nat) : Int32.ofNat a + Int32.ofNat b = Int32.ofNat (a + b) := (Int32.ofNat_add a b).symm
theorem ofn_sub {a b : Nat} (h : b ≤ a) (ha : a < 2147483648) : Int32.ofNat a - Int32.ofNat b = Int32.ofNat (a - b) := by
  apply Int32.toInt_inj.mp
  have e := c_isub (Int32.ofNat a) (Int32.ofNat b)
  have r := rng32 (Int32.ofNat a - Int32.ofNat b)
  rw [ofn_int ha, ofn_int (by omega)] at e
  rw [ofn_int (by omega)]; omega
theorem ofn_le0 {a b : Nat} (h : a ≤ b) (hb : b < 2147483648) : ¬ 0 < Int32.ofNat a - Int32.ofNat b := by
  have e := c_isub (Int32.ofNat a) (Int32.ofNat b)
  have r := rng32 (Int32.ofNat a - Int32.ofNat b)
  rw [ofn_int (by omega), ofn_int hb] at e
  rw [Int32.lt_iff_toInt_lt]; show ¬ (0 : Int) < _; omega
theorem shr0 (x : Int32) : x >>> ((0 : Int32) &&& 31) = x := by
  apply Int32.toInt_inj.mp; rw [c_ishr x 0 0 rfl]; simp
theorem shl0 (x : Int32) : x <<< ((0 : Int32) &&& 31) = x := by
  have e : (0 : Int32) &&& 31 = 0 := by decide
  have f := c_ishl x 0 0 rfl
  have r := rng32 (x <<< ((0 : Int32) &&& 31)); have r2 := rng32 x
  rw [show ((2 ^ 0 : Nat) : Int) = 1 from rfl, Int.mul_one] at f
  apply Int32.toInt_inj.mp; omega
theorem byt2 (x : Int32) : x.toInt8.toInt32.toInt8.toInt32 = x.toInt8.toInt32 := by simp
theorem sub0 (x : Int32) : x - 0 = x := by simp
theorem ofn_succ (i : Nat) : Int32.ofNat i + Int32.ofInt 1 = Int32.ofNat (i + 1) := (Int32.ofNat_add i 1).symm
theorem cpy_res (bs cs : List Value) (d : Value) : ((bs ++ List.replicate cs.length d).take bs.length ++ ((List.range cs.length).map fun i => cs.getD (0 + i) d) ++ (bs ++ List.replicate cs.length d).drop (bs.length + cs.length)) = bs ++ cs := by
  have e1 : (bs ++ List.replicate cs.length d).take bs.length = bs := by simp
  have e2 : (bs ++ List.replicate cs.length d).drop (bs.length + cs.length) = [] := List.drop_eq_nil_of_le (by simp)
  have e3 : ((List.range cs.length).map fun i => cs.getD (0 + i) d) = cs := by
    apply List.ext_getElem?
    intro i
    by_cases h : i < cs.length
    · simp [h]
    · simp [h, List.getElem?_eq_none (Nat.le_of_not_lt h)]
  rw [e1, e2, e3]; simp
def bytV (c : Int32) : Value := .int c.toInt8.toInt32
theorem tk_succ {α : Type} (cs : List Int32) (f : Int32 → α) (i : Nat) (h : i < cs.length) : (cs.take (i + 1)).map f = (cs.take i).map f ++ [f (cs.getD i 0)] := by
  rw [List.take_add_one, List.map_append]; simp [h]
theorem set_app (l : List Value) (d x : Value) (i : Nat) (h : l.length = i) : (l ++ [d]).set i x = l ++ [x] := by subst h; simp
theorem getD_mem (cs : List Int32) (i : Nat) (h : i < cs.length) : cs.getD i 0 ∈ cs := by simp [h]
theorem getD_map (cs : List Int32) (i : Nat) (h : i < cs.length) : (cs.map Value.int).getD i (.int 0) = .int (cs.getD i 0) := by simp [h]
theorem getD_mapB (cs : List Int32) (i : Nat) (h : i < cs.length) : (cs.map bytV).getD i (.int 0) = bytV (cs.getD i 0) := by simp [h]
theorem cod0 (x : Int32) : XT.ushr (x - x) 31 = 0 := by
  have e : x - x = 0 := by simp
  rw [e]; decide
/-- a Latin-1 String: the object a, its array b, its bytes -/
def Str (Z : State) (h : Heap) (a b : Addr) (bs : List Value) : Prop := Exa Z h a "java/lang/String" ∧ Fld Z h a "java/lang/String" "coder" "B" (.int 0) ∧ Fld Z h a "java/lang/String" "value" "[B" (.ref b) ∧ ∃ k, Arv Z h b k .byte (Int32.ofNat bs.length) bs (.int 0)
theorem Str.ext {Z : State} {h h' : Heap} {a b : Addr} {bs : List Value} (F : Str Z h a b bs) (E : Ext h h') : Str Z h' a b bs := by obtain ⟨h1, h2, h3, k, h4⟩ := F; exact ⟨h1.ext E, h2.ext E, h3.ext E, k, h4.ext E⟩
theorem Str.keep {Z : State} {h h' : Heap} {a b : Addr} {bs : List Value} {ws : List Addr} (F : Str Z h a b bs) (K : Keep h h' ws) (q : a ∉ ws) (r : b ∉ ws) : Str Z h' a b bs := by obtain ⟨h1, h2, h3, k, h4⟩ := F; exact ⟨h1.keep K, h2.keep K q, h3.keep K q, k, h4.keep K r⟩
/-- a StringBuilder: the object a, its array b of cap bytes, its bytes so far -/
def Sbd (Z : State) (h : Heap) (a b : Addr) (cap : Nat) (bs : List Value) : Prop := Exa Z h a "java/lang/StringBuilder" ∧ Fld Z h a "java/lang/AbstractStringBuilder" "value" "[B" (.ref b) ∧ Fld Z h a "java/lang/AbstractStringBuilder" "coder" "B" (.int 0) ∧ Fld Z h a "java/lang/AbstractStringBuilder" "count" "I" (.int (Int32.ofNat bs.length)) ∧ ∃ k, Arv Z h b k .byte (Int32.ofNat cap) bs (.int 0)
theorem Sbd.ext {Z : State} {h h' : Heap} {a b : Addr} {cap : Nat} {bs : List Value} (F : Sbd Z h a b cap bs) (E : Ext h h') : Sbd Z h' a b cap bs := by obtain ⟨h1, h2, h3, h4, k, h5⟩ := F; exact ⟨h1.ext E, h2.ext E, h3.ext E, h4.ext E, k, h5.ext E⟩
theorem Sbd.keep {Z : State} {h h' : Heap} {a b : Addr} {cap : Nat} {bs : List Value} {ws : List Addr} (F : Sbd Z h a b cap bs) (K : Keep h h' ws) (q : a ∉ ws) (r : b ∉ ws) : Sbd Z h' a b cap bs := by obtain ⟨h1, h2, h3, h4, k, h5⟩ := F; exact ⟨h1.keep K, h2.keep K q, h3.keep K q, h4.keep K q, k, h5.keep K r⟩
theorem Str.lt {Z : State} {h : Heap} {a b : Addr} {bs : List Value} (F : Str Z h a b bs) : a < h.size := F.1.lt
theorem Str.ltb {Z : State} {h : Heap} {a b : Addr} {bs : List Value} (F : Str Z h a b bs) : b < h.size := by obtain ⟨-, -, -, k, h4⟩ := F; exact h4.lt
theorem Sbd.lt {Z : State} {h : Heap} {a b : Addr} {cap : Nat} {bs : List Value} (F : Sbd Z h a b cap bs) : a < h.size := F.1.lt
theorem Sbd.ltb {Z : State} {h : Heap} {a b : Addr} {cap : Nat} {bs : List Value} (F : Sbd Z h a b cap bs) : b < h.size := by obtain ⟨-, -, -, -, k, h4⟩ := F; exact h4.lt
def dOnes : List Value := (List.range 100).map fun j => .int (Int32.ofNat (48 + j % 10))
def dTens : List Value := (List.range 100).map fun j => .int (Int32.ofNat (48 + j / 10))
theorem dOnes_at {r : Nat} (h : r < 100) : dOnes.getD r (.int 0) = .int (Int32.ofNat (48 + r % 10)) := by simp [dOnes, h]
theorem dTens_at {r : Nat} (h : r < 100) : dTens.getD r (.int 0) = .int (Int32.ofNat (48 + r / 10)) := by simp [dTens, h]
def dg (N k : Nat) : Value := .int (Int32.ofNat (48 + N / 10 ^ k % 10))
theorem dig_b {e : Nat} (h : e < 10) : (Int32.ofNat (48 + e)).toInt8.toInt32 = Int32.ofNat (48 + e) := by
  have : e = 0 ∨ e = 1 ∨ e = 2 ∨ e = 3 ∨ e = 4 ∨ e = 5 ∨ e = 6 ∨ e = 7 ∨ e = 8 ∨ e = 9 := by omega
  rcases this with rfl | rfl | rfl | rfl | rfl | rfl | rfl | rfl | rfl | rfl <;> decide
theorem ofn_pred (k : Nat) : Int32.ofNat (k + 1) + Int32.ofInt (-1) = Int32.ofNat k := by
  rw [Int32.ofNat_add]; show Int32.ofNat k + 1 + -1 = _; rw [Int32.add_assoc]; simp
theorem set_app2 (bs Ld : List Value) (j n : Nat) (x : Value) (h : n = bs.length + j) : (bs ++ Ld).set n x = bs ++ Ld.set j x := by subst h; simp [List.set_append]
theorem ng_int {M : Nat} (h : M < 2147483648) : (-(Int32.ofNat M)).toInt = -(M : Int) := by
  have e := c_ineg (Int32.ofNat M); have r := rng32 (-(Int32.ofNat M)); rw [ofn_int h] at e; omega
theorem ng_div {M : Nat} (h : M < 2147483648) : -(Int32.ofNat M) / 100 = -(Int32.ofNat (M / 100)) := by
  apply Int32.toInt_inj.mp
  have e := c_idiv (-(Int32.ofNat M)) 100 100 rfl (by decide)
  rw [ng_int h] at e
  rw [ng_int (by omega)]
  by_cases h0 : M = 0
  · subst h0; have := e.1 (by decide); rw [this]; decide
  · rw [e.2 (by omega)]; omega
theorem ng_rem {M : Nat} (h : M < 2147483648) : -(Int32.ofNat (M / 100)) * 100 - -(Int32.ofNat M) = Int32.ofNat (M % 100) := by
  apply Int32.toInt_inj.mp
  have e1 := c_imul (-(Int32.ofNat (M / 100))) 100
  have e2 := c_isub (-(Int32.ofNat (M / 100)) * 100) (-(Int32.ofNat M))
  have r1 := rng32 (-(Int32.ofNat (M / 100)) * 100); have r2 := rng32 (-(Int32.ofNat (M / 100)) * 100 - -(Int32.ofNat M))
  rw [ng_int (by omega), show (100 : Int32).toInt = 100 from rfl] at e1
  rw [ng_int h] at e2
  rw [ofn_int (by omega)]; omega
theorem ng_lt {M : Nat} {k : Int32} {K : Int} (h : M < 2147483648) (hk : k.toInt = K) (q : -(M : Int) < K) : -(Int32.ofNat M) < k := by rw [Int32.lt_iff_toInt_lt, ng_int h, hk]; exact q
theorem ng_nlt {M : Nat} {k : Int32} {K : Int} (h : M < 2147483648) (hk : k.toInt = K) (q : K ≤ -(M : Int)) : ¬ -(Int32.ofNat M) < k := by rw [Int32.lt_iff_toInt_lt, ng_int h, hk]; omega
theorem ng_gt {M : Nat} {k : Int32} {K : Int} (h : M < 2147483648) (hk : k.toInt = K) (q : K < -(M : Int)) : k < -(Int32.ofNat M) := by rw [Int32.lt_iff_toInt_lt, ng_int h, hk]; exact q
theorem ng_ngt {M : Nat} {k : Int32} {K : Int} (h : M < 2147483648) (hk : k.toInt = K) (q : -(M : Int) ≤ K) : ¬ k < -(Int32.ofNat M) := by rw [Int32.lt_iff_toInt_lt, ng_int h, hk]; omega
def nd (N : Nat) : Nat := if N < 10 then 1 else if N < 100 then 2 else if N < 1000 then 3 else if N < 10000 then 4 else if N < 100000 then 5 else if N < 1000000 then 6 else if N < 10000000 then 7 else if N < 100000000 then 8 else if N < 1000000000 then 9 else 10
def digs (N : Nat) : List Value := (List.range (nd N)).map fun j => dg N (nd N - 1 - j)
theorem nd_cases {N : Nat} (h : N < 2147483648) : (0 ≤ N ∧ N < 10) ∨ (10 ≤ N ∧ N < 100) ∨ (100 ≤ N ∧ N < 1000) ∨ (1000 ≤ N ∧ N < 10000) ∨ (10000 ≤ N ∧ N < 100000) ∨ (100000 ≤ N ∧ N < 1000000) ∨ (1000000 ≤ N ∧ N < 10000000) ∨ (10000000 ≤ N ∧ N < 100000000) ∨ (100000000 ≤ N ∧ N < 1000000000) ∨ (1000000000 ≤ N ∧ N < 2147483648) := by omega
theorem digs_len (N : Nat) : (digs N).length = nd N := by simp [digs]
theorem digs_at {N k : Nat} (h : k < nd N) : (digs N).getD k (.int 0) = dg N (nd N - 1 - k) := by simp [digs, h]
theorem nd_1 {N : Nat} (hlo : 0 ≤ N) (hhi : N < 10) : nd N = 1 := by unfold nd;  rw [if_pos (by omega)]
theorem digs_1 {N : Nat} (hlo : 0 ≤ N) (hhi : N < 10) : digs N = [dg N 0] := by unfold digs; rw [nd_1 hlo hhi]; rfl
theorem nd_2 {N : Nat} (hlo : 10 ≤ N) (hhi : N < 100) : nd N = 2 := by unfold nd; rw [if_neg (by omega)]; rw [if_pos (by omega)]
theorem digs_2 {N : Nat} (hlo : 10 ≤ N) (hhi : N < 100) : digs N = [dg N 1, dg N 0] := by unfold digs; rw [nd_2 hlo hhi]; rfl
theorem nd_3 {N : Nat} (hlo : 100 ≤ N) (hhi : N < 1000) : nd N = 3 := by unfold nd; rw [if_neg (by omega)]; rw [if_neg (by omega)]; rw [if_pos (by omega)]
theorem digs_3 {N : Nat} (hlo : 100 ≤ N) (hhi : N < 1000) : digs N = [dg N 2, dg N 1, dg N 0] := by unfold digs; rw [nd_3 hlo hhi]; rfl
theorem nd_4 {N : Nat} (hlo : 1000 ≤ N) (hhi : N < 10000) : nd N = 4 := by unfold nd; rw [if_neg (by omega)]; rw [if_neg (by omega)]; rw [if_neg (by omega)]; rw [if_pos (by omega)]
theorem digs_4 {N : Nat} (hlo : 1000 ≤ N) (hhi : N < 10000) : digs N = [dg N 3, dg N 2, dg N 1, dg N 0] := by unfold digs; rw [nd_4 hlo hhi]; rfl
theorem nd_5 {N : Nat} (hlo : 10000 ≤ N) (hhi : N < 100000) : nd N = 5 := by unfold nd; rw [if_neg (by omega)]; rw [if_neg (by omega)]; rw [if_neg (by omega)]; rw [if_neg (by omega)]; rw [if_pos (by omega)]
theorem digs_5 {N : Nat} (hlo : 10000 ≤ N) (hhi : N < 100000) : digs N = [dg N 4, dg N 3, dg N 2, dg N 1, dg N 0] := by unfold digs; rw [nd_5 hlo hhi]; rfl
theorem nd_6 {N : Nat} (hlo : 100000 ≤ N) (hhi : N < 1000000) : nd N = 6 := by unfold nd; rw [if_neg (by omega)]; rw [if_neg (by omega)]; rw [if_neg (by omega)]; rw [if_neg (by omega)]; rw [if_neg (by omega)]; rw [if_pos (by omega)]
theorem digs_6 {N : Nat} (hlo : 100000 ≤ N) (hhi : N < 1000000) : digs N = [dg N 5, dg N 4, dg N 3, dg N 2, dg N 1, dg N 0] := by unfold digs; rw [nd_6 hlo hhi]; rfl
theorem nd_7 {N : Nat} (hlo : 1000000 ≤ N) (hhi : N < 10000000) : nd N = 7 := by unfold nd; rw [if_neg (by omega)]; rw [if_neg (by omega)]; rw [if_neg (by omega)]; rw [if_neg (by omega)]; rw [if_neg (by omega)]; rw [if_neg (by omega)]; rw [if_pos (by omega)]
theorem digs_7 {N : Nat} (hlo : 1000000 ≤ N) (hhi : N < 10000000) : digs N = [dg N 6, dg N 5, dg N 4, dg N 3, dg N 2, dg N 1, dg N 0] := by unfold digs; rw [nd_7 hlo hhi]; rfl
theorem nd_8 {N : Nat} (hlo : 10000000 ≤ N) (hhi : N < 100000000) : nd N = 8 := by unfold nd; rw [if_neg (by omega)]; rw [if_neg (by omega)]; rw [if_neg (by omega)]; rw [if_neg (by omega)]; rw [if_neg (by omega)]; rw [if_neg (by omega)]; rw [if_neg (by omega)]; rw [if_pos (by omega)]
theorem digs_8 {N : Nat} (hlo : 10000000 ≤ N) (hhi : N < 100000000) : digs N = [dg N 7, dg N 6, dg N 5, dg N 4, dg N 3, dg N 2, dg N 1, dg N 0] := by unfold digs; rw [nd_8 hlo hhi]; rfl
theorem nd_9 {N : Nat} (hlo : 100000000 ≤ N) (hhi : N < 1000000000) : nd N = 9 := by unfold nd; rw [if_neg (by omega)]; rw [if_neg (by omega)]; rw [if_neg (by omega)]; rw [if_neg (by omega)]; rw [if_neg (by omega)]; rw [if_neg (by omega)]; rw [if_neg (by omega)]; rw [if_neg (by omega)]; rw [if_pos (by omega)]
theorem digs_9 {N : Nat} (hlo : 100000000 ≤ N) (hhi : N < 1000000000) : digs N = [dg N 8, dg N 7, dg N 6, dg N 5, dg N 4, dg N 3, dg N 2, dg N 1, dg N 0] := by unfold digs; rw [nd_9 hlo hhi]; rfl
theorem nd_10 {N : Nat} (hlo : 1000000000 ≤ N) (hhi : N < 2147483648) : nd N = 10 := by unfold nd; rw [if_neg (by omega)]; rw [if_neg (by omega)]; rw [if_neg (by omega)]; rw [if_neg (by omega)]; rw [if_neg (by omega)]; rw [if_neg (by omega)]; rw [if_neg (by omega)]; rw [if_neg (by omega)]; rw [if_neg (by omega)];
theorem digs_10 {N : Nat} (hlo : 1000000000 ≤ N) (hhi : N < 2147483648) : digs N = [dg N 9, dg N 8, dg N 7, dg N 6, dg N 5, dg N 4, dg N 3, dg N 2, dg N 1, dg N 0] := by unfold digs; rw [nd_10 hlo hhi]; rfl
theorem nd_le {N : Nat} (h : N < 2147483648) : 1 ≤ nd N ∧ nd N ≤ 10 := by
  rcases nd_cases h with ⟨q1, q2⟩ | ⟨q1, q2⟩ | ⟨q1, q2⟩ | ⟨q1, q2⟩ | ⟨q1, q2⟩ | ⟨q1, q2⟩ | ⟨q1, q2⟩ | ⟨q1, q2⟩ | ⟨q1, q2⟩ | ⟨q1, q2⟩
  · rw [nd_1 q1 q2]; exact ⟨by decide, by decide⟩
  · rw [nd_2 q1 q2]; exact ⟨by decide, by decide⟩
  · rw [nd_3 q1 q2]; exact ⟨by decide, by decide⟩
  · rw [nd_4 q1 q2]; exact ⟨by decide, by decide⟩
  · rw [nd_5 q1 q2]; exact ⟨by decide, by decide⟩
  · rw [nd_6 q1 q2]; exact ⟨by decide, by decide⟩
  · rw [nd_7 q1 q2]; exact ⟨by decide, by decide⟩
  · rw [nd_8 q1 q2]; exact ⟨by decide, by decide⟩
  · rw [nd_9 q1 q2]; exact ⟨by decide, by decide⟩
  · rw [nd_10 q1 q2]; exact ⟨by decide, by decide⟩
theorem m8 (x : Int32) : ∃ c, c < 256 ∧ x &&& 255 = Int32.ofNat c := by
  have e := c_mask x 255 8 (by decide) rfl
  rw [show ((2 ^ 8 : Nat) : Int) = 256 from rfl] at e
  refine ⟨(x.toInt % 256).toNat, by omega, ?_⟩
  apply Int32.toInt_inj.mp; rw [e, ofn_int (by omega)]; omega
theorem m2 (x : Int32) : ∃ c, c < 4 ∧ x &&& 3 = Int32.ofNat c := by
  have e := c_mask x 3 2 (by decide) rfl
  rw [show ((2 ^ 2 : Nat) : Int) = 4 from rfl] at e
  refine ⟨(x.toInt % 4).toNat, by omega, ?_⟩
  apply Int32.toInt_inj.mp; rw [e, ofn_int (by omega)]; omega
theorem m31 (x : Int32) : ∃ c, c < 2147483648 ∧ x &&& 2147483647 = Int32.ofNat c := by
  have e := c_mask x 2147483647 31 (by decide) rfl
  rw [show ((2 ^ 31 : Nat) : Int) = 2147483648 from rfl] at e
  refine ⟨(x.toInt % 2147483648).toNat, by omega, ?_⟩
  apply Int32.toInt_inj.mp; rw [e, ofn_int (by omega)]; omega
theorem i2c_n0 : ∀ t : Fin 256, (Int32.ofNat t.1).toUInt32.toUInt16.toUInt32.toInt32 = Int32.ofNat t.1 ∧ (Int32.ofNat t.1).toInt8.toInt32 &&& 255 = Int32.ofNat t.1 ∧ ¬ (255 : Int32) < Int32.ofNat t.1 ∧ Int32.ofNat t.1 &&& 255 = Int32.ofNat t.1 ∧ fits .char (.int (Int32.ofNat t.1)) = true := by decide +kernel
theorem i2c_n {c : Nat} (h : c < 256) : (Int32.ofNat c).toUInt32.toUInt16.toUInt32.toInt32 = Int32.ofNat c := (i2c_n0 ⟨c, h⟩).1
theorem bm {c : Nat} (h : c < 256) : (Int32.ofNat c).toInt8.toInt32 &&& 255 = Int32.ofNat c := (i2c_n0 ⟨c, h⟩).2.1
theorem c255 {c : Nat} (h : c < 256) : ¬ (255 : Int32) < Int32.ofNat c := (i2c_n0 ⟨c, h⟩).2.2.1
theorem m255 {c : Nat} (h : c < 256) : Int32.ofNat c &&& 255 = Int32.ofNat c := (i2c_n0 ⟨c, h⟩).2.2.2.1
theorem fit255 {c : Nat} (h : c < 256) : fits .char (.int (Int32.ofNat c)) = true := (i2c_n0 ⟨c, h⟩).2.2.2.2
theorem ofn_div {N P : Nat} (hN : N < 2147483648) (h0 : 0 < P) (hP : P < 2147483648) : Int32.ofNat N / Int32.ofNat P = Int32.ofNat (N / P) := by
  apply Int32.toInt_inj.mp
  have e := c_idiv (Int32.ofNat N) (Int32.ofNat P) P (ofn_int hP) (fun q => by have := congrArg Int32.toInt q; rw [ofn_int hP, show (-1 : Int32).toInt = -1 from rfl] at this; omega)
  rw [ofn_int hN] at e
  have hd : N / P ≤ N := Nat.div_le_self _ _
  rw [ofn_int (by omega), e.1 (by omega)]; rfl
theorem ofn_rem10 {M : Nat} (hM : M < 2147483648) : Int32.ofNat M - Int32.ofNat M / 10 * 10 = Int32.ofNat (M % 10) := by
  have e := ofn_div hM (P := 10) (by decide) (by decide)
  rw [show Int32.ofNat 10 = (10 : Int32) from rfl] at e
  rw [e, show (10 : Int32) = Int32.ofNat 10 from rfl, ← Int32.ofNat_mul, ofn_sub (by omega) hM]
  congr 1; omega
theorem wS_of {Z : State} {a0 : Array Value} (hw : ∀ d ∈ tables_1, d.before a0 Z = true) : ∀ a ∈ Bundle.stringAtoms, a.before a0 Z = true := by
  intro a ha
  simp only [Bundle.stringAtoms, Bundle.sN, List.mem_cons, List.not_mem_nil, or_false] at ha
  rcases ha with rfl | rfl | rfl | rfl | rfl | rfl | rfl
  · exact (hw _ (mm 3 rfl))
  · exact (hw _ (mm 2 rfl))
  · exact (hw _ (mm 19 rfl))
  · exact (hw _ (mm 29 rfl))
  · exact (hw _ (mm 27 rfl))
  · exact (hw _ (mm 54 rfl))
  · exact (hw _ (mm 55 rfl))
theorem ne_or {x b b' : Addr} {n : Nat} (h : x ≠ b) (lt : x < n) (q : b' = b ∨ n ≤ b') : x ≠ b' := q.elim (fun e => e ▸ h) (fun r => Nat.ne_of_lt (Nat.lt_of_lt_of_le lt r))
theorem cpg (bs : List Value) (cap : Nat) (d : Value) (h : bs.length ≤ cap) : ∀ i, bs.getD i d = ((List.replicate cap d).take 0 ++ ((List.range cap).map fun i => bs.getD (0 + i) d) ++ (List.replicate cap d).drop (0 + cap)).getD i d := fun i => by
  have e1 : (List.replicate cap d).drop (0 + cap) = [] := List.drop_eq_nil_of_le (by simp)
  rw [e1, List.append_nil, List.take_zero, List.nil_append]
  simp only [List.getD_eq_getElem?_getD, List.getElem?_map, List.getElem?_range, Nat.zero_add]
  by_cases q : i < cap
  · simp [q]
  · simp [q, List.getElem?_eq_none (show bs.length ≤ i by omega)]
def GC (c mc c' : Nat) : Prop := (c' = c ∧ mc ≤ c) ∨ (c < mc ∧ c' = c + max (mc - c) (c + 2))
def gcap (cap mc : Nat) : Nat := cap + max (mc - cap) (cap + 2)
theorem gcap_b {cap mc : Nat} (h : cap < mc) (hm : mc ≤ 62) : mc ≤ gcap cap mc ∧ cap < gcap cap mc ∧ gcap cap mc ≤ 126 := by unfold gcap; omega
theorem arv100 {Z : State} {a0 : Array Value} {C n : String} {rhs : Term} {vs : List Value} (w1 : (Cond.initializedFor C n "[B").before a0 Z = true) (w2 : (Cond.exactly (.static C n "[B") "[B").before a0 Z = true) (w3 : (Cond.eq (.length (.static C n "[B")) (.int 100)).before a0 Z = true) (w4 : (Cond.all (.static C n "[B") (.eq (.elem (.static C n "[B") (.index 0)) rhs)).before a0 Z = true) (harr : (Cond.arrayClass .byte).before a0 Z = true)
    (hr : ∀ j, j < 100 → ∃ x, rhs.eval a0 Z none [j] Z = some (.int x) ∧ vs.getD j (.int 0) = .int x ∧ fits .byte (.int x) = true) : ∃ (t : Addr) (k : ClassId), Sta Z Z.heap C n "[B" (.ref t) ∧ Arv Z Z.heap t k .byte 100 vs (.int 0) := by
  obtain ⟨d, cB, D, kB, hev, hfcB, hcellD, hkB, hstatD, hclsD, -⟩ := Cond.exactly_spec w2
  have hevAll : ∀ idx, (Term.static C n "[B").eval a0 Z none idx Z = some (.ref d) := fun idx => by
    have : (Term.static C n "[B").eval a0 Z none idx Z = (Term.static C n "[B").eval a0 Z none [] Z := by simp only [Term.eval]
    rw [this]; exact hev
  have hl := Cond.eq_int w3 rfl
  obtain ⟨d', D', hev', harrAt, hlen⟩ := Term.length_spec hl
  cases hev.symm.trans hev'
  obtain ⟨hcellD', hknD, -, -⟩ := State.arrayAt?_spec harrAt
  cases hcellD.symm.trans hcellD'
  have h31 := SBG.length_lt hev harrAt hl
  have hsz : D.slots.size = 100 := by
    have h2 : Int32.ofNat D.slots.size = Int32.ofNat 100 := (Value.int.inj hlen).symm
    have := congrArg Int32.toInt h2
    rw [Int32.toInt_ofNat_small h31, Int32.toInt_ofNat_small (by omega)] at this; omega
  obtain ⟨cB', kB', comp, hnameB, hkB', hkindB⟩ := Cond.arrayClass_spec harr
  have eBA : ("[" ++ FieldType.toString .byte) = "[B" := by decide
  rw [eBA] at hnameB
  cases hfcB.symm.trans hnameB
  cases hkB.symm.trans hkB'
  refine ⟨d, D.cls, Sta.start hev (Or.inl w1), D, ⟨hcellD, ⟨(fun q h => by rw [h] at hstatD; cases hstatD), kB, (by rw [hclsD]; exact hkB), comp, hkindB⟩, hknD⟩, rfl, by rw [hsz]; rfl, by decide, fun i hi => ?_, fun i hi => ?_⟩
  · obtain ⟨x, e1, e2, -⟩ := hr i (by omega)
    have q := Cond.all_elim (hevAll []) harrAt (Cond.before_iff.mp w4) i hi
    obtain ⟨y, z, f1, f2, k1, k2⟩ := cmp_v (Or.inl q)
    cases e1.symm.trans f2
    obtain ⟨y', rfl⟩ : ∃ y', y = .int y' := k2
    have := gotT (Cond.eq_ints f1 f2) q
    subst this
    have hii : (Int32.ofNat i).toNatClampNeg = i := by simp only [Int32.toNatClampNeg, Int32.toInt_ofNat_small (show i < 2 ^ 31 by omega)]; omega
    have nn : ¬ Int32.ofNat i < 0 := by rw [Int32.lt_iff_toInt_lt, Int32.toInt_ofNat_small (show i < 2 ^ 31 by omega)]; show ¬ (i : Int) < 0; omega
    have g := (elem_f (hevAll [i]) (show (Term.index 0).eval a0 Z none [i] Z = some (.int (Int32.ofNat i)) from rfl) harrAt nn).symm.trans f1
    rw [hii] at g; rw [e2]; exact g
  · obtain ⟨x, e1, e2, e3⟩ := hr i (by omega)
    rw [e2]; exact e3
theorem ones_eq : ∀ t : Fin 100, (48 : Int32) + t.1.toInt32 % 10 = Int32.ofNat (48 + t.1 % 10) ∧ fits .byte (.int (Int32.ofNat (48 + t.1 % 10))) = true := by decide +kernel
theorem tens_eq : ∀ t : Fin 100, (48 : Int32) + t.1.toInt32 / 10 = Int32.ofNat (48 + t.1 / 10) ∧ fits .byte (.int (Int32.ofNat (48 + t.1 / 10))) = true := by decide +kernel
def dI (N j : Nat) : List Int32 := (List.range (nd N - j)).map fun i => Int32.ofNat (48 + N / 10 ^ (nd N - 1 - i) % 10)
theorem dI_len (N j : Nat) : (dI N j).length = nd N - j := by simp [dI]
theorem dI_more {N j : Nat} (h : j + 1 ≤ nd N) : dI N j = dI N (j + 1) ++ [Int32.ofNat (48 + N / 10 ^ j % 10)] := by
  have e : nd N - j = (nd N - (j + 1)) + 1 := by omega
  unfold dI; rw [e, List.range_succ, List.map_append, List.map_singleton, show nd N - 1 - (nd N - (j + 1)) = j by omega]
theorem dI_same {N j : Nat} (h : nd N < j + 1) : dI N j = dI N (j + 1) := by
  unfold dI; rw [show nd N - j = 0 by omega, show nd N - (j + 1) = 0 by omega]
theorem dI_ten {N : Nat} (hN : N < 2147483648) : dI N 10 = [] := by unfold dI; rw [show nd N - 10 = 0 by have := nd_le hN; omega]; rfl
theorem dI_b {N j : Nat} : ∀ x ∈ dI N j, ¬ (255 : Int32) < x := fun x hx => by
  unfold dI at hx; obtain ⟨i, -, rfl⟩ := List.mem_map.mp hx; exact c255 (by omega)
theorem bytV_d {e : Nat} (h : e < 10) : bytV (Int32.ofNat (48 + e)) = .int (Int32.ofNat (48 + e)) := congrArg Value.int (dig_b h)
theorem dI_digs (N : Nat) : (dI N 0).map bytV = digs N := by
  unfold dI digs; rw [List.map_map]; apply List.map_congr_left; intro i _
  exact bytV_d (by omega)
theorem put_app (es : List Int32) (x : Int32) : (es.map Value.int ++ [Value.int 0]).set es.length (.int x) = (es ++ [x]).map Value.int := by
  rw [set_app _ _ _ _ (by simp)]; simp
def DF (Z : State) (h : Heap) (ea : Addr) (ke : ClassId) (n : Nat) (es : List Int32) (tp tpb br brb : Addr) (ts bs : List Value) : Prop := Arv Z h ea ke .char (Int32.ofNat n) (es.map Value.int) (.int 0) ∧ Str Z h tp tpb ts ∧ Str Z h br brb bs
theorem DF.pad1 {Z : State} {h : Heap} {ea : Addr} {ke : ClassId} {n : Nat} {es : List Int32} {tp tpb br brb : Addr} {ts bs : List Value} (D : DF Z h ea ke n es tp tpb br brb ts bs) : Arv Z h ea ke .char (Int32.ofNat n) (es.map Value.int ++ [Value.int 0]) (.int 0) := D.1.pad (pad_rep _ (.int 0) 1)
theorem DF.put {Z : State} {h h' : Heap} {ea : Addr} {ke : ClassId} {n : Nat} {es : List Int32} {tp tpb br brb : Addr} {ts bs : List Value} {x : Int32} (D : DF Z h ea ke n es tp tpb br brb ts bs) (A : Arv Z h' ea ke .char (Int32.ofNat n) ((es.map Value.int ++ [Value.int 0]).set es.length (.int (nar .char x))) (.int 0)) (Ks : Keep h h' [ea]) (np1 : tp ≠ ea) (np2 : tpb ≠ ea) (np3 : br ≠ ea) (np4 : brb ≠ ea) (e : nar .char x = x) : DF Z h' ea ke n (es ++ [x]) tp tpb br brb ts bs := by
  rw [e, put_app] at A
  exact ⟨A, D.2.1.keep Ks (ninS np1 nin0) (ninS np2 nin0), D.2.2.keep Ks (ninS np3 nin0) (ninS np4 nin0)⟩
theorem pad_lt {es : List Int32} {k : Nat} (h : es.length = k) : k < (es.map Value.int ++ [Value.int 0]).length := by simp [h]
theorem DF.put1 {Z : State} {h h' : Heap} {ea : Addr} {ke : ClassId} {n k : Nat} {es : List Int32} {tp tpb br brb : Addr} {ts bs : List Value} {x : Int32} (l : es.length = k) (D : DF Z h ea ke n es tp tpb br brb ts bs) (A : Arv Z h' ea ke .char (Int32.ofNat n) ((es.map Value.int ++ [Value.int 0]).set k (.int (nar .char x))) (.int 0)) (Ks : Keep h h' [ea]) (np1 : tp ≠ ea) (np2 : tpb ≠ ea) (np3 : br ≠ ea) (np4 : brb ≠ ea) (e : nar .char x = x) : ∃ es', es' = es ++ [x] ∧ es'.length = k + 1 ∧ DF Z h' ea ke n es' tp tpb br brb ts bs := by
  subst l; exact ⟨_, rfl, by simp, D.put A Ks np1 np2 np3 np4 e⟩
def L59 : List Int32 := [77, 101, 115, 115, 97, 103, 101, 81, 117, 101, 117, 101, 32, 91, 116, 111, 112, 105, 99, 61]
theorem L59_b : L59.map bytV = [Value.int (77 : Int32), Value.int (101 : Int32), Value.int (115 : Int32), Value.int (115 : Int32), Value.int (97 : Int32), Value.int (103 : Int32), Value.int (101 : Int32), Value.int (81 : Int32), Value.int (117 : Int32), Value.int (101 : Int32), Value.int (117 : Int32), Value.int (101 : Int32), Value.int (32 : Int32), Value.int (91 : Int32), Value.int (116 : Int32), Value.int (111 : Int32), Value.int (112 : Int32), Value.int (105 : Int32), Value.int (99 : Int32), Value.int (61 : Int32)] := by decide +kernel
theorem L59_c : ∀ x ∈ L59, ¬ (255 : Int32) < x := by decide +kernel
def L61 : List Int32 := [44, 32, 98, 114, 111, 107, 101, 114, 78, 97, 109, 101, 61]
theorem L61_b : L61.map bytV = [Value.int (44 : Int32), Value.int (32 : Int32), Value.int (98 : Int32), Value.int (114 : Int32), Value.int (111 : Int32), Value.int (107 : Int32), Value.int (101 : Int32), Value.int (114 : Int32), Value.int (78 : Int32), Value.int (97 : Int32), Value.int (109 : Int32), Value.int (101 : Int32), Value.int (61 : Int32)] := by decide +kernel
theorem L61_c : ∀ x ∈ L61, ¬ (255 : Int32) < x := by decide +kernel
def L63 : List Int32 := [44, 32, 113, 117, 101, 117, 101, 73, 100, 61]
theorem L63_b : L63.map bytV = [Value.int (44 : Int32), Value.int (32 : Int32), Value.int (113 : Int32), Value.int (117 : Int32), Value.int (101 : Int32), Value.int (117 : Int32), Value.int (101 : Int32), Value.int (73 : Int32), Value.int (100 : Int32), Value.int (61 : Int32)] := by decide +kernel
theorem L63_c : ∀ x ∈ L63, ¬ (255 : Int32) < x := by decide +kernel
theorem c255s {xs : List Nat} (h : ∀ x ∈ xs, x < 256) : ∀ x ∈ xs.map Int32.ofNat, ¬ (255 : Int32) < x := fun x hx => by obtain ⟨y, hy, rfl⟩ := List.mem_map.mp hx; exact c255 (h y hy)
theorem mem5 {A B C D E : List Int32} {P : Int32 → Prop} (h1 : ∀ x ∈ A, P x) (h2 : ∀ x ∈ B, P x) (h3 : ∀ x ∈ C, P x) (h4 : ∀ x ∈ D, P x) (h5 : ∀ x ∈ E, P x) : ∀ x ∈ A ++ B ++ C ++ D ++ E, P x := fun x hx => by
  rcases List.mem_append.mp hx with hx | hx
  · rcases List.mem_append.mp hx with hx | hx
    · rcases List.mem_append.mp hx with hx | hx
      · rcases List.mem_append.mp hx with hx | hx
        · exact h1 x hx
        · exact h2 x hx
      · exact h3 x hx
    · exact h4 x hx
  · exact h5 x hx
theorem pn_java_lang_String : plainName "java/lang/String" = true := by first | (simp [plainName, overriddenIn]; done) | decide +kernel
theorem pd___B : parseMethodDescriptor "()B" = some ⟨[], some .byte⟩ := by decide +kernel
theorem pn_java_lang_AbstractStringBuilder : plainName "java/lang/AbstractStringBuilder" = true := by first | (simp [plainName, overriddenIn]; done) | decide +kernel
theorem pd__Ljava_lang_String__V : parseMethodDescriptor "(Ljava/lang/String;)V" = some ⟨[(.object "java/lang/String")], none⟩ := by decide +kernel
theorem pd___BIB_V : parseMethodDescriptor "([BIB)V" = some ⟨[(.array .byte), .int, .byte], none⟩ := by decide +kernel
theorem pd__I_V : parseMethodDescriptor "(I)V" = some ⟨[.int], none⟩ := by decide +kernel
theorem pn_java_lang_StringBuilder : plainName "java/lang/StringBuilder" = true := by first | (simp [plainName, overriddenIn]; done) | decide +kernel
theorem pn_java_util_Arrays : plainName "java/util/Arrays" = true := by first | (simp [plainName, overriddenIn]; done) | decide +kernel
theorem pd__II_V : parseMethodDescriptor "(II)V" = some ⟨[.int, .int], none⟩ := by decide +kernel
theorem pd__II_I : parseMethodDescriptor "(II)I" = some ⟨[.int, .int], some .int⟩ := by decide +kernel
theorem pd___BII__B : parseMethodDescriptor "([BII)[B" = some ⟨[(.array .byte), .int, .int], some (.array .byte)⟩ := by decide +kernel
theorem pd___I : parseMethodDescriptor "()I" = some ⟨[], some .int⟩ := by decide +kernel
theorem pd____B : parseMethodDescriptor "()[B" = some ⟨[], some (.array .byte)⟩ := by decide +kernel
theorem pd___Z : parseMethodDescriptor "()Z" = some ⟨[], some .boolean⟩ := by decide +kernel
theorem pd__Ljava_lang_AbstractStringBuilder_Ljava_lang_Void__V : parseMethodDescriptor "(Ljava/lang/AbstractStringBuilder;Ljava/lang/Void;)V" = some ⟨[(.object "java/lang/AbstractStringBuilder"), (.object "java/lang/Void")], none⟩ := by decide +kernel
theorem pd__Ljava_lang_StringBuilder__V : parseMethodDescriptor "(Ljava/lang/StringBuilder;)V" = some ⟨[(.object "java/lang/StringBuilder")], none⟩ := by decide +kernel
theorem pn_java_lang_StringUTF16 : plainName "java/lang/StringUTF16" = true := by first | (simp [plainName, overriddenIn]; done) | decide +kernel
theorem pd___CI_BII_I : parseMethodDescriptor "([CI[BII)I" = some ⟨[(.array .char), .int, (.array .byte), .int, .int], some .int⟩ := by decide +kernel
theorem pd___CII__B : parseMethodDescriptor "([CII)[B" = some ⟨[(.array .char), .int, .int], some (.array .byte)⟩ := by decide +kernel
theorem pd___BI_B : parseMethodDescriptor "([BI)B" = some ⟨[(.array .byte), .int], some .byte⟩ := by decide +kernel
theorem pd___CIILjava_lang_Void__V : parseMethodDescriptor "([CIILjava/lang/Void;)V" = some ⟨[(.array .char), .int, .int, (.object "java/lang/Void")], none⟩ := by decide +kernel
theorem pn_jdk_internal_util_ArraysSupport : plainName "jdk/internal/util/ArraysSupport" = true := by first | (simp [plainName, overriddenIn]; done) | decide +kernel
theorem pd__III_I : parseMethodDescriptor "(III)I" = some ⟨[.int, .int, .int], some .int⟩ := by decide +kernel
theorem pd__I_I : parseMethodDescriptor "(I)I" = some ⟨[.int], some .int⟩ := by decide +kernel
theorem pd___BI__B : parseMethodDescriptor "([BI)[B" = some ⟨[(.array .byte), .int], some (.array .byte)⟩ := by decide +kernel
theorem pd__ILjava_lang_String__V : parseMethodDescriptor "(ILjava/lang/String;)V" = some ⟨[.int, (.object "java/lang/String")], none⟩ := by decide +kernel
theorem pd__Ljava_lang_String__Ljava_lang_AbstractStringBuilder_ : parseMethodDescriptor "(Ljava/lang/String;)Ljava/lang/AbstractStringBuilder;" = some ⟨[(.object "java/lang/String")], some (.object "java/lang/AbstractStringBuilder")⟩ := by decide +kernel
theorem pn_java_lang_StringLatin1 : plainName "java/lang/StringLatin1" = true := by first | (simp [plainName, overriddenIn]; done) | decide +kernel
theorem pd___B_B_Z : parseMethodDescriptor "([B[B)Z" = some ⟨[(.array .byte), (.array .byte)], some .boolean⟩ := by decide +kernel
theorem pn_java_lang_Integer : plainName "java/lang/Integer" = true := by first | (simp [plainName, overriddenIn]; done) | decide +kernel
theorem pd__II_B_I : parseMethodDescriptor "(II[B)I" = some ⟨[.int, .int, (.array .byte)], some .int⟩ := by decide +kernel
theorem pd__I_Ljava_lang_AbstractStringBuilder_ : parseMethodDescriptor "(I)Ljava/lang/AbstractStringBuilder;" = some ⟨[.int], some (.object "java/lang/AbstractStringBuilder")⟩ := by decide +kernel
theorem pn_com_example_rebalance_rebalance_MessageQueueHashKeyPinLaw : plainName "com/example/rebalance/rebalance/MessageQueueHashKeyPinLaw" = true := by first | (simp [plainName, overriddenIn]; done) | decide +kernel
theorem pn_java_util_Objects : plainName "java/util/Objects" = true := by first | (simp [plainName, overriddenIn]; done) | decide +kernel
theorem pn_java_lang_Record : plainName "java/lang/Record" = true := by first | (simp [plainName, overriddenIn]; done) | decide +kernel
theorem pd___V : parseMethodDescriptor "()V" = some ⟨[], none⟩ := by decide +kernel
theorem pd__Ljava_lang_Object_Ljava_lang_String__Ljava_lang_Object_ : parseMethodDescriptor "(Ljava/lang/Object;Ljava/lang/String;)Ljava/lang/Object;" = some ⟨[(.object "java/lang/Object"), (.object "java/lang/String")], some (.object "java/lang/Object")⟩ := by decide +kernel
theorem pn_com_example_rebalance_rebalance_MessageQueue : plainName "com/example/rebalance/rebalance/MessageQueue" = true := by first | (simp [plainName, overriddenIn]; done) | decide +kernel
theorem pd__Ljava_lang_String__Ljava_lang_StringBuilder_ : parseMethodDescriptor "(Ljava/lang/String;)Ljava/lang/StringBuilder;" = some ⟨[(.object "java/lang/String")], some (.object "java/lang/StringBuilder")⟩ := by decide +kernel
theorem pd__I_Ljava_lang_StringBuilder_ : parseMethodDescriptor "(I)Ljava/lang/StringBuilder;" = some ⟨[.int], some (.object "java/lang/StringBuilder")⟩ := by decide +kernel
theorem pd___Ljava_lang_String_ : parseMethodDescriptor "()Ljava/lang/String;" = some ⟨[], some (.object "java/lang/String")⟩ := by decide +kernel
theorem pd__II_C : parseMethodDescriptor "(II)C" = some ⟨[.int, .int], some .char⟩ := by decide +kernel
theorem pd__Ljava_lang_String_Ljava_lang_String_I_V : parseMethodDescriptor "(Ljava/lang/String;Ljava/lang/String;I)V" = some ⟨[(.object "java/lang/String"), (.object "java/lang/String"), .int], none⟩ := by decide +kernel
theorem pd___C_V : parseMethodDescriptor "([C)V" = some ⟨[(.array .char)], none⟩ := by decide +kernel
theorem pd__Ljava_lang_Object__Z : parseMethodDescriptor "(Ljava/lang/Object;)Z" = some ⟨[(.object "java/lang/Object")], some .boolean⟩ := by decide +kernel
theorem pd__I__C : parseMethodDescriptor "(I)[C" = some ⟨[.int], some (.array .char)⟩ := by decide +kernel
theorem d20_0 : decode jdk_42_method_152_code 0 = .ok (.getstatic 38, 3) := by decide +kernel
theorem d20_3 : decode jdk_42_method_152_code 3 = .ok (.ifCond .eq 10, 3) := by decide +kernel
theorem d20_6 : decode jdk_42_method_152_code 6 = .ok (.aload_n 0, 1) := by decide +kernel
theorem d20_7 : decode jdk_42_method_152_code 7 = .ok (.getfield 15, 3) := by decide +kernel
theorem d20_10 : decode jdk_42_method_152_code 10 = .ok (.goto 4, 3) := by decide +kernel
theorem d20_13 : decode jdk_42_method_152_code 13 = .ok (.iconst 1, 1) := by decide +kernel
theorem d20_14 : decode jdk_42_method_152_code 14 = .ok (.ireturn, 1) := by decide +kernel
theorem c_coder (l : Launch) (Z : State) (a0 : Array Value) (hw : ∀ d ∈ tables_1, d.before a0 Z = true) (hEW : EW Z a0 consts_1) (n0 : Nat) (c1 : Int32) (hc1 : ¬ c1 = 0) (S1 : Sta Z Z.heap "java/lang/String" "COMPACT_STRINGS" "Z" (.int c1)) (a : Addr) {h0 : Heap} (o1 : Old Z n0 h0) (Fc : Fld Z h0 a "java/lang/String" "coder" "B" (.int 0)) :
    Con Z a0 l (⟨"java/lang/String", "coder", "()B"⟩ : MethodName) jdk_42_method_152_code 1 (some .byte) ({ frames := 0, cells := 0, slots := 0, locals := 0 } : Room) [] #[(.ref a)] consts_1 h0 n0 [] [] (VV fun w h so => w = .int 0 ∧ h = h0 ∧ so = []) := by
  refine Con.body (plainFor_of_name pn_java_lang_String) hEW o1 all0 #[.val (.ref a)] (fun m => by first | (simp [entryFrame, mkF, argsToLocals, Value.category]; done) | rfl) ?_
  intro p e s m below meth c B hnm hret hlk G
  replace G := G.gets 3 (host := "") (Or.inl (hw _ (mm 14 rfl))) Via.refl (G.sta S1) d20_0 rfl |>.ifF 6 d20_3 (XT.i0_eq_f hc1) rfl |>.aloadN 7 d20_6 rfl rfl rfl |>.getf 10 (host := "") (Or.inl (hw _ (mm 26 rfl))) Via.refl Fc d20_7 rfl |>.goto 14 d20_10 (by decide) (by decide)
  exact G.retN hret (Or.inr (Or.inl rfl)) hlk d20_14 [] all0 ⟨_, rfl, rfl, rfl, rfl⟩ (nle rfl) (nle rfl)
theorem d19_0 : decode jdk_42_method_54_code 0 = .ok (.aload_n 0, 1) := by decide +kernel
theorem d19_1 : decode jdk_42_method_54_code 1 = .ok (.getfield 9, 3) := by decide +kernel
theorem d19_4 : decode jdk_42_method_54_code 4 = .ok (.arraylength, 1) := by decide +kernel
theorem d19_5 : decode jdk_42_method_54_code 5 = .ok (.aload_n 0, 1) := by decide +kernel
theorem d19_6 : decode jdk_42_method_54_code 6 = .ok (.invokevirtual 335, 3) := by decide +kernel
theorem d19_9 : decode jdk_42_method_54_code 9 = .ok (.ishr, 1) := by decide +kernel
theorem d19_10 : decode jdk_42_method_54_code 10 = .ok (.ireturn, 1) := by decide +kernel
theorem c_length (l : Launch) (Z : State) (a0 : Array Value) (hw : ∀ d ∈ tables_1, d.before a0 Z = true) (hEW : EW Z a0 consts_1) (n0 : Nat) (c1 : Int32) (hc1 : ¬ c1 = 0) (S1 : Sta Z Z.heap "java/lang/String" "COMPACT_STRINGS" "Z" (.int c1)) (a b : Addr) (bs : List Value) {h0 : Heap} (o1 : Old Z n0 h0) (hS : Str Z h0 a b bs) :
    Con Z a0 l (⟨"java/lang/String", "length", "()I"⟩ : MethodName) jdk_42_method_54_code 1 (some .int) ({ frames := 1, cells := 0, slots := 0, locals := 13 } : Room) [] #[(.ref a)] consts_1 h0 n0 [] [] (VV fun w h so => w = .int (Int32.ofNat bs.length) ∧ h = h0 ∧ so = []) := by
  refine Con.body (plainFor_of_name pn_java_lang_String) hEW o1 all0 #[.val (.ref a)] (fun m => by first | (simp [entryFrame, mkF, argsToLocals, Value.category]; done) | rfl) ?_
  intro p e s m below meth c B hnm hret hlk G
  obtain ⟨Xa, Fc, Fv, kb, Ab⟩ := hS
  replace G := G.aloadN 1 d19_0 rfl rfl rfl |>.getf 4 (host := "") (Or.inl (hw _ (mm 28 rfl))) Via.refl Fv d19_1 rfl |>.alen 5 Ab d19_4 rfl |>.aloadN 6 d19_5 rfl rfl rfl
  obtain ⟨vc, h_c, soc, G', Kc, Qc⟩ := G.callV 9 (hw _ (mm 111 rfl)) (hw _ (mm 112 rfl)) (nfSel (hw _ (mm 114 rfl))) (hw _ (mm 114 rfl)) (hw _ (mm 113 rfl)) (hw _ (mm 3 rfl)) (hw _ (mm 115 rfl)) Xa (by decide) [] [(.int (Int32.ofNat bs.length))] rfl (c_coder l Z a0 hw hEW n0 c1 hc1 S1 a G.old Fc) (lenOf pd___B rfl) d19_6 rfl (nle rfl) (nle rfl) (nle rfl) (nle rfl) all0 all0 all0 rfl
  replace G := G'; clear G'
  obtain ⟨wc, qc, rfl, ec, rfl⟩ := Qc
  replace G := G.val qc
  subst ec
  replace G := G.ishr 10 d19_9 rfl |>.top (y := (.int (Int32.ofNat bs.length))) (congrArg Value.int (shr0 _))
  exact G.retI hret hlk d19_10 [] all0 ⟨_, rfl, rfl, rfl, rfl⟩ (nle rfl) (nle rfl)
theorem d28_0 : decode jdk_68_method_71_code 0 = .ok (.getstatic 18, 3) := by decide +kernel
theorem d28_3 : decode jdk_68_method_71_code 3 = .ok (.ifCond .eq 18, 3) := by decide +kernel
theorem d28_6 : decode jdk_68_method_71_code 6 = .ok (.aload_n 0, 1) := by decide +kernel
theorem d28_7 : decode jdk_68_method_71_code 7 = .ok (.getfield 22, 3) := by decide +kernel
theorem d28_10 : decode jdk_68_method_71_code 10 = .ok (.aload_n 1, 1) := by decide +kernel
theorem d28_11 : decode jdk_68_method_71_code 11 = .ok (.invokevirtual 40, 3) := by decide +kernel
theorem d28_14 : decode jdk_68_method_71_code 14 = .ok (.if_icmp .eq 7, 3) := by decide +kernel
theorem d28_17 : decode jdk_68_method_71_code 17 = .ok (.aload_n 0, 1) := by decide +kernel
theorem d28_18 : decode jdk_68_method_71_code 18 = .ok (.invokevirtual 195, 3) := by decide +kernel
theorem d28_21 : decode jdk_68_method_71_code 21 = .ok (.return_, 1) := by decide +kernel
theorem c_infl (l : Launch) (Z : State) (a0 : Array Value) (hw : ∀ d ∈ tables_1, d.before a0 Z = true) (hEW : EW Z a0 consts_1) (n0 : Nat) (c1 : Int32) (hc1 : ¬ c1 = 0) (S1 : Sta Z Z.heap "java/lang/String" "COMPACT_STRINGS" "Z" (.int c1)) (a b a2 b2 : Addr) (cap : Nat) (bs cs : List Value) {h0 : Heap} (o1 : Old Z n0 h0) (hS : Sbd Z h0 a b cap bs) (hT : Str Z h0 a2 b2 cs) :
    Con Z a0 l (⟨"java/lang/AbstractStringBuilder", "inflateIfNeededFor", "(Ljava/lang/String;)V"⟩ : MethodName) jdk_68_method_71_code 2 (none) ({ frames := 1, cells := 0, slots := 0, locals := 13 } : Room) [] #[(.ref a), (.ref a2)] consts_1 h0 n0 [] [] (V0 fun h so => h = h0 ∧ so = []) := by
  refine Con.body (plainFor_of_name pn_java_lang_AbstractStringBuilder) hEW o1 all0 #[.val (.ref a), .val (.ref a2)] (fun m => by first | (simp [entryFrame, mkF, argsToLocals, Value.category]; done) | rfl) ?_
  intro p e s m below meth c B hnm hret hlk G
  replace G := G.gets 3 (host := "") (Or.inl (hw _ (mm 90 rfl))) Via.refl (G.sta S1) d28_0 rfl |>.ifF 6 d28_3 (XT.i0_eq_f hc1) rfl |>.aloadN 7 d28_6 rfl rfl rfl |>.getf 10 (host := "") (Or.inl (hw _ (mm 93 rfl))) Via.refl hS.2.2.1 d28_7 rfl |>.aloadN 11 d28_10 rfl rfl rfl
  obtain ⟨vc, h_c, soc, G', Kc, Qc⟩ := G.callV 14 (hw _ (mm 159 rfl)) (hw _ (mm 112 rfl)) (nfSel (hw _ (mm 114 rfl))) (hw _ (mm 114 rfl)) (hw _ (mm 113 rfl)) (hw _ (mm 3 rfl)) (hw _ (mm 115 rfl)) hT.1 (by decide) [] [(.int (0 : Int32))] rfl (c_coder l Z a0 hw hEW n0 c1 hc1 S1 a2 G.old hT.2.1) (lenOf pd___B rfl) d28_11 rfl (nle rfl) (nle rfl) (nle rfl) (nle rfl) all0 all0 all0 rfl
  replace G := G'; clear G'
  obtain ⟨wc, qc, rfl, ec, rfl⟩ := Qc
  replace G := G.val qc
  subst ec
  replace G := G.icmpT 21 d28_14 (XT.ii_eq_t rfl) (by decide) (by decide)
  exact G.retV hret hlk d28_21 [] all0 ⟨rfl, rfl, rfl⟩ (nle rfl) (nle rfl)
theorem d29_0 : decode jdk_42_method_147_code 0 = .ok (.aload_n 0, 1) := by decide +kernel
theorem d29_1 : decode jdk_42_method_147_code 1 = .ok (.invokevirtual 335, 3) := by decide +kernel
theorem d29_4 : decode jdk_42_method_147_code 4 = .ok (.iload_n 3, 1) := by decide +kernel
theorem d29_5 : decode jdk_42_method_147_code 5 = .ok (.if_icmp .ne 23, 3) := by decide +kernel
theorem d29_8 : decode jdk_42_method_147_code 8 = .ok (.aload_n 0, 1) := by decide +kernel
theorem d29_9 : decode jdk_42_method_147_code 9 = .ok (.getfield 9, 3) := by decide +kernel
theorem d29_12 : decode jdk_42_method_147_code 12 = .ok (.iconst 0, 1) := by decide +kernel
theorem d29_13 : decode jdk_42_method_147_code 13 = .ok (.aload_n 1, 1) := by decide +kernel
theorem d29_14 : decode jdk_42_method_147_code 14 = .ok (.iload_n 2, 1) := by decide +kernel
theorem d29_15 : decode jdk_42_method_147_code 15 = .ok (.iload_n 3, 1) := by decide +kernel
theorem d29_16 : decode jdk_42_method_147_code 16 = .ok (.ishl, 1) := by decide +kernel
theorem d29_17 : decode jdk_42_method_147_code 17 = .ok (.aload_n 0, 1) := by decide +kernel
theorem d29_18 : decode jdk_42_method_147_code 18 = .ok (.getfield 9, 3) := by decide +kernel
theorem d29_21 : decode jdk_42_method_147_code 21 = .ok (.arraylength, 1) := by decide +kernel
theorem d29_22 : decode jdk_42_method_147_code 22 = .ok (.invokestatic 212, 3) := by decide +kernel
theorem d29_25 : decode jdk_42_method_147_code 25 = .ok (.goto 18, 3) := by decide +kernel
theorem d29_28 : decode jdk_42_method_147_code 28 = .ok (.aload_n 0, 1) := by decide +kernel
theorem d29_29 : decode jdk_42_method_147_code 29 = .ok (.getfield 9, 3) := by decide +kernel
theorem d29_32 : decode jdk_42_method_147_code 32 = .ok (.iconst 0, 1) := by decide +kernel
theorem d29_33 : decode jdk_42_method_147_code 33 = .ok (.aload_n 1, 1) := by decide +kernel
theorem d29_34 : decode jdk_42_method_147_code 34 = .ok (.iload_n 2, 1) := by decide +kernel
theorem d29_35 : decode jdk_42_method_147_code 35 = .ok (.aload_n 0, 1) := by decide +kernel
theorem d29_36 : decode jdk_42_method_147_code 36 = .ok (.getfield 9, 3) := by decide +kernel
theorem d29_39 : decode jdk_42_method_147_code 39 = .ok (.arraylength, 1) := by decide +kernel
theorem d29_40 : decode jdk_42_method_147_code 40 = .ok (.invokestatic 106, 3) := by decide +kernel
theorem d29_43 : decode jdk_42_method_147_code 43 = .ok (.return_, 1) := by decide +kernel
theorem c_getB (l : Launch) (Z : State) (a0 : Array Value) (hw : ∀ d ∈ tables_1, d.before a0 Z = true) (hEW : EW Z a0 consts_1) (n0 : Nat) (c1 : Int32) (hc1 : ¬ c1 = 0) (S1 : Sta Z Z.heap "java/lang/String" "COMPACT_STRINGS" "Z" (.int c1)) (a2 b2 b : Addr) (kb : ClassId) (cap : Nat) (bs cs : List Value) {h0 : Heap} (o1 : Old Z n0 h0) (ge_b : n0 ≤ b) (hle : bs.length + cs.length ≤ cap) (hcap : cap < 2147483648) (hT : Str Z h0 a2 b2 cs) (Ab : Arv Z h0 b kb .byte (Int32.ofNat cap) bs (.int 0)) :
    Con Z a0 l (⟨"java/lang/String", "getBytes", "([BIB)V"⟩ : MethodName) jdk_42_method_147_code 4 (none) ({ frames := 1, cells := 0, slots := 0, locals := 41 } : Room) [] #[(.ref a2), (.ref b), (.int (Int32.ofNat bs.length)), (.int (0 : Int32))] consts_1 h0 n0 [b] [b] (V0 fun h so => Arv Z h b kb .byte (Int32.ofNat cap) (bs ++ cs) (.int 0) ∧ so = []) := by
  refine Con.body (plainFor_of_name pn_java_lang_String) hEW o1 (allS ge_b all0) #[.val (.ref a2), .val (.ref b), .val (.int (Int32.ofNat bs.length)), .val (.int (0 : Int32))] (fun m => by first | (simp [entryFrame, mkF, argsToLocals, Value.category]; done) | rfl) ?_
  intro p e s m below meth c B hnm hret hlk G
  obtain ⟨Xa2, Fc2, Fv2, kb2, Ab2⟩ := hT
  replace G := G.aloadN 1 d29_0 rfl rfl rfl
  obtain ⟨vc, h_c, soc, G', Kc, Qc⟩ := G.callV 4 (hw _ (mm 111 rfl)) (hw _ (mm 112 rfl)) (nfSel (hw _ (mm 114 rfl))) (hw _ (mm 114 rfl)) (hw _ (mm 113 rfl)) (hw _ (mm 3 rfl)) (hw _ (mm 115 rfl)) Xa2 (by decide) [] [] rfl (c_coder l Z a0 hw hEW n0 c1 hc1 S1 a2 G.old Fc2) (lenOf pd___B rfl) d29_1 rfl (nle rfl) (nle rfl) (nle rfl) (nle rfl) all0 all0 all0 rfl
  replace G := G'; clear G'
  obtain ⟨wc, qc, rfl, ec, rfl⟩ := Qc
  replace G := G.val qc
  subst ec
  replace G := G.iloadN 5 d29_4 rfl rfl |>.icmpF 8 d29_5 (XT.ii_ne_f rfl) rfl |>.aloadN 9 d29_8 rfl rfl rfl |>.getf 12 (host := "") (Or.inl (hw _ (mm 28 rfl))) Via.refl Fv2 d29_9 rfl |>.iconst 13 (0 : Int32) d29_12 rfl rfl |>.aloadN 14 d29_13 rfl rfl rfl |>.iloadN 15 d29_14 rfl rfl |>.iloadN 16 d29_15 rfl rfl
  replace G := G.ishl 17 d29_16 rfl |>.top (y := (.int (Int32.ofNat bs.length))) (congrArg Value.int (shl0 _)) |>.aloadN 18 d29_17 rfl rfl rfl |>.getf 21 (host := "") (Or.inl (hw _ (mm 28 rfl))) Via.refl Fv2 d29_18 rfl |>.alen 22 Ab2 d29_21 rfl
  have m1 : bs.length < 2147483648 := by omega
  have m2 : cs.length < 2147483648 := by omega
  have Ab' := Ab.pad (vs' := bs ++ List.replicate cs.length (.int 0)) (pad_rep bs (.int 0) cs.length)
  obtain ⟨h1, G', Ap, Kp⟩ := G.cpy 25 (hw _ (mm 165 rfl)) (hw _ (mm 148 rfl)) (hw _ (mm 146 rfl)) (hw _ (mm 147 rfl)) Ab2 Ab' rfl (by decide) (ofn_nn m1) (ofn_nn m2) (by rw [ofn_nat m2]; exact Nat.le_of_eq (Nat.zero_add _)) (by rw [ofn_nat m1, ofn_nat m2, ofn_nat hcap]; exact hle) (by rw [ofn_nat m1, ofn_nat m2]; simp) (Or.inl (mm 0 rfl)) (mm 0 rfl) d29_22 rfl (nle rfl) (nle rfl) rfl
  replace G := G'; clear G'
  rw [ofn_nat m1, ofn_nat m2, show (0 : Int32).toNatClampNeg = 0 from rfl, cpy_res] at Ap
  replace G := G.goto 43 d29_25 (by decide) (by decide)
  exact G.retV hret hlk d29_43 [] all0 ⟨rfl, Ap, rfl⟩ (nle rfl) (nle rfl)
theorem d27_0 : decode jdk_68_method_73_code 0 = .ok (.aload_n 0, 1) := by decide +kernel
theorem d27_1 : decode jdk_68_method_73_code 1 = .ok (.aload_n 2, 1) := by decide +kernel
theorem d27_2 : decode jdk_68_method_73_code 2 = .ok (.invokevirtual 397, 3) := by decide +kernel
theorem d27_5 : decode jdk_68_method_73_code 5 = .ok (.aload_n 2, 1) := by decide +kernel
theorem d27_6 : decode jdk_68_method_73_code 6 = .ok (.aload_n 0, 1) := by decide +kernel
theorem d27_7 : decode jdk_68_method_73_code 7 = .ok (.getfield 15, 3) := by decide +kernel
theorem d27_10 : decode jdk_68_method_73_code 10 = .ok (.iload_n 1, 1) := by decide +kernel
theorem d27_11 : decode jdk_68_method_73_code 11 = .ok (.aload_n 0, 1) := by decide +kernel
theorem d27_12 : decode jdk_68_method_73_code 12 = .ok (.getfield 22, 3) := by decide +kernel
theorem d27_15 : decode jdk_68_method_73_code 15 = .ok (.invokevirtual 399, 3) := by decide +kernel
theorem d27_18 : decode jdk_68_method_73_code 18 = .ok (.return_, 1) := by decide +kernel
theorem c_putStr (l : Launch) (Z : State) (a0 : Array Value) (hw : ∀ d ∈ tables_1, d.before a0 Z = true) (hEW : EW Z a0 consts_1) (n0 : Nat) (c1 : Int32) (hc1 : ¬ c1 = 0) (S1 : Sta Z Z.heap "java/lang/String" "COMPACT_STRINGS" "Z" (.int c1)) (a b a2 b2 : Addr) (cap : Nat) (bs cs : List Value) {h0 : Heap} (o1 : Old Z n0 h0) (ge_b : n0 ≤ b) (hle : bs.length + cs.length ≤ cap) (hcap : cap < 2147483648) (hS : Sbd Z h0 a b cap bs) (hT : Str Z h0 a2 b2 cs) :
    Con Z a0 l (⟨"java/lang/AbstractStringBuilder", "putStringAt", "(ILjava/lang/String;)V"⟩ : MethodName) jdk_68_method_73_code 3 (none) ({ frames := 2, cells := 0, slots := 0, locals := 56 } : Room) [] #[(.ref a), (.int (Int32.ofNat bs.length)), (.ref a2)] consts_1 h0 n0 [b] [b] (V0 fun h so => (∃ k, Arv Z h b k .byte (Int32.ofNat cap) (bs ++ cs) (.int 0)) ∧ so = []) := by
  refine Con.body (plainFor_of_name pn_java_lang_AbstractStringBuilder) hEW o1 (allS ge_b all0) #[.val (.ref a), .val (.int (Int32.ofNat bs.length)), .val (.ref a2)] (fun m => by first | (simp [entryFrame, mkF, argsToLocals, Value.category]; done) | rfl) ?_
  intro p e s m below meth c B hnm hret hlk G
  replace G := G.aloadN 1 d27_0 rfl rfl rfl |>.aloadN 2 d27_1 rfl rfl rfl
  obtain ⟨vi, h_i, soi, G', Ki, Qi⟩ := G.callV 5 (hw _ (mm 154 rfl)) (declOf (hw _ (mm 155 rfl)) (hw _ (mm 158 rfl))) (nfSel (hw _ (mm 157 rfl))) (hw _ (mm 157 rfl)) (hw _ (mm 155 rfl)) (hw _ (mm 87 rfl)) (hw _ (mm 158 rfl)) hS.1 (by decide) [(.ref a2)] [] rfl (c_infl l Z a0 hw hEW n0 c1 hc1 S1 a b a2 b2 cap bs cs G.old hS hT) (lenOf pd__Ljava_lang_String__V rfl) d27_2 rfl (nle rfl) (nle rfl) (nle rfl) (nle rfl) all0 all0 all0 rfl
  replace G := G'; clear G'
  obtain ⟨qi, ei, rfl⟩ := Qi
  replace G := G.nov qi
  subst ei
  obtain ⟨Xa, Fv, Fc, Fn, kb, Ab⟩ := hS
  replace G := G.aloadN 6 d27_5 rfl rfl rfl |>.aloadN 7 d27_6 rfl rfl rfl |>.getf 10 (host := "") (Or.inl (hw _ (mm 91 rfl))) Via.refl Fv d27_7 rfl |>.iloadN 11 d27_10 rfl rfl |>.aloadN 12 d27_11 rfl rfl rfl |>.getf 15 (host := "") (Or.inl (hw _ (mm 93 rfl))) Via.refl Fc d27_12 rfl
  obtain ⟨vg, h1, sog, G', Kg, Qg⟩ := G.callV 18 (hw _ (mm 160 rfl)) (hw _ (mm 161 rfl)) (nfSel (hw _ (mm 163 rfl))) (hw _ (mm 163 rfl)) (hw _ (mm 162 rfl)) (hw _ (mm 3 rfl)) (hw _ (mm 164 rfl)) hT.1 (by decide) [(.ref b), (.int (Int32.ofNat bs.length)), (.int (0 : Int32))] [] rfl (c_getB l Z a0 hw hEW n0 c1 hc1 S1 a2 b2 b kb cap bs cs G.old ge_b hle hcap hT Ab) (lenOf pd___BIB_V rfl) d27_15 rfl (nle rfl) (nle rfl) (nle rfl) (nle rfl) (allS (Or.inl (mm 0 rfl)) all0) (allS (mm 0 rfl) all0) (allS (mm 0 rfl) all0) rfl
  replace G := G'; clear G'
  obtain ⟨qg, Ag, rfl⟩ := Qg
  replace G := G.nov qg
  exact G.retV hret hlk d27_18 [] all0 ⟨rfl, ⟨kb, Ag⟩, rfl⟩ (nle rfl) (nle rfl)
theorem d16_0 : decode jdk_68_method_2_code 0 = .ok (.aload_n 0, 1) := by decide +kernel
theorem d16_1 : decode jdk_68_method_2_code 1 = .ok (.invokespecial 3, 3) := by decide +kernel
theorem d16_4 : decode jdk_68_method_2_code 4 = .ok (.getstatic 18, 3) := by decide +kernel
theorem d16_7 : decode jdk_68_method_2_code 7 = .ok (.ifCond .eq 18, 3) := by decide +kernel
theorem d16_10 : decode jdk_68_method_2_code 10 = .ok (.aload_n 0, 1) := by decide +kernel
theorem d16_11 : decode jdk_68_method_2_code 11 = .ok (.iload_n 1, 1) := by decide +kernel
theorem d16_12 : decode jdk_68_method_2_code 12 = .ok (.newarray .byte, 2) := by decide +kernel
theorem d16_14 : decode jdk_68_method_2_code 14 = .ok (.putfield 15, 3) := by decide +kernel
theorem d16_17 : decode jdk_68_method_2_code 17 = .ok (.aload_n 0, 1) := by decide +kernel
theorem d16_18 : decode jdk_68_method_2_code 18 = .ok (.iconst 0, 1) := by decide +kernel
theorem d16_19 : decode jdk_68_method_2_code 19 = .ok (.putfield 22, 3) := by decide +kernel
theorem d16_22 : decode jdk_68_method_2_code 22 = .ok (.goto 16, 3) := by decide +kernel
theorem d16_25 : decode jdk_68_method_2_code 25 = .ok (.aload_n 0, 1) := by decide +kernel
theorem d16_26 : decode jdk_68_method_2_code 26 = .ok (.iload_n 1, 1) := by decide +kernel
theorem d16_27 : decode jdk_68_method_2_code 27 = .ok (.invokestatic 26, 3) := by decide +kernel
theorem d16_30 : decode jdk_68_method_2_code 30 = .ok (.putfield 15, 3) := by decide +kernel
theorem d16_33 : decode jdk_68_method_2_code 33 = .ok (.aload_n 0, 1) := by decide +kernel
theorem d16_34 : decode jdk_68_method_2_code 34 = .ok (.iconst 1, 1) := by decide +kernel
theorem d16_35 : decode jdk_68_method_2_code 35 = .ok (.putfield 22, 3) := by decide +kernel
theorem d16_38 : decode jdk_68_method_2_code 38 = .ok (.return_, 1) := by decide +kernel
theorem c_asbInit (l : Launch) (Z : State) (a0 : Array Value) (hw : ∀ d ∈ tables_1, d.before a0 Z = true) (hEW : EW Z a0 consts_1) (n0 : Nat) (c1 : Int32) (hc1 : ¬ c1 = 0) (S1 : Sta Z Z.heap "java/lang/String" "COMPACT_STRINGS" "Z" (.int c1)) (a : Addr) {h0 : Heap} (o1 : Old Z n0 h0) (ge_a : n0 ≤ a) (Xa : Exa Z h0 a "java/lang/StringBuilder") (Fv : Fld Z h0 a "java/lang/AbstractStringBuilder" "value" "[B" .null) (Fc : Fld Z h0 a "java/lang/AbstractStringBuilder" "coder" "B" (.int 0)) (Fn : Fld Z h0 a "java/lang/AbstractStringBuilder" "count" "I" (.int 0)) :
    Con Z a0 l (⟨"java/lang/AbstractStringBuilder", "<init>", "(I)V"⟩ : MethodName) jdk_68_method_2_code 2 (none) ({ frames := 1, cells := 1, slots := 16, locals := 12 } : Room) [] #[(.ref a), (.int (16 : Int32))] consts_1 h0 n0 [a] [a] (V0 fun h so => ∃ b, Sbd Z h a b 16 [] ∧ h0.size ≤ b ∧ so = [b]) := by
  refine Con.body (plainFor_of_name pn_java_lang_AbstractStringBuilder) hEW o1 (allS ge_a all0) #[.val (.ref a), .val (.int (16 : Int32))] (fun m => by first | (simp [entryFrame, mkF, argsToLocals, Value.category]; done) | rfl) ?_
  intro p e s m below meth c B hnm hret hlk G
  replace G := G.aloadN 1 d16_0 rfl rfl rfl |>.initO 4 (hw _ (mm 89 rfl)) (hw _ (mm 12 rfl)) (hw _ (mm 13 rfl)) d16_1 rfl (nle rfl) (nle rfl) rfl |>.gets 7 (host := "") (Or.inl (hw _ (mm 90 rfl))) Via.refl (G.sta S1) d16_4 rfl |>.ifF 10 d16_7 (XT.i0_eq_f hc1) rfl |>.aloadN 11 d16_10 rfl rfl rfl |>.iloadN 12 d16_11 rfl rfl
  obtain ⟨b, h1, kb, G', gb, sb, Eb, Ab⟩ := G.newarray 14 (hw _ (mm 19 rfl)) d16_12 (by decide) 16 (nle rfl) (by decide) rfl (nle rfl) (nle rfl)
  replace G := G'; clear G'
  have nab : a ≠ b := ne_new gb Xa.lt
  replace Xa := Xa.ext Eb; replace Fv := Fv.ext Eb; replace Fc := Fc.ext Eb; replace Fn := Fn.ext Eb
  obtain ⟨h2, G', Wv, Fv, Kv⟩ := G.putf 17 (host := "") (Or.inl (hw _ (mm 91 rfl))) Via.refl Fv Xa (Or.inl (hw _ (mm 92 rfl))) (hw _ (mm 78 rfl)) (ty := (.array .byte)) (by decide) rfl rfl (Or.inl (mm 0 rfl)) (mm 1 rfl) d16_14 rfl
  replace G := G'; clear G'
  replace Fn := Fn.other Wv (Or.inr (slot_ne (Or.inl (hw _ (mm 117 rfl))) (Or.inl (hw _ (mm 92 rfl))) (by decide) (t := .int) (t' := (.array .byte)) (by decide) (by decide)))
  replace Fc := Fc.other Wv (Or.inr (slot_ne (Or.inl (hw _ (mm 94 rfl))) (Or.inl (hw _ (mm 92 rfl))) (by decide) (t := .byte) (t' := (.array .byte)) (by decide) (by decide)))
  replace Xa := Xa.wr Wv; replace Ab := Ab.keep Kv (ninS nab.symm nin0)
  replace G := G.aloadN 18 d16_17 rfl rfl rfl |>.iconst 19 (0 : Int32) d16_18 rfl rfl
  obtain ⟨h3, G', Wc, Fc, Kc⟩ := G.putf 22 (host := "") (Or.inl (hw _ (mm 93 rfl))) Via.refl Fc Xa (Or.inl (hw _ (mm 94 rfl))) (hw _ (mm 78 rfl)) (ty := .byte) (by decide) rfl rfl (Or.inl (mm 0 rfl)) (mm 1 rfl) d16_19 rfl
  replace G := G'; clear G'
  replace Fn := Fn.other Wc (Or.inr (slot_ne (Or.inl (hw _ (mm 117 rfl))) (Or.inl (hw _ (mm 94 rfl))) (by decide) (t := .int) (t' := .byte) (by decide) (by decide)))
  replace Fv := Fv.other Wc (Or.inr (slot_ne (Or.inl (hw _ (mm 92 rfl))) (Or.inl (hw _ (mm 94 rfl))) (by decide) (t := (.array .byte)) (t' := .byte) (by decide) (by decide)))
  replace Xa := Xa.wr Wc; replace Ab := Ab.keep Kc (ninS nab.symm nin0)
  replace G := G.goto 38 d16_22 (by decide) (by decide)
  exact G.retV hret hlk d16_38 [b] (allS (mm 0 rfl) all0) ⟨rfl, b, ⟨Xa, Fv, Fc, Fn, kb, Ab⟩, sb, rfl⟩ (nle rfl) (nle rfl)
theorem d15_0 : decode jdk_67_method_1_code 0 = .ok (.aload_n 0, 1) := by decide +kernel
theorem d15_1 : decode jdk_67_method_1_code 1 = .ok (.bipush 16, 2) := by decide +kernel
theorem d15_3 : decode jdk_67_method_1_code 3 = .ok (.invokespecial 1, 3) := by decide +kernel
theorem d15_6 : decode jdk_67_method_1_code 6 = .ok (.return_, 1) := by decide +kernel
theorem c_sbInit (l : Launch) (Z : State) (a0 : Array Value) (hw : ∀ d ∈ tables_1, d.before a0 Z = true) (hEW : EW Z a0 consts_1) (n0 : Nat) (c1 : Int32) (hc1 : ¬ c1 = 0) (S1 : Sta Z Z.heap "java/lang/String" "COMPACT_STRINGS" "Z" (.int c1)) (a : Addr) {h0 : Heap} (o1 : Old Z n0 h0) (ge_a : n0 ≤ a) (Xa : Exa Z h0 a "java/lang/StringBuilder") (Fv : Fld Z h0 a "java/lang/AbstractStringBuilder" "value" "[B" .null) (Fc : Fld Z h0 a "java/lang/AbstractStringBuilder" "coder" "B" (.int 0)) (Fn : Fld Z h0 a "java/lang/AbstractStringBuilder" "count" "I" (.int 0)) :
    Con Z a0 l (⟨"java/lang/StringBuilder", "<init>", "()V"⟩ : MethodName) jdk_67_method_1_code 1 (none) ({ frames := 2, cells := 1, slots := 16, locals := 25 } : Room) [] #[(.ref a)] consts_1 h0 n0 [a] [a] (V0 fun h so => ∃ b, Sbd Z h a b 16 [] ∧ h0.size ≤ b ∧ so = [b]) := by
  refine Con.body (plainFor_of_name pn_java_lang_StringBuilder) hEW o1 (allS ge_a all0) #[.val (.ref a)] (fun m => by first | (simp [entryFrame, mkF, argsToLocals, Value.category]; done) | rfl) ?_
  intro p e s m below meth c B hnm hret hlk G
  replace G := G.aloadN 1 d15_0 rfl rfl rfl |>.bipush 3 (16 : Int32) d15_1 (by decide) rfl
  obtain ⟨vi, h1, soi, G', Ki, Qi⟩ := G.callI 6 rfl rfl (hw _ (mm 83 rfl)) (hw _ (mm 84 rfl)) (hw _ (mm 87 rfl)) (hw _ (mm 88 rfl)) (by decide) [(.int (16 : Int32))] [] rfl (c_asbInit l Z a0 hw hEW n0 c1 hc1 S1 a G.old ge_a Xa Fv Fc Fn) (lenOf pd__I_V rfl) d15_3 rfl (nle rfl) (nle rfl) (nle rfl) (nle rfl) (allS (Or.inl (mm 0 rfl)) all0) (allS (mm 0 rfl) all0) (allS (mm 0 rfl) all0) rfl
  replace G := G'; clear G'
  obtain ⟨qi, b, hS, hb, rfl⟩ := Qi
  replace G := G.nov qi
  exact G.retV hret hlk d15_6 [b] (allS (mm 0 rfl) all0) ⟨rfl, b, hS, hb, rfl⟩ (nle rfl) (nle rfl)
theorem d26_0 : decode jdk_29_method_69_code 0 = .ok (.iload_n 0, 1) := by decide +kernel
theorem d26_1 : decode jdk_29_method_69_code 1 = .ok (.iload_n 1, 1) := by decide +kernel
theorem d26_2 : decode jdk_29_method_69_code 2 = .ok (.if_icmp .gt 7, 3) := by decide +kernel
theorem d26_5 : decode jdk_29_method_69_code 5 = .ok (.iload_n 0, 1) := by decide +kernel
theorem d26_6 : decode jdk_29_method_69_code 6 = .ok (.goto 4, 3) := by decide +kernel
theorem d26_9 : decode jdk_29_method_69_code 9 = .ok (.iload_n 1, 1) := by decide +kernel
theorem d26_10 : decode jdk_29_method_69_code 10 = .ok (.ireturn, 1) := by decide +kernel
theorem c_minR (l : Launch) (Z : State) (a0 : Array Value) (hw : ∀ d ∈ tables_1, d.before a0 Z = true) (hEW : EW Z a0 consts_1) (n0 : Nat) (c1 : Int32) (hc1 : ¬ c1 = 0) (S1 : Sta Z Z.heap "java/lang/String" "COMPACT_STRINGS" "Z" (.int c1)) (x y : Int32) {h0 : Heap} (o1 : Old Z n0 h0) (hxy : y < x) :
    Con Z a0 l (⟨"java/lang/Math", "min", "(II)I"⟩ : MethodName) jdk_29_method_69_code 2 (some .int) ({ frames := 0, cells := 0, slots := 0, locals := 0 } : Room) [] #[(.int x), (.int y)] consts_1 h0 n0 [] [] (VV fun w h so => w = .int y ∧ h = h0 ∧ so = []) := by
  refine Con.body (by decide +kernel) hEW o1 all0 #[.val (.int x), .val (.int y)] (fun m => by first | (simp [entryFrame, mkF, argsToLocals, Value.category]; done) | rfl) ?_
  intro p e s m below meth c B hnm hret hlk G
  replace G := G.iloadN 1 d26_0 rfl rfl |>.iloadN 2 d26_1 rfl rfl |>.icmpT 9 d26_2 (XT.ii_gt_t hxy) (by decide) (by decide) |>.iloadN 10 d26_9 rfl rfl
  exact G.retI hret hlk d26_10 [] all0 ⟨_, rfl, rfl, rfl, rfl⟩ (nle rfl) (nle rfl)
theorem d43_0 : decode jdk_65_method_131_code 0 = .ok (.iload_n 1, 1) := by decide +kernel
theorem d43_1 : decode jdk_65_method_131_code 1 = .ok (.iload_n 0, 1) := by decide +kernel
theorem d43_2 : decode jdk_65_method_131_code 2 = .ok (.if_icmp .ge 35, 3) := by decide +kernel
theorem d43_5 : decode jdk_65_method_131_code 5 = .ok (.new 43, 3) := by decide +kernel
theorem d43_8 : decode jdk_65_method_131_code 8 = .ok (.dup, 1) := by decide +kernel
theorem d43_9 : decode jdk_65_method_131_code 9 = .ok (.new 45, 3) := by decide +kernel
theorem d43_12 : decode jdk_65_method_131_code 12 = .ok (.dup, 1) := by decide +kernel
theorem d43_13 : decode jdk_65_method_131_code 13 = .ok (.invokespecial 47, 3) := by decide +kernel
theorem d43_16 : decode jdk_65_method_131_code 16 = .ok (.iload_n 0, 1) := by decide +kernel
theorem d43_17 : decode jdk_65_method_131_code 17 = .ok (.invokevirtual 54, 3) := by decide +kernel
theorem d43_20 : decode jdk_65_method_131_code 20 = .ok (.ldc_w 337, 3) := by decide +kernel
theorem d43_23 : decode jdk_65_method_131_code 23 = .ok (.invokevirtual 50, 3) := by decide +kernel
theorem d43_26 : decode jdk_65_method_131_code 26 = .ok (.iload_n 1, 1) := by decide +kernel
theorem d43_27 : decode jdk_65_method_131_code 27 = .ok (.invokevirtual 54, 3) := by decide +kernel
theorem d43_30 : decode jdk_65_method_131_code 30 = .ok (.invokevirtual 61, 3) := by decide +kernel
theorem d43_33 : decode jdk_65_method_131_code 33 = .ok (.invokespecial 65, 3) := by decide +kernel
theorem d43_36 : decode jdk_65_method_131_code 36 = .ok (.athrow, 1) := by decide +kernel
theorem d43_37 : decode jdk_65_method_131_code 37 = .ok (.return_, 1) := by decide +kernel
theorem c_chkLen (l : Launch) (Z : State) (a0 : Array Value) (hw : ∀ d ∈ tables_1, d.before a0 Z = true) (hEW : EW Z a0 consts_1) (n0 : Nat) (c1 : Int32) (hc1 : ¬ c1 = 0) (S1 : Sta Z Z.heap "java/lang/String" "COMPACT_STRINGS" "Z" (.int c1)) (x y : Int32) {h0 : Heap} (o1 : Old Z n0 h0) (hxy : ¬ y < x) :
    Con Z a0 l (⟨"java/util/Arrays", "checkLength", "(II)V"⟩ : MethodName) jdk_65_method_131_code 2 (none) ({ frames := 0, cells := 0, slots := 0, locals := 0 } : Room) [] #[(.int x), (.int y)] consts_1 h0 n0 [] [] (V0 fun h so => h = h0 ∧ so = []) := by
  refine Con.body (plainFor_of_name pn_java_util_Arrays) hEW o1 all0 #[.val (.int x), .val (.int y)] (fun m => by first | (simp [entryFrame, mkF, argsToLocals, Value.category]; done) | rfl) ?_
  intro p e s m below meth c B hnm hret hlk G
  replace G := G.iloadN 1 d43_0 rfl rfl |>.iloadN 2 d43_1 rfl rfl |>.icmpT 37 d43_2 (XT.ii_ge_t hxy) (by decide) (by decide)
  exact G.retV hret hlk d43_37 [] all0 ⟨rfl, rfl, rfl⟩ (nle rfl) (nle rfl)
theorem d42_0 : decode jdk_65_method_133_code 0 = .ok (.iload_n 1, 1) := by decide +kernel
theorem d42_1 : decode jdk_65_method_133_code 1 = .ok (.iload_n 2, 1) := by decide +kernel
theorem d42_2 : decode jdk_65_method_133_code 2 = .ok (.invokestatic 343, 3) := by decide +kernel
theorem d42_5 : decode jdk_65_method_133_code 5 = .ok (.iload_n 2, 1) := by decide +kernel
theorem d42_6 : decode jdk_65_method_133_code 6 = .ok (.iload_n 1, 1) := by decide +kernel
theorem d42_7 : decode jdk_65_method_133_code 7 = .ok (.isub, 1) := by decide +kernel
theorem d42_8 : decode jdk_65_method_133_code 8 = .ok (.istore_n 3, 1) := by decide +kernel
theorem d42_9 : decode jdk_65_method_133_code 9 = .ok (.iload_n 3, 1) := by decide +kernel
theorem d42_10 : decode jdk_65_method_133_code 10 = .ok (.newarray .byte, 2) := by decide +kernel
theorem d42_12 : decode jdk_65_method_133_code 12 = .ok (.astore 4, 2) := by decide +kernel
theorem d42_14 : decode jdk_65_method_133_code 14 = .ok (.aload_n 0, 1) := by decide +kernel
theorem d42_15 : decode jdk_65_method_133_code 15 = .ok (.iload_n 1, 1) := by decide +kernel
theorem d42_16 : decode jdk_65_method_133_code 16 = .ok (.aload 4, 2) := by decide +kernel
theorem d42_18 : decode jdk_65_method_133_code 18 = .ok (.iconst 0, 1) := by decide +kernel
theorem d42_19 : decode jdk_65_method_133_code 19 = .ok (.aload_n 0, 1) := by decide +kernel
theorem d42_20 : decode jdk_65_method_133_code 20 = .ok (.arraylength, 1) := by decide +kernel
theorem d42_21 : decode jdk_65_method_133_code 21 = .ok (.iload_n 1, 1) := by decide +kernel
theorem d42_22 : decode jdk_65_method_133_code 22 = .ok (.isub, 1) := by decide +kernel
theorem d42_23 : decode jdk_65_method_133_code 23 = .ok (.iload_n 3, 1) := by decide +kernel
theorem d42_24 : decode jdk_65_method_133_code 24 = .ok (.invokestatic 304, 3) := by decide +kernel
theorem d42_27 : decode jdk_65_method_133_code 27 = .ok (.invokestatic 150, 3) := by decide +kernel
theorem d42_30 : decode jdk_65_method_133_code 30 = .ok (.aload 4, 2) := by decide +kernel
theorem d42_32 : decode jdk_65_method_133_code 32 = .ok (.areturn, 1) := by decide +kernel
theorem c_corb (l : Launch) (Z : State) (a0 : Array Value) (hw : ∀ d ∈ tables_1, d.before a0 Z = true) (hEW : EW Z a0 consts_1) (n0 : Nat) (c1 : Int32) (hc1 : ¬ c1 = 0) (S1 : Sta Z Z.heap "java/lang/String" "COMPACT_STRINGS" "Z" (.int c1)) (b : Addr) (kb : ClassId) (cap : Nat) (bs : List Value) {h0 : Heap} (o1 : Old Z n0 h0) (hlt : bs.length < cap) (hcap : cap < 2147483648) (hmax : bs.length ≤ 64) (Ab : Arv Z h0 b kb .byte (Int32.ofNat cap) bs (.int 0)) :
    Con Z a0 l (⟨"java/util/Arrays", "copyOfRangeByte", "([BII)[B"⟩ : MethodName) jdk_65_method_133_code 5 (some (.array .byte)) ({ frames := 1, cells := 1, slots := 64, locals := 41 } : Room) [] #[(.ref b), (.int (0 : Int32)), (.int (Int32.ofNat bs.length))] consts_1 h0 n0 [] [] (VV fun w h so => ∃ n, w = .ref n ∧ (∃ k, Arv Z h n k .byte (Int32.ofNat bs.length) bs (.int 0)) ∧ h0.size ≤ n ∧ so = [n]) := by
  refine Con.body (plainFor_of_name pn_java_util_Arrays) hEW o1 all0 #[.val (.ref b), .val (.int (0 : Int32)), .val (.int (Int32.ofNat bs.length)), .unset, .unset] (fun m => by first | (simp [entryFrame, mkF, argsToLocals, Value.category]; done) | rfl) ?_
  intro p e s m below meth c B hnm hret hlk G
  have m1 : cap < 2147483648 := hcap
  have m2 : bs.length < 2147483648 := by omega
  replace G := G.iloadN 1 d42_0 rfl rfl |>.iloadN 2 d42_1 rfl rfl
  obtain ⟨vk, h_k, sok, G', Kk, Qk⟩ := G.callS 5 (hw _ (mm 223 rfl)) (hw _ (mm 224 rfl)) (hw _ (mm 140 rfl)) (hw _ (mm 225 rfl)) (by decide) [(.int (0 : Int32)), (.int (Int32.ofNat bs.length))] [] rfl (c_chkLen l Z a0 hw hEW n0 c1 hc1 S1 0 (Int32.ofNat bs.length) G.old (ofn_nn m2)) (lenOf pd__II_V rfl) d42_2 rfl (nle rfl) (nle rfl) (nle rfl) (nle rfl) all0 all0 all0 rfl
  replace G := G'; clear G'
  obtain ⟨qk, ek, rfl⟩ := Qk
  replace G := G.nov qk
  subst ek
  replace G := G.iloadN 6 d42_5 rfl rfl |>.iloadN 7 d42_6 rfl rfl |>.isub 8 d42_7 rfl |>.top (y := (.int (Int32.ofNat bs.length))) (congrArg Value.int (sub0 _)) |>.istoreN 9 #[.val (.ref b), .val (.int (0 : Int32)), .val (.int (Int32.ofNat bs.length)), .val (.int (Int32.ofNat bs.length)), .unset] d42_8 rfl rfl |>.iloadN 10 d42_9 rfl rfl
  obtain ⟨n, h1, kn, G', gn, sn, En, An⟩ := G.newarray 12 (hw _ (mm 19 rfl)) d42_10 (ofn_nn m2) 64 (by rw [ofn_nat m2]; exact hmax) (by decide) rfl (nle rfl) (nle rfl)
  replace G := G'; clear G'
  replace Ab := Ab.ext En
  replace G := G.astore 14 #[.val (.ref b), .val (.int (0 : Int32)), .val (.int (Int32.ofNat bs.length)), .val (.int (Int32.ofNat bs.length)), .val (.ref n)] d42_12 rfl rfl rfl |>.aloadN 15 d42_14 rfl rfl rfl |>.iloadN 16 d42_15 rfl rfl |>.aload 18 d42_16 rfl rfl rfl |>.iconst 19 (0 : Int32) d42_18 rfl rfl |>.aloadN 20 d42_19 rfl rfl rfl |>.alen 21 Ab d42_20 rfl |>.iloadN 22 d42_21 rfl rfl
  replace G := G.isub 23 d42_22 rfl |>.top (y := (.int (Int32.ofNat cap))) (congrArg Value.int (sub0 _)) |>.iloadN 24 d42_23 rfl rfl
  obtain ⟨vm, h_m, som, G', Km, Qm⟩ := G.callS 27 (hw _ (mm 142 rfl)) (hw _ (mm 143 rfl)) (hw _ (mm 134 rfl)) (hw _ (mm 144 rfl)) (by decide) [(.int (Int32.ofNat cap)), (.int (Int32.ofNat bs.length))] [(.int (0 : Int32)), (.ref n), (.int (0 : Int32)), (.ref b)] rfl (c_minR l Z a0 hw hEW n0 c1 hc1 S1 (Int32.ofNat cap) (Int32.ofNat bs.length) G.old (ofn_lt hlt hcap)) (lenOf pd__II_I rfl) d42_24 rfl (nle rfl) (nle rfl) (nle rfl) (nle rfl) all0 all0 all0 rfl
  replace G := G'; clear G'
  obtain ⟨wm, qm, rfl, em, rfl⟩ := Qm
  replace G := G.val qm
  subst em
  have An' := An.pad (vs' := [] ++ List.replicate bs.length (.int 0)) (pad_rep [] (.int 0) bs.length)
  obtain ⟨h2, G', Ap, Kp⟩ := G.cpy 30 (hw _ (mm 145 rfl)) (hw _ (mm 148 rfl)) (hw _ (mm 146 rfl)) (hw _ (mm 147 rfl)) Ab An' rfl (by decide) (by decide) (ofn_nn m2) (by rw [ofn_nat m2, ofn_nat hcap, show (0 : Int32).toNatClampNeg = 0 from rfl]; omega) (by rw [ofn_nat m2, show (0 : Int32).toNatClampNeg = 0 from rfl]; omega) (by rw [ofn_nat m2, show (0 : Int32).toNatClampNeg = 0 from rfl]; simp) (Or.inr sn) (mm 0 rfl) d42_27 rfl (nle rfl) (nle rfl) rfl
  replace G := G'; clear G'
  rw [ofn_nat m2, show (0 : Int32).toNatClampNeg = 0 from rfl] at Ap
  replace Ap := (cpy_res [] bs (.int 0)) ▸ Ap
  replace G := G.aload 32 d42_30 rfl rfl rfl
  exact G.retA hret rfl rfl hlk d42_32 [n] (allS (mm 0 rfl) all0) ⟨_, rfl, n, rfl, ⟨kn, Ap⟩, sn, rfl⟩ (nle rfl) (nle rfl)
theorem d41_0 : decode jdk_65_method_132_code 0 = .ok (.iload_n 1, 1) := by decide +kernel
theorem d41_1 : decode jdk_65_method_132_code 1 = .ok (.ifCond .ne 9, 3) := by decide +kernel
theorem d41_4 : decode jdk_65_method_132_code 4 = .ok (.iload_n 2, 1) := by decide +kernel
theorem d41_5 : decode jdk_65_method_132_code 5 = .ok (.aload_n 0, 1) := by decide +kernel
theorem d41_6 : decode jdk_65_method_132_code 6 = .ok (.arraylength, 1) := by decide +kernel
theorem d41_7 : decode jdk_65_method_132_code 7 = .ok (.if_icmp .eq 10, 3) := by decide +kernel
theorem d41_10 : decode jdk_65_method_132_code 10 = .ok (.aload_n 0, 1) := by decide +kernel
theorem d41_11 : decode jdk_65_method_132_code 11 = .ok (.iload_n 1, 1) := by decide +kernel
theorem d41_12 : decode jdk_65_method_132_code 12 = .ok (.iload_n 2, 1) := by decide +kernel
theorem d41_13 : decode jdk_65_method_132_code 13 = .ok (.invokestatic 339, 3) := by decide +kernel
theorem d41_16 : decode jdk_65_method_132_code 16 = .ok (.areturn, 1) := by decide +kernel
theorem d41_17 : decode jdk_65_method_132_code 17 = .ok (.aload_n 0, 1) := by decide +kernel
theorem d41_18 : decode jdk_65_method_132_code 18 = .ok (.invokevirtual 310, 3) := by decide +kernel
theorem d41_21 : decode jdk_65_method_132_code 21 = .ok (.checkcast 311, 3) := by decide +kernel
theorem d41_24 : decode jdk_65_method_132_code 24 = .ok (.areturn, 1) := by decide +kernel
theorem c_cor (l : Launch) (Z : State) (a0 : Array Value) (hw : ∀ d ∈ tables_1, d.before a0 Z = true) (hEW : EW Z a0 consts_1) (n0 : Nat) (c1 : Int32) (hc1 : ¬ c1 = 0) (S1 : Sta Z Z.heap "java/lang/String" "COMPACT_STRINGS" "Z" (.int c1)) (b : Addr) (kb : ClassId) (cap : Nat) (bs : List Value) {h0 : Heap} (o1 : Old Z n0 h0) (hlt : bs.length < cap) (hcap : cap < 2147483648) (hmax : bs.length ≤ 64) (Ab : Arv Z h0 b kb .byte (Int32.ofNat cap) bs (.int 0)) :
    Con Z a0 l (⟨"java/util/Arrays", "copyOfRange", "([BII)[B"⟩ : MethodName) jdk_65_method_132_code 3 (some (.array .byte)) ({ frames := 2, cells := 1, slots := 64, locals := 57 } : Room) [] #[(.ref b), (.int (0 : Int32)), (.int (Int32.ofNat bs.length))] consts_1 h0 n0 [] [] (VV fun w h so => ∃ n, w = .ref n ∧ (∃ k, Arv Z h n k .byte (Int32.ofNat bs.length) bs (.int 0)) ∧ h0.size ≤ n ∧ so = [n]) := by
  refine Con.body (plainFor_of_name pn_java_util_Arrays) hEW o1 all0 #[.val (.ref b), .val (.int (0 : Int32)), .val (.int (Int32.ofNat bs.length))] (fun m => by first | (simp [entryFrame, mkF, argsToLocals, Value.category]; done) | rfl) ?_
  intro p e s m below meth c B hnm hret hlk G
  replace G := G.iloadN 1 d41_0 rfl rfl |>.ifF 4 d41_1 (XT.i0_ne_f rfl) rfl |>.iloadN 5 d41_4 rfl rfl |>.aloadN 6 d41_5 rfl rfl rfl |>.alen 7 Ab d41_6 rfl |>.icmpF 10 d41_7 (XT.ii_eq_f (ofn_ne (by omega) (by omega) hcap)) rfl |>.aloadN 11 d41_10 rfl rfl rfl |>.iloadN 12 d41_11 rfl rfl
  replace G := G.iloadN 13 d41_12 rfl rfl
  obtain ⟨vc, h1, soc, G', Kc, Qc⟩ := G.callS 16 (hw _ (mm 220 rfl)) (hw _ (mm 221 rfl)) (hw _ (mm 140 rfl)) (hw _ (mm 222 rfl)) (by decide) [(.ref b), (.int (0 : Int32)), (.int (Int32.ofNat bs.length))] [] rfl (c_corb l Z a0 hw hEW n0 c1 hc1 S1 b kb cap bs G.old hlt hcap hmax Ab) (lenOf pd___BII__B rfl) d41_13 rfl (nle rfl) (nle rfl) (nle rfl) (nle rfl) all0 all0 all0 rfl
  replace G := G'; clear G'
  obtain ⟨wc, qc, n, rfl, hA, sn, rfl⟩ := Qc
  replace G := G.val qc
  exact G.retA hret rfl rfl hlk d41_16 [n] (allS (mm 0 rfl) all0) ⟨_, rfl, n, rfl, hA, sn, rfl⟩ (nle rfl) (nle rfl)
theorem d38_0 : decode jdk_68_method_64_code 0 = .ok (.aload_n 0, 1) := by decide +kernel
theorem d38_1 : decode jdk_68_method_64_code 1 = .ok (.getfield 15, 3) := by decide +kernel
theorem d38_4 : decode jdk_68_method_64_code 4 = .ok (.areturn, 1) := by decide +kernel
theorem c_getVal (l : Launch) (Z : State) (a0 : Array Value) (hw : ∀ d ∈ tables_1, d.before a0 Z = true) (hEW : EW Z a0 consts_1) (n0 : Nat) (c1 : Int32) (hc1 : ¬ c1 = 0) (S1 : Sta Z Z.heap "java/lang/String" "COMPACT_STRINGS" "Z" (.int c1)) (a b : Addr) (cap : Nat) (bs : List Value) {h0 : Heap} (o1 : Old Z n0 h0) (hS : Sbd Z h0 a b cap bs) :
    Con Z a0 l (⟨"java/lang/AbstractStringBuilder", "getValue", "()[B"⟩ : MethodName) jdk_68_method_64_code 1 (some (.array .byte)) ({ frames := 0, cells := 0, slots := 0, locals := 0 } : Room) [] #[(.ref a)] consts_1 h0 n0 [] [] (VV fun w h so => w = .ref b ∧ h = h0 ∧ so = []) := by
  refine Con.body (plainFor_of_name pn_java_lang_AbstractStringBuilder) hEW o1 all0 #[.val (.ref a)] (fun m => by first | (simp [entryFrame, mkF, argsToLocals, Value.category]; done) | rfl) ?_
  intro p e s m below meth c B hnm hret hlk G
  replace G := G.aloadN 1 d38_0 rfl rfl rfl |>.getf 4 (host := "") (Or.inl (hw _ (mm 91 rfl))) Via.refl hS.2.1 d38_1 rfl
  exact G.retA hret rfl rfl hlk d38_4 [] all0 ⟨_, rfl, rfl, rfl, rfl⟩ (nle rfl) (nle rfl)
theorem d40_0 : decode jdk_68_method_6_code 0 = .ok (.aload_n 0, 1) := by decide +kernel
theorem d40_1 : decode jdk_68_method_6_code 1 = .ok (.getfield 79, 3) := by decide +kernel
theorem d40_4 : decode jdk_68_method_6_code 4 = .ok (.ireturn, 1) := by decide +kernel
theorem c_asbLen (l : Launch) (Z : State) (a0 : Array Value) (hw : ∀ d ∈ tables_1, d.before a0 Z = true) (hEW : EW Z a0 consts_1) (n0 : Nat) (c1 : Int32) (hc1 : ¬ c1 = 0) (S1 : Sta Z Z.heap "java/lang/String" "COMPACT_STRINGS" "Z" (.int c1)) (a b : Addr) (cap : Nat) (bs : List Value) {h0 : Heap} (o1 : Old Z n0 h0) (hS : Sbd Z h0 a b cap bs) :
    Con Z a0 l (⟨"java/lang/AbstractStringBuilder", "length", "()I"⟩ : MethodName) jdk_68_method_6_code 1 (some .int) ({ frames := 0, cells := 0, slots := 0, locals := 0 } : Room) [] #[(.ref a)] consts_1 h0 n0 [] [] (VV fun w h so => w = .int (Int32.ofNat bs.length) ∧ h = h0 ∧ so = []) := by
  refine Con.body (plainFor_of_name pn_java_lang_AbstractStringBuilder) hEW o1 all0 #[.val (.ref a)] (fun m => by first | (simp [entryFrame, mkF, argsToLocals, Value.category]; done) | rfl) ?_
  intro p e s m below meth c B hnm hret hlk G
  replace G := G.aloadN 1 d40_0 rfl rfl rfl |>.getf 4 (host := "") (Or.inl (hw _ (mm 116 rfl))) Via.refl hS.2.2.2.1 d40_1 rfl
  exact G.retI hret hlk d40_4 [] all0 ⟨_, rfl, rfl, rfl, rfl⟩ (nle rfl) (nle rfl)
theorem d39_0 : decode jdk_67_method_93_code 0 = .ok (.aload_n 0, 1) := by decide +kernel
theorem d39_1 : decode jdk_67_method_93_code 1 = .ok (.invokespecial 343, 3) := by decide +kernel
theorem d39_4 : decode jdk_67_method_93_code 4 = .ok (.ireturn, 1) := by decide +kernel
theorem c_sbLen (l : Launch) (Z : State) (a0 : Array Value) (hw : ∀ d ∈ tables_1, d.before a0 Z = true) (hEW : EW Z a0 consts_1) (n0 : Nat) (c1 : Int32) (hc1 : ¬ c1 = 0) (S1 : Sta Z Z.heap "java/lang/String" "COMPACT_STRINGS" "Z" (.int c1)) (a b : Addr) (cap : Nat) (bs : List Value) {h0 : Heap} (o1 : Old Z n0 h0) (hS : Sbd Z h0 a b cap bs) :
    Con Z a0 l (⟨"java/lang/StringBuilder", "length", "()I"⟩ : MethodName) jdk_67_method_93_code 1 (some .int) ({ frames := 1, cells := 0, slots := 0, locals := 12 } : Room) [] #[(.ref a)] consts_1 h0 n0 [] [] (VV fun w h so => w = .int (Int32.ofNat bs.length) ∧ h = h0 ∧ so = []) := by
  refine Con.body (plainFor_of_name pn_java_lang_StringBuilder) hEW o1 all0 #[.val (.ref a)] (fun m => by first | (simp [entryFrame, mkF, argsToLocals, Value.category]; done) | rfl) ?_
  intro p e s m below meth c B hnm hret hlk G
  replace G := G.aloadN 1 d39_0 rfl rfl rfl
  obtain ⟨vl, h_l, sol, G', Kl, Ql⟩ := G.callSup 4 (hw _ (mm 214 rfl)) (sameOf (hw _ (mm 210 rfl)) (nfVia (y := (⟨"java/lang/AbstractStringBuilder", "ensureCapacityInternal", "(I)V"⟩ : MethodName)) rfl (hw _ (mm 121 rfl)) (hw _ (mm 119 rfl))) (by decide)) (hw _ (mm 210 rfl)) (hw _ (mm 103 rfl)) (by decide) (hw _ (mm 87 rfl)) (hw _ (mm 215 rfl)) (Ins.self hS.1) [] [] rfl (c_asbLen l Z a0 hw hEW n0 c1 hc1 S1 a b cap bs G.old hS) (lenOf pd___I rfl) d39_1 rfl (nle rfl) (nle rfl) (nle rfl) (nle rfl) all0 all0 all0 rfl
  replace G := G'; clear G'
  obtain ⟨wl, ql, rfl, el, rfl⟩ := Ql
  replace G := G.val ql
  subst el
  exact G.retI hret hlk d39_4 [] all0 ⟨_, rfl, rfl, rfl, rfl⟩ (nle rfl) (nle rfl)
theorem d33_0 : decode jdk_68_method_68_code 0 = .ok (.getstatic 18, 3) := by decide +kernel
theorem d33_3 : decode jdk_68_method_68_code 3 = .ok (.ifCond .eq 14, 3) := by decide +kernel
theorem d33_6 : decode jdk_68_method_68_code 6 = .ok (.aload_n 0, 1) := by decide +kernel
theorem d33_7 : decode jdk_68_method_68_code 7 = .ok (.getfield 22, 3) := by decide +kernel
theorem d33_10 : decode jdk_68_method_68_code 10 = .ok (.ifCond .ne 7, 3) := by decide +kernel
theorem d33_13 : decode jdk_68_method_68_code 13 = .ok (.iconst 1, 1) := by decide +kernel
theorem d33_14 : decode jdk_68_method_68_code 14 = .ok (.goto 4, 3) := by decide +kernel
theorem d33_17 : decode jdk_68_method_68_code 17 = .ok (.iconst 0, 1) := by decide +kernel
theorem d33_18 : decode jdk_68_method_68_code 18 = .ok (.ireturn, 1) := by decide +kernel
theorem c_isL1 (l : Launch) (Z : State) (a0 : Array Value) (hw : ∀ d ∈ tables_1, d.before a0 Z = true) (hEW : EW Z a0 consts_1) (n0 : Nat) (c1 : Int32) (hc1 : ¬ c1 = 0) (S1 : Sta Z Z.heap "java/lang/String" "COMPACT_STRINGS" "Z" (.int c1)) (a b : Addr) (cap : Nat) (bs : List Value) {h0 : Heap} (o1 : Old Z n0 h0) (hS : Sbd Z h0 a b cap bs) :
    Con Z a0 l (⟨"java/lang/AbstractStringBuilder", "isLatin1", "()Z"⟩ : MethodName) jdk_68_method_68_code 1 (some .boolean) ({ frames := 0, cells := 0, slots := 0, locals := 0 } : Room) [] #[(.ref a)] consts_1 h0 n0 [] [] (VV fun w h so => w = .int 1 ∧ h = h0 ∧ so = []) := by
  refine Con.body (plainFor_of_name pn_java_lang_AbstractStringBuilder) hEW o1 all0 #[.val (.ref a)] (fun m => by first | (simp [entryFrame, mkF, argsToLocals, Value.category]; done) | rfl) ?_
  intro p e s m below meth c B hnm hret hlk G
  replace G := G.gets 3 (host := "") (Or.inl (hw _ (mm 90 rfl))) Via.refl (G.sta S1) d33_0 rfl |>.ifF 6 d33_3 (XT.i0_eq_f hc1) rfl |>.aloadN 7 d33_6 rfl rfl rfl |>.getf 10 (host := "") (Or.inl (hw _ (mm 93 rfl))) Via.refl hS.2.2.1 d33_7 rfl |>.ifF 13 d33_10 (XT.i0_ne_f rfl) rfl |>.iconst 14 (1 : Int32) d33_13 rfl rfl |>.goto 18 d33_14 (by decide) (by decide)
  exact G.retN hret (Or.inl rfl) hlk d33_18 [] all0 ⟨_, rfl, rfl, rfl, rfl⟩ (nle rfl) (nle rfl)
theorem d37_0 : decode jdk_42_method_150_code 0 = .ok (.aload_n 0, 1) := by decide +kernel
theorem d37_1 : decode jdk_42_method_150_code 1 = .ok (.invokespecial 1, 3) := by decide +kernel
theorem d37_4 : decode jdk_42_method_150_code 4 = .ok (.aload_n 1, 1) := by decide +kernel
theorem d37_5 : decode jdk_42_method_150_code 5 = .ok (.invokevirtual 552, 3) := by decide +kernel
theorem d37_8 : decode jdk_42_method_150_code 8 = .ok (.astore_n 3, 1) := by decide +kernel
theorem d37_9 : decode jdk_42_method_150_code 9 = .ok (.aload_n 1, 1) := by decide +kernel
theorem d37_10 : decode jdk_42_method_150_code 10 = .ok (.invokevirtual 549, 3) := by decide +kernel
theorem d37_13 : decode jdk_42_method_150_code 13 = .ok (.istore 4, 2) := by decide +kernel
theorem d37_15 : decode jdk_42_method_150_code 15 = .ok (.aload_n 1, 1) := by decide +kernel
theorem d37_16 : decode jdk_42_method_150_code 16 = .ok (.invokevirtual 1047, 3) := by decide +kernel
theorem d37_19 : decode jdk_42_method_150_code 19 = .ok (.ifCond .eq 22, 3) := by decide +kernel
theorem d37_22 : decode jdk_42_method_150_code 22 = .ok (.aload_n 0, 1) := by decide +kernel
theorem d37_23 : decode jdk_42_method_150_code 23 = .ok (.iconst 0, 1) := by decide +kernel
theorem d37_24 : decode jdk_42_method_150_code 24 = .ok (.putfield 15, 3) := by decide +kernel
theorem d37_27 : decode jdk_42_method_150_code 27 = .ok (.aload_n 0, 1) := by decide +kernel
theorem d37_28 : decode jdk_42_method_150_code 28 = .ok (.aload_n 3, 1) := by decide +kernel
theorem d37_29 : decode jdk_42_method_150_code 29 = .ok (.iconst 0, 1) := by decide +kernel
theorem d37_30 : decode jdk_42_method_150_code 30 = .ok (.iload 4, 2) := by decide +kernel
theorem d37_32 : decode jdk_42_method_150_code 32 = .ok (.invokestatic 54, 3) := by decide +kernel
theorem d37_35 : decode jdk_42_method_150_code 35 = .ok (.putfield 9, 3) := by decide +kernel
theorem d37_38 : decode jdk_42_method_150_code 38 = .ok (.goto 59, 3) := by decide +kernel
theorem d37_41 : decode jdk_42_method_150_code 41 = .ok (.getstatic 38, 3) := by decide +kernel
theorem d37_44 : decode jdk_42_method_150_code 44 = .ok (.ifCond .eq 35, 3) := by decide +kernel
theorem d37_47 : decode jdk_42_method_150_code 47 = .ok (.aload_n 1, 1) := by decide +kernel
theorem d37_48 : decode jdk_42_method_150_code 48 = .ok (.getfield 1048, 3) := by decide +kernel
theorem d37_51 : decode jdk_42_method_150_code 51 = .ok (.ifCond .eq 28, 3) := by decide +kernel
theorem d37_54 : decode jdk_42_method_150_code 54 = .ok (.aload_n 0, 1) := by decide +kernel
theorem d37_55 : decode jdk_42_method_150_code 55 = .ok (.aload_n 3, 1) := by decide +kernel
theorem d37_56 : decode jdk_42_method_150_code 56 = .ok (.iconst 0, 1) := by decide +kernel
theorem d37_57 : decode jdk_42_method_150_code 57 = .ok (.iload 4, 2) := by decide +kernel
theorem d37_59 : decode jdk_42_method_150_code 59 = .ok (.invokestatic 1051, 3) := by decide +kernel
theorem d37_62 : decode jdk_42_method_150_code 62 = .ok (.putfield 9, 3) := by decide +kernel
theorem d37_65 : decode jdk_42_method_150_code 65 = .ok (.aload_n 0, 1) := by decide +kernel
theorem d37_66 : decode jdk_42_method_150_code 66 = .ok (.aload_n 0, 1) := by decide +kernel
theorem d37_67 : decode jdk_42_method_150_code 67 = .ok (.getfield 9, 3) := by decide +kernel
theorem d37_70 : decode jdk_42_method_150_code 70 = .ok (.iload 4, 2) := by decide +kernel
theorem d37_72 : decode jdk_42_method_150_code 72 = .ok (.invokestatic 47, 3) := by decide +kernel
theorem d37_75 : decode jdk_42_method_150_code 75 = .ok (.putfield 15, 3) := by decide +kernel
theorem d37_78 : decode jdk_42_method_150_code 78 = .ok (.return_, 1) := by decide +kernel
theorem d37_79 : decode jdk_42_method_150_code 79 = .ok (.aload_n 0, 1) := by decide +kernel
theorem d37_80 : decode jdk_42_method_150_code 80 = .ok (.iconst 1, 1) := by decide +kernel
theorem d37_81 : decode jdk_42_method_150_code 81 = .ok (.putfield 15, 3) := by decide +kernel
theorem d37_84 : decode jdk_42_method_150_code 84 = .ok (.aload_n 0, 1) := by decide +kernel
theorem d37_85 : decode jdk_42_method_150_code 85 = .ok (.aload_n 3, 1) := by decide +kernel
theorem d37_86 : decode jdk_42_method_150_code 86 = .ok (.iconst 0, 1) := by decide +kernel
theorem d37_87 : decode jdk_42_method_150_code 87 = .ok (.iload 4, 2) := by decide +kernel
theorem d37_89 : decode jdk_42_method_150_code 89 = .ok (.iconst 1, 1) := by decide +kernel
theorem d37_90 : decode jdk_42_method_150_code 90 = .ok (.ishl, 1) := by decide +kernel
theorem d37_91 : decode jdk_42_method_150_code 91 = .ok (.invokestatic 54, 3) := by decide +kernel
theorem d37_94 : decode jdk_42_method_150_code 94 = .ok (.putfield 9, 3) := by decide +kernel
theorem d37_97 : decode jdk_42_method_150_code 97 = .ok (.return_, 1) := by decide +kernel
theorem c_strASB (l : Launch) (Z : State) (a0 : Array Value) (hw : ∀ d ∈ tables_1, d.before a0 Z = true) (hEW : EW Z a0 consts_1) (n0 : Nat) (c1 : Int32) (hc1 : ¬ c1 = 0) (S1 : Sta Z Z.heap "java/lang/String" "COMPACT_STRINGS" "Z" (.int c1)) (s2 a b : Addr) (cap : Nat) (bs : List Value) {h0 : Heap} (o1 : Old Z n0 h0) (ge_s2 : n0 ≤ s2) (hlt : bs.length < cap) (hcap : cap < 2147483648) (hmax : bs.length ≤ 64) (Xs : Exa Z h0 s2 "java/lang/String") (Fv : Fld Z h0 s2 "java/lang/String" "value" "[B" .null) (Fc : Fld Z h0 s2 "java/lang/String" "coder" "B" (.int 0)) (hS : Sbd Z h0 a b cap bs) :
    Con Z a0 l (⟨"java/lang/String", "<init>", "(Ljava/lang/AbstractStringBuilder;Ljava/lang/Void;)V"⟩ : MethodName) jdk_42_method_150_code 5 (none) ({ frames := 3, cells := 1, slots := 64, locals := 72 } : Room) [] #[(.ref s2), (.ref a), .null] consts_1 h0 n0 [s2] [s2] (V0 fun h so => ∃ n, Str Z h s2 n bs ∧ h0.size ≤ n ∧ so = [n]) := by
  refine Con.body (plainFor_of_name pn_java_lang_String) hEW o1 (allS ge_s2 all0) #[.val (.ref s2), .val (.ref a), .val .null, .unset, .unset] (fun m => by first | (simp [entryFrame, mkF, argsToLocals, Value.category]; done) | rfl) ?_
  intro p e s m below meth c B hnm hret hlk G
  replace G := G.aloadN 1 d37_0 rfl rfl rfl |>.initO 4 (hw _ (mm 11 rfl)) (hw _ (mm 12 rfl)) (hw _ (mm 13 rfl)) d37_1 rfl (nle rfl) (nle rfl) rfl |>.aloadN 5 d37_4 rfl rfl rfl
  obtain ⟨vy1, h_1, soy1, G', Ky1, Qy1⟩ := G.callV 8 (hw _ (mm 203 rfl)) (hw _ (mm 204 rfl)) (nfSel (hw _ (mm 206 rfl))) (hw _ (mm 206 rfl)) (hw _ (mm 205 rfl)) (hw _ (mm 87 rfl)) (hw _ (mm 207 rfl)) hS.1 (by decide) [] [] rfl (c_getVal l Z a0 hw hEW n0 c1 hc1 S1 a b cap bs G.old hS) (lenOf pd____B rfl) d37_5 rfl (nle rfl) (nle rfl) (nle rfl) (nle rfl) all0 all0 all0 rfl
  replace G := G'; clear G'
  obtain ⟨wy1, qy1, rfl, ey1, rfl⟩ := Qy1
  replace G := G.val qy1
  subst ey1
  replace G := G.astoreN 9 #[.val (.ref s2), .val (.ref a), .val .null, .val (.ref b), .unset] d37_8 rfl rfl rfl |>.aloadN 10 d37_9 rfl rfl rfl
  obtain ⟨vy2, h_2, soy2, G', Ky2, Qy2⟩ := G.callV 13 (hw _ (mm 208 rfl)) (hw _ (mm 209 rfl)) (nfVia (y := (⟨"java/lang/AbstractStringBuilder", "ensureCapacityInternal", "(I)V"⟩ : MethodName)) rfl (hw _ (mm 121 rfl)) (hw _ (mm 119 rfl))) (hw _ (mm 211 rfl)) (hw _ (mm 212 rfl)) (hw _ (mm 79 rfl)) (hw _ (mm 213 rfl)) hS.1 (by decide) [] [] rfl (c_sbLen l Z a0 hw hEW n0 c1 hc1 S1 a b cap bs G.old hS) (lenOf pd___I rfl) d37_10 rfl (nle rfl) (nle rfl) (nle rfl) (nle rfl) all0 all0 all0 rfl
  replace G := G'; clear G'
  obtain ⟨wy2, qy2, rfl, ey2, rfl⟩ := Qy2
  replace G := G.val qy2
  subst ey2
  replace G := G.istore 15 #[.val (.ref s2), .val (.ref a), .val .null, .val (.ref b), .val (.int (Int32.ofNat bs.length))] d37_13 rfl rfl |>.aloadN 16 d37_15 rfl rfl rfl
  obtain ⟨vy3, h_3, soy3, G', Ky3, Qy3⟩ := G.callV 19 (hw _ (mm 216 rfl)) (hw _ (mm 182 rfl)) (nfSel (hw _ (mm 184 rfl))) (hw _ (mm 184 rfl)) (hw _ (mm 183 rfl)) (hw _ (mm 87 rfl)) (hw _ (mm 185 rfl)) hS.1 (by decide) [] [] rfl (c_isL1 l Z a0 hw hEW n0 c1 hc1 S1 a b cap bs G.old hS) (lenOf pd___Z rfl) d37_16 rfl (nle rfl) (nle rfl) (nle rfl) (nle rfl) all0 all0 all0 rfl
  replace G := G'; clear G'
  obtain ⟨wy3, qy3, rfl, ey3, rfl⟩ := Qy3
  replace G := G.val qy3
  subst ey3
  replace G := G.ifF 22 d37_19 (XT.i0_eq_f (by decide)) rfl |>.aloadN 23 d37_22 rfl rfl rfl |>.iconst 24 (0 : Int32) d37_23 rfl rfl
  have nas : s2 ≠ a := fun q => by subst q; exact absurd rfl (ne_exa Xs hS.1 (by decide))
  have nbs : s2 ≠ b := by obtain ⟨-, -, -, -, kb, Ab⟩ := hS; exact ne_arr Xs (hw _ (mm 2 rfl)) Ab.choose_spec.1
  obtain ⟨h1, G', Wc, Fc, Kc⟩ := G.putf 27 (host := "") (Or.inl (hw _ (mm 26 rfl))) Via.refl Fc Xs (Or.inr ⟨(hw _ (mm 27 rfl)), rfl, hnm⟩) (hw _ (mm 2 rfl)) (ty := .byte) (by decide) rfl rfl (Or.inl (mm 0 rfl)) (mm 0 rfl) d37_24 rfl
  replace G := G'; clear G'
  replace Fv := Fv.other Wc (Or.inr (slot_ne (Or.inr (hw _ (mm 29 rfl))) (Or.inr (hw _ (mm 27 rfl))) (by decide) (t := (.array .byte)) (t' := .byte) (by decide) (by decide)))
  replace Xs := Xs.wr Wc; replace hS := hS.keep Kc (ninS nas.symm nin0) (ninS nbs.symm nin0)
  obtain ⟨kb, Ab⟩ := hS.2.2.2.2
  replace G := G.aloadN 28 d37_27 rfl rfl rfl |>.aloadN 29 d37_28 rfl rfl rfl |>.iconst 30 (0 : Int32) d37_29 rfl rfl |>.iload 32 d37_30 rfl rfl
  obtain ⟨vr, h2, sor, G', Kr, Qr⟩ := G.callS 35 (hw _ (mm 217 rfl)) (hw _ (mm 218 rfl)) (hw _ (mm 140 rfl)) (hw _ (mm 219 rfl)) (by decide) [(.ref b), (.int (0 : Int32)), (.int (Int32.ofNat bs.length))] [(.ref s2)] rfl (c_cor l Z a0 hw hEW n0 c1 hc1 S1 b kb cap bs G.old hlt hcap hmax Ab) (lenOf pd___BII__B rfl) d37_32 rfl (nle rfl) (nle rfl) (nle rfl) (nle rfl) all0 all0 all0 rfl
  replace G := G'; clear G'
  obtain ⟨wr, qr, n, rfl, ⟨kn, An⟩, sn, rfl⟩ := Qr
  replace G := G.val qr
  have nsn : s2 ≠ n := (ne_ge Xs.lt sn).symm
  replace Xs := Xs.keep Kr; replace Fv := Fv.keep Kr nin0; replace Fc := Fc.keep Kr nin0
  obtain ⟨h3, G', Wv, Fv, Kv⟩ := G.putf 38 (host := "") (Or.inl (hw _ (mm 28 rfl))) Via.refl Fv Xs (Or.inr ⟨(hw _ (mm 29 rfl)), rfl, hnm⟩) (hw _ (mm 2 rfl)) (ty := (.array .byte)) (by decide) rfl rfl (Or.inl (mm 0 rfl)) (mm 1 rfl) d37_35 rfl
  replace G := G'; clear G'
  replace Fc := Fc.other Wv (Or.inr (slot_ne (Or.inr (hw _ (mm 27 rfl))) (Or.inr (hw _ (mm 29 rfl))) (by decide) (t := .byte) (t' := (.array .byte)) (by decide) (by decide)))
  replace Xs := Xs.wr Wv; replace An := An.keep Kv (ninS nsn.symm nin0)
  replace G := G.goto 97 d37_38 (by decide) (by decide)
  exact G.retV hret hlk d37_97 [n] (allS (mm 0 rfl) all0) ⟨rfl, n, ⟨Xs, Fc, Fv, kn, An⟩, Nat.le_trans Kc.1 sn, rfl⟩ (nle rfl) (nle rfl)
theorem d36_0 : decode jdk_42_method_53_code 0 = .ok (.aload_n 0, 1) := by decide +kernel
theorem d36_1 : decode jdk_42_method_53_code 1 = .ok (.aload_n 1, 1) := by decide +kernel
theorem d36_2 : decode jdk_42_method_53_code 2 = .ok (.aconst_null, 1) := by decide +kernel
theorem d36_3 : decode jdk_42_method_53_code 3 = .ok (.invokespecial 489, 3) := by decide +kernel
theorem d36_6 : decode jdk_42_method_53_code 6 = .ok (.return_, 1) := by decide +kernel
theorem c_strSB (l : Launch) (Z : State) (a0 : Array Value) (hw : ∀ d ∈ tables_1, d.before a0 Z = true) (hEW : EW Z a0 consts_1) (n0 : Nat) (c1 : Int32) (hc1 : ¬ c1 = 0) (S1 : Sta Z Z.heap "java/lang/String" "COMPACT_STRINGS" "Z" (.int c1)) (s2 a b : Addr) (cap : Nat) (bs : List Value) {h0 : Heap} (o1 : Old Z n0 h0) (ge_s2 : n0 ≤ s2) (hlt : bs.length < cap) (hcap : cap < 2147483648) (hmax : bs.length ≤ 64) (Xs : Exa Z h0 s2 "java/lang/String") (Fv : Fld Z h0 s2 "java/lang/String" "value" "[B" .null) (Fc : Fld Z h0 s2 "java/lang/String" "coder" "B" (.int 0)) (hS : Sbd Z h0 a b cap bs) :
    Con Z a0 l (⟨"java/lang/String", "<init>", "(Ljava/lang/StringBuilder;)V"⟩ : MethodName) jdk_42_method_53_code 2 (none) ({ frames := 4, cells := 1, slots := 64, locals := 88 } : Room) [] #[(.ref s2), (.ref a)] consts_1 h0 n0 [s2] [s2] (V0 fun h so => ∃ n, Str Z h s2 n bs ∧ h0.size ≤ n ∧ so = [n]) := by
  refine Con.body (plainFor_of_name pn_java_lang_String) hEW o1 (allS ge_s2 all0) #[.val (.ref s2), .val (.ref a)] (fun m => by first | (simp [entryFrame, mkF, argsToLocals, Value.category]; done) | rfl) ?_
  intro p e s m below meth c B hnm hret hlk G
  replace G := G.aloadN 1 d36_0 rfl rfl rfl |>.aloadN 2 d36_1 rfl rfl rfl |>.aconstNull 3 d36_2 rfl
  obtain ⟨vi, h1, soi, G', Ki, Qi⟩ := G.callI 6 rfl rfl (hw _ (mm 200 rfl)) (hw _ (mm 201 rfl)) (hw _ (mm 3 rfl)) (hw _ (mm 202 rfl)) (by decide) [(.ref a), .null] [] rfl (c_strASB l Z a0 hw hEW n0 c1 hc1 S1 s2 a b cap bs G.old ge_s2 hlt hcap hmax Xs Fv Fc hS) (lenOf pd__Ljava_lang_AbstractStringBuilder_Ljava_lang_Void__V rfl) d36_3 rfl (nle rfl) (nle rfl) (nle rfl) (nle rfl) (allS (Or.inl (mm 0 rfl)) all0) (allS (mm 0 rfl) all0) (allS (mm 0 rfl) all0) rfl
  replace G := G'; clear G'
  obtain ⟨qi, n, hT, sn, rfl⟩ := Qi
  replace G := G.nov qi
  exact G.retV hret hlk d36_6 [n] (allS (mm 0 rfl) all0) ⟨rfl, n, hT, sn, rfl⟩ (nle rfl) (nle rfl)
theorem d35_0 : decode jdk_67_method_42_code 0 = .ok (.new 18, 3) := by decide +kernel
theorem d35_3 : decode jdk_67_method_42_code 3 = .ok (.dup, 1) := by decide +kernel
theorem d35_4 : decode jdk_67_method_42_code 4 = .ok (.aload_n 0, 1) := by decide +kernel
theorem d35_5 : decode jdk_67_method_42_code 5 = .ok (.invokespecial 137, 3) := by decide +kernel
theorem d35_8 : decode jdk_67_method_42_code 8 = .ok (.areturn, 1) := by decide +kernel
theorem c_toStr (l : Launch) (Z : State) (a0 : Array Value) (hw : ∀ d ∈ tables_1, d.before a0 Z = true) (hEW : EW Z a0 consts_1) (n0 : Nat) (c1 : Int32) (hc1 : ¬ c1 = 0) (S1 : Sta Z Z.heap "java/lang/String" "COMPACT_STRINGS" "Z" (.int c1)) (a b : Addr) (cap : Nat) (bs : List Value) {h0 : Heap} (o1 : Old Z n0 h0) (hlt : bs.length < cap) (hcap : cap < 2147483648) (hmax : bs.length ≤ 64) (hS : Sbd Z h0 a b cap bs) :
    Con Z a0 l (⟨"java/lang/StringBuilder", "toString", "()Ljava/lang/String;"⟩ : MethodName) jdk_67_method_42_code 1 (some (.object "java/lang/String")) ({ frames := 5, cells := 2, slots := 68, locals := 102 } : Room) [] #[(.ref a)] consts_1 h0 n0 [] [] (VV fun w h so => ∃ s2 n, w = .ref s2 ∧ Str Z h s2 n bs ∧ h0.size ≤ s2 ∧ h0.size ≤ n ∧ so = [n, s2]) := by
  refine Con.body (plainFor_of_name pn_java_lang_StringBuilder) hEW o1 all0 #[.val (.ref a)] (fun m => by first | (simp [entryFrame, mkF, argsToLocals, Value.category]; done) | rfl) ?_
  intro p e s m below meth c B hnm hret hlk G
  obtain ⟨s2, h1, G', gs2, ss2, Es2, Xs2, Ds2, Us2⟩ := G.new 3 (hw _ (mm 196 rfl)) (hw _ (mm 2 rfl)) (hw _ (mm 3 rfl)) d35_0 rfl (nle rfl) (nle rfl)
  replace G := G'; clear G'
  have Fv := Ds2 (Or.inr (hw _ (mm 29 rfl))) (ty := .array .byte) (by decide)
  have Fc := Ds2 (Or.inr (hw _ (mm 27 rfl))) (ty := .byte) (by decide)
  replace hS := hS.ext Es2
  replace G := G.dup 4 d35_3 rfl rfl |>.aloadN 5 d35_4 rfl rfl rfl
  obtain ⟨vi, h2, soi, G', Ki, Qi⟩ := G.callI 8 rfl rfl (hw _ (mm 197 rfl)) (hw _ (mm 198 rfl)) (hw _ (mm 3 rfl)) (hw _ (mm 199 rfl)) (by decide) [(.ref a)] [(.ref s2)] rfl (c_strSB l Z a0 hw hEW n0 c1 hc1 S1 s2 a b cap bs G.old (Nat.le_trans (G.nw (Or.inr ss2)) (Nat.le_refl _)) hlt hcap hmax Xs2 Fv Fc hS) (lenOf pd__Ljava_lang_StringBuilder__V rfl) d35_5 rfl (nle rfl) (nle rfl) (nle rfl) (nle rfl) (allS (Or.inr ss2) all0) (allS (mm 0 rfl) all0) (allS (mm 0 rfl) all0) rfl
  replace G := G'; clear G'
  obtain ⟨qi, n, hT, sn, rfl⟩ := Qi
  replace G := G.nov qi
  exact G.retA hret rfl rfl hlk d35_8 [n, s2] (allS (mm 0 rfl) (allS (mm 1 rfl) all0)) ⟨_, rfl, s2, n, rfl, hT, ss2, Nat.le_trans Es2.1 sn, rfl⟩ (nle rfl) (nle rfl)
theorem d5_0 : decode jdk_52_method_21_code 0 = .ok (.iconst 0, 1) := by decide +kernel
theorem d5_1 : decode jdk_52_method_21_code 1 = .ok (.istore 5, 2) := by decide +kernel
theorem d5_3 : decode jdk_52_method_21_code 3 = .ok (.iload 5, 2) := by decide +kernel
theorem d5_5 : decode jdk_52_method_21_code 5 = .ok (.iload 4, 2) := by decide +kernel
theorem d5_7 : decode jdk_52_method_21_code 7 = .ok (.if_icmp .ge 37, 3) := by decide +kernel
theorem d5_10 : decode jdk_52_method_21_code 10 = .ok (.aload_n 0, 1) := by decide +kernel
theorem d5_11 : decode jdk_52_method_21_code 11 = .ok (.iload_n 1, 1) := by decide +kernel
theorem d5_12 : decode jdk_52_method_21_code 12 = .ok (.caload, 1) := by decide +kernel
theorem d5_13 : decode jdk_52_method_21_code 13 = .ok (.istore 6, 2) := by decide +kernel
theorem d5_15 : decode jdk_52_method_21_code 15 = .ok (.iload 6, 2) := by decide +kernel
theorem d5_17 : decode jdk_52_method_21_code 17 = .ok (.sipush 255, 3) := by decide +kernel
theorem d5_20 : decode jdk_52_method_21_code 20 = .ok (.if_icmp .le 6, 3) := by decide +kernel
theorem d5_23 : decode jdk_52_method_21_code 23 = .ok (.iload 5, 2) := by decide +kernel
theorem d5_25 : decode jdk_52_method_21_code 25 = .ok (.ireturn, 1) := by decide +kernel
theorem d5_26 : decode jdk_52_method_21_code 26 = .ok (.aload_n 2, 1) := by decide +kernel
theorem d5_27 : decode jdk_52_method_21_code 27 = .ok (.iload_n 3, 1) := by decide +kernel
theorem d5_28 : decode jdk_52_method_21_code 28 = .ok (.iload 6, 2) := by decide +kernel
theorem d5_30 : decode jdk_52_method_21_code 30 = .ok (.i2b, 1) := by decide +kernel
theorem d5_31 : decode jdk_52_method_21_code 31 = .ok (.bastore, 1) := by decide +kernel
theorem d5_32 : decode jdk_52_method_21_code 32 = .ok (.iinc 1 1, 3) := by decide +kernel
theorem d5_35 : decode jdk_52_method_21_code 35 = .ok (.iinc 3 1, 3) := by decide +kernel
theorem d5_38 : decode jdk_52_method_21_code 38 = .ok (.iinc 5 1, 3) := by decide +kernel
theorem d5_41 : decode jdk_52_method_21_code 41 = .ok (.goto (-38), 3) := by decide +kernel
theorem d5_44 : decode jdk_52_method_21_code 44 = .ok (.iload 4, 2) := by decide +kernel
theorem d5_46 : decode jdk_52_method_21_code 46 = .ok (.ireturn, 1) := by decide +kernel
theorem c_cmpL (l : Launch) (Z : State) (a0 : Array Value) (hw : ∀ d ∈ tables_1, d.before a0 Z = true) (hEW : EW Z a0 consts_1) (n0 : Nat) (c1 : Int32) (hc1 : ¬ c1 = 0) (S1 : Sta Z Z.heap "java/lang/String" "COMPACT_STRINGS" "Z" (.int c1)) (va d : Addr) (kv kd : ClassId) (cs : List Int32) {h0 : Heap} (o1 : Old Z n0 h0) (ge_d : n0 ≤ d) (hne : 0 < cs.length) (hn : cs.length < 2147483648) (hc : ∀ x ∈ cs, ¬ (255 : Int32) < x) (nvd : va ≠ d) (Av : Arv Z h0 va kv .char (Int32.ofNat cs.length) (cs.map Value.int) (.int 0)) (Ad : Arv Z h0 d kd .byte (Int32.ofNat cs.length) [] (.int 0)) :
    Con Z a0 l (⟨"java/lang/StringUTF16", "compress", "([CI[BII)I"⟩ : MethodName) jdk_52_method_21_code 7 (some .int) ({ frames := 0, cells := 0, slots := 0, locals := 0 } : Room) [] #[(.ref va), (.int (0 : Int32)), (.ref d), (.int (0 : Int32)), (.int (Int32.ofNat cs.length))] consts_1 h0 n0 [d] [d] (VV fun w h so => w = .int (Int32.ofNat cs.length) ∧ Arv Z h d kd .byte (Int32.ofNat cs.length) (cs.map bytV) (.int 0) ∧ so = []) := by
  refine Con.body (plainFor_of_name pn_java_lang_StringUTF16) hEW o1 (allS ge_d all0) #[.val (.ref va), .val (.int (0 : Int32)), .val (.ref d), .val (.int (0 : Int32)), .val (.int (Int32.ofNat cs.length)), .unset, .unset] (fun m => by first | (simp [entryFrame, mkF, argsToLocals, Value.category]; done) | rfl) ?_
  intro p e s m below meth c B hnm hret hlk G
  have loop : ∀ (k : Nat) (h : Heap) (i : Nat) (cc : Int32), i + k = cs.length → Arv Z h va kv .char (Int32.ofNat cs.length) (cs.map Value.int) (.int 0) → Arv Z h d kd .byte (Int32.ofNat cs.length) ((cs.take i).map bytV) (.int 0) → Wl Z a0 "java/lang/StringUTF16" p l e ({ frames := 0, cells := 0, slots := 0, locals := 0 } : Room) s m #[(.ref va), (.int (0 : Int32)), (.ref d), (.int (0 : Int32)), (.int (Int32.ofNat cs.length))] below meth c jdk_52_method_21_code 7 B consts_1 h0 n0 [d] [d] h 0 0 3 #[.val (.ref va), .val (.int (Int32.ofNat i)), .val (.ref d), .val (.int (Int32.ofNat i)), .val (.int (Int32.ofNat cs.length)), .val (.int (Int32.ofNat i)), .val (.int cc)] [] → Fin Z consts_1 p e below B s h0 n0 [d] ({ frames := 0, cells := 0, slots := 0, locals := 0 } : Room).cells ({ frames := 0, cells := 0, slots := 0, locals := 0 } : Room).slots (VV fun w h so => w = .int (Int32.ofNat cs.length) ∧ Arv Z h d kd .byte (Int32.ofNat cs.length) (cs.map bytV) (.int 0) ∧ so = []) := by
    intro k; induction k with
    | zero =>
      intro h i cc hik Av Ad G
      obtain rfl : i = cs.length := by omega
      replace G := G.iload 5 d5_3 rfl rfl |>.iload 7 d5_5 rfl rfl |>.icmpT 44 d5_7 (XT.ii_ge_t (ofn_nlt (Nat.le_refl _) hn)) (by decide) (by decide) |>.iload 46 d5_44 rfl rfl
      rw [List.take_length] at Ad
      exact G.retI hret hlk d5_46 [] all0 ⟨_, rfl, rfl, Ad, rfl⟩ (nle rfl) (nle rfl)
    | succ k ih =>
      intro h i cc hik Av Ad G
      have hi : i < cs.length := by omega
      replace G := G.iload 5 d5_3 rfl rfl |>.iload 7 d5_5 rfl rfl |>.icmpF 10 d5_7 (XT.ii_ge_f (ofn_lt hi hn)) rfl |>.aloadN 11 d5_10 rfl rfl rfl |>.iloadN 12 d5_11 rfl rfl
      have hci := hc _ (getD_mem cs i hi)
      replace G := G.caload 13 (v := (.int (cs.getD i 0))) Av ⟨ofn_nn (by omega), ofn_lt hi hn⟩ (by rw [ofn_nat (by omega)]; exact getD_map cs i hi) d5_12 rfl |>.istore 15 #[.val (.ref va), .val (.int (Int32.ofNat i)), .val (.ref d), .val (.int (Int32.ofNat i)), .val (.int (Int32.ofNat cs.length)), .val (.int (Int32.ofNat i)), .val (.int (cs.getD i 0))] d5_13 rfl rfl |>.iload 17 d5_15 rfl rfl |>.sipush 20 (255 : Int32) d5_17 (by decide) rfl |>.icmpT 26 d5_20 (XT.ii_le_t hci) (by decide) (by decide) |>.aloadN 27 d5_26 rfl rfl rfl |>.iloadN 28 d5_27 rfl rfl |>.iload 30 d5_28 rfl rfl
      replace G := G.i2b 31 d5_30 rfl
      have Ad' := Ad.pad (vs' := (cs.take i).map bytV ++ [(.int 0)]) (pad_rep _ (.int 0) 1)
      have hlen : ((cs.take i).map bytV).length = i := by first | (simp; done) | (simp; omega)
      obtain ⟨h2, G', As, Ks⟩ := G.bastore 32 i Ad' ⟨ofn_nn (by omega), ofn_lt hi hn⟩ (ofn_nat (by omega)) (by rw [List.length_append, hlen]; simp) (Or.inl (mm 0 rfl)) (mm 0 rfl) d5_31 rfl
      replace G := G'; clear G'
      rw [set_app _ _ _ _ hlen, byt2] at As
      replace Ad : Arv Z h2 d kd .byte (Int32.ofNat cs.length) ((cs.take (i + 1)).map bytV) (.int 0) := by rw [tk_succ cs bytV i hi]; exact As
      replace Av := Av.keep Ks (ninS nvd nin0)
      replace G := G.iincV 35 #[.val (.ref va), .val (.int (Int32.ofNat (i + 1))), .val (.ref d), .val (.int (Int32.ofNat i)), .val (.int (Int32.ofNat cs.length)), .val (.int (Int32.ofNat i)), .val (.int (cs.getD i 0))] (Int32.ofNat (i + 1)) d5_32 rfl (ofn_succ i) rfl rfl |>.iincV 38 #[.val (.ref va), .val (.int (Int32.ofNat (i + 1))), .val (.ref d), .val (.int (Int32.ofNat (i + 1))), .val (.int (Int32.ofNat cs.length)), .val (.int (Int32.ofNat i)), .val (.int (cs.getD i 0))] (Int32.ofNat (i + 1)) d5_35 rfl (ofn_succ i) rfl rfl |>.iincV 41 #[.val (.ref va), .val (.int (Int32.ofNat (i + 1))), .val (.ref d), .val (.int (Int32.ofNat (i + 1))), .val (.int (Int32.ofNat cs.length)), .val (.int (Int32.ofNat (i + 1))), .val (.int (cs.getD i 0))] (Int32.ofNat (i + 1)) d5_38 rfl (ofn_succ i) rfl rfl |>.goto 3 d5_41 (by decide) (by decide)
      exact ih _ (i + 1) _ (by omega) Av Ad G
  have hi : 0 < cs.length := hne
  replace G := G.iconst 1 (0 : Int32) d5_0 rfl rfl |>.istore 3 #[.val (.ref va), .val (.int (0 : Int32)), .val (.ref d), .val (.int (0 : Int32)), .val (.int (Int32.ofNat cs.length)), .val (.int (0 : Int32)), .unset] d5_1 rfl rfl
  replace Ad : Arv Z h0 d kd .byte (Int32.ofNat cs.length) ((cs.take 0).map bytV) (.int 0) := Ad
  replace G : Wl Z a0 "java/lang/StringUTF16" p l e ({ frames := 0, cells := 0, slots := 0, locals := 0 } : Room) s m #[(.ref va), (.int (0 : Int32)), (.ref d), (.int (0 : Int32)), (.int (Int32.ofNat cs.length))] below meth c jdk_52_method_21_code 7 B consts_1 h0 n0 [d] [d] h0 0 0 3 #[.val (.ref va), .val (.int (Int32.ofNat 0)), .val (.ref d), .val (.int (Int32.ofNat 0)), .val (.int (Int32.ofNat cs.length)), .val (.int (Int32.ofNat 0)), .unset] [] := G
  replace G := G.iload 5 d5_3 rfl rfl |>.iload 7 d5_5 rfl rfl |>.icmpF 10 d5_7 (XT.ii_ge_f (ofn_lt hi hn)) rfl |>.aloadN 11 d5_10 rfl rfl rfl |>.iloadN 12 d5_11 rfl rfl
  have hci := hc _ (getD_mem cs 0 hi)
  replace G := G.caload 13 (v := (.int (cs.getD 0 0))) Av ⟨ofn_nn (by omega), ofn_lt hi hn⟩ (by rw [ofn_nat (by omega)]; exact getD_map cs 0 hi) d5_12 rfl |>.istore 15 #[.val (.ref va), .val (.int (Int32.ofNat 0)), .val (.ref d), .val (.int (Int32.ofNat 0)), .val (.int (Int32.ofNat cs.length)), .val (.int (Int32.ofNat 0)), .val (.int (cs.getD 0 0))] d5_13 rfl rfl |>.iload 17 d5_15 rfl rfl |>.sipush 20 (255 : Int32) d5_17 (by decide) rfl |>.icmpT 26 d5_20 (XT.ii_le_t hci) (by decide) (by decide) |>.aloadN 27 d5_26 rfl rfl rfl |>.iloadN 28 d5_27 rfl rfl |>.iload 30 d5_28 rfl rfl
  replace G := G.i2b 31 d5_30 rfl
  have Ad' := Ad.pad (vs' := (cs.take 0).map bytV ++ [(.int 0)]) (pad_rep _ (.int 0) 1)
  have hlen : ((cs.take 0).map bytV).length = 0 := by first | (simp; done) | (simp; omega)
  obtain ⟨h2, G', As, Ks⟩ := G.bastore 32 0 Ad' ⟨ofn_nn (by omega), ofn_lt hi hn⟩ (ofn_nat (by omega)) (by rw [List.length_append, hlen]; simp) (Or.inl (mm 0 rfl)) (mm 0 rfl) d5_31 rfl
  replace G := G'; clear G'
  rw [set_app _ _ _ _ hlen, byt2] at As
  replace Ad : Arv Z h2 d kd .byte (Int32.ofNat cs.length) ((cs.take (0 + 1)).map bytV) (.int 0) := by rw [tk_succ cs bytV 0 hi]; exact As
  replace Av := Av.keep Ks (ninS nvd nin0)
  replace G := G.iincV 35 #[.val (.ref va), .val (.int (Int32.ofNat (0 + 1))), .val (.ref d), .val (.int (Int32.ofNat 0)), .val (.int (Int32.ofNat cs.length)), .val (.int (Int32.ofNat 0)), .val (.int (cs.getD 0 0))] (Int32.ofNat (0 + 1)) d5_32 rfl (ofn_succ 0) rfl rfl |>.iincV 38 #[.val (.ref va), .val (.int (Int32.ofNat (0 + 1))), .val (.ref d), .val (.int (Int32.ofNat (0 + 1))), .val (.int (Int32.ofNat cs.length)), .val (.int (Int32.ofNat 0)), .val (.int (cs.getD 0 0))] (Int32.ofNat (0 + 1)) d5_35 rfl (ofn_succ 0) rfl rfl |>.iincV 41 #[.val (.ref va), .val (.int (Int32.ofNat (0 + 1))), .val (.ref d), .val (.int (Int32.ofNat (0 + 1))), .val (.int (Int32.ofNat cs.length)), .val (.int (Int32.ofNat (0 + 1))), .val (.int (cs.getD 0 0))] (Int32.ofNat (0 + 1)) d5_38 rfl (ofn_succ 0) rfl rfl |>.goto 3 d5_41 (by decide) (by decide)
  exact loop (cs.length - 1) _ 1 _ (by omega) Av Ad G
theorem d4_0 : decode jdk_52_method_16_code 0 = .ok (.iload_n 2, 1) := by decide +kernel
theorem d4_1 : decode jdk_52_method_16_code 1 = .ok (.newarray .byte, 2) := by decide +kernel
theorem d4_3 : decode jdk_52_method_16_code 3 = .ok (.astore_n 3, 1) := by decide +kernel
theorem d4_4 : decode jdk_52_method_16_code 4 = .ok (.aload_n 0, 1) := by decide +kernel
theorem d4_5 : decode jdk_52_method_16_code 5 = .ok (.iload_n 1, 1) := by decide +kernel
theorem d4_6 : decode jdk_52_method_16_code 6 = .ok (.aload_n 3, 1) := by decide +kernel
theorem d4_7 : decode jdk_52_method_16_code 7 = .ok (.iconst 0, 1) := by decide +kernel
theorem d4_8 : decode jdk_52_method_16_code 8 = .ok (.iload_n 2, 1) := by decide +kernel
theorem d4_9 : decode jdk_52_method_16_code 9 = .ok (.invokestatic 115, 3) := by decide +kernel
theorem d4_12 : decode jdk_52_method_16_code 12 = .ok (.istore 4, 2) := by decide +kernel
theorem d4_14 : decode jdk_52_method_16_code 14 = .ok (.iload 4, 2) := by decide +kernel
theorem d4_16 : decode jdk_52_method_16_code 16 = .ok (.iload_n 2, 1) := by decide +kernel
theorem d4_17 : decode jdk_52_method_16_code 17 = .ok (.if_icmp .eq 40, 3) := by decide +kernel
theorem d4_20 : decode jdk_52_method_16_code 20 = .ok (.aload_n 0, 1) := by decide +kernel
theorem d4_21 : decode jdk_52_method_16_code 21 = .ok (.iload_n 1, 1) := by decide +kernel
theorem d4_22 : decode jdk_52_method_16_code 22 = .ok (.iload_n 2, 1) := by decide +kernel
theorem d4_23 : decode jdk_52_method_16_code 23 = .ok (.invokestatic 119, 3) := by decide +kernel
theorem d4_26 : decode jdk_52_method_16_code 26 = .ok (.astore 5, 2) := by decide +kernel
theorem d4_28 : decode jdk_52_method_16_code 28 = .ok (.aload 5, 2) := by decide +kernel
theorem d4_30 : decode jdk_52_method_16_code 30 = .ok (.iload 4, 2) := by decide +kernel
theorem d4_32 : decode jdk_52_method_16_code 32 = .ok (.invokestatic 71, 3) := by decide +kernel
theorem d4_35 : decode jdk_52_method_16_code 35 = .ok (.sipush 255, 3) := by decide +kernel
theorem d4_38 : decode jdk_52_method_16_code 38 = .ok (.if_icmp .gt 16, 3) := by decide +kernel
theorem d4_41 : decode jdk_52_method_16_code 41 = .ok (.aload 5, 2) := by decide +kernel
theorem d4_43 : decode jdk_52_method_16_code 43 = .ok (.iconst 0, 1) := by decide +kernel
theorem d4_44 : decode jdk_52_method_16_code 44 = .ok (.aload_n 3, 1) := by decide +kernel
theorem d4_45 : decode jdk_52_method_16_code 45 = .ok (.iconst 0, 1) := by decide +kernel
theorem d4_46 : decode jdk_52_method_16_code 46 = .ok (.iload_n 2, 1) := by decide +kernel
theorem d4_47 : decode jdk_52_method_16_code 47 = .ok (.invokestatic 123, 3) := by decide +kernel
theorem d4_50 : decode jdk_52_method_16_code 50 = .ok (.iload_n 2, 1) := by decide +kernel
theorem d4_51 : decode jdk_52_method_16_code 51 = .ok (.if_icmp .eq 6, 3) := by decide +kernel
theorem d4_54 : decode jdk_52_method_16_code 54 = .ok (.aload 5, 2) := by decide +kernel
theorem d4_56 : decode jdk_52_method_16_code 56 = .ok (.areturn, 1) := by decide +kernel
theorem d4_57 : decode jdk_52_method_16_code 57 = .ok (.aload_n 3, 1) := by decide +kernel
theorem d4_58 : decode jdk_52_method_16_code 58 = .ok (.areturn, 1) := by decide +kernel
theorem c_cmpA (l : Launch) (Z : State) (a0 : Array Value) (hw : ∀ d ∈ tables_1, d.before a0 Z = true) (hEW : EW Z a0 consts_1) (n0 : Nat) (c1 : Int32) (hc1 : ¬ c1 = 0) (S1 : Sta Z Z.heap "java/lang/String" "COMPACT_STRINGS" "Z" (.int c1)) (va : Addr) (kv : ClassId) (cs : List Int32) {h0 : Heap} (o1 : Old Z n0 h0) (hne : 0 < cs.length) (hmax : cs.length ≤ 60) (hc : ∀ x ∈ cs, ¬ (255 : Int32) < x) (Av : Arv Z h0 va kv .char (Int32.ofNat cs.length) (cs.map Value.int) (.int 0)) :
    Con Z a0 l (⟨"java/lang/StringUTF16", "compress", "([CII)[B"⟩ : MethodName) jdk_52_method_16_code 6 (some (.array .byte)) ({ frames := 1, cells := 1, slots := 60, locals := 18 } : Room) [] #[(.ref va), (.int (0 : Int32)), (.int (Int32.ofNat cs.length))] consts_1 h0 n0 [] [] (VV fun w h so => ∃ d, w = .ref d ∧ (∃ k, Arv Z h d k .byte (Int32.ofNat cs.length) (cs.map bytV) (.int 0)) ∧ h0.size ≤ d ∧ so = [d]) := by
  refine Con.body (plainFor_of_name pn_java_lang_StringUTF16) hEW o1 all0 #[.val (.ref va), .val (.int (0 : Int32)), .val (.int (Int32.ofNat cs.length)), .unset, .unset, .unset] (fun m => by first | (simp [entryFrame, mkF, argsToLocals, Value.category]; done) | rfl) ?_
  intro p e s m below meth c B hnm hret hlk G
  have hn : cs.length < 2147483648 := by omega
  replace G := G.iloadN 1 d4_0 rfl rfl
  obtain ⟨d, h1, kd, G', gd, sd, Ed, Ad⟩ := G.newarray 3 (hw _ (mm 19 rfl)) d4_1 (ofn_nn hn) 60 (by rw [ofn_nat hn]; exact hmax) (by decide) rfl (nle rfl) (nle rfl)
  replace G := G'; clear G'
  have nvd : va ≠ d := ne_new gd Av.lt
  replace Av := Av.ext Ed
  replace G := G.astoreN 4 #[.val (.ref va), .val (.int (0 : Int32)), .val (.int (Int32.ofNat cs.length)), .val (.ref d), .unset, .unset] d4_3 rfl rfl rfl |>.aloadN 5 d4_4 rfl rfl rfl |>.iloadN 6 d4_5 rfl rfl |>.aloadN 7 d4_6 rfl rfl rfl |>.iconst 8 (0 : Int32) d4_7 rfl rfl |>.iloadN 9 d4_8 rfl rfl
  obtain ⟨vc, h2, soc, G', Kc, Qc⟩ := G.callS 12 (hw _ (mm 20 rfl)) (hw _ (mm 21 rfl)) (hw _ (mm 17 rfl)) (hw _ (mm 22 rfl)) (by decide) [(.ref va), (.int (0 : Int32)), (.ref d), (.int (0 : Int32)), (.int (Int32.ofNat cs.length))] [] rfl (c_cmpL l Z a0 hw hEW n0 c1 hc1 S1 va d kv kd cs G.old (G.nw (Or.inr sd)) hne hn hc nvd Av Ad) (lenOf pd___CI_BII_I rfl) d4_9 rfl (nle rfl) (nle rfl) (nle rfl) (nle rfl) (allS (Or.inr sd) all0) (allS (mm 0 rfl) all0) (allS (mm 0 rfl) all0) rfl
  replace G := G'; clear G'
  obtain ⟨wc, qc, rfl, Ad, rfl⟩ := Qc
  replace G := G.val qc |>.istore 14 #[.val (.ref va), .val (.int (0 : Int32)), .val (.int (Int32.ofNat cs.length)), .val (.ref d), .val (.int (Int32.ofNat cs.length)), .unset] d4_12 rfl rfl |>.iload 16 d4_14 rfl rfl |>.iloadN 17 d4_16 rfl rfl |>.icmpT 57 d4_17 (XT.ii_eq_t rfl) (by decide) (by decide) |>.aloadN 58 d4_57 rfl rfl rfl
  exact G.retA hret rfl rfl hlk d4_58 [d] (allS (mm 0 rfl) all0) ⟨_, rfl, d, rfl, ⟨kd, Ad⟩, sd, rfl⟩ (nle rfl) (nle rfl)
theorem d6_0 : decode jdk_52_method_15_code 0 = .ok (.iload_n 1, 1) := by decide +kernel
theorem d6_1 : decode jdk_52_method_15_code 1 = .ok (.aload_n 0, 1) := by decide +kernel
theorem d6_2 : decode jdk_52_method_15_code 2 = .ok (.arraylength, 1) := by decide +kernel
theorem d6_3 : decode jdk_52_method_15_code 3 = .ok (.isub, 1) := by decide +kernel
theorem d6_4 : decode jdk_52_method_15_code 4 = .ok (.bipush 31, 2) := by decide +kernel
theorem d6_6 : decode jdk_52_method_15_code 6 = .ok (.iushr, 1) := by decide +kernel
theorem d6_7 : decode jdk_52_method_15_code 7 = .ok (.i2b, 1) := by decide +kernel
theorem d6_8 : decode jdk_52_method_15_code 8 = .ok (.ireturn, 1) := by decide +kernel
theorem c_cod (l : Launch) (Z : State) (a0 : Array Value) (hw : ∀ d ∈ tables_1, d.before a0 Z = true) (hEW : EW Z a0 consts_1) (n0 : Nat) (c1 : Int32) (hc1 : ¬ c1 = 0) (S1 : Sta Z Z.heap "java/lang/String" "COMPACT_STRINGS" "Z" (.int c1)) (b : Addr) (kb : ClassId) (z : Int32) (vs : List Value) {h0 : Heap} (o1 : Old Z n0 h0) (Ab : Arv Z h0 b kb .byte z vs (.int 0)) :
    Con Z a0 l (⟨"java/lang/StringUTF16", "coderFromArrayLen", "([BI)B"⟩ : MethodName) jdk_52_method_15_code 2 (some .byte) ({ frames := 0, cells := 0, slots := 0, locals := 0 } : Room) [] #[(.ref b), (.int z)] consts_1 h0 n0 [] [] (VV fun w h so => w = .int 0 ∧ h = h0 ∧ so = []) := by
  refine Con.body (plainFor_of_name pn_java_lang_StringUTF16) hEW o1 all0 #[.val (.ref b), .val (.int z)] (fun m => by first | (simp [entryFrame, mkF, argsToLocals, Value.category]; done) | rfl) ?_
  intro p e s m below meth c B hnm hret hlk G
  replace G := G.iloadN 1 d6_0 rfl rfl |>.aloadN 2 d6_1 rfl rfl rfl |>.alen 3 Ab d6_2 rfl |>.isub 4 d6_3 rfl |>.bipush 6 (31 : Int32) d6_4 (by decide) rfl |>.iushr 7 d6_6 rfl |>.top (y := (.int (0 : Int32))) (congrArg Value.int (cod0 z)) |>.i2b 8 d6_7 rfl
  exact G.retN hret (Or.inr (Or.inl rfl)) hlk d6_8 [] all0 ⟨_, rfl, rfl, rfl, rfl⟩ (nle rfl) (nle rfl)
theorem d2_0 : decode jdk_42_method_149_code 0 = .ok (.aload_n 0, 1) := by decide +kernel
theorem d2_1 : decode jdk_42_method_149_code 1 = .ok (.invokespecial 1, 3) := by decide +kernel
theorem d2_4 : decode jdk_42_method_149_code 4 = .ok (.iload_n 3, 1) := by decide +kernel
theorem d2_5 : decode jdk_42_method_149_code 5 = .ok (.ifCond .ne 22, 3) := by decide +kernel
theorem d2_8 : decode jdk_42_method_149_code 8 = .ok (.aload_n 0, 1) := by decide +kernel
theorem d2_9 : decode jdk_42_method_149_code 9 = .ok (.ldc 7, 2) := by decide +kernel
theorem d2_11 : decode jdk_42_method_149_code 11 = .ok (.getfield 9, 3) := by decide +kernel
theorem d2_14 : decode jdk_42_method_149_code 14 = .ok (.putfield 9, 3) := by decide +kernel
theorem d2_17 : decode jdk_42_method_149_code 17 = .ok (.aload_n 0, 1) := by decide +kernel
theorem d2_18 : decode jdk_42_method_149_code 18 = .ok (.ldc 7, 2) := by decide +kernel
theorem d2_20 : decode jdk_42_method_149_code 20 = .ok (.getfield 15, 3) := by decide +kernel
theorem d2_23 : decode jdk_42_method_149_code 23 = .ok (.putfield 15, 3) := by decide +kernel
theorem d2_26 : decode jdk_42_method_149_code 26 = .ok (.return_, 1) := by decide +kernel
theorem d2_27 : decode jdk_42_method_149_code 27 = .ok (.getstatic 38, 3) := by decide +kernel
theorem d2_30 : decode jdk_42_method_149_code 30 = .ok (.ifCond .eq 28, 3) := by decide +kernel
theorem d2_33 : decode jdk_42_method_149_code 33 = .ok (.aload_n 1, 1) := by decide +kernel
theorem d2_34 : decode jdk_42_method_149_code 34 = .ok (.iload_n 2, 1) := by decide +kernel
theorem d2_35 : decode jdk_42_method_149_code 35 = .ok (.iload_n 3, 1) := by decide +kernel
theorem d2_36 : decode jdk_42_method_149_code 36 = .ok (.invokestatic 177, 3) := by decide +kernel
theorem d2_39 : decode jdk_42_method_149_code 39 = .ok (.astore 5, 2) := by decide +kernel
theorem d2_41 : decode jdk_42_method_149_code 41 = .ok (.aload_n 0, 1) := by decide +kernel
theorem d2_42 : decode jdk_42_method_149_code 42 = .ok (.aload 5, 2) := by decide +kernel
theorem d2_44 : decode jdk_42_method_149_code 44 = .ok (.iload_n 3, 1) := by decide +kernel
theorem d2_45 : decode jdk_42_method_149_code 45 = .ok (.invokestatic 47, 3) := by decide +kernel
theorem d2_48 : decode jdk_42_method_149_code 48 = .ok (.putfield 15, 3) := by decide +kernel
theorem d2_51 : decode jdk_42_method_149_code 51 = .ok (.aload_n 0, 1) := by decide +kernel
theorem d2_52 : decode jdk_42_method_149_code 52 = .ok (.aload 5, 2) := by decide +kernel
theorem d2_54 : decode jdk_42_method_149_code 54 = .ok (.putfield 9, 3) := by decide +kernel
theorem d2_57 : decode jdk_42_method_149_code 57 = .ok (.return_, 1) := by decide +kernel
theorem d2_58 : decode jdk_42_method_149_code 58 = .ok (.aload_n 0, 1) := by decide +kernel
theorem d2_59 : decode jdk_42_method_149_code 59 = .ok (.iconst 1, 1) := by decide +kernel
theorem d2_60 : decode jdk_42_method_149_code 60 = .ok (.putfield 15, 3) := by decide +kernel
theorem d2_63 : decode jdk_42_method_149_code 63 = .ok (.aload_n 0, 1) := by decide +kernel
theorem d2_64 : decode jdk_42_method_149_code 64 = .ok (.aload_n 1, 1) := by decide +kernel
theorem d2_65 : decode jdk_42_method_149_code 65 = .ok (.iload_n 2, 1) := by decide +kernel
theorem d2_66 : decode jdk_42_method_149_code 66 = .ok (.iload_n 3, 1) := by decide +kernel
theorem d2_67 : decode jdk_42_method_149_code 67 = .ok (.invokestatic 180, 3) := by decide +kernel
theorem d2_70 : decode jdk_42_method_149_code 70 = .ok (.putfield 9, 3) := by decide +kernel
theorem d2_73 : decode jdk_42_method_149_code 73 = .ok (.return_, 1) := by decide +kernel
theorem c_strCV (l : Launch) (Z : State) (a0 : Array Value) (hw : ∀ d ∈ tables_1, d.before a0 Z = true) (hEW : EW Z a0 consts_1) (n0 : Nat) (c1 : Int32) (hc1 : ¬ c1 = 0) (S1 : Sta Z Z.heap "java/lang/String" "COMPACT_STRINGS" "Z" (.int c1)) (a va : Addr) (kv : ClassId) (cs : List Int32) {h0 : Heap} (o1 : Old Z n0 h0) (ge_a : n0 ≤ a) (Xa : Exa Z h0 a "java/lang/String") (Fv : Fld Z h0 a "java/lang/String" "value" "[B" .null) (Fc : Fld Z h0 a "java/lang/String" "coder" "B" (.int 0)) (hne : 0 < cs.length) (hmax : cs.length ≤ 60) (hc : ∀ x ∈ cs, ¬ (255 : Int32) < x) (Av : Arv Z h0 va kv .char (Int32.ofNat cs.length) (cs.map Value.int) (.int 0)) :
    Con Z a0 l (⟨"java/lang/String", "<init>", "([CIILjava/lang/Void;)V"⟩ : MethodName) jdk_42_method_149_code 6 (none) ({ frames := 2, cells := 1, slots := 60, locals := 35 } : Room) [] #[(.ref a), (.ref va), (.int (0 : Int32)), (.int (Int32.ofNat cs.length)), .null] consts_1 h0 n0 [a] [a] (V0 fun h so => ∃ b, Str Z h a b (cs.map bytV) ∧ h0.size ≤ b ∧ so = [b]) := by
  refine Con.body (plainFor_of_name pn_java_lang_String) hEW o1 (allS ge_a all0) #[.val (.ref a), .val (.ref va), .val (.int (0 : Int32)), .val (.int (Int32.ofNat cs.length)), .val .null, .unset] (fun m => by first | (simp [entryFrame, mkF, argsToLocals, Value.category]; done) | rfl) ?_
  intro p e s m below meth c B hnm hret hlk G
  have hn : cs.length < 2147483648 := by omega
  replace G := G.aloadN 1 d2_0 rfl rfl rfl |>.initO 4 (hw _ (mm 11 rfl)) (hw _ (mm 12 rfl)) (hw _ (mm 13 rfl)) d2_1 rfl (nle rfl) (nle rfl) rfl |>.iloadN 5 d2_4 rfl rfl |>.ifT 27 d2_5 (XT.i0_ne_t (ofn_ne (n := 0) (by omega) hn (by decide))) (by decide) (by decide) |>.gets 30 (host := "") (Or.inl (hw _ (mm 14 rfl))) Via.refl (G.sta S1) d2_27 rfl |>.ifF 33 d2_30 (XT.i0_eq_f hc1) rfl |>.aloadN 34 d2_33 rfl rfl rfl |>.iloadN 35 d2_34 rfl rfl
  replace G := G.iloadN 36 d2_35 rfl rfl
  obtain ⟨vc, h1, soc, G', Kc, Qc⟩ := G.callS 39 (hw _ (mm 15 rfl)) (hw _ (mm 16 rfl)) (hw _ (mm 17 rfl)) (hw _ (mm 18 rfl)) (by decide) [(.ref va), (.int (0 : Int32)), (.int (Int32.ofNat cs.length))] [] rfl (c_cmpA l Z a0 hw hEW n0 c1 hc1 S1 va kv cs G.old hne hmax hc Av) (lenOf pd___CII__B rfl) d2_36 rfl (nle rfl) (nle rfl) (nle rfl) (nle rfl) all0 all0 all0 rfl
  replace G := G'; clear G'
  obtain ⟨wc, qc, b, rfl, ⟨kb, Ab⟩, sb, rfl⟩ := Qc
  replace G := G.val qc
  have nba : b ≠ a := ne_ge Xa.lt sb
  replace Xa := Xa.keep Kc; replace Fv := Fv.keep Kc nin0; replace Fc := Fc.keep Kc nin0
  replace G := G.astore 41 #[.val (.ref a), .val (.ref va), .val (.int (0 : Int32)), .val (.int (Int32.ofNat cs.length)), .val .null, .val (.ref b)] d2_39 rfl rfl rfl |>.aloadN 42 d2_41 rfl rfl rfl |>.aload 44 d2_42 rfl rfl rfl |>.iloadN 45 d2_44 rfl rfl
  obtain ⟨vd, h_d, sod, G', Kd, Qd⟩ := G.callS 48 (hw _ (mm 23 rfl)) (hw _ (mm 24 rfl)) (hw _ (mm 17 rfl)) (hw _ (mm 25 rfl)) (by decide) [(.ref b), (.int (Int32.ofNat cs.length))] [(.ref a)] rfl (c_cod l Z a0 hw hEW n0 c1 hc1 S1 b kb (Int32.ofNat cs.length) (cs.map bytV) G.old Ab) (lenOf pd___BI_B rfl) d2_45 rfl (nle rfl) (nle rfl) (nle rfl) (nle rfl) all0 all0 all0 rfl
  replace G := G'; clear G'
  obtain ⟨wd, qd, rfl, ed, rfl⟩ := Qd
  replace G := G.val qd
  subst ed
  obtain ⟨h2, G', Wc2, Fc2, Kc2⟩ := G.putf 51 (host := "") (Or.inl (hw _ (mm 26 rfl))) Via.refl Fc Xa (Or.inr ⟨(hw _ (mm 27 rfl)), rfl, hnm⟩) (hw _ (mm 2 rfl)) (ty := .byte) (by decide) rfl rfl (Or.inl (mm 0 rfl)) (mm 1 rfl) d2_48 rfl
  replace G := G'; clear G'
  replace Fv := Fv.other Wc2 (Or.inr (slot_ne (Or.inr (hw _ (mm 29 rfl))) (Or.inr (hw _ (mm 27 rfl))) (by decide) (t := (.array .byte)) (t' := .byte) (by decide) (by decide)))
  replace Xa := Xa.wr Wc2; replace Ab := Ab.keep Kc2 (ninS nba nin0)
  replace G := G.aloadN 52 d2_51 rfl rfl rfl |>.aload 54 d2_52 rfl rfl rfl
  obtain ⟨h3, G', Wv2', Fv2', Kv2'⟩ := G.putf 57 (host := "") (Or.inl (hw _ (mm 28 rfl))) Via.refl Fv Xa (Or.inr ⟨(hw _ (mm 29 rfl)), rfl, hnm⟩) (hw _ (mm 2 rfl)) (ty := (.array .byte)) (by decide) rfl rfl (Or.inl (mm 0 rfl)) (mm 1 rfl) d2_54 rfl
  replace G := G'; clear G'
  replace Fc2 := Fc2.other Wv2' (Or.inr (slot_ne (Or.inr (hw _ (mm 27 rfl))) (Or.inr (hw _ (mm 29 rfl))) (by decide) (t := .byte) (t' := (.array .byte)) (by decide) (by decide)))
  replace Xa := Xa.wr Wv2'; replace Ab := Ab.keep Kv2' (ninS nba nin0)
  have Ab2 : Arv Z h3 b kb .byte (Int32.ofNat (cs.map bytV).length) (cs.map bytV) (.int 0) := by rw [List.length_map]; exact Ab
  exact G.retV hret hlk d2_57 [b] (allS (mm 0 rfl) all0) ⟨rfl, b, ⟨Xa, Fc2, Fv2', kb, Ab2⟩, sb, rfl⟩ (nle rfl) (nle rfl)
theorem d1_0 : decode jdk_42_method_3_code 0 = .ok (.aload_n 0, 1) := by decide +kernel
theorem d1_1 : decode jdk_42_method_3_code 1 = .ok (.aload_n 1, 1) := by decide +kernel
theorem d1_2 : decode jdk_42_method_3_code 2 = .ok (.iconst 0, 1) := by decide +kernel
theorem d1_3 : decode jdk_42_method_3_code 3 = .ok (.aload_n 1, 1) := by decide +kernel
theorem d1_4 : decode jdk_42_method_3_code 4 = .ok (.arraylength, 1) := by decide +kernel
theorem d1_5 : decode jdk_42_method_3_code 5 = .ok (.aconst_null, 1) := by decide +kernel
theorem d1_6 : decode jdk_42_method_3_code 6 = .ok (.invokespecial 27, 3) := by decide +kernel
theorem d1_9 : decode jdk_42_method_3_code 9 = .ok (.return_, 1) := by decide +kernel
theorem c_strC (l : Launch) (Z : State) (a0 : Array Value) (hw : ∀ d ∈ tables_1, d.before a0 Z = true) (hEW : EW Z a0 consts_1) (n0 : Nat) (c1 : Int32) (hc1 : ¬ c1 = 0) (S1 : Sta Z Z.heap "java/lang/String" "COMPACT_STRINGS" "Z" (.int c1)) (a va : Addr) (kv : ClassId) (cs : List Int32) {h0 : Heap} (o1 : Old Z n0 h0) (ge_a : n0 ≤ a) (Xa : Exa Z h0 a "java/lang/String") (Fv : Fld Z h0 a "java/lang/String" "value" "[B" .null) (Fc : Fld Z h0 a "java/lang/String" "coder" "B" (.int 0)) (hne : 0 < cs.length) (hmax : cs.length ≤ 60) (hc : ∀ x ∈ cs, ¬ (255 : Int32) < x) (Av : Arv Z h0 va kv .char (Int32.ofNat cs.length) (cs.map Value.int) (.int 0)) :
    Con Z a0 l (⟨"java/lang/String", "<init>", "([C)V"⟩ : MethodName) jdk_42_method_3_code 2 (none) ({ frames := 3, cells := 1, slots := 60, locals := 52 } : Room) [] #[(.ref a), (.ref va)] consts_1 h0 n0 [a] [a] (V0 fun h so => ∃ b, Str Z h a b (cs.map bytV) ∧ h0.size ≤ b ∧ so = [b]) := by
  refine Con.body (plainFor_of_name pn_java_lang_String) hEW o1 (allS ge_a all0) #[.val (.ref a), .val (.ref va)] (fun m => by first | (simp [entryFrame, mkF, argsToLocals, Value.category]; done) | rfl) ?_
  intro p e s m below meth c B hnm hret hlk G
  replace G := G.aloadN 1 d1_0 rfl rfl rfl |>.aloadN 2 d1_1 rfl rfl rfl |>.iconst 3 (0 : Int32) d1_2 rfl rfl |>.aloadN 4 d1_3 rfl rfl rfl |>.alen 5 Av d1_4 rfl |>.aconstNull 6 d1_5 rfl
  obtain ⟨vc, h1, soc, G', Kc, Qc⟩ := G.callI 9 rfl rfl (hw _ (mm 7 rfl)) (hw _ (mm 8 rfl)) (hw _ (mm 3 rfl)) (hw _ (mm 10 rfl)) (by decide) [(.ref va), (.int (0 : Int32)), (.int (Int32.ofNat cs.length)), .null] [] rfl (c_strCV l Z a0 hw hEW n0 c1 hc1 S1 a va kv cs G.old ge_a Xa Fv Fc hne hmax hc Av) (lenOf pd___CIILjava_lang_Void__V rfl) d1_6 rfl (nle rfl) (nle rfl) (nle rfl) (nle rfl) (allS (Or.inl (mm 0 rfl)) all0) (allS (mm 0 rfl) all0) (allS (mm 0 rfl) all0) rfl
  replace G := G'; clear G'
  obtain ⟨qc, b, hT, sb, rfl⟩ := Qc
  replace G := G.nov qc
  exact G.retV hret hlk d1_9 [b] (allS (mm 0 rfl) all0) ⟨rfl, b, hT, sb, rfl⟩ (nle rfl) (nle rfl)
theorem d24_0 : decode jdk_29_method_65_code 0 = .ok (.iload_n 0, 1) := by decide +kernel
theorem d24_1 : decode jdk_29_method_65_code 1 = .ok (.iload_n 1, 1) := by decide +kernel
theorem d24_2 : decode jdk_29_method_65_code 2 = .ok (.if_icmp .lt 7, 3) := by decide +kernel
theorem d24_5 : decode jdk_29_method_65_code 5 = .ok (.iload_n 0, 1) := by decide +kernel
theorem d24_6 : decode jdk_29_method_65_code 6 = .ok (.goto 4, 3) := by decide +kernel
theorem d24_9 : decode jdk_29_method_65_code 9 = .ok (.iload_n 1, 1) := by decide +kernel
theorem d24_10 : decode jdk_29_method_65_code 10 = .ok (.ireturn, 1) := by decide +kernel
theorem c_max (l : Launch) (Z : State) (a0 : Array Value) (hw : ∀ d ∈ tables_1, d.before a0 Z = true) (hEW : EW Z a0 consts_1) (n0 : Nat) (c1 : Int32) (hc1 : ¬ c1 = 0) (S1 : Sta Z Z.heap "java/lang/String" "COMPACT_STRINGS" "Z" (.int c1)) (x y : Nat) {h0 : Heap} (o1 : Old Z n0 h0) (hx : x < 2147483648) (hy : y < 2147483648) :
    Con Z a0 l (⟨"java/lang/Math", "max", "(II)I"⟩ : MethodName) jdk_29_method_65_code 2 (some .int) ({ frames := 0, cells := 0, slots := 0, locals := 0 } : Room) [] #[(.int (Int32.ofNat x)), (.int (Int32.ofNat y))] consts_1 h0 n0 [] [] (VV fun w h so => w = .int (Int32.ofNat (max x y)) ∧ h = h0 ∧ so = []) := by
  refine Con.body (by decide +kernel) hEW o1 all0 #[.val (.int (Int32.ofNat x)), .val (.int (Int32.ofNat y))] (fun m => by first | (simp [entryFrame, mkF, argsToLocals, Value.category]; done) | rfl) ?_
  intro p e s m below meth c B hnm hret hlk G
  rcases Nat.lt_or_ge x y with q | q
  · skip
    replace G := G.iloadN 1 d24_0 rfl rfl |>.iloadN 2 d24_1 rfl rfl |>.icmpT 9 d24_2 (XT.ii_lt_t (ofn_lt q hy)) (by decide) (by decide) |>.iloadN 10 d24_9 rfl rfl
    exact G.retI hret hlk d24_10 [] all0 ⟨_, rfl, by rw [Nat.max_eq_right (Nat.le_of_lt q)], rfl, rfl⟩ (nle rfl) (nle rfl)
  · skip
    replace G := G.iloadN 1 d24_0 rfl rfl |>.iloadN 2 d24_1 rfl rfl |>.icmpF 5 d24_2 (XT.ii_lt_f (ofn_nlt q hx)) rfl |>.iloadN 6 d24_5 rfl rfl |>.goto 10 d24_6 (by decide) (by decide)
    exact G.retI hret hlk d24_10 [] all0 ⟨_, rfl, by rw [Nat.max_eq_left q], rfl, rfl⟩ (nle rfl) (nle rfl)
theorem d23_0 : decode jdk_48_method_27_code 0 = .ok (.iload_n 0, 1) := by decide +kernel
theorem d23_1 : decode jdk_48_method_27_code 1 = .ok (.iload_n 1, 1) := by decide +kernel
theorem d23_2 : decode jdk_48_method_27_code 2 = .ok (.iload_n 2, 1) := by decide +kernel
theorem d23_3 : decode jdk_48_method_27_code 3 = .ok (.invokestatic 194, 3) := by decide +kernel
theorem d23_6 : decode jdk_48_method_27_code 6 = .ok (.iadd, 1) := by decide +kernel
theorem d23_7 : decode jdk_48_method_27_code 7 = .ok (.istore_n 3, 1) := by decide +kernel
theorem d23_8 : decode jdk_48_method_27_code 8 = .ok (.iconst 0, 1) := by decide +kernel
theorem d23_9 : decode jdk_48_method_27_code 9 = .ok (.iload_n 3, 1) := by decide +kernel
theorem d23_10 : decode jdk_48_method_27_code 10 = .ok (.if_icmp .ge 11, 3) := by decide +kernel
theorem d23_13 : decode jdk_48_method_27_code 13 = .ok (.iload_n 3, 1) := by decide +kernel
theorem d23_14 : decode jdk_48_method_27_code 14 = .ok (.ldc 200, 2) := by decide +kernel
theorem d23_16 : decode jdk_48_method_27_code 16 = .ok (.if_icmp .gt 5, 3) := by decide +kernel
theorem d23_19 : decode jdk_48_method_27_code 19 = .ok (.iload_n 3, 1) := by decide +kernel
theorem d23_20 : decode jdk_48_method_27_code 20 = .ok (.ireturn, 1) := by decide +kernel
theorem d23_21 : decode jdk_48_method_27_code 21 = .ok (.iload_n 0, 1) := by decide +kernel
theorem d23_22 : decode jdk_48_method_27_code 22 = .ok (.iload_n 1, 1) := by decide +kernel
theorem d23_23 : decode jdk_48_method_27_code 23 = .ok (.invokestatic 201, 3) := by decide +kernel
theorem d23_26 : decode jdk_48_method_27_code 26 = .ok (.ireturn, 1) := by decide +kernel
theorem c_newLen (l : Launch) (Z : State) (a0 : Array Value) (hw : ∀ d ∈ tables_1, d.before a0 Z = true) (hEW : EW Z a0 consts_1) (n0 : Nat) (c1 : Int32) (hc1 : ¬ c1 = 0) (S1 : Sta Z Z.heap "java/lang/String" "COMPACT_STRINGS" "Z" (.int c1)) (o g p' : Nat) {h0 : Heap} (o1 : Old Z n0 h0) (h1 : 0 < p') (h2 : o < 100000) (h3 : g < 100000) (h4 : p' < 100000) :
    Con Z a0 l (⟨"jdk/internal/util/ArraysSupport", "newLength", "(III)I"⟩ : MethodName) jdk_48_method_27_code 4 (some .int) ({ frames := 1, cells := 0, slots := 0, locals := 14 } : Room) [] #[(.int (Int32.ofNat o)), (.int (Int32.ofNat g)), (.int (Int32.ofNat p'))] consts_1 h0 n0 [] [] (VV fun w h so => w = .int (Int32.ofNat (o + max g p')) ∧ h = h0 ∧ so = []) := by
  refine Con.body (plainFor_of_name pn_jdk_internal_util_ArraysSupport) hEW o1 all0 #[.val (.int (Int32.ofNat o)), .val (.int (Int32.ofNat g)), .val (.int (Int32.ofNat p')), .unset] (fun m => by first | (simp [entryFrame, mkF, argsToLocals, Value.category]; done) | rfl) ?_
  intro p e s m below meth c B hnm hret hlk G
  replace G := G.iloadN 1 d23_0 rfl rfl |>.iloadN 2 d23_1 rfl rfl |>.iloadN 3 d23_2 rfl rfl
  obtain ⟨vm1, h_m, som1, G', Km1, Qm1⟩ := G.callS 6 (hw _ (mm 132 rfl)) (hw _ (mm 133 rfl)) (hw _ (mm 134 rfl)) (hw _ (mm 135 rfl)) (by decide) [(.int (Int32.ofNat g)), (.int (Int32.ofNat p'))] [(.int (Int32.ofNat o))] rfl (c_max l Z a0 hw hEW n0 c1 hc1 S1 g p' G.old (by omega) (by omega)) (lenOf pd__II_I rfl) d23_3 rfl (nle rfl) (nle rfl) (nle rfl) (nle rfl) all0 all0 all0 rfl
  replace G := G'; clear G'
  obtain ⟨wm1, qm1, rfl, em, rfl⟩ := Qm1
  replace G := G.val qm1
  subst em
  replace G := G.iadd 7 d23_6 rfl |>.top (y := (.int (Int32.ofNat (o + max g p')))) (congrArg Value.int (ofn_add _ _)) |>.istoreN 8 #[.val (.int (Int32.ofNat o)), .val (.int (Int32.ofNat g)), .val (.int (Int32.ofNat p')), .val (.int (Int32.ofNat (o + max g p')))] d23_7 rfl rfl |>.iconst 9 (0 : Int32) d23_8 rfl rfl |>.iloadN 10 d23_9 rfl rfl |>.icmpF 13 d23_10 (XT.ii_ge_f (ofn_lt (i := 0) (by omega) (by omega))) rfl |>.iloadN 14 d23_13 rfl rfl |>.ldcI 16 (hw _ (mm 136 rfl)) d23_14 rfl
  replace G := G.icmpF 19 d23_16 (XT.ii_gt_f (ofn_nlt (i := 2147483639) (by omega) (by decide))) rfl |>.iloadN 20 d23_19 rfl rfl
  exact G.retI hret hlk d23_20 [] all0 ⟨_, rfl, rfl, rfl, rfl⟩ (nle rfl) (nle rfl)
theorem d22_0 : decode jdk_68_method_10_code 0 = .ok (.aload_n 0, 1) := by decide +kernel
theorem d22_1 : decode jdk_68_method_10_code 1 = .ok (.getfield 15, 3) := by decide +kernel
theorem d22_4 : decode jdk_68_method_10_code 4 = .ok (.arraylength, 1) := by decide +kernel
theorem d22_5 : decode jdk_68_method_10_code 5 = .ok (.istore_n 2, 1) := by decide +kernel
theorem d22_6 : decode jdk_68_method_10_code 6 = .ok (.iload_n 1, 1) := by decide +kernel
theorem d22_7 : decode jdk_68_method_10_code 7 = .ok (.aload_n 0, 1) := by decide +kernel
theorem d22_8 : decode jdk_68_method_10_code 8 = .ok (.getfield 22, 3) := by decide +kernel
theorem d22_11 : decode jdk_68_method_10_code 11 = .ok (.ishl, 1) := by decide +kernel
theorem d22_12 : decode jdk_68_method_10_code 12 = .ok (.istore_n 3, 1) := by decide +kernel
theorem d22_13 : decode jdk_68_method_10_code 13 = .ok (.iload_n 3, 1) := by decide +kernel
theorem d22_14 : decode jdk_68_method_10_code 14 = .ok (.iload_n 2, 1) := by decide +kernel
theorem d22_15 : decode jdk_68_method_10_code 15 = .ok (.isub, 1) := by decide +kernel
theorem d22_16 : decode jdk_68_method_10_code 16 = .ok (.istore 4, 2) := by decide +kernel
theorem d22_18 : decode jdk_68_method_10_code 18 = .ok (.iload_n 2, 1) := by decide +kernel
theorem d22_19 : decode jdk_68_method_10_code 19 = .ok (.iload 4, 2) := by decide +kernel
theorem d22_21 : decode jdk_68_method_10_code 21 = .ok (.iload_n 2, 1) := by decide +kernel
theorem d22_22 : decode jdk_68_method_10_code 22 = .ok (.iconst 2, 1) := by decide +kernel
theorem d22_23 : decode jdk_68_method_10_code 23 = .ok (.aload_n 0, 1) := by decide +kernel
theorem d22_24 : decode jdk_68_method_10_code 24 = .ok (.getfield 22, 3) := by decide +kernel
theorem d22_27 : decode jdk_68_method_10_code 27 = .ok (.ishl, 1) := by decide +kernel
theorem d22_28 : decode jdk_68_method_10_code 28 = .ok (.iadd, 1) := by decide +kernel
theorem d22_29 : decode jdk_68_method_10_code 29 = .ok (.invokestatic 114, 3) := by decide +kernel
theorem d22_32 : decode jdk_68_method_10_code 32 = .ok (.istore 5, 2) := by decide +kernel
theorem d22_34 : decode jdk_68_method_10_code 34 = .ok (.iload 5, 2) := by decide +kernel
theorem d22_36 : decode jdk_68_method_10_code 36 = .ok (.ldc 39, 2) := by decide +kernel
theorem d22_38 : decode jdk_68_method_10_code 38 = .ok (.if_icmp .ne 13, 3) := by decide +kernel
theorem d22_41 : decode jdk_68_method_10_code 41 = .ok (.new 120, 3) := by decide +kernel
theorem d22_44 : decode jdk_68_method_10_code 44 = .ok (.dup, 1) := by decide +kernel
theorem d22_45 : decode jdk_68_method_10_code 45 = .ok (.ldc 122, 2) := by decide +kernel
theorem d22_47 : decode jdk_68_method_10_code 47 = .ok (.invokespecial 124, 3) := by decide +kernel
theorem d22_50 : decode jdk_68_method_10_code 50 = .ok (.athrow, 1) := by decide +kernel
theorem d22_51 : decode jdk_68_method_10_code 51 = .ok (.iload 5, 2) := by decide +kernel
theorem d22_53 : decode jdk_68_method_10_code 53 = .ok (.aload_n 0, 1) := by decide +kernel
theorem d22_54 : decode jdk_68_method_10_code 54 = .ok (.getfield 22, 3) := by decide +kernel
theorem d22_57 : decode jdk_68_method_10_code 57 = .ok (.ishr, 1) := by decide +kernel
theorem d22_58 : decode jdk_68_method_10_code 58 = .ok (.ireturn, 1) := by decide +kernel
theorem c_newCap (l : Launch) (Z : State) (a0 : Array Value) (hw : ∀ d ∈ tables_1, d.before a0 Z = true) (hEW : EW Z a0 consts_1) (n0 : Nat) (c1 : Int32) (hc1 : ¬ c1 = 0) (S1 : Sta Z Z.heap "java/lang/String" "COMPACT_STRINGS" "Z" (.int c1)) (a b : Addr) (cap mc : Nat) (bs : List Value) {h0 : Heap} (o1 : Old Z n0 h0) (hlt : cap < mc) (hmc : mc ≤ 62) (hS : Sbd Z h0 a b cap bs) :
    Con Z a0 l (⟨"java/lang/AbstractStringBuilder", "newCapacity", "(I)I"⟩ : MethodName) jdk_68_method_10_code 6 (some .int) ({ frames := 2, cells := 0, slots := 0, locals := 29 } : Room) [] #[(.ref a), (.int (Int32.ofNat mc))] consts_1 h0 n0 [] [] (VV fun w h so => w = .int (Int32.ofNat (gcap cap mc)) ∧ h = h0 ∧ so = []) := by
  refine Con.body (plainFor_of_name pn_java_lang_AbstractStringBuilder) hEW o1 all0 #[.val (.ref a), .val (.int (Int32.ofNat mc)), .unset, .unset, .unset, .unset] (fun m => by first | (simp [entryFrame, mkF, argsToLocals, Value.category]; done) | rfl) ?_
  intro p e s m below meth c B hnm hret hlk G
  obtain ⟨Xa, Fv, Fc, Fn, kb, Ab⟩ := hS
  have hg := gcap_b hlt hmc
  replace G := G.aloadN 1 d22_0 rfl rfl rfl |>.getf 4 (host := "") (Or.inl (hw _ (mm 91 rfl))) Via.refl Fv d22_1 rfl |>.alen 5 Ab d22_4 rfl |>.istoreN 6 #[.val (.ref a), .val (.int (Int32.ofNat mc)), .val (.int (Int32.ofNat cap)), .unset, .unset, .unset] d22_5 rfl rfl |>.iloadN 7 d22_6 rfl rfl |>.aloadN 8 d22_7 rfl rfl rfl |>.getf 11 (host := "") (Or.inl (hw _ (mm 93 rfl))) Via.refl Fc d22_8 rfl |>.ishl 12 d22_11 rfl
  replace G := G.top (y := (.int (Int32.ofNat mc))) (congrArg Value.int (shl0 _)) |>.istoreN 13 #[.val (.ref a), .val (.int (Int32.ofNat mc)), .val (.int (Int32.ofNat cap)), .val (.int (Int32.ofNat mc)), .unset, .unset] d22_12 rfl rfl |>.iloadN 14 d22_13 rfl rfl |>.iloadN 15 d22_14 rfl rfl |>.isub 16 d22_15 rfl |>.top (y := (.int (Int32.ofNat (mc - cap)))) (congrArg Value.int (ofn_sub (Nat.le_of_lt hlt) (by omega))) |>.istore 18 #[.val (.ref a), .val (.int (Int32.ofNat mc)), .val (.int (Int32.ofNat cap)), .val (.int (Int32.ofNat mc)), .val (.int (Int32.ofNat (mc - cap))), .unset] d22_16 rfl rfl |>.iloadN 19 d22_18 rfl rfl
  replace G := G.iload 21 d22_19 rfl rfl |>.iloadN 22 d22_21 rfl rfl |>.iconst 23 (2 : Int32) d22_22 rfl rfl |>.aloadN 24 d22_23 rfl rfl rfl |>.getf 27 (host := "") (Or.inl (hw _ (mm 93 rfl))) Via.refl Fc d22_24 rfl |>.ishl 28 d22_27 rfl |>.top (y := (.int (2 : Int32))) (congrArg Value.int (shl0 _)) |>.iadd 29 d22_28 rfl
  replace G := G.top (y := (.int (Int32.ofNat (cap + 2)))) (congrArg Value.int (ofn_add cap 2))
  obtain ⟨vn1, h_n, son1, G', Kn1, Qn1⟩ := G.callS 32 (hw _ (mm 128 rfl)) (hw _ (mm 129 rfl)) (hw _ (mm 130 rfl)) (hw _ (mm 131 rfl)) (by decide) [(.int (Int32.ofNat cap)), (.int (Int32.ofNat (mc - cap))), (.int (Int32.ofNat (cap + 2)))] [] rfl (c_newLen l Z a0 hw hEW n0 c1 hc1 S1 cap (mc - cap) (cap + 2) G.old (by omega) (by omega) (by omega) (by omega)) (lenOf pd__III_I rfl) d22_29 rfl (nle rfl) (nle rfl) (nle rfl) (nle rfl) all0 all0 all0 rfl
  replace G := G'; clear G'
  obtain ⟨wn1, qn1, rfl, en, rfl⟩ := Qn1
  replace G := G.val qn1
  subst en
  replace G := G.istore 34 #[.val (.ref a), .val (.int (Int32.ofNat mc)), .val (.int (Int32.ofNat cap)), .val (.int (Int32.ofNat mc)), .val (.int (Int32.ofNat (mc - cap))), .val (.int (Int32.ofNat (gcap cap mc)))] d22_32 rfl rfl |>.iload 36 d22_34 rfl rfl |>.ldcI 38 (hw _ (mm 137 rfl)) d22_36 rfl |>.icmpT 51 d22_38 (XT.ii_ne_t (ofn_ne (n := 2147483647) (Nat.ne_of_lt (by omega)) (by omega) (by decide))) (by decide) (by decide) |>.iload 53 d22_51 rfl rfl |>.aloadN 54 d22_53 rfl rfl rfl |>.getf 57 (host := "") (Or.inl (hw _ (mm 93 rfl))) Via.refl Fc d22_54 rfl |>.ishr 58 d22_57 rfl
  replace G := G.top (y := (.int (Int32.ofNat (gcap cap mc)))) (congrArg Value.int (shr0 _))
  exact G.retI hret hlk d22_58 [] all0 ⟨_, rfl, rfl, rfl, rfl⟩ (nle rfl) (nle rfl)
theorem c_minL (l : Launch) (Z : State) (a0 : Array Value) (hw : ∀ d ∈ tables_1, d.before a0 Z = true) (hEW : EW Z a0 consts_1) (n0 : Nat) (c1 : Int32) (hc1 : ¬ c1 = 0) (S1 : Sta Z Z.heap "java/lang/String" "COMPACT_STRINGS" "Z" (.int c1)) (x y : Int32) {h0 : Heap} (o1 : Old Z n0 h0) (hxy : ¬ y < x) :
    Con Z a0 l (⟨"java/lang/Math", "min", "(II)I"⟩ : MethodName) jdk_29_method_69_code 2 (some .int) ({ frames := 0, cells := 0, slots := 0, locals := 0 } : Room) [] #[(.int x), (.int y)] consts_1 h0 n0 [] [] (VV fun w h so => w = .int x ∧ h = h0 ∧ so = []) := by
  refine Con.body (by decide +kernel) hEW o1 all0 #[.val (.int x), .val (.int y)] (fun m => by first | (simp [entryFrame, mkF, argsToLocals, Value.category]; done) | rfl) ?_
  intro p e s m below meth c B hnm hret hlk G
  replace G := G.iloadN 1 d26_0 rfl rfl |>.iloadN 2 d26_1 rfl rfl |>.icmpF 5 d26_2 (XT.ii_gt_f hxy) rfl |>.iloadN 6 d26_5 rfl rfl |>.goto 10 d26_6 (by decide) (by decide)
  exact G.retI hret hlk d26_10 [] all0 ⟨_, rfl, rfl, rfl, rfl⟩ (nle rfl) (nle rfl)
theorem d25_0 : decode jdk_65_method_121_code 0 = .ok (.iload_n 1, 1) := by decide +kernel
theorem d25_1 : decode jdk_65_method_121_code 1 = .ok (.aload_n 0, 1) := by decide +kernel
theorem d25_2 : decode jdk_65_method_121_code 2 = .ok (.arraylength, 1) := by decide +kernel
theorem d25_3 : decode jdk_65_method_121_code 3 = .ok (.if_icmp .ne 11, 3) := by decide +kernel
theorem d25_6 : decode jdk_65_method_121_code 6 = .ok (.aload_n 0, 1) := by decide +kernel
theorem d25_7 : decode jdk_65_method_121_code 7 = .ok (.invokevirtual 310, 3) := by decide +kernel
theorem d25_10 : decode jdk_65_method_121_code 10 = .ok (.checkcast 311, 3) := by decide +kernel
theorem d25_13 : decode jdk_65_method_121_code 13 = .ok (.areturn, 1) := by decide +kernel
theorem d25_14 : decode jdk_65_method_121_code 14 = .ok (.iload_n 1, 1) := by decide +kernel
theorem d25_15 : decode jdk_65_method_121_code 15 = .ok (.newarray .byte, 2) := by decide +kernel
theorem d25_17 : decode jdk_65_method_121_code 17 = .ok (.astore_n 2, 1) := by decide +kernel
theorem d25_18 : decode jdk_65_method_121_code 18 = .ok (.aload_n 0, 1) := by decide +kernel
theorem d25_19 : decode jdk_65_method_121_code 19 = .ok (.iconst 0, 1) := by decide +kernel
theorem d25_20 : decode jdk_65_method_121_code 20 = .ok (.aload_n 2, 1) := by decide +kernel
theorem d25_21 : decode jdk_65_method_121_code 21 = .ok (.iconst 0, 1) := by decide +kernel
theorem d25_22 : decode jdk_65_method_121_code 22 = .ok (.aload_n 0, 1) := by decide +kernel
theorem d25_23 : decode jdk_65_method_121_code 23 = .ok (.arraylength, 1) := by decide +kernel
theorem d25_24 : decode jdk_65_method_121_code 24 = .ok (.iload_n 1, 1) := by decide +kernel
theorem d25_25 : decode jdk_65_method_121_code 25 = .ok (.invokestatic 304, 3) := by decide +kernel
theorem d25_28 : decode jdk_65_method_121_code 28 = .ok (.invokestatic 150, 3) := by decide +kernel
theorem d25_31 : decode jdk_65_method_121_code 31 = .ok (.aload_n 2, 1) := by decide +kernel
theorem d25_32 : decode jdk_65_method_121_code 32 = .ok (.areturn, 1) := by decide +kernel
theorem c_copyOf (l : Launch) (Z : State) (a0 : Array Value) (hw : ∀ d ∈ tables_1, d.before a0 Z = true) (hEW : EW Z a0 consts_1) (n0 : Nat) (c1 : Int32) (hc1 : ¬ c1 = 0) (S1 : Sta Z Z.heap "java/lang/String" "COMPACT_STRINGS" "Z" (.int c1)) (b : Addr) (kb : ClassId) (cap nc : Nat) (bs : List Value) {h0 : Heap} (o1 : Old Z n0 h0) (hlt : cap < nc) (hmax : nc ≤ 126) (hbs : bs.length ≤ cap) (Ab : Arv Z h0 b kb .byte (Int32.ofNat cap) bs (.int 0)) :
    Con Z a0 l (⟨"java/util/Arrays", "copyOf", "([BI)[B"⟩ : MethodName) jdk_65_method_121_code 3 (some (.array .byte)) ({ frames := 1, cells := 1, slots := 126, locals := 41 } : Room) [] #[(.ref b), (.int (Int32.ofNat nc))] consts_1 h0 n0 [] [] (VV fun w h so => ∃ d, w = .ref d ∧ (∃ k, Arv Z h d k .byte (Int32.ofNat nc) bs (.int 0)) ∧ h0.size ≤ d ∧ so = [d]) := by
  refine Con.body (plainFor_of_name pn_java_util_Arrays) hEW o1 all0 #[.val (.ref b), .val (.int (Int32.ofNat nc)), .unset] (fun m => by first | (simp [entryFrame, mkF, argsToLocals, Value.category]; done) | rfl) ?_
  intro p e s m below meth c B hnm hret hlk G
  replace G := G.iloadN 1 d25_0 rfl rfl |>.aloadN 2 d25_1 rfl rfl rfl |>.alen 3 Ab d25_2 rfl |>.icmpT 14 d25_3 (XT.ii_ne_t (ofn_ne (by omega) (by omega) (by omega))) (by decide) (by decide) |>.iloadN 15 d25_14 rfl rfl
  obtain ⟨d, h1, kd, G', gd, sd, Ed, Ad⟩ := G.newarray 17 (hw _ (mm 19 rfl)) d25_15 (ofn_nn (by omega)) 126 (by rw [ofn_nat (by omega)]; exact hmax) (by decide) rfl (nle rfl) (nle rfl)
  replace G := G'; clear G'
  replace Ab := Ab.ext Ed
  replace G := G.astoreN 18 #[.val (.ref b), .val (.int (Int32.ofNat nc)), .val (.ref d)] d25_17 rfl rfl rfl |>.aloadN 19 d25_18 rfl rfl rfl |>.iconst 20 (0 : Int32) d25_19 rfl rfl |>.aloadN 21 d25_20 rfl rfl rfl |>.iconst 22 (0 : Int32) d25_21 rfl rfl |>.aloadN 23 d25_22 rfl rfl rfl |>.alen 24 Ab d25_23 rfl |>.iloadN 25 d25_24 rfl rfl
  obtain ⟨vm1, h_m, som1, G', Km1, Qm1⟩ := G.callS 28 (hw _ (mm 142 rfl)) (hw _ (mm 143 rfl)) (hw _ (mm 134 rfl)) (hw _ (mm 144 rfl)) (by decide) [(.int (Int32.ofNat cap)), (.int (Int32.ofNat nc))] [(.int (0 : Int32)), (.ref d), (.int (0 : Int32)), (.ref b)] rfl (c_minL l Z a0 hw hEW n0 c1 hc1 S1 (Int32.ofNat cap) (Int32.ofNat nc) G.old (ofn_nlt (Nat.le_of_lt hlt) (by omega))) (lenOf pd__II_I rfl) d25_25 rfl (nle rfl) (nle rfl) (nle rfl) (nle rfl) all0 all0 all0 rfl
  replace G := G'; clear G'
  obtain ⟨wm1, qm1, rfl, em, rfl⟩ := Qm1
  replace G := G.val qm1
  subst em
  have Ad' := Ad.pad (vs' := List.replicate cap (.int 0)) (pad_rep [] (.int 0) cap)
  have m1 : cap < 2147483648 := by omega
  obtain ⟨h2, G', Ap, Kp⟩ := G.cpy 31 (hw _ (mm 145 rfl)) (hw _ (mm 148 rfl)) (hw _ (mm 146 rfl)) (hw _ (mm 147 rfl)) Ab Ad' rfl (by decide) (by decide) (ofn_nn m1) (by rw [ofn_nat m1]; exact Nat.le_of_eq (Nat.zero_add _)) (by rw [ofn_nat m1, ofn_nat (by omega)]; rw [show (0 : Int32).toNatClampNeg = 0 from rfl]; omega) (by rw [ofn_nat m1]; simp) (Or.inr sd) (mm 0 rfl) d25_28 rfl (nle rfl) (nle rfl) rfl
  replace G := G'; clear G'
  rw [ofn_nat m1, show (0 : Int32).toNatClampNeg = 0 from rfl] at Ap
  replace Ap := Ap.pad (cpg bs cap (.int 0) hbs)
  replace G := G.aloadN 32 d25_31 rfl rfl rfl
  exact G.retA hret rfl rfl hlk d25_32 [d] (allS (mm 0 rfl) all0) ⟨_, rfl, d, rfl, ⟨kd, Ap⟩, sd, rfl⟩ (nle rfl) (nle rfl)
theorem d21_0 : decode jdk_68_method_9_code 0 = .ok (.aload_n 0, 1) := by decide +kernel
theorem d21_1 : decode jdk_68_method_9_code 1 = .ok (.getfield 15, 3) := by decide +kernel
theorem d21_4 : decode jdk_68_method_9_code 4 = .ok (.arraylength, 1) := by decide +kernel
theorem d21_5 : decode jdk_68_method_9_code 5 = .ok (.aload_n 0, 1) := by decide +kernel
theorem d21_6 : decode jdk_68_method_9_code 6 = .ok (.getfield 22, 3) := by decide +kernel
theorem d21_9 : decode jdk_68_method_9_code 9 = .ok (.ishr, 1) := by decide +kernel
theorem d21_10 : decode jdk_68_method_9_code 10 = .ok (.istore_n 2, 1) := by decide +kernel
theorem d21_11 : decode jdk_68_method_9_code 11 = .ok (.iload_n 1, 1) := by decide +kernel
theorem d21_12 : decode jdk_68_method_9_code 12 = .ok (.iload_n 2, 1) := by decide +kernel
theorem d21_13 : decode jdk_68_method_9_code 13 = .ok (.isub, 1) := by decide +kernel
theorem d21_14 : decode jdk_68_method_9_code 14 = .ok (.ifCond .le 24, 3) := by decide +kernel
theorem d21_17 : decode jdk_68_method_9_code 17 = .ok (.aload_n 0, 1) := by decide +kernel
theorem d21_18 : decode jdk_68_method_9_code 18 = .ok (.aload_n 0, 1) := by decide +kernel
theorem d21_19 : decode jdk_68_method_9_code 19 = .ok (.getfield 15, 3) := by decide +kernel
theorem d21_22 : decode jdk_68_method_9_code 22 = .ok (.aload_n 0, 1) := by decide +kernel
theorem d21_23 : decode jdk_68_method_9_code 23 = .ok (.iload_n 1, 1) := by decide +kernel
theorem d21_24 : decode jdk_68_method_9_code 24 = .ok (.invokevirtual 104, 3) := by decide +kernel
theorem d21_27 : decode jdk_68_method_9_code 27 = .ok (.aload_n 0, 1) := by decide +kernel
theorem d21_28 : decode jdk_68_method_9_code 28 = .ok (.getfield 22, 3) := by decide +kernel
theorem d21_31 : decode jdk_68_method_9_code 31 = .ok (.ishl, 1) := by decide +kernel
theorem d21_32 : decode jdk_68_method_9_code 32 = .ok (.invokestatic 108, 3) := by decide +kernel
theorem d21_35 : decode jdk_68_method_9_code 35 = .ok (.putfield 15, 3) := by decide +kernel
theorem d21_38 : decode jdk_68_method_9_code 38 = .ok (.return_, 1) := by decide +kernel
theorem c_ensG (l : Launch) (Z : State) (a0 : Array Value) (hw : ∀ d ∈ tables_1, d.before a0 Z = true) (hEW : EW Z a0 consts_1) (n0 : Nat) (c1 : Int32) (hc1 : ¬ c1 = 0) (S1 : Sta Z Z.heap "java/lang/String" "COMPACT_STRINGS" "Z" (.int c1)) (a b : Addr) (cap mc : Nat) (bs : List Value) {h0 : Heap} (o1 : Old Z n0 h0) (ge_a : n0 ≤ a) (hmc : mc ≤ 62) (hcap : cap ≤ 126) (hbs : bs.length ≤ cap) (hS : Sbd Z h0 a b cap bs) :
    Con Z a0 l (⟨"java/lang/AbstractStringBuilder", "ensureCapacityInternal", "(I)V"⟩ : MethodName) jdk_68_method_9_code 3 (none) ({ frames := 3, cells := 1, slots := 126, locals := 56 } : Room) [] #[(.ref a), (.int (Int32.ofNat mc))] consts_1 h0 n0 [a] [a, b] (V0 fun h so => ∃ b' cap', Sbd Z h a b' cap' bs ∧ mc ≤ cap' ∧ cap' ≤ 126 ∧ GC cap mc cap' ∧ (b' = b ∨ h0.size ≤ b') ∧ so = [b']) := by
  refine Con.body (plainFor_of_name pn_java_lang_AbstractStringBuilder) hEW o1 (allS ge_a all0) #[.val (.ref a), .val (.int (Int32.ofNat mc)), .unset] (fun m => by first | (simp [entryFrame, mkF, argsToLocals, Value.category]; done) | rfl) ?_
  intro p e s m below meth c B hnm hret hlk G
  rcases Nat.lt_or_ge cap mc with hlt | hge
  · have hg := gcap_b hlt hmc
    have hS' := hS
    obtain ⟨Xa, Fv, Fc, Fn, kb, Ab⟩ := hS
    replace G := G.aloadN 1 d21_0 rfl rfl rfl |>.getf 4 (host := "") (Or.inl (hw _ (mm 91 rfl))) Via.refl Fv d21_1 rfl |>.alen 5 Ab d21_4 rfl |>.aloadN 6 d21_5 rfl rfl rfl |>.getf 9 (host := "") (Or.inl (hw _ (mm 93 rfl))) Via.refl Fc d21_6 rfl |>.ishr 10 d21_9 rfl |>.top (y := (.int (Int32.ofNat cap))) (congrArg Value.int (shr0 _)) |>.istoreN 11 #[.val (.ref a), .val (.int (Int32.ofNat mc)), .val (.int (Int32.ofNat cap))] d21_10 rfl rfl
    replace G := G.iloadN 12 d21_11 rfl rfl |>.iloadN 13 d21_12 rfl rfl |>.isub 14 d21_13 rfl |>.ifF 17 d21_14 (XT.i0_le_f (by rw [ofn_sub (Nat.le_of_lt hlt) (by omega)]; exact ofn_lt (i := 0) (by omega) (by omega))) rfl |>.aloadN 18 d21_17 rfl rfl rfl |>.aloadN 19 d21_18 rfl rfl rfl |>.getf 22 (host := "") (Or.inl (hw _ (mm 91 rfl))) Via.refl Fv d21_19 rfl |>.aloadN 23 d21_22 rfl rfl rfl
    replace G := G.iloadN 24 d21_23 rfl rfl
    obtain ⟨vn1, h_n, son1, G', Kn1, Qn1⟩ := G.callV 27 (hw _ (mm 123 rfl)) (declOf (hw _ (mm 124 rfl)) (hw _ (mm 127 rfl))) (nfSel (hw _ (mm 126 rfl))) (hw _ (mm 126 rfl)) (hw _ (mm 124 rfl)) (hw _ (mm 87 rfl)) (hw _ (mm 127 rfl)) Xa (by decide) [(.int (Int32.ofNat mc))] [(.ref b), (.ref a)] rfl (c_newCap l Z a0 hw hEW n0 c1 hc1 S1 a b cap mc bs G.old hlt hmc hS') (lenOf pd__I_I rfl) d21_24 rfl (nle rfl) (nle rfl) (nle rfl) (nle rfl) all0 all0 all0 rfl
    replace G := G'; clear G'
    obtain ⟨wn1, qn1, rfl, en, rfl⟩ := Qn1
    replace G := G.val qn1
    subst en
    replace G := G.aloadN 28 d21_27 rfl rfl rfl |>.getf 31 (host := "") (Or.inl (hw _ (mm 93 rfl))) Via.refl Fc d21_28 rfl |>.ishl 32 d21_31 rfl |>.top (y := (.int (Int32.ofNat (gcap cap mc)))) (congrArg Value.int (shl0 _))
    obtain ⟨vc, h1, soc, G', Kc, Qc⟩ := G.callS 35 (hw _ (mm 138 rfl)) (hw _ (mm 139 rfl)) (hw _ (mm 140 rfl)) (hw _ (mm 141 rfl)) (by decide) [(.ref b), (.int (Int32.ofNat (gcap cap mc)))] [(.ref a)] rfl (c_copyOf l Z a0 hw hEW n0 c1 hc1 S1 b kb cap (gcap cap mc) bs G.old hg.2.1 hg.2.2 hbs Ab) (lenOf pd___BI__B rfl) d21_32 rfl (nle rfl) (nle rfl) (nle rfl) (nle rfl) all0 all0 all0 rfl
    replace G := G'; clear G'
    obtain ⟨wc, qc, d, rfl, ⟨kd, Ad⟩, sd, rfl⟩ := Qc
    replace G := G.val qc
    have nad : a ≠ d := (ne_ge Xa.lt sd).symm
    replace Xa := Xa.keep Kc; replace Fv := Fv.keep Kc nin0; replace Fc := Fc.keep Kc nin0; replace Fn := Fn.keep Kc nin0
    obtain ⟨h2, G', Wv, Fv, Kv⟩ := G.putf 38 (host := "") (Or.inl (hw _ (mm 91 rfl))) Via.refl Fv Xa (Or.inl (hw _ (mm 92 rfl))) (hw _ (mm 78 rfl)) (ty := (.array .byte)) (by decide) rfl rfl (Or.inl (mm 0 rfl)) (mm 1 rfl) d21_35 rfl
    replace G := G'; clear G'
    replace Fn := Fn.other Wv (Or.inr (slot_ne (Or.inl (hw _ (mm 117 rfl))) (Or.inl (hw _ (mm 92 rfl))) (by decide) (t := .int) (t' := (.array .byte)) (by decide) (by decide))); replace Fc := Fc.other Wv (Or.inr (slot_ne (Or.inl (hw _ (mm 94 rfl))) (Or.inl (hw _ (mm 92 rfl))) (by decide) (t := .byte) (t' := (.array .byte)) (by decide) (by decide))); replace Xa := Xa.wr Wv; replace Ad := Ad.keep Kv (ninS nad.symm nin0)
    exact G.retV hret hlk d21_38 [d] (allS (mm 0 rfl) all0) ⟨rfl, d, gcap cap mc, ⟨Xa, Fv, Fc, Fn, kd, Ad⟩, hg.1, hg.2.2, Or.inr ⟨hlt, rfl⟩, Or.inr sd, rfl⟩ (nle rfl) (nle rfl)
  · have hS' := hS
    obtain ⟨Xa, Fv, Fc, Fn, kb, Ab⟩ := hS
    replace G := G.aloadN 1 d21_0 rfl rfl rfl |>.getf 4 (host := "") (Or.inl (hw _ (mm 91 rfl))) Via.refl Fv d21_1 rfl |>.alen 5 Ab d21_4 rfl |>.aloadN 6 d21_5 rfl rfl rfl |>.getf 9 (host := "") (Or.inl (hw _ (mm 93 rfl))) Via.refl Fc d21_6 rfl |>.ishr 10 d21_9 rfl |>.top (y := (.int (Int32.ofNat cap))) (congrArg Value.int (shr0 _)) |>.istoreN 11 #[.val (.ref a), .val (.int (Int32.ofNat mc)), .val (.int (Int32.ofNat cap))] d21_10 rfl rfl
    replace G := G.iloadN 12 d21_11 rfl rfl |>.iloadN 13 d21_12 rfl rfl |>.isub 14 d21_13 rfl |>.ifT 38 d21_14 (XT.i0_le_t (ofn_le0 hge (by omega))) (by decide) (by decide)
    exact G.retV hret hlk d21_38 [b] (allS (mm 1 rfl) all0) ⟨rfl, b, cap, hS', hge, hcap, Or.inl ⟨rfl, hge⟩, Or.inl rfl, rfl⟩ (nle rfl) (nle rfl)
theorem d18_0 : decode jdk_68_method_22_code 0 = .ok (.aload_n 1, 1) := by decide +kernel
theorem d18_1 : decode jdk_68_method_22_code 1 = .ok (.ifnonnull 8, 3) := by decide +kernel
theorem d18_4 : decode jdk_68_method_22_code 4 = .ok (.aload_n 0, 1) := by decide +kernel
theorem d18_5 : decode jdk_68_method_22_code 5 = .ok (.invokevirtual 204, 3) := by decide +kernel
theorem d18_8 : decode jdk_68_method_22_code 8 = .ok (.areturn, 1) := by decide +kernel
theorem d18_9 : decode jdk_68_method_22_code 9 = .ok (.aload_n 1, 1) := by decide +kernel
theorem d18_10 : decode jdk_68_method_22_code 10 = .ok (.invokevirtual 32, 3) := by decide +kernel
theorem d18_13 : decode jdk_68_method_22_code 13 = .ok (.istore_n 2, 1) := by decide +kernel
theorem d18_14 : decode jdk_68_method_22_code 14 = .ok (.aload_n 0, 1) := by decide +kernel
theorem d18_15 : decode jdk_68_method_22_code 15 = .ok (.aload_n 0, 1) := by decide +kernel
theorem d18_16 : decode jdk_68_method_22_code 16 = .ok (.getfield 79, 3) := by decide +kernel
theorem d18_19 : decode jdk_68_method_22_code 19 = .ok (.iload_n 2, 1) := by decide +kernel
theorem d18_20 : decode jdk_68_method_22_code 20 = .ok (.iadd, 1) := by decide +kernel
theorem d18_21 : decode jdk_68_method_22_code 21 = .ok (.invokevirtual 100, 3) := by decide +kernel
theorem d18_24 : decode jdk_68_method_22_code 24 = .ok (.aload_n 0, 1) := by decide +kernel
theorem d18_25 : decode jdk_68_method_22_code 25 = .ok (.aload_n 0, 1) := by decide +kernel
theorem d18_26 : decode jdk_68_method_22_code 26 = .ok (.getfield 79, 3) := by decide +kernel
theorem d18_29 : decode jdk_68_method_22_code 29 = .ok (.aload_n 1, 1) := by decide +kernel
theorem d18_30 : decode jdk_68_method_22_code 30 = .ok (.invokevirtual 208, 3) := by decide +kernel
theorem d18_33 : decode jdk_68_method_22_code 33 = .ok (.aload_n 0, 1) := by decide +kernel
theorem d18_34 : decode jdk_68_method_22_code 34 = .ok (.dup, 1) := by decide +kernel
theorem d18_35 : decode jdk_68_method_22_code 35 = .ok (.getfield 79, 3) := by decide +kernel
theorem d18_38 : decode jdk_68_method_22_code 38 = .ok (.iload_n 2, 1) := by decide +kernel
theorem d18_39 : decode jdk_68_method_22_code 39 = .ok (.iadd, 1) := by decide +kernel
theorem d18_40 : decode jdk_68_method_22_code 40 = .ok (.putfield 79, 3) := by decide +kernel
theorem d18_43 : decode jdk_68_method_22_code 43 = .ok (.aload_n 0, 1) := by decide +kernel
theorem d18_44 : decode jdk_68_method_22_code 44 = .ok (.areturn, 1) := by decide +kernel
theorem c_asbAppG (l : Launch) (Z : State) (a0 : Array Value) (hw : ∀ d ∈ tables_1, d.before a0 Z = true) (hEW : EW Z a0 consts_1) (n0 : Nat) (c1 : Int32) (hc1 : ¬ c1 = 0) (S1 : Sta Z Z.heap "java/lang/String" "COMPACT_STRINGS" "Z" (.int c1)) (a b a2 b2 : Addr) (cap : Nat) (bs cs : List Value) {h0 : Heap} (o1 : Old Z n0 h0) (ge_a : n0 ≤ a) (ge_b : n0 ≤ b) (hle : bs.length + cs.length ≤ 62) (hcap : cap ≤ 126) (hbs : bs.length ≤ cap) (hS : Sbd Z h0 a b cap bs) (hT : Str Z h0 a2 b2 cs) (n2a : a2 ≠ a) (n2b : b2 ≠ a) :
    Con Z a0 l (⟨"java/lang/AbstractStringBuilder", "append", "(Ljava/lang/String;)Ljava/lang/AbstractStringBuilder;"⟩ : MethodName) jdk_68_method_22_code 3 (some (.object "java/lang/AbstractStringBuilder")) ({ frames := 4, cells := 1, slots := 126, locals := 70 } : Room) [] #[(.ref a), (.ref a2)] consts_1 h0 n0 [a, b] [a, b] (VV fun w h so => w = .ref a ∧ ∃ b' cap', Sbd Z h a b' cap' (bs ++ cs) ∧ (bs ++ cs).length ≤ cap' ∧ cap' ≤ 126 ∧ GC cap (bs.length + cs.length) cap' ∧ (b' = b ∨ h0.size ≤ b') ∧ so = [b']) := by
  refine Con.body (plainFor_of_name pn_java_lang_AbstractStringBuilder) hEW o1 (allS ge_a (allS ge_b all0)) #[.val (.ref a), .val (.ref a2), .unset] (fun m => by first | (simp [entryFrame, mkF, argsToLocals, Value.category]; done) | rfl) ?_
  intro p e s m below meth c B hnm hret hlk G
  replace G := G.aloadN 1 d18_0 rfl rfl rfl |>.ifnonnullT 9 d18_1 (by decide) (by decide) |>.aloadN 10 d18_9 rfl rfl rfl
  obtain ⟨vl, h_l, sol, G', Kl, Ql⟩ := G.callV 13 (hw _ (mm 106 rfl)) (hw _ (mm 107 rfl)) (nfSel (hw _ (mm 109 rfl))) (hw _ (mm 109 rfl)) (hw _ (mm 108 rfl)) (hw _ (mm 3 rfl)) (hw _ (mm 110 rfl)) hT.1 (by decide) [] [] rfl (c_length l Z a0 hw hEW n0 c1 hc1 S1 a2 b2 cs G.old hT) (lenOf pd___I rfl) d18_10 rfl (nle rfl) (nle rfl) (nle rfl) (nle rfl) all0 all0 all0 rfl
  replace G := G'; clear G'
  obtain ⟨wl, ql, rfl, el, rfl⟩ := Ql
  replace G := G.val ql
  subst el
  replace G := G.istoreN 14 #[.val (.ref a), .val (.ref a2), .val (.int (Int32.ofNat cs.length))] d18_13 rfl rfl |>.aloadN 15 d18_14 rfl rfl rfl |>.aloadN 16 d18_15 rfl rfl rfl |>.getf 19 (host := "") (Or.inl (hw _ (mm 116 rfl))) Via.refl hS.2.2.2.1 d18_16 rfl |>.iloadN 20 d18_19 rfl rfl |>.iadd 21 d18_20 rfl |>.top (y := (.int (Int32.ofNat (bs.length + cs.length)))) (congrArg Value.int (ofn_add _ _))
  obtain ⟨ve, h1, soe, G', Ke, Qe⟩ := G.callV 24 (hw _ (mm 118 rfl)) (declOf (hw _ (mm 119 rfl)) (hw _ (mm 122 rfl))) (nfSel (hw _ (mm 121 rfl))) (hw _ (mm 121 rfl)) (hw _ (mm 119 rfl)) (hw _ (mm 87 rfl)) (hw _ (mm 122 rfl)) hS.1 (by decide) [(.int (Int32.ofNat (bs.length + cs.length)))] [] rfl (c_ensG l Z a0 hw hEW n0 c1 hc1 S1 a b cap (bs.length + cs.length) bs G.old ge_a hle hcap hbs hS) (lenOf pd__I_V rfl) d18_21 rfl (nle rfl) (nle rfl) (nle rfl) (nle rfl) (allS (Or.inl (mm 0 rfl)) all0) (allS (mm 0 rfl) (allS (mm 1 rfl) all0)) (allS (mm 0 rfl) all0) rfl
  replace G := G'; clear G'
  obtain ⟨qe, b1, cp1, hS1, hl1, hc1', hg1, hb1, rfl⟩ := Qe
  replace G := G.nov qe
  replace hT := hT.keep Ke (ninS n2a nin0) (ninS n2b nin0); have nwb : NW h_l [a, b] b1 := hb1.elim (fun q => Or.inl (q ▸ (mm 1 rfl))) Or.inr
  replace G := G.aloadN 25 d18_24 rfl rfl rfl |>.aloadN 26 d18_25 rfl rfl rfl |>.getf 29 (host := "") (Or.inl (hw _ (mm 116 rfl))) Via.refl hS1.2.2.2.1 d18_26 rfl |>.aloadN 30 d18_29 rfl rfl rfl
  obtain ⟨vp, h2, sop, G', Kp, Qp⟩ := G.callV 33 (hw _ (mm 149 rfl)) (declOf (hw _ (mm 150 rfl)) (hw _ (mm 153 rfl))) (nfSel (hw _ (mm 152 rfl))) (hw _ (mm 152 rfl)) (hw _ (mm 150 rfl)) (hw _ (mm 87 rfl)) (hw _ (mm 153 rfl)) hS1.1 (by decide) [(.int (Int32.ofNat bs.length)), (.ref a2)] [] rfl (c_putStr l Z a0 hw hEW n0 c1 hc1 S1 a b1 a2 b2 cp1 bs cs G.old (G.nw nwb) hl1 (by omega) hS1 hT) (lenOf pd__ILjava_lang_String__V rfl) d18_30 rfl (nle rfl) (nle rfl) (nle rfl) (nle rfl) (allS nwb all0) (allS (mm 0 rfl) all0) (allS (mm 0 rfl) all0) rfl
  replace G := G'; clear G'
  obtain ⟨qp, ⟨kb, Ab⟩, rfl⟩ := Qp
  replace G := G.nov qp
  obtain ⟨Xa, Fv, Fc, Fn, kb0, Ab0⟩ := hS1
  have nab : a ≠ b1 := ne_arr Xa (hw _ (mm 78 rfl)) Ab0.choose_spec.1
  replace Xa := Xa.keep Kp; replace Fv := Fv.keep Kp (ninS nab nin0); replace Fc := Fc.keep Kp (ninS nab nin0); replace Fn := Fn.keep Kp (ninS nab nin0)
  replace G := G.aloadN 34 d18_33 rfl rfl rfl |>.dup 35 d18_34 rfl rfl |>.getf 38 (host := "") (Or.inl (hw _ (mm 116 rfl))) Via.refl Fn d18_35 rfl |>.iloadN 39 d18_38 rfl rfl |>.iadd 40 d18_39 rfl |>.top (y := (.int (Int32.ofNat (bs ++ cs).length))) (congrArg Value.int ((ofn_add _ _).trans (by rw [List.length_append])))
  obtain ⟨h3, G', Ww, Fw, Kw⟩ := G.putf 43 (host := "") (Or.inl (hw _ (mm 116 rfl))) Via.refl Fn Xa (Or.inl (hw _ (mm 117 rfl))) (hw _ (mm 78 rfl)) (ty := .int) (by decide) rfl rfl (Or.inl (mm 0 rfl)) (mm 1 rfl) d18_40 rfl
  replace G := G'; clear G'
  replace Fv := Fv.other Ww (Or.inr (slot_ne (Or.inl (hw _ (mm 92 rfl))) (Or.inl (hw _ (mm 117 rfl))) (by decide) (t := (.array .byte)) (t' := .int) (by decide) (by decide))); replace Fc := Fc.other Ww (Or.inr (slot_ne (Or.inl (hw _ (mm 94 rfl))) (Or.inl (hw _ (mm 117 rfl))) (by decide) (t := .byte) (t' := .int) (by decide) (by decide)))
  replace Xa := Xa.wr Ww; replace Ab := Ab.keep Kw (ninS nab.symm nin0)
  replace G := G.aloadN 44 d18_43 rfl rfl rfl
  exact G.retA hret rfl rfl hlk d18_44 [b1] (allS (mm 0 rfl) all0) ⟨_, rfl, rfl, b1, cp1, ⟨Xa, Fv, Fc, Fw, kb, Ab⟩, by rw [List.length_append]; exact hl1, hc1', hg1, hb1, rfl⟩ (nle rfl) (nle rfl)
theorem d17_0 : decode jdk_67_method_7_code 0 = .ok (.aload_n 0, 1) := by decide +kernel
theorem d17_1 : decode jdk_67_method_7_code 1 = .ok (.aload_n 1, 1) := by decide +kernel
theorem d17_2 : decode jdk_67_method_7_code 2 = .ok (.invokespecial 29, 3) := by decide +kernel
theorem d17_5 : decode jdk_67_method_7_code 5 = .ok (.pop, 1) := by decide +kernel
theorem d17_6 : decode jdk_67_method_7_code 6 = .ok (.aload_n 0, 1) := by decide +kernel
theorem d17_7 : decode jdk_67_method_7_code 7 = .ok (.areturn, 1) := by decide +kernel
theorem c_appG (l : Launch) (Z : State) (a0 : Array Value) (hw : ∀ d ∈ tables_1, d.before a0 Z = true) (hEW : EW Z a0 consts_1) (n0 : Nat) (c1 : Int32) (hc1 : ¬ c1 = 0) (S1 : Sta Z Z.heap "java/lang/String" "COMPACT_STRINGS" "Z" (.int c1)) (a b a2 b2 : Addr) (cap : Nat) (bs cs : List Value) {h0 : Heap} (o1 : Old Z n0 h0) (ge_a : n0 ≤ a) (ge_b : n0 ≤ b) (hle : bs.length + cs.length ≤ 62) (hcap : cap ≤ 126) (hbs : bs.length ≤ cap) (hS : Sbd Z h0 a b cap bs) (hT : Str Z h0 a2 b2 cs) (n2a : a2 ≠ a) (n2b : b2 ≠ a) :
    Con Z a0 l (⟨"java/lang/StringBuilder", "append", "(Ljava/lang/String;)Ljava/lang/StringBuilder;"⟩ : MethodName) jdk_67_method_7_code 2 (some (.object "java/lang/StringBuilder")) ({ frames := 5, cells := 1, slots := 126, locals := 84 } : Room) [] #[(.ref a), (.ref a2)] consts_1 h0 n0 [a, b] [a, b] (VV fun w h so => w = .ref a ∧ ∃ b' cap', Sbd Z h a b' cap' (bs ++ cs) ∧ (bs ++ cs).length ≤ cap' ∧ cap' ≤ 126 ∧ GC cap (bs.length + cs.length) cap' ∧ (b' = b ∨ h0.size ≤ b') ∧ so = [b']) := by
  refine Con.body (plainFor_of_name pn_java_lang_StringBuilder) hEW o1 (allS ge_a (allS ge_b all0)) #[.val (.ref a), .val (.ref a2)] (fun m => by first | (simp [entryFrame, mkF, argsToLocals, Value.category]; done) | rfl) ?_
  intro p e s m below meth c B hnm hret hlk G
  replace G := G.aloadN 1 d17_0 rfl rfl rfl |>.aloadN 2 d17_1 rfl rfl rfl
  obtain ⟨vp, h1, sop, G', Kp, Qp⟩ := G.callSup 5 (hw _ (mm 101 rfl)) (sameOf (hw _ (mm 102 rfl)) (nfVia (y := (⟨"java/lang/AbstractStringBuilder", "ensureCapacityInternal", "(I)V"⟩ : MethodName)) rfl (hw _ (mm 121 rfl)) (hw _ (mm 119 rfl))) (by decide)) (hw _ (mm 102 rfl)) (hw _ (mm 103 rfl)) (by decide) (hw _ (mm 87 rfl)) (hw _ (mm 105 rfl)) (Ins.self hS.1) [(.ref a2)] [] rfl (c_asbAppG l Z a0 hw hEW n0 c1 hc1 S1 a b a2 b2 cap bs cs G.old ge_a ge_b hle hcap hbs hS hT n2a n2b) (lenOf pd__Ljava_lang_String__Ljava_lang_AbstractStringBuilder_ rfl) d17_2 rfl (nle rfl) (nle rfl) (nle rfl) (nle rfl) (allS (Or.inl (mm 0 rfl)) (allS (Or.inl (mm 1 rfl)) all0)) (allS (mm 0 rfl) (allS (mm 1 rfl) all0)) (allS (mm 0 rfl) (allS (mm 1 rfl) all0)) rfl
  replace G := G'; clear G'
  obtain ⟨wp, qp, rfl, b1, cp1, hS1, hl1, hc2, hg1, hb1, rfl⟩ := Qp
  replace G := G.val qp |>.pop 6 d17_5 rfl rfl |>.aloadN 7 d17_6 rfl rfl rfl
  exact G.retA hret rfl rfl hlk d17_7 [b1] (allS (mm 0 rfl) all0) ⟨_, rfl, rfl, b1, cp1, hS1, hl1, hc2, hg1, hb1, rfl⟩ (nle rfl) (nle rfl)
theorem d45_0 : decode jdk_43_method_13_code 0 = .ok (.aload_n 0, 1) := by decide +kernel
theorem d45_1 : decode jdk_43_method_13_code 1 = .ok (.arraylength, 1) := by decide +kernel
theorem d45_2 : decode jdk_43_method_13_code 2 = .ok (.aload_n 1, 1) := by decide +kernel
theorem d45_3 : decode jdk_43_method_13_code 3 = .ok (.arraylength, 1) := by decide +kernel
theorem d45_4 : decode jdk_43_method_13_code 4 = .ok (.if_icmp .ne 30, 3) := by decide +kernel
theorem d45_7 : decode jdk_43_method_13_code 7 = .ok (.iconst 0, 1) := by decide +kernel
theorem d45_8 : decode jdk_43_method_13_code 8 = .ok (.istore_n 2, 1) := by decide +kernel
theorem d45_9 : decode jdk_43_method_13_code 9 = .ok (.iload_n 2, 1) := by decide +kernel
theorem d45_10 : decode jdk_43_method_13_code 10 = .ok (.aload_n 0, 1) := by decide +kernel
theorem d45_11 : decode jdk_43_method_13_code 11 = .ok (.arraylength, 1) := by decide +kernel
theorem d45_12 : decode jdk_43_method_13_code 12 = .ok (.if_icmp .ge 20, 3) := by decide +kernel
theorem d45_15 : decode jdk_43_method_13_code 15 = .ok (.aload_n 0, 1) := by decide +kernel
theorem d45_16 : decode jdk_43_method_13_code 16 = .ok (.iload_n 2, 1) := by decide +kernel
theorem d45_17 : decode jdk_43_method_13_code 17 = .ok (.baload, 1) := by decide +kernel
theorem d45_18 : decode jdk_43_method_13_code 18 = .ok (.aload_n 1, 1) := by decide +kernel
theorem d45_19 : decode jdk_43_method_13_code 19 = .ok (.iload_n 2, 1) := by decide +kernel
theorem d45_20 : decode jdk_43_method_13_code 20 = .ok (.baload, 1) := by decide +kernel
theorem d45_21 : decode jdk_43_method_13_code 21 = .ok (.if_icmp .eq 5, 3) := by decide +kernel
theorem d45_24 : decode jdk_43_method_13_code 24 = .ok (.iconst 0, 1) := by decide +kernel
theorem d45_25 : decode jdk_43_method_13_code 25 = .ok (.ireturn, 1) := by decide +kernel
theorem d45_26 : decode jdk_43_method_13_code 26 = .ok (.iinc 2 1, 3) := by decide +kernel
theorem d45_29 : decode jdk_43_method_13_code 29 = .ok (.goto (-20), 3) := by decide +kernel
theorem d45_32 : decode jdk_43_method_13_code 32 = .ok (.iconst 1, 1) := by decide +kernel
theorem d45_33 : decode jdk_43_method_13_code 33 = .ok (.ireturn, 1) := by decide +kernel
theorem d45_34 : decode jdk_43_method_13_code 34 = .ok (.iconst 0, 1) := by decide +kernel
theorem d45_35 : decode jdk_43_method_13_code 35 = .ok (.ireturn, 1) := by decide +kernel
theorem c_eqB (l : Launch) (Z : State) (a0 : Array Value) (hw : ∀ d ∈ tables_1, d.before a0 Z = true) (hEW : EW Z a0 consts_1) (n0 : Nat) (c1 : Int32) (hc1 : ¬ c1 = 0) (S1 : Sta Z Z.heap "java/lang/String" "COMPACT_STRINGS" "Z" (.int c1)) (b1 b2 : Addr) (k1 k2 : ClassId) (bs : List Value) {h0 : Heap} (o1 : Old Z n0 h0) (hn : bs.length < 2147483648) (hint : ∀ i, i < bs.length → ∃ x, bs.getD i (.int 0) = .int x) (A1 : Arv Z h0 b1 k1 .byte (Int32.ofNat bs.length) bs (.int 0)) (A2 : Arv Z h0 b2 k2 .byte (Int32.ofNat bs.length) bs (.int 0)) :
    Con Z a0 l (⟨"java/lang/StringLatin1", "equals", "([B[B)Z"⟩ : MethodName) jdk_43_method_13_code 3 (some .boolean) ({ frames := 0, cells := 0, slots := 0, locals := 0 } : Room) [] #[(.ref b1), (.ref b2)] consts_1 h0 n0 [] [] (VV fun w h so => w = .int 1 ∧ h = h0 ∧ so = []) := by
  refine Con.body (plainFor_of_name pn_java_lang_StringLatin1) hEW o1 all0 #[.val (.ref b1), .val (.ref b2), .unset] (fun m => by first | (simp [entryFrame, mkF, argsToLocals, Value.category]; done) | rfl) ?_
  intro p e s m below meth c B hnm hret hlk G
  have loop : ∀ (k i : Nat), i + k = bs.length → Wl Z a0 "java/lang/StringLatin1" p l e ({ frames := 0, cells := 0, slots := 0, locals := 0 } : Room) s m #[(.ref b1), (.ref b2)] below meth c jdk_43_method_13_code 3 B consts_1 h0 n0 [] [] h0 0 0 9 #[.val (.ref b1), .val (.ref b2), .val (.int (Int32.ofNat i))] [] → Fin Z consts_1 p e below B s h0 n0 [] ({ frames := 0, cells := 0, slots := 0, locals := 0 } : Room).cells ({ frames := 0, cells := 0, slots := 0, locals := 0 } : Room).slots (VV fun w h so => w = .int 1 ∧ h = h0 ∧ so = []) := by
    intro k; induction k with
    | zero =>
      intro i hik G
      obtain rfl : i = bs.length := by omega
      replace G := G.iloadN 10 d45_9 rfl rfl |>.aloadN 11 d45_10 rfl rfl rfl |>.alen 12 A1 d45_11 rfl |>.icmpT 32 d45_12 (XT.ii_ge_t (ofn_nlt (Nat.le_refl _) hn)) (by decide) (by decide) |>.iconst 33 (1 : Int32) d45_32 rfl rfl
      exact G.retN hret (Or.inl rfl) hlk d45_33 [] all0 ⟨_, rfl, rfl, rfl, rfl⟩ (nle rfl) (nle rfl)
    | succ k ih =>
      intro i hik G
      have hi : i < bs.length := by omega
      obtain ⟨x, hx⟩ := hint i hi
      replace G := G.iloadN 10 d45_9 rfl rfl |>.aloadN 11 d45_10 rfl rfl rfl |>.alen 12 A1 d45_11 rfl |>.icmpF 15 d45_12 (XT.ii_ge_f (ofn_lt hi hn)) rfl |>.aloadN 16 d45_15 rfl rfl rfl |>.iloadN 17 d45_16 rfl rfl |>.baload 18 (v := (.int x)) A1 ⟨ofn_nn (by omega), ofn_lt hi hn⟩ (by rw [ofn_nat (by omega)]; exact hx) d45_17 rfl |>.aloadN 19 d45_18 rfl rfl rfl
      replace G := G.iloadN 20 d45_19 rfl rfl |>.baload 21 (v := (.int x)) A2 ⟨ofn_nn (by omega), ofn_lt hi hn⟩ (by rw [ofn_nat (by omega)]; exact hx) d45_20 rfl |>.icmpT 26 d45_21 (XT.ii_eq_t rfl) (by decide) (by decide) |>.iincV 29 #[.val (.ref b1), .val (.ref b2), .val (.int (Int32.ofNat (i + 1)))] (Int32.ofNat (i + 1)) d45_26 rfl (ofn_succ i) rfl rfl |>.goto 9 d45_29 (by decide) (by decide)
      exact ih (i + 1) (by omega) G
  replace G := G.aloadN 1 d45_0 rfl rfl rfl |>.alen 2 A1 d45_1 rfl |>.aloadN 3 d45_2 rfl rfl rfl |>.alen 4 A2 d45_3 rfl |>.icmpF 7 d45_4 (XT.ii_ne_f rfl) rfl |>.iconst 8 (0 : Int32) d45_7 rfl rfl |>.istoreN 9 #[.val (.ref b1), .val (.ref b2), .val (.int (0 : Int32))] d45_8 rfl rfl
  exact loop bs.length 0 (by omega) G
theorem d44_0 : decode jdk_42_method_66_code 0 = .ok (.aload_n 0, 1) := by decide +kernel
theorem d44_1 : decode jdk_42_method_66_code 1 = .ok (.aload_n 1, 1) := by decide +kernel
theorem d44_2 : decode jdk_42_method_66_code 2 = .ok (.if_acmp .ne 5, 3) := by decide +kernel
theorem d44_5 : decode jdk_42_method_66_code 5 = .ok (.iconst 1, 1) := by decide +kernel
theorem d44_6 : decode jdk_42_method_66_code 6 = .ok (.ireturn, 1) := by decide +kernel
theorem d44_7 : decode jdk_42_method_66_code 7 = .ok (.aload_n 1, 1) := by decide +kernel
theorem d44_8 : decode jdk_42_method_66_code 8 = .ok (.instanceof 10, 3) := by decide +kernel
theorem d44_11 : decode jdk_42_method_66_code 11 = .ok (.ifCond .eq 43, 3) := by decide +kernel
theorem d44_14 : decode jdk_42_method_66_code 14 = .ok (.aload_n 1, 1) := by decide +kernel
theorem d44_15 : decode jdk_42_method_66_code 15 = .ok (.checkcast 10, 3) := by decide +kernel
theorem d44_18 : decode jdk_42_method_66_code 18 = .ok (.astore_n 2, 1) := by decide +kernel
theorem d44_19 : decode jdk_42_method_66_code 19 = .ok (.getstatic 38, 3) := by decide +kernel
theorem d44_22 : decode jdk_42_method_66_code 22 = .ok (.ifCond .eq 14, 3) := by decide +kernel
theorem d44_25 : decode jdk_42_method_66_code 25 = .ok (.aload_n 0, 1) := by decide +kernel
theorem d44_26 : decode jdk_42_method_66_code 26 = .ok (.getfield 15, 3) := by decide +kernel
theorem d44_29 : decode jdk_42_method_66_code 29 = .ok (.aload_n 2, 1) := by decide +kernel
theorem d44_30 : decode jdk_42_method_66_code 30 = .ok (.getfield 15, 3) := by decide +kernel
theorem d44_33 : decode jdk_42_method_66_code 33 = .ok (.if_icmp .ne 21, 3) := by decide +kernel
theorem d44_36 : decode jdk_42_method_66_code 36 = .ok (.aload_n 0, 1) := by decide +kernel
theorem d44_37 : decode jdk_42_method_66_code 37 = .ok (.getfield 9, 3) := by decide +kernel
theorem d44_40 : decode jdk_42_method_66_code 40 = .ok (.aload_n 2, 1) := by decide +kernel
theorem d44_41 : decode jdk_42_method_66_code 41 = .ok (.getfield 9, 3) := by decide +kernel
theorem d44_44 : decode jdk_42_method_66_code 44 = .ok (.invokestatic 541, 3) := by decide +kernel
theorem d44_47 : decode jdk_42_method_66_code 47 = .ok (.ifCond .eq 7, 3) := by decide +kernel
theorem d44_50 : decode jdk_42_method_66_code 50 = .ok (.iconst 1, 1) := by decide +kernel
theorem d44_51 : decode jdk_42_method_66_code 51 = .ok (.goto 4, 3) := by decide +kernel
theorem d44_54 : decode jdk_42_method_66_code 54 = .ok (.iconst 0, 1) := by decide +kernel
theorem d44_55 : decode jdk_42_method_66_code 55 = .ok (.ireturn, 1) := by decide +kernel
theorem c_equals (l : Launch) (Z : State) (a0 : Array Value) (hw : ∀ d ∈ tables_1, d.before a0 Z = true) (hEW : EW Z a0 consts_1) (n0 : Nat) (c1 : Int32) (hc1 : ¬ c1 = 0) (S1 : Sta Z Z.heap "java/lang/String" "COMPACT_STRINGS" "Z" (.int c1)) (a1 b1 a2 b2 : Addr) (bs : List Value) {h0 : Heap} (o1 : Old Z n0 h0) (hne : a1 ≠ a2) (hn : bs.length < 2147483648) (hint : ∀ i, i < bs.length → ∃ x, bs.getD i (.int 0) = .int x) (hS1 : Str Z h0 a1 b1 bs) (hS2 : Str Z h0 a2 b2 bs) :
    Con Z a0 l (⟨"java/lang/String", "equals", "(Ljava/lang/Object;)Z"⟩ : MethodName) jdk_42_method_66_code 3 (some .boolean) ({ frames := 1, cells := 0, slots := 0, locals := 14 } : Room) [] #[(.ref a1), (.ref a2)] consts_1 h0 n0 [] [] (VV fun w h so => w = .int 1 ∧ h = h0 ∧ so = []) := by
  refine Con.body (plainFor_of_name pn_java_lang_String) hEW o1 all0 #[.val (.ref a1), .val (.ref a2), .unset] (fun m => by first | (simp [entryFrame, mkF, argsToLocals, Value.category]; done) | rfl) ?_
  intro p e s m below meth c B hnm hret hlk G
  obtain ⟨X1, Fc1, Fv1, k1, A1⟩ := hS1
  obtain ⟨X2, Fc2, Fv2, k2, A2⟩ := hS2
  replace G := G.aloadN 1 d44_0 rfl rfl rfl |>.aloadN 2 d44_1 rfl rfl rfl |>.acmpT 7 d44_2 rfl rfl (decide_eq_true (fun q => hne (Value.ref.inj q))) (by decide) (by decide) |>.aloadN 8 d44_7 rfl rfl rfl |>.instY 11 (hw _ (mm 231 rfl)) (Ins.self X2) d44_8 rfl |>.ifF 14 d44_11 (XT.i0_eq_f (by decide)) rfl |>.aloadN 15 d44_14 rfl rfl rfl |>.ccast 18 (hw _ (mm 231 rfl)) (Ins.self X2) d44_15 rfl
  replace G := G.astoreN 19 #[.val (.ref a1), .val (.ref a2), .val (.ref a2)] d44_18 rfl rfl rfl |>.gets 22 (host := "") (Or.inl (hw _ (mm 14 rfl))) Via.refl (G.sta S1) d44_19 rfl |>.ifF 25 d44_22 (XT.i0_eq_f hc1) rfl |>.aloadN 26 d44_25 rfl rfl rfl |>.getf 29 (host := "") (Or.inl (hw _ (mm 26 rfl))) Via.refl Fc1 d44_26 rfl |>.aloadN 30 d44_29 rfl rfl rfl |>.getf 33 (host := "") (Or.inl (hw _ (mm 26 rfl))) Via.refl Fc2 d44_30 rfl |>.icmpF 36 d44_33 (XT.ii_ne_f rfl) rfl
  replace G := G.aloadN 37 d44_36 rfl rfl rfl |>.getf 40 (host := "") (Or.inl (hw _ (mm 28 rfl))) Via.refl Fv1 d44_37 rfl |>.aloadN 41 d44_40 rfl rfl rfl |>.getf 44 (host := "") (Or.inl (hw _ (mm 28 rfl))) Via.refl Fv2 d44_41 rfl
  obtain ⟨vq, h_q, soq, G', Kq, Qq⟩ := G.callS 47 (hw _ (mm 232 rfl)) (hw _ (mm 233 rfl)) (hw _ (mm 234 rfl)) (hw _ (mm 235 rfl)) (by decide) [(.ref b1), (.ref b2)] [] rfl (c_eqB l Z a0 hw hEW n0 c1 hc1 S1 b1 b2 k1 k2 bs G.old hn hint A1 A2) (lenOf pd___B_B_Z rfl) d44_44 rfl (nle rfl) (nle rfl) (nle rfl) (nle rfl) all0 all0 all0 rfl
  replace G := G'; clear G'
  obtain ⟨wq, qq, rfl, eq, rfl⟩ := Qq
  replace G := G.val qq
  subst eq
  replace G := G.ifF 50 d44_47 (XT.i0_eq_f (by decide)) rfl |>.iconst 51 (1 : Int32) d44_50 rfl rfl |>.goto 55 d44_51 (by decide) (by decide)
  exact G.retN hret (Or.inl rfl) hlk d44_55 [] all0 ⟨_, rfl, rfl, rfl, rfl⟩ (nle rfl) (nle rfl)
theorem d32_0 : decode jdk_33_method_13_code 0 = .ok (.iconst 1, 1) := by decide +kernel
theorem d32_1 : decode jdk_33_method_13_code 1 = .ok (.istore_n 1, 1) := by decide +kernel
theorem d32_2 : decode jdk_33_method_13_code 2 = .ok (.iload_n 0, 1) := by decide +kernel
theorem d32_3 : decode jdk_33_method_13_code 3 = .ok (.ifCond .lt 8, 3) := by decide +kernel
theorem d32_6 : decode jdk_33_method_13_code 6 = .ok (.iconst 0, 1) := by decide +kernel
theorem d32_7 : decode jdk_33_method_13_code 7 = .ok (.istore_n 1, 1) := by decide +kernel
theorem d32_8 : decode jdk_33_method_13_code 8 = .ok (.iload_n 0, 1) := by decide +kernel
theorem d32_9 : decode jdk_33_method_13_code 9 = .ok (.ineg, 1) := by decide +kernel
theorem d32_10 : decode jdk_33_method_13_code 10 = .ok (.istore_n 0, 1) := by decide +kernel
theorem d32_11 : decode jdk_33_method_13_code 11 = .ok (.bipush (-10), 2) := by decide +kernel
theorem d32_13 : decode jdk_33_method_13_code 13 = .ok (.istore_n 2, 1) := by decide +kernel
theorem d32_14 : decode jdk_33_method_13_code 14 = .ok (.iconst 1, 1) := by decide +kernel
theorem d32_15 : decode jdk_33_method_13_code 15 = .ok (.istore_n 3, 1) := by decide +kernel
theorem d32_16 : decode jdk_33_method_13_code 16 = .ok (.iload_n 3, 1) := by decide +kernel
theorem d32_17 : decode jdk_33_method_13_code 17 = .ok (.bipush 10, 2) := by decide +kernel
theorem d32_19 : decode jdk_33_method_13_code 19 = .ok (.if_icmp .ge 23, 3) := by decide +kernel
theorem d32_22 : decode jdk_33_method_13_code 22 = .ok (.iload_n 0, 1) := by decide +kernel
theorem d32_23 : decode jdk_33_method_13_code 23 = .ok (.iload_n 2, 1) := by decide +kernel
theorem d32_24 : decode jdk_33_method_13_code 24 = .ok (.if_icmp .le 7, 3) := by decide +kernel
theorem d32_27 : decode jdk_33_method_13_code 27 = .ok (.iload_n 3, 1) := by decide +kernel
theorem d32_28 : decode jdk_33_method_13_code 28 = .ok (.iload_n 1, 1) := by decide +kernel
theorem d32_29 : decode jdk_33_method_13_code 29 = .ok (.iadd, 1) := by decide +kernel
theorem d32_30 : decode jdk_33_method_13_code 30 = .ok (.ireturn, 1) := by decide +kernel
theorem d32_31 : decode jdk_33_method_13_code 31 = .ok (.bipush 10, 2) := by decide +kernel
theorem d32_33 : decode jdk_33_method_13_code 33 = .ok (.iload_n 2, 1) := by decide +kernel
theorem d32_34 : decode jdk_33_method_13_code 34 = .ok (.imul, 1) := by decide +kernel
theorem d32_35 : decode jdk_33_method_13_code 35 = .ok (.istore_n 2, 1) := by decide +kernel
theorem d32_36 : decode jdk_33_method_13_code 36 = .ok (.iinc 3 1, 3) := by decide +kernel
theorem d32_39 : decode jdk_33_method_13_code 39 = .ok (.goto (-23), 3) := by decide +kernel
theorem d32_42 : decode jdk_33_method_13_code 42 = .ok (.bipush 10, 2) := by decide +kernel
theorem d32_44 : decode jdk_33_method_13_code 44 = .ok (.iload_n 1, 1) := by decide +kernel
theorem d32_45 : decode jdk_33_method_13_code 45 = .ok (.iadd, 1) := by decide +kernel
theorem d32_46 : decode jdk_33_method_13_code 46 = .ok (.ireturn, 1) := by decide +kernel
theorem c_size1 (l : Launch) (Z : State) (a0 : Array Value) (hw : ∀ d ∈ tables_1, d.before a0 Z = true) (hEW : EW Z a0 consts_1) (n0 : Nat) (c1 : Int32) (hc1 : ¬ c1 = 0) (S1 : Sta Z Z.heap "java/lang/String" "COMPACT_STRINGS" "Z" (.int c1)) (N : Nat) {h0 : Heap} (o1 : Old Z n0 h0) (hlo : 0 ≤ N) (hhi : N < 10)  :
    Con Z a0 l (⟨"java/lang/Integer", "stringSize", "(I)I"⟩ : MethodName) jdk_33_method_13_code 4 (some .int) ({ frames := 0, cells := 0, slots := 0, locals := 0 } : Room) [] #[(.int (Int32.ofNat N))] consts_1 h0 n0 [] [] (VV fun w h so => w = .int (1 : Int32) ∧ h = h0 ∧ so = []) := by
  refine Con.body (plainFor_of_name pn_java_lang_Integer) hEW o1 all0 #[.val (.int (Int32.ofNat N)), .unset, .unset, .unset] (fun m => by first | (simp [entryFrame, mkF, argsToLocals, Value.category]; done) | rfl) ?_
  intro p e s m below meth c B hnm hret hlk G
  have hN : N < 2147483648 := by omega
  replace G := G.iconst 1 (1 : Int32) d32_0 rfl rfl |>.istoreN 2 #[.val (.int (Int32.ofNat N)), .val (.int (1 : Int32)), .unset, .unset] d32_1 rfl rfl |>.iloadN 3 d32_2 rfl rfl |>.ifF 6 d32_3 (XT.i0_lt_f (ofn_nn hN)) rfl |>.iconst 7 (0 : Int32) d32_6 rfl rfl |>.istoreN 8 #[.val (.int (Int32.ofNat N)), .val (.int (0 : Int32)), .unset, .unset] d32_7 rfl rfl |>.iloadN 9 d32_8 rfl rfl |>.ineg 10 d32_9 rfl
  replace G := G.istoreN 11 #[.val (.int (-(Int32.ofNat N))), .val (.int (0 : Int32)), .unset, .unset] d32_10 rfl rfl |>.bipush 13 (-10 : Int32) d32_11 (by decide) rfl |>.istoreN 14 #[.val (.int (-(Int32.ofNat N))), .val (.int (0 : Int32)), .val (.int (-10 : Int32)), .unset] d32_13 rfl rfl |>.iconst 15 (1 : Int32) d32_14 rfl rfl |>.istoreN 16 #[.val (.int (-(Int32.ofNat N))), .val (.int (0 : Int32)), .val (.int (-10 : Int32)), .val (.int (1 : Int32))] d32_15 rfl rfl |>.iloadN 17 d32_16 rfl rfl |>.bipush 19 (10 : Int32) d32_17 (by decide) rfl |>.icmpF 22 d32_19 (XT.ii_ge_f (by decide)) rfl
  replace G := G.iloadN 23 d32_22 rfl rfl |>.iloadN 24 d32_23 rfl rfl |>.icmpF 27 d32_24 (XT.ii_le_f (ng_gt (K := -10) hN rfl (by omega))) rfl |>.iloadN 28 d32_27 rfl rfl |>.iloadN 29 d32_28 rfl rfl |>.iadd 30 d32_29 rfl |>.top (y := (.int (1 : Int32))) (by decide)
  exact G.retI hret hlk d32_30 [] all0 ⟨_, rfl, rfl, rfl, rfl⟩ (nle rfl) (nle rfl)
theorem c_size2 (l : Launch) (Z : State) (a0 : Array Value) (hw : ∀ d ∈ tables_1, d.before a0 Z = true) (hEW : EW Z a0 consts_1) (n0 : Nat) (c1 : Int32) (hc1 : ¬ c1 = 0) (S1 : Sta Z Z.heap "java/lang/String" "COMPACT_STRINGS" "Z" (.int c1)) (N : Nat) {h0 : Heap} (o1 : Old Z n0 h0) (hlo : 10 ≤ N) (hhi : N < 100)  :
    Con Z a0 l (⟨"java/lang/Integer", "stringSize", "(I)I"⟩ : MethodName) jdk_33_method_13_code 4 (some .int) ({ frames := 0, cells := 0, slots := 0, locals := 0 } : Room) [] #[(.int (Int32.ofNat N))] consts_1 h0 n0 [] [] (VV fun w h so => w = .int (2 : Int32) ∧ h = h0 ∧ so = []) := by
  refine Con.body (plainFor_of_name pn_java_lang_Integer) hEW o1 all0 #[.val (.int (Int32.ofNat N)), .unset, .unset, .unset] (fun m => by first | (simp [entryFrame, mkF, argsToLocals, Value.category]; done) | rfl) ?_
  intro p e s m below meth c B hnm hret hlk G
  have hN : N < 2147483648 := by omega
  replace G := G.iconst 1 (1 : Int32) d32_0 rfl rfl |>.istoreN 2 #[.val (.int (Int32.ofNat N)), .val (.int (1 : Int32)), .unset, .unset] d32_1 rfl rfl |>.iloadN 3 d32_2 rfl rfl |>.ifF 6 d32_3 (XT.i0_lt_f (ofn_nn hN)) rfl |>.iconst 7 (0 : Int32) d32_6 rfl rfl |>.istoreN 8 #[.val (.int (Int32.ofNat N)), .val (.int (0 : Int32)), .unset, .unset] d32_7 rfl rfl |>.iloadN 9 d32_8 rfl rfl |>.ineg 10 d32_9 rfl
  replace G := G.istoreN 11 #[.val (.int (-(Int32.ofNat N))), .val (.int (0 : Int32)), .unset, .unset] d32_10 rfl rfl |>.bipush 13 (-10 : Int32) d32_11 (by decide) rfl |>.istoreN 14 #[.val (.int (-(Int32.ofNat N))), .val (.int (0 : Int32)), .val (.int (-10 : Int32)), .unset] d32_13 rfl rfl |>.iconst 15 (1 : Int32) d32_14 rfl rfl |>.istoreN 16 #[.val (.int (-(Int32.ofNat N))), .val (.int (0 : Int32)), .val (.int (-10 : Int32)), .val (.int (1 : Int32))] d32_15 rfl rfl |>.iloadN 17 d32_16 rfl rfl |>.bipush 19 (10 : Int32) d32_17 (by decide) rfl |>.icmpF 22 d32_19 (XT.ii_ge_f (by decide)) rfl
  replace G := G.iloadN 23 d32_22 rfl rfl |>.iloadN 24 d32_23 rfl rfl |>.icmpT 31 d32_24 (XT.ii_le_t (ng_ngt (K := -10) hN rfl (by omega))) (by decide) (by decide) |>.bipush 33 (10 : Int32) d32_31 (by decide) rfl |>.iloadN 34 d32_33 rfl rfl |>.imul 35 d32_34 rfl |>.top (y := (.int (-100 : Int32))) (by decide) |>.istoreN 36 #[.val (.int (-(Int32.ofNat N))), .val (.int (0 : Int32)), .val (.int (-100 : Int32)), .val (.int (1 : Int32))] d32_35 rfl rfl
  replace G := G.iincV 39 #[.val (.int (-(Int32.ofNat N))), .val (.int (0 : Int32)), .val (.int (-100 : Int32)), .val (.int (2 : Int32))] (2 : Int32) d32_36 rfl (by decide) rfl rfl |>.goto 16 d32_39 (by decide) (by decide) |>.iloadN 17 d32_16 rfl rfl |>.bipush 19 (10 : Int32) d32_17 (by decide) rfl |>.icmpF 22 d32_19 (XT.ii_ge_f (by decide)) rfl |>.iloadN 23 d32_22 rfl rfl |>.iloadN 24 d32_23 rfl rfl |>.icmpF 27 d32_24 (XT.ii_le_f (ng_gt (K := -100) hN rfl (by omega))) rfl
  replace G := G.iloadN 28 d32_27 rfl rfl |>.iloadN 29 d32_28 rfl rfl |>.iadd 30 d32_29 rfl |>.top (y := (.int (2 : Int32))) (by decide)
  exact G.retI hret hlk d32_30 [] all0 ⟨_, rfl, rfl, rfl, rfl⟩ (nle rfl) (nle rfl)
theorem c_size3 (l : Launch) (Z : State) (a0 : Array Value) (hw : ∀ d ∈ tables_1, d.before a0 Z = true) (hEW : EW Z a0 consts_1) (n0 : Nat) (c1 : Int32) (hc1 : ¬ c1 = 0) (S1 : Sta Z Z.heap "java/lang/String" "COMPACT_STRINGS" "Z" (.int c1)) (N : Nat) {h0 : Heap} (o1 : Old Z n0 h0) (hlo : 100 ≤ N) (hhi : N < 1000)  :
    Con Z a0 l (⟨"java/lang/Integer", "stringSize", "(I)I"⟩ : MethodName) jdk_33_method_13_code 4 (some .int) ({ frames := 0, cells := 0, slots := 0, locals := 0 } : Room) [] #[(.int (Int32.ofNat N))] consts_1 h0 n0 [] [] (VV fun w h so => w = .int (3 : Int32) ∧ h = h0 ∧ so = []) := by
  refine Con.body (plainFor_of_name pn_java_lang_Integer) hEW o1 all0 #[.val (.int (Int32.ofNat N)), .unset, .unset, .unset] (fun m => by first | (simp [entryFrame, mkF, argsToLocals, Value.category]; done) | rfl) ?_
  intro p e s m below meth c B hnm hret hlk G
  have hN : N < 2147483648 := by omega
  replace G := G.iconst 1 (1 : Int32) d32_0 rfl rfl |>.istoreN 2 #[.val (.int (Int32.ofNat N)), .val (.int (1 : Int32)), .unset, .unset] d32_1 rfl rfl |>.iloadN 3 d32_2 rfl rfl |>.ifF 6 d32_3 (XT.i0_lt_f (ofn_nn hN)) rfl |>.iconst 7 (0 : Int32) d32_6 rfl rfl |>.istoreN 8 #[.val (.int (Int32.ofNat N)), .val (.int (0 : Int32)), .unset, .unset] d32_7 rfl rfl |>.iloadN 9 d32_8 rfl rfl |>.ineg 10 d32_9 rfl
  replace G := G.istoreN 11 #[.val (.int (-(Int32.ofNat N))), .val (.int (0 : Int32)), .unset, .unset] d32_10 rfl rfl |>.bipush 13 (-10 : Int32) d32_11 (by decide) rfl |>.istoreN 14 #[.val (.int (-(Int32.ofNat N))), .val (.int (0 : Int32)), .val (.int (-10 : Int32)), .unset] d32_13 rfl rfl |>.iconst 15 (1 : Int32) d32_14 rfl rfl |>.istoreN 16 #[.val (.int (-(Int32.ofNat N))), .val (.int (0 : Int32)), .val (.int (-10 : Int32)), .val (.int (1 : Int32))] d32_15 rfl rfl |>.iloadN 17 d32_16 rfl rfl |>.bipush 19 (10 : Int32) d32_17 (by decide) rfl |>.icmpF 22 d32_19 (XT.ii_ge_f (by decide)) rfl
  replace G := G.iloadN 23 d32_22 rfl rfl |>.iloadN 24 d32_23 rfl rfl |>.icmpT 31 d32_24 (XT.ii_le_t (ng_ngt (K := -10) hN rfl (by omega))) (by decide) (by decide) |>.bipush 33 (10 : Int32) d32_31 (by decide) rfl |>.iloadN 34 d32_33 rfl rfl |>.imul 35 d32_34 rfl |>.top (y := (.int (-100 : Int32))) (by decide) |>.istoreN 36 #[.val (.int (-(Int32.ofNat N))), .val (.int (0 : Int32)), .val (.int (-100 : Int32)), .val (.int (1 : Int32))] d32_35 rfl rfl
  replace G := G.iincV 39 #[.val (.int (-(Int32.ofNat N))), .val (.int (0 : Int32)), .val (.int (-100 : Int32)), .val (.int (2 : Int32))] (2 : Int32) d32_36 rfl (by decide) rfl rfl |>.goto 16 d32_39 (by decide) (by decide) |>.iloadN 17 d32_16 rfl rfl |>.bipush 19 (10 : Int32) d32_17 (by decide) rfl |>.icmpF 22 d32_19 (XT.ii_ge_f (by decide)) rfl |>.iloadN 23 d32_22 rfl rfl |>.iloadN 24 d32_23 rfl rfl |>.icmpT 31 d32_24 (XT.ii_le_t (ng_ngt (K := -100) hN rfl (by omega))) (by decide) (by decide)
  replace G := G.bipush 33 (10 : Int32) d32_31 (by decide) rfl |>.iloadN 34 d32_33 rfl rfl |>.imul 35 d32_34 rfl |>.top (y := (.int (-1000 : Int32))) (by decide) |>.istoreN 36 #[.val (.int (-(Int32.ofNat N))), .val (.int (0 : Int32)), .val (.int (-1000 : Int32)), .val (.int (2 : Int32))] d32_35 rfl rfl |>.iincV 39 #[.val (.int (-(Int32.ofNat N))), .val (.int (0 : Int32)), .val (.int (-1000 : Int32)), .val (.int (3 : Int32))] (3 : Int32) d32_36 rfl (by decide) rfl rfl |>.goto 16 d32_39 (by decide) (by decide) |>.iloadN 17 d32_16 rfl rfl
  replace G := G.bipush 19 (10 : Int32) d32_17 (by decide) rfl |>.icmpF 22 d32_19 (XT.ii_ge_f (by decide)) rfl |>.iloadN 23 d32_22 rfl rfl |>.iloadN 24 d32_23 rfl rfl |>.icmpF 27 d32_24 (XT.ii_le_f (ng_gt (K := -1000) hN rfl (by omega))) rfl |>.iloadN 28 d32_27 rfl rfl |>.iloadN 29 d32_28 rfl rfl |>.iadd 30 d32_29 rfl
  replace G := G.top (y := (.int (3 : Int32))) (by decide)
  exact G.retI hret hlk d32_30 [] all0 ⟨_, rfl, rfl, rfl, rfl⟩ (nle rfl) (nle rfl)
theorem c_size4 (l : Launch) (Z : State) (a0 : Array Value) (hw : ∀ d ∈ tables_1, d.before a0 Z = true) (hEW : EW Z a0 consts_1) (n0 : Nat) (c1 : Int32) (hc1 : ¬ c1 = 0) (S1 : Sta Z Z.heap "java/lang/String" "COMPACT_STRINGS" "Z" (.int c1)) (N : Nat) {h0 : Heap} (o1 : Old Z n0 h0) (hlo : 1000 ≤ N) (hhi : N < 10000)  :
    Con Z a0 l (⟨"java/lang/Integer", "stringSize", "(I)I"⟩ : MethodName) jdk_33_method_13_code 4 (some .int) ({ frames := 0, cells := 0, slots := 0, locals := 0 } : Room) [] #[(.int (Int32.ofNat N))] consts_1 h0 n0 [] [] (VV fun w h so => w = .int (4 : Int32) ∧ h = h0 ∧ so = []) := by
  refine Con.body (plainFor_of_name pn_java_lang_Integer) hEW o1 all0 #[.val (.int (Int32.ofNat N)), .unset, .unset, .unset] (fun m => by first | (simp [entryFrame, mkF, argsToLocals, Value.category]; done) | rfl) ?_
  intro p e s m below meth c B hnm hret hlk G
  have hN : N < 2147483648 := by omega
  replace G := G.iconst 1 (1 : Int32) d32_0 rfl rfl |>.istoreN 2 #[.val (.int (Int32.ofNat N)), .val (.int (1 : Int32)), .unset, .unset] d32_1 rfl rfl |>.iloadN 3 d32_2 rfl rfl |>.ifF 6 d32_3 (XT.i0_lt_f (ofn_nn hN)) rfl |>.iconst 7 (0 : Int32) d32_6 rfl rfl |>.istoreN 8 #[.val (.int (Int32.ofNat N)), .val (.int (0 : Int32)), .unset, .unset] d32_7 rfl rfl |>.iloadN 9 d32_8 rfl rfl |>.ineg 10 d32_9 rfl
  replace G := G.istoreN 11 #[.val (.int (-(Int32.ofNat N))), .val (.int (0 : Int32)), .unset, .unset] d32_10 rfl rfl |>.bipush 13 (-10 : Int32) d32_11 (by decide) rfl |>.istoreN 14 #[.val (.int (-(Int32.ofNat N))), .val (.int (0 : Int32)), .val (.int (-10 : Int32)), .unset] d32_13 rfl rfl |>.iconst 15 (1 : Int32) d32_14 rfl rfl |>.istoreN 16 #[.val (.int (-(Int32.ofNat N))), .val (.int (0 : Int32)), .val (.int (-10 : Int32)), .val (.int (1 : Int32))] d32_15 rfl rfl |>.iloadN 17 d32_16 rfl rfl |>.bipush 19 (10 : Int32) d32_17 (by decide) rfl |>.icmpF 22 d32_19 (XT.ii_ge_f (by decide)) rfl
  replace G := G.iloadN 23 d32_22 rfl rfl |>.iloadN 24 d32_23 rfl rfl |>.icmpT 31 d32_24 (XT.ii_le_t (ng_ngt (K := -10) hN rfl (by omega))) (by decide) (by decide) |>.bipush 33 (10 : Int32) d32_31 (by decide) rfl |>.iloadN 34 d32_33 rfl rfl |>.imul 35 d32_34 rfl |>.top (y := (.int (-100 : Int32))) (by decide) |>.istoreN 36 #[.val (.int (-(Int32.ofNat N))), .val (.int (0 : Int32)), .val (.int (-100 : Int32)), .val (.int (1 : Int32))] d32_35 rfl rfl
  replace G := G.iincV 39 #[.val (.int (-(Int32.ofNat N))), .val (.int (0 : Int32)), .val (.int (-100 : Int32)), .val (.int (2 : Int32))] (2 : Int32) d32_36 rfl (by decide) rfl rfl |>.goto 16 d32_39 (by decide) (by decide) |>.iloadN 17 d32_16 rfl rfl |>.bipush 19 (10 : Int32) d32_17 (by decide) rfl |>.icmpF 22 d32_19 (XT.ii_ge_f (by decide)) rfl |>.iloadN 23 d32_22 rfl rfl |>.iloadN 24 d32_23 rfl rfl |>.icmpT 31 d32_24 (XT.ii_le_t (ng_ngt (K := -100) hN rfl (by omega))) (by decide) (by decide)
  replace G := G.bipush 33 (10 : Int32) d32_31 (by decide) rfl |>.iloadN 34 d32_33 rfl rfl |>.imul 35 d32_34 rfl |>.top (y := (.int (-1000 : Int32))) (by decide) |>.istoreN 36 #[.val (.int (-(Int32.ofNat N))), .val (.int (0 : Int32)), .val (.int (-1000 : Int32)), .val (.int (2 : Int32))] d32_35 rfl rfl |>.iincV 39 #[.val (.int (-(Int32.ofNat N))), .val (.int (0 : Int32)), .val (.int (-1000 : Int32)), .val (.int (3 : Int32))] (3 : Int32) d32_36 rfl (by decide) rfl rfl |>.goto 16 d32_39 (by decide) (by decide) |>.iloadN 17 d32_16 rfl rfl
  replace G := G.bipush 19 (10 : Int32) d32_17 (by decide) rfl |>.icmpF 22 d32_19 (XT.ii_ge_f (by decide)) rfl |>.iloadN 23 d32_22 rfl rfl |>.iloadN 24 d32_23 rfl rfl |>.icmpT 31 d32_24 (XT.ii_le_t (ng_ngt (K := -1000) hN rfl (by omega))) (by decide) (by decide) |>.bipush 33 (10 : Int32) d32_31 (by decide) rfl |>.iloadN 34 d32_33 rfl rfl |>.imul 35 d32_34 rfl
  replace G := G.top (y := (.int (-10000 : Int32))) (by decide) |>.istoreN 36 #[.val (.int (-(Int32.ofNat N))), .val (.int (0 : Int32)), .val (.int (-10000 : Int32)), .val (.int (3 : Int32))] d32_35 rfl rfl |>.iincV 39 #[.val (.int (-(Int32.ofNat N))), .val (.int (0 : Int32)), .val (.int (-10000 : Int32)), .val (.int (4 : Int32))] (4 : Int32) d32_36 rfl (by decide) rfl rfl |>.goto 16 d32_39 (by decide) (by decide) |>.iloadN 17 d32_16 rfl rfl |>.bipush 19 (10 : Int32) d32_17 (by decide) rfl |>.icmpF 22 d32_19 (XT.ii_ge_f (by decide)) rfl |>.iloadN 23 d32_22 rfl rfl
  replace G := G.iloadN 24 d32_23 rfl rfl |>.icmpF 27 d32_24 (XT.ii_le_f (ng_gt (K := -10000) hN rfl (by omega))) rfl |>.iloadN 28 d32_27 rfl rfl |>.iloadN 29 d32_28 rfl rfl |>.iadd 30 d32_29 rfl |>.top (y := (.int (4 : Int32))) (by decide)
  exact G.retI hret hlk d32_30 [] all0 ⟨_, rfl, rfl, rfl, rfl⟩ (nle rfl) (nle rfl)
theorem c_size5 (l : Launch) (Z : State) (a0 : Array Value) (hw : ∀ d ∈ tables_1, d.before a0 Z = true) (hEW : EW Z a0 consts_1) (n0 : Nat) (c1 : Int32) (hc1 : ¬ c1 = 0) (S1 : Sta Z Z.heap "java/lang/String" "COMPACT_STRINGS" "Z" (.int c1)) (N : Nat) {h0 : Heap} (o1 : Old Z n0 h0) (hlo : 10000 ≤ N) (hhi : N < 100000)  :
    Con Z a0 l (⟨"java/lang/Integer", "stringSize", "(I)I"⟩ : MethodName) jdk_33_method_13_code 4 (some .int) ({ frames := 0, cells := 0, slots := 0, locals := 0 } : Room) [] #[(.int (Int32.ofNat N))] consts_1 h0 n0 [] [] (VV fun w h so => w = .int (5 : Int32) ∧ h = h0 ∧ so = []) := by
  refine Con.body (plainFor_of_name pn_java_lang_Integer) hEW o1 all0 #[.val (.int (Int32.ofNat N)), .unset, .unset, .unset] (fun m => by first | (simp [entryFrame, mkF, argsToLocals, Value.category]; done) | rfl) ?_
  intro p e s m below meth c B hnm hret hlk G
  have hN : N < 2147483648 := by omega
  replace G := G.iconst 1 (1 : Int32) d32_0 rfl rfl |>.istoreN 2 #[.val (.int (Int32.ofNat N)), .val (.int (1 : Int32)), .unset, .unset] d32_1 rfl rfl |>.iloadN 3 d32_2 rfl rfl |>.ifF 6 d32_3 (XT.i0_lt_f (ofn_nn hN)) rfl |>.iconst 7 (0 : Int32) d32_6 rfl rfl |>.istoreN 8 #[.val (.int (Int32.ofNat N)), .val (.int (0 : Int32)), .unset, .unset] d32_7 rfl rfl |>.iloadN 9 d32_8 rfl rfl |>.ineg 10 d32_9 rfl
  replace G := G.istoreN 11 #[.val (.int (-(Int32.ofNat N))), .val (.int (0 : Int32)), .unset, .unset] d32_10 rfl rfl |>.bipush 13 (-10 : Int32) d32_11 (by decide) rfl |>.istoreN 14 #[.val (.int (-(Int32.ofNat N))), .val (.int (0 : Int32)), .val (.int (-10 : Int32)), .unset] d32_13 rfl rfl |>.iconst 15 (1 : Int32) d32_14 rfl rfl |>.istoreN 16 #[.val (.int (-(Int32.ofNat N))), .val (.int (0 : Int32)), .val (.int (-10 : Int32)), .val (.int (1 : Int32))] d32_15 rfl rfl |>.iloadN 17 d32_16 rfl rfl |>.bipush 19 (10 : Int32) d32_17 (by decide) rfl |>.icmpF 22 d32_19 (XT.ii_ge_f (by decide)) rfl
  replace G := G.iloadN 23 d32_22 rfl rfl |>.iloadN 24 d32_23 rfl rfl |>.icmpT 31 d32_24 (XT.ii_le_t (ng_ngt (K := -10) hN rfl (by omega))) (by decide) (by decide) |>.bipush 33 (10 : Int32) d32_31 (by decide) rfl |>.iloadN 34 d32_33 rfl rfl |>.imul 35 d32_34 rfl |>.top (y := (.int (-100 : Int32))) (by decide) |>.istoreN 36 #[.val (.int (-(Int32.ofNat N))), .val (.int (0 : Int32)), .val (.int (-100 : Int32)), .val (.int (1 : Int32))] d32_35 rfl rfl
  replace G := G.iincV 39 #[.val (.int (-(Int32.ofNat N))), .val (.int (0 : Int32)), .val (.int (-100 : Int32)), .val (.int (2 : Int32))] (2 : Int32) d32_36 rfl (by decide) rfl rfl |>.goto 16 d32_39 (by decide) (by decide) |>.iloadN 17 d32_16 rfl rfl |>.bipush 19 (10 : Int32) d32_17 (by decide) rfl |>.icmpF 22 d32_19 (XT.ii_ge_f (by decide)) rfl |>.iloadN 23 d32_22 rfl rfl |>.iloadN 24 d32_23 rfl rfl |>.icmpT 31 d32_24 (XT.ii_le_t (ng_ngt (K := -100) hN rfl (by omega))) (by decide) (by decide)
  replace G := G.bipush 33 (10 : Int32) d32_31 (by decide) rfl |>.iloadN 34 d32_33 rfl rfl |>.imul 35 d32_34 rfl |>.top (y := (.int (-1000 : Int32))) (by decide) |>.istoreN 36 #[.val (.int (-(Int32.ofNat N))), .val (.int (0 : Int32)), .val (.int (-1000 : Int32)), .val (.int (2 : Int32))] d32_35 rfl rfl |>.iincV 39 #[.val (.int (-(Int32.ofNat N))), .val (.int (0 : Int32)), .val (.int (-1000 : Int32)), .val (.int (3 : Int32))] (3 : Int32) d32_36 rfl (by decide) rfl rfl |>.goto 16 d32_39 (by decide) (by decide) |>.iloadN 17 d32_16 rfl rfl
  replace G := G.bipush 19 (10 : Int32) d32_17 (by decide) rfl |>.icmpF 22 d32_19 (XT.ii_ge_f (by decide)) rfl |>.iloadN 23 d32_22 rfl rfl |>.iloadN 24 d32_23 rfl rfl |>.icmpT 31 d32_24 (XT.ii_le_t (ng_ngt (K := -1000) hN rfl (by omega))) (by decide) (by decide) |>.bipush 33 (10 : Int32) d32_31 (by decide) rfl |>.iloadN 34 d32_33 rfl rfl |>.imul 35 d32_34 rfl
  replace G := G.top (y := (.int (-10000 : Int32))) (by decide) |>.istoreN 36 #[.val (.int (-(Int32.ofNat N))), .val (.int (0 : Int32)), .val (.int (-10000 : Int32)), .val (.int (3 : Int32))] d32_35 rfl rfl |>.iincV 39 #[.val (.int (-(Int32.ofNat N))), .val (.int (0 : Int32)), .val (.int (-10000 : Int32)), .val (.int (4 : Int32))] (4 : Int32) d32_36 rfl (by decide) rfl rfl |>.goto 16 d32_39 (by decide) (by decide) |>.iloadN 17 d32_16 rfl rfl |>.bipush 19 (10 : Int32) d32_17 (by decide) rfl |>.icmpF 22 d32_19 (XT.ii_ge_f (by decide)) rfl |>.iloadN 23 d32_22 rfl rfl
  replace G := G.iloadN 24 d32_23 rfl rfl |>.icmpT 31 d32_24 (XT.ii_le_t (ng_ngt (K := -10000) hN rfl (by omega))) (by decide) (by decide) |>.bipush 33 (10 : Int32) d32_31 (by decide) rfl |>.iloadN 34 d32_33 rfl rfl |>.imul 35 d32_34 rfl |>.top (y := (.int (-100000 : Int32))) (by decide) |>.istoreN 36 #[.val (.int (-(Int32.ofNat N))), .val (.int (0 : Int32)), .val (.int (-100000 : Int32)), .val (.int (4 : Int32))] d32_35 rfl rfl |>.iincV 39 #[.val (.int (-(Int32.ofNat N))), .val (.int (0 : Int32)), .val (.int (-100000 : Int32)), .val (.int (5 : Int32))] (5 : Int32) d32_36 rfl (by decide) rfl rfl
  replace G := G.goto 16 d32_39 (by decide) (by decide) |>.iloadN 17 d32_16 rfl rfl |>.bipush 19 (10 : Int32) d32_17 (by decide) rfl |>.icmpF 22 d32_19 (XT.ii_ge_f (by decide)) rfl |>.iloadN 23 d32_22 rfl rfl |>.iloadN 24 d32_23 rfl rfl |>.icmpF 27 d32_24 (XT.ii_le_f (ng_gt (K := -100000) hN rfl (by omega))) rfl |>.iloadN 28 d32_27 rfl rfl
  replace G := G.iloadN 29 d32_28 rfl rfl |>.iadd 30 d32_29 rfl |>.top (y := (.int (5 : Int32))) (by decide)
  exact G.retI hret hlk d32_30 [] all0 ⟨_, rfl, rfl, rfl, rfl⟩ (nle rfl) (nle rfl)
theorem c_size6 (l : Launch) (Z : State) (a0 : Array Value) (hw : ∀ d ∈ tables_1, d.before a0 Z = true) (hEW : EW Z a0 consts_1) (n0 : Nat) (c1 : Int32) (hc1 : ¬ c1 = 0) (S1 : Sta Z Z.heap "java/lang/String" "COMPACT_STRINGS" "Z" (.int c1)) (N : Nat) {h0 : Heap} (o1 : Old Z n0 h0) (hlo : 100000 ≤ N) (hhi : N < 1000000)  :
    Con Z a0 l (⟨"java/lang/Integer", "stringSize", "(I)I"⟩ : MethodName) jdk_33_method_13_code 4 (some .int) ({ frames := 0, cells := 0, slots := 0, locals := 0 } : Room) [] #[(.int (Int32.ofNat N))] consts_1 h0 n0 [] [] (VV fun w h so => w = .int (6 : Int32) ∧ h = h0 ∧ so = []) := by
  refine Con.body (plainFor_of_name pn_java_lang_Integer) hEW o1 all0 #[.val (.int (Int32.ofNat N)), .unset, .unset, .unset] (fun m => by first | (simp [entryFrame, mkF, argsToLocals, Value.category]; done) | rfl) ?_
  intro p e s m below meth c B hnm hret hlk G
  have hN : N < 2147483648 := by omega
  replace G := G.iconst 1 (1 : Int32) d32_0 rfl rfl |>.istoreN 2 #[.val (.int (Int32.ofNat N)), .val (.int (1 : Int32)), .unset, .unset] d32_1 rfl rfl |>.iloadN 3 d32_2 rfl rfl |>.ifF 6 d32_3 (XT.i0_lt_f (ofn_nn hN)) rfl |>.iconst 7 (0 : Int32) d32_6 rfl rfl |>.istoreN 8 #[.val (.int (Int32.ofNat N)), .val (.int (0 : Int32)), .unset, .unset] d32_7 rfl rfl |>.iloadN 9 d32_8 rfl rfl |>.ineg 10 d32_9 rfl
  replace G := G.istoreN 11 #[.val (.int (-(Int32.ofNat N))), .val (.int (0 : Int32)), .unset, .unset] d32_10 rfl rfl |>.bipush 13 (-10 : Int32) d32_11 (by decide) rfl |>.istoreN 14 #[.val (.int (-(Int32.ofNat N))), .val (.int (0 : Int32)), .val (.int (-10 : Int32)), .unset] d32_13 rfl rfl |>.iconst 15 (1 : Int32) d32_14 rfl rfl |>.istoreN 16 #[.val (.int (-(Int32.ofNat N))), .val (.int (0 : Int32)), .val (.int (-10 : Int32)), .val (.int (1 : Int32))] d32_15 rfl rfl |>.iloadN 17 d32_16 rfl rfl |>.bipush 19 (10 : Int32) d32_17 (by decide) rfl |>.icmpF 22 d32_19 (XT.ii_ge_f (by decide)) rfl
  replace G := G.iloadN 23 d32_22 rfl rfl |>.iloadN 24 d32_23 rfl rfl |>.icmpT 31 d32_24 (XT.ii_le_t (ng_ngt (K := -10) hN rfl (by omega))) (by decide) (by decide) |>.bipush 33 (10 : Int32) d32_31 (by decide) rfl |>.iloadN 34 d32_33 rfl rfl |>.imul 35 d32_34 rfl |>.top (y := (.int (-100 : Int32))) (by decide) |>.istoreN 36 #[.val (.int (-(Int32.ofNat N))), .val (.int (0 : Int32)), .val (.int (-100 : Int32)), .val (.int (1 : Int32))] d32_35 rfl rfl
  replace G := G.iincV 39 #[.val (.int (-(Int32.ofNat N))), .val (.int (0 : Int32)), .val (.int (-100 : Int32)), .val (.int (2 : Int32))] (2 : Int32) d32_36 rfl (by decide) rfl rfl |>.goto 16 d32_39 (by decide) (by decide) |>.iloadN 17 d32_16 rfl rfl |>.bipush 19 (10 : Int32) d32_17 (by decide) rfl |>.icmpF 22 d32_19 (XT.ii_ge_f (by decide)) rfl |>.iloadN 23 d32_22 rfl rfl |>.iloadN 24 d32_23 rfl rfl |>.icmpT 31 d32_24 (XT.ii_le_t (ng_ngt (K := -100) hN rfl (by omega))) (by decide) (by decide)
  replace G := G.bipush 33 (10 : Int32) d32_31 (by decide) rfl |>.iloadN 34 d32_33 rfl rfl |>.imul 35 d32_34 rfl |>.top (y := (.int (-1000 : Int32))) (by decide) |>.istoreN 36 #[.val (.int (-(Int32.ofNat N))), .val (.int (0 : Int32)), .val (.int (-1000 : Int32)), .val (.int (2 : Int32))] d32_35 rfl rfl |>.iincV 39 #[.val (.int (-(Int32.ofNat N))), .val (.int (0 : Int32)), .val (.int (-1000 : Int32)), .val (.int (3 : Int32))] (3 : Int32) d32_36 rfl (by decide) rfl rfl |>.goto 16 d32_39 (by decide) (by decide) |>.iloadN 17 d32_16 rfl rfl
  replace G := G.bipush 19 (10 : Int32) d32_17 (by decide) rfl |>.icmpF 22 d32_19 (XT.ii_ge_f (by decide)) rfl |>.iloadN 23 d32_22 rfl rfl |>.iloadN 24 d32_23 rfl rfl |>.icmpT 31 d32_24 (XT.ii_le_t (ng_ngt (K := -1000) hN rfl (by omega))) (by decide) (by decide) |>.bipush 33 (10 : Int32) d32_31 (by decide) rfl |>.iloadN 34 d32_33 rfl rfl |>.imul 35 d32_34 rfl
  replace G := G.top (y := (.int (-10000 : Int32))) (by decide) |>.istoreN 36 #[.val (.int (-(Int32.ofNat N))), .val (.int (0 : Int32)), .val (.int (-10000 : Int32)), .val (.int (3 : Int32))] d32_35 rfl rfl |>.iincV 39 #[.val (.int (-(Int32.ofNat N))), .val (.int (0 : Int32)), .val (.int (-10000 : Int32)), .val (.int (4 : Int32))] (4 : Int32) d32_36 rfl (by decide) rfl rfl |>.goto 16 d32_39 (by decide) (by decide) |>.iloadN 17 d32_16 rfl rfl |>.bipush 19 (10 : Int32) d32_17 (by decide) rfl |>.icmpF 22 d32_19 (XT.ii_ge_f (by decide)) rfl |>.iloadN 23 d32_22 rfl rfl
  replace G := G.iloadN 24 d32_23 rfl rfl |>.icmpT 31 d32_24 (XT.ii_le_t (ng_ngt (K := -10000) hN rfl (by omega))) (by decide) (by decide) |>.bipush 33 (10 : Int32) d32_31 (by decide) rfl |>.iloadN 34 d32_33 rfl rfl |>.imul 35 d32_34 rfl |>.top (y := (.int (-100000 : Int32))) (by decide) |>.istoreN 36 #[.val (.int (-(Int32.ofNat N))), .val (.int (0 : Int32)), .val (.int (-100000 : Int32)), .val (.int (4 : Int32))] d32_35 rfl rfl |>.iincV 39 #[.val (.int (-(Int32.ofNat N))), .val (.int (0 : Int32)), .val (.int (-100000 : Int32)), .val (.int (5 : Int32))] (5 : Int32) d32_36 rfl (by decide) rfl rfl
  replace G := G.goto 16 d32_39 (by decide) (by decide) |>.iloadN 17 d32_16 rfl rfl |>.bipush 19 (10 : Int32) d32_17 (by decide) rfl |>.icmpF 22 d32_19 (XT.ii_ge_f (by decide)) rfl |>.iloadN 23 d32_22 rfl rfl |>.iloadN 24 d32_23 rfl rfl |>.icmpT 31 d32_24 (XT.ii_le_t (ng_ngt (K := -100000) hN rfl (by omega))) (by decide) (by decide) |>.bipush 33 (10 : Int32) d32_31 (by decide) rfl
  replace G := G.iloadN 34 d32_33 rfl rfl |>.imul 35 d32_34 rfl |>.top (y := (.int (-1000000 : Int32))) (by decide) |>.istoreN 36 #[.val (.int (-(Int32.ofNat N))), .val (.int (0 : Int32)), .val (.int (-1000000 : Int32)), .val (.int (5 : Int32))] d32_35 rfl rfl |>.iincV 39 #[.val (.int (-(Int32.ofNat N))), .val (.int (0 : Int32)), .val (.int (-1000000 : Int32)), .val (.int (6 : Int32))] (6 : Int32) d32_36 rfl (by decide) rfl rfl |>.goto 16 d32_39 (by decide) (by decide) |>.iloadN 17 d32_16 rfl rfl |>.bipush 19 (10 : Int32) d32_17 (by decide) rfl
  replace G := G.icmpF 22 d32_19 (XT.ii_ge_f (by decide)) rfl |>.iloadN 23 d32_22 rfl rfl |>.iloadN 24 d32_23 rfl rfl |>.icmpF 27 d32_24 (XT.ii_le_f (ng_gt (K := -1000000) hN rfl (by omega))) rfl |>.iloadN 28 d32_27 rfl rfl |>.iloadN 29 d32_28 rfl rfl |>.iadd 30 d32_29 rfl |>.top (y := (.int (6 : Int32))) (by decide)
  exact G.retI hret hlk d32_30 [] all0 ⟨_, rfl, rfl, rfl, rfl⟩ (nle rfl) (nle rfl)
theorem c_size7 (l : Launch) (Z : State) (a0 : Array Value) (hw : ∀ d ∈ tables_1, d.before a0 Z = true) (hEW : EW Z a0 consts_1) (n0 : Nat) (c1 : Int32) (hc1 : ¬ c1 = 0) (S1 : Sta Z Z.heap "java/lang/String" "COMPACT_STRINGS" "Z" (.int c1)) (N : Nat) {h0 : Heap} (o1 : Old Z n0 h0) (hlo : 1000000 ≤ N) (hhi : N < 10000000)  :
    Con Z a0 l (⟨"java/lang/Integer", "stringSize", "(I)I"⟩ : MethodName) jdk_33_method_13_code 4 (some .int) ({ frames := 0, cells := 0, slots := 0, locals := 0 } : Room) [] #[(.int (Int32.ofNat N))] consts_1 h0 n0 [] [] (VV fun w h so => w = .int (7 : Int32) ∧ h = h0 ∧ so = []) := by
  refine Con.body (plainFor_of_name pn_java_lang_Integer) hEW o1 all0 #[.val (.int (Int32.ofNat N)), .unset, .unset, .unset] (fun m => by first | (simp [entryFrame, mkF, argsToLocals, Value.category]; done) | rfl) ?_
  intro p e s m below meth c B hnm hret hlk G
  have hN : N < 2147483648 := by omega
  replace G := G.iconst 1 (1 : Int32) d32_0 rfl rfl |>.istoreN 2 #[.val (.int (Int32.ofNat N)), .val (.int (1 : Int32)), .unset, .unset] d32_1 rfl rfl |>.iloadN 3 d32_2 rfl rfl |>.ifF 6 d32_3 (XT.i0_lt_f (ofn_nn hN)) rfl |>.iconst 7 (0 : Int32) d32_6 rfl rfl |>.istoreN 8 #[.val (.int (Int32.ofNat N)), .val (.int (0 : Int32)), .unset, .unset] d32_7 rfl rfl |>.iloadN 9 d32_8 rfl rfl |>.ineg 10 d32_9 rfl
  replace G := G.istoreN 11 #[.val (.int (-(Int32.ofNat N))), .val (.int (0 : Int32)), .unset, .unset] d32_10 rfl rfl |>.bipush 13 (-10 : Int32) d32_11 (by decide) rfl |>.istoreN 14 #[.val (.int (-(Int32.ofNat N))), .val (.int (0 : Int32)), .val (.int (-10 : Int32)), .unset] d32_13 rfl rfl |>.iconst 15 (1 : Int32) d32_14 rfl rfl |>.istoreN 16 #[.val (.int (-(Int32.ofNat N))), .val (.int (0 : Int32)), .val (.int (-10 : Int32)), .val (.int (1 : Int32))] d32_15 rfl rfl |>.iloadN 17 d32_16 rfl rfl |>.bipush 19 (10 : Int32) d32_17 (by decide) rfl |>.icmpF 22 d32_19 (XT.ii_ge_f (by decide)) rfl
  replace G := G.iloadN 23 d32_22 rfl rfl |>.iloadN 24 d32_23 rfl rfl |>.icmpT 31 d32_24 (XT.ii_le_t (ng_ngt (K := -10) hN rfl (by omega))) (by decide) (by decide) |>.bipush 33 (10 : Int32) d32_31 (by decide) rfl |>.iloadN 34 d32_33 rfl rfl |>.imul 35 d32_34 rfl |>.top (y := (.int (-100 : Int32))) (by decide) |>.istoreN 36 #[.val (.int (-(Int32.ofNat N))), .val (.int (0 : Int32)), .val (.int (-100 : Int32)), .val (.int (1 : Int32))] d32_35 rfl rfl
  replace G := G.iincV 39 #[.val (.int (-(Int32.ofNat N))), .val (.int (0 : Int32)), .val (.int (-100 : Int32)), .val (.int (2 : Int32))] (2 : Int32) d32_36 rfl (by decide) rfl rfl |>.goto 16 d32_39 (by decide) (by decide) |>.iloadN 17 d32_16 rfl rfl |>.bipush 19 (10 : Int32) d32_17 (by decide) rfl |>.icmpF 22 d32_19 (XT.ii_ge_f (by decide)) rfl |>.iloadN 23 d32_22 rfl rfl |>.iloadN 24 d32_23 rfl rfl |>.icmpT 31 d32_24 (XT.ii_le_t (ng_ngt (K := -100) hN rfl (by omega))) (by decide) (by decide)
  replace G := G.bipush 33 (10 : Int32) d32_31 (by decide) rfl |>.iloadN 34 d32_33 rfl rfl |>.imul 35 d32_34 rfl |>.top (y := (.int (-1000 : Int32))) (by decide) |>.istoreN 36 #[.val (.int (-(Int32.ofNat N))), .val (.int (0 : Int32)), .val (.int (-1000 : Int32)), .val (.int (2 : Int32))] d32_35 rfl rfl |>.iincV 39 #[.val (.int (-(Int32.ofNat N))), .val (.int (0 : Int32)), .val (.int (-1000 : Int32)), .val (.int (3 : Int32))] (3 : Int32) d32_36 rfl (by decide) rfl rfl |>.goto 16 d32_39 (by decide) (by decide) |>.iloadN 17 d32_16 rfl rfl
  replace G := G.bipush 19 (10 : Int32) d32_17 (by decide) rfl |>.icmpF 22 d32_19 (XT.ii_ge_f (by decide)) rfl |>.iloadN 23 d32_22 rfl rfl |>.iloadN 24 d32_23 rfl rfl |>.icmpT 31 d32_24 (XT.ii_le_t (ng_ngt (K := -1000) hN rfl (by omega))) (by decide) (by decide) |>.bipush 33 (10 : Int32) d32_31 (by decide) rfl |>.iloadN 34 d32_33 rfl rfl |>.imul 35 d32_34 rfl
  replace G := G.top (y := (.int (-10000 : Int32))) (by decide) |>.istoreN 36 #[.val (.int (-(Int32.ofNat N))), .val (.int (0 : Int32)), .val (.int (-10000 : Int32)), .val (.int (3 : Int32))] d32_35 rfl rfl |>.iincV 39 #[.val (.int (-(Int32.ofNat N))), .val (.int (0 : Int32)), .val (.int (-10000 : Int32)), .val (.int (4 : Int32))] (4 : Int32) d32_36 rfl (by decide) rfl rfl |>.goto 16 d32_39 (by decide) (by decide) |>.iloadN 17 d32_16 rfl rfl |>.bipush 19 (10 : Int32) d32_17 (by decide) rfl |>.icmpF 22 d32_19 (XT.ii_ge_f (by decide)) rfl |>.iloadN 23 d32_22 rfl rfl
  replace G := G.iloadN 24 d32_23 rfl rfl |>.icmpT 31 d32_24 (XT.ii_le_t (ng_ngt (K := -10000) hN rfl (by omega))) (by decide) (by decide) |>.bipush 33 (10 : Int32) d32_31 (by decide) rfl |>.iloadN 34 d32_33 rfl rfl |>.imul 35 d32_34 rfl |>.top (y := (.int (-100000 : Int32))) (by decide) |>.istoreN 36 #[.val (.int (-(Int32.ofNat N))), .val (.int (0 : Int32)), .val (.int (-100000 : Int32)), .val (.int (4 : Int32))] d32_35 rfl rfl |>.iincV 39 #[.val (.int (-(Int32.ofNat N))), .val (.int (0 : Int32)), .val (.int (-100000 : Int32)), .val (.int (5 : Int32))] (5 : Int32) d32_36 rfl (by decide) rfl rfl
  replace G := G.goto 16 d32_39 (by decide) (by decide) |>.iloadN 17 d32_16 rfl rfl |>.bipush 19 (10 : Int32) d32_17 (by decide) rfl |>.icmpF 22 d32_19 (XT.ii_ge_f (by decide)) rfl |>.iloadN 23 d32_22 rfl rfl |>.iloadN 24 d32_23 rfl rfl |>.icmpT 31 d32_24 (XT.ii_le_t (ng_ngt (K := -100000) hN rfl (by omega))) (by decide) (by decide) |>.bipush 33 (10 : Int32) d32_31 (by decide) rfl
  replace G := G.iloadN 34 d32_33 rfl rfl |>.imul 35 d32_34 rfl |>.top (y := (.int (-1000000 : Int32))) (by decide) |>.istoreN 36 #[.val (.int (-(Int32.ofNat N))), .val (.int (0 : Int32)), .val (.int (-1000000 : Int32)), .val (.int (5 : Int32))] d32_35 rfl rfl |>.iincV 39 #[.val (.int (-(Int32.ofNat N))), .val (.int (0 : Int32)), .val (.int (-1000000 : Int32)), .val (.int (6 : Int32))] (6 : Int32) d32_36 rfl (by decide) rfl rfl |>.goto 16 d32_39 (by decide) (by decide) |>.iloadN 17 d32_16 rfl rfl |>.bipush 19 (10 : Int32) d32_17 (by decide) rfl
  replace G := G.icmpF 22 d32_19 (XT.ii_ge_f (by decide)) rfl |>.iloadN 23 d32_22 rfl rfl |>.iloadN 24 d32_23 rfl rfl |>.icmpT 31 d32_24 (XT.ii_le_t (ng_ngt (K := -1000000) hN rfl (by omega))) (by decide) (by decide) |>.bipush 33 (10 : Int32) d32_31 (by decide) rfl |>.iloadN 34 d32_33 rfl rfl |>.imul 35 d32_34 rfl |>.top (y := (.int (-10000000 : Int32))) (by decide)
  replace G := G.istoreN 36 #[.val (.int (-(Int32.ofNat N))), .val (.int (0 : Int32)), .val (.int (-10000000 : Int32)), .val (.int (6 : Int32))] d32_35 rfl rfl |>.iincV 39 #[.val (.int (-(Int32.ofNat N))), .val (.int (0 : Int32)), .val (.int (-10000000 : Int32)), .val (.int (7 : Int32))] (7 : Int32) d32_36 rfl (by decide) rfl rfl |>.goto 16 d32_39 (by decide) (by decide) |>.iloadN 17 d32_16 rfl rfl |>.bipush 19 (10 : Int32) d32_17 (by decide) rfl |>.icmpF 22 d32_19 (XT.ii_ge_f (by decide)) rfl |>.iloadN 23 d32_22 rfl rfl |>.iloadN 24 d32_23 rfl rfl
  replace G := G.icmpF 27 d32_24 (XT.ii_le_f (ng_gt (K := -10000000) hN rfl (by omega))) rfl |>.iloadN 28 d32_27 rfl rfl |>.iloadN 29 d32_28 rfl rfl |>.iadd 30 d32_29 rfl |>.top (y := (.int (7 : Int32))) (by decide)
  exact G.retI hret hlk d32_30 [] all0 ⟨_, rfl, rfl, rfl, rfl⟩ (nle rfl) (nle rfl)
theorem c_size8 (l : Launch) (Z : State) (a0 : Array Value) (hw : ∀ d ∈ tables_1, d.before a0 Z = true) (hEW : EW Z a0 consts_1) (n0 : Nat) (c1 : Int32) (hc1 : ¬ c1 = 0) (S1 : Sta Z Z.heap "java/lang/String" "COMPACT_STRINGS" "Z" (.int c1)) (N : Nat) {h0 : Heap} (o1 : Old Z n0 h0) (hlo : 10000000 ≤ N) (hhi : N < 100000000)  :
    Con Z a0 l (⟨"java/lang/Integer", "stringSize", "(I)I"⟩ : MethodName) jdk_33_method_13_code 4 (some .int) ({ frames := 0, cells := 0, slots := 0, locals := 0 } : Room) [] #[(.int (Int32.ofNat N))] consts_1 h0 n0 [] [] (VV fun w h so => w = .int (8 : Int32) ∧ h = h0 ∧ so = []) := by
  refine Con.body (plainFor_of_name pn_java_lang_Integer) hEW o1 all0 #[.val (.int (Int32.ofNat N)), .unset, .unset, .unset] (fun m => by first | (simp [entryFrame, mkF, argsToLocals, Value.category]; done) | rfl) ?_
  intro p e s m below meth c B hnm hret hlk G
  have hN : N < 2147483648 := by omega
  replace G := G.iconst 1 (1 : Int32) d32_0 rfl rfl |>.istoreN 2 #[.val (.int (Int32.ofNat N)), .val (.int (1 : Int32)), .unset, .unset] d32_1 rfl rfl |>.iloadN 3 d32_2 rfl rfl |>.ifF 6 d32_3 (XT.i0_lt_f (ofn_nn hN)) rfl |>.iconst 7 (0 : Int32) d32_6 rfl rfl |>.istoreN 8 #[.val (.int (Int32.ofNat N)), .val (.int (0 : Int32)), .unset, .unset] d32_7 rfl rfl |>.iloadN 9 d32_8 rfl rfl |>.ineg 10 d32_9 rfl
  replace G := G.istoreN 11 #[.val (.int (-(Int32.ofNat N))), .val (.int (0 : Int32)), .unset, .unset] d32_10 rfl rfl |>.bipush 13 (-10 : Int32) d32_11 (by decide) rfl |>.istoreN 14 #[.val (.int (-(Int32.ofNat N))), .val (.int (0 : Int32)), .val (.int (-10 : Int32)), .unset] d32_13 rfl rfl |>.iconst 15 (1 : Int32) d32_14 rfl rfl |>.istoreN 16 #[.val (.int (-(Int32.ofNat N))), .val (.int (0 : Int32)), .val (.int (-10 : Int32)), .val (.int (1 : Int32))] d32_15 rfl rfl |>.iloadN 17 d32_16 rfl rfl |>.bipush 19 (10 : Int32) d32_17 (by decide) rfl |>.icmpF 22 d32_19 (XT.ii_ge_f (by decide)) rfl
  replace G := G.iloadN 23 d32_22 rfl rfl |>.iloadN 24 d32_23 rfl rfl |>.icmpT 31 d32_24 (XT.ii_le_t (ng_ngt (K := -10) hN rfl (by omega))) (by decide) (by decide) |>.bipush 33 (10 : Int32) d32_31 (by decide) rfl |>.iloadN 34 d32_33 rfl rfl |>.imul 35 d32_34 rfl |>.top (y := (.int (-100 : Int32))) (by decide) |>.istoreN 36 #[.val (.int (-(Int32.ofNat N))), .val (.int (0 : Int32)), .val (.int (-100 : Int32)), .val (.int (1 : Int32))] d32_35 rfl rfl
  replace G := G.iincV 39 #[.val (.int (-(Int32.ofNat N))), .val (.int (0 : Int32)), .val (.int (-100 : Int32)), .val (.int (2 : Int32))] (2 : Int32) d32_36 rfl (by decide) rfl rfl |>.goto 16 d32_39 (by decide) (by decide) |>.iloadN 17 d32_16 rfl rfl |>.bipush 19 (10 : Int32) d32_17 (by decide) rfl |>.icmpF 22 d32_19 (XT.ii_ge_f (by decide)) rfl |>.iloadN 23 d32_22 rfl rfl |>.iloadN 24 d32_23 rfl rfl |>.icmpT 31 d32_24 (XT.ii_le_t (ng_ngt (K := -100) hN rfl (by omega))) (by decide) (by decide)
  replace G := G.bipush 33 (10 : Int32) d32_31 (by decide) rfl |>.iloadN 34 d32_33 rfl rfl |>.imul 35 d32_34 rfl |>.top (y := (.int (-1000 : Int32))) (by decide) |>.istoreN 36 #[.val (.int (-(Int32.ofNat N))), .val (.int (0 : Int32)), .val (.int (-1000 : Int32)), .val (.int (2 : Int32))] d32_35 rfl rfl |>.iincV 39 #[.val (.int (-(Int32.ofNat N))), .val (.int (0 : Int32)), .val (.int (-1000 : Int32)), .val (.int (3 : Int32))] (3 : Int32) d32_36 rfl (by decide) rfl rfl |>.goto 16 d32_39 (by decide) (by decide) |>.iloadN 17 d32_16 rfl rfl
  replace G := G.bipush 19 (10 : Int32) d32_17 (by decide) rfl |>.icmpF 22 d32_19 (XT.ii_ge_f (by decide)) rfl |>.iloadN 23 d32_22 rfl rfl |>.iloadN 24 d32_23 rfl rfl |>.icmpT 31 d32_24 (XT.ii_le_t (ng_ngt (K := -1000) hN rfl (by omega))) (by decide) (by decide) |>.bipush 33 (10 : Int32) d32_31 (by decide) rfl |>.iloadN 34 d32_33 rfl rfl |>.imul 35 d32_34 rfl
  replace G := G.top (y := (.int (-10000 : Int32))) (by decide) |>.istoreN 36 #[.val (.int (-(Int32.ofNat N))), .val (.int (0 : Int32)), .val (.int (-10000 : Int32)), .val (.int (3 : Int32))] d32_35 rfl rfl |>.iincV 39 #[.val (.int (-(Int32.ofNat N))), .val (.int (0 : Int32)), .val (.int (-10000 : Int32)), .val (.int (4 : Int32))] (4 : Int32) d32_36 rfl (by decide) rfl rfl |>.goto 16 d32_39 (by decide) (by decide) |>.iloadN 17 d32_16 rfl rfl |>.bipush 19 (10 : Int32) d32_17 (by decide) rfl |>.icmpF 22 d32_19 (XT.ii_ge_f (by decide)) rfl |>.iloadN 23 d32_22 rfl rfl
  replace G := G.iloadN 24 d32_23 rfl rfl |>.icmpT 31 d32_24 (XT.ii_le_t (ng_ngt (K := -10000) hN rfl (by omega))) (by decide) (by decide) |>.bipush 33 (10 : Int32) d32_31 (by decide) rfl |>.iloadN 34 d32_33 rfl rfl |>.imul 35 d32_34 rfl |>.top (y := (.int (-100000 : Int32))) (by decide) |>.istoreN 36 #[.val (.int (-(Int32.ofNat N))), .val (.int (0 : Int32)), .val (.int (-100000 : Int32)), .val (.int (4 : Int32))] d32_35 rfl rfl |>.iincV 39 #[.val (.int (-(Int32.ofNat N))), .val (.int (0 : Int32)), .val (.int (-100000 : Int32)), .val (.int (5 : Int32))] (5 : Int32) d32_36 rfl (by decide) rfl rfl
  replace G := G.goto 16 d32_39 (by decide) (by decide) |>.iloadN 17 d32_16 rfl rfl |>.bipush 19 (10 : Int32) d32_17 (by decide) rfl |>.icmpF 22 d32_19 (XT.ii_ge_f (by decide)) rfl |>.iloadN 23 d32_22 rfl rfl |>.iloadN 24 d32_23 rfl rfl |>.icmpT 31 d32_24 (XT.ii_le_t (ng_ngt (K := -100000) hN rfl (by omega))) (by decide) (by decide) |>.bipush 33 (10 : Int32) d32_31 (by decide) rfl
  replace G := G.iloadN 34 d32_33 rfl rfl |>.imul 35 d32_34 rfl |>.top (y := (.int (-1000000 : Int32))) (by decide) |>.istoreN 36 #[.val (.int (-(Int32.ofNat N))), .val (.int (0 : Int32)), .val (.int (-1000000 : Int32)), .val (.int (5 : Int32))] d32_35 rfl rfl |>.iincV 39 #[.val (.int (-(Int32.ofNat N))), .val (.int (0 : Int32)), .val (.int (-1000000 : Int32)), .val (.int (6 : Int32))] (6 : Int32) d32_36 rfl (by decide) rfl rfl |>.goto 16 d32_39 (by decide) (by decide) |>.iloadN 17 d32_16 rfl rfl |>.bipush 19 (10 : Int32) d32_17 (by decide) rfl
  replace G := G.icmpF 22 d32_19 (XT.ii_ge_f (by decide)) rfl |>.iloadN 23 d32_22 rfl rfl |>.iloadN 24 d32_23 rfl rfl |>.icmpT 31 d32_24 (XT.ii_le_t (ng_ngt (K := -1000000) hN rfl (by omega))) (by decide) (by decide) |>.bipush 33 (10 : Int32) d32_31 (by decide) rfl |>.iloadN 34 d32_33 rfl rfl |>.imul 35 d32_34 rfl |>.top (y := (.int (-10000000 : Int32))) (by decide)
  replace G := G.istoreN 36 #[.val (.int (-(Int32.ofNat N))), .val (.int (0 : Int32)), .val (.int (-10000000 : Int32)), .val (.int (6 : Int32))] d32_35 rfl rfl |>.iincV 39 #[.val (.int (-(Int32.ofNat N))), .val (.int (0 : Int32)), .val (.int (-10000000 : Int32)), .val (.int (7 : Int32))] (7 : Int32) d32_36 rfl (by decide) rfl rfl |>.goto 16 d32_39 (by decide) (by decide) |>.iloadN 17 d32_16 rfl rfl |>.bipush 19 (10 : Int32) d32_17 (by decide) rfl |>.icmpF 22 d32_19 (XT.ii_ge_f (by decide)) rfl |>.iloadN 23 d32_22 rfl rfl |>.iloadN 24 d32_23 rfl rfl
  replace G := G.icmpT 31 d32_24 (XT.ii_le_t (ng_ngt (K := -10000000) hN rfl (by omega))) (by decide) (by decide) |>.bipush 33 (10 : Int32) d32_31 (by decide) rfl |>.iloadN 34 d32_33 rfl rfl |>.imul 35 d32_34 rfl |>.top (y := (.int (-100000000 : Int32))) (by decide) |>.istoreN 36 #[.val (.int (-(Int32.ofNat N))), .val (.int (0 : Int32)), .val (.int (-100000000 : Int32)), .val (.int (7 : Int32))] d32_35 rfl rfl |>.iincV 39 #[.val (.int (-(Int32.ofNat N))), .val (.int (0 : Int32)), .val (.int (-100000000 : Int32)), .val (.int (8 : Int32))] (8 : Int32) d32_36 rfl (by decide) rfl rfl |>.goto 16 d32_39 (by decide) (by decide)
  replace G := G.iloadN 17 d32_16 rfl rfl |>.bipush 19 (10 : Int32) d32_17 (by decide) rfl |>.icmpF 22 d32_19 (XT.ii_ge_f (by decide)) rfl |>.iloadN 23 d32_22 rfl rfl |>.iloadN 24 d32_23 rfl rfl |>.icmpF 27 d32_24 (XT.ii_le_f (ng_gt (K := -100000000) hN rfl (by omega))) rfl |>.iloadN 28 d32_27 rfl rfl |>.iloadN 29 d32_28 rfl rfl
  replace G := G.iadd 30 d32_29 rfl |>.top (y := (.int (8 : Int32))) (by decide)
  exact G.retI hret hlk d32_30 [] all0 ⟨_, rfl, rfl, rfl, rfl⟩ (nle rfl) (nle rfl)
theorem c_size9 (l : Launch) (Z : State) (a0 : Array Value) (hw : ∀ d ∈ tables_1, d.before a0 Z = true) (hEW : EW Z a0 consts_1) (n0 : Nat) (c1 : Int32) (hc1 : ¬ c1 = 0) (S1 : Sta Z Z.heap "java/lang/String" "COMPACT_STRINGS" "Z" (.int c1)) (N : Nat) {h0 : Heap} (o1 : Old Z n0 h0) (hlo : 100000000 ≤ N) (hhi : N < 1000000000)  :
    Con Z a0 l (⟨"java/lang/Integer", "stringSize", "(I)I"⟩ : MethodName) jdk_33_method_13_code 4 (some .int) ({ frames := 0, cells := 0, slots := 0, locals := 0 } : Room) [] #[(.int (Int32.ofNat N))] consts_1 h0 n0 [] [] (VV fun w h so => w = .int (9 : Int32) ∧ h = h0 ∧ so = []) := by
  refine Con.body (plainFor_of_name pn_java_lang_Integer) hEW o1 all0 #[.val (.int (Int32.ofNat N)), .unset, .unset, .unset] (fun m => by first | (simp [entryFrame, mkF, argsToLocals, Value.category]; done) | rfl) ?_
  intro p e s m below meth c B hnm hret hlk G
  have hN : N < 2147483648 := by omega
  replace G := G.iconst 1 (1 : Int32) d32_0 rfl rfl |>.istoreN 2 #[.val (.int (Int32.ofNat N)), .val (.int (1 : Int32)), .unset, .unset] d32_1 rfl rfl |>.iloadN 3 d32_2 rfl rfl |>.ifF 6 d32_3 (XT.i0_lt_f (ofn_nn hN)) rfl |>.iconst 7 (0 : Int32) d32_6 rfl rfl |>.istoreN 8 #[.val (.int (Int32.ofNat N)), .val (.int (0 : Int32)), .unset, .unset] d32_7 rfl rfl |>.iloadN 9 d32_8 rfl rfl |>.ineg 10 d32_9 rfl
  replace G := G.istoreN 11 #[.val (.int (-(Int32.ofNat N))), .val (.int (0 : Int32)), .unset, .unset] d32_10 rfl rfl |>.bipush 13 (-10 : Int32) d32_11 (by decide) rfl |>.istoreN 14 #[.val (.int (-(Int32.ofNat N))), .val (.int (0 : Int32)), .val (.int (-10 : Int32)), .unset] d32_13 rfl rfl |>.iconst 15 (1 : Int32) d32_14 rfl rfl |>.istoreN 16 #[.val (.int (-(Int32.ofNat N))), .val (.int (0 : Int32)), .val (.int (-10 : Int32)), .val (.int (1 : Int32))] d32_15 rfl rfl |>.iloadN 17 d32_16 rfl rfl |>.bipush 19 (10 : Int32) d32_17 (by decide) rfl |>.icmpF 22 d32_19 (XT.ii_ge_f (by decide)) rfl
  replace G := G.iloadN 23 d32_22 rfl rfl |>.iloadN 24 d32_23 rfl rfl |>.icmpT 31 d32_24 (XT.ii_le_t (ng_ngt (K := -10) hN rfl (by omega))) (by decide) (by decide) |>.bipush 33 (10 : Int32) d32_31 (by decide) rfl |>.iloadN 34 d32_33 rfl rfl |>.imul 35 d32_34 rfl |>.top (y := (.int (-100 : Int32))) (by decide) |>.istoreN 36 #[.val (.int (-(Int32.ofNat N))), .val (.int (0 : Int32)), .val (.int (-100 : Int32)), .val (.int (1 : Int32))] d32_35 rfl rfl
  replace G := G.iincV 39 #[.val (.int (-(Int32.ofNat N))), .val (.int (0 : Int32)), .val (.int (-100 : Int32)), .val (.int (2 : Int32))] (2 : Int32) d32_36 rfl (by decide) rfl rfl |>.goto 16 d32_39 (by decide) (by decide) |>.iloadN 17 d32_16 rfl rfl |>.bipush 19 (10 : Int32) d32_17 (by decide) rfl |>.icmpF 22 d32_19 (XT.ii_ge_f (by decide)) rfl |>.iloadN 23 d32_22 rfl rfl |>.iloadN 24 d32_23 rfl rfl |>.icmpT 31 d32_24 (XT.ii_le_t (ng_ngt (K := -100) hN rfl (by omega))) (by decide) (by decide)
  replace G := G.bipush 33 (10 : Int32) d32_31 (by decide) rfl |>.iloadN 34 d32_33 rfl rfl |>.imul 35 d32_34 rfl |>.top (y := (.int (-1000 : Int32))) (by decide) |>.istoreN 36 #[.val (.int (-(Int32.ofNat N))), .val (.int (0 : Int32)), .val (.int (-1000 : Int32)), .val (.int (2 : Int32))] d32_35 rfl rfl |>.iincV 39 #[.val (.int (-(Int32.ofNat N))), .val (.int (0 : Int32)), .val (.int (-1000 : Int32)), .val (.int (3 : Int32))] (3 : Int32) d32_36 rfl (by decide) rfl rfl |>.goto 16 d32_39 (by decide) (by decide) |>.iloadN 17 d32_16 rfl rfl
  replace G := G.bipush 19 (10 : Int32) d32_17 (by decide) rfl |>.icmpF 22 d32_19 (XT.ii_ge_f (by decide)) rfl |>.iloadN 23 d32_22 rfl rfl |>.iloadN 24 d32_23 rfl rfl |>.icmpT 31 d32_24 (XT.ii_le_t (ng_ngt (K := -1000) hN rfl (by omega))) (by decide) (by decide) |>.bipush 33 (10 : Int32) d32_31 (by decide) rfl |>.iloadN 34 d32_33 rfl rfl |>.imul 35 d32_34 rfl
  replace G := G.top (y := (.int (-10000 : Int32))) (by decide) |>.istoreN 36 #[.val (.int (-(Int32.ofNat N))), .val (.int (0 : Int32)), .val (.int (-10000 : Int32)), .val (.int (3 : Int32))] d32_35 rfl rfl |>.iincV 39 #[.val (.int (-(Int32.ofNat N))), .val (.int (0 : Int32)), .val (.int (-10000 : Int32)), .val (.int (4 : Int32))] (4 : Int32) d32_36 rfl (by decide) rfl rfl |>.goto 16 d32_39 (by decide) (by decide) |>.iloadN 17 d32_16 rfl rfl |>.bipush 19 (10 : Int32) d32_17 (by decide) rfl |>.icmpF 22 d32_19 (XT.ii_ge_f (by decide)) rfl |>.iloadN 23 d32_22 rfl rfl
  replace G := G.iloadN 24 d32_23 rfl rfl |>.icmpT 31 d32_24 (XT.ii_le_t (ng_ngt (K := -10000) hN rfl (by omega))) (by decide) (by decide) |>.bipush 33 (10 : Int32) d32_31 (by decide) rfl |>.iloadN 34 d32_33 rfl rfl |>.imul 35 d32_34 rfl |>.top (y := (.int (-100000 : Int32))) (by decide) |>.istoreN 36 #[.val (.int (-(Int32.ofNat N))), .val (.int (0 : Int32)), .val (.int (-100000 : Int32)), .val (.int (4 : Int32))] d32_35 rfl rfl |>.iincV 39 #[.val (.int (-(Int32.ofNat N))), .val (.int (0 : Int32)), .val (.int (-100000 : Int32)), .val (.int (5 : Int32))] (5 : Int32) d32_36 rfl (by decide) rfl rfl
  replace G := G.goto 16 d32_39 (by decide) (by decide) |>.iloadN 17 d32_16 rfl rfl |>.bipush 19 (10 : Int32) d32_17 (by decide) rfl |>.icmpF 22 d32_19 (XT.ii_ge_f (by decide)) rfl |>.iloadN 23 d32_22 rfl rfl |>.iloadN 24 d32_23 rfl rfl |>.icmpT 31 d32_24 (XT.ii_le_t (ng_ngt (K := -100000) hN rfl (by omega))) (by decide) (by decide) |>.bipush 33 (10 : Int32) d32_31 (by decide) rfl
  replace G := G.iloadN 34 d32_33 rfl rfl |>.imul 35 d32_34 rfl |>.top (y := (.int (-1000000 : Int32))) (by decide) |>.istoreN 36 #[.val (.int (-(Int32.ofNat N))), .val (.int (0 : Int32)), .val (.int (-1000000 : Int32)), .val (.int (5 : Int32))] d32_35 rfl rfl |>.iincV 39 #[.val (.int (-(Int32.ofNat N))), .val (.int (0 : Int32)), .val (.int (-1000000 : Int32)), .val (.int (6 : Int32))] (6 : Int32) d32_36 rfl (by decide) rfl rfl |>.goto 16 d32_39 (by decide) (by decide) |>.iloadN 17 d32_16 rfl rfl |>.bipush 19 (10 : Int32) d32_17 (by decide) rfl
  replace G := G.icmpF 22 d32_19 (XT.ii_ge_f (by decide)) rfl |>.iloadN 23 d32_22 rfl rfl |>.iloadN 24 d32_23 rfl rfl |>.icmpT 31 d32_24 (XT.ii_le_t (ng_ngt (K := -1000000) hN rfl (by omega))) (by decide) (by decide) |>.bipush 33 (10 : Int32) d32_31 (by decide) rfl |>.iloadN 34 d32_33 rfl rfl |>.imul 35 d32_34 rfl |>.top (y := (.int (-10000000 : Int32))) (by decide)
  replace G := G.istoreN 36 #[.val (.int (-(Int32.ofNat N))), .val (.int (0 : Int32)), .val (.int (-10000000 : Int32)), .val (.int (6 : Int32))] d32_35 rfl rfl |>.iincV 39 #[.val (.int (-(Int32.ofNat N))), .val (.int (0 : Int32)), .val (.int (-10000000 : Int32)), .val (.int (7 : Int32))] (7 : Int32) d32_36 rfl (by decide) rfl rfl |>.goto 16 d32_39 (by decide) (by decide) |>.iloadN 17 d32_16 rfl rfl |>.bipush 19 (10 : Int32) d32_17 (by decide) rfl |>.icmpF 22 d32_19 (XT.ii_ge_f (by decide)) rfl |>.iloadN 23 d32_22 rfl rfl |>.iloadN 24 d32_23 rfl rfl
  replace G := G.icmpT 31 d32_24 (XT.ii_le_t (ng_ngt (K := -10000000) hN rfl (by omega))) (by decide) (by decide) |>.bipush 33 (10 : Int32) d32_31 (by decide) rfl |>.iloadN 34 d32_33 rfl rfl |>.imul 35 d32_34 rfl |>.top (y := (.int (-100000000 : Int32))) (by decide) |>.istoreN 36 #[.val (.int (-(Int32.ofNat N))), .val (.int (0 : Int32)), .val (.int (-100000000 : Int32)), .val (.int (7 : Int32))] d32_35 rfl rfl |>.iincV 39 #[.val (.int (-(Int32.ofNat N))), .val (.int (0 : Int32)), .val (.int (-100000000 : Int32)), .val (.int (8 : Int32))] (8 : Int32) d32_36 rfl (by decide) rfl rfl |>.goto 16 d32_39 (by decide) (by decide)
  replace G := G.iloadN 17 d32_16 rfl rfl |>.bipush 19 (10 : Int32) d32_17 (by decide) rfl |>.icmpF 22 d32_19 (XT.ii_ge_f (by decide)) rfl |>.iloadN 23 d32_22 rfl rfl |>.iloadN 24 d32_23 rfl rfl |>.icmpT 31 d32_24 (XT.ii_le_t (ng_ngt (K := -100000000) hN rfl (by omega))) (by decide) (by decide) |>.bipush 33 (10 : Int32) d32_31 (by decide) rfl |>.iloadN 34 d32_33 rfl rfl
  replace G := G.imul 35 d32_34 rfl |>.top (y := (.int (-1000000000 : Int32))) (by decide) |>.istoreN 36 #[.val (.int (-(Int32.ofNat N))), .val (.int (0 : Int32)), .val (.int (-1000000000 : Int32)), .val (.int (8 : Int32))] d32_35 rfl rfl |>.iincV 39 #[.val (.int (-(Int32.ofNat N))), .val (.int (0 : Int32)), .val (.int (-1000000000 : Int32)), .val (.int (9 : Int32))] (9 : Int32) d32_36 rfl (by decide) rfl rfl |>.goto 16 d32_39 (by decide) (by decide) |>.iloadN 17 d32_16 rfl rfl |>.bipush 19 (10 : Int32) d32_17 (by decide) rfl |>.icmpF 22 d32_19 (XT.ii_ge_f (by decide)) rfl
  replace G := G.iloadN 23 d32_22 rfl rfl |>.iloadN 24 d32_23 rfl rfl |>.icmpF 27 d32_24 (XT.ii_le_f (ng_gt (K := -1000000000) hN rfl (by omega))) rfl |>.iloadN 28 d32_27 rfl rfl |>.iloadN 29 d32_28 rfl rfl |>.iadd 30 d32_29 rfl |>.top (y := (.int (9 : Int32))) (by decide)
  exact G.retI hret hlk d32_30 [] all0 ⟨_, rfl, rfl, rfl, rfl⟩ (nle rfl) (nle rfl)
theorem c_size10 (l : Launch) (Z : State) (a0 : Array Value) (hw : ∀ d ∈ tables_1, d.before a0 Z = true) (hEW : EW Z a0 consts_1) (n0 : Nat) (c1 : Int32) (hc1 : ¬ c1 = 0) (S1 : Sta Z Z.heap "java/lang/String" "COMPACT_STRINGS" "Z" (.int c1)) (N : Nat) {h0 : Heap} (o1 : Old Z n0 h0) (hlo : 1000000000 ≤ N) (hhi : N < 2147483648)  :
    Con Z a0 l (⟨"java/lang/Integer", "stringSize", "(I)I"⟩ : MethodName) jdk_33_method_13_code 4 (some .int) ({ frames := 0, cells := 0, slots := 0, locals := 0 } : Room) [] #[(.int (Int32.ofNat N))] consts_1 h0 n0 [] [] (VV fun w h so => w = .int (10 : Int32) ∧ h = h0 ∧ so = []) := by
  refine Con.body (plainFor_of_name pn_java_lang_Integer) hEW o1 all0 #[.val (.int (Int32.ofNat N)), .unset, .unset, .unset] (fun m => by first | (simp [entryFrame, mkF, argsToLocals, Value.category]; done) | rfl) ?_
  intro p e s m below meth c B hnm hret hlk G
  have hN : N < 2147483648 := by omega
  replace G := G.iconst 1 (1 : Int32) d32_0 rfl rfl |>.istoreN 2 #[.val (.int (Int32.ofNat N)), .val (.int (1 : Int32)), .unset, .unset] d32_1 rfl rfl |>.iloadN 3 d32_2 rfl rfl |>.ifF 6 d32_3 (XT.i0_lt_f (ofn_nn hN)) rfl |>.iconst 7 (0 : Int32) d32_6 rfl rfl |>.istoreN 8 #[.val (.int (Int32.ofNat N)), .val (.int (0 : Int32)), .unset, .unset] d32_7 rfl rfl |>.iloadN 9 d32_8 rfl rfl |>.ineg 10 d32_9 rfl
  replace G := G.istoreN 11 #[.val (.int (-(Int32.ofNat N))), .val (.int (0 : Int32)), .unset, .unset] d32_10 rfl rfl |>.bipush 13 (-10 : Int32) d32_11 (by decide) rfl |>.istoreN 14 #[.val (.int (-(Int32.ofNat N))), .val (.int (0 : Int32)), .val (.int (-10 : Int32)), .unset] d32_13 rfl rfl |>.iconst 15 (1 : Int32) d32_14 rfl rfl |>.istoreN 16 #[.val (.int (-(Int32.ofNat N))), .val (.int (0 : Int32)), .val (.int (-10 : Int32)), .val (.int (1 : Int32))] d32_15 rfl rfl |>.iloadN 17 d32_16 rfl rfl |>.bipush 19 (10 : Int32) d32_17 (by decide) rfl |>.icmpF 22 d32_19 (XT.ii_ge_f (by decide)) rfl
  replace G := G.iloadN 23 d32_22 rfl rfl |>.iloadN 24 d32_23 rfl rfl |>.icmpT 31 d32_24 (XT.ii_le_t (ng_ngt (K := -10) hN rfl (by omega))) (by decide) (by decide) |>.bipush 33 (10 : Int32) d32_31 (by decide) rfl |>.iloadN 34 d32_33 rfl rfl |>.imul 35 d32_34 rfl |>.top (y := (.int (-100 : Int32))) (by decide) |>.istoreN 36 #[.val (.int (-(Int32.ofNat N))), .val (.int (0 : Int32)), .val (.int (-100 : Int32)), .val (.int (1 : Int32))] d32_35 rfl rfl
  replace G := G.iincV 39 #[.val (.int (-(Int32.ofNat N))), .val (.int (0 : Int32)), .val (.int (-100 : Int32)), .val (.int (2 : Int32))] (2 : Int32) d32_36 rfl (by decide) rfl rfl |>.goto 16 d32_39 (by decide) (by decide) |>.iloadN 17 d32_16 rfl rfl |>.bipush 19 (10 : Int32) d32_17 (by decide) rfl |>.icmpF 22 d32_19 (XT.ii_ge_f (by decide)) rfl |>.iloadN 23 d32_22 rfl rfl |>.iloadN 24 d32_23 rfl rfl |>.icmpT 31 d32_24 (XT.ii_le_t (ng_ngt (K := -100) hN rfl (by omega))) (by decide) (by decide)
  replace G := G.bipush 33 (10 : Int32) d32_31 (by decide) rfl |>.iloadN 34 d32_33 rfl rfl |>.imul 35 d32_34 rfl |>.top (y := (.int (-1000 : Int32))) (by decide) |>.istoreN 36 #[.val (.int (-(Int32.ofNat N))), .val (.int (0 : Int32)), .val (.int (-1000 : Int32)), .val (.int (2 : Int32))] d32_35 rfl rfl |>.iincV 39 #[.val (.int (-(Int32.ofNat N))), .val (.int (0 : Int32)), .val (.int (-1000 : Int32)), .val (.int (3 : Int32))] (3 : Int32) d32_36 rfl (by decide) rfl rfl |>.goto 16 d32_39 (by decide) (by decide) |>.iloadN 17 d32_16 rfl rfl
  replace G := G.bipush 19 (10 : Int32) d32_17 (by decide) rfl |>.icmpF 22 d32_19 (XT.ii_ge_f (by decide)) rfl |>.iloadN 23 d32_22 rfl rfl |>.iloadN 24 d32_23 rfl rfl |>.icmpT 31 d32_24 (XT.ii_le_t (ng_ngt (K := -1000) hN rfl (by omega))) (by decide) (by decide) |>.bipush 33 (10 : Int32) d32_31 (by decide) rfl |>.iloadN 34 d32_33 rfl rfl |>.imul 35 d32_34 rfl
  replace G := G.top (y := (.int (-10000 : Int32))) (by decide) |>.istoreN 36 #[.val (.int (-(Int32.ofNat N))), .val (.int (0 : Int32)), .val (.int (-10000 : Int32)), .val (.int (3 : Int32))] d32_35 rfl rfl |>.iincV 39 #[.val (.int (-(Int32.ofNat N))), .val (.int (0 : Int32)), .val (.int (-10000 : Int32)), .val (.int (4 : Int32))] (4 : Int32) d32_36 rfl (by decide) rfl rfl |>.goto 16 d32_39 (by decide) (by decide) |>.iloadN 17 d32_16 rfl rfl |>.bipush 19 (10 : Int32) d32_17 (by decide) rfl |>.icmpF 22 d32_19 (XT.ii_ge_f (by decide)) rfl |>.iloadN 23 d32_22 rfl rfl
  replace G := G.iloadN 24 d32_23 rfl rfl |>.icmpT 31 d32_24 (XT.ii_le_t (ng_ngt (K := -10000) hN rfl (by omega))) (by decide) (by decide) |>.bipush 33 (10 : Int32) d32_31 (by decide) rfl |>.iloadN 34 d32_33 rfl rfl |>.imul 35 d32_34 rfl |>.top (y := (.int (-100000 : Int32))) (by decide) |>.istoreN 36 #[.val (.int (-(Int32.ofNat N))), .val (.int (0 : Int32)), .val (.int (-100000 : Int32)), .val (.int (4 : Int32))] d32_35 rfl rfl |>.iincV 39 #[.val (.int (-(Int32.ofNat N))), .val (.int (0 : Int32)), .val (.int (-100000 : Int32)), .val (.int (5 : Int32))] (5 : Int32) d32_36 rfl (by decide) rfl rfl
  replace G := G.goto 16 d32_39 (by decide) (by decide) |>.iloadN 17 d32_16 rfl rfl |>.bipush 19 (10 : Int32) d32_17 (by decide) rfl |>.icmpF 22 d32_19 (XT.ii_ge_f (by decide)) rfl |>.iloadN 23 d32_22 rfl rfl |>.iloadN 24 d32_23 rfl rfl |>.icmpT 31 d32_24 (XT.ii_le_t (ng_ngt (K := -100000) hN rfl (by omega))) (by decide) (by decide) |>.bipush 33 (10 : Int32) d32_31 (by decide) rfl
  replace G := G.iloadN 34 d32_33 rfl rfl |>.imul 35 d32_34 rfl |>.top (y := (.int (-1000000 : Int32))) (by decide) |>.istoreN 36 #[.val (.int (-(Int32.ofNat N))), .val (.int (0 : Int32)), .val (.int (-1000000 : Int32)), .val (.int (5 : Int32))] d32_35 rfl rfl |>.iincV 39 #[.val (.int (-(Int32.ofNat N))), .val (.int (0 : Int32)), .val (.int (-1000000 : Int32)), .val (.int (6 : Int32))] (6 : Int32) d32_36 rfl (by decide) rfl rfl |>.goto 16 d32_39 (by decide) (by decide) |>.iloadN 17 d32_16 rfl rfl |>.bipush 19 (10 : Int32) d32_17 (by decide) rfl
  replace G := G.icmpF 22 d32_19 (XT.ii_ge_f (by decide)) rfl |>.iloadN 23 d32_22 rfl rfl |>.iloadN 24 d32_23 rfl rfl |>.icmpT 31 d32_24 (XT.ii_le_t (ng_ngt (K := -1000000) hN rfl (by omega))) (by decide) (by decide) |>.bipush 33 (10 : Int32) d32_31 (by decide) rfl |>.iloadN 34 d32_33 rfl rfl |>.imul 35 d32_34 rfl |>.top (y := (.int (-10000000 : Int32))) (by decide)
  replace G := G.istoreN 36 #[.val (.int (-(Int32.ofNat N))), .val (.int (0 : Int32)), .val (.int (-10000000 : Int32)), .val (.int (6 : Int32))] d32_35 rfl rfl |>.iincV 39 #[.val (.int (-(Int32.ofNat N))), .val (.int (0 : Int32)), .val (.int (-10000000 : Int32)), .val (.int (7 : Int32))] (7 : Int32) d32_36 rfl (by decide) rfl rfl |>.goto 16 d32_39 (by decide) (by decide) |>.iloadN 17 d32_16 rfl rfl |>.bipush 19 (10 : Int32) d32_17 (by decide) rfl |>.icmpF 22 d32_19 (XT.ii_ge_f (by decide)) rfl |>.iloadN 23 d32_22 rfl rfl |>.iloadN 24 d32_23 rfl rfl
  replace G := G.icmpT 31 d32_24 (XT.ii_le_t (ng_ngt (K := -10000000) hN rfl (by omega))) (by decide) (by decide) |>.bipush 33 (10 : Int32) d32_31 (by decide) rfl |>.iloadN 34 d32_33 rfl rfl |>.imul 35 d32_34 rfl |>.top (y := (.int (-100000000 : Int32))) (by decide) |>.istoreN 36 #[.val (.int (-(Int32.ofNat N))), .val (.int (0 : Int32)), .val (.int (-100000000 : Int32)), .val (.int (7 : Int32))] d32_35 rfl rfl |>.iincV 39 #[.val (.int (-(Int32.ofNat N))), .val (.int (0 : Int32)), .val (.int (-100000000 : Int32)), .val (.int (8 : Int32))] (8 : Int32) d32_36 rfl (by decide) rfl rfl |>.goto 16 d32_39 (by decide) (by decide)
  replace G := G.iloadN 17 d32_16 rfl rfl |>.bipush 19 (10 : Int32) d32_17 (by decide) rfl |>.icmpF 22 d32_19 (XT.ii_ge_f (by decide)) rfl |>.iloadN 23 d32_22 rfl rfl |>.iloadN 24 d32_23 rfl rfl |>.icmpT 31 d32_24 (XT.ii_le_t (ng_ngt (K := -100000000) hN rfl (by omega))) (by decide) (by decide) |>.bipush 33 (10 : Int32) d32_31 (by decide) rfl |>.iloadN 34 d32_33 rfl rfl
  replace G := G.imul 35 d32_34 rfl |>.top (y := (.int (-1000000000 : Int32))) (by decide) |>.istoreN 36 #[.val (.int (-(Int32.ofNat N))), .val (.int (0 : Int32)), .val (.int (-1000000000 : Int32)), .val (.int (8 : Int32))] d32_35 rfl rfl |>.iincV 39 #[.val (.int (-(Int32.ofNat N))), .val (.int (0 : Int32)), .val (.int (-1000000000 : Int32)), .val (.int (9 : Int32))] (9 : Int32) d32_36 rfl (by decide) rfl rfl |>.goto 16 d32_39 (by decide) (by decide) |>.iloadN 17 d32_16 rfl rfl |>.bipush 19 (10 : Int32) d32_17 (by decide) rfl |>.icmpF 22 d32_19 (XT.ii_ge_f (by decide)) rfl
  replace G := G.iloadN 23 d32_22 rfl rfl |>.iloadN 24 d32_23 rfl rfl |>.icmpT 31 d32_24 (XT.ii_le_t (ng_ngt (K := -1000000000) hN rfl (by omega))) (by decide) (by decide) |>.bipush 33 (10 : Int32) d32_31 (by decide) rfl |>.iloadN 34 d32_33 rfl rfl |>.imul 35 d32_34 rfl |>.top (y := (.int (-1410065408 : Int32))) (by decide) |>.istoreN 36 #[.val (.int (-(Int32.ofNat N))), .val (.int (0 : Int32)), .val (.int (-1410065408 : Int32)), .val (.int (9 : Int32))] d32_35 rfl rfl
  replace G := G.iincV 39 #[.val (.int (-(Int32.ofNat N))), .val (.int (0 : Int32)), .val (.int (-1410065408 : Int32)), .val (.int (10 : Int32))] (10 : Int32) d32_36 rfl (by decide) rfl rfl |>.goto 16 d32_39 (by decide) (by decide) |>.iloadN 17 d32_16 rfl rfl |>.bipush 19 (10 : Int32) d32_17 (by decide) rfl |>.icmpT 42 d32_19 (XT.ii_ge_t (by decide)) (by decide) (by decide) |>.bipush 44 (10 : Int32) d32_42 (by decide) rfl |>.iloadN 45 d32_44 rfl rfl |>.iadd 46 d32_45 rfl
  replace G := G.top (y := (.int (10 : Int32))) (by decide)
  exact G.retI hret hlk d32_46 [] all0 ⟨_, rfl, rfl, rfl, rfl⟩ (nle rfl) (nle rfl)
theorem c_size (l : Launch) (Z : State) (a0 : Array Value) (hw : ∀ d ∈ tables_1, d.before a0 Z = true) (hEW : EW Z a0 consts_1) (n0 : Nat) (c1 : Int32) (hc1 : ¬ c1 = 0) (S1 : Sta Z Z.heap "java/lang/String" "COMPACT_STRINGS" "Z" (.int c1)) (N : Nat) {h0 : Heap} (o1 : Old Z n0 h0) (hN : N < 2147483648) :
    Con Z a0 l (⟨"java/lang/Integer", "stringSize", "(I)I"⟩ : MethodName) jdk_33_method_13_code 4 (some .int) ({ frames := 0, cells := 0, slots := 0, locals := 0 } : Room) [] #[(.int (Int32.ofNat N))] consts_1 h0 n0 [] [] (VV fun w h so => w = .int (Int32.ofNat (nd N)) ∧ h = h0 ∧ so = []) := by
  rcases nd_cases hN with ⟨q1, q2⟩ | ⟨q1, q2⟩ | ⟨q1, q2⟩ | ⟨q1, q2⟩ | ⟨q1, q2⟩ | ⟨q1, q2⟩ | ⟨q1, q2⟩ | ⟨q1, q2⟩ | ⟨q1, q2⟩ | ⟨q1, q2⟩
  · rw [nd_1 q1 q2]; exact c_size1 l Z a0 hw hEW n0 c1 hc1 S1 N o1 q1 q2
  · rw [nd_2 q1 q2]; exact c_size2 l Z a0 hw hEW n0 c1 hc1 S1 N o1 q1 q2
  · rw [nd_3 q1 q2]; exact c_size3 l Z a0 hw hEW n0 c1 hc1 S1 N o1 q1 q2
  · rw [nd_4 q1 q2]; exact c_size4 l Z a0 hw hEW n0 c1 hc1 S1 N o1 q1 q2
  · rw [nd_5 q1 q2]; exact c_size5 l Z a0 hw hEW n0 c1 hc1 S1 N o1 q1 q2
  · rw [nd_6 q1 q2]; exact c_size6 l Z a0 hw hEW n0 c1 hc1 S1 N o1 q1 q2
  · rw [nd_7 q1 q2]; exact c_size7 l Z a0 hw hEW n0 c1 hc1 S1 N o1 q1 q2
  · rw [nd_8 q1 q2]; exact c_size8 l Z a0 hw hEW n0 c1 hc1 S1 N o1 q1 q2
  · rw [nd_9 q1 q2]; exact c_size9 l Z a0 hw hEW n0 c1 hc1 S1 N o1 q1 q2
  · rw [nd_10 q1 q2]; exact c_size10 l Z a0 hw hEW n0 c1 hc1 S1 N o1 q1 q2
theorem d34_0 : decode jdk_33_method_12_code 0 = .ok (.iload_n 1, 1) := by decide +kernel
theorem d34_1 : decode jdk_33_method_12_code 1 = .ok (.istore 5, 2) := by decide +kernel
theorem d34_3 : decode jdk_33_method_12_code 3 = .ok (.iload_n 0, 1) := by decide +kernel
theorem d34_4 : decode jdk_33_method_12_code 4 = .ok (.ifCond .ge 7, 3) := by decide +kernel
theorem d34_7 : decode jdk_33_method_12_code 7 = .ok (.iconst 1, 1) := by decide +kernel
theorem d34_8 : decode jdk_33_method_12_code 8 = .ok (.goto 4, 3) := by decide +kernel
theorem d34_11 : decode jdk_33_method_12_code 11 = .ok (.iconst 0, 1) := by decide +kernel
theorem d34_12 : decode jdk_33_method_12_code 12 = .ok (.istore 6, 2) := by decide +kernel
theorem d34_14 : decode jdk_33_method_12_code 14 = .ok (.iload 6, 2) := by decide +kernel
theorem d34_16 : decode jdk_33_method_12_code 16 = .ok (.ifCond .ne 6, 3) := by decide +kernel
theorem d34_19 : decode jdk_33_method_12_code 19 = .ok (.iload_n 0, 1) := by decide +kernel
theorem d34_20 : decode jdk_33_method_12_code 20 = .ok (.ineg, 1) := by decide +kernel
theorem d34_21 : decode jdk_33_method_12_code 21 = .ok (.istore_n 0, 1) := by decide +kernel
theorem d34_22 : decode jdk_33_method_12_code 22 = .ok (.iload_n 0, 1) := by decide +kernel
theorem d34_23 : decode jdk_33_method_12_code 23 = .ok (.bipush (-100), 2) := by decide +kernel
theorem d34_25 : decode jdk_33_method_12_code 25 = .ok (.if_icmp .gt 47, 3) := by decide +kernel
theorem d34_28 : decode jdk_33_method_12_code 28 = .ok (.iload_n 0, 1) := by decide +kernel
theorem d34_29 : decode jdk_33_method_12_code 29 = .ok (.bipush 100, 2) := by decide +kernel
theorem d34_31 : decode jdk_33_method_12_code 31 = .ok (.idiv, 1) := by decide +kernel
theorem d34_32 : decode jdk_33_method_12_code 32 = .ok (.istore_n 3, 1) := by decide +kernel
theorem d34_33 : decode jdk_33_method_12_code 33 = .ok (.iload_n 3, 1) := by decide +kernel
theorem d34_34 : decode jdk_33_method_12_code 34 = .ok (.bipush 100, 2) := by decide +kernel
theorem d34_36 : decode jdk_33_method_12_code 36 = .ok (.imul, 1) := by decide +kernel
theorem d34_37 : decode jdk_33_method_12_code 37 = .ok (.iload_n 0, 1) := by decide +kernel
theorem d34_38 : decode jdk_33_method_12_code 38 = .ok (.isub, 1) := by decide +kernel
theorem d34_39 : decode jdk_33_method_12_code 39 = .ok (.istore 4, 2) := by decide +kernel
theorem d34_41 : decode jdk_33_method_12_code 41 = .ok (.iload_n 3, 1) := by decide +kernel
theorem d34_42 : decode jdk_33_method_12_code 42 = .ok (.istore_n 0, 1) := by decide +kernel
theorem d34_43 : decode jdk_33_method_12_code 43 = .ok (.aload_n 2, 1) := by decide +kernel
theorem d34_44 : decode jdk_33_method_12_code 44 = .ok (.iinc 5 (-1), 3) := by decide +kernel
theorem d34_47 : decode jdk_33_method_12_code 47 = .ok (.iload 5, 2) := by decide +kernel
theorem d34_49 : decode jdk_33_method_12_code 49 = .ok (.getstatic 83, 3) := by decide +kernel
theorem d34_52 : decode jdk_33_method_12_code 52 = .ok (.iload 4, 2) := by decide +kernel
theorem d34_54 : decode jdk_33_method_12_code 54 = .ok (.baload, 1) := by decide +kernel
theorem d34_55 : decode jdk_33_method_12_code 55 = .ok (.bastore, 1) := by decide +kernel
theorem d34_56 : decode jdk_33_method_12_code 56 = .ok (.aload_n 2, 1) := by decide +kernel
theorem d34_57 : decode jdk_33_method_12_code 57 = .ok (.iinc 5 (-1), 3) := by decide +kernel
theorem d34_60 : decode jdk_33_method_12_code 60 = .ok (.iload 5, 2) := by decide +kernel
theorem d34_62 : decode jdk_33_method_12_code 62 = .ok (.getstatic 87, 3) := by decide +kernel
theorem d34_65 : decode jdk_33_method_12_code 65 = .ok (.iload 4, 2) := by decide +kernel
theorem d34_67 : decode jdk_33_method_12_code 67 = .ok (.baload, 1) := by decide +kernel
theorem d34_68 : decode jdk_33_method_12_code 68 = .ok (.bastore, 1) := by decide +kernel
theorem d34_69 : decode jdk_33_method_12_code 69 = .ok (.goto (-47), 3) := by decide +kernel
theorem d34_72 : decode jdk_33_method_12_code 72 = .ok (.aload_n 2, 1) := by decide +kernel
theorem d34_73 : decode jdk_33_method_12_code 73 = .ok (.iinc 5 (-1), 3) := by decide +kernel
theorem d34_76 : decode jdk_33_method_12_code 76 = .ok (.iload 5, 2) := by decide +kernel
theorem d34_78 : decode jdk_33_method_12_code 78 = .ok (.getstatic 83, 3) := by decide +kernel
theorem d34_81 : decode jdk_33_method_12_code 81 = .ok (.iload_n 0, 1) := by decide +kernel
theorem d34_82 : decode jdk_33_method_12_code 82 = .ok (.ineg, 1) := by decide +kernel
theorem d34_83 : decode jdk_33_method_12_code 83 = .ok (.baload, 1) := by decide +kernel
theorem d34_84 : decode jdk_33_method_12_code 84 = .ok (.bastore, 1) := by decide +kernel
theorem d34_85 : decode jdk_33_method_12_code 85 = .ok (.iload_n 0, 1) := by decide +kernel
theorem d34_86 : decode jdk_33_method_12_code 86 = .ok (.bipush (-9), 2) := by decide +kernel
theorem d34_88 : decode jdk_33_method_12_code 88 = .ok (.if_icmp .ge 16, 3) := by decide +kernel
theorem d34_91 : decode jdk_33_method_12_code 91 = .ok (.aload_n 2, 1) := by decide +kernel
theorem d34_92 : decode jdk_33_method_12_code 92 = .ok (.iinc 5 (-1), 3) := by decide +kernel
theorem d34_95 : decode jdk_33_method_12_code 95 = .ok (.iload 5, 2) := by decide +kernel
theorem d34_97 : decode jdk_33_method_12_code 97 = .ok (.getstatic 87, 3) := by decide +kernel
theorem d34_100 : decode jdk_33_method_12_code 100 = .ok (.iload_n 0, 1) := by decide +kernel
theorem d34_101 : decode jdk_33_method_12_code 101 = .ok (.ineg, 1) := by decide +kernel
theorem d34_102 : decode jdk_33_method_12_code 102 = .ok (.baload, 1) := by decide +kernel
theorem d34_103 : decode jdk_33_method_12_code 103 = .ok (.bastore, 1) := by decide +kernel
theorem d34_104 : decode jdk_33_method_12_code 104 = .ok (.iload 6, 2) := by decide +kernel
theorem d34_106 : decode jdk_33_method_12_code 106 = .ok (.ifCond .eq 12, 3) := by decide +kernel
theorem d34_109 : decode jdk_33_method_12_code 109 = .ok (.aload_n 2, 1) := by decide +kernel
theorem d34_110 : decode jdk_33_method_12_code 110 = .ok (.iinc 5 (-1), 3) := by decide +kernel
theorem d34_113 : decode jdk_33_method_12_code 113 = .ok (.iload 5, 2) := by decide +kernel
theorem d34_115 : decode jdk_33_method_12_code 115 = .ok (.bipush 45, 2) := by decide +kernel
theorem d34_117 : decode jdk_33_method_12_code 117 = .ok (.bastore, 1) := by decide +kernel
theorem d34_118 : decode jdk_33_method_12_code 118 = .ok (.iload 5, 2) := by decide +kernel
theorem d34_120 : decode jdk_33_method_12_code 120 = .ok (.ireturn, 1) := by decide +kernel
theorem c_getC1 (l : Launch) (Z : State) (a0 : Array Value) (hw : ∀ d ∈ tables_1, d.before a0 Z = true) (hEW : EW Z a0 consts_1) (n0 : Nat) (c1 : Int32) (hc1 : ¬ c1 = 0) (S1 : Sta Z Z.heap "java/lang/String" "COMPACT_STRINGS" "Z" (.int c1)) (t1 t2 : Addr) (kt1 kt2 : ClassId) (SD1 : Sta Z Z.heap "java/lang/Integer" "DigitOnes" "[B" (.ref t1)) (SD2 : Sta Z Z.heap "java/lang/Integer" "DigitTens" "[B" (.ref t2)) (AD1 : Arv Z Z.heap t1 kt1 .byte 100 dOnes (.int 0)) (AD2 : Arv Z Z.heap t2 kt2 .byte 100 dTens (.int 0)) (b : Addr) (kb : ClassId) (cap : Nat) (bs : List Value) (N : Nat) {h0 : Heap} (o1 : Old Z n0 h0) (ge_b : n0 ≤ b) (hlo : 0 ≤ N) (hhi : N < 10) (hle : bs.length + 1 ≤ cap) (hcap : cap < 2147483648) (Ab : Arv Z h0 b kb .byte (Int32.ofNat cap) bs (.int 0)) :
    Con Z a0 l (⟨"java/lang/Integer", "getChars", "(II[B)I"⟩ : MethodName) jdk_33_method_12_code 7 (some .int) ({ frames := 0, cells := 0, slots := 0, locals := 0 } : Room) [] #[(.int (Int32.ofNat N)), (.int (Int32.ofNat (bs.length + 1))), (.ref b)] consts_1 h0 n0 [b] [b] (VV fun w h so => w = .int (Int32.ofNat (bs.length + 0)) ∧ Arv Z h b kb .byte (Int32.ofNat cap) (bs ++ [dg N 0]) (.int 0) ∧ so = []) := by
  refine Con.body (plainFor_of_name pn_java_lang_Integer) hEW o1 (allS ge_b all0) #[.val (.int (Int32.ofNat N)), .val (.int (Int32.ofNat (bs.length + 1))), .val (.ref b), .unset, .unset, .unset, .unset] (fun m => by first | (simp [entryFrame, mkF, argsToLocals, Value.category]; done) | rfl) ?_
  intro p e s m below meth c B hnm hret hlk G
  have hN : N < 2147483648 := by omega
  have hn : bs.length < 2147483648 := by omega
  replace Ab := Ab.pad (vs' := bs ++ [(.int 0)]) (pad_rep bs (.int 0) 1)
  replace G := G.iloadN 1 d34_0 rfl rfl |>.istore 3 #[.val (.int (Int32.ofNat N)), .val (.int (Int32.ofNat (bs.length + 1))), .val (.ref b), .unset, .unset, .val (.int (Int32.ofNat (bs.length + 1))), .unset] d34_1 rfl rfl |>.iloadN 4 d34_3 rfl rfl |>.ifT 11 d34_4 (XT.i0_ge_t (ofn_nn hN)) (by decide) (by decide) |>.iconst 12 (0 : Int32) d34_11 rfl rfl |>.istore 14 #[.val (.int (Int32.ofNat N)), .val (.int (Int32.ofNat (bs.length + 1))), .val (.ref b), .unset, .unset, .val (.int (Int32.ofNat (bs.length + 1))), .val (.int (0 : Int32))] d34_12 rfl rfl |>.iload 16 d34_14 rfl rfl |>.ifF 19 d34_16 (XT.i0_ne_f rfl) rfl
  replace G := G.iloadN 20 d34_19 rfl rfl |>.ineg 21 d34_20 rfl |>.istoreN 22 #[.val (.int (-(Int32.ofNat N))), .val (.int (Int32.ofNat (bs.length + 1))), .val (.ref b), .unset, .unset, .val (.int (Int32.ofNat (bs.length + 1))), .val (.int (0 : Int32))] d34_21 rfl rfl |>.iloadN 23 d34_22 rfl rfl |>.bipush 25 (-100 : Int32) d34_23 (by decide) rfl |>.icmpT 72 d34_25 (XT.ii_gt_t (ng_gt (K := -100) (by omega) rfl (by omega))) (by decide) (by decide) |>.aloadN 73 d34_72 rfl rfl rfl |>.iincV 76 #[.val (.int (-(Int32.ofNat N))), .val (.int (Int32.ofNat (bs.length + 1))), .val (.ref b), .unset, .unset, .val (.int (Int32.ofNat (bs.length + 0))), .val (.int (0 : Int32))] (Int32.ofNat (bs.length + 0)) d34_73 rfl (ofn_pred (bs.length + 0)) rfl rfl
  replace G := G.iload 78 d34_76 rfl rfl |>.gets 81 (host := "") (Or.inl (hw _ (mm 189 rfl))) Via.refl (G.sta SD1) d34_78 rfl |>.iloadN 82 d34_81 rfl rfl |>.ineg 83 d34_82 rfl |>.top (y := (.int (Int32.ofNat (N)))) (congrArg Value.int Int32.neg_neg) |>.baload 84 (v := (.int (Int32.ofNat (48 + N % 10)))) (AD1.ext G.old.2) ⟨ofn_nn (by omega), ofn_lt (n := 100) (by omega) (by decide)⟩ (by rw [ofn_nat (by omega)]; exact dOnes_at (by omega)) d34_83 rfl
  obtain ⟨g1, G', As, Ks⟩ := G.bastore 85 (bs.length + 0) Ab ⟨ofn_nn (by omega), ofn_lt (by omega) hcap⟩ (ofn_nat (by omega)) (by simp) (Or.inl (mm 0 rfl)) (mm 0 rfl) d34_84 rfl
  replace G := G'; clear G'
  rw [set_app2 _ _ 0 _ _ rfl, dig_b (by omega)] at As
  replace Ab : Arv Z g1 b kb .byte (Int32.ofNat cap) (bs ++ [(.int (Int32.ofNat (48 + N % 10)))]) (.int 0) := As
  replace G := G.iloadN 86 d34_85 rfl rfl |>.bipush 88 (-9 : Int32) d34_86 (by decide) rfl |>.icmpT 104 d34_88 (XT.ii_ge_t (ng_nlt (K := -9) (by omega) rfl (by omega))) (by decide) (by decide) |>.iload 106 d34_104 rfl rfl |>.ifT 118 d34_106 (XT.i0_eq_t rfl) (by decide) (by decide) |>.iload 120 d34_118 rfl rfl
  have hdg : ([(.int (Int32.ofNat (48 + N % 10)))] : List Value) = [dg N 0] := by
    simp only [dg, List.cons.injEq, Value.int.injEq, and_true, Nat.reducePow]
    congr 2; omega
  rw [hdg] at Ab
  exact G.retI hret hlk d34_120 [] all0 ⟨_, rfl, rfl, Ab, rfl⟩ (nle rfl) (nle rfl)
theorem c_getC2 (l : Launch) (Z : State) (a0 : Array Value) (hw : ∀ d ∈ tables_1, d.before a0 Z = true) (hEW : EW Z a0 consts_1) (n0 : Nat) (c1 : Int32) (hc1 : ¬ c1 = 0) (S1 : Sta Z Z.heap "java/lang/String" "COMPACT_STRINGS" "Z" (.int c1)) (t1 t2 : Addr) (kt1 kt2 : ClassId) (SD1 : Sta Z Z.heap "java/lang/Integer" "DigitOnes" "[B" (.ref t1)) (SD2 : Sta Z Z.heap "java/lang/Integer" "DigitTens" "[B" (.ref t2)) (AD1 : Arv Z Z.heap t1 kt1 .byte 100 dOnes (.int 0)) (AD2 : Arv Z Z.heap t2 kt2 .byte 100 dTens (.int 0)) (b : Addr) (kb : ClassId) (cap : Nat) (bs : List Value) (N : Nat) {h0 : Heap} (o1 : Old Z n0 h0) (ge_b : n0 ≤ b) (hlo : 10 ≤ N) (hhi : N < 100) (hle : bs.length + 2 ≤ cap) (hcap : cap < 2147483648) (Ab : Arv Z h0 b kb .byte (Int32.ofNat cap) bs (.int 0)) :
    Con Z a0 l (⟨"java/lang/Integer", "getChars", "(II[B)I"⟩ : MethodName) jdk_33_method_12_code 7 (some .int) ({ frames := 0, cells := 0, slots := 0, locals := 0 } : Room) [] #[(.int (Int32.ofNat N)), (.int (Int32.ofNat (bs.length + 2))), (.ref b)] consts_1 h0 n0 [b] [b] (VV fun w h so => w = .int (Int32.ofNat (bs.length + 0)) ∧ Arv Z h b kb .byte (Int32.ofNat cap) (bs ++ [dg N 1, dg N 0]) (.int 0) ∧ so = []) := by
  refine Con.body (plainFor_of_name pn_java_lang_Integer) hEW o1 (allS ge_b all0) #[.val (.int (Int32.ofNat N)), .val (.int (Int32.ofNat (bs.length + 2))), .val (.ref b), .unset, .unset, .unset, .unset] (fun m => by first | (simp [entryFrame, mkF, argsToLocals, Value.category]; done) | rfl) ?_
  intro p e s m below meth c B hnm hret hlk G
  have hN : N < 2147483648 := by omega
  have hn : bs.length < 2147483648 := by omega
  replace Ab := Ab.pad (vs' := bs ++ [(.int 0), (.int 0)]) (pad_rep bs (.int 0) 2)
  replace G := G.iloadN 1 d34_0 rfl rfl |>.istore 3 #[.val (.int (Int32.ofNat N)), .val (.int (Int32.ofNat (bs.length + 2))), .val (.ref b), .unset, .unset, .val (.int (Int32.ofNat (bs.length + 2))), .unset] d34_1 rfl rfl |>.iloadN 4 d34_3 rfl rfl |>.ifT 11 d34_4 (XT.i0_ge_t (ofn_nn hN)) (by decide) (by decide) |>.iconst 12 (0 : Int32) d34_11 rfl rfl |>.istore 14 #[.val (.int (Int32.ofNat N)), .val (.int (Int32.ofNat (bs.length + 2))), .val (.ref b), .unset, .unset, .val (.int (Int32.ofNat (bs.length + 2))), .val (.int (0 : Int32))] d34_12 rfl rfl |>.iload 16 d34_14 rfl rfl |>.ifF 19 d34_16 (XT.i0_ne_f rfl) rfl
  replace G := G.iloadN 20 d34_19 rfl rfl |>.ineg 21 d34_20 rfl |>.istoreN 22 #[.val (.int (-(Int32.ofNat N))), .val (.int (Int32.ofNat (bs.length + 2))), .val (.ref b), .unset, .unset, .val (.int (Int32.ofNat (bs.length + 2))), .val (.int (0 : Int32))] d34_21 rfl rfl |>.iloadN 23 d34_22 rfl rfl |>.bipush 25 (-100 : Int32) d34_23 (by decide) rfl |>.icmpT 72 d34_25 (XT.ii_gt_t (ng_gt (K := -100) (by omega) rfl (by omega))) (by decide) (by decide) |>.aloadN 73 d34_72 rfl rfl rfl |>.iincV 76 #[.val (.int (-(Int32.ofNat N))), .val (.int (Int32.ofNat (bs.length + 2))), .val (.ref b), .unset, .unset, .val (.int (Int32.ofNat (bs.length + 1))), .val (.int (0 : Int32))] (Int32.ofNat (bs.length + 1)) d34_73 rfl (ofn_pred (bs.length + 1)) rfl rfl
  replace G := G.iload 78 d34_76 rfl rfl |>.gets 81 (host := "") (Or.inl (hw _ (mm 189 rfl))) Via.refl (G.sta SD1) d34_78 rfl |>.iloadN 82 d34_81 rfl rfl |>.ineg 83 d34_82 rfl |>.top (y := (.int (Int32.ofNat (N)))) (congrArg Value.int Int32.neg_neg) |>.baload 84 (v := (.int (Int32.ofNat (48 + N % 10)))) (AD1.ext G.old.2) ⟨ofn_nn (by omega), ofn_lt (n := 100) (by omega) (by decide)⟩ (by rw [ofn_nat (by omega)]; exact dOnes_at (by omega)) d34_83 rfl
  obtain ⟨g1, G', As, Ks⟩ := G.bastore 85 (bs.length + 1) Ab ⟨ofn_nn (by omega), ofn_lt (by omega) hcap⟩ (ofn_nat (by omega)) (by simp) (Or.inl (mm 0 rfl)) (mm 0 rfl) d34_84 rfl
  replace G := G'; clear G'
  rw [set_app2 _ _ 1 _ _ rfl, dig_b (by omega)] at As
  replace Ab : Arv Z g1 b kb .byte (Int32.ofNat cap) (bs ++ [(.int 0), (.int (Int32.ofNat (48 + N % 10)))]) (.int 0) := As
  replace G := G.iloadN 86 d34_85 rfl rfl |>.bipush 88 (-9 : Int32) d34_86 (by decide) rfl |>.icmpF 91 d34_88 (XT.ii_ge_f (ng_lt (K := -9) (by omega) rfl (by omega))) rfl |>.aloadN 92 d34_91 rfl rfl rfl |>.iincV 95 #[.val (.int (-(Int32.ofNat N))), .val (.int (Int32.ofNat (bs.length + 2))), .val (.ref b), .unset, .unset, .val (.int (Int32.ofNat (bs.length + 0))), .val (.int (0 : Int32))] (Int32.ofNat (bs.length + 0)) d34_92 rfl (ofn_pred (bs.length + 0)) rfl rfl |>.iload 97 d34_95 rfl rfl |>.gets 100 (host := "") (Or.inl (hw _ (mm 236 rfl))) Via.refl (G.sta SD2) d34_97 rfl |>.iloadN 101 d34_100 rfl rfl
  replace G := G.ineg 102 d34_101 rfl |>.top (y := (.int (Int32.ofNat (N)))) (congrArg Value.int Int32.neg_neg) |>.baload 103 (v := (.int (Int32.ofNat (48 + N / 10)))) (AD2.ext G.old.2) ⟨ofn_nn (by omega), ofn_lt (n := 100) (by omega) (by decide)⟩ (by rw [ofn_nat (by omega)]; exact dTens_at (by omega)) d34_102 rfl
  obtain ⟨g2, G', As, Ks⟩ := G.bastore 104 (bs.length + 0) Ab ⟨ofn_nn (by omega), ofn_lt (by omega) hcap⟩ (ofn_nat (by omega)) (by simp) (Or.inl (mm 0 rfl)) (mm 0 rfl) d34_103 rfl
  replace G := G'; clear G'
  rw [set_app2 _ _ 0 _ _ rfl, dig_b (by omega)] at As
  replace Ab : Arv Z g2 b kb .byte (Int32.ofNat cap) (bs ++ [(.int (Int32.ofNat (48 + N / 10))), (.int (Int32.ofNat (48 + N % 10)))]) (.int 0) := As
  replace G := G.iload 106 d34_104 rfl rfl |>.ifT 118 d34_106 (XT.i0_eq_t rfl) (by decide) (by decide) |>.iload 120 d34_118 rfl rfl
  have hdg : ([(.int (Int32.ofNat (48 + N / 10))), (.int (Int32.ofNat (48 + N % 10)))] : List Value) = [dg N 1, dg N 0] := by
    simp only [dg, List.cons.injEq, Value.int.injEq, and_true, Nat.reducePow]
    refine ⟨?_, ?_⟩ <;> first | trivial | (congr 2; omega)
  rw [hdg] at Ab
  exact G.retI hret hlk d34_120 [] all0 ⟨_, rfl, rfl, Ab, rfl⟩ (nle rfl) (nle rfl)
theorem c_getC3 (l : Launch) (Z : State) (a0 : Array Value) (hw : ∀ d ∈ tables_1, d.before a0 Z = true) (hEW : EW Z a0 consts_1) (n0 : Nat) (c1 : Int32) (hc1 : ¬ c1 = 0) (S1 : Sta Z Z.heap "java/lang/String" "COMPACT_STRINGS" "Z" (.int c1)) (t1 t2 : Addr) (kt1 kt2 : ClassId) (SD1 : Sta Z Z.heap "java/lang/Integer" "DigitOnes" "[B" (.ref t1)) (SD2 : Sta Z Z.heap "java/lang/Integer" "DigitTens" "[B" (.ref t2)) (AD1 : Arv Z Z.heap t1 kt1 .byte 100 dOnes (.int 0)) (AD2 : Arv Z Z.heap t2 kt2 .byte 100 dTens (.int 0)) (b : Addr) (kb : ClassId) (cap : Nat) (bs : List Value) (N : Nat) {h0 : Heap} (o1 : Old Z n0 h0) (ge_b : n0 ≤ b) (hlo : 100 ≤ N) (hhi : N < 1000) (hle : bs.length + 3 ≤ cap) (hcap : cap < 2147483648) (Ab : Arv Z h0 b kb .byte (Int32.ofNat cap) bs (.int 0)) :
    Con Z a0 l (⟨"java/lang/Integer", "getChars", "(II[B)I"⟩ : MethodName) jdk_33_method_12_code 7 (some .int) ({ frames := 0, cells := 0, slots := 0, locals := 0 } : Room) [] #[(.int (Int32.ofNat N)), (.int (Int32.ofNat (bs.length + 3))), (.ref b)] consts_1 h0 n0 [b] [b] (VV fun w h so => w = .int (Int32.ofNat (bs.length + 0)) ∧ Arv Z h b kb .byte (Int32.ofNat cap) (bs ++ [dg N 2, dg N 1, dg N 0]) (.int 0) ∧ so = []) := by
  refine Con.body (plainFor_of_name pn_java_lang_Integer) hEW o1 (allS ge_b all0) #[.val (.int (Int32.ofNat N)), .val (.int (Int32.ofNat (bs.length + 3))), .val (.ref b), .unset, .unset, .unset, .unset] (fun m => by first | (simp [entryFrame, mkF, argsToLocals, Value.category]; done) | rfl) ?_
  intro p e s m below meth c B hnm hret hlk G
  have hN : N < 2147483648 := by omega
  have hn : bs.length < 2147483648 := by omega
  replace Ab := Ab.pad (vs' := bs ++ [(.int 0), (.int 0), (.int 0)]) (pad_rep bs (.int 0) 3)
  replace G := G.iloadN 1 d34_0 rfl rfl |>.istore 3 #[.val (.int (Int32.ofNat N)), .val (.int (Int32.ofNat (bs.length + 3))), .val (.ref b), .unset, .unset, .val (.int (Int32.ofNat (bs.length + 3))), .unset] d34_1 rfl rfl |>.iloadN 4 d34_3 rfl rfl |>.ifT 11 d34_4 (XT.i0_ge_t (ofn_nn hN)) (by decide) (by decide) |>.iconst 12 (0 : Int32) d34_11 rfl rfl |>.istore 14 #[.val (.int (Int32.ofNat N)), .val (.int (Int32.ofNat (bs.length + 3))), .val (.ref b), .unset, .unset, .val (.int (Int32.ofNat (bs.length + 3))), .val (.int (0 : Int32))] d34_12 rfl rfl |>.iload 16 d34_14 rfl rfl |>.ifF 19 d34_16 (XT.i0_ne_f rfl) rfl
  replace G := G.iloadN 20 d34_19 rfl rfl |>.ineg 21 d34_20 rfl |>.istoreN 22 #[.val (.int (-(Int32.ofNat N))), .val (.int (Int32.ofNat (bs.length + 3))), .val (.ref b), .unset, .unset, .val (.int (Int32.ofNat (bs.length + 3))), .val (.int (0 : Int32))] d34_21 rfl rfl |>.iloadN 23 d34_22 rfl rfl |>.bipush 25 (-100 : Int32) d34_23 (by decide) rfl |>.icmpF 28 d34_25 (XT.ii_gt_f (ng_ngt (K := -100) (by omega) rfl (by omega))) rfl |>.iloadN 29 d34_28 rfl rfl |>.bipush 31 (100 : Int32) d34_29 (by decide) rfl
  replace G := G.idiv 32 d34_31 (by decide) rfl |>.top (y := (.int (-(Int32.ofNat (N / 100))))) (congrArg Value.int (ng_div (by omega))) |>.istoreN 33 #[.val (.int (-(Int32.ofNat N))), .val (.int (Int32.ofNat (bs.length + 3))), .val (.ref b), .val (.int (-(Int32.ofNat (N / 100)))), .unset, .val (.int (Int32.ofNat (bs.length + 3))), .val (.int (0 : Int32))] d34_32 rfl rfl |>.iloadN 34 d34_33 rfl rfl |>.bipush 36 (100 : Int32) d34_34 (by decide) rfl |>.imul 37 d34_36 rfl |>.iloadN 38 d34_37 rfl rfl |>.isub 39 d34_38 rfl
  replace G := G.top (y := (.int (Int32.ofNat (N % 100)))) (congrArg Value.int (ng_rem (by omega))) |>.istore 41 #[.val (.int (-(Int32.ofNat N))), .val (.int (Int32.ofNat (bs.length + 3))), .val (.ref b), .val (.int (-(Int32.ofNat (N / 100)))), .val (.int (Int32.ofNat (N % 100))), .val (.int (Int32.ofNat (bs.length + 3))), .val (.int (0 : Int32))] d34_39 rfl rfl |>.iloadN 42 d34_41 rfl rfl |>.istoreN 43 #[.val (.int (-(Int32.ofNat (N / 100)))), .val (.int (Int32.ofNat (bs.length + 3))), .val (.ref b), .val (.int (-(Int32.ofNat (N / 100)))), .val (.int (Int32.ofNat (N % 100))), .val (.int (Int32.ofNat (bs.length + 3))), .val (.int (0 : Int32))] d34_42 rfl rfl |>.aloadN 44 d34_43 rfl rfl rfl |>.iincV 47 #[.val (.int (-(Int32.ofNat (N / 100)))), .val (.int (Int32.ofNat (bs.length + 3))), .val (.ref b), .val (.int (-(Int32.ofNat (N / 100)))), .val (.int (Int32.ofNat (N % 100))), .val (.int (Int32.ofNat (bs.length + 2))), .val (.int (0 : Int32))] (Int32.ofNat (bs.length + 2)) d34_44 rfl (ofn_pred (bs.length + 2)) rfl rfl |>.iload 49 d34_47 rfl rfl |>.gets 52 (host := "") (Or.inl (hw _ (mm 189 rfl))) Via.refl (G.sta SD1) d34_49 rfl
  replace G := G.iload 54 d34_52 rfl rfl |>.baload 55 (v := (.int (Int32.ofNat (48 + N % 100 % 10)))) (AD1.ext G.old.2) ⟨ofn_nn (by omega), ofn_lt (n := 100) (by omega) (by decide)⟩ (by rw [ofn_nat (by omega)]; exact dOnes_at (by omega)) d34_54 rfl
  obtain ⟨g1, G', As, Ks⟩ := G.bastore 56 (bs.length + 2) Ab ⟨ofn_nn (by omega), ofn_lt (by omega) hcap⟩ (ofn_nat (by omega)) (by simp) (Or.inl (mm 0 rfl)) (mm 0 rfl) d34_55 rfl
  replace G := G'; clear G'
  rw [set_app2 _ _ 2 _ _ rfl, dig_b (by omega)] at As
  replace Ab : Arv Z g1 b kb .byte (Int32.ofNat cap) (bs ++ [(.int 0), (.int 0), (.int (Int32.ofNat (48 + N % 100 % 10)))]) (.int 0) := As
  replace G := G.aloadN 57 d34_56 rfl rfl rfl |>.iincV 60 #[.val (.int (-(Int32.ofNat (N / 100)))), .val (.int (Int32.ofNat (bs.length + 3))), .val (.ref b), .val (.int (-(Int32.ofNat (N / 100)))), .val (.int (Int32.ofNat (N % 100))), .val (.int (Int32.ofNat (bs.length + 1))), .val (.int (0 : Int32))] (Int32.ofNat (bs.length + 1)) d34_57 rfl (ofn_pred (bs.length + 1)) rfl rfl |>.iload 62 d34_60 rfl rfl |>.gets 65 (host := "") (Or.inl (hw _ (mm 236 rfl))) Via.refl (G.sta SD2) d34_62 rfl |>.iload 67 d34_65 rfl rfl |>.baload 68 (v := (.int (Int32.ofNat (48 + N % 100 / 10)))) (AD2.ext G.old.2) ⟨ofn_nn (by omega), ofn_lt (n := 100) (by omega) (by decide)⟩ (by rw [ofn_nat (by omega)]; exact dTens_at (by omega)) d34_67 rfl
  obtain ⟨g2, G', As, Ks⟩ := G.bastore 69 (bs.length + 1) Ab ⟨ofn_nn (by omega), ofn_lt (by omega) hcap⟩ (ofn_nat (by omega)) (by simp) (Or.inl (mm 0 rfl)) (mm 0 rfl) d34_68 rfl
  replace G := G'; clear G'
  rw [set_app2 _ _ 1 _ _ rfl, dig_b (by omega)] at As
  replace Ab : Arv Z g2 b kb .byte (Int32.ofNat cap) (bs ++ [(.int 0), (.int (Int32.ofNat (48 + N % 100 / 10))), (.int (Int32.ofNat (48 + N % 100 % 10)))]) (.int 0) := As
  replace G := G.goto 22 d34_69 (by decide) (by decide) |>.iloadN 23 d34_22 rfl rfl |>.bipush 25 (-100 : Int32) d34_23 (by decide) rfl |>.icmpT 72 d34_25 (XT.ii_gt_t (ng_gt (K := -100) (by omega) rfl (by omega))) (by decide) (by decide) |>.aloadN 73 d34_72 rfl rfl rfl |>.iincV 76 #[.val (.int (-(Int32.ofNat (N / 100)))), .val (.int (Int32.ofNat (bs.length + 3))), .val (.ref b), .val (.int (-(Int32.ofNat (N / 100)))), .val (.int (Int32.ofNat (N % 100))), .val (.int (Int32.ofNat (bs.length + 0))), .val (.int (0 : Int32))] (Int32.ofNat (bs.length + 0)) d34_73 rfl (ofn_pred (bs.length + 0)) rfl rfl |>.iload 78 d34_76 rfl rfl |>.gets 81 (host := "") (Or.inl (hw _ (mm 189 rfl))) Via.refl (G.sta SD1) d34_78 rfl
  replace G := G.iloadN 82 d34_81 rfl rfl |>.ineg 83 d34_82 rfl |>.top (y := (.int (Int32.ofNat (N / 100)))) (congrArg Value.int Int32.neg_neg) |>.baload 84 (v := (.int (Int32.ofNat (48 + (N / 100) % 10)))) (AD1.ext G.old.2) ⟨ofn_nn (by omega), ofn_lt (n := 100) (by omega) (by decide)⟩ (by rw [ofn_nat (by omega)]; exact dOnes_at (by omega)) d34_83 rfl
  obtain ⟨g3, G', As, Ks⟩ := G.bastore 85 (bs.length + 0) Ab ⟨ofn_nn (by omega), ofn_lt (by omega) hcap⟩ (ofn_nat (by omega)) (by simp) (Or.inl (mm 0 rfl)) (mm 0 rfl) d34_84 rfl
  replace G := G'; clear G'
  rw [set_app2 _ _ 0 _ _ rfl, dig_b (by omega)] at As
  replace Ab : Arv Z g3 b kb .byte (Int32.ofNat cap) (bs ++ [(.int (Int32.ofNat (48 + (N / 100) % 10))), (.int (Int32.ofNat (48 + N % 100 / 10))), (.int (Int32.ofNat (48 + N % 100 % 10)))]) (.int 0) := As
  replace G := G.iloadN 86 d34_85 rfl rfl |>.bipush 88 (-9 : Int32) d34_86 (by decide) rfl |>.icmpT 104 d34_88 (XT.ii_ge_t (ng_nlt (K := -9) (by omega) rfl (by omega))) (by decide) (by decide) |>.iload 106 d34_104 rfl rfl |>.ifT 118 d34_106 (XT.i0_eq_t rfl) (by decide) (by decide) |>.iload 120 d34_118 rfl rfl
  have hdg : ([(.int (Int32.ofNat (48 + (N / 100) % 10))), (.int (Int32.ofNat (48 + N % 100 / 10))), (.int (Int32.ofNat (48 + N % 100 % 10)))] : List Value) = [dg N 2, dg N 1, dg N 0] := by
    simp only [dg, List.cons.injEq, Value.int.injEq, and_true, Nat.reducePow]
    refine ⟨?_, ?_, ?_⟩ <;> first | trivial | (congr 2; omega)
  rw [hdg] at Ab
  exact G.retI hret hlk d34_120 [] all0 ⟨_, rfl, rfl, Ab, rfl⟩ (nle rfl) (nle rfl)
theorem c_getC4 (l : Launch) (Z : State) (a0 : Array Value) (hw : ∀ d ∈ tables_1, d.before a0 Z = true) (hEW : EW Z a0 consts_1) (n0 : Nat) (c1 : Int32) (hc1 : ¬ c1 = 0) (S1 : Sta Z Z.heap "java/lang/String" "COMPACT_STRINGS" "Z" (.int c1)) (t1 t2 : Addr) (kt1 kt2 : ClassId) (SD1 : Sta Z Z.heap "java/lang/Integer" "DigitOnes" "[B" (.ref t1)) (SD2 : Sta Z Z.heap "java/lang/Integer" "DigitTens" "[B" (.ref t2)) (AD1 : Arv Z Z.heap t1 kt1 .byte 100 dOnes (.int 0)) (AD2 : Arv Z Z.heap t2 kt2 .byte 100 dTens (.int 0)) (b : Addr) (kb : ClassId) (cap : Nat) (bs : List Value) (N : Nat) {h0 : Heap} (o1 : Old Z n0 h0) (ge_b : n0 ≤ b) (hlo : 1000 ≤ N) (hhi : N < 10000) (hle : bs.length + 4 ≤ cap) (hcap : cap < 2147483648) (Ab : Arv Z h0 b kb .byte (Int32.ofNat cap) bs (.int 0)) :
    Con Z a0 l (⟨"java/lang/Integer", "getChars", "(II[B)I"⟩ : MethodName) jdk_33_method_12_code 7 (some .int) ({ frames := 0, cells := 0, slots := 0, locals := 0 } : Room) [] #[(.int (Int32.ofNat N)), (.int (Int32.ofNat (bs.length + 4))), (.ref b)] consts_1 h0 n0 [b] [b] (VV fun w h so => w = .int (Int32.ofNat (bs.length + 0)) ∧ Arv Z h b kb .byte (Int32.ofNat cap) (bs ++ [dg N 3, dg N 2, dg N 1, dg N 0]) (.int 0) ∧ so = []) := by
  refine Con.body (plainFor_of_name pn_java_lang_Integer) hEW o1 (allS ge_b all0) #[.val (.int (Int32.ofNat N)), .val (.int (Int32.ofNat (bs.length + 4))), .val (.ref b), .unset, .unset, .unset, .unset] (fun m => by first | (simp [entryFrame, mkF, argsToLocals, Value.category]; done) | rfl) ?_
  intro p e s m below meth c B hnm hret hlk G
  have hN : N < 2147483648 := by omega
  have hn : bs.length < 2147483648 := by omega
  replace Ab := Ab.pad (vs' := bs ++ [(.int 0), (.int 0), (.int 0), (.int 0)]) (pad_rep bs (.int 0) 4)
  replace G := G.iloadN 1 d34_0 rfl rfl |>.istore 3 #[.val (.int (Int32.ofNat N)), .val (.int (Int32.ofNat (bs.length + 4))), .val (.ref b), .unset, .unset, .val (.int (Int32.ofNat (bs.length + 4))), .unset] d34_1 rfl rfl |>.iloadN 4 d34_3 rfl rfl |>.ifT 11 d34_4 (XT.i0_ge_t (ofn_nn hN)) (by decide) (by decide) |>.iconst 12 (0 : Int32) d34_11 rfl rfl |>.istore 14 #[.val (.int (Int32.ofNat N)), .val (.int (Int32.ofNat (bs.length + 4))), .val (.ref b), .unset, .unset, .val (.int (Int32.ofNat (bs.length + 4))), .val (.int (0 : Int32))] d34_12 rfl rfl |>.iload 16 d34_14 rfl rfl |>.ifF 19 d34_16 (XT.i0_ne_f rfl) rfl
  replace G := G.iloadN 20 d34_19 rfl rfl |>.ineg 21 d34_20 rfl |>.istoreN 22 #[.val (.int (-(Int32.ofNat N))), .val (.int (Int32.ofNat (bs.length + 4))), .val (.ref b), .unset, .unset, .val (.int (Int32.ofNat (bs.length + 4))), .val (.int (0 : Int32))] d34_21 rfl rfl |>.iloadN 23 d34_22 rfl rfl |>.bipush 25 (-100 : Int32) d34_23 (by decide) rfl |>.icmpF 28 d34_25 (XT.ii_gt_f (ng_ngt (K := -100) (by omega) rfl (by omega))) rfl |>.iloadN 29 d34_28 rfl rfl |>.bipush 31 (100 : Int32) d34_29 (by decide) rfl
  replace G := G.idiv 32 d34_31 (by decide) rfl |>.top (y := (.int (-(Int32.ofNat (N / 100))))) (congrArg Value.int (ng_div (by omega))) |>.istoreN 33 #[.val (.int (-(Int32.ofNat N))), .val (.int (Int32.ofNat (bs.length + 4))), .val (.ref b), .val (.int (-(Int32.ofNat (N / 100)))), .unset, .val (.int (Int32.ofNat (bs.length + 4))), .val (.int (0 : Int32))] d34_32 rfl rfl |>.iloadN 34 d34_33 rfl rfl |>.bipush 36 (100 : Int32) d34_34 (by decide) rfl |>.imul 37 d34_36 rfl |>.iloadN 38 d34_37 rfl rfl |>.isub 39 d34_38 rfl
  replace G := G.top (y := (.int (Int32.ofNat (N % 100)))) (congrArg Value.int (ng_rem (by omega))) |>.istore 41 #[.val (.int (-(Int32.ofNat N))), .val (.int (Int32.ofNat (bs.length + 4))), .val (.ref b), .val (.int (-(Int32.ofNat (N / 100)))), .val (.int (Int32.ofNat (N % 100))), .val (.int (Int32.ofNat (bs.length + 4))), .val (.int (0 : Int32))] d34_39 rfl rfl |>.iloadN 42 d34_41 rfl rfl |>.istoreN 43 #[.val (.int (-(Int32.ofNat (N / 100)))), .val (.int (Int32.ofNat (bs.length + 4))), .val (.ref b), .val (.int (-(Int32.ofNat (N / 100)))), .val (.int (Int32.ofNat (N % 100))), .val (.int (Int32.ofNat (bs.length + 4))), .val (.int (0 : Int32))] d34_42 rfl rfl |>.aloadN 44 d34_43 rfl rfl rfl |>.iincV 47 #[.val (.int (-(Int32.ofNat (N / 100)))), .val (.int (Int32.ofNat (bs.length + 4))), .val (.ref b), .val (.int (-(Int32.ofNat (N / 100)))), .val (.int (Int32.ofNat (N % 100))), .val (.int (Int32.ofNat (bs.length + 3))), .val (.int (0 : Int32))] (Int32.ofNat (bs.length + 3)) d34_44 rfl (ofn_pred (bs.length + 3)) rfl rfl |>.iload 49 d34_47 rfl rfl |>.gets 52 (host := "") (Or.inl (hw _ (mm 189 rfl))) Via.refl (G.sta SD1) d34_49 rfl
  replace G := G.iload 54 d34_52 rfl rfl |>.baload 55 (v := (.int (Int32.ofNat (48 + N % 100 % 10)))) (AD1.ext G.old.2) ⟨ofn_nn (by omega), ofn_lt (n := 100) (by omega) (by decide)⟩ (by rw [ofn_nat (by omega)]; exact dOnes_at (by omega)) d34_54 rfl
  obtain ⟨g1, G', As, Ks⟩ := G.bastore 56 (bs.length + 3) Ab ⟨ofn_nn (by omega), ofn_lt (by omega) hcap⟩ (ofn_nat (by omega)) (by simp) (Or.inl (mm 0 rfl)) (mm 0 rfl) d34_55 rfl
  replace G := G'; clear G'
  rw [set_app2 _ _ 3 _ _ rfl, dig_b (by omega)] at As
  replace Ab : Arv Z g1 b kb .byte (Int32.ofNat cap) (bs ++ [(.int 0), (.int 0), (.int 0), (.int (Int32.ofNat (48 + N % 100 % 10)))]) (.int 0) := As
  replace G := G.aloadN 57 d34_56 rfl rfl rfl |>.iincV 60 #[.val (.int (-(Int32.ofNat (N / 100)))), .val (.int (Int32.ofNat (bs.length + 4))), .val (.ref b), .val (.int (-(Int32.ofNat (N / 100)))), .val (.int (Int32.ofNat (N % 100))), .val (.int (Int32.ofNat (bs.length + 2))), .val (.int (0 : Int32))] (Int32.ofNat (bs.length + 2)) d34_57 rfl (ofn_pred (bs.length + 2)) rfl rfl |>.iload 62 d34_60 rfl rfl |>.gets 65 (host := "") (Or.inl (hw _ (mm 236 rfl))) Via.refl (G.sta SD2) d34_62 rfl |>.iload 67 d34_65 rfl rfl |>.baload 68 (v := (.int (Int32.ofNat (48 + N % 100 / 10)))) (AD2.ext G.old.2) ⟨ofn_nn (by omega), ofn_lt (n := 100) (by omega) (by decide)⟩ (by rw [ofn_nat (by omega)]; exact dTens_at (by omega)) d34_67 rfl
  obtain ⟨g2, G', As, Ks⟩ := G.bastore 69 (bs.length + 2) Ab ⟨ofn_nn (by omega), ofn_lt (by omega) hcap⟩ (ofn_nat (by omega)) (by simp) (Or.inl (mm 0 rfl)) (mm 0 rfl) d34_68 rfl
  replace G := G'; clear G'
  rw [set_app2 _ _ 2 _ _ rfl, dig_b (by omega)] at As
  replace Ab : Arv Z g2 b kb .byte (Int32.ofNat cap) (bs ++ [(.int 0), (.int 0), (.int (Int32.ofNat (48 + N % 100 / 10))), (.int (Int32.ofNat (48 + N % 100 % 10)))]) (.int 0) := As
  replace G := G.goto 22 d34_69 (by decide) (by decide) |>.iloadN 23 d34_22 rfl rfl |>.bipush 25 (-100 : Int32) d34_23 (by decide) rfl |>.icmpT 72 d34_25 (XT.ii_gt_t (ng_gt (K := -100) (by omega) rfl (by omega))) (by decide) (by decide) |>.aloadN 73 d34_72 rfl rfl rfl |>.iincV 76 #[.val (.int (-(Int32.ofNat (N / 100)))), .val (.int (Int32.ofNat (bs.length + 4))), .val (.ref b), .val (.int (-(Int32.ofNat (N / 100)))), .val (.int (Int32.ofNat (N % 100))), .val (.int (Int32.ofNat (bs.length + 1))), .val (.int (0 : Int32))] (Int32.ofNat (bs.length + 1)) d34_73 rfl (ofn_pred (bs.length + 1)) rfl rfl |>.iload 78 d34_76 rfl rfl |>.gets 81 (host := "") (Or.inl (hw _ (mm 189 rfl))) Via.refl (G.sta SD1) d34_78 rfl
  replace G := G.iloadN 82 d34_81 rfl rfl |>.ineg 83 d34_82 rfl |>.top (y := (.int (Int32.ofNat (N / 100)))) (congrArg Value.int Int32.neg_neg) |>.baload 84 (v := (.int (Int32.ofNat (48 + (N / 100) % 10)))) (AD1.ext G.old.2) ⟨ofn_nn (by omega), ofn_lt (n := 100) (by omega) (by decide)⟩ (by rw [ofn_nat (by omega)]; exact dOnes_at (by omega)) d34_83 rfl
  obtain ⟨g3, G', As, Ks⟩ := G.bastore 85 (bs.length + 1) Ab ⟨ofn_nn (by omega), ofn_lt (by omega) hcap⟩ (ofn_nat (by omega)) (by simp) (Or.inl (mm 0 rfl)) (mm 0 rfl) d34_84 rfl
  replace G := G'; clear G'
  rw [set_app2 _ _ 1 _ _ rfl, dig_b (by omega)] at As
  replace Ab : Arv Z g3 b kb .byte (Int32.ofNat cap) (bs ++ [(.int 0), (.int (Int32.ofNat (48 + (N / 100) % 10))), (.int (Int32.ofNat (48 + N % 100 / 10))), (.int (Int32.ofNat (48 + N % 100 % 10)))]) (.int 0) := As
  replace G := G.iloadN 86 d34_85 rfl rfl |>.bipush 88 (-9 : Int32) d34_86 (by decide) rfl |>.icmpF 91 d34_88 (XT.ii_ge_f (ng_lt (K := -9) (by omega) rfl (by omega))) rfl |>.aloadN 92 d34_91 rfl rfl rfl |>.iincV 95 #[.val (.int (-(Int32.ofNat (N / 100)))), .val (.int (Int32.ofNat (bs.length + 4))), .val (.ref b), .val (.int (-(Int32.ofNat (N / 100)))), .val (.int (Int32.ofNat (N % 100))), .val (.int (Int32.ofNat (bs.length + 0))), .val (.int (0 : Int32))] (Int32.ofNat (bs.length + 0)) d34_92 rfl (ofn_pred (bs.length + 0)) rfl rfl |>.iload 97 d34_95 rfl rfl |>.gets 100 (host := "") (Or.inl (hw _ (mm 236 rfl))) Via.refl (G.sta SD2) d34_97 rfl |>.iloadN 101 d34_100 rfl rfl
  replace G := G.ineg 102 d34_101 rfl |>.top (y := (.int (Int32.ofNat (N / 100)))) (congrArg Value.int Int32.neg_neg) |>.baload 103 (v := (.int (Int32.ofNat (48 + (N / 100) / 10)))) (AD2.ext G.old.2) ⟨ofn_nn (by omega), ofn_lt (n := 100) (by omega) (by decide)⟩ (by rw [ofn_nat (by omega)]; exact dTens_at (by omega)) d34_102 rfl
  obtain ⟨g4, G', As, Ks⟩ := G.bastore 104 (bs.length + 0) Ab ⟨ofn_nn (by omega), ofn_lt (by omega) hcap⟩ (ofn_nat (by omega)) (by simp) (Or.inl (mm 0 rfl)) (mm 0 rfl) d34_103 rfl
  replace G := G'; clear G'
  rw [set_app2 _ _ 0 _ _ rfl, dig_b (by omega)] at As
  replace Ab : Arv Z g4 b kb .byte (Int32.ofNat cap) (bs ++ [(.int (Int32.ofNat (48 + (N / 100) / 10))), (.int (Int32.ofNat (48 + (N / 100) % 10))), (.int (Int32.ofNat (48 + N % 100 / 10))), (.int (Int32.ofNat (48 + N % 100 % 10)))]) (.int 0) := As
  replace G := G.iload 106 d34_104 rfl rfl |>.ifT 118 d34_106 (XT.i0_eq_t rfl) (by decide) (by decide) |>.iload 120 d34_118 rfl rfl
  have hdg : ([(.int (Int32.ofNat (48 + (N / 100) / 10))), (.int (Int32.ofNat (48 + (N / 100) % 10))), (.int (Int32.ofNat (48 + N % 100 / 10))), (.int (Int32.ofNat (48 + N % 100 % 10)))] : List Value) = [dg N 3, dg N 2, dg N 1, dg N 0] := by
    simp only [dg, List.cons.injEq, Value.int.injEq, and_true, Nat.reducePow]
    refine ⟨?_, ?_, ?_, ?_⟩ <;> first | trivial | (congr 2; omega)
  rw [hdg] at Ab
  exact G.retI hret hlk d34_120 [] all0 ⟨_, rfl, rfl, Ab, rfl⟩ (nle rfl) (nle rfl)
theorem c_getC5 (l : Launch) (Z : State) (a0 : Array Value) (hw : ∀ d ∈ tables_1, d.before a0 Z = true) (hEW : EW Z a0 consts_1) (n0 : Nat) (c1 : Int32) (hc1 : ¬ c1 = 0) (S1 : Sta Z Z.heap "java/lang/String" "COMPACT_STRINGS" "Z" (.int c1)) (t1 t2 : Addr) (kt1 kt2 : ClassId) (SD1 : Sta Z Z.heap "java/lang/Integer" "DigitOnes" "[B" (.ref t1)) (SD2 : Sta Z Z.heap "java/lang/Integer" "DigitTens" "[B" (.ref t2)) (AD1 : Arv Z Z.heap t1 kt1 .byte 100 dOnes (.int 0)) (AD2 : Arv Z Z.heap t2 kt2 .byte 100 dTens (.int 0)) (b : Addr) (kb : ClassId) (cap : Nat) (bs : List Value) (N : Nat) {h0 : Heap} (o1 : Old Z n0 h0) (ge_b : n0 ≤ b) (hlo : 10000 ≤ N) (hhi : N < 100000) (hle : bs.length + 5 ≤ cap) (hcap : cap < 2147483648) (Ab : Arv Z h0 b kb .byte (Int32.ofNat cap) bs (.int 0)) :
    Con Z a0 l (⟨"java/lang/Integer", "getChars", "(II[B)I"⟩ : MethodName) jdk_33_method_12_code 7 (some .int) ({ frames := 0, cells := 0, slots := 0, locals := 0 } : Room) [] #[(.int (Int32.ofNat N)), (.int (Int32.ofNat (bs.length + 5))), (.ref b)] consts_1 h0 n0 [b] [b] (VV fun w h so => w = .int (Int32.ofNat (bs.length + 0)) ∧ Arv Z h b kb .byte (Int32.ofNat cap) (bs ++ [dg N 4, dg N 3, dg N 2, dg N 1, dg N 0]) (.int 0) ∧ so = []) := by
  refine Con.body (plainFor_of_name pn_java_lang_Integer) hEW o1 (allS ge_b all0) #[.val (.int (Int32.ofNat N)), .val (.int (Int32.ofNat (bs.length + 5))), .val (.ref b), .unset, .unset, .unset, .unset] (fun m => by first | (simp [entryFrame, mkF, argsToLocals, Value.category]; done) | rfl) ?_
  intro p e s m below meth c B hnm hret hlk G
  have hN : N < 2147483648 := by omega
  have hn : bs.length < 2147483648 := by omega
  replace Ab := Ab.pad (vs' := bs ++ [(.int 0), (.int 0), (.int 0), (.int 0), (.int 0)]) (pad_rep bs (.int 0) 5)
  replace G := G.iloadN 1 d34_0 rfl rfl |>.istore 3 #[.val (.int (Int32.ofNat N)), .val (.int (Int32.ofNat (bs.length + 5))), .val (.ref b), .unset, .unset, .val (.int (Int32.ofNat (bs.length + 5))), .unset] d34_1 rfl rfl |>.iloadN 4 d34_3 rfl rfl |>.ifT 11 d34_4 (XT.i0_ge_t (ofn_nn hN)) (by decide) (by decide) |>.iconst 12 (0 : Int32) d34_11 rfl rfl |>.istore 14 #[.val (.int (Int32.ofNat N)), .val (.int (Int32.ofNat (bs.length + 5))), .val (.ref b), .unset, .unset, .val (.int (Int32.ofNat (bs.length + 5))), .val (.int (0 : Int32))] d34_12 rfl rfl |>.iload 16 d34_14 rfl rfl |>.ifF 19 d34_16 (XT.i0_ne_f rfl) rfl
  replace G := G.iloadN 20 d34_19 rfl rfl |>.ineg 21 d34_20 rfl |>.istoreN 22 #[.val (.int (-(Int32.ofNat N))), .val (.int (Int32.ofNat (bs.length + 5))), .val (.ref b), .unset, .unset, .val (.int (Int32.ofNat (bs.length + 5))), .val (.int (0 : Int32))] d34_21 rfl rfl |>.iloadN 23 d34_22 rfl rfl |>.bipush 25 (-100 : Int32) d34_23 (by decide) rfl |>.icmpF 28 d34_25 (XT.ii_gt_f (ng_ngt (K := -100) (by omega) rfl (by omega))) rfl |>.iloadN 29 d34_28 rfl rfl |>.bipush 31 (100 : Int32) d34_29 (by decide) rfl
  replace G := G.idiv 32 d34_31 (by decide) rfl |>.top (y := (.int (-(Int32.ofNat (N / 100))))) (congrArg Value.int (ng_div (by omega))) |>.istoreN 33 #[.val (.int (-(Int32.ofNat N))), .val (.int (Int32.ofNat (bs.length + 5))), .val (.ref b), .val (.int (-(Int32.ofNat (N / 100)))), .unset, .val (.int (Int32.ofNat (bs.length + 5))), .val (.int (0 : Int32))] d34_32 rfl rfl |>.iloadN 34 d34_33 rfl rfl |>.bipush 36 (100 : Int32) d34_34 (by decide) rfl |>.imul 37 d34_36 rfl |>.iloadN 38 d34_37 rfl rfl |>.isub 39 d34_38 rfl
  replace G := G.top (y := (.int (Int32.ofNat (N % 100)))) (congrArg Value.int (ng_rem (by omega))) |>.istore 41 #[.val (.int (-(Int32.ofNat N))), .val (.int (Int32.ofNat (bs.length + 5))), .val (.ref b), .val (.int (-(Int32.ofNat (N / 100)))), .val (.int (Int32.ofNat (N % 100))), .val (.int (Int32.ofNat (bs.length + 5))), .val (.int (0 : Int32))] d34_39 rfl rfl |>.iloadN 42 d34_41 rfl rfl |>.istoreN 43 #[.val (.int (-(Int32.ofNat (N / 100)))), .val (.int (Int32.ofNat (bs.length + 5))), .val (.ref b), .val (.int (-(Int32.ofNat (N / 100)))), .val (.int (Int32.ofNat (N % 100))), .val (.int (Int32.ofNat (bs.length + 5))), .val (.int (0 : Int32))] d34_42 rfl rfl |>.aloadN 44 d34_43 rfl rfl rfl |>.iincV 47 #[.val (.int (-(Int32.ofNat (N / 100)))), .val (.int (Int32.ofNat (bs.length + 5))), .val (.ref b), .val (.int (-(Int32.ofNat (N / 100)))), .val (.int (Int32.ofNat (N % 100))), .val (.int (Int32.ofNat (bs.length + 4))), .val (.int (0 : Int32))] (Int32.ofNat (bs.length + 4)) d34_44 rfl (ofn_pred (bs.length + 4)) rfl rfl |>.iload 49 d34_47 rfl rfl |>.gets 52 (host := "") (Or.inl (hw _ (mm 189 rfl))) Via.refl (G.sta SD1) d34_49 rfl
  replace G := G.iload 54 d34_52 rfl rfl |>.baload 55 (v := (.int (Int32.ofNat (48 + N % 100 % 10)))) (AD1.ext G.old.2) ⟨ofn_nn (by omega), ofn_lt (n := 100) (by omega) (by decide)⟩ (by rw [ofn_nat (by omega)]; exact dOnes_at (by omega)) d34_54 rfl
  obtain ⟨g1, G', As, Ks⟩ := G.bastore 56 (bs.length + 4) Ab ⟨ofn_nn (by omega), ofn_lt (by omega) hcap⟩ (ofn_nat (by omega)) (by simp) (Or.inl (mm 0 rfl)) (mm 0 rfl) d34_55 rfl
  replace G := G'; clear G'
  rw [set_app2 _ _ 4 _ _ rfl, dig_b (by omega)] at As
  replace Ab : Arv Z g1 b kb .byte (Int32.ofNat cap) (bs ++ [(.int 0), (.int 0), (.int 0), (.int 0), (.int (Int32.ofNat (48 + N % 100 % 10)))]) (.int 0) := As
  replace G := G.aloadN 57 d34_56 rfl rfl rfl |>.iincV 60 #[.val (.int (-(Int32.ofNat (N / 100)))), .val (.int (Int32.ofNat (bs.length + 5))), .val (.ref b), .val (.int (-(Int32.ofNat (N / 100)))), .val (.int (Int32.ofNat (N % 100))), .val (.int (Int32.ofNat (bs.length + 3))), .val (.int (0 : Int32))] (Int32.ofNat (bs.length + 3)) d34_57 rfl (ofn_pred (bs.length + 3)) rfl rfl |>.iload 62 d34_60 rfl rfl |>.gets 65 (host := "") (Or.inl (hw _ (mm 236 rfl))) Via.refl (G.sta SD2) d34_62 rfl |>.iload 67 d34_65 rfl rfl |>.baload 68 (v := (.int (Int32.ofNat (48 + N % 100 / 10)))) (AD2.ext G.old.2) ⟨ofn_nn (by omega), ofn_lt (n := 100) (by omega) (by decide)⟩ (by rw [ofn_nat (by omega)]; exact dTens_at (by omega)) d34_67 rfl
  obtain ⟨g2, G', As, Ks⟩ := G.bastore 69 (bs.length + 3) Ab ⟨ofn_nn (by omega), ofn_lt (by omega) hcap⟩ (ofn_nat (by omega)) (by simp) (Or.inl (mm 0 rfl)) (mm 0 rfl) d34_68 rfl
  replace G := G'; clear G'
  rw [set_app2 _ _ 3 _ _ rfl, dig_b (by omega)] at As
  replace Ab : Arv Z g2 b kb .byte (Int32.ofNat cap) (bs ++ [(.int 0), (.int 0), (.int 0), (.int (Int32.ofNat (48 + N % 100 / 10))), (.int (Int32.ofNat (48 + N % 100 % 10)))]) (.int 0) := As
  replace G := G.goto 22 d34_69 (by decide) (by decide) |>.iloadN 23 d34_22 rfl rfl |>.bipush 25 (-100 : Int32) d34_23 (by decide) rfl |>.icmpF 28 d34_25 (XT.ii_gt_f (ng_ngt (K := -100) (by omega) rfl (by omega))) rfl |>.iloadN 29 d34_28 rfl rfl |>.bipush 31 (100 : Int32) d34_29 (by decide) rfl |>.idiv 32 d34_31 (by decide) rfl |>.top (y := (.int (-(Int32.ofNat (N / 100 / 100))))) (congrArg Value.int (ng_div (by omega)))
  replace G := G.istoreN 33 #[.val (.int (-(Int32.ofNat (N / 100)))), .val (.int (Int32.ofNat (bs.length + 5))), .val (.ref b), .val (.int (-(Int32.ofNat (N / 100 / 100)))), .val (.int (Int32.ofNat (N % 100))), .val (.int (Int32.ofNat (bs.length + 3))), .val (.int (0 : Int32))] d34_32 rfl rfl |>.iloadN 34 d34_33 rfl rfl |>.bipush 36 (100 : Int32) d34_34 (by decide) rfl |>.imul 37 d34_36 rfl |>.iloadN 38 d34_37 rfl rfl |>.isub 39 d34_38 rfl |>.top (y := (.int (Int32.ofNat (N / 100 % 100)))) (congrArg Value.int (ng_rem (by omega))) |>.istore 41 #[.val (.int (-(Int32.ofNat (N / 100)))), .val (.int (Int32.ofNat (bs.length + 5))), .val (.ref b), .val (.int (-(Int32.ofNat (N / 100 / 100)))), .val (.int (Int32.ofNat (N / 100 % 100))), .val (.int (Int32.ofNat (bs.length + 3))), .val (.int (0 : Int32))] d34_39 rfl rfl
  replace G := G.iloadN 42 d34_41 rfl rfl |>.istoreN 43 #[.val (.int (-(Int32.ofNat (N / 100 / 100)))), .val (.int (Int32.ofNat (bs.length + 5))), .val (.ref b), .val (.int (-(Int32.ofNat (N / 100 / 100)))), .val (.int (Int32.ofNat (N / 100 % 100))), .val (.int (Int32.ofNat (bs.length + 3))), .val (.int (0 : Int32))] d34_42 rfl rfl |>.aloadN 44 d34_43 rfl rfl rfl |>.iincV 47 #[.val (.int (-(Int32.ofNat (N / 100 / 100)))), .val (.int (Int32.ofNat (bs.length + 5))), .val (.ref b), .val (.int (-(Int32.ofNat (N / 100 / 100)))), .val (.int (Int32.ofNat (N / 100 % 100))), .val (.int (Int32.ofNat (bs.length + 2))), .val (.int (0 : Int32))] (Int32.ofNat (bs.length + 2)) d34_44 rfl (ofn_pred (bs.length + 2)) rfl rfl |>.iload 49 d34_47 rfl rfl |>.gets 52 (host := "") (Or.inl (hw _ (mm 189 rfl))) Via.refl (G.sta SD1) d34_49 rfl |>.iload 54 d34_52 rfl rfl |>.baload 55 (v := (.int (Int32.ofNat (48 + N / 100 % 100 % 10)))) (AD1.ext G.old.2) ⟨ofn_nn (by omega), ofn_lt (n := 100) (by omega) (by decide)⟩ (by rw [ofn_nat (by omega)]; exact dOnes_at (by omega)) d34_54 rfl
  obtain ⟨g3, G', As, Ks⟩ := G.bastore 56 (bs.length + 2) Ab ⟨ofn_nn (by omega), ofn_lt (by omega) hcap⟩ (ofn_nat (by omega)) (by simp) (Or.inl (mm 0 rfl)) (mm 0 rfl) d34_55 rfl
  replace G := G'; clear G'
  rw [set_app2 _ _ 2 _ _ rfl, dig_b (by omega)] at As
  replace Ab : Arv Z g3 b kb .byte (Int32.ofNat cap) (bs ++ [(.int 0), (.int 0), (.int (Int32.ofNat (48 + N / 100 % 100 % 10))), (.int (Int32.ofNat (48 + N % 100 / 10))), (.int (Int32.ofNat (48 + N % 100 % 10)))]) (.int 0) := As
  replace G := G.aloadN 57 d34_56 rfl rfl rfl |>.iincV 60 #[.val (.int (-(Int32.ofNat (N / 100 / 100)))), .val (.int (Int32.ofNat (bs.length + 5))), .val (.ref b), .val (.int (-(Int32.ofNat (N / 100 / 100)))), .val (.int (Int32.ofNat (N / 100 % 100))), .val (.int (Int32.ofNat (bs.length + 1))), .val (.int (0 : Int32))] (Int32.ofNat (bs.length + 1)) d34_57 rfl (ofn_pred (bs.length + 1)) rfl rfl |>.iload 62 d34_60 rfl rfl |>.gets 65 (host := "") (Or.inl (hw _ (mm 236 rfl))) Via.refl (G.sta SD2) d34_62 rfl |>.iload 67 d34_65 rfl rfl |>.baload 68 (v := (.int (Int32.ofNat (48 + N / 100 % 100 / 10)))) (AD2.ext G.old.2) ⟨ofn_nn (by omega), ofn_lt (n := 100) (by omega) (by decide)⟩ (by rw [ofn_nat (by omega)]; exact dTens_at (by omega)) d34_67 rfl
  obtain ⟨g4, G', As, Ks⟩ := G.bastore 69 (bs.length + 1) Ab ⟨ofn_nn (by omega), ofn_lt (by omega) hcap⟩ (ofn_nat (by omega)) (by simp) (Or.inl (mm 0 rfl)) (mm 0 rfl) d34_68 rfl
  replace G := G'; clear G'
  rw [set_app2 _ _ 1 _ _ rfl, dig_b (by omega)] at As
  replace Ab : Arv Z g4 b kb .byte (Int32.ofNat cap) (bs ++ [(.int 0), (.int (Int32.ofNat (48 + N / 100 % 100 / 10))), (.int (Int32.ofNat (48 + N / 100 % 100 % 10))), (.int (Int32.ofNat (48 + N % 100 / 10))), (.int (Int32.ofNat (48 + N % 100 % 10)))]) (.int 0) := As
  replace G := G.goto 22 d34_69 (by decide) (by decide) |>.iloadN 23 d34_22 rfl rfl |>.bipush 25 (-100 : Int32) d34_23 (by decide) rfl |>.icmpT 72 d34_25 (XT.ii_gt_t (ng_gt (K := -100) (by omega) rfl (by omega))) (by decide) (by decide) |>.aloadN 73 d34_72 rfl rfl rfl |>.iincV 76 #[.val (.int (-(Int32.ofNat (N / 100 / 100)))), .val (.int (Int32.ofNat (bs.length + 5))), .val (.ref b), .val (.int (-(Int32.ofNat (N / 100 / 100)))), .val (.int (Int32.ofNat (N / 100 % 100))), .val (.int (Int32.ofNat (bs.length + 0))), .val (.int (0 : Int32))] (Int32.ofNat (bs.length + 0)) d34_73 rfl (ofn_pred (bs.length + 0)) rfl rfl |>.iload 78 d34_76 rfl rfl |>.gets 81 (host := "") (Or.inl (hw _ (mm 189 rfl))) Via.refl (G.sta SD1) d34_78 rfl
  replace G := G.iloadN 82 d34_81 rfl rfl |>.ineg 83 d34_82 rfl |>.top (y := (.int (Int32.ofNat (N / 100 / 100)))) (congrArg Value.int Int32.neg_neg) |>.baload 84 (v := (.int (Int32.ofNat (48 + (N / 100 / 100) % 10)))) (AD1.ext G.old.2) ⟨ofn_nn (by omega), ofn_lt (n := 100) (by omega) (by decide)⟩ (by rw [ofn_nat (by omega)]; exact dOnes_at (by omega)) d34_83 rfl
  obtain ⟨g5, G', As, Ks⟩ := G.bastore 85 (bs.length + 0) Ab ⟨ofn_nn (by omega), ofn_lt (by omega) hcap⟩ (ofn_nat (by omega)) (by simp) (Or.inl (mm 0 rfl)) (mm 0 rfl) d34_84 rfl
  replace G := G'; clear G'
  rw [set_app2 _ _ 0 _ _ rfl, dig_b (by omega)] at As
  replace Ab : Arv Z g5 b kb .byte (Int32.ofNat cap) (bs ++ [(.int (Int32.ofNat (48 + (N / 100 / 100) % 10))), (.int (Int32.ofNat (48 + N / 100 % 100 / 10))), (.int (Int32.ofNat (48 + N / 100 % 100 % 10))), (.int (Int32.ofNat (48 + N % 100 / 10))), (.int (Int32.ofNat (48 + N % 100 % 10)))]) (.int 0) := As
  replace G := G.iloadN 86 d34_85 rfl rfl |>.bipush 88 (-9 : Int32) d34_86 (by decide) rfl |>.icmpT 104 d34_88 (XT.ii_ge_t (ng_nlt (K := -9) (by omega) rfl (by omega))) (by decide) (by decide) |>.iload 106 d34_104 rfl rfl |>.ifT 118 d34_106 (XT.i0_eq_t rfl) (by decide) (by decide) |>.iload 120 d34_118 rfl rfl
  have hdg : ([(.int (Int32.ofNat (48 + (N / 100 / 100) % 10))), (.int (Int32.ofNat (48 + N / 100 % 100 / 10))), (.int (Int32.ofNat (48 + N / 100 % 100 % 10))), (.int (Int32.ofNat (48 + N % 100 / 10))), (.int (Int32.ofNat (48 + N % 100 % 10)))] : List Value) = [dg N 4, dg N 3, dg N 2, dg N 1, dg N 0] := by
    simp only [dg, List.cons.injEq, Value.int.injEq, and_true, Nat.reducePow]
    refine ⟨?_, ?_, ?_, ?_, ?_⟩ <;> first | trivial | (congr 2; omega)
  rw [hdg] at Ab
  exact G.retI hret hlk d34_120 [] all0 ⟨_, rfl, rfl, Ab, rfl⟩ (nle rfl) (nle rfl)
theorem c_getC6 (l : Launch) (Z : State) (a0 : Array Value) (hw : ∀ d ∈ tables_1, d.before a0 Z = true) (hEW : EW Z a0 consts_1) (n0 : Nat) (c1 : Int32) (hc1 : ¬ c1 = 0) (S1 : Sta Z Z.heap "java/lang/String" "COMPACT_STRINGS" "Z" (.int c1)) (t1 t2 : Addr) (kt1 kt2 : ClassId) (SD1 : Sta Z Z.heap "java/lang/Integer" "DigitOnes" "[B" (.ref t1)) (SD2 : Sta Z Z.heap "java/lang/Integer" "DigitTens" "[B" (.ref t2)) (AD1 : Arv Z Z.heap t1 kt1 .byte 100 dOnes (.int 0)) (AD2 : Arv Z Z.heap t2 kt2 .byte 100 dTens (.int 0)) (b : Addr) (kb : ClassId) (cap : Nat) (bs : List Value) (N : Nat) {h0 : Heap} (o1 : Old Z n0 h0) (ge_b : n0 ≤ b) (hlo : 100000 ≤ N) (hhi : N < 1000000) (hle : bs.length + 6 ≤ cap) (hcap : cap < 2147483648) (Ab : Arv Z h0 b kb .byte (Int32.ofNat cap) bs (.int 0)) :
    Con Z a0 l (⟨"java/lang/Integer", "getChars", "(II[B)I"⟩ : MethodName) jdk_33_method_12_code 7 (some .int) ({ frames := 0, cells := 0, slots := 0, locals := 0 } : Room) [] #[(.int (Int32.ofNat N)), (.int (Int32.ofNat (bs.length + 6))), (.ref b)] consts_1 h0 n0 [b] [b] (VV fun w h so => w = .int (Int32.ofNat (bs.length + 0)) ∧ Arv Z h b kb .byte (Int32.ofNat cap) (bs ++ [dg N 5, dg N 4, dg N 3, dg N 2, dg N 1, dg N 0]) (.int 0) ∧ so = []) := by
  refine Con.body (plainFor_of_name pn_java_lang_Integer) hEW o1 (allS ge_b all0) #[.val (.int (Int32.ofNat N)), .val (.int (Int32.ofNat (bs.length + 6))), .val (.ref b), .unset, .unset, .unset, .unset] (fun m => by first | (simp [entryFrame, mkF, argsToLocals, Value.category]; done) | rfl) ?_
  intro p e s m below meth c B hnm hret hlk G
  have hN : N < 2147483648 := by omega
  have hn : bs.length < 2147483648 := by omega
  replace Ab := Ab.pad (vs' := bs ++ [(.int 0), (.int 0), (.int 0), (.int 0), (.int 0), (.int 0)]) (pad_rep bs (.int 0) 6)
  replace G := G.iloadN 1 d34_0 rfl rfl |>.istore 3 #[.val (.int (Int32.ofNat N)), .val (.int (Int32.ofNat (bs.length + 6))), .val (.ref b), .unset, .unset, .val (.int (Int32.ofNat (bs.length + 6))), .unset] d34_1 rfl rfl |>.iloadN 4 d34_3 rfl rfl |>.ifT 11 d34_4 (XT.i0_ge_t (ofn_nn hN)) (by decide) (by decide) |>.iconst 12 (0 : Int32) d34_11 rfl rfl |>.istore 14 #[.val (.int (Int32.ofNat N)), .val (.int (Int32.ofNat (bs.length + 6))), .val (.ref b), .unset, .unset, .val (.int (Int32.ofNat (bs.length + 6))), .val (.int (0 : Int32))] d34_12 rfl rfl |>.iload 16 d34_14 rfl rfl |>.ifF 19 d34_16 (XT.i0_ne_f rfl) rfl
  replace G := G.iloadN 20 d34_19 rfl rfl |>.ineg 21 d34_20 rfl |>.istoreN 22 #[.val (.int (-(Int32.ofNat N))), .val (.int (Int32.ofNat (bs.length + 6))), .val (.ref b), .unset, .unset, .val (.int (Int32.ofNat (bs.length + 6))), .val (.int (0 : Int32))] d34_21 rfl rfl |>.iloadN 23 d34_22 rfl rfl |>.bipush 25 (-100 : Int32) d34_23 (by decide) rfl |>.icmpF 28 d34_25 (XT.ii_gt_f (ng_ngt (K := -100) (by omega) rfl (by omega))) rfl |>.iloadN 29 d34_28 rfl rfl |>.bipush 31 (100 : Int32) d34_29 (by decide) rfl
  replace G := G.idiv 32 d34_31 (by decide) rfl |>.top (y := (.int (-(Int32.ofNat (N / 100))))) (congrArg Value.int (ng_div (by omega))) |>.istoreN 33 #[.val (.int (-(Int32.ofNat N))), .val (.int (Int32.ofNat (bs.length + 6))), .val (.ref b), .val (.int (-(Int32.ofNat (N / 100)))), .unset, .val (.int (Int32.ofNat (bs.length + 6))), .val (.int (0 : Int32))] d34_32 rfl rfl |>.iloadN 34 d34_33 rfl rfl |>.bipush 36 (100 : Int32) d34_34 (by decide) rfl |>.imul 37 d34_36 rfl |>.iloadN 38 d34_37 rfl rfl |>.isub 39 d34_38 rfl
  replace G := G.top (y := (.int (Int32.ofNat (N % 100)))) (congrArg Value.int (ng_rem (by omega))) |>.istore 41 #[.val (.int (-(Int32.ofNat N))), .val (.int (Int32.ofNat (bs.length + 6))), .val (.ref b), .val (.int (-(Int32.ofNat (N / 100)))), .val (.int (Int32.ofNat (N % 100))), .val (.int (Int32.ofNat (bs.length + 6))), .val (.int (0 : Int32))] d34_39 rfl rfl |>.iloadN 42 d34_41 rfl rfl |>.istoreN 43 #[.val (.int (-(Int32.ofNat (N / 100)))), .val (.int (Int32.ofNat (bs.length + 6))), .val (.ref b), .val (.int (-(Int32.ofNat (N / 100)))), .val (.int (Int32.ofNat (N % 100))), .val (.int (Int32.ofNat (bs.length + 6))), .val (.int (0 : Int32))] d34_42 rfl rfl |>.aloadN 44 d34_43 rfl rfl rfl |>.iincV 47 #[.val (.int (-(Int32.ofNat (N / 100)))), .val (.int (Int32.ofNat (bs.length + 6))), .val (.ref b), .val (.int (-(Int32.ofNat (N / 100)))), .val (.int (Int32.ofNat (N % 100))), .val (.int (Int32.ofNat (bs.length + 5))), .val (.int (0 : Int32))] (Int32.ofNat (bs.length + 5)) d34_44 rfl (ofn_pred (bs.length + 5)) rfl rfl |>.iload 49 d34_47 rfl rfl |>.gets 52 (host := "") (Or.inl (hw _ (mm 189 rfl))) Via.refl (G.sta SD1) d34_49 rfl
  replace G := G.iload 54 d34_52 rfl rfl |>.baload 55 (v := (.int (Int32.ofNat (48 + N % 100 % 10)))) (AD1.ext G.old.2) ⟨ofn_nn (by omega), ofn_lt (n := 100) (by omega) (by decide)⟩ (by rw [ofn_nat (by omega)]; exact dOnes_at (by omega)) d34_54 rfl
  obtain ⟨g1, G', As, Ks⟩ := G.bastore 56 (bs.length + 5) Ab ⟨ofn_nn (by omega), ofn_lt (by omega) hcap⟩ (ofn_nat (by omega)) (by simp) (Or.inl (mm 0 rfl)) (mm 0 rfl) d34_55 rfl
  replace G := G'; clear G'
  rw [set_app2 _ _ 5 _ _ rfl, dig_b (by omega)] at As
  replace Ab : Arv Z g1 b kb .byte (Int32.ofNat cap) (bs ++ [(.int 0), (.int 0), (.int 0), (.int 0), (.int 0), (.int (Int32.ofNat (48 + N % 100 % 10)))]) (.int 0) := As
  replace G := G.aloadN 57 d34_56 rfl rfl rfl |>.iincV 60 #[.val (.int (-(Int32.ofNat (N / 100)))), .val (.int (Int32.ofNat (bs.length + 6))), .val (.ref b), .val (.int (-(Int32.ofNat (N / 100)))), .val (.int (Int32.ofNat (N % 100))), .val (.int (Int32.ofNat (bs.length + 4))), .val (.int (0 : Int32))] (Int32.ofNat (bs.length + 4)) d34_57 rfl (ofn_pred (bs.length + 4)) rfl rfl |>.iload 62 d34_60 rfl rfl |>.gets 65 (host := "") (Or.inl (hw _ (mm 236 rfl))) Via.refl (G.sta SD2) d34_62 rfl |>.iload 67 d34_65 rfl rfl |>.baload 68 (v := (.int (Int32.ofNat (48 + N % 100 / 10)))) (AD2.ext G.old.2) ⟨ofn_nn (by omega), ofn_lt (n := 100) (by omega) (by decide)⟩ (by rw [ofn_nat (by omega)]; exact dTens_at (by omega)) d34_67 rfl
  obtain ⟨g2, G', As, Ks⟩ := G.bastore 69 (bs.length + 4) Ab ⟨ofn_nn (by omega), ofn_lt (by omega) hcap⟩ (ofn_nat (by omega)) (by simp) (Or.inl (mm 0 rfl)) (mm 0 rfl) d34_68 rfl
  replace G := G'; clear G'
  rw [set_app2 _ _ 4 _ _ rfl, dig_b (by omega)] at As
  replace Ab : Arv Z g2 b kb .byte (Int32.ofNat cap) (bs ++ [(.int 0), (.int 0), (.int 0), (.int 0), (.int (Int32.ofNat (48 + N % 100 / 10))), (.int (Int32.ofNat (48 + N % 100 % 10)))]) (.int 0) := As
  replace G := G.goto 22 d34_69 (by decide) (by decide) |>.iloadN 23 d34_22 rfl rfl |>.bipush 25 (-100 : Int32) d34_23 (by decide) rfl |>.icmpF 28 d34_25 (XT.ii_gt_f (ng_ngt (K := -100) (by omega) rfl (by omega))) rfl |>.iloadN 29 d34_28 rfl rfl |>.bipush 31 (100 : Int32) d34_29 (by decide) rfl |>.idiv 32 d34_31 (by decide) rfl |>.top (y := (.int (-(Int32.ofNat (N / 100 / 100))))) (congrArg Value.int (ng_div (by omega)))
  replace G := G.istoreN 33 #[.val (.int (-(Int32.ofNat (N / 100)))), .val (.int (Int32.ofNat (bs.length + 6))), .val (.ref b), .val (.int (-(Int32.ofNat (N / 100 / 100)))), .val (.int (Int32.ofNat (N % 100))), .val (.int (Int32.ofNat (bs.length + 4))), .val (.int (0 : Int32))] d34_32 rfl rfl |>.iloadN 34 d34_33 rfl rfl |>.bipush 36 (100 : Int32) d34_34 (by decide) rfl |>.imul 37 d34_36 rfl |>.iloadN 38 d34_37 rfl rfl |>.isub 39 d34_38 rfl |>.top (y := (.int (Int32.ofNat (N / 100 % 100)))) (congrArg Value.int (ng_rem (by omega))) |>.istore 41 #[.val (.int (-(Int32.ofNat (N / 100)))), .val (.int (Int32.ofNat (bs.length + 6))), .val (.ref b), .val (.int (-(Int32.ofNat (N / 100 / 100)))), .val (.int (Int32.ofNat (N / 100 % 100))), .val (.int (Int32.ofNat (bs.length + 4))), .val (.int (0 : Int32))] d34_39 rfl rfl
  replace G := G.iloadN 42 d34_41 rfl rfl |>.istoreN 43 #[.val (.int (-(Int32.ofNat (N / 100 / 100)))), .val (.int (Int32.ofNat (bs.length + 6))), .val (.ref b), .val (.int (-(Int32.ofNat (N / 100 / 100)))), .val (.int (Int32.ofNat (N / 100 % 100))), .val (.int (Int32.ofNat (bs.length + 4))), .val (.int (0 : Int32))] d34_42 rfl rfl |>.aloadN 44 d34_43 rfl rfl rfl |>.iincV 47 #[.val (.int (-(Int32.ofNat (N / 100 / 100)))), .val (.int (Int32.ofNat (bs.length + 6))), .val (.ref b), .val (.int (-(Int32.ofNat (N / 100 / 100)))), .val (.int (Int32.ofNat (N / 100 % 100))), .val (.int (Int32.ofNat (bs.length + 3))), .val (.int (0 : Int32))] (Int32.ofNat (bs.length + 3)) d34_44 rfl (ofn_pred (bs.length + 3)) rfl rfl |>.iload 49 d34_47 rfl rfl |>.gets 52 (host := "") (Or.inl (hw _ (mm 189 rfl))) Via.refl (G.sta SD1) d34_49 rfl |>.iload 54 d34_52 rfl rfl |>.baload 55 (v := (.int (Int32.ofNat (48 + N / 100 % 100 % 10)))) (AD1.ext G.old.2) ⟨ofn_nn (by omega), ofn_lt (n := 100) (by omega) (by decide)⟩ (by rw [ofn_nat (by omega)]; exact dOnes_at (by omega)) d34_54 rfl
  obtain ⟨g3, G', As, Ks⟩ := G.bastore 56 (bs.length + 3) Ab ⟨ofn_nn (by omega), ofn_lt (by omega) hcap⟩ (ofn_nat (by omega)) (by simp) (Or.inl (mm 0 rfl)) (mm 0 rfl) d34_55 rfl
  replace G := G'; clear G'
  rw [set_app2 _ _ 3 _ _ rfl, dig_b (by omega)] at As
  replace Ab : Arv Z g3 b kb .byte (Int32.ofNat cap) (bs ++ [(.int 0), (.int 0), (.int 0), (.int (Int32.ofNat (48 + N / 100 % 100 % 10))), (.int (Int32.ofNat (48 + N % 100 / 10))), (.int (Int32.ofNat (48 + N % 100 % 10)))]) (.int 0) := As
  replace G := G.aloadN 57 d34_56 rfl rfl rfl |>.iincV 60 #[.val (.int (-(Int32.ofNat (N / 100 / 100)))), .val (.int (Int32.ofNat (bs.length + 6))), .val (.ref b), .val (.int (-(Int32.ofNat (N / 100 / 100)))), .val (.int (Int32.ofNat (N / 100 % 100))), .val (.int (Int32.ofNat (bs.length + 2))), .val (.int (0 : Int32))] (Int32.ofNat (bs.length + 2)) d34_57 rfl (ofn_pred (bs.length + 2)) rfl rfl |>.iload 62 d34_60 rfl rfl |>.gets 65 (host := "") (Or.inl (hw _ (mm 236 rfl))) Via.refl (G.sta SD2) d34_62 rfl |>.iload 67 d34_65 rfl rfl |>.baload 68 (v := (.int (Int32.ofNat (48 + N / 100 % 100 / 10)))) (AD2.ext G.old.2) ⟨ofn_nn (by omega), ofn_lt (n := 100) (by omega) (by decide)⟩ (by rw [ofn_nat (by omega)]; exact dTens_at (by omega)) d34_67 rfl
  obtain ⟨g4, G', As, Ks⟩ := G.bastore 69 (bs.length + 2) Ab ⟨ofn_nn (by omega), ofn_lt (by omega) hcap⟩ (ofn_nat (by omega)) (by simp) (Or.inl (mm 0 rfl)) (mm 0 rfl) d34_68 rfl
  replace G := G'; clear G'
  rw [set_app2 _ _ 2 _ _ rfl, dig_b (by omega)] at As
  replace Ab : Arv Z g4 b kb .byte (Int32.ofNat cap) (bs ++ [(.int 0), (.int 0), (.int (Int32.ofNat (48 + N / 100 % 100 / 10))), (.int (Int32.ofNat (48 + N / 100 % 100 % 10))), (.int (Int32.ofNat (48 + N % 100 / 10))), (.int (Int32.ofNat (48 + N % 100 % 10)))]) (.int 0) := As
  replace G := G.goto 22 d34_69 (by decide) (by decide) |>.iloadN 23 d34_22 rfl rfl |>.bipush 25 (-100 : Int32) d34_23 (by decide) rfl |>.icmpT 72 d34_25 (XT.ii_gt_t (ng_gt (K := -100) (by omega) rfl (by omega))) (by decide) (by decide) |>.aloadN 73 d34_72 rfl rfl rfl |>.iincV 76 #[.val (.int (-(Int32.ofNat (N / 100 / 100)))), .val (.int (Int32.ofNat (bs.length + 6))), .val (.ref b), .val (.int (-(Int32.ofNat (N / 100 / 100)))), .val (.int (Int32.ofNat (N / 100 % 100))), .val (.int (Int32.ofNat (bs.length + 1))), .val (.int (0 : Int32))] (Int32.ofNat (bs.length + 1)) d34_73 rfl (ofn_pred (bs.length + 1)) rfl rfl |>.iload 78 d34_76 rfl rfl |>.gets 81 (host := "") (Or.inl (hw _ (mm 189 rfl))) Via.refl (G.sta SD1) d34_78 rfl
  replace G := G.iloadN 82 d34_81 rfl rfl |>.ineg 83 d34_82 rfl |>.top (y := (.int (Int32.ofNat (N / 100 / 100)))) (congrArg Value.int Int32.neg_neg) |>.baload 84 (v := (.int (Int32.ofNat (48 + (N / 100 / 100) % 10)))) (AD1.ext G.old.2) ⟨ofn_nn (by omega), ofn_lt (n := 100) (by omega) (by decide)⟩ (by rw [ofn_nat (by omega)]; exact dOnes_at (by omega)) d34_83 rfl
  obtain ⟨g5, G', As, Ks⟩ := G.bastore 85 (bs.length + 1) Ab ⟨ofn_nn (by omega), ofn_lt (by omega) hcap⟩ (ofn_nat (by omega)) (by simp) (Or.inl (mm 0 rfl)) (mm 0 rfl) d34_84 rfl
  replace G := G'; clear G'
  rw [set_app2 _ _ 1 _ _ rfl, dig_b (by omega)] at As
  replace Ab : Arv Z g5 b kb .byte (Int32.ofNat cap) (bs ++ [(.int 0), (.int (Int32.ofNat (48 + (N / 100 / 100) % 10))), (.int (Int32.ofNat (48 + N / 100 % 100 / 10))), (.int (Int32.ofNat (48 + N / 100 % 100 % 10))), (.int (Int32.ofNat (48 + N % 100 / 10))), (.int (Int32.ofNat (48 + N % 100 % 10)))]) (.int 0) := As
  replace G := G.iloadN 86 d34_85 rfl rfl |>.bipush 88 (-9 : Int32) d34_86 (by decide) rfl |>.icmpF 91 d34_88 (XT.ii_ge_f (ng_lt (K := -9) (by omega) rfl (by omega))) rfl |>.aloadN 92 d34_91 rfl rfl rfl |>.iincV 95 #[.val (.int (-(Int32.ofNat (N / 100 / 100)))), .val (.int (Int32.ofNat (bs.length + 6))), .val (.ref b), .val (.int (-(Int32.ofNat (N / 100 / 100)))), .val (.int (Int32.ofNat (N / 100 % 100))), .val (.int (Int32.ofNat (bs.length + 0))), .val (.int (0 : Int32))] (Int32.ofNat (bs.length + 0)) d34_92 rfl (ofn_pred (bs.length + 0)) rfl rfl |>.iload 97 d34_95 rfl rfl |>.gets 100 (host := "") (Or.inl (hw _ (mm 236 rfl))) Via.refl (G.sta SD2) d34_97 rfl |>.iloadN 101 d34_100 rfl rfl
  replace G := G.ineg 102 d34_101 rfl |>.top (y := (.int (Int32.ofNat (N / 100 / 100)))) (congrArg Value.int Int32.neg_neg) |>.baload 103 (v := (.int (Int32.ofNat (48 + (N / 100 / 100) / 10)))) (AD2.ext G.old.2) ⟨ofn_nn (by omega), ofn_lt (n := 100) (by omega) (by decide)⟩ (by rw [ofn_nat (by omega)]; exact dTens_at (by omega)) d34_102 rfl
  obtain ⟨g6, G', As, Ks⟩ := G.bastore 104 (bs.length + 0) Ab ⟨ofn_nn (by omega), ofn_lt (by omega) hcap⟩ (ofn_nat (by omega)) (by simp) (Or.inl (mm 0 rfl)) (mm 0 rfl) d34_103 rfl
  replace G := G'; clear G'
  rw [set_app2 _ _ 0 _ _ rfl, dig_b (by omega)] at As
  replace Ab : Arv Z g6 b kb .byte (Int32.ofNat cap) (bs ++ [(.int (Int32.ofNat (48 + (N / 100 / 100) / 10))), (.int (Int32.ofNat (48 + (N / 100 / 100) % 10))), (.int (Int32.ofNat (48 + N / 100 % 100 / 10))), (.int (Int32.ofNat (48 + N / 100 % 100 % 10))), (.int (Int32.ofNat (48 + N % 100 / 10))), (.int (Int32.ofNat (48 + N % 100 % 10)))]) (.int 0) := As
  replace G := G.iload 106 d34_104 rfl rfl |>.ifT 118 d34_106 (XT.i0_eq_t rfl) (by decide) (by decide) |>.iload 120 d34_118 rfl rfl
  have hdg : ([(.int (Int32.ofNat (48 + (N / 100 / 100) / 10))), (.int (Int32.ofNat (48 + (N / 100 / 100) % 10))), (.int (Int32.ofNat (48 + N / 100 % 100 / 10))), (.int (Int32.ofNat (48 + N / 100 % 100 % 10))), (.int (Int32.ofNat (48 + N % 100 / 10))), (.int (Int32.ofNat (48 + N % 100 % 10)))] : List Value) = [dg N 5, dg N 4, dg N 3, dg N 2, dg N 1, dg N 0] := by
    simp only [dg, List.cons.injEq, Value.int.injEq, and_true, Nat.reducePow]
    refine ⟨?_, ?_, ?_, ?_, ?_, ?_⟩ <;> first | trivial | (congr 2; omega)
  rw [hdg] at Ab
  exact G.retI hret hlk d34_120 [] all0 ⟨_, rfl, rfl, Ab, rfl⟩ (nle rfl) (nle rfl)
theorem c_getC7 (l : Launch) (Z : State) (a0 : Array Value) (hw : ∀ d ∈ tables_1, d.before a0 Z = true) (hEW : EW Z a0 consts_1) (n0 : Nat) (c1 : Int32) (hc1 : ¬ c1 = 0) (S1 : Sta Z Z.heap "java/lang/String" "COMPACT_STRINGS" "Z" (.int c1)) (t1 t2 : Addr) (kt1 kt2 : ClassId) (SD1 : Sta Z Z.heap "java/lang/Integer" "DigitOnes" "[B" (.ref t1)) (SD2 : Sta Z Z.heap "java/lang/Integer" "DigitTens" "[B" (.ref t2)) (AD1 : Arv Z Z.heap t1 kt1 .byte 100 dOnes (.int 0)) (AD2 : Arv Z Z.heap t2 kt2 .byte 100 dTens (.int 0)) (b : Addr) (kb : ClassId) (cap : Nat) (bs : List Value) (N : Nat) {h0 : Heap} (o1 : Old Z n0 h0) (ge_b : n0 ≤ b) (hlo : 1000000 ≤ N) (hhi : N < 10000000) (hle : bs.length + 7 ≤ cap) (hcap : cap < 2147483648) (Ab : Arv Z h0 b kb .byte (Int32.ofNat cap) bs (.int 0)) :
    Con Z a0 l (⟨"java/lang/Integer", "getChars", "(II[B)I"⟩ : MethodName) jdk_33_method_12_code 7 (some .int) ({ frames := 0, cells := 0, slots := 0, locals := 0 } : Room) [] #[(.int (Int32.ofNat N)), (.int (Int32.ofNat (bs.length + 7))), (.ref b)] consts_1 h0 n0 [b] [b] (VV fun w h so => w = .int (Int32.ofNat (bs.length + 0)) ∧ Arv Z h b kb .byte (Int32.ofNat cap) (bs ++ [dg N 6, dg N 5, dg N 4, dg N 3, dg N 2, dg N 1, dg N 0]) (.int 0) ∧ so = []) := by
  refine Con.body (plainFor_of_name pn_java_lang_Integer) hEW o1 (allS ge_b all0) #[.val (.int (Int32.ofNat N)), .val (.int (Int32.ofNat (bs.length + 7))), .val (.ref b), .unset, .unset, .unset, .unset] (fun m => by first | (simp [entryFrame, mkF, argsToLocals, Value.category]; done) | rfl) ?_
  intro p e s m below meth c B hnm hret hlk G
  have hN : N < 2147483648 := by omega
  have hn : bs.length < 2147483648 := by omega
  replace Ab := Ab.pad (vs' := bs ++ [(.int 0), (.int 0), (.int 0), (.int 0), (.int 0), (.int 0), (.int 0)]) (pad_rep bs (.int 0) 7)
  replace G := G.iloadN 1 d34_0 rfl rfl |>.istore 3 #[.val (.int (Int32.ofNat N)), .val (.int (Int32.ofNat (bs.length + 7))), .val (.ref b), .unset, .unset, .val (.int (Int32.ofNat (bs.length + 7))), .unset] d34_1 rfl rfl |>.iloadN 4 d34_3 rfl rfl |>.ifT 11 d34_4 (XT.i0_ge_t (ofn_nn hN)) (by decide) (by decide) |>.iconst 12 (0 : Int32) d34_11 rfl rfl |>.istore 14 #[.val (.int (Int32.ofNat N)), .val (.int (Int32.ofNat (bs.length + 7))), .val (.ref b), .unset, .unset, .val (.int (Int32.ofNat (bs.length + 7))), .val (.int (0 : Int32))] d34_12 rfl rfl |>.iload 16 d34_14 rfl rfl |>.ifF 19 d34_16 (XT.i0_ne_f rfl) rfl
  replace G := G.iloadN 20 d34_19 rfl rfl |>.ineg 21 d34_20 rfl |>.istoreN 22 #[.val (.int (-(Int32.ofNat N))), .val (.int (Int32.ofNat (bs.length + 7))), .val (.ref b), .unset, .unset, .val (.int (Int32.ofNat (bs.length + 7))), .val (.int (0 : Int32))] d34_21 rfl rfl |>.iloadN 23 d34_22 rfl rfl |>.bipush 25 (-100 : Int32) d34_23 (by decide) rfl |>.icmpF 28 d34_25 (XT.ii_gt_f (ng_ngt (K := -100) (by omega) rfl (by omega))) rfl |>.iloadN 29 d34_28 rfl rfl |>.bipush 31 (100 : Int32) d34_29 (by decide) rfl
  replace G := G.idiv 32 d34_31 (by decide) rfl |>.top (y := (.int (-(Int32.ofNat (N / 100))))) (congrArg Value.int (ng_div (by omega))) |>.istoreN 33 #[.val (.int (-(Int32.ofNat N))), .val (.int (Int32.ofNat (bs.length + 7))), .val (.ref b), .val (.int (-(Int32.ofNat (N / 100)))), .unset, .val (.int (Int32.ofNat (bs.length + 7))), .val (.int (0 : Int32))] d34_32 rfl rfl |>.iloadN 34 d34_33 rfl rfl |>.bipush 36 (100 : Int32) d34_34 (by decide) rfl |>.imul 37 d34_36 rfl |>.iloadN 38 d34_37 rfl rfl |>.isub 39 d34_38 rfl
  replace G := G.top (y := (.int (Int32.ofNat (N % 100)))) (congrArg Value.int (ng_rem (by omega))) |>.istore 41 #[.val (.int (-(Int32.ofNat N))), .val (.int (Int32.ofNat (bs.length + 7))), .val (.ref b), .val (.int (-(Int32.ofNat (N / 100)))), .val (.int (Int32.ofNat (N % 100))), .val (.int (Int32.ofNat (bs.length + 7))), .val (.int (0 : Int32))] d34_39 rfl rfl |>.iloadN 42 d34_41 rfl rfl |>.istoreN 43 #[.val (.int (-(Int32.ofNat (N / 100)))), .val (.int (Int32.ofNat (bs.length + 7))), .val (.ref b), .val (.int (-(Int32.ofNat (N / 100)))), .val (.int (Int32.ofNat (N % 100))), .val (.int (Int32.ofNat (bs.length + 7))), .val (.int (0 : Int32))] d34_42 rfl rfl |>.aloadN 44 d34_43 rfl rfl rfl |>.iincV 47 #[.val (.int (-(Int32.ofNat (N / 100)))), .val (.int (Int32.ofNat (bs.length + 7))), .val (.ref b), .val (.int (-(Int32.ofNat (N / 100)))), .val (.int (Int32.ofNat (N % 100))), .val (.int (Int32.ofNat (bs.length + 6))), .val (.int (0 : Int32))] (Int32.ofNat (bs.length + 6)) d34_44 rfl (ofn_pred (bs.length + 6)) rfl rfl |>.iload 49 d34_47 rfl rfl |>.gets 52 (host := "") (Or.inl (hw _ (mm 189 rfl))) Via.refl (G.sta SD1) d34_49 rfl
  replace G := G.iload 54 d34_52 rfl rfl |>.baload 55 (v := (.int (Int32.ofNat (48 + N % 100 % 10)))) (AD1.ext G.old.2) ⟨ofn_nn (by omega), ofn_lt (n := 100) (by omega) (by decide)⟩ (by rw [ofn_nat (by omega)]; exact dOnes_at (by omega)) d34_54 rfl
  obtain ⟨g1, G', As, Ks⟩ := G.bastore 56 (bs.length + 6) Ab ⟨ofn_nn (by omega), ofn_lt (by omega) hcap⟩ (ofn_nat (by omega)) (by simp) (Or.inl (mm 0 rfl)) (mm 0 rfl) d34_55 rfl
  replace G := G'; clear G'
  rw [set_app2 _ _ 6 _ _ rfl, dig_b (by omega)] at As
  replace Ab : Arv Z g1 b kb .byte (Int32.ofNat cap) (bs ++ [(.int 0), (.int 0), (.int 0), (.int 0), (.int 0), (.int 0), (.int (Int32.ofNat (48 + N % 100 % 10)))]) (.int 0) := As
  replace G := G.aloadN 57 d34_56 rfl rfl rfl |>.iincV 60 #[.val (.int (-(Int32.ofNat (N / 100)))), .val (.int (Int32.ofNat (bs.length + 7))), .val (.ref b), .val (.int (-(Int32.ofNat (N / 100)))), .val (.int (Int32.ofNat (N % 100))), .val (.int (Int32.ofNat (bs.length + 5))), .val (.int (0 : Int32))] (Int32.ofNat (bs.length + 5)) d34_57 rfl (ofn_pred (bs.length + 5)) rfl rfl |>.iload 62 d34_60 rfl rfl |>.gets 65 (host := "") (Or.inl (hw _ (mm 236 rfl))) Via.refl (G.sta SD2) d34_62 rfl |>.iload 67 d34_65 rfl rfl |>.baload 68 (v := (.int (Int32.ofNat (48 + N % 100 / 10)))) (AD2.ext G.old.2) ⟨ofn_nn (by omega), ofn_lt (n := 100) (by omega) (by decide)⟩ (by rw [ofn_nat (by omega)]; exact dTens_at (by omega)) d34_67 rfl
  obtain ⟨g2, G', As, Ks⟩ := G.bastore 69 (bs.length + 5) Ab ⟨ofn_nn (by omega), ofn_lt (by omega) hcap⟩ (ofn_nat (by omega)) (by simp) (Or.inl (mm 0 rfl)) (mm 0 rfl) d34_68 rfl
  replace G := G'; clear G'
  rw [set_app2 _ _ 5 _ _ rfl, dig_b (by omega)] at As
  replace Ab : Arv Z g2 b kb .byte (Int32.ofNat cap) (bs ++ [(.int 0), (.int 0), (.int 0), (.int 0), (.int 0), (.int (Int32.ofNat (48 + N % 100 / 10))), (.int (Int32.ofNat (48 + N % 100 % 10)))]) (.int 0) := As
  replace G := G.goto 22 d34_69 (by decide) (by decide) |>.iloadN 23 d34_22 rfl rfl |>.bipush 25 (-100 : Int32) d34_23 (by decide) rfl |>.icmpF 28 d34_25 (XT.ii_gt_f (ng_ngt (K := -100) (by omega) rfl (by omega))) rfl |>.iloadN 29 d34_28 rfl rfl |>.bipush 31 (100 : Int32) d34_29 (by decide) rfl |>.idiv 32 d34_31 (by decide) rfl |>.top (y := (.int (-(Int32.ofNat (N / 100 / 100))))) (congrArg Value.int (ng_div (by omega)))
  replace G := G.istoreN 33 #[.val (.int (-(Int32.ofNat (N / 100)))), .val (.int (Int32.ofNat (bs.length + 7))), .val (.ref b), .val (.int (-(Int32.ofNat (N / 100 / 100)))), .val (.int (Int32.ofNat (N % 100))), .val (.int (Int32.ofNat (bs.length + 5))), .val (.int (0 : Int32))] d34_32 rfl rfl |>.iloadN 34 d34_33 rfl rfl |>.bipush 36 (100 : Int32) d34_34 (by decide) rfl |>.imul 37 d34_36 rfl |>.iloadN 38 d34_37 rfl rfl |>.isub 39 d34_38 rfl |>.top (y := (.int (Int32.ofNat (N / 100 % 100)))) (congrArg Value.int (ng_rem (by omega))) |>.istore 41 #[.val (.int (-(Int32.ofNat (N / 100)))), .val (.int (Int32.ofNat (bs.length + 7))), .val (.ref b), .val (.int (-(Int32.ofNat (N / 100 / 100)))), .val (.int (Int32.ofNat (N / 100 % 100))), .val (.int (Int32.ofNat (bs.length + 5))), .val (.int (0 : Int32))] d34_39 rfl rfl
  replace G := G.iloadN 42 d34_41 rfl rfl |>.istoreN 43 #[.val (.int (-(Int32.ofNat (N / 100 / 100)))), .val (.int (Int32.ofNat (bs.length + 7))), .val (.ref b), .val (.int (-(Int32.ofNat (N / 100 / 100)))), .val (.int (Int32.ofNat (N / 100 % 100))), .val (.int (Int32.ofNat (bs.length + 5))), .val (.int (0 : Int32))] d34_42 rfl rfl |>.aloadN 44 d34_43 rfl rfl rfl |>.iincV 47 #[.val (.int (-(Int32.ofNat (N / 100 / 100)))), .val (.int (Int32.ofNat (bs.length + 7))), .val (.ref b), .val (.int (-(Int32.ofNat (N / 100 / 100)))), .val (.int (Int32.ofNat (N / 100 % 100))), .val (.int (Int32.ofNat (bs.length + 4))), .val (.int (0 : Int32))] (Int32.ofNat (bs.length + 4)) d34_44 rfl (ofn_pred (bs.length + 4)) rfl rfl |>.iload 49 d34_47 rfl rfl |>.gets 52 (host := "") (Or.inl (hw _ (mm 189 rfl))) Via.refl (G.sta SD1) d34_49 rfl |>.iload 54 d34_52 rfl rfl |>.baload 55 (v := (.int (Int32.ofNat (48 + N / 100 % 100 % 10)))) (AD1.ext G.old.2) ⟨ofn_nn (by omega), ofn_lt (n := 100) (by omega) (by decide)⟩ (by rw [ofn_nat (by omega)]; exact dOnes_at (by omega)) d34_54 rfl
  obtain ⟨g3, G', As, Ks⟩ := G.bastore 56 (bs.length + 4) Ab ⟨ofn_nn (by omega), ofn_lt (by omega) hcap⟩ (ofn_nat (by omega)) (by simp) (Or.inl (mm 0 rfl)) (mm 0 rfl) d34_55 rfl
  replace G := G'; clear G'
  rw [set_app2 _ _ 4 _ _ rfl, dig_b (by omega)] at As
  replace Ab : Arv Z g3 b kb .byte (Int32.ofNat cap) (bs ++ [(.int 0), (.int 0), (.int 0), (.int 0), (.int (Int32.ofNat (48 + N / 100 % 100 % 10))), (.int (Int32.ofNat (48 + N % 100 / 10))), (.int (Int32.ofNat (48 + N % 100 % 10)))]) (.int 0) := As
  replace G := G.aloadN 57 d34_56 rfl rfl rfl |>.iincV 60 #[.val (.int (-(Int32.ofNat (N / 100 / 100)))), .val (.int (Int32.ofNat (bs.length + 7))), .val (.ref b), .val (.int (-(Int32.ofNat (N / 100 / 100)))), .val (.int (Int32.ofNat (N / 100 % 100))), .val (.int (Int32.ofNat (bs.length + 3))), .val (.int (0 : Int32))] (Int32.ofNat (bs.length + 3)) d34_57 rfl (ofn_pred (bs.length + 3)) rfl rfl |>.iload 62 d34_60 rfl rfl |>.gets 65 (host := "") (Or.inl (hw _ (mm 236 rfl))) Via.refl (G.sta SD2) d34_62 rfl |>.iload 67 d34_65 rfl rfl |>.baload 68 (v := (.int (Int32.ofNat (48 + N / 100 % 100 / 10)))) (AD2.ext G.old.2) ⟨ofn_nn (by omega), ofn_lt (n := 100) (by omega) (by decide)⟩ (by rw [ofn_nat (by omega)]; exact dTens_at (by omega)) d34_67 rfl
  obtain ⟨g4, G', As, Ks⟩ := G.bastore 69 (bs.length + 3) Ab ⟨ofn_nn (by omega), ofn_lt (by omega) hcap⟩ (ofn_nat (by omega)) (by simp) (Or.inl (mm 0 rfl)) (mm 0 rfl) d34_68 rfl
  replace G := G'; clear G'
  rw [set_app2 _ _ 3 _ _ rfl, dig_b (by omega)] at As
  replace Ab : Arv Z g4 b kb .byte (Int32.ofNat cap) (bs ++ [(.int 0), (.int 0), (.int 0), (.int (Int32.ofNat (48 + N / 100 % 100 / 10))), (.int (Int32.ofNat (48 + N / 100 % 100 % 10))), (.int (Int32.ofNat (48 + N % 100 / 10))), (.int (Int32.ofNat (48 + N % 100 % 10)))]) (.int 0) := As
  replace G := G.goto 22 d34_69 (by decide) (by decide) |>.iloadN 23 d34_22 rfl rfl |>.bipush 25 (-100 : Int32) d34_23 (by decide) rfl |>.icmpF 28 d34_25 (XT.ii_gt_f (ng_ngt (K := -100) (by omega) rfl (by omega))) rfl |>.iloadN 29 d34_28 rfl rfl |>.bipush 31 (100 : Int32) d34_29 (by decide) rfl |>.idiv 32 d34_31 (by decide) rfl |>.top (y := (.int (-(Int32.ofNat (N / 100 / 100 / 100))))) (congrArg Value.int (ng_div (by omega)))
  replace G := G.istoreN 33 #[.val (.int (-(Int32.ofNat (N / 100 / 100)))), .val (.int (Int32.ofNat (bs.length + 7))), .val (.ref b), .val (.int (-(Int32.ofNat (N / 100 / 100 / 100)))), .val (.int (Int32.ofNat (N / 100 % 100))), .val (.int (Int32.ofNat (bs.length + 3))), .val (.int (0 : Int32))] d34_32 rfl rfl |>.iloadN 34 d34_33 rfl rfl |>.bipush 36 (100 : Int32) d34_34 (by decide) rfl |>.imul 37 d34_36 rfl |>.iloadN 38 d34_37 rfl rfl |>.isub 39 d34_38 rfl |>.top (y := (.int (Int32.ofNat (N / 100 / 100 % 100)))) (congrArg Value.int (ng_rem (by omega))) |>.istore 41 #[.val (.int (-(Int32.ofNat (N / 100 / 100)))), .val (.int (Int32.ofNat (bs.length + 7))), .val (.ref b), .val (.int (-(Int32.ofNat (N / 100 / 100 / 100)))), .val (.int (Int32.ofNat (N / 100 / 100 % 100))), .val (.int (Int32.ofNat (bs.length + 3))), .val (.int (0 : Int32))] d34_39 rfl rfl
  replace G := G.iloadN 42 d34_41 rfl rfl |>.istoreN 43 #[.val (.int (-(Int32.ofNat (N / 100 / 100 / 100)))), .val (.int (Int32.ofNat (bs.length + 7))), .val (.ref b), .val (.int (-(Int32.ofNat (N / 100 / 100 / 100)))), .val (.int (Int32.ofNat (N / 100 / 100 % 100))), .val (.int (Int32.ofNat (bs.length + 3))), .val (.int (0 : Int32))] d34_42 rfl rfl |>.aloadN 44 d34_43 rfl rfl rfl |>.iincV 47 #[.val (.int (-(Int32.ofNat (N / 100 / 100 / 100)))), .val (.int (Int32.ofNat (bs.length + 7))), .val (.ref b), .val (.int (-(Int32.ofNat (N / 100 / 100 / 100)))), .val (.int (Int32.ofNat (N / 100 / 100 % 100))), .val (.int (Int32.ofNat (bs.length + 2))), .val (.int (0 : Int32))] (Int32.ofNat (bs.length + 2)) d34_44 rfl (ofn_pred (bs.length + 2)) rfl rfl |>.iload 49 d34_47 rfl rfl |>.gets 52 (host := "") (Or.inl (hw _ (mm 189 rfl))) Via.refl (G.sta SD1) d34_49 rfl |>.iload 54 d34_52 rfl rfl |>.baload 55 (v := (.int (Int32.ofNat (48 + N / 100 / 100 % 100 % 10)))) (AD1.ext G.old.2) ⟨ofn_nn (by omega), ofn_lt (n := 100) (by omega) (by decide)⟩ (by rw [ofn_nat (by omega)]; exact dOnes_at (by omega)) d34_54 rfl
  obtain ⟨g5, G', As, Ks⟩ := G.bastore 56 (bs.length + 2) Ab ⟨ofn_nn (by omega), ofn_lt (by omega) hcap⟩ (ofn_nat (by omega)) (by simp) (Or.inl (mm 0 rfl)) (mm 0 rfl) d34_55 rfl
  replace G := G'; clear G'
  rw [set_app2 _ _ 2 _ _ rfl, dig_b (by omega)] at As
  replace Ab : Arv Z g5 b kb .byte (Int32.ofNat cap) (bs ++ [(.int 0), (.int 0), (.int (Int32.ofNat (48 + N / 100 / 100 % 100 % 10))), (.int (Int32.ofNat (48 + N / 100 % 100 / 10))), (.int (Int32.ofNat (48 + N / 100 % 100 % 10))), (.int (Int32.ofNat (48 + N % 100 / 10))), (.int (Int32.ofNat (48 + N % 100 % 10)))]) (.int 0) := As
  replace G := G.aloadN 57 d34_56 rfl rfl rfl |>.iincV 60 #[.val (.int (-(Int32.ofNat (N / 100 / 100 / 100)))), .val (.int (Int32.ofNat (bs.length + 7))), .val (.ref b), .val (.int (-(Int32.ofNat (N / 100 / 100 / 100)))), .val (.int (Int32.ofNat (N / 100 / 100 % 100))), .val (.int (Int32.ofNat (bs.length + 1))), .val (.int (0 : Int32))] (Int32.ofNat (bs.length + 1)) d34_57 rfl (ofn_pred (bs.length + 1)) rfl rfl |>.iload 62 d34_60 rfl rfl |>.gets 65 (host := "") (Or.inl (hw _ (mm 236 rfl))) Via.refl (G.sta SD2) d34_62 rfl |>.iload 67 d34_65 rfl rfl |>.baload 68 (v := (.int (Int32.ofNat (48 + N / 100 / 100 % 100 / 10)))) (AD2.ext G.old.2) ⟨ofn_nn (by omega), ofn_lt (n := 100) (by omega) (by decide)⟩ (by rw [ofn_nat (by omega)]; exact dTens_at (by omega)) d34_67 rfl
  obtain ⟨g6, G', As, Ks⟩ := G.bastore 69 (bs.length + 1) Ab ⟨ofn_nn (by omega), ofn_lt (by omega) hcap⟩ (ofn_nat (by omega)) (by simp) (Or.inl (mm 0 rfl)) (mm 0 rfl) d34_68 rfl
  replace G := G'; clear G'
  rw [set_app2 _ _ 1 _ _ rfl, dig_b (by omega)] at As
  replace Ab : Arv Z g6 b kb .byte (Int32.ofNat cap) (bs ++ [(.int 0), (.int (Int32.ofNat (48 + N / 100 / 100 % 100 / 10))), (.int (Int32.ofNat (48 + N / 100 / 100 % 100 % 10))), (.int (Int32.ofNat (48 + N / 100 % 100 / 10))), (.int (Int32.ofNat (48 + N / 100 % 100 % 10))), (.int (Int32.ofNat (48 + N % 100 / 10))), (.int (Int32.ofNat (48 + N % 100 % 10)))]) (.int 0) := As
  replace G := G.goto 22 d34_69 (by decide) (by decide) |>.iloadN 23 d34_22 rfl rfl |>.bipush 25 (-100 : Int32) d34_23 (by decide) rfl |>.icmpT 72 d34_25 (XT.ii_gt_t (ng_gt (K := -100) (by omega) rfl (by omega))) (by decide) (by decide) |>.aloadN 73 d34_72 rfl rfl rfl |>.iincV 76 #[.val (.int (-(Int32.ofNat (N / 100 / 100 / 100)))), .val (.int (Int32.ofNat (bs.length + 7))), .val (.ref b), .val (.int (-(Int32.ofNat (N / 100 / 100 / 100)))), .val (.int (Int32.ofNat (N / 100 / 100 % 100))), .val (.int (Int32.ofNat (bs.length + 0))), .val (.int (0 : Int32))] (Int32.ofNat (bs.length + 0)) d34_73 rfl (ofn_pred (bs.length + 0)) rfl rfl |>.iload 78 d34_76 rfl rfl |>.gets 81 (host := "") (Or.inl (hw _ (mm 189 rfl))) Via.refl (G.sta SD1) d34_78 rfl
  replace G := G.iloadN 82 d34_81 rfl rfl |>.ineg 83 d34_82 rfl |>.top (y := (.int (Int32.ofNat (N / 100 / 100 / 100)))) (congrArg Value.int Int32.neg_neg) |>.baload 84 (v := (.int (Int32.ofNat (48 + (N / 100 / 100 / 100) % 10)))) (AD1.ext G.old.2) ⟨ofn_nn (by omega), ofn_lt (n := 100) (by omega) (by decide)⟩ (by rw [ofn_nat (by omega)]; exact dOnes_at (by omega)) d34_83 rfl
  obtain ⟨g7, G', As, Ks⟩ := G.bastore 85 (bs.length + 0) Ab ⟨ofn_nn (by omega), ofn_lt (by omega) hcap⟩ (ofn_nat (by omega)) (by simp) (Or.inl (mm 0 rfl)) (mm 0 rfl) d34_84 rfl
  replace G := G'; clear G'
  rw [set_app2 _ _ 0 _ _ rfl, dig_b (by omega)] at As
  replace Ab : Arv Z g7 b kb .byte (Int32.ofNat cap) (bs ++ [(.int (Int32.ofNat (48 + (N / 100 / 100 / 100) % 10))), (.int (Int32.ofNat (48 + N / 100 / 100 % 100 / 10))), (.int (Int32.ofNat (48 + N / 100 / 100 % 100 % 10))), (.int (Int32.ofNat (48 + N / 100 % 100 / 10))), (.int (Int32.ofNat (48 + N / 100 % 100 % 10))), (.int (Int32.ofNat (48 + N % 100 / 10))), (.int (Int32.ofNat (48 + N % 100 % 10)))]) (.int 0) := As
  replace G := G.iloadN 86 d34_85 rfl rfl |>.bipush 88 (-9 : Int32) d34_86 (by decide) rfl |>.icmpT 104 d34_88 (XT.ii_ge_t (ng_nlt (K := -9) (by omega) rfl (by omega))) (by decide) (by decide) |>.iload 106 d34_104 rfl rfl |>.ifT 118 d34_106 (XT.i0_eq_t rfl) (by decide) (by decide) |>.iload 120 d34_118 rfl rfl
  have hdg : ([(.int (Int32.ofNat (48 + (N / 100 / 100 / 100) % 10))), (.int (Int32.ofNat (48 + N / 100 / 100 % 100 / 10))), (.int (Int32.ofNat (48 + N / 100 / 100 % 100 % 10))), (.int (Int32.ofNat (48 + N / 100 % 100 / 10))), (.int (Int32.ofNat (48 + N / 100 % 100 % 10))), (.int (Int32.ofNat (48 + N % 100 / 10))), (.int (Int32.ofNat (48 + N % 100 % 10)))] : List Value) = [dg N 6, dg N 5, dg N 4, dg N 3, dg N 2, dg N 1, dg N 0] := by
    simp only [dg, List.cons.injEq, Value.int.injEq, and_true, Nat.reducePow]
    refine ⟨?_, ?_, ?_, ?_, ?_, ?_, ?_⟩ <;> first | trivial | (congr 2; omega)
  rw [hdg] at Ab
  exact G.retI hret hlk d34_120 [] all0 ⟨_, rfl, rfl, Ab, rfl⟩ (nle rfl) (nle rfl)
theorem c_getC8 (l : Launch) (Z : State) (a0 : Array Value) (hw : ∀ d ∈ tables_1, d.before a0 Z = true) (hEW : EW Z a0 consts_1) (n0 : Nat) (c1 : Int32) (hc1 : ¬ c1 = 0) (S1 : Sta Z Z.heap "java/lang/String" "COMPACT_STRINGS" "Z" (.int c1)) (t1 t2 : Addr) (kt1 kt2 : ClassId) (SD1 : Sta Z Z.heap "java/lang/Integer" "DigitOnes" "[B" (.ref t1)) (SD2 : Sta Z Z.heap "java/lang/Integer" "DigitTens" "[B" (.ref t2)) (AD1 : Arv Z Z.heap t1 kt1 .byte 100 dOnes (.int 0)) (AD2 : Arv Z Z.heap t2 kt2 .byte 100 dTens (.int 0)) (b : Addr) (kb : ClassId) (cap : Nat) (bs : List Value) (N : Nat) {h0 : Heap} (o1 : Old Z n0 h0) (ge_b : n0 ≤ b) (hlo : 10000000 ≤ N) (hhi : N < 100000000) (hle : bs.length + 8 ≤ cap) (hcap : cap < 2147483648) (Ab : Arv Z h0 b kb .byte (Int32.ofNat cap) bs (.int 0)) :
    Con Z a0 l (⟨"java/lang/Integer", "getChars", "(II[B)I"⟩ : MethodName) jdk_33_method_12_code 7 (some .int) ({ frames := 0, cells := 0, slots := 0, locals := 0 } : Room) [] #[(.int (Int32.ofNat N)), (.int (Int32.ofNat (bs.length + 8))), (.ref b)] consts_1 h0 n0 [b] [b] (VV fun w h so => w = .int (Int32.ofNat (bs.length + 0)) ∧ Arv Z h b kb .byte (Int32.ofNat cap) (bs ++ [dg N 7, dg N 6, dg N 5, dg N 4, dg N 3, dg N 2, dg N 1, dg N 0]) (.int 0) ∧ so = []) := by
  refine Con.body (plainFor_of_name pn_java_lang_Integer) hEW o1 (allS ge_b all0) #[.val (.int (Int32.ofNat N)), .val (.int (Int32.ofNat (bs.length + 8))), .val (.ref b), .unset, .unset, .unset, .unset] (fun m => by first | (simp [entryFrame, mkF, argsToLocals, Value.category]; done) | rfl) ?_
  intro p e s m below meth c B hnm hret hlk G
  have hN : N < 2147483648 := by omega
  have hn : bs.length < 2147483648 := by omega
  replace Ab := Ab.pad (vs' := bs ++ [(.int 0), (.int 0), (.int 0), (.int 0), (.int 0), (.int 0), (.int 0), (.int 0)]) (pad_rep bs (.int 0) 8)
  replace G := G.iloadN 1 d34_0 rfl rfl |>.istore 3 #[.val (.int (Int32.ofNat N)), .val (.int (Int32.ofNat (bs.length + 8))), .val (.ref b), .unset, .unset, .val (.int (Int32.ofNat (bs.length + 8))), .unset] d34_1 rfl rfl |>.iloadN 4 d34_3 rfl rfl |>.ifT 11 d34_4 (XT.i0_ge_t (ofn_nn hN)) (by decide) (by decide) |>.iconst 12 (0 : Int32) d34_11 rfl rfl |>.istore 14 #[.val (.int (Int32.ofNat N)), .val (.int (Int32.ofNat (bs.length + 8))), .val (.ref b), .unset, .unset, .val (.int (Int32.ofNat (bs.length + 8))), .val (.int (0 : Int32))] d34_12 rfl rfl |>.iload 16 d34_14 rfl rfl |>.ifF 19 d34_16 (XT.i0_ne_f rfl) rfl
  replace G := G.iloadN 20 d34_19 rfl rfl |>.ineg 21 d34_20 rfl |>.istoreN 22 #[.val (.int (-(Int32.ofNat N))), .val (.int (Int32.ofNat (bs.length + 8))), .val (.ref b), .unset, .unset, .val (.int (Int32.ofNat (bs.length + 8))), .val (.int (0 : Int32))] d34_21 rfl rfl |>.iloadN 23 d34_22 rfl rfl |>.bipush 25 (-100 : Int32) d34_23 (by decide) rfl |>.icmpF 28 d34_25 (XT.ii_gt_f (ng_ngt (K := -100) (by omega) rfl (by omega))) rfl |>.iloadN 29 d34_28 rfl rfl |>.bipush 31 (100 : Int32) d34_29 (by decide) rfl
  replace G := G.idiv 32 d34_31 (by decide) rfl |>.top (y := (.int (-(Int32.ofNat (N / 100))))) (congrArg Value.int (ng_div (by omega))) |>.istoreN 33 #[.val (.int (-(Int32.ofNat N))), .val (.int (Int32.ofNat (bs.length + 8))), .val (.ref b), .val (.int (-(Int32.ofNat (N / 100)))), .unset, .val (.int (Int32.ofNat (bs.length + 8))), .val (.int (0 : Int32))] d34_32 rfl rfl |>.iloadN 34 d34_33 rfl rfl |>.bipush 36 (100 : Int32) d34_34 (by decide) rfl |>.imul 37 d34_36 rfl |>.iloadN 38 d34_37 rfl rfl |>.isub 39 d34_38 rfl
  replace G := G.top (y := (.int (Int32.ofNat (N % 100)))) (congrArg Value.int (ng_rem (by omega))) |>.istore 41 #[.val (.int (-(Int32.ofNat N))), .val (.int (Int32.ofNat (bs.length + 8))), .val (.ref b), .val (.int (-(Int32.ofNat (N / 100)))), .val (.int (Int32.ofNat (N % 100))), .val (.int (Int32.ofNat (bs.length + 8))), .val (.int (0 : Int32))] d34_39 rfl rfl |>.iloadN 42 d34_41 rfl rfl |>.istoreN 43 #[.val (.int (-(Int32.ofNat (N / 100)))), .val (.int (Int32.ofNat (bs.length + 8))), .val (.ref b), .val (.int (-(Int32.ofNat (N / 100)))), .val (.int (Int32.ofNat (N % 100))), .val (.int (Int32.ofNat (bs.length + 8))), .val (.int (0 : Int32))] d34_42 rfl rfl |>.aloadN 44 d34_43 rfl rfl rfl |>.iincV 47 #[.val (.int (-(Int32.ofNat (N / 100)))), .val (.int (Int32.ofNat (bs.length + 8))), .val (.ref b), .val (.int (-(Int32.ofNat (N / 100)))), .val (.int (Int32.ofNat (N % 100))), .val (.int (Int32.ofNat (bs.length + 7))), .val (.int (0 : Int32))] (Int32.ofNat (bs.length + 7)) d34_44 rfl (ofn_pred (bs.length + 7)) rfl rfl |>.iload 49 d34_47 rfl rfl |>.gets 52 (host := "") (Or.inl (hw _ (mm 189 rfl))) Via.refl (G.sta SD1) d34_49 rfl
  replace G := G.iload 54 d34_52 rfl rfl |>.baload 55 (v := (.int (Int32.ofNat (48 + N % 100 % 10)))) (AD1.ext G.old.2) ⟨ofn_nn (by omega), ofn_lt (n := 100) (by omega) (by decide)⟩ (by rw [ofn_nat (by omega)]; exact dOnes_at (by omega)) d34_54 rfl
  obtain ⟨g1, G', As, Ks⟩ := G.bastore 56 (bs.length + 7) Ab ⟨ofn_nn (by omega), ofn_lt (by omega) hcap⟩ (ofn_nat (by omega)) (by simp) (Or.inl (mm 0 rfl)) (mm 0 rfl) d34_55 rfl
  replace G := G'; clear G'
  rw [set_app2 _ _ 7 _ _ rfl, dig_b (by omega)] at As
  replace Ab : Arv Z g1 b kb .byte (Int32.ofNat cap) (bs ++ [(.int 0), (.int 0), (.int 0), (.int 0), (.int 0), (.int 0), (.int 0), (.int (Int32.ofNat (48 + N % 100 % 10)))]) (.int 0) := As
  replace G := G.aloadN 57 d34_56 rfl rfl rfl |>.iincV 60 #[.val (.int (-(Int32.ofNat (N / 100)))), .val (.int (Int32.ofNat (bs.length + 8))), .val (.ref b), .val (.int (-(Int32.ofNat (N / 100)))), .val (.int (Int32.ofNat (N % 100))), .val (.int (Int32.ofNat (bs.length + 6))), .val (.int (0 : Int32))] (Int32.ofNat (bs.length + 6)) d34_57 rfl (ofn_pred (bs.length + 6)) rfl rfl |>.iload 62 d34_60 rfl rfl |>.gets 65 (host := "") (Or.inl (hw _ (mm 236 rfl))) Via.refl (G.sta SD2) d34_62 rfl |>.iload 67 d34_65 rfl rfl |>.baload 68 (v := (.int (Int32.ofNat (48 + N % 100 / 10)))) (AD2.ext G.old.2) ⟨ofn_nn (by omega), ofn_lt (n := 100) (by omega) (by decide)⟩ (by rw [ofn_nat (by omega)]; exact dTens_at (by omega)) d34_67 rfl
  obtain ⟨g2, G', As, Ks⟩ := G.bastore 69 (bs.length + 6) Ab ⟨ofn_nn (by omega), ofn_lt (by omega) hcap⟩ (ofn_nat (by omega)) (by simp) (Or.inl (mm 0 rfl)) (mm 0 rfl) d34_68 rfl
  replace G := G'; clear G'
  rw [set_app2 _ _ 6 _ _ rfl, dig_b (by omega)] at As
  replace Ab : Arv Z g2 b kb .byte (Int32.ofNat cap) (bs ++ [(.int 0), (.int 0), (.int 0), (.int 0), (.int 0), (.int 0), (.int (Int32.ofNat (48 + N % 100 / 10))), (.int (Int32.ofNat (48 + N % 100 % 10)))]) (.int 0) := As
  replace G := G.goto 22 d34_69 (by decide) (by decide) |>.iloadN 23 d34_22 rfl rfl |>.bipush 25 (-100 : Int32) d34_23 (by decide) rfl |>.icmpF 28 d34_25 (XT.ii_gt_f (ng_ngt (K := -100) (by omega) rfl (by omega))) rfl |>.iloadN 29 d34_28 rfl rfl |>.bipush 31 (100 : Int32) d34_29 (by decide) rfl |>.idiv 32 d34_31 (by decide) rfl |>.top (y := (.int (-(Int32.ofNat (N / 100 / 100))))) (congrArg Value.int (ng_div (by omega)))
  replace G := G.istoreN 33 #[.val (.int (-(Int32.ofNat (N / 100)))), .val (.int (Int32.ofNat (bs.length + 8))), .val (.ref b), .val (.int (-(Int32.ofNat (N / 100 / 100)))), .val (.int (Int32.ofNat (N % 100))), .val (.int (Int32.ofNat (bs.length + 6))), .val (.int (0 : Int32))] d34_32 rfl rfl |>.iloadN 34 d34_33 rfl rfl |>.bipush 36 (100 : Int32) d34_34 (by decide) rfl |>.imul 37 d34_36 rfl |>.iloadN 38 d34_37 rfl rfl |>.isub 39 d34_38 rfl |>.top (y := (.int (Int32.ofNat (N / 100 % 100)))) (congrArg Value.int (ng_rem (by omega))) |>.istore 41 #[.val (.int (-(Int32.ofNat (N / 100)))), .val (.int (Int32.ofNat (bs.length + 8))), .val (.ref b), .val (.int (-(Int32.ofNat (N / 100 / 100)))), .val (.int (Int32.ofNat (N / 100 % 100))), .val (.int (Int32.ofNat (bs.length + 6))), .val (.int (0 : Int32))] d34_39 rfl rfl
  replace G := G.iloadN 42 d34_41 rfl rfl |>.istoreN 43 #[.val (.int (-(Int32.ofNat (N / 100 / 100)))), .val (.int (Int32.ofNat (bs.length + 8))), .val (.ref b), .val (.int (-(Int32.ofNat (N / 100 / 100)))), .val (.int (Int32.ofNat (N / 100 % 100))), .val (.int (Int32.ofNat (bs.length + 6))), .val (.int (0 : Int32))] d34_42 rfl rfl |>.aloadN 44 d34_43 rfl rfl rfl |>.iincV 47 #[.val (.int (-(Int32.ofNat (N / 100 / 100)))), .val (.int (Int32.ofNat (bs.length + 8))), .val (.ref b), .val (.int (-(Int32.ofNat (N / 100 / 100)))), .val (.int (Int32.ofNat (N / 100 % 100))), .val (.int (Int32.ofNat (bs.length + 5))), .val (.int (0 : Int32))] (Int32.ofNat (bs.length + 5)) d34_44 rfl (ofn_pred (bs.length + 5)) rfl rfl |>.iload 49 d34_47 rfl rfl |>.gets 52 (host := "") (Or.inl (hw _ (mm 189 rfl))) Via.refl (G.sta SD1) d34_49 rfl |>.iload 54 d34_52 rfl rfl |>.baload 55 (v := (.int (Int32.ofNat (48 + N / 100 % 100 % 10)))) (AD1.ext G.old.2) ⟨ofn_nn (by omega), ofn_lt (n := 100) (by omega) (by decide)⟩ (by rw [ofn_nat (by omega)]; exact dOnes_at (by omega)) d34_54 rfl
  obtain ⟨g3, G', As, Ks⟩ := G.bastore 56 (bs.length + 5) Ab ⟨ofn_nn (by omega), ofn_lt (by omega) hcap⟩ (ofn_nat (by omega)) (by simp) (Or.inl (mm 0 rfl)) (mm 0 rfl) d34_55 rfl
  replace G := G'; clear G'
  rw [set_app2 _ _ 5 _ _ rfl, dig_b (by omega)] at As
  replace Ab : Arv Z g3 b kb .byte (Int32.ofNat cap) (bs ++ [(.int 0), (.int 0), (.int 0), (.int 0), (.int 0), (.int (Int32.ofNat (48 + N / 100 % 100 % 10))), (.int (Int32.ofNat (48 + N % 100 / 10))), (.int (Int32.ofNat (48 + N % 100 % 10)))]) (.int 0) := As
  replace G := G.aloadN 57 d34_56 rfl rfl rfl |>.iincV 60 #[.val (.int (-(Int32.ofNat (N / 100 / 100)))), .val (.int (Int32.ofNat (bs.length + 8))), .val (.ref b), .val (.int (-(Int32.ofNat (N / 100 / 100)))), .val (.int (Int32.ofNat (N / 100 % 100))), .val (.int (Int32.ofNat (bs.length + 4))), .val (.int (0 : Int32))] (Int32.ofNat (bs.length + 4)) d34_57 rfl (ofn_pred (bs.length + 4)) rfl rfl |>.iload 62 d34_60 rfl rfl |>.gets 65 (host := "") (Or.inl (hw _ (mm 236 rfl))) Via.refl (G.sta SD2) d34_62 rfl |>.iload 67 d34_65 rfl rfl |>.baload 68 (v := (.int (Int32.ofNat (48 + N / 100 % 100 / 10)))) (AD2.ext G.old.2) ⟨ofn_nn (by omega), ofn_lt (n := 100) (by omega) (by decide)⟩ (by rw [ofn_nat (by omega)]; exact dTens_at (by omega)) d34_67 rfl
  obtain ⟨g4, G', As, Ks⟩ := G.bastore 69 (bs.length + 4) Ab ⟨ofn_nn (by omega), ofn_lt (by omega) hcap⟩ (ofn_nat (by omega)) (by simp) (Or.inl (mm 0 rfl)) (mm 0 rfl) d34_68 rfl
  replace G := G'; clear G'
  rw [set_app2 _ _ 4 _ _ rfl, dig_b (by omega)] at As
  replace Ab : Arv Z g4 b kb .byte (Int32.ofNat cap) (bs ++ [(.int 0), (.int 0), (.int 0), (.int 0), (.int (Int32.ofNat (48 + N / 100 % 100 / 10))), (.int (Int32.ofNat (48 + N / 100 % 100 % 10))), (.int (Int32.ofNat (48 + N % 100 / 10))), (.int (Int32.ofNat (48 + N % 100 % 10)))]) (.int 0) := As
  replace G := G.goto 22 d34_69 (by decide) (by decide) |>.iloadN 23 d34_22 rfl rfl |>.bipush 25 (-100 : Int32) d34_23 (by decide) rfl |>.icmpF 28 d34_25 (XT.ii_gt_f (ng_ngt (K := -100) (by omega) rfl (by omega))) rfl |>.iloadN 29 d34_28 rfl rfl |>.bipush 31 (100 : Int32) d34_29 (by decide) rfl |>.idiv 32 d34_31 (by decide) rfl |>.top (y := (.int (-(Int32.ofNat (N / 100 / 100 / 100))))) (congrArg Value.int (ng_div (by omega)))
  replace G := G.istoreN 33 #[.val (.int (-(Int32.ofNat (N / 100 / 100)))), .val (.int (Int32.ofNat (bs.length + 8))), .val (.ref b), .val (.int (-(Int32.ofNat (N / 100 / 100 / 100)))), .val (.int (Int32.ofNat (N / 100 % 100))), .val (.int (Int32.ofNat (bs.length + 4))), .val (.int (0 : Int32))] d34_32 rfl rfl |>.iloadN 34 d34_33 rfl rfl |>.bipush 36 (100 : Int32) d34_34 (by decide) rfl |>.imul 37 d34_36 rfl |>.iloadN 38 d34_37 rfl rfl |>.isub 39 d34_38 rfl |>.top (y := (.int (Int32.ofNat (N / 100 / 100 % 100)))) (congrArg Value.int (ng_rem (by omega))) |>.istore 41 #[.val (.int (-(Int32.ofNat (N / 100 / 100)))), .val (.int (Int32.ofNat (bs.length + 8))), .val (.ref b), .val (.int (-(Int32.ofNat (N / 100 / 100 / 100)))), .val (.int (Int32.ofNat (N / 100 / 100 % 100))), .val (.int (Int32.ofNat (bs.length + 4))), .val (.int (0 : Int32))] d34_39 rfl rfl
  replace G := G.iloadN 42 d34_41 rfl rfl |>.istoreN 43 #[.val (.int (-(Int32.ofNat (N / 100 / 100 / 100)))), .val (.int (Int32.ofNat (bs.length + 8))), .val (.ref b), .val (.int (-(Int32.ofNat (N / 100 / 100 / 100)))), .val (.int (Int32.ofNat (N / 100 / 100 % 100))), .val (.int (Int32.ofNat (bs.length + 4))), .val (.int (0 : Int32))] d34_42 rfl rfl |>.aloadN 44 d34_43 rfl rfl rfl |>.iincV 47 #[.val (.int (-(Int32.ofNat (N / 100 / 100 / 100)))), .val (.int (Int32.ofNat (bs.length + 8))), .val (.ref b), .val (.int (-(Int32.ofNat (N / 100 / 100 / 100)))), .val (.int (Int32.ofNat (N / 100 / 100 % 100))), .val (.int (Int32.ofNat (bs.length + 3))), .val (.int (0 : Int32))] (Int32.ofNat (bs.length + 3)) d34_44 rfl (ofn_pred (bs.length + 3)) rfl rfl |>.iload 49 d34_47 rfl rfl |>.gets 52 (host := "") (Or.inl (hw _ (mm 189 rfl))) Via.refl (G.sta SD1) d34_49 rfl |>.iload 54 d34_52 rfl rfl |>.baload 55 (v := (.int (Int32.ofNat (48 + N / 100 / 100 % 100 % 10)))) (AD1.ext G.old.2) ⟨ofn_nn (by omega), ofn_lt (n := 100) (by omega) (by decide)⟩ (by rw [ofn_nat (by omega)]; exact dOnes_at (by omega)) d34_54 rfl
  obtain ⟨g5, G', As, Ks⟩ := G.bastore 56 (bs.length + 3) Ab ⟨ofn_nn (by omega), ofn_lt (by omega) hcap⟩ (ofn_nat (by omega)) (by simp) (Or.inl (mm 0 rfl)) (mm 0 rfl) d34_55 rfl
  replace G := G'; clear G'
  rw [set_app2 _ _ 3 _ _ rfl, dig_b (by omega)] at As
  replace Ab : Arv Z g5 b kb .byte (Int32.ofNat cap) (bs ++ [(.int 0), (.int 0), (.int 0), (.int (Int32.ofNat (48 + N / 100 / 100 % 100 % 10))), (.int (Int32.ofNat (48 + N / 100 % 100 / 10))), (.int (Int32.ofNat (48 + N / 100 % 100 % 10))), (.int (Int32.ofNat (48 + N % 100 / 10))), (.int (Int32.ofNat (48 + N % 100 % 10)))]) (.int 0) := As
  replace G := G.aloadN 57 d34_56 rfl rfl rfl |>.iincV 60 #[.val (.int (-(Int32.ofNat (N / 100 / 100 / 100)))), .val (.int (Int32.ofNat (bs.length + 8))), .val (.ref b), .val (.int (-(Int32.ofNat (N / 100 / 100 / 100)))), .val (.int (Int32.ofNat (N / 100 / 100 % 100))), .val (.int (Int32.ofNat (bs.length + 2))), .val (.int (0 : Int32))] (Int32.ofNat (bs.length + 2)) d34_57 rfl (ofn_pred (bs.length + 2)) rfl rfl |>.iload 62 d34_60 rfl rfl |>.gets 65 (host := "") (Or.inl (hw _ (mm 236 rfl))) Via.refl (G.sta SD2) d34_62 rfl |>.iload 67 d34_65 rfl rfl |>.baload 68 (v := (.int (Int32.ofNat (48 + N / 100 / 100 % 100 / 10)))) (AD2.ext G.old.2) ⟨ofn_nn (by omega), ofn_lt (n := 100) (by omega) (by decide)⟩ (by rw [ofn_nat (by omega)]; exact dTens_at (by omega)) d34_67 rfl
  obtain ⟨g6, G', As, Ks⟩ := G.bastore 69 (bs.length + 2) Ab ⟨ofn_nn (by omega), ofn_lt (by omega) hcap⟩ (ofn_nat (by omega)) (by simp) (Or.inl (mm 0 rfl)) (mm 0 rfl) d34_68 rfl
  replace G := G'; clear G'
  rw [set_app2 _ _ 2 _ _ rfl, dig_b (by omega)] at As
  replace Ab : Arv Z g6 b kb .byte (Int32.ofNat cap) (bs ++ [(.int 0), (.int 0), (.int (Int32.ofNat (48 + N / 100 / 100 % 100 / 10))), (.int (Int32.ofNat (48 + N / 100 / 100 % 100 % 10))), (.int (Int32.ofNat (48 + N / 100 % 100 / 10))), (.int (Int32.ofNat (48 + N / 100 % 100 % 10))), (.int (Int32.ofNat (48 + N % 100 / 10))), (.int (Int32.ofNat (48 + N % 100 % 10)))]) (.int 0) := As
  replace G := G.goto 22 d34_69 (by decide) (by decide) |>.iloadN 23 d34_22 rfl rfl |>.bipush 25 (-100 : Int32) d34_23 (by decide) rfl |>.icmpT 72 d34_25 (XT.ii_gt_t (ng_gt (K := -100) (by omega) rfl (by omega))) (by decide) (by decide) |>.aloadN 73 d34_72 rfl rfl rfl |>.iincV 76 #[.val (.int (-(Int32.ofNat (N / 100 / 100 / 100)))), .val (.int (Int32.ofNat (bs.length + 8))), .val (.ref b), .val (.int (-(Int32.ofNat (N / 100 / 100 / 100)))), .val (.int (Int32.ofNat (N / 100 / 100 % 100))), .val (.int (Int32.ofNat (bs.length + 1))), .val (.int (0 : Int32))] (Int32.ofNat (bs.length + 1)) d34_73 rfl (ofn_pred (bs.length + 1)) rfl rfl |>.iload 78 d34_76 rfl rfl |>.gets 81 (host := "") (Or.inl (hw _ (mm 189 rfl))) Via.refl (G.sta SD1) d34_78 rfl
  replace G := G.iloadN 82 d34_81 rfl rfl |>.ineg 83 d34_82 rfl |>.top (y := (.int (Int32.ofNat (N / 100 / 100 / 100)))) (congrArg Value.int Int32.neg_neg) |>.baload 84 (v := (.int (Int32.ofNat (48 + (N / 100 / 100 / 100) % 10)))) (AD1.ext G.old.2) ⟨ofn_nn (by omega), ofn_lt (n := 100) (by omega) (by decide)⟩ (by rw [ofn_nat (by omega)]; exact dOnes_at (by omega)) d34_83 rfl
  obtain ⟨g7, G', As, Ks⟩ := G.bastore 85 (bs.length + 1) Ab ⟨ofn_nn (by omega), ofn_lt (by omega) hcap⟩ (ofn_nat (by omega)) (by simp) (Or.inl (mm 0 rfl)) (mm 0 rfl) d34_84 rfl
  replace G := G'; clear G'
  rw [set_app2 _ _ 1 _ _ rfl, dig_b (by omega)] at As
  replace Ab : Arv Z g7 b kb .byte (Int32.ofNat cap) (bs ++ [(.int 0), (.int (Int32.ofNat (48 + (N / 100 / 100 / 100) % 10))), (.int (Int32.ofNat (48 + N / 100 / 100 % 100 / 10))), (.int (Int32.ofNat (48 + N / 100 / 100 % 100 % 10))), (.int (Int32.ofNat (48 + N / 100 % 100 / 10))), (.int (Int32.ofNat (48 + N / 100 % 100 % 10))), (.int (Int32.ofNat (48 + N % 100 / 10))), (.int (Int32.ofNat (48 + N % 100 % 10)))]) (.int 0) := As
  replace G := G.iloadN 86 d34_85 rfl rfl |>.bipush 88 (-9 : Int32) d34_86 (by decide) rfl |>.icmpF 91 d34_88 (XT.ii_ge_f (ng_lt (K := -9) (by omega) rfl (by omega))) rfl |>.aloadN 92 d34_91 rfl rfl rfl |>.iincV 95 #[.val (.int (-(Int32.ofNat (N / 100 / 100 / 100)))), .val (.int (Int32.ofNat (bs.length + 8))), .val (.ref b), .val (.int (-(Int32.ofNat (N / 100 / 100 / 100)))), .val (.int (Int32.ofNat (N / 100 / 100 % 100))), .val (.int (Int32.ofNat (bs.length + 0))), .val (.int (0 : Int32))] (Int32.ofNat (bs.length + 0)) d34_92 rfl (ofn_pred (bs.length + 0)) rfl rfl |>.iload 97 d34_95 rfl rfl |>.gets 100 (host := "") (Or.inl (hw _ (mm 236 rfl))) Via.refl (G.sta SD2) d34_97 rfl |>.iloadN 101 d34_100 rfl rfl
  replace G := G.ineg 102 d34_101 rfl |>.top (y := (.int (Int32.ofNat (N / 100 / 100 / 100)))) (congrArg Value.int Int32.neg_neg) |>.baload 103 (v := (.int (Int32.ofNat (48 + (N / 100 / 100 / 100) / 10)))) (AD2.ext G.old.2) ⟨ofn_nn (by omega), ofn_lt (n := 100) (by omega) (by decide)⟩ (by rw [ofn_nat (by omega)]; exact dTens_at (by omega)) d34_102 rfl
  obtain ⟨g8, G', As, Ks⟩ := G.bastore 104 (bs.length + 0) Ab ⟨ofn_nn (by omega), ofn_lt (by omega) hcap⟩ (ofn_nat (by omega)) (by simp) (Or.inl (mm 0 rfl)) (mm 0 rfl) d34_103 rfl
  replace G := G'; clear G'
  rw [set_app2 _ _ 0 _ _ rfl, dig_b (by omega)] at As
  replace Ab : Arv Z g8 b kb .byte (Int32.ofNat cap) (bs ++ [(.int (Int32.ofNat (48 + (N / 100 / 100 / 100) / 10))), (.int (Int32.ofNat (48 + (N / 100 / 100 / 100) % 10))), (.int (Int32.ofNat (48 + N / 100 / 100 % 100 / 10))), (.int (Int32.ofNat (48 + N / 100 / 100 % 100 % 10))), (.int (Int32.ofNat (48 + N / 100 % 100 / 10))), (.int (Int32.ofNat (48 + N / 100 % 100 % 10))), (.int (Int32.ofNat (48 + N % 100 / 10))), (.int (Int32.ofNat (48 + N % 100 % 10)))]) (.int 0) := As
  replace G := G.iload 106 d34_104 rfl rfl |>.ifT 118 d34_106 (XT.i0_eq_t rfl) (by decide) (by decide) |>.iload 120 d34_118 rfl rfl
  have hdg : ([(.int (Int32.ofNat (48 + (N / 100 / 100 / 100) / 10))), (.int (Int32.ofNat (48 + (N / 100 / 100 / 100) % 10))), (.int (Int32.ofNat (48 + N / 100 / 100 % 100 / 10))), (.int (Int32.ofNat (48 + N / 100 / 100 % 100 % 10))), (.int (Int32.ofNat (48 + N / 100 % 100 / 10))), (.int (Int32.ofNat (48 + N / 100 % 100 % 10))), (.int (Int32.ofNat (48 + N % 100 / 10))), (.int (Int32.ofNat (48 + N % 100 % 10)))] : List Value) = [dg N 7, dg N 6, dg N 5, dg N 4, dg N 3, dg N 2, dg N 1, dg N 0] := by
    simp only [dg, List.cons.injEq, Value.int.injEq, and_true, Nat.reducePow]
    refine ⟨?_, ?_, ?_, ?_, ?_, ?_, ?_, ?_⟩ <;> first | trivial | (congr 2; omega)
  rw [hdg] at Ab
  exact G.retI hret hlk d34_120 [] all0 ⟨_, rfl, rfl, Ab, rfl⟩ (nle rfl) (nle rfl)
theorem c_getC9 (l : Launch) (Z : State) (a0 : Array Value) (hw : ∀ d ∈ tables_1, d.before a0 Z = true) (hEW : EW Z a0 consts_1) (n0 : Nat) (c1 : Int32) (hc1 : ¬ c1 = 0) (S1 : Sta Z Z.heap "java/lang/String" "COMPACT_STRINGS" "Z" (.int c1)) (t1 t2 : Addr) (kt1 kt2 : ClassId) (SD1 : Sta Z Z.heap "java/lang/Integer" "DigitOnes" "[B" (.ref t1)) (SD2 : Sta Z Z.heap "java/lang/Integer" "DigitTens" "[B" (.ref t2)) (AD1 : Arv Z Z.heap t1 kt1 .byte 100 dOnes (.int 0)) (AD2 : Arv Z Z.heap t2 kt2 .byte 100 dTens (.int 0)) (b : Addr) (kb : ClassId) (cap : Nat) (bs : List Value) (N : Nat) {h0 : Heap} (o1 : Old Z n0 h0) (ge_b : n0 ≤ b) (hlo : 100000000 ≤ N) (hhi : N < 1000000000) (hle : bs.length + 9 ≤ cap) (hcap : cap < 2147483648) (Ab : Arv Z h0 b kb .byte (Int32.ofNat cap) bs (.int 0)) :
    Con Z a0 l (⟨"java/lang/Integer", "getChars", "(II[B)I"⟩ : MethodName) jdk_33_method_12_code 7 (some .int) ({ frames := 0, cells := 0, slots := 0, locals := 0 } : Room) [] #[(.int (Int32.ofNat N)), (.int (Int32.ofNat (bs.length + 9))), (.ref b)] consts_1 h0 n0 [b] [b] (VV fun w h so => w = .int (Int32.ofNat (bs.length + 0)) ∧ Arv Z h b kb .byte (Int32.ofNat cap) (bs ++ [dg N 8, dg N 7, dg N 6, dg N 5, dg N 4, dg N 3, dg N 2, dg N 1, dg N 0]) (.int 0) ∧ so = []) := by
  refine Con.body (plainFor_of_name pn_java_lang_Integer) hEW o1 (allS ge_b all0) #[.val (.int (Int32.ofNat N)), .val (.int (Int32.ofNat (bs.length + 9))), .val (.ref b), .unset, .unset, .unset, .unset] (fun m => by first | (simp [entryFrame, mkF, argsToLocals, Value.category]; done) | rfl) ?_
  intro p e s m below meth c B hnm hret hlk G
  have hN : N < 2147483648 := by omega
  have hn : bs.length < 2147483648 := by omega
  replace Ab := Ab.pad (vs' := bs ++ [(.int 0), (.int 0), (.int 0), (.int 0), (.int 0), (.int 0), (.int 0), (.int 0), (.int 0)]) (pad_rep bs (.int 0) 9)
  replace G := G.iloadN 1 d34_0 rfl rfl |>.istore 3 #[.val (.int (Int32.ofNat N)), .val (.int (Int32.ofNat (bs.length + 9))), .val (.ref b), .unset, .unset, .val (.int (Int32.ofNat (bs.length + 9))), .unset] d34_1 rfl rfl |>.iloadN 4 d34_3 rfl rfl |>.ifT 11 d34_4 (XT.i0_ge_t (ofn_nn hN)) (by decide) (by decide) |>.iconst 12 (0 : Int32) d34_11 rfl rfl |>.istore 14 #[.val (.int (Int32.ofNat N)), .val (.int (Int32.ofNat (bs.length + 9))), .val (.ref b), .unset, .unset, .val (.int (Int32.ofNat (bs.length + 9))), .val (.int (0 : Int32))] d34_12 rfl rfl |>.iload 16 d34_14 rfl rfl |>.ifF 19 d34_16 (XT.i0_ne_f rfl) rfl
  replace G := G.iloadN 20 d34_19 rfl rfl |>.ineg 21 d34_20 rfl |>.istoreN 22 #[.val (.int (-(Int32.ofNat N))), .val (.int (Int32.ofNat (bs.length + 9))), .val (.ref b), .unset, .unset, .val (.int (Int32.ofNat (bs.length + 9))), .val (.int (0 : Int32))] d34_21 rfl rfl |>.iloadN 23 d34_22 rfl rfl |>.bipush 25 (-100 : Int32) d34_23 (by decide) rfl |>.icmpF 28 d34_25 (XT.ii_gt_f (ng_ngt (K := -100) (by omega) rfl (by omega))) rfl |>.iloadN 29 d34_28 rfl rfl |>.bipush 31 (100 : Int32) d34_29 (by decide) rfl
  replace G := G.idiv 32 d34_31 (by decide) rfl |>.top (y := (.int (-(Int32.ofNat (N / 100))))) (congrArg Value.int (ng_div (by omega))) |>.istoreN 33 #[.val (.int (-(Int32.ofNat N))), .val (.int (Int32.ofNat (bs.length + 9))), .val (.ref b), .val (.int (-(Int32.ofNat (N / 100)))), .unset, .val (.int (Int32.ofNat (bs.length + 9))), .val (.int (0 : Int32))] d34_32 rfl rfl |>.iloadN 34 d34_33 rfl rfl |>.bipush 36 (100 : Int32) d34_34 (by decide) rfl |>.imul 37 d34_36 rfl |>.iloadN 38 d34_37 rfl rfl |>.isub 39 d34_38 rfl
  replace G := G.top (y := (.int (Int32.ofNat (N % 100)))) (congrArg Value.int (ng_rem (by omega))) |>.istore 41 #[.val (.int (-(Int32.ofNat N))), .val (.int (Int32.ofNat (bs.length + 9))), .val (.ref b), .val (.int (-(Int32.ofNat (N / 100)))), .val (.int (Int32.ofNat (N % 100))), .val (.int (Int32.ofNat (bs.length + 9))), .val (.int (0 : Int32))] d34_39 rfl rfl |>.iloadN 42 d34_41 rfl rfl |>.istoreN 43 #[.val (.int (-(Int32.ofNat (N / 100)))), .val (.int (Int32.ofNat (bs.length + 9))), .val (.ref b), .val (.int (-(Int32.ofNat (N / 100)))), .val (.int (Int32.ofNat (N % 100))), .val (.int (Int32.ofNat (bs.length + 9))), .val (.int (0 : Int32))] d34_42 rfl rfl |>.aloadN 44 d34_43 rfl rfl rfl |>.iincV 47 #[.val (.int (-(Int32.ofNat (N / 100)))), .val (.int (Int32.ofNat (bs.length + 9))), .val (.ref b), .val (.int (-(Int32.ofNat (N / 100)))), .val (.int (Int32.ofNat (N % 100))), .val (.int (Int32.ofNat (bs.length + 8))), .val (.int (0 : Int32))] (Int32.ofNat (bs.length + 8)) d34_44 rfl (ofn_pred (bs.length + 8)) rfl rfl |>.iload 49 d34_47 rfl rfl |>.gets 52 (host := "") (Or.inl (hw _ (mm 189 rfl))) Via.refl (G.sta SD1) d34_49 rfl
  replace G := G.iload 54 d34_52 rfl rfl |>.baload 55 (v := (.int (Int32.ofNat (48 + N % 100 % 10)))) (AD1.ext G.old.2) ⟨ofn_nn (by omega), ofn_lt (n := 100) (by omega) (by decide)⟩ (by rw [ofn_nat (by omega)]; exact dOnes_at (by omega)) d34_54 rfl
  obtain ⟨g1, G', As, Ks⟩ := G.bastore 56 (bs.length + 8) Ab ⟨ofn_nn (by omega), ofn_lt (by omega) hcap⟩ (ofn_nat (by omega)) (by simp) (Or.inl (mm 0 rfl)) (mm 0 rfl) d34_55 rfl
  replace G := G'; clear G'
  rw [set_app2 _ _ 8 _ _ rfl, dig_b (by omega)] at As
  replace Ab : Arv Z g1 b kb .byte (Int32.ofNat cap) (bs ++ [(.int 0), (.int 0), (.int 0), (.int 0), (.int 0), (.int 0), (.int 0), (.int 0), (.int (Int32.ofNat (48 + N % 100 % 10)))]) (.int 0) := As
  replace G := G.aloadN 57 d34_56 rfl rfl rfl |>.iincV 60 #[.val (.int (-(Int32.ofNat (N / 100)))), .val (.int (Int32.ofNat (bs.length + 9))), .val (.ref b), .val (.int (-(Int32.ofNat (N / 100)))), .val (.int (Int32.ofNat (N % 100))), .val (.int (Int32.ofNat (bs.length + 7))), .val (.int (0 : Int32))] (Int32.ofNat (bs.length + 7)) d34_57 rfl (ofn_pred (bs.length + 7)) rfl rfl |>.iload 62 d34_60 rfl rfl |>.gets 65 (host := "") (Or.inl (hw _ (mm 236 rfl))) Via.refl (G.sta SD2) d34_62 rfl |>.iload 67 d34_65 rfl rfl |>.baload 68 (v := (.int (Int32.ofNat (48 + N % 100 / 10)))) (AD2.ext G.old.2) ⟨ofn_nn (by omega), ofn_lt (n := 100) (by omega) (by decide)⟩ (by rw [ofn_nat (by omega)]; exact dTens_at (by omega)) d34_67 rfl
  obtain ⟨g2, G', As, Ks⟩ := G.bastore 69 (bs.length + 7) Ab ⟨ofn_nn (by omega), ofn_lt (by omega) hcap⟩ (ofn_nat (by omega)) (by simp) (Or.inl (mm 0 rfl)) (mm 0 rfl) d34_68 rfl
  replace G := G'; clear G'
  rw [set_app2 _ _ 7 _ _ rfl, dig_b (by omega)] at As
  replace Ab : Arv Z g2 b kb .byte (Int32.ofNat cap) (bs ++ [(.int 0), (.int 0), (.int 0), (.int 0), (.int 0), (.int 0), (.int 0), (.int (Int32.ofNat (48 + N % 100 / 10))), (.int (Int32.ofNat (48 + N % 100 % 10)))]) (.int 0) := As
  replace G := G.goto 22 d34_69 (by decide) (by decide) |>.iloadN 23 d34_22 rfl rfl |>.bipush 25 (-100 : Int32) d34_23 (by decide) rfl |>.icmpF 28 d34_25 (XT.ii_gt_f (ng_ngt (K := -100) (by omega) rfl (by omega))) rfl |>.iloadN 29 d34_28 rfl rfl |>.bipush 31 (100 : Int32) d34_29 (by decide) rfl |>.idiv 32 d34_31 (by decide) rfl |>.top (y := (.int (-(Int32.ofNat (N / 100 / 100))))) (congrArg Value.int (ng_div (by omega)))
  replace G := G.istoreN 33 #[.val (.int (-(Int32.ofNat (N / 100)))), .val (.int (Int32.ofNat (bs.length + 9))), .val (.ref b), .val (.int (-(Int32.ofNat (N / 100 / 100)))), .val (.int (Int32.ofNat (N % 100))), .val (.int (Int32.ofNat (bs.length + 7))), .val (.int (0 : Int32))] d34_32 rfl rfl |>.iloadN 34 d34_33 rfl rfl |>.bipush 36 (100 : Int32) d34_34 (by decide) rfl |>.imul 37 d34_36 rfl |>.iloadN 38 d34_37 rfl rfl |>.isub 39 d34_38 rfl |>.top (y := (.int (Int32.ofNat (N / 100 % 100)))) (congrArg Value.int (ng_rem (by omega))) |>.istore 41 #[.val (.int (-(Int32.ofNat (N / 100)))), .val (.int (Int32.ofNat (bs.length + 9))), .val (.ref b), .val (.int (-(Int32.ofNat (N / 100 / 100)))), .val (.int (Int32.ofNat (N / 100 % 100))), .val (.int (Int32.ofNat (bs.length + 7))), .val (.int (0 : Int32))] d34_39 rfl rfl
  replace G := G.iloadN 42 d34_41 rfl rfl |>.istoreN 43 #[.val (.int (-(Int32.ofNat (N / 100 / 100)))), .val (.int (Int32.ofNat (bs.length + 9))), .val (.ref b), .val (.int (-(Int32.ofNat (N / 100 / 100)))), .val (.int (Int32.ofNat (N / 100 % 100))), .val (.int (Int32.ofNat (bs.length + 7))), .val (.int (0 : Int32))] d34_42 rfl rfl |>.aloadN 44 d34_43 rfl rfl rfl |>.iincV 47 #[.val (.int (-(Int32.ofNat (N / 100 / 100)))), .val (.int (Int32.ofNat (bs.length + 9))), .val (.ref b), .val (.int (-(Int32.ofNat (N / 100 / 100)))), .val (.int (Int32.ofNat (N / 100 % 100))), .val (.int (Int32.ofNat (bs.length + 6))), .val (.int (0 : Int32))] (Int32.ofNat (bs.length + 6)) d34_44 rfl (ofn_pred (bs.length + 6)) rfl rfl |>.iload 49 d34_47 rfl rfl |>.gets 52 (host := "") (Or.inl (hw _ (mm 189 rfl))) Via.refl (G.sta SD1) d34_49 rfl |>.iload 54 d34_52 rfl rfl |>.baload 55 (v := (.int (Int32.ofNat (48 + N / 100 % 100 % 10)))) (AD1.ext G.old.2) ⟨ofn_nn (by omega), ofn_lt (n := 100) (by omega) (by decide)⟩ (by rw [ofn_nat (by omega)]; exact dOnes_at (by omega)) d34_54 rfl
  obtain ⟨g3, G', As, Ks⟩ := G.bastore 56 (bs.length + 6) Ab ⟨ofn_nn (by omega), ofn_lt (by omega) hcap⟩ (ofn_nat (by omega)) (by simp) (Or.inl (mm 0 rfl)) (mm 0 rfl) d34_55 rfl
  replace G := G'; clear G'
  rw [set_app2 _ _ 6 _ _ rfl, dig_b (by omega)] at As
  replace Ab : Arv Z g3 b kb .byte (Int32.ofNat cap) (bs ++ [(.int 0), (.int 0), (.int 0), (.int 0), (.int 0), (.int 0), (.int (Int32.ofNat (48 + N / 100 % 100 % 10))), (.int (Int32.ofNat (48 + N % 100 / 10))), (.int (Int32.ofNat (48 + N % 100 % 10)))]) (.int 0) := As
  replace G := G.aloadN 57 d34_56 rfl rfl rfl |>.iincV 60 #[.val (.int (-(Int32.ofNat (N / 100 / 100)))), .val (.int (Int32.ofNat (bs.length + 9))), .val (.ref b), .val (.int (-(Int32.ofNat (N / 100 / 100)))), .val (.int (Int32.ofNat (N / 100 % 100))), .val (.int (Int32.ofNat (bs.length + 5))), .val (.int (0 : Int32))] (Int32.ofNat (bs.length + 5)) d34_57 rfl (ofn_pred (bs.length + 5)) rfl rfl |>.iload 62 d34_60 rfl rfl |>.gets 65 (host := "") (Or.inl (hw _ (mm 236 rfl))) Via.refl (G.sta SD2) d34_62 rfl |>.iload 67 d34_65 rfl rfl |>.baload 68 (v := (.int (Int32.ofNat (48 + N / 100 % 100 / 10)))) (AD2.ext G.old.2) ⟨ofn_nn (by omega), ofn_lt (n := 100) (by omega) (by decide)⟩ (by rw [ofn_nat (by omega)]; exact dTens_at (by omega)) d34_67 rfl
  obtain ⟨g4, G', As, Ks⟩ := G.bastore 69 (bs.length + 5) Ab ⟨ofn_nn (by omega), ofn_lt (by omega) hcap⟩ (ofn_nat (by omega)) (by simp) (Or.inl (mm 0 rfl)) (mm 0 rfl) d34_68 rfl
  replace G := G'; clear G'
  rw [set_app2 _ _ 5 _ _ rfl, dig_b (by omega)] at As
  replace Ab : Arv Z g4 b kb .byte (Int32.ofNat cap) (bs ++ [(.int 0), (.int 0), (.int 0), (.int 0), (.int 0), (.int (Int32.ofNat (48 + N / 100 % 100 / 10))), (.int (Int32.ofNat (48 + N / 100 % 100 % 10))), (.int (Int32.ofNat (48 + N % 100 / 10))), (.int (Int32.ofNat (48 + N % 100 % 10)))]) (.int 0) := As
  replace G := G.goto 22 d34_69 (by decide) (by decide) |>.iloadN 23 d34_22 rfl rfl |>.bipush 25 (-100 : Int32) d34_23 (by decide) rfl |>.icmpF 28 d34_25 (XT.ii_gt_f (ng_ngt (K := -100) (by omega) rfl (by omega))) rfl |>.iloadN 29 d34_28 rfl rfl |>.bipush 31 (100 : Int32) d34_29 (by decide) rfl |>.idiv 32 d34_31 (by decide) rfl |>.top (y := (.int (-(Int32.ofNat (N / 100 / 100 / 100))))) (congrArg Value.int (ng_div (by omega)))
  replace G := G.istoreN 33 #[.val (.int (-(Int32.ofNat (N / 100 / 100)))), .val (.int (Int32.ofNat (bs.length + 9))), .val (.ref b), .val (.int (-(Int32.ofNat (N / 100 / 100 / 100)))), .val (.int (Int32.ofNat (N / 100 % 100))), .val (.int (Int32.ofNat (bs.length + 5))), .val (.int (0 : Int32))] d34_32 rfl rfl |>.iloadN 34 d34_33 rfl rfl |>.bipush 36 (100 : Int32) d34_34 (by decide) rfl |>.imul 37 d34_36 rfl |>.iloadN 38 d34_37 rfl rfl |>.isub 39 d34_38 rfl |>.top (y := (.int (Int32.ofNat (N / 100 / 100 % 100)))) (congrArg Value.int (ng_rem (by omega))) |>.istore 41 #[.val (.int (-(Int32.ofNat (N / 100 / 100)))), .val (.int (Int32.ofNat (bs.length + 9))), .val (.ref b), .val (.int (-(Int32.ofNat (N / 100 / 100 / 100)))), .val (.int (Int32.ofNat (N / 100 / 100 % 100))), .val (.int (Int32.ofNat (bs.length + 5))), .val (.int (0 : Int32))] d34_39 rfl rfl
  replace G := G.iloadN 42 d34_41 rfl rfl |>.istoreN 43 #[.val (.int (-(Int32.ofNat (N / 100 / 100 / 100)))), .val (.int (Int32.ofNat (bs.length + 9))), .val (.ref b), .val (.int (-(Int32.ofNat (N / 100 / 100 / 100)))), .val (.int (Int32.ofNat (N / 100 / 100 % 100))), .val (.int (Int32.ofNat (bs.length + 5))), .val (.int (0 : Int32))] d34_42 rfl rfl |>.aloadN 44 d34_43 rfl rfl rfl |>.iincV 47 #[.val (.int (-(Int32.ofNat (N / 100 / 100 / 100)))), .val (.int (Int32.ofNat (bs.length + 9))), .val (.ref b), .val (.int (-(Int32.ofNat (N / 100 / 100 / 100)))), .val (.int (Int32.ofNat (N / 100 / 100 % 100))), .val (.int (Int32.ofNat (bs.length + 4))), .val (.int (0 : Int32))] (Int32.ofNat (bs.length + 4)) d34_44 rfl (ofn_pred (bs.length + 4)) rfl rfl |>.iload 49 d34_47 rfl rfl |>.gets 52 (host := "") (Or.inl (hw _ (mm 189 rfl))) Via.refl (G.sta SD1) d34_49 rfl |>.iload 54 d34_52 rfl rfl |>.baload 55 (v := (.int (Int32.ofNat (48 + N / 100 / 100 % 100 % 10)))) (AD1.ext G.old.2) ⟨ofn_nn (by omega), ofn_lt (n := 100) (by omega) (by decide)⟩ (by rw [ofn_nat (by omega)]; exact dOnes_at (by omega)) d34_54 rfl
  obtain ⟨g5, G', As, Ks⟩ := G.bastore 56 (bs.length + 4) Ab ⟨ofn_nn (by omega), ofn_lt (by omega) hcap⟩ (ofn_nat (by omega)) (by simp) (Or.inl (mm 0 rfl)) (mm 0 rfl) d34_55 rfl
  replace G := G'; clear G'
  rw [set_app2 _ _ 4 _ _ rfl, dig_b (by omega)] at As
  replace Ab : Arv Z g5 b kb .byte (Int32.ofNat cap) (bs ++ [(.int 0), (.int 0), (.int 0), (.int 0), (.int (Int32.ofNat (48 + N / 100 / 100 % 100 % 10))), (.int (Int32.ofNat (48 + N / 100 % 100 / 10))), (.int (Int32.ofNat (48 + N / 100 % 100 % 10))), (.int (Int32.ofNat (48 + N % 100 / 10))), (.int (Int32.ofNat (48 + N % 100 % 10)))]) (.int 0) := As
  replace G := G.aloadN 57 d34_56 rfl rfl rfl |>.iincV 60 #[.val (.int (-(Int32.ofNat (N / 100 / 100 / 100)))), .val (.int (Int32.ofNat (bs.length + 9))), .val (.ref b), .val (.int (-(Int32.ofNat (N / 100 / 100 / 100)))), .val (.int (Int32.ofNat (N / 100 / 100 % 100))), .val (.int (Int32.ofNat (bs.length + 3))), .val (.int (0 : Int32))] (Int32.ofNat (bs.length + 3)) d34_57 rfl (ofn_pred (bs.length + 3)) rfl rfl |>.iload 62 d34_60 rfl rfl |>.gets 65 (host := "") (Or.inl (hw _ (mm 236 rfl))) Via.refl (G.sta SD2) d34_62 rfl |>.iload 67 d34_65 rfl rfl |>.baload 68 (v := (.int (Int32.ofNat (48 + N / 100 / 100 % 100 / 10)))) (AD2.ext G.old.2) ⟨ofn_nn (by omega), ofn_lt (n := 100) (by omega) (by decide)⟩ (by rw [ofn_nat (by omega)]; exact dTens_at (by omega)) d34_67 rfl
  obtain ⟨g6, G', As, Ks⟩ := G.bastore 69 (bs.length + 3) Ab ⟨ofn_nn (by omega), ofn_lt (by omega) hcap⟩ (ofn_nat (by omega)) (by simp) (Or.inl (mm 0 rfl)) (mm 0 rfl) d34_68 rfl
  replace G := G'; clear G'
  rw [set_app2 _ _ 3 _ _ rfl, dig_b (by omega)] at As
  replace Ab : Arv Z g6 b kb .byte (Int32.ofNat cap) (bs ++ [(.int 0), (.int 0), (.int 0), (.int (Int32.ofNat (48 + N / 100 / 100 % 100 / 10))), (.int (Int32.ofNat (48 + N / 100 / 100 % 100 % 10))), (.int (Int32.ofNat (48 + N / 100 % 100 / 10))), (.int (Int32.ofNat (48 + N / 100 % 100 % 10))), (.int (Int32.ofNat (48 + N % 100 / 10))), (.int (Int32.ofNat (48 + N % 100 % 10)))]) (.int 0) := As
  replace G := G.goto 22 d34_69 (by decide) (by decide) |>.iloadN 23 d34_22 rfl rfl |>.bipush 25 (-100 : Int32) d34_23 (by decide) rfl |>.icmpF 28 d34_25 (XT.ii_gt_f (ng_ngt (K := -100) (by omega) rfl (by omega))) rfl |>.iloadN 29 d34_28 rfl rfl |>.bipush 31 (100 : Int32) d34_29 (by decide) rfl |>.idiv 32 d34_31 (by decide) rfl |>.top (y := (.int (-(Int32.ofNat (N / 100 / 100 / 100 / 100))))) (congrArg Value.int (ng_div (by omega)))
  replace G := G.istoreN 33 #[.val (.int (-(Int32.ofNat (N / 100 / 100 / 100)))), .val (.int (Int32.ofNat (bs.length + 9))), .val (.ref b), .val (.int (-(Int32.ofNat (N / 100 / 100 / 100 / 100)))), .val (.int (Int32.ofNat (N / 100 / 100 % 100))), .val (.int (Int32.ofNat (bs.length + 3))), .val (.int (0 : Int32))] d34_32 rfl rfl |>.iloadN 34 d34_33 rfl rfl |>.bipush 36 (100 : Int32) d34_34 (by decide) rfl |>.imul 37 d34_36 rfl |>.iloadN 38 d34_37 rfl rfl |>.isub 39 d34_38 rfl |>.top (y := (.int (Int32.ofNat (N / 100 / 100 / 100 % 100)))) (congrArg Value.int (ng_rem (by omega))) |>.istore 41 #[.val (.int (-(Int32.ofNat (N / 100 / 100 / 100)))), .val (.int (Int32.ofNat (bs.length + 9))), .val (.ref b), .val (.int (-(Int32.ofNat (N / 100 / 100 / 100 / 100)))), .val (.int (Int32.ofNat (N / 100 / 100 / 100 % 100))), .val (.int (Int32.ofNat (bs.length + 3))), .val (.int (0 : Int32))] d34_39 rfl rfl
  replace G := G.iloadN 42 d34_41 rfl rfl |>.istoreN 43 #[.val (.int (-(Int32.ofNat (N / 100 / 100 / 100 / 100)))), .val (.int (Int32.ofNat (bs.length + 9))), .val (.ref b), .val (.int (-(Int32.ofNat (N / 100 / 100 / 100 / 100)))), .val (.int (Int32.ofNat (N / 100 / 100 / 100 % 100))), .val (.int (Int32.ofNat (bs.length + 3))), .val (.int (0 : Int32))] d34_42 rfl rfl |>.aloadN 44 d34_43 rfl rfl rfl |>.iincV 47 #[.val (.int (-(Int32.ofNat (N / 100 / 100 / 100 / 100)))), .val (.int (Int32.ofNat (bs.length + 9))), .val (.ref b), .val (.int (-(Int32.ofNat (N / 100 / 100 / 100 / 100)))), .val (.int (Int32.ofNat (N / 100 / 100 / 100 % 100))), .val (.int (Int32.ofNat (bs.length + 2))), .val (.int (0 : Int32))] (Int32.ofNat (bs.length + 2)) d34_44 rfl (ofn_pred (bs.length + 2)) rfl rfl |>.iload 49 d34_47 rfl rfl |>.gets 52 (host := "") (Or.inl (hw _ (mm 189 rfl))) Via.refl (G.sta SD1) d34_49 rfl |>.iload 54 d34_52 rfl rfl |>.baload 55 (v := (.int (Int32.ofNat (48 + N / 100 / 100 / 100 % 100 % 10)))) (AD1.ext G.old.2) ⟨ofn_nn (by omega), ofn_lt (n := 100) (by omega) (by decide)⟩ (by rw [ofn_nat (by omega)]; exact dOnes_at (by omega)) d34_54 rfl
  obtain ⟨g7, G', As, Ks⟩ := G.bastore 56 (bs.length + 2) Ab ⟨ofn_nn (by omega), ofn_lt (by omega) hcap⟩ (ofn_nat (by omega)) (by simp) (Or.inl (mm 0 rfl)) (mm 0 rfl) d34_55 rfl
  replace G := G'; clear G'
  rw [set_app2 _ _ 2 _ _ rfl, dig_b (by omega)] at As
  replace Ab : Arv Z g7 b kb .byte (Int32.ofNat cap) (bs ++ [(.int 0), (.int 0), (.int (Int32.ofNat (48 + N / 100 / 100 / 100 % 100 % 10))), (.int (Int32.ofNat (48 + N / 100 / 100 % 100 / 10))), (.int (Int32.ofNat (48 + N / 100 / 100 % 100 % 10))), (.int (Int32.ofNat (48 + N / 100 % 100 / 10))), (.int (Int32.ofNat (48 + N / 100 % 100 % 10))), (.int (Int32.ofNat (48 + N % 100 / 10))), (.int (Int32.ofNat (48 + N % 100 % 10)))]) (.int 0) := As
  replace G := G.aloadN 57 d34_56 rfl rfl rfl |>.iincV 60 #[.val (.int (-(Int32.ofNat (N / 100 / 100 / 100 / 100)))), .val (.int (Int32.ofNat (bs.length + 9))), .val (.ref b), .val (.int (-(Int32.ofNat (N / 100 / 100 / 100 / 100)))), .val (.int (Int32.ofNat (N / 100 / 100 / 100 % 100))), .val (.int (Int32.ofNat (bs.length + 1))), .val (.int (0 : Int32))] (Int32.ofNat (bs.length + 1)) d34_57 rfl (ofn_pred (bs.length + 1)) rfl rfl |>.iload 62 d34_60 rfl rfl |>.gets 65 (host := "") (Or.inl (hw _ (mm 236 rfl))) Via.refl (G.sta SD2) d34_62 rfl |>.iload 67 d34_65 rfl rfl |>.baload 68 (v := (.int (Int32.ofNat (48 + N / 100 / 100 / 100 % 100 / 10)))) (AD2.ext G.old.2) ⟨ofn_nn (by omega), ofn_lt (n := 100) (by omega) (by decide)⟩ (by rw [ofn_nat (by omega)]; exact dTens_at (by omega)) d34_67 rfl
  obtain ⟨g8, G', As, Ks⟩ := G.bastore 69 (bs.length + 1) Ab ⟨ofn_nn (by omega), ofn_lt (by omega) hcap⟩ (ofn_nat (by omega)) (by simp) (Or.inl (mm 0 rfl)) (mm 0 rfl) d34_68 rfl
  replace G := G'; clear G'
  rw [set_app2 _ _ 1 _ _ rfl, dig_b (by omega)] at As
  replace Ab : Arv Z g8 b kb .byte (Int32.ofNat cap) (bs ++ [(.int 0), (.int (Int32.ofNat (48 + N / 100 / 100 / 100 % 100 / 10))), (.int (Int32.ofNat (48 + N / 100 / 100 / 100 % 100 % 10))), (.int (Int32.ofNat (48 + N / 100 / 100 % 100 / 10))), (.int (Int32.ofNat (48 + N / 100 / 100 % 100 % 10))), (.int (Int32.ofNat (48 + N / 100 % 100 / 10))), (.int (Int32.ofNat (48 + N / 100 % 100 % 10))), (.int (Int32.ofNat (48 + N % 100 / 10))), (.int (Int32.ofNat (48 + N % 100 % 10)))]) (.int 0) := As
  replace G := G.goto 22 d34_69 (by decide) (by decide) |>.iloadN 23 d34_22 rfl rfl |>.bipush 25 (-100 : Int32) d34_23 (by decide) rfl |>.icmpT 72 d34_25 (XT.ii_gt_t (ng_gt (K := -100) (by omega) rfl (by omega))) (by decide) (by decide) |>.aloadN 73 d34_72 rfl rfl rfl |>.iincV 76 #[.val (.int (-(Int32.ofNat (N / 100 / 100 / 100 / 100)))), .val (.int (Int32.ofNat (bs.length + 9))), .val (.ref b), .val (.int (-(Int32.ofNat (N / 100 / 100 / 100 / 100)))), .val (.int (Int32.ofNat (N / 100 / 100 / 100 % 100))), .val (.int (Int32.ofNat (bs.length + 0))), .val (.int (0 : Int32))] (Int32.ofNat (bs.length + 0)) d34_73 rfl (ofn_pred (bs.length + 0)) rfl rfl |>.iload 78 d34_76 rfl rfl |>.gets 81 (host := "") (Or.inl (hw _ (mm 189 rfl))) Via.refl (G.sta SD1) d34_78 rfl
  replace G := G.iloadN 82 d34_81 rfl rfl |>.ineg 83 d34_82 rfl |>.top (y := (.int (Int32.ofNat (N / 100 / 100 / 100 / 100)))) (congrArg Value.int Int32.neg_neg) |>.baload 84 (v := (.int (Int32.ofNat (48 + (N / 100 / 100 / 100 / 100) % 10)))) (AD1.ext G.old.2) ⟨ofn_nn (by omega), ofn_lt (n := 100) (by omega) (by decide)⟩ (by rw [ofn_nat (by omega)]; exact dOnes_at (by omega)) d34_83 rfl
  obtain ⟨g9, G', As, Ks⟩ := G.bastore 85 (bs.length + 0) Ab ⟨ofn_nn (by omega), ofn_lt (by omega) hcap⟩ (ofn_nat (by omega)) (by simp) (Or.inl (mm 0 rfl)) (mm 0 rfl) d34_84 rfl
  replace G := G'; clear G'
  rw [set_app2 _ _ 0 _ _ rfl, dig_b (by omega)] at As
  replace Ab : Arv Z g9 b kb .byte (Int32.ofNat cap) (bs ++ [(.int (Int32.ofNat (48 + (N / 100 / 100 / 100 / 100) % 10))), (.int (Int32.ofNat (48 + N / 100 / 100 / 100 % 100 / 10))), (.int (Int32.ofNat (48 + N / 100 / 100 / 100 % 100 % 10))), (.int (Int32.ofNat (48 + N / 100 / 100 % 100 / 10))), (.int (Int32.ofNat (48 + N / 100 / 100 % 100 % 10))), (.int (Int32.ofNat (48 + N / 100 % 100 / 10))), (.int (Int32.ofNat (48 + N / 100 % 100 % 10))), (.int (Int32.ofNat (48 + N % 100 / 10))), (.int (Int32.ofNat (48 + N % 100 % 10)))]) (.int 0) := As
  replace G := G.iloadN 86 d34_85 rfl rfl |>.bipush 88 (-9 : Int32) d34_86 (by decide) rfl |>.icmpT 104 d34_88 (XT.ii_ge_t (ng_nlt (K := -9) (by omega) rfl (by omega))) (by decide) (by decide) |>.iload 106 d34_104 rfl rfl |>.ifT 118 d34_106 (XT.i0_eq_t rfl) (by decide) (by decide) |>.iload 120 d34_118 rfl rfl
  have hdg : ([(.int (Int32.ofNat (48 + (N / 100 / 100 / 100 / 100) % 10))), (.int (Int32.ofNat (48 + N / 100 / 100 / 100 % 100 / 10))), (.int (Int32.ofNat (48 + N / 100 / 100 / 100 % 100 % 10))), (.int (Int32.ofNat (48 + N / 100 / 100 % 100 / 10))), (.int (Int32.ofNat (48 + N / 100 / 100 % 100 % 10))), (.int (Int32.ofNat (48 + N / 100 % 100 / 10))), (.int (Int32.ofNat (48 + N / 100 % 100 % 10))), (.int (Int32.ofNat (48 + N % 100 / 10))), (.int (Int32.ofNat (48 + N % 100 % 10)))] : List Value) = [dg N 8, dg N 7, dg N 6, dg N 5, dg N 4, dg N 3, dg N 2, dg N 1, dg N 0] := by
    simp only [dg, List.cons.injEq, Value.int.injEq, and_true, Nat.reducePow]
    refine ⟨?_, ?_, ?_, ?_, ?_, ?_, ?_, ?_, ?_⟩ <;> first | trivial | (congr 2; omega)
  rw [hdg] at Ab
  exact G.retI hret hlk d34_120 [] all0 ⟨_, rfl, rfl, Ab, rfl⟩ (nle rfl) (nle rfl)
theorem c_getC10 (l : Launch) (Z : State) (a0 : Array Value) (hw : ∀ d ∈ tables_1, d.before a0 Z = true) (hEW : EW Z a0 consts_1) (n0 : Nat) (c1 : Int32) (hc1 : ¬ c1 = 0) (S1 : Sta Z Z.heap "java/lang/String" "COMPACT_STRINGS" "Z" (.int c1)) (t1 t2 : Addr) (kt1 kt2 : ClassId) (SD1 : Sta Z Z.heap "java/lang/Integer" "DigitOnes" "[B" (.ref t1)) (SD2 : Sta Z Z.heap "java/lang/Integer" "DigitTens" "[B" (.ref t2)) (AD1 : Arv Z Z.heap t1 kt1 .byte 100 dOnes (.int 0)) (AD2 : Arv Z Z.heap t2 kt2 .byte 100 dTens (.int 0)) (b : Addr) (kb : ClassId) (cap : Nat) (bs : List Value) (N : Nat) {h0 : Heap} (o1 : Old Z n0 h0) (ge_b : n0 ≤ b) (hlo : 1000000000 ≤ N) (hhi : N < 2147483648) (hle : bs.length + 10 ≤ cap) (hcap : cap < 2147483648) (Ab : Arv Z h0 b kb .byte (Int32.ofNat cap) bs (.int 0)) :
    Con Z a0 l (⟨"java/lang/Integer", "getChars", "(II[B)I"⟩ : MethodName) jdk_33_method_12_code 7 (some .int) ({ frames := 0, cells := 0, slots := 0, locals := 0 } : Room) [] #[(.int (Int32.ofNat N)), (.int (Int32.ofNat (bs.length + 10))), (.ref b)] consts_1 h0 n0 [b] [b] (VV fun w h so => w = .int (Int32.ofNat (bs.length + 0)) ∧ Arv Z h b kb .byte (Int32.ofNat cap) (bs ++ [dg N 9, dg N 8, dg N 7, dg N 6, dg N 5, dg N 4, dg N 3, dg N 2, dg N 1, dg N 0]) (.int 0) ∧ so = []) := by
  refine Con.body (plainFor_of_name pn_java_lang_Integer) hEW o1 (allS ge_b all0) #[.val (.int (Int32.ofNat N)), .val (.int (Int32.ofNat (bs.length + 10))), .val (.ref b), .unset, .unset, .unset, .unset] (fun m => by first | (simp [entryFrame, mkF, argsToLocals, Value.category]; done) | rfl) ?_
  intro p e s m below meth c B hnm hret hlk G
  have hN : N < 2147483648 := by omega
  have hn : bs.length < 2147483648 := by omega
  replace Ab := Ab.pad (vs' := bs ++ [(.int 0), (.int 0), (.int 0), (.int 0), (.int 0), (.int 0), (.int 0), (.int 0), (.int 0), (.int 0)]) (pad_rep bs (.int 0) 10)
  replace G := G.iloadN 1 d34_0 rfl rfl |>.istore 3 #[.val (.int (Int32.ofNat N)), .val (.int (Int32.ofNat (bs.length + 10))), .val (.ref b), .unset, .unset, .val (.int (Int32.ofNat (bs.length + 10))), .unset] d34_1 rfl rfl |>.iloadN 4 d34_3 rfl rfl |>.ifT 11 d34_4 (XT.i0_ge_t (ofn_nn hN)) (by decide) (by decide) |>.iconst 12 (0 : Int32) d34_11 rfl rfl |>.istore 14 #[.val (.int (Int32.ofNat N)), .val (.int (Int32.ofNat (bs.length + 10))), .val (.ref b), .unset, .unset, .val (.int (Int32.ofNat (bs.length + 10))), .val (.int (0 : Int32))] d34_12 rfl rfl |>.iload 16 d34_14 rfl rfl |>.ifF 19 d34_16 (XT.i0_ne_f rfl) rfl
  replace G := G.iloadN 20 d34_19 rfl rfl |>.ineg 21 d34_20 rfl |>.istoreN 22 #[.val (.int (-(Int32.ofNat N))), .val (.int (Int32.ofNat (bs.length + 10))), .val (.ref b), .unset, .unset, .val (.int (Int32.ofNat (bs.length + 10))), .val (.int (0 : Int32))] d34_21 rfl rfl |>.iloadN 23 d34_22 rfl rfl |>.bipush 25 (-100 : Int32) d34_23 (by decide) rfl |>.icmpF 28 d34_25 (XT.ii_gt_f (ng_ngt (K := -100) (by omega) rfl (by omega))) rfl |>.iloadN 29 d34_28 rfl rfl |>.bipush 31 (100 : Int32) d34_29 (by decide) rfl
  replace G := G.idiv 32 d34_31 (by decide) rfl |>.top (y := (.int (-(Int32.ofNat (N / 100))))) (congrArg Value.int (ng_div (by omega))) |>.istoreN 33 #[.val (.int (-(Int32.ofNat N))), .val (.int (Int32.ofNat (bs.length + 10))), .val (.ref b), .val (.int (-(Int32.ofNat (N / 100)))), .unset, .val (.int (Int32.ofNat (bs.length + 10))), .val (.int (0 : Int32))] d34_32 rfl rfl |>.iloadN 34 d34_33 rfl rfl |>.bipush 36 (100 : Int32) d34_34 (by decide) rfl |>.imul 37 d34_36 rfl |>.iloadN 38 d34_37 rfl rfl |>.isub 39 d34_38 rfl
  replace G := G.top (y := (.int (Int32.ofNat (N % 100)))) (congrArg Value.int (ng_rem (by omega))) |>.istore 41 #[.val (.int (-(Int32.ofNat N))), .val (.int (Int32.ofNat (bs.length + 10))), .val (.ref b), .val (.int (-(Int32.ofNat (N / 100)))), .val (.int (Int32.ofNat (N % 100))), .val (.int (Int32.ofNat (bs.length + 10))), .val (.int (0 : Int32))] d34_39 rfl rfl |>.iloadN 42 d34_41 rfl rfl |>.istoreN 43 #[.val (.int (-(Int32.ofNat (N / 100)))), .val (.int (Int32.ofNat (bs.length + 10))), .val (.ref b), .val (.int (-(Int32.ofNat (N / 100)))), .val (.int (Int32.ofNat (N % 100))), .val (.int (Int32.ofNat (bs.length + 10))), .val (.int (0 : Int32))] d34_42 rfl rfl |>.aloadN 44 d34_43 rfl rfl rfl |>.iincV 47 #[.val (.int (-(Int32.ofNat (N / 100)))), .val (.int (Int32.ofNat (bs.length + 10))), .val (.ref b), .val (.int (-(Int32.ofNat (N / 100)))), .val (.int (Int32.ofNat (N % 100))), .val (.int (Int32.ofNat (bs.length + 9))), .val (.int (0 : Int32))] (Int32.ofNat (bs.length + 9)) d34_44 rfl (ofn_pred (bs.length + 9)) rfl rfl |>.iload 49 d34_47 rfl rfl |>.gets 52 (host := "") (Or.inl (hw _ (mm 189 rfl))) Via.refl (G.sta SD1) d34_49 rfl
  replace G := G.iload 54 d34_52 rfl rfl |>.baload 55 (v := (.int (Int32.ofNat (48 + N % 100 % 10)))) (AD1.ext G.old.2) ⟨ofn_nn (by omega), ofn_lt (n := 100) (by omega) (by decide)⟩ (by rw [ofn_nat (by omega)]; exact dOnes_at (by omega)) d34_54 rfl
  obtain ⟨g1, G', As, Ks⟩ := G.bastore 56 (bs.length + 9) Ab ⟨ofn_nn (by omega), ofn_lt (by omega) hcap⟩ (ofn_nat (by omega)) (by simp) (Or.inl (mm 0 rfl)) (mm 0 rfl) d34_55 rfl
  replace G := G'; clear G'
  rw [set_app2 _ _ 9 _ _ rfl, dig_b (by omega)] at As
  replace Ab : Arv Z g1 b kb .byte (Int32.ofNat cap) (bs ++ [(.int 0), (.int 0), (.int 0), (.int 0), (.int 0), (.int 0), (.int 0), (.int 0), (.int 0), (.int (Int32.ofNat (48 + N % 100 % 10)))]) (.int 0) := As
  replace G := G.aloadN 57 d34_56 rfl rfl rfl |>.iincV 60 #[.val (.int (-(Int32.ofNat (N / 100)))), .val (.int (Int32.ofNat (bs.length + 10))), .val (.ref b), .val (.int (-(Int32.ofNat (N / 100)))), .val (.int (Int32.ofNat (N % 100))), .val (.int (Int32.ofNat (bs.length + 8))), .val (.int (0 : Int32))] (Int32.ofNat (bs.length + 8)) d34_57 rfl (ofn_pred (bs.length + 8)) rfl rfl |>.iload 62 d34_60 rfl rfl |>.gets 65 (host := "") (Or.inl (hw _ (mm 236 rfl))) Via.refl (G.sta SD2) d34_62 rfl |>.iload 67 d34_65 rfl rfl |>.baload 68 (v := (.int (Int32.ofNat (48 + N % 100 / 10)))) (AD2.ext G.old.2) ⟨ofn_nn (by omega), ofn_lt (n := 100) (by omega) (by decide)⟩ (by rw [ofn_nat (by omega)]; exact dTens_at (by omega)) d34_67 rfl
  obtain ⟨g2, G', As, Ks⟩ := G.bastore 69 (bs.length + 8) Ab ⟨ofn_nn (by omega), ofn_lt (by omega) hcap⟩ (ofn_nat (by omega)) (by simp) (Or.inl (mm 0 rfl)) (mm 0 rfl) d34_68 rfl
  replace G := G'; clear G'
  rw [set_app2 _ _ 8 _ _ rfl, dig_b (by omega)] at As
  replace Ab : Arv Z g2 b kb .byte (Int32.ofNat cap) (bs ++ [(.int 0), (.int 0), (.int 0), (.int 0), (.int 0), (.int 0), (.int 0), (.int 0), (.int (Int32.ofNat (48 + N % 100 / 10))), (.int (Int32.ofNat (48 + N % 100 % 10)))]) (.int 0) := As
  replace G := G.goto 22 d34_69 (by decide) (by decide) |>.iloadN 23 d34_22 rfl rfl |>.bipush 25 (-100 : Int32) d34_23 (by decide) rfl |>.icmpF 28 d34_25 (XT.ii_gt_f (ng_ngt (K := -100) (by omega) rfl (by omega))) rfl |>.iloadN 29 d34_28 rfl rfl |>.bipush 31 (100 : Int32) d34_29 (by decide) rfl |>.idiv 32 d34_31 (by decide) rfl |>.top (y := (.int (-(Int32.ofNat (N / 100 / 100))))) (congrArg Value.int (ng_div (by omega)))
  replace G := G.istoreN 33 #[.val (.int (-(Int32.ofNat (N / 100)))), .val (.int (Int32.ofNat (bs.length + 10))), .val (.ref b), .val (.int (-(Int32.ofNat (N / 100 / 100)))), .val (.int (Int32.ofNat (N % 100))), .val (.int (Int32.ofNat (bs.length + 8))), .val (.int (0 : Int32))] d34_32 rfl rfl |>.iloadN 34 d34_33 rfl rfl |>.bipush 36 (100 : Int32) d34_34 (by decide) rfl |>.imul 37 d34_36 rfl |>.iloadN 38 d34_37 rfl rfl |>.isub 39 d34_38 rfl |>.top (y := (.int (Int32.ofNat (N / 100 % 100)))) (congrArg Value.int (ng_rem (by omega))) |>.istore 41 #[.val (.int (-(Int32.ofNat (N / 100)))), .val (.int (Int32.ofNat (bs.length + 10))), .val (.ref b), .val (.int (-(Int32.ofNat (N / 100 / 100)))), .val (.int (Int32.ofNat (N / 100 % 100))), .val (.int (Int32.ofNat (bs.length + 8))), .val (.int (0 : Int32))] d34_39 rfl rfl
  replace G := G.iloadN 42 d34_41 rfl rfl |>.istoreN 43 #[.val (.int (-(Int32.ofNat (N / 100 / 100)))), .val (.int (Int32.ofNat (bs.length + 10))), .val (.ref b), .val (.int (-(Int32.ofNat (N / 100 / 100)))), .val (.int (Int32.ofNat (N / 100 % 100))), .val (.int (Int32.ofNat (bs.length + 8))), .val (.int (0 : Int32))] d34_42 rfl rfl |>.aloadN 44 d34_43 rfl rfl rfl |>.iincV 47 #[.val (.int (-(Int32.ofNat (N / 100 / 100)))), .val (.int (Int32.ofNat (bs.length + 10))), .val (.ref b), .val (.int (-(Int32.ofNat (N / 100 / 100)))), .val (.int (Int32.ofNat (N / 100 % 100))), .val (.int (Int32.ofNat (bs.length + 7))), .val (.int (0 : Int32))] (Int32.ofNat (bs.length + 7)) d34_44 rfl (ofn_pred (bs.length + 7)) rfl rfl |>.iload 49 d34_47 rfl rfl |>.gets 52 (host := "") (Or.inl (hw _ (mm 189 rfl))) Via.refl (G.sta SD1) d34_49 rfl |>.iload 54 d34_52 rfl rfl |>.baload 55 (v := (.int (Int32.ofNat (48 + N / 100 % 100 % 10)))) (AD1.ext G.old.2) ⟨ofn_nn (by omega), ofn_lt (n := 100) (by omega) (by decide)⟩ (by rw [ofn_nat (by omega)]; exact dOnes_at (by omega)) d34_54 rfl
  obtain ⟨g3, G', As, Ks⟩ := G.bastore 56 (bs.length + 7) Ab ⟨ofn_nn (by omega), ofn_lt (by omega) hcap⟩ (ofn_nat (by omega)) (by simp) (Or.inl (mm 0 rfl)) (mm 0 rfl) d34_55 rfl
  replace G := G'; clear G'
  rw [set_app2 _ _ 7 _ _ rfl, dig_b (by omega)] at As
  replace Ab : Arv Z g3 b kb .byte (Int32.ofNat cap) (bs ++ [(.int 0), (.int 0), (.int 0), (.int 0), (.int 0), (.int 0), (.int 0), (.int (Int32.ofNat (48 + N / 100 % 100 % 10))), (.int (Int32.ofNat (48 + N % 100 / 10))), (.int (Int32.ofNat (48 + N % 100 % 10)))]) (.int 0) := As
  replace G := G.aloadN 57 d34_56 rfl rfl rfl |>.iincV 60 #[.val (.int (-(Int32.ofNat (N / 100 / 100)))), .val (.int (Int32.ofNat (bs.length + 10))), .val (.ref b), .val (.int (-(Int32.ofNat (N / 100 / 100)))), .val (.int (Int32.ofNat (N / 100 % 100))), .val (.int (Int32.ofNat (bs.length + 6))), .val (.int (0 : Int32))] (Int32.ofNat (bs.length + 6)) d34_57 rfl (ofn_pred (bs.length + 6)) rfl rfl |>.iload 62 d34_60 rfl rfl |>.gets 65 (host := "") (Or.inl (hw _ (mm 236 rfl))) Via.refl (G.sta SD2) d34_62 rfl |>.iload 67 d34_65 rfl rfl |>.baload 68 (v := (.int (Int32.ofNat (48 + N / 100 % 100 / 10)))) (AD2.ext G.old.2) ⟨ofn_nn (by omega), ofn_lt (n := 100) (by omega) (by decide)⟩ (by rw [ofn_nat (by omega)]; exact dTens_at (by omega)) d34_67 rfl
  obtain ⟨g4, G', As, Ks⟩ := G.bastore 69 (bs.length + 6) Ab ⟨ofn_nn (by omega), ofn_lt (by omega) hcap⟩ (ofn_nat (by omega)) (by simp) (Or.inl (mm 0 rfl)) (mm 0 rfl) d34_68 rfl
  replace G := G'; clear G'
  rw [set_app2 _ _ 6 _ _ rfl, dig_b (by omega)] at As
  replace Ab : Arv Z g4 b kb .byte (Int32.ofNat cap) (bs ++ [(.int 0), (.int 0), (.int 0), (.int 0), (.int 0), (.int 0), (.int (Int32.ofNat (48 + N / 100 % 100 / 10))), (.int (Int32.ofNat (48 + N / 100 % 100 % 10))), (.int (Int32.ofNat (48 + N % 100 / 10))), (.int (Int32.ofNat (48 + N % 100 % 10)))]) (.int 0) := As
  replace G := G.goto 22 d34_69 (by decide) (by decide) |>.iloadN 23 d34_22 rfl rfl |>.bipush 25 (-100 : Int32) d34_23 (by decide) rfl |>.icmpF 28 d34_25 (XT.ii_gt_f (ng_ngt (K := -100) (by omega) rfl (by omega))) rfl |>.iloadN 29 d34_28 rfl rfl |>.bipush 31 (100 : Int32) d34_29 (by decide) rfl |>.idiv 32 d34_31 (by decide) rfl |>.top (y := (.int (-(Int32.ofNat (N / 100 / 100 / 100))))) (congrArg Value.int (ng_div (by omega)))
  replace G := G.istoreN 33 #[.val (.int (-(Int32.ofNat (N / 100 / 100)))), .val (.int (Int32.ofNat (bs.length + 10))), .val (.ref b), .val (.int (-(Int32.ofNat (N / 100 / 100 / 100)))), .val (.int (Int32.ofNat (N / 100 % 100))), .val (.int (Int32.ofNat (bs.length + 6))), .val (.int (0 : Int32))] d34_32 rfl rfl |>.iloadN 34 d34_33 rfl rfl |>.bipush 36 (100 : Int32) d34_34 (by decide) rfl |>.imul 37 d34_36 rfl |>.iloadN 38 d34_37 rfl rfl |>.isub 39 d34_38 rfl |>.top (y := (.int (Int32.ofNat (N / 100 / 100 % 100)))) (congrArg Value.int (ng_rem (by omega))) |>.istore 41 #[.val (.int (-(Int32.ofNat (N / 100 / 100)))), .val (.int (Int32.ofNat (bs.length + 10))), .val (.ref b), .val (.int (-(Int32.ofNat (N / 100 / 100 / 100)))), .val (.int (Int32.ofNat (N / 100 / 100 % 100))), .val (.int (Int32.ofNat (bs.length + 6))), .val (.int (0 : Int32))] d34_39 rfl rfl
  replace G := G.iloadN 42 d34_41 rfl rfl |>.istoreN 43 #[.val (.int (-(Int32.ofNat (N / 100 / 100 / 100)))), .val (.int (Int32.ofNat (bs.length + 10))), .val (.ref b), .val (.int (-(Int32.ofNat (N / 100 / 100 / 100)))), .val (.int (Int32.ofNat (N / 100 / 100 % 100))), .val (.int (Int32.ofNat (bs.length + 6))), .val (.int (0 : Int32))] d34_42 rfl rfl |>.aloadN 44 d34_43 rfl rfl rfl |>.iincV 47 #[.val (.int (-(Int32.ofNat (N / 100 / 100 / 100)))), .val (.int (Int32.ofNat (bs.length + 10))), .val (.ref b), .val (.int (-(Int32.ofNat (N / 100 / 100 / 100)))), .val (.int (Int32.ofNat (N / 100 / 100 % 100))), .val (.int (Int32.ofNat (bs.length + 5))), .val (.int (0 : Int32))] (Int32.ofNat (bs.length + 5)) d34_44 rfl (ofn_pred (bs.length + 5)) rfl rfl |>.iload 49 d34_47 rfl rfl |>.gets 52 (host := "") (Or.inl (hw _ (mm 189 rfl))) Via.refl (G.sta SD1) d34_49 rfl |>.iload 54 d34_52 rfl rfl |>.baload 55 (v := (.int (Int32.ofNat (48 + N / 100 / 100 % 100 % 10)))) (AD1.ext G.old.2) ⟨ofn_nn (by omega), ofn_lt (n := 100) (by omega) (by decide)⟩ (by rw [ofn_nat (by omega)]; exact dOnes_at (by omega)) d34_54 rfl
  obtain ⟨g5, G', As, Ks⟩ := G.bastore 56 (bs.length + 5) Ab ⟨ofn_nn (by omega), ofn_lt (by omega) hcap⟩ (ofn_nat (by omega)) (by simp) (Or.inl (mm 0 rfl)) (mm 0 rfl) d34_55 rfl
  replace G := G'; clear G'
  rw [set_app2 _ _ 5 _ _ rfl, dig_b (by omega)] at As
  replace Ab : Arv Z g5 b kb .byte (Int32.ofNat cap) (bs ++ [(.int 0), (.int 0), (.int 0), (.int 0), (.int 0), (.int (Int32.ofNat (48 + N / 100 / 100 % 100 % 10))), (.int (Int32.ofNat (48 + N / 100 % 100 / 10))), (.int (Int32.ofNat (48 + N / 100 % 100 % 10))), (.int (Int32.ofNat (48 + N % 100 / 10))), (.int (Int32.ofNat (48 + N % 100 % 10)))]) (.int 0) := As
  replace G := G.aloadN 57 d34_56 rfl rfl rfl |>.iincV 60 #[.val (.int (-(Int32.ofNat (N / 100 / 100 / 100)))), .val (.int (Int32.ofNat (bs.length + 10))), .val (.ref b), .val (.int (-(Int32.ofNat (N / 100 / 100 / 100)))), .val (.int (Int32.ofNat (N / 100 / 100 % 100))), .val (.int (Int32.ofNat (bs.length + 4))), .val (.int (0 : Int32))] (Int32.ofNat (bs.length + 4)) d34_57 rfl (ofn_pred (bs.length + 4)) rfl rfl |>.iload 62 d34_60 rfl rfl |>.gets 65 (host := "") (Or.inl (hw _ (mm 236 rfl))) Via.refl (G.sta SD2) d34_62 rfl |>.iload 67 d34_65 rfl rfl |>.baload 68 (v := (.int (Int32.ofNat (48 + N / 100 / 100 % 100 / 10)))) (AD2.ext G.old.2) ⟨ofn_nn (by omega), ofn_lt (n := 100) (by omega) (by decide)⟩ (by rw [ofn_nat (by omega)]; exact dTens_at (by omega)) d34_67 rfl
  obtain ⟨g6, G', As, Ks⟩ := G.bastore 69 (bs.length + 4) Ab ⟨ofn_nn (by omega), ofn_lt (by omega) hcap⟩ (ofn_nat (by omega)) (by simp) (Or.inl (mm 0 rfl)) (mm 0 rfl) d34_68 rfl
  replace G := G'; clear G'
  rw [set_app2 _ _ 4 _ _ rfl, dig_b (by omega)] at As
  replace Ab : Arv Z g6 b kb .byte (Int32.ofNat cap) (bs ++ [(.int 0), (.int 0), (.int 0), (.int 0), (.int (Int32.ofNat (48 + N / 100 / 100 % 100 / 10))), (.int (Int32.ofNat (48 + N / 100 / 100 % 100 % 10))), (.int (Int32.ofNat (48 + N / 100 % 100 / 10))), (.int (Int32.ofNat (48 + N / 100 % 100 % 10))), (.int (Int32.ofNat (48 + N % 100 / 10))), (.int (Int32.ofNat (48 + N % 100 % 10)))]) (.int 0) := As
  replace G := G.goto 22 d34_69 (by decide) (by decide) |>.iloadN 23 d34_22 rfl rfl |>.bipush 25 (-100 : Int32) d34_23 (by decide) rfl |>.icmpF 28 d34_25 (XT.ii_gt_f (ng_ngt (K := -100) (by omega) rfl (by omega))) rfl |>.iloadN 29 d34_28 rfl rfl |>.bipush 31 (100 : Int32) d34_29 (by decide) rfl |>.idiv 32 d34_31 (by decide) rfl |>.top (y := (.int (-(Int32.ofNat (N / 100 / 100 / 100 / 100))))) (congrArg Value.int (ng_div (by omega)))
  replace G := G.istoreN 33 #[.val (.int (-(Int32.ofNat (N / 100 / 100 / 100)))), .val (.int (Int32.ofNat (bs.length + 10))), .val (.ref b), .val (.int (-(Int32.ofNat (N / 100 / 100 / 100 / 100)))), .val (.int (Int32.ofNat (N / 100 / 100 % 100))), .val (.int (Int32.ofNat (bs.length + 4))), .val (.int (0 : Int32))] d34_32 rfl rfl |>.iloadN 34 d34_33 rfl rfl |>.bipush 36 (100 : Int32) d34_34 (by decide) rfl |>.imul 37 d34_36 rfl |>.iloadN 38 d34_37 rfl rfl |>.isub 39 d34_38 rfl |>.top (y := (.int (Int32.ofNat (N / 100 / 100 / 100 % 100)))) (congrArg Value.int (ng_rem (by omega))) |>.istore 41 #[.val (.int (-(Int32.ofNat (N / 100 / 100 / 100)))), .val (.int (Int32.ofNat (bs.length + 10))), .val (.ref b), .val (.int (-(Int32.ofNat (N / 100 / 100 / 100 / 100)))), .val (.int (Int32.ofNat (N / 100 / 100 / 100 % 100))), .val (.int (Int32.ofNat (bs.length + 4))), .val (.int (0 : Int32))] d34_39 rfl rfl
  replace G := G.iloadN 42 d34_41 rfl rfl |>.istoreN 43 #[.val (.int (-(Int32.ofNat (N / 100 / 100 / 100 / 100)))), .val (.int (Int32.ofNat (bs.length + 10))), .val (.ref b), .val (.int (-(Int32.ofNat (N / 100 / 100 / 100 / 100)))), .val (.int (Int32.ofNat (N / 100 / 100 / 100 % 100))), .val (.int (Int32.ofNat (bs.length + 4))), .val (.int (0 : Int32))] d34_42 rfl rfl |>.aloadN 44 d34_43 rfl rfl rfl |>.iincV 47 #[.val (.int (-(Int32.ofNat (N / 100 / 100 / 100 / 100)))), .val (.int (Int32.ofNat (bs.length + 10))), .val (.ref b), .val (.int (-(Int32.ofNat (N / 100 / 100 / 100 / 100)))), .val (.int (Int32.ofNat (N / 100 / 100 / 100 % 100))), .val (.int (Int32.ofNat (bs.length + 3))), .val (.int (0 : Int32))] (Int32.ofNat (bs.length + 3)) d34_44 rfl (ofn_pred (bs.length + 3)) rfl rfl |>.iload 49 d34_47 rfl rfl |>.gets 52 (host := "") (Or.inl (hw _ (mm 189 rfl))) Via.refl (G.sta SD1) d34_49 rfl |>.iload 54 d34_52 rfl rfl |>.baload 55 (v := (.int (Int32.ofNat (48 + N / 100 / 100 / 100 % 100 % 10)))) (AD1.ext G.old.2) ⟨ofn_nn (by omega), ofn_lt (n := 100) (by omega) (by decide)⟩ (by rw [ofn_nat (by omega)]; exact dOnes_at (by omega)) d34_54 rfl
  obtain ⟨g7, G', As, Ks⟩ := G.bastore 56 (bs.length + 3) Ab ⟨ofn_nn (by omega), ofn_lt (by omega) hcap⟩ (ofn_nat (by omega)) (by simp) (Or.inl (mm 0 rfl)) (mm 0 rfl) d34_55 rfl
  replace G := G'; clear G'
  rw [set_app2 _ _ 3 _ _ rfl, dig_b (by omega)] at As
  replace Ab : Arv Z g7 b kb .byte (Int32.ofNat cap) (bs ++ [(.int 0), (.int 0), (.int 0), (.int (Int32.ofNat (48 + N / 100 / 100 / 100 % 100 % 10))), (.int (Int32.ofNat (48 + N / 100 / 100 % 100 / 10))), (.int (Int32.ofNat (48 + N / 100 / 100 % 100 % 10))), (.int (Int32.ofNat (48 + N / 100 % 100 / 10))), (.int (Int32.ofNat (48 + N / 100 % 100 % 10))), (.int (Int32.ofNat (48 + N % 100 / 10))), (.int (Int32.ofNat (48 + N % 100 % 10)))]) (.int 0) := As
  replace G := G.aloadN 57 d34_56 rfl rfl rfl |>.iincV 60 #[.val (.int (-(Int32.ofNat (N / 100 / 100 / 100 / 100)))), .val (.int (Int32.ofNat (bs.length + 10))), .val (.ref b), .val (.int (-(Int32.ofNat (N / 100 / 100 / 100 / 100)))), .val (.int (Int32.ofNat (N / 100 / 100 / 100 % 100))), .val (.int (Int32.ofNat (bs.length + 2))), .val (.int (0 : Int32))] (Int32.ofNat (bs.length + 2)) d34_57 rfl (ofn_pred (bs.length + 2)) rfl rfl |>.iload 62 d34_60 rfl rfl |>.gets 65 (host := "") (Or.inl (hw _ (mm 236 rfl))) Via.refl (G.sta SD2) d34_62 rfl |>.iload 67 d34_65 rfl rfl |>.baload 68 (v := (.int (Int32.ofNat (48 + N / 100 / 100 / 100 % 100 / 10)))) (AD2.ext G.old.2) ⟨ofn_nn (by omega), ofn_lt (n := 100) (by omega) (by decide)⟩ (by rw [ofn_nat (by omega)]; exact dTens_at (by omega)) d34_67 rfl
  obtain ⟨g8, G', As, Ks⟩ := G.bastore 69 (bs.length + 2) Ab ⟨ofn_nn (by omega), ofn_lt (by omega) hcap⟩ (ofn_nat (by omega)) (by simp) (Or.inl (mm 0 rfl)) (mm 0 rfl) d34_68 rfl
  replace G := G'; clear G'
  rw [set_app2 _ _ 2 _ _ rfl, dig_b (by omega)] at As
  replace Ab : Arv Z g8 b kb .byte (Int32.ofNat cap) (bs ++ [(.int 0), (.int 0), (.int (Int32.ofNat (48 + N / 100 / 100 / 100 % 100 / 10))), (.int (Int32.ofNat (48 + N / 100 / 100 / 100 % 100 % 10))), (.int (Int32.ofNat (48 + N / 100 / 100 % 100 / 10))), (.int (Int32.ofNat (48 + N / 100 / 100 % 100 % 10))), (.int (Int32.ofNat (48 + N / 100 % 100 / 10))), (.int (Int32.ofNat (48 + N / 100 % 100 % 10))), (.int (Int32.ofNat (48 + N % 100 / 10))), (.int (Int32.ofNat (48 + N % 100 % 10)))]) (.int 0) := As
  replace G := G.goto 22 d34_69 (by decide) (by decide) |>.iloadN 23 d34_22 rfl rfl |>.bipush 25 (-100 : Int32) d34_23 (by decide) rfl |>.icmpT 72 d34_25 (XT.ii_gt_t (ng_gt (K := -100) (by omega) rfl (by omega))) (by decide) (by decide) |>.aloadN 73 d34_72 rfl rfl rfl |>.iincV 76 #[.val (.int (-(Int32.ofNat (N / 100 / 100 / 100 / 100)))), .val (.int (Int32.ofNat (bs.length + 10))), .val (.ref b), .val (.int (-(Int32.ofNat (N / 100 / 100 / 100 / 100)))), .val (.int (Int32.ofNat (N / 100 / 100 / 100 % 100))), .val (.int (Int32.ofNat (bs.length + 1))), .val (.int (0 : Int32))] (Int32.ofNat (bs.length + 1)) d34_73 rfl (ofn_pred (bs.length + 1)) rfl rfl |>.iload 78 d34_76 rfl rfl |>.gets 81 (host := "") (Or.inl (hw _ (mm 189 rfl))) Via.refl (G.sta SD1) d34_78 rfl
  replace G := G.iloadN 82 d34_81 rfl rfl |>.ineg 83 d34_82 rfl |>.top (y := (.int (Int32.ofNat (N / 100 / 100 / 100 / 100)))) (congrArg Value.int Int32.neg_neg) |>.baload 84 (v := (.int (Int32.ofNat (48 + (N / 100 / 100 / 100 / 100) % 10)))) (AD1.ext G.old.2) ⟨ofn_nn (by omega), ofn_lt (n := 100) (by omega) (by decide)⟩ (by rw [ofn_nat (by omega)]; exact dOnes_at (by omega)) d34_83 rfl
  obtain ⟨g9, G', As, Ks⟩ := G.bastore 85 (bs.length + 1) Ab ⟨ofn_nn (by omega), ofn_lt (by omega) hcap⟩ (ofn_nat (by omega)) (by simp) (Or.inl (mm 0 rfl)) (mm 0 rfl) d34_84 rfl
  replace G := G'; clear G'
  rw [set_app2 _ _ 1 _ _ rfl, dig_b (by omega)] at As
  replace Ab : Arv Z g9 b kb .byte (Int32.ofNat cap) (bs ++ [(.int 0), (.int (Int32.ofNat (48 + (N / 100 / 100 / 100 / 100) % 10))), (.int (Int32.ofNat (48 + N / 100 / 100 / 100 % 100 / 10))), (.int (Int32.ofNat (48 + N / 100 / 100 / 100 % 100 % 10))), (.int (Int32.ofNat (48 + N / 100 / 100 % 100 / 10))), (.int (Int32.ofNat (48 + N / 100 / 100 % 100 % 10))), (.int (Int32.ofNat (48 + N / 100 % 100 / 10))), (.int (Int32.ofNat (48 + N / 100 % 100 % 10))), (.int (Int32.ofNat (48 + N % 100 / 10))), (.int (Int32.ofNat (48 + N % 100 % 10)))]) (.int 0) := As
  replace G := G.iloadN 86 d34_85 rfl rfl |>.bipush 88 (-9 : Int32) d34_86 (by decide) rfl |>.icmpF 91 d34_88 (XT.ii_ge_f (ng_lt (K := -9) (by omega) rfl (by omega))) rfl |>.aloadN 92 d34_91 rfl rfl rfl |>.iincV 95 #[.val (.int (-(Int32.ofNat (N / 100 / 100 / 100 / 100)))), .val (.int (Int32.ofNat (bs.length + 10))), .val (.ref b), .val (.int (-(Int32.ofNat (N / 100 / 100 / 100 / 100)))), .val (.int (Int32.ofNat (N / 100 / 100 / 100 % 100))), .val (.int (Int32.ofNat (bs.length + 0))), .val (.int (0 : Int32))] (Int32.ofNat (bs.length + 0)) d34_92 rfl (ofn_pred (bs.length + 0)) rfl rfl |>.iload 97 d34_95 rfl rfl |>.gets 100 (host := "") (Or.inl (hw _ (mm 236 rfl))) Via.refl (G.sta SD2) d34_97 rfl |>.iloadN 101 d34_100 rfl rfl
  replace G := G.ineg 102 d34_101 rfl |>.top (y := (.int (Int32.ofNat (N / 100 / 100 / 100 / 100)))) (congrArg Value.int Int32.neg_neg) |>.baload 103 (v := (.int (Int32.ofNat (48 + (N / 100 / 100 / 100 / 100) / 10)))) (AD2.ext G.old.2) ⟨ofn_nn (by omega), ofn_lt (n := 100) (by omega) (by decide)⟩ (by rw [ofn_nat (by omega)]; exact dTens_at (by omega)) d34_102 rfl
  obtain ⟨g10, G', As, Ks⟩ := G.bastore 104 (bs.length + 0) Ab ⟨ofn_nn (by omega), ofn_lt (by omega) hcap⟩ (ofn_nat (by omega)) (by simp) (Or.inl (mm 0 rfl)) (mm 0 rfl) d34_103 rfl
  replace G := G'; clear G'
  rw [set_app2 _ _ 0 _ _ rfl, dig_b (by omega)] at As
  replace Ab : Arv Z g10 b kb .byte (Int32.ofNat cap) (bs ++ [(.int (Int32.ofNat (48 + (N / 100 / 100 / 100 / 100) / 10))), (.int (Int32.ofNat (48 + (N / 100 / 100 / 100 / 100) % 10))), (.int (Int32.ofNat (48 + N / 100 / 100 / 100 % 100 / 10))), (.int (Int32.ofNat (48 + N / 100 / 100 / 100 % 100 % 10))), (.int (Int32.ofNat (48 + N / 100 / 100 % 100 / 10))), (.int (Int32.ofNat (48 + N / 100 / 100 % 100 % 10))), (.int (Int32.ofNat (48 + N / 100 % 100 / 10))), (.int (Int32.ofNat (48 + N / 100 % 100 % 10))), (.int (Int32.ofNat (48 + N % 100 / 10))), (.int (Int32.ofNat (48 + N % 100 % 10)))]) (.int 0) := As
  replace G := G.iload 106 d34_104 rfl rfl |>.ifT 118 d34_106 (XT.i0_eq_t rfl) (by decide) (by decide) |>.iload 120 d34_118 rfl rfl
  have hdg : ([(.int (Int32.ofNat (48 + (N / 100 / 100 / 100 / 100) / 10))), (.int (Int32.ofNat (48 + (N / 100 / 100 / 100 / 100) % 10))), (.int (Int32.ofNat (48 + N / 100 / 100 / 100 % 100 / 10))), (.int (Int32.ofNat (48 + N / 100 / 100 / 100 % 100 % 10))), (.int (Int32.ofNat (48 + N / 100 / 100 % 100 / 10))), (.int (Int32.ofNat (48 + N / 100 / 100 % 100 % 10))), (.int (Int32.ofNat (48 + N / 100 % 100 / 10))), (.int (Int32.ofNat (48 + N / 100 % 100 % 10))), (.int (Int32.ofNat (48 + N % 100 / 10))), (.int (Int32.ofNat (48 + N % 100 % 10)))] : List Value) = [dg N 9, dg N 8, dg N 7, dg N 6, dg N 5, dg N 4, dg N 3, dg N 2, dg N 1, dg N 0] := by
    simp only [dg, List.cons.injEq, Value.int.injEq, and_true, Nat.reducePow]
    refine ⟨?_, ?_, ?_, ?_, ?_, ?_, ?_, ?_, ?_, ?_⟩ <;> first | trivial | (congr 2; omega)
  rw [hdg] at Ab
  exact G.retI hret hlk d34_120 [] all0 ⟨_, rfl, rfl, Ab, rfl⟩ (nle rfl) (nle rfl)
theorem c_getC (l : Launch) (Z : State) (a0 : Array Value) (hw : ∀ d ∈ tables_1, d.before a0 Z = true) (hEW : EW Z a0 consts_1) (n0 : Nat) (c1 : Int32) (hc1 : ¬ c1 = 0) (S1 : Sta Z Z.heap "java/lang/String" "COMPACT_STRINGS" "Z" (.int c1)) (t1 t2 : Addr) (kt1 kt2 : ClassId) (SD1 : Sta Z Z.heap "java/lang/Integer" "DigitOnes" "[B" (.ref t1)) (SD2 : Sta Z Z.heap "java/lang/Integer" "DigitTens" "[B" (.ref t2)) (AD1 : Arv Z Z.heap t1 kt1 .byte 100 dOnes (.int 0)) (AD2 : Arv Z Z.heap t2 kt2 .byte 100 dTens (.int 0)) (b : Addr) (kb : ClassId) (cap : Nat) (bs : List Value) (N : Nat) {h0 : Heap} (o1 : Old Z n0 h0) (ge_b : n0 ≤ b) (hN : N < 2147483648) (hle : bs.length + nd N ≤ cap) (hcap : cap < 2147483648) (Ab : Arv Z h0 b kb .byte (Int32.ofNat cap) bs (.int 0)) :
    Con Z a0 l (⟨"java/lang/Integer", "getChars", "(II[B)I"⟩ : MethodName) jdk_33_method_12_code 7 (some .int) ({ frames := 0, cells := 0, slots := 0, locals := 0 } : Room) [] #[(.int (Int32.ofNat N)), (.int (Int32.ofNat (bs.length + nd N))), (.ref b)] consts_1 h0 n0 [b] [b] (VV fun w h so => w = .int (Int32.ofNat (bs.length + 0)) ∧ Arv Z h b kb .byte (Int32.ofNat cap) (bs ++ digs N) (.int 0) ∧ so = []) := by
  rcases nd_cases hN with ⟨q1, q2⟩ | ⟨q1, q2⟩ | ⟨q1, q2⟩ | ⟨q1, q2⟩ | ⟨q1, q2⟩ | ⟨q1, q2⟩ | ⟨q1, q2⟩ | ⟨q1, q2⟩ | ⟨q1, q2⟩ | ⟨q1, q2⟩
  · rw [nd_1 q1 q2] at hle ⊢; rw [digs_1 q1 q2]; exact c_getC1 l Z a0 hw hEW n0 c1 hc1 S1 t1 t2 kt1 kt2 SD1 SD2 AD1 AD2 b kb cap bs N o1 ge_b q1 q2 hle hcap Ab
  · rw [nd_2 q1 q2] at hle ⊢; rw [digs_2 q1 q2]; exact c_getC2 l Z a0 hw hEW n0 c1 hc1 S1 t1 t2 kt1 kt2 SD1 SD2 AD1 AD2 b kb cap bs N o1 ge_b q1 q2 hle hcap Ab
  · rw [nd_3 q1 q2] at hle ⊢; rw [digs_3 q1 q2]; exact c_getC3 l Z a0 hw hEW n0 c1 hc1 S1 t1 t2 kt1 kt2 SD1 SD2 AD1 AD2 b kb cap bs N o1 ge_b q1 q2 hle hcap Ab
  · rw [nd_4 q1 q2] at hle ⊢; rw [digs_4 q1 q2]; exact c_getC4 l Z a0 hw hEW n0 c1 hc1 S1 t1 t2 kt1 kt2 SD1 SD2 AD1 AD2 b kb cap bs N o1 ge_b q1 q2 hle hcap Ab
  · rw [nd_5 q1 q2] at hle ⊢; rw [digs_5 q1 q2]; exact c_getC5 l Z a0 hw hEW n0 c1 hc1 S1 t1 t2 kt1 kt2 SD1 SD2 AD1 AD2 b kb cap bs N o1 ge_b q1 q2 hle hcap Ab
  · rw [nd_6 q1 q2] at hle ⊢; rw [digs_6 q1 q2]; exact c_getC6 l Z a0 hw hEW n0 c1 hc1 S1 t1 t2 kt1 kt2 SD1 SD2 AD1 AD2 b kb cap bs N o1 ge_b q1 q2 hle hcap Ab
  · rw [nd_7 q1 q2] at hle ⊢; rw [digs_7 q1 q2]; exact c_getC7 l Z a0 hw hEW n0 c1 hc1 S1 t1 t2 kt1 kt2 SD1 SD2 AD1 AD2 b kb cap bs N o1 ge_b q1 q2 hle hcap Ab
  · rw [nd_8 q1 q2] at hle ⊢; rw [digs_8 q1 q2]; exact c_getC8 l Z a0 hw hEW n0 c1 hc1 S1 t1 t2 kt1 kt2 SD1 SD2 AD1 AD2 b kb cap bs N o1 ge_b q1 q2 hle hcap Ab
  · rw [nd_9 q1 q2] at hle ⊢; rw [digs_9 q1 q2]; exact c_getC9 l Z a0 hw hEW n0 c1 hc1 S1 t1 t2 kt1 kt2 SD1 SD2 AD1 AD2 b kb cap bs N o1 ge_b q1 q2 hle hcap Ab
  · rw [nd_10 q1 q2] at hle ⊢; rw [digs_10 q1 q2]; exact c_getC10 l Z a0 hw hEW n0 c1 hc1 S1 t1 t2 kt1 kt2 SD1 SD2 AD1 AD2 b kb cap bs N o1 ge_b q1 q2 hle hcap Ab
theorem d31_0 : decode jdk_68_method_32_code 0 = .ok (.aload_n 0, 1) := by decide +kernel
theorem d31_1 : decode jdk_68_method_32_code 1 = .ok (.getfield 79, 3) := by decide +kernel
theorem d31_4 : decode jdk_68_method_32_code 4 = .ok (.istore_n 2, 1) := by decide +kernel
theorem d31_5 : decode jdk_68_method_32_code 5 = .ok (.iload_n 2, 1) := by decide +kernel
theorem d31_6 : decode jdk_68_method_32_code 6 = .ok (.iload_n 1, 1) := by decide +kernel
theorem d31_7 : decode jdk_68_method_32_code 7 = .ok (.invokestatic 245, 3) := by decide +kernel
theorem d31_10 : decode jdk_68_method_32_code 10 = .ok (.iadd, 1) := by decide +kernel
theorem d31_11 : decode jdk_68_method_32_code 11 = .ok (.istore_n 3, 1) := by decide +kernel
theorem d31_12 : decode jdk_68_method_32_code 12 = .ok (.aload_n 0, 1) := by decide +kernel
theorem d31_13 : decode jdk_68_method_32_code 13 = .ok (.iload_n 3, 1) := by decide +kernel
theorem d31_14 : decode jdk_68_method_32_code 14 = .ok (.invokevirtual 100, 3) := by decide +kernel
theorem d31_17 : decode jdk_68_method_32_code 17 = .ok (.aload_n 0, 1) := by decide +kernel
theorem d31_18 : decode jdk_68_method_32_code 18 = .ok (.invokevirtual 83, 3) := by decide +kernel
theorem d31_21 : decode jdk_68_method_32_code 21 = .ok (.ifCond .eq 16, 3) := by decide +kernel
theorem d31_24 : decode jdk_68_method_32_code 24 = .ok (.iload_n 1, 1) := by decide +kernel
theorem d31_25 : decode jdk_68_method_32_code 25 = .ok (.iload_n 3, 1) := by decide +kernel
theorem d31_26 : decode jdk_68_method_32_code 26 = .ok (.aload_n 0, 1) := by decide +kernel
theorem d31_27 : decode jdk_68_method_32_code 27 = .ok (.getfield 15, 3) := by decide +kernel
theorem d31_30 : decode jdk_68_method_32_code 30 = .ok (.invokestatic 248, 3) := by decide +kernel
theorem d31_33 : decode jdk_68_method_32_code 33 = .ok (.pop, 1) := by decide +kernel
theorem d31_34 : decode jdk_68_method_32_code 34 = .ok (.goto 14, 3) := by decide +kernel
theorem d31_37 : decode jdk_68_method_32_code 37 = .ok (.iload_n 1, 1) := by decide +kernel
theorem d31_38 : decode jdk_68_method_32_code 38 = .ok (.iload_n 2, 1) := by decide +kernel
theorem d31_39 : decode jdk_68_method_32_code 39 = .ok (.iload_n 3, 1) := by decide +kernel
theorem d31_40 : decode jdk_68_method_32_code 40 = .ok (.aload_n 0, 1) := by decide +kernel
theorem d31_41 : decode jdk_68_method_32_code 41 = .ok (.getfield 15, 3) := by decide +kernel
theorem d31_44 : decode jdk_68_method_32_code 44 = .ok (.invokestatic 251, 3) := by decide +kernel
theorem d31_47 : decode jdk_68_method_32_code 47 = .ok (.pop, 1) := by decide +kernel
theorem d31_48 : decode jdk_68_method_32_code 48 = .ok (.aload_n 0, 1) := by decide +kernel
theorem d31_49 : decode jdk_68_method_32_code 49 = .ok (.iload_n 3, 1) := by decide +kernel
theorem d31_50 : decode jdk_68_method_32_code 50 = .ok (.putfield 79, 3) := by decide +kernel
theorem d31_53 : decode jdk_68_method_32_code 53 = .ok (.aload_n 0, 1) := by decide +kernel
theorem d31_54 : decode jdk_68_method_32_code 54 = .ok (.areturn, 1) := by decide +kernel
theorem c_asbIG (l : Launch) (Z : State) (a0 : Array Value) (hw : ∀ d ∈ tables_1, d.before a0 Z = true) (hEW : EW Z a0 consts_1) (n0 : Nat) (c1 : Int32) (hc1 : ¬ c1 = 0) (S1 : Sta Z Z.heap "java/lang/String" "COMPACT_STRINGS" "Z" (.int c1)) (t1 t2 : Addr) (kt1 kt2 : ClassId) (SD1 : Sta Z Z.heap "java/lang/Integer" "DigitOnes" "[B" (.ref t1)) (SD2 : Sta Z Z.heap "java/lang/Integer" "DigitTens" "[B" (.ref t2)) (AD1 : Arv Z Z.heap t1 kt1 .byte 100 dOnes (.int 0)) (AD2 : Arv Z Z.heap t2 kt2 .byte 100 dTens (.int 0)) (a b : Addr) (cap : Nat) (bs : List Value) (N : Nat) {h0 : Heap} (o1 : Old Z n0 h0) (ge_a : n0 ≤ a) (ge_b : n0 ≤ b) (hN : N < 2147483648) (hle : bs.length + nd N ≤ 62) (hcap : cap ≤ 126) (hbs : bs.length ≤ cap) (hS : Sbd Z h0 a b cap bs) :
    Con Z a0 l (⟨"java/lang/AbstractStringBuilder", "append", "(I)Ljava/lang/AbstractStringBuilder;"⟩ : MethodName) jdk_68_method_32_code 4 (some (.object "java/lang/AbstractStringBuilder")) ({ frames := 4, cells := 1, slots := 126, locals := 70 } : Room) [] #[(.ref a), (.int (Int32.ofNat N))] consts_1 h0 n0 [a, b] [a, b] (VV fun w h so => w = .ref a ∧ ∃ b' cap', Sbd Z h a b' cap' (bs ++ digs N) ∧ (bs ++ digs N).length ≤ cap' ∧ cap' ≤ 126 ∧ GC cap (bs.length + nd N) cap' ∧ (b' = b ∨ h0.size ≤ b') ∧ so = [b']) := by
  refine Con.body (plainFor_of_name pn_java_lang_AbstractStringBuilder) hEW o1 (allS ge_a (allS ge_b all0)) #[.val (.ref a), .val (.int (Int32.ofNat N)), .unset, .unset] (fun m => by first | (simp [entryFrame, mkF, argsToLocals, Value.category]; done) | rfl) ?_
  intro p e s m below meth c B hnm hret hlk G
  replace G := G.aloadN 1 d31_0 rfl rfl rfl |>.getf 4 (host := "") (Or.inl (hw _ (mm 116 rfl))) Via.refl hS.2.2.2.1 d31_1 rfl |>.istoreN 5 #[.val (.ref a), .val (.int (Int32.ofNat N)), .val (.int (Int32.ofNat bs.length)), .unset] d31_4 rfl rfl |>.iloadN 6 d31_5 rfl rfl |>.iloadN 7 d31_6 rfl rfl
  obtain ⟨vz, h_z, soz, G', Kz, Qz⟩ := G.callS 10 (hw _ (mm 177 rfl)) (hw _ (mm 178 rfl)) (hw _ (mm 179 rfl)) (hw _ (mm 180 rfl)) (by decide) [(.int (Int32.ofNat N))] [(.int (Int32.ofNat bs.length))] rfl (c_size l Z a0 hw hEW n0 c1 hc1 S1 N G.old hN) (lenOf pd__I_I rfl) d31_7 rfl (nle rfl) (nle rfl) (nle rfl) (nle rfl) all0 all0 all0 rfl
  replace G := G'; clear G'
  obtain ⟨wz, qz, rfl, ez, rfl⟩ := Qz
  replace G := G.val qz
  subst ez
  replace G := G.iadd 11 d31_10 rfl |>.top (y := (.int (Int32.ofNat (bs.length + nd N)))) (congrArg Value.int (ofn_add bs.length (nd N))) |>.istoreN 12 #[.val (.ref a), .val (.int (Int32.ofNat N)), .val (.int (Int32.ofNat bs.length)), .val (.int (Int32.ofNat (bs.length + nd N)))] d31_11 rfl rfl |>.aloadN 13 d31_12 rfl rfl rfl |>.iloadN 14 d31_13 rfl rfl
  obtain ⟨ve, h1, soe, G', Ke, Qe⟩ := G.callV 17 (hw _ (mm 118 rfl)) (declOf (hw _ (mm 119 rfl)) (hw _ (mm 122 rfl))) (nfSel (hw _ (mm 121 rfl))) (hw _ (mm 121 rfl)) (hw _ (mm 119 rfl)) (hw _ (mm 87 rfl)) (hw _ (mm 122 rfl)) hS.1 (by decide) [(.int (Int32.ofNat (bs.length + nd N)))] [] rfl (c_ensG l Z a0 hw hEW n0 c1 hc1 S1 a b cap (bs.length + nd N) bs G.old ge_a hle hcap hbs hS) (lenOf pd__I_V rfl) d31_14 rfl (nle rfl) (nle rfl) (nle rfl) (nle rfl) (allS (Or.inl (mm 0 rfl)) all0) (allS (mm 0 rfl) (allS (mm 1 rfl) all0)) (allS (mm 0 rfl) all0) rfl
  replace G := G'; clear G'
  obtain ⟨qe, b1, cp1, hS1, hl1, hc1', hg1, hb1, rfl⟩ := Qe
  replace G := G.nov qe
  have nwb : NW h_z [a, b] b1 := hb1.elim (fun q => Or.inl (q ▸ (mm 1 rfl))) Or.inr
  replace G := G.aloadN 18 d31_17 rfl rfl rfl
  obtain ⟨vl, h_l, sol, G', Kl, Ql⟩ := G.callV 21 (hw _ (mm 181 rfl)) (hw _ (mm 182 rfl)) (nfSel (hw _ (mm 184 rfl))) (hw _ (mm 184 rfl)) (hw _ (mm 183 rfl)) (hw _ (mm 87 rfl)) (hw _ (mm 185 rfl)) hS1.1 (by decide) [] [] rfl (c_isL1 l Z a0 hw hEW n0 c1 hc1 S1 a b1 cp1 bs G.old hS1) (lenOf pd___Z rfl) d31_18 rfl (nle rfl) (nle rfl) (nle rfl) (nle rfl) all0 all0 all0 rfl
  replace G := G'; clear G'
  obtain ⟨wl, ql, rfl, el, rfl⟩ := Ql
  replace G := G.val ql
  subst el
  replace G := G.ifF 24 d31_21 (XT.i0_eq_f (by decide)) rfl |>.iloadN 25 d31_24 rfl rfl |>.iloadN 26 d31_25 rfl rfl |>.aloadN 27 d31_26 rfl rfl rfl |>.getf 30 (host := "") (Or.inl (hw _ (mm 91 rfl))) Via.refl hS1.2.1 d31_27 rfl
  obtain ⟨Xa, Fv, Fc, Fn, kb, Ab⟩ := hS1
  obtain ⟨vp, h2, sop, G', Kp, Qp⟩ := G.callS 33 (hw _ (mm 186 rfl)) (hw _ (mm 187 rfl)) (hw _ (mm 179 rfl)) (hw _ (mm 188 rfl)) (by decide) [(.int (Int32.ofNat N)), (.int (Int32.ofNat (bs.length + nd N))), (.ref b1)] [] rfl (c_getC l Z a0 hw hEW n0 c1 hc1 S1 t1 t2 kt1 kt2 SD1 SD2 AD1 AD2 b1 kb cp1 bs N G.old (G.nw nwb) hN hl1 (by omega) Ab) (lenOf pd__II_B_I rfl) d31_30 rfl (nle rfl) (nle rfl) (nle rfl) (nle rfl) (allS nwb all0) (allS (mm 0 rfl) all0) (allS (mm 0 rfl) all0) rfl
  replace G := G'; clear G'
  obtain ⟨wp, qp, rfl, Ab1, rfl⟩ := Qp
  replace G := G.val qp
  have nab : a ≠ b1 := ne_arr Xa (hw _ (mm 78 rfl)) Ab.choose_spec.1
  replace Xa := Xa.keep Kp; replace Fv := Fv.keep Kp (ninS nab nin0); replace Fc := Fc.keep Kp (ninS nab nin0); replace Fn := Fn.keep Kp (ninS nab nin0)
  replace G := G.pop 34 d31_33 rfl rfl |>.goto 48 d31_34 (by decide) (by decide) |>.aloadN 49 d31_48 rfl rfl rfl |>.iloadN 50 d31_49 rfl rfl |>.top (y := (.int (Int32.ofNat (bs ++ digs N).length))) (congrArg Value.int (by rw [List.length_append, digs_len]))
  obtain ⟨h3, G', Ww, Fw, Kw⟩ := G.putf 53 (host := "") (Or.inl (hw _ (mm 116 rfl))) Via.refl Fn Xa (Or.inl (hw _ (mm 117 rfl))) (hw _ (mm 78 rfl)) (ty := .int) (by decide) rfl rfl (Or.inl (mm 0 rfl)) (mm 1 rfl) d31_50 rfl
  replace G := G'; clear G'
  replace Fv := Fv.other Ww (Or.inr (slot_ne (Or.inl (hw _ (mm 92 rfl))) (Or.inl (hw _ (mm 117 rfl))) (by decide) (t := (.array .byte)) (t' := .int) (by decide) (by decide))); replace Fc := Fc.other Ww (Or.inr (slot_ne (Or.inl (hw _ (mm 94 rfl))) (Or.inl (hw _ (mm 117 rfl))) (by decide) (t := .byte) (t' := .int) (by decide) (by decide)))
  replace Xa := Xa.wr Ww; replace Ab1 := Ab1.keep Kw (ninS nab.symm nin0)
  replace G := G.aloadN 54 d31_53 rfl rfl rfl
  exact G.retA hret rfl rfl hlk d31_54 [b1] (allS (mm 0 rfl) all0) ⟨_, rfl, rfl, b1, cp1, ⟨Xa, Fv, Fc, Fw, kb, Ab1⟩, by rw [List.length_append, digs_len]; exact hl1, hc1', hg1, hb1, rfl⟩ (nle rfl) (nle rfl)
theorem d30_0 : decode jdk_67_method_15_code 0 = .ok (.aload_n 0, 1) := by decide +kernel
theorem d30_1 : decode jdk_67_method_15_code 1 = .ok (.iload_n 1, 1) := by decide +kernel
theorem d30_2 : decode jdk_67_method_15_code 2 = .ok (.invokespecial 53, 3) := by decide +kernel
theorem d30_5 : decode jdk_67_method_15_code 5 = .ok (.pop, 1) := by decide +kernel
theorem d30_6 : decode jdk_67_method_15_code 6 = .ok (.aload_n 0, 1) := by decide +kernel
theorem d30_7 : decode jdk_67_method_15_code 7 = .ok (.areturn, 1) := by decide +kernel
theorem c_appIG (l : Launch) (Z : State) (a0 : Array Value) (hw : ∀ d ∈ tables_1, d.before a0 Z = true) (hEW : EW Z a0 consts_1) (n0 : Nat) (c1 : Int32) (hc1 : ¬ c1 = 0) (S1 : Sta Z Z.heap "java/lang/String" "COMPACT_STRINGS" "Z" (.int c1)) (t1 t2 : Addr) (kt1 kt2 : ClassId) (SD1 : Sta Z Z.heap "java/lang/Integer" "DigitOnes" "[B" (.ref t1)) (SD2 : Sta Z Z.heap "java/lang/Integer" "DigitTens" "[B" (.ref t2)) (AD1 : Arv Z Z.heap t1 kt1 .byte 100 dOnes (.int 0)) (AD2 : Arv Z Z.heap t2 kt2 .byte 100 dTens (.int 0)) (a b : Addr) (cap : Nat) (bs : List Value) (N : Nat) {h0 : Heap} (o1 : Old Z n0 h0) (ge_a : n0 ≤ a) (ge_b : n0 ≤ b) (hN : N < 2147483648) (hle : bs.length + nd N ≤ 62) (hcap : cap ≤ 126) (hbs : bs.length ≤ cap) (hS : Sbd Z h0 a b cap bs) :
    Con Z a0 l (⟨"java/lang/StringBuilder", "append", "(I)Ljava/lang/StringBuilder;"⟩ : MethodName) jdk_67_method_15_code 2 (some (.object "java/lang/StringBuilder")) ({ frames := 5, cells := 1, slots := 126, locals := 85 } : Room) [] #[(.ref a), (.int (Int32.ofNat N))] consts_1 h0 n0 [a, b] [a, b] (VV fun w h so => w = .ref a ∧ ∃ b' cap', Sbd Z h a b' cap' (bs ++ digs N) ∧ (bs ++ digs N).length ≤ cap' ∧ cap' ≤ 126 ∧ GC cap (bs.length + nd N) cap' ∧ (b' = b ∨ h0.size ≤ b') ∧ so = [b']) := by
  refine Con.body (plainFor_of_name pn_java_lang_StringBuilder) hEW o1 (allS ge_a (allS ge_b all0)) #[.val (.ref a), .val (.int (Int32.ofNat N))] (fun m => by first | (simp [entryFrame, mkF, argsToLocals, Value.category]; done) | rfl) ?_
  intro p e s m below meth c B hnm hret hlk G
  replace G := G.aloadN 1 d30_0 rfl rfl rfl |>.iloadN 2 d30_1 rfl rfl
  obtain ⟨vp, h1, sop, G', Kp, Qp⟩ := G.callSup 5 (hw _ (mm 173 rfl)) (sameOf (hw _ (mm 174 rfl)) (nfVia (y := (⟨"java/lang/AbstractStringBuilder", "ensureCapacityInternal", "(I)V"⟩ : MethodName)) rfl (hw _ (mm 121 rfl)) (hw _ (mm 119 rfl))) (by decide)) (hw _ (mm 174 rfl)) (hw _ (mm 103 rfl)) (by decide) (hw _ (mm 87 rfl)) (hw _ (mm 176 rfl)) (Ins.self hS.1) [(.int (Int32.ofNat N))] [] rfl (c_asbIG l Z a0 hw hEW n0 c1 hc1 S1 t1 t2 kt1 kt2 SD1 SD2 AD1 AD2 a b cap bs N G.old ge_a ge_b hN hle hcap hbs hS) (lenOf pd__I_Ljava_lang_AbstractStringBuilder_ rfl) d30_2 rfl (nle rfl) (nle rfl) (nle rfl) (nle rfl) (allS (Or.inl (mm 0 rfl)) (allS (Or.inl (mm 1 rfl)) all0)) (allS (mm 0 rfl) (allS (mm 1 rfl) all0)) (allS (mm 0 rfl) (allS (mm 1 rfl) all0)) rfl
  replace G := G'; clear G'
  obtain ⟨wp, qp, rfl, b1, cp1, hS1, hl1, hc2, hg1, hb1, rfl⟩ := Qp
  replace G := G.val qp |>.pop 6 d30_5 rfl rfl |>.aloadN 7 d30_6 rfl rfl rfl
  exact G.retA hret rfl rfl hlk d30_7 [b1] (allS (mm 0 rfl) all0) ⟨_, rfl, rfl, b1, cp1, hS1, hl1, hc2, hg1, hb1, rfl⟩ (nle rfl) (nle rfl)
theorem d7_0 : decode method_4_code 0 = .ok (.iload_n 0, 1) := by decide +kernel
theorem d7_1 : decode method_4_code 1 = .ok (.bipush 10, 2) := by decide +kernel
theorem d7_3 : decode method_4_code 3 = .ok (.if_icmp .ge 5, 3) := by decide +kernel
theorem d7_6 : decode method_4_code 6 = .ok (.iconst 1, 1) := by decide +kernel
theorem d7_7 : decode method_4_code 7 = .ok (.ireturn, 1) := by decide +kernel
theorem d7_8 : decode method_4_code 8 = .ok (.iload_n 0, 1) := by decide +kernel
theorem d7_9 : decode method_4_code 9 = .ok (.bipush 100, 2) := by decide +kernel
theorem d7_11 : decode method_4_code 11 = .ok (.if_icmp .ge 5, 3) := by decide +kernel
theorem d7_14 : decode method_4_code 14 = .ok (.iconst 2, 1) := by decide +kernel
theorem d7_15 : decode method_4_code 15 = .ok (.ireturn, 1) := by decide +kernel
theorem d7_16 : decode method_4_code 16 = .ok (.iload_n 0, 1) := by decide +kernel
theorem d7_17 : decode method_4_code 17 = .ok (.sipush 1000, 3) := by decide +kernel
theorem d7_20 : decode method_4_code 20 = .ok (.if_icmp .ge 5, 3) := by decide +kernel
theorem d7_23 : decode method_4_code 23 = .ok (.iconst 3, 1) := by decide +kernel
theorem d7_24 : decode method_4_code 24 = .ok (.ireturn, 1) := by decide +kernel
theorem d7_25 : decode method_4_code 25 = .ok (.iload_n 0, 1) := by decide +kernel
theorem d7_26 : decode method_4_code 26 = .ok (.sipush 10000, 3) := by decide +kernel
theorem d7_29 : decode method_4_code 29 = .ok (.if_icmp .ge 5, 3) := by decide +kernel
theorem d7_32 : decode method_4_code 32 = .ok (.iconst 4, 1) := by decide +kernel
theorem d7_33 : decode method_4_code 33 = .ok (.ireturn, 1) := by decide +kernel
theorem d7_34 : decode method_4_code 34 = .ok (.iload_n 0, 1) := by decide +kernel
theorem d7_35 : decode method_4_code 35 = .ok (.ldc 31, 2) := by decide +kernel
theorem d7_37 : decode method_4_code 37 = .ok (.if_icmp .ge 5, 3) := by decide +kernel
theorem d7_40 : decode method_4_code 40 = .ok (.iconst 5, 1) := by decide +kernel
theorem d7_41 : decode method_4_code 41 = .ok (.ireturn, 1) := by decide +kernel
theorem d7_42 : decode method_4_code 42 = .ok (.iload_n 0, 1) := by decide +kernel
theorem d7_43 : decode method_4_code 43 = .ok (.ldc 30, 2) := by decide +kernel
theorem d7_45 : decode method_4_code 45 = .ok (.if_icmp .ge 6, 3) := by decide +kernel
theorem d7_48 : decode method_4_code 48 = .ok (.bipush 6, 2) := by decide +kernel
theorem d7_50 : decode method_4_code 50 = .ok (.ireturn, 1) := by decide +kernel
theorem d7_51 : decode method_4_code 51 = .ok (.iload_n 0, 1) := by decide +kernel
theorem d7_52 : decode method_4_code 52 = .ok (.ldc 29, 2) := by decide +kernel
theorem d7_54 : decode method_4_code 54 = .ok (.if_icmp .ge 6, 3) := by decide +kernel
theorem d7_57 : decode method_4_code 57 = .ok (.bipush 7, 2) := by decide +kernel
theorem d7_59 : decode method_4_code 59 = .ok (.ireturn, 1) := by decide +kernel
theorem d7_60 : decode method_4_code 60 = .ok (.iload_n 0, 1) := by decide +kernel
theorem d7_61 : decode method_4_code 61 = .ok (.ldc 28, 2) := by decide +kernel
theorem d7_63 : decode method_4_code 63 = .ok (.if_icmp .ge 6, 3) := by decide +kernel
theorem d7_66 : decode method_4_code 66 = .ok (.bipush 8, 2) := by decide +kernel
theorem d7_68 : decode method_4_code 68 = .ok (.ireturn, 1) := by decide +kernel
theorem d7_69 : decode method_4_code 69 = .ok (.iload_n 0, 1) := by decide +kernel
theorem d7_70 : decode method_4_code 70 = .ok (.ldc 23, 2) := by decide +kernel
theorem d7_72 : decode method_4_code 72 = .ok (.if_icmp .ge 6, 3) := by decide +kernel
theorem d7_75 : decode method_4_code 75 = .ok (.bipush 9, 2) := by decide +kernel
theorem d7_77 : decode method_4_code 77 = .ok (.ireturn, 1) := by decide +kernel
theorem d7_78 : decode method_4_code 78 = .ok (.bipush 10, 2) := by decide +kernel
theorem d7_80 : decode method_4_code 80 = .ok (.ireturn, 1) := by decide +kernel
theorem c_dig1 (l : Launch) (Z : State) (a0 : Array Value) (hw : ∀ d ∈ tables_1, d.before a0 Z = true) (hEW : EW Z a0 consts_1) (n0 : Nat) (c1 : Int32) (hc1 : ¬ c1 = 0) (S1 : Sta Z Z.heap "java/lang/String" "COMPACT_STRINGS" "Z" (.int c1)) (N : Nat) {h0 : Heap} (o1 : Old Z n0 h0) (hlo : 0 ≤ N) (hhi : N < 10)  :
    Con Z a0 l (⟨"com/example/rebalance/rebalance/MessageQueueHashKeyPinLaw", "digits", "(I)I"⟩ : MethodName) method_4_code 1 (some .int) ({ frames := 0, cells := 0, slots := 0, locals := 0 } : Room) [] #[(.int (Int32.ofNat N))] consts_1 h0 n0 [] [] (VV fun w h so => w = .int (Int32.ofNat (nd N)) ∧ h = h0 ∧ so = []) := by
  refine Con.body (plainFor_of_name pn_com_example_rebalance_rebalance_MessageQueueHashKeyPinLaw) hEW o1 all0 #[.val (.int (Int32.ofNat N))] (fun m => by first | (simp [entryFrame, mkF, argsToLocals, Value.category]; done) | rfl) ?_
  intro p e s m below meth c B hnm hret hlk G
  have hN : N < 2147483648 := by omega
  replace G := G.iloadN 1 d7_0 rfl rfl |>.bipush 3 (10 : Int32) d7_1 (by decide) rfl |>.icmpF 6 d7_3 (XT.ii_ge_f (ofn_lt (n := 10) hhi (by decide))) rfl |>.iconst 7 (1 : Int32) d7_6 rfl rfl
  exact G.retI hret hlk d7_7 [] all0 ⟨_, rfl, by rw [nd_1 hlo hhi]; rfl, rfl, rfl⟩ (nle rfl) (nle rfl)
theorem c_dig2 (l : Launch) (Z : State) (a0 : Array Value) (hw : ∀ d ∈ tables_1, d.before a0 Z = true) (hEW : EW Z a0 consts_1) (n0 : Nat) (c1 : Int32) (hc1 : ¬ c1 = 0) (S1 : Sta Z Z.heap "java/lang/String" "COMPACT_STRINGS" "Z" (.int c1)) (N : Nat) {h0 : Heap} (o1 : Old Z n0 h0) (hlo : 10 ≤ N) (hhi : N < 100)  :
    Con Z a0 l (⟨"com/example/rebalance/rebalance/MessageQueueHashKeyPinLaw", "digits", "(I)I"⟩ : MethodName) method_4_code 1 (some .int) ({ frames := 0, cells := 0, slots := 0, locals := 0 } : Room) [] #[(.int (Int32.ofNat N))] consts_1 h0 n0 [] [] (VV fun w h so => w = .int (Int32.ofNat (nd N)) ∧ h = h0 ∧ so = []) := by
  refine Con.body (plainFor_of_name pn_com_example_rebalance_rebalance_MessageQueueHashKeyPinLaw) hEW o1 all0 #[.val (.int (Int32.ofNat N))] (fun m => by first | (simp [entryFrame, mkF, argsToLocals, Value.category]; done) | rfl) ?_
  intro p e s m below meth c B hnm hret hlk G
  have hN : N < 2147483648 := by omega
  replace G := G.iloadN 1 d7_0 rfl rfl |>.bipush 3 (10 : Int32) d7_1 (by decide) rfl |>.icmpT 8 d7_3 (XT.ii_ge_t (ofn_nlt (n := 10) (by omega) hN)) (by decide) (by decide) |>.iloadN 9 d7_8 rfl rfl |>.bipush 11 (100 : Int32) d7_9 (by decide) rfl |>.icmpF 14 d7_11 (XT.ii_ge_f (ofn_lt (n := 100) hhi (by decide))) rfl |>.iconst 15 (2 : Int32) d7_14 rfl rfl
  exact G.retI hret hlk d7_15 [] all0 ⟨_, rfl, by rw [nd_2 hlo hhi]; rfl, rfl, rfl⟩ (nle rfl) (nle rfl)
theorem c_dig3 (l : Launch) (Z : State) (a0 : Array Value) (hw : ∀ d ∈ tables_1, d.before a0 Z = true) (hEW : EW Z a0 consts_1) (n0 : Nat) (c1 : Int32) (hc1 : ¬ c1 = 0) (S1 : Sta Z Z.heap "java/lang/String" "COMPACT_STRINGS" "Z" (.int c1)) (N : Nat) {h0 : Heap} (o1 : Old Z n0 h0) (hlo : 100 ≤ N) (hhi : N < 1000)  :
    Con Z a0 l (⟨"com/example/rebalance/rebalance/MessageQueueHashKeyPinLaw", "digits", "(I)I"⟩ : MethodName) method_4_code 1 (some .int) ({ frames := 0, cells := 0, slots := 0, locals := 0 } : Room) [] #[(.int (Int32.ofNat N))] consts_1 h0 n0 [] [] (VV fun w h so => w = .int (Int32.ofNat (nd N)) ∧ h = h0 ∧ so = []) := by
  refine Con.body (plainFor_of_name pn_com_example_rebalance_rebalance_MessageQueueHashKeyPinLaw) hEW o1 all0 #[.val (.int (Int32.ofNat N))] (fun m => by first | (simp [entryFrame, mkF, argsToLocals, Value.category]; done) | rfl) ?_
  intro p e s m below meth c B hnm hret hlk G
  have hN : N < 2147483648 := by omega
  replace G := G.iloadN 1 d7_0 rfl rfl |>.bipush 3 (10 : Int32) d7_1 (by decide) rfl |>.icmpT 8 d7_3 (XT.ii_ge_t (ofn_nlt (n := 10) (by omega) hN)) (by decide) (by decide) |>.iloadN 9 d7_8 rfl rfl |>.bipush 11 (100 : Int32) d7_9 (by decide) rfl |>.icmpT 16 d7_11 (XT.ii_ge_t (ofn_nlt (n := 100) (by omega) hN)) (by decide) (by decide) |>.iloadN 17 d7_16 rfl rfl |>.sipush 20 (1000 : Int32) d7_17 (by decide) rfl
  replace G := G.icmpF 23 d7_20 (XT.ii_ge_f (ofn_lt (n := 1000) hhi (by decide))) rfl |>.iconst 24 (3 : Int32) d7_23 rfl rfl
  exact G.retI hret hlk d7_24 [] all0 ⟨_, rfl, by rw [nd_3 hlo hhi]; rfl, rfl, rfl⟩ (nle rfl) (nle rfl)
theorem c_dig4 (l : Launch) (Z : State) (a0 : Array Value) (hw : ∀ d ∈ tables_1, d.before a0 Z = true) (hEW : EW Z a0 consts_1) (n0 : Nat) (c1 : Int32) (hc1 : ¬ c1 = 0) (S1 : Sta Z Z.heap "java/lang/String" "COMPACT_STRINGS" "Z" (.int c1)) (N : Nat) {h0 : Heap} (o1 : Old Z n0 h0) (hlo : 1000 ≤ N) (hhi : N < 10000)  :
    Con Z a0 l (⟨"com/example/rebalance/rebalance/MessageQueueHashKeyPinLaw", "digits", "(I)I"⟩ : MethodName) method_4_code 1 (some .int) ({ frames := 0, cells := 0, slots := 0, locals := 0 } : Room) [] #[(.int (Int32.ofNat N))] consts_1 h0 n0 [] [] (VV fun w h so => w = .int (Int32.ofNat (nd N)) ∧ h = h0 ∧ so = []) := by
  refine Con.body (plainFor_of_name pn_com_example_rebalance_rebalance_MessageQueueHashKeyPinLaw) hEW o1 all0 #[.val (.int (Int32.ofNat N))] (fun m => by first | (simp [entryFrame, mkF, argsToLocals, Value.category]; done) | rfl) ?_
  intro p e s m below meth c B hnm hret hlk G
  have hN : N < 2147483648 := by omega
  replace G := G.iloadN 1 d7_0 rfl rfl |>.bipush 3 (10 : Int32) d7_1 (by decide) rfl |>.icmpT 8 d7_3 (XT.ii_ge_t (ofn_nlt (n := 10) (by omega) hN)) (by decide) (by decide) |>.iloadN 9 d7_8 rfl rfl |>.bipush 11 (100 : Int32) d7_9 (by decide) rfl |>.icmpT 16 d7_11 (XT.ii_ge_t (ofn_nlt (n := 100) (by omega) hN)) (by decide) (by decide) |>.iloadN 17 d7_16 rfl rfl |>.sipush 20 (1000 : Int32) d7_17 (by decide) rfl
  replace G := G.icmpT 25 d7_20 (XT.ii_ge_t (ofn_nlt (n := 1000) (by omega) hN)) (by decide) (by decide) |>.iloadN 26 d7_25 rfl rfl |>.sipush 29 (10000 : Int32) d7_26 (by decide) rfl |>.icmpF 32 d7_29 (XT.ii_ge_f (ofn_lt (n := 10000) hhi (by decide))) rfl |>.iconst 33 (4 : Int32) d7_32 rfl rfl
  exact G.retI hret hlk d7_33 [] all0 ⟨_, rfl, by rw [nd_4 hlo hhi]; rfl, rfl, rfl⟩ (nle rfl) (nle rfl)
theorem c_dig5 (l : Launch) (Z : State) (a0 : Array Value) (hw : ∀ d ∈ tables_1, d.before a0 Z = true) (hEW : EW Z a0 consts_1) (n0 : Nat) (c1 : Int32) (hc1 : ¬ c1 = 0) (S1 : Sta Z Z.heap "java/lang/String" "COMPACT_STRINGS" "Z" (.int c1)) (N : Nat) {h0 : Heap} (o1 : Old Z n0 h0) (hlo : 10000 ≤ N) (hhi : N < 100000)  :
    Con Z a0 l (⟨"com/example/rebalance/rebalance/MessageQueueHashKeyPinLaw", "digits", "(I)I"⟩ : MethodName) method_4_code 1 (some .int) ({ frames := 0, cells := 0, slots := 0, locals := 0 } : Room) [] #[(.int (Int32.ofNat N))] consts_1 h0 n0 [] [] (VV fun w h so => w = .int (Int32.ofNat (nd N)) ∧ h = h0 ∧ so = []) := by
  refine Con.body (plainFor_of_name pn_com_example_rebalance_rebalance_MessageQueueHashKeyPinLaw) hEW o1 all0 #[.val (.int (Int32.ofNat N))] (fun m => by first | (simp [entryFrame, mkF, argsToLocals, Value.category]; done) | rfl) ?_
  intro p e s m below meth c B hnm hret hlk G
  have hN : N < 2147483648 := by omega
  replace G := G.iloadN 1 d7_0 rfl rfl |>.bipush 3 (10 : Int32) d7_1 (by decide) rfl |>.icmpT 8 d7_3 (XT.ii_ge_t (ofn_nlt (n := 10) (by omega) hN)) (by decide) (by decide) |>.iloadN 9 d7_8 rfl rfl |>.bipush 11 (100 : Int32) d7_9 (by decide) rfl |>.icmpT 16 d7_11 (XT.ii_ge_t (ofn_nlt (n := 100) (by omega) hN)) (by decide) (by decide) |>.iloadN 17 d7_16 rfl rfl |>.sipush 20 (1000 : Int32) d7_17 (by decide) rfl
  replace G := G.icmpT 25 d7_20 (XT.ii_ge_t (ofn_nlt (n := 1000) (by omega) hN)) (by decide) (by decide) |>.iloadN 26 d7_25 rfl rfl |>.sipush 29 (10000 : Int32) d7_26 (by decide) rfl |>.icmpT 34 d7_29 (XT.ii_ge_t (ofn_nlt (n := 10000) (by omega) hN)) (by decide) (by decide) |>.iloadN 35 d7_34 rfl rfl |>.ldcI 37 (hw _ (mm 237 rfl)) d7_35 rfl |>.icmpF 40 d7_37 (XT.ii_ge_f (ofn_lt (n := 100000) hhi (by decide))) rfl |>.iconst 41 (5 : Int32) d7_40 rfl rfl
  exact G.retI hret hlk d7_41 [] all0 ⟨_, rfl, by rw [nd_5 hlo hhi]; rfl, rfl, rfl⟩ (nle rfl) (nle rfl)
theorem c_dig6 (l : Launch) (Z : State) (a0 : Array Value) (hw : ∀ d ∈ tables_1, d.before a0 Z = true) (hEW : EW Z a0 consts_1) (n0 : Nat) (c1 : Int32) (hc1 : ¬ c1 = 0) (S1 : Sta Z Z.heap "java/lang/String" "COMPACT_STRINGS" "Z" (.int c1)) (N : Nat) {h0 : Heap} (o1 : Old Z n0 h0) (hlo : 100000 ≤ N) (hhi : N < 1000000)  :
    Con Z a0 l (⟨"com/example/rebalance/rebalance/MessageQueueHashKeyPinLaw", "digits", "(I)I"⟩ : MethodName) method_4_code 1 (some .int) ({ frames := 0, cells := 0, slots := 0, locals := 0 } : Room) [] #[(.int (Int32.ofNat N))] consts_1 h0 n0 [] [] (VV fun w h so => w = .int (Int32.ofNat (nd N)) ∧ h = h0 ∧ so = []) := by
  refine Con.body (plainFor_of_name pn_com_example_rebalance_rebalance_MessageQueueHashKeyPinLaw) hEW o1 all0 #[.val (.int (Int32.ofNat N))] (fun m => by first | (simp [entryFrame, mkF, argsToLocals, Value.category]; done) | rfl) ?_
  intro p e s m below meth c B hnm hret hlk G
  have hN : N < 2147483648 := by omega
  replace G := G.iloadN 1 d7_0 rfl rfl |>.bipush 3 (10 : Int32) d7_1 (by decide) rfl |>.icmpT 8 d7_3 (XT.ii_ge_t (ofn_nlt (n := 10) (by omega) hN)) (by decide) (by decide) |>.iloadN 9 d7_8 rfl rfl |>.bipush 11 (100 : Int32) d7_9 (by decide) rfl |>.icmpT 16 d7_11 (XT.ii_ge_t (ofn_nlt (n := 100) (by omega) hN)) (by decide) (by decide) |>.iloadN 17 d7_16 rfl rfl |>.sipush 20 (1000 : Int32) d7_17 (by decide) rfl
  replace G := G.icmpT 25 d7_20 (XT.ii_ge_t (ofn_nlt (n := 1000) (by omega) hN)) (by decide) (by decide) |>.iloadN 26 d7_25 rfl rfl |>.sipush 29 (10000 : Int32) d7_26 (by decide) rfl |>.icmpT 34 d7_29 (XT.ii_ge_t (ofn_nlt (n := 10000) (by omega) hN)) (by decide) (by decide) |>.iloadN 35 d7_34 rfl rfl |>.ldcI 37 (hw _ (mm 237 rfl)) d7_35 rfl |>.icmpT 42 d7_37 (XT.ii_ge_t (ofn_nlt (n := 100000) (by omega) hN)) (by decide) (by decide) |>.iloadN 43 d7_42 rfl rfl
  replace G := G.ldcI 45 (hw _ (mm 238 rfl)) d7_43 rfl |>.icmpF 48 d7_45 (XT.ii_ge_f (ofn_lt (n := 1000000) hhi (by decide))) rfl |>.bipush 50 (6 : Int32) d7_48 (by decide) rfl
  exact G.retI hret hlk d7_50 [] all0 ⟨_, rfl, by rw [nd_6 hlo hhi]; rfl, rfl, rfl⟩ (nle rfl) (nle rfl)
theorem c_dig7 (l : Launch) (Z : State) (a0 : Array Value) (hw : ∀ d ∈ tables_1, d.before a0 Z = true) (hEW : EW Z a0 consts_1) (n0 : Nat) (c1 : Int32) (hc1 : ¬ c1 = 0) (S1 : Sta Z Z.heap "java/lang/String" "COMPACT_STRINGS" "Z" (.int c1)) (N : Nat) {h0 : Heap} (o1 : Old Z n0 h0) (hlo : 1000000 ≤ N) (hhi : N < 10000000)  :
    Con Z a0 l (⟨"com/example/rebalance/rebalance/MessageQueueHashKeyPinLaw", "digits", "(I)I"⟩ : MethodName) method_4_code 1 (some .int) ({ frames := 0, cells := 0, slots := 0, locals := 0 } : Room) [] #[(.int (Int32.ofNat N))] consts_1 h0 n0 [] [] (VV fun w h so => w = .int (Int32.ofNat (nd N)) ∧ h = h0 ∧ so = []) := by
  refine Con.body (plainFor_of_name pn_com_example_rebalance_rebalance_MessageQueueHashKeyPinLaw) hEW o1 all0 #[.val (.int (Int32.ofNat N))] (fun m => by first | (simp [entryFrame, mkF, argsToLocals, Value.category]; done) | rfl) ?_
  intro p e s m below meth c B hnm hret hlk G
  have hN : N < 2147483648 := by omega
  replace G := G.iloadN 1 d7_0 rfl rfl |>.bipush 3 (10 : Int32) d7_1 (by decide) rfl |>.icmpT 8 d7_3 (XT.ii_ge_t (ofn_nlt (n := 10) (by omega) hN)) (by decide) (by decide) |>.iloadN 9 d7_8 rfl rfl |>.bipush 11 (100 : Int32) d7_9 (by decide) rfl |>.icmpT 16 d7_11 (XT.ii_ge_t (ofn_nlt (n := 100) (by omega) hN)) (by decide) (by decide) |>.iloadN 17 d7_16 rfl rfl |>.sipush 20 (1000 : Int32) d7_17 (by decide) rfl
  replace G := G.icmpT 25 d7_20 (XT.ii_ge_t (ofn_nlt (n := 1000) (by omega) hN)) (by decide) (by decide) |>.iloadN 26 d7_25 rfl rfl |>.sipush 29 (10000 : Int32) d7_26 (by decide) rfl |>.icmpT 34 d7_29 (XT.ii_ge_t (ofn_nlt (n := 10000) (by omega) hN)) (by decide) (by decide) |>.iloadN 35 d7_34 rfl rfl |>.ldcI 37 (hw _ (mm 237 rfl)) d7_35 rfl |>.icmpT 42 d7_37 (XT.ii_ge_t (ofn_nlt (n := 100000) (by omega) hN)) (by decide) (by decide) |>.iloadN 43 d7_42 rfl rfl
  replace G := G.ldcI 45 (hw _ (mm 238 rfl)) d7_43 rfl |>.icmpT 51 d7_45 (XT.ii_ge_t (ofn_nlt (n := 1000000) (by omega) hN)) (by decide) (by decide) |>.iloadN 52 d7_51 rfl rfl |>.ldcI 54 (hw _ (mm 239 rfl)) d7_52 rfl |>.icmpF 57 d7_54 (XT.ii_ge_f (ofn_lt (n := 10000000) hhi (by decide))) rfl |>.bipush 59 (7 : Int32) d7_57 (by decide) rfl
  exact G.retI hret hlk d7_59 [] all0 ⟨_, rfl, by rw [nd_7 hlo hhi]; rfl, rfl, rfl⟩ (nle rfl) (nle rfl)
theorem c_dig8 (l : Launch) (Z : State) (a0 : Array Value) (hw : ∀ d ∈ tables_1, d.before a0 Z = true) (hEW : EW Z a0 consts_1) (n0 : Nat) (c1 : Int32) (hc1 : ¬ c1 = 0) (S1 : Sta Z Z.heap "java/lang/String" "COMPACT_STRINGS" "Z" (.int c1)) (N : Nat) {h0 : Heap} (o1 : Old Z n0 h0) (hlo : 10000000 ≤ N) (hhi : N < 100000000)  :
    Con Z a0 l (⟨"com/example/rebalance/rebalance/MessageQueueHashKeyPinLaw", "digits", "(I)I"⟩ : MethodName) method_4_code 1 (some .int) ({ frames := 0, cells := 0, slots := 0, locals := 0 } : Room) [] #[(.int (Int32.ofNat N))] consts_1 h0 n0 [] [] (VV fun w h so => w = .int (Int32.ofNat (nd N)) ∧ h = h0 ∧ so = []) := by
  refine Con.body (plainFor_of_name pn_com_example_rebalance_rebalance_MessageQueueHashKeyPinLaw) hEW o1 all0 #[.val (.int (Int32.ofNat N))] (fun m => by first | (simp [entryFrame, mkF, argsToLocals, Value.category]; done) | rfl) ?_
  intro p e s m below meth c B hnm hret hlk G
  have hN : N < 2147483648 := by omega
  replace G := G.iloadN 1 d7_0 rfl rfl |>.bipush 3 (10 : Int32) d7_1 (by decide) rfl |>.icmpT 8 d7_3 (XT.ii_ge_t (ofn_nlt (n := 10) (by omega) hN)) (by decide) (by decide) |>.iloadN 9 d7_8 rfl rfl |>.bipush 11 (100 : Int32) d7_9 (by decide) rfl |>.icmpT 16 d7_11 (XT.ii_ge_t (ofn_nlt (n := 100) (by omega) hN)) (by decide) (by decide) |>.iloadN 17 d7_16 rfl rfl |>.sipush 20 (1000 : Int32) d7_17 (by decide) rfl
  replace G := G.icmpT 25 d7_20 (XT.ii_ge_t (ofn_nlt (n := 1000) (by omega) hN)) (by decide) (by decide) |>.iloadN 26 d7_25 rfl rfl |>.sipush 29 (10000 : Int32) d7_26 (by decide) rfl |>.icmpT 34 d7_29 (XT.ii_ge_t (ofn_nlt (n := 10000) (by omega) hN)) (by decide) (by decide) |>.iloadN 35 d7_34 rfl rfl |>.ldcI 37 (hw _ (mm 237 rfl)) d7_35 rfl |>.icmpT 42 d7_37 (XT.ii_ge_t (ofn_nlt (n := 100000) (by omega) hN)) (by decide) (by decide) |>.iloadN 43 d7_42 rfl rfl
  replace G := G.ldcI 45 (hw _ (mm 238 rfl)) d7_43 rfl |>.icmpT 51 d7_45 (XT.ii_ge_t (ofn_nlt (n := 1000000) (by omega) hN)) (by decide) (by decide) |>.iloadN 52 d7_51 rfl rfl |>.ldcI 54 (hw _ (mm 239 rfl)) d7_52 rfl |>.icmpT 60 d7_54 (XT.ii_ge_t (ofn_nlt (n := 10000000) (by omega) hN)) (by decide) (by decide) |>.iloadN 61 d7_60 rfl rfl |>.ldcI 63 (hw _ (mm 240 rfl)) d7_61 rfl |>.icmpF 66 d7_63 (XT.ii_ge_f (ofn_lt (n := 100000000) hhi (by decide))) rfl
  replace G := G.bipush 68 (8 : Int32) d7_66 (by decide) rfl
  exact G.retI hret hlk d7_68 [] all0 ⟨_, rfl, by rw [nd_8 hlo hhi]; rfl, rfl, rfl⟩ (nle rfl) (nle rfl)
theorem c_dig9 (l : Launch) (Z : State) (a0 : Array Value) (hw : ∀ d ∈ tables_1, d.before a0 Z = true) (hEW : EW Z a0 consts_1) (n0 : Nat) (c1 : Int32) (hc1 : ¬ c1 = 0) (S1 : Sta Z Z.heap "java/lang/String" "COMPACT_STRINGS" "Z" (.int c1)) (N : Nat) {h0 : Heap} (o1 : Old Z n0 h0) (hlo : 100000000 ≤ N) (hhi : N < 1000000000)  :
    Con Z a0 l (⟨"com/example/rebalance/rebalance/MessageQueueHashKeyPinLaw", "digits", "(I)I"⟩ : MethodName) method_4_code 1 (some .int) ({ frames := 0, cells := 0, slots := 0, locals := 0 } : Room) [] #[(.int (Int32.ofNat N))] consts_1 h0 n0 [] [] (VV fun w h so => w = .int (Int32.ofNat (nd N)) ∧ h = h0 ∧ so = []) := by
  refine Con.body (plainFor_of_name pn_com_example_rebalance_rebalance_MessageQueueHashKeyPinLaw) hEW o1 all0 #[.val (.int (Int32.ofNat N))] (fun m => by first | (simp [entryFrame, mkF, argsToLocals, Value.category]; done) | rfl) ?_
  intro p e s m below meth c B hnm hret hlk G
  have hN : N < 2147483648 := by omega
  replace G := G.iloadN 1 d7_0 rfl rfl |>.bipush 3 (10 : Int32) d7_1 (by decide) rfl |>.icmpT 8 d7_3 (XT.ii_ge_t (ofn_nlt (n := 10) (by omega) hN)) (by decide) (by decide) |>.iloadN 9 d7_8 rfl rfl |>.bipush 11 (100 : Int32) d7_9 (by decide) rfl |>.icmpT 16 d7_11 (XT.ii_ge_t (ofn_nlt (n := 100) (by omega) hN)) (by decide) (by decide) |>.iloadN 17 d7_16 rfl rfl |>.sipush 20 (1000 : Int32) d7_17 (by decide) rfl
  replace G := G.icmpT 25 d7_20 (XT.ii_ge_t (ofn_nlt (n := 1000) (by omega) hN)) (by decide) (by decide) |>.iloadN 26 d7_25 rfl rfl |>.sipush 29 (10000 : Int32) d7_26 (by decide) rfl |>.icmpT 34 d7_29 (XT.ii_ge_t (ofn_nlt (n := 10000) (by omega) hN)) (by decide) (by decide) |>.iloadN 35 d7_34 rfl rfl |>.ldcI 37 (hw _ (mm 237 rfl)) d7_35 rfl |>.icmpT 42 d7_37 (XT.ii_ge_t (ofn_nlt (n := 100000) (by omega) hN)) (by decide) (by decide) |>.iloadN 43 d7_42 rfl rfl
  replace G := G.ldcI 45 (hw _ (mm 238 rfl)) d7_43 rfl |>.icmpT 51 d7_45 (XT.ii_ge_t (ofn_nlt (n := 1000000) (by omega) hN)) (by decide) (by decide) |>.iloadN 52 d7_51 rfl rfl |>.ldcI 54 (hw _ (mm 239 rfl)) d7_52 rfl |>.icmpT 60 d7_54 (XT.ii_ge_t (ofn_nlt (n := 10000000) (by omega) hN)) (by decide) (by decide) |>.iloadN 61 d7_60 rfl rfl |>.ldcI 63 (hw _ (mm 240 rfl)) d7_61 rfl |>.icmpT 69 d7_63 (XT.ii_ge_t (ofn_nlt (n := 100000000) (by omega) hN)) (by decide) (by decide)
  replace G := G.iloadN 70 d7_69 rfl rfl |>.ldcI 72 (hw _ (mm 241 rfl)) d7_70 rfl |>.icmpF 75 d7_72 (XT.ii_ge_f (ofn_lt (n := 1000000000) hhi (by decide))) rfl |>.bipush 77 (9 : Int32) d7_75 (by decide) rfl
  exact G.retI hret hlk d7_77 [] all0 ⟨_, rfl, by rw [nd_9 hlo hhi]; rfl, rfl, rfl⟩ (nle rfl) (nle rfl)
theorem c_dig10 (l : Launch) (Z : State) (a0 : Array Value) (hw : ∀ d ∈ tables_1, d.before a0 Z = true) (hEW : EW Z a0 consts_1) (n0 : Nat) (c1 : Int32) (hc1 : ¬ c1 = 0) (S1 : Sta Z Z.heap "java/lang/String" "COMPACT_STRINGS" "Z" (.int c1)) (N : Nat) {h0 : Heap} (o1 : Old Z n0 h0) (hlo : 1000000000 ≤ N) (hhi : N < 2147483648)  :
    Con Z a0 l (⟨"com/example/rebalance/rebalance/MessageQueueHashKeyPinLaw", "digits", "(I)I"⟩ : MethodName) method_4_code 1 (some .int) ({ frames := 0, cells := 0, slots := 0, locals := 0 } : Room) [] #[(.int (Int32.ofNat N))] consts_1 h0 n0 [] [] (VV fun w h so => w = .int (Int32.ofNat (nd N)) ∧ h = h0 ∧ so = []) := by
  refine Con.body (plainFor_of_name pn_com_example_rebalance_rebalance_MessageQueueHashKeyPinLaw) hEW o1 all0 #[.val (.int (Int32.ofNat N))] (fun m => by first | (simp [entryFrame, mkF, argsToLocals, Value.category]; done) | rfl) ?_
  intro p e s m below meth c B hnm hret hlk G
  have hN : N < 2147483648 := by omega
  replace G := G.iloadN 1 d7_0 rfl rfl |>.bipush 3 (10 : Int32) d7_1 (by decide) rfl |>.icmpT 8 d7_3 (XT.ii_ge_t (ofn_nlt (n := 10) (by omega) hN)) (by decide) (by decide) |>.iloadN 9 d7_8 rfl rfl |>.bipush 11 (100 : Int32) d7_9 (by decide) rfl |>.icmpT 16 d7_11 (XT.ii_ge_t (ofn_nlt (n := 100) (by omega) hN)) (by decide) (by decide) |>.iloadN 17 d7_16 rfl rfl |>.sipush 20 (1000 : Int32) d7_17 (by decide) rfl
  replace G := G.icmpT 25 d7_20 (XT.ii_ge_t (ofn_nlt (n := 1000) (by omega) hN)) (by decide) (by decide) |>.iloadN 26 d7_25 rfl rfl |>.sipush 29 (10000 : Int32) d7_26 (by decide) rfl |>.icmpT 34 d7_29 (XT.ii_ge_t (ofn_nlt (n := 10000) (by omega) hN)) (by decide) (by decide) |>.iloadN 35 d7_34 rfl rfl |>.ldcI 37 (hw _ (mm 237 rfl)) d7_35 rfl |>.icmpT 42 d7_37 (XT.ii_ge_t (ofn_nlt (n := 100000) (by omega) hN)) (by decide) (by decide) |>.iloadN 43 d7_42 rfl rfl
  replace G := G.ldcI 45 (hw _ (mm 238 rfl)) d7_43 rfl |>.icmpT 51 d7_45 (XT.ii_ge_t (ofn_nlt (n := 1000000) (by omega) hN)) (by decide) (by decide) |>.iloadN 52 d7_51 rfl rfl |>.ldcI 54 (hw _ (mm 239 rfl)) d7_52 rfl |>.icmpT 60 d7_54 (XT.ii_ge_t (ofn_nlt (n := 10000000) (by omega) hN)) (by decide) (by decide) |>.iloadN 61 d7_60 rfl rfl |>.ldcI 63 (hw _ (mm 240 rfl)) d7_61 rfl |>.icmpT 69 d7_63 (XT.ii_ge_t (ofn_nlt (n := 100000000) (by omega) hN)) (by decide) (by decide)
  replace G := G.iloadN 70 d7_69 rfl rfl |>.ldcI 72 (hw _ (mm 241 rfl)) d7_70 rfl |>.icmpT 78 d7_72 (XT.ii_ge_t (ofn_nlt (n := 1000000000) (by omega) hN)) (by decide) (by decide) |>.bipush 80 (10 : Int32) d7_78 (by decide) rfl
  exact G.retI hret hlk d7_80 [] all0 ⟨_, rfl, by rw [nd_10 hlo hhi]; rfl, rfl, rfl⟩ (nle rfl) (nle rfl)
theorem c_dig (l : Launch) (Z : State) (a0 : Array Value) (hw : ∀ d ∈ tables_1, d.before a0 Z = true) (hEW : EW Z a0 consts_1) (n0 : Nat) (c1 : Int32) (hc1 : ¬ c1 = 0) (S1 : Sta Z Z.heap "java/lang/String" "COMPACT_STRINGS" "Z" (.int c1)) (N : Nat) {h0 : Heap} (o1 : Old Z n0 h0) (hN : N < 2147483648) :
    Con Z a0 l (⟨"com/example/rebalance/rebalance/MessageQueueHashKeyPinLaw", "digits", "(I)I"⟩ : MethodName) method_4_code 1 (some .int) ({ frames := 0, cells := 0, slots := 0, locals := 0 } : Room) [] #[(.int (Int32.ofNat N))] consts_1 h0 n0 [] [] (VV fun w h so => w = .int (Int32.ofNat (nd N)) ∧ h = h0 ∧ so = []) := by
  rcases nd_cases hN with ⟨q1, q2⟩ | ⟨q1, q2⟩ | ⟨q1, q2⟩ | ⟨q1, q2⟩ | ⟨q1, q2⟩ | ⟨q1, q2⟩ | ⟨q1, q2⟩ | ⟨q1, q2⟩ | ⟨q1, q2⟩ | ⟨q1, q2⟩
  · exact c_dig1 l Z a0 hw hEW n0 c1 hc1 S1 N o1 q1 q2
  · exact c_dig2 l Z a0 hw hEW n0 c1 hc1 S1 N o1 q1 q2
  · exact c_dig3 l Z a0 hw hEW n0 c1 hc1 S1 N o1 q1 q2
  · exact c_dig4 l Z a0 hw hEW n0 c1 hc1 S1 N o1 q1 q2
  · exact c_dig5 l Z a0 hw hEW n0 c1 hc1 S1 N o1 q1 q2
  · exact c_dig6 l Z a0 hw hEW n0 c1 hc1 S1 N o1 q1 q2
  · exact c_dig7 l Z a0 hw hEW n0 c1 hc1 S1 N o1 q1 q2
  · exact c_dig8 l Z a0 hw hEW n0 c1 hc1 S1 N o1 q1 q2
  · exact c_dig9 l Z a0 hw hEW n0 c1 hc1 S1 N o1 q1 q2
  · exact c_dig10 l Z a0 hw hEW n0 c1 hc1 S1 N o1 q1 q2
theorem d9_0 : decode method_3_code 0 = .ok (.bipush 48, 2) := by decide +kernel
theorem d9_2 : decode method_3_code 2 = .ok (.iload_n 0, 1) := by decide +kernel
theorem d9_3 : decode method_3_code 3 = .ok (.iload_n 1, 1) := by decide +kernel
theorem d9_4 : decode method_3_code 4 = .ok (.idiv, 1) := by decide +kernel
theorem d9_5 : decode method_3_code 5 = .ok (.bipush 10, 2) := by decide +kernel
theorem d9_7 : decode method_3_code 7 = .ok (.irem, 1) := by decide +kernel
theorem d9_8 : decode method_3_code 8 = .ok (.iadd, 1) := by decide +kernel
theorem d9_9 : decode method_3_code 9 = .ok (.i2c, 1) := by decide +kernel
theorem d9_10 : decode method_3_code 10 = .ok (.ireturn, 1) := by decide +kernel
theorem c_digp (l : Launch) (Z : State) (a0 : Array Value) (hw : ∀ d ∈ tables_1, d.before a0 Z = true) (hEW : EW Z a0 consts_1) (n0 : Nat) (c1 : Int32) (hc1 : ¬ c1 = 0) (S1 : Sta Z Z.heap "java/lang/String" "COMPACT_STRINGS" "Z" (.int c1)) (N k : Nat) {h0 : Heap} (o1 : Old Z n0 h0) (hN : N < 2147483648) (hk : k < 10) :
    Con Z a0 l (⟨"com/example/rebalance/rebalance/MessageQueueHashKeyPinLaw", "dig", "(II)C"⟩ : MethodName) method_3_code 2 (some .char) ({ frames := 0, cells := 0, slots := 0, locals := 0 } : Room) [] #[(.int (Int32.ofNat N)), (.int (Int32.ofNat (10 ^ k)))] consts_1 h0 n0 [] [] (VV fun w h so => w = .int (Int32.ofNat (48 + N / 10 ^ k % 10)) ∧ h = h0 ∧ so = []) := by
  refine Con.body (plainFor_of_name pn_com_example_rebalance_rebalance_MessageQueueHashKeyPinLaw) hEW o1 all0 #[.val (.int (Int32.ofNat N)), .val (.int (Int32.ofNat (10 ^ k)))] (fun m => by first | (simp [entryFrame, mkF, argsToLocals, Value.category]; done) | rfl) ?_
  intro p e s m below meth c B hnm hret hlk G
  have hP : 0 < 10 ^ k := Nat.pow_pos (by decide)
  have hP2 : 10 ^ k ≤ 10 ^ 9 := Nat.pow_le_pow_right (by decide) (by omega)
  have hQ : N / 10 ^ k ≤ N := Nat.div_le_self _ _
  rw [show 10 ^ 9 = 1000000000 from rfl] at hP2
  replace G := G.bipush 2 (48 : Int32) d9_0 (by decide) rfl |>.iloadN 3 d9_2 rfl rfl |>.iloadN 4 d9_3 rfl rfl |>.idiv 5 d9_4 (fun q => ofn_ne (n := 0) (by omega) (by omega) (by decide) q) rfl |>.top (y := (.int (Int32.ofNat (N / 10 ^ k)))) (congrArg Value.int (ofn_div hN hP (by omega))) |>.bipush 7 (10 : Int32) d9_5 (by decide) rfl |>.irem 8 d9_7 (by decide) rfl |>.top (y := (.int (Int32.ofNat (N / 10 ^ k % 10)))) (congrArg Value.int (ofn_rem10 (by omega)))
  replace G := G.iadd 9 d9_8 rfl |>.top (y := (.int (Int32.ofNat (48 + N / 10 ^ k % 10)))) (congrArg Value.int (ofn_add 48 _)) |>.i2c 10 d9_9 rfl |>.top (y := (.int (Int32.ofNat (48 + N / 10 ^ k % 10)))) (congrArg Value.int (i2c_n (by omega)))
  exact G.retN hret (Or.inr (Or.inr (Or.inl rfl))) hlk d9_10 [] all0 ⟨_, rfl, congrArg Value.int (i2c_n (by omega)), rfl, rfl⟩ (nle rfl) (nle rfl)
theorem d8_0 : decode method_5_code 0 = .ok (.iload_n 0, 1) := by decide +kernel
theorem d8_1 : decode method_5_code 1 = .ok (.bipush 47, 2) := by decide +kernel
theorem d8_3 : decode method_5_code 3 = .ok (.if_icmp .ne 8, 3) := by decide +kernel
theorem d8_6 : decode method_5_code 6 = .ok (.bipush 47, 2) := by decide +kernel
theorem d8_8 : decode method_5_code 8 = .ok (.newarray .char, 2) := by decide +kernel
theorem d8_10 : decode method_5_code 10 = .ok (.areturn, 1) := by decide +kernel
theorem d8_11 : decode method_5_code 11 = .ok (.iload_n 0, 1) := by decide +kernel
theorem d8_12 : decode method_5_code 12 = .ok (.bipush 48, 2) := by decide +kernel
theorem d8_14 : decode method_5_code 14 = .ok (.if_icmp .ne 8, 3) := by decide +kernel
theorem d8_17 : decode method_5_code 17 = .ok (.bipush 48, 2) := by decide +kernel
theorem d8_19 : decode method_5_code 19 = .ok (.newarray .char, 2) := by decide +kernel
theorem d8_21 : decode method_5_code 21 = .ok (.areturn, 1) := by decide +kernel
theorem d8_22 : decode method_5_code 22 = .ok (.iload_n 0, 1) := by decide +kernel
theorem d8_23 : decode method_5_code 23 = .ok (.bipush 49, 2) := by decide +kernel
theorem d8_25 : decode method_5_code 25 = .ok (.if_icmp .ne 8, 3) := by decide +kernel
theorem d8_28 : decode method_5_code 28 = .ok (.bipush 49, 2) := by decide +kernel
theorem d8_30 : decode method_5_code 30 = .ok (.newarray .char, 2) := by decide +kernel
theorem d8_32 : decode method_5_code 32 = .ok (.areturn, 1) := by decide +kernel
theorem d8_33 : decode method_5_code 33 = .ok (.iload_n 0, 1) := by decide +kernel
theorem d8_34 : decode method_5_code 34 = .ok (.bipush 50, 2) := by decide +kernel
theorem d8_36 : decode method_5_code 36 = .ok (.if_icmp .ne 8, 3) := by decide +kernel
theorem d8_39 : decode method_5_code 39 = .ok (.bipush 50, 2) := by decide +kernel
theorem d8_41 : decode method_5_code 41 = .ok (.newarray .char, 2) := by decide +kernel
theorem d8_43 : decode method_5_code 43 = .ok (.areturn, 1) := by decide +kernel
theorem d8_44 : decode method_5_code 44 = .ok (.iload_n 0, 1) := by decide +kernel
theorem d8_45 : decode method_5_code 45 = .ok (.bipush 51, 2) := by decide +kernel
theorem d8_47 : decode method_5_code 47 = .ok (.if_icmp .ne 8, 3) := by decide +kernel
theorem d8_50 : decode method_5_code 50 = .ok (.bipush 51, 2) := by decide +kernel
theorem d8_52 : decode method_5_code 52 = .ok (.newarray .char, 2) := by decide +kernel
theorem d8_54 : decode method_5_code 54 = .ok (.areturn, 1) := by decide +kernel
theorem d8_55 : decode method_5_code 55 = .ok (.iload_n 0, 1) := by decide +kernel
theorem d8_56 : decode method_5_code 56 = .ok (.bipush 52, 2) := by decide +kernel
theorem d8_58 : decode method_5_code 58 = .ok (.if_icmp .ne 8, 3) := by decide +kernel
theorem d8_61 : decode method_5_code 61 = .ok (.bipush 52, 2) := by decide +kernel
theorem d8_63 : decode method_5_code 63 = .ok (.newarray .char, 2) := by decide +kernel
theorem d8_65 : decode method_5_code 65 = .ok (.areturn, 1) := by decide +kernel
theorem d8_66 : decode method_5_code 66 = .ok (.iload_n 0, 1) := by decide +kernel
theorem d8_67 : decode method_5_code 67 = .ok (.bipush 53, 2) := by decide +kernel
theorem d8_69 : decode method_5_code 69 = .ok (.if_icmp .ne 8, 3) := by decide +kernel
theorem d8_72 : decode method_5_code 72 = .ok (.bipush 53, 2) := by decide +kernel
theorem d8_74 : decode method_5_code 74 = .ok (.newarray .char, 2) := by decide +kernel
theorem d8_76 : decode method_5_code 76 = .ok (.areturn, 1) := by decide +kernel
theorem d8_77 : decode method_5_code 77 = .ok (.iload_n 0, 1) := by decide +kernel
theorem d8_78 : decode method_5_code 78 = .ok (.bipush 54, 2) := by decide +kernel
theorem d8_80 : decode method_5_code 80 = .ok (.if_icmp .ne 8, 3) := by decide +kernel
theorem d8_83 : decode method_5_code 83 = .ok (.bipush 54, 2) := by decide +kernel
theorem d8_85 : decode method_5_code 85 = .ok (.newarray .char, 2) := by decide +kernel
theorem d8_87 : decode method_5_code 87 = .ok (.areturn, 1) := by decide +kernel
theorem d8_88 : decode method_5_code 88 = .ok (.iload_n 0, 1) := by decide +kernel
theorem d8_89 : decode method_5_code 89 = .ok (.bipush 55, 2) := by decide +kernel
theorem d8_91 : decode method_5_code 91 = .ok (.if_icmp .ne 8, 3) := by decide +kernel
theorem d8_94 : decode method_5_code 94 = .ok (.bipush 55, 2) := by decide +kernel
theorem d8_96 : decode method_5_code 96 = .ok (.newarray .char, 2) := by decide +kernel
theorem d8_98 : decode method_5_code 98 = .ok (.areturn, 1) := by decide +kernel
theorem d8_99 : decode method_5_code 99 = .ok (.iload_n 0, 1) := by decide +kernel
theorem d8_100 : decode method_5_code 100 = .ok (.bipush 56, 2) := by decide +kernel
theorem d8_102 : decode method_5_code 102 = .ok (.if_icmp .ne 8, 3) := by decide +kernel
theorem d8_105 : decode method_5_code 105 = .ok (.bipush 56, 2) := by decide +kernel
theorem d8_107 : decode method_5_code 107 = .ok (.newarray .char, 2) := by decide +kernel
theorem d8_109 : decode method_5_code 109 = .ok (.areturn, 1) := by decide +kernel
theorem d8_110 : decode method_5_code 110 = .ok (.iload_n 0, 1) := by decide +kernel
theorem d8_111 : decode method_5_code 111 = .ok (.bipush 57, 2) := by decide +kernel
theorem d8_113 : decode method_5_code 113 = .ok (.if_icmp .ne 8, 3) := by decide +kernel
theorem d8_116 : decode method_5_code 116 = .ok (.bipush 57, 2) := by decide +kernel
theorem d8_118 : decode method_5_code 118 = .ok (.newarray .char, 2) := by decide +kernel
theorem d8_120 : decode method_5_code 120 = .ok (.areturn, 1) := by decide +kernel
theorem d8_121 : decode method_5_code 121 = .ok (.bipush 58, 2) := by decide +kernel
theorem d8_123 : decode method_5_code 123 = .ok (.newarray .char, 2) := by decide +kernel
theorem d8_125 : decode method_5_code 125 = .ok (.areturn, 1) := by decide +kernel
theorem c_mk47 (l : Launch) (Z : State) (a0 : Array Value) (hw : ∀ d ∈ tables_1, d.before a0 Z = true) (hEW : EW Z a0 consts_1) (n0 : Nat) (c1 : Int32) (hc1 : ¬ c1 = 0) (S1 : Sta Z Z.heap "java/lang/String" "COMPACT_STRINGS" "Z" (.int c1))  {h0 : Heap} (o1 : Old Z n0 h0)  :
    Con Z a0 l (⟨"com/example/rebalance/rebalance/MessageQueueHashKeyPinLaw", "mk", "(I)[C"⟩ : MethodName) method_5_code 1 (some (.array .char)) ({ frames := 0, cells := 1, slots := 58, locals := 0 } : Room) [] #[(.int (Int32.ofNat 47))] consts_1 h0 n0 [] [] (VV fun w h so => ∃ d, w = .ref d ∧ (∃ k, Arv Z h d k .char (Int32.ofNat 47) [] (.int 0)) ∧ h0.size ≤ d ∧ so = [d]) := by
  refine Con.body (plainFor_of_name pn_com_example_rebalance_rebalance_MessageQueueHashKeyPinLaw) hEW o1 all0 #[.val (.int (Int32.ofNat 47))] (fun m => by first | (simp [entryFrame, mkF, argsToLocals, Value.category]; done) | rfl) ?_
  intro p e s m below meth c B hnm hret hlk G
  replace G := G.iloadN 1 d8_0 rfl rfl |>.bipush 3 (47 : Int32) d8_1 (by decide) rfl |>.icmpF 6 d8_3 (XT.ii_ne_f rfl) rfl |>.bipush 8 (47 : Int32) d8_6 (by decide) rfl
  obtain ⟨d, h1, kd, G', gd, sd, Ed, Ad⟩ := G.newarray 10 (hw _ (mm 0 rfl)) d8_8 (by decide) 58 (nle rfl) (by decide) rfl (nle rfl) (nle rfl)
  replace G := G'; clear G'
  exact G.retA hret rfl rfl hlk d8_10 [d] (allS (mm 0 rfl) all0) ⟨_, rfl, d, rfl, ⟨kd, Ad⟩, sd, rfl⟩ (nle rfl) (nle rfl)
theorem c_mk48 (l : Launch) (Z : State) (a0 : Array Value) (hw : ∀ d ∈ tables_1, d.before a0 Z = true) (hEW : EW Z a0 consts_1) (n0 : Nat) (c1 : Int32) (hc1 : ¬ c1 = 0) (S1 : Sta Z Z.heap "java/lang/String" "COMPACT_STRINGS" "Z" (.int c1))  {h0 : Heap} (o1 : Old Z n0 h0)  :
    Con Z a0 l (⟨"com/example/rebalance/rebalance/MessageQueueHashKeyPinLaw", "mk", "(I)[C"⟩ : MethodName) method_5_code 1 (some (.array .char)) ({ frames := 0, cells := 1, slots := 58, locals := 0 } : Room) [] #[(.int (Int32.ofNat 48))] consts_1 h0 n0 [] [] (VV fun w h so => ∃ d, w = .ref d ∧ (∃ k, Arv Z h d k .char (Int32.ofNat 48) [] (.int 0)) ∧ h0.size ≤ d ∧ so = [d]) := by
  refine Con.body (plainFor_of_name pn_com_example_rebalance_rebalance_MessageQueueHashKeyPinLaw) hEW o1 all0 #[.val (.int (Int32.ofNat 48))] (fun m => by first | (simp [entryFrame, mkF, argsToLocals, Value.category]; done) | rfl) ?_
  intro p e s m below meth c B hnm hret hlk G
  replace G := G.iloadN 1 d8_0 rfl rfl |>.bipush 3 (47 : Int32) d8_1 (by decide) rfl |>.icmpT 11 d8_3 (XT.ii_ne_t (by decide)) (by decide) (by decide) |>.iloadN 12 d8_11 rfl rfl |>.bipush 14 (48 : Int32) d8_12 (by decide) rfl |>.icmpF 17 d8_14 (XT.ii_ne_f rfl) rfl |>.bipush 19 (48 : Int32) d8_17 (by decide) rfl
  obtain ⟨d, h1, kd, G', gd, sd, Ed, Ad⟩ := G.newarray 21 (hw _ (mm 0 rfl)) d8_19 (by decide) 58 (nle rfl) (by decide) rfl (nle rfl) (nle rfl)
  replace G := G'; clear G'
  exact G.retA hret rfl rfl hlk d8_21 [d] (allS (mm 0 rfl) all0) ⟨_, rfl, d, rfl, ⟨kd, Ad⟩, sd, rfl⟩ (nle rfl) (nle rfl)
theorem c_mk49 (l : Launch) (Z : State) (a0 : Array Value) (hw : ∀ d ∈ tables_1, d.before a0 Z = true) (hEW : EW Z a0 consts_1) (n0 : Nat) (c1 : Int32) (hc1 : ¬ c1 = 0) (S1 : Sta Z Z.heap "java/lang/String" "COMPACT_STRINGS" "Z" (.int c1))  {h0 : Heap} (o1 : Old Z n0 h0)  :
    Con Z a0 l (⟨"com/example/rebalance/rebalance/MessageQueueHashKeyPinLaw", "mk", "(I)[C"⟩ : MethodName) method_5_code 1 (some (.array .char)) ({ frames := 0, cells := 1, slots := 58, locals := 0 } : Room) [] #[(.int (Int32.ofNat 49))] consts_1 h0 n0 [] [] (VV fun w h so => ∃ d, w = .ref d ∧ (∃ k, Arv Z h d k .char (Int32.ofNat 49) [] (.int 0)) ∧ h0.size ≤ d ∧ so = [d]) := by
  refine Con.body (plainFor_of_name pn_com_example_rebalance_rebalance_MessageQueueHashKeyPinLaw) hEW o1 all0 #[.val (.int (Int32.ofNat 49))] (fun m => by first | (simp [entryFrame, mkF, argsToLocals, Value.category]; done) | rfl) ?_
  intro p e s m below meth c B hnm hret hlk G
  replace G := G.iloadN 1 d8_0 rfl rfl |>.bipush 3 (47 : Int32) d8_1 (by decide) rfl |>.icmpT 11 d8_3 (XT.ii_ne_t (by decide)) (by decide) (by decide) |>.iloadN 12 d8_11 rfl rfl |>.bipush 14 (48 : Int32) d8_12 (by decide) rfl |>.icmpT 22 d8_14 (XT.ii_ne_t (by decide)) (by decide) (by decide) |>.iloadN 23 d8_22 rfl rfl |>.bipush 25 (49 : Int32) d8_23 (by decide) rfl
  replace G := G.icmpF 28 d8_25 (XT.ii_ne_f rfl) rfl |>.bipush 30 (49 : Int32) d8_28 (by decide) rfl
  obtain ⟨d, h1, kd, G', gd, sd, Ed, Ad⟩ := G.newarray 32 (hw _ (mm 0 rfl)) d8_30 (by decide) 58 (nle rfl) (by decide) rfl (nle rfl) (nle rfl)
  replace G := G'; clear G'
  exact G.retA hret rfl rfl hlk d8_32 [d] (allS (mm 0 rfl) all0) ⟨_, rfl, d, rfl, ⟨kd, Ad⟩, sd, rfl⟩ (nle rfl) (nle rfl)
theorem c_mk50 (l : Launch) (Z : State) (a0 : Array Value) (hw : ∀ d ∈ tables_1, d.before a0 Z = true) (hEW : EW Z a0 consts_1) (n0 : Nat) (c1 : Int32) (hc1 : ¬ c1 = 0) (S1 : Sta Z Z.heap "java/lang/String" "COMPACT_STRINGS" "Z" (.int c1))  {h0 : Heap} (o1 : Old Z n0 h0)  :
    Con Z a0 l (⟨"com/example/rebalance/rebalance/MessageQueueHashKeyPinLaw", "mk", "(I)[C"⟩ : MethodName) method_5_code 1 (some (.array .char)) ({ frames := 0, cells := 1, slots := 58, locals := 0 } : Room) [] #[(.int (Int32.ofNat 50))] consts_1 h0 n0 [] [] (VV fun w h so => ∃ d, w = .ref d ∧ (∃ k, Arv Z h d k .char (Int32.ofNat 50) [] (.int 0)) ∧ h0.size ≤ d ∧ so = [d]) := by
  refine Con.body (plainFor_of_name pn_com_example_rebalance_rebalance_MessageQueueHashKeyPinLaw) hEW o1 all0 #[.val (.int (Int32.ofNat 50))] (fun m => by first | (simp [entryFrame, mkF, argsToLocals, Value.category]; done) | rfl) ?_
  intro p e s m below meth c B hnm hret hlk G
  replace G := G.iloadN 1 d8_0 rfl rfl |>.bipush 3 (47 : Int32) d8_1 (by decide) rfl |>.icmpT 11 d8_3 (XT.ii_ne_t (by decide)) (by decide) (by decide) |>.iloadN 12 d8_11 rfl rfl |>.bipush 14 (48 : Int32) d8_12 (by decide) rfl |>.icmpT 22 d8_14 (XT.ii_ne_t (by decide)) (by decide) (by decide) |>.iloadN 23 d8_22 rfl rfl |>.bipush 25 (49 : Int32) d8_23 (by decide) rfl
  replace G := G.icmpT 33 d8_25 (XT.ii_ne_t (by decide)) (by decide) (by decide) |>.iloadN 34 d8_33 rfl rfl |>.bipush 36 (50 : Int32) d8_34 (by decide) rfl |>.icmpF 39 d8_36 (XT.ii_ne_f rfl) rfl |>.bipush 41 (50 : Int32) d8_39 (by decide) rfl
  obtain ⟨d, h1, kd, G', gd, sd, Ed, Ad⟩ := G.newarray 43 (hw _ (mm 0 rfl)) d8_41 (by decide) 58 (nle rfl) (by decide) rfl (nle rfl) (nle rfl)
  replace G := G'; clear G'
  exact G.retA hret rfl rfl hlk d8_43 [d] (allS (mm 0 rfl) all0) ⟨_, rfl, d, rfl, ⟨kd, Ad⟩, sd, rfl⟩ (nle rfl) (nle rfl)
theorem c_mk51 (l : Launch) (Z : State) (a0 : Array Value) (hw : ∀ d ∈ tables_1, d.before a0 Z = true) (hEW : EW Z a0 consts_1) (n0 : Nat) (c1 : Int32) (hc1 : ¬ c1 = 0) (S1 : Sta Z Z.heap "java/lang/String" "COMPACT_STRINGS" "Z" (.int c1))  {h0 : Heap} (o1 : Old Z n0 h0)  :
    Con Z a0 l (⟨"com/example/rebalance/rebalance/MessageQueueHashKeyPinLaw", "mk", "(I)[C"⟩ : MethodName) method_5_code 1 (some (.array .char)) ({ frames := 0, cells := 1, slots := 58, locals := 0 } : Room) [] #[(.int (Int32.ofNat 51))] consts_1 h0 n0 [] [] (VV fun w h so => ∃ d, w = .ref d ∧ (∃ k, Arv Z h d k .char (Int32.ofNat 51) [] (.int 0)) ∧ h0.size ≤ d ∧ so = [d]) := by
  refine Con.body (plainFor_of_name pn_com_example_rebalance_rebalance_MessageQueueHashKeyPinLaw) hEW o1 all0 #[.val (.int (Int32.ofNat 51))] (fun m => by first | (simp [entryFrame, mkF, argsToLocals, Value.category]; done) | rfl) ?_
  intro p e s m below meth c B hnm hret hlk G
  replace G := G.iloadN 1 d8_0 rfl rfl |>.bipush 3 (47 : Int32) d8_1 (by decide) rfl |>.icmpT 11 d8_3 (XT.ii_ne_t (by decide)) (by decide) (by decide) |>.iloadN 12 d8_11 rfl rfl |>.bipush 14 (48 : Int32) d8_12 (by decide) rfl |>.icmpT 22 d8_14 (XT.ii_ne_t (by decide)) (by decide) (by decide) |>.iloadN 23 d8_22 rfl rfl |>.bipush 25 (49 : Int32) d8_23 (by decide) rfl
  replace G := G.icmpT 33 d8_25 (XT.ii_ne_t (by decide)) (by decide) (by decide) |>.iloadN 34 d8_33 rfl rfl |>.bipush 36 (50 : Int32) d8_34 (by decide) rfl |>.icmpT 44 d8_36 (XT.ii_ne_t (by decide)) (by decide) (by decide) |>.iloadN 45 d8_44 rfl rfl |>.bipush 47 (51 : Int32) d8_45 (by decide) rfl |>.icmpF 50 d8_47 (XT.ii_ne_f rfl) rfl |>.bipush 52 (51 : Int32) d8_50 (by decide) rfl
  obtain ⟨d, h1, kd, G', gd, sd, Ed, Ad⟩ := G.newarray 54 (hw _ (mm 0 rfl)) d8_52 (by decide) 58 (nle rfl) (by decide) rfl (nle rfl) (nle rfl)
  replace G := G'; clear G'
  exact G.retA hret rfl rfl hlk d8_54 [d] (allS (mm 0 rfl) all0) ⟨_, rfl, d, rfl, ⟨kd, Ad⟩, sd, rfl⟩ (nle rfl) (nle rfl)
theorem c_mk52 (l : Launch) (Z : State) (a0 : Array Value) (hw : ∀ d ∈ tables_1, d.before a0 Z = true) (hEW : EW Z a0 consts_1) (n0 : Nat) (c1 : Int32) (hc1 : ¬ c1 = 0) (S1 : Sta Z Z.heap "java/lang/String" "COMPACT_STRINGS" "Z" (.int c1))  {h0 : Heap} (o1 : Old Z n0 h0)  :
    Con Z a0 l (⟨"com/example/rebalance/rebalance/MessageQueueHashKeyPinLaw", "mk", "(I)[C"⟩ : MethodName) method_5_code 1 (some (.array .char)) ({ frames := 0, cells := 1, slots := 58, locals := 0 } : Room) [] #[(.int (Int32.ofNat 52))] consts_1 h0 n0 [] [] (VV fun w h so => ∃ d, w = .ref d ∧ (∃ k, Arv Z h d k .char (Int32.ofNat 52) [] (.int 0)) ∧ h0.size ≤ d ∧ so = [d]) := by
  refine Con.body (plainFor_of_name pn_com_example_rebalance_rebalance_MessageQueueHashKeyPinLaw) hEW o1 all0 #[.val (.int (Int32.ofNat 52))] (fun m => by first | (simp [entryFrame, mkF, argsToLocals, Value.category]; done) | rfl) ?_
  intro p e s m below meth c B hnm hret hlk G
  replace G := G.iloadN 1 d8_0 rfl rfl |>.bipush 3 (47 : Int32) d8_1 (by decide) rfl |>.icmpT 11 d8_3 (XT.ii_ne_t (by decide)) (by decide) (by decide) |>.iloadN 12 d8_11 rfl rfl |>.bipush 14 (48 : Int32) d8_12 (by decide) rfl |>.icmpT 22 d8_14 (XT.ii_ne_t (by decide)) (by decide) (by decide) |>.iloadN 23 d8_22 rfl rfl |>.bipush 25 (49 : Int32) d8_23 (by decide) rfl
  replace G := G.icmpT 33 d8_25 (XT.ii_ne_t (by decide)) (by decide) (by decide) |>.iloadN 34 d8_33 rfl rfl |>.bipush 36 (50 : Int32) d8_34 (by decide) rfl |>.icmpT 44 d8_36 (XT.ii_ne_t (by decide)) (by decide) (by decide) |>.iloadN 45 d8_44 rfl rfl |>.bipush 47 (51 : Int32) d8_45 (by decide) rfl |>.icmpT 55 d8_47 (XT.ii_ne_t (by decide)) (by decide) (by decide) |>.iloadN 56 d8_55 rfl rfl
  replace G := G.bipush 58 (52 : Int32) d8_56 (by decide) rfl |>.icmpF 61 d8_58 (XT.ii_ne_f rfl) rfl |>.bipush 63 (52 : Int32) d8_61 (by decide) rfl
  obtain ⟨d, h1, kd, G', gd, sd, Ed, Ad⟩ := G.newarray 65 (hw _ (mm 0 rfl)) d8_63 (by decide) 58 (nle rfl) (by decide) rfl (nle rfl) (nle rfl)
  replace G := G'; clear G'
  exact G.retA hret rfl rfl hlk d8_65 [d] (allS (mm 0 rfl) all0) ⟨_, rfl, d, rfl, ⟨kd, Ad⟩, sd, rfl⟩ (nle rfl) (nle rfl)
theorem c_mk53 (l : Launch) (Z : State) (a0 : Array Value) (hw : ∀ d ∈ tables_1, d.before a0 Z = true) (hEW : EW Z a0 consts_1) (n0 : Nat) (c1 : Int32) (hc1 : ¬ c1 = 0) (S1 : Sta Z Z.heap "java/lang/String" "COMPACT_STRINGS" "Z" (.int c1))  {h0 : Heap} (o1 : Old Z n0 h0)  :
    Con Z a0 l (⟨"com/example/rebalance/rebalance/MessageQueueHashKeyPinLaw", "mk", "(I)[C"⟩ : MethodName) method_5_code 1 (some (.array .char)) ({ frames := 0, cells := 1, slots := 58, locals := 0 } : Room) [] #[(.int (Int32.ofNat 53))] consts_1 h0 n0 [] [] (VV fun w h so => ∃ d, w = .ref d ∧ (∃ k, Arv Z h d k .char (Int32.ofNat 53) [] (.int 0)) ∧ h0.size ≤ d ∧ so = [d]) := by
  refine Con.body (plainFor_of_name pn_com_example_rebalance_rebalance_MessageQueueHashKeyPinLaw) hEW o1 all0 #[.val (.int (Int32.ofNat 53))] (fun m => by first | (simp [entryFrame, mkF, argsToLocals, Value.category]; done) | rfl) ?_
  intro p e s m below meth c B hnm hret hlk G
  replace G := G.iloadN 1 d8_0 rfl rfl |>.bipush 3 (47 : Int32) d8_1 (by decide) rfl |>.icmpT 11 d8_3 (XT.ii_ne_t (by decide)) (by decide) (by decide) |>.iloadN 12 d8_11 rfl rfl |>.bipush 14 (48 : Int32) d8_12 (by decide) rfl |>.icmpT 22 d8_14 (XT.ii_ne_t (by decide)) (by decide) (by decide) |>.iloadN 23 d8_22 rfl rfl |>.bipush 25 (49 : Int32) d8_23 (by decide) rfl
  replace G := G.icmpT 33 d8_25 (XT.ii_ne_t (by decide)) (by decide) (by decide) |>.iloadN 34 d8_33 rfl rfl |>.bipush 36 (50 : Int32) d8_34 (by decide) rfl |>.icmpT 44 d8_36 (XT.ii_ne_t (by decide)) (by decide) (by decide) |>.iloadN 45 d8_44 rfl rfl |>.bipush 47 (51 : Int32) d8_45 (by decide) rfl |>.icmpT 55 d8_47 (XT.ii_ne_t (by decide)) (by decide) (by decide) |>.iloadN 56 d8_55 rfl rfl
  replace G := G.bipush 58 (52 : Int32) d8_56 (by decide) rfl |>.icmpT 66 d8_58 (XT.ii_ne_t (by decide)) (by decide) (by decide) |>.iloadN 67 d8_66 rfl rfl |>.bipush 69 (53 : Int32) d8_67 (by decide) rfl |>.icmpF 72 d8_69 (XT.ii_ne_f rfl) rfl |>.bipush 74 (53 : Int32) d8_72 (by decide) rfl
  obtain ⟨d, h1, kd, G', gd, sd, Ed, Ad⟩ := G.newarray 76 (hw _ (mm 0 rfl)) d8_74 (by decide) 58 (nle rfl) (by decide) rfl (nle rfl) (nle rfl)
  replace G := G'; clear G'
  exact G.retA hret rfl rfl hlk d8_76 [d] (allS (mm 0 rfl) all0) ⟨_, rfl, d, rfl, ⟨kd, Ad⟩, sd, rfl⟩ (nle rfl) (nle rfl)
theorem c_mk54 (l : Launch) (Z : State) (a0 : Array Value) (hw : ∀ d ∈ tables_1, d.before a0 Z = true) (hEW : EW Z a0 consts_1) (n0 : Nat) (c1 : Int32) (hc1 : ¬ c1 = 0) (S1 : Sta Z Z.heap "java/lang/String" "COMPACT_STRINGS" "Z" (.int c1))  {h0 : Heap} (o1 : Old Z n0 h0)  :
    Con Z a0 l (⟨"com/example/rebalance/rebalance/MessageQueueHashKeyPinLaw", "mk", "(I)[C"⟩ : MethodName) method_5_code 1 (some (.array .char)) ({ frames := 0, cells := 1, slots := 58, locals := 0 } : Room) [] #[(.int (Int32.ofNat 54))] consts_1 h0 n0 [] [] (VV fun w h so => ∃ d, w = .ref d ∧ (∃ k, Arv Z h d k .char (Int32.ofNat 54) [] (.int 0)) ∧ h0.size ≤ d ∧ so = [d]) := by
  refine Con.body (plainFor_of_name pn_com_example_rebalance_rebalance_MessageQueueHashKeyPinLaw) hEW o1 all0 #[.val (.int (Int32.ofNat 54))] (fun m => by first | (simp [entryFrame, mkF, argsToLocals, Value.category]; done) | rfl) ?_
  intro p e s m below meth c B hnm hret hlk G
  replace G := G.iloadN 1 d8_0 rfl rfl |>.bipush 3 (47 : Int32) d8_1 (by decide) rfl |>.icmpT 11 d8_3 (XT.ii_ne_t (by decide)) (by decide) (by decide) |>.iloadN 12 d8_11 rfl rfl |>.bipush 14 (48 : Int32) d8_12 (by decide) rfl |>.icmpT 22 d8_14 (XT.ii_ne_t (by decide)) (by decide) (by decide) |>.iloadN 23 d8_22 rfl rfl |>.bipush 25 (49 : Int32) d8_23 (by decide) rfl
  replace G := G.icmpT 33 d8_25 (XT.ii_ne_t (by decide)) (by decide) (by decide) |>.iloadN 34 d8_33 rfl rfl |>.bipush 36 (50 : Int32) d8_34 (by decide) rfl |>.icmpT 44 d8_36 (XT.ii_ne_t (by decide)) (by decide) (by decide) |>.iloadN 45 d8_44 rfl rfl |>.bipush 47 (51 : Int32) d8_45 (by decide) rfl |>.icmpT 55 d8_47 (XT.ii_ne_t (by decide)) (by decide) (by decide) |>.iloadN 56 d8_55 rfl rfl
  replace G := G.bipush 58 (52 : Int32) d8_56 (by decide) rfl |>.icmpT 66 d8_58 (XT.ii_ne_t (by decide)) (by decide) (by decide) |>.iloadN 67 d8_66 rfl rfl |>.bipush 69 (53 : Int32) d8_67 (by decide) rfl |>.icmpT 77 d8_69 (XT.ii_ne_t (by decide)) (by decide) (by decide) |>.iloadN 78 d8_77 rfl rfl |>.bipush 80 (54 : Int32) d8_78 (by decide) rfl |>.icmpF 83 d8_80 (XT.ii_ne_f rfl) rfl
  replace G := G.bipush 85 (54 : Int32) d8_83 (by decide) rfl
  obtain ⟨d, h1, kd, G', gd, sd, Ed, Ad⟩ := G.newarray 87 (hw _ (mm 0 rfl)) d8_85 (by decide) 58 (nle rfl) (by decide) rfl (nle rfl) (nle rfl)
  replace G := G'; clear G'
  exact G.retA hret rfl rfl hlk d8_87 [d] (allS (mm 0 rfl) all0) ⟨_, rfl, d, rfl, ⟨kd, Ad⟩, sd, rfl⟩ (nle rfl) (nle rfl)
theorem c_mk55 (l : Launch) (Z : State) (a0 : Array Value) (hw : ∀ d ∈ tables_1, d.before a0 Z = true) (hEW : EW Z a0 consts_1) (n0 : Nat) (c1 : Int32) (hc1 : ¬ c1 = 0) (S1 : Sta Z Z.heap "java/lang/String" "COMPACT_STRINGS" "Z" (.int c1))  {h0 : Heap} (o1 : Old Z n0 h0)  :
    Con Z a0 l (⟨"com/example/rebalance/rebalance/MessageQueueHashKeyPinLaw", "mk", "(I)[C"⟩ : MethodName) method_5_code 1 (some (.array .char)) ({ frames := 0, cells := 1, slots := 58, locals := 0 } : Room) [] #[(.int (Int32.ofNat 55))] consts_1 h0 n0 [] [] (VV fun w h so => ∃ d, w = .ref d ∧ (∃ k, Arv Z h d k .char (Int32.ofNat 55) [] (.int 0)) ∧ h0.size ≤ d ∧ so = [d]) := by
  refine Con.body (plainFor_of_name pn_com_example_rebalance_rebalance_MessageQueueHashKeyPinLaw) hEW o1 all0 #[.val (.int (Int32.ofNat 55))] (fun m => by first | (simp [entryFrame, mkF, argsToLocals, Value.category]; done) | rfl) ?_
  intro p e s m below meth c B hnm hret hlk G
  replace G := G.iloadN 1 d8_0 rfl rfl |>.bipush 3 (47 : Int32) d8_1 (by decide) rfl |>.icmpT 11 d8_3 (XT.ii_ne_t (by decide)) (by decide) (by decide) |>.iloadN 12 d8_11 rfl rfl |>.bipush 14 (48 : Int32) d8_12 (by decide) rfl |>.icmpT 22 d8_14 (XT.ii_ne_t (by decide)) (by decide) (by decide) |>.iloadN 23 d8_22 rfl rfl |>.bipush 25 (49 : Int32) d8_23 (by decide) rfl
  replace G := G.icmpT 33 d8_25 (XT.ii_ne_t (by decide)) (by decide) (by decide) |>.iloadN 34 d8_33 rfl rfl |>.bipush 36 (50 : Int32) d8_34 (by decide) rfl |>.icmpT 44 d8_36 (XT.ii_ne_t (by decide)) (by decide) (by decide) |>.iloadN 45 d8_44 rfl rfl |>.bipush 47 (51 : Int32) d8_45 (by decide) rfl |>.icmpT 55 d8_47 (XT.ii_ne_t (by decide)) (by decide) (by decide) |>.iloadN 56 d8_55 rfl rfl
  replace G := G.bipush 58 (52 : Int32) d8_56 (by decide) rfl |>.icmpT 66 d8_58 (XT.ii_ne_t (by decide)) (by decide) (by decide) |>.iloadN 67 d8_66 rfl rfl |>.bipush 69 (53 : Int32) d8_67 (by decide) rfl |>.icmpT 77 d8_69 (XT.ii_ne_t (by decide)) (by decide) (by decide) |>.iloadN 78 d8_77 rfl rfl |>.bipush 80 (54 : Int32) d8_78 (by decide) rfl |>.icmpT 88 d8_80 (XT.ii_ne_t (by decide)) (by decide) (by decide)
  replace G := G.iloadN 89 d8_88 rfl rfl |>.bipush 91 (55 : Int32) d8_89 (by decide) rfl |>.icmpF 94 d8_91 (XT.ii_ne_f rfl) rfl |>.bipush 96 (55 : Int32) d8_94 (by decide) rfl
  obtain ⟨d, h1, kd, G', gd, sd, Ed, Ad⟩ := G.newarray 98 (hw _ (mm 0 rfl)) d8_96 (by decide) 58 (nle rfl) (by decide) rfl (nle rfl) (nle rfl)
  replace G := G'; clear G'
  exact G.retA hret rfl rfl hlk d8_98 [d] (allS (mm 0 rfl) all0) ⟨_, rfl, d, rfl, ⟨kd, Ad⟩, sd, rfl⟩ (nle rfl) (nle rfl)
theorem c_mk56 (l : Launch) (Z : State) (a0 : Array Value) (hw : ∀ d ∈ tables_1, d.before a0 Z = true) (hEW : EW Z a0 consts_1) (n0 : Nat) (c1 : Int32) (hc1 : ¬ c1 = 0) (S1 : Sta Z Z.heap "java/lang/String" "COMPACT_STRINGS" "Z" (.int c1))  {h0 : Heap} (o1 : Old Z n0 h0)  :
    Con Z a0 l (⟨"com/example/rebalance/rebalance/MessageQueueHashKeyPinLaw", "mk", "(I)[C"⟩ : MethodName) method_5_code 1 (some (.array .char)) ({ frames := 0, cells := 1, slots := 58, locals := 0 } : Room) [] #[(.int (Int32.ofNat 56))] consts_1 h0 n0 [] [] (VV fun w h so => ∃ d, w = .ref d ∧ (∃ k, Arv Z h d k .char (Int32.ofNat 56) [] (.int 0)) ∧ h0.size ≤ d ∧ so = [d]) := by
  refine Con.body (plainFor_of_name pn_com_example_rebalance_rebalance_MessageQueueHashKeyPinLaw) hEW o1 all0 #[.val (.int (Int32.ofNat 56))] (fun m => by first | (simp [entryFrame, mkF, argsToLocals, Value.category]; done) | rfl) ?_
  intro p e s m below meth c B hnm hret hlk G
  replace G := G.iloadN 1 d8_0 rfl rfl |>.bipush 3 (47 : Int32) d8_1 (by decide) rfl |>.icmpT 11 d8_3 (XT.ii_ne_t (by decide)) (by decide) (by decide) |>.iloadN 12 d8_11 rfl rfl |>.bipush 14 (48 : Int32) d8_12 (by decide) rfl |>.icmpT 22 d8_14 (XT.ii_ne_t (by decide)) (by decide) (by decide) |>.iloadN 23 d8_22 rfl rfl |>.bipush 25 (49 : Int32) d8_23 (by decide) rfl
  replace G := G.icmpT 33 d8_25 (XT.ii_ne_t (by decide)) (by decide) (by decide) |>.iloadN 34 d8_33 rfl rfl |>.bipush 36 (50 : Int32) d8_34 (by decide) rfl |>.icmpT 44 d8_36 (XT.ii_ne_t (by decide)) (by decide) (by decide) |>.iloadN 45 d8_44 rfl rfl |>.bipush 47 (51 : Int32) d8_45 (by decide) rfl |>.icmpT 55 d8_47 (XT.ii_ne_t (by decide)) (by decide) (by decide) |>.iloadN 56 d8_55 rfl rfl
  replace G := G.bipush 58 (52 : Int32) d8_56 (by decide) rfl |>.icmpT 66 d8_58 (XT.ii_ne_t (by decide)) (by decide) (by decide) |>.iloadN 67 d8_66 rfl rfl |>.bipush 69 (53 : Int32) d8_67 (by decide) rfl |>.icmpT 77 d8_69 (XT.ii_ne_t (by decide)) (by decide) (by decide) |>.iloadN 78 d8_77 rfl rfl |>.bipush 80 (54 : Int32) d8_78 (by decide) rfl |>.icmpT 88 d8_80 (XT.ii_ne_t (by decide)) (by decide) (by decide)
  replace G := G.iloadN 89 d8_88 rfl rfl |>.bipush 91 (55 : Int32) d8_89 (by decide) rfl |>.icmpT 99 d8_91 (XT.ii_ne_t (by decide)) (by decide) (by decide) |>.iloadN 100 d8_99 rfl rfl |>.bipush 102 (56 : Int32) d8_100 (by decide) rfl |>.icmpF 105 d8_102 (XT.ii_ne_f rfl) rfl |>.bipush 107 (56 : Int32) d8_105 (by decide) rfl
  obtain ⟨d, h1, kd, G', gd, sd, Ed, Ad⟩ := G.newarray 109 (hw _ (mm 0 rfl)) d8_107 (by decide) 58 (nle rfl) (by decide) rfl (nle rfl) (nle rfl)
  replace G := G'; clear G'
  exact G.retA hret rfl rfl hlk d8_109 [d] (allS (mm 0 rfl) all0) ⟨_, rfl, d, rfl, ⟨kd, Ad⟩, sd, rfl⟩ (nle rfl) (nle rfl)
theorem c_mk57 (l : Launch) (Z : State) (a0 : Array Value) (hw : ∀ d ∈ tables_1, d.before a0 Z = true) (hEW : EW Z a0 consts_1) (n0 : Nat) (c1 : Int32) (hc1 : ¬ c1 = 0) (S1 : Sta Z Z.heap "java/lang/String" "COMPACT_STRINGS" "Z" (.int c1))  {h0 : Heap} (o1 : Old Z n0 h0)  :
    Con Z a0 l (⟨"com/example/rebalance/rebalance/MessageQueueHashKeyPinLaw", "mk", "(I)[C"⟩ : MethodName) method_5_code 1 (some (.array .char)) ({ frames := 0, cells := 1, slots := 58, locals := 0 } : Room) [] #[(.int (Int32.ofNat 57))] consts_1 h0 n0 [] [] (VV fun w h so => ∃ d, w = .ref d ∧ (∃ k, Arv Z h d k .char (Int32.ofNat 57) [] (.int 0)) ∧ h0.size ≤ d ∧ so = [d]) := by
  refine Con.body (plainFor_of_name pn_com_example_rebalance_rebalance_MessageQueueHashKeyPinLaw) hEW o1 all0 #[.val (.int (Int32.ofNat 57))] (fun m => by first | (simp [entryFrame, mkF, argsToLocals, Value.category]; done) | rfl) ?_
  intro p e s m below meth c B hnm hret hlk G
  replace G := G.iloadN 1 d8_0 rfl rfl |>.bipush 3 (47 : Int32) d8_1 (by decide) rfl |>.icmpT 11 d8_3 (XT.ii_ne_t (by decide)) (by decide) (by decide) |>.iloadN 12 d8_11 rfl rfl |>.bipush 14 (48 : Int32) d8_12 (by decide) rfl |>.icmpT 22 d8_14 (XT.ii_ne_t (by decide)) (by decide) (by decide) |>.iloadN 23 d8_22 rfl rfl |>.bipush 25 (49 : Int32) d8_23 (by decide) rfl
  replace G := G.icmpT 33 d8_25 (XT.ii_ne_t (by decide)) (by decide) (by decide) |>.iloadN 34 d8_33 rfl rfl |>.bipush 36 (50 : Int32) d8_34 (by decide) rfl |>.icmpT 44 d8_36 (XT.ii_ne_t (by decide)) (by decide) (by decide) |>.iloadN 45 d8_44 rfl rfl |>.bipush 47 (51 : Int32) d8_45 (by decide) rfl |>.icmpT 55 d8_47 (XT.ii_ne_t (by decide)) (by decide) (by decide) |>.iloadN 56 d8_55 rfl rfl
  replace G := G.bipush 58 (52 : Int32) d8_56 (by decide) rfl |>.icmpT 66 d8_58 (XT.ii_ne_t (by decide)) (by decide) (by decide) |>.iloadN 67 d8_66 rfl rfl |>.bipush 69 (53 : Int32) d8_67 (by decide) rfl |>.icmpT 77 d8_69 (XT.ii_ne_t (by decide)) (by decide) (by decide) |>.iloadN 78 d8_77 rfl rfl |>.bipush 80 (54 : Int32) d8_78 (by decide) rfl |>.icmpT 88 d8_80 (XT.ii_ne_t (by decide)) (by decide) (by decide)
  replace G := G.iloadN 89 d8_88 rfl rfl |>.bipush 91 (55 : Int32) d8_89 (by decide) rfl |>.icmpT 99 d8_91 (XT.ii_ne_t (by decide)) (by decide) (by decide) |>.iloadN 100 d8_99 rfl rfl |>.bipush 102 (56 : Int32) d8_100 (by decide) rfl |>.icmpT 110 d8_102 (XT.ii_ne_t (by decide)) (by decide) (by decide) |>.iloadN 111 d8_110 rfl rfl |>.bipush 113 (57 : Int32) d8_111 (by decide) rfl
  replace G := G.icmpF 116 d8_113 (XT.ii_ne_f rfl) rfl |>.bipush 118 (57 : Int32) d8_116 (by decide) rfl
  obtain ⟨d, h1, kd, G', gd, sd, Ed, Ad⟩ := G.newarray 120 (hw _ (mm 0 rfl)) d8_118 (by decide) 58 (nle rfl) (by decide) rfl (nle rfl) (nle rfl)
  replace G := G'; clear G'
  exact G.retA hret rfl rfl hlk d8_120 [d] (allS (mm 0 rfl) all0) ⟨_, rfl, d, rfl, ⟨kd, Ad⟩, sd, rfl⟩ (nle rfl) (nle rfl)
theorem c_mk58 (l : Launch) (Z : State) (a0 : Array Value) (hw : ∀ d ∈ tables_1, d.before a0 Z = true) (hEW : EW Z a0 consts_1) (n0 : Nat) (c1 : Int32) (hc1 : ¬ c1 = 0) (S1 : Sta Z Z.heap "java/lang/String" "COMPACT_STRINGS" "Z" (.int c1))  {h0 : Heap} (o1 : Old Z n0 h0)  :
    Con Z a0 l (⟨"com/example/rebalance/rebalance/MessageQueueHashKeyPinLaw", "mk", "(I)[C"⟩ : MethodName) method_5_code 1 (some (.array .char)) ({ frames := 0, cells := 1, slots := 58, locals := 0 } : Room) [] #[(.int (Int32.ofNat 58))] consts_1 h0 n0 [] [] (VV fun w h so => ∃ d, w = .ref d ∧ (∃ k, Arv Z h d k .char (Int32.ofNat 58) [] (.int 0)) ∧ h0.size ≤ d ∧ so = [d]) := by
  refine Con.body (plainFor_of_name pn_com_example_rebalance_rebalance_MessageQueueHashKeyPinLaw) hEW o1 all0 #[.val (.int (Int32.ofNat 58))] (fun m => by first | (simp [entryFrame, mkF, argsToLocals, Value.category]; done) | rfl) ?_
  intro p e s m below meth c B hnm hret hlk G
  replace G := G.iloadN 1 d8_0 rfl rfl |>.bipush 3 (47 : Int32) d8_1 (by decide) rfl |>.icmpT 11 d8_3 (XT.ii_ne_t (by decide)) (by decide) (by decide) |>.iloadN 12 d8_11 rfl rfl |>.bipush 14 (48 : Int32) d8_12 (by decide) rfl |>.icmpT 22 d8_14 (XT.ii_ne_t (by decide)) (by decide) (by decide) |>.iloadN 23 d8_22 rfl rfl |>.bipush 25 (49 : Int32) d8_23 (by decide) rfl
  replace G := G.icmpT 33 d8_25 (XT.ii_ne_t (by decide)) (by decide) (by decide) |>.iloadN 34 d8_33 rfl rfl |>.bipush 36 (50 : Int32) d8_34 (by decide) rfl |>.icmpT 44 d8_36 (XT.ii_ne_t (by decide)) (by decide) (by decide) |>.iloadN 45 d8_44 rfl rfl |>.bipush 47 (51 : Int32) d8_45 (by decide) rfl |>.icmpT 55 d8_47 (XT.ii_ne_t (by decide)) (by decide) (by decide) |>.iloadN 56 d8_55 rfl rfl
  replace G := G.bipush 58 (52 : Int32) d8_56 (by decide) rfl |>.icmpT 66 d8_58 (XT.ii_ne_t (by decide)) (by decide) (by decide) |>.iloadN 67 d8_66 rfl rfl |>.bipush 69 (53 : Int32) d8_67 (by decide) rfl |>.icmpT 77 d8_69 (XT.ii_ne_t (by decide)) (by decide) (by decide) |>.iloadN 78 d8_77 rfl rfl |>.bipush 80 (54 : Int32) d8_78 (by decide) rfl |>.icmpT 88 d8_80 (XT.ii_ne_t (by decide)) (by decide) (by decide)
  replace G := G.iloadN 89 d8_88 rfl rfl |>.bipush 91 (55 : Int32) d8_89 (by decide) rfl |>.icmpT 99 d8_91 (XT.ii_ne_t (by decide)) (by decide) (by decide) |>.iloadN 100 d8_99 rfl rfl |>.bipush 102 (56 : Int32) d8_100 (by decide) rfl |>.icmpT 110 d8_102 (XT.ii_ne_t (by decide)) (by decide) (by decide) |>.iloadN 111 d8_110 rfl rfl |>.bipush 113 (57 : Int32) d8_111 (by decide) rfl
  replace G := G.icmpT 121 d8_113 (XT.ii_ne_t (by decide)) (by decide) (by decide) |>.bipush 123 (58 : Int32) d8_121 (by decide) rfl
  obtain ⟨d, h1, kd, G', gd, sd, Ed, Ad⟩ := G.newarray 125 (hw _ (mm 0 rfl)) d8_123 (by decide) 58 (nle rfl) (by decide) rfl (nle rfl) (nle rfl)
  replace G := G'; clear G'
  exact G.retA hret rfl rfl hlk d8_125 [d] (allS (mm 0 rfl) all0) ⟨_, rfl, d, rfl, ⟨kd, Ad⟩, sd, rfl⟩ (nle rfl) (nle rfl)
theorem c_mk (l : Launch) (Z : State) (a0 : Array Value) (hw : ∀ d ∈ tables_1, d.before a0 Z = true) (hEW : EW Z a0 consts_1) (n0 : Nat) (c1 : Int32) (hc1 : ¬ c1 = 0) (S1 : Sta Z Z.heap "java/lang/String" "COMPACT_STRINGS" "Z" (.int c1)) (n : Nat) {h0 : Heap} (o1 : Old Z n0 h0) (h1 : 47 ≤ n) (h2 : n ≤ 58) :
    Con Z a0 l (⟨"com/example/rebalance/rebalance/MessageQueueHashKeyPinLaw", "mk", "(I)[C"⟩ : MethodName) method_5_code 1 (some (.array .char)) ({ frames := 0, cells := 1, slots := 58, locals := 0 } : Room) [] #[(.int (Int32.ofNat n))] consts_1 h0 n0 [] [] (VV fun w h so => ∃ d, w = .ref d ∧ (∃ k, Arv Z h d k .char (Int32.ofNat n) [] (.int 0)) ∧ h0.size ≤ d ∧ so = [d]) := by
  rcases (show n = 47 ∨ n = 48 ∨ n = 49 ∨ n = 50 ∨ n = 51 ∨ n = 52 ∨ n = 53 ∨ n = 54 ∨ n = 55 ∨ n = 56 ∨ n = 57 ∨ n = 58 by omega) with rfl | rfl | rfl | rfl | rfl | rfl | rfl | rfl | rfl | rfl | rfl | rfl
  · exact c_mk47 l Z a0 hw hEW n0 c1 hc1 S1 o1
  · exact c_mk48 l Z a0 hw hEW n0 c1 hc1 S1 o1
  · exact c_mk49 l Z a0 hw hEW n0 c1 hc1 S1 o1
  · exact c_mk50 l Z a0 hw hEW n0 c1 hc1 S1 o1
  · exact c_mk51 l Z a0 hw hEW n0 c1 hc1 S1 o1
  · exact c_mk52 l Z a0 hw hEW n0 c1 hc1 S1 o1
  · exact c_mk53 l Z a0 hw hEW n0 c1 hc1 S1 o1
  · exact c_mk54 l Z a0 hw hEW n0 c1 hc1 S1 o1
  · exact c_mk55 l Z a0 hw hEW n0 c1 hc1 S1 o1
  · exact c_mk56 l Z a0 hw hEW n0 c1 hc1 S1 o1
  · exact c_mk57 l Z a0 hw hEW n0 c1 hc1 S1 o1
  · exact c_mk58 l Z a0 hw hEW n0 c1 hc1 S1 o1
theorem d13_0 : decode jdk_42_method_55_code 0 = .ok (.aload_n 0, 1) := by decide +kernel
theorem d13_1 : decode jdk_42_method_55_code 1 = .ok (.getfield 9, 3) := by decide +kernel
theorem d13_4 : decode jdk_42_method_55_code 4 = .ok (.arraylength, 1) := by decide +kernel
theorem d13_5 : decode jdk_42_method_55_code 5 = .ok (.ifCond .ne 7, 3) := by decide +kernel
theorem d13_8 : decode jdk_42_method_55_code 8 = .ok (.iconst 1, 1) := by decide +kernel
theorem d13_9 : decode jdk_42_method_55_code 9 = .ok (.goto 4, 3) := by decide +kernel
theorem d13_12 : decode jdk_42_method_55_code 12 = .ok (.iconst 0, 1) := by decide +kernel
theorem d13_13 : decode jdk_42_method_55_code 13 = .ok (.ireturn, 1) := by decide +kernel
theorem c_isEmptyN (l : Launch) (Z : State) (a0 : Array Value) (hw : ∀ d ∈ tables_1, d.before a0 Z = true) (hEW : EW Z a0 consts_1) (n0 : Nat) (c1 : Int32) (hc1 : ¬ c1 = 0) (S1 : Sta Z Z.heap "java/lang/String" "COMPACT_STRINGS" "Z" (.int c1)) (a b : Addr) (bs : List Value) {h0 : Heap} (o1 : Old Z n0 h0) (hne : 0 < bs.length) (hn : bs.length < 2147483648) (hS : Str Z h0 a b bs) :
    Con Z a0 l (⟨"java/lang/String", "isEmpty", "()Z"⟩ : MethodName) jdk_42_method_55_code 1 (some .boolean) ({ frames := 0, cells := 0, slots := 0, locals := 0 } : Room) [] #[(.ref a)] consts_1 h0 n0 [] [] (VV fun w h so => w = .int 0 ∧ h = h0 ∧ so = []) := by
  refine Con.body (plainFor_of_name pn_java_lang_String) hEW o1 all0 #[.val (.ref a)] (fun m => by first | (simp [entryFrame, mkF, argsToLocals, Value.category]; done) | rfl) ?_
  intro p e s m below meth c B hnm hret hlk G
  obtain ⟨Xa, Fc, Fv, kb, Ab⟩ := hS
  replace G := G.aloadN 1 d13_0 rfl rfl rfl |>.getf 4 (host := "") (Or.inl (hw _ (mm 28 rfl))) Via.refl Fv d13_1 rfl |>.alen 5 Ab d13_4 rfl |>.ifT 12 d13_5 (XT.i0_ne_t (ofn_ne (n := 0) (by omega) hn (by decide))) (by decide) (by decide) |>.iconst 13 (0 : Int32) d13_12 rfl rfl
  exact G.retN hret (Or.inl rfl) hlk d13_13 [] all0 ⟨_, rfl, rfl, rfl, rfl⟩ (nle rfl) (nle rfl)
theorem d12_0 : decode jdk_31_method_11_code 0 = .ok (.aload_n 0, 1) := by decide +kernel
theorem d12_1 : decode jdk_31_method_11_code 1 = .ok (.ifnonnull 12, 3) := by decide +kernel
theorem d12_4 : decode jdk_31_method_11_code 4 = .ok (.new 84, 3) := by decide +kernel
theorem d12_7 : decode jdk_31_method_11_code 7 = .ok (.dup, 1) := by decide +kernel
theorem d12_8 : decode jdk_31_method_11_code 8 = .ok (.aload_n 1, 1) := by decide +kernel
theorem d12_9 : decode jdk_31_method_11_code 9 = .ok (.invokespecial 87, 3) := by decide +kernel
theorem d12_12 : decode jdk_31_method_11_code 12 = .ok (.athrow, 1) := by decide +kernel
theorem d12_13 : decode jdk_31_method_11_code 13 = .ok (.aload_n 0, 1) := by decide +kernel
theorem d12_14 : decode jdk_31_method_11_code 14 = .ok (.areturn, 1) := by decide +kernel
theorem c_reqNN (l : Launch) (Z : State) (a0 : Array Value) (hw : ∀ d ∈ tables_1, d.before a0 Z = true) (hEW : EW Z a0 consts_1) (n0 : Nat) (c1 : Int32) (hc1 : ¬ c1 = 0) (S1 : Sta Z Z.heap "java/lang/String" "COMPACT_STRINGS" "Z" (.int c1)) (a t : Addr) {h0 : Heap} (o1 : Old Z n0 h0)  :
    Con Z a0 l (⟨"java/util/Objects", "requireNonNull", "(Ljava/lang/Object;Ljava/lang/String;)Ljava/lang/Object;"⟩ : MethodName) jdk_31_method_11_code 2 (some (.object "java/lang/Object")) ({ frames := 0, cells := 0, slots := 0, locals := 0 } : Room) [] #[(.ref a), (.ref t)] consts_1 h0 n0 [] [] (VV fun w h so => w = .ref a ∧ h = h0 ∧ so = []) := by
  refine Con.body (plainFor_of_name pn_java_util_Objects) hEW o1 all0 #[.val (.ref a), .val (.ref t)] (fun m => by first | (simp [entryFrame, mkF, argsToLocals, Value.category]; done) | rfl) ?_
  intro p e s m below meth c B hnm hret hlk G
  replace G := G.aloadN 1 d12_0 rfl rfl rfl |>.ifnonnullT 13 d12_1 (by decide) (by decide) |>.aloadN 14 d12_13 rfl rfl rfl
  exact G.retA hret rfl rfl hlk d12_14 [] all0 ⟨_, rfl, rfl, rfl, rfl⟩ (nle rfl) (nle rfl)
theorem d11_0 : decode jdk_30_method_1_code 0 = .ok (.aload_n 0, 1) := by decide +kernel
theorem d11_1 : decode jdk_30_method_1_code 1 = .ok (.invokespecial 1, 3) := by decide +kernel
theorem d11_4 : decode jdk_30_method_1_code 4 = .ok (.return_, 1) := by decide +kernel
theorem c_recI (l : Launch) (Z : State) (a0 : Array Value) (hw : ∀ d ∈ tables_1, d.before a0 Z = true) (hEW : EW Z a0 consts_1) (n0 : Nat) (c1 : Int32) (hc1 : ¬ c1 = 0) (S1 : Sta Z Z.heap "java/lang/String" "COMPACT_STRINGS" "Z" (.int c1)) (a : Addr) {h0 : Heap} (o1 : Old Z n0 h0)  :
    Con Z a0 l (⟨"java/lang/Record", "<init>", "()V"⟩ : MethodName) jdk_30_method_1_code 1 (none) ({ frames := 1, cells := 0, slots := 0, locals := 12 } : Room) [] #[(.ref a)] consts_1 h0 n0 [] [] (V0 fun h so => h = h0 ∧ so = []) := by
  refine Con.body (plainFor_of_name pn_java_lang_Record) hEW o1 all0 #[.val (.ref a)] (fun m => by first | (simp [entryFrame, mkF, argsToLocals, Value.category]; done) | rfl) ?_
  intro p e s m below meth c B hnm hret hlk G
  replace G := G.aloadN 1 d11_0 rfl rfl rfl |>.initO 4 (hw _ (mm 52 rfl)) (hw _ (mm 12 rfl)) (hw _ (mm 13 rfl)) d11_1 rfl (nle rfl) (nle rfl) rfl
  exact G.retV hret hlk d11_4 [] all0 ⟨rfl, rfl, rfl⟩ (nle rfl) (nle rfl)
theorem d10_0 : decode prog_2_method_1_code 0 = .ok (.aload_n 0, 1) := by decide +kernel
theorem d10_1 : decode prog_2_method_1_code 1 = .ok (.invokespecial 1, 3) := by decide +kernel
theorem d10_4 : decode prog_2_method_1_code 4 = .ok (.aload_n 1, 1) := by decide +kernel
theorem d10_5 : decode prog_2_method_1_code 5 = .ok (.ldc 7, 2) := by decide +kernel
theorem d10_7 : decode prog_2_method_1_code 7 = .ok (.invokestatic 9, 3) := by decide +kernel
theorem d10_10 : decode prog_2_method_1_code 10 = .ok (.pop, 1) := by decide +kernel
theorem d10_11 : decode prog_2_method_1_code 11 = .ok (.aload_n 2, 1) := by decide +kernel
theorem d10_12 : decode prog_2_method_1_code 12 = .ok (.ldc 15, 2) := by decide +kernel
theorem d10_14 : decode prog_2_method_1_code 14 = .ok (.invokestatic 9, 3) := by decide +kernel
theorem d10_17 : decode prog_2_method_1_code 17 = .ok (.pop, 1) := by decide +kernel
theorem d10_18 : decode prog_2_method_1_code 18 = .ok (.aload_n 1, 1) := by decide +kernel
theorem d10_19 : decode prog_2_method_1_code 19 = .ok (.invokevirtual 17, 3) := by decide +kernel
theorem d10_22 : decode prog_2_method_1_code 22 = .ok (.ifCond .eq 13, 3) := by decide +kernel
theorem d10_25 : decode prog_2_method_1_code 25 = .ok (.new 23, 3) := by decide +kernel
theorem d10_28 : decode prog_2_method_1_code 28 = .ok (.dup, 1) := by decide +kernel
theorem d10_29 : decode prog_2_method_1_code 29 = .ok (.ldc 25, 2) := by decide +kernel
theorem d10_31 : decode prog_2_method_1_code 31 = .ok (.invokespecial 27, 3) := by decide +kernel
theorem d10_34 : decode prog_2_method_1_code 34 = .ok (.athrow, 1) := by decide +kernel
theorem d10_35 : decode prog_2_method_1_code 35 = .ok (.aload_n 2, 1) := by decide +kernel
theorem d10_36 : decode prog_2_method_1_code 36 = .ok (.invokevirtual 17, 3) := by decide +kernel
theorem d10_39 : decode prog_2_method_1_code 39 = .ok (.ifCond .eq 13, 3) := by decide +kernel
theorem d10_42 : decode prog_2_method_1_code 42 = .ok (.new 23, 3) := by decide +kernel
theorem d10_45 : decode prog_2_method_1_code 45 = .ok (.dup, 1) := by decide +kernel
theorem d10_46 : decode prog_2_method_1_code 46 = .ok (.ldc 30, 2) := by decide +kernel
theorem d10_48 : decode prog_2_method_1_code 48 = .ok (.invokespecial 27, 3) := by decide +kernel
theorem d10_51 : decode prog_2_method_1_code 51 = .ok (.athrow, 1) := by decide +kernel
theorem d10_52 : decode prog_2_method_1_code 52 = .ok (.iload_n 3, 1) := by decide +kernel
theorem d10_53 : decode prog_2_method_1_code 53 = .ok (.ifCond .ge 30, 3) := by decide +kernel
theorem d10_56 : decode prog_2_method_1_code 56 = .ok (.new 23, 3) := by decide +kernel
theorem d10_59 : decode prog_2_method_1_code 59 = .ok (.dup, 1) := by decide +kernel
theorem d10_60 : decode prog_2_method_1_code 60 = .ok (.new 32, 3) := by decide +kernel
theorem d10_63 : decode prog_2_method_1_code 63 = .ok (.dup, 1) := by decide +kernel
theorem d10_64 : decode prog_2_method_1_code 64 = .ok (.invokespecial 34, 3) := by decide +kernel
theorem d10_67 : decode prog_2_method_1_code 67 = .ok (.ldc 35, 2) := by decide +kernel
theorem d10_69 : decode prog_2_method_1_code 69 = .ok (.invokevirtual 37, 3) := by decide +kernel
theorem d10_72 : decode prog_2_method_1_code 72 = .ok (.iload_n 3, 1) := by decide +kernel
theorem d10_73 : decode prog_2_method_1_code 73 = .ok (.invokevirtual 41, 3) := by decide +kernel
theorem d10_76 : decode prog_2_method_1_code 76 = .ok (.invokevirtual 44, 3) := by decide +kernel
theorem d10_79 : decode prog_2_method_1_code 79 = .ok (.invokespecial 27, 3) := by decide +kernel
theorem d10_82 : decode prog_2_method_1_code 82 = .ok (.athrow, 1) := by decide +kernel
theorem d10_83 : decode prog_2_method_1_code 83 = .ok (.aload_n 0, 1) := by decide +kernel
theorem d10_84 : decode prog_2_method_1_code 84 = .ok (.aload_n 1, 1) := by decide +kernel
theorem d10_85 : decode prog_2_method_1_code 85 = .ok (.putfield 48, 3) := by decide +kernel
theorem d10_88 : decode prog_2_method_1_code 88 = .ok (.aload_n 0, 1) := by decide +kernel
theorem d10_89 : decode prog_2_method_1_code 89 = .ok (.aload_n 2, 1) := by decide +kernel
theorem d10_90 : decode prog_2_method_1_code 90 = .ok (.putfield 53, 3) := by decide +kernel
theorem d10_93 : decode prog_2_method_1_code 93 = .ok (.aload_n 0, 1) := by decide +kernel
theorem d10_94 : decode prog_2_method_1_code 94 = .ok (.iload_n 3, 1) := by decide +kernel
theorem d10_95 : decode prog_2_method_1_code 95 = .ok (.putfield 55, 3) := by decide +kernel
theorem d10_98 : decode prog_2_method_1_code 98 = .ok (.return_, 1) := by decide +kernel
theorem c_mqI (l : Launch) (Z : State) (a0 : Array Value) (hw : ∀ d ∈ tables_1, d.before a0 Z = true) (hEW : EW Z a0 consts_1) (n0 : Nat) (c1 : Int32) (hc1 : ¬ c1 = 0) (S1 : Sta Z Z.heap "java/lang/String" "COMPACT_STRINGS" "Z" (.int c1)) (q t tb b bb : Addr) (ts bs : List Value) (N : Nat) {h0 : Heap} (o1 : Old Z n0 h0) (ge_q : n0 ≤ q) (ht0 : 0 < ts.length) (ht1 : ts.length < 2147483648) (hb0 : 0 < bs.length) (hb1 : bs.length < 2147483648) (hN : N < 2147483648) (Xq : Exa Z h0 q "com/example/rebalance/rebalance/MessageQueue") (Ft : Fld Z h0 q "com/example/rebalance/rebalance/MessageQueue" "topic" "Ljava/lang/String;" .null) (Fb : Fld Z h0 q "com/example/rebalance/rebalance/MessageQueue" "brokerName" "Ljava/lang/String;" .null) (Fq : Fld Z h0 q "com/example/rebalance/rebalance/MessageQueue" "queueId" "I" (.int 0)) (hT : Str Z h0 t tb ts) (hB : Str Z h0 b bb bs) :
    Con Z a0 l (⟨"com/example/rebalance/rebalance/MessageQueue", "<init>", "(Ljava/lang/String;Ljava/lang/String;I)V"⟩ : MethodName) prog_2_method_1_code 4 (none) ({ frames := 2, cells := 4, slots := 68, locals := 24 } : Room) [] #[(.ref q), (.ref t), (.ref b), (.int (Int32.ofNat N))] consts_1 h0 n0 [q] [q] (V0 fun h so => Exa Z h q "com/example/rebalance/rebalance/MessageQueue" ∧ Fld Z h q "com/example/rebalance/rebalance/MessageQueue" "topic" "Ljava/lang/String;" (.ref t) ∧ Fld Z h q "com/example/rebalance/rebalance/MessageQueue" "brokerName" "Ljava/lang/String;" (.ref b) ∧ Fld Z h q "com/example/rebalance/rebalance/MessageQueue" "queueId" "I" (.int (Int32.ofNat N)) ∧ so = []) := by
  refine Con.body (plainFor_of_name pn_com_example_rebalance_rebalance_MessageQueue) hEW o1 (allS ge_q all0) #[.val (.ref q), .val (.ref t), .val (.ref b), .val (.int (Int32.ofNat N))] (fun m => by first | (simp [entryFrame, mkF, argsToLocals, Value.category]; done) | rfl) ?_
  intro p e s m below meth c B hnm hret hlk G
  replace G := G.aloadN 1 d10_0 rfl rfl rfl
  obtain ⟨vr, h_r, sor, G', Kr, Qr⟩ := G.callI 4 rfl rfl (hw _ (mm 47 rfl)) (hw _ (mm 48 rfl)) (hw _ (mm 50 rfl)) (hw _ (mm 51 rfl)) (by decide) [] [] rfl (c_recI l Z a0 hw hEW n0 c1 hc1 S1 q G.old ) (lenOf pd___V rfl) d10_1 rfl (nle rfl) (nle rfl) (nle rfl) (nle rfl) all0 all0 all0 rfl
  replace G := G'; clear G'
  obtain ⟨qr, er, rfl⟩ := Qr
  replace G := G.nov qr
  subst er
  replace G := G.aloadN 5 d10_4 rfl rfl rfl
  obtain ⟨l1, l2, h1, kkx1, G', Ex1, Xx1, Fcx1, Fvx1, Ax1, nex1⟩ := G.ldcS 7 (hw _ (mm 53 rfl)) (wS_of hw) (mm 0 rfl) (vs := [(.int (116 : Int32)), (.int (111 : Int32)), (.int (112 : Int32)), (.int (105 : Int32)), (.int (99 : Int32))]) (z := (5 : Int32)) (by decide) (by decide) rfl d10_5 20 (by decide) (by decide) (nle rfl) (nle rfl) rfl
  replace G := G'; clear G'
  replace Xq := Xq.ext Ex1; replace Ft := Ft.ext Ex1; replace Fb := Fb.ext Ex1; replace Fq := Fq.ext Ex1; replace hT := hT.ext Ex1; replace hB := hB.ext Ex1
  obtain ⟨vs1, h_s, sos1, G', Ks1, Qs1⟩ := G.callS 10 (hw _ (mm 56 rfl)) (hw _ (mm 57 rfl)) (hw _ (mm 58 rfl)) (hw _ (mm 59 rfl)) (by decide) [(.ref t), (.ref l1)] [] rfl (c_reqNN l Z a0 hw hEW n0 c1 hc1 S1 t l1 G.old ) (lenOf pd__Ljava_lang_Object_Ljava_lang_String__Ljava_lang_Object_ rfl) d10_7 rfl (nle rfl) (nle rfl) (nle rfl) (nle rfl) all0 all0 all0 rfl
  replace G := G'; clear G'
  obtain ⟨ws1, qs1, rfl, es1, rfl⟩ := Qs1
  replace G := G.val qs1
  subst es1
  replace G := G.pop 11 d10_10 rfl rfl |>.aloadN 12 d10_11 rfl rfl rfl
  obtain ⟨l3, l4, h2, kkx2, G', Ex2, Xx2, Fcx2, Fvx2, Ax2, nex2⟩ := G.ldcS 14 (hw _ (mm 60 rfl)) (wS_of hw) (mm 1 rfl) (vs := [(.int (98 : Int32)), (.int (114 : Int32)), (.int (111 : Int32)), (.int (107 : Int32)), (.int (101 : Int32)), (.int (114 : Int32)), (.int (78 : Int32)), (.int (97 : Int32)), (.int (109 : Int32)), (.int (101 : Int32))]) (z := (10 : Int32)) (by decide) (by decide) rfl d10_12 40 (by decide) (by decide) (nle rfl) (nle rfl) rfl
  replace G := G'; clear G'
  replace Xq := Xq.ext Ex2; replace Ft := Ft.ext Ex2; replace Fb := Fb.ext Ex2; replace Fq := Fq.ext Ex2; replace hT := hT.ext Ex2; replace hB := hB.ext Ex2
  obtain ⟨vs2, h_s, sos2, G', Ks2, Qs2⟩ := G.callS 17 (hw _ (mm 56 rfl)) (hw _ (mm 57 rfl)) (hw _ (mm 58 rfl)) (hw _ (mm 59 rfl)) (by decide) [(.ref b), (.ref l3)] [] rfl (c_reqNN l Z a0 hw hEW n0 c1 hc1 S1 b l3 G.old ) (lenOf pd__Ljava_lang_Object_Ljava_lang_String__Ljava_lang_Object_ rfl) d10_14 rfl (nle rfl) (nle rfl) (nle rfl) (nle rfl) all0 all0 all0 rfl
  replace G := G'; clear G'
  obtain ⟨ws2, qs2, rfl, es2, rfl⟩ := Qs2
  replace G := G.val qs2
  subst es2
  replace G := G.pop 18 d10_17 rfl rfl |>.aloadN 19 d10_18 rfl rfl rfl
  obtain ⟨ve1, h_e, soe1, G', Ke1, Qe1⟩ := G.callV 22 (hw _ (mm 61 rfl)) (hw _ (mm 62 rfl)) (nfSel (hw _ (mm 64 rfl))) (hw _ (mm 64 rfl)) (hw _ (mm 63 rfl)) (hw _ (mm 3 rfl)) (hw _ (mm 65 rfl)) hT.1 (by decide) [] [] rfl (c_isEmptyN l Z a0 hw hEW n0 c1 hc1 S1 t tb ts G.old ht0 ht1 hT) (lenOf pd___Z rfl) d10_19 rfl (nle rfl) (nle rfl) (nle rfl) (nle rfl) all0 all0 all0 rfl
  replace G := G'; clear G'
  obtain ⟨we1, qe1, rfl, ee1, rfl⟩ := Qe1
  replace G := G.val qe1
  subst ee1
  replace G := G.ifT 35 d10_22 (XT.i0_eq_t rfl) (by decide) (by decide) |>.aloadN 36 d10_35 rfl rfl rfl
  obtain ⟨ve2, h_e, soe2, G', Ke2, Qe2⟩ := G.callV 39 (hw _ (mm 61 rfl)) (hw _ (mm 62 rfl)) (nfSel (hw _ (mm 64 rfl))) (hw _ (mm 64 rfl)) (hw _ (mm 63 rfl)) (hw _ (mm 3 rfl)) (hw _ (mm 65 rfl)) hB.1 (by decide) [] [] rfl (c_isEmptyN l Z a0 hw hEW n0 c1 hc1 S1 b bb bs G.old hb0 hb1 hB) (lenOf pd___Z rfl) d10_36 rfl (nle rfl) (nle rfl) (nle rfl) (nle rfl) all0 all0 all0 rfl
  replace G := G'; clear G'
  obtain ⟨we2, qe2, rfl, ee2, rfl⟩ := Qe2
  replace G := G.val qe2
  subst ee2
  replace G := G.ifT 52 d10_39 (XT.i0_eq_t rfl) (by decide) (by decide) |>.iloadN 53 d10_52 rfl rfl |>.ifT 83 d10_53 (XT.i0_ge_t (ofn_nn hN)) (by decide) (by decide) |>.aloadN 84 d10_83 rfl rfl rfl |>.aloadN 85 d10_84 rfl rfl rfl
  obtain ⟨h3, G', Wt1, Ft1, Kt1⟩ := G.putf 88 (host := "") (Or.inl (hw _ (mm 66 rfl))) Via.refl Ft Xq (Or.inr ⟨(hw _ (mm 67 rfl)), rfl, hnm⟩) (hw _ (mm 42 rfl)) (ty := (.object "java/lang/String")) (by decide) rfl rfl (Or.inl (mm 0 rfl)) (mm 0 rfl) d10_85 rfl
  replace G := G'; clear G'
  replace Fb := Fb.other Wt1 (Or.inr (slot_ne (Or.inr (hw _ (mm 69 rfl))) (Or.inr (hw _ (mm 67 rfl))) (by decide) (t := (.object "java/lang/String")) (t' := (.object "java/lang/String")) (by decide) (by decide))); replace Fq := Fq.other Wt1 (Or.inr (slot_ne (Or.inr (hw _ (mm 71 rfl))) (Or.inr (hw _ (mm 67 rfl))) (by decide) (t := .int) (t' := (.object "java/lang/String")) (by decide) (by decide))); replace Xq := Xq.wr Wt1
  replace G := G.aloadN 89 d10_88 rfl rfl rfl |>.aloadN 90 d10_89 rfl rfl rfl
  obtain ⟨h4, G', Wb1, Fb1, Kb1⟩ := G.putf 93 (host := "") (Or.inl (hw _ (mm 68 rfl))) Via.refl Fb Xq (Or.inr ⟨(hw _ (mm 69 rfl)), rfl, hnm⟩) (hw _ (mm 42 rfl)) (ty := (.object "java/lang/String")) (by decide) rfl rfl (Or.inl (mm 0 rfl)) (mm 0 rfl) d10_90 rfl
  replace G := G'; clear G'
  replace Ft1 := Ft1.other Wb1 (Or.inr (slot_ne (Or.inr (hw _ (mm 67 rfl))) (Or.inr (hw _ (mm 69 rfl))) (by decide) (t := (.object "java/lang/String")) (t' := (.object "java/lang/String")) (by decide) (by decide))); replace Fq := Fq.other Wb1 (Or.inr (slot_ne (Or.inr (hw _ (mm 71 rfl))) (Or.inr (hw _ (mm 69 rfl))) (by decide) (t := .int) (t' := (.object "java/lang/String")) (by decide) (by decide))); replace Xq := Xq.wr Wb1
  replace G := G.aloadN 94 d10_93 rfl rfl rfl |>.iloadN 95 d10_94 rfl rfl
  obtain ⟨h5, G', Wq1, Fq1, Kq1⟩ := G.putf 98 (host := "") (Or.inl (hw _ (mm 70 rfl))) Via.refl Fq Xq (Or.inr ⟨(hw _ (mm 71 rfl)), rfl, hnm⟩) (hw _ (mm 42 rfl)) (ty := .int) (by decide) rfl rfl (Or.inl (mm 0 rfl)) (mm 0 rfl) d10_95 rfl
  replace G := G'; clear G'
  replace Ft1 := Ft1.other Wq1 (Or.inr (slot_ne (Or.inr (hw _ (mm 67 rfl))) (Or.inr (hw _ (mm 71 rfl))) (by decide) (t := (.object "java/lang/String")) (t' := .int) (by decide) (by decide))); replace Fb1 := Fb1.other Wq1 (Or.inr (slot_ne (Or.inr (hw _ (mm 69 rfl))) (Or.inr (hw _ (mm 71 rfl))) (by decide) (t := (.object "java/lang/String")) (t' := .int) (by decide) (by decide))); replace Xq := Xq.wr Wq1
  exact G.retV hret hlk d10_98 [] all0 ⟨rfl, Xq, Ft1, Fb1, Fq1, rfl⟩ (nle rfl) (nle rfl)
theorem d14_0 : decode prog_2_method_2_code 0 = .ok (.new 32, 3) := by decide +kernel
theorem d14_3 : decode prog_2_method_2_code 3 = .ok (.dup, 1) := by decide +kernel
theorem d14_4 : decode prog_2_method_2_code 4 = .ok (.invokespecial 34, 3) := by decide +kernel
theorem d14_7 : decode prog_2_method_2_code 7 = .ok (.ldc 59, 2) := by decide +kernel
theorem d14_9 : decode prog_2_method_2_code 9 = .ok (.invokevirtual 37, 3) := by decide +kernel
theorem d14_12 : decode prog_2_method_2_code 12 = .ok (.aload_n 0, 1) := by decide +kernel
theorem d14_13 : decode prog_2_method_2_code 13 = .ok (.getfield 48, 3) := by decide +kernel
theorem d14_16 : decode prog_2_method_2_code 16 = .ok (.invokevirtual 37, 3) := by decide +kernel
theorem d14_19 : decode prog_2_method_2_code 19 = .ok (.ldc 61, 2) := by decide +kernel
theorem d14_21 : decode prog_2_method_2_code 21 = .ok (.invokevirtual 37, 3) := by decide +kernel
theorem d14_24 : decode prog_2_method_2_code 24 = .ok (.aload_n 0, 1) := by decide +kernel
theorem d14_25 : decode prog_2_method_2_code 25 = .ok (.getfield 53, 3) := by decide +kernel
theorem d14_28 : decode prog_2_method_2_code 28 = .ok (.invokevirtual 37, 3) := by decide +kernel
theorem d14_31 : decode prog_2_method_2_code 31 = .ok (.ldc 63, 2) := by decide +kernel
theorem d14_33 : decode prog_2_method_2_code 33 = .ok (.invokevirtual 37, 3) := by decide +kernel
theorem d14_36 : decode prog_2_method_2_code 36 = .ok (.aload_n 0, 1) := by decide +kernel
theorem d14_37 : decode prog_2_method_2_code 37 = .ok (.getfield 55, 3) := by decide +kernel
theorem d14_40 : decode prog_2_method_2_code 40 = .ok (.invokevirtual 41, 3) := by decide +kernel
theorem d14_43 : decode prog_2_method_2_code 43 = .ok (.ldc 65, 2) := by decide +kernel
theorem d14_45 : decode prog_2_method_2_code 45 = .ok (.invokevirtual 37, 3) := by decide +kernel
theorem d14_48 : decode prog_2_method_2_code 48 = .ok (.invokevirtual 44, 3) := by decide +kernel
theorem d14_51 : decode prog_2_method_2_code 51 = .ok (.areturn, 1) := by decide +kernel
theorem c_hash (l : Launch) (Z : State) (a0 : Array Value) (hw : ∀ d ∈ tables_1, d.before a0 Z = true) (hEW : EW Z a0 consts_1) (n0 : Nat) (c1 : Int32) (hc1 : ¬ c1 = 0) (S1 : Sta Z Z.heap "java/lang/String" "COMPACT_STRINGS" "Z" (.int c1)) (t1 t2 : Addr) (kt1 kt2 : ClassId) (SD1 : Sta Z Z.heap "java/lang/Integer" "DigitOnes" "[B" (.ref t1)) (SD2 : Sta Z Z.heap "java/lang/Integer" "DigitTens" "[B" (.ref t2)) (AD1 : Arv Z Z.heap t1 kt1 .byte 100 dOnes (.int 0)) (AD2 : Arv Z Z.heap t2 kt2 .byte 100 dTens (.int 0)) (q x y u v : Addr) (ts bs : List Value) (N : Nat) {h0 : Heap} (o1 : Old Z n0 h0) (ht : ts.length = 1 ∨ ts.length = 2) (hb : bs.length = 1 ∨ bs.length = 2) (hN : N < 2147483648) (Ft : Fld Z h0 q "com/example/rebalance/rebalance/MessageQueue" "topic" "Ljava/lang/String;" (.ref x)) (Fb : Fld Z h0 q "com/example/rebalance/rebalance/MessageQueue" "brokerName" "Ljava/lang/String;" (.ref u)) (Fq : Fld Z h0 q "com/example/rebalance/rebalance/MessageQueue" "queueId" "I" (.int (Int32.ofNat N))) (hT : Str Z h0 x y ts) (hB : Str Z h0 u v bs) :
    Con Z a0 l (⟨"com/example/rebalance/rebalance/MessageQueue", "hashKey", "()Ljava/lang/String;"⟩ : MethodName) prog_2_method_2_code 1 (some (.object "java/lang/String")) ({ frames := 6, cells := 19, slots := 1162, locals := 114 } : Room) [] #[(.ref q)] consts_1 h0 n0 [] [] (VV fun w h so => ∃ s2 n, w = .ref s2 ∧ Str Z h s2 n ([Value.int (77 : Int32), Value.int (101 : Int32), Value.int (115 : Int32), Value.int (115 : Int32), Value.int (97 : Int32), Value.int (103 : Int32), Value.int (101 : Int32), Value.int (81 : Int32), Value.int (117 : Int32), Value.int (101 : Int32), Value.int (117 : Int32), Value.int (101 : Int32), Value.int (32 : Int32), Value.int (91 : Int32), Value.int (116 : Int32), Value.int (111 : Int32), Value.int (112 : Int32), Value.int (105 : Int32), Value.int (99 : Int32), Value.int (61 : Int32)] ++ ts ++ [Value.int (44 : Int32), Value.int (32 : Int32), Value.int (98 : Int32), Value.int (114 : Int32), Value.int (111 : Int32), Value.int (107 : Int32), Value.int (101 : Int32), Value.int (114 : Int32), Value.int (78 : Int32), Value.int (97 : Int32), Value.int (109 : Int32), Value.int (101 : Int32), Value.int (61 : Int32)] ++ bs ++ [Value.int (44 : Int32), Value.int (32 : Int32), Value.int (113 : Int32), Value.int (117 : Int32), Value.int (101 : Int32), Value.int (117 : Int32), Value.int (101 : Int32), Value.int (73 : Int32), Value.int (100 : Int32), Value.int (61 : Int32)] ++ digs N ++ [Value.int (93 : Int32)]) ∧ h0.size ≤ s2 ∧ h0.size ≤ n ∧ so = [n, s2]) := by
  refine Con.body (plainFor_of_name pn_com_example_rebalance_rebalance_MessageQueue) hEW o1 all0 #[.val (.ref q)] (fun m => by first | (simp [entryFrame, mkF, argsToLocals, Value.category]; done) | rfl) ?_
  intro p e s m below meth c B hnm hret hlk G
  obtain ⟨a, h1, G', ga, sa, Ea, Xa, Da, Ua⟩ := G.new 3 (hw _ (mm 77 rfl)) (hw _ (mm 78 rfl)) (hw _ (mm 79 rfl)) d14_0 rfl (nle rfl) (nle rfl)
  replace G := G'; clear G'
  have Fva := Da (Or.inl (hw _ (mm 92 rfl))) (ty := .array .byte) (by decide); have Fca := Da (Or.inl (hw _ (mm 94 rfl))) (ty := .byte) (by decide); have Fna := Da (Or.inl (hw _ (mm 117 rfl))) (ty := .int) (by decide)
  replace G := G.dup 4 d14_3 rfl rfl
  obtain ⟨vIa, h2, soIa, G', KIa, QIa⟩ := G.callI 7 rfl rfl (hw _ (mm 80 rfl)) (hw _ (mm 81 rfl)) (hw _ (mm 79 rfl)) (hw _ (mm 82 rfl)) (by decide) [] [(.ref a)] rfl (c_sbInit l Z a0 hw hEW n0 c1 hc1 S1 a G.old (G.nw (Or.inr sa)) Xa Fva Fca Fna) (lenOf pd___V rfl) d14_4 rfl (nle rfl) (nle rfl) (nle rfl) (nle rfl) (allS (Or.inr sa) all0) (allS (mm 0 rfl) all0) (allS (mm 0 rfl) all0) rfl
  replace G := G'; clear G'
  obtain ⟨qIa, b0, hS, sb0, rfl⟩ := QIa
  replace G := G.nov qIa
  replace sb0 := Nat.le_trans Ea.1 sb0
  have n0q : q ≠ a := ne_new ga Fq.lt; have n0x : x ≠ a := ne_new ga hT.lt; have n0y : y ≠ a := ne_new ga hT.ltb; have n0u : u ≠ a := ne_new ga hB.lt; have n0v : v ≠ a := ne_new ga hB.ltb
  have n1q : q ≠ b0 := (ne_ge Fq.lt sb0).symm; have n1x : x ≠ b0 := (ne_ge hT.lt sb0).symm; have n1y : y ≠ b0 := (ne_ge hT.ltb sb0).symm; have n1u : u ≠ b0 := (ne_ge hB.lt sb0).symm; have n1v : v ≠ b0 := (ne_ge hB.ltb sb0).symm
  replace Ft := (Ft.ext Ea).keep KIa (ninS n0q nin0); replace Fb := (Fb.ext Ea).keep KIa (ninS n0q nin0); replace Fq := (Fq.ext Ea).keep KIa (ninS n0q nin0); replace hT := (hT.ext Ea).keep KIa (ninS n0x nin0) (ninS n0y nin0); replace hB := (hB.ext Ea).keep KIa (ninS n0u nin0) (ninS n0v nin0)
  have hl0 : ([] : List Value).length ≤ 16 := by decide
  have hk0 : 16 ≤ 126 := by decide
  have hdl := nd_le hN
  have hS : Sbd Z h2 a b0 16 [] := hS
  obtain ⟨l59, m59, h3, kkz59, G', Ez59, Xz59, Fcz59, Fvz59, Az59, nez59⟩ := G.ldcS 9 (hw _ (mm 95 rfl)) (wS_of hw) (mm 2 rfl) (vs := [(.int (77 : Int32)), (.int (101 : Int32)), (.int (115 : Int32)), (.int (115 : Int32)), (.int (97 : Int32)), (.int (103 : Int32)), (.int (101 : Int32)), (.int (81 : Int32)), (.int (117 : Int32)), (.int (101 : Int32)), (.int (117 : Int32)), (.int (101 : Int32)), (.int (32 : Int32)), (.int (91 : Int32)), (.int (116 : Int32)), (.int (111 : Int32)), (.int (112 : Int32)), (.int (105 : Int32)), (.int (99 : Int32)), (.int (61 : Int32))]) (z := (20 : Int32)) (by decide) (by decide) rfl d14_7 80 (by decide) (by decide) (nle rfl) (nle rfl) rfl
  replace G := G'; clear G'
  replace Ft := Ft.ext Ez59; replace Fb := Fb.ext Ez59; replace Fq := Fq.ext Ez59; replace hT := hT.ext Ez59; replace hB := hB.ext Ez59; replace hS := hS.ext Ez59
  have hL59 : Str Z h3 l59 m59 [Value.int (77 : Int32), Value.int (101 : Int32), Value.int (115 : Int32), Value.int (115 : Int32), Value.int (97 : Int32), Value.int (103 : Int32), Value.int (101 : Int32), Value.int (81 : Int32), Value.int (117 : Int32), Value.int (101 : Int32), Value.int (117 : Int32), Value.int (101 : Int32), Value.int (32 : Int32), Value.int (91 : Int32), Value.int (116 : Int32), Value.int (111 : Int32), Value.int (112 : Int32), Value.int (105 : Int32), Value.int (99 : Int32), Value.int (61 : Int32)] := ⟨Xz59, Fcz59, Fvz59, kkz59, Az59⟩
  have sz0 := G.sz
  obtain ⟨vp0, h4, sop0, G', Kp0, Qp0⟩ := G.callV 12 (hw _ (mm 96 rfl)) (hw _ (mm 97 rfl)) (nfSel (hw _ (mm 99 rfl))) (hw _ (mm 99 rfl)) (hw _ (mm 98 rfl)) (hw _ (mm 79 rfl)) (hw _ (mm 100 rfl)) hS.1 (by decide) [(.ref l59)] [] rfl (c_appG l Z a0 hw hEW n0 c1 hc1 S1 a b0 l59 m59 16 [] [Value.int (77 : Int32), Value.int (101 : Int32), Value.int (115 : Int32), Value.int (115 : Int32), Value.int (97 : Int32), Value.int (103 : Int32), Value.int (101 : Int32), Value.int (81 : Int32), Value.int (117 : Int32), Value.int (101 : Int32), Value.int (117 : Int32), Value.int (101 : Int32), Value.int (32 : Int32), Value.int (91 : Int32), Value.int (116 : Int32), Value.int (111 : Int32), Value.int (112 : Int32), Value.int (105 : Int32), Value.int (99 : Int32), Value.int (61 : Int32)] G.old (G.nw (Or.inr sa)) (G.nw (Or.inr sb0)) (by simp only [List.length_append, List.length_cons, List.length_nil, digs_len]; omega) hk0 hl0 hS hL59 (nez59 a (mm 1 rfl)).1.symm (nez59 a (mm 1 rfl)).2.symm) (lenOf pd__Ljava_lang_String__Ljava_lang_StringBuilder_ rfl) d14_9 rfl (nle rfl) (nle rfl) (nle rfl) (nle rfl) (allS (Or.inr sa) (allS (Or.inr sb0) all0)) (allS (mm 1 rfl) (allS (mm 0 rfl) all0)) (allS (mm 1 rfl) (allS (mm 0 rfl) all0)) rfl
  replace G := G'; clear G'
  obtain ⟨wp0, qp0, rfl, b1, cp1, hS1, hl1, hk1, hg1, hb1, rfl⟩ := Qp0
  replace G := G.val qp0
  have sb1 : h0.size ≤ b1 := hb1.elim (fun e => e ▸ sb0) (fun r => Nat.le_trans sz0 r)
  have n2q : q ≠ b1 := ne_or n1q Fq.lt hb1; have n2x : x ≠ b1 := ne_or n1x hT.lt hb1; have n2y : y ≠ b1 := ne_or n1y hT.ltb hb1; have n2u : u ≠ b1 := ne_or n1u hB.lt hb1; have n2v : v ≠ b1 := ne_or n1v hB.ltb hb1
  replace Ft := Ft.keep Kp0 (ninS n0q (ninS n1q nin0)); replace Fb := Fb.keep Kp0 (ninS n0q (ninS n1q nin0)); replace Fq := Fq.keep Kp0 (ninS n0q (ninS n1q nin0)); replace hT := hT.keep Kp0 (ninS n0x (ninS n1x nin0)) (ninS n0y (ninS n1y nin0)); replace hB := hB.keep Kp0 (ninS n0u (ninS n1u nin0)) (ninS n0v (ninS n1v nin0))
  rw [List.nil_append] at hS1 hl1
  have ecp1 : cp1 = 34 := by simp only [GC, List.length_append, List.length_cons, List.length_nil, digs_len] at hg1; omega
  replace G := G.aloadN 13 d14_12 rfl rfl rfl |>.getf 16 (host := "") (Or.inl (hw _ (mm 66 rfl))) Via.refl Ft d14_13 rfl
  have sz1 := G.sz
  obtain ⟨vp1, h5, sop1, G', Kp1, Qp1⟩ := G.callV 19 (hw _ (mm 96 rfl)) (hw _ (mm 97 rfl)) (nfSel (hw _ (mm 99 rfl))) (hw _ (mm 99 rfl)) (hw _ (mm 98 rfl)) (hw _ (mm 79 rfl)) (hw _ (mm 100 rfl)) hS1.1 (by decide) [(.ref x)] [] rfl (c_appG l Z a0 hw hEW n0 c1 hc1 S1 a b1 x y cp1 [Value.int (77 : Int32), Value.int (101 : Int32), Value.int (115 : Int32), Value.int (115 : Int32), Value.int (97 : Int32), Value.int (103 : Int32), Value.int (101 : Int32), Value.int (81 : Int32), Value.int (117 : Int32), Value.int (101 : Int32), Value.int (117 : Int32), Value.int (101 : Int32), Value.int (32 : Int32), Value.int (91 : Int32), Value.int (116 : Int32), Value.int (111 : Int32), Value.int (112 : Int32), Value.int (105 : Int32), Value.int (99 : Int32), Value.int (61 : Int32)] ts G.old (G.nw (Or.inr sa)) (G.nw (Or.inr sb1)) (by simp only [List.length_append, List.length_cons, List.length_nil, digs_len]; omega) hk1 hl1 hS1 hT n0x n0y) (lenOf pd__Ljava_lang_String__Ljava_lang_StringBuilder_ rfl) d14_16 rfl (nle rfl) (nle rfl) (nle rfl) (nle rfl) (allS (Or.inr sa) (allS (Or.inr sb1) all0)) (allS (mm 2 rfl) (allS (mm 0 rfl) all0)) (allS (mm 2 rfl) (allS (mm 0 rfl) all0)) rfl
  replace G := G'; clear G'
  obtain ⟨wp1, qp1, rfl, b2, cp2, hS2, hl2, hk2, hg2, hb2, rfl⟩ := Qp1
  replace G := G.val qp1
  have sb2 : h0.size ≤ b2 := hb2.elim (fun e => e ▸ sb1) (fun r => Nat.le_trans sz1 r)
  have n3q : q ≠ b2 := ne_or n2q Fq.lt hb2; have n3x : x ≠ b2 := ne_or n2x hT.lt hb2; have n3y : y ≠ b2 := ne_or n2y hT.ltb hb2; have n3u : u ≠ b2 := ne_or n2u hB.lt hb2; have n3v : v ≠ b2 := ne_or n2v hB.ltb hb2
  replace Ft := Ft.keep Kp1 (ninS n0q (ninS n2q nin0)); replace Fb := Fb.keep Kp1 (ninS n0q (ninS n2q nin0)); replace Fq := Fq.keep Kp1 (ninS n0q (ninS n2q nin0)); replace hT := hT.keep Kp1 (ninS n0x (ninS n2x nin0)) (ninS n0y (ninS n2y nin0)); replace hB := hB.keep Kp1 (ninS n0u (ninS n2u nin0)) (ninS n0v (ninS n2v nin0))
  have ecp2 : cp2 = 34 := by simp only [GC, List.length_append, List.length_cons, List.length_nil, digs_len] at hg2; omega
  obtain ⟨l61, m61, h6, kkz61, G', Ez61, Xz61, Fcz61, Fvz61, Az61, nez61⟩ := G.ldcS 21 (hw _ (mm 166 rfl)) (wS_of hw) (mm 3 rfl) (vs := [(.int (44 : Int32)), (.int (32 : Int32)), (.int (98 : Int32)), (.int (114 : Int32)), (.int (111 : Int32)), (.int (107 : Int32)), (.int (101 : Int32)), (.int (114 : Int32)), (.int (78 : Int32)), (.int (97 : Int32)), (.int (109 : Int32)), (.int (101 : Int32)), (.int (61 : Int32))]) (z := (13 : Int32)) (by decide) (by decide) rfl d14_19 52 (by decide) (by decide) (nle rfl) (nle rfl) rfl
  replace G := G'; clear G'
  replace Ft := Ft.ext Ez61; replace Fb := Fb.ext Ez61; replace Fq := Fq.ext Ez61; replace hT := hT.ext Ez61; replace hB := hB.ext Ez61; replace hS2 := hS2.ext Ez61
  have hL61 : Str Z h6 l61 m61 [Value.int (44 : Int32), Value.int (32 : Int32), Value.int (98 : Int32), Value.int (114 : Int32), Value.int (111 : Int32), Value.int (107 : Int32), Value.int (101 : Int32), Value.int (114 : Int32), Value.int (78 : Int32), Value.int (97 : Int32), Value.int (109 : Int32), Value.int (101 : Int32), Value.int (61 : Int32)] := ⟨Xz61, Fcz61, Fvz61, kkz61, Az61⟩
  have sz2 := G.sz
  obtain ⟨vp2, h7, sop2, G', Kp2, Qp2⟩ := G.callV 24 (hw _ (mm 96 rfl)) (hw _ (mm 97 rfl)) (nfSel (hw _ (mm 99 rfl))) (hw _ (mm 99 rfl)) (hw _ (mm 98 rfl)) (hw _ (mm 79 rfl)) (hw _ (mm 100 rfl)) hS2.1 (by decide) [(.ref l61)] [] rfl (c_appG l Z a0 hw hEW n0 c1 hc1 S1 a b2 l61 m61 cp2 ([Value.int (77 : Int32), Value.int (101 : Int32), Value.int (115 : Int32), Value.int (115 : Int32), Value.int (97 : Int32), Value.int (103 : Int32), Value.int (101 : Int32), Value.int (81 : Int32), Value.int (117 : Int32), Value.int (101 : Int32), Value.int (117 : Int32), Value.int (101 : Int32), Value.int (32 : Int32), Value.int (91 : Int32), Value.int (116 : Int32), Value.int (111 : Int32), Value.int (112 : Int32), Value.int (105 : Int32), Value.int (99 : Int32), Value.int (61 : Int32)] ++ ts) [Value.int (44 : Int32), Value.int (32 : Int32), Value.int (98 : Int32), Value.int (114 : Int32), Value.int (111 : Int32), Value.int (107 : Int32), Value.int (101 : Int32), Value.int (114 : Int32), Value.int (78 : Int32), Value.int (97 : Int32), Value.int (109 : Int32), Value.int (101 : Int32), Value.int (61 : Int32)] G.old (G.nw (Or.inr sa)) (G.nw (Or.inr sb2)) (by simp only [List.length_append, List.length_cons, List.length_nil, digs_len]; omega) hk2 hl2 hS2 hL61 (nez61 a (mm 3 rfl)).1.symm (nez61 a (mm 3 rfl)).2.symm) (lenOf pd__Ljava_lang_String__Ljava_lang_StringBuilder_ rfl) d14_21 rfl (nle rfl) (nle rfl) (nle rfl) (nle rfl) (allS (Or.inr sa) (allS (Or.inr sb2) all0)) (allS (mm 3 rfl) (allS (mm 0 rfl) all0)) (allS (mm 3 rfl) (allS (mm 0 rfl) all0)) rfl
  replace G := G'; clear G'
  obtain ⟨wp2, qp2, rfl, b3, cp3, hS3, hl3, hk3, hg3, hb3, rfl⟩ := Qp2
  replace G := G.val qp2
  have sb3 : h0.size ≤ b3 := hb3.elim (fun e => e ▸ sb2) (fun r => Nat.le_trans sz2 r)
  have n4q : q ≠ b3 := ne_or n3q Fq.lt hb3; have n4x : x ≠ b3 := ne_or n3x hT.lt hb3; have n4y : y ≠ b3 := ne_or n3y hT.ltb hb3; have n4u : u ≠ b3 := ne_or n3u hB.lt hb3; have n4v : v ≠ b3 := ne_or n3v hB.ltb hb3
  replace Ft := Ft.keep Kp2 (ninS n0q (ninS n3q nin0)); replace Fb := Fb.keep Kp2 (ninS n0q (ninS n3q nin0)); replace Fq := Fq.keep Kp2 (ninS n0q (ninS n3q nin0)); replace hT := hT.keep Kp2 (ninS n0x (ninS n3x nin0)) (ninS n0y (ninS n3y nin0)); replace hB := hB.keep Kp2 (ninS n0u (ninS n3u nin0)) (ninS n0v (ninS n3v nin0))
  have ecp3 : (ts.length = 1 ∧ cp3 = 34) ∨ (ts.length = 2 ∧ cp3 = 70) := by simp only [GC, List.length_append, List.length_cons, List.length_nil, digs_len] at hg3; omega
  replace G := G.aloadN 25 d14_24 rfl rfl rfl |>.getf 28 (host := "") (Or.inl (hw _ (mm 68 rfl))) Via.refl Fb d14_25 rfl
  have sz3 := G.sz
  obtain ⟨vp3, h8, sop3, G', Kp3, Qp3⟩ := G.callV 31 (hw _ (mm 96 rfl)) (hw _ (mm 97 rfl)) (nfSel (hw _ (mm 99 rfl))) (hw _ (mm 99 rfl)) (hw _ (mm 98 rfl)) (hw _ (mm 79 rfl)) (hw _ (mm 100 rfl)) hS3.1 (by decide) [(.ref u)] [] rfl (c_appG l Z a0 hw hEW n0 c1 hc1 S1 a b3 u v cp3 (([Value.int (77 : Int32), Value.int (101 : Int32), Value.int (115 : Int32), Value.int (115 : Int32), Value.int (97 : Int32), Value.int (103 : Int32), Value.int (101 : Int32), Value.int (81 : Int32), Value.int (117 : Int32), Value.int (101 : Int32), Value.int (117 : Int32), Value.int (101 : Int32), Value.int (32 : Int32), Value.int (91 : Int32), Value.int (116 : Int32), Value.int (111 : Int32), Value.int (112 : Int32), Value.int (105 : Int32), Value.int (99 : Int32), Value.int (61 : Int32)] ++ ts) ++ [Value.int (44 : Int32), Value.int (32 : Int32), Value.int (98 : Int32), Value.int (114 : Int32), Value.int (111 : Int32), Value.int (107 : Int32), Value.int (101 : Int32), Value.int (114 : Int32), Value.int (78 : Int32), Value.int (97 : Int32), Value.int (109 : Int32), Value.int (101 : Int32), Value.int (61 : Int32)]) bs G.old (G.nw (Or.inr sa)) (G.nw (Or.inr sb3)) (by simp only [List.length_append, List.length_cons, List.length_nil, digs_len]; omega) hk3 hl3 hS3 hB n0u n0v) (lenOf pd__Ljava_lang_String__Ljava_lang_StringBuilder_ rfl) d14_28 rfl (nle rfl) (nle rfl) (nle rfl) (nle rfl) (allS (Or.inr sa) (allS (Or.inr sb3) all0)) (allS (mm 4 rfl) (allS (mm 0 rfl) all0)) (allS (mm 4 rfl) (allS (mm 0 rfl) all0)) rfl
  replace G := G'; clear G'
  obtain ⟨wp3, qp3, rfl, b4, cp4, hS4, hl4, hk4, hg4, hb4, rfl⟩ := Qp3
  replace G := G.val qp3
  have sb4 : h0.size ≤ b4 := hb4.elim (fun e => e ▸ sb3) (fun r => Nat.le_trans sz3 r)
  have n5q : q ≠ b4 := ne_or n4q Fq.lt hb4; have n5x : x ≠ b4 := ne_or n4x hT.lt hb4; have n5y : y ≠ b4 := ne_or n4y hT.ltb hb4; have n5u : u ≠ b4 := ne_or n4u hB.lt hb4; have n5v : v ≠ b4 := ne_or n4v hB.ltb hb4
  replace Ft := Ft.keep Kp3 (ninS n0q (ninS n4q nin0)); replace Fb := Fb.keep Kp3 (ninS n0q (ninS n4q nin0)); replace Fq := Fq.keep Kp3 (ninS n0q (ninS n4q nin0)); replace hT := hT.keep Kp3 (ninS n0x (ninS n4x nin0)) (ninS n0y (ninS n4y nin0)); replace hB := hB.keep Kp3 (ninS n0u (ninS n4u nin0)) (ninS n0v (ninS n4v nin0))
  have ecp4 : cp4 = 70 := by simp only [GC, List.length_append, List.length_cons, List.length_nil, digs_len] at hg4; omega
  obtain ⟨l63, m63, h9, kkz63, G', Ez63, Xz63, Fcz63, Fvz63, Az63, nez63⟩ := G.ldcS 33 (hw _ (mm 167 rfl)) (wS_of hw) (mm 4 rfl) (vs := [(.int (44 : Int32)), (.int (32 : Int32)), (.int (113 : Int32)), (.int (117 : Int32)), (.int (101 : Int32)), (.int (117 : Int32)), (.int (101 : Int32)), (.int (73 : Int32)), (.int (100 : Int32)), (.int (61 : Int32))]) (z := (10 : Int32)) (by decide) (by decide) rfl d14_31 40 (by decide) (by decide) (nle rfl) (nle rfl) rfl
  replace G := G'; clear G'
  replace Ft := Ft.ext Ez63; replace Fb := Fb.ext Ez63; replace Fq := Fq.ext Ez63; replace hT := hT.ext Ez63; replace hB := hB.ext Ez63; replace hS4 := hS4.ext Ez63
  have hL63 : Str Z h9 l63 m63 [Value.int (44 : Int32), Value.int (32 : Int32), Value.int (113 : Int32), Value.int (117 : Int32), Value.int (101 : Int32), Value.int (117 : Int32), Value.int (101 : Int32), Value.int (73 : Int32), Value.int (100 : Int32), Value.int (61 : Int32)] := ⟨Xz63, Fcz63, Fvz63, kkz63, Az63⟩
  have sz4 := G.sz
  obtain ⟨vp4, h10, sop4, G', Kp4, Qp4⟩ := G.callV 36 (hw _ (mm 96 rfl)) (hw _ (mm 97 rfl)) (nfSel (hw _ (mm 99 rfl))) (hw _ (mm 99 rfl)) (hw _ (mm 98 rfl)) (hw _ (mm 79 rfl)) (hw _ (mm 100 rfl)) hS4.1 (by decide) [(.ref l63)] [] rfl (c_appG l Z a0 hw hEW n0 c1 hc1 S1 a b4 l63 m63 cp4 ((([Value.int (77 : Int32), Value.int (101 : Int32), Value.int (115 : Int32), Value.int (115 : Int32), Value.int (97 : Int32), Value.int (103 : Int32), Value.int (101 : Int32), Value.int (81 : Int32), Value.int (117 : Int32), Value.int (101 : Int32), Value.int (117 : Int32), Value.int (101 : Int32), Value.int (32 : Int32), Value.int (91 : Int32), Value.int (116 : Int32), Value.int (111 : Int32), Value.int (112 : Int32), Value.int (105 : Int32), Value.int (99 : Int32), Value.int (61 : Int32)] ++ ts) ++ [Value.int (44 : Int32), Value.int (32 : Int32), Value.int (98 : Int32), Value.int (114 : Int32), Value.int (111 : Int32), Value.int (107 : Int32), Value.int (101 : Int32), Value.int (114 : Int32), Value.int (78 : Int32), Value.int (97 : Int32), Value.int (109 : Int32), Value.int (101 : Int32), Value.int (61 : Int32)]) ++ bs) [Value.int (44 : Int32), Value.int (32 : Int32), Value.int (113 : Int32), Value.int (117 : Int32), Value.int (101 : Int32), Value.int (117 : Int32), Value.int (101 : Int32), Value.int (73 : Int32), Value.int (100 : Int32), Value.int (61 : Int32)] G.old (G.nw (Or.inr sa)) (G.nw (Or.inr sb4)) (by simp only [List.length_append, List.length_cons, List.length_nil, digs_len]; omega) hk4 hl4 hS4 hL63 (nez63 a (mm 5 rfl)).1.symm (nez63 a (mm 5 rfl)).2.symm) (lenOf pd__Ljava_lang_String__Ljava_lang_StringBuilder_ rfl) d14_33 rfl (nle rfl) (nle rfl) (nle rfl) (nle rfl) (allS (Or.inr sa) (allS (Or.inr sb4) all0)) (allS (mm 5 rfl) (allS (mm 0 rfl) all0)) (allS (mm 5 rfl) (allS (mm 0 rfl) all0)) rfl
  replace G := G'; clear G'
  obtain ⟨wp4, qp4, rfl, b5, cp5, hS5, hl5, hk5, hg5, hb5, rfl⟩ := Qp4
  replace G := G.val qp4
  have sb5 : h0.size ≤ b5 := hb5.elim (fun e => e ▸ sb4) (fun r => Nat.le_trans sz4 r)
  have n6q : q ≠ b5 := ne_or n5q Fq.lt hb5; have n6x : x ≠ b5 := ne_or n5x hT.lt hb5; have n6y : y ≠ b5 := ne_or n5y hT.ltb hb5; have n6u : u ≠ b5 := ne_or n5u hB.lt hb5; have n6v : v ≠ b5 := ne_or n5v hB.ltb hb5
  replace Ft := Ft.keep Kp4 (ninS n0q (ninS n5q nin0)); replace Fb := Fb.keep Kp4 (ninS n0q (ninS n5q nin0)); replace Fq := Fq.keep Kp4 (ninS n0q (ninS n5q nin0)); replace hT := hT.keep Kp4 (ninS n0x (ninS n5x nin0)) (ninS n0y (ninS n5y nin0)); replace hB := hB.keep Kp4 (ninS n0u (ninS n5u nin0)) (ninS n0v (ninS n5v nin0))
  have ecp5 : cp5 = 70 := by simp only [GC, List.length_append, List.length_cons, List.length_nil, digs_len] at hg5; omega
  replace G := G.aloadN 37 d14_36 rfl rfl rfl |>.getf 40 (host := "") (Or.inl (hw _ (mm 70 rfl))) Via.refl Fq d14_37 rfl
  have sz5 := G.sz
  obtain ⟨vp5, h11, sop5, G', Kp5, Qp5⟩ := G.callV 43 (hw _ (mm 168 rfl)) (hw _ (mm 169 rfl)) (nfSel (hw _ (mm 171 rfl))) (hw _ (mm 171 rfl)) (hw _ (mm 170 rfl)) (hw _ (mm 79 rfl)) (hw _ (mm 172 rfl)) hS5.1 (by decide) [(.int (Int32.ofNat N))] [] rfl (c_appIG l Z a0 hw hEW n0 c1 hc1 S1 t1 t2 kt1 kt2 SD1 SD2 AD1 AD2 a b5 cp5 (((([Value.int (77 : Int32), Value.int (101 : Int32), Value.int (115 : Int32), Value.int (115 : Int32), Value.int (97 : Int32), Value.int (103 : Int32), Value.int (101 : Int32), Value.int (81 : Int32), Value.int (117 : Int32), Value.int (101 : Int32), Value.int (117 : Int32), Value.int (101 : Int32), Value.int (32 : Int32), Value.int (91 : Int32), Value.int (116 : Int32), Value.int (111 : Int32), Value.int (112 : Int32), Value.int (105 : Int32), Value.int (99 : Int32), Value.int (61 : Int32)] ++ ts) ++ [Value.int (44 : Int32), Value.int (32 : Int32), Value.int (98 : Int32), Value.int (114 : Int32), Value.int (111 : Int32), Value.int (107 : Int32), Value.int (101 : Int32), Value.int (114 : Int32), Value.int (78 : Int32), Value.int (97 : Int32), Value.int (109 : Int32), Value.int (101 : Int32), Value.int (61 : Int32)]) ++ bs) ++ [Value.int (44 : Int32), Value.int (32 : Int32), Value.int (113 : Int32), Value.int (117 : Int32), Value.int (101 : Int32), Value.int (117 : Int32), Value.int (101 : Int32), Value.int (73 : Int32), Value.int (100 : Int32), Value.int (61 : Int32)]) N G.old (G.nw (Or.inr sa)) (G.nw (Or.inr sb5)) hN (by simp only [List.length_append, List.length_cons, List.length_nil, digs_len]; omega) hk5 hl5 hS5) (lenOf pd__I_Ljava_lang_StringBuilder_ rfl) d14_40 rfl (nle rfl) (nle rfl) (nle rfl) (nle rfl) (allS (Or.inr sa) (allS (Or.inr sb5) all0)) (allS (mm 6 rfl) (allS (mm 0 rfl) all0)) (allS (mm 6 rfl) (allS (mm 0 rfl) all0)) rfl
  replace G := G'; clear G'
  obtain ⟨wp5, qp5, rfl, b6, cp6, hS6, hl6, hk6, hg6, hb6, rfl⟩ := Qp5
  replace G := G.val qp5
  have sb6 : h0.size ≤ b6 := hb6.elim (fun e => e ▸ sb5) (fun r => Nat.le_trans sz5 r)
  have n7q : q ≠ b6 := ne_or n6q Fq.lt hb6; have n7x : x ≠ b6 := ne_or n6x hT.lt hb6; have n7y : y ≠ b6 := ne_or n6y hT.ltb hb6; have n7u : u ≠ b6 := ne_or n6u hB.lt hb6; have n7v : v ≠ b6 := ne_or n6v hB.ltb hb6
  replace Ft := Ft.keep Kp5 (ninS n0q (ninS n6q nin0)); replace Fb := Fb.keep Kp5 (ninS n0q (ninS n6q nin0)); replace Fq := Fq.keep Kp5 (ninS n0q (ninS n6q nin0)); replace hT := hT.keep Kp5 (ninS n0x (ninS n6x nin0)) (ninS n0y (ninS n6y nin0)); replace hB := hB.keep Kp5 (ninS n0u (ninS n6u nin0)) (ninS n0v (ninS n6v nin0))
  have ecp6 : cp6 = 70 := by simp only [GC, List.length_append, List.length_cons, List.length_nil, digs_len] at hg6; omega
  obtain ⟨l65, m65, h12, kkz65, G', Ez65, Xz65, Fcz65, Fvz65, Az65, nez65⟩ := G.ldcS 45 (hw _ (mm 190 rfl)) (wS_of hw) (mm 5 rfl) (vs := [(.int (93 : Int32))]) (z := (1 : Int32)) (by decide) (by decide) rfl d14_43 4 (by decide) (by decide) (nle rfl) (nle rfl) rfl
  replace G := G'; clear G'
  replace Ft := Ft.ext Ez65; replace Fb := Fb.ext Ez65; replace Fq := Fq.ext Ez65; replace hT := hT.ext Ez65; replace hB := hB.ext Ez65; replace hS6 := hS6.ext Ez65
  have hL65 : Str Z h12 l65 m65 [Value.int (93 : Int32)] := ⟨Xz65, Fcz65, Fvz65, kkz65, Az65⟩
  have sz6 := G.sz
  obtain ⟨vp6, h13, sop6, G', Kp6, Qp6⟩ := G.callV 48 (hw _ (mm 96 rfl)) (hw _ (mm 97 rfl)) (nfSel (hw _ (mm 99 rfl))) (hw _ (mm 99 rfl)) (hw _ (mm 98 rfl)) (hw _ (mm 79 rfl)) (hw _ (mm 100 rfl)) hS6.1 (by decide) [(.ref l65)] [] rfl (c_appG l Z a0 hw hEW n0 c1 hc1 S1 a b6 l65 m65 cp6 ((((([Value.int (77 : Int32), Value.int (101 : Int32), Value.int (115 : Int32), Value.int (115 : Int32), Value.int (97 : Int32), Value.int (103 : Int32), Value.int (101 : Int32), Value.int (81 : Int32), Value.int (117 : Int32), Value.int (101 : Int32), Value.int (117 : Int32), Value.int (101 : Int32), Value.int (32 : Int32), Value.int (91 : Int32), Value.int (116 : Int32), Value.int (111 : Int32), Value.int (112 : Int32), Value.int (105 : Int32), Value.int (99 : Int32), Value.int (61 : Int32)] ++ ts) ++ [Value.int (44 : Int32), Value.int (32 : Int32), Value.int (98 : Int32), Value.int (114 : Int32), Value.int (111 : Int32), Value.int (107 : Int32), Value.int (101 : Int32), Value.int (114 : Int32), Value.int (78 : Int32), Value.int (97 : Int32), Value.int (109 : Int32), Value.int (101 : Int32), Value.int (61 : Int32)]) ++ bs) ++ [Value.int (44 : Int32), Value.int (32 : Int32), Value.int (113 : Int32), Value.int (117 : Int32), Value.int (101 : Int32), Value.int (117 : Int32), Value.int (101 : Int32), Value.int (73 : Int32), Value.int (100 : Int32), Value.int (61 : Int32)]) ++ digs N) [Value.int (93 : Int32)] G.old (G.nw (Or.inr sa)) (G.nw (Or.inr sb6)) (by simp only [List.length_append, List.length_cons, List.length_nil, digs_len]; omega) hk6 hl6 hS6 hL65 (nez65 a (mm 7 rfl)).1.symm (nez65 a (mm 7 rfl)).2.symm) (lenOf pd__Ljava_lang_String__Ljava_lang_StringBuilder_ rfl) d14_45 rfl (nle rfl) (nle rfl) (nle rfl) (nle rfl) (allS (Or.inr sa) (allS (Or.inr sb6) all0)) (allS (mm 7 rfl) (allS (mm 0 rfl) all0)) (allS (mm 7 rfl) (allS (mm 0 rfl) all0)) rfl
  replace G := G'; clear G'
  obtain ⟨wp6, qp6, rfl, b7, cp7, hS7, hl7, hk7, hg7, hb7, rfl⟩ := Qp6
  replace G := G.val qp6
  have sb7 : h0.size ≤ b7 := hb7.elim (fun e => e ▸ sb6) (fun r => Nat.le_trans sz6 r)
  have n8q : q ≠ b7 := ne_or n7q Fq.lt hb7; have n8x : x ≠ b7 := ne_or n7x hT.lt hb7; have n8y : y ≠ b7 := ne_or n7y hT.ltb hb7; have n8u : u ≠ b7 := ne_or n7u hB.lt hb7; have n8v : v ≠ b7 := ne_or n7v hB.ltb hb7
  replace Ft := Ft.keep Kp6 (ninS n0q (ninS n7q nin0)); replace Fb := Fb.keep Kp6 (ninS n0q (ninS n7q nin0)); replace Fq := Fq.keep Kp6 (ninS n0q (ninS n7q nin0)); replace hT := hT.keep Kp6 (ninS n0x (ninS n7x nin0)) (ninS n0y (ninS n7y nin0)); replace hB := hB.keep Kp6 (ninS n0u (ninS n7u nin0)) (ninS n0v (ninS n7v nin0))
  have ecp7 : cp7 = 70 := by simp only [GC, List.length_append, List.length_cons, List.length_nil, digs_len] at hg7; omega
  have sz := G.sz
  have hlen : ([Value.int (77 : Int32), Value.int (101 : Int32), Value.int (115 : Int32), Value.int (115 : Int32), Value.int (97 : Int32), Value.int (103 : Int32), Value.int (101 : Int32), Value.int (81 : Int32), Value.int (117 : Int32), Value.int (101 : Int32), Value.int (117 : Int32), Value.int (101 : Int32), Value.int (32 : Int32), Value.int (91 : Int32), Value.int (116 : Int32), Value.int (111 : Int32), Value.int (112 : Int32), Value.int (105 : Int32), Value.int (99 : Int32), Value.int (61 : Int32)] ++ ts ++ [Value.int (44 : Int32), Value.int (32 : Int32), Value.int (98 : Int32), Value.int (114 : Int32), Value.int (111 : Int32), Value.int (107 : Int32), Value.int (101 : Int32), Value.int (114 : Int32), Value.int (78 : Int32), Value.int (97 : Int32), Value.int (109 : Int32), Value.int (101 : Int32), Value.int (61 : Int32)] ++ bs ++ [Value.int (44 : Int32), Value.int (32 : Int32), Value.int (113 : Int32), Value.int (117 : Int32), Value.int (101 : Int32), Value.int (117 : Int32), Value.int (101 : Int32), Value.int (73 : Int32), Value.int (100 : Int32), Value.int (61 : Int32)] ++ digs N ++ [Value.int (93 : Int32)]).length = 44 + ts.length + bs.length + nd N := by simp only [List.length_append, List.length_cons, List.length_nil, digs_len]; omega
  obtain ⟨vt, h14, sot, G', Kt, Qt⟩ := G.callV 51 (hw _ (mm 191 rfl)) (hw _ (mm 192 rfl)) (nfSel (hw _ (mm 194 rfl))) (hw _ (mm 194 rfl)) (hw _ (mm 193 rfl)) (hw _ (mm 79 rfl)) (hw _ (mm 195 rfl)) hS7.1 (by decide) [] [] rfl (c_toStr l Z a0 hw hEW n0 c1 hc1 S1 a b7 cp7 ([Value.int (77 : Int32), Value.int (101 : Int32), Value.int (115 : Int32), Value.int (115 : Int32), Value.int (97 : Int32), Value.int (103 : Int32), Value.int (101 : Int32), Value.int (81 : Int32), Value.int (117 : Int32), Value.int (101 : Int32), Value.int (117 : Int32), Value.int (101 : Int32), Value.int (32 : Int32), Value.int (91 : Int32), Value.int (116 : Int32), Value.int (111 : Int32), Value.int (112 : Int32), Value.int (105 : Int32), Value.int (99 : Int32), Value.int (61 : Int32)] ++ ts ++ [Value.int (44 : Int32), Value.int (32 : Int32), Value.int (98 : Int32), Value.int (114 : Int32), Value.int (111 : Int32), Value.int (107 : Int32), Value.int (101 : Int32), Value.int (114 : Int32), Value.int (78 : Int32), Value.int (97 : Int32), Value.int (109 : Int32), Value.int (101 : Int32), Value.int (61 : Int32)] ++ bs ++ [Value.int (44 : Int32), Value.int (32 : Int32), Value.int (113 : Int32), Value.int (117 : Int32), Value.int (101 : Int32), Value.int (117 : Int32), Value.int (101 : Int32), Value.int (73 : Int32), Value.int (100 : Int32), Value.int (61 : Int32)] ++ digs N ++ [Value.int (93 : Int32)]) G.old (by rw [hlen]; omega) (by omega) (by rw [hlen]; omega) hS7) (lenOf pd___Ljava_lang_String_ rfl) d14_48 rfl (nle rfl) (nle rfl) (nle rfl) (nle rfl) all0 all0 all0 rfl
  replace G := G'; clear G'
  obtain ⟨wt, qt, s2, n2, rfl, hR, g1, g2, rfl⟩ := Qt
  replace G := G.val qt
  exact G.retA hret rfl rfl hlk d14_51 [n2, s2] (allS (mm 0 rfl) (allS (mm 1 rfl) all0)) ⟨_, rfl, s2, n2, rfl, hR, Nat.le_trans sz g1, Nat.le_trans sz g2, rfl⟩ (nle rfl) (nle rfl)
theorem c_law (l : Launch) (Z : State) (a0 : Array Value) (hw : ∀ d ∈ tables_1, d.before a0 Z = true) (hEW : EW Z a0 consts_1) (n0 : Nat) (c1 : Int32) (hc1 : ¬ c1 = 0) (S1 : Sta Z Z.heap "java/lang/String" "COMPACT_STRINGS" "Z" (.int c1)) (t1 t2 : Addr) (kt1 kt2 : ClassId) (SD1 : Sta Z Z.heap "java/lang/Integer" "DigitOnes" "[B" (.ref t1)) (SD2 : Sta Z Z.heap "java/lang/Integer" "DigitTens" "[B" (.ref t2)) (AD1 : Arv Z Z.heap t1 kt1 .byte 100 dOnes (.int 0)) (AD2 : Arv Z Z.heap t2 kt2 .byte 100 dTens (.int 0)) (tws : List Jvm.Cond) (i0 i1 i2 : Int32) {h0 : Heap} (o1 : Old Z n0 h0)  :
    Con Z a0 l (⟨"com/example/rebalance/rebalance/MessageQueueHashKeyPinLaw", "law", "(III)Z"⟩ : MethodName) code 19 (some .boolean) room_1 tws #[(.int i0), (.int i1), (.int i2)] consts_1 h0 n0 [] [] (VV fun w h so => w = .int 1 ∧ so = []) := by
  refine Con.body (plainFor_of_name pn_com_example_rebalance_rebalance_MessageQueueHashKeyPinLaw) hEW o1 all0 #[.val (.int i0), .val (.int i1), .val (.int i2), .unset, .unset, .unset, .unset, .unset, .unset, .unset, .unset, .unset, .unset, .unset, .unset, .unset, .unset, .unset, .unset] (fun m => by first | (simp [entryFrame, mkF, argsToLocals, Value.category]; done) | rfl) ?_
  intro p e s m below meth c B hnm hret hlk G
  obtain ⟨x0, hx0, ex0⟩ := m8 i0; obtain ⟨x1, hx1, ex1⟩ := m8 (XT.ushr i0 8); obtain ⟨x2, hx2, ex2⟩ := m8 (XT.ushr i0 16); obtain ⟨x3, hx3, ex3⟩ := m8 (XT.ushr i0 24); obtain ⟨N, hN, eN⟩ := m31 i2; have hdl := nd_le hN
  have tail : ∀ (tl bl : Int32) (ta ba tp tpb br brb ea : Addr) (ke : ClassId) (n : Nat) (pre : List Int32) (ts bs : List Value), h0.size ≤ ea → n = pre.length + nd N + 1 → pre.length ≤ 47 → (∀ x ∈ pre, ¬ (255 : Int32) < x) → (ts.length = 1 ∨ ts.length = 2) → (bs.length = 1 ∨ bs.length = 2) → pre.map bytV = [Value.int (77 : Int32), Value.int (101 : Int32), Value.int (115 : Int32), Value.int (115 : Int32), Value.int (97 : Int32), Value.int (103 : Int32), Value.int (101 : Int32), Value.int (81 : Int32), Value.int (117 : Int32), Value.int (101 : Int32), Value.int (117 : Int32), Value.int (101 : Int32), Value.int (32 : Int32), Value.int (91 : Int32), Value.int (116 : Int32), Value.int (111 : Int32), Value.int (112 : Int32), Value.int (105 : Int32), Value.int (99 : Int32), Value.int (61 : Int32)] ++ ts ++ [Value.int (44 : Int32), Value.int (32 : Int32), Value.int (98 : Int32), Value.int (114 : Int32), Value.int (111 : Int32), Value.int (107 : Int32), Value.int (101 : Int32), Value.int (114 : Int32), Value.int (78 : Int32), Value.int (97 : Int32), Value.int (109 : Int32), Value.int (101 : Int32), Value.int (61 : Int32)] ++ bs ++ [Value.int (44 : Int32), Value.int (32 : Int32), Value.int (113 : Int32), Value.int (117 : Int32), Value.int (101 : Int32), Value.int (117 : Int32), Value.int (101 : Int32), Value.int (73 : Int32), Value.int (100 : Int32), Value.int (61 : Int32)] → tp ≠ ea → tpb ≠ ea → br ≠ ea → brb ≠ ea → ∀ (h : Heap), DF Z h ea ke n (pre ++ dI N 10) tp tpb br brb ts bs → Wl Z a0 "com/example/rebalance/rebalance/MessageQueueHashKeyPinLaw" p l e room_1 s m #[(.int i0), (.int i1), (.int i2)] below meth c code 19 B consts_1 h0 n0 [] [ea] h 16 400 597 #[.val (.int i0), .val (.int i1), .val (.int i2), .val (.int tl), .val (.int bl), .val (.int (Int32.ofNat x0)), .val (.int (Int32.ofNat x1)), .val (.int (Int32.ofNat x2)), .val (.int (Int32.ofNat x3)), .val (.ref ta), .val (.ref ba), .val (.ref tp), .val (.ref br), .val (.int (Int32.ofNat N)), .val (.int (Int32.ofNat (nd N))), .val (.int (Int32.ofNat n)), .val (.ref ea), .val (.int (Int32.ofNat (pre ++ dI N 10).length)), .unset] [] → Fin Z consts_1 p e below B s h0 n0 [] room_1.cells room_1.slots (VV fun w h so => w = .int 1 ∧ so = []) := by
    intro tl bl ta ba tp tpb br brb ea ke n pre ts bs sea hn hpl hp255 hts hbs hpre np1 np2 np3 np4
    have hle : ∀ j, (pre ++ dI N j).length = pre.length + (nd N - j) := fun j => by rw [List.length_append, dI_len]
    have f1 : ∀ (h : Heap), DF Z h ea ke n (pre ++ dI N 1) tp tpb br brb ts bs → Wl Z a0 "com/example/rebalance/rebalance/MessageQueueHashKeyPinLaw" p l e room_1 s m #[(.int i0), (.int i1), (.int i2)] below meth c code 19 B consts_1 h0 n0 [] [ea] h 16 400 793 #[.val (.int i0), .val (.int i1), .val (.int i2), .val (.int tl), .val (.int bl), .val (.int (Int32.ofNat x0)), .val (.int (Int32.ofNat x1)), .val (.int (Int32.ofNat x2)), .val (.int (Int32.ofNat x3)), .val (.ref ta), .val (.ref ba), .val (.ref tp), .val (.ref br), .val (.int (Int32.ofNat N)), .val (.int (Int32.ofNat (nd N))), .val (.int (Int32.ofNat n)), .val (.ref ea), .val (.int (Int32.ofNat (pre ++ dI N 1).length)), .unset] [] → Fin Z consts_1 p e below B s h0 n0 [] room_1.cells room_1.slots (VV fun w h so => w = .int 1 ∧ so = []) := by
      intro h D G
      have hl := hle 1
      replace G := G.aload 795 at_793 rfl rfl rfl |>.iload 797 at_795 rfl rfl |>.iincV 800 #[.val (.int i0), .val (.int i1), .val (.int i2), .val (.int tl), .val (.int bl), .val (.int (Int32.ofNat x0)), .val (.int (Int32.ofNat x1)), .val (.int (Int32.ofNat x2)), .val (.int (Int32.ofNat x3)), .val (.ref ta), .val (.ref ba), .val (.ref tp), .val (.ref br), .val (.int (Int32.ofNat N)), .val (.int (Int32.ofNat (nd N))), .val (.int (Int32.ofNat n)), .val (.ref ea), .val (.int (Int32.ofNat ((pre ++ dI N 1).length + 1))), .unset] (Int32.ofNat ((pre ++ dI N 1).length + 1)) at_797 rfl (ofn_succ _) rfl rfl |>.iload 802 at_800 rfl rfl |>.iconst 803 (1 : Int32) at_802 rfl rfl |>.top (y := (.int (Int32.ofNat (10 ^ 0)))) (rfl)
      obtain ⟨vdg, g_d, sodg, G', Kdg, Qdg⟩ := G.callS 806 (hw _ (mm 38 rfl)) (hw _ (mm 39 rfl)) (hw _ (mm 33 rfl)) (hw _ (mm 40 rfl)) (by decide) [(.int (Int32.ofNat N)), (.int (Int32.ofNat (10 ^ 0)))] [(.int (Int32.ofNat (pre ++ dI N 1).length)), (.ref ea)] rfl (c_digp l Z a0 hw hEW n0 c1 hc1 S1 N 0 G.old hN (by decide)) (lenOf pd__II_C rfl) at_803 rfl (nle rfl) (nle rfl) (nle rfl) (nle rfl) all0 all0 all0 rfl
      replace G := G'; clear G'
      obtain ⟨wdg, qdg, rfl, edg, rfl⟩ := Qdg
      replace G := G.val qdg
      subst edg
      have Ae' := D.pad1
      obtain ⟨g1, G', As, Ks⟩ := G.castore 807 (pre ++ dI N 1).length Ae' ⟨ofn_nn (by omega), ofn_lt (by omega) (by omega)⟩ (ofn_nat (by omega)) (by simp) (Or.inr sea) (mm 0 rfl) at_806 rfl
      replace G := G'; clear G'
      replace D := D.put As Ks np1 np2 np3 np4 (show nar FieldType.char (Int32.ofNat (48 + N / 10 ^ 0 % 10)) = Int32.ofNat (48 + N / 10 ^ 0 % 10) from i2c_n (by omega))
      rw [List.append_assoc, ← dI_more (j := 0) hdl.1] at D
      have hl0 := hle 0
      have e0 : (pre ++ dI N 1).length + 1 = (pre ++ dI N 0).length := by rw [hl, hl0]; omega
      rw [e0] at G
      clear hl; have hl := hl0
      replace G := G.aload 809 at_807 rfl rfl rfl |>.iload 811 at_809 rfl rfl |>.iincV 814 #[.val (.int i0), .val (.int i1), .val (.int i2), .val (.int tl), .val (.int bl), .val (.int (Int32.ofNat x0)), .val (.int (Int32.ofNat x1)), .val (.int (Int32.ofNat x2)), .val (.int (Int32.ofNat x3)), .val (.ref ta), .val (.ref ba), .val (.ref tp), .val (.ref br), .val (.int (Int32.ofNat N)), .val (.int (Int32.ofNat (nd N))), .val (.int (Int32.ofNat n)), .val (.ref ea), .val (.int (Int32.ofNat ((pre ++ dI N 0).length + 1))), .unset] (Int32.ofNat ((pre ++ dI N 0).length + 1)) at_811 rfl (ofn_succ _) rfl rfl |>.bipush 816 (93 : Int32) at_814 (by decide) rfl
      have Ae' := D.pad1
      obtain ⟨g2, G', As, Ks⟩ := G.castore 817 (pre ++ dI N 0).length Ae' ⟨ofn_nn (by omega), ofn_lt (by omega) (by omega)⟩ (ofn_nat (by omega)) (by simp) (Or.inr sea) (mm 0 rfl) at_816 rfl
      replace G := G'; clear G'
      replace D := D.put As Ks np1 np2 np3 np4 (show nar FieldType.char ((93 : Int32)) = (93 : Int32) from rfl)
      obtain ⟨Ae, hT, hB⟩ := D
      obtain ⟨q, g3, G', gq, sq, Eq, Xq, Dq, Uq⟩ := G.new 820 (hw _ (mm 41 rfl)) (hw _ (mm 42 rfl)) (hw _ (mm 43 rfl)) at_817 rfl (nle rfl) (nle rfl)
      replace G := G'; clear G'
      have Ft := Dq (Or.inr (hw _ (mm 67 rfl))) (ty := .object "java/lang/String") (by decide); have Fb := Dq (Or.inr (hw _ (mm 69 rfl))) (ty := .object "java/lang/String") (by decide); have Fq := Dq (Or.inr (hw _ (mm 71 rfl))) (ty := .int) (by decide)
      have q1 : tp ≠ q := ne_new gq hT.lt; have q2 : tpb ≠ q := ne_new gq hT.ltb; have q3 : br ≠ q := ne_new gq hB.lt; have q4 : brb ≠ q := ne_new gq hB.ltb; have q5 : ea ≠ q := ne_new gq Ae.lt; replace hT := hT.ext Eq; replace hB := hB.ext Eq; replace Ae := Ae.ext Eq
      replace G := G.dup 821 at_820 rfl rfl |>.aload 823 at_821 rfl rfl rfl |>.aload 825 at_823 rfl rfl rfl |>.iload 827 at_825 rfl rfl
      obtain ⟨vm1, g4, som1, G', Km1, Qm1⟩ := G.callI 830 rfl rfl (hw _ (mm 44 rfl)) (hw _ (mm 45 rfl)) (hw _ (mm 43 rfl)) (hw _ (mm 46 rfl)) (by decide) [(.ref tp), (.ref br), (.int (Int32.ofNat N))] [(.ref q)] rfl (c_mqI l Z a0 hw hEW n0 c1 hc1 S1 q tp tpb br brb ts bs N G.old (G.nw (Or.inr sq)) (by omega) (by omega) (by omega) (by omega) hN Xq Ft Fb Fq hT hB) (lenOf pd__Ljava_lang_String_Ljava_lang_String_I_V rfl) at_827 rfl (nle rfl) (nle rfl) (nle rfl) (nle rfl) (allS (Or.inr sq) all0) (allS (mm 0 rfl) all0) (allS (mm 0 rfl) all0) rfl
      replace G := G'; clear G'
      obtain ⟨qm1, Xq1, Ft1, Fb1, Fq1, rfl⟩ := Qm1
      replace G := G.nov qm1
      replace hT := hT.keep Km1 (ninS q1 nin0) (ninS q2 nin0); replace hB := hB.keep Km1 (ninS q3 nin0) (ninS q4 nin0); replace Ae := Ae.keep Km1 (ninS q5 nin0)
      obtain ⟨vr, g5, sor, G', Kr, Qr⟩ := G.callV 833 (hw _ (mm 72 rfl)) (hw _ (mm 73 rfl)) (nfSel (hw _ (mm 75 rfl))) (hw _ (mm 75 rfl)) (hw _ (mm 74 rfl)) (hw _ (mm 43 rfl)) (hw _ (mm 76 rfl)) Xq1 (by decide) [] [] rfl (c_hash l Z a0 hw hEW n0 c1 hc1 S1 t1 t2 kt1 kt2 SD1 SD2 AD1 AD2 q tp tpb br brb ts bs N G.old hts hbs hN Ft1 Fb1 Fq1 hT hB) (lenOf pd___Ljava_lang_String_ rfl) at_830 rfl (nle rfl) (nle rfl) (nle rfl) (nle rfl) all0 all0 all0 rfl
      replace G := G'; clear G'
      obtain ⟨wr, qr, ra, rb, rfl, hR, r1, r2, rfl⟩ := Qr
      replace G := G.val qr
      replace Ae := Ae.keep Kr nin0
      replace G := G.astore 835 #[.val (.int i0), .val (.int i1), .val (.int i2), .val (.int tl), .val (.int bl), .val (.int (Int32.ofNat x0)), .val (.int (Int32.ofNat x1)), .val (.int (Int32.ofNat x2)), .val (.int (Int32.ofNat x3)), .val (.ref ta), .val (.ref ba), .val (.ref tp), .val (.ref br), .val (.int (Int32.ofNat N)), .val (.int (Int32.ofNat (nd N))), .val (.int (Int32.ofNat n)), .val (.ref ea), .val (.int (Int32.ofNat ((pre ++ dI N 0).length + 1))), .val (.ref ra)] at_833 rfl rfl rfl |>.aload 837 at_835 rfl rfl rfl
      obtain ⟨sa, g6, G', gsa, ssa, Esa, Xsa, Dsa, Usa⟩ := G.new 840 (hw _ (mm 1 rfl)) (hw _ (mm 2 rfl)) (hw _ (mm 3 rfl)) at_837 rfl (nle rfl) (nle rfl)
      replace G := G'; clear G'
      have Fvs := Dsa (Or.inr (hw _ (mm 29 rfl))) (ty := .array .byte) (by decide); have Fcs := Dsa (Or.inr (hw _ (mm 27 rfl))) (ty := .byte) (by decide)
      have w1 : ra ≠ sa := ne_new gsa hR.lt; have w2 : rb ≠ sa := ne_new gsa hR.ltb; replace hR := hR.ext Esa; replace Ae := Ae.ext Esa
      replace G := G.dup 841 at_840 rfl rfl |>.aload 843 at_841 rfl rfl rfl
      have hcl : (pre ++ dI N 0 ++ [(93 : Int32)]).length = n := by rw [List.length_append, hl, List.length_singleton]; omega
      rw [← hcl] at Ae
      obtain ⟨vcb, g7, socb, G', Kcb, Qcb⟩ := G.callI 846 rfl rfl (hw _ (mm 4 rfl)) (hw _ (mm 5 rfl)) (hw _ (mm 3 rfl)) (hw _ (mm 6 rfl)) (by decide) [(.ref ea)] [(.ref sa), (.ref ra)] rfl (c_strC l Z a0 hw hEW n0 c1 hc1 S1 sa ea ke (pre ++ dI N 0 ++ [(93 : Int32)]) G.old (G.nw (Or.inr ssa)) Xsa Fvs Fcs (by omega) (by omega) (by intro x hx; rcases List.mem_append.mp hx with hx | hx; rcases List.mem_append.mp hx with hx | hx; exact hp255 x hx; exact dI_b x hx; cases List.mem_singleton.mp hx; decide) Ae) (lenOf pd___C_V rfl) at_843 rfl (nle rfl) (nle rfl) (nle rfl) (nle rfl) (allS (Or.inr ssa) all0) (allS (mm 0 rfl) all0) (allS (mm 0 rfl) all0) rfl
      replace G := G'; clear G'
      obtain ⟨qcb, sb, hW, ssb, rfl⟩ := Qcb
      replace G := G.nov qcb
      replace hR := hR.keep Kcb (ninS w1 nin0) (ninS w2 nin0)
      have hkey : (pre ++ dI N 0 ++ [(93 : Int32)]).map bytV = ([Value.int (77 : Int32), Value.int (101 : Int32), Value.int (115 : Int32), Value.int (115 : Int32), Value.int (97 : Int32), Value.int (103 : Int32), Value.int (101 : Int32), Value.int (81 : Int32), Value.int (117 : Int32), Value.int (101 : Int32), Value.int (117 : Int32), Value.int (101 : Int32), Value.int (32 : Int32), Value.int (91 : Int32), Value.int (116 : Int32), Value.int (111 : Int32), Value.int (112 : Int32), Value.int (105 : Int32), Value.int (99 : Int32), Value.int (61 : Int32)] ++ ts ++ [Value.int (44 : Int32), Value.int (32 : Int32), Value.int (98 : Int32), Value.int (114 : Int32), Value.int (111 : Int32), Value.int (107 : Int32), Value.int (101 : Int32), Value.int (114 : Int32), Value.int (78 : Int32), Value.int (97 : Int32), Value.int (109 : Int32), Value.int (101 : Int32), Value.int (61 : Int32)] ++ bs ++ [Value.int (44 : Int32), Value.int (32 : Int32), Value.int (113 : Int32), Value.int (117 : Int32), Value.int (101 : Int32), Value.int (117 : Int32), Value.int (101 : Int32), Value.int (73 : Int32), Value.int (100 : Int32), Value.int (61 : Int32)] ++ digs N ++ [Value.int (93 : Int32)]) := by rw [List.map_append, List.map_append, hpre, dI_digs]; rfl
      rw [← hkey] at hR
      obtain ⟨vqq, g_8, soqq, G', Kqq, Qqq⟩ := G.callV 849 (hw _ (mm 226 rfl)) (hw _ (mm 227 rfl)) (nfSel (hw _ (mm 229 rfl))) (hw _ (mm 229 rfl)) (hw _ (mm 228 rfl)) (hw _ (mm 3 rfl)) (hw _ (mm 230 rfl)) hR.1 (by decide) [(.ref sa)] [] rfl (c_equals l Z a0 hw hEW n0 c1 hc1 S1 ra rb sa sb ((pre ++ dI N 0 ++ [(93 : Int32)]).map bytV) G.old w1 (by rw [List.length_map]; omega) (fun i hi => ⟨_, getD_mapB _ i (by rw [List.length_map] at hi; exact hi)⟩) hR hW) (lenOf pd__Ljava_lang_Object__Z rfl) at_846 rfl (nle rfl) (nle rfl) (nle rfl) (nle rfl) all0 all0 all0 rfl
      replace G := G'; clear G'
      obtain ⟨wqq, qqq, rfl, eqq, rfl⟩ := Qqq
      replace G := G.val qqq
      subst eqq
      exact G.retN hret (Or.inl rfl) hlk at_849 [] all0 ⟨_, rfl, rfl, rfl⟩ (nle rfl) (nle rfl)
    have f2 : ∀ (h : Heap), DF Z h ea ke n (pre ++ dI N 2) tp tpb br brb ts bs → Wl Z a0 "com/example/rebalance/rebalance/MessageQueueHashKeyPinLaw" p l e room_1 s m #[(.int i0), (.int i1), (.int i2)] below meth c code 19 B consts_1 h0 n0 [] [ea] h 16 400 772 #[.val (.int i0), .val (.int i1), .val (.int i2), .val (.int tl), .val (.int bl), .val (.int (Int32.ofNat x0)), .val (.int (Int32.ofNat x1)), .val (.int (Int32.ofNat x2)), .val (.int (Int32.ofNat x3)), .val (.ref ta), .val (.ref ba), .val (.ref tp), .val (.ref br), .val (.int (Int32.ofNat N)), .val (.int (Int32.ofNat (nd N))), .val (.int (Int32.ofNat n)), .val (.ref ea), .val (.int (Int32.ofNat (pre ++ dI N 2).length)), .unset] [] → Fin Z consts_1 p e below B s h0 n0 [] room_1.cells room_1.slots (VV fun w h so => w = .int 1 ∧ so = []) := by
      intro h D G
      have hl := hle 2
      replace G := G.iload 774 at_772 rfl rfl |>.iconst 775 (2 : Int32) at_774 rfl rfl
      rcases Nat.lt_or_ge (nd N) 2 with hj | hj
      · skip
        replace G := G.icmpT 793 at_775 (XT.ii_lt_t (ofn_lt (n := 2) hj (by decide))) (by decide) (by decide)
        rw [← dI_same (j := 1) hj] at D G
        exact f1 _ D G
      · skip
        replace G := G.icmpF 778 at_775 (XT.ii_lt_f (ofn_nlt (n := 2) hj (by omega))) rfl |>.aload 780 at_778 rfl rfl rfl |>.iload 782 at_780 rfl rfl |>.iincV 785 #[.val (.int i0), .val (.int i1), .val (.int i2), .val (.int tl), .val (.int bl), .val (.int (Int32.ofNat x0)), .val (.int (Int32.ofNat x1)), .val (.int (Int32.ofNat x2)), .val (.int (Int32.ofNat x3)), .val (.ref ta), .val (.ref ba), .val (.ref tp), .val (.ref br), .val (.int (Int32.ofNat N)), .val (.int (Int32.ofNat (nd N))), .val (.int (Int32.ofNat n)), .val (.ref ea), .val (.int (Int32.ofNat ((pre ++ dI N 2).length + 1))), .unset] (Int32.ofNat ((pre ++ dI N 2).length + 1)) at_782 rfl (ofn_succ _) rfl rfl |>.iload 787 at_785 rfl rfl |>.bipush 789 (10 : Int32) at_787 (by decide) rfl |>.top (y := (.int (Int32.ofNat (10 ^ 1)))) (rfl)
        obtain ⟨vdg, g_d, sodg, G', Kdg, Qdg⟩ := G.callS 792 (hw _ (mm 38 rfl)) (hw _ (mm 39 rfl)) (hw _ (mm 33 rfl)) (hw _ (mm 40 rfl)) (by decide) [(.int (Int32.ofNat N)), (.int (Int32.ofNat (10 ^ 1)))] [(.int (Int32.ofNat (pre ++ dI N 2).length)), (.ref ea)] rfl (c_digp l Z a0 hw hEW n0 c1 hc1 S1 N 1 G.old hN (by decide)) (lenOf pd__II_C rfl) at_789 rfl (nle rfl) (nle rfl) (nle rfl) (nle rfl) all0 all0 all0 rfl
        replace G := G'; clear G'
        obtain ⟨wdg, qdg, rfl, edg, rfl⟩ := Qdg
        replace G := G.val qdg
        subst edg
        have Ae' := D.pad1
        obtain ⟨g1, G', As, Ks⟩ := G.castore 793 (pre ++ dI N 2).length Ae' ⟨ofn_nn (by omega), ofn_lt (by omega) (by omega)⟩ (ofn_nat (by omega)) (by simp) (Or.inr sea) (mm 0 rfl) at_792 rfl
        replace G := G'; clear G'
        replace D := D.put As Ks np1 np2 np3 np4 (show nar FieldType.char (Int32.ofNat (48 + N / 10 ^ 1 % 10)) = Int32.ofNat (48 + N / 10 ^ 1 % 10) from i2c_n (by omega))
        rw [List.append_assoc, ← dI_more (j := 1) hj] at D
        have e : (pre ++ dI N 2).length + 1 = (pre ++ dI N 1).length := by rw [hl, hle 1]; omega
        rw [e] at G
        exact f1 _ D G
    have f3 : ∀ (h : Heap), DF Z h ea ke n (pre ++ dI N 3) tp tpb br brb ts bs → Wl Z a0 "com/example/rebalance/rebalance/MessageQueueHashKeyPinLaw" p l e room_1 s m #[(.int i0), (.int i1), (.int i2)] below meth c code 19 B consts_1 h0 n0 [] [ea] h 16 400 751 #[.val (.int i0), .val (.int i1), .val (.int i2), .val (.int tl), .val (.int bl), .val (.int (Int32.ofNat x0)), .val (.int (Int32.ofNat x1)), .val (.int (Int32.ofNat x2)), .val (.int (Int32.ofNat x3)), .val (.ref ta), .val (.ref ba), .val (.ref tp), .val (.ref br), .val (.int (Int32.ofNat N)), .val (.int (Int32.ofNat (nd N))), .val (.int (Int32.ofNat n)), .val (.ref ea), .val (.int (Int32.ofNat (pre ++ dI N 3).length)), .unset] [] → Fin Z consts_1 p e below B s h0 n0 [] room_1.cells room_1.slots (VV fun w h so => w = .int 1 ∧ so = []) := by
      intro h D G
      have hl := hle 3
      replace G := G.iload 753 at_751 rfl rfl |>.iconst 754 (3 : Int32) at_753 rfl rfl
      rcases Nat.lt_or_ge (nd N) 3 with hj | hj
      · skip
        replace G := G.icmpT 772 at_754 (XT.ii_lt_t (ofn_lt (n := 3) hj (by decide))) (by decide) (by decide)
        rw [← dI_same (j := 2) hj] at D G
        exact f2 _ D G
      · skip
        replace G := G.icmpF 757 at_754 (XT.ii_lt_f (ofn_nlt (n := 3) hj (by omega))) rfl |>.aload 759 at_757 rfl rfl rfl |>.iload 761 at_759 rfl rfl |>.iincV 764 #[.val (.int i0), .val (.int i1), .val (.int i2), .val (.int tl), .val (.int bl), .val (.int (Int32.ofNat x0)), .val (.int (Int32.ofNat x1)), .val (.int (Int32.ofNat x2)), .val (.int (Int32.ofNat x3)), .val (.ref ta), .val (.ref ba), .val (.ref tp), .val (.ref br), .val (.int (Int32.ofNat N)), .val (.int (Int32.ofNat (nd N))), .val (.int (Int32.ofNat n)), .val (.ref ea), .val (.int (Int32.ofNat ((pre ++ dI N 3).length + 1))), .unset] (Int32.ofNat ((pre ++ dI N 3).length + 1)) at_761 rfl (ofn_succ _) rfl rfl |>.iload 766 at_764 rfl rfl |>.bipush 768 (100 : Int32) at_766 (by decide) rfl |>.top (y := (.int (Int32.ofNat (10 ^ 2)))) (rfl)
        obtain ⟨vdg, g_d, sodg, G', Kdg, Qdg⟩ := G.callS 771 (hw _ (mm 38 rfl)) (hw _ (mm 39 rfl)) (hw _ (mm 33 rfl)) (hw _ (mm 40 rfl)) (by decide) [(.int (Int32.ofNat N)), (.int (Int32.ofNat (10 ^ 2)))] [(.int (Int32.ofNat (pre ++ dI N 3).length)), (.ref ea)] rfl (c_digp l Z a0 hw hEW n0 c1 hc1 S1 N 2 G.old hN (by decide)) (lenOf pd__II_C rfl) at_768 rfl (nle rfl) (nle rfl) (nle rfl) (nle rfl) all0 all0 all0 rfl
        replace G := G'; clear G'
        obtain ⟨wdg, qdg, rfl, edg, rfl⟩ := Qdg
        replace G := G.val qdg
        subst edg
        have Ae' := D.pad1
        obtain ⟨g1, G', As, Ks⟩ := G.castore 772 (pre ++ dI N 3).length Ae' ⟨ofn_nn (by omega), ofn_lt (by omega) (by omega)⟩ (ofn_nat (by omega)) (by simp) (Or.inr sea) (mm 0 rfl) at_771 rfl
        replace G := G'; clear G'
        replace D := D.put As Ks np1 np2 np3 np4 (show nar FieldType.char (Int32.ofNat (48 + N / 10 ^ 2 % 10)) = Int32.ofNat (48 + N / 10 ^ 2 % 10) from i2c_n (by omega))
        rw [List.append_assoc, ← dI_more (j := 2) hj] at D
        have e : (pre ++ dI N 3).length + 1 = (pre ++ dI N 2).length := by rw [hl, hle 2]; omega
        rw [e] at G
        exact f2 _ D G
    have f4 : ∀ (h : Heap), DF Z h ea ke n (pre ++ dI N 4) tp tpb br brb ts bs → Wl Z a0 "com/example/rebalance/rebalance/MessageQueueHashKeyPinLaw" p l e room_1 s m #[(.int i0), (.int i1), (.int i2)] below meth c code 19 B consts_1 h0 n0 [] [ea] h 16 400 729 #[.val (.int i0), .val (.int i1), .val (.int i2), .val (.int tl), .val (.int bl), .val (.int (Int32.ofNat x0)), .val (.int (Int32.ofNat x1)), .val (.int (Int32.ofNat x2)), .val (.int (Int32.ofNat x3)), .val (.ref ta), .val (.ref ba), .val (.ref tp), .val (.ref br), .val (.int (Int32.ofNat N)), .val (.int (Int32.ofNat (nd N))), .val (.int (Int32.ofNat n)), .val (.ref ea), .val (.int (Int32.ofNat (pre ++ dI N 4).length)), .unset] [] → Fin Z consts_1 p e below B s h0 n0 [] room_1.cells room_1.slots (VV fun w h so => w = .int 1 ∧ so = []) := by
      intro h D G
      have hl := hle 4
      replace G := G.iload 731 at_729 rfl rfl |>.iconst 732 (4 : Int32) at_731 rfl rfl
      rcases Nat.lt_or_ge (nd N) 4 with hj | hj
      · skip
        replace G := G.icmpT 751 at_732 (XT.ii_lt_t (ofn_lt (n := 4) hj (by decide))) (by decide) (by decide)
        rw [← dI_same (j := 3) hj] at D G
        exact f3 _ D G
      · skip
        replace G := G.icmpF 735 at_732 (XT.ii_lt_f (ofn_nlt (n := 4) hj (by omega))) rfl |>.aload 737 at_735 rfl rfl rfl |>.iload 739 at_737 rfl rfl |>.iincV 742 #[.val (.int i0), .val (.int i1), .val (.int i2), .val (.int tl), .val (.int bl), .val (.int (Int32.ofNat x0)), .val (.int (Int32.ofNat x1)), .val (.int (Int32.ofNat x2)), .val (.int (Int32.ofNat x3)), .val (.ref ta), .val (.ref ba), .val (.ref tp), .val (.ref br), .val (.int (Int32.ofNat N)), .val (.int (Int32.ofNat (nd N))), .val (.int (Int32.ofNat n)), .val (.ref ea), .val (.int (Int32.ofNat ((pre ++ dI N 4).length + 1))), .unset] (Int32.ofNat ((pre ++ dI N 4).length + 1)) at_739 rfl (ofn_succ _) rfl rfl |>.iload 744 at_742 rfl rfl |>.sipush 747 (1000 : Int32) at_744 (by decide) rfl |>.top (y := (.int (Int32.ofNat (10 ^ 3)))) (rfl)
        obtain ⟨vdg, g_d, sodg, G', Kdg, Qdg⟩ := G.callS 750 (hw _ (mm 38 rfl)) (hw _ (mm 39 rfl)) (hw _ (mm 33 rfl)) (hw _ (mm 40 rfl)) (by decide) [(.int (Int32.ofNat N)), (.int (Int32.ofNat (10 ^ 3)))] [(.int (Int32.ofNat (pre ++ dI N 4).length)), (.ref ea)] rfl (c_digp l Z a0 hw hEW n0 c1 hc1 S1 N 3 G.old hN (by decide)) (lenOf pd__II_C rfl) at_747 rfl (nle rfl) (nle rfl) (nle rfl) (nle rfl) all0 all0 all0 rfl
        replace G := G'; clear G'
        obtain ⟨wdg, qdg, rfl, edg, rfl⟩ := Qdg
        replace G := G.val qdg
        subst edg
        have Ae' := D.pad1
        obtain ⟨g1, G', As, Ks⟩ := G.castore 751 (pre ++ dI N 4).length Ae' ⟨ofn_nn (by omega), ofn_lt (by omega) (by omega)⟩ (ofn_nat (by omega)) (by simp) (Or.inr sea) (mm 0 rfl) at_750 rfl
        replace G := G'; clear G'
        replace D := D.put As Ks np1 np2 np3 np4 (show nar FieldType.char (Int32.ofNat (48 + N / 10 ^ 3 % 10)) = Int32.ofNat (48 + N / 10 ^ 3 % 10) from i2c_n (by omega))
        rw [List.append_assoc, ← dI_more (j := 3) hj] at D
        have e : (pre ++ dI N 4).length + 1 = (pre ++ dI N 3).length := by rw [hl, hle 3]; omega
        rw [e] at G
        exact f3 _ D G
    have f5 : ∀ (h : Heap), DF Z h ea ke n (pre ++ dI N 5) tp tpb br brb ts bs → Wl Z a0 "com/example/rebalance/rebalance/MessageQueueHashKeyPinLaw" p l e room_1 s m #[(.int i0), (.int i1), (.int i2)] below meth c code 19 B consts_1 h0 n0 [] [ea] h 16 400 707 #[.val (.int i0), .val (.int i1), .val (.int i2), .val (.int tl), .val (.int bl), .val (.int (Int32.ofNat x0)), .val (.int (Int32.ofNat x1)), .val (.int (Int32.ofNat x2)), .val (.int (Int32.ofNat x3)), .val (.ref ta), .val (.ref ba), .val (.ref tp), .val (.ref br), .val (.int (Int32.ofNat N)), .val (.int (Int32.ofNat (nd N))), .val (.int (Int32.ofNat n)), .val (.ref ea), .val (.int (Int32.ofNat (pre ++ dI N 5).length)), .unset] [] → Fin Z consts_1 p e below B s h0 n0 [] room_1.cells room_1.slots (VV fun w h so => w = .int 1 ∧ so = []) := by
      intro h D G
      have hl := hle 5
      replace G := G.iload 709 at_707 rfl rfl |>.iconst 710 (5 : Int32) at_709 rfl rfl
      rcases Nat.lt_or_ge (nd N) 5 with hj | hj
      · skip
        replace G := G.icmpT 729 at_710 (XT.ii_lt_t (ofn_lt (n := 5) hj (by decide))) (by decide) (by decide)
        rw [← dI_same (j := 4) hj] at D G
        exact f4 _ D G
      · skip
        replace G := G.icmpF 713 at_710 (XT.ii_lt_f (ofn_nlt (n := 5) hj (by omega))) rfl |>.aload 715 at_713 rfl rfl rfl |>.iload 717 at_715 rfl rfl |>.iincV 720 #[.val (.int i0), .val (.int i1), .val (.int i2), .val (.int tl), .val (.int bl), .val (.int (Int32.ofNat x0)), .val (.int (Int32.ofNat x1)), .val (.int (Int32.ofNat x2)), .val (.int (Int32.ofNat x3)), .val (.ref ta), .val (.ref ba), .val (.ref tp), .val (.ref br), .val (.int (Int32.ofNat N)), .val (.int (Int32.ofNat (nd N))), .val (.int (Int32.ofNat n)), .val (.ref ea), .val (.int (Int32.ofNat ((pre ++ dI N 5).length + 1))), .unset] (Int32.ofNat ((pre ++ dI N 5).length + 1)) at_717 rfl (ofn_succ _) rfl rfl |>.iload 722 at_720 rfl rfl |>.sipush 725 (10000 : Int32) at_722 (by decide) rfl |>.top (y := (.int (Int32.ofNat (10 ^ 4)))) (rfl)
        obtain ⟨vdg, g_d, sodg, G', Kdg, Qdg⟩ := G.callS 728 (hw _ (mm 38 rfl)) (hw _ (mm 39 rfl)) (hw _ (mm 33 rfl)) (hw _ (mm 40 rfl)) (by decide) [(.int (Int32.ofNat N)), (.int (Int32.ofNat (10 ^ 4)))] [(.int (Int32.ofNat (pre ++ dI N 5).length)), (.ref ea)] rfl (c_digp l Z a0 hw hEW n0 c1 hc1 S1 N 4 G.old hN (by decide)) (lenOf pd__II_C rfl) at_725 rfl (nle rfl) (nle rfl) (nle rfl) (nle rfl) all0 all0 all0 rfl
        replace G := G'; clear G'
        obtain ⟨wdg, qdg, rfl, edg, rfl⟩ := Qdg
        replace G := G.val qdg
        subst edg
        have Ae' := D.pad1
        obtain ⟨g1, G', As, Ks⟩ := G.castore 729 (pre ++ dI N 5).length Ae' ⟨ofn_nn (by omega), ofn_lt (by omega) (by omega)⟩ (ofn_nat (by omega)) (by simp) (Or.inr sea) (mm 0 rfl) at_728 rfl
        replace G := G'; clear G'
        replace D := D.put As Ks np1 np2 np3 np4 (show nar FieldType.char (Int32.ofNat (48 + N / 10 ^ 4 % 10)) = Int32.ofNat (48 + N / 10 ^ 4 % 10) from i2c_n (by omega))
        rw [List.append_assoc, ← dI_more (j := 4) hj] at D
        have e : (pre ++ dI N 5).length + 1 = (pre ++ dI N 4).length := by rw [hl, hle 4]; omega
        rw [e] at G
        exact f4 _ D G
    have f6 : ∀ (h : Heap), DF Z h ea ke n (pre ++ dI N 6) tp tpb br brb ts bs → Wl Z a0 "com/example/rebalance/rebalance/MessageQueueHashKeyPinLaw" p l e room_1 s m #[(.int i0), (.int i1), (.int i2)] below meth c code 19 B consts_1 h0 n0 [] [ea] h 16 400 685 #[.val (.int i0), .val (.int i1), .val (.int i2), .val (.int tl), .val (.int bl), .val (.int (Int32.ofNat x0)), .val (.int (Int32.ofNat x1)), .val (.int (Int32.ofNat x2)), .val (.int (Int32.ofNat x3)), .val (.ref ta), .val (.ref ba), .val (.ref tp), .val (.ref br), .val (.int (Int32.ofNat N)), .val (.int (Int32.ofNat (nd N))), .val (.int (Int32.ofNat n)), .val (.ref ea), .val (.int (Int32.ofNat (pre ++ dI N 6).length)), .unset] [] → Fin Z consts_1 p e below B s h0 n0 [] room_1.cells room_1.slots (VV fun w h so => w = .int 1 ∧ so = []) := by
      intro h D G
      have hl := hle 6
      replace G := G.iload 687 at_685 rfl rfl |>.bipush 689 (6 : Int32) at_687 (by decide) rfl
      rcases Nat.lt_or_ge (nd N) 6 with hj | hj
      · skip
        replace G := G.icmpT 707 at_689 (XT.ii_lt_t (ofn_lt (n := 6) hj (by decide))) (by decide) (by decide)
        rw [← dI_same (j := 5) hj] at D G
        exact f5 _ D G
      · skip
        replace G := G.icmpF 692 at_689 (XT.ii_lt_f (ofn_nlt (n := 6) hj (by omega))) rfl |>.aload 694 at_692 rfl rfl rfl |>.iload 696 at_694 rfl rfl |>.iincV 699 #[.val (.int i0), .val (.int i1), .val (.int i2), .val (.int tl), .val (.int bl), .val (.int (Int32.ofNat x0)), .val (.int (Int32.ofNat x1)), .val (.int (Int32.ofNat x2)), .val (.int (Int32.ofNat x3)), .val (.ref ta), .val (.ref ba), .val (.ref tp), .val (.ref br), .val (.int (Int32.ofNat N)), .val (.int (Int32.ofNat (nd N))), .val (.int (Int32.ofNat n)), .val (.ref ea), .val (.int (Int32.ofNat ((pre ++ dI N 6).length + 1))), .unset] (Int32.ofNat ((pre ++ dI N 6).length + 1)) at_696 rfl (ofn_succ _) rfl rfl |>.iload 701 at_699 rfl rfl |>.ldcI 703 (hw _ (mm 237 rfl)) at_701 rfl |>.top (y := (.int (Int32.ofNat (10 ^ 5)))) (rfl)
        obtain ⟨vdg, g_d, sodg, G', Kdg, Qdg⟩ := G.callS 706 (hw _ (mm 38 rfl)) (hw _ (mm 39 rfl)) (hw _ (mm 33 rfl)) (hw _ (mm 40 rfl)) (by decide) [(.int (Int32.ofNat N)), (.int (Int32.ofNat (10 ^ 5)))] [(.int (Int32.ofNat (pre ++ dI N 6).length)), (.ref ea)] rfl (c_digp l Z a0 hw hEW n0 c1 hc1 S1 N 5 G.old hN (by decide)) (lenOf pd__II_C rfl) at_703 rfl (nle rfl) (nle rfl) (nle rfl) (nle rfl) all0 all0 all0 rfl
        replace G := G'; clear G'
        obtain ⟨wdg, qdg, rfl, edg, rfl⟩ := Qdg
        replace G := G.val qdg
        subst edg
        have Ae' := D.pad1
        obtain ⟨g1, G', As, Ks⟩ := G.castore 707 (pre ++ dI N 6).length Ae' ⟨ofn_nn (by omega), ofn_lt (by omega) (by omega)⟩ (ofn_nat (by omega)) (by simp) (Or.inr sea) (mm 0 rfl) at_706 rfl
        replace G := G'; clear G'
        replace D := D.put As Ks np1 np2 np3 np4 (show nar FieldType.char (Int32.ofNat (48 + N / 10 ^ 5 % 10)) = Int32.ofNat (48 + N / 10 ^ 5 % 10) from i2c_n (by omega))
        rw [List.append_assoc, ← dI_more (j := 5) hj] at D
        have e : (pre ++ dI N 6).length + 1 = (pre ++ dI N 5).length := by rw [hl, hle 5]; omega
        rw [e] at G
        exact f5 _ D G
    have f7 : ∀ (h : Heap), DF Z h ea ke n (pre ++ dI N 7) tp tpb br brb ts bs → Wl Z a0 "com/example/rebalance/rebalance/MessageQueueHashKeyPinLaw" p l e room_1 s m #[(.int i0), (.int i1), (.int i2)] below meth c code 19 B consts_1 h0 n0 [] [ea] h 16 400 663 #[.val (.int i0), .val (.int i1), .val (.int i2), .val (.int tl), .val (.int bl), .val (.int (Int32.ofNat x0)), .val (.int (Int32.ofNat x1)), .val (.int (Int32.ofNat x2)), .val (.int (Int32.ofNat x3)), .val (.ref ta), .val (.ref ba), .val (.ref tp), .val (.ref br), .val (.int (Int32.ofNat N)), .val (.int (Int32.ofNat (nd N))), .val (.int (Int32.ofNat n)), .val (.ref ea), .val (.int (Int32.ofNat (pre ++ dI N 7).length)), .unset] [] → Fin Z consts_1 p e below B s h0 n0 [] room_1.cells room_1.slots (VV fun w h so => w = .int 1 ∧ so = []) := by
      intro h D G
      have hl := hle 7
      replace G := G.iload 665 at_663 rfl rfl |>.bipush 667 (7 : Int32) at_665 (by decide) rfl
      rcases Nat.lt_or_ge (nd N) 7 with hj | hj
      · skip
        replace G := G.icmpT 685 at_667 (XT.ii_lt_t (ofn_lt (n := 7) hj (by decide))) (by decide) (by decide)
        rw [← dI_same (j := 6) hj] at D G
        exact f6 _ D G
      · skip
        replace G := G.icmpF 670 at_667 (XT.ii_lt_f (ofn_nlt (n := 7) hj (by omega))) rfl |>.aload 672 at_670 rfl rfl rfl |>.iload 674 at_672 rfl rfl |>.iincV 677 #[.val (.int i0), .val (.int i1), .val (.int i2), .val (.int tl), .val (.int bl), .val (.int (Int32.ofNat x0)), .val (.int (Int32.ofNat x1)), .val (.int (Int32.ofNat x2)), .val (.int (Int32.ofNat x3)), .val (.ref ta), .val (.ref ba), .val (.ref tp), .val (.ref br), .val (.int (Int32.ofNat N)), .val (.int (Int32.ofNat (nd N))), .val (.int (Int32.ofNat n)), .val (.ref ea), .val (.int (Int32.ofNat ((pre ++ dI N 7).length + 1))), .unset] (Int32.ofNat ((pre ++ dI N 7).length + 1)) at_674 rfl (ofn_succ _) rfl rfl |>.iload 679 at_677 rfl rfl |>.ldcI 681 (hw _ (mm 238 rfl)) at_679 rfl |>.top (y := (.int (Int32.ofNat (10 ^ 6)))) (rfl)
        obtain ⟨vdg, g_d, sodg, G', Kdg, Qdg⟩ := G.callS 684 (hw _ (mm 38 rfl)) (hw _ (mm 39 rfl)) (hw _ (mm 33 rfl)) (hw _ (mm 40 rfl)) (by decide) [(.int (Int32.ofNat N)), (.int (Int32.ofNat (10 ^ 6)))] [(.int (Int32.ofNat (pre ++ dI N 7).length)), (.ref ea)] rfl (c_digp l Z a0 hw hEW n0 c1 hc1 S1 N 6 G.old hN (by decide)) (lenOf pd__II_C rfl) at_681 rfl (nle rfl) (nle rfl) (nle rfl) (nle rfl) all0 all0 all0 rfl
        replace G := G'; clear G'
        obtain ⟨wdg, qdg, rfl, edg, rfl⟩ := Qdg
        replace G := G.val qdg
        subst edg
        have Ae' := D.pad1
        obtain ⟨g1, G', As, Ks⟩ := G.castore 685 (pre ++ dI N 7).length Ae' ⟨ofn_nn (by omega), ofn_lt (by omega) (by omega)⟩ (ofn_nat (by omega)) (by simp) (Or.inr sea) (mm 0 rfl) at_684 rfl
        replace G := G'; clear G'
        replace D := D.put As Ks np1 np2 np3 np4 (show nar FieldType.char (Int32.ofNat (48 + N / 10 ^ 6 % 10)) = Int32.ofNat (48 + N / 10 ^ 6 % 10) from i2c_n (by omega))
        rw [List.append_assoc, ← dI_more (j := 6) hj] at D
        have e : (pre ++ dI N 7).length + 1 = (pre ++ dI N 6).length := by rw [hl, hle 6]; omega
        rw [e] at G
        exact f6 _ D G
    have f8 : ∀ (h : Heap), DF Z h ea ke n (pre ++ dI N 8) tp tpb br brb ts bs → Wl Z a0 "com/example/rebalance/rebalance/MessageQueueHashKeyPinLaw" p l e room_1 s m #[(.int i0), (.int i1), (.int i2)] below meth c code 19 B consts_1 h0 n0 [] [ea] h 16 400 641 #[.val (.int i0), .val (.int i1), .val (.int i2), .val (.int tl), .val (.int bl), .val (.int (Int32.ofNat x0)), .val (.int (Int32.ofNat x1)), .val (.int (Int32.ofNat x2)), .val (.int (Int32.ofNat x3)), .val (.ref ta), .val (.ref ba), .val (.ref tp), .val (.ref br), .val (.int (Int32.ofNat N)), .val (.int (Int32.ofNat (nd N))), .val (.int (Int32.ofNat n)), .val (.ref ea), .val (.int (Int32.ofNat (pre ++ dI N 8).length)), .unset] [] → Fin Z consts_1 p e below B s h0 n0 [] room_1.cells room_1.slots (VV fun w h so => w = .int 1 ∧ so = []) := by
      intro h D G
      have hl := hle 8
      replace G := G.iload 643 at_641 rfl rfl |>.bipush 645 (8 : Int32) at_643 (by decide) rfl
      rcases Nat.lt_or_ge (nd N) 8 with hj | hj
      · skip
        replace G := G.icmpT 663 at_645 (XT.ii_lt_t (ofn_lt (n := 8) hj (by decide))) (by decide) (by decide)
        rw [← dI_same (j := 7) hj] at D G
        exact f7 _ D G
      · skip
        replace G := G.icmpF 648 at_645 (XT.ii_lt_f (ofn_nlt (n := 8) hj (by omega))) rfl |>.aload 650 at_648 rfl rfl rfl |>.iload 652 at_650 rfl rfl |>.iincV 655 #[.val (.int i0), .val (.int i1), .val (.int i2), .val (.int tl), .val (.int bl), .val (.int (Int32.ofNat x0)), .val (.int (Int32.ofNat x1)), .val (.int (Int32.ofNat x2)), .val (.int (Int32.ofNat x3)), .val (.ref ta), .val (.ref ba), .val (.ref tp), .val (.ref br), .val (.int (Int32.ofNat N)), .val (.int (Int32.ofNat (nd N))), .val (.int (Int32.ofNat n)), .val (.ref ea), .val (.int (Int32.ofNat ((pre ++ dI N 8).length + 1))), .unset] (Int32.ofNat ((pre ++ dI N 8).length + 1)) at_652 rfl (ofn_succ _) rfl rfl |>.iload 657 at_655 rfl rfl |>.ldcI 659 (hw _ (mm 239 rfl)) at_657 rfl |>.top (y := (.int (Int32.ofNat (10 ^ 7)))) (rfl)
        obtain ⟨vdg, g_d, sodg, G', Kdg, Qdg⟩ := G.callS 662 (hw _ (mm 38 rfl)) (hw _ (mm 39 rfl)) (hw _ (mm 33 rfl)) (hw _ (mm 40 rfl)) (by decide) [(.int (Int32.ofNat N)), (.int (Int32.ofNat (10 ^ 7)))] [(.int (Int32.ofNat (pre ++ dI N 8).length)), (.ref ea)] rfl (c_digp l Z a0 hw hEW n0 c1 hc1 S1 N 7 G.old hN (by decide)) (lenOf pd__II_C rfl) at_659 rfl (nle rfl) (nle rfl) (nle rfl) (nle rfl) all0 all0 all0 rfl
        replace G := G'; clear G'
        obtain ⟨wdg, qdg, rfl, edg, rfl⟩ := Qdg
        replace G := G.val qdg
        subst edg
        have Ae' := D.pad1
        obtain ⟨g1, G', As, Ks⟩ := G.castore 663 (pre ++ dI N 8).length Ae' ⟨ofn_nn (by omega), ofn_lt (by omega) (by omega)⟩ (ofn_nat (by omega)) (by simp) (Or.inr sea) (mm 0 rfl) at_662 rfl
        replace G := G'; clear G'
        replace D := D.put As Ks np1 np2 np3 np4 (show nar FieldType.char (Int32.ofNat (48 + N / 10 ^ 7 % 10)) = Int32.ofNat (48 + N / 10 ^ 7 % 10) from i2c_n (by omega))
        rw [List.append_assoc, ← dI_more (j := 7) hj] at D
        have e : (pre ++ dI N 8).length + 1 = (pre ++ dI N 7).length := by rw [hl, hle 7]; omega
        rw [e] at G
        exact f7 _ D G
    have f9 : ∀ (h : Heap), DF Z h ea ke n (pre ++ dI N 9) tp tpb br brb ts bs → Wl Z a0 "com/example/rebalance/rebalance/MessageQueueHashKeyPinLaw" p l e room_1 s m #[(.int i0), (.int i1), (.int i2)] below meth c code 19 B consts_1 h0 n0 [] [ea] h 16 400 619 #[.val (.int i0), .val (.int i1), .val (.int i2), .val (.int tl), .val (.int bl), .val (.int (Int32.ofNat x0)), .val (.int (Int32.ofNat x1)), .val (.int (Int32.ofNat x2)), .val (.int (Int32.ofNat x3)), .val (.ref ta), .val (.ref ba), .val (.ref tp), .val (.ref br), .val (.int (Int32.ofNat N)), .val (.int (Int32.ofNat (nd N))), .val (.int (Int32.ofNat n)), .val (.ref ea), .val (.int (Int32.ofNat (pre ++ dI N 9).length)), .unset] [] → Fin Z consts_1 p e below B s h0 n0 [] room_1.cells room_1.slots (VV fun w h so => w = .int 1 ∧ so = []) := by
      intro h D G
      have hl := hle 9
      replace G := G.iload 621 at_619 rfl rfl |>.bipush 623 (9 : Int32) at_621 (by decide) rfl
      rcases Nat.lt_or_ge (nd N) 9 with hj | hj
      · skip
        replace G := G.icmpT 641 at_623 (XT.ii_lt_t (ofn_lt (n := 9) hj (by decide))) (by decide) (by decide)
        rw [← dI_same (j := 8) hj] at D G
        exact f8 _ D G
      · skip
        replace G := G.icmpF 626 at_623 (XT.ii_lt_f (ofn_nlt (n := 9) hj (by omega))) rfl |>.aload 628 at_626 rfl rfl rfl |>.iload 630 at_628 rfl rfl |>.iincV 633 #[.val (.int i0), .val (.int i1), .val (.int i2), .val (.int tl), .val (.int bl), .val (.int (Int32.ofNat x0)), .val (.int (Int32.ofNat x1)), .val (.int (Int32.ofNat x2)), .val (.int (Int32.ofNat x3)), .val (.ref ta), .val (.ref ba), .val (.ref tp), .val (.ref br), .val (.int (Int32.ofNat N)), .val (.int (Int32.ofNat (nd N))), .val (.int (Int32.ofNat n)), .val (.ref ea), .val (.int (Int32.ofNat ((pre ++ dI N 9).length + 1))), .unset] (Int32.ofNat ((pre ++ dI N 9).length + 1)) at_630 rfl (ofn_succ _) rfl rfl |>.iload 635 at_633 rfl rfl |>.ldcI 637 (hw _ (mm 240 rfl)) at_635 rfl |>.top (y := (.int (Int32.ofNat (10 ^ 8)))) (rfl)
        obtain ⟨vdg, g_d, sodg, G', Kdg, Qdg⟩ := G.callS 640 (hw _ (mm 38 rfl)) (hw _ (mm 39 rfl)) (hw _ (mm 33 rfl)) (hw _ (mm 40 rfl)) (by decide) [(.int (Int32.ofNat N)), (.int (Int32.ofNat (10 ^ 8)))] [(.int (Int32.ofNat (pre ++ dI N 9).length)), (.ref ea)] rfl (c_digp l Z a0 hw hEW n0 c1 hc1 S1 N 8 G.old hN (by decide)) (lenOf pd__II_C rfl) at_637 rfl (nle rfl) (nle rfl) (nle rfl) (nle rfl) all0 all0 all0 rfl
        replace G := G'; clear G'
        obtain ⟨wdg, qdg, rfl, edg, rfl⟩ := Qdg
        replace G := G.val qdg
        subst edg
        have Ae' := D.pad1
        obtain ⟨g1, G', As, Ks⟩ := G.castore 641 (pre ++ dI N 9).length Ae' ⟨ofn_nn (by omega), ofn_lt (by omega) (by omega)⟩ (ofn_nat (by omega)) (by simp) (Or.inr sea) (mm 0 rfl) at_640 rfl
        replace G := G'; clear G'
        replace D := D.put As Ks np1 np2 np3 np4 (show nar FieldType.char (Int32.ofNat (48 + N / 10 ^ 8 % 10)) = Int32.ofNat (48 + N / 10 ^ 8 % 10) from i2c_n (by omega))
        rw [List.append_assoc, ← dI_more (j := 8) hj] at D
        have e : (pre ++ dI N 9).length + 1 = (pre ++ dI N 8).length := by rw [hl, hle 8]; omega
        rw [e] at G
        exact f8 _ D G
    intro h D G
    have hl := hle 10
    replace G := G.iload 599 at_597 rfl rfl |>.bipush 601 (10 : Int32) at_599 (by decide) rfl
    rcases Nat.lt_or_ge (nd N) 10 with hj | hj
    · skip
      replace G := G.icmpT 619 at_601 (XT.ii_lt_t (ofn_lt (n := 10) hj (by decide))) (by decide) (by decide)
      rw [← dI_same (j := 9) hj] at D G
      exact f9 _ D G
    · skip
      replace G := G.icmpF 604 at_601 (XT.ii_lt_f (ofn_nlt (n := 10) hj (by omega))) rfl |>.aload 606 at_604 rfl rfl rfl |>.iload 608 at_606 rfl rfl |>.iincV 611 #[.val (.int i0), .val (.int i1), .val (.int i2), .val (.int tl), .val (.int bl), .val (.int (Int32.ofNat x0)), .val (.int (Int32.ofNat x1)), .val (.int (Int32.ofNat x2)), .val (.int (Int32.ofNat x3)), .val (.ref ta), .val (.ref ba), .val (.ref tp), .val (.ref br), .val (.int (Int32.ofNat N)), .val (.int (Int32.ofNat (nd N))), .val (.int (Int32.ofNat n)), .val (.ref ea), .val (.int (Int32.ofNat ((pre ++ dI N 10).length + 1))), .unset] (Int32.ofNat ((pre ++ dI N 10).length + 1)) at_608 rfl (ofn_succ _) rfl rfl |>.iload 613 at_611 rfl rfl |>.ldcI 615 (hw _ (mm 241 rfl)) at_613 rfl |>.top (y := (.int (Int32.ofNat (10 ^ 9)))) (rfl)
      obtain ⟨vdg, g_d, sodg, G', Kdg, Qdg⟩ := G.callS 618 (hw _ (mm 38 rfl)) (hw _ (mm 39 rfl)) (hw _ (mm 33 rfl)) (hw _ (mm 40 rfl)) (by decide) [(.int (Int32.ofNat N)), (.int (Int32.ofNat (10 ^ 9)))] [(.int (Int32.ofNat (pre ++ dI N 10).length)), (.ref ea)] rfl (c_digp l Z a0 hw hEW n0 c1 hc1 S1 N 9 G.old hN (by decide)) (lenOf pd__II_C rfl) at_615 rfl (nle rfl) (nle rfl) (nle rfl) (nle rfl) all0 all0 all0 rfl
      replace G := G'; clear G'
      obtain ⟨wdg, qdg, rfl, edg, rfl⟩ := Qdg
      replace G := G.val qdg
      subst edg
      have Ae' := D.pad1
      obtain ⟨g1, G', As, Ks⟩ := G.castore 619 (pre ++ dI N 10).length Ae' ⟨ofn_nn (by omega), ofn_lt (by omega) (by omega)⟩ (ofn_nat (by omega)) (by simp) (Or.inr sea) (mm 0 rfl) at_618 rfl
      replace G := G'; clear G'
      replace D := D.put As Ks np1 np2 np3 np4 (show nar FieldType.char (Int32.ofNat (48 + N / 10 ^ 9 % 10)) = Int32.ofNat (48 + N / 10 ^ 9 % 10) from i2c_n (by omega))
      rw [List.append_assoc, ← dI_more (j := 9) hj] at D
      have e : (pre ++ dI N 10).length + 1 = (pre ++ dI N 9).length := by rw [hl, hle 9]; omega
      rw [e] at G
      exact f9 _ D G
  have and1 : ∀ x : Int32, (1 : Int32) + (x &&& 1) = 1 ∨ (1 : Int32) + (x &&& 1) = 2 := fun x => (and_one x).elim (fun e => Or.inl (by rw [e]; rfl)) (fun e => Or.inr (by rw [e]; rfl))
  replace G := G.iconst 1 (1 : Int32) at_0 rfl rfl |>.iloadN 2 at_1 rfl rfl |>.iconst 3 (1 : Int32) at_2 rfl rfl |>.iand 4 at_3 rfl |>.iadd 5 at_4 rfl
  obtain ⟨tl, etl, G'⟩ := G.nameI
  replace G := G'; clear G'
  have htl : tl = 1 ∨ tl = 2 := etl ▸ and1 i1
  clear etl
  replace G := G.istoreN 6 #[.val (.int i0), .val (.int i1), .val (.int i2), .val (.int tl), .unset, .unset, .unset, .unset, .unset, .unset, .unset, .unset, .unset, .unset, .unset, .unset, .unset, .unset, .unset] at_5 rfl rfl |>.iconst 7 (1 : Int32) at_6 rfl rfl |>.iloadN 8 at_7 rfl rfl |>.iconst 9 (1 : Int32) at_8 rfl rfl |>.iushr 10 at_9 rfl |>.iconst 11 (1 : Int32) at_10 rfl rfl |>.iand 12 at_11 rfl |>.iadd 13 at_12 rfl
  obtain ⟨bl, ebl, G'⟩ := G.nameI
  replace G := G'; clear G'
  have hbl : bl = 1 ∨ bl = 2 := ebl ▸ and1 _
  clear ebl
  replace G := G.istore 15 #[.val (.int i0), .val (.int i1), .val (.int i2), .val (.int tl), .val (.int bl), .unset, .unset, .unset, .unset, .unset, .unset, .unset, .unset, .unset, .unset, .unset, .unset, .unset, .unset] at_13 rfl rfl |>.iloadN 16 at_15 rfl rfl |>.sipush 19 (255 : Int32) at_16 (by decide) rfl |>.iand 20 at_19 rfl |>.top (y := (.int (Int32.ofNat x0))) (congrArg Value.int ex0) |>.i2c 21 at_20 rfl |>.top (y := (.int (Int32.ofNat x0))) (congrArg Value.int (i2c_n hx0)) |>.istore 23 #[.val (.int i0), .val (.int i1), .val (.int i2), .val (.int tl), .val (.int bl), .val (.int (Int32.ofNat x0)), .unset, .unset, .unset, .unset, .unset, .unset, .unset, .unset, .unset, .unset, .unset, .unset, .unset] at_21 rfl rfl
  replace G := G.iloadN 24 at_23 rfl rfl |>.bipush 26 (8 : Int32) at_24 (by decide) rfl |>.iushr 27 at_26 rfl |>.sipush 30 (255 : Int32) at_27 (by decide) rfl |>.iand 31 at_30 rfl |>.top (y := (.int (Int32.ofNat x1))) (congrArg Value.int ex1) |>.i2c 32 at_31 rfl |>.top (y := (.int (Int32.ofNat x1))) (congrArg Value.int (i2c_n hx1))
  replace G := G.istore 34 #[.val (.int i0), .val (.int i1), .val (.int i2), .val (.int tl), .val (.int bl), .val (.int (Int32.ofNat x0)), .val (.int (Int32.ofNat x1)), .unset, .unset, .unset, .unset, .unset, .unset, .unset, .unset, .unset, .unset, .unset, .unset] at_32 rfl rfl |>.iloadN 35 at_34 rfl rfl |>.bipush 37 (16 : Int32) at_35 (by decide) rfl |>.iushr 38 at_37 rfl |>.sipush 41 (255 : Int32) at_38 (by decide) rfl |>.iand 42 at_41 rfl |>.top (y := (.int (Int32.ofNat x2))) (congrArg Value.int ex2) |>.i2c 43 at_42 rfl
  replace G := G.top (y := (.int (Int32.ofNat x2))) (congrArg Value.int (i2c_n hx2)) |>.istore 45 #[.val (.int i0), .val (.int i1), .val (.int i2), .val (.int tl), .val (.int bl), .val (.int (Int32.ofNat x0)), .val (.int (Int32.ofNat x1)), .val (.int (Int32.ofNat x2)), .unset, .unset, .unset, .unset, .unset, .unset, .unset, .unset, .unset, .unset, .unset] at_43 rfl rfl |>.iloadN 46 at_45 rfl rfl |>.bipush 48 (24 : Int32) at_46 (by decide) rfl |>.iushr 49 at_48 rfl |>.sipush 52 (255 : Int32) at_49 (by decide) rfl |>.iand 53 at_52 rfl |>.top (y := (.int (Int32.ofNat x3))) (congrArg Value.int ex3)
  replace G := G.i2c 54 at_53 rfl |>.top (y := (.int (Int32.ofNat x3))) (congrArg Value.int (i2c_n hx3)) |>.istore 56 #[.val (.int i0), .val (.int i1), .val (.int i2), .val (.int tl), .val (.int bl), .val (.int (Int32.ofNat x0)), .val (.int (Int32.ofNat x1)), .val (.int (Int32.ofNat x2)), .val (.int (Int32.ofNat x3)), .unset, .unset, .unset, .unset, .unset, .unset, .unset, .unset, .unset, .unset] at_54 rfl rfl |>.iloadN 57 at_56 rfl rfl |>.iconst 58 (1 : Int32) at_57 rfl rfl
  rcases htl with rfl | rfl <;> rcases hbl with rfl | rfl
  · skip
    replace G := G.icmpF 61 at_58 (XT.ii_ne_f rfl) rfl |>.iconst 62 (1 : Int32) at_61 rfl rfl
    obtain ⟨ta, g0, kta, G', gta, sta, Eta, Ata⟩ := G.newarray 64 (hw _ (mm 0 rfl)) at_62 (by decide) 2 (nle rfl) (by decide) rfl (nle rfl) (nle rfl)
    replace G := G'; clear G'
    have Ata0 : Arv Z g0 ta kta .char 1 [(.int 0)] (.int 0) := Ata.pad (pad_rep [] (.int 0) 1)
    replace G := G.goto 70 at_64 (by decide) (by decide) |>.astore 72 #[.val (.int i0), .val (.int i1), .val (.int i2), .val (.int (1 : Int32)), .val (.int (1 : Int32)), .val (.int (Int32.ofNat x0)), .val (.int (Int32.ofNat x1)), .val (.int (Int32.ofNat x2)), .val (.int (Int32.ofNat x3)), .val (.ref ta), .unset, .unset, .unset, .unset, .unset, .unset, .unset, .unset, .unset] at_70 rfl rfl rfl |>.aload 74 at_72 rfl rfl rfl |>.iconst 75 (0 : Int32) at_74 rfl rfl |>.iload 77 at_75 rfl rfl
    obtain ⟨g1, G', As, Ks⟩ := G.castore 78 0 Ata0 (by decide) rfl (nle rfl) (Or.inr sta) (mm 0 rfl) at_77 rfl
    replace G := G'; clear G'
    replace Ata0 : Arv Z g1 ta kta .char 1 [(.int (Int32.ofNat x0))] (.int 0) := by have h := As; rw [show nar FieldType.char (Int32.ofNat x0) = Int32.ofNat x0 from i2c_n hx0] at h; exact h
    replace G := G.iloadN 79 at_78 rfl rfl |>.iconst 80 (2 : Int32) at_79 rfl rfl |>.icmpT 89 at_80 (XT.ii_ne_t (by decide)) (by decide) (by decide) |>.iload 91 at_89 rfl rfl |>.iconst 92 (1 : Int32) at_91 rfl rfl
    skip
    have lta := Ata0.lt
    replace G := G.icmpF 95 at_92 (XT.ii_ne_f rfl) rfl |>.iconst 96 (1 : Int32) at_95 rfl rfl
    obtain ⟨ba, k0, kba, G', gba, sba, Eba, Aba⟩ := G.newarray 98 (hw _ (mm 0 rfl)) at_96 (by decide) 2 (nle rfl) (by decide) rfl (nle rfl) (nle rfl)
    replace G := G'; clear G'
    have nba : ta ≠ ba := ne_new gba lta
    replace Ata0 := Ata0.ext Eba
    have Aba0 : Arv Z k0 ba kba .char 1 [(.int 0)] (.int 0) := Aba.pad (pad_rep [] (.int 0) 1)
    replace G := G.goto 104 at_98 (by decide) (by decide) |>.astore 106 #[.val (.int i0), .val (.int i1), .val (.int i2), .val (.int (1 : Int32)), .val (.int (1 : Int32)), .val (.int (Int32.ofNat x0)), .val (.int (Int32.ofNat x1)), .val (.int (Int32.ofNat x2)), .val (.int (Int32.ofNat x3)), .val (.ref ta), .val (.ref ba), .unset, .unset, .unset, .unset, .unset, .unset, .unset, .unset] at_104 rfl rfl rfl |>.aload 108 at_106 rfl rfl rfl |>.iconst 109 (0 : Int32) at_108 rfl rfl |>.iload 111 at_109 rfl rfl
    obtain ⟨k1, G', As, Ks⟩ := G.castore 112 0 Aba0 (by decide) rfl (nle rfl) (Or.inr sba) (mm 0 rfl) at_111 rfl
    replace G := G'; clear G'
    replace Aba0 : Arv Z k1 ba kba .char 1 [(.int (Int32.ofNat x2))] (.int 0) := by have h := As; rw [show nar FieldType.char (Int32.ofNat x2) = Int32.ofNat x2 from i2c_n hx2] at h; exact h
    replace Ata0 := Ata0.keep Ks (ninS nba nin0)
    replace G := G.iload 114 at_112 rfl rfl |>.iconst 115 (2 : Int32) at_114 rfl rfl |>.icmpT 124 at_115 (XT.ii_ne_t (by decide)) (by decide) (by decide)
    have nta := Ata0.lt
    obtain ⟨tp, e1, G', gtp, stp, Etp, Xtp, Dtp, Utp⟩ := G.new 127 (hw _ (mm 1 rfl)) (hw _ (mm 2 rfl)) (hw _ (mm 3 rfl)) at_124 rfl (nle rfl) (nle rfl)
    replace G := G'; clear G'
    have Fvtp := Dtp (Or.inr (hw _ (mm 29 rfl))) (ty := .array .byte) (by decide); have Fctp := Dtp (Or.inr (hw _ (mm 27 rfl))) (ty := .byte) (by decide)
    replace Ata0 := Ata0.ext Etp; replace Aba0 := Aba0.ext Etp
    replace G := G.dup 128 at_127 rfl rfl |>.aload 130 at_128 rfl rfl rfl
    obtain ⟨vT, e2, soT, G', KT, QT⟩ := G.callI 133 rfl rfl (hw _ (mm 4 rfl)) (hw _ (mm 5 rfl)) (hw _ (mm 3 rfl)) (hw _ (mm 6 rfl)) (by decide) [(.ref ta)] [(.ref tp)] rfl (c_strC l Z a0 hw hEW n0 c1 hc1 S1 tp ta kta [Int32.ofNat x0] G.old (G.nw (Or.inr stp)) Xtp Fvtp Fctp (nle rfl) (nle rfl) (by intro x hx; simp only [List.mem_cons, List.not_mem_nil, or_false] at hx; rcases hx with rfl <;> first | exact c255 hx0 | exact c255 hx0) Ata0) (lenOf pd___C_V rfl) at_130 rfl (nle rfl) (nle rfl) (nle rfl) (nle rfl) (allS (Or.inr stp) all0) (allS (mm 0 rfl) all0) (allS (mm 0 rfl) all0) rfl
    replace G := G'; clear G'
    obtain ⟨qT, tpb, hT, stpb, rfl⟩ := QT
    replace G := G.nov qT
    replace hT : Str Z e2 tp tpb [bytV (Int32.ofNat x0)] := hT
    skip
    replace Aba0 := Aba0.keep KT (ninS (fun q => ne_arr Xtp (hw _ (mm 2 rfl)) Aba0.choose_spec.1 q.symm) nin0)
    replace G := G.astore 135 #[.val (.int i0), .val (.int i1), .val (.int i2), .val (.int (1 : Int32)), .val (.int (1 : Int32)), .val (.int (Int32.ofNat x0)), .val (.int (Int32.ofNat x1)), .val (.int (Int32.ofNat x2)), .val (.int (Int32.ofNat x3)), .val (.ref ta), .val (.ref ba), .val (.ref tp), .unset, .unset, .unset, .unset, .unset, .unset, .unset] at_133 rfl rfl rfl
    have nw1 := hT.lt; have nw2 := hT.ltb
    obtain ⟨br, e3, G', gbr, sbr, Ebr, Xbr, Dbr, Ubr⟩ := G.new 138 (hw _ (mm 1 rfl)) (hw _ (mm 2 rfl)) (hw _ (mm 3 rfl)) at_135 rfl (nle rfl) (nle rfl)
    replace G := G'; clear G'
    have Fvbr := Dbr (Or.inr (hw _ (mm 29 rfl))) (ty := .array .byte) (by decide); have Fcbr := Dbr (Or.inr (hw _ (mm 27 rfl))) (ty := .byte) (by decide)
    replace Aba0 := Aba0.ext Ebr
    replace G := G.dup 139 at_138 rfl rfl |>.aload 141 at_139 rfl rfl rfl
    obtain ⟨vB, e4, soB, G', KB, QB⟩ := G.callI 144 rfl rfl (hw _ (mm 4 rfl)) (hw _ (mm 5 rfl)) (hw _ (mm 3 rfl)) (hw _ (mm 6 rfl)) (by decide) [(.ref ba)] [(.ref br)] rfl (c_strC l Z a0 hw hEW n0 c1 hc1 S1 br ba kba [Int32.ofNat x2] G.old (G.nw (Or.inr sbr)) Xbr Fvbr Fcbr (nle rfl) (nle rfl) (by intro x hx; simp only [List.mem_cons, List.not_mem_nil, or_false] at hx; rcases hx with rfl <;> first | exact c255 hx2 | exact c255 hx2) Aba0) (lenOf pd___C_V rfl) at_141 rfl (nle rfl) (nle rfl) (nle rfl) (nle rfl) (allS (Or.inr sbr) all0) (allS (mm 0 rfl) all0) (allS (mm 0 rfl) all0) rfl
    replace G := G'; clear G'
    obtain ⟨qB, brb, hB, sbrb, rfl⟩ := QB
    replace G := G.nov qB
    replace hB : Str Z e4 br brb [bytV (Int32.ofNat x2)] := hB
    replace hT := (hT.ext Ebr).keep KB (ninS (ne_new gbr nw1) nin0) (ninS (ne_new gbr nw2) nin0)
    replace G := G.astore 146 #[.val (.int i0), .val (.int i1), .val (.int i2), .val (.int (1 : Int32)), .val (.int (1 : Int32)), .val (.int (Int32.ofNat x0)), .val (.int (Int32.ofNat x1)), .val (.int (Int32.ofNat x2)), .val (.int (Int32.ofNat x3)), .val (.ref ta), .val (.ref ba), .val (.ref tp), .val (.ref br), .unset, .unset, .unset, .unset, .unset, .unset] at_144 rfl rfl rfl |>.iloadN 147 at_146 rfl rfl |>.ldcI 149 (hw _ (mm 30 rfl)) at_147 rfl |>.iand 150 at_149 rfl |>.top (y := (.int (Int32.ofNat N))) (congrArg Value.int eN) |>.istore 152 #[.val (.int i0), .val (.int i1), .val (.int i2), .val (.int (1 : Int32)), .val (.int (1 : Int32)), .val (.int (Int32.ofNat x0)), .val (.int (Int32.ofNat x1)), .val (.int (Int32.ofNat x2)), .val (.int (Int32.ofNat x3)), .val (.ref ta), .val (.ref ba), .val (.ref tp), .val (.ref br), .val (.int (Int32.ofNat N)), .unset, .unset, .unset, .unset, .unset] at_150 rfl rfl |>.iload 154 at_152 rfl rfl
    obtain ⟨vd, e_5, sod, G', Kd, Qd⟩ := G.callS 157 (hw _ (mm 31 rfl)) (hw _ (mm 32 rfl)) (hw _ (mm 33 rfl)) (hw _ (mm 34 rfl)) (by decide) [(.int (Int32.ofNat N))] [] rfl (c_dig l Z a0 hw hEW n0 c1 hc1 S1 N G.old hN) (lenOf pd__I_I rfl) at_154 rfl (nle rfl) (nle rfl) (nle rfl) (nle rfl) all0 all0 all0 rfl
    replace G := G'; clear G'
    obtain ⟨wd, qd, rfl, ed, rfl⟩ := Qd
    replace G := G.val qd
    subst ed
    replace G := G.istore 159 #[.val (.int i0), .val (.int i1), .val (.int i2), .val (.int (1 : Int32)), .val (.int (1 : Int32)), .val (.int (Int32.ofNat x0)), .val (.int (Int32.ofNat x1)), .val (.int (Int32.ofNat x2)), .val (.int (Int32.ofNat x3)), .val (.ref ta), .val (.ref ba), .val (.ref tp), .val (.ref br), .val (.int (Int32.ofNat N)), .val (.int (Int32.ofNat (nd N))), .unset, .unset, .unset, .unset] at_157 rfl rfl |>.bipush 161 (44 : Int32) at_159 (by decide) rfl |>.iloadN 162 at_161 rfl rfl |>.iadd 163 at_162 rfl |>.top (y := (.int (45 : Int32))) (by decide) |>.iload 165 at_163 rfl rfl |>.iadd 166 at_165 rfl |>.top (y := (.int (46 : Int32))) (by decide)
    replace G := G.iload 168 at_166 rfl rfl |>.iadd 169 at_168 rfl |>.top (y := (.int (Int32.ofNat (46 + nd N)))) (congrArg Value.int (ofn_add 46 _)) |>.istore 171 #[.val (.int i0), .val (.int i1), .val (.int i2), .val (.int (1 : Int32)), .val (.int (1 : Int32)), .val (.int (Int32.ofNat x0)), .val (.int (Int32.ofNat x1)), .val (.int (Int32.ofNat x2)), .val (.int (Int32.ofNat x3)), .val (.ref ta), .val (.ref ba), .val (.ref tp), .val (.ref br), .val (.int (Int32.ofNat N)), .val (.int (Int32.ofNat (nd N))), .val (.int (Int32.ofNat (46 + nd N))), .unset, .unset, .unset] at_169 rfl rfl |>.iload 173 at_171 rfl rfl
    have szm := G.sz
    obtain ⟨vK, e6, soK, G', KK, QK⟩ := G.callS 176 (hw _ (mm 35 rfl)) (hw _ (mm 36 rfl)) (hw _ (mm 33 rfl)) (hw _ (mm 37 rfl)) (by decide) [(.int (Int32.ofNat (46 + nd N)))] [] rfl (c_mk l Z a0 hw hEW n0 c1 hc1 S1 (46 + nd N) G.old (by omega) (by omega)) (lenOf pd__I__C rfl) at_173 rfl (nle rfl) (nle rfl) (nle rfl) (nle rfl) all0 all0 all0 rfl
    replace G := G'; clear G'
    obtain ⟨wK, qK, ea, rfl, ⟨ke, Ae⟩, sea', rfl⟩ := QK
    replace G := G.val qK
    have np1 : tp ≠ ea := (ne_ge hT.lt sea').symm; have np2 : tpb ≠ ea := (ne_ge hT.ltb sea').symm; have np3 : br ≠ ea := (ne_ge hB.lt sea').symm; have np4 : brb ≠ ea := (ne_ge hB.ltb sea').symm
    replace hT := hT.keep KK nin0 nin0; replace hB := hB.keep KK nin0 nin0; have sea := Nat.le_trans szm sea'
    have D : DF Z e6 ea ke (46 + nd N) [] tp tpb br brb [bytV (Int32.ofNat x0)] [bytV (Int32.ofNat x2)] := ⟨Ae, hT, hB⟩
    have hn31 : 46 + nd N < 2147483648 := by omega
    have l0 : ([] : List Int32).length = 0 := rfl
    replace G := G.astore 178 #[.val (.int i0), .val (.int i1), .val (.int i2), .val (.int (1 : Int32)), .val (.int (1 : Int32)), .val (.int (Int32.ofNat x0)), .val (.int (Int32.ofNat x1)), .val (.int (Int32.ofNat x2)), .val (.int (Int32.ofNat x3)), .val (.ref ta), .val (.ref ba), .val (.ref tp), .val (.ref br), .val (.int (Int32.ofNat N)), .val (.int (Int32.ofNat (nd N))), .val (.int (Int32.ofNat (46 + nd N))), .val (.ref ea), .unset, .unset] at_176 rfl rfl rfl |>.aload 180 at_178 rfl rfl rfl |>.iconst 181 (0 : Int32) at_180 rfl rfl |>.bipush 183 (77 : Int32) at_181 (by decide) rfl
    obtain ⟨f0, G', As, Ks⟩ := G.castore 184 0 D.pad1 ⟨by decide, ofn_lt (i := 0) (Nat.lt_of_lt_of_le (nle rfl) (Nat.le_add_right 46 _)) hn31⟩ rfl (pad_lt l0) (Or.inr sea) (mm 0 rfl) at_183 rfl
    replace G := G'; clear G'
    obtain ⟨s1, q1, l1, D⟩ := DF.put1 l0 D As Ks np1 np2 np3 np4 (by decide)
    replace G := G.aload 186 at_184 rfl rfl rfl |>.iconst 187 (1 : Int32) at_186 rfl rfl |>.bipush 189 (101 : Int32) at_187 (by decide) rfl
    obtain ⟨f1, G', As, Ks⟩ := G.castore 190 1 D.pad1 ⟨by decide, ofn_lt (i := 1) (Nat.lt_of_lt_of_le (nle rfl) (Nat.le_add_right 46 _)) hn31⟩ rfl (pad_lt l1) (Or.inr sea) (mm 0 rfl) at_189 rfl
    replace G := G'; clear G'
    obtain ⟨s2, q2, l2, D⟩ := DF.put1 l1 D As Ks np1 np2 np3 np4 (by decide)
    replace G := G.aload 192 at_190 rfl rfl rfl |>.iconst 193 (2 : Int32) at_192 rfl rfl |>.bipush 195 (115 : Int32) at_193 (by decide) rfl
    obtain ⟨f2, G', As, Ks⟩ := G.castore 196 2 D.pad1 ⟨by decide, ofn_lt (i := 2) (Nat.lt_of_lt_of_le (nle rfl) (Nat.le_add_right 46 _)) hn31⟩ rfl (pad_lt l2) (Or.inr sea) (mm 0 rfl) at_195 rfl
    replace G := G'; clear G'
    obtain ⟨s3, q3, l3, D⟩ := DF.put1 l2 D As Ks np1 np2 np3 np4 (by decide)
    replace G := G.aload 198 at_196 rfl rfl rfl |>.iconst 199 (3 : Int32) at_198 rfl rfl |>.bipush 201 (115 : Int32) at_199 (by decide) rfl
    obtain ⟨f3, G', As, Ks⟩ := G.castore 202 3 D.pad1 ⟨by decide, ofn_lt (i := 3) (Nat.lt_of_lt_of_le (nle rfl) (Nat.le_add_right 46 _)) hn31⟩ rfl (pad_lt l3) (Or.inr sea) (mm 0 rfl) at_201 rfl
    replace G := G'; clear G'
    obtain ⟨s4, q4, l4, D⟩ := DF.put1 l3 D As Ks np1 np2 np3 np4 (by decide)
    replace G := G.aload 204 at_202 rfl rfl rfl |>.iconst 205 (4 : Int32) at_204 rfl rfl |>.bipush 207 (97 : Int32) at_205 (by decide) rfl
    obtain ⟨f4, G', As, Ks⟩ := G.castore 208 4 D.pad1 ⟨by decide, ofn_lt (i := 4) (Nat.lt_of_lt_of_le (nle rfl) (Nat.le_add_right 46 _)) hn31⟩ rfl (pad_lt l4) (Or.inr sea) (mm 0 rfl) at_207 rfl
    replace G := G'; clear G'
    obtain ⟨s5, q5, l5, D⟩ := DF.put1 l4 D As Ks np1 np2 np3 np4 (by decide)
    replace G := G.aload 210 at_208 rfl rfl rfl |>.iconst 211 (5 : Int32) at_210 rfl rfl |>.bipush 213 (103 : Int32) at_211 (by decide) rfl
    obtain ⟨f5, G', As, Ks⟩ := G.castore 214 5 D.pad1 ⟨by decide, ofn_lt (i := 5) (Nat.lt_of_lt_of_le (nle rfl) (Nat.le_add_right 46 _)) hn31⟩ rfl (pad_lt l5) (Or.inr sea) (mm 0 rfl) at_213 rfl
    replace G := G'; clear G'
    obtain ⟨s6, q6, l6, D⟩ := DF.put1 l5 D As Ks np1 np2 np3 np4 (by decide)
    replace G := G.aload 216 at_214 rfl rfl rfl |>.bipush 218 (6 : Int32) at_216 (by decide) rfl |>.bipush 220 (101 : Int32) at_218 (by decide) rfl
    obtain ⟨f6, G', As, Ks⟩ := G.castore 221 6 D.pad1 ⟨by decide, ofn_lt (i := 6) (Nat.lt_of_lt_of_le (nle rfl) (Nat.le_add_right 46 _)) hn31⟩ rfl (pad_lt l6) (Or.inr sea) (mm 0 rfl) at_220 rfl
    replace G := G'; clear G'
    obtain ⟨s7, q7, l7, D⟩ := DF.put1 l6 D As Ks np1 np2 np3 np4 (by decide)
    replace G := G.aload 223 at_221 rfl rfl rfl |>.bipush 225 (7 : Int32) at_223 (by decide) rfl |>.bipush 227 (81 : Int32) at_225 (by decide) rfl
    obtain ⟨f7, G', As, Ks⟩ := G.castore 228 7 D.pad1 ⟨by decide, ofn_lt (i := 7) (Nat.lt_of_lt_of_le (nle rfl) (Nat.le_add_right 46 _)) hn31⟩ rfl (pad_lt l7) (Or.inr sea) (mm 0 rfl) at_227 rfl
    replace G := G'; clear G'
    obtain ⟨s8, q8, l8, D⟩ := DF.put1 l7 D As Ks np1 np2 np3 np4 (by decide)
    replace G := G.aload 230 at_228 rfl rfl rfl |>.bipush 232 (8 : Int32) at_230 (by decide) rfl |>.bipush 234 (117 : Int32) at_232 (by decide) rfl
    obtain ⟨f8, G', As, Ks⟩ := G.castore 235 8 D.pad1 ⟨by decide, ofn_lt (i := 8) (Nat.lt_of_lt_of_le (nle rfl) (Nat.le_add_right 46 _)) hn31⟩ rfl (pad_lt l8) (Or.inr sea) (mm 0 rfl) at_234 rfl
    replace G := G'; clear G'
    obtain ⟨s9, q9, l9, D⟩ := DF.put1 l8 D As Ks np1 np2 np3 np4 (by decide)
    replace G := G.aload 237 at_235 rfl rfl rfl |>.bipush 239 (9 : Int32) at_237 (by decide) rfl |>.bipush 241 (101 : Int32) at_239 (by decide) rfl
    obtain ⟨f9, G', As, Ks⟩ := G.castore 242 9 D.pad1 ⟨by decide, ofn_lt (i := 9) (Nat.lt_of_lt_of_le (nle rfl) (Nat.le_add_right 46 _)) hn31⟩ rfl (pad_lt l9) (Or.inr sea) (mm 0 rfl) at_241 rfl
    replace G := G'; clear G'
    obtain ⟨s10, q10, l10, D⟩ := DF.put1 l9 D As Ks np1 np2 np3 np4 (by decide)
    replace G := G.aload 244 at_242 rfl rfl rfl |>.bipush 246 (10 : Int32) at_244 (by decide) rfl |>.bipush 248 (117 : Int32) at_246 (by decide) rfl
    obtain ⟨f10, G', As, Ks⟩ := G.castore 249 10 D.pad1 ⟨by decide, ofn_lt (i := 10) (Nat.lt_of_lt_of_le (nle rfl) (Nat.le_add_right 46 _)) hn31⟩ rfl (pad_lt l10) (Or.inr sea) (mm 0 rfl) at_248 rfl
    replace G := G'; clear G'
    obtain ⟨s11, q11, l11, D⟩ := DF.put1 l10 D As Ks np1 np2 np3 np4 (by decide)
    replace G := G.aload 251 at_249 rfl rfl rfl |>.bipush 253 (11 : Int32) at_251 (by decide) rfl |>.bipush 255 (101 : Int32) at_253 (by decide) rfl
    obtain ⟨f11, G', As, Ks⟩ := G.castore 256 11 D.pad1 ⟨by decide, ofn_lt (i := 11) (Nat.lt_of_lt_of_le (nle rfl) (Nat.le_add_right 46 _)) hn31⟩ rfl (pad_lt l11) (Or.inr sea) (mm 0 rfl) at_255 rfl
    replace G := G'; clear G'
    obtain ⟨s12, q12, l12, D⟩ := DF.put1 l11 D As Ks np1 np2 np3 np4 (by decide)
    replace G := G.aload 258 at_256 rfl rfl rfl |>.bipush 260 (12 : Int32) at_258 (by decide) rfl |>.bipush 262 (32 : Int32) at_260 (by decide) rfl
    obtain ⟨f12, G', As, Ks⟩ := G.castore 263 12 D.pad1 ⟨by decide, ofn_lt (i := 12) (Nat.lt_of_lt_of_le (nle rfl) (Nat.le_add_right 46 _)) hn31⟩ rfl (pad_lt l12) (Or.inr sea) (mm 0 rfl) at_262 rfl
    replace G := G'; clear G'
    obtain ⟨s13, q13, l13, D⟩ := DF.put1 l12 D As Ks np1 np2 np3 np4 (by decide)
    replace G := G.aload 265 at_263 rfl rfl rfl |>.bipush 267 (13 : Int32) at_265 (by decide) rfl |>.bipush 269 (91 : Int32) at_267 (by decide) rfl
    obtain ⟨f13, G', As, Ks⟩ := G.castore 270 13 D.pad1 ⟨by decide, ofn_lt (i := 13) (Nat.lt_of_lt_of_le (nle rfl) (Nat.le_add_right 46 _)) hn31⟩ rfl (pad_lt l13) (Or.inr sea) (mm 0 rfl) at_269 rfl
    replace G := G'; clear G'
    obtain ⟨s14, q14, l14, D⟩ := DF.put1 l13 D As Ks np1 np2 np3 np4 (by decide)
    replace G := G.aload 272 at_270 rfl rfl rfl |>.bipush 274 (14 : Int32) at_272 (by decide) rfl |>.bipush 276 (116 : Int32) at_274 (by decide) rfl
    obtain ⟨f14, G', As, Ks⟩ := G.castore 277 14 D.pad1 ⟨by decide, ofn_lt (i := 14) (Nat.lt_of_lt_of_le (nle rfl) (Nat.le_add_right 46 _)) hn31⟩ rfl (pad_lt l14) (Or.inr sea) (mm 0 rfl) at_276 rfl
    replace G := G'; clear G'
    obtain ⟨s15, q15, l15, D⟩ := DF.put1 l14 D As Ks np1 np2 np3 np4 (by decide)
    replace G := G.aload 279 at_277 rfl rfl rfl |>.bipush 281 (15 : Int32) at_279 (by decide) rfl |>.bipush 283 (111 : Int32) at_281 (by decide) rfl
    obtain ⟨f15, G', As, Ks⟩ := G.castore 284 15 D.pad1 ⟨by decide, ofn_lt (i := 15) (Nat.lt_of_lt_of_le (nle rfl) (Nat.le_add_right 46 _)) hn31⟩ rfl (pad_lt l15) (Or.inr sea) (mm 0 rfl) at_283 rfl
    replace G := G'; clear G'
    obtain ⟨s16, q16, l16, D⟩ := DF.put1 l15 D As Ks np1 np2 np3 np4 (by decide)
    replace G := G.aload 286 at_284 rfl rfl rfl |>.bipush 288 (16 : Int32) at_286 (by decide) rfl |>.bipush 290 (112 : Int32) at_288 (by decide) rfl
    obtain ⟨f16, G', As, Ks⟩ := G.castore 291 16 D.pad1 ⟨by decide, ofn_lt (i := 16) (Nat.lt_of_lt_of_le (nle rfl) (Nat.le_add_right 46 _)) hn31⟩ rfl (pad_lt l16) (Or.inr sea) (mm 0 rfl) at_290 rfl
    replace G := G'; clear G'
    obtain ⟨s17, q17, l17, D⟩ := DF.put1 l16 D As Ks np1 np2 np3 np4 (by decide)
    replace G := G.aload 293 at_291 rfl rfl rfl |>.bipush 295 (17 : Int32) at_293 (by decide) rfl |>.bipush 297 (105 : Int32) at_295 (by decide) rfl
    obtain ⟨f17, G', As, Ks⟩ := G.castore 298 17 D.pad1 ⟨by decide, ofn_lt (i := 17) (Nat.lt_of_lt_of_le (nle rfl) (Nat.le_add_right 46 _)) hn31⟩ rfl (pad_lt l17) (Or.inr sea) (mm 0 rfl) at_297 rfl
    replace G := G'; clear G'
    obtain ⟨s18, q18, l18, D⟩ := DF.put1 l17 D As Ks np1 np2 np3 np4 (by decide)
    replace G := G.aload 300 at_298 rfl rfl rfl |>.bipush 302 (18 : Int32) at_300 (by decide) rfl |>.bipush 304 (99 : Int32) at_302 (by decide) rfl
    obtain ⟨f18, G', As, Ks⟩ := G.castore 305 18 D.pad1 ⟨by decide, ofn_lt (i := 18) (Nat.lt_of_lt_of_le (nle rfl) (Nat.le_add_right 46 _)) hn31⟩ rfl (pad_lt l18) (Or.inr sea) (mm 0 rfl) at_304 rfl
    replace G := G'; clear G'
    obtain ⟨s19, q19, l19, D⟩ := DF.put1 l18 D As Ks np1 np2 np3 np4 (by decide)
    replace G := G.aload 307 at_305 rfl rfl rfl |>.bipush 309 (19 : Int32) at_307 (by decide) rfl |>.bipush 311 (61 : Int32) at_309 (by decide) rfl
    obtain ⟨f19, G', As, Ks⟩ := G.castore 312 19 D.pad1 ⟨by decide, ofn_lt (i := 19) (Nat.lt_of_lt_of_le (nle rfl) (Nat.le_add_right 46 _)) hn31⟩ rfl (pad_lt l19) (Or.inr sea) (mm 0 rfl) at_311 rfl
    replace G := G'; clear G'
    obtain ⟨s20, q20, l20, D⟩ := DF.put1 l19 D As Ks np1 np2 np3 np4 (by decide)
    replace G := G.bipush 314 (20 : Int32) at_312 (by decide) rfl |>.istore 316 #[.val (.int i0), .val (.int i1), .val (.int i2), .val (.int (1 : Int32)), .val (.int (1 : Int32)), .val (.int (Int32.ofNat x0)), .val (.int (Int32.ofNat x1)), .val (.int (Int32.ofNat x2)), .val (.int (Int32.ofNat x3)), .val (.ref ta), .val (.ref ba), .val (.ref tp), .val (.ref br), .val (.int (Int32.ofNat N)), .val (.int (Int32.ofNat (nd N))), .val (.int (Int32.ofNat (46 + nd N))), .val (.ref ea), .val (.int (20 : Int32)), .unset] at_314 rfl rfl |>.aload 318 at_316 rfl rfl rfl |>.iload 320 at_318 rfl rfl |>.iincV 323 #[.val (.int i0), .val (.int i1), .val (.int i2), .val (.int (1 : Int32)), .val (.int (1 : Int32)), .val (.int (Int32.ofNat x0)), .val (.int (Int32.ofNat x1)), .val (.int (Int32.ofNat x2)), .val (.int (Int32.ofNat x3)), .val (.ref ta), .val (.ref ba), .val (.ref tp), .val (.ref br), .val (.int (Int32.ofNat N)), .val (.int (Int32.ofNat (nd N))), .val (.int (Int32.ofNat (46 + nd N))), .val (.ref ea), .val (.int (21 : Int32)), .unset] (21 : Int32) at_320 rfl (by decide) rfl rfl |>.iload 325 at_323 rfl rfl
    obtain ⟨f20, G', As, Ks⟩ := G.castore 326 20 D.pad1 ⟨by decide, ofn_lt (i := 20) (Nat.lt_of_lt_of_le (nle rfl) (Nat.le_add_right 46 _)) hn31⟩ rfl (pad_lt l20) (Or.inr sea) (mm 0 rfl) at_325 rfl
    replace G := G'; clear G'
    obtain ⟨s21, q21, l21, D⟩ := DF.put1 l20 D As Ks np1 np2 np3 np4 (i2c_n hx0)
    replace G := G.iloadN 327 at_326 rfl rfl |>.iconst 328 (2 : Int32) at_327 rfl rfl |>.icmpT 341 at_328 (XT.ii_ne_t (by decide)) (by decide) (by decide) |>.aload 343 at_341 rfl rfl rfl |>.iload 345 at_343 rfl rfl |>.iincV 348 #[.val (.int i0), .val (.int i1), .val (.int i2), .val (.int (1 : Int32)), .val (.int (1 : Int32)), .val (.int (Int32.ofNat x0)), .val (.int (Int32.ofNat x1)), .val (.int (Int32.ofNat x2)), .val (.int (Int32.ofNat x3)), .val (.ref ta), .val (.ref ba), .val (.ref tp), .val (.ref br), .val (.int (Int32.ofNat N)), .val (.int (Int32.ofNat (nd N))), .val (.int (Int32.ofNat (46 + nd N))), .val (.ref ea), .val (.int (22 : Int32)), .unset] (22 : Int32) at_345 rfl (by decide) rfl rfl |>.bipush 350 (44 : Int32) at_348 (by decide) rfl
    obtain ⟨f21, G', As, Ks⟩ := G.castore 351 21 D.pad1 ⟨by decide, ofn_lt (i := 21) (Nat.lt_of_lt_of_le (nle rfl) (Nat.le_add_right 46 _)) hn31⟩ rfl (pad_lt l21) (Or.inr sea) (mm 0 rfl) at_350 rfl
    replace G := G'; clear G'
    obtain ⟨s22, q22, l22, D⟩ := DF.put1 l21 D As Ks np1 np2 np3 np4 (by decide)
    replace G := G.aload 353 at_351 rfl rfl rfl |>.iload 355 at_353 rfl rfl |>.iincV 358 #[.val (.int i0), .val (.int i1), .val (.int i2), .val (.int (1 : Int32)), .val (.int (1 : Int32)), .val (.int (Int32.ofNat x0)), .val (.int (Int32.ofNat x1)), .val (.int (Int32.ofNat x2)), .val (.int (Int32.ofNat x3)), .val (.ref ta), .val (.ref ba), .val (.ref tp), .val (.ref br), .val (.int (Int32.ofNat N)), .val (.int (Int32.ofNat (nd N))), .val (.int (Int32.ofNat (46 + nd N))), .val (.ref ea), .val (.int (23 : Int32)), .unset] (23 : Int32) at_355 rfl (by decide) rfl rfl |>.bipush 360 (32 : Int32) at_358 (by decide) rfl
    obtain ⟨f22, G', As, Ks⟩ := G.castore 361 22 D.pad1 ⟨by decide, ofn_lt (i := 22) (Nat.lt_of_lt_of_le (nle rfl) (Nat.le_add_right 46 _)) hn31⟩ rfl (pad_lt l22) (Or.inr sea) (mm 0 rfl) at_360 rfl
    replace G := G'; clear G'
    obtain ⟨s23, q23, l23, D⟩ := DF.put1 l22 D As Ks np1 np2 np3 np4 (by decide)
    replace G := G.aload 363 at_361 rfl rfl rfl |>.iload 365 at_363 rfl rfl |>.iincV 368 #[.val (.int i0), .val (.int i1), .val (.int i2), .val (.int (1 : Int32)), .val (.int (1 : Int32)), .val (.int (Int32.ofNat x0)), .val (.int (Int32.ofNat x1)), .val (.int (Int32.ofNat x2)), .val (.int (Int32.ofNat x3)), .val (.ref ta), .val (.ref ba), .val (.ref tp), .val (.ref br), .val (.int (Int32.ofNat N)), .val (.int (Int32.ofNat (nd N))), .val (.int (Int32.ofNat (46 + nd N))), .val (.ref ea), .val (.int (24 : Int32)), .unset] (24 : Int32) at_365 rfl (by decide) rfl rfl |>.bipush 370 (98 : Int32) at_368 (by decide) rfl
    obtain ⟨f23, G', As, Ks⟩ := G.castore 371 23 D.pad1 ⟨by decide, ofn_lt (i := 23) (Nat.lt_of_lt_of_le (nle rfl) (Nat.le_add_right 46 _)) hn31⟩ rfl (pad_lt l23) (Or.inr sea) (mm 0 rfl) at_370 rfl
    replace G := G'; clear G'
    obtain ⟨s24, q24, l24, D⟩ := DF.put1 l23 D As Ks np1 np2 np3 np4 (by decide)
    replace G := G.aload 373 at_371 rfl rfl rfl |>.iload 375 at_373 rfl rfl |>.iincV 378 #[.val (.int i0), .val (.int i1), .val (.int i2), .val (.int (1 : Int32)), .val (.int (1 : Int32)), .val (.int (Int32.ofNat x0)), .val (.int (Int32.ofNat x1)), .val (.int (Int32.ofNat x2)), .val (.int (Int32.ofNat x3)), .val (.ref ta), .val (.ref ba), .val (.ref tp), .val (.ref br), .val (.int (Int32.ofNat N)), .val (.int (Int32.ofNat (nd N))), .val (.int (Int32.ofNat (46 + nd N))), .val (.ref ea), .val (.int (25 : Int32)), .unset] (25 : Int32) at_375 rfl (by decide) rfl rfl |>.bipush 380 (114 : Int32) at_378 (by decide) rfl
    obtain ⟨f24, G', As, Ks⟩ := G.castore 381 24 D.pad1 ⟨by decide, ofn_lt (i := 24) (Nat.lt_of_lt_of_le (nle rfl) (Nat.le_add_right 46 _)) hn31⟩ rfl (pad_lt l24) (Or.inr sea) (mm 0 rfl) at_380 rfl
    replace G := G'; clear G'
    obtain ⟨s25, q25, l25, D⟩ := DF.put1 l24 D As Ks np1 np2 np3 np4 (by decide)
    replace G := G.aload 383 at_381 rfl rfl rfl |>.iload 385 at_383 rfl rfl |>.iincV 388 #[.val (.int i0), .val (.int i1), .val (.int i2), .val (.int (1 : Int32)), .val (.int (1 : Int32)), .val (.int (Int32.ofNat x0)), .val (.int (Int32.ofNat x1)), .val (.int (Int32.ofNat x2)), .val (.int (Int32.ofNat x3)), .val (.ref ta), .val (.ref ba), .val (.ref tp), .val (.ref br), .val (.int (Int32.ofNat N)), .val (.int (Int32.ofNat (nd N))), .val (.int (Int32.ofNat (46 + nd N))), .val (.ref ea), .val (.int (26 : Int32)), .unset] (26 : Int32) at_385 rfl (by decide) rfl rfl |>.bipush 390 (111 : Int32) at_388 (by decide) rfl
    obtain ⟨f25, G', As, Ks⟩ := G.castore 391 25 D.pad1 ⟨by decide, ofn_lt (i := 25) (Nat.lt_of_lt_of_le (nle rfl) (Nat.le_add_right 46 _)) hn31⟩ rfl (pad_lt l25) (Or.inr sea) (mm 0 rfl) at_390 rfl
    replace G := G'; clear G'
    obtain ⟨s26, q26, l26, D⟩ := DF.put1 l25 D As Ks np1 np2 np3 np4 (by decide)
    replace G := G.aload 393 at_391 rfl rfl rfl |>.iload 395 at_393 rfl rfl |>.iincV 398 #[.val (.int i0), .val (.int i1), .val (.int i2), .val (.int (1 : Int32)), .val (.int (1 : Int32)), .val (.int (Int32.ofNat x0)), .val (.int (Int32.ofNat x1)), .val (.int (Int32.ofNat x2)), .val (.int (Int32.ofNat x3)), .val (.ref ta), .val (.ref ba), .val (.ref tp), .val (.ref br), .val (.int (Int32.ofNat N)), .val (.int (Int32.ofNat (nd N))), .val (.int (Int32.ofNat (46 + nd N))), .val (.ref ea), .val (.int (27 : Int32)), .unset] (27 : Int32) at_395 rfl (by decide) rfl rfl |>.bipush 400 (107 : Int32) at_398 (by decide) rfl
    obtain ⟨f26, G', As, Ks⟩ := G.castore 401 26 D.pad1 ⟨by decide, ofn_lt (i := 26) (Nat.lt_of_lt_of_le (nle rfl) (Nat.le_add_right 46 _)) hn31⟩ rfl (pad_lt l26) (Or.inr sea) (mm 0 rfl) at_400 rfl
    replace G := G'; clear G'
    obtain ⟨s27, q27, l27, D⟩ := DF.put1 l26 D As Ks np1 np2 np3 np4 (by decide)
    replace G := G.aload 403 at_401 rfl rfl rfl |>.iload 405 at_403 rfl rfl |>.iincV 408 #[.val (.int i0), .val (.int i1), .val (.int i2), .val (.int (1 : Int32)), .val (.int (1 : Int32)), .val (.int (Int32.ofNat x0)), .val (.int (Int32.ofNat x1)), .val (.int (Int32.ofNat x2)), .val (.int (Int32.ofNat x3)), .val (.ref ta), .val (.ref ba), .val (.ref tp), .val (.ref br), .val (.int (Int32.ofNat N)), .val (.int (Int32.ofNat (nd N))), .val (.int (Int32.ofNat (46 + nd N))), .val (.ref ea), .val (.int (28 : Int32)), .unset] (28 : Int32) at_405 rfl (by decide) rfl rfl |>.bipush 410 (101 : Int32) at_408 (by decide) rfl
    obtain ⟨f27, G', As, Ks⟩ := G.castore 411 27 D.pad1 ⟨by decide, ofn_lt (i := 27) (Nat.lt_of_lt_of_le (nle rfl) (Nat.le_add_right 46 _)) hn31⟩ rfl (pad_lt l27) (Or.inr sea) (mm 0 rfl) at_410 rfl
    replace G := G'; clear G'
    obtain ⟨s28, q28, l28, D⟩ := DF.put1 l27 D As Ks np1 np2 np3 np4 (by decide)
    replace G := G.aload 413 at_411 rfl rfl rfl |>.iload 415 at_413 rfl rfl |>.iincV 418 #[.val (.int i0), .val (.int i1), .val (.int i2), .val (.int (1 : Int32)), .val (.int (1 : Int32)), .val (.int (Int32.ofNat x0)), .val (.int (Int32.ofNat x1)), .val (.int (Int32.ofNat x2)), .val (.int (Int32.ofNat x3)), .val (.ref ta), .val (.ref ba), .val (.ref tp), .val (.ref br), .val (.int (Int32.ofNat N)), .val (.int (Int32.ofNat (nd N))), .val (.int (Int32.ofNat (46 + nd N))), .val (.ref ea), .val (.int (29 : Int32)), .unset] (29 : Int32) at_415 rfl (by decide) rfl rfl |>.bipush 420 (114 : Int32) at_418 (by decide) rfl
    obtain ⟨f28, G', As, Ks⟩ := G.castore 421 28 D.pad1 ⟨by decide, ofn_lt (i := 28) (Nat.lt_of_lt_of_le (nle rfl) (Nat.le_add_right 46 _)) hn31⟩ rfl (pad_lt l28) (Or.inr sea) (mm 0 rfl) at_420 rfl
    replace G := G'; clear G'
    obtain ⟨s29, q29, l29, D⟩ := DF.put1 l28 D As Ks np1 np2 np3 np4 (by decide)
    replace G := G.aload 423 at_421 rfl rfl rfl |>.iload 425 at_423 rfl rfl |>.iincV 428 #[.val (.int i0), .val (.int i1), .val (.int i2), .val (.int (1 : Int32)), .val (.int (1 : Int32)), .val (.int (Int32.ofNat x0)), .val (.int (Int32.ofNat x1)), .val (.int (Int32.ofNat x2)), .val (.int (Int32.ofNat x3)), .val (.ref ta), .val (.ref ba), .val (.ref tp), .val (.ref br), .val (.int (Int32.ofNat N)), .val (.int (Int32.ofNat (nd N))), .val (.int (Int32.ofNat (46 + nd N))), .val (.ref ea), .val (.int (30 : Int32)), .unset] (30 : Int32) at_425 rfl (by decide) rfl rfl |>.bipush 430 (78 : Int32) at_428 (by decide) rfl
    obtain ⟨f29, G', As, Ks⟩ := G.castore 431 29 D.pad1 ⟨by decide, ofn_lt (i := 29) (Nat.lt_of_lt_of_le (nle rfl) (Nat.le_add_right 46 _)) hn31⟩ rfl (pad_lt l29) (Or.inr sea) (mm 0 rfl) at_430 rfl
    replace G := G'; clear G'
    obtain ⟨s30, q30, l30, D⟩ := DF.put1 l29 D As Ks np1 np2 np3 np4 (by decide)
    replace G := G.aload 433 at_431 rfl rfl rfl |>.iload 435 at_433 rfl rfl |>.iincV 438 #[.val (.int i0), .val (.int i1), .val (.int i2), .val (.int (1 : Int32)), .val (.int (1 : Int32)), .val (.int (Int32.ofNat x0)), .val (.int (Int32.ofNat x1)), .val (.int (Int32.ofNat x2)), .val (.int (Int32.ofNat x3)), .val (.ref ta), .val (.ref ba), .val (.ref tp), .val (.ref br), .val (.int (Int32.ofNat N)), .val (.int (Int32.ofNat (nd N))), .val (.int (Int32.ofNat (46 + nd N))), .val (.ref ea), .val (.int (31 : Int32)), .unset] (31 : Int32) at_435 rfl (by decide) rfl rfl |>.bipush 440 (97 : Int32) at_438 (by decide) rfl
    obtain ⟨f30, G', As, Ks⟩ := G.castore 441 30 D.pad1 ⟨by decide, ofn_lt (i := 30) (Nat.lt_of_lt_of_le (nle rfl) (Nat.le_add_right 46 _)) hn31⟩ rfl (pad_lt l30) (Or.inr sea) (mm 0 rfl) at_440 rfl
    replace G := G'; clear G'
    obtain ⟨s31, q31, l31, D⟩ := DF.put1 l30 D As Ks np1 np2 np3 np4 (by decide)
    replace G := G.aload 443 at_441 rfl rfl rfl |>.iload 445 at_443 rfl rfl |>.iincV 448 #[.val (.int i0), .val (.int i1), .val (.int i2), .val (.int (1 : Int32)), .val (.int (1 : Int32)), .val (.int (Int32.ofNat x0)), .val (.int (Int32.ofNat x1)), .val (.int (Int32.ofNat x2)), .val (.int (Int32.ofNat x3)), .val (.ref ta), .val (.ref ba), .val (.ref tp), .val (.ref br), .val (.int (Int32.ofNat N)), .val (.int (Int32.ofNat (nd N))), .val (.int (Int32.ofNat (46 + nd N))), .val (.ref ea), .val (.int (32 : Int32)), .unset] (32 : Int32) at_445 rfl (by decide) rfl rfl |>.bipush 450 (109 : Int32) at_448 (by decide) rfl
    obtain ⟨f31, G', As, Ks⟩ := G.castore 451 31 D.pad1 ⟨by decide, ofn_lt (i := 31) (Nat.lt_of_lt_of_le (nle rfl) (Nat.le_add_right 46 _)) hn31⟩ rfl (pad_lt l31) (Or.inr sea) (mm 0 rfl) at_450 rfl
    replace G := G'; clear G'
    obtain ⟨s32, q32, l32, D⟩ := DF.put1 l31 D As Ks np1 np2 np3 np4 (by decide)
    replace G := G.aload 453 at_451 rfl rfl rfl |>.iload 455 at_453 rfl rfl |>.iincV 458 #[.val (.int i0), .val (.int i1), .val (.int i2), .val (.int (1 : Int32)), .val (.int (1 : Int32)), .val (.int (Int32.ofNat x0)), .val (.int (Int32.ofNat x1)), .val (.int (Int32.ofNat x2)), .val (.int (Int32.ofNat x3)), .val (.ref ta), .val (.ref ba), .val (.ref tp), .val (.ref br), .val (.int (Int32.ofNat N)), .val (.int (Int32.ofNat (nd N))), .val (.int (Int32.ofNat (46 + nd N))), .val (.ref ea), .val (.int (33 : Int32)), .unset] (33 : Int32) at_455 rfl (by decide) rfl rfl |>.bipush 460 (101 : Int32) at_458 (by decide) rfl
    obtain ⟨f32, G', As, Ks⟩ := G.castore 461 32 D.pad1 ⟨by decide, ofn_lt (i := 32) (Nat.lt_of_lt_of_le (nle rfl) (Nat.le_add_right 46 _)) hn31⟩ rfl (pad_lt l32) (Or.inr sea) (mm 0 rfl) at_460 rfl
    replace G := G'; clear G'
    obtain ⟨s33, q33, l33, D⟩ := DF.put1 l32 D As Ks np1 np2 np3 np4 (by decide)
    replace G := G.aload 463 at_461 rfl rfl rfl |>.iload 465 at_463 rfl rfl |>.iincV 468 #[.val (.int i0), .val (.int i1), .val (.int i2), .val (.int (1 : Int32)), .val (.int (1 : Int32)), .val (.int (Int32.ofNat x0)), .val (.int (Int32.ofNat x1)), .val (.int (Int32.ofNat x2)), .val (.int (Int32.ofNat x3)), .val (.ref ta), .val (.ref ba), .val (.ref tp), .val (.ref br), .val (.int (Int32.ofNat N)), .val (.int (Int32.ofNat (nd N))), .val (.int (Int32.ofNat (46 + nd N))), .val (.ref ea), .val (.int (34 : Int32)), .unset] (34 : Int32) at_465 rfl (by decide) rfl rfl |>.bipush 470 (61 : Int32) at_468 (by decide) rfl
    obtain ⟨f33, G', As, Ks⟩ := G.castore 471 33 D.pad1 ⟨by decide, ofn_lt (i := 33) (Nat.lt_of_lt_of_le (nle rfl) (Nat.le_add_right 46 _)) hn31⟩ rfl (pad_lt l33) (Or.inr sea) (mm 0 rfl) at_470 rfl
    replace G := G'; clear G'
    obtain ⟨s34, q34, l34, D⟩ := DF.put1 l33 D As Ks np1 np2 np3 np4 (by decide)
    replace G := G.aload 473 at_471 rfl rfl rfl |>.iload 475 at_473 rfl rfl |>.iincV 478 #[.val (.int i0), .val (.int i1), .val (.int i2), .val (.int (1 : Int32)), .val (.int (1 : Int32)), .val (.int (Int32.ofNat x0)), .val (.int (Int32.ofNat x1)), .val (.int (Int32.ofNat x2)), .val (.int (Int32.ofNat x3)), .val (.ref ta), .val (.ref ba), .val (.ref tp), .val (.ref br), .val (.int (Int32.ofNat N)), .val (.int (Int32.ofNat (nd N))), .val (.int (Int32.ofNat (46 + nd N))), .val (.ref ea), .val (.int (35 : Int32)), .unset] (35 : Int32) at_475 rfl (by decide) rfl rfl |>.iload 480 at_478 rfl rfl
    obtain ⟨f34, G', As, Ks⟩ := G.castore 481 34 D.pad1 ⟨by decide, ofn_lt (i := 34) (Nat.lt_of_lt_of_le (nle rfl) (Nat.le_add_right 46 _)) hn31⟩ rfl (pad_lt l34) (Or.inr sea) (mm 0 rfl) at_480 rfl
    replace G := G'; clear G'
    obtain ⟨s35, q35, l35, D⟩ := DF.put1 l34 D As Ks np1 np2 np3 np4 (i2c_n hx2)
    replace G := G.iload 483 at_481 rfl rfl |>.iconst 484 (2 : Int32) at_483 rfl rfl |>.icmpT 497 at_484 (XT.ii_ne_t (by decide)) (by decide) (by decide) |>.aload 499 at_497 rfl rfl rfl |>.iload 501 at_499 rfl rfl |>.iincV 504 #[.val (.int i0), .val (.int i1), .val (.int i2), .val (.int (1 : Int32)), .val (.int (1 : Int32)), .val (.int (Int32.ofNat x0)), .val (.int (Int32.ofNat x1)), .val (.int (Int32.ofNat x2)), .val (.int (Int32.ofNat x3)), .val (.ref ta), .val (.ref ba), .val (.ref tp), .val (.ref br), .val (.int (Int32.ofNat N)), .val (.int (Int32.ofNat (nd N))), .val (.int (Int32.ofNat (46 + nd N))), .val (.ref ea), .val (.int (36 : Int32)), .unset] (36 : Int32) at_501 rfl (by decide) rfl rfl |>.bipush 506 (44 : Int32) at_504 (by decide) rfl
    obtain ⟨f35, G', As, Ks⟩ := G.castore 507 35 D.pad1 ⟨by decide, ofn_lt (i := 35) (Nat.lt_of_lt_of_le (nle rfl) (Nat.le_add_right 46 _)) hn31⟩ rfl (pad_lt l35) (Or.inr sea) (mm 0 rfl) at_506 rfl
    replace G := G'; clear G'
    obtain ⟨s36, q36, l36, D⟩ := DF.put1 l35 D As Ks np1 np2 np3 np4 (by decide)
    replace G := G.aload 509 at_507 rfl rfl rfl |>.iload 511 at_509 rfl rfl |>.iincV 514 #[.val (.int i0), .val (.int i1), .val (.int i2), .val (.int (1 : Int32)), .val (.int (1 : Int32)), .val (.int (Int32.ofNat x0)), .val (.int (Int32.ofNat x1)), .val (.int (Int32.ofNat x2)), .val (.int (Int32.ofNat x3)), .val (.ref ta), .val (.ref ba), .val (.ref tp), .val (.ref br), .val (.int (Int32.ofNat N)), .val (.int (Int32.ofNat (nd N))), .val (.int (Int32.ofNat (46 + nd N))), .val (.ref ea), .val (.int (37 : Int32)), .unset] (37 : Int32) at_511 rfl (by decide) rfl rfl |>.bipush 516 (32 : Int32) at_514 (by decide) rfl
    obtain ⟨f36, G', As, Ks⟩ := G.castore 517 36 D.pad1 ⟨by decide, ofn_lt (i := 36) (Nat.lt_of_lt_of_le (nle rfl) (Nat.le_add_right 46 _)) hn31⟩ rfl (pad_lt l36) (Or.inr sea) (mm 0 rfl) at_516 rfl
    replace G := G'; clear G'
    obtain ⟨s37, q37, l37, D⟩ := DF.put1 l36 D As Ks np1 np2 np3 np4 (by decide)
    replace G := G.aload 519 at_517 rfl rfl rfl |>.iload 521 at_519 rfl rfl |>.iincV 524 #[.val (.int i0), .val (.int i1), .val (.int i2), .val (.int (1 : Int32)), .val (.int (1 : Int32)), .val (.int (Int32.ofNat x0)), .val (.int (Int32.ofNat x1)), .val (.int (Int32.ofNat x2)), .val (.int (Int32.ofNat x3)), .val (.ref ta), .val (.ref ba), .val (.ref tp), .val (.ref br), .val (.int (Int32.ofNat N)), .val (.int (Int32.ofNat (nd N))), .val (.int (Int32.ofNat (46 + nd N))), .val (.ref ea), .val (.int (38 : Int32)), .unset] (38 : Int32) at_521 rfl (by decide) rfl rfl |>.bipush 526 (113 : Int32) at_524 (by decide) rfl
    obtain ⟨f37, G', As, Ks⟩ := G.castore 527 37 D.pad1 ⟨by decide, ofn_lt (i := 37) (Nat.lt_of_lt_of_le (nle rfl) (Nat.le_add_right 46 _)) hn31⟩ rfl (pad_lt l37) (Or.inr sea) (mm 0 rfl) at_526 rfl
    replace G := G'; clear G'
    obtain ⟨s38, q38, l38, D⟩ := DF.put1 l37 D As Ks np1 np2 np3 np4 (by decide)
    replace G := G.aload 529 at_527 rfl rfl rfl |>.iload 531 at_529 rfl rfl |>.iincV 534 #[.val (.int i0), .val (.int i1), .val (.int i2), .val (.int (1 : Int32)), .val (.int (1 : Int32)), .val (.int (Int32.ofNat x0)), .val (.int (Int32.ofNat x1)), .val (.int (Int32.ofNat x2)), .val (.int (Int32.ofNat x3)), .val (.ref ta), .val (.ref ba), .val (.ref tp), .val (.ref br), .val (.int (Int32.ofNat N)), .val (.int (Int32.ofNat (nd N))), .val (.int (Int32.ofNat (46 + nd N))), .val (.ref ea), .val (.int (39 : Int32)), .unset] (39 : Int32) at_531 rfl (by decide) rfl rfl |>.bipush 536 (117 : Int32) at_534 (by decide) rfl
    obtain ⟨f38, G', As, Ks⟩ := G.castore 537 38 D.pad1 ⟨by decide, ofn_lt (i := 38) (Nat.lt_of_lt_of_le (nle rfl) (Nat.le_add_right 46 _)) hn31⟩ rfl (pad_lt l38) (Or.inr sea) (mm 0 rfl) at_536 rfl
    replace G := G'; clear G'
    obtain ⟨s39, q39, l39, D⟩ := DF.put1 l38 D As Ks np1 np2 np3 np4 (by decide)
    replace G := G.aload 539 at_537 rfl rfl rfl |>.iload 541 at_539 rfl rfl |>.iincV 544 #[.val (.int i0), .val (.int i1), .val (.int i2), .val (.int (1 : Int32)), .val (.int (1 : Int32)), .val (.int (Int32.ofNat x0)), .val (.int (Int32.ofNat x1)), .val (.int (Int32.ofNat x2)), .val (.int (Int32.ofNat x3)), .val (.ref ta), .val (.ref ba), .val (.ref tp), .val (.ref br), .val (.int (Int32.ofNat N)), .val (.int (Int32.ofNat (nd N))), .val (.int (Int32.ofNat (46 + nd N))), .val (.ref ea), .val (.int (40 : Int32)), .unset] (40 : Int32) at_541 rfl (by decide) rfl rfl |>.bipush 546 (101 : Int32) at_544 (by decide) rfl
    obtain ⟨f39, G', As, Ks⟩ := G.castore 547 39 D.pad1 ⟨by decide, ofn_lt (i := 39) (Nat.lt_of_lt_of_le (nle rfl) (Nat.le_add_right 46 _)) hn31⟩ rfl (pad_lt l39) (Or.inr sea) (mm 0 rfl) at_546 rfl
    replace G := G'; clear G'
    obtain ⟨s40, q40, l40, D⟩ := DF.put1 l39 D As Ks np1 np2 np3 np4 (by decide)
    replace G := G.aload 549 at_547 rfl rfl rfl |>.iload 551 at_549 rfl rfl |>.iincV 554 #[.val (.int i0), .val (.int i1), .val (.int i2), .val (.int (1 : Int32)), .val (.int (1 : Int32)), .val (.int (Int32.ofNat x0)), .val (.int (Int32.ofNat x1)), .val (.int (Int32.ofNat x2)), .val (.int (Int32.ofNat x3)), .val (.ref ta), .val (.ref ba), .val (.ref tp), .val (.ref br), .val (.int (Int32.ofNat N)), .val (.int (Int32.ofNat (nd N))), .val (.int (Int32.ofNat (46 + nd N))), .val (.ref ea), .val (.int (41 : Int32)), .unset] (41 : Int32) at_551 rfl (by decide) rfl rfl |>.bipush 556 (117 : Int32) at_554 (by decide) rfl
    obtain ⟨f40, G', As, Ks⟩ := G.castore 557 40 D.pad1 ⟨by decide, ofn_lt (i := 40) (Nat.lt_of_lt_of_le (nle rfl) (Nat.le_add_right 46 _)) hn31⟩ rfl (pad_lt l40) (Or.inr sea) (mm 0 rfl) at_556 rfl
    replace G := G'; clear G'
    obtain ⟨s41, q41, l41, D⟩ := DF.put1 l40 D As Ks np1 np2 np3 np4 (by decide)
    replace G := G.aload 559 at_557 rfl rfl rfl |>.iload 561 at_559 rfl rfl |>.iincV 564 #[.val (.int i0), .val (.int i1), .val (.int i2), .val (.int (1 : Int32)), .val (.int (1 : Int32)), .val (.int (Int32.ofNat x0)), .val (.int (Int32.ofNat x1)), .val (.int (Int32.ofNat x2)), .val (.int (Int32.ofNat x3)), .val (.ref ta), .val (.ref ba), .val (.ref tp), .val (.ref br), .val (.int (Int32.ofNat N)), .val (.int (Int32.ofNat (nd N))), .val (.int (Int32.ofNat (46 + nd N))), .val (.ref ea), .val (.int (42 : Int32)), .unset] (42 : Int32) at_561 rfl (by decide) rfl rfl |>.bipush 566 (101 : Int32) at_564 (by decide) rfl
    obtain ⟨f41, G', As, Ks⟩ := G.castore 567 41 D.pad1 ⟨by decide, ofn_lt (i := 41) (Nat.lt_of_lt_of_le (nle rfl) (Nat.le_add_right 46 _)) hn31⟩ rfl (pad_lt l41) (Or.inr sea) (mm 0 rfl) at_566 rfl
    replace G := G'; clear G'
    obtain ⟨s42, q42, l42, D⟩ := DF.put1 l41 D As Ks np1 np2 np3 np4 (by decide)
    replace G := G.aload 569 at_567 rfl rfl rfl |>.iload 571 at_569 rfl rfl |>.iincV 574 #[.val (.int i0), .val (.int i1), .val (.int i2), .val (.int (1 : Int32)), .val (.int (1 : Int32)), .val (.int (Int32.ofNat x0)), .val (.int (Int32.ofNat x1)), .val (.int (Int32.ofNat x2)), .val (.int (Int32.ofNat x3)), .val (.ref ta), .val (.ref ba), .val (.ref tp), .val (.ref br), .val (.int (Int32.ofNat N)), .val (.int (Int32.ofNat (nd N))), .val (.int (Int32.ofNat (46 + nd N))), .val (.ref ea), .val (.int (43 : Int32)), .unset] (43 : Int32) at_571 rfl (by decide) rfl rfl |>.bipush 576 (73 : Int32) at_574 (by decide) rfl
    obtain ⟨f42, G', As, Ks⟩ := G.castore 577 42 D.pad1 ⟨by decide, ofn_lt (i := 42) (Nat.lt_of_lt_of_le (nle rfl) (Nat.le_add_right 46 _)) hn31⟩ rfl (pad_lt l42) (Or.inr sea) (mm 0 rfl) at_576 rfl
    replace G := G'; clear G'
    obtain ⟨s43, q43, l43, D⟩ := DF.put1 l42 D As Ks np1 np2 np3 np4 (by decide)
    replace G := G.aload 579 at_577 rfl rfl rfl |>.iload 581 at_579 rfl rfl |>.iincV 584 #[.val (.int i0), .val (.int i1), .val (.int i2), .val (.int (1 : Int32)), .val (.int (1 : Int32)), .val (.int (Int32.ofNat x0)), .val (.int (Int32.ofNat x1)), .val (.int (Int32.ofNat x2)), .val (.int (Int32.ofNat x3)), .val (.ref ta), .val (.ref ba), .val (.ref tp), .val (.ref br), .val (.int (Int32.ofNat N)), .val (.int (Int32.ofNat (nd N))), .val (.int (Int32.ofNat (46 + nd N))), .val (.ref ea), .val (.int (44 : Int32)), .unset] (44 : Int32) at_581 rfl (by decide) rfl rfl |>.bipush 586 (100 : Int32) at_584 (by decide) rfl
    obtain ⟨f43, G', As, Ks⟩ := G.castore 587 43 D.pad1 ⟨by decide, ofn_lt (i := 43) (Nat.lt_of_lt_of_le (nle rfl) (Nat.le_add_right 46 _)) hn31⟩ rfl (pad_lt l43) (Or.inr sea) (mm 0 rfl) at_586 rfl
    replace G := G'; clear G'
    obtain ⟨s44, q44, l44, D⟩ := DF.put1 l43 D As Ks np1 np2 np3 np4 (by decide)
    replace G := G.aload 589 at_587 rfl rfl rfl |>.iload 591 at_589 rfl rfl |>.iincV 594 #[.val (.int i0), .val (.int i1), .val (.int i2), .val (.int (1 : Int32)), .val (.int (1 : Int32)), .val (.int (Int32.ofNat x0)), .val (.int (Int32.ofNat x1)), .val (.int (Int32.ofNat x2)), .val (.int (Int32.ofNat x3)), .val (.ref ta), .val (.ref ba), .val (.ref tp), .val (.ref br), .val (.int (Int32.ofNat N)), .val (.int (Int32.ofNat (nd N))), .val (.int (Int32.ofNat (46 + nd N))), .val (.ref ea), .val (.int (45 : Int32)), .unset] (45 : Int32) at_591 rfl (by decide) rfl rfl |>.bipush 596 (61 : Int32) at_594 (by decide) rfl
    obtain ⟨f44, G', As, Ks⟩ := G.castore 597 44 D.pad1 ⟨by decide, ofn_lt (i := 44) (Nat.lt_of_lt_of_le (nle rfl) (Nat.le_add_right 46 _)) hn31⟩ rfl (pad_lt l44) (Or.inr sea) (mm 0 rfl) at_596 rfl
    replace G := G'; clear G'
    obtain ⟨s45, q45, l45, D⟩ := DF.put1 l44 D As Ks np1 np2 np3 np4 (by decide)
    have e10 := dI_ten hN
    have hpre : (L59 ++ [Int32.ofNat x0] ++ L61 ++ [Int32.ofNat x2] ++ L63).map bytV = [Value.int (77 : Int32), Value.int (101 : Int32), Value.int (115 : Int32), Value.int (115 : Int32), Value.int (97 : Int32), Value.int (103 : Int32), Value.int (101 : Int32), Value.int (81 : Int32), Value.int (117 : Int32), Value.int (101 : Int32), Value.int (117 : Int32), Value.int (101 : Int32), Value.int (32 : Int32), Value.int (91 : Int32), Value.int (116 : Int32), Value.int (111 : Int32), Value.int (112 : Int32), Value.int (105 : Int32), Value.int (99 : Int32), Value.int (61 : Int32)] ++ [bytV (Int32.ofNat x0)] ++ [Value.int (44 : Int32), Value.int (32 : Int32), Value.int (98 : Int32), Value.int (114 : Int32), Value.int (111 : Int32), Value.int (107 : Int32), Value.int (101 : Int32), Value.int (114 : Int32), Value.int (78 : Int32), Value.int (97 : Int32), Value.int (109 : Int32), Value.int (101 : Int32), Value.int (61 : Int32)] ++ [bytV (Int32.ofNat x2)] ++ [Value.int (44 : Int32), Value.int (32 : Int32), Value.int (113 : Int32), Value.int (117 : Int32), Value.int (101 : Int32), Value.int (117 : Int32), Value.int (101 : Int32), Value.int (73 : Int32), Value.int (100 : Int32), Value.int (61 : Int32)] := by simp only [List.map_append, List.map_cons, List.map_nil, L59_b, L61_b, L63_b]
    have hp255 : ∀ x ∈ (L59 ++ [Int32.ofNat x0] ++ L61 ++ [Int32.ofNat x2] ++ L63), ¬ (255 : Int32) < x := mem5 L59_c (c255s (xs := [x0]) (allS hx0 (all0))) L61_c (c255s (xs := [x2]) (allS hx2 (all0))) L63_c
    have hs : s45 = (L59 ++ [Int32.ofNat x0] ++ L61 ++ [Int32.ofNat x2] ++ L63) := by simp only [q45, q44, q43, q42, q41, q40, q39, q38, q37, q36, q35, q34, q33, q32, q31, q30, q29, q28, q27, q26, q25, q24, q23, q22, q21, q20, q19, q18, q17, q16, q15, q14, q13, q12, q11, q10, q9, q8, q7, q6, q5, q4, q3, q2, q1, L59, L61, L63, List.append_assoc, List.cons_append, List.nil_append]
    rw [hs] at D
    have hpl : (L59 ++ [Int32.ofNat x0] ++ L61 ++ [Int32.ofNat x2] ++ L63).length = 45 := by rw [← hs]; exact l45
    refine tail 1 1 ta ba tp tpb br brb ea ke (46 + nd N) (L59 ++ [Int32.ofNat x0] ++ L61 ++ [Int32.ofNat x2] ++ L63) [bytV (Int32.ofNat x0)] [bytV (Int32.ofNat x2)] sea (by rw [hpl]; omega) (by rw [hpl]; decide) hp255 (by exact Or.inl rfl) (by exact Or.inl rfl) hpre np1 np2 np3 np4 _ (by rw [e10, List.append_nil]; exact D) ?_
    rw [e10, List.append_nil]
    rw [hpl]; exact (G.more (k := 16) (n := 400) (nle rfl) (nle rfl)).less (allS (mm 0 rfl) all0)
  · skip
    replace G := G.icmpF 61 at_58 (XT.ii_ne_f rfl) rfl |>.iconst 62 (1 : Int32) at_61 rfl rfl
    obtain ⟨ta, g0, kta, G', gta, sta, Eta, Ata⟩ := G.newarray 64 (hw _ (mm 0 rfl)) at_62 (by decide) 2 (nle rfl) (by decide) rfl (nle rfl) (nle rfl)
    replace G := G'; clear G'
    have Ata0 : Arv Z g0 ta kta .char 1 [(.int 0)] (.int 0) := Ata.pad (pad_rep [] (.int 0) 1)
    replace G := G.goto 70 at_64 (by decide) (by decide) |>.astore 72 #[.val (.int i0), .val (.int i1), .val (.int i2), .val (.int (1 : Int32)), .val (.int (2 : Int32)), .val (.int (Int32.ofNat x0)), .val (.int (Int32.ofNat x1)), .val (.int (Int32.ofNat x2)), .val (.int (Int32.ofNat x3)), .val (.ref ta), .unset, .unset, .unset, .unset, .unset, .unset, .unset, .unset, .unset] at_70 rfl rfl rfl |>.aload 74 at_72 rfl rfl rfl |>.iconst 75 (0 : Int32) at_74 rfl rfl |>.iload 77 at_75 rfl rfl
    obtain ⟨g1, G', As, Ks⟩ := G.castore 78 0 Ata0 (by decide) rfl (nle rfl) (Or.inr sta) (mm 0 rfl) at_77 rfl
    replace G := G'; clear G'
    replace Ata0 : Arv Z g1 ta kta .char 1 [(.int (Int32.ofNat x0))] (.int 0) := by have h := As; rw [show nar FieldType.char (Int32.ofNat x0) = Int32.ofNat x0 from i2c_n hx0] at h; exact h
    replace G := G.iloadN 79 at_78 rfl rfl |>.iconst 80 (2 : Int32) at_79 rfl rfl |>.icmpT 89 at_80 (XT.ii_ne_t (by decide)) (by decide) (by decide) |>.iload 91 at_89 rfl rfl |>.iconst 92 (1 : Int32) at_91 rfl rfl
    skip
    have lta := Ata0.lt
    replace G := G.icmpT 101 at_92 (XT.ii_ne_t (by decide)) (by decide) (by decide) |>.iconst 102 (2 : Int32) at_101 rfl rfl
    obtain ⟨ba, k0, kba, G', gba, sba, Eba, Aba⟩ := G.newarray 104 (hw _ (mm 0 rfl)) at_102 (by decide) 2 (nle rfl) (by decide) rfl (nle rfl) (nle rfl)
    replace G := G'; clear G'
    have nba : ta ≠ ba := ne_new gba lta
    replace Ata0 := Ata0.ext Eba
    have Aba0 : Arv Z k0 ba kba .char 2 [(.int 0), (.int 0)] (.int 0) := Aba.pad (pad_rep [] (.int 0) 2)
    replace G := G.astore 106 #[.val (.int i0), .val (.int i1), .val (.int i2), .val (.int (1 : Int32)), .val (.int (2 : Int32)), .val (.int (Int32.ofNat x0)), .val (.int (Int32.ofNat x1)), .val (.int (Int32.ofNat x2)), .val (.int (Int32.ofNat x3)), .val (.ref ta), .val (.ref ba), .unset, .unset, .unset, .unset, .unset, .unset, .unset, .unset] at_104 rfl rfl rfl |>.aload 108 at_106 rfl rfl rfl |>.iconst 109 (0 : Int32) at_108 rfl rfl |>.iload 111 at_109 rfl rfl
    obtain ⟨k1, G', As, Ks⟩ := G.castore 112 0 Aba0 (by decide) rfl (nle rfl) (Or.inr sba) (mm 0 rfl) at_111 rfl
    replace G := G'; clear G'
    replace Aba0 : Arv Z k1 ba kba .char 2 [(.int (Int32.ofNat x2)), (.int 0)] (.int 0) := by have h := As; rw [show nar FieldType.char (Int32.ofNat x2) = Int32.ofNat x2 from i2c_n hx2] at h; exact h
    replace Ata0 := Ata0.keep Ks (ninS nba nin0)
    replace G := G.iload 114 at_112 rfl rfl |>.iconst 115 (2 : Int32) at_114 rfl rfl |>.icmpF 118 at_115 (XT.ii_ne_f rfl) rfl |>.aload 120 at_118 rfl rfl rfl |>.iconst 121 (1 : Int32) at_120 rfl rfl |>.iload 123 at_121 rfl rfl
    obtain ⟨k2, G', As, Ks⟩ := G.castore 124 1 Aba0 (by decide) rfl (nle rfl) (Or.inr sba) (mm 0 rfl) at_123 rfl
    replace G := G'; clear G'
    replace Aba0 : Arv Z k2 ba kba .char 2 [(.int (Int32.ofNat x2)), (.int (Int32.ofNat x3))] (.int 0) := by have h := As; rw [show nar FieldType.char (Int32.ofNat x3) = Int32.ofNat x3 from i2c_n hx3] at h; exact h
    replace Ata0 := Ata0.keep Ks (ninS nba nin0)
    have nta := Ata0.lt
    obtain ⟨tp, e1, G', gtp, stp, Etp, Xtp, Dtp, Utp⟩ := G.new 127 (hw _ (mm 1 rfl)) (hw _ (mm 2 rfl)) (hw _ (mm 3 rfl)) at_124 rfl (nle rfl) (nle rfl)
    replace G := G'; clear G'
    have Fvtp := Dtp (Or.inr (hw _ (mm 29 rfl))) (ty := .array .byte) (by decide); have Fctp := Dtp (Or.inr (hw _ (mm 27 rfl))) (ty := .byte) (by decide)
    replace Ata0 := Ata0.ext Etp; replace Aba0 := Aba0.ext Etp
    replace G := G.dup 128 at_127 rfl rfl |>.aload 130 at_128 rfl rfl rfl
    obtain ⟨vT, e2, soT, G', KT, QT⟩ := G.callI 133 rfl rfl (hw _ (mm 4 rfl)) (hw _ (mm 5 rfl)) (hw _ (mm 3 rfl)) (hw _ (mm 6 rfl)) (by decide) [(.ref ta)] [(.ref tp)] rfl (c_strC l Z a0 hw hEW n0 c1 hc1 S1 tp ta kta [Int32.ofNat x0] G.old (G.nw (Or.inr stp)) Xtp Fvtp Fctp (nle rfl) (nle rfl) (by intro x hx; simp only [List.mem_cons, List.not_mem_nil, or_false] at hx; rcases hx with rfl <;> first | exact c255 hx0 | exact c255 hx0) Ata0) (lenOf pd___C_V rfl) at_130 rfl (nle rfl) (nle rfl) (nle rfl) (nle rfl) (allS (Or.inr stp) all0) (allS (mm 0 rfl) all0) (allS (mm 0 rfl) all0) rfl
    replace G := G'; clear G'
    obtain ⟨qT, tpb, hT, stpb, rfl⟩ := QT
    replace G := G.nov qT
    replace hT : Str Z e2 tp tpb [bytV (Int32.ofNat x0)] := hT
    skip
    replace Aba0 := Aba0.keep KT (ninS (fun q => ne_arr Xtp (hw _ (mm 2 rfl)) Aba0.choose_spec.1 q.symm) nin0)
    replace G := G.astore 135 #[.val (.int i0), .val (.int i1), .val (.int i2), .val (.int (1 : Int32)), .val (.int (2 : Int32)), .val (.int (Int32.ofNat x0)), .val (.int (Int32.ofNat x1)), .val (.int (Int32.ofNat x2)), .val (.int (Int32.ofNat x3)), .val (.ref ta), .val (.ref ba), .val (.ref tp), .unset, .unset, .unset, .unset, .unset, .unset, .unset] at_133 rfl rfl rfl
    have nw1 := hT.lt; have nw2 := hT.ltb
    obtain ⟨br, e3, G', gbr, sbr, Ebr, Xbr, Dbr, Ubr⟩ := G.new 138 (hw _ (mm 1 rfl)) (hw _ (mm 2 rfl)) (hw _ (mm 3 rfl)) at_135 rfl (nle rfl) (nle rfl)
    replace G := G'; clear G'
    have Fvbr := Dbr (Or.inr (hw _ (mm 29 rfl))) (ty := .array .byte) (by decide); have Fcbr := Dbr (Or.inr (hw _ (mm 27 rfl))) (ty := .byte) (by decide)
    replace Aba0 := Aba0.ext Ebr
    replace G := G.dup 139 at_138 rfl rfl |>.aload 141 at_139 rfl rfl rfl
    obtain ⟨vB, e4, soB, G', KB, QB⟩ := G.callI 144 rfl rfl (hw _ (mm 4 rfl)) (hw _ (mm 5 rfl)) (hw _ (mm 3 rfl)) (hw _ (mm 6 rfl)) (by decide) [(.ref ba)] [(.ref br)] rfl (c_strC l Z a0 hw hEW n0 c1 hc1 S1 br ba kba [Int32.ofNat x2, Int32.ofNat x3] G.old (G.nw (Or.inr sbr)) Xbr Fvbr Fcbr (nle rfl) (nle rfl) (by intro x hx; simp only [List.mem_cons, List.not_mem_nil, or_false] at hx; rcases hx with rfl | rfl <;> first | exact c255 hx2 | exact c255 hx3) Aba0) (lenOf pd___C_V rfl) at_141 rfl (nle rfl) (nle rfl) (nle rfl) (nle rfl) (allS (Or.inr sbr) all0) (allS (mm 0 rfl) all0) (allS (mm 0 rfl) all0) rfl
    replace G := G'; clear G'
    obtain ⟨qB, brb, hB, sbrb, rfl⟩ := QB
    replace G := G.nov qB
    replace hB : Str Z e4 br brb [bytV (Int32.ofNat x2), bytV (Int32.ofNat x3)] := hB
    replace hT := (hT.ext Ebr).keep KB (ninS (ne_new gbr nw1) nin0) (ninS (ne_new gbr nw2) nin0)
    replace G := G.astore 146 #[.val (.int i0), .val (.int i1), .val (.int i2), .val (.int (1 : Int32)), .val (.int (2 : Int32)), .val (.int (Int32.ofNat x0)), .val (.int (Int32.ofNat x1)), .val (.int (Int32.ofNat x2)), .val (.int (Int32.ofNat x3)), .val (.ref ta), .val (.ref ba), .val (.ref tp), .val (.ref br), .unset, .unset, .unset, .unset, .unset, .unset] at_144 rfl rfl rfl |>.iloadN 147 at_146 rfl rfl |>.ldcI 149 (hw _ (mm 30 rfl)) at_147 rfl |>.iand 150 at_149 rfl |>.top (y := (.int (Int32.ofNat N))) (congrArg Value.int eN) |>.istore 152 #[.val (.int i0), .val (.int i1), .val (.int i2), .val (.int (1 : Int32)), .val (.int (2 : Int32)), .val (.int (Int32.ofNat x0)), .val (.int (Int32.ofNat x1)), .val (.int (Int32.ofNat x2)), .val (.int (Int32.ofNat x3)), .val (.ref ta), .val (.ref ba), .val (.ref tp), .val (.ref br), .val (.int (Int32.ofNat N)), .unset, .unset, .unset, .unset, .unset] at_150 rfl rfl |>.iload 154 at_152 rfl rfl
    obtain ⟨vd, e_5, sod, G', Kd, Qd⟩ := G.callS 157 (hw _ (mm 31 rfl)) (hw _ (mm 32 rfl)) (hw _ (mm 33 rfl)) (hw _ (mm 34 rfl)) (by decide) [(.int (Int32.ofNat N))] [] rfl (c_dig l Z a0 hw hEW n0 c1 hc1 S1 N G.old hN) (lenOf pd__I_I rfl) at_154 rfl (nle rfl) (nle rfl) (nle rfl) (nle rfl) all0 all0 all0 rfl
    replace G := G'; clear G'
    obtain ⟨wd, qd, rfl, ed, rfl⟩ := Qd
    replace G := G.val qd
    subst ed
    replace G := G.istore 159 #[.val (.int i0), .val (.int i1), .val (.int i2), .val (.int (1 : Int32)), .val (.int (2 : Int32)), .val (.int (Int32.ofNat x0)), .val (.int (Int32.ofNat x1)), .val (.int (Int32.ofNat x2)), .val (.int (Int32.ofNat x3)), .val (.ref ta), .val (.ref ba), .val (.ref tp), .val (.ref br), .val (.int (Int32.ofNat N)), .val (.int (Int32.ofNat (nd N))), .unset, .unset, .unset, .unset] at_157 rfl rfl |>.bipush 161 (44 : Int32) at_159 (by decide) rfl |>.iloadN 162 at_161 rfl rfl |>.iadd 163 at_162 rfl |>.top (y := (.int (45 : Int32))) (by decide) |>.iload 165 at_163 rfl rfl |>.iadd 166 at_165 rfl |>.top (y := (.int (47 : Int32))) (by decide)
    replace G := G.iload 168 at_166 rfl rfl |>.iadd 169 at_168 rfl |>.top (y := (.int (Int32.ofNat (47 + nd N)))) (congrArg Value.int (ofn_add 47 _)) |>.istore 171 #[.val (.int i0), .val (.int i1), .val (.int i2), .val (.int (1 : Int32)), .val (.int (2 : Int32)), .val (.int (Int32.ofNat x0)), .val (.int (Int32.ofNat x1)), .val (.int (Int32.ofNat x2)), .val (.int (Int32.ofNat x3)), .val (.ref ta), .val (.ref ba), .val (.ref tp), .val (.ref br), .val (.int (Int32.ofNat N)), .val (.int (Int32.ofNat (nd N))), .val (.int (Int32.ofNat (47 + nd N))), .unset, .unset, .unset] at_169 rfl rfl |>.iload 173 at_171 rfl rfl
    have szm := G.sz
    obtain ⟨vK, e6, soK, G', KK, QK⟩ := G.callS 176 (hw _ (mm 35 rfl)) (hw _ (mm 36 rfl)) (hw _ (mm 33 rfl)) (hw _ (mm 37 rfl)) (by decide) [(.int (Int32.ofNat (47 + nd N)))] [] rfl (c_mk l Z a0 hw hEW n0 c1 hc1 S1 (47 + nd N) G.old (by omega) (by omega)) (lenOf pd__I__C rfl) at_173 rfl (nle rfl) (nle rfl) (nle rfl) (nle rfl) all0 all0 all0 rfl
    replace G := G'; clear G'
    obtain ⟨wK, qK, ea, rfl, ⟨ke, Ae⟩, sea', rfl⟩ := QK
    replace G := G.val qK
    have np1 : tp ≠ ea := (ne_ge hT.lt sea').symm; have np2 : tpb ≠ ea := (ne_ge hT.ltb sea').symm; have np3 : br ≠ ea := (ne_ge hB.lt sea').symm; have np4 : brb ≠ ea := (ne_ge hB.ltb sea').symm
    replace hT := hT.keep KK nin0 nin0; replace hB := hB.keep KK nin0 nin0; have sea := Nat.le_trans szm sea'
    have D : DF Z e6 ea ke (47 + nd N) [] tp tpb br brb [bytV (Int32.ofNat x0)] [bytV (Int32.ofNat x2), bytV (Int32.ofNat x3)] := ⟨Ae, hT, hB⟩
    have hn31 : 47 + nd N < 2147483648 := by omega
    have l0 : ([] : List Int32).length = 0 := rfl
    replace G := G.astore 178 #[.val (.int i0), .val (.int i1), .val (.int i2), .val (.int (1 : Int32)), .val (.int (2 : Int32)), .val (.int (Int32.ofNat x0)), .val (.int (Int32.ofNat x1)), .val (.int (Int32.ofNat x2)), .val (.int (Int32.ofNat x3)), .val (.ref ta), .val (.ref ba), .val (.ref tp), .val (.ref br), .val (.int (Int32.ofNat N)), .val (.int (Int32.ofNat (nd N))), .val (.int (Int32.ofNat (47 + nd N))), .val (.ref ea), .unset, .unset] at_176 rfl rfl rfl |>.aload 180 at_178 rfl rfl rfl |>.iconst 181 (0 : Int32) at_180 rfl rfl |>.bipush 183 (77 : Int32) at_181 (by decide) rfl
    obtain ⟨f0, G', As, Ks⟩ := G.castore 184 0 D.pad1 ⟨by decide, ofn_lt (i := 0) (Nat.lt_of_lt_of_le (nle rfl) (Nat.le_add_right 47 _)) hn31⟩ rfl (pad_lt l0) (Or.inr sea) (mm 0 rfl) at_183 rfl
    replace G := G'; clear G'
    obtain ⟨s1, q1, l1, D⟩ := DF.put1 l0 D As Ks np1 np2 np3 np4 (by decide)
    replace G := G.aload 186 at_184 rfl rfl rfl |>.iconst 187 (1 : Int32) at_186 rfl rfl |>.bipush 189 (101 : Int32) at_187 (by decide) rfl
    obtain ⟨f1, G', As, Ks⟩ := G.castore 190 1 D.pad1 ⟨by decide, ofn_lt (i := 1) (Nat.lt_of_lt_of_le (nle rfl) (Nat.le_add_right 47 _)) hn31⟩ rfl (pad_lt l1) (Or.inr sea) (mm 0 rfl) at_189 rfl
    replace G := G'; clear G'
    obtain ⟨s2, q2, l2, D⟩ := DF.put1 l1 D As Ks np1 np2 np3 np4 (by decide)
    replace G := G.aload 192 at_190 rfl rfl rfl |>.iconst 193 (2 : Int32) at_192 rfl rfl |>.bipush 195 (115 : Int32) at_193 (by decide) rfl
    obtain ⟨f2, G', As, Ks⟩ := G.castore 196 2 D.pad1 ⟨by decide, ofn_lt (i := 2) (Nat.lt_of_lt_of_le (nle rfl) (Nat.le_add_right 47 _)) hn31⟩ rfl (pad_lt l2) (Or.inr sea) (mm 0 rfl) at_195 rfl
    replace G := G'; clear G'
    obtain ⟨s3, q3, l3, D⟩ := DF.put1 l2 D As Ks np1 np2 np3 np4 (by decide)
    replace G := G.aload 198 at_196 rfl rfl rfl |>.iconst 199 (3 : Int32) at_198 rfl rfl |>.bipush 201 (115 : Int32) at_199 (by decide) rfl
    obtain ⟨f3, G', As, Ks⟩ := G.castore 202 3 D.pad1 ⟨by decide, ofn_lt (i := 3) (Nat.lt_of_lt_of_le (nle rfl) (Nat.le_add_right 47 _)) hn31⟩ rfl (pad_lt l3) (Or.inr sea) (mm 0 rfl) at_201 rfl
    replace G := G'; clear G'
    obtain ⟨s4, q4, l4, D⟩ := DF.put1 l3 D As Ks np1 np2 np3 np4 (by decide)
    replace G := G.aload 204 at_202 rfl rfl rfl |>.iconst 205 (4 : Int32) at_204 rfl rfl |>.bipush 207 (97 : Int32) at_205 (by decide) rfl
    obtain ⟨f4, G', As, Ks⟩ := G.castore 208 4 D.pad1 ⟨by decide, ofn_lt (i := 4) (Nat.lt_of_lt_of_le (nle rfl) (Nat.le_add_right 47 _)) hn31⟩ rfl (pad_lt l4) (Or.inr sea) (mm 0 rfl) at_207 rfl
    replace G := G'; clear G'
    obtain ⟨s5, q5, l5, D⟩ := DF.put1 l4 D As Ks np1 np2 np3 np4 (by decide)
    replace G := G.aload 210 at_208 rfl rfl rfl |>.iconst 211 (5 : Int32) at_210 rfl rfl |>.bipush 213 (103 : Int32) at_211 (by decide) rfl
    obtain ⟨f5, G', As, Ks⟩ := G.castore 214 5 D.pad1 ⟨by decide, ofn_lt (i := 5) (Nat.lt_of_lt_of_le (nle rfl) (Nat.le_add_right 47 _)) hn31⟩ rfl (pad_lt l5) (Or.inr sea) (mm 0 rfl) at_213 rfl
    replace G := G'; clear G'
    obtain ⟨s6, q6, l6, D⟩ := DF.put1 l5 D As Ks np1 np2 np3 np4 (by decide)
    replace G := G.aload 216 at_214 rfl rfl rfl |>.bipush 218 (6 : Int32) at_216 (by decide) rfl |>.bipush 220 (101 : Int32) at_218 (by decide) rfl
    obtain ⟨f6, G', As, Ks⟩ := G.castore 221 6 D.pad1 ⟨by decide, ofn_lt (i := 6) (Nat.lt_of_lt_of_le (nle rfl) (Nat.le_add_right 47 _)) hn31⟩ rfl (pad_lt l6) (Or.inr sea) (mm 0 rfl) at_220 rfl
    replace G := G'; clear G'
    obtain ⟨s7, q7, l7, D⟩ := DF.put1 l6 D As Ks np1 np2 np3 np4 (by decide)
    replace G := G.aload 223 at_221 rfl rfl rfl |>.bipush 225 (7 : Int32) at_223 (by decide) rfl |>.bipush 227 (81 : Int32) at_225 (by decide) rfl
    obtain ⟨f7, G', As, Ks⟩ := G.castore 228 7 D.pad1 ⟨by decide, ofn_lt (i := 7) (Nat.lt_of_lt_of_le (nle rfl) (Nat.le_add_right 47 _)) hn31⟩ rfl (pad_lt l7) (Or.inr sea) (mm 0 rfl) at_227 rfl
    replace G := G'; clear G'
    obtain ⟨s8, q8, l8, D⟩ := DF.put1 l7 D As Ks np1 np2 np3 np4 (by decide)
    replace G := G.aload 230 at_228 rfl rfl rfl |>.bipush 232 (8 : Int32) at_230 (by decide) rfl |>.bipush 234 (117 : Int32) at_232 (by decide) rfl
    obtain ⟨f8, G', As, Ks⟩ := G.castore 235 8 D.pad1 ⟨by decide, ofn_lt (i := 8) (Nat.lt_of_lt_of_le (nle rfl) (Nat.le_add_right 47 _)) hn31⟩ rfl (pad_lt l8) (Or.inr sea) (mm 0 rfl) at_234 rfl
    replace G := G'; clear G'
    obtain ⟨s9, q9, l9, D⟩ := DF.put1 l8 D As Ks np1 np2 np3 np4 (by decide)
    replace G := G.aload 237 at_235 rfl rfl rfl |>.bipush 239 (9 : Int32) at_237 (by decide) rfl |>.bipush 241 (101 : Int32) at_239 (by decide) rfl
    obtain ⟨f9, G', As, Ks⟩ := G.castore 242 9 D.pad1 ⟨by decide, ofn_lt (i := 9) (Nat.lt_of_lt_of_le (nle rfl) (Nat.le_add_right 47 _)) hn31⟩ rfl (pad_lt l9) (Or.inr sea) (mm 0 rfl) at_241 rfl
    replace G := G'; clear G'
    obtain ⟨s10, q10, l10, D⟩ := DF.put1 l9 D As Ks np1 np2 np3 np4 (by decide)
    replace G := G.aload 244 at_242 rfl rfl rfl |>.bipush 246 (10 : Int32) at_244 (by decide) rfl |>.bipush 248 (117 : Int32) at_246 (by decide) rfl
    obtain ⟨f10, G', As, Ks⟩ := G.castore 249 10 D.pad1 ⟨by decide, ofn_lt (i := 10) (Nat.lt_of_lt_of_le (nle rfl) (Nat.le_add_right 47 _)) hn31⟩ rfl (pad_lt l10) (Or.inr sea) (mm 0 rfl) at_248 rfl
    replace G := G'; clear G'
    obtain ⟨s11, q11, l11, D⟩ := DF.put1 l10 D As Ks np1 np2 np3 np4 (by decide)
    replace G := G.aload 251 at_249 rfl rfl rfl |>.bipush 253 (11 : Int32) at_251 (by decide) rfl |>.bipush 255 (101 : Int32) at_253 (by decide) rfl
    obtain ⟨f11, G', As, Ks⟩ := G.castore 256 11 D.pad1 ⟨by decide, ofn_lt (i := 11) (Nat.lt_of_lt_of_le (nle rfl) (Nat.le_add_right 47 _)) hn31⟩ rfl (pad_lt l11) (Or.inr sea) (mm 0 rfl) at_255 rfl
    replace G := G'; clear G'
    obtain ⟨s12, q12, l12, D⟩ := DF.put1 l11 D As Ks np1 np2 np3 np4 (by decide)
    replace G := G.aload 258 at_256 rfl rfl rfl |>.bipush 260 (12 : Int32) at_258 (by decide) rfl |>.bipush 262 (32 : Int32) at_260 (by decide) rfl
    obtain ⟨f12, G', As, Ks⟩ := G.castore 263 12 D.pad1 ⟨by decide, ofn_lt (i := 12) (Nat.lt_of_lt_of_le (nle rfl) (Nat.le_add_right 47 _)) hn31⟩ rfl (pad_lt l12) (Or.inr sea) (mm 0 rfl) at_262 rfl
    replace G := G'; clear G'
    obtain ⟨s13, q13, l13, D⟩ := DF.put1 l12 D As Ks np1 np2 np3 np4 (by decide)
    replace G := G.aload 265 at_263 rfl rfl rfl |>.bipush 267 (13 : Int32) at_265 (by decide) rfl |>.bipush 269 (91 : Int32) at_267 (by decide) rfl
    obtain ⟨f13, G', As, Ks⟩ := G.castore 270 13 D.pad1 ⟨by decide, ofn_lt (i := 13) (Nat.lt_of_lt_of_le (nle rfl) (Nat.le_add_right 47 _)) hn31⟩ rfl (pad_lt l13) (Or.inr sea) (mm 0 rfl) at_269 rfl
    replace G := G'; clear G'
    obtain ⟨s14, q14, l14, D⟩ := DF.put1 l13 D As Ks np1 np2 np3 np4 (by decide)
    replace G := G.aload 272 at_270 rfl rfl rfl |>.bipush 274 (14 : Int32) at_272 (by decide) rfl |>.bipush 276 (116 : Int32) at_274 (by decide) rfl
    obtain ⟨f14, G', As, Ks⟩ := G.castore 277 14 D.pad1 ⟨by decide, ofn_lt (i := 14) (Nat.lt_of_lt_of_le (nle rfl) (Nat.le_add_right 47 _)) hn31⟩ rfl (pad_lt l14) (Or.inr sea) (mm 0 rfl) at_276 rfl
    replace G := G'; clear G'
    obtain ⟨s15, q15, l15, D⟩ := DF.put1 l14 D As Ks np1 np2 np3 np4 (by decide)
    replace G := G.aload 279 at_277 rfl rfl rfl |>.bipush 281 (15 : Int32) at_279 (by decide) rfl |>.bipush 283 (111 : Int32) at_281 (by decide) rfl
    obtain ⟨f15, G', As, Ks⟩ := G.castore 284 15 D.pad1 ⟨by decide, ofn_lt (i := 15) (Nat.lt_of_lt_of_le (nle rfl) (Nat.le_add_right 47 _)) hn31⟩ rfl (pad_lt l15) (Or.inr sea) (mm 0 rfl) at_283 rfl
    replace G := G'; clear G'
    obtain ⟨s16, q16, l16, D⟩ := DF.put1 l15 D As Ks np1 np2 np3 np4 (by decide)
    replace G := G.aload 286 at_284 rfl rfl rfl |>.bipush 288 (16 : Int32) at_286 (by decide) rfl |>.bipush 290 (112 : Int32) at_288 (by decide) rfl
    obtain ⟨f16, G', As, Ks⟩ := G.castore 291 16 D.pad1 ⟨by decide, ofn_lt (i := 16) (Nat.lt_of_lt_of_le (nle rfl) (Nat.le_add_right 47 _)) hn31⟩ rfl (pad_lt l16) (Or.inr sea) (mm 0 rfl) at_290 rfl
    replace G := G'; clear G'
    obtain ⟨s17, q17, l17, D⟩ := DF.put1 l16 D As Ks np1 np2 np3 np4 (by decide)
    replace G := G.aload 293 at_291 rfl rfl rfl |>.bipush 295 (17 : Int32) at_293 (by decide) rfl |>.bipush 297 (105 : Int32) at_295 (by decide) rfl
    obtain ⟨f17, G', As, Ks⟩ := G.castore 298 17 D.pad1 ⟨by decide, ofn_lt (i := 17) (Nat.lt_of_lt_of_le (nle rfl) (Nat.le_add_right 47 _)) hn31⟩ rfl (pad_lt l17) (Or.inr sea) (mm 0 rfl) at_297 rfl
    replace G := G'; clear G'
    obtain ⟨s18, q18, l18, D⟩ := DF.put1 l17 D As Ks np1 np2 np3 np4 (by decide)
    replace G := G.aload 300 at_298 rfl rfl rfl |>.bipush 302 (18 : Int32) at_300 (by decide) rfl |>.bipush 304 (99 : Int32) at_302 (by decide) rfl
    obtain ⟨f18, G', As, Ks⟩ := G.castore 305 18 D.pad1 ⟨by decide, ofn_lt (i := 18) (Nat.lt_of_lt_of_le (nle rfl) (Nat.le_add_right 47 _)) hn31⟩ rfl (pad_lt l18) (Or.inr sea) (mm 0 rfl) at_304 rfl
    replace G := G'; clear G'
    obtain ⟨s19, q19, l19, D⟩ := DF.put1 l18 D As Ks np1 np2 np3 np4 (by decide)
    replace G := G.aload 307 at_305 rfl rfl rfl |>.bipush 309 (19 : Int32) at_307 (by decide) rfl |>.bipush 311 (61 : Int32) at_309 (by decide) rfl
    obtain ⟨f19, G', As, Ks⟩ := G.castore 312 19 D.pad1 ⟨by decide, ofn_lt (i := 19) (Nat.lt_of_lt_of_le (nle rfl) (Nat.le_add_right 47 _)) hn31⟩ rfl (pad_lt l19) (Or.inr sea) (mm 0 rfl) at_311 rfl
    replace G := G'; clear G'
    obtain ⟨s20, q20, l20, D⟩ := DF.put1 l19 D As Ks np1 np2 np3 np4 (by decide)
    replace G := G.bipush 314 (20 : Int32) at_312 (by decide) rfl |>.istore 316 #[.val (.int i0), .val (.int i1), .val (.int i2), .val (.int (1 : Int32)), .val (.int (2 : Int32)), .val (.int (Int32.ofNat x0)), .val (.int (Int32.ofNat x1)), .val (.int (Int32.ofNat x2)), .val (.int (Int32.ofNat x3)), .val (.ref ta), .val (.ref ba), .val (.ref tp), .val (.ref br), .val (.int (Int32.ofNat N)), .val (.int (Int32.ofNat (nd N))), .val (.int (Int32.ofNat (47 + nd N))), .val (.ref ea), .val (.int (20 : Int32)), .unset] at_314 rfl rfl |>.aload 318 at_316 rfl rfl rfl |>.iload 320 at_318 rfl rfl |>.iincV 323 #[.val (.int i0), .val (.int i1), .val (.int i2), .val (.int (1 : Int32)), .val (.int (2 : Int32)), .val (.int (Int32.ofNat x0)), .val (.int (Int32.ofNat x1)), .val (.int (Int32.ofNat x2)), .val (.int (Int32.ofNat x3)), .val (.ref ta), .val (.ref ba), .val (.ref tp), .val (.ref br), .val (.int (Int32.ofNat N)), .val (.int (Int32.ofNat (nd N))), .val (.int (Int32.ofNat (47 + nd N))), .val (.ref ea), .val (.int (21 : Int32)), .unset] (21 : Int32) at_320 rfl (by decide) rfl rfl |>.iload 325 at_323 rfl rfl
    obtain ⟨f20, G', As, Ks⟩ := G.castore 326 20 D.pad1 ⟨by decide, ofn_lt (i := 20) (Nat.lt_of_lt_of_le (nle rfl) (Nat.le_add_right 47 _)) hn31⟩ rfl (pad_lt l20) (Or.inr sea) (mm 0 rfl) at_325 rfl
    replace G := G'; clear G'
    obtain ⟨s21, q21, l21, D⟩ := DF.put1 l20 D As Ks np1 np2 np3 np4 (i2c_n hx0)
    replace G := G.iloadN 327 at_326 rfl rfl |>.iconst 328 (2 : Int32) at_327 rfl rfl |>.icmpT 341 at_328 (XT.ii_ne_t (by decide)) (by decide) (by decide) |>.aload 343 at_341 rfl rfl rfl |>.iload 345 at_343 rfl rfl |>.iincV 348 #[.val (.int i0), .val (.int i1), .val (.int i2), .val (.int (1 : Int32)), .val (.int (2 : Int32)), .val (.int (Int32.ofNat x0)), .val (.int (Int32.ofNat x1)), .val (.int (Int32.ofNat x2)), .val (.int (Int32.ofNat x3)), .val (.ref ta), .val (.ref ba), .val (.ref tp), .val (.ref br), .val (.int (Int32.ofNat N)), .val (.int (Int32.ofNat (nd N))), .val (.int (Int32.ofNat (47 + nd N))), .val (.ref ea), .val (.int (22 : Int32)), .unset] (22 : Int32) at_345 rfl (by decide) rfl rfl |>.bipush 350 (44 : Int32) at_348 (by decide) rfl
    obtain ⟨f21, G', As, Ks⟩ := G.castore 351 21 D.pad1 ⟨by decide, ofn_lt (i := 21) (Nat.lt_of_lt_of_le (nle rfl) (Nat.le_add_right 47 _)) hn31⟩ rfl (pad_lt l21) (Or.inr sea) (mm 0 rfl) at_350 rfl
    replace G := G'; clear G'
    obtain ⟨s22, q22, l22, D⟩ := DF.put1 l21 D As Ks np1 np2 np3 np4 (by decide)
    replace G := G.aload 353 at_351 rfl rfl rfl |>.iload 355 at_353 rfl rfl |>.iincV 358 #[.val (.int i0), .val (.int i1), .val (.int i2), .val (.int (1 : Int32)), .val (.int (2 : Int32)), .val (.int (Int32.ofNat x0)), .val (.int (Int32.ofNat x1)), .val (.int (Int32.ofNat x2)), .val (.int (Int32.ofNat x3)), .val (.ref ta), .val (.ref ba), .val (.ref tp), .val (.ref br), .val (.int (Int32.ofNat N)), .val (.int (Int32.ofNat (nd N))), .val (.int (Int32.ofNat (47 + nd N))), .val (.ref ea), .val (.int (23 : Int32)), .unset] (23 : Int32) at_355 rfl (by decide) rfl rfl |>.bipush 360 (32 : Int32) at_358 (by decide) rfl
    obtain ⟨f22, G', As, Ks⟩ := G.castore 361 22 D.pad1 ⟨by decide, ofn_lt (i := 22) (Nat.lt_of_lt_of_le (nle rfl) (Nat.le_add_right 47 _)) hn31⟩ rfl (pad_lt l22) (Or.inr sea) (mm 0 rfl) at_360 rfl
    replace G := G'; clear G'
    obtain ⟨s23, q23, l23, D⟩ := DF.put1 l22 D As Ks np1 np2 np3 np4 (by decide)
    replace G := G.aload 363 at_361 rfl rfl rfl |>.iload 365 at_363 rfl rfl |>.iincV 368 #[.val (.int i0), .val (.int i1), .val (.int i2), .val (.int (1 : Int32)), .val (.int (2 : Int32)), .val (.int (Int32.ofNat x0)), .val (.int (Int32.ofNat x1)), .val (.int (Int32.ofNat x2)), .val (.int (Int32.ofNat x3)), .val (.ref ta), .val (.ref ba), .val (.ref tp), .val (.ref br), .val (.int (Int32.ofNat N)), .val (.int (Int32.ofNat (nd N))), .val (.int (Int32.ofNat (47 + nd N))), .val (.ref ea), .val (.int (24 : Int32)), .unset] (24 : Int32) at_365 rfl (by decide) rfl rfl |>.bipush 370 (98 : Int32) at_368 (by decide) rfl
    obtain ⟨f23, G', As, Ks⟩ := G.castore 371 23 D.pad1 ⟨by decide, ofn_lt (i := 23) (Nat.lt_of_lt_of_le (nle rfl) (Nat.le_add_right 47 _)) hn31⟩ rfl (pad_lt l23) (Or.inr sea) (mm 0 rfl) at_370 rfl
    replace G := G'; clear G'
    obtain ⟨s24, q24, l24, D⟩ := DF.put1 l23 D As Ks np1 np2 np3 np4 (by decide)
    replace G := G.aload 373 at_371 rfl rfl rfl |>.iload 375 at_373 rfl rfl |>.iincV 378 #[.val (.int i0), .val (.int i1), .val (.int i2), .val (.int (1 : Int32)), .val (.int (2 : Int32)), .val (.int (Int32.ofNat x0)), .val (.int (Int32.ofNat x1)), .val (.int (Int32.ofNat x2)), .val (.int (Int32.ofNat x3)), .val (.ref ta), .val (.ref ba), .val (.ref tp), .val (.ref br), .val (.int (Int32.ofNat N)), .val (.int (Int32.ofNat (nd N))), .val (.int (Int32.ofNat (47 + nd N))), .val (.ref ea), .val (.int (25 : Int32)), .unset] (25 : Int32) at_375 rfl (by decide) rfl rfl |>.bipush 380 (114 : Int32) at_378 (by decide) rfl
    obtain ⟨f24, G', As, Ks⟩ := G.castore 381 24 D.pad1 ⟨by decide, ofn_lt (i := 24) (Nat.lt_of_lt_of_le (nle rfl) (Nat.le_add_right 47 _)) hn31⟩ rfl (pad_lt l24) (Or.inr sea) (mm 0 rfl) at_380 rfl
    replace G := G'; clear G'
    obtain ⟨s25, q25, l25, D⟩ := DF.put1 l24 D As Ks np1 np2 np3 np4 (by decide)
    replace G := G.aload 383 at_381 rfl rfl rfl |>.iload 385 at_383 rfl rfl |>.iincV 388 #[.val (.int i0), .val (.int i1), .val (.int i2), .val (.int (1 : Int32)), .val (.int (2 : Int32)), .val (.int (Int32.ofNat x0)), .val (.int (Int32.ofNat x1)), .val (.int (Int32.ofNat x2)), .val (.int (Int32.ofNat x3)), .val (.ref ta), .val (.ref ba), .val (.ref tp), .val (.ref br), .val (.int (Int32.ofNat N)), .val (.int (Int32.ofNat (nd N))), .val (.int (Int32.ofNat (47 + nd N))), .val (.ref ea), .val (.int (26 : Int32)), .unset] (26 : Int32) at_385 rfl (by decide) rfl rfl |>.bipush 390 (111 : Int32) at_388 (by decide) rfl
    obtain ⟨f25, G', As, Ks⟩ := G.castore 391 25 D.pad1 ⟨by decide, ofn_lt (i := 25) (Nat.lt_of_lt_of_le (nle rfl) (Nat.le_add_right 47 _)) hn31⟩ rfl (pad_lt l25) (Or.inr sea) (mm 0 rfl) at_390 rfl
    replace G := G'; clear G'
    obtain ⟨s26, q26, l26, D⟩ := DF.put1 l25 D As Ks np1 np2 np3 np4 (by decide)
    replace G := G.aload 393 at_391 rfl rfl rfl |>.iload 395 at_393 rfl rfl |>.iincV 398 #[.val (.int i0), .val (.int i1), .val (.int i2), .val (.int (1 : Int32)), .val (.int (2 : Int32)), .val (.int (Int32.ofNat x0)), .val (.int (Int32.ofNat x1)), .val (.int (Int32.ofNat x2)), .val (.int (Int32.ofNat x3)), .val (.ref ta), .val (.ref ba), .val (.ref tp), .val (.ref br), .val (.int (Int32.ofNat N)), .val (.int (Int32.ofNat (nd N))), .val (.int (Int32.ofNat (47 + nd N))), .val (.ref ea), .val (.int (27 : Int32)), .unset] (27 : Int32) at_395 rfl (by decide) rfl rfl |>.bipush 400 (107 : Int32) at_398 (by decide) rfl
    obtain ⟨f26, G', As, Ks⟩ := G.castore 401 26 D.pad1 ⟨by decide, ofn_lt (i := 26) (Nat.lt_of_lt_of_le (nle rfl) (Nat.le_add_right 47 _)) hn31⟩ rfl (pad_lt l26) (Or.inr sea) (mm 0 rfl) at_400 rfl
    replace G := G'; clear G'
    obtain ⟨s27, q27, l27, D⟩ := DF.put1 l26 D As Ks np1 np2 np3 np4 (by decide)
    replace G := G.aload 403 at_401 rfl rfl rfl |>.iload 405 at_403 rfl rfl |>.iincV 408 #[.val (.int i0), .val (.int i1), .val (.int i2), .val (.int (1 : Int32)), .val (.int (2 : Int32)), .val (.int (Int32.ofNat x0)), .val (.int (Int32.ofNat x1)), .val (.int (Int32.ofNat x2)), .val (.int (Int32.ofNat x3)), .val (.ref ta), .val (.ref ba), .val (.ref tp), .val (.ref br), .val (.int (Int32.ofNat N)), .val (.int (Int32.ofNat (nd N))), .val (.int (Int32.ofNat (47 + nd N))), .val (.ref ea), .val (.int (28 : Int32)), .unset] (28 : Int32) at_405 rfl (by decide) rfl rfl |>.bipush 410 (101 : Int32) at_408 (by decide) rfl
    obtain ⟨f27, G', As, Ks⟩ := G.castore 411 27 D.pad1 ⟨by decide, ofn_lt (i := 27) (Nat.lt_of_lt_of_le (nle rfl) (Nat.le_add_right 47 _)) hn31⟩ rfl (pad_lt l27) (Or.inr sea) (mm 0 rfl) at_410 rfl
    replace G := G'; clear G'
    obtain ⟨s28, q28, l28, D⟩ := DF.put1 l27 D As Ks np1 np2 np3 np4 (by decide)
    replace G := G.aload 413 at_411 rfl rfl rfl |>.iload 415 at_413 rfl rfl |>.iincV 418 #[.val (.int i0), .val (.int i1), .val (.int i2), .val (.int (1 : Int32)), .val (.int (2 : Int32)), .val (.int (Int32.ofNat x0)), .val (.int (Int32.ofNat x1)), .val (.int (Int32.ofNat x2)), .val (.int (Int32.ofNat x3)), .val (.ref ta), .val (.ref ba), .val (.ref tp), .val (.ref br), .val (.int (Int32.ofNat N)), .val (.int (Int32.ofNat (nd N))), .val (.int (Int32.ofNat (47 + nd N))), .val (.ref ea), .val (.int (29 : Int32)), .unset] (29 : Int32) at_415 rfl (by decide) rfl rfl |>.bipush 420 (114 : Int32) at_418 (by decide) rfl
    obtain ⟨f28, G', As, Ks⟩ := G.castore 421 28 D.pad1 ⟨by decide, ofn_lt (i := 28) (Nat.lt_of_lt_of_le (nle rfl) (Nat.le_add_right 47 _)) hn31⟩ rfl (pad_lt l28) (Or.inr sea) (mm 0 rfl) at_420 rfl
    replace G := G'; clear G'
    obtain ⟨s29, q29, l29, D⟩ := DF.put1 l28 D As Ks np1 np2 np3 np4 (by decide)
    replace G := G.aload 423 at_421 rfl rfl rfl |>.iload 425 at_423 rfl rfl |>.iincV 428 #[.val (.int i0), .val (.int i1), .val (.int i2), .val (.int (1 : Int32)), .val (.int (2 : Int32)), .val (.int (Int32.ofNat x0)), .val (.int (Int32.ofNat x1)), .val (.int (Int32.ofNat x2)), .val (.int (Int32.ofNat x3)), .val (.ref ta), .val (.ref ba), .val (.ref tp), .val (.ref br), .val (.int (Int32.ofNat N)), .val (.int (Int32.ofNat (nd N))), .val (.int (Int32.ofNat (47 + nd N))), .val (.ref ea), .val (.int (30 : Int32)), .unset] (30 : Int32) at_425 rfl (by decide) rfl rfl |>.bipush 430 (78 : Int32) at_428 (by decide) rfl
    obtain ⟨f29, G', As, Ks⟩ := G.castore 431 29 D.pad1 ⟨by decide, ofn_lt (i := 29) (Nat.lt_of_lt_of_le (nle rfl) (Nat.le_add_right 47 _)) hn31⟩ rfl (pad_lt l29) (Or.inr sea) (mm 0 rfl) at_430 rfl
    replace G := G'; clear G'
    obtain ⟨s30, q30, l30, D⟩ := DF.put1 l29 D As Ks np1 np2 np3 np4 (by decide)
    replace G := G.aload 433 at_431 rfl rfl rfl |>.iload 435 at_433 rfl rfl |>.iincV 438 #[.val (.int i0), .val (.int i1), .val (.int i2), .val (.int (1 : Int32)), .val (.int (2 : Int32)), .val (.int (Int32.ofNat x0)), .val (.int (Int32.ofNat x1)), .val (.int (Int32.ofNat x2)), .val (.int (Int32.ofNat x3)), .val (.ref ta), .val (.ref ba), .val (.ref tp), .val (.ref br), .val (.int (Int32.ofNat N)), .val (.int (Int32.ofNat (nd N))), .val (.int (Int32.ofNat (47 + nd N))), .val (.ref ea), .val (.int (31 : Int32)), .unset] (31 : Int32) at_435 rfl (by decide) rfl rfl |>.bipush 440 (97 : Int32) at_438 (by decide) rfl
    obtain ⟨f30, G', As, Ks⟩ := G.castore 441 30 D.pad1 ⟨by decide, ofn_lt (i := 30) (Nat.lt_of_lt_of_le (nle rfl) (Nat.le_add_right 47 _)) hn31⟩ rfl (pad_lt l30) (Or.inr sea) (mm 0 rfl) at_440 rfl
    replace G := G'; clear G'
    obtain ⟨s31, q31, l31, D⟩ := DF.put1 l30 D As Ks np1 np2 np3 np4 (by decide)
    replace G := G.aload 443 at_441 rfl rfl rfl |>.iload 445 at_443 rfl rfl |>.iincV 448 #[.val (.int i0), .val (.int i1), .val (.int i2), .val (.int (1 : Int32)), .val (.int (2 : Int32)), .val (.int (Int32.ofNat x0)), .val (.int (Int32.ofNat x1)), .val (.int (Int32.ofNat x2)), .val (.int (Int32.ofNat x3)), .val (.ref ta), .val (.ref ba), .val (.ref tp), .val (.ref br), .val (.int (Int32.ofNat N)), .val (.int (Int32.ofNat (nd N))), .val (.int (Int32.ofNat (47 + nd N))), .val (.ref ea), .val (.int (32 : Int32)), .unset] (32 : Int32) at_445 rfl (by decide) rfl rfl |>.bipush 450 (109 : Int32) at_448 (by decide) rfl
    obtain ⟨f31, G', As, Ks⟩ := G.castore 451 31 D.pad1 ⟨by decide, ofn_lt (i := 31) (Nat.lt_of_lt_of_le (nle rfl) (Nat.le_add_right 47 _)) hn31⟩ rfl (pad_lt l31) (Or.inr sea) (mm 0 rfl) at_450 rfl
    replace G := G'; clear G'
    obtain ⟨s32, q32, l32, D⟩ := DF.put1 l31 D As Ks np1 np2 np3 np4 (by decide)
    replace G := G.aload 453 at_451 rfl rfl rfl |>.iload 455 at_453 rfl rfl |>.iincV 458 #[.val (.int i0), .val (.int i1), .val (.int i2), .val (.int (1 : Int32)), .val (.int (2 : Int32)), .val (.int (Int32.ofNat x0)), .val (.int (Int32.ofNat x1)), .val (.int (Int32.ofNat x2)), .val (.int (Int32.ofNat x3)), .val (.ref ta), .val (.ref ba), .val (.ref tp), .val (.ref br), .val (.int (Int32.ofNat N)), .val (.int (Int32.ofNat (nd N))), .val (.int (Int32.ofNat (47 + nd N))), .val (.ref ea), .val (.int (33 : Int32)), .unset] (33 : Int32) at_455 rfl (by decide) rfl rfl |>.bipush 460 (101 : Int32) at_458 (by decide) rfl
    obtain ⟨f32, G', As, Ks⟩ := G.castore 461 32 D.pad1 ⟨by decide, ofn_lt (i := 32) (Nat.lt_of_lt_of_le (nle rfl) (Nat.le_add_right 47 _)) hn31⟩ rfl (pad_lt l32) (Or.inr sea) (mm 0 rfl) at_460 rfl
    replace G := G'; clear G'
    obtain ⟨s33, q33, l33, D⟩ := DF.put1 l32 D As Ks np1 np2 np3 np4 (by decide)
    replace G := G.aload 463 at_461 rfl rfl rfl |>.iload 465 at_463 rfl rfl |>.iincV 468 #[.val (.int i0), .val (.int i1), .val (.int i2), .val (.int (1 : Int32)), .val (.int (2 : Int32)), .val (.int (Int32.ofNat x0)), .val (.int (Int32.ofNat x1)), .val (.int (Int32.ofNat x2)), .val (.int (Int32.ofNat x3)), .val (.ref ta), .val (.ref ba), .val (.ref tp), .val (.ref br), .val (.int (Int32.ofNat N)), .val (.int (Int32.ofNat (nd N))), .val (.int (Int32.ofNat (47 + nd N))), .val (.ref ea), .val (.int (34 : Int32)), .unset] (34 : Int32) at_465 rfl (by decide) rfl rfl |>.bipush 470 (61 : Int32) at_468 (by decide) rfl
    obtain ⟨f33, G', As, Ks⟩ := G.castore 471 33 D.pad1 ⟨by decide, ofn_lt (i := 33) (Nat.lt_of_lt_of_le (nle rfl) (Nat.le_add_right 47 _)) hn31⟩ rfl (pad_lt l33) (Or.inr sea) (mm 0 rfl) at_470 rfl
    replace G := G'; clear G'
    obtain ⟨s34, q34, l34, D⟩ := DF.put1 l33 D As Ks np1 np2 np3 np4 (by decide)
    replace G := G.aload 473 at_471 rfl rfl rfl |>.iload 475 at_473 rfl rfl |>.iincV 478 #[.val (.int i0), .val (.int i1), .val (.int i2), .val (.int (1 : Int32)), .val (.int (2 : Int32)), .val (.int (Int32.ofNat x0)), .val (.int (Int32.ofNat x1)), .val (.int (Int32.ofNat x2)), .val (.int (Int32.ofNat x3)), .val (.ref ta), .val (.ref ba), .val (.ref tp), .val (.ref br), .val (.int (Int32.ofNat N)), .val (.int (Int32.ofNat (nd N))), .val (.int (Int32.ofNat (47 + nd N))), .val (.ref ea), .val (.int (35 : Int32)), .unset] (35 : Int32) at_475 rfl (by decide) rfl rfl |>.iload 480 at_478 rfl rfl
    obtain ⟨f34, G', As, Ks⟩ := G.castore 481 34 D.pad1 ⟨by decide, ofn_lt (i := 34) (Nat.lt_of_lt_of_le (nle rfl) (Nat.le_add_right 47 _)) hn31⟩ rfl (pad_lt l34) (Or.inr sea) (mm 0 rfl) at_480 rfl
    replace G := G'; clear G'
    obtain ⟨s35, q35, l35, D⟩ := DF.put1 l34 D As Ks np1 np2 np3 np4 (i2c_n hx2)
    replace G := G.iload 483 at_481 rfl rfl |>.iconst 484 (2 : Int32) at_483 rfl rfl |>.icmpF 487 at_484 (XT.ii_ne_f rfl) rfl |>.aload 489 at_487 rfl rfl rfl |>.iload 491 at_489 rfl rfl |>.iincV 494 #[.val (.int i0), .val (.int i1), .val (.int i2), .val (.int (1 : Int32)), .val (.int (2 : Int32)), .val (.int (Int32.ofNat x0)), .val (.int (Int32.ofNat x1)), .val (.int (Int32.ofNat x2)), .val (.int (Int32.ofNat x3)), .val (.ref ta), .val (.ref ba), .val (.ref tp), .val (.ref br), .val (.int (Int32.ofNat N)), .val (.int (Int32.ofNat (nd N))), .val (.int (Int32.ofNat (47 + nd N))), .val (.ref ea), .val (.int (36 : Int32)), .unset] (36 : Int32) at_491 rfl (by decide) rfl rfl |>.iload 496 at_494 rfl rfl
    obtain ⟨f35, G', As, Ks⟩ := G.castore 497 35 D.pad1 ⟨by decide, ofn_lt (i := 35) (Nat.lt_of_lt_of_le (nle rfl) (Nat.le_add_right 47 _)) hn31⟩ rfl (pad_lt l35) (Or.inr sea) (mm 0 rfl) at_496 rfl
    replace G := G'; clear G'
    obtain ⟨s36, q36, l36, D⟩ := DF.put1 l35 D As Ks np1 np2 np3 np4 (i2c_n hx3)
    replace G := G.aload 499 at_497 rfl rfl rfl |>.iload 501 at_499 rfl rfl |>.iincV 504 #[.val (.int i0), .val (.int i1), .val (.int i2), .val (.int (1 : Int32)), .val (.int (2 : Int32)), .val (.int (Int32.ofNat x0)), .val (.int (Int32.ofNat x1)), .val (.int (Int32.ofNat x2)), .val (.int (Int32.ofNat x3)), .val (.ref ta), .val (.ref ba), .val (.ref tp), .val (.ref br), .val (.int (Int32.ofNat N)), .val (.int (Int32.ofNat (nd N))), .val (.int (Int32.ofNat (47 + nd N))), .val (.ref ea), .val (.int (37 : Int32)), .unset] (37 : Int32) at_501 rfl (by decide) rfl rfl |>.bipush 506 (44 : Int32) at_504 (by decide) rfl
    obtain ⟨f36, G', As, Ks⟩ := G.castore 507 36 D.pad1 ⟨by decide, ofn_lt (i := 36) (Nat.lt_of_lt_of_le (nle rfl) (Nat.le_add_right 47 _)) hn31⟩ rfl (pad_lt l36) (Or.inr sea) (mm 0 rfl) at_506 rfl
    replace G := G'; clear G'
    obtain ⟨s37, q37, l37, D⟩ := DF.put1 l36 D As Ks np1 np2 np3 np4 (by decide)
    replace G := G.aload 509 at_507 rfl rfl rfl |>.iload 511 at_509 rfl rfl |>.iincV 514 #[.val (.int i0), .val (.int i1), .val (.int i2), .val (.int (1 : Int32)), .val (.int (2 : Int32)), .val (.int (Int32.ofNat x0)), .val (.int (Int32.ofNat x1)), .val (.int (Int32.ofNat x2)), .val (.int (Int32.ofNat x3)), .val (.ref ta), .val (.ref ba), .val (.ref tp), .val (.ref br), .val (.int (Int32.ofNat N)), .val (.int (Int32.ofNat (nd N))), .val (.int (Int32.ofNat (47 + nd N))), .val (.ref ea), .val (.int (38 : Int32)), .unset] (38 : Int32) at_511 rfl (by decide) rfl rfl |>.bipush 516 (32 : Int32) at_514 (by decide) rfl
    obtain ⟨f37, G', As, Ks⟩ := G.castore 517 37 D.pad1 ⟨by decide, ofn_lt (i := 37) (Nat.lt_of_lt_of_le (nle rfl) (Nat.le_add_right 47 _)) hn31⟩ rfl (pad_lt l37) (Or.inr sea) (mm 0 rfl) at_516 rfl
    replace G := G'; clear G'
    obtain ⟨s38, q38, l38, D⟩ := DF.put1 l37 D As Ks np1 np2 np3 np4 (by decide)
    replace G := G.aload 519 at_517 rfl rfl rfl |>.iload 521 at_519 rfl rfl |>.iincV 524 #[.val (.int i0), .val (.int i1), .val (.int i2), .val (.int (1 : Int32)), .val (.int (2 : Int32)), .val (.int (Int32.ofNat x0)), .val (.int (Int32.ofNat x1)), .val (.int (Int32.ofNat x2)), .val (.int (Int32.ofNat x3)), .val (.ref ta), .val (.ref ba), .val (.ref tp), .val (.ref br), .val (.int (Int32.ofNat N)), .val (.int (Int32.ofNat (nd N))), .val (.int (Int32.ofNat (47 + nd N))), .val (.ref ea), .val (.int (39 : Int32)), .unset] (39 : Int32) at_521 rfl (by decide) rfl rfl |>.bipush 526 (113 : Int32) at_524 (by decide) rfl
    obtain ⟨f38, G', As, Ks⟩ := G.castore 527 38 D.pad1 ⟨by decide, ofn_lt (i := 38) (Nat.lt_of_lt_of_le (nle rfl) (Nat.le_add_right 47 _)) hn31⟩ rfl (pad_lt l38) (Or.inr sea) (mm 0 rfl) at_526 rfl
    replace G := G'; clear G'
    obtain ⟨s39, q39, l39, D⟩ := DF.put1 l38 D As Ks np1 np2 np3 np4 (by decide)
    replace G := G.aload 529 at_527 rfl rfl rfl |>.iload 531 at_529 rfl rfl |>.iincV 534 #[.val (.int i0), .val (.int i1), .val (.int i2), .val (.int (1 : Int32)), .val (.int (2 : Int32)), .val (.int (Int32.ofNat x0)), .val (.int (Int32.ofNat x1)), .val (.int (Int32.ofNat x2)), .val (.int (Int32.ofNat x3)), .val (.ref ta), .val (.ref ba), .val (.ref tp), .val (.ref br), .val (.int (Int32.ofNat N)), .val (.int (Int32.ofNat (nd N))), .val (.int (Int32.ofNat (47 + nd N))), .val (.ref ea), .val (.int (40 : Int32)), .unset] (40 : Int32) at_531 rfl (by decide) rfl rfl |>.bipush 536 (117 : Int32) at_534 (by decide) rfl
    obtain ⟨f39, G', As, Ks⟩ := G.castore 537 39 D.pad1 ⟨by decide, ofn_lt (i := 39) (Nat.lt_of_lt_of_le (nle rfl) (Nat.le_add_right 47 _)) hn31⟩ rfl (pad_lt l39) (Or.inr sea) (mm 0 rfl) at_536 rfl
    replace G := G'; clear G'
    obtain ⟨s40, q40, l40, D⟩ := DF.put1 l39 D As Ks np1 np2 np3 np4 (by decide)
    replace G := G.aload 539 at_537 rfl rfl rfl |>.iload 541 at_539 rfl rfl |>.iincV 544 #[.val (.int i0), .val (.int i1), .val (.int i2), .val (.int (1 : Int32)), .val (.int (2 : Int32)), .val (.int (Int32.ofNat x0)), .val (.int (Int32.ofNat x1)), .val (.int (Int32.ofNat x2)), .val (.int (Int32.ofNat x3)), .val (.ref ta), .val (.ref ba), .val (.ref tp), .val (.ref br), .val (.int (Int32.ofNat N)), .val (.int (Int32.ofNat (nd N))), .val (.int (Int32.ofNat (47 + nd N))), .val (.ref ea), .val (.int (41 : Int32)), .unset] (41 : Int32) at_541 rfl (by decide) rfl rfl |>.bipush 546 (101 : Int32) at_544 (by decide) rfl
    obtain ⟨f40, G', As, Ks⟩ := G.castore 547 40 D.pad1 ⟨by decide, ofn_lt (i := 40) (Nat.lt_of_lt_of_le (nle rfl) (Nat.le_add_right 47 _)) hn31⟩ rfl (pad_lt l40) (Or.inr sea) (mm 0 rfl) at_546 rfl
    replace G := G'; clear G'
    obtain ⟨s41, q41, l41, D⟩ := DF.put1 l40 D As Ks np1 np2 np3 np4 (by decide)
    replace G := G.aload 549 at_547 rfl rfl rfl |>.iload 551 at_549 rfl rfl |>.iincV 554 #[.val (.int i0), .val (.int i1), .val (.int i2), .val (.int (1 : Int32)), .val (.int (2 : Int32)), .val (.int (Int32.ofNat x0)), .val (.int (Int32.ofNat x1)), .val (.int (Int32.ofNat x2)), .val (.int (Int32.ofNat x3)), .val (.ref ta), .val (.ref ba), .val (.ref tp), .val (.ref br), .val (.int (Int32.ofNat N)), .val (.int (Int32.ofNat (nd N))), .val (.int (Int32.ofNat (47 + nd N))), .val (.ref ea), .val (.int (42 : Int32)), .unset] (42 : Int32) at_551 rfl (by decide) rfl rfl |>.bipush 556 (117 : Int32) at_554 (by decide) rfl
    obtain ⟨f41, G', As, Ks⟩ := G.castore 557 41 D.pad1 ⟨by decide, ofn_lt (i := 41) (Nat.lt_of_lt_of_le (nle rfl) (Nat.le_add_right 47 _)) hn31⟩ rfl (pad_lt l41) (Or.inr sea) (mm 0 rfl) at_556 rfl
    replace G := G'; clear G'
    obtain ⟨s42, q42, l42, D⟩ := DF.put1 l41 D As Ks np1 np2 np3 np4 (by decide)
    replace G := G.aload 559 at_557 rfl rfl rfl |>.iload 561 at_559 rfl rfl |>.iincV 564 #[.val (.int i0), .val (.int i1), .val (.int i2), .val (.int (1 : Int32)), .val (.int (2 : Int32)), .val (.int (Int32.ofNat x0)), .val (.int (Int32.ofNat x1)), .val (.int (Int32.ofNat x2)), .val (.int (Int32.ofNat x3)), .val (.ref ta), .val (.ref ba), .val (.ref tp), .val (.ref br), .val (.int (Int32.ofNat N)), .val (.int (Int32.ofNat (nd N))), .val (.int (Int32.ofNat (47 + nd N))), .val (.ref ea), .val (.int (43 : Int32)), .unset] (43 : Int32) at_561 rfl (by decide) rfl rfl |>.bipush 566 (101 : Int32) at_564 (by decide) rfl
    obtain ⟨f42, G', As, Ks⟩ := G.castore 567 42 D.pad1 ⟨by decide, ofn_lt (i := 42) (Nat.lt_of_lt_of_le (nle rfl) (Nat.le_add_right 47 _)) hn31⟩ rfl (pad_lt l42) (Or.inr sea) (mm 0 rfl) at_566 rfl
    replace G := G'; clear G'
    obtain ⟨s43, q43, l43, D⟩ := DF.put1 l42 D As Ks np1 np2 np3 np4 (by decide)
    replace G := G.aload 569 at_567 rfl rfl rfl |>.iload 571 at_569 rfl rfl |>.iincV 574 #[.val (.int i0), .val (.int i1), .val (.int i2), .val (.int (1 : Int32)), .val (.int (2 : Int32)), .val (.int (Int32.ofNat x0)), .val (.int (Int32.ofNat x1)), .val (.int (Int32.ofNat x2)), .val (.int (Int32.ofNat x3)), .val (.ref ta), .val (.ref ba), .val (.ref tp), .val (.ref br), .val (.int (Int32.ofNat N)), .val (.int (Int32.ofNat (nd N))), .val (.int (Int32.ofNat (47 + nd N))), .val (.ref ea), .val (.int (44 : Int32)), .unset] (44 : Int32) at_571 rfl (by decide) rfl rfl |>.bipush 576 (73 : Int32) at_574 (by decide) rfl
    obtain ⟨f43, G', As, Ks⟩ := G.castore 577 43 D.pad1 ⟨by decide, ofn_lt (i := 43) (Nat.lt_of_lt_of_le (nle rfl) (Nat.le_add_right 47 _)) hn31⟩ rfl (pad_lt l43) (Or.inr sea) (mm 0 rfl) at_576 rfl
    replace G := G'; clear G'
    obtain ⟨s44, q44, l44, D⟩ := DF.put1 l43 D As Ks np1 np2 np3 np4 (by decide)
    replace G := G.aload 579 at_577 rfl rfl rfl |>.iload 581 at_579 rfl rfl |>.iincV 584 #[.val (.int i0), .val (.int i1), .val (.int i2), .val (.int (1 : Int32)), .val (.int (2 : Int32)), .val (.int (Int32.ofNat x0)), .val (.int (Int32.ofNat x1)), .val (.int (Int32.ofNat x2)), .val (.int (Int32.ofNat x3)), .val (.ref ta), .val (.ref ba), .val (.ref tp), .val (.ref br), .val (.int (Int32.ofNat N)), .val (.int (Int32.ofNat (nd N))), .val (.int (Int32.ofNat (47 + nd N))), .val (.ref ea), .val (.int (45 : Int32)), .unset] (45 : Int32) at_581 rfl (by decide) rfl rfl |>.bipush 586 (100 : Int32) at_584 (by decide) rfl
    obtain ⟨f44, G', As, Ks⟩ := G.castore 587 44 D.pad1 ⟨by decide, ofn_lt (i := 44) (Nat.lt_of_lt_of_le (nle rfl) (Nat.le_add_right 47 _)) hn31⟩ rfl (pad_lt l44) (Or.inr sea) (mm 0 rfl) at_586 rfl
    replace G := G'; clear G'
    obtain ⟨s45, q45, l45, D⟩ := DF.put1 l44 D As Ks np1 np2 np3 np4 (by decide)
    replace G := G.aload 589 at_587 rfl rfl rfl |>.iload 591 at_589 rfl rfl |>.iincV 594 #[.val (.int i0), .val (.int i1), .val (.int i2), .val (.int (1 : Int32)), .val (.int (2 : Int32)), .val (.int (Int32.ofNat x0)), .val (.int (Int32.ofNat x1)), .val (.int (Int32.ofNat x2)), .val (.int (Int32.ofNat x3)), .val (.ref ta), .val (.ref ba), .val (.ref tp), .val (.ref br), .val (.int (Int32.ofNat N)), .val (.int (Int32.ofNat (nd N))), .val (.int (Int32.ofNat (47 + nd N))), .val (.ref ea), .val (.int (46 : Int32)), .unset] (46 : Int32) at_591 rfl (by decide) rfl rfl |>.bipush 596 (61 : Int32) at_594 (by decide) rfl
    obtain ⟨f45, G', As, Ks⟩ := G.castore 597 45 D.pad1 ⟨by decide, ofn_lt (i := 45) (Nat.lt_of_lt_of_le (nle rfl) (Nat.le_add_right 47 _)) hn31⟩ rfl (pad_lt l45) (Or.inr sea) (mm 0 rfl) at_596 rfl
    replace G := G'; clear G'
    obtain ⟨s46, q46, l46, D⟩ := DF.put1 l45 D As Ks np1 np2 np3 np4 (by decide)
    have e10 := dI_ten hN
    have hpre : (L59 ++ [Int32.ofNat x0] ++ L61 ++ [Int32.ofNat x2, Int32.ofNat x3] ++ L63).map bytV = [Value.int (77 : Int32), Value.int (101 : Int32), Value.int (115 : Int32), Value.int (115 : Int32), Value.int (97 : Int32), Value.int (103 : Int32), Value.int (101 : Int32), Value.int (81 : Int32), Value.int (117 : Int32), Value.int (101 : Int32), Value.int (117 : Int32), Value.int (101 : Int32), Value.int (32 : Int32), Value.int (91 : Int32), Value.int (116 : Int32), Value.int (111 : Int32), Value.int (112 : Int32), Value.int (105 : Int32), Value.int (99 : Int32), Value.int (61 : Int32)] ++ [bytV (Int32.ofNat x0)] ++ [Value.int (44 : Int32), Value.int (32 : Int32), Value.int (98 : Int32), Value.int (114 : Int32), Value.int (111 : Int32), Value.int (107 : Int32), Value.int (101 : Int32), Value.int (114 : Int32), Value.int (78 : Int32), Value.int (97 : Int32), Value.int (109 : Int32), Value.int (101 : Int32), Value.int (61 : Int32)] ++ [bytV (Int32.ofNat x2), bytV (Int32.ofNat x3)] ++ [Value.int (44 : Int32), Value.int (32 : Int32), Value.int (113 : Int32), Value.int (117 : Int32), Value.int (101 : Int32), Value.int (117 : Int32), Value.int (101 : Int32), Value.int (73 : Int32), Value.int (100 : Int32), Value.int (61 : Int32)] := by simp only [List.map_append, List.map_cons, List.map_nil, L59_b, L61_b, L63_b]
    have hp255 : ∀ x ∈ (L59 ++ [Int32.ofNat x0] ++ L61 ++ [Int32.ofNat x2, Int32.ofNat x3] ++ L63), ¬ (255 : Int32) < x := mem5 L59_c (c255s (xs := [x0]) (allS hx0 (all0))) L61_c (c255s (xs := [x2, x3]) (allS hx2 (allS hx3 (all0)))) L63_c
    have hs : s46 = (L59 ++ [Int32.ofNat x0] ++ L61 ++ [Int32.ofNat x2, Int32.ofNat x3] ++ L63) := by simp only [q46, q45, q44, q43, q42, q41, q40, q39, q38, q37, q36, q35, q34, q33, q32, q31, q30, q29, q28, q27, q26, q25, q24, q23, q22, q21, q20, q19, q18, q17, q16, q15, q14, q13, q12, q11, q10, q9, q8, q7, q6, q5, q4, q3, q2, q1, L59, L61, L63, List.append_assoc, List.cons_append, List.nil_append]
    rw [hs] at D
    have hpl : (L59 ++ [Int32.ofNat x0] ++ L61 ++ [Int32.ofNat x2, Int32.ofNat x3] ++ L63).length = 46 := by rw [← hs]; exact l46
    refine tail 1 2 ta ba tp tpb br brb ea ke (47 + nd N) (L59 ++ [Int32.ofNat x0] ++ L61 ++ [Int32.ofNat x2, Int32.ofNat x3] ++ L63) [bytV (Int32.ofNat x0)] [bytV (Int32.ofNat x2), bytV (Int32.ofNat x3)] sea (by rw [hpl]; omega) (by rw [hpl]; decide) hp255 (by exact Or.inl rfl) (by exact Or.inr rfl) hpre np1 np2 np3 np4 _ (by rw [e10, List.append_nil]; exact D) ?_
    rw [e10, List.append_nil]
    rw [hpl]; exact (G.more (k := 16) (n := 400) (nle rfl) (nle rfl)).less (allS (mm 0 rfl) all0)
  · skip
    replace G := G.icmpT 67 at_58 (XT.ii_ne_t (by decide)) (by decide) (by decide) |>.iconst 68 (2 : Int32) at_67 rfl rfl
    obtain ⟨ta, g0, kta, G', gta, sta, Eta, Ata⟩ := G.newarray 70 (hw _ (mm 0 rfl)) at_68 (by decide) 2 (nle rfl) (by decide) rfl (nle rfl) (nle rfl)
    replace G := G'; clear G'
    have Ata0 : Arv Z g0 ta kta .char 2 [(.int 0), (.int 0)] (.int 0) := Ata.pad (pad_rep [] (.int 0) 2)
    replace G := G.astore 72 #[.val (.int i0), .val (.int i1), .val (.int i2), .val (.int (2 : Int32)), .val (.int (1 : Int32)), .val (.int (Int32.ofNat x0)), .val (.int (Int32.ofNat x1)), .val (.int (Int32.ofNat x2)), .val (.int (Int32.ofNat x3)), .val (.ref ta), .unset, .unset, .unset, .unset, .unset, .unset, .unset, .unset, .unset] at_70 rfl rfl rfl |>.aload 74 at_72 rfl rfl rfl |>.iconst 75 (0 : Int32) at_74 rfl rfl |>.iload 77 at_75 rfl rfl
    obtain ⟨g1, G', As, Ks⟩ := G.castore 78 0 Ata0 (by decide) rfl (nle rfl) (Or.inr sta) (mm 0 rfl) at_77 rfl
    replace G := G'; clear G'
    replace Ata0 : Arv Z g1 ta kta .char 2 [(.int (Int32.ofNat x0)), (.int 0)] (.int 0) := by have h := As; rw [show nar FieldType.char (Int32.ofNat x0) = Int32.ofNat x0 from i2c_n hx0] at h; exact h
    replace G := G.iloadN 79 at_78 rfl rfl |>.iconst 80 (2 : Int32) at_79 rfl rfl |>.icmpF 83 at_80 (XT.ii_ne_f rfl) rfl |>.aload 85 at_83 rfl rfl rfl |>.iconst 86 (1 : Int32) at_85 rfl rfl |>.iload 88 at_86 rfl rfl
    obtain ⟨g2, G', As, Ks⟩ := G.castore 89 1 Ata0 (by decide) rfl (nle rfl) (Or.inr sta) (mm 0 rfl) at_88 rfl
    replace G := G'; clear G'
    replace Ata0 : Arv Z g2 ta kta .char 2 [(.int (Int32.ofNat x0)), (.int (Int32.ofNat x1))] (.int 0) := by have h := As; rw [show nar FieldType.char (Int32.ofNat x1) = Int32.ofNat x1 from i2c_n hx1] at h; exact h
    replace G := G.iload 91 at_89 rfl rfl |>.iconst 92 (1 : Int32) at_91 rfl rfl
    skip
    have lta := Ata0.lt
    replace G := G.icmpF 95 at_92 (XT.ii_ne_f rfl) rfl |>.iconst 96 (1 : Int32) at_95 rfl rfl
    obtain ⟨ba, k0, kba, G', gba, sba, Eba, Aba⟩ := G.newarray 98 (hw _ (mm 0 rfl)) at_96 (by decide) 2 (nle rfl) (by decide) rfl (nle rfl) (nle rfl)
    replace G := G'; clear G'
    have nba : ta ≠ ba := ne_new gba lta
    replace Ata0 := Ata0.ext Eba
    have Aba0 : Arv Z k0 ba kba .char 1 [(.int 0)] (.int 0) := Aba.pad (pad_rep [] (.int 0) 1)
    replace G := G.goto 104 at_98 (by decide) (by decide) |>.astore 106 #[.val (.int i0), .val (.int i1), .val (.int i2), .val (.int (2 : Int32)), .val (.int (1 : Int32)), .val (.int (Int32.ofNat x0)), .val (.int (Int32.ofNat x1)), .val (.int (Int32.ofNat x2)), .val (.int (Int32.ofNat x3)), .val (.ref ta), .val (.ref ba), .unset, .unset, .unset, .unset, .unset, .unset, .unset, .unset] at_104 rfl rfl rfl |>.aload 108 at_106 rfl rfl rfl |>.iconst 109 (0 : Int32) at_108 rfl rfl |>.iload 111 at_109 rfl rfl
    obtain ⟨k1, G', As, Ks⟩ := G.castore 112 0 Aba0 (by decide) rfl (nle rfl) (Or.inr sba) (mm 0 rfl) at_111 rfl
    replace G := G'; clear G'
    replace Aba0 : Arv Z k1 ba kba .char 1 [(.int (Int32.ofNat x2))] (.int 0) := by have h := As; rw [show nar FieldType.char (Int32.ofNat x2) = Int32.ofNat x2 from i2c_n hx2] at h; exact h
    replace Ata0 := Ata0.keep Ks (ninS nba nin0)
    replace G := G.iload 114 at_112 rfl rfl |>.iconst 115 (2 : Int32) at_114 rfl rfl |>.icmpT 124 at_115 (XT.ii_ne_t (by decide)) (by decide) (by decide)
    have nta := Ata0.lt
    obtain ⟨tp, e1, G', gtp, stp, Etp, Xtp, Dtp, Utp⟩ := G.new 127 (hw _ (mm 1 rfl)) (hw _ (mm 2 rfl)) (hw _ (mm 3 rfl)) at_124 rfl (nle rfl) (nle rfl)
    replace G := G'; clear G'
    have Fvtp := Dtp (Or.inr (hw _ (mm 29 rfl))) (ty := .array .byte) (by decide); have Fctp := Dtp (Or.inr (hw _ (mm 27 rfl))) (ty := .byte) (by decide)
    replace Ata0 := Ata0.ext Etp; replace Aba0 := Aba0.ext Etp
    replace G := G.dup 128 at_127 rfl rfl |>.aload 130 at_128 rfl rfl rfl
    obtain ⟨vT, e2, soT, G', KT, QT⟩ := G.callI 133 rfl rfl (hw _ (mm 4 rfl)) (hw _ (mm 5 rfl)) (hw _ (mm 3 rfl)) (hw _ (mm 6 rfl)) (by decide) [(.ref ta)] [(.ref tp)] rfl (c_strC l Z a0 hw hEW n0 c1 hc1 S1 tp ta kta [Int32.ofNat x0, Int32.ofNat x1] G.old (G.nw (Or.inr stp)) Xtp Fvtp Fctp (nle rfl) (nle rfl) (by intro x hx; simp only [List.mem_cons, List.not_mem_nil, or_false] at hx; rcases hx with rfl | rfl <;> first | exact c255 hx0 | exact c255 hx1) Ata0) (lenOf pd___C_V rfl) at_130 rfl (nle rfl) (nle rfl) (nle rfl) (nle rfl) (allS (Or.inr stp) all0) (allS (mm 0 rfl) all0) (allS (mm 0 rfl) all0) rfl
    replace G := G'; clear G'
    obtain ⟨qT, tpb, hT, stpb, rfl⟩ := QT
    replace G := G.nov qT
    replace hT : Str Z e2 tp tpb [bytV (Int32.ofNat x0), bytV (Int32.ofNat x1)] := hT
    skip
    replace Aba0 := Aba0.keep KT (ninS (fun q => ne_arr Xtp (hw _ (mm 2 rfl)) Aba0.choose_spec.1 q.symm) nin0)
    replace G := G.astore 135 #[.val (.int i0), .val (.int i1), .val (.int i2), .val (.int (2 : Int32)), .val (.int (1 : Int32)), .val (.int (Int32.ofNat x0)), .val (.int (Int32.ofNat x1)), .val (.int (Int32.ofNat x2)), .val (.int (Int32.ofNat x3)), .val (.ref ta), .val (.ref ba), .val (.ref tp), .unset, .unset, .unset, .unset, .unset, .unset, .unset] at_133 rfl rfl rfl
    have nw1 := hT.lt; have nw2 := hT.ltb
    obtain ⟨br, e3, G', gbr, sbr, Ebr, Xbr, Dbr, Ubr⟩ := G.new 138 (hw _ (mm 1 rfl)) (hw _ (mm 2 rfl)) (hw _ (mm 3 rfl)) at_135 rfl (nle rfl) (nle rfl)
    replace G := G'; clear G'
    have Fvbr := Dbr (Or.inr (hw _ (mm 29 rfl))) (ty := .array .byte) (by decide); have Fcbr := Dbr (Or.inr (hw _ (mm 27 rfl))) (ty := .byte) (by decide)
    replace Aba0 := Aba0.ext Ebr
    replace G := G.dup 139 at_138 rfl rfl |>.aload 141 at_139 rfl rfl rfl
    obtain ⟨vB, e4, soB, G', KB, QB⟩ := G.callI 144 rfl rfl (hw _ (mm 4 rfl)) (hw _ (mm 5 rfl)) (hw _ (mm 3 rfl)) (hw _ (mm 6 rfl)) (by decide) [(.ref ba)] [(.ref br)] rfl (c_strC l Z a0 hw hEW n0 c1 hc1 S1 br ba kba [Int32.ofNat x2] G.old (G.nw (Or.inr sbr)) Xbr Fvbr Fcbr (nle rfl) (nle rfl) (by intro x hx; simp only [List.mem_cons, List.not_mem_nil, or_false] at hx; rcases hx with rfl <;> first | exact c255 hx2 | exact c255 hx2) Aba0) (lenOf pd___C_V rfl) at_141 rfl (nle rfl) (nle rfl) (nle rfl) (nle rfl) (allS (Or.inr sbr) all0) (allS (mm 0 rfl) all0) (allS (mm 0 rfl) all0) rfl
    replace G := G'; clear G'
    obtain ⟨qB, brb, hB, sbrb, rfl⟩ := QB
    replace G := G.nov qB
    replace hB : Str Z e4 br brb [bytV (Int32.ofNat x2)] := hB
    replace hT := (hT.ext Ebr).keep KB (ninS (ne_new gbr nw1) nin0) (ninS (ne_new gbr nw2) nin0)
    replace G := G.astore 146 #[.val (.int i0), .val (.int i1), .val (.int i2), .val (.int (2 : Int32)), .val (.int (1 : Int32)), .val (.int (Int32.ofNat x0)), .val (.int (Int32.ofNat x1)), .val (.int (Int32.ofNat x2)), .val (.int (Int32.ofNat x3)), .val (.ref ta), .val (.ref ba), .val (.ref tp), .val (.ref br), .unset, .unset, .unset, .unset, .unset, .unset] at_144 rfl rfl rfl |>.iloadN 147 at_146 rfl rfl |>.ldcI 149 (hw _ (mm 30 rfl)) at_147 rfl |>.iand 150 at_149 rfl |>.top (y := (.int (Int32.ofNat N))) (congrArg Value.int eN) |>.istore 152 #[.val (.int i0), .val (.int i1), .val (.int i2), .val (.int (2 : Int32)), .val (.int (1 : Int32)), .val (.int (Int32.ofNat x0)), .val (.int (Int32.ofNat x1)), .val (.int (Int32.ofNat x2)), .val (.int (Int32.ofNat x3)), .val (.ref ta), .val (.ref ba), .val (.ref tp), .val (.ref br), .val (.int (Int32.ofNat N)), .unset, .unset, .unset, .unset, .unset] at_150 rfl rfl |>.iload 154 at_152 rfl rfl
    obtain ⟨vd, e_5, sod, G', Kd, Qd⟩ := G.callS 157 (hw _ (mm 31 rfl)) (hw _ (mm 32 rfl)) (hw _ (mm 33 rfl)) (hw _ (mm 34 rfl)) (by decide) [(.int (Int32.ofNat N))] [] rfl (c_dig l Z a0 hw hEW n0 c1 hc1 S1 N G.old hN) (lenOf pd__I_I rfl) at_154 rfl (nle rfl) (nle rfl) (nle rfl) (nle rfl) all0 all0 all0 rfl
    replace G := G'; clear G'
    obtain ⟨wd, qd, rfl, ed, rfl⟩ := Qd
    replace G := G.val qd
    subst ed
    replace G := G.istore 159 #[.val (.int i0), .val (.int i1), .val (.int i2), .val (.int (2 : Int32)), .val (.int (1 : Int32)), .val (.int (Int32.ofNat x0)), .val (.int (Int32.ofNat x1)), .val (.int (Int32.ofNat x2)), .val (.int (Int32.ofNat x3)), .val (.ref ta), .val (.ref ba), .val (.ref tp), .val (.ref br), .val (.int (Int32.ofNat N)), .val (.int (Int32.ofNat (nd N))), .unset, .unset, .unset, .unset] at_157 rfl rfl |>.bipush 161 (44 : Int32) at_159 (by decide) rfl |>.iloadN 162 at_161 rfl rfl |>.iadd 163 at_162 rfl |>.top (y := (.int (46 : Int32))) (by decide) |>.iload 165 at_163 rfl rfl |>.iadd 166 at_165 rfl |>.top (y := (.int (47 : Int32))) (by decide)
    replace G := G.iload 168 at_166 rfl rfl |>.iadd 169 at_168 rfl |>.top (y := (.int (Int32.ofNat (47 + nd N)))) (congrArg Value.int (ofn_add 47 _)) |>.istore 171 #[.val (.int i0), .val (.int i1), .val (.int i2), .val (.int (2 : Int32)), .val (.int (1 : Int32)), .val (.int (Int32.ofNat x0)), .val (.int (Int32.ofNat x1)), .val (.int (Int32.ofNat x2)), .val (.int (Int32.ofNat x3)), .val (.ref ta), .val (.ref ba), .val (.ref tp), .val (.ref br), .val (.int (Int32.ofNat N)), .val (.int (Int32.ofNat (nd N))), .val (.int (Int32.ofNat (47 + nd N))), .unset, .unset, .unset] at_169 rfl rfl |>.iload 173 at_171 rfl rfl
    have szm := G.sz
    obtain ⟨vK, e6, soK, G', KK, QK⟩ := G.callS 176 (hw _ (mm 35 rfl)) (hw _ (mm 36 rfl)) (hw _ (mm 33 rfl)) (hw _ (mm 37 rfl)) (by decide) [(.int (Int32.ofNat (47 + nd N)))] [] rfl (c_mk l Z a0 hw hEW n0 c1 hc1 S1 (47 + nd N) G.old (by omega) (by omega)) (lenOf pd__I__C rfl) at_173 rfl (nle rfl) (nle rfl) (nle rfl) (nle rfl) all0 all0 all0 rfl
    replace G := G'; clear G'
    obtain ⟨wK, qK, ea, rfl, ⟨ke, Ae⟩, sea', rfl⟩ := QK
    replace G := G.val qK
    have np1 : tp ≠ ea := (ne_ge hT.lt sea').symm; have np2 : tpb ≠ ea := (ne_ge hT.ltb sea').symm; have np3 : br ≠ ea := (ne_ge hB.lt sea').symm; have np4 : brb ≠ ea := (ne_ge hB.ltb sea').symm
    replace hT := hT.keep KK nin0 nin0; replace hB := hB.keep KK nin0 nin0; have sea := Nat.le_trans szm sea'
    have D : DF Z e6 ea ke (47 + nd N) [] tp tpb br brb [bytV (Int32.ofNat x0), bytV (Int32.ofNat x1)] [bytV (Int32.ofNat x2)] := ⟨Ae, hT, hB⟩
    have hn31 : 47 + nd N < 2147483648 := by omega
    have l0 : ([] : List Int32).length = 0 := rfl
    replace G := G.astore 178 #[.val (.int i0), .val (.int i1), .val (.int i2), .val (.int (2 : Int32)), .val (.int (1 : Int32)), .val (.int (Int32.ofNat x0)), .val (.int (Int32.ofNat x1)), .val (.int (Int32.ofNat x2)), .val (.int (Int32.ofNat x3)), .val (.ref ta), .val (.ref ba), .val (.ref tp), .val (.ref br), .val (.int (Int32.ofNat N)), .val (.int (Int32.ofNat (nd N))), .val (.int (Int32.ofNat (47 + nd N))), .val (.ref ea), .unset, .unset] at_176 rfl rfl rfl |>.aload 180 at_178 rfl rfl rfl |>.iconst 181 (0 : Int32) at_180 rfl rfl |>.bipush 183 (77 : Int32) at_181 (by decide) rfl
    obtain ⟨f0, G', As, Ks⟩ := G.castore 184 0 D.pad1 ⟨by decide, ofn_lt (i := 0) (Nat.lt_of_lt_of_le (nle rfl) (Nat.le_add_right 47 _)) hn31⟩ rfl (pad_lt l0) (Or.inr sea) (mm 0 rfl) at_183 rfl
    replace G := G'; clear G'
    obtain ⟨s1, q1, l1, D⟩ := DF.put1 l0 D As Ks np1 np2 np3 np4 (by decide)
    replace G := G.aload 186 at_184 rfl rfl rfl |>.iconst 187 (1 : Int32) at_186 rfl rfl |>.bipush 189 (101 : Int32) at_187 (by decide) rfl
    obtain ⟨f1, G', As, Ks⟩ := G.castore 190 1 D.pad1 ⟨by decide, ofn_lt (i := 1) (Nat.lt_of_lt_of_le (nle rfl) (Nat.le_add_right 47 _)) hn31⟩ rfl (pad_lt l1) (Or.inr sea) (mm 0 rfl) at_189 rfl
    replace G := G'; clear G'
    obtain ⟨s2, q2, l2, D⟩ := DF.put1 l1 D As Ks np1 np2 np3 np4 (by decide)
    replace G := G.aload 192 at_190 rfl rfl rfl |>.iconst 193 (2 : Int32) at_192 rfl rfl |>.bipush 195 (115 : Int32) at_193 (by decide) rfl
    obtain ⟨f2, G', As, Ks⟩ := G.castore 196 2 D.pad1 ⟨by decide, ofn_lt (i := 2) (Nat.lt_of_lt_of_le (nle rfl) (Nat.le_add_right 47 _)) hn31⟩ rfl (pad_lt l2) (Or.inr sea) (mm 0 rfl) at_195 rfl
    replace G := G'; clear G'
    obtain ⟨s3, q3, l3, D⟩ := DF.put1 l2 D As Ks np1 np2 np3 np4 (by decide)
    replace G := G.aload 198 at_196 rfl rfl rfl |>.iconst 199 (3 : Int32) at_198 rfl rfl |>.bipush 201 (115 : Int32) at_199 (by decide) rfl
    obtain ⟨f3, G', As, Ks⟩ := G.castore 202 3 D.pad1 ⟨by decide, ofn_lt (i := 3) (Nat.lt_of_lt_of_le (nle rfl) (Nat.le_add_right 47 _)) hn31⟩ rfl (pad_lt l3) (Or.inr sea) (mm 0 rfl) at_201 rfl
    replace G := G'; clear G'
    obtain ⟨s4, q4, l4, D⟩ := DF.put1 l3 D As Ks np1 np2 np3 np4 (by decide)
    replace G := G.aload 204 at_202 rfl rfl rfl |>.iconst 205 (4 : Int32) at_204 rfl rfl |>.bipush 207 (97 : Int32) at_205 (by decide) rfl
    obtain ⟨f4, G', As, Ks⟩ := G.castore 208 4 D.pad1 ⟨by decide, ofn_lt (i := 4) (Nat.lt_of_lt_of_le (nle rfl) (Nat.le_add_right 47 _)) hn31⟩ rfl (pad_lt l4) (Or.inr sea) (mm 0 rfl) at_207 rfl
    replace G := G'; clear G'
    obtain ⟨s5, q5, l5, D⟩ := DF.put1 l4 D As Ks np1 np2 np3 np4 (by decide)
    replace G := G.aload 210 at_208 rfl rfl rfl |>.iconst 211 (5 : Int32) at_210 rfl rfl |>.bipush 213 (103 : Int32) at_211 (by decide) rfl
    obtain ⟨f5, G', As, Ks⟩ := G.castore 214 5 D.pad1 ⟨by decide, ofn_lt (i := 5) (Nat.lt_of_lt_of_le (nle rfl) (Nat.le_add_right 47 _)) hn31⟩ rfl (pad_lt l5) (Or.inr sea) (mm 0 rfl) at_213 rfl
    replace G := G'; clear G'
    obtain ⟨s6, q6, l6, D⟩ := DF.put1 l5 D As Ks np1 np2 np3 np4 (by decide)
    replace G := G.aload 216 at_214 rfl rfl rfl |>.bipush 218 (6 : Int32) at_216 (by decide) rfl |>.bipush 220 (101 : Int32) at_218 (by decide) rfl
    obtain ⟨f6, G', As, Ks⟩ := G.castore 221 6 D.pad1 ⟨by decide, ofn_lt (i := 6) (Nat.lt_of_lt_of_le (nle rfl) (Nat.le_add_right 47 _)) hn31⟩ rfl (pad_lt l6) (Or.inr sea) (mm 0 rfl) at_220 rfl
    replace G := G'; clear G'
    obtain ⟨s7, q7, l7, D⟩ := DF.put1 l6 D As Ks np1 np2 np3 np4 (by decide)
    replace G := G.aload 223 at_221 rfl rfl rfl |>.bipush 225 (7 : Int32) at_223 (by decide) rfl |>.bipush 227 (81 : Int32) at_225 (by decide) rfl
    obtain ⟨f7, G', As, Ks⟩ := G.castore 228 7 D.pad1 ⟨by decide, ofn_lt (i := 7) (Nat.lt_of_lt_of_le (nle rfl) (Nat.le_add_right 47 _)) hn31⟩ rfl (pad_lt l7) (Or.inr sea) (mm 0 rfl) at_227 rfl
    replace G := G'; clear G'
    obtain ⟨s8, q8, l8, D⟩ := DF.put1 l7 D As Ks np1 np2 np3 np4 (by decide)
    replace G := G.aload 230 at_228 rfl rfl rfl |>.bipush 232 (8 : Int32) at_230 (by decide) rfl |>.bipush 234 (117 : Int32) at_232 (by decide) rfl
    obtain ⟨f8, G', As, Ks⟩ := G.castore 235 8 D.pad1 ⟨by decide, ofn_lt (i := 8) (Nat.lt_of_lt_of_le (nle rfl) (Nat.le_add_right 47 _)) hn31⟩ rfl (pad_lt l8) (Or.inr sea) (mm 0 rfl) at_234 rfl
    replace G := G'; clear G'
    obtain ⟨s9, q9, l9, D⟩ := DF.put1 l8 D As Ks np1 np2 np3 np4 (by decide)
    replace G := G.aload 237 at_235 rfl rfl rfl |>.bipush 239 (9 : Int32) at_237 (by decide) rfl |>.bipush 241 (101 : Int32) at_239 (by decide) rfl
    obtain ⟨f9, G', As, Ks⟩ := G.castore 242 9 D.pad1 ⟨by decide, ofn_lt (i := 9) (Nat.lt_of_lt_of_le (nle rfl) (Nat.le_add_right 47 _)) hn31⟩ rfl (pad_lt l9) (Or.inr sea) (mm 0 rfl) at_241 rfl
    replace G := G'; clear G'
    obtain ⟨s10, q10, l10, D⟩ := DF.put1 l9 D As Ks np1 np2 np3 np4 (by decide)
    replace G := G.aload 244 at_242 rfl rfl rfl |>.bipush 246 (10 : Int32) at_244 (by decide) rfl |>.bipush 248 (117 : Int32) at_246 (by decide) rfl
    obtain ⟨f10, G', As, Ks⟩ := G.castore 249 10 D.pad1 ⟨by decide, ofn_lt (i := 10) (Nat.lt_of_lt_of_le (nle rfl) (Nat.le_add_right 47 _)) hn31⟩ rfl (pad_lt l10) (Or.inr sea) (mm 0 rfl) at_248 rfl
    replace G := G'; clear G'
    obtain ⟨s11, q11, l11, D⟩ := DF.put1 l10 D As Ks np1 np2 np3 np4 (by decide)
    replace G := G.aload 251 at_249 rfl rfl rfl |>.bipush 253 (11 : Int32) at_251 (by decide) rfl |>.bipush 255 (101 : Int32) at_253 (by decide) rfl
    obtain ⟨f11, G', As, Ks⟩ := G.castore 256 11 D.pad1 ⟨by decide, ofn_lt (i := 11) (Nat.lt_of_lt_of_le (nle rfl) (Nat.le_add_right 47 _)) hn31⟩ rfl (pad_lt l11) (Or.inr sea) (mm 0 rfl) at_255 rfl
    replace G := G'; clear G'
    obtain ⟨s12, q12, l12, D⟩ := DF.put1 l11 D As Ks np1 np2 np3 np4 (by decide)
    replace G := G.aload 258 at_256 rfl rfl rfl |>.bipush 260 (12 : Int32) at_258 (by decide) rfl |>.bipush 262 (32 : Int32) at_260 (by decide) rfl
    obtain ⟨f12, G', As, Ks⟩ := G.castore 263 12 D.pad1 ⟨by decide, ofn_lt (i := 12) (Nat.lt_of_lt_of_le (nle rfl) (Nat.le_add_right 47 _)) hn31⟩ rfl (pad_lt l12) (Or.inr sea) (mm 0 rfl) at_262 rfl
    replace G := G'; clear G'
    obtain ⟨s13, q13, l13, D⟩ := DF.put1 l12 D As Ks np1 np2 np3 np4 (by decide)
    replace G := G.aload 265 at_263 rfl rfl rfl |>.bipush 267 (13 : Int32) at_265 (by decide) rfl |>.bipush 269 (91 : Int32) at_267 (by decide) rfl
    obtain ⟨f13, G', As, Ks⟩ := G.castore 270 13 D.pad1 ⟨by decide, ofn_lt (i := 13) (Nat.lt_of_lt_of_le (nle rfl) (Nat.le_add_right 47 _)) hn31⟩ rfl (pad_lt l13) (Or.inr sea) (mm 0 rfl) at_269 rfl
    replace G := G'; clear G'
    obtain ⟨s14, q14, l14, D⟩ := DF.put1 l13 D As Ks np1 np2 np3 np4 (by decide)
    replace G := G.aload 272 at_270 rfl rfl rfl |>.bipush 274 (14 : Int32) at_272 (by decide) rfl |>.bipush 276 (116 : Int32) at_274 (by decide) rfl
    obtain ⟨f14, G', As, Ks⟩ := G.castore 277 14 D.pad1 ⟨by decide, ofn_lt (i := 14) (Nat.lt_of_lt_of_le (nle rfl) (Nat.le_add_right 47 _)) hn31⟩ rfl (pad_lt l14) (Or.inr sea) (mm 0 rfl) at_276 rfl
    replace G := G'; clear G'
    obtain ⟨s15, q15, l15, D⟩ := DF.put1 l14 D As Ks np1 np2 np3 np4 (by decide)
    replace G := G.aload 279 at_277 rfl rfl rfl |>.bipush 281 (15 : Int32) at_279 (by decide) rfl |>.bipush 283 (111 : Int32) at_281 (by decide) rfl
    obtain ⟨f15, G', As, Ks⟩ := G.castore 284 15 D.pad1 ⟨by decide, ofn_lt (i := 15) (Nat.lt_of_lt_of_le (nle rfl) (Nat.le_add_right 47 _)) hn31⟩ rfl (pad_lt l15) (Or.inr sea) (mm 0 rfl) at_283 rfl
    replace G := G'; clear G'
    obtain ⟨s16, q16, l16, D⟩ := DF.put1 l15 D As Ks np1 np2 np3 np4 (by decide)
    replace G := G.aload 286 at_284 rfl rfl rfl |>.bipush 288 (16 : Int32) at_286 (by decide) rfl |>.bipush 290 (112 : Int32) at_288 (by decide) rfl
    obtain ⟨f16, G', As, Ks⟩ := G.castore 291 16 D.pad1 ⟨by decide, ofn_lt (i := 16) (Nat.lt_of_lt_of_le (nle rfl) (Nat.le_add_right 47 _)) hn31⟩ rfl (pad_lt l16) (Or.inr sea) (mm 0 rfl) at_290 rfl
    replace G := G'; clear G'
    obtain ⟨s17, q17, l17, D⟩ := DF.put1 l16 D As Ks np1 np2 np3 np4 (by decide)
    replace G := G.aload 293 at_291 rfl rfl rfl |>.bipush 295 (17 : Int32) at_293 (by decide) rfl |>.bipush 297 (105 : Int32) at_295 (by decide) rfl
    obtain ⟨f17, G', As, Ks⟩ := G.castore 298 17 D.pad1 ⟨by decide, ofn_lt (i := 17) (Nat.lt_of_lt_of_le (nle rfl) (Nat.le_add_right 47 _)) hn31⟩ rfl (pad_lt l17) (Or.inr sea) (mm 0 rfl) at_297 rfl
    replace G := G'; clear G'
    obtain ⟨s18, q18, l18, D⟩ := DF.put1 l17 D As Ks np1 np2 np3 np4 (by decide)
    replace G := G.aload 300 at_298 rfl rfl rfl |>.bipush 302 (18 : Int32) at_300 (by decide) rfl |>.bipush 304 (99 : Int32) at_302 (by decide) rfl
    obtain ⟨f18, G', As, Ks⟩ := G.castore 305 18 D.pad1 ⟨by decide, ofn_lt (i := 18) (Nat.lt_of_lt_of_le (nle rfl) (Nat.le_add_right 47 _)) hn31⟩ rfl (pad_lt l18) (Or.inr sea) (mm 0 rfl) at_304 rfl
    replace G := G'; clear G'
    obtain ⟨s19, q19, l19, D⟩ := DF.put1 l18 D As Ks np1 np2 np3 np4 (by decide)
    replace G := G.aload 307 at_305 rfl rfl rfl |>.bipush 309 (19 : Int32) at_307 (by decide) rfl |>.bipush 311 (61 : Int32) at_309 (by decide) rfl
    obtain ⟨f19, G', As, Ks⟩ := G.castore 312 19 D.pad1 ⟨by decide, ofn_lt (i := 19) (Nat.lt_of_lt_of_le (nle rfl) (Nat.le_add_right 47 _)) hn31⟩ rfl (pad_lt l19) (Or.inr sea) (mm 0 rfl) at_311 rfl
    replace G := G'; clear G'
    obtain ⟨s20, q20, l20, D⟩ := DF.put1 l19 D As Ks np1 np2 np3 np4 (by decide)
    replace G := G.bipush 314 (20 : Int32) at_312 (by decide) rfl |>.istore 316 #[.val (.int i0), .val (.int i1), .val (.int i2), .val (.int (2 : Int32)), .val (.int (1 : Int32)), .val (.int (Int32.ofNat x0)), .val (.int (Int32.ofNat x1)), .val (.int (Int32.ofNat x2)), .val (.int (Int32.ofNat x3)), .val (.ref ta), .val (.ref ba), .val (.ref tp), .val (.ref br), .val (.int (Int32.ofNat N)), .val (.int (Int32.ofNat (nd N))), .val (.int (Int32.ofNat (47 + nd N))), .val (.ref ea), .val (.int (20 : Int32)), .unset] at_314 rfl rfl |>.aload 318 at_316 rfl rfl rfl |>.iload 320 at_318 rfl rfl |>.iincV 323 #[.val (.int i0), .val (.int i1), .val (.int i2), .val (.int (2 : Int32)), .val (.int (1 : Int32)), .val (.int (Int32.ofNat x0)), .val (.int (Int32.ofNat x1)), .val (.int (Int32.ofNat x2)), .val (.int (Int32.ofNat x3)), .val (.ref ta), .val (.ref ba), .val (.ref tp), .val (.ref br), .val (.int (Int32.ofNat N)), .val (.int (Int32.ofNat (nd N))), .val (.int (Int32.ofNat (47 + nd N))), .val (.ref ea), .val (.int (21 : Int32)), .unset] (21 : Int32) at_320 rfl (by decide) rfl rfl |>.iload 325 at_323 rfl rfl
    obtain ⟨f20, G', As, Ks⟩ := G.castore 326 20 D.pad1 ⟨by decide, ofn_lt (i := 20) (Nat.lt_of_lt_of_le (nle rfl) (Nat.le_add_right 47 _)) hn31⟩ rfl (pad_lt l20) (Or.inr sea) (mm 0 rfl) at_325 rfl
    replace G := G'; clear G'
    obtain ⟨s21, q21, l21, D⟩ := DF.put1 l20 D As Ks np1 np2 np3 np4 (i2c_n hx0)
    replace G := G.iloadN 327 at_326 rfl rfl |>.iconst 328 (2 : Int32) at_327 rfl rfl |>.icmpF 331 at_328 (XT.ii_ne_f rfl) rfl |>.aload 333 at_331 rfl rfl rfl |>.iload 335 at_333 rfl rfl |>.iincV 338 #[.val (.int i0), .val (.int i1), .val (.int i2), .val (.int (2 : Int32)), .val (.int (1 : Int32)), .val (.int (Int32.ofNat x0)), .val (.int (Int32.ofNat x1)), .val (.int (Int32.ofNat x2)), .val (.int (Int32.ofNat x3)), .val (.ref ta), .val (.ref ba), .val (.ref tp), .val (.ref br), .val (.int (Int32.ofNat N)), .val (.int (Int32.ofNat (nd N))), .val (.int (Int32.ofNat (47 + nd N))), .val (.ref ea), .val (.int (22 : Int32)), .unset] (22 : Int32) at_335 rfl (by decide) rfl rfl |>.iload 340 at_338 rfl rfl
    obtain ⟨f21, G', As, Ks⟩ := G.castore 341 21 D.pad1 ⟨by decide, ofn_lt (i := 21) (Nat.lt_of_lt_of_le (nle rfl) (Nat.le_add_right 47 _)) hn31⟩ rfl (pad_lt l21) (Or.inr sea) (mm 0 rfl) at_340 rfl
    replace G := G'; clear G'
    obtain ⟨s22, q22, l22, D⟩ := DF.put1 l21 D As Ks np1 np2 np3 np4 (i2c_n hx1)
    replace G := G.aload 343 at_341 rfl rfl rfl |>.iload 345 at_343 rfl rfl |>.iincV 348 #[.val (.int i0), .val (.int i1), .val (.int i2), .val (.int (2 : Int32)), .val (.int (1 : Int32)), .val (.int (Int32.ofNat x0)), .val (.int (Int32.ofNat x1)), .val (.int (Int32.ofNat x2)), .val (.int (Int32.ofNat x3)), .val (.ref ta), .val (.ref ba), .val (.ref tp), .val (.ref br), .val (.int (Int32.ofNat N)), .val (.int (Int32.ofNat (nd N))), .val (.int (Int32.ofNat (47 + nd N))), .val (.ref ea), .val (.int (23 : Int32)), .unset] (23 : Int32) at_345 rfl (by decide) rfl rfl |>.bipush 350 (44 : Int32) at_348 (by decide) rfl
    obtain ⟨f22, G', As, Ks⟩ := G.castore 351 22 D.pad1 ⟨by decide, ofn_lt (i := 22) (Nat.lt_of_lt_of_le (nle rfl) (Nat.le_add_right 47 _)) hn31⟩ rfl (pad_lt l22) (Or.inr sea) (mm 0 rfl) at_350 rfl
    replace G := G'; clear G'
    obtain ⟨s23, q23, l23, D⟩ := DF.put1 l22 D As Ks np1 np2 np3 np4 (by decide)
    replace G := G.aload 353 at_351 rfl rfl rfl |>.iload 355 at_353 rfl rfl |>.iincV 358 #[.val (.int i0), .val (.int i1), .val (.int i2), .val (.int (2 : Int32)), .val (.int (1 : Int32)), .val (.int (Int32.ofNat x0)), .val (.int (Int32.ofNat x1)), .val (.int (Int32.ofNat x2)), .val (.int (Int32.ofNat x3)), .val (.ref ta), .val (.ref ba), .val (.ref tp), .val (.ref br), .val (.int (Int32.ofNat N)), .val (.int (Int32.ofNat (nd N))), .val (.int (Int32.ofNat (47 + nd N))), .val (.ref ea), .val (.int (24 : Int32)), .unset] (24 : Int32) at_355 rfl (by decide) rfl rfl |>.bipush 360 (32 : Int32) at_358 (by decide) rfl
    obtain ⟨f23, G', As, Ks⟩ := G.castore 361 23 D.pad1 ⟨by decide, ofn_lt (i := 23) (Nat.lt_of_lt_of_le (nle rfl) (Nat.le_add_right 47 _)) hn31⟩ rfl (pad_lt l23) (Or.inr sea) (mm 0 rfl) at_360 rfl
    replace G := G'; clear G'
    obtain ⟨s24, q24, l24, D⟩ := DF.put1 l23 D As Ks np1 np2 np3 np4 (by decide)
    replace G := G.aload 363 at_361 rfl rfl rfl |>.iload 365 at_363 rfl rfl |>.iincV 368 #[.val (.int i0), .val (.int i1), .val (.int i2), .val (.int (2 : Int32)), .val (.int (1 : Int32)), .val (.int (Int32.ofNat x0)), .val (.int (Int32.ofNat x1)), .val (.int (Int32.ofNat x2)), .val (.int (Int32.ofNat x3)), .val (.ref ta), .val (.ref ba), .val (.ref tp), .val (.ref br), .val (.int (Int32.ofNat N)), .val (.int (Int32.ofNat (nd N))), .val (.int (Int32.ofNat (47 + nd N))), .val (.ref ea), .val (.int (25 : Int32)), .unset] (25 : Int32) at_365 rfl (by decide) rfl rfl |>.bipush 370 (98 : Int32) at_368 (by decide) rfl
    obtain ⟨f24, G', As, Ks⟩ := G.castore 371 24 D.pad1 ⟨by decide, ofn_lt (i := 24) (Nat.lt_of_lt_of_le (nle rfl) (Nat.le_add_right 47 _)) hn31⟩ rfl (pad_lt l24) (Or.inr sea) (mm 0 rfl) at_370 rfl
    replace G := G'; clear G'
    obtain ⟨s25, q25, l25, D⟩ := DF.put1 l24 D As Ks np1 np2 np3 np4 (by decide)
    replace G := G.aload 373 at_371 rfl rfl rfl |>.iload 375 at_373 rfl rfl |>.iincV 378 #[.val (.int i0), .val (.int i1), .val (.int i2), .val (.int (2 : Int32)), .val (.int (1 : Int32)), .val (.int (Int32.ofNat x0)), .val (.int (Int32.ofNat x1)), .val (.int (Int32.ofNat x2)), .val (.int (Int32.ofNat x3)), .val (.ref ta), .val (.ref ba), .val (.ref tp), .val (.ref br), .val (.int (Int32.ofNat N)), .val (.int (Int32.ofNat (nd N))), .val (.int (Int32.ofNat (47 + nd N))), .val (.ref ea), .val (.int (26 : Int32)), .unset] (26 : Int32) at_375 rfl (by decide) rfl rfl |>.bipush 380 (114 : Int32) at_378 (by decide) rfl
    obtain ⟨f25, G', As, Ks⟩ := G.castore 381 25 D.pad1 ⟨by decide, ofn_lt (i := 25) (Nat.lt_of_lt_of_le (nle rfl) (Nat.le_add_right 47 _)) hn31⟩ rfl (pad_lt l25) (Or.inr sea) (mm 0 rfl) at_380 rfl
    replace G := G'; clear G'
    obtain ⟨s26, q26, l26, D⟩ := DF.put1 l25 D As Ks np1 np2 np3 np4 (by decide)
    replace G := G.aload 383 at_381 rfl rfl rfl |>.iload 385 at_383 rfl rfl |>.iincV 388 #[.val (.int i0), .val (.int i1), .val (.int i2), .val (.int (2 : Int32)), .val (.int (1 : Int32)), .val (.int (Int32.ofNat x0)), .val (.int (Int32.ofNat x1)), .val (.int (Int32.ofNat x2)), .val (.int (Int32.ofNat x3)), .val (.ref ta), .val (.ref ba), .val (.ref tp), .val (.ref br), .val (.int (Int32.ofNat N)), .val (.int (Int32.ofNat (nd N))), .val (.int (Int32.ofNat (47 + nd N))), .val (.ref ea), .val (.int (27 : Int32)), .unset] (27 : Int32) at_385 rfl (by decide) rfl rfl |>.bipush 390 (111 : Int32) at_388 (by decide) rfl
    obtain ⟨f26, G', As, Ks⟩ := G.castore 391 26 D.pad1 ⟨by decide, ofn_lt (i := 26) (Nat.lt_of_lt_of_le (nle rfl) (Nat.le_add_right 47 _)) hn31⟩ rfl (pad_lt l26) (Or.inr sea) (mm 0 rfl) at_390 rfl
    replace G := G'; clear G'
    obtain ⟨s27, q27, l27, D⟩ := DF.put1 l26 D As Ks np1 np2 np3 np4 (by decide)
    replace G := G.aload 393 at_391 rfl rfl rfl |>.iload 395 at_393 rfl rfl |>.iincV 398 #[.val (.int i0), .val (.int i1), .val (.int i2), .val (.int (2 : Int32)), .val (.int (1 : Int32)), .val (.int (Int32.ofNat x0)), .val (.int (Int32.ofNat x1)), .val (.int (Int32.ofNat x2)), .val (.int (Int32.ofNat x3)), .val (.ref ta), .val (.ref ba), .val (.ref tp), .val (.ref br), .val (.int (Int32.ofNat N)), .val (.int (Int32.ofNat (nd N))), .val (.int (Int32.ofNat (47 + nd N))), .val (.ref ea), .val (.int (28 : Int32)), .unset] (28 : Int32) at_395 rfl (by decide) rfl rfl |>.bipush 400 (107 : Int32) at_398 (by decide) rfl
    obtain ⟨f27, G', As, Ks⟩ := G.castore 401 27 D.pad1 ⟨by decide, ofn_lt (i := 27) (Nat.lt_of_lt_of_le (nle rfl) (Nat.le_add_right 47 _)) hn31⟩ rfl (pad_lt l27) (Or.inr sea) (mm 0 rfl) at_400 rfl
    replace G := G'; clear G'
    obtain ⟨s28, q28, l28, D⟩ := DF.put1 l27 D As Ks np1 np2 np3 np4 (by decide)
    replace G := G.aload 403 at_401 rfl rfl rfl |>.iload 405 at_403 rfl rfl |>.iincV 408 #[.val (.int i0), .val (.int i1), .val (.int i2), .val (.int (2 : Int32)), .val (.int (1 : Int32)), .val (.int (Int32.ofNat x0)), .val (.int (Int32.ofNat x1)), .val (.int (Int32.ofNat x2)), .val (.int (Int32.ofNat x3)), .val (.ref ta), .val (.ref ba), .val (.ref tp), .val (.ref br), .val (.int (Int32.ofNat N)), .val (.int (Int32.ofNat (nd N))), .val (.int (Int32.ofNat (47 + nd N))), .val (.ref ea), .val (.int (29 : Int32)), .unset] (29 : Int32) at_405 rfl (by decide) rfl rfl |>.bipush 410 (101 : Int32) at_408 (by decide) rfl
    obtain ⟨f28, G', As, Ks⟩ := G.castore 411 28 D.pad1 ⟨by decide, ofn_lt (i := 28) (Nat.lt_of_lt_of_le (nle rfl) (Nat.le_add_right 47 _)) hn31⟩ rfl (pad_lt l28) (Or.inr sea) (mm 0 rfl) at_410 rfl
    replace G := G'; clear G'
    obtain ⟨s29, q29, l29, D⟩ := DF.put1 l28 D As Ks np1 np2 np3 np4 (by decide)
    replace G := G.aload 413 at_411 rfl rfl rfl |>.iload 415 at_413 rfl rfl |>.iincV 418 #[.val (.int i0), .val (.int i1), .val (.int i2), .val (.int (2 : Int32)), .val (.int (1 : Int32)), .val (.int (Int32.ofNat x0)), .val (.int (Int32.ofNat x1)), .val (.int (Int32.ofNat x2)), .val (.int (Int32.ofNat x3)), .val (.ref ta), .val (.ref ba), .val (.ref tp), .val (.ref br), .val (.int (Int32.ofNat N)), .val (.int (Int32.ofNat (nd N))), .val (.int (Int32.ofNat (47 + nd N))), .val (.ref ea), .val (.int (30 : Int32)), .unset] (30 : Int32) at_415 rfl (by decide) rfl rfl |>.bipush 420 (114 : Int32) at_418 (by decide) rfl
    obtain ⟨f29, G', As, Ks⟩ := G.castore 421 29 D.pad1 ⟨by decide, ofn_lt (i := 29) (Nat.lt_of_lt_of_le (nle rfl) (Nat.le_add_right 47 _)) hn31⟩ rfl (pad_lt l29) (Or.inr sea) (mm 0 rfl) at_420 rfl
    replace G := G'; clear G'
    obtain ⟨s30, q30, l30, D⟩ := DF.put1 l29 D As Ks np1 np2 np3 np4 (by decide)
    replace G := G.aload 423 at_421 rfl rfl rfl |>.iload 425 at_423 rfl rfl |>.iincV 428 #[.val (.int i0), .val (.int i1), .val (.int i2), .val (.int (2 : Int32)), .val (.int (1 : Int32)), .val (.int (Int32.ofNat x0)), .val (.int (Int32.ofNat x1)), .val (.int (Int32.ofNat x2)), .val (.int (Int32.ofNat x3)), .val (.ref ta), .val (.ref ba), .val (.ref tp), .val (.ref br), .val (.int (Int32.ofNat N)), .val (.int (Int32.ofNat (nd N))), .val (.int (Int32.ofNat (47 + nd N))), .val (.ref ea), .val (.int (31 : Int32)), .unset] (31 : Int32) at_425 rfl (by decide) rfl rfl |>.bipush 430 (78 : Int32) at_428 (by decide) rfl
    obtain ⟨f30, G', As, Ks⟩ := G.castore 431 30 D.pad1 ⟨by decide, ofn_lt (i := 30) (Nat.lt_of_lt_of_le (nle rfl) (Nat.le_add_right 47 _)) hn31⟩ rfl (pad_lt l30) (Or.inr sea) (mm 0 rfl) at_430 rfl
    replace G := G'; clear G'
    obtain ⟨s31, q31, l31, D⟩ := DF.put1 l30 D As Ks np1 np2 np3 np4 (by decide)
    replace G := G.aload 433 at_431 rfl rfl rfl |>.iload 435 at_433 rfl rfl |>.iincV 438 #[.val (.int i0), .val (.int i1), .val (.int i2), .val (.int (2 : Int32)), .val (.int (1 : Int32)), .val (.int (Int32.ofNat x0)), .val (.int (Int32.ofNat x1)), .val (.int (Int32.ofNat x2)), .val (.int (Int32.ofNat x3)), .val (.ref ta), .val (.ref ba), .val (.ref tp), .val (.ref br), .val (.int (Int32.ofNat N)), .val (.int (Int32.ofNat (nd N))), .val (.int (Int32.ofNat (47 + nd N))), .val (.ref ea), .val (.int (32 : Int32)), .unset] (32 : Int32) at_435 rfl (by decide) rfl rfl |>.bipush 440 (97 : Int32) at_438 (by decide) rfl
    obtain ⟨f31, G', As, Ks⟩ := G.castore 441 31 D.pad1 ⟨by decide, ofn_lt (i := 31) (Nat.lt_of_lt_of_le (nle rfl) (Nat.le_add_right 47 _)) hn31⟩ rfl (pad_lt l31) (Or.inr sea) (mm 0 rfl) at_440 rfl
    replace G := G'; clear G'
    obtain ⟨s32, q32, l32, D⟩ := DF.put1 l31 D As Ks np1 np2 np3 np4 (by decide)
    replace G := G.aload 443 at_441 rfl rfl rfl |>.iload 445 at_443 rfl rfl |>.iincV 448 #[.val (.int i0), .val (.int i1), .val (.int i2), .val (.int (2 : Int32)), .val (.int (1 : Int32)), .val (.int (Int32.ofNat x0)), .val (.int (Int32.ofNat x1)), .val (.int (Int32.ofNat x2)), .val (.int (Int32.ofNat x3)), .val (.ref ta), .val (.ref ba), .val (.ref tp), .val (.ref br), .val (.int (Int32.ofNat N)), .val (.int (Int32.ofNat (nd N))), .val (.int (Int32.ofNat (47 + nd N))), .val (.ref ea), .val (.int (33 : Int32)), .unset] (33 : Int32) at_445 rfl (by decide) rfl rfl |>.bipush 450 (109 : Int32) at_448 (by decide) rfl
    obtain ⟨f32, G', As, Ks⟩ := G.castore 451 32 D.pad1 ⟨by decide, ofn_lt (i := 32) (Nat.lt_of_lt_of_le (nle rfl) (Nat.le_add_right 47 _)) hn31⟩ rfl (pad_lt l32) (Or.inr sea) (mm 0 rfl) at_450 rfl
    replace G := G'; clear G'
    obtain ⟨s33, q33, l33, D⟩ := DF.put1 l32 D As Ks np1 np2 np3 np4 (by decide)
    replace G := G.aload 453 at_451 rfl rfl rfl |>.iload 455 at_453 rfl rfl |>.iincV 458 #[.val (.int i0), .val (.int i1), .val (.int i2), .val (.int (2 : Int32)), .val (.int (1 : Int32)), .val (.int (Int32.ofNat x0)), .val (.int (Int32.ofNat x1)), .val (.int (Int32.ofNat x2)), .val (.int (Int32.ofNat x3)), .val (.ref ta), .val (.ref ba), .val (.ref tp), .val (.ref br), .val (.int (Int32.ofNat N)), .val (.int (Int32.ofNat (nd N))), .val (.int (Int32.ofNat (47 + nd N))), .val (.ref ea), .val (.int (34 : Int32)), .unset] (34 : Int32) at_455 rfl (by decide) rfl rfl |>.bipush 460 (101 : Int32) at_458 (by decide) rfl
    obtain ⟨f33, G', As, Ks⟩ := G.castore 461 33 D.pad1 ⟨by decide, ofn_lt (i := 33) (Nat.lt_of_lt_of_le (nle rfl) (Nat.le_add_right 47 _)) hn31⟩ rfl (pad_lt l33) (Or.inr sea) (mm 0 rfl) at_460 rfl
    replace G := G'; clear G'
    obtain ⟨s34, q34, l34, D⟩ := DF.put1 l33 D As Ks np1 np2 np3 np4 (by decide)
    replace G := G.aload 463 at_461 rfl rfl rfl |>.iload 465 at_463 rfl rfl |>.iincV 468 #[.val (.int i0), .val (.int i1), .val (.int i2), .val (.int (2 : Int32)), .val (.int (1 : Int32)), .val (.int (Int32.ofNat x0)), .val (.int (Int32.ofNat x1)), .val (.int (Int32.ofNat x2)), .val (.int (Int32.ofNat x3)), .val (.ref ta), .val (.ref ba), .val (.ref tp), .val (.ref br), .val (.int (Int32.ofNat N)), .val (.int (Int32.ofNat (nd N))), .val (.int (Int32.ofNat (47 + nd N))), .val (.ref ea), .val (.int (35 : Int32)), .unset] (35 : Int32) at_465 rfl (by decide) rfl rfl |>.bipush 470 (61 : Int32) at_468 (by decide) rfl
    obtain ⟨f34, G', As, Ks⟩ := G.castore 471 34 D.pad1 ⟨by decide, ofn_lt (i := 34) (Nat.lt_of_lt_of_le (nle rfl) (Nat.le_add_right 47 _)) hn31⟩ rfl (pad_lt l34) (Or.inr sea) (mm 0 rfl) at_470 rfl
    replace G := G'; clear G'
    obtain ⟨s35, q35, l35, D⟩ := DF.put1 l34 D As Ks np1 np2 np3 np4 (by decide)
    replace G := G.aload 473 at_471 rfl rfl rfl |>.iload 475 at_473 rfl rfl |>.iincV 478 #[.val (.int i0), .val (.int i1), .val (.int i2), .val (.int (2 : Int32)), .val (.int (1 : Int32)), .val (.int (Int32.ofNat x0)), .val (.int (Int32.ofNat x1)), .val (.int (Int32.ofNat x2)), .val (.int (Int32.ofNat x3)), .val (.ref ta), .val (.ref ba), .val (.ref tp), .val (.ref br), .val (.int (Int32.ofNat N)), .val (.int (Int32.ofNat (nd N))), .val (.int (Int32.ofNat (47 + nd N))), .val (.ref ea), .val (.int (36 : Int32)), .unset] (36 : Int32) at_475 rfl (by decide) rfl rfl |>.iload 480 at_478 rfl rfl
    obtain ⟨f35, G', As, Ks⟩ := G.castore 481 35 D.pad1 ⟨by decide, ofn_lt (i := 35) (Nat.lt_of_lt_of_le (nle rfl) (Nat.le_add_right 47 _)) hn31⟩ rfl (pad_lt l35) (Or.inr sea) (mm 0 rfl) at_480 rfl
    replace G := G'; clear G'
    obtain ⟨s36, q36, l36, D⟩ := DF.put1 l35 D As Ks np1 np2 np3 np4 (i2c_n hx2)
    replace G := G.iload 483 at_481 rfl rfl |>.iconst 484 (2 : Int32) at_483 rfl rfl |>.icmpT 497 at_484 (XT.ii_ne_t (by decide)) (by decide) (by decide) |>.aload 499 at_497 rfl rfl rfl |>.iload 501 at_499 rfl rfl |>.iincV 504 #[.val (.int i0), .val (.int i1), .val (.int i2), .val (.int (2 : Int32)), .val (.int (1 : Int32)), .val (.int (Int32.ofNat x0)), .val (.int (Int32.ofNat x1)), .val (.int (Int32.ofNat x2)), .val (.int (Int32.ofNat x3)), .val (.ref ta), .val (.ref ba), .val (.ref tp), .val (.ref br), .val (.int (Int32.ofNat N)), .val (.int (Int32.ofNat (nd N))), .val (.int (Int32.ofNat (47 + nd N))), .val (.ref ea), .val (.int (37 : Int32)), .unset] (37 : Int32) at_501 rfl (by decide) rfl rfl |>.bipush 506 (44 : Int32) at_504 (by decide) rfl
    obtain ⟨f36, G', As, Ks⟩ := G.castore 507 36 D.pad1 ⟨by decide, ofn_lt (i := 36) (Nat.lt_of_lt_of_le (nle rfl) (Nat.le_add_right 47 _)) hn31⟩ rfl (pad_lt l36) (Or.inr sea) (mm 0 rfl) at_506 rfl
    replace G := G'; clear G'
    obtain ⟨s37, q37, l37, D⟩ := DF.put1 l36 D As Ks np1 np2 np3 np4 (by decide)
    replace G := G.aload 509 at_507 rfl rfl rfl |>.iload 511 at_509 rfl rfl |>.iincV 514 #[.val (.int i0), .val (.int i1), .val (.int i2), .val (.int (2 : Int32)), .val (.int (1 : Int32)), .val (.int (Int32.ofNat x0)), .val (.int (Int32.ofNat x1)), .val (.int (Int32.ofNat x2)), .val (.int (Int32.ofNat x3)), .val (.ref ta), .val (.ref ba), .val (.ref tp), .val (.ref br), .val (.int (Int32.ofNat N)), .val (.int (Int32.ofNat (nd N))), .val (.int (Int32.ofNat (47 + nd N))), .val (.ref ea), .val (.int (38 : Int32)), .unset] (38 : Int32) at_511 rfl (by decide) rfl rfl |>.bipush 516 (32 : Int32) at_514 (by decide) rfl
    obtain ⟨f37, G', As, Ks⟩ := G.castore 517 37 D.pad1 ⟨by decide, ofn_lt (i := 37) (Nat.lt_of_lt_of_le (nle rfl) (Nat.le_add_right 47 _)) hn31⟩ rfl (pad_lt l37) (Or.inr sea) (mm 0 rfl) at_516 rfl
    replace G := G'; clear G'
    obtain ⟨s38, q38, l38, D⟩ := DF.put1 l37 D As Ks np1 np2 np3 np4 (by decide)
    replace G := G.aload 519 at_517 rfl rfl rfl |>.iload 521 at_519 rfl rfl |>.iincV 524 #[.val (.int i0), .val (.int i1), .val (.int i2), .val (.int (2 : Int32)), .val (.int (1 : Int32)), .val (.int (Int32.ofNat x0)), .val (.int (Int32.ofNat x1)), .val (.int (Int32.ofNat x2)), .val (.int (Int32.ofNat x3)), .val (.ref ta), .val (.ref ba), .val (.ref tp), .val (.ref br), .val (.int (Int32.ofNat N)), .val (.int (Int32.ofNat (nd N))), .val (.int (Int32.ofNat (47 + nd N))), .val (.ref ea), .val (.int (39 : Int32)), .unset] (39 : Int32) at_521 rfl (by decide) rfl rfl |>.bipush 526 (113 : Int32) at_524 (by decide) rfl
    obtain ⟨f38, G', As, Ks⟩ := G.castore 527 38 D.pad1 ⟨by decide, ofn_lt (i := 38) (Nat.lt_of_lt_of_le (nle rfl) (Nat.le_add_right 47 _)) hn31⟩ rfl (pad_lt l38) (Or.inr sea) (mm 0 rfl) at_526 rfl
    replace G := G'; clear G'
    obtain ⟨s39, q39, l39, D⟩ := DF.put1 l38 D As Ks np1 np2 np3 np4 (by decide)
    replace G := G.aload 529 at_527 rfl rfl rfl |>.iload 531 at_529 rfl rfl |>.iincV 534 #[.val (.int i0), .val (.int i1), .val (.int i2), .val (.int (2 : Int32)), .val (.int (1 : Int32)), .val (.int (Int32.ofNat x0)), .val (.int (Int32.ofNat x1)), .val (.int (Int32.ofNat x2)), .val (.int (Int32.ofNat x3)), .val (.ref ta), .val (.ref ba), .val (.ref tp), .val (.ref br), .val (.int (Int32.ofNat N)), .val (.int (Int32.ofNat (nd N))), .val (.int (Int32.ofNat (47 + nd N))), .val (.ref ea), .val (.int (40 : Int32)), .unset] (40 : Int32) at_531 rfl (by decide) rfl rfl |>.bipush 536 (117 : Int32) at_534 (by decide) rfl
    obtain ⟨f39, G', As, Ks⟩ := G.castore 537 39 D.pad1 ⟨by decide, ofn_lt (i := 39) (Nat.lt_of_lt_of_le (nle rfl) (Nat.le_add_right 47 _)) hn31⟩ rfl (pad_lt l39) (Or.inr sea) (mm 0 rfl) at_536 rfl
    replace G := G'; clear G'
    obtain ⟨s40, q40, l40, D⟩ := DF.put1 l39 D As Ks np1 np2 np3 np4 (by decide)
    replace G := G.aload 539 at_537 rfl rfl rfl |>.iload 541 at_539 rfl rfl |>.iincV 544 #[.val (.int i0), .val (.int i1), .val (.int i2), .val (.int (2 : Int32)), .val (.int (1 : Int32)), .val (.int (Int32.ofNat x0)), .val (.int (Int32.ofNat x1)), .val (.int (Int32.ofNat x2)), .val (.int (Int32.ofNat x3)), .val (.ref ta), .val (.ref ba), .val (.ref tp), .val (.ref br), .val (.int (Int32.ofNat N)), .val (.int (Int32.ofNat (nd N))), .val (.int (Int32.ofNat (47 + nd N))), .val (.ref ea), .val (.int (41 : Int32)), .unset] (41 : Int32) at_541 rfl (by decide) rfl rfl |>.bipush 546 (101 : Int32) at_544 (by decide) rfl
    obtain ⟨f40, G', As, Ks⟩ := G.castore 547 40 D.pad1 ⟨by decide, ofn_lt (i := 40) (Nat.lt_of_lt_of_le (nle rfl) (Nat.le_add_right 47 _)) hn31⟩ rfl (pad_lt l40) (Or.inr sea) (mm 0 rfl) at_546 rfl
    replace G := G'; clear G'
    obtain ⟨s41, q41, l41, D⟩ := DF.put1 l40 D As Ks np1 np2 np3 np4 (by decide)
    replace G := G.aload 549 at_547 rfl rfl rfl |>.iload 551 at_549 rfl rfl |>.iincV 554 #[.val (.int i0), .val (.int i1), .val (.int i2), .val (.int (2 : Int32)), .val (.int (1 : Int32)), .val (.int (Int32.ofNat x0)), .val (.int (Int32.ofNat x1)), .val (.int (Int32.ofNat x2)), .val (.int (Int32.ofNat x3)), .val (.ref ta), .val (.ref ba), .val (.ref tp), .val (.ref br), .val (.int (Int32.ofNat N)), .val (.int (Int32.ofNat (nd N))), .val (.int (Int32.ofNat (47 + nd N))), .val (.ref ea), .val (.int (42 : Int32)), .unset] (42 : Int32) at_551 rfl (by decide) rfl rfl |>.bipush 556 (117 : Int32) at_554 (by decide) rfl
    obtain ⟨f41, G', As, Ks⟩ := G.castore 557 41 D.pad1 ⟨by decide, ofn_lt (i := 41) (Nat.lt_of_lt_of_le (nle rfl) (Nat.le_add_right 47 _)) hn31⟩ rfl (pad_lt l41) (Or.inr sea) (mm 0 rfl) at_556 rfl
    replace G := G'; clear G'
    obtain ⟨s42, q42, l42, D⟩ := DF.put1 l41 D As Ks np1 np2 np3 np4 (by decide)
    replace G := G.aload 559 at_557 rfl rfl rfl |>.iload 561 at_559 rfl rfl |>.iincV 564 #[.val (.int i0), .val (.int i1), .val (.int i2), .val (.int (2 : Int32)), .val (.int (1 : Int32)), .val (.int (Int32.ofNat x0)), .val (.int (Int32.ofNat x1)), .val (.int (Int32.ofNat x2)), .val (.int (Int32.ofNat x3)), .val (.ref ta), .val (.ref ba), .val (.ref tp), .val (.ref br), .val (.int (Int32.ofNat N)), .val (.int (Int32.ofNat (nd N))), .val (.int (Int32.ofNat (47 + nd N))), .val (.ref ea), .val (.int (43 : Int32)), .unset] (43 : Int32) at_561 rfl (by decide) rfl rfl |>.bipush 566 (101 : Int32) at_564 (by decide) rfl
    obtain ⟨f42, G', As, Ks⟩ := G.castore 567 42 D.pad1 ⟨by decide, ofn_lt (i := 42) (Nat.lt_of_lt_of_le (nle rfl) (Nat.le_add_right 47 _)) hn31⟩ rfl (pad_lt l42) (Or.inr sea) (mm 0 rfl) at_566 rfl
    replace G := G'; clear G'
    obtain ⟨s43, q43, l43, D⟩ := DF.put1 l42 D As Ks np1 np2 np3 np4 (by decide)
    replace G := G.aload 569 at_567 rfl rfl rfl |>.iload 571 at_569 rfl rfl |>.iincV 574 #[.val (.int i0), .val (.int i1), .val (.int i2), .val (.int (2 : Int32)), .val (.int (1 : Int32)), .val (.int (Int32.ofNat x0)), .val (.int (Int32.ofNat x1)), .val (.int (Int32.ofNat x2)), .val (.int (Int32.ofNat x3)), .val (.ref ta), .val (.ref ba), .val (.ref tp), .val (.ref br), .val (.int (Int32.ofNat N)), .val (.int (Int32.ofNat (nd N))), .val (.int (Int32.ofNat (47 + nd N))), .val (.ref ea), .val (.int (44 : Int32)), .unset] (44 : Int32) at_571 rfl (by decide) rfl rfl |>.bipush 576 (73 : Int32) at_574 (by decide) rfl
    obtain ⟨f43, G', As, Ks⟩ := G.castore 577 43 D.pad1 ⟨by decide, ofn_lt (i := 43) (Nat.lt_of_lt_of_le (nle rfl) (Nat.le_add_right 47 _)) hn31⟩ rfl (pad_lt l43) (Or.inr sea) (mm 0 rfl) at_576 rfl
    replace G := G'; clear G'
    obtain ⟨s44, q44, l44, D⟩ := DF.put1 l43 D As Ks np1 np2 np3 np4 (by decide)
    replace G := G.aload 579 at_577 rfl rfl rfl |>.iload 581 at_579 rfl rfl |>.iincV 584 #[.val (.int i0), .val (.int i1), .val (.int i2), .val (.int (2 : Int32)), .val (.int (1 : Int32)), .val (.int (Int32.ofNat x0)), .val (.int (Int32.ofNat x1)), .val (.int (Int32.ofNat x2)), .val (.int (Int32.ofNat x3)), .val (.ref ta), .val (.ref ba), .val (.ref tp), .val (.ref br), .val (.int (Int32.ofNat N)), .val (.int (Int32.ofNat (nd N))), .val (.int (Int32.ofNat (47 + nd N))), .val (.ref ea), .val (.int (45 : Int32)), .unset] (45 : Int32) at_581 rfl (by decide) rfl rfl |>.bipush 586 (100 : Int32) at_584 (by decide) rfl
    obtain ⟨f44, G', As, Ks⟩ := G.castore 587 44 D.pad1 ⟨by decide, ofn_lt (i := 44) (Nat.lt_of_lt_of_le (nle rfl) (Nat.le_add_right 47 _)) hn31⟩ rfl (pad_lt l44) (Or.inr sea) (mm 0 rfl) at_586 rfl
    replace G := G'; clear G'
    obtain ⟨s45, q45, l45, D⟩ := DF.put1 l44 D As Ks np1 np2 np3 np4 (by decide)
    replace G := G.aload 589 at_587 rfl rfl rfl |>.iload 591 at_589 rfl rfl |>.iincV 594 #[.val (.int i0), .val (.int i1), .val (.int i2), .val (.int (2 : Int32)), .val (.int (1 : Int32)), .val (.int (Int32.ofNat x0)), .val (.int (Int32.ofNat x1)), .val (.int (Int32.ofNat x2)), .val (.int (Int32.ofNat x3)), .val (.ref ta), .val (.ref ba), .val (.ref tp), .val (.ref br), .val (.int (Int32.ofNat N)), .val (.int (Int32.ofNat (nd N))), .val (.int (Int32.ofNat (47 + nd N))), .val (.ref ea), .val (.int (46 : Int32)), .unset] (46 : Int32) at_591 rfl (by decide) rfl rfl |>.bipush 596 (61 : Int32) at_594 (by decide) rfl
    obtain ⟨f45, G', As, Ks⟩ := G.castore 597 45 D.pad1 ⟨by decide, ofn_lt (i := 45) (Nat.lt_of_lt_of_le (nle rfl) (Nat.le_add_right 47 _)) hn31⟩ rfl (pad_lt l45) (Or.inr sea) (mm 0 rfl) at_596 rfl
    replace G := G'; clear G'
    obtain ⟨s46, q46, l46, D⟩ := DF.put1 l45 D As Ks np1 np2 np3 np4 (by decide)
    have e10 := dI_ten hN
    have hpre : (L59 ++ [Int32.ofNat x0, Int32.ofNat x1] ++ L61 ++ [Int32.ofNat x2] ++ L63).map bytV = [Value.int (77 : Int32), Value.int (101 : Int32), Value.int (115 : Int32), Value.int (115 : Int32), Value.int (97 : Int32), Value.int (103 : Int32), Value.int (101 : Int32), Value.int (81 : Int32), Value.int (117 : Int32), Value.int (101 : Int32), Value.int (117 : Int32), Value.int (101 : Int32), Value.int (32 : Int32), Value.int (91 : Int32), Value.int (116 : Int32), Value.int (111 : Int32), Value.int (112 : Int32), Value.int (105 : Int32), Value.int (99 : Int32), Value.int (61 : Int32)] ++ [bytV (Int32.ofNat x0), bytV (Int32.ofNat x1)] ++ [Value.int (44 : Int32), Value.int (32 : Int32), Value.int (98 : Int32), Value.int (114 : Int32), Value.int (111 : Int32), Value.int (107 : Int32), Value.int (101 : Int32), Value.int (114 : Int32), Value.int (78 : Int32), Value.int (97 : Int32), Value.int (109 : Int32), Value.int (101 : Int32), Value.int (61 : Int32)] ++ [bytV (Int32.ofNat x2)] ++ [Value.int (44 : Int32), Value.int (32 : Int32), Value.int (113 : Int32), Value.int (117 : Int32), Value.int (101 : Int32), Value.int (117 : Int32), Value.int (101 : Int32), Value.int (73 : Int32), Value.int (100 : Int32), Value.int (61 : Int32)] := by simp only [List.map_append, List.map_cons, List.map_nil, L59_b, L61_b, L63_b]
    have hp255 : ∀ x ∈ (L59 ++ [Int32.ofNat x0, Int32.ofNat x1] ++ L61 ++ [Int32.ofNat x2] ++ L63), ¬ (255 : Int32) < x := mem5 L59_c (c255s (xs := [x0, x1]) (allS hx0 (allS hx1 (all0)))) L61_c (c255s (xs := [x2]) (allS hx2 (all0))) L63_c
    have hs : s46 = (L59 ++ [Int32.ofNat x0, Int32.ofNat x1] ++ L61 ++ [Int32.ofNat x2] ++ L63) := by simp only [q46, q45, q44, q43, q42, q41, q40, q39, q38, q37, q36, q35, q34, q33, q32, q31, q30, q29, q28, q27, q26, q25, q24, q23, q22, q21, q20, q19, q18, q17, q16, q15, q14, q13, q12, q11, q10, q9, q8, q7, q6, q5, q4, q3, q2, q1, L59, L61, L63, List.append_assoc, List.cons_append, List.nil_append]
    rw [hs] at D
    have hpl : (L59 ++ [Int32.ofNat x0, Int32.ofNat x1] ++ L61 ++ [Int32.ofNat x2] ++ L63).length = 46 := by rw [← hs]; exact l46
    refine tail 2 1 ta ba tp tpb br brb ea ke (47 + nd N) (L59 ++ [Int32.ofNat x0, Int32.ofNat x1] ++ L61 ++ [Int32.ofNat x2] ++ L63) [bytV (Int32.ofNat x0), bytV (Int32.ofNat x1)] [bytV (Int32.ofNat x2)] sea (by rw [hpl]; omega) (by rw [hpl]; decide) hp255 (by exact Or.inr rfl) (by exact Or.inl rfl) hpre np1 np2 np3 np4 _ (by rw [e10, List.append_nil]; exact D) ?_
    rw [e10, List.append_nil]
    rw [hpl]; exact (G.more (k := 16) (n := 400) (nle rfl) (nle rfl)).less (allS (mm 0 rfl) all0)
  · skip
    replace G := G.icmpT 67 at_58 (XT.ii_ne_t (by decide)) (by decide) (by decide) |>.iconst 68 (2 : Int32) at_67 rfl rfl
    obtain ⟨ta, g0, kta, G', gta, sta, Eta, Ata⟩ := G.newarray 70 (hw _ (mm 0 rfl)) at_68 (by decide) 2 (nle rfl) (by decide) rfl (nle rfl) (nle rfl)
    replace G := G'; clear G'
    have Ata0 : Arv Z g0 ta kta .char 2 [(.int 0), (.int 0)] (.int 0) := Ata.pad (pad_rep [] (.int 0) 2)
    replace G := G.astore 72 #[.val (.int i0), .val (.int i1), .val (.int i2), .val (.int (2 : Int32)), .val (.int (2 : Int32)), .val (.int (Int32.ofNat x0)), .val (.int (Int32.ofNat x1)), .val (.int (Int32.ofNat x2)), .val (.int (Int32.ofNat x3)), .val (.ref ta), .unset, .unset, .unset, .unset, .unset, .unset, .unset, .unset, .unset] at_70 rfl rfl rfl |>.aload 74 at_72 rfl rfl rfl |>.iconst 75 (0 : Int32) at_74 rfl rfl |>.iload 77 at_75 rfl rfl
    obtain ⟨g1, G', As, Ks⟩ := G.castore 78 0 Ata0 (by decide) rfl (nle rfl) (Or.inr sta) (mm 0 rfl) at_77 rfl
    replace G := G'; clear G'
    replace Ata0 : Arv Z g1 ta kta .char 2 [(.int (Int32.ofNat x0)), (.int 0)] (.int 0) := by have h := As; rw [show nar FieldType.char (Int32.ofNat x0) = Int32.ofNat x0 from i2c_n hx0] at h; exact h
    replace G := G.iloadN 79 at_78 rfl rfl |>.iconst 80 (2 : Int32) at_79 rfl rfl |>.icmpF 83 at_80 (XT.ii_ne_f rfl) rfl |>.aload 85 at_83 rfl rfl rfl |>.iconst 86 (1 : Int32) at_85 rfl rfl |>.iload 88 at_86 rfl rfl
    obtain ⟨g2, G', As, Ks⟩ := G.castore 89 1 Ata0 (by decide) rfl (nle rfl) (Or.inr sta) (mm 0 rfl) at_88 rfl
    replace G := G'; clear G'
    replace Ata0 : Arv Z g2 ta kta .char 2 [(.int (Int32.ofNat x0)), (.int (Int32.ofNat x1))] (.int 0) := by have h := As; rw [show nar FieldType.char (Int32.ofNat x1) = Int32.ofNat x1 from i2c_n hx1] at h; exact h
    replace G := G.iload 91 at_89 rfl rfl |>.iconst 92 (1 : Int32) at_91 rfl rfl
    skip
    have lta := Ata0.lt
    replace G := G.icmpT 101 at_92 (XT.ii_ne_t (by decide)) (by decide) (by decide) |>.iconst 102 (2 : Int32) at_101 rfl rfl
    obtain ⟨ba, k0, kba, G', gba, sba, Eba, Aba⟩ := G.newarray 104 (hw _ (mm 0 rfl)) at_102 (by decide) 2 (nle rfl) (by decide) rfl (nle rfl) (nle rfl)
    replace G := G'; clear G'
    have nba : ta ≠ ba := ne_new gba lta
    replace Ata0 := Ata0.ext Eba
    have Aba0 : Arv Z k0 ba kba .char 2 [(.int 0), (.int 0)] (.int 0) := Aba.pad (pad_rep [] (.int 0) 2)
    replace G := G.astore 106 #[.val (.int i0), .val (.int i1), .val (.int i2), .val (.int (2 : Int32)), .val (.int (2 : Int32)), .val (.int (Int32.ofNat x0)), .val (.int (Int32.ofNat x1)), .val (.int (Int32.ofNat x2)), .val (.int (Int32.ofNat x3)), .val (.ref ta), .val (.ref ba), .unset, .unset, .unset, .unset, .unset, .unset, .unset, .unset] at_104 rfl rfl rfl |>.aload 108 at_106 rfl rfl rfl |>.iconst 109 (0 : Int32) at_108 rfl rfl |>.iload 111 at_109 rfl rfl
    obtain ⟨k1, G', As, Ks⟩ := G.castore 112 0 Aba0 (by decide) rfl (nle rfl) (Or.inr sba) (mm 0 rfl) at_111 rfl
    replace G := G'; clear G'
    replace Aba0 : Arv Z k1 ba kba .char 2 [(.int (Int32.ofNat x2)), (.int 0)] (.int 0) := by have h := As; rw [show nar FieldType.char (Int32.ofNat x2) = Int32.ofNat x2 from i2c_n hx2] at h; exact h
    replace Ata0 := Ata0.keep Ks (ninS nba nin0)
    replace G := G.iload 114 at_112 rfl rfl |>.iconst 115 (2 : Int32) at_114 rfl rfl |>.icmpF 118 at_115 (XT.ii_ne_f rfl) rfl |>.aload 120 at_118 rfl rfl rfl |>.iconst 121 (1 : Int32) at_120 rfl rfl |>.iload 123 at_121 rfl rfl
    obtain ⟨k2, G', As, Ks⟩ := G.castore 124 1 Aba0 (by decide) rfl (nle rfl) (Or.inr sba) (mm 0 rfl) at_123 rfl
    replace G := G'; clear G'
    replace Aba0 : Arv Z k2 ba kba .char 2 [(.int (Int32.ofNat x2)), (.int (Int32.ofNat x3))] (.int 0) := by have h := As; rw [show nar FieldType.char (Int32.ofNat x3) = Int32.ofNat x3 from i2c_n hx3] at h; exact h
    replace Ata0 := Ata0.keep Ks (ninS nba nin0)
    have nta := Ata0.lt
    obtain ⟨tp, e1, G', gtp, stp, Etp, Xtp, Dtp, Utp⟩ := G.new 127 (hw _ (mm 1 rfl)) (hw _ (mm 2 rfl)) (hw _ (mm 3 rfl)) at_124 rfl (nle rfl) (nle rfl)
    replace G := G'; clear G'
    have Fvtp := Dtp (Or.inr (hw _ (mm 29 rfl))) (ty := .array .byte) (by decide); have Fctp := Dtp (Or.inr (hw _ (mm 27 rfl))) (ty := .byte) (by decide)
    replace Ata0 := Ata0.ext Etp; replace Aba0 := Aba0.ext Etp
    replace G := G.dup 128 at_127 rfl rfl |>.aload 130 at_128 rfl rfl rfl
    obtain ⟨vT, e2, soT, G', KT, QT⟩ := G.callI 133 rfl rfl (hw _ (mm 4 rfl)) (hw _ (mm 5 rfl)) (hw _ (mm 3 rfl)) (hw _ (mm 6 rfl)) (by decide) [(.ref ta)] [(.ref tp)] rfl (c_strC l Z a0 hw hEW n0 c1 hc1 S1 tp ta kta [Int32.ofNat x0, Int32.ofNat x1] G.old (G.nw (Or.inr stp)) Xtp Fvtp Fctp (nle rfl) (nle rfl) (by intro x hx; simp only [List.mem_cons, List.not_mem_nil, or_false] at hx; rcases hx with rfl | rfl <;> first | exact c255 hx0 | exact c255 hx1) Ata0) (lenOf pd___C_V rfl) at_130 rfl (nle rfl) (nle rfl) (nle rfl) (nle rfl) (allS (Or.inr stp) all0) (allS (mm 0 rfl) all0) (allS (mm 0 rfl) all0) rfl
    replace G := G'; clear G'
    obtain ⟨qT, tpb, hT, stpb, rfl⟩ := QT
    replace G := G.nov qT
    replace hT : Str Z e2 tp tpb [bytV (Int32.ofNat x0), bytV (Int32.ofNat x1)] := hT
    skip
    replace Aba0 := Aba0.keep KT (ninS (fun q => ne_arr Xtp (hw _ (mm 2 rfl)) Aba0.choose_spec.1 q.symm) nin0)
    replace G := G.astore 135 #[.val (.int i0), .val (.int i1), .val (.int i2), .val (.int (2 : Int32)), .val (.int (2 : Int32)), .val (.int (Int32.ofNat x0)), .val (.int (Int32.ofNat x1)), .val (.int (Int32.ofNat x2)), .val (.int (Int32.ofNat x3)), .val (.ref ta), .val (.ref ba), .val (.ref tp), .unset, .unset, .unset, .unset, .unset, .unset, .unset] at_133 rfl rfl rfl
    have nw1 := hT.lt; have nw2 := hT.ltb
    obtain ⟨br, e3, G', gbr, sbr, Ebr, Xbr, Dbr, Ubr⟩ := G.new 138 (hw _ (mm 1 rfl)) (hw _ (mm 2 rfl)) (hw _ (mm 3 rfl)) at_135 rfl (nle rfl) (nle rfl)
    replace G := G'; clear G'
    have Fvbr := Dbr (Or.inr (hw _ (mm 29 rfl))) (ty := .array .byte) (by decide); have Fcbr := Dbr (Or.inr (hw _ (mm 27 rfl))) (ty := .byte) (by decide)
    replace Aba0 := Aba0.ext Ebr
    replace G := G.dup 139 at_138 rfl rfl |>.aload 141 at_139 rfl rfl rfl
    obtain ⟨vB, e4, soB, G', KB, QB⟩ := G.callI 144 rfl rfl (hw _ (mm 4 rfl)) (hw _ (mm 5 rfl)) (hw _ (mm 3 rfl)) (hw _ (mm 6 rfl)) (by decide) [(.ref ba)] [(.ref br)] rfl (c_strC l Z a0 hw hEW n0 c1 hc1 S1 br ba kba [Int32.ofNat x2, Int32.ofNat x3] G.old (G.nw (Or.inr sbr)) Xbr Fvbr Fcbr (nle rfl) (nle rfl) (by intro x hx; simp only [List.mem_cons, List.not_mem_nil, or_false] at hx; rcases hx with rfl | rfl <;> first | exact c255 hx2 | exact c255 hx3) Aba0) (lenOf pd___C_V rfl) at_141 rfl (nle rfl) (nle rfl) (nle rfl) (nle rfl) (allS (Or.inr sbr) all0) (allS (mm 0 rfl) all0) (allS (mm 0 rfl) all0) rfl
    replace G := G'; clear G'
    obtain ⟨qB, brb, hB, sbrb, rfl⟩ := QB
    replace G := G.nov qB
    replace hB : Str Z e4 br brb [bytV (Int32.ofNat x2), bytV (Int32.ofNat x3)] := hB
    replace hT := (hT.ext Ebr).keep KB (ninS (ne_new gbr nw1) nin0) (ninS (ne_new gbr nw2) nin0)
    replace G := G.astore 146 #[.val (.int i0), .val (.int i1), .val (.int i2), .val (.int (2 : Int32)), .val (.int (2 : Int32)), .val (.int (Int32.ofNat x0)), .val (.int (Int32.ofNat x1)), .val (.int (Int32.ofNat x2)), .val (.int (Int32.ofNat x3)), .val (.ref ta), .val (.ref ba), .val (.ref tp), .val (.ref br), .unset, .unset, .unset, .unset, .unset, .unset] at_144 rfl rfl rfl |>.iloadN 147 at_146 rfl rfl |>.ldcI 149 (hw _ (mm 30 rfl)) at_147 rfl |>.iand 150 at_149 rfl |>.top (y := (.int (Int32.ofNat N))) (congrArg Value.int eN) |>.istore 152 #[.val (.int i0), .val (.int i1), .val (.int i2), .val (.int (2 : Int32)), .val (.int (2 : Int32)), .val (.int (Int32.ofNat x0)), .val (.int (Int32.ofNat x1)), .val (.int (Int32.ofNat x2)), .val (.int (Int32.ofNat x3)), .val (.ref ta), .val (.ref ba), .val (.ref tp), .val (.ref br), .val (.int (Int32.ofNat N)), .unset, .unset, .unset, .unset, .unset] at_150 rfl rfl |>.iload 154 at_152 rfl rfl
    obtain ⟨vd, e_5, sod, G', Kd, Qd⟩ := G.callS 157 (hw _ (mm 31 rfl)) (hw _ (mm 32 rfl)) (hw _ (mm 33 rfl)) (hw _ (mm 34 rfl)) (by decide) [(.int (Int32.ofNat N))] [] rfl (c_dig l Z a0 hw hEW n0 c1 hc1 S1 N G.old hN) (lenOf pd__I_I rfl) at_154 rfl (nle rfl) (nle rfl) (nle rfl) (nle rfl) all0 all0 all0 rfl
    replace G := G'; clear G'
    obtain ⟨wd, qd, rfl, ed, rfl⟩ := Qd
    replace G := G.val qd
    subst ed
    replace G := G.istore 159 #[.val (.int i0), .val (.int i1), .val (.int i2), .val (.int (2 : Int32)), .val (.int (2 : Int32)), .val (.int (Int32.ofNat x0)), .val (.int (Int32.ofNat x1)), .val (.int (Int32.ofNat x2)), .val (.int (Int32.ofNat x3)), .val (.ref ta), .val (.ref ba), .val (.ref tp), .val (.ref br), .val (.int (Int32.ofNat N)), .val (.int (Int32.ofNat (nd N))), .unset, .unset, .unset, .unset] at_157 rfl rfl |>.bipush 161 (44 : Int32) at_159 (by decide) rfl |>.iloadN 162 at_161 rfl rfl |>.iadd 163 at_162 rfl |>.top (y := (.int (46 : Int32))) (by decide) |>.iload 165 at_163 rfl rfl |>.iadd 166 at_165 rfl |>.top (y := (.int (48 : Int32))) (by decide)
    replace G := G.iload 168 at_166 rfl rfl |>.iadd 169 at_168 rfl |>.top (y := (.int (Int32.ofNat (48 + nd N)))) (congrArg Value.int (ofn_add 48 _)) |>.istore 171 #[.val (.int i0), .val (.int i1), .val (.int i2), .val (.int (2 : Int32)), .val (.int (2 : Int32)), .val (.int (Int32.ofNat x0)), .val (.int (Int32.ofNat x1)), .val (.int (Int32.ofNat x2)), .val (.int (Int32.ofNat x3)), .val (.ref ta), .val (.ref ba), .val (.ref tp), .val (.ref br), .val (.int (Int32.ofNat N)), .val (.int (Int32.ofNat (nd N))), .val (.int (Int32.ofNat (48 + nd N))), .unset, .unset, .unset] at_169 rfl rfl |>.iload 173 at_171 rfl rfl
    have szm := G.sz
    obtain ⟨vK, e6, soK, G', KK, QK⟩ := G.callS 176 (hw _ (mm 35 rfl)) (hw _ (mm 36 rfl)) (hw _ (mm 33 rfl)) (hw _ (mm 37 rfl)) (by decide) [(.int (Int32.ofNat (48 + nd N)))] [] rfl (c_mk l Z a0 hw hEW n0 c1 hc1 S1 (48 + nd N) G.old (by omega) (by omega)) (lenOf pd__I__C rfl) at_173 rfl (nle rfl) (nle rfl) (nle rfl) (nle rfl) all0 all0 all0 rfl
    replace G := G'; clear G'
    obtain ⟨wK, qK, ea, rfl, ⟨ke, Ae⟩, sea', rfl⟩ := QK
    replace G := G.val qK
    have np1 : tp ≠ ea := (ne_ge hT.lt sea').symm; have np2 : tpb ≠ ea := (ne_ge hT.ltb sea').symm; have np3 : br ≠ ea := (ne_ge hB.lt sea').symm; have np4 : brb ≠ ea := (ne_ge hB.ltb sea').symm
    replace hT := hT.keep KK nin0 nin0; replace hB := hB.keep KK nin0 nin0; have sea := Nat.le_trans szm sea'
    have D : DF Z e6 ea ke (48 + nd N) [] tp tpb br brb [bytV (Int32.ofNat x0), bytV (Int32.ofNat x1)] [bytV (Int32.ofNat x2), bytV (Int32.ofNat x3)] := ⟨Ae, hT, hB⟩
    have hn31 : 48 + nd N < 2147483648 := by omega
    have l0 : ([] : List Int32).length = 0 := rfl
    replace G := G.astore 178 #[.val (.int i0), .val (.int i1), .val (.int i2), .val (.int (2 : Int32)), .val (.int (2 : Int32)), .val (.int (Int32.ofNat x0)), .val (.int (Int32.ofNat x1)), .val (.int (Int32.ofNat x2)), .val (.int (Int32.ofNat x3)), .val (.ref ta), .val (.ref ba), .val (.ref tp), .val (.ref br), .val (.int (Int32.ofNat N)), .val (.int (Int32.ofNat (nd N))), .val (.int (Int32.ofNat (48 + nd N))), .val (.ref ea), .unset, .unset] at_176 rfl rfl rfl |>.aload 180 at_178 rfl rfl rfl |>.iconst 181 (0 : Int32) at_180 rfl rfl |>.bipush 183 (77 : Int32) at_181 (by decide) rfl
    obtain ⟨f0, G', As, Ks⟩ := G.castore 184 0 D.pad1 ⟨by decide, ofn_lt (i := 0) (Nat.lt_of_lt_of_le (nle rfl) (Nat.le_add_right 48 _)) hn31⟩ rfl (pad_lt l0) (Or.inr sea) (mm 0 rfl) at_183 rfl
    replace G := G'; clear G'
    obtain ⟨s1, q1, l1, D⟩ := DF.put1 l0 D As Ks np1 np2 np3 np4 (by decide)
    replace G := G.aload 186 at_184 rfl rfl rfl |>.iconst 187 (1 : Int32) at_186 rfl rfl |>.bipush 189 (101 : Int32) at_187 (by decide) rfl
    obtain ⟨f1, G', As, Ks⟩ := G.castore 190 1 D.pad1 ⟨by decide, ofn_lt (i := 1) (Nat.lt_of_lt_of_le (nle rfl) (Nat.le_add_right 48 _)) hn31⟩ rfl (pad_lt l1) (Or.inr sea) (mm 0 rfl) at_189 rfl
    replace G := G'; clear G'
    obtain ⟨s2, q2, l2, D⟩ := DF.put1 l1 D As Ks np1 np2 np3 np4 (by decide)
    replace G := G.aload 192 at_190 rfl rfl rfl |>.iconst 193 (2 : Int32) at_192 rfl rfl |>.bipush 195 (115 : Int32) at_193 (by decide) rfl
    obtain ⟨f2, G', As, Ks⟩ := G.castore 196 2 D.pad1 ⟨by decide, ofn_lt (i := 2) (Nat.lt_of_lt_of_le (nle rfl) (Nat.le_add_right 48 _)) hn31⟩ rfl (pad_lt l2) (Or.inr sea) (mm 0 rfl) at_195 rfl
    replace G := G'; clear G'
    obtain ⟨s3, q3, l3, D⟩ := DF.put1 l2 D As Ks np1 np2 np3 np4 (by decide)
    replace G := G.aload 198 at_196 rfl rfl rfl |>.iconst 199 (3 : Int32) at_198 rfl rfl |>.bipush 201 (115 : Int32) at_199 (by decide) rfl
    obtain ⟨f3, G', As, Ks⟩ := G.castore 202 3 D.pad1 ⟨by decide, ofn_lt (i := 3) (Nat.lt_of_lt_of_le (nle rfl) (Nat.le_add_right 48 _)) hn31⟩ rfl (pad_lt l3) (Or.inr sea) (mm 0 rfl) at_201 rfl
    replace G := G'; clear G'
    obtain ⟨s4, q4, l4, D⟩ := DF.put1 l3 D As Ks np1 np2 np3 np4 (by decide)
    replace G := G.aload 204 at_202 rfl rfl rfl |>.iconst 205 (4 : Int32) at_204 rfl rfl |>.bipush 207 (97 : Int32) at_205 (by decide) rfl
    obtain ⟨f4, G', As, Ks⟩ := G.castore 208 4 D.pad1 ⟨by decide, ofn_lt (i := 4) (Nat.lt_of_lt_of_le (nle rfl) (Nat.le_add_right 48 _)) hn31⟩ rfl (pad_lt l4) (Or.inr sea) (mm 0 rfl) at_207 rfl
    replace G := G'; clear G'
    obtain ⟨s5, q5, l5, D⟩ := DF.put1 l4 D As Ks np1 np2 np3 np4 (by decide)
    replace G := G.aload 210 at_208 rfl rfl rfl |>.iconst 211 (5 : Int32) at_210 rfl rfl |>.bipush 213 (103 : Int32) at_211 (by decide) rfl
    obtain ⟨f5, G', As, Ks⟩ := G.castore 214 5 D.pad1 ⟨by decide, ofn_lt (i := 5) (Nat.lt_of_lt_of_le (nle rfl) (Nat.le_add_right 48 _)) hn31⟩ rfl (pad_lt l5) (Or.inr sea) (mm 0 rfl) at_213 rfl
    replace G := G'; clear G'
    obtain ⟨s6, q6, l6, D⟩ := DF.put1 l5 D As Ks np1 np2 np3 np4 (by decide)
    replace G := G.aload 216 at_214 rfl rfl rfl |>.bipush 218 (6 : Int32) at_216 (by decide) rfl |>.bipush 220 (101 : Int32) at_218 (by decide) rfl
    obtain ⟨f6, G', As, Ks⟩ := G.castore 221 6 D.pad1 ⟨by decide, ofn_lt (i := 6) (Nat.lt_of_lt_of_le (nle rfl) (Nat.le_add_right 48 _)) hn31⟩ rfl (pad_lt l6) (Or.inr sea) (mm 0 rfl) at_220 rfl
    replace G := G'; clear G'
    obtain ⟨s7, q7, l7, D⟩ := DF.put1 l6 D As Ks np1 np2 np3 np4 (by decide)
    replace G := G.aload 223 at_221 rfl rfl rfl |>.bipush 225 (7 : Int32) at_223 (by decide) rfl |>.bipush 227 (81 : Int32) at_225 (by decide) rfl
    obtain ⟨f7, G', As, Ks⟩ := G.castore 228 7 D.pad1 ⟨by decide, ofn_lt (i := 7) (Nat.lt_of_lt_of_le (nle rfl) (Nat.le_add_right 48 _)) hn31⟩ rfl (pad_lt l7) (Or.inr sea) (mm 0 rfl) at_227 rfl
    replace G := G'; clear G'
    obtain ⟨s8, q8, l8, D⟩ := DF.put1 l7 D As Ks np1 np2 np3 np4 (by decide)
    replace G := G.aload 230 at_228 rfl rfl rfl |>.bipush 232 (8 : Int32) at_230 (by decide) rfl |>.bipush 234 (117 : Int32) at_232 (by decide) rfl
    obtain ⟨f8, G', As, Ks⟩ := G.castore 235 8 D.pad1 ⟨by decide, ofn_lt (i := 8) (Nat.lt_of_lt_of_le (nle rfl) (Nat.le_add_right 48 _)) hn31⟩ rfl (pad_lt l8) (Or.inr sea) (mm 0 rfl) at_234 rfl
    replace G := G'; clear G'
    obtain ⟨s9, q9, l9, D⟩ := DF.put1 l8 D As Ks np1 np2 np3 np4 (by decide)
    replace G := G.aload 237 at_235 rfl rfl rfl |>.bipush 239 (9 : Int32) at_237 (by decide) rfl |>.bipush 241 (101 : Int32) at_239 (by decide) rfl
    obtain ⟨f9, G', As, Ks⟩ := G.castore 242 9 D.pad1 ⟨by decide, ofn_lt (i := 9) (Nat.lt_of_lt_of_le (nle rfl) (Nat.le_add_right 48 _)) hn31⟩ rfl (pad_lt l9) (Or.inr sea) (mm 0 rfl) at_241 rfl
    replace G := G'; clear G'
    obtain ⟨s10, q10, l10, D⟩ := DF.put1 l9 D As Ks np1 np2 np3 np4 (by decide)
    replace G := G.aload 244 at_242 rfl rfl rfl |>.bipush 246 (10 : Int32) at_244 (by decide) rfl |>.bipush 248 (117 : Int32) at_246 (by decide) rfl
    obtain ⟨f10, G', As, Ks⟩ := G.castore 249 10 D.pad1 ⟨by decide, ofn_lt (i := 10) (Nat.lt_of_lt_of_le (nle rfl) (Nat.le_add_right 48 _)) hn31⟩ rfl (pad_lt l10) (Or.inr sea) (mm 0 rfl) at_248 rfl
    replace G := G'; clear G'
    obtain ⟨s11, q11, l11, D⟩ := DF.put1 l10 D As Ks np1 np2 np3 np4 (by decide)
    replace G := G.aload 251 at_249 rfl rfl rfl |>.bipush 253 (11 : Int32) at_251 (by decide) rfl |>.bipush 255 (101 : Int32) at_253 (by decide) rfl
    obtain ⟨f11, G', As, Ks⟩ := G.castore 256 11 D.pad1 ⟨by decide, ofn_lt (i := 11) (Nat.lt_of_lt_of_le (nle rfl) (Nat.le_add_right 48 _)) hn31⟩ rfl (pad_lt l11) (Or.inr sea) (mm 0 rfl) at_255 rfl
    replace G := G'; clear G'
    obtain ⟨s12, q12, l12, D⟩ := DF.put1 l11 D As Ks np1 np2 np3 np4 (by decide)
    replace G := G.aload 258 at_256 rfl rfl rfl |>.bipush 260 (12 : Int32) at_258 (by decide) rfl |>.bipush 262 (32 : Int32) at_260 (by decide) rfl
    obtain ⟨f12, G', As, Ks⟩ := G.castore 263 12 D.pad1 ⟨by decide, ofn_lt (i := 12) (Nat.lt_of_lt_of_le (nle rfl) (Nat.le_add_right 48 _)) hn31⟩ rfl (pad_lt l12) (Or.inr sea) (mm 0 rfl) at_262 rfl
    replace G := G'; clear G'
    obtain ⟨s13, q13, l13, D⟩ := DF.put1 l12 D As Ks np1 np2 np3 np4 (by decide)
    replace G := G.aload 265 at_263 rfl rfl rfl |>.bipush 267 (13 : Int32) at_265 (by decide) rfl |>.bipush 269 (91 : Int32) at_267 (by decide) rfl
    obtain ⟨f13, G', As, Ks⟩ := G.castore 270 13 D.pad1 ⟨by decide, ofn_lt (i := 13) (Nat.lt_of_lt_of_le (nle rfl) (Nat.le_add_right 48 _)) hn31⟩ rfl (pad_lt l13) (Or.inr sea) (mm 0 rfl) at_269 rfl
    replace G := G'; clear G'
    obtain ⟨s14, q14, l14, D⟩ := DF.put1 l13 D As Ks np1 np2 np3 np4 (by decide)
    replace G := G.aload 272 at_270 rfl rfl rfl |>.bipush 274 (14 : Int32) at_272 (by decide) rfl |>.bipush 276 (116 : Int32) at_274 (by decide) rfl
    obtain ⟨f14, G', As, Ks⟩ := G.castore 277 14 D.pad1 ⟨by decide, ofn_lt (i := 14) (Nat.lt_of_lt_of_le (nle rfl) (Nat.le_add_right 48 _)) hn31⟩ rfl (pad_lt l14) (Or.inr sea) (mm 0 rfl) at_276 rfl
    replace G := G'; clear G'
    obtain ⟨s15, q15, l15, D⟩ := DF.put1 l14 D As Ks np1 np2 np3 np4 (by decide)
    replace G := G.aload 279 at_277 rfl rfl rfl |>.bipush 281 (15 : Int32) at_279 (by decide) rfl |>.bipush 283 (111 : Int32) at_281 (by decide) rfl
    obtain ⟨f15, G', As, Ks⟩ := G.castore 284 15 D.pad1 ⟨by decide, ofn_lt (i := 15) (Nat.lt_of_lt_of_le (nle rfl) (Nat.le_add_right 48 _)) hn31⟩ rfl (pad_lt l15) (Or.inr sea) (mm 0 rfl) at_283 rfl
    replace G := G'; clear G'
    obtain ⟨s16, q16, l16, D⟩ := DF.put1 l15 D As Ks np1 np2 np3 np4 (by decide)
    replace G := G.aload 286 at_284 rfl rfl rfl |>.bipush 288 (16 : Int32) at_286 (by decide) rfl |>.bipush 290 (112 : Int32) at_288 (by decide) rfl
    obtain ⟨f16, G', As, Ks⟩ := G.castore 291 16 D.pad1 ⟨by decide, ofn_lt (i := 16) (Nat.lt_of_lt_of_le (nle rfl) (Nat.le_add_right 48 _)) hn31⟩ rfl (pad_lt l16) (Or.inr sea) (mm 0 rfl) at_290 rfl
    replace G := G'; clear G'
    obtain ⟨s17, q17, l17, D⟩ := DF.put1 l16 D As Ks np1 np2 np3 np4 (by decide)
    replace G := G.aload 293 at_291 rfl rfl rfl |>.bipush 295 (17 : Int32) at_293 (by decide) rfl |>.bipush 297 (105 : Int32) at_295 (by decide) rfl
    obtain ⟨f17, G', As, Ks⟩ := G.castore 298 17 D.pad1 ⟨by decide, ofn_lt (i := 17) (Nat.lt_of_lt_of_le (nle rfl) (Nat.le_add_right 48 _)) hn31⟩ rfl (pad_lt l17) (Or.inr sea) (mm 0 rfl) at_297 rfl
    replace G := G'; clear G'
    obtain ⟨s18, q18, l18, D⟩ := DF.put1 l17 D As Ks np1 np2 np3 np4 (by decide)
    replace G := G.aload 300 at_298 rfl rfl rfl |>.bipush 302 (18 : Int32) at_300 (by decide) rfl |>.bipush 304 (99 : Int32) at_302 (by decide) rfl
    obtain ⟨f18, G', As, Ks⟩ := G.castore 305 18 D.pad1 ⟨by decide, ofn_lt (i := 18) (Nat.lt_of_lt_of_le (nle rfl) (Nat.le_add_right 48 _)) hn31⟩ rfl (pad_lt l18) (Or.inr sea) (mm 0 rfl) at_304 rfl
    replace G := G'; clear G'
    obtain ⟨s19, q19, l19, D⟩ := DF.put1 l18 D As Ks np1 np2 np3 np4 (by decide)
    replace G := G.aload 307 at_305 rfl rfl rfl |>.bipush 309 (19 : Int32) at_307 (by decide) rfl |>.bipush 311 (61 : Int32) at_309 (by decide) rfl
    obtain ⟨f19, G', As, Ks⟩ := G.castore 312 19 D.pad1 ⟨by decide, ofn_lt (i := 19) (Nat.lt_of_lt_of_le (nle rfl) (Nat.le_add_right 48 _)) hn31⟩ rfl (pad_lt l19) (Or.inr sea) (mm 0 rfl) at_311 rfl
    replace G := G'; clear G'
    obtain ⟨s20, q20, l20, D⟩ := DF.put1 l19 D As Ks np1 np2 np3 np4 (by decide)
    replace G := G.bipush 314 (20 : Int32) at_312 (by decide) rfl |>.istore 316 #[.val (.int i0), .val (.int i1), .val (.int i2), .val (.int (2 : Int32)), .val (.int (2 : Int32)), .val (.int (Int32.ofNat x0)), .val (.int (Int32.ofNat x1)), .val (.int (Int32.ofNat x2)), .val (.int (Int32.ofNat x3)), .val (.ref ta), .val (.ref ba), .val (.ref tp), .val (.ref br), .val (.int (Int32.ofNat N)), .val (.int (Int32.ofNat (nd N))), .val (.int (Int32.ofNat (48 + nd N))), .val (.ref ea), .val (.int (20 : Int32)), .unset] at_314 rfl rfl |>.aload 318 at_316 rfl rfl rfl |>.iload 320 at_318 rfl rfl |>.iincV 323 #[.val (.int i0), .val (.int i1), .val (.int i2), .val (.int (2 : Int32)), .val (.int (2 : Int32)), .val (.int (Int32.ofNat x0)), .val (.int (Int32.ofNat x1)), .val (.int (Int32.ofNat x2)), .val (.int (Int32.ofNat x3)), .val (.ref ta), .val (.ref ba), .val (.ref tp), .val (.ref br), .val (.int (Int32.ofNat N)), .val (.int (Int32.ofNat (nd N))), .val (.int (Int32.ofNat (48 + nd N))), .val (.ref ea), .val (.int (21 : Int32)), .unset] (21 : Int32) at_320 rfl (by decide) rfl rfl |>.iload 325 at_323 rfl rfl
    obtain ⟨f20, G', As, Ks⟩ := G.castore 326 20 D.pad1 ⟨by decide, ofn_lt (i := 20) (Nat.lt_of_lt_of_le (nle rfl) (Nat.le_add_right 48 _)) hn31⟩ rfl (pad_lt l20) (Or.inr sea) (mm 0 rfl) at_325 rfl
    replace G := G'; clear G'
    obtain ⟨s21, q21, l21, D⟩ := DF.put1 l20 D As Ks np1 np2 np3 np4 (i2c_n hx0)
    replace G := G.iloadN 327 at_326 rfl rfl |>.iconst 328 (2 : Int32) at_327 rfl rfl |>.icmpF 331 at_328 (XT.ii_ne_f rfl) rfl |>.aload 333 at_331 rfl rfl rfl |>.iload 335 at_333 rfl rfl |>.iincV 338 #[.val (.int i0), .val (.int i1), .val (.int i2), .val (.int (2 : Int32)), .val (.int (2 : Int32)), .val (.int (Int32.ofNat x0)), .val (.int (Int32.ofNat x1)), .val (.int (Int32.ofNat x2)), .val (.int (Int32.ofNat x3)), .val (.ref ta), .val (.ref ba), .val (.ref tp), .val (.ref br), .val (.int (Int32.ofNat N)), .val (.int (Int32.ofNat (nd N))), .val (.int (Int32.ofNat (48 + nd N))), .val (.ref ea), .val (.int (22 : Int32)), .unset] (22 : Int32) at_335 rfl (by decide) rfl rfl |>.iload 340 at_338 rfl rfl
    obtain ⟨f21, G', As, Ks⟩ := G.castore 341 21 D.pad1 ⟨by decide, ofn_lt (i := 21) (Nat.lt_of_lt_of_le (nle rfl) (Nat.le_add_right 48 _)) hn31⟩ rfl (pad_lt l21) (Or.inr sea) (mm 0 rfl) at_340 rfl
    replace G := G'; clear G'
    obtain ⟨s22, q22, l22, D⟩ := DF.put1 l21 D As Ks np1 np2 np3 np4 (i2c_n hx1)
    replace G := G.aload 343 at_341 rfl rfl rfl |>.iload 345 at_343 rfl rfl |>.iincV 348 #[.val (.int i0), .val (.int i1), .val (.int i2), .val (.int (2 : Int32)), .val (.int (2 : Int32)), .val (.int (Int32.ofNat x0)), .val (.int (Int32.ofNat x1)), .val (.int (Int32.ofNat x2)), .val (.int (Int32.ofNat x3)), .val (.ref ta), .val (.ref ba), .val (.ref tp), .val (.ref br), .val (.int (Int32.ofNat N)), .val (.int (Int32.ofNat (nd N))), .val (.int (Int32.ofNat (48 + nd N))), .val (.ref ea), .val (.int (23 : Int32)), .unset] (23 : Int32) at_345 rfl (by decide) rfl rfl |>.bipush 350 (44 : Int32) at_348 (by decide) rfl
    obtain ⟨f22, G', As, Ks⟩ := G.castore 351 22 D.pad1 ⟨by decide, ofn_lt (i := 22) (Nat.lt_of_lt_of_le (nle rfl) (Nat.le_add_right 48 _)) hn31⟩ rfl (pad_lt l22) (Or.inr sea) (mm 0 rfl) at_350 rfl
    replace G := G'; clear G'
    obtain ⟨s23, q23, l23, D⟩ := DF.put1 l22 D As Ks np1 np2 np3 np4 (by decide)
    replace G := G.aload 353 at_351 rfl rfl rfl |>.iload 355 at_353 rfl rfl |>.iincV 358 #[.val (.int i0), .val (.int i1), .val (.int i2), .val (.int (2 : Int32)), .val (.int (2 : Int32)), .val (.int (Int32.ofNat x0)), .val (.int (Int32.ofNat x1)), .val (.int (Int32.ofNat x2)), .val (.int (Int32.ofNat x3)), .val (.ref ta), .val (.ref ba), .val (.ref tp), .val (.ref br), .val (.int (Int32.ofNat N)), .val (.int (Int32.ofNat (nd N))), .val (.int (Int32.ofNat (48 + nd N))), .val (.ref ea), .val (.int (24 : Int32)), .unset] (24 : Int32) at_355 rfl (by decide) rfl rfl |>.bipush 360 (32 : Int32) at_358 (by decide) rfl
    obtain ⟨f23, G', As, Ks⟩ := G.castore 361 23 D.pad1 ⟨by decide, ofn_lt (i := 23) (Nat.lt_of_lt_of_le (nle rfl) (Nat.le_add_right 48 _)) hn31⟩ rfl (pad_lt l23) (Or.inr sea) (mm 0 rfl) at_360 rfl
    replace G := G'; clear G'
    obtain ⟨s24, q24, l24, D⟩ := DF.put1 l23 D As Ks np1 np2 np3 np4 (by decide)
    replace G := G.aload 363 at_361 rfl rfl rfl |>.iload 365 at_363 rfl rfl |>.iincV 368 #[.val (.int i0), .val (.int i1), .val (.int i2), .val (.int (2 : Int32)), .val (.int (2 : Int32)), .val (.int (Int32.ofNat x0)), .val (.int (Int32.ofNat x1)), .val (.int (Int32.ofNat x2)), .val (.int (Int32.ofNat x3)), .val (.ref ta), .val (.ref ba), .val (.ref tp), .val (.ref br), .val (.int (Int32.ofNat N)), .val (.int (Int32.ofNat (nd N))), .val (.int (Int32.ofNat (48 + nd N))), .val (.ref ea), .val (.int (25 : Int32)), .unset] (25 : Int32) at_365 rfl (by decide) rfl rfl |>.bipush 370 (98 : Int32) at_368 (by decide) rfl
    obtain ⟨f24, G', As, Ks⟩ := G.castore 371 24 D.pad1 ⟨by decide, ofn_lt (i := 24) (Nat.lt_of_lt_of_le (nle rfl) (Nat.le_add_right 48 _)) hn31⟩ rfl (pad_lt l24) (Or.inr sea) (mm 0 rfl) at_370 rfl
    replace G := G'; clear G'
    obtain ⟨s25, q25, l25, D⟩ := DF.put1 l24 D As Ks np1 np2 np3 np4 (by decide)
    replace G := G.aload 373 at_371 rfl rfl rfl |>.iload 375 at_373 rfl rfl |>.iincV 378 #[.val (.int i0), .val (.int i1), .val (.int i2), .val (.int (2 : Int32)), .val (.int (2 : Int32)), .val (.int (Int32.ofNat x0)), .val (.int (Int32.ofNat x1)), .val (.int (Int32.ofNat x2)), .val (.int (Int32.ofNat x3)), .val (.ref ta), .val (.ref ba), .val (.ref tp), .val (.ref br), .val (.int (Int32.ofNat N)), .val (.int (Int32.ofNat (nd N))), .val (.int (Int32.ofNat (48 + nd N))), .val (.ref ea), .val (.int (26 : Int32)), .unset] (26 : Int32) at_375 rfl (by decide) rfl rfl |>.bipush 380 (114 : Int32) at_378 (by decide) rfl
    obtain ⟨f25, G', As, Ks⟩ := G.castore 381 25 D.pad1 ⟨by decide, ofn_lt (i := 25) (Nat.lt_of_lt_of_le (nle rfl) (Nat.le_add_right 48 _)) hn31⟩ rfl (pad_lt l25) (Or.inr sea) (mm 0 rfl) at_380 rfl
    replace G := G'; clear G'
    obtain ⟨s26, q26, l26, D⟩ := DF.put1 l25 D As Ks np1 np2 np3 np4 (by decide)
    replace G := G.aload 383 at_381 rfl rfl rfl |>.iload 385 at_383 rfl rfl |>.iincV 388 #[.val (.int i0), .val (.int i1), .val (.int i2), .val (.int (2 : Int32)), .val (.int (2 : Int32)), .val (.int (Int32.ofNat x0)), .val (.int (Int32.ofNat x1)), .val (.int (Int32.ofNat x2)), .val (.int (Int32.ofNat x3)), .val (.ref ta), .val (.ref ba), .val (.ref tp), .val (.ref br), .val (.int (Int32.ofNat N)), .val (.int (Int32.ofNat (nd N))), .val (.int (Int32.ofNat (48 + nd N))), .val (.ref ea), .val (.int (27 : Int32)), .unset] (27 : Int32) at_385 rfl (by decide) rfl rfl |>.bipush 390 (111 : Int32) at_388 (by decide) rfl
    obtain ⟨f26, G', As, Ks⟩ := G.castore 391 26 D.pad1 ⟨by decide, ofn_lt (i := 26) (Nat.lt_of_lt_of_le (nle rfl) (Nat.le_add_right 48 _)) hn31⟩ rfl (pad_lt l26) (Or.inr sea) (mm 0 rfl) at_390 rfl
    replace G := G'; clear G'
    obtain ⟨s27, q27, l27, D⟩ := DF.put1 l26 D As Ks np1 np2 np3 np4 (by decide)
    replace G := G.aload 393 at_391 rfl rfl rfl |>.iload 395 at_393 rfl rfl |>.iincV 398 #[.val (.int i0), .val (.int i1), .val (.int i2), .val (.int (2 : Int32)), .val (.int (2 : Int32)), .val (.int (Int32.ofNat x0)), .val (.int (Int32.ofNat x1)), .val (.int (Int32.ofNat x2)), .val (.int (Int32.ofNat x3)), .val (.ref ta), .val (.ref ba), .val (.ref tp), .val (.ref br), .val (.int (Int32.ofNat N)), .val (.int (Int32.ofNat (nd N))), .val (.int (Int32.ofNat (48 + nd N))), .val (.ref ea), .val (.int (28 : Int32)), .unset] (28 : Int32) at_395 rfl (by decide) rfl rfl |>.bipush 400 (107 : Int32) at_398 (by decide) rfl
    obtain ⟨f27, G', As, Ks⟩ := G.castore 401 27 D.pad1 ⟨by decide, ofn_lt (i := 27) (Nat.lt_of_lt_of_le (nle rfl) (Nat.le_add_right 48 _)) hn31⟩ rfl (pad_lt l27) (Or.inr sea) (mm 0 rfl) at_400 rfl
    replace G := G'; clear G'
    obtain ⟨s28, q28, l28, D⟩ := DF.put1 l27 D As Ks np1 np2 np3 np4 (by decide)
    replace G := G.aload 403 at_401 rfl rfl rfl |>.iload 405 at_403 rfl rfl |>.iincV 408 #[.val (.int i0), .val (.int i1), .val (.int i2), .val (.int (2 : Int32)), .val (.int (2 : Int32)), .val (.int (Int32.ofNat x0)), .val (.int (Int32.ofNat x1)), .val (.int (Int32.ofNat x2)), .val (.int (Int32.ofNat x3)), .val (.ref ta), .val (.ref ba), .val (.ref tp), .val (.ref br), .val (.int (Int32.ofNat N)), .val (.int (Int32.ofNat (nd N))), .val (.int (Int32.ofNat (48 + nd N))), .val (.ref ea), .val (.int (29 : Int32)), .unset] (29 : Int32) at_405 rfl (by decide) rfl rfl |>.bipush 410 (101 : Int32) at_408 (by decide) rfl
    obtain ⟨f28, G', As, Ks⟩ := G.castore 411 28 D.pad1 ⟨by decide, ofn_lt (i := 28) (Nat.lt_of_lt_of_le (nle rfl) (Nat.le_add_right 48 _)) hn31⟩ rfl (pad_lt l28) (Or.inr sea) (mm 0 rfl) at_410 rfl
    replace G := G'; clear G'
    obtain ⟨s29, q29, l29, D⟩ := DF.put1 l28 D As Ks np1 np2 np3 np4 (by decide)
    replace G := G.aload 413 at_411 rfl rfl rfl |>.iload 415 at_413 rfl rfl |>.iincV 418 #[.val (.int i0), .val (.int i1), .val (.int i2), .val (.int (2 : Int32)), .val (.int (2 : Int32)), .val (.int (Int32.ofNat x0)), .val (.int (Int32.ofNat x1)), .val (.int (Int32.ofNat x2)), .val (.int (Int32.ofNat x3)), .val (.ref ta), .val (.ref ba), .val (.ref tp), .val (.ref br), .val (.int (Int32.ofNat N)), .val (.int (Int32.ofNat (nd N))), .val (.int (Int32.ofNat (48 + nd N))), .val (.ref ea), .val (.int (30 : Int32)), .unset] (30 : Int32) at_415 rfl (by decide) rfl rfl |>.bipush 420 (114 : Int32) at_418 (by decide) rfl
    obtain ⟨f29, G', As, Ks⟩ := G.castore 421 29 D.pad1 ⟨by decide, ofn_lt (i := 29) (Nat.lt_of_lt_of_le (nle rfl) (Nat.le_add_right 48 _)) hn31⟩ rfl (pad_lt l29) (Or.inr sea) (mm 0 rfl) at_420 rfl
    replace G := G'; clear G'
    obtain ⟨s30, q30, l30, D⟩ := DF.put1 l29 D As Ks np1 np2 np3 np4 (by decide)
    replace G := G.aload 423 at_421 rfl rfl rfl |>.iload 425 at_423 rfl rfl |>.iincV 428 #[.val (.int i0), .val (.int i1), .val (.int i2), .val (.int (2 : Int32)), .val (.int (2 : Int32)), .val (.int (Int32.ofNat x0)), .val (.int (Int32.ofNat x1)), .val (.int (Int32.ofNat x2)), .val (.int (Int32.ofNat x3)), .val (.ref ta), .val (.ref ba), .val (.ref tp), .val (.ref br), .val (.int (Int32.ofNat N)), .val (.int (Int32.ofNat (nd N))), .val (.int (Int32.ofNat (48 + nd N))), .val (.ref ea), .val (.int (31 : Int32)), .unset] (31 : Int32) at_425 rfl (by decide) rfl rfl |>.bipush 430 (78 : Int32) at_428 (by decide) rfl
    obtain ⟨f30, G', As, Ks⟩ := G.castore 431 30 D.pad1 ⟨by decide, ofn_lt (i := 30) (Nat.lt_of_lt_of_le (nle rfl) (Nat.le_add_right 48 _)) hn31⟩ rfl (pad_lt l30) (Or.inr sea) (mm 0 rfl) at_430 rfl
    replace G := G'; clear G'
    obtain ⟨s31, q31, l31, D⟩ := DF.put1 l30 D As Ks np1 np2 np3 np4 (by decide)
    replace G := G.aload 433 at_431 rfl rfl rfl |>.iload 435 at_433 rfl rfl |>.iincV 438 #[.val (.int i0), .val (.int i1), .val (.int i2), .val (.int (2 : Int32)), .val (.int (2 : Int32)), .val (.int (Int32.ofNat x0)), .val (.int (Int32.ofNat x1)), .val (.int (Int32.ofNat x2)), .val (.int (Int32.ofNat x3)), .val (.ref ta), .val (.ref ba), .val (.ref tp), .val (.ref br), .val (.int (Int32.ofNat N)), .val (.int (Int32.ofNat (nd N))), .val (.int (Int32.ofNat (48 + nd N))), .val (.ref ea), .val (.int (32 : Int32)), .unset] (32 : Int32) at_435 rfl (by decide) rfl rfl |>.bipush 440 (97 : Int32) at_438 (by decide) rfl
    obtain ⟨f31, G', As, Ks⟩ := G.castore 441 31 D.pad1 ⟨by decide, ofn_lt (i := 31) (Nat.lt_of_lt_of_le (nle rfl) (Nat.le_add_right 48 _)) hn31⟩ rfl (pad_lt l31) (Or.inr sea) (mm 0 rfl) at_440 rfl
    replace G := G'; clear G'
    obtain ⟨s32, q32, l32, D⟩ := DF.put1 l31 D As Ks np1 np2 np3 np4 (by decide)
    replace G := G.aload 443 at_441 rfl rfl rfl |>.iload 445 at_443 rfl rfl |>.iincV 448 #[.val (.int i0), .val (.int i1), .val (.int i2), .val (.int (2 : Int32)), .val (.int (2 : Int32)), .val (.int (Int32.ofNat x0)), .val (.int (Int32.ofNat x1)), .val (.int (Int32.ofNat x2)), .val (.int (Int32.ofNat x3)), .val (.ref ta), .val (.ref ba), .val (.ref tp), .val (.ref br), .val (.int (Int32.ofNat N)), .val (.int (Int32.ofNat (nd N))), .val (.int (Int32.ofNat (48 + nd N))), .val (.ref ea), .val (.int (33 : Int32)), .unset] (33 : Int32) at_445 rfl (by decide) rfl rfl |>.bipush 450 (109 : Int32) at_448 (by decide) rfl
    obtain ⟨f32, G', As, Ks⟩ := G.castore 451 32 D.pad1 ⟨by decide, ofn_lt (i := 32) (Nat.lt_of_lt_of_le (nle rfl) (Nat.le_add_right 48 _)) hn31⟩ rfl (pad_lt l32) (Or.inr sea) (mm 0 rfl) at_450 rfl
    replace G := G'; clear G'
    obtain ⟨s33, q33, l33, D⟩ := DF.put1 l32 D As Ks np1 np2 np3 np4 (by decide)
    replace G := G.aload 453 at_451 rfl rfl rfl |>.iload 455 at_453 rfl rfl |>.iincV 458 #[.val (.int i0), .val (.int i1), .val (.int i2), .val (.int (2 : Int32)), .val (.int (2 : Int32)), .val (.int (Int32.ofNat x0)), .val (.int (Int32.ofNat x1)), .val (.int (Int32.ofNat x2)), .val (.int (Int32.ofNat x3)), .val (.ref ta), .val (.ref ba), .val (.ref tp), .val (.ref br), .val (.int (Int32.ofNat N)), .val (.int (Int32.ofNat (nd N))), .val (.int (Int32.ofNat (48 + nd N))), .val (.ref ea), .val (.int (34 : Int32)), .unset] (34 : Int32) at_455 rfl (by decide) rfl rfl |>.bipush 460 (101 : Int32) at_458 (by decide) rfl
    obtain ⟨f33, G', As, Ks⟩ := G.castore 461 33 D.pad1 ⟨by decide, ofn_lt (i := 33) (Nat.lt_of_lt_of_le (nle rfl) (Nat.le_add_right 48 _)) hn31⟩ rfl (pad_lt l33) (Or.inr sea) (mm 0 rfl) at_460 rfl
    replace G := G'; clear G'
    obtain ⟨s34, q34, l34, D⟩ := DF.put1 l33 D As Ks np1 np2 np3 np4 (by decide)
    replace G := G.aload 463 at_461 rfl rfl rfl |>.iload 465 at_463 rfl rfl |>.iincV 468 #[.val (.int i0), .val (.int i1), .val (.int i2), .val (.int (2 : Int32)), .val (.int (2 : Int32)), .val (.int (Int32.ofNat x0)), .val (.int (Int32.ofNat x1)), .val (.int (Int32.ofNat x2)), .val (.int (Int32.ofNat x3)), .val (.ref ta), .val (.ref ba), .val (.ref tp), .val (.ref br), .val (.int (Int32.ofNat N)), .val (.int (Int32.ofNat (nd N))), .val (.int (Int32.ofNat (48 + nd N))), .val (.ref ea), .val (.int (35 : Int32)), .unset] (35 : Int32) at_465 rfl (by decide) rfl rfl |>.bipush 470 (61 : Int32) at_468 (by decide) rfl
    obtain ⟨f34, G', As, Ks⟩ := G.castore 471 34 D.pad1 ⟨by decide, ofn_lt (i := 34) (Nat.lt_of_lt_of_le (nle rfl) (Nat.le_add_right 48 _)) hn31⟩ rfl (pad_lt l34) (Or.inr sea) (mm 0 rfl) at_470 rfl
    replace G := G'; clear G'
    obtain ⟨s35, q35, l35, D⟩ := DF.put1 l34 D As Ks np1 np2 np3 np4 (by decide)
    replace G := G.aload 473 at_471 rfl rfl rfl |>.iload 475 at_473 rfl rfl |>.iincV 478 #[.val (.int i0), .val (.int i1), .val (.int i2), .val (.int (2 : Int32)), .val (.int (2 : Int32)), .val (.int (Int32.ofNat x0)), .val (.int (Int32.ofNat x1)), .val (.int (Int32.ofNat x2)), .val (.int (Int32.ofNat x3)), .val (.ref ta), .val (.ref ba), .val (.ref tp), .val (.ref br), .val (.int (Int32.ofNat N)), .val (.int (Int32.ofNat (nd N))), .val (.int (Int32.ofNat (48 + nd N))), .val (.ref ea), .val (.int (36 : Int32)), .unset] (36 : Int32) at_475 rfl (by decide) rfl rfl |>.iload 480 at_478 rfl rfl
    obtain ⟨f35, G', As, Ks⟩ := G.castore 481 35 D.pad1 ⟨by decide, ofn_lt (i := 35) (Nat.lt_of_lt_of_le (nle rfl) (Nat.le_add_right 48 _)) hn31⟩ rfl (pad_lt l35) (Or.inr sea) (mm 0 rfl) at_480 rfl
    replace G := G'; clear G'
    obtain ⟨s36, q36, l36, D⟩ := DF.put1 l35 D As Ks np1 np2 np3 np4 (i2c_n hx2)
    replace G := G.iload 483 at_481 rfl rfl |>.iconst 484 (2 : Int32) at_483 rfl rfl |>.icmpF 487 at_484 (XT.ii_ne_f rfl) rfl |>.aload 489 at_487 rfl rfl rfl |>.iload 491 at_489 rfl rfl |>.iincV 494 #[.val (.int i0), .val (.int i1), .val (.int i2), .val (.int (2 : Int32)), .val (.int (2 : Int32)), .val (.int (Int32.ofNat x0)), .val (.int (Int32.ofNat x1)), .val (.int (Int32.ofNat x2)), .val (.int (Int32.ofNat x3)), .val (.ref ta), .val (.ref ba), .val (.ref tp), .val (.ref br), .val (.int (Int32.ofNat N)), .val (.int (Int32.ofNat (nd N))), .val (.int (Int32.ofNat (48 + nd N))), .val (.ref ea), .val (.int (37 : Int32)), .unset] (37 : Int32) at_491 rfl (by decide) rfl rfl |>.iload 496 at_494 rfl rfl
    obtain ⟨f36, G', As, Ks⟩ := G.castore 497 36 D.pad1 ⟨by decide, ofn_lt (i := 36) (Nat.lt_of_lt_of_le (nle rfl) (Nat.le_add_right 48 _)) hn31⟩ rfl (pad_lt l36) (Or.inr sea) (mm 0 rfl) at_496 rfl
    replace G := G'; clear G'
    obtain ⟨s37, q37, l37, D⟩ := DF.put1 l36 D As Ks np1 np2 np3 np4 (i2c_n hx3)
    replace G := G.aload 499 at_497 rfl rfl rfl |>.iload 501 at_499 rfl rfl |>.iincV 504 #[.val (.int i0), .val (.int i1), .val (.int i2), .val (.int (2 : Int32)), .val (.int (2 : Int32)), .val (.int (Int32.ofNat x0)), .val (.int (Int32.ofNat x1)), .val (.int (Int32.ofNat x2)), .val (.int (Int32.ofNat x3)), .val (.ref ta), .val (.ref ba), .val (.ref tp), .val (.ref br), .val (.int (Int32.ofNat N)), .val (.int (Int32.ofNat (nd N))), .val (.int (Int32.ofNat (48 + nd N))), .val (.ref ea), .val (.int (38 : Int32)), .unset] (38 : Int32) at_501 rfl (by decide) rfl rfl |>.bipush 506 (44 : Int32) at_504 (by decide) rfl
    obtain ⟨f37, G', As, Ks⟩ := G.castore 507 37 D.pad1 ⟨by decide, ofn_lt (i := 37) (Nat.lt_of_lt_of_le (nle rfl) (Nat.le_add_right 48 _)) hn31⟩ rfl (pad_lt l37) (Or.inr sea) (mm 0 rfl) at_506 rfl
    replace G := G'; clear G'
    obtain ⟨s38, q38, l38, D⟩ := DF.put1 l37 D As Ks np1 np2 np3 np4 (by decide)
    replace G := G.aload 509 at_507 rfl rfl rfl |>.iload 511 at_509 rfl rfl |>.iincV 514 #[.val (.int i0), .val (.int i1), .val (.int i2), .val (.int (2 : Int32)), .val (.int (2 : Int32)), .val (.int (Int32.ofNat x0)), .val (.int (Int32.ofNat x1)), .val (.int (Int32.ofNat x2)), .val (.int (Int32.ofNat x3)), .val (.ref ta), .val (.ref ba), .val (.ref tp), .val (.ref br), .val (.int (Int32.ofNat N)), .val (.int (Int32.ofNat (nd N))), .val (.int (Int32.ofNat (48 + nd N))), .val (.ref ea), .val (.int (39 : Int32)), .unset] (39 : Int32) at_511 rfl (by decide) rfl rfl |>.bipush 516 (32 : Int32) at_514 (by decide) rfl
    obtain ⟨f38, G', As, Ks⟩ := G.castore 517 38 D.pad1 ⟨by decide, ofn_lt (i := 38) (Nat.lt_of_lt_of_le (nle rfl) (Nat.le_add_right 48 _)) hn31⟩ rfl (pad_lt l38) (Or.inr sea) (mm 0 rfl) at_516 rfl
    replace G := G'; clear G'
    obtain ⟨s39, q39, l39, D⟩ := DF.put1 l38 D As Ks np1 np2 np3 np4 (by decide)
    replace G := G.aload 519 at_517 rfl rfl rfl |>.iload 521 at_519 rfl rfl |>.iincV 524 #[.val (.int i0), .val (.int i1), .val (.int i2), .val (.int (2 : Int32)), .val (.int (2 : Int32)), .val (.int (Int32.ofNat x0)), .val (.int (Int32.ofNat x1)), .val (.int (Int32.ofNat x2)), .val (.int (Int32.ofNat x3)), .val (.ref ta), .val (.ref ba), .val (.ref tp), .val (.ref br), .val (.int (Int32.ofNat N)), .val (.int (Int32.ofNat (nd N))), .val (.int (Int32.ofNat (48 + nd N))), .val (.ref ea), .val (.int (40 : Int32)), .unset] (40 : Int32) at_521 rfl (by decide) rfl rfl |>.bipush 526 (113 : Int32) at_524 (by decide) rfl
    obtain ⟨f39, G', As, Ks⟩ := G.castore 527 39 D.pad1 ⟨by decide, ofn_lt (i := 39) (Nat.lt_of_lt_of_le (nle rfl) (Nat.le_add_right 48 _)) hn31⟩ rfl (pad_lt l39) (Or.inr sea) (mm 0 rfl) at_526 rfl
    replace G := G'; clear G'
    obtain ⟨s40, q40, l40, D⟩ := DF.put1 l39 D As Ks np1 np2 np3 np4 (by decide)
    replace G := G.aload 529 at_527 rfl rfl rfl |>.iload 531 at_529 rfl rfl |>.iincV 534 #[.val (.int i0), .val (.int i1), .val (.int i2), .val (.int (2 : Int32)), .val (.int (2 : Int32)), .val (.int (Int32.ofNat x0)), .val (.int (Int32.ofNat x1)), .val (.int (Int32.ofNat x2)), .val (.int (Int32.ofNat x3)), .val (.ref ta), .val (.ref ba), .val (.ref tp), .val (.ref br), .val (.int (Int32.ofNat N)), .val (.int (Int32.ofNat (nd N))), .val (.int (Int32.ofNat (48 + nd N))), .val (.ref ea), .val (.int (41 : Int32)), .unset] (41 : Int32) at_531 rfl (by decide) rfl rfl |>.bipush 536 (117 : Int32) at_534 (by decide) rfl
    obtain ⟨f40, G', As, Ks⟩ := G.castore 537 40 D.pad1 ⟨by decide, ofn_lt (i := 40) (Nat.lt_of_lt_of_le (nle rfl) (Nat.le_add_right 48 _)) hn31⟩ rfl (pad_lt l40) (Or.inr sea) (mm 0 rfl) at_536 rfl
    replace G := G'; clear G'
    obtain ⟨s41, q41, l41, D⟩ := DF.put1 l40 D As Ks np1 np2 np3 np4 (by decide)
    replace G := G.aload 539 at_537 rfl rfl rfl |>.iload 541 at_539 rfl rfl |>.iincV 544 #[.val (.int i0), .val (.int i1), .val (.int i2), .val (.int (2 : Int32)), .val (.int (2 : Int32)), .val (.int (Int32.ofNat x0)), .val (.int (Int32.ofNat x1)), .val (.int (Int32.ofNat x2)), .val (.int (Int32.ofNat x3)), .val (.ref ta), .val (.ref ba), .val (.ref tp), .val (.ref br), .val (.int (Int32.ofNat N)), .val (.int (Int32.ofNat (nd N))), .val (.int (Int32.ofNat (48 + nd N))), .val (.ref ea), .val (.int (42 : Int32)), .unset] (42 : Int32) at_541 rfl (by decide) rfl rfl |>.bipush 546 (101 : Int32) at_544 (by decide) rfl
    obtain ⟨f41, G', As, Ks⟩ := G.castore 547 41 D.pad1 ⟨by decide, ofn_lt (i := 41) (Nat.lt_of_lt_of_le (nle rfl) (Nat.le_add_right 48 _)) hn31⟩ rfl (pad_lt l41) (Or.inr sea) (mm 0 rfl) at_546 rfl
    replace G := G'; clear G'
    obtain ⟨s42, q42, l42, D⟩ := DF.put1 l41 D As Ks np1 np2 np3 np4 (by decide)
    replace G := G.aload 549 at_547 rfl rfl rfl |>.iload 551 at_549 rfl rfl |>.iincV 554 #[.val (.int i0), .val (.int i1), .val (.int i2), .val (.int (2 : Int32)), .val (.int (2 : Int32)), .val (.int (Int32.ofNat x0)), .val (.int (Int32.ofNat x1)), .val (.int (Int32.ofNat x2)), .val (.int (Int32.ofNat x3)), .val (.ref ta), .val (.ref ba), .val (.ref tp), .val (.ref br), .val (.int (Int32.ofNat N)), .val (.int (Int32.ofNat (nd N))), .val (.int (Int32.ofNat (48 + nd N))), .val (.ref ea), .val (.int (43 : Int32)), .unset] (43 : Int32) at_551 rfl (by decide) rfl rfl |>.bipush 556 (117 : Int32) at_554 (by decide) rfl
    obtain ⟨f42, G', As, Ks⟩ := G.castore 557 42 D.pad1 ⟨by decide, ofn_lt (i := 42) (Nat.lt_of_lt_of_le (nle rfl) (Nat.le_add_right 48 _)) hn31⟩ rfl (pad_lt l42) (Or.inr sea) (mm 0 rfl) at_556 rfl
    replace G := G'; clear G'
    obtain ⟨s43, q43, l43, D⟩ := DF.put1 l42 D As Ks np1 np2 np3 np4 (by decide)
    replace G := G.aload 559 at_557 rfl rfl rfl |>.iload 561 at_559 rfl rfl |>.iincV 564 #[.val (.int i0), .val (.int i1), .val (.int i2), .val (.int (2 : Int32)), .val (.int (2 : Int32)), .val (.int (Int32.ofNat x0)), .val (.int (Int32.ofNat x1)), .val (.int (Int32.ofNat x2)), .val (.int (Int32.ofNat x3)), .val (.ref ta), .val (.ref ba), .val (.ref tp), .val (.ref br), .val (.int (Int32.ofNat N)), .val (.int (Int32.ofNat (nd N))), .val (.int (Int32.ofNat (48 + nd N))), .val (.ref ea), .val (.int (44 : Int32)), .unset] (44 : Int32) at_561 rfl (by decide) rfl rfl |>.bipush 566 (101 : Int32) at_564 (by decide) rfl
    obtain ⟨f43, G', As, Ks⟩ := G.castore 567 43 D.pad1 ⟨by decide, ofn_lt (i := 43) (Nat.lt_of_lt_of_le (nle rfl) (Nat.le_add_right 48 _)) hn31⟩ rfl (pad_lt l43) (Or.inr sea) (mm 0 rfl) at_566 rfl
    replace G := G'; clear G'
    obtain ⟨s44, q44, l44, D⟩ := DF.put1 l43 D As Ks np1 np2 np3 np4 (by decide)
    replace G := G.aload 569 at_567 rfl rfl rfl |>.iload 571 at_569 rfl rfl |>.iincV 574 #[.val (.int i0), .val (.int i1), .val (.int i2), .val (.int (2 : Int32)), .val (.int (2 : Int32)), .val (.int (Int32.ofNat x0)), .val (.int (Int32.ofNat x1)), .val (.int (Int32.ofNat x2)), .val (.int (Int32.ofNat x3)), .val (.ref ta), .val (.ref ba), .val (.ref tp), .val (.ref br), .val (.int (Int32.ofNat N)), .val (.int (Int32.ofNat (nd N))), .val (.int (Int32.ofNat (48 + nd N))), .val (.ref ea), .val (.int (45 : Int32)), .unset] (45 : Int32) at_571 rfl (by decide) rfl rfl |>.bipush 576 (73 : Int32) at_574 (by decide) rfl
    obtain ⟨f44, G', As, Ks⟩ := G.castore 577 44 D.pad1 ⟨by decide, ofn_lt (i := 44) (Nat.lt_of_lt_of_le (nle rfl) (Nat.le_add_right 48 _)) hn31⟩ rfl (pad_lt l44) (Or.inr sea) (mm 0 rfl) at_576 rfl
    replace G := G'; clear G'
    obtain ⟨s45, q45, l45, D⟩ := DF.put1 l44 D As Ks np1 np2 np3 np4 (by decide)
    replace G := G.aload 579 at_577 rfl rfl rfl |>.iload 581 at_579 rfl rfl |>.iincV 584 #[.val (.int i0), .val (.int i1), .val (.int i2), .val (.int (2 : Int32)), .val (.int (2 : Int32)), .val (.int (Int32.ofNat x0)), .val (.int (Int32.ofNat x1)), .val (.int (Int32.ofNat x2)), .val (.int (Int32.ofNat x3)), .val (.ref ta), .val (.ref ba), .val (.ref tp), .val (.ref br), .val (.int (Int32.ofNat N)), .val (.int (Int32.ofNat (nd N))), .val (.int (Int32.ofNat (48 + nd N))), .val (.ref ea), .val (.int (46 : Int32)), .unset] (46 : Int32) at_581 rfl (by decide) rfl rfl |>.bipush 586 (100 : Int32) at_584 (by decide) rfl
    obtain ⟨f45, G', As, Ks⟩ := G.castore 587 45 D.pad1 ⟨by decide, ofn_lt (i := 45) (Nat.lt_of_lt_of_le (nle rfl) (Nat.le_add_right 48 _)) hn31⟩ rfl (pad_lt l45) (Or.inr sea) (mm 0 rfl) at_586 rfl
    replace G := G'; clear G'
    obtain ⟨s46, q46, l46, D⟩ := DF.put1 l45 D As Ks np1 np2 np3 np4 (by decide)
    replace G := G.aload 589 at_587 rfl rfl rfl |>.iload 591 at_589 rfl rfl |>.iincV 594 #[.val (.int i0), .val (.int i1), .val (.int i2), .val (.int (2 : Int32)), .val (.int (2 : Int32)), .val (.int (Int32.ofNat x0)), .val (.int (Int32.ofNat x1)), .val (.int (Int32.ofNat x2)), .val (.int (Int32.ofNat x3)), .val (.ref ta), .val (.ref ba), .val (.ref tp), .val (.ref br), .val (.int (Int32.ofNat N)), .val (.int (Int32.ofNat (nd N))), .val (.int (Int32.ofNat (48 + nd N))), .val (.ref ea), .val (.int (47 : Int32)), .unset] (47 : Int32) at_591 rfl (by decide) rfl rfl |>.bipush 596 (61 : Int32) at_594 (by decide) rfl
    obtain ⟨f46, G', As, Ks⟩ := G.castore 597 46 D.pad1 ⟨by decide, ofn_lt (i := 46) (Nat.lt_of_lt_of_le (nle rfl) (Nat.le_add_right 48 _)) hn31⟩ rfl (pad_lt l46) (Or.inr sea) (mm 0 rfl) at_596 rfl
    replace G := G'; clear G'
    obtain ⟨s47, q47, l47, D⟩ := DF.put1 l46 D As Ks np1 np2 np3 np4 (by decide)
    have e10 := dI_ten hN
    have hpre : (L59 ++ [Int32.ofNat x0, Int32.ofNat x1] ++ L61 ++ [Int32.ofNat x2, Int32.ofNat x3] ++ L63).map bytV = [Value.int (77 : Int32), Value.int (101 : Int32), Value.int (115 : Int32), Value.int (115 : Int32), Value.int (97 : Int32), Value.int (103 : Int32), Value.int (101 : Int32), Value.int (81 : Int32), Value.int (117 : Int32), Value.int (101 : Int32), Value.int (117 : Int32), Value.int (101 : Int32), Value.int (32 : Int32), Value.int (91 : Int32), Value.int (116 : Int32), Value.int (111 : Int32), Value.int (112 : Int32), Value.int (105 : Int32), Value.int (99 : Int32), Value.int (61 : Int32)] ++ [bytV (Int32.ofNat x0), bytV (Int32.ofNat x1)] ++ [Value.int (44 : Int32), Value.int (32 : Int32), Value.int (98 : Int32), Value.int (114 : Int32), Value.int (111 : Int32), Value.int (107 : Int32), Value.int (101 : Int32), Value.int (114 : Int32), Value.int (78 : Int32), Value.int (97 : Int32), Value.int (109 : Int32), Value.int (101 : Int32), Value.int (61 : Int32)] ++ [bytV (Int32.ofNat x2), bytV (Int32.ofNat x3)] ++ [Value.int (44 : Int32), Value.int (32 : Int32), Value.int (113 : Int32), Value.int (117 : Int32), Value.int (101 : Int32), Value.int (117 : Int32), Value.int (101 : Int32), Value.int (73 : Int32), Value.int (100 : Int32), Value.int (61 : Int32)] := by simp only [List.map_append, List.map_cons, List.map_nil, L59_b, L61_b, L63_b]
    have hp255 : ∀ x ∈ (L59 ++ [Int32.ofNat x0, Int32.ofNat x1] ++ L61 ++ [Int32.ofNat x2, Int32.ofNat x3] ++ L63), ¬ (255 : Int32) < x := mem5 L59_c (c255s (xs := [x0, x1]) (allS hx0 (allS hx1 (all0)))) L61_c (c255s (xs := [x2, x3]) (allS hx2 (allS hx3 (all0)))) L63_c
    have hs : s47 = (L59 ++ [Int32.ofNat x0, Int32.ofNat x1] ++ L61 ++ [Int32.ofNat x2, Int32.ofNat x3] ++ L63) := by simp only [q47, q46, q45, q44, q43, q42, q41, q40, q39, q38, q37, q36, q35, q34, q33, q32, q31, q30, q29, q28, q27, q26, q25, q24, q23, q22, q21, q20, q19, q18, q17, q16, q15, q14, q13, q12, q11, q10, q9, q8, q7, q6, q5, q4, q3, q2, q1, L59, L61, L63, List.append_assoc, List.cons_append, List.nil_append]
    rw [hs] at D
    have hpl : (L59 ++ [Int32.ofNat x0, Int32.ofNat x1] ++ L61 ++ [Int32.ofNat x2, Int32.ofNat x3] ++ L63).length = 47 := by rw [← hs]; exact l47
    refine tail 2 2 ta ba tp tpb br brb ea ke (48 + nd N) (L59 ++ [Int32.ofNat x0, Int32.ofNat x1] ++ L61 ++ [Int32.ofNat x2, Int32.ofNat x3] ++ L63) [bytV (Int32.ofNat x0), bytV (Int32.ofNat x1)] [bytV (Int32.ofNat x2), bytV (Int32.ofNat x3)] sea (by rw [hpl]; omega) (by rw [hpl]; decide) hp255 (by exact Or.inr rfl) (by exact Or.inr rfl) hpre np1 np2 np3 np4 _ (by rw [e10, List.append_nil]; exact D) ?_
    rw [e10, List.append_nil]
    rw [hpl]; exact (G.more (k := 16) (n := 400) (nle rfl) (nle rfl)).less (allS (mm 0 rfl) all0)
theorem comes_1 {Post : Tables → Env → Array Value → State → Outcome → State → Prop} (hpost : ∀ tb e args s v u, (limb_1_1.after args s (.returned v) u = true ∧ limb_1_2.after args s (.returned v) u = true ∧ True) → FramedW s (.returned v) u (Jvm.fieldLocs frame_1_writes args s ++ Jvm.arrayLocs frame_1_arrays args s ++ Jvm.staticLocs frame_1_statics s) 56 6912 → Post tb e args s (.returned v) u) :
    ArmFor flags0 classFile x code maxLocals ret World_1 tables_1 room_1 Calls_1 rest_1 Pre_1 Post := by
  intro l hfl _ _ p e ha hc hk s m args below hf hA hF happ hP
  obtain ⟨hcalls, hrest, hpre⟩ := hP
  obtain ⟨-, -, -, hnamed, -, -, -, hat⟩ := (Spec.applies_iff hf).mp happ
  obtain ⟨hg, hn⟩ := and_e (Cond.before_iff.mp (show (Jvm.Cond.and given_1 narrow_1).before args s = true from hpre))
  obtain ⟨hcnt, g0⟩ := and_e hg
  obtain ⟨a0, g1⟩ := and_e g0
  obtain ⟨a1, g2⟩ := and_e g1
  have a2 := g2
  obtain ⟨w0, w1, w2, rfl⟩ : ∃ w0 w1 w2 : Value, args = #[w0, w1, w2] := by
    have hs : args.size = 3 := by simpa [Cond.value, given_1] using hcnt
    obtain ⟨L⟩ := args
    match L, hs with
    | [w0, w1, w2], _ => exact ⟨w0, w1, w2, rfl⟩
  have hw := fun d (hd : d ∈ tables_1) => atoms_spec (ws := Jvm.Cond.code x code maxLocals ret :: tables_1) hat d (List.mem_cons_of_mem _ hd)
  obtain ⟨hsets, hown0⟩ := atoms_of _ (rest_1_c_eq ▸ (show rest_1_c.before _ s = true from hrest))
  have hfit : Fit s := fun {y c} hc i hi => by
    obtain ⟨ha, rfl⟩ := Array.getElem?_eq_some_iff.mp hc
    have q := List.all_eq_true.mp ((Array.all_eq_true_iff_forall_mem.mp hF) _ (Array.getElem_mem ha)) i (List.mem_range.mpr hi)
    simpa [Array.getElem?_eq_getElem hi] using q
  obtain ⟨i0, e0⟩ := is_v a0
  obtain rfl : w0 = (.int i0) := Option.some.inj e0
  obtain ⟨i1, e1⟩ := is_v a1
  obtain rfl : w1 = (.int i1) := Option.some.inj e1
  obtain ⟨i2, e2⟩ := is_v a2
  obtain rfl : w2 = (.int i2) := Option.some.inj e2
  have hcompact : Jvm.Lit.compactW.before _ s = true := (hsets _ (mm 2 rfl))
  obtain ⟨c1, ec1⟩ := is_v (Cond.before_iff.mp (hsets _ (mm 1 rfl)))
  have S1 : Sta s s.heap "java/lang/String" "COMPACT_STRINGS" "Z" (.int c1) := Sta.start ec1 (Or.inl (hsets _ (mm 0 rfl)))
  have hc1 : ¬ (c1 = (0 : Int32)) := gotF (Cond.eq_ints ec1 (Term.int_eval (0))) (not_v (Cond.before_iff.mp hcompact))
  obtain ⟨t1, kt1, SD1, AD1⟩ := arv100 (vs := dOnes) (hsets _ (mm 11 rfl)) (hsets _ (mm 12 rfl)) (hsets _ (mm 13 rfl)) (hsets _ (mm 14 rfl)) (hw _ (mm 19 rfl)) (fun j hj => ⟨_, rfl, by rw [dOnes_at hj]; exact congrArg Value.int (ones_eq ⟨j, hj⟩).1.symm, by rw [(ones_eq ⟨j, hj⟩).1]; exact (ones_eq ⟨j, hj⟩).2⟩)
  obtain ⟨t2, kt2, SD2, AD2⟩ := arv100 (vs := dTens) (hsets _ (mm 16 rfl)) (hsets _ (mm 17 rfl)) (hsets _ (mm 18 rfl)) (hsets _ (mm 19 rfl)) (hw _ (mm 19 rfl)) (fun j hj => ⟨_, rfl, by rw [dTens_at hj]; exact congrArg Value.int (tens_eq ⟨j, hj⟩).1.symm, by rw [(tens_eq ⟨j, hj⟩).1]; exact (tens_eq ⟨j, hj⟩).2⟩)
  have hEW : EW s _ consts_1 := (EW.cons (hw _ (mm 53 rfl)) (by decide) (EW.cons (hw _ (mm 60 rfl)) (by decide) (EW.cons (hw _ (mm 95 rfl)) (by decide) (EW.cons (hw _ (mm 166 rfl)) (by decide) (EW.cons (hw _ (mm 167 rfl)) (by decide) (EW.cons (hw _ (mm 190 rfl)) (by decide) EW.nil))))))
  have hCH : CHv s consts_1 s.vm s.heap := CHv.start hEW (show ∀ p ∈ consts_1, Jvm.Lit.constHeld s p.1 p.2 from hcalls.1) hcompact (hw _ (mm 19 rfl)) (hw _ (mm 2 rfl))
  obtain ⟨n, o, h1, h2, h3, _, L, rfl, ⟨so, N, -, ⟨w, rfl, rfl, -⟩, -, -⟩, hq⟩ := c_law l s _ hw hEW s.heap.size c1 hc1 S1 t1 t2 kt1 kt2 SD1 SD2 AD1 AD2 tables_1 i0 i1 i2 (Old.start s) p e ha hc hk s m _ below hf ((Spec.applies_iff_loose hf).mp happ).1 ⟨rfl, State.Warmed39.refl s, rfl, hCH, fun _ q => nomatch q⟩ trivial
  refine ⟨n, _, h1, h2, h3, hpost _ _ _ _ _ _ ⟨Cond.after_iff.mpr rfl, Cond.after_iff.mpr (eq_i res_at (Term.int_eval (1)) rfl), trivial⟩ ⟨hq.1, hq.2.1, hq.2.2.1, (hq.2.2.2.sift fun y hy => Or.inr (N y hy)).mono (by decide) (by decide)⟩⟩
theorem main_1_1 : Claimed_1_1 := comes_1 fun _ _ _ _ _ _ h hF => ⟨h.1, hF⟩
theorem main_1_2 : Claimed_1_2 := comes_1 fun _ _ _ _ _ _ h hF => ⟨h.2.1, hF⟩
end Jvm.Pilot.@@N@@
namespace Jvm.Pilot.@@N@@
open Jvm Jvm.ClassFile Sem Op Lib Jvm.Free Jvm.Stand Jvm.Pilot.@@N@@.Jvm.D
/-! MADE BY PROGRAM (witnessworld.py) out of the Statement's table words and the real class files: 30 classes; the members and pool entries that the words name. The judged class is class 1, her method 1. -/
namespace start1
open Jvm.ClassFile
def u (s : String) : CpInfo := .utf8 (stringToUtf16 s)
/-- a pool by its gaps: so many unusable entries, then the entry; so many at the end -/
def gap : Nat → List CpInfo → List CpInfo
  | 0, r => r
  | n + 1, r => .unusable :: gap n r
def poolList (es : List (Nat × CpInfo)) (last : Nat) : List CpInfo := es.foldr (fun e r => gap e.1 (e.2 :: r)) (gap last [])
def pool (es : List (Nat × CpInfo)) (last : Nat) : Array CpInfo := ⟨poolList es last⟩
def fileOf (pool : Array CpInfo) (this : Nat) (attrs : Array Attribute := #[]) (ms : Array MethodInfo := #[]) (fl : Nat := 33) (sup : Nat := 0) (ifs : Array Nat := #[]) (fds : Array FieldInfo := #[]) : ClassFile where
  minorVersion := 0
  majorVersion := 65
  constantPool := pool
  accessFlags := fl
  thisClass := this
  superClass := sup
  interfaces := ifs
  fields := fds
  methods := ms
  attributes := attrs
def plain (name : String) (sup : Option ClassId) : Class where
  name := name
  kind := .ordinary
  loader := none
  accessFlags := 33
  super := sup
  interfaces := #[]
  cf := none
  fields := #[]
  methods := #[]
  instanceTypes := #[]
  staticTypes := #[]
  resolved := #[]
  callSites := []
  init := .initialized
  statics := none
  mirror := none

def pool0 : Array CpInfo := pool [(5, u "<init>"), (0, u "()V"), (1, .class_ 10), (1, u "java/lang/Object")] 113

def k0c0 : Code := { maxStack := 0, maxLocals := 1, code := object_method_1_code, exceptionTable := #[], attributes := #[] }
def k0m0 : Method := { name := "<init>", desc := "()V", sig := { parameters := [], returnType := none }, accessFlags := 1, code := some k0c0 }
/-- java/lang/Object -/
def k0 : Class := { plain "java/lang/Object" none with
  accessFlags := 33
  interfaces := #[]
  cf := some (fileOf pool0 8 #[] #[{ accessFlags := 1, nameIndex := 5, descriptorIndex := 6, attributes := #[] }] 33 0 #[] #[])
  fields := #[]
  methods := #[k0m0]
  instanceTypes := #[]
  staticTypes := #[]
  resolved := Array.replicate 124 none
  statics := none }

def pool1 : Array CpInfo := pool [(2, .class_ 4), (1, u "java/lang/Object"), (0, u "<init>"), (0, u "()V"), (0, .class_ 8), (0, u "java/lang/String"), (0, .methodref 7 10), (0, .nameAndType 5 11), (0, u "([C)V"), (0, .integer 2147483647), (0, .methodref 14 15), (0, .class_ 16), (0, .nameAndType 17 18), (0, u "com/example/rebalance/rebalance/MessageQueueHashKeyPinLaw"), (0, u "digits"), (0, u "(I)I"), (0, .methodref 14 20), (0, .nameAndType 21 22), (0, u "mk"), (0, u "(I)[C"), (0, .integer 1000000000), (0, .methodref 14 25), (0, .nameAndType 26 27), (0, u "dig"), (0, u "(II)C"), (0, .integer 100000000), (0, .integer 10000000), (0, .integer 1000000), (0, .integer 100000), (0, .class_ 33), (0, u "com/example/rebalance/rebalance/MessageQueue"), (0, .methodref 32 35), (0, .nameAndType 5 36), (0, u "(Ljava/lang/String;Ljava/lang/String;I)V"), (0, .methodref 32 38), (0, .nameAndType 39 40), (0, u "hashKey"), (0, u "()Ljava/lang/String;"), (0, .methodref 7 42), (0, .nameAndType 43 44), (0, u "equals"), (0, u "(Ljava/lang/Object;)Z"), (2, u "law"), (0, u "(III)Z")] 5

def k1m0 : Method := { name := "<init>", desc := "()V", sig := { parameters := [], returnType := none }, accessFlags := 1, code := none }
def k1c1 : Code := { maxStack := 5, maxLocals := 19, code := code, exceptionTable := #[], attributes := #[] }
def k1m1 : Method := { name := "law", desc := "(III)Z", sig := { parameters := [.int, .int, .int], returnType := some .boolean }, accessFlags := 9, code := some k1c1 }
def k1c2 : Code := { maxStack := 3, maxLocals := 2, code := method_3_code, exceptionTable := #[], attributes := #[] }
def k1m2 : Method := { name := "dig", desc := "(II)C", sig := { parameters := [.int, .int], returnType := some .char }, accessFlags := 10, code := some k1c2 }
def k1c3 : Code := { maxStack := 2, maxLocals := 1, code := method_4_code, exceptionTable := #[], attributes := #[] }
def k1m3 : Method := { name := "digits", desc := "(I)I", sig := { parameters := [.int], returnType := some .int }, accessFlags := 10, code := some k1c3 }
def k1c4 : Code := { maxStack := 2, maxLocals := 1, code := method_5_code, exceptionTable := #[], attributes := #[] }
def k1m4 : Method := { name := "mk", desc := "(I)[C", sig := { parameters := [.int], returnType := some (.array .char) }, accessFlags := 10, code := some k1c4 }
/-- com/example/rebalance/rebalance/MessageQueueHashKeyPinLaw -/
def k1 : Class := { plain "com/example/rebalance/rebalance/MessageQueueHashKeyPinLaw" (some 0) with
  accessFlags := 49
  interfaces := #[]
  cf := some (fileOf pool1 14 #[] #[{ accessFlags := 1, nameIndex := 5, descriptorIndex := 6, attributes := #[] }, { accessFlags := 9, nameIndex := 47, descriptorIndex := 48, attributes := #[] }, { accessFlags := 10, nameIndex := 26, descriptorIndex := 27, attributes := #[] }, { accessFlags := 10, nameIndex := 17, descriptorIndex := 18, attributes := #[] }, { accessFlags := 10, nameIndex := 21, descriptorIndex := 22, attributes := #[] }] 49 2 #[] #[])
  fields := #[]
  methods := #[k1m0, k1m1, k1m2, k1m3, k1m4]
  instanceTypes := #[]
  staticTypes := #[]
  resolved := Array.replicate 54 none
  statics := none }

def pool2 : Array CpInfo := pool [(1, .class_ 2), (0, u "java/io/Serializable"), (0, .class_ 4), (0, u "java/lang/Object")] 2

/-- java/io/Serializable -/
def k2 : Class := { plain "java/io/Serializable" (some 0) with
  accessFlags := 1537
  interfaces := #[]
  cf := some (fileOf pool2 1 #[] #[] 1537 3 #[] #[])
  fields := #[]
  methods := #[]
  instanceTypes := #[]
  staticTypes := #[]
  resolved := Array.replicate 7 none
  statics := none }

def pool3 : Array CpInfo := pool [(1, .class_ 2), (0, u "java/lang/Comparable"), (0, .class_ 4), (0, u "java/lang/Object")] 7

/-- java/lang/Comparable -/
def k3 : Class := { plain "java/lang/Comparable" (some 0) with
  accessFlags := 1537
  interfaces := #[]
  cf := some (fileOf pool3 1 #[] #[] 1537 3 #[] #[])
  fields := #[]
  methods := #[]
  instanceTypes := #[]
  staticTypes := #[]
  resolved := Array.replicate 12 none
  statics := none }

def pool4 : Array CpInfo := pool [(2, .class_ 4), (1, u "java/lang/CharSequence"), (42, .class_ 48), (0, u "java/lang/CharSequence$1CodePointIterator"), (10, .class_ 60), (0, u "java/lang/CharSequence$1CharIterator"), (5, .class_ 67), (0, u "java/lang/Object")] 63

/-- java/lang/CharSequence -/
def k4 : Class := { plain "java/lang/CharSequence" (some 0) with
  accessFlags := 1537
  interfaces := #[]
  cf := some (fileOf pool4 2 #[.nestMembers #[47, 59]] #[] 1537 66 #[] #[])
  fields := #[]
  methods := #[]
  instanceTypes := #[]
  staticTypes := #[]
  resolved := Array.replicate 131 none
  statics := none }

def pool5 : Array CpInfo := pool [(1, .class_ 2), (0, u "java/lang/constant/Constable"), (0, .class_ 4), (0, u "java/lang/Object")] 6

/-- java/lang/constant/Constable -/
def k5 : Class := { plain "java/lang/constant/Constable" (some 0) with
  accessFlags := 1537
  interfaces := #[]
  cf := some (fileOf pool5 1 #[] #[] 1537 3 #[] #[])
  fields := #[]
  methods := #[]
  instanceTypes := #[]
  staticTypes := #[]
  resolved := Array.replicate 11 none
  statics := none }

def pool6 : Array CpInfo := pool [(1, .class_ 2), (0, u "java/lang/constant/ConstantDesc"), (0, .class_ 4), (0, u "java/lang/Object")] 32

/-- java/lang/constant/ConstantDesc -/
def k6 : Class := { plain "java/lang/constant/ConstantDesc" (some 0) with
  accessFlags := 1537
  interfaces := #[]
  cf := some (fileOf pool6 1 #[] #[] 1537 3 #[] #[])
  fields := #[]
  methods := #[]
  instanceTypes := #[]
  staticTypes := #[]
  resolved := Array.replicate 37 none
  statics := none }

def pool7 : Array CpInfo := pool [(1, .methodref 2 3), (0, .class_ 4), (0, .nameAndType 5 6), (0, u "java/lang/Object"), (0, u "<init>"), (0, u "()V"), (2, .fieldref 10 11), (0, .class_ 12), (0, .nameAndType 13 14), (0, u "java/lang/String"), (0, u "value"), (0, u "[B"), (0, .fieldref 10 16), (0, .nameAndType 17 18), (0, u "coder"), (0, u "B"), (2, u "hash"), (0, u "I"), (2, u "hashIsZero"), (0, u "Z"), (0, .methodref 10 28), (0, .nameAndType 5 29), (0, u "([CIILjava/lang/Void;)V"), (8, .fieldref 10 39), (0, .nameAndType 40 26), (0, u "COMPACT_STRINGS"), (1, .class_ 44), (1, u "java/lang/StringUTF16"), (0, u "compress"), (1, .methodref 42 48), (0, .nameAndType 49 50), (0, u "coderFromArrayLen"), (0, u "([BI)B"), (3, .methodref 55 56), (0, .class_ 57), (0, .nameAndType 58 59), (0, u "java/util/Arrays"), (0, u "copyOfRange"), (0, u "([BII)[B"), (47, .class_ 109), (1, u "java/lang/StringLatin1"), (32, u "()Z"), (34, .methodref 42 178), (0, .nameAndType 45 179), (0, u "([CII)[B"), (13, .class_ 195), (1, u "java/lang/System"), (16, .methodref 193 213), (0, .nameAndType 214 215), (0, u "arraycopy"), (0, u "(Ljava/lang/Object;ILjava/lang/Object;II)V"), (118, u "()I"), (0, .methodref 10 336), (0, .nameAndType 17 337), (0, u "()B"), (2, u "()[B"), (148, .methodref 10 490), (0, .nameAndType 5 491), (0, u "(Ljava/lang/AbstractStringBuilder;Ljava/lang/Void;)V"), (1, .nameAndType 494 142), (0, u "isLatin1"), (11, .nameAndType 507 334), (0, u "length"), (24, u "getBytes"), (8, .methodref 107 542), (0, .nameAndType 543 544), (0, u "equals"), (0, u "([B[B)Z"), (4, .methodref 550 506), (0, .class_ 551), (0, u "java/lang/AbstractStringBuilder"), (0, .methodref 550 553), (0, .nameAndType 554 340), (0, u "getValue"), (18, u "(Ljava/lang/Object;)Z"), (1, .class_ 576), (0, u "java/lang/CharSequence"), (22, u "CASE_INSENSITIVE_ORDER"), (0, u "Ljava/util/Comparator;"), (91, u "isEmpty"), (128, u "([BIB)V"), (188, u "([C)V"), (36, .methodref 550 493), (53, u "serialPersistentFields"), (0, u "[Ljava/io/ObjectStreamField;"), (0, .class_ 1104), (0, u "java/lang/String$CaseInsensitiveComparator"), (1, .class_ 1107), (0, u "java/io/Serializable"), (0, .class_ 1109), (0, u "java/lang/Comparable"), (0, .class_ 1111), (0, u "java/lang/constant/Constable"), (0, .class_ 1113), (0, u "java/lang/constant/ConstantDesc"), (2, u "serialVersionUID"), (0, u "J"), (3, u "REPL"), (0, u "C"), (2, u "LATIN1"), (1, u "UTF16"), (105, u "(Ljava/lang/StringBuilder;)V")] 217

def k7m0 : Method := { name := "<init>", desc := "()V", sig := { parameters := [], returnType := none }, accessFlags := 1, code := none }
def k7c1 : Code := { maxStack := 5, maxLocals := 2, code := jdk_42_method_3_code, exceptionTable := #[], attributes := #[] }
def k7m1 : Method := { name := "<init>", desc := "([C)V", sig := { parameters := [(.array .char)], returnType := none }, accessFlags := 1, code := some k7c1 }
def k7c2 : Code := { maxStack := 3, maxLocals := 2, code := jdk_42_method_53_code, exceptionTable := #[], attributes := #[] }
def k7m2 : Method := { name := "<init>", desc := "(Ljava/lang/StringBuilder;)V", sig := { parameters := [(.object "java/lang/StringBuilder")], returnType := none }, accessFlags := 1, code := some k7c2 }
def k7c3 : Code := { maxStack := 2, maxLocals := 1, code := jdk_42_method_54_code, exceptionTable := #[], attributes := #[] }
def k7m3 : Method := { name := "length", desc := "()I", sig := { parameters := [], returnType := some .int }, accessFlags := 1, code := some k7c3 }
def k7c4 : Code := { maxStack := 1, maxLocals := 1, code := jdk_42_method_55_code, exceptionTable := #[], attributes := #[] }
def k7m4 : Method := { name := "isEmpty", desc := "()Z", sig := { parameters := [], returnType := some .boolean }, accessFlags := 1, code := some k7c4 }
def k7c5 : Code := { maxStack := 2, maxLocals := 3, code := jdk_42_method_66_code, exceptionTable := #[], attributes := #[] }
def k7m5 : Method := { name := "equals", desc := "(Ljava/lang/Object;)Z", sig := { parameters := [(.object "java/lang/Object")], returnType := some .boolean }, accessFlags := 1, code := some k7c5 }
def k7c6 : Code := { maxStack := 5, maxLocals := 4, code := jdk_42_method_147_code, exceptionTable := #[], attributes := #[] }
def k7m6 : Method := { name := "getBytes", desc := "([BIB)V", sig := { parameters := [(.array .byte), .int, .byte], returnType := none }, accessFlags := 0, code := some k7c6 }
def k7c7 : Code := { maxStack := 4, maxLocals := 6, code := jdk_42_method_149_code, exceptionTable := #[], attributes := #[] }
def k7m7 : Method := { name := "<init>", desc := "([CIILjava/lang/Void;)V", sig := { parameters := [(.array .char), .int, .int, (.object "java/lang/Void")], returnType := none }, accessFlags := 2, code := some k7c7 }
def k7c8 : Code := { maxStack := 5, maxLocals := 5, code := jdk_42_method_150_code, exceptionTable := #[], attributes := #[] }
def k7m8 : Method := { name := "<init>", desc := "(Ljava/lang/AbstractStringBuilder;Ljava/lang/Void;)V", sig := { parameters := [(.object "java/lang/AbstractStringBuilder"), (.object "java/lang/Void")], returnType := none }, accessFlags := 0, code := some k7c8 }
def k7c9 : Code := { maxStack := 1, maxLocals := 1, code := jdk_42_method_152_code, exceptionTable := #[], attributes := #[] }
def k7m9 : Method := { name := "coder", desc := "()B", sig := { parameters := [], returnType := some .byte }, accessFlags := 0, code := some k7c9 }
/-- java/lang/String -/
def k7 : Class := { plain "java/lang/String" (some 0) with
  accessFlags := 49
  interfaces := #[2, 3, 4, 5, 6]
  cf := some (fileOf pool7 10 #[.nestMembers #[1103]] #[{ accessFlags := 1, nameIndex := 5, descriptorIndex := 6, attributes := #[] }, { accessFlags := 1, nameIndex := 5, descriptorIndex := 1010, attributes := #[] }, { accessFlags := 1, nameIndex := 5, descriptorIndex := 1233, attributes := #[] }, { accessFlags := 1, nameIndex := 507, descriptorIndex := 334, attributes := #[] }, { accessFlags := 1, nameIndex := 692, descriptorIndex := 142, attributes := #[] }, { accessFlags := 1, nameIndex := 543, descriptorIndex := 573, attributes := #[] }, { accessFlags := 0, nameIndex := 532, descriptorIndex := 821, attributes := #[] }, { accessFlags := 2, nameIndex := 5, descriptorIndex := 29, attributes := #[] }, { accessFlags := 0, nameIndex := 5, descriptorIndex := 491, attributes := #[] }, { accessFlags := 0, nameIndex := 17, descriptorIndex := 337, attributes := #[] }] 49 2 #[1106, 1108, 575, 1110, 1112] #[{ accessFlags := 18, nameIndex := 13, descriptorIndex := 14, attributes := #[] }, { accessFlags := 18, nameIndex := 17, descriptorIndex := 18, attributes := #[] }, { accessFlags := 2, nameIndex := 21, descriptorIndex := 22, attributes := #[] }, { accessFlags := 2, nameIndex := 25, descriptorIndex := 26, attributes := #[] }, { accessFlags := 26, nameIndex := 1116, descriptorIndex := 1117, attributes := #[] }, { accessFlags := 24, nameIndex := 40, descriptorIndex := 26, attributes := #[] }, { accessFlags := 26, nameIndex := 1101, descriptorIndex := 1102, attributes := #[] }, { accessFlags := 26, nameIndex := 1121, descriptorIndex := 1122, attributes := #[] }, { accessFlags := 25, nameIndex := 599, descriptorIndex := 600, attributes := #[] }, { accessFlags := 24, nameIndex := 1125, descriptorIndex := 18, attributes := #[] }, { accessFlags := 24, nameIndex := 1127, descriptorIndex := 18, attributes := #[] }])
  fields := #[{ name := "value", type := (.array .byte), accessFlags := 18, slot := 0, constantValue := 0 }, { name := "coder", type := .byte, accessFlags := 18, slot := 1, constantValue := 0 }, { name := "hash", type := .int, accessFlags := 2, slot := 2, constantValue := 0 }, { name := "hashIsZero", type := .boolean, accessFlags := 2, slot := 3, constantValue := 0 }, { name := "serialVersionUID", type := .long, accessFlags := 26, slot := 0, constantValue := 0 }, { name := "COMPACT_STRINGS", type := .boolean, accessFlags := 24, slot := 1, constantValue := 0 }, { name := "serialPersistentFields", type := (.array (.object "java/io/ObjectStreamField")), accessFlags := 26, slot := 2, constantValue := 0 }, { name := "REPL", type := .char, accessFlags := 26, slot := 3, constantValue := 0 }, { name := "CASE_INSENSITIVE_ORDER", type := (.object "java/util/Comparator"), accessFlags := 25, slot := 4, constantValue := 0 }, { name := "LATIN1", type := .byte, accessFlags := 24, slot := 5, constantValue := 0 }, { name := "UTF16", type := .byte, accessFlags := 24, slot := 6, constantValue := 0 }]
  methods := #[k7m0, k7m1, k7m2, k7m3, k7m4, k7m5, k7m6, k7m7, k7m8, k7m9]
  instanceTypes := #[(.array .byte), .byte, .int, .boolean]
  staticTypes := #[.long, .boolean, (.array (.object "java/io/ObjectStreamField")), .char, (.object "java/util/Comparator"), .byte, .byte]
  resolved := Array.replicate 1451 none
  statics := some 0 }

def pool8 : Array CpInfo := pool [(6, .class_ 8), (1, u "java/lang/Object"), (0, u "<init>"), (0, u "()V"), (1, .class_ 14), (1, u "java/lang/StringUTF16"), (31, u "$assertionsDisabled"), (0, u "Z"), (13, u "HI_BYTE_SHIFT"), (0, u "I"), (2, u "LO_BYTE_SHIFT"), (49, .methodref 12 116), (0, .nameAndType 117 118), (0, u "compress"), (0, u "([CI[BII)I"), (3, u "([CII)[B"), (138, u "coderFromArrayLen"), (0, u "([BI)B"), (106, .class_ 371), (1, u "java/lang/StringUTF16$LinesSpliterator"), (58, u "MAX_LENGTH"), (196, .class_ 628), (0, u "java/lang/StringUTF16$CodePointsSpliterator"), (0, .class_ 630), (0, u "java/lang/StringUTF16$CharsSpliterator")] 4

def k8m0 : Method := { name := "<init>", desc := "()V", sig := { parameters := [], returnType := none }, accessFlags := 0, code := none }
def k8c1 : Code := { maxStack := 2, maxLocals := 2, code := jdk_52_method_15_code, exceptionTable := #[], attributes := #[] }
def k8m1 : Method := { name := "coderFromArrayLen", desc := "([BI)B", sig := { parameters := [(.array .byte), .int], returnType := some .byte }, accessFlags := 8, code := some k8c1 }
def k8c2 : Code := { maxStack := 5, maxLocals := 6, code := jdk_52_method_16_code, exceptionTable := #[], attributes := #[] }
def k8m2 : Method := { name := "compress", desc := "([CII)[B", sig := { parameters := [(.array .char), .int, .int], returnType := some (.array .byte) }, accessFlags := 9, code := some k8c2 }
def k8c3 : Code := { maxStack := 3, maxLocals := 7, code := jdk_52_method_21_code, exceptionTable := #[], attributes := #[] }
def k8m3 : Method := { name := "compress", desc := "([CI[BII)I", sig := { parameters := [(.array .char), .int, (.array .byte), .int, .int], returnType := some .int }, accessFlags := 9, code := some k8c3 }
/-- java/lang/StringUTF16 -/
def k8 : Class := { plain "java/lang/StringUTF16" (some 0) with
  accessFlags := 48
  interfaces := #[]
  cf := some (fileOf pool8 12 #[.nestMembers #[627, 629, 369]] #[{ accessFlags := 0, nameIndex := 9, descriptorIndex := 10, attributes := #[] }, { accessFlags := 8, nameIndex := 261, descriptorIndex := 262, attributes := #[] }, { accessFlags := 9, nameIndex := 117, descriptorIndex := 122, attributes := #[] }, { accessFlags := 9, nameIndex := 117, descriptorIndex := 118, attributes := #[] }] 48 6 #[] #[{ accessFlags := 26, nameIndex := 61, descriptorIndex := 62, attributes := #[] }, { accessFlags := 26, nameIndex := 65, descriptorIndex := 62, attributes := #[] }, { accessFlags := 24, nameIndex := 430, descriptorIndex := 62, attributes := #[] }, { accessFlags := 4120, nameIndex := 46, descriptorIndex := 47, attributes := #[] }])
  fields := #[{ name := "HI_BYTE_SHIFT", type := .int, accessFlags := 26, slot := 0, constantValue := 0 }, { name := "LO_BYTE_SHIFT", type := .int, accessFlags := 26, slot := 1, constantValue := 0 }, { name := "MAX_LENGTH", type := .int, accessFlags := 24, slot := 2, constantValue := 0 }, { name := "$assertionsDisabled", type := .boolean, accessFlags := 4120, slot := 3, constantValue := 0 }]
  methods := #[k8m0, k8m1, k8m2, k8m3]
  instanceTypes := #[]
  staticTypes := #[.int, .int, .int, .boolean]
  resolved := Array.replicate 635 none
  statics := none }

def pool9 : Array CpInfo := pool [(1, .methodref 2 3), (0, .class_ 4), (0, .nameAndType 5 6), (0, u "java/lang/Object"), (0, u "<init>"), (0, u "()V"), (0, .class_ 8), (0, u "java/lang/Record")] 13

def k9c0 : Code := { maxStack := 1, maxLocals := 1, code := jdk_30_method_1_code, exceptionTable := #[], attributes := #[] }
def k9m0 : Method := { name := "<init>", desc := "()V", sig := { parameters := [], returnType := none }, accessFlags := 4, code := some k9c0 }
/-- java/lang/Record -/
def k9 : Class := { plain "java/lang/Record" (some 0) with
  accessFlags := 1057
  interfaces := #[]
  cf := some (fileOf pool9 7 #[] #[{ accessFlags := 4, nameIndex := 5, descriptorIndex := 6, attributes := #[] }] 1057 2 #[] #[])
  fields := #[]
  methods := #[k9m0]
  instanceTypes := #[]
  staticTypes := #[]
  resolved := Array.replicate 22 none
  statics := none }

def pool10 : Array CpInfo := pool [(1, .methodref 2 3), (0, .class_ 4), (0, .nameAndType 5 6), (0, u "java/lang/Record"), (0, u "<init>"), (0, u "()V"), (0, .string 8), (0, u "topic"), (0, .methodref 10 11), (0, .class_ 12), (0, .nameAndType 13 14), (0, u "java/util/Objects"), (0, u "requireNonNull"), (0, u "(Ljava/lang/Object;Ljava/lang/String;)Ljava/lang/Object;"), (0, .string 16), (0, u "brokerName"), (0, .methodref 18 19), (0, .class_ 20), (0, .nameAndType 21 22), (0, u "java/lang/String"), (0, u "isEmpty"), (0, u "()Z"), (9, .class_ 33), (0, u "java/lang/StringBuilder"), (0, .methodref 32 3), (2, .methodref 32 38), (0, .nameAndType 39 40), (0, u "append"), (0, u "(Ljava/lang/String;)Ljava/lang/StringBuilder;"), (0, .methodref 32 42), (0, .nameAndType 39 43), (0, u "(I)Ljava/lang/StringBuilder;"), (0, .methodref 32 45), (0, .nameAndType 46 47), (0, u "toString"), (0, u "()Ljava/lang/String;"), (0, .fieldref 49 50), (0, .class_ 51), (0, .nameAndType 8 52), (0, u "com/example/rebalance/rebalance/MessageQueue"), (0, u "Ljava/lang/String;"), (0, .fieldref 49 54), (0, .nameAndType 16 52), (0, .fieldref 49 56), (0, .nameAndType 57 58), (0, u "queueId"), (0, u "I"), (0, .string 60), (0, u "MessageQueue [topic="), (0, .string 62), (0, u ", brokerName="), (0, .string 64), (0, u ", queueId="), (0, .string 66), (0, u "]"), (2, u "ORDER"), (0, u "Ljava/util/Comparator;"), (39, .class_ 111), (0, u "java/lang/Comparable"), (2, u "(Ljava/lang/String;Ljava/lang/String;I)V"), (4, u "hashKey")] 49

def k10c0 : Code := { maxStack := 4, maxLocals := 4, code := prog_2_method_1_code, exceptionTable := #[], attributes := #[] }
def k10m0 : Method := { name := "<init>", desc := "(Ljava/lang/String;Ljava/lang/String;I)V", sig := { parameters := [(.object "java/lang/String"), (.object "java/lang/String"), .int], returnType := none }, accessFlags := 1, code := some k10c0 }
def k10c1 : Code := { maxStack := 2, maxLocals := 1, code := prog_2_method_2_code, exceptionTable := #[], attributes := #[] }
def k10m1 : Method := { name := "hashKey", desc := "()Ljava/lang/String;", sig := { parameters := [], returnType := some (.object "java/lang/String") }, accessFlags := 1, code := some k10c1 }
/-- com/example/rebalance/rebalance/MessageQueue -/
def k10 : Class := { plain "com/example/rebalance/rebalance/MessageQueue" (some 9) with
  accessFlags := 49
  interfaces := #[3]
  cf := some (fileOf pool10 49 #[] #[{ accessFlags := 1, nameIndex := 5, descriptorIndex := 114, attributes := #[] }, { accessFlags := 1, nameIndex := 119, descriptorIndex := 47, attributes := #[] }] 49 2 #[110] #[{ accessFlags := 18, nameIndex := 8, descriptorIndex := 52, attributes := #[] }, { accessFlags := 18, nameIndex := 16, descriptorIndex := 52, attributes := #[] }, { accessFlags := 18, nameIndex := 57, descriptorIndex := 58, attributes := #[] }, { accessFlags := 26, nameIndex := 69, descriptorIndex := 70, attributes := #[] }])
  fields := #[{ name := "topic", type := (.object "java/lang/String"), accessFlags := 18, slot := 0, constantValue := 0 }, { name := "brokerName", type := (.object "java/lang/String"), accessFlags := 18, slot := 1, constantValue := 0 }, { name := "queueId", type := .int, accessFlags := 18, slot := 2, constantValue := 0 }, { name := "ORDER", type := (.object "java/util/Comparator"), accessFlags := 26, slot := 0, constantValue := 0 }]
  methods := #[k10m0, k10m1]
  instanceTypes := #[(.object "java/lang/String"), (.object "java/lang/String"), .int]
  staticTypes := #[(.object "java/util/Comparator")]
  resolved := Array.replicate 169 none
  statics := none }

def pool11 : Array CpInfo := pool [(2, .class_ 4), (1, u "java/lang/Object"), (0, u "<init>"), (0, u "()V"), (35, .class_ 44), (1, u "java/util/Objects"), (0, u "requireNonNull"), (48, u "(Ljava/lang/Object;Ljava/lang/String;)Ljava/lang/Object;")] 89

def k11m0 : Method := { name := "<init>", desc := "()V", sig := { parameters := [], returnType := none }, accessFlags := 2, code := none }
def k11c1 : Code := { maxStack := 3, maxLocals := 2, code := jdk_31_method_11_code, exceptionTable := #[], attributes := #[] }
def k11m1 : Method := { name := "requireNonNull", desc := "(Ljava/lang/Object;Ljava/lang/String;)Ljava/lang/Object;", sig := { parameters := [(.object "java/lang/Object"), (.object "java/lang/String")], returnType := some (.object "java/lang/Object") }, accessFlags := 9, code := some k11c1 }
/-- java/util/Objects -/
def k11 : Class := { plain "java/util/Objects" (some 0) with
  accessFlags := 49
  interfaces := #[]
  cf := some (fileOf pool11 42 #[] #[{ accessFlags := 2, nameIndex := 5, descriptorIndex := 6, attributes := #[] }, { accessFlags := 9, nameIndex := 45, descriptorIndex := 94, attributes := #[] }] 49 2 #[] #[])
  fields := #[]
  methods := #[k11m0, k11m1]
  instanceTypes := #[]
  staticTypes := #[]
  resolved := Array.replicate 184 none
  statics := none }

def pool12 : Array CpInfo := pool [(1, .class_ 2), (0, u "java/lang/Appendable"), (0, .class_ 4), (0, u "java/lang/Object")] 9

/-- java/lang/Appendable -/
def k12 : Class := { plain "java/lang/Appendable" (some 0) with
  accessFlags := 1537
  interfaces := #[]
  cf := some (fileOf pool12 1 #[] #[] 1537 3 #[] #[])
  fields := #[]
  methods := #[]
  instanceTypes := #[]
  staticTypes := #[]
  resolved := Array.replicate 14 none
  statics := none }

def pool13 : Array CpInfo := pool [(1, .class_ 2), (0, u "java/lang/String"), (0, .methodref 4 5), (0, .class_ 6), (0, .nameAndType 7 8), (0, u "java/lang/Object"), (0, u "<init>"), (0, u "()V"), (1, .class_ 12), (1, u "java/lang/AbstractStringBuilder"), (0, u "EMPTYVALUE"), (0, u "[B"), (0, .fieldref 10 16), (0, .nameAndType 17 14), (0, u "value"), (0, .fieldref 1 19), (0, .nameAndType 20 21), (0, u "COMPACT_STRINGS"), (0, u "Z"), (0, .fieldref 10 23), (0, .nameAndType 24 25), (0, u "coder"), (0, u "B"), (6, .methodref 1 33), (0, .nameAndType 34 35), (0, u "length"), (0, u "()I"), (0, .class_ 37), (0, u "java/lang/Integer"), (1, .integer 2147483647), (0, .methodref 1 41), (0, .nameAndType 24 42), (0, u "()B"), (2, u "append"), (0, u "(Ljava/lang/String;)Ljava/lang/AbstractStringBuilder;"), (1, .class_ 49), (0, u "java/lang/CharSequence"), (19, u "(Ljava/lang/String;)V"), (5, u "maybeLatin1"), (3, .fieldref 10 80), (0, .nameAndType 81 82), (0, u "count"), (0, u "I"), (0, .methodref 10 84), (0, .nameAndType 85 86), (0, u "isLatin1"), (0, u "()Z"), (13, .methodref 10 101), (0, .nameAndType 102 103), (0, u "ensureCapacityInternal"), (0, u "(I)V"), (0, .methodref 10 105), (0, .nameAndType 106 107), (0, u "newCapacity"), (0, u "(I)I"), (0, .methodref 109 110), (0, .class_ 111), (0, .nameAndType 112 113), (0, u "java/util/Arrays"), (0, u "copyOf"), (0, u "([BI)[B"), (0, .methodref 115 116), (0, .class_ 117), (0, .nameAndType 118 119), (0, u "jdk/internal/util/ArraysSupport"), (0, u "newLength"), (0, u "(III)I"), (68, u "getChars"), (19, .methodref 10 209), (0, .nameAndType 210 211), (0, u "putStringAt"), (0, u "(ILjava/lang/String;)V"), (5, u "inflateIfNeededFor"), (2, .nameAndType 221 222), (0, u "getBytes"), (0, u "([BIB)V"), (22, .methodref 36 246), (0, .nameAndType 247 107), (0, u "stringSize"), (0, .methodref 36 249), (0, .nameAndType 188 250), (0, u "(II[B)I"), (146, .methodref 10 398), (0, .nameAndType 217 69), (0, .methodref 1 220), (3, u "()[B"), (40, .class_ 445), (0, u "java/lang/Appendable"), (65, u "(I)Ljava/lang/AbstractStringBuilder;"), (40, u "getValue")] 56

def k13m0 : Method := { name := "<init>", desc := "()V", sig := { parameters := [], returnType := none }, accessFlags := 0, code := none }
def k13c1 : Code := { maxStack := 2, maxLocals := 2, code := jdk_68_method_2_code, exceptionTable := #[], attributes := #[] }
def k13m1 : Method := { name := "<init>", desc := "(I)V", sig := { parameters := [.int], returnType := none }, accessFlags := 0, code := some k13c1 }
def k13c2 : Code := { maxStack := 1, maxLocals := 1, code := jdk_68_method_6_code, exceptionTable := #[], attributes := #[] }
def k13m2 : Method := { name := "length", desc := "()I", sig := { parameters := [], returnType := some .int }, accessFlags := 1, code := some k13c2 }
def k13c3 : Code := { maxStack := 4, maxLocals := 3, code := jdk_68_method_9_code, exceptionTable := #[], attributes := #[] }
def k13m3 : Method := { name := "ensureCapacityInternal", desc := "(I)V", sig := { parameters := [.int], returnType := none }, accessFlags := 2, code := some k13c3 }
def k13c4 : Code := { maxStack := 5, maxLocals := 6, code := jdk_68_method_10_code, exceptionTable := #[], attributes := #[] }
def k13m4 : Method := { name := "newCapacity", desc := "(I)I", sig := { parameters := [.int], returnType := some .int }, accessFlags := 2, code := some k13c4 }
def k13c5 : Code := { maxStack := 3, maxLocals := 3, code := jdk_68_method_22_code, exceptionTable := #[], attributes := #[] }
def k13m5 : Method := { name := "append", desc := "(Ljava/lang/String;)Ljava/lang/AbstractStringBuilder;", sig := { parameters := [(.object "java/lang/String")], returnType := some (.object "java/lang/AbstractStringBuilder") }, accessFlags := 1, code := some k13c5 }
def k13c6 : Code := { maxStack := 4, maxLocals := 4, code := jdk_68_method_32_code, exceptionTable := #[], attributes := #[] }
def k13m6 : Method := { name := "append", desc := "(I)Ljava/lang/AbstractStringBuilder;", sig := { parameters := [.int], returnType := some (.object "java/lang/AbstractStringBuilder") }, accessFlags := 1, code := some k13c6 }
def k13c7 : Code := { maxStack := 1, maxLocals := 1, code := jdk_68_method_64_code, exceptionTable := #[], attributes := #[] }
def k13m7 : Method := { name := "getValue", desc := "()[B", sig := { parameters := [], returnType := some (.array .byte) }, accessFlags := 16, code := some k13c7 }
def k13c8 : Code := { maxStack := 1, maxLocals := 1, code := jdk_68_method_68_code, exceptionTable := #[], attributes := #[] }
def k13m8 : Method := { name := "isLatin1", desc := "()Z", sig := { parameters := [], returnType := some .boolean }, accessFlags := 16, code := some k13c8 }
def k13c9 : Code := { maxStack := 2, maxLocals := 2, code := jdk_68_method_71_code, exceptionTable := #[], attributes := #[] }
def k13m9 : Method := { name := "inflateIfNeededFor", desc := "(Ljava/lang/String;)V", sig := { parameters := [(.object "java/lang/String")], returnType := none }, accessFlags := 2, code := some k13c9 }
def k13c10 : Code := { maxStack := 4, maxLocals := 3, code := jdk_68_method_73_code, exceptionTable := #[], attributes := #[] }
def k13m10 : Method := { name := "putStringAt", desc := "(ILjava/lang/String;)V", sig := { parameters := [.int, (.object "java/lang/String")], returnType := none }, accessFlags := 2, code := some k13c10 }
/-- java/lang/AbstractStringBuilder -/
def k13 : Class := { plain "java/lang/AbstractStringBuilder" (some 0) with
  accessFlags := 1056
  interfaces := #[12, 4]
  cf := some (fileOf pool13 10 #[] #[{ accessFlags := 0, nameIndex := 7, descriptorIndex := 8, attributes := #[] }, { accessFlags := 0, nameIndex := 7, descriptorIndex := 103, attributes := #[] }, { accessFlags := 1, nameIndex := 34, descriptorIndex := 35, attributes := #[] }, { accessFlags := 2, nameIndex := 102, descriptorIndex := 103, attributes := #[] }, { accessFlags := 2, nameIndex := 106, descriptorIndex := 107, attributes := #[] }, { accessFlags := 1, nameIndex := 45, descriptorIndex := 46, attributes := #[] }, { accessFlags := 1, nameIndex := 45, descriptorIndex := 511, attributes := #[] }, { accessFlags := 16, nameIndex := 552, descriptorIndex := 403, attributes := #[] }, { accessFlags := 16, nameIndex := 85, descriptorIndex := 86, attributes := #[] }, { accessFlags := 2, nameIndex := 217, descriptorIndex := 69, attributes := #[] }, { accessFlags := 2, nameIndex := 210, descriptorIndex := 211, attributes := #[] }] 1056 4 #[444, 48] #[{ accessFlags := 0, nameIndex := 17, descriptorIndex := 14, attributes := #[] }, { accessFlags := 0, nameIndex := 24, descriptorIndex := 25, attributes := #[] }, { accessFlags := 0, nameIndex := 75, descriptorIndex := 21, attributes := #[] }, { accessFlags := 0, nameIndex := 81, descriptorIndex := 82, attributes := #[] }, { accessFlags := 26, nameIndex := 13, descriptorIndex := 14, attributes := #[] }])
  fields := #[{ name := "value", type := (.array .byte), accessFlags := 0, slot := 0, constantValue := 0 }, { name := "coder", type := .byte, accessFlags := 0, slot := 1, constantValue := 0 }, { name := "maybeLatin1", type := .boolean, accessFlags := 0, slot := 2, constantValue := 0 }, { name := "count", type := .int, accessFlags := 0, slot := 3, constantValue := 0 }, { name := "EMPTYVALUE", type := (.array .byte), accessFlags := 26, slot := 0, constantValue := 0 }]
  methods := #[k13m0, k13m1, k13m2, k13m3, k13m4, k13m5, k13m6, k13m7, k13m8, k13m9, k13m10]
  instanceTypes := #[(.array .byte), .byte, .boolean, .int]
  staticTypes := #[(.array .byte)]
  resolved := Array.replicate 609 none
  statics := none }

def pool14 : Array CpInfo := pool [(1, .methodref 2 3), (0, .class_ 4), (0, .nameAndType 5 6), (0, u "java/lang/AbstractStringBuilder"), (0, u "<init>"), (0, u "(I)V"), (11, .class_ 20), (1, u "java/lang/String"), (3, .class_ 26), (1, u "java/lang/StringBuilder"), (0, u "append"), (0, u "(Ljava/lang/String;)Ljava/lang/StringBuilder;"), (0, .methodref 2 30), (0, .nameAndType 27 31), (0, u "(Ljava/lang/String;)Ljava/lang/AbstractStringBuilder;"), (21, .methodref 2 54), (0, .nameAndType 27 55), (0, u "(I)Ljava/lang/AbstractStringBuilder;"), (81, .methodref 18 138), (0, .nameAndType 5 139), (0, u "(Ljava/lang/StringBuilder;)V"), (5, u "()V"), (10, u "()I"), (111, u "(I)Ljava/lang/StringBuilder;"), (74, .methodref 2 344), (0, .nameAndType 345 156), (0, u "length"), (3, .class_ 350), (0, u "java/lang/Appendable"), (0, .class_ 352), (0, u "java/io/Serializable"), (0, .class_ 354), (0, u "java/lang/Comparable"), (0, .class_ 356), (0, u "java/lang/CharSequence"), (0, u "serialVersionUID"), (0, u "J"), (40, u "toString"), (0, u "()Ljava/lang/String;")] 21

def k14c0 : Code := { maxStack := 2, maxLocals := 1, code := jdk_67_method_1_code, exceptionTable := #[], attributes := #[] }
def k14m0 : Method := { name := "<init>", desc := "()V", sig := { parameters := [], returnType := none }, accessFlags := 1, code := some k14c0 }
def k14c1 : Code := { maxStack := 2, maxLocals := 2, code := jdk_67_method_7_code, exceptionTable := #[], attributes := #[] }
def k14m1 : Method := { name := "append", desc := "(Ljava/lang/String;)Ljava/lang/StringBuilder;", sig := { parameters := [(.object "java/lang/String")], returnType := some (.object "java/lang/StringBuilder") }, accessFlags := 1, code := some k14c1 }
def k14c2 : Code := { maxStack := 2, maxLocals := 2, code := jdk_67_method_15_code, exceptionTable := #[], attributes := #[] }
def k14m2 : Method := { name := "append", desc := "(I)Ljava/lang/StringBuilder;", sig := { parameters := [.int], returnType := some (.object "java/lang/StringBuilder") }, accessFlags := 1, code := some k14c2 }
def k14c3 : Code := { maxStack := 3, maxLocals := 1, code := jdk_67_method_42_code, exceptionTable := #[], attributes := #[] }
def k14m3 : Method := { name := "toString", desc := "()Ljava/lang/String;", sig := { parameters := [], returnType := some (.object "java/lang/String") }, accessFlags := 1, code := some k14c3 }
def k14c4 : Code := { maxStack := 1, maxLocals := 1, code := jdk_67_method_93_code, exceptionTable := #[], attributes := #[] }
def k14m4 : Method := { name := "length", desc := "()I", sig := { parameters := [], returnType := some .int }, accessFlags := 4161, code := some k14c4 }
/-- java/lang/StringBuilder -/
def k14 : Class := { plain "java/lang/StringBuilder" (some 13) with
  accessFlags := 49
  interfaces := #[12, 2, 3, 4]
  cf := some (fileOf pool14 24 #[] #[{ accessFlags := 1, nameIndex := 5, descriptorIndex := 145, attributes := #[] }, { accessFlags := 1, nameIndex := 27, descriptorIndex := 28, attributes := #[] }, { accessFlags := 1, nameIndex := 27, descriptorIndex := 268, attributes := #[] }, { accessFlags := 1, nameIndex := 399, descriptorIndex := 400, attributes := #[] }, { accessFlags := 4161, nameIndex := 345, descriptorIndex := 156, attributes := #[] }] 49 2 #[349, 351, 353, 355] #[{ accessFlags := 24, nameIndex := 357, descriptorIndex := 358, attributes := #[] }])
  fields := #[{ name := "serialVersionUID", type := .long, accessFlags := 24, slot := 0, constantValue := 0 }]
  methods := #[k14m0, k14m1, k14m2, k14m3, k14m4]
  instanceTypes := #[(.array .byte), .byte, .boolean, .int]
  staticTypes := #[.long]
  resolved := Array.replicate 422 none
  statics := none }

def pool15 : Array CpInfo := pool [(9, u "<init>"), (6, .class_ 18), (1, u "java/lang/Object"), (0, u "()V"), (1, .class_ 23), (1, u "jdk/internal/util/ArraysSupport"), (0, u "LOG2_ARRAY_LONG_INDEX_SCALE"), (0, u "I"), (2, u "U"), (0, u "Ljdk/internal/misc/Unsafe;"), (8, u "BIG_ENDIAN"), (0, u "Z"), (8, u "LOG2_BYTE_BIT_SIZE"), (4, u "LOG2_ARRAY_INT_INDEX_SCALE"), (54, u "JLA"), (0, u "Ljdk/internal/access/JavaLangAccess;"), (11, u "LOG2_ARRAY_BOOLEAN_INDEX_SCALE"), (9, u "LOG2_ARRAY_BYTE_INDEX_SCALE"), (5, u "LOG2_ARRAY_CHAR_INDEX_SCALE"), (5, u "LOG2_ARRAY_SHORT_INDEX_SCALE"), (18, u "LOG2_ARRAY_FLOAT_INDEX_SCALE"), (24, u "LOG2_ARRAY_DOUBLE_INDEX_SCALE"), (6, .methodref 195 196), (0, .class_ 197), (0, .nameAndType 198 199), (0, u "java/lang/Math"), (0, u "max"), (0, u "(II)I"), (0, .integer 2147483639), (76, u "T_BOOLEAN"), (2, u "T_CHAR"), (1, u "T_FLOAT"), (1, u "T_DOUBLE"), (1, u "T_BYTE"), (1, u "T_SHORT"), (1, u "T_INT"), (1, u "T_LONG"), (1, u "SOFT_MAX_ARRAY_LENGTH"), (56, u "newLength"), (0, u "(III)I")] 25

def k15m0 : Method := { name := "<init>", desc := "()V", sig := { parameters := [], returnType := none }, accessFlags := 2, code := none }
def k15c1 : Code := { maxStack := 3, maxLocals := 4, code := jdk_48_method_27_code, exceptionTable := #[], attributes := #[] }
def k15m1 : Method := { name := "newLength", desc := "(III)I", sig := { parameters := [.int, .int, .int], returnType := some .int }, accessFlags := 9, code := some k15c1 }
/-- jdk/internal/util/ArraysSupport -/
def k15 : Class := { plain "jdk/internal/util/ArraysSupport" (some 0) with
  accessFlags := 33
  interfaces := #[]
  cf := some (fileOf pool15 21 #[] #[{ accessFlags := 2, nameIndex := 9, descriptorIndex := 19, attributes := #[] }, { accessFlags := 9, nameIndex := 351, descriptorIndex := 352, attributes := #[] }] 33 16 #[] #[{ accessFlags := 24, nameIndex := 28, descriptorIndex := 29, attributes := #[] }, { accessFlags := 26, nameIndex := 38, descriptorIndex := 39, attributes := #[] }, { accessFlags := 25, nameIndex := 121, descriptorIndex := 25, attributes := #[] }, { accessFlags := 25, nameIndex := 131, descriptorIndex := 25, attributes := #[] }, { accessFlags := 25, nameIndex := 137, descriptorIndex := 25, attributes := #[] }, { accessFlags := 25, nameIndex := 143, descriptorIndex := 25, attributes := #[] }, { accessFlags := 25, nameIndex := 53, descriptorIndex := 25, attributes := #[] }, { accessFlags := 25, nameIndex := 24, descriptorIndex := 25, attributes := #[] }, { accessFlags := 25, nameIndex := 162, descriptorIndex := 25, attributes := #[] }, { accessFlags := 25, nameIndex := 187, descriptorIndex := 25, attributes := #[] }, { accessFlags := 26, nameIndex := 48, descriptorIndex := 25, attributes := #[] }, { accessFlags := 25, nameIndex := 277, descriptorIndex := 25, attributes := #[] }, { accessFlags := 25, nameIndex := 280, descriptorIndex := 25, attributes := #[] }, { accessFlags := 25, nameIndex := 282, descriptorIndex := 25, attributes := #[] }, { accessFlags := 25, nameIndex := 284, descriptorIndex := 25, attributes := #[] }, { accessFlags := 25, nameIndex := 286, descriptorIndex := 25, attributes := #[] }, { accessFlags := 25, nameIndex := 288, descriptorIndex := 25, attributes := #[] }, { accessFlags := 25, nameIndex := 290, descriptorIndex := 25, attributes := #[] }, { accessFlags := 25, nameIndex := 292, descriptorIndex := 25, attributes := #[] }, { accessFlags := 26, nameIndex := 108, descriptorIndex := 109, attributes := #[] }, { accessFlags := 25, nameIndex := 294, descriptorIndex := 25, attributes := #[] }])
  fields := #[{ name := "U", type := (.object "jdk/internal/misc/Unsafe"), accessFlags := 24, slot := 0, constantValue := 0 }, { name := "BIG_ENDIAN", type := .boolean, accessFlags := 26, slot := 1, constantValue := 0 }, { name := "LOG2_ARRAY_BOOLEAN_INDEX_SCALE", type := .int, accessFlags := 25, slot := 2, constantValue := 0 }, { name := "LOG2_ARRAY_BYTE_INDEX_SCALE", type := .int, accessFlags := 25, slot := 3, constantValue := 0 }, { name := "LOG2_ARRAY_CHAR_INDEX_SCALE", type := .int, accessFlags := 25, slot := 4, constantValue := 0 }, { name := "LOG2_ARRAY_SHORT_INDEX_SCALE", type := .int, accessFlags := 25, slot := 5, constantValue := 0 }, { name := "LOG2_ARRAY_INT_INDEX_SCALE", type := .int, accessFlags := 25, slot := 6, constantValue := 0 }, { name := "LOG2_ARRAY_LONG_INDEX_SCALE", type := .int, accessFlags := 25, slot := 7, constantValue := 0 }, { name := "LOG2_ARRAY_FLOAT_INDEX_SCALE", type := .int, accessFlags := 25, slot := 8, constantValue := 0 }, { name := "LOG2_ARRAY_DOUBLE_INDEX_SCALE", type := .int, accessFlags := 25, slot := 9, constantValue := 0 }, { name := "LOG2_BYTE_BIT_SIZE", type := .int, accessFlags := 26, slot := 10, constantValue := 0 }, { name := "T_BOOLEAN", type := .int, accessFlags := 25, slot := 11, constantValue := 0 }, { name := "T_CHAR", type := .int, accessFlags := 25, slot := 12, constantValue := 0 }, { name := "T_FLOAT", type := .int, accessFlags := 25, slot := 13, constantValue := 0 }, { name := "T_DOUBLE", type := .int, accessFlags := 25, slot := 14, constantValue := 0 }, { name := "T_BYTE", type := .int, accessFlags := 25, slot := 15, constantValue := 0 }, { name := "T_SHORT", type := .int, accessFlags := 25, slot := 16, constantValue := 0 }, { name := "T_INT", type := .int, accessFlags := 25, slot := 17, constantValue := 0 }, { name := "T_LONG", type := .int, accessFlags := 25, slot := 18, constantValue := 0 }, { name := "JLA", type := (.object "jdk/internal/access/JavaLangAccess"), accessFlags := 26, slot := 19, constantValue := 0 }, { name := "SOFT_MAX_ARRAY_LENGTH", type := .int, accessFlags := 25, slot := 20, constantValue := 0 }]
  methods := #[k15m0, k15m1]
  instanceTypes := #[]
  staticTypes := #[(.object "jdk/internal/misc/Unsafe"), .boolean, .int, .int, .int, .int, .int, .int, .int, .int, .int, .int, .int, .int, .int, .int, .int, .int, .int, (.object "jdk/internal/access/JavaLangAccess"), .int]
  resolved := Array.replicate 378 none
  statics := none }

def pool16 : Array CpInfo := pool [(1, .class_ 2), (0, u "java/lang/Math"), (1, .class_ 6), (1, u "java/lang/Object"), (0, u "<init>"), (0, u "()V"), (89, .class_ 100), (1, u "java/lang/Math$RandomNumberGeneratorHolder"), (71, u "negativeZeroFloatBits"), (0, u "J"), (2, u "negativeZeroDoubleBits"), (21, u "max"), (2, u "min"), (43, u "$assertionsDisabled"), (0, u "Z"), (88, u "(II)I"), (2, u "twoToTheDoubleScaleDown"), (0, u "D"), (4, u "twoToTheDoubleScaleUp"), (9, u "E"), (3, u "PI"), (2, u "TAU"), (2, u "DEGREES_TO_RADIANS"), (0, u "RADIANS_TO_DEGREES")] 94

def k16m0 : Method := { name := "<init>", desc := "()V", sig := { parameters := [], returnType := none }, accessFlags := 2, code := none }
def k16c1 : Code := { maxStack := 2, maxLocals := 2, code := jdk_29_method_65_code, exceptionTable := #[], attributes := #[] }
def k16m1 : Method := { name := "max", desc := "(II)I", sig := { parameters := [.int, .int], returnType := some .int }, accessFlags := 9, code := some k16c1 }
def k16c2 : Code := { maxStack := 2, maxLocals := 2, code := jdk_29_method_69_code, exceptionTable := #[], attributes := #[] }
def k16m2 : Method := { name := "min", desc := "(II)I", sig := { parameters := [.int, .int], returnType := some .int }, accessFlags := 9, code := some k16c2 }
/-- java/lang/Math -/
def k16 : Class := { plain "java/lang/Math" (some 0) with
  accessFlags := 49
  interfaces := #[]
  cf := some (fileOf pool16 1 #[.nestMembers #[98]] #[{ accessFlags := 2, nameIndex := 7, descriptorIndex := 8, attributes := #[] }, { accessFlags := 9, nameIndex := 198, descriptorIndex := 335, attributes := #[] }, { accessFlags := 9, nameIndex := 201, descriptorIndex := 335, attributes := #[] }] 49 4 #[] #[{ accessFlags := 25, nameIndex := 354, descriptorIndex := 339, attributes := #[] }, { accessFlags := 25, nameIndex := 358, descriptorIndex := 339, attributes := #[] }, { accessFlags := 25, nameIndex := 361, descriptorIndex := 339, attributes := #[] }, { accessFlags := 26, nameIndex := 364, descriptorIndex := 339, attributes := #[] }, { accessFlags := 26, nameIndex := 365, descriptorIndex := 339, attributes := #[] }, { accessFlags := 26, nameIndex := 172, descriptorIndex := 173, attributes := #[] }, { accessFlags := 26, nameIndex := 176, descriptorIndex := 173, attributes := #[] }, { accessFlags := 8, nameIndex := 344, descriptorIndex := 339, attributes := #[] }, { accessFlags := 8, nameIndex := 338, descriptorIndex := 339, attributes := #[] }, { accessFlags := 4120, nameIndex := 245, descriptorIndex := 246, attributes := #[] }])
  fields := #[{ name := "E", type := .double, accessFlags := 25, slot := 0, constantValue := 0 }, { name := "PI", type := .double, accessFlags := 25, slot := 1, constantValue := 0 }, { name := "TAU", type := .double, accessFlags := 25, slot := 2, constantValue := 0 }, { name := "DEGREES_TO_RADIANS", type := .double, accessFlags := 26, slot := 3, constantValue := 0 }, { name := "RADIANS_TO_DEGREES", type := .double, accessFlags := 26, slot := 4, constantValue := 0 }, { name := "negativeZeroFloatBits", type := .long, accessFlags := 26, slot := 5, constantValue := 0 }, { name := "negativeZeroDoubleBits", type := .long, accessFlags := 26, slot := 6, constantValue := 0 }, { name := "twoToTheDoubleScaleUp", type := .double, accessFlags := 8, slot := 7, constantValue := 0 }, { name := "twoToTheDoubleScaleDown", type := .double, accessFlags := 8, slot := 8, constantValue := 0 }, { name := "$assertionsDisabled", type := .boolean, accessFlags := 4120, slot := 9, constantValue := 0 }]
  methods := #[k16m0, k16m1, k16m2]
  instanceTypes := #[]
  staticTypes := #[.double, .double, .double, .double, .double, .long, .long, .double, .double, .boolean]
  resolved := Array.replicate 460 none
  statics := none }

def pool17 : Array CpInfo := pool [(2, .class_ 4), (1, u "java/lang/Object"), (0, u "<init>"), (0, u "()V"), (7, .class_ 16), (1, u "java/util/Arrays"), (57, .class_ 76), (1, u "java/util/Arrays$NaturalOrder"), (36, .class_ 115), (1, u "java/util/Arrays$LegacyMergeSort"), (1, u "Z"), (21, u "copyOfRange"), (10, .methodref 151 152), (0, .class_ 153), (0, .nameAndType 154 155), (0, u "java/lang/System"), (0, u "arraycopy"), (0, u "(Ljava/lang/Object;ILjava/lang/Object;II)V"), (146, u "copyOf"), (1, .methodref 305 306), (0, .class_ 307), (0, .nameAndType 308 309), (0, u "java/lang/Math"), (0, u "min"), (0, u "(II)I"), (29, .methodref 14 340), (0, .nameAndType 341 342), (0, u "copyOfRangeByte"), (0, u "([BII)[B"), (0, .methodref 14 344), (0, .nameAndType 345 346), (0, u "checkLength"), (0, u "(II)V"), (28, .class_ 376), (0, u "java/util/Arrays$ArrayList"), (68, u "$assertionsDisabled"), (269, u "MIN_ARRAY_SORT_GRAN"), (0, u "I"), (2, u "INSERTIONSORT_THRESHOLD"), (149, u "([BI)[B"), (105, .class_ 976), (0, u "java/util/Arrays$ArrayItr")] 52

def k17m0 : Method := { name := "<init>", desc := "()V", sig := { parameters := [], returnType := none }, accessFlags := 2, code := none }
def k17c1 : Code := { maxStack := 6, maxLocals := 3, code := jdk_65_method_121_code, exceptionTable := #[], attributes := #[] }
def k17m1 : Method := { name := "copyOf", desc := "([BI)[B", sig := { parameters := [(.array .byte), .int], returnType := some (.array .byte) }, accessFlags := 9, code := some k17c1 }
def k17c2 : Code := { maxStack := 4, maxLocals := 2, code := jdk_65_method_131_code, exceptionTable := #[], attributes := #[] }
def k17m2 : Method := { name := "checkLength", desc := "(II)V", sig := { parameters := [.int, .int], returnType := none }, accessFlags := 10, code := some k17c2 }
def k17c3 : Code := { maxStack := 3, maxLocals := 3, code := jdk_65_method_132_code, exceptionTable := #[], attributes := #[] }
def k17m3 : Method := { name := "copyOfRange", desc := "([BII)[B", sig := { parameters := [(.array .byte), .int, .int], returnType := some (.array .byte) }, accessFlags := 9, code := some k17c3 }
def k17c4 : Code := { maxStack := 6, maxLocals := 5, code := jdk_65_method_133_code, exceptionTable := #[], attributes := #[] }
def k17m4 : Method := { name := "copyOfRangeByte", desc := "([BII)[B", sig := { parameters := [(.array .byte), .int, .int], returnType := some (.array .byte) }, accessFlags := 10, code := some k17c4 }
/-- java/util/Arrays -/
def k17 : Class := { plain "java/util/Arrays" (some 0) with
  accessFlags := 49
  interfaces := #[]
  cf := some (fileOf pool17 14 #[.nestMembers #[975, 375, 113, 74]] #[{ accessFlags := 2, nameIndex := 5, descriptorIndex := 6, attributes := #[] }, { accessFlags := 9, nameIndex := 302, descriptorIndex := 869, attributes := #[] }, { accessFlags := 10, nameIndex := 345, descriptorIndex := 346, attributes := #[] }, { accessFlags := 9, nameIndex := 139, descriptorIndex := 342, attributes := #[] }, { accessFlags := 10, nameIndex := 341, descriptorIndex := 342, attributes := #[] }] 49 2 #[] #[{ accessFlags := 26, nameIndex := 715, descriptorIndex := 716, attributes := #[] }, { accessFlags := 26, nameIndex := 719, descriptorIndex := 716, attributes := #[] }, { accessFlags := 4120, nameIndex := 445, descriptorIndex := 117, attributes := #[] }])
  fields := #[{ name := "MIN_ARRAY_SORT_GRAN", type := .int, accessFlags := 26, slot := 0, constantValue := 0 }, { name := "INSERTIONSORT_THRESHOLD", type := .int, accessFlags := 26, slot := 1, constantValue := 0 }, { name := "$assertionsDisabled", type := .boolean, accessFlags := 4120, slot := 2, constantValue := 0 }]
  methods := #[k17m0, k17m1, k17m2, k17m3, k17m4]
  instanceTypes := #[]
  staticTypes := #[.int, .int, .boolean]
  resolved := Array.replicate 1029 none
  statics := none }

def pool18 : Array CpInfo := pool [(2, .class_ 4), (1, u "java/lang/Object"), (0, u "<init>"), (0, u "()V"), (1, .class_ 10), (1, u "java/lang/System"), (0, u "allowSecurityManager"), (0, u "I"), (16, u "cons"), (0, u "Ljava/io/Console;"), (77, .class_ 110), (1, u "java/lang/System$CallersHolder"), (43, u "initialErrStream"), (0, u "Ljava/io/PrintStream;"), (19, u "security"), (0, u "Ljava/lang/SecurityManager;"), (31, .class_ 209), (0, u "java/lang/System$1"), (7, u "props"), (0, u "Ljava/util/Properties;"), (2, u "lineSeparator"), (0, u "Ljava/lang/String;"), (96, .class_ 321), (1, u "java/lang/System$LoggerFinder"), (5, .class_ 328), (0, u "java/lang/System$Logger"), (67, u "err"), (2, u "out"), (91, u "notSupportedJnuEncoding"), (15, u "in"), (17, u "initialIn"), (0, u "Ljava/io/InputStream;"), (35, u "bootLayer"), (0, u "Ljava/lang/ModuleLayer;"), (99, .class_ 664), (0, u "java/lang/System$2"), (9, u "NEVER"), (2, u "MAYBE"), (49, u "arraycopy"), (0, u "(Ljava/lang/Object;ILjava/lang/Object;II)V"), (72, .class_ 802), (0, u "java/lang/System$Logger$Level")] 31

def k18m0 : Method := { name := "<init>", desc := "()V", sig := { parameters := [], returnType := none }, accessFlags := 2, code := none }
def k18m1 : Method := { name := "arraycopy", desc := "(Ljava/lang/Object;ILjava/lang/Object;II)V", sig := { parameters := [(.object "java/lang/Object"), .int, (.object "java/lang/Object"), .int, .int], returnType := none }, accessFlags := 265, code := none }
/-- java/lang/System -/
def k18 : Class := { plain "java/lang/System" (some 0) with
  accessFlags := 49
  interfaces := #[]
  cf := some (fileOf pool18 8 #[.nestMembers #[319, 327, 801, 108, 663, 208]] #[{ accessFlags := 2, nameIndex := 5, descriptorIndex := 6, attributes := #[] }, { accessFlags := 265, nameIndex := 727, descriptorIndex := 728, attributes := #[] }] 49 2 #[] #[{ accessFlags := 25, nameIndex := 507, descriptorIndex := 526, attributes := #[] }, { accessFlags := 25, nameIndex := 399, descriptorIndex := 155, attributes := #[] }, { accessFlags := 25, nameIndex := 396, descriptorIndex := 155, attributes := #[] }, { accessFlags := 10, nameIndex := 525, descriptorIndex := 526, attributes := #[] }, { accessFlags := 26, nameIndex := 674, descriptorIndex := 12, attributes := #[] }, { accessFlags := 26, nameIndex := 677, descriptorIndex := 12, attributes := #[] }, { accessFlags := 10, nameIndex := 11, descriptorIndex := 12, attributes := #[] }, { accessFlags := 74, nameIndex := 175, descriptorIndex := 176, attributes := #[] }, { accessFlags := 10, nameIndex := 491, descriptorIndex := 222, attributes := #[] }, { accessFlags := 74, nameIndex := 29, descriptorIndex := 30, attributes := #[] }, { accessFlags := 74, nameIndex := 154, descriptorIndex := 155, attributes := #[] }, { accessFlags := 10, nameIndex := 217, descriptorIndex := 218, attributes := #[] }, { accessFlags := 10, nameIndex := 221, descriptorIndex := 222, attributes := #[] }, { accessFlags := 8, nameIndex := 562, descriptorIndex := 563, attributes := #[] }])
  fields := #[{ name := "in", type := (.object "java/io/InputStream"), accessFlags := 25, slot := 0, constantValue := 0 }, { name := "out", type := (.object "java/io/PrintStream"), accessFlags := 25, slot := 1, constantValue := 0 }, { name := "err", type := (.object "java/io/PrintStream"), accessFlags := 25, slot := 2, constantValue := 0 }, { name := "initialIn", type := (.object "java/io/InputStream"), accessFlags := 10, slot := 3, constantValue := 0 }, { name := "NEVER", type := .int, accessFlags := 26, slot := 4, constantValue := 0 }, { name := "MAYBE", type := .int, accessFlags := 26, slot := 5, constantValue := 0 }, { name := "allowSecurityManager", type := .int, accessFlags := 10, slot := 6, constantValue := 0 }, { name := "security", type := (.object "java/lang/SecurityManager"), accessFlags := 74, slot := 7, constantValue := 0 }, { name := "notSupportedJnuEncoding", type := (.object "java/lang/String"), accessFlags := 10, slot := 8, constantValue := 0 }, { name := "cons", type := (.object "java/io/Console"), accessFlags := 74, slot := 9, constantValue := 0 }, { name := "initialErrStream", type := (.object "java/io/PrintStream"), accessFlags := 74, slot := 10, constantValue := 0 }, { name := "props", type := (.object "java/util/Properties"), accessFlags := 10, slot := 11, constantValue := 0 }, { name := "lineSeparator", type := (.object "java/lang/String"), accessFlags := 10, slot := 12, constantValue := 0 }, { name := "bootLayer", type := (.object "java/lang/ModuleLayer"), accessFlags := 8, slot := 13, constantValue := 0 }]
  methods := #[k18m0, k18m1]
  instanceTypes := #[]
  staticTypes := #[(.object "java/io/InputStream"), (.object "java/io/PrintStream"), (.object "java/io/PrintStream"), (.object "java/io/InputStream"), .int, .int, .int, (.object "java/lang/SecurityManager"), (.object "java/lang/String"), (.object "java/io/Console"), (.object "java/io/PrintStream"), (.object "java/util/Properties"), (.object "java/lang/String"), (.object "java/lang/ModuleLayer")]
  resolved := Array.replicate 834 none
  statics := none }

def pool19 : Array CpInfo := pool [(2, .class_ 4), (1, u "java/lang/Object"), (0, u "<init>"), (0, u "()V"), (1, .class_ 10), (1, u "java/lang/Number"), (2, .class_ 14), (0, u "java/io/Serializable"), (0, u "serialVersionUID"), (0, u "J")] 20

def k19m0 : Method := { name := "<init>", desc := "()V", sig := { parameters := [], returnType := none }, accessFlags := 1, code := none }
/-- java/lang/Number -/
def k19 : Class := { plain "java/lang/Number" (some 0) with
  accessFlags := 1057
  interfaces := #[2]
  cf := some (fileOf pool19 8 #[] #[{ accessFlags := 1, nameIndex := 5, descriptorIndex := 6, attributes := #[] }] 1057 2 #[13] #[{ accessFlags := 26, nameIndex := 15, descriptorIndex := 16, attributes := #[] }])
  fields := #[{ name := "serialVersionUID", type := .long, accessFlags := 26, slot := 0, constantValue := 0 }]
  methods := #[k19m0]
  instanceTypes := #[]
  staticTypes := #[.long]
  resolved := Array.replicate 37 none
  statics := none }

def pool20 : Array CpInfo := pool [(1, .class_ 2), (0, u "java/lang/Integer"), (16, u "digits"), (0, u "[C"), (33, u "(I)I"), (19, u "stringSize"), (2, u "getChars"), (0, u "(II[B)I"), (4, .fieldref 1 84), (0, .nameAndType 85 86), (0, u "DigitOnes"), (0, u "[B"), (0, .fieldref 1 88), (0, .nameAndType 89 86), (0, u "DigitTens"), (99, .class_ 190), (0, u "java/lang/Integer$IntegerCache"), (3, u "I"), (8, .class_ 204), (0, u "java/lang/Number"), (2, u "value"), (94, u "TYPE"), (0, u "Ljava/lang/Class;"), (0, .class_ 305), (0, u "java/lang/Comparable"), (0, .class_ 307), (0, u "java/lang/constant/Constable"), (0, .class_ 309), (0, u "java/lang/constant/ConstantDesc"), (0, u "MIN_VALUE"), (1, u "MAX_VALUE"), (3, u "SIZE"), (1, u "BYTES"), (1, u "serialVersionUID"), (0, u "J")] 131

def k20c0 : Code := { maxStack := 4, maxLocals := 7, code := jdk_33_method_12_code, exceptionTable := #[], attributes := #[] }
def k20m0 : Method := { name := "getChars", desc := "(II[B)I", sig := { parameters := [.int, .int, (.array .byte)], returnType := some .int }, accessFlags := 8, code := some k20c0 }
def k20c1 : Code := { maxStack := 2, maxLocals := 4, code := jdk_33_method_13_code, exceptionTable := #[], attributes := #[] }
def k20m1 : Method := { name := "stringSize", desc := "(I)I", sig := { parameters := [.int], returnType := some .int }, accessFlags := 8, code := some k20c1 }
/-- java/lang/Integer -/
def k20 : Class := { plain "java/lang/Integer" (some 19) with
  accessFlags := 49
  interfaces := #[3, 5, 6]
  cf := some (fileOf pool20 1 #[.nestMembers #[189]] #[{ accessFlags := 8, nameIndex := 77, descriptorIndex := 78, attributes := #[] }, { accessFlags := 8, nameIndex := 74, descriptorIndex := 54, attributes := #[] }] 49 203 #[304, 306, 308] #[{ accessFlags := 25, nameIndex := 310, descriptorIndex := 194, attributes := #[] }, { accessFlags := 25, nameIndex := 312, descriptorIndex := 194, attributes := #[] }, { accessFlags := 25, nameIndex := 302, descriptorIndex := 303, attributes := #[] }, { accessFlags := 24, nameIndex := 19, descriptorIndex := 20, attributes := #[] }, { accessFlags := 24, nameIndex := 89, descriptorIndex := 86, attributes := #[] }, { accessFlags := 24, nameIndex := 85, descriptorIndex := 86, attributes := #[] }, { accessFlags := 18, nameIndex := 207, descriptorIndex := 194, attributes := #[] }, { accessFlags := 25, nameIndex := 316, descriptorIndex := 194, attributes := #[] }, { accessFlags := 25, nameIndex := 318, descriptorIndex := 194, attributes := #[] }, { accessFlags := 26, nameIndex := 320, descriptorIndex := 321, attributes := #[] }])
  fields := #[{ name := "MIN_VALUE", type := .int, accessFlags := 25, slot := 0, constantValue := 0 }, { name := "MAX_VALUE", type := .int, accessFlags := 25, slot := 1, constantValue := 0 }, { name := "TYPE", type := (.object "java/lang/Class"), accessFlags := 25, slot := 2, constantValue := 0 }, { name := "digits", type := (.array .char), accessFlags := 24, slot := 3, constantValue := 0 }, { name := "DigitTens", type := (.array .byte), accessFlags := 24, slot := 4, constantValue := 0 }, { name := "DigitOnes", type := (.array .byte), accessFlags := 24, slot := 5, constantValue := 0 }, { name := "value", type := .int, accessFlags := 18, slot := 0, constantValue := 0 }, { name := "SIZE", type := .int, accessFlags := 25, slot := 6, constantValue := 0 }, { name := "BYTES", type := .int, accessFlags := 25, slot := 7, constantValue := 0 }, { name := "serialVersionUID", type := .long, accessFlags := 26, slot := 8, constantValue := 0 }]
  methods := #[k20m0, k20m1]
  instanceTypes := #[.int]
  staticTypes := #[.int, .int, (.object "java/lang/Class"), (.array .char), (.array .byte), (.array .byte), .int, .int, .long]
  resolved := Array.replicate 453 none
  statics := some 1 }

def pool21 : Array CpInfo := pool [(4, .class_ 6), (1, u "java/lang/Object"), (0, u "<init>"), (0, u "()V"), (5, .class_ 16), (1, u "java/lang/StringLatin1"), (104, u "$assertionsDisabled"), (0, u "Z"), (98, .class_ 223), (1, u "java/lang/StringLatin1$LinesSpliterator"), (57, u "equals"), (0, u "([B[B)Z"), (107, .class_ 391), (0, u "java/lang/StringLatin1$CharsSpliterator")] 3

def k21m0 : Method := { name := "<init>", desc := "()V", sig := { parameters := [], returnType := none }, accessFlags := 0, code := none }
def k21c1 : Code := { maxStack := 3, maxLocals := 3, code := jdk_43_method_13_code, exceptionTable := #[], attributes := #[] }
def k21m1 : Method := { name := "equals", desc := "([B[B)Z", sig := { parameters := [(.array .byte), (.array .byte)], returnType := some .boolean }, accessFlags := 9, code := some k21c1 }
/-- java/lang/StringLatin1 -/
def k21 : Class := { plain "java/lang/StringLatin1" (some 0) with
  accessFlags := 48
  interfaces := #[]
  cf := some (fileOf pool21 14 #[.nestMembers #[390, 221]] #[{ accessFlags := 0, nameIndex := 7, descriptorIndex := 8, attributes := #[] }, { accessFlags := 9, nameIndex := 281, descriptorIndex := 282, attributes := #[] }] 48 4 #[] #[{ accessFlags := 4120, nameIndex := 121, descriptorIndex := 122, attributes := #[] }])
  fields := #[{ name := "$assertionsDisabled", type := .boolean, accessFlags := 4120, slot := 0, constantValue := 0 }]
  methods := #[k21m0, k21m1]
  instanceTypes := #[]
  staticTypes := #[.boolean]
  resolved := Array.replicate 395 none
  statics := none }

def pool22 : Array CpInfo := pool [(2, .class_ 4), (1, u "java/lang/Object"), (0, u "<init>"), (0, u "()V"), (17, .class_ 26), (1, u "jdk/internal/util/Preconditions"), (28, .class_ 56), (0, u "jdk/internal/util/Preconditions$4"), (57, .class_ 115), (0, u "jdk/internal/util/Preconditions$1"), (7, u "SIOOBE_FORMATTER"), (0, u "Ljava/util/function/BiFunction;"), (0, .class_ 126), (0, u "jdk/internal/util/Preconditions$2"), (3, u "AIOOBE_FORMATTER"), (0, .class_ 132), (0, u "jdk/internal/util/Preconditions$3"), (3, u "IOOBE_FORMATTER")] 57

def k22m0 : Method := { name := "<init>", desc := "()V", sig := { parameters := [], returnType := none }, accessFlags := 1, code := none }
/-- jdk/internal/util/Preconditions -/
def k22 : Class := { plain "jdk/internal/util/Preconditions" (some 0) with
  accessFlags := 33
  interfaces := #[]
  cf := some (fileOf pool22 24 #[.nestMembers #[55, 131, 125, 114]] #[{ accessFlags := 1, nameIndex := 5, descriptorIndex := 6, attributes := #[] }] 33 2 #[] #[{ accessFlags := 25, nameIndex := 123, descriptorIndex := 124, attributes := #[] }, { accessFlags := 25, nameIndex := 130, descriptorIndex := 124, attributes := #[] }, { accessFlags := 25, nameIndex := 136, descriptorIndex := 124, attributes := #[] }])
  fields := #[{ name := "SIOOBE_FORMATTER", type := (.object "java/util/function/BiFunction"), accessFlags := 25, slot := 0, constantValue := 0 }, { name := "AIOOBE_FORMATTER", type := (.object "java/util/function/BiFunction"), accessFlags := 25, slot := 1, constantValue := 0 }, { name := "IOOBE_FORMATTER", type := (.object "java/util/function/BiFunction"), accessFlags := 25, slot := 2, constantValue := 0 }]
  methods := #[k22m0]
  instanceTypes := #[]
  staticTypes := #[(.object "java/util/function/BiFunction"), (.object "java/util/function/BiFunction"), (.object "java/util/function/BiFunction")]
  resolved := Array.replicate 194 none
  statics := some 2 }

def pool23 : Array CpInfo := pool [(1, u "java/lang/Cloneable"), (0, .class_ 1), (0, u "java/lang/Object"), (0, .class_ 3)] 3

/-- java/lang/Cloneable -/
def k23 : Class := { plain "java/lang/Cloneable" (some 0) with
  accessFlags := 1537
  interfaces := #[]
  cf := some (fileOf pool23 2 #[] #[] 1537 4 #[] #[])
  fields := #[]
  methods := #[]
  instanceTypes := #[]
  staticTypes := #[]
  resolved := Array.replicate 8 none
  statics := none }

/-- the primitive byte -/
def k24 : Class := { plain "byte" none with kind := .primitive 'B', accessFlags := 0x411 }
/-- [B -/
def k25 : Class := { plain "[B" (some 0) with kind := .array 24 .byte, interfaces := #[23, 2], accessFlags := 1041 }

/-- the primitive char -/
def k26 : Class := { plain "char" none with kind := .primitive 'C', accessFlags := 0x411 }
/-- [C -/
def k27 : Class := { plain "[C" (some 0) with kind := .array 26 .char, interfaces := #[23, 2], accessFlags := 1041 }

/-- the primitive int -/
def k28 : Class := { plain "int" none with kind := .primitive 'I', accessFlags := 0x411 }
/-- [I -/
def k29 : Class := { plain "[I" (some 0) with kind := .array 28 .int, interfaces := #[23, 2], accessFlags := 1041 }

def heap : Heap := #[{ cls := 7, slots := #[.long 0, .int 1, .null, .int 0, .null, .int 0, .int 0], vm := .statics 7 },
  { cls := 20, slots := #[.int 0, .int 0, .null, .null, .ref 4, .ref 3, .int 0, .int 0, .long 0], vm := .statics 20 },
  { cls := 22, slots := #[.null, .null, .null], vm := .statics 22 },
  { cls := 25, slots := #[.int 48, .int 49, .int 50, .int 51, .int 52, .int 53, .int 54, .int 55, .int 56, .int 57, .int 48, .int 49, .int 50, .int 51, .int 52, .int 53, .int 54, .int 55, .int 56, .int 57, .int 48, .int 49, .int 50, .int 51, .int 52, .int 53, .int 54, .int 55, .int 56, .int 57, .int 48, .int 49, .int 50, .int 51, .int 52, .int 53, .int 54, .int 55, .int 56, .int 57, .int 48, .int 49, .int 50, .int 51, .int 52, .int 53, .int 54, .int 55, .int 56, .int 57, .int 48, .int 49, .int 50, .int 51, .int 52, .int 53, .int 54, .int 55, .int 56, .int 57, .int 48, .int 49, .int 50, .int 51, .int 52, .int 53, .int 54, .int 55, .int 56, .int 57, .int 48, .int 49, .int 50, .int 51, .int 52, .int 53, .int 54, .int 55, .int 56, .int 57, .int 48, .int 49, .int 50, .int 51, .int 52, .int 53, .int 54, .int 55, .int 56, .int 57, .int 48, .int 49, .int 50, .int 51, .int 52, .int 53, .int 54, .int 55, .int 56, .int 57], vm := .none },
  { cls := 25, slots := #[.int 48, .int 48, .int 48, .int 48, .int 48, .int 48, .int 48, .int 48, .int 48, .int 48, .int 49, .int 49, .int 49, .int 49, .int 49, .int 49, .int 49, .int 49, .int 49, .int 49, .int 50, .int 50, .int 50, .int 50, .int 50, .int 50, .int 50, .int 50, .int 50, .int 50, .int 51, .int 51, .int 51, .int 51, .int 51, .int 51, .int 51, .int 51, .int 51, .int 51, .int 52, .int 52, .int 52, .int 52, .int 52, .int 52, .int 52, .int 52, .int 52, .int 52, .int 53, .int 53, .int 53, .int 53, .int 53, .int 53, .int 53, .int 53, .int 53, .int 53, .int 54, .int 54, .int 54, .int 54, .int 54, .int 54, .int 54, .int 54, .int 54, .int 54, .int 55, .int 55, .int 55, .int 55, .int 55, .int 55, .int 55, .int 55, .int 55, .int 55, .int 56, .int 56, .int 56, .int 56, .int 56, .int 56, .int 56, .int 56, .int 56, .int 56, .int 57, .int 57, .int 57, .int 57, .int 57, .int 57, .int 57, .int 57, .int 57, .int 57], vm := .none }]
def classes : Array Class := #[k0, k1, k2, k3, k4, k5, k6, k7, k8, k9, k10, k11, k12, k13, k14, k15, k16, k17, k18, k19, k20, k21, k22, k23, k24, k25, k26, k27, k28, k29]
def interned : List (Array UInt16 × Addr) := []
def slotsUsed : Nat := 219
def theMethod : MethodId := ⟨1, 1⟩
def args0 : Array Value := #[.int 1, .int 2, .int 3]
def aboutOver (below : List Frame) : State where
  vm := { classes := classes, interned := interned.toArray }
  heap := heap
  slotsUsed := slotsUsed
  threads := #[{ frames := .invoking theMethod args0 :: below }]
def below0 : List Frame := [.native { method := ⟨0, 0⟩, args := #[] }]
def about1 : State := aboutOver below0
def p0 : Program := .bare "" "" ""
def e0 : Env := launch0.env 0 0 0
theorem w_frames : about1.frames = Frame.invoking theMethod args0 :: below0 := rfl
set_option maxRecDepth 65536 in
theorem w_args : argsFit about1.vm theMethod args0 = true := by decide +kernel
set_option maxRecDepth 65536 in
theorem w_heap : heapFits about1 = true := by decide +kernel
set_option maxRecDepth 65536 in
theorem w_runnable : about1.curStatus? = some .runnable := by decide +kernel
set_option maxRecDepth 65536 in
theorem w_alone : about1.alone = true := by decide +kernel
set_option maxRecDepth 65536 in
theorem w_named : about1.methodNamed? x = some theMethod := by decide +kernel
set_option maxRecDepth 65536 in
theorem w_hears : about1.hears theMethod below0 = true := by decide +kernel
set_option maxRecDepth 65536 in
theorem w_ripe : about1.ripe theMethod args0 below0 = true := by decide +kernel
theorem w_running : about1.status = .running := rfl
set_option maxRecDepth 65536 in
theorem w_room : about1.hasRoom e0.platform room_1 = true :=
  launch0.hasRoom_least _ room_1 (by decide +kernel) (by decide +kernel) (by decide +kernel) (by decide +kernel) (by decide +kernel) (by decide +kernel)
theorem allAtoms_all (ts : List Jvm.Cond) (a : Array Jvm.Value) (st : Jvm.State) : (allAtoms ts).before a st = ts.all (fun c => c.before a st) := by
  induction ts with
  | nil => rfl
  | cons c t ih =>
    show (Jvm.Cond.and c (allAtoms t)).before a st = _
    rw [Jvm.Cond.before_and, ih, List.all_cons]
def words1 : List Jvm.Cond := Jvm.Cond.code x code maxLocals ret :: tables_1
/-- a 'code' word, met by the world's own term for the bytes: nothing is compared byte by byte -/
theorem code_word {y : MethodName} {bytes : ByteArray} {mx : Nat} {rt : Option FieldType} {a : Array Value} {s : State} {m : MethodId} {meth : Method} {c : Code} (h1 : s.methodNamed? y = some m) (h2 : s.vm.method? m = some meth) (h3 : meth.code = some c) (h4 : c.code = bytes)
    (h5 : (c.maxLocals == mx && c.exceptionTable.isEmpty && decide (c.maxStack ≤ mostOperands) && decide (meth.sig.returnType = rt) && !meth.locks && decide (parseMethodDescriptor y.desc = some meth.sig)) = true) : (Jvm.Cond.code y bytes mx rt).before a s = true := by
  simp only [Bool.and_eq_true, beq_iff_eq, Bool.not_eq_true', decide_eq_true_eq] at h5
  obtain ⟨⟨⟨⟨⟨g1, g2⟩, g3⟩, g4⟩, g5⟩, g6⟩ := h5
  simp [Cond.before, Cond.holds, Cond.value, h1, h2, h3, h4, g1, g2, g3, g4, g5, g6]
def isCode : Jvm.Cond → Bool
  | .code _ _ _ _ => true
  | _ => false
theorem all_split {L : List Jvm.Cond} {P : Jvm.Cond → Bool} (h1 : L.all (fun c => isCode c || P c) = true) (h2 : ∀ c ∈ L.filter isCode, P c = true) : L.all P = true := by
  refine List.all_eq_true.mpr fun c hc => ?_
  have h := List.all_eq_true.mp h1 c hc
  rcases Bool.eq_false_or_eq_true (isCode c) with hi | hi
  · exact h2 c (List.mem_filter.mpr ⟨hc, hi⟩)
  · simpa [hi] using h
set_option maxRecDepth 65536 in
theorem w_c0 : (Jvm.Cond.code x code maxLocals ret).before args0 about1 = true := code_word (m := ⟨1, 1⟩) (meth := k1m1) (c := k1c1) (by decide +kernel) rfl rfl rfl (by decide +kernel)
set_option maxRecDepth 65536 in
theorem w_c1 : (Jvm.Cond.code ({ cls := "java/lang/String", name := "<init>", desc := "([C)V" } : Jvm.MethodName) jdk_42_method_3_code (2 : Nat) (Option.none : Option Jvm.ClassFile.FieldType)).before args0 about1 = true := code_word (m := ⟨7, 1⟩) (meth := k7m1) (c := k7c1) (by decide +kernel) rfl rfl rfl (by decide +kernel)
set_option maxRecDepth 65536 in
theorem w_c2 : (Jvm.Cond.code ({ cls := "java/lang/String", name := "<init>", desc := "([CIILjava/lang/Void;)V" } : Jvm.MethodName) jdk_42_method_149_code (6 : Nat) (Option.none : Option Jvm.ClassFile.FieldType)).before args0 about1 = true := code_word (m := ⟨7, 7⟩) (meth := k7m7) (c := k7c7) (by decide +kernel) rfl rfl rfl (by decide +kernel)
set_option maxRecDepth 65536 in
theorem w_c3 : (Jvm.Cond.code ({ cls := "java/lang/Object", name := "<init>", desc := "()V" } : Jvm.MethodName) object_method_1_code (1 : Nat) (Option.none : Option Jvm.ClassFile.FieldType)).before args0 about1 = true := code_word (m := ⟨0, 0⟩) (meth := k0m0) (c := k0c0) (by decide +kernel) rfl rfl rfl (by decide +kernel)
set_option maxRecDepth 65536 in
theorem w_c4 : (Jvm.Cond.code ({ cls := "java/lang/StringUTF16", name := "compress", desc := "([CII)[B" } : Jvm.MethodName) jdk_52_method_16_code (6 : Nat) (Option.some (Jvm.ClassFile.FieldType.array Jvm.ClassFile.FieldType.byte))).before args0 about1 = true := code_word (m := ⟨8, 2⟩) (meth := k8m2) (c := k8c2) (by decide +kernel) rfl rfl rfl (by decide +kernel)
set_option maxRecDepth 65536 in
theorem w_c5 : (Jvm.Cond.code ({ cls := "java/lang/StringUTF16", name := "compress", desc := "([CI[BII)I" } : Jvm.MethodName) jdk_52_method_21_code (7 : Nat) (Option.some Jvm.ClassFile.FieldType.int)).before args0 about1 = true := code_word (m := ⟨8, 3⟩) (meth := k8m3) (c := k8c3) (by decide +kernel) rfl rfl rfl (by decide +kernel)
set_option maxRecDepth 65536 in
theorem w_c6 : (Jvm.Cond.code ({ cls := "java/lang/StringUTF16", name := "coderFromArrayLen", desc := "([BI)B" } : Jvm.MethodName) jdk_52_method_15_code (2 : Nat) (Option.some Jvm.ClassFile.FieldType.byte)).before args0 about1 = true := code_word (m := ⟨8, 1⟩) (meth := k8m1) (c := k8c1) (by decide +kernel) rfl rfl rfl (by decide +kernel)
set_option maxRecDepth 65536 in
theorem w_c7 : (Jvm.Cond.code ({ cls := "com/example/rebalance/rebalance/MessageQueueHashKeyPinLaw", name := "digits", desc := "(I)I" } : Jvm.MethodName) method_4_code (1 : Nat) (Option.some Jvm.ClassFile.FieldType.int)).before args0 about1 = true := code_word (m := ⟨1, 3⟩) (meth := k1m3) (c := k1c3) (by decide +kernel) rfl rfl rfl (by decide +kernel)
set_option maxRecDepth 65536 in
theorem w_c8 : (Jvm.Cond.code ({ cls := "com/example/rebalance/rebalance/MessageQueueHashKeyPinLaw", name := "mk", desc := "(I)[C" } : Jvm.MethodName) method_5_code (1 : Nat) (Option.some (Jvm.ClassFile.FieldType.array Jvm.ClassFile.FieldType.char))).before args0 about1 = true := code_word (m := ⟨1, 4⟩) (meth := k1m4) (c := k1c4) (by decide +kernel) rfl rfl rfl (by decide +kernel)
set_option maxRecDepth 65536 in
theorem w_c9 : (Jvm.Cond.code ({ cls := "com/example/rebalance/rebalance/MessageQueueHashKeyPinLaw", name := "dig", desc := "(II)C" } : Jvm.MethodName) method_3_code (2 : Nat) (Option.some Jvm.ClassFile.FieldType.char)).before args0 about1 = true := code_word (m := ⟨1, 2⟩) (meth := k1m2) (c := k1c2) (by decide +kernel) rfl rfl rfl (by decide +kernel)
set_option maxRecDepth 65536 in
theorem w_c10 : (Jvm.Cond.code ({ cls := "com/example/rebalance/rebalance/MessageQueue", name := "<init>", desc := "(Ljava/lang/String;Ljava/lang/String;I)V" } : Jvm.MethodName) prog_2_method_1_code (4 : Nat) (Option.none : Option Jvm.ClassFile.FieldType)).before args0 about1 = true := code_word (m := ⟨10, 0⟩) (meth := k10m0) (c := k10c0) (by decide +kernel) rfl rfl rfl (by decide +kernel)
set_option maxRecDepth 65536 in
theorem w_c11 : (Jvm.Cond.code ({ cls := "java/lang/Record", name := "<init>", desc := "()V" } : Jvm.MethodName) jdk_30_method_1_code (1 : Nat) (Option.none : Option Jvm.ClassFile.FieldType)).before args0 about1 = true := code_word (m := ⟨9, 0⟩) (meth := k9m0) (c := k9c0) (by decide +kernel) rfl rfl rfl (by decide +kernel)
set_option maxRecDepth 65536 in
theorem w_c12 : (Jvm.Cond.code ({ cls := "java/util/Objects", name := "requireNonNull", desc := "(Ljava/lang/Object;Ljava/lang/String;)Ljava/lang/Object;" } : Jvm.MethodName) jdk_31_method_11_code (2 : Nat) (Option.some (Jvm.ClassFile.FieldType.object "java/lang/Object"))).before args0 about1 = true := code_word (m := ⟨11, 1⟩) (meth := k11m1) (c := k11c1) (by decide +kernel) rfl rfl rfl (by decide +kernel)
set_option maxRecDepth 65536 in
theorem w_c13 : (Jvm.Cond.code ({ cls := "java/lang/String", name := "isEmpty", desc := "()Z" } : Jvm.MethodName) jdk_42_method_55_code (1 : Nat) (Option.some Jvm.ClassFile.FieldType.boolean)).before args0 about1 = true := code_word (m := ⟨7, 4⟩) (meth := k7m4) (c := k7c4) (by decide +kernel) rfl rfl rfl (by decide +kernel)
set_option maxRecDepth 65536 in
theorem w_c14 : (Jvm.Cond.code ({ cls := "com/example/rebalance/rebalance/MessageQueue", name := "hashKey", desc := "()Ljava/lang/String;" } : Jvm.MethodName) prog_2_method_2_code (1 : Nat) (Option.some (Jvm.ClassFile.FieldType.object "java/lang/String"))).before args0 about1 = true := code_word (m := ⟨10, 1⟩) (meth := k10m1) (c := k10c1) (by decide +kernel) rfl rfl rfl (by decide +kernel)
set_option maxRecDepth 65536 in
theorem w_c15 : (Jvm.Cond.code ({ cls := "java/lang/StringBuilder", name := "<init>", desc := "()V" } : Jvm.MethodName) jdk_67_method_1_code (1 : Nat) (Option.none : Option Jvm.ClassFile.FieldType)).before args0 about1 = true := code_word (m := ⟨14, 0⟩) (meth := k14m0) (c := k14c0) (by decide +kernel) rfl rfl rfl (by decide +kernel)
set_option maxRecDepth 65536 in
theorem w_c16 : (Jvm.Cond.code ({ cls := "java/lang/AbstractStringBuilder", name := "<init>", desc := "(I)V" } : Jvm.MethodName) jdk_68_method_2_code (2 : Nat) (Option.none : Option Jvm.ClassFile.FieldType)).before args0 about1 = true := code_word (m := ⟨13, 1⟩) (meth := k13m1) (c := k13c1) (by decide +kernel) rfl rfl rfl (by decide +kernel)
set_option maxRecDepth 65536 in
theorem w_c17 : (Jvm.Cond.code ({ cls := "java/lang/StringBuilder", name := "append", desc := "(Ljava/lang/String;)Ljava/lang/StringBuilder;" } : Jvm.MethodName) jdk_67_method_7_code (2 : Nat) (Option.some (Jvm.ClassFile.FieldType.object "java/lang/StringBuilder"))).before args0 about1 = true := code_word (m := ⟨14, 1⟩) (meth := k14m1) (c := k14c1) (by decide +kernel) rfl rfl rfl (by decide +kernel)
set_option maxRecDepth 65536 in
theorem w_c18 : (Jvm.Cond.code ({ cls := "java/lang/AbstractStringBuilder", name := "append", desc := "(Ljava/lang/String;)Ljava/lang/AbstractStringBuilder;" } : Jvm.MethodName) jdk_68_method_22_code (3 : Nat) (Option.some (Jvm.ClassFile.FieldType.object "java/lang/AbstractStringBuilder"))).before args0 about1 = true := code_word (m := ⟨13, 5⟩) (meth := k13m5) (c := k13c5) (by decide +kernel) rfl rfl rfl (by decide +kernel)
set_option maxRecDepth 65536 in
theorem w_c19 : (Jvm.Cond.code ({ cls := "java/lang/String", name := "length", desc := "()I" } : Jvm.MethodName) jdk_42_method_54_code (1 : Nat) (Option.some Jvm.ClassFile.FieldType.int)).before args0 about1 = true := code_word (m := ⟨7, 3⟩) (meth := k7m3) (c := k7c3) (by decide +kernel) rfl rfl rfl (by decide +kernel)
set_option maxRecDepth 65536 in
theorem w_c20 : (Jvm.Cond.code ({ cls := "java/lang/String", name := "coder", desc := "()B" } : Jvm.MethodName) jdk_42_method_152_code (1 : Nat) (Option.some Jvm.ClassFile.FieldType.byte)).before args0 about1 = true := code_word (m := ⟨7, 9⟩) (meth := k7m9) (c := k7c9) (by decide +kernel) rfl rfl rfl (by decide +kernel)
set_option maxRecDepth 65536 in
theorem w_c21 : (Jvm.Cond.code ({ cls := "java/lang/AbstractStringBuilder", name := "ensureCapacityInternal", desc := "(I)V" } : Jvm.MethodName) jdk_68_method_9_code (3 : Nat) (Option.none : Option Jvm.ClassFile.FieldType)).before args0 about1 = true := code_word (m := ⟨13, 3⟩) (meth := k13m3) (c := k13c3) (by decide +kernel) rfl rfl rfl (by decide +kernel)
set_option maxRecDepth 65536 in
theorem w_c22 : (Jvm.Cond.code ({ cls := "java/lang/AbstractStringBuilder", name := "newCapacity", desc := "(I)I" } : Jvm.MethodName) jdk_68_method_10_code (6 : Nat) (Option.some Jvm.ClassFile.FieldType.int)).before args0 about1 = true := code_word (m := ⟨13, 4⟩) (meth := k13m4) (c := k13c4) (by decide +kernel) rfl rfl rfl (by decide +kernel)
set_option maxRecDepth 65536 in
theorem w_c23 : (Jvm.Cond.code ({ cls := "jdk/internal/util/ArraysSupport", name := "newLength", desc := "(III)I" } : Jvm.MethodName) jdk_48_method_27_code (4 : Nat) (Option.some Jvm.ClassFile.FieldType.int)).before args0 about1 = true := code_word (m := ⟨15, 1⟩) (meth := k15m1) (c := k15c1) (by decide +kernel) rfl rfl rfl (by decide +kernel)
set_option maxRecDepth 65536 in
theorem w_c24 : (Jvm.Cond.code ({ cls := "java/lang/Math", name := "max", desc := "(II)I" } : Jvm.MethodName) jdk_29_method_65_code (2 : Nat) (Option.some Jvm.ClassFile.FieldType.int)).before args0 about1 = true := code_word (m := ⟨16, 1⟩) (meth := k16m1) (c := k16c1) (by decide +kernel) rfl rfl rfl (by decide +kernel)
set_option maxRecDepth 65536 in
theorem w_c25 : (Jvm.Cond.code ({ cls := "java/util/Arrays", name := "copyOf", desc := "([BI)[B" } : Jvm.MethodName) jdk_65_method_121_code (3 : Nat) (Option.some (Jvm.ClassFile.FieldType.array Jvm.ClassFile.FieldType.byte))).before args0 about1 = true := code_word (m := ⟨17, 1⟩) (meth := k17m1) (c := k17c1) (by decide +kernel) rfl rfl rfl (by decide +kernel)
set_option maxRecDepth 65536 in
theorem w_c26 : (Jvm.Cond.code ({ cls := "java/lang/Math", name := "min", desc := "(II)I" } : Jvm.MethodName) jdk_29_method_69_code (2 : Nat) (Option.some Jvm.ClassFile.FieldType.int)).before args0 about1 = true := code_word (m := ⟨16, 2⟩) (meth := k16m2) (c := k16c2) (by decide +kernel) rfl rfl rfl (by decide +kernel)
set_option maxRecDepth 65536 in
theorem w_c27 : (Jvm.Cond.code ({ cls := "java/lang/AbstractStringBuilder", name := "putStringAt", desc := "(ILjava/lang/String;)V" } : Jvm.MethodName) jdk_68_method_73_code (3 : Nat) (Option.none : Option Jvm.ClassFile.FieldType)).before args0 about1 = true := code_word (m := ⟨13, 10⟩) (meth := k13m10) (c := k13c10) (by decide +kernel) rfl rfl rfl (by decide +kernel)
set_option maxRecDepth 65536 in
theorem w_c28 : (Jvm.Cond.code ({ cls := "java/lang/AbstractStringBuilder", name := "inflateIfNeededFor", desc := "(Ljava/lang/String;)V" } : Jvm.MethodName) jdk_68_method_71_code (2 : Nat) (Option.none : Option Jvm.ClassFile.FieldType)).before args0 about1 = true := code_word (m := ⟨13, 9⟩) (meth := k13m9) (c := k13c9) (by decide +kernel) rfl rfl rfl (by decide +kernel)
set_option maxRecDepth 65536 in
theorem w_c29 : (Jvm.Cond.code ({ cls := "java/lang/String", name := "getBytes", desc := "([BIB)V" } : Jvm.MethodName) jdk_42_method_147_code (4 : Nat) (Option.none : Option Jvm.ClassFile.FieldType)).before args0 about1 = true := code_word (m := ⟨7, 6⟩) (meth := k7m6) (c := k7c6) (by decide +kernel) rfl rfl rfl (by decide +kernel)
set_option maxRecDepth 65536 in
theorem w_c30 : (Jvm.Cond.code ({ cls := "java/lang/StringBuilder", name := "append", desc := "(I)Ljava/lang/StringBuilder;" } : Jvm.MethodName) jdk_67_method_15_code (2 : Nat) (Option.some (Jvm.ClassFile.FieldType.object "java/lang/StringBuilder"))).before args0 about1 = true := code_word (m := ⟨14, 2⟩) (meth := k14m2) (c := k14c2) (by decide +kernel) rfl rfl rfl (by decide +kernel)
set_option maxRecDepth 65536 in
theorem w_c31 : (Jvm.Cond.code ({ cls := "java/lang/AbstractStringBuilder", name := "append", desc := "(I)Ljava/lang/AbstractStringBuilder;" } : Jvm.MethodName) jdk_68_method_32_code (4 : Nat) (Option.some (Jvm.ClassFile.FieldType.object "java/lang/AbstractStringBuilder"))).before args0 about1 = true := code_word (m := ⟨13, 6⟩) (meth := k13m6) (c := k13c6) (by decide +kernel) rfl rfl rfl (by decide +kernel)
set_option maxRecDepth 65536 in
theorem w_c32 : (Jvm.Cond.code ({ cls := "java/lang/Integer", name := "stringSize", desc := "(I)I" } : Jvm.MethodName) jdk_33_method_13_code (4 : Nat) (Option.some Jvm.ClassFile.FieldType.int)).before args0 about1 = true := code_word (m := ⟨20, 1⟩) (meth := k20m1) (c := k20c1) (by decide +kernel) rfl rfl rfl (by decide +kernel)
set_option maxRecDepth 65536 in
theorem w_c33 : (Jvm.Cond.code ({ cls := "java/lang/AbstractStringBuilder", name := "isLatin1", desc := "()Z" } : Jvm.MethodName) jdk_68_method_68_code (1 : Nat) (Option.some Jvm.ClassFile.FieldType.boolean)).before args0 about1 = true := code_word (m := ⟨13, 8⟩) (meth := k13m8) (c := k13c8) (by decide +kernel) rfl rfl rfl (by decide +kernel)
set_option maxRecDepth 65536 in
theorem w_c34 : (Jvm.Cond.code ({ cls := "java/lang/Integer", name := "getChars", desc := "(II[B)I" } : Jvm.MethodName) jdk_33_method_12_code (7 : Nat) (Option.some Jvm.ClassFile.FieldType.int)).before args0 about1 = true := code_word (m := ⟨20, 0⟩) (meth := k20m0) (c := k20c0) (by decide +kernel) rfl rfl rfl (by decide +kernel)
set_option maxRecDepth 65536 in
theorem w_c35 : (Jvm.Cond.code ({ cls := "java/lang/StringBuilder", name := "toString", desc := "()Ljava/lang/String;" } : Jvm.MethodName) jdk_67_method_42_code (1 : Nat) (Option.some (Jvm.ClassFile.FieldType.object "java/lang/String"))).before args0 about1 = true := code_word (m := ⟨14, 3⟩) (meth := k14m3) (c := k14c3) (by decide +kernel) rfl rfl rfl (by decide +kernel)
set_option maxRecDepth 65536 in
theorem w_c36 : (Jvm.Cond.code ({ cls := "java/lang/String", name := "<init>", desc := "(Ljava/lang/StringBuilder;)V" } : Jvm.MethodName) jdk_42_method_53_code (2 : Nat) (Option.none : Option Jvm.ClassFile.FieldType)).before args0 about1 = true := code_word (m := ⟨7, 2⟩) (meth := k7m2) (c := k7c2) (by decide +kernel) rfl rfl rfl (by decide +kernel)
set_option maxRecDepth 65536 in
theorem w_c37 : (Jvm.Cond.code ({ cls := "java/lang/String", name := "<init>", desc := "(Ljava/lang/AbstractStringBuilder;Ljava/lang/Void;)V" } : Jvm.MethodName) jdk_42_method_150_code (5 : Nat) (Option.none : Option Jvm.ClassFile.FieldType)).before args0 about1 = true := code_word (m := ⟨7, 8⟩) (meth := k7m8) (c := k7c8) (by decide +kernel) rfl rfl rfl (by decide +kernel)
set_option maxRecDepth 65536 in
theorem w_c38 : (Jvm.Cond.code ({ cls := "java/lang/AbstractStringBuilder", name := "getValue", desc := "()[B" } : Jvm.MethodName) jdk_68_method_64_code (1 : Nat) (Option.some (Jvm.ClassFile.FieldType.array Jvm.ClassFile.FieldType.byte))).before args0 about1 = true := code_word (m := ⟨13, 7⟩) (meth := k13m7) (c := k13c7) (by decide +kernel) rfl rfl rfl (by decide +kernel)
set_option maxRecDepth 65536 in
theorem w_c39 : (Jvm.Cond.code ({ cls := "java/lang/StringBuilder", name := "length", desc := "()I" } : Jvm.MethodName) jdk_67_method_93_code (1 : Nat) (Option.some Jvm.ClassFile.FieldType.int)).before args0 about1 = true := code_word (m := ⟨14, 4⟩) (meth := k14m4) (c := k14c4) (by decide +kernel) rfl rfl rfl (by decide +kernel)
set_option maxRecDepth 65536 in
theorem w_c40 : (Jvm.Cond.code ({ cls := "java/lang/AbstractStringBuilder", name := "length", desc := "()I" } : Jvm.MethodName) jdk_68_method_6_code (1 : Nat) (Option.some Jvm.ClassFile.FieldType.int)).before args0 about1 = true := code_word (m := ⟨13, 2⟩) (meth := k13m2) (c := k13c2) (by decide +kernel) rfl rfl rfl (by decide +kernel)
set_option maxRecDepth 65536 in
theorem w_c41 : (Jvm.Cond.code ({ cls := "java/util/Arrays", name := "copyOfRange", desc := "([BII)[B" } : Jvm.MethodName) jdk_65_method_132_code (3 : Nat) (Option.some (Jvm.ClassFile.FieldType.array Jvm.ClassFile.FieldType.byte))).before args0 about1 = true := code_word (m := ⟨17, 3⟩) (meth := k17m3) (c := k17c3) (by decide +kernel) rfl rfl rfl (by decide +kernel)
set_option maxRecDepth 65536 in
theorem w_c42 : (Jvm.Cond.code ({ cls := "java/util/Arrays", name := "copyOfRangeByte", desc := "([BII)[B" } : Jvm.MethodName) jdk_65_method_133_code (5 : Nat) (Option.some (Jvm.ClassFile.FieldType.array Jvm.ClassFile.FieldType.byte))).before args0 about1 = true := code_word (m := ⟨17, 4⟩) (meth := k17m4) (c := k17c4) (by decide +kernel) rfl rfl rfl (by decide +kernel)
set_option maxRecDepth 65536 in
theorem w_c43 : (Jvm.Cond.code ({ cls := "java/util/Arrays", name := "checkLength", desc := "(II)V" } : Jvm.MethodName) jdk_65_method_131_code (2 : Nat) (Option.none : Option Jvm.ClassFile.FieldType)).before args0 about1 = true := code_word (m := ⟨17, 2⟩) (meth := k17m2) (c := k17c2) (by decide +kernel) rfl rfl rfl (by decide +kernel)
set_option maxRecDepth 65536 in
theorem w_c44 : (Jvm.Cond.code ({ cls := "java/lang/String", name := "equals", desc := "(Ljava/lang/Object;)Z" } : Jvm.MethodName) jdk_42_method_66_code (3 : Nat) (Option.some Jvm.ClassFile.FieldType.boolean)).before args0 about1 = true := code_word (m := ⟨7, 5⟩) (meth := k7m5) (c := k7c5) (by decide +kernel) rfl rfl rfl (by decide +kernel)
set_option maxRecDepth 65536 in
theorem w_c45 : (Jvm.Cond.code ({ cls := "java/lang/StringLatin1", name := "equals", desc := "([B[B)Z" } : Jvm.MethodName) jdk_43_method_13_code (3 : Nat) (Option.some Jvm.ClassFile.FieldType.boolean)).before args0 about1 = true := code_word (m := ⟨21, 1⟩) (meth := k21m1) (c := k21c1) (by decide +kernel) rfl rfl rfl (by decide +kernel)
def codes1 : List Jvm.Cond := [Jvm.Cond.code x code maxLocals ret, Jvm.Cond.code ({ cls := "java/lang/String", name := "<init>", desc := "([C)V" } : Jvm.MethodName) jdk_42_method_3_code (2 : Nat) (Option.none : Option Jvm.ClassFile.FieldType), Jvm.Cond.code ({ cls := "java/lang/String", name := "<init>", desc := "([CIILjava/lang/Void;)V" } : Jvm.MethodName) jdk_42_method_149_code (6 : Nat) (Option.none : Option Jvm.ClassFile.FieldType), Jvm.Cond.code ({ cls := "java/lang/Object", name := "<init>", desc := "()V" } : Jvm.MethodName) object_method_1_code (1 : Nat) (Option.none : Option Jvm.ClassFile.FieldType), Jvm.Cond.code ({ cls := "java/lang/StringUTF16", name := "compress", desc := "([CII)[B" } : Jvm.MethodName) jdk_52_method_16_code (6 : Nat) (Option.some (Jvm.ClassFile.FieldType.array Jvm.ClassFile.FieldType.byte)), Jvm.Cond.code ({ cls := "java/lang/StringUTF16", name := "compress", desc := "([CI[BII)I" } : Jvm.MethodName) jdk_52_method_21_code (7 : Nat) (Option.some Jvm.ClassFile.FieldType.int), Jvm.Cond.code ({ cls := "java/lang/StringUTF16", name := "coderFromArrayLen", desc := "([BI)B" } : Jvm.MethodName) jdk_52_method_15_code (2 : Nat) (Option.some Jvm.ClassFile.FieldType.byte), Jvm.Cond.code ({ cls := "com/example/rebalance/rebalance/MessageQueueHashKeyPinLaw", name := "digits", desc := "(I)I" } : Jvm.MethodName) method_4_code (1 : Nat) (Option.some Jvm.ClassFile.FieldType.int), Jvm.Cond.code ({ cls := "com/example/rebalance/rebalance/MessageQueueHashKeyPinLaw", name := "mk", desc := "(I)[C" } : Jvm.MethodName) method_5_code (1 : Nat) (Option.some (Jvm.ClassFile.FieldType.array Jvm.ClassFile.FieldType.char)), Jvm.Cond.code ({ cls := "com/example/rebalance/rebalance/MessageQueueHashKeyPinLaw", name := "dig", desc := "(II)C" } : Jvm.MethodName) method_3_code (2 : Nat) (Option.some Jvm.ClassFile.FieldType.char), Jvm.Cond.code ({ cls := "com/example/rebalance/rebalance/MessageQueue", name := "<init>", desc := "(Ljava/lang/String;Ljava/lang/String;I)V" } : Jvm.MethodName) prog_2_method_1_code (4 : Nat) (Option.none : Option Jvm.ClassFile.FieldType), Jvm.Cond.code ({ cls := "java/lang/Record", name := "<init>", desc := "()V" } : Jvm.MethodName) jdk_30_method_1_code (1 : Nat) (Option.none : Option Jvm.ClassFile.FieldType), Jvm.Cond.code ({ cls := "java/util/Objects", name := "requireNonNull", desc := "(Ljava/lang/Object;Ljava/lang/String;)Ljava/lang/Object;" } : Jvm.MethodName) jdk_31_method_11_code (2 : Nat) (Option.some (Jvm.ClassFile.FieldType.object "java/lang/Object")), Jvm.Cond.code ({ cls := "java/lang/String", name := "isEmpty", desc := "()Z" } : Jvm.MethodName) jdk_42_method_55_code (1 : Nat) (Option.some Jvm.ClassFile.FieldType.boolean), Jvm.Cond.code ({ cls := "com/example/rebalance/rebalance/MessageQueue", name := "hashKey", desc := "()Ljava/lang/String;" } : Jvm.MethodName) prog_2_method_2_code (1 : Nat) (Option.some (Jvm.ClassFile.FieldType.object "java/lang/String")), Jvm.Cond.code ({ cls := "java/lang/StringBuilder", name := "<init>", desc := "()V" } : Jvm.MethodName) jdk_67_method_1_code (1 : Nat) (Option.none : Option Jvm.ClassFile.FieldType), Jvm.Cond.code ({ cls := "java/lang/AbstractStringBuilder", name := "<init>", desc := "(I)V" } : Jvm.MethodName) jdk_68_method_2_code (2 : Nat) (Option.none : Option Jvm.ClassFile.FieldType), Jvm.Cond.code ({ cls := "java/lang/StringBuilder", name := "append", desc := "(Ljava/lang/String;)Ljava/lang/StringBuilder;" } : Jvm.MethodName) jdk_67_method_7_code (2 : Nat) (Option.some (Jvm.ClassFile.FieldType.object "java/lang/StringBuilder")), Jvm.Cond.code ({ cls := "java/lang/AbstractStringBuilder", name := "append", desc := "(Ljava/lang/String;)Ljava/lang/AbstractStringBuilder;" } : Jvm.MethodName) jdk_68_method_22_code (3 : Nat) (Option.some (Jvm.ClassFile.FieldType.object "java/lang/AbstractStringBuilder")), Jvm.Cond.code ({ cls := "java/lang/String", name := "length", desc := "()I" } : Jvm.MethodName) jdk_42_method_54_code (1 : Nat) (Option.some Jvm.ClassFile.FieldType.int), Jvm.Cond.code ({ cls := "java/lang/String", name := "coder", desc := "()B" } : Jvm.MethodName) jdk_42_method_152_code (1 : Nat) (Option.some Jvm.ClassFile.FieldType.byte), Jvm.Cond.code ({ cls := "java/lang/AbstractStringBuilder", name := "ensureCapacityInternal", desc := "(I)V" } : Jvm.MethodName) jdk_68_method_9_code (3 : Nat) (Option.none : Option Jvm.ClassFile.FieldType), Jvm.Cond.code ({ cls := "java/lang/AbstractStringBuilder", name := "newCapacity", desc := "(I)I" } : Jvm.MethodName) jdk_68_method_10_code (6 : Nat) (Option.some Jvm.ClassFile.FieldType.int), Jvm.Cond.code ({ cls := "jdk/internal/util/ArraysSupport", name := "newLength", desc := "(III)I" } : Jvm.MethodName) jdk_48_method_27_code (4 : Nat) (Option.some Jvm.ClassFile.FieldType.int), Jvm.Cond.code ({ cls := "java/lang/Math", name := "max", desc := "(II)I" } : Jvm.MethodName) jdk_29_method_65_code (2 : Nat) (Option.some Jvm.ClassFile.FieldType.int), Jvm.Cond.code ({ cls := "java/util/Arrays", name := "copyOf", desc := "([BI)[B" } : Jvm.MethodName) jdk_65_method_121_code (3 : Nat) (Option.some (Jvm.ClassFile.FieldType.array Jvm.ClassFile.FieldType.byte)), Jvm.Cond.code ({ cls := "java/lang/Math", name := "min", desc := "(II)I" } : Jvm.MethodName) jdk_29_method_69_code (2 : Nat) (Option.some Jvm.ClassFile.FieldType.int), Jvm.Cond.code ({ cls := "java/lang/AbstractStringBuilder", name := "putStringAt", desc := "(ILjava/lang/String;)V" } : Jvm.MethodName) jdk_68_method_73_code (3 : Nat) (Option.none : Option Jvm.ClassFile.FieldType), Jvm.Cond.code ({ cls := "java/lang/AbstractStringBuilder", name := "inflateIfNeededFor", desc := "(Ljava/lang/String;)V" } : Jvm.MethodName) jdk_68_method_71_code (2 : Nat) (Option.none : Option Jvm.ClassFile.FieldType), Jvm.Cond.code ({ cls := "java/lang/String", name := "getBytes", desc := "([BIB)V" } : Jvm.MethodName) jdk_42_method_147_code (4 : Nat) (Option.none : Option Jvm.ClassFile.FieldType), Jvm.Cond.code ({ cls := "java/lang/StringBuilder", name := "append", desc := "(I)Ljava/lang/StringBuilder;" } : Jvm.MethodName) jdk_67_method_15_code (2 : Nat) (Option.some (Jvm.ClassFile.FieldType.object "java/lang/StringBuilder")), Jvm.Cond.code ({ cls := "java/lang/AbstractStringBuilder", name := "append", desc := "(I)Ljava/lang/AbstractStringBuilder;" } : Jvm.MethodName) jdk_68_method_32_code (4 : Nat) (Option.some (Jvm.ClassFile.FieldType.object "java/lang/AbstractStringBuilder")), Jvm.Cond.code ({ cls := "java/lang/Integer", name := "stringSize", desc := "(I)I" } : Jvm.MethodName) jdk_33_method_13_code (4 : Nat) (Option.some Jvm.ClassFile.FieldType.int), Jvm.Cond.code ({ cls := "java/lang/AbstractStringBuilder", name := "isLatin1", desc := "()Z" } : Jvm.MethodName) jdk_68_method_68_code (1 : Nat) (Option.some Jvm.ClassFile.FieldType.boolean), Jvm.Cond.code ({ cls := "java/lang/Integer", name := "getChars", desc := "(II[B)I" } : Jvm.MethodName) jdk_33_method_12_code (7 : Nat) (Option.some Jvm.ClassFile.FieldType.int), Jvm.Cond.code ({ cls := "java/lang/StringBuilder", name := "toString", desc := "()Ljava/lang/String;" } : Jvm.MethodName) jdk_67_method_42_code (1 : Nat) (Option.some (Jvm.ClassFile.FieldType.object "java/lang/String")), Jvm.Cond.code ({ cls := "java/lang/String", name := "<init>", desc := "(Ljava/lang/StringBuilder;)V" } : Jvm.MethodName) jdk_42_method_53_code (2 : Nat) (Option.none : Option Jvm.ClassFile.FieldType), Jvm.Cond.code ({ cls := "java/lang/String", name := "<init>", desc := "(Ljava/lang/AbstractStringBuilder;Ljava/lang/Void;)V" } : Jvm.MethodName) jdk_42_method_150_code (5 : Nat) (Option.none : Option Jvm.ClassFile.FieldType), Jvm.Cond.code ({ cls := "java/lang/AbstractStringBuilder", name := "getValue", desc := "()[B" } : Jvm.MethodName) jdk_68_method_64_code (1 : Nat) (Option.some (Jvm.ClassFile.FieldType.array Jvm.ClassFile.FieldType.byte)), Jvm.Cond.code ({ cls := "java/lang/StringBuilder", name := "length", desc := "()I" } : Jvm.MethodName) jdk_67_method_93_code (1 : Nat) (Option.some Jvm.ClassFile.FieldType.int), Jvm.Cond.code ({ cls := "java/lang/AbstractStringBuilder", name := "length", desc := "()I" } : Jvm.MethodName) jdk_68_method_6_code (1 : Nat) (Option.some Jvm.ClassFile.FieldType.int), Jvm.Cond.code ({ cls := "java/util/Arrays", name := "copyOfRange", desc := "([BII)[B" } : Jvm.MethodName) jdk_65_method_132_code (3 : Nat) (Option.some (Jvm.ClassFile.FieldType.array Jvm.ClassFile.FieldType.byte)), Jvm.Cond.code ({ cls := "java/util/Arrays", name := "copyOfRangeByte", desc := "([BII)[B" } : Jvm.MethodName) jdk_65_method_133_code (5 : Nat) (Option.some (Jvm.ClassFile.FieldType.array Jvm.ClassFile.FieldType.byte)), Jvm.Cond.code ({ cls := "java/util/Arrays", name := "checkLength", desc := "(II)V" } : Jvm.MethodName) jdk_65_method_131_code (2 : Nat) (Option.none : Option Jvm.ClassFile.FieldType), Jvm.Cond.code ({ cls := "java/lang/String", name := "equals", desc := "(Ljava/lang/Object;)Z" } : Jvm.MethodName) jdk_42_method_66_code (3 : Nat) (Option.some Jvm.ClassFile.FieldType.boolean), Jvm.Cond.code ({ cls := "java/lang/StringLatin1", name := "equals", desc := "([B[B)Z" } : Jvm.MethodName) jdk_43_method_13_code (3 : Nat) (Option.some Jvm.ClassFile.FieldType.boolean)]
set_option maxRecDepth 65536 in
theorem codes_eq : words1.filter isCode = codes1 := rfl
theorem w_codes : ∀ c ∈ words1.filter isCode, c.before args0 about1 = true := by
  rw [codes_eq]
  intro c hc
  simp only [codes1, List.mem_cons, List.not_mem_nil, or_false] at hc
  rcases hc with rfl | rfl | rfl | rfl | rfl | rfl | rfl | rfl | rfl | rfl | rfl | rfl | rfl | rfl | rfl | rfl | rfl | rfl | rfl | rfl | rfl | rfl | rfl | rfl | rfl | rfl | rfl | rfl | rfl | rfl | rfl | rfl | rfl | rfl | rfl | rfl | rfl | rfl | rfl | rfl | rfl | rfl | rfl | rfl | rfl | rfl
  · exact w_c0
  · exact w_c1
  · exact w_c2
  · exact w_c3
  · exact w_c4
  · exact w_c5
  · exact w_c6
  · exact w_c7
  · exact w_c8
  · exact w_c9
  · exact w_c10
  · exact w_c11
  · exact w_c12
  · exact w_c13
  · exact w_c14
  · exact w_c15
  · exact w_c16
  · exact w_c17
  · exact w_c18
  · exact w_c19
  · exact w_c20
  · exact w_c21
  · exact w_c22
  · exact w_c23
  · exact w_c24
  · exact w_c25
  · exact w_c26
  · exact w_c27
  · exact w_c28
  · exact w_c29
  · exact w_c30
  · exact w_c31
  · exact w_c32
  · exact w_c33
  · exact w_c34
  · exact w_c35
  · exact w_c36
  · exact w_c37
  · exact w_c38
  · exact w_c39
  · exact w_c40
  · exact w_c41
  · exact w_c42
  · exact w_c43
  · exact w_c44
  · exact w_c45
set_option maxRecDepth 65536 in
theorem w_t1 : (words1.take 24).all (fun c => isCode c || c.before args0 about1) = true := by decide +kernel
set_option maxRecDepth 65536 in
theorem w_t2 : ((words1.drop 24).take 24).all (fun c => isCode c || c.before args0 about1) = true := by decide +kernel
set_option maxRecDepth 65536 in
theorem w_t3 : (((words1.drop 24).drop 24).take 24).all (fun c => isCode c || c.before args0 about1) = true := by decide +kernel
set_option maxRecDepth 65536 in
theorem w_t4 : ((((words1.drop 24).drop 24).drop 24).take 24).all (fun c => isCode c || c.before args0 about1) = true := by decide +kernel
set_option maxRecDepth 65536 in
theorem w_t5 : (((((words1.drop 24).drop 24).drop 24).drop 24).take 24).all (fun c => isCode c || c.before args0 about1) = true := by decide +kernel
set_option maxRecDepth 65536 in
theorem w_t6 : ((((((words1.drop 24).drop 24).drop 24).drop 24).drop 24).take 24).all (fun c => isCode c || c.before args0 about1) = true := by decide +kernel
set_option maxRecDepth 65536 in
theorem w_t7 : (((((((words1.drop 24).drop 24).drop 24).drop 24).drop 24).drop 24).take 24).all (fun c => isCode c || c.before args0 about1) = true := by decide +kernel
set_option maxRecDepth 65536 in
theorem w_t8 : ((((((((words1.drop 24).drop 24).drop 24).drop 24).drop 24).drop 24).drop 24).take 24).all (fun c => isCode c || c.before args0 about1) = true := by decide +kernel
set_option maxRecDepth 65536 in
theorem w_t9 : (((((((((words1.drop 24).drop 24).drop 24).drop 24).drop 24).drop 24).drop 24).drop 24).take 24).all (fun c => isCode c || c.before args0 about1) = true := by decide +kernel
set_option maxRecDepth 65536 in
theorem w_t10 : ((((((((((words1.drop 24).drop 24).drop 24).drop 24).drop 24).drop 24).drop 24).drop 24).drop 24).take 24).all (fun c => isCode c || c.before args0 about1) = true := by decide +kernel
set_option maxRecDepth 65536 in
theorem w_t11 : ((((((((((words1.drop 24).drop 24).drop 24).drop 24).drop 24).drop 24).drop 24).drop 24).drop 24).drop 24).all (fun c => isCode c || c.before args0 about1) = true := by decide +kernel
theorem w_tables : (allAtoms (Jvm.Cond.code x code maxLocals ret :: tables_1)).before args0 about1 = true := by
  rw [allAtoms_all]
  show words1.all (fun c => c.before args0 about1) = true
  refine all_split ?_ w_codes
  rw [← List.take_append_drop 24 words1, List.all_append, w_t1, ← List.take_append_drop 24 (words1.drop 24), List.all_append, w_t2, ← List.take_append_drop 24 ((words1.drop 24).drop 24), List.all_append, w_t3, ← List.take_append_drop 24 (((words1.drop 24).drop 24).drop 24), List.all_append, w_t4, ← List.take_append_drop 24 ((((words1.drop 24).drop 24).drop 24).drop 24), List.all_append, w_t5, ← List.take_append_drop 24 (((((words1.drop 24).drop 24).drop 24).drop 24).drop 24), List.all_append, w_t6, ← List.take_append_drop 24 ((((((words1.drop 24).drop 24).drop 24).drop 24).drop 24).drop 24), List.all_append, w_t7, ← List.take_append_drop 24 (((((((words1.drop 24).drop 24).drop 24).drop 24).drop 24).drop 24).drop 24), List.all_append, w_t8, ← List.take_append_drop 24 ((((((((words1.drop 24).drop 24).drop 24).drop 24).drop 24).drop 24).drop 24).drop 24), List.all_append, w_t9, ← List.take_append_drop 24 (((((((((words1.drop 24).drop 24).drop 24).drop 24).drop 24).drop 24).drop 24).drop 24).drop 24), List.all_append, w_t10, w_t11]
  rfl
set_option maxRecDepth 65536 in
theorem w_rest : rest_1_c.before args0 about1 = true := by decide +kernel
set_option maxRecDepth 65536 in
theorem w_case : (Jvm.Cond.and given_1 narrow_1).before args0 about1 = true := by decide +kernel
set_option maxRecDepth 65536 in
theorem w_consts : constsHeld consts_1 about1 := Jvm.Lit.constsHeldB_iff.mp (by decide +kernel)
theorem w_applies : (headSpec (Jvm.Cond.code x code maxLocals ret :: tables_1) room_1).applies x e0.platform about1 = true :=
  (Spec.applies_iff w_frames).mpr ⟨w_running, w_runnable, w_alone, w_named, w_hears, w_ripe, w_room, w_tables⟩
theorem atStart : AtStart classFile x code maxLocals ret World_1 tables_1 room_1 Calls_1 rest_1 Pre_1 launch0 p0 e0 about1 theMethod args0 below0 :=
  ⟨lists_1, trivial, launch0.admits_env _ _ _, launch0.least_env, fairChoices_fair.cas, fairChoices_fair.clock, w_frames, w_args, w_heap, w_applies, ⟨w_consts, trivial⟩, w_rest, w_case⟩
end start1
theorem witness_1 : WitnessClaimed_1 := ⟨start1.p0, start1.e0, start1.about1, start1.theMethod, start1.args0, start1.below0, start1.atStart⟩
end Jvm.Pilot.@@N@@
