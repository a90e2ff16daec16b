import JvmDerived
import JvmDerived.Pilot.@@N@@Statement
import JvmDerived.Pilot.@@N@@Code
set_option linter.unusedVariables false
set_option linter.unusedSimpArgs false
namespace Jvm.OwnL
open Sem ClassFile Op Lib Bundle Jvm.Stand Jvm.Free Jvm.LawKit Jvm.RoadKit
/-- where a walk stands: the tables v at hand (String constants of EL, if loaded, hold their text), the heap h (the entry heap h0 but for ws and what is new; the case's own start unchanged), what is safely no constant's cell (sf), and the frame -/
def Wl (Z : State) (a0 : Array Value) (own : String) (p : Program) (l : Launch) (e : Env) (R : Room) (s : State) (m : MethodId) (args : Array Value) (below : List Frame) (meth : Method) (c : Code) (code : ByteArray) (mx : Nat) (B : State) (EL : List (String × Nat)) (h0 : Heap) (n0 : Nat) (ws sf : List Addr) (h : Heap) (cells slots pc : Nat) (L : Array Slot) (S : List Value) : Prop :=
  (p.tables.exec = Jvm.exec ∧ c.code = code ∧ c.maxLocals = mx ∧ EW Z a0 EL) ∧ (Old Z n0 h ∧ Keep h0 h ws ∧ (∀ x ∈ ws, n0 ≤ x) ∧ n0 ≤ h0.size ∧ s.heap = h0) ∧
    ∃ (v : Vm) (k0 : Nat) (T : State) (locs : List Loc), Stand p l e R (s.setVm v) m args below meth c T locs cells slots ∧ (s.Since v k0 ∧ k0 ≤ h.size ∧ Z.Warmed39 v ∧ v.findClass own = some m.cls) ∧ (CHr Z EL s.vm h0 v h ∧ ∀ x ∈ sf, x < h.size ∧ Safe Z EL v h x) ∧ Fr n0 locs ∧ T.heap = h ∧ ∀ t, Steps p.tables e below (T.setTop (mkF m pc L S)) t → Steps p.tables e below B t
section OwnL
variable {Z : State} {own : String} {p : Program} {l : Launch} {e : Env} {R : Room} {s : State} {m : MethodId} {args : Array Value} {below : List Frame} {meth : Method} {c : Code} {code : ByteArray} {mx : Nat} {B : State} {EL : List (String × Nat)} {h0 : Heap} {n0 : Nat} {ws sf : List Addr} {h h' : Heap} {cells slots pc : Nat} {L L' : Array Slot} {S : List Value} {a0 : Array Value}
theorem safeNew {v : Vm} (E : Ext h h') (H : CHv Z EL v h) (F : ∀ x ∈ sf, x < h.size ∧ Safe Z EL v h x) (lt : h.size < h'.size) : ∀ x ∈ h.size :: sf, x < h'.size ∧ Safe Z EL v h' x := fun x q => by
  rcases List.mem_cons.mp q with rfl | q
  · exact ⟨lt, (Safe.new (Nat.le_refl _)).ext E H⟩
  · exact ⟨Nat.lt_of_lt_of_le (F x q).1 E.1, (F x q).2.ext E H⟩
theorem safeKeep {v : Vm} {wsC : List Addr} (K : Keep h h' wsC) (hs : ∀ x ∈ wsC, Safe Z EL v h x) (H : CHv Z EL v h) (F : ∀ x ∈ sf, x < h.size ∧ Safe Z EL v h x) : ∀ x ∈ sf, x < h'.size ∧ Safe Z EL v h' x := fun x q =>
  ⟨Nat.lt_of_lt_of_le (F x q).1 K.1, (F x q).2.keep K hs H⟩
theorem Wl.keep0 (G : Wl Z a0 own p l e R s m args below meth c code mx B EL h0 n0 ws sf h cells slots pc L S) : Keep h0 h ws := G.2.1.2.1
theorem Wl.old (G : Wl Z a0 own p l e R s m args below meth c code mx B EL h0 n0 ws sf h cells slots pc L S) : Old Z n0 h := G.2.1.1
theorem Wl.n0le (G : Wl Z a0 own p l e R s m args below meth c code mx B EL h0 n0 ws sf h cells slots pc L S) : n0 ≤ h.size := Nat.le_trans G.2.1.2.2.2.1 G.2.1.2.1.1
theorem Wl.sz (G : Wl Z a0 own p l e R s m args below meth c code mx B EL h0 n0 ws sf h cells slots pc L S) : h0.size ≤ h.size := G.2.1.2.1.1
theorem Wl.nw (G : Wl Z a0 own p l e R s m args below meth c code mx B EL h0 n0 ws sf h cells slots pc L S) {x : Addr} (q : x ∈ ws ∨ h0.size ≤ x) : n0 ≤ x := q.elim (G.2.1.2.2.1 x) (Nat.le_trans G.2.1.2.2.2.1)
theorem Wl.sta {C n d : String} {v : Value} (G : Wl Z a0 own p l e R s m args below meth c code mx B EL h0 n0 ws sf h cells slots pc L S) (F : Sta Z Z.heap C n d v) : Sta Z h C n d v := F.ext G.2.1.1.2
theorem Wl.plain {pc' : Nat} {S' : List Value} (G : Wl Z a0 own p l e R s m args below meth c code mx B EL h0 n0 ws sf h cells slots pc L S) (st : ∀ T : State, At T m c below → p.tables.exec = Jvm.exec → c.code = code → ∀ t, Steps p.tables e below (T.setTop (mkF m pc' L' S')) t → Steps p.tables e below (T.setTop (mkF m pc L S)) t) : Wl Z a0 own p l e R s m args below meth c code mx B EL h0 n0 ws sf h cells slots pc' L' (S') := by
  obtain ⟨a, b, v, k0, T, locs, X, x1, x2, N, eT, k⟩ := G
  exact ⟨a, b, v, k0, T, locs, X, x1, x2, N, eT, fun t q => k t (st T X.here a.1 a.2.1 t q)⟩
theorem Wl.nameI {x : Int32} (G : Wl Z a0 own p l e R s m args below meth c code mx B EL h0 n0 ws sf h cells slots pc L (.int x :: S)) : ∃ v, v = x ∧ Wl Z a0 own p l e R s m args below meth c code mx B EL h0 n0 ws sf h cells slots pc L (.int v :: S) := ⟨x, rfl, G⟩
theorem Wl.nameJ {x : Int64} (G : Wl Z a0 own p l e R s m args below meth c code mx B EL h0 n0 ws sf h cells slots pc L (.long x :: S)) : ∃ v, v = x ∧ Wl Z a0 own p l e R s m args below meth c code mx B EL h0 n0 ws sf h cells slots pc L (.long v :: S) := ⟨x, rfl, G⟩
theorem Wl.top {x y : Value} (G : Wl Z a0 own p l e R s m args below meth c code mx B EL h0 n0 ws sf h cells slots pc L (x :: S)) (q : x = y) : Wl Z a0 own p l e R s m args below meth c code mx B EL h0 n0 ws sf h cells slots pc L (y :: S) := q ▸ G
theorem Wl.cast {L' : Array Slot} {S' : List Value} (G : Wl Z a0 own p l e R s m args below meth c code mx B EL h0 n0 ws sf h cells slots pc L S) (q : L = L') (r : S = S') : Wl Z a0 own p l e R s m args below meth c code mx B EL h0 n0 ws sf h cells slots pc L' (S') := q ▸ r ▸ G
theorem Wl.more (G : Wl Z a0 own p l e R s m args below meth c code mx B EL h0 n0 ws sf h cells slots pc L S) {k n : Nat} (h1 : cells ≤ k) (h2 : slots ≤ n) : Wl Z a0 own p l e R s m args below meth c code mx B EL h0 n0 ws sf h k n pc L S := by
  obtain ⟨a, b, v, k0, T, locs, X, r⟩ := G
  exact ⟨a, b, v, k0, T, locs, X.more h1 h2, r⟩
theorem Wl.less {sf' : List Addr} (G : Wl Z a0 own p l e R s m args below meth c code mx B EL h0 n0 ws sf h cells slots pc L S) (q : ∀ x ∈ sf', x ∈ sf) : Wl Z a0 own p l e R s m args below meth c code mx B EL h0 n0 ws sf' h cells slots pc L S := by
  obtain ⟨a, b, v, k0, T, locs, X, x1, x2, r⟩ := G
  exact ⟨a, b, v, k0, T, locs, X, x1, ⟨x2.1, fun x y => x2.2 x (q x y)⟩, r⟩
theorem Wl.aload {k : Nat} {v : Value} (G : Wl Z a0 own p l e R s m args below meth c code mx B EL h0 n0 ws sf h cells slots pc L S) (pc' : Nat) (hd : decode code pc = .ok (.aload k, 2)) (hl : L[k]? = some (.val v)) (hv : v.isRef = true) (hp : pc + 2 = pc') : Wl Z a0 own p l e R s m args below meth c code mx B EL h0 n0 ws sf h cells slots pc' L (v :: S) :=
  G.plain fun T H hx hy t k => XS.aload (g := mkF m pc L (S)) H hx rfl (by rw [hy]; exact hd) hl hv (by subst hp; exact k)
theorem Wl.aloadN {k : Fin 4} {v : Value} (G : Wl Z a0 own p l e R s m args below meth c code mx B EL h0 n0 ws sf h cells slots pc L S) (pc' : Nat) (hd : decode code pc = .ok (.aload_n k, 1)) (hl : L[k.val]? = some (.val v)) (hv : v.isRef = true) (hp : pc + 1 = pc') : Wl Z a0 own p l e R s m args below meth c code mx B EL h0 n0 ws sf h cells slots pc' L (v :: S) :=
  G.plain fun T H hx hy t k => XS.aloadN (g := mkF m pc L (S)) H hx rfl (by rw [hy]; exact hd) hl hv (by subst hp; exact k)
theorem Wl.iload {k : Nat} {v : Int32} (G : Wl Z a0 own p l e R s m args below meth c code mx B EL h0 n0 ws sf h cells slots pc L S) (pc' : Nat) (hd : decode code pc = .ok (.iload k, 2)) (hl : L[k]? = some (.val (.int v))) (hp : pc + 2 = pc') : Wl Z a0 own p l e R s m args below meth c code mx B EL h0 n0 ws sf h cells slots pc' L (.int v :: S) :=
  G.plain fun T H hx hy t k => XS.iload (g := mkF m pc L (S)) H hx rfl (by rw [hy]; exact hd) hl (by subst hp; exact k)
theorem Wl.iloadN {k : Fin 4} {v : Int32} (G : Wl Z a0 own p l e R s m args below meth c code mx B EL h0 n0 ws sf h cells slots pc L S) (pc' : Nat) (hd : decode code pc = .ok (.iload_n k, 1)) (hl : L[k.val]? = some (.val (.int v))) (hp : pc + 1 = pc') : Wl Z a0 own p l e R s m args below meth c code mx B EL h0 n0 ws sf h cells slots pc' L (.int v :: S) :=
  G.plain fun T H hx hy t k => XS.iloadN (g := mkF m pc L (S)) H hx rfl (by rw [hy]; exact hd) hl (by subst hp; exact k)
theorem Wl.lload {k : Nat} {v : Int64} (G : Wl Z a0 own p l e R s m args below meth c code mx B EL h0 n0 ws sf h cells slots pc L S) (pc' : Nat) (hd : decode code pc = .ok (.lload k, 2)) (hl : L[k]? = some (.val (.long v))) (hp : pc + 2 = pc') : Wl Z a0 own p l e R s m args below meth c code mx B EL h0 n0 ws sf h cells slots pc' L (.long v :: S) :=
  G.plain fun T H hx hy t k => XT.lload (g := mkF m pc L (S)) H hx rfl (by rw [hy]; exact hd) hl (by subst hp; exact k)
theorem Wl.lloadN {k : Fin 4} {v : Int64} (G : Wl Z a0 own p l e R s m args below meth c code mx B EL h0 n0 ws sf h cells slots pc L S) (pc' : Nat) (hd : decode code pc = .ok (.lload_n k, 1)) (hl : L[k.val]? = some (.val (.long v))) (hp : pc + 1 = pc') : Wl Z a0 own p l e R s m args below meth c code mx B EL h0 n0 ws sf h cells slots pc' L (.long v :: S) :=
  G.plain fun T H hx hy t k => XT.lloadN (g := mkF m pc L (S)) H hx rfl (by rw [hy]; exact hd) hl (by subst hp; exact k)
theorem Wl.dload {k : Nat} {v : UInt64} (G : Wl Z a0 own p l e R s m args below meth c code mx B EL h0 n0 ws sf h cells slots pc L S) (pc' : Nat) (hd : decode code pc = .ok (.dload k, 2)) (hl : L[k]? = some (.val (.double v))) (hp : pc + 2 = pc') : Wl Z a0 own p l e R s m args below meth c code mx B EL h0 n0 ws sf h cells slots pc' L (.double v :: S) :=
  G.plain fun T H hx hy t k => XS.dload (g := mkF m pc L (S)) H hx rfl (by rw [hy]; exact hd) hl (by subst hp; exact k)
theorem Wl.dloadN {k : Fin 4} {v : UInt64} (G : Wl Z a0 own p l e R s m args below meth c code mx B EL h0 n0 ws sf h cells slots pc L S) (pc' : Nat) (hd : decode code pc = .ok (.dload_n k, 1)) (hl : L[k.val]? = some (.val (.double v))) (hp : pc + 1 = pc') : Wl Z a0 own p l e R s m args below meth c code mx B EL h0 n0 ws sf h cells slots pc' L (.double v :: S) :=
  G.plain fun T H hx hy t k => XS.dloadN (g := mkF m pc L (S)) H hx rfl (by rw [hy]; exact hd) hl (by subst hp; exact k)
theorem Wl.istore {k : Nat} {x : Int32} (G : Wl Z a0 own p l e R s m args below meth c code mx B EL h0 n0 ws sf h cells slots pc L (.int x :: S)) (pc' : Nat) (L' : Array Slot) (hd : decode code pc = .ok (.istore k, 2)) (hl : storeLocals L k (.int x) = some L') (hp : pc + 2 = pc') : Wl Z a0 own p l e R s m args below meth c code mx B EL h0 n0 ws sf h cells slots pc' L' S :=
  G.plain fun T H hx hy t k => XS.istore (g := mkF m pc L (.int x :: S)) H hx rfl (by rw [hy]; exact hd) rfl hl (by subst hp; exact k)
theorem Wl.istoreN {k : Fin 4} {x : Int32} (G : Wl Z a0 own p l e R s m args below meth c code mx B EL h0 n0 ws sf h cells slots pc L (.int x :: S)) (pc' : Nat) (L' : Array Slot) (hd : decode code pc = .ok (.istore_n k, 1)) (hl : storeLocals L k.val (.int x) = some L') (hp : pc + 1 = pc') : Wl Z a0 own p l e R s m args below meth c code mx B EL h0 n0 ws sf h cells slots pc' L' S :=
  G.plain fun T H hx hy t k => XS.istoreN (g := mkF m pc L (.int x :: S)) H hx rfl (by rw [hy]; exact hd) rfl hl (by subst hp; exact k)
theorem Wl.lstore {k : Nat} {x : Int64} (G : Wl Z a0 own p l e R s m args below meth c code mx B EL h0 n0 ws sf h cells slots pc L (.long x :: S)) (pc' : Nat) (L' : Array Slot) (hd : decode code pc = .ok (.lstore k, 2)) (hl : storeLocals L k (.long x) = some L') (hp : pc + 2 = pc') : Wl Z a0 own p l e R s m args below meth c code mx B EL h0 n0 ws sf h cells slots pc' L' S :=
  G.plain fun T H hx hy t k => XT.lstore (g := mkF m pc L (.long x :: S)) H hx rfl (by rw [hy]; exact hd) rfl hl (by subst hp; exact k)
theorem Wl.lstoreN {k : Fin 4} {x : Int64} (G : Wl Z a0 own p l e R s m args below meth c code mx B EL h0 n0 ws sf h cells slots pc L (.long x :: S)) (pc' : Nat) (L' : Array Slot) (hd : decode code pc = .ok (.lstore_n k, 1)) (hl : storeLocals L k.val (.long x) = some L') (hp : pc + 1 = pc') : Wl Z a0 own p l e R s m args below meth c code mx B EL h0 n0 ws sf h cells slots pc' L' S :=
  G.plain fun T H hx hy t k => XT.lstoreN (g := mkF m pc L (.long x :: S)) H hx rfl (by rw [hy]; exact hd) rfl hl (by subst hp; exact k)
theorem Wl.dstore {k : Nat} {x : UInt64} (G : Wl Z a0 own p l e R s m args below meth c code mx B EL h0 n0 ws sf h cells slots pc L (.double x :: S)) (pc' : Nat) (L' : Array Slot) (hd : decode code pc = .ok (.dstore k, 2)) (hl : storeLocals L k (.double x) = some L') (hp : pc + 2 = pc') : Wl Z a0 own p l e R s m args below meth c code mx B EL h0 n0 ws sf h cells slots pc' L' S :=
  G.plain fun T H hx hy t k => XS.dstore (g := mkF m pc L (.double x :: S)) H hx rfl (by rw [hy]; exact hd) rfl hl (by subst hp; exact k)
theorem Wl.dstoreN {k : Fin 4} {x : UInt64} (G : Wl Z a0 own p l e R s m args below meth c code mx B EL h0 n0 ws sf h cells slots pc L (.double x :: S)) (pc' : Nat) (L' : Array Slot) (hd : decode code pc = .ok (.dstore_n k, 1)) (hl : storeLocals L k.val (.double x) = some L') (hp : pc + 1 = pc') : Wl Z a0 own p l e R s m args below meth c code mx B EL h0 n0 ws sf h cells slots pc' L' S :=
  G.plain fun T H hx hy t k => XS.dstoreN (g := mkF m pc L (.double x :: S)) H hx rfl (by rw [hy]; exact hd) rfl hl (by subst hp; exact k)
theorem Wl.astore {k : Nat} {x : Value} (G : Wl Z a0 own p l e R s m args below meth c code mx B EL h0 n0 ws sf h cells slots pc L (x :: S)) (pc' : Nat) (L' : Array Slot) (hd : decode code pc = .ok (.astore k, 2)) (hv : x.isRef = true) (hl : storeLocals L k x = some L') (hp : pc + 2 = pc') : Wl Z a0 own p l e R s m args below meth c code mx B EL h0 n0 ws sf h cells slots pc' L' S :=
  G.plain fun T H hx hy t k => XS.astore (g := mkF m pc L (x :: S)) H hx rfl (by rw [hy]; exact hd) rfl hv hl (by subst hp; exact k)
theorem Wl.astoreN {k : Fin 4} {x : Value} (G : Wl Z a0 own p l e R s m args below meth c code mx B EL h0 n0 ws sf h cells slots pc L (x :: S)) (pc' : Nat) (L' : Array Slot) (hd : decode code pc = .ok (.astore_n k, 1)) (hv : x.isRef = true) (hl : storeLocals L k.val x = some L') (hp : pc + 1 = pc') : Wl Z a0 own p l e R s m args below meth c code mx B EL h0 n0 ws sf h cells slots pc' L' S :=
  G.plain fun T H hx hy t k => XS.astoreN (g := mkF m pc L (x :: S)) H hx rfl (by rw [hy]; exact hd) rfl hv hl (by subst hp; exact k)
theorem Wl.iinc {k : Nat} {cst : Int} {x : Int32} (G : Wl Z a0 own p l e R s m args below meth c code mx B EL h0 n0 ws sf h cells slots pc L S) (pc' : Nat) (L' : Array Slot) (hd : decode code pc = .ok (.iinc k cst, 3)) (hl : L[k]? = some (.val (.int x))) (hl' : storeLocals L k (.int (x + Int32.ofInt cst)) = some L') (hp : pc + 3 = pc') : Wl Z a0 own p l e R s m args below meth c code mx B EL h0 n0 ws sf h cells slots pc' L' S :=
  G.plain fun T H hx hy t k => XS.iinc (g := mkF m pc L (S)) H hx rfl (by rw [hy]; exact hd) hl hl' (by subst hp; exact k)
theorem Wl.iincV {k : Nat} {cst : Int} {x : Int32} (G : Wl Z a0 own p l e R s m args below meth c code mx B EL h0 n0 ws sf h cells slots pc L S) (pc' : Nat) (L' : Array Slot) (y : Int32) (hd : decode code pc = .ok (.iinc k cst, 3)) (hl : L[k]? = some (.val (.int x))) (hv : x + Int32.ofInt cst = y) (hl' : storeLocals L k (.int y) = some L') (hp : pc + 3 = pc') : Wl Z a0 own p l e R s m args below meth c code mx B EL h0 n0 ws sf h cells slots pc' L' S :=
  G.plain fun T H hx hy t k => XS.iinc (g := mkF m pc L (S)) H hx rfl (by rw [hy]; exact hd) hl (by rw [hv]; exact hl') (by subst hp; exact k)
theorem Wl.iconst {i : Int} (G : Wl Z a0 own p l e R s m args below meth c code mx B EL h0 n0 ws sf h cells slots pc L S) (pc' : Nat) (v : Int32) (hd : decode code pc = .ok (.iconst i, 1)) (hv : Int32.ofInt i = v) (hp : pc + 1 = pc') : Wl Z a0 own p l e R s m args below meth c code mx B EL h0 n0 ws sf h cells slots pc' L (.int v :: S) :=
  G.plain fun T H hx hy t k => XS.iconst (g := mkF m pc L (S)) H hx rfl (by rw [hy]; exact hd) (by subst hv hp; exact k)
theorem Wl.bipush {i : Int} (G : Wl Z a0 own p l e R s m args below meth c code mx B EL h0 n0 ws sf h cells slots pc L S) (pc' : Nat) (v : Int32) (hd : decode code pc = .ok (.bipush i, 2)) (hv : (Int8.ofInt i).toInt32 = v) (hp : pc + 2 = pc') : Wl Z a0 own p l e R s m args below meth c code mx B EL h0 n0 ws sf h cells slots pc' L (.int v :: S) :=
  G.plain fun T H hx hy t k => XS.bipush (g := mkF m pc L (S)) H hx rfl (by rw [hy]; exact hd) (by subst hv hp; exact k)
theorem Wl.sipush {i : Int} (G : Wl Z a0 own p l e R s m args below meth c code mx B EL h0 n0 ws sf h cells slots pc L S) (pc' : Nat) (v : Int32) (hd : decode code pc = .ok (.sipush i, 3)) (hv : (Int16.ofInt i).toInt32 = v) (hp : pc + 3 = pc') : Wl Z a0 own p l e R s m args below meth c code mx B EL h0 n0 ws sf h cells slots pc' L (.int v :: S) :=
  G.plain fun T H hx hy t k => XS.sipush (g := mkF m pc L (S)) H hx rfl (by rw [hy]; exact hd) (by subst hv hp; exact k)
theorem Wl.lconst0  (G : Wl Z a0 own p l e R s m args below meth c code mx B EL h0 n0 ws sf h cells slots pc L S) (pc' : Nat) (hd : decode code pc = .ok (.lconst 0, 1)) (hp : pc + 1 = pc') : Wl Z a0 own p l e R s m args below meth c code mx B EL h0 n0 ws sf h cells slots pc' L (.long 0 :: S) :=
  G.plain fun T H hx hy t k => XT.lconst (g := mkF m pc L (S)) H hx rfl (by rw [hy]; exact hd) (by subst hp; exact k)
theorem Wl.lconst1  (G : Wl Z a0 own p l e R s m args below meth c code mx B EL h0 n0 ws sf h cells slots pc L S) (pc' : Nat) (hd : decode code pc = .ok (.lconst 1, 1)) (hp : pc + 1 = pc') : Wl Z a0 own p l e R s m args below meth c code mx B EL h0 n0 ws sf h cells slots pc' L (.long 1 :: S) :=
  G.plain fun T H hx hy t k => XT.lconst (g := mkF m pc L (S)) H hx rfl (by rw [hy]; exact hd) (by subst hp; exact k)
theorem Wl.aconstNull  (G : Wl Z a0 own p l e R s m args below meth c code mx B EL h0 n0 ws sf h cells slots pc L S) (pc' : Nat) (hd : decode code pc = .ok (.aconst_null, 1)) (hp : pc + 1 = pc') : Wl Z a0 own p l e R s m args below meth c code mx B EL h0 n0 ws sf h cells slots pc' L (.null :: S) :=
  G.plain fun T H hx hy t k => XS.aconstNull (g := mkF m pc L (S)) H hx rfl (by rw [hy]; exact hd) (by subst hp; exact k)
theorem Wl.iadd {x y : Int32} (G : Wl Z a0 own p l e R s m args below meth c code mx B EL h0 n0 ws sf h cells slots pc L (.int y :: .int x :: S)) (pc' : Nat) (hd : decode code pc = .ok (.iadd, 1)) (hp : pc + 1 = pc') : Wl Z a0 own p l e R s m args below meth c code mx B EL h0 n0 ws sf h cells slots pc' L (.int (x + y) :: S) :=
  G.plain fun T H hx hy t k => XS.iadd (g := mkF m pc L (.int y :: .int x :: S)) H hx rfl (by rw [hy]; exact hd) rfl (by subst hp; exact k)
theorem Wl.isub {x y : Int32} (G : Wl Z a0 own p l e R s m args below meth c code mx B EL h0 n0 ws sf h cells slots pc L (.int y :: .int x :: S)) (pc' : Nat) (hd : decode code pc = .ok (.isub, 1)) (hp : pc + 1 = pc') : Wl Z a0 own p l e R s m args below meth c code mx B EL h0 n0 ws sf h cells slots pc' L (.int (x - y) :: S) :=
  G.plain fun T H hx hy t k => XS.isub (g := mkF m pc L (.int y :: .int x :: S)) H hx rfl (by rw [hy]; exact hd) rfl (by subst hp; exact k)
theorem Wl.imul {x y : Int32} (G : Wl Z a0 own p l e R s m args below meth c code mx B EL h0 n0 ws sf h cells slots pc L (.int y :: .int x :: S)) (pc' : Nat) (hd : decode code pc = .ok (.imul, 1)) (hp : pc + 1 = pc') : Wl Z a0 own p l e R s m args below meth c code mx B EL h0 n0 ws sf h cells slots pc' L (.int (x * y) :: S) :=
  G.plain fun T H hx hy t k => XS.imul (g := mkF m pc L (.int y :: .int x :: S)) H hx rfl (by rw [hy]; exact hd) rfl (by subst hp; exact k)
theorem Wl.iand {x y : Int32} (G : Wl Z a0 own p l e R s m args below meth c code mx B EL h0 n0 ws sf h cells slots pc L (.int y :: .int x :: S)) (pc' : Nat) (hd : decode code pc = .ok (.iand, 1)) (hp : pc + 1 = pc') : Wl Z a0 own p l e R s m args below meth c code mx B EL h0 n0 ws sf h cells slots pc' L (.int (x &&& y) :: S) :=
  G.plain fun T H hx hy t k => XS.iand (g := mkF m pc L (.int y :: .int x :: S)) H hx rfl (by rw [hy]; exact hd) rfl (by subst hp; exact k)
theorem Wl.ior {x y : Int32} (G : Wl Z a0 own p l e R s m args below meth c code mx B EL h0 n0 ws sf h cells slots pc L (.int y :: .int x :: S)) (pc' : Nat) (hd : decode code pc = .ok (.ior, 1)) (hp : pc + 1 = pc') : Wl Z a0 own p l e R s m args below meth c code mx B EL h0 n0 ws sf h cells slots pc' L (.int (x ||| y) :: S) :=
  G.plain fun T H hx hy t k => XT.ior (g := mkF m pc L (.int y :: .int x :: S)) H hx rfl (by rw [hy]; exact hd) rfl (by subst hp; exact k)
theorem Wl.ixor {x y : Int32} (G : Wl Z a0 own p l e R s m args below meth c code mx B EL h0 n0 ws sf h cells slots pc L (.int y :: .int x :: S)) (pc' : Nat) (hd : decode code pc = .ok (.ixor, 1)) (hp : pc + 1 = pc') : Wl Z a0 own p l e R s m args below meth c code mx B EL h0 n0 ws sf h cells slots pc' L (.int (x ^^^ y) :: S) :=
  G.plain fun T H hx hy t k => XT.ixor (g := mkF m pc L (.int y :: .int x :: S)) H hx rfl (by rw [hy]; exact hd) rfl (by subst hp; exact k)
theorem Wl.ishl {x y : Int32} (G : Wl Z a0 own p l e R s m args below meth c code mx B EL h0 n0 ws sf h cells slots pc L (.int y :: .int x :: S)) (pc' : Nat) (hd : decode code pc = .ok (.ishl, 1)) (hp : pc + 1 = pc') : Wl Z a0 own p l e R s m args below meth c code mx B EL h0 n0 ws sf h cells slots pc' L (.int (x <<< (y &&& 31)) :: S) :=
  G.plain fun T H hx hy t k => XT.ishl (g := mkF m pc L (.int y :: .int x :: S)) H hx rfl (by rw [hy]; exact hd) rfl (by subst hp; exact k)
theorem Wl.ishr {x y : Int32} (G : Wl Z a0 own p l e R s m args below meth c code mx B EL h0 n0 ws sf h cells slots pc L (.int y :: .int x :: S)) (pc' : Nat) (hd : decode code pc = .ok (.ishr, 1)) (hp : pc + 1 = pc') : Wl Z a0 own p l e R s m args below meth c code mx B EL h0 n0 ws sf h cells slots pc' L (.int (x >>> (y &&& 31)) :: S) :=
  G.plain fun T H hx hy t k => XT.ishr (g := mkF m pc L (.int y :: .int x :: S)) H hx rfl (by rw [hy]; exact hd) rfl (by subst hp; exact k)
theorem Wl.iushr {x y : Int32} (G : Wl Z a0 own p l e R s m args below meth c code mx B EL h0 n0 ws sf h cells slots pc L (.int y :: .int x :: S)) (pc' : Nat) (hd : decode code pc = .ok (.iushr, 1)) (hp : pc + 1 = pc') : Wl Z a0 own p l e R s m args below meth c code mx B EL h0 n0 ws sf h cells slots pc' L (.int (XT.ushr x y) :: S) :=
  G.plain fun T H hx hy t k => XT.iushr (g := mkF m pc L (.int y :: .int x :: S)) H hx rfl (by rw [hy]; exact hd) rfl (by subst hp; exact k)
theorem Wl.idiv {x y : Int32} (G : Wl Z a0 own p l e R s m args below meth c code mx B EL h0 n0 ws sf h cells slots pc L (.int y :: .int x :: S)) (pc' : Nat) (hd : decode code pc = .ok (.idiv, 1)) (hy0 : y ≠ 0) (hp : pc + 1 = pc') : Wl Z a0 own p l e R s m args below meth c code mx B EL h0 n0 ws sf h cells slots pc' L (.int (x / y) :: S) :=
  G.plain fun T H hx hy t k => XS.idiv (g := mkF m pc L (.int y :: .int x :: S)) H hx rfl (by rw [hy]; exact hd) rfl hy0 (by subst hp; exact k)
theorem Wl.irem {x y : Int32} (G : Wl Z a0 own p l e R s m args below meth c code mx B EL h0 n0 ws sf h cells slots pc L (.int y :: .int x :: S)) (pc' : Nat) (hd : decode code pc = .ok (.irem, 1)) (hy0 : y ≠ 0) (hp : pc + 1 = pc') : Wl Z a0 own p l e R s m args below meth c code mx B EL h0 n0 ws sf h cells slots pc' L (.int (x - (x / y) * y) :: S) :=
  G.plain fun T H hx hy t k => XS.irem (g := mkF m pc L (.int y :: .int x :: S)) H hx rfl (by rw [hy]; exact hd) rfl hy0 (by subst hp; exact k)
theorem Wl.ineg {x : Int32} (G : Wl Z a0 own p l e R s m args below meth c code mx B EL h0 n0 ws sf h cells slots pc L (.int x :: S)) (pc' : Nat) (hd : decode code pc = .ok (.ineg, 1)) (hp : pc + 1 = pc') : Wl Z a0 own p l e R s m args below meth c code mx B EL h0 n0 ws sf h cells slots pc' L (.int (-x) :: S) :=
  G.plain fun T H hx hy t k => XS.ineg (g := mkF m pc L (.int x :: S)) H hx rfl (by rw [hy]; exact hd) rfl (by subst hp; exact k)
theorem Wl.ladd {x y : Int64} (G : Wl Z a0 own p l e R s m args below meth c code mx B EL h0 n0 ws sf h cells slots pc L (.long y :: .long x :: S)) (pc' : Nat) (hd : decode code pc = .ok (.ladd, 1)) (hp : pc + 1 = pc') : Wl Z a0 own p l e R s m args below meth c code mx B EL h0 n0 ws sf h cells slots pc' L (.long (x + y) :: S) :=
  G.plain fun T H hx hy t k => XT.ladd (g := mkF m pc L (.long y :: .long x :: S)) H hx rfl (by rw [hy]; exact hd) rfl (by subst hp; exact k)
theorem Wl.lsub {x y : Int64} (G : Wl Z a0 own p l e R s m args below meth c code mx B EL h0 n0 ws sf h cells slots pc L (.long y :: .long x :: S)) (pc' : Nat) (hd : decode code pc = .ok (.lsub, 1)) (hp : pc + 1 = pc') : Wl Z a0 own p l e R s m args below meth c code mx B EL h0 n0 ws sf h cells slots pc' L (.long (x - y) :: S) :=
  G.plain fun T H hx hy t k => XT.lsub (g := mkF m pc L (.long y :: .long x :: S)) H hx rfl (by rw [hy]; exact hd) rfl (by subst hp; exact k)
theorem Wl.lmul {x y : Int64} (G : Wl Z a0 own p l e R s m args below meth c code mx B EL h0 n0 ws sf h cells slots pc L (.long y :: .long x :: S)) (pc' : Nat) (hd : decode code pc = .ok (.lmul, 1)) (hp : pc + 1 = pc') : Wl Z a0 own p l e R s m args below meth c code mx B EL h0 n0 ws sf h cells slots pc' L (.long (x * y) :: S) :=
  G.plain fun T H hx hy t k => XT.lmul (g := mkF m pc L (.long y :: .long x :: S)) H hx rfl (by rw [hy]; exact hd) rfl (by subst hp; exact k)
theorem Wl.land {x y : Int64} (G : Wl Z a0 own p l e R s m args below meth c code mx B EL h0 n0 ws sf h cells slots pc L (.long y :: .long x :: S)) (pc' : Nat) (hd : decode code pc = .ok (.land, 1)) (hp : pc + 1 = pc') : Wl Z a0 own p l e R s m args below meth c code mx B EL h0 n0 ws sf h cells slots pc' L (.long (x &&& y) :: S) :=
  G.plain fun T H hx hy t k => XT.land (g := mkF m pc L (.long y :: .long x :: S)) H hx rfl (by rw [hy]; exact hd) rfl (by subst hp; exact k)
theorem Wl.lor {x y : Int64} (G : Wl Z a0 own p l e R s m args below meth c code mx B EL h0 n0 ws sf h cells slots pc L (.long y :: .long x :: S)) (pc' : Nat) (hd : decode code pc = .ok (.lor, 1)) (hp : pc + 1 = pc') : Wl Z a0 own p l e R s m args below meth c code mx B EL h0 n0 ws sf h cells slots pc' L (.long (x ||| y) :: S) :=
  G.plain fun T H hx hy t k => XT.lor (g := mkF m pc L (.long y :: .long x :: S)) H hx rfl (by rw [hy]; exact hd) rfl (by subst hp; exact k)
theorem Wl.lxor {x y : Int64} (G : Wl Z a0 own p l e R s m args below meth c code mx B EL h0 n0 ws sf h cells slots pc L (.long y :: .long x :: S)) (pc' : Nat) (hd : decode code pc = .ok (.lxor, 1)) (hp : pc + 1 = pc') : Wl Z a0 own p l e R s m args below meth c code mx B EL h0 n0 ws sf h cells slots pc' L (.long (x ^^^ y) :: S) :=
  G.plain fun T H hx hy t k => XT.lxor (g := mkF m pc L (.long y :: .long x :: S)) H hx rfl (by rw [hy]; exact hd) rfl (by subst hp; exact k)
theorem Wl.ldiv {x y : Int64} (G : Wl Z a0 own p l e R s m args below meth c code mx B EL h0 n0 ws sf h cells slots pc L (.long y :: .long x :: S)) (pc' : Nat) (hd : decode code pc = .ok (.ldiv, 1)) (hy0 : y ≠ 0) (hp : pc + 1 = pc') : Wl Z a0 own p l e R s m args below meth c code mx B EL h0 n0 ws sf h cells slots pc' L (.long (x / y) :: S) :=
  G.plain fun T H hx hy t k => XT.ldiv (g := mkF m pc L (.long y :: .long x :: S)) H hx rfl (by rw [hy]; exact hd) rfl hy0 (by subst hp; exact k)
theorem Wl.lrem {x y : Int64} (G : Wl Z a0 own p l e R s m args below meth c code mx B EL h0 n0 ws sf h cells slots pc L (.long y :: .long x :: S)) (pc' : Nat) (hd : decode code pc = .ok (.lrem, 1)) (hy0 : y ≠ 0) (hp : pc + 1 = pc') : Wl Z a0 own p l e R s m args below meth c code mx B EL h0 n0 ws sf h cells slots pc' L (.long (x - (x / y) * y) :: S) :=
  G.plain fun T H hx hy t k => XT.lrem (g := mkF m pc L (.long y :: .long x :: S)) H hx rfl (by rw [hy]; exact hd) rfl hy0 (by subst hp; exact k)
theorem Wl.lneg {x : Int64} (G : Wl Z a0 own p l e R s m args below meth c code mx B EL h0 n0 ws sf h cells slots pc L (.long x :: S)) (pc' : Nat) (hd : decode code pc = .ok (.lneg, 1)) (hp : pc + 1 = pc') : Wl Z a0 own p l e R s m args below meth c code mx B EL h0 n0 ws sf h cells slots pc' L (.long (-x) :: S) :=
  G.plain fun T H hx hy t k => XT.lneg (g := mkF m pc L (.long x :: S)) H hx rfl (by rw [hy]; exact hd) rfl (by subst hp; exact k)
theorem Wl.lushr {x : Int64} {y : Int32} (G : Wl Z a0 own p l e R s m args below meth c code mx B EL h0 n0 ws sf h cells slots pc L (.int y :: .long x :: S)) (pc' : Nat) (hd : decode code pc = .ok (.lushr, 1)) (hp : pc + 1 = pc') : Wl Z a0 own p l e R s m args below meth c code mx B EL h0 n0 ws sf h cells slots pc' L (.long (XT.ushrL x y) :: S) :=
  G.plain fun T H hx hy t k => XT.lushr (g := mkF m pc L (.int y :: .long x :: S)) H hx rfl (by rw [hy]; exact hd) rfl (by subst hp; exact k)
theorem Wl.lcmp {x y : Int64} (G : Wl Z a0 own p l e R s m args below meth c code mx B EL h0 n0 ws sf h cells slots pc L (.long y :: .long x :: S)) (pc' : Nat) (hd : decode code pc = .ok (.lcmp, 1)) (hp : pc + 1 = pc') : Wl Z a0 own p l e R s m args below meth c code mx B EL h0 n0 ws sf h cells slots pc' L (.int (XT.cmpL x y) :: S) :=
  G.plain fun T H hx hy t k => XT.lcmp (g := mkF m pc L (.long y :: .long x :: S)) H hx rfl (by rw [hy]; exact hd) rfl (by subst hp; exact k)
theorem Wl.i2l {x : Int32} (G : Wl Z a0 own p l e R s m args below meth c code mx B EL h0 n0 ws sf h cells slots pc L (.int x :: S)) (pc' : Nat) (hd : decode code pc = .ok (.i2l, 1)) (hp : pc + 1 = pc') : Wl Z a0 own p l e R s m args below meth c code mx B EL h0 n0 ws sf h cells slots pc' L (.long x.toInt64 :: S) :=
  G.plain fun T H hx hy t k => XT.i2l (g := mkF m pc L (.int x :: S)) H hx rfl (by rw [hy]; exact hd) rfl (by subst hp; exact k)
theorem Wl.l2i {x : Int64} (G : Wl Z a0 own p l e R s m args below meth c code mx B EL h0 n0 ws sf h cells slots pc L (.long x :: S)) (pc' : Nat) (hd : decode code pc = .ok (.l2i, 1)) (hp : pc + 1 = pc') : Wl Z a0 own p l e R s m args below meth c code mx B EL h0 n0 ws sf h cells slots pc' L (.int x.toInt32 :: S) :=
  G.plain fun T H hx hy t k => XT.l2i (g := mkF m pc L (.long x :: S)) H hx rfl (by rw [hy]; exact hd) rfl (by subst hp; exact k)
theorem Wl.i2b {x : Int32} (G : Wl Z a0 own p l e R s m args below meth c code mx B EL h0 n0 ws sf h cells slots pc L (.int x :: S)) (pc' : Nat) (hd : decode code pc = .ok (.i2b, 1)) (hp : pc + 1 = pc') : Wl Z a0 own p l e R s m args below meth c code mx B EL h0 n0 ws sf h cells slots pc' L (.int x.toInt8.toInt32 :: S) :=
  G.plain fun T H hx hy t k => XT.i2b (g := mkF m pc L (.int x :: S)) H hx rfl (by rw [hy]; exact hd) rfl (by subst hp; exact k)
theorem Wl.i2c {x : Int32} (G : Wl Z a0 own p l e R s m args below meth c code mx B EL h0 n0 ws sf h cells slots pc L (.int x :: S)) (pc' : Nat) (hd : decode code pc = .ok (.i2c, 1)) (hp : pc + 1 = pc') : Wl Z a0 own p l e R s m args below meth c code mx B EL h0 n0 ws sf h cells slots pc' L (.int x.toUInt32.toUInt16.toUInt32.toInt32 :: S) :=
  G.plain fun T H hx hy t k => XT.i2c (g := mkF m pc L (.int x :: S)) H hx rfl (by rw [hy]; exact hd) rfl (by subst hp; exact k)
theorem Wl.dup {x : Value} (G : Wl Z a0 own p l e R s m args below meth c code mx B EL h0 n0 ws sf h cells slots pc L (x :: S)) (pc' : Nat) (hd : decode code pc = .ok (.dup, 1)) (hc : x.category = 1) (hp : pc + 1 = pc') : Wl Z a0 own p l e R s m args below meth c code mx B EL h0 n0 ws sf h cells slots pc' L (x :: x :: S) :=
  G.plain fun T H hx hy t k => XS.dup (g := mkF m pc L (x :: S)) H hx rfl (by rw [hy]; exact hd) rfl hc (by subst hp; exact k)
theorem Wl.pop {x : Value} (G : Wl Z a0 own p l e R s m args below meth c code mx B EL h0 n0 ws sf h cells slots pc L (x :: S)) (pc' : Nat) (hd : decode code pc = .ok (.pop, 1)) (hc : x.category = 1) (hp : pc + 1 = pc') : Wl Z a0 own p l e R s m args below meth c code mx B EL h0 n0 ws sf h cells slots pc' L S :=
  G.plain fun T H hx hy t k => XT.pop (g := mkF m pc L (x :: S)) H hx rfl (by rw [hy]; exact hd) rfl hc (by subst hp; exact k)
theorem Wl.dupX1 {x y : Value} (G : Wl Z a0 own p l e R s m args below meth c code mx B EL h0 n0 ws sf h cells slots pc L (y :: x :: S)) (pc' : Nat) (hd : decode code pc = .ok (.dup_x1, 1)) (hc : y.category = 1) (hc' : x.category = 1) (hp : pc + 1 = pc') : Wl Z a0 own p l e R s m args below meth c code mx B EL h0 n0 ws sf h cells slots pc' L (y :: x :: y :: S) :=
  G.plain fun T H hx hy t k => XT.dupX1 (g := mkF m pc L (y :: x :: S)) H hx rfl (by rw [hy]; exact hd) rfl hc hc' (by subst hp; exact k)
theorem Wl.i2dS {x : Int32} {v : UInt64} (G : Wl Z a0 own p l e R s m args below meth c code mx B EL h0 n0 ws sf h cells slots pc L (.int x :: S)) (pc' : Nat) (hd : decode code pc = .ok (.i2d, 1)) (hv : FP.i2d x = v) (hp : pc + 1 = pc') : Wl Z a0 own p l e R s m args below meth c code mx B EL h0 n0 ws sf h cells slots pc' L (.double v :: S) :=
  G.plain fun T H hx hy t k => XS.i2dS (g := mkF m pc L (.int x :: S)) H hx rfl (by rw [hy]; exact hd) rfl hv (by subst hp; exact k)
theorem Wl.l2dS {x : Int64} {v : UInt64} (G : Wl Z a0 own p l e R s m args below meth c code mx B EL h0 n0 ws sf h cells slots pc L (.long x :: S)) (pc' : Nat) (hd : decode code pc = .ok (.l2d, 1)) (hv : FP.l2d x = v) (hp : pc + 1 = pc') : Wl Z a0 own p l e R s m args below meth c code mx B EL h0 n0 ws sf h cells slots pc' L (.double v :: S) :=
  G.plain fun T H hx hy t k => XS.l2dS (g := mkF m pc L (.long x :: S)) H hx rfl (by rw [hy]; exact hd) rfl hv (by subst hp; exact k)
theorem Wl.daddS {x y v : UInt64} (G : Wl Z a0 own p l e R s m args below meth c code mx B EL h0 n0 ws sf h cells slots pc L (.double y :: .double x :: S)) (pc' : Nat) (hd : decode code pc = .ok (.dadd, 1)) (hn : Jvm.Free.Fl.NoNaN64 (FP.dadd x y)) (hv : FP.dadd x y = v) (hp : pc + 1 = pc') : Wl Z a0 own p l e R s m args below meth c code mx B EL h0 n0 ws sf h cells slots pc' L (.double v :: S) :=
  G.plain fun T H hx hy t k => XS.daddS (g := mkF m pc L (.double y :: .double x :: S)) H hx rfl (by rw [hy]; exact hd) rfl hn hv (by subst hp; exact k)
theorem Wl.dcmpS {o : CmpOp} {x y : UInt64} {v : Int32} (G : Wl Z a0 own p l e R s m args below meth c code mx B EL h0 n0 ws sf h cells slots pc L (.double y :: .double x :: S)) (pc' : Nat) (hd : decode code pc = .ok (.dcmp o, 1)) (hv : cmpValue (FP.dcmp x y) o = v) (hp : pc + 1 = pc') : Wl Z a0 own p l e R s m args below meth c code mx B EL h0 n0 ws sf h cells slots pc' L (.int v :: S) :=
  G.plain fun T H hx hy t k => XS.dcmpS (g := mkF m pc L (.double y :: .double x :: S)) H hx rfl (by rw [hy]; exact hd) rfl hv (by subst hp; exact k)
theorem Wl.goto  {o : Int} (G : Wl Z a0 own p l e R s m args below meth c code mx B EL h0 n0 ws sf h cells slots pc L S) (pc' : Nat) (hd : decode code pc = .ok (.goto o, 3)) (ho : 0 ≤ (pc : Int) + o) (hp : ((pc : Int) + o).toNat = pc') : Wl Z a0 own p l e R s m args below meth c code mx B EL h0 n0 ws sf h cells slots pc' L S :=
  G.plain fun T H hx hy t k => XS.goto (g := mkF m pc L (S)) (pc' := pc') H hx rfl rfl (by rw [hy]; exact hd) ho hp k
theorem Wl.ifT {cd : ClassFile.Cond} {x : Int32} {o : Int} (G : Wl Z a0 own p l e R s m args below meth c code mx B EL h0 n0 ws sf h cells slots pc L (.int x :: S)) (pc' : Nat) (hd : decode code pc = .ok (.ifCond cd o, 3)) (hc : ifCond.holds cd x = true) (ho : 0 ≤ (pc : Int) + o) (hp : ((pc : Int) + o).toNat = pc') : Wl Z a0 own p l e R s m args below meth c code mx B EL h0 n0 ws sf h cells slots pc' L S :=
  G.plain fun T H hx hy t k => XS.ifYes (g := mkF m pc L (.int x :: S)) (pc' := pc') H hx rfl rfl (by rw [hy]; exact hd) rfl hc ho hp k
theorem Wl.icmpT {cd : ClassFile.Cond} {x y : Int32} {o : Int} (G : Wl Z a0 own p l e R s m args below meth c code mx B EL h0 n0 ws sf h cells slots pc L (.int y :: .int x :: S)) (pc' : Nat) (hd : decode code pc = .ok (.if_icmp cd o, 3)) (hc : if_icmp.holds cd x y = true) (ho : 0 ≤ (pc : Int) + o) (hp : ((pc : Int) + o).toNat = pc') : Wl Z a0 own p l e R s m args below meth c code mx B EL h0 n0 ws sf h cells slots pc' L S :=
  G.plain fun T H hx hy t k => XS.icmpYes (g := mkF m pc L (.int y :: .int x :: S)) (pc' := pc') H hx rfl rfl (by rw [hy]; exact hd) rfl hc ho hp k
theorem Wl.ifnullT  {o : Int} (G : Wl Z a0 own p l e R s m args below meth c code mx B EL h0 n0 ws sf h cells slots pc L (.null :: S)) (pc' : Nat) (hd : decode code pc = .ok (.ifnull o, 3)) (ho : 0 ≤ (pc : Int) + o) (hp : ((pc : Int) + o).toNat = pc') : Wl Z a0 own p l e R s m args below meth c code mx B EL h0 n0 ws sf h cells slots pc' L S :=
  G.plain fun T H hx hy t k => XS.ifnullYes (g := mkF m pc L (.null :: S)) (pc' := pc') H hx rfl rfl (by rw [hy]; exact hd) rfl ho hp k
theorem Wl.ifnonnullT {b : Addr} {o : Int} (G : Wl Z a0 own p l e R s m args below meth c code mx B EL h0 n0 ws sf h cells slots pc L (.ref b :: S)) (pc' : Nat) (hd : decode code pc = .ok (.ifnonnull o, 3)) (ho : 0 ≤ (pc : Int) + o) (hp : ((pc : Int) + o).toNat = pc') : Wl Z a0 own p l e R s m args below meth c code mx B EL h0 n0 ws sf h cells slots pc' L S :=
  G.plain fun T H hx hy t k => XT.ifnonnullYes (g := mkF m pc L (.ref b :: S)) (pc' := pc') H hx rfl rfl (by rw [hy]; exact hd) rfl ho hp k
theorem Wl.acmpT {cd : ClassFile.ACond} {x y : Value} {o : Int} (G : Wl Z a0 own p l e R s m args below meth c code mx B EL h0 n0 ws sf h cells slots pc L (y :: x :: S)) (pc' : Nat) (hd : decode code pc = .ok (.if_acmp cd o, 3)) (hx1 : x.isRef = true) (hy1 : y.isRef = true) (hc : XT.acmp cd x y = true) (ho : 0 ≤ (pc : Int) + o) (hp : ((pc : Int) + o).toNat = pc') : Wl Z a0 own p l e R s m args below meth c code mx B EL h0 n0 ws sf h cells slots pc' L S :=
  G.plain fun T H hx hy t k => XT.acmpYes (g := mkF m pc L (y :: x :: S)) (pc' := pc') H hx rfl rfl (by rw [hy]; exact hd) rfl hx1 hy1 hc ho hp k
theorem Wl.ifF {cd : ClassFile.Cond} {x : Int32} {o : Int} (G : Wl Z a0 own p l e R s m args below meth c code mx B EL h0 n0 ws sf h cells slots pc L (.int x :: S)) (pc' : Nat) (hd : decode code pc = .ok (.ifCond cd o, 3)) (hc : ifCond.holds cd x = false) (hp : pc + 3 = pc') : Wl Z a0 own p l e R s m args below meth c code mx B EL h0 n0 ws sf h cells slots pc' L S :=
  G.plain fun T H hx hy t k => XS.ifNo (g := mkF m pc L (.int x :: S)) H hx rfl (by rw [hy]; exact hd) rfl hc (by subst hp; exact k)
theorem Wl.icmpF {cd : ClassFile.Cond} {x y : Int32} {o : Int} (G : Wl Z a0 own p l e R s m args below meth c code mx B EL h0 n0 ws sf h cells slots pc L (.int y :: .int x :: S)) (pc' : Nat) (hd : decode code pc = .ok (.if_icmp cd o, 3)) (hc : if_icmp.holds cd x y = false) (hp : pc + 3 = pc') : Wl Z a0 own p l e R s m args below meth c code mx B EL h0 n0 ws sf h cells slots pc' L S :=
  G.plain fun T H hx hy t k => XS.icmpNo (g := mkF m pc L (.int y :: .int x :: S)) H hx rfl (by rw [hy]; exact hd) rfl hc (by subst hp; exact k)
theorem Wl.ifnullF {b : Addr} {o : Int} (G : Wl Z a0 own p l e R s m args below meth c code mx B EL h0 n0 ws sf h cells slots pc L (.ref b :: S)) (pc' : Nat) (hd : decode code pc = .ok (.ifnull o, 3)) (hp : pc + 3 = pc') : Wl Z a0 own p l e R s m args below meth c code mx B EL h0 n0 ws sf h cells slots pc' L S :=
  G.plain fun T H hx hy t k => XS.ifnullNo (g := mkF m pc L (.ref b :: S)) H hx rfl (by rw [hy]; exact hd) rfl (by subst hp; exact k)
theorem Wl.ifnonnullF  {o : Int} (G : Wl Z a0 own p l e R s m args below meth c code mx B EL h0 n0 ws sf h cells slots pc L (.null :: S)) (pc' : Nat) (hd : decode code pc = .ok (.ifnonnull o, 3)) (hp : pc + 3 = pc') : Wl Z a0 own p l e R s m args below meth c code mx B EL h0 n0 ws sf h cells slots pc' L S :=
  G.plain fun T H hx hy t k => XT.ifnonnullNo (g := mkF m pc L (.null :: S)) H hx rfl (by rw [hy]; exact hd) rfl (by subst hp; exact k)
theorem Wl.acmpF {cd : ClassFile.ACond} {x y : Value} {o : Int} (G : Wl Z a0 own p l e R s m args below meth c code mx B EL h0 n0 ws sf h cells slots pc L (y :: x :: S)) (pc' : Nat) (hd : decode code pc = .ok (.if_acmp cd o, 3)) (hx1 : x.isRef = true) (hy1 : y.isRef = true) (hc : XT.acmp cd x y = false) (hp : pc + 3 = pc') : Wl Z a0 own p l e R s m args below meth c code mx B EL h0 n0 ws sf h cells slots pc' L S :=
  G.plain fun T H hx hy t k => XT.acmpNo (g := mkF m pc L (y :: x :: S)) H hx rfl (by rw [hy]; exact hd) rfl hx1 hy1 hc (by subst hp; exact k)
theorem ext_keep {h h' : Heap} (E : Ext h h') : Keep h h' [] := (Keep.refl h []).ext E
def NW (h0 : Heap) (ws : List Addr) (a : Addr) : Prop := a ∈ ws ∨ h0.size ≤ a
theorem NW.new {a : Addr} (q : h0.size ≤ a) : NW h0 ws a := Or.inr q
theorem ne_new {a b : Addr} {n : Nat} (q : a = n) (r : b < n) : b ≠ a := Nat.ne_of_lt (q.symm ▸ r)
theorem ne_ge {a b : Addr} {n : Nat} (r : a < n) (q : n ≤ b) : b ≠ a := (Nat.ne_of_lt (Nat.lt_of_lt_of_le r q)).symm
theorem Wl.new {C : String} {index n : Nat} (G : Wl Z a0 own p l e R s m args below meth c code mx B EL h0 n0 ws sf h cells slots pc L S) (pc' : Nat) (w : (Cond.classLink own index C).before a0 Z = true) (wi : (Cond.instantiable C n).before a0 Z = true) (wz : (Cond.initialized C).before a0 Z = true) (hd : decode code pc = .ok (.new index, 3)) (hp : pc + 3 = pc') (hc : cells + 1 ≤ R.cells) (hl : slots + n ≤ R.slots) : ∃ (a : Addr) (h' : Heap), Wl Z a0 own p l e R s m args below meth c code mx B EL h0 n0 ws (a :: sf) h' (cells + 1) (slots + n) pc' L (.ref a :: S) ∧ a = h.size ∧ h0.size ≤ a ∧ Ext h h' ∧ Exa Z h' a C ∧ (∀ {O nm d : String} {ty : FieldType}, Laid Z a0 C O nm d → parseFieldDescriptor d = some ty → Fld Z h' a O nm d (defaultValue ty)) ∧ Unt h' a := by
  obtain ⟨⟨hx, hby, hml, hEW⟩, ⟨o1, z2, z3, z1, es⟩, v0, k0, T, locs, X, ⟨hS, hk, hZ, hown⟩, ⟨hC, hF⟩, N, eT, k⟩ := G
  obtain ⟨T', h', X', e', E, A, D, U, st⟩ := newO X hx hZ hown w wi wz eT (g := mkF m pc L S) rfl (hb hby hd) hc hl
  exact ⟨h.size, h', ⟨⟨hx, hby, hml, hEW⟩, ⟨o1.ext E, z2.ext E, z3, z1, es⟩, v0, k0, T', _, X', ⟨hS, Nat.le_trans hk E.1, hZ, hown⟩, ⟨hC.trans (CHr.ext E hC.1), safeNew E hC.1 hF A.lt⟩, N, e', fun t q => k t (st t (by subst hp; exact q))⟩, rfl, z2.1, E, A, D, U⟩
theorem Wl.newarray {aty : ArrayType} {n : Int32} (G : Wl Z a0 own p l e R s m args below meth c code mx B EL h0 n0 ws sf h cells slots pc L (.int n :: S)) (pc' : Nat) (w : (Cond.arrayClass (newarray.typeOf aty)).before a0 Z = true) (hd : decode code pc = .ok (.newarray aty, 2)) (hn : ¬ n < 0) (cap : Nat) (hcap : n.toNatClampNeg ≤ cap) (hb8 : cap * 8 ≤ 536870912) (hp : pc + 2 = pc') (hc : cells + 1 ≤ R.cells) (hl : slots + cap ≤ R.slots) : ∃ (a : Addr) (h' : Heap) (k : ClassId), Wl Z a0 own p l e R s m args below meth c code mx B EL h0 n0 ws (a :: sf) h' (cells + 1) (slots + cap) pc' L (.ref a :: S) ∧ a = h.size ∧ h0.size ≤ a ∧ Ext h h' ∧ Arv Z h' a k (newarray.typeOf aty) n [] (defaultValue (newarray.typeOf aty)) := by
  obtain ⟨⟨hx, hby, hml, hEW⟩, ⟨o1, z2, z3, z1, es⟩, v0, k0, T, locs, X, ⟨hS, hk, hZ, hown⟩, ⟨hC, hF⟩, N, eT, k⟩ := G
  obtain ⟨T', h', cA, X', e', E, A, st⟩ := newP X hx hZ w eT (g := mkF m pc L (.int n :: S)) rfl (hb hby hd) rfl hn hcap hb8 hc hl
  exact ⟨h.size, h', cA, ⟨⟨hx, hby, hml, hEW⟩, ⟨o1.ext E, z2.ext E, z3, z1, es⟩, v0, k0, T', _, X', ⟨hS, Nat.le_trans hk E.1, hZ, hown⟩, ⟨hC.trans (CHr.ext E hC.1), safeNew E hC.1 hF A.lt⟩, N, e', fun t q => k t (st t (by subst hp; exact q))⟩, rfl, z2.1, E, Arv.new A hn⟩
theorem Wl.getf {R0 O n d host : String} {index : Nat} {a : Addr} {v : Value} (G : Wl Z a0 own p l e R s m args below meth c code mx B EL h0 n0 ws sf h cells slots pc L (.ref a :: S)) (pc' : Nat) (w : (Cond.fieldLink own index R0 n d).before a0 Z = true ∨ (Cond.fieldLinkNest own index R0 n d host).before a0 Z = true) (via : Via Z R0 O n d) (F : Fld Z h a O n d v) (hd : decode code pc = .ok (.getfield index, 3)) (hp : pc + 3 = pc') : Wl Z a0 own p l e R s m args below meth c code mx B EL h0 n0 ws sf h cells slots pc' L (v :: S) := by
  obtain ⟨⟨hx, hby, hml, hEW⟩, ⟨o1, z2, z3, z1, es⟩, v0, k0, T, locs, X, ⟨hS, hk, hZ, hown⟩, ⟨hC, hF⟩, N, eT, k⟩ := G
  obtain ⟨T', X', e', st⟩ := getF X hx hZ hown w via eT F (g := mkF m pc L (.ref a :: S)) rfl rfl (hb hby hd)
  exact ⟨⟨hx, hby, hml, hEW⟩, ⟨o1, z2, z3, z1, es⟩, v0, k0, T', _, X', ⟨hS, hk, hZ, hown⟩, ⟨hC, hF⟩, N, e', fun t q => k t (st t (by subst hp; exact q))⟩
theorem Wl.gets {R0 O n d host : String} {index : Nat} {v : Value} (G : Wl Z a0 own p l e R s m args below meth c code mx B EL h0 n0 ws sf h cells slots pc L S) (pc' : Nat) (w : (Cond.fieldLink own index R0 n d).before a0 Z = true ∨ (Cond.fieldLinkNest own index R0 n d host).before a0 Z = true) (via : Via Z R0 O n d) (F : Sta Z h O n d v) (hd : decode code pc = .ok (.getstatic index, 3)) (hp : pc + 3 = pc') : Wl Z a0 own p l e R s m args below meth c code mx B EL h0 n0 ws sf h cells slots pc' L (v :: S) := by
  obtain ⟨⟨hx, hby, hml, hEW⟩, ⟨o1, z2, z3, z1, es⟩, v0, k0, T, locs, X, ⟨hS, hk, hZ, hown⟩, ⟨hC, hF⟩, N, eT, k⟩ := G
  obtain ⟨T', X', e', st⟩ := getS2 X hx hZ hown w via eT F (g := mkF m pc L S) rfl (hb hby hd)
  exact ⟨⟨hx, hby, hml, hEW⟩, ⟨o1, z2, z3, z1, es⟩, v0, k0, T', _, X', ⟨hS, hk, hZ, hown⟩, ⟨hC, hF⟩, N, e', fun t q => k t (st t (by subst hp; exact q))⟩
theorem Wl.putf {R0 O n d host C : String} {index kk : Nat} {ty : FieldType} {a : Addr} {v old : Value} (G : Wl Z a0 own p l e R s m args below meth c code mx B EL h0 n0 ws sf h cells slots pc L (v :: .ref a :: S)) (pc' : Nat) (w : (Cond.fieldLink own index R0 n d).before a0 Z = true ∨ (Cond.fieldLinkNest own index R0 n d host).before a0 Z = true) (via : Via Z R0 O n d) (F : Fld Z h a O n d old) (E : Exa Z h a C) (lay : (Cond.lays C O n d).before a0 Z = true ∨ ((Cond.laysFinal C O n d).before a0 Z = true ∧ own = O ∧ meth.name = "<init>")) (wi : (Cond.instantiable C kk).before a0 Z = true) (hty : parseFieldDescriptor d = some ty) (hn : narrow ty v = v) (hf : fits ty v = true) (q : NW h0 ws a) (qs : a ∈ sf) (hd : decode code pc = .ok (.putfield index, 3)) (hp : pc + 3 = pc') : ∃ (h' : Heap), Wl Z a0 own p l e R s m args below meth c code mx B EL h0 n0 ws sf h' cells slots pc' L S ∧ Wr h h' a (Jvm.RoadKit.slotOf Z O n d) v ∧ Fld Z h' a O n d v ∧ Keep h h' [a] := by
  have qn := G.nw q
  obtain ⟨⟨hx, hby, hml, hEW⟩, ⟨o1, z2, z3, z1, es⟩, v0, k0, T, locs, X, ⟨hS, hk, hZ, hown⟩, ⟨hC, hF⟩, N, eT, k⟩ := G
  obtain ⟨T', h', X', e', W', st⟩ := putF X hx hZ hown w via eT F E lay wi hty hn hf (g := mkF m pc L (v :: .ref a :: S)) rfl rfl (hb hby hd)
  exact ⟨h', ⟨⟨hx, hby, hml, hEW⟩, ⟨o1.wr W' qn, z2.wr W' q, z3, z1, es⟩, v0, k0, T', _, X', ⟨hS, (by rw [W'.size]; exact hk), hZ, hown⟩, ⟨hC.trans (CHr.wr W' (hF _ qs).2 hC.1), safeKeep (Keep.of_wr W') (fun x y => by cases List.mem_singleton.mp y; exact (hF _ qs).2) hC.1 hF⟩, Fr.snoc X' N qn, e', fun t q => k t (st t (by subst hp; exact q))⟩, W', F.same W', Keep.of_wr W'⟩
theorem Wl.alen {a : Addr} {k : ClassId} {ty : FieldType} {z : Int32} {vs : List Value} {dv : Value} (G : Wl Z a0 own p l e R s m args below meth c code mx B EL h0 n0 ws sf h cells slots pc L (.ref a :: S)) (pc' : Nat) (A : Arv Z h a k ty z vs dv) (hd : decode code pc = .ok (.arraylength, 1)) (hp : pc + 1 = pc') : Wl Z a0 own p l e R s m args below meth c code mx B EL h0 n0 ws sf h cells slots pc' L (.int z :: S) := by
  obtain ⟨⟨hx, hby, hml, hEW⟩, ⟨o1, z2, z3, z1, es⟩, v0, k0, T, locs, X, ⟨hS, hk, hZ, hown⟩, ⟨hC, hF⟩, N, eT, k⟩ := G
  obtain ⟨cl, Ar, -, hSz, hN, -⟩ := A
  refine ⟨⟨hx, hby, hml, hEW⟩, ⟨o1, z2, z3, z1, es⟩, v0, k0, T, locs, X, ⟨hS, hk, hZ, hown⟩, ⟨hC, hF⟩, N, eT, fun t q => k t ?_⟩
  refine X.arraylength hx (by rw [eT]; exact Ar.1) (State.isArrayOf_alike hZ.alike Ar.2.1) (g := mkF m pc L (.ref a :: S)) rfl rfl (hb hby hd) _ ?_
  rw [len_of hSz hN]; exact hp ▸ q
theorem Wl.iaload {a : Addr} {k : ClassId} {z j : Int32} {vs : List Value} {dv v : Value} (G : Wl Z a0 own p l e R s m args below meth c code mx B EL h0 n0 ws sf h cells slots pc L (.int j :: .ref a :: S)) (pc' : Nat) (A : Arv Z h a k .int z vs dv) (hj : ¬ j < 0 ∧ j < z) (hv : vs.getD j.toNatClampNeg dv = v) (hd : decode code pc = .ok (.iaload, 1)) (hp : pc + 1 = pc') : Wl Z a0 own p l e R s m args below meth c code mx B EL h0 n0 ws sf h cells slots pc' L (v :: S) := by
  obtain ⟨⟨hx, hby, hml, hEW⟩, ⟨o1, z2, z3, z1, es⟩, v0, k0, T, locs, X, ⟨hS, hk, hZ, hown⟩, ⟨hC, hF⟩, N, eT, k⟩ := G
  obtain ⟨cl, Ar, -, hSz, hN, H, -⟩ := A
  refine ⟨⟨hx, hby, hml, hEW⟩, ⟨o1, z2, z3, z1, es⟩, v0, k0, T, locs, X, ⟨hS, hk, hZ, hown⟩, ⟨hC, hF⟩, N, eT, fun t q => k t ?_⟩
  have hin := inb_of hSz hj
  exact X.iaload hx (by rw [eT]; exact Ar.1) (State.isArrayOf_alike hZ.alike Ar.2.1) Ar.2.2 hin (H.at hin hv) (g := mkF m pc L (.int j :: .ref a :: S)) rfl rfl (hb hby hd) t (by subst hp; exact q)
theorem Wl.laload {a : Addr} {k : ClassId} {z j : Int32} {vs : List Value} {dv v : Value} (G : Wl Z a0 own p l e R s m args below meth c code mx B EL h0 n0 ws sf h cells slots pc L (.int j :: .ref a :: S)) (pc' : Nat) (A : Arv Z h a k .long z vs dv) (hj : ¬ j < 0 ∧ j < z) (hv : vs.getD j.toNatClampNeg dv = v) (hd : decode code pc = .ok (.laload, 1)) (hp : pc + 1 = pc') : Wl Z a0 own p l e R s m args below meth c code mx B EL h0 n0 ws sf h cells slots pc' L (v :: S) := by
  obtain ⟨⟨hx, hby, hml, hEW⟩, ⟨o1, z2, z3, z1, es⟩, v0, k0, T, locs, X, ⟨hS, hk, hZ, hown⟩, ⟨hC, hF⟩, N, eT, k⟩ := G
  obtain ⟨cl, Ar, -, hSz, hN, H, -⟩ := A
  refine ⟨⟨hx, hby, hml, hEW⟩, ⟨o1, z2, z3, z1, es⟩, v0, k0, T, locs, X, ⟨hS, hk, hZ, hown⟩, ⟨hC, hF⟩, N, eT, fun t q => k t ?_⟩
  have hin := inb_of hSz hj
  exact X.laload hx (by rw [eT]; exact Ar.1) (State.isArrayOf_alike hZ.alike Ar.2.1) Ar.2.2 hin (H.at hin hv) (g := mkF m pc L (.int j :: .ref a :: S)) rfl rfl (hb hby hd) t (by subst hp; exact q)
theorem Wl.caload {a : Addr} {k : ClassId} {z j : Int32} {vs : List Value} {dv v : Value} (G : Wl Z a0 own p l e R s m args below meth c code mx B EL h0 n0 ws sf h cells slots pc L (.int j :: .ref a :: S)) (pc' : Nat) (A : Arv Z h a k .char z vs dv) (hj : ¬ j < 0 ∧ j < z) (hv : vs.getD j.toNatClampNeg dv = v) (hd : decode code pc = .ok (.caload, 1)) (hp : pc + 1 = pc') : Wl Z a0 own p l e R s m args below meth c code mx B EL h0 n0 ws sf h cells slots pc' L (v :: S) := by
  obtain ⟨⟨hx, hby, hml, hEW⟩, ⟨o1, z2, z3, z1, es⟩, v0, k0, T, locs, X, ⟨hS, hk, hZ, hown⟩, ⟨hC, hF⟩, N, eT, k⟩ := G
  obtain ⟨cl, Ar, -, hSz, hN, H, -⟩ := A
  refine ⟨⟨hx, hby, hml, hEW⟩, ⟨o1, z2, z3, z1, es⟩, v0, k0, T, locs, X, ⟨hS, hk, hZ, hown⟩, ⟨hC, hF⟩, N, eT, fun t q => k t ?_⟩
  have hin := inb_of hSz hj
  exact X.caload hx (by rw [eT]; exact Ar.1) (State.isArrayOf_alike hZ.alike Ar.2.1) Ar.2.2 hin (H.at hin hv) (g := mkF m pc L (.int j :: .ref a :: S)) rfl rfl (hb hby hd) t (by subst hp; exact q)
theorem Wl.baload {a : Addr} {k : ClassId} {z j : Int32} {vs : List Value} {dv v : Value} (G : Wl Z a0 own p l e R s m args below meth c code mx B EL h0 n0 ws sf h cells slots pc L (.int j :: .ref a :: S)) (pc' : Nat) (A : Arv Z h a k .byte z vs dv) (hj : ¬ j < 0 ∧ j < z) (hv : vs.getD j.toNatClampNeg dv = v) (hd : decode code pc = .ok (.baload, 1)) (hp : pc + 1 = pc') : Wl Z a0 own p l e R s m args below meth c code mx B EL h0 n0 ws sf h cells slots pc' L (v :: S) := by
  obtain ⟨⟨hx, hby, hml, hEW⟩, ⟨o1, z2, z3, z1, es⟩, v0, k0, T, locs, X, ⟨hS, hk, hZ, hown⟩, ⟨hC, hF⟩, N, eT, k⟩ := G
  obtain ⟨cl, Ar, -, hSz, hN, H, -⟩ := A
  refine ⟨⟨hx, hby, hml, hEW⟩, ⟨o1, z2, z3, z1, es⟩, v0, k0, T, locs, X, ⟨hS, hk, hZ, hown⟩, ⟨hC, hF⟩, N, eT, fun t q => k t ?_⟩
  have hin := inb_of hSz hj
  exact X.baloadBytes hx (by rw [eT]; exact Ar.1) (State.isArrayOf_alike hZ.alike Ar.2.1) Ar.2.2 hin (H.at hin hv) (g := mkF m pc L (.int j :: .ref a :: S)) rfl rfl (hb hby hd) t (by subst hp; exact q)
theorem Wl.daload {a : Addr} {k : ClassId} {z j : Int32} {vs : List Value} {dv v : Value} (G : Wl Z a0 own p l e R s m args below meth c code mx B EL h0 n0 ws sf h cells slots pc L (.int j :: .ref a :: S)) (pc' : Nat) (A : Arv Z h a k .double z vs dv) (hj : ¬ j < 0 ∧ j < z) (hv : vs.getD j.toNatClampNeg dv = v) (hd : decode code pc = .ok (.daload, 1)) (hp : pc + 1 = pc') : Wl Z a0 own p l e R s m args below meth c code mx B EL h0 n0 ws sf h cells slots pc' L (v :: S) := by
  obtain ⟨⟨hx, hby, hml, hEW⟩, ⟨o1, z2, z3, z1, es⟩, v0, k0, T, locs, X, ⟨hS, hk, hZ, hown⟩, ⟨hC, hF⟩, N, eT, k⟩ := G
  obtain ⟨cl, Ar, -, hSz, hN, H, -⟩ := A
  refine ⟨⟨hx, hby, hml, hEW⟩, ⟨o1, z2, z3, z1, es⟩, v0, k0, T, locs, X, ⟨hS, hk, hZ, hown⟩, ⟨hC, hF⟩, N, eT, fun t q => k t ?_⟩
  have hin := inb_of hSz hj
  exact X.daload hx (by rw [eT]; exact Ar.1) (State.isArrayOf_alike hZ.alike Ar.2.1) Ar.2.2 hin (H.at hin hv) (g := mkF m pc L (.int j :: .ref a :: S)) rfl rfl (hb hby hd) t (by subst hp; exact q)
theorem Wl.iastore {a : Addr} {k : ClassId} {z j : Int32} {x : Int32} {vs : List Value} {dv : Value} (G : Wl Z a0 own p l e R s m args below meth c code mx B EL h0 n0 ws sf h cells slots pc L (.int x :: .int j :: .ref a :: S)) (pc' : Nat) (i : Nat) (A : Arv Z h a k .int z vs dv) (hj : ¬ j < 0 ∧ j < z) (hi : j.toNatClampNeg = i) (hl : i < vs.length) (q : NW h0 ws a) (qs : a ∈ sf) (hd : decode code pc = .ok (.iastore, 1)) (hp : pc + 1 = pc') : ∃ (h' : Heap), Wl Z a0 own p l e R s m args below meth c code mx B EL h0 n0 ws sf h' cells slots pc' L S ∧ Arv Z h' a k .int z (vs.set i (.int x)) dv ∧ Keep h h' [a] := by
  have qn := G.nw q
  obtain ⟨⟨hx, hby, hml, hEW⟩, ⟨o1, z2, z3, z1, es⟩, v0, k0, T, locs, X, ⟨hS, hk, hZ, hown⟩, ⟨hC, hF⟩, N, eT, k⟩ := G
  obtain ⟨cl, Ar, q1, hSz, hN, H, F⟩ := A
  obtain ⟨T', h', X', e', W', st⟩ := stI X hx hZ eT Ar (inb_of hSz hj) (g := mkF m pc L (.int x :: .int j :: .ref a :: S)) rfl rfl (hb hby hd)
  exact ⟨h', ⟨⟨hx, hby, hml, hEW⟩, ⟨o1.wr W' qn, z2.wr W' q, z3, z1, es⟩, v0, k0, T', _, X', ⟨hS, (by rw [W'.size]; exact hk), hZ, hown⟩, ⟨hC.trans (CHr.wr W' (hF _ qs).2 hC.1), safeKeep (Keep.of_wr W') (fun x y => by cases List.mem_singleton.mp y; exact (hF _ qs).2) hC.1 hF⟩, Fr.snoc X' N qn, e', fun t q => k t (st t (by subst hp; exact q))⟩, Arv.set Ar q1 hSz hN H F rfl W' i hi hl, Keep.of_wr W'⟩
theorem Wl.lastore {a : Addr} {k : ClassId} {z j : Int32} {x : Int64} {vs : List Value} {dv : Value} (G : Wl Z a0 own p l e R s m args below meth c code mx B EL h0 n0 ws sf h cells slots pc L (.long x :: .int j :: .ref a :: S)) (pc' : Nat) (i : Nat) (A : Arv Z h a k .long z vs dv) (hj : ¬ j < 0 ∧ j < z) (hi : j.toNatClampNeg = i) (hl : i < vs.length) (q : NW h0 ws a) (qs : a ∈ sf) (hd : decode code pc = .ok (.lastore, 1)) (hp : pc + 1 = pc') : ∃ (h' : Heap), Wl Z a0 own p l e R s m args below meth c code mx B EL h0 n0 ws sf h' cells slots pc' L S ∧ Arv Z h' a k .long z (vs.set i (.long x)) dv ∧ Keep h h' [a] := by
  have qn := G.nw q
  obtain ⟨⟨hx, hby, hml, hEW⟩, ⟨o1, z2, z3, z1, es⟩, v0, k0, T, locs, X, ⟨hS, hk, hZ, hown⟩, ⟨hC, hF⟩, N, eT, k⟩ := G
  obtain ⟨cl, Ar, q1, hSz, hN, H, F⟩ := A
  obtain ⟨T', h', X', e', W', st⟩ := stJ X hx hZ eT Ar (inb_of hSz hj) (g := mkF m pc L (.long x :: .int j :: .ref a :: S)) rfl rfl (hb hby hd)
  exact ⟨h', ⟨⟨hx, hby, hml, hEW⟩, ⟨o1.wr W' qn, z2.wr W' q, z3, z1, es⟩, v0, k0, T', _, X', ⟨hS, (by rw [W'.size]; exact hk), hZ, hown⟩, ⟨hC.trans (CHr.wr W' (hF _ qs).2 hC.1), safeKeep (Keep.of_wr W') (fun x y => by cases List.mem_singleton.mp y; exact (hF _ qs).2) hC.1 hF⟩, Fr.snoc X' N qn, e', fun t q => k t (st t (by subst hp; exact q))⟩, Arv.set Ar q1 hSz hN H F rfl W' i hi hl, Keep.of_wr W'⟩
theorem Wl.dastore {a : Addr} {k : ClassId} {z j : Int32} {x : UInt64} {vs : List Value} {dv : Value} (G : Wl Z a0 own p l e R s m args below meth c code mx B EL h0 n0 ws sf h cells slots pc L (.double x :: .int j :: .ref a :: S)) (pc' : Nat) (i : Nat) (A : Arv Z h a k .double z vs dv) (hj : ¬ j < 0 ∧ j < z) (hi : j.toNatClampNeg = i) (hl : i < vs.length) (q : NW h0 ws a) (qs : a ∈ sf) (hd : decode code pc = .ok (.dastore, 1)) (hp : pc + 1 = pc') : ∃ (h' : Heap), Wl Z a0 own p l e R s m args below meth c code mx B EL h0 n0 ws sf h' cells slots pc' L S ∧ Arv Z h' a k .double z (vs.set i (.double x)) dv ∧ Keep h h' [a] := by
  have qn := G.nw q
  obtain ⟨⟨hx, hby, hml, hEW⟩, ⟨o1, z2, z3, z1, es⟩, v0, k0, T, locs, X, ⟨hS, hk, hZ, hown⟩, ⟨hC, hF⟩, N, eT, k⟩ := G
  obtain ⟨cl, Ar, q1, hSz, hN, H, F⟩ := A
  obtain ⟨T', h', X', e', W', st⟩ := stD X hx hZ eT Ar (inb_of hSz hj) (g := mkF m pc L (.double x :: .int j :: .ref a :: S)) rfl rfl (hb hby hd)
  exact ⟨h', ⟨⟨hx, hby, hml, hEW⟩, ⟨o1.wr W' qn, z2.wr W' q, z3, z1, es⟩, v0, k0, T', _, X', ⟨hS, (by rw [W'.size]; exact hk), hZ, hown⟩, ⟨hC.trans (CHr.wr W' (hF _ qs).2 hC.1), safeKeep (Keep.of_wr W') (fun x y => by cases List.mem_singleton.mp y; exact (hF _ qs).2) hC.1 hF⟩, Fr.snoc X' N qn, e', fun t q => k t (st t (by subst hp; exact q))⟩, Arv.set Ar q1 hSz hN H F rfl W' i hi hl, Keep.of_wr W'⟩
theorem Wl.castore {a : Addr} {k : ClassId} {z j : Int32} {x : Int32} {vs : List Value} {dv : Value} (G : Wl Z a0 own p l e R s m args below meth c code mx B EL h0 n0 ws sf h cells slots pc L (.int x :: .int j :: .ref a :: S)) (pc' : Nat) (i : Nat) (A : Arv Z h a k .char z vs dv) (hj : ¬ j < 0 ∧ j < z) (hi : j.toNatClampNeg = i) (hl : i < vs.length) (q : NW h0 ws a) (qs : a ∈ sf) (hd : decode code pc = .ok (.castore, 1)) (hp : pc + 1 = pc') : ∃ (h' : Heap), Wl Z a0 own p l e R s m args below meth c code mx B EL h0 n0 ws sf h' cells slots pc' L S ∧ Arv Z h' a k .char z (vs.set i (.int (nar .char x))) dv ∧ Keep h h' [a] := by
  have qn := G.nw q
  obtain ⟨⟨hx, hby, hml, hEW⟩, ⟨o1, z2, z3, z1, es⟩, v0, k0, T, locs, X, ⟨hS, hk, hZ, hown⟩, ⟨hC, hF⟩, N, eT, k⟩ := G
  obtain ⟨cl, Ar, q1, hSz, hN, H, F⟩ := A
  obtain ⟨T', h', X', e', W', st⟩ := stC X hx hZ eT Ar (inb_of hSz hj) (g := mkF m pc L (.int x :: .int j :: .ref a :: S)) rfl rfl (hb hby hd)
  exact ⟨h', ⟨⟨hx, hby, hml, hEW⟩, ⟨o1.wr W' qn, z2.wr W' q, z3, z1, es⟩, v0, k0, T', _, X', ⟨hS, (by rw [W'.size]; exact hk), hZ, hown⟩, ⟨hC.trans (CHr.wr W' (hF _ qs).2 hC.1), safeKeep (Keep.of_wr W') (fun x y => by cases List.mem_singleton.mp y; exact (hF _ qs).2) hC.1 hF⟩, Fr.snoc X' N qn, e', fun t q => k t (st t (by subst hp; exact q))⟩, Arv.set Ar q1 hSz hN H F (fits_nar_char x) W' i hi hl, Keep.of_wr W'⟩
theorem Wl.bastore {a : Addr} {k : ClassId} {z j : Int32} {x : Int32} {vs : List Value} {dv : Value} (G : Wl Z a0 own p l e R s m args below meth c code mx B EL h0 n0 ws sf h cells slots pc L (.int x :: .int j :: .ref a :: S)) (pc' : Nat) (i : Nat) (A : Arv Z h a k .byte z vs dv) (hj : ¬ j < 0 ∧ j < z) (hi : j.toNatClampNeg = i) (hl : i < vs.length) (q : NW h0 ws a) (qs : a ∈ sf) (hd : decode code pc = .ok (.bastore, 1)) (hp : pc + 1 = pc') : ∃ (h' : Heap), Wl Z a0 own p l e R s m args below meth c code mx B EL h0 n0 ws sf h' cells slots pc' L S ∧ Arv Z h' a k .byte z (vs.set i (.int x.toInt8.toInt32)) dv ∧ Keep h h' [a] := by
  have qn := G.nw q
  obtain ⟨⟨hx, hby, hml, hEW⟩, ⟨o1, z2, z3, z1, es⟩, v0, k0, T, locs, X, ⟨hS, hk, hZ, hown⟩, ⟨hC, hF⟩, N, eT, k⟩ := G
  obtain ⟨cl, Ar, q1, hSz, hN, H, F⟩ := A
  obtain ⟨T', h', X', e', W', st⟩ := stB X hx hZ eT Ar (inb_of hSz hj) (g := mkF m pc L (.int x :: .int j :: .ref a :: S)) rfl rfl (hb hby hd)
  exact ⟨h', ⟨⟨hx, hby, hml, hEW⟩, ⟨o1.wr W' qn, z2.wr W' q, z3, z1, es⟩, v0, k0, T', _, X', ⟨hS, (by rw [W'.size]; exact hk), hZ, hown⟩, ⟨hC.trans (CHr.wr W' (hF _ qs).2 hC.1), safeKeep (Keep.of_wr W') (fun x y => by cases List.mem_singleton.mp y; exact (hF _ qs).2) hC.1 hF⟩, Fr.snoc X' N qn, e', fun t q => k t (st t (by subst hp; exact q))⟩, Arv.set Ar q1 hSz hN H F (fits_nar_byte x) W' i hi hl, Keep.of_wr W'⟩
theorem Wl.initO {a : Addr} {idx : Nat} (G : Wl Z a0 own p l e R s m args below meth c code mx B EL h0 n0 ws sf h cells slots pc L (.ref a :: S)) (pc' : Nat) (w1 : (Cond.methodLink own idx Lib.objectInit).before a0 Z = true) (w2 : (Cond.instanceMethod Lib.objectInit).before a0 Z = true) (w3 : (Cond.code Lib.objectInit ⟨#[0xb1]⟩ 1 none).before a0 Z = true) (hd : decode code pc = .ok (.invokespecial idx, 3)) (hz : L.size = mx) (hf : 1 ≤ R.frames) (hl : (S.map fun v => v.category).sum + 12 ≤ R.locals) (hp : pc + 3 = pc') : Wl Z a0 own p l e R s m args below meth c code mx B EL h0 n0 ws sf h cells slots pc' L S := by
  obtain ⟨⟨hx, hby, hml, hEW⟩, ⟨o1, z2, z3, z1, es⟩, v0, k0, T, locs, X, ⟨hS, hk, hZ, hown⟩, ⟨hC, hF⟩, N, eT, k⟩ := G
  obtain ⟨T', X', e', st⟩ := Jvm.RoadKit.initO X hx hZ hown w1 w2 w3 eT (g := mkF m pc L (.ref a :: S)) rfl (hz.trans hml.symm) rfl (hb hby hd) hf (W := (S.map fun v => v.category).sum) (by show 2 * 0 + _ ≤ _; omega) hl
  exact ⟨⟨hx, hby, hml, hEW⟩, ⟨o1, z2, z3, z1, es⟩, v0, k0, T', _, X', ⟨hS, hk, hZ, hown⟩, ⟨hC, hF⟩, N, e', fun t q => k t (st t (by subst hp; exact q))⟩
theorem Wl.ldcI {index : Nat} {v : Int32} (G : Wl Z a0 own p l e R s m args below meth c code mx B EL h0 n0 ws sf h cells slots pc L S) (pc' : Nat) (w : (Cond.constant own index v).before a0 Z = true) (hd : decode code pc = .ok (.ldc index, 2)) (hp : pc + 2 = pc') : Wl Z a0 own p l e R s m args below meth c code mx B EL h0 n0 ws sf h cells slots pc' L (.int v :: S) := by
  obtain ⟨⟨hx, hby, hml, hEW⟩, ⟨o1, z2, z3, z1, es⟩, v0, k0, T, locs, X, ⟨hS, hk, hZ, hown⟩, ⟨hC, hF⟩, N, eT, k⟩ := G
  exact ⟨⟨hx, hby, hml, hEW⟩, ⟨o1, z2, z3, z1, es⟩, v0, k0, T, locs, X, ⟨hS, hk, hZ, hown⟩, ⟨hC, hF⟩, N, eT, fun t q => k t (X.ldcInt hx hown (mvT hZ w) (g := mkF m pc L S) rfl (hb hby hd) t (by subst hp; exact q))⟩
theorem Wl.ldcWI {index : Nat} {v : Int32} (G : Wl Z a0 own p l e R s m args below meth c code mx B EL h0 n0 ws sf h cells slots pc L S) (pc' : Nat) (w : (Cond.constant own index v).before a0 Z = true) (hd : decode code pc = .ok (.ldc_w index, 3)) (hp : pc + 3 = pc') : Wl Z a0 own p l e R s m args below meth c code mx B EL h0 n0 ws sf h cells slots pc' L (.int v :: S) := by
  obtain ⟨⟨hx, hby, hml, hEW⟩, ⟨o1, z2, z3, z1, es⟩, v0, k0, T, locs, X, ⟨hS, hk, hZ, hown⟩, ⟨hC, hF⟩, N, eT, k⟩ := G
  exact ⟨⟨hx, hby, hml, hEW⟩, ⟨o1, z2, z3, z1, es⟩, v0, k0, T, locs, X, ⟨hS, hk, hZ, hown⟩, ⟨hC, hF⟩, N, eT, fun t q => k t (X.ldcWInt hx hown (mvT hZ w) (g := mkF m pc L S) rfl (hb hby hd) t (by subst hp; exact q))⟩
theorem Wl.ldc2J {index : Nat} {v : Int64} (G : Wl Z a0 own p l e R s m args below meth c code mx B EL h0 n0 ws sf h cells slots pc L S) (pc' : Nat) (w : (Cond.constantLong own index v).before a0 Z = true) (hd : decode code pc = .ok (.ldc2_w index, 3)) (hp : pc + 3 = pc') : Wl Z a0 own p l e R s m args below meth c code mx B EL h0 n0 ws sf h cells slots pc' L (.long v :: S) := by
  obtain ⟨⟨hx, hby, hml, hEW⟩, ⟨o1, z2, z3, z1, es⟩, v0, k0, T, locs, X, ⟨hS, hk, hZ, hown⟩, ⟨hC, hF⟩, N, eT, k⟩ := G
  exact ⟨⟨hx, hby, hml, hEW⟩, ⟨o1, z2, z3, z1, es⟩, v0, k0, T, locs, X, ⟨hS, hk, hZ, hown⟩, ⟨hC, hF⟩, N, eT, fun t q => k t (X.ldc2Long hx hown (mvT hZ w) (g := mkF m pc L S) rfl (hb hby hd) t (by subst hp; exact q))⟩
/-- a body's contract: from the heap h0 with the arguments as', it returns; only what is new since n0 was written; h0 stands but for ws; String constants stay whole; sf: what must be no constant's cell; Q's list: what else is none -/
def Con (Z : State) (a0 : Array Value) (l : Launch) (y : MethodName) (bytes : ByteArray) (maxL : Nat) (ret : Option FieldType) (rm : Room) (tws : List Jvm.Cond) (as' : Array Value) (EL : List (String × Nat)) (h0 : Heap) (n0 : Nat) (ws sf : List Addr) (Q : Option Value → Heap → List Addr → Prop) : Prop :=
  MetFree l y (head1 (Cond.code y bytes maxL ret :: tws) rm) (fun a U => a = as' ∧ Z.Warmed39 U.vm ∧ U.heap = h0 ∧ CHv Z EL U.vm h0 ∧ ∀ x ∈ sf, x < h0.size ∧ Safe Z EL U.vm h0 x) (fun _ _ _ _ _ => True) (fun _ U o U' => ∃ v LL, o = .returned v ∧ (∃ so, Fr n0 LL ∧ Keep h0 U'.heap ws ∧ Q v U'.heap so ∧ CHr Z EL U.vm U.heap U'.vm U'.heap ∧ ∀ x ∈ so, x < U'.heap.size ∧ Safe Z EL U'.vm U'.heap x) ∧ ReturnedEndW U o U' LL rm.cells rm.slots)
def VV (Q : Value → Heap → List Addr → Prop) : Option Value → Heap → List Addr → Prop := fun v h so => ∃ w, v = some w ∧ Q w h so
def V0 (Q : Heap → List Addr → Prop) : Option Value → Heap → List Addr → Prop := fun v h so => v = none ∧ Q h so
/-- the walk's end -/
def Fin (Z : State) (EL : List (String × Nat)) (p : Program) (e : Env) (below : List Frame) (B s : State) (h0 : Heap) (n0 : Nat) (ws : List Addr) (k n : Nat) (Q : Option Value → Heap → List Addr → Prop) : Prop :=
  ∃ s₂ o, Steps p.tables e below B s₂ ∧ s₂.status = .running ∧ Ended s₂ below o ∧ ∃ v LL, o = .returned v ∧ (∃ so, Fr n0 LL ∧ Keep h0 s₂.heap ws ∧ Q v s₂.heap so ∧ CHr Z EL s.vm s.heap s₂.vm s₂.heap ∧ ∀ x ∈ so, x < s₂.heap.size ∧ Safe Z EL s₂.vm s₂.heap x) ∧ ReturnedEndW s o s₂ LL k n
theorem Con.body {tws : List Jvm.Cond} {y : MethodName} {bytes : ByteArray} {maxL : Nat} {ret : Option FieldType} {rm : Room} {as' : Array Value} {Q : Option Value → Heap → List Addr → Prop} (hpl : plainFor y = true) (hEW : EW Z a0 EL) (o1 : Old Z n0 h0) (z3 : ∀ x ∈ ws, n0 ≤ x) (L0 : Array Slot) (hef : ∀ m, entryFrame m as' maxL = mkF m 0 L0 [])
    (body : ∀ (p : Program) (e : Env) (s : State) (m : MethodId) (below : List Frame) (meth : Method) (c : Code) (B : State), meth.name = y.name → meth.sig.returnType = ret → meth.locks = false → Wl Z a0 y.cls p l e rm s m as' below meth c bytes maxL B EL h0 n0 ws sf h0 0 0 0 L0 [] → Fin Z EL p e below B s h0 n0 ws rm.cells rm.slots Q) : Con Z a0 l y bytes maxL ret rm tws as' EL h0 n0 ws sf Q := by
  refine MetFree.of_bodySF hpl hisR ?_
  intro p e s m args below meth c s₁ Bd hml hP hK
  obtain ⟨rfl, hZ, hh, hC, hF⟩ := hP
  refine body p e s m below meth c _ (name_of_methodNamed Bd.named Bd.method).1 Bd.returns Bd.notSynchronized ⟨⟨Bd.exec, Bd.bytes, hml, hEW⟩, ⟨o1, Keep.refl _ _, z3, by rw [← o1.1]; exact o1.2.1, hh⟩, s.vm, 0, s₁, [], Stand.of_body Bd, ⟨(State.WarmedH.refl s).since 0, Nat.zero_le _, hZ, findClass_of_methodNamed Bd.named⟩, ⟨CHr.refl hC, hF⟩, Fr.nil n0, by rw [← hh, Bd.state]; rfl, fun t q => ?_⟩
  rw [hef m]; exact q
theorem Wl.retV  {Q : Option Value → Heap → List Addr → Prop} {kk nn : Nat} (G : Wl Z a0 own p l e R s m args below meth c code mx B EL h0 n0 ws sf h cells slots pc L ([])) (hret : meth.sig.returnType = none) (hlk : meth.locks = false) (hd : decode code pc = .ok (.return_, 1)) (so : List Addr) (hso : ∀ x ∈ so, x ∈ sf) (hQ : Q (none) h so) (hc : cells ≤ kk) (hs : slots ≤ nn) : Fin Z EL p e below B s h0 n0 ws kk nn Q := by
  obtain ⟨⟨hx, hby, hml, hEW⟩, ⟨o1, z2, z3, z1, es⟩, v0, k0, T, locs, X, ⟨hS, hk, hZ, hown⟩, ⟨hC, hF⟩, N, eT, k⟩ := G
  obtain ⟨fs, hr, hrun, hended, hW⟩ := X.leaveW hS (by rw [eT]; exact hk) (v := none) (fun _ => rfl) hlk
  have hCT := CHv.at X hZ hEW hC.1
  refine ⟨_, _, k _ ?_, hrun, hended, _, _, rfl, ⟨so, N, ?_, ?_, ?_, ?_⟩, hW.1, hW.2.1, hW.2.2.1, hW.2.2.2.mono hc hs⟩
  · exact X.returnOut hx hret (hb hby hd) hr
  · show Keep h0 T.heap ws
    rw [eT]; exact z2
  · show Q _ T.heap so
    rw [eT]; exact hQ
  · show CHr Z EL s.vm s.heap T.vm T.heap
    rw [eT, es]
    exact hC.trans hCT
  · intro x hx
    show x < T.heap.size ∧ Safe Z EL T.vm T.heap x
    rw [eT]; exact ⟨(hF x (hso x hx)).1, hCT.safe (hF x (hso x hx)).1 (hF x (hso x hx)).2⟩
theorem Wl.retI {z : Int32} {Q : Option Value → Heap → List Addr → Prop} {kk nn : Nat} (G : Wl Z a0 own p l e R s m args below meth c code mx B EL h0 n0 ws sf h cells slots pc L (.int z :: S)) (hret : meth.sig.returnType = some .int) (hlk : meth.locks = false) (hd : decode code pc = .ok (.ireturn, 1)) (so : List Addr) (hso : ∀ x ∈ so, x ∈ sf) (hQ : Q (some (.int z)) h so) (hc : cells ≤ kk) (hs : slots ≤ nn) : Fin Z EL p e below B s h0 n0 ws kk nn Q := by
  obtain ⟨⟨hx, hby, hml, hEW⟩, ⟨o1, z2, z3, z1, es⟩, v0, k0, T, locs, X, ⟨hS, hk, hZ, hown⟩, ⟨hC, hF⟩, N, eT, k⟩ := G
  obtain ⟨fs, hr, hrun, hended, hW⟩ := X.leaveW hS (by rw [eT]; exact hk) (v := some (.int z)) (fun h => by rw [hret] at h; cases h) hlk
  have hCT := CHv.at X hZ hEW hC.1
  refine ⟨_, _, k _ ?_, hrun, hended, _, _, rfl, ⟨so, N, ?_, ?_, ?_, ?_⟩, hW.1, hW.2.1, hW.2.2.1, hW.2.2.2.mono hc hs⟩
  · exact retOut X hx hret rfl (Or.inl ⟨rfl, Or.inl rfl, _, rfl⟩) (hb hby hd) hr
  · show Keep h0 T.heap ws
    rw [eT]; exact z2
  · show Q _ T.heap so
    rw [eT]; exact hQ
  · show CHr Z EL s.vm s.heap T.vm T.heap
    rw [eT, es]
    exact hC.trans hCT
  · intro x hx
    show x < T.heap.size ∧ Safe Z EL T.vm T.heap x
    rw [eT]; exact ⟨(hF x (hso x hx)).1, hCT.safe (hF x (hso x hx)).1 (hF x (hso x hx)).2⟩
theorem Wl.retN {z : Int32} {t : FieldType} {Q : Option Value → Heap → List Addr → Prop} {kk nn : Nat} (G : Wl Z a0 own p l e R s m args below meth c code mx B EL h0 n0 ws sf h cells slots pc L (.int z :: S)) (hret : meth.sig.returnType = some t) (ht : t = .boolean ∨ t = .byte ∨ t = .char ∨ t = .short) (hlk : meth.locks = false) (hd : decode code pc = .ok (.ireturn, 1)) (so : List Addr) (hso : ∀ x ∈ so, x ∈ sf) (hQ : Q (some (.int (nar t z))) h so) (hc : cells ≤ kk) (hs : slots ≤ nn) : Fin Z EL p e below B s h0 n0 ws kk nn Q := by
  obtain ⟨⟨hx, hby, hml, hEW⟩, ⟨o1, z2, z3, z1, es⟩, v0, k0, T, locs, X, ⟨hS, hk, hZ, hown⟩, ⟨hC, hF⟩, N, eT, k⟩ := G
  obtain ⟨fs, hr, hrun, hended, hW⟩ := X.leaveW hS (by rw [eT]; exact hk) (v := some (.int (nar t z))) (fun h => by rw [hret] at h; cases h) hlk
  have hCT := CHv.at X hZ hEW hC.1
  refine ⟨_, _, k _ ?_, hrun, hended, _, _, rfl, ⟨so, N, ?_, ?_, ?_, ?_⟩, hW.1, hW.2.1, hW.2.2.1, hW.2.2.2.mono hc hs⟩
  · exact Jvm.RoadKit.retN X hx hret ht (hb hby hd) hr
  · show Keep h0 T.heap ws
    rw [eT]; exact z2
  · show Q _ T.heap so
    rw [eT]; exact hQ
  · show CHr Z EL s.vm s.heap T.vm T.heap
    rw [eT, es]
    exact hC.trans hCT
  · intro x hx
    show x < T.heap.size ∧ Safe Z EL T.vm T.heap x
    rw [eT]; exact ⟨(hF x (hso x hx)).1, hCT.safe (hF x (hso x hx)).1 (hF x (hso x hx)).2⟩
theorem Wl.retL {z : Int64} {Q : Option Value → Heap → List Addr → Prop} {kk nn : Nat} (G : Wl Z a0 own p l e R s m args below meth c code mx B EL h0 n0 ws sf h cells slots pc L (.long z :: S)) (hret : meth.sig.returnType = some .long) (hlk : meth.locks = false) (hd : decode code pc = .ok (.lreturn, 1)) (so : List Addr) (hso : ∀ x ∈ so, x ∈ sf) (hQ : Q (some (.long z)) h so) (hc : cells ≤ kk) (hs : slots ≤ nn) : Fin Z EL p e below B s h0 n0 ws kk nn Q := by
  obtain ⟨⟨hx, hby, hml, hEW⟩, ⟨o1, z2, z3, z1, es⟩, v0, k0, T, locs, X, ⟨hS, hk, hZ, hown⟩, ⟨hC, hF⟩, N, eT, k⟩ := G
  obtain ⟨fs, hr, hrun, hended, hW⟩ := X.leaveW hS (by rw [eT]; exact hk) (v := some (.long z)) (fun h => by rw [hret] at h; cases h) hlk
  have hCT := CHv.at X hZ hEW hC.1
  refine ⟨_, _, k _ ?_, hrun, hended, _, _, rfl, ⟨so, N, ?_, ?_, ?_, ?_⟩, hW.1, hW.2.1, hW.2.2.1, hW.2.2.2.mono hc hs⟩
  · exact retOut X hx hret rfl (Or.inr (Or.inl ⟨rfl, rfl, _, rfl⟩)) (hb hby hd) hr
  · show Keep h0 T.heap ws
    rw [eT]; exact z2
  · show Q _ T.heap so
    rw [eT]; exact hQ
  · show CHr Z EL s.vm s.heap T.vm T.heap
    rw [eT, es]
    exact hC.trans hCT
  · intro x hx
    show x < T.heap.size ∧ Safe Z EL T.vm T.heap x
    rw [eT]; exact ⟨(hF x (hso x hx)).1, hCT.safe (hF x (hso x hx)).1 (hF x (hso x hx)).2⟩
theorem Wl.retA {w : Value} {t : FieldType} {Q : Option Value → Heap → List Addr → Prop} {kk nn : Nat} (G : Wl Z a0 own p l e R s m args below meth c code mx B EL h0 n0 ws sf h cells slots pc L (w :: S)) (hret : meth.sig.returnType = some t) (ht : t.isReference = true) (hw : w.isRef = true) (hlk : meth.locks = false) (hd : decode code pc = .ok (.areturn, 1)) (so : List Addr) (hso : ∀ x ∈ so, x ∈ sf) (hQ : Q (some w) h so) (hc : cells ≤ kk) (hs : slots ≤ nn) : Fin Z EL p e below B s h0 n0 ws kk nn Q := by
  obtain ⟨⟨hx, hby, hml, hEW⟩, ⟨o1, z2, z3, z1, es⟩, v0, k0, T, locs, X, ⟨hS, hk, hZ, hown⟩, ⟨hC, hF⟩, N, eT, k⟩ := G
  obtain ⟨fs, hr, hrun, hended, hW⟩ := X.leaveW hS (by rw [eT]; exact hk) (v := some w) (fun h => by rw [hret] at h; cases h) hlk
  have hCT := CHv.at X hZ hEW hC.1
  refine ⟨_, _, k _ ?_, hrun, hended, _, _, rfl, ⟨so, N, ?_, ?_, ?_, ?_⟩, hW.1, hW.2.1, hW.2.2.1, hW.2.2.2.mono hc hs⟩
  · exact retOut X hx hret (by cases t <;> first | rfl | simp [FieldType.isReference] at ht) (Or.inr (Or.inr (Or.inr (Or.inr ⟨rfl, ht, hw⟩)))) (hb hby hd) hr
  · show Keep h0 T.heap ws
    rw [eT]; exact z2
  · show Q _ T.heap so
    rw [eT]; exact hQ
  · show CHr Z EL s.vm s.heap T.vm T.heap
    rw [eT, es]
    exact hC.trans hCT
  · intro x hx
    show x < T.heap.size ∧ Safe Z EL T.vm T.heap x
    rw [eT]; exact ⟨(hF x (hso x hx)).1, hCT.safe (hF x (hso x hx)).1 (hF x (hso x hx)).2⟩
theorem backL {y : MethodName} {bytes : ByteArray} {maxL : Nat} {ret : Option FieldType} {rm : Room} {len W : Nat} {as' : Array Value} {v0 : Vm} {wsC sfC : List Addr} {Q : Option Value → Heap → List Addr → Prop}
    (hM : Con Z a0 l y bytes maxL ret rm [] as' EL h n0 wsC sfC Q) (hZ : Z.Warmed39 v0) (wc : (Cond.code y bytes maxL ret).before a0 Z = true) (wz : (Cond.initialized y.cls).before a0 Z = true) (hf : rm.frames + 1 ≤ R.frames) (hl : W + (maxL + 11) + rm.locals ≤ R.locals) (hEL : EW Z a0 EL) (H : CHv Z EL v0 h) (hF : ∀ x ∈ sfC, x < h.size ∧ Safe Z EL v0 h x) :
    BackS l R p e below (s.setVm v0) args y len W (fun A a => a = as' ∧ A.U.heap = h ∧ A.cells + rm.cells ≤ R.cells ∧ A.slots + rm.slots ≤ R.slots)
      (fun A _ v B => ∃ LL, (∃ so, Fr n0 LL ∧ Keep h B.U.heap wsC ∧ Q v B.U.heap so ∧ CHr Z EL v0 h B.U.vm B.U.heap ∧ ∀ x ∈ so, x < B.U.heap.size ∧ Safe Z EL B.U.vm B.U.heap x) ∧ B.locs = A.locs ++ LL ∧ B.cells = A.cells + rm.cells ∧ B.slots = A.slots + rm.slots) :=
  BackS.of_freeW (bytes := bytes) (maxL := maxL) (ret := ret) (E := fun _ first o t LL k n => k = rm.cells ∧ n = rm.slots ∧ ∃ v, o = .returned v ∧ ∃ so, Fr n0 LL ∧ Keep h t.heap wsC ∧ Q v t.heap so ∧ CHr Z EL first.vm first.heap t.vm t.heap ∧ ∀ x ∈ so, x < t.heap.size ∧ Safe Z EL t.vm t.heap x) hM hf hl
    (fun m meth c A a Y hp => have hU : Z.Warmed39 A.U.vm := wtrans (s := s.setVm v0) hZ Y.warmed
      ⟨by show (Cond.and _ .tt).before a A.U = true; rw [Cond.before_and, mv hU wc]; rfl, mv hU wc, mv hU wz, hp.2.2.1, hp.2.2.2⟩)
    (fun m meth c A a g mk Y hp => ⟨hp.1, wtrans (s := s.setVm v0) hZ Y.warmed, hp.2.1, (CHv.at Y hZ hEL H).1, fun x hx => ⟨(hF x hx).1, (CHv.at Y hZ hEL H).safe (hF x hx).1 (hF x hx).2⟩⟩) (fun _ _ _ _ _ _ _ _ _ => trivial)
    (fun _ _ _ _ ⟨v, LL, h1, h2, h3⟩ => ⟨LL, _, _, h3, rfl, rfl, v, h1, h2⟩)
    (fun m meth c A a g mk v t LL k n Y hp _ _ ⟨e1, e2, v', e3, so, q1, q2, q3, q4, q5⟩ => by
      cases e3; subst e1 e2
      refine ⟨LL, ⟨so, q1, q2, q3, (CHv.at Y hZ hEL H).trans ?_, q5⟩, rfl, rfl, rfl⟩
      rw [← hp.2.1]; exact q4)
theorem Wl.callS {index : Nat} {y : MethodName} {bytes : ByteArray} {maxL : Nat} {ret : Option FieldType} {rm : Room} {wsC sfC : List Addr} {St : List Value} {Q : Option Value → Heap → List Addr → Prop} (G : Wl Z a0 own p l e R s m args below meth c code mx B EL h0 n0 ws sf h cells slots pc L (St)) (pc' : Nat) (w1 : (Cond.methodLink own index y).before a0 Z = true) (w2 : (Cond.static y).before a0 Z = true) (wz : (Cond.initialized y.cls).before a0 Z = true) (wc : (Cond.code y bytes maxL ret).before a0 Z = true) (hy : y.cls ≠ "java/lang/invoke/MethodHandle" ∧ y.cls ≠ "java/lang/invoke/VarHandle") (argsL rest : List Value) (hst : St = argsL.reverse ++ rest) (hM : Con Z a0 l y bytes maxL ret rm [] argsL.toArray EL h n0 wsC sfC Q) (hlen : ∀ sig, parseMethodDescriptor y.desc = some sig → argsL.length = sig.parameters.length) (hd : decode code pc = .ok (.invokestatic index, 3)) (hz : L.size = mx) (hf : rm.frames + 1 ≤ R.frames) (hl : (rest.map fun v => v.category).sum + (maxL + 11) + rm.locals ≤ R.locals) (hc : cells + rm.cells ≤ R.cells) (hs : slots + rm.slots ≤ R.slots) (hws : ∀ x ∈ wsC, NW h0 ws x) (hsf : ∀ x ∈ sfC, x ∈ sf) (hwf : ∀ x ∈ wsC, x ∈ sf) (hp : pc + 3 = pc') :
    ∃ (v : Option Value) (h' : Heap) (so : List Addr), Wl Z a0 own p l e R s m args below meth c code mx B EL h0 n0 ws (so ++ sf) h' (cells + rm.cells) (slots + rm.slots) pc' L (v.toList ++ rest) ∧ Keep h h' wsC ∧ Q v h' so := by
  have nw := fun x (q : NW h0 ws x) => G.nw q
  obtain ⟨⟨hx, hby, hml, hEW⟩, ⟨o1, z2, z3, z1, es⟩, v0, k0, T, locs, X, ⟨hS, hk, hZ, hown⟩, ⟨hC, hF⟩, N, eT, k⟩ := G
  subst hst
  obtain ⟨v, _, ⟨T', L', k', n'⟩, -, X', hS', g', ⟨Lc, ⟨so, N', K', hQ, C', F'⟩, l', y', z'⟩, st⟩ := callSS X hx (y := y) hown (mvT (s := s.setVm v0) hZ w1) (mvT (s := s.setVm v0) hZ w2) (mvT (s := s.setVm v0) hZ wz) (mvT (s := s.setVm v0) hZ wc) hy (backL (s := s) (W := (rest.map fun v => v.category).sum) hM hZ wc wz hf hl hEW hC.1 (fun x hx => hF x (hsf x hx))) (g := mkF m pc L (argsL.reverse ++ rest)) rfl (hz.trans hml.symm) (argsL := argsL) (rest := rest) hlen rfl (by show 2 * 0 + _ ≤ _; omega) (hb hby hd) (fun _ _ => ⟨rfl, eT, hc, hs⟩)
  dsimp only [Pt.U, Pt.locs, Pt.cells, Pt.slots] at X' hS' g' l' y' z' st N' K' hQ C' F'
  subst l' y' z'
  obtain ⟨X2, hS2, hZ2, hown2⟩ := rebS (s := s) hS (by rw [← eT] at hk; exact hk) X' hS' g' hZ hown
  exact ⟨v, T'.heap, so, ⟨⟨hx, hby, hml, hEW⟩, ⟨o1.keep K' (fun x q => nw x (hws x q)), z2.trans K' hws, z3, z1, es⟩, T'.vm, _, T', _, X2, ⟨hS2, Nat.le_refl _, hZ2, hown2⟩, ⟨hC.trans C', fun x q => (List.mem_append.mp q).elim (F' x) (fun r => ⟨Nat.lt_of_lt_of_le (hF x r).1 K'.1, C'.safe (hF x r).1 (hF x r).2⟩)⟩, N.app N', rfl, fun t q => k t (st.trans (by subst hp; exact q))⟩, K', hQ⟩
theorem Wl.callI {index : Nat} {y : MethodName} {bytes : ByteArray} {maxL : Nat} {ret : Option FieldType} {rm : Room} {wsC sfC : List Addr} {St : List Value} {a : Addr} {Q : Option Value → Heap → List Addr → Prop} (G : Wl Z a0 own p l e R s m args below meth c code mx B EL h0 n0 ws sf h cells slots pc L (St)) (pc' : Nat) (hr : ret = none) (hy1 : y.name = "<init>") (w1 : (Cond.methodLink own index y).before a0 Z = true) (w2 : (Cond.instanceMethod y).before a0 Z = true) (wz : (Cond.initialized y.cls).before a0 Z = true) (wc : (Cond.code y bytes maxL ret).before a0 Z = true) (hy : y.cls ≠ "java/lang/invoke/MethodHandle" ∧ y.cls ≠ "java/lang/invoke/VarHandle") (argsL rest : List Value) (hst : St = argsL.reverse ++ .ref a :: rest) (hM : Con Z a0 l y bytes maxL ret rm [] (.ref a :: argsL).toArray EL h n0 wsC sfC Q) (hlen : ∀ sig, parseMethodDescriptor y.desc = some sig → argsL.length = sig.parameters.length) (hd : decode code pc = .ok (.invokespecial index, 3)) (hz : L.size = mx) (hf : rm.frames + 1 ≤ R.frames) (hl : (rest.map fun v => v.category).sum + (maxL + 11) + rm.locals ≤ R.locals) (hc : cells + rm.cells ≤ R.cells) (hs : slots + rm.slots ≤ R.slots) (hws : ∀ x ∈ wsC, NW h0 ws x) (hsf : ∀ x ∈ sfC, x ∈ sf) (hwf : ∀ x ∈ wsC, x ∈ sf) (hp : pc + 3 = pc') :
    ∃ (v : Option Value) (h' : Heap) (so : List Addr), Wl Z a0 own p l e R s m args below meth c code mx B EL h0 n0 ws (so ++ sf) h' (cells + rm.cells) (slots + rm.slots) pc' L (v.toList ++ rest) ∧ Keep h h' wsC ∧ Q v h' so := by
  have nw := fun x (q : NW h0 ws x) => G.nw q
  obtain ⟨⟨hx, hby, hml, hEW⟩, ⟨o1, z2, z3, z1, es⟩, v0, k0, T, locs, X, ⟨hS, hk, hZ, hown⟩, ⟨hC, hF⟩, N, eT, k⟩ := G
  subst hst
  subst hr
  obtain ⟨v, _, ⟨T', L', k', n'⟩, -, X', hS', g', ⟨Lc, ⟨so, N', K', hQ, C', F'⟩, l', y', z'⟩, st⟩ := X.specialBackS hx (y := y) hy1 hown (mvT (s := s.setVm v0) hZ w1) (mvT (s := s.setVm v0) hZ w2) (mvT (s := s.setVm v0) hZ wc) hy (backL (s := s) (W := (rest.map fun v => v.category).sum) hM hZ wc wz hf hl hEW hC.1 (fun x hx => hF x (hsf x hx))) (g := mkF m pc L (argsL.reverse ++ .ref a :: rest)) rfl (hz.trans hml.symm) (Steps.refl _) (a := a) (argsL := argsL) (rest := rest) hlen rfl (by show 2 * 0 + _ ≤ _; omega) (hb hby hd) (fun _ _ => ⟨rfl, eT, hc, hs⟩)
  dsimp only [Pt.U, Pt.locs, Pt.cells, Pt.slots] at X' hS' g' l' y' z' st N' K' hQ C' F'
  subst l' y' z'
  obtain ⟨X2, hS2, hZ2, hown2⟩ := rebS (s := s) hS (by rw [← eT] at hk; exact hk) X' hS' g' hZ hown
  exact ⟨v, T'.heap, so, ⟨⟨hx, hby, hml, hEW⟩, ⟨o1.keep K' (fun x q => nw x (hws x q)), z2.trans K' hws, z3, z1, es⟩, T'.vm, _, T', _, X2, ⟨hS2, Nat.le_refl _, hZ2, hown2⟩, ⟨hC.trans C', fun x q => (List.mem_append.mp q).elim (F' x) (fun r => ⟨Nat.lt_of_lt_of_le (hF x r).1 K'.1, C'.safe (hF x r).1 (hF x r).2⟩)⟩, N.app N', rfl, fun t q => k t (st.trans (by subst hp; exact q))⟩, K', hQ⟩
theorem Wl.callV {index : Nat} {y : MethodName} {bytes : ByteArray} {maxL : Nat} {ret : Option FieldType} {rm : Room} {wsC sfC : List Addr} {St : List Value} {a : Addr} {C : String} {zz : MethodName} {Q : Option Value → Heap → List Addr → Prop} (G : Wl Z a0 own p l e R s m args below meth c code mx B EL h0 n0 ws sf h cells slots pc L (St)) (pc' : Nat) (w1 : (Cond.methodLink own index y).before a0 Z = true) (w2 : (Cond.declares y).before a0 Z = true) (hnf : ∀ s' : State, Z.Warmed39 s'.vm → NotFace s' y) (w3 : (Cond.selects C y zz).before a0 Z = true) (w4 : (Cond.instanceMethod zz).before a0 Z = true) (wz : (Cond.initialized zz.cls).before a0 Z = true) (wc : (Cond.code zz bytes maxL ret).before a0 Z = true) (Ex : Exa Z h a C) (hy : y.cls ≠ "java/lang/invoke/MethodHandle" ∧ y.cls ≠ "java/lang/invoke/VarHandle") (argsL rest : List Value) (hst : St = argsL.reverse ++ .ref a :: rest) (hM : Con Z a0 l zz bytes maxL ret rm [] (.ref a :: argsL).toArray EL h n0 wsC sfC Q) (hlen : ∀ sig, parseMethodDescriptor y.desc = some sig → argsL.length = sig.parameters.length) (hd : decode code pc = .ok (.invokevirtual index, 3)) (hz : L.size = mx) (hf : rm.frames + 1 ≤ R.frames) (hl : (rest.map fun v => v.category).sum + (maxL + 11) + rm.locals ≤ R.locals) (hc : cells + rm.cells ≤ R.cells) (hs : slots + rm.slots ≤ R.slots) (hws : ∀ x ∈ wsC, NW h0 ws x) (hsf : ∀ x ∈ sfC, x ∈ sf) (hwf : ∀ x ∈ wsC, x ∈ sf) (hp : pc + 3 = pc') :
    ∃ (v : Option Value) (h' : Heap) (so : List Addr), Wl Z a0 own p l e R s m args below meth c code mx B EL h0 n0 ws (so ++ sf) h' (cells + rm.cells) (slots + rm.slots) pc' L (v.toList ++ rest) ∧ Keep h h' wsC ∧ Q v h' so := by
  have nw := fun x (q : NW h0 ws x) => G.nw q
  obtain ⟨⟨hx, hby, hml, hEW⟩, ⟨o1, z2, z3, z1, es⟩, v0, k0, T, locs, X, ⟨hS, hk, hZ, hown⟩, ⟨hC, hF⟩, N, eT, k⟩ := G
  subst hst
  obtain ⟨cq, kq, q1, q2, q3⟩ := isOf (s := s.setVm v0) (T := T) hZ eT Ex
  obtain ⟨v, _, ⟨T', L', k', n'⟩, -, X', hS', g', ⟨Lc, ⟨so, N', K', hQ, C', F'⟩, l', y', z'⟩, st⟩ := X.virtualBackS hx (y := y) (z := zz) hown (mvT (s := s.setVm v0) hZ w1) (mvT (s := s.setVm v0) hZ w2) (hnf (s.setVm v0) hZ) (mvT (s := s.setVm v0) hZ w3) (mvT (s := s.setVm v0) hZ w4) hy (backL (s := s) (W := (rest.map fun v => v.category).sum) hM hZ wc wz hf hl hEW hC.1 (fun x hx => hF x (hsf x hx))) q1 q3 (g := mkF m pc L (argsL.reverse ++ .ref a :: rest)) rfl (hz.trans hml.symm) (Steps.refl _) (argsL := argsL) (rest := rest) hlen rfl (by show 2 * 0 + _ ≤ _; omega) (hb hby hd) (fun _ _ => ⟨rfl, eT, hc, hs⟩)
  dsimp only [Pt.U, Pt.locs, Pt.cells, Pt.slots] at X' hS' g' l' y' z' st N' K' hQ C' F'
  subst l' y' z'
  obtain ⟨X2, hS2, hZ2, hown2⟩ := rebS (s := s) hS (by rw [← eT] at hk; exact hk) X' hS' g' hZ hown
  exact ⟨v, T'.heap, so, ⟨⟨hx, hby, hml, hEW⟩, ⟨o1.keep K' (fun x q => nw x (hws x q)), z2.trans K' hws, z3, z1, es⟩, T'.vm, _, T', _, X2, ⟨hS2, Nat.le_refl _, hZ2, hown2⟩, ⟨hC.trans C', fun x q => (List.mem_append.mp q).elim (F' x) (fun r => ⟨Nat.lt_of_lt_of_le (hF x r).1 K'.1, C'.safe (hF x r).1 (hF x r).2⟩)⟩, N.app N', rfl, fun t q => k t (st.trans (by subst hp; exact q))⟩, K', hQ⟩
theorem Wl.callU {index : Nat} {y : MethodName} {bytes : ByteArray} {maxL : Nat} {ret : Option FieldType} {rm : Room} {wsC sfC : List Addr} {St : List Value} {a : Addr} {C owner : String} {zz : MethodName} {Q : Option Value → Heap → List Addr → Prop} (G : Wl Z a0 own p l e R s m args below meth c code mx B EL h0 n0 ws sf h cells slots pc L (St)) (pc' : Nat) (w1 : (Cond.methodLink own index y).before a0 Z = true) (w2 : (Cond.sameMethod y.cls owner y.name y.desc).before a0 Z = true) (w5 : (Cond.declares ⟨owner, y.name, y.desc⟩).before a0 Z = true) (w3 : (Cond.selects C y zz).before a0 Z = true) (w4 : (Cond.instanceMethod zz).before a0 Z = true) (wz : (Cond.initialized zz.cls).before a0 Z = true) (wc : (Cond.code zz bytes maxL ret).before a0 Z = true) (Ex : Exa Z h a C) (hy : owner ≠ "java/lang/invoke/MethodHandle" ∧ owner ≠ "java/lang/invoke/VarHandle") (argsL rest : List Value) (hst : St = argsL.reverse ++ .ref a :: rest) (hM : Con Z a0 l zz bytes maxL ret rm [] (.ref a :: argsL).toArray EL h n0 wsC sfC Q) (hlen : ∀ sig, parseMethodDescriptor y.desc = some sig → argsL.length = sig.parameters.length) (hd : decode code pc = .ok (.invokevirtual index, 3)) (hz : L.size = mx) (hf : rm.frames + 1 ≤ R.frames) (hl : (rest.map fun v => v.category).sum + (maxL + 11) + rm.locals ≤ R.locals) (hc : cells + rm.cells ≤ R.cells) (hs : slots + rm.slots ≤ R.slots) (hws : ∀ x ∈ wsC, NW h0 ws x) (hsf : ∀ x ∈ sfC, x ∈ sf) (hwf : ∀ x ∈ wsC, x ∈ sf) (hp : pc + 3 = pc') :
    ∃ (v : Option Value) (h' : Heap) (so : List Addr), Wl Z a0 own p l e R s m args below meth c code mx B EL h0 n0 ws (so ++ sf) h' (cells + rm.cells) (slots + rm.slots) pc' L (v.toList ++ rest) ∧ Keep h h' wsC ∧ Q v h' so := by
  have nw := fun x (q : NW h0 ws x) => G.nw q
  obtain ⟨⟨hx, hby, hml, hEW⟩, ⟨o1, z2, z3, z1, es⟩, v0, k0, T, locs, X, ⟨hS, hk, hZ, hown⟩, ⟨hC, hF⟩, N, eT, k⟩ := G
  subst hst
  obtain ⟨cq, kq, q1, q2, q3⟩ := isOf (s := s.setVm v0) (T := T) hZ eT Ex
  obtain ⟨v, _, ⟨T', L', k', n'⟩, -, X', hS', g', ⟨Lc, ⟨so, N', K', hQ, C', F'⟩, l', y', z'⟩, st⟩ := X.virtualBackUpS hx (x := y) (y := zz) hown (mvT (s := s.setVm v0) hZ w1) (mvT (s := s.setVm v0) hZ w2) (mvT (s := s.setVm v0) hZ w5) hy (mvT (s := s.setVm v0) hZ w3) (mvT (s := s.setVm v0) hZ w4) (backL (s := s) (W := (rest.map fun v => v.category).sum) hM hZ wc wz hf hl hEW hC.1 (fun x hx => hF x (hsf x hx))) q1 q3 (g := mkF m pc L (argsL.reverse ++ .ref a :: rest)) rfl (hz.trans hml.symm) (Steps.refl _) (argsL := argsL) (rest := rest) hlen rfl (by show 2 * 0 + _ ≤ _; omega) (hb hby hd) (fun _ _ => ⟨rfl, eT, hc, hs⟩)
  dsimp only [Pt.U, Pt.locs, Pt.cells, Pt.slots] at X' hS' g' l' y' z' st N' K' hQ C' F'
  subst l' y' z'
  obtain ⟨X2, hS2, hZ2, hown2⟩ := rebS (s := s) hS (by rw [← eT] at hk; exact hk) X' hS' g' hZ hown
  exact ⟨v, T'.heap, so, ⟨⟨hx, hby, hml, hEW⟩, ⟨o1.keep K' (fun x q => nw x (hws x q)), z2.trans K' hws, z3, z1, es⟩, T'.vm, _, T', _, X2, ⟨hS2, Nat.le_refl _, hZ2, hown2⟩, ⟨hC.trans C', fun x q => (List.mem_append.mp q).elim (F' x) (fun r => ⟨Nat.lt_of_lt_of_le (hF x r).1 K'.1, C'.safe (hF x r).1 (hF x r).2⟩)⟩, N.app N', rfl, fun t q => k t (st.trans (by subst hp; exact q))⟩, K', hQ⟩
theorem Wl.callF {index : Nat} {y : MethodName} {bytes : ByteArray} {maxL : Nat} {ret : Option FieldType} {rm : Room} {wsC sfC : List Addr} {St : List Value} {a : Addr} {C : String} {count : Nat} {zz : MethodName} {Q : Option Value → Heap → List Addr → Prop} (G : Wl Z a0 own p l e R s m args below meth c code mx B EL h0 n0 ws sf h cells slots pc L (St)) (pc' : Nat) (w1 : (Cond.methodLink own index y).before a0 Z = true) (w2 : (Cond.declares y).before a0 Z = true) (w5 : (Cond.interfaceMethod y.cls y.cls y.name y.desc).before a0 Z = true) (k5 : ((Cond.interfaceMethod y.cls y.cls y.name y.desc).onTables && (Cond.interfaceMethod y.cls y.cls y.name y.desc).keepsFace) = true) (w3 : (Cond.selects C y zz).before a0 Z = true) (w4 : (Cond.instanceMethod zz).before a0 Z = true) (w6 : (Cond.publicMethod zz).before a0 Z = true) (w7 : (Cond.unhidden C y.name y.desc).before a0 Z = true) (w8 : (Cond.castable C y.cls).before a0 Z = true) (wz : (Cond.initialized zz.cls).before a0 Z = true) (wc : (Cond.code zz bytes maxL ret).before a0 Z = true) (Ex : Exa Z h a C) (hy : y.cls ≠ "java/lang/invoke/MethodHandle" ∧ y.cls ≠ "java/lang/invoke/VarHandle") (argsL rest : List Value) (hst : St = argsL.reverse ++ .ref a :: rest) (hM : Con Z a0 l zz bytes maxL ret rm [] (.ref a :: argsL).toArray EL h n0 wsC sfC Q) (hlen : ∀ sig, parseMethodDescriptor y.desc = some sig → argsL.length = sig.parameters.length) (hd : decode code pc = .ok (.invokeinterface index count, 5)) (hz : L.size = mx) (hf : rm.frames + 1 ≤ R.frames) (hl : (rest.map fun v => v.category).sum + (maxL + 11) + rm.locals ≤ R.locals) (hc : cells + rm.cells ≤ R.cells) (hs : slots + rm.slots ≤ R.slots) (hws : ∀ x ∈ wsC, NW h0 ws x) (hsf : ∀ x ∈ sfC, x ∈ sf) (hwf : ∀ x ∈ wsC, x ∈ sf) (hp : pc + 5 = pc') :
    ∃ (v : Option Value) (h' : Heap) (so : List Addr), Wl Z a0 own p l e R s m args below meth c code mx B EL h0 n0 ws (so ++ sf) h' (cells + rm.cells) (slots + rm.slots) pc' L (v.toList ++ rest) ∧ Keep h h' wsC ∧ Q v h' so := by
  have nw := fun x (q : NW h0 ws x) => G.nw q
  obtain ⟨⟨hx, hby, hml, hEW⟩, ⟨o1, z2, z3, z1, es⟩, v0, k0, T, locs, X, ⟨hS, hk, hZ, hown⟩, ⟨hC, hF⟩, N, eT, k⟩ := G
  subst hst
  obtain ⟨cq, kq, q1, q2, q3⟩ := isOf (s := s.setVm v0) (T := T) hZ eT Ex
  obtain ⟨v, _, ⟨T', L', k', n'⟩, -, X', hS', g', ⟨Lc, ⟨so, N', K', hQ, C', F'⟩, l', y', z'⟩, st⟩ := X.interfaceBackS hx (xi := y) (y := zz) hown (mvT (s := s.setVm v0) hZ w1) (mvT (s := s.setVm v0) hZ w2) (mvT (s := s.setVm v0) hZ w5 k5) (mvT (s := s.setVm v0) hZ w3) (mvT (s := s.setVm v0) hZ w4) (mvT (s := s.setVm v0) hZ w6) (mvT (s := s.setVm v0) hZ w7) (mvT (s := s.setVm v0) hZ w8) hy (backL (s := s) (W := (rest.map fun v => v.category).sum) hM hZ wc wz hf hl hEW hC.1 (fun x hx => hF x (hsf x hx))) q1 q2 q3 (g := mkF m pc L (argsL.reverse ++ .ref a :: rest)) rfl (hz.trans hml.symm) (Steps.refl _) (argsL := argsL) (rest := rest) hlen rfl (by show 2 * 0 + _ ≤ _; omega) (hb hby hd) (fun _ _ => ⟨rfl, eT, hc, hs⟩)
  dsimp only [Pt.U, Pt.locs, Pt.cells, Pt.slots] at X' hS' g' l' y' z' st N' K' hQ C' F'
  subst l' y' z'
  obtain ⟨X2, hS2, hZ2, hown2⟩ := rebS (s := s) hS (by rw [← eT] at hk; exact hk) X' hS' g' hZ hown
  exact ⟨v, T'.heap, so, ⟨⟨hx, hby, hml, hEW⟩, ⟨o1.keep K' (fun x q => nw x (hws x q)), z2.trans K' hws, z3, z1, es⟩, T'.vm, _, T', _, X2, ⟨hS2, Nat.le_refl _, hZ2, hown2⟩, ⟨hC.trans C', fun x q => (List.mem_append.mp q).elim (F' x) (fun r => ⟨Nat.lt_of_lt_of_le (hF x r).1 K'.1, C'.safe (hF x r).1 (hF x r).2⟩)⟩, N.app N', rfl, fun t q => k t (st.trans (by subst hp; exact q))⟩, K', hQ⟩
theorem Wl.callSup {index : Nat} {y : MethodName} {bytes : ByteArray} {maxL : Nat} {ret : Option FieldType} {rm : Room} {wsC sfC : List Addr} {St : List Value} {a : Addr} {K : String} {Q : Option Value → Heap → List Addr → Prop} (G : Wl Z a0 own p l e R s m args below meth c code mx B EL h0 n0 ws sf h cells slots pc L (St)) (pc' : Nat) (w1 : (Cond.methodLink own index y).before a0 Z = true) (w2 : (Cond.sameMethod y.cls y.cls y.name y.desc).before a0 Z = true) (w3 : (Cond.instanceMethod y).before a0 Z = true) (w4 : (Cond.superclass own y.cls).before a0 Z = true) (hn : y.name ≠ "<init>") (wz : (Cond.initialized y.cls).before a0 Z = true) (wc : (Cond.code y bytes maxL ret).before a0 Z = true) (Ex : Ins Z h a K true) (argsL rest : List Value) (hst : St = argsL.reverse ++ .ref a :: rest) (hM : Con Z a0 l y bytes maxL ret rm [] (.ref a :: argsL).toArray EL h n0 wsC sfC Q) (hlen : ∀ sig, parseMethodDescriptor y.desc = some sig → argsL.length = sig.parameters.length) (hd : decode code pc = .ok (.invokespecial index, 3)) (hz : L.size = mx) (hf : rm.frames + 1 ≤ R.frames) (hl : (rest.map fun v => v.category).sum + (maxL + 11) + rm.locals ≤ R.locals) (hc : cells + rm.cells ≤ R.cells) (hs : slots + rm.slots ≤ R.slots) (hws : ∀ x ∈ wsC, NW h0 ws x) (hsf : ∀ x ∈ sfC, x ∈ sf) (hwf : ∀ x ∈ wsC, x ∈ sf) (hp : pc + 3 = pc') :
    ∃ (v : Option Value) (h' : Heap) (so : List Addr), Wl Z a0 own p l e R s m args below meth c code mx B EL h0 n0 ws (so ++ sf) h' (cells + rm.cells) (slots + rm.slots) pc' L (v.toList ++ rest) ∧ Keep h h' wsC ∧ Q v h' so := by
  have nw := fun x (q : NW h0 ws x) => G.nw q
  obtain ⟨⟨hx, hby, hml, hEW⟩, ⟨o1, z2, z3, z1, es⟩, v0, k0, T, locs, X, ⟨hS, hk, hZ, hown⟩, ⟨hC, hF⟩, N, eT, k⟩ := G
  subst hst
  obtain ⟨v, _, ⟨T', L', k', n'⟩, -, X', hS', g', ⟨Lc, ⟨so, N', K', hQ, C', F'⟩, l', y', z'⟩, st⟩ := superBackS (s := s.setVm v0) X hx hZ (y := y) hown w1 w2 w3 w4 hn (backL (s := s) (W := (rest.map fun v => v.category).sum) hM hZ wc wz hf hl hEW hC.1 (fun x hx => hF x (hsf x hx))) eT Ex (g := mkF m pc L (argsL.reverse ++ .ref a :: rest)) rfl (hz.trans hml.symm) wc (argsL := argsL) (rest := rest) hlen rfl (by show 2 * 0 + _ ≤ _; omega) (hb hby hd) (fun _ _ => ⟨rfl, eT, hc, hs⟩)
  dsimp only [Pt.U, Pt.locs, Pt.cells, Pt.slots] at X' hS' g' l' y' z' st N' K' hQ C' F'
  subst l' y' z'
  obtain ⟨X2, hS2, hZ2, hown2⟩ := rebS (s := s) hS (by rw [← eT] at hk; exact hk) X' hS' g' hZ hown
  exact ⟨v, T'.heap, so, ⟨⟨hx, hby, hml, hEW⟩, ⟨o1.keep K' (fun x q => nw x (hws x q)), z2.trans K' hws, z3, z1, es⟩, T'.vm, _, T', _, X2, ⟨hS2, Nat.le_refl _, hZ2, hown2⟩, ⟨hC.trans C', fun x q => (List.mem_append.mp q).elim (F' x) (fun r => ⟨Nat.lt_of_lt_of_le (hF x r).1 K'.1, C'.safe (hF x r).1 (hF x r).2⟩)⟩, N.app N', rfl, fun t q => k t (st.trans (by subst hp; exact q))⟩, K', hQ⟩
theorem nfSel {C : String} {y : MethodName} (w3 : (Cond.selects C y y).before a0 Z = true) : ∀ s' : State, Z.Warmed39 s'.vm → NotFace s' y := fun s' hZ => notFace_of_selects (args := #[]) (mvT hZ w3)
theorem Wl.val {v : Option Value} {w : Value} {rest : List Value} (G : Wl Z a0 own p l e R s m args below meth c code mx B EL h0 n0 ws sf h cells slots pc L (v.toList ++ rest)) (q : v = some w) : Wl Z a0 own p l e R s m args below meth c code mx B EL h0 n0 ws sf h cells slots pc L (w :: rest) := by subst q; exact G
theorem Wl.nov {v : Option Value} {rest : List Value} (G : Wl Z a0 own p l e R s m args below meth c code mx B EL h0 n0 ws sf h cells slots pc L (v.toList ++ rest)) (q : v = none) : Wl Z a0 own p l e R s m args below meth c code mx B EL h0 n0 ws sf h cells slots pc L (rest) := by subst q; exact G
theorem Wl.callP {index : Nat} {y : MethodName} {bytes : ByteArray} {maxL : Nat} {ret : Option FieldType} {rm : Room} {wsC sfC : List Addr} {St : List Value} {a : Addr} {C : String} {Q : Option Value → Heap → List Addr → Prop} (G : Wl Z a0 own p l e R s m args below meth c code mx B EL h0 n0 ws sf h cells slots pc L (St)) (pc' : Nat) (w1 : (Cond.methodLink own index y).before a0 Z = true) (w2 : (Cond.instanceMethod y).before a0 Z = true) (w3 : (Cond.selects y.cls y y).before a0 Z = true) (w4 : (Cond.privateMethod y).before a0 Z = true) (wz : (Cond.initialized y.cls).before a0 Z = true) (wc : (Cond.code y bytes maxL ret).before a0 Z = true) (Ex : Exa Z h a C) (hy : y.cls ≠ "java/lang/invoke/MethodHandle" ∧ y.cls ≠ "java/lang/invoke/VarHandle") (argsL rest : List Value) (hst : St = argsL.reverse ++ .ref a :: rest) (hM : Con Z a0 l y bytes maxL ret rm [] (.ref a :: argsL).toArray EL h n0 wsC sfC Q) (hlen : ∀ sig, parseMethodDescriptor y.desc = some sig → argsL.length = sig.parameters.length) (hd : decode code pc = .ok (.invokevirtual index, 3)) (hz : L.size = mx) (hf : rm.frames + 1 ≤ R.frames) (hl : (rest.map fun v => v.category).sum + (maxL + 11) + rm.locals ≤ R.locals) (hc : cells + rm.cells ≤ R.cells) (hs : slots + rm.slots ≤ R.slots) (hws : ∀ x ∈ wsC, NW h0 ws x) (hsf : ∀ x ∈ sfC, x ∈ sf) (hwf : ∀ x ∈ wsC, x ∈ sf) (hp : pc + 3 = pc') :
    ∃ (v : Option Value) (h' : Heap) (so : List Addr), Wl Z a0 own p l e R s m args below meth c code mx B EL h0 n0 ws (so ++ sf) h' (cells + rm.cells) (slots + rm.slots) pc' L (v.toList ++ rest) ∧ Keep h h' wsC ∧ Q v h' so := by
  have nw := fun x (q : NW h0 ws x) => G.nw q
  obtain ⟨⟨hx, hby, hml, hEW⟩, ⟨o1, z2, z3, z1, es⟩, v0, k0, T, locs, X, ⟨hS, hk, hZ, hown⟩, ⟨hC, hF⟩, N, eT, k⟩ := G
  subst hst
  obtain ⟨cellq, kq, q1, -, -, q4, -⟩ := Ex
  obtain ⟨v, _, ⟨T', L', k', n'⟩, -, X', hS', g', ⟨Lc, ⟨so, N', K', hQ, C', F'⟩, l', y', z'⟩, st⟩ := X.privateBackS hx (y := y) hown (mvT (s := s.setVm v0) hZ w1) (mvT (s := s.setVm v0) hZ w2) (mvT (s := s.setVm v0) hZ w3) (Cond.privateMethod_at (args := args) (mvP (s := s.setVm v0) hZ w4)) (mvT (s := s.setVm v0) hZ wc) hy (backL (s := s) (W := (rest.map fun v => v.category).sum) hM hZ wc wz hf hl hEW hC.1 (fun x hx => hF x (hsf x hx))) (g := mkF m pc L (argsL.reverse ++ .ref a :: rest)) rfl (hz.trans hml.symm) (Steps.refl _) (by rw [eT]; exact q1) (fun q r => by rw [r] at q4; cases q4) (argsL := argsL) (rest := rest) hlen rfl (by show 2 * 0 + _ ≤ _; omega) (hb hby hd) (fun _ _ => ⟨rfl, eT, hc, hs⟩)
  dsimp only [Pt.U, Pt.locs, Pt.cells, Pt.slots] at X' hS' g' l' y' z' st N' K' hQ C' F'
  subst l' y' z'
  obtain ⟨X2, hS2, hZ2, hown2⟩ := rebS (s := s) hS (by rw [← eT] at hk; exact hk) X' hS' g' hZ hown
  exact ⟨v, T'.heap, so, ⟨⟨hx, hby, hml, hEW⟩, ⟨o1.keep K' (fun x q => nw x (hws x q)), z2.trans K' hws, z3, z1, es⟩, T'.vm, _, T', _, X2, ⟨hS2, Nat.le_refl _, hZ2, hown2⟩, ⟨hC.trans C', fun x q => (List.mem_append.mp q).elim (F' x) (fun r => ⟨Nat.lt_of_lt_of_le (hF x r).1 K'.1, C'.safe (hF x r).1 (hF x r).2⟩)⟩, N.app N', rfl, fun t q => k t (st.trans (by subst hp; exact q))⟩, K', hQ⟩
theorem declOf {y : MethodName} {bytes : ByteArray} {maxL : Nat} {ret : Option FieldType} (w2 : (Cond.instanceMethod y).before a0 Z = true) (wc : (Cond.code y bytes maxL ret).before a0 Z = true) : (Cond.declares y).before a0 Z = true := by
  obtain ⟨mk, methM, hnamed, hmethM, hstM, -⟩ := Cond.instanceMethod_spec w2
  obtain ⟨methM', cM, hmethM', -, -, -, -, -, -, hsigM⟩ := Cond.code_spec hnamed wc
  cases hmethM.symm.trans hmethM'
  simp [Cond.before, Cond.holds, Cond.value, hnamed, hmethM, hstM, hsigM]
theorem nfVia {C : String} {y y' : MethodName} (hc : y'.cls = y.cls) (w3 : (Cond.selects C y y).before a0 Z = true) (w4 : (Cond.instanceMethod y).before a0 Z = true) : ∀ s' : State, Z.Warmed39 s'.vm → NotFace s' y' := fun s' hZ r0 h0 => by
  obtain ⟨mk, methM, hnamed, -⟩ := Cond.instanceMethod_spec (mv (args := #[]) hZ w4)
  obtain ⟨kr, h1, h2⟩ := notFace_of_selects (args := #[]) (mvT hZ w3) mk hnamed
  have e1 := findClass_of_methodNamed hnamed
  have e2 := findClass_of_methodNamed h0
  rw [hc] at e2
  have e3 := Option.some.inj (e1.symm.trans e2)
  exact ⟨kr, by rw [← e3]; exact h1, h2⟩
theorem sameOf {y : MethodName} (w2 : (Cond.instanceMethod y).before a0 Z = true) (nf : ∀ s' : State, Z.Warmed39 s'.vm → NotFace s' y) (hy : y.cls ≠ "java/lang/invoke/MethodHandle" ∧ y.cls ≠ "java/lang/invoke/VarHandle") : (Cond.sameMethod y.cls y.cls y.name y.desc).before a0 Z = true := by
  obtain ⟨mk, methM, hnamed, -⟩ := Cond.instanceMethod_spec w2
  obtain ⟨kr, h1, h2⟩ := nf Z (State.Warmed39.refl Z) mk hnamed
  have e1 := findClass_of_methodNamed hnamed
  have e2 := State.methodFound?_of_named hnamed hy
  have e3 : Z.methodNamed? ⟨y.cls, y.name, y.desc⟩ = some mk := hnamed
  simp [Cond.before, Cond.holds, Cond.value, e1, e2, e3, h1, h2]
theorem Wl.ccast {K : String} {index : Nat} {a : Addr} (G : Wl Z a0 own p l e R s m args below meth c code mx B EL h0 n0 ws sf h cells slots pc L (.ref a :: S)) (pc' : Nat) (w : (Cond.classLink own index K).before a0 Z = true) (F : Ins Z h a K true) (hd : decode code pc = .ok (.checkcast index, 3)) (hp : pc + 3 = pc') : Wl Z a0 own p l e R s m args below meth c code mx B EL h0 n0 ws sf h cells slots pc' L (.ref a :: S) := by
  obtain ⟨⟨hx, hby, hml, hEW⟩, ⟨o1, z2, z3, z1, es⟩, v0, k0, T, locs, X, ⟨hS, hk, hZ, hown⟩, ⟨hC, hF⟩, N, eT, k⟩ := G
  obtain ⟨T', X', e', st⟩ := castY (s := s.setVm v0) X hx hZ hown w eT F (g := mkF m pc L (.ref a :: S)) rfl rfl (hb hby hd)
  exact ⟨⟨hx, hby, hml, hEW⟩, ⟨o1, z2, z3, z1, es⟩, v0, k0, T', _, X', ⟨hS, hk, hZ, hown⟩, ⟨hC, hF⟩, N, e', fun t q => k t (st t (by subst hp; exact q))⟩
theorem Wl.instY {K : String} {index : Nat} {a : Addr} (G : Wl Z a0 own p l e R s m args below meth c code mx B EL h0 n0 ws sf h cells slots pc L (.ref a :: S)) (pc' : Nat) (w : (Cond.classLink own index K).before a0 Z = true) (F : Ins Z h a K true) (hd : decode code pc = .ok (.instanceof index, 3)) (hp : pc + 3 = pc') : Wl Z a0 own p l e R s m args below meth c code mx B EL h0 n0 ws sf h cells slots pc' L (.int 1 :: S) := by
  obtain ⟨⟨hx, hby, hml, hEW⟩, ⟨o1, z2, z3, z1, es⟩, v0, k0, T, locs, X, ⟨hS, hk, hZ, hown⟩, ⟨hC, hF⟩, N, eT, k⟩ := G
  obtain ⟨T', X', e', st⟩ := Jvm.RoadKit.instY (s := s.setVm v0) X hx hZ hown w eT F (g := mkF m pc L (.ref a :: S)) rfl rfl (hb hby hd)
  exact ⟨⟨hx, hby, hml, hEW⟩, ⟨o1, z2, z3, z1, es⟩, v0, k0, T', _, X', ⟨hS, hk, hZ, hown⟩, ⟨hC, hF⟩, N, e', fun t q => k t (st t (by subst hp; exact q))⟩
theorem Wl.cpy {index : Nat} {a b : Addr} {k k' : ClassId} {ty : FieldType} {z z' sp dp nn : Int32} {vs vd : List Value} {dv dd : Value} (G : Wl Z a0 own p l e R s m args below meth c code mx B EL h0 n0 ws sf h cells slots pc L (.int nn :: .int dp :: .ref b :: .int sp :: .ref a :: S)) (pc' : Nat) (w1 : (Cond.methodLink own index Jvm.Stand.acN).before a0 Z = true) (w2 : (Cond.native Jvm.Stand.acN).before a0 Z = true) (w3 : (Cond.static Jvm.Stand.acN).before a0 Z = true) (w4 : (Cond.initialized "java/lang/System").before a0 Z = true) (A : Arv Z h a k ty z vs dv) (B' : Arv Z h b k' ty z' vd dd) (hr : refKind ty = false) (h1 : ¬ sp < 0) (h2 : ¬ dp < 0) (h3 : ¬ nn < 0) (h4 : sp.toNatClampNeg + nn.toNatClampNeg ≤ z.toNatClampNeg) (h5 : dp.toNatClampNeg + nn.toNatClampNeg ≤ z'.toNatClampNeg) (hl : dp.toNatClampNeg + nn.toNatClampNeg ≤ vd.length) (q : NW h0 ws b) (qs : b ∈ sf) (hd : decode code pc = .ok (.invokestatic index, 3)) (hz : L.size = mx) (hf : 1 ≤ R.frames) (hlo : (S.map fun v => v.category).sum + (nativeFrameWords "java/lang/System" "arraycopy" 5 + 11) ≤ R.locals) (hp : pc + 3 = pc') : ∃ (h' : Heap), Wl Z a0 own p l e R s m args below meth c code mx B EL h0 n0 ws sf h' cells slots pc' L S ∧ Arv Z h' b k' ty z' (vd.take dp.toNatClampNeg ++ ((List.range nn.toNatClampNeg).map fun i => vs.getD (sp.toNatClampNeg + i) dv) ++ vd.drop (dp.toNatClampNeg + nn.toNatClampNeg)) dd ∧ Keep h h' [b] := by
  have qn := G.nw q
  obtain ⟨⟨hx, hby, hml, hEW⟩, ⟨o1, z2, z3, z1, es⟩, v0, k0, T, locs, X, ⟨hS, hk, hZ, hown⟩, ⟨hC, hF⟩, N, eT, k⟩ := G
  obtain ⟨T', h', LL, X', e', N', K', A', st⟩ := cpA (s := s.setVm v0) X hx hZ hown w1 w2 w3 w4 eT A B' (Or.inl ⟨rfl, hr⟩) h1 h2 h3 h4 h5 rfl hl N qn (g := mkF m pc L (.int nn :: .int dp :: .ref b :: .int sp :: .ref a :: S)) rfl (hz.trans hml.symm) rfl (hb hby hd) hf (W := (S.map fun v => v.category).sum) (by show 2 * 0 + _ ≤ _; omega) hlo
  have hsb : ∀ x ∈ [b], Safe Z EL v0 h x := fun x y => by cases List.mem_singleton.mp y; exact (hF _ qs).2
  exact ⟨h', ⟨⟨hx, hby, hml, hEW⟩, ⟨o1.keep K' (allS qn all0), z2.trans K' (allS q all0), z3, z1, es⟩, v0, k0, T', _, X', ⟨hS, Nat.le_trans hk K'.1, hZ, hown⟩, ⟨hC.trans (CHr.keep K' hsb hC.1), safeKeep K' hsb hC.1 hF⟩, N', e', fun t q => k t (st t (by subst hp; exact q))⟩, A', K'⟩
theorem Wl.ldcS {index : Nat} {text : String} {vs : List Value} {z : Int32} (G : Wl Z a0 own p l e R s m args below meth c code mx B EL h0 n0 ws sf h cells slots pc L S) (pc' : Nat) (w : (Cond.stringLink own index text).before a0 Z = true) (wS : ∀ a ∈ Bundle.stringAtoms, a.before a0 Z = true) (hmem : (own, index) ∈ EL) (ht : (∀ c ∈ text.toList, c.toNat < 256) ∧ text.toList.map (fun c => Value.int (Jvm.Lit.byteI c.toNat.toUInt16)) = vs) (hz : ¬ z < 0) (hl : z.toNatClampNeg = vs.length) (hd : decode code pc = .ok (.ldc index, 2)) (n : Nat) (hn : 4 * text.toList.length ≤ n) (hbig : n ≤ 536870912) (hc : cells + 2 ≤ R.cells) (hl' : slots + (n + 4) ≤ R.slots) (hp : pc + 2 = pc') : ∃ (a b : Addr) (h' : Heap) (kk : ClassId), Wl Z a0 own p l e R s m args below meth c code mx B EL h0 n0 ws sf h' (cells + 2) (slots + (n + 4)) pc' L (.ref a :: S) ∧ Ext h h' ∧ Exa Z h' a "java/lang/String" ∧ Fld Z h' a "java/lang/String" "coder" "B" (.int 0) ∧ Fld Z h' a "java/lang/String" "value" "[B" (.ref b) ∧ Arv Z h' b kk .byte z vs (.int 0) ∧ ∀ x ∈ sf, x ≠ a ∧ x ≠ b := by
  obtain ⟨⟨hx, hby, hml, hEW⟩, ⟨o1, z2, z3, z1, es⟩, v0, k0, T, locs, X, ⟨hS, hk, hZ, hown⟩, ⟨hC, hF⟩, N, eT, k⟩ := G
  obtain ⟨a, T', h', k1, b, kk, X', e', E, hS', hk', hZ', hown', Ex, Fc, Fv, A, -, -, C', -, hne, st⟩ := ldcCH X hx hZ hown w wS eT hS hk hEW hmem hC.1 ht hz hl (g := mkF m pc L S) rfl (hb hby hd) hn hbig hc hl'
  have hF' : ∀ x ∈ sf, x < h'.size ∧ Safe Z EL T'.vm h' x := fun x q => ⟨Nat.lt_of_lt_of_le (hF x q).1 E.1, C'.safe (hF x q).1 (hF x q).2⟩
  exact ⟨a, b, h', kk, ⟨⟨hx, hby, hml, hEW⟩, ⟨o1.ext E, z2.ext E, z3, z1, es⟩, T'.vm, k1, T', _, X', ⟨hS', hk', hZ', hown'⟩, ⟨hC.trans C', hF'⟩, N, e', fun t q => k t (st t (by subst hp; exact q))⟩, E, Ex, Fc, Fv, A, fun x q => hne x (hF' x q).2⟩
end OwnL
end Jvm.OwnL
namespace Jvm.Pilot.@@N@@
open Jvm Jvm.ClassFile Sem Op Lib Jvm.Free Jvm.Free.Fl Jvm.Stand Jvm.LawKit Jvm.RoadKit Jvm.OwnL Bundle Jvm.Pilot.@@N@@.Jvm.D
theorem ofn_int {n : Nat} (h : n < 2147483648) : (Int32.ofNat n).toInt = (n : Int) := Int32.toInt_ofNat_small h
theorem ofn_nat {n : Nat} (h : n < 2147483648) : (Int32.ofNat n).toNatClampNeg = n := by simp only [Int32.toNatClampNeg, ofn_int h]; omega
theorem ofn_nn {n : Nat} (h : n < 2147483648) : ¬ Int32.ofNat n < 0 := by
  rw [Int32.lt_iff_toInt_lt, ofn_int h]; show ¬ (n : Int) < 0; omega
theorem ofn_lt {i n : Nat} (hi : i < n) (h : n < 2147483648) : Int32.ofNat i < Int32.ofNat n := by
  rw [Int32.lt_iff_toInt_lt, ofn_int h, ofn_int (by omega)]; omega
theorem ofn_nlt {i n : Nat} (hi : n ≤ i) (h : i < 2147483648) : ¬ Int32.ofNat i < Int32.ofNat n := by
  rw [Int32.lt_iff_toInt_lt, ofn_int h, ofn_int (by omega)]; omega
theorem ofn_ne {i n : Nat} (hi : i ≠ n) (h1 : i < 2147483648) (h2 : n < 2147483648) : ¬ Int32.ofNat i = Int32.ofNat n := fun q => hi (by
  have := congrArg Int32.toInt q; rw [ofn_int h1, ofn_int h2] at this; omega)
theorem ofn_add (a b : Nat) : Int32.ofNat a + Int32.ofNat b = Int32.ofNat (a + b) := (Int32.ofNat_add a b).symm
theorem ofn_sub {a b : Nat} (h : b ≤ a) (ha : a < 2147483648) : Int32.ofNat a - Int32.ofNat b = Int32.ofNat (a - b) := by
  apply Int32.toInt_inj.mp
  have e := c_isub (Int32.ofNat a) (Int32.ofNat b)
  have r := rng32 (Int32.ofNat a - Int32.ofNat b)
  rw [ofn_int ha, ofn_int (by omega)] at e
  rw [ofn_int (by omega)]; omega
theorem ofn_le0 {a b : Nat} (h : a ≤ b) (hb : b < 2147483648) : ¬ 0 < Int32.ofNat a - Int32.ofNat b := by
  have e := c_isub (Int32.ofNat a) (Int32.ofNat b)
  have r := rng32 (Int32.ofNat a - Int32.ofNat b)
  rw [ofn_int (by omega), ofn_int hb] at e
  rw [Int32.lt_iff_toInt_lt]; show ¬ (0 : Int) < _; omega
theorem shr0 (x : Int32) : x >>> ((0 : Int32) &&& 31) = x := by
  apply Int32.toInt_inj.mp; rw [c_ishr x 0 0 rfl]; simp
theorem shl0 (x : Int32) : x <<< ((0 : Int32) &&& 31) = x := by
  have e : (0 : Int32) &&& 31 = 0 := by decide
  have f := c_ishl x 0 0 rfl
  have r := rng32 (x <<< ((0 : Int32) &&& 31)); have r2 := rng32 x
  rw [show ((2 ^ 0 : Nat) : Int) = 1 from rfl, Int.mul_one] at f
  apply Int32.toInt_inj.mp; omega
theorem byt2 (x : Int32) : x.toInt8.toInt32.toInt8.toInt32 = x.toInt8.toInt32 := by simp
theorem sub0 (x : Int32) : x - 0 = x := by simp
theorem ofn_succ (i : Nat) : Int32.ofNat i + Int32.ofInt 1 = Int32.ofNat (i + 1) := (Int32.ofNat_add i 1).symm
theorem cpy_res (bs cs : List Value) (d : Value) : ((bs ++ List.replicate cs.length d).take bs.length ++ ((List.range cs.length).map fun i => cs.getD (0 + i) d) ++ (bs ++ List.replicate cs.length d).drop (bs.length + cs.length)) = bs ++ cs := by
  have e1 : (bs ++ List.replicate cs.length d).take bs.length = bs := by simp
  have e2 : (bs ++ List.replicate cs.length d).drop (bs.length + cs.length) = [] := List.drop_eq_nil_of_le (by simp)
  have e3 : ((List.range cs.length).map fun i => cs.getD (0 + i) d) = cs := by
    apply List.ext_getElem?
    intro i
    by_cases h : i < cs.length
    · simp [h]
    · simp [h, List.getElem?_eq_none (Nat.le_of_not_lt h)]
  rw [e1, e2, e3]; simp
def bytV (c : Int32) : Value := .int c.toInt8.toInt32
theorem tk_succ {α : Type} (cs : List Int32) (f : Int32 → α) (i : Nat) (h : i < cs.length) : (cs.take (i + 1)).map f = (cs.take i).map f ++ [f (cs.getD i 0)] := by
  rw [List.take_add_one, List.map_append]; simp [h]
theorem set_app (l : List Value) (d x : Value) (i : Nat) (h : l.length = i) : (l ++ [d]).set i x = l ++ [x] := by subst h; simp
theorem getD_mem (cs : List Int32) (i : Nat) (h : i < cs.length) : cs.getD i 0 ∈ cs := by simp [h]
theorem getD_map (cs : List Int32) (i : Nat) (h : i < cs.length) : (cs.map Value.int).getD i (.int 0) = .int (cs.getD i 0) := by simp [h]
theorem getD_mapB (cs : List Int32) (i : Nat) (h : i < cs.length) : (cs.map bytV).getD i (.int 0) = bytV (cs.getD i 0) := by simp [h]
theorem cod0 (x : Int32) : XT.ushr (x - x) 31 = 0 := by
  have e : x - x = 0 := by simp
  rw [e]; decide
/-- a Latin-1 String: the object a, its array b, its bytes -/
def Str (Z : State) (h : Heap) (a b : Addr) (bs : List Value) : Prop := Exa Z h a "java/lang/String" ∧ Fld Z h a "java/lang/String" "coder" "B" (.int 0) ∧ Fld Z h a "java/lang/String" "value" "[B" (.ref b) ∧ ∃ k, Arv Z h b k .byte (Int32.ofNat bs.length) bs (.int 0)
theorem Str.ext {Z : State} {h h' : Heap} {a b : Addr} {bs : List Value} (F : Str Z h a b bs) (E : Ext h h') : Str Z h' a b bs := by obtain ⟨h1, h2, h3, k, h4⟩ := F; exact ⟨h1.ext E, h2.ext E, h3.ext E, k, h4.ext E⟩
theorem Str.keep {Z : State} {h h' : Heap} {a b : Addr} {bs : List Value} {ws : List Addr} (F : Str Z h a b bs) (K : Keep h h' ws) (q : a ∉ ws) (r : b ∉ ws) : Str Z h' a b bs := by obtain ⟨h1, h2, h3, k, h4⟩ := F; exact ⟨h1.keep K, h2.keep K q, h3.keep K q, k, h4.keep K r⟩
/-- a StringBuilder: the object a, its array b of cap bytes, its bytes so far -/
def Sbd (Z : State) (h : Heap) (a b : Addr) (cap : Nat) (bs : List Value) : Prop := Exa Z h a "java/lang/StringBuilder" ∧ Fld Z h a "java/lang/AbstractStringBuilder" "value" "[B" (.ref b) ∧ Fld Z h a "java/lang/AbstractStringBuilder" "coder" "B" (.int 0) ∧ Fld Z h a "java/lang/AbstractStringBuilder" "count" "I" (.int (Int32.ofNat bs.length)) ∧ ∃ k, Arv Z h b k .byte (Int32.ofNat cap) bs (.int 0)
theorem Sbd.ext {Z : State} {h h' : Heap} {a b : Addr} {cap : Nat} {bs : List Value} (F : Sbd Z h a b cap bs) (E : Ext h h') : Sbd Z h' a b cap bs := by obtain ⟨h1, h2, h3, h4, k, h5⟩ := F; exact ⟨h1.ext E, h2.ext E, h3.ext E, h4.ext E, k, h5.ext E⟩
theorem Sbd.keep {Z : State} {h h' : Heap} {a b : Addr} {cap : Nat} {bs : List Value} {ws : List Addr} (F : Sbd Z h a b cap bs) (K : Keep h h' ws) (q : a ∉ ws) (r : b ∉ ws) : Sbd Z h' a b cap bs := by obtain ⟨h1, h2, h3, h4, k, h5⟩ := F; exact ⟨h1.keep K, h2.keep K q, h3.keep K q, h4.keep K q, k, h5.keep K r⟩
theorem Str.lt {Z : State} {h : Heap} {a b : Addr} {bs : List Value} (F : Str Z h a b bs) : a < h.size := F.1.lt
theorem Str.ltb {Z : State} {h : Heap} {a b : Addr} {bs : List Value} (F : Str Z h a b bs) : b < h.size := by obtain ⟨-, -, -, k, h4⟩ := F; exact h4.lt
theorem Sbd.lt {Z : State} {h : Heap} {a b : Addr} {cap : Nat} {bs : List Value} (F : Sbd Z h a b cap bs) : a < h.size := F.1.lt
theorem Sbd.ltb {Z : State} {h : Heap} {a b : Addr} {cap : Nat} {bs : List Value} (F : Sbd Z h a b cap bs) : b < h.size := by obtain ⟨-, -, -, -, k, h4⟩ := F; exact h4.lt
def dOnes : List Value := (List.range 100).map fun j => .int (Int32.ofNat (48 + j % 10))
def dTens : List Value := (List.range 100).map fun j => .int (Int32.ofNat (48 + j / 10))
theorem dOnes_at {r : Nat} (h : r < 100) : dOnes.getD r (.int 0) = .int (Int32.ofNat (48 + r % 10)) := by simp [dOnes, h]
theorem dTens_at {r : Nat} (h : r < 100) : dTens.getD r (.int 0) = .int (Int32.ofNat (48 + r / 10)) := by simp [dTens, h]
def dg (N k : Nat) : Value := .int (Int32.ofNat (48 + N / 10 ^ k % 10))
theorem dig_b {e : Nat} (h : e < 10) : (Int32.ofNat (48 + e)).toInt8.toInt32 = Int32.ofNat (48 + e) := by
  have : e = 0 ∨ e = 1 ∨ e = 2 ∨ e = 3 ∨ e = 4 ∨ e = 5 ∨ e = 6 ∨ e = 7 ∨ e = 8 ∨ e = 9 := by omega
  rcases this with rfl | rfl | rfl | rfl | rfl | rfl | rfl | rfl | rfl | rfl <;> decide
theorem ofn_pred (k : Nat) : Int32.ofNat (k + 1) + Int32.ofInt (-1) = Int32.ofNat k := by
  rw [Int32.ofNat_add]; show Int32.ofNat k + 1 + -1 = _; rw [Int32.add_assoc]; simp
theorem set_app2 (bs Ld : List Value) (j n : Nat) (x : Value) (h : n = bs.length + j) : (bs ++ Ld).set n x = bs ++ Ld.set j x := by subst h; simp [List.set_append]
theorem ng_int {M : Nat} (h : M < 2147483648) : (-(Int32.ofNat M)).toInt = -(M : Int) := by
  have e := c_ineg (Int32.ofNat M); have r := rng32 (-(Int32.ofNat M)); rw [ofn_int h] at e; omega
theorem ng_div {M : Nat} (h : M < 2147483648) : -(Int32.ofNat M) / 100 = -(Int32.ofNat (M / 100)) := by
  apply Int32.toInt_inj.mp
  have e := c_idiv (-(Int32.ofNat M)) 100 100 rfl (by decide)
  rw [ng_int h] at e
  rw [ng_int (by omega)]
  by_cases h0 : M = 0
  · subst h0; have := e.1 (by decide); rw [this]; decide
  · rw [e.2 (by omega)]; omega
theorem ng_rem {M : Nat} (h : M < 2147483648) : -(Int32.ofNat (M / 100)) * 100 - -(Int32.ofNat M) = Int32.ofNat (M % 100) := by
  apply Int32.toInt_inj.mp
  have e1 := c_imul (-(Int32.ofNat (M / 100))) 100
  have e2 := c_isub (-(Int32.ofNat (M / 100)) * 100) (-(Int32.ofNat M))
  have r1 := rng32 (-(Int32.ofNat (M / 100)) * 100); have r2 := rng32 (-(Int32.ofNat (M / 100)) * 100 - -(Int32.ofNat M))
  rw [ng_int (by omega), show (100 : Int32).toInt = 100 from rfl] at e1
  rw [ng_int h] at e2
  rw [ofn_int (by omega)]; omega
theorem ng_lt {M : Nat} {k : Int32} {K : Int} (h : M < 2147483648) (hk : k.toInt = K) (q : -(M : Int) < K) : -(Int32.ofNat M) < k := by rw [Int32.lt_iff_toInt_lt, ng_int h, hk]; exact q
theorem ng_nlt {M : Nat} {k : Int32} {K : Int} (h : M < 2147483648) (hk : k.toInt = K) (q : K ≤ -(M : Int)) : ¬ -(Int32.ofNat M) < k := by rw [Int32.lt_iff_toInt_lt, ng_int h, hk]; omega
theorem ng_gt {M : Nat} {k : Int32} {K : Int} (h : M < 2147483648) (hk : k.toInt = K) (q : K < -(M : Int)) : k < -(Int32.ofNat M) := by rw [Int32.lt_iff_toInt_lt, ng_int h, hk]; exact q
theorem ng_ngt {M : Nat} {k : Int32} {K : Int} (h : M < 2147483648) (hk : k.toInt = K) (q : -(M : Int) ≤ K) : ¬ k < -(Int32.ofNat M) := by rw [Int32.lt_iff_toInt_lt, ng_int h, hk]; omega
def nd (N : Nat) : Nat := if N < 10 then 1 else if N < 100 then 2 else if N < 1000 then 3 else if N < 10000 then 4 else if N < 100000 then 5 else if N < 1000000 then 6 else if N < 10000000 then 7 else if N < 100000000 then 8 else if N < 1000000000 then 9 else 10
def digs (N : Nat) : List Value := (List.range (nd N)).map fun j => dg N (nd N - 1 - j)
theorem nd_cases {N : Nat} (h : N < 2147483648) : (0 ≤ N ∧ N < 10) ∨ (10 ≤ N ∧ N < 100) ∨ (100 ≤ N ∧ N < 1000) ∨ (1000 ≤ N ∧ N < 10000) ∨ (10000 ≤ N ∧ N < 100000) ∨ (100000 ≤ N ∧ N < 1000000) ∨ (1000000 ≤ N ∧ N < 10000000) ∨ (10000000 ≤ N ∧ N < 100000000) ∨ (100000000 ≤ N ∧ N < 1000000000) ∨ (1000000000 ≤ N ∧ N < 2147483648) := by omega
theorem digs_len (N : Nat) : (digs N).length = nd N := by simp [digs]
theorem digs_at {N k : Nat} (h : k < nd N) : (digs N).getD k (.int 0) = dg N (nd N - 1 - k) := by simp [digs, h]
theorem nd_1 {N : Nat} (hlo : 0 ≤ N) (hhi : N < 10) : nd N = 1 := by unfold nd;  rw [if_pos (by omega)]
theorem digs_1 {N : Nat} (hlo : 0 ≤ N) (hhi : N < 10) : digs N = [dg N 0] := by unfold digs; rw [nd_1 hlo hhi]; rfl
theorem nd_2 {N : Nat} (hlo : 10 ≤ N) (hhi : N < 100) : nd N = 2 := by unfold nd; rw [if_neg (by omega)]; rw [if_pos (by omega)]
theorem digs_2 {N : Nat} (hlo : 10 ≤ N) (hhi : N < 100) : digs N = [dg N 1, dg N 0] := by unfold digs; rw [nd_2 hlo hhi]; rfl
theorem nd_3 {N : Nat} (hlo : 100 ≤ N) (hhi : N < 1000) : nd N = 3 := by unfold nd; rw [if_neg (by omega)]; rw [if_neg (by omega)]; rw [if_pos (by omega)]
theorem digs_3 {N : Nat} (hlo : 100 ≤ N) (hhi : N < 1000) : digs N = [dg N 2, dg N 1, dg N 0] := by unfold digs; rw [nd_3 hlo hhi]; rfl
theorem nd_4 {N : Nat} (hlo : 1000 ≤ N) (hhi : N < 10000) : nd N = 4 := by unfold nd; rw [if_neg (by omega)]; rw [if_neg (by omega)]; rw [if_neg (by omega)]; rw [if_pos (by omega)]
theorem digs_4 {N : Nat} (hlo : 1000 ≤ N) (hhi : N < 10000) : digs N = [dg N 3, dg N 2, dg N 1, dg N 0] := by unfold digs; rw [nd_4 hlo hhi]; rfl
theorem nd_5 {N : Nat} (hlo : 10000 ≤ N) (hhi : N < 100000) : nd N = 5 := by unfold nd; rw [if_neg (by omega)]; rw [if_neg (by omega)]; rw [if_neg (by omega)]; rw [if_neg (by omega)]; rw [if_pos (by omega)]
theorem digs_5 {N : Nat} (hlo : 10000 ≤ N) (hhi : N < 100000) : digs N = [dg N 4, dg N 3, dg N 2, dg N 1, dg N 0] := by unfold digs; rw [nd_5 hlo hhi]; rfl
theorem nd_6 {N : Nat} (hlo : 100000 ≤ N) (hhi : N < 1000000) : nd N = 6 := by unfold nd; rw [if_neg (by omega)]; rw [if_neg (by omega)]; rw [if_neg (by omega)]; rw [if_neg (by omega)]; rw [if_neg (by omega)]; rw [if_pos (by omega)]
theorem digs_6 {N : Nat} (hlo : 100000 ≤ N) (hhi : N < 1000000) : digs N = [dg N 5, dg N 4, dg N 3, dg N 2, dg N 1, dg N 0] := by unfold digs; rw [nd_6 hlo hhi]; rfl
theorem nd_7 {N : Nat} (hlo : 1000000 ≤ N) (hhi : N < 10000000) : nd N = 7 := by unfold nd; rw [if_neg (by omega)]; rw [if_neg (by omega)]; rw [if_neg (by omega)]; rw [if_neg (by omega)]; rw [if_neg (by omega)]; rw [if_neg (by omega)]; rw [if_pos (by omega)]
theorem digs_7 {N : Nat} (hlo : 1000000 ≤ N) (hhi : N < 10000000) : digs N = [dg N 6, dg N 5, dg N 4, dg N 3, dg N 2, dg N 1, dg N 0] := by unfold digs; rw [nd_7 hlo hhi]; rfl
theorem nd_8 {N : Nat} (hlo : 10000000 ≤ N) (hhi : N < 100000000) : nd N = 8 := by unfold nd; rw [if_neg (by omega)]; rw [if_neg (by omega)]; rw [if_neg (by omega)]; rw [if_neg (by omega)]; rw [if_neg (by omega)]; rw [if_neg (by omega)]; rw [if_neg (by omega)]; rw [if_pos (by omega)]
theorem digs_8 {N : Nat} (hlo : 10000000 ≤ N) (hhi : N < 100000000) : digs N = [dg N 7, dg N 6, dg N 5, dg N 4, dg N 3, dg N 2, dg N 1, dg N 0] := by unfold digs; rw [nd_8 hlo hhi]; rfl
theorem nd_9 {N : Nat} (hlo : 100000000 ≤ N) (hhi : N < 1000000000) : nd N = 9 := by unfold nd; rw [if_neg (by omega)]; rw [if_neg (by omega)]; rw [if_neg (by omega)]; rw [if_neg (by omega)]; rw [if_neg (by omega)]; rw [if_neg (by omega)]; rw [if_neg (by omega)]; rw [if_neg (by omega)]; rw [if_pos (by omega)]
theorem digs_9 {N : Nat} (hlo : 100000000 ≤ N) (hhi : N < 1000000000) : digs N = [dg N 8, dg N 7, dg N 6, dg N 5, dg N 4, dg N 3, dg N 2, dg N 1, dg N 0] := by unfold digs; rw [nd_9 hlo hhi]; rfl
theorem nd_10 {N : Nat} (hlo : 1000000000 ≤ N) (hhi : N < 2147483648) : nd N = 10 := by unfold nd; rw [if_neg (by omega)]; rw [if_neg (by omega)]; rw [if_neg (by omega)]; rw [if_neg (by omega)]; rw [if_neg (by omega)]; rw [if_neg (by omega)]; rw [if_neg (by omega)]; rw [if_neg (by omega)]; rw [if_neg (by omega)];
theorem digs_10 {N : Nat} (hlo : 1000000000 ≤ N) (hhi : N < 2147483648) : digs N = [dg N 9, dg N 8, dg N 7, dg N 6, dg N 5, dg N 4, dg N 3, dg N 2, dg N 1, dg N 0] := by unfold digs; rw [nd_10 hlo hhi]; rfl
theorem nd_le {N : Nat} (h : N < 2147483648) : 1 ≤ nd N ∧ nd N ≤ 10 := by
  rcases nd_cases h with ⟨q1, q2⟩ | ⟨q1, q2⟩ | ⟨q1, q2⟩ | ⟨q1, q2⟩ | ⟨q1, q2⟩ | ⟨q1, q2⟩ | ⟨q1, q2⟩ | ⟨q1, q2⟩ | ⟨q1, q2⟩ | ⟨q1, q2⟩
  · rw [nd_1 q1 q2]; exact ⟨by decide, by decide⟩
  · rw [nd_2 q1 q2]; exact ⟨by decide, by decide⟩
  · rw [nd_3 q1 q2]; exact ⟨by decide, by decide⟩
  · rw [nd_4 q1 q2]; exact ⟨by decide, by decide⟩
  · rw [nd_5 q1 q2]; exact ⟨by decide, by decide⟩
  · rw [nd_6 q1 q2]; exact ⟨by decide, by decide⟩
  · rw [nd_7 q1 q2]; exact ⟨by decide, by decide⟩
  · rw [nd_8 q1 q2]; exact ⟨by decide, by decide⟩
  · rw [nd_9 q1 q2]; exact ⟨by decide, by decide⟩
  · rw [nd_10 q1 q2]; exact ⟨by decide, by decide⟩
theorem m8 (x : Int32) : ∃ c, c < 256 ∧ x &&& 255 = Int32.ofNat c := by
  have e := c_mask x 255 8 (by decide) rfl
  rw [show ((2 ^ 8 : Nat) : Int) = 256 from rfl] at e
  refine ⟨(x.toInt % 256).toNat, by omega, ?_⟩
  apply Int32.toInt_inj.mp; rw [e, ofn_int (by omega)]; omega
theorem m2 (x : Int32) : ∃ c, c < 4 ∧ x &&& 3 = Int32.ofNat c := by
  have e := c_mask x 3 2 (by decide) rfl
  rw [show ((2 ^ 2 : Nat) : Int) = 4 from rfl] at e
  refine ⟨(x.toInt % 4).toNat, by omega, ?_⟩
  apply Int32.toInt_inj.mp; rw [e, ofn_int (by omega)]; omega
theorem m31 (x : Int32) : ∃ c, c < 2147483648 ∧ x &&& 2147483647 = Int32.ofNat c := by
  have e := c_mask x 2147483647 31 (by decide) rfl
  rw [show ((2 ^ 31 : Nat) : Int) = 2147483648 from rfl] at e
  refine ⟨(x.toInt % 2147483648).toNat, by omega, ?_⟩
  apply Int32.toInt_inj.mp; rw [e, ofn_int (by omega)]; omega
theorem i2c_n0 : ∀ t : Fin 256, (Int32.ofNat t.1).toUInt32.toUInt16.toUInt32.toInt32 = Int32.ofNat t.1 ∧ (Int32.ofNat t.1).toInt8.toInt32 &&& 255 = Int32.ofNat t.1 ∧ ¬ (255 : Int32) < Int32.ofNat t.1 ∧ Int32.ofNat t.1 &&& 255 = Int32.ofNat t.1 ∧ fits .char (.int (Int32.ofNat t.1)) = true := by decide +kernel
theorem i2c_n {c : Nat} (h : c < 256) : (Int32.ofNat c).toUInt32.toUInt16.toUInt32.toInt32 = Int32.ofNat c := (i2c_n0 ⟨c, h⟩).1
theorem bm {c : Nat} (h : c < 256) : (Int32.ofNat c).toInt8.toInt32 &&& 255 = Int32.ofNat c := (i2c_n0 ⟨c, h⟩).2.1
theorem c255 {c : Nat} (h : c < 256) : ¬ (255 : Int32) < Int32.ofNat c := (i2c_n0 ⟨c, h⟩).2.2.1
theorem m255 {c : Nat} (h : c < 256) : Int32.ofNat c &&& 255 = Int32.ofNat c := (i2c_n0 ⟨c, h⟩).2.2.2.1
theorem fit255 {c : Nat} (h : c < 256) : fits .char (.int (Int32.ofNat c)) = true := (i2c_n0 ⟨c, h⟩).2.2.2.2
theorem ofn_div {N P : Nat} (hN : N < 2147483648) (h0 : 0 < P) (hP : P < 2147483648) : Int32.ofNat N / Int32.ofNat P = Int32.ofNat (N / P) := by
  apply Int32.toInt_inj.mp
  have e := c_idiv (Int32.ofNat N) (Int32.ofNat P) P (ofn_int hP) (fun q => by have := congrArg Int32.toInt q; rw [ofn_int hP, show (-1 : Int32).toInt = -1 from rfl] at this; omega)
  rw [ofn_int hN] at e
  have hd : N / P ≤ N := Nat.div_le_self _ _
  rw [ofn_int (by omega), e.1 (by omega)]; rfl
theorem ofn_rem10 {M : Nat} (hM : M < 2147483648) : Int32.ofNat M - Int32.ofNat M / 10 * 10 = Int32.ofNat (M % 10) := by
  have e := ofn_div hM (P := 10) (by decide) (by decide)
  rw [show Int32.ofNat 10 = (10 : Int32) from rfl] at e
  rw [e, show (10 : Int32) = Int32.ofNat 10 from rfl, ← Int32.ofNat_mul, ofn_sub (by omega) hM]
  congr 1; omega
theorem wS_of {Z : State} {a0 : Array Value} (hw : ∀ d ∈ tables_1, d.before a0 Z = true) : ∀ a ∈ Bundle.stringAtoms, a.before a0 Z = true := by
  intro a ha
  simp only [Bundle.stringAtoms, Bundle.sN, List.mem_cons, List.not_mem_nil, or_false] at ha
  rcases ha with rfl | rfl | rfl | rfl | rfl | rfl | rfl
  · exact (hw _ (List.mem_of_getElem? (i := 2) rfl))
  · exact (hw _ (List.mem_of_getElem? (i := 1) rfl))
  · exact (hw _ (List.mem_of_getElem? (i := 19) rfl))
  · exact (hw _ (List.mem_of_getElem? (i := 29) rfl))
  · exact (hw _ (List.mem_of_getElem? (i := 27) rfl))
  · exact (hw _ (List.mem_of_getElem? (i := 58) rfl))
  · exact (hw _ (List.mem_of_getElem? (i := 59) rfl))
theorem arv100 {Z : State} {a0 : Array Value} {C n : String} {rhs : Term} {vs : List Value} (w1 : (Cond.initializedFor C n "[B").before a0 Z = true) (w2 : (Cond.exactly (.static C n "[B") "[B").before a0 Z = true) (w3 : (Cond.eq (.length (.static C n "[B")) (.int 100)).before a0 Z = true) (w4 : (Cond.all (.static C n "[B") (.eq (.elem (.static C n "[B") (.index 0)) rhs)).before a0 Z = true) (harr : (Cond.arrayClass .byte).before a0 Z = true)
    (hr : ∀ j, j < 100 → ∃ x, rhs.eval a0 Z none [j] Z = some (.int x) ∧ vs.getD j (.int 0) = .int x ∧ fits .byte (.int x) = true) : ∃ (t : Addr) (k : ClassId), Sta Z Z.heap C n "[B" (.ref t) ∧ Arv Z Z.heap t k .byte 100 vs (.int 0) := by
  obtain ⟨d, cB, D, kB, hev, hfcB, hcellD, hkB, hstatD, hclsD, -⟩ := Cond.exactly_spec w2
  have hevAll : ∀ idx, (Term.static C n "[B").eval a0 Z none idx Z = some (.ref d) := fun idx => by
    have : (Term.static C n "[B").eval a0 Z none idx Z = (Term.static C n "[B").eval a0 Z none [] Z := by simp only [Term.eval]
    rw [this]; exact hev
  have hl := Cond.eq_int w3 rfl
  obtain ⟨d', D', hev', harrAt, hlen⟩ := Term.length_spec hl
  cases hev.symm.trans hev'
  obtain ⟨hcellD', hknD, -, -⟩ := State.arrayAt?_spec harrAt
  cases hcellD.symm.trans hcellD'
  have h31 := SBG.length_lt hev harrAt hl
  have hsz : D.slots.size = 100 := by
    have h2 : Int32.ofNat D.slots.size = Int32.ofNat 100 := (Value.int.inj hlen).symm
    have := congrArg Int32.toInt h2
    rw [Int32.toInt_ofNat_small h31, Int32.toInt_ofNat_small (by omega)] at this; omega
  obtain ⟨cB', kB', comp, hnameB, hkB', hkindB⟩ := Cond.arrayClass_spec harr
  have eBA : ("[" ++ FieldType.toString .byte) = "[B" := by decide
  rw [eBA] at hnameB
  cases hfcB.symm.trans hnameB
  cases hkB.symm.trans hkB'
  refine ⟨d, D.cls, Sta.start hev (Or.inl w1), D, ⟨hcellD, ⟨(fun q h => by rw [h] at hstatD; cases hstatD), kB, (by rw [hclsD]; exact hkB), comp, hkindB⟩, hknD⟩, rfl, by rw [hsz]; rfl, by decide, fun i hi => ?_, fun i hi => ?_⟩
  · obtain ⟨x, e1, e2, -⟩ := hr i (by omega)
    have q := Cond.all_elim (hevAll []) harrAt (Cond.before_iff.mp w4) i hi
    obtain ⟨y, z, f1, f2, k1, k2⟩ := cmp_v (Or.inl q)
    cases e1.symm.trans f2
    obtain ⟨y', rfl⟩ : ∃ y', y = .int y' := k2
    have := gotT (Cond.eq_ints f1 f2) q
    subst this
    have hii : (Int32.ofNat i).toNatClampNeg = i := by simp only [Int32.toNatClampNeg, Int32.toInt_ofNat_small (show i < 2 ^ 31 by omega)]; omega
    have nn : ¬ Int32.ofNat i < 0 := by rw [Int32.lt_iff_toInt_lt, Int32.toInt_ofNat_small (show i < 2 ^ 31 by omega)]; show ¬ (i : Int) < 0; omega
    have g := (elem_f (hevAll [i]) (show (Term.index 0).eval a0 Z none [i] Z = some (.int (Int32.ofNat i)) from rfl) harrAt nn).symm.trans f1
    rw [hii] at g; rw [e2]; exact g
  · obtain ⟨x, e1, e2, e3⟩ := hr i (by omega)
    rw [e2]; exact e3
theorem ones_eq : ∀ t : Fin 100, (48 : Int32) + t.1.toInt32 % 10 = Int32.ofNat (48 + t.1 % 10) ∧ fits .byte (.int (Int32.ofNat (48 + t.1 % 10))) = true := by decide +kernel
theorem tens_eq : ∀ t : Fin 100, (48 : Int32) + t.1.toInt32 / 10 = Int32.ofNat (48 + t.1 / 10) ∧ fits .byte (.int (Int32.ofNat (48 + t.1 / 10))) = true := by decide +kernel
theorem getD_off {pre xs : List Value} {n : Nat} (h : pre.length = n) (k : Nat) : (pre ++ xs).getD (n + k) (.int 0) = xs.getD k (.int 0) := by subst h; simp [List.getD_eq_getElem?_getD, List.getElem?_append_right]
theorem pn_java_lang_String : plainName "java/lang/String" = true := by first | (simp [plainName, overriddenIn]; done) | decide +kernel
theorem pd___B : parseMethodDescriptor "()B" = some ⟨[], some .byte⟩ := by decide +kernel
theorem pn_java_lang_AbstractStringBuilder : plainName "java/lang/AbstractStringBuilder" = true := by first | (simp [plainName, overriddenIn]; done) | decide +kernel
theorem pd__Ljava_lang_String__V : parseMethodDescriptor "(Ljava/lang/String;)V" = some ⟨[(.object "java/lang/String")], none⟩ := by decide +kernel
theorem pd___BIB_V : parseMethodDescriptor "([BIB)V" = some ⟨[(.array .byte), .int, .byte], none⟩ := by decide +kernel
theorem pd___I : parseMethodDescriptor "()I" = some ⟨[], some .int⟩ := by decide +kernel
theorem pd__I_V : parseMethodDescriptor "(I)V" = some ⟨[.int], none⟩ := by decide +kernel
theorem pd__ILjava_lang_String__V : parseMethodDescriptor "(ILjava/lang/String;)V" = some ⟨[.int, (.object "java/lang/String")], none⟩ := by decide +kernel
theorem pd__Ljava_lang_String__Ljava_lang_AbstractStringBuilder_ : parseMethodDescriptor "(Ljava/lang/String;)Ljava/lang/AbstractStringBuilder;" = some ⟨[(.object "java/lang/String")], some (.object "java/lang/AbstractStringBuilder")⟩ := by decide +kernel
theorem pn_java_lang_StringBuilder : plainName "java/lang/StringBuilder" = true := by first | (simp [plainName, overriddenIn]; done) | decide +kernel
theorem pn_java_util_Arrays : plainName "java/util/Arrays" = true := by first | (simp [plainName, overriddenIn]; done) | decide +kernel
theorem pd__II_V : parseMethodDescriptor "(II)V" = some ⟨[.int, .int], none⟩ := by decide +kernel
theorem pd__II_I : parseMethodDescriptor "(II)I" = some ⟨[.int, .int], some .int⟩ := by decide +kernel
theorem pd___BII__B : parseMethodDescriptor "([BII)[B" = some ⟨[(.array .byte), .int, .int], some (.array .byte)⟩ := by decide +kernel
theorem pd____B : parseMethodDescriptor "()[B" = some ⟨[], some (.array .byte)⟩ := by decide +kernel
theorem pd___Z : parseMethodDescriptor "()Z" = some ⟨[], some .boolean⟩ := by decide +kernel
theorem pd__Ljava_lang_AbstractStringBuilder_Ljava_lang_Void__V : parseMethodDescriptor "(Ljava/lang/AbstractStringBuilder;Ljava/lang/Void;)V" = some ⟨[(.object "java/lang/AbstractStringBuilder"), (.object "java/lang/Void")], none⟩ := by decide +kernel
theorem pd__Ljava_lang_StringBuilder__V : parseMethodDescriptor "(Ljava/lang/StringBuilder;)V" = some ⟨[(.object "java/lang/StringBuilder")], none⟩ := by decide +kernel
theorem pn_jdk_internal_util_Preconditions : plainName "jdk/internal/util/Preconditions" = true := by first | (simp [plainName, overriddenIn]; done) | decide +kernel
theorem pd__IILjava_util_function_BiFunction__I : parseMethodDescriptor "(IILjava/util/function/BiFunction;)I" = some ⟨[.int, .int, (.object "java/util/function/BiFunction")], some .int⟩ := by decide +kernel
theorem pn_java_lang_StringLatin1 : plainName "java/lang/StringLatin1" = true := by first | (simp [plainName, overriddenIn]; done) | decide +kernel
theorem pd___BI_C : parseMethodDescriptor "([BI)C" = some ⟨[(.array .byte), .int], some .char⟩ := by decide +kernel
theorem pd__C_Z : parseMethodDescriptor "(C)Z" = some ⟨[.char], some .boolean⟩ := by decide +kernel
theorem pd__C__B : parseMethodDescriptor "(C)[B" = some ⟨[.char], some (.array .byte)⟩ := by decide +kernel
theorem pd___BB_V : parseMethodDescriptor "([BB)V" = some ⟨[(.array .byte), .byte], none⟩ := by decide +kernel
theorem pn_java_lang_StringUTF16 : plainName "java/lang/StringUTF16" = true := by first | (simp [plainName, overriddenIn]; done) | decide +kernel
theorem pd___CI_BII_I : parseMethodDescriptor "([CI[BII)I" = some ⟨[(.array .char), .int, (.array .byte), .int, .int], some .int⟩ := by decide +kernel
theorem pd___CII__B : parseMethodDescriptor "([CII)[B" = some ⟨[(.array .char), .int, .int], some (.array .byte)⟩ := by decide +kernel
theorem pd___BI_B : parseMethodDescriptor "([BI)B" = some ⟨[(.array .byte), .int], some .byte⟩ := by decide +kernel
theorem pd___CIILjava_lang_Void__V : parseMethodDescriptor "([CIILjava/lang/Void;)V" = some ⟨[(.array .char), .int, .int, (.object "java/lang/Void")], none⟩ := by decide +kernel
theorem pn_java_lang_Integer : plainName "java/lang/Integer" = true := by first | (simp [plainName, overriddenIn]; done) | decide +kernel
theorem pd__I_I : parseMethodDescriptor "(I)I" = some ⟨[.int], some .int⟩ := by decide +kernel
theorem pd__II_B_I : parseMethodDescriptor "(II[B)I" = some ⟨[.int, .int, (.array .byte)], some .int⟩ := by decide +kernel
theorem pd__I_Ljava_lang_AbstractStringBuilder_ : parseMethodDescriptor "(I)Ljava/lang/AbstractStringBuilder;" = some ⟨[.int], some (.object "java/lang/AbstractStringBuilder")⟩ := by decide +kernel
theorem pn_com_example_rebalance_rebalance_MessageQueueToStringPinLaw : plainName "com/example/rebalance/rebalance/MessageQueueToStringPinLaw" = true := by first | (simp [plainName, overriddenIn]; done) | decide +kernel
theorem pd__I_C : parseMethodDescriptor "(I)C" = some ⟨[.int], some .char⟩ := by decide +kernel
theorem pn_java_util_Objects : plainName "java/util/Objects" = true := by first | (simp [plainName, overriddenIn]; done) | decide +kernel
theorem pn_java_lang_Record : plainName "java/lang/Record" = true := by first | (simp [plainName, overriddenIn]; done) | decide +kernel
theorem pd___V : parseMethodDescriptor "()V" = some ⟨[], none⟩ := by decide +kernel
theorem pd__Ljava_lang_Object_Ljava_lang_String__Ljava_lang_Object_ : parseMethodDescriptor "(Ljava/lang/Object;Ljava/lang/String;)Ljava/lang/Object;" = some ⟨[(.object "java/lang/Object"), (.object "java/lang/String")], some (.object "java/lang/Object")⟩ := by decide +kernel
theorem pn_com_example_rebalance_rebalance_MessageQueue : plainName "com/example/rebalance/rebalance/MessageQueue" = true := by first | (simp [plainName, overriddenIn]; done) | decide +kernel
theorem pd__Ljava_lang_String__Ljava_lang_StringBuilder_ : parseMethodDescriptor "(Ljava/lang/String;)Ljava/lang/StringBuilder;" = some ⟨[(.object "java/lang/String")], some (.object "java/lang/StringBuilder")⟩ := by decide +kernel
theorem pd__I_Ljava_lang_StringBuilder_ : parseMethodDescriptor "(I)Ljava/lang/StringBuilder;" = some ⟨[.int], some (.object "java/lang/StringBuilder")⟩ := by decide +kernel
theorem pd___Ljava_lang_String_ : parseMethodDescriptor "()Ljava/lang/String;" = some ⟨[], some (.object "java/lang/String")⟩ := by decide +kernel
theorem pd___C_V : parseMethodDescriptor "([C)V" = some ⟨[(.array .char)], none⟩ := by decide +kernel
theorem pd__C_Ljava_lang_String_ : parseMethodDescriptor "(C)Ljava/lang/String;" = some ⟨[.char], some (.object "java/lang/String")⟩ := by decide +kernel
theorem pd__Ljava_lang_String_Ljava_lang_String_I_V : parseMethodDescriptor "(Ljava/lang/String;Ljava/lang/String;I)V" = some ⟨[(.object "java/lang/String"), (.object "java/lang/String"), .int], none⟩ := by decide +kernel
theorem pd__Ljava_lang_String_IIII_Z : parseMethodDescriptor "(Ljava/lang/String;IIII)Z" = some ⟨[(.object "java/lang/String"), .int, .int, .int, .int], some .boolean⟩ := by decide +kernel
theorem d21_0 : decode jdk_42_method_152_code 0 = .ok (.getstatic 38, 3) := by decide +kernel
theorem d21_3 : decode jdk_42_method_152_code 3 = .ok (.ifCond .eq 10, 3) := by decide +kernel
theorem d21_6 : decode jdk_42_method_152_code 6 = .ok (.aload_n 0, 1) := by decide +kernel
theorem d21_7 : decode jdk_42_method_152_code 7 = .ok (.getfield 15, 3) := by decide +kernel
theorem d21_10 : decode jdk_42_method_152_code 10 = .ok (.goto 4, 3) := by decide +kernel
theorem d21_13 : decode jdk_42_method_152_code 13 = .ok (.iconst 1, 1) := by decide +kernel
theorem d21_14 : decode jdk_42_method_152_code 14 = .ok (.ireturn, 1) := by decide +kernel
set_option maxRecDepth 65536 in
set_option maxHeartbeats 40000000 in
theorem c_coder (l : Launch) (Z : State) (a0 : Array Value) (hw : ∀ d ∈ tables_1, d.before a0 Z = true) (hEW : EW Z a0 consts_1) (n0 : Nat) (c1 : Int32) (hc1 : ¬ c1 = 0) (S1 : Sta Z Z.heap "java/lang/String" "COMPACT_STRINGS" "Z" (.int c1)) (v2 : Value) (hv2 : v2.isRef = true) (S2 : Sta Z Z.heap "jdk/internal/util/Preconditions" "SIOOBE_FORMATTER" "Ljava/util/function/BiFunction;" v2) (a : Addr) {h0 : Heap} (o1 : Old Z n0 h0) (Fc : Fld Z h0 a "java/lang/String" "coder" "B" (.int 0)) :
    Con Z a0 l (⟨"java/lang/String", "coder", "()B"⟩ : MethodName) jdk_42_method_152_code 1 (some .byte) ({ frames := 0, cells := 0, slots := 0, locals := 0 } : Room) [] #[(.ref a)] consts_1 h0 n0 [] [] (VV fun w h so => w = .int 0 ∧ h = h0 ∧ so = []) := by
  refine Con.body (plainFor_of_name pn_java_lang_String) hEW o1 all0 #[.val (.ref a)] (fun m => by first | (simp [entryFrame, mkF, argsToLocals, Value.category]; done) | rfl) ?_
  intro p e s m below meth c B hnm hret hlk G
  replace G := G.gets 3 (host := "") (Or.inl (hw _ (List.mem_of_getElem? (i := 14) rfl))) Via.refl (G.sta S1) d21_0 rfl
  replace G := G.ifF 6 d21_3 (XT.i0_eq_f hc1) rfl
  replace G := G.aloadN 7 d21_6 rfl rfl rfl
  replace G := G.getf 10 (host := "") (Or.inl (hw _ (List.mem_of_getElem? (i := 26) rfl))) Via.refl Fc d21_7 rfl
  replace G := G.goto 14 d21_10 (by decide) (by decide)
  exact G.retN hret (Or.inr (Or.inl rfl)) hlk d21_14 [] all0 ⟨_, rfl, rfl, rfl, rfl⟩ (Nat.le_of_ble_eq_true rfl) (Nat.le_of_ble_eq_true rfl)
theorem d20_0 : decode jdk_42_method_54_code 0 = .ok (.aload_n 0, 1) := by decide +kernel
theorem d20_1 : decode jdk_42_method_54_code 1 = .ok (.getfield 9, 3) := by decide +kernel
theorem d20_4 : decode jdk_42_method_54_code 4 = .ok (.arraylength, 1) := by decide +kernel
theorem d20_5 : decode jdk_42_method_54_code 5 = .ok (.aload_n 0, 1) := by decide +kernel
theorem d20_6 : decode jdk_42_method_54_code 6 = .ok (.invokevirtual 335, 3) := by decide +kernel
theorem d20_9 : decode jdk_42_method_54_code 9 = .ok (.ishr, 1) := by decide +kernel
theorem d20_10 : decode jdk_42_method_54_code 10 = .ok (.ireturn, 1) := by decide +kernel
set_option maxRecDepth 65536 in
set_option maxHeartbeats 40000000 in
theorem c_length (l : Launch) (Z : State) (a0 : Array Value) (hw : ∀ d ∈ tables_1, d.before a0 Z = true) (hEW : EW Z a0 consts_1) (n0 : Nat) (c1 : Int32) (hc1 : ¬ c1 = 0) (S1 : Sta Z Z.heap "java/lang/String" "COMPACT_STRINGS" "Z" (.int c1)) (v2 : Value) (hv2 : v2.isRef = true) (S2 : Sta Z Z.heap "jdk/internal/util/Preconditions" "SIOOBE_FORMATTER" "Ljava/util/function/BiFunction;" v2) (a b : Addr) (bs : List Value) {h0 : Heap} (o1 : Old Z n0 h0) (hS : Str Z h0 a b bs) :
    Con Z a0 l (⟨"java/lang/String", "length", "()I"⟩ : MethodName) jdk_42_method_54_code 1 (some .int) ({ frames := 1, cells := 0, slots := 0, locals := 13 } : Room) [] #[(.ref a)] consts_1 h0 n0 [] [] (VV fun w h so => w = .int (Int32.ofNat bs.length) ∧ h = h0 ∧ so = []) := by
  refine Con.body (plainFor_of_name pn_java_lang_String) hEW o1 all0 #[.val (.ref a)] (fun m => by first | (simp [entryFrame, mkF, argsToLocals, Value.category]; done) | rfl) ?_
  intro p e s m below meth c B hnm hret hlk G
  obtain ⟨Xa, Fc, Fv, kb, Ab⟩ := hS
  replace G := G.aloadN 1 d20_0 rfl rfl rfl
  replace G := G.getf 4 (host := "") (Or.inl (hw _ (List.mem_of_getElem? (i := 28) rfl))) Via.refl Fv d20_1 rfl
  replace G := G.alen 5 Ab d20_4 rfl
  replace G := G.aloadN 6 d20_5 rfl rfl rfl
  obtain ⟨vc, h_c, soc, G', Kc, Qc⟩ := G.callV 9 (hw _ (List.mem_of_getElem? (i := 114) rfl)) (hw _ (List.mem_of_getElem? (i := 115) rfl)) (nfSel (hw _ (List.mem_of_getElem? (i := 117) rfl))) (hw _ (List.mem_of_getElem? (i := 117) rfl)) (hw _ (List.mem_of_getElem? (i := 116) rfl)) (hw _ (List.mem_of_getElem? (i := 2) rfl)) (hw _ (List.mem_of_getElem? (i := 118) rfl)) Xa (by decide) [] [(.int (Int32.ofNat bs.length))] rfl (c_coder l Z a0 hw hEW n0 c1 hc1 S1 v2 hv2 S2 a G.old Fc) (lenOf pd___B rfl) d20_6 rfl (Nat.le_of_ble_eq_true rfl) (Nat.le_of_ble_eq_true rfl) (Nat.le_of_ble_eq_true rfl) (Nat.le_of_ble_eq_true rfl) all0 all0 all0 rfl
  clear G; have G := G'; clear G'
  obtain ⟨wc, qc, rfl, ec, rfl⟩ := Qc
  replace G := G.val qc
  subst ec
  replace G := G.ishr 10 d20_9 rfl
  replace G := G.top (y := (.int (Int32.ofNat bs.length))) (congrArg Value.int (shr0 _))
  exact G.retI hret hlk d20_10 [] all0 ⟨_, rfl, rfl, rfl, rfl⟩ (Nat.le_of_ble_eq_true rfl) (Nat.le_of_ble_eq_true rfl)
theorem d22_0 : decode jdk_68_method_9_code 0 = .ok (.aload_n 0, 1) := by decide +kernel
theorem d22_1 : decode jdk_68_method_9_code 1 = .ok (.getfield 15, 3) := by decide +kernel
theorem d22_4 : decode jdk_68_method_9_code 4 = .ok (.arraylength, 1) := by decide +kernel
theorem d22_5 : decode jdk_68_method_9_code 5 = .ok (.aload_n 0, 1) := by decide +kernel
theorem d22_6 : decode jdk_68_method_9_code 6 = .ok (.getfield 22, 3) := by decide +kernel
theorem d22_9 : decode jdk_68_method_9_code 9 = .ok (.ishr, 1) := by decide +kernel
theorem d22_10 : decode jdk_68_method_9_code 10 = .ok (.istore_n 2, 1) := by decide +kernel
theorem d22_11 : decode jdk_68_method_9_code 11 = .ok (.iload_n 1, 1) := by decide +kernel
theorem d22_12 : decode jdk_68_method_9_code 12 = .ok (.iload_n 2, 1) := by decide +kernel
theorem d22_13 : decode jdk_68_method_9_code 13 = .ok (.isub, 1) := by decide +kernel
theorem d22_14 : decode jdk_68_method_9_code 14 = .ok (.ifCond .le 24, 3) := by decide +kernel
theorem d22_17 : decode jdk_68_method_9_code 17 = .ok (.aload_n 0, 1) := by decide +kernel
theorem d22_18 : decode jdk_68_method_9_code 18 = .ok (.aload_n 0, 1) := by decide +kernel
theorem d22_19 : decode jdk_68_method_9_code 19 = .ok (.getfield 15, 3) := by decide +kernel
theorem d22_22 : decode jdk_68_method_9_code 22 = .ok (.aload_n 0, 1) := by decide +kernel
theorem d22_23 : decode jdk_68_method_9_code 23 = .ok (.iload_n 1, 1) := by decide +kernel
theorem d22_24 : decode jdk_68_method_9_code 24 = .ok (.invokevirtual 104, 3) := by decide +kernel
theorem d22_27 : decode jdk_68_method_9_code 27 = .ok (.aload_n 0, 1) := by decide +kernel
theorem d22_28 : decode jdk_68_method_9_code 28 = .ok (.getfield 22, 3) := by decide +kernel
theorem d22_31 : decode jdk_68_method_9_code 31 = .ok (.ishl, 1) := by decide +kernel
theorem d22_32 : decode jdk_68_method_9_code 32 = .ok (.invokestatic 108, 3) := by decide +kernel
theorem d22_35 : decode jdk_68_method_9_code 35 = .ok (.putfield 15, 3) := by decide +kernel
theorem d22_38 : decode jdk_68_method_9_code 38 = .ok (.return_, 1) := by decide +kernel
set_option maxRecDepth 65536 in
set_option maxHeartbeats 40000000 in
theorem c_ensNG (l : Launch) (Z : State) (a0 : Array Value) (hw : ∀ d ∈ tables_1, d.before a0 Z = true) (hEW : EW Z a0 consts_1) (n0 : Nat) (c1 : Int32) (hc1 : ¬ c1 = 0) (S1 : Sta Z Z.heap "java/lang/String" "COMPACT_STRINGS" "Z" (.int c1)) (v2 : Value) (hv2 : v2.isRef = true) (S2 : Sta Z Z.heap "jdk/internal/util/Preconditions" "SIOOBE_FORMATTER" "Ljava/util/function/BiFunction;" v2) (a b : Addr) (cap mc : Nat) (bs : List Value) {h0 : Heap} (o1 : Old Z n0 h0) (hmc : mc ≤ cap) (hcap : cap < 2147483648) (hS : Sbd Z h0 a b cap bs) :
    Con Z a0 l (⟨"java/lang/AbstractStringBuilder", "ensureCapacityInternal", "(I)V"⟩ : MethodName) jdk_68_method_9_code 3 (none) ({ frames := 0, cells := 0, slots := 0, locals := 0 } : Room) [] #[(.ref a), (.int (Int32.ofNat mc))] consts_1 h0 n0 [] [] (V0 fun h so => h = h0 ∧ so = []) := by
  refine Con.body (plainFor_of_name pn_java_lang_AbstractStringBuilder) hEW o1 all0 #[.val (.ref a), .val (.int (Int32.ofNat mc)), .unset] (fun m => by first | (simp [entryFrame, mkF, argsToLocals, Value.category]; done) | rfl) ?_
  intro p e s m below meth c B hnm hret hlk G
  obtain ⟨Xa, Fv, Fc, Fn, kb, Ab⟩ := hS
  replace G := G.aloadN 1 d22_0 rfl rfl rfl
  replace G := G.getf 4 (host := "") (Or.inl (hw _ (List.mem_of_getElem? (i := 95) rfl))) Via.refl Fv d22_1 rfl
  replace G := G.alen 5 Ab d22_4 rfl
  replace G := G.aloadN 6 d22_5 rfl rfl rfl
  replace G := G.getf 9 (host := "") (Or.inl (hw _ (List.mem_of_getElem? (i := 97) rfl))) Via.refl Fc d22_6 rfl
  replace G := G.ishr 10 d22_9 rfl
  replace G := G.top (y := (.int (Int32.ofNat cap))) (congrArg Value.int (shr0 _))
  replace G := G.istoreN 11 #[.val (.ref a), .val (.int (Int32.ofNat mc)), .val (.int (Int32.ofNat cap))] d22_10 rfl rfl
  replace G := G.iloadN 12 d22_11 rfl rfl
  replace G := G.iloadN 13 d22_12 rfl rfl
  replace G := G.isub 14 d22_13 rfl
  replace G := G.ifT 38 d22_14 (XT.i0_le_t (ofn_le0 hmc hcap)) (by decide) (by decide)
  exact G.retV hret hlk d22_38 [] all0 ⟨rfl, rfl, rfl⟩ (Nat.le_of_ble_eq_true rfl) (Nat.le_of_ble_eq_true rfl)
theorem d24_0 : decode jdk_68_method_71_code 0 = .ok (.getstatic 18, 3) := by decide +kernel
theorem d24_3 : decode jdk_68_method_71_code 3 = .ok (.ifCond .eq 18, 3) := by decide +kernel
theorem d24_6 : decode jdk_68_method_71_code 6 = .ok (.aload_n 0, 1) := by decide +kernel
theorem d24_7 : decode jdk_68_method_71_code 7 = .ok (.getfield 22, 3) := by decide +kernel
theorem d24_10 : decode jdk_68_method_71_code 10 = .ok (.aload_n 1, 1) := by decide +kernel
theorem d24_11 : decode jdk_68_method_71_code 11 = .ok (.invokevirtual 40, 3) := by decide +kernel
theorem d24_14 : decode jdk_68_method_71_code 14 = .ok (.if_icmp .eq 7, 3) := by decide +kernel
theorem d24_17 : decode jdk_68_method_71_code 17 = .ok (.aload_n 0, 1) := by decide +kernel
theorem d24_18 : decode jdk_68_method_71_code 18 = .ok (.invokevirtual 195, 3) := by decide +kernel
theorem d24_21 : decode jdk_68_method_71_code 21 = .ok (.return_, 1) := by decide +kernel
set_option maxRecDepth 65536 in
set_option maxHeartbeats 40000000 in
theorem c_infl (l : Launch) (Z : State) (a0 : Array Value) (hw : ∀ d ∈ tables_1, d.before a0 Z = true) (hEW : EW Z a0 consts_1) (n0 : Nat) (c1 : Int32) (hc1 : ¬ c1 = 0) (S1 : Sta Z Z.heap "java/lang/String" "COMPACT_STRINGS" "Z" (.int c1)) (v2 : Value) (hv2 : v2.isRef = true) (S2 : Sta Z Z.heap "jdk/internal/util/Preconditions" "SIOOBE_FORMATTER" "Ljava/util/function/BiFunction;" v2) (a b a2 b2 : Addr) (cap : Nat) (bs cs : List Value) {h0 : Heap} (o1 : Old Z n0 h0) (hS : Sbd Z h0 a b cap bs) (hT : Str Z h0 a2 b2 cs) :
    Con Z a0 l (⟨"java/lang/AbstractStringBuilder", "inflateIfNeededFor", "(Ljava/lang/String;)V"⟩ : MethodName) jdk_68_method_71_code 2 (none) ({ frames := 1, cells := 0, slots := 0, locals := 13 } : Room) [] #[(.ref a), (.ref a2)] consts_1 h0 n0 [] [] (V0 fun h so => h = h0 ∧ so = []) := by
  refine Con.body (plainFor_of_name pn_java_lang_AbstractStringBuilder) hEW o1 all0 #[.val (.ref a), .val (.ref a2)] (fun m => by first | (simp [entryFrame, mkF, argsToLocals, Value.category]; done) | rfl) ?_
  intro p e s m below meth c B hnm hret hlk G
  replace G := G.gets 3 (host := "") (Or.inl (hw _ (List.mem_of_getElem? (i := 94) rfl))) Via.refl (G.sta S1) d24_0 rfl
  replace G := G.ifF 6 d24_3 (XT.i0_eq_f hc1) rfl
  replace G := G.aloadN 7 d24_6 rfl rfl rfl
  replace G := G.getf 10 (host := "") (Or.inl (hw _ (List.mem_of_getElem? (i := 97) rfl))) Via.refl hS.2.2.1 d24_7 rfl
  replace G := G.aloadN 11 d24_10 rfl rfl rfl
  obtain ⟨vc, h_c, soc, G', Kc, Qc⟩ := G.callV 14 (hw _ (List.mem_of_getElem? (i := 136) rfl)) (hw _ (List.mem_of_getElem? (i := 115) rfl)) (nfSel (hw _ (List.mem_of_getElem? (i := 117) rfl))) (hw _ (List.mem_of_getElem? (i := 117) rfl)) (hw _ (List.mem_of_getElem? (i := 116) rfl)) (hw _ (List.mem_of_getElem? (i := 2) rfl)) (hw _ (List.mem_of_getElem? (i := 118) rfl)) hT.1 (by decide) [] [(.int (0 : Int32))] rfl (c_coder l Z a0 hw hEW n0 c1 hc1 S1 v2 hv2 S2 a2 G.old hT.2.1) (lenOf pd___B rfl) d24_11 rfl (Nat.le_of_ble_eq_true rfl) (Nat.le_of_ble_eq_true rfl) (Nat.le_of_ble_eq_true rfl) (Nat.le_of_ble_eq_true rfl) all0 all0 all0 rfl
  clear G; have G := G'; clear G'
  obtain ⟨wc, qc, rfl, ec, rfl⟩ := Qc
  replace G := G.val qc
  subst ec
  replace G := G.icmpT 21 d24_14 (XT.ii_eq_t rfl) (by decide) (by decide)
  exact G.retV hret hlk d24_21 [] all0 ⟨rfl, rfl, rfl⟩ (Nat.le_of_ble_eq_true rfl) (Nat.le_of_ble_eq_true rfl)
theorem d25_0 : decode jdk_42_method_147_code 0 = .ok (.aload_n 0, 1) := by decide +kernel
theorem d25_1 : decode jdk_42_method_147_code 1 = .ok (.invokevirtual 335, 3) := by decide +kernel
theorem d25_4 : decode jdk_42_method_147_code 4 = .ok (.iload_n 3, 1) := by decide +kernel
theorem d25_5 : decode jdk_42_method_147_code 5 = .ok (.if_icmp .ne 23, 3) := by decide +kernel
theorem d25_8 : decode jdk_42_method_147_code 8 = .ok (.aload_n 0, 1) := by decide +kernel
theorem d25_9 : decode jdk_42_method_147_code 9 = .ok (.getfield 9, 3) := by decide +kernel
theorem d25_12 : decode jdk_42_method_147_code 12 = .ok (.iconst 0, 1) := by decide +kernel
theorem d25_13 : decode jdk_42_method_147_code 13 = .ok (.aload_n 1, 1) := by decide +kernel
theorem d25_14 : decode jdk_42_method_147_code 14 = .ok (.iload_n 2, 1) := by decide +kernel
theorem d25_15 : decode jdk_42_method_147_code 15 = .ok (.iload_n 3, 1) := by decide +kernel
theorem d25_16 : decode jdk_42_method_147_code 16 = .ok (.ishl, 1) := by decide +kernel
theorem d25_17 : decode jdk_42_method_147_code 17 = .ok (.aload_n 0, 1) := by decide +kernel
theorem d25_18 : decode jdk_42_method_147_code 18 = .ok (.getfield 9, 3) := by decide +kernel
theorem d25_21 : decode jdk_42_method_147_code 21 = .ok (.arraylength, 1) := by decide +kernel
theorem d25_22 : decode jdk_42_method_147_code 22 = .ok (.invokestatic 212, 3) := by decide +kernel
theorem d25_25 : decode jdk_42_method_147_code 25 = .ok (.goto 18, 3) := by decide +kernel
theorem d25_28 : decode jdk_42_method_147_code 28 = .ok (.aload_n 0, 1) := by decide +kernel
theorem d25_29 : decode jdk_42_method_147_code 29 = .ok (.getfield 9, 3) := by decide +kernel
theorem d25_32 : decode jdk_42_method_147_code 32 = .ok (.iconst 0, 1) := by decide +kernel
theorem d25_33 : decode jdk_42_method_147_code 33 = .ok (.aload_n 1, 1) := by decide +kernel
theorem d25_34 : decode jdk_42_method_147_code 34 = .ok (.iload_n 2, 1) := by decide +kernel
theorem d25_35 : decode jdk_42_method_147_code 35 = .ok (.aload_n 0, 1) := by decide +kernel
theorem d25_36 : decode jdk_42_method_147_code 36 = .ok (.getfield 9, 3) := by decide +kernel
theorem d25_39 : decode jdk_42_method_147_code 39 = .ok (.arraylength, 1) := by decide +kernel
theorem d25_40 : decode jdk_42_method_147_code 40 = .ok (.invokestatic 106, 3) := by decide +kernel
theorem d25_43 : decode jdk_42_method_147_code 43 = .ok (.return_, 1) := by decide +kernel
set_option maxRecDepth 65536 in
set_option maxHeartbeats 40000000 in
theorem c_getB (l : Launch) (Z : State) (a0 : Array Value) (hw : ∀ d ∈ tables_1, d.before a0 Z = true) (hEW : EW Z a0 consts_1) (n0 : Nat) (c1 : Int32) (hc1 : ¬ c1 = 0) (S1 : Sta Z Z.heap "java/lang/String" "COMPACT_STRINGS" "Z" (.int c1)) (v2 : Value) (hv2 : v2.isRef = true) (S2 : Sta Z Z.heap "jdk/internal/util/Preconditions" "SIOOBE_FORMATTER" "Ljava/util/function/BiFunction;" v2) (a2 b2 b : Addr) (kb : ClassId) (cap : Nat) (bs cs : List Value) {h0 : Heap} (o1 : Old Z n0 h0) (ge_b : n0 ≤ b) (hle : bs.length + cs.length ≤ cap) (hcap : cap < 2147483648) (hT : Str Z h0 a2 b2 cs) (Ab : Arv Z h0 b kb .byte (Int32.ofNat cap) bs (.int 0)) :
    Con Z a0 l (⟨"java/lang/String", "getBytes", "([BIB)V"⟩ : MethodName) jdk_42_method_147_code 4 (none) ({ frames := 1, cells := 0, slots := 0, locals := 41 } : Room) [] #[(.ref a2), (.ref b), (.int (Int32.ofNat bs.length)), (.int (0 : Int32))] consts_1 h0 n0 [b] [b] (V0 fun h so => Arv Z h b kb .byte (Int32.ofNat cap) (bs ++ cs) (.int 0) ∧ so = []) := by
  refine Con.body (plainFor_of_name pn_java_lang_String) hEW o1 (allS ge_b all0) #[.val (.ref a2), .val (.ref b), .val (.int (Int32.ofNat bs.length)), .val (.int (0 : Int32))] (fun m => by first | (simp [entryFrame, mkF, argsToLocals, Value.category]; done) | rfl) ?_
  intro p e s m below meth c B hnm hret hlk G
  obtain ⟨Xa2, Fc2, Fv2, kb2, Ab2⟩ := hT
  replace G := G.aloadN 1 d25_0 rfl rfl rfl
  obtain ⟨vc, h_c, soc, G', Kc, Qc⟩ := G.callV 4 (hw _ (List.mem_of_getElem? (i := 114) rfl)) (hw _ (List.mem_of_getElem? (i := 115) rfl)) (nfSel (hw _ (List.mem_of_getElem? (i := 117) rfl))) (hw _ (List.mem_of_getElem? (i := 117) rfl)) (hw _ (List.mem_of_getElem? (i := 116) rfl)) (hw _ (List.mem_of_getElem? (i := 2) rfl)) (hw _ (List.mem_of_getElem? (i := 118) rfl)) Xa2 (by decide) [] [] rfl (c_coder l Z a0 hw hEW n0 c1 hc1 S1 v2 hv2 S2 a2 G.old Fc2) (lenOf pd___B rfl) d25_1 rfl (Nat.le_of_ble_eq_true rfl) (Nat.le_of_ble_eq_true rfl) (Nat.le_of_ble_eq_true rfl) (Nat.le_of_ble_eq_true rfl) all0 all0 all0 rfl
  clear G; have G := G'; clear G'
  obtain ⟨wc, qc, rfl, ec, rfl⟩ := Qc
  replace G := G.val qc
  subst ec
  replace G := G.iloadN 5 d25_4 rfl rfl
  replace G := G.icmpF 8 d25_5 (XT.ii_ne_f rfl) rfl
  replace G := G.aloadN 9 d25_8 rfl rfl rfl
  replace G := G.getf 12 (host := "") (Or.inl (hw _ (List.mem_of_getElem? (i := 28) rfl))) Via.refl Fv2 d25_9 rfl
  replace G := G.iconst 13 (0 : Int32) d25_12 rfl rfl
  replace G := G.aloadN 14 d25_13 rfl rfl rfl
  replace G := G.iloadN 15 d25_14 rfl rfl
  replace G := G.iloadN 16 d25_15 rfl rfl
  replace G := G.ishl 17 d25_16 rfl
  replace G := G.top (y := (.int (Int32.ofNat bs.length))) (congrArg Value.int (shl0 _))
  replace G := G.aloadN 18 d25_17 rfl rfl rfl
  replace G := G.getf 21 (host := "") (Or.inl (hw _ (List.mem_of_getElem? (i := 28) rfl))) Via.refl Fv2 d25_18 rfl
  replace G := G.alen 22 Ab2 d25_21 rfl
  have m1 : bs.length < 2147483648 := by omega
  have m2 : cs.length < 2147483648 := by omega
  have Ab' := Ab.pad (vs' := bs ++ List.replicate cs.length (.int 0)) (pad_rep bs (.int 0) cs.length)
  obtain ⟨h1, G', Ap, Kp⟩ := G.cpy 25 (hw _ (List.mem_of_getElem? (i := 142) rfl)) (hw _ (List.mem_of_getElem? (i := 145) rfl)) (hw _ (List.mem_of_getElem? (i := 143) rfl)) (hw _ (List.mem_of_getElem? (i := 144) rfl)) Ab2 Ab' rfl (by decide) (ofn_nn m1) (ofn_nn m2) (by rw [ofn_nat m2]; exact Nat.le_of_eq (Nat.zero_add _)) (by rw [ofn_nat m1, ofn_nat m2, ofn_nat hcap]; exact hle) (by rw [ofn_nat m1, ofn_nat m2]; simp) (Or.inl (List.mem_of_getElem? (i := 0) rfl)) (List.mem_of_getElem? (i := 0) rfl) d25_22 rfl (Nat.le_of_ble_eq_true rfl) (Nat.le_of_ble_eq_true rfl) rfl
  clear G; have G := G'; clear G'
  rw [ofn_nat m1, ofn_nat m2, show (0 : Int32).toNatClampNeg = 0 from rfl, cpy_res] at Ap
  replace G := G.goto 43 d25_25 (by decide) (by decide)
  exact G.retV hret hlk d25_43 [] all0 ⟨rfl, Ap, rfl⟩ (Nat.le_of_ble_eq_true rfl) (Nat.le_of_ble_eq_true rfl)
theorem d23_0 : decode jdk_68_method_73_code 0 = .ok (.aload_n 0, 1) := by decide +kernel
theorem d23_1 : decode jdk_68_method_73_code 1 = .ok (.aload_n 2, 1) := by decide +kernel
theorem d23_2 : decode jdk_68_method_73_code 2 = .ok (.invokevirtual 397, 3) := by decide +kernel
theorem d23_5 : decode jdk_68_method_73_code 5 = .ok (.aload_n 2, 1) := by decide +kernel
theorem d23_6 : decode jdk_68_method_73_code 6 = .ok (.aload_n 0, 1) := by decide +kernel
theorem d23_7 : decode jdk_68_method_73_code 7 = .ok (.getfield 15, 3) := by decide +kernel
theorem d23_10 : decode jdk_68_method_73_code 10 = .ok (.iload_n 1, 1) := by decide +kernel
theorem d23_11 : decode jdk_68_method_73_code 11 = .ok (.aload_n 0, 1) := by decide +kernel
theorem d23_12 : decode jdk_68_method_73_code 12 = .ok (.getfield 22, 3) := by decide +kernel
theorem d23_15 : decode jdk_68_method_73_code 15 = .ok (.invokevirtual 399, 3) := by decide +kernel
theorem d23_18 : decode jdk_68_method_73_code 18 = .ok (.return_, 1) := by decide +kernel
set_option maxRecDepth 65536 in
set_option maxHeartbeats 40000000 in
theorem c_putStr (l : Launch) (Z : State) (a0 : Array Value) (hw : ∀ d ∈ tables_1, d.before a0 Z = true) (hEW : EW Z a0 consts_1) (n0 : Nat) (c1 : Int32) (hc1 : ¬ c1 = 0) (S1 : Sta Z Z.heap "java/lang/String" "COMPACT_STRINGS" "Z" (.int c1)) (v2 : Value) (hv2 : v2.isRef = true) (S2 : Sta Z Z.heap "jdk/internal/util/Preconditions" "SIOOBE_FORMATTER" "Ljava/util/function/BiFunction;" v2) (a b a2 b2 : Addr) (cap : Nat) (bs cs : List Value) {h0 : Heap} (o1 : Old Z n0 h0) (ge_b : n0 ≤ b) (hle : bs.length + cs.length ≤ cap) (hcap : cap < 2147483648) (hS : Sbd Z h0 a b cap bs) (hT : Str Z h0 a2 b2 cs) :
    Con Z a0 l (⟨"java/lang/AbstractStringBuilder", "putStringAt", "(ILjava/lang/String;)V"⟩ : MethodName) jdk_68_method_73_code 3 (none) ({ frames := 2, cells := 0, slots := 0, locals := 56 } : Room) [] #[(.ref a), (.int (Int32.ofNat bs.length)), (.ref a2)] consts_1 h0 n0 [b] [b] (V0 fun h so => (∃ k, Arv Z h b k .byte (Int32.ofNat cap) (bs ++ cs) (.int 0)) ∧ so = []) := by
  refine Con.body (plainFor_of_name pn_java_lang_AbstractStringBuilder) hEW o1 (allS ge_b all0) #[.val (.ref a), .val (.int (Int32.ofNat bs.length)), .val (.ref a2)] (fun m => by first | (simp [entryFrame, mkF, argsToLocals, Value.category]; done) | rfl) ?_
  intro p e s m below meth c B hnm hret hlk G
  replace G := G.aloadN 1 d23_0 rfl rfl rfl
  replace G := G.aloadN 2 d23_1 rfl rfl rfl
  obtain ⟨vi, h_i, soi, G', Ki, Qi⟩ := G.callV 5 (hw _ (List.mem_of_getElem? (i := 131) rfl)) (declOf (hw _ (List.mem_of_getElem? (i := 132) rfl)) (hw _ (List.mem_of_getElem? (i := 135) rfl))) (nfSel (hw _ (List.mem_of_getElem? (i := 134) rfl))) (hw _ (List.mem_of_getElem? (i := 134) rfl)) (hw _ (List.mem_of_getElem? (i := 132) rfl)) (hw _ (List.mem_of_getElem? (i := 91) rfl)) (hw _ (List.mem_of_getElem? (i := 135) rfl)) hS.1 (by decide) [(.ref a2)] [] rfl (c_infl l Z a0 hw hEW n0 c1 hc1 S1 v2 hv2 S2 a b a2 b2 cap bs cs G.old hS hT) (lenOf pd__Ljava_lang_String__V rfl) d23_2 rfl (Nat.le_of_ble_eq_true rfl) (Nat.le_of_ble_eq_true rfl) (Nat.le_of_ble_eq_true rfl) (Nat.le_of_ble_eq_true rfl) all0 all0 all0 rfl
  clear G; have G := G'; clear G'
  obtain ⟨qi, ei, rfl⟩ := Qi
  replace G := G.nov qi
  subst ei
  obtain ⟨Xa, Fv, Fc, Fn, kb, Ab⟩ := hS
  replace G := G.aloadN 6 d23_5 rfl rfl rfl
  replace G := G.aloadN 7 d23_6 rfl rfl rfl
  replace G := G.getf 10 (host := "") (Or.inl (hw _ (List.mem_of_getElem? (i := 95) rfl))) Via.refl Fv d23_7 rfl
  replace G := G.iloadN 11 d23_10 rfl rfl
  replace G := G.aloadN 12 d23_11 rfl rfl rfl
  replace G := G.getf 15 (host := "") (Or.inl (hw _ (List.mem_of_getElem? (i := 97) rfl))) Via.refl Fc d23_12 rfl
  obtain ⟨vg, h1, sog, G', Kg, Qg⟩ := G.callV 18 (hw _ (List.mem_of_getElem? (i := 137) rfl)) (hw _ (List.mem_of_getElem? (i := 138) rfl)) (nfSel (hw _ (List.mem_of_getElem? (i := 140) rfl))) (hw _ (List.mem_of_getElem? (i := 140) rfl)) (hw _ (List.mem_of_getElem? (i := 139) rfl)) (hw _ (List.mem_of_getElem? (i := 2) rfl)) (hw _ (List.mem_of_getElem? (i := 141) rfl)) hT.1 (by decide) [(.ref b), (.int (Int32.ofNat bs.length)), (.int (0 : Int32))] [] rfl (c_getB l Z a0 hw hEW n0 c1 hc1 S1 v2 hv2 S2 a2 b2 b kb cap bs cs G.old ge_b hle hcap hT Ab) (lenOf pd___BIB_V rfl) d23_15 rfl (Nat.le_of_ble_eq_true rfl) (Nat.le_of_ble_eq_true rfl) (Nat.le_of_ble_eq_true rfl) (Nat.le_of_ble_eq_true rfl) (allS (Or.inl (List.mem_of_getElem? (i := 0) rfl)) all0) (allS (List.mem_of_getElem? (i := 0) rfl) all0) (allS (List.mem_of_getElem? (i := 0) rfl) all0) rfl
  clear G; have G := G'; clear G'
  obtain ⟨qg, Ag, rfl⟩ := Qg
  replace G := G.nov qg
  exact G.retV hret hlk d23_18 [] all0 ⟨rfl, ⟨kb, Ag⟩, rfl⟩ (Nat.le_of_ble_eq_true rfl) (Nat.le_of_ble_eq_true rfl)
theorem d19_0 : decode jdk_68_method_22_code 0 = .ok (.aload_n 1, 1) := by decide +kernel
theorem d19_1 : decode jdk_68_method_22_code 1 = .ok (.ifnonnull 8, 3) := by decide +kernel
theorem d19_4 : decode jdk_68_method_22_code 4 = .ok (.aload_n 0, 1) := by decide +kernel
theorem d19_5 : decode jdk_68_method_22_code 5 = .ok (.invokevirtual 204, 3) := by decide +kernel
theorem d19_8 : decode jdk_68_method_22_code 8 = .ok (.areturn, 1) := by decide +kernel
theorem d19_9 : decode jdk_68_method_22_code 9 = .ok (.aload_n 1, 1) := by decide +kernel
theorem d19_10 : decode jdk_68_method_22_code 10 = .ok (.invokevirtual 32, 3) := by decide +kernel
theorem d19_13 : decode jdk_68_method_22_code 13 = .ok (.istore_n 2, 1) := by decide +kernel
theorem d19_14 : decode jdk_68_method_22_code 14 = .ok (.aload_n 0, 1) := by decide +kernel
theorem d19_15 : decode jdk_68_method_22_code 15 = .ok (.aload_n 0, 1) := by decide +kernel
theorem d19_16 : decode jdk_68_method_22_code 16 = .ok (.getfield 79, 3) := by decide +kernel
theorem d19_19 : decode jdk_68_method_22_code 19 = .ok (.iload_n 2, 1) := by decide +kernel
theorem d19_20 : decode jdk_68_method_22_code 20 = .ok (.iadd, 1) := by decide +kernel
theorem d19_21 : decode jdk_68_method_22_code 21 = .ok (.invokevirtual 100, 3) := by decide +kernel
theorem d19_24 : decode jdk_68_method_22_code 24 = .ok (.aload_n 0, 1) := by decide +kernel
theorem d19_25 : decode jdk_68_method_22_code 25 = .ok (.aload_n 0, 1) := by decide +kernel
theorem d19_26 : decode jdk_68_method_22_code 26 = .ok (.getfield 79, 3) := by decide +kernel
theorem d19_29 : decode jdk_68_method_22_code 29 = .ok (.aload_n 1, 1) := by decide +kernel
theorem d19_30 : decode jdk_68_method_22_code 30 = .ok (.invokevirtual 208, 3) := by decide +kernel
theorem d19_33 : decode jdk_68_method_22_code 33 = .ok (.aload_n 0, 1) := by decide +kernel
theorem d19_34 : decode jdk_68_method_22_code 34 = .ok (.dup, 1) := by decide +kernel
theorem d19_35 : decode jdk_68_method_22_code 35 = .ok (.getfield 79, 3) := by decide +kernel
theorem d19_38 : decode jdk_68_method_22_code 38 = .ok (.iload_n 2, 1) := by decide +kernel
theorem d19_39 : decode jdk_68_method_22_code 39 = .ok (.iadd, 1) := by decide +kernel
theorem d19_40 : decode jdk_68_method_22_code 40 = .ok (.putfield 79, 3) := by decide +kernel
theorem d19_43 : decode jdk_68_method_22_code 43 = .ok (.aload_n 0, 1) := by decide +kernel
theorem d19_44 : decode jdk_68_method_22_code 44 = .ok (.areturn, 1) := by decide +kernel
set_option maxRecDepth 65536 in
set_option maxHeartbeats 40000000 in
theorem c_asbApp (l : Launch) (Z : State) (a0 : Array Value) (hw : ∀ d ∈ tables_1, d.before a0 Z = true) (hEW : EW Z a0 consts_1) (n0 : Nat) (c1 : Int32) (hc1 : ¬ c1 = 0) (S1 : Sta Z Z.heap "java/lang/String" "COMPACT_STRINGS" "Z" (.int c1)) (v2 : Value) (hv2 : v2.isRef = true) (S2 : Sta Z Z.heap "jdk/internal/util/Preconditions" "SIOOBE_FORMATTER" "Ljava/util/function/BiFunction;" v2) (a b a2 b2 : Addr) (cap : Nat) (bs cs : List Value) {h0 : Heap} (o1 : Old Z n0 h0) (ge_a : n0 ≤ a) (ge_b : n0 ≤ b) (hle : bs.length + cs.length ≤ cap) (hcap : cap < 2147483648) (hS : Sbd Z h0 a b cap bs) (hT : Str Z h0 a2 b2 cs) :
    Con Z a0 l (⟨"java/lang/AbstractStringBuilder", "append", "(Ljava/lang/String;)Ljava/lang/AbstractStringBuilder;"⟩ : MethodName) jdk_68_method_22_code 3 (some (.object "java/lang/AbstractStringBuilder")) ({ frames := 3, cells := 0, slots := 0, locals := 70 } : Room) [] #[(.ref a), (.ref a2)] consts_1 h0 n0 [a, b] [a, b] (VV fun w h so => w = .ref a ∧ Sbd Z h a b cap (bs ++ cs) ∧ so = []) := by
  refine Con.body (plainFor_of_name pn_java_lang_AbstractStringBuilder) hEW o1 (allS ge_a (allS ge_b all0)) #[.val (.ref a), .val (.ref a2), .unset] (fun m => by first | (simp [entryFrame, mkF, argsToLocals, Value.category]; done) | rfl) ?_
  intro p e s m below meth c B hnm hret hlk G
  replace G := G.aloadN 1 d19_0 rfl rfl rfl
  replace G := G.ifnonnullT 9 d19_1 (by decide) (by decide)
  replace G := G.aloadN 10 d19_9 rfl rfl rfl
  obtain ⟨vl, h_l, sol, G', Kl, Ql⟩ := G.callV 13 (hw _ (List.mem_of_getElem? (i := 109) rfl)) (hw _ (List.mem_of_getElem? (i := 110) rfl)) (nfSel (hw _ (List.mem_of_getElem? (i := 112) rfl))) (hw _ (List.mem_of_getElem? (i := 112) rfl)) (hw _ (List.mem_of_getElem? (i := 111) rfl)) (hw _ (List.mem_of_getElem? (i := 2) rfl)) (hw _ (List.mem_of_getElem? (i := 113) rfl)) hT.1 (by decide) [] [] rfl (c_length l Z a0 hw hEW n0 c1 hc1 S1 v2 hv2 S2 a2 b2 cs G.old hT) (lenOf pd___I rfl) d19_10 rfl (Nat.le_of_ble_eq_true rfl) (Nat.le_of_ble_eq_true rfl) (Nat.le_of_ble_eq_true rfl) (Nat.le_of_ble_eq_true rfl) all0 all0 all0 rfl
  clear G; have G := G'; clear G'
  obtain ⟨wl, ql, rfl, el, rfl⟩ := Ql
  replace G := G.val ql
  subst el
  replace G := G.istoreN 14 #[.val (.ref a), .val (.ref a2), .val (.int (Int32.ofNat cs.length))] d19_13 rfl rfl
  replace G := G.aloadN 15 d19_14 rfl rfl rfl
  replace G := G.aloadN 16 d19_15 rfl rfl rfl
  replace G := G.getf 19 (host := "") (Or.inl (hw _ (List.mem_of_getElem? (i := 119) rfl))) Via.refl hS.2.2.2.1 d19_16 rfl
  replace G := G.iloadN 20 d19_19 rfl rfl
  replace G := G.iadd 21 d19_20 rfl
  replace G := G.top (y := (.int (Int32.ofNat (bs.length + cs.length)))) (congrArg Value.int (ofn_add _ _))
  obtain ⟨ve, h_e, soe, G', Ke, Qe⟩ := G.callV 24 (hw _ (List.mem_of_getElem? (i := 121) rfl)) (declOf (hw _ (List.mem_of_getElem? (i := 122) rfl)) (hw _ (List.mem_of_getElem? (i := 125) rfl))) (nfSel (hw _ (List.mem_of_getElem? (i := 124) rfl))) (hw _ (List.mem_of_getElem? (i := 124) rfl)) (hw _ (List.mem_of_getElem? (i := 122) rfl)) (hw _ (List.mem_of_getElem? (i := 91) rfl)) (hw _ (List.mem_of_getElem? (i := 125) rfl)) hS.1 (by decide) [(.int (Int32.ofNat (bs.length + cs.length)))] [] rfl (c_ensNG l Z a0 hw hEW n0 c1 hc1 S1 v2 hv2 S2 a b cap (bs.length + cs.length) bs G.old hle hcap hS) (lenOf pd__I_V rfl) d19_21 rfl (Nat.le_of_ble_eq_true rfl) (Nat.le_of_ble_eq_true rfl) (Nat.le_of_ble_eq_true rfl) (Nat.le_of_ble_eq_true rfl) all0 all0 all0 rfl
  clear G; have G := G'; clear G'
  obtain ⟨qe, ee, rfl⟩ := Qe
  replace G := G.nov qe
  subst ee
  replace G := G.aloadN 25 d19_24 rfl rfl rfl
  replace G := G.aloadN 26 d19_25 rfl rfl rfl
  replace G := G.getf 29 (host := "") (Or.inl (hw _ (List.mem_of_getElem? (i := 119) rfl))) Via.refl hS.2.2.2.1 d19_26 rfl
  replace G := G.aloadN 30 d19_29 rfl rfl rfl
  obtain ⟨vp, h1, sop, G', Kp, Qp⟩ := G.callV 33 (hw _ (List.mem_of_getElem? (i := 126) rfl)) (declOf (hw _ (List.mem_of_getElem? (i := 127) rfl)) (hw _ (List.mem_of_getElem? (i := 130) rfl))) (nfSel (hw _ (List.mem_of_getElem? (i := 129) rfl))) (hw _ (List.mem_of_getElem? (i := 129) rfl)) (hw _ (List.mem_of_getElem? (i := 127) rfl)) (hw _ (List.mem_of_getElem? (i := 91) rfl)) (hw _ (List.mem_of_getElem? (i := 130) rfl)) hS.1 (by decide) [(.int (Int32.ofNat bs.length)), (.ref a2)] [] rfl (c_putStr l Z a0 hw hEW n0 c1 hc1 S1 v2 hv2 S2 a b a2 b2 cap bs cs G.old ge_b hle hcap hS hT) (lenOf pd__ILjava_lang_String__V rfl) d19_30 rfl (Nat.le_of_ble_eq_true rfl) (Nat.le_of_ble_eq_true rfl) (Nat.le_of_ble_eq_true rfl) (Nat.le_of_ble_eq_true rfl) (allS (Or.inl (List.mem_of_getElem? (i := 1) rfl)) all0) (allS (List.mem_of_getElem? (i := 1) rfl) all0) (allS (List.mem_of_getElem? (i := 1) rfl) all0) rfl
  clear G; have G := G'; clear G'
  obtain ⟨qp, ⟨kb, Ab⟩, rfl⟩ := Qp
  replace G := G.nov qp
  obtain ⟨Xa, Fv, Fc, Fn, kb0, Ab0⟩ := hS
  have nab : a ≠ b := ne_arr Xa (hw _ (List.mem_of_getElem? (i := 82) rfl)) Ab0.choose_spec.1
  replace Xa := Xa.keep Kp; replace Fv := Fv.keep Kp (ninS nab nin0); replace Fc := Fc.keep Kp (ninS nab nin0); replace Fn := Fn.keep Kp (ninS nab nin0)
  replace G := G.aloadN 34 d19_33 rfl rfl rfl
  replace G := G.dup 35 d19_34 rfl rfl
  replace G := G.getf 38 (host := "") (Or.inl (hw _ (List.mem_of_getElem? (i := 119) rfl))) Via.refl Fn d19_35 rfl
  replace G := G.iloadN 39 d19_38 rfl rfl
  replace G := G.iadd 40 d19_39 rfl
  replace G := G.top (y := (.int (Int32.ofNat (bs ++ cs).length))) (congrArg Value.int ((ofn_add _ _).trans (by rw [List.length_append])))
  obtain ⟨h2, G', Ww, Fw, Kw⟩ := G.putf 43 (host := "") (Or.inl (hw _ (List.mem_of_getElem? (i := 119) rfl))) Via.refl Fn Xa (Or.inl (hw _ (List.mem_of_getElem? (i := 120) rfl))) (hw _ (List.mem_of_getElem? (i := 82) rfl)) (ty := .int) (by decide) rfl rfl (Or.inl (List.mem_of_getElem? (i := 0) rfl)) (List.mem_of_getElem? (i := 0) rfl) d19_40 rfl
  clear G; have G := G'; clear G'
  replace Fv := Fv.other Ww (Or.inr (slot_ne (Or.inl (hw _ (List.mem_of_getElem? (i := 96) rfl))) (Or.inl (hw _ (List.mem_of_getElem? (i := 120) rfl))) (by decide) (t := (.array .byte)) (t' := .int) (by decide) (by decide)))
  replace Fc := Fc.other Ww (Or.inr (slot_ne (Or.inl (hw _ (List.mem_of_getElem? (i := 98) rfl))) (Or.inl (hw _ (List.mem_of_getElem? (i := 120) rfl))) (by decide) (t := .byte) (t' := .int) (by decide) (by decide)))
  replace Xa := Xa.wr Ww; replace Ab := Ab.keep Kw (ninS nab.symm nin0)
  replace G := G.aloadN 44 d19_43 rfl rfl rfl
  exact G.retA hret rfl rfl hlk d19_44 [] all0 ⟨_, rfl, rfl, ⟨Xa, Fv, Fc, Fw, kb, Ab⟩, rfl⟩ (Nat.le_of_ble_eq_true rfl) (Nat.le_of_ble_eq_true rfl)
theorem d18_0 : decode jdk_67_method_7_code 0 = .ok (.aload_n 0, 1) := by decide +kernel
theorem d18_1 : decode jdk_67_method_7_code 1 = .ok (.aload_n 1, 1) := by decide +kernel
theorem d18_2 : decode jdk_67_method_7_code 2 = .ok (.invokespecial 29, 3) := by decide +kernel
theorem d18_5 : decode jdk_67_method_7_code 5 = .ok (.pop, 1) := by decide +kernel
theorem d18_6 : decode jdk_67_method_7_code 6 = .ok (.aload_n 0, 1) := by decide +kernel
theorem d18_7 : decode jdk_67_method_7_code 7 = .ok (.areturn, 1) := by decide +kernel
set_option maxRecDepth 65536 in
set_option maxHeartbeats 40000000 in
theorem c_app (l : Launch) (Z : State) (a0 : Array Value) (hw : ∀ d ∈ tables_1, d.before a0 Z = true) (hEW : EW Z a0 consts_1) (n0 : Nat) (c1 : Int32) (hc1 : ¬ c1 = 0) (S1 : Sta Z Z.heap "java/lang/String" "COMPACT_STRINGS" "Z" (.int c1)) (v2 : Value) (hv2 : v2.isRef = true) (S2 : Sta Z Z.heap "jdk/internal/util/Preconditions" "SIOOBE_FORMATTER" "Ljava/util/function/BiFunction;" v2) (a b a2 b2 : Addr) (cap : Nat) (bs cs : List Value) {h0 : Heap} (o1 : Old Z n0 h0) (ge_a : n0 ≤ a) (ge_b : n0 ≤ b) (hle : bs.length + cs.length ≤ cap) (hcap : cap < 2147483648) (hS : Sbd Z h0 a b cap bs) (hT : Str Z h0 a2 b2 cs) :
    Con Z a0 l (⟨"java/lang/StringBuilder", "append", "(Ljava/lang/String;)Ljava/lang/StringBuilder;"⟩ : MethodName) jdk_67_method_7_code 2 (some (.object "java/lang/StringBuilder")) ({ frames := 4, cells := 0, slots := 0, locals := 84 } : Room) [] #[(.ref a), (.ref a2)] consts_1 h0 n0 [a, b] [a, b] (VV fun w h so => w = .ref a ∧ Sbd Z h a b cap (bs ++ cs) ∧ so = []) := by
  refine Con.body (plainFor_of_name pn_java_lang_StringBuilder) hEW o1 (allS ge_a (allS ge_b all0)) #[.val (.ref a), .val (.ref a2)] (fun m => by first | (simp [entryFrame, mkF, argsToLocals, Value.category]; done) | rfl) ?_
  intro p e s m below meth c B hnm hret hlk G
  replace G := G.aloadN 1 d18_0 rfl rfl rfl
  replace G := G.aloadN 2 d18_1 rfl rfl rfl
  obtain ⟨vp, h1, sop, G', Kp, Qp⟩ := G.callSup 5 (hw _ (List.mem_of_getElem? (i := 104) rfl)) (sameOf (hw _ (List.mem_of_getElem? (i := 105) rfl)) (nfVia (y := (⟨"java/lang/AbstractStringBuilder", "ensureCapacityInternal", "(I)V"⟩ : MethodName)) rfl (hw _ (List.mem_of_getElem? (i := 124) rfl)) (hw _ (List.mem_of_getElem? (i := 122) rfl))) (by decide)) (hw _ (List.mem_of_getElem? (i := 105) rfl)) (hw _ (List.mem_of_getElem? (i := 106) rfl)) (by decide) (hw _ (List.mem_of_getElem? (i := 91) rfl)) (hw _ (List.mem_of_getElem? (i := 108) rfl)) (Ins.self hS.1) [(.ref a2)] [] rfl (c_asbApp l Z a0 hw hEW n0 c1 hc1 S1 v2 hv2 S2 a b a2 b2 cap bs cs G.old ge_a ge_b hle hcap hS hT) (lenOf pd__Ljava_lang_String__Ljava_lang_AbstractStringBuilder_ rfl) d18_2 rfl (Nat.le_of_ble_eq_true rfl) (Nat.le_of_ble_eq_true rfl) (Nat.le_of_ble_eq_true rfl) (Nat.le_of_ble_eq_true rfl) (allS (Or.inl (List.mem_of_getElem? (i := 0) rfl)) (allS (Or.inl (List.mem_of_getElem? (i := 1) rfl)) all0)) (allS (List.mem_of_getElem? (i := 0) rfl) (allS (List.mem_of_getElem? (i := 1) rfl) all0)) (allS (List.mem_of_getElem? (i := 0) rfl) (allS (List.mem_of_getElem? (i := 1) rfl) all0)) rfl
  clear G; have G := G'; clear G'
  obtain ⟨wp, qp, rfl, hS1, rfl⟩ := Qp
  replace G := G.val qp
  replace G := G.pop 6 d18_5 rfl rfl
  replace G := G.aloadN 7 d18_6 rfl rfl rfl
  exact G.retA hret rfl rfl hlk d18_7 [] all0 ⟨_, rfl, rfl, hS1, rfl⟩ (Nat.le_of_ble_eq_true rfl) (Nat.le_of_ble_eq_true rfl)
theorem d17_0 : decode jdk_68_method_2_code 0 = .ok (.aload_n 0, 1) := by decide +kernel
theorem d17_1 : decode jdk_68_method_2_code 1 = .ok (.invokespecial 3, 3) := by decide +kernel
theorem d17_4 : decode jdk_68_method_2_code 4 = .ok (.getstatic 18, 3) := by decide +kernel
theorem d17_7 : decode jdk_68_method_2_code 7 = .ok (.ifCond .eq 18, 3) := by decide +kernel
theorem d17_10 : decode jdk_68_method_2_code 10 = .ok (.aload_n 0, 1) := by decide +kernel
theorem d17_11 : decode jdk_68_method_2_code 11 = .ok (.iload_n 1, 1) := by decide +kernel
theorem d17_12 : decode jdk_68_method_2_code 12 = .ok (.newarray .byte, 2) := by decide +kernel
theorem d17_14 : decode jdk_68_method_2_code 14 = .ok (.putfield 15, 3) := by decide +kernel
theorem d17_17 : decode jdk_68_method_2_code 17 = .ok (.aload_n 0, 1) := by decide +kernel
theorem d17_18 : decode jdk_68_method_2_code 18 = .ok (.iconst 0, 1) := by decide +kernel
theorem d17_19 : decode jdk_68_method_2_code 19 = .ok (.putfield 22, 3) := by decide +kernel
theorem d17_22 : decode jdk_68_method_2_code 22 = .ok (.goto 16, 3) := by decide +kernel
theorem d17_25 : decode jdk_68_method_2_code 25 = .ok (.aload_n 0, 1) := by decide +kernel
theorem d17_26 : decode jdk_68_method_2_code 26 = .ok (.iload_n 1, 1) := by decide +kernel
theorem d17_27 : decode jdk_68_method_2_code 27 = .ok (.invokestatic 26, 3) := by decide +kernel
theorem d17_30 : decode jdk_68_method_2_code 30 = .ok (.putfield 15, 3) := by decide +kernel
theorem d17_33 : decode jdk_68_method_2_code 33 = .ok (.aload_n 0, 1) := by decide +kernel
theorem d17_34 : decode jdk_68_method_2_code 34 = .ok (.iconst 1, 1) := by decide +kernel
theorem d17_35 : decode jdk_68_method_2_code 35 = .ok (.putfield 22, 3) := by decide +kernel
theorem d17_38 : decode jdk_68_method_2_code 38 = .ok (.return_, 1) := by decide +kernel
set_option maxRecDepth 65536 in
set_option maxHeartbeats 40000000 in
theorem c_asbInit (l : Launch) (Z : State) (a0 : Array Value) (hw : ∀ d ∈ tables_1, d.before a0 Z = true) (hEW : EW Z a0 consts_1) (n0 : Nat) (c1 : Int32) (hc1 : ¬ c1 = 0) (S1 : Sta Z Z.heap "java/lang/String" "COMPACT_STRINGS" "Z" (.int c1)) (v2 : Value) (hv2 : v2.isRef = true) (S2 : Sta Z Z.heap "jdk/internal/util/Preconditions" "SIOOBE_FORMATTER" "Ljava/util/function/BiFunction;" v2) (a : Addr) {h0 : Heap} (o1 : Old Z n0 h0) (ge_a : n0 ≤ a) (Xa : Exa Z h0 a "java/lang/StringBuilder") (Fv : Fld Z h0 a "java/lang/AbstractStringBuilder" "value" "[B" .null) (Fc : Fld Z h0 a "java/lang/AbstractStringBuilder" "coder" "B" (.int 0)) (Fn : Fld Z h0 a "java/lang/AbstractStringBuilder" "count" "I" (.int 0)) :
    Con Z a0 l (⟨"java/lang/AbstractStringBuilder", "<init>", "(I)V"⟩ : MethodName) jdk_68_method_2_code 2 (none) ({ frames := 1, cells := 1, slots := 16, locals := 12 } : Room) [] #[(.ref a), (.int (16 : Int32))] consts_1 h0 n0 [a] [a] (V0 fun h so => ∃ b, Sbd Z h a b 16 [] ∧ h0.size ≤ b ∧ so = [b]) := by
  refine Con.body (plainFor_of_name pn_java_lang_AbstractStringBuilder) hEW o1 (allS ge_a all0) #[.val (.ref a), .val (.int (16 : Int32))] (fun m => by first | (simp [entryFrame, mkF, argsToLocals, Value.category]; done) | rfl) ?_
  intro p e s m below meth c B hnm hret hlk G
  replace G := G.aloadN 1 d17_0 rfl rfl rfl
  replace G := G.initO 4 (hw _ (List.mem_of_getElem? (i := 93) rfl)) (hw _ (List.mem_of_getElem? (i := 12) rfl)) (hw _ (List.mem_of_getElem? (i := 13) rfl)) d17_1 rfl (Nat.le_of_ble_eq_true rfl) (Nat.le_of_ble_eq_true rfl) rfl
  replace G := G.gets 7 (host := "") (Or.inl (hw _ (List.mem_of_getElem? (i := 94) rfl))) Via.refl (G.sta S1) d17_4 rfl
  replace G := G.ifF 10 d17_7 (XT.i0_eq_f hc1) rfl
  replace G := G.aloadN 11 d17_10 rfl rfl rfl
  replace G := G.iloadN 12 d17_11 rfl rfl
  obtain ⟨b, h1, kb, G', gb, sb, Eb, Ab⟩ := G.newarray 14 (hw _ (List.mem_of_getElem? (i := 19) rfl)) d17_12 (by decide) 16 (Nat.le_of_ble_eq_true rfl) (by decide) rfl (Nat.le_of_ble_eq_true rfl) (Nat.le_of_ble_eq_true rfl)
  clear G; have G := G'; clear G'
  have nab : a ≠ b := ne_new gb Xa.lt
  replace Xa := Xa.ext Eb; replace Fv := Fv.ext Eb; replace Fc := Fc.ext Eb; replace Fn := Fn.ext Eb
  obtain ⟨h2, G', Wv, Fv, Kv⟩ := G.putf 17 (host := "") (Or.inl (hw _ (List.mem_of_getElem? (i := 95) rfl))) Via.refl Fv Xa (Or.inl (hw _ (List.mem_of_getElem? (i := 96) rfl))) (hw _ (List.mem_of_getElem? (i := 82) rfl)) (ty := (.array .byte)) (by decide) rfl rfl (Or.inl (List.mem_of_getElem? (i := 0) rfl)) (List.mem_of_getElem? (i := 1) rfl) d17_14 rfl
  clear G; have G := G'; clear G'
  replace Fn := Fn.other Wv (Or.inr (slot_ne (Or.inl (hw _ (List.mem_of_getElem? (i := 120) rfl))) (Or.inl (hw _ (List.mem_of_getElem? (i := 96) rfl))) (by decide) (t := .int) (t' := (.array .byte)) (by decide) (by decide)))
  replace Fc := Fc.other Wv (Or.inr (slot_ne (Or.inl (hw _ (List.mem_of_getElem? (i := 98) rfl))) (Or.inl (hw _ (List.mem_of_getElem? (i := 96) rfl))) (by decide) (t := .byte) (t' := (.array .byte)) (by decide) (by decide)))
  replace Xa := Xa.wr Wv; replace Ab := Ab.keep Kv (ninS nab.symm nin0)
  replace G := G.aloadN 18 d17_17 rfl rfl rfl
  replace G := G.iconst 19 (0 : Int32) d17_18 rfl rfl
  obtain ⟨h3, G', Wc, Fc, Kc⟩ := G.putf 22 (host := "") (Or.inl (hw _ (List.mem_of_getElem? (i := 97) rfl))) Via.refl Fc Xa (Or.inl (hw _ (List.mem_of_getElem? (i := 98) rfl))) (hw _ (List.mem_of_getElem? (i := 82) rfl)) (ty := .byte) (by decide) rfl rfl (Or.inl (List.mem_of_getElem? (i := 0) rfl)) (List.mem_of_getElem? (i := 1) rfl) d17_19 rfl
  clear G; have G := G'; clear G'
  replace Fn := Fn.other Wc (Or.inr (slot_ne (Or.inl (hw _ (List.mem_of_getElem? (i := 120) rfl))) (Or.inl (hw _ (List.mem_of_getElem? (i := 98) rfl))) (by decide) (t := .int) (t' := .byte) (by decide) (by decide)))
  replace Fv := Fv.other Wc (Or.inr (slot_ne (Or.inl (hw _ (List.mem_of_getElem? (i := 96) rfl))) (Or.inl (hw _ (List.mem_of_getElem? (i := 98) rfl))) (by decide) (t := (.array .byte)) (t' := .byte) (by decide) (by decide)))
  replace Xa := Xa.wr Wc; replace Ab := Ab.keep Kc (ninS nab.symm nin0)
  replace G := G.goto 38 d17_22 (by decide) (by decide)
  exact G.retV hret hlk d17_38 [b] (allS (List.mem_of_getElem? (i := 0) rfl) all0) ⟨rfl, b, ⟨Xa, Fv, Fc, Fn, kb, Ab⟩, sb, rfl⟩ (Nat.le_of_ble_eq_true rfl) (Nat.le_of_ble_eq_true rfl)
theorem d16_0 : decode jdk_67_method_1_code 0 = .ok (.aload_n 0, 1) := by decide +kernel
theorem d16_1 : decode jdk_67_method_1_code 1 = .ok (.bipush 16, 2) := by decide +kernel
theorem d16_3 : decode jdk_67_method_1_code 3 = .ok (.invokespecial 1, 3) := by decide +kernel
theorem d16_6 : decode jdk_67_method_1_code 6 = .ok (.return_, 1) := by decide +kernel
set_option maxRecDepth 65536 in
set_option maxHeartbeats 40000000 in
theorem c_sbInit (l : Launch) (Z : State) (a0 : Array Value) (hw : ∀ d ∈ tables_1, d.before a0 Z = true) (hEW : EW Z a0 consts_1) (n0 : Nat) (c1 : Int32) (hc1 : ¬ c1 = 0) (S1 : Sta Z Z.heap "java/lang/String" "COMPACT_STRINGS" "Z" (.int c1)) (v2 : Value) (hv2 : v2.isRef = true) (S2 : Sta Z Z.heap "jdk/internal/util/Preconditions" "SIOOBE_FORMATTER" "Ljava/util/function/BiFunction;" v2) (a : Addr) {h0 : Heap} (o1 : Old Z n0 h0) (ge_a : n0 ≤ a) (Xa : Exa Z h0 a "java/lang/StringBuilder") (Fv : Fld Z h0 a "java/lang/AbstractStringBuilder" "value" "[B" .null) (Fc : Fld Z h0 a "java/lang/AbstractStringBuilder" "coder" "B" (.int 0)) (Fn : Fld Z h0 a "java/lang/AbstractStringBuilder" "count" "I" (.int 0)) :
    Con Z a0 l (⟨"java/lang/StringBuilder", "<init>", "()V"⟩ : MethodName) jdk_67_method_1_code 1 (none) ({ frames := 2, cells := 1, slots := 16, locals := 25 } : Room) [] #[(.ref a)] consts_1 h0 n0 [a] [a] (V0 fun h so => ∃ b, Sbd Z h a b 16 [] ∧ h0.size ≤ b ∧ so = [b]) := by
  refine Con.body (plainFor_of_name pn_java_lang_StringBuilder) hEW o1 (allS ge_a all0) #[.val (.ref a)] (fun m => by first | (simp [entryFrame, mkF, argsToLocals, Value.category]; done) | rfl) ?_
  intro p e s m below meth c B hnm hret hlk G
  replace G := G.aloadN 1 d16_0 rfl rfl rfl
  replace G := G.bipush 3 (16 : Int32) d16_1 (by decide) rfl
  obtain ⟨vi, h1, soi, G', Ki, Qi⟩ := G.callI 6 rfl rfl (hw _ (List.mem_of_getElem? (i := 87) rfl)) (hw _ (List.mem_of_getElem? (i := 88) rfl)) (hw _ (List.mem_of_getElem? (i := 91) rfl)) (hw _ (List.mem_of_getElem? (i := 92) rfl)) (by decide) [(.int (16 : Int32))] [] rfl (c_asbInit l Z a0 hw hEW n0 c1 hc1 S1 v2 hv2 S2 a G.old ge_a Xa Fv Fc Fn) (lenOf pd__I_V rfl) d16_3 rfl (Nat.le_of_ble_eq_true rfl) (Nat.le_of_ble_eq_true rfl) (Nat.le_of_ble_eq_true rfl) (Nat.le_of_ble_eq_true rfl) (allS (Or.inl (List.mem_of_getElem? (i := 0) rfl)) all0) (allS (List.mem_of_getElem? (i := 0) rfl) all0) (allS (List.mem_of_getElem? (i := 0) rfl) all0) rfl
  clear G; have G := G'; clear G'
  obtain ⟨qi, b, hS, hb, rfl⟩ := Qi
  replace G := G.nov qi
  exact G.retV hret hlk d16_6 [b] (allS (List.mem_of_getElem? (i := 0) rfl) all0) ⟨rfl, b, hS, hb, rfl⟩ (Nat.le_of_ble_eq_true rfl) (Nat.le_of_ble_eq_true rfl)
theorem d40_0 : decode jdk_29_method_69_code 0 = .ok (.iload_n 0, 1) := by decide +kernel
theorem d40_1 : decode jdk_29_method_69_code 1 = .ok (.iload_n 1, 1) := by decide +kernel
theorem d40_2 : decode jdk_29_method_69_code 2 = .ok (.if_icmp .gt 7, 3) := by decide +kernel
theorem d40_5 : decode jdk_29_method_69_code 5 = .ok (.iload_n 0, 1) := by decide +kernel
theorem d40_6 : decode jdk_29_method_69_code 6 = .ok (.goto 4, 3) := by decide +kernel
theorem d40_9 : decode jdk_29_method_69_code 9 = .ok (.iload_n 1, 1) := by decide +kernel
theorem d40_10 : decode jdk_29_method_69_code 10 = .ok (.ireturn, 1) := by decide +kernel
set_option maxRecDepth 65536 in
set_option maxHeartbeats 40000000 in
theorem c_minR (l : Launch) (Z : State) (a0 : Array Value) (hw : ∀ d ∈ tables_1, d.before a0 Z = true) (hEW : EW Z a0 consts_1) (n0 : Nat) (c1 : Int32) (hc1 : ¬ c1 = 0) (S1 : Sta Z Z.heap "java/lang/String" "COMPACT_STRINGS" "Z" (.int c1)) (v2 : Value) (hv2 : v2.isRef = true) (S2 : Sta Z Z.heap "jdk/internal/util/Preconditions" "SIOOBE_FORMATTER" "Ljava/util/function/BiFunction;" v2) (x y : Int32) {h0 : Heap} (o1 : Old Z n0 h0) (hxy : y < x) :
    Con Z a0 l (⟨"java/lang/Math", "min", "(II)I"⟩ : MethodName) jdk_29_method_69_code 2 (some .int) ({ frames := 0, cells := 0, slots := 0, locals := 0 } : Room) [] #[(.int x), (.int y)] consts_1 h0 n0 [] [] (VV fun w h so => w = .int y ∧ h = h0 ∧ so = []) := by
  refine Con.body (by decide +kernel) hEW o1 all0 #[.val (.int x), .val (.int y)] (fun m => by first | (simp [entryFrame, mkF, argsToLocals, Value.category]; done) | rfl) ?_
  intro p e s m below meth c B hnm hret hlk G
  replace G := G.iloadN 1 d40_0 rfl rfl
  replace G := G.iloadN 2 d40_1 rfl rfl
  replace G := G.icmpT 9 d40_2 (XT.ii_gt_t hxy) (by decide) (by decide)
  replace G := G.iloadN 10 d40_9 rfl rfl
  exact G.retI hret hlk d40_10 [] all0 ⟨_, rfl, rfl, rfl, rfl⟩ (Nat.le_of_ble_eq_true rfl) (Nat.le_of_ble_eq_true rfl)
theorem d39_0 : decode jdk_65_method_131_code 0 = .ok (.iload_n 1, 1) := by decide +kernel
theorem d39_1 : decode jdk_65_method_131_code 1 = .ok (.iload_n 0, 1) := by decide +kernel
theorem d39_2 : decode jdk_65_method_131_code 2 = .ok (.if_icmp .ge 35, 3) := by decide +kernel
theorem d39_5 : decode jdk_65_method_131_code 5 = .ok (.new 43, 3) := by decide +kernel
theorem d39_8 : decode jdk_65_method_131_code 8 = .ok (.dup, 1) := by decide +kernel
theorem d39_9 : decode jdk_65_method_131_code 9 = .ok (.new 45, 3) := by decide +kernel
theorem d39_12 : decode jdk_65_method_131_code 12 = .ok (.dup, 1) := by decide +kernel
theorem d39_13 : decode jdk_65_method_131_code 13 = .ok (.invokespecial 47, 3) := by decide +kernel
theorem d39_16 : decode jdk_65_method_131_code 16 = .ok (.iload_n 0, 1) := by decide +kernel
theorem d39_17 : decode jdk_65_method_131_code 17 = .ok (.invokevirtual 54, 3) := by decide +kernel
theorem d39_20 : decode jdk_65_method_131_code 20 = .ok (.ldc_w 337, 3) := by decide +kernel
theorem d39_23 : decode jdk_65_method_131_code 23 = .ok (.invokevirtual 50, 3) := by decide +kernel
theorem d39_26 : decode jdk_65_method_131_code 26 = .ok (.iload_n 1, 1) := by decide +kernel
theorem d39_27 : decode jdk_65_method_131_code 27 = .ok (.invokevirtual 54, 3) := by decide +kernel
theorem d39_30 : decode jdk_65_method_131_code 30 = .ok (.invokevirtual 61, 3) := by decide +kernel
theorem d39_33 : decode jdk_65_method_131_code 33 = .ok (.invokespecial 65, 3) := by decide +kernel
theorem d39_36 : decode jdk_65_method_131_code 36 = .ok (.athrow, 1) := by decide +kernel
theorem d39_37 : decode jdk_65_method_131_code 37 = .ok (.return_, 1) := by decide +kernel
set_option maxRecDepth 65536 in
set_option maxHeartbeats 40000000 in
theorem c_chkLen (l : Launch) (Z : State) (a0 : Array Value) (hw : ∀ d ∈ tables_1, d.before a0 Z = true) (hEW : EW Z a0 consts_1) (n0 : Nat) (c1 : Int32) (hc1 : ¬ c1 = 0) (S1 : Sta Z Z.heap "java/lang/String" "COMPACT_STRINGS" "Z" (.int c1)) (v2 : Value) (hv2 : v2.isRef = true) (S2 : Sta Z Z.heap "jdk/internal/util/Preconditions" "SIOOBE_FORMATTER" "Ljava/util/function/BiFunction;" v2) (x y : Int32) {h0 : Heap} (o1 : Old Z n0 h0) (hxy : ¬ y < x) :
    Con Z a0 l (⟨"java/util/Arrays", "checkLength", "(II)V"⟩ : MethodName) jdk_65_method_131_code 2 (none) ({ frames := 0, cells := 0, slots := 0, locals := 0 } : Room) [] #[(.int x), (.int y)] consts_1 h0 n0 [] [] (V0 fun h so => h = h0 ∧ so = []) := by
  refine Con.body (plainFor_of_name pn_java_util_Arrays) hEW o1 all0 #[.val (.int x), .val (.int y)] (fun m => by first | (simp [entryFrame, mkF, argsToLocals, Value.category]; done) | rfl) ?_
  intro p e s m below meth c B hnm hret hlk G
  replace G := G.iloadN 1 d39_0 rfl rfl
  replace G := G.iloadN 2 d39_1 rfl rfl
  replace G := G.icmpT 37 d39_2 (XT.ii_ge_t hxy) (by decide) (by decide)
  exact G.retV hret hlk d39_37 [] all0 ⟨rfl, rfl, rfl⟩ (Nat.le_of_ble_eq_true rfl) (Nat.le_of_ble_eq_true rfl)
theorem d38_0 : decode jdk_65_method_133_code 0 = .ok (.iload_n 1, 1) := by decide +kernel
theorem d38_1 : decode jdk_65_method_133_code 1 = .ok (.iload_n 2, 1) := by decide +kernel
theorem d38_2 : decode jdk_65_method_133_code 2 = .ok (.invokestatic 343, 3) := by decide +kernel
theorem d38_5 : decode jdk_65_method_133_code 5 = .ok (.iload_n 2, 1) := by decide +kernel
theorem d38_6 : decode jdk_65_method_133_code 6 = .ok (.iload_n 1, 1) := by decide +kernel
theorem d38_7 : decode jdk_65_method_133_code 7 = .ok (.isub, 1) := by decide +kernel
theorem d38_8 : decode jdk_65_method_133_code 8 = .ok (.istore_n 3, 1) := by decide +kernel
theorem d38_9 : decode jdk_65_method_133_code 9 = .ok (.iload_n 3, 1) := by decide +kernel
theorem d38_10 : decode jdk_65_method_133_code 10 = .ok (.newarray .byte, 2) := by decide +kernel
theorem d38_12 : decode jdk_65_method_133_code 12 = .ok (.astore 4, 2) := by decide +kernel
theorem d38_14 : decode jdk_65_method_133_code 14 = .ok (.aload_n 0, 1) := by decide +kernel
theorem d38_15 : decode jdk_65_method_133_code 15 = .ok (.iload_n 1, 1) := by decide +kernel
theorem d38_16 : decode jdk_65_method_133_code 16 = .ok (.aload 4, 2) := by decide +kernel
theorem d38_18 : decode jdk_65_method_133_code 18 = .ok (.iconst 0, 1) := by decide +kernel
theorem d38_19 : decode jdk_65_method_133_code 19 = .ok (.aload_n 0, 1) := by decide +kernel
theorem d38_20 : decode jdk_65_method_133_code 20 = .ok (.arraylength, 1) := by decide +kernel
theorem d38_21 : decode jdk_65_method_133_code 21 = .ok (.iload_n 1, 1) := by decide +kernel
theorem d38_22 : decode jdk_65_method_133_code 22 = .ok (.isub, 1) := by decide +kernel
theorem d38_23 : decode jdk_65_method_133_code 23 = .ok (.iload_n 3, 1) := by decide +kernel
theorem d38_24 : decode jdk_65_method_133_code 24 = .ok (.invokestatic 304, 3) := by decide +kernel
theorem d38_27 : decode jdk_65_method_133_code 27 = .ok (.invokestatic 150, 3) := by decide +kernel
theorem d38_30 : decode jdk_65_method_133_code 30 = .ok (.aload 4, 2) := by decide +kernel
theorem d38_32 : decode jdk_65_method_133_code 32 = .ok (.areturn, 1) := by decide +kernel
set_option maxRecDepth 65536 in
set_option maxHeartbeats 40000000 in
theorem c_corb (l : Launch) (Z : State) (a0 : Array Value) (hw : ∀ d ∈ tables_1, d.before a0 Z = true) (hEW : EW Z a0 consts_1) (n0 : Nat) (c1 : Int32) (hc1 : ¬ c1 = 0) (S1 : Sta Z Z.heap "java/lang/String" "COMPACT_STRINGS" "Z" (.int c1)) (v2 : Value) (hv2 : v2.isRef = true) (S2 : Sta Z Z.heap "jdk/internal/util/Preconditions" "SIOOBE_FORMATTER" "Ljava/util/function/BiFunction;" v2) (b : Addr) (kb : ClassId) (cap : Nat) (bs : List Value) {h0 : Heap} (o1 : Old Z n0 h0) (hlt : bs.length < cap) (hcap : cap < 2147483648) (hmax : bs.length ≤ 64) (Ab : Arv Z h0 b kb .byte (Int32.ofNat cap) bs (.int 0)) :
    Con Z a0 l (⟨"java/util/Arrays", "copyOfRangeByte", "([BII)[B"⟩ : MethodName) jdk_65_method_133_code 5 (some (.array .byte)) ({ frames := 1, cells := 1, slots := 64, locals := 41 } : Room) [] #[(.ref b), (.int (0 : Int32)), (.int (Int32.ofNat bs.length))] consts_1 h0 n0 [] [] (VV fun w h so => ∃ n, w = .ref n ∧ (∃ k, Arv Z h n k .byte (Int32.ofNat bs.length) bs (.int 0)) ∧ h0.size ≤ n ∧ so = [n]) := by
  refine Con.body (plainFor_of_name pn_java_util_Arrays) hEW o1 all0 #[.val (.ref b), .val (.int (0 : Int32)), .val (.int (Int32.ofNat bs.length)), .unset, .unset] (fun m => by first | (simp [entryFrame, mkF, argsToLocals, Value.category]; done) | rfl) ?_
  intro p e s m below meth c B hnm hret hlk G
  have m1 : cap < 2147483648 := hcap
  have m2 : bs.length < 2147483648 := by omega
  replace G := G.iloadN 1 d38_0 rfl rfl
  replace G := G.iloadN 2 d38_1 rfl rfl
  obtain ⟨vk, h_k, sok, G', Kk, Qk⟩ := G.callS 5 (hw _ (List.mem_of_getElem? (i := 202) rfl)) (hw _ (List.mem_of_getElem? (i := 203) rfl)) (hw _ (List.mem_of_getElem? (i := 197) rfl)) (hw _ (List.mem_of_getElem? (i := 204) rfl)) (by decide) [(.int (0 : Int32)), (.int (Int32.ofNat bs.length))] [] rfl (c_chkLen l Z a0 hw hEW n0 c1 hc1 S1 v2 hv2 S2 0 (Int32.ofNat bs.length) G.old (ofn_nn m2)) (lenOf pd__II_V rfl) d38_2 rfl (Nat.le_of_ble_eq_true rfl) (Nat.le_of_ble_eq_true rfl) (Nat.le_of_ble_eq_true rfl) (Nat.le_of_ble_eq_true rfl) all0 all0 all0 rfl
  clear G; have G := G'; clear G'
  obtain ⟨qk, ek, rfl⟩ := Qk
  replace G := G.nov qk
  subst ek
  replace G := G.iloadN 6 d38_5 rfl rfl
  replace G := G.iloadN 7 d38_6 rfl rfl
  replace G := G.isub 8 d38_7 rfl
  replace G := G.top (y := (.int (Int32.ofNat bs.length))) (congrArg Value.int (sub0 _))
  replace G := G.istoreN 9 #[.val (.ref b), .val (.int (0 : Int32)), .val (.int (Int32.ofNat bs.length)), .val (.int (Int32.ofNat bs.length)), .unset] d38_8 rfl rfl
  replace G := G.iloadN 10 d38_9 rfl rfl
  obtain ⟨n, h1, kn, G', gn, sn, En, An⟩ := G.newarray 12 (hw _ (List.mem_of_getElem? (i := 19) rfl)) d38_10 (ofn_nn m2) 64 (by rw [ofn_nat m2]; exact hmax) (by decide) rfl (Nat.le_of_ble_eq_true rfl) (Nat.le_of_ble_eq_true rfl)
  clear G; have G := G'; clear G'
  replace Ab := Ab.ext En
  replace G := G.astore 14 #[.val (.ref b), .val (.int (0 : Int32)), .val (.int (Int32.ofNat bs.length)), .val (.int (Int32.ofNat bs.length)), .val (.ref n)] d38_12 rfl rfl rfl
  replace G := G.aloadN 15 d38_14 rfl rfl rfl
  replace G := G.iloadN 16 d38_15 rfl rfl
  replace G := G.aload 18 d38_16 rfl rfl rfl
  replace G := G.iconst 19 (0 : Int32) d38_18 rfl rfl
  replace G := G.aloadN 20 d38_19 rfl rfl rfl
  replace G := G.alen 21 Ab d38_20 rfl
  replace G := G.iloadN 22 d38_21 rfl rfl
  replace G := G.isub 23 d38_22 rfl
  replace G := G.top (y := (.int (Int32.ofNat cap))) (congrArg Value.int (sub0 _))
  replace G := G.iloadN 24 d38_23 rfl rfl
  obtain ⟨vm, h_m, som, G', Km, Qm⟩ := G.callS 27 (hw _ (List.mem_of_getElem? (i := 205) rfl)) (hw _ (List.mem_of_getElem? (i := 206) rfl)) (hw _ (List.mem_of_getElem? (i := 207) rfl)) (hw _ (List.mem_of_getElem? (i := 208) rfl)) (by decide) [(.int (Int32.ofNat cap)), (.int (Int32.ofNat bs.length))] [(.int (0 : Int32)), (.ref n), (.int (0 : Int32)), (.ref b)] rfl (c_minR l Z a0 hw hEW n0 c1 hc1 S1 v2 hv2 S2 (Int32.ofNat cap) (Int32.ofNat bs.length) G.old (ofn_lt hlt hcap)) (lenOf pd__II_I rfl) d38_24 rfl (Nat.le_of_ble_eq_true rfl) (Nat.le_of_ble_eq_true rfl) (Nat.le_of_ble_eq_true rfl) (Nat.le_of_ble_eq_true rfl) all0 all0 all0 rfl
  clear G; have G := G'; clear G'
  obtain ⟨wm, qm, rfl, em, rfl⟩ := Qm
  replace G := G.val qm
  subst em
  have An' := An.pad (vs' := [] ++ List.replicate bs.length (.int 0)) (pad_rep [] (.int 0) bs.length)
  obtain ⟨h2, G', Ap, Kp⟩ := G.cpy 30 (hw _ (List.mem_of_getElem? (i := 209) rfl)) (hw _ (List.mem_of_getElem? (i := 145) rfl)) (hw _ (List.mem_of_getElem? (i := 143) rfl)) (hw _ (List.mem_of_getElem? (i := 144) rfl)) Ab An' rfl (by decide) (by decide) (ofn_nn m2) (by rw [ofn_nat m2, ofn_nat hcap, show (0 : Int32).toNatClampNeg = 0 from rfl]; omega) (by rw [ofn_nat m2, show (0 : Int32).toNatClampNeg = 0 from rfl]; omega) (by rw [ofn_nat m2, show (0 : Int32).toNatClampNeg = 0 from rfl]; simp) (Or.inr sn) (List.mem_of_getElem? (i := 0) rfl) d38_27 rfl (Nat.le_of_ble_eq_true rfl) (Nat.le_of_ble_eq_true rfl) rfl
  clear G; have G := G'; clear G'
  rw [ofn_nat m2, show (0 : Int32).toNatClampNeg = 0 from rfl] at Ap
  replace Ap := (cpy_res [] bs (.int 0)) ▸ Ap
  replace G := G.aload 32 d38_30 rfl rfl rfl
  exact G.retA hret rfl rfl hlk d38_32 [n] (allS (List.mem_of_getElem? (i := 0) rfl) all0) ⟨_, rfl, n, rfl, ⟨kn, Ap⟩, sn, rfl⟩ (Nat.le_of_ble_eq_true rfl) (Nat.le_of_ble_eq_true rfl)
theorem d37_0 : decode jdk_65_method_132_code 0 = .ok (.iload_n 1, 1) := by decide +kernel
theorem d37_1 : decode jdk_65_method_132_code 1 = .ok (.ifCond .ne 9, 3) := by decide +kernel
theorem d37_4 : decode jdk_65_method_132_code 4 = .ok (.iload_n 2, 1) := by decide +kernel
theorem d37_5 : decode jdk_65_method_132_code 5 = .ok (.aload_n 0, 1) := by decide +kernel
theorem d37_6 : decode jdk_65_method_132_code 6 = .ok (.arraylength, 1) := by decide +kernel
theorem d37_7 : decode jdk_65_method_132_code 7 = .ok (.if_icmp .eq 10, 3) := by decide +kernel
theorem d37_10 : decode jdk_65_method_132_code 10 = .ok (.aload_n 0, 1) := by decide +kernel
theorem d37_11 : decode jdk_65_method_132_code 11 = .ok (.iload_n 1, 1) := by decide +kernel
theorem d37_12 : decode jdk_65_method_132_code 12 = .ok (.iload_n 2, 1) := by decide +kernel
theorem d37_13 : decode jdk_65_method_132_code 13 = .ok (.invokestatic 339, 3) := by decide +kernel
theorem d37_16 : decode jdk_65_method_132_code 16 = .ok (.areturn, 1) := by decide +kernel
theorem d37_17 : decode jdk_65_method_132_code 17 = .ok (.aload_n 0, 1) := by decide +kernel
theorem d37_18 : decode jdk_65_method_132_code 18 = .ok (.invokevirtual 310, 3) := by decide +kernel
theorem d37_21 : decode jdk_65_method_132_code 21 = .ok (.checkcast 311, 3) := by decide +kernel
theorem d37_24 : decode jdk_65_method_132_code 24 = .ok (.areturn, 1) := by decide +kernel
set_option maxRecDepth 65536 in
set_option maxHeartbeats 40000000 in
theorem c_cor (l : Launch) (Z : State) (a0 : Array Value) (hw : ∀ d ∈ tables_1, d.before a0 Z = true) (hEW : EW Z a0 consts_1) (n0 : Nat) (c1 : Int32) (hc1 : ¬ c1 = 0) (S1 : Sta Z Z.heap "java/lang/String" "COMPACT_STRINGS" "Z" (.int c1)) (v2 : Value) (hv2 : v2.isRef = true) (S2 : Sta Z Z.heap "jdk/internal/util/Preconditions" "SIOOBE_FORMATTER" "Ljava/util/function/BiFunction;" v2) (b : Addr) (kb : ClassId) (cap : Nat) (bs : List Value) {h0 : Heap} (o1 : Old Z n0 h0) (hlt : bs.length < cap) (hcap : cap < 2147483648) (hmax : bs.length ≤ 64) (Ab : Arv Z h0 b kb .byte (Int32.ofNat cap) bs (.int 0)) :
    Con Z a0 l (⟨"java/util/Arrays", "copyOfRange", "([BII)[B"⟩ : MethodName) jdk_65_method_132_code 3 (some (.array .byte)) ({ frames := 2, cells := 1, slots := 64, locals := 57 } : Room) [] #[(.ref b), (.int (0 : Int32)), (.int (Int32.ofNat bs.length))] consts_1 h0 n0 [] [] (VV fun w h so => ∃ n, w = .ref n ∧ (∃ k, Arv Z h n k .byte (Int32.ofNat bs.length) bs (.int 0)) ∧ h0.size ≤ n ∧ so = [n]) := by
  refine Con.body (plainFor_of_name pn_java_util_Arrays) hEW o1 all0 #[.val (.ref b), .val (.int (0 : Int32)), .val (.int (Int32.ofNat bs.length))] (fun m => by first | (simp [entryFrame, mkF, argsToLocals, Value.category]; done) | rfl) ?_
  intro p e s m below meth c B hnm hret hlk G
  replace G := G.iloadN 1 d37_0 rfl rfl
  replace G := G.ifF 4 d37_1 (XT.i0_ne_f rfl) rfl
  replace G := G.iloadN 5 d37_4 rfl rfl
  replace G := G.aloadN 6 d37_5 rfl rfl rfl
  replace G := G.alen 7 Ab d37_6 rfl
  replace G := G.icmpF 10 d37_7 (XT.ii_eq_f (ofn_ne (by omega) (by omega) hcap)) rfl
  replace G := G.aloadN 11 d37_10 rfl rfl rfl
  replace G := G.iloadN 12 d37_11 rfl rfl
  replace G := G.iloadN 13 d37_12 rfl rfl
  obtain ⟨vc, h1, soc, G', Kc, Qc⟩ := G.callS 16 (hw _ (List.mem_of_getElem? (i := 199) rfl)) (hw _ (List.mem_of_getElem? (i := 200) rfl)) (hw _ (List.mem_of_getElem? (i := 197) rfl)) (hw _ (List.mem_of_getElem? (i := 201) rfl)) (by decide) [(.ref b), (.int (0 : Int32)), (.int (Int32.ofNat bs.length))] [] rfl (c_corb l Z a0 hw hEW n0 c1 hc1 S1 v2 hv2 S2 b kb cap bs G.old hlt hcap hmax Ab) (lenOf pd___BII__B rfl) d37_13 rfl (Nat.le_of_ble_eq_true rfl) (Nat.le_of_ble_eq_true rfl) (Nat.le_of_ble_eq_true rfl) (Nat.le_of_ble_eq_true rfl) all0 all0 all0 rfl
  clear G; have G := G'; clear G'
  obtain ⟨wc, qc, n, rfl, hA, sn, rfl⟩ := Qc
  replace G := G.val qc
  exact G.retA hret rfl rfl hlk d37_16 [n] (allS (List.mem_of_getElem? (i := 0) rfl) all0) ⟨_, rfl, n, rfl, hA, sn, rfl⟩ (Nat.le_of_ble_eq_true rfl) (Nat.le_of_ble_eq_true rfl)
theorem d34_0 : decode jdk_68_method_64_code 0 = .ok (.aload_n 0, 1) := by decide +kernel
theorem d34_1 : decode jdk_68_method_64_code 1 = .ok (.getfield 15, 3) := by decide +kernel
theorem d34_4 : decode jdk_68_method_64_code 4 = .ok (.areturn, 1) := by decide +kernel
set_option maxRecDepth 65536 in
set_option maxHeartbeats 40000000 in
theorem c_getVal (l : Launch) (Z : State) (a0 : Array Value) (hw : ∀ d ∈ tables_1, d.before a0 Z = true) (hEW : EW Z a0 consts_1) (n0 : Nat) (c1 : Int32) (hc1 : ¬ c1 = 0) (S1 : Sta Z Z.heap "java/lang/String" "COMPACT_STRINGS" "Z" (.int c1)) (v2 : Value) (hv2 : v2.isRef = true) (S2 : Sta Z Z.heap "jdk/internal/util/Preconditions" "SIOOBE_FORMATTER" "Ljava/util/function/BiFunction;" v2) (a b : Addr) (cap : Nat) (bs : List Value) {h0 : Heap} (o1 : Old Z n0 h0) (hS : Sbd Z h0 a b cap bs) :
    Con Z a0 l (⟨"java/lang/AbstractStringBuilder", "getValue", "()[B"⟩ : MethodName) jdk_68_method_64_code 1 (some (.array .byte)) ({ frames := 0, cells := 0, slots := 0, locals := 0 } : Room) [] #[(.ref a)] consts_1 h0 n0 [] [] (VV fun w h so => w = .ref b ∧ h = h0 ∧ so = []) := by
  refine Con.body (plainFor_of_name pn_java_lang_AbstractStringBuilder) hEW o1 all0 #[.val (.ref a)] (fun m => by first | (simp [entryFrame, mkF, argsToLocals, Value.category]; done) | rfl) ?_
  intro p e s m below meth c B hnm hret hlk G
  replace G := G.aloadN 1 d34_0 rfl rfl rfl
  replace G := G.getf 4 (host := "") (Or.inl (hw _ (List.mem_of_getElem? (i := 95) rfl))) Via.refl hS.2.1 d34_1 rfl
  exact G.retA hret rfl rfl hlk d34_4 [] all0 ⟨_, rfl, rfl, rfl, rfl⟩ (Nat.le_of_ble_eq_true rfl) (Nat.le_of_ble_eq_true rfl)
theorem d36_0 : decode jdk_68_method_6_code 0 = .ok (.aload_n 0, 1) := by decide +kernel
theorem d36_1 : decode jdk_68_method_6_code 1 = .ok (.getfield 79, 3) := by decide +kernel
theorem d36_4 : decode jdk_68_method_6_code 4 = .ok (.ireturn, 1) := by decide +kernel
set_option maxRecDepth 65536 in
set_option maxHeartbeats 40000000 in
theorem c_asbLen (l : Launch) (Z : State) (a0 : Array Value) (hw : ∀ d ∈ tables_1, d.before a0 Z = true) (hEW : EW Z a0 consts_1) (n0 : Nat) (c1 : Int32) (hc1 : ¬ c1 = 0) (S1 : Sta Z Z.heap "java/lang/String" "COMPACT_STRINGS" "Z" (.int c1)) (v2 : Value) (hv2 : v2.isRef = true) (S2 : Sta Z Z.heap "jdk/internal/util/Preconditions" "SIOOBE_FORMATTER" "Ljava/util/function/BiFunction;" v2) (a b : Addr) (cap : Nat) (bs : List Value) {h0 : Heap} (o1 : Old Z n0 h0) (hS : Sbd Z h0 a b cap bs) :
    Con Z a0 l (⟨"java/lang/AbstractStringBuilder", "length", "()I"⟩ : MethodName) jdk_68_method_6_code 1 (some .int) ({ frames := 0, cells := 0, slots := 0, locals := 0 } : Room) [] #[(.ref a)] consts_1 h0 n0 [] [] (VV fun w h so => w = .int (Int32.ofNat bs.length) ∧ h = h0 ∧ so = []) := by
  refine Con.body (plainFor_of_name pn_java_lang_AbstractStringBuilder) hEW o1 all0 #[.val (.ref a)] (fun m => by first | (simp [entryFrame, mkF, argsToLocals, Value.category]; done) | rfl) ?_
  intro p e s m below meth c B hnm hret hlk G
  replace G := G.aloadN 1 d36_0 rfl rfl rfl
  replace G := G.getf 4 (host := "") (Or.inl (hw _ (List.mem_of_getElem? (i := 119) rfl))) Via.refl hS.2.2.2.1 d36_1 rfl
  exact G.retI hret hlk d36_4 [] all0 ⟨_, rfl, rfl, rfl, rfl⟩ (Nat.le_of_ble_eq_true rfl) (Nat.le_of_ble_eq_true rfl)
theorem d35_0 : decode jdk_67_method_93_code 0 = .ok (.aload_n 0, 1) := by decide +kernel
theorem d35_1 : decode jdk_67_method_93_code 1 = .ok (.invokespecial 343, 3) := by decide +kernel
theorem d35_4 : decode jdk_67_method_93_code 4 = .ok (.ireturn, 1) := by decide +kernel
set_option maxRecDepth 65536 in
set_option maxHeartbeats 40000000 in
theorem c_sbLen (l : Launch) (Z : State) (a0 : Array Value) (hw : ∀ d ∈ tables_1, d.before a0 Z = true) (hEW : EW Z a0 consts_1) (n0 : Nat) (c1 : Int32) (hc1 : ¬ c1 = 0) (S1 : Sta Z Z.heap "java/lang/String" "COMPACT_STRINGS" "Z" (.int c1)) (v2 : Value) (hv2 : v2.isRef = true) (S2 : Sta Z Z.heap "jdk/internal/util/Preconditions" "SIOOBE_FORMATTER" "Ljava/util/function/BiFunction;" v2) (a b : Addr) (cap : Nat) (bs : List Value) {h0 : Heap} (o1 : Old Z n0 h0) (hS : Sbd Z h0 a b cap bs) :
    Con Z a0 l (⟨"java/lang/StringBuilder", "length", "()I"⟩ : MethodName) jdk_67_method_93_code 1 (some .int) ({ frames := 1, cells := 0, slots := 0, locals := 12 } : Room) [] #[(.ref a)] consts_1 h0 n0 [] [] (VV fun w h so => w = .int (Int32.ofNat bs.length) ∧ h = h0 ∧ so = []) := by
  refine Con.body (plainFor_of_name pn_java_lang_StringBuilder) hEW o1 all0 #[.val (.ref a)] (fun m => by first | (simp [entryFrame, mkF, argsToLocals, Value.category]; done) | rfl) ?_
  intro p e s m below meth c B hnm hret hlk G
  replace G := G.aloadN 1 d35_0 rfl rfl rfl
  obtain ⟨vl, h_l, sol, G', Kl, Ql⟩ := G.callSup 4 (hw _ (List.mem_of_getElem? (i := 192) rfl)) (sameOf (hw _ (List.mem_of_getElem? (i := 188) rfl)) (nfVia (y := (⟨"java/lang/AbstractStringBuilder", "ensureCapacityInternal", "(I)V"⟩ : MethodName)) rfl (hw _ (List.mem_of_getElem? (i := 124) rfl)) (hw _ (List.mem_of_getElem? (i := 122) rfl))) (by decide)) (hw _ (List.mem_of_getElem? (i := 188) rfl)) (hw _ (List.mem_of_getElem? (i := 106) rfl)) (by decide) (hw _ (List.mem_of_getElem? (i := 91) rfl)) (hw _ (List.mem_of_getElem? (i := 193) rfl)) (Ins.self hS.1) [] [] rfl (c_asbLen l Z a0 hw hEW n0 c1 hc1 S1 v2 hv2 S2 a b cap bs G.old hS) (lenOf pd___I rfl) d35_1 rfl (Nat.le_of_ble_eq_true rfl) (Nat.le_of_ble_eq_true rfl) (Nat.le_of_ble_eq_true rfl) (Nat.le_of_ble_eq_true rfl) all0 all0 all0 rfl
  clear G; have G := G'; clear G'
  obtain ⟨wl, ql, rfl, el, rfl⟩ := Ql
  replace G := G.val ql
  subst el
  exact G.retI hret hlk d35_4 [] all0 ⟨_, rfl, rfl, rfl, rfl⟩ (Nat.le_of_ble_eq_true rfl) (Nat.le_of_ble_eq_true rfl)
theorem d29_0 : decode jdk_68_method_68_code 0 = .ok (.getstatic 18, 3) := by decide +kernel
theorem d29_3 : decode jdk_68_method_68_code 3 = .ok (.ifCond .eq 14, 3) := by decide +kernel
theorem d29_6 : decode jdk_68_method_68_code 6 = .ok (.aload_n 0, 1) := by decide +kernel
theorem d29_7 : decode jdk_68_method_68_code 7 = .ok (.getfield 22, 3) := by decide +kernel
theorem d29_10 : decode jdk_68_method_68_code 10 = .ok (.ifCond .ne 7, 3) := by decide +kernel
theorem d29_13 : decode jdk_68_method_68_code 13 = .ok (.iconst 1, 1) := by decide +kernel
theorem d29_14 : decode jdk_68_method_68_code 14 = .ok (.goto 4, 3) := by decide +kernel
theorem d29_17 : decode jdk_68_method_68_code 17 = .ok (.iconst 0, 1) := by decide +kernel
theorem d29_18 : decode jdk_68_method_68_code 18 = .ok (.ireturn, 1) := by decide +kernel
set_option maxRecDepth 65536 in
set_option maxHeartbeats 40000000 in
theorem c_isL1 (l : Launch) (Z : State) (a0 : Array Value) (hw : ∀ d ∈ tables_1, d.before a0 Z = true) (hEW : EW Z a0 consts_1) (n0 : Nat) (c1 : Int32) (hc1 : ¬ c1 = 0) (S1 : Sta Z Z.heap "java/lang/String" "COMPACT_STRINGS" "Z" (.int c1)) (v2 : Value) (hv2 : v2.isRef = true) (S2 : Sta Z Z.heap "jdk/internal/util/Preconditions" "SIOOBE_FORMATTER" "Ljava/util/function/BiFunction;" v2) (a b : Addr) (cap : Nat) (bs : List Value) {h0 : Heap} (o1 : Old Z n0 h0) (hS : Sbd Z h0 a b cap bs) :
    Con Z a0 l (⟨"java/lang/AbstractStringBuilder", "isLatin1", "()Z"⟩ : MethodName) jdk_68_method_68_code 1 (some .boolean) ({ frames := 0, cells := 0, slots := 0, locals := 0 } : Room) [] #[(.ref a)] consts_1 h0 n0 [] [] (VV fun w h so => w = .int 1 ∧ h = h0 ∧ so = []) := by
  refine Con.body (plainFor_of_name pn_java_lang_AbstractStringBuilder) hEW o1 all0 #[.val (.ref a)] (fun m => by first | (simp [entryFrame, mkF, argsToLocals, Value.category]; done) | rfl) ?_
  intro p e s m below meth c B hnm hret hlk G
  replace G := G.gets 3 (host := "") (Or.inl (hw _ (List.mem_of_getElem? (i := 94) rfl))) Via.refl (G.sta S1) d29_0 rfl
  replace G := G.ifF 6 d29_3 (XT.i0_eq_f hc1) rfl
  replace G := G.aloadN 7 d29_6 rfl rfl rfl
  replace G := G.getf 10 (host := "") (Or.inl (hw _ (List.mem_of_getElem? (i := 97) rfl))) Via.refl hS.2.2.1 d29_7 rfl
  replace G := G.ifF 13 d29_10 (XT.i0_ne_f rfl) rfl
  replace G := G.iconst 14 (1 : Int32) d29_13 rfl rfl
  replace G := G.goto 18 d29_14 (by decide) (by decide)
  exact G.retN hret (Or.inl rfl) hlk d29_18 [] all0 ⟨_, rfl, rfl, rfl, rfl⟩ (Nat.le_of_ble_eq_true rfl) (Nat.le_of_ble_eq_true rfl)
theorem d33_0 : decode jdk_42_method_150_code 0 = .ok (.aload_n 0, 1) := by decide +kernel
theorem d33_1 : decode jdk_42_method_150_code 1 = .ok (.invokespecial 1, 3) := by decide +kernel
theorem d33_4 : decode jdk_42_method_150_code 4 = .ok (.aload_n 1, 1) := by decide +kernel
theorem d33_5 : decode jdk_42_method_150_code 5 = .ok (.invokevirtual 552, 3) := by decide +kernel
theorem d33_8 : decode jdk_42_method_150_code 8 = .ok (.astore_n 3, 1) := by decide +kernel
theorem d33_9 : decode jdk_42_method_150_code 9 = .ok (.aload_n 1, 1) := by decide +kernel
theorem d33_10 : decode jdk_42_method_150_code 10 = .ok (.invokevirtual 549, 3) := by decide +kernel
theorem d33_13 : decode jdk_42_method_150_code 13 = .ok (.istore 4, 2) := by decide +kernel
theorem d33_15 : decode jdk_42_method_150_code 15 = .ok (.aload_n 1, 1) := by decide +kernel
theorem d33_16 : decode jdk_42_method_150_code 16 = .ok (.invokevirtual 1047, 3) := by decide +kernel
theorem d33_19 : decode jdk_42_method_150_code 19 = .ok (.ifCond .eq 22, 3) := by decide +kernel
theorem d33_22 : decode jdk_42_method_150_code 22 = .ok (.aload_n 0, 1) := by decide +kernel
theorem d33_23 : decode jdk_42_method_150_code 23 = .ok (.iconst 0, 1) := by decide +kernel
theorem d33_24 : decode jdk_42_method_150_code 24 = .ok (.putfield 15, 3) := by decide +kernel
theorem d33_27 : decode jdk_42_method_150_code 27 = .ok (.aload_n 0, 1) := by decide +kernel
theorem d33_28 : decode jdk_42_method_150_code 28 = .ok (.aload_n 3, 1) := by decide +kernel
theorem d33_29 : decode jdk_42_method_150_code 29 = .ok (.iconst 0, 1) := by decide +kernel
theorem d33_30 : decode jdk_42_method_150_code 30 = .ok (.iload 4, 2) := by decide +kernel
theorem d33_32 : decode jdk_42_method_150_code 32 = .ok (.invokestatic 54, 3) := by decide +kernel
theorem d33_35 : decode jdk_42_method_150_code 35 = .ok (.putfield 9, 3) := by decide +kernel
theorem d33_38 : decode jdk_42_method_150_code 38 = .ok (.goto 59, 3) := by decide +kernel
theorem d33_41 : decode jdk_42_method_150_code 41 = .ok (.getstatic 38, 3) := by decide +kernel
theorem d33_44 : decode jdk_42_method_150_code 44 = .ok (.ifCond .eq 35, 3) := by decide +kernel
theorem d33_47 : decode jdk_42_method_150_code 47 = .ok (.aload_n 1, 1) := by decide +kernel
theorem d33_48 : decode jdk_42_method_150_code 48 = .ok (.getfield 1048, 3) := by decide +kernel
theorem d33_51 : decode jdk_42_method_150_code 51 = .ok (.ifCond .eq 28, 3) := by decide +kernel
theorem d33_54 : decode jdk_42_method_150_code 54 = .ok (.aload_n 0, 1) := by decide +kernel
theorem d33_55 : decode jdk_42_method_150_code 55 = .ok (.aload_n 3, 1) := by decide +kernel
theorem d33_56 : decode jdk_42_method_150_code 56 = .ok (.iconst 0, 1) := by decide +kernel
theorem d33_57 : decode jdk_42_method_150_code 57 = .ok (.iload 4, 2) := by decide +kernel
theorem d33_59 : decode jdk_42_method_150_code 59 = .ok (.invokestatic 1051, 3) := by decide +kernel
theorem d33_62 : decode jdk_42_method_150_code 62 = .ok (.putfield 9, 3) := by decide +kernel
theorem d33_65 : decode jdk_42_method_150_code 65 = .ok (.aload_n 0, 1) := by decide +kernel
theorem d33_66 : decode jdk_42_method_150_code 66 = .ok (.aload_n 0, 1) := by decide +kernel
theorem d33_67 : decode jdk_42_method_150_code 67 = .ok (.getfield 9, 3) := by decide +kernel
theorem d33_70 : decode jdk_42_method_150_code 70 = .ok (.iload 4, 2) := by decide +kernel
theorem d33_72 : decode jdk_42_method_150_code 72 = .ok (.invokestatic 47, 3) := by decide +kernel
theorem d33_75 : decode jdk_42_method_150_code 75 = .ok (.putfield 15, 3) := by decide +kernel
theorem d33_78 : decode jdk_42_method_150_code 78 = .ok (.return_, 1) := by decide +kernel
theorem d33_79 : decode jdk_42_method_150_code 79 = .ok (.aload_n 0, 1) := by decide +kernel
theorem d33_80 : decode jdk_42_method_150_code 80 = .ok (.iconst 1, 1) := by decide +kernel
theorem d33_81 : decode jdk_42_method_150_code 81 = .ok (.putfield 15, 3) := by decide +kernel
theorem d33_84 : decode jdk_42_method_150_code 84 = .ok (.aload_n 0, 1) := by decide +kernel
theorem d33_85 : decode jdk_42_method_150_code 85 = .ok (.aload_n 3, 1) := by decide +kernel
theorem d33_86 : decode jdk_42_method_150_code 86 = .ok (.iconst 0, 1) := by decide +kernel
theorem d33_87 : decode jdk_42_method_150_code 87 = .ok (.iload 4, 2) := by decide +kernel
theorem d33_89 : decode jdk_42_method_150_code 89 = .ok (.iconst 1, 1) := by decide +kernel
theorem d33_90 : decode jdk_42_method_150_code 90 = .ok (.ishl, 1) := by decide +kernel
theorem d33_91 : decode jdk_42_method_150_code 91 = .ok (.invokestatic 54, 3) := by decide +kernel
theorem d33_94 : decode jdk_42_method_150_code 94 = .ok (.putfield 9, 3) := by decide +kernel
theorem d33_97 : decode jdk_42_method_150_code 97 = .ok (.return_, 1) := by decide +kernel
set_option maxRecDepth 65536 in
set_option maxHeartbeats 40000000 in
theorem c_strASB (l : Launch) (Z : State) (a0 : Array Value) (hw : ∀ d ∈ tables_1, d.before a0 Z = true) (hEW : EW Z a0 consts_1) (n0 : Nat) (c1 : Int32) (hc1 : ¬ c1 = 0) (S1 : Sta Z Z.heap "java/lang/String" "COMPACT_STRINGS" "Z" (.int c1)) (v2 : Value) (hv2 : v2.isRef = true) (S2 : Sta Z Z.heap "jdk/internal/util/Preconditions" "SIOOBE_FORMATTER" "Ljava/util/function/BiFunction;" v2) (s2 a b : Addr) (cap : Nat) (bs : List Value) {h0 : Heap} (o1 : Old Z n0 h0) (ge_s2 : n0 ≤ s2) (hlt : bs.length < cap) (hcap : cap < 2147483648) (hmax : bs.length ≤ 64) (Xs : Exa Z h0 s2 "java/lang/String") (Fv : Fld Z h0 s2 "java/lang/String" "value" "[B" .null) (Fc : Fld Z h0 s2 "java/lang/String" "coder" "B" (.int 0)) (hS : Sbd Z h0 a b cap bs) :
    Con Z a0 l (⟨"java/lang/String", "<init>", "(Ljava/lang/AbstractStringBuilder;Ljava/lang/Void;)V"⟩ : MethodName) jdk_42_method_150_code 5 (none) ({ frames := 3, cells := 1, slots := 64, locals := 72 } : Room) [] #[(.ref s2), (.ref a), .null] consts_1 h0 n0 [s2] [s2] (V0 fun h so => ∃ n, Str Z h s2 n bs ∧ h0.size ≤ n ∧ so = [n]) := by
  refine Con.body (plainFor_of_name pn_java_lang_String) hEW o1 (allS ge_s2 all0) #[.val (.ref s2), .val (.ref a), .val .null, .unset, .unset] (fun m => by first | (simp [entryFrame, mkF, argsToLocals, Value.category]; done) | rfl) ?_
  intro p e s m below meth c B hnm hret hlk G
  replace G := G.aloadN 1 d33_0 rfl rfl rfl
  replace G := G.initO 4 (hw _ (List.mem_of_getElem? (i := 11) rfl)) (hw _ (List.mem_of_getElem? (i := 12) rfl)) (hw _ (List.mem_of_getElem? (i := 13) rfl)) d33_1 rfl (Nat.le_of_ble_eq_true rfl) (Nat.le_of_ble_eq_true rfl) rfl
  replace G := G.aloadN 5 d33_4 rfl rfl rfl
  obtain ⟨vy1, h_1, soy1, G', Ky1, Qy1⟩ := G.callV 8 (hw _ (List.mem_of_getElem? (i := 181) rfl)) (hw _ (List.mem_of_getElem? (i := 182) rfl)) (nfSel (hw _ (List.mem_of_getElem? (i := 184) rfl))) (hw _ (List.mem_of_getElem? (i := 184) rfl)) (hw _ (List.mem_of_getElem? (i := 183) rfl)) (hw _ (List.mem_of_getElem? (i := 91) rfl)) (hw _ (List.mem_of_getElem? (i := 185) rfl)) hS.1 (by decide) [] [] rfl (c_getVal l Z a0 hw hEW n0 c1 hc1 S1 v2 hv2 S2 a b cap bs G.old hS) (lenOf pd____B rfl) d33_5 rfl (Nat.le_of_ble_eq_true rfl) (Nat.le_of_ble_eq_true rfl) (Nat.le_of_ble_eq_true rfl) (Nat.le_of_ble_eq_true rfl) all0 all0 all0 rfl
  clear G; have G := G'; clear G'
  obtain ⟨wy1, qy1, rfl, ey1, rfl⟩ := Qy1
  replace G := G.val qy1
  subst ey1
  replace G := G.astoreN 9 #[.val (.ref s2), .val (.ref a), .val .null, .val (.ref b), .unset] d33_8 rfl rfl rfl
  replace G := G.aloadN 10 d33_9 rfl rfl rfl
  obtain ⟨vy2, h_2, soy2, G', Ky2, Qy2⟩ := G.callV 13 (hw _ (List.mem_of_getElem? (i := 186) rfl)) (hw _ (List.mem_of_getElem? (i := 187) rfl)) (nfVia (y := (⟨"java/lang/AbstractStringBuilder", "ensureCapacityInternal", "(I)V"⟩ : MethodName)) rfl (hw _ (List.mem_of_getElem? (i := 124) rfl)) (hw _ (List.mem_of_getElem? (i := 122) rfl))) (hw _ (List.mem_of_getElem? (i := 189) rfl)) (hw _ (List.mem_of_getElem? (i := 190) rfl)) (hw _ (List.mem_of_getElem? (i := 83) rfl)) (hw _ (List.mem_of_getElem? (i := 191) rfl)) hS.1 (by decide) [] [] rfl (c_sbLen l Z a0 hw hEW n0 c1 hc1 S1 v2 hv2 S2 a b cap bs G.old hS) (lenOf pd___I rfl) d33_10 rfl (Nat.le_of_ble_eq_true rfl) (Nat.le_of_ble_eq_true rfl) (Nat.le_of_ble_eq_true rfl) (Nat.le_of_ble_eq_true rfl) all0 all0 all0 rfl
  clear G; have G := G'; clear G'
  obtain ⟨wy2, qy2, rfl, ey2, rfl⟩ := Qy2
  replace G := G.val qy2
  subst ey2
  replace G := G.istore 15 #[.val (.ref s2), .val (.ref a), .val .null, .val (.ref b), .val (.int (Int32.ofNat bs.length))] d33_13 rfl rfl
  replace G := G.aloadN 16 d33_15 rfl rfl rfl
  obtain ⟨vy3, h_3, soy3, G', Ky3, Qy3⟩ := G.callV 19 (hw _ (List.mem_of_getElem? (i := 194) rfl)) (hw _ (List.mem_of_getElem? (i := 161) rfl)) (nfSel (hw _ (List.mem_of_getElem? (i := 163) rfl))) (hw _ (List.mem_of_getElem? (i := 163) rfl)) (hw _ (List.mem_of_getElem? (i := 162) rfl)) (hw _ (List.mem_of_getElem? (i := 91) rfl)) (hw _ (List.mem_of_getElem? (i := 164) rfl)) hS.1 (by decide) [] [] rfl (c_isL1 l Z a0 hw hEW n0 c1 hc1 S1 v2 hv2 S2 a b cap bs G.old hS) (lenOf pd___Z rfl) d33_16 rfl (Nat.le_of_ble_eq_true rfl) (Nat.le_of_ble_eq_true rfl) (Nat.le_of_ble_eq_true rfl) (Nat.le_of_ble_eq_true rfl) all0 all0 all0 rfl
  clear G; have G := G'; clear G'
  obtain ⟨wy3, qy3, rfl, ey3, rfl⟩ := Qy3
  replace G := G.val qy3
  subst ey3
  replace G := G.ifF 22 d33_19 (XT.i0_eq_f (by decide)) rfl
  replace G := G.aloadN 23 d33_22 rfl rfl rfl
  replace G := G.iconst 24 (0 : Int32) d33_23 rfl rfl
  have nas : s2 ≠ a := fun q => by subst q; exact absurd rfl (ne_exa Xs hS.1 (by decide))
  have nbs : s2 ≠ b := by obtain ⟨-, -, -, -, kb, Ab⟩ := hS; exact ne_arr Xs (hw _ (List.mem_of_getElem? (i := 1) rfl)) Ab.choose_spec.1
  obtain ⟨h1, G', Wc, Fc, Kc⟩ := G.putf 27 (host := "") (Or.inl (hw _ (List.mem_of_getElem? (i := 26) rfl))) Via.refl Fc Xs (Or.inr ⟨(hw _ (List.mem_of_getElem? (i := 27) rfl)), rfl, hnm⟩) (hw _ (List.mem_of_getElem? (i := 1) rfl)) (ty := .byte) (by decide) rfl rfl (Or.inl (List.mem_of_getElem? (i := 0) rfl)) (List.mem_of_getElem? (i := 0) rfl) d33_24 rfl
  clear G; have G := G'; clear G'
  replace Fv := Fv.other Wc (Or.inr (slot_ne (Or.inr (hw _ (List.mem_of_getElem? (i := 29) rfl))) (Or.inr (hw _ (List.mem_of_getElem? (i := 27) rfl))) (by decide) (t := (.array .byte)) (t' := .byte) (by decide) (by decide)))
  replace Xs := Xs.wr Wc; replace hS := hS.keep Kc (ninS nas.symm nin0) (ninS nbs.symm nin0)
  obtain ⟨kb, Ab⟩ := hS.2.2.2.2
  replace G := G.aloadN 28 d33_27 rfl rfl rfl
  replace G := G.aloadN 29 d33_28 rfl rfl rfl
  replace G := G.iconst 30 (0 : Int32) d33_29 rfl rfl
  replace G := G.iload 32 d33_30 rfl rfl
  obtain ⟨vr, h2, sor, G', Kr, Qr⟩ := G.callS 35 (hw _ (List.mem_of_getElem? (i := 195) rfl)) (hw _ (List.mem_of_getElem? (i := 196) rfl)) (hw _ (List.mem_of_getElem? (i := 197) rfl)) (hw _ (List.mem_of_getElem? (i := 198) rfl)) (by decide) [(.ref b), (.int (0 : Int32)), (.int (Int32.ofNat bs.length))] [(.ref s2)] rfl (c_cor l Z a0 hw hEW n0 c1 hc1 S1 v2 hv2 S2 b kb cap bs G.old hlt hcap hmax Ab) (lenOf pd___BII__B rfl) d33_32 rfl (Nat.le_of_ble_eq_true rfl) (Nat.le_of_ble_eq_true rfl) (Nat.le_of_ble_eq_true rfl) (Nat.le_of_ble_eq_true rfl) all0 all0 all0 rfl
  clear G; have G := G'; clear G'
  obtain ⟨wr, qr, n, rfl, ⟨kn, An⟩, sn, rfl⟩ := Qr
  replace G := G.val qr
  have nsn : s2 ≠ n := (ne_ge Xs.lt sn).symm
  replace Xs := Xs.keep Kr; replace Fv := Fv.keep Kr nin0; replace Fc := Fc.keep Kr nin0
  obtain ⟨h3, G', Wv, Fv, Kv⟩ := G.putf 38 (host := "") (Or.inl (hw _ (List.mem_of_getElem? (i := 28) rfl))) Via.refl Fv Xs (Or.inr ⟨(hw _ (List.mem_of_getElem? (i := 29) rfl)), rfl, hnm⟩) (hw _ (List.mem_of_getElem? (i := 1) rfl)) (ty := (.array .byte)) (by decide) rfl rfl (Or.inl (List.mem_of_getElem? (i := 0) rfl)) (List.mem_of_getElem? (i := 1) rfl) d33_35 rfl
  clear G; have G := G'; clear G'
  replace Fc := Fc.other Wv (Or.inr (slot_ne (Or.inr (hw _ (List.mem_of_getElem? (i := 27) rfl))) (Or.inr (hw _ (List.mem_of_getElem? (i := 29) rfl))) (by decide) (t := .byte) (t' := (.array .byte)) (by decide) (by decide)))
  replace Xs := Xs.wr Wv; replace An := An.keep Kv (ninS nsn.symm nin0)
  replace G := G.goto 97 d33_38 (by decide) (by decide)
  exact G.retV hret hlk d33_97 [n] (allS (List.mem_of_getElem? (i := 0) rfl) all0) ⟨rfl, n, ⟨Xs, Fc, Fv, kn, An⟩, Nat.le_trans Kc.1 sn, rfl⟩ (Nat.le_of_ble_eq_true rfl) (Nat.le_of_ble_eq_true rfl)
theorem d32_0 : decode jdk_42_method_53_code 0 = .ok (.aload_n 0, 1) := by decide +kernel
theorem d32_1 : decode jdk_42_method_53_code 1 = .ok (.aload_n 1, 1) := by decide +kernel
theorem d32_2 : decode jdk_42_method_53_code 2 = .ok (.aconst_null, 1) := by decide +kernel
theorem d32_3 : decode jdk_42_method_53_code 3 = .ok (.invokespecial 489, 3) := by decide +kernel
theorem d32_6 : decode jdk_42_method_53_code 6 = .ok (.return_, 1) := by decide +kernel
set_option maxRecDepth 65536 in
set_option maxHeartbeats 40000000 in
theorem c_strSB (l : Launch) (Z : State) (a0 : Array Value) (hw : ∀ d ∈ tables_1, d.before a0 Z = true) (hEW : EW Z a0 consts_1) (n0 : Nat) (c1 : Int32) (hc1 : ¬ c1 = 0) (S1 : Sta Z Z.heap "java/lang/String" "COMPACT_STRINGS" "Z" (.int c1)) (v2 : Value) (hv2 : v2.isRef = true) (S2 : Sta Z Z.heap "jdk/internal/util/Preconditions" "SIOOBE_FORMATTER" "Ljava/util/function/BiFunction;" v2) (s2 a b : Addr) (cap : Nat) (bs : List Value) {h0 : Heap} (o1 : Old Z n0 h0) (ge_s2 : n0 ≤ s2) (hlt : bs.length < cap) (hcap : cap < 2147483648) (hmax : bs.length ≤ 64) (Xs : Exa Z h0 s2 "java/lang/String") (Fv : Fld Z h0 s2 "java/lang/String" "value" "[B" .null) (Fc : Fld Z h0 s2 "java/lang/String" "coder" "B" (.int 0)) (hS : Sbd Z h0 a b cap bs) :
    Con Z a0 l (⟨"java/lang/String", "<init>", "(Ljava/lang/StringBuilder;)V"⟩ : MethodName) jdk_42_method_53_code 2 (none) ({ frames := 4, cells := 1, slots := 64, locals := 88 } : Room) [] #[(.ref s2), (.ref a)] consts_1 h0 n0 [s2] [s2] (V0 fun h so => ∃ n, Str Z h s2 n bs ∧ h0.size ≤ n ∧ so = [n]) := by
  refine Con.body (plainFor_of_name pn_java_lang_String) hEW o1 (allS ge_s2 all0) #[.val (.ref s2), .val (.ref a)] (fun m => by first | (simp [entryFrame, mkF, argsToLocals, Value.category]; done) | rfl) ?_
  intro p e s m below meth c B hnm hret hlk G
  replace G := G.aloadN 1 d32_0 rfl rfl rfl
  replace G := G.aloadN 2 d32_1 rfl rfl rfl
  replace G := G.aconstNull 3 d32_2 rfl
  obtain ⟨vi, h1, soi, G', Ki, Qi⟩ := G.callI 6 rfl rfl (hw _ (List.mem_of_getElem? (i := 178) rfl)) (hw _ (List.mem_of_getElem? (i := 179) rfl)) (hw _ (List.mem_of_getElem? (i := 2) rfl)) (hw _ (List.mem_of_getElem? (i := 180) rfl)) (by decide) [(.ref a), .null] [] rfl (c_strASB l Z a0 hw hEW n0 c1 hc1 S1 v2 hv2 S2 s2 a b cap bs G.old ge_s2 hlt hcap hmax Xs Fv Fc hS) (lenOf pd__Ljava_lang_AbstractStringBuilder_Ljava_lang_Void__V rfl) d32_3 rfl (Nat.le_of_ble_eq_true rfl) (Nat.le_of_ble_eq_true rfl) (Nat.le_of_ble_eq_true rfl) (Nat.le_of_ble_eq_true rfl) (allS (Or.inl (List.mem_of_getElem? (i := 0) rfl)) all0) (allS (List.mem_of_getElem? (i := 0) rfl) all0) (allS (List.mem_of_getElem? (i := 0) rfl) all0) rfl
  clear G; have G := G'; clear G'
  obtain ⟨qi, n, hT, sn, rfl⟩ := Qi
  replace G := G.nov qi
  exact G.retV hret hlk d32_6 [n] (allS (List.mem_of_getElem? (i := 0) rfl) all0) ⟨rfl, n, hT, sn, rfl⟩ (Nat.le_of_ble_eq_true rfl) (Nat.le_of_ble_eq_true rfl)
theorem d31_0 : decode jdk_67_method_42_code 0 = .ok (.new 18, 3) := by decide +kernel
theorem d31_3 : decode jdk_67_method_42_code 3 = .ok (.dup, 1) := by decide +kernel
theorem d31_4 : decode jdk_67_method_42_code 4 = .ok (.aload_n 0, 1) := by decide +kernel
theorem d31_5 : decode jdk_67_method_42_code 5 = .ok (.invokespecial 137, 3) := by decide +kernel
theorem d31_8 : decode jdk_67_method_42_code 8 = .ok (.areturn, 1) := by decide +kernel
set_option maxRecDepth 65536 in
set_option maxHeartbeats 40000000 in
theorem c_toStr (l : Launch) (Z : State) (a0 : Array Value) (hw : ∀ d ∈ tables_1, d.before a0 Z = true) (hEW : EW Z a0 consts_1) (n0 : Nat) (c1 : Int32) (hc1 : ¬ c1 = 0) (S1 : Sta Z Z.heap "java/lang/String" "COMPACT_STRINGS" "Z" (.int c1)) (v2 : Value) (hv2 : v2.isRef = true) (S2 : Sta Z Z.heap "jdk/internal/util/Preconditions" "SIOOBE_FORMATTER" "Ljava/util/function/BiFunction;" v2) (a b : Addr) (cap : Nat) (bs : List Value) {h0 : Heap} (o1 : Old Z n0 h0) (hlt : bs.length < cap) (hcap : cap < 2147483648) (hmax : bs.length ≤ 64) (hS : Sbd Z h0 a b cap bs) :
    Con Z a0 l (⟨"java/lang/StringBuilder", "toString", "()Ljava/lang/String;"⟩ : MethodName) jdk_67_method_42_code 1 (some (.object "java/lang/String")) ({ frames := 5, cells := 2, slots := 68, locals := 102 } : Room) [] #[(.ref a)] consts_1 h0 n0 [] [] (VV fun w h so => ∃ s2 n, w = .ref s2 ∧ Str Z h s2 n bs ∧ h0.size ≤ s2 ∧ h0.size ≤ n ∧ so = [n, s2]) := by
  refine Con.body (plainFor_of_name pn_java_lang_StringBuilder) hEW o1 all0 #[.val (.ref a)] (fun m => by first | (simp [entryFrame, mkF, argsToLocals, Value.category]; done) | rfl) ?_
  intro p e s m below meth c B hnm hret hlk G
  obtain ⟨s2, h1, G', gs2, ss2, Es2, Xs2, Ds2, Us2⟩ := G.new 3 (hw _ (List.mem_of_getElem? (i := 174) rfl)) (hw _ (List.mem_of_getElem? (i := 1) rfl)) (hw _ (List.mem_of_getElem? (i := 2) rfl)) d31_0 rfl (Nat.le_of_ble_eq_true rfl) (Nat.le_of_ble_eq_true rfl)
  clear G; have G := G'; clear G'
  have Fv := Ds2 (Or.inr (hw _ (List.mem_of_getElem? (i := 29) rfl))) (ty := .array .byte) (by decide)
  have Fc := Ds2 (Or.inr (hw _ (List.mem_of_getElem? (i := 27) rfl))) (ty := .byte) (by decide)
  replace hS := hS.ext Es2
  replace G := G.dup 4 d31_3 rfl rfl
  replace G := G.aloadN 5 d31_4 rfl rfl rfl
  obtain ⟨vi, h2, soi, G', Ki, Qi⟩ := G.callI 8 rfl rfl (hw _ (List.mem_of_getElem? (i := 175) rfl)) (hw _ (List.mem_of_getElem? (i := 176) rfl)) (hw _ (List.mem_of_getElem? (i := 2) rfl)) (hw _ (List.mem_of_getElem? (i := 177) rfl)) (by decide) [(.ref a)] [(.ref s2)] rfl (c_strSB l Z a0 hw hEW n0 c1 hc1 S1 v2 hv2 S2 s2 a b cap bs G.old (Nat.le_trans (G.nw (Or.inr ss2)) (Nat.le_refl _)) hlt hcap hmax Xs2 Fv Fc hS) (lenOf pd__Ljava_lang_StringBuilder__V rfl) d31_5 rfl (Nat.le_of_ble_eq_true rfl) (Nat.le_of_ble_eq_true rfl) (Nat.le_of_ble_eq_true rfl) (Nat.le_of_ble_eq_true rfl) (allS (Or.inr ss2) all0) (allS (List.mem_of_getElem? (i := 0) rfl) all0) (allS (List.mem_of_getElem? (i := 0) rfl) all0) rfl
  clear G; have G := G'; clear G'
  obtain ⟨qi, n, hT, sn, rfl⟩ := Qi
  replace G := G.nov qi
  exact G.retA hret rfl rfl hlk d31_8 [n, s2] (allS (List.mem_of_getElem? (i := 0) rfl) (allS (List.mem_of_getElem? (i := 1) rfl) all0)) ⟨_, rfl, s2, n, rfl, hT, ss2, Nat.le_trans Es2.1 sn, rfl⟩ (Nat.le_of_ble_eq_true rfl) (Nat.le_of_ble_eq_true rfl)
theorem d46_0 : decode jdk_41_method_11_code 0 = .ok (.iload_n 0, 1) := by decide +kernel
theorem d46_1 : decode jdk_41_method_11_code 1 = .ok (.ifCond .lt 8, 3) := by decide +kernel
theorem d46_4 : decode jdk_41_method_11_code 4 = .ok (.iload_n 0, 1) := by decide +kernel
theorem d46_5 : decode jdk_41_method_11_code 5 = .ok (.iload_n 1, 1) := by decide +kernel
theorem d46_6 : decode jdk_41_method_11_code 6 = .ok (.if_icmp .lt 10, 3) := by decide +kernel
theorem d46_9 : decode jdk_41_method_11_code 9 = .ok (.aload_n 2, 1) := by decide +kernel
theorem d46_10 : decode jdk_41_method_11_code 10 = .ok (.iload_n 0, 1) := by decide +kernel
theorem d46_11 : decode jdk_41_method_11_code 11 = .ok (.iload_n 1, 1) := by decide +kernel
theorem d46_12 : decode jdk_41_method_11_code 12 = .ok (.invokestatic 95, 3) := by decide +kernel
theorem d46_15 : decode jdk_41_method_11_code 15 = .ok (.athrow, 1) := by decide +kernel
theorem d46_16 : decode jdk_41_method_11_code 16 = .ok (.iload_n 0, 1) := by decide +kernel
theorem d46_17 : decode jdk_41_method_11_code 17 = .ok (.ireturn, 1) := by decide +kernel
set_option maxRecDepth 65536 in
set_option maxHeartbeats 40000000 in
theorem c_pci (l : Launch) (Z : State) (a0 : Array Value) (hw : ∀ d ∈ tables_1, d.before a0 Z = true) (hEW : EW Z a0 consts_1) (n0 : Nat) (c1 : Int32) (hc1 : ¬ c1 = 0) (S1 : Sta Z Z.heap "java/lang/String" "COMPACT_STRINGS" "Z" (.int c1)) (v2 : Value) (hv2 : v2.isRef = true) (S2 : Sta Z Z.heap "jdk/internal/util/Preconditions" "SIOOBE_FORMATTER" "Ljava/util/function/BiFunction;" v2) (i n : Int32) {h0 : Heap} (o1 : Old Z n0 h0) (h1 : ¬ i < 0) (h2 : i < n) :
    Con Z a0 l (⟨"jdk/internal/util/Preconditions", "checkIndex", "(IILjava/util/function/BiFunction;)I"⟩ : MethodName) jdk_41_method_11_code 3 (some .int) ({ frames := 0, cells := 0, slots := 0, locals := 0 } : Room) [] #[(.int i), (.int n), v2] consts_1 h0 n0 [] [] (VV fun w h so => w = .int i ∧ h = h0 ∧ so = []) := by
  refine Con.body (plainFor_of_name pn_jdk_internal_util_Preconditions) hEW o1 all0 #[.val (.int i), .val (.int n), .val v2] (fun m => by rcases XT.refc hv2 with rfl | ⟨r, rfl⟩ <;> rfl) ?_
  intro p e s m below meth c B hnm hret hlk G
  replace G := G.iloadN 1 d46_0 rfl rfl
  replace G := G.ifF 4 d46_1 (XT.i0_lt_f h1) rfl
  replace G := G.iloadN 5 d46_4 rfl rfl
  replace G := G.iloadN 6 d46_5 rfl rfl
  replace G := G.icmpT 16 d46_6 (XT.ii_lt_t h2) (by decide) (by decide)
  replace G := G.iloadN 17 d46_16 rfl rfl
  exact G.retI hret hlk d46_17 [] all0 ⟨_, rfl, rfl, rfl, rfl⟩ (Nat.le_of_ble_eq_true rfl) (Nat.le_of_ble_eq_true rfl)
theorem d45_0 : decode jdk_42_method_155_code 0 = .ok (.iload_n 0, 1) := by decide +kernel
theorem d45_1 : decode jdk_42_method_155_code 1 = .ok (.iload_n 1, 1) := by decide +kernel
theorem d45_2 : decode jdk_42_method_155_code 2 = .ok (.getstatic 1053, 3) := by decide +kernel
theorem d45_5 : decode jdk_42_method_155_code 5 = .ok (.invokestatic 1059, 3) := by decide +kernel
theorem d45_8 : decode jdk_42_method_155_code 8 = .ok (.pop, 1) := by decide +kernel
theorem d45_9 : decode jdk_42_method_155_code 9 = .ok (.return_, 1) := by decide +kernel
set_option maxRecDepth 65536 in
set_option maxHeartbeats 40000000 in
theorem c_chkIdx (l : Launch) (Z : State) (a0 : Array Value) (hw : ∀ d ∈ tables_1, d.before a0 Z = true) (hEW : EW Z a0 consts_1) (n0 : Nat) (c1 : Int32) (hc1 : ¬ c1 = 0) (S1 : Sta Z Z.heap "java/lang/String" "COMPACT_STRINGS" "Z" (.int c1)) (v2 : Value) (hv2 : v2.isRef = true) (S2 : Sta Z Z.heap "jdk/internal/util/Preconditions" "SIOOBE_FORMATTER" "Ljava/util/function/BiFunction;" v2) (i n : Int32) {h0 : Heap} (o1 : Old Z n0 h0) (h1 : ¬ i < 0) (h2 : i < n) :
    Con Z a0 l (⟨"java/lang/String", "checkIndex", "(II)V"⟩ : MethodName) jdk_42_method_155_code 2 (none) ({ frames := 1, cells := 0, slots := 0, locals := 14 } : Room) [] #[(.int i), (.int n)] consts_1 h0 n0 [] [] (V0 fun h so => h = h0 ∧ so = []) := by
  refine Con.body (plainFor_of_name pn_java_lang_String) hEW o1 all0 #[.val (.int i), .val (.int n)] (fun m => by first | (simp [entryFrame, mkF, argsToLocals, Value.category]; done) | rfl) ?_
  intro p e s m below meth c B hnm hret hlk G
  replace G := G.iloadN 1 d45_0 rfl rfl
  replace G := G.iloadN 2 d45_1 rfl rfl
  replace G := G.gets 5 (host := "") (Or.inl (hw _ (List.mem_of_getElem? (i := 231) rfl))) Via.refl (G.sta S2) d45_2 rfl
  obtain ⟨vp, h_p, sop, G', Kp, Qp⟩ := G.callS 8 (hw _ (List.mem_of_getElem? (i := 233) rfl)) (hw _ (List.mem_of_getElem? (i := 234) rfl)) (hw _ (List.mem_of_getElem? (i := 232) rfl)) (hw _ (List.mem_of_getElem? (i := 235) rfl)) (by decide) [(.int i), (.int n), v2] [] rfl (c_pci l Z a0 hw hEW n0 c1 hc1 S1 v2 hv2 S2 i n G.old h1 h2) (lenOf pd__IILjava_util_function_BiFunction__I rfl) d45_5 rfl (Nat.le_of_ble_eq_true rfl) (Nat.le_of_ble_eq_true rfl) (Nat.le_of_ble_eq_true rfl) (Nat.le_of_ble_eq_true rfl) all0 all0 all0 rfl
  clear G; have G := G'; clear G'
  obtain ⟨wp, qp, rfl, ep, rfl⟩ := Qp
  replace G := G.val qp
  subst ep
  replace G := G.pop 9 d45_8 rfl rfl
  exact G.retV hret hlk d45_9 [] all0 ⟨rfl, rfl, rfl⟩ (Nat.le_of_ble_eq_true rfl) (Nat.le_of_ble_eq_true rfl)
theorem d44_0 : decode jdk_43_method_2_code 0 = .ok (.iload_n 1, 1) := by decide +kernel
theorem d44_1 : decode jdk_43_method_2_code 1 = .ok (.aload_n 0, 1) := by decide +kernel
theorem d44_2 : decode jdk_43_method_2_code 2 = .ok (.arraylength, 1) := by decide +kernel
theorem d44_3 : decode jdk_43_method_2_code 3 = .ok (.invokestatic 9, 3) := by decide +kernel
theorem d44_6 : decode jdk_43_method_2_code 6 = .ok (.aload_n 0, 1) := by decide +kernel
theorem d44_7 : decode jdk_43_method_2_code 7 = .ok (.iload_n 1, 1) := by decide +kernel
theorem d44_8 : decode jdk_43_method_2_code 8 = .ok (.baload, 1) := by decide +kernel
theorem d44_9 : decode jdk_43_method_2_code 9 = .ok (.sipush 255, 3) := by decide +kernel
theorem d44_12 : decode jdk_43_method_2_code 12 = .ok (.iand, 1) := by decide +kernel
theorem d44_13 : decode jdk_43_method_2_code 13 = .ok (.i2c, 1) := by decide +kernel
theorem d44_14 : decode jdk_43_method_2_code 14 = .ok (.ireturn, 1) := by decide +kernel
set_option maxRecDepth 65536 in
set_option maxHeartbeats 40000000 in
theorem c_l1char (l : Launch) (Z : State) (a0 : Array Value) (hw : ∀ d ∈ tables_1, d.before a0 Z = true) (hEW : EW Z a0 consts_1) (n0 : Nat) (c1 : Int32) (hc1 : ¬ c1 = 0) (S1 : Sta Z Z.heap "java/lang/String" "COMPACT_STRINGS" "Z" (.int c1)) (v2 : Value) (hv2 : v2.isRef = true) (S2 : Sta Z Z.heap "jdk/internal/util/Preconditions" "SIOOBE_FORMATTER" "Ljava/util/function/BiFunction;" v2) (b : Addr) (kb : ClassId) (bs : List Value) (i : Nat) (x : Int32) {h0 : Heap} (o1 : Old Z n0 h0) (hi : i < bs.length) (hn : bs.length < 2147483648) (hv : bs.getD i (.int 0) = .int x) (Ab : Arv Z h0 b kb .byte (Int32.ofNat bs.length) bs (.int 0)) :
    Con Z a0 l (⟨"java/lang/StringLatin1", "charAt", "([BI)C"⟩ : MethodName) jdk_43_method_2_code 2 (some .char) ({ frames := 2, cells := 0, slots := 0, locals := 27 } : Room) [] #[(.ref b), (.int (Int32.ofNat i))] consts_1 h0 n0 [] [] (VV fun w h so => w = .int (x &&& 255) ∧ h = h0 ∧ so = []) := by
  refine Con.body (plainFor_of_name pn_java_lang_StringLatin1) hEW o1 all0 #[.val (.ref b), .val (.int (Int32.ofNat i))] (fun m => by first | (simp [entryFrame, mkF, argsToLocals, Value.category]; done) | rfl) ?_
  intro p e s m below meth c B hnm hret hlk G
  replace G := G.iloadN 1 d44_0 rfl rfl
  replace G := G.aloadN 2 d44_1 rfl rfl rfl
  replace G := G.alen 3 Ab d44_2 rfl
  obtain ⟨vc, h_c, soc, G', Kc, Qc⟩ := G.callS 6 (hw _ (List.mem_of_getElem? (i := 228) rfl)) (hw _ (List.mem_of_getElem? (i := 229) rfl)) (hw _ (List.mem_of_getElem? (i := 2) rfl)) (hw _ (List.mem_of_getElem? (i := 230) rfl)) (by decide) [(.int (Int32.ofNat i)), (.int (Int32.ofNat bs.length))] [] rfl (c_chkIdx l Z a0 hw hEW n0 c1 hc1 S1 v2 hv2 S2 (Int32.ofNat i) (Int32.ofNat bs.length) G.old (ofn_nn (by omega)) (ofn_lt hi hn)) (lenOf pd__II_V rfl) d44_3 rfl (Nat.le_of_ble_eq_true rfl) (Nat.le_of_ble_eq_true rfl) (Nat.le_of_ble_eq_true rfl) (Nat.le_of_ble_eq_true rfl) all0 all0 all0 rfl
  clear G; have G := G'; clear G'
  obtain ⟨qc, ec, rfl⟩ := Qc
  replace G := G.nov qc
  subst ec
  replace G := G.aloadN 7 d44_6 rfl rfl rfl
  replace G := G.iloadN 8 d44_7 rfl rfl
  replace G := G.baload 9 (v := (.int x)) Ab ⟨ofn_nn (by omega), ofn_lt hi hn⟩ (by rw [ofn_nat (by omega)]; exact hv) d44_8 rfl
  replace G := G.sipush 12 (255 : Int32) d44_9 (by decide) rfl
  replace G := G.iand 13 d44_12 rfl
  replace G := G.i2c 14 d44_13 rfl
  replace G := G.top (y := (.int (x &&& 255))) (congrArg Value.int (i2c_mask x))
  exact G.retN hret (Or.inr (Or.inr (Or.inl rfl))) hlk d44_14 [] all0 ⟨_, rfl, congrArg Value.int (i2c_mask x), rfl, rfl⟩ (Nat.le_of_ble_eq_true rfl) (Nat.le_of_ble_eq_true rfl)
theorem d43_0 : decode jdk_42_method_154_code 0 = .ok (.getstatic 38, 3) := by decide +kernel
theorem d43_3 : decode jdk_42_method_154_code 3 = .ok (.ifCond .eq 14, 3) := by decide +kernel
theorem d43_6 : decode jdk_42_method_154_code 6 = .ok (.aload_n 0, 1) := by decide +kernel
theorem d43_7 : decode jdk_42_method_154_code 7 = .ok (.getfield 15, 3) := by decide +kernel
theorem d43_10 : decode jdk_42_method_154_code 10 = .ok (.ifCond .ne 7, 3) := by decide +kernel
theorem d43_13 : decode jdk_42_method_154_code 13 = .ok (.iconst 1, 1) := by decide +kernel
theorem d43_14 : decode jdk_42_method_154_code 14 = .ok (.goto 4, 3) := by decide +kernel
theorem d43_17 : decode jdk_42_method_154_code 17 = .ok (.iconst 0, 1) := by decide +kernel
theorem d43_18 : decode jdk_42_method_154_code 18 = .ok (.ireturn, 1) := by decide +kernel
set_option maxRecDepth 65536 in
set_option maxHeartbeats 40000000 in
theorem c_isL1S (l : Launch) (Z : State) (a0 : Array Value) (hw : ∀ d ∈ tables_1, d.before a0 Z = true) (hEW : EW Z a0 consts_1) (n0 : Nat) (c1 : Int32) (hc1 : ¬ c1 = 0) (S1 : Sta Z Z.heap "java/lang/String" "COMPACT_STRINGS" "Z" (.int c1)) (v2 : Value) (hv2 : v2.isRef = true) (S2 : Sta Z Z.heap "jdk/internal/util/Preconditions" "SIOOBE_FORMATTER" "Ljava/util/function/BiFunction;" v2) (a : Addr) {h0 : Heap} (o1 : Old Z n0 h0) (Fc : Fld Z h0 a "java/lang/String" "coder" "B" (.int 0)) :
    Con Z a0 l (⟨"java/lang/String", "isLatin1", "()Z"⟩ : MethodName) jdk_42_method_154_code 1 (some .boolean) ({ frames := 0, cells := 0, slots := 0, locals := 0 } : Room) [] #[(.ref a)] consts_1 h0 n0 [] [] (VV fun w h so => w = .int 1 ∧ h = h0 ∧ so = []) := by
  refine Con.body (plainFor_of_name pn_java_lang_String) hEW o1 all0 #[.val (.ref a)] (fun m => by first | (simp [entryFrame, mkF, argsToLocals, Value.category]; done) | rfl) ?_
  intro p e s m below meth c B hnm hret hlk G
  replace G := G.gets 3 (host := "") (Or.inl (hw _ (List.mem_of_getElem? (i := 14) rfl))) Via.refl (G.sta S1) d43_0 rfl
  replace G := G.ifF 6 d43_3 (XT.i0_eq_f hc1) rfl
  replace G := G.aloadN 7 d43_6 rfl rfl rfl
  replace G := G.getf 10 (host := "") (Or.inl (hw _ (List.mem_of_getElem? (i := 26) rfl))) Via.refl Fc d43_7 rfl
  replace G := G.ifF 13 d43_10 (XT.i0_ne_f rfl) rfl
  replace G := G.iconst 14 (1 : Int32) d43_13 rfl rfl
  replace G := G.goto 18 d43_14 (by decide) (by decide)
  exact G.retN hret (Or.inl rfl) hlk d43_18 [] all0 ⟨_, rfl, rfl, rfl, rfl⟩ (Nat.le_of_ble_eq_true rfl) (Nat.le_of_ble_eq_true rfl)
theorem d42_0 : decode jdk_42_method_56_code 0 = .ok (.aload_n 0, 1) := by decide +kernel
theorem d42_1 : decode jdk_42_method_56_code 1 = .ok (.invokevirtual 492, 3) := by decide +kernel
theorem d42_4 : decode jdk_42_method_56_code 4 = .ok (.ifCond .eq 12, 3) := by decide +kernel
theorem d42_7 : decode jdk_42_method_56_code 7 = .ok (.aload_n 0, 1) := by decide +kernel
theorem d42_8 : decode jdk_42_method_56_code 8 = .ok (.getfield 9, 3) := by decide +kernel
theorem d42_11 : decode jdk_42_method_56_code 11 = .ok (.iload_n 1, 1) := by decide +kernel
theorem d42_12 : decode jdk_42_method_56_code 12 = .ok (.invokestatic 495, 3) := by decide +kernel
theorem d42_15 : decode jdk_42_method_56_code 15 = .ok (.ireturn, 1) := by decide +kernel
theorem d42_16 : decode jdk_42_method_56_code 16 = .ok (.aload_n 0, 1) := by decide +kernel
theorem d42_17 : decode jdk_42_method_56_code 17 = .ok (.getfield 9, 3) := by decide +kernel
theorem d42_20 : decode jdk_42_method_56_code 20 = .ok (.iload_n 1, 1) := by decide +kernel
theorem d42_21 : decode jdk_42_method_56_code 21 = .ok (.invokestatic 498, 3) := by decide +kernel
theorem d42_24 : decode jdk_42_method_56_code 24 = .ok (.ireturn, 1) := by decide +kernel
set_option maxRecDepth 65536 in
set_option maxHeartbeats 40000000 in
theorem c_charAt (l : Launch) (Z : State) (a0 : Array Value) (hw : ∀ d ∈ tables_1, d.before a0 Z = true) (hEW : EW Z a0 consts_1) (n0 : Nat) (c1 : Int32) (hc1 : ¬ c1 = 0) (S1 : Sta Z Z.heap "java/lang/String" "COMPACT_STRINGS" "Z" (.int c1)) (v2 : Value) (hv2 : v2.isRef = true) (S2 : Sta Z Z.heap "jdk/internal/util/Preconditions" "SIOOBE_FORMATTER" "Ljava/util/function/BiFunction;" v2) (a b : Addr) (bs : List Value) (i : Nat) (x : Int32) {h0 : Heap} (o1 : Old Z n0 h0) (hi : i < bs.length) (hn : bs.length < 2147483648) (hv : bs.getD i (.int 0) = .int x) (hS : Str Z h0 a b bs) :
    Con Z a0 l (⟨"java/lang/String", "charAt", "(I)C"⟩ : MethodName) jdk_42_method_56_code 2 (some .char) ({ frames := 3, cells := 0, slots := 0, locals := 40 } : Room) [] #[(.ref a), (.int (Int32.ofNat i))] consts_1 h0 n0 [] [] (VV fun w h so => w = .int (x &&& 255) ∧ h = h0 ∧ so = []) := by
  refine Con.body (plainFor_of_name pn_java_lang_String) hEW o1 all0 #[.val (.ref a), .val (.int (Int32.ofNat i))] (fun m => by first | (simp [entryFrame, mkF, argsToLocals, Value.category]; done) | rfl) ?_
  intro p e s m below meth c B hnm hret hlk G
  obtain ⟨Xa, Fc, Fv, kb, Ab⟩ := hS
  replace G := G.aloadN 1 d42_0 rfl rfl rfl
  obtain ⟨vl, h_l, sol, G', Kl, Ql⟩ := G.callV 4 (hw _ (List.mem_of_getElem? (i := 220) rfl)) (hw _ (List.mem_of_getElem? (i := 221) rfl)) (nfSel (hw _ (List.mem_of_getElem? (i := 223) rfl))) (hw _ (List.mem_of_getElem? (i := 223) rfl)) (hw _ (List.mem_of_getElem? (i := 222) rfl)) (hw _ (List.mem_of_getElem? (i := 2) rfl)) (hw _ (List.mem_of_getElem? (i := 224) rfl)) Xa (by decide) [] [] rfl (c_isL1S l Z a0 hw hEW n0 c1 hc1 S1 v2 hv2 S2 a G.old Fc) (lenOf pd___Z rfl) d42_1 rfl (Nat.le_of_ble_eq_true rfl) (Nat.le_of_ble_eq_true rfl) (Nat.le_of_ble_eq_true rfl) (Nat.le_of_ble_eq_true rfl) all0 all0 all0 rfl
  clear G; have G := G'; clear G'
  obtain ⟨wl, ql, rfl, el, rfl⟩ := Ql
  replace G := G.val ql
  subst el
  replace G := G.ifF 7 d42_4 (XT.i0_eq_f (by decide)) rfl
  replace G := G.aloadN 8 d42_7 rfl rfl rfl
  replace G := G.getf 11 (host := "") (Or.inl (hw _ (List.mem_of_getElem? (i := 28) rfl))) Via.refl Fv d42_8 rfl
  replace G := G.iloadN 12 d42_11 rfl rfl
  obtain ⟨vc, h_c, soc, G', Kc, Qc⟩ := G.callS 15 (hw _ (List.mem_of_getElem? (i := 225) rfl)) (hw _ (List.mem_of_getElem? (i := 226) rfl)) (hw _ (List.mem_of_getElem? (i := 35) rfl)) (hw _ (List.mem_of_getElem? (i := 227) rfl)) (by decide) [(.ref b), (.int (Int32.ofNat i))] [] rfl (c_l1char l Z a0 hw hEW n0 c1 hc1 S1 v2 hv2 S2 b kb bs i x G.old hi hn hv Ab) (lenOf pd___BI_C rfl) d42_12 rfl (Nat.le_of_ble_eq_true rfl) (Nat.le_of_ble_eq_true rfl) (Nat.le_of_ble_eq_true rfl) (Nat.le_of_ble_eq_true rfl) all0 all0 all0 rfl
  clear G; have G := G'; clear G'
  obtain ⟨wc, qc, rfl, ec, rfl⟩ := Qc
  replace G := G.val qc
  subst ec
  exact G.retN hret (Or.inr (Or.inr (Or.inl rfl))) hlk d42_15 [] all0 ⟨_, rfl, congrArg Value.int (i2c_mask x), rfl, rfl⟩ (Nat.le_of_ble_eq_true rfl) (Nat.le_of_ble_eq_true rfl)
theorem d8_0 : decode jdk_43_method_3_code 0 = .ok (.iload_n 0, 1) := by decide +kernel
theorem d8_1 : decode jdk_43_method_3_code 1 = .ok (.sipush 255, 3) := by decide +kernel
theorem d8_4 : decode jdk_43_method_3_code 4 = .ok (.if_icmp .gt 7, 3) := by decide +kernel
theorem d8_7 : decode jdk_43_method_3_code 7 = .ok (.iconst 1, 1) := by decide +kernel
theorem d8_8 : decode jdk_43_method_3_code 8 = .ok (.goto 4, 3) := by decide +kernel
theorem d8_11 : decode jdk_43_method_3_code 11 = .ok (.iconst 0, 1) := by decide +kernel
theorem d8_12 : decode jdk_43_method_3_code 12 = .ok (.ireturn, 1) := by decide +kernel
set_option maxRecDepth 65536 in
set_option maxHeartbeats 40000000 in
theorem c_canEnc (l : Launch) (Z : State) (a0 : Array Value) (hw : ∀ d ∈ tables_1, d.before a0 Z = true) (hEW : EW Z a0 consts_1) (n0 : Nat) (c1 : Int32) (hc1 : ¬ c1 = 0) (S1 : Sta Z Z.heap "java/lang/String" "COMPACT_STRINGS" "Z" (.int c1)) (v2 : Value) (hv2 : v2.isRef = true) (S2 : Sta Z Z.heap "jdk/internal/util/Preconditions" "SIOOBE_FORMATTER" "Ljava/util/function/BiFunction;" v2) (x : Int32) {h0 : Heap} (o1 : Old Z n0 h0) (hx : ¬ (255 : Int32) < x) :
    Con Z a0 l (⟨"java/lang/StringLatin1", "canEncode", "(C)Z"⟩ : MethodName) jdk_43_method_3_code 1 (some .boolean) ({ frames := 0, cells := 0, slots := 0, locals := 0 } : Room) [] #[(.int x)] consts_1 h0 n0 [] [] (VV fun w h so => w = .int 1 ∧ h = h0 ∧ so = []) := by
  refine Con.body (plainFor_of_name pn_java_lang_StringLatin1) hEW o1 all0 #[.val (.int x)] (fun m => by first | (simp [entryFrame, mkF, argsToLocals, Value.category]; done) | rfl) ?_
  intro p e s m below meth c B hnm hret hlk G
  replace G := G.iloadN 1 d8_0 rfl rfl
  replace G := G.sipush 4 (255 : Int32) d8_1 (by decide) rfl
  replace G := G.icmpF 7 d8_4 (XT.ii_gt_f hx) rfl
  replace G := G.iconst 8 (1 : Int32) d8_7 rfl rfl
  replace G := G.goto 12 d8_8 (by decide) (by decide)
  exact G.retN hret (Or.inl rfl) hlk d8_12 [] all0 ⟨_, rfl, rfl, rfl, rfl⟩ (Nat.le_of_ble_eq_true rfl) (Nat.le_of_ble_eq_true rfl)
theorem d9_0 : decode jdk_43_method_46_code 0 = .ok (.iconst 1, 1) := by decide +kernel
theorem d9_1 : decode jdk_43_method_46_code 1 = .ok (.newarray .byte, 2) := by decide +kernel
theorem d9_3 : decode jdk_43_method_46_code 3 = .ok (.dup, 1) := by decide +kernel
theorem d9_4 : decode jdk_43_method_46_code 4 = .ok (.iconst 0, 1) := by decide +kernel
theorem d9_5 : decode jdk_43_method_46_code 5 = .ok (.iload_n 0, 1) := by decide +kernel
theorem d9_6 : decode jdk_43_method_46_code 6 = .ok (.i2b, 1) := by decide +kernel
theorem d9_7 : decode jdk_43_method_46_code 7 = .ok (.bastore, 1) := by decide +kernel
theorem d9_8 : decode jdk_43_method_46_code 8 = .ok (.areturn, 1) := by decide +kernel
set_option maxRecDepth 65536 in
set_option maxHeartbeats 40000000 in
theorem c_toBytesC (l : Launch) (Z : State) (a0 : Array Value) (hw : ∀ d ∈ tables_1, d.before a0 Z = true) (hEW : EW Z a0 consts_1) (n0 : Nat) (c1 : Int32) (hc1 : ¬ c1 = 0) (S1 : Sta Z Z.heap "java/lang/String" "COMPACT_STRINGS" "Z" (.int c1)) (v2 : Value) (hv2 : v2.isRef = true) (S2 : Sta Z Z.heap "jdk/internal/util/Preconditions" "SIOOBE_FORMATTER" "Ljava/util/function/BiFunction;" v2) (x : Int32) {h0 : Heap} (o1 : Old Z n0 h0)  :
    Con Z a0 l (⟨"java/lang/StringLatin1", "toBytes", "(C)[B"⟩ : MethodName) jdk_43_method_46_code 1 (some (.array .byte)) ({ frames := 0, cells := 1, slots := 1, locals := 0 } : Room) [] #[(.int x)] consts_1 h0 n0 [] [] (VV fun w h so => ∃ b, w = .ref b ∧ (∃ k, Arv Z h b k .byte 1 [.int x.toInt8.toInt32] (.int 0)) ∧ h0.size ≤ b ∧ so = [b]) := by
  refine Con.body (plainFor_of_name pn_java_lang_StringLatin1) hEW o1 all0 #[.val (.int x)] (fun m => by first | (simp [entryFrame, mkF, argsToLocals, Value.category]; done) | rfl) ?_
  intro p e s m below meth c B hnm hret hlk G
  replace G := G.iconst 1 (1 : Int32) d9_0 rfl rfl
  obtain ⟨b, h1, kb, G', gb, sb, Eb, Ab⟩ := G.newarray 3 (hw _ (List.mem_of_getElem? (i := 19) rfl)) d9_1 (by decide) 1 (Nat.le_of_ble_eq_true rfl) (by decide) rfl (Nat.le_of_ble_eq_true rfl) (Nat.le_of_ble_eq_true rfl)
  clear G; have G := G'; clear G'
  have Ab' := Ab.pad (vs' := [(.int 0)]) (pad_rep [] (.int 0) 1)
  replace G := G.dup 4 d9_3 rfl rfl
  replace G := G.iconst 5 (0 : Int32) d9_4 rfl rfl
  replace G := G.iloadN 6 d9_5 rfl rfl
  replace G := G.i2b 7 d9_6 rfl
  obtain ⟨h2, G', As, Ks⟩ := G.bastore 8 0 Ab' (by decide) rfl (Nat.le_of_ble_eq_true rfl) (Or.inr sb) (List.mem_of_getElem? (i := 0) rfl) d9_7 rfl
  clear G; have G := G'; clear G'
  exact G.retA hret rfl rfl hlk d9_8 [b] (allS (List.mem_of_getElem? (i := 0) rfl) all0) ⟨_, rfl, b, rfl, ⟨kb, byt2 x ▸ As⟩, sb, rfl⟩ (Nat.le_of_ble_eq_true rfl) (Nat.le_of_ble_eq_true rfl)
theorem d10_0 : decode jdk_42_method_151_code 0 = .ok (.aload_n 0, 1) := by decide +kernel
theorem d10_1 : decode jdk_42_method_151_code 1 = .ok (.invokespecial 1, 3) := by decide +kernel
theorem d10_4 : decode jdk_42_method_151_code 4 = .ok (.aload_n 0, 1) := by decide +kernel
theorem d10_5 : decode jdk_42_method_151_code 5 = .ok (.aload_n 1, 1) := by decide +kernel
theorem d10_6 : decode jdk_42_method_151_code 6 = .ok (.putfield 9, 3) := by decide +kernel
theorem d10_9 : decode jdk_42_method_151_code 9 = .ok (.aload_n 0, 1) := by decide +kernel
theorem d10_10 : decode jdk_42_method_151_code 10 = .ok (.iload_n 2, 1) := by decide +kernel
theorem d10_11 : decode jdk_42_method_151_code 11 = .ok (.putfield 15, 3) := by decide +kernel
theorem d10_14 : decode jdk_42_method_151_code 14 = .ok (.return_, 1) := by decide +kernel
set_option maxRecDepth 65536 in
set_option maxHeartbeats 40000000 in
theorem c_strBB (l : Launch) (Z : State) (a0 : Array Value) (hw : ∀ d ∈ tables_1, d.before a0 Z = true) (hEW : EW Z a0 consts_1) (n0 : Nat) (c1 : Int32) (hc1 : ¬ c1 = 0) (S1 : Sta Z Z.heap "java/lang/String" "COMPACT_STRINGS" "Z" (.int c1)) (v2 : Value) (hv2 : v2.isRef = true) (S2 : Sta Z Z.heap "jdk/internal/util/Preconditions" "SIOOBE_FORMATTER" "Ljava/util/function/BiFunction;" v2) (a b : Addr) (kb : ClassId) (bs : List Value) {h0 : Heap} (o1 : Old Z n0 h0) (ge_a : n0 ≤ a) (nba : b ≠ a) (Xa : Exa Z h0 a "java/lang/String") (Fv : Fld Z h0 a "java/lang/String" "value" "[B" .null) (Fc : Fld Z h0 a "java/lang/String" "coder" "B" (.int 0)) (Ab : Arv Z h0 b kb .byte (Int32.ofNat bs.length) bs (.int 0)) :
    Con Z a0 l (⟨"java/lang/String", "<init>", "([BB)V"⟩ : MethodName) jdk_42_method_151_code 3 (none) ({ frames := 1, cells := 0, slots := 0, locals := 12 } : Room) [] #[(.ref a), (.ref b), (.int (0 : Int32))] consts_1 h0 n0 [a] [a] (V0 fun h so => Str Z h a b bs ∧ so = []) := by
  refine Con.body (plainFor_of_name pn_java_lang_String) hEW o1 (allS ge_a all0) #[.val (.ref a), .val (.ref b), .val (.int (0 : Int32))] (fun m => by first | (simp [entryFrame, mkF, argsToLocals, Value.category]; done) | rfl) ?_
  intro p e s m below meth c B hnm hret hlk G
  replace G := G.aloadN 1 d10_0 rfl rfl rfl
  replace G := G.initO 4 (hw _ (List.mem_of_getElem? (i := 11) rfl)) (hw _ (List.mem_of_getElem? (i := 12) rfl)) (hw _ (List.mem_of_getElem? (i := 13) rfl)) d10_1 rfl (Nat.le_of_ble_eq_true rfl) (Nat.le_of_ble_eq_true rfl) rfl
  replace G := G.aloadN 5 d10_4 rfl rfl rfl
  replace G := G.aloadN 6 d10_5 rfl rfl rfl
  obtain ⟨h1, G', Wv, Fv, Kv⟩ := G.putf 9 (host := "") (Or.inl (hw _ (List.mem_of_getElem? (i := 28) rfl))) Via.refl Fv Xa (Or.inr ⟨(hw _ (List.mem_of_getElem? (i := 29) rfl)), rfl, hnm⟩) (hw _ (List.mem_of_getElem? (i := 1) rfl)) (ty := (.array .byte)) (by decide) rfl rfl (Or.inl (List.mem_of_getElem? (i := 0) rfl)) (List.mem_of_getElem? (i := 0) rfl) d10_6 rfl
  clear G; have G := G'; clear G'
  replace Fc := Fc.other Wv (Or.inr (slot_ne (Or.inr (hw _ (List.mem_of_getElem? (i := 27) rfl))) (Or.inr (hw _ (List.mem_of_getElem? (i := 29) rfl))) (by decide) (t := .byte) (t' := (.array .byte)) (by decide) (by decide)))
  replace Xa := Xa.wr Wv; replace Ab := Ab.keep Kv (ninS nba nin0)
  replace G := G.aloadN 10 d10_9 rfl rfl rfl
  replace G := G.iloadN 11 d10_10 rfl rfl
  obtain ⟨h2, G', Wc, Fc, Kc⟩ := G.putf 14 (host := "") (Or.inl (hw _ (List.mem_of_getElem? (i := 26) rfl))) Via.refl Fc Xa (Or.inr ⟨(hw _ (List.mem_of_getElem? (i := 27) rfl)), rfl, hnm⟩) (hw _ (List.mem_of_getElem? (i := 1) rfl)) (ty := .byte) (by decide) rfl rfl (Or.inl (List.mem_of_getElem? (i := 0) rfl)) (List.mem_of_getElem? (i := 0) rfl) d10_11 rfl
  clear G; have G := G'; clear G'
  replace Fv := Fv.other Wc (Or.inr (slot_ne (Or.inr (hw _ (List.mem_of_getElem? (i := 29) rfl))) (Or.inr (hw _ (List.mem_of_getElem? (i := 27) rfl))) (by decide) (t := (.array .byte)) (t' := .byte) (by decide) (by decide)))
  replace Xa := Xa.wr Wc; replace Ab := Ab.keep Kc (ninS nba nin0)
  exact G.retV hret hlk d10_14 [] all0 ⟨rfl, ⟨Xa, Fc, Fv, kb, Ab⟩, rfl⟩ (Nat.le_of_ble_eq_true rfl) (Nat.le_of_ble_eq_true rfl)
theorem d7_0 : decode jdk_42_method_139_code 0 = .ok (.getstatic 38, 3) := by decide +kernel
theorem d7_3 : decode jdk_42_method_139_code 3 = .ok (.ifCond .eq 23, 3) := by decide +kernel
theorem d7_6 : decode jdk_42_method_139_code 6 = .ok (.iload_n 0, 1) := by decide +kernel
theorem d7_7 : decode jdk_42_method_139_code 7 = .ok (.invokestatic 1015, 3) := by decide +kernel
theorem d7_10 : decode jdk_42_method_139_code 10 = .ok (.ifCond .eq 16, 3) := by decide +kernel
theorem d7_13 : decode jdk_42_method_139_code 13 = .ok (.new 10, 3) := by decide +kernel
theorem d7_16 : decode jdk_42_method_139_code 16 = .ok (.dup, 1) := by decide +kernel
theorem d7_17 : decode jdk_42_method_139_code 17 = .ok (.iload_n 0, 1) := by decide +kernel
theorem d7_18 : decode jdk_42_method_139_code 18 = .ok (.invokestatic 1018, 3) := by decide +kernel
theorem d7_21 : decode jdk_42_method_139_code 21 = .ok (.iconst 0, 1) := by decide +kernel
theorem d7_22 : decode jdk_42_method_139_code 22 = .ok (.invokespecial 209, 3) := by decide +kernel
theorem d7_25 : decode jdk_42_method_139_code 25 = .ok (.areturn, 1) := by decide +kernel
theorem d7_26 : decode jdk_42_method_139_code 26 = .ok (.new 10, 3) := by decide +kernel
theorem d7_29 : decode jdk_42_method_139_code 29 = .ok (.dup, 1) := by decide +kernel
theorem d7_30 : decode jdk_42_method_139_code 30 = .ok (.iload_n 0, 1) := by decide +kernel
theorem d7_31 : decode jdk_42_method_139_code 31 = .ok (.invokestatic 1021, 3) := by decide +kernel
theorem d7_34 : decode jdk_42_method_139_code 34 = .ok (.iconst 1, 1) := by decide +kernel
theorem d7_35 : decode jdk_42_method_139_code 35 = .ok (.invokespecial 209, 3) := by decide +kernel
theorem d7_38 : decode jdk_42_method_139_code 38 = .ok (.areturn, 1) := by decide +kernel
set_option maxRecDepth 65536 in
set_option maxHeartbeats 40000000 in
theorem c_valC (l : Launch) (Z : State) (a0 : Array Value) (hw : ∀ d ∈ tables_1, d.before a0 Z = true) (hEW : EW Z a0 consts_1) (n0 : Nat) (c1 : Int32) (hc1 : ¬ c1 = 0) (S1 : Sta Z Z.heap "java/lang/String" "COMPACT_STRINGS" "Z" (.int c1)) (v2 : Value) (hv2 : v2.isRef = true) (S2 : Sta Z Z.heap "jdk/internal/util/Preconditions" "SIOOBE_FORMATTER" "Ljava/util/function/BiFunction;" v2) (x : Int32) {h0 : Heap} (o1 : Old Z n0 h0) (hx : ¬ (255 : Int32) < x) :
    Con Z a0 l (⟨"java/lang/String", "valueOf", "(C)Ljava/lang/String;"⟩ : MethodName) jdk_42_method_139_code 1 (some (.object "java/lang/String")) ({ frames := 2, cells := 2, slots := 5, locals := 27 } : Room) [] #[(.int x)] consts_1 h0 n0 [] [] (VV fun w h so => ∃ a b, w = .ref a ∧ Str Z h a b [.int x.toInt8.toInt32] ∧ h0.size ≤ a ∧ h0.size ≤ b ∧ so = [b, a]) := by
  refine Con.body (plainFor_of_name pn_java_lang_String) hEW o1 all0 #[.val (.int x)] (fun m => by first | (simp [entryFrame, mkF, argsToLocals, Value.category]; done) | rfl) ?_
  intro p e s m below meth c B hnm hret hlk G
  replace G := G.gets 3 (host := "") (Or.inl (hw _ (List.mem_of_getElem? (i := 14) rfl))) Via.refl (G.sta S1) d7_0 rfl
  replace G := G.ifF 6 d7_3 (XT.i0_eq_f hc1) rfl
  replace G := G.iloadN 7 d7_6 rfl rfl
  obtain ⟨ve, h_e, soe, G', Ke, Qe⟩ := G.callS 10 (hw _ (List.mem_of_getElem? (i := 33) rfl)) (hw _ (List.mem_of_getElem? (i := 34) rfl)) (hw _ (List.mem_of_getElem? (i := 35) rfl)) (hw _ (List.mem_of_getElem? (i := 36) rfl)) (by decide) [(.int x)] [] rfl (c_canEnc l Z a0 hw hEW n0 c1 hc1 S1 v2 hv2 S2 x G.old hx) (lenOf pd__C_Z rfl) d7_7 rfl (Nat.le_of_ble_eq_true rfl) (Nat.le_of_ble_eq_true rfl) (Nat.le_of_ble_eq_true rfl) (Nat.le_of_ble_eq_true rfl) all0 all0 all0 rfl
  clear G; have G := G'; clear G'
  obtain ⟨we, qe, rfl, ee, rfl⟩ := Qe
  replace G := G.val qe
  subst ee
  replace G := G.ifF 13 d7_10 (XT.i0_eq_f (by decide)) rfl
  obtain ⟨a, h1, G', ga, sa, Ea, Xa, Da, Ua⟩ := G.new 16 (hw _ (List.mem_of_getElem? (i := 37) rfl)) (hw _ (List.mem_of_getElem? (i := 1) rfl)) (hw _ (List.mem_of_getElem? (i := 2) rfl)) d7_13 rfl (Nat.le_of_ble_eq_true rfl) (Nat.le_of_ble_eq_true rfl)
  clear G; have G := G'; clear G'
  have Fv := Da (Or.inr (hw _ (List.mem_of_getElem? (i := 29) rfl))) (ty := .array .byte) (by decide)
  have Fc := Da (Or.inr (hw _ (List.mem_of_getElem? (i := 27) rfl))) (ty := .byte) (by decide)
  replace G := G.dup 17 d7_16 rfl rfl
  replace G := G.iloadN 18 d7_17 rfl rfl
  obtain ⟨vt, h2, sot, G', Kt, Qt⟩ := G.callS 21 (hw _ (List.mem_of_getElem? (i := 38) rfl)) (hw _ (List.mem_of_getElem? (i := 39) rfl)) (hw _ (List.mem_of_getElem? (i := 35) rfl)) (hw _ (List.mem_of_getElem? (i := 40) rfl)) (by decide) [(.int x)] [(.ref a), (.ref a)] rfl (c_toBytesC l Z a0 hw hEW n0 c1 hc1 S1 v2 hv2 S2 x G.old ) (lenOf pd__C__B rfl) d7_18 rfl (Nat.le_of_ble_eq_true rfl) (Nat.le_of_ble_eq_true rfl) (Nat.le_of_ble_eq_true rfl) (Nat.le_of_ble_eq_true rfl) all0 all0 all0 rfl
  clear G; have G := G'; clear G'
  obtain ⟨wt, qt, b, rfl, ⟨kb, Ab⟩, sb, rfl⟩ := Qt
  replace G := G.val qt
  have nba : b ≠ a := ne_ge Xa.lt sb
  replace Xa := Xa.keep Kt; replace Fv := Fv.keep Kt nin0; replace Fc := Fc.keep Kt nin0
  replace G := G.iconst 22 (0 : Int32) d7_21 rfl rfl
  obtain ⟨vs, h3, sos, G', Ks, Qs⟩ := G.callI 25 rfl rfl (hw _ (List.mem_of_getElem? (i := 41) rfl)) (hw _ (List.mem_of_getElem? (i := 42) rfl)) (hw _ (List.mem_of_getElem? (i := 2) rfl)) (hw _ (List.mem_of_getElem? (i := 43) rfl)) (by decide) [(.ref b), (.int (0 : Int32))] [(.ref a)] rfl (c_strBB l Z a0 hw hEW n0 c1 hc1 S1 v2 hv2 S2 a b kb [.int x.toInt8.toInt32] G.old (G.nw (Or.inr sa)) nba Xa Fv Fc Ab) (lenOf pd___BB_V rfl) d7_22 rfl (Nat.le_of_ble_eq_true rfl) (Nat.le_of_ble_eq_true rfl) (Nat.le_of_ble_eq_true rfl) (Nat.le_of_ble_eq_true rfl) (allS (Or.inr sa) all0) (allS (List.mem_of_getElem? (i := 1) rfl) all0) (allS (List.mem_of_getElem? (i := 1) rfl) all0) rfl
  clear G; have G := G'; clear G'
  obtain ⟨qs, hT, rfl⟩ := Qs
  replace G := G.nov qs
  exact G.retA hret rfl rfl hlk d7_25 [b, a] (allS (List.mem_of_getElem? (i := 0) rfl) (allS (List.mem_of_getElem? (i := 1) rfl) all0)) ⟨_, rfl, a, b, rfl, hT, sa, Nat.le_trans Ea.1 sb, rfl⟩ (Nat.le_of_ble_eq_true rfl) (Nat.le_of_ble_eq_true rfl)
theorem d5_0 : decode jdk_52_method_21_code 0 = .ok (.iconst 0, 1) := by decide +kernel
theorem d5_1 : decode jdk_52_method_21_code 1 = .ok (.istore 5, 2) := by decide +kernel
theorem d5_3 : decode jdk_52_method_21_code 3 = .ok (.iload 5, 2) := by decide +kernel
theorem d5_5 : decode jdk_52_method_21_code 5 = .ok (.iload 4, 2) := by decide +kernel
theorem d5_7 : decode jdk_52_method_21_code 7 = .ok (.if_icmp .ge 37, 3) := by decide +kernel
theorem d5_10 : decode jdk_52_method_21_code 10 = .ok (.aload_n 0, 1) := by decide +kernel
theorem d5_11 : decode jdk_52_method_21_code 11 = .ok (.iload_n 1, 1) := by decide +kernel
theorem d5_12 : decode jdk_52_method_21_code 12 = .ok (.caload, 1) := by decide +kernel
theorem d5_13 : decode jdk_52_method_21_code 13 = .ok (.istore 6, 2) := by decide +kernel
theorem d5_15 : decode jdk_52_method_21_code 15 = .ok (.iload 6, 2) := by decide +kernel
theorem d5_17 : decode jdk_52_method_21_code 17 = .ok (.sipush 255, 3) := by decide +kernel
theorem d5_20 : decode jdk_52_method_21_code 20 = .ok (.if_icmp .le 6, 3) := by decide +kernel
theorem d5_23 : decode jdk_52_method_21_code 23 = .ok (.iload 5, 2) := by decide +kernel
theorem d5_25 : decode jdk_52_method_21_code 25 = .ok (.ireturn, 1) := by decide +kernel
theorem d5_26 : decode jdk_52_method_21_code 26 = .ok (.aload_n 2, 1) := by decide +kernel
theorem d5_27 : decode jdk_52_method_21_code 27 = .ok (.iload_n 3, 1) := by decide +kernel
theorem d5_28 : decode jdk_52_method_21_code 28 = .ok (.iload 6, 2) := by decide +kernel
theorem d5_30 : decode jdk_52_method_21_code 30 = .ok (.i2b, 1) := by decide +kernel
theorem d5_31 : decode jdk_52_method_21_code 31 = .ok (.bastore, 1) := by decide +kernel
theorem d5_32 : decode jdk_52_method_21_code 32 = .ok (.iinc 1 1, 3) := by decide +kernel
theorem d5_35 : decode jdk_52_method_21_code 35 = .ok (.iinc 3 1, 3) := by decide +kernel
theorem d5_38 : decode jdk_52_method_21_code 38 = .ok (.iinc 5 1, 3) := by decide +kernel
theorem d5_41 : decode jdk_52_method_21_code 41 = .ok (.goto (-38), 3) := by decide +kernel
theorem d5_44 : decode jdk_52_method_21_code 44 = .ok (.iload 4, 2) := by decide +kernel
theorem d5_46 : decode jdk_52_method_21_code 46 = .ok (.ireturn, 1) := by decide +kernel
set_option maxRecDepth 65536 in
set_option maxHeartbeats 40000000 in
theorem c_cmpL (l : Launch) (Z : State) (a0 : Array Value) (hw : ∀ d ∈ tables_1, d.before a0 Z = true) (hEW : EW Z a0 consts_1) (n0 : Nat) (c1 : Int32) (hc1 : ¬ c1 = 0) (S1 : Sta Z Z.heap "java/lang/String" "COMPACT_STRINGS" "Z" (.int c1)) (v2 : Value) (hv2 : v2.isRef = true) (S2 : Sta Z Z.heap "jdk/internal/util/Preconditions" "SIOOBE_FORMATTER" "Ljava/util/function/BiFunction;" v2) (va d : Addr) (kv kd : ClassId) (cs : List Int32) {h0 : Heap} (o1 : Old Z n0 h0) (ge_d : n0 ≤ d) (hne : 0 < cs.length) (hn : cs.length < 2147483648) (hc : ∀ x ∈ cs, ¬ (255 : Int32) < x) (nvd : va ≠ d) (Av : Arv Z h0 va kv .char (Int32.ofNat cs.length) (cs.map Value.int) (.int 0)) (Ad : Arv Z h0 d kd .byte (Int32.ofNat cs.length) [] (.int 0)) :
    Con Z a0 l (⟨"java/lang/StringUTF16", "compress", "([CI[BII)I"⟩ : MethodName) jdk_52_method_21_code 7 (some .int) ({ frames := 0, cells := 0, slots := 0, locals := 0 } : Room) [] #[(.ref va), (.int (0 : Int32)), (.ref d), (.int (0 : Int32)), (.int (Int32.ofNat cs.length))] consts_1 h0 n0 [d] [d] (VV fun w h so => w = .int (Int32.ofNat cs.length) ∧ Arv Z h d kd .byte (Int32.ofNat cs.length) (cs.map bytV) (.int 0) ∧ so = []) := by
  refine Con.body (plainFor_of_name pn_java_lang_StringUTF16) hEW o1 (allS ge_d all0) #[.val (.ref va), .val (.int (0 : Int32)), .val (.ref d), .val (.int (0 : Int32)), .val (.int (Int32.ofNat cs.length)), .unset, .unset] (fun m => by first | (simp [entryFrame, mkF, argsToLocals, Value.category]; done) | rfl) ?_
  intro p e s m below meth c B hnm hret hlk G
  have loop : ∀ (k : Nat) (h : Heap) (i : Nat) (cc : Int32), i + k = cs.length → Arv Z h va kv .char (Int32.ofNat cs.length) (cs.map Value.int) (.int 0) → Arv Z h d kd .byte (Int32.ofNat cs.length) ((cs.take i).map bytV) (.int 0) → Wl Z a0 "java/lang/StringUTF16" p l e ({ frames := 0, cells := 0, slots := 0, locals := 0 } : Room) s m #[(.ref va), (.int (0 : Int32)), (.ref d), (.int (0 : Int32)), (.int (Int32.ofNat cs.length))] below meth c jdk_52_method_21_code 7 B consts_1 h0 n0 [d] [d] h 0 0 3 #[.val (.ref va), .val (.int (Int32.ofNat i)), .val (.ref d), .val (.int (Int32.ofNat i)), .val (.int (Int32.ofNat cs.length)), .val (.int (Int32.ofNat i)), .val (.int cc)] [] → Fin Z consts_1 p e below B s h0 n0 [d] ({ frames := 0, cells := 0, slots := 0, locals := 0 } : Room).cells ({ frames := 0, cells := 0, slots := 0, locals := 0 } : Room).slots (VV fun w h so => w = .int (Int32.ofNat cs.length) ∧ Arv Z h d kd .byte (Int32.ofNat cs.length) (cs.map bytV) (.int 0) ∧ so = []) := by
    intro k; induction k with
    | zero =>
      intro h i cc hik Av Ad G
      obtain rfl : i = cs.length := by omega
      replace G := G.iload 5 d5_3 rfl rfl
      replace G := G.iload 7 d5_5 rfl rfl
      replace G := G.icmpT 44 d5_7 (XT.ii_ge_t (ofn_nlt (Nat.le_refl _) hn)) (by decide) (by decide)
      replace G := G.iload 46 d5_44 rfl rfl
      rw [List.take_length] at Ad
      exact G.retI hret hlk d5_46 [] all0 ⟨_, rfl, rfl, Ad, rfl⟩ (Nat.le_of_ble_eq_true rfl) (Nat.le_of_ble_eq_true rfl)
    | succ k ih =>
      intro h i cc hik Av Ad G
      have hi : i < cs.length := by omega
      replace G := G.iload 5 d5_3 rfl rfl
      replace G := G.iload 7 d5_5 rfl rfl
      replace G := G.icmpF 10 d5_7 (XT.ii_ge_f (ofn_lt hi hn)) rfl
      replace G := G.aloadN 11 d5_10 rfl rfl rfl
      replace G := G.iloadN 12 d5_11 rfl rfl
      have hci := hc _ (getD_mem cs i hi)
      replace G := G.caload 13 (v := (.int (cs.getD i 0))) Av ⟨ofn_nn (by omega), ofn_lt hi hn⟩ (by rw [ofn_nat (by omega)]; exact getD_map cs i hi) d5_12 rfl
      replace G := G.istore 15 #[.val (.ref va), .val (.int (Int32.ofNat i)), .val (.ref d), .val (.int (Int32.ofNat i)), .val (.int (Int32.ofNat cs.length)), .val (.int (Int32.ofNat i)), .val (.int (cs.getD i 0))] d5_13 rfl rfl
      replace G := G.iload 17 d5_15 rfl rfl
      replace G := G.sipush 20 (255 : Int32) d5_17 (by decide) rfl
      replace G := G.icmpT 26 d5_20 (XT.ii_le_t hci) (by decide) (by decide)
      replace G := G.aloadN 27 d5_26 rfl rfl rfl
      replace G := G.iloadN 28 d5_27 rfl rfl
      replace G := G.iload 30 d5_28 rfl rfl
      replace G := G.i2b 31 d5_30 rfl
      have Ad' := Ad.pad (vs' := (cs.take i).map bytV ++ [(.int 0)]) (pad_rep _ (.int 0) 1)
      have hlen : ((cs.take i).map bytV).length = i := by first | (simp; done) | (simp; omega)
      obtain ⟨h2, G', As, Ks⟩ := G.bastore 32 i Ad' ⟨ofn_nn (by omega), ofn_lt hi hn⟩ (ofn_nat (by omega)) (by rw [List.length_append, hlen]; simp) (Or.inl (List.mem_of_getElem? (i := 0) rfl)) (List.mem_of_getElem? (i := 0) rfl) d5_31 rfl
      clear G; have G := G'; clear G'
      rw [set_app _ _ _ _ hlen, byt2] at As
      replace Ad : Arv Z h2 d kd .byte (Int32.ofNat cs.length) ((cs.take (i + 1)).map bytV) (.int 0) := by rw [tk_succ cs bytV i hi]; exact As
      replace Av := Av.keep Ks (ninS nvd nin0)
      replace G := G.iincV 35 #[.val (.ref va), .val (.int (Int32.ofNat (i + 1))), .val (.ref d), .val (.int (Int32.ofNat i)), .val (.int (Int32.ofNat cs.length)), .val (.int (Int32.ofNat i)), .val (.int (cs.getD i 0))] (Int32.ofNat (i + 1)) d5_32 rfl (ofn_succ i) rfl rfl
      replace G := G.iincV 38 #[.val (.ref va), .val (.int (Int32.ofNat (i + 1))), .val (.ref d), .val (.int (Int32.ofNat (i + 1))), .val (.int (Int32.ofNat cs.length)), .val (.int (Int32.ofNat i)), .val (.int (cs.getD i 0))] (Int32.ofNat (i + 1)) d5_35 rfl (ofn_succ i) rfl rfl
      replace G := G.iincV 41 #[.val (.ref va), .val (.int (Int32.ofNat (i + 1))), .val (.ref d), .val (.int (Int32.ofNat (i + 1))), .val (.int (Int32.ofNat cs.length)), .val (.int (Int32.ofNat (i + 1))), .val (.int (cs.getD i 0))] (Int32.ofNat (i + 1)) d5_38 rfl (ofn_succ i) rfl rfl
      replace G := G.goto 3 d5_41 (by decide) (by decide)
      exact ih _ (i + 1) _ (by omega) Av Ad G
  have hi : 0 < cs.length := hne
  replace G := G.iconst 1 (0 : Int32) d5_0 rfl rfl
  replace G := G.istore 3 #[.val (.ref va), .val (.int (0 : Int32)), .val (.ref d), .val (.int (0 : Int32)), .val (.int (Int32.ofNat cs.length)), .val (.int (0 : Int32)), .unset] d5_1 rfl rfl
  replace Ad : Arv Z h0 d kd .byte (Int32.ofNat cs.length) ((cs.take 0).map bytV) (.int 0) := Ad
  replace G : Wl Z a0 "java/lang/StringUTF16" p l e ({ frames := 0, cells := 0, slots := 0, locals := 0 } : Room) s m #[(.ref va), (.int (0 : Int32)), (.ref d), (.int (0 : Int32)), (.int (Int32.ofNat cs.length))] below meth c jdk_52_method_21_code 7 B consts_1 h0 n0 [d] [d] h0 0 0 3 #[.val (.ref va), .val (.int (Int32.ofNat 0)), .val (.ref d), .val (.int (Int32.ofNat 0)), .val (.int (Int32.ofNat cs.length)), .val (.int (Int32.ofNat 0)), .unset] [] := G
  replace G := G.iload 5 d5_3 rfl rfl
  replace G := G.iload 7 d5_5 rfl rfl
  replace G := G.icmpF 10 d5_7 (XT.ii_ge_f (ofn_lt hi hn)) rfl
  replace G := G.aloadN 11 d5_10 rfl rfl rfl
  replace G := G.iloadN 12 d5_11 rfl rfl
  have hci := hc _ (getD_mem cs 0 hi)
  replace G := G.caload 13 (v := (.int (cs.getD 0 0))) Av ⟨ofn_nn (by omega), ofn_lt hi hn⟩ (by rw [ofn_nat (by omega)]; exact getD_map cs 0 hi) d5_12 rfl
  replace G := G.istore 15 #[.val (.ref va), .val (.int (Int32.ofNat 0)), .val (.ref d), .val (.int (Int32.ofNat 0)), .val (.int (Int32.ofNat cs.length)), .val (.int (Int32.ofNat 0)), .val (.int (cs.getD 0 0))] d5_13 rfl rfl
  replace G := G.iload 17 d5_15 rfl rfl
  replace G := G.sipush 20 (255 : Int32) d5_17 (by decide) rfl
  replace G := G.icmpT 26 d5_20 (XT.ii_le_t hci) (by decide) (by decide)
  replace G := G.aloadN 27 d5_26 rfl rfl rfl
  replace G := G.iloadN 28 d5_27 rfl rfl
  replace G := G.iload 30 d5_28 rfl rfl
  replace G := G.i2b 31 d5_30 rfl
  have Ad' := Ad.pad (vs' := (cs.take 0).map bytV ++ [(.int 0)]) (pad_rep _ (.int 0) 1)
  have hlen : ((cs.take 0).map bytV).length = 0 := by first | (simp; done) | (simp; omega)
  obtain ⟨h2, G', As, Ks⟩ := G.bastore 32 0 Ad' ⟨ofn_nn (by omega), ofn_lt hi hn⟩ (ofn_nat (by omega)) (by rw [List.length_append, hlen]; simp) (Or.inl (List.mem_of_getElem? (i := 0) rfl)) (List.mem_of_getElem? (i := 0) rfl) d5_31 rfl
  clear G; have G := G'; clear G'
  rw [set_app _ _ _ _ hlen, byt2] at As
  replace Ad : Arv Z h2 d kd .byte (Int32.ofNat cs.length) ((cs.take (0 + 1)).map bytV) (.int 0) := by rw [tk_succ cs bytV 0 hi]; exact As
  replace Av := Av.keep Ks (ninS nvd nin0)
  replace G := G.iincV 35 #[.val (.ref va), .val (.int (Int32.ofNat (0 + 1))), .val (.ref d), .val (.int (Int32.ofNat 0)), .val (.int (Int32.ofNat cs.length)), .val (.int (Int32.ofNat 0)), .val (.int (cs.getD 0 0))] (Int32.ofNat (0 + 1)) d5_32 rfl (ofn_succ 0) rfl rfl
  replace G := G.iincV 38 #[.val (.ref va), .val (.int (Int32.ofNat (0 + 1))), .val (.ref d), .val (.int (Int32.ofNat (0 + 1))), .val (.int (Int32.ofNat cs.length)), .val (.int (Int32.ofNat 0)), .val (.int (cs.getD 0 0))] (Int32.ofNat (0 + 1)) d5_35 rfl (ofn_succ 0) rfl rfl
  replace G := G.iincV 41 #[.val (.ref va), .val (.int (Int32.ofNat (0 + 1))), .val (.ref d), .val (.int (Int32.ofNat (0 + 1))), .val (.int (Int32.ofNat cs.length)), .val (.int (Int32.ofNat (0 + 1))), .val (.int (cs.getD 0 0))] (Int32.ofNat (0 + 1)) d5_38 rfl (ofn_succ 0) rfl rfl
  replace G := G.goto 3 d5_41 (by decide) (by decide)
  exact loop (cs.length - 1) _ 1 _ (by omega) Av Ad G
theorem d4_0 : decode jdk_52_method_16_code 0 = .ok (.iload_n 2, 1) := by decide +kernel
theorem d4_1 : decode jdk_52_method_16_code 1 = .ok (.newarray .byte, 2) := by decide +kernel
theorem d4_3 : decode jdk_52_method_16_code 3 = .ok (.astore_n 3, 1) := by decide +kernel
theorem d4_4 : decode jdk_52_method_16_code 4 = .ok (.aload_n 0, 1) := by decide +kernel
theorem d4_5 : decode jdk_52_method_16_code 5 = .ok (.iload_n 1, 1) := by decide +kernel
theorem d4_6 : decode jdk_52_method_16_code 6 = .ok (.aload_n 3, 1) := by decide +kernel
theorem d4_7 : decode jdk_52_method_16_code 7 = .ok (.iconst 0, 1) := by decide +kernel
theorem d4_8 : decode jdk_52_method_16_code 8 = .ok (.iload_n 2, 1) := by decide +kernel
theorem d4_9 : decode jdk_52_method_16_code 9 = .ok (.invokestatic 115, 3) := by decide +kernel
theorem d4_12 : decode jdk_52_method_16_code 12 = .ok (.istore 4, 2) := by decide +kernel
theorem d4_14 : decode jdk_52_method_16_code 14 = .ok (.iload 4, 2) := by decide +kernel
theorem d4_16 : decode jdk_52_method_16_code 16 = .ok (.iload_n 2, 1) := by decide +kernel
theorem d4_17 : decode jdk_52_method_16_code 17 = .ok (.if_icmp .eq 40, 3) := by decide +kernel
theorem d4_20 : decode jdk_52_method_16_code 20 = .ok (.aload_n 0, 1) := by decide +kernel
theorem d4_21 : decode jdk_52_method_16_code 21 = .ok (.iload_n 1, 1) := by decide +kernel
theorem d4_22 : decode jdk_52_method_16_code 22 = .ok (.iload_n 2, 1) := by decide +kernel
theorem d4_23 : decode jdk_52_method_16_code 23 = .ok (.invokestatic 119, 3) := by decide +kernel
theorem d4_26 : decode jdk_52_method_16_code 26 = .ok (.astore 5, 2) := by decide +kernel
theorem d4_28 : decode jdk_52_method_16_code 28 = .ok (.aload 5, 2) := by decide +kernel
theorem d4_30 : decode jdk_52_method_16_code 30 = .ok (.iload 4, 2) := by decide +kernel
theorem d4_32 : decode jdk_52_method_16_code 32 = .ok (.invokestatic 71, 3) := by decide +kernel
theorem d4_35 : decode jdk_52_method_16_code 35 = .ok (.sipush 255, 3) := by decide +kernel
theorem d4_38 : decode jdk_52_method_16_code 38 = .ok (.if_icmp .gt 16, 3) := by decide +kernel
theorem d4_41 : decode jdk_52_method_16_code 41 = .ok (.aload 5, 2) := by decide +kernel
theorem d4_43 : decode jdk_52_method_16_code 43 = .ok (.iconst 0, 1) := by decide +kernel
theorem d4_44 : decode jdk_52_method_16_code 44 = .ok (.aload_n 3, 1) := by decide +kernel
theorem d4_45 : decode jdk_52_method_16_code 45 = .ok (.iconst 0, 1) := by decide +kernel
theorem d4_46 : decode jdk_52_method_16_code 46 = .ok (.iload_n 2, 1) := by decide +kernel
theorem d4_47 : decode jdk_52_method_16_code 47 = .ok (.invokestatic 123, 3) := by decide +kernel
theorem d4_50 : decode jdk_52_method_16_code 50 = .ok (.iload_n 2, 1) := by decide +kernel
theorem d4_51 : decode jdk_52_method_16_code 51 = .ok (.if_icmp .eq 6, 3) := by decide +kernel
theorem d4_54 : decode jdk_52_method_16_code 54 = .ok (.aload 5, 2) := by decide +kernel
theorem d4_56 : decode jdk_52_method_16_code 56 = .ok (.areturn, 1) := by decide +kernel
theorem d4_57 : decode jdk_52_method_16_code 57 = .ok (.aload_n 3, 1) := by decide +kernel
theorem d4_58 : decode jdk_52_method_16_code 58 = .ok (.areturn, 1) := by decide +kernel
set_option maxRecDepth 65536 in
set_option maxHeartbeats 40000000 in
theorem c_cmpA (l : Launch) (Z : State) (a0 : Array Value) (hw : ∀ d ∈ tables_1, d.before a0 Z = true) (hEW : EW Z a0 consts_1) (n0 : Nat) (c1 : Int32) (hc1 : ¬ c1 = 0) (S1 : Sta Z Z.heap "java/lang/String" "COMPACT_STRINGS" "Z" (.int c1)) (v2 : Value) (hv2 : v2.isRef = true) (S2 : Sta Z Z.heap "jdk/internal/util/Preconditions" "SIOOBE_FORMATTER" "Ljava/util/function/BiFunction;" v2) (va : Addr) (kv : ClassId) (cs : List Int32) {h0 : Heap} (o1 : Old Z n0 h0) (hne : 0 < cs.length) (hmax : cs.length ≤ 3) (hc : ∀ x ∈ cs, ¬ (255 : Int32) < x) (Av : Arv Z h0 va kv .char (Int32.ofNat cs.length) (cs.map Value.int) (.int 0)) :
    Con Z a0 l (⟨"java/lang/StringUTF16", "compress", "([CII)[B"⟩ : MethodName) jdk_52_method_16_code 6 (some (.array .byte)) ({ frames := 1, cells := 1, slots := 3, locals := 18 } : Room) [] #[(.ref va), (.int (0 : Int32)), (.int (Int32.ofNat cs.length))] consts_1 h0 n0 [] [] (VV fun w h so => ∃ d, w = .ref d ∧ (∃ k, Arv Z h d k .byte (Int32.ofNat cs.length) (cs.map bytV) (.int 0)) ∧ h0.size ≤ d ∧ so = [d]) := by
  refine Con.body (plainFor_of_name pn_java_lang_StringUTF16) hEW o1 all0 #[.val (.ref va), .val (.int (0 : Int32)), .val (.int (Int32.ofNat cs.length)), .unset, .unset, .unset] (fun m => by first | (simp [entryFrame, mkF, argsToLocals, Value.category]; done) | rfl) ?_
  intro p e s m below meth c B hnm hret hlk G
  have hn : cs.length < 2147483648 := by omega
  replace G := G.iloadN 1 d4_0 rfl rfl
  obtain ⟨d, h1, kd, G', gd, sd, Ed, Ad⟩ := G.newarray 3 (hw _ (List.mem_of_getElem? (i := 19) rfl)) d4_1 (ofn_nn hn) 3 (by rw [ofn_nat hn]; exact hmax) (by decide) rfl (Nat.le_of_ble_eq_true rfl) (Nat.le_of_ble_eq_true rfl)
  clear G; have G := G'; clear G'
  have nvd : va ≠ d := ne_new gd Av.lt
  replace Av := Av.ext Ed
  replace G := G.astoreN 4 #[.val (.ref va), .val (.int (0 : Int32)), .val (.int (Int32.ofNat cs.length)), .val (.ref d), .unset, .unset] d4_3 rfl rfl rfl
  replace G := G.aloadN 5 d4_4 rfl rfl rfl
  replace G := G.iloadN 6 d4_5 rfl rfl
  replace G := G.aloadN 7 d4_6 rfl rfl rfl
  replace G := G.iconst 8 (0 : Int32) d4_7 rfl rfl
  replace G := G.iloadN 9 d4_8 rfl rfl
  obtain ⟨vc, h2, soc, G', Kc, Qc⟩ := G.callS 12 (hw _ (List.mem_of_getElem? (i := 20) rfl)) (hw _ (List.mem_of_getElem? (i := 21) rfl)) (hw _ (List.mem_of_getElem? (i := 17) rfl)) (hw _ (List.mem_of_getElem? (i := 22) rfl)) (by decide) [(.ref va), (.int (0 : Int32)), (.ref d), (.int (0 : Int32)), (.int (Int32.ofNat cs.length))] [] rfl (c_cmpL l Z a0 hw hEW n0 c1 hc1 S1 v2 hv2 S2 va d kv kd cs G.old (G.nw (Or.inr sd)) hne hn hc nvd Av Ad) (lenOf pd___CI_BII_I rfl) d4_9 rfl (Nat.le_of_ble_eq_true rfl) (Nat.le_of_ble_eq_true rfl) (Nat.le_of_ble_eq_true rfl) (Nat.le_of_ble_eq_true rfl) (allS (Or.inr sd) all0) (allS (List.mem_of_getElem? (i := 0) rfl) all0) (allS (List.mem_of_getElem? (i := 0) rfl) all0) rfl
  clear G; have G := G'; clear G'
  obtain ⟨wc, qc, rfl, Ad, rfl⟩ := Qc
  replace G := G.val qc
  replace G := G.istore 14 #[.val (.ref va), .val (.int (0 : Int32)), .val (.int (Int32.ofNat cs.length)), .val (.ref d), .val (.int (Int32.ofNat cs.length)), .unset] d4_12 rfl rfl
  replace G := G.iload 16 d4_14 rfl rfl
  replace G := G.iloadN 17 d4_16 rfl rfl
  replace G := G.icmpT 57 d4_17 (XT.ii_eq_t rfl) (by decide) (by decide)
  replace G := G.aloadN 58 d4_57 rfl rfl rfl
  exact G.retA hret rfl rfl hlk d4_58 [d] (allS (List.mem_of_getElem? (i := 0) rfl) all0) ⟨_, rfl, d, rfl, ⟨kd, Ad⟩, sd, rfl⟩ (Nat.le_of_ble_eq_true rfl) (Nat.le_of_ble_eq_true rfl)
theorem d6_0 : decode jdk_52_method_15_code 0 = .ok (.iload_n 1, 1) := by decide +kernel
theorem d6_1 : decode jdk_52_method_15_code 1 = .ok (.aload_n 0, 1) := by decide +kernel
theorem d6_2 : decode jdk_52_method_15_code 2 = .ok (.arraylength, 1) := by decide +kernel
theorem d6_3 : decode jdk_52_method_15_code 3 = .ok (.isub, 1) := by decide +kernel
theorem d6_4 : decode jdk_52_method_15_code 4 = .ok (.bipush 31, 2) := by decide +kernel
theorem d6_6 : decode jdk_52_method_15_code 6 = .ok (.iushr, 1) := by decide +kernel
theorem d6_7 : decode jdk_52_method_15_code 7 = .ok (.i2b, 1) := by decide +kernel
theorem d6_8 : decode jdk_52_method_15_code 8 = .ok (.ireturn, 1) := by decide +kernel
set_option maxRecDepth 65536 in
set_option maxHeartbeats 40000000 in
theorem c_cod (l : Launch) (Z : State) (a0 : Array Value) (hw : ∀ d ∈ tables_1, d.before a0 Z = true) (hEW : EW Z a0 consts_1) (n0 : Nat) (c1 : Int32) (hc1 : ¬ c1 = 0) (S1 : Sta Z Z.heap "java/lang/String" "COMPACT_STRINGS" "Z" (.int c1)) (v2 : Value) (hv2 : v2.isRef = true) (S2 : Sta Z Z.heap "jdk/internal/util/Preconditions" "SIOOBE_FORMATTER" "Ljava/util/function/BiFunction;" v2) (b : Addr) (kb : ClassId) (z : Int32) (vs : List Value) {h0 : Heap} (o1 : Old Z n0 h0) (Ab : Arv Z h0 b kb .byte z vs (.int 0)) :
    Con Z a0 l (⟨"java/lang/StringUTF16", "coderFromArrayLen", "([BI)B"⟩ : MethodName) jdk_52_method_15_code 2 (some .byte) ({ frames := 0, cells := 0, slots := 0, locals := 0 } : Room) [] #[(.ref b), (.int z)] consts_1 h0 n0 [] [] (VV fun w h so => w = .int 0 ∧ h = h0 ∧ so = []) := by
  refine Con.body (plainFor_of_name pn_java_lang_StringUTF16) hEW o1 all0 #[.val (.ref b), .val (.int z)] (fun m => by first | (simp [entryFrame, mkF, argsToLocals, Value.category]; done) | rfl) ?_
  intro p e s m below meth c B hnm hret hlk G
  replace G := G.iloadN 1 d6_0 rfl rfl
  replace G := G.aloadN 2 d6_1 rfl rfl rfl
  replace G := G.alen 3 Ab d6_2 rfl
  replace G := G.isub 4 d6_3 rfl
  replace G := G.bipush 6 (31 : Int32) d6_4 (by decide) rfl
  replace G := G.iushr 7 d6_6 rfl
  replace G := G.top (y := (.int (0 : Int32))) (congrArg Value.int (cod0 z))
  replace G := G.i2b 8 d6_7 rfl
  exact G.retN hret (Or.inr (Or.inl rfl)) hlk d6_8 [] all0 ⟨_, rfl, rfl, rfl, rfl⟩ (Nat.le_of_ble_eq_true rfl) (Nat.le_of_ble_eq_true rfl)
theorem d2_0 : decode jdk_42_method_149_code 0 = .ok (.aload_n 0, 1) := by decide +kernel
theorem d2_1 : decode jdk_42_method_149_code 1 = .ok (.invokespecial 1, 3) := by decide +kernel
theorem d2_4 : decode jdk_42_method_149_code 4 = .ok (.iload_n 3, 1) := by decide +kernel
theorem d2_5 : decode jdk_42_method_149_code 5 = .ok (.ifCond .ne 22, 3) := by decide +kernel
theorem d2_8 : decode jdk_42_method_149_code 8 = .ok (.aload_n 0, 1) := by decide +kernel
theorem d2_9 : decode jdk_42_method_149_code 9 = .ok (.ldc 7, 2) := by decide +kernel
theorem d2_11 : decode jdk_42_method_149_code 11 = .ok (.getfield 9, 3) := by decide +kernel
theorem d2_14 : decode jdk_42_method_149_code 14 = .ok (.putfield 9, 3) := by decide +kernel
theorem d2_17 : decode jdk_42_method_149_code 17 = .ok (.aload_n 0, 1) := by decide +kernel
theorem d2_18 : decode jdk_42_method_149_code 18 = .ok (.ldc 7, 2) := by decide +kernel
theorem d2_20 : decode jdk_42_method_149_code 20 = .ok (.getfield 15, 3) := by decide +kernel
theorem d2_23 : decode jdk_42_method_149_code 23 = .ok (.putfield 15, 3) := by decide +kernel
theorem d2_26 : decode jdk_42_method_149_code 26 = .ok (.return_, 1) := by decide +kernel
theorem d2_27 : decode jdk_42_method_149_code 27 = .ok (.getstatic 38, 3) := by decide +kernel
theorem d2_30 : decode jdk_42_method_149_code 30 = .ok (.ifCond .eq 28, 3) := by decide +kernel
theorem d2_33 : decode jdk_42_method_149_code 33 = .ok (.aload_n 1, 1) := by decide +kernel
theorem d2_34 : decode jdk_42_method_149_code 34 = .ok (.iload_n 2, 1) := by decide +kernel
theorem d2_35 : decode jdk_42_method_149_code 35 = .ok (.iload_n 3, 1) := by decide +kernel
theorem d2_36 : decode jdk_42_method_149_code 36 = .ok (.invokestatic 177, 3) := by decide +kernel
theorem d2_39 : decode jdk_42_method_149_code 39 = .ok (.astore 5, 2) := by decide +kernel
theorem d2_41 : decode jdk_42_method_149_code 41 = .ok (.aload_n 0, 1) := by decide +kernel
theorem d2_42 : decode jdk_42_method_149_code 42 = .ok (.aload 5, 2) := by decide +kernel
theorem d2_44 : decode jdk_42_method_149_code 44 = .ok (.iload_n 3, 1) := by decide +kernel
theorem d2_45 : decode jdk_42_method_149_code 45 = .ok (.invokestatic 47, 3) := by decide +kernel
theorem d2_48 : decode jdk_42_method_149_code 48 = .ok (.putfield 15, 3) := by decide +kernel
theorem d2_51 : decode jdk_42_method_149_code 51 = .ok (.aload_n 0, 1) := by decide +kernel
theorem d2_52 : decode jdk_42_method_149_code 52 = .ok (.aload 5, 2) := by decide +kernel
theorem d2_54 : decode jdk_42_method_149_code 54 = .ok (.putfield 9, 3) := by decide +kernel
theorem d2_57 : decode jdk_42_method_149_code 57 = .ok (.return_, 1) := by decide +kernel
theorem d2_58 : decode jdk_42_method_149_code 58 = .ok (.aload_n 0, 1) := by decide +kernel
theorem d2_59 : decode jdk_42_method_149_code 59 = .ok (.iconst 1, 1) := by decide +kernel
theorem d2_60 : decode jdk_42_method_149_code 60 = .ok (.putfield 15, 3) := by decide +kernel
theorem d2_63 : decode jdk_42_method_149_code 63 = .ok (.aload_n 0, 1) := by decide +kernel
theorem d2_64 : decode jdk_42_method_149_code 64 = .ok (.aload_n 1, 1) := by decide +kernel
theorem d2_65 : decode jdk_42_method_149_code 65 = .ok (.iload_n 2, 1) := by decide +kernel
theorem d2_66 : decode jdk_42_method_149_code 66 = .ok (.iload_n 3, 1) := by decide +kernel
theorem d2_67 : decode jdk_42_method_149_code 67 = .ok (.invokestatic 180, 3) := by decide +kernel
theorem d2_70 : decode jdk_42_method_149_code 70 = .ok (.putfield 9, 3) := by decide +kernel
theorem d2_73 : decode jdk_42_method_149_code 73 = .ok (.return_, 1) := by decide +kernel
set_option maxRecDepth 65536 in
set_option maxHeartbeats 40000000 in
theorem c_strCV (l : Launch) (Z : State) (a0 : Array Value) (hw : ∀ d ∈ tables_1, d.before a0 Z = true) (hEW : EW Z a0 consts_1) (n0 : Nat) (c1 : Int32) (hc1 : ¬ c1 = 0) (S1 : Sta Z Z.heap "java/lang/String" "COMPACT_STRINGS" "Z" (.int c1)) (v2 : Value) (hv2 : v2.isRef = true) (S2 : Sta Z Z.heap "jdk/internal/util/Preconditions" "SIOOBE_FORMATTER" "Ljava/util/function/BiFunction;" v2) (a va : Addr) (kv : ClassId) (cs : List Int32) {h0 : Heap} (o1 : Old Z n0 h0) (ge_a : n0 ≤ a) (Xa : Exa Z h0 a "java/lang/String") (Fv : Fld Z h0 a "java/lang/String" "value" "[B" .null) (Fc : Fld Z h0 a "java/lang/String" "coder" "B" (.int 0)) (hne : 0 < cs.length) (hmax : cs.length ≤ 3) (hc : ∀ x ∈ cs, ¬ (255 : Int32) < x) (Av : Arv Z h0 va kv .char (Int32.ofNat cs.length) (cs.map Value.int) (.int 0)) :
    Con Z a0 l (⟨"java/lang/String", "<init>", "([CIILjava/lang/Void;)V"⟩ : MethodName) jdk_42_method_149_code 6 (none) ({ frames := 2, cells := 1, slots := 3, locals := 35 } : Room) [] #[(.ref a), (.ref va), (.int (0 : Int32)), (.int (Int32.ofNat cs.length)), .null] consts_1 h0 n0 [a] [a] (V0 fun h so => ∃ b, Str Z h a b (cs.map bytV) ∧ h0.size ≤ b ∧ so = [b]) := by
  refine Con.body (plainFor_of_name pn_java_lang_String) hEW o1 (allS ge_a all0) #[.val (.ref a), .val (.ref va), .val (.int (0 : Int32)), .val (.int (Int32.ofNat cs.length)), .val .null, .unset] (fun m => by first | (simp [entryFrame, mkF, argsToLocals, Value.category]; done) | rfl) ?_
  intro p e s m below meth c B hnm hret hlk G
  have hn : cs.length < 2147483648 := by omega
  replace G := G.aloadN 1 d2_0 rfl rfl rfl
  replace G := G.initO 4 (hw _ (List.mem_of_getElem? (i := 11) rfl)) (hw _ (List.mem_of_getElem? (i := 12) rfl)) (hw _ (List.mem_of_getElem? (i := 13) rfl)) d2_1 rfl (Nat.le_of_ble_eq_true rfl) (Nat.le_of_ble_eq_true rfl) rfl
  replace G := G.iloadN 5 d2_4 rfl rfl
  replace G := G.ifT 27 d2_5 (XT.i0_ne_t (ofn_ne (n := 0) (by omega) hn (by decide))) (by decide) (by decide)
  replace G := G.gets 30 (host := "") (Or.inl (hw _ (List.mem_of_getElem? (i := 14) rfl))) Via.refl (G.sta S1) d2_27 rfl
  replace G := G.ifF 33 d2_30 (XT.i0_eq_f hc1) rfl
  replace G := G.aloadN 34 d2_33 rfl rfl rfl
  replace G := G.iloadN 35 d2_34 rfl rfl
  replace G := G.iloadN 36 d2_35 rfl rfl
  obtain ⟨vc, h1, soc, G', Kc, Qc⟩ := G.callS 39 (hw _ (List.mem_of_getElem? (i := 15) rfl)) (hw _ (List.mem_of_getElem? (i := 16) rfl)) (hw _ (List.mem_of_getElem? (i := 17) rfl)) (hw _ (List.mem_of_getElem? (i := 18) rfl)) (by decide) [(.ref va), (.int (0 : Int32)), (.int (Int32.ofNat cs.length))] [] rfl (c_cmpA l Z a0 hw hEW n0 c1 hc1 S1 v2 hv2 S2 va kv cs G.old hne hmax hc Av) (lenOf pd___CII__B rfl) d2_36 rfl (Nat.le_of_ble_eq_true rfl) (Nat.le_of_ble_eq_true rfl) (Nat.le_of_ble_eq_true rfl) (Nat.le_of_ble_eq_true rfl) all0 all0 all0 rfl
  clear G; have G := G'; clear G'
  obtain ⟨wc, qc, b, rfl, ⟨kb, Ab⟩, sb, rfl⟩ := Qc
  replace G := G.val qc
  have nba : b ≠ a := ne_ge Xa.lt sb
  replace Xa := Xa.keep Kc; replace Fv := Fv.keep Kc nin0; replace Fc := Fc.keep Kc nin0
  replace G := G.astore 41 #[.val (.ref a), .val (.ref va), .val (.int (0 : Int32)), .val (.int (Int32.ofNat cs.length)), .val .null, .val (.ref b)] d2_39 rfl rfl rfl
  replace G := G.aloadN 42 d2_41 rfl rfl rfl
  replace G := G.aload 44 d2_42 rfl rfl rfl
  replace G := G.iloadN 45 d2_44 rfl rfl
  obtain ⟨vd, h_d, sod, G', Kd, Qd⟩ := G.callS 48 (hw _ (List.mem_of_getElem? (i := 23) rfl)) (hw _ (List.mem_of_getElem? (i := 24) rfl)) (hw _ (List.mem_of_getElem? (i := 17) rfl)) (hw _ (List.mem_of_getElem? (i := 25) rfl)) (by decide) [(.ref b), (.int (Int32.ofNat cs.length))] [(.ref a)] rfl (c_cod l Z a0 hw hEW n0 c1 hc1 S1 v2 hv2 S2 b kb (Int32.ofNat cs.length) (cs.map bytV) G.old Ab) (lenOf pd___BI_B rfl) d2_45 rfl (Nat.le_of_ble_eq_true rfl) (Nat.le_of_ble_eq_true rfl) (Nat.le_of_ble_eq_true rfl) (Nat.le_of_ble_eq_true rfl) all0 all0 all0 rfl
  clear G; have G := G'; clear G'
  obtain ⟨wd, qd, rfl, ed, rfl⟩ := Qd
  replace G := G.val qd
  subst ed
  obtain ⟨h2, G', Wc2, Fc2, Kc2⟩ := G.putf 51 (host := "") (Or.inl (hw _ (List.mem_of_getElem? (i := 26) rfl))) Via.refl Fc Xa (Or.inr ⟨(hw _ (List.mem_of_getElem? (i := 27) rfl)), rfl, hnm⟩) (hw _ (List.mem_of_getElem? (i := 1) rfl)) (ty := .byte) (by decide) rfl rfl (Or.inl (List.mem_of_getElem? (i := 0) rfl)) (List.mem_of_getElem? (i := 1) rfl) d2_48 rfl
  clear G; have G := G'; clear G'
  replace Fv := Fv.other Wc2 (Or.inr (slot_ne (Or.inr (hw _ (List.mem_of_getElem? (i := 29) rfl))) (Or.inr (hw _ (List.mem_of_getElem? (i := 27) rfl))) (by decide) (t := (.array .byte)) (t' := .byte) (by decide) (by decide)))
  replace Xa := Xa.wr Wc2; replace Ab := Ab.keep Kc2 (ninS nba nin0)
  replace G := G.aloadN 52 d2_51 rfl rfl rfl
  replace G := G.aload 54 d2_52 rfl rfl rfl
  obtain ⟨h3, G', Wv2', Fv2', Kv2'⟩ := G.putf 57 (host := "") (Or.inl (hw _ (List.mem_of_getElem? (i := 28) rfl))) Via.refl Fv Xa (Or.inr ⟨(hw _ (List.mem_of_getElem? (i := 29) rfl)), rfl, hnm⟩) (hw _ (List.mem_of_getElem? (i := 1) rfl)) (ty := (.array .byte)) (by decide) rfl rfl (Or.inl (List.mem_of_getElem? (i := 0) rfl)) (List.mem_of_getElem? (i := 1) rfl) d2_54 rfl
  clear G; have G := G'; clear G'
  replace Fc2 := Fc2.other Wv2' (Or.inr (slot_ne (Or.inr (hw _ (List.mem_of_getElem? (i := 27) rfl))) (Or.inr (hw _ (List.mem_of_getElem? (i := 29) rfl))) (by decide) (t := .byte) (t' := (.array .byte)) (by decide) (by decide)))
  replace Xa := Xa.wr Wv2'; replace Ab := Ab.keep Kv2' (ninS nba nin0)
  have Ab2 : Arv Z h3 b kb .byte (Int32.ofNat (cs.map bytV).length) (cs.map bytV) (.int 0) := by rw [List.length_map]; exact Ab
  exact G.retV hret hlk d2_57 [b] (allS (List.mem_of_getElem? (i := 0) rfl) all0) ⟨rfl, b, ⟨Xa, Fc2, Fv2', kb, Ab2⟩, sb, rfl⟩ (Nat.le_of_ble_eq_true rfl) (Nat.le_of_ble_eq_true rfl)
theorem d1_0 : decode jdk_42_method_3_code 0 = .ok (.aload_n 0, 1) := by decide +kernel
theorem d1_1 : decode jdk_42_method_3_code 1 = .ok (.aload_n 1, 1) := by decide +kernel
theorem d1_2 : decode jdk_42_method_3_code 2 = .ok (.iconst 0, 1) := by decide +kernel
theorem d1_3 : decode jdk_42_method_3_code 3 = .ok (.aload_n 1, 1) := by decide +kernel
theorem d1_4 : decode jdk_42_method_3_code 4 = .ok (.arraylength, 1) := by decide +kernel
theorem d1_5 : decode jdk_42_method_3_code 5 = .ok (.aconst_null, 1) := by decide +kernel
theorem d1_6 : decode jdk_42_method_3_code 6 = .ok (.invokespecial 27, 3) := by decide +kernel
theorem d1_9 : decode jdk_42_method_3_code 9 = .ok (.return_, 1) := by decide +kernel
set_option maxRecDepth 65536 in
set_option maxHeartbeats 40000000 in
theorem c_strC (l : Launch) (Z : State) (a0 : Array Value) (hw : ∀ d ∈ tables_1, d.before a0 Z = true) (hEW : EW Z a0 consts_1) (n0 : Nat) (c1 : Int32) (hc1 : ¬ c1 = 0) (S1 : Sta Z Z.heap "java/lang/String" "COMPACT_STRINGS" "Z" (.int c1)) (v2 : Value) (hv2 : v2.isRef = true) (S2 : Sta Z Z.heap "jdk/internal/util/Preconditions" "SIOOBE_FORMATTER" "Ljava/util/function/BiFunction;" v2) (a va : Addr) (kv : ClassId) (cs : List Int32) {h0 : Heap} (o1 : Old Z n0 h0) (ge_a : n0 ≤ a) (Xa : Exa Z h0 a "java/lang/String") (Fv : Fld Z h0 a "java/lang/String" "value" "[B" .null) (Fc : Fld Z h0 a "java/lang/String" "coder" "B" (.int 0)) (hne : 0 < cs.length) (hmax : cs.length ≤ 3) (hc : ∀ x ∈ cs, ¬ (255 : Int32) < x) (Av : Arv Z h0 va kv .char (Int32.ofNat cs.length) (cs.map Value.int) (.int 0)) :
    Con Z a0 l (⟨"java/lang/String", "<init>", "([C)V"⟩ : MethodName) jdk_42_method_3_code 2 (none) ({ frames := 3, cells := 1, slots := 3, locals := 52 } : Room) [] #[(.ref a), (.ref va)] consts_1 h0 n0 [a] [a] (V0 fun h so => ∃ b, Str Z h a b (cs.map bytV) ∧ h0.size ≤ b ∧ so = [b]) := by
  refine Con.body (plainFor_of_name pn_java_lang_String) hEW o1 (allS ge_a all0) #[.val (.ref a), .val (.ref va)] (fun m => by first | (simp [entryFrame, mkF, argsToLocals, Value.category]; done) | rfl) ?_
  intro p e s m below meth c B hnm hret hlk G
  replace G := G.aloadN 1 d1_0 rfl rfl rfl
  replace G := G.aloadN 2 d1_1 rfl rfl rfl
  replace G := G.iconst 3 (0 : Int32) d1_2 rfl rfl
  replace G := G.aloadN 4 d1_3 rfl rfl rfl
  replace G := G.alen 5 Av d1_4 rfl
  replace G := G.aconstNull 6 d1_5 rfl
  obtain ⟨vc, h1, soc, G', Kc, Qc⟩ := G.callI 9 rfl rfl (hw _ (List.mem_of_getElem? (i := 7) rfl)) (hw _ (List.mem_of_getElem? (i := 8) rfl)) (hw _ (List.mem_of_getElem? (i := 2) rfl)) (hw _ (List.mem_of_getElem? (i := 10) rfl)) (by decide) [(.ref va), (.int (0 : Int32)), (.int (Int32.ofNat cs.length)), .null] [] rfl (c_strCV l Z a0 hw hEW n0 c1 hc1 S1 v2 hv2 S2 a va kv cs G.old ge_a Xa Fv Fc hne hmax hc Av) (lenOf pd___CIILjava_lang_Void__V rfl) d1_6 rfl (Nat.le_of_ble_eq_true rfl) (Nat.le_of_ble_eq_true rfl) (Nat.le_of_ble_eq_true rfl) (Nat.le_of_ble_eq_true rfl) (allS (Or.inl (List.mem_of_getElem? (i := 0) rfl)) all0) (allS (List.mem_of_getElem? (i := 0) rfl) all0) (allS (List.mem_of_getElem? (i := 0) rfl) all0) rfl
  clear G; have G := G'; clear G'
  obtain ⟨qc, b, hT, sb, rfl⟩ := Qc
  replace G := G.nov qc
  exact G.retV hret hlk d1_9 [b] (allS (List.mem_of_getElem? (i := 0) rfl) all0) ⟨rfl, b, hT, sb, rfl⟩ (Nat.le_of_ble_eq_true rfl) (Nat.le_of_ble_eq_true rfl)
theorem d28_0 : decode jdk_33_method_13_code 0 = .ok (.iconst 1, 1) := by decide +kernel
theorem d28_1 : decode jdk_33_method_13_code 1 = .ok (.istore_n 1, 1) := by decide +kernel
theorem d28_2 : decode jdk_33_method_13_code 2 = .ok (.iload_n 0, 1) := by decide +kernel
theorem d28_3 : decode jdk_33_method_13_code 3 = .ok (.ifCond .lt 8, 3) := by decide +kernel
theorem d28_6 : decode jdk_33_method_13_code 6 = .ok (.iconst 0, 1) := by decide +kernel
theorem d28_7 : decode jdk_33_method_13_code 7 = .ok (.istore_n 1, 1) := by decide +kernel
theorem d28_8 : decode jdk_33_method_13_code 8 = .ok (.iload_n 0, 1) := by decide +kernel
theorem d28_9 : decode jdk_33_method_13_code 9 = .ok (.ineg, 1) := by decide +kernel
theorem d28_10 : decode jdk_33_method_13_code 10 = .ok (.istore_n 0, 1) := by decide +kernel
theorem d28_11 : decode jdk_33_method_13_code 11 = .ok (.bipush (-10), 2) := by decide +kernel
theorem d28_13 : decode jdk_33_method_13_code 13 = .ok (.istore_n 2, 1) := by decide +kernel
theorem d28_14 : decode jdk_33_method_13_code 14 = .ok (.iconst 1, 1) := by decide +kernel
theorem d28_15 : decode jdk_33_method_13_code 15 = .ok (.istore_n 3, 1) := by decide +kernel
theorem d28_16 : decode jdk_33_method_13_code 16 = .ok (.iload_n 3, 1) := by decide +kernel
theorem d28_17 : decode jdk_33_method_13_code 17 = .ok (.bipush 10, 2) := by decide +kernel
theorem d28_19 : decode jdk_33_method_13_code 19 = .ok (.if_icmp .ge 23, 3) := by decide +kernel
theorem d28_22 : decode jdk_33_method_13_code 22 = .ok (.iload_n 0, 1) := by decide +kernel
theorem d28_23 : decode jdk_33_method_13_code 23 = .ok (.iload_n 2, 1) := by decide +kernel
theorem d28_24 : decode jdk_33_method_13_code 24 = .ok (.if_icmp .le 7, 3) := by decide +kernel
theorem d28_27 : decode jdk_33_method_13_code 27 = .ok (.iload_n 3, 1) := by decide +kernel
theorem d28_28 : decode jdk_33_method_13_code 28 = .ok (.iload_n 1, 1) := by decide +kernel
theorem d28_29 : decode jdk_33_method_13_code 29 = .ok (.iadd, 1) := by decide +kernel
theorem d28_30 : decode jdk_33_method_13_code 30 = .ok (.ireturn, 1) := by decide +kernel
theorem d28_31 : decode jdk_33_method_13_code 31 = .ok (.bipush 10, 2) := by decide +kernel
theorem d28_33 : decode jdk_33_method_13_code 33 = .ok (.iload_n 2, 1) := by decide +kernel
theorem d28_34 : decode jdk_33_method_13_code 34 = .ok (.imul, 1) := by decide +kernel
theorem d28_35 : decode jdk_33_method_13_code 35 = .ok (.istore_n 2, 1) := by decide +kernel
theorem d28_36 : decode jdk_33_method_13_code 36 = .ok (.iinc 3 1, 3) := by decide +kernel
theorem d28_39 : decode jdk_33_method_13_code 39 = .ok (.goto (-23), 3) := by decide +kernel
theorem d28_42 : decode jdk_33_method_13_code 42 = .ok (.bipush 10, 2) := by decide +kernel
theorem d28_44 : decode jdk_33_method_13_code 44 = .ok (.iload_n 1, 1) := by decide +kernel
theorem d28_45 : decode jdk_33_method_13_code 45 = .ok (.iadd, 1) := by decide +kernel
theorem d28_46 : decode jdk_33_method_13_code 46 = .ok (.ireturn, 1) := by decide +kernel
set_option maxRecDepth 65536 in
set_option maxHeartbeats 40000000 in
theorem c_size1 (l : Launch) (Z : State) (a0 : Array Value) (hw : ∀ d ∈ tables_1, d.before a0 Z = true) (hEW : EW Z a0 consts_1) (n0 : Nat) (c1 : Int32) (hc1 : ¬ c1 = 0) (S1 : Sta Z Z.heap "java/lang/String" "COMPACT_STRINGS" "Z" (.int c1)) (v2 : Value) (hv2 : v2.isRef = true) (S2 : Sta Z Z.heap "jdk/internal/util/Preconditions" "SIOOBE_FORMATTER" "Ljava/util/function/BiFunction;" v2) (N : Nat) {h0 : Heap} (o1 : Old Z n0 h0) (hlo : 0 ≤ N) (hhi : N < 10)  :
    Con Z a0 l (⟨"java/lang/Integer", "stringSize", "(I)I"⟩ : MethodName) jdk_33_method_13_code 4 (some .int) ({ frames := 0, cells := 0, slots := 0, locals := 0 } : Room) [] #[(.int (Int32.ofNat N))] consts_1 h0 n0 [] [] (VV fun w h so => w = .int (1 : Int32) ∧ h = h0 ∧ so = []) := by
  refine Con.body (plainFor_of_name pn_java_lang_Integer) hEW o1 all0 #[.val (.int (Int32.ofNat N)), .unset, .unset, .unset] (fun m => by first | (simp [entryFrame, mkF, argsToLocals, Value.category]; done) | rfl) ?_
  intro p e s m below meth c B hnm hret hlk G
  have hN : N < 2147483648 := by omega
  replace G := G.iconst 1 (1 : Int32) d28_0 rfl rfl
  replace G := G.istoreN 2 #[.val (.int (Int32.ofNat N)), .val (.int (1 : Int32)), .unset, .unset] d28_1 rfl rfl
  replace G := G.iloadN 3 d28_2 rfl rfl
  replace G := G.ifF 6 d28_3 (XT.i0_lt_f (ofn_nn hN)) rfl
  replace G := G.iconst 7 (0 : Int32) d28_6 rfl rfl
  replace G := G.istoreN 8 #[.val (.int (Int32.ofNat N)), .val (.int (0 : Int32)), .unset, .unset] d28_7 rfl rfl
  replace G := G.iloadN 9 d28_8 rfl rfl
  replace G := G.ineg 10 d28_9 rfl
  replace G := G.istoreN 11 #[.val (.int (-(Int32.ofNat N))), .val (.int (0 : Int32)), .unset, .unset] d28_10 rfl rfl
  replace G := G.bipush 13 (-10 : Int32) d28_11 (by decide) rfl
  replace G := G.istoreN 14 #[.val (.int (-(Int32.ofNat N))), .val (.int (0 : Int32)), .val (.int (-10 : Int32)), .unset] d28_13 rfl rfl
  replace G := G.iconst 15 (1 : Int32) d28_14 rfl rfl
  replace G := G.istoreN 16 #[.val (.int (-(Int32.ofNat N))), .val (.int (0 : Int32)), .val (.int (-10 : Int32)), .val (.int (1 : Int32))] d28_15 rfl rfl
  replace G := G.iloadN 17 d28_16 rfl rfl
  replace G := G.bipush 19 (10 : Int32) d28_17 (by decide) rfl
  replace G := G.icmpF 22 d28_19 (XT.ii_ge_f (by decide)) rfl
  replace G := G.iloadN 23 d28_22 rfl rfl
  replace G := G.iloadN 24 d28_23 rfl rfl
  replace G := G.icmpF 27 d28_24 (XT.ii_le_f (ng_gt (K := -10) hN rfl (by omega))) rfl
  replace G := G.iloadN 28 d28_27 rfl rfl
  replace G := G.iloadN 29 d28_28 rfl rfl
  replace G := G.iadd 30 d28_29 rfl
  replace G := G.top (y := (.int (1 : Int32))) (by decide)
  exact G.retI hret hlk d28_30 [] all0 ⟨_, rfl, rfl, rfl, rfl⟩ (Nat.le_of_ble_eq_true rfl) (Nat.le_of_ble_eq_true rfl)
theorem d30_0 : decode jdk_33_method_12_code 0 = .ok (.iload_n 1, 1) := by decide +kernel
theorem d30_1 : decode jdk_33_method_12_code 1 = .ok (.istore 5, 2) := by decide +kernel
theorem d30_3 : decode jdk_33_method_12_code 3 = .ok (.iload_n 0, 1) := by decide +kernel
theorem d30_4 : decode jdk_33_method_12_code 4 = .ok (.ifCond .ge 7, 3) := by decide +kernel
theorem d30_7 : decode jdk_33_method_12_code 7 = .ok (.iconst 1, 1) := by decide +kernel
theorem d30_8 : decode jdk_33_method_12_code 8 = .ok (.goto 4, 3) := by decide +kernel
theorem d30_11 : decode jdk_33_method_12_code 11 = .ok (.iconst 0, 1) := by decide +kernel
theorem d30_12 : decode jdk_33_method_12_code 12 = .ok (.istore 6, 2) := by decide +kernel
theorem d30_14 : decode jdk_33_method_12_code 14 = .ok (.iload 6, 2) := by decide +kernel
theorem d30_16 : decode jdk_33_method_12_code 16 = .ok (.ifCond .ne 6, 3) := by decide +kernel
theorem d30_19 : decode jdk_33_method_12_code 19 = .ok (.iload_n 0, 1) := by decide +kernel
theorem d30_20 : decode jdk_33_method_12_code 20 = .ok (.ineg, 1) := by decide +kernel
theorem d30_21 : decode jdk_33_method_12_code 21 = .ok (.istore_n 0, 1) := by decide +kernel
theorem d30_22 : decode jdk_33_method_12_code 22 = .ok (.iload_n 0, 1) := by decide +kernel
theorem d30_23 : decode jdk_33_method_12_code 23 = .ok (.bipush (-100), 2) := by decide +kernel
theorem d30_25 : decode jdk_33_method_12_code 25 = .ok (.if_icmp .gt 47, 3) := by decide +kernel
theorem d30_28 : decode jdk_33_method_12_code 28 = .ok (.iload_n 0, 1) := by decide +kernel
theorem d30_29 : decode jdk_33_method_12_code 29 = .ok (.bipush 100, 2) := by decide +kernel
theorem d30_31 : decode jdk_33_method_12_code 31 = .ok (.idiv, 1) := by decide +kernel
theorem d30_32 : decode jdk_33_method_12_code 32 = .ok (.istore_n 3, 1) := by decide +kernel
theorem d30_33 : decode jdk_33_method_12_code 33 = .ok (.iload_n 3, 1) := by decide +kernel
theorem d30_34 : decode jdk_33_method_12_code 34 = .ok (.bipush 100, 2) := by decide +kernel
theorem d30_36 : decode jdk_33_method_12_code 36 = .ok (.imul, 1) := by decide +kernel
theorem d30_37 : decode jdk_33_method_12_code 37 = .ok (.iload_n 0, 1) := by decide +kernel
theorem d30_38 : decode jdk_33_method_12_code 38 = .ok (.isub, 1) := by decide +kernel
theorem d30_39 : decode jdk_33_method_12_code 39 = .ok (.istore 4, 2) := by decide +kernel
theorem d30_41 : decode jdk_33_method_12_code 41 = .ok (.iload_n 3, 1) := by decide +kernel
theorem d30_42 : decode jdk_33_method_12_code 42 = .ok (.istore_n 0, 1) := by decide +kernel
theorem d30_43 : decode jdk_33_method_12_code 43 = .ok (.aload_n 2, 1) := by decide +kernel
theorem d30_44 : decode jdk_33_method_12_code 44 = .ok (.iinc 5 (-1), 3) := by decide +kernel
theorem d30_47 : decode jdk_33_method_12_code 47 = .ok (.iload 5, 2) := by decide +kernel
theorem d30_49 : decode jdk_33_method_12_code 49 = .ok (.getstatic 83, 3) := by decide +kernel
theorem d30_52 : decode jdk_33_method_12_code 52 = .ok (.iload 4, 2) := by decide +kernel
theorem d30_54 : decode jdk_33_method_12_code 54 = .ok (.baload, 1) := by decide +kernel
theorem d30_55 : decode jdk_33_method_12_code 55 = .ok (.bastore, 1) := by decide +kernel
theorem d30_56 : decode jdk_33_method_12_code 56 = .ok (.aload_n 2, 1) := by decide +kernel
theorem d30_57 : decode jdk_33_method_12_code 57 = .ok (.iinc 5 (-1), 3) := by decide +kernel
theorem d30_60 : decode jdk_33_method_12_code 60 = .ok (.iload 5, 2) := by decide +kernel
theorem d30_62 : decode jdk_33_method_12_code 62 = .ok (.getstatic 87, 3) := by decide +kernel
theorem d30_65 : decode jdk_33_method_12_code 65 = .ok (.iload 4, 2) := by decide +kernel
theorem d30_67 : decode jdk_33_method_12_code 67 = .ok (.baload, 1) := by decide +kernel
theorem d30_68 : decode jdk_33_method_12_code 68 = .ok (.bastore, 1) := by decide +kernel
theorem d30_69 : decode jdk_33_method_12_code 69 = .ok (.goto (-47), 3) := by decide +kernel
theorem d30_72 : decode jdk_33_method_12_code 72 = .ok (.aload_n 2, 1) := by decide +kernel
theorem d30_73 : decode jdk_33_method_12_code 73 = .ok (.iinc 5 (-1), 3) := by decide +kernel
theorem d30_76 : decode jdk_33_method_12_code 76 = .ok (.iload 5, 2) := by decide +kernel
theorem d30_78 : decode jdk_33_method_12_code 78 = .ok (.getstatic 83, 3) := by decide +kernel
theorem d30_81 : decode jdk_33_method_12_code 81 = .ok (.iload_n 0, 1) := by decide +kernel
theorem d30_82 : decode jdk_33_method_12_code 82 = .ok (.ineg, 1) := by decide +kernel
theorem d30_83 : decode jdk_33_method_12_code 83 = .ok (.baload, 1) := by decide +kernel
theorem d30_84 : decode jdk_33_method_12_code 84 = .ok (.bastore, 1) := by decide +kernel
theorem d30_85 : decode jdk_33_method_12_code 85 = .ok (.iload_n 0, 1) := by decide +kernel
theorem d30_86 : decode jdk_33_method_12_code 86 = .ok (.bipush (-9), 2) := by decide +kernel
theorem d30_88 : decode jdk_33_method_12_code 88 = .ok (.if_icmp .ge 16, 3) := by decide +kernel
theorem d30_91 : decode jdk_33_method_12_code 91 = .ok (.aload_n 2, 1) := by decide +kernel
theorem d30_92 : decode jdk_33_method_12_code 92 = .ok (.iinc 5 (-1), 3) := by decide +kernel
theorem d30_95 : decode jdk_33_method_12_code 95 = .ok (.iload 5, 2) := by decide +kernel
theorem d30_97 : decode jdk_33_method_12_code 97 = .ok (.getstatic 87, 3) := by decide +kernel
theorem d30_100 : decode jdk_33_method_12_code 100 = .ok (.iload_n 0, 1) := by decide +kernel
theorem d30_101 : decode jdk_33_method_12_code 101 = .ok (.ineg, 1) := by decide +kernel
theorem d30_102 : decode jdk_33_method_12_code 102 = .ok (.baload, 1) := by decide +kernel
theorem d30_103 : decode jdk_33_method_12_code 103 = .ok (.bastore, 1) := by decide +kernel
theorem d30_104 : decode jdk_33_method_12_code 104 = .ok (.iload 6, 2) := by decide +kernel
theorem d30_106 : decode jdk_33_method_12_code 106 = .ok (.ifCond .eq 12, 3) := by decide +kernel
theorem d30_109 : decode jdk_33_method_12_code 109 = .ok (.aload_n 2, 1) := by decide +kernel
theorem d30_110 : decode jdk_33_method_12_code 110 = .ok (.iinc 5 (-1), 3) := by decide +kernel
theorem d30_113 : decode jdk_33_method_12_code 113 = .ok (.iload 5, 2) := by decide +kernel
theorem d30_115 : decode jdk_33_method_12_code 115 = .ok (.bipush 45, 2) := by decide +kernel
theorem d30_117 : decode jdk_33_method_12_code 117 = .ok (.bastore, 1) := by decide +kernel
theorem d30_118 : decode jdk_33_method_12_code 118 = .ok (.iload 5, 2) := by decide +kernel
theorem d30_120 : decode jdk_33_method_12_code 120 = .ok (.ireturn, 1) := by decide +kernel
set_option maxRecDepth 65536 in
set_option maxHeartbeats 40000000 in
theorem c_getC1 (l : Launch) (Z : State) (a0 : Array Value) (hw : ∀ d ∈ tables_1, d.before a0 Z = true) (hEW : EW Z a0 consts_1) (n0 : Nat) (c1 : Int32) (hc1 : ¬ c1 = 0) (S1 : Sta Z Z.heap "java/lang/String" "COMPACT_STRINGS" "Z" (.int c1)) (v2 : Value) (hv2 : v2.isRef = true) (S2 : Sta Z Z.heap "jdk/internal/util/Preconditions" "SIOOBE_FORMATTER" "Ljava/util/function/BiFunction;" v2) (t1 t2 : Addr) (kt1 kt2 : ClassId) (SD1 : Sta Z Z.heap "java/lang/Integer" "DigitOnes" "[B" (.ref t1)) (SD2 : Sta Z Z.heap "java/lang/Integer" "DigitTens" "[B" (.ref t2)) (AD1 : Arv Z Z.heap t1 kt1 .byte 100 dOnes (.int 0)) (AD2 : Arv Z Z.heap t2 kt2 .byte 100 dTens (.int 0)) (b : Addr) (kb : ClassId) (cap : Nat) (bs : List Value) (N : Nat) {h0 : Heap} (o1 : Old Z n0 h0) (ge_b : n0 ≤ b) (hlo : 0 ≤ N) (hhi : N < 10) (hle : bs.length + 1 ≤ cap) (hcap : cap < 2147483648) (Ab : Arv Z h0 b kb .byte (Int32.ofNat cap) bs (.int 0)) :
    Con Z a0 l (⟨"java/lang/Integer", "getChars", "(II[B)I"⟩ : MethodName) jdk_33_method_12_code 7 (some .int) ({ frames := 0, cells := 0, slots := 0, locals := 0 } : Room) [] #[(.int (Int32.ofNat N)), (.int (Int32.ofNat (bs.length + 1))), (.ref b)] consts_1 h0 n0 [b] [b] (VV fun w h so => w = .int (Int32.ofNat (bs.length + 0)) ∧ Arv Z h b kb .byte (Int32.ofNat cap) (bs ++ [dg N 0]) (.int 0) ∧ so = []) := by
  refine Con.body (plainFor_of_name pn_java_lang_Integer) hEW o1 (allS ge_b all0) #[.val (.int (Int32.ofNat N)), .val (.int (Int32.ofNat (bs.length + 1))), .val (.ref b), .unset, .unset, .unset, .unset] (fun m => by first | (simp [entryFrame, mkF, argsToLocals, Value.category]; done) | rfl) ?_
  intro p e s m below meth c B hnm hret hlk G
  have hN : N < 2147483648 := by omega
  have hn : bs.length < 2147483648 := by omega
  replace Ab := Ab.pad (vs' := bs ++ [(.int 0)]) (pad_rep bs (.int 0) 1)
  replace G := G.iloadN 1 d30_0 rfl rfl
  replace G := G.istore 3 #[.val (.int (Int32.ofNat N)), .val (.int (Int32.ofNat (bs.length + 1))), .val (.ref b), .unset, .unset, .val (.int (Int32.ofNat (bs.length + 1))), .unset] d30_1 rfl rfl
  replace G := G.iloadN 4 d30_3 rfl rfl
  replace G := G.ifT 11 d30_4 (XT.i0_ge_t (ofn_nn hN)) (by decide) (by decide)
  replace G := G.iconst 12 (0 : Int32) d30_11 rfl rfl
  replace G := G.istore 14 #[.val (.int (Int32.ofNat N)), .val (.int (Int32.ofNat (bs.length + 1))), .val (.ref b), .unset, .unset, .val (.int (Int32.ofNat (bs.length + 1))), .val (.int (0 : Int32))] d30_12 rfl rfl
  replace G := G.iload 16 d30_14 rfl rfl
  replace G := G.ifF 19 d30_16 (XT.i0_ne_f rfl) rfl
  replace G := G.iloadN 20 d30_19 rfl rfl
  replace G := G.ineg 21 d30_20 rfl
  replace G := G.istoreN 22 #[.val (.int (-(Int32.ofNat N))), .val (.int (Int32.ofNat (bs.length + 1))), .val (.ref b), .unset, .unset, .val (.int (Int32.ofNat (bs.length + 1))), .val (.int (0 : Int32))] d30_21 rfl rfl
  replace G := G.iloadN 23 d30_22 rfl rfl
  replace G := G.bipush 25 (-100 : Int32) d30_23 (by decide) rfl
  replace G := G.icmpT 72 d30_25 (XT.ii_gt_t (ng_gt (K := -100) (by omega) rfl (by omega))) (by decide) (by decide)
  replace G := G.aloadN 73 d30_72 rfl rfl rfl
  replace G := G.iincV 76 #[.val (.int (-(Int32.ofNat N))), .val (.int (Int32.ofNat (bs.length + 1))), .val (.ref b), .unset, .unset, .val (.int (Int32.ofNat (bs.length + 0))), .val (.int (0 : Int32))] (Int32.ofNat (bs.length + 0)) d30_73 rfl (ofn_pred (bs.length + 0)) rfl rfl
  replace G := G.iload 78 d30_76 rfl rfl
  replace G := G.gets 81 (host := "") (Or.inl (hw _ (List.mem_of_getElem? (i := 168) rfl))) Via.refl (G.sta SD1) d30_78 rfl
  replace G := G.iloadN 82 d30_81 rfl rfl
  replace G := G.ineg 83 d30_82 rfl
  replace G := G.top (y := (.int (Int32.ofNat (N)))) (congrArg Value.int Int32.neg_neg)
  replace G := G.baload 84 (v := (.int (Int32.ofNat (48 + N % 10)))) (AD1.ext G.old.2) ⟨ofn_nn (by omega), ofn_lt (n := 100) (by omega) (by decide)⟩ (by rw [ofn_nat (by omega)]; exact dOnes_at (by omega)) d30_83 rfl
  obtain ⟨g1, G', As, Ks⟩ := G.bastore 85 (bs.length + 0) Ab ⟨ofn_nn (by omega), ofn_lt (by omega) hcap⟩ (ofn_nat (by omega)) (by simp) (Or.inl (List.mem_of_getElem? (i := 0) rfl)) (List.mem_of_getElem? (i := 0) rfl) d30_84 rfl
  clear G; have G := G'; clear G'
  rw [set_app2 _ _ 0 _ _ rfl, dig_b (by omega)] at As
  replace Ab : Arv Z g1 b kb .byte (Int32.ofNat cap) (bs ++ [(.int (Int32.ofNat (48 + N % 10)))]) (.int 0) := As
  replace G := G.iloadN 86 d30_85 rfl rfl
  replace G := G.bipush 88 (-9 : Int32) d30_86 (by decide) rfl
  replace G := G.icmpT 104 d30_88 (XT.ii_ge_t (ng_nlt (K := -9) (by omega) rfl (by omega))) (by decide) (by decide)
  replace G := G.iload 106 d30_104 rfl rfl
  replace G := G.ifT 118 d30_106 (XT.i0_eq_t rfl) (by decide) (by decide)
  replace G := G.iload 120 d30_118 rfl rfl
  have hdg : ([(.int (Int32.ofNat (48 + N % 10)))] : List Value) = [dg N 0] := by
    simp only [dg, List.cons.injEq, Value.int.injEq, and_true, Nat.reducePow]
    congr 2; omega
  rw [hdg] at Ab
  exact G.retI hret hlk d30_120 [] all0 ⟨_, rfl, rfl, Ab, rfl⟩ (Nat.le_of_ble_eq_true rfl) (Nat.le_of_ble_eq_true rfl)
theorem d27_0 : decode jdk_68_method_32_code 0 = .ok (.aload_n 0, 1) := by decide +kernel
theorem d27_1 : decode jdk_68_method_32_code 1 = .ok (.getfield 79, 3) := by decide +kernel
theorem d27_4 : decode jdk_68_method_32_code 4 = .ok (.istore_n 2, 1) := by decide +kernel
theorem d27_5 : decode jdk_68_method_32_code 5 = .ok (.iload_n 2, 1) := by decide +kernel
theorem d27_6 : decode jdk_68_method_32_code 6 = .ok (.iload_n 1, 1) := by decide +kernel
theorem d27_7 : decode jdk_68_method_32_code 7 = .ok (.invokestatic 245, 3) := by decide +kernel
theorem d27_10 : decode jdk_68_method_32_code 10 = .ok (.iadd, 1) := by decide +kernel
theorem d27_11 : decode jdk_68_method_32_code 11 = .ok (.istore_n 3, 1) := by decide +kernel
theorem d27_12 : decode jdk_68_method_32_code 12 = .ok (.aload_n 0, 1) := by decide +kernel
theorem d27_13 : decode jdk_68_method_32_code 13 = .ok (.iload_n 3, 1) := by decide +kernel
theorem d27_14 : decode jdk_68_method_32_code 14 = .ok (.invokevirtual 100, 3) := by decide +kernel
theorem d27_17 : decode jdk_68_method_32_code 17 = .ok (.aload_n 0, 1) := by decide +kernel
theorem d27_18 : decode jdk_68_method_32_code 18 = .ok (.invokevirtual 83, 3) := by decide +kernel
theorem d27_21 : decode jdk_68_method_32_code 21 = .ok (.ifCond .eq 16, 3) := by decide +kernel
theorem d27_24 : decode jdk_68_method_32_code 24 = .ok (.iload_n 1, 1) := by decide +kernel
theorem d27_25 : decode jdk_68_method_32_code 25 = .ok (.iload_n 3, 1) := by decide +kernel
theorem d27_26 : decode jdk_68_method_32_code 26 = .ok (.aload_n 0, 1) := by decide +kernel
theorem d27_27 : decode jdk_68_method_32_code 27 = .ok (.getfield 15, 3) := by decide +kernel
theorem d27_30 : decode jdk_68_method_32_code 30 = .ok (.invokestatic 248, 3) := by decide +kernel
theorem d27_33 : decode jdk_68_method_32_code 33 = .ok (.pop, 1) := by decide +kernel
theorem d27_34 : decode jdk_68_method_32_code 34 = .ok (.goto 14, 3) := by decide +kernel
theorem d27_37 : decode jdk_68_method_32_code 37 = .ok (.iload_n 1, 1) := by decide +kernel
theorem d27_38 : decode jdk_68_method_32_code 38 = .ok (.iload_n 2, 1) := by decide +kernel
theorem d27_39 : decode jdk_68_method_32_code 39 = .ok (.iload_n 3, 1) := by decide +kernel
theorem d27_40 : decode jdk_68_method_32_code 40 = .ok (.aload_n 0, 1) := by decide +kernel
theorem d27_41 : decode jdk_68_method_32_code 41 = .ok (.getfield 15, 3) := by decide +kernel
theorem d27_44 : decode jdk_68_method_32_code 44 = .ok (.invokestatic 251, 3) := by decide +kernel
theorem d27_47 : decode jdk_68_method_32_code 47 = .ok (.pop, 1) := by decide +kernel
theorem d27_48 : decode jdk_68_method_32_code 48 = .ok (.aload_n 0, 1) := by decide +kernel
theorem d27_49 : decode jdk_68_method_32_code 49 = .ok (.iload_n 3, 1) := by decide +kernel
theorem d27_50 : decode jdk_68_method_32_code 50 = .ok (.putfield 79, 3) := by decide +kernel
theorem d27_53 : decode jdk_68_method_32_code 53 = .ok (.aload_n 0, 1) := by decide +kernel
theorem d27_54 : decode jdk_68_method_32_code 54 = .ok (.areturn, 1) := by decide +kernel
set_option maxRecDepth 65536 in
set_option maxHeartbeats 40000000 in
theorem c_asbI1 (l : Launch) (Z : State) (a0 : Array Value) (hw : ∀ d ∈ tables_1, d.before a0 Z = true) (hEW : EW Z a0 consts_1) (n0 : Nat) (c1 : Int32) (hc1 : ¬ c1 = 0) (S1 : Sta Z Z.heap "java/lang/String" "COMPACT_STRINGS" "Z" (.int c1)) (v2 : Value) (hv2 : v2.isRef = true) (S2 : Sta Z Z.heap "jdk/internal/util/Preconditions" "SIOOBE_FORMATTER" "Ljava/util/function/BiFunction;" v2) (t1 t2 : Addr) (kt1 kt2 : ClassId) (SD1 : Sta Z Z.heap "java/lang/Integer" "DigitOnes" "[B" (.ref t1)) (SD2 : Sta Z Z.heap "java/lang/Integer" "DigitTens" "[B" (.ref t2)) (AD1 : Arv Z Z.heap t1 kt1 .byte 100 dOnes (.int 0)) (AD2 : Arv Z Z.heap t2 kt2 .byte 100 dTens (.int 0)) (a b : Addr) (cap : Nat) (bs : List Value) (N : Nat) {h0 : Heap} (o1 : Old Z n0 h0) (ge_a : n0 ≤ a) (ge_b : n0 ≤ b) (hlo : 0 ≤ N) (hhi : N < 10) (hle : bs.length + 1 ≤ cap) (hcap : cap < 2147483648) (hS : Sbd Z h0 a b cap bs) :
    Con Z a0 l (⟨"java/lang/AbstractStringBuilder", "append", "(I)Ljava/lang/AbstractStringBuilder;"⟩ : MethodName) jdk_68_method_32_code 4 (some (.object "java/lang/AbstractStringBuilder")) ({ frames := 1, cells := 0, slots := 0, locals := 18 } : Room) [] #[(.ref a), (.int (Int32.ofNat N))] consts_1 h0 n0 [a, b] [a, b] (VV fun w h so => w = .ref a ∧ Sbd Z h a b cap (bs ++ [dg N 0]) ∧ so = []) := by
  refine Con.body (plainFor_of_name pn_java_lang_AbstractStringBuilder) hEW o1 (allS ge_a (allS ge_b all0)) #[.val (.ref a), .val (.int (Int32.ofNat N)), .unset, .unset] (fun m => by first | (simp [entryFrame, mkF, argsToLocals, Value.category]; done) | rfl) ?_
  intro p e s m below meth c B hnm hret hlk G
  replace G := G.aloadN 1 d27_0 rfl rfl rfl
  replace G := G.getf 4 (host := "") (Or.inl (hw _ (List.mem_of_getElem? (i := 119) rfl))) Via.refl hS.2.2.2.1 d27_1 rfl
  replace G := G.istoreN 5 #[.val (.ref a), .val (.int (Int32.ofNat N)), .val (.int (Int32.ofNat bs.length)), .unset] d27_4 rfl rfl
  replace G := G.iloadN 6 d27_5 rfl rfl
  replace G := G.iloadN 7 d27_6 rfl rfl
  obtain ⟨vz, h_z, soz, G', Kz, Qz⟩ := G.callS 10 (hw _ (List.mem_of_getElem? (i := 156) rfl)) (hw _ (List.mem_of_getElem? (i := 157) rfl)) (hw _ (List.mem_of_getElem? (i := 158) rfl)) (hw _ (List.mem_of_getElem? (i := 159) rfl)) (by decide) [(.int (Int32.ofNat N))] [(.int (Int32.ofNat bs.length))] rfl (c_size1 l Z a0 hw hEW n0 c1 hc1 S1 v2 hv2 S2 N G.old hlo hhi) (lenOf pd__I_I rfl) d27_7 rfl (Nat.le_of_ble_eq_true rfl) (Nat.le_of_ble_eq_true rfl) (Nat.le_of_ble_eq_true rfl) (Nat.le_of_ble_eq_true rfl) all0 all0 all0 rfl
  clear G; have G := G'; clear G'
  obtain ⟨wz, qz, rfl, ez, rfl⟩ := Qz
  replace G := G.val qz
  subst ez
  replace G := G.iadd 11 d27_10 rfl
  replace G := G.top (y := (.int (Int32.ofNat (bs.length + 1)))) (congrArg Value.int (ofn_add bs.length 1))
  replace G := G.istoreN 12 #[.val (.ref a), .val (.int (Int32.ofNat N)), .val (.int (Int32.ofNat bs.length)), .val (.int (Int32.ofNat (bs.length + 1)))] d27_11 rfl rfl
  replace G := G.aloadN 13 d27_12 rfl rfl rfl
  replace G := G.iloadN 14 d27_13 rfl rfl
  obtain ⟨ve, h_e, soe, G', Ke, Qe⟩ := G.callV 17 (hw _ (List.mem_of_getElem? (i := 121) rfl)) (declOf (hw _ (List.mem_of_getElem? (i := 122) rfl)) (hw _ (List.mem_of_getElem? (i := 125) rfl))) (nfSel (hw _ (List.mem_of_getElem? (i := 124) rfl))) (hw _ (List.mem_of_getElem? (i := 124) rfl)) (hw _ (List.mem_of_getElem? (i := 122) rfl)) (hw _ (List.mem_of_getElem? (i := 91) rfl)) (hw _ (List.mem_of_getElem? (i := 125) rfl)) hS.1 (by decide) [(.int (Int32.ofNat (bs.length + 1)))] [] rfl (c_ensNG l Z a0 hw hEW n0 c1 hc1 S1 v2 hv2 S2 a b cap (bs.length + 1) bs G.old hle hcap hS) (lenOf pd__I_V rfl) d27_14 rfl (Nat.le_of_ble_eq_true rfl) (Nat.le_of_ble_eq_true rfl) (Nat.le_of_ble_eq_true rfl) (Nat.le_of_ble_eq_true rfl) all0 all0 all0 rfl
  clear G; have G := G'; clear G'
  obtain ⟨qe, ee, rfl⟩ := Qe
  replace G := G.nov qe
  subst ee
  replace G := G.aloadN 18 d27_17 rfl rfl rfl
  obtain ⟨vl, h_l, sol, G', Kl, Ql⟩ := G.callV 21 (hw _ (List.mem_of_getElem? (i := 160) rfl)) (hw _ (List.mem_of_getElem? (i := 161) rfl)) (nfSel (hw _ (List.mem_of_getElem? (i := 163) rfl))) (hw _ (List.mem_of_getElem? (i := 163) rfl)) (hw _ (List.mem_of_getElem? (i := 162) rfl)) (hw _ (List.mem_of_getElem? (i := 91) rfl)) (hw _ (List.mem_of_getElem? (i := 164) rfl)) hS.1 (by decide) [] [] rfl (c_isL1 l Z a0 hw hEW n0 c1 hc1 S1 v2 hv2 S2 a b cap bs G.old hS) (lenOf pd___Z rfl) d27_18 rfl (Nat.le_of_ble_eq_true rfl) (Nat.le_of_ble_eq_true rfl) (Nat.le_of_ble_eq_true rfl) (Nat.le_of_ble_eq_true rfl) all0 all0 all0 rfl
  clear G; have G := G'; clear G'
  obtain ⟨wl, ql, rfl, el, rfl⟩ := Ql
  replace G := G.val ql
  subst el
  replace G := G.ifF 24 d27_21 (XT.i0_eq_f (by decide)) rfl
  replace G := G.iloadN 25 d27_24 rfl rfl
  replace G := G.iloadN 26 d27_25 rfl rfl
  replace G := G.aloadN 27 d27_26 rfl rfl rfl
  replace G := G.getf 30 (host := "") (Or.inl (hw _ (List.mem_of_getElem? (i := 95) rfl))) Via.refl hS.2.1 d27_27 rfl
  obtain ⟨Xa, Fv, Fc, Fn, kb, Ab⟩ := hS
  obtain ⟨vp, h1, sop, G', Kp, Qp⟩ := G.callS 33 (hw _ (List.mem_of_getElem? (i := 165) rfl)) (hw _ (List.mem_of_getElem? (i := 166) rfl)) (hw _ (List.mem_of_getElem? (i := 158) rfl)) (hw _ (List.mem_of_getElem? (i := 167) rfl)) (by decide) [(.int (Int32.ofNat N)), (.int (Int32.ofNat (bs.length + 1))), (.ref b)] [] rfl (c_getC1 l Z a0 hw hEW n0 c1 hc1 S1 v2 hv2 S2 t1 t2 kt1 kt2 SD1 SD2 AD1 AD2 b kb cap bs N G.old ge_b hlo hhi hle hcap Ab) (lenOf pd__II_B_I rfl) d27_30 rfl (Nat.le_of_ble_eq_true rfl) (Nat.le_of_ble_eq_true rfl) (Nat.le_of_ble_eq_true rfl) (Nat.le_of_ble_eq_true rfl) (allS (Or.inl (List.mem_of_getElem? (i := 1) rfl)) all0) (allS (List.mem_of_getElem? (i := 1) rfl) all0) (allS (List.mem_of_getElem? (i := 1) rfl) all0) rfl
  clear G; have G := G'; clear G'
  obtain ⟨wp, qp, rfl, Ab1, rfl⟩ := Qp
  replace G := G.val qp
  have nab : a ≠ b := ne_arr Xa (hw _ (List.mem_of_getElem? (i := 82) rfl)) Ab.choose_spec.1
  replace Xa := Xa.keep Kp; replace Fv := Fv.keep Kp (ninS nab nin0); replace Fc := Fc.keep Kp (ninS nab nin0); replace Fn := Fn.keep Kp (ninS nab nin0)
  replace G := G.pop 34 d27_33 rfl rfl
  replace G := G.goto 48 d27_34 (by decide) (by decide)
  replace G := G.aloadN 49 d27_48 rfl rfl rfl
  replace G := G.iloadN 50 d27_49 rfl rfl
  replace G := G.top (y := (.int (Int32.ofNat (bs ++ [dg N 0]).length))) (congrArg Value.int (by rw [List.length_append]; rfl))
  obtain ⟨h2, G', Ww, Fw, Kw⟩ := G.putf 53 (host := "") (Or.inl (hw _ (List.mem_of_getElem? (i := 119) rfl))) Via.refl Fn Xa (Or.inl (hw _ (List.mem_of_getElem? (i := 120) rfl))) (hw _ (List.mem_of_getElem? (i := 82) rfl)) (ty := .int) (by decide) rfl rfl (Or.inl (List.mem_of_getElem? (i := 0) rfl)) (List.mem_of_getElem? (i := 0) rfl) d27_50 rfl
  clear G; have G := G'; clear G'
  replace Fv := Fv.other Ww (Or.inr (slot_ne (Or.inl (hw _ (List.mem_of_getElem? (i := 96) rfl))) (Or.inl (hw _ (List.mem_of_getElem? (i := 120) rfl))) (by decide) (t := (.array .byte)) (t' := .int) (by decide) (by decide)))
  replace Fc := Fc.other Ww (Or.inr (slot_ne (Or.inl (hw _ (List.mem_of_getElem? (i := 98) rfl))) (Or.inl (hw _ (List.mem_of_getElem? (i := 120) rfl))) (by decide) (t := .byte) (t' := .int) (by decide) (by decide)))
  replace Xa := Xa.wr Ww; replace Ab1 := Ab1.keep Kw (ninS nab.symm nin0)
  replace G := G.aloadN 54 d27_53 rfl rfl rfl
  exact G.retA hret rfl rfl hlk d27_54 [] all0 ⟨_, rfl, rfl, ⟨Xa, Fv, Fc, Fw, kb, Ab1⟩, rfl⟩ (Nat.le_of_ble_eq_true rfl) (Nat.le_of_ble_eq_true rfl)
theorem d26_0 : decode jdk_67_method_15_code 0 = .ok (.aload_n 0, 1) := by decide +kernel
theorem d26_1 : decode jdk_67_method_15_code 1 = .ok (.iload_n 1, 1) := by decide +kernel
theorem d26_2 : decode jdk_67_method_15_code 2 = .ok (.invokespecial 53, 3) := by decide +kernel
theorem d26_5 : decode jdk_67_method_15_code 5 = .ok (.pop, 1) := by decide +kernel
theorem d26_6 : decode jdk_67_method_15_code 6 = .ok (.aload_n 0, 1) := by decide +kernel
theorem d26_7 : decode jdk_67_method_15_code 7 = .ok (.areturn, 1) := by decide +kernel
set_option maxRecDepth 65536 in
set_option maxHeartbeats 40000000 in
theorem c_appI1 (l : Launch) (Z : State) (a0 : Array Value) (hw : ∀ d ∈ tables_1, d.before a0 Z = true) (hEW : EW Z a0 consts_1) (n0 : Nat) (c1 : Int32) (hc1 : ¬ c1 = 0) (S1 : Sta Z Z.heap "java/lang/String" "COMPACT_STRINGS" "Z" (.int c1)) (v2 : Value) (hv2 : v2.isRef = true) (S2 : Sta Z Z.heap "jdk/internal/util/Preconditions" "SIOOBE_FORMATTER" "Ljava/util/function/BiFunction;" v2) (t1 t2 : Addr) (kt1 kt2 : ClassId) (SD1 : Sta Z Z.heap "java/lang/Integer" "DigitOnes" "[B" (.ref t1)) (SD2 : Sta Z Z.heap "java/lang/Integer" "DigitTens" "[B" (.ref t2)) (AD1 : Arv Z Z.heap t1 kt1 .byte 100 dOnes (.int 0)) (AD2 : Arv Z Z.heap t2 kt2 .byte 100 dTens (.int 0)) (a b : Addr) (cap : Nat) (bs : List Value) (N : Nat) {h0 : Heap} (o1 : Old Z n0 h0) (ge_a : n0 ≤ a) (ge_b : n0 ≤ b) (hlo : 0 ≤ N) (hhi : N < 10) (hle : bs.length + 1 ≤ cap) (hcap : cap < 2147483648) (hS : Sbd Z h0 a b cap bs) :
    Con Z a0 l (⟨"java/lang/StringBuilder", "append", "(I)Ljava/lang/StringBuilder;"⟩ : MethodName) jdk_67_method_15_code 2 (some (.object "java/lang/StringBuilder")) ({ frames := 2, cells := 0, slots := 0, locals := 33 } : Room) [] #[(.ref a), (.int (Int32.ofNat N))] consts_1 h0 n0 [a, b] [a, b] (VV fun w h so => w = .ref a ∧ Sbd Z h a b cap (bs ++ [dg N 0]) ∧ so = []) := by
  refine Con.body (plainFor_of_name pn_java_lang_StringBuilder) hEW o1 (allS ge_a (allS ge_b all0)) #[.val (.ref a), .val (.int (Int32.ofNat N))] (fun m => by first | (simp [entryFrame, mkF, argsToLocals, Value.category]; done) | rfl) ?_
  intro p e s m below meth c B hnm hret hlk G
  replace G := G.aloadN 1 d26_0 rfl rfl rfl
  replace G := G.iloadN 2 d26_1 rfl rfl
  obtain ⟨vp, h1, sop, G', Kp, Qp⟩ := G.callSup 5 (hw _ (List.mem_of_getElem? (i := 152) rfl)) (sameOf (hw _ (List.mem_of_getElem? (i := 153) rfl)) (nfVia (y := (⟨"java/lang/AbstractStringBuilder", "ensureCapacityInternal", "(I)V"⟩ : MethodName)) rfl (hw _ (List.mem_of_getElem? (i := 124) rfl)) (hw _ (List.mem_of_getElem? (i := 122) rfl))) (by decide)) (hw _ (List.mem_of_getElem? (i := 153) rfl)) (hw _ (List.mem_of_getElem? (i := 106) rfl)) (by decide) (hw _ (List.mem_of_getElem? (i := 91) rfl)) (hw _ (List.mem_of_getElem? (i := 155) rfl)) (Ins.self hS.1) [(.int (Int32.ofNat N))] [] rfl (c_asbI1 l Z a0 hw hEW n0 c1 hc1 S1 v2 hv2 S2 t1 t2 kt1 kt2 SD1 SD2 AD1 AD2 a b cap bs N G.old ge_a ge_b hlo hhi hle hcap hS) (lenOf pd__I_Ljava_lang_AbstractStringBuilder_ rfl) d26_2 rfl (Nat.le_of_ble_eq_true rfl) (Nat.le_of_ble_eq_true rfl) (Nat.le_of_ble_eq_true rfl) (Nat.le_of_ble_eq_true rfl) (allS (Or.inl (List.mem_of_getElem? (i := 0) rfl)) (allS (Or.inl (List.mem_of_getElem? (i := 1) rfl)) all0)) (allS (List.mem_of_getElem? (i := 0) rfl) (allS (List.mem_of_getElem? (i := 1) rfl) all0)) (allS (List.mem_of_getElem? (i := 0) rfl) (allS (List.mem_of_getElem? (i := 1) rfl) all0)) rfl
  clear G; have G := G'; clear G'
  obtain ⟨wp, qp, rfl, hS1, rfl⟩ := Qp
  replace G := G.val qp
  replace G := G.pop 6 d26_5 rfl rfl
  replace G := G.aloadN 7 d26_6 rfl rfl rfl
  exact G.retA hret rfl rfl hlk d26_7 [] all0 ⟨_, rfl, rfl, hS1, rfl⟩ (Nat.le_of_ble_eq_true rfl) (Nat.le_of_ble_eq_true rfl)
set_option maxRecDepth 65536 in
set_option maxHeartbeats 40000000 in
theorem c_size2 (l : Launch) (Z : State) (a0 : Array Value) (hw : ∀ d ∈ tables_1, d.before a0 Z = true) (hEW : EW Z a0 consts_1) (n0 : Nat) (c1 : Int32) (hc1 : ¬ c1 = 0) (S1 : Sta Z Z.heap "java/lang/String" "COMPACT_STRINGS" "Z" (.int c1)) (v2 : Value) (hv2 : v2.isRef = true) (S2 : Sta Z Z.heap "jdk/internal/util/Preconditions" "SIOOBE_FORMATTER" "Ljava/util/function/BiFunction;" v2) (N : Nat) {h0 : Heap} (o1 : Old Z n0 h0) (hlo : 10 ≤ N) (hhi : N < 100)  :
    Con Z a0 l (⟨"java/lang/Integer", "stringSize", "(I)I"⟩ : MethodName) jdk_33_method_13_code 4 (some .int) ({ frames := 0, cells := 0, slots := 0, locals := 0 } : Room) [] #[(.int (Int32.ofNat N))] consts_1 h0 n0 [] [] (VV fun w h so => w = .int (2 : Int32) ∧ h = h0 ∧ so = []) := by
  refine Con.body (plainFor_of_name pn_java_lang_Integer) hEW o1 all0 #[.val (.int (Int32.ofNat N)), .unset, .unset, .unset] (fun m => by first | (simp [entryFrame, mkF, argsToLocals, Value.category]; done) | rfl) ?_
  intro p e s m below meth c B hnm hret hlk G
  have hN : N < 2147483648 := by omega
  replace G := G.iconst 1 (1 : Int32) d28_0 rfl rfl
  replace G := G.istoreN 2 #[.val (.int (Int32.ofNat N)), .val (.int (1 : Int32)), .unset, .unset] d28_1 rfl rfl
  replace G := G.iloadN 3 d28_2 rfl rfl
  replace G := G.ifF 6 d28_3 (XT.i0_lt_f (ofn_nn hN)) rfl
  replace G := G.iconst 7 (0 : Int32) d28_6 rfl rfl
  replace G := G.istoreN 8 #[.val (.int (Int32.ofNat N)), .val (.int (0 : Int32)), .unset, .unset] d28_7 rfl rfl
  replace G := G.iloadN 9 d28_8 rfl rfl
  replace G := G.ineg 10 d28_9 rfl
  replace G := G.istoreN 11 #[.val (.int (-(Int32.ofNat N))), .val (.int (0 : Int32)), .unset, .unset] d28_10 rfl rfl
  replace G := G.bipush 13 (-10 : Int32) d28_11 (by decide) rfl
  replace G := G.istoreN 14 #[.val (.int (-(Int32.ofNat N))), .val (.int (0 : Int32)), .val (.int (-10 : Int32)), .unset] d28_13 rfl rfl
  replace G := G.iconst 15 (1 : Int32) d28_14 rfl rfl
  replace G := G.istoreN 16 #[.val (.int (-(Int32.ofNat N))), .val (.int (0 : Int32)), .val (.int (-10 : Int32)), .val (.int (1 : Int32))] d28_15 rfl rfl
  replace G := G.iloadN 17 d28_16 rfl rfl
  replace G := G.bipush 19 (10 : Int32) d28_17 (by decide) rfl
  replace G := G.icmpF 22 d28_19 (XT.ii_ge_f (by decide)) rfl
  replace G := G.iloadN 23 d28_22 rfl rfl
  replace G := G.iloadN 24 d28_23 rfl rfl
  replace G := G.icmpT 31 d28_24 (XT.ii_le_t (ng_ngt (K := -10) hN rfl (by omega))) (by decide) (by decide)
  replace G := G.bipush 33 (10 : Int32) d28_31 (by decide) rfl
  replace G := G.iloadN 34 d28_33 rfl rfl
  replace G := G.imul 35 d28_34 rfl
  replace G := G.top (y := (.int (-100 : Int32))) (by decide)
  replace G := G.istoreN 36 #[.val (.int (-(Int32.ofNat N))), .val (.int (0 : Int32)), .val (.int (-100 : Int32)), .val (.int (1 : Int32))] d28_35 rfl rfl
  replace G := G.iincV 39 #[.val (.int (-(Int32.ofNat N))), .val (.int (0 : Int32)), .val (.int (-100 : Int32)), .val (.int (2 : Int32))] (2 : Int32) d28_36 rfl (by decide) rfl rfl
  replace G := G.goto 16 d28_39 (by decide) (by decide)
  replace G := G.iloadN 17 d28_16 rfl rfl
  replace G := G.bipush 19 (10 : Int32) d28_17 (by decide) rfl
  replace G := G.icmpF 22 d28_19 (XT.ii_ge_f (by decide)) rfl
  replace G := G.iloadN 23 d28_22 rfl rfl
  replace G := G.iloadN 24 d28_23 rfl rfl
  replace G := G.icmpF 27 d28_24 (XT.ii_le_f (ng_gt (K := -100) hN rfl (by omega))) rfl
  replace G := G.iloadN 28 d28_27 rfl rfl
  replace G := G.iloadN 29 d28_28 rfl rfl
  replace G := G.iadd 30 d28_29 rfl
  replace G := G.top (y := (.int (2 : Int32))) (by decide)
  exact G.retI hret hlk d28_30 [] all0 ⟨_, rfl, rfl, rfl, rfl⟩ (Nat.le_of_ble_eq_true rfl) (Nat.le_of_ble_eq_true rfl)
set_option maxRecDepth 65536 in
set_option maxHeartbeats 40000000 in
theorem c_getC2 (l : Launch) (Z : State) (a0 : Array Value) (hw : ∀ d ∈ tables_1, d.before a0 Z = true) (hEW : EW Z a0 consts_1) (n0 : Nat) (c1 : Int32) (hc1 : ¬ c1 = 0) (S1 : Sta Z Z.heap "java/lang/String" "COMPACT_STRINGS" "Z" (.int c1)) (v2 : Value) (hv2 : v2.isRef = true) (S2 : Sta Z Z.heap "jdk/internal/util/Preconditions" "SIOOBE_FORMATTER" "Ljava/util/function/BiFunction;" v2) (t1 t2 : Addr) (kt1 kt2 : ClassId) (SD1 : Sta Z Z.heap "java/lang/Integer" "DigitOnes" "[B" (.ref t1)) (SD2 : Sta Z Z.heap "java/lang/Integer" "DigitTens" "[B" (.ref t2)) (AD1 : Arv Z Z.heap t1 kt1 .byte 100 dOnes (.int 0)) (AD2 : Arv Z Z.heap t2 kt2 .byte 100 dTens (.int 0)) (b : Addr) (kb : ClassId) (cap : Nat) (bs : List Value) (N : Nat) {h0 : Heap} (o1 : Old Z n0 h0) (ge_b : n0 ≤ b) (hlo : 10 ≤ N) (hhi : N < 100) (hle : bs.length + 2 ≤ cap) (hcap : cap < 2147483648) (Ab : Arv Z h0 b kb .byte (Int32.ofNat cap) bs (.int 0)) :
    Con Z a0 l (⟨"java/lang/Integer", "getChars", "(II[B)I"⟩ : MethodName) jdk_33_method_12_code 7 (some .int) ({ frames := 0, cells := 0, slots := 0, locals := 0 } : Room) [] #[(.int (Int32.ofNat N)), (.int (Int32.ofNat (bs.length + 2))), (.ref b)] consts_1 h0 n0 [b] [b] (VV fun w h so => w = .int (Int32.ofNat (bs.length + 0)) ∧ Arv Z h b kb .byte (Int32.ofNat cap) (bs ++ [dg N 1, dg N 0]) (.int 0) ∧ so = []) := by
  refine Con.body (plainFor_of_name pn_java_lang_Integer) hEW o1 (allS ge_b all0) #[.val (.int (Int32.ofNat N)), .val (.int (Int32.ofNat (bs.length + 2))), .val (.ref b), .unset, .unset, .unset, .unset] (fun m => by first | (simp [entryFrame, mkF, argsToLocals, Value.category]; done) | rfl) ?_
  intro p e s m below meth c B hnm hret hlk G
  have hN : N < 2147483648 := by omega
  have hn : bs.length < 2147483648 := by omega
  replace Ab := Ab.pad (vs' := bs ++ [(.int 0), (.int 0)]) (pad_rep bs (.int 0) 2)
  replace G := G.iloadN 1 d30_0 rfl rfl
  replace G := G.istore 3 #[.val (.int (Int32.ofNat N)), .val (.int (Int32.ofNat (bs.length + 2))), .val (.ref b), .unset, .unset, .val (.int (Int32.ofNat (bs.length + 2))), .unset] d30_1 rfl rfl
  replace G := G.iloadN 4 d30_3 rfl rfl
  replace G := G.ifT 11 d30_4 (XT.i0_ge_t (ofn_nn hN)) (by decide) (by decide)
  replace G := G.iconst 12 (0 : Int32) d30_11 rfl rfl
  replace G := G.istore 14 #[.val (.int (Int32.ofNat N)), .val (.int (Int32.ofNat (bs.length + 2))), .val (.ref b), .unset, .unset, .val (.int (Int32.ofNat (bs.length + 2))), .val (.int (0 : Int32))] d30_12 rfl rfl
  replace G := G.iload 16 d30_14 rfl rfl
  replace G := G.ifF 19 d30_16 (XT.i0_ne_f rfl) rfl
  replace G := G.iloadN 20 d30_19 rfl rfl
  replace G := G.ineg 21 d30_20 rfl
  replace G := G.istoreN 22 #[.val (.int (-(Int32.ofNat N))), .val (.int (Int32.ofNat (bs.length + 2))), .val (.ref b), .unset, .unset, .val (.int (Int32.ofNat (bs.length + 2))), .val (.int (0 : Int32))] d30_21 rfl rfl
  replace G := G.iloadN 23 d30_22 rfl rfl
  replace G := G.bipush 25 (-100 : Int32) d30_23 (by decide) rfl
  replace G := G.icmpT 72 d30_25 (XT.ii_gt_t (ng_gt (K := -100) (by omega) rfl (by omega))) (by decide) (by decide)
  replace G := G.aloadN 73 d30_72 rfl rfl rfl
  replace G := G.iincV 76 #[.val (.int (-(Int32.ofNat N))), .val (.int (Int32.ofNat (bs.length + 2))), .val (.ref b), .unset, .unset, .val (.int (Int32.ofNat (bs.length + 1))), .val (.int (0 : Int32))] (Int32.ofNat (bs.length + 1)) d30_73 rfl (ofn_pred (bs.length + 1)) rfl rfl
  replace G := G.iload 78 d30_76 rfl rfl
  replace G := G.gets 81 (host := "") (Or.inl (hw _ (List.mem_of_getElem? (i := 168) rfl))) Via.refl (G.sta SD1) d30_78 rfl
  replace G := G.iloadN 82 d30_81 rfl rfl
  replace G := G.ineg 83 d30_82 rfl
  replace G := G.top (y := (.int (Int32.ofNat (N)))) (congrArg Value.int Int32.neg_neg)
  replace G := G.baload 84 (v := (.int (Int32.ofNat (48 + N % 10)))) (AD1.ext G.old.2) ⟨ofn_nn (by omega), ofn_lt (n := 100) (by omega) (by decide)⟩ (by rw [ofn_nat (by omega)]; exact dOnes_at (by omega)) d30_83 rfl
  obtain ⟨g1, G', As, Ks⟩ := G.bastore 85 (bs.length + 1) Ab ⟨ofn_nn (by omega), ofn_lt (by omega) hcap⟩ (ofn_nat (by omega)) (by simp) (Or.inl (List.mem_of_getElem? (i := 0) rfl)) (List.mem_of_getElem? (i := 0) rfl) d30_84 rfl
  clear G; have G := G'; clear G'
  rw [set_app2 _ _ 1 _ _ rfl, dig_b (by omega)] at As
  replace Ab : Arv Z g1 b kb .byte (Int32.ofNat cap) (bs ++ [(.int 0), (.int (Int32.ofNat (48 + N % 10)))]) (.int 0) := As
  replace G := G.iloadN 86 d30_85 rfl rfl
  replace G := G.bipush 88 (-9 : Int32) d30_86 (by decide) rfl
  replace G := G.icmpF 91 d30_88 (XT.ii_ge_f (ng_lt (K := -9) (by omega) rfl (by omega))) rfl
  replace G := G.aloadN 92 d30_91 rfl rfl rfl
  replace G := G.iincV 95 #[.val (.int (-(Int32.ofNat N))), .val (.int (Int32.ofNat (bs.length + 2))), .val (.ref b), .unset, .unset, .val (.int (Int32.ofNat (bs.length + 0))), .val (.int (0 : Int32))] (Int32.ofNat (bs.length + 0)) d30_92 rfl (ofn_pred (bs.length + 0)) rfl rfl
  replace G := G.iload 97 d30_95 rfl rfl
  replace G := G.gets 100 (host := "") (Or.inl (hw _ (List.mem_of_getElem? (i := 242) rfl))) Via.refl (G.sta SD2) d30_97 rfl
  replace G := G.iloadN 101 d30_100 rfl rfl
  replace G := G.ineg 102 d30_101 rfl
  replace G := G.top (y := (.int (Int32.ofNat (N)))) (congrArg Value.int Int32.neg_neg)
  replace G := G.baload 103 (v := (.int (Int32.ofNat (48 + N / 10)))) (AD2.ext G.old.2) ⟨ofn_nn (by omega), ofn_lt (n := 100) (by omega) (by decide)⟩ (by rw [ofn_nat (by omega)]; exact dTens_at (by omega)) d30_102 rfl
  obtain ⟨g2, G', As, Ks⟩ := G.bastore 104 (bs.length + 0) Ab ⟨ofn_nn (by omega), ofn_lt (by omega) hcap⟩ (ofn_nat (by omega)) (by simp) (Or.inl (List.mem_of_getElem? (i := 0) rfl)) (List.mem_of_getElem? (i := 0) rfl) d30_103 rfl
  clear G; have G := G'; clear G'
  rw [set_app2 _ _ 0 _ _ rfl, dig_b (by omega)] at As
  replace Ab : Arv Z g2 b kb .byte (Int32.ofNat cap) (bs ++ [(.int (Int32.ofNat (48 + N / 10))), (.int (Int32.ofNat (48 + N % 10)))]) (.int 0) := As
  replace G := G.iload 106 d30_104 rfl rfl
  replace G := G.ifT 118 d30_106 (XT.i0_eq_t rfl) (by decide) (by decide)
  replace G := G.iload 120 d30_118 rfl rfl
  have hdg : ([(.int (Int32.ofNat (48 + N / 10))), (.int (Int32.ofNat (48 + N % 10)))] : List Value) = [dg N 1, dg N 0] := by
    simp only [dg, List.cons.injEq, Value.int.injEq, and_true, Nat.reducePow]
    refine ⟨?_, ?_⟩ <;> first | trivial | (congr 2; omega)
  rw [hdg] at Ab
  exact G.retI hret hlk d30_120 [] all0 ⟨_, rfl, rfl, Ab, rfl⟩ (Nat.le_of_ble_eq_true rfl) (Nat.le_of_ble_eq_true rfl)
set_option maxRecDepth 65536 in
set_option maxHeartbeats 40000000 in
theorem c_asbI2 (l : Launch) (Z : State) (a0 : Array Value) (hw : ∀ d ∈ tables_1, d.before a0 Z = true) (hEW : EW Z a0 consts_1) (n0 : Nat) (c1 : Int32) (hc1 : ¬ c1 = 0) (S1 : Sta Z Z.heap "java/lang/String" "COMPACT_STRINGS" "Z" (.int c1)) (v2 : Value) (hv2 : v2.isRef = true) (S2 : Sta Z Z.heap "jdk/internal/util/Preconditions" "SIOOBE_FORMATTER" "Ljava/util/function/BiFunction;" v2) (t1 t2 : Addr) (kt1 kt2 : ClassId) (SD1 : Sta Z Z.heap "java/lang/Integer" "DigitOnes" "[B" (.ref t1)) (SD2 : Sta Z Z.heap "java/lang/Integer" "DigitTens" "[B" (.ref t2)) (AD1 : Arv Z Z.heap t1 kt1 .byte 100 dOnes (.int 0)) (AD2 : Arv Z Z.heap t2 kt2 .byte 100 dTens (.int 0)) (a b : Addr) (cap : Nat) (bs : List Value) (N : Nat) {h0 : Heap} (o1 : Old Z n0 h0) (ge_a : n0 ≤ a) (ge_b : n0 ≤ b) (hlo : 10 ≤ N) (hhi : N < 100) (hle : bs.length + 2 ≤ cap) (hcap : cap < 2147483648) (hS : Sbd Z h0 a b cap bs) :
    Con Z a0 l (⟨"java/lang/AbstractStringBuilder", "append", "(I)Ljava/lang/AbstractStringBuilder;"⟩ : MethodName) jdk_68_method_32_code 4 (some (.object "java/lang/AbstractStringBuilder")) ({ frames := 1, cells := 0, slots := 0, locals := 18 } : Room) [] #[(.ref a), (.int (Int32.ofNat N))] consts_1 h0 n0 [a, b] [a, b] (VV fun w h so => w = .ref a ∧ Sbd Z h a b cap (bs ++ [dg N 1, dg N 0]) ∧ so = []) := by
  refine Con.body (plainFor_of_name pn_java_lang_AbstractStringBuilder) hEW o1 (allS ge_a (allS ge_b all0)) #[.val (.ref a), .val (.int (Int32.ofNat N)), .unset, .unset] (fun m => by first | (simp [entryFrame, mkF, argsToLocals, Value.category]; done) | rfl) ?_
  intro p e s m below meth c B hnm hret hlk G
  replace G := G.aloadN 1 d27_0 rfl rfl rfl
  replace G := G.getf 4 (host := "") (Or.inl (hw _ (List.mem_of_getElem? (i := 119) rfl))) Via.refl hS.2.2.2.1 d27_1 rfl
  replace G := G.istoreN 5 #[.val (.ref a), .val (.int (Int32.ofNat N)), .val (.int (Int32.ofNat bs.length)), .unset] d27_4 rfl rfl
  replace G := G.iloadN 6 d27_5 rfl rfl
  replace G := G.iloadN 7 d27_6 rfl rfl
  obtain ⟨vz, h_z, soz, G', Kz, Qz⟩ := G.callS 10 (hw _ (List.mem_of_getElem? (i := 156) rfl)) (hw _ (List.mem_of_getElem? (i := 157) rfl)) (hw _ (List.mem_of_getElem? (i := 158) rfl)) (hw _ (List.mem_of_getElem? (i := 159) rfl)) (by decide) [(.int (Int32.ofNat N))] [(.int (Int32.ofNat bs.length))] rfl (c_size2 l Z a0 hw hEW n0 c1 hc1 S1 v2 hv2 S2 N G.old hlo hhi) (lenOf pd__I_I rfl) d27_7 rfl (Nat.le_of_ble_eq_true rfl) (Nat.le_of_ble_eq_true rfl) (Nat.le_of_ble_eq_true rfl) (Nat.le_of_ble_eq_true rfl) all0 all0 all0 rfl
  clear G; have G := G'; clear G'
  obtain ⟨wz, qz, rfl, ez, rfl⟩ := Qz
  replace G := G.val qz
  subst ez
  replace G := G.iadd 11 d27_10 rfl
  replace G := G.top (y := (.int (Int32.ofNat (bs.length + 2)))) (congrArg Value.int (ofn_add bs.length 2))
  replace G := G.istoreN 12 #[.val (.ref a), .val (.int (Int32.ofNat N)), .val (.int (Int32.ofNat bs.length)), .val (.int (Int32.ofNat (bs.length + 2)))] d27_11 rfl rfl
  replace G := G.aloadN 13 d27_12 rfl rfl rfl
  replace G := G.iloadN 14 d27_13 rfl rfl
  obtain ⟨ve, h_e, soe, G', Ke, Qe⟩ := G.callV 17 (hw _ (List.mem_of_getElem? (i := 121) rfl)) (declOf (hw _ (List.mem_of_getElem? (i := 122) rfl)) (hw _ (List.mem_of_getElem? (i := 125) rfl))) (nfSel (hw _ (List.mem_of_getElem? (i := 124) rfl))) (hw _ (List.mem_of_getElem? (i := 124) rfl)) (hw _ (List.mem_of_getElem? (i := 122) rfl)) (hw _ (List.mem_of_getElem? (i := 91) rfl)) (hw _ (List.mem_of_getElem? (i := 125) rfl)) hS.1 (by decide) [(.int (Int32.ofNat (bs.length + 2)))] [] rfl (c_ensNG l Z a0 hw hEW n0 c1 hc1 S1 v2 hv2 S2 a b cap (bs.length + 2) bs G.old hle hcap hS) (lenOf pd__I_V rfl) d27_14 rfl (Nat.le_of_ble_eq_true rfl) (Nat.le_of_ble_eq_true rfl) (Nat.le_of_ble_eq_true rfl) (Nat.le_of_ble_eq_true rfl) all0 all0 all0 rfl
  clear G; have G := G'; clear G'
  obtain ⟨qe, ee, rfl⟩ := Qe
  replace G := G.nov qe
  subst ee
  replace G := G.aloadN 18 d27_17 rfl rfl rfl
  obtain ⟨vl, h_l, sol, G', Kl, Ql⟩ := G.callV 21 (hw _ (List.mem_of_getElem? (i := 160) rfl)) (hw _ (List.mem_of_getElem? (i := 161) rfl)) (nfSel (hw _ (List.mem_of_getElem? (i := 163) rfl))) (hw _ (List.mem_of_getElem? (i := 163) rfl)) (hw _ (List.mem_of_getElem? (i := 162) rfl)) (hw _ (List.mem_of_getElem? (i := 91) rfl)) (hw _ (List.mem_of_getElem? (i := 164) rfl)) hS.1 (by decide) [] [] rfl (c_isL1 l Z a0 hw hEW n0 c1 hc1 S1 v2 hv2 S2 a b cap bs G.old hS) (lenOf pd___Z rfl) d27_18 rfl (Nat.le_of_ble_eq_true rfl) (Nat.le_of_ble_eq_true rfl) (Nat.le_of_ble_eq_true rfl) (Nat.le_of_ble_eq_true rfl) all0 all0 all0 rfl
  clear G; have G := G'; clear G'
  obtain ⟨wl, ql, rfl, el, rfl⟩ := Ql
  replace G := G.val ql
  subst el
  replace G := G.ifF 24 d27_21 (XT.i0_eq_f (by decide)) rfl
  replace G := G.iloadN 25 d27_24 rfl rfl
  replace G := G.iloadN 26 d27_25 rfl rfl
  replace G := G.aloadN 27 d27_26 rfl rfl rfl
  replace G := G.getf 30 (host := "") (Or.inl (hw _ (List.mem_of_getElem? (i := 95) rfl))) Via.refl hS.2.1 d27_27 rfl
  obtain ⟨Xa, Fv, Fc, Fn, kb, Ab⟩ := hS
  obtain ⟨vp, h1, sop, G', Kp, Qp⟩ := G.callS 33 (hw _ (List.mem_of_getElem? (i := 165) rfl)) (hw _ (List.mem_of_getElem? (i := 166) rfl)) (hw _ (List.mem_of_getElem? (i := 158) rfl)) (hw _ (List.mem_of_getElem? (i := 167) rfl)) (by decide) [(.int (Int32.ofNat N)), (.int (Int32.ofNat (bs.length + 2))), (.ref b)] [] rfl (c_getC2 l Z a0 hw hEW n0 c1 hc1 S1 v2 hv2 S2 t1 t2 kt1 kt2 SD1 SD2 AD1 AD2 b kb cap bs N G.old ge_b hlo hhi hle hcap Ab) (lenOf pd__II_B_I rfl) d27_30 rfl (Nat.le_of_ble_eq_true rfl) (Nat.le_of_ble_eq_true rfl) (Nat.le_of_ble_eq_true rfl) (Nat.le_of_ble_eq_true rfl) (allS (Or.inl (List.mem_of_getElem? (i := 1) rfl)) all0) (allS (List.mem_of_getElem? (i := 1) rfl) all0) (allS (List.mem_of_getElem? (i := 1) rfl) all0) rfl
  clear G; have G := G'; clear G'
  obtain ⟨wp, qp, rfl, Ab1, rfl⟩ := Qp
  replace G := G.val qp
  have nab : a ≠ b := ne_arr Xa (hw _ (List.mem_of_getElem? (i := 82) rfl)) Ab.choose_spec.1
  replace Xa := Xa.keep Kp; replace Fv := Fv.keep Kp (ninS nab nin0); replace Fc := Fc.keep Kp (ninS nab nin0); replace Fn := Fn.keep Kp (ninS nab nin0)
  replace G := G.pop 34 d27_33 rfl rfl
  replace G := G.goto 48 d27_34 (by decide) (by decide)
  replace G := G.aloadN 49 d27_48 rfl rfl rfl
  replace G := G.iloadN 50 d27_49 rfl rfl
  replace G := G.top (y := (.int (Int32.ofNat (bs ++ [dg N 1, dg N 0]).length))) (congrArg Value.int (by rw [List.length_append]; rfl))
  obtain ⟨h2, G', Ww, Fw, Kw⟩ := G.putf 53 (host := "") (Or.inl (hw _ (List.mem_of_getElem? (i := 119) rfl))) Via.refl Fn Xa (Or.inl (hw _ (List.mem_of_getElem? (i := 120) rfl))) (hw _ (List.mem_of_getElem? (i := 82) rfl)) (ty := .int) (by decide) rfl rfl (Or.inl (List.mem_of_getElem? (i := 0) rfl)) (List.mem_of_getElem? (i := 0) rfl) d27_50 rfl
  clear G; have G := G'; clear G'
  replace Fv := Fv.other Ww (Or.inr (slot_ne (Or.inl (hw _ (List.mem_of_getElem? (i := 96) rfl))) (Or.inl (hw _ (List.mem_of_getElem? (i := 120) rfl))) (by decide) (t := (.array .byte)) (t' := .int) (by decide) (by decide)))
  replace Fc := Fc.other Ww (Or.inr (slot_ne (Or.inl (hw _ (List.mem_of_getElem? (i := 98) rfl))) (Or.inl (hw _ (List.mem_of_getElem? (i := 120) rfl))) (by decide) (t := .byte) (t' := .int) (by decide) (by decide)))
  replace Xa := Xa.wr Ww; replace Ab1 := Ab1.keep Kw (ninS nab.symm nin0)
  replace G := G.aloadN 54 d27_53 rfl rfl rfl
  exact G.retA hret rfl rfl hlk d27_54 [] all0 ⟨_, rfl, rfl, ⟨Xa, Fv, Fc, Fw, kb, Ab1⟩, rfl⟩ (Nat.le_of_ble_eq_true rfl) (Nat.le_of_ble_eq_true rfl)
set_option maxRecDepth 65536 in
set_option maxHeartbeats 40000000 in
theorem c_appI2 (l : Launch) (Z : State) (a0 : Array Value) (hw : ∀ d ∈ tables_1, d.before a0 Z = true) (hEW : EW Z a0 consts_1) (n0 : Nat) (c1 : Int32) (hc1 : ¬ c1 = 0) (S1 : Sta Z Z.heap "java/lang/String" "COMPACT_STRINGS" "Z" (.int c1)) (v2 : Value) (hv2 : v2.isRef = true) (S2 : Sta Z Z.heap "jdk/internal/util/Preconditions" "SIOOBE_FORMATTER" "Ljava/util/function/BiFunction;" v2) (t1 t2 : Addr) (kt1 kt2 : ClassId) (SD1 : Sta Z Z.heap "java/lang/Integer" "DigitOnes" "[B" (.ref t1)) (SD2 : Sta Z Z.heap "java/lang/Integer" "DigitTens" "[B" (.ref t2)) (AD1 : Arv Z Z.heap t1 kt1 .byte 100 dOnes (.int 0)) (AD2 : Arv Z Z.heap t2 kt2 .byte 100 dTens (.int 0)) (a b : Addr) (cap : Nat) (bs : List Value) (N : Nat) {h0 : Heap} (o1 : Old Z n0 h0) (ge_a : n0 ≤ a) (ge_b : n0 ≤ b) (hlo : 10 ≤ N) (hhi : N < 100) (hle : bs.length + 2 ≤ cap) (hcap : cap < 2147483648) (hS : Sbd Z h0 a b cap bs) :
    Con Z a0 l (⟨"java/lang/StringBuilder", "append", "(I)Ljava/lang/StringBuilder;"⟩ : MethodName) jdk_67_method_15_code 2 (some (.object "java/lang/StringBuilder")) ({ frames := 2, cells := 0, slots := 0, locals := 33 } : Room) [] #[(.ref a), (.int (Int32.ofNat N))] consts_1 h0 n0 [a, b] [a, b] (VV fun w h so => w = .ref a ∧ Sbd Z h a b cap (bs ++ [dg N 1, dg N 0]) ∧ so = []) := by
  refine Con.body (plainFor_of_name pn_java_lang_StringBuilder) hEW o1 (allS ge_a (allS ge_b all0)) #[.val (.ref a), .val (.int (Int32.ofNat N))] (fun m => by first | (simp [entryFrame, mkF, argsToLocals, Value.category]; done) | rfl) ?_
  intro p e s m below meth c B hnm hret hlk G
  replace G := G.aloadN 1 d26_0 rfl rfl rfl
  replace G := G.iloadN 2 d26_1 rfl rfl
  obtain ⟨vp, h1, sop, G', Kp, Qp⟩ := G.callSup 5 (hw _ (List.mem_of_getElem? (i := 152) rfl)) (sameOf (hw _ (List.mem_of_getElem? (i := 153) rfl)) (nfVia (y := (⟨"java/lang/AbstractStringBuilder", "ensureCapacityInternal", "(I)V"⟩ : MethodName)) rfl (hw _ (List.mem_of_getElem? (i := 124) rfl)) (hw _ (List.mem_of_getElem? (i := 122) rfl))) (by decide)) (hw _ (List.mem_of_getElem? (i := 153) rfl)) (hw _ (List.mem_of_getElem? (i := 106) rfl)) (by decide) (hw _ (List.mem_of_getElem? (i := 91) rfl)) (hw _ (List.mem_of_getElem? (i := 155) rfl)) (Ins.self hS.1) [(.int (Int32.ofNat N))] [] rfl (c_asbI2 l Z a0 hw hEW n0 c1 hc1 S1 v2 hv2 S2 t1 t2 kt1 kt2 SD1 SD2 AD1 AD2 a b cap bs N G.old ge_a ge_b hlo hhi hle hcap hS) (lenOf pd__I_Ljava_lang_AbstractStringBuilder_ rfl) d26_2 rfl (Nat.le_of_ble_eq_true rfl) (Nat.le_of_ble_eq_true rfl) (Nat.le_of_ble_eq_true rfl) (Nat.le_of_ble_eq_true rfl) (allS (Or.inl (List.mem_of_getElem? (i := 0) rfl)) (allS (Or.inl (List.mem_of_getElem? (i := 1) rfl)) all0)) (allS (List.mem_of_getElem? (i := 0) rfl) (allS (List.mem_of_getElem? (i := 1) rfl) all0)) (allS (List.mem_of_getElem? (i := 0) rfl) (allS (List.mem_of_getElem? (i := 1) rfl) all0)) rfl
  clear G; have G := G'; clear G'
  obtain ⟨wp, qp, rfl, hS1, rfl⟩ := Qp
  replace G := G.val qp
  replace G := G.pop 6 d26_5 rfl rfl
  replace G := G.aloadN 7 d26_6 rfl rfl rfl
  exact G.retA hret rfl rfl hlk d26_7 [] all0 ⟨_, rfl, rfl, hS1, rfl⟩ (Nat.le_of_ble_eq_true rfl) (Nat.le_of_ble_eq_true rfl)
set_option maxRecDepth 65536 in
set_option maxHeartbeats 40000000 in
theorem c_size3 (l : Launch) (Z : State) (a0 : Array Value) (hw : ∀ d ∈ tables_1, d.before a0 Z = true) (hEW : EW Z a0 consts_1) (n0 : Nat) (c1 : Int32) (hc1 : ¬ c1 = 0) (S1 : Sta Z Z.heap "java/lang/String" "COMPACT_STRINGS" "Z" (.int c1)) (v2 : Value) (hv2 : v2.isRef = true) (S2 : Sta Z Z.heap "jdk/internal/util/Preconditions" "SIOOBE_FORMATTER" "Ljava/util/function/BiFunction;" v2) (N : Nat) {h0 : Heap} (o1 : Old Z n0 h0) (hlo : 100 ≤ N) (hhi : N < 1000)  :
    Con Z a0 l (⟨"java/lang/Integer", "stringSize", "(I)I"⟩ : MethodName) jdk_33_method_13_code 4 (some .int) ({ frames := 0, cells := 0, slots := 0, locals := 0 } : Room) [] #[(.int (Int32.ofNat N))] consts_1 h0 n0 [] [] (VV fun w h so => w = .int (3 : Int32) ∧ h = h0 ∧ so = []) := by
  refine Con.body (plainFor_of_name pn_java_lang_Integer) hEW o1 all0 #[.val (.int (Int32.ofNat N)), .unset, .unset, .unset] (fun m => by first | (simp [entryFrame, mkF, argsToLocals, Value.category]; done) | rfl) ?_
  intro p e s m below meth c B hnm hret hlk G
  have hN : N < 2147483648 := by omega
  replace G := G.iconst 1 (1 : Int32) d28_0 rfl rfl
  replace G := G.istoreN 2 #[.val (.int (Int32.ofNat N)), .val (.int (1 : Int32)), .unset, .unset] d28_1 rfl rfl
  replace G := G.iloadN 3 d28_2 rfl rfl
  replace G := G.ifF 6 d28_3 (XT.i0_lt_f (ofn_nn hN)) rfl
  replace G := G.iconst 7 (0 : Int32) d28_6 rfl rfl
  replace G := G.istoreN 8 #[.val (.int (Int32.ofNat N)), .val (.int (0 : Int32)), .unset, .unset] d28_7 rfl rfl
  replace G := G.iloadN 9 d28_8 rfl rfl
  replace G := G.ineg 10 d28_9 rfl
  replace G := G.istoreN 11 #[.val (.int (-(Int32.ofNat N))), .val (.int (0 : Int32)), .unset, .unset] d28_10 rfl rfl
  replace G := G.bipush 13 (-10 : Int32) d28_11 (by decide) rfl
  replace G := G.istoreN 14 #[.val (.int (-(Int32.ofNat N))), .val (.int (0 : Int32)), .val (.int (-10 : Int32)), .unset] d28_13 rfl rfl
  replace G := G.iconst 15 (1 : Int32) d28_14 rfl rfl
  replace G := G.istoreN 16 #[.val (.int (-(Int32.ofNat N))), .val (.int (0 : Int32)), .val (.int (-10 : Int32)), .val (.int (1 : Int32))] d28_15 rfl rfl
  replace G := G.iloadN 17 d28_16 rfl rfl
  replace G := G.bipush 19 (10 : Int32) d28_17 (by decide) rfl
  replace G := G.icmpF 22 d28_19 (XT.ii_ge_f (by decide)) rfl
  replace G := G.iloadN 23 d28_22 rfl rfl
  replace G := G.iloadN 24 d28_23 rfl rfl
  replace G := G.icmpT 31 d28_24 (XT.ii_le_t (ng_ngt (K := -10) hN rfl (by omega))) (by decide) (by decide)
  replace G := G.bipush 33 (10 : Int32) d28_31 (by decide) rfl
  replace G := G.iloadN 34 d28_33 rfl rfl
  replace G := G.imul 35 d28_34 rfl
  replace G := G.top (y := (.int (-100 : Int32))) (by decide)
  replace G := G.istoreN 36 #[.val (.int (-(Int32.ofNat N))), .val (.int (0 : Int32)), .val (.int (-100 : Int32)), .val (.int (1 : Int32))] d28_35 rfl rfl
  replace G := G.iincV 39 #[.val (.int (-(Int32.ofNat N))), .val (.int (0 : Int32)), .val (.int (-100 : Int32)), .val (.int (2 : Int32))] (2 : Int32) d28_36 rfl (by decide) rfl rfl
  replace G := G.goto 16 d28_39 (by decide) (by decide)
  replace G := G.iloadN 17 d28_16 rfl rfl
  replace G := G.bipush 19 (10 : Int32) d28_17 (by decide) rfl
  replace G := G.icmpF 22 d28_19 (XT.ii_ge_f (by decide)) rfl
  replace G := G.iloadN 23 d28_22 rfl rfl
  replace G := G.iloadN 24 d28_23 rfl rfl
  replace G := G.icmpT 31 d28_24 (XT.ii_le_t (ng_ngt (K := -100) hN rfl (by omega))) (by decide) (by decide)
  replace G := G.bipush 33 (10 : Int32) d28_31 (by decide) rfl
  replace G := G.iloadN 34 d28_33 rfl rfl
  replace G := G.imul 35 d28_34 rfl
  replace G := G.top (y := (.int (-1000 : Int32))) (by decide)
  replace G := G.istoreN 36 #[.val (.int (-(Int32.ofNat N))), .val (.int (0 : Int32)), .val (.int (-1000 : Int32)), .val (.int (2 : Int32))] d28_35 rfl rfl
  replace G := G.iincV 39 #[.val (.int (-(Int32.ofNat N))), .val (.int (0 : Int32)), .val (.int (-1000 : Int32)), .val (.int (3 : Int32))] (3 : Int32) d28_36 rfl (by decide) rfl rfl
  replace G := G.goto 16 d28_39 (by decide) (by decide)
  replace G := G.iloadN 17 d28_16 rfl rfl
  replace G := G.bipush 19 (10 : Int32) d28_17 (by decide) rfl
  replace G := G.icmpF 22 d28_19 (XT.ii_ge_f (by decide)) rfl
  replace G := G.iloadN 23 d28_22 rfl rfl
  replace G := G.iloadN 24 d28_23 rfl rfl
  replace G := G.icmpF 27 d28_24 (XT.ii_le_f (ng_gt (K := -1000) hN rfl (by omega))) rfl
  replace G := G.iloadN 28 d28_27 rfl rfl
  replace G := G.iloadN 29 d28_28 rfl rfl
  replace G := G.iadd 30 d28_29 rfl
  replace G := G.top (y := (.int (3 : Int32))) (by decide)
  exact G.retI hret hlk d28_30 [] all0 ⟨_, rfl, rfl, rfl, rfl⟩ (Nat.le_of_ble_eq_true rfl) (Nat.le_of_ble_eq_true rfl)
set_option maxRecDepth 65536 in
set_option maxHeartbeats 40000000 in
theorem c_getC3 (l : Launch) (Z : State) (a0 : Array Value) (hw : ∀ d ∈ tables_1, d.before a0 Z = true) (hEW : EW Z a0 consts_1) (n0 : Nat) (c1 : Int32) (hc1 : ¬ c1 = 0) (S1 : Sta Z Z.heap "java/lang/String" "COMPACT_STRINGS" "Z" (.int c1)) (v2 : Value) (hv2 : v2.isRef = true) (S2 : Sta Z Z.heap "jdk/internal/util/Preconditions" "SIOOBE_FORMATTER" "Ljava/util/function/BiFunction;" v2) (t1 t2 : Addr) (kt1 kt2 : ClassId) (SD1 : Sta Z Z.heap "java/lang/Integer" "DigitOnes" "[B" (.ref t1)) (SD2 : Sta Z Z.heap "java/lang/Integer" "DigitTens" "[B" (.ref t2)) (AD1 : Arv Z Z.heap t1 kt1 .byte 100 dOnes (.int 0)) (AD2 : Arv Z Z.heap t2 kt2 .byte 100 dTens (.int 0)) (b : Addr) (kb : ClassId) (cap : Nat) (bs : List Value) (N : Nat) {h0 : Heap} (o1 : Old Z n0 h0) (ge_b : n0 ≤ b) (hlo : 100 ≤ N) (hhi : N < 1000) (hle : bs.length + 3 ≤ cap) (hcap : cap < 2147483648) (Ab : Arv Z h0 b kb .byte (Int32.ofNat cap) bs (.int 0)) :
    Con Z a0 l (⟨"java/lang/Integer", "getChars", "(II[B)I"⟩ : MethodName) jdk_33_method_12_code 7 (some .int) ({ frames := 0, cells := 0, slots := 0, locals := 0 } : Room) [] #[(.int (Int32.ofNat N)), (.int (Int32.ofNat (bs.length + 3))), (.ref b)] consts_1 h0 n0 [b] [b] (VV fun w h so => w = .int (Int32.ofNat (bs.length + 0)) ∧ Arv Z h b kb .byte (Int32.ofNat cap) (bs ++ [dg N 2, dg N 1, dg N 0]) (.int 0) ∧ so = []) := by
  refine Con.body (plainFor_of_name pn_java_lang_Integer) hEW o1 (allS ge_b all0) #[.val (.int (Int32.ofNat N)), .val (.int (Int32.ofNat (bs.length + 3))), .val (.ref b), .unset, .unset, .unset, .unset] (fun m => by first | (simp [entryFrame, mkF, argsToLocals, Value.category]; done) | rfl) ?_
  intro p e s m below meth c B hnm hret hlk G
  have hN : N < 2147483648 := by omega
  have hn : bs.length < 2147483648 := by omega
  replace Ab := Ab.pad (vs' := bs ++ [(.int 0), (.int 0), (.int 0)]) (pad_rep bs (.int 0) 3)
  replace G := G.iloadN 1 d30_0 rfl rfl
  replace G := G.istore 3 #[.val (.int (Int32.ofNat N)), .val (.int (Int32.ofNat (bs.length + 3))), .val (.ref b), .unset, .unset, .val (.int (Int32.ofNat (bs.length + 3))), .unset] d30_1 rfl rfl
  replace G := G.iloadN 4 d30_3 rfl rfl
  replace G := G.ifT 11 d30_4 (XT.i0_ge_t (ofn_nn hN)) (by decide) (by decide)
  replace G := G.iconst 12 (0 : Int32) d30_11 rfl rfl
  replace G := G.istore 14 #[.val (.int (Int32.ofNat N)), .val (.int (Int32.ofNat (bs.length + 3))), .val (.ref b), .unset, .unset, .val (.int (Int32.ofNat (bs.length + 3))), .val (.int (0 : Int32))] d30_12 rfl rfl
  replace G := G.iload 16 d30_14 rfl rfl
  replace G := G.ifF 19 d30_16 (XT.i0_ne_f rfl) rfl
  replace G := G.iloadN 20 d30_19 rfl rfl
  replace G := G.ineg 21 d30_20 rfl
  replace G := G.istoreN 22 #[.val (.int (-(Int32.ofNat N))), .val (.int (Int32.ofNat (bs.length + 3))), .val (.ref b), .unset, .unset, .val (.int (Int32.ofNat (bs.length + 3))), .val (.int (0 : Int32))] d30_21 rfl rfl
  replace G := G.iloadN 23 d30_22 rfl rfl
  replace G := G.bipush 25 (-100 : Int32) d30_23 (by decide) rfl
  replace G := G.icmpF 28 d30_25 (XT.ii_gt_f (ng_ngt (K := -100) (by omega) rfl (by omega))) rfl
  replace G := G.iloadN 29 d30_28 rfl rfl
  replace G := G.bipush 31 (100 : Int32) d30_29 (by decide) rfl
  replace G := G.idiv 32 d30_31 (by decide) rfl
  replace G := G.top (y := (.int (-(Int32.ofNat (N / 100))))) (congrArg Value.int (ng_div (by omega)))
  replace G := G.istoreN 33 #[.val (.int (-(Int32.ofNat N))), .val (.int (Int32.ofNat (bs.length + 3))), .val (.ref b), .val (.int (-(Int32.ofNat (N / 100)))), .unset, .val (.int (Int32.ofNat (bs.length + 3))), .val (.int (0 : Int32))] d30_32 rfl rfl
  replace G := G.iloadN 34 d30_33 rfl rfl
  replace G := G.bipush 36 (100 : Int32) d30_34 (by decide) rfl
  replace G := G.imul 37 d30_36 rfl
  replace G := G.iloadN 38 d30_37 rfl rfl
  replace G := G.isub 39 d30_38 rfl
  replace G := G.top (y := (.int (Int32.ofNat (N % 100)))) (congrArg Value.int (ng_rem (by omega)))
  replace G := G.istore 41 #[.val (.int (-(Int32.ofNat N))), .val (.int (Int32.ofNat (bs.length + 3))), .val (.ref b), .val (.int (-(Int32.ofNat (N / 100)))), .val (.int (Int32.ofNat (N % 100))), .val (.int (Int32.ofNat (bs.length + 3))), .val (.int (0 : Int32))] d30_39 rfl rfl
  replace G := G.iloadN 42 d30_41 rfl rfl
  replace G := G.istoreN 43 #[.val (.int (-(Int32.ofNat (N / 100)))), .val (.int (Int32.ofNat (bs.length + 3))), .val (.ref b), .val (.int (-(Int32.ofNat (N / 100)))), .val (.int (Int32.ofNat (N % 100))), .val (.int (Int32.ofNat (bs.length + 3))), .val (.int (0 : Int32))] d30_42 rfl rfl
  replace G := G.aloadN 44 d30_43 rfl rfl rfl
  replace G := G.iincV 47 #[.val (.int (-(Int32.ofNat (N / 100)))), .val (.int (Int32.ofNat (bs.length + 3))), .val (.ref b), .val (.int (-(Int32.ofNat (N / 100)))), .val (.int (Int32.ofNat (N % 100))), .val (.int (Int32.ofNat (bs.length + 2))), .val (.int (0 : Int32))] (Int32.ofNat (bs.length + 2)) d30_44 rfl (ofn_pred (bs.length + 2)) rfl rfl
  replace G := G.iload 49 d30_47 rfl rfl
  replace G := G.gets 52 (host := "") (Or.inl (hw _ (List.mem_of_getElem? (i := 168) rfl))) Via.refl (G.sta SD1) d30_49 rfl
  replace G := G.iload 54 d30_52 rfl rfl
  replace G := G.baload 55 (v := (.int (Int32.ofNat (48 + N % 100 % 10)))) (AD1.ext G.old.2) ⟨ofn_nn (by omega), ofn_lt (n := 100) (by omega) (by decide)⟩ (by rw [ofn_nat (by omega)]; exact dOnes_at (by omega)) d30_54 rfl
  obtain ⟨g1, G', As, Ks⟩ := G.bastore 56 (bs.length + 2) Ab ⟨ofn_nn (by omega), ofn_lt (by omega) hcap⟩ (ofn_nat (by omega)) (by simp) (Or.inl (List.mem_of_getElem? (i := 0) rfl)) (List.mem_of_getElem? (i := 0) rfl) d30_55 rfl
  clear G; have G := G'; clear G'
  rw [set_app2 _ _ 2 _ _ rfl, dig_b (by omega)] at As
  replace Ab : Arv Z g1 b kb .byte (Int32.ofNat cap) (bs ++ [(.int 0), (.int 0), (.int (Int32.ofNat (48 + N % 100 % 10)))]) (.int 0) := As
  replace G := G.aloadN 57 d30_56 rfl rfl rfl
  replace G := G.iincV 60 #[.val (.int (-(Int32.ofNat (N / 100)))), .val (.int (Int32.ofNat (bs.length + 3))), .val (.ref b), .val (.int (-(Int32.ofNat (N / 100)))), .val (.int (Int32.ofNat (N % 100))), .val (.int (Int32.ofNat (bs.length + 1))), .val (.int (0 : Int32))] (Int32.ofNat (bs.length + 1)) d30_57 rfl (ofn_pred (bs.length + 1)) rfl rfl
  replace G := G.iload 62 d30_60 rfl rfl
  replace G := G.gets 65 (host := "") (Or.inl (hw _ (List.mem_of_getElem? (i := 242) rfl))) Via.refl (G.sta SD2) d30_62 rfl
  replace G := G.iload 67 d30_65 rfl rfl
  replace G := G.baload 68 (v := (.int (Int32.ofNat (48 + N % 100 / 10)))) (AD2.ext G.old.2) ⟨ofn_nn (by omega), ofn_lt (n := 100) (by omega) (by decide)⟩ (by rw [ofn_nat (by omega)]; exact dTens_at (by omega)) d30_67 rfl
  obtain ⟨g2, G', As, Ks⟩ := G.bastore 69 (bs.length + 1) Ab ⟨ofn_nn (by omega), ofn_lt (by omega) hcap⟩ (ofn_nat (by omega)) (by simp) (Or.inl (List.mem_of_getElem? (i := 0) rfl)) (List.mem_of_getElem? (i := 0) rfl) d30_68 rfl
  clear G; have G := G'; clear G'
  rw [set_app2 _ _ 1 _ _ rfl, dig_b (by omega)] at As
  replace Ab : Arv Z g2 b kb .byte (Int32.ofNat cap) (bs ++ [(.int 0), (.int (Int32.ofNat (48 + N % 100 / 10))), (.int (Int32.ofNat (48 + N % 100 % 10)))]) (.int 0) := As
  replace G := G.goto 22 d30_69 (by decide) (by decide)
  replace G := G.iloadN 23 d30_22 rfl rfl
  replace G := G.bipush 25 (-100 : Int32) d30_23 (by decide) rfl
  replace G := G.icmpT 72 d30_25 (XT.ii_gt_t (ng_gt (K := -100) (by omega) rfl (by omega))) (by decide) (by decide)
  replace G := G.aloadN 73 d30_72 rfl rfl rfl
  replace G := G.iincV 76 #[.val (.int (-(Int32.ofNat (N / 100)))), .val (.int (Int32.ofNat (bs.length + 3))), .val (.ref b), .val (.int (-(Int32.ofNat (N / 100)))), .val (.int (Int32.ofNat (N % 100))), .val (.int (Int32.ofNat (bs.length + 0))), .val (.int (0 : Int32))] (Int32.ofNat (bs.length + 0)) d30_73 rfl (ofn_pred (bs.length + 0)) rfl rfl
  replace G := G.iload 78 d30_76 rfl rfl
  replace G := G.gets 81 (host := "") (Or.inl (hw _ (List.mem_of_getElem? (i := 168) rfl))) Via.refl (G.sta SD1) d30_78 rfl
  replace G := G.iloadN 82 d30_81 rfl rfl
  replace G := G.ineg 83 d30_82 rfl
  replace G := G.top (y := (.int (Int32.ofNat (N / 100)))) (congrArg Value.int Int32.neg_neg)
  replace G := G.baload 84 (v := (.int (Int32.ofNat (48 + (N / 100) % 10)))) (AD1.ext G.old.2) ⟨ofn_nn (by omega), ofn_lt (n := 100) (by omega) (by decide)⟩ (by rw [ofn_nat (by omega)]; exact dOnes_at (by omega)) d30_83 rfl
  obtain ⟨g3, G', As, Ks⟩ := G.bastore 85 (bs.length + 0) Ab ⟨ofn_nn (by omega), ofn_lt (by omega) hcap⟩ (ofn_nat (by omega)) (by simp) (Or.inl (List.mem_of_getElem? (i := 0) rfl)) (List.mem_of_getElem? (i := 0) rfl) d30_84 rfl
  clear G; have G := G'; clear G'
  rw [set_app2 _ _ 0 _ _ rfl, dig_b (by omega)] at As
  replace Ab : Arv Z g3 b kb .byte (Int32.ofNat cap) (bs ++ [(.int (Int32.ofNat (48 + (N / 100) % 10))), (.int (Int32.ofNat (48 + N % 100 / 10))), (.int (Int32.ofNat (48 + N % 100 % 10)))]) (.int 0) := As
  replace G := G.iloadN 86 d30_85 rfl rfl
  replace G := G.bipush 88 (-9 : Int32) d30_86 (by decide) rfl
  replace G := G.icmpT 104 d30_88 (XT.ii_ge_t (ng_nlt (K := -9) (by omega) rfl (by omega))) (by decide) (by decide)
  replace G := G.iload 106 d30_104 rfl rfl
  replace G := G.ifT 118 d30_106 (XT.i0_eq_t rfl) (by decide) (by decide)
  replace G := G.iload 120 d30_118 rfl rfl
  have hdg : ([(.int (Int32.ofNat (48 + (N / 100) % 10))), (.int (Int32.ofNat (48 + N % 100 / 10))), (.int (Int32.ofNat (48 + N % 100 % 10)))] : List Value) = [dg N 2, dg N 1, dg N 0] := by
    simp only [dg, List.cons.injEq, Value.int.injEq, and_true, Nat.reducePow]
    refine ⟨?_, ?_, ?_⟩ <;> first | trivial | (congr 2; omega)
  rw [hdg] at Ab
  exact G.retI hret hlk d30_120 [] all0 ⟨_, rfl, rfl, Ab, rfl⟩ (Nat.le_of_ble_eq_true rfl) (Nat.le_of_ble_eq_true rfl)
set_option maxRecDepth 65536 in
set_option maxHeartbeats 40000000 in
theorem c_asbI3 (l : Launch) (Z : State) (a0 : Array Value) (hw : ∀ d ∈ tables_1, d.before a0 Z = true) (hEW : EW Z a0 consts_1) (n0 : Nat) (c1 : Int32) (hc1 : ¬ c1 = 0) (S1 : Sta Z Z.heap "java/lang/String" "COMPACT_STRINGS" "Z" (.int c1)) (v2 : Value) (hv2 : v2.isRef = true) (S2 : Sta Z Z.heap "jdk/internal/util/Preconditions" "SIOOBE_FORMATTER" "Ljava/util/function/BiFunction;" v2) (t1 t2 : Addr) (kt1 kt2 : ClassId) (SD1 : Sta Z Z.heap "java/lang/Integer" "DigitOnes" "[B" (.ref t1)) (SD2 : Sta Z Z.heap "java/lang/Integer" "DigitTens" "[B" (.ref t2)) (AD1 : Arv Z Z.heap t1 kt1 .byte 100 dOnes (.int 0)) (AD2 : Arv Z Z.heap t2 kt2 .byte 100 dTens (.int 0)) (a b : Addr) (cap : Nat) (bs : List Value) (N : Nat) {h0 : Heap} (o1 : Old Z n0 h0) (ge_a : n0 ≤ a) (ge_b : n0 ≤ b) (hlo : 100 ≤ N) (hhi : N < 1000) (hle : bs.length + 3 ≤ cap) (hcap : cap < 2147483648) (hS : Sbd Z h0 a b cap bs) :
    Con Z a0 l (⟨"java/lang/AbstractStringBuilder", "append", "(I)Ljava/lang/AbstractStringBuilder;"⟩ : MethodName) jdk_68_method_32_code 4 (some (.object "java/lang/AbstractStringBuilder")) ({ frames := 1, cells := 0, slots := 0, locals := 18 } : Room) [] #[(.ref a), (.int (Int32.ofNat N))] consts_1 h0 n0 [a, b] [a, b] (VV fun w h so => w = .ref a ∧ Sbd Z h a b cap (bs ++ [dg N 2, dg N 1, dg N 0]) ∧ so = []) := by
  refine Con.body (plainFor_of_name pn_java_lang_AbstractStringBuilder) hEW o1 (allS ge_a (allS ge_b all0)) #[.val (.ref a), .val (.int (Int32.ofNat N)), .unset, .unset] (fun m => by first | (simp [entryFrame, mkF, argsToLocals, Value.category]; done) | rfl) ?_
  intro p e s m below meth c B hnm hret hlk G
  replace G := G.aloadN 1 d27_0 rfl rfl rfl
  replace G := G.getf 4 (host := "") (Or.inl (hw _ (List.mem_of_getElem? (i := 119) rfl))) Via.refl hS.2.2.2.1 d27_1 rfl
  replace G := G.istoreN 5 #[.val (.ref a), .val (.int (Int32.ofNat N)), .val (.int (Int32.ofNat bs.length)), .unset] d27_4 rfl rfl
  replace G := G.iloadN 6 d27_5 rfl rfl
  replace G := G.iloadN 7 d27_6 rfl rfl
  obtain ⟨vz, h_z, soz, G', Kz, Qz⟩ := G.callS 10 (hw _ (List.mem_of_getElem? (i := 156) rfl)) (hw _ (List.mem_of_getElem? (i := 157) rfl)) (hw _ (List.mem_of_getElem? (i := 158) rfl)) (hw _ (List.mem_of_getElem? (i := 159) rfl)) (by decide) [(.int (Int32.ofNat N))] [(.int (Int32.ofNat bs.length))] rfl (c_size3 l Z a0 hw hEW n0 c1 hc1 S1 v2 hv2 S2 N G.old hlo hhi) (lenOf pd__I_I rfl) d27_7 rfl (Nat.le_of_ble_eq_true rfl) (Nat.le_of_ble_eq_true rfl) (Nat.le_of_ble_eq_true rfl) (Nat.le_of_ble_eq_true rfl) all0 all0 all0 rfl
  clear G; have G := G'; clear G'
  obtain ⟨wz, qz, rfl, ez, rfl⟩ := Qz
  replace G := G.val qz
  subst ez
  replace G := G.iadd 11 d27_10 rfl
  replace G := G.top (y := (.int (Int32.ofNat (bs.length + 3)))) (congrArg Value.int (ofn_add bs.length 3))
  replace G := G.istoreN 12 #[.val (.ref a), .val (.int (Int32.ofNat N)), .val (.int (Int32.ofNat bs.length)), .val (.int (Int32.ofNat (bs.length + 3)))] d27_11 rfl rfl
  replace G := G.aloadN 13 d27_12 rfl rfl rfl
  replace G := G.iloadN 14 d27_13 rfl rfl
  obtain ⟨ve, h_e, soe, G', Ke, Qe⟩ := G.callV 17 (hw _ (List.mem_of_getElem? (i := 121) rfl)) (declOf (hw _ (List.mem_of_getElem? (i := 122) rfl)) (hw _ (List.mem_of_getElem? (i := 125) rfl))) (nfSel (hw _ (List.mem_of_getElem? (i := 124) rfl))) (hw _ (List.mem_of_getElem? (i := 124) rfl)) (hw _ (List.mem_of_getElem? (i := 122) rfl)) (hw _ (List.mem_of_getElem? (i := 91) rfl)) (hw _ (List.mem_of_getElem? (i := 125) rfl)) hS.1 (by decide) [(.int (Int32.ofNat (bs.length + 3)))] [] rfl (c_ensNG l Z a0 hw hEW n0 c1 hc1 S1 v2 hv2 S2 a b cap (bs.length + 3) bs G.old hle hcap hS) (lenOf pd__I_V rfl) d27_14 rfl (Nat.le_of_ble_eq_true rfl) (Nat.le_of_ble_eq_true rfl) (Nat.le_of_ble_eq_true rfl) (Nat.le_of_ble_eq_true rfl) all0 all0 all0 rfl
  clear G; have G := G'; clear G'
  obtain ⟨qe, ee, rfl⟩ := Qe
  replace G := G.nov qe
  subst ee
  replace G := G.aloadN 18 d27_17 rfl rfl rfl
  obtain ⟨vl, h_l, sol, G', Kl, Ql⟩ := G.callV 21 (hw _ (List.mem_of_getElem? (i := 160) rfl)) (hw _ (List.mem_of_getElem? (i := 161) rfl)) (nfSel (hw _ (List.mem_of_getElem? (i := 163) rfl))) (hw _ (List.mem_of_getElem? (i := 163) rfl)) (hw _ (List.mem_of_getElem? (i := 162) rfl)) (hw _ (List.mem_of_getElem? (i := 91) rfl)) (hw _ (List.mem_of_getElem? (i := 164) rfl)) hS.1 (by decide) [] [] rfl (c_isL1 l Z a0 hw hEW n0 c1 hc1 S1 v2 hv2 S2 a b cap bs G.old hS) (lenOf pd___Z rfl) d27_18 rfl (Nat.le_of_ble_eq_true rfl) (Nat.le_of_ble_eq_true rfl) (Nat.le_of_ble_eq_true rfl) (Nat.le_of_ble_eq_true rfl) all0 all0 all0 rfl
  clear G; have G := G'; clear G'
  obtain ⟨wl, ql, rfl, el, rfl⟩ := Ql
  replace G := G.val ql
  subst el
  replace G := G.ifF 24 d27_21 (XT.i0_eq_f (by decide)) rfl
  replace G := G.iloadN 25 d27_24 rfl rfl
  replace G := G.iloadN 26 d27_25 rfl rfl
  replace G := G.aloadN 27 d27_26 rfl rfl rfl
  replace G := G.getf 30 (host := "") (Or.inl (hw _ (List.mem_of_getElem? (i := 95) rfl))) Via.refl hS.2.1 d27_27 rfl
  obtain ⟨Xa, Fv, Fc, Fn, kb, Ab⟩ := hS
  obtain ⟨vp, h1, sop, G', Kp, Qp⟩ := G.callS 33 (hw _ (List.mem_of_getElem? (i := 165) rfl)) (hw _ (List.mem_of_getElem? (i := 166) rfl)) (hw _ (List.mem_of_getElem? (i := 158) rfl)) (hw _ (List.mem_of_getElem? (i := 167) rfl)) (by decide) [(.int (Int32.ofNat N)), (.int (Int32.ofNat (bs.length + 3))), (.ref b)] [] rfl (c_getC3 l Z a0 hw hEW n0 c1 hc1 S1 v2 hv2 S2 t1 t2 kt1 kt2 SD1 SD2 AD1 AD2 b kb cap bs N G.old ge_b hlo hhi hle hcap Ab) (lenOf pd__II_B_I rfl) d27_30 rfl (Nat.le_of_ble_eq_true rfl) (Nat.le_of_ble_eq_true rfl) (Nat.le_of_ble_eq_true rfl) (Nat.le_of_ble_eq_true rfl) (allS (Or.inl (List.mem_of_getElem? (i := 1) rfl)) all0) (allS (List.mem_of_getElem? (i := 1) rfl) all0) (allS (List.mem_of_getElem? (i := 1) rfl) all0) rfl
  clear G; have G := G'; clear G'
  obtain ⟨wp, qp, rfl, Ab1, rfl⟩ := Qp
  replace G := G.val qp
  have nab : a ≠ b := ne_arr Xa (hw _ (List.mem_of_getElem? (i := 82) rfl)) Ab.choose_spec.1
  replace Xa := Xa.keep Kp; replace Fv := Fv.keep Kp (ninS nab nin0); replace Fc := Fc.keep Kp (ninS nab nin0); replace Fn := Fn.keep Kp (ninS nab nin0)
  replace G := G.pop 34 d27_33 rfl rfl
  replace G := G.goto 48 d27_34 (by decide) (by decide)
  replace G := G.aloadN 49 d27_48 rfl rfl rfl
  replace G := G.iloadN 50 d27_49 rfl rfl
  replace G := G.top (y := (.int (Int32.ofNat (bs ++ [dg N 2, dg N 1, dg N 0]).length))) (congrArg Value.int (by rw [List.length_append]; rfl))
  obtain ⟨h2, G', Ww, Fw, Kw⟩ := G.putf 53 (host := "") (Or.inl (hw _ (List.mem_of_getElem? (i := 119) rfl))) Via.refl Fn Xa (Or.inl (hw _ (List.mem_of_getElem? (i := 120) rfl))) (hw _ (List.mem_of_getElem? (i := 82) rfl)) (ty := .int) (by decide) rfl rfl (Or.inl (List.mem_of_getElem? (i := 0) rfl)) (List.mem_of_getElem? (i := 0) rfl) d27_50 rfl
  clear G; have G := G'; clear G'
  replace Fv := Fv.other Ww (Or.inr (slot_ne (Or.inl (hw _ (List.mem_of_getElem? (i := 96) rfl))) (Or.inl (hw _ (List.mem_of_getElem? (i := 120) rfl))) (by decide) (t := (.array .byte)) (t' := .int) (by decide) (by decide)))
  replace Fc := Fc.other Ww (Or.inr (slot_ne (Or.inl (hw _ (List.mem_of_getElem? (i := 98) rfl))) (Or.inl (hw _ (List.mem_of_getElem? (i := 120) rfl))) (by decide) (t := .byte) (t' := .int) (by decide) (by decide)))
  replace Xa := Xa.wr Ww; replace Ab1 := Ab1.keep Kw (ninS nab.symm nin0)
  replace G := G.aloadN 54 d27_53 rfl rfl rfl
  exact G.retA hret rfl rfl hlk d27_54 [] all0 ⟨_, rfl, rfl, ⟨Xa, Fv, Fc, Fw, kb, Ab1⟩, rfl⟩ (Nat.le_of_ble_eq_true rfl) (Nat.le_of_ble_eq_true rfl)
set_option maxRecDepth 65536 in
set_option maxHeartbeats 40000000 in
theorem c_appI3 (l : Launch) (Z : State) (a0 : Array Value) (hw : ∀ d ∈ tables_1, d.before a0 Z = true) (hEW : EW Z a0 consts_1) (n0 : Nat) (c1 : Int32) (hc1 : ¬ c1 = 0) (S1 : Sta Z Z.heap "java/lang/String" "COMPACT_STRINGS" "Z" (.int c1)) (v2 : Value) (hv2 : v2.isRef = true) (S2 : Sta Z Z.heap "jdk/internal/util/Preconditions" "SIOOBE_FORMATTER" "Ljava/util/function/BiFunction;" v2) (t1 t2 : Addr) (kt1 kt2 : ClassId) (SD1 : Sta Z Z.heap "java/lang/Integer" "DigitOnes" "[B" (.ref t1)) (SD2 : Sta Z Z.heap "java/lang/Integer" "DigitTens" "[B" (.ref t2)) (AD1 : Arv Z Z.heap t1 kt1 .byte 100 dOnes (.int 0)) (AD2 : Arv Z Z.heap t2 kt2 .byte 100 dTens (.int 0)) (a b : Addr) (cap : Nat) (bs : List Value) (N : Nat) {h0 : Heap} (o1 : Old Z n0 h0) (ge_a : n0 ≤ a) (ge_b : n0 ≤ b) (hlo : 100 ≤ N) (hhi : N < 1000) (hle : bs.length + 3 ≤ cap) (hcap : cap < 2147483648) (hS : Sbd Z h0 a b cap bs) :
    Con Z a0 l (⟨"java/lang/StringBuilder", "append", "(I)Ljava/lang/StringBuilder;"⟩ : MethodName) jdk_67_method_15_code 2 (some (.object "java/lang/StringBuilder")) ({ frames := 2, cells := 0, slots := 0, locals := 33 } : Room) [] #[(.ref a), (.int (Int32.ofNat N))] consts_1 h0 n0 [a, b] [a, b] (VV fun w h so => w = .ref a ∧ Sbd Z h a b cap (bs ++ [dg N 2, dg N 1, dg N 0]) ∧ so = []) := by
  refine Con.body (plainFor_of_name pn_java_lang_StringBuilder) hEW o1 (allS ge_a (allS ge_b all0)) #[.val (.ref a), .val (.int (Int32.ofNat N))] (fun m => by first | (simp [entryFrame, mkF, argsToLocals, Value.category]; done) | rfl) ?_
  intro p e s m below meth c B hnm hret hlk G
  replace G := G.aloadN 1 d26_0 rfl rfl rfl
  replace G := G.iloadN 2 d26_1 rfl rfl
  obtain ⟨vp, h1, sop, G', Kp, Qp⟩ := G.callSup 5 (hw _ (List.mem_of_getElem? (i := 152) rfl)) (sameOf (hw _ (List.mem_of_getElem? (i := 153) rfl)) (nfVia (y := (⟨"java/lang/AbstractStringBuilder", "ensureCapacityInternal", "(I)V"⟩ : MethodName)) rfl (hw _ (List.mem_of_getElem? (i := 124) rfl)) (hw _ (List.mem_of_getElem? (i := 122) rfl))) (by decide)) (hw _ (List.mem_of_getElem? (i := 153) rfl)) (hw _ (List.mem_of_getElem? (i := 106) rfl)) (by decide) (hw _ (List.mem_of_getElem? (i := 91) rfl)) (hw _ (List.mem_of_getElem? (i := 155) rfl)) (Ins.self hS.1) [(.int (Int32.ofNat N))] [] rfl (c_asbI3 l Z a0 hw hEW n0 c1 hc1 S1 v2 hv2 S2 t1 t2 kt1 kt2 SD1 SD2 AD1 AD2 a b cap bs N G.old ge_a ge_b hlo hhi hle hcap hS) (lenOf pd__I_Ljava_lang_AbstractStringBuilder_ rfl) d26_2 rfl (Nat.le_of_ble_eq_true rfl) (Nat.le_of_ble_eq_true rfl) (Nat.le_of_ble_eq_true rfl) (Nat.le_of_ble_eq_true rfl) (allS (Or.inl (List.mem_of_getElem? (i := 0) rfl)) (allS (Or.inl (List.mem_of_getElem? (i := 1) rfl)) all0)) (allS (List.mem_of_getElem? (i := 0) rfl) (allS (List.mem_of_getElem? (i := 1) rfl) all0)) (allS (List.mem_of_getElem? (i := 0) rfl) (allS (List.mem_of_getElem? (i := 1) rfl) all0)) rfl
  clear G; have G := G'; clear G'
  obtain ⟨wp, qp, rfl, hS1, rfl⟩ := Qp
  replace G := G.val qp
  replace G := G.pop 6 d26_5 rfl rfl
  replace G := G.aloadN 7 d26_6 rfl rfl rfl
  exact G.retA hret rfl rfl hlk d26_7 [] all0 ⟨_, rfl, rfl, hS1, rfl⟩ (Nat.le_of_ble_eq_true rfl) (Nat.le_of_ble_eq_true rfl)
set_option maxRecDepth 65536 in
set_option maxHeartbeats 40000000 in
theorem c_size4 (l : Launch) (Z : State) (a0 : Array Value) (hw : ∀ d ∈ tables_1, d.before a0 Z = true) (hEW : EW Z a0 consts_1) (n0 : Nat) (c1 : Int32) (hc1 : ¬ c1 = 0) (S1 : Sta Z Z.heap "java/lang/String" "COMPACT_STRINGS" "Z" (.int c1)) (v2 : Value) (hv2 : v2.isRef = true) (S2 : Sta Z Z.heap "jdk/internal/util/Preconditions" "SIOOBE_FORMATTER" "Ljava/util/function/BiFunction;" v2) (N : Nat) {h0 : Heap} (o1 : Old Z n0 h0) (hlo : 1000 ≤ N) (hhi : N < 10000)  :
    Con Z a0 l (⟨"java/lang/Integer", "stringSize", "(I)I"⟩ : MethodName) jdk_33_method_13_code 4 (some .int) ({ frames := 0, cells := 0, slots := 0, locals := 0 } : Room) [] #[(.int (Int32.ofNat N))] consts_1 h0 n0 [] [] (VV fun w h so => w = .int (4 : Int32) ∧ h = h0 ∧ so = []) := by
  refine Con.body (plainFor_of_name pn_java_lang_Integer) hEW o1 all0 #[.val (.int (Int32.ofNat N)), .unset, .unset, .unset] (fun m => by first | (simp [entryFrame, mkF, argsToLocals, Value.category]; done) | rfl) ?_
  intro p e s m below meth c B hnm hret hlk G
  have hN : N < 2147483648 := by omega
  replace G := G.iconst 1 (1 : Int32) d28_0 rfl rfl
  replace G := G.istoreN 2 #[.val (.int (Int32.ofNat N)), .val (.int (1 : Int32)), .unset, .unset] d28_1 rfl rfl
  replace G := G.iloadN 3 d28_2 rfl rfl
  replace G := G.ifF 6 d28_3 (XT.i0_lt_f (ofn_nn hN)) rfl
  replace G := G.iconst 7 (0 : Int32) d28_6 rfl rfl
  replace G := G.istoreN 8 #[.val (.int (Int32.ofNat N)), .val (.int (0 : Int32)), .unset, .unset] d28_7 rfl rfl
  replace G := G.iloadN 9 d28_8 rfl rfl
  replace G := G.ineg 10 d28_9 rfl
  replace G := G.istoreN 11 #[.val (.int (-(Int32.ofNat N))), .val (.int (0 : Int32)), .unset, .unset] d28_10 rfl rfl
  replace G := G.bipush 13 (-10 : Int32) d28_11 (by decide) rfl
  replace G := G.istoreN 14 #[.val (.int (-(Int32.ofNat N))), .val (.int (0 : Int32)), .val (.int (-10 : Int32)), .unset] d28_13 rfl rfl
  replace G := G.iconst 15 (1 : Int32) d28_14 rfl rfl
  replace G := G.istoreN 16 #[.val (.int (-(Int32.ofNat N))), .val (.int (0 : Int32)), .val (.int (-10 : Int32)), .val (.int (1 : Int32))] d28_15 rfl rfl
  replace G := G.iloadN 17 d28_16 rfl rfl
  replace G := G.bipush 19 (10 : Int32) d28_17 (by decide) rfl
  replace G := G.icmpF 22 d28_19 (XT.ii_ge_f (by decide)) rfl
  replace G := G.iloadN 23 d28_22 rfl rfl
  replace G := G.iloadN 24 d28_23 rfl rfl
  replace G := G.icmpT 31 d28_24 (XT.ii_le_t (ng_ngt (K := -10) hN rfl (by omega))) (by decide) (by decide)
  replace G := G.bipush 33 (10 : Int32) d28_31 (by decide) rfl
  replace G := G.iloadN 34 d28_33 rfl rfl
  replace G := G.imul 35 d28_34 rfl
  replace G := G.top (y := (.int (-100 : Int32))) (by decide)
  replace G := G.istoreN 36 #[.val (.int (-(Int32.ofNat N))), .val (.int (0 : Int32)), .val (.int (-100 : Int32)), .val (.int (1 : Int32))] d28_35 rfl rfl
  replace G := G.iincV 39 #[.val (.int (-(Int32.ofNat N))), .val (.int (0 : Int32)), .val (.int (-100 : Int32)), .val (.int (2 : Int32))] (2 : Int32) d28_36 rfl (by decide) rfl rfl
  replace G := G.goto 16 d28_39 (by decide) (by decide)
  replace G := G.iloadN 17 d28_16 rfl rfl
  replace G := G.bipush 19 (10 : Int32) d28_17 (by decide) rfl
  replace G := G.icmpF 22 d28_19 (XT.ii_ge_f (by decide)) rfl
  replace G := G.iloadN 23 d28_22 rfl rfl
  replace G := G.iloadN 24 d28_23 rfl rfl
  replace G := G.icmpT 31 d28_24 (XT.ii_le_t (ng_ngt (K := -100) hN rfl (by omega))) (by decide) (by decide)
  replace G := G.bipush 33 (10 : Int32) d28_31 (by decide) rfl
  replace G := G.iloadN 34 d28_33 rfl rfl
  replace G := G.imul 35 d28_34 rfl
  replace G := G.top (y := (.int (-1000 : Int32))) (by decide)
  replace G := G.istoreN 36 #[.val (.int (-(Int32.ofNat N))), .val (.int (0 : Int32)), .val (.int (-1000 : Int32)), .val (.int (2 : Int32))] d28_35 rfl rfl
  replace G := G.iincV 39 #[.val (.int (-(Int32.ofNat N))), .val (.int (0 : Int32)), .val (.int (-1000 : Int32)), .val (.int (3 : Int32))] (3 : Int32) d28_36 rfl (by decide) rfl rfl
  replace G := G.goto 16 d28_39 (by decide) (by decide)
  replace G := G.iloadN 17 d28_16 rfl rfl
  replace G := G.bipush 19 (10 : Int32) d28_17 (by decide) rfl
  replace G := G.icmpF 22 d28_19 (XT.ii_ge_f (by decide)) rfl
  replace G := G.iloadN 23 d28_22 rfl rfl
  replace G := G.iloadN 24 d28_23 rfl rfl
  replace G := G.icmpT 31 d28_24 (XT.ii_le_t (ng_ngt (K := -1000) hN rfl (by omega))) (by decide) (by decide)
  replace G := G.bipush 33 (10 : Int32) d28_31 (by decide) rfl
  replace G := G.iloadN 34 d28_33 rfl rfl
  replace G := G.imul 35 d28_34 rfl
  replace G := G.top (y := (.int (-10000 : Int32))) (by decide)
  replace G := G.istoreN 36 #[.val (.int (-(Int32.ofNat N))), .val (.int (0 : Int32)), .val (.int (-10000 : Int32)), .val (.int (3 : Int32))] d28_35 rfl rfl
  replace G := G.iincV 39 #[.val (.int (-(Int32.ofNat N))), .val (.int (0 : Int32)), .val (.int (-10000 : Int32)), .val (.int (4 : Int32))] (4 : Int32) d28_36 rfl (by decide) rfl rfl
  replace G := G.goto 16 d28_39 (by decide) (by decide)
  replace G := G.iloadN 17 d28_16 rfl rfl
  replace G := G.bipush 19 (10 : Int32) d28_17 (by decide) rfl
  replace G := G.icmpF 22 d28_19 (XT.ii_ge_f (by decide)) rfl
  replace G := G.iloadN 23 d28_22 rfl rfl
  replace G := G.iloadN 24 d28_23 rfl rfl
  replace G := G.icmpF 27 d28_24 (XT.ii_le_f (ng_gt (K := -10000) hN rfl (by omega))) rfl
  replace G := G.iloadN 28 d28_27 rfl rfl
  replace G := G.iloadN 29 d28_28 rfl rfl
  replace G := G.iadd 30 d28_29 rfl
  replace G := G.top (y := (.int (4 : Int32))) (by decide)
  exact G.retI hret hlk d28_30 [] all0 ⟨_, rfl, rfl, rfl, rfl⟩ (Nat.le_of_ble_eq_true rfl) (Nat.le_of_ble_eq_true rfl)
set_option maxRecDepth 65536 in
set_option maxHeartbeats 40000000 in
theorem c_getC4 (l : Launch) (Z : State) (a0 : Array Value) (hw : ∀ d ∈ tables_1, d.before a0 Z = true) (hEW : EW Z a0 consts_1) (n0 : Nat) (c1 : Int32) (hc1 : ¬ c1 = 0) (S1 : Sta Z Z.heap "java/lang/String" "COMPACT_STRINGS" "Z" (.int c1)) (v2 : Value) (hv2 : v2.isRef = true) (S2 : Sta Z Z.heap "jdk/internal/util/Preconditions" "SIOOBE_FORMATTER" "Ljava/util/function/BiFunction;" v2) (t1 t2 : Addr) (kt1 kt2 : ClassId) (SD1 : Sta Z Z.heap "java/lang/Integer" "DigitOnes" "[B" (.ref t1)) (SD2 : Sta Z Z.heap "java/lang/Integer" "DigitTens" "[B" (.ref t2)) (AD1 : Arv Z Z.heap t1 kt1 .byte 100 dOnes (.int 0)) (AD2 : Arv Z Z.heap t2 kt2 .byte 100 dTens (.int 0)) (b : Addr) (kb : ClassId) (cap : Nat) (bs : List Value) (N : Nat) {h0 : Heap} (o1 : Old Z n0 h0) (ge_b : n0 ≤ b) (hlo : 1000 ≤ N) (hhi : N < 10000) (hle : bs.length + 4 ≤ cap) (hcap : cap < 2147483648) (Ab : Arv Z h0 b kb .byte (Int32.ofNat cap) bs (.int 0)) :
    Con Z a0 l (⟨"java/lang/Integer", "getChars", "(II[B)I"⟩ : MethodName) jdk_33_method_12_code 7 (some .int) ({ frames := 0, cells := 0, slots := 0, locals := 0 } : Room) [] #[(.int (Int32.ofNat N)), (.int (Int32.ofNat (bs.length + 4))), (.ref b)] consts_1 h0 n0 [b] [b] (VV fun w h so => w = .int (Int32.ofNat (bs.length + 0)) ∧ Arv Z h b kb .byte (Int32.ofNat cap) (bs ++ [dg N 3, dg N 2, dg N 1, dg N 0]) (.int 0) ∧ so = []) := by
  refine Con.body (plainFor_of_name pn_java_lang_Integer) hEW o1 (allS ge_b all0) #[.val (.int (Int32.ofNat N)), .val (.int (Int32.ofNat (bs.length + 4))), .val (.ref b), .unset, .unset, .unset, .unset] (fun m => by first | (simp [entryFrame, mkF, argsToLocals, Value.category]; done) | rfl) ?_
  intro p e s m below meth c B hnm hret hlk G
  have hN : N < 2147483648 := by omega
  have hn : bs.length < 2147483648 := by omega
  replace Ab := Ab.pad (vs' := bs ++ [(.int 0), (.int 0), (.int 0), (.int 0)]) (pad_rep bs (.int 0) 4)
  replace G := G.iloadN 1 d30_0 rfl rfl
  replace G := G.istore 3 #[.val (.int (Int32.ofNat N)), .val (.int (Int32.ofNat (bs.length + 4))), .val (.ref b), .unset, .unset, .val (.int (Int32.ofNat (bs.length + 4))), .unset] d30_1 rfl rfl
  replace G := G.iloadN 4 d30_3 rfl rfl
  replace G := G.ifT 11 d30_4 (XT.i0_ge_t (ofn_nn hN)) (by decide) (by decide)
  replace G := G.iconst 12 (0 : Int32) d30_11 rfl rfl
  replace G := G.istore 14 #[.val (.int (Int32.ofNat N)), .val (.int (Int32.ofNat (bs.length + 4))), .val (.ref b), .unset, .unset, .val (.int (Int32.ofNat (bs.length + 4))), .val (.int (0 : Int32))] d30_12 rfl rfl
  replace G := G.iload 16 d30_14 rfl rfl
  replace G := G.ifF 19 d30_16 (XT.i0_ne_f rfl) rfl
  replace G := G.iloadN 20 d30_19 rfl rfl
  replace G := G.ineg 21 d30_20 rfl
  replace G := G.istoreN 22 #[.val (.int (-(Int32.ofNat N))), .val (.int (Int32.ofNat (bs.length + 4))), .val (.ref b), .unset, .unset, .val (.int (Int32.ofNat (bs.length + 4))), .val (.int (0 : Int32))] d30_21 rfl rfl
  replace G := G.iloadN 23 d30_22 rfl rfl
  replace G := G.bipush 25 (-100 : Int32) d30_23 (by decide) rfl
  replace G := G.icmpF 28 d30_25 (XT.ii_gt_f (ng_ngt (K := -100) (by omega) rfl (by omega))) rfl
  replace G := G.iloadN 29 d30_28 rfl rfl
  replace G := G.bipush 31 (100 : Int32) d30_29 (by decide) rfl
  replace G := G.idiv 32 d30_31 (by decide) rfl
  replace G := G.top (y := (.int (-(Int32.ofNat (N / 100))))) (congrArg Value.int (ng_div (by omega)))
  replace G := G.istoreN 33 #[.val (.int (-(Int32.ofNat N))), .val (.int (Int32.ofNat (bs.length + 4))), .val (.ref b), .val (.int (-(Int32.ofNat (N / 100)))), .unset, .val (.int (Int32.ofNat (bs.length + 4))), .val (.int (0 : Int32))] d30_32 rfl rfl
  replace G := G.iloadN 34 d30_33 rfl rfl
  replace G := G.bipush 36 (100 : Int32) d30_34 (by decide) rfl
  replace G := G.imul 37 d30_36 rfl
  replace G := G.iloadN 38 d30_37 rfl rfl
  replace G := G.isub 39 d30_38 rfl
  replace G := G.top (y := (.int (Int32.ofNat (N % 100)))) (congrArg Value.int (ng_rem (by omega)))
  replace G := G.istore 41 #[.val (.int (-(Int32.ofNat N))), .val (.int (Int32.ofNat (bs.length + 4))), .val (.ref b), .val (.int (-(Int32.ofNat (N / 100)))), .val (.int (Int32.ofNat (N % 100))), .val (.int (Int32.ofNat (bs.length + 4))), .val (.int (0 : Int32))] d30_39 rfl rfl
  replace G := G.iloadN 42 d30_41 rfl rfl
  replace G := G.istoreN 43 #[.val (.int (-(Int32.ofNat (N / 100)))), .val (.int (Int32.ofNat (bs.length + 4))), .val (.ref b), .val (.int (-(Int32.ofNat (N / 100)))), .val (.int (Int32.ofNat (N % 100))), .val (.int (Int32.ofNat (bs.length + 4))), .val (.int (0 : Int32))] d30_42 rfl rfl
  replace G := G.aloadN 44 d30_43 rfl rfl rfl
  replace G := G.iincV 47 #[.val (.int (-(Int32.ofNat (N / 100)))), .val (.int (Int32.ofNat (bs.length + 4))), .val (.ref b), .val (.int (-(Int32.ofNat (N / 100)))), .val (.int (Int32.ofNat (N % 100))), .val (.int (Int32.ofNat (bs.length + 3))), .val (.int (0 : Int32))] (Int32.ofNat (bs.length + 3)) d30_44 rfl (ofn_pred (bs.length + 3)) rfl rfl
  replace G := G.iload 49 d30_47 rfl rfl
  replace G := G.gets 52 (host := "") (Or.inl (hw _ (List.mem_of_getElem? (i := 168) rfl))) Via.refl (G.sta SD1) d30_49 rfl
  replace G := G.iload 54 d30_52 rfl rfl
  replace G := G.baload 55 (v := (.int (Int32.ofNat (48 + N % 100 % 10)))) (AD1.ext G.old.2) ⟨ofn_nn (by omega), ofn_lt (n := 100) (by omega) (by decide)⟩ (by rw [ofn_nat (by omega)]; exact dOnes_at (by omega)) d30_54 rfl
  obtain ⟨g1, G', As, Ks⟩ := G.bastore 56 (bs.length + 3) Ab ⟨ofn_nn (by omega), ofn_lt (by omega) hcap⟩ (ofn_nat (by omega)) (by simp) (Or.inl (List.mem_of_getElem? (i := 0) rfl)) (List.mem_of_getElem? (i := 0) rfl) d30_55 rfl
  clear G; have G := G'; clear G'
  rw [set_app2 _ _ 3 _ _ rfl, dig_b (by omega)] at As
  replace Ab : Arv Z g1 b kb .byte (Int32.ofNat cap) (bs ++ [(.int 0), (.int 0), (.int 0), (.int (Int32.ofNat (48 + N % 100 % 10)))]) (.int 0) := As
  replace G := G.aloadN 57 d30_56 rfl rfl rfl
  replace G := G.iincV 60 #[.val (.int (-(Int32.ofNat (N / 100)))), .val (.int (Int32.ofNat (bs.length + 4))), .val (.ref b), .val (.int (-(Int32.ofNat (N / 100)))), .val (.int (Int32.ofNat (N % 100))), .val (.int (Int32.ofNat (bs.length + 2))), .val (.int (0 : Int32))] (Int32.ofNat (bs.length + 2)) d30_57 rfl (ofn_pred (bs.length + 2)) rfl rfl
  replace G := G.iload 62 d30_60 rfl rfl
  replace G := G.gets 65 (host := "") (Or.inl (hw _ (List.mem_of_getElem? (i := 242) rfl))) Via.refl (G.sta SD2) d30_62 rfl
  replace G := G.iload 67 d30_65 rfl rfl
  replace G := G.baload 68 (v := (.int (Int32.ofNat (48 + N % 100 / 10)))) (AD2.ext G.old.2) ⟨ofn_nn (by omega), ofn_lt (n := 100) (by omega) (by decide)⟩ (by rw [ofn_nat (by omega)]; exact dTens_at (by omega)) d30_67 rfl
  obtain ⟨g2, G', As, Ks⟩ := G.bastore 69 (bs.length + 2) Ab ⟨ofn_nn (by omega), ofn_lt (by omega) hcap⟩ (ofn_nat (by omega)) (by simp) (Or.inl (List.mem_of_getElem? (i := 0) rfl)) (List.mem_of_getElem? (i := 0) rfl) d30_68 rfl
  clear G; have G := G'; clear G'
  rw [set_app2 _ _ 2 _ _ rfl, dig_b (by omega)] at As
  replace Ab : Arv Z g2 b kb .byte (Int32.ofNat cap) (bs ++ [(.int 0), (.int 0), (.int (Int32.ofNat (48 + N % 100 / 10))), (.int (Int32.ofNat (48 + N % 100 % 10)))]) (.int 0) := As
  replace G := G.goto 22 d30_69 (by decide) (by decide)
  replace G := G.iloadN 23 d30_22 rfl rfl
  replace G := G.bipush 25 (-100 : Int32) d30_23 (by decide) rfl
  replace G := G.icmpT 72 d30_25 (XT.ii_gt_t (ng_gt (K := -100) (by omega) rfl (by omega))) (by decide) (by decide)
  replace G := G.aloadN 73 d30_72 rfl rfl rfl
  replace G := G.iincV 76 #[.val (.int (-(Int32.ofNat (N / 100)))), .val (.int (Int32.ofNat (bs.length + 4))), .val (.ref b), .val (.int (-(Int32.ofNat (N / 100)))), .val (.int (Int32.ofNat (N % 100))), .val (.int (Int32.ofNat (bs.length + 1))), .val (.int (0 : Int32))] (Int32.ofNat (bs.length + 1)) d30_73 rfl (ofn_pred (bs.length + 1)) rfl rfl
  replace G := G.iload 78 d30_76 rfl rfl
  replace G := G.gets 81 (host := "") (Or.inl (hw _ (List.mem_of_getElem? (i := 168) rfl))) Via.refl (G.sta SD1) d30_78 rfl
  replace G := G.iloadN 82 d30_81 rfl rfl
  replace G := G.ineg 83 d30_82 rfl
  replace G := G.top (y := (.int (Int32.ofNat (N / 100)))) (congrArg Value.int Int32.neg_neg)
  replace G := G.baload 84 (v := (.int (Int32.ofNat (48 + (N / 100) % 10)))) (AD1.ext G.old.2) ⟨ofn_nn (by omega), ofn_lt (n := 100) (by omega) (by decide)⟩ (by rw [ofn_nat (by omega)]; exact dOnes_at (by omega)) d30_83 rfl
  obtain ⟨g3, G', As, Ks⟩ := G.bastore 85 (bs.length + 1) Ab ⟨ofn_nn (by omega), ofn_lt (by omega) hcap⟩ (ofn_nat (by omega)) (by simp) (Or.inl (List.mem_of_getElem? (i := 0) rfl)) (List.mem_of_getElem? (i := 0) rfl) d30_84 rfl
  clear G; have G := G'; clear G'
  rw [set_app2 _ _ 1 _ _ rfl, dig_b (by omega)] at As
  replace Ab : Arv Z g3 b kb .byte (Int32.ofNat cap) (bs ++ [(.int 0), (.int (Int32.ofNat (48 + (N / 100) % 10))), (.int (Int32.ofNat (48 + N % 100 / 10))), (.int (Int32.ofNat (48 + N % 100 % 10)))]) (.int 0) := As
  replace G := G.iloadN 86 d30_85 rfl rfl
  replace G := G.bipush 88 (-9 : Int32) d30_86 (by decide) rfl
  replace G := G.icmpF 91 d30_88 (XT.ii_ge_f (ng_lt (K := -9) (by omega) rfl (by omega))) rfl
  replace G := G.aloadN 92 d30_91 rfl rfl rfl
  replace G := G.iincV 95 #[.val (.int (-(Int32.ofNat (N / 100)))), .val (.int (Int32.ofNat (bs.length + 4))), .val (.ref b), .val (.int (-(Int32.ofNat (N / 100)))), .val (.int (Int32.ofNat (N % 100))), .val (.int (Int32.ofNat (bs.length + 0))), .val (.int (0 : Int32))] (Int32.ofNat (bs.length + 0)) d30_92 rfl (ofn_pred (bs.length + 0)) rfl rfl
  replace G := G.iload 97 d30_95 rfl rfl
  replace G := G.gets 100 (host := "") (Or.inl (hw _ (List.mem_of_getElem? (i := 242) rfl))) Via.refl (G.sta SD2) d30_97 rfl
  replace G := G.iloadN 101 d30_100 rfl rfl
  replace G := G.ineg 102 d30_101 rfl
  replace G := G.top (y := (.int (Int32.ofNat (N / 100)))) (congrArg Value.int Int32.neg_neg)
  replace G := G.baload 103 (v := (.int (Int32.ofNat (48 + (N / 100) / 10)))) (AD2.ext G.old.2) ⟨ofn_nn (by omega), ofn_lt (n := 100) (by omega) (by decide)⟩ (by rw [ofn_nat (by omega)]; exact dTens_at (by omega)) d30_102 rfl
  obtain ⟨g4, G', As, Ks⟩ := G.bastore 104 (bs.length + 0) Ab ⟨ofn_nn (by omega), ofn_lt (by omega) hcap⟩ (ofn_nat (by omega)) (by simp) (Or.inl (List.mem_of_getElem? (i := 0) rfl)) (List.mem_of_getElem? (i := 0) rfl) d30_103 rfl
  clear G; have G := G'; clear G'
  rw [set_app2 _ _ 0 _ _ rfl, dig_b (by omega)] at As
  replace Ab : Arv Z g4 b kb .byte (Int32.ofNat cap) (bs ++ [(.int (Int32.ofNat (48 + (N / 100) / 10))), (.int (Int32.ofNat (48 + (N / 100) % 10))), (.int (Int32.ofNat (48 + N % 100 / 10))), (.int (Int32.ofNat (48 + N % 100 % 10)))]) (.int 0) := As
  replace G := G.iload 106 d30_104 rfl rfl
  replace G := G.ifT 118 d30_106 (XT.i0_eq_t rfl) (by decide) (by decide)
  replace G := G.iload 120 d30_118 rfl rfl
  have hdg : ([(.int (Int32.ofNat (48 + (N / 100) / 10))), (.int (Int32.ofNat (48 + (N / 100) % 10))), (.int (Int32.ofNat (48 + N % 100 / 10))), (.int (Int32.ofNat (48 + N % 100 % 10)))] : List Value) = [dg N 3, dg N 2, dg N 1, dg N 0] := by
    simp only [dg, List.cons.injEq, Value.int.injEq, and_true, Nat.reducePow]
    refine ⟨?_, ?_, ?_, ?_⟩ <;> first | trivial | (congr 2; omega)
  rw [hdg] at Ab
  exact G.retI hret hlk d30_120 [] all0 ⟨_, rfl, rfl, Ab, rfl⟩ (Nat.le_of_ble_eq_true rfl) (Nat.le_of_ble_eq_true rfl)
set_option maxRecDepth 65536 in
set_option maxHeartbeats 40000000 in
theorem c_asbI4 (l : Launch) (Z : State) (a0 : Array Value) (hw : ∀ d ∈ tables_1, d.before a0 Z = true) (hEW : EW Z a0 consts_1) (n0 : Nat) (c1 : Int32) (hc1 : ¬ c1 = 0) (S1 : Sta Z Z.heap "java/lang/String" "COMPACT_STRINGS" "Z" (.int c1)) (v2 : Value) (hv2 : v2.isRef = true) (S2 : Sta Z Z.heap "jdk/internal/util/Preconditions" "SIOOBE_FORMATTER" "Ljava/util/function/BiFunction;" v2) (t1 t2 : Addr) (kt1 kt2 : ClassId) (SD1 : Sta Z Z.heap "java/lang/Integer" "DigitOnes" "[B" (.ref t1)) (SD2 : Sta Z Z.heap "java/lang/Integer" "DigitTens" "[B" (.ref t2)) (AD1 : Arv Z Z.heap t1 kt1 .byte 100 dOnes (.int 0)) (AD2 : Arv Z Z.heap t2 kt2 .byte 100 dTens (.int 0)) (a b : Addr) (cap : Nat) (bs : List Value) (N : Nat) {h0 : Heap} (o1 : Old Z n0 h0) (ge_a : n0 ≤ a) (ge_b : n0 ≤ b) (hlo : 1000 ≤ N) (hhi : N < 10000) (hle : bs.length + 4 ≤ cap) (hcap : cap < 2147483648) (hS : Sbd Z h0 a b cap bs) :
    Con Z a0 l (⟨"java/lang/AbstractStringBuilder", "append", "(I)Ljava/lang/AbstractStringBuilder;"⟩ : MethodName) jdk_68_method_32_code 4 (some (.object "java/lang/AbstractStringBuilder")) ({ frames := 1, cells := 0, slots := 0, locals := 18 } : Room) [] #[(.ref a), (.int (Int32.ofNat N))] consts_1 h0 n0 [a, b] [a, b] (VV fun w h so => w = .ref a ∧ Sbd Z h a b cap (bs ++ [dg N 3, dg N 2, dg N 1, dg N 0]) ∧ so = []) := by
  refine Con.body (plainFor_of_name pn_java_lang_AbstractStringBuilder) hEW o1 (allS ge_a (allS ge_b all0)) #[.val (.ref a), .val (.int (Int32.ofNat N)), .unset, .unset] (fun m => by first | (simp [entryFrame, mkF, argsToLocals, Value.category]; done) | rfl) ?_
  intro p e s m below meth c B hnm hret hlk G
  replace G := G.aloadN 1 d27_0 rfl rfl rfl
  replace G := G.getf 4 (host := "") (Or.inl (hw _ (List.mem_of_getElem? (i := 119) rfl))) Via.refl hS.2.2.2.1 d27_1 rfl
  replace G := G.istoreN 5 #[.val (.ref a), .val (.int (Int32.ofNat N)), .val (.int (Int32.ofNat bs.length)), .unset] d27_4 rfl rfl
  replace G := G.iloadN 6 d27_5 rfl rfl
  replace G := G.iloadN 7 d27_6 rfl rfl
  obtain ⟨vz, h_z, soz, G', Kz, Qz⟩ := G.callS 10 (hw _ (List.mem_of_getElem? (i := 156) rfl)) (hw _ (List.mem_of_getElem? (i := 157) rfl)) (hw _ (List.mem_of_getElem? (i := 158) rfl)) (hw _ (List.mem_of_getElem? (i := 159) rfl)) (by decide) [(.int (Int32.ofNat N))] [(.int (Int32.ofNat bs.length))] rfl (c_size4 l Z a0 hw hEW n0 c1 hc1 S1 v2 hv2 S2 N G.old hlo hhi) (lenOf pd__I_I rfl) d27_7 rfl (Nat.le_of_ble_eq_true rfl) (Nat.le_of_ble_eq_true rfl) (Nat.le_of_ble_eq_true rfl) (Nat.le_of_ble_eq_true rfl) all0 all0 all0 rfl
  clear G; have G := G'; clear G'
  obtain ⟨wz, qz, rfl, ez, rfl⟩ := Qz
  replace G := G.val qz
  subst ez
  replace G := G.iadd 11 d27_10 rfl
  replace G := G.top (y := (.int (Int32.ofNat (bs.length + 4)))) (congrArg Value.int (ofn_add bs.length 4))
  replace G := G.istoreN 12 #[.val (.ref a), .val (.int (Int32.ofNat N)), .val (.int (Int32.ofNat bs.length)), .val (.int (Int32.ofNat (bs.length + 4)))] d27_11 rfl rfl
  replace G := G.aloadN 13 d27_12 rfl rfl rfl
  replace G := G.iloadN 14 d27_13 rfl rfl
  obtain ⟨ve, h_e, soe, G', Ke, Qe⟩ := G.callV 17 (hw _ (List.mem_of_getElem? (i := 121) rfl)) (declOf (hw _ (List.mem_of_getElem? (i := 122) rfl)) (hw _ (List.mem_of_getElem? (i := 125) rfl))) (nfSel (hw _ (List.mem_of_getElem? (i := 124) rfl))) (hw _ (List.mem_of_getElem? (i := 124) rfl)) (hw _ (List.mem_of_getElem? (i := 122) rfl)) (hw _ (List.mem_of_getElem? (i := 91) rfl)) (hw _ (List.mem_of_getElem? (i := 125) rfl)) hS.1 (by decide) [(.int (Int32.ofNat (bs.length + 4)))] [] rfl (c_ensNG l Z a0 hw hEW n0 c1 hc1 S1 v2 hv2 S2 a b cap (bs.length + 4) bs G.old hle hcap hS) (lenOf pd__I_V rfl) d27_14 rfl (Nat.le_of_ble_eq_true rfl) (Nat.le_of_ble_eq_true rfl) (Nat.le_of_ble_eq_true rfl) (Nat.le_of_ble_eq_true rfl) all0 all0 all0 rfl
  clear G; have G := G'; clear G'
  obtain ⟨qe, ee, rfl⟩ := Qe
  replace G := G.nov qe
  subst ee
  replace G := G.aloadN 18 d27_17 rfl rfl rfl
  obtain ⟨vl, h_l, sol, G', Kl, Ql⟩ := G.callV 21 (hw _ (List.mem_of_getElem? (i := 160) rfl)) (hw _ (List.mem_of_getElem? (i := 161) rfl)) (nfSel (hw _ (List.mem_of_getElem? (i := 163) rfl))) (hw _ (List.mem_of_getElem? (i := 163) rfl)) (hw _ (List.mem_of_getElem? (i := 162) rfl)) (hw _ (List.mem_of_getElem? (i := 91) rfl)) (hw _ (List.mem_of_getElem? (i := 164) rfl)) hS.1 (by decide) [] [] rfl (c_isL1 l Z a0 hw hEW n0 c1 hc1 S1 v2 hv2 S2 a b cap bs G.old hS) (lenOf pd___Z rfl) d27_18 rfl (Nat.le_of_ble_eq_true rfl) (Nat.le_of_ble_eq_true rfl) (Nat.le_of_ble_eq_true rfl) (Nat.le_of_ble_eq_true rfl) all0 all0 all0 rfl
  clear G; have G := G'; clear G'
  obtain ⟨wl, ql, rfl, el, rfl⟩ := Ql
  replace G := G.val ql
  subst el
  replace G := G.ifF 24 d27_21 (XT.i0_eq_f (by decide)) rfl
  replace G := G.iloadN 25 d27_24 rfl rfl
  replace G := G.iloadN 26 d27_25 rfl rfl
  replace G := G.aloadN 27 d27_26 rfl rfl rfl
  replace G := G.getf 30 (host := "") (Or.inl (hw _ (List.mem_of_getElem? (i := 95) rfl))) Via.refl hS.2.1 d27_27 rfl
  obtain ⟨Xa, Fv, Fc, Fn, kb, Ab⟩ := hS
  obtain ⟨vp, h1, sop, G', Kp, Qp⟩ := G.callS 33 (hw _ (List.mem_of_getElem? (i := 165) rfl)) (hw _ (List.mem_of_getElem? (i := 166) rfl)) (hw _ (List.mem_of_getElem? (i := 158) rfl)) (hw _ (List.mem_of_getElem? (i := 167) rfl)) (by decide) [(.int (Int32.ofNat N)), (.int (Int32.ofNat (bs.length + 4))), (.ref b)] [] rfl (c_getC4 l Z a0 hw hEW n0 c1 hc1 S1 v2 hv2 S2 t1 t2 kt1 kt2 SD1 SD2 AD1 AD2 b kb cap bs N G.old ge_b hlo hhi hle hcap Ab) (lenOf pd__II_B_I rfl) d27_30 rfl (Nat.le_of_ble_eq_true rfl) (Nat.le_of_ble_eq_true rfl) (Nat.le_of_ble_eq_true rfl) (Nat.le_of_ble_eq_true rfl) (allS (Or.inl (List.mem_of_getElem? (i := 1) rfl)) all0) (allS (List.mem_of_getElem? (i := 1) rfl) all0) (allS (List.mem_of_getElem? (i := 1) rfl) all0) rfl
  clear G; have G := G'; clear G'
  obtain ⟨wp, qp, rfl, Ab1, rfl⟩ := Qp
  replace G := G.val qp
  have nab : a ≠ b := ne_arr Xa (hw _ (List.mem_of_getElem? (i := 82) rfl)) Ab.choose_spec.1
  replace Xa := Xa.keep Kp; replace Fv := Fv.keep Kp (ninS nab nin0); replace Fc := Fc.keep Kp (ninS nab nin0); replace Fn := Fn.keep Kp (ninS nab nin0)
  replace G := G.pop 34 d27_33 rfl rfl
  replace G := G.goto 48 d27_34 (by decide) (by decide)
  replace G := G.aloadN 49 d27_48 rfl rfl rfl
  replace G := G.iloadN 50 d27_49 rfl rfl
  replace G := G.top (y := (.int (Int32.ofNat (bs ++ [dg N 3, dg N 2, dg N 1, dg N 0]).length))) (congrArg Value.int (by rw [List.length_append]; rfl))
  obtain ⟨h2, G', Ww, Fw, Kw⟩ := G.putf 53 (host := "") (Or.inl (hw _ (List.mem_of_getElem? (i := 119) rfl))) Via.refl Fn Xa (Or.inl (hw _ (List.mem_of_getElem? (i := 120) rfl))) (hw _ (List.mem_of_getElem? (i := 82) rfl)) (ty := .int) (by decide) rfl rfl (Or.inl (List.mem_of_getElem? (i := 0) rfl)) (List.mem_of_getElem? (i := 0) rfl) d27_50 rfl
  clear G; have G := G'; clear G'
  replace Fv := Fv.other Ww (Or.inr (slot_ne (Or.inl (hw _ (List.mem_of_getElem? (i := 96) rfl))) (Or.inl (hw _ (List.mem_of_getElem? (i := 120) rfl))) (by decide) (t := (.array .byte)) (t' := .int) (by decide) (by decide)))
  replace Fc := Fc.other Ww (Or.inr (slot_ne (Or.inl (hw _ (List.mem_of_getElem? (i := 98) rfl))) (Or.inl (hw _ (List.mem_of_getElem? (i := 120) rfl))) (by decide) (t := .byte) (t' := .int) (by decide) (by decide)))
  replace Xa := Xa.wr Ww; replace Ab1 := Ab1.keep Kw (ninS nab.symm nin0)
  replace G := G.aloadN 54 d27_53 rfl rfl rfl
  exact G.retA hret rfl rfl hlk d27_54 [] all0 ⟨_, rfl, rfl, ⟨Xa, Fv, Fc, Fw, kb, Ab1⟩, rfl⟩ (Nat.le_of_ble_eq_true rfl) (Nat.le_of_ble_eq_true rfl)
set_option maxRecDepth 65536 in
set_option maxHeartbeats 40000000 in
theorem c_appI4 (l : Launch) (Z : State) (a0 : Array Value) (hw : ∀ d ∈ tables_1, d.before a0 Z = true) (hEW : EW Z a0 consts_1) (n0 : Nat) (c1 : Int32) (hc1 : ¬ c1 = 0) (S1 : Sta Z Z.heap "java/lang/String" "COMPACT_STRINGS" "Z" (.int c1)) (v2 : Value) (hv2 : v2.isRef = true) (S2 : Sta Z Z.heap "jdk/internal/util/Preconditions" "SIOOBE_FORMATTER" "Ljava/util/function/BiFunction;" v2) (t1 t2 : Addr) (kt1 kt2 : ClassId) (SD1 : Sta Z Z.heap "java/lang/Integer" "DigitOnes" "[B" (.ref t1)) (SD2 : Sta Z Z.heap "java/lang/Integer" "DigitTens" "[B" (.ref t2)) (AD1 : Arv Z Z.heap t1 kt1 .byte 100 dOnes (.int 0)) (AD2 : Arv Z Z.heap t2 kt2 .byte 100 dTens (.int 0)) (a b : Addr) (cap : Nat) (bs : List Value) (N : Nat) {h0 : Heap} (o1 : Old Z n0 h0) (ge_a : n0 ≤ a) (ge_b : n0 ≤ b) (hlo : 1000 ≤ N) (hhi : N < 10000) (hle : bs.length + 4 ≤ cap) (hcap : cap < 2147483648) (hS : Sbd Z h0 a b cap bs) :
    Con Z a0 l (⟨"java/lang/StringBuilder", "append", "(I)Ljava/lang/StringBuilder;"⟩ : MethodName) jdk_67_method_15_code 2 (some (.object "java/lang/StringBuilder")) ({ frames := 2, cells := 0, slots := 0, locals := 33 } : Room) [] #[(.ref a), (.int (Int32.ofNat N))] consts_1 h0 n0 [a, b] [a, b] (VV fun w h so => w = .ref a ∧ Sbd Z h a b cap (bs ++ [dg N 3, dg N 2, dg N 1, dg N 0]) ∧ so = []) := by
  refine Con.body (plainFor_of_name pn_java_lang_StringBuilder) hEW o1 (allS ge_a (allS ge_b all0)) #[.val (.ref a), .val (.int (Int32.ofNat N))] (fun m => by first | (simp [entryFrame, mkF, argsToLocals, Value.category]; done) | rfl) ?_
  intro p e s m below meth c B hnm hret hlk G
  replace G := G.aloadN 1 d26_0 rfl rfl rfl
  replace G := G.iloadN 2 d26_1 rfl rfl
  obtain ⟨vp, h1, sop, G', Kp, Qp⟩ := G.callSup 5 (hw _ (List.mem_of_getElem? (i := 152) rfl)) (sameOf (hw _ (List.mem_of_getElem? (i := 153) rfl)) (nfVia (y := (⟨"java/lang/AbstractStringBuilder", "ensureCapacityInternal", "(I)V"⟩ : MethodName)) rfl (hw _ (List.mem_of_getElem? (i := 124) rfl)) (hw _ (List.mem_of_getElem? (i := 122) rfl))) (by decide)) (hw _ (List.mem_of_getElem? (i := 153) rfl)) (hw _ (List.mem_of_getElem? (i := 106) rfl)) (by decide) (hw _ (List.mem_of_getElem? (i := 91) rfl)) (hw _ (List.mem_of_getElem? (i := 155) rfl)) (Ins.self hS.1) [(.int (Int32.ofNat N))] [] rfl (c_asbI4 l Z a0 hw hEW n0 c1 hc1 S1 v2 hv2 S2 t1 t2 kt1 kt2 SD1 SD2 AD1 AD2 a b cap bs N G.old ge_a ge_b hlo hhi hle hcap hS) (lenOf pd__I_Ljava_lang_AbstractStringBuilder_ rfl) d26_2 rfl (Nat.le_of_ble_eq_true rfl) (Nat.le_of_ble_eq_true rfl) (Nat.le_of_ble_eq_true rfl) (Nat.le_of_ble_eq_true rfl) (allS (Or.inl (List.mem_of_getElem? (i := 0) rfl)) (allS (Or.inl (List.mem_of_getElem? (i := 1) rfl)) all0)) (allS (List.mem_of_getElem? (i := 0) rfl) (allS (List.mem_of_getElem? (i := 1) rfl) all0)) (allS (List.mem_of_getElem? (i := 0) rfl) (allS (List.mem_of_getElem? (i := 1) rfl) all0)) rfl
  clear G; have G := G'; clear G'
  obtain ⟨wp, qp, rfl, hS1, rfl⟩ := Qp
  replace G := G.val qp
  replace G := G.pop 6 d26_5 rfl rfl
  replace G := G.aloadN 7 d26_6 rfl rfl rfl
  exact G.retA hret rfl rfl hlk d26_7 [] all0 ⟨_, rfl, rfl, hS1, rfl⟩ (Nat.le_of_ble_eq_true rfl) (Nat.le_of_ble_eq_true rfl)
set_option maxRecDepth 65536 in
set_option maxHeartbeats 40000000 in
theorem c_size5 (l : Launch) (Z : State) (a0 : Array Value) (hw : ∀ d ∈ tables_1, d.before a0 Z = true) (hEW : EW Z a0 consts_1) (n0 : Nat) (c1 : Int32) (hc1 : ¬ c1 = 0) (S1 : Sta Z Z.heap "java/lang/String" "COMPACT_STRINGS" "Z" (.int c1)) (v2 : Value) (hv2 : v2.isRef = true) (S2 : Sta Z Z.heap "jdk/internal/util/Preconditions" "SIOOBE_FORMATTER" "Ljava/util/function/BiFunction;" v2) (N : Nat) {h0 : Heap} (o1 : Old Z n0 h0) (hlo : 10000 ≤ N) (hhi : N < 100000)  :
    Con Z a0 l (⟨"java/lang/Integer", "stringSize", "(I)I"⟩ : MethodName) jdk_33_method_13_code 4 (some .int) ({ frames := 0, cells := 0, slots := 0, locals := 0 } : Room) [] #[(.int (Int32.ofNat N))] consts_1 h0 n0 [] [] (VV fun w h so => w = .int (5 : Int32) ∧ h = h0 ∧ so = []) := by
  refine Con.body (plainFor_of_name pn_java_lang_Integer) hEW o1 all0 #[.val (.int (Int32.ofNat N)), .unset, .unset, .unset] (fun m => by first | (simp [entryFrame, mkF, argsToLocals, Value.category]; done) | rfl) ?_
  intro p e s m below meth c B hnm hret hlk G
  have hN : N < 2147483648 := by omega
  replace G := G.iconst 1 (1 : Int32) d28_0 rfl rfl
  replace G := G.istoreN 2 #[.val (.int (Int32.ofNat N)), .val (.int (1 : Int32)), .unset, .unset] d28_1 rfl rfl
  replace G := G.iloadN 3 d28_2 rfl rfl
  replace G := G.ifF 6 d28_3 (XT.i0_lt_f (ofn_nn hN)) rfl
  replace G := G.iconst 7 (0 : Int32) d28_6 rfl rfl
  replace G := G.istoreN 8 #[.val (.int (Int32.ofNat N)), .val (.int (0 : Int32)), .unset, .unset] d28_7 rfl rfl
  replace G := G.iloadN 9 d28_8 rfl rfl
  replace G := G.ineg 10 d28_9 rfl
  replace G := G.istoreN 11 #[.val (.int (-(Int32.ofNat N))), .val (.int (0 : Int32)), .unset, .unset] d28_10 rfl rfl
  replace G := G.bipush 13 (-10 : Int32) d28_11 (by decide) rfl
  replace G := G.istoreN 14 #[.val (.int (-(Int32.ofNat N))), .val (.int (0 : Int32)), .val (.int (-10 : Int32)), .unset] d28_13 rfl rfl
  replace G := G.iconst 15 (1 : Int32) d28_14 rfl rfl
  replace G := G.istoreN 16 #[.val (.int (-(Int32.ofNat N))), .val (.int (0 : Int32)), .val (.int (-10 : Int32)), .val (.int (1 : Int32))] d28_15 rfl rfl
  replace G := G.iloadN 17 d28_16 rfl rfl
  replace G := G.bipush 19 (10 : Int32) d28_17 (by decide) rfl
  replace G := G.icmpF 22 d28_19 (XT.ii_ge_f (by decide)) rfl
  replace G := G.iloadN 23 d28_22 rfl rfl
  replace G := G.iloadN 24 d28_23 rfl rfl
  replace G := G.icmpT 31 d28_24 (XT.ii_le_t (ng_ngt (K := -10) hN rfl (by omega))) (by decide) (by decide)
  replace G := G.bipush 33 (10 : Int32) d28_31 (by decide) rfl
  replace G := G.iloadN 34 d28_33 rfl rfl
  replace G := G.imul 35 d28_34 rfl
  replace G := G.top (y := (.int (-100 : Int32))) (by decide)
  replace G := G.istoreN 36 #[.val (.int (-(Int32.ofNat N))), .val (.int (0 : Int32)), .val (.int (-100 : Int32)), .val (.int (1 : Int32))] d28_35 rfl rfl
  replace G := G.iincV 39 #[.val (.int (-(Int32.ofNat N))), .val (.int (0 : Int32)), .val (.int (-100 : Int32)), .val (.int (2 : Int32))] (2 : Int32) d28_36 rfl (by decide) rfl rfl
  replace G := G.goto 16 d28_39 (by decide) (by decide)
  replace G := G.iloadN 17 d28_16 rfl rfl
  replace G := G.bipush 19 (10 : Int32) d28_17 (by decide) rfl
  replace G := G.icmpF 22 d28_19 (XT.ii_ge_f (by decide)) rfl
  replace G := G.iloadN 23 d28_22 rfl rfl
  replace G := G.iloadN 24 d28_23 rfl rfl
  replace G := G.icmpT 31 d28_24 (XT.ii_le_t (ng_ngt (K := -100) hN rfl (by omega))) (by decide) (by decide)
  replace G := G.bipush 33 (10 : Int32) d28_31 (by decide) rfl
  replace G := G.iloadN 34 d28_33 rfl rfl
  replace G := G.imul 35 d28_34 rfl
  replace G := G.top (y := (.int (-1000 : Int32))) (by decide)
  replace G := G.istoreN 36 #[.val (.int (-(Int32.ofNat N))), .val (.int (0 : Int32)), .val (.int (-1000 : Int32)), .val (.int (2 : Int32))] d28_35 rfl rfl
  replace G := G.iincV 39 #[.val (.int (-(Int32.ofNat N))), .val (.int (0 : Int32)), .val (.int (-1000 : Int32)), .val (.int (3 : Int32))] (3 : Int32) d28_36 rfl (by decide) rfl rfl
  replace G := G.goto 16 d28_39 (by decide) (by decide)
  replace G := G.iloadN 17 d28_16 rfl rfl
  replace G := G.bipush 19 (10 : Int32) d28_17 (by decide) rfl
  replace G := G.icmpF 22 d28_19 (XT.ii_ge_f (by decide)) rfl
  replace G := G.iloadN 23 d28_22 rfl rfl
  replace G := G.iloadN 24 d28_23 rfl rfl
  replace G := G.icmpT 31 d28_24 (XT.ii_le_t (ng_ngt (K := -1000) hN rfl (by omega))) (by decide) (by decide)
  replace G := G.bipush 33 (10 : Int32) d28_31 (by decide) rfl
  replace G := G.iloadN 34 d28_33 rfl rfl
  replace G := G.imul 35 d28_34 rfl
  replace G := G.top (y := (.int (-10000 : Int32))) (by decide)
  replace G := G.istoreN 36 #[.val (.int (-(Int32.ofNat N))), .val (.int (0 : Int32)), .val (.int (-10000 : Int32)), .val (.int (3 : Int32))] d28_35 rfl rfl
  replace G := G.iincV 39 #[.val (.int (-(Int32.ofNat N))), .val (.int (0 : Int32)), .val (.int (-10000 : Int32)), .val (.int (4 : Int32))] (4 : Int32) d28_36 rfl (by decide) rfl rfl
  replace G := G.goto 16 d28_39 (by decide) (by decide)
  replace G := G.iloadN 17 d28_16 rfl rfl
  replace G := G.bipush 19 (10 : Int32) d28_17 (by decide) rfl
  replace G := G.icmpF 22 d28_19 (XT.ii_ge_f (by decide)) rfl
  replace G := G.iloadN 23 d28_22 rfl rfl
  replace G := G.iloadN 24 d28_23 rfl rfl
  replace G := G.icmpT 31 d28_24 (XT.ii_le_t (ng_ngt (K := -10000) hN rfl (by omega))) (by decide) (by decide)
  replace G := G.bipush 33 (10 : Int32) d28_31 (by decide) rfl
  replace G := G.iloadN 34 d28_33 rfl rfl
  replace G := G.imul 35 d28_34 rfl
  replace G := G.top (y := (.int (-100000 : Int32))) (by decide)
  replace G := G.istoreN 36 #[.val (.int (-(Int32.ofNat N))), .val (.int (0 : Int32)), .val (.int (-100000 : Int32)), .val (.int (4 : Int32))] d28_35 rfl rfl
  replace G := G.iincV 39 #[.val (.int (-(Int32.ofNat N))), .val (.int (0 : Int32)), .val (.int (-100000 : Int32)), .val (.int (5 : Int32))] (5 : Int32) d28_36 rfl (by decide) rfl rfl
  replace G := G.goto 16 d28_39 (by decide) (by decide)
  replace G := G.iloadN 17 d28_16 rfl rfl
  replace G := G.bipush 19 (10 : Int32) d28_17 (by decide) rfl
  replace G := G.icmpF 22 d28_19 (XT.ii_ge_f (by decide)) rfl
  replace G := G.iloadN 23 d28_22 rfl rfl
  replace G := G.iloadN 24 d28_23 rfl rfl
  replace G := G.icmpF 27 d28_24 (XT.ii_le_f (ng_gt (K := -100000) hN rfl (by omega))) rfl
  replace G := G.iloadN 28 d28_27 rfl rfl
  replace G := G.iloadN 29 d28_28 rfl rfl
  replace G := G.iadd 30 d28_29 rfl
  replace G := G.top (y := (.int (5 : Int32))) (by decide)
  exact G.retI hret hlk d28_30 [] all0 ⟨_, rfl, rfl, rfl, rfl⟩ (Nat.le_of_ble_eq_true rfl) (Nat.le_of_ble_eq_true rfl)
set_option maxRecDepth 65536 in
set_option maxHeartbeats 40000000 in
theorem c_getC5 (l : Launch) (Z : State) (a0 : Array Value) (hw : ∀ d ∈ tables_1, d.before a0 Z = true) (hEW : EW Z a0 consts_1) (n0 : Nat) (c1 : Int32) (hc1 : ¬ c1 = 0) (S1 : Sta Z Z.heap "java/lang/String" "COMPACT_STRINGS" "Z" (.int c1)) (v2 : Value) (hv2 : v2.isRef = true) (S2 : Sta Z Z.heap "jdk/internal/util/Preconditions" "SIOOBE_FORMATTER" "Ljava/util/function/BiFunction;" v2) (t1 t2 : Addr) (kt1 kt2 : ClassId) (SD1 : Sta Z Z.heap "java/lang/Integer" "DigitOnes" "[B" (.ref t1)) (SD2 : Sta Z Z.heap "java/lang/Integer" "DigitTens" "[B" (.ref t2)) (AD1 : Arv Z Z.heap t1 kt1 .byte 100 dOnes (.int 0)) (AD2 : Arv Z Z.heap t2 kt2 .byte 100 dTens (.int 0)) (b : Addr) (kb : ClassId) (cap : Nat) (bs : List Value) (N : Nat) {h0 : Heap} (o1 : Old Z n0 h0) (ge_b : n0 ≤ b) (hlo : 10000 ≤ N) (hhi : N < 100000) (hle : bs.length + 5 ≤ cap) (hcap : cap < 2147483648) (Ab : Arv Z h0 b kb .byte (Int32.ofNat cap) bs (.int 0)) :
    Con Z a0 l (⟨"java/lang/Integer", "getChars", "(II[B)I"⟩ : MethodName) jdk_33_method_12_code 7 (some .int) ({ frames := 0, cells := 0, slots := 0, locals := 0 } : Room) [] #[(.int (Int32.ofNat N)), (.int (Int32.ofNat (bs.length + 5))), (.ref b)] consts_1 h0 n0 [b] [b] (VV fun w h so => w = .int (Int32.ofNat (bs.length + 0)) ∧ Arv Z h b kb .byte (Int32.ofNat cap) (bs ++ [dg N 4, dg N 3, dg N 2, dg N 1, dg N 0]) (.int 0) ∧ so = []) := by
  refine Con.body (plainFor_of_name pn_java_lang_Integer) hEW o1 (allS ge_b all0) #[.val (.int (Int32.ofNat N)), .val (.int (Int32.ofNat (bs.length + 5))), .val (.ref b), .unset, .unset, .unset, .unset] (fun m => by first | (simp [entryFrame, mkF, argsToLocals, Value.category]; done) | rfl) ?_
  intro p e s m below meth c B hnm hret hlk G
  have hN : N < 2147483648 := by omega
  have hn : bs.length < 2147483648 := by omega
  replace Ab := Ab.pad (vs' := bs ++ [(.int 0), (.int 0), (.int 0), (.int 0), (.int 0)]) (pad_rep bs (.int 0) 5)
  replace G := G.iloadN 1 d30_0 rfl rfl
  replace G := G.istore 3 #[.val (.int (Int32.ofNat N)), .val (.int (Int32.ofNat (bs.length + 5))), .val (.ref b), .unset, .unset, .val (.int (Int32.ofNat (bs.length + 5))), .unset] d30_1 rfl rfl
  replace G := G.iloadN 4 d30_3 rfl rfl
  replace G := G.ifT 11 d30_4 (XT.i0_ge_t (ofn_nn hN)) (by decide) (by decide)
  replace G := G.iconst 12 (0 : Int32) d30_11 rfl rfl
  replace G := G.istore 14 #[.val (.int (Int32.ofNat N)), .val (.int (Int32.ofNat (bs.length + 5))), .val (.ref b), .unset, .unset, .val (.int (Int32.ofNat (bs.length + 5))), .val (.int (0 : Int32))] d30_12 rfl rfl
  replace G := G.iload 16 d30_14 rfl rfl
  replace G := G.ifF 19 d30_16 (XT.i0_ne_f rfl) rfl
  replace G := G.iloadN 20 d30_19 rfl rfl
  replace G := G.ineg 21 d30_20 rfl
  replace G := G.istoreN 22 #[.val (.int (-(Int32.ofNat N))), .val (.int (Int32.ofNat (bs.length + 5))), .val (.ref b), .unset, .unset, .val (.int (Int32.ofNat (bs.length + 5))), .val (.int (0 : Int32))] d30_21 rfl rfl
  replace G := G.iloadN 23 d30_22 rfl rfl
  replace G := G.bipush 25 (-100 : Int32) d30_23 (by decide) rfl
  replace G := G.icmpF 28 d30_25 (XT.ii_gt_f (ng_ngt (K := -100) (by omega) rfl (by omega))) rfl
  replace G := G.iloadN 29 d30_28 rfl rfl
  replace G := G.bipush 31 (100 : Int32) d30_29 (by decide) rfl
  replace G := G.idiv 32 d30_31 (by decide) rfl
  replace G := G.top (y := (.int (-(Int32.ofNat (N / 100))))) (congrArg Value.int (ng_div (by omega)))
  replace G := G.istoreN 33 #[.val (.int (-(Int32.ofNat N))), .val (.int (Int32.ofNat (bs.length + 5))), .val (.ref b), .val (.int (-(Int32.ofNat (N / 100)))), .unset, .val (.int (Int32.ofNat (bs.length + 5))), .val (.int (0 : Int32))] d30_32 rfl rfl
  replace G := G.iloadN 34 d30_33 rfl rfl
  replace G := G.bipush 36 (100 : Int32) d30_34 (by decide) rfl
  replace G := G.imul 37 d30_36 rfl
  replace G := G.iloadN 38 d30_37 rfl rfl
  replace G := G.isub 39 d30_38 rfl
  replace G := G.top (y := (.int (Int32.ofNat (N % 100)))) (congrArg Value.int (ng_rem (by omega)))
  replace G := G.istore 41 #[.val (.int (-(Int32.ofNat N))), .val (.int (Int32.ofNat (bs.length + 5))), .val (.ref b), .val (.int (-(Int32.ofNat (N / 100)))), .val (.int (Int32.ofNat (N % 100))), .val (.int (Int32.ofNat (bs.length + 5))), .val (.int (0 : Int32))] d30_39 rfl rfl
  replace G := G.iloadN 42 d30_41 rfl rfl
  replace G := G.istoreN 43 #[.val (.int (-(Int32.ofNat (N / 100)))), .val (.int (Int32.ofNat (bs.length + 5))), .val (.ref b), .val (.int (-(Int32.ofNat (N / 100)))), .val (.int (Int32.ofNat (N % 100))), .val (.int (Int32.ofNat (bs.length + 5))), .val (.int (0 : Int32))] d30_42 rfl rfl
  replace G := G.aloadN 44 d30_43 rfl rfl rfl
  replace G := G.iincV 47 #[.val (.int (-(Int32.ofNat (N / 100)))), .val (.int (Int32.ofNat (bs.length + 5))), .val (.ref b), .val (.int (-(Int32.ofNat (N / 100)))), .val (.int (Int32.ofNat (N % 100))), .val (.int (Int32.ofNat (bs.length + 4))), .val (.int (0 : Int32))] (Int32.ofNat (bs.length + 4)) d30_44 rfl (ofn_pred (bs.length + 4)) rfl rfl
  replace G := G.iload 49 d30_47 rfl rfl
  replace G := G.gets 52 (host := "") (Or.inl (hw _ (List.mem_of_getElem? (i := 168) rfl))) Via.refl (G.sta SD1) d30_49 rfl
  replace G := G.iload 54 d30_52 rfl rfl
  replace G := G.baload 55 (v := (.int (Int32.ofNat (48 + N % 100 % 10)))) (AD1.ext G.old.2) ⟨ofn_nn (by omega), ofn_lt (n := 100) (by omega) (by decide)⟩ (by rw [ofn_nat (by omega)]; exact dOnes_at (by omega)) d30_54 rfl
  obtain ⟨g1, G', As, Ks⟩ := G.bastore 56 (bs.length + 4) Ab ⟨ofn_nn (by omega), ofn_lt (by omega) hcap⟩ (ofn_nat (by omega)) (by simp) (Or.inl (List.mem_of_getElem? (i := 0) rfl)) (List.mem_of_getElem? (i := 0) rfl) d30_55 rfl
  clear G; have G := G'; clear G'
  rw [set_app2 _ _ 4 _ _ rfl, dig_b (by omega)] at As
  replace Ab : Arv Z g1 b kb .byte (Int32.ofNat cap) (bs ++ [(.int 0), (.int 0), (.int 0), (.int 0), (.int (Int32.ofNat (48 + N % 100 % 10)))]) (.int 0) := As
  replace G := G.aloadN 57 d30_56 rfl rfl rfl
  replace G := G.iincV 60 #[.val (.int (-(Int32.ofNat (N / 100)))), .val (.int (Int32.ofNat (bs.length + 5))), .val (.ref b), .val (.int (-(Int32.ofNat (N / 100)))), .val (.int (Int32.ofNat (N % 100))), .val (.int (Int32.ofNat (bs.length + 3))), .val (.int (0 : Int32))] (Int32.ofNat (bs.length + 3)) d30_57 rfl (ofn_pred (bs.length + 3)) rfl rfl
  replace G := G.iload 62 d30_60 rfl rfl
  replace G := G.gets 65 (host := "") (Or.inl (hw _ (List.mem_of_getElem? (i := 242) rfl))) Via.refl (G.sta SD2) d30_62 rfl
  replace G := G.iload 67 d30_65 rfl rfl
  replace G := G.baload 68 (v := (.int (Int32.ofNat (48 + N % 100 / 10)))) (AD2.ext G.old.2) ⟨ofn_nn (by omega), ofn_lt (n := 100) (by omega) (by decide)⟩ (by rw [ofn_nat (by omega)]; exact dTens_at (by omega)) d30_67 rfl
  obtain ⟨g2, G', As, Ks⟩ := G.bastore 69 (bs.length + 3) Ab ⟨ofn_nn (by omega), ofn_lt (by omega) hcap⟩ (ofn_nat (by omega)) (by simp) (Or.inl (List.mem_of_getElem? (i := 0) rfl)) (List.mem_of_getElem? (i := 0) rfl) d30_68 rfl
  clear G; have G := G'; clear G'
  rw [set_app2 _ _ 3 _ _ rfl, dig_b (by omega)] at As
  replace Ab : Arv Z g2 b kb .byte (Int32.ofNat cap) (bs ++ [(.int 0), (.int 0), (.int 0), (.int (Int32.ofNat (48 + N % 100 / 10))), (.int (Int32.ofNat (48 + N % 100 % 10)))]) (.int 0) := As
  replace G := G.goto 22 d30_69 (by decide) (by decide)
  replace G := G.iloadN 23 d30_22 rfl rfl
  replace G := G.bipush 25 (-100 : Int32) d30_23 (by decide) rfl
  replace G := G.icmpF 28 d30_25 (XT.ii_gt_f (ng_ngt (K := -100) (by omega) rfl (by omega))) rfl
  replace G := G.iloadN 29 d30_28 rfl rfl
  replace G := G.bipush 31 (100 : Int32) d30_29 (by decide) rfl
  replace G := G.idiv 32 d30_31 (by decide) rfl
  replace G := G.top (y := (.int (-(Int32.ofNat (N / 100 / 100))))) (congrArg Value.int (ng_div (by omega)))
  replace G := G.istoreN 33 #[.val (.int (-(Int32.ofNat (N / 100)))), .val (.int (Int32.ofNat (bs.length + 5))), .val (.ref b), .val (.int (-(Int32.ofNat (N / 100 / 100)))), .val (.int (Int32.ofNat (N % 100))), .val (.int (Int32.ofNat (bs.length + 3))), .val (.int (0 : Int32))] d30_32 rfl rfl
  replace G := G.iloadN 34 d30_33 rfl rfl
  replace G := G.bipush 36 (100 : Int32) d30_34 (by decide) rfl
  replace G := G.imul 37 d30_36 rfl
  replace G := G.iloadN 38 d30_37 rfl rfl
  replace G := G.isub 39 d30_38 rfl
  replace G := G.top (y := (.int (Int32.ofNat (N / 100 % 100)))) (congrArg Value.int (ng_rem (by omega)))
  replace G := G.istore 41 #[.val (.int (-(Int32.ofNat (N / 100)))), .val (.int (Int32.ofNat (bs.length + 5))), .val (.ref b), .val (.int (-(Int32.ofNat (N / 100 / 100)))), .val (.int (Int32.ofNat (N / 100 % 100))), .val (.int (Int32.ofNat (bs.length + 3))), .val (.int (0 : Int32))] d30_39 rfl rfl
  replace G := G.iloadN 42 d30_41 rfl rfl
  replace G := G.istoreN 43 #[.val (.int (-(Int32.ofNat (N / 100 / 100)))), .val (.int (Int32.ofNat (bs.length + 5))), .val (.ref b), .val (.int (-(Int32.ofNat (N / 100 / 100)))), .val (.int (Int32.ofNat (N / 100 % 100))), .val (.int (Int32.ofNat (bs.length + 3))), .val (.int (0 : Int32))] d30_42 rfl rfl
  replace G := G.aloadN 44 d30_43 rfl rfl rfl
  replace G := G.iincV 47 #[.val (.int (-(Int32.ofNat (N / 100 / 100)))), .val (.int (Int32.ofNat (bs.length + 5))), .val (.ref b), .val (.int (-(Int32.ofNat (N / 100 / 100)))), .val (.int (Int32.ofNat (N / 100 % 100))), .val (.int (Int32.ofNat (bs.length + 2))), .val (.int (0 : Int32))] (Int32.ofNat (bs.length + 2)) d30_44 rfl (ofn_pred (bs.length + 2)) rfl rfl
  replace G := G.iload 49 d30_47 rfl rfl
  replace G := G.gets 52 (host := "") (Or.inl (hw _ (List.mem_of_getElem? (i := 168) rfl))) Via.refl (G.sta SD1) d30_49 rfl
  replace G := G.iload 54 d30_52 rfl rfl
  replace G := G.baload 55 (v := (.int (Int32.ofNat (48 + N / 100 % 100 % 10)))) (AD1.ext G.old.2) ⟨ofn_nn (by omega), ofn_lt (n := 100) (by omega) (by decide)⟩ (by rw [ofn_nat (by omega)]; exact dOnes_at (by omega)) d30_54 rfl
  obtain ⟨g3, G', As, Ks⟩ := G.bastore 56 (bs.length + 2) Ab ⟨ofn_nn (by omega), ofn_lt (by omega) hcap⟩ (ofn_nat (by omega)) (by simp) (Or.inl (List.mem_of_getElem? (i := 0) rfl)) (List.mem_of_getElem? (i := 0) rfl) d30_55 rfl
  clear G; have G := G'; clear G'
  rw [set_app2 _ _ 2 _ _ rfl, dig_b (by omega)] at As
  replace Ab : Arv Z g3 b kb .byte (Int32.ofNat cap) (bs ++ [(.int 0), (.int 0), (.int (Int32.ofNat (48 + N / 100 % 100 % 10))), (.int (Int32.ofNat (48 + N % 100 / 10))), (.int (Int32.ofNat (48 + N % 100 % 10)))]) (.int 0) := As
  replace G := G.aloadN 57 d30_56 rfl rfl rfl
  replace G := G.iincV 60 #[.val (.int (-(Int32.ofNat (N / 100 / 100)))), .val (.int (Int32.ofNat (bs.length + 5))), .val (.ref b), .val (.int (-(Int32.ofNat (N / 100 / 100)))), .val (.int (Int32.ofNat (N / 100 % 100))), .val (.int (Int32.ofNat (bs.length + 1))), .val (.int (0 : Int32))] (Int32.ofNat (bs.length + 1)) d30_57 rfl (ofn_pred (bs.length + 1)) rfl rfl
  replace G := G.iload 62 d30_60 rfl rfl
  replace G := G.gets 65 (host := "") (Or.inl (hw _ (List.mem_of_getElem? (i := 242) rfl))) Via.refl (G.sta SD2) d30_62 rfl
  replace G := G.iload 67 d30_65 rfl rfl
  replace G := G.baload 68 (v := (.int (Int32.ofNat (48 + N / 100 % 100 / 10)))) (AD2.ext G.old.2) ⟨ofn_nn (by omega), ofn_lt (n := 100) (by omega) (by decide)⟩ (by rw [ofn_nat (by omega)]; exact dTens_at (by omega)) d30_67 rfl
  obtain ⟨g4, G', As, Ks⟩ := G.bastore 69 (bs.length + 1) Ab ⟨ofn_nn (by omega), ofn_lt (by omega) hcap⟩ (ofn_nat (by omega)) (by simp) (Or.inl (List.mem_of_getElem? (i := 0) rfl)) (List.mem_of_getElem? (i := 0) rfl) d30_68 rfl
  clear G; have G := G'; clear G'
  rw [set_app2 _ _ 1 _ _ rfl, dig_b (by omega)] at As
  replace Ab : Arv Z g4 b kb .byte (Int32.ofNat cap) (bs ++ [(.int 0), (.int (Int32.ofNat (48 + N / 100 % 100 / 10))), (.int (Int32.ofNat (48 + N / 100 % 100 % 10))), (.int (Int32.ofNat (48 + N % 100 / 10))), (.int (Int32.ofNat (48 + N % 100 % 10)))]) (.int 0) := As
  replace G := G.goto 22 d30_69 (by decide) (by decide)
  replace G := G.iloadN 23 d30_22 rfl rfl
  replace G := G.bipush 25 (-100 : Int32) d30_23 (by decide) rfl
  replace G := G.icmpT 72 d30_25 (XT.ii_gt_t (ng_gt (K := -100) (by omega) rfl (by omega))) (by decide) (by decide)
  replace G := G.aloadN 73 d30_72 rfl rfl rfl
  replace G := G.iincV 76 #[.val (.int (-(Int32.ofNat (N / 100 / 100)))), .val (.int (Int32.ofNat (bs.length + 5))), .val (.ref b), .val (.int (-(Int32.ofNat (N / 100 / 100)))), .val (.int (Int32.ofNat (N / 100 % 100))), .val (.int (Int32.ofNat (bs.length + 0))), .val (.int (0 : Int32))] (Int32.ofNat (bs.length + 0)) d30_73 rfl (ofn_pred (bs.length + 0)) rfl rfl
  replace G := G.iload 78 d30_76 rfl rfl
  replace G := G.gets 81 (host := "") (Or.inl (hw _ (List.mem_of_getElem? (i := 168) rfl))) Via.refl (G.sta SD1) d30_78 rfl
  replace G := G.iloadN 82 d30_81 rfl rfl
  replace G := G.ineg 83 d30_82 rfl
  replace G := G.top (y := (.int (Int32.ofNat (N / 100 / 100)))) (congrArg Value.int Int32.neg_neg)
  replace G := G.baload 84 (v := (.int (Int32.ofNat (48 + (N / 100 / 100) % 10)))) (AD1.ext G.old.2) ⟨ofn_nn (by omega), ofn_lt (n := 100) (by omega) (by decide)⟩ (by rw [ofn_nat (by omega)]; exact dOnes_at (by omega)) d30_83 rfl
  obtain ⟨g5, G', As, Ks⟩ := G.bastore 85 (bs.length + 0) Ab ⟨ofn_nn (by omega), ofn_lt (by omega) hcap⟩ (ofn_nat (by omega)) (by simp) (Or.inl (List.mem_of_getElem? (i := 0) rfl)) (List.mem_of_getElem? (i := 0) rfl) d30_84 rfl
  clear G; have G := G'; clear G'
  rw [set_app2 _ _ 0 _ _ rfl, dig_b (by omega)] at As
  replace Ab : Arv Z g5 b kb .byte (Int32.ofNat cap) (bs ++ [(.int (Int32.ofNat (48 + (N / 100 / 100) % 10))), (.int (Int32.ofNat (48 + N / 100 % 100 / 10))), (.int (Int32.ofNat (48 + N / 100 % 100 % 10))), (.int (Int32.ofNat (48 + N % 100 / 10))), (.int (Int32.ofNat (48 + N % 100 % 10)))]) (.int 0) := As
  replace G := G.iloadN 86 d30_85 rfl rfl
  replace G := G.bipush 88 (-9 : Int32) d30_86 (by decide) rfl
  replace G := G.icmpT 104 d30_88 (XT.ii_ge_t (ng_nlt (K := -9) (by omega) rfl (by omega))) (by decide) (by decide)
  replace G := G.iload 106 d30_104 rfl rfl
  replace G := G.ifT 118 d30_106 (XT.i0_eq_t rfl) (by decide) (by decide)
  replace G := G.iload 120 d30_118 rfl rfl
  have hdg : ([(.int (Int32.ofNat (48 + (N / 100 / 100) % 10))), (.int (Int32.ofNat (48 + N / 100 % 100 / 10))), (.int (Int32.ofNat (48 + N / 100 % 100 % 10))), (.int (Int32.ofNat (48 + N % 100 / 10))), (.int (Int32.ofNat (48 + N % 100 % 10)))] : List Value) = [dg N 4, dg N 3, dg N 2, dg N 1, dg N 0] := by
    simp only [dg, List.cons.injEq, Value.int.injEq, and_true, Nat.reducePow]
    refine ⟨?_, ?_, ?_, ?_, ?_⟩ <;> first | trivial | (congr 2; omega)
  rw [hdg] at Ab
  exact G.retI hret hlk d30_120 [] all0 ⟨_, rfl, rfl, Ab, rfl⟩ (Nat.le_of_ble_eq_true rfl) (Nat.le_of_ble_eq_true rfl)
set_option maxRecDepth 65536 in
set_option maxHeartbeats 40000000 in
theorem c_asbI5 (l : Launch) (Z : State) (a0 : Array Value) (hw : ∀ d ∈ tables_1, d.before a0 Z = true) (hEW : EW Z a0 consts_1) (n0 : Nat) (c1 : Int32) (hc1 : ¬ c1 = 0) (S1 : Sta Z Z.heap "java/lang/String" "COMPACT_STRINGS" "Z" (.int c1)) (v2 : Value) (hv2 : v2.isRef = true) (S2 : Sta Z Z.heap "jdk/internal/util/Preconditions" "SIOOBE_FORMATTER" "Ljava/util/function/BiFunction;" v2) (t1 t2 : Addr) (kt1 kt2 : ClassId) (SD1 : Sta Z Z.heap "java/lang/Integer" "DigitOnes" "[B" (.ref t1)) (SD2 : Sta Z Z.heap "java/lang/Integer" "DigitTens" "[B" (.ref t2)) (AD1 : Arv Z Z.heap t1 kt1 .byte 100 dOnes (.int 0)) (AD2 : Arv Z Z.heap t2 kt2 .byte 100 dTens (.int 0)) (a b : Addr) (cap : Nat) (bs : List Value) (N : Nat) {h0 : Heap} (o1 : Old Z n0 h0) (ge_a : n0 ≤ a) (ge_b : n0 ≤ b) (hlo : 10000 ≤ N) (hhi : N < 100000) (hle : bs.length + 5 ≤ cap) (hcap : cap < 2147483648) (hS : Sbd Z h0 a b cap bs) :
    Con Z a0 l (⟨"java/lang/AbstractStringBuilder", "append", "(I)Ljava/lang/AbstractStringBuilder;"⟩ : MethodName) jdk_68_method_32_code 4 (some (.object "java/lang/AbstractStringBuilder")) ({ frames := 1, cells := 0, slots := 0, locals := 18 } : Room) [] #[(.ref a), (.int (Int32.ofNat N))] consts_1 h0 n0 [a, b] [a, b] (VV fun w h so => w = .ref a ∧ Sbd Z h a b cap (bs ++ [dg N 4, dg N 3, dg N 2, dg N 1, dg N 0]) ∧ so = []) := by
  refine Con.body (plainFor_of_name pn_java_lang_AbstractStringBuilder) hEW o1 (allS ge_a (allS ge_b all0)) #[.val (.ref a), .val (.int (Int32.ofNat N)), .unset, .unset] (fun m => by first | (simp [entryFrame, mkF, argsToLocals, Value.category]; done) | rfl) ?_
  intro p e s m below meth c B hnm hret hlk G
  replace G := G.aloadN 1 d27_0 rfl rfl rfl
  replace G := G.getf 4 (host := "") (Or.inl (hw _ (List.mem_of_getElem? (i := 119) rfl))) Via.refl hS.2.2.2.1 d27_1 rfl
  replace G := G.istoreN 5 #[.val (.ref a), .val (.int (Int32.ofNat N)), .val (.int (Int32.ofNat bs.length)), .unset] d27_4 rfl rfl
  replace G := G.iloadN 6 d27_5 rfl rfl
  replace G := G.iloadN 7 d27_6 rfl rfl
  obtain ⟨vz, h_z, soz, G', Kz, Qz⟩ := G.callS 10 (hw _ (List.mem_of_getElem? (i := 156) rfl)) (hw _ (List.mem_of_getElem? (i := 157) rfl)) (hw _ (List.mem_of_getElem? (i := 158) rfl)) (hw _ (List.mem_of_getElem? (i := 159) rfl)) (by decide) [(.int (Int32.ofNat N))] [(.int (Int32.ofNat bs.length))] rfl (c_size5 l Z a0 hw hEW n0 c1 hc1 S1 v2 hv2 S2 N G.old hlo hhi) (lenOf pd__I_I rfl) d27_7 rfl (Nat.le_of_ble_eq_true rfl) (Nat.le_of_ble_eq_true rfl) (Nat.le_of_ble_eq_true rfl) (Nat.le_of_ble_eq_true rfl) all0 all0 all0 rfl
  clear G; have G := G'; clear G'
  obtain ⟨wz, qz, rfl, ez, rfl⟩ := Qz
  replace G := G.val qz
  subst ez
  replace G := G.iadd 11 d27_10 rfl
  replace G := G.top (y := (.int (Int32.ofNat (bs.length + 5)))) (congrArg Value.int (ofn_add bs.length 5))
  replace G := G.istoreN 12 #[.val (.ref a), .val (.int (Int32.ofNat N)), .val (.int (Int32.ofNat bs.length)), .val (.int (Int32.ofNat (bs.length + 5)))] d27_11 rfl rfl
  replace G := G.aloadN 13 d27_12 rfl rfl rfl
  replace G := G.iloadN 14 d27_13 rfl rfl
  obtain ⟨ve, h_e, soe, G', Ke, Qe⟩ := G.callV 17 (hw _ (List.mem_of_getElem? (i := 121) rfl)) (declOf (hw _ (List.mem_of_getElem? (i := 122) rfl)) (hw _ (List.mem_of_getElem? (i := 125) rfl))) (nfSel (hw _ (List.mem_of_getElem? (i := 124) rfl))) (hw _ (List.mem_of_getElem? (i := 124) rfl)) (hw _ (List.mem_of_getElem? (i := 122) rfl)) (hw _ (List.mem_of_getElem? (i := 91) rfl)) (hw _ (List.mem_of_getElem? (i := 125) rfl)) hS.1 (by decide) [(.int (Int32.ofNat (bs.length + 5)))] [] rfl (c_ensNG l Z a0 hw hEW n0 c1 hc1 S1 v2 hv2 S2 a b cap (bs.length + 5) bs G.old hle hcap hS) (lenOf pd__I_V rfl) d27_14 rfl (Nat.le_of_ble_eq_true rfl) (Nat.le_of_ble_eq_true rfl) (Nat.le_of_ble_eq_true rfl) (Nat.le_of_ble_eq_true rfl) all0 all0 all0 rfl
  clear G; have G := G'; clear G'
  obtain ⟨qe, ee, rfl⟩ := Qe
  replace G := G.nov qe
  subst ee
  replace G := G.aloadN 18 d27_17 rfl rfl rfl
  obtain ⟨vl, h_l, sol, G', Kl, Ql⟩ := G.callV 21 (hw _ (List.mem_of_getElem? (i := 160) rfl)) (hw _ (List.mem_of_getElem? (i := 161) rfl)) (nfSel (hw _ (List.mem_of_getElem? (i := 163) rfl))) (hw _ (List.mem_of_getElem? (i := 163) rfl)) (hw _ (List.mem_of_getElem? (i := 162) rfl)) (hw _ (List.mem_of_getElem? (i := 91) rfl)) (hw _ (List.mem_of_getElem? (i := 164) rfl)) hS.1 (by decide) [] [] rfl (c_isL1 l Z a0 hw hEW n0 c1 hc1 S1 v2 hv2 S2 a b cap bs G.old hS) (lenOf pd___Z rfl) d27_18 rfl (Nat.le_of_ble_eq_true rfl) (Nat.le_of_ble_eq_true rfl) (Nat.le_of_ble_eq_true rfl) (Nat.le_of_ble_eq_true rfl) all0 all0 all0 rfl
  clear G; have G := G'; clear G'
  obtain ⟨wl, ql, rfl, el, rfl⟩ := Ql
  replace G := G.val ql
  subst el
  replace G := G.ifF 24 d27_21 (XT.i0_eq_f (by decide)) rfl
  replace G := G.iloadN 25 d27_24 rfl rfl
  replace G := G.iloadN 26 d27_25 rfl rfl
  replace G := G.aloadN 27 d27_26 rfl rfl rfl
  replace G := G.getf 30 (host := "") (Or.inl (hw _ (List.mem_of_getElem? (i := 95) rfl))) Via.refl hS.2.1 d27_27 rfl
  obtain ⟨Xa, Fv, Fc, Fn, kb, Ab⟩ := hS
  obtain ⟨vp, h1, sop, G', Kp, Qp⟩ := G.callS 33 (hw _ (List.mem_of_getElem? (i := 165) rfl)) (hw _ (List.mem_of_getElem? (i := 166) rfl)) (hw _ (List.mem_of_getElem? (i := 158) rfl)) (hw _ (List.mem_of_getElem? (i := 167) rfl)) (by decide) [(.int (Int32.ofNat N)), (.int (Int32.ofNat (bs.length + 5))), (.ref b)] [] rfl (c_getC5 l Z a0 hw hEW n0 c1 hc1 S1 v2 hv2 S2 t1 t2 kt1 kt2 SD1 SD2 AD1 AD2 b kb cap bs N G.old ge_b hlo hhi hle hcap Ab) (lenOf pd__II_B_I rfl) d27_30 rfl (Nat.le_of_ble_eq_true rfl) (Nat.le_of_ble_eq_true rfl) (Nat.le_of_ble_eq_true rfl) (Nat.le_of_ble_eq_true rfl) (allS (Or.inl (List.mem_of_getElem? (i := 1) rfl)) all0) (allS (List.mem_of_getElem? (i := 1) rfl) all0) (allS (List.mem_of_getElem? (i := 1) rfl) all0) rfl
  clear G; have G := G'; clear G'
  obtain ⟨wp, qp, rfl, Ab1, rfl⟩ := Qp
  replace G := G.val qp
  have nab : a ≠ b := ne_arr Xa (hw _ (List.mem_of_getElem? (i := 82) rfl)) Ab.choose_spec.1
  replace Xa := Xa.keep Kp; replace Fv := Fv.keep Kp (ninS nab nin0); replace Fc := Fc.keep Kp (ninS nab nin0); replace Fn := Fn.keep Kp (ninS nab nin0)
  replace G := G.pop 34 d27_33 rfl rfl
  replace G := G.goto 48 d27_34 (by decide) (by decide)
  replace G := G.aloadN 49 d27_48 rfl rfl rfl
  replace G := G.iloadN 50 d27_49 rfl rfl
  replace G := G.top (y := (.int (Int32.ofNat (bs ++ [dg N 4, dg N 3, dg N 2, dg N 1, dg N 0]).length))) (congrArg Value.int (by rw [List.length_append]; rfl))
  obtain ⟨h2, G', Ww, Fw, Kw⟩ := G.putf 53 (host := "") (Or.inl (hw _ (List.mem_of_getElem? (i := 119) rfl))) Via.refl Fn Xa (Or.inl (hw _ (List.mem_of_getElem? (i := 120) rfl))) (hw _ (List.mem_of_getElem? (i := 82) rfl)) (ty := .int) (by decide) rfl rfl (Or.inl (List.mem_of_getElem? (i := 0) rfl)) (List.mem_of_getElem? (i := 0) rfl) d27_50 rfl
  clear G; have G := G'; clear G'
  replace Fv := Fv.other Ww (Or.inr (slot_ne (Or.inl (hw _ (List.mem_of_getElem? (i := 96) rfl))) (Or.inl (hw _ (List.mem_of_getElem? (i := 120) rfl))) (by decide) (t := (.array .byte)) (t' := .int) (by decide) (by decide)))
  replace Fc := Fc.other Ww (Or.inr (slot_ne (Or.inl (hw _ (List.mem_of_getElem? (i := 98) rfl))) (Or.inl (hw _ (List.mem_of_getElem? (i := 120) rfl))) (by decide) (t := .byte) (t' := .int) (by decide) (by decide)))
  replace Xa := Xa.wr Ww; replace Ab1 := Ab1.keep Kw (ninS nab.symm nin0)
  replace G := G.aloadN 54 d27_53 rfl rfl rfl
  exact G.retA hret rfl rfl hlk d27_54 [] all0 ⟨_, rfl, rfl, ⟨Xa, Fv, Fc, Fw, kb, Ab1⟩, rfl⟩ (Nat.le_of_ble_eq_true rfl) (Nat.le_of_ble_eq_true rfl)
set_option maxRecDepth 65536 in
set_option maxHeartbeats 40000000 in
theorem c_appI5 (l : Launch) (Z : State) (a0 : Array Value) (hw : ∀ d ∈ tables_1, d.before a0 Z = true) (hEW : EW Z a0 consts_1) (n0 : Nat) (c1 : Int32) (hc1 : ¬ c1 = 0) (S1 : Sta Z Z.heap "java/lang/String" "COMPACT_STRINGS" "Z" (.int c1)) (v2 : Value) (hv2 : v2.isRef = true) (S2 : Sta Z Z.heap "jdk/internal/util/Preconditions" "SIOOBE_FORMATTER" "Ljava/util/function/BiFunction;" v2) (t1 t2 : Addr) (kt1 kt2 : ClassId) (SD1 : Sta Z Z.heap "java/lang/Integer" "DigitOnes" "[B" (.ref t1)) (SD2 : Sta Z Z.heap "java/lang/Integer" "DigitTens" "[B" (.ref t2)) (AD1 : Arv Z Z.heap t1 kt1 .byte 100 dOnes (.int 0)) (AD2 : Arv Z Z.heap t2 kt2 .byte 100 dTens (.int 0)) (a b : Addr) (cap : Nat) (bs : List Value) (N : Nat) {h0 : Heap} (o1 : Old Z n0 h0) (ge_a : n0 ≤ a) (ge_b : n0 ≤ b) (hlo : 10000 ≤ N) (hhi : N < 100000) (hle : bs.length + 5 ≤ cap) (hcap : cap < 2147483648) (hS : Sbd Z h0 a b cap bs) :
    Con Z a0 l (⟨"java/lang/StringBuilder", "append", "(I)Ljava/lang/StringBuilder;"⟩ : MethodName) jdk_67_method_15_code 2 (some (.object "java/lang/StringBuilder")) ({ frames := 2, cells := 0, slots := 0, locals := 33 } : Room) [] #[(.ref a), (.int (Int32.ofNat N))] consts_1 h0 n0 [a, b] [a, b] (VV fun w h so => w = .ref a ∧ Sbd Z h a b cap (bs ++ [dg N 4, dg N 3, dg N 2, dg N 1, dg N 0]) ∧ so = []) := by
  refine Con.body (plainFor_of_name pn_java_lang_StringBuilder) hEW o1 (allS ge_a (allS ge_b all0)) #[.val (.ref a), .val (.int (Int32.ofNat N))] (fun m => by first | (simp [entryFrame, mkF, argsToLocals, Value.category]; done) | rfl) ?_
  intro p e s m below meth c B hnm hret hlk G
  replace G := G.aloadN 1 d26_0 rfl rfl rfl
  replace G := G.iloadN 2 d26_1 rfl rfl
  obtain ⟨vp, h1, sop, G', Kp, Qp⟩ := G.callSup 5 (hw _ (List.mem_of_getElem? (i := 152) rfl)) (sameOf (hw _ (List.mem_of_getElem? (i := 153) rfl)) (nfVia (y := (⟨"java/lang/AbstractStringBuilder", "ensureCapacityInternal", "(I)V"⟩ : MethodName)) rfl (hw _ (List.mem_of_getElem? (i := 124) rfl)) (hw _ (List.mem_of_getElem? (i := 122) rfl))) (by decide)) (hw _ (List.mem_of_getElem? (i := 153) rfl)) (hw _ (List.mem_of_getElem? (i := 106) rfl)) (by decide) (hw _ (List.mem_of_getElem? (i := 91) rfl)) (hw _ (List.mem_of_getElem? (i := 155) rfl)) (Ins.self hS.1) [(.int (Int32.ofNat N))] [] rfl (c_asbI5 l Z a0 hw hEW n0 c1 hc1 S1 v2 hv2 S2 t1 t2 kt1 kt2 SD1 SD2 AD1 AD2 a b cap bs N G.old ge_a ge_b hlo hhi hle hcap hS) (lenOf pd__I_Ljava_lang_AbstractStringBuilder_ rfl) d26_2 rfl (Nat.le_of_ble_eq_true rfl) (Nat.le_of_ble_eq_true rfl) (Nat.le_of_ble_eq_true rfl) (Nat.le_of_ble_eq_true rfl) (allS (Or.inl (List.mem_of_getElem? (i := 0) rfl)) (allS (Or.inl (List.mem_of_getElem? (i := 1) rfl)) all0)) (allS (List.mem_of_getElem? (i := 0) rfl) (allS (List.mem_of_getElem? (i := 1) rfl) all0)) (allS (List.mem_of_getElem? (i := 0) rfl) (allS (List.mem_of_getElem? (i := 1) rfl) all0)) rfl
  clear G; have G := G'; clear G'
  obtain ⟨wp, qp, rfl, hS1, rfl⟩ := Qp
  replace G := G.val qp
  replace G := G.pop 6 d26_5 rfl rfl
  replace G := G.aloadN 7 d26_6 rfl rfl rfl
  exact G.retA hret rfl rfl hlk d26_7 [] all0 ⟨_, rfl, rfl, hS1, rfl⟩ (Nat.le_of_ble_eq_true rfl) (Nat.le_of_ble_eq_true rfl)
set_option maxRecDepth 65536 in
set_option maxHeartbeats 40000000 in
theorem c_size6 (l : Launch) (Z : State) (a0 : Array Value) (hw : ∀ d ∈ tables_1, d.before a0 Z = true) (hEW : EW Z a0 consts_1) (n0 : Nat) (c1 : Int32) (hc1 : ¬ c1 = 0) (S1 : Sta Z Z.heap "java/lang/String" "COMPACT_STRINGS" "Z" (.int c1)) (v2 : Value) (hv2 : v2.isRef = true) (S2 : Sta Z Z.heap "jdk/internal/util/Preconditions" "SIOOBE_FORMATTER" "Ljava/util/function/BiFunction;" v2) (N : Nat) {h0 : Heap} (o1 : Old Z n0 h0) (hlo : 100000 ≤ N) (hhi : N < 1000000)  :
    Con Z a0 l (⟨"java/lang/Integer", "stringSize", "(I)I"⟩ : MethodName) jdk_33_method_13_code 4 (some .int) ({ frames := 0, cells := 0, slots := 0, locals := 0 } : Room) [] #[(.int (Int32.ofNat N))] consts_1 h0 n0 [] [] (VV fun w h so => w = .int (6 : Int32) ∧ h = h0 ∧ so = []) := by
  refine Con.body (plainFor_of_name pn_java_lang_Integer) hEW o1 all0 #[.val (.int (Int32.ofNat N)), .unset, .unset, .unset] (fun m => by first | (simp [entryFrame, mkF, argsToLocals, Value.category]; done) | rfl) ?_
  intro p e s m below meth c B hnm hret hlk G
  have hN : N < 2147483648 := by omega
  replace G := G.iconst 1 (1 : Int32) d28_0 rfl rfl
  replace G := G.istoreN 2 #[.val (.int (Int32.ofNat N)), .val (.int (1 : Int32)), .unset, .unset] d28_1 rfl rfl
  replace G := G.iloadN 3 d28_2 rfl rfl
  replace G := G.ifF 6 d28_3 (XT.i0_lt_f (ofn_nn hN)) rfl
  replace G := G.iconst 7 (0 : Int32) d28_6 rfl rfl
  replace G := G.istoreN 8 #[.val (.int (Int32.ofNat N)), .val (.int (0 : Int32)), .unset, .unset] d28_7 rfl rfl
  replace G := G.iloadN 9 d28_8 rfl rfl
  replace G := G.ineg 10 d28_9 rfl
  replace G := G.istoreN 11 #[.val (.int (-(Int32.ofNat N))), .val (.int (0 : Int32)), .unset, .unset] d28_10 rfl rfl
  replace G := G.bipush 13 (-10 : Int32) d28_11 (by decide) rfl
  replace G := G.istoreN 14 #[.val (.int (-(Int32.ofNat N))), .val (.int (0 : Int32)), .val (.int (-10 : Int32)), .unset] d28_13 rfl rfl
  replace G := G.iconst 15 (1 : Int32) d28_14 rfl rfl
  replace G := G.istoreN 16 #[.val (.int (-(Int32.ofNat N))), .val (.int (0 : Int32)), .val (.int (-10 : Int32)), .val (.int (1 : Int32))] d28_15 rfl rfl
  replace G := G.iloadN 17 d28_16 rfl rfl
  replace G := G.bipush 19 (10 : Int32) d28_17 (by decide) rfl
  replace G := G.icmpF 22 d28_19 (XT.ii_ge_f (by decide)) rfl
  replace G := G.iloadN 23 d28_22 rfl rfl
  replace G := G.iloadN 24 d28_23 rfl rfl
  replace G := G.icmpT 31 d28_24 (XT.ii_le_t (ng_ngt (K := -10) hN rfl (by omega))) (by decide) (by decide)
  replace G := G.bipush 33 (10 : Int32) d28_31 (by decide) rfl
  replace G := G.iloadN 34 d28_33 rfl rfl
  replace G := G.imul 35 d28_34 rfl
  replace G := G.top (y := (.int (-100 : Int32))) (by decide)
  replace G := G.istoreN 36 #[.val (.int (-(Int32.ofNat N))), .val (.int (0 : Int32)), .val (.int (-100 : Int32)), .val (.int (1 : Int32))] d28_35 rfl rfl
  replace G := G.iincV 39 #[.val (.int (-(Int32.ofNat N))), .val (.int (0 : Int32)), .val (.int (-100 : Int32)), .val (.int (2 : Int32))] (2 : Int32) d28_36 rfl (by decide) rfl rfl
  replace G := G.goto 16 d28_39 (by decide) (by decide)
  replace G := G.iloadN 17 d28_16 rfl rfl
  replace G := G.bipush 19 (10 : Int32) d28_17 (by decide) rfl
  replace G := G.icmpF 22 d28_19 (XT.ii_ge_f (by decide)) rfl
  replace G := G.iloadN 23 d28_22 rfl rfl
  replace G := G.iloadN 24 d28_23 rfl rfl
  replace G := G.icmpT 31 d28_24 (XT.ii_le_t (ng_ngt (K := -100) hN rfl (by omega))) (by decide) (by decide)
  replace G := G.bipush 33 (10 : Int32) d28_31 (by decide) rfl
  replace G := G.iloadN 34 d28_33 rfl rfl
  replace G := G.imul 35 d28_34 rfl
  replace G := G.top (y := (.int (-1000 : Int32))) (by decide)
  replace G := G.istoreN 36 #[.val (.int (-(Int32.ofNat N))), .val (.int (0 : Int32)), .val (.int (-1000 : Int32)), .val (.int (2 : Int32))] d28_35 rfl rfl
  replace G := G.iincV 39 #[.val (.int (-(Int32.ofNat N))), .val (.int (0 : Int32)), .val (.int (-1000 : Int32)), .val (.int (3 : Int32))] (3 : Int32) d28_36 rfl (by decide) rfl rfl
  replace G := G.goto 16 d28_39 (by decide) (by decide)
  replace G := G.iloadN 17 d28_16 rfl rfl
  replace G := G.bipush 19 (10 : Int32) d28_17 (by decide) rfl
  replace G := G.icmpF 22 d28_19 (XT.ii_ge_f (by decide)) rfl
  replace G := G.iloadN 23 d28_22 rfl rfl
  replace G := G.iloadN 24 d28_23 rfl rfl
  replace G := G.icmpT 31 d28_24 (XT.ii_le_t (ng_ngt (K := -1000) hN rfl (by omega))) (by decide) (by decide)
  replace G := G.bipush 33 (10 : Int32) d28_31 (by decide) rfl
  replace G := G.iloadN 34 d28_33 rfl rfl
  replace G := G.imul 35 d28_34 rfl
  replace G := G.top (y := (.int (-10000 : Int32))) (by decide)
  replace G := G.istoreN 36 #[.val (.int (-(Int32.ofNat N))), .val (.int (0 : Int32)), .val (.int (-10000 : Int32)), .val (.int (3 : Int32))] d28_35 rfl rfl
  replace G := G.iincV 39 #[.val (.int (-(Int32.ofNat N))), .val (.int (0 : Int32)), .val (.int (-10000 : Int32)), .val (.int (4 : Int32))] (4 : Int32) d28_36 rfl (by decide) rfl rfl
  replace G := G.goto 16 d28_39 (by decide) (by decide)
  replace G := G.iloadN 17 d28_16 rfl rfl
  replace G := G.bipush 19 (10 : Int32) d28_17 (by decide) rfl
  replace G := G.icmpF 22 d28_19 (XT.ii_ge_f (by decide)) rfl
  replace G := G.iloadN 23 d28_22 rfl rfl
  replace G := G.iloadN 24 d28_23 rfl rfl
  replace G := G.icmpT 31 d28_24 (XT.ii_le_t (ng_ngt (K := -10000) hN rfl (by omega))) (by decide) (by decide)
  replace G := G.bipush 33 (10 : Int32) d28_31 (by decide) rfl
  replace G := G.iloadN 34 d28_33 rfl rfl
  replace G := G.imul 35 d28_34 rfl
  replace G := G.top (y := (.int (-100000 : Int32))) (by decide)
  replace G := G.istoreN 36 #[.val (.int (-(Int32.ofNat N))), .val (.int (0 : Int32)), .val (.int (-100000 : Int32)), .val (.int (4 : Int32))] d28_35 rfl rfl
  replace G := G.iincV 39 #[.val (.int (-(Int32.ofNat N))), .val (.int (0 : Int32)), .val (.int (-100000 : Int32)), .val (.int (5 : Int32))] (5 : Int32) d28_36 rfl (by decide) rfl rfl
  replace G := G.goto 16 d28_39 (by decide) (by decide)
  replace G := G.iloadN 17 d28_16 rfl rfl
  replace G := G.bipush 19 (10 : Int32) d28_17 (by decide) rfl
  replace G := G.icmpF 22 d28_19 (XT.ii_ge_f (by decide)) rfl
  replace G := G.iloadN 23 d28_22 rfl rfl
  replace G := G.iloadN 24 d28_23 rfl rfl
  replace G := G.icmpT 31 d28_24 (XT.ii_le_t (ng_ngt (K := -100000) hN rfl (by omega))) (by decide) (by decide)
  replace G := G.bipush 33 (10 : Int32) d28_31 (by decide) rfl
  replace G := G.iloadN 34 d28_33 rfl rfl
  replace G := G.imul 35 d28_34 rfl
  replace G := G.top (y := (.int (-1000000 : Int32))) (by decide)
  replace G := G.istoreN 36 #[.val (.int (-(Int32.ofNat N))), .val (.int (0 : Int32)), .val (.int (-1000000 : Int32)), .val (.int (5 : Int32))] d28_35 rfl rfl
  replace G := G.iincV 39 #[.val (.int (-(Int32.ofNat N))), .val (.int (0 : Int32)), .val (.int (-1000000 : Int32)), .val (.int (6 : Int32))] (6 : Int32) d28_36 rfl (by decide) rfl rfl
  replace G := G.goto 16 d28_39 (by decide) (by decide)
  replace G := G.iloadN 17 d28_16 rfl rfl
  replace G := G.bipush 19 (10 : Int32) d28_17 (by decide) rfl
  replace G := G.icmpF 22 d28_19 (XT.ii_ge_f (by decide)) rfl
  replace G := G.iloadN 23 d28_22 rfl rfl
  replace G := G.iloadN 24 d28_23 rfl rfl
  replace G := G.icmpF 27 d28_24 (XT.ii_le_f (ng_gt (K := -1000000) hN rfl (by omega))) rfl
  replace G := G.iloadN 28 d28_27 rfl rfl
  replace G := G.iloadN 29 d28_28 rfl rfl
  replace G := G.iadd 30 d28_29 rfl
  replace G := G.top (y := (.int (6 : Int32))) (by decide)
  exact G.retI hret hlk d28_30 [] all0 ⟨_, rfl, rfl, rfl, rfl⟩ (Nat.le_of_ble_eq_true rfl) (Nat.le_of_ble_eq_true rfl)
set_option maxRecDepth 65536 in
set_option maxHeartbeats 40000000 in
theorem c_getC6 (l : Launch) (Z : State) (a0 : Array Value) (hw : ∀ d ∈ tables_1, d.before a0 Z = true) (hEW : EW Z a0 consts_1) (n0 : Nat) (c1 : Int32) (hc1 : ¬ c1 = 0) (S1 : Sta Z Z.heap "java/lang/String" "COMPACT_STRINGS" "Z" (.int c1)) (v2 : Value) (hv2 : v2.isRef = true) (S2 : Sta Z Z.heap "jdk/internal/util/Preconditions" "SIOOBE_FORMATTER" "Ljava/util/function/BiFunction;" v2) (t1 t2 : Addr) (kt1 kt2 : ClassId) (SD1 : Sta Z Z.heap "java/lang/Integer" "DigitOnes" "[B" (.ref t1)) (SD2 : Sta Z Z.heap "java/lang/Integer" "DigitTens" "[B" (.ref t2)) (AD1 : Arv Z Z.heap t1 kt1 .byte 100 dOnes (.int 0)) (AD2 : Arv Z Z.heap t2 kt2 .byte 100 dTens (.int 0)) (b : Addr) (kb : ClassId) (cap : Nat) (bs : List Value) (N : Nat) {h0 : Heap} (o1 : Old Z n0 h0) (ge_b : n0 ≤ b) (hlo : 100000 ≤ N) (hhi : N < 1000000) (hle : bs.length + 6 ≤ cap) (hcap : cap < 2147483648) (Ab : Arv Z h0 b kb .byte (Int32.ofNat cap) bs (.int 0)) :
    Con Z a0 l (⟨"java/lang/Integer", "getChars", "(II[B)I"⟩ : MethodName) jdk_33_method_12_code 7 (some .int) ({ frames := 0, cells := 0, slots := 0, locals := 0 } : Room) [] #[(.int (Int32.ofNat N)), (.int (Int32.ofNat (bs.length + 6))), (.ref b)] consts_1 h0 n0 [b] [b] (VV fun w h so => w = .int (Int32.ofNat (bs.length + 0)) ∧ Arv Z h b kb .byte (Int32.ofNat cap) (bs ++ [dg N 5, dg N 4, dg N 3, dg N 2, dg N 1, dg N 0]) (.int 0) ∧ so = []) := by
  refine Con.body (plainFor_of_name pn_java_lang_Integer) hEW o1 (allS ge_b all0) #[.val (.int (Int32.ofNat N)), .val (.int (Int32.ofNat (bs.length + 6))), .val (.ref b), .unset, .unset, .unset, .unset] (fun m => by first | (simp [entryFrame, mkF, argsToLocals, Value.category]; done) | rfl) ?_
  intro p e s m below meth c B hnm hret hlk G
  have hN : N < 2147483648 := by omega
  have hn : bs.length < 2147483648 := by omega
  replace Ab := Ab.pad (vs' := bs ++ [(.int 0), (.int 0), (.int 0), (.int 0), (.int 0), (.int 0)]) (pad_rep bs (.int 0) 6)
  replace G := G.iloadN 1 d30_0 rfl rfl
  replace G := G.istore 3 #[.val (.int (Int32.ofNat N)), .val (.int (Int32.ofNat (bs.length + 6))), .val (.ref b), .unset, .unset, .val (.int (Int32.ofNat (bs.length + 6))), .unset] d30_1 rfl rfl
  replace G := G.iloadN 4 d30_3 rfl rfl
  replace G := G.ifT 11 d30_4 (XT.i0_ge_t (ofn_nn hN)) (by decide) (by decide)
  replace G := G.iconst 12 (0 : Int32) d30_11 rfl rfl
  replace G := G.istore 14 #[.val (.int (Int32.ofNat N)), .val (.int (Int32.ofNat (bs.length + 6))), .val (.ref b), .unset, .unset, .val (.int (Int32.ofNat (bs.length + 6))), .val (.int (0 : Int32))] d30_12 rfl rfl
  replace G := G.iload 16 d30_14 rfl rfl
  replace G := G.ifF 19 d30_16 (XT.i0_ne_f rfl) rfl
  replace G := G.iloadN 20 d30_19 rfl rfl
  replace G := G.ineg 21 d30_20 rfl
  replace G := G.istoreN 22 #[.val (.int (-(Int32.ofNat N))), .val (.int (Int32.ofNat (bs.length + 6))), .val (.ref b), .unset, .unset, .val (.int (Int32.ofNat (bs.length + 6))), .val (.int (0 : Int32))] d30_21 rfl rfl
  replace G := G.iloadN 23 d30_22 rfl rfl
  replace G := G.bipush 25 (-100 : Int32) d30_23 (by decide) rfl
  replace G := G.icmpF 28 d30_25 (XT.ii_gt_f (ng_ngt (K := -100) (by omega) rfl (by omega))) rfl
  replace G := G.iloadN 29 d30_28 rfl rfl
  replace G := G.bipush 31 (100 : Int32) d30_29 (by decide) rfl
  replace G := G.idiv 32 d30_31 (by decide) rfl
  replace G := G.top (y := (.int (-(Int32.ofNat (N / 100))))) (congrArg Value.int (ng_div (by omega)))
  replace G := G.istoreN 33 #[.val (.int (-(Int32.ofNat N))), .val (.int (Int32.ofNat (bs.length + 6))), .val (.ref b), .val (.int (-(Int32.ofNat (N / 100)))), .unset, .val (.int (Int32.ofNat (bs.length + 6))), .val (.int (0 : Int32))] d30_32 rfl rfl
  replace G := G.iloadN 34 d30_33 rfl rfl
  replace G := G.bipush 36 (100 : Int32) d30_34 (by decide) rfl
  replace G := G.imul 37 d30_36 rfl
  replace G := G.iloadN 38 d30_37 rfl rfl
  replace G := G.isub 39 d30_38 rfl
  replace G := G.top (y := (.int (Int32.ofNat (N % 100)))) (congrArg Value.int (ng_rem (by omega)))
  replace G := G.istore 41 #[.val (.int (-(Int32.ofNat N))), .val (.int (Int32.ofNat (bs.length + 6))), .val (.ref b), .val (.int (-(Int32.ofNat (N / 100)))), .val (.int (Int32.ofNat (N % 100))), .val (.int (Int32.ofNat (bs.length + 6))), .val (.int (0 : Int32))] d30_39 rfl rfl
  replace G := G.iloadN 42 d30_41 rfl rfl
  replace G := G.istoreN 43 #[.val (.int (-(Int32.ofNat (N / 100)))), .val (.int (Int32.ofNat (bs.length + 6))), .val (.ref b), .val (.int (-(Int32.ofNat (N / 100)))), .val (.int (Int32.ofNat (N % 100))), .val (.int (Int32.ofNat (bs.length + 6))), .val (.int (0 : Int32))] d30_42 rfl rfl
  replace G := G.aloadN 44 d30_43 rfl rfl rfl
  replace G := G.iincV 47 #[.val (.int (-(Int32.ofNat (N / 100)))), .val (.int (Int32.ofNat (bs.length + 6))), .val (.ref b), .val (.int (-(Int32.ofNat (N / 100)))), .val (.int (Int32.ofNat (N % 100))), .val (.int (Int32.ofNat (bs.length + 5))), .val (.int (0 : Int32))] (Int32.ofNat (bs.length + 5)) d30_44 rfl (ofn_pred (bs.length + 5)) rfl rfl
  replace G := G.iload 49 d30_47 rfl rfl
  replace G := G.gets 52 (host := "") (Or.inl (hw _ (List.mem_of_getElem? (i := 168) rfl))) Via.refl (G.sta SD1) d30_49 rfl
  replace G := G.iload 54 d30_52 rfl rfl
  replace G := G.baload 55 (v := (.int (Int32.ofNat (48 + N % 100 % 10)))) (AD1.ext G.old.2) ⟨ofn_nn (by omega), ofn_lt (n := 100) (by omega) (by decide)⟩ (by rw [ofn_nat (by omega)]; exact dOnes_at (by omega)) d30_54 rfl
  obtain ⟨g1, G', As, Ks⟩ := G.bastore 56 (bs.length + 5) Ab ⟨ofn_nn (by omega), ofn_lt (by omega) hcap⟩ (ofn_nat (by omega)) (by simp) (Or.inl (List.mem_of_getElem? (i := 0) rfl)) (List.mem_of_getElem? (i := 0) rfl) d30_55 rfl
  clear G; have G := G'; clear G'
  rw [set_app2 _ _ 5 _ _ rfl, dig_b (by omega)] at As
  replace Ab : Arv Z g1 b kb .byte (Int32.ofNat cap) (bs ++ [(.int 0), (.int 0), (.int 0), (.int 0), (.int 0), (.int (Int32.ofNat (48 + N % 100 % 10)))]) (.int 0) := As
  replace G := G.aloadN 57 d30_56 rfl rfl rfl
  replace G := G.iincV 60 #[.val (.int (-(Int32.ofNat (N / 100)))), .val (.int (Int32.ofNat (bs.length + 6))), .val (.ref b), .val (.int (-(Int32.ofNat (N / 100)))), .val (.int (Int32.ofNat (N % 100))), .val (.int (Int32.ofNat (bs.length + 4))), .val (.int (0 : Int32))] (Int32.ofNat (bs.length + 4)) d30_57 rfl (ofn_pred (bs.length + 4)) rfl rfl
  replace G := G.iload 62 d30_60 rfl rfl
  replace G := G.gets 65 (host := "") (Or.inl (hw _ (List.mem_of_getElem? (i := 242) rfl))) Via.refl (G.sta SD2) d30_62 rfl
  replace G := G.iload 67 d30_65 rfl rfl
  replace G := G.baload 68 (v := (.int (Int32.ofNat (48 + N % 100 / 10)))) (AD2.ext G.old.2) ⟨ofn_nn (by omega), ofn_lt (n := 100) (by omega) (by decide)⟩ (by rw [ofn_nat (by omega)]; exact dTens_at (by omega)) d30_67 rfl
  obtain ⟨g2, G', As, Ks⟩ := G.bastore 69 (bs.length + 4) Ab ⟨ofn_nn (by omega), ofn_lt (by omega) hcap⟩ (ofn_nat (by omega)) (by simp) (Or.inl (List.mem_of_getElem? (i := 0) rfl)) (List.mem_of_getElem? (i := 0) rfl) d30_68 rfl
  clear G; have G := G'; clear G'
  rw [set_app2 _ _ 4 _ _ rfl, dig_b (by omega)] at As
  replace Ab : Arv Z g2 b kb .byte (Int32.ofNat cap) (bs ++ [(.int 0), (.int 0), (.int 0), (.int 0), (.int (Int32.ofNat (48 + N % 100 / 10))), (.int (Int32.ofNat (48 + N % 100 % 10)))]) (.int 0) := As
  replace G := G.goto 22 d30_69 (by decide) (by decide)
  replace G := G.iloadN 23 d30_22 rfl rfl
  replace G := G.bipush 25 (-100 : Int32) d30_23 (by decide) rfl
  replace G := G.icmpF 28 d30_25 (XT.ii_gt_f (ng_ngt (K := -100) (by omega) rfl (by omega))) rfl
  replace G := G.iloadN 29 d30_28 rfl rfl
  replace G := G.bipush 31 (100 : Int32) d30_29 (by decide) rfl
  replace G := G.idiv 32 d30_31 (by decide) rfl
  replace G := G.top (y := (.int (-(Int32.ofNat (N / 100 / 100))))) (congrArg Value.int (ng_div (by omega)))
  replace G := G.istoreN 33 #[.val (.int (-(Int32.ofNat (N / 100)))), .val (.int (Int32.ofNat (bs.length + 6))), .val (.ref b), .val (.int (-(Int32.ofNat (N / 100 / 100)))), .val (.int (Int32.ofNat (N % 100))), .val (.int (Int32.ofNat (bs.length + 4))), .val (.int (0 : Int32))] d30_32 rfl rfl
  replace G := G.iloadN 34 d30_33 rfl rfl
  replace G := G.bipush 36 (100 : Int32) d30_34 (by decide) rfl
  replace G := G.imul 37 d30_36 rfl
  replace G := G.iloadN 38 d30_37 rfl rfl
  replace G := G.isub 39 d30_38 rfl
  replace G := G.top (y := (.int (Int32.ofNat (N / 100 % 100)))) (congrArg Value.int (ng_rem (by omega)))
  replace G := G.istore 41 #[.val (.int (-(Int32.ofNat (N / 100)))), .val (.int (Int32.ofNat (bs.length + 6))), .val (.ref b), .val (.int (-(Int32.ofNat (N / 100 / 100)))), .val (.int (Int32.ofNat (N / 100 % 100))), .val (.int (Int32.ofNat (bs.length + 4))), .val (.int (0 : Int32))] d30_39 rfl rfl
  replace G := G.iloadN 42 d30_41 rfl rfl
  replace G := G.istoreN 43 #[.val (.int (-(Int32.ofNat (N / 100 / 100)))), .val (.int (Int32.ofNat (bs.length + 6))), .val (.ref b), .val (.int (-(Int32.ofNat (N / 100 / 100)))), .val (.int (Int32.ofNat (N / 100 % 100))), .val (.int (Int32.ofNat (bs.length + 4))), .val (.int (0 : Int32))] d30_42 rfl rfl
  replace G := G.aloadN 44 d30_43 rfl rfl rfl
  replace G := G.iincV 47 #[.val (.int (-(Int32.ofNat (N / 100 / 100)))), .val (.int (Int32.ofNat (bs.length + 6))), .val (.ref b), .val (.int (-(Int32.ofNat (N / 100 / 100)))), .val (.int (Int32.ofNat (N / 100 % 100))), .val (.int (Int32.ofNat (bs.length + 3))), .val (.int (0 : Int32))] (Int32.ofNat (bs.length + 3)) d30_44 rfl (ofn_pred (bs.length + 3)) rfl rfl
  replace G := G.iload 49 d30_47 rfl rfl
  replace G := G.gets 52 (host := "") (Or.inl (hw _ (List.mem_of_getElem? (i := 168) rfl))) Via.refl (G.sta SD1) d30_49 rfl
  replace G := G.iload 54 d30_52 rfl rfl
  replace G := G.baload 55 (v := (.int (Int32.ofNat (48 + N / 100 % 100 % 10)))) (AD1.ext G.old.2) ⟨ofn_nn (by omega), ofn_lt (n := 100) (by omega) (by decide)⟩ (by rw [ofn_nat (by omega)]; exact dOnes_at (by omega)) d30_54 rfl
  obtain ⟨g3, G', As, Ks⟩ := G.bastore 56 (bs.length + 3) Ab ⟨ofn_nn (by omega), ofn_lt (by omega) hcap⟩ (ofn_nat (by omega)) (by simp) (Or.inl (List.mem_of_getElem? (i := 0) rfl)) (List.mem_of_getElem? (i := 0) rfl) d30_55 rfl
  clear G; have G := G'; clear G'
  rw [set_app2 _ _ 3 _ _ rfl, dig_b (by omega)] at As
  replace Ab : Arv Z g3 b kb .byte (Int32.ofNat cap) (bs ++ [(.int 0), (.int 0), (.int 0), (.int (Int32.ofNat (48 + N / 100 % 100 % 10))), (.int (Int32.ofNat (48 + N % 100 / 10))), (.int (Int32.ofNat (48 + N % 100 % 10)))]) (.int 0) := As
  replace G := G.aloadN 57 d30_56 rfl rfl rfl
  replace G := G.iincV 60 #[.val (.int (-(Int32.ofNat (N / 100 / 100)))), .val (.int (Int32.ofNat (bs.length + 6))), .val (.ref b), .val (.int (-(Int32.ofNat (N / 100 / 100)))), .val (.int (Int32.ofNat (N / 100 % 100))), .val (.int (Int32.ofNat (bs.length + 2))), .val (.int (0 : Int32))] (Int32.ofNat (bs.length + 2)) d30_57 rfl (ofn_pred (bs.length + 2)) rfl rfl
  replace G := G.iload 62 d30_60 rfl rfl
  replace G := G.gets 65 (host := "") (Or.inl (hw _ (List.mem_of_getElem? (i := 242) rfl))) Via.refl (G.sta SD2) d30_62 rfl
  replace G := G.iload 67 d30_65 rfl rfl
  replace G := G.baload 68 (v := (.int (Int32.ofNat (48 + N / 100 % 100 / 10)))) (AD2.ext G.old.2) ⟨ofn_nn (by omega), ofn_lt (n := 100) (by omega) (by decide)⟩ (by rw [ofn_nat (by omega)]; exact dTens_at (by omega)) d30_67 rfl
  obtain ⟨g4, G', As, Ks⟩ := G.bastore 69 (bs.length + 2) Ab ⟨ofn_nn (by omega), ofn_lt (by omega) hcap⟩ (ofn_nat (by omega)) (by simp) (Or.inl (List.mem_of_getElem? (i := 0) rfl)) (List.mem_of_getElem? (i := 0) rfl) d30_68 rfl
  clear G; have G := G'; clear G'
  rw [set_app2 _ _ 2 _ _ rfl, dig_b (by omega)] at As
  replace Ab : Arv Z g4 b kb .byte (Int32.ofNat cap) (bs ++ [(.int 0), (.int 0), (.int (Int32.ofNat (48 + N / 100 % 100 / 10))), (.int (Int32.ofNat (48 + N / 100 % 100 % 10))), (.int (Int32.ofNat (48 + N % 100 / 10))), (.int (Int32.ofNat (48 + N % 100 % 10)))]) (.int 0) := As
  replace G := G.goto 22 d30_69 (by decide) (by decide)
  replace G := G.iloadN 23 d30_22 rfl rfl
  replace G := G.bipush 25 (-100 : Int32) d30_23 (by decide) rfl
  replace G := G.icmpT 72 d30_25 (XT.ii_gt_t (ng_gt (K := -100) (by omega) rfl (by omega))) (by decide) (by decide)
  replace G := G.aloadN 73 d30_72 rfl rfl rfl
  replace G := G.iincV 76 #[.val (.int (-(Int32.ofNat (N / 100 / 100)))), .val (.int (Int32.ofNat (bs.length + 6))), .val (.ref b), .val (.int (-(Int32.ofNat (N / 100 / 100)))), .val (.int (Int32.ofNat (N / 100 % 100))), .val (.int (Int32.ofNat (bs.length + 1))), .val (.int (0 : Int32))] (Int32.ofNat (bs.length + 1)) d30_73 rfl (ofn_pred (bs.length + 1)) rfl rfl
  replace G := G.iload 78 d30_76 rfl rfl
  replace G := G.gets 81 (host := "") (Or.inl (hw _ (List.mem_of_getElem? (i := 168) rfl))) Via.refl (G.sta SD1) d30_78 rfl
  replace G := G.iloadN 82 d30_81 rfl rfl
  replace G := G.ineg 83 d30_82 rfl
  replace G := G.top (y := (.int (Int32.ofNat (N / 100 / 100)))) (congrArg Value.int Int32.neg_neg)
  replace G := G.baload 84 (v := (.int (Int32.ofNat (48 + (N / 100 / 100) % 10)))) (AD1.ext G.old.2) ⟨ofn_nn (by omega), ofn_lt (n := 100) (by omega) (by decide)⟩ (by rw [ofn_nat (by omega)]; exact dOnes_at (by omega)) d30_83 rfl
  obtain ⟨g5, G', As, Ks⟩ := G.bastore 85 (bs.length + 1) Ab ⟨ofn_nn (by omega), ofn_lt (by omega) hcap⟩ (ofn_nat (by omega)) (by simp) (Or.inl (List.mem_of_getElem? (i := 0) rfl)) (List.mem_of_getElem? (i := 0) rfl) d30_84 rfl
  clear G; have G := G'; clear G'
  rw [set_app2 _ _ 1 _ _ rfl, dig_b (by omega)] at As
  replace Ab : Arv Z g5 b kb .byte (Int32.ofNat cap) (bs ++ [(.int 0), (.int (Int32.ofNat (48 + (N / 100 / 100) % 10))), (.int (Int32.ofNat (48 + N / 100 % 100 / 10))), (.int (Int32.ofNat (48 + N / 100 % 100 % 10))), (.int (Int32.ofNat (48 + N % 100 / 10))), (.int (Int32.ofNat (48 + N % 100 % 10)))]) (.int 0) := As
  replace G := G.iloadN 86 d30_85 rfl rfl
  replace G := G.bipush 88 (-9 : Int32) d30_86 (by decide) rfl
  replace G := G.icmpF 91 d30_88 (XT.ii_ge_f (ng_lt (K := -9) (by omega) rfl (by omega))) rfl
  replace G := G.aloadN 92 d30_91 rfl rfl rfl
  replace G := G.iincV 95 #[.val (.int (-(Int32.ofNat (N / 100 / 100)))), .val (.int (Int32.ofNat (bs.length + 6))), .val (.ref b), .val (.int (-(Int32.ofNat (N / 100 / 100)))), .val (.int (Int32.ofNat (N / 100 % 100))), .val (.int (Int32.ofNat (bs.length + 0))), .val (.int (0 : Int32))] (Int32.ofNat (bs.length + 0)) d30_92 rfl (ofn_pred (bs.length + 0)) rfl rfl
  replace G := G.iload 97 d30_95 rfl rfl
  replace G := G.gets 100 (host := "") (Or.inl (hw _ (List.mem_of_getElem? (i := 242) rfl))) Via.refl (G.sta SD2) d30_97 rfl
  replace G := G.iloadN 101 d30_100 rfl rfl
  replace G := G.ineg 102 d30_101 rfl
  replace G := G.top (y := (.int (Int32.ofNat (N / 100 / 100)))) (congrArg Value.int Int32.neg_neg)
  replace G := G.baload 103 (v := (.int (Int32.ofNat (48 + (N / 100 / 100) / 10)))) (AD2.ext G.old.2) ⟨ofn_nn (by omega), ofn_lt (n := 100) (by omega) (by decide)⟩ (by rw [ofn_nat (by omega)]; exact dTens_at (by omega)) d30_102 rfl
  obtain ⟨g6, G', As, Ks⟩ := G.bastore 104 (bs.length + 0) Ab ⟨ofn_nn (by omega), ofn_lt (by omega) hcap⟩ (ofn_nat (by omega)) (by simp) (Or.inl (List.mem_of_getElem? (i := 0) rfl)) (List.mem_of_getElem? (i := 0) rfl) d30_103 rfl
  clear G; have G := G'; clear G'
  rw [set_app2 _ _ 0 _ _ rfl, dig_b (by omega)] at As
  replace Ab : Arv Z g6 b kb .byte (Int32.ofNat cap) (bs ++ [(.int (Int32.ofNat (48 + (N / 100 / 100) / 10))), (.int (Int32.ofNat (48 + (N / 100 / 100) % 10))), (.int (Int32.ofNat (48 + N / 100 % 100 / 10))), (.int (Int32.ofNat (48 + N / 100 % 100 % 10))), (.int (Int32.ofNat (48 + N % 100 / 10))), (.int (Int32.ofNat (48 + N % 100 % 10)))]) (.int 0) := As
  replace G := G.iload 106 d30_104 rfl rfl
  replace G := G.ifT 118 d30_106 (XT.i0_eq_t rfl) (by decide) (by decide)
  replace G := G.iload 120 d30_118 rfl rfl
  have hdg : ([(.int (Int32.ofNat (48 + (N / 100 / 100) / 10))), (.int (Int32.ofNat (48 + (N / 100 / 100) % 10))), (.int (Int32.ofNat (48 + N / 100 % 100 / 10))), (.int (Int32.ofNat (48 + N / 100 % 100 % 10))), (.int (Int32.ofNat (48 + N % 100 / 10))), (.int (Int32.ofNat (48 + N % 100 % 10)))] : List Value) = [dg N 5, dg N 4, dg N 3, dg N 2, dg N 1, dg N 0] := by
    simp only [dg, List.cons.injEq, Value.int.injEq, and_true, Nat.reducePow]
    refine ⟨?_, ?_, ?_, ?_, ?_, ?_⟩ <;> first | trivial | (congr 2; omega)
  rw [hdg] at Ab
  exact G.retI hret hlk d30_120 [] all0 ⟨_, rfl, rfl, Ab, rfl⟩ (Nat.le_of_ble_eq_true rfl) (Nat.le_of_ble_eq_true rfl)
set_option maxRecDepth 65536 in
set_option maxHeartbeats 40000000 in
theorem c_asbI6 (l : Launch) (Z : State) (a0 : Array Value) (hw : ∀ d ∈ tables_1, d.before a0 Z = true) (hEW : EW Z a0 consts_1) (n0 : Nat) (c1 : Int32) (hc1 : ¬ c1 = 0) (S1 : Sta Z Z.heap "java/lang/String" "COMPACT_STRINGS" "Z" (.int c1)) (v2 : Value) (hv2 : v2.isRef = true) (S2 : Sta Z Z.heap "jdk/internal/util/Preconditions" "SIOOBE_FORMATTER" "Ljava/util/function/BiFunction;" v2) (t1 t2 : Addr) (kt1 kt2 : ClassId) (SD1 : Sta Z Z.heap "java/lang/Integer" "DigitOnes" "[B" (.ref t1)) (SD2 : Sta Z Z.heap "java/lang/Integer" "DigitTens" "[B" (.ref t2)) (AD1 : Arv Z Z.heap t1 kt1 .byte 100 dOnes (.int 0)) (AD2 : Arv Z Z.heap t2 kt2 .byte 100 dTens (.int 0)) (a b : Addr) (cap : Nat) (bs : List Value) (N : Nat) {h0 : Heap} (o1 : Old Z n0 h0) (ge_a : n0 ≤ a) (ge_b : n0 ≤ b) (hlo : 100000 ≤ N) (hhi : N < 1000000) (hle : bs.length + 6 ≤ cap) (hcap : cap < 2147483648) (hS : Sbd Z h0 a b cap bs) :
    Con Z a0 l (⟨"java/lang/AbstractStringBuilder", "append", "(I)Ljava/lang/AbstractStringBuilder;"⟩ : MethodName) jdk_68_method_32_code 4 (some (.object "java/lang/AbstractStringBuilder")) ({ frames := 1, cells := 0, slots := 0, locals := 18 } : Room) [] #[(.ref a), (.int (Int32.ofNat N))] consts_1 h0 n0 [a, b] [a, b] (VV fun w h so => w = .ref a ∧ Sbd Z h a b cap (bs ++ [dg N 5, dg N 4, dg N 3, dg N 2, dg N 1, dg N 0]) ∧ so = []) := by
  refine Con.body (plainFor_of_name pn_java_lang_AbstractStringBuilder) hEW o1 (allS ge_a (allS ge_b all0)) #[.val (.ref a), .val (.int (Int32.ofNat N)), .unset, .unset] (fun m => by first | (simp [entryFrame, mkF, argsToLocals, Value.category]; done) | rfl) ?_
  intro p e s m below meth c B hnm hret hlk G
  replace G := G.aloadN 1 d27_0 rfl rfl rfl
  replace G := G.getf 4 (host := "") (Or.inl (hw _ (List.mem_of_getElem? (i := 119) rfl))) Via.refl hS.2.2.2.1 d27_1 rfl
  replace G := G.istoreN 5 #[.val (.ref a), .val (.int (Int32.ofNat N)), .val (.int (Int32.ofNat bs.length)), .unset] d27_4 rfl rfl
  replace G := G.iloadN 6 d27_5 rfl rfl
  replace G := G.iloadN 7 d27_6 rfl rfl
  obtain ⟨vz, h_z, soz, G', Kz, Qz⟩ := G.callS 10 (hw _ (List.mem_of_getElem? (i := 156) rfl)) (hw _ (List.mem_of_getElem? (i := 157) rfl)) (hw _ (List.mem_of_getElem? (i := 158) rfl)) (hw _ (List.mem_of_getElem? (i := 159) rfl)) (by decide) [(.int (Int32.ofNat N))] [(.int (Int32.ofNat bs.length))] rfl (c_size6 l Z a0 hw hEW n0 c1 hc1 S1 v2 hv2 S2 N G.old hlo hhi) (lenOf pd__I_I rfl) d27_7 rfl (Nat.le_of_ble_eq_true rfl) (Nat.le_of_ble_eq_true rfl) (Nat.le_of_ble_eq_true rfl) (Nat.le_of_ble_eq_true rfl) all0 all0 all0 rfl
  clear G; have G := G'; clear G'
  obtain ⟨wz, qz, rfl, ez, rfl⟩ := Qz
  replace G := G.val qz
  subst ez
  replace G := G.iadd 11 d27_10 rfl
  replace G := G.top (y := (.int (Int32.ofNat (bs.length + 6)))) (congrArg Value.int (ofn_add bs.length 6))
  replace G := G.istoreN 12 #[.val (.ref a), .val (.int (Int32.ofNat N)), .val (.int (Int32.ofNat bs.length)), .val (.int (Int32.ofNat (bs.length + 6)))] d27_11 rfl rfl
  replace G := G.aloadN 13 d27_12 rfl rfl rfl
  replace G := G.iloadN 14 d27_13 rfl rfl
  obtain ⟨ve, h_e, soe, G', Ke, Qe⟩ := G.callV 17 (hw _ (List.mem_of_getElem? (i := 121) rfl)) (declOf (hw _ (List.mem_of_getElem? (i := 122) rfl)) (hw _ (List.mem_of_getElem? (i := 125) rfl))) (nfSel (hw _ (List.mem_of_getElem? (i := 124) rfl))) (hw _ (List.mem_of_getElem? (i := 124) rfl)) (hw _ (List.mem_of_getElem? (i := 122) rfl)) (hw _ (List.mem_of_getElem? (i := 91) rfl)) (hw _ (List.mem_of_getElem? (i := 125) rfl)) hS.1 (by decide) [(.int (Int32.ofNat (bs.length + 6)))] [] rfl (c_ensNG l Z a0 hw hEW n0 c1 hc1 S1 v2 hv2 S2 a b cap (bs.length + 6) bs G.old hle hcap hS) (lenOf pd__I_V rfl) d27_14 rfl (Nat.le_of_ble_eq_true rfl) (Nat.le_of_ble_eq_true rfl) (Nat.le_of_ble_eq_true rfl) (Nat.le_of_ble_eq_true rfl) all0 all0 all0 rfl
  clear G; have G := G'; clear G'
  obtain ⟨qe, ee, rfl⟩ := Qe
  replace G := G.nov qe
  subst ee
  replace G := G.aloadN 18 d27_17 rfl rfl rfl
  obtain ⟨vl, h_l, sol, G', Kl, Ql⟩ := G.callV 21 (hw _ (List.mem_of_getElem? (i := 160) rfl)) (hw _ (List.mem_of_getElem? (i := 161) rfl)) (nfSel (hw _ (List.mem_of_getElem? (i := 163) rfl))) (hw _ (List.mem_of_getElem? (i := 163) rfl)) (hw _ (List.mem_of_getElem? (i := 162) rfl)) (hw _ (List.mem_of_getElem? (i := 91) rfl)) (hw _ (List.mem_of_getElem? (i := 164) rfl)) hS.1 (by decide) [] [] rfl (c_isL1 l Z a0 hw hEW n0 c1 hc1 S1 v2 hv2 S2 a b cap bs G.old hS) (lenOf pd___Z rfl) d27_18 rfl (Nat.le_of_ble_eq_true rfl) (Nat.le_of_ble_eq_true rfl) (Nat.le_of_ble_eq_true rfl) (Nat.le_of_ble_eq_true rfl) all0 all0 all0 rfl
  clear G; have G := G'; clear G'
  obtain ⟨wl, ql, rfl, el, rfl⟩ := Ql
  replace G := G.val ql
  subst el
  replace G := G.ifF 24 d27_21 (XT.i0_eq_f (by decide)) rfl
  replace G := G.iloadN 25 d27_24 rfl rfl
  replace G := G.iloadN 26 d27_25 rfl rfl
  replace G := G.aloadN 27 d27_26 rfl rfl rfl
  replace G := G.getf 30 (host := "") (Or.inl (hw _ (List.mem_of_getElem? (i := 95) rfl))) Via.refl hS.2.1 d27_27 rfl
  obtain ⟨Xa, Fv, Fc, Fn, kb, Ab⟩ := hS
  obtain ⟨vp, h1, sop, G', Kp, Qp⟩ := G.callS 33 (hw _ (List.mem_of_getElem? (i := 165) rfl)) (hw _ (List.mem_of_getElem? (i := 166) rfl)) (hw _ (List.mem_of_getElem? (i := 158) rfl)) (hw _ (List.mem_of_getElem? (i := 167) rfl)) (by decide) [(.int (Int32.ofNat N)), (.int (Int32.ofNat (bs.length + 6))), (.ref b)] [] rfl (c_getC6 l Z a0 hw hEW n0 c1 hc1 S1 v2 hv2 S2 t1 t2 kt1 kt2 SD1 SD2 AD1 AD2 b kb cap bs N G.old ge_b hlo hhi hle hcap Ab) (lenOf pd__II_B_I rfl) d27_30 rfl (Nat.le_of_ble_eq_true rfl) (Nat.le_of_ble_eq_true rfl) (Nat.le_of_ble_eq_true rfl) (Nat.le_of_ble_eq_true rfl) (allS (Or.inl (List.mem_of_getElem? (i := 1) rfl)) all0) (allS (List.mem_of_getElem? (i := 1) rfl) all0) (allS (List.mem_of_getElem? (i := 1) rfl) all0) rfl
  clear G; have G := G'; clear G'
  obtain ⟨wp, qp, rfl, Ab1, rfl⟩ := Qp
  replace G := G.val qp
  have nab : a ≠ b := ne_arr Xa (hw _ (List.mem_of_getElem? (i := 82) rfl)) Ab.choose_spec.1
  replace Xa := Xa.keep Kp; replace Fv := Fv.keep Kp (ninS nab nin0); replace Fc := Fc.keep Kp (ninS nab nin0); replace Fn := Fn.keep Kp (ninS nab nin0)
  replace G := G.pop 34 d27_33 rfl rfl
  replace G := G.goto 48 d27_34 (by decide) (by decide)
  replace G := G.aloadN 49 d27_48 rfl rfl rfl
  replace G := G.iloadN 50 d27_49 rfl rfl
  replace G := G.top (y := (.int (Int32.ofNat (bs ++ [dg N 5, dg N 4, dg N 3, dg N 2, dg N 1, dg N 0]).length))) (congrArg Value.int (by rw [List.length_append]; rfl))
  obtain ⟨h2, G', Ww, Fw, Kw⟩ := G.putf 53 (host := "") (Or.inl (hw _ (List.mem_of_getElem? (i := 119) rfl))) Via.refl Fn Xa (Or.inl (hw _ (List.mem_of_getElem? (i := 120) rfl))) (hw _ (List.mem_of_getElem? (i := 82) rfl)) (ty := .int) (by decide) rfl rfl (Or.inl (List.mem_of_getElem? (i := 0) rfl)) (List.mem_of_getElem? (i := 0) rfl) d27_50 rfl
  clear G; have G := G'; clear G'
  replace Fv := Fv.other Ww (Or.inr (slot_ne (Or.inl (hw _ (List.mem_of_getElem? (i := 96) rfl))) (Or.inl (hw _ (List.mem_of_getElem? (i := 120) rfl))) (by decide) (t := (.array .byte)) (t' := .int) (by decide) (by decide)))
  replace Fc := Fc.other Ww (Or.inr (slot_ne (Or.inl (hw _ (List.mem_of_getElem? (i := 98) rfl))) (Or.inl (hw _ (List.mem_of_getElem? (i := 120) rfl))) (by decide) (t := .byte) (t' := .int) (by decide) (by decide)))
  replace Xa := Xa.wr Ww; replace Ab1 := Ab1.keep Kw (ninS nab.symm nin0)
  replace G := G.aloadN 54 d27_53 rfl rfl rfl
  exact G.retA hret rfl rfl hlk d27_54 [] all0 ⟨_, rfl, rfl, ⟨Xa, Fv, Fc, Fw, kb, Ab1⟩, rfl⟩ (Nat.le_of_ble_eq_true rfl) (Nat.le_of_ble_eq_true rfl)
set_option maxRecDepth 65536 in
set_option maxHeartbeats 40000000 in
theorem c_appI6 (l : Launch) (Z : State) (a0 : Array Value) (hw : ∀ d ∈ tables_1, d.before a0 Z = true) (hEW : EW Z a0 consts_1) (n0 : Nat) (c1 : Int32) (hc1 : ¬ c1 = 0) (S1 : Sta Z Z.heap "java/lang/String" "COMPACT_STRINGS" "Z" (.int c1)) (v2 : Value) (hv2 : v2.isRef = true) (S2 : Sta Z Z.heap "jdk/internal/util/Preconditions" "SIOOBE_FORMATTER" "Ljava/util/function/BiFunction;" v2) (t1 t2 : Addr) (kt1 kt2 : ClassId) (SD1 : Sta Z Z.heap "java/lang/Integer" "DigitOnes" "[B" (.ref t1)) (SD2 : Sta Z Z.heap "java/lang/Integer" "DigitTens" "[B" (.ref t2)) (AD1 : Arv Z Z.heap t1 kt1 .byte 100 dOnes (.int 0)) (AD2 : Arv Z Z.heap t2 kt2 .byte 100 dTens (.int 0)) (a b : Addr) (cap : Nat) (bs : List Value) (N : Nat) {h0 : Heap} (o1 : Old Z n0 h0) (ge_a : n0 ≤ a) (ge_b : n0 ≤ b) (hlo : 100000 ≤ N) (hhi : N < 1000000) (hle : bs.length + 6 ≤ cap) (hcap : cap < 2147483648) (hS : Sbd Z h0 a b cap bs) :
    Con Z a0 l (⟨"java/lang/StringBuilder", "append", "(I)Ljava/lang/StringBuilder;"⟩ : MethodName) jdk_67_method_15_code 2 (some (.object "java/lang/StringBuilder")) ({ frames := 2, cells := 0, slots := 0, locals := 33 } : Room) [] #[(.ref a), (.int (Int32.ofNat N))] consts_1 h0 n0 [a, b] [a, b] (VV fun w h so => w = .ref a ∧ Sbd Z h a b cap (bs ++ [dg N 5, dg N 4, dg N 3, dg N 2, dg N 1, dg N 0]) ∧ so = []) := by
  refine Con.body (plainFor_of_name pn_java_lang_StringBuilder) hEW o1 (allS ge_a (allS ge_b all0)) #[.val (.ref a), .val (.int (Int32.ofNat N))] (fun m => by first | (simp [entryFrame, mkF, argsToLocals, Value.category]; done) | rfl) ?_
  intro p e s m below meth c B hnm hret hlk G
  replace G := G.aloadN 1 d26_0 rfl rfl rfl
  replace G := G.iloadN 2 d26_1 rfl rfl
  obtain ⟨vp, h1, sop, G', Kp, Qp⟩ := G.callSup 5 (hw _ (List.mem_of_getElem? (i := 152) rfl)) (sameOf (hw _ (List.mem_of_getElem? (i := 153) rfl)) (nfVia (y := (⟨"java/lang/AbstractStringBuilder", "ensureCapacityInternal", "(I)V"⟩ : MethodName)) rfl (hw _ (List.mem_of_getElem? (i := 124) rfl)) (hw _ (List.mem_of_getElem? (i := 122) rfl))) (by decide)) (hw _ (List.mem_of_getElem? (i := 153) rfl)) (hw _ (List.mem_of_getElem? (i := 106) rfl)) (by decide) (hw _ (List.mem_of_getElem? (i := 91) rfl)) (hw _ (List.mem_of_getElem? (i := 155) rfl)) (Ins.self hS.1) [(.int (Int32.ofNat N))] [] rfl (c_asbI6 l Z a0 hw hEW n0 c1 hc1 S1 v2 hv2 S2 t1 t2 kt1 kt2 SD1 SD2 AD1 AD2 a b cap bs N G.old ge_a ge_b hlo hhi hle hcap hS) (lenOf pd__I_Ljava_lang_AbstractStringBuilder_ rfl) d26_2 rfl (Nat.le_of_ble_eq_true rfl) (Nat.le_of_ble_eq_true rfl) (Nat.le_of_ble_eq_true rfl) (Nat.le_of_ble_eq_true rfl) (allS (Or.inl (List.mem_of_getElem? (i := 0) rfl)) (allS (Or.inl (List.mem_of_getElem? (i := 1) rfl)) all0)) (allS (List.mem_of_getElem? (i := 0) rfl) (allS (List.mem_of_getElem? (i := 1) rfl) all0)) (allS (List.mem_of_getElem? (i := 0) rfl) (allS (List.mem_of_getElem? (i := 1) rfl) all0)) rfl
  clear G; have G := G'; clear G'
  obtain ⟨wp, qp, rfl, hS1, rfl⟩ := Qp
  replace G := G.val qp
  replace G := G.pop 6 d26_5 rfl rfl
  replace G := G.aloadN 7 d26_6 rfl rfl rfl
  exact G.retA hret rfl rfl hlk d26_7 [] all0 ⟨_, rfl, rfl, hS1, rfl⟩ (Nat.le_of_ble_eq_true rfl) (Nat.le_of_ble_eq_true rfl)
set_option maxRecDepth 65536 in
set_option maxHeartbeats 40000000 in
theorem c_size7 (l : Launch) (Z : State) (a0 : Array Value) (hw : ∀ d ∈ tables_1, d.before a0 Z = true) (hEW : EW Z a0 consts_1) (n0 : Nat) (c1 : Int32) (hc1 : ¬ c1 = 0) (S1 : Sta Z Z.heap "java/lang/String" "COMPACT_STRINGS" "Z" (.int c1)) (v2 : Value) (hv2 : v2.isRef = true) (S2 : Sta Z Z.heap "jdk/internal/util/Preconditions" "SIOOBE_FORMATTER" "Ljava/util/function/BiFunction;" v2) (N : Nat) {h0 : Heap} (o1 : Old Z n0 h0) (hlo : 1000000 ≤ N) (hhi : N < 10000000)  :
    Con Z a0 l (⟨"java/lang/Integer", "stringSize", "(I)I"⟩ : MethodName) jdk_33_method_13_code 4 (some .int) ({ frames := 0, cells := 0, slots := 0, locals := 0 } : Room) [] #[(.int (Int32.ofNat N))] consts_1 h0 n0 [] [] (VV fun w h so => w = .int (7 : Int32) ∧ h = h0 ∧ so = []) := by
  refine Con.body (plainFor_of_name pn_java_lang_Integer) hEW o1 all0 #[.val (.int (Int32.ofNat N)), .unset, .unset, .unset] (fun m => by first | (simp [entryFrame, mkF, argsToLocals, Value.category]; done) | rfl) ?_
  intro p e s m below meth c B hnm hret hlk G
  have hN : N < 2147483648 := by omega
  replace G := G.iconst 1 (1 : Int32) d28_0 rfl rfl
  replace G := G.istoreN 2 #[.val (.int (Int32.ofNat N)), .val (.int (1 : Int32)), .unset, .unset] d28_1 rfl rfl
  replace G := G.iloadN 3 d28_2 rfl rfl
  replace G := G.ifF 6 d28_3 (XT.i0_lt_f (ofn_nn hN)) rfl
  replace G := G.iconst 7 (0 : Int32) d28_6 rfl rfl
  replace G := G.istoreN 8 #[.val (.int (Int32.ofNat N)), .val (.int (0 : Int32)), .unset, .unset] d28_7 rfl rfl
  replace G := G.iloadN 9 d28_8 rfl rfl
  replace G := G.ineg 10 d28_9 rfl
  replace G := G.istoreN 11 #[.val (.int (-(Int32.ofNat N))), .val (.int (0 : Int32)), .unset, .unset] d28_10 rfl rfl
  replace G := G.bipush 13 (-10 : Int32) d28_11 (by decide) rfl
  replace G := G.istoreN 14 #[.val (.int (-(Int32.ofNat N))), .val (.int (0 : Int32)), .val (.int (-10 : Int32)), .unset] d28_13 rfl rfl
  replace G := G.iconst 15 (1 : Int32) d28_14 rfl rfl
  replace G := G.istoreN 16 #[.val (.int (-(Int32.ofNat N))), .val (.int (0 : Int32)), .val (.int (-10 : Int32)), .val (.int (1 : Int32))] d28_15 rfl rfl
  replace G := G.iloadN 17 d28_16 rfl rfl
  replace G := G.bipush 19 (10 : Int32) d28_17 (by decide) rfl
  replace G := G.icmpF 22 d28_19 (XT.ii_ge_f (by decide)) rfl
  replace G := G.iloadN 23 d28_22 rfl rfl
  replace G := G.iloadN 24 d28_23 rfl rfl
  replace G := G.icmpT 31 d28_24 (XT.ii_le_t (ng_ngt (K := -10) hN rfl (by omega))) (by decide) (by decide)
  replace G := G.bipush 33 (10 : Int32) d28_31 (by decide) rfl
  replace G := G.iloadN 34 d28_33 rfl rfl
  replace G := G.imul 35 d28_34 rfl
  replace G := G.top (y := (.int (-100 : Int32))) (by decide)
  replace G := G.istoreN 36 #[.val (.int (-(Int32.ofNat N))), .val (.int (0 : Int32)), .val (.int (-100 : Int32)), .val (.int (1 : Int32))] d28_35 rfl rfl
  replace G := G.iincV 39 #[.val (.int (-(Int32.ofNat N))), .val (.int (0 : Int32)), .val (.int (-100 : Int32)), .val (.int (2 : Int32))] (2 : Int32) d28_36 rfl (by decide) rfl rfl
  replace G := G.goto 16 d28_39 (by decide) (by decide)
  replace G := G.iloadN 17 d28_16 rfl rfl
  replace G := G.bipush 19 (10 : Int32) d28_17 (by decide) rfl
  replace G := G.icmpF 22 d28_19 (XT.ii_ge_f (by decide)) rfl
  replace G := G.iloadN 23 d28_22 rfl rfl
  replace G := G.iloadN 24 d28_23 rfl rfl
  replace G := G.icmpT 31 d28_24 (XT.ii_le_t (ng_ngt (K := -100) hN rfl (by omega))) (by decide) (by decide)
  replace G := G.bipush 33 (10 : Int32) d28_31 (by decide) rfl
  replace G := G.iloadN 34 d28_33 rfl rfl
  replace G := G.imul 35 d28_34 rfl
  replace G := G.top (y := (.int (-1000 : Int32))) (by decide)
  replace G := G.istoreN 36 #[.val (.int (-(Int32.ofNat N))), .val (.int (0 : Int32)), .val (.int (-1000 : Int32)), .val (.int (2 : Int32))] d28_35 rfl rfl
  replace G := G.iincV 39 #[.val (.int (-(Int32.ofNat N))), .val (.int (0 : Int32)), .val (.int (-1000 : Int32)), .val (.int (3 : Int32))] (3 : Int32) d28_36 rfl (by decide) rfl rfl
  replace G := G.goto 16 d28_39 (by decide) (by decide)
  replace G := G.iloadN 17 d28_16 rfl rfl
  replace G := G.bipush 19 (10 : Int32) d28_17 (by decide) rfl
  replace G := G.icmpF 22 d28_19 (XT.ii_ge_f (by decide)) rfl
  replace G := G.iloadN 23 d28_22 rfl rfl
  replace G := G.iloadN 24 d28_23 rfl rfl
  replace G := G.icmpT 31 d28_24 (XT.ii_le_t (ng_ngt (K := -1000) hN rfl (by omega))) (by decide) (by decide)
  replace G := G.bipush 33 (10 : Int32) d28_31 (by decide) rfl
  replace G := G.iloadN 34 d28_33 rfl rfl
  replace G := G.imul 35 d28_34 rfl
  replace G := G.top (y := (.int (-10000 : Int32))) (by decide)
  replace G := G.istoreN 36 #[.val (.int (-(Int32.ofNat N))), .val (.int (0 : Int32)), .val (.int (-10000 : Int32)), .val (.int (3 : Int32))] d28_35 rfl rfl
  replace G := G.iincV 39 #[.val (.int (-(Int32.ofNat N))), .val (.int (0 : Int32)), .val (.int (-10000 : Int32)), .val (.int (4 : Int32))] (4 : Int32) d28_36 rfl (by decide) rfl rfl
  replace G := G.goto 16 d28_39 (by decide) (by decide)
  replace G := G.iloadN 17 d28_16 rfl rfl
  replace G := G.bipush 19 (10 : Int32) d28_17 (by decide) rfl
  replace G := G.icmpF 22 d28_19 (XT.ii_ge_f (by decide)) rfl
  replace G := G.iloadN 23 d28_22 rfl rfl
  replace G := G.iloadN 24 d28_23 rfl rfl
  replace G := G.icmpT 31 d28_24 (XT.ii_le_t (ng_ngt (K := -10000) hN rfl (by omega))) (by decide) (by decide)
  replace G := G.bipush 33 (10 : Int32) d28_31 (by decide) rfl
  replace G := G.iloadN 34 d28_33 rfl rfl
  replace G := G.imul 35 d28_34 rfl
  replace G := G.top (y := (.int (-100000 : Int32))) (by decide)
  replace G := G.istoreN 36 #[.val (.int (-(Int32.ofNat N))), .val (.int (0 : Int32)), .val (.int (-100000 : Int32)), .val (.int (4 : Int32))] d28_35 rfl rfl
  replace G := G.iincV 39 #[.val (.int (-(Int32.ofNat N))), .val (.int (0 : Int32)), .val (.int (-100000 : Int32)), .val (.int (5 : Int32))] (5 : Int32) d28_36 rfl (by decide) rfl rfl
  replace G := G.goto 16 d28_39 (by decide) (by decide)
  replace G := G.iloadN 17 d28_16 rfl rfl
  replace G := G.bipush 19 (10 : Int32) d28_17 (by decide) rfl
  replace G := G.icmpF 22 d28_19 (XT.ii_ge_f (by decide)) rfl
  replace G := G.iloadN 23 d28_22 rfl rfl
  replace G := G.iloadN 24 d28_23 rfl rfl
  replace G := G.icmpT 31 d28_24 (XT.ii_le_t (ng_ngt (K := -100000) hN rfl (by omega))) (by decide) (by decide)
  replace G := G.bipush 33 (10 : Int32) d28_31 (by decide) rfl
  replace G := G.iloadN 34 d28_33 rfl rfl
  replace G := G.imul 35 d28_34 rfl
  replace G := G.top (y := (.int (-1000000 : Int32))) (by decide)
  replace G := G.istoreN 36 #[.val (.int (-(Int32.ofNat N))), .val (.int (0 : Int32)), .val (.int (-1000000 : Int32)), .val (.int (5 : Int32))] d28_35 rfl rfl
  replace G := G.iincV 39 #[.val (.int (-(Int32.ofNat N))), .val (.int (0 : Int32)), .val (.int (-1000000 : Int32)), .val (.int (6 : Int32))] (6 : Int32) d28_36 rfl (by decide) rfl rfl
  replace G := G.goto 16 d28_39 (by decide) (by decide)
  replace G := G.iloadN 17 d28_16 rfl rfl
  replace G := G.bipush 19 (10 : Int32) d28_17 (by decide) rfl
  replace G := G.icmpF 22 d28_19 (XT.ii_ge_f (by decide)) rfl
  replace G := G.iloadN 23 d28_22 rfl rfl
  replace G := G.iloadN 24 d28_23 rfl rfl
  replace G := G.icmpT 31 d28_24 (XT.ii_le_t (ng_ngt (K := -1000000) hN rfl (by omega))) (by decide) (by decide)
  replace G := G.bipush 33 (10 : Int32) d28_31 (by decide) rfl
  replace G := G.iloadN 34 d28_33 rfl rfl
  replace G := G.imul 35 d28_34 rfl
  replace G := G.top (y := (.int (-10000000 : Int32))) (by decide)
  replace G := G.istoreN 36 #[.val (.int (-(Int32.ofNat N))), .val (.int (0 : Int32)), .val (.int (-10000000 : Int32)), .val (.int (6 : Int32))] d28_35 rfl rfl
  replace G := G.iincV 39 #[.val (.int (-(Int32.ofNat N))), .val (.int (0 : Int32)), .val (.int (-10000000 : Int32)), .val (.int (7 : Int32))] (7 : Int32) d28_36 rfl (by decide) rfl rfl
  replace G := G.goto 16 d28_39 (by decide) (by decide)
  replace G := G.iloadN 17 d28_16 rfl rfl
  replace G := G.bipush 19 (10 : Int32) d28_17 (by decide) rfl
  replace G := G.icmpF 22 d28_19 (XT.ii_ge_f (by decide)) rfl
  replace G := G.iloadN 23 d28_22 rfl rfl
  replace G := G.iloadN 24 d28_23 rfl rfl
  replace G := G.icmpF 27 d28_24 (XT.ii_le_f (ng_gt (K := -10000000) hN rfl (by omega))) rfl
  replace G := G.iloadN 28 d28_27 rfl rfl
  replace G := G.iloadN 29 d28_28 rfl rfl
  replace G := G.iadd 30 d28_29 rfl
  replace G := G.top (y := (.int (7 : Int32))) (by decide)
  exact G.retI hret hlk d28_30 [] all0 ⟨_, rfl, rfl, rfl, rfl⟩ (Nat.le_of_ble_eq_true rfl) (Nat.le_of_ble_eq_true rfl)
set_option maxRecDepth 65536 in
set_option maxHeartbeats 40000000 in
theorem c_getC7 (l : Launch) (Z : State) (a0 : Array Value) (hw : ∀ d ∈ tables_1, d.before a0 Z = true) (hEW : EW Z a0 consts_1) (n0 : Nat) (c1 : Int32) (hc1 : ¬ c1 = 0) (S1 : Sta Z Z.heap "java/lang/String" "COMPACT_STRINGS" "Z" (.int c1)) (v2 : Value) (hv2 : v2.isRef = true) (S2 : Sta Z Z.heap "jdk/internal/util/Preconditions" "SIOOBE_FORMATTER" "Ljava/util/function/BiFunction;" v2) (t1 t2 : Addr) (kt1 kt2 : ClassId) (SD1 : Sta Z Z.heap "java/lang/Integer" "DigitOnes" "[B" (.ref t1)) (SD2 : Sta Z Z.heap "java/lang/Integer" "DigitTens" "[B" (.ref t2)) (AD1 : Arv Z Z.heap t1 kt1 .byte 100 dOnes (.int 0)) (AD2 : Arv Z Z.heap t2 kt2 .byte 100 dTens (.int 0)) (b : Addr) (kb : ClassId) (cap : Nat) (bs : List Value) (N : Nat) {h0 : Heap} (o1 : Old Z n0 h0) (ge_b : n0 ≤ b) (hlo : 1000000 ≤ N) (hhi : N < 10000000) (hle : bs.length + 7 ≤ cap) (hcap : cap < 2147483648) (Ab : Arv Z h0 b kb .byte (Int32.ofNat cap) bs (.int 0)) :
    Con Z a0 l (⟨"java/lang/Integer", "getChars", "(II[B)I"⟩ : MethodName) jdk_33_method_12_code 7 (some .int) ({ frames := 0, cells := 0, slots := 0, locals := 0 } : Room) [] #[(.int (Int32.ofNat N)), (.int (Int32.ofNat (bs.length + 7))), (.ref b)] consts_1 h0 n0 [b] [b] (VV fun w h so => w = .int (Int32.ofNat (bs.length + 0)) ∧ Arv Z h b kb .byte (Int32.ofNat cap) (bs ++ [dg N 6, dg N 5, dg N 4, dg N 3, dg N 2, dg N 1, dg N 0]) (.int 0) ∧ so = []) := by
  refine Con.body (plainFor_of_name pn_java_lang_Integer) hEW o1 (allS ge_b all0) #[.val (.int (Int32.ofNat N)), .val (.int (Int32.ofNat (bs.length + 7))), .val (.ref b), .unset, .unset, .unset, .unset] (fun m => by first | (simp [entryFrame, mkF, argsToLocals, Value.category]; done) | rfl) ?_
  intro p e s m below meth c B hnm hret hlk G
  have hN : N < 2147483648 := by omega
  have hn : bs.length < 2147483648 := by omega
  replace Ab := Ab.pad (vs' := bs ++ [(.int 0), (.int 0), (.int 0), (.int 0), (.int 0), (.int 0), (.int 0)]) (pad_rep bs (.int 0) 7)
  replace G := G.iloadN 1 d30_0 rfl rfl
  replace G := G.istore 3 #[.val (.int (Int32.ofNat N)), .val (.int (Int32.ofNat (bs.length + 7))), .val (.ref b), .unset, .unset, .val (.int (Int32.ofNat (bs.length + 7))), .unset] d30_1 rfl rfl
  replace G := G.iloadN 4 d30_3 rfl rfl
  replace G := G.ifT 11 d30_4 (XT.i0_ge_t (ofn_nn hN)) (by decide) (by decide)
  replace G := G.iconst 12 (0 : Int32) d30_11 rfl rfl
  replace G := G.istore 14 #[.val (.int (Int32.ofNat N)), .val (.int (Int32.ofNat (bs.length + 7))), .val (.ref b), .unset, .unset, .val (.int (Int32.ofNat (bs.length + 7))), .val (.int (0 : Int32))] d30_12 rfl rfl
  replace G := G.iload 16 d30_14 rfl rfl
  replace G := G.ifF 19 d30_16 (XT.i0_ne_f rfl) rfl
  replace G := G.iloadN 20 d30_19 rfl rfl
  replace G := G.ineg 21 d30_20 rfl
  replace G := G.istoreN 22 #[.val (.int (-(Int32.ofNat N))), .val (.int (Int32.ofNat (bs.length + 7))), .val (.ref b), .unset, .unset, .val (.int (Int32.ofNat (bs.length + 7))), .val (.int (0 : Int32))] d30_21 rfl rfl
  replace G := G.iloadN 23 d30_22 rfl rfl
  replace G := G.bipush 25 (-100 : Int32) d30_23 (by decide) rfl
  replace G := G.icmpF 28 d30_25 (XT.ii_gt_f (ng_ngt (K := -100) (by omega) rfl (by omega))) rfl
  replace G := G.iloadN 29 d30_28 rfl rfl
  replace G := G.bipush 31 (100 : Int32) d30_29 (by decide) rfl
  replace G := G.idiv 32 d30_31 (by decide) rfl
  replace G := G.top (y := (.int (-(Int32.ofNat (N / 100))))) (congrArg Value.int (ng_div (by omega)))
  replace G := G.istoreN 33 #[.val (.int (-(Int32.ofNat N))), .val (.int (Int32.ofNat (bs.length + 7))), .val (.ref b), .val (.int (-(Int32.ofNat (N / 100)))), .unset, .val (.int (Int32.ofNat (bs.length + 7))), .val (.int (0 : Int32))] d30_32 rfl rfl
  replace G := G.iloadN 34 d30_33 rfl rfl
  replace G := G.bipush 36 (100 : Int32) d30_34 (by decide) rfl
  replace G := G.imul 37 d30_36 rfl
  replace G := G.iloadN 38 d30_37 rfl rfl
  replace G := G.isub 39 d30_38 rfl
  replace G := G.top (y := (.int (Int32.ofNat (N % 100)))) (congrArg Value.int (ng_rem (by omega)))
  replace G := G.istore 41 #[.val (.int (-(Int32.ofNat N))), .val (.int (Int32.ofNat (bs.length + 7))), .val (.ref b), .val (.int (-(Int32.ofNat (N / 100)))), .val (.int (Int32.ofNat (N % 100))), .val (.int (Int32.ofNat (bs.length + 7))), .val (.int (0 : Int32))] d30_39 rfl rfl
  replace G := G.iloadN 42 d30_41 rfl rfl
  replace G := G.istoreN 43 #[.val (.int (-(Int32.ofNat (N / 100)))), .val (.int (Int32.ofNat (bs.length + 7))), .val (.ref b), .val (.int (-(Int32.ofNat (N / 100)))), .val (.int (Int32.ofNat (N % 100))), .val (.int (Int32.ofNat (bs.length + 7))), .val (.int (0 : Int32))] d30_42 rfl rfl
  replace G := G.aloadN 44 d30_43 rfl rfl rfl
  replace G := G.iincV 47 #[.val (.int (-(Int32.ofNat (N / 100)))), .val (.int (Int32.ofNat (bs.length + 7))), .val (.ref b), .val (.int (-(Int32.ofNat (N / 100)))), .val (.int (Int32.ofNat (N % 100))), .val (.int (Int32.ofNat (bs.length + 6))), .val (.int (0 : Int32))] (Int32.ofNat (bs.length + 6)) d30_44 rfl (ofn_pred (bs.length + 6)) rfl rfl
  replace G := G.iload 49 d30_47 rfl rfl
  replace G := G.gets 52 (host := "") (Or.inl (hw _ (List.mem_of_getElem? (i := 168) rfl))) Via.refl (G.sta SD1) d30_49 rfl
  replace G := G.iload 54 d30_52 rfl rfl
  replace G := G.baload 55 (v := (.int (Int32.ofNat (48 + N % 100 % 10)))) (AD1.ext G.old.2) ⟨ofn_nn (by omega), ofn_lt (n := 100) (by omega) (by decide)⟩ (by rw [ofn_nat (by omega)]; exact dOnes_at (by omega)) d30_54 rfl
  obtain ⟨g1, G', As, Ks⟩ := G.bastore 56 (bs.length + 6) Ab ⟨ofn_nn (by omega), ofn_lt (by omega) hcap⟩ (ofn_nat (by omega)) (by simp) (Or.inl (List.mem_of_getElem? (i := 0) rfl)) (List.mem_of_getElem? (i := 0) rfl) d30_55 rfl
  clear G; have G := G'; clear G'
  rw [set_app2 _ _ 6 _ _ rfl, dig_b (by omega)] at As
  replace Ab : Arv Z g1 b kb .byte (Int32.ofNat cap) (bs ++ [(.int 0), (.int 0), (.int 0), (.int 0), (.int 0), (.int 0), (.int (Int32.ofNat (48 + N % 100 % 10)))]) (.int 0) := As
  replace G := G.aloadN 57 d30_56 rfl rfl rfl
  replace G := G.iincV 60 #[.val (.int (-(Int32.ofNat (N / 100)))), .val (.int (Int32.ofNat (bs.length + 7))), .val (.ref b), .val (.int (-(Int32.ofNat (N / 100)))), .val (.int (Int32.ofNat (N % 100))), .val (.int (Int32.ofNat (bs.length + 5))), .val (.int (0 : Int32))] (Int32.ofNat (bs.length + 5)) d30_57 rfl (ofn_pred (bs.length + 5)) rfl rfl
  replace G := G.iload 62 d30_60 rfl rfl
  replace G := G.gets 65 (host := "") (Or.inl (hw _ (List.mem_of_getElem? (i := 242) rfl))) Via.refl (G.sta SD2) d30_62 rfl
  replace G := G.iload 67 d30_65 rfl rfl
  replace G := G.baload 68 (v := (.int (Int32.ofNat (48 + N % 100 / 10)))) (AD2.ext G.old.2) ⟨ofn_nn (by omega), ofn_lt (n := 100) (by omega) (by decide)⟩ (by rw [ofn_nat (by omega)]; exact dTens_at (by omega)) d30_67 rfl
  obtain ⟨g2, G', As, Ks⟩ := G.bastore 69 (bs.length + 5) Ab ⟨ofn_nn (by omega), ofn_lt (by omega) hcap⟩ (ofn_nat (by omega)) (by simp) (Or.inl (List.mem_of_getElem? (i := 0) rfl)) (List.mem_of_getElem? (i := 0) rfl) d30_68 rfl
  clear G; have G := G'; clear G'
  rw [set_app2 _ _ 5 _ _ rfl, dig_b (by omega)] at As
  replace Ab : Arv Z g2 b kb .byte (Int32.ofNat cap) (bs ++ [(.int 0), (.int 0), (.int 0), (.int 0), (.int 0), (.int (Int32.ofNat (48 + N % 100 / 10))), (.int (Int32.ofNat (48 + N % 100 % 10)))]) (.int 0) := As
  replace G := G.goto 22 d30_69 (by decide) (by decide)
  replace G := G.iloadN 23 d30_22 rfl rfl
  replace G := G.bipush 25 (-100 : Int32) d30_23 (by decide) rfl
  replace G := G.icmpF 28 d30_25 (XT.ii_gt_f (ng_ngt (K := -100) (by omega) rfl (by omega))) rfl
  replace G := G.iloadN 29 d30_28 rfl rfl
  replace G := G.bipush 31 (100 : Int32) d30_29 (by decide) rfl
  replace G := G.idiv 32 d30_31 (by decide) rfl
  replace G := G.top (y := (.int (-(Int32.ofNat (N / 100 / 100))))) (congrArg Value.int (ng_div (by omega)))
  replace G := G.istoreN 33 #[.val (.int (-(Int32.ofNat (N / 100)))), .val (.int (Int32.ofNat (bs.length + 7))), .val (.ref b), .val (.int (-(Int32.ofNat (N / 100 / 100)))), .val (.int (Int32.ofNat (N % 100))), .val (.int (Int32.ofNat (bs.length + 5))), .val (.int (0 : Int32))] d30_32 rfl rfl
  replace G := G.iloadN 34 d30_33 rfl rfl
  replace G := G.bipush 36 (100 : Int32) d30_34 (by decide) rfl
  replace G := G.imul 37 d30_36 rfl
  replace G := G.iloadN 38 d30_37 rfl rfl
  replace G := G.isub 39 d30_38 rfl
  replace G := G.top (y := (.int (Int32.ofNat (N / 100 % 100)))) (congrArg Value.int (ng_rem (by omega)))
  replace G := G.istore 41 #[.val (.int (-(Int32.ofNat (N / 100)))), .val (.int (Int32.ofNat (bs.length + 7))), .val (.ref b), .val (.int (-(Int32.ofNat (N / 100 / 100)))), .val (.int (Int32.ofNat (N / 100 % 100))), .val (.int (Int32.ofNat (bs.length + 5))), .val (.int (0 : Int32))] d30_39 rfl rfl
  replace G := G.iloadN 42 d30_41 rfl rfl
  replace G := G.istoreN 43 #[.val (.int (-(Int32.ofNat (N / 100 / 100)))), .val (.int (Int32.ofNat (bs.length + 7))), .val (.ref b), .val (.int (-(Int32.ofNat (N / 100 / 100)))), .val (.int (Int32.ofNat (N / 100 % 100))), .val (.int (Int32.ofNat (bs.length + 5))), .val (.int (0 : Int32))] d30_42 rfl rfl
  replace G := G.aloadN 44 d30_43 rfl rfl rfl
  replace G := G.iincV 47 #[.val (.int (-(Int32.ofNat (N / 100 / 100)))), .val (.int (Int32.ofNat (bs.length + 7))), .val (.ref b), .val (.int (-(Int32.ofNat (N / 100 / 100)))), .val (.int (Int32.ofNat (N / 100 % 100))), .val (.int (Int32.ofNat (bs.length + 4))), .val (.int (0 : Int32))] (Int32.ofNat (bs.length + 4)) d30_44 rfl (ofn_pred (bs.length + 4)) rfl rfl
  replace G := G.iload 49 d30_47 rfl rfl
  replace G := G.gets 52 (host := "") (Or.inl (hw _ (List.mem_of_getElem? (i := 168) rfl))) Via.refl (G.sta SD1) d30_49 rfl
  replace G := G.iload 54 d30_52 rfl rfl
  replace G := G.baload 55 (v := (.int (Int32.ofNat (48 + N / 100 % 100 % 10)))) (AD1.ext G.old.2) ⟨ofn_nn (by omega), ofn_lt (n := 100) (by omega) (by decide)⟩ (by rw [ofn_nat (by omega)]; exact dOnes_at (by omega)) d30_54 rfl
  obtain ⟨g3, G', As, Ks⟩ := G.bastore 56 (bs.length + 4) Ab ⟨ofn_nn (by omega), ofn_lt (by omega) hcap⟩ (ofn_nat (by omega)) (by simp) (Or.inl (List.mem_of_getElem? (i := 0) rfl)) (List.mem_of_getElem? (i := 0) rfl) d30_55 rfl
  clear G; have G := G'; clear G'
  rw [set_app2 _ _ 4 _ _ rfl, dig_b (by omega)] at As
  replace Ab : Arv Z g3 b kb .byte (Int32.ofNat cap) (bs ++ [(.int 0), (.int 0), (.int 0), (.int 0), (.int (Int32.ofNat (48 + N / 100 % 100 % 10))), (.int (Int32.ofNat (48 + N % 100 / 10))), (.int (Int32.ofNat (48 + N % 100 % 10)))]) (.int 0) := As
  replace G := G.aloadN 57 d30_56 rfl rfl rfl
  replace G := G.iincV 60 #[.val (.int (-(Int32.ofNat (N / 100 / 100)))), .val (.int (Int32.ofNat (bs.length + 7))), .val (.ref b), .val (.int (-(Int32.ofNat (N / 100 / 100)))), .val (.int (Int32.ofNat (N / 100 % 100))), .val (.int (Int32.ofNat (bs.length + 3))), .val (.int (0 : Int32))] (Int32.ofNat (bs.length + 3)) d30_57 rfl (ofn_pred (bs.length + 3)) rfl rfl
  replace G := G.iload 62 d30_60 rfl rfl
  replace G := G.gets 65 (host := "") (Or.inl (hw _ (List.mem_of_getElem? (i := 242) rfl))) Via.refl (G.sta SD2) d30_62 rfl
  replace G := G.iload 67 d30_65 rfl rfl
  replace G := G.baload 68 (v := (.int (Int32.ofNat (48 + N / 100 % 100 / 10)))) (AD2.ext G.old.2) ⟨ofn_nn (by omega), ofn_lt (n := 100) (by omega) (by decide)⟩ (by rw [ofn_nat (by omega)]; exact dTens_at (by omega)) d30_67 rfl
  obtain ⟨g4, G', As, Ks⟩ := G.bastore 69 (bs.length + 3) Ab ⟨ofn_nn (by omega), ofn_lt (by omega) hcap⟩ (ofn_nat (by omega)) (by simp) (Or.inl (List.mem_of_getElem? (i := 0) rfl)) (List.mem_of_getElem? (i := 0) rfl) d30_68 rfl
  clear G; have G := G'; clear G'
  rw [set_app2 _ _ 3 _ _ rfl, dig_b (by omega)] at As
  replace Ab : Arv Z g4 b kb .byte (Int32.ofNat cap) (bs ++ [(.int 0), (.int 0), (.int 0), (.int (Int32.ofNat (48 + N / 100 % 100 / 10))), (.int (Int32.ofNat (48 + N / 100 % 100 % 10))), (.int (Int32.ofNat (48 + N % 100 / 10))), (.int (Int32.ofNat (48 + N % 100 % 10)))]) (.int 0) := As
  replace G := G.goto 22 d30_69 (by decide) (by decide)
  replace G := G.iloadN 23 d30_22 rfl rfl
  replace G := G.bipush 25 (-100 : Int32) d30_23 (by decide) rfl
  replace G := G.icmpF 28 d30_25 (XT.ii_gt_f (ng_ngt (K := -100) (by omega) rfl (by omega))) rfl
  replace G := G.iloadN 29 d30_28 rfl rfl
  replace G := G.bipush 31 (100 : Int32) d30_29 (by decide) rfl
  replace G := G.idiv 32 d30_31 (by decide) rfl
  replace G := G.top (y := (.int (-(Int32.ofNat (N / 100 / 100 / 100))))) (congrArg Value.int (ng_div (by omega)))
  replace G := G.istoreN 33 #[.val (.int (-(Int32.ofNat (N / 100 / 100)))), .val (.int (Int32.ofNat (bs.length + 7))), .val (.ref b), .val (.int (-(Int32.ofNat (N / 100 / 100 / 100)))), .val (.int (Int32.ofNat (N / 100 % 100))), .val (.int (Int32.ofNat (bs.length + 3))), .val (.int (0 : Int32))] d30_32 rfl rfl
  replace G := G.iloadN 34 d30_33 rfl rfl
  replace G := G.bipush 36 (100 : Int32) d30_34 (by decide) rfl
  replace G := G.imul 37 d30_36 rfl
  replace G := G.iloadN 38 d30_37 rfl rfl
  replace G := G.isub 39 d30_38 rfl
  replace G := G.top (y := (.int (Int32.ofNat (N / 100 / 100 % 100)))) (congrArg Value.int (ng_rem (by omega)))
  replace G := G.istore 41 #[.val (.int (-(Int32.ofNat (N / 100 / 100)))), .val (.int (Int32.ofNat (bs.length + 7))), .val (.ref b), .val (.int (-(Int32.ofNat (N / 100 / 100 / 100)))), .val (.int (Int32.ofNat (N / 100 / 100 % 100))), .val (.int (Int32.ofNat (bs.length + 3))), .val (.int (0 : Int32))] d30_39 rfl rfl
  replace G := G.iloadN 42 d30_41 rfl rfl
  replace G := G.istoreN 43 #[.val (.int (-(Int32.ofNat (N / 100 / 100 / 100)))), .val (.int (Int32.ofNat (bs.length + 7))), .val (.ref b), .val (.int (-(Int32.ofNat (N / 100 / 100 / 100)))), .val (.int (Int32.ofNat (N / 100 / 100 % 100))), .val (.int (Int32.ofNat (bs.length + 3))), .val (.int (0 : Int32))] d30_42 rfl rfl
  replace G := G.aloadN 44 d30_43 rfl rfl rfl
  replace G := G.iincV 47 #[.val (.int (-(Int32.ofNat (N / 100 / 100 / 100)))), .val (.int (Int32.ofNat (bs.length + 7))), .val (.ref b), .val (.int (-(Int32.ofNat (N / 100 / 100 / 100)))), .val (.int (Int32.ofNat (N / 100 / 100 % 100))), .val (.int (Int32.ofNat (bs.length + 2))), .val (.int (0 : Int32))] (Int32.ofNat (bs.length + 2)) d30_44 rfl (ofn_pred (bs.length + 2)) rfl rfl
  replace G := G.iload 49 d30_47 rfl rfl
  replace G := G.gets 52 (host := "") (Or.inl (hw _ (List.mem_of_getElem? (i := 168) rfl))) Via.refl (G.sta SD1) d30_49 rfl
  replace G := G.iload 54 d30_52 rfl rfl
  replace G := G.baload 55 (v := (.int (Int32.ofNat (48 + N / 100 / 100 % 100 % 10)))) (AD1.ext G.old.2) ⟨ofn_nn (by omega), ofn_lt (n := 100) (by omega) (by decide)⟩ (by rw [ofn_nat (by omega)]; exact dOnes_at (by omega)) d30_54 rfl
  obtain ⟨g5, G', As, Ks⟩ := G.bastore 56 (bs.length + 2) Ab ⟨ofn_nn (by omega), ofn_lt (by omega) hcap⟩ (ofn_nat (by omega)) (by simp) (Or.inl (List.mem_of_getElem? (i := 0) rfl)) (List.mem_of_getElem? (i := 0) rfl) d30_55 rfl
  clear G; have G := G'; clear G'
  rw [set_app2 _ _ 2 _ _ rfl, dig_b (by omega)] at As
  replace Ab : Arv Z g5 b kb .byte (Int32.ofNat cap) (bs ++ [(.int 0), (.int 0), (.int (Int32.ofNat (48 + N / 100 / 100 % 100 % 10))), (.int (Int32.ofNat (48 + N / 100 % 100 / 10))), (.int (Int32.ofNat (48 + N / 100 % 100 % 10))), (.int (Int32.ofNat (48 + N % 100 / 10))), (.int (Int32.ofNat (48 + N % 100 % 10)))]) (.int 0) := As
  replace G := G.aloadN 57 d30_56 rfl rfl rfl
  replace G := G.iincV 60 #[.val (.int (-(Int32.ofNat (N / 100 / 100 / 100)))), .val (.int (Int32.ofNat (bs.length + 7))), .val (.ref b), .val (.int (-(Int32.ofNat (N / 100 / 100 / 100)))), .val (.int (Int32.ofNat (N / 100 / 100 % 100))), .val (.int (Int32.ofNat (bs.length + 1))), .val (.int (0 : Int32))] (Int32.ofNat (bs.length + 1)) d30_57 rfl (ofn_pred (bs.length + 1)) rfl rfl
  replace G := G.iload 62 d30_60 rfl rfl
  replace G := G.gets 65 (host := "") (Or.inl (hw _ (List.mem_of_getElem? (i := 242) rfl))) Via.refl (G.sta SD2) d30_62 rfl
  replace G := G.iload 67 d30_65 rfl rfl
  replace G := G.baload 68 (v := (.int (Int32.ofNat (48 + N / 100 / 100 % 100 / 10)))) (AD2.ext G.old.2) ⟨ofn_nn (by omega), ofn_lt (n := 100) (by omega) (by decide)⟩ (by rw [ofn_nat (by omega)]; exact dTens_at (by omega)) d30_67 rfl
  obtain ⟨g6, G', As, Ks⟩ := G.bastore 69 (bs.length + 1) Ab ⟨ofn_nn (by omega), ofn_lt (by omega) hcap⟩ (ofn_nat (by omega)) (by simp) (Or.inl (List.mem_of_getElem? (i := 0) rfl)) (List.mem_of_getElem? (i := 0) rfl) d30_68 rfl
  clear G; have G := G'; clear G'
  rw [set_app2 _ _ 1 _ _ rfl, dig_b (by omega)] at As
  replace Ab : Arv Z g6 b kb .byte (Int32.ofNat cap) (bs ++ [(.int 0), (.int (Int32.ofNat (48 + N / 100 / 100 % 100 / 10))), (.int (Int32.ofNat (48 + N / 100 / 100 % 100 % 10))), (.int (Int32.ofNat (48 + N / 100 % 100 / 10))), (.int (Int32.ofNat (48 + N / 100 % 100 % 10))), (.int (Int32.ofNat (48 + N % 100 / 10))), (.int (Int32.ofNat (48 + N % 100 % 10)))]) (.int 0) := As
  replace G := G.goto 22 d30_69 (by decide) (by decide)
  replace G := G.iloadN 23 d30_22 rfl rfl
  replace G := G.bipush 25 (-100 : Int32) d30_23 (by decide) rfl
  replace G := G.icmpT 72 d30_25 (XT.ii_gt_t (ng_gt (K := -100) (by omega) rfl (by omega))) (by decide) (by decide)
  replace G := G.aloadN 73 d30_72 rfl rfl rfl
  replace G := G.iincV 76 #[.val (.int (-(Int32.ofNat (N / 100 / 100 / 100)))), .val (.int (Int32.ofNat (bs.length + 7))), .val (.ref b), .val (.int (-(Int32.ofNat (N / 100 / 100 / 100)))), .val (.int (Int32.ofNat (N / 100 / 100 % 100))), .val (.int (Int32.ofNat (bs.length + 0))), .val (.int (0 : Int32))] (Int32.ofNat (bs.length + 0)) d30_73 rfl (ofn_pred (bs.length + 0)) rfl rfl
  replace G := G.iload 78 d30_76 rfl rfl
  replace G := G.gets 81 (host := "") (Or.inl (hw _ (List.mem_of_getElem? (i := 168) rfl))) Via.refl (G.sta SD1) d30_78 rfl
  replace G := G.iloadN 82 d30_81 rfl rfl
  replace G := G.ineg 83 d30_82 rfl
  replace G := G.top (y := (.int (Int32.ofNat (N / 100 / 100 / 100)))) (congrArg Value.int Int32.neg_neg)
  replace G := G.baload 84 (v := (.int (Int32.ofNat (48 + (N / 100 / 100 / 100) % 10)))) (AD1.ext G.old.2) ⟨ofn_nn (by omega), ofn_lt (n := 100) (by omega) (by decide)⟩ (by rw [ofn_nat (by omega)]; exact dOnes_at (by omega)) d30_83 rfl
  obtain ⟨g7, G', As, Ks⟩ := G.bastore 85 (bs.length + 0) Ab ⟨ofn_nn (by omega), ofn_lt (by omega) hcap⟩ (ofn_nat (by omega)) (by simp) (Or.inl (List.mem_of_getElem? (i := 0) rfl)) (List.mem_of_getElem? (i := 0) rfl) d30_84 rfl
  clear G; have G := G'; clear G'
  rw [set_app2 _ _ 0 _ _ rfl, dig_b (by omega)] at As
  replace Ab : Arv Z g7 b kb .byte (Int32.ofNat cap) (bs ++ [(.int (Int32.ofNat (48 + (N / 100 / 100 / 100) % 10))), (.int (Int32.ofNat (48 + N / 100 / 100 % 100 / 10))), (.int (Int32.ofNat (48 + N / 100 / 100 % 100 % 10))), (.int (Int32.ofNat (48 + N / 100 % 100 / 10))), (.int (Int32.ofNat (48 + N / 100 % 100 % 10))), (.int (Int32.ofNat (48 + N % 100 / 10))), (.int (Int32.ofNat (48 + N % 100 % 10)))]) (.int 0) := As
  replace G := G.iloadN 86 d30_85 rfl rfl
  replace G := G.bipush 88 (-9 : Int32) d30_86 (by decide) rfl
  replace G := G.icmpT 104 d30_88 (XT.ii_ge_t (ng_nlt (K := -9) (by omega) rfl (by omega))) (by decide) (by decide)
  replace G := G.iload 106 d30_104 rfl rfl
  replace G := G.ifT 118 d30_106 (XT.i0_eq_t rfl) (by decide) (by decide)
  replace G := G.iload 120 d30_118 rfl rfl
  have hdg : ([(.int (Int32.ofNat (48 + (N / 100 / 100 / 100) % 10))), (.int (Int32.ofNat (48 + N / 100 / 100 % 100 / 10))), (.int (Int32.ofNat (48 + N / 100 / 100 % 100 % 10))), (.int (Int32.ofNat (48 + N / 100 % 100 / 10))), (.int (Int32.ofNat (48 + N / 100 % 100 % 10))), (.int (Int32.ofNat (48 + N % 100 / 10))), (.int (Int32.ofNat (48 + N % 100 % 10)))] : List Value) = [dg N 6, dg N 5, dg N 4, dg N 3, dg N 2, dg N 1, dg N 0] := by
    simp only [dg, List.cons.injEq, Value.int.injEq, and_true, Nat.reducePow]
    refine ⟨?_, ?_, ?_, ?_, ?_, ?_, ?_⟩ <;> first | trivial | (congr 2; omega)
  rw [hdg] at Ab
  exact G.retI hret hlk d30_120 [] all0 ⟨_, rfl, rfl, Ab, rfl⟩ (Nat.le_of_ble_eq_true rfl) (Nat.le_of_ble_eq_true rfl)
set_option maxRecDepth 65536 in
set_option maxHeartbeats 40000000 in
theorem c_asbI7 (l : Launch) (Z : State) (a0 : Array Value) (hw : ∀ d ∈ tables_1, d.before a0 Z = true) (hEW : EW Z a0 consts_1) (n0 : Nat) (c1 : Int32) (hc1 : ¬ c1 = 0) (S1 : Sta Z Z.heap "java/lang/String" "COMPACT_STRINGS" "Z" (.int c1)) (v2 : Value) (hv2 : v2.isRef = true) (S2 : Sta Z Z.heap "jdk/internal/util/Preconditions" "SIOOBE_FORMATTER" "Ljava/util/function/BiFunction;" v2) (t1 t2 : Addr) (kt1 kt2 : ClassId) (SD1 : Sta Z Z.heap "java/lang/Integer" "DigitOnes" "[B" (.ref t1)) (SD2 : Sta Z Z.heap "java/lang/Integer" "DigitTens" "[B" (.ref t2)) (AD1 : Arv Z Z.heap t1 kt1 .byte 100 dOnes (.int 0)) (AD2 : Arv Z Z.heap t2 kt2 .byte 100 dTens (.int 0)) (a b : Addr) (cap : Nat) (bs : List Value) (N : Nat) {h0 : Heap} (o1 : Old Z n0 h0) (ge_a : n0 ≤ a) (ge_b : n0 ≤ b) (hlo : 1000000 ≤ N) (hhi : N < 10000000) (hle : bs.length + 7 ≤ cap) (hcap : cap < 2147483648) (hS : Sbd Z h0 a b cap bs) :
    Con Z a0 l (⟨"java/lang/AbstractStringBuilder", "append", "(I)Ljava/lang/AbstractStringBuilder;"⟩ : MethodName) jdk_68_method_32_code 4 (some (.object "java/lang/AbstractStringBuilder")) ({ frames := 1, cells := 0, slots := 0, locals := 18 } : Room) [] #[(.ref a), (.int (Int32.ofNat N))] consts_1 h0 n0 [a, b] [a, b] (VV fun w h so => w = .ref a ∧ Sbd Z h a b cap (bs ++ [dg N 6, dg N 5, dg N 4, dg N 3, dg N 2, dg N 1, dg N 0]) ∧ so = []) := by
  refine Con.body (plainFor_of_name pn_java_lang_AbstractStringBuilder) hEW o1 (allS ge_a (allS ge_b all0)) #[.val (.ref a), .val (.int (Int32.ofNat N)), .unset, .unset] (fun m => by first | (simp [entryFrame, mkF, argsToLocals, Value.category]; done) | rfl) ?_
  intro p e s m below meth c B hnm hret hlk G
  replace G := G.aloadN 1 d27_0 rfl rfl rfl
  replace G := G.getf 4 (host := "") (Or.inl (hw _ (List.mem_of_getElem? (i := 119) rfl))) Via.refl hS.2.2.2.1 d27_1 rfl
  replace G := G.istoreN 5 #[.val (.ref a), .val (.int (Int32.ofNat N)), .val (.int (Int32.ofNat bs.length)), .unset] d27_4 rfl rfl
  replace G := G.iloadN 6 d27_5 rfl rfl
  replace G := G.iloadN 7 d27_6 rfl rfl
  obtain ⟨vz, h_z, soz, G', Kz, Qz⟩ := G.callS 10 (hw _ (List.mem_of_getElem? (i := 156) rfl)) (hw _ (List.mem_of_getElem? (i := 157) rfl)) (hw _ (List.mem_of_getElem? (i := 158) rfl)) (hw _ (List.mem_of_getElem? (i := 159) rfl)) (by decide) [(.int (Int32.ofNat N))] [(.int (Int32.ofNat bs.length))] rfl (c_size7 l Z a0 hw hEW n0 c1 hc1 S1 v2 hv2 S2 N G.old hlo hhi) (lenOf pd__I_I rfl) d27_7 rfl (Nat.le_of_ble_eq_true rfl) (Nat.le_of_ble_eq_true rfl) (Nat.le_of_ble_eq_true rfl) (Nat.le_of_ble_eq_true rfl) all0 all0 all0 rfl
  clear G; have G := G'; clear G'
  obtain ⟨wz, qz, rfl, ez, rfl⟩ := Qz
  replace G := G.val qz
  subst ez
  replace G := G.iadd 11 d27_10 rfl
  replace G := G.top (y := (.int (Int32.ofNat (bs.length + 7)))) (congrArg Value.int (ofn_add bs.length 7))
  replace G := G.istoreN 12 #[.val (.ref a), .val (.int (Int32.ofNat N)), .val (.int (Int32.ofNat bs.length)), .val (.int (Int32.ofNat (bs.length + 7)))] d27_11 rfl rfl
  replace G := G.aloadN 13 d27_12 rfl rfl rfl
  replace G := G.iloadN 14 d27_13 rfl rfl
  obtain ⟨ve, h_e, soe, G', Ke, Qe⟩ := G.callV 17 (hw _ (List.mem_of_getElem? (i := 121) rfl)) (declOf (hw _ (List.mem_of_getElem? (i := 122) rfl)) (hw _ (List.mem_of_getElem? (i := 125) rfl))) (nfSel (hw _ (List.mem_of_getElem? (i := 124) rfl))) (hw _ (List.mem_of_getElem? (i := 124) rfl)) (hw _ (List.mem_of_getElem? (i := 122) rfl)) (hw _ (List.mem_of_getElem? (i := 91) rfl)) (hw _ (List.mem_of_getElem? (i := 125) rfl)) hS.1 (by decide) [(.int (Int32.ofNat (bs.length + 7)))] [] rfl (c_ensNG l Z a0 hw hEW n0 c1 hc1 S1 v2 hv2 S2 a b cap (bs.length + 7) bs G.old hle hcap hS) (lenOf pd__I_V rfl) d27_14 rfl (Nat.le_of_ble_eq_true rfl) (Nat.le_of_ble_eq_true rfl) (Nat.le_of_ble_eq_true rfl) (Nat.le_of_ble_eq_true rfl) all0 all0 all0 rfl
  clear G; have G := G'; clear G'
  obtain ⟨qe, ee, rfl⟩ := Qe
  replace G := G.nov qe
  subst ee
  replace G := G.aloadN 18 d27_17 rfl rfl rfl
  obtain ⟨vl, h_l, sol, G', Kl, Ql⟩ := G.callV 21 (hw _ (List.mem_of_getElem? (i := 160) rfl)) (hw _ (List.mem_of_getElem? (i := 161) rfl)) (nfSel (hw _ (List.mem_of_getElem? (i := 163) rfl))) (hw _ (List.mem_of_getElem? (i := 163) rfl)) (hw _ (List.mem_of_getElem? (i := 162) rfl)) (hw _ (List.mem_of_getElem? (i := 91) rfl)) (hw _ (List.mem_of_getElem? (i := 164) rfl)) hS.1 (by decide) [] [] rfl (c_isL1 l Z a0 hw hEW n0 c1 hc1 S1 v2 hv2 S2 a b cap bs G.old hS) (lenOf pd___Z rfl) d27_18 rfl (Nat.le_of_ble_eq_true rfl) (Nat.le_of_ble_eq_true rfl) (Nat.le_of_ble_eq_true rfl) (Nat.le_of_ble_eq_true rfl) all0 all0 all0 rfl
  clear G; have G := G'; clear G'
  obtain ⟨wl, ql, rfl, el, rfl⟩ := Ql
  replace G := G.val ql
  subst el
  replace G := G.ifF 24 d27_21 (XT.i0_eq_f (by decide)) rfl
  replace G := G.iloadN 25 d27_24 rfl rfl
  replace G := G.iloadN 26 d27_25 rfl rfl
  replace G := G.aloadN 27 d27_26 rfl rfl rfl
  replace G := G.getf 30 (host := "") (Or.inl (hw _ (List.mem_of_getElem? (i := 95) rfl))) Via.refl hS.2.1 d27_27 rfl
  obtain ⟨Xa, Fv, Fc, Fn, kb, Ab⟩ := hS
  obtain ⟨vp, h1, sop, G', Kp, Qp⟩ := G.callS 33 (hw _ (List.mem_of_getElem? (i := 165) rfl)) (hw _ (List.mem_of_getElem? (i := 166) rfl)) (hw _ (List.mem_of_getElem? (i := 158) rfl)) (hw _ (List.mem_of_getElem? (i := 167) rfl)) (by decide) [(.int (Int32.ofNat N)), (.int (Int32.ofNat (bs.length + 7))), (.ref b)] [] rfl (c_getC7 l Z a0 hw hEW n0 c1 hc1 S1 v2 hv2 S2 t1 t2 kt1 kt2 SD1 SD2 AD1 AD2 b kb cap bs N G.old ge_b hlo hhi hle hcap Ab) (lenOf pd__II_B_I rfl) d27_30 rfl (Nat.le_of_ble_eq_true rfl) (Nat.le_of_ble_eq_true rfl) (Nat.le_of_ble_eq_true rfl) (Nat.le_of_ble_eq_true rfl) (allS (Or.inl (List.mem_of_getElem? (i := 1) rfl)) all0) (allS (List.mem_of_getElem? (i := 1) rfl) all0) (allS (List.mem_of_getElem? (i := 1) rfl) all0) rfl
  clear G; have G := G'; clear G'
  obtain ⟨wp, qp, rfl, Ab1, rfl⟩ := Qp
  replace G := G.val qp
  have nab : a ≠ b := ne_arr Xa (hw _ (List.mem_of_getElem? (i := 82) rfl)) Ab.choose_spec.1
  replace Xa := Xa.keep Kp; replace Fv := Fv.keep Kp (ninS nab nin0); replace Fc := Fc.keep Kp (ninS nab nin0); replace Fn := Fn.keep Kp (ninS nab nin0)
  replace G := G.pop 34 d27_33 rfl rfl
  replace G := G.goto 48 d27_34 (by decide) (by decide)
  replace G := G.aloadN 49 d27_48 rfl rfl rfl
  replace G := G.iloadN 50 d27_49 rfl rfl
  replace G := G.top (y := (.int (Int32.ofNat (bs ++ [dg N 6, dg N 5, dg N 4, dg N 3, dg N 2, dg N 1, dg N 0]).length))) (congrArg Value.int (by rw [List.length_append]; rfl))
  obtain ⟨h2, G', Ww, Fw, Kw⟩ := G.putf 53 (host := "") (Or.inl (hw _ (List.mem_of_getElem? (i := 119) rfl))) Via.refl Fn Xa (Or.inl (hw _ (List.mem_of_getElem? (i := 120) rfl))) (hw _ (List.mem_of_getElem? (i := 82) rfl)) (ty := .int) (by decide) rfl rfl (Or.inl (List.mem_of_getElem? (i := 0) rfl)) (List.mem_of_getElem? (i := 0) rfl) d27_50 rfl
  clear G; have G := G'; clear G'
  replace Fv := Fv.other Ww (Or.inr (slot_ne (Or.inl (hw _ (List.mem_of_getElem? (i := 96) rfl))) (Or.inl (hw _ (List.mem_of_getElem? (i := 120) rfl))) (by decide) (t := (.array .byte)) (t' := .int) (by decide) (by decide)))
  replace Fc := Fc.other Ww (Or.inr (slot_ne (Or.inl (hw _ (List.mem_of_getElem? (i := 98) rfl))) (Or.inl (hw _ (List.mem_of_getElem? (i := 120) rfl))) (by decide) (t := .byte) (t' := .int) (by decide) (by decide)))
  replace Xa := Xa.wr Ww; replace Ab1 := Ab1.keep Kw (ninS nab.symm nin0)
  replace G := G.aloadN 54 d27_53 rfl rfl rfl
  exact G.retA hret rfl rfl hlk d27_54 [] all0 ⟨_, rfl, rfl, ⟨Xa, Fv, Fc, Fw, kb, Ab1⟩, rfl⟩ (Nat.le_of_ble_eq_true rfl) (Nat.le_of_ble_eq_true rfl)
set_option maxRecDepth 65536 in
set_option maxHeartbeats 40000000 in
theorem c_appI7 (l : Launch) (Z : State) (a0 : Array Value) (hw : ∀ d ∈ tables_1, d.before a0 Z = true) (hEW : EW Z a0 consts_1) (n0 : Nat) (c1 : Int32) (hc1 : ¬ c1 = 0) (S1 : Sta Z Z.heap "java/lang/String" "COMPACT_STRINGS" "Z" (.int c1)) (v2 : Value) (hv2 : v2.isRef = true) (S2 : Sta Z Z.heap "jdk/internal/util/Preconditions" "SIOOBE_FORMATTER" "Ljava/util/function/BiFunction;" v2) (t1 t2 : Addr) (kt1 kt2 : ClassId) (SD1 : Sta Z Z.heap "java/lang/Integer" "DigitOnes" "[B" (.ref t1)) (SD2 : Sta Z Z.heap "java/lang/Integer" "DigitTens" "[B" (.ref t2)) (AD1 : Arv Z Z.heap t1 kt1 .byte 100 dOnes (.int 0)) (AD2 : Arv Z Z.heap t2 kt2 .byte 100 dTens (.int 0)) (a b : Addr) (cap : Nat) (bs : List Value) (N : Nat) {h0 : Heap} (o1 : Old Z n0 h0) (ge_a : n0 ≤ a) (ge_b : n0 ≤ b) (hlo : 1000000 ≤ N) (hhi : N < 10000000) (hle : bs.length + 7 ≤ cap) (hcap : cap < 2147483648) (hS : Sbd Z h0 a b cap bs) :
    Con Z a0 l (⟨"java/lang/StringBuilder", "append", "(I)Ljava/lang/StringBuilder;"⟩ : MethodName) jdk_67_method_15_code 2 (some (.object "java/lang/StringBuilder")) ({ frames := 2, cells := 0, slots := 0, locals := 33 } : Room) [] #[(.ref a), (.int (Int32.ofNat N))] consts_1 h0 n0 [a, b] [a, b] (VV fun w h so => w = .ref a ∧ Sbd Z h a b cap (bs ++ [dg N 6, dg N 5, dg N 4, dg N 3, dg N 2, dg N 1, dg N 0]) ∧ so = []) := by
  refine Con.body (plainFor_of_name pn_java_lang_StringBuilder) hEW o1 (allS ge_a (allS ge_b all0)) #[.val (.ref a), .val (.int (Int32.ofNat N))] (fun m => by first | (simp [entryFrame, mkF, argsToLocals, Value.category]; done) | rfl) ?_
  intro p e s m below meth c B hnm hret hlk G
  replace G := G.aloadN 1 d26_0 rfl rfl rfl
  replace G := G.iloadN 2 d26_1 rfl rfl
  obtain ⟨vp, h1, sop, G', Kp, Qp⟩ := G.callSup 5 (hw _ (List.mem_of_getElem? (i := 152) rfl)) (sameOf (hw _ (List.mem_of_getElem? (i := 153) rfl)) (nfVia (y := (⟨"java/lang/AbstractStringBuilder", "ensureCapacityInternal", "(I)V"⟩ : MethodName)) rfl (hw _ (List.mem_of_getElem? (i := 124) rfl)) (hw _ (List.mem_of_getElem? (i := 122) rfl))) (by decide)) (hw _ (List.mem_of_getElem? (i := 153) rfl)) (hw _ (List.mem_of_getElem? (i := 106) rfl)) (by decide) (hw _ (List.mem_of_getElem? (i := 91) rfl)) (hw _ (List.mem_of_getElem? (i := 155) rfl)) (Ins.self hS.1) [(.int (Int32.ofNat N))] [] rfl (c_asbI7 l Z a0 hw hEW n0 c1 hc1 S1 v2 hv2 S2 t1 t2 kt1 kt2 SD1 SD2 AD1 AD2 a b cap bs N G.old ge_a ge_b hlo hhi hle hcap hS) (lenOf pd__I_Ljava_lang_AbstractStringBuilder_ rfl) d26_2 rfl (Nat.le_of_ble_eq_true rfl) (Nat.le_of_ble_eq_true rfl) (Nat.le_of_ble_eq_true rfl) (Nat.le_of_ble_eq_true rfl) (allS (Or.inl (List.mem_of_getElem? (i := 0) rfl)) (allS (Or.inl (List.mem_of_getElem? (i := 1) rfl)) all0)) (allS (List.mem_of_getElem? (i := 0) rfl) (allS (List.mem_of_getElem? (i := 1) rfl) all0)) (allS (List.mem_of_getElem? (i := 0) rfl) (allS (List.mem_of_getElem? (i := 1) rfl) all0)) rfl
  clear G; have G := G'; clear G'
  obtain ⟨wp, qp, rfl, hS1, rfl⟩ := Qp
  replace G := G.val qp
  replace G := G.pop 6 d26_5 rfl rfl
  replace G := G.aloadN 7 d26_6 rfl rfl rfl
  exact G.retA hret rfl rfl hlk d26_7 [] all0 ⟨_, rfl, rfl, hS1, rfl⟩ (Nat.le_of_ble_eq_true rfl) (Nat.le_of_ble_eq_true rfl)
set_option maxRecDepth 65536 in
set_option maxHeartbeats 40000000 in
theorem c_size8 (l : Launch) (Z : State) (a0 : Array Value) (hw : ∀ d ∈ tables_1, d.before a0 Z = true) (hEW : EW Z a0 consts_1) (n0 : Nat) (c1 : Int32) (hc1 : ¬ c1 = 0) (S1 : Sta Z Z.heap "java/lang/String" "COMPACT_STRINGS" "Z" (.int c1)) (v2 : Value) (hv2 : v2.isRef = true) (S2 : Sta Z Z.heap "jdk/internal/util/Preconditions" "SIOOBE_FORMATTER" "Ljava/util/function/BiFunction;" v2) (N : Nat) {h0 : Heap} (o1 : Old Z n0 h0) (hlo : 10000000 ≤ N) (hhi : N < 100000000)  :
    Con Z a0 l (⟨"java/lang/Integer", "stringSize", "(I)I"⟩ : MethodName) jdk_33_method_13_code 4 (some .int) ({ frames := 0, cells := 0, slots := 0, locals := 0 } : Room) [] #[(.int (Int32.ofNat N))] consts_1 h0 n0 [] [] (VV fun w h so => w = .int (8 : Int32) ∧ h = h0 ∧ so = []) := by
  refine Con.body (plainFor_of_name pn_java_lang_Integer) hEW o1 all0 #[.val (.int (Int32.ofNat N)), .unset, .unset, .unset] (fun m => by first | (simp [entryFrame, mkF, argsToLocals, Value.category]; done) | rfl) ?_
  intro p e s m below meth c B hnm hret hlk G
  have hN : N < 2147483648 := by omega
  replace G := G.iconst 1 (1 : Int32) d28_0 rfl rfl
  replace G := G.istoreN 2 #[.val (.int (Int32.ofNat N)), .val (.int (1 : Int32)), .unset, .unset] d28_1 rfl rfl
  replace G := G.iloadN 3 d28_2 rfl rfl
  replace G := G.ifF 6 d28_3 (XT.i0_lt_f (ofn_nn hN)) rfl
  replace G := G.iconst 7 (0 : Int32) d28_6 rfl rfl
  replace G := G.istoreN 8 #[.val (.int (Int32.ofNat N)), .val (.int (0 : Int32)), .unset, .unset] d28_7 rfl rfl
  replace G := G.iloadN 9 d28_8 rfl rfl
  replace G := G.ineg 10 d28_9 rfl
  replace G := G.istoreN 11 #[.val (.int (-(Int32.ofNat N))), .val (.int (0 : Int32)), .unset, .unset] d28_10 rfl rfl
  replace G := G.bipush 13 (-10 : Int32) d28_11 (by decide) rfl
  replace G := G.istoreN 14 #[.val (.int (-(Int32.ofNat N))), .val (.int (0 : Int32)), .val (.int (-10 : Int32)), .unset] d28_13 rfl rfl
  replace G := G.iconst 15 (1 : Int32) d28_14 rfl rfl
  replace G := G.istoreN 16 #[.val (.int (-(Int32.ofNat N))), .val (.int (0 : Int32)), .val (.int (-10 : Int32)), .val (.int (1 : Int32))] d28_15 rfl rfl
  replace G := G.iloadN 17 d28_16 rfl rfl
  replace G := G.bipush 19 (10 : Int32) d28_17 (by decide) rfl
  replace G := G.icmpF 22 d28_19 (XT.ii_ge_f (by decide)) rfl
  replace G := G.iloadN 23 d28_22 rfl rfl
  replace G := G.iloadN 24 d28_23 rfl rfl
  replace G := G.icmpT 31 d28_24 (XT.ii_le_t (ng_ngt (K := -10) hN rfl (by omega))) (by decide) (by decide)
  replace G := G.bipush 33 (10 : Int32) d28_31 (by decide) rfl
  replace G := G.iloadN 34 d28_33 rfl rfl
  replace G := G.imul 35 d28_34 rfl
  replace G := G.top (y := (.int (-100 : Int32))) (by decide)
  replace G := G.istoreN 36 #[.val (.int (-(Int32.ofNat N))), .val (.int (0 : Int32)), .val (.int (-100 : Int32)), .val (.int (1 : Int32))] d28_35 rfl rfl
  replace G := G.iincV 39 #[.val (.int (-(Int32.ofNat N))), .val (.int (0 : Int32)), .val (.int (-100 : Int32)), .val (.int (2 : Int32))] (2 : Int32) d28_36 rfl (by decide) rfl rfl
  replace G := G.goto 16 d28_39 (by decide) (by decide)
  replace G := G.iloadN 17 d28_16 rfl rfl
  replace G := G.bipush 19 (10 : Int32) d28_17 (by decide) rfl
  replace G := G.icmpF 22 d28_19 (XT.ii_ge_f (by decide)) rfl
  replace G := G.iloadN 23 d28_22 rfl rfl
  replace G := G.iloadN 24 d28_23 rfl rfl
  replace G := G.icmpT 31 d28_24 (XT.ii_le_t (ng_ngt (K := -100) hN rfl (by omega))) (by decide) (by decide)
  replace G := G.bipush 33 (10 : Int32) d28_31 (by decide) rfl
  replace G := G.iloadN 34 d28_33 rfl rfl
  replace G := G.imul 35 d28_34 rfl
  replace G := G.top (y := (.int (-1000 : Int32))) (by decide)
  replace G := G.istoreN 36 #[.val (.int (-(Int32.ofNat N))), .val (.int (0 : Int32)), .val (.int (-1000 : Int32)), .val (.int (2 : Int32))] d28_35 rfl rfl
  replace G := G.iincV 39 #[.val (.int (-(Int32.ofNat N))), .val (.int (0 : Int32)), .val (.int (-1000 : Int32)), .val (.int (3 : Int32))] (3 : Int32) d28_36 rfl (by decide) rfl rfl
  replace G := G.goto 16 d28_39 (by decide) (by decide)
  replace G := G.iloadN 17 d28_16 rfl rfl
  replace G := G.bipush 19 (10 : Int32) d28_17 (by decide) rfl
  replace G := G.icmpF 22 d28_19 (XT.ii_ge_f (by decide)) rfl
  replace G := G.iloadN 23 d28_22 rfl rfl
  replace G := G.iloadN 24 d28_23 rfl rfl
  replace G := G.icmpT 31 d28_24 (XT.ii_le_t (ng_ngt (K := -1000) hN rfl (by omega))) (by decide) (by decide)
  replace G := G.bipush 33 (10 : Int32) d28_31 (by decide) rfl
  replace G := G.iloadN 34 d28_33 rfl rfl
  replace G := G.imul 35 d28_34 rfl
  replace G := G.top (y := (.int (-10000 : Int32))) (by decide)
  replace G := G.istoreN 36 #[.val (.int (-(Int32.ofNat N))), .val (.int (0 : Int32)), .val (.int (-10000 : Int32)), .val (.int (3 : Int32))] d28_35 rfl rfl
  replace G := G.iincV 39 #[.val (.int (-(Int32.ofNat N))), .val (.int (0 : Int32)), .val (.int (-10000 : Int32)), .val (.int (4 : Int32))] (4 : Int32) d28_36 rfl (by decide) rfl rfl
  replace G := G.goto 16 d28_39 (by decide) (by decide)
  replace G := G.iloadN 17 d28_16 rfl rfl
  replace G := G.bipush 19 (10 : Int32) d28_17 (by decide) rfl
  replace G := G.icmpF 22 d28_19 (XT.ii_ge_f (by decide)) rfl
  replace G := G.iloadN 23 d28_22 rfl rfl
  replace G := G.iloadN 24 d28_23 rfl rfl
  replace G := G.icmpT 31 d28_24 (XT.ii_le_t (ng_ngt (K := -10000) hN rfl (by omega))) (by decide) (by decide)
  replace G := G.bipush 33 (10 : Int32) d28_31 (by decide) rfl
  replace G := G.iloadN 34 d28_33 rfl rfl
  replace G := G.imul 35 d28_34 rfl
  replace G := G.top (y := (.int (-100000 : Int32))) (by decide)
  replace G := G.istoreN 36 #[.val (.int (-(Int32.ofNat N))), .val (.int (0 : Int32)), .val (.int (-100000 : Int32)), .val (.int (4 : Int32))] d28_35 rfl rfl
  replace G := G.iincV 39 #[.val (.int (-(Int32.ofNat N))), .val (.int (0 : Int32)), .val (.int (-100000 : Int32)), .val (.int (5 : Int32))] (5 : Int32) d28_36 rfl (by decide) rfl rfl
  replace G := G.goto 16 d28_39 (by decide) (by decide)
  replace G := G.iloadN 17 d28_16 rfl rfl
  replace G := G.bipush 19 (10 : Int32) d28_17 (by decide) rfl
  replace G := G.icmpF 22 d28_19 (XT.ii_ge_f (by decide)) rfl
  replace G := G.iloadN 23 d28_22 rfl rfl
  replace G := G.iloadN 24 d28_23 rfl rfl
  replace G := G.icmpT 31 d28_24 (XT.ii_le_t (ng_ngt (K := -100000) hN rfl (by omega))) (by decide) (by decide)
  replace G := G.bipush 33 (10 : Int32) d28_31 (by decide) rfl
  replace G := G.iloadN 34 d28_33 rfl rfl
  replace G := G.imul 35 d28_34 rfl
  replace G := G.top (y := (.int (-1000000 : Int32))) (by decide)
  replace G := G.istoreN 36 #[.val (.int (-(Int32.ofNat N))), .val (.int (0 : Int32)), .val (.int (-1000000 : Int32)), .val (.int (5 : Int32))] d28_35 rfl rfl
  replace G := G.iincV 39 #[.val (.int (-(Int32.ofNat N))), .val (.int (0 : Int32)), .val (.int (-1000000 : Int32)), .val (.int (6 : Int32))] (6 : Int32) d28_36 rfl (by decide) rfl rfl
  replace G := G.goto 16 d28_39 (by decide) (by decide)
  replace G := G.iloadN 17 d28_16 rfl rfl
  replace G := G.bipush 19 (10 : Int32) d28_17 (by decide) rfl
  replace G := G.icmpF 22 d28_19 (XT.ii_ge_f (by decide)) rfl
  replace G := G.iloadN 23 d28_22 rfl rfl
  replace G := G.iloadN 24 d28_23 rfl rfl
  replace G := G.icmpT 31 d28_24 (XT.ii_le_t (ng_ngt (K := -1000000) hN rfl (by omega))) (by decide) (by decide)
  replace G := G.bipush 33 (10 : Int32) d28_31 (by decide) rfl
  replace G := G.iloadN 34 d28_33 rfl rfl
  replace G := G.imul 35 d28_34 rfl
  replace G := G.top (y := (.int (-10000000 : Int32))) (by decide)
  replace G := G.istoreN 36 #[.val (.int (-(Int32.ofNat N))), .val (.int (0 : Int32)), .val (.int (-10000000 : Int32)), .val (.int (6 : Int32))] d28_35 rfl rfl
  replace G := G.iincV 39 #[.val (.int (-(Int32.ofNat N))), .val (.int (0 : Int32)), .val (.int (-10000000 : Int32)), .val (.int (7 : Int32))] (7 : Int32) d28_36 rfl (by decide) rfl rfl
  replace G := G.goto 16 d28_39 (by decide) (by decide)
  replace G := G.iloadN 17 d28_16 rfl rfl
  replace G := G.bipush 19 (10 : Int32) d28_17 (by decide) rfl
  replace G := G.icmpF 22 d28_19 (XT.ii_ge_f (by decide)) rfl
  replace G := G.iloadN 23 d28_22 rfl rfl
  replace G := G.iloadN 24 d28_23 rfl rfl
  replace G := G.icmpT 31 d28_24 (XT.ii_le_t (ng_ngt (K := -10000000) hN rfl (by omega))) (by decide) (by decide)
  replace G := G.bipush 33 (10 : Int32) d28_31 (by decide) rfl
  replace G := G.iloadN 34 d28_33 rfl rfl
  replace G := G.imul 35 d28_34 rfl
  replace G := G.top (y := (.int (-100000000 : Int32))) (by decide)
  replace G := G.istoreN 36 #[.val (.int (-(Int32.ofNat N))), .val (.int (0 : Int32)), .val (.int (-100000000 : Int32)), .val (.int (7 : Int32))] d28_35 rfl rfl
  replace G := G.iincV 39 #[.val (.int (-(Int32.ofNat N))), .val (.int (0 : Int32)), .val (.int (-100000000 : Int32)), .val (.int (8 : Int32))] (8 : Int32) d28_36 rfl (by decide) rfl rfl
  replace G := G.goto 16 d28_39 (by decide) (by decide)
  replace G := G.iloadN 17 d28_16 rfl rfl
  replace G := G.bipush 19 (10 : Int32) d28_17 (by decide) rfl
  replace G := G.icmpF 22 d28_19 (XT.ii_ge_f (by decide)) rfl
  replace G := G.iloadN 23 d28_22 rfl rfl
  replace G := G.iloadN 24 d28_23 rfl rfl
  replace G := G.icmpF 27 d28_24 (XT.ii_le_f (ng_gt (K := -100000000) hN rfl (by omega))) rfl
  replace G := G.iloadN 28 d28_27 rfl rfl
  replace G := G.iloadN 29 d28_28 rfl rfl
  replace G := G.iadd 30 d28_29 rfl
  replace G := G.top (y := (.int (8 : Int32))) (by decide)
  exact G.retI hret hlk d28_30 [] all0 ⟨_, rfl, rfl, rfl, rfl⟩ (Nat.le_of_ble_eq_true rfl) (Nat.le_of_ble_eq_true rfl)
set_option maxRecDepth 65536 in
set_option maxHeartbeats 40000000 in
theorem c_getC8 (l : Launch) (Z : State) (a0 : Array Value) (hw : ∀ d ∈ tables_1, d.before a0 Z = true) (hEW : EW Z a0 consts_1) (n0 : Nat) (c1 : Int32) (hc1 : ¬ c1 = 0) (S1 : Sta Z Z.heap "java/lang/String" "COMPACT_STRINGS" "Z" (.int c1)) (v2 : Value) (hv2 : v2.isRef = true) (S2 : Sta Z Z.heap "jdk/internal/util/Preconditions" "SIOOBE_FORMATTER" "Ljava/util/function/BiFunction;" v2) (t1 t2 : Addr) (kt1 kt2 : ClassId) (SD1 : Sta Z Z.heap "java/lang/Integer" "DigitOnes" "[B" (.ref t1)) (SD2 : Sta Z Z.heap "java/lang/Integer" "DigitTens" "[B" (.ref t2)) (AD1 : Arv Z Z.heap t1 kt1 .byte 100 dOnes (.int 0)) (AD2 : Arv Z Z.heap t2 kt2 .byte 100 dTens (.int 0)) (b : Addr) (kb : ClassId) (cap : Nat) (bs : List Value) (N : Nat) {h0 : Heap} (o1 : Old Z n0 h0) (ge_b : n0 ≤ b) (hlo : 10000000 ≤ N) (hhi : N < 100000000) (hle : bs.length + 8 ≤ cap) (hcap : cap < 2147483648) (Ab : Arv Z h0 b kb .byte (Int32.ofNat cap) bs (.int 0)) :
    Con Z a0 l (⟨"java/lang/Integer", "getChars", "(II[B)I"⟩ : MethodName) jdk_33_method_12_code 7 (some .int) ({ frames := 0, cells := 0, slots := 0, locals := 0 } : Room) [] #[(.int (Int32.ofNat N)), (.int (Int32.ofNat (bs.length + 8))), (.ref b)] consts_1 h0 n0 [b] [b] (VV fun w h so => w = .int (Int32.ofNat (bs.length + 0)) ∧ Arv Z h b kb .byte (Int32.ofNat cap) (bs ++ [dg N 7, dg N 6, dg N 5, dg N 4, dg N 3, dg N 2, dg N 1, dg N 0]) (.int 0) ∧ so = []) := by
  refine Con.body (plainFor_of_name pn_java_lang_Integer) hEW o1 (allS ge_b all0) #[.val (.int (Int32.ofNat N)), .val (.int (Int32.ofNat (bs.length + 8))), .val (.ref b), .unset, .unset, .unset, .unset] (fun m => by first | (simp [entryFrame, mkF, argsToLocals, Value.category]; done) | rfl) ?_
  intro p e s m below meth c B hnm hret hlk G
  have hN : N < 2147483648 := by omega
  have hn : bs.length < 2147483648 := by omega
  replace Ab := Ab.pad (vs' := bs ++ [(.int 0), (.int 0), (.int 0), (.int 0), (.int 0), (.int 0), (.int 0), (.int 0)]) (pad_rep bs (.int 0) 8)
  replace G := G.iloadN 1 d30_0 rfl rfl
  replace G := G.istore 3 #[.val (.int (Int32.ofNat N)), .val (.int (Int32.ofNat (bs.length + 8))), .val (.ref b), .unset, .unset, .val (.int (Int32.ofNat (bs.length + 8))), .unset] d30_1 rfl rfl
  replace G := G.iloadN 4 d30_3 rfl rfl
  replace G := G.ifT 11 d30_4 (XT.i0_ge_t (ofn_nn hN)) (by decide) (by decide)
  replace G := G.iconst 12 (0 : Int32) d30_11 rfl rfl
  replace G := G.istore 14 #[.val (.int (Int32.ofNat N)), .val (.int (Int32.ofNat (bs.length + 8))), .val (.ref b), .unset, .unset, .val (.int (Int32.ofNat (bs.length + 8))), .val (.int (0 : Int32))] d30_12 rfl rfl
  replace G := G.iload 16 d30_14 rfl rfl
  replace G := G.ifF 19 d30_16 (XT.i0_ne_f rfl) rfl
  replace G := G.iloadN 20 d30_19 rfl rfl
  replace G := G.ineg 21 d30_20 rfl
  replace G := G.istoreN 22 #[.val (.int (-(Int32.ofNat N))), .val (.int (Int32.ofNat (bs.length + 8))), .val (.ref b), .unset, .unset, .val (.int (Int32.ofNat (bs.length + 8))), .val (.int (0 : Int32))] d30_21 rfl rfl
  replace G := G.iloadN 23 d30_22 rfl rfl
  replace G := G.bipush 25 (-100 : Int32) d30_23 (by decide) rfl
  replace G := G.icmpF 28 d30_25 (XT.ii_gt_f (ng_ngt (K := -100) (by omega) rfl (by omega))) rfl
  replace G := G.iloadN 29 d30_28 rfl rfl
  replace G := G.bipush 31 (100 : Int32) d30_29 (by decide) rfl
  replace G := G.idiv 32 d30_31 (by decide) rfl
  replace G := G.top (y := (.int (-(Int32.ofNat (N / 100))))) (congrArg Value.int (ng_div (by omega)))
  replace G := G.istoreN 33 #[.val (.int (-(Int32.ofNat N))), .val (.int (Int32.ofNat (bs.length + 8))), .val (.ref b), .val (.int (-(Int32.ofNat (N / 100)))), .unset, .val (.int (Int32.ofNat (bs.length + 8))), .val (.int (0 : Int32))] d30_32 rfl rfl
  replace G := G.iloadN 34 d30_33 rfl rfl
  replace G := G.bipush 36 (100 : Int32) d30_34 (by decide) rfl
  replace G := G.imul 37 d30_36 rfl
  replace G := G.iloadN 38 d30_37 rfl rfl
  replace G := G.isub 39 d30_38 rfl
  replace G := G.top (y := (.int (Int32.ofNat (N % 100)))) (congrArg Value.int (ng_rem (by omega)))
  replace G := G.istore 41 #[.val (.int (-(Int32.ofNat N))), .val (.int (Int32.ofNat (bs.length + 8))), .val (.ref b), .val (.int (-(Int32.ofNat (N / 100)))), .val (.int (Int32.ofNat (N % 100))), .val (.int (Int32.ofNat (bs.length + 8))), .val (.int (0 : Int32))] d30_39 rfl rfl
  replace G := G.iloadN 42 d30_41 rfl rfl
  replace G := G.istoreN 43 #[.val (.int (-(Int32.ofNat (N / 100)))), .val (.int (Int32.ofNat (bs.length + 8))), .val (.ref b), .val (.int (-(Int32.ofNat (N / 100)))), .val (.int (Int32.ofNat (N % 100))), .val (.int (Int32.ofNat (bs.length + 8))), .val (.int (0 : Int32))] d30_42 rfl rfl
  replace G := G.aloadN 44 d30_43 rfl rfl rfl
  replace G := G.iincV 47 #[.val (.int (-(Int32.ofNat (N / 100)))), .val (.int (Int32.ofNat (bs.length + 8))), .val (.ref b), .val (.int (-(Int32.ofNat (N / 100)))), .val (.int (Int32.ofNat (N % 100))), .val (.int (Int32.ofNat (bs.length + 7))), .val (.int (0 : Int32))] (Int32.ofNat (bs.length + 7)) d30_44 rfl (ofn_pred (bs.length + 7)) rfl rfl
  replace G := G.iload 49 d30_47 rfl rfl
  replace G := G.gets 52 (host := "") (Or.inl (hw _ (List.mem_of_getElem? (i := 168) rfl))) Via.refl (G.sta SD1) d30_49 rfl
  replace G := G.iload 54 d30_52 rfl rfl
  replace G := G.baload 55 (v := (.int (Int32.ofNat (48 + N % 100 % 10)))) (AD1.ext G.old.2) ⟨ofn_nn (by omega), ofn_lt (n := 100) (by omega) (by decide)⟩ (by rw [ofn_nat (by omega)]; exact dOnes_at (by omega)) d30_54 rfl
  obtain ⟨g1, G', As, Ks⟩ := G.bastore 56 (bs.length + 7) Ab ⟨ofn_nn (by omega), ofn_lt (by omega) hcap⟩ (ofn_nat (by omega)) (by simp) (Or.inl (List.mem_of_getElem? (i := 0) rfl)) (List.mem_of_getElem? (i := 0) rfl) d30_55 rfl
  clear G; have G := G'; clear G'
  rw [set_app2 _ _ 7 _ _ rfl, dig_b (by omega)] at As
  replace Ab : Arv Z g1 b kb .byte (Int32.ofNat cap) (bs ++ [(.int 0), (.int 0), (.int 0), (.int 0), (.int 0), (.int 0), (.int 0), (.int (Int32.ofNat (48 + N % 100 % 10)))]) (.int 0) := As
  replace G := G.aloadN 57 d30_56 rfl rfl rfl
  replace G := G.iincV 60 #[.val (.int (-(Int32.ofNat (N / 100)))), .val (.int (Int32.ofNat (bs.length + 8))), .val (.ref b), .val (.int (-(Int32.ofNat (N / 100)))), .val (.int (Int32.ofNat (N % 100))), .val (.int (Int32.ofNat (bs.length + 6))), .val (.int (0 : Int32))] (Int32.ofNat (bs.length + 6)) d30_57 rfl (ofn_pred (bs.length + 6)) rfl rfl
  replace G := G.iload 62 d30_60 rfl rfl
  replace G := G.gets 65 (host := "") (Or.inl (hw _ (List.mem_of_getElem? (i := 242) rfl))) Via.refl (G.sta SD2) d30_62 rfl
  replace G := G.iload 67 d30_65 rfl rfl
  replace G := G.baload 68 (v := (.int (Int32.ofNat (48 + N % 100 / 10)))) (AD2.ext G.old.2) ⟨ofn_nn (by omega), ofn_lt (n := 100) (by omega) (by decide)⟩ (by rw [ofn_nat (by omega)]; exact dTens_at (by omega)) d30_67 rfl
  obtain ⟨g2, G', As, Ks⟩ := G.bastore 69 (bs.length + 6) Ab ⟨ofn_nn (by omega), ofn_lt (by omega) hcap⟩ (ofn_nat (by omega)) (by simp) (Or.inl (List.mem_of_getElem? (i := 0) rfl)) (List.mem_of_getElem? (i := 0) rfl) d30_68 rfl
  clear G; have G := G'; clear G'
  rw [set_app2 _ _ 6 _ _ rfl, dig_b (by omega)] at As
  replace Ab : Arv Z g2 b kb .byte (Int32.ofNat cap) (bs ++ [(.int 0), (.int 0), (.int 0), (.int 0), (.int 0), (.int 0), (.int (Int32.ofNat (48 + N % 100 / 10))), (.int (Int32.ofNat (48 + N % 100 % 10)))]) (.int 0) := As
  replace G := G.goto 22 d30_69 (by decide) (by decide)
  replace G := G.iloadN 23 d30_22 rfl rfl
  replace G := G.bipush 25 (-100 : Int32) d30_23 (by decide) rfl
  replace G := G.icmpF 28 d30_25 (XT.ii_gt_f (ng_ngt (K := -100) (by omega) rfl (by omega))) rfl
  replace G := G.iloadN 29 d30_28 rfl rfl
  replace G := G.bipush 31 (100 : Int32) d30_29 (by decide) rfl
  replace G := G.idiv 32 d30_31 (by decide) rfl
  replace G := G.top (y := (.int (-(Int32.ofNat (N / 100 / 100))))) (congrArg Value.int (ng_div (by omega)))
  replace G := G.istoreN 33 #[.val (.int (-(Int32.ofNat (N / 100)))), .val (.int (Int32.ofNat (bs.length + 8))), .val (.ref b), .val (.int (-(Int32.ofNat (N / 100 / 100)))), .val (.int (Int32.ofNat (N % 100))), .val (.int (Int32.ofNat (bs.length + 6))), .val (.int (0 : Int32))] d30_32 rfl rfl
  replace G := G.iloadN 34 d30_33 rfl rfl
  replace G := G.bipush 36 (100 : Int32) d30_34 (by decide) rfl
  replace G := G.imul 37 d30_36 rfl
  replace G := G.iloadN 38 d30_37 rfl rfl
  replace G := G.isub 39 d30_38 rfl
  replace G := G.top (y := (.int (Int32.ofNat (N / 100 % 100)))) (congrArg Value.int (ng_rem (by omega)))
  replace G := G.istore 41 #[.val (.int (-(Int32.ofNat (N / 100)))), .val (.int (Int32.ofNat (bs.length + 8))), .val (.ref b), .val (.int (-(Int32.ofNat (N / 100 / 100)))), .val (.int (Int32.ofNat (N / 100 % 100))), .val (.int (Int32.ofNat (bs.length + 6))), .val (.int (0 : Int32))] d30_39 rfl rfl
  replace G := G.iloadN 42 d30_41 rfl rfl
  replace G := G.istoreN 43 #[.val (.int (-(Int32.ofNat (N / 100 / 100)))), .val (.int (Int32.ofNat (bs.length + 8))), .val (.ref b), .val (.int (-(Int32.ofNat (N / 100 / 100)))), .val (.int (Int32.ofNat (N / 100 % 100))), .val (.int (Int32.ofNat (bs.length + 6))), .val (.int (0 : Int32))] d30_42 rfl rfl
  replace G := G.aloadN 44 d30_43 rfl rfl rfl
  replace G := G.iincV 47 #[.val (.int (-(Int32.ofNat (N / 100 / 100)))), .val (.int (Int32.ofNat (bs.length + 8))), .val (.ref b), .val (.int (-(Int32.ofNat (N / 100 / 100)))), .val (.int (Int32.ofNat (N / 100 % 100))), .val (.int (Int32.ofNat (bs.length + 5))), .val (.int (0 : Int32))] (Int32.ofNat (bs.length + 5)) d30_44 rfl (ofn_pred (bs.length + 5)) rfl rfl
  replace G := G.iload 49 d30_47 rfl rfl
  replace G := G.gets 52 (host := "") (Or.inl (hw _ (List.mem_of_getElem? (i := 168) rfl))) Via.refl (G.sta SD1) d30_49 rfl
  replace G := G.iload 54 d30_52 rfl rfl
  replace G := G.baload 55 (v := (.int (Int32.ofNat (48 + N / 100 % 100 % 10)))) (AD1.ext G.old.2) ⟨ofn_nn (by omega), ofn_lt (n := 100) (by omega) (by decide)⟩ (by rw [ofn_nat (by omega)]; exact dOnes_at (by omega)) d30_54 rfl
  obtain ⟨g3, G', As, Ks⟩ := G.bastore 56 (bs.length + 5) Ab ⟨ofn_nn (by omega), ofn_lt (by omega) hcap⟩ (ofn_nat (by omega)) (by simp) (Or.inl (List.mem_of_getElem? (i := 0) rfl)) (List.mem_of_getElem? (i := 0) rfl) d30_55 rfl
  clear G; have G := G'; clear G'
  rw [set_app2 _ _ 5 _ _ rfl, dig_b (by omega)] at As
  replace Ab : Arv Z g3 b kb .byte (Int32.ofNat cap) (bs ++ [(.int 0), (.int 0), (.int 0), (.int 0), (.int 0), (.int (Int32.ofNat (48 + N / 100 % 100 % 10))), (.int (Int32.ofNat (48 + N % 100 / 10))), (.int (Int32.ofNat (48 + N % 100 % 10)))]) (.int 0) := As
  replace G := G.aloadN 57 d30_56 rfl rfl rfl
  replace G := G.iincV 60 #[.val (.int (-(Int32.ofNat (N / 100 / 100)))), .val (.int (Int32.ofNat (bs.length + 8))), .val (.ref b), .val (.int (-(Int32.ofNat (N / 100 / 100)))), .val (.int (Int32.ofNat (N / 100 % 100))), .val (.int (Int32.ofNat (bs.length + 4))), .val (.int (0 : Int32))] (Int32.ofNat (bs.length + 4)) d30_57 rfl (ofn_pred (bs.length + 4)) rfl rfl
  replace G := G.iload 62 d30_60 rfl rfl
  replace G := G.gets 65 (host := "") (Or.inl (hw _ (List.mem_of_getElem? (i := 242) rfl))) Via.refl (G.sta SD2) d30_62 rfl
  replace G := G.iload 67 d30_65 rfl rfl
  replace G := G.baload 68 (v := (.int (Int32.ofNat (48 + N / 100 % 100 / 10)))) (AD2.ext G.old.2) ⟨ofn_nn (by omega), ofn_lt (n := 100) (by omega) (by decide)⟩ (by rw [ofn_nat (by omega)]; exact dTens_at (by omega)) d30_67 rfl
  obtain ⟨g4, G', As, Ks⟩ := G.bastore 69 (bs.length + 4) Ab ⟨ofn_nn (by omega), ofn_lt (by omega) hcap⟩ (ofn_nat (by omega)) (by simp) (Or.inl (List.mem_of_getElem? (i := 0) rfl)) (List.mem_of_getElem? (i := 0) rfl) d30_68 rfl
  clear G; have G := G'; clear G'
  rw [set_app2 _ _ 4 _ _ rfl, dig_b (by omega)] at As
  replace Ab : Arv Z g4 b kb .byte (Int32.ofNat cap) (bs ++ [(.int 0), (.int 0), (.int 0), (.int 0), (.int (Int32.ofNat (48 + N / 100 % 100 / 10))), (.int (Int32.ofNat (48 + N / 100 % 100 % 10))), (.int (Int32.ofNat (48 + N % 100 / 10))), (.int (Int32.ofNat (48 + N % 100 % 10)))]) (.int 0) := As
  replace G := G.goto 22 d30_69 (by decide) (by decide)
  replace G := G.iloadN 23 d30_22 rfl rfl
  replace G := G.bipush 25 (-100 : Int32) d30_23 (by decide) rfl
  replace G := G.icmpF 28 d30_25 (XT.ii_gt_f (ng_ngt (K := -100) (by omega) rfl (by omega))) rfl
  replace G := G.iloadN 29 d30_28 rfl rfl
  replace G := G.bipush 31 (100 : Int32) d30_29 (by decide) rfl
  replace G := G.idiv 32 d30_31 (by decide) rfl
  replace G := G.top (y := (.int (-(Int32.ofNat (N / 100 / 100 / 100))))) (congrArg Value.int (ng_div (by omega)))
  replace G := G.istoreN 33 #[.val (.int (-(Int32.ofNat (N / 100 / 100)))), .val (.int (Int32.ofNat (bs.length + 8))), .val (.ref b), .val (.int (-(Int32.ofNat (N / 100 / 100 / 100)))), .val (.int (Int32.ofNat (N / 100 % 100))), .val (.int (Int32.ofNat (bs.length + 4))), .val (.int (0 : Int32))] d30_32 rfl rfl
  replace G := G.iloadN 34 d30_33 rfl rfl
  replace G := G.bipush 36 (100 : Int32) d30_34 (by decide) rfl
  replace G := G.imul 37 d30_36 rfl
  replace G := G.iloadN 38 d30_37 rfl rfl
  replace G := G.isub 39 d30_38 rfl
  replace G := G.top (y := (.int (Int32.ofNat (N / 100 / 100 % 100)))) (congrArg Value.int (ng_rem (by omega)))
  replace G := G.istore 41 #[.val (.int (-(Int32.ofNat (N / 100 / 100)))), .val (.int (Int32.ofNat (bs.length + 8))), .val (.ref b), .val (.int (-(Int32.ofNat (N / 100 / 100 / 100)))), .val (.int (Int32.ofNat (N / 100 / 100 % 100))), .val (.int (Int32.ofNat (bs.length + 4))), .val (.int (0 : Int32))] d30_39 rfl rfl
  replace G := G.iloadN 42 d30_41 rfl rfl
  replace G := G.istoreN 43 #[.val (.int (-(Int32.ofNat (N / 100 / 100 / 100)))), .val (.int (Int32.ofNat (bs.length + 8))), .val (.ref b), .val (.int (-(Int32.ofNat (N / 100 / 100 / 100)))), .val (.int (Int32.ofNat (N / 100 / 100 % 100))), .val (.int (Int32.ofNat (bs.length + 4))), .val (.int (0 : Int32))] d30_42 rfl rfl
  replace G := G.aloadN 44 d30_43 rfl rfl rfl
  replace G := G.iincV 47 #[.val (.int (-(Int32.ofNat (N / 100 / 100 / 100)))), .val (.int (Int32.ofNat (bs.length + 8))), .val (.ref b), .val (.int (-(Int32.ofNat (N / 100 / 100 / 100)))), .val (.int (Int32.ofNat (N / 100 / 100 % 100))), .val (.int (Int32.ofNat (bs.length + 3))), .val (.int (0 : Int32))] (Int32.ofNat (bs.length + 3)) d30_44 rfl (ofn_pred (bs.length + 3)) rfl rfl
  replace G := G.iload 49 d30_47 rfl rfl
  replace G := G.gets 52 (host := "") (Or.inl (hw _ (List.mem_of_getElem? (i := 168) rfl))) Via.refl (G.sta SD1) d30_49 rfl
  replace G := G.iload 54 d30_52 rfl rfl
  replace G := G.baload 55 (v := (.int (Int32.ofNat (48 + N / 100 / 100 % 100 % 10)))) (AD1.ext G.old.2) ⟨ofn_nn (by omega), ofn_lt (n := 100) (by omega) (by decide)⟩ (by rw [ofn_nat (by omega)]; exact dOnes_at (by omega)) d30_54 rfl
  obtain ⟨g5, G', As, Ks⟩ := G.bastore 56 (bs.length + 3) Ab ⟨ofn_nn (by omega), ofn_lt (by omega) hcap⟩ (ofn_nat (by omega)) (by simp) (Or.inl (List.mem_of_getElem? (i := 0) rfl)) (List.mem_of_getElem? (i := 0) rfl) d30_55 rfl
  clear G; have G := G'; clear G'
  rw [set_app2 _ _ 3 _ _ rfl, dig_b (by omega)] at As
  replace Ab : Arv Z g5 b kb .byte (Int32.ofNat cap) (bs ++ [(.int 0), (.int 0), (.int 0), (.int (Int32.ofNat (48 + N / 100 / 100 % 100 % 10))), (.int (Int32.ofNat (48 + N / 100 % 100 / 10))), (.int (Int32.ofNat (48 + N / 100 % 100 % 10))), (.int (Int32.ofNat (48 + N % 100 / 10))), (.int (Int32.ofNat (48 + N % 100 % 10)))]) (.int 0) := As
  replace G := G.aloadN 57 d30_56 rfl rfl rfl
  replace G := G.iincV 60 #[.val (.int (-(Int32.ofNat (N / 100 / 100 / 100)))), .val (.int (Int32.ofNat (bs.length + 8))), .val (.ref b), .val (.int (-(Int32.ofNat (N / 100 / 100 / 100)))), .val (.int (Int32.ofNat (N / 100 / 100 % 100))), .val (.int (Int32.ofNat (bs.length + 2))), .val (.int (0 : Int32))] (Int32.ofNat (bs.length + 2)) d30_57 rfl (ofn_pred (bs.length + 2)) rfl rfl
  replace G := G.iload 62 d30_60 rfl rfl
  replace G := G.gets 65 (host := "") (Or.inl (hw _ (List.mem_of_getElem? (i := 242) rfl))) Via.refl (G.sta SD2) d30_62 rfl
  replace G := G.iload 67 d30_65 rfl rfl
  replace G := G.baload 68 (v := (.int (Int32.ofNat (48 + N / 100 / 100 % 100 / 10)))) (AD2.ext G.old.2) ⟨ofn_nn (by omega), ofn_lt (n := 100) (by omega) (by decide)⟩ (by rw [ofn_nat (by omega)]; exact dTens_at (by omega)) d30_67 rfl
  obtain ⟨g6, G', As, Ks⟩ := G.bastore 69 (bs.length + 2) Ab ⟨ofn_nn (by omega), ofn_lt (by omega) hcap⟩ (ofn_nat (by omega)) (by simp) (Or.inl (List.mem_of_getElem? (i := 0) rfl)) (List.mem_of_getElem? (i := 0) rfl) d30_68 rfl
  clear G; have G := G'; clear G'
  rw [set_app2 _ _ 2 _ _ rfl, dig_b (by omega)] at As
  replace Ab : Arv Z g6 b kb .byte (Int32.ofNat cap) (bs ++ [(.int 0), (.int 0), (.int (Int32.ofNat (48 + N / 100 / 100 % 100 / 10))), (.int (Int32.ofNat (48 + N / 100 / 100 % 100 % 10))), (.int (Int32.ofNat (48 + N / 100 % 100 / 10))), (.int (Int32.ofNat (48 + N / 100 % 100 % 10))), (.int (Int32.ofNat (48 + N % 100 / 10))), (.int (Int32.ofNat (48 + N % 100 % 10)))]) (.int 0) := As
  replace G := G.goto 22 d30_69 (by decide) (by decide)
  replace G := G.iloadN 23 d30_22 rfl rfl
  replace G := G.bipush 25 (-100 : Int32) d30_23 (by decide) rfl
  replace G := G.icmpT 72 d30_25 (XT.ii_gt_t (ng_gt (K := -100) (by omega) rfl (by omega))) (by decide) (by decide)
  replace G := G.aloadN 73 d30_72 rfl rfl rfl
  replace G := G.iincV 76 #[.val (.int (-(Int32.ofNat (N / 100 / 100 / 100)))), .val (.int (Int32.ofNat (bs.length + 8))), .val (.ref b), .val (.int (-(Int32.ofNat (N / 100 / 100 / 100)))), .val (.int (Int32.ofNat (N / 100 / 100 % 100))), .val (.int (Int32.ofNat (bs.length + 1))), .val (.int (0 : Int32))] (Int32.ofNat (bs.length + 1)) d30_73 rfl (ofn_pred (bs.length + 1)) rfl rfl
  replace G := G.iload 78 d30_76 rfl rfl
  replace G := G.gets 81 (host := "") (Or.inl (hw _ (List.mem_of_getElem? (i := 168) rfl))) Via.refl (G.sta SD1) d30_78 rfl
  replace G := G.iloadN 82 d30_81 rfl rfl
  replace G := G.ineg 83 d30_82 rfl
  replace G := G.top (y := (.int (Int32.ofNat (N / 100 / 100 / 100)))) (congrArg Value.int Int32.neg_neg)
  replace G := G.baload 84 (v := (.int (Int32.ofNat (48 + (N / 100 / 100 / 100) % 10)))) (AD1.ext G.old.2) ⟨ofn_nn (by omega), ofn_lt (n := 100) (by omega) (by decide)⟩ (by rw [ofn_nat (by omega)]; exact dOnes_at (by omega)) d30_83 rfl
  obtain ⟨g7, G', As, Ks⟩ := G.bastore 85 (bs.length + 1) Ab ⟨ofn_nn (by omega), ofn_lt (by omega) hcap⟩ (ofn_nat (by omega)) (by simp) (Or.inl (List.mem_of_getElem? (i := 0) rfl)) (List.mem_of_getElem? (i := 0) rfl) d30_84 rfl
  clear G; have G := G'; clear G'
  rw [set_app2 _ _ 1 _ _ rfl, dig_b (by omega)] at As
  replace Ab : Arv Z g7 b kb .byte (Int32.ofNat cap) (bs ++ [(.int 0), (.int (Int32.ofNat (48 + (N / 100 / 100 / 100) % 10))), (.int (Int32.ofNat (48 + N / 100 / 100 % 100 / 10))), (.int (Int32.ofNat (48 + N / 100 / 100 % 100 % 10))), (.int (Int32.ofNat (48 + N / 100 % 100 / 10))), (.int (Int32.ofNat (48 + N / 100 % 100 % 10))), (.int (Int32.ofNat (48 + N % 100 / 10))), (.int (Int32.ofNat (48 + N % 100 % 10)))]) (.int 0) := As
  replace G := G.iloadN 86 d30_85 rfl rfl
  replace G := G.bipush 88 (-9 : Int32) d30_86 (by decide) rfl
  replace G := G.icmpF 91 d30_88 (XT.ii_ge_f (ng_lt (K := -9) (by omega) rfl (by omega))) rfl
  replace G := G.aloadN 92 d30_91 rfl rfl rfl
  replace G := G.iincV 95 #[.val (.int (-(Int32.ofNat (N / 100 / 100 / 100)))), .val (.int (Int32.ofNat (bs.length + 8))), .val (.ref b), .val (.int (-(Int32.ofNat (N / 100 / 100 / 100)))), .val (.int (Int32.ofNat (N / 100 / 100 % 100))), .val (.int (Int32.ofNat (bs.length + 0))), .val (.int (0 : Int32))] (Int32.ofNat (bs.length + 0)) d30_92 rfl (ofn_pred (bs.length + 0)) rfl rfl
  replace G := G.iload 97 d30_95 rfl rfl
  replace G := G.gets 100 (host := "") (Or.inl (hw _ (List.mem_of_getElem? (i := 242) rfl))) Via.refl (G.sta SD2) d30_97 rfl
  replace G := G.iloadN 101 d30_100 rfl rfl
  replace G := G.ineg 102 d30_101 rfl
  replace G := G.top (y := (.int (Int32.ofNat (N / 100 / 100 / 100)))) (congrArg Value.int Int32.neg_neg)
  replace G := G.baload 103 (v := (.int (Int32.ofNat (48 + (N / 100 / 100 / 100) / 10)))) (AD2.ext G.old.2) ⟨ofn_nn (by omega), ofn_lt (n := 100) (by omega) (by decide)⟩ (by rw [ofn_nat (by omega)]; exact dTens_at (by omega)) d30_102 rfl
  obtain ⟨g8, G', As, Ks⟩ := G.bastore 104 (bs.length + 0) Ab ⟨ofn_nn (by omega), ofn_lt (by omega) hcap⟩ (ofn_nat (by omega)) (by simp) (Or.inl (List.mem_of_getElem? (i := 0) rfl)) (List.mem_of_getElem? (i := 0) rfl) d30_103 rfl
  clear G; have G := G'; clear G'
  rw [set_app2 _ _ 0 _ _ rfl, dig_b (by omega)] at As
  replace Ab : Arv Z g8 b kb .byte (Int32.ofNat cap) (bs ++ [(.int (Int32.ofNat (48 + (N / 100 / 100 / 100) / 10))), (.int (Int32.ofNat (48 + (N / 100 / 100 / 100) % 10))), (.int (Int32.ofNat (48 + N / 100 / 100 % 100 / 10))), (.int (Int32.ofNat (48 + N / 100 / 100 % 100 % 10))), (.int (Int32.ofNat (48 + N / 100 % 100 / 10))), (.int (Int32.ofNat (48 + N / 100 % 100 % 10))), (.int (Int32.ofNat (48 + N % 100 / 10))), (.int (Int32.ofNat (48 + N % 100 % 10)))]) (.int 0) := As
  replace G := G.iload 106 d30_104 rfl rfl
  replace G := G.ifT 118 d30_106 (XT.i0_eq_t rfl) (by decide) (by decide)
  replace G := G.iload 120 d30_118 rfl rfl
  have hdg : ([(.int (Int32.ofNat (48 + (N / 100 / 100 / 100) / 10))), (.int (Int32.ofNat (48 + (N / 100 / 100 / 100) % 10))), (.int (Int32.ofNat (48 + N / 100 / 100 % 100 / 10))), (.int (Int32.ofNat (48 + N / 100 / 100 % 100 % 10))), (.int (Int32.ofNat (48 + N / 100 % 100 / 10))), (.int (Int32.ofNat (48 + N / 100 % 100 % 10))), (.int (Int32.ofNat (48 + N % 100 / 10))), (.int (Int32.ofNat (48 + N % 100 % 10)))] : List Value) = [dg N 7, dg N 6, dg N 5, dg N 4, dg N 3, dg N 2, dg N 1, dg N 0] := by
    simp only [dg, List.cons.injEq, Value.int.injEq, and_true, Nat.reducePow]
    refine ⟨?_, ?_, ?_, ?_, ?_, ?_, ?_, ?_⟩ <;> first | trivial | (congr 2; omega)
  rw [hdg] at Ab
  exact G.retI hret hlk d30_120 [] all0 ⟨_, rfl, rfl, Ab, rfl⟩ (Nat.le_of_ble_eq_true rfl) (Nat.le_of_ble_eq_true rfl)
set_option maxRecDepth 65536 in
set_option maxHeartbeats 40000000 in
theorem c_asbI8 (l : Launch) (Z : State) (a0 : Array Value) (hw : ∀ d ∈ tables_1, d.before a0 Z = true) (hEW : EW Z a0 consts_1) (n0 : Nat) (c1 : Int32) (hc1 : ¬ c1 = 0) (S1 : Sta Z Z.heap "java/lang/String" "COMPACT_STRINGS" "Z" (.int c1)) (v2 : Value) (hv2 : v2.isRef = true) (S2 : Sta Z Z.heap "jdk/internal/util/Preconditions" "SIOOBE_FORMATTER" "Ljava/util/function/BiFunction;" v2) (t1 t2 : Addr) (kt1 kt2 : ClassId) (SD1 : Sta Z Z.heap "java/lang/Integer" "DigitOnes" "[B" (.ref t1)) (SD2 : Sta Z Z.heap "java/lang/Integer" "DigitTens" "[B" (.ref t2)) (AD1 : Arv Z Z.heap t1 kt1 .byte 100 dOnes (.int 0)) (AD2 : Arv Z Z.heap t2 kt2 .byte 100 dTens (.int 0)) (a b : Addr) (cap : Nat) (bs : List Value) (N : Nat) {h0 : Heap} (o1 : Old Z n0 h0) (ge_a : n0 ≤ a) (ge_b : n0 ≤ b) (hlo : 10000000 ≤ N) (hhi : N < 100000000) (hle : bs.length + 8 ≤ cap) (hcap : cap < 2147483648) (hS : Sbd Z h0 a b cap bs) :
    Con Z a0 l (⟨"java/lang/AbstractStringBuilder", "append", "(I)Ljava/lang/AbstractStringBuilder;"⟩ : MethodName) jdk_68_method_32_code 4 (some (.object "java/lang/AbstractStringBuilder")) ({ frames := 1, cells := 0, slots := 0, locals := 18 } : Room) [] #[(.ref a), (.int (Int32.ofNat N))] consts_1 h0 n0 [a, b] [a, b] (VV fun w h so => w = .ref a ∧ Sbd Z h a b cap (bs ++ [dg N 7, dg N 6, dg N 5, dg N 4, dg N 3, dg N 2, dg N 1, dg N 0]) ∧ so = []) := by
  refine Con.body (plainFor_of_name pn_java_lang_AbstractStringBuilder) hEW o1 (allS ge_a (allS ge_b all0)) #[.val (.ref a), .val (.int (Int32.ofNat N)), .unset, .unset] (fun m => by first | (simp [entryFrame, mkF, argsToLocals, Value.category]; done) | rfl) ?_
  intro p e s m below meth c B hnm hret hlk G
  replace G := G.aloadN 1 d27_0 rfl rfl rfl
  replace G := G.getf 4 (host := "") (Or.inl (hw _ (List.mem_of_getElem? (i := 119) rfl))) Via.refl hS.2.2.2.1 d27_1 rfl
  replace G := G.istoreN 5 #[.val (.ref a), .val (.int (Int32.ofNat N)), .val (.int (Int32.ofNat bs.length)), .unset] d27_4 rfl rfl
  replace G := G.iloadN 6 d27_5 rfl rfl
  replace G := G.iloadN 7 d27_6 rfl rfl
  obtain ⟨vz, h_z, soz, G', Kz, Qz⟩ := G.callS 10 (hw _ (List.mem_of_getElem? (i := 156) rfl)) (hw _ (List.mem_of_getElem? (i := 157) rfl)) (hw _ (List.mem_of_getElem? (i := 158) rfl)) (hw _ (List.mem_of_getElem? (i := 159) rfl)) (by decide) [(.int (Int32.ofNat N))] [(.int (Int32.ofNat bs.length))] rfl (c_size8 l Z a0 hw hEW n0 c1 hc1 S1 v2 hv2 S2 N G.old hlo hhi) (lenOf pd__I_I rfl) d27_7 rfl (Nat.le_of_ble_eq_true rfl) (Nat.le_of_ble_eq_true rfl) (Nat.le_of_ble_eq_true rfl) (Nat.le_of_ble_eq_true rfl) all0 all0 all0 rfl
  clear G; have G := G'; clear G'
  obtain ⟨wz, qz, rfl, ez, rfl⟩ := Qz
  replace G := G.val qz
  subst ez
  replace G := G.iadd 11 d27_10 rfl
  replace G := G.top (y := (.int (Int32.ofNat (bs.length + 8)))) (congrArg Value.int (ofn_add bs.length 8))
  replace G := G.istoreN 12 #[.val (.ref a), .val (.int (Int32.ofNat N)), .val (.int (Int32.ofNat bs.length)), .val (.int (Int32.ofNat (bs.length + 8)))] d27_11 rfl rfl
  replace G := G.aloadN 13 d27_12 rfl rfl rfl
  replace G := G.iloadN 14 d27_13 rfl rfl
  obtain ⟨ve, h_e, soe, G', Ke, Qe⟩ := G.callV 17 (hw _ (List.mem_of_getElem? (i := 121) rfl)) (declOf (hw _ (List.mem_of_getElem? (i := 122) rfl)) (hw _ (List.mem_of_getElem? (i := 125) rfl))) (nfSel (hw _ (List.mem_of_getElem? (i := 124) rfl))) (hw _ (List.mem_of_getElem? (i := 124) rfl)) (hw _ (List.mem_of_getElem? (i := 122) rfl)) (hw _ (List.mem_of_getElem? (i := 91) rfl)) (hw _ (List.mem_of_getElem? (i := 125) rfl)) hS.1 (by decide) [(.int (Int32.ofNat (bs.length + 8)))] [] rfl (c_ensNG l Z a0 hw hEW n0 c1 hc1 S1 v2 hv2 S2 a b cap (bs.length + 8) bs G.old hle hcap hS) (lenOf pd__I_V rfl) d27_14 rfl (Nat.le_of_ble_eq_true rfl) (Nat.le_of_ble_eq_true rfl) (Nat.le_of_ble_eq_true rfl) (Nat.le_of_ble_eq_true rfl) all0 all0 all0 rfl
  clear G; have G := G'; clear G'
  obtain ⟨qe, ee, rfl⟩ := Qe
  replace G := G.nov qe
  subst ee
  replace G := G.aloadN 18 d27_17 rfl rfl rfl
  obtain ⟨vl, h_l, sol, G', Kl, Ql⟩ := G.callV 21 (hw _ (List.mem_of_getElem? (i := 160) rfl)) (hw _ (List.mem_of_getElem? (i := 161) rfl)) (nfSel (hw _ (List.mem_of_getElem? (i := 163) rfl))) (hw _ (List.mem_of_getElem? (i := 163) rfl)) (hw _ (List.mem_of_getElem? (i := 162) rfl)) (hw _ (List.mem_of_getElem? (i := 91) rfl)) (hw _ (List.mem_of_getElem? (i := 164) rfl)) hS.1 (by decide) [] [] rfl (c_isL1 l Z a0 hw hEW n0 c1 hc1 S1 v2 hv2 S2 a b cap bs G.old hS) (lenOf pd___Z rfl) d27_18 rfl (Nat.le_of_ble_eq_true rfl) (Nat.le_of_ble_eq_true rfl) (Nat.le_of_ble_eq_true rfl) (Nat.le_of_ble_eq_true rfl) all0 all0 all0 rfl
  clear G; have G := G'; clear G'
  obtain ⟨wl, ql, rfl, el, rfl⟩ := Ql
  replace G := G.val ql
  subst el
  replace G := G.ifF 24 d27_21 (XT.i0_eq_f (by decide)) rfl
  replace G := G.iloadN 25 d27_24 rfl rfl
  replace G := G.iloadN 26 d27_25 rfl rfl
  replace G := G.aloadN 27 d27_26 rfl rfl rfl
  replace G := G.getf 30 (host := "") (Or.inl (hw _ (List.mem_of_getElem? (i := 95) rfl))) Via.refl hS.2.1 d27_27 rfl
  obtain ⟨Xa, Fv, Fc, Fn, kb, Ab⟩ := hS
  obtain ⟨vp, h1, sop, G', Kp, Qp⟩ := G.callS 33 (hw _ (List.mem_of_getElem? (i := 165) rfl)) (hw _ (List.mem_of_getElem? (i := 166) rfl)) (hw _ (List.mem_of_getElem? (i := 158) rfl)) (hw _ (List.mem_of_getElem? (i := 167) rfl)) (by decide) [(.int (Int32.ofNat N)), (.int (Int32.ofNat (bs.length + 8))), (.ref b)] [] rfl (c_getC8 l Z a0 hw hEW n0 c1 hc1 S1 v2 hv2 S2 t1 t2 kt1 kt2 SD1 SD2 AD1 AD2 b kb cap bs N G.old ge_b hlo hhi hle hcap Ab) (lenOf pd__II_B_I rfl) d27_30 rfl (Nat.le_of_ble_eq_true rfl) (Nat.le_of_ble_eq_true rfl) (Nat.le_of_ble_eq_true rfl) (Nat.le_of_ble_eq_true rfl) (allS (Or.inl (List.mem_of_getElem? (i := 1) rfl)) all0) (allS (List.mem_of_getElem? (i := 1) rfl) all0) (allS (List.mem_of_getElem? (i := 1) rfl) all0) rfl
  clear G; have G := G'; clear G'
  obtain ⟨wp, qp, rfl, Ab1, rfl⟩ := Qp
  replace G := G.val qp
  have nab : a ≠ b := ne_arr Xa (hw _ (List.mem_of_getElem? (i := 82) rfl)) Ab.choose_spec.1
  replace Xa := Xa.keep Kp; replace Fv := Fv.keep Kp (ninS nab nin0); replace Fc := Fc.keep Kp (ninS nab nin0); replace Fn := Fn.keep Kp (ninS nab nin0)
  replace G := G.pop 34 d27_33 rfl rfl
  replace G := G.goto 48 d27_34 (by decide) (by decide)
  replace G := G.aloadN 49 d27_48 rfl rfl rfl
  replace G := G.iloadN 50 d27_49 rfl rfl
  replace G := G.top (y := (.int (Int32.ofNat (bs ++ [dg N 7, dg N 6, dg N 5, dg N 4, dg N 3, dg N 2, dg N 1, dg N 0]).length))) (congrArg Value.int (by rw [List.length_append]; rfl))
  obtain ⟨h2, G', Ww, Fw, Kw⟩ := G.putf 53 (host := "") (Or.inl (hw _ (List.mem_of_getElem? (i := 119) rfl))) Via.refl Fn Xa (Or.inl (hw _ (List.mem_of_getElem? (i := 120) rfl))) (hw _ (List.mem_of_getElem? (i := 82) rfl)) (ty := .int) (by decide) rfl rfl (Or.inl (List.mem_of_getElem? (i := 0) rfl)) (List.mem_of_getElem? (i := 0) rfl) d27_50 rfl
  clear G; have G := G'; clear G'
  replace Fv := Fv.other Ww (Or.inr (slot_ne (Or.inl (hw _ (List.mem_of_getElem? (i := 96) rfl))) (Or.inl (hw _ (List.mem_of_getElem? (i := 120) rfl))) (by decide) (t := (.array .byte)) (t' := .int) (by decide) (by decide)))
  replace Fc := Fc.other Ww (Or.inr (slot_ne (Or.inl (hw _ (List.mem_of_getElem? (i := 98) rfl))) (Or.inl (hw _ (List.mem_of_getElem? (i := 120) rfl))) (by decide) (t := .byte) (t' := .int) (by decide) (by decide)))
  replace Xa := Xa.wr Ww; replace Ab1 := Ab1.keep Kw (ninS nab.symm nin0)
  replace G := G.aloadN 54 d27_53 rfl rfl rfl
  exact G.retA hret rfl rfl hlk d27_54 [] all0 ⟨_, rfl, rfl, ⟨Xa, Fv, Fc, Fw, kb, Ab1⟩, rfl⟩ (Nat.le_of_ble_eq_true rfl) (Nat.le_of_ble_eq_true rfl)
set_option maxRecDepth 65536 in
set_option maxHeartbeats 40000000 in
theorem c_appI8 (l : Launch) (Z : State) (a0 : Array Value) (hw : ∀ d ∈ tables_1, d.before a0 Z = true) (hEW : EW Z a0 consts_1) (n0 : Nat) (c1 : Int32) (hc1 : ¬ c1 = 0) (S1 : Sta Z Z.heap "java/lang/String" "COMPACT_STRINGS" "Z" (.int c1)) (v2 : Value) (hv2 : v2.isRef = true) (S2 : Sta Z Z.heap "jdk/internal/util/Preconditions" "SIOOBE_FORMATTER" "Ljava/util/function/BiFunction;" v2) (t1 t2 : Addr) (kt1 kt2 : ClassId) (SD1 : Sta Z Z.heap "java/lang/Integer" "DigitOnes" "[B" (.ref t1)) (SD2 : Sta Z Z.heap "java/lang/Integer" "DigitTens" "[B" (.ref t2)) (AD1 : Arv Z Z.heap t1 kt1 .byte 100 dOnes (.int 0)) (AD2 : Arv Z Z.heap t2 kt2 .byte 100 dTens (.int 0)) (a b : Addr) (cap : Nat) (bs : List Value) (N : Nat) {h0 : Heap} (o1 : Old Z n0 h0) (ge_a : n0 ≤ a) (ge_b : n0 ≤ b) (hlo : 10000000 ≤ N) (hhi : N < 100000000) (hle : bs.length + 8 ≤ cap) (hcap : cap < 2147483648) (hS : Sbd Z h0 a b cap bs) :
    Con Z a0 l (⟨"java/lang/StringBuilder", "append", "(I)Ljava/lang/StringBuilder;"⟩ : MethodName) jdk_67_method_15_code 2 (some (.object "java/lang/StringBuilder")) ({ frames := 2, cells := 0, slots := 0, locals := 33 } : Room) [] #[(.ref a), (.int (Int32.ofNat N))] consts_1 h0 n0 [a, b] [a, b] (VV fun w h so => w = .ref a ∧ Sbd Z h a b cap (bs ++ [dg N 7, dg N 6, dg N 5, dg N 4, dg N 3, dg N 2, dg N 1, dg N 0]) ∧ so = []) := by
  refine Con.body (plainFor_of_name pn_java_lang_StringBuilder) hEW o1 (allS ge_a (allS ge_b all0)) #[.val (.ref a), .val (.int (Int32.ofNat N))] (fun m => by first | (simp [entryFrame, mkF, argsToLocals, Value.category]; done) | rfl) ?_
  intro p e s m below meth c B hnm hret hlk G
  replace G := G.aloadN 1 d26_0 rfl rfl rfl
  replace G := G.iloadN 2 d26_1 rfl rfl
  obtain ⟨vp, h1, sop, G', Kp, Qp⟩ := G.callSup 5 (hw _ (List.mem_of_getElem? (i := 152) rfl)) (sameOf (hw _ (List.mem_of_getElem? (i := 153) rfl)) (nfVia (y := (⟨"java/lang/AbstractStringBuilder", "ensureCapacityInternal", "(I)V"⟩ : MethodName)) rfl (hw _ (List.mem_of_getElem? (i := 124) rfl)) (hw _ (List.mem_of_getElem? (i := 122) rfl))) (by decide)) (hw _ (List.mem_of_getElem? (i := 153) rfl)) (hw _ (List.mem_of_getElem? (i := 106) rfl)) (by decide) (hw _ (List.mem_of_getElem? (i := 91) rfl)) (hw _ (List.mem_of_getElem? (i := 155) rfl)) (Ins.self hS.1) [(.int (Int32.ofNat N))] [] rfl (c_asbI8 l Z a0 hw hEW n0 c1 hc1 S1 v2 hv2 S2 t1 t2 kt1 kt2 SD1 SD2 AD1 AD2 a b cap bs N G.old ge_a ge_b hlo hhi hle hcap hS) (lenOf pd__I_Ljava_lang_AbstractStringBuilder_ rfl) d26_2 rfl (Nat.le_of_ble_eq_true rfl) (Nat.le_of_ble_eq_true rfl) (Nat.le_of_ble_eq_true rfl) (Nat.le_of_ble_eq_true rfl) (allS (Or.inl (List.mem_of_getElem? (i := 0) rfl)) (allS (Or.inl (List.mem_of_getElem? (i := 1) rfl)) all0)) (allS (List.mem_of_getElem? (i := 0) rfl) (allS (List.mem_of_getElem? (i := 1) rfl) all0)) (allS (List.mem_of_getElem? (i := 0) rfl) (allS (List.mem_of_getElem? (i := 1) rfl) all0)) rfl
  clear G; have G := G'; clear G'
  obtain ⟨wp, qp, rfl, hS1, rfl⟩ := Qp
  replace G := G.val qp
  replace G := G.pop 6 d26_5 rfl rfl
  replace G := G.aloadN 7 d26_6 rfl rfl rfl
  exact G.retA hret rfl rfl hlk d26_7 [] all0 ⟨_, rfl, rfl, hS1, rfl⟩ (Nat.le_of_ble_eq_true rfl) (Nat.le_of_ble_eq_true rfl)
set_option maxRecDepth 65536 in
set_option maxHeartbeats 40000000 in
theorem c_size9 (l : Launch) (Z : State) (a0 : Array Value) (hw : ∀ d ∈ tables_1, d.before a0 Z = true) (hEW : EW Z a0 consts_1) (n0 : Nat) (c1 : Int32) (hc1 : ¬ c1 = 0) (S1 : Sta Z Z.heap "java/lang/String" "COMPACT_STRINGS" "Z" (.int c1)) (v2 : Value) (hv2 : v2.isRef = true) (S2 : Sta Z Z.heap "jdk/internal/util/Preconditions" "SIOOBE_FORMATTER" "Ljava/util/function/BiFunction;" v2) (N : Nat) {h0 : Heap} (o1 : Old Z n0 h0) (hlo : 100000000 ≤ N) (hhi : N < 1000000000)  :
    Con Z a0 l (⟨"java/lang/Integer", "stringSize", "(I)I"⟩ : MethodName) jdk_33_method_13_code 4 (some .int) ({ frames := 0, cells := 0, slots := 0, locals := 0 } : Room) [] #[(.int (Int32.ofNat N))] consts_1 h0 n0 [] [] (VV fun w h so => w = .int (9 : Int32) ∧ h = h0 ∧ so = []) := by
  refine Con.body (plainFor_of_name pn_java_lang_Integer) hEW o1 all0 #[.val (.int (Int32.ofNat N)), .unset, .unset, .unset] (fun m => by first | (simp [entryFrame, mkF, argsToLocals, Value.category]; done) | rfl) ?_
  intro p e s m below meth c B hnm hret hlk G
  have hN : N < 2147483648 := by omega
  replace G := G.iconst 1 (1 : Int32) d28_0 rfl rfl
  replace G := G.istoreN 2 #[.val (.int (Int32.ofNat N)), .val (.int (1 : Int32)), .unset, .unset] d28_1 rfl rfl
  replace G := G.iloadN 3 d28_2 rfl rfl
  replace G := G.ifF 6 d28_3 (XT.i0_lt_f (ofn_nn hN)) rfl
  replace G := G.iconst 7 (0 : Int32) d28_6 rfl rfl
  replace G := G.istoreN 8 #[.val (.int (Int32.ofNat N)), .val (.int (0 : Int32)), .unset, .unset] d28_7 rfl rfl
  replace G := G.iloadN 9 d28_8 rfl rfl
  replace G := G.ineg 10 d28_9 rfl
  replace G := G.istoreN 11 #[.val (.int (-(Int32.ofNat N))), .val (.int (0 : Int32)), .unset, .unset] d28_10 rfl rfl
  replace G := G.bipush 13 (-10 : Int32) d28_11 (by decide) rfl
  replace G := G.istoreN 14 #[.val (.int (-(Int32.ofNat N))), .val (.int (0 : Int32)), .val (.int (-10 : Int32)), .unset] d28_13 rfl rfl
  replace G := G.iconst 15 (1 : Int32) d28_14 rfl rfl
  replace G := G.istoreN 16 #[.val (.int (-(Int32.ofNat N))), .val (.int (0 : Int32)), .val (.int (-10 : Int32)), .val (.int (1 : Int32))] d28_15 rfl rfl
  replace G := G.iloadN 17 d28_16 rfl rfl
  replace G := G.bipush 19 (10 : Int32) d28_17 (by decide) rfl
  replace G := G.icmpF 22 d28_19 (XT.ii_ge_f (by decide)) rfl
  replace G := G.iloadN 23 d28_22 rfl rfl
  replace G := G.iloadN 24 d28_23 rfl rfl
  replace G := G.icmpT 31 d28_24 (XT.ii_le_t (ng_ngt (K := -10) hN rfl (by omega))) (by decide) (by decide)
  replace G := G.bipush 33 (10 : Int32) d28_31 (by decide) rfl
  replace G := G.iloadN 34 d28_33 rfl rfl
  replace G := G.imul 35 d28_34 rfl
  replace G := G.top (y := (.int (-100 : Int32))) (by decide)
  replace G := G.istoreN 36 #[.val (.int (-(Int32.ofNat N))), .val (.int (0 : Int32)), .val (.int (-100 : Int32)), .val (.int (1 : Int32))] d28_35 rfl rfl
  replace G := G.iincV 39 #[.val (.int (-(Int32.ofNat N))), .val (.int (0 : Int32)), .val (.int (-100 : Int32)), .val (.int (2 : Int32))] (2 : Int32) d28_36 rfl (by decide) rfl rfl
  replace G := G.goto 16 d28_39 (by decide) (by decide)
  replace G := G.iloadN 17 d28_16 rfl rfl
  replace G := G.bipush 19 (10 : Int32) d28_17 (by decide) rfl
  replace G := G.icmpF 22 d28_19 (XT.ii_ge_f (by decide)) rfl
  replace G := G.iloadN 23 d28_22 rfl rfl
  replace G := G.iloadN 24 d28_23 rfl rfl
  replace G := G.icmpT 31 d28_24 (XT.ii_le_t (ng_ngt (K := -100) hN rfl (by omega))) (by decide) (by decide)
  replace G := G.bipush 33 (10 : Int32) d28_31 (by decide) rfl
  replace G := G.iloadN 34 d28_33 rfl rfl
  replace G := G.imul 35 d28_34 rfl
  replace G := G.top (y := (.int (-1000 : Int32))) (by decide)
  replace G := G.istoreN 36 #[.val (.int (-(Int32.ofNat N))), .val (.int (0 : Int32)), .val (.int (-1000 : Int32)), .val (.int (2 : Int32))] d28_35 rfl rfl
  replace G := G.iincV 39 #[.val (.int (-(Int32.ofNat N))), .val (.int (0 : Int32)), .val (.int (-1000 : Int32)), .val (.int (3 : Int32))] (3 : Int32) d28_36 rfl (by decide) rfl rfl
  replace G := G.goto 16 d28_39 (by decide) (by decide)
  replace G := G.iloadN 17 d28_16 rfl rfl
  replace G := G.bipush 19 (10 : Int32) d28_17 (by decide) rfl
  replace G := G.icmpF 22 d28_19 (XT.ii_ge_f (by decide)) rfl
  replace G := G.iloadN 23 d28_22 rfl rfl
  replace G := G.iloadN 24 d28_23 rfl rfl
  replace G := G.icmpT 31 d28_24 (XT.ii_le_t (ng_ngt (K := -1000) hN rfl (by omega))) (by decide) (by decide)
  replace G := G.bipush 33 (10 : Int32) d28_31 (by decide) rfl
  replace G := G.iloadN 34 d28_33 rfl rfl
  replace G := G.imul 35 d28_34 rfl
  replace G := G.top (y := (.int (-10000 : Int32))) (by decide)
  replace G := G.istoreN 36 #[.val (.int (-(Int32.ofNat N))), .val (.int (0 : Int32)), .val (.int (-10000 : Int32)), .val (.int (3 : Int32))] d28_35 rfl rfl
  replace G := G.iincV 39 #[.val (.int (-(Int32.ofNat N))), .val (.int (0 : Int32)), .val (.int (-10000 : Int32)), .val (.int (4 : Int32))] (4 : Int32) d28_36 rfl (by decide) rfl rfl
  replace G := G.goto 16 d28_39 (by decide) (by decide)
  replace G := G.iloadN 17 d28_16 rfl rfl
  replace G := G.bipush 19 (10 : Int32) d28_17 (by decide) rfl
  replace G := G.icmpF 22 d28_19 (XT.ii_ge_f (by decide)) rfl
  replace G := G.iloadN 23 d28_22 rfl rfl
  replace G := G.iloadN 24 d28_23 rfl rfl
  replace G := G.icmpT 31 d28_24 (XT.ii_le_t (ng_ngt (K := -10000) hN rfl (by omega))) (by decide) (by decide)
  replace G := G.bipush 33 (10 : Int32) d28_31 (by decide) rfl
  replace G := G.iloadN 34 d28_33 rfl rfl
  replace G := G.imul 35 d28_34 rfl
  replace G := G.top (y := (.int (-100000 : Int32))) (by decide)
  replace G := G.istoreN 36 #[.val (.int (-(Int32.ofNat N))), .val (.int (0 : Int32)), .val (.int (-100000 : Int32)), .val (.int (4 : Int32))] d28_35 rfl rfl
  replace G := G.iincV 39 #[.val (.int (-(Int32.ofNat N))), .val (.int (0 : Int32)), .val (.int (-100000 : Int32)), .val (.int (5 : Int32))] (5 : Int32) d28_36 rfl (by decide) rfl rfl
  replace G := G.goto 16 d28_39 (by decide) (by decide)
  replace G := G.iloadN 17 d28_16 rfl rfl
  replace G := G.bipush 19 (10 : Int32) d28_17 (by decide) rfl
  replace G := G.icmpF 22 d28_19 (XT.ii_ge_f (by decide)) rfl
  replace G := G.iloadN 23 d28_22 rfl rfl
  replace G := G.iloadN 24 d28_23 rfl rfl
  replace G := G.icmpT 31 d28_24 (XT.ii_le_t (ng_ngt (K := -100000) hN rfl (by omega))) (by decide) (by decide)
  replace G := G.bipush 33 (10 : Int32) d28_31 (by decide) rfl
  replace G := G.iloadN 34 d28_33 rfl rfl
  replace G := G.imul 35 d28_34 rfl
  replace G := G.top (y := (.int (-1000000 : Int32))) (by decide)
  replace G := G.istoreN 36 #[.val (.int (-(Int32.ofNat N))), .val (.int (0 : Int32)), .val (.int (-1000000 : Int32)), .val (.int (5 : Int32))] d28_35 rfl rfl
  replace G := G.iincV 39 #[.val (.int (-(Int32.ofNat N))), .val (.int (0 : Int32)), .val (.int (-1000000 : Int32)), .val (.int (6 : Int32))] (6 : Int32) d28_36 rfl (by decide) rfl rfl
  replace G := G.goto 16 d28_39 (by decide) (by decide)
  replace G := G.iloadN 17 d28_16 rfl rfl
  replace G := G.bipush 19 (10 : Int32) d28_17 (by decide) rfl
  replace G := G.icmpF 22 d28_19 (XT.ii_ge_f (by decide)) rfl
  replace G := G.iloadN 23 d28_22 rfl rfl
  replace G := G.iloadN 24 d28_23 rfl rfl
  replace G := G.icmpT 31 d28_24 (XT.ii_le_t (ng_ngt (K := -1000000) hN rfl (by omega))) (by decide) (by decide)
  replace G := G.bipush 33 (10 : Int32) d28_31 (by decide) rfl
  replace G := G.iloadN 34 d28_33 rfl rfl
  replace G := G.imul 35 d28_34 rfl
  replace G := G.top (y := (.int (-10000000 : Int32))) (by decide)
  replace G := G.istoreN 36 #[.val (.int (-(Int32.ofNat N))), .val (.int (0 : Int32)), .val (.int (-10000000 : Int32)), .val (.int (6 : Int32))] d28_35 rfl rfl
  replace G := G.iincV 39 #[.val (.int (-(Int32.ofNat N))), .val (.int (0 : Int32)), .val (.int (-10000000 : Int32)), .val (.int (7 : Int32))] (7 : Int32) d28_36 rfl (by decide) rfl rfl
  replace G := G.goto 16 d28_39 (by decide) (by decide)
  replace G := G.iloadN 17 d28_16 rfl rfl
  replace G := G.bipush 19 (10 : Int32) d28_17 (by decide) rfl
  replace G := G.icmpF 22 d28_19 (XT.ii_ge_f (by decide)) rfl
  replace G := G.iloadN 23 d28_22 rfl rfl
  replace G := G.iloadN 24 d28_23 rfl rfl
  replace G := G.icmpT 31 d28_24 (XT.ii_le_t (ng_ngt (K := -10000000) hN rfl (by omega))) (by decide) (by decide)
  replace G := G.bipush 33 (10 : Int32) d28_31 (by decide) rfl
  replace G := G.iloadN 34 d28_33 rfl rfl
  replace G := G.imul 35 d28_34 rfl
  replace G := G.top (y := (.int (-100000000 : Int32))) (by decide)
  replace G := G.istoreN 36 #[.val (.int (-(Int32.ofNat N))), .val (.int (0 : Int32)), .val (.int (-100000000 : Int32)), .val (.int (7 : Int32))] d28_35 rfl rfl
  replace G := G.iincV 39 #[.val (.int (-(Int32.ofNat N))), .val (.int (0 : Int32)), .val (.int (-100000000 : Int32)), .val (.int (8 : Int32))] (8 : Int32) d28_36 rfl (by decide) rfl rfl
  replace G := G.goto 16 d28_39 (by decide) (by decide)
  replace G := G.iloadN 17 d28_16 rfl rfl
  replace G := G.bipush 19 (10 : Int32) d28_17 (by decide) rfl
  replace G := G.icmpF 22 d28_19 (XT.ii_ge_f (by decide)) rfl
  replace G := G.iloadN 23 d28_22 rfl rfl
  replace G := G.iloadN 24 d28_23 rfl rfl
  replace G := G.icmpT 31 d28_24 (XT.ii_le_t (ng_ngt (K := -100000000) hN rfl (by omega))) (by decide) (by decide)
  replace G := G.bipush 33 (10 : Int32) d28_31 (by decide) rfl
  replace G := G.iloadN 34 d28_33 rfl rfl
  replace G := G.imul 35 d28_34 rfl
  replace G := G.top (y := (.int (-1000000000 : Int32))) (by decide)
  replace G := G.istoreN 36 #[.val (.int (-(Int32.ofNat N))), .val (.int (0 : Int32)), .val (.int (-1000000000 : Int32)), .val (.int (8 : Int32))] d28_35 rfl rfl
  replace G := G.iincV 39 #[.val (.int (-(Int32.ofNat N))), .val (.int (0 : Int32)), .val (.int (-1000000000 : Int32)), .val (.int (9 : Int32))] (9 : Int32) d28_36 rfl (by decide) rfl rfl
  replace G := G.goto 16 d28_39 (by decide) (by decide)
  replace G := G.iloadN 17 d28_16 rfl rfl
  replace G := G.bipush 19 (10 : Int32) d28_17 (by decide) rfl
  replace G := G.icmpF 22 d28_19 (XT.ii_ge_f (by decide)) rfl
  replace G := G.iloadN 23 d28_22 rfl rfl
  replace G := G.iloadN 24 d28_23 rfl rfl
  replace G := G.icmpF 27 d28_24 (XT.ii_le_f (ng_gt (K := -1000000000) hN rfl (by omega))) rfl
  replace G := G.iloadN 28 d28_27 rfl rfl
  replace G := G.iloadN 29 d28_28 rfl rfl
  replace G := G.iadd 30 d28_29 rfl
  replace G := G.top (y := (.int (9 : Int32))) (by decide)
  exact G.retI hret hlk d28_30 [] all0 ⟨_, rfl, rfl, rfl, rfl⟩ (Nat.le_of_ble_eq_true rfl) (Nat.le_of_ble_eq_true rfl)
set_option maxRecDepth 65536 in
set_option maxHeartbeats 40000000 in
theorem c_getC9 (l : Launch) (Z : State) (a0 : Array Value) (hw : ∀ d ∈ tables_1, d.before a0 Z = true) (hEW : EW Z a0 consts_1) (n0 : Nat) (c1 : Int32) (hc1 : ¬ c1 = 0) (S1 : Sta Z Z.heap "java/lang/String" "COMPACT_STRINGS" "Z" (.int c1)) (v2 : Value) (hv2 : v2.isRef = true) (S2 : Sta Z Z.heap "jdk/internal/util/Preconditions" "SIOOBE_FORMATTER" "Ljava/util/function/BiFunction;" v2) (t1 t2 : Addr) (kt1 kt2 : ClassId) (SD1 : Sta Z Z.heap "java/lang/Integer" "DigitOnes" "[B" (.ref t1)) (SD2 : Sta Z Z.heap "java/lang/Integer" "DigitTens" "[B" (.ref t2)) (AD1 : Arv Z Z.heap t1 kt1 .byte 100 dOnes (.int 0)) (AD2 : Arv Z Z.heap t2 kt2 .byte 100 dTens (.int 0)) (b : Addr) (kb : ClassId) (cap : Nat) (bs : List Value) (N : Nat) {h0 : Heap} (o1 : Old Z n0 h0) (ge_b : n0 ≤ b) (hlo : 100000000 ≤ N) (hhi : N < 1000000000) (hle : bs.length + 9 ≤ cap) (hcap : cap < 2147483648) (Ab : Arv Z h0 b kb .byte (Int32.ofNat cap) bs (.int 0)) :
    Con Z a0 l (⟨"java/lang/Integer", "getChars", "(II[B)I"⟩ : MethodName) jdk_33_method_12_code 7 (some .int) ({ frames := 0, cells := 0, slots := 0, locals := 0 } : Room) [] #[(.int (Int32.ofNat N)), (.int (Int32.ofNat (bs.length + 9))), (.ref b)] consts_1 h0 n0 [b] [b] (VV fun w h so => w = .int (Int32.ofNat (bs.length + 0)) ∧ Arv Z h b kb .byte (Int32.ofNat cap) (bs ++ [dg N 8, dg N 7, dg N 6, dg N 5, dg N 4, dg N 3, dg N 2, dg N 1, dg N 0]) (.int 0) ∧ so = []) := by
  refine Con.body (plainFor_of_name pn_java_lang_Integer) hEW o1 (allS ge_b all0) #[.val (.int (Int32.ofNat N)), .val (.int (Int32.ofNat (bs.length + 9))), .val (.ref b), .unset, .unset, .unset, .unset] (fun m => by first | (simp [entryFrame, mkF, argsToLocals, Value.category]; done) | rfl) ?_
  intro p e s m below meth c B hnm hret hlk G
  have hN : N < 2147483648 := by omega
  have hn : bs.length < 2147483648 := by omega
  replace Ab := Ab.pad (vs' := bs ++ [(.int 0), (.int 0), (.int 0), (.int 0), (.int 0), (.int 0), (.int 0), (.int 0), (.int 0)]) (pad_rep bs (.int 0) 9)
  replace G := G.iloadN 1 d30_0 rfl rfl
  replace G := G.istore 3 #[.val (.int (Int32.ofNat N)), .val (.int (Int32.ofNat (bs.length + 9))), .val (.ref b), .unset, .unset, .val (.int (Int32.ofNat (bs.length + 9))), .unset] d30_1 rfl rfl
  replace G := G.iloadN 4 d30_3 rfl rfl
  replace G := G.ifT 11 d30_4 (XT.i0_ge_t (ofn_nn hN)) (by decide) (by decide)
  replace G := G.iconst 12 (0 : Int32) d30_11 rfl rfl
  replace G := G.istore 14 #[.val (.int (Int32.ofNat N)), .val (.int (Int32.ofNat (bs.length + 9))), .val (.ref b), .unset, .unset, .val (.int (Int32.ofNat (bs.length + 9))), .val (.int (0 : Int32))] d30_12 rfl rfl
  replace G := G.iload 16 d30_14 rfl rfl
  replace G := G.ifF 19 d30_16 (XT.i0_ne_f rfl) rfl
  replace G := G.iloadN 20 d30_19 rfl rfl
  replace G := G.ineg 21 d30_20 rfl
  replace G := G.istoreN 22 #[.val (.int (-(Int32.ofNat N))), .val (.int (Int32.ofNat (bs.length + 9))), .val (.ref b), .unset, .unset, .val (.int (Int32.ofNat (bs.length + 9))), .val (.int (0 : Int32))] d30_21 rfl rfl
  replace G := G.iloadN 23 d30_22 rfl rfl
  replace G := G.bipush 25 (-100 : Int32) d30_23 (by decide) rfl
  replace G := G.icmpF 28 d30_25 (XT.ii_gt_f (ng_ngt (K := -100) (by omega) rfl (by omega))) rfl
  replace G := G.iloadN 29 d30_28 rfl rfl
  replace G := G.bipush 31 (100 : Int32) d30_29 (by decide) rfl
  replace G := G.idiv 32 d30_31 (by decide) rfl
  replace G := G.top (y := (.int (-(Int32.ofNat (N / 100))))) (congrArg Value.int (ng_div (by omega)))
  replace G := G.istoreN 33 #[.val (.int (-(Int32.ofNat N))), .val (.int (Int32.ofNat (bs.length + 9))), .val (.ref b), .val (.int (-(Int32.ofNat (N / 100)))), .unset, .val (.int (Int32.ofNat (bs.length + 9))), .val (.int (0 : Int32))] d30_32 rfl rfl
  replace G := G.iloadN 34 d30_33 rfl rfl
  replace G := G.bipush 36 (100 : Int32) d30_34 (by decide) rfl
  replace G := G.imul 37 d30_36 rfl
  replace G := G.iloadN 38 d30_37 rfl rfl
  replace G := G.isub 39 d30_38 rfl
  replace G := G.top (y := (.int (Int32.ofNat (N % 100)))) (congrArg Value.int (ng_rem (by omega)))
  replace G := G.istore 41 #[.val (.int (-(Int32.ofNat N))), .val (.int (Int32.ofNat (bs.length + 9))), .val (.ref b), .val (.int (-(Int32.ofNat (N / 100)))), .val (.int (Int32.ofNat (N % 100))), .val (.int (Int32.ofNat (bs.length + 9))), .val (.int (0 : Int32))] d30_39 rfl rfl
  replace G := G.iloadN 42 d30_41 rfl rfl
  replace G := G.istoreN 43 #[.val (.int (-(Int32.ofNat (N / 100)))), .val (.int (Int32.ofNat (bs.length + 9))), .val (.ref b), .val (.int (-(Int32.ofNat (N / 100)))), .val (.int (Int32.ofNat (N % 100))), .val (.int (Int32.ofNat (bs.length + 9))), .val (.int (0 : Int32))] d30_42 rfl rfl
  replace G := G.aloadN 44 d30_43 rfl rfl rfl
  replace G := G.iincV 47 #[.val (.int (-(Int32.ofNat (N / 100)))), .val (.int (Int32.ofNat (bs.length + 9))), .val (.ref b), .val (.int (-(Int32.ofNat (N / 100)))), .val (.int (Int32.ofNat (N % 100))), .val (.int (Int32.ofNat (bs.length + 8))), .val (.int (0 : Int32))] (Int32.ofNat (bs.length + 8)) d30_44 rfl (ofn_pred (bs.length + 8)) rfl rfl
  replace G := G.iload 49 d30_47 rfl rfl
  replace G := G.gets 52 (host := "") (Or.inl (hw _ (List.mem_of_getElem? (i := 168) rfl))) Via.refl (G.sta SD1) d30_49 rfl
  replace G := G.iload 54 d30_52 rfl rfl
  replace G := G.baload 55 (v := (.int (Int32.ofNat (48 + N % 100 % 10)))) (AD1.ext G.old.2) ⟨ofn_nn (by omega), ofn_lt (n := 100) (by omega) (by decide)⟩ (by rw [ofn_nat (by omega)]; exact dOnes_at (by omega)) d30_54 rfl
  obtain ⟨g1, G', As, Ks⟩ := G.bastore 56 (bs.length + 8) Ab ⟨ofn_nn (by omega), ofn_lt (by omega) hcap⟩ (ofn_nat (by omega)) (by simp) (Or.inl (List.mem_of_getElem? (i := 0) rfl)) (List.mem_of_getElem? (i := 0) rfl) d30_55 rfl
  clear G; have G := G'; clear G'
  rw [set_app2 _ _ 8 _ _ rfl, dig_b (by omega)] at As
  replace Ab : Arv Z g1 b kb .byte (Int32.ofNat cap) (bs ++ [(.int 0), (.int 0), (.int 0), (.int 0), (.int 0), (.int 0), (.int 0), (.int 0), (.int (Int32.ofNat (48 + N % 100 % 10)))]) (.int 0) := As
  replace G := G.aloadN 57 d30_56 rfl rfl rfl
  replace G := G.iincV 60 #[.val (.int (-(Int32.ofNat (N / 100)))), .val (.int (Int32.ofNat (bs.length + 9))), .val (.ref b), .val (.int (-(Int32.ofNat (N / 100)))), .val (.int (Int32.ofNat (N % 100))), .val (.int (Int32.ofNat (bs.length + 7))), .val (.int (0 : Int32))] (Int32.ofNat (bs.length + 7)) d30_57 rfl (ofn_pred (bs.length + 7)) rfl rfl
  replace G := G.iload 62 d30_60 rfl rfl
  replace G := G.gets 65 (host := "") (Or.inl (hw _ (List.mem_of_getElem? (i := 242) rfl))) Via.refl (G.sta SD2) d30_62 rfl
  replace G := G.iload 67 d30_65 rfl rfl
  replace G := G.baload 68 (v := (.int (Int32.ofNat (48 + N % 100 / 10)))) (AD2.ext G.old.2) ⟨ofn_nn (by omega), ofn_lt (n := 100) (by omega) (by decide)⟩ (by rw [ofn_nat (by omega)]; exact dTens_at (by omega)) d30_67 rfl
  obtain ⟨g2, G', As, Ks⟩ := G.bastore 69 (bs.length + 7) Ab ⟨ofn_nn (by omega), ofn_lt (by omega) hcap⟩ (ofn_nat (by omega)) (by simp) (Or.inl (List.mem_of_getElem? (i := 0) rfl)) (List.mem_of_getElem? (i := 0) rfl) d30_68 rfl
  clear G; have G := G'; clear G'
  rw [set_app2 _ _ 7 _ _ rfl, dig_b (by omega)] at As
  replace Ab : Arv Z g2 b kb .byte (Int32.ofNat cap) (bs ++ [(.int 0), (.int 0), (.int 0), (.int 0), (.int 0), (.int 0), (.int 0), (.int (Int32.ofNat (48 + N % 100 / 10))), (.int (Int32.ofNat (48 + N % 100 % 10)))]) (.int 0) := As
  replace G := G.goto 22 d30_69 (by decide) (by decide)
  replace G := G.iloadN 23 d30_22 rfl rfl
  replace G := G.bipush 25 (-100 : Int32) d30_23 (by decide) rfl
  replace G := G.icmpF 28 d30_25 (XT.ii_gt_f (ng_ngt (K := -100) (by omega) rfl (by omega))) rfl
  replace G := G.iloadN 29 d30_28 rfl rfl
  replace G := G.bipush 31 (100 : Int32) d30_29 (by decide) rfl
  replace G := G.idiv 32 d30_31 (by decide) rfl
  replace G := G.top (y := (.int (-(Int32.ofNat (N / 100 / 100))))) (congrArg Value.int (ng_div (by omega)))
  replace G := G.istoreN 33 #[.val (.int (-(Int32.ofNat (N / 100)))), .val (.int (Int32.ofNat (bs.length + 9))), .val (.ref b), .val (.int (-(Int32.ofNat (N / 100 / 100)))), .val (.int (Int32.ofNat (N % 100))), .val (.int (Int32.ofNat (bs.length + 7))), .val (.int (0 : Int32))] d30_32 rfl rfl
  replace G := G.iloadN 34 d30_33 rfl rfl
  replace G := G.bipush 36 (100 : Int32) d30_34 (by decide) rfl
  replace G := G.imul 37 d30_36 rfl
  replace G := G.iloadN 38 d30_37 rfl rfl
  replace G := G.isub 39 d30_38 rfl
  replace G := G.top (y := (.int (Int32.ofNat (N / 100 % 100)))) (congrArg Value.int (ng_rem (by omega)))
  replace G := G.istore 41 #[.val (.int (-(Int32.ofNat (N / 100)))), .val (.int (Int32.ofNat (bs.length + 9))), .val (.ref b), .val (.int (-(Int32.ofNat (N / 100 / 100)))), .val (.int (Int32.ofNat (N / 100 % 100))), .val (.int (Int32.ofNat (bs.length + 7))), .val (.int (0 : Int32))] d30_39 rfl rfl
  replace G := G.iloadN 42 d30_41 rfl rfl
  replace G := G.istoreN 43 #[.val (.int (-(Int32.ofNat (N / 100 / 100)))), .val (.int (Int32.ofNat (bs.length + 9))), .val (.ref b), .val (.int (-(Int32.ofNat (N / 100 / 100)))), .val (.int (Int32.ofNat (N / 100 % 100))), .val (.int (Int32.ofNat (bs.length + 7))), .val (.int (0 : Int32))] d30_42 rfl rfl
  replace G := G.aloadN 44 d30_43 rfl rfl rfl
  replace G := G.iincV 47 #[.val (.int (-(Int32.ofNat (N / 100 / 100)))), .val (.int (Int32.ofNat (bs.length + 9))), .val (.ref b), .val (.int (-(Int32.ofNat (N / 100 / 100)))), .val (.int (Int32.ofNat (N / 100 % 100))), .val (.int (Int32.ofNat (bs.length + 6))), .val (.int (0 : Int32))] (Int32.ofNat (bs.length + 6)) d30_44 rfl (ofn_pred (bs.length + 6)) rfl rfl
  replace G := G.iload 49 d30_47 rfl rfl
  replace G := G.gets 52 (host := "") (Or.inl (hw _ (List.mem_of_getElem? (i := 168) rfl))) Via.refl (G.sta SD1) d30_49 rfl
  replace G := G.iload 54 d30_52 rfl rfl
  replace G := G.baload 55 (v := (.int (Int32.ofNat (48 + N / 100 % 100 % 10)))) (AD1.ext G.old.2) ⟨ofn_nn (by omega), ofn_lt (n := 100) (by omega) (by decide)⟩ (by rw [ofn_nat (by omega)]; exact dOnes_at (by omega)) d30_54 rfl
  obtain ⟨g3, G', As, Ks⟩ := G.bastore 56 (bs.length + 6) Ab ⟨ofn_nn (by omega), ofn_lt (by omega) hcap⟩ (ofn_nat (by omega)) (by simp) (Or.inl (List.mem_of_getElem? (i := 0) rfl)) (List.mem_of_getElem? (i := 0) rfl) d30_55 rfl
  clear G; have G := G'; clear G'
  rw [set_app2 _ _ 6 _ _ rfl, dig_b (by omega)] at As
  replace Ab : Arv Z g3 b kb .byte (Int32.ofNat cap) (bs ++ [(.int 0), (.int 0), (.int 0), (.int 0), (.int 0), (.int 0), (.int (Int32.ofNat (48 + N / 100 % 100 % 10))), (.int (Int32.ofNat (48 + N % 100 / 10))), (.int (Int32.ofNat (48 + N % 100 % 10)))]) (.int 0) := As
  replace G := G.aloadN 57 d30_56 rfl rfl rfl
  replace G := G.iincV 60 #[.val (.int (-(Int32.ofNat (N / 100 / 100)))), .val (.int (Int32.ofNat (bs.length + 9))), .val (.ref b), .val (.int (-(Int32.ofNat (N / 100 / 100)))), .val (.int (Int32.ofNat (N / 100 % 100))), .val (.int (Int32.ofNat (bs.length + 5))), .val (.int (0 : Int32))] (Int32.ofNat (bs.length + 5)) d30_57 rfl (ofn_pred (bs.length + 5)) rfl rfl
  replace G := G.iload 62 d30_60 rfl rfl
  replace G := G.gets 65 (host := "") (Or.inl (hw _ (List.mem_of_getElem? (i := 242) rfl))) Via.refl (G.sta SD2) d30_62 rfl
  replace G := G.iload 67 d30_65 rfl rfl
  replace G := G.baload 68 (v := (.int (Int32.ofNat (48 + N / 100 % 100 / 10)))) (AD2.ext G.old.2) ⟨ofn_nn (by omega), ofn_lt (n := 100) (by omega) (by decide)⟩ (by rw [ofn_nat (by omega)]; exact dTens_at (by omega)) d30_67 rfl
  obtain ⟨g4, G', As, Ks⟩ := G.bastore 69 (bs.length + 5) Ab ⟨ofn_nn (by omega), ofn_lt (by omega) hcap⟩ (ofn_nat (by omega)) (by simp) (Or.inl (List.mem_of_getElem? (i := 0) rfl)) (List.mem_of_getElem? (i := 0) rfl) d30_68 rfl
  clear G; have G := G'; clear G'
  rw [set_app2 _ _ 5 _ _ rfl, dig_b (by omega)] at As
  replace Ab : Arv Z g4 b kb .byte (Int32.ofNat cap) (bs ++ [(.int 0), (.int 0), (.int 0), (.int 0), (.int 0), (.int (Int32.ofNat (48 + N / 100 % 100 / 10))), (.int (Int32.ofNat (48 + N / 100 % 100 % 10))), (.int (Int32.ofNat (48 + N % 100 / 10))), (.int (Int32.ofNat (48 + N % 100 % 10)))]) (.int 0) := As
  replace G := G.goto 22 d30_69 (by decide) (by decide)
  replace G := G.iloadN 23 d30_22 rfl rfl
  replace G := G.bipush 25 (-100 : Int32) d30_23 (by decide) rfl
  replace G := G.icmpF 28 d30_25 (XT.ii_gt_f (ng_ngt (K := -100) (by omega) rfl (by omega))) rfl
  replace G := G.iloadN 29 d30_28 rfl rfl
  replace G := G.bipush 31 (100 : Int32) d30_29 (by decide) rfl
  replace G := G.idiv 32 d30_31 (by decide) rfl
  replace G := G.top (y := (.int (-(Int32.ofNat (N / 100 / 100 / 100))))) (congrArg Value.int (ng_div (by omega)))
  replace G := G.istoreN 33 #[.val (.int (-(Int32.ofNat (N / 100 / 100)))), .val (.int (Int32.ofNat (bs.length + 9))), .val (.ref b), .val (.int (-(Int32.ofNat (N / 100 / 100 / 100)))), .val (.int (Int32.ofNat (N / 100 % 100))), .val (.int (Int32.ofNat (bs.length + 5))), .val (.int (0 : Int32))] d30_32 rfl rfl
  replace G := G.iloadN 34 d30_33 rfl rfl
  replace G := G.bipush 36 (100 : Int32) d30_34 (by decide) rfl
  replace G := G.imul 37 d30_36 rfl
  replace G := G.iloadN 38 d30_37 rfl rfl
  replace G := G.isub 39 d30_38 rfl
  replace G := G.top (y := (.int (Int32.ofNat (N / 100 / 100 % 100)))) (congrArg Value.int (ng_rem (by omega)))
  replace G := G.istore 41 #[.val (.int (-(Int32.ofNat (N / 100 / 100)))), .val (.int (Int32.ofNat (bs.length + 9))), .val (.ref b), .val (.int (-(Int32.ofNat (N / 100 / 100 / 100)))), .val (.int (Int32.ofNat (N / 100 / 100 % 100))), .val (.int (Int32.ofNat (bs.length + 5))), .val (.int (0 : Int32))] d30_39 rfl rfl
  replace G := G.iloadN 42 d30_41 rfl rfl
  replace G := G.istoreN 43 #[.val (.int (-(Int32.ofNat (N / 100 / 100 / 100)))), .val (.int (Int32.ofNat (bs.length + 9))), .val (.ref b), .val (.int (-(Int32.ofNat (N / 100 / 100 / 100)))), .val (.int (Int32.ofNat (N / 100 / 100 % 100))), .val (.int (Int32.ofNat (bs.length + 5))), .val (.int (0 : Int32))] d30_42 rfl rfl
  replace G := G.aloadN 44 d30_43 rfl rfl rfl
  replace G := G.iincV 47 #[.val (.int (-(Int32.ofNat (N / 100 / 100 / 100)))), .val (.int (Int32.ofNat (bs.length + 9))), .val (.ref b), .val (.int (-(Int32.ofNat (N / 100 / 100 / 100)))), .val (.int (Int32.ofNat (N / 100 / 100 % 100))), .val (.int (Int32.ofNat (bs.length + 4))), .val (.int (0 : Int32))] (Int32.ofNat (bs.length + 4)) d30_44 rfl (ofn_pred (bs.length + 4)) rfl rfl
  replace G := G.iload 49 d30_47 rfl rfl
  replace G := G.gets 52 (host := "") (Or.inl (hw _ (List.mem_of_getElem? (i := 168) rfl))) Via.refl (G.sta SD1) d30_49 rfl
  replace G := G.iload 54 d30_52 rfl rfl
  replace G := G.baload 55 (v := (.int (Int32.ofNat (48 + N / 100 / 100 % 100 % 10)))) (AD1.ext G.old.2) ⟨ofn_nn (by omega), ofn_lt (n := 100) (by omega) (by decide)⟩ (by rw [ofn_nat (by omega)]; exact dOnes_at (by omega)) d30_54 rfl
  obtain ⟨g5, G', As, Ks⟩ := G.bastore 56 (bs.length + 4) Ab ⟨ofn_nn (by omega), ofn_lt (by omega) hcap⟩ (ofn_nat (by omega)) (by simp) (Or.inl (List.mem_of_getElem? (i := 0) rfl)) (List.mem_of_getElem? (i := 0) rfl) d30_55 rfl
  clear G; have G := G'; clear G'
  rw [set_app2 _ _ 4 _ _ rfl, dig_b (by omega)] at As
  replace Ab : Arv Z g5 b kb .byte (Int32.ofNat cap) (bs ++ [(.int 0), (.int 0), (.int 0), (.int 0), (.int (Int32.ofNat (48 + N / 100 / 100 % 100 % 10))), (.int (Int32.ofNat (48 + N / 100 % 100 / 10))), (.int (Int32.ofNat (48 + N / 100 % 100 % 10))), (.int (Int32.ofNat (48 + N % 100 / 10))), (.int (Int32.ofNat (48 + N % 100 % 10)))]) (.int 0) := As
  replace G := G.aloadN 57 d30_56 rfl rfl rfl
  replace G := G.iincV 60 #[.val (.int (-(Int32.ofNat (N / 100 / 100 / 100)))), .val (.int (Int32.ofNat (bs.length + 9))), .val (.ref b), .val (.int (-(Int32.ofNat (N / 100 / 100 / 100)))), .val (.int (Int32.ofNat (N / 100 / 100 % 100))), .val (.int (Int32.ofNat (bs.length + 3))), .val (.int (0 : Int32))] (Int32.ofNat (bs.length + 3)) d30_57 rfl (ofn_pred (bs.length + 3)) rfl rfl
  replace G := G.iload 62 d30_60 rfl rfl
  replace G := G.gets 65 (host := "") (Or.inl (hw _ (List.mem_of_getElem? (i := 242) rfl))) Via.refl (G.sta SD2) d30_62 rfl
  replace G := G.iload 67 d30_65 rfl rfl
  replace G := G.baload 68 (v := (.int (Int32.ofNat (48 + N / 100 / 100 % 100 / 10)))) (AD2.ext G.old.2) ⟨ofn_nn (by omega), ofn_lt (n := 100) (by omega) (by decide)⟩ (by rw [ofn_nat (by omega)]; exact dTens_at (by omega)) d30_67 rfl
  obtain ⟨g6, G', As, Ks⟩ := G.bastore 69 (bs.length + 3) Ab ⟨ofn_nn (by omega), ofn_lt (by omega) hcap⟩ (ofn_nat (by omega)) (by simp) (Or.inl (List.mem_of_getElem? (i := 0) rfl)) (List.mem_of_getElem? (i := 0) rfl) d30_68 rfl
  clear G; have G := G'; clear G'
  rw [set_app2 _ _ 3 _ _ rfl, dig_b (by omega)] at As
  replace Ab : Arv Z g6 b kb .byte (Int32.ofNat cap) (bs ++ [(.int 0), (.int 0), (.int 0), (.int (Int32.ofNat (48 + N / 100 / 100 % 100 / 10))), (.int (Int32.ofNat (48 + N / 100 / 100 % 100 % 10))), (.int (Int32.ofNat (48 + N / 100 % 100 / 10))), (.int (Int32.ofNat (48 + N / 100 % 100 % 10))), (.int (Int32.ofNat (48 + N % 100 / 10))), (.int (Int32.ofNat (48 + N % 100 % 10)))]) (.int 0) := As
  replace G := G.goto 22 d30_69 (by decide) (by decide)
  replace G := G.iloadN 23 d30_22 rfl rfl
  replace G := G.bipush 25 (-100 : Int32) d30_23 (by decide) rfl
  replace G := G.icmpF 28 d30_25 (XT.ii_gt_f (ng_ngt (K := -100) (by omega) rfl (by omega))) rfl
  replace G := G.iloadN 29 d30_28 rfl rfl
  replace G := G.bipush 31 (100 : Int32) d30_29 (by decide) rfl
  replace G := G.idiv 32 d30_31 (by decide) rfl
  replace G := G.top (y := (.int (-(Int32.ofNat (N / 100 / 100 / 100 / 100))))) (congrArg Value.int (ng_div (by omega)))
  replace G := G.istoreN 33 #[.val (.int (-(Int32.ofNat (N / 100 / 100 / 100)))), .val (.int (Int32.ofNat (bs.length + 9))), .val (.ref b), .val (.int (-(Int32.ofNat (N / 100 / 100 / 100 / 100)))), .val (.int (Int32.ofNat (N / 100 / 100 % 100))), .val (.int (Int32.ofNat (bs.length + 3))), .val (.int (0 : Int32))] d30_32 rfl rfl
  replace G := G.iloadN 34 d30_33 rfl rfl
  replace G := G.bipush 36 (100 : Int32) d30_34 (by decide) rfl
  replace G := G.imul 37 d30_36 rfl
  replace G := G.iloadN 38 d30_37 rfl rfl
  replace G := G.isub 39 d30_38 rfl
  replace G := G.top (y := (.int (Int32.ofNat (N / 100 / 100 / 100 % 100)))) (congrArg Value.int (ng_rem (by omega)))
  replace G := G.istore 41 #[.val (.int (-(Int32.ofNat (N / 100 / 100 / 100)))), .val (.int (Int32.ofNat (bs.length + 9))), .val (.ref b), .val (.int (-(Int32.ofNat (N / 100 / 100 / 100 / 100)))), .val (.int (Int32.ofNat (N / 100 / 100 / 100 % 100))), .val (.int (Int32.ofNat (bs.length + 3))), .val (.int (0 : Int32))] d30_39 rfl rfl
  replace G := G.iloadN 42 d30_41 rfl rfl
  replace G := G.istoreN 43 #[.val (.int (-(Int32.ofNat (N / 100 / 100 / 100 / 100)))), .val (.int (Int32.ofNat (bs.length + 9))), .val (.ref b), .val (.int (-(Int32.ofNat (N / 100 / 100 / 100 / 100)))), .val (.int (Int32.ofNat (N / 100 / 100 / 100 % 100))), .val (.int (Int32.ofNat (bs.length + 3))), .val (.int (0 : Int32))] d30_42 rfl rfl
  replace G := G.aloadN 44 d30_43 rfl rfl rfl
  replace G := G.iincV 47 #[.val (.int (-(Int32.ofNat (N / 100 / 100 / 100 / 100)))), .val (.int (Int32.ofNat (bs.length + 9))), .val (.ref b), .val (.int (-(Int32.ofNat (N / 100 / 100 / 100 / 100)))), .val (.int (Int32.ofNat (N / 100 / 100 / 100 % 100))), .val (.int (Int32.ofNat (bs.length + 2))), .val (.int (0 : Int32))] (Int32.ofNat (bs.length + 2)) d30_44 rfl (ofn_pred (bs.length + 2)) rfl rfl
  replace G := G.iload 49 d30_47 rfl rfl
  replace G := G.gets 52 (host := "") (Or.inl (hw _ (List.mem_of_getElem? (i := 168) rfl))) Via.refl (G.sta SD1) d30_49 rfl
  replace G := G.iload 54 d30_52 rfl rfl
  replace G := G.baload 55 (v := (.int (Int32.ofNat (48 + N / 100 / 100 / 100 % 100 % 10)))) (AD1.ext G.old.2) ⟨ofn_nn (by omega), ofn_lt (n := 100) (by omega) (by decide)⟩ (by rw [ofn_nat (by omega)]; exact dOnes_at (by omega)) d30_54 rfl
  obtain ⟨g7, G', As, Ks⟩ := G.bastore 56 (bs.length + 2) Ab ⟨ofn_nn (by omega), ofn_lt (by omega) hcap⟩ (ofn_nat (by omega)) (by simp) (Or.inl (List.mem_of_getElem? (i := 0) rfl)) (List.mem_of_getElem? (i := 0) rfl) d30_55 rfl
  clear G; have G := G'; clear G'
  rw [set_app2 _ _ 2 _ _ rfl, dig_b (by omega)] at As
  replace Ab : Arv Z g7 b kb .byte (Int32.ofNat cap) (bs ++ [(.int 0), (.int 0), (.int (Int32.ofNat (48 + N / 100 / 100 / 100 % 100 % 10))), (.int (Int32.ofNat (48 + N / 100 / 100 % 100 / 10))), (.int (Int32.ofNat (48 + N / 100 / 100 % 100 % 10))), (.int (Int32.ofNat (48 + N / 100 % 100 / 10))), (.int (Int32.ofNat (48 + N / 100 % 100 % 10))), (.int (Int32.ofNat (48 + N % 100 / 10))), (.int (Int32.ofNat (48 + N % 100 % 10)))]) (.int 0) := As
  replace G := G.aloadN 57 d30_56 rfl rfl rfl
  replace G := G.iincV 60 #[.val (.int (-(Int32.ofNat (N / 100 / 100 / 100 / 100)))), .val (.int (Int32.ofNat (bs.length + 9))), .val (.ref b), .val (.int (-(Int32.ofNat (N / 100 / 100 / 100 / 100)))), .val (.int (Int32.ofNat (N / 100 / 100 / 100 % 100))), .val (.int (Int32.ofNat (bs.length + 1))), .val (.int (0 : Int32))] (Int32.ofNat (bs.length + 1)) d30_57 rfl (ofn_pred (bs.length + 1)) rfl rfl
  replace G := G.iload 62 d30_60 rfl rfl
  replace G := G.gets 65 (host := "") (Or.inl (hw _ (List.mem_of_getElem? (i := 242) rfl))) Via.refl (G.sta SD2) d30_62 rfl
  replace G := G.iload 67 d30_65 rfl rfl
  replace G := G.baload 68 (v := (.int (Int32.ofNat (48 + N / 100 / 100 / 100 % 100 / 10)))) (AD2.ext G.old.2) ⟨ofn_nn (by omega), ofn_lt (n := 100) (by omega) (by decide)⟩ (by rw [ofn_nat (by omega)]; exact dTens_at (by omega)) d30_67 rfl
  obtain ⟨g8, G', As, Ks⟩ := G.bastore 69 (bs.length + 1) Ab ⟨ofn_nn (by omega), ofn_lt (by omega) hcap⟩ (ofn_nat (by omega)) (by simp) (Or.inl (List.mem_of_getElem? (i := 0) rfl)) (List.mem_of_getElem? (i := 0) rfl) d30_68 rfl
  clear G; have G := G'; clear G'
  rw [set_app2 _ _ 1 _ _ rfl, dig_b (by omega)] at As
  replace Ab : Arv Z g8 b kb .byte (Int32.ofNat cap) (bs ++ [(.int 0), (.int (Int32.ofNat (48 + N / 100 / 100 / 100 % 100 / 10))), (.int (Int32.ofNat (48 + N / 100 / 100 / 100 % 100 % 10))), (.int (Int32.ofNat (48 + N / 100 / 100 % 100 / 10))), (.int (Int32.ofNat (48 + N / 100 / 100 % 100 % 10))), (.int (Int32.ofNat (48 + N / 100 % 100 / 10))), (.int (Int32.ofNat (48 + N / 100 % 100 % 10))), (.int (Int32.ofNat (48 + N % 100 / 10))), (.int (Int32.ofNat (48 + N % 100 % 10)))]) (.int 0) := As
  replace G := G.goto 22 d30_69 (by decide) (by decide)
  replace G := G.iloadN 23 d30_22 rfl rfl
  replace G := G.bipush 25 (-100 : Int32) d30_23 (by decide) rfl
  replace G := G.icmpT 72 d30_25 (XT.ii_gt_t (ng_gt (K := -100) (by omega) rfl (by omega))) (by decide) (by decide)
  replace G := G.aloadN 73 d30_72 rfl rfl rfl
  replace G := G.iincV 76 #[.val (.int (-(Int32.ofNat (N / 100 / 100 / 100 / 100)))), .val (.int (Int32.ofNat (bs.length + 9))), .val (.ref b), .val (.int (-(Int32.ofNat (N / 100 / 100 / 100 / 100)))), .val (.int (Int32.ofNat (N / 100 / 100 / 100 % 100))), .val (.int (Int32.ofNat (bs.length + 0))), .val (.int (0 : Int32))] (Int32.ofNat (bs.length + 0)) d30_73 rfl (ofn_pred (bs.length + 0)) rfl rfl
  replace G := G.iload 78 d30_76 rfl rfl
  replace G := G.gets 81 (host := "") (Or.inl (hw _ (List.mem_of_getElem? (i := 168) rfl))) Via.refl (G.sta SD1) d30_78 rfl
  replace G := G.iloadN 82 d30_81 rfl rfl
  replace G := G.ineg 83 d30_82 rfl
  replace G := G.top (y := (.int (Int32.ofNat (N / 100 / 100 / 100 / 100)))) (congrArg Value.int Int32.neg_neg)
  replace G := G.baload 84 (v := (.int (Int32.ofNat (48 + (N / 100 / 100 / 100 / 100) % 10)))) (AD1.ext G.old.2) ⟨ofn_nn (by omega), ofn_lt (n := 100) (by omega) (by decide)⟩ (by rw [ofn_nat (by omega)]; exact dOnes_at (by omega)) d30_83 rfl
  obtain ⟨g9, G', As, Ks⟩ := G.bastore 85 (bs.length + 0) Ab ⟨ofn_nn (by omega), ofn_lt (by omega) hcap⟩ (ofn_nat (by omega)) (by simp) (Or.inl (List.mem_of_getElem? (i := 0) rfl)) (List.mem_of_getElem? (i := 0) rfl) d30_84 rfl
  clear G; have G := G'; clear G'
  rw [set_app2 _ _ 0 _ _ rfl, dig_b (by omega)] at As
  replace Ab : Arv Z g9 b kb .byte (Int32.ofNat cap) (bs ++ [(.int (Int32.ofNat (48 + (N / 100 / 100 / 100 / 100) % 10))), (.int (Int32.ofNat (48 + N / 100 / 100 / 100 % 100 / 10))), (.int (Int32.ofNat (48 + N / 100 / 100 / 100 % 100 % 10))), (.int (Int32.ofNat (48 + N / 100 / 100 % 100 / 10))), (.int (Int32.ofNat (48 + N / 100 / 100 % 100 % 10))), (.int (Int32.ofNat (48 + N / 100 % 100 / 10))), (.int (Int32.ofNat (48 + N / 100 % 100 % 10))), (.int (Int32.ofNat (48 + N % 100 / 10))), (.int (Int32.ofNat (48 + N % 100 % 10)))]) (.int 0) := As
  replace G := G.iloadN 86 d30_85 rfl rfl
  replace G := G.bipush 88 (-9 : Int32) d30_86 (by decide) rfl
  replace G := G.icmpT 104 d30_88 (XT.ii_ge_t (ng_nlt (K := -9) (by omega) rfl (by omega))) (by decide) (by decide)
  replace G := G.iload 106 d30_104 rfl rfl
  replace G := G.ifT 118 d30_106 (XT.i0_eq_t rfl) (by decide) (by decide)
  replace G := G.iload 120 d30_118 rfl rfl
  have hdg : ([(.int (Int32.ofNat (48 + (N / 100 / 100 / 100 / 100) % 10))), (.int (Int32.ofNat (48 + N / 100 / 100 / 100 % 100 / 10))), (.int (Int32.ofNat (48 + N / 100 / 100 / 100 % 100 % 10))), (.int (Int32.ofNat (48 + N / 100 / 100 % 100 / 10))), (.int (Int32.ofNat (48 + N / 100 / 100 % 100 % 10))), (.int (Int32.ofNat (48 + N / 100 % 100 / 10))), (.int (Int32.ofNat (48 + N / 100 % 100 % 10))), (.int (Int32.ofNat (48 + N % 100 / 10))), (.int (Int32.ofNat (48 + N % 100 % 10)))] : List Value) = [dg N 8, dg N 7, dg N 6, dg N 5, dg N 4, dg N 3, dg N 2, dg N 1, dg N 0] := by
    simp only [dg, List.cons.injEq, Value.int.injEq, and_true, Nat.reducePow]
    refine ⟨?_, ?_, ?_, ?_, ?_, ?_, ?_, ?_, ?_⟩ <;> first | trivial | (congr 2; omega)
  rw [hdg] at Ab
  exact G.retI hret hlk d30_120 [] all0 ⟨_, rfl, rfl, Ab, rfl⟩ (Nat.le_of_ble_eq_true rfl) (Nat.le_of_ble_eq_true rfl)
set_option maxRecDepth 65536 in
set_option maxHeartbeats 40000000 in
theorem c_asbI9 (l : Launch) (Z : State) (a0 : Array Value) (hw : ∀ d ∈ tables_1, d.before a0 Z = true) (hEW : EW Z a0 consts_1) (n0 : Nat) (c1 : Int32) (hc1 : ¬ c1 = 0) (S1 : Sta Z Z.heap "java/lang/String" "COMPACT_STRINGS" "Z" (.int c1)) (v2 : Value) (hv2 : v2.isRef = true) (S2 : Sta Z Z.heap "jdk/internal/util/Preconditions" "SIOOBE_FORMATTER" "Ljava/util/function/BiFunction;" v2) (t1 t2 : Addr) (kt1 kt2 : ClassId) (SD1 : Sta Z Z.heap "java/lang/Integer" "DigitOnes" "[B" (.ref t1)) (SD2 : Sta Z Z.heap "java/lang/Integer" "DigitTens" "[B" (.ref t2)) (AD1 : Arv Z Z.heap t1 kt1 .byte 100 dOnes (.int 0)) (AD2 : Arv Z Z.heap t2 kt2 .byte 100 dTens (.int 0)) (a b : Addr) (cap : Nat) (bs : List Value) (N : Nat) {h0 : Heap} (o1 : Old Z n0 h0) (ge_a : n0 ≤ a) (ge_b : n0 ≤ b) (hlo : 100000000 ≤ N) (hhi : N < 1000000000) (hle : bs.length + 9 ≤ cap) (hcap : cap < 2147483648) (hS : Sbd Z h0 a b cap bs) :
    Con Z a0 l (⟨"java/lang/AbstractStringBuilder", "append", "(I)Ljava/lang/AbstractStringBuilder;"⟩ : MethodName) jdk_68_method_32_code 4 (some (.object "java/lang/AbstractStringBuilder")) ({ frames := 1, cells := 0, slots := 0, locals := 18 } : Room) [] #[(.ref a), (.int (Int32.ofNat N))] consts_1 h0 n0 [a, b] [a, b] (VV fun w h so => w = .ref a ∧ Sbd Z h a b cap (bs ++ [dg N 8, dg N 7, dg N 6, dg N 5, dg N 4, dg N 3, dg N 2, dg N 1, dg N 0]) ∧ so = []) := by
  refine Con.body (plainFor_of_name pn_java_lang_AbstractStringBuilder) hEW o1 (allS ge_a (allS ge_b all0)) #[.val (.ref a), .val (.int (Int32.ofNat N)), .unset, .unset] (fun m => by first | (simp [entryFrame, mkF, argsToLocals, Value.category]; done) | rfl) ?_
  intro p e s m below meth c B hnm hret hlk G
  replace G := G.aloadN 1 d27_0 rfl rfl rfl
  replace G := G.getf 4 (host := "") (Or.inl (hw _ (List.mem_of_getElem? (i := 119) rfl))) Via.refl hS.2.2.2.1 d27_1 rfl
  replace G := G.istoreN 5 #[.val (.ref a), .val (.int (Int32.ofNat N)), .val (.int (Int32.ofNat bs.length)), .unset] d27_4 rfl rfl
  replace G := G.iloadN 6 d27_5 rfl rfl
  replace G := G.iloadN 7 d27_6 rfl rfl
  obtain ⟨vz, h_z, soz, G', Kz, Qz⟩ := G.callS 10 (hw _ (List.mem_of_getElem? (i := 156) rfl)) (hw _ (List.mem_of_getElem? (i := 157) rfl)) (hw _ (List.mem_of_getElem? (i := 158) rfl)) (hw _ (List.mem_of_getElem? (i := 159) rfl)) (by decide) [(.int (Int32.ofNat N))] [(.int (Int32.ofNat bs.length))] rfl (c_size9 l Z a0 hw hEW n0 c1 hc1 S1 v2 hv2 S2 N G.old hlo hhi) (lenOf pd__I_I rfl) d27_7 rfl (Nat.le_of_ble_eq_true rfl) (Nat.le_of_ble_eq_true rfl) (Nat.le_of_ble_eq_true rfl) (Nat.le_of_ble_eq_true rfl) all0 all0 all0 rfl
  clear G; have G := G'; clear G'
  obtain ⟨wz, qz, rfl, ez, rfl⟩ := Qz
  replace G := G.val qz
  subst ez
  replace G := G.iadd 11 d27_10 rfl
  replace G := G.top (y := (.int (Int32.ofNat (bs.length + 9)))) (congrArg Value.int (ofn_add bs.length 9))
  replace G := G.istoreN 12 #[.val (.ref a), .val (.int (Int32.ofNat N)), .val (.int (Int32.ofNat bs.length)), .val (.int (Int32.ofNat (bs.length + 9)))] d27_11 rfl rfl
  replace G := G.aloadN 13 d27_12 rfl rfl rfl
  replace G := G.iloadN 14 d27_13 rfl rfl
  obtain ⟨ve, h_e, soe, G', Ke, Qe⟩ := G.callV 17 (hw _ (List.mem_of_getElem? (i := 121) rfl)) (declOf (hw _ (List.mem_of_getElem? (i := 122) rfl)) (hw _ (List.mem_of_getElem? (i := 125) rfl))) (nfSel (hw _ (List.mem_of_getElem? (i := 124) rfl))) (hw _ (List.mem_of_getElem? (i := 124) rfl)) (hw _ (List.mem_of_getElem? (i := 122) rfl)) (hw _ (List.mem_of_getElem? (i := 91) rfl)) (hw _ (List.mem_of_getElem? (i := 125) rfl)) hS.1 (by decide) [(.int (Int32.ofNat (bs.length + 9)))] [] rfl (c_ensNG l Z a0 hw hEW n0 c1 hc1 S1 v2 hv2 S2 a b cap (bs.length + 9) bs G.old hle hcap hS) (lenOf pd__I_V rfl) d27_14 rfl (Nat.le_of_ble_eq_true rfl) (Nat.le_of_ble_eq_true rfl) (Nat.le_of_ble_eq_true rfl) (Nat.le_of_ble_eq_true rfl) all0 all0 all0 rfl
  clear G; have G := G'; clear G'
  obtain ⟨qe, ee, rfl⟩ := Qe
  replace G := G.nov qe
  subst ee
  replace G := G.aloadN 18 d27_17 rfl rfl rfl
  obtain ⟨vl, h_l, sol, G', Kl, Ql⟩ := G.callV 21 (hw _ (List.mem_of_getElem? (i := 160) rfl)) (hw _ (List.mem_of_getElem? (i := 161) rfl)) (nfSel (hw _ (List.mem_of_getElem? (i := 163) rfl))) (hw _ (List.mem_of_getElem? (i := 163) rfl)) (hw _ (List.mem_of_getElem? (i := 162) rfl)) (hw _ (List.mem_of_getElem? (i := 91) rfl)) (hw _ (List.mem_of_getElem? (i := 164) rfl)) hS.1 (by decide) [] [] rfl (c_isL1 l Z a0 hw hEW n0 c1 hc1 S1 v2 hv2 S2 a b cap bs G.old hS) (lenOf pd___Z rfl) d27_18 rfl (Nat.le_of_ble_eq_true rfl) (Nat.le_of_ble_eq_true rfl) (Nat.le_of_ble_eq_true rfl) (Nat.le_of_ble_eq_true rfl) all0 all0 all0 rfl
  clear G; have G := G'; clear G'
  obtain ⟨wl, ql, rfl, el, rfl⟩ := Ql
  replace G := G.val ql
  subst el
  replace G := G.ifF 24 d27_21 (XT.i0_eq_f (by decide)) rfl
  replace G := G.iloadN 25 d27_24 rfl rfl
  replace G := G.iloadN 26 d27_25 rfl rfl
  replace G := G.aloadN 27 d27_26 rfl rfl rfl
  replace G := G.getf 30 (host := "") (Or.inl (hw _ (List.mem_of_getElem? (i := 95) rfl))) Via.refl hS.2.1 d27_27 rfl
  obtain ⟨Xa, Fv, Fc, Fn, kb, Ab⟩ := hS
  obtain ⟨vp, h1, sop, G', Kp, Qp⟩ := G.callS 33 (hw _ (List.mem_of_getElem? (i := 165) rfl)) (hw _ (List.mem_of_getElem? (i := 166) rfl)) (hw _ (List.mem_of_getElem? (i := 158) rfl)) (hw _ (List.mem_of_getElem? (i := 167) rfl)) (by decide) [(.int (Int32.ofNat N)), (.int (Int32.ofNat (bs.length + 9))), (.ref b)] [] rfl (c_getC9 l Z a0 hw hEW n0 c1 hc1 S1 v2 hv2 S2 t1 t2 kt1 kt2 SD1 SD2 AD1 AD2 b kb cap bs N G.old ge_b hlo hhi hle hcap Ab) (lenOf pd__II_B_I rfl) d27_30 rfl (Nat.le_of_ble_eq_true rfl) (Nat.le_of_ble_eq_true rfl) (Nat.le_of_ble_eq_true rfl) (Nat.le_of_ble_eq_true rfl) (allS (Or.inl (List.mem_of_getElem? (i := 1) rfl)) all0) (allS (List.mem_of_getElem? (i := 1) rfl) all0) (allS (List.mem_of_getElem? (i := 1) rfl) all0) rfl
  clear G; have G := G'; clear G'
  obtain ⟨wp, qp, rfl, Ab1, rfl⟩ := Qp
  replace G := G.val qp
  have nab : a ≠ b := ne_arr Xa (hw _ (List.mem_of_getElem? (i := 82) rfl)) Ab.choose_spec.1
  replace Xa := Xa.keep Kp; replace Fv := Fv.keep Kp (ninS nab nin0); replace Fc := Fc.keep Kp (ninS nab nin0); replace Fn := Fn.keep Kp (ninS nab nin0)
  replace G := G.pop 34 d27_33 rfl rfl
  replace G := G.goto 48 d27_34 (by decide) (by decide)
  replace G := G.aloadN 49 d27_48 rfl rfl rfl
  replace G := G.iloadN 50 d27_49 rfl rfl
  replace G := G.top (y := (.int (Int32.ofNat (bs ++ [dg N 8, dg N 7, dg N 6, dg N 5, dg N 4, dg N 3, dg N 2, dg N 1, dg N 0]).length))) (congrArg Value.int (by rw [List.length_append]; rfl))
  obtain ⟨h2, G', Ww, Fw, Kw⟩ := G.putf 53 (host := "") (Or.inl (hw _ (List.mem_of_getElem? (i := 119) rfl))) Via.refl Fn Xa (Or.inl (hw _ (List.mem_of_getElem? (i := 120) rfl))) (hw _ (List.mem_of_getElem? (i := 82) rfl)) (ty := .int) (by decide) rfl rfl (Or.inl (List.mem_of_getElem? (i := 0) rfl)) (List.mem_of_getElem? (i := 0) rfl) d27_50 rfl
  clear G; have G := G'; clear G'
  replace Fv := Fv.other Ww (Or.inr (slot_ne (Or.inl (hw _ (List.mem_of_getElem? (i := 96) rfl))) (Or.inl (hw _ (List.mem_of_getElem? (i := 120) rfl))) (by decide) (t := (.array .byte)) (t' := .int) (by decide) (by decide)))
  replace Fc := Fc.other Ww (Or.inr (slot_ne (Or.inl (hw _ (List.mem_of_getElem? (i := 98) rfl))) (Or.inl (hw _ (List.mem_of_getElem? (i := 120) rfl))) (by decide) (t := .byte) (t' := .int) (by decide) (by decide)))
  replace Xa := Xa.wr Ww; replace Ab1 := Ab1.keep Kw (ninS nab.symm nin0)
  replace G := G.aloadN 54 d27_53 rfl rfl rfl
  exact G.retA hret rfl rfl hlk d27_54 [] all0 ⟨_, rfl, rfl, ⟨Xa, Fv, Fc, Fw, kb, Ab1⟩, rfl⟩ (Nat.le_of_ble_eq_true rfl) (Nat.le_of_ble_eq_true rfl)
set_option maxRecDepth 65536 in
set_option maxHeartbeats 40000000 in
theorem c_appI9 (l : Launch) (Z : State) (a0 : Array Value) (hw : ∀ d ∈ tables_1, d.before a0 Z = true) (hEW : EW Z a0 consts_1) (n0 : Nat) (c1 : Int32) (hc1 : ¬ c1 = 0) (S1 : Sta Z Z.heap "java/lang/String" "COMPACT_STRINGS" "Z" (.int c1)) (v2 : Value) (hv2 : v2.isRef = true) (S2 : Sta Z Z.heap "jdk/internal/util/Preconditions" "SIOOBE_FORMATTER" "Ljava/util/function/BiFunction;" v2) (t1 t2 : Addr) (kt1 kt2 : ClassId) (SD1 : Sta Z Z.heap "java/lang/Integer" "DigitOnes" "[B" (.ref t1)) (SD2 : Sta Z Z.heap "java/lang/Integer" "DigitTens" "[B" (.ref t2)) (AD1 : Arv Z Z.heap t1 kt1 .byte 100 dOnes (.int 0)) (AD2 : Arv Z Z.heap t2 kt2 .byte 100 dTens (.int 0)) (a b : Addr) (cap : Nat) (bs : List Value) (N : Nat) {h0 : Heap} (o1 : Old Z n0 h0) (ge_a : n0 ≤ a) (ge_b : n0 ≤ b) (hlo : 100000000 ≤ N) (hhi : N < 1000000000) (hle : bs.length + 9 ≤ cap) (hcap : cap < 2147483648) (hS : Sbd Z h0 a b cap bs) :
    Con Z a0 l (⟨"java/lang/StringBuilder", "append", "(I)Ljava/lang/StringBuilder;"⟩ : MethodName) jdk_67_method_15_code 2 (some (.object "java/lang/StringBuilder")) ({ frames := 2, cells := 0, slots := 0, locals := 33 } : Room) [] #[(.ref a), (.int (Int32.ofNat N))] consts_1 h0 n0 [a, b] [a, b] (VV fun w h so => w = .ref a ∧ Sbd Z h a b cap (bs ++ [dg N 8, dg N 7, dg N 6, dg N 5, dg N 4, dg N 3, dg N 2, dg N 1, dg N 0]) ∧ so = []) := by
  refine Con.body (plainFor_of_name pn_java_lang_StringBuilder) hEW o1 (allS ge_a (allS ge_b all0)) #[.val (.ref a), .val (.int (Int32.ofNat N))] (fun m => by first | (simp [entryFrame, mkF, argsToLocals, Value.category]; done) | rfl) ?_
  intro p e s m below meth c B hnm hret hlk G
  replace G := G.aloadN 1 d26_0 rfl rfl rfl
  replace G := G.iloadN 2 d26_1 rfl rfl
  obtain ⟨vp, h1, sop, G', Kp, Qp⟩ := G.callSup 5 (hw _ (List.mem_of_getElem? (i := 152) rfl)) (sameOf (hw _ (List.mem_of_getElem? (i := 153) rfl)) (nfVia (y := (⟨"java/lang/AbstractStringBuilder", "ensureCapacityInternal", "(I)V"⟩ : MethodName)) rfl (hw _ (List.mem_of_getElem? (i := 124) rfl)) (hw _ (List.mem_of_getElem? (i := 122) rfl))) (by decide)) (hw _ (List.mem_of_getElem? (i := 153) rfl)) (hw _ (List.mem_of_getElem? (i := 106) rfl)) (by decide) (hw _ (List.mem_of_getElem? (i := 91) rfl)) (hw _ (List.mem_of_getElem? (i := 155) rfl)) (Ins.self hS.1) [(.int (Int32.ofNat N))] [] rfl (c_asbI9 l Z a0 hw hEW n0 c1 hc1 S1 v2 hv2 S2 t1 t2 kt1 kt2 SD1 SD2 AD1 AD2 a b cap bs N G.old ge_a ge_b hlo hhi hle hcap hS) (lenOf pd__I_Ljava_lang_AbstractStringBuilder_ rfl) d26_2 rfl (Nat.le_of_ble_eq_true rfl) (Nat.le_of_ble_eq_true rfl) (Nat.le_of_ble_eq_true rfl) (Nat.le_of_ble_eq_true rfl) (allS (Or.inl (List.mem_of_getElem? (i := 0) rfl)) (allS (Or.inl (List.mem_of_getElem? (i := 1) rfl)) all0)) (allS (List.mem_of_getElem? (i := 0) rfl) (allS (List.mem_of_getElem? (i := 1) rfl) all0)) (allS (List.mem_of_getElem? (i := 0) rfl) (allS (List.mem_of_getElem? (i := 1) rfl) all0)) rfl
  clear G; have G := G'; clear G'
  obtain ⟨wp, qp, rfl, hS1, rfl⟩ := Qp
  replace G := G.val qp
  replace G := G.pop 6 d26_5 rfl rfl
  replace G := G.aloadN 7 d26_6 rfl rfl rfl
  exact G.retA hret rfl rfl hlk d26_7 [] all0 ⟨_, rfl, rfl, hS1, rfl⟩ (Nat.le_of_ble_eq_true rfl) (Nat.le_of_ble_eq_true rfl)
set_option maxRecDepth 65536 in
set_option maxHeartbeats 40000000 in
theorem c_size10 (l : Launch) (Z : State) (a0 : Array Value) (hw : ∀ d ∈ tables_1, d.before a0 Z = true) (hEW : EW Z a0 consts_1) (n0 : Nat) (c1 : Int32) (hc1 : ¬ c1 = 0) (S1 : Sta Z Z.heap "java/lang/String" "COMPACT_STRINGS" "Z" (.int c1)) (v2 : Value) (hv2 : v2.isRef = true) (S2 : Sta Z Z.heap "jdk/internal/util/Preconditions" "SIOOBE_FORMATTER" "Ljava/util/function/BiFunction;" v2) (N : Nat) {h0 : Heap} (o1 : Old Z n0 h0) (hlo : 1000000000 ≤ N) (hhi : N < 2147483648)  :
    Con Z a0 l (⟨"java/lang/Integer", "stringSize", "(I)I"⟩ : MethodName) jdk_33_method_13_code 4 (some .int) ({ frames := 0, cells := 0, slots := 0, locals := 0 } : Room) [] #[(.int (Int32.ofNat N))] consts_1 h0 n0 [] [] (VV fun w h so => w = .int (10 : Int32) ∧ h = h0 ∧ so = []) := by
  refine Con.body (plainFor_of_name pn_java_lang_Integer) hEW o1 all0 #[.val (.int (Int32.ofNat N)), .unset, .unset, .unset] (fun m => by first | (simp [entryFrame, mkF, argsToLocals, Value.category]; done) | rfl) ?_
  intro p e s m below meth c B hnm hret hlk G
  have hN : N < 2147483648 := by omega
  replace G := G.iconst 1 (1 : Int32) d28_0 rfl rfl
  replace G := G.istoreN 2 #[.val (.int (Int32.ofNat N)), .val (.int (1 : Int32)), .unset, .unset] d28_1 rfl rfl
  replace G := G.iloadN 3 d28_2 rfl rfl
  replace G := G.ifF 6 d28_3 (XT.i0_lt_f (ofn_nn hN)) rfl
  replace G := G.iconst 7 (0 : Int32) d28_6 rfl rfl
  replace G := G.istoreN 8 #[.val (.int (Int32.ofNat N)), .val (.int (0 : Int32)), .unset, .unset] d28_7 rfl rfl
  replace G := G.iloadN 9 d28_8 rfl rfl
  replace G := G.ineg 10 d28_9 rfl
  replace G := G.istoreN 11 #[.val (.int (-(Int32.ofNat N))), .val (.int (0 : Int32)), .unset, .unset] d28_10 rfl rfl
  replace G := G.bipush 13 (-10 : Int32) d28_11 (by decide) rfl
  replace G := G.istoreN 14 #[.val (.int (-(Int32.ofNat N))), .val (.int (0 : Int32)), .val (.int (-10 : Int32)), .unset] d28_13 rfl rfl
  replace G := G.iconst 15 (1 : Int32) d28_14 rfl rfl
  replace G := G.istoreN 16 #[.val (.int (-(Int32.ofNat N))), .val (.int (0 : Int32)), .val (.int (-10 : Int32)), .val (.int (1 : Int32))] d28_15 rfl rfl
  replace G := G.iloadN 17 d28_16 rfl rfl
  replace G := G.bipush 19 (10 : Int32) d28_17 (by decide) rfl
  replace G := G.icmpF 22 d28_19 (XT.ii_ge_f (by decide)) rfl
  replace G := G.iloadN 23 d28_22 rfl rfl
  replace G := G.iloadN 24 d28_23 rfl rfl
  replace G := G.icmpT 31 d28_24 (XT.ii_le_t (ng_ngt (K := -10) hN rfl (by omega))) (by decide) (by decide)
  replace G := G.bipush 33 (10 : Int32) d28_31 (by decide) rfl
  replace G := G.iloadN 34 d28_33 rfl rfl
  replace G := G.imul 35 d28_34 rfl
  replace G := G.top (y := (.int (-100 : Int32))) (by decide)
  replace G := G.istoreN 36 #[.val (.int (-(Int32.ofNat N))), .val (.int (0 : Int32)), .val (.int (-100 : Int32)), .val (.int (1 : Int32))] d28_35 rfl rfl
  replace G := G.iincV 39 #[.val (.int (-(Int32.ofNat N))), .val (.int (0 : Int32)), .val (.int (-100 : Int32)), .val (.int (2 : Int32))] (2 : Int32) d28_36 rfl (by decide) rfl rfl
  replace G := G.goto 16 d28_39 (by decide) (by decide)
  replace G := G.iloadN 17 d28_16 rfl rfl
  replace G := G.bipush 19 (10 : Int32) d28_17 (by decide) rfl
  replace G := G.icmpF 22 d28_19 (XT.ii_ge_f (by decide)) rfl
  replace G := G.iloadN 23 d28_22 rfl rfl
  replace G := G.iloadN 24 d28_23 rfl rfl
  replace G := G.icmpT 31 d28_24 (XT.ii_le_t (ng_ngt (K := -100) hN rfl (by omega))) (by decide) (by decide)
  replace G := G.bipush 33 (10 : Int32) d28_31 (by decide) rfl
  replace G := G.iloadN 34 d28_33 rfl rfl
  replace G := G.imul 35 d28_34 rfl
  replace G := G.top (y := (.int (-1000 : Int32))) (by decide)
  replace G := G.istoreN 36 #[.val (.int (-(Int32.ofNat N))), .val (.int (0 : Int32)), .val (.int (-1000 : Int32)), .val (.int (2 : Int32))] d28_35 rfl rfl
  replace G := G.iincV 39 #[.val (.int (-(Int32.ofNat N))), .val (.int (0 : Int32)), .val (.int (-1000 : Int32)), .val (.int (3 : Int32))] (3 : Int32) d28_36 rfl (by decide) rfl rfl
  replace G := G.goto 16 d28_39 (by decide) (by decide)
  replace G := G.iloadN 17 d28_16 rfl rfl
  replace G := G.bipush 19 (10 : Int32) d28_17 (by decide) rfl
  replace G := G.icmpF 22 d28_19 (XT.ii_ge_f (by decide)) rfl
  replace G := G.iloadN 23 d28_22 rfl rfl
  replace G := G.iloadN 24 d28_23 rfl rfl
  replace G := G.icmpT 31 d28_24 (XT.ii_le_t (ng_ngt (K := -1000) hN rfl (by omega))) (by decide) (by decide)
  replace G := G.bipush 33 (10 : Int32) d28_31 (by decide) rfl
  replace G := G.iloadN 34 d28_33 rfl rfl
  replace G := G.imul 35 d28_34 rfl
  replace G := G.top (y := (.int (-10000 : Int32))) (by decide)
  replace G := G.istoreN 36 #[.val (.int (-(Int32.ofNat N))), .val (.int (0 : Int32)), .val (.int (-10000 : Int32)), .val (.int (3 : Int32))] d28_35 rfl rfl
  replace G := G.iincV 39 #[.val (.int (-(Int32.ofNat N))), .val (.int (0 : Int32)), .val (.int (-10000 : Int32)), .val (.int (4 : Int32))] (4 : Int32) d28_36 rfl (by decide) rfl rfl
  replace G := G.goto 16 d28_39 (by decide) (by decide)
  replace G := G.iloadN 17 d28_16 rfl rfl
  replace G := G.bipush 19 (10 : Int32) d28_17 (by decide) rfl
  replace G := G.icmpF 22 d28_19 (XT.ii_ge_f (by decide)) rfl
  replace G := G.iloadN 23 d28_22 rfl rfl
  replace G := G.iloadN 24 d28_23 rfl rfl
  replace G := G.icmpT 31 d28_24 (XT.ii_le_t (ng_ngt (K := -10000) hN rfl (by omega))) (by decide) (by decide)
  replace G := G.bipush 33 (10 : Int32) d28_31 (by decide) rfl
  replace G := G.iloadN 34 d28_33 rfl rfl
  replace G := G.imul 35 d28_34 rfl
  replace G := G.top (y := (.int (-100000 : Int32))) (by decide)
  replace G := G.istoreN 36 #[.val (.int (-(Int32.ofNat N))), .val (.int (0 : Int32)), .val (.int (-100000 : Int32)), .val (.int (4 : Int32))] d28_35 rfl rfl
  replace G := G.iincV 39 #[.val (.int (-(Int32.ofNat N))), .val (.int (0 : Int32)), .val (.int (-100000 : Int32)), .val (.int (5 : Int32))] (5 : Int32) d28_36 rfl (by decide) rfl rfl
  replace G := G.goto 16 d28_39 (by decide) (by decide)
  replace G := G.iloadN 17 d28_16 rfl rfl
  replace G := G.bipush 19 (10 : Int32) d28_17 (by decide) rfl
  replace G := G.icmpF 22 d28_19 (XT.ii_ge_f (by decide)) rfl
  replace G := G.iloadN 23 d28_22 rfl rfl
  replace G := G.iloadN 24 d28_23 rfl rfl
  replace G := G.icmpT 31 d28_24 (XT.ii_le_t (ng_ngt (K := -100000) hN rfl (by omega))) (by decide) (by decide)
  replace G := G.bipush 33 (10 : Int32) d28_31 (by decide) rfl
  replace G := G.iloadN 34 d28_33 rfl rfl
  replace G := G.imul 35 d28_34 rfl
  replace G := G.top (y := (.int (-1000000 : Int32))) (by decide)
  replace G := G.istoreN 36 #[.val (.int (-(Int32.ofNat N))), .val (.int (0 : Int32)), .val (.int (-1000000 : Int32)), .val (.int (5 : Int32))] d28_35 rfl rfl
  replace G := G.iincV 39 #[.val (.int (-(Int32.ofNat N))), .val (.int (0 : Int32)), .val (.int (-1000000 : Int32)), .val (.int (6 : Int32))] (6 : Int32) d28_36 rfl (by decide) rfl rfl
  replace G := G.goto 16 d28_39 (by decide) (by decide)
  replace G := G.iloadN 17 d28_16 rfl rfl
  replace G := G.bipush 19 (10 : Int32) d28_17 (by decide) rfl
  replace G := G.icmpF 22 d28_19 (XT.ii_ge_f (by decide)) rfl
  replace G := G.iloadN 23 d28_22 rfl rfl
  replace G := G.iloadN 24 d28_23 rfl rfl
  replace G := G.icmpT 31 d28_24 (XT.ii_le_t (ng_ngt (K := -1000000) hN rfl (by omega))) (by decide) (by decide)
  replace G := G.bipush 33 (10 : Int32) d28_31 (by decide) rfl
  replace G := G.iloadN 34 d28_33 rfl rfl
  replace G := G.imul 35 d28_34 rfl
  replace G := G.top (y := (.int (-10000000 : Int32))) (by decide)
  replace G := G.istoreN 36 #[.val (.int (-(Int32.ofNat N))), .val (.int (0 : Int32)), .val (.int (-10000000 : Int32)), .val (.int (6 : Int32))] d28_35 rfl rfl
  replace G := G.iincV 39 #[.val (.int (-(Int32.ofNat N))), .val (.int (0 : Int32)), .val (.int (-10000000 : Int32)), .val (.int (7 : Int32))] (7 : Int32) d28_36 rfl (by decide) rfl rfl
  replace G := G.goto 16 d28_39 (by decide) (by decide)
  replace G := G.iloadN 17 d28_16 rfl rfl
  replace G := G.bipush 19 (10 : Int32) d28_17 (by decide) rfl
  replace G := G.icmpF 22 d28_19 (XT.ii_ge_f (by decide)) rfl
  replace G := G.iloadN 23 d28_22 rfl rfl
  replace G := G.iloadN 24 d28_23 rfl rfl
  replace G := G.icmpT 31 d28_24 (XT.ii_le_t (ng_ngt (K := -10000000) hN rfl (by omega))) (by decide) (by decide)
  replace G := G.bipush 33 (10 : Int32) d28_31 (by decide) rfl
  replace G := G.iloadN 34 d28_33 rfl rfl
  replace G := G.imul 35 d28_34 rfl
  replace G := G.top (y := (.int (-100000000 : Int32))) (by decide)
  replace G := G.istoreN 36 #[.val (.int (-(Int32.ofNat N))), .val (.int (0 : Int32)), .val (.int (-100000000 : Int32)), .val (.int (7 : Int32))] d28_35 rfl rfl
  replace G := G.iincV 39 #[.val (.int (-(Int32.ofNat N))), .val (.int (0 : Int32)), .val (.int (-100000000 : Int32)), .val (.int (8 : Int32))] (8 : Int32) d28_36 rfl (by decide) rfl rfl
  replace G := G.goto 16 d28_39 (by decide) (by decide)
  replace G := G.iloadN 17 d28_16 rfl rfl
  replace G := G.bipush 19 (10 : Int32) d28_17 (by decide) rfl
  replace G := G.icmpF 22 d28_19 (XT.ii_ge_f (by decide)) rfl
  replace G := G.iloadN 23 d28_22 rfl rfl
  replace G := G.iloadN 24 d28_23 rfl rfl
  replace G := G.icmpT 31 d28_24 (XT.ii_le_t (ng_ngt (K := -100000000) hN rfl (by omega))) (by decide) (by decide)
  replace G := G.bipush 33 (10 : Int32) d28_31 (by decide) rfl
  replace G := G.iloadN 34 d28_33 rfl rfl
  replace G := G.imul 35 d28_34 rfl
  replace G := G.top (y := (.int (-1000000000 : Int32))) (by decide)
  replace G := G.istoreN 36 #[.val (.int (-(Int32.ofNat N))), .val (.int (0 : Int32)), .val (.int (-1000000000 : Int32)), .val (.int (8 : Int32))] d28_35 rfl rfl
  replace G := G.iincV 39 #[.val (.int (-(Int32.ofNat N))), .val (.int (0 : Int32)), .val (.int (-1000000000 : Int32)), .val (.int (9 : Int32))] (9 : Int32) d28_36 rfl (by decide) rfl rfl
  replace G := G.goto 16 d28_39 (by decide) (by decide)
  replace G := G.iloadN 17 d28_16 rfl rfl
  replace G := G.bipush 19 (10 : Int32) d28_17 (by decide) rfl
  replace G := G.icmpF 22 d28_19 (XT.ii_ge_f (by decide)) rfl
  replace G := G.iloadN 23 d28_22 rfl rfl
  replace G := G.iloadN 24 d28_23 rfl rfl
  replace G := G.icmpT 31 d28_24 (XT.ii_le_t (ng_ngt (K := -1000000000) hN rfl (by omega))) (by decide) (by decide)
  replace G := G.bipush 33 (10 : Int32) d28_31 (by decide) rfl
  replace G := G.iloadN 34 d28_33 rfl rfl
  replace G := G.imul 35 d28_34 rfl
  replace G := G.top (y := (.int (-1410065408 : Int32))) (by decide)
  replace G := G.istoreN 36 #[.val (.int (-(Int32.ofNat N))), .val (.int (0 : Int32)), .val (.int (-1410065408 : Int32)), .val (.int (9 : Int32))] d28_35 rfl rfl
  replace G := G.iincV 39 #[.val (.int (-(Int32.ofNat N))), .val (.int (0 : Int32)), .val (.int (-1410065408 : Int32)), .val (.int (10 : Int32))] (10 : Int32) d28_36 rfl (by decide) rfl rfl
  replace G := G.goto 16 d28_39 (by decide) (by decide)
  replace G := G.iloadN 17 d28_16 rfl rfl
  replace G := G.bipush 19 (10 : Int32) d28_17 (by decide) rfl
  replace G := G.icmpT 42 d28_19 (XT.ii_ge_t (by decide)) (by decide) (by decide)
  replace G := G.bipush 44 (10 : Int32) d28_42 (by decide) rfl
  replace G := G.iloadN 45 d28_44 rfl rfl
  replace G := G.iadd 46 d28_45 rfl
  replace G := G.top (y := (.int (10 : Int32))) (by decide)
  exact G.retI hret hlk d28_46 [] all0 ⟨_, rfl, rfl, rfl, rfl⟩ (Nat.le_of_ble_eq_true rfl) (Nat.le_of_ble_eq_true rfl)
set_option maxRecDepth 65536 in
set_option maxHeartbeats 40000000 in
theorem c_getC10 (l : Launch) (Z : State) (a0 : Array Value) (hw : ∀ d ∈ tables_1, d.before a0 Z = true) (hEW : EW Z a0 consts_1) (n0 : Nat) (c1 : Int32) (hc1 : ¬ c1 = 0) (S1 : Sta Z Z.heap "java/lang/String" "COMPACT_STRINGS" "Z" (.int c1)) (v2 : Value) (hv2 : v2.isRef = true) (S2 : Sta Z Z.heap "jdk/internal/util/Preconditions" "SIOOBE_FORMATTER" "Ljava/util/function/BiFunction;" v2) (t1 t2 : Addr) (kt1 kt2 : ClassId) (SD1 : Sta Z Z.heap "java/lang/Integer" "DigitOnes" "[B" (.ref t1)) (SD2 : Sta Z Z.heap "java/lang/Integer" "DigitTens" "[B" (.ref t2)) (AD1 : Arv Z Z.heap t1 kt1 .byte 100 dOnes (.int 0)) (AD2 : Arv Z Z.heap t2 kt2 .byte 100 dTens (.int 0)) (b : Addr) (kb : ClassId) (cap : Nat) (bs : List Value) (N : Nat) {h0 : Heap} (o1 : Old Z n0 h0) (ge_b : n0 ≤ b) (hlo : 1000000000 ≤ N) (hhi : N < 2147483648) (hle : bs.length + 10 ≤ cap) (hcap : cap < 2147483648) (Ab : Arv Z h0 b kb .byte (Int32.ofNat cap) bs (.int 0)) :
    Con Z a0 l (⟨"java/lang/Integer", "getChars", "(II[B)I"⟩ : MethodName) jdk_33_method_12_code 7 (some .int) ({ frames := 0, cells := 0, slots := 0, locals := 0 } : Room) [] #[(.int (Int32.ofNat N)), (.int (Int32.ofNat (bs.length + 10))), (.ref b)] consts_1 h0 n0 [b] [b] (VV fun w h so => w = .int (Int32.ofNat (bs.length + 0)) ∧ Arv Z h b kb .byte (Int32.ofNat cap) (bs ++ [dg N 9, dg N 8, dg N 7, dg N 6, dg N 5, dg N 4, dg N 3, dg N 2, dg N 1, dg N 0]) (.int 0) ∧ so = []) := by
  refine Con.body (plainFor_of_name pn_java_lang_Integer) hEW o1 (allS ge_b all0) #[.val (.int (Int32.ofNat N)), .val (.int (Int32.ofNat (bs.length + 10))), .val (.ref b), .unset, .unset, .unset, .unset] (fun m => by first | (simp [entryFrame, mkF, argsToLocals, Value.category]; done) | rfl) ?_
  intro p e s m below meth c B hnm hret hlk G
  have hN : N < 2147483648 := by omega
  have hn : bs.length < 2147483648 := by omega
  replace Ab := Ab.pad (vs' := bs ++ [(.int 0), (.int 0), (.int 0), (.int 0), (.int 0), (.int 0), (.int 0), (.int 0), (.int 0), (.int 0)]) (pad_rep bs (.int 0) 10)
  replace G := G.iloadN 1 d30_0 rfl rfl
  replace G := G.istore 3 #[.val (.int (Int32.ofNat N)), .val (.int (Int32.ofNat (bs.length + 10))), .val (.ref b), .unset, .unset, .val (.int (Int32.ofNat (bs.length + 10))), .unset] d30_1 rfl rfl
  replace G := G.iloadN 4 d30_3 rfl rfl
  replace G := G.ifT 11 d30_4 (XT.i0_ge_t (ofn_nn hN)) (by decide) (by decide)
  replace G := G.iconst 12 (0 : Int32) d30_11 rfl rfl
  replace G := G.istore 14 #[.val (.int (Int32.ofNat N)), .val (.int (Int32.ofNat (bs.length + 10))), .val (.ref b), .unset, .unset, .val (.int (Int32.ofNat (bs.length + 10))), .val (.int (0 : Int32))] d30_12 rfl rfl
  replace G := G.iload 16 d30_14 rfl rfl
  replace G := G.ifF 19 d30_16 (XT.i0_ne_f rfl) rfl
  replace G := G.iloadN 20 d30_19 rfl rfl
  replace G := G.ineg 21 d30_20 rfl
  replace G := G.istoreN 22 #[.val (.int (-(Int32.ofNat N))), .val (.int (Int32.ofNat (bs.length + 10))), .val (.ref b), .unset, .unset, .val (.int (Int32.ofNat (bs.length + 10))), .val (.int (0 : Int32))] d30_21 rfl rfl
  replace G := G.iloadN 23 d30_22 rfl rfl
  replace G := G.bipush 25 (-100 : Int32) d30_23 (by decide) rfl
  replace G := G.icmpF 28 d30_25 (XT.ii_gt_f (ng_ngt (K := -100) (by omega) rfl (by omega))) rfl
  replace G := G.iloadN 29 d30_28 rfl rfl
  replace G := G.bipush 31 (100 : Int32) d30_29 (by decide) rfl
  replace G := G.idiv 32 d30_31 (by decide) rfl
  replace G := G.top (y := (.int (-(Int32.ofNat (N / 100))))) (congrArg Value.int (ng_div (by omega)))
  replace G := G.istoreN 33 #[.val (.int (-(Int32.ofNat N))), .val (.int (Int32.ofNat (bs.length + 10))), .val (.ref b), .val (.int (-(Int32.ofNat (N / 100)))), .unset, .val (.int (Int32.ofNat (bs.length + 10))), .val (.int (0 : Int32))] d30_32 rfl rfl
  replace G := G.iloadN 34 d30_33 rfl rfl
  replace G := G.bipush 36 (100 : Int32) d30_34 (by decide) rfl
  replace G := G.imul 37 d30_36 rfl
  replace G := G.iloadN 38 d30_37 rfl rfl
  replace G := G.isub 39 d30_38 rfl
  replace G := G.top (y := (.int (Int32.ofNat (N % 100)))) (congrArg Value.int (ng_rem (by omega)))
  replace G := G.istore 41 #[.val (.int (-(Int32.ofNat N))), .val (.int (Int32.ofNat (bs.length + 10))), .val (.ref b), .val (.int (-(Int32.ofNat (N / 100)))), .val (.int (Int32.ofNat (N % 100))), .val (.int (Int32.ofNat (bs.length + 10))), .val (.int (0 : Int32))] d30_39 rfl rfl
  replace G := G.iloadN 42 d30_41 rfl rfl
  replace G := G.istoreN 43 #[.val (.int (-(Int32.ofNat (N / 100)))), .val (.int (Int32.ofNat (bs.length + 10))), .val (.ref b), .val (.int (-(Int32.ofNat (N / 100)))), .val (.int (Int32.ofNat (N % 100))), .val (.int (Int32.ofNat (bs.length + 10))), .val (.int (0 : Int32))] d30_42 rfl rfl
  replace G := G.aloadN 44 d30_43 rfl rfl rfl
  replace G := G.iincV 47 #[.val (.int (-(Int32.ofNat (N / 100)))), .val (.int (Int32.ofNat (bs.length + 10))), .val (.ref b), .val (.int (-(Int32.ofNat (N / 100)))), .val (.int (Int32.ofNat (N % 100))), .val (.int (Int32.ofNat (bs.length + 9))), .val (.int (0 : Int32))] (Int32.ofNat (bs.length + 9)) d30_44 rfl (ofn_pred (bs.length + 9)) rfl rfl
  replace G := G.iload 49 d30_47 rfl rfl
  replace G := G.gets 52 (host := "") (Or.inl (hw _ (List.mem_of_getElem? (i := 168) rfl))) Via.refl (G.sta SD1) d30_49 rfl
  replace G := G.iload 54 d30_52 rfl rfl
  replace G := G.baload 55 (v := (.int (Int32.ofNat (48 + N % 100 % 10)))) (AD1.ext G.old.2) ⟨ofn_nn (by omega), ofn_lt (n := 100) (by omega) (by decide)⟩ (by rw [ofn_nat (by omega)]; exact dOnes_at (by omega)) d30_54 rfl
  obtain ⟨g1, G', As, Ks⟩ := G.bastore 56 (bs.length + 9) Ab ⟨ofn_nn (by omega), ofn_lt (by omega) hcap⟩ (ofn_nat (by omega)) (by simp) (Or.inl (List.mem_of_getElem? (i := 0) rfl)) (List.mem_of_getElem? (i := 0) rfl) d30_55 rfl
  clear G; have G := G'; clear G'
  rw [set_app2 _ _ 9 _ _ rfl, dig_b (by omega)] at As
  replace Ab : Arv Z g1 b kb .byte (Int32.ofNat cap) (bs ++ [(.int 0), (.int 0), (.int 0), (.int 0), (.int 0), (.int 0), (.int 0), (.int 0), (.int 0), (.int (Int32.ofNat (48 + N % 100 % 10)))]) (.int 0) := As
  replace G := G.aloadN 57 d30_56 rfl rfl rfl
  replace G := G.iincV 60 #[.val (.int (-(Int32.ofNat (N / 100)))), .val (.int (Int32.ofNat (bs.length + 10))), .val (.ref b), .val (.int (-(Int32.ofNat (N / 100)))), .val (.int (Int32.ofNat (N % 100))), .val (.int (Int32.ofNat (bs.length + 8))), .val (.int (0 : Int32))] (Int32.ofNat (bs.length + 8)) d30_57 rfl (ofn_pred (bs.length + 8)) rfl rfl
  replace G := G.iload 62 d30_60 rfl rfl
  replace G := G.gets 65 (host := "") (Or.inl (hw _ (List.mem_of_getElem? (i := 242) rfl))) Via.refl (G.sta SD2) d30_62 rfl
  replace G := G.iload 67 d30_65 rfl rfl
  replace G := G.baload 68 (v := (.int (Int32.ofNat (48 + N % 100 / 10)))) (AD2.ext G.old.2) ⟨ofn_nn (by omega), ofn_lt (n := 100) (by omega) (by decide)⟩ (by rw [ofn_nat (by omega)]; exact dTens_at (by omega)) d30_67 rfl
  obtain ⟨g2, G', As, Ks⟩ := G.bastore 69 (bs.length + 8) Ab ⟨ofn_nn (by omega), ofn_lt (by omega) hcap⟩ (ofn_nat (by omega)) (by simp) (Or.inl (List.mem_of_getElem? (i := 0) rfl)) (List.mem_of_getElem? (i := 0) rfl) d30_68 rfl
  clear G; have G := G'; clear G'
  rw [set_app2 _ _ 8 _ _ rfl, dig_b (by omega)] at As
  replace Ab : Arv Z g2 b kb .byte (Int32.ofNat cap) (bs ++ [(.int 0), (.int 0), (.int 0), (.int 0), (.int 0), (.int 0), (.int 0), (.int 0), (.int (Int32.ofNat (48 + N % 100 / 10))), (.int (Int32.ofNat (48 + N % 100 % 10)))]) (.int 0) := As
  replace G := G.goto 22 d30_69 (by decide) (by decide)
  replace G := G.iloadN 23 d30_22 rfl rfl
  replace G := G.bipush 25 (-100 : Int32) d30_23 (by decide) rfl
  replace G := G.icmpF 28 d30_25 (XT.ii_gt_f (ng_ngt (K := -100) (by omega) rfl (by omega))) rfl
  replace G := G.iloadN 29 d30_28 rfl rfl
  replace G := G.bipush 31 (100 : Int32) d30_29 (by decide) rfl
  replace G := G.idiv 32 d30_31 (by decide) rfl
  replace G := G.top (y := (.int (-(Int32.ofNat (N / 100 / 100))))) (congrArg Value.int (ng_div (by omega)))
  replace G := G.istoreN 33 #[.val (.int (-(Int32.ofNat (N / 100)))), .val (.int (Int32.ofNat (bs.length + 10))), .val (.ref b), .val (.int (-(Int32.ofNat (N / 100 / 100)))), .val (.int (Int32.ofNat (N % 100))), .val (.int (Int32.ofNat (bs.length + 8))), .val (.int (0 : Int32))] d30_32 rfl rfl
  replace G := G.iloadN 34 d30_33 rfl rfl
  replace G := G.bipush 36 (100 : Int32) d30_34 (by decide) rfl
  replace G := G.imul 37 d30_36 rfl
  replace G := G.iloadN 38 d30_37 rfl rfl
  replace G := G.isub 39 d30_38 rfl
  replace G := G.top (y := (.int (Int32.ofNat (N / 100 % 100)))) (congrArg Value.int (ng_rem (by omega)))
  replace G := G.istore 41 #[.val (.int (-(Int32.ofNat (N / 100)))), .val (.int (Int32.ofNat (bs.length + 10))), .val (.ref b), .val (.int (-(Int32.ofNat (N / 100 / 100)))), .val (.int (Int32.ofNat (N / 100 % 100))), .val (.int (Int32.ofNat (bs.length + 8))), .val (.int (0 : Int32))] d30_39 rfl rfl
  replace G := G.iloadN 42 d30_41 rfl rfl
  replace G := G.istoreN 43 #[.val (.int (-(Int32.ofNat (N / 100 / 100)))), .val (.int (Int32.ofNat (bs.length + 10))), .val (.ref b), .val (.int (-(Int32.ofNat (N / 100 / 100)))), .val (.int (Int32.ofNat (N / 100 % 100))), .val (.int (Int32.ofNat (bs.length + 8))), .val (.int (0 : Int32))] d30_42 rfl rfl
  replace G := G.aloadN 44 d30_43 rfl rfl rfl
  replace G := G.iincV 47 #[.val (.int (-(Int32.ofNat (N / 100 / 100)))), .val (.int (Int32.ofNat (bs.length + 10))), .val (.ref b), .val (.int (-(Int32.ofNat (N / 100 / 100)))), .val (.int (Int32.ofNat (N / 100 % 100))), .val (.int (Int32.ofNat (bs.length + 7))), .val (.int (0 : Int32))] (Int32.ofNat (bs.length + 7)) d30_44 rfl (ofn_pred (bs.length + 7)) rfl rfl
  replace G := G.iload 49 d30_47 rfl rfl
  replace G := G.gets 52 (host := "") (Or.inl (hw _ (List.mem_of_getElem? (i := 168) rfl))) Via.refl (G.sta SD1) d30_49 rfl
  replace G := G.iload 54 d30_52 rfl rfl
  replace G := G.baload 55 (v := (.int (Int32.ofNat (48 + N / 100 % 100 % 10)))) (AD1.ext G.old.2) ⟨ofn_nn (by omega), ofn_lt (n := 100) (by omega) (by decide)⟩ (by rw [ofn_nat (by omega)]; exact dOnes_at (by omega)) d30_54 rfl
  obtain ⟨g3, G', As, Ks⟩ := G.bastore 56 (bs.length + 7) Ab ⟨ofn_nn (by omega), ofn_lt (by omega) hcap⟩ (ofn_nat (by omega)) (by simp) (Or.inl (List.mem_of_getElem? (i := 0) rfl)) (List.mem_of_getElem? (i := 0) rfl) d30_55 rfl
  clear G; have G := G'; clear G'
  rw [set_app2 _ _ 7 _ _ rfl, dig_b (by omega)] at As
  replace Ab : Arv Z g3 b kb .byte (Int32.ofNat cap) (bs ++ [(.int 0), (.int 0), (.int 0), (.int 0), (.int 0), (.int 0), (.int 0), (.int (Int32.ofNat (48 + N / 100 % 100 % 10))), (.int (Int32.ofNat (48 + N % 100 / 10))), (.int (Int32.ofNat (48 + N % 100 % 10)))]) (.int 0) := As
  replace G := G.aloadN 57 d30_56 rfl rfl rfl
  replace G := G.iincV 60 #[.val (.int (-(Int32.ofNat (N / 100 / 100)))), .val (.int (Int32.ofNat (bs.length + 10))), .val (.ref b), .val (.int (-(Int32.ofNat (N / 100 / 100)))), .val (.int (Int32.ofNat (N / 100 % 100))), .val (.int (Int32.ofNat (bs.length + 6))), .val (.int (0 : Int32))] (Int32.ofNat (bs.length + 6)) d30_57 rfl (ofn_pred (bs.length + 6)) rfl rfl
  replace G := G.iload 62 d30_60 rfl rfl
  replace G := G.gets 65 (host := "") (Or.inl (hw _ (List.mem_of_getElem? (i := 242) rfl))) Via.refl (G.sta SD2) d30_62 rfl
  replace G := G.iload 67 d30_65 rfl rfl
  replace G := G.baload 68 (v := (.int (Int32.ofNat (48 + N / 100 % 100 / 10)))) (AD2.ext G.old.2) ⟨ofn_nn (by omega), ofn_lt (n := 100) (by omega) (by decide)⟩ (by rw [ofn_nat (by omega)]; exact dTens_at (by omega)) d30_67 rfl
  obtain ⟨g4, G', As, Ks⟩ := G.bastore 69 (bs.length + 6) Ab ⟨ofn_nn (by omega), ofn_lt (by omega) hcap⟩ (ofn_nat (by omega)) (by simp) (Or.inl (List.mem_of_getElem? (i := 0) rfl)) (List.mem_of_getElem? (i := 0) rfl) d30_68 rfl
  clear G; have G := G'; clear G'
  rw [set_app2 _ _ 6 _ _ rfl, dig_b (by omega)] at As
  replace Ab : Arv Z g4 b kb .byte (Int32.ofNat cap) (bs ++ [(.int 0), (.int 0), (.int 0), (.int 0), (.int 0), (.int 0), (.int (Int32.ofNat (48 + N / 100 % 100 / 10))), (.int (Int32.ofNat (48 + N / 100 % 100 % 10))), (.int (Int32.ofNat (48 + N % 100 / 10))), (.int (Int32.ofNat (48 + N % 100 % 10)))]) (.int 0) := As
  replace G := G.goto 22 d30_69 (by decide) (by decide)
  replace G := G.iloadN 23 d30_22 rfl rfl
  replace G := G.bipush 25 (-100 : Int32) d30_23 (by decide) rfl
  replace G := G.icmpF 28 d30_25 (XT.ii_gt_f (ng_ngt (K := -100) (by omega) rfl (by omega))) rfl
  replace G := G.iloadN 29 d30_28 rfl rfl
  replace G := G.bipush 31 (100 : Int32) d30_29 (by decide) rfl
  replace G := G.idiv 32 d30_31 (by decide) rfl
  replace G := G.top (y := (.int (-(Int32.ofNat (N / 100 / 100 / 100))))) (congrArg Value.int (ng_div (by omega)))
  replace G := G.istoreN 33 #[.val (.int (-(Int32.ofNat (N / 100 / 100)))), .val (.int (Int32.ofNat (bs.length + 10))), .val (.ref b), .val (.int (-(Int32.ofNat (N / 100 / 100 / 100)))), .val (.int (Int32.ofNat (N / 100 % 100))), .val (.int (Int32.ofNat (bs.length + 6))), .val (.int (0 : Int32))] d30_32 rfl rfl
  replace G := G.iloadN 34 d30_33 rfl rfl
  replace G := G.bipush 36 (100 : Int32) d30_34 (by decide) rfl
  replace G := G.imul 37 d30_36 rfl
  replace G := G.iloadN 38 d30_37 rfl rfl
  replace G := G.isub 39 d30_38 rfl
  replace G := G.top (y := (.int (Int32.ofNat (N / 100 / 100 % 100)))) (congrArg Value.int (ng_rem (by omega)))
  replace G := G.istore 41 #[.val (.int (-(Int32.ofNat (N / 100 / 100)))), .val (.int (Int32.ofNat (bs.length + 10))), .val (.ref b), .val (.int (-(Int32.ofNat (N / 100 / 100 / 100)))), .val (.int (Int32.ofNat (N / 100 / 100 % 100))), .val (.int (Int32.ofNat (bs.length + 6))), .val (.int (0 : Int32))] d30_39 rfl rfl
  replace G := G.iloadN 42 d30_41 rfl rfl
  replace G := G.istoreN 43 #[.val (.int (-(Int32.ofNat (N / 100 / 100 / 100)))), .val (.int (Int32.ofNat (bs.length + 10))), .val (.ref b), .val (.int (-(Int32.ofNat (N / 100 / 100 / 100)))), .val (.int (Int32.ofNat (N / 100 / 100 % 100))), .val (.int (Int32.ofNat (bs.length + 6))), .val (.int (0 : Int32))] d30_42 rfl rfl
  replace G := G.aloadN 44 d30_43 rfl rfl rfl
  replace G := G.iincV 47 #[.val (.int (-(Int32.ofNat (N / 100 / 100 / 100)))), .val (.int (Int32.ofNat (bs.length + 10))), .val (.ref b), .val (.int (-(Int32.ofNat (N / 100 / 100 / 100)))), .val (.int (Int32.ofNat (N / 100 / 100 % 100))), .val (.int (Int32.ofNat (bs.length + 5))), .val (.int (0 : Int32))] (Int32.ofNat (bs.length + 5)) d30_44 rfl (ofn_pred (bs.length + 5)) rfl rfl
  replace G := G.iload 49 d30_47 rfl rfl
  replace G := G.gets 52 (host := "") (Or.inl (hw _ (List.mem_of_getElem? (i := 168) rfl))) Via.refl (G.sta SD1) d30_49 rfl
  replace G := G.iload 54 d30_52 rfl rfl
  replace G := G.baload 55 (v := (.int (Int32.ofNat (48 + N / 100 / 100 % 100 % 10)))) (AD1.ext G.old.2) ⟨ofn_nn (by omega), ofn_lt (n := 100) (by omega) (by decide)⟩ (by rw [ofn_nat (by omega)]; exact dOnes_at (by omega)) d30_54 rfl
  obtain ⟨g5, G', As, Ks⟩ := G.bastore 56 (bs.length + 5) Ab ⟨ofn_nn (by omega), ofn_lt (by omega) hcap⟩ (ofn_nat (by omega)) (by simp) (Or.inl (List.mem_of_getElem? (i := 0) rfl)) (List.mem_of_getElem? (i := 0) rfl) d30_55 rfl
  clear G; have G := G'; clear G'
  rw [set_app2 _ _ 5 _ _ rfl, dig_b (by omega)] at As
  replace Ab : Arv Z g5 b kb .byte (Int32.ofNat cap) (bs ++ [(.int 0), (.int 0), (.int 0), (.int 0), (.int 0), (.int (Int32.ofNat (48 + N / 100 / 100 % 100 % 10))), (.int (Int32.ofNat (48 + N / 100 % 100 / 10))), (.int (Int32.ofNat (48 + N / 100 % 100 % 10))), (.int (Int32.ofNat (48 + N % 100 / 10))), (.int (Int32.ofNat (48 + N % 100 % 10)))]) (.int 0) := As
  replace G := G.aloadN 57 d30_56 rfl rfl rfl
  replace G := G.iincV 60 #[.val (.int (-(Int32.ofNat (N / 100 / 100 / 100)))), .val (.int (Int32.ofNat (bs.length + 10))), .val (.ref b), .val (.int (-(Int32.ofNat (N / 100 / 100 / 100)))), .val (.int (Int32.ofNat (N / 100 / 100 % 100))), .val (.int (Int32.ofNat (bs.length + 4))), .val (.int (0 : Int32))] (Int32.ofNat (bs.length + 4)) d30_57 rfl (ofn_pred (bs.length + 4)) rfl rfl
  replace G := G.iload 62 d30_60 rfl rfl
  replace G := G.gets 65 (host := "") (Or.inl (hw _ (List.mem_of_getElem? (i := 242) rfl))) Via.refl (G.sta SD2) d30_62 rfl
  replace G := G.iload 67 d30_65 rfl rfl
  replace G := G.baload 68 (v := (.int (Int32.ofNat (48 + N / 100 / 100 % 100 / 10)))) (AD2.ext G.old.2) ⟨ofn_nn (by omega), ofn_lt (n := 100) (by omega) (by decide)⟩ (by rw [ofn_nat (by omega)]; exact dTens_at (by omega)) d30_67 rfl
  obtain ⟨g6, G', As, Ks⟩ := G.bastore 69 (bs.length + 4) Ab ⟨ofn_nn (by omega), ofn_lt (by omega) hcap⟩ (ofn_nat (by omega)) (by simp) (Or.inl (List.mem_of_getElem? (i := 0) rfl)) (List.mem_of_getElem? (i := 0) rfl) d30_68 rfl
  clear G; have G := G'; clear G'
  rw [set_app2 _ _ 4 _ _ rfl, dig_b (by omega)] at As
  replace Ab : Arv Z g6 b kb .byte (Int32.ofNat cap) (bs ++ [(.int 0), (.int 0), (.int 0), (.int 0), (.int (Int32.ofNat (48 + N / 100 / 100 % 100 / 10))), (.int (Int32.ofNat (48 + N / 100 / 100 % 100 % 10))), (.int (Int32.ofNat (48 + N / 100 % 100 / 10))), (.int (Int32.ofNat (48 + N / 100 % 100 % 10))), (.int (Int32.ofNat (48 + N % 100 / 10))), (.int (Int32.ofNat (48 + N % 100 % 10)))]) (.int 0) := As
  replace G := G.goto 22 d30_69 (by decide) (by decide)
  replace G := G.iloadN 23 d30_22 rfl rfl
  replace G := G.bipush 25 (-100 : Int32) d30_23 (by decide) rfl
  replace G := G.icmpF 28 d30_25 (XT.ii_gt_f (ng_ngt (K := -100) (by omega) rfl (by omega))) rfl
  replace G := G.iloadN 29 d30_28 rfl rfl
  replace G := G.bipush 31 (100 : Int32) d30_29 (by decide) rfl
  replace G := G.idiv 32 d30_31 (by decide) rfl
  replace G := G.top (y := (.int (-(Int32.ofNat (N / 100 / 100 / 100 / 100))))) (congrArg Value.int (ng_div (by omega)))
  replace G := G.istoreN 33 #[.val (.int (-(Int32.ofNat (N / 100 / 100 / 100)))), .val (.int (Int32.ofNat (bs.length + 10))), .val (.ref b), .val (.int (-(Int32.ofNat (N / 100 / 100 / 100 / 100)))), .val (.int (Int32.ofNat (N / 100 / 100 % 100))), .val (.int (Int32.ofNat (bs.length + 4))), .val (.int (0 : Int32))] d30_32 rfl rfl
  replace G := G.iloadN 34 d30_33 rfl rfl
  replace G := G.bipush 36 (100 : Int32) d30_34 (by decide) rfl
  replace G := G.imul 37 d30_36 rfl
  replace G := G.iloadN 38 d30_37 rfl rfl
  replace G := G.isub 39 d30_38 rfl
  replace G := G.top (y := (.int (Int32.ofNat (N / 100 / 100 / 100 % 100)))) (congrArg Value.int (ng_rem (by omega)))
  replace G := G.istore 41 #[.val (.int (-(Int32.ofNat (N / 100 / 100 / 100)))), .val (.int (Int32.ofNat (bs.length + 10))), .val (.ref b), .val (.int (-(Int32.ofNat (N / 100 / 100 / 100 / 100)))), .val (.int (Int32.ofNat (N / 100 / 100 / 100 % 100))), .val (.int (Int32.ofNat (bs.length + 4))), .val (.int (0 : Int32))] d30_39 rfl rfl
  replace G := G.iloadN 42 d30_41 rfl rfl
  replace G := G.istoreN 43 #[.val (.int (-(Int32.ofNat (N / 100 / 100 / 100 / 100)))), .val (.int (Int32.ofNat (bs.length + 10))), .val (.ref b), .val (.int (-(Int32.ofNat (N / 100 / 100 / 100 / 100)))), .val (.int (Int32.ofNat (N / 100 / 100 / 100 % 100))), .val (.int (Int32.ofNat (bs.length + 4))), .val (.int (0 : Int32))] d30_42 rfl rfl
  replace G := G.aloadN 44 d30_43 rfl rfl rfl
  replace G := G.iincV 47 #[.val (.int (-(Int32.ofNat (N / 100 / 100 / 100 / 100)))), .val (.int (Int32.ofNat (bs.length + 10))), .val (.ref b), .val (.int (-(Int32.ofNat (N / 100 / 100 / 100 / 100)))), .val (.int (Int32.ofNat (N / 100 / 100 / 100 % 100))), .val (.int (Int32.ofNat (bs.length + 3))), .val (.int (0 : Int32))] (Int32.ofNat (bs.length + 3)) d30_44 rfl (ofn_pred (bs.length + 3)) rfl rfl
  replace G := G.iload 49 d30_47 rfl rfl
  replace G := G.gets 52 (host := "") (Or.inl (hw _ (List.mem_of_getElem? (i := 168) rfl))) Via.refl (G.sta SD1) d30_49 rfl
  replace G := G.iload 54 d30_52 rfl rfl
  replace G := G.baload 55 (v := (.int (Int32.ofNat (48 + N / 100 / 100 / 100 % 100 % 10)))) (AD1.ext G.old.2) ⟨ofn_nn (by omega), ofn_lt (n := 100) (by omega) (by decide)⟩ (by rw [ofn_nat (by omega)]; exact dOnes_at (by omega)) d30_54 rfl
  obtain ⟨g7, G', As, Ks⟩ := G.bastore 56 (bs.length + 3) Ab ⟨ofn_nn (by omega), ofn_lt (by omega) hcap⟩ (ofn_nat (by omega)) (by simp) (Or.inl (List.mem_of_getElem? (i := 0) rfl)) (List.mem_of_getElem? (i := 0) rfl) d30_55 rfl
  clear G; have G := G'; clear G'
  rw [set_app2 _ _ 3 _ _ rfl, dig_b (by omega)] at As
  replace Ab : Arv Z g7 b kb .byte (Int32.ofNat cap) (bs ++ [(.int 0), (.int 0), (.int 0), (.int (Int32.ofNat (48 + N / 100 / 100 / 100 % 100 % 10))), (.int (Int32.ofNat (48 + N / 100 / 100 % 100 / 10))), (.int (Int32.ofNat (48 + N / 100 / 100 % 100 % 10))), (.int (Int32.ofNat (48 + N / 100 % 100 / 10))), (.int (Int32.ofNat (48 + N / 100 % 100 % 10))), (.int (Int32.ofNat (48 + N % 100 / 10))), (.int (Int32.ofNat (48 + N % 100 % 10)))]) (.int 0) := As
  replace G := G.aloadN 57 d30_56 rfl rfl rfl
  replace G := G.iincV 60 #[.val (.int (-(Int32.ofNat (N / 100 / 100 / 100 / 100)))), .val (.int (Int32.ofNat (bs.length + 10))), .val (.ref b), .val (.int (-(Int32.ofNat (N / 100 / 100 / 100 / 100)))), .val (.int (Int32.ofNat (N / 100 / 100 / 100 % 100))), .val (.int (Int32.ofNat (bs.length + 2))), .val (.int (0 : Int32))] (Int32.ofNat (bs.length + 2)) d30_57 rfl (ofn_pred (bs.length + 2)) rfl rfl
  replace G := G.iload 62 d30_60 rfl rfl
  replace G := G.gets 65 (host := "") (Or.inl (hw _ (List.mem_of_getElem? (i := 242) rfl))) Via.refl (G.sta SD2) d30_62 rfl
  replace G := G.iload 67 d30_65 rfl rfl
  replace G := G.baload 68 (v := (.int (Int32.ofNat (48 + N / 100 / 100 / 100 % 100 / 10)))) (AD2.ext G.old.2) ⟨ofn_nn (by omega), ofn_lt (n := 100) (by omega) (by decide)⟩ (by rw [ofn_nat (by omega)]; exact dTens_at (by omega)) d30_67 rfl
  obtain ⟨g8, G', As, Ks⟩ := G.bastore 69 (bs.length + 2) Ab ⟨ofn_nn (by omega), ofn_lt (by omega) hcap⟩ (ofn_nat (by omega)) (by simp) (Or.inl (List.mem_of_getElem? (i := 0) rfl)) (List.mem_of_getElem? (i := 0) rfl) d30_68 rfl
  clear G; have G := G'; clear G'
  rw [set_app2 _ _ 2 _ _ rfl, dig_b (by omega)] at As
  replace Ab : Arv Z g8 b kb .byte (Int32.ofNat cap) (bs ++ [(.int 0), (.int 0), (.int (Int32.ofNat (48 + N / 100 / 100 / 100 % 100 / 10))), (.int (Int32.ofNat (48 + N / 100 / 100 / 100 % 100 % 10))), (.int (Int32.ofNat (48 + N / 100 / 100 % 100 / 10))), (.int (Int32.ofNat (48 + N / 100 / 100 % 100 % 10))), (.int (Int32.ofNat (48 + N / 100 % 100 / 10))), (.int (Int32.ofNat (48 + N / 100 % 100 % 10))), (.int (Int32.ofNat (48 + N % 100 / 10))), (.int (Int32.ofNat (48 + N % 100 % 10)))]) (.int 0) := As
  replace G := G.goto 22 d30_69 (by decide) (by decide)
  replace G := G.iloadN 23 d30_22 rfl rfl
  replace G := G.bipush 25 (-100 : Int32) d30_23 (by decide) rfl
  replace G := G.icmpT 72 d30_25 (XT.ii_gt_t (ng_gt (K := -100) (by omega) rfl (by omega))) (by decide) (by decide)
  replace G := G.aloadN 73 d30_72 rfl rfl rfl
  replace G := G.iincV 76 #[.val (.int (-(Int32.ofNat (N / 100 / 100 / 100 / 100)))), .val (.int (Int32.ofNat (bs.length + 10))), .val (.ref b), .val (.int (-(Int32.ofNat (N / 100 / 100 / 100 / 100)))), .val (.int (Int32.ofNat (N / 100 / 100 / 100 % 100))), .val (.int (Int32.ofNat (bs.length + 1))), .val (.int (0 : Int32))] (Int32.ofNat (bs.length + 1)) d30_73 rfl (ofn_pred (bs.length + 1)) rfl rfl
  replace G := G.iload 78 d30_76 rfl rfl
  replace G := G.gets 81 (host := "") (Or.inl (hw _ (List.mem_of_getElem? (i := 168) rfl))) Via.refl (G.sta SD1) d30_78 rfl
  replace G := G.iloadN 82 d30_81 rfl rfl
  replace G := G.ineg 83 d30_82 rfl
  replace G := G.top (y := (.int (Int32.ofNat (N / 100 / 100 / 100 / 100)))) (congrArg Value.int Int32.neg_neg)
  replace G := G.baload 84 (v := (.int (Int32.ofNat (48 + (N / 100 / 100 / 100 / 100) % 10)))) (AD1.ext G.old.2) ⟨ofn_nn (by omega), ofn_lt (n := 100) (by omega) (by decide)⟩ (by rw [ofn_nat (by omega)]; exact dOnes_at (by omega)) d30_83 rfl
  obtain ⟨g9, G', As, Ks⟩ := G.bastore 85 (bs.length + 1) Ab ⟨ofn_nn (by omega), ofn_lt (by omega) hcap⟩ (ofn_nat (by omega)) (by simp) (Or.inl (List.mem_of_getElem? (i := 0) rfl)) (List.mem_of_getElem? (i := 0) rfl) d30_84 rfl
  clear G; have G := G'; clear G'
  rw [set_app2 _ _ 1 _ _ rfl, dig_b (by omega)] at As
  replace Ab : Arv Z g9 b kb .byte (Int32.ofNat cap) (bs ++ [(.int 0), (.int (Int32.ofNat (48 + (N / 100 / 100 / 100 / 100) % 10))), (.int (Int32.ofNat (48 + N / 100 / 100 / 100 % 100 / 10))), (.int (Int32.ofNat (48 + N / 100 / 100 / 100 % 100 % 10))), (.int (Int32.ofNat (48 + N / 100 / 100 % 100 / 10))), (.int (Int32.ofNat (48 + N / 100 / 100 % 100 % 10))), (.int (Int32.ofNat (48 + N / 100 % 100 / 10))), (.int (Int32.ofNat (48 + N / 100 % 100 % 10))), (.int (Int32.ofNat (48 + N % 100 / 10))), (.int (Int32.ofNat (48 + N % 100 % 10)))]) (.int 0) := As
  replace G := G.iloadN 86 d30_85 rfl rfl
  replace G := G.bipush 88 (-9 : Int32) d30_86 (by decide) rfl
  replace G := G.icmpF 91 d30_88 (XT.ii_ge_f (ng_lt (K := -9) (by omega) rfl (by omega))) rfl
  replace G := G.aloadN 92 d30_91 rfl rfl rfl
  replace G := G.iincV 95 #[.val (.int (-(Int32.ofNat (N / 100 / 100 / 100 / 100)))), .val (.int (Int32.ofNat (bs.length + 10))), .val (.ref b), .val (.int (-(Int32.ofNat (N / 100 / 100 / 100 / 100)))), .val (.int (Int32.ofNat (N / 100 / 100 / 100 % 100))), .val (.int (Int32.ofNat (bs.length + 0))), .val (.int (0 : Int32))] (Int32.ofNat (bs.length + 0)) d30_92 rfl (ofn_pred (bs.length + 0)) rfl rfl
  replace G := G.iload 97 d30_95 rfl rfl
  replace G := G.gets 100 (host := "") (Or.inl (hw _ (List.mem_of_getElem? (i := 242) rfl))) Via.refl (G.sta SD2) d30_97 rfl
  replace G := G.iloadN 101 d30_100 rfl rfl
  replace G := G.ineg 102 d30_101 rfl
  replace G := G.top (y := (.int (Int32.ofNat (N / 100 / 100 / 100 / 100)))) (congrArg Value.int Int32.neg_neg)
  replace G := G.baload 103 (v := (.int (Int32.ofNat (48 + (N / 100 / 100 / 100 / 100) / 10)))) (AD2.ext G.old.2) ⟨ofn_nn (by omega), ofn_lt (n := 100) (by omega) (by decide)⟩ (by rw [ofn_nat (by omega)]; exact dTens_at (by omega)) d30_102 rfl
  obtain ⟨g10, G', As, Ks⟩ := G.bastore 104 (bs.length + 0) Ab ⟨ofn_nn (by omega), ofn_lt (by omega) hcap⟩ (ofn_nat (by omega)) (by simp) (Or.inl (List.mem_of_getElem? (i := 0) rfl)) (List.mem_of_getElem? (i := 0) rfl) d30_103 rfl
  clear G; have G := G'; clear G'
  rw [set_app2 _ _ 0 _ _ rfl, dig_b (by omega)] at As
  replace Ab : Arv Z g10 b kb .byte (Int32.ofNat cap) (bs ++ [(.int (Int32.ofNat (48 + (N / 100 / 100 / 100 / 100) / 10))), (.int (Int32.ofNat (48 + (N / 100 / 100 / 100 / 100) % 10))), (.int (Int32.ofNat (48 + N / 100 / 100 / 100 % 100 / 10))), (.int (Int32.ofNat (48 + N / 100 / 100 / 100 % 100 % 10))), (.int (Int32.ofNat (48 + N / 100 / 100 % 100 / 10))), (.int (Int32.ofNat (48 + N / 100 / 100 % 100 % 10))), (.int (Int32.ofNat (48 + N / 100 % 100 / 10))), (.int (Int32.ofNat (48 + N / 100 % 100 % 10))), (.int (Int32.ofNat (48 + N % 100 / 10))), (.int (Int32.ofNat (48 + N % 100 % 10)))]) (.int 0) := As
  replace G := G.iload 106 d30_104 rfl rfl
  replace G := G.ifT 118 d30_106 (XT.i0_eq_t rfl) (by decide) (by decide)
  replace G := G.iload 120 d30_118 rfl rfl
  have hdg : ([(.int (Int32.ofNat (48 + (N / 100 / 100 / 100 / 100) / 10))), (.int (Int32.ofNat (48 + (N / 100 / 100 / 100 / 100) % 10))), (.int (Int32.ofNat (48 + N / 100 / 100 / 100 % 100 / 10))), (.int (Int32.ofNat (48 + N / 100 / 100 / 100 % 100 % 10))), (.int (Int32.ofNat (48 + N / 100 / 100 % 100 / 10))), (.int (Int32.ofNat (48 + N / 100 / 100 % 100 % 10))), (.int (Int32.ofNat (48 + N / 100 % 100 / 10))), (.int (Int32.ofNat (48 + N / 100 % 100 % 10))), (.int (Int32.ofNat (48 + N % 100 / 10))), (.int (Int32.ofNat (48 + N % 100 % 10)))] : List Value) = [dg N 9, dg N 8, dg N 7, dg N 6, dg N 5, dg N 4, dg N 3, dg N 2, dg N 1, dg N 0] := by
    simp only [dg, List.cons.injEq, Value.int.injEq, and_true, Nat.reducePow]
    refine ⟨?_, ?_, ?_, ?_, ?_, ?_, ?_, ?_, ?_, ?_⟩ <;> first | trivial | (congr 2; omega)
  rw [hdg] at Ab
  exact G.retI hret hlk d30_120 [] all0 ⟨_, rfl, rfl, Ab, rfl⟩ (Nat.le_of_ble_eq_true rfl) (Nat.le_of_ble_eq_true rfl)
set_option maxRecDepth 65536 in
set_option maxHeartbeats 40000000 in
theorem c_asbI10 (l : Launch) (Z : State) (a0 : Array Value) (hw : ∀ d ∈ tables_1, d.before a0 Z = true) (hEW : EW Z a0 consts_1) (n0 : Nat) (c1 : Int32) (hc1 : ¬ c1 = 0) (S1 : Sta Z Z.heap "java/lang/String" "COMPACT_STRINGS" "Z" (.int c1)) (v2 : Value) (hv2 : v2.isRef = true) (S2 : Sta Z Z.heap "jdk/internal/util/Preconditions" "SIOOBE_FORMATTER" "Ljava/util/function/BiFunction;" v2) (t1 t2 : Addr) (kt1 kt2 : ClassId) (SD1 : Sta Z Z.heap "java/lang/Integer" "DigitOnes" "[B" (.ref t1)) (SD2 : Sta Z Z.heap "java/lang/Integer" "DigitTens" "[B" (.ref t2)) (AD1 : Arv Z Z.heap t1 kt1 .byte 100 dOnes (.int 0)) (AD2 : Arv Z Z.heap t2 kt2 .byte 100 dTens (.int 0)) (a b : Addr) (cap : Nat) (bs : List Value) (N : Nat) {h0 : Heap} (o1 : Old Z n0 h0) (ge_a : n0 ≤ a) (ge_b : n0 ≤ b) (hlo : 1000000000 ≤ N) (hhi : N < 2147483648) (hle : bs.length + 10 ≤ cap) (hcap : cap < 2147483648) (hS : Sbd Z h0 a b cap bs) :
    Con Z a0 l (⟨"java/lang/AbstractStringBuilder", "append", "(I)Ljava/lang/AbstractStringBuilder;"⟩ : MethodName) jdk_68_method_32_code 4 (some (.object "java/lang/AbstractStringBuilder")) ({ frames := 1, cells := 0, slots := 0, locals := 18 } : Room) [] #[(.ref a), (.int (Int32.ofNat N))] consts_1 h0 n0 [a, b] [a, b] (VV fun w h so => w = .ref a ∧ Sbd Z h a b cap (bs ++ [dg N 9, dg N 8, dg N 7, dg N 6, dg N 5, dg N 4, dg N 3, dg N 2, dg N 1, dg N 0]) ∧ so = []) := by
  refine Con.body (plainFor_of_name pn_java_lang_AbstractStringBuilder) hEW o1 (allS ge_a (allS ge_b all0)) #[.val (.ref a), .val (.int (Int32.ofNat N)), .unset, .unset] (fun m => by first | (simp [entryFrame, mkF, argsToLocals, Value.category]; done) | rfl) ?_
  intro p e s m below meth c B hnm hret hlk G
  replace G := G.aloadN 1 d27_0 rfl rfl rfl
  replace G := G.getf 4 (host := "") (Or.inl (hw _ (List.mem_of_getElem? (i := 119) rfl))) Via.refl hS.2.2.2.1 d27_1 rfl
  replace G := G.istoreN 5 #[.val (.ref a), .val (.int (Int32.ofNat N)), .val (.int (Int32.ofNat bs.length)), .unset] d27_4 rfl rfl
  replace G := G.iloadN 6 d27_5 rfl rfl
  replace G := G.iloadN 7 d27_6 rfl rfl
  obtain ⟨vz, h_z, soz, G', Kz, Qz⟩ := G.callS 10 (hw _ (List.mem_of_getElem? (i := 156) rfl)) (hw _ (List.mem_of_getElem? (i := 157) rfl)) (hw _ (List.mem_of_getElem? (i := 158) rfl)) (hw _ (List.mem_of_getElem? (i := 159) rfl)) (by decide) [(.int (Int32.ofNat N))] [(.int (Int32.ofNat bs.length))] rfl (c_size10 l Z a0 hw hEW n0 c1 hc1 S1 v2 hv2 S2 N G.old hlo hhi) (lenOf pd__I_I rfl) d27_7 rfl (Nat.le_of_ble_eq_true rfl) (Nat.le_of_ble_eq_true rfl) (Nat.le_of_ble_eq_true rfl) (Nat.le_of_ble_eq_true rfl) all0 all0 all0 rfl
  clear G; have G := G'; clear G'
  obtain ⟨wz, qz, rfl, ez, rfl⟩ := Qz
  replace G := G.val qz
  subst ez
  replace G := G.iadd 11 d27_10 rfl
  replace G := G.top (y := (.int (Int32.ofNat (bs.length + 10)))) (congrArg Value.int (ofn_add bs.length 10))
  replace G := G.istoreN 12 #[.val (.ref a), .val (.int (Int32.ofNat N)), .val (.int (Int32.ofNat bs.length)), .val (.int (Int32.ofNat (bs.length + 10)))] d27_11 rfl rfl
  replace G := G.aloadN 13 d27_12 rfl rfl rfl
  replace G := G.iloadN 14 d27_13 rfl rfl
  obtain ⟨ve, h_e, soe, G', Ke, Qe⟩ := G.callV 17 (hw _ (List.mem_of_getElem? (i := 121) rfl)) (declOf (hw _ (List.mem_of_getElem? (i := 122) rfl)) (hw _ (List.mem_of_getElem? (i := 125) rfl))) (nfSel (hw _ (List.mem_of_getElem? (i := 124) rfl))) (hw _ (List.mem_of_getElem? (i := 124) rfl)) (hw _ (List.mem_of_getElem? (i := 122) rfl)) (hw _ (List.mem_of_getElem? (i := 91) rfl)) (hw _ (List.mem_of_getElem? (i := 125) rfl)) hS.1 (by decide) [(.int (Int32.ofNat (bs.length + 10)))] [] rfl (c_ensNG l Z a0 hw hEW n0 c1 hc1 S1 v2 hv2 S2 a b cap (bs.length + 10) bs G.old hle hcap hS) (lenOf pd__I_V rfl) d27_14 rfl (Nat.le_of_ble_eq_true rfl) (Nat.le_of_ble_eq_true rfl) (Nat.le_of_ble_eq_true rfl) (Nat.le_of_ble_eq_true rfl) all0 all0 all0 rfl
  clear G; have G := G'; clear G'
  obtain ⟨qe, ee, rfl⟩ := Qe
  replace G := G.nov qe
  subst ee
  replace G := G.aloadN 18 d27_17 rfl rfl rfl
  obtain ⟨vl, h_l, sol, G', Kl, Ql⟩ := G.callV 21 (hw _ (List.mem_of_getElem? (i := 160) rfl)) (hw _ (List.mem_of_getElem? (i := 161) rfl)) (nfSel (hw _ (List.mem_of_getElem? (i := 163) rfl))) (hw _ (List.mem_of_getElem? (i := 163) rfl)) (hw _ (List.mem_of_getElem? (i := 162) rfl)) (hw _ (List.mem_of_getElem? (i := 91) rfl)) (hw _ (List.mem_of_getElem? (i := 164) rfl)) hS.1 (by decide) [] [] rfl (c_isL1 l Z a0 hw hEW n0 c1 hc1 S1 v2 hv2 S2 a b cap bs G.old hS) (lenOf pd___Z rfl) d27_18 rfl (Nat.le_of_ble_eq_true rfl) (Nat.le_of_ble_eq_true rfl) (Nat.le_of_ble_eq_true rfl) (Nat.le_of_ble_eq_true rfl) all0 all0 all0 rfl
  clear G; have G := G'; clear G'
  obtain ⟨wl, ql, rfl, el, rfl⟩ := Ql
  replace G := G.val ql
  subst el
  replace G := G.ifF 24 d27_21 (XT.i0_eq_f (by decide)) rfl
  replace G := G.iloadN 25 d27_24 rfl rfl
  replace G := G.iloadN 26 d27_25 rfl rfl
  replace G := G.aloadN 27 d27_26 rfl rfl rfl
  replace G := G.getf 30 (host := "") (Or.inl (hw _ (List.mem_of_getElem? (i := 95) rfl))) Via.refl hS.2.1 d27_27 rfl
  obtain ⟨Xa, Fv, Fc, Fn, kb, Ab⟩ := hS
  obtain ⟨vp, h1, sop, G', Kp, Qp⟩ := G.callS 33 (hw _ (List.mem_of_getElem? (i := 165) rfl)) (hw _ (List.mem_of_getElem? (i := 166) rfl)) (hw _ (List.mem_of_getElem? (i := 158) rfl)) (hw _ (List.mem_of_getElem? (i := 167) rfl)) (by decide) [(.int (Int32.ofNat N)), (.int (Int32.ofNat (bs.length + 10))), (.ref b)] [] rfl (c_getC10 l Z a0 hw hEW n0 c1 hc1 S1 v2 hv2 S2 t1 t2 kt1 kt2 SD1 SD2 AD1 AD2 b kb cap bs N G.old ge_b hlo hhi hle hcap Ab) (lenOf pd__II_B_I rfl) d27_30 rfl (Nat.le_of_ble_eq_true rfl) (Nat.le_of_ble_eq_true rfl) (Nat.le_of_ble_eq_true rfl) (Nat.le_of_ble_eq_true rfl) (allS (Or.inl (List.mem_of_getElem? (i := 1) rfl)) all0) (allS (List.mem_of_getElem? (i := 1) rfl) all0) (allS (List.mem_of_getElem? (i := 1) rfl) all0) rfl
  clear G; have G := G'; clear G'
  obtain ⟨wp, qp, rfl, Ab1, rfl⟩ := Qp
  replace G := G.val qp
  have nab : a ≠ b := ne_arr Xa (hw _ (List.mem_of_getElem? (i := 82) rfl)) Ab.choose_spec.1
  replace Xa := Xa.keep Kp; replace Fv := Fv.keep Kp (ninS nab nin0); replace Fc := Fc.keep Kp (ninS nab nin0); replace Fn := Fn.keep Kp (ninS nab nin0)
  replace G := G.pop 34 d27_33 rfl rfl
  replace G := G.goto 48 d27_34 (by decide) (by decide)
  replace G := G.aloadN 49 d27_48 rfl rfl rfl
  replace G := G.iloadN 50 d27_49 rfl rfl
  replace G := G.top (y := (.int (Int32.ofNat (bs ++ [dg N 9, dg N 8, dg N 7, dg N 6, dg N 5, dg N 4, dg N 3, dg N 2, dg N 1, dg N 0]).length))) (congrArg Value.int (by rw [List.length_append]; rfl))
  obtain ⟨h2, G', Ww, Fw, Kw⟩ := G.putf 53 (host := "") (Or.inl (hw _ (List.mem_of_getElem? (i := 119) rfl))) Via.refl Fn Xa (Or.inl (hw _ (List.mem_of_getElem? (i := 120) rfl))) (hw _ (List.mem_of_getElem? (i := 82) rfl)) (ty := .int) (by decide) rfl rfl (Or.inl (List.mem_of_getElem? (i := 0) rfl)) (List.mem_of_getElem? (i := 0) rfl) d27_50 rfl
  clear G; have G := G'; clear G'
  replace Fv := Fv.other Ww (Or.inr (slot_ne (Or.inl (hw _ (List.mem_of_getElem? (i := 96) rfl))) (Or.inl (hw _ (List.mem_of_getElem? (i := 120) rfl))) (by decide) (t := (.array .byte)) (t' := .int) (by decide) (by decide)))
  replace Fc := Fc.other Ww (Or.inr (slot_ne (Or.inl (hw _ (List.mem_of_getElem? (i := 98) rfl))) (Or.inl (hw _ (List.mem_of_getElem? (i := 120) rfl))) (by decide) (t := .byte) (t' := .int) (by decide) (by decide)))
  replace Xa := Xa.wr Ww; replace Ab1 := Ab1.keep Kw (ninS nab.symm nin0)
  replace G := G.aloadN 54 d27_53 rfl rfl rfl
  exact G.retA hret rfl rfl hlk d27_54 [] all0 ⟨_, rfl, rfl, ⟨Xa, Fv, Fc, Fw, kb, Ab1⟩, rfl⟩ (Nat.le_of_ble_eq_true rfl) (Nat.le_of_ble_eq_true rfl)
set_option maxRecDepth 65536 in
set_option maxHeartbeats 40000000 in
theorem c_appI10 (l : Launch) (Z : State) (a0 : Array Value) (hw : ∀ d ∈ tables_1, d.before a0 Z = true) (hEW : EW Z a0 consts_1) (n0 : Nat) (c1 : Int32) (hc1 : ¬ c1 = 0) (S1 : Sta Z Z.heap "java/lang/String" "COMPACT_STRINGS" "Z" (.int c1)) (v2 : Value) (hv2 : v2.isRef = true) (S2 : Sta Z Z.heap "jdk/internal/util/Preconditions" "SIOOBE_FORMATTER" "Ljava/util/function/BiFunction;" v2) (t1 t2 : Addr) (kt1 kt2 : ClassId) (SD1 : Sta Z Z.heap "java/lang/Integer" "DigitOnes" "[B" (.ref t1)) (SD2 : Sta Z Z.heap "java/lang/Integer" "DigitTens" "[B" (.ref t2)) (AD1 : Arv Z Z.heap t1 kt1 .byte 100 dOnes (.int 0)) (AD2 : Arv Z Z.heap t2 kt2 .byte 100 dTens (.int 0)) (a b : Addr) (cap : Nat) (bs : List Value) (N : Nat) {h0 : Heap} (o1 : Old Z n0 h0) (ge_a : n0 ≤ a) (ge_b : n0 ≤ b) (hlo : 1000000000 ≤ N) (hhi : N < 2147483648) (hle : bs.length + 10 ≤ cap) (hcap : cap < 2147483648) (hS : Sbd Z h0 a b cap bs) :
    Con Z a0 l (⟨"java/lang/StringBuilder", "append", "(I)Ljava/lang/StringBuilder;"⟩ : MethodName) jdk_67_method_15_code 2 (some (.object "java/lang/StringBuilder")) ({ frames := 2, cells := 0, slots := 0, locals := 33 } : Room) [] #[(.ref a), (.int (Int32.ofNat N))] consts_1 h0 n0 [a, b] [a, b] (VV fun w h so => w = .ref a ∧ Sbd Z h a b cap (bs ++ [dg N 9, dg N 8, dg N 7, dg N 6, dg N 5, dg N 4, dg N 3, dg N 2, dg N 1, dg N 0]) ∧ so = []) := by
  refine Con.body (plainFor_of_name pn_java_lang_StringBuilder) hEW o1 (allS ge_a (allS ge_b all0)) #[.val (.ref a), .val (.int (Int32.ofNat N))] (fun m => by first | (simp [entryFrame, mkF, argsToLocals, Value.category]; done) | rfl) ?_
  intro p e s m below meth c B hnm hret hlk G
  replace G := G.aloadN 1 d26_0 rfl rfl rfl
  replace G := G.iloadN 2 d26_1 rfl rfl
  obtain ⟨vp, h1, sop, G', Kp, Qp⟩ := G.callSup 5 (hw _ (List.mem_of_getElem? (i := 152) rfl)) (sameOf (hw _ (List.mem_of_getElem? (i := 153) rfl)) (nfVia (y := (⟨"java/lang/AbstractStringBuilder", "ensureCapacityInternal", "(I)V"⟩ : MethodName)) rfl (hw _ (List.mem_of_getElem? (i := 124) rfl)) (hw _ (List.mem_of_getElem? (i := 122) rfl))) (by decide)) (hw _ (List.mem_of_getElem? (i := 153) rfl)) (hw _ (List.mem_of_getElem? (i := 106) rfl)) (by decide) (hw _ (List.mem_of_getElem? (i := 91) rfl)) (hw _ (List.mem_of_getElem? (i := 155) rfl)) (Ins.self hS.1) [(.int (Int32.ofNat N))] [] rfl (c_asbI10 l Z a0 hw hEW n0 c1 hc1 S1 v2 hv2 S2 t1 t2 kt1 kt2 SD1 SD2 AD1 AD2 a b cap bs N G.old ge_a ge_b hlo hhi hle hcap hS) (lenOf pd__I_Ljava_lang_AbstractStringBuilder_ rfl) d26_2 rfl (Nat.le_of_ble_eq_true rfl) (Nat.le_of_ble_eq_true rfl) (Nat.le_of_ble_eq_true rfl) (Nat.le_of_ble_eq_true rfl) (allS (Or.inl (List.mem_of_getElem? (i := 0) rfl)) (allS (Or.inl (List.mem_of_getElem? (i := 1) rfl)) all0)) (allS (List.mem_of_getElem? (i := 0) rfl) (allS (List.mem_of_getElem? (i := 1) rfl) all0)) (allS (List.mem_of_getElem? (i := 0) rfl) (allS (List.mem_of_getElem? (i := 1) rfl) all0)) rfl
  clear G; have G := G'; clear G'
  obtain ⟨wp, qp, rfl, hS1, rfl⟩ := Qp
  replace G := G.val qp
  replace G := G.pop 6 d26_5 rfl rfl
  replace G := G.aloadN 7 d26_6 rfl rfl rfl
  exact G.retA hret rfl rfl hlk d26_7 [] all0 ⟨_, rfl, rfl, hS1, rfl⟩ (Nat.le_of_ble_eq_true rfl) (Nat.le_of_ble_eq_true rfl)
theorem c_appI (l : Launch) (Z : State) (a0 : Array Value) (hw : ∀ d ∈ tables_1, d.before a0 Z = true) (hEW : EW Z a0 consts_1) (n0 : Nat) (c1 : Int32) (hc1 : ¬ c1 = 0) (S1 : Sta Z Z.heap "java/lang/String" "COMPACT_STRINGS" "Z" (.int c1)) (v2 : Value) (hv2 : v2.isRef = true) (S2 : Sta Z Z.heap "jdk/internal/util/Preconditions" "SIOOBE_FORMATTER" "Ljava/util/function/BiFunction;" v2) (t1 t2 : Addr) (kt1 kt2 : ClassId) (SD1 : Sta Z Z.heap "java/lang/Integer" "DigitOnes" "[B" (.ref t1)) (SD2 : Sta Z Z.heap "java/lang/Integer" "DigitTens" "[B" (.ref t2)) (AD1 : Arv Z Z.heap t1 kt1 .byte 100 dOnes (.int 0)) (AD2 : Arv Z Z.heap t2 kt2 .byte 100 dTens (.int 0)) (a b : Addr) (cap : Nat) (bs : List Value) (N : Nat) {h0 : Heap} (o1 : Old Z n0 h0) (ge_a : n0 ≤ a) (ge_b : n0 ≤ b) (hN : N < 2147483648) (hle : bs.length + 10 ≤ cap) (hcap : cap < 2147483648) (hS : Sbd Z h0 a b cap bs) :
    Con Z a0 l (⟨"java/lang/StringBuilder", "append", "(I)Ljava/lang/StringBuilder;"⟩ : MethodName) jdk_67_method_15_code 2 (some (.object "java/lang/StringBuilder")) ({ frames := 2, cells := 0, slots := 0, locals := 33 } : Room) [] #[(.ref a), (.int (Int32.ofNat N))] consts_1 h0 n0 [a, b] [a, b] (VV fun w h so => w = .ref a ∧ Sbd Z h a b cap (bs ++ digs N) ∧ so = []) := by
  rcases nd_cases hN with ⟨q1, q2⟩ | ⟨q1, q2⟩ | ⟨q1, q2⟩ | ⟨q1, q2⟩ | ⟨q1, q2⟩ | ⟨q1, q2⟩ | ⟨q1, q2⟩ | ⟨q1, q2⟩ | ⟨q1, q2⟩ | ⟨q1, q2⟩
  · rw [digs_1 q1 q2]; exact c_appI1 l Z a0 hw hEW n0 c1 hc1 S1 v2 hv2 S2 t1 t2 kt1 kt2 SD1 SD2 AD1 AD2 a b cap bs N o1 ge_a ge_b q1 q2 (by omega) hcap hS
  · rw [digs_2 q1 q2]; exact c_appI2 l Z a0 hw hEW n0 c1 hc1 S1 v2 hv2 S2 t1 t2 kt1 kt2 SD1 SD2 AD1 AD2 a b cap bs N o1 ge_a ge_b q1 q2 (by omega) hcap hS
  · rw [digs_3 q1 q2]; exact c_appI3 l Z a0 hw hEW n0 c1 hc1 S1 v2 hv2 S2 t1 t2 kt1 kt2 SD1 SD2 AD1 AD2 a b cap bs N o1 ge_a ge_b q1 q2 (by omega) hcap hS
  · rw [digs_4 q1 q2]; exact c_appI4 l Z a0 hw hEW n0 c1 hc1 S1 v2 hv2 S2 t1 t2 kt1 kt2 SD1 SD2 AD1 AD2 a b cap bs N o1 ge_a ge_b q1 q2 (by omega) hcap hS
  · rw [digs_5 q1 q2]; exact c_appI5 l Z a0 hw hEW n0 c1 hc1 S1 v2 hv2 S2 t1 t2 kt1 kt2 SD1 SD2 AD1 AD2 a b cap bs N o1 ge_a ge_b q1 q2 (by omega) hcap hS
  · rw [digs_6 q1 q2]; exact c_appI6 l Z a0 hw hEW n0 c1 hc1 S1 v2 hv2 S2 t1 t2 kt1 kt2 SD1 SD2 AD1 AD2 a b cap bs N o1 ge_a ge_b q1 q2 (by omega) hcap hS
  · rw [digs_7 q1 q2]; exact c_appI7 l Z a0 hw hEW n0 c1 hc1 S1 v2 hv2 S2 t1 t2 kt1 kt2 SD1 SD2 AD1 AD2 a b cap bs N o1 ge_a ge_b q1 q2 (by omega) hcap hS
  · rw [digs_8 q1 q2]; exact c_appI8 l Z a0 hw hEW n0 c1 hc1 S1 v2 hv2 S2 t1 t2 kt1 kt2 SD1 SD2 AD1 AD2 a b cap bs N o1 ge_a ge_b q1 q2 (by omega) hcap hS
  · rw [digs_9 q1 q2]; exact c_appI9 l Z a0 hw hEW n0 c1 hc1 S1 v2 hv2 S2 t1 t2 kt1 kt2 SD1 SD2 AD1 AD2 a b cap bs N o1 ge_a ge_b q1 q2 (by omega) hcap hS
  · rw [digs_10 q1 q2]; exact c_appI10 l Z a0 hw hEW n0 c1 hc1 S1 v2 hv2 S2 t1 t2 kt1 kt2 SD1 SD2 AD1 AD2 a b cap bs N o1 ge_a ge_b q1 q2 (by omega) hcap hS
theorem d41_0 : decode method_5_code 0 = .ok (.iload_n 0, 1) := by decide +kernel
theorem d41_1 : decode method_5_code 1 = .ok (.bipush 10, 2) := by decide +kernel
theorem d41_3 : decode method_5_code 3 = .ok (.if_icmp .ge 5, 3) := by decide +kernel
theorem d41_6 : decode method_5_code 6 = .ok (.iconst 1, 1) := by decide +kernel
theorem d41_7 : decode method_5_code 7 = .ok (.ireturn, 1) := by decide +kernel
theorem d41_8 : decode method_5_code 8 = .ok (.iload_n 0, 1) := by decide +kernel
theorem d41_9 : decode method_5_code 9 = .ok (.bipush 100, 2) := by decide +kernel
theorem d41_11 : decode method_5_code 11 = .ok (.if_icmp .ge 5, 3) := by decide +kernel
theorem d41_14 : decode method_5_code 14 = .ok (.iconst 2, 1) := by decide +kernel
theorem d41_15 : decode method_5_code 15 = .ok (.ireturn, 1) := by decide +kernel
theorem d41_16 : decode method_5_code 16 = .ok (.iload_n 0, 1) := by decide +kernel
theorem d41_17 : decode method_5_code 17 = .ok (.sipush 1000, 3) := by decide +kernel
theorem d41_20 : decode method_5_code 20 = .ok (.if_icmp .ge 5, 3) := by decide +kernel
theorem d41_23 : decode method_5_code 23 = .ok (.iconst 3, 1) := by decide +kernel
theorem d41_24 : decode method_5_code 24 = .ok (.ireturn, 1) := by decide +kernel
theorem d41_25 : decode method_5_code 25 = .ok (.iload_n 0, 1) := by decide +kernel
theorem d41_26 : decode method_5_code 26 = .ok (.sipush 10000, 3) := by decide +kernel
theorem d41_29 : decode method_5_code 29 = .ok (.if_icmp .ge 5, 3) := by decide +kernel
theorem d41_32 : decode method_5_code 32 = .ok (.iconst 4, 1) := by decide +kernel
theorem d41_33 : decode method_5_code 33 = .ok (.ireturn, 1) := by decide +kernel
theorem d41_34 : decode method_5_code 34 = .ok (.iload_n 0, 1) := by decide +kernel
theorem d41_35 : decode method_5_code 35 = .ok (.ldc 47, 2) := by decide +kernel
theorem d41_37 : decode method_5_code 37 = .ok (.if_icmp .ge 5, 3) := by decide +kernel
theorem d41_40 : decode method_5_code 40 = .ok (.iconst 5, 1) := by decide +kernel
theorem d41_41 : decode method_5_code 41 = .ok (.ireturn, 1) := by decide +kernel
theorem d41_42 : decode method_5_code 42 = .ok (.iload_n 0, 1) := by decide +kernel
theorem d41_43 : decode method_5_code 43 = .ok (.ldc 48, 2) := by decide +kernel
theorem d41_45 : decode method_5_code 45 = .ok (.if_icmp .ge 6, 3) := by decide +kernel
theorem d41_48 : decode method_5_code 48 = .ok (.bipush 6, 2) := by decide +kernel
theorem d41_50 : decode method_5_code 50 = .ok (.ireturn, 1) := by decide +kernel
theorem d41_51 : decode method_5_code 51 = .ok (.iload_n 0, 1) := by decide +kernel
theorem d41_52 : decode method_5_code 52 = .ok (.ldc 49, 2) := by decide +kernel
theorem d41_54 : decode method_5_code 54 = .ok (.if_icmp .ge 6, 3) := by decide +kernel
theorem d41_57 : decode method_5_code 57 = .ok (.bipush 7, 2) := by decide +kernel
theorem d41_59 : decode method_5_code 59 = .ok (.ireturn, 1) := by decide +kernel
theorem d41_60 : decode method_5_code 60 = .ok (.iload_n 0, 1) := by decide +kernel
theorem d41_61 : decode method_5_code 61 = .ok (.ldc 50, 2) := by decide +kernel
theorem d41_63 : decode method_5_code 63 = .ok (.if_icmp .ge 6, 3) := by decide +kernel
theorem d41_66 : decode method_5_code 66 = .ok (.bipush 8, 2) := by decide +kernel
theorem d41_68 : decode method_5_code 68 = .ok (.ireturn, 1) := by decide +kernel
theorem d41_69 : decode method_5_code 69 = .ok (.iload_n 0, 1) := by decide +kernel
theorem d41_70 : decode method_5_code 70 = .ok (.ldc 51, 2) := by decide +kernel
theorem d41_72 : decode method_5_code 72 = .ok (.if_icmp .ge 6, 3) := by decide +kernel
theorem d41_75 : decode method_5_code 75 = .ok (.bipush 9, 2) := by decide +kernel
theorem d41_77 : decode method_5_code 77 = .ok (.ireturn, 1) := by decide +kernel
theorem d41_78 : decode method_5_code 78 = .ok (.bipush 10, 2) := by decide +kernel
theorem d41_80 : decode method_5_code 80 = .ok (.ireturn, 1) := by decide +kernel
set_option maxRecDepth 65536 in
set_option maxHeartbeats 40000000 in
theorem c_dig1 (l : Launch) (Z : State) (a0 : Array Value) (hw : ∀ d ∈ tables_1, d.before a0 Z = true) (hEW : EW Z a0 consts_1) (n0 : Nat) (c1 : Int32) (hc1 : ¬ c1 = 0) (S1 : Sta Z Z.heap "java/lang/String" "COMPACT_STRINGS" "Z" (.int c1)) (v2 : Value) (hv2 : v2.isRef = true) (S2 : Sta Z Z.heap "jdk/internal/util/Preconditions" "SIOOBE_FORMATTER" "Ljava/util/function/BiFunction;" v2) (t1 t2 : Addr) (kt1 kt2 : ClassId) (SD1 : Sta Z Z.heap "java/lang/Integer" "DigitOnes" "[B" (.ref t1)) (SD2 : Sta Z Z.heap "java/lang/Integer" "DigitTens" "[B" (.ref t2)) (AD1 : Arv Z Z.heap t1 kt1 .byte 100 dOnes (.int 0)) (AD2 : Arv Z Z.heap t2 kt2 .byte 100 dTens (.int 0)) (N : Nat) {h0 : Heap} (o1 : Old Z n0 h0) (hlo : 0 ≤ N) (hhi : N < 10)  :
    Con Z a0 l (⟨"com/example/rebalance/rebalance/MessageQueueToStringPinLaw", "digits", "(I)I"⟩ : MethodName) method_5_code 1 (some .int) ({ frames := 0, cells := 0, slots := 0, locals := 0 } : Room) [] #[(.int (Int32.ofNat N))] consts_1 h0 n0 [] [] (VV fun w h so => w = .int (Int32.ofNat (nd N)) ∧ h = h0 ∧ so = []) := by
  refine Con.body (plainFor_of_name pn_com_example_rebalance_rebalance_MessageQueueToStringPinLaw) hEW o1 all0 #[.val (.int (Int32.ofNat N))] (fun m => by first | (simp [entryFrame, mkF, argsToLocals, Value.category]; done) | rfl) ?_
  intro p e s m below meth c B hnm hret hlk G
  have hN : N < 2147483648 := by omega
  replace G := G.iloadN 1 d41_0 rfl rfl
  replace G := G.bipush 3 (10 : Int32) d41_1 (by decide) rfl
  replace G := G.icmpF 6 d41_3 (XT.ii_ge_f (ofn_lt (n := 10) hhi (by decide))) rfl
  replace G := G.iconst 7 (1 : Int32) d41_6 rfl rfl
  exact G.retI hret hlk d41_7 [] all0 ⟨_, rfl, by rw [nd_1 hlo hhi]; rfl, rfl, rfl⟩ (Nat.le_of_ble_eq_true rfl) (Nat.le_of_ble_eq_true rfl)
set_option maxRecDepth 65536 in
set_option maxHeartbeats 40000000 in
theorem c_dig2 (l : Launch) (Z : State) (a0 : Array Value) (hw : ∀ d ∈ tables_1, d.before a0 Z = true) (hEW : EW Z a0 consts_1) (n0 : Nat) (c1 : Int32) (hc1 : ¬ c1 = 0) (S1 : Sta Z Z.heap "java/lang/String" "COMPACT_STRINGS" "Z" (.int c1)) (v2 : Value) (hv2 : v2.isRef = true) (S2 : Sta Z Z.heap "jdk/internal/util/Preconditions" "SIOOBE_FORMATTER" "Ljava/util/function/BiFunction;" v2) (t1 t2 : Addr) (kt1 kt2 : ClassId) (SD1 : Sta Z Z.heap "java/lang/Integer" "DigitOnes" "[B" (.ref t1)) (SD2 : Sta Z Z.heap "java/lang/Integer" "DigitTens" "[B" (.ref t2)) (AD1 : Arv Z Z.heap t1 kt1 .byte 100 dOnes (.int 0)) (AD2 : Arv Z Z.heap t2 kt2 .byte 100 dTens (.int 0)) (N : Nat) {h0 : Heap} (o1 : Old Z n0 h0) (hlo : 10 ≤ N) (hhi : N < 100)  :
    Con Z a0 l (⟨"com/example/rebalance/rebalance/MessageQueueToStringPinLaw", "digits", "(I)I"⟩ : MethodName) method_5_code 1 (some .int) ({ frames := 0, cells := 0, slots := 0, locals := 0 } : Room) [] #[(.int (Int32.ofNat N))] consts_1 h0 n0 [] [] (VV fun w h so => w = .int (Int32.ofNat (nd N)) ∧ h = h0 ∧ so = []) := by
  refine Con.body (plainFor_of_name pn_com_example_rebalance_rebalance_MessageQueueToStringPinLaw) hEW o1 all0 #[.val (.int (Int32.ofNat N))] (fun m => by first | (simp [entryFrame, mkF, argsToLocals, Value.category]; done) | rfl) ?_
  intro p e s m below meth c B hnm hret hlk G
  have hN : N < 2147483648 := by omega
  replace G := G.iloadN 1 d41_0 rfl rfl
  replace G := G.bipush 3 (10 : Int32) d41_1 (by decide) rfl
  replace G := G.icmpT 8 d41_3 (XT.ii_ge_t (ofn_nlt (n := 10) (by omega) hN)) (by decide) (by decide)
  replace G := G.iloadN 9 d41_8 rfl rfl
  replace G := G.bipush 11 (100 : Int32) d41_9 (by decide) rfl
  replace G := G.icmpF 14 d41_11 (XT.ii_ge_f (ofn_lt (n := 100) hhi (by decide))) rfl
  replace G := G.iconst 15 (2 : Int32) d41_14 rfl rfl
  exact G.retI hret hlk d41_15 [] all0 ⟨_, rfl, by rw [nd_2 hlo hhi]; rfl, rfl, rfl⟩ (Nat.le_of_ble_eq_true rfl) (Nat.le_of_ble_eq_true rfl)
set_option maxRecDepth 65536 in
set_option maxHeartbeats 40000000 in
theorem c_dig3 (l : Launch) (Z : State) (a0 : Array Value) (hw : ∀ d ∈ tables_1, d.before a0 Z = true) (hEW : EW Z a0 consts_1) (n0 : Nat) (c1 : Int32) (hc1 : ¬ c1 = 0) (S1 : Sta Z Z.heap "java/lang/String" "COMPACT_STRINGS" "Z" (.int c1)) (v2 : Value) (hv2 : v2.isRef = true) (S2 : Sta Z Z.heap "jdk/internal/util/Preconditions" "SIOOBE_FORMATTER" "Ljava/util/function/BiFunction;" v2) (t1 t2 : Addr) (kt1 kt2 : ClassId) (SD1 : Sta Z Z.heap "java/lang/Integer" "DigitOnes" "[B" (.ref t1)) (SD2 : Sta Z Z.heap "java/lang/Integer" "DigitTens" "[B" (.ref t2)) (AD1 : Arv Z Z.heap t1 kt1 .byte 100 dOnes (.int 0)) (AD2 : Arv Z Z.heap t2 kt2 .byte 100 dTens (.int 0)) (N : Nat) {h0 : Heap} (o1 : Old Z n0 h0) (hlo : 100 ≤ N) (hhi : N < 1000)  :
    Con Z a0 l (⟨"com/example/rebalance/rebalance/MessageQueueToStringPinLaw", "digits", "(I)I"⟩ : MethodName) method_5_code 1 (some .int) ({ frames := 0, cells := 0, slots := 0, locals := 0 } : Room) [] #[(.int (Int32.ofNat N))] consts_1 h0 n0 [] [] (VV fun w h so => w = .int (Int32.ofNat (nd N)) ∧ h = h0 ∧ so = []) := by
  refine Con.body (plainFor_of_name pn_com_example_rebalance_rebalance_MessageQueueToStringPinLaw) hEW o1 all0 #[.val (.int (Int32.ofNat N))] (fun m => by first | (simp [entryFrame, mkF, argsToLocals, Value.category]; done) | rfl) ?_
  intro p e s m below meth c B hnm hret hlk G
  have hN : N < 2147483648 := by omega
  replace G := G.iloadN 1 d41_0 rfl rfl
  replace G := G.bipush 3 (10 : Int32) d41_1 (by decide) rfl
  replace G := G.icmpT 8 d41_3 (XT.ii_ge_t (ofn_nlt (n := 10) (by omega) hN)) (by decide) (by decide)
  replace G := G.iloadN 9 d41_8 rfl rfl
  replace G := G.bipush 11 (100 : Int32) d41_9 (by decide) rfl
  replace G := G.icmpT 16 d41_11 (XT.ii_ge_t (ofn_nlt (n := 100) (by omega) hN)) (by decide) (by decide)
  replace G := G.iloadN 17 d41_16 rfl rfl
  replace G := G.sipush 20 (1000 : Int32) d41_17 (by decide) rfl
  replace G := G.icmpF 23 d41_20 (XT.ii_ge_f (ofn_lt (n := 1000) hhi (by decide))) rfl
  replace G := G.iconst 24 (3 : Int32) d41_23 rfl rfl
  exact G.retI hret hlk d41_24 [] all0 ⟨_, rfl, by rw [nd_3 hlo hhi]; rfl, rfl, rfl⟩ (Nat.le_of_ble_eq_true rfl) (Nat.le_of_ble_eq_true rfl)
set_option maxRecDepth 65536 in
set_option maxHeartbeats 40000000 in
theorem c_dig4 (l : Launch) (Z : State) (a0 : Array Value) (hw : ∀ d ∈ tables_1, d.before a0 Z = true) (hEW : EW Z a0 consts_1) (n0 : Nat) (c1 : Int32) (hc1 : ¬ c1 = 0) (S1 : Sta Z Z.heap "java/lang/String" "COMPACT_STRINGS" "Z" (.int c1)) (v2 : Value) (hv2 : v2.isRef = true) (S2 : Sta Z Z.heap "jdk/internal/util/Preconditions" "SIOOBE_FORMATTER" "Ljava/util/function/BiFunction;" v2) (t1 t2 : Addr) (kt1 kt2 : ClassId) (SD1 : Sta Z Z.heap "java/lang/Integer" "DigitOnes" "[B" (.ref t1)) (SD2 : Sta Z Z.heap "java/lang/Integer" "DigitTens" "[B" (.ref t2)) (AD1 : Arv Z Z.heap t1 kt1 .byte 100 dOnes (.int 0)) (AD2 : Arv Z Z.heap t2 kt2 .byte 100 dTens (.int 0)) (N : Nat) {h0 : Heap} (o1 : Old Z n0 h0) (hlo : 1000 ≤ N) (hhi : N < 10000)  :
    Con Z a0 l (⟨"com/example/rebalance/rebalance/MessageQueueToStringPinLaw", "digits", "(I)I"⟩ : MethodName) method_5_code 1 (some .int) ({ frames := 0, cells := 0, slots := 0, locals := 0 } : Room) [] #[(.int (Int32.ofNat N))] consts_1 h0 n0 [] [] (VV fun w h so => w = .int (Int32.ofNat (nd N)) ∧ h = h0 ∧ so = []) := by
  refine Con.body (plainFor_of_name pn_com_example_rebalance_rebalance_MessageQueueToStringPinLaw) hEW o1 all0 #[.val (.int (Int32.ofNat N))] (fun m => by first | (simp [entryFrame, mkF, argsToLocals, Value.category]; done) | rfl) ?_
  intro p e s m below meth c B hnm hret hlk G
  have hN : N < 2147483648 := by omega
  replace G := G.iloadN 1 d41_0 rfl rfl
  replace G := G.bipush 3 (10 : Int32) d41_1 (by decide) rfl
  replace G := G.icmpT 8 d41_3 (XT.ii_ge_t (ofn_nlt (n := 10) (by omega) hN)) (by decide) (by decide)
  replace G := G.iloadN 9 d41_8 rfl rfl
  replace G := G.bipush 11 (100 : Int32) d41_9 (by decide) rfl
  replace G := G.icmpT 16 d41_11 (XT.ii_ge_t (ofn_nlt (n := 100) (by omega) hN)) (by decide) (by decide)
  replace G := G.iloadN 17 d41_16 rfl rfl
  replace G := G.sipush 20 (1000 : Int32) d41_17 (by decide) rfl
  replace G := G.icmpT 25 d41_20 (XT.ii_ge_t (ofn_nlt (n := 1000) (by omega) hN)) (by decide) (by decide)
  replace G := G.iloadN 26 d41_25 rfl rfl
  replace G := G.sipush 29 (10000 : Int32) d41_26 (by decide) rfl
  replace G := G.icmpF 32 d41_29 (XT.ii_ge_f (ofn_lt (n := 10000) hhi (by decide))) rfl
  replace G := G.iconst 33 (4 : Int32) d41_32 rfl rfl
  exact G.retI hret hlk d41_33 [] all0 ⟨_, rfl, by rw [nd_4 hlo hhi]; rfl, rfl, rfl⟩ (Nat.le_of_ble_eq_true rfl) (Nat.le_of_ble_eq_true rfl)
set_option maxRecDepth 65536 in
set_option maxHeartbeats 40000000 in
theorem c_dig5 (l : Launch) (Z : State) (a0 : Array Value) (hw : ∀ d ∈ tables_1, d.before a0 Z = true) (hEW : EW Z a0 consts_1) (n0 : Nat) (c1 : Int32) (hc1 : ¬ c1 = 0) (S1 : Sta Z Z.heap "java/lang/String" "COMPACT_STRINGS" "Z" (.int c1)) (v2 : Value) (hv2 : v2.isRef = true) (S2 : Sta Z Z.heap "jdk/internal/util/Preconditions" "SIOOBE_FORMATTER" "Ljava/util/function/BiFunction;" v2) (t1 t2 : Addr) (kt1 kt2 : ClassId) (SD1 : Sta Z Z.heap "java/lang/Integer" "DigitOnes" "[B" (.ref t1)) (SD2 : Sta Z Z.heap "java/lang/Integer" "DigitTens" "[B" (.ref t2)) (AD1 : Arv Z Z.heap t1 kt1 .byte 100 dOnes (.int 0)) (AD2 : Arv Z Z.heap t2 kt2 .byte 100 dTens (.int 0)) (N : Nat) {h0 : Heap} (o1 : Old Z n0 h0) (hlo : 10000 ≤ N) (hhi : N < 100000)  :
    Con Z a0 l (⟨"com/example/rebalance/rebalance/MessageQueueToStringPinLaw", "digits", "(I)I"⟩ : MethodName) method_5_code 1 (some .int) ({ frames := 0, cells := 0, slots := 0, locals := 0 } : Room) [] #[(.int (Int32.ofNat N))] consts_1 h0 n0 [] [] (VV fun w h so => w = .int (Int32.ofNat (nd N)) ∧ h = h0 ∧ so = []) := by
  refine Con.body (plainFor_of_name pn_com_example_rebalance_rebalance_MessageQueueToStringPinLaw) hEW o1 all0 #[.val (.int (Int32.ofNat N))] (fun m => by first | (simp [entryFrame, mkF, argsToLocals, Value.category]; done) | rfl) ?_
  intro p e s m below meth c B hnm hret hlk G
  have hN : N < 2147483648 := by omega
  replace G := G.iloadN 1 d41_0 rfl rfl
  replace G := G.bipush 3 (10 : Int32) d41_1 (by decide) rfl
  replace G := G.icmpT 8 d41_3 (XT.ii_ge_t (ofn_nlt (n := 10) (by omega) hN)) (by decide) (by decide)
  replace G := G.iloadN 9 d41_8 rfl rfl
  replace G := G.bipush 11 (100 : Int32) d41_9 (by decide) rfl
  replace G := G.icmpT 16 d41_11 (XT.ii_ge_t (ofn_nlt (n := 100) (by omega) hN)) (by decide) (by decide)
  replace G := G.iloadN 17 d41_16 rfl rfl
  replace G := G.sipush 20 (1000 : Int32) d41_17 (by decide) rfl
  replace G := G.icmpT 25 d41_20 (XT.ii_ge_t (ofn_nlt (n := 1000) (by omega) hN)) (by decide) (by decide)
  replace G := G.iloadN 26 d41_25 rfl rfl
  replace G := G.sipush 29 (10000 : Int32) d41_26 (by decide) rfl
  replace G := G.icmpT 34 d41_29 (XT.ii_ge_t (ofn_nlt (n := 10000) (by omega) hN)) (by decide) (by decide)
  replace G := G.iloadN 35 d41_34 rfl rfl
  replace G := G.ldcI 37 (hw _ (List.mem_of_getElem? (i := 243) rfl)) d41_35 rfl
  replace G := G.icmpF 40 d41_37 (XT.ii_ge_f (ofn_lt (n := 100000) hhi (by decide))) rfl
  replace G := G.iconst 41 (5 : Int32) d41_40 rfl rfl
  exact G.retI hret hlk d41_41 [] all0 ⟨_, rfl, by rw [nd_5 hlo hhi]; rfl, rfl, rfl⟩ (Nat.le_of_ble_eq_true rfl) (Nat.le_of_ble_eq_true rfl)
set_option maxRecDepth 65536 in
set_option maxHeartbeats 40000000 in
theorem c_dig6 (l : Launch) (Z : State) (a0 : Array Value) (hw : ∀ d ∈ tables_1, d.before a0 Z = true) (hEW : EW Z a0 consts_1) (n0 : Nat) (c1 : Int32) (hc1 : ¬ c1 = 0) (S1 : Sta Z Z.heap "java/lang/String" "COMPACT_STRINGS" "Z" (.int c1)) (v2 : Value) (hv2 : v2.isRef = true) (S2 : Sta Z Z.heap "jdk/internal/util/Preconditions" "SIOOBE_FORMATTER" "Ljava/util/function/BiFunction;" v2) (t1 t2 : Addr) (kt1 kt2 : ClassId) (SD1 : Sta Z Z.heap "java/lang/Integer" "DigitOnes" "[B" (.ref t1)) (SD2 : Sta Z Z.heap "java/lang/Integer" "DigitTens" "[B" (.ref t2)) (AD1 : Arv Z Z.heap t1 kt1 .byte 100 dOnes (.int 0)) (AD2 : Arv Z Z.heap t2 kt2 .byte 100 dTens (.int 0)) (N : Nat) {h0 : Heap} (o1 : Old Z n0 h0) (hlo : 100000 ≤ N) (hhi : N < 1000000)  :
    Con Z a0 l (⟨"com/example/rebalance/rebalance/MessageQueueToStringPinLaw", "digits", "(I)I"⟩ : MethodName) method_5_code 1 (some .int) ({ frames := 0, cells := 0, slots := 0, locals := 0 } : Room) [] #[(.int (Int32.ofNat N))] consts_1 h0 n0 [] [] (VV fun w h so => w = .int (Int32.ofNat (nd N)) ∧ h = h0 ∧ so = []) := by
  refine Con.body (plainFor_of_name pn_com_example_rebalance_rebalance_MessageQueueToStringPinLaw) hEW o1 all0 #[.val (.int (Int32.ofNat N))] (fun m => by first | (simp [entryFrame, mkF, argsToLocals, Value.category]; done) | rfl) ?_
  intro p e s m below meth c B hnm hret hlk G
  have hN : N < 2147483648 := by omega
  replace G := G.iloadN 1 d41_0 rfl rfl
  replace G := G.bipush 3 (10 : Int32) d41_1 (by decide) rfl
  replace G := G.icmpT 8 d41_3 (XT.ii_ge_t (ofn_nlt (n := 10) (by omega) hN)) (by decide) (by decide)
  replace G := G.iloadN 9 d41_8 rfl rfl
  replace G := G.bipush 11 (100 : Int32) d41_9 (by decide) rfl
  replace G := G.icmpT 16 d41_11 (XT.ii_ge_t (ofn_nlt (n := 100) (by omega) hN)) (by decide) (by decide)
  replace G := G.iloadN 17 d41_16 rfl rfl
  replace G := G.sipush 20 (1000 : Int32) d41_17 (by decide) rfl
  replace G := G.icmpT 25 d41_20 (XT.ii_ge_t (ofn_nlt (n := 1000) (by omega) hN)) (by decide) (by decide)
  replace G := G.iloadN 26 d41_25 rfl rfl
  replace G := G.sipush 29 (10000 : Int32) d41_26 (by decide) rfl
  replace G := G.icmpT 34 d41_29 (XT.ii_ge_t (ofn_nlt (n := 10000) (by omega) hN)) (by decide) (by decide)
  replace G := G.iloadN 35 d41_34 rfl rfl
  replace G := G.ldcI 37 (hw _ (List.mem_of_getElem? (i := 243) rfl)) d41_35 rfl
  replace G := G.icmpT 42 d41_37 (XT.ii_ge_t (ofn_nlt (n := 100000) (by omega) hN)) (by decide) (by decide)
  replace G := G.iloadN 43 d41_42 rfl rfl
  replace G := G.ldcI 45 (hw _ (List.mem_of_getElem? (i := 244) rfl)) d41_43 rfl
  replace G := G.icmpF 48 d41_45 (XT.ii_ge_f (ofn_lt (n := 1000000) hhi (by decide))) rfl
  replace G := G.bipush 50 (6 : Int32) d41_48 (by decide) rfl
  exact G.retI hret hlk d41_50 [] all0 ⟨_, rfl, by rw [nd_6 hlo hhi]; rfl, rfl, rfl⟩ (Nat.le_of_ble_eq_true rfl) (Nat.le_of_ble_eq_true rfl)
set_option maxRecDepth 65536 in
set_option maxHeartbeats 40000000 in
theorem c_dig7 (l : Launch) (Z : State) (a0 : Array Value) (hw : ∀ d ∈ tables_1, d.before a0 Z = true) (hEW : EW Z a0 consts_1) (n0 : Nat) (c1 : Int32) (hc1 : ¬ c1 = 0) (S1 : Sta Z Z.heap "java/lang/String" "COMPACT_STRINGS" "Z" (.int c1)) (v2 : Value) (hv2 : v2.isRef = true) (S2 : Sta Z Z.heap "jdk/internal/util/Preconditions" "SIOOBE_FORMATTER" "Ljava/util/function/BiFunction;" v2) (t1 t2 : Addr) (kt1 kt2 : ClassId) (SD1 : Sta Z Z.heap "java/lang/Integer" "DigitOnes" "[B" (.ref t1)) (SD2 : Sta Z Z.heap "java/lang/Integer" "DigitTens" "[B" (.ref t2)) (AD1 : Arv Z Z.heap t1 kt1 .byte 100 dOnes (.int 0)) (AD2 : Arv Z Z.heap t2 kt2 .byte 100 dTens (.int 0)) (N : Nat) {h0 : Heap} (o1 : Old Z n0 h0) (hlo : 1000000 ≤ N) (hhi : N < 10000000)  :
    Con Z a0 l (⟨"com/example/rebalance/rebalance/MessageQueueToStringPinLaw", "digits", "(I)I"⟩ : MethodName) method_5_code 1 (some .int) ({ frames := 0, cells := 0, slots := 0, locals := 0 } : Room) [] #[(.int (Int32.ofNat N))] consts_1 h0 n0 [] [] (VV fun w h so => w = .int (Int32.ofNat (nd N)) ∧ h = h0 ∧ so = []) := by
  refine Con.body (plainFor_of_name pn_com_example_rebalance_rebalance_MessageQueueToStringPinLaw) hEW o1 all0 #[.val (.int (Int32.ofNat N))] (fun m => by first | (simp [entryFrame, mkF, argsToLocals, Value.category]; done) | rfl) ?_
  intro p e s m below meth c B hnm hret hlk G
  have hN : N < 2147483648 := by omega
  replace G := G.iloadN 1 d41_0 rfl rfl
  replace G := G.bipush 3 (10 : Int32) d41_1 (by decide) rfl
  replace G := G.icmpT 8 d41_3 (XT.ii_ge_t (ofn_nlt (n := 10) (by omega) hN)) (by decide) (by decide)
  replace G := G.iloadN 9 d41_8 rfl rfl
  replace G := G.bipush 11 (100 : Int32) d41_9 (by decide) rfl
  replace G := G.icmpT 16 d41_11 (XT.ii_ge_t (ofn_nlt (n := 100) (by omega) hN)) (by decide) (by decide)
  replace G := G.iloadN 17 d41_16 rfl rfl
  replace G := G.sipush 20 (1000 : Int32) d41_17 (by decide) rfl
  replace G := G.icmpT 25 d41_20 (XT.ii_ge_t (ofn_nlt (n := 1000) (by omega) hN)) (by decide) (by decide)
  replace G := G.iloadN 26 d41_25 rfl rfl
  replace G := G.sipush 29 (10000 : Int32) d41_26 (by decide) rfl
  replace G := G.icmpT 34 d41_29 (XT.ii_ge_t (ofn_nlt (n := 10000) (by omega) hN)) (by decide) (by decide)
  replace G := G.iloadN 35 d41_34 rfl rfl
  replace G := G.ldcI 37 (hw _ (List.mem_of_getElem? (i := 243) rfl)) d41_35 rfl
  replace G := G.icmpT 42 d41_37 (XT.ii_ge_t (ofn_nlt (n := 100000) (by omega) hN)) (by decide) (by decide)
  replace G := G.iloadN 43 d41_42 rfl rfl
  replace G := G.ldcI 45 (hw _ (List.mem_of_getElem? (i := 244) rfl)) d41_43 rfl
  replace G := G.icmpT 51 d41_45 (XT.ii_ge_t (ofn_nlt (n := 1000000) (by omega) hN)) (by decide) (by decide)
  replace G := G.iloadN 52 d41_51 rfl rfl
  replace G := G.ldcI 54 (hw _ (List.mem_of_getElem? (i := 245) rfl)) d41_52 rfl
  replace G := G.icmpF 57 d41_54 (XT.ii_ge_f (ofn_lt (n := 10000000) hhi (by decide))) rfl
  replace G := G.bipush 59 (7 : Int32) d41_57 (by decide) rfl
  exact G.retI hret hlk d41_59 [] all0 ⟨_, rfl, by rw [nd_7 hlo hhi]; rfl, rfl, rfl⟩ (Nat.le_of_ble_eq_true rfl) (Nat.le_of_ble_eq_true rfl)
set_option maxRecDepth 65536 in
set_option maxHeartbeats 40000000 in
theorem c_dig8 (l : Launch) (Z : State) (a0 : Array Value) (hw : ∀ d ∈ tables_1, d.before a0 Z = true) (hEW : EW Z a0 consts_1) (n0 : Nat) (c1 : Int32) (hc1 : ¬ c1 = 0) (S1 : Sta Z Z.heap "java/lang/String" "COMPACT_STRINGS" "Z" (.int c1)) (v2 : Value) (hv2 : v2.isRef = true) (S2 : Sta Z Z.heap "jdk/internal/util/Preconditions" "SIOOBE_FORMATTER" "Ljava/util/function/BiFunction;" v2) (t1 t2 : Addr) (kt1 kt2 : ClassId) (SD1 : Sta Z Z.heap "java/lang/Integer" "DigitOnes" "[B" (.ref t1)) (SD2 : Sta Z Z.heap "java/lang/Integer" "DigitTens" "[B" (.ref t2)) (AD1 : Arv Z Z.heap t1 kt1 .byte 100 dOnes (.int 0)) (AD2 : Arv Z Z.heap t2 kt2 .byte 100 dTens (.int 0)) (N : Nat) {h0 : Heap} (o1 : Old Z n0 h0) (hlo : 10000000 ≤ N) (hhi : N < 100000000)  :
    Con Z a0 l (⟨"com/example/rebalance/rebalance/MessageQueueToStringPinLaw", "digits", "(I)I"⟩ : MethodName) method_5_code 1 (some .int) ({ frames := 0, cells := 0, slots := 0, locals := 0 } : Room) [] #[(.int (Int32.ofNat N))] consts_1 h0 n0 [] [] (VV fun w h so => w = .int (Int32.ofNat (nd N)) ∧ h = h0 ∧ so = []) := by
  refine Con.body (plainFor_of_name pn_com_example_rebalance_rebalance_MessageQueueToStringPinLaw) hEW o1 all0 #[.val (.int (Int32.ofNat N))] (fun m => by first | (simp [entryFrame, mkF, argsToLocals, Value.category]; done) | rfl) ?_
  intro p e s m below meth c B hnm hret hlk G
  have hN : N < 2147483648 := by omega
  replace G := G.iloadN 1 d41_0 rfl rfl
  replace G := G.bipush 3 (10 : Int32) d41_1 (by decide) rfl
  replace G := G.icmpT 8 d41_3 (XT.ii_ge_t (ofn_nlt (n := 10) (by omega) hN)) (by decide) (by decide)
  replace G := G.iloadN 9 d41_8 rfl rfl
  replace G := G.bipush 11 (100 : Int32) d41_9 (by decide) rfl
  replace G := G.icmpT 16 d41_11 (XT.ii_ge_t (ofn_nlt (n := 100) (by omega) hN)) (by decide) (by decide)
  replace G := G.iloadN 17 d41_16 rfl rfl
  replace G := G.sipush 20 (1000 : Int32) d41_17 (by decide) rfl
  replace G := G.icmpT 25 d41_20 (XT.ii_ge_t (ofn_nlt (n := 1000) (by omega) hN)) (by decide) (by decide)
  replace G := G.iloadN 26 d41_25 rfl rfl
  replace G := G.sipush 29 (10000 : Int32) d41_26 (by decide) rfl
  replace G := G.icmpT 34 d41_29 (XT.ii_ge_t (ofn_nlt (n := 10000) (by omega) hN)) (by decide) (by decide)
  replace G := G.iloadN 35 d41_34 rfl rfl
  replace G := G.ldcI 37 (hw _ (List.mem_of_getElem? (i := 243) rfl)) d41_35 rfl
  replace G := G.icmpT 42 d41_37 (XT.ii_ge_t (ofn_nlt (n := 100000) (by omega) hN)) (by decide) (by decide)
  replace G := G.iloadN 43 d41_42 rfl rfl
  replace G := G.ldcI 45 (hw _ (List.mem_of_getElem? (i := 244) rfl)) d41_43 rfl
  replace G := G.icmpT 51 d41_45 (XT.ii_ge_t (ofn_nlt (n := 1000000) (by omega) hN)) (by decide) (by decide)
  replace G := G.iloadN 52 d41_51 rfl rfl
  replace G := G.ldcI 54 (hw _ (List.mem_of_getElem? (i := 245) rfl)) d41_52 rfl
  replace G := G.icmpT 60 d41_54 (XT.ii_ge_t (ofn_nlt (n := 10000000) (by omega) hN)) (by decide) (by decide)
  replace G := G.iloadN 61 d41_60 rfl rfl
  replace G := G.ldcI 63 (hw _ (List.mem_of_getElem? (i := 246) rfl)) d41_61 rfl
  replace G := G.icmpF 66 d41_63 (XT.ii_ge_f (ofn_lt (n := 100000000) hhi (by decide))) rfl
  replace G := G.bipush 68 (8 : Int32) d41_66 (by decide) rfl
  exact G.retI hret hlk d41_68 [] all0 ⟨_, rfl, by rw [nd_8 hlo hhi]; rfl, rfl, rfl⟩ (Nat.le_of_ble_eq_true rfl) (Nat.le_of_ble_eq_true rfl)
set_option maxRecDepth 65536 in
set_option maxHeartbeats 40000000 in
theorem c_dig9 (l : Launch) (Z : State) (a0 : Array Value) (hw : ∀ d ∈ tables_1, d.before a0 Z = true) (hEW : EW Z a0 consts_1) (n0 : Nat) (c1 : Int32) (hc1 : ¬ c1 = 0) (S1 : Sta Z Z.heap "java/lang/String" "COMPACT_STRINGS" "Z" (.int c1)) (v2 : Value) (hv2 : v2.isRef = true) (S2 : Sta Z Z.heap "jdk/internal/util/Preconditions" "SIOOBE_FORMATTER" "Ljava/util/function/BiFunction;" v2) (t1 t2 : Addr) (kt1 kt2 : ClassId) (SD1 : Sta Z Z.heap "java/lang/Integer" "DigitOnes" "[B" (.ref t1)) (SD2 : Sta Z Z.heap "java/lang/Integer" "DigitTens" "[B" (.ref t2)) (AD1 : Arv Z Z.heap t1 kt1 .byte 100 dOnes (.int 0)) (AD2 : Arv Z Z.heap t2 kt2 .byte 100 dTens (.int 0)) (N : Nat) {h0 : Heap} (o1 : Old Z n0 h0) (hlo : 100000000 ≤ N) (hhi : N < 1000000000)  :
    Con Z a0 l (⟨"com/example/rebalance/rebalance/MessageQueueToStringPinLaw", "digits", "(I)I"⟩ : MethodName) method_5_code 1 (some .int) ({ frames := 0, cells := 0, slots := 0, locals := 0 } : Room) [] #[(.int (Int32.ofNat N))] consts_1 h0 n0 [] [] (VV fun w h so => w = .int (Int32.ofNat (nd N)) ∧ h = h0 ∧ so = []) := by
  refine Con.body (plainFor_of_name pn_com_example_rebalance_rebalance_MessageQueueToStringPinLaw) hEW o1 all0 #[.val (.int (Int32.ofNat N))] (fun m => by first | (simp [entryFrame, mkF, argsToLocals, Value.category]; done) | rfl) ?_
  intro p e s m below meth c B hnm hret hlk G
  have hN : N < 2147483648 := by omega
  replace G := G.iloadN 1 d41_0 rfl rfl
  replace G := G.bipush 3 (10 : Int32) d41_1 (by decide) rfl
  replace G := G.icmpT 8 d41_3 (XT.ii_ge_t (ofn_nlt (n := 10) (by omega) hN)) (by decide) (by decide)
  replace G := G.iloadN 9 d41_8 rfl rfl
  replace G := G.bipush 11 (100 : Int32) d41_9 (by decide) rfl
  replace G := G.icmpT 16 d41_11 (XT.ii_ge_t (ofn_nlt (n := 100) (by omega) hN)) (by decide) (by decide)
  replace G := G.iloadN 17 d41_16 rfl rfl
  replace G := G.sipush 20 (1000 : Int32) d41_17 (by decide) rfl
  replace G := G.icmpT 25 d41_20 (XT.ii_ge_t (ofn_nlt (n := 1000) (by omega) hN)) (by decide) (by decide)
  replace G := G.iloadN 26 d41_25 rfl rfl
  replace G := G.sipush 29 (10000 : Int32) d41_26 (by decide) rfl
  replace G := G.icmpT 34 d41_29 (XT.ii_ge_t (ofn_nlt (n := 10000) (by omega) hN)) (by decide) (by decide)
  replace G := G.iloadN 35 d41_34 rfl rfl
  replace G := G.ldcI 37 (hw _ (List.mem_of_getElem? (i := 243) rfl)) d41_35 rfl
  replace G := G.icmpT 42 d41_37 (XT.ii_ge_t (ofn_nlt (n := 100000) (by omega) hN)) (by decide) (by decide)
  replace G := G.iloadN 43 d41_42 rfl rfl
  replace G := G.ldcI 45 (hw _ (List.mem_of_getElem? (i := 244) rfl)) d41_43 rfl
  replace G := G.icmpT 51 d41_45 (XT.ii_ge_t (ofn_nlt (n := 1000000) (by omega) hN)) (by decide) (by decide)
  replace G := G.iloadN 52 d41_51 rfl rfl
  replace G := G.ldcI 54 (hw _ (List.mem_of_getElem? (i := 245) rfl)) d41_52 rfl
  replace G := G.icmpT 60 d41_54 (XT.ii_ge_t (ofn_nlt (n := 10000000) (by omega) hN)) (by decide) (by decide)
  replace G := G.iloadN 61 d41_60 rfl rfl
  replace G := G.ldcI 63 (hw _ (List.mem_of_getElem? (i := 246) rfl)) d41_61 rfl
  replace G := G.icmpT 69 d41_63 (XT.ii_ge_t (ofn_nlt (n := 100000000) (by omega) hN)) (by decide) (by decide)
  replace G := G.iloadN 70 d41_69 rfl rfl
  replace G := G.ldcI 72 (hw _ (List.mem_of_getElem? (i := 247) rfl)) d41_70 rfl
  replace G := G.icmpF 75 d41_72 (XT.ii_ge_f (ofn_lt (n := 1000000000) hhi (by decide))) rfl
  replace G := G.bipush 77 (9 : Int32) d41_75 (by decide) rfl
  exact G.retI hret hlk d41_77 [] all0 ⟨_, rfl, by rw [nd_9 hlo hhi]; rfl, rfl, rfl⟩ (Nat.le_of_ble_eq_true rfl) (Nat.le_of_ble_eq_true rfl)
set_option maxRecDepth 65536 in
set_option maxHeartbeats 40000000 in
theorem c_dig10 (l : Launch) (Z : State) (a0 : Array Value) (hw : ∀ d ∈ tables_1, d.before a0 Z = true) (hEW : EW Z a0 consts_1) (n0 : Nat) (c1 : Int32) (hc1 : ¬ c1 = 0) (S1 : Sta Z Z.heap "java/lang/String" "COMPACT_STRINGS" "Z" (.int c1)) (v2 : Value) (hv2 : v2.isRef = true) (S2 : Sta Z Z.heap "jdk/internal/util/Preconditions" "SIOOBE_FORMATTER" "Ljava/util/function/BiFunction;" v2) (t1 t2 : Addr) (kt1 kt2 : ClassId) (SD1 : Sta Z Z.heap "java/lang/Integer" "DigitOnes" "[B" (.ref t1)) (SD2 : Sta Z Z.heap "java/lang/Integer" "DigitTens" "[B" (.ref t2)) (AD1 : Arv Z Z.heap t1 kt1 .byte 100 dOnes (.int 0)) (AD2 : Arv Z Z.heap t2 kt2 .byte 100 dTens (.int 0)) (N : Nat) {h0 : Heap} (o1 : Old Z n0 h0) (hlo : 1000000000 ≤ N) (hhi : N < 2147483648)  :
    Con Z a0 l (⟨"com/example/rebalance/rebalance/MessageQueueToStringPinLaw", "digits", "(I)I"⟩ : MethodName) method_5_code 1 (some .int) ({ frames := 0, cells := 0, slots := 0, locals := 0 } : Room) [] #[(.int (Int32.ofNat N))] consts_1 h0 n0 [] [] (VV fun w h so => w = .int (Int32.ofNat (nd N)) ∧ h = h0 ∧ so = []) := by
  refine Con.body (plainFor_of_name pn_com_example_rebalance_rebalance_MessageQueueToStringPinLaw) hEW o1 all0 #[.val (.int (Int32.ofNat N))] (fun m => by first | (simp [entryFrame, mkF, argsToLocals, Value.category]; done) | rfl) ?_
  intro p e s m below meth c B hnm hret hlk G
  have hN : N < 2147483648 := by omega
  replace G := G.iloadN 1 d41_0 rfl rfl
  replace G := G.bipush 3 (10 : Int32) d41_1 (by decide) rfl
  replace G := G.icmpT 8 d41_3 (XT.ii_ge_t (ofn_nlt (n := 10) (by omega) hN)) (by decide) (by decide)
  replace G := G.iloadN 9 d41_8 rfl rfl
  replace G := G.bipush 11 (100 : Int32) d41_9 (by decide) rfl
  replace G := G.icmpT 16 d41_11 (XT.ii_ge_t (ofn_nlt (n := 100) (by omega) hN)) (by decide) (by decide)
  replace G := G.iloadN 17 d41_16 rfl rfl
  replace G := G.sipush 20 (1000 : Int32) d41_17 (by decide) rfl
  replace G := G.icmpT 25 d41_20 (XT.ii_ge_t (ofn_nlt (n := 1000) (by omega) hN)) (by decide) (by decide)
  replace G := G.iloadN 26 d41_25 rfl rfl
  replace G := G.sipush 29 (10000 : Int32) d41_26 (by decide) rfl
  replace G := G.icmpT 34 d41_29 (XT.ii_ge_t (ofn_nlt (n := 10000) (by omega) hN)) (by decide) (by decide)
  replace G := G.iloadN 35 d41_34 rfl rfl
  replace G := G.ldcI 37 (hw _ (List.mem_of_getElem? (i := 243) rfl)) d41_35 rfl
  replace G := G.icmpT 42 d41_37 (XT.ii_ge_t (ofn_nlt (n := 100000) (by omega) hN)) (by decide) (by decide)
  replace G := G.iloadN 43 d41_42 rfl rfl
  replace G := G.ldcI 45 (hw _ (List.mem_of_getElem? (i := 244) rfl)) d41_43 rfl
  replace G := G.icmpT 51 d41_45 (XT.ii_ge_t (ofn_nlt (n := 1000000) (by omega) hN)) (by decide) (by decide)
  replace G := G.iloadN 52 d41_51 rfl rfl
  replace G := G.ldcI 54 (hw _ (List.mem_of_getElem? (i := 245) rfl)) d41_52 rfl
  replace G := G.icmpT 60 d41_54 (XT.ii_ge_t (ofn_nlt (n := 10000000) (by omega) hN)) (by decide) (by decide)
  replace G := G.iloadN 61 d41_60 rfl rfl
  replace G := G.ldcI 63 (hw _ (List.mem_of_getElem? (i := 246) rfl)) d41_61 rfl
  replace G := G.icmpT 69 d41_63 (XT.ii_ge_t (ofn_nlt (n := 100000000) (by omega) hN)) (by decide) (by decide)
  replace G := G.iloadN 70 d41_69 rfl rfl
  replace G := G.ldcI 72 (hw _ (List.mem_of_getElem? (i := 247) rfl)) d41_70 rfl
  replace G := G.icmpT 78 d41_72 (XT.ii_ge_t (ofn_nlt (n := 1000000000) (by omega) hN)) (by decide) (by decide)
  replace G := G.bipush 80 (10 : Int32) d41_78 (by decide) rfl
  exact G.retI hret hlk d41_80 [] all0 ⟨_, rfl, by rw [nd_10 hlo hhi]; rfl, rfl, rfl⟩ (Nat.le_of_ble_eq_true rfl) (Nat.le_of_ble_eq_true rfl)
theorem c_dig (l : Launch) (Z : State) (a0 : Array Value) (hw : ∀ d ∈ tables_1, d.before a0 Z = true) (hEW : EW Z a0 consts_1) (n0 : Nat) (c1 : Int32) (hc1 : ¬ c1 = 0) (S1 : Sta Z Z.heap "java/lang/String" "COMPACT_STRINGS" "Z" (.int c1)) (v2 : Value) (hv2 : v2.isRef = true) (S2 : Sta Z Z.heap "jdk/internal/util/Preconditions" "SIOOBE_FORMATTER" "Ljava/util/function/BiFunction;" v2) (t1 t2 : Addr) (kt1 kt2 : ClassId) (SD1 : Sta Z Z.heap "java/lang/Integer" "DigitOnes" "[B" (.ref t1)) (SD2 : Sta Z Z.heap "java/lang/Integer" "DigitTens" "[B" (.ref t2)) (AD1 : Arv Z Z.heap t1 kt1 .byte 100 dOnes (.int 0)) (AD2 : Arv Z Z.heap t2 kt2 .byte 100 dTens (.int 0)) (N : Nat) {h0 : Heap} (o1 : Old Z n0 h0) (hN : N < 2147483648) :
    Con Z a0 l (⟨"com/example/rebalance/rebalance/MessageQueueToStringPinLaw", "digits", "(I)I"⟩ : MethodName) method_5_code 1 (some .int) ({ frames := 0, cells := 0, slots := 0, locals := 0 } : Room) [] #[(.int (Int32.ofNat N))] consts_1 h0 n0 [] [] (VV fun w h so => w = .int (Int32.ofNat (nd N)) ∧ h = h0 ∧ so = []) := by
  rcases nd_cases hN with ⟨q1, q2⟩ | ⟨q1, q2⟩ | ⟨q1, q2⟩ | ⟨q1, q2⟩ | ⟨q1, q2⟩ | ⟨q1, q2⟩ | ⟨q1, q2⟩ | ⟨q1, q2⟩ | ⟨q1, q2⟩ | ⟨q1, q2⟩
  · exact c_dig1 l Z a0 hw hEW n0 c1 hc1 S1 v2 hv2 S2 t1 t2 kt1 kt2 SD1 SD2 AD1 AD2 N o1 q1 q2
  · exact c_dig2 l Z a0 hw hEW n0 c1 hc1 S1 v2 hv2 S2 t1 t2 kt1 kt2 SD1 SD2 AD1 AD2 N o1 q1 q2
  · exact c_dig3 l Z a0 hw hEW n0 c1 hc1 S1 v2 hv2 S2 t1 t2 kt1 kt2 SD1 SD2 AD1 AD2 N o1 q1 q2
  · exact c_dig4 l Z a0 hw hEW n0 c1 hc1 S1 v2 hv2 S2 t1 t2 kt1 kt2 SD1 SD2 AD1 AD2 N o1 q1 q2
  · exact c_dig5 l Z a0 hw hEW n0 c1 hc1 S1 v2 hv2 S2 t1 t2 kt1 kt2 SD1 SD2 AD1 AD2 N o1 q1 q2
  · exact c_dig6 l Z a0 hw hEW n0 c1 hc1 S1 v2 hv2 S2 t1 t2 kt1 kt2 SD1 SD2 AD1 AD2 N o1 q1 q2
  · exact c_dig7 l Z a0 hw hEW n0 c1 hc1 S1 v2 hv2 S2 t1 t2 kt1 kt2 SD1 SD2 AD1 AD2 N o1 q1 q2
  · exact c_dig8 l Z a0 hw hEW n0 c1 hc1 S1 v2 hv2 S2 t1 t2 kt1 kt2 SD1 SD2 AD1 AD2 N o1 q1 q2
  · exact c_dig9 l Z a0 hw hEW n0 c1 hc1 S1 v2 hv2 S2 t1 t2 kt1 kt2 SD1 SD2 AD1 AD2 N o1 q1 q2
  · exact c_dig10 l Z a0 hw hEW n0 c1 hc1 S1 v2 hv2 S2 t1 t2 kt1 kt2 SD1 SD2 AD1 AD2 N o1 q1 q2
theorem d48_0 : decode method_4_code 0 = .ok (.iload_n 0, 1) := by decide +kernel
theorem d48_1 : decode method_4_code 1 = .ok (.ifCond .gt 5, 3) := by decide +kernel
theorem d48_4 : decode method_4_code 4 = .ok (.iconst 1, 1) := by decide +kernel
theorem d48_5 : decode method_4_code 5 = .ok (.ireturn, 1) := by decide +kernel
theorem d48_6 : decode method_4_code 6 = .ok (.iload_n 0, 1) := by decide +kernel
theorem d48_7 : decode method_4_code 7 = .ok (.iconst 1, 1) := by decide +kernel
theorem d48_8 : decode method_4_code 8 = .ok (.if_icmp .ne 6, 3) := by decide +kernel
theorem d48_11 : decode method_4_code 11 = .ok (.bipush 10, 2) := by decide +kernel
theorem d48_13 : decode method_4_code 13 = .ok (.ireturn, 1) := by decide +kernel
theorem d48_14 : decode method_4_code 14 = .ok (.iload_n 0, 1) := by decide +kernel
theorem d48_15 : decode method_4_code 15 = .ok (.iconst 2, 1) := by decide +kernel
theorem d48_16 : decode method_4_code 16 = .ok (.if_icmp .ne 6, 3) := by decide +kernel
theorem d48_19 : decode method_4_code 19 = .ok (.bipush 100, 2) := by decide +kernel
theorem d48_21 : decode method_4_code 21 = .ok (.ireturn, 1) := by decide +kernel
theorem d48_22 : decode method_4_code 22 = .ok (.iload_n 0, 1) := by decide +kernel
theorem d48_23 : decode method_4_code 23 = .ok (.iconst 3, 1) := by decide +kernel
theorem d48_24 : decode method_4_code 24 = .ok (.if_icmp .ne 7, 3) := by decide +kernel
theorem d48_27 : decode method_4_code 27 = .ok (.sipush 1000, 3) := by decide +kernel
theorem d48_30 : decode method_4_code 30 = .ok (.ireturn, 1) := by decide +kernel
theorem d48_31 : decode method_4_code 31 = .ok (.iload_n 0, 1) := by decide +kernel
theorem d48_32 : decode method_4_code 32 = .ok (.iconst 4, 1) := by decide +kernel
theorem d48_33 : decode method_4_code 33 = .ok (.if_icmp .ne 7, 3) := by decide +kernel
theorem d48_36 : decode method_4_code 36 = .ok (.sipush 10000, 3) := by decide +kernel
theorem d48_39 : decode method_4_code 39 = .ok (.ireturn, 1) := by decide +kernel
theorem d48_40 : decode method_4_code 40 = .ok (.iload_n 0, 1) := by decide +kernel
theorem d48_41 : decode method_4_code 41 = .ok (.iconst 5, 1) := by decide +kernel
theorem d48_42 : decode method_4_code 42 = .ok (.if_icmp .ne 6, 3) := by decide +kernel
theorem d48_45 : decode method_4_code 45 = .ok (.ldc 47, 2) := by decide +kernel
theorem d48_47 : decode method_4_code 47 = .ok (.ireturn, 1) := by decide +kernel
theorem d48_48 : decode method_4_code 48 = .ok (.iload_n 0, 1) := by decide +kernel
theorem d48_49 : decode method_4_code 49 = .ok (.bipush 6, 2) := by decide +kernel
theorem d48_51 : decode method_4_code 51 = .ok (.if_icmp .ne 6, 3) := by decide +kernel
theorem d48_54 : decode method_4_code 54 = .ok (.ldc 48, 2) := by decide +kernel
theorem d48_56 : decode method_4_code 56 = .ok (.ireturn, 1) := by decide +kernel
theorem d48_57 : decode method_4_code 57 = .ok (.iload_n 0, 1) := by decide +kernel
theorem d48_58 : decode method_4_code 58 = .ok (.bipush 7, 2) := by decide +kernel
theorem d48_60 : decode method_4_code 60 = .ok (.if_icmp .ne 6, 3) := by decide +kernel
theorem d48_63 : decode method_4_code 63 = .ok (.ldc 49, 2) := by decide +kernel
theorem d48_65 : decode method_4_code 65 = .ok (.ireturn, 1) := by decide +kernel
theorem d48_66 : decode method_4_code 66 = .ok (.iload_n 0, 1) := by decide +kernel
theorem d48_67 : decode method_4_code 67 = .ok (.bipush 8, 2) := by decide +kernel
theorem d48_69 : decode method_4_code 69 = .ok (.if_icmp .ne 6, 3) := by decide +kernel
theorem d48_72 : decode method_4_code 72 = .ok (.ldc 50, 2) := by decide +kernel
theorem d48_74 : decode method_4_code 74 = .ok (.ireturn, 1) := by decide +kernel
theorem d48_75 : decode method_4_code 75 = .ok (.ldc 51, 2) := by decide +kernel
theorem d48_77 : decode method_4_code 77 = .ok (.ireturn, 1) := by decide +kernel
set_option maxRecDepth 65536 in
set_option maxHeartbeats 40000000 in
theorem c_pow0 (l : Launch) (Z : State) (a0 : Array Value) (hw : ∀ d ∈ tables_1, d.before a0 Z = true) (hEW : EW Z a0 consts_1) (n0 : Nat) (c1 : Int32) (hc1 : ¬ c1 = 0) (S1 : Sta Z Z.heap "java/lang/String" "COMPACT_STRINGS" "Z" (.int c1)) (v2 : Value) (hv2 : v2.isRef = true) (S2 : Sta Z Z.heap "jdk/internal/util/Preconditions" "SIOOBE_FORMATTER" "Ljava/util/function/BiFunction;" v2) (t1 t2 : Addr) (kt1 kt2 : ClassId) (SD1 : Sta Z Z.heap "java/lang/Integer" "DigitOnes" "[B" (.ref t1)) (SD2 : Sta Z Z.heap "java/lang/Integer" "DigitTens" "[B" (.ref t2)) (AD1 : Arv Z Z.heap t1 kt1 .byte 100 dOnes (.int 0)) (AD2 : Arv Z Z.heap t2 kt2 .byte 100 dTens (.int 0))  {h0 : Heap} (o1 : Old Z n0 h0)  :
    Con Z a0 l (⟨"com/example/rebalance/rebalance/MessageQueueToStringPinLaw", "pow10", "(I)I"⟩ : MethodName) method_4_code 1 (some .int) ({ frames := 0, cells := 0, slots := 0, locals := 0 } : Room) [] #[(.int (Int32.ofNat 0))] consts_1 h0 n0 [] [] (VV fun w h so => w = .int (Int32.ofNat (10 ^ 0)) ∧ h = h0 ∧ so = []) := by
  refine Con.body (plainFor_of_name pn_com_example_rebalance_rebalance_MessageQueueToStringPinLaw) hEW o1 all0 #[.val (.int (Int32.ofNat 0))] (fun m => by first | (simp [entryFrame, mkF, argsToLocals, Value.category]; done) | rfl) ?_
  intro p e s m below meth c B hnm hret hlk G
  replace G := G.iloadN 1 d48_0 rfl rfl
  replace G := G.ifF 4 d48_1 (XT.i0_gt_f (by decide)) rfl
  replace G := G.iconst 5 (1 : Int32) d48_4 rfl rfl
  exact G.retI hret hlk d48_5 [] all0 ⟨_, rfl, rfl, rfl, rfl⟩ (Nat.le_of_ble_eq_true rfl) (Nat.le_of_ble_eq_true rfl)
set_option maxRecDepth 65536 in
set_option maxHeartbeats 40000000 in
theorem c_pow1 (l : Launch) (Z : State) (a0 : Array Value) (hw : ∀ d ∈ tables_1, d.before a0 Z = true) (hEW : EW Z a0 consts_1) (n0 : Nat) (c1 : Int32) (hc1 : ¬ c1 = 0) (S1 : Sta Z Z.heap "java/lang/String" "COMPACT_STRINGS" "Z" (.int c1)) (v2 : Value) (hv2 : v2.isRef = true) (S2 : Sta Z Z.heap "jdk/internal/util/Preconditions" "SIOOBE_FORMATTER" "Ljava/util/function/BiFunction;" v2) (t1 t2 : Addr) (kt1 kt2 : ClassId) (SD1 : Sta Z Z.heap "java/lang/Integer" "DigitOnes" "[B" (.ref t1)) (SD2 : Sta Z Z.heap "java/lang/Integer" "DigitTens" "[B" (.ref t2)) (AD1 : Arv Z Z.heap t1 kt1 .byte 100 dOnes (.int 0)) (AD2 : Arv Z Z.heap t2 kt2 .byte 100 dTens (.int 0))  {h0 : Heap} (o1 : Old Z n0 h0)  :
    Con Z a0 l (⟨"com/example/rebalance/rebalance/MessageQueueToStringPinLaw", "pow10", "(I)I"⟩ : MethodName) method_4_code 1 (some .int) ({ frames := 0, cells := 0, slots := 0, locals := 0 } : Room) [] #[(.int (Int32.ofNat 1))] consts_1 h0 n0 [] [] (VV fun w h so => w = .int (Int32.ofNat (10 ^ 1)) ∧ h = h0 ∧ so = []) := by
  refine Con.body (plainFor_of_name pn_com_example_rebalance_rebalance_MessageQueueToStringPinLaw) hEW o1 all0 #[.val (.int (Int32.ofNat 1))] (fun m => by first | (simp [entryFrame, mkF, argsToLocals, Value.category]; done) | rfl) ?_
  intro p e s m below meth c B hnm hret hlk G
  replace G := G.iloadN 1 d48_0 rfl rfl
  replace G := G.ifT 6 d48_1 (XT.i0_gt_t (by decide)) (by decide) (by decide)
  replace G := G.iloadN 7 d48_6 rfl rfl
  replace G := G.iconst 8 (1 : Int32) d48_7 rfl rfl
  replace G := G.icmpF 11 d48_8 (XT.ii_ne_f rfl) rfl
  replace G := G.bipush 13 (10 : Int32) d48_11 (by decide) rfl
  exact G.retI hret hlk d48_13 [] all0 ⟨_, rfl, rfl, rfl, rfl⟩ (Nat.le_of_ble_eq_true rfl) (Nat.le_of_ble_eq_true rfl)
set_option maxRecDepth 65536 in
set_option maxHeartbeats 40000000 in
theorem c_pow2 (l : Launch) (Z : State) (a0 : Array Value) (hw : ∀ d ∈ tables_1, d.before a0 Z = true) (hEW : EW Z a0 consts_1) (n0 : Nat) (c1 : Int32) (hc1 : ¬ c1 = 0) (S1 : Sta Z Z.heap "java/lang/String" "COMPACT_STRINGS" "Z" (.int c1)) (v2 : Value) (hv2 : v2.isRef = true) (S2 : Sta Z Z.heap "jdk/internal/util/Preconditions" "SIOOBE_FORMATTER" "Ljava/util/function/BiFunction;" v2) (t1 t2 : Addr) (kt1 kt2 : ClassId) (SD1 : Sta Z Z.heap "java/lang/Integer" "DigitOnes" "[B" (.ref t1)) (SD2 : Sta Z Z.heap "java/lang/Integer" "DigitTens" "[B" (.ref t2)) (AD1 : Arv Z Z.heap t1 kt1 .byte 100 dOnes (.int 0)) (AD2 : Arv Z Z.heap t2 kt2 .byte 100 dTens (.int 0))  {h0 : Heap} (o1 : Old Z n0 h0)  :
    Con Z a0 l (⟨"com/example/rebalance/rebalance/MessageQueueToStringPinLaw", "pow10", "(I)I"⟩ : MethodName) method_4_code 1 (some .int) ({ frames := 0, cells := 0, slots := 0, locals := 0 } : Room) [] #[(.int (Int32.ofNat 2))] consts_1 h0 n0 [] [] (VV fun w h so => w = .int (Int32.ofNat (10 ^ 2)) ∧ h = h0 ∧ so = []) := by
  refine Con.body (plainFor_of_name pn_com_example_rebalance_rebalance_MessageQueueToStringPinLaw) hEW o1 all0 #[.val (.int (Int32.ofNat 2))] (fun m => by first | (simp [entryFrame, mkF, argsToLocals, Value.category]; done) | rfl) ?_
  intro p e s m below meth c B hnm hret hlk G
  replace G := G.iloadN 1 d48_0 rfl rfl
  replace G := G.ifT 6 d48_1 (XT.i0_gt_t (by decide)) (by decide) (by decide)
  replace G := G.iloadN 7 d48_6 rfl rfl
  replace G := G.iconst 8 (1 : Int32) d48_7 rfl rfl
  replace G := G.icmpT 14 d48_8 (XT.ii_ne_t (by decide)) (by decide) (by decide)
  replace G := G.iloadN 15 d48_14 rfl rfl
  replace G := G.iconst 16 (2 : Int32) d48_15 rfl rfl
  replace G := G.icmpF 19 d48_16 (XT.ii_ne_f rfl) rfl
  replace G := G.bipush 21 (100 : Int32) d48_19 (by decide) rfl
  exact G.retI hret hlk d48_21 [] all0 ⟨_, rfl, rfl, rfl, rfl⟩ (Nat.le_of_ble_eq_true rfl) (Nat.le_of_ble_eq_true rfl)
set_option maxRecDepth 65536 in
set_option maxHeartbeats 40000000 in
theorem c_pow3 (l : Launch) (Z : State) (a0 : Array Value) (hw : ∀ d ∈ tables_1, d.before a0 Z = true) (hEW : EW Z a0 consts_1) (n0 : Nat) (c1 : Int32) (hc1 : ¬ c1 = 0) (S1 : Sta Z Z.heap "java/lang/String" "COMPACT_STRINGS" "Z" (.int c1)) (v2 : Value) (hv2 : v2.isRef = true) (S2 : Sta Z Z.heap "jdk/internal/util/Preconditions" "SIOOBE_FORMATTER" "Ljava/util/function/BiFunction;" v2) (t1 t2 : Addr) (kt1 kt2 : ClassId) (SD1 : Sta Z Z.heap "java/lang/Integer" "DigitOnes" "[B" (.ref t1)) (SD2 : Sta Z Z.heap "java/lang/Integer" "DigitTens" "[B" (.ref t2)) (AD1 : Arv Z Z.heap t1 kt1 .byte 100 dOnes (.int 0)) (AD2 : Arv Z Z.heap t2 kt2 .byte 100 dTens (.int 0))  {h0 : Heap} (o1 : Old Z n0 h0)  :
    Con Z a0 l (⟨"com/example/rebalance/rebalance/MessageQueueToStringPinLaw", "pow10", "(I)I"⟩ : MethodName) method_4_code 1 (some .int) ({ frames := 0, cells := 0, slots := 0, locals := 0 } : Room) [] #[(.int (Int32.ofNat 3))] consts_1 h0 n0 [] [] (VV fun w h so => w = .int (Int32.ofNat (10 ^ 3)) ∧ h = h0 ∧ so = []) := by
  refine Con.body (plainFor_of_name pn_com_example_rebalance_rebalance_MessageQueueToStringPinLaw) hEW o1 all0 #[.val (.int (Int32.ofNat 3))] (fun m => by first | (simp [entryFrame, mkF, argsToLocals, Value.category]; done) | rfl) ?_
  intro p e s m below meth c B hnm hret hlk G
  replace G := G.iloadN 1 d48_0 rfl rfl
  replace G := G.ifT 6 d48_1 (XT.i0_gt_t (by decide)) (by decide) (by decide)
  replace G := G.iloadN 7 d48_6 rfl rfl
  replace G := G.iconst 8 (1 : Int32) d48_7 rfl rfl
  replace G := G.icmpT 14 d48_8 (XT.ii_ne_t (by decide)) (by decide) (by decide)
  replace G := G.iloadN 15 d48_14 rfl rfl
  replace G := G.iconst 16 (2 : Int32) d48_15 rfl rfl
  replace G := G.icmpT 22 d48_16 (XT.ii_ne_t (by decide)) (by decide) (by decide)
  replace G := G.iloadN 23 d48_22 rfl rfl
  replace G := G.iconst 24 (3 : Int32) d48_23 rfl rfl
  replace G := G.icmpF 27 d48_24 (XT.ii_ne_f rfl) rfl
  replace G := G.sipush 30 (1000 : Int32) d48_27 (by decide) rfl
  exact G.retI hret hlk d48_30 [] all0 ⟨_, rfl, rfl, rfl, rfl⟩ (Nat.le_of_ble_eq_true rfl) (Nat.le_of_ble_eq_true rfl)
set_option maxRecDepth 65536 in
set_option maxHeartbeats 40000000 in
theorem c_pow4 (l : Launch) (Z : State) (a0 : Array Value) (hw : ∀ d ∈ tables_1, d.before a0 Z = true) (hEW : EW Z a0 consts_1) (n0 : Nat) (c1 : Int32) (hc1 : ¬ c1 = 0) (S1 : Sta Z Z.heap "java/lang/String" "COMPACT_STRINGS" "Z" (.int c1)) (v2 : Value) (hv2 : v2.isRef = true) (S2 : Sta Z Z.heap "jdk/internal/util/Preconditions" "SIOOBE_FORMATTER" "Ljava/util/function/BiFunction;" v2) (t1 t2 : Addr) (kt1 kt2 : ClassId) (SD1 : Sta Z Z.heap "java/lang/Integer" "DigitOnes" "[B" (.ref t1)) (SD2 : Sta Z Z.heap "java/lang/Integer" "DigitTens" "[B" (.ref t2)) (AD1 : Arv Z Z.heap t1 kt1 .byte 100 dOnes (.int 0)) (AD2 : Arv Z Z.heap t2 kt2 .byte 100 dTens (.int 0))  {h0 : Heap} (o1 : Old Z n0 h0)  :
    Con Z a0 l (⟨"com/example/rebalance/rebalance/MessageQueueToStringPinLaw", "pow10", "(I)I"⟩ : MethodName) method_4_code 1 (some .int) ({ frames := 0, cells := 0, slots := 0, locals := 0 } : Room) [] #[(.int (Int32.ofNat 4))] consts_1 h0 n0 [] [] (VV fun w h so => w = .int (Int32.ofNat (10 ^ 4)) ∧ h = h0 ∧ so = []) := by
  refine Con.body (plainFor_of_name pn_com_example_rebalance_rebalance_MessageQueueToStringPinLaw) hEW o1 all0 #[.val (.int (Int32.ofNat 4))] (fun m => by first | (simp [entryFrame, mkF, argsToLocals, Value.category]; done) | rfl) ?_
  intro p e s m below meth c B hnm hret hlk G
  replace G := G.iloadN 1 d48_0 rfl rfl
  replace G := G.ifT 6 d48_1 (XT.i0_gt_t (by decide)) (by decide) (by decide)
  replace G := G.iloadN 7 d48_6 rfl rfl
  replace G := G.iconst 8 (1 : Int32) d48_7 rfl rfl
  replace G := G.icmpT 14 d48_8 (XT.ii_ne_t (by decide)) (by decide) (by decide)
  replace G := G.iloadN 15 d48_14 rfl rfl
  replace G := G.iconst 16 (2 : Int32) d48_15 rfl rfl
  replace G := G.icmpT 22 d48_16 (XT.ii_ne_t (by decide)) (by decide) (by decide)
  replace G := G.iloadN 23 d48_22 rfl rfl
  replace G := G.iconst 24 (3 : Int32) d48_23 rfl rfl
  replace G := G.icmpT 31 d48_24 (XT.ii_ne_t (by decide)) (by decide) (by decide)
  replace G := G.iloadN 32 d48_31 rfl rfl
  replace G := G.iconst 33 (4 : Int32) d48_32 rfl rfl
  replace G := G.icmpF 36 d48_33 (XT.ii_ne_f rfl) rfl
  replace G := G.sipush 39 (10000 : Int32) d48_36 (by decide) rfl
  exact G.retI hret hlk d48_39 [] all0 ⟨_, rfl, rfl, rfl, rfl⟩ (Nat.le_of_ble_eq_true rfl) (Nat.le_of_ble_eq_true rfl)
set_option maxRecDepth 65536 in
set_option maxHeartbeats 40000000 in
theorem c_pow5 (l : Launch) (Z : State) (a0 : Array Value) (hw : ∀ d ∈ tables_1, d.before a0 Z = true) (hEW : EW Z a0 consts_1) (n0 : Nat) (c1 : Int32) (hc1 : ¬ c1 = 0) (S1 : Sta Z Z.heap "java/lang/String" "COMPACT_STRINGS" "Z" (.int c1)) (v2 : Value) (hv2 : v2.isRef = true) (S2 : Sta Z Z.heap "jdk/internal/util/Preconditions" "SIOOBE_FORMATTER" "Ljava/util/function/BiFunction;" v2) (t1 t2 : Addr) (kt1 kt2 : ClassId) (SD1 : Sta Z Z.heap "java/lang/Integer" "DigitOnes" "[B" (.ref t1)) (SD2 : Sta Z Z.heap "java/lang/Integer" "DigitTens" "[B" (.ref t2)) (AD1 : Arv Z Z.heap t1 kt1 .byte 100 dOnes (.int 0)) (AD2 : Arv Z Z.heap t2 kt2 .byte 100 dTens (.int 0))  {h0 : Heap} (o1 : Old Z n0 h0)  :
    Con Z a0 l (⟨"com/example/rebalance/rebalance/MessageQueueToStringPinLaw", "pow10", "(I)I"⟩ : MethodName) method_4_code 1 (some .int) ({ frames := 0, cells := 0, slots := 0, locals := 0 } : Room) [] #[(.int (Int32.ofNat 5))] consts_1 h0 n0 [] [] (VV fun w h so => w = .int (Int32.ofNat (10 ^ 5)) ∧ h = h0 ∧ so = []) := by
  refine Con.body (plainFor_of_name pn_com_example_rebalance_rebalance_MessageQueueToStringPinLaw) hEW o1 all0 #[.val (.int (Int32.ofNat 5))] (fun m => by first | (simp [entryFrame, mkF, argsToLocals, Value.category]; done) | rfl) ?_
  intro p e s m below meth c B hnm hret hlk G
  replace G := G.iloadN 1 d48_0 rfl rfl
  replace G := G.ifT 6 d48_1 (XT.i0_gt_t (by decide)) (by decide) (by decide)
  replace G := G.iloadN 7 d48_6 rfl rfl
  replace G := G.iconst 8 (1 : Int32) d48_7 rfl rfl
  replace G := G.icmpT 14 d48_8 (XT.ii_ne_t (by decide)) (by decide) (by decide)
  replace G := G.iloadN 15 d48_14 rfl rfl
  replace G := G.iconst 16 (2 : Int32) d48_15 rfl rfl
  replace G := G.icmpT 22 d48_16 (XT.ii_ne_t (by decide)) (by decide) (by decide)
  replace G := G.iloadN 23 d48_22 rfl rfl
  replace G := G.iconst 24 (3 : Int32) d48_23 rfl rfl
  replace G := G.icmpT 31 d48_24 (XT.ii_ne_t (by decide)) (by decide) (by decide)
  replace G := G.iloadN 32 d48_31 rfl rfl
  replace G := G.iconst 33 (4 : Int32) d48_32 rfl rfl
  replace G := G.icmpT 40 d48_33 (XT.ii_ne_t (by decide)) (by decide) (by decide)
  replace G := G.iloadN 41 d48_40 rfl rfl
  replace G := G.iconst 42 (5 : Int32) d48_41 rfl rfl
  replace G := G.icmpF 45 d48_42 (XT.ii_ne_f rfl) rfl
  replace G := G.ldcI 47 (hw _ (List.mem_of_getElem? (i := 243) rfl)) d48_45 rfl
  exact G.retI hret hlk d48_47 [] all0 ⟨_, rfl, rfl, rfl, rfl⟩ (Nat.le_of_ble_eq_true rfl) (Nat.le_of_ble_eq_true rfl)
set_option maxRecDepth 65536 in
set_option maxHeartbeats 40000000 in
theorem c_pow6 (l : Launch) (Z : State) (a0 : Array Value) (hw : ∀ d ∈ tables_1, d.before a0 Z = true) (hEW : EW Z a0 consts_1) (n0 : Nat) (c1 : Int32) (hc1 : ¬ c1 = 0) (S1 : Sta Z Z.heap "java/lang/String" "COMPACT_STRINGS" "Z" (.int c1)) (v2 : Value) (hv2 : v2.isRef = true) (S2 : Sta Z Z.heap "jdk/internal/util/Preconditions" "SIOOBE_FORMATTER" "Ljava/util/function/BiFunction;" v2) (t1 t2 : Addr) (kt1 kt2 : ClassId) (SD1 : Sta Z Z.heap "java/lang/Integer" "DigitOnes" "[B" (.ref t1)) (SD2 : Sta Z Z.heap "java/lang/Integer" "DigitTens" "[B" (.ref t2)) (AD1 : Arv Z Z.heap t1 kt1 .byte 100 dOnes (.int 0)) (AD2 : Arv Z Z.heap t2 kt2 .byte 100 dTens (.int 0))  {h0 : Heap} (o1 : Old Z n0 h0)  :
    Con Z a0 l (⟨"com/example/rebalance/rebalance/MessageQueueToStringPinLaw", "pow10", "(I)I"⟩ : MethodName) method_4_code 1 (some .int) ({ frames := 0, cells := 0, slots := 0, locals := 0 } : Room) [] #[(.int (Int32.ofNat 6))] consts_1 h0 n0 [] [] (VV fun w h so => w = .int (Int32.ofNat (10 ^ 6)) ∧ h = h0 ∧ so = []) := by
  refine Con.body (plainFor_of_name pn_com_example_rebalance_rebalance_MessageQueueToStringPinLaw) hEW o1 all0 #[.val (.int (Int32.ofNat 6))] (fun m => by first | (simp [entryFrame, mkF, argsToLocals, Value.category]; done) | rfl) ?_
  intro p e s m below meth c B hnm hret hlk G
  replace G := G.iloadN 1 d48_0 rfl rfl
  replace G := G.ifT 6 d48_1 (XT.i0_gt_t (by decide)) (by decide) (by decide)
  replace G := G.iloadN 7 d48_6 rfl rfl
  replace G := G.iconst 8 (1 : Int32) d48_7 rfl rfl
  replace G := G.icmpT 14 d48_8 (XT.ii_ne_t (by decide)) (by decide) (by decide)
  replace G := G.iloadN 15 d48_14 rfl rfl
  replace G := G.iconst 16 (2 : Int32) d48_15 rfl rfl
  replace G := G.icmpT 22 d48_16 (XT.ii_ne_t (by decide)) (by decide) (by decide)
  replace G := G.iloadN 23 d48_22 rfl rfl
  replace G := G.iconst 24 (3 : Int32) d48_23 rfl rfl
  replace G := G.icmpT 31 d48_24 (XT.ii_ne_t (by decide)) (by decide) (by decide)
  replace G := G.iloadN 32 d48_31 rfl rfl
  replace G := G.iconst 33 (4 : Int32) d48_32 rfl rfl
  replace G := G.icmpT 40 d48_33 (XT.ii_ne_t (by decide)) (by decide) (by decide)
  replace G := G.iloadN 41 d48_40 rfl rfl
  replace G := G.iconst 42 (5 : Int32) d48_41 rfl rfl
  replace G := G.icmpT 48 d48_42 (XT.ii_ne_t (by decide)) (by decide) (by decide)
  replace G := G.iloadN 49 d48_48 rfl rfl
  replace G := G.bipush 51 (6 : Int32) d48_49 (by decide) rfl
  replace G := G.icmpF 54 d48_51 (XT.ii_ne_f rfl) rfl
  replace G := G.ldcI 56 (hw _ (List.mem_of_getElem? (i := 244) rfl)) d48_54 rfl
  exact G.retI hret hlk d48_56 [] all0 ⟨_, rfl, rfl, rfl, rfl⟩ (Nat.le_of_ble_eq_true rfl) (Nat.le_of_ble_eq_true rfl)
set_option maxRecDepth 65536 in
set_option maxHeartbeats 40000000 in
theorem c_pow7 (l : Launch) (Z : State) (a0 : Array Value) (hw : ∀ d ∈ tables_1, d.before a0 Z = true) (hEW : EW Z a0 consts_1) (n0 : Nat) (c1 : Int32) (hc1 : ¬ c1 = 0) (S1 : Sta Z Z.heap "java/lang/String" "COMPACT_STRINGS" "Z" (.int c1)) (v2 : Value) (hv2 : v2.isRef = true) (S2 : Sta Z Z.heap "jdk/internal/util/Preconditions" "SIOOBE_FORMATTER" "Ljava/util/function/BiFunction;" v2) (t1 t2 : Addr) (kt1 kt2 : ClassId) (SD1 : Sta Z Z.heap "java/lang/Integer" "DigitOnes" "[B" (.ref t1)) (SD2 : Sta Z Z.heap "java/lang/Integer" "DigitTens" "[B" (.ref t2)) (AD1 : Arv Z Z.heap t1 kt1 .byte 100 dOnes (.int 0)) (AD2 : Arv Z Z.heap t2 kt2 .byte 100 dTens (.int 0))  {h0 : Heap} (o1 : Old Z n0 h0)  :
    Con Z a0 l (⟨"com/example/rebalance/rebalance/MessageQueueToStringPinLaw", "pow10", "(I)I"⟩ : MethodName) method_4_code 1 (some .int) ({ frames := 0, cells := 0, slots := 0, locals := 0 } : Room) [] #[(.int (Int32.ofNat 7))] consts_1 h0 n0 [] [] (VV fun w h so => w = .int (Int32.ofNat (10 ^ 7)) ∧ h = h0 ∧ so = []) := by
  refine Con.body (plainFor_of_name pn_com_example_rebalance_rebalance_MessageQueueToStringPinLaw) hEW o1 all0 #[.val (.int (Int32.ofNat 7))] (fun m => by first | (simp [entryFrame, mkF, argsToLocals, Value.category]; done) | rfl) ?_
  intro p e s m below meth c B hnm hret hlk G
  replace G := G.iloadN 1 d48_0 rfl rfl
  replace G := G.ifT 6 d48_1 (XT.i0_gt_t (by decide)) (by decide) (by decide)
  replace G := G.iloadN 7 d48_6 rfl rfl
  replace G := G.iconst 8 (1 : Int32) d48_7 rfl rfl
  replace G := G.icmpT 14 d48_8 (XT.ii_ne_t (by decide)) (by decide) (by decide)
  replace G := G.iloadN 15 d48_14 rfl rfl
  replace G := G.iconst 16 (2 : Int32) d48_15 rfl rfl
  replace G := G.icmpT 22 d48_16 (XT.ii_ne_t (by decide)) (by decide) (by decide)
  replace G := G.iloadN 23 d48_22 rfl rfl
  replace G := G.iconst 24 (3 : Int32) d48_23 rfl rfl
  replace G := G.icmpT 31 d48_24 (XT.ii_ne_t (by decide)) (by decide) (by decide)
  replace G := G.iloadN 32 d48_31 rfl rfl
  replace G := G.iconst 33 (4 : Int32) d48_32 rfl rfl
  replace G := G.icmpT 40 d48_33 (XT.ii_ne_t (by decide)) (by decide) (by decide)
  replace G := G.iloadN 41 d48_40 rfl rfl
  replace G := G.iconst 42 (5 : Int32) d48_41 rfl rfl
  replace G := G.icmpT 48 d48_42 (XT.ii_ne_t (by decide)) (by decide) (by decide)
  replace G := G.iloadN 49 d48_48 rfl rfl
  replace G := G.bipush 51 (6 : Int32) d48_49 (by decide) rfl
  replace G := G.icmpT 57 d48_51 (XT.ii_ne_t (by decide)) (by decide) (by decide)
  replace G := G.iloadN 58 d48_57 rfl rfl
  replace G := G.bipush 60 (7 : Int32) d48_58 (by decide) rfl
  replace G := G.icmpF 63 d48_60 (XT.ii_ne_f rfl) rfl
  replace G := G.ldcI 65 (hw _ (List.mem_of_getElem? (i := 245) rfl)) d48_63 rfl
  exact G.retI hret hlk d48_65 [] all0 ⟨_, rfl, rfl, rfl, rfl⟩ (Nat.le_of_ble_eq_true rfl) (Nat.le_of_ble_eq_true rfl)
set_option maxRecDepth 65536 in
set_option maxHeartbeats 40000000 in
theorem c_pow8 (l : Launch) (Z : State) (a0 : Array Value) (hw : ∀ d ∈ tables_1, d.before a0 Z = true) (hEW : EW Z a0 consts_1) (n0 : Nat) (c1 : Int32) (hc1 : ¬ c1 = 0) (S1 : Sta Z Z.heap "java/lang/String" "COMPACT_STRINGS" "Z" (.int c1)) (v2 : Value) (hv2 : v2.isRef = true) (S2 : Sta Z Z.heap "jdk/internal/util/Preconditions" "SIOOBE_FORMATTER" "Ljava/util/function/BiFunction;" v2) (t1 t2 : Addr) (kt1 kt2 : ClassId) (SD1 : Sta Z Z.heap "java/lang/Integer" "DigitOnes" "[B" (.ref t1)) (SD2 : Sta Z Z.heap "java/lang/Integer" "DigitTens" "[B" (.ref t2)) (AD1 : Arv Z Z.heap t1 kt1 .byte 100 dOnes (.int 0)) (AD2 : Arv Z Z.heap t2 kt2 .byte 100 dTens (.int 0))  {h0 : Heap} (o1 : Old Z n0 h0)  :
    Con Z a0 l (⟨"com/example/rebalance/rebalance/MessageQueueToStringPinLaw", "pow10", "(I)I"⟩ : MethodName) method_4_code 1 (some .int) ({ frames := 0, cells := 0, slots := 0, locals := 0 } : Room) [] #[(.int (Int32.ofNat 8))] consts_1 h0 n0 [] [] (VV fun w h so => w = .int (Int32.ofNat (10 ^ 8)) ∧ h = h0 ∧ so = []) := by
  refine Con.body (plainFor_of_name pn_com_example_rebalance_rebalance_MessageQueueToStringPinLaw) hEW o1 all0 #[.val (.int (Int32.ofNat 8))] (fun m => by first | (simp [entryFrame, mkF, argsToLocals, Value.category]; done) | rfl) ?_
  intro p e s m below meth c B hnm hret hlk G
  replace G := G.iloadN 1 d48_0 rfl rfl
  replace G := G.ifT 6 d48_1 (XT.i0_gt_t (by decide)) (by decide) (by decide)
  replace G := G.iloadN 7 d48_6 rfl rfl
  replace G := G.iconst 8 (1 : Int32) d48_7 rfl rfl
  replace G := G.icmpT 14 d48_8 (XT.ii_ne_t (by decide)) (by decide) (by decide)
  replace G := G.iloadN 15 d48_14 rfl rfl
  replace G := G.iconst 16 (2 : Int32) d48_15 rfl rfl
  replace G := G.icmpT 22 d48_16 (XT.ii_ne_t (by decide)) (by decide) (by decide)
  replace G := G.iloadN 23 d48_22 rfl rfl
  replace G := G.iconst 24 (3 : Int32) d48_23 rfl rfl
  replace G := G.icmpT 31 d48_24 (XT.ii_ne_t (by decide)) (by decide) (by decide)
  replace G := G.iloadN 32 d48_31 rfl rfl
  replace G := G.iconst 33 (4 : Int32) d48_32 rfl rfl
  replace G := G.icmpT 40 d48_33 (XT.ii_ne_t (by decide)) (by decide) (by decide)
  replace G := G.iloadN 41 d48_40 rfl rfl
  replace G := G.iconst 42 (5 : Int32) d48_41 rfl rfl
  replace G := G.icmpT 48 d48_42 (XT.ii_ne_t (by decide)) (by decide) (by decide)
  replace G := G.iloadN 49 d48_48 rfl rfl
  replace G := G.bipush 51 (6 : Int32) d48_49 (by decide) rfl
  replace G := G.icmpT 57 d48_51 (XT.ii_ne_t (by decide)) (by decide) (by decide)
  replace G := G.iloadN 58 d48_57 rfl rfl
  replace G := G.bipush 60 (7 : Int32) d48_58 (by decide) rfl
  replace G := G.icmpT 66 d48_60 (XT.ii_ne_t (by decide)) (by decide) (by decide)
  replace G := G.iloadN 67 d48_66 rfl rfl
  replace G := G.bipush 69 (8 : Int32) d48_67 (by decide) rfl
  replace G := G.icmpF 72 d48_69 (XT.ii_ne_f rfl) rfl
  replace G := G.ldcI 74 (hw _ (List.mem_of_getElem? (i := 246) rfl)) d48_72 rfl
  exact G.retI hret hlk d48_74 [] all0 ⟨_, rfl, rfl, rfl, rfl⟩ (Nat.le_of_ble_eq_true rfl) (Nat.le_of_ble_eq_true rfl)
set_option maxRecDepth 65536 in
set_option maxHeartbeats 40000000 in
theorem c_pow9 (l : Launch) (Z : State) (a0 : Array Value) (hw : ∀ d ∈ tables_1, d.before a0 Z = true) (hEW : EW Z a0 consts_1) (n0 : Nat) (c1 : Int32) (hc1 : ¬ c1 = 0) (S1 : Sta Z Z.heap "java/lang/String" "COMPACT_STRINGS" "Z" (.int c1)) (v2 : Value) (hv2 : v2.isRef = true) (S2 : Sta Z Z.heap "jdk/internal/util/Preconditions" "SIOOBE_FORMATTER" "Ljava/util/function/BiFunction;" v2) (t1 t2 : Addr) (kt1 kt2 : ClassId) (SD1 : Sta Z Z.heap "java/lang/Integer" "DigitOnes" "[B" (.ref t1)) (SD2 : Sta Z Z.heap "java/lang/Integer" "DigitTens" "[B" (.ref t2)) (AD1 : Arv Z Z.heap t1 kt1 .byte 100 dOnes (.int 0)) (AD2 : Arv Z Z.heap t2 kt2 .byte 100 dTens (.int 0))  {h0 : Heap} (o1 : Old Z n0 h0)  :
    Con Z a0 l (⟨"com/example/rebalance/rebalance/MessageQueueToStringPinLaw", "pow10", "(I)I"⟩ : MethodName) method_4_code 1 (some .int) ({ frames := 0, cells := 0, slots := 0, locals := 0 } : Room) [] #[(.int (Int32.ofNat 9))] consts_1 h0 n0 [] [] (VV fun w h so => w = .int (Int32.ofNat (10 ^ 9)) ∧ h = h0 ∧ so = []) := by
  refine Con.body (plainFor_of_name pn_com_example_rebalance_rebalance_MessageQueueToStringPinLaw) hEW o1 all0 #[.val (.int (Int32.ofNat 9))] (fun m => by first | (simp [entryFrame, mkF, argsToLocals, Value.category]; done) | rfl) ?_
  intro p e s m below meth c B hnm hret hlk G
  replace G := G.iloadN 1 d48_0 rfl rfl
  replace G := G.ifT 6 d48_1 (XT.i0_gt_t (by decide)) (by decide) (by decide)
  replace G := G.iloadN 7 d48_6 rfl rfl
  replace G := G.iconst 8 (1 : Int32) d48_7 rfl rfl
  replace G := G.icmpT 14 d48_8 (XT.ii_ne_t (by decide)) (by decide) (by decide)
  replace G := G.iloadN 15 d48_14 rfl rfl
  replace G := G.iconst 16 (2 : Int32) d48_15 rfl rfl
  replace G := G.icmpT 22 d48_16 (XT.ii_ne_t (by decide)) (by decide) (by decide)
  replace G := G.iloadN 23 d48_22 rfl rfl
  replace G := G.iconst 24 (3 : Int32) d48_23 rfl rfl
  replace G := G.icmpT 31 d48_24 (XT.ii_ne_t (by decide)) (by decide) (by decide)
  replace G := G.iloadN 32 d48_31 rfl rfl
  replace G := G.iconst 33 (4 : Int32) d48_32 rfl rfl
  replace G := G.icmpT 40 d48_33 (XT.ii_ne_t (by decide)) (by decide) (by decide)
  replace G := G.iloadN 41 d48_40 rfl rfl
  replace G := G.iconst 42 (5 : Int32) d48_41 rfl rfl
  replace G := G.icmpT 48 d48_42 (XT.ii_ne_t (by decide)) (by decide) (by decide)
  replace G := G.iloadN 49 d48_48 rfl rfl
  replace G := G.bipush 51 (6 : Int32) d48_49 (by decide) rfl
  replace G := G.icmpT 57 d48_51 (XT.ii_ne_t (by decide)) (by decide) (by decide)
  replace G := G.iloadN 58 d48_57 rfl rfl
  replace G := G.bipush 60 (7 : Int32) d48_58 (by decide) rfl
  replace G := G.icmpT 66 d48_60 (XT.ii_ne_t (by decide)) (by decide) (by decide)
  replace G := G.iloadN 67 d48_66 rfl rfl
  replace G := G.bipush 69 (8 : Int32) d48_67 (by decide) rfl
  replace G := G.icmpT 75 d48_69 (XT.ii_ne_t (by decide)) (by decide) (by decide)
  replace G := G.ldcI 77 (hw _ (List.mem_of_getElem? (i := 247) rfl)) d48_75 rfl
  exact G.retI hret hlk d48_77 [] all0 ⟨_, rfl, rfl, rfl, rfl⟩ (Nat.le_of_ble_eq_true rfl) (Nat.le_of_ble_eq_true rfl)
theorem c_pow (l : Launch) (Z : State) (a0 : Array Value) (hw : ∀ d ∈ tables_1, d.before a0 Z = true) (hEW : EW Z a0 consts_1) (n0 : Nat) (c1 : Int32) (hc1 : ¬ c1 = 0) (S1 : Sta Z Z.heap "java/lang/String" "COMPACT_STRINGS" "Z" (.int c1)) (v2 : Value) (hv2 : v2.isRef = true) (S2 : Sta Z Z.heap "jdk/internal/util/Preconditions" "SIOOBE_FORMATTER" "Ljava/util/function/BiFunction;" v2) (t1 t2 : Addr) (kt1 kt2 : ClassId) (SD1 : Sta Z Z.heap "java/lang/Integer" "DigitOnes" "[B" (.ref t1)) (SD2 : Sta Z Z.heap "java/lang/Integer" "DigitTens" "[B" (.ref t2)) (AD1 : Arv Z Z.heap t1 kt1 .byte 100 dOnes (.int 0)) (AD2 : Arv Z Z.heap t2 kt2 .byte 100 dTens (.int 0)) (e : Nat) {h0 : Heap} (o1 : Old Z n0 h0) (he : e < 10) :
    Con Z a0 l (⟨"com/example/rebalance/rebalance/MessageQueueToStringPinLaw", "pow10", "(I)I"⟩ : MethodName) method_4_code 1 (some .int) ({ frames := 0, cells := 0, slots := 0, locals := 0 } : Room) [] #[(.int (Int32.ofNat e))] consts_1 h0 n0 [] [] (VV fun w h so => w = .int (Int32.ofNat (10 ^ e)) ∧ h = h0 ∧ so = []) := by
  rcases (show e = 0 ∨ e = 1 ∨ e = 2 ∨ e = 3 ∨ e = 4 ∨ e = 5 ∨ e = 6 ∨ e = 7 ∨ e = 8 ∨ e = 9 by omega) with rfl | rfl | rfl | rfl | rfl | rfl | rfl | rfl | rfl | rfl
  · exact c_pow0 l Z a0 hw hEW n0 c1 hc1 S1 v2 hv2 S2 t1 t2 kt1 kt2 SD1 SD2 AD1 AD2 o1
  · exact c_pow1 l Z a0 hw hEW n0 c1 hc1 S1 v2 hv2 S2 t1 t2 kt1 kt2 SD1 SD2 AD1 AD2 o1
  · exact c_pow2 l Z a0 hw hEW n0 c1 hc1 S1 v2 hv2 S2 t1 t2 kt1 kt2 SD1 SD2 AD1 AD2 o1
  · exact c_pow3 l Z a0 hw hEW n0 c1 hc1 S1 v2 hv2 S2 t1 t2 kt1 kt2 SD1 SD2 AD1 AD2 o1
  · exact c_pow4 l Z a0 hw hEW n0 c1 hc1 S1 v2 hv2 S2 t1 t2 kt1 kt2 SD1 SD2 AD1 AD2 o1
  · exact c_pow5 l Z a0 hw hEW n0 c1 hc1 S1 v2 hv2 S2 t1 t2 kt1 kt2 SD1 SD2 AD1 AD2 o1
  · exact c_pow6 l Z a0 hw hEW n0 c1 hc1 S1 v2 hv2 S2 t1 t2 kt1 kt2 SD1 SD2 AD1 AD2 o1
  · exact c_pow7 l Z a0 hw hEW n0 c1 hc1 S1 v2 hv2 S2 t1 t2 kt1 kt2 SD1 SD2 AD1 AD2 o1
  · exact c_pow8 l Z a0 hw hEW n0 c1 hc1 S1 v2 hv2 S2 t1 t2 kt1 kt2 SD1 SD2 AD1 AD2 o1
  · exact c_pow9 l Z a0 hw hEW n0 c1 hc1 S1 v2 hv2 S2 t1 t2 kt1 kt2 SD1 SD2 AD1 AD2 o1
theorem d47_0 : decode method_3_code 0 = .ok (.iload 4, 2) := by decide +kernel
theorem d47_2 : decode method_3_code 2 = .ok (.iload_n 3, 1) := by decide +kernel
theorem d47_3 : decode method_3_code 3 = .ok (.if_icmp .lt 5, 3) := by decide +kernel
theorem d47_6 : decode method_3_code 6 = .ok (.iconst 1, 1) := by decide +kernel
theorem d47_7 : decode method_3_code 7 = .ok (.ireturn, 1) := by decide +kernel
theorem d47_8 : decode method_3_code 8 = .ok (.iload_n 3, 1) := by decide +kernel
theorem d47_9 : decode method_3_code 9 = .ok (.iconst 1, 1) := by decide +kernel
theorem d47_10 : decode method_3_code 10 = .ok (.isub, 1) := by decide +kernel
theorem d47_11 : decode method_3_code 11 = .ok (.iload 4, 2) := by decide +kernel
theorem d47_13 : decode method_3_code 13 = .ok (.isub, 1) := by decide +kernel
theorem d47_14 : decode method_3_code 14 = .ok (.invokestatic 44, 3) := by decide +kernel
theorem d47_17 : decode method_3_code 17 = .ok (.istore 5, 2) := by decide +kernel
theorem d47_19 : decode method_3_code 19 = .ok (.bipush 48, 2) := by decide +kernel
theorem d47_21 : decode method_3_code 21 = .ok (.iload_n 2, 1) := by decide +kernel
theorem d47_22 : decode method_3_code 22 = .ok (.iload 5, 2) := by decide +kernel
theorem d47_24 : decode method_3_code 24 = .ok (.idiv, 1) := by decide +kernel
theorem d47_25 : decode method_3_code 25 = .ok (.bipush 10, 2) := by decide +kernel
theorem d47_27 : decode method_3_code 27 = .ok (.irem, 1) := by decide +kernel
theorem d47_28 : decode method_3_code 28 = .ok (.iadd, 1) := by decide +kernel
theorem d47_29 : decode method_3_code 29 = .ok (.i2c, 1) := by decide +kernel
theorem d47_30 : decode method_3_code 30 = .ok (.istore 6, 2) := by decide +kernel
theorem d47_32 : decode method_3_code 32 = .ok (.aload_n 0, 1) := by decide +kernel
theorem d47_33 : decode method_3_code 33 = .ok (.iload_n 1, 1) := by decide +kernel
theorem d47_34 : decode method_3_code 34 = .ok (.iload 4, 2) := by decide +kernel
theorem d47_36 : decode method_3_code 36 = .ok (.iadd, 1) := by decide +kernel
theorem d47_37 : decode method_3_code 37 = .ok (.invokevirtual 36, 3) := by decide +kernel
theorem d47_40 : decode method_3_code 40 = .ok (.iload 6, 2) := by decide +kernel
theorem d47_42 : decode method_3_code 42 = .ok (.if_icmp .ne 7, 3) := by decide +kernel
theorem d47_45 : decode method_3_code 45 = .ok (.iconst 1, 1) := by decide +kernel
theorem d47_46 : decode method_3_code 46 = .ok (.goto 4, 3) := by decide +kernel
theorem d47_49 : decode method_3_code 49 = .ok (.iconst 0, 1) := by decide +kernel
theorem d47_50 : decode method_3_code 50 = .ok (.ireturn, 1) := by decide +kernel
set_option maxRecDepth 65536 in
set_option maxHeartbeats 40000000 in
theorem c_digOk (l : Launch) (Z : State) (a0 : Array Value) (hw : ∀ d ∈ tables_1, d.before a0 Z = true) (hEW : EW Z a0 consts_1) (n0 : Nat) (c1 : Int32) (hc1 : ¬ c1 = 0) (S1 : Sta Z Z.heap "java/lang/String" "COMPACT_STRINGS" "Z" (.int c1)) (v2 : Value) (hv2 : v2.isRef = true) (S2 : Sta Z Z.heap "jdk/internal/util/Preconditions" "SIOOBE_FORMATTER" "Ljava/util/function/BiFunction;" v2) (t1 t2 : Addr) (kt1 kt2 : ClassId) (SD1 : Sta Z Z.heap "java/lang/Integer" "DigitOnes" "[B" (.ref t1)) (SD2 : Sta Z Z.heap "java/lang/Integer" "DigitTens" "[B" (.ref t2)) (AD1 : Arv Z Z.heap t1 kt1 .byte 100 dOnes (.int 0)) (AD2 : Arv Z Z.heap t2 kt2 .byte 100 dTens (.int 0)) (a b : Addr) (bs : List Value) (o N k : Nat) {h0 : Heap} (o1 : Old Z n0 h0) (hN : N < 2147483648) (hk10 : k < 10) (hl : o + nd N = bs.length) (hn : bs.length < 1000) (hv : ∀ k, k < nd N → bs.getD (o + k) (.int 0) = .int (Int32.ofNat (48 + N / 10 ^ (nd N - 1 - k) % 10))) (hS : Str Z h0 a b bs) :
    Con Z a0 l (⟨"com/example/rebalance/rebalance/MessageQueueToStringPinLaw", "digitOk", "(Ljava/lang/String;IIII)Z"⟩ : MethodName) method_3_code 7 (some .boolean) ({ frames := 4, cells := 0, slots := 0, locals := 53 } : Room) [] #[(.ref a), (.int (Int32.ofNat o)), (.int (Int32.ofNat N)), (.int (Int32.ofNat (nd N))), (.int (Int32.ofNat k))] consts_1 h0 n0 [] [] (VV fun w h so => w = .int 1 ∧ h = h0 ∧ so = []) := by
  refine Con.body (plainFor_of_name pn_com_example_rebalance_rebalance_MessageQueueToStringPinLaw) hEW o1 all0 #[.val (.ref a), .val (.int (Int32.ofNat o)), .val (.int (Int32.ofNat N)), .val (.int (Int32.ofNat (nd N))), .val (.int (Int32.ofNat k)), .unset, .unset] (fun m => by first | (simp [entryFrame, mkF, argsToLocals, Value.category]; done) | rfl) ?_
  intro p e s m below meth c B hnm hret hlk G
  have hdl := nd_le hN
  rcases Nat.lt_or_ge k (nd N) with hk | hk
  · skip
    replace G := G.iload 2 d47_0 rfl rfl
    replace G := G.iloadN 3 d47_2 rfl rfl
    replace G := G.icmpT 8 d47_3 (XT.ii_lt_t (ofn_lt hk (by omega))) (by decide) (by decide)
    replace G := G.iloadN 9 d47_8 rfl rfl
    replace G := G.iconst 10 (1 : Int32) d47_9 rfl rfl
    replace G := G.isub 11 d47_10 rfl
    replace G := G.top (y := (.int (Int32.ofNat (nd N - 1)))) (congrArg Value.int (ofn_sub (b := 1) (by omega) (by omega)))
    replace G := G.iload 13 d47_11 rfl rfl
    replace G := G.isub 14 d47_13 rfl
    replace G := G.top (y := (.int (Int32.ofNat (nd N - 1 - k)))) (congrArg Value.int (ofn_sub (by omega) (by omega)))
    obtain ⟨vp, h_p, sop, G', Kp, Qp⟩ := G.callS 17 (hw _ (List.mem_of_getElem? (i := 239) rfl)) (hw _ (List.mem_of_getElem? (i := 240) rfl)) (hw _ (List.mem_of_getElem? (i := 212) rfl)) (hw _ (List.mem_of_getElem? (i := 241) rfl)) (by decide) [(.int (Int32.ofNat (nd N - 1 - k)))] [] rfl (c_pow l Z a0 hw hEW n0 c1 hc1 S1 v2 hv2 S2 t1 t2 kt1 kt2 SD1 SD2 AD1 AD2 (nd N - 1 - k) G.old (by omega)) (lenOf pd__I_I rfl) d47_14 rfl (Nat.le_of_ble_eq_true rfl) (Nat.le_of_ble_eq_true rfl) (Nat.le_of_ble_eq_true rfl) (Nat.le_of_ble_eq_true rfl) all0 all0 all0 rfl
    clear G; have G := G'; clear G'
    obtain ⟨wp, qp, rfl, ep, rfl⟩ := Qp
    replace G := G.val qp
    subst ep
    have hP : 0 < 10 ^ (nd N - 1 - k) := Nat.pow_pos (by decide)
    have hP2 : 10 ^ (nd N - 1 - k) ≤ 10 ^ 9 := Nat.pow_le_pow_right (by decide) (by omega)
    have hQ : N / 10 ^ (nd N - 1 - k) ≤ N := Nat.div_le_self _ _
    rw [show 10 ^ 9 = 1000000000 from rfl] at hP2
    replace G := G.istore 19 #[.val (.ref a), .val (.int (Int32.ofNat o)), .val (.int (Int32.ofNat N)), .val (.int (Int32.ofNat (nd N))), .val (.int (Int32.ofNat k)), .val (.int (Int32.ofNat (10 ^ (nd N - 1 - k)))), .unset] d47_17 rfl rfl
    replace G := G.bipush 21 (48 : Int32) d47_19 (by decide) rfl
    replace G := G.iloadN 22 d47_21 rfl rfl
    replace G := G.iload 24 d47_22 rfl rfl
    replace G := G.idiv 25 d47_24 (fun q => ofn_ne (n := 0) (by omega) (by omega) (by decide) q) rfl
    replace G := G.top (y := (.int (Int32.ofNat (N / 10 ^ (nd N - 1 - k))))) (congrArg Value.int (ofn_div hN hP (by omega)))
    replace G := G.bipush 27 (10 : Int32) d47_25 (by decide) rfl
    replace G := G.irem 28 d47_27 (by decide) rfl
    replace G := G.top (y := (.int (Int32.ofNat (N / 10 ^ (nd N - 1 - k) % 10)))) (congrArg Value.int (ofn_rem10 (by omega)))
    replace G := G.iadd 29 d47_28 rfl
    replace G := G.top (y := (.int (Int32.ofNat (48 + N / 10 ^ (nd N - 1 - k) % 10)))) (congrArg Value.int (ofn_add 48 _))
    replace G := G.i2c 30 d47_29 rfl
    replace G := G.top (y := (.int (Int32.ofNat (48 + N / 10 ^ (nd N - 1 - k) % 10)))) (congrArg Value.int (i2c_n (by omega)))
    replace G := G.istore 32 #[.val (.ref a), .val (.int (Int32.ofNat o)), .val (.int (Int32.ofNat N)), .val (.int (Int32.ofNat (nd N))), .val (.int (Int32.ofNat k)), .val (.int (Int32.ofNat (10 ^ (nd N - 1 - k)))), .val (.int (Int32.ofNat (48 + N / 10 ^ (nd N - 1 - k) % 10)))] d47_30 rfl rfl
    replace G := G.aloadN 33 d47_32 rfl rfl rfl
    replace G := G.iloadN 34 d47_33 rfl rfl
    replace G := G.iload 36 d47_34 rfl rfl
    replace G := G.iadd 37 d47_36 rfl
    replace G := G.top (y := (.int (Int32.ofNat (o + k)))) (congrArg Value.int (ofn_add o k))
    obtain ⟨vc, h_c, soc, G', Kc, Qc⟩ := G.callV 40 (hw _ (List.mem_of_getElem? (i := 215) rfl)) (hw _ (List.mem_of_getElem? (i := 216) rfl)) (nfSel (hw _ (List.mem_of_getElem? (i := 218) rfl))) (hw _ (List.mem_of_getElem? (i := 218) rfl)) (hw _ (List.mem_of_getElem? (i := 217) rfl)) (hw _ (List.mem_of_getElem? (i := 2) rfl)) (hw _ (List.mem_of_getElem? (i := 219) rfl)) hS.1 (by decide) [(.int (Int32.ofNat (o + k)))] [] rfl (c_charAt l Z a0 hw hEW n0 c1 hc1 S1 v2 hv2 S2 a b bs (o + k) (Int32.ofNat (48 + N / 10 ^ (nd N - 1 - k) % 10)) G.old (by omega) (by omega) (hv k hk) hS) (lenOf pd__I_C rfl) d47_37 rfl (Nat.le_of_ble_eq_true rfl) (Nat.le_of_ble_eq_true rfl) (Nat.le_of_ble_eq_true rfl) (Nat.le_of_ble_eq_true rfl) all0 all0 all0 rfl
    clear G; have G := G'; clear G'
    obtain ⟨wc, qc, rfl, ec, rfl⟩ := Qc
    replace G := G.val qc
    subst ec
    replace G := G.iload 42 d47_40 rfl rfl
    replace G := G.icmpF 45 d47_42 (XT.ii_ne_f (m255 (by omega))) rfl
    replace G := G.iconst 46 (1 : Int32) d47_45 rfl rfl
    replace G := G.goto 50 d47_46 (by decide) (by decide)
    exact G.retN hret (Or.inl rfl) hlk d47_50 [] all0 ⟨_, rfl, rfl, rfl, rfl⟩ (Nat.le_of_ble_eq_true rfl) (Nat.le_of_ble_eq_true rfl)
  · skip
    replace G := G.iload 2 d47_0 rfl rfl
    replace G := G.iloadN 3 d47_2 rfl rfl
    replace G := G.icmpF 6 d47_3 (XT.ii_lt_f (ofn_nlt hk (by omega))) rfl
    replace G := G.iconst 7 (1 : Int32) d47_6 rfl rfl
    exact G.retN hret (Or.inl rfl) hlk d47_7 [] all0 ⟨_, rfl, rfl, rfl, rfl⟩ (Nat.le_of_ble_eq_true rfl) (Nat.le_of_ble_eq_true rfl)
theorem d14_0 : decode jdk_42_method_55_code 0 = .ok (.aload_n 0, 1) := by decide +kernel
theorem d14_1 : decode jdk_42_method_55_code 1 = .ok (.getfield 9, 3) := by decide +kernel
theorem d14_4 : decode jdk_42_method_55_code 4 = .ok (.arraylength, 1) := by decide +kernel
theorem d14_5 : decode jdk_42_method_55_code 5 = .ok (.ifCond .ne 7, 3) := by decide +kernel
theorem d14_8 : decode jdk_42_method_55_code 8 = .ok (.iconst 1, 1) := by decide +kernel
theorem d14_9 : decode jdk_42_method_55_code 9 = .ok (.goto 4, 3) := by decide +kernel
theorem d14_12 : decode jdk_42_method_55_code 12 = .ok (.iconst 0, 1) := by decide +kernel
theorem d14_13 : decode jdk_42_method_55_code 13 = .ok (.ireturn, 1) := by decide +kernel
set_option maxRecDepth 65536 in
set_option maxHeartbeats 40000000 in
theorem c_isEmptyN (l : Launch) (Z : State) (a0 : Array Value) (hw : ∀ d ∈ tables_1, d.before a0 Z = true) (hEW : EW Z a0 consts_1) (n0 : Nat) (c1 : Int32) (hc1 : ¬ c1 = 0) (S1 : Sta Z Z.heap "java/lang/String" "COMPACT_STRINGS" "Z" (.int c1)) (v2 : Value) (hv2 : v2.isRef = true) (S2 : Sta Z Z.heap "jdk/internal/util/Preconditions" "SIOOBE_FORMATTER" "Ljava/util/function/BiFunction;" v2) (t1 t2 : Addr) (kt1 kt2 : ClassId) (SD1 : Sta Z Z.heap "java/lang/Integer" "DigitOnes" "[B" (.ref t1)) (SD2 : Sta Z Z.heap "java/lang/Integer" "DigitTens" "[B" (.ref t2)) (AD1 : Arv Z Z.heap t1 kt1 .byte 100 dOnes (.int 0)) (AD2 : Arv Z Z.heap t2 kt2 .byte 100 dTens (.int 0)) (a b : Addr) (bs : List Value) {h0 : Heap} (o1 : Old Z n0 h0) (hne : 0 < bs.length) (hn : bs.length < 2147483648) (hS : Str Z h0 a b bs) :
    Con Z a0 l (⟨"java/lang/String", "isEmpty", "()Z"⟩ : MethodName) jdk_42_method_55_code 1 (some .boolean) ({ frames := 0, cells := 0, slots := 0, locals := 0 } : Room) [] #[(.ref a)] consts_1 h0 n0 [] [] (VV fun w h so => w = .int 0 ∧ h = h0 ∧ so = []) := by
  refine Con.body (plainFor_of_name pn_java_lang_String) hEW o1 all0 #[.val (.ref a)] (fun m => by first | (simp [entryFrame, mkF, argsToLocals, Value.category]; done) | rfl) ?_
  intro p e s m below meth c B hnm hret hlk G
  obtain ⟨Xa, Fc, Fv, kb, Ab⟩ := hS
  replace G := G.aloadN 1 d14_0 rfl rfl rfl
  replace G := G.getf 4 (host := "") (Or.inl (hw _ (List.mem_of_getElem? (i := 28) rfl))) Via.refl Fv d14_1 rfl
  replace G := G.alen 5 Ab d14_4 rfl
  replace G := G.ifT 12 d14_5 (XT.i0_ne_t (ofn_ne (n := 0) (by omega) hn (by decide))) (by decide) (by decide)
  replace G := G.iconst 13 (0 : Int32) d14_12 rfl rfl
  exact G.retN hret (Or.inl rfl) hlk d14_13 [] all0 ⟨_, rfl, rfl, rfl, rfl⟩ (Nat.le_of_ble_eq_true rfl) (Nat.le_of_ble_eq_true rfl)
theorem d13_0 : decode jdk_31_method_11_code 0 = .ok (.aload_n 0, 1) := by decide +kernel
theorem d13_1 : decode jdk_31_method_11_code 1 = .ok (.ifnonnull 12, 3) := by decide +kernel
theorem d13_4 : decode jdk_31_method_11_code 4 = .ok (.new 84, 3) := by decide +kernel
theorem d13_7 : decode jdk_31_method_11_code 7 = .ok (.dup, 1) := by decide +kernel
theorem d13_8 : decode jdk_31_method_11_code 8 = .ok (.aload_n 1, 1) := by decide +kernel
theorem d13_9 : decode jdk_31_method_11_code 9 = .ok (.invokespecial 87, 3) := by decide +kernel
theorem d13_12 : decode jdk_31_method_11_code 12 = .ok (.athrow, 1) := by decide +kernel
theorem d13_13 : decode jdk_31_method_11_code 13 = .ok (.aload_n 0, 1) := by decide +kernel
theorem d13_14 : decode jdk_31_method_11_code 14 = .ok (.areturn, 1) := by decide +kernel
set_option maxRecDepth 65536 in
set_option maxHeartbeats 40000000 in
theorem c_reqNN (l : Launch) (Z : State) (a0 : Array Value) (hw : ∀ d ∈ tables_1, d.before a0 Z = true) (hEW : EW Z a0 consts_1) (n0 : Nat) (c1 : Int32) (hc1 : ¬ c1 = 0) (S1 : Sta Z Z.heap "java/lang/String" "COMPACT_STRINGS" "Z" (.int c1)) (v2 : Value) (hv2 : v2.isRef = true) (S2 : Sta Z Z.heap "jdk/internal/util/Preconditions" "SIOOBE_FORMATTER" "Ljava/util/function/BiFunction;" v2) (t1 t2 : Addr) (kt1 kt2 : ClassId) (SD1 : Sta Z Z.heap "java/lang/Integer" "DigitOnes" "[B" (.ref t1)) (SD2 : Sta Z Z.heap "java/lang/Integer" "DigitTens" "[B" (.ref t2)) (AD1 : Arv Z Z.heap t1 kt1 .byte 100 dOnes (.int 0)) (AD2 : Arv Z Z.heap t2 kt2 .byte 100 dTens (.int 0)) (a t : Addr) {h0 : Heap} (o1 : Old Z n0 h0)  :
    Con Z a0 l (⟨"java/util/Objects", "requireNonNull", "(Ljava/lang/Object;Ljava/lang/String;)Ljava/lang/Object;"⟩ : MethodName) jdk_31_method_11_code 2 (some (.object "java/lang/Object")) ({ frames := 0, cells := 0, slots := 0, locals := 0 } : Room) [] #[(.ref a), (.ref t)] consts_1 h0 n0 [] [] (VV fun w h so => w = .ref a ∧ h = h0 ∧ so = []) := by
  refine Con.body (plainFor_of_name pn_java_util_Objects) hEW o1 all0 #[.val (.ref a), .val (.ref t)] (fun m => by first | (simp [entryFrame, mkF, argsToLocals, Value.category]; done) | rfl) ?_
  intro p e s m below meth c B hnm hret hlk G
  replace G := G.aloadN 1 d13_0 rfl rfl rfl
  replace G := G.ifnonnullT 13 d13_1 (by decide) (by decide)
  replace G := G.aloadN 14 d13_13 rfl rfl rfl
  exact G.retA hret rfl rfl hlk d13_14 [] all0 ⟨_, rfl, rfl, rfl, rfl⟩ (Nat.le_of_ble_eq_true rfl) (Nat.le_of_ble_eq_true rfl)
theorem d12_0 : decode jdk_30_method_1_code 0 = .ok (.aload_n 0, 1) := by decide +kernel
theorem d12_1 : decode jdk_30_method_1_code 1 = .ok (.invokespecial 1, 3) := by decide +kernel
theorem d12_4 : decode jdk_30_method_1_code 4 = .ok (.return_, 1) := by decide +kernel
set_option maxRecDepth 65536 in
set_option maxHeartbeats 40000000 in
theorem c_recI (l : Launch) (Z : State) (a0 : Array Value) (hw : ∀ d ∈ tables_1, d.before a0 Z = true) (hEW : EW Z a0 consts_1) (n0 : Nat) (c1 : Int32) (hc1 : ¬ c1 = 0) (S1 : Sta Z Z.heap "java/lang/String" "COMPACT_STRINGS" "Z" (.int c1)) (v2 : Value) (hv2 : v2.isRef = true) (S2 : Sta Z Z.heap "jdk/internal/util/Preconditions" "SIOOBE_FORMATTER" "Ljava/util/function/BiFunction;" v2) (t1 t2 : Addr) (kt1 kt2 : ClassId) (SD1 : Sta Z Z.heap "java/lang/Integer" "DigitOnes" "[B" (.ref t1)) (SD2 : Sta Z Z.heap "java/lang/Integer" "DigitTens" "[B" (.ref t2)) (AD1 : Arv Z Z.heap t1 kt1 .byte 100 dOnes (.int 0)) (AD2 : Arv Z Z.heap t2 kt2 .byte 100 dTens (.int 0)) (a : Addr) {h0 : Heap} (o1 : Old Z n0 h0)  :
    Con Z a0 l (⟨"java/lang/Record", "<init>", "()V"⟩ : MethodName) jdk_30_method_1_code 1 (none) ({ frames := 1, cells := 0, slots := 0, locals := 12 } : Room) [] #[(.ref a)] consts_1 h0 n0 [] [] (V0 fun h so => h = h0 ∧ so = []) := by
  refine Con.body (plainFor_of_name pn_java_lang_Record) hEW o1 all0 #[.val (.ref a)] (fun m => by first | (simp [entryFrame, mkF, argsToLocals, Value.category]; done) | rfl) ?_
  intro p e s m below meth c B hnm hret hlk G
  replace G := G.aloadN 1 d12_0 rfl rfl rfl
  replace G := G.initO 4 (hw _ (List.mem_of_getElem? (i := 56) rfl)) (hw _ (List.mem_of_getElem? (i := 12) rfl)) (hw _ (List.mem_of_getElem? (i := 13) rfl)) d12_1 rfl (Nat.le_of_ble_eq_true rfl) (Nat.le_of_ble_eq_true rfl) rfl
  exact G.retV hret hlk d12_4 [] all0 ⟨rfl, rfl, rfl⟩ (Nat.le_of_ble_eq_true rfl) (Nat.le_of_ble_eq_true rfl)
theorem d11_0 : decode prog_2_method_1_code 0 = .ok (.aload_n 0, 1) := by decide +kernel
theorem d11_1 : decode prog_2_method_1_code 1 = .ok (.invokespecial 1, 3) := by decide +kernel
theorem d11_4 : decode prog_2_method_1_code 4 = .ok (.aload_n 1, 1) := by decide +kernel
theorem d11_5 : decode prog_2_method_1_code 5 = .ok (.ldc 7, 2) := by decide +kernel
theorem d11_7 : decode prog_2_method_1_code 7 = .ok (.invokestatic 9, 3) := by decide +kernel
theorem d11_10 : decode prog_2_method_1_code 10 = .ok (.pop, 1) := by decide +kernel
theorem d11_11 : decode prog_2_method_1_code 11 = .ok (.aload_n 2, 1) := by decide +kernel
theorem d11_12 : decode prog_2_method_1_code 12 = .ok (.ldc 15, 2) := by decide +kernel
theorem d11_14 : decode prog_2_method_1_code 14 = .ok (.invokestatic 9, 3) := by decide +kernel
theorem d11_17 : decode prog_2_method_1_code 17 = .ok (.pop, 1) := by decide +kernel
theorem d11_18 : decode prog_2_method_1_code 18 = .ok (.aload_n 1, 1) := by decide +kernel
theorem d11_19 : decode prog_2_method_1_code 19 = .ok (.invokevirtual 17, 3) := by decide +kernel
theorem d11_22 : decode prog_2_method_1_code 22 = .ok (.ifCond .eq 13, 3) := by decide +kernel
theorem d11_25 : decode prog_2_method_1_code 25 = .ok (.new 23, 3) := by decide +kernel
theorem d11_28 : decode prog_2_method_1_code 28 = .ok (.dup, 1) := by decide +kernel
theorem d11_29 : decode prog_2_method_1_code 29 = .ok (.ldc 25, 2) := by decide +kernel
theorem d11_31 : decode prog_2_method_1_code 31 = .ok (.invokespecial 27, 3) := by decide +kernel
theorem d11_34 : decode prog_2_method_1_code 34 = .ok (.athrow, 1) := by decide +kernel
theorem d11_35 : decode prog_2_method_1_code 35 = .ok (.aload_n 2, 1) := by decide +kernel
theorem d11_36 : decode prog_2_method_1_code 36 = .ok (.invokevirtual 17, 3) := by decide +kernel
theorem d11_39 : decode prog_2_method_1_code 39 = .ok (.ifCond .eq 13, 3) := by decide +kernel
theorem d11_42 : decode prog_2_method_1_code 42 = .ok (.new 23, 3) := by decide +kernel
theorem d11_45 : decode prog_2_method_1_code 45 = .ok (.dup, 1) := by decide +kernel
theorem d11_46 : decode prog_2_method_1_code 46 = .ok (.ldc 30, 2) := by decide +kernel
theorem d11_48 : decode prog_2_method_1_code 48 = .ok (.invokespecial 27, 3) := by decide +kernel
theorem d11_51 : decode prog_2_method_1_code 51 = .ok (.athrow, 1) := by decide +kernel
theorem d11_52 : decode prog_2_method_1_code 52 = .ok (.iload_n 3, 1) := by decide +kernel
theorem d11_53 : decode prog_2_method_1_code 53 = .ok (.ifCond .ge 30, 3) := by decide +kernel
theorem d11_56 : decode prog_2_method_1_code 56 = .ok (.new 23, 3) := by decide +kernel
theorem d11_59 : decode prog_2_method_1_code 59 = .ok (.dup, 1) := by decide +kernel
theorem d11_60 : decode prog_2_method_1_code 60 = .ok (.new 32, 3) := by decide +kernel
theorem d11_63 : decode prog_2_method_1_code 63 = .ok (.dup, 1) := by decide +kernel
theorem d11_64 : decode prog_2_method_1_code 64 = .ok (.invokespecial 34, 3) := by decide +kernel
theorem d11_67 : decode prog_2_method_1_code 67 = .ok (.ldc 35, 2) := by decide +kernel
theorem d11_69 : decode prog_2_method_1_code 69 = .ok (.invokevirtual 37, 3) := by decide +kernel
theorem d11_72 : decode prog_2_method_1_code 72 = .ok (.iload_n 3, 1) := by decide +kernel
theorem d11_73 : decode prog_2_method_1_code 73 = .ok (.invokevirtual 41, 3) := by decide +kernel
theorem d11_76 : decode prog_2_method_1_code 76 = .ok (.invokevirtual 44, 3) := by decide +kernel
theorem d11_79 : decode prog_2_method_1_code 79 = .ok (.invokespecial 27, 3) := by decide +kernel
theorem d11_82 : decode prog_2_method_1_code 82 = .ok (.athrow, 1) := by decide +kernel
theorem d11_83 : decode prog_2_method_1_code 83 = .ok (.aload_n 0, 1) := by decide +kernel
theorem d11_84 : decode prog_2_method_1_code 84 = .ok (.aload_n 1, 1) := by decide +kernel
theorem d11_85 : decode prog_2_method_1_code 85 = .ok (.putfield 48, 3) := by decide +kernel
theorem d11_88 : decode prog_2_method_1_code 88 = .ok (.aload_n 0, 1) := by decide +kernel
theorem d11_89 : decode prog_2_method_1_code 89 = .ok (.aload_n 2, 1) := by decide +kernel
theorem d11_90 : decode prog_2_method_1_code 90 = .ok (.putfield 53, 3) := by decide +kernel
theorem d11_93 : decode prog_2_method_1_code 93 = .ok (.aload_n 0, 1) := by decide +kernel
theorem d11_94 : decode prog_2_method_1_code 94 = .ok (.iload_n 3, 1) := by decide +kernel
theorem d11_95 : decode prog_2_method_1_code 95 = .ok (.putfield 55, 3) := by decide +kernel
theorem d11_98 : decode prog_2_method_1_code 98 = .ok (.return_, 1) := by decide +kernel
set_option maxRecDepth 65536 in
set_option maxHeartbeats 40000000 in
theorem c_mqI (l : Launch) (Z : State) (a0 : Array Value) (hw : ∀ d ∈ tables_1, d.before a0 Z = true) (hEW : EW Z a0 consts_1) (n0 : Nat) (c1 : Int32) (hc1 : ¬ c1 = 0) (S1 : Sta Z Z.heap "java/lang/String" "COMPACT_STRINGS" "Z" (.int c1)) (v2 : Value) (hv2 : v2.isRef = true) (S2 : Sta Z Z.heap "jdk/internal/util/Preconditions" "SIOOBE_FORMATTER" "Ljava/util/function/BiFunction;" v2) (t1 t2 : Addr) (kt1 kt2 : ClassId) (SD1 : Sta Z Z.heap "java/lang/Integer" "DigitOnes" "[B" (.ref t1)) (SD2 : Sta Z Z.heap "java/lang/Integer" "DigitTens" "[B" (.ref t2)) (AD1 : Arv Z Z.heap t1 kt1 .byte 100 dOnes (.int 0)) (AD2 : Arv Z Z.heap t2 kt2 .byte 100 dTens (.int 0)) (q t tb b bb : Addr) (ts bs : List Value) (N : Nat) {h0 : Heap} (o1 : Old Z n0 h0) (ge_q : n0 ≤ q) (ht0 : 0 < ts.length) (ht1 : ts.length < 2147483648) (hb0 : 0 < bs.length) (hb1 : bs.length < 2147483648) (hN : N < 2147483648) (Xq : Exa Z h0 q "com/example/rebalance/rebalance/MessageQueue") (Ft : Fld Z h0 q "com/example/rebalance/rebalance/MessageQueue" "topic" "Ljava/lang/String;" .null) (Fb : Fld Z h0 q "com/example/rebalance/rebalance/MessageQueue" "brokerName" "Ljava/lang/String;" .null) (Fq : Fld Z h0 q "com/example/rebalance/rebalance/MessageQueue" "queueId" "I" (.int 0)) (hT : Str Z h0 t tb ts) (hB : Str Z h0 b bb bs) :
    Con Z a0 l (⟨"com/example/rebalance/rebalance/MessageQueue", "<init>", "(Ljava/lang/String;Ljava/lang/String;I)V"⟩ : MethodName) prog_2_method_1_code 4 (none) ({ frames := 2, cells := 4, slots := 68, locals := 24 } : Room) [] #[(.ref q), (.ref t), (.ref b), (.int (Int32.ofNat N))] consts_1 h0 n0 [q] [q] (V0 fun h so => Exa Z h q "com/example/rebalance/rebalance/MessageQueue" ∧ Fld Z h q "com/example/rebalance/rebalance/MessageQueue" "topic" "Ljava/lang/String;" (.ref t) ∧ Fld Z h q "com/example/rebalance/rebalance/MessageQueue" "brokerName" "Ljava/lang/String;" (.ref b) ∧ Fld Z h q "com/example/rebalance/rebalance/MessageQueue" "queueId" "I" (.int (Int32.ofNat N)) ∧ so = []) := by
  refine Con.body (plainFor_of_name pn_com_example_rebalance_rebalance_MessageQueue) hEW o1 (allS ge_q all0) #[.val (.ref q), .val (.ref t), .val (.ref b), .val (.int (Int32.ofNat N))] (fun m => by first | (simp [entryFrame, mkF, argsToLocals, Value.category]; done) | rfl) ?_
  intro p e s m below meth c B hnm hret hlk G
  replace G := G.aloadN 1 d11_0 rfl rfl rfl
  obtain ⟨vr, h_r, sor, G', Kr, Qr⟩ := G.callI 4 rfl rfl (hw _ (List.mem_of_getElem? (i := 51) rfl)) (hw _ (List.mem_of_getElem? (i := 52) rfl)) (hw _ (List.mem_of_getElem? (i := 54) rfl)) (hw _ (List.mem_of_getElem? (i := 55) rfl)) (by decide) [] [] rfl (c_recI l Z a0 hw hEW n0 c1 hc1 S1 v2 hv2 S2 t1 t2 kt1 kt2 SD1 SD2 AD1 AD2 q G.old ) (lenOf pd___V rfl) d11_1 rfl (Nat.le_of_ble_eq_true rfl) (Nat.le_of_ble_eq_true rfl) (Nat.le_of_ble_eq_true rfl) (Nat.le_of_ble_eq_true rfl) all0 all0 all0 rfl
  clear G; have G := G'; clear G'
  obtain ⟨qr, er, rfl⟩ := Qr
  replace G := G.nov qr
  subst er
  replace G := G.aloadN 5 d11_4 rfl rfl rfl
  obtain ⟨l1, l2, h1, kkx1, G', Ex1, Xx1, Fcx1, Fvx1, Ax1, nex1⟩ := G.ldcS 7 (hw _ (List.mem_of_getElem? (i := 57) rfl)) (wS_of hw) (List.mem_of_getElem? (i := 0) rfl) (vs := [(.int (116 : Int32)), (.int (111 : Int32)), (.int (112 : Int32)), (.int (105 : Int32)), (.int (99 : Int32))]) (z := (5 : Int32)) (by decide) (by decide) rfl d11_5 20 (by decide) (by decide) (Nat.le_of_ble_eq_true rfl) (Nat.le_of_ble_eq_true rfl) rfl
  clear G; have G := G'; clear G'
  replace Xq := Xq.ext Ex1; replace Ft := Ft.ext Ex1; replace Fb := Fb.ext Ex1; replace Fq := Fq.ext Ex1; replace hT := hT.ext Ex1; replace hB := hB.ext Ex1
  obtain ⟨vs1, h_s, sos1, G', Ks1, Qs1⟩ := G.callS 10 (hw _ (List.mem_of_getElem? (i := 60) rfl)) (hw _ (List.mem_of_getElem? (i := 61) rfl)) (hw _ (List.mem_of_getElem? (i := 62) rfl)) (hw _ (List.mem_of_getElem? (i := 63) rfl)) (by decide) [(.ref t), (.ref l1)] [] rfl (c_reqNN l Z a0 hw hEW n0 c1 hc1 S1 v2 hv2 S2 t1 t2 kt1 kt2 SD1 SD2 AD1 AD2 t l1 G.old ) (lenOf pd__Ljava_lang_Object_Ljava_lang_String__Ljava_lang_Object_ rfl) d11_7 rfl (Nat.le_of_ble_eq_true rfl) (Nat.le_of_ble_eq_true rfl) (Nat.le_of_ble_eq_true rfl) (Nat.le_of_ble_eq_true rfl) all0 all0 all0 rfl
  clear G; have G := G'; clear G'
  obtain ⟨ws1, qs1, rfl, es1, rfl⟩ := Qs1
  replace G := G.val qs1
  subst es1
  replace G := G.pop 11 d11_10 rfl rfl
  replace G := G.aloadN 12 d11_11 rfl rfl rfl
  obtain ⟨l3, l4, h2, kkx2, G', Ex2, Xx2, Fcx2, Fvx2, Ax2, nex2⟩ := G.ldcS 14 (hw _ (List.mem_of_getElem? (i := 64) rfl)) (wS_of hw) (List.mem_of_getElem? (i := 1) rfl) (vs := [(.int (98 : Int32)), (.int (114 : Int32)), (.int (111 : Int32)), (.int (107 : Int32)), (.int (101 : Int32)), (.int (114 : Int32)), (.int (78 : Int32)), (.int (97 : Int32)), (.int (109 : Int32)), (.int (101 : Int32))]) (z := (10 : Int32)) (by decide) (by decide) rfl d11_12 40 (by decide) (by decide) (Nat.le_of_ble_eq_true rfl) (Nat.le_of_ble_eq_true rfl) rfl
  clear G; have G := G'; clear G'
  replace Xq := Xq.ext Ex2; replace Ft := Ft.ext Ex2; replace Fb := Fb.ext Ex2; replace Fq := Fq.ext Ex2; replace hT := hT.ext Ex2; replace hB := hB.ext Ex2
  obtain ⟨vs2, h_s, sos2, G', Ks2, Qs2⟩ := G.callS 17 (hw _ (List.mem_of_getElem? (i := 60) rfl)) (hw _ (List.mem_of_getElem? (i := 61) rfl)) (hw _ (List.mem_of_getElem? (i := 62) rfl)) (hw _ (List.mem_of_getElem? (i := 63) rfl)) (by decide) [(.ref b), (.ref l3)] [] rfl (c_reqNN l Z a0 hw hEW n0 c1 hc1 S1 v2 hv2 S2 t1 t2 kt1 kt2 SD1 SD2 AD1 AD2 b l3 G.old ) (lenOf pd__Ljava_lang_Object_Ljava_lang_String__Ljava_lang_Object_ rfl) d11_14 rfl (Nat.le_of_ble_eq_true rfl) (Nat.le_of_ble_eq_true rfl) (Nat.le_of_ble_eq_true rfl) (Nat.le_of_ble_eq_true rfl) all0 all0 all0 rfl
  clear G; have G := G'; clear G'
  obtain ⟨ws2, qs2, rfl, es2, rfl⟩ := Qs2
  replace G := G.val qs2
  subst es2
  replace G := G.pop 18 d11_17 rfl rfl
  replace G := G.aloadN 19 d11_18 rfl rfl rfl
  obtain ⟨ve1, h_e, soe1, G', Ke1, Qe1⟩ := G.callV 22 (hw _ (List.mem_of_getElem? (i := 65) rfl)) (hw _ (List.mem_of_getElem? (i := 66) rfl)) (nfSel (hw _ (List.mem_of_getElem? (i := 68) rfl))) (hw _ (List.mem_of_getElem? (i := 68) rfl)) (hw _ (List.mem_of_getElem? (i := 67) rfl)) (hw _ (List.mem_of_getElem? (i := 2) rfl)) (hw _ (List.mem_of_getElem? (i := 69) rfl)) hT.1 (by decide) [] [] rfl (c_isEmptyN l Z a0 hw hEW n0 c1 hc1 S1 v2 hv2 S2 t1 t2 kt1 kt2 SD1 SD2 AD1 AD2 t tb ts G.old ht0 ht1 hT) (lenOf pd___Z rfl) d11_19 rfl (Nat.le_of_ble_eq_true rfl) (Nat.le_of_ble_eq_true rfl) (Nat.le_of_ble_eq_true rfl) (Nat.le_of_ble_eq_true rfl) all0 all0 all0 rfl
  clear G; have G := G'; clear G'
  obtain ⟨we1, qe1, rfl, ee1, rfl⟩ := Qe1
  replace G := G.val qe1
  subst ee1
  replace G := G.ifT 35 d11_22 (XT.i0_eq_t rfl) (by decide) (by decide)
  replace G := G.aloadN 36 d11_35 rfl rfl rfl
  obtain ⟨ve2, h_e, soe2, G', Ke2, Qe2⟩ := G.callV 39 (hw _ (List.mem_of_getElem? (i := 65) rfl)) (hw _ (List.mem_of_getElem? (i := 66) rfl)) (nfSel (hw _ (List.mem_of_getElem? (i := 68) rfl))) (hw _ (List.mem_of_getElem? (i := 68) rfl)) (hw _ (List.mem_of_getElem? (i := 67) rfl)) (hw _ (List.mem_of_getElem? (i := 2) rfl)) (hw _ (List.mem_of_getElem? (i := 69) rfl)) hB.1 (by decide) [] [] rfl (c_isEmptyN l Z a0 hw hEW n0 c1 hc1 S1 v2 hv2 S2 t1 t2 kt1 kt2 SD1 SD2 AD1 AD2 b bb bs G.old hb0 hb1 hB) (lenOf pd___Z rfl) d11_36 rfl (Nat.le_of_ble_eq_true rfl) (Nat.le_of_ble_eq_true rfl) (Nat.le_of_ble_eq_true rfl) (Nat.le_of_ble_eq_true rfl) all0 all0 all0 rfl
  clear G; have G := G'; clear G'
  obtain ⟨we2, qe2, rfl, ee2, rfl⟩ := Qe2
  replace G := G.val qe2
  subst ee2
  replace G := G.ifT 52 d11_39 (XT.i0_eq_t rfl) (by decide) (by decide)
  replace G := G.iloadN 53 d11_52 rfl rfl
  replace G := G.ifT 83 d11_53 (XT.i0_ge_t (ofn_nn hN)) (by decide) (by decide)
  replace G := G.aloadN 84 d11_83 rfl rfl rfl
  replace G := G.aloadN 85 d11_84 rfl rfl rfl
  obtain ⟨h3, G', Wt1, Ft1, Kt1⟩ := G.putf 88 (host := "") (Or.inl (hw _ (List.mem_of_getElem? (i := 70) rfl))) Via.refl Ft Xq (Or.inr ⟨(hw _ (List.mem_of_getElem? (i := 71) rfl)), rfl, hnm⟩) (hw _ (List.mem_of_getElem? (i := 46) rfl)) (ty := (.object "java/lang/String")) (by decide) rfl rfl (Or.inl (List.mem_of_getElem? (i := 0) rfl)) (List.mem_of_getElem? (i := 0) rfl) d11_85 rfl
  clear G; have G := G'; clear G'
  replace Fb := Fb.other Wt1 (Or.inr (slot_ne (Or.inr (hw _ (List.mem_of_getElem? (i := 73) rfl))) (Or.inr (hw _ (List.mem_of_getElem? (i := 71) rfl))) (by decide) (t := (.object "java/lang/String")) (t' := (.object "java/lang/String")) (by decide) (by decide))); replace Fq := Fq.other Wt1 (Or.inr (slot_ne (Or.inr (hw _ (List.mem_of_getElem? (i := 75) rfl))) (Or.inr (hw _ (List.mem_of_getElem? (i := 71) rfl))) (by decide) (t := .int) (t' := (.object "java/lang/String")) (by decide) (by decide))); replace Xq := Xq.wr Wt1
  replace G := G.aloadN 89 d11_88 rfl rfl rfl
  replace G := G.aloadN 90 d11_89 rfl rfl rfl
  obtain ⟨h4, G', Wb1, Fb1, Kb1⟩ := G.putf 93 (host := "") (Or.inl (hw _ (List.mem_of_getElem? (i := 72) rfl))) Via.refl Fb Xq (Or.inr ⟨(hw _ (List.mem_of_getElem? (i := 73) rfl)), rfl, hnm⟩) (hw _ (List.mem_of_getElem? (i := 46) rfl)) (ty := (.object "java/lang/String")) (by decide) rfl rfl (Or.inl (List.mem_of_getElem? (i := 0) rfl)) (List.mem_of_getElem? (i := 0) rfl) d11_90 rfl
  clear G; have G := G'; clear G'
  replace Ft1 := Ft1.other Wb1 (Or.inr (slot_ne (Or.inr (hw _ (List.mem_of_getElem? (i := 71) rfl))) (Or.inr (hw _ (List.mem_of_getElem? (i := 73) rfl))) (by decide) (t := (.object "java/lang/String")) (t' := (.object "java/lang/String")) (by decide) (by decide))); replace Fq := Fq.other Wb1 (Or.inr (slot_ne (Or.inr (hw _ (List.mem_of_getElem? (i := 75) rfl))) (Or.inr (hw _ (List.mem_of_getElem? (i := 73) rfl))) (by decide) (t := .int) (t' := (.object "java/lang/String")) (by decide) (by decide))); replace Xq := Xq.wr Wb1
  replace G := G.aloadN 94 d11_93 rfl rfl rfl
  replace G := G.iloadN 95 d11_94 rfl rfl
  obtain ⟨h5, G', Wq1, Fq1, Kq1⟩ := G.putf 98 (host := "") (Or.inl (hw _ (List.mem_of_getElem? (i := 74) rfl))) Via.refl Fq Xq (Or.inr ⟨(hw _ (List.mem_of_getElem? (i := 75) rfl)), rfl, hnm⟩) (hw _ (List.mem_of_getElem? (i := 46) rfl)) (ty := .int) (by decide) rfl rfl (Or.inl (List.mem_of_getElem? (i := 0) rfl)) (List.mem_of_getElem? (i := 0) rfl) d11_95 rfl
  clear G; have G := G'; clear G'
  replace Ft1 := Ft1.other Wq1 (Or.inr (slot_ne (Or.inr (hw _ (List.mem_of_getElem? (i := 71) rfl))) (Or.inr (hw _ (List.mem_of_getElem? (i := 75) rfl))) (by decide) (t := (.object "java/lang/String")) (t' := .int) (by decide) (by decide))); replace Fb1 := Fb1.other Wq1 (Or.inr (slot_ne (Or.inr (hw _ (List.mem_of_getElem? (i := 73) rfl))) (Or.inr (hw _ (List.mem_of_getElem? (i := 75) rfl))) (by decide) (t := (.object "java/lang/String")) (t' := .int) (by decide) (by decide))); replace Xq := Xq.wr Wq1
  exact G.retV hret hlk d11_98 [] all0 ⟨rfl, Xq, Ft1, Fb1, Fq1, rfl⟩ (Nat.le_of_ble_eq_true rfl) (Nat.le_of_ble_eq_true rfl)
theorem d15_0 : decode prog_2_method_4_code 0 = .ok (.new 32, 3) := by decide +kernel
theorem d15_3 : decode prog_2_method_4_code 3 = .ok (.dup, 1) := by decide +kernel
theorem d15_4 : decode prog_2_method_4_code 4 = .ok (.invokespecial 34, 3) := by decide +kernel
theorem d15_7 : decode prog_2_method_4_code 7 = .ok (.aload_n 0, 1) := by decide +kernel
theorem d15_8 : decode prog_2_method_4_code 8 = .ok (.getfield 53, 3) := by decide +kernel
theorem d15_11 : decode prog_2_method_4_code 11 = .ok (.invokevirtual 37, 3) := by decide +kernel
theorem d15_14 : decode prog_2_method_4_code 14 = .ok (.ldc 77, 2) := by decide +kernel
theorem d15_16 : decode prog_2_method_4_code 16 = .ok (.invokevirtual 37, 3) := by decide +kernel
theorem d15_19 : decode prog_2_method_4_code 19 = .ok (.aload_n 0, 1) := by decide +kernel
theorem d15_20 : decode prog_2_method_4_code 20 = .ok (.getfield 55, 3) := by decide +kernel
theorem d15_23 : decode prog_2_method_4_code 23 = .ok (.invokevirtual 41, 3) := by decide +kernel
theorem d15_26 : decode prog_2_method_4_code 26 = .ok (.invokevirtual 44, 3) := by decide +kernel
theorem d15_29 : decode prog_2_method_4_code 29 = .ok (.areturn, 1) := by decide +kernel
set_option maxRecDepth 65536 in
set_option maxHeartbeats 40000000 in
theorem c_mqS (l : Launch) (Z : State) (a0 : Array Value) (hw : ∀ d ∈ tables_1, d.before a0 Z = true) (hEW : EW Z a0 consts_1) (n0 : Nat) (c1 : Int32) (hc1 : ¬ c1 = 0) (S1 : Sta Z Z.heap "java/lang/String" "COMPACT_STRINGS" "Z" (.int c1)) (v2 : Value) (hv2 : v2.isRef = true) (S2 : Sta Z Z.heap "jdk/internal/util/Preconditions" "SIOOBE_FORMATTER" "Ljava/util/function/BiFunction;" v2) (t1 t2 : Addr) (kt1 kt2 : ClassId) (SD1 : Sta Z Z.heap "java/lang/Integer" "DigitOnes" "[B" (.ref t1)) (SD2 : Sta Z Z.heap "java/lang/Integer" "DigitTens" "[B" (.ref t2)) (AD1 : Arv Z Z.heap t1 kt1 .byte 100 dOnes (.int 0)) (AD2 : Arv Z Z.heap t2 kt2 .byte 100 dTens (.int 0)) (q x y : Addr) (bs : List Value) (N : Nat) {h0 : Heap} (o1 : Old Z n0 h0) (hb : bs.length ≤ 3) (hN : N < 2147483648) (Fb : Fld Z h0 q "com/example/rebalance/rebalance/MessageQueue" "brokerName" "Ljava/lang/String;" (.ref x)) (Fq : Fld Z h0 q "com/example/rebalance/rebalance/MessageQueue" "queueId" "I" (.int (Int32.ofNat N))) (hB : Str Z h0 x y bs) :
    Con Z a0 l (⟨"com/example/rebalance/rebalance/MessageQueue", "toString", "()Ljava/lang/String;"⟩ : MethodName) prog_2_method_4_code 1 (some (.object "java/lang/String")) ({ frames := 6, cells := 6, slots := 96, locals := 114 } : Room) [] #[(.ref q)] consts_1 h0 n0 [] [] (VV fun w h so => ∃ s2 n, w = .ref s2 ∧ Str Z h s2 n (bs ++ [.int 58] ++ digs N) ∧ h0.size ≤ s2 ∧ h0.size ≤ n ∧ so = [n, s2]) := by
  refine Con.body (plainFor_of_name pn_com_example_rebalance_rebalance_MessageQueue) hEW o1 all0 #[.val (.ref q)] (fun m => by first | (simp [entryFrame, mkF, argsToLocals, Value.category]; done) | rfl) ?_
  intro p e s m below meth c B hnm hret hlk G
  obtain ⟨a, h1, G', ga, sa, Ea, Xa, Da, Ua⟩ := G.new 3 (hw _ (List.mem_of_getElem? (i := 81) rfl)) (hw _ (List.mem_of_getElem? (i := 82) rfl)) (hw _ (List.mem_of_getElem? (i := 83) rfl)) d15_0 rfl (Nat.le_of_ble_eq_true rfl) (Nat.le_of_ble_eq_true rfl)
  clear G; have G := G'; clear G'
  have Fva := Da (Or.inl (hw _ (List.mem_of_getElem? (i := 96) rfl))) (ty := .array .byte) (by decide); have Fca := Da (Or.inl (hw _ (List.mem_of_getElem? (i := 98) rfl))) (ty := .byte) (by decide); have Fna := Da (Or.inl (hw _ (List.mem_of_getElem? (i := 120) rfl))) (ty := .int) (by decide)
  replace G := G.dup 4 d15_3 rfl rfl
  obtain ⟨vIa, h2, soIa, G', KIa, QIa⟩ := G.callI 7 rfl rfl (hw _ (List.mem_of_getElem? (i := 84) rfl)) (hw _ (List.mem_of_getElem? (i := 85) rfl)) (hw _ (List.mem_of_getElem? (i := 83) rfl)) (hw _ (List.mem_of_getElem? (i := 86) rfl)) (by decide) [] [(.ref a)] rfl (c_sbInit l Z a0 hw hEW n0 c1 hc1 S1 v2 hv2 S2 a G.old (G.nw (Or.inr sa)) Xa Fva Fca Fna) (lenOf pd___V rfl) d15_4 rfl (Nat.le_of_ble_eq_true rfl) (Nat.le_of_ble_eq_true rfl) (Nat.le_of_ble_eq_true rfl) (Nat.le_of_ble_eq_true rfl) (allS (Or.inr sa) all0) (allS (List.mem_of_getElem? (i := 0) rfl) all0) (allS (List.mem_of_getElem? (i := 0) rfl) all0) rfl
  clear G; have G := G'; clear G'
  obtain ⟨qIa, b, hS, sb, rfl⟩ := QIa
  replace G := G.nov qIa
  replace sb := Nat.le_trans Ea.1 sb
  have nqa : q ≠ a := ne_new ga Fq.lt; have nqb : q ≠ b := (ne_ge Fq.lt sb).symm; have nxa : x ≠ a := ne_new ga hB.lt; have nxb : x ≠ b := (ne_ge hB.lt sb).symm; have nya : y ≠ a := ne_new ga hB.ltb; have nyb : y ≠ b := (ne_ge hB.ltb sb).symm
  replace Fb := (Fb.ext Ea).keep KIa (ninS nqa nin0); replace Fq := (Fq.ext Ea).keep KIa (ninS nqa nin0); replace hB := (hB.ext Ea).keep KIa (ninS nxa nin0) (ninS nya nin0)
  replace G := G.aloadN 8 d15_7 rfl rfl rfl
  replace G := G.getf 11 (host := "") (Or.inl (hw _ (List.mem_of_getElem? (i := 72) rfl))) Via.refl Fb d15_8 rfl
  obtain ⟨vp1, h3, sop1, G', Kp1, Qp1⟩ := G.callV 14 (hw _ (List.mem_of_getElem? (i := 99) rfl)) (hw _ (List.mem_of_getElem? (i := 100) rfl)) (nfSel (hw _ (List.mem_of_getElem? (i := 102) rfl))) (hw _ (List.mem_of_getElem? (i := 102) rfl)) (hw _ (List.mem_of_getElem? (i := 101) rfl)) (hw _ (List.mem_of_getElem? (i := 83) rfl)) (hw _ (List.mem_of_getElem? (i := 103) rfl)) hS.1 (by decide) [(.ref x)] [] rfl (c_app l Z a0 hw hEW n0 c1 hc1 S1 v2 hv2 S2 a b x y 16 [] bs G.old (G.nw (Or.inr sa)) (G.nw (Or.inr sb)) (by simp; omega) (by decide) hS hB) (lenOf pd__Ljava_lang_String__Ljava_lang_StringBuilder_ rfl) d15_11 rfl (Nat.le_of_ble_eq_true rfl) (Nat.le_of_ble_eq_true rfl) (Nat.le_of_ble_eq_true rfl) (Nat.le_of_ble_eq_true rfl) (allS (Or.inr sa) (allS (Or.inr sb) all0)) (allS (List.mem_of_getElem? (i := 1) rfl) (allS (List.mem_of_getElem? (i := 0) rfl) all0)) (allS (List.mem_of_getElem? (i := 1) rfl) (allS (List.mem_of_getElem? (i := 0) rfl) all0)) rfl
  clear G; have G := G'; clear G'
  obtain ⟨wp1, qp1, rfl, hS1, rfl⟩ := Qp1
  replace G := G.val qp1
  rw [List.nil_append] at hS1
  replace Fq := Fq.keep Kp1 (ninS nqa (ninS nqb nin0))
  obtain ⟨l1, l2, h4, kkx1, G', Ex1, Xx1, Fcx1, Fvx1, Ax1, nex1⟩ := G.ldcS 16 (hw _ (List.mem_of_getElem? (i := 146) rfl)) (wS_of hw) (List.mem_of_getElem? (i := 2) rfl) (vs := [(.int (58 : Int32))]) (z := (1 : Int32)) (by decide) (by decide) rfl d15_14 4 (by decide) (by decide) (Nat.le_of_ble_eq_true rfl) (Nat.le_of_ble_eq_true rfl) rfl
  clear G; have G := G'; clear G'
  replace hS1 := hS1.ext Ex1; replace Fq := Fq.ext Ex1
  have hL : Str Z h4 l1 l2 [.int 58] := ⟨Xx1, Fcx1, Fvx1, kkx1, Ax1⟩
  obtain ⟨vp2, h5, sop2, G', Kp2, Qp2⟩ := G.callV 19 (hw _ (List.mem_of_getElem? (i := 99) rfl)) (hw _ (List.mem_of_getElem? (i := 100) rfl)) (nfSel (hw _ (List.mem_of_getElem? (i := 102) rfl))) (hw _ (List.mem_of_getElem? (i := 102) rfl)) (hw _ (List.mem_of_getElem? (i := 101) rfl)) (hw _ (List.mem_of_getElem? (i := 83) rfl)) (hw _ (List.mem_of_getElem? (i := 103) rfl)) hS1.1 (by decide) [(.ref l1)] [] rfl (c_app l Z a0 hw hEW n0 c1 hc1 S1 v2 hv2 S2 a b l1 l2 16 bs [.int 58] G.old (G.nw (Or.inr sa)) (G.nw (Or.inr sb)) (by simp; omega) (by decide) hS1 hL) (lenOf pd__Ljava_lang_String__Ljava_lang_StringBuilder_ rfl) d15_16 rfl (Nat.le_of_ble_eq_true rfl) (Nat.le_of_ble_eq_true rfl) (Nat.le_of_ble_eq_true rfl) (Nat.le_of_ble_eq_true rfl) (allS (Or.inr sa) (allS (Or.inr sb) all0)) (allS (List.mem_of_getElem? (i := 1) rfl) (allS (List.mem_of_getElem? (i := 0) rfl) all0)) (allS (List.mem_of_getElem? (i := 1) rfl) (allS (List.mem_of_getElem? (i := 0) rfl) all0)) rfl
  clear G; have G := G'; clear G'
  obtain ⟨wp2, qp2, rfl, hS2, rfl⟩ := Qp2
  replace G := G.val qp2
  replace Fq := Fq.keep Kp2 (ninS nqa (ninS nqb nin0))
  replace G := G.aloadN 20 d15_19 rfl rfl rfl
  replace G := G.getf 23 (host := "") (Or.inl (hw _ (List.mem_of_getElem? (i := 74) rfl))) Via.refl Fq d15_20 rfl
  obtain ⟨vp3, h6, sop3, G', Kp3, Qp3⟩ := G.callV 26 (hw _ (List.mem_of_getElem? (i := 147) rfl)) (hw _ (List.mem_of_getElem? (i := 148) rfl)) (nfSel (hw _ (List.mem_of_getElem? (i := 150) rfl))) (hw _ (List.mem_of_getElem? (i := 150) rfl)) (hw _ (List.mem_of_getElem? (i := 149) rfl)) (hw _ (List.mem_of_getElem? (i := 83) rfl)) (hw _ (List.mem_of_getElem? (i := 151) rfl)) hS2.1 (by decide) [(.int (Int32.ofNat N))] [] rfl (c_appI l Z a0 hw hEW n0 c1 hc1 S1 v2 hv2 S2 t1 t2 kt1 kt2 SD1 SD2 AD1 AD2 a b 16 (bs ++ [.int 58]) N G.old (G.nw (Or.inr sa)) (G.nw (Or.inr sb)) hN (by simp; omega) (by decide) hS2) (lenOf pd__I_Ljava_lang_StringBuilder_ rfl) d15_23 rfl (Nat.le_of_ble_eq_true rfl) (Nat.le_of_ble_eq_true rfl) (Nat.le_of_ble_eq_true rfl) (Nat.le_of_ble_eq_true rfl) (allS (Or.inr sa) (allS (Or.inr sb) all0)) (allS (List.mem_of_getElem? (i := 1) rfl) (allS (List.mem_of_getElem? (i := 0) rfl) all0)) (allS (List.mem_of_getElem? (i := 1) rfl) (allS (List.mem_of_getElem? (i := 0) rfl) all0)) rfl
  clear G; have G := G'; clear G'
  obtain ⟨wp3, qp3, rfl, hS3, rfl⟩ := Qp3
  replace G := G.val qp3
  have hdl := nd_le hN; have hlen : (bs ++ [Value.int 58] ++ digs N).length = bs.length + 1 + nd N := by simp only [List.length_append, List.length_singleton, digs_len]
  have sz := G.sz
  obtain ⟨vt, h7, sot, G', Kt, Qt⟩ := G.callV 29 (hw _ (List.mem_of_getElem? (i := 169) rfl)) (hw _ (List.mem_of_getElem? (i := 170) rfl)) (nfSel (hw _ (List.mem_of_getElem? (i := 172) rfl))) (hw _ (List.mem_of_getElem? (i := 172) rfl)) (hw _ (List.mem_of_getElem? (i := 171) rfl)) (hw _ (List.mem_of_getElem? (i := 83) rfl)) (hw _ (List.mem_of_getElem? (i := 173) rfl)) hS3.1 (by decide) [] [] rfl (c_toStr l Z a0 hw hEW n0 c1 hc1 S1 v2 hv2 S2 a b 16 (bs ++ [.int 58] ++ digs N) G.old (by rw [hlen]; omega) (by decide) (by rw [hlen]; omega) hS3) (lenOf pd___Ljava_lang_String_ rfl) d15_26 rfl (Nat.le_of_ble_eq_true rfl) (Nat.le_of_ble_eq_true rfl) (Nat.le_of_ble_eq_true rfl) (Nat.le_of_ble_eq_true rfl) all0 all0 all0 rfl
  clear G; have G := G'; clear G'
  obtain ⟨wt, qt, s2, n2, rfl, hR, g1, g2, rfl⟩ := Qt
  replace G := G.val qt
  exact G.retA hret rfl rfl hlk d15_29 [n2, s2] (allS (List.mem_of_getElem? (i := 0) rfl) (allS (List.mem_of_getElem? (i := 1) rfl) all0)) ⟨_, rfl, s2, n2, rfl, hR, Nat.le_trans sz g1, Nat.le_trans sz g2, rfl⟩ (Nat.le_of_ble_eq_true rfl) (Nat.le_of_ble_eq_true rfl)
set_option maxRecDepth 65536 in
set_option maxHeartbeats 40000000 in
theorem c_law (l : Launch) (Z : State) (a0 : Array Value) (hw : ∀ d ∈ tables_1, d.before a0 Z = true) (hEW : EW Z a0 consts_1) (n0 : Nat) (c1 : Int32) (hc1 : ¬ c1 = 0) (S1 : Sta Z Z.heap "java/lang/String" "COMPACT_STRINGS" "Z" (.int c1)) (v2 : Value) (hv2 : v2.isRef = true) (S2 : Sta Z Z.heap "jdk/internal/util/Preconditions" "SIOOBE_FORMATTER" "Ljava/util/function/BiFunction;" v2) (t1 t2 : Addr) (kt1 kt2 : ClassId) (SD1 : Sta Z Z.heap "java/lang/Integer" "DigitOnes" "[B" (.ref t1)) (SD2 : Sta Z Z.heap "java/lang/Integer" "DigitTens" "[B" (.ref t2)) (AD1 : Arv Z Z.heap t1 kt1 .byte 100 dOnes (.int 0)) (AD2 : Arv Z Z.heap t2 kt2 .byte 100 dTens (.int 0)) (tws : List Jvm.Cond) (i0 i1 i2 : Int32) {h0 : Heap} (o1 : Old Z n0 h0)  :
    Con Z a0 l (⟨"com/example/rebalance/rebalance/MessageQueueToStringPinLaw", "law", "(III)Z"⟩ : MethodName) code 14 (some .boolean) room_1 tws #[(.int i0), (.int i1), (.int i2)] consts_1 h0 n0 [] [] (VV fun w h so => w = .int 1 ∧ so = []) := by
  refine Con.body (plainFor_of_name pn_com_example_rebalance_rebalance_MessageQueueToStringPinLaw) hEW o1 all0 #[.val (.int i0), .val (.int i1), .val (.int i2), .unset, .unset, .unset, .unset, .unset, .unset, .unset, .unset, .unset, .unset, .unset] (fun m => by first | (simp [entryFrame, mkF, argsToLocals, Value.category]; done) | rfl) ?_
  intro p e s m below meth c B hnm hret hlk G
  obtain ⟨x0, hx0, ex0⟩ := m8 i0; obtain ⟨x1, hx1, ex1⟩ := m8 (XT.ushr i0 8); obtain ⟨x2, hx2, ex2⟩ := m8 (XT.ushr i0 16); obtain ⟨x3, hx3, ex3⟩ := m8 i1; obtain ⟨N, hN, eN⟩ := m31 i2; obtain ⟨u, hu, eu⟩ := m2 (XT.ushr i0 24)
  replace G := G.iloadN 1 at_0 rfl rfl
  replace G := G.sipush 4 (255 : Int32) at_1 (by decide) rfl
  replace G := G.iand 5 at_4 rfl
  replace G := G.top (y := (.int (Int32.ofNat x0))) (congrArg Value.int ex0)
  replace G := G.i2c 6 at_5 rfl
  replace G := G.top (y := (.int (Int32.ofNat x0))) (congrArg Value.int (i2c_n hx0))
  replace G := G.istoreN 7 #[.val (.int i0), .val (.int i1), .val (.int i2), .val (.int (Int32.ofNat x0)), .unset, .unset, .unset, .unset, .unset, .unset, .unset, .unset, .unset, .unset] at_6 rfl rfl
  replace G := G.iloadN 8 at_7 rfl rfl
  replace G := G.bipush 10 (8 : Int32) at_8 (by decide) rfl
  replace G := G.iushr 11 at_10 rfl
  replace G := G.sipush 14 (255 : Int32) at_11 (by decide) rfl
  replace G := G.iand 15 at_14 rfl
  replace G := G.top (y := (.int (Int32.ofNat x1))) (congrArg Value.int ex1)
  replace G := G.i2c 16 at_15 rfl
  replace G := G.top (y := (.int (Int32.ofNat x1))) (congrArg Value.int (i2c_n hx1))
  replace G := G.istore 18 #[.val (.int i0), .val (.int i1), .val (.int i2), .val (.int (Int32.ofNat x0)), .val (.int (Int32.ofNat x1)), .unset, .unset, .unset, .unset, .unset, .unset, .unset, .unset, .unset] at_16 rfl rfl
  replace G := G.iloadN 19 at_18 rfl rfl
  replace G := G.bipush 21 (16 : Int32) at_19 (by decide) rfl
  replace G := G.iushr 22 at_21 rfl
  replace G := G.sipush 25 (255 : Int32) at_22 (by decide) rfl
  replace G := G.iand 26 at_25 rfl
  replace G := G.top (y := (.int (Int32.ofNat x2))) (congrArg Value.int ex2)
  replace G := G.i2c 27 at_26 rfl
  replace G := G.top (y := (.int (Int32.ofNat x2))) (congrArg Value.int (i2c_n hx2))
  replace G := G.istore 29 #[.val (.int i0), .val (.int i1), .val (.int i2), .val (.int (Int32.ofNat x0)), .val (.int (Int32.ofNat x1)), .val (.int (Int32.ofNat x2)), .unset, .unset, .unset, .unset, .unset, .unset, .unset, .unset] at_27 rfl rfl
  replace G := G.iconst 30 (1 : Int32) at_29 rfl rfl
  replace G := G.iloadN 31 at_30 rfl rfl
  replace G := G.bipush 33 (24 : Int32) at_31 (by decide) rfl
  replace G := G.iushr 34 at_33 rfl
  replace G := G.iconst 35 (3 : Int32) at_34 rfl rfl
  replace G := G.iand 36 at_35 rfl
  replace G := G.top (y := (.int (Int32.ofNat u))) (congrArg Value.int eu)
  replace G := G.iconst 37 (3 : Int32) at_36 rfl rfl
  replace G := G.irem 38 at_37 (by decide) rfl
  replace G := G.iadd 39 at_38 rfl
  obtain ⟨nv, env, G'⟩ := G.nameI
  clear G; have G := G'; clear G'
  have hnv : nv = 1 ∨ nv = 2 ∨ nv = 3 := by rw [env]; rcases (show u = 0 ∨ u = 1 ∨ u = 2 ∨ u = 3 by omega) with rfl | rfl | rfl | rfl <;> decide
  clear env
  rcases hnv with rfl | rfl | rfl
  · skip
    replace G := G.istore 41 #[.val (.int i0), .val (.int i1), .val (.int i2), .val (.int (Int32.ofNat x0)), .val (.int (Int32.ofNat x1)), .val (.int (Int32.ofNat x2)), .val (.int (1 : Int32)), .unset, .unset, .unset, .unset, .unset, .unset, .unset] at_39 rfl rfl
    replace G := G.iload 43 at_41 rfl rfl
    replace G := G.iconst 44 (1 : Int32) at_43 rfl rfl
    replace G := G.icmpF 47 at_44 (XT.ii_ne_f rfl) rfl
    obtain ⟨sa, g1, G', gsa, ssa, Esa, Xsa, Dsa, Usa⟩ := G.new 50 (hw _ (List.mem_of_getElem? (i := 0) rfl)) (hw _ (List.mem_of_getElem? (i := 1) rfl)) (hw _ (List.mem_of_getElem? (i := 2) rfl)) at_47 rfl (Nat.le_of_ble_eq_true rfl) (Nat.le_of_ble_eq_true rfl)
    clear G; have G := G'; clear G'
    have Fvs := Dsa (Or.inr (hw _ (List.mem_of_getElem? (i := 29) rfl))) (ty := .array .byte) (by decide); have Fcs := Dsa (Or.inr (hw _ (List.mem_of_getElem? (i := 27) rfl))) (ty := .byte) (by decide)
    replace G := G.dup 51 at_50 rfl rfl
    replace G := G.iconst 52 (1 : Int32) at_51 rfl rfl
    obtain ⟨ca, g2, kca, G', gca, sca, Eca, Aca⟩ := G.newarray 54 (hw _ (List.mem_of_getElem? (i := 3) rfl)) at_52 (by decide) 1 (Nat.le_of_ble_eq_true rfl) (by decide) rfl (Nat.le_of_ble_eq_true rfl) (Nat.le_of_ble_eq_true rfl)
    clear G; have G := G'; clear G'
    have hAc := Aca.pad (vs' := [(.int 0)]) (pad_rep [] (.int 0) 1)
    have nsc : sa ≠ ca := ne_new gca Xsa.lt
    replace Xsa := Xsa.ext Eca; replace Fvs := Fvs.ext Eca; replace Fcs := Fcs.ext Eca
    replace G := G.dup 55 at_54 rfl rfl
    replace G := G.iconst 56 (0 : Int32) at_55 rfl rfl
    replace G := G.iloadN 57 at_56 rfl rfl
    obtain ⟨g3, G', As, Ks⟩ := G.castore 58 0 hAc (by decide) rfl (Nat.le_of_ble_eq_true rfl) (Or.inr sca) (List.mem_of_getElem? (i := 0) rfl) at_57 rfl
    clear G; have G := G'; clear G'
    replace hAc : Arv Z g3 ca kca .char 1 [(.int (Int32.ofNat x0))] (.int 0) := by have h := As; rw [show nar FieldType.char (Int32.ofNat x0) = Int32.ofNat x0 from i2c_n hx0] at h; exact h
    replace Xsa := Xsa.keep Ks; replace Fvs := Fvs.keep Ks (ninS nsc nin0); replace Fcs := Fcs.keep Ks (ninS nsc nin0)
    obtain ⟨vcb, g4, socb, G', Kcb, Qcb⟩ := G.callI 61 rfl rfl (hw _ (List.mem_of_getElem? (i := 4) rfl)) (hw _ (List.mem_of_getElem? (i := 5) rfl)) (hw _ (List.mem_of_getElem? (i := 2) rfl)) (hw _ (List.mem_of_getElem? (i := 6) rfl)) (by decide) [(.ref ca)] [(.ref sa)] rfl (c_strC l Z a0 hw hEW n0 c1 hc1 S1 v2 hv2 S2 sa ca kca [Int32.ofNat x0] G.old (G.nw (Or.inr ssa)) Xsa Fvs Fcs (Nat.le_of_ble_eq_true rfl) (Nat.le_of_ble_eq_true rfl) (by intro x hx; simp only [List.mem_cons, List.not_mem_nil, or_false] at hx; rcases hx with rfl <;> first | exact c255 hx0 | exact c255 hx1 | exact c255 hx2) hAc) (lenOf pd___C_V rfl) at_58 rfl (Nat.le_of_ble_eq_true rfl) (Nat.le_of_ble_eq_true rfl) (Nat.le_of_ble_eq_true rfl) (Nat.le_of_ble_eq_true rfl) (allS (Or.inr ssa) all0) (allS (List.mem_of_getElem? (i := 1) rfl) all0) (allS (List.mem_of_getElem? (i := 1) rfl) all0) rfl
    clear G; have G := G'; clear G'
    obtain ⟨qcb, sb, hB, ssb, rfl⟩ := Qcb
    replace G := G.nov qcb
    replace hB : Str Z g4 sa sb [bytV (Int32.ofNat x0)] := hB
    replace G := G.astore 63 #[.val (.int i0), .val (.int i1), .val (.int i2), .val (.int (Int32.ofNat x0)), .val (.int (Int32.ofNat x1)), .val (.int (Int32.ofNat x2)), .val (.int (1 : Int32)), .val (.ref sa), .unset, .unset, .unset, .unset, .unset, .unset] at_61 rfl rfl rfl
    replace G := G.goto 122 at_63 (by decide) (by decide)
    replace G := G.iloadN 123 at_122 rfl rfl
    replace G := G.sipush 126 (255 : Int32) at_123 (by decide) rfl
    replace G := G.iand 127 at_126 rfl
    replace G := G.top (y := (.int (Int32.ofNat x3))) (congrArg Value.int ex3)
    replace G := G.i2c 128 at_127 rfl
    replace G := G.top (y := (.int (Int32.ofNat x3))) (congrArg Value.int (i2c_n hx3))
    obtain ⟨vv, k1, sov, G', Kv, Qv⟩ := G.callS 131 (hw _ (List.mem_of_getElem? (i := 30) rfl)) (hw _ (List.mem_of_getElem? (i := 31) rfl)) (hw _ (List.mem_of_getElem? (i := 2) rfl)) (hw _ (List.mem_of_getElem? (i := 32) rfl)) (by decide) [(.int (Int32.ofNat x3))] [] rfl (c_valC l Z a0 hw hEW n0 c1 hc1 S1 v2 hv2 S2 (Int32.ofNat x3) G.old (c255 hx3)) (lenOf pd__C_Ljava_lang_String_ rfl) at_128 rfl (Nat.le_of_ble_eq_true rfl) (Nat.le_of_ble_eq_true rfl) (Nat.le_of_ble_eq_true rfl) (Nat.le_of_ble_eq_true rfl) all0 all0 all0 rfl
    clear G; have G := G'; clear G'
    obtain ⟨wv, qv, ta, tb, rfl, hT, -, -, rfl⟩ := Qv
    replace G := G.val qv
    replace hB := hB.keep Kv nin0 nin0
    replace G := G.astore 133 #[.val (.int i0), .val (.int i1), .val (.int i2), .val (.int (Int32.ofNat x0)), .val (.int (Int32.ofNat x1)), .val (.int (Int32.ofNat x2)), .val (.int (1 : Int32)), .val (.ref sa), .val (.ref ta), .unset, .unset, .unset, .unset, .unset] at_131 rfl rfl rfl
    replace G := G.iloadN 134 at_133 rfl rfl
    replace G := G.ldcI 136 (hw _ (List.mem_of_getElem? (i := 44) rfl)) at_134 rfl
    replace G := G.iand 137 at_136 rfl
    replace G := G.top (y := (.int (Int32.ofNat N))) (congrArg Value.int eN)
    replace G := G.istore 139 #[.val (.int i0), .val (.int i1), .val (.int i2), .val (.int (Int32.ofNat x0)), .val (.int (Int32.ofNat x1)), .val (.int (Int32.ofNat x2)), .val (.int (1 : Int32)), .val (.ref sa), .val (.ref ta), .val (.int (Int32.ofNat N)), .unset, .unset, .unset, .unset] at_137 rfl rfl
    obtain ⟨q, k2, G', gq, sq, Eq, Xq, Dq, Uq⟩ := G.new 142 (hw _ (List.mem_of_getElem? (i := 45) rfl)) (hw _ (List.mem_of_getElem? (i := 46) rfl)) (hw _ (List.mem_of_getElem? (i := 47) rfl)) at_139 rfl (Nat.le_of_ble_eq_true rfl) (Nat.le_of_ble_eq_true rfl)
    clear G; have G := G'; clear G'
    have Ft := Dq (Or.inr (hw _ (List.mem_of_getElem? (i := 71) rfl))) (ty := .object "java/lang/String") (by decide); have Fb := Dq (Or.inr (hw _ (List.mem_of_getElem? (i := 73) rfl))) (ty := .object "java/lang/String") (by decide); have Fq := Dq (Or.inr (hw _ (List.mem_of_getElem? (i := 75) rfl))) (ty := .int) (by decide)
    have nsq : sa ≠ q := ne_new gq hB.lt; have nbq : sb ≠ q := ne_new gq hB.ltb; replace hB := hB.ext Eq; replace hT := hT.ext Eq
    replace G := G.dup 143 at_142 rfl rfl
    replace G := G.aload 145 at_143 rfl rfl rfl
    replace G := G.aload 147 at_145 rfl rfl rfl
    replace G := G.iload 149 at_147 rfl rfl
    obtain ⟨vm1, k3, som1, G', Km1, Qm1⟩ := G.callI 152 rfl rfl (hw _ (List.mem_of_getElem? (i := 48) rfl)) (hw _ (List.mem_of_getElem? (i := 49) rfl)) (hw _ (List.mem_of_getElem? (i := 47) rfl)) (hw _ (List.mem_of_getElem? (i := 50) rfl)) (by decide) [(.ref ta), (.ref sa), (.int (Int32.ofNat N))] [(.ref q)] rfl (c_mqI l Z a0 hw hEW n0 c1 hc1 S1 v2 hv2 S2 t1 t2 kt1 kt2 SD1 SD2 AD1 AD2 q ta tb sa sb [.int (Int32.ofNat x3).toInt8.toInt32] [bytV (Int32.ofNat x0)] N G.old (G.nw (Or.inr sq)) (Nat.le_of_ble_eq_true rfl) (Nat.le_of_ble_eq_true rfl) (Nat.le_of_ble_eq_true rfl) (Nat.le_of_ble_eq_true rfl) hN Xq Ft Fb Fq hT hB) (lenOf pd__Ljava_lang_String_Ljava_lang_String_I_V rfl) at_149 rfl (Nat.le_of_ble_eq_true rfl) (Nat.le_of_ble_eq_true rfl) (Nat.le_of_ble_eq_true rfl) (Nat.le_of_ble_eq_true rfl) (allS (Or.inr sq) all0) (allS (List.mem_of_getElem? (i := 0) rfl) all0) (allS (List.mem_of_getElem? (i := 0) rfl) all0) rfl
    clear G; have G := G'; clear G'
    obtain ⟨qm1, Xq1, Ft1, Fb1, Fq1, rfl⟩ := Qm1
    replace G := G.nov qm1
    replace hB := hB.keep Km1 (ninS nsq nin0) (ninS nbq nin0)
    replace G := G.astore 154 #[.val (.int i0), .val (.int i1), .val (.int i2), .val (.int (Int32.ofNat x0)), .val (.int (Int32.ofNat x1)), .val (.int (Int32.ofNat x2)), .val (.int (1 : Int32)), .val (.ref sa), .val (.ref ta), .val (.int (Int32.ofNat N)), .val (.ref q), .unset, .unset, .unset] at_152 rfl rfl rfl
    replace G := G.aload 156 at_154 rfl rfl rfl
    obtain ⟨vr, k4, sor, G', Kr, Qr⟩ := G.callV 159 (hw _ (List.mem_of_getElem? (i := 76) rfl)) (hw _ (List.mem_of_getElem? (i := 77) rfl)) (nfSel (hw _ (List.mem_of_getElem? (i := 79) rfl))) (hw _ (List.mem_of_getElem? (i := 79) rfl)) (hw _ (List.mem_of_getElem? (i := 78) rfl)) (hw _ (List.mem_of_getElem? (i := 47) rfl)) (hw _ (List.mem_of_getElem? (i := 80) rfl)) Xq1 (by decide) [] [] rfl (c_mqS l Z a0 hw hEW n0 c1 hc1 S1 v2 hv2 S2 t1 t2 kt1 kt2 SD1 SD2 AD1 AD2 q sa sb [bytV (Int32.ofNat x0)] N G.old (Nat.le_of_ble_eq_true rfl) hN Fb1 Fq1 hB) (lenOf pd___Ljava_lang_String_ rfl) at_156 rfl (Nat.le_of_ble_eq_true rfl) (Nat.le_of_ble_eq_true rfl) (Nat.le_of_ble_eq_true rfl) (Nat.le_of_ble_eq_true rfl) all0 all0 all0 rfl
    clear G; have G := G'; clear G'
    obtain ⟨wr, qr, ra, rb, rfl, hR, -, -, rfl⟩ := Qr
    replace G := G.val qr
    replace G := G.astore 161 #[.val (.int i0), .val (.int i1), .val (.int i2), .val (.int (Int32.ofNat x0)), .val (.int (Int32.ofNat x1)), .val (.int (Int32.ofNat x2)), .val (.int (1 : Int32)), .val (.ref sa), .val (.ref ta), .val (.int (Int32.ofNat N)), .val (.ref q), .val (.ref ra), .unset, .unset] at_159 rfl rfl rfl
    replace G := G.iload 163 at_161 rfl rfl
    obtain ⟨vd, k_5, sod, G', Kd, Qd⟩ := G.callS 166 (hw _ (List.mem_of_getElem? (i := 210) rfl)) (hw _ (List.mem_of_getElem? (i := 211) rfl)) (hw _ (List.mem_of_getElem? (i := 212) rfl)) (hw _ (List.mem_of_getElem? (i := 213) rfl)) (by decide) [(.int (Int32.ofNat N))] [] rfl (c_dig l Z a0 hw hEW n0 c1 hc1 S1 v2 hv2 S2 t1 t2 kt1 kt2 SD1 SD2 AD1 AD2 N G.old hN) (lenOf pd__I_I rfl) at_163 rfl (Nat.le_of_ble_eq_true rfl) (Nat.le_of_ble_eq_true rfl) (Nat.le_of_ble_eq_true rfl) (Nat.le_of_ble_eq_true rfl) all0 all0 all0 rfl
    clear G; have G := G'; clear G'
    obtain ⟨wd, qd, rfl, ed, rfl⟩ := Qd
    replace G := G.val qd
    subst ed
    replace G := G.istore 168 #[.val (.int i0), .val (.int i1), .val (.int i2), .val (.int (Int32.ofNat x0)), .val (.int (Int32.ofNat x1)), .val (.int (Int32.ofNat x2)), .val (.int (1 : Int32)), .val (.ref sa), .val (.ref ta), .val (.int (Int32.ofNat N)), .val (.ref q), .val (.ref ra), .val (.int (Int32.ofNat (nd N))), .unset] at_166 rfl rfl
    replace G := G.aload 170 at_168 rfl rfl rfl
    replace G := G.ifnullF 173 at_170 rfl
    replace G := G.aload 175 at_173 rfl rfl rfl
    have hdl := nd_le hN; have hlen : ([bytV (Int32.ofNat x0)] ++ [Value.int 58] ++ digs N).length = 2 + nd N := by simp only [List.length_append, List.length_singleton, digs_len, List.length_cons, List.length_nil]
    obtain ⟨vl, k_6, sol, G', Kl, Ql⟩ := G.callV 178 (hw _ (List.mem_of_getElem? (i := 214) rfl)) (hw _ (List.mem_of_getElem? (i := 110) rfl)) (nfSel (hw _ (List.mem_of_getElem? (i := 112) rfl))) (hw _ (List.mem_of_getElem? (i := 112) rfl)) (hw _ (List.mem_of_getElem? (i := 111) rfl)) (hw _ (List.mem_of_getElem? (i := 2) rfl)) (hw _ (List.mem_of_getElem? (i := 113) rfl)) hR.1 (by decide) [] [] rfl (c_length l Z a0 hw hEW n0 c1 hc1 S1 v2 hv2 S2 ra rb ([bytV (Int32.ofNat x0)] ++ [Value.int 58] ++ digs N) G.old hR) (lenOf pd___I rfl) at_175 rfl (Nat.le_of_ble_eq_true rfl) (Nat.le_of_ble_eq_true rfl) (Nat.le_of_ble_eq_true rfl) (Nat.le_of_ble_eq_true rfl) all0 all0 all0 rfl
    clear G; have G := G'; clear G'
    obtain ⟨wl, ql, rfl, el, rfl⟩ := Ql
    replace G := G.val ql
    subst el
    replace G := G.top (y := (.int (Int32.ofNat (2 + nd N)))) (by rw [hlen])
    replace G := G.iload 180 at_178 rfl rfl
    replace G := G.iconst 181 (1 : Int32) at_180 rfl rfl
    replace G := G.iadd 182 at_181 rfl
    replace G := G.top (y := (.int (2 : Int32))) (by decide)
    replace G := G.iload 184 at_182 rfl rfl
    replace G := G.iadd 185 at_184 rfl
    replace G := G.top (y := (.int (Int32.ofNat (2 + nd N)))) (congrArg Value.int (ofn_add 2 _))
    replace G := G.icmpT 190 at_185 (XT.ii_eq_t rfl) (by decide) (by decide)
    replace G := G.aload 192 at_190 rfl rfl rfl
    replace G := G.iconst 193 (0 : Int32) at_192 rfl rfl
    obtain ⟨vc0, k_c, soc0, G', Kc0, Qc0⟩ := G.callV 196 (hw _ (List.mem_of_getElem? (i := 215) rfl)) (hw _ (List.mem_of_getElem? (i := 216) rfl)) (nfSel (hw _ (List.mem_of_getElem? (i := 218) rfl))) (hw _ (List.mem_of_getElem? (i := 218) rfl)) (hw _ (List.mem_of_getElem? (i := 217) rfl)) (hw _ (List.mem_of_getElem? (i := 2) rfl)) (hw _ (List.mem_of_getElem? (i := 219) rfl)) hR.1 (by decide) [(.int (0 : Int32))] [] rfl (c_charAt l Z a0 hw hEW n0 c1 hc1 S1 v2 hv2 S2 ra rb ([bytV (Int32.ofNat x0)] ++ [Value.int 58] ++ digs N) 0 ((Int32.ofNat x0).toInt8.toInt32) G.old (by rw [hlen]; omega) (by rw [hlen]; omega) rfl hR) (lenOf pd__I_C rfl) at_193 rfl (Nat.le_of_ble_eq_true rfl) (Nat.le_of_ble_eq_true rfl) (Nat.le_of_ble_eq_true rfl) (Nat.le_of_ble_eq_true rfl) all0 all0 all0 rfl
    clear G; have G := G'; clear G'
    obtain ⟨wc0, qc0, rfl, ec0, rfl⟩ := Qc0
    replace G := G.val qc0
    subst ec0
    replace G := G.iloadN 197 at_196 rfl rfl
    replace G := G.icmpT 202 at_197 (XT.ii_eq_t (bm hx0)) (by decide) (by decide)
    replace G := G.iload 204 at_202 rfl rfl
    replace G := G.iconst 205 (2 : Int32) at_204 rfl rfl
    replace G := G.icmpT 221 at_205 (XT.ii_lt_t (by decide)) (by decide) (by decide)
    replace G := G.iload 223 at_221 rfl rfl
    replace G := G.iconst 224 (3 : Int32) at_223 rfl rfl
    replace G := G.icmpT 240 at_224 (XT.ii_lt_t (by decide)) (by decide) (by decide)
    replace G := G.aload 242 at_240 rfl rfl rfl
    replace G := G.iload 244 at_242 rfl rfl
    obtain ⟨vc3, k_c, soc3, G', Kc3, Qc3⟩ := G.callV 247 (hw _ (List.mem_of_getElem? (i := 215) rfl)) (hw _ (List.mem_of_getElem? (i := 216) rfl)) (nfSel (hw _ (List.mem_of_getElem? (i := 218) rfl))) (hw _ (List.mem_of_getElem? (i := 218) rfl)) (hw _ (List.mem_of_getElem? (i := 217) rfl)) (hw _ (List.mem_of_getElem? (i := 2) rfl)) (hw _ (List.mem_of_getElem? (i := 219) rfl)) hR.1 (by decide) [(.int (1 : Int32))] [] rfl (c_charAt l Z a0 hw hEW n0 c1 hc1 S1 v2 hv2 S2 ra rb ([bytV (Int32.ofNat x0)] ++ [Value.int 58] ++ digs N) 1 (58) G.old (by rw [hlen]; omega) (by rw [hlen]; omega) rfl hR) (lenOf pd__I_C rfl) at_244 rfl (Nat.le_of_ble_eq_true rfl) (Nat.le_of_ble_eq_true rfl) (Nat.le_of_ble_eq_true rfl) (Nat.le_of_ble_eq_true rfl) all0 all0 all0 rfl
    clear G; have G := G'; clear G'
    obtain ⟨wc3, qc3, rfl, ec3, rfl⟩ := Qc3
    replace G := G.val qc3
    subst ec3
    replace G := G.bipush 249 (58 : Int32) at_247 (by decide) rfl
    replace G := G.icmpT 254 at_249 (XT.ii_eq_t (by decide)) (by decide) (by decide)
    replace G := G.iload 256 at_254 rfl rfl
    replace G := G.iconst 257 (1 : Int32) at_256 rfl rfl
    replace G := G.iadd 258 at_257 rfl
    replace G := G.top (y := (.int (2 : Int32))) (by decide)
    have hv : ∀ k, k < nd N → ([bytV (Int32.ofNat x0)] ++ [Value.int 58] ++ digs N).getD (2 + k) (.int 0) = .int (Int32.ofNat (48 + N / 10 ^ (nd N - 1 - k) % 10)) := fun k hk => (getD_off (pre := [bytV (Int32.ofNat x0)] ++ [Value.int 58]) (n := 2) rfl k).trans (digs_at hk)
    replace G := G.istore 260 #[.val (.int i0), .val (.int i1), .val (.int i2), .val (.int (Int32.ofNat x0)), .val (.int (Int32.ofNat x1)), .val (.int (Int32.ofNat x2)), .val (.int (1 : Int32)), .val (.ref sa), .val (.ref ta), .val (.int (Int32.ofNat N)), .val (.ref q), .val (.ref ra), .val (.int (Int32.ofNat (nd N))), .val (.int (2 : Int32))] at_258 rfl rfl
    replace G := G.aload 262 at_260 rfl rfl rfl
    replace G := G.iload 264 at_262 rfl rfl
    replace G := G.iload 266 at_264 rfl rfl
    replace G := G.iload 268 at_266 rfl rfl
    replace G := G.iconst 269 (0 : Int32) at_268 rfl rfl
    obtain ⟨vo0, k_d, soo0, G', Ko0, Qo0⟩ := G.callS 272 (hw _ (List.mem_of_getElem? (i := 236) rfl)) (hw _ (List.mem_of_getElem? (i := 237) rfl)) (hw _ (List.mem_of_getElem? (i := 212) rfl)) (hw _ (List.mem_of_getElem? (i := 238) rfl)) (by decide) [(.ref ra), (.int (2 : Int32)), (.int (Int32.ofNat N)), (.int (Int32.ofNat (nd N))), (.int (0 : Int32))] [] rfl (c_digOk l Z a0 hw hEW n0 c1 hc1 S1 v2 hv2 S2 t1 t2 kt1 kt2 SD1 SD2 AD1 AD2 ra rb ([bytV (Int32.ofNat x0)] ++ [Value.int 58] ++ digs N) 2 N 0 G.old hN (by decide) hlen.symm (by rw [hlen]; omega) hv hR) (lenOf pd__Ljava_lang_String_IIII_Z rfl) at_269 rfl (Nat.le_of_ble_eq_true rfl) (Nat.le_of_ble_eq_true rfl) (Nat.le_of_ble_eq_true rfl) (Nat.le_of_ble_eq_true rfl) all0 all0 all0 rfl
    clear G; have G := G'; clear G'
    obtain ⟨wo0, qo0, rfl, eo0, rfl⟩ := Qo0
    replace G := G.val qo0
    subst eo0
    replace G := G.ifF 275 at_272 (XT.i0_eq_f (by decide)) rfl
    replace G := G.aload 277 at_275 rfl rfl rfl
    replace G := G.iload 279 at_277 rfl rfl
    replace G := G.iload 281 at_279 rfl rfl
    replace G := G.iload 283 at_281 rfl rfl
    replace G := G.iconst 284 (1 : Int32) at_283 rfl rfl
    obtain ⟨vo1, k_d, soo1, G', Ko1, Qo1⟩ := G.callS 287 (hw _ (List.mem_of_getElem? (i := 236) rfl)) (hw _ (List.mem_of_getElem? (i := 237) rfl)) (hw _ (List.mem_of_getElem? (i := 212) rfl)) (hw _ (List.mem_of_getElem? (i := 238) rfl)) (by decide) [(.ref ra), (.int (2 : Int32)), (.int (Int32.ofNat N)), (.int (Int32.ofNat (nd N))), (.int (1 : Int32))] [] rfl (c_digOk l Z a0 hw hEW n0 c1 hc1 S1 v2 hv2 S2 t1 t2 kt1 kt2 SD1 SD2 AD1 AD2 ra rb ([bytV (Int32.ofNat x0)] ++ [Value.int 58] ++ digs N) 2 N 1 G.old hN (by decide) hlen.symm (by rw [hlen]; omega) hv hR) (lenOf pd__Ljava_lang_String_IIII_Z rfl) at_284 rfl (Nat.le_of_ble_eq_true rfl) (Nat.le_of_ble_eq_true rfl) (Nat.le_of_ble_eq_true rfl) (Nat.le_of_ble_eq_true rfl) all0 all0 all0 rfl
    clear G; have G := G'; clear G'
    obtain ⟨wo1, qo1, rfl, eo1, rfl⟩ := Qo1
    replace G := G.val qo1
    subst eo1
    replace G := G.ifF 290 at_287 (XT.i0_eq_f (by decide)) rfl
    replace G := G.aload 292 at_290 rfl rfl rfl
    replace G := G.iload 294 at_292 rfl rfl
    replace G := G.iload 296 at_294 rfl rfl
    replace G := G.iload 298 at_296 rfl rfl
    replace G := G.iconst 299 (2 : Int32) at_298 rfl rfl
    obtain ⟨vo2, k_d, soo2, G', Ko2, Qo2⟩ := G.callS 302 (hw _ (List.mem_of_getElem? (i := 236) rfl)) (hw _ (List.mem_of_getElem? (i := 237) rfl)) (hw _ (List.mem_of_getElem? (i := 212) rfl)) (hw _ (List.mem_of_getElem? (i := 238) rfl)) (by decide) [(.ref ra), (.int (2 : Int32)), (.int (Int32.ofNat N)), (.int (Int32.ofNat (nd N))), (.int (2 : Int32))] [] rfl (c_digOk l Z a0 hw hEW n0 c1 hc1 S1 v2 hv2 S2 t1 t2 kt1 kt2 SD1 SD2 AD1 AD2 ra rb ([bytV (Int32.ofNat x0)] ++ [Value.int 58] ++ digs N) 2 N 2 G.old hN (by decide) hlen.symm (by rw [hlen]; omega) hv hR) (lenOf pd__Ljava_lang_String_IIII_Z rfl) at_299 rfl (Nat.le_of_ble_eq_true rfl) (Nat.le_of_ble_eq_true rfl) (Nat.le_of_ble_eq_true rfl) (Nat.le_of_ble_eq_true rfl) all0 all0 all0 rfl
    clear G; have G := G'; clear G'
    obtain ⟨wo2, qo2, rfl, eo2, rfl⟩ := Qo2
    replace G := G.val qo2
    subst eo2
    replace G := G.ifF 305 at_302 (XT.i0_eq_f (by decide)) rfl
    replace G := G.aload 307 at_305 rfl rfl rfl
    replace G := G.iload 309 at_307 rfl rfl
    replace G := G.iload 311 at_309 rfl rfl
    replace G := G.iload 313 at_311 rfl rfl
    replace G := G.iconst 314 (3 : Int32) at_313 rfl rfl
    obtain ⟨vo3, k_d, soo3, G', Ko3, Qo3⟩ := G.callS 317 (hw _ (List.mem_of_getElem? (i := 236) rfl)) (hw _ (List.mem_of_getElem? (i := 237) rfl)) (hw _ (List.mem_of_getElem? (i := 212) rfl)) (hw _ (List.mem_of_getElem? (i := 238) rfl)) (by decide) [(.ref ra), (.int (2 : Int32)), (.int (Int32.ofNat N)), (.int (Int32.ofNat (nd N))), (.int (3 : Int32))] [] rfl (c_digOk l Z a0 hw hEW n0 c1 hc1 S1 v2 hv2 S2 t1 t2 kt1 kt2 SD1 SD2 AD1 AD2 ra rb ([bytV (Int32.ofNat x0)] ++ [Value.int 58] ++ digs N) 2 N 3 G.old hN (by decide) hlen.symm (by rw [hlen]; omega) hv hR) (lenOf pd__Ljava_lang_String_IIII_Z rfl) at_314 rfl (Nat.le_of_ble_eq_true rfl) (Nat.le_of_ble_eq_true rfl) (Nat.le_of_ble_eq_true rfl) (Nat.le_of_ble_eq_true rfl) all0 all0 all0 rfl
    clear G; have G := G'; clear G'
    obtain ⟨wo3, qo3, rfl, eo3, rfl⟩ := Qo3
    replace G := G.val qo3
    subst eo3
    replace G := G.ifF 320 at_317 (XT.i0_eq_f (by decide)) rfl
    replace G := G.aload 322 at_320 rfl rfl rfl
    replace G := G.iload 324 at_322 rfl rfl
    replace G := G.iload 326 at_324 rfl rfl
    replace G := G.iload 328 at_326 rfl rfl
    replace G := G.iconst 329 (4 : Int32) at_328 rfl rfl
    obtain ⟨vo4, k_d, soo4, G', Ko4, Qo4⟩ := G.callS 332 (hw _ (List.mem_of_getElem? (i := 236) rfl)) (hw _ (List.mem_of_getElem? (i := 237) rfl)) (hw _ (List.mem_of_getElem? (i := 212) rfl)) (hw _ (List.mem_of_getElem? (i := 238) rfl)) (by decide) [(.ref ra), (.int (2 : Int32)), (.int (Int32.ofNat N)), (.int (Int32.ofNat (nd N))), (.int (4 : Int32))] [] rfl (c_digOk l Z a0 hw hEW n0 c1 hc1 S1 v2 hv2 S2 t1 t2 kt1 kt2 SD1 SD2 AD1 AD2 ra rb ([bytV (Int32.ofNat x0)] ++ [Value.int 58] ++ digs N) 2 N 4 G.old hN (by decide) hlen.symm (by rw [hlen]; omega) hv hR) (lenOf pd__Ljava_lang_String_IIII_Z rfl) at_329 rfl (Nat.le_of_ble_eq_true rfl) (Nat.le_of_ble_eq_true rfl) (Nat.le_of_ble_eq_true rfl) (Nat.le_of_ble_eq_true rfl) all0 all0 all0 rfl
    clear G; have G := G'; clear G'
    obtain ⟨wo4, qo4, rfl, eo4, rfl⟩ := Qo4
    replace G := G.val qo4
    subst eo4
    replace G := G.ifF 335 at_332 (XT.i0_eq_f (by decide)) rfl
    replace G := G.aload 337 at_335 rfl rfl rfl
    replace G := G.iload 339 at_337 rfl rfl
    replace G := G.iload 341 at_339 rfl rfl
    replace G := G.iload 343 at_341 rfl rfl
    replace G := G.iconst 344 (5 : Int32) at_343 rfl rfl
    obtain ⟨vo5, k_d, soo5, G', Ko5, Qo5⟩ := G.callS 347 (hw _ (List.mem_of_getElem? (i := 236) rfl)) (hw _ (List.mem_of_getElem? (i := 237) rfl)) (hw _ (List.mem_of_getElem? (i := 212) rfl)) (hw _ (List.mem_of_getElem? (i := 238) rfl)) (by decide) [(.ref ra), (.int (2 : Int32)), (.int (Int32.ofNat N)), (.int (Int32.ofNat (nd N))), (.int (5 : Int32))] [] rfl (c_digOk l Z a0 hw hEW n0 c1 hc1 S1 v2 hv2 S2 t1 t2 kt1 kt2 SD1 SD2 AD1 AD2 ra rb ([bytV (Int32.ofNat x0)] ++ [Value.int 58] ++ digs N) 2 N 5 G.old hN (by decide) hlen.symm (by rw [hlen]; omega) hv hR) (lenOf pd__Ljava_lang_String_IIII_Z rfl) at_344 rfl (Nat.le_of_ble_eq_true rfl) (Nat.le_of_ble_eq_true rfl) (Nat.le_of_ble_eq_true rfl) (Nat.le_of_ble_eq_true rfl) all0 all0 all0 rfl
    clear G; have G := G'; clear G'
    obtain ⟨wo5, qo5, rfl, eo5, rfl⟩ := Qo5
    replace G := G.val qo5
    subst eo5
    replace G := G.ifF 350 at_347 (XT.i0_eq_f (by decide)) rfl
    replace G := G.aload 352 at_350 rfl rfl rfl
    replace G := G.iload 354 at_352 rfl rfl
    replace G := G.iload 356 at_354 rfl rfl
    replace G := G.iload 358 at_356 rfl rfl
    replace G := G.bipush 360 (6 : Int32) at_358 (by decide) rfl
    obtain ⟨vo6, k_d, soo6, G', Ko6, Qo6⟩ := G.callS 363 (hw _ (List.mem_of_getElem? (i := 236) rfl)) (hw _ (List.mem_of_getElem? (i := 237) rfl)) (hw _ (List.mem_of_getElem? (i := 212) rfl)) (hw _ (List.mem_of_getElem? (i := 238) rfl)) (by decide) [(.ref ra), (.int (2 : Int32)), (.int (Int32.ofNat N)), (.int (Int32.ofNat (nd N))), (.int (6 : Int32))] [] rfl (c_digOk l Z a0 hw hEW n0 c1 hc1 S1 v2 hv2 S2 t1 t2 kt1 kt2 SD1 SD2 AD1 AD2 ra rb ([bytV (Int32.ofNat x0)] ++ [Value.int 58] ++ digs N) 2 N 6 G.old hN (by decide) hlen.symm (by rw [hlen]; omega) hv hR) (lenOf pd__Ljava_lang_String_IIII_Z rfl) at_360 rfl (Nat.le_of_ble_eq_true rfl) (Nat.le_of_ble_eq_true rfl) (Nat.le_of_ble_eq_true rfl) (Nat.le_of_ble_eq_true rfl) all0 all0 all0 rfl
    clear G; have G := G'; clear G'
    obtain ⟨wo6, qo6, rfl, eo6, rfl⟩ := Qo6
    replace G := G.val qo6
    subst eo6
    replace G := G.ifF 366 at_363 (XT.i0_eq_f (by decide)) rfl
    replace G := G.aload 368 at_366 rfl rfl rfl
    replace G := G.iload 370 at_368 rfl rfl
    replace G := G.iload 372 at_370 rfl rfl
    replace G := G.iload 374 at_372 rfl rfl
    replace G := G.bipush 376 (7 : Int32) at_374 (by decide) rfl
    obtain ⟨vo7, k_d, soo7, G', Ko7, Qo7⟩ := G.callS 379 (hw _ (List.mem_of_getElem? (i := 236) rfl)) (hw _ (List.mem_of_getElem? (i := 237) rfl)) (hw _ (List.mem_of_getElem? (i := 212) rfl)) (hw _ (List.mem_of_getElem? (i := 238) rfl)) (by decide) [(.ref ra), (.int (2 : Int32)), (.int (Int32.ofNat N)), (.int (Int32.ofNat (nd N))), (.int (7 : Int32))] [] rfl (c_digOk l Z a0 hw hEW n0 c1 hc1 S1 v2 hv2 S2 t1 t2 kt1 kt2 SD1 SD2 AD1 AD2 ra rb ([bytV (Int32.ofNat x0)] ++ [Value.int 58] ++ digs N) 2 N 7 G.old hN (by decide) hlen.symm (by rw [hlen]; omega) hv hR) (lenOf pd__Ljava_lang_String_IIII_Z rfl) at_376 rfl (Nat.le_of_ble_eq_true rfl) (Nat.le_of_ble_eq_true rfl) (Nat.le_of_ble_eq_true rfl) (Nat.le_of_ble_eq_true rfl) all0 all0 all0 rfl
    clear G; have G := G'; clear G'
    obtain ⟨wo7, qo7, rfl, eo7, rfl⟩ := Qo7
    replace G := G.val qo7
    subst eo7
    replace G := G.ifF 382 at_379 (XT.i0_eq_f (by decide)) rfl
    replace G := G.aload 384 at_382 rfl rfl rfl
    replace G := G.iload 386 at_384 rfl rfl
    replace G := G.iload 388 at_386 rfl rfl
    replace G := G.iload 390 at_388 rfl rfl
    replace G := G.bipush 392 (8 : Int32) at_390 (by decide) rfl
    obtain ⟨vo8, k_d, soo8, G', Ko8, Qo8⟩ := G.callS 395 (hw _ (List.mem_of_getElem? (i := 236) rfl)) (hw _ (List.mem_of_getElem? (i := 237) rfl)) (hw _ (List.mem_of_getElem? (i := 212) rfl)) (hw _ (List.mem_of_getElem? (i := 238) rfl)) (by decide) [(.ref ra), (.int (2 : Int32)), (.int (Int32.ofNat N)), (.int (Int32.ofNat (nd N))), (.int (8 : Int32))] [] rfl (c_digOk l Z a0 hw hEW n0 c1 hc1 S1 v2 hv2 S2 t1 t2 kt1 kt2 SD1 SD2 AD1 AD2 ra rb ([bytV (Int32.ofNat x0)] ++ [Value.int 58] ++ digs N) 2 N 8 G.old hN (by decide) hlen.symm (by rw [hlen]; omega) hv hR) (lenOf pd__Ljava_lang_String_IIII_Z rfl) at_392 rfl (Nat.le_of_ble_eq_true rfl) (Nat.le_of_ble_eq_true rfl) (Nat.le_of_ble_eq_true rfl) (Nat.le_of_ble_eq_true rfl) all0 all0 all0 rfl
    clear G; have G := G'; clear G'
    obtain ⟨wo8, qo8, rfl, eo8, rfl⟩ := Qo8
    replace G := G.val qo8
    subst eo8
    replace G := G.ifF 398 at_395 (XT.i0_eq_f (by decide)) rfl
    replace G := G.aload 400 at_398 rfl rfl rfl
    replace G := G.iload 402 at_400 rfl rfl
    replace G := G.iload 404 at_402 rfl rfl
    replace G := G.iload 406 at_404 rfl rfl
    replace G := G.bipush 408 (9 : Int32) at_406 (by decide) rfl
    obtain ⟨vo9, k_d, soo9, G', Ko9, Qo9⟩ := G.callS 411 (hw _ (List.mem_of_getElem? (i := 236) rfl)) (hw _ (List.mem_of_getElem? (i := 237) rfl)) (hw _ (List.mem_of_getElem? (i := 212) rfl)) (hw _ (List.mem_of_getElem? (i := 238) rfl)) (by decide) [(.ref ra), (.int (2 : Int32)), (.int (Int32.ofNat N)), (.int (Int32.ofNat (nd N))), (.int (9 : Int32))] [] rfl (c_digOk l Z a0 hw hEW n0 c1 hc1 S1 v2 hv2 S2 t1 t2 kt1 kt2 SD1 SD2 AD1 AD2 ra rb ([bytV (Int32.ofNat x0)] ++ [Value.int 58] ++ digs N) 2 N 9 G.old hN (by decide) hlen.symm (by rw [hlen]; omega) hv hR) (lenOf pd__Ljava_lang_String_IIII_Z rfl) at_408 rfl (Nat.le_of_ble_eq_true rfl) (Nat.le_of_ble_eq_true rfl) (Nat.le_of_ble_eq_true rfl) (Nat.le_of_ble_eq_true rfl) all0 all0 all0 rfl
    clear G; have G := G'; clear G'
    obtain ⟨wo9, qo9, rfl, eo9, rfl⟩ := Qo9
    replace G := G.val qo9
    subst eo9
    replace G := G.ifF 414 at_411 (XT.i0_eq_f (by decide)) rfl
    replace G := G.iconst 415 (1 : Int32) at_414 rfl rfl
    replace G := G.goto 419 at_415 (by decide) (by decide)
    exact G.retN hret (Or.inl rfl) hlk at_419 [] all0 ⟨_, rfl, rfl, rfl⟩ (Nat.le_of_ble_eq_true rfl) (Nat.le_of_ble_eq_true rfl)
  · skip
    replace G := G.istore 41 #[.val (.int i0), .val (.int i1), .val (.int i2), .val (.int (Int32.ofNat x0)), .val (.int (Int32.ofNat x1)), .val (.int (Int32.ofNat x2)), .val (.int (2 : Int32)), .unset, .unset, .unset, .unset, .unset, .unset, .unset] at_39 rfl rfl
    replace G := G.iload 43 at_41 rfl rfl
    replace G := G.iconst 44 (1 : Int32) at_43 rfl rfl
    replace G := G.icmpT 66 at_44 (XT.ii_ne_t (by decide)) (by decide) (by decide)
    replace G := G.iload 68 at_66 rfl rfl
    replace G := G.iconst 69 (2 : Int32) at_68 rfl rfl
    replace G := G.icmpF 72 at_69 (XT.ii_ne_f rfl) rfl
    obtain ⟨sa, g1, G', gsa, ssa, Esa, Xsa, Dsa, Usa⟩ := G.new 75 (hw _ (List.mem_of_getElem? (i := 0) rfl)) (hw _ (List.mem_of_getElem? (i := 1) rfl)) (hw _ (List.mem_of_getElem? (i := 2) rfl)) at_72 rfl (Nat.le_of_ble_eq_true rfl) (Nat.le_of_ble_eq_true rfl)
    clear G; have G := G'; clear G'
    have Fvs := Dsa (Or.inr (hw _ (List.mem_of_getElem? (i := 29) rfl))) (ty := .array .byte) (by decide); have Fcs := Dsa (Or.inr (hw _ (List.mem_of_getElem? (i := 27) rfl))) (ty := .byte) (by decide)
    replace G := G.dup 76 at_75 rfl rfl
    replace G := G.iconst 77 (2 : Int32) at_76 rfl rfl
    obtain ⟨ca, g2, kca, G', gca, sca, Eca, Aca⟩ := G.newarray 79 (hw _ (List.mem_of_getElem? (i := 3) rfl)) at_77 (by decide) 2 (Nat.le_of_ble_eq_true rfl) (by decide) rfl (Nat.le_of_ble_eq_true rfl) (Nat.le_of_ble_eq_true rfl)
    clear G; have G := G'; clear G'
    have hAc := Aca.pad (vs' := [(.int 0), (.int 0)]) (pad_rep [] (.int 0) 2)
    have nsc : sa ≠ ca := ne_new gca Xsa.lt
    replace Xsa := Xsa.ext Eca; replace Fvs := Fvs.ext Eca; replace Fcs := Fcs.ext Eca
    replace G := G.dup 80 at_79 rfl rfl
    replace G := G.iconst 81 (0 : Int32) at_80 rfl rfl
    replace G := G.iloadN 82 at_81 rfl rfl
    obtain ⟨g3, G', As, Ks⟩ := G.castore 83 0 hAc (by decide) rfl (Nat.le_of_ble_eq_true rfl) (Or.inr sca) (List.mem_of_getElem? (i := 0) rfl) at_82 rfl
    clear G; have G := G'; clear G'
    replace hAc : Arv Z g3 ca kca .char 2 [(.int (Int32.ofNat x0)), (.int 0)] (.int 0) := by have h := As; rw [show nar FieldType.char (Int32.ofNat x0) = Int32.ofNat x0 from i2c_n hx0] at h; exact h
    replace Xsa := Xsa.keep Ks; replace Fvs := Fvs.keep Ks (ninS nsc nin0); replace Fcs := Fcs.keep Ks (ninS nsc nin0)
    replace G := G.dup 84 at_83 rfl rfl
    replace G := G.iconst 85 (1 : Int32) at_84 rfl rfl
    replace G := G.iload 87 at_85 rfl rfl
    obtain ⟨g4, G', As, Ks⟩ := G.castore 88 1 hAc (by decide) rfl (Nat.le_of_ble_eq_true rfl) (Or.inr sca) (List.mem_of_getElem? (i := 0) rfl) at_87 rfl
    clear G; have G := G'; clear G'
    replace hAc : Arv Z g4 ca kca .char 2 [(.int (Int32.ofNat x0)), (.int (Int32.ofNat x1))] (.int 0) := by have h := As; rw [show nar FieldType.char (Int32.ofNat x1) = Int32.ofNat x1 from i2c_n hx1] at h; exact h
    replace Xsa := Xsa.keep Ks; replace Fvs := Fvs.keep Ks (ninS nsc nin0); replace Fcs := Fcs.keep Ks (ninS nsc nin0)
    obtain ⟨vcb, g5, socb, G', Kcb, Qcb⟩ := G.callI 91 rfl rfl (hw _ (List.mem_of_getElem? (i := 4) rfl)) (hw _ (List.mem_of_getElem? (i := 5) rfl)) (hw _ (List.mem_of_getElem? (i := 2) rfl)) (hw _ (List.mem_of_getElem? (i := 6) rfl)) (by decide) [(.ref ca)] [(.ref sa)] rfl (c_strC l Z a0 hw hEW n0 c1 hc1 S1 v2 hv2 S2 sa ca kca [Int32.ofNat x0, Int32.ofNat x1] G.old (G.nw (Or.inr ssa)) Xsa Fvs Fcs (Nat.le_of_ble_eq_true rfl) (Nat.le_of_ble_eq_true rfl) (by intro x hx; simp only [List.mem_cons, List.not_mem_nil, or_false] at hx; rcases hx with rfl | rfl <;> first | exact c255 hx0 | exact c255 hx1 | exact c255 hx2) hAc) (lenOf pd___C_V rfl) at_88 rfl (Nat.le_of_ble_eq_true rfl) (Nat.le_of_ble_eq_true rfl) (Nat.le_of_ble_eq_true rfl) (Nat.le_of_ble_eq_true rfl) (allS (Or.inr ssa) all0) (allS (List.mem_of_getElem? (i := 1) rfl) all0) (allS (List.mem_of_getElem? (i := 1) rfl) all0) rfl
    clear G; have G := G'; clear G'
    obtain ⟨qcb, sb, hB, ssb, rfl⟩ := Qcb
    replace G := G.nov qcb
    replace hB : Str Z g5 sa sb [bytV (Int32.ofNat x0), bytV (Int32.ofNat x1)] := hB
    replace G := G.astore 93 #[.val (.int i0), .val (.int i1), .val (.int i2), .val (.int (Int32.ofNat x0)), .val (.int (Int32.ofNat x1)), .val (.int (Int32.ofNat x2)), .val (.int (2 : Int32)), .val (.ref sa), .unset, .unset, .unset, .unset, .unset, .unset] at_91 rfl rfl rfl
    replace G := G.goto 122 at_93 (by decide) (by decide)
    replace G := G.iloadN 123 at_122 rfl rfl
    replace G := G.sipush 126 (255 : Int32) at_123 (by decide) rfl
    replace G := G.iand 127 at_126 rfl
    replace G := G.top (y := (.int (Int32.ofNat x3))) (congrArg Value.int ex3)
    replace G := G.i2c 128 at_127 rfl
    replace G := G.top (y := (.int (Int32.ofNat x3))) (congrArg Value.int (i2c_n hx3))
    obtain ⟨vv, k1, sov, G', Kv, Qv⟩ := G.callS 131 (hw _ (List.mem_of_getElem? (i := 30) rfl)) (hw _ (List.mem_of_getElem? (i := 31) rfl)) (hw _ (List.mem_of_getElem? (i := 2) rfl)) (hw _ (List.mem_of_getElem? (i := 32) rfl)) (by decide) [(.int (Int32.ofNat x3))] [] rfl (c_valC l Z a0 hw hEW n0 c1 hc1 S1 v2 hv2 S2 (Int32.ofNat x3) G.old (c255 hx3)) (lenOf pd__C_Ljava_lang_String_ rfl) at_128 rfl (Nat.le_of_ble_eq_true rfl) (Nat.le_of_ble_eq_true rfl) (Nat.le_of_ble_eq_true rfl) (Nat.le_of_ble_eq_true rfl) all0 all0 all0 rfl
    clear G; have G := G'; clear G'
    obtain ⟨wv, qv, ta, tb, rfl, hT, -, -, rfl⟩ := Qv
    replace G := G.val qv
    replace hB := hB.keep Kv nin0 nin0
    replace G := G.astore 133 #[.val (.int i0), .val (.int i1), .val (.int i2), .val (.int (Int32.ofNat x0)), .val (.int (Int32.ofNat x1)), .val (.int (Int32.ofNat x2)), .val (.int (2 : Int32)), .val (.ref sa), .val (.ref ta), .unset, .unset, .unset, .unset, .unset] at_131 rfl rfl rfl
    replace G := G.iloadN 134 at_133 rfl rfl
    replace G := G.ldcI 136 (hw _ (List.mem_of_getElem? (i := 44) rfl)) at_134 rfl
    replace G := G.iand 137 at_136 rfl
    replace G := G.top (y := (.int (Int32.ofNat N))) (congrArg Value.int eN)
    replace G := G.istore 139 #[.val (.int i0), .val (.int i1), .val (.int i2), .val (.int (Int32.ofNat x0)), .val (.int (Int32.ofNat x1)), .val (.int (Int32.ofNat x2)), .val (.int (2 : Int32)), .val (.ref sa), .val (.ref ta), .val (.int (Int32.ofNat N)), .unset, .unset, .unset, .unset] at_137 rfl rfl
    obtain ⟨q, k2, G', gq, sq, Eq, Xq, Dq, Uq⟩ := G.new 142 (hw _ (List.mem_of_getElem? (i := 45) rfl)) (hw _ (List.mem_of_getElem? (i := 46) rfl)) (hw _ (List.mem_of_getElem? (i := 47) rfl)) at_139 rfl (Nat.le_of_ble_eq_true rfl) (Nat.le_of_ble_eq_true rfl)
    clear G; have G := G'; clear G'
    have Ft := Dq (Or.inr (hw _ (List.mem_of_getElem? (i := 71) rfl))) (ty := .object "java/lang/String") (by decide); have Fb := Dq (Or.inr (hw _ (List.mem_of_getElem? (i := 73) rfl))) (ty := .object "java/lang/String") (by decide); have Fq := Dq (Or.inr (hw _ (List.mem_of_getElem? (i := 75) rfl))) (ty := .int) (by decide)
    have nsq : sa ≠ q := ne_new gq hB.lt; have nbq : sb ≠ q := ne_new gq hB.ltb; replace hB := hB.ext Eq; replace hT := hT.ext Eq
    replace G := G.dup 143 at_142 rfl rfl
    replace G := G.aload 145 at_143 rfl rfl rfl
    replace G := G.aload 147 at_145 rfl rfl rfl
    replace G := G.iload 149 at_147 rfl rfl
    obtain ⟨vm1, k3, som1, G', Km1, Qm1⟩ := G.callI 152 rfl rfl (hw _ (List.mem_of_getElem? (i := 48) rfl)) (hw _ (List.mem_of_getElem? (i := 49) rfl)) (hw _ (List.mem_of_getElem? (i := 47) rfl)) (hw _ (List.mem_of_getElem? (i := 50) rfl)) (by decide) [(.ref ta), (.ref sa), (.int (Int32.ofNat N))] [(.ref q)] rfl (c_mqI l Z a0 hw hEW n0 c1 hc1 S1 v2 hv2 S2 t1 t2 kt1 kt2 SD1 SD2 AD1 AD2 q ta tb sa sb [.int (Int32.ofNat x3).toInt8.toInt32] [bytV (Int32.ofNat x0), bytV (Int32.ofNat x1)] N G.old (G.nw (Or.inr sq)) (Nat.le_of_ble_eq_true rfl) (Nat.le_of_ble_eq_true rfl) (Nat.le_of_ble_eq_true rfl) (Nat.le_of_ble_eq_true rfl) hN Xq Ft Fb Fq hT hB) (lenOf pd__Ljava_lang_String_Ljava_lang_String_I_V rfl) at_149 rfl (Nat.le_of_ble_eq_true rfl) (Nat.le_of_ble_eq_true rfl) (Nat.le_of_ble_eq_true rfl) (Nat.le_of_ble_eq_true rfl) (allS (Or.inr sq) all0) (allS (List.mem_of_getElem? (i := 0) rfl) all0) (allS (List.mem_of_getElem? (i := 0) rfl) all0) rfl
    clear G; have G := G'; clear G'
    obtain ⟨qm1, Xq1, Ft1, Fb1, Fq1, rfl⟩ := Qm1
    replace G := G.nov qm1
    replace hB := hB.keep Km1 (ninS nsq nin0) (ninS nbq nin0)
    replace G := G.astore 154 #[.val (.int i0), .val (.int i1), .val (.int i2), .val (.int (Int32.ofNat x0)), .val (.int (Int32.ofNat x1)), .val (.int (Int32.ofNat x2)), .val (.int (2 : Int32)), .val (.ref sa), .val (.ref ta), .val (.int (Int32.ofNat N)), .val (.ref q), .unset, .unset, .unset] at_152 rfl rfl rfl
    replace G := G.aload 156 at_154 rfl rfl rfl
    obtain ⟨vr, k4, sor, G', Kr, Qr⟩ := G.callV 159 (hw _ (List.mem_of_getElem? (i := 76) rfl)) (hw _ (List.mem_of_getElem? (i := 77) rfl)) (nfSel (hw _ (List.mem_of_getElem? (i := 79) rfl))) (hw _ (List.mem_of_getElem? (i := 79) rfl)) (hw _ (List.mem_of_getElem? (i := 78) rfl)) (hw _ (List.mem_of_getElem? (i := 47) rfl)) (hw _ (List.mem_of_getElem? (i := 80) rfl)) Xq1 (by decide) [] [] rfl (c_mqS l Z a0 hw hEW n0 c1 hc1 S1 v2 hv2 S2 t1 t2 kt1 kt2 SD1 SD2 AD1 AD2 q sa sb [bytV (Int32.ofNat x0), bytV (Int32.ofNat x1)] N G.old (Nat.le_of_ble_eq_true rfl) hN Fb1 Fq1 hB) (lenOf pd___Ljava_lang_String_ rfl) at_156 rfl (Nat.le_of_ble_eq_true rfl) (Nat.le_of_ble_eq_true rfl) (Nat.le_of_ble_eq_true rfl) (Nat.le_of_ble_eq_true rfl) all0 all0 all0 rfl
    clear G; have G := G'; clear G'
    obtain ⟨wr, qr, ra, rb, rfl, hR, -, -, rfl⟩ := Qr
    replace G := G.val qr
    replace G := G.astore 161 #[.val (.int i0), .val (.int i1), .val (.int i2), .val (.int (Int32.ofNat x0)), .val (.int (Int32.ofNat x1)), .val (.int (Int32.ofNat x2)), .val (.int (2 : Int32)), .val (.ref sa), .val (.ref ta), .val (.int (Int32.ofNat N)), .val (.ref q), .val (.ref ra), .unset, .unset] at_159 rfl rfl rfl
    replace G := G.iload 163 at_161 rfl rfl
    obtain ⟨vd, k_5, sod, G', Kd, Qd⟩ := G.callS 166 (hw _ (List.mem_of_getElem? (i := 210) rfl)) (hw _ (List.mem_of_getElem? (i := 211) rfl)) (hw _ (List.mem_of_getElem? (i := 212) rfl)) (hw _ (List.mem_of_getElem? (i := 213) rfl)) (by decide) [(.int (Int32.ofNat N))] [] rfl (c_dig l Z a0 hw hEW n0 c1 hc1 S1 v2 hv2 S2 t1 t2 kt1 kt2 SD1 SD2 AD1 AD2 N G.old hN) (lenOf pd__I_I rfl) at_163 rfl (Nat.le_of_ble_eq_true rfl) (Nat.le_of_ble_eq_true rfl) (Nat.le_of_ble_eq_true rfl) (Nat.le_of_ble_eq_true rfl) all0 all0 all0 rfl
    clear G; have G := G'; clear G'
    obtain ⟨wd, qd, rfl, ed, rfl⟩ := Qd
    replace G := G.val qd
    subst ed
    replace G := G.istore 168 #[.val (.int i0), .val (.int i1), .val (.int i2), .val (.int (Int32.ofNat x0)), .val (.int (Int32.ofNat x1)), .val (.int (Int32.ofNat x2)), .val (.int (2 : Int32)), .val (.ref sa), .val (.ref ta), .val (.int (Int32.ofNat N)), .val (.ref q), .val (.ref ra), .val (.int (Int32.ofNat (nd N))), .unset] at_166 rfl rfl
    replace G := G.aload 170 at_168 rfl rfl rfl
    replace G := G.ifnullF 173 at_170 rfl
    replace G := G.aload 175 at_173 rfl rfl rfl
    have hdl := nd_le hN; have hlen : ([bytV (Int32.ofNat x0), bytV (Int32.ofNat x1)] ++ [Value.int 58] ++ digs N).length = 3 + nd N := by simp only [List.length_append, List.length_singleton, digs_len, List.length_cons, List.length_nil]
    obtain ⟨vl, k_6, sol, G', Kl, Ql⟩ := G.callV 178 (hw _ (List.mem_of_getElem? (i := 214) rfl)) (hw _ (List.mem_of_getElem? (i := 110) rfl)) (nfSel (hw _ (List.mem_of_getElem? (i := 112) rfl))) (hw _ (List.mem_of_getElem? (i := 112) rfl)) (hw _ (List.mem_of_getElem? (i := 111) rfl)) (hw _ (List.mem_of_getElem? (i := 2) rfl)) (hw _ (List.mem_of_getElem? (i := 113) rfl)) hR.1 (by decide) [] [] rfl (c_length l Z a0 hw hEW n0 c1 hc1 S1 v2 hv2 S2 ra rb ([bytV (Int32.ofNat x0), bytV (Int32.ofNat x1)] ++ [Value.int 58] ++ digs N) G.old hR) (lenOf pd___I rfl) at_175 rfl (Nat.le_of_ble_eq_true rfl) (Nat.le_of_ble_eq_true rfl) (Nat.le_of_ble_eq_true rfl) (Nat.le_of_ble_eq_true rfl) all0 all0 all0 rfl
    clear G; have G := G'; clear G'
    obtain ⟨wl, ql, rfl, el, rfl⟩ := Ql
    replace G := G.val ql
    subst el
    replace G := G.top (y := (.int (Int32.ofNat (3 + nd N)))) (by rw [hlen])
    replace G := G.iload 180 at_178 rfl rfl
    replace G := G.iconst 181 (1 : Int32) at_180 rfl rfl
    replace G := G.iadd 182 at_181 rfl
    replace G := G.top (y := (.int (3 : Int32))) (by decide)
    replace G := G.iload 184 at_182 rfl rfl
    replace G := G.iadd 185 at_184 rfl
    replace G := G.top (y := (.int (Int32.ofNat (3 + nd N)))) (congrArg Value.int (ofn_add 3 _))
    replace G := G.icmpT 190 at_185 (XT.ii_eq_t rfl) (by decide) (by decide)
    replace G := G.aload 192 at_190 rfl rfl rfl
    replace G := G.iconst 193 (0 : Int32) at_192 rfl rfl
    obtain ⟨vc0, k_c, soc0, G', Kc0, Qc0⟩ := G.callV 196 (hw _ (List.mem_of_getElem? (i := 215) rfl)) (hw _ (List.mem_of_getElem? (i := 216) rfl)) (nfSel (hw _ (List.mem_of_getElem? (i := 218) rfl))) (hw _ (List.mem_of_getElem? (i := 218) rfl)) (hw _ (List.mem_of_getElem? (i := 217) rfl)) (hw _ (List.mem_of_getElem? (i := 2) rfl)) (hw _ (List.mem_of_getElem? (i := 219) rfl)) hR.1 (by decide) [(.int (0 : Int32))] [] rfl (c_charAt l Z a0 hw hEW n0 c1 hc1 S1 v2 hv2 S2 ra rb ([bytV (Int32.ofNat x0), bytV (Int32.ofNat x1)] ++ [Value.int 58] ++ digs N) 0 ((Int32.ofNat x0).toInt8.toInt32) G.old (by rw [hlen]; omega) (by rw [hlen]; omega) rfl hR) (lenOf pd__I_C rfl) at_193 rfl (Nat.le_of_ble_eq_true rfl) (Nat.le_of_ble_eq_true rfl) (Nat.le_of_ble_eq_true rfl) (Nat.le_of_ble_eq_true rfl) all0 all0 all0 rfl
    clear G; have G := G'; clear G'
    obtain ⟨wc0, qc0, rfl, ec0, rfl⟩ := Qc0
    replace G := G.val qc0
    subst ec0
    replace G := G.iloadN 197 at_196 rfl rfl
    replace G := G.icmpT 202 at_197 (XT.ii_eq_t (bm hx0)) (by decide) (by decide)
    replace G := G.iload 204 at_202 rfl rfl
    replace G := G.iconst 205 (2 : Int32) at_204 rfl rfl
    replace G := G.icmpF 208 at_205 (XT.ii_lt_f (by decide)) rfl
    replace G := G.aload 210 at_208 rfl rfl rfl
    replace G := G.iconst 211 (1 : Int32) at_210 rfl rfl
    obtain ⟨vc1, k_c, soc1, G', Kc1, Qc1⟩ := G.callV 214 (hw _ (List.mem_of_getElem? (i := 215) rfl)) (hw _ (List.mem_of_getElem? (i := 216) rfl)) (nfSel (hw _ (List.mem_of_getElem? (i := 218) rfl))) (hw _ (List.mem_of_getElem? (i := 218) rfl)) (hw _ (List.mem_of_getElem? (i := 217) rfl)) (hw _ (List.mem_of_getElem? (i := 2) rfl)) (hw _ (List.mem_of_getElem? (i := 219) rfl)) hR.1 (by decide) [(.int (1 : Int32))] [] rfl (c_charAt l Z a0 hw hEW n0 c1 hc1 S1 v2 hv2 S2 ra rb ([bytV (Int32.ofNat x0), bytV (Int32.ofNat x1)] ++ [Value.int 58] ++ digs N) 1 ((Int32.ofNat x1).toInt8.toInt32) G.old (by rw [hlen]; omega) (by rw [hlen]; omega) rfl hR) (lenOf pd__I_C rfl) at_211 rfl (Nat.le_of_ble_eq_true rfl) (Nat.le_of_ble_eq_true rfl) (Nat.le_of_ble_eq_true rfl) (Nat.le_of_ble_eq_true rfl) all0 all0 all0 rfl
    clear G; have G := G'; clear G'
    obtain ⟨wc1, qc1, rfl, ec1, rfl⟩ := Qc1
    replace G := G.val qc1
    subst ec1
    replace G := G.iload 216 at_214 rfl rfl
    replace G := G.icmpT 221 at_216 (XT.ii_eq_t (bm hx1)) (by decide) (by decide)
    replace G := G.iload 223 at_221 rfl rfl
    replace G := G.iconst 224 (3 : Int32) at_223 rfl rfl
    replace G := G.icmpT 240 at_224 (XT.ii_lt_t (by decide)) (by decide) (by decide)
    replace G := G.aload 242 at_240 rfl rfl rfl
    replace G := G.iload 244 at_242 rfl rfl
    obtain ⟨vc3, k_c, soc3, G', Kc3, Qc3⟩ := G.callV 247 (hw _ (List.mem_of_getElem? (i := 215) rfl)) (hw _ (List.mem_of_getElem? (i := 216) rfl)) (nfSel (hw _ (List.mem_of_getElem? (i := 218) rfl))) (hw _ (List.mem_of_getElem? (i := 218) rfl)) (hw _ (List.mem_of_getElem? (i := 217) rfl)) (hw _ (List.mem_of_getElem? (i := 2) rfl)) (hw _ (List.mem_of_getElem? (i := 219) rfl)) hR.1 (by decide) [(.int (2 : Int32))] [] rfl (c_charAt l Z a0 hw hEW n0 c1 hc1 S1 v2 hv2 S2 ra rb ([bytV (Int32.ofNat x0), bytV (Int32.ofNat x1)] ++ [Value.int 58] ++ digs N) 2 (58) G.old (by rw [hlen]; omega) (by rw [hlen]; omega) rfl hR) (lenOf pd__I_C rfl) at_244 rfl (Nat.le_of_ble_eq_true rfl) (Nat.le_of_ble_eq_true rfl) (Nat.le_of_ble_eq_true rfl) (Nat.le_of_ble_eq_true rfl) all0 all0 all0 rfl
    clear G; have G := G'; clear G'
    obtain ⟨wc3, qc3, rfl, ec3, rfl⟩ := Qc3
    replace G := G.val qc3
    subst ec3
    replace G := G.bipush 249 (58 : Int32) at_247 (by decide) rfl
    replace G := G.icmpT 254 at_249 (XT.ii_eq_t (by decide)) (by decide) (by decide)
    replace G := G.iload 256 at_254 rfl rfl
    replace G := G.iconst 257 (1 : Int32) at_256 rfl rfl
    replace G := G.iadd 258 at_257 rfl
    replace G := G.top (y := (.int (3 : Int32))) (by decide)
    have hv : ∀ k, k < nd N → ([bytV (Int32.ofNat x0), bytV (Int32.ofNat x1)] ++ [Value.int 58] ++ digs N).getD (3 + k) (.int 0) = .int (Int32.ofNat (48 + N / 10 ^ (nd N - 1 - k) % 10)) := fun k hk => (getD_off (pre := [bytV (Int32.ofNat x0), bytV (Int32.ofNat x1)] ++ [Value.int 58]) (n := 3) rfl k).trans (digs_at hk)
    replace G := G.istore 260 #[.val (.int i0), .val (.int i1), .val (.int i2), .val (.int (Int32.ofNat x0)), .val (.int (Int32.ofNat x1)), .val (.int (Int32.ofNat x2)), .val (.int (2 : Int32)), .val (.ref sa), .val (.ref ta), .val (.int (Int32.ofNat N)), .val (.ref q), .val (.ref ra), .val (.int (Int32.ofNat (nd N))), .val (.int (3 : Int32))] at_258 rfl rfl
    replace G := G.aload 262 at_260 rfl rfl rfl
    replace G := G.iload 264 at_262 rfl rfl
    replace G := G.iload 266 at_264 rfl rfl
    replace G := G.iload 268 at_266 rfl rfl
    replace G := G.iconst 269 (0 : Int32) at_268 rfl rfl
    obtain ⟨vo0, k_d, soo0, G', Ko0, Qo0⟩ := G.callS 272 (hw _ (List.mem_of_getElem? (i := 236) rfl)) (hw _ (List.mem_of_getElem? (i := 237) rfl)) (hw _ (List.mem_of_getElem? (i := 212) rfl)) (hw _ (List.mem_of_getElem? (i := 238) rfl)) (by decide) [(.ref ra), (.int (3 : Int32)), (.int (Int32.ofNat N)), (.int (Int32.ofNat (nd N))), (.int (0 : Int32))] [] rfl (c_digOk l Z a0 hw hEW n0 c1 hc1 S1 v2 hv2 S2 t1 t2 kt1 kt2 SD1 SD2 AD1 AD2 ra rb ([bytV (Int32.ofNat x0), bytV (Int32.ofNat x1)] ++ [Value.int 58] ++ digs N) 3 N 0 G.old hN (by decide) hlen.symm (by rw [hlen]; omega) hv hR) (lenOf pd__Ljava_lang_String_IIII_Z rfl) at_269 rfl (Nat.le_of_ble_eq_true rfl) (Nat.le_of_ble_eq_true rfl) (Nat.le_of_ble_eq_true rfl) (Nat.le_of_ble_eq_true rfl) all0 all0 all0 rfl
    clear G; have G := G'; clear G'
    obtain ⟨wo0, qo0, rfl, eo0, rfl⟩ := Qo0
    replace G := G.val qo0
    subst eo0
    replace G := G.ifF 275 at_272 (XT.i0_eq_f (by decide)) rfl
    replace G := G.aload 277 at_275 rfl rfl rfl
    replace G := G.iload 279 at_277 rfl rfl
    replace G := G.iload 281 at_279 rfl rfl
    replace G := G.iload 283 at_281 rfl rfl
    replace G := G.iconst 284 (1 : Int32) at_283 rfl rfl
    obtain ⟨vo1, k_d, soo1, G', Ko1, Qo1⟩ := G.callS 287 (hw _ (List.mem_of_getElem? (i := 236) rfl)) (hw _ (List.mem_of_getElem? (i := 237) rfl)) (hw _ (List.mem_of_getElem? (i := 212) rfl)) (hw _ (List.mem_of_getElem? (i := 238) rfl)) (by decide) [(.ref ra), (.int (3 : Int32)), (.int (Int32.ofNat N)), (.int (Int32.ofNat (nd N))), (.int (1 : Int32))] [] rfl (c_digOk l Z a0 hw hEW n0 c1 hc1 S1 v2 hv2 S2 t1 t2 kt1 kt2 SD1 SD2 AD1 AD2 ra rb ([bytV (Int32.ofNat x0), bytV (Int32.ofNat x1)] ++ [Value.int 58] ++ digs N) 3 N 1 G.old hN (by decide) hlen.symm (by rw [hlen]; omega) hv hR) (lenOf pd__Ljava_lang_String_IIII_Z rfl) at_284 rfl (Nat.le_of_ble_eq_true rfl) (Nat.le_of_ble_eq_true rfl) (Nat.le_of_ble_eq_true rfl) (Nat.le_of_ble_eq_true rfl) all0 all0 all0 rfl
    clear G; have G := G'; clear G'
    obtain ⟨wo1, qo1, rfl, eo1, rfl⟩ := Qo1
    replace G := G.val qo1
    subst eo1
    replace G := G.ifF 290 at_287 (XT.i0_eq_f (by decide)) rfl
    replace G := G.aload 292 at_290 rfl rfl rfl
    replace G := G.iload 294 at_292 rfl rfl
    replace G := G.iload 296 at_294 rfl rfl
    replace G := G.iload 298 at_296 rfl rfl
    replace G := G.iconst 299 (2 : Int32) at_298 rfl rfl
    obtain ⟨vo2, k_d, soo2, G', Ko2, Qo2⟩ := G.callS 302 (hw _ (List.mem_of_getElem? (i := 236) rfl)) (hw _ (List.mem_of_getElem? (i := 237) rfl)) (hw _ (List.mem_of_getElem? (i := 212) rfl)) (hw _ (List.mem_of_getElem? (i := 238) rfl)) (by decide) [(.ref ra), (.int (3 : Int32)), (.int (Int32.ofNat N)), (.int (Int32.ofNat (nd N))), (.int (2 : Int32))] [] rfl (c_digOk l Z a0 hw hEW n0 c1 hc1 S1 v2 hv2 S2 t1 t2 kt1 kt2 SD1 SD2 AD1 AD2 ra rb ([bytV (Int32.ofNat x0), bytV (Int32.ofNat x1)] ++ [Value.int 58] ++ digs N) 3 N 2 G.old hN (by decide) hlen.symm (by rw [hlen]; omega) hv hR) (lenOf pd__Ljava_lang_String_IIII_Z rfl) at_299 rfl (Nat.le_of_ble_eq_true rfl) (Nat.le_of_ble_eq_true rfl) (Nat.le_of_ble_eq_true rfl) (Nat.le_of_ble_eq_true rfl) all0 all0 all0 rfl
    clear G; have G := G'; clear G'
    obtain ⟨wo2, qo2, rfl, eo2, rfl⟩ := Qo2
    replace G := G.val qo2
    subst eo2
    replace G := G.ifF 305 at_302 (XT.i0_eq_f (by decide)) rfl
    replace G := G.aload 307 at_305 rfl rfl rfl
    replace G := G.iload 309 at_307 rfl rfl
    replace G := G.iload 311 at_309 rfl rfl
    replace G := G.iload 313 at_311 rfl rfl
    replace G := G.iconst 314 (3 : Int32) at_313 rfl rfl
    obtain ⟨vo3, k_d, soo3, G', Ko3, Qo3⟩ := G.callS 317 (hw _ (List.mem_of_getElem? (i := 236) rfl)) (hw _ (List.mem_of_getElem? (i := 237) rfl)) (hw _ (List.mem_of_getElem? (i := 212) rfl)) (hw _ (List.mem_of_getElem? (i := 238) rfl)) (by decide) [(.ref ra), (.int (3 : Int32)), (.int (Int32.ofNat N)), (.int (Int32.ofNat (nd N))), (.int (3 : Int32))] [] rfl (c_digOk l Z a0 hw hEW n0 c1 hc1 S1 v2 hv2 S2 t1 t2 kt1 kt2 SD1 SD2 AD1 AD2 ra rb ([bytV (Int32.ofNat x0), bytV (Int32.ofNat x1)] ++ [Value.int 58] ++ digs N) 3 N 3 G.old hN (by decide) hlen.symm (by rw [hlen]; omega) hv hR) (lenOf pd__Ljava_lang_String_IIII_Z rfl) at_314 rfl (Nat.le_of_ble_eq_true rfl) (Nat.le_of_ble_eq_true rfl) (Nat.le_of_ble_eq_true rfl) (Nat.le_of_ble_eq_true rfl) all0 all0 all0 rfl
    clear G; have G := G'; clear G'
    obtain ⟨wo3, qo3, rfl, eo3, rfl⟩ := Qo3
    replace G := G.val qo3
    subst eo3
    replace G := G.ifF 320 at_317 (XT.i0_eq_f (by decide)) rfl
    replace G := G.aload 322 at_320 rfl rfl rfl
    replace G := G.iload 324 at_322 rfl rfl
    replace G := G.iload 326 at_324 rfl rfl
    replace G := G.iload 328 at_326 rfl rfl
    replace G := G.iconst 329 (4 : Int32) at_328 rfl rfl
    obtain ⟨vo4, k_d, soo4, G', Ko4, Qo4⟩ := G.callS 332 (hw _ (List.mem_of_getElem? (i := 236) rfl)) (hw _ (List.mem_of_getElem? (i := 237) rfl)) (hw _ (List.mem_of_getElem? (i := 212) rfl)) (hw _ (List.mem_of_getElem? (i := 238) rfl)) (by decide) [(.ref ra), (.int (3 : Int32)), (.int (Int32.ofNat N)), (.int (Int32.ofNat (nd N))), (.int (4 : Int32))] [] rfl (c_digOk l Z a0 hw hEW n0 c1 hc1 S1 v2 hv2 S2 t1 t2 kt1 kt2 SD1 SD2 AD1 AD2 ra rb ([bytV (Int32.ofNat x0), bytV (Int32.ofNat x1)] ++ [Value.int 58] ++ digs N) 3 N 4 G.old hN (by decide) hlen.symm (by rw [hlen]; omega) hv hR) (lenOf pd__Ljava_lang_String_IIII_Z rfl) at_329 rfl (Nat.le_of_ble_eq_true rfl) (Nat.le_of_ble_eq_true rfl) (Nat.le_of_ble_eq_true rfl) (Nat.le_of_ble_eq_true rfl) all0 all0 all0 rfl
    clear G; have G := G'; clear G'
    obtain ⟨wo4, qo4, rfl, eo4, rfl⟩ := Qo4
    replace G := G.val qo4
    subst eo4
    replace G := G.ifF 335 at_332 (XT.i0_eq_f (by decide)) rfl
    replace G := G.aload 337 at_335 rfl rfl rfl
    replace G := G.iload 339 at_337 rfl rfl
    replace G := G.iload 341 at_339 rfl rfl
    replace G := G.iload 343 at_341 rfl rfl
    replace G := G.iconst 344 (5 : Int32) at_343 rfl rfl
    obtain ⟨vo5, k_d, soo5, G', Ko5, Qo5⟩ := G.callS 347 (hw _ (List.mem_of_getElem? (i := 236) rfl)) (hw _ (List.mem_of_getElem? (i := 237) rfl)) (hw _ (List.mem_of_getElem? (i := 212) rfl)) (hw _ (List.mem_of_getElem? (i := 238) rfl)) (by decide) [(.ref ra), (.int (3 : Int32)), (.int (Int32.ofNat N)), (.int (Int32.ofNat (nd N))), (.int (5 : Int32))] [] rfl (c_digOk l Z a0 hw hEW n0 c1 hc1 S1 v2 hv2 S2 t1 t2 kt1 kt2 SD1 SD2 AD1 AD2 ra rb ([bytV (Int32.ofNat x0), bytV (Int32.ofNat x1)] ++ [Value.int 58] ++ digs N) 3 N 5 G.old hN (by decide) hlen.symm (by rw [hlen]; omega) hv hR) (lenOf pd__Ljava_lang_String_IIII_Z rfl) at_344 rfl (Nat.le_of_ble_eq_true rfl) (Nat.le_of_ble_eq_true rfl) (Nat.le_of_ble_eq_true rfl) (Nat.le_of_ble_eq_true rfl) all0 all0 all0 rfl
    clear G; have G := G'; clear G'
    obtain ⟨wo5, qo5, rfl, eo5, rfl⟩ := Qo5
    replace G := G.val qo5
    subst eo5
    replace G := G.ifF 350 at_347 (XT.i0_eq_f (by decide)) rfl
    replace G := G.aload 352 at_350 rfl rfl rfl
    replace G := G.iload 354 at_352 rfl rfl
    replace G := G.iload 356 at_354 rfl rfl
    replace G := G.iload 358 at_356 rfl rfl
    replace G := G.bipush 360 (6 : Int32) at_358 (by decide) rfl
    obtain ⟨vo6, k_d, soo6, G', Ko6, Qo6⟩ := G.callS 363 (hw _ (List.mem_of_getElem? (i := 236) rfl)) (hw _ (List.mem_of_getElem? (i := 237) rfl)) (hw _ (List.mem_of_getElem? (i := 212) rfl)) (hw _ (List.mem_of_getElem? (i := 238) rfl)) (by decide) [(.ref ra), (.int (3 : Int32)), (.int (Int32.ofNat N)), (.int (Int32.ofNat (nd N))), (.int (6 : Int32))] [] rfl (c_digOk l Z a0 hw hEW n0 c1 hc1 S1 v2 hv2 S2 t1 t2 kt1 kt2 SD1 SD2 AD1 AD2 ra rb ([bytV (Int32.ofNat x0), bytV (Int32.ofNat x1)] ++ [Value.int 58] ++ digs N) 3 N 6 G.old hN (by decide) hlen.symm (by rw [hlen]; omega) hv hR) (lenOf pd__Ljava_lang_String_IIII_Z rfl) at_360 rfl (Nat.le_of_ble_eq_true rfl) (Nat.le_of_ble_eq_true rfl) (Nat.le_of_ble_eq_true rfl) (Nat.le_of_ble_eq_true rfl) all0 all0 all0 rfl
    clear G; have G := G'; clear G'
    obtain ⟨wo6, qo6, rfl, eo6, rfl⟩ := Qo6
    replace G := G.val qo6
    subst eo6
    replace G := G.ifF 366 at_363 (XT.i0_eq_f (by decide)) rfl
    replace G := G.aload 368 at_366 rfl rfl rfl
    replace G := G.iload 370 at_368 rfl rfl
    replace G := G.iload 372 at_370 rfl rfl
    replace G := G.iload 374 at_372 rfl rfl
    replace G := G.bipush 376 (7 : Int32) at_374 (by decide) rfl
    obtain ⟨vo7, k_d, soo7, G', Ko7, Qo7⟩ := G.callS 379 (hw _ (List.mem_of_getElem? (i := 236) rfl)) (hw _ (List.mem_of_getElem? (i := 237) rfl)) (hw _ (List.mem_of_getElem? (i := 212) rfl)) (hw _ (List.mem_of_getElem? (i := 238) rfl)) (by decide) [(.ref ra), (.int (3 : Int32)), (.int (Int32.ofNat N)), (.int (Int32.ofNat (nd N))), (.int (7 : Int32))] [] rfl (c_digOk l Z a0 hw hEW n0 c1 hc1 S1 v2 hv2 S2 t1 t2 kt1 kt2 SD1 SD2 AD1 AD2 ra rb ([bytV (Int32.ofNat x0), bytV (Int32.ofNat x1)] ++ [Value.int 58] ++ digs N) 3 N 7 G.old hN (by decide) hlen.symm (by rw [hlen]; omega) hv hR) (lenOf pd__Ljava_lang_String_IIII_Z rfl) at_376 rfl (Nat.le_of_ble_eq_true rfl) (Nat.le_of_ble_eq_true rfl) (Nat.le_of_ble_eq_true rfl) (Nat.le_of_ble_eq_true rfl) all0 all0 all0 rfl
    clear G; have G := G'; clear G'
    obtain ⟨wo7, qo7, rfl, eo7, rfl⟩ := Qo7
    replace G := G.val qo7
    subst eo7
    replace G := G.ifF 382 at_379 (XT.i0_eq_f (by decide)) rfl
    replace G := G.aload 384 at_382 rfl rfl rfl
    replace G := G.iload 386 at_384 rfl rfl
    replace G := G.iload 388 at_386 rfl rfl
    replace G := G.iload 390 at_388 rfl rfl
    replace G := G.bipush 392 (8 : Int32) at_390 (by decide) rfl
    obtain ⟨vo8, k_d, soo8, G', Ko8, Qo8⟩ := G.callS 395 (hw _ (List.mem_of_getElem? (i := 236) rfl)) (hw _ (List.mem_of_getElem? (i := 237) rfl)) (hw _ (List.mem_of_getElem? (i := 212) rfl)) (hw _ (List.mem_of_getElem? (i := 238) rfl)) (by decide) [(.ref ra), (.int (3 : Int32)), (.int (Int32.ofNat N)), (.int (Int32.ofNat (nd N))), (.int (8 : Int32))] [] rfl (c_digOk l Z a0 hw hEW n0 c1 hc1 S1 v2 hv2 S2 t1 t2 kt1 kt2 SD1 SD2 AD1 AD2 ra rb ([bytV (Int32.ofNat x0), bytV (Int32.ofNat x1)] ++ [Value.int 58] ++ digs N) 3 N 8 G.old hN (by decide) hlen.symm (by rw [hlen]; omega) hv hR) (lenOf pd__Ljava_lang_String_IIII_Z rfl) at_392 rfl (Nat.le_of_ble_eq_true rfl) (Nat.le_of_ble_eq_true rfl) (Nat.le_of_ble_eq_true rfl) (Nat.le_of_ble_eq_true rfl) all0 all0 all0 rfl
    clear G; have G := G'; clear G'
    obtain ⟨wo8, qo8, rfl, eo8, rfl⟩ := Qo8
    replace G := G.val qo8
    subst eo8
    replace G := G.ifF 398 at_395 (XT.i0_eq_f (by decide)) rfl
    replace G := G.aload 400 at_398 rfl rfl rfl
    replace G := G.iload 402 at_400 rfl rfl
    replace G := G.iload 404 at_402 rfl rfl
    replace G := G.iload 406 at_404 rfl rfl
    replace G := G.bipush 408 (9 : Int32) at_406 (by decide) rfl
    obtain ⟨vo9, k_d, soo9, G', Ko9, Qo9⟩ := G.callS 411 (hw _ (List.mem_of_getElem? (i := 236) rfl)) (hw _ (List.mem_of_getElem? (i := 237) rfl)) (hw _ (List.mem_of_getElem? (i := 212) rfl)) (hw _ (List.mem_of_getElem? (i := 238) rfl)) (by decide) [(.ref ra), (.int (3 : Int32)), (.int (Int32.ofNat N)), (.int (Int32.ofNat (nd N))), (.int (9 : Int32))] [] rfl (c_digOk l Z a0 hw hEW n0 c1 hc1 S1 v2 hv2 S2 t1 t2 kt1 kt2 SD1 SD2 AD1 AD2 ra rb ([bytV (Int32.ofNat x0), bytV (Int32.ofNat x1)] ++ [Value.int 58] ++ digs N) 3 N 9 G.old hN (by decide) hlen.symm (by rw [hlen]; omega) hv hR) (lenOf pd__Ljava_lang_String_IIII_Z rfl) at_408 rfl (Nat.le_of_ble_eq_true rfl) (Nat.le_of_ble_eq_true rfl) (Nat.le_of_ble_eq_true rfl) (Nat.le_of_ble_eq_true rfl) all0 all0 all0 rfl
    clear G; have G := G'; clear G'
    obtain ⟨wo9, qo9, rfl, eo9, rfl⟩ := Qo9
    replace G := G.val qo9
    subst eo9
    replace G := G.ifF 414 at_411 (XT.i0_eq_f (by decide)) rfl
    replace G := G.iconst 415 (1 : Int32) at_414 rfl rfl
    replace G := G.goto 419 at_415 (by decide) (by decide)
    exact G.retN hret (Or.inl rfl) hlk at_419 [] all0 ⟨_, rfl, rfl, rfl⟩ (Nat.le_of_ble_eq_true rfl) (Nat.le_of_ble_eq_true rfl)
  · skip
    replace G := G.istore 41 #[.val (.int i0), .val (.int i1), .val (.int i2), .val (.int (Int32.ofNat x0)), .val (.int (Int32.ofNat x1)), .val (.int (Int32.ofNat x2)), .val (.int (3 : Int32)), .unset, .unset, .unset, .unset, .unset, .unset, .unset] at_39 rfl rfl
    replace G := G.iload 43 at_41 rfl rfl
    replace G := G.iconst 44 (1 : Int32) at_43 rfl rfl
    replace G := G.icmpT 66 at_44 (XT.ii_ne_t (by decide)) (by decide) (by decide)
    replace G := G.iload 68 at_66 rfl rfl
    replace G := G.iconst 69 (2 : Int32) at_68 rfl rfl
    replace G := G.icmpT 96 at_69 (XT.ii_ne_t (by decide)) (by decide) (by decide)
    obtain ⟨sa, g1, G', gsa, ssa, Esa, Xsa, Dsa, Usa⟩ := G.new 99 (hw _ (List.mem_of_getElem? (i := 0) rfl)) (hw _ (List.mem_of_getElem? (i := 1) rfl)) (hw _ (List.mem_of_getElem? (i := 2) rfl)) at_96 rfl (Nat.le_of_ble_eq_true rfl) (Nat.le_of_ble_eq_true rfl)
    clear G; have G := G'; clear G'
    have Fvs := Dsa (Or.inr (hw _ (List.mem_of_getElem? (i := 29) rfl))) (ty := .array .byte) (by decide); have Fcs := Dsa (Or.inr (hw _ (List.mem_of_getElem? (i := 27) rfl))) (ty := .byte) (by decide)
    replace G := G.dup 100 at_99 rfl rfl
    replace G := G.iconst 101 (3 : Int32) at_100 rfl rfl
    obtain ⟨ca, g2, kca, G', gca, sca, Eca, Aca⟩ := G.newarray 103 (hw _ (List.mem_of_getElem? (i := 3) rfl)) at_101 (by decide) 3 (Nat.le_of_ble_eq_true rfl) (by decide) rfl (Nat.le_of_ble_eq_true rfl) (Nat.le_of_ble_eq_true rfl)
    clear G; have G := G'; clear G'
    have hAc := Aca.pad (vs' := [(.int 0), (.int 0), (.int 0)]) (pad_rep [] (.int 0) 3)
    have nsc : sa ≠ ca := ne_new gca Xsa.lt
    replace Xsa := Xsa.ext Eca; replace Fvs := Fvs.ext Eca; replace Fcs := Fcs.ext Eca
    replace G := G.dup 104 at_103 rfl rfl
    replace G := G.iconst 105 (0 : Int32) at_104 rfl rfl
    replace G := G.iloadN 106 at_105 rfl rfl
    obtain ⟨g3, G', As, Ks⟩ := G.castore 107 0 hAc (by decide) rfl (Nat.le_of_ble_eq_true rfl) (Or.inr sca) (List.mem_of_getElem? (i := 0) rfl) at_106 rfl
    clear G; have G := G'; clear G'
    replace hAc : Arv Z g3 ca kca .char 3 [(.int (Int32.ofNat x0)), (.int 0), (.int 0)] (.int 0) := by have h := As; rw [show nar FieldType.char (Int32.ofNat x0) = Int32.ofNat x0 from i2c_n hx0] at h; exact h
    replace Xsa := Xsa.keep Ks; replace Fvs := Fvs.keep Ks (ninS nsc nin0); replace Fcs := Fcs.keep Ks (ninS nsc nin0)
    replace G := G.dup 108 at_107 rfl rfl
    replace G := G.iconst 109 (1 : Int32) at_108 rfl rfl
    replace G := G.iload 111 at_109 rfl rfl
    obtain ⟨g4, G', As, Ks⟩ := G.castore 112 1 hAc (by decide) rfl (Nat.le_of_ble_eq_true rfl) (Or.inr sca) (List.mem_of_getElem? (i := 0) rfl) at_111 rfl
    clear G; have G := G'; clear G'
    replace hAc : Arv Z g4 ca kca .char 3 [(.int (Int32.ofNat x0)), (.int (Int32.ofNat x1)), (.int 0)] (.int 0) := by have h := As; rw [show nar FieldType.char (Int32.ofNat x1) = Int32.ofNat x1 from i2c_n hx1] at h; exact h
    replace Xsa := Xsa.keep Ks; replace Fvs := Fvs.keep Ks (ninS nsc nin0); replace Fcs := Fcs.keep Ks (ninS nsc nin0)
    replace G := G.dup 113 at_112 rfl rfl
    replace G := G.iconst 114 (2 : Int32) at_113 rfl rfl
    replace G := G.iload 116 at_114 rfl rfl
    obtain ⟨g5, G', As, Ks⟩ := G.castore 117 2 hAc (by decide) rfl (Nat.le_of_ble_eq_true rfl) (Or.inr sca) (List.mem_of_getElem? (i := 0) rfl) at_116 rfl
    clear G; have G := G'; clear G'
    replace hAc : Arv Z g5 ca kca .char 3 [(.int (Int32.ofNat x0)), (.int (Int32.ofNat x1)), (.int (Int32.ofNat x2))] (.int 0) := by have h := As; rw [show nar FieldType.char (Int32.ofNat x2) = Int32.ofNat x2 from i2c_n hx2] at h; exact h
    replace Xsa := Xsa.keep Ks; replace Fvs := Fvs.keep Ks (ninS nsc nin0); replace Fcs := Fcs.keep Ks (ninS nsc nin0)
    obtain ⟨vcb, g6, socb, G', Kcb, Qcb⟩ := G.callI 120 rfl rfl (hw _ (List.mem_of_getElem? (i := 4) rfl)) (hw _ (List.mem_of_getElem? (i := 5) rfl)) (hw _ (List.mem_of_getElem? (i := 2) rfl)) (hw _ (List.mem_of_getElem? (i := 6) rfl)) (by decide) [(.ref ca)] [(.ref sa)] rfl (c_strC l Z a0 hw hEW n0 c1 hc1 S1 v2 hv2 S2 sa ca kca [Int32.ofNat x0, Int32.ofNat x1, Int32.ofNat x2] G.old (G.nw (Or.inr ssa)) Xsa Fvs Fcs (Nat.le_of_ble_eq_true rfl) (Nat.le_of_ble_eq_true rfl) (by intro x hx; simp only [List.mem_cons, List.not_mem_nil, or_false] at hx; rcases hx with rfl | rfl | rfl <;> first | exact c255 hx0 | exact c255 hx1 | exact c255 hx2) hAc) (lenOf pd___C_V rfl) at_117 rfl (Nat.le_of_ble_eq_true rfl) (Nat.le_of_ble_eq_true rfl) (Nat.le_of_ble_eq_true rfl) (Nat.le_of_ble_eq_true rfl) (allS (Or.inr ssa) all0) (allS (List.mem_of_getElem? (i := 1) rfl) all0) (allS (List.mem_of_getElem? (i := 1) rfl) all0) rfl
    clear G; have G := G'; clear G'
    obtain ⟨qcb, sb, hB, ssb, rfl⟩ := Qcb
    replace G := G.nov qcb
    replace hB : Str Z g6 sa sb [bytV (Int32.ofNat x0), bytV (Int32.ofNat x1), bytV (Int32.ofNat x2)] := hB
    replace G := G.astore 122 #[.val (.int i0), .val (.int i1), .val (.int i2), .val (.int (Int32.ofNat x0)), .val (.int (Int32.ofNat x1)), .val (.int (Int32.ofNat x2)), .val (.int (3 : Int32)), .val (.ref sa), .unset, .unset, .unset, .unset, .unset, .unset] at_120 rfl rfl rfl
    replace G := G.iloadN 123 at_122 rfl rfl
    replace G := G.sipush 126 (255 : Int32) at_123 (by decide) rfl
    replace G := G.iand 127 at_126 rfl
    replace G := G.top (y := (.int (Int32.ofNat x3))) (congrArg Value.int ex3)
    replace G := G.i2c 128 at_127 rfl
    replace G := G.top (y := (.int (Int32.ofNat x3))) (congrArg Value.int (i2c_n hx3))
    obtain ⟨vv, k1, sov, G', Kv, Qv⟩ := G.callS 131 (hw _ (List.mem_of_getElem? (i := 30) rfl)) (hw _ (List.mem_of_getElem? (i := 31) rfl)) (hw _ (List.mem_of_getElem? (i := 2) rfl)) (hw _ (List.mem_of_getElem? (i := 32) rfl)) (by decide) [(.int (Int32.ofNat x3))] [] rfl (c_valC l Z a0 hw hEW n0 c1 hc1 S1 v2 hv2 S2 (Int32.ofNat x3) G.old (c255 hx3)) (lenOf pd__C_Ljava_lang_String_ rfl) at_128 rfl (Nat.le_of_ble_eq_true rfl) (Nat.le_of_ble_eq_true rfl) (Nat.le_of_ble_eq_true rfl) (Nat.le_of_ble_eq_true rfl) all0 all0 all0 rfl
    clear G; have G := G'; clear G'
    obtain ⟨wv, qv, ta, tb, rfl, hT, -, -, rfl⟩ := Qv
    replace G := G.val qv
    replace hB := hB.keep Kv nin0 nin0
    replace G := G.astore 133 #[.val (.int i0), .val (.int i1), .val (.int i2), .val (.int (Int32.ofNat x0)), .val (.int (Int32.ofNat x1)), .val (.int (Int32.ofNat x2)), .val (.int (3 : Int32)), .val (.ref sa), .val (.ref ta), .unset, .unset, .unset, .unset, .unset] at_131 rfl rfl rfl
    replace G := G.iloadN 134 at_133 rfl rfl
    replace G := G.ldcI 136 (hw _ (List.mem_of_getElem? (i := 44) rfl)) at_134 rfl
    replace G := G.iand 137 at_136 rfl
    replace G := G.top (y := (.int (Int32.ofNat N))) (congrArg Value.int eN)
    replace G := G.istore 139 #[.val (.int i0), .val (.int i1), .val (.int i2), .val (.int (Int32.ofNat x0)), .val (.int (Int32.ofNat x1)), .val (.int (Int32.ofNat x2)), .val (.int (3 : Int32)), .val (.ref sa), .val (.ref ta), .val (.int (Int32.ofNat N)), .unset, .unset, .unset, .unset] at_137 rfl rfl
    obtain ⟨q, k2, G', gq, sq, Eq, Xq, Dq, Uq⟩ := G.new 142 (hw _ (List.mem_of_getElem? (i := 45) rfl)) (hw _ (List.mem_of_getElem? (i := 46) rfl)) (hw _ (List.mem_of_getElem? (i := 47) rfl)) at_139 rfl (Nat.le_of_ble_eq_true rfl) (Nat.le_of_ble_eq_true rfl)
    clear G; have G := G'; clear G'
    have Ft := Dq (Or.inr (hw _ (List.mem_of_getElem? (i := 71) rfl))) (ty := .object "java/lang/String") (by decide); have Fb := Dq (Or.inr (hw _ (List.mem_of_getElem? (i := 73) rfl))) (ty := .object "java/lang/String") (by decide); have Fq := Dq (Or.inr (hw _ (List.mem_of_getElem? (i := 75) rfl))) (ty := .int) (by decide)
    have nsq : sa ≠ q := ne_new gq hB.lt; have nbq : sb ≠ q := ne_new gq hB.ltb; replace hB := hB.ext Eq; replace hT := hT.ext Eq
    replace G := G.dup 143 at_142 rfl rfl
    replace G := G.aload 145 at_143 rfl rfl rfl
    replace G := G.aload 147 at_145 rfl rfl rfl
    replace G := G.iload 149 at_147 rfl rfl
    obtain ⟨vm1, k3, som1, G', Km1, Qm1⟩ := G.callI 152 rfl rfl (hw _ (List.mem_of_getElem? (i := 48) rfl)) (hw _ (List.mem_of_getElem? (i := 49) rfl)) (hw _ (List.mem_of_getElem? (i := 47) rfl)) (hw _ (List.mem_of_getElem? (i := 50) rfl)) (by decide) [(.ref ta), (.ref sa), (.int (Int32.ofNat N))] [(.ref q)] rfl (c_mqI l Z a0 hw hEW n0 c1 hc1 S1 v2 hv2 S2 t1 t2 kt1 kt2 SD1 SD2 AD1 AD2 q ta tb sa sb [.int (Int32.ofNat x3).toInt8.toInt32] [bytV (Int32.ofNat x0), bytV (Int32.ofNat x1), bytV (Int32.ofNat x2)] N G.old (G.nw (Or.inr sq)) (Nat.le_of_ble_eq_true rfl) (Nat.le_of_ble_eq_true rfl) (Nat.le_of_ble_eq_true rfl) (Nat.le_of_ble_eq_true rfl) hN Xq Ft Fb Fq hT hB) (lenOf pd__Ljava_lang_String_Ljava_lang_String_I_V rfl) at_149 rfl (Nat.le_of_ble_eq_true rfl) (Nat.le_of_ble_eq_true rfl) (Nat.le_of_ble_eq_true rfl) (Nat.le_of_ble_eq_true rfl) (allS (Or.inr sq) all0) (allS (List.mem_of_getElem? (i := 0) rfl) all0) (allS (List.mem_of_getElem? (i := 0) rfl) all0) rfl
    clear G; have G := G'; clear G'
    obtain ⟨qm1, Xq1, Ft1, Fb1, Fq1, rfl⟩ := Qm1
    replace G := G.nov qm1
    replace hB := hB.keep Km1 (ninS nsq nin0) (ninS nbq nin0)
    replace G := G.astore 154 #[.val (.int i0), .val (.int i1), .val (.int i2), .val (.int (Int32.ofNat x0)), .val (.int (Int32.ofNat x1)), .val (.int (Int32.ofNat x2)), .val (.int (3 : Int32)), .val (.ref sa), .val (.ref ta), .val (.int (Int32.ofNat N)), .val (.ref q), .unset, .unset, .unset] at_152 rfl rfl rfl
    replace G := G.aload 156 at_154 rfl rfl rfl
    obtain ⟨vr, k4, sor, G', Kr, Qr⟩ := G.callV 159 (hw _ (List.mem_of_getElem? (i := 76) rfl)) (hw _ (List.mem_of_getElem? (i := 77) rfl)) (nfSel (hw _ (List.mem_of_getElem? (i := 79) rfl))) (hw _ (List.mem_of_getElem? (i := 79) rfl)) (hw _ (List.mem_of_getElem? (i := 78) rfl)) (hw _ (List.mem_of_getElem? (i := 47) rfl)) (hw _ (List.mem_of_getElem? (i := 80) rfl)) Xq1 (by decide) [] [] rfl (c_mqS l Z a0 hw hEW n0 c1 hc1 S1 v2 hv2 S2 t1 t2 kt1 kt2 SD1 SD2 AD1 AD2 q sa sb [bytV (Int32.ofNat x0), bytV (Int32.ofNat x1), bytV (Int32.ofNat x2)] N G.old (Nat.le_of_ble_eq_true rfl) hN Fb1 Fq1 hB) (lenOf pd___Ljava_lang_String_ rfl) at_156 rfl (Nat.le_of_ble_eq_true rfl) (Nat.le_of_ble_eq_true rfl) (Nat.le_of_ble_eq_true rfl) (Nat.le_of_ble_eq_true rfl) all0 all0 all0 rfl
    clear G; have G := G'; clear G'
    obtain ⟨wr, qr, ra, rb, rfl, hR, -, -, rfl⟩ := Qr
    replace G := G.val qr
    replace G := G.astore 161 #[.val (.int i0), .val (.int i1), .val (.int i2), .val (.int (Int32.ofNat x0)), .val (.int (Int32.ofNat x1)), .val (.int (Int32.ofNat x2)), .val (.int (3 : Int32)), .val (.ref sa), .val (.ref ta), .val (.int (Int32.ofNat N)), .val (.ref q), .val (.ref ra), .unset, .unset] at_159 rfl rfl rfl
    replace G := G.iload 163 at_161 rfl rfl
    obtain ⟨vd, k_5, sod, G', Kd, Qd⟩ := G.callS 166 (hw _ (List.mem_of_getElem? (i := 210) rfl)) (hw _ (List.mem_of_getElem? (i := 211) rfl)) (hw _ (List.mem_of_getElem? (i := 212) rfl)) (hw _ (List.mem_of_getElem? (i := 213) rfl)) (by decide) [(.int (Int32.ofNat N))] [] rfl (c_dig l Z a0 hw hEW n0 c1 hc1 S1 v2 hv2 S2 t1 t2 kt1 kt2 SD1 SD2 AD1 AD2 N G.old hN) (lenOf pd__I_I rfl) at_163 rfl (Nat.le_of_ble_eq_true rfl) (Nat.le_of_ble_eq_true rfl) (Nat.le_of_ble_eq_true rfl) (Nat.le_of_ble_eq_true rfl) all0 all0 all0 rfl
    clear G; have G := G'; clear G'
    obtain ⟨wd, qd, rfl, ed, rfl⟩ := Qd
    replace G := G.val qd
    subst ed
    replace G := G.istore 168 #[.val (.int i0), .val (.int i1), .val (.int i2), .val (.int (Int32.ofNat x0)), .val (.int (Int32.ofNat x1)), .val (.int (Int32.ofNat x2)), .val (.int (3 : Int32)), .val (.ref sa), .val (.ref ta), .val (.int (Int32.ofNat N)), .val (.ref q), .val (.ref ra), .val (.int (Int32.ofNat (nd N))), .unset] at_166 rfl rfl
    replace G := G.aload 170 at_168 rfl rfl rfl
    replace G := G.ifnullF 173 at_170 rfl
    replace G := G.aload 175 at_173 rfl rfl rfl
    have hdl := nd_le hN; have hlen : ([bytV (Int32.ofNat x0), bytV (Int32.ofNat x1), bytV (Int32.ofNat x2)] ++ [Value.int 58] ++ digs N).length = 4 + nd N := by simp only [List.length_append, List.length_singleton, digs_len, List.length_cons, List.length_nil]
    obtain ⟨vl, k_6, sol, G', Kl, Ql⟩ := G.callV 178 (hw _ (List.mem_of_getElem? (i := 214) rfl)) (hw _ (List.mem_of_getElem? (i := 110) rfl)) (nfSel (hw _ (List.mem_of_getElem? (i := 112) rfl))) (hw _ (List.mem_of_getElem? (i := 112) rfl)) (hw _ (List.mem_of_getElem? (i := 111) rfl)) (hw _ (List.mem_of_getElem? (i := 2) rfl)) (hw _ (List.mem_of_getElem? (i := 113) rfl)) hR.1 (by decide) [] [] rfl (c_length l Z a0 hw hEW n0 c1 hc1 S1 v2 hv2 S2 ra rb ([bytV (Int32.ofNat x0), bytV (Int32.ofNat x1), bytV (Int32.ofNat x2)] ++ [Value.int 58] ++ digs N) G.old hR) (lenOf pd___I rfl) at_175 rfl (Nat.le_of_ble_eq_true rfl) (Nat.le_of_ble_eq_true rfl) (Nat.le_of_ble_eq_true rfl) (Nat.le_of_ble_eq_true rfl) all0 all0 all0 rfl
    clear G; have G := G'; clear G'
    obtain ⟨wl, ql, rfl, el, rfl⟩ := Ql
    replace G := G.val ql
    subst el
    replace G := G.top (y := (.int (Int32.ofNat (4 + nd N)))) (by rw [hlen])
    replace G := G.iload 180 at_178 rfl rfl
    replace G := G.iconst 181 (1 : Int32) at_180 rfl rfl
    replace G := G.iadd 182 at_181 rfl
    replace G := G.top (y := (.int (4 : Int32))) (by decide)
    replace G := G.iload 184 at_182 rfl rfl
    replace G := G.iadd 185 at_184 rfl
    replace G := G.top (y := (.int (Int32.ofNat (4 + nd N)))) (congrArg Value.int (ofn_add 4 _))
    replace G := G.icmpT 190 at_185 (XT.ii_eq_t rfl) (by decide) (by decide)
    replace G := G.aload 192 at_190 rfl rfl rfl
    replace G := G.iconst 193 (0 : Int32) at_192 rfl rfl
    obtain ⟨vc0, k_c, soc0, G', Kc0, Qc0⟩ := G.callV 196 (hw _ (List.mem_of_getElem? (i := 215) rfl)) (hw _ (List.mem_of_getElem? (i := 216) rfl)) (nfSel (hw _ (List.mem_of_getElem? (i := 218) rfl))) (hw _ (List.mem_of_getElem? (i := 218) rfl)) (hw _ (List.mem_of_getElem? (i := 217) rfl)) (hw _ (List.mem_of_getElem? (i := 2) rfl)) (hw _ (List.mem_of_getElem? (i := 219) rfl)) hR.1 (by decide) [(.int (0 : Int32))] [] rfl (c_charAt l Z a0 hw hEW n0 c1 hc1 S1 v2 hv2 S2 ra rb ([bytV (Int32.ofNat x0), bytV (Int32.ofNat x1), bytV (Int32.ofNat x2)] ++ [Value.int 58] ++ digs N) 0 ((Int32.ofNat x0).toInt8.toInt32) G.old (by rw [hlen]; omega) (by rw [hlen]; omega) rfl hR) (lenOf pd__I_C rfl) at_193 rfl (Nat.le_of_ble_eq_true rfl) (Nat.le_of_ble_eq_true rfl) (Nat.le_of_ble_eq_true rfl) (Nat.le_of_ble_eq_true rfl) all0 all0 all0 rfl
    clear G; have G := G'; clear G'
    obtain ⟨wc0, qc0, rfl, ec0, rfl⟩ := Qc0
    replace G := G.val qc0
    subst ec0
    replace G := G.iloadN 197 at_196 rfl rfl
    replace G := G.icmpT 202 at_197 (XT.ii_eq_t (bm hx0)) (by decide) (by decide)
    replace G := G.iload 204 at_202 rfl rfl
    replace G := G.iconst 205 (2 : Int32) at_204 rfl rfl
    replace G := G.icmpF 208 at_205 (XT.ii_lt_f (by decide)) rfl
    replace G := G.aload 210 at_208 rfl rfl rfl
    replace G := G.iconst 211 (1 : Int32) at_210 rfl rfl
    obtain ⟨vc1, k_c, soc1, G', Kc1, Qc1⟩ := G.callV 214 (hw _ (List.mem_of_getElem? (i := 215) rfl)) (hw _ (List.mem_of_getElem? (i := 216) rfl)) (nfSel (hw _ (List.mem_of_getElem? (i := 218) rfl))) (hw _ (List.mem_of_getElem? (i := 218) rfl)) (hw _ (List.mem_of_getElem? (i := 217) rfl)) (hw _ (List.mem_of_getElem? (i := 2) rfl)) (hw _ (List.mem_of_getElem? (i := 219) rfl)) hR.1 (by decide) [(.int (1 : Int32))] [] rfl (c_charAt l Z a0 hw hEW n0 c1 hc1 S1 v2 hv2 S2 ra rb ([bytV (Int32.ofNat x0), bytV (Int32.ofNat x1), bytV (Int32.ofNat x2)] ++ [Value.int 58] ++ digs N) 1 ((Int32.ofNat x1).toInt8.toInt32) G.old (by rw [hlen]; omega) (by rw [hlen]; omega) rfl hR) (lenOf pd__I_C rfl) at_211 rfl (Nat.le_of_ble_eq_true rfl) (Nat.le_of_ble_eq_true rfl) (Nat.le_of_ble_eq_true rfl) (Nat.le_of_ble_eq_true rfl) all0 all0 all0 rfl
    clear G; have G := G'; clear G'
    obtain ⟨wc1, qc1, rfl, ec1, rfl⟩ := Qc1
    replace G := G.val qc1
    subst ec1
    replace G := G.iload 216 at_214 rfl rfl
    replace G := G.icmpT 221 at_216 (XT.ii_eq_t (bm hx1)) (by decide) (by decide)
    replace G := G.iload 223 at_221 rfl rfl
    replace G := G.iconst 224 (3 : Int32) at_223 rfl rfl
    replace G := G.icmpF 227 at_224 (XT.ii_lt_f (by decide)) rfl
    replace G := G.aload 229 at_227 rfl rfl rfl
    replace G := G.iconst 230 (2 : Int32) at_229 rfl rfl
    obtain ⟨vc2, k_c, soc2, G', Kc2, Qc2⟩ := G.callV 233 (hw _ (List.mem_of_getElem? (i := 215) rfl)) (hw _ (List.mem_of_getElem? (i := 216) rfl)) (nfSel (hw _ (List.mem_of_getElem? (i := 218) rfl))) (hw _ (List.mem_of_getElem? (i := 218) rfl)) (hw _ (List.mem_of_getElem? (i := 217) rfl)) (hw _ (List.mem_of_getElem? (i := 2) rfl)) (hw _ (List.mem_of_getElem? (i := 219) rfl)) hR.1 (by decide) [(.int (2 : Int32))] [] rfl (c_charAt l Z a0 hw hEW n0 c1 hc1 S1 v2 hv2 S2 ra rb ([bytV (Int32.ofNat x0), bytV (Int32.ofNat x1), bytV (Int32.ofNat x2)] ++ [Value.int 58] ++ digs N) 2 ((Int32.ofNat x2).toInt8.toInt32) G.old (by rw [hlen]; omega) (by rw [hlen]; omega) rfl hR) (lenOf pd__I_C rfl) at_230 rfl (Nat.le_of_ble_eq_true rfl) (Nat.le_of_ble_eq_true rfl) (Nat.le_of_ble_eq_true rfl) (Nat.le_of_ble_eq_true rfl) all0 all0 all0 rfl
    clear G; have G := G'; clear G'
    obtain ⟨wc2, qc2, rfl, ec2, rfl⟩ := Qc2
    replace G := G.val qc2
    subst ec2
    replace G := G.iload 235 at_233 rfl rfl
    replace G := G.icmpT 240 at_235 (XT.ii_eq_t (bm hx2)) (by decide) (by decide)
    replace G := G.aload 242 at_240 rfl rfl rfl
    replace G := G.iload 244 at_242 rfl rfl
    obtain ⟨vc3, k_c, soc3, G', Kc3, Qc3⟩ := G.callV 247 (hw _ (List.mem_of_getElem? (i := 215) rfl)) (hw _ (List.mem_of_getElem? (i := 216) rfl)) (nfSel (hw _ (List.mem_of_getElem? (i := 218) rfl))) (hw _ (List.mem_of_getElem? (i := 218) rfl)) (hw _ (List.mem_of_getElem? (i := 217) rfl)) (hw _ (List.mem_of_getElem? (i := 2) rfl)) (hw _ (List.mem_of_getElem? (i := 219) rfl)) hR.1 (by decide) [(.int (3 : Int32))] [] rfl (c_charAt l Z a0 hw hEW n0 c1 hc1 S1 v2 hv2 S2 ra rb ([bytV (Int32.ofNat x0), bytV (Int32.ofNat x1), bytV (Int32.ofNat x2)] ++ [Value.int 58] ++ digs N) 3 (58) G.old (by rw [hlen]; omega) (by rw [hlen]; omega) rfl hR) (lenOf pd__I_C rfl) at_244 rfl (Nat.le_of_ble_eq_true rfl) (Nat.le_of_ble_eq_true rfl) (Nat.le_of_ble_eq_true rfl) (Nat.le_of_ble_eq_true rfl) all0 all0 all0 rfl
    clear G; have G := G'; clear G'
    obtain ⟨wc3, qc3, rfl, ec3, rfl⟩ := Qc3
    replace G := G.val qc3
    subst ec3
    replace G := G.bipush 249 (58 : Int32) at_247 (by decide) rfl
    replace G := G.icmpT 254 at_249 (XT.ii_eq_t (by decide)) (by decide) (by decide)
    replace G := G.iload 256 at_254 rfl rfl
    replace G := G.iconst 257 (1 : Int32) at_256 rfl rfl
    replace G := G.iadd 258 at_257 rfl
    replace G := G.top (y := (.int (4 : Int32))) (by decide)
    have hv : ∀ k, k < nd N → ([bytV (Int32.ofNat x0), bytV (Int32.ofNat x1), bytV (Int32.ofNat x2)] ++ [Value.int 58] ++ digs N).getD (4 + k) (.int 0) = .int (Int32.ofNat (48 + N / 10 ^ (nd N - 1 - k) % 10)) := fun k hk => (getD_off (pre := [bytV (Int32.ofNat x0), bytV (Int32.ofNat x1), bytV (Int32.ofNat x2)] ++ [Value.int 58]) (n := 4) rfl k).trans (digs_at hk)
    replace G := G.istore 260 #[.val (.int i0), .val (.int i1), .val (.int i2), .val (.int (Int32.ofNat x0)), .val (.int (Int32.ofNat x1)), .val (.int (Int32.ofNat x2)), .val (.int (3 : Int32)), .val (.ref sa), .val (.ref ta), .val (.int (Int32.ofNat N)), .val (.ref q), .val (.ref ra), .val (.int (Int32.ofNat (nd N))), .val (.int (4 : Int32))] at_258 rfl rfl
    replace G := G.aload 262 at_260 rfl rfl rfl
    replace G := G.iload 264 at_262 rfl rfl
    replace G := G.iload 266 at_264 rfl rfl
    replace G := G.iload 268 at_266 rfl rfl
    replace G := G.iconst 269 (0 : Int32) at_268 rfl rfl
    obtain ⟨vo0, k_d, soo0, G', Ko0, Qo0⟩ := G.callS 272 (hw _ (List.mem_of_getElem? (i := 236) rfl)) (hw _ (List.mem_of_getElem? (i := 237) rfl)) (hw _ (List.mem_of_getElem? (i := 212) rfl)) (hw _ (List.mem_of_getElem? (i := 238) rfl)) (by decide) [(.ref ra), (.int (4 : Int32)), (.int (Int32.ofNat N)), (.int (Int32.ofNat (nd N))), (.int (0 : Int32))] [] rfl (c_digOk l Z a0 hw hEW n0 c1 hc1 S1 v2 hv2 S2 t1 t2 kt1 kt2 SD1 SD2 AD1 AD2 ra rb ([bytV (Int32.ofNat x0), bytV (Int32.ofNat x1), bytV (Int32.ofNat x2)] ++ [Value.int 58] ++ digs N) 4 N 0 G.old hN (by decide) hlen.symm (by rw [hlen]; omega) hv hR) (lenOf pd__Ljava_lang_String_IIII_Z rfl) at_269 rfl (Nat.le_of_ble_eq_true rfl) (Nat.le_of_ble_eq_true rfl) (Nat.le_of_ble_eq_true rfl) (Nat.le_of_ble_eq_true rfl) all0 all0 all0 rfl
    clear G; have G := G'; clear G'
    obtain ⟨wo0, qo0, rfl, eo0, rfl⟩ := Qo0
    replace G := G.val qo0
    subst eo0
    replace G := G.ifF 275 at_272 (XT.i0_eq_f (by decide)) rfl
    replace G := G.aload 277 at_275 rfl rfl rfl
    replace G := G.iload 279 at_277 rfl rfl
    replace G := G.iload 281 at_279 rfl rfl
    replace G := G.iload 283 at_281 rfl rfl
    replace G := G.iconst 284 (1 : Int32) at_283 rfl rfl
    obtain ⟨vo1, k_d, soo1, G', Ko1, Qo1⟩ := G.callS 287 (hw _ (List.mem_of_getElem? (i := 236) rfl)) (hw _ (List.mem_of_getElem? (i := 237) rfl)) (hw _ (List.mem_of_getElem? (i := 212) rfl)) (hw _ (List.mem_of_getElem? (i := 238) rfl)) (by decide) [(.ref ra), (.int (4 : Int32)), (.int (Int32.ofNat N)), (.int (Int32.ofNat (nd N))), (.int (1 : Int32))] [] rfl (c_digOk l Z a0 hw hEW n0 c1 hc1 S1 v2 hv2 S2 t1 t2 kt1 kt2 SD1 SD2 AD1 AD2 ra rb ([bytV (Int32.ofNat x0), bytV (Int32.ofNat x1), bytV (Int32.ofNat x2)] ++ [Value.int 58] ++ digs N) 4 N 1 G.old hN (by decide) hlen.symm (by rw [hlen]; omega) hv hR) (lenOf pd__Ljava_lang_String_IIII_Z rfl) at_284 rfl (Nat.le_of_ble_eq_true rfl) (Nat.le_of_ble_eq_true rfl) (Nat.le_of_ble_eq_true rfl) (Nat.le_of_ble_eq_true rfl) all0 all0 all0 rfl
    clear G; have G := G'; clear G'
    obtain ⟨wo1, qo1, rfl, eo1, rfl⟩ := Qo1
    replace G := G.val qo1
    subst eo1
    replace G := G.ifF 290 at_287 (XT.i0_eq_f (by decide)) rfl
    replace G := G.aload 292 at_290 rfl rfl rfl
    replace G := G.iload 294 at_292 rfl rfl
    replace G := G.iload 296 at_294 rfl rfl
    replace G := G.iload 298 at_296 rfl rfl
    replace G := G.iconst 299 (2 : Int32) at_298 rfl rfl
    obtain ⟨vo2, k_d, soo2, G', Ko2, Qo2⟩ := G.callS 302 (hw _ (List.mem_of_getElem? (i := 236) rfl)) (hw _ (List.mem_of_getElem? (i := 237) rfl)) (hw _ (List.mem_of_getElem? (i := 212) rfl)) (hw _ (List.mem_of_getElem? (i := 238) rfl)) (by decide) [(.ref ra), (.int (4 : Int32)), (.int (Int32.ofNat N)), (.int (Int32.ofNat (nd N))), (.int (2 : Int32))] [] rfl (c_digOk l Z a0 hw hEW n0 c1 hc1 S1 v2 hv2 S2 t1 t2 kt1 kt2 SD1 SD2 AD1 AD2 ra rb ([bytV (Int32.ofNat x0), bytV (Int32.ofNat x1), bytV (Int32.ofNat x2)] ++ [Value.int 58] ++ digs N) 4 N 2 G.old hN (by decide) hlen.symm (by rw [hlen]; omega) hv hR) (lenOf pd__Ljava_lang_String_IIII_Z rfl) at_299 rfl (Nat.le_of_ble_eq_true rfl) (Nat.le_of_ble_eq_true rfl) (Nat.le_of_ble_eq_true rfl) (Nat.le_of_ble_eq_true rfl) all0 all0 all0 rfl
    clear G; have G := G'; clear G'
    obtain ⟨wo2, qo2, rfl, eo2, rfl⟩ := Qo2
    replace G := G.val qo2
    subst eo2
    replace G := G.ifF 305 at_302 (XT.i0_eq_f (by decide)) rfl
    replace G := G.aload 307 at_305 rfl rfl rfl
    replace G := G.iload 309 at_307 rfl rfl
    replace G := G.iload 311 at_309 rfl rfl
    replace G := G.iload 313 at_311 rfl rfl
    replace G := G.iconst 314 (3 : Int32) at_313 rfl rfl
    obtain ⟨vo3, k_d, soo3, G', Ko3, Qo3⟩ := G.callS 317 (hw _ (List.mem_of_getElem? (i := 236) rfl)) (hw _ (List.mem_of_getElem? (i := 237) rfl)) (hw _ (List.mem_of_getElem? (i := 212) rfl)) (hw _ (List.mem_of_getElem? (i := 238) rfl)) (by decide) [(.ref ra), (.int (4 : Int32)), (.int (Int32.ofNat N)), (.int (Int32.ofNat (nd N))), (.int (3 : Int32))] [] rfl (c_digOk l Z a0 hw hEW n0 c1 hc1 S1 v2 hv2 S2 t1 t2 kt1 kt2 SD1 SD2 AD1 AD2 ra rb ([bytV (Int32.ofNat x0), bytV (Int32.ofNat x1), bytV (Int32.ofNat x2)] ++ [Value.int 58] ++ digs N) 4 N 3 G.old hN (by decide) hlen.symm (by rw [hlen]; omega) hv hR) (lenOf pd__Ljava_lang_String_IIII_Z rfl) at_314 rfl (Nat.le_of_ble_eq_true rfl) (Nat.le_of_ble_eq_true rfl) (Nat.le_of_ble_eq_true rfl) (Nat.le_of_ble_eq_true rfl) all0 all0 all0 rfl
    clear G; have G := G'; clear G'
    obtain ⟨wo3, qo3, rfl, eo3, rfl⟩ := Qo3
    replace G := G.val qo3
    subst eo3
    replace G := G.ifF 320 at_317 (XT.i0_eq_f (by decide)) rfl
    replace G := G.aload 322 at_320 rfl rfl rfl
    replace G := G.iload 324 at_322 rfl rfl
    replace G := G.iload 326 at_324 rfl rfl
    replace G := G.iload 328 at_326 rfl rfl
    replace G := G.iconst 329 (4 : Int32) at_328 rfl rfl
    obtain ⟨vo4, k_d, soo4, G', Ko4, Qo4⟩ := G.callS 332 (hw _ (List.mem_of_getElem? (i := 236) rfl)) (hw _ (List.mem_of_getElem? (i := 237) rfl)) (hw _ (List.mem_of_getElem? (i := 212) rfl)) (hw _ (List.mem_of_getElem? (i := 238) rfl)) (by decide) [(.ref ra), (.int (4 : Int32)), (.int (Int32.ofNat N)), (.int (Int32.ofNat (nd N))), (.int (4 : Int32))] [] rfl (c_digOk l Z a0 hw hEW n0 c1 hc1 S1 v2 hv2 S2 t1 t2 kt1 kt2 SD1 SD2 AD1 AD2 ra rb ([bytV (Int32.ofNat x0), bytV (Int32.ofNat x1), bytV (Int32.ofNat x2)] ++ [Value.int 58] ++ digs N) 4 N 4 G.old hN (by decide) hlen.symm (by rw [hlen]; omega) hv hR) (lenOf pd__Ljava_lang_String_IIII_Z rfl) at_329 rfl (Nat.le_of_ble_eq_true rfl) (Nat.le_of_ble_eq_true rfl) (Nat.le_of_ble_eq_true rfl) (Nat.le_of_ble_eq_true rfl) all0 all0 all0 rfl
    clear G; have G := G'; clear G'
    obtain ⟨wo4, qo4, rfl, eo4, rfl⟩ := Qo4
    replace G := G.val qo4
    subst eo4
    replace G := G.ifF 335 at_332 (XT.i0_eq_f (by decide)) rfl
    replace G := G.aload 337 at_335 rfl rfl rfl
    replace G := G.iload 339 at_337 rfl rfl
    replace G := G.iload 341 at_339 rfl rfl
    replace G := G.iload 343 at_341 rfl rfl
    replace G := G.iconst 344 (5 : Int32) at_343 rfl rfl
    obtain ⟨vo5, k_d, soo5, G', Ko5, Qo5⟩ := G.callS 347 (hw _ (List.mem_of_getElem? (i := 236) rfl)) (hw _ (List.mem_of_getElem? (i := 237) rfl)) (hw _ (List.mem_of_getElem? (i := 212) rfl)) (hw _ (List.mem_of_getElem? (i := 238) rfl)) (by decide) [(.ref ra), (.int (4 : Int32)), (.int (Int32.ofNat N)), (.int (Int32.ofNat (nd N))), (.int (5 : Int32))] [] rfl (c_digOk l Z a0 hw hEW n0 c1 hc1 S1 v2 hv2 S2 t1 t2 kt1 kt2 SD1 SD2 AD1 AD2 ra rb ([bytV (Int32.ofNat x0), bytV (Int32.ofNat x1), bytV (Int32.ofNat x2)] ++ [Value.int 58] ++ digs N) 4 N 5 G.old hN (by decide) hlen.symm (by rw [hlen]; omega) hv hR) (lenOf pd__Ljava_lang_String_IIII_Z rfl) at_344 rfl (Nat.le_of_ble_eq_true rfl) (Nat.le_of_ble_eq_true rfl) (Nat.le_of_ble_eq_true rfl) (Nat.le_of_ble_eq_true rfl) all0 all0 all0 rfl
    clear G; have G := G'; clear G'
    obtain ⟨wo5, qo5, rfl, eo5, rfl⟩ := Qo5
    replace G := G.val qo5
    subst eo5
    replace G := G.ifF 350 at_347 (XT.i0_eq_f (by decide)) rfl
    replace G := G.aload 352 at_350 rfl rfl rfl
    replace G := G.iload 354 at_352 rfl rfl
    replace G := G.iload 356 at_354 rfl rfl
    replace G := G.iload 358 at_356 rfl rfl
    replace G := G.bipush 360 (6 : Int32) at_358 (by decide) rfl
    obtain ⟨vo6, k_d, soo6, G', Ko6, Qo6⟩ := G.callS 363 (hw _ (List.mem_of_getElem? (i := 236) rfl)) (hw _ (List.mem_of_getElem? (i := 237) rfl)) (hw _ (List.mem_of_getElem? (i := 212) rfl)) (hw _ (List.mem_of_getElem? (i := 238) rfl)) (by decide) [(.ref ra), (.int (4 : Int32)), (.int (Int32.ofNat N)), (.int (Int32.ofNat (nd N))), (.int (6 : Int32))] [] rfl (c_digOk l Z a0 hw hEW n0 c1 hc1 S1 v2 hv2 S2 t1 t2 kt1 kt2 SD1 SD2 AD1 AD2 ra rb ([bytV (Int32.ofNat x0), bytV (Int32.ofNat x1), bytV (Int32.ofNat x2)] ++ [Value.int 58] ++ digs N) 4 N 6 G.old hN (by decide) hlen.symm (by rw [hlen]; omega) hv hR) (lenOf pd__Ljava_lang_String_IIII_Z rfl) at_360 rfl (Nat.le_of_ble_eq_true rfl) (Nat.le_of_ble_eq_true rfl) (Nat.le_of_ble_eq_true rfl) (Nat.le_of_ble_eq_true rfl) all0 all0 all0 rfl
    clear G; have G := G'; clear G'
    obtain ⟨wo6, qo6, rfl, eo6, rfl⟩ := Qo6
    replace G := G.val qo6
    subst eo6
    replace G := G.ifF 366 at_363 (XT.i0_eq_f (by decide)) rfl
    replace G := G.aload 368 at_366 rfl rfl rfl
    replace G := G.iload 370 at_368 rfl rfl
    replace G := G.iload 372 at_370 rfl rfl
    replace G := G.iload 374 at_372 rfl rfl
    replace G := G.bipush 376 (7 : Int32) at_374 (by decide) rfl
    obtain ⟨vo7, k_d, soo7, G', Ko7, Qo7⟩ := G.callS 379 (hw _ (List.mem_of_getElem? (i := 236) rfl)) (hw _ (List.mem_of_getElem? (i := 237) rfl)) (hw _ (List.mem_of_getElem? (i := 212) rfl)) (hw _ (List.mem_of_getElem? (i := 238) rfl)) (by decide) [(.ref ra), (.int (4 : Int32)), (.int (Int32.ofNat N)), (.int (Int32.ofNat (nd N))), (.int (7 : Int32))] [] rfl (c_digOk l Z a0 hw hEW n0 c1 hc1 S1 v2 hv2 S2 t1 t2 kt1 kt2 SD1 SD2 AD1 AD2 ra rb ([bytV (Int32.ofNat x0), bytV (Int32.ofNat x1), bytV (Int32.ofNat x2)] ++ [Value.int 58] ++ digs N) 4 N 7 G.old hN (by decide) hlen.symm (by rw [hlen]; omega) hv hR) (lenOf pd__Ljava_lang_String_IIII_Z rfl) at_376 rfl (Nat.le_of_ble_eq_true rfl) (Nat.le_of_ble_eq_true rfl) (Nat.le_of_ble_eq_true rfl) (Nat.le_of_ble_eq_true rfl) all0 all0 all0 rfl
    clear G; have G := G'; clear G'
    obtain ⟨wo7, qo7, rfl, eo7, rfl⟩ := Qo7
    replace G := G.val qo7
    subst eo7
    replace G := G.ifF 382 at_379 (XT.i0_eq_f (by decide)) rfl
    replace G := G.aload 384 at_382 rfl rfl rfl
    replace G := G.iload 386 at_384 rfl rfl
    replace G := G.iload 388 at_386 rfl rfl
    replace G := G.iload 390 at_388 rfl rfl
    replace G := G.bipush 392 (8 : Int32) at_390 (by decide) rfl
    obtain ⟨vo8, k_d, soo8, G', Ko8, Qo8⟩ := G.callS 395 (hw _ (List.mem_of_getElem? (i := 236) rfl)) (hw _ (List.mem_of_getElem? (i := 237) rfl)) (hw _ (List.mem_of_getElem? (i := 212) rfl)) (hw _ (List.mem_of_getElem? (i := 238) rfl)) (by decide) [(.ref ra), (.int (4 : Int32)), (.int (Int32.ofNat N)), (.int (Int32.ofNat (nd N))), (.int (8 : Int32))] [] rfl (c_digOk l Z a0 hw hEW n0 c1 hc1 S1 v2 hv2 S2 t1 t2 kt1 kt2 SD1 SD2 AD1 AD2 ra rb ([bytV (Int32.ofNat x0), bytV (Int32.ofNat x1), bytV (Int32.ofNat x2)] ++ [Value.int 58] ++ digs N) 4 N 8 G.old hN (by decide) hlen.symm (by rw [hlen]; omega) hv hR) (lenOf pd__Ljava_lang_String_IIII_Z rfl) at_392 rfl (Nat.le_of_ble_eq_true rfl) (Nat.le_of_ble_eq_true rfl) (Nat.le_of_ble_eq_true rfl) (Nat.le_of_ble_eq_true rfl) all0 all0 all0 rfl
    clear G; have G := G'; clear G'
    obtain ⟨wo8, qo8, rfl, eo8, rfl⟩ := Qo8
    replace G := G.val qo8
    subst eo8
    replace G := G.ifF 398 at_395 (XT.i0_eq_f (by decide)) rfl
    replace G := G.aload 400 at_398 rfl rfl rfl
    replace G := G.iload 402 at_400 rfl rfl
    replace G := G.iload 404 at_402 rfl rfl
    replace G := G.iload 406 at_404 rfl rfl
    replace G := G.bipush 408 (9 : Int32) at_406 (by decide) rfl
    obtain ⟨vo9, k_d, soo9, G', Ko9, Qo9⟩ := G.callS 411 (hw _ (List.mem_of_getElem? (i := 236) rfl)) (hw _ (List.mem_of_getElem? (i := 237) rfl)) (hw _ (List.mem_of_getElem? (i := 212) rfl)) (hw _ (List.mem_of_getElem? (i := 238) rfl)) (by decide) [(.ref ra), (.int (4 : Int32)), (.int (Int32.ofNat N)), (.int (Int32.ofNat (nd N))), (.int (9 : Int32))] [] rfl (c_digOk l Z a0 hw hEW n0 c1 hc1 S1 v2 hv2 S2 t1 t2 kt1 kt2 SD1 SD2 AD1 AD2 ra rb ([bytV (Int32.ofNat x0), bytV (Int32.ofNat x1), bytV (Int32.ofNat x2)] ++ [Value.int 58] ++ digs N) 4 N 9 G.old hN (by decide) hlen.symm (by rw [hlen]; omega) hv hR) (lenOf pd__Ljava_lang_String_IIII_Z rfl) at_408 rfl (Nat.le_of_ble_eq_true rfl) (Nat.le_of_ble_eq_true rfl) (Nat.le_of_ble_eq_true rfl) (Nat.le_of_ble_eq_true rfl) all0 all0 all0 rfl
    clear G; have G := G'; clear G'
    obtain ⟨wo9, qo9, rfl, eo9, rfl⟩ := Qo9
    replace G := G.val qo9
    subst eo9
    replace G := G.ifF 414 at_411 (XT.i0_eq_f (by decide)) rfl
    replace G := G.iconst 415 (1 : Int32) at_414 rfl rfl
    replace G := G.goto 419 at_415 (by decide) (by decide)
    exact G.retN hret (Or.inl rfl) hlk at_419 [] all0 ⟨_, rfl, rfl, rfl⟩ (Nat.le_of_ble_eq_true rfl) (Nat.le_of_ble_eq_true rfl)
set_option maxRecDepth 65536 in
set_option maxHeartbeats 40000000 in
theorem comes_1 {Post : Tables → Env → Array Value → State → Outcome → State → Prop} (hpost : ∀ tb e args s v u, (limb_1_1.after args s (.returned v) u = true ∧ limb_1_2.after args s (.returned v) u = true ∧ True) → FramedW s (.returned v) u (Jvm.fieldLocs frame_1_writes args s ++ Jvm.arrayLocs frame_1_arrays args s ++ Jvm.staticLocs frame_1_statics s) 40 3264 → Post tb e args s (.returned v) u) :
    ArmFor flags0 classFile x code maxLocals ret World_1 tables_1 room_1 Calls_1 rest_1 Pre_1 Post := by
  intro l hfl _ _ p e ha hc hk s m args below hf hA hF happ hP
  obtain ⟨hcalls, hrest, hpre⟩ := hP
  obtain ⟨-, -, -, hnamed, -, -, -, hat⟩ := (Spec.applies_iff hf).mp happ
  obtain ⟨hg, hn⟩ := and_e (Cond.before_iff.mp (show (Jvm.Cond.and given_1 narrow_1).before args s = true from hpre))
  obtain ⟨hcnt, g0⟩ := and_e hg
  obtain ⟨a0, g1⟩ := and_e g0
  obtain ⟨a1, g2⟩ := and_e g1
  have a2 := g2
  obtain ⟨w0, w1, w2, rfl⟩ : ∃ w0 w1 w2 : Value, args = #[w0, w1, w2] := by
    have hs : args.size = 3 := by simpa [Cond.value, given_1] using hcnt
    obtain ⟨L⟩ := args
    match L, hs with
    | [w0, w1, w2], _ => exact ⟨w0, w1, w2, rfl⟩
  have hw := fun d (hd : d ∈ tables_1) => atoms_spec (ws := Jvm.Cond.code x code maxLocals ret :: tables_1) hat d (List.mem_cons_of_mem _ hd)
  obtain ⟨hsets, hown0⟩ := atoms_of _ (rest_1_c_eq ▸ (show rest_1_c.before _ s = true from hrest))
  have hfit : Fit s := fun {y c} hc i hi => by
    obtain ⟨ha, rfl⟩ := Array.getElem?_eq_some_iff.mp hc
    have q := List.all_eq_true.mp ((Array.all_eq_true_iff_forall_mem.mp hF) _ (Array.getElem_mem ha)) i (List.mem_range.mpr hi)
    simpa [Array.getElem?_eq_getElem hi] using q
  obtain ⟨i0, e0⟩ := is_v a0
  obtain rfl : w0 = (.int i0) := Option.some.inj e0
  obtain ⟨i1, e1⟩ := is_v a1
  obtain rfl : w1 = (.int i1) := Option.some.inj e1
  obtain ⟨i2, e2⟩ := is_v a2
  obtain rfl : w2 = (.int i2) := Option.some.inj e2
  have hcompact : Jvm.Lit.compactW.before _ s = true := (hsets _ (List.mem_of_getElem? (i := 2) rfl))
  obtain ⟨c1, ec1⟩ := is_v (Cond.before_iff.mp (hsets _ (List.mem_of_getElem? (i := 1) rfl)))
  have S1 : Sta s s.heap "java/lang/String" "COMPACT_STRINGS" "Z" (.int c1) := Sta.start ec1 (Or.inl (hsets _ (List.mem_of_getElem? (i := 0) rfl)))
  have hc1 : ¬ (c1 = (0 : Int32)) := gotF (Cond.eq_ints ec1 (Term.int_eval (0))) (not_v (Cond.before_iff.mp hcompact))
  obtain ⟨v2, ev2, hv2⟩ := isR_v (Cond.before_iff.mp (hsets _ (List.mem_of_getElem? (i := 8) rfl)))
  have S2 : Sta s s.heap "jdk/internal/util/Preconditions" "SIOOBE_FORMATTER" "Ljava/util/function/BiFunction;" v2 := Sta.start ev2 (Or.inl (hsets _ (List.mem_of_getElem? (i := 7) rfl)))
  obtain ⟨t1, kt1, SD1, AD1⟩ := arv100 (vs := dOnes) (hsets _ (List.mem_of_getElem? (i := 11) rfl)) (hsets _ (List.mem_of_getElem? (i := 12) rfl)) (hsets _ (List.mem_of_getElem? (i := 13) rfl)) (hsets _ (List.mem_of_getElem? (i := 14) rfl)) (hw _ (List.mem_of_getElem? (i := 19) rfl)) (fun j hj => ⟨_, rfl, by rw [dOnes_at hj]; exact congrArg Value.int (ones_eq ⟨j, hj⟩).1.symm, by rw [(ones_eq ⟨j, hj⟩).1]; exact (ones_eq ⟨j, hj⟩).2⟩)
  obtain ⟨t2, kt2, SD2, AD2⟩ := arv100 (vs := dTens) (hsets _ (List.mem_of_getElem? (i := 16) rfl)) (hsets _ (List.mem_of_getElem? (i := 17) rfl)) (hsets _ (List.mem_of_getElem? (i := 18) rfl)) (hsets _ (List.mem_of_getElem? (i := 19) rfl)) (hw _ (List.mem_of_getElem? (i := 19) rfl)) (fun j hj => ⟨_, rfl, by rw [dTens_at hj]; exact congrArg Value.int (tens_eq ⟨j, hj⟩).1.symm, by rw [(tens_eq ⟨j, hj⟩).1]; exact (tens_eq ⟨j, hj⟩).2⟩)
  have hEW : EW s _ consts_1 := (EW.cons (hw _ (List.mem_of_getElem? (i := 57) rfl)) (by decide) (EW.cons (hw _ (List.mem_of_getElem? (i := 64) rfl)) (by decide) (EW.cons (hw _ (List.mem_of_getElem? (i := 146) rfl)) (by decide) EW.nil)))
  have hCH : CHv s consts_1 s.vm s.heap := CHv.start hEW (show ∀ p ∈ consts_1, Jvm.Lit.constHeld s p.1 p.2 from hcalls.1) hcompact (hw _ (List.mem_of_getElem? (i := 19) rfl)) (hw _ (List.mem_of_getElem? (i := 1) rfl))
  obtain ⟨n, o, h1, h2, h3, _, L, rfl, ⟨so, N, -, ⟨w, rfl, rfl, -⟩, -, -⟩, hq⟩ := c_law l s _ hw hEW s.heap.size c1 hc1 S1 v2 hv2 S2 t1 t2 kt1 kt2 SD1 SD2 AD1 AD2 tables_1 i0 i1 i2 (Old.start s) p e ha hc hk s m _ below hf ((Spec.applies_iff_loose hf).mp happ).1 ⟨rfl, State.Warmed39.refl s, rfl, hCH, fun _ q => nomatch q⟩ trivial
  refine ⟨n, _, h1, h2, h3, hpost _ _ _ _ _ _ ⟨Cond.after_iff.mpr rfl, Cond.after_iff.mpr (eq_i res_at (Term.int_eval (1)) rfl), trivial⟩ ⟨hq.1, hq.2.1, hq.2.2.1, (hq.2.2.2.sift fun y hy => Or.inr (N y hy)).mono (by decide) (by decide)⟩⟩
theorem main_1_1 : Claimed_1_1 := comes_1 fun _ _ _ _ _ _ h hF => ⟨h.1, hF⟩
theorem main_1_2 : Claimed_1_2 := comes_1 fun _ _ _ _ _ _ h hF => ⟨h.2.1, hF⟩
end Jvm.Pilot.@@N@@
namespace Jvm.Pilot.@@N@@
open Jvm Jvm.ClassFile Sem Op Lib Jvm.Free Jvm.Stand Jvm.Pilot.@@N@@.Jvm.D
/-! MADE BY PROGRAM (witnessworld.py) out of the Statement's table words and the real class files: 30 classes; the members and pool entries that the words name. The judged class is class 1, her method 1. -/
namespace start1
open Jvm.ClassFile
def u (s : String) : CpInfo := .utf8 (stringToUtf16 s)
/-- a pool by its gaps: so many unusable entries, then the entry; so many at the end -/
def gap : Nat → List CpInfo → List CpInfo
  | 0, r => r
  | n + 1, r => .unusable :: gap n r
def poolList (es : List (Nat × CpInfo)) (last : Nat) : List CpInfo := es.foldr (fun e r => gap e.1 (e.2 :: r)) (gap last [])
def pool (es : List (Nat × CpInfo)) (last : Nat) : Array CpInfo := ⟨poolList es last⟩
def fileOf (pool : Array CpInfo) (this : Nat) (attrs : Array Attribute := #[]) (ms : Array MethodInfo := #[]) (fl : Nat := 33) (sup : Nat := 0) (ifs : Array Nat := #[]) (fds : Array FieldInfo := #[]) : ClassFile where
  minorVersion := 0
  majorVersion := 65
  constantPool := pool
  accessFlags := fl
  thisClass := this
  superClass := sup
  interfaces := ifs
  fields := fds
  methods := ms
  attributes := attrs
def plain (name : String) (sup : Option ClassId) : Class where
  name := name
  kind := .ordinary
  loader := none
  accessFlags := 33
  super := sup
  interfaces := #[]
  cf := none
  fields := #[]
  methods := #[]
  instanceTypes := #[]
  staticTypes := #[]
  resolved := #[]
  callSites := []
  init := .initialized
  statics := none
  mirror := none

def pool0 : Array CpInfo := pool [(5, u "<init>"), (0, u "()V"), (1, .class_ 10), (1, u "java/lang/Object")] 113

def k0c0 : Code := { maxStack := 0, maxLocals := 1, code := object_method_1_code, exceptionTable := #[], attributes := #[] }
def k0m0 : Method := { name := "<init>", desc := "()V", sig := { parameters := [], returnType := none }, accessFlags := 1, code := some k0c0 }
/-- java/lang/Object -/
def k0 : Class := { plain "java/lang/Object" none with
  accessFlags := 33
  interfaces := #[]
  cf := some (fileOf pool0 8 #[] #[{ accessFlags := 1, nameIndex := 5, descriptorIndex := 6, attributes := #[] }] 33 0 #[] #[])
  fields := #[]
  methods := #[k0m0]
  instanceTypes := #[]
  staticTypes := #[]
  resolved := Array.replicate 124 none
  statics := none }

def pool1 : Array CpInfo := pool [(2, .class_ 4), (1, u "java/lang/Object"), (0, u "<init>"), (0, u "()V"), (0, .class_ 8), (0, u "java/lang/String"), (0, .methodref 7 10), (0, .nameAndType 5 11), (0, u "([C)V"), (0, .methodref 7 13), (0, .nameAndType 14 15), (0, u "valueOf"), (0, u "(C)Ljava/lang/String;"), (0, .integer 2147483647), (0, .class_ 18), (0, u "com/example/rebalance/rebalance/MessageQueue"), (0, .methodref 17 20), (0, .nameAndType 5 21), (0, u "(Ljava/lang/String;Ljava/lang/String;I)V"), (0, .methodref 17 23), (0, .nameAndType 24 25), (0, u "toString"), (0, u "()Ljava/lang/String;"), (0, .methodref 27 28), (0, .class_ 29), (0, .nameAndType 30 31), (0, u "com/example/rebalance/rebalance/MessageQueueToStringPinLaw"), (0, u "digits"), (0, u "(I)I"), (0, .methodref 7 33), (0, .nameAndType 34 35), (0, u "length"), (0, u "()I"), (0, .methodref 7 37), (0, .nameAndType 38 39), (0, u "charAt"), (0, u "(I)C"), (0, .methodref 27 41), (0, .nameAndType 42 43), (0, u "digitOk"), (0, u "(Ljava/lang/String;IIII)Z"), (0, .methodref 27 45), (0, .nameAndType 46 31), (0, u "pow10"), (0, .integer 100000), (0, .integer 1000000), (0, .integer 10000000), (0, .integer 100000000), (0, .integer 1000000000), (2, u "law"), (0, u "(III)Z")] 3

def k1m0 : Method := { name := "<init>", desc := "()V", sig := { parameters := [], returnType := none }, accessFlags := 1, code := none }
def k1c1 : Code := { maxStack := 6, maxLocals := 14, code := code, exceptionTable := #[], attributes := #[] }
def k1m1 : Method := { name := "law", desc := "(III)Z", sig := { parameters := [.int, .int, .int], returnType := some .boolean }, accessFlags := 9, code := some k1c1 }
def k1c2 : Code := { maxStack := 3, maxLocals := 7, code := method_3_code, exceptionTable := #[], attributes := #[] }
def k1m2 : Method := { name := "digitOk", desc := "(Ljava/lang/String;IIII)Z", sig := { parameters := [(.object "java/lang/String"), .int, .int, .int, .int], returnType := some .boolean }, accessFlags := 10, code := some k1c2 }
def k1c3 : Code := { maxStack := 2, maxLocals := 1, code := method_4_code, exceptionTable := #[], attributes := #[] }
def k1m3 : Method := { name := "pow10", desc := "(I)I", sig := { parameters := [.int], returnType := some .int }, accessFlags := 10, code := some k1c3 }
def k1c4 : Code := { maxStack := 2, maxLocals := 1, code := method_5_code, exceptionTable := #[], attributes := #[] }
def k1m4 : Method := { name := "digits", desc := "(I)I", sig := { parameters := [.int], returnType := some .int }, accessFlags := 10, code := some k1c4 }
/-- com/example/rebalance/rebalance/MessageQueueToStringPinLaw -/
def k1 : Class := { plain "com/example/rebalance/rebalance/MessageQueueToStringPinLaw" (some 0) with
  accessFlags := 49
  interfaces := #[]
  cf := some (fileOf pool1 27 #[] #[{ accessFlags := 1, nameIndex := 5, descriptorIndex := 6, attributes := #[] }, { accessFlags := 9, nameIndex := 54, descriptorIndex := 55, attributes := #[] }, { accessFlags := 10, nameIndex := 42, descriptorIndex := 43, attributes := #[] }, { accessFlags := 10, nameIndex := 46, descriptorIndex := 31, attributes := #[] }, { accessFlags := 10, nameIndex := 30, descriptorIndex := 31, attributes := #[] }] 49 2 #[] #[])
  fields := #[]
  methods := #[k1m0, k1m1, k1m2, k1m3, k1m4]
  instanceTypes := #[]
  staticTypes := #[]
  resolved := Array.replicate 59 none
  statics := none }

def pool2 : Array CpInfo := pool [(1, .class_ 2), (0, u "java/io/Serializable"), (0, .class_ 4), (0, u "java/lang/Object")] 2

/-- java/io/Serializable -/
def k2 : Class := { plain "java/io/Serializable" (some 0) with
  accessFlags := 1537
  interfaces := #[]
  cf := some (fileOf pool2 1 #[] #[] 1537 3 #[] #[])
  fields := #[]
  methods := #[]
  instanceTypes := #[]
  staticTypes := #[]
  resolved := Array.replicate 7 none
  statics := none }

def pool3 : Array CpInfo := pool [(1, .class_ 2), (0, u "java/lang/Comparable"), (0, .class_ 4), (0, u "java/lang/Object")] 7

/-- java/lang/Comparable -/
def k3 : Class := { plain "java/lang/Comparable" (some 0) with
  accessFlags := 1537
  interfaces := #[]
  cf := some (fileOf pool3 1 #[] #[] 1537 3 #[] #[])
  fields := #[]
  methods := #[]
  instanceTypes := #[]
  staticTypes := #[]
  resolved := Array.replicate 12 none
  statics := none }

def pool4 : Array CpInfo := pool [(2, .class_ 4), (1, u "java/lang/CharSequence"), (42, .class_ 48), (0, u "java/lang/CharSequence$1CodePointIterator"), (10, .class_ 60), (0, u "java/lang/CharSequence$1CharIterator"), (5, .class_ 67), (0, u "java/lang/Object")] 63

/-- java/lang/CharSequence -/
def k4 : Class := { plain "java/lang/CharSequence" (some 0) with
  accessFlags := 1537
  interfaces := #[]
  cf := some (fileOf pool4 2 #[.nestMembers #[47, 59]] #[] 1537 66 #[] #[])
  fields := #[]
  methods := #[]
  instanceTypes := #[]
  staticTypes := #[]
  resolved := Array.replicate 131 none
  statics := none }

def pool5 : Array CpInfo := pool [(1, .class_ 2), (0, u "java/lang/constant/Constable"), (0, .class_ 4), (0, u "java/lang/Object")] 6

/-- java/lang/constant/Constable -/
def k5 : Class := { plain "java/lang/constant/Constable" (some 0) with
  accessFlags := 1537
  interfaces := #[]
  cf := some (fileOf pool5 1 #[] #[] 1537 3 #[] #[])
  fields := #[]
  methods := #[]
  instanceTypes := #[]
  staticTypes := #[]
  resolved := Array.replicate 11 none
  statics := none }

def pool6 : Array CpInfo := pool [(1, .class_ 2), (0, u "java/lang/constant/ConstantDesc"), (0, .class_ 4), (0, u "java/lang/Object")] 32

/-- java/lang/constant/ConstantDesc -/
def k6 : Class := { plain "java/lang/constant/ConstantDesc" (some 0) with
  accessFlags := 1537
  interfaces := #[]
  cf := some (fileOf pool6 1 #[] #[] 1537 3 #[] #[])
  fields := #[]
  methods := #[]
  instanceTypes := #[]
  staticTypes := #[]
  resolved := Array.replicate 37 none
  statics := none }

def pool7 : Array CpInfo := pool [(1, .methodref 2 3), (0, .class_ 4), (0, .nameAndType 5 6), (0, u "java/lang/Object"), (0, u "<init>"), (0, u "()V"), (2, .fieldref 10 11), (0, .class_ 12), (0, .nameAndType 13 14), (0, u "java/lang/String"), (0, u "value"), (0, u "[B"), (0, .fieldref 10 16), (0, .nameAndType 17 18), (0, u "coder"), (0, u "B"), (2, u "hash"), (0, u "I"), (2, u "hashIsZero"), (0, u "Z"), (0, .methodref 10 28), (0, .nameAndType 5 29), (0, u "([CIILjava/lang/Void;)V"), (8, .fieldref 10 39), (0, .nameAndType 40 26), (0, u "COMPACT_STRINGS"), (1, .class_ 44), (1, u "java/lang/StringUTF16"), (0, u "compress"), (1, .methodref 42 48), (0, .nameAndType 49 50), (0, u "coderFromArrayLen"), (0, u "([BI)B"), (2, u "toBytes"), (0, .methodref 55 56), (0, .class_ 57), (0, .nameAndType 58 59), (0, u "java/util/Arrays"), (0, u "copyOfRange"), (0, u "([BII)[B"), (47, .class_ 109), (1, u "java/lang/StringLatin1"), (32, u "()Z"), (34, .methodref 42 178), (0, .nameAndType 45 179), (0, u "([CII)[B"), (13, .class_ 195), (1, u "java/lang/System"), (13, .methodref 10 210), (0, .nameAndType 5 211), (0, u "([BB)V"), (0, .methodref 193 213), (0, .nameAndType 214 215), (0, u "arraycopy"), (0, u "(Ljava/lang/Object;ILjava/lang/Object;II)V"), (118, u "()I"), (0, .methodref 10 336), (0, .nameAndType 17 337), (0, u "()B"), (2, u "()[B"), (22, u "([BI)C"), (5, u "(C)Z"), (21, u "(II)V"), (35, u "(I)C"), (61, .methodref 10 490), (0, .nameAndType 5 491), (0, u "(Ljava/lang/AbstractStringBuilder;Ljava/lang/Void;)V"), (0, .methodref 10 493), (0, .nameAndType 494 142), (0, u "isLatin1"), (0, .methodref 107 496), (0, .nameAndType 497 363), (0, u "charAt"), (3, u "checkIndex"), (4, .nameAndType 507 334), (0, u "length"), (24, u "getBytes"), (16, .methodref 550 506), (0, .class_ 551), (0, u "java/lang/AbstractStringBuilder"), (0, .methodref 550 553), (0, .nameAndType 554 340), (0, u "getValue"), (20, .class_ 576), (0, u "java/lang/CharSequence"), (22, u "CASE_INSENSITIVE_ORDER"), (0, u "Ljava/util/Comparator;"), (91, u "isEmpty"), (89, u "valueOf"), (0, u "(C)Ljava/lang/String;"), (37, u "([BIB)V"), (188, u "([C)V"), (4, .methodref 107 1016), (0, .nameAndType 1017 369), (0, u "canEncode"), (0, .methodref 107 1019), (0, .nameAndType 53 1020), (0, u "(C)[B"), (26, .methodref 550 493), (5, .fieldref 1054 1055), (0, .class_ 1056), (0, .nameAndType 1057 1058), (0, u "jdk/internal/util/Preconditions"), (0, u "SIOOBE_FORMATTER"), (0, u "Ljava/util/function/BiFunction;"), (0, .methodref 1054 1060), (0, .nameAndType 501 1061), (0, u "(IILjava/util/function/BiFunction;)I"), (39, u "serialPersistentFields"), (0, u "[Ljava/io/ObjectStreamField;"), (0, .class_ 1104), (0, u "java/lang/String$CaseInsensitiveComparator"), (1, .class_ 1107), (0, u "java/io/Serializable"), (0, .class_ 1109), (0, u "java/lang/Comparable"), (0, .class_ 1111), (0, u "java/lang/constant/Constable"), (0, .class_ 1113), (0, u "java/lang/constant/ConstantDesc"), (2, u "serialVersionUID"), (0, u "J"), (3, u "REPL"), (0, u "C"), (2, u "LATIN1"), (1, u "UTF16"), (105, u "(Ljava/lang/StringBuilder;)V")] 217

def k7m0 : Method := { name := "<init>", desc := "()V", sig := { parameters := [], returnType := none }, accessFlags := 1, code := none }
def k7c1 : Code := { maxStack := 5, maxLocals := 2, code := jdk_42_method_3_code, exceptionTable := #[], attributes := #[] }
def k7m1 : Method := { name := "<init>", desc := "([C)V", sig := { parameters := [(.array .char)], returnType := none }, accessFlags := 1, code := some k7c1 }
def k7c2 : Code := { maxStack := 3, maxLocals := 2, code := jdk_42_method_53_code, exceptionTable := #[], attributes := #[] }
def k7m2 : Method := { name := "<init>", desc := "(Ljava/lang/StringBuilder;)V", sig := { parameters := [(.object "java/lang/StringBuilder")], returnType := none }, accessFlags := 1, code := some k7c2 }
def k7c3 : Code := { maxStack := 2, maxLocals := 1, code := jdk_42_method_54_code, exceptionTable := #[], attributes := #[] }
def k7m3 : Method := { name := "length", desc := "()I", sig := { parameters := [], returnType := some .int }, accessFlags := 1, code := some k7c3 }
def k7c4 : Code := { maxStack := 1, maxLocals := 1, code := jdk_42_method_55_code, exceptionTable := #[], attributes := #[] }
def k7m4 : Method := { name := "isEmpty", desc := "()Z", sig := { parameters := [], returnType := some .boolean }, accessFlags := 1, code := some k7c4 }
def k7c5 : Code := { maxStack := 2, maxLocals := 2, code := jdk_42_method_56_code, exceptionTable := #[], attributes := #[] }
def k7m5 : Method := { name := "charAt", desc := "(I)C", sig := { parameters := [.int], returnType := some .char }, accessFlags := 1, code := some k7c5 }
def k7c6 : Code := { maxStack := 4, maxLocals := 1, code := jdk_42_method_139_code, exceptionTable := #[], attributes := #[] }
def k7m6 : Method := { name := "valueOf", desc := "(C)Ljava/lang/String;", sig := { parameters := [.char], returnType := some (.object "java/lang/String") }, accessFlags := 9, code := some k7c6 }
def k7c7 : Code := { maxStack := 5, maxLocals := 4, code := jdk_42_method_147_code, exceptionTable := #[], attributes := #[] }
def k7m7 : Method := { name := "getBytes", desc := "([BIB)V", sig := { parameters := [(.array .byte), .int, .byte], returnType := none }, accessFlags := 0, code := some k7c7 }
def k7c8 : Code := { maxStack := 4, maxLocals := 6, code := jdk_42_method_149_code, exceptionTable := #[], attributes := #[] }
def k7m8 : Method := { name := "<init>", desc := "([CIILjava/lang/Void;)V", sig := { parameters := [(.array .char), .int, .int, (.object "java/lang/Void")], returnType := none }, accessFlags := 2, code := some k7c8 }
def k7c9 : Code := { maxStack := 5, maxLocals := 5, code := jdk_42_method_150_code, exceptionTable := #[], attributes := #[] }
def k7m9 : Method := { name := "<init>", desc := "(Ljava/lang/AbstractStringBuilder;Ljava/lang/Void;)V", sig := { parameters := [(.object "java/lang/AbstractStringBuilder"), (.object "java/lang/Void")], returnType := none }, accessFlags := 0, code := some k7c9 }
def k7c10 : Code := { maxStack := 2, maxLocals := 3, code := jdk_42_method_151_code, exceptionTable := #[], attributes := #[] }
def k7m10 : Method := { name := "<init>", desc := "([BB)V", sig := { parameters := [(.array .byte), .byte], returnType := none }, accessFlags := 0, code := some k7c10 }
def k7c11 : Code := { maxStack := 1, maxLocals := 1, code := jdk_42_method_152_code, exceptionTable := #[], attributes := #[] }
def k7m11 : Method := { name := "coder", desc := "()B", sig := { parameters := [], returnType := some .byte }, accessFlags := 0, code := some k7c11 }
def k7c12 : Code := { maxStack := 1, maxLocals := 1, code := jdk_42_method_154_code, exceptionTable := #[], attributes := #[] }
def k7m12 : Method := { name := "isLatin1", desc := "()Z", sig := { parameters := [], returnType := some .boolean }, accessFlags := 0, code := some k7c12 }
def k7c13 : Code := { maxStack := 3, maxLocals := 2, code := jdk_42_method_155_code, exceptionTable := #[], attributes := #[] }
def k7m13 : Method := { name := "checkIndex", desc := "(II)V", sig := { parameters := [.int, .int], returnType := none }, accessFlags := 8, code := some k7c13 }
/-- java/lang/String -/
def k7 : Class := { plain "java/lang/String" (some 0) with
  accessFlags := 49
  interfaces := #[2, 3, 4, 5, 6]
  cf := some (fileOf pool7 10 #[.nestMembers #[1103]] #[{ accessFlags := 1, nameIndex := 5, descriptorIndex := 6, attributes := #[] }, { accessFlags := 1, nameIndex := 5, descriptorIndex := 1010, attributes := #[] }, { accessFlags := 1, nameIndex := 5, descriptorIndex := 1233, attributes := #[] }, { accessFlags := 1, nameIndex := 507, descriptorIndex := 334, attributes := #[] }, { accessFlags := 1, nameIndex := 692, descriptorIndex := 142, attributes := #[] }, { accessFlags := 1, nameIndex := 497, descriptorIndex := 427, attributes := #[] }, { accessFlags := 9, nameIndex := 782, descriptorIndex := 783, attributes := #[] }, { accessFlags := 0, nameIndex := 532, descriptorIndex := 821, attributes := #[] }, { accessFlags := 2, nameIndex := 5, descriptorIndex := 29, attributes := #[] }, { accessFlags := 0, nameIndex := 5, descriptorIndex := 491, attributes := #[] }, { accessFlags := 0, nameIndex := 5, descriptorIndex := 211, attributes := #[] }, { accessFlags := 0, nameIndex := 17, descriptorIndex := 337, attributes := #[] }, { accessFlags := 0, nameIndex := 494, descriptorIndex := 142, attributes := #[] }, { accessFlags := 8, nameIndex := 501, descriptorIndex := 391, attributes := #[] }] 49 2 #[1106, 1108, 575, 1110, 1112] #[{ accessFlags := 18, nameIndex := 13, descriptorIndex := 14, attributes := #[] }, { accessFlags := 18, nameIndex := 17, descriptorIndex := 18, attributes := #[] }, { accessFlags := 2, nameIndex := 21, descriptorIndex := 22, attributes := #[] }, { accessFlags := 2, nameIndex := 25, descriptorIndex := 26, attributes := #[] }, { accessFlags := 26, nameIndex := 1116, descriptorIndex := 1117, attributes := #[] }, { accessFlags := 24, nameIndex := 40, descriptorIndex := 26, attributes := #[] }, { accessFlags := 26, nameIndex := 1101, descriptorIndex := 1102, attributes := #[] }, { accessFlags := 26, nameIndex := 1121, descriptorIndex := 1122, attributes := #[] }, { accessFlags := 25, nameIndex := 599, descriptorIndex := 600, attributes := #[] }, { accessFlags := 24, nameIndex := 1125, descriptorIndex := 18, attributes := #[] }, { accessFlags := 24, nameIndex := 1127, descriptorIndex := 18, attributes := #[] }])
  fields := #[{ name := "value", type := (.array .byte), accessFlags := 18, slot := 0, constantValue := 0 }, { name := "coder", type := .byte, accessFlags := 18, slot := 1, constantValue := 0 }, { name := "hash", type := .int, accessFlags := 2, slot := 2, constantValue := 0 }, { name := "hashIsZero", type := .boolean, accessFlags := 2, slot := 3, constantValue := 0 }, { name := "serialVersionUID", type := .long, accessFlags := 26, slot := 0, constantValue := 0 }, { name := "COMPACT_STRINGS", type := .boolean, accessFlags := 24, slot := 1, constantValue := 0 }, { name := "serialPersistentFields", type := (.array (.object "java/io/ObjectStreamField")), accessFlags := 26, slot := 2, constantValue := 0 }, { name := "REPL", type := .char, accessFlags := 26, slot := 3, constantValue := 0 }, { name := "CASE_INSENSITIVE_ORDER", type := (.object "java/util/Comparator"), accessFlags := 25, slot := 4, constantValue := 0 }, { name := "LATIN1", type := .byte, accessFlags := 24, slot := 5, constantValue := 0 }, { name := "UTF16", type := .byte, accessFlags := 24, slot := 6, constantValue := 0 }]
  methods := #[k7m0, k7m1, k7m2, k7m3, k7m4, k7m5, k7m6, k7m7, k7m8, k7m9, k7m10, k7m11, k7m12, k7m13]
  instanceTypes := #[(.array .byte), .byte, .int, .boolean]
  staticTypes := #[.long, .boolean, (.array (.object "java/io/ObjectStreamField")), .char, (.object "java/util/Comparator"), .byte, .byte]
  resolved := Array.replicate 1451 none
  statics := some 0 }

def pool8 : Array CpInfo := pool [(6, .class_ 8), (1, u "java/lang/Object"), (0, u "<init>"), (0, u "()V"), (1, .class_ 14), (1, u "java/lang/StringUTF16"), (31, u "$assertionsDisabled"), (0, u "Z"), (13, u "HI_BYTE_SHIFT"), (0, u "I"), (2, u "LO_BYTE_SHIFT"), (49, .methodref 12 116), (0, .nameAndType 117 118), (0, u "compress"), (0, u "([CI[BII)I"), (3, u "([CII)[B"), (138, u "coderFromArrayLen"), (0, u "([BI)B"), (106, .class_ 371), (1, u "java/lang/StringUTF16$LinesSpliterator"), (58, u "MAX_LENGTH"), (196, .class_ 628), (0, u "java/lang/StringUTF16$CodePointsSpliterator"), (0, .class_ 630), (0, u "java/lang/StringUTF16$CharsSpliterator")] 4

def k8m0 : Method := { name := "<init>", desc := "()V", sig := { parameters := [], returnType := none }, accessFlags := 0, code := none }
def k8c1 : Code := { maxStack := 2, maxLocals := 2, code := jdk_52_method_15_code, exceptionTable := #[], attributes := #[] }
def k8m1 : Method := { name := "coderFromArrayLen", desc := "([BI)B", sig := { parameters := [(.array .byte), .int], returnType := some .byte }, accessFlags := 8, code := some k8c1 }
def k8c2 : Code := { maxStack := 5, maxLocals := 6, code := jdk_52_method_16_code, exceptionTable := #[], attributes := #[] }
def k8m2 : Method := { name := "compress", desc := "([CII)[B", sig := { parameters := [(.array .char), .int, .int], returnType := some (.array .byte) }, accessFlags := 9, code := some k8c2 }
def k8c3 : Code := { maxStack := 3, maxLocals := 7, code := jdk_52_method_21_code, exceptionTable := #[], attributes := #[] }
def k8m3 : Method := { name := "compress", desc := "([CI[BII)I", sig := { parameters := [(.array .char), .int, (.array .byte), .int, .int], returnType := some .int }, accessFlags := 9, code := some k8c3 }
/-- java/lang/StringUTF16 -/
def k8 : Class := { plain "java/lang/StringUTF16" (some 0) with
  accessFlags := 48
  interfaces := #[]
  cf := some (fileOf pool8 12 #[.nestMembers #[627, 629, 369]] #[{ accessFlags := 0, nameIndex := 9, descriptorIndex := 10, attributes := #[] }, { accessFlags := 8, nameIndex := 261, descriptorIndex := 262, attributes := #[] }, { accessFlags := 9, nameIndex := 117, descriptorIndex := 122, attributes := #[] }, { accessFlags := 9, nameIndex := 117, descriptorIndex := 118, attributes := #[] }] 48 6 #[] #[{ accessFlags := 26, nameIndex := 61, descriptorIndex := 62, attributes := #[] }, { accessFlags := 26, nameIndex := 65, descriptorIndex := 62, attributes := #[] }, { accessFlags := 24, nameIndex := 430, descriptorIndex := 62, attributes := #[] }, { accessFlags := 4120, nameIndex := 46, descriptorIndex := 47, attributes := #[] }])
  fields := #[{ name := "HI_BYTE_SHIFT", type := .int, accessFlags := 26, slot := 0, constantValue := 0 }, { name := "LO_BYTE_SHIFT", type := .int, accessFlags := 26, slot := 1, constantValue := 0 }, { name := "MAX_LENGTH", type := .int, accessFlags := 24, slot := 2, constantValue := 0 }, { name := "$assertionsDisabled", type := .boolean, accessFlags := 4120, slot := 3, constantValue := 0 }]
  methods := #[k8m0, k8m1, k8m2, k8m3]
  instanceTypes := #[]
  staticTypes := #[.int, .int, .int, .boolean]
  resolved := Array.replicate 635 none
  statics := none }

def pool9 : Array CpInfo := pool [(1, .class_ 2), (0, u "java/lang/String"), (1, .class_ 6), (1, u "java/lang/Object"), (0, u "<init>"), (0, u "()V"), (0, .methodref 1 10), (0, .nameAndType 11 12), (0, u "checkIndex"), (0, u "(II)V"), (1, .class_ 16), (1, u "java/lang/StringLatin1"), (36, u "([BI)C"), (36, u "canEncode"), (14, u "(C)Z"), (15, u "$assertionsDisabled"), (0, u "Z"), (98, .class_ 223), (1, u "java/lang/StringLatin1$LinesSpliterator"), (28, u "charAt"), (127, u "toBytes"), (1, u "(C)[B"), (7, .class_ 391), (0, u "java/lang/StringLatin1$CharsSpliterator")] 3

def k9m0 : Method := { name := "<init>", desc := "()V", sig := { parameters := [], returnType := none }, accessFlags := 0, code := none }
def k9c1 : Code := { maxStack := 2, maxLocals := 2, code := jdk_43_method_2_code, exceptionTable := #[], attributes := #[] }
def k9m1 : Method := { name := "charAt", desc := "([BI)C", sig := { parameters := [(.array .byte), .int], returnType := some .char }, accessFlags := 9, code := some k9c1 }
def k9c2 : Code := { maxStack := 2, maxLocals := 1, code := jdk_43_method_3_code, exceptionTable := #[], attributes := #[] }
def k9m2 : Method := { name := "canEncode", desc := "(C)Z", sig := { parameters := [.char], returnType := some .boolean }, accessFlags := 9, code := some k9c2 }
def k9c3 : Code := { maxStack := 4, maxLocals := 1, code := jdk_43_method_46_code, exceptionTable := #[], attributes := #[] }
def k9m3 : Method := { name := "toBytes", desc := "(C)[B", sig := { parameters := [.char], returnType := some (.array .byte) }, accessFlags := 9, code := some k9c3 }
/-- java/lang/StringLatin1 -/
def k9 : Class := { plain "java/lang/StringLatin1" (some 0) with
  accessFlags := 48
  interfaces := #[]
  cf := some (fileOf pool9 14 #[.nestMembers #[390, 221]] #[{ accessFlags := 0, nameIndex := 7, descriptorIndex := 8, attributes := #[] }, { accessFlags := 9, nameIndex := 252, descriptorIndex := 53, attributes := #[] }, { accessFlags := 9, nameIndex := 90, descriptorIndex := 105, attributes := #[] }, { accessFlags := 9, nameIndex := 380, descriptorIndex := 382, attributes := #[] }] 48 4 #[] #[{ accessFlags := 4120, nameIndex := 121, descriptorIndex := 122, attributes := #[] }])
  fields := #[{ name := "$assertionsDisabled", type := .boolean, accessFlags := 4120, slot := 0, constantValue := 0 }]
  methods := #[k9m0, k9m1, k9m2, k9m3]
  instanceTypes := #[]
  staticTypes := #[.boolean]
  resolved := Array.replicate 395 none
  statics := none }

def pool10 : Array CpInfo := pool [(1, .methodref 2 3), (0, .class_ 4), (0, .nameAndType 5 6), (0, u "java/lang/Object"), (0, u "<init>"), (0, u "()V"), (0, .class_ 8), (0, u "java/lang/Record")] 13

def k10c0 : Code := { maxStack := 1, maxLocals := 1, code := jdk_30_method_1_code, exceptionTable := #[], attributes := #[] }
def k10m0 : Method := { name := "<init>", desc := "()V", sig := { parameters := [], returnType := none }, accessFlags := 4, code := some k10c0 }
/-- java/lang/Record -/
def k10 : Class := { plain "java/lang/Record" (some 0) with
  accessFlags := 1057
  interfaces := #[]
  cf := some (fileOf pool10 7 #[] #[{ accessFlags := 4, nameIndex := 5, descriptorIndex := 6, attributes := #[] }] 1057 2 #[] #[])
  fields := #[]
  methods := #[k10m0]
  instanceTypes := #[]
  staticTypes := #[]
  resolved := Array.replicate 22 none
  statics := none }

def pool11 : Array CpInfo := pool [(1, .methodref 2 3), (0, .class_ 4), (0, .nameAndType 5 6), (0, u "java/lang/Record"), (0, u "<init>"), (0, u "()V"), (0, .string 8), (0, u "topic"), (0, .methodref 10 11), (0, .class_ 12), (0, .nameAndType 13 14), (0, u "java/util/Objects"), (0, u "requireNonNull"), (0, u "(Ljava/lang/Object;Ljava/lang/String;)Ljava/lang/Object;"), (0, .string 16), (0, u "brokerName"), (0, .methodref 18 19), (0, .class_ 20), (0, .nameAndType 21 22), (0, u "java/lang/String"), (0, u "isEmpty"), (0, u "()Z"), (9, .class_ 33), (0, u "java/lang/StringBuilder"), (0, .methodref 32 3), (2, .methodref 32 38), (0, .nameAndType 39 40), (0, u "append"), (0, u "(Ljava/lang/String;)Ljava/lang/StringBuilder;"), (0, .methodref 32 42), (0, .nameAndType 39 43), (0, u "(I)Ljava/lang/StringBuilder;"), (0, .methodref 32 45), (0, .nameAndType 46 47), (0, u "toString"), (0, u "()Ljava/lang/String;"), (0, .fieldref 49 50), (0, .class_ 51), (0, .nameAndType 8 52), (0, u "com/example/rebalance/rebalance/MessageQueue"), (0, u "Ljava/lang/String;"), (0, .fieldref 49 54), (0, .nameAndType 16 52), (0, .fieldref 49 56), (0, .nameAndType 57 58), (0, u "queueId"), (0, u "I"), (10, u "ORDER"), (0, u "Ljava/util/Comparator;"), (6, .string 78), (0, u ":"), (31, .class_ 111), (0, u "java/lang/Comparable"), (2, u "(Ljava/lang/String;Ljava/lang/String;I)V")] 54

def k11c0 : Code := { maxStack := 4, maxLocals := 4, code := prog_2_method_1_code, exceptionTable := #[], attributes := #[] }
def k11m0 : Method := { name := "<init>", desc := "(Ljava/lang/String;Ljava/lang/String;I)V", sig := { parameters := [(.object "java/lang/String"), (.object "java/lang/String"), .int], returnType := none }, accessFlags := 1, code := some k11c0 }
def k11c1 : Code := { maxStack := 2, maxLocals := 1, code := prog_2_method_4_code, exceptionTable := #[], attributes := #[] }
def k11m1 : Method := { name := "toString", desc := "()Ljava/lang/String;", sig := { parameters := [], returnType := some (.object "java/lang/String") }, accessFlags := 1, code := some k11c1 }
/-- com/example/rebalance/rebalance/MessageQueue -/
def k11 : Class := { plain "com/example/rebalance/rebalance/MessageQueue" (some 10) with
  accessFlags := 49
  interfaces := #[3]
  cf := some (fileOf pool11 49 #[] #[{ accessFlags := 1, nameIndex := 5, descriptorIndex := 114, attributes := #[] }, { accessFlags := 1, nameIndex := 46, descriptorIndex := 47, attributes := #[] }] 49 2 #[110] #[{ accessFlags := 18, nameIndex := 8, descriptorIndex := 52, attributes := #[] }, { accessFlags := 18, nameIndex := 16, descriptorIndex := 52, attributes := #[] }, { accessFlags := 18, nameIndex := 57, descriptorIndex := 58, attributes := #[] }, { accessFlags := 26, nameIndex := 69, descriptorIndex := 70, attributes := #[] }])
  fields := #[{ name := "topic", type := (.object "java/lang/String"), accessFlags := 18, slot := 0, constantValue := 0 }, { name := "brokerName", type := (.object "java/lang/String"), accessFlags := 18, slot := 1, constantValue := 0 }, { name := "queueId", type := .int, accessFlags := 18, slot := 2, constantValue := 0 }, { name := "ORDER", type := (.object "java/util/Comparator"), accessFlags := 26, slot := 0, constantValue := 0 }]
  methods := #[k11m0, k11m1]
  instanceTypes := #[(.object "java/lang/String"), (.object "java/lang/String"), .int]
  staticTypes := #[(.object "java/util/Comparator")]
  resolved := Array.replicate 169 none
  statics := none }

def pool12 : Array CpInfo := pool [(2, .class_ 4), (1, u "java/lang/Object"), (0, u "<init>"), (0, u "()V"), (35, .class_ 44), (1, u "java/util/Objects"), (0, u "requireNonNull"), (48, u "(Ljava/lang/Object;Ljava/lang/String;)Ljava/lang/Object;")] 89

def k12m0 : Method := { name := "<init>", desc := "()V", sig := { parameters := [], returnType := none }, accessFlags := 2, code := none }
def k12c1 : Code := { maxStack := 3, maxLocals := 2, code := jdk_31_method_11_code, exceptionTable := #[], attributes := #[] }
def k12m1 : Method := { name := "requireNonNull", desc := "(Ljava/lang/Object;Ljava/lang/String;)Ljava/lang/Object;", sig := { parameters := [(.object "java/lang/Object"), (.object "java/lang/String")], returnType := some (.object "java/lang/Object") }, accessFlags := 9, code := some k12c1 }
/-- java/util/Objects -/
def k12 : Class := { plain "java/util/Objects" (some 0) with
  accessFlags := 49
  interfaces := #[]
  cf := some (fileOf pool12 42 #[] #[{ accessFlags := 2, nameIndex := 5, descriptorIndex := 6, attributes := #[] }, { accessFlags := 9, nameIndex := 45, descriptorIndex := 94, attributes := #[] }] 49 2 #[] #[])
  fields := #[]
  methods := #[k12m0, k12m1]
  instanceTypes := #[]
  staticTypes := #[]
  resolved := Array.replicate 184 none
  statics := none }

def pool13 : Array CpInfo := pool [(1, .class_ 2), (0, u "java/lang/Appendable"), (0, .class_ 4), (0, u "java/lang/Object")] 9

/-- java/lang/Appendable -/
def k13 : Class := { plain "java/lang/Appendable" (some 0) with
  accessFlags := 1537
  interfaces := #[]
  cf := some (fileOf pool13 1 #[] #[] 1537 3 #[] #[])
  fields := #[]
  methods := #[]
  instanceTypes := #[]
  staticTypes := #[]
  resolved := Array.replicate 14 none
  statics := none }

def pool14 : Array CpInfo := pool [(1, .class_ 2), (0, u "java/lang/String"), (0, .methodref 4 5), (0, .class_ 6), (0, .nameAndType 7 8), (0, u "java/lang/Object"), (0, u "<init>"), (0, u "()V"), (1, .class_ 12), (1, u "java/lang/AbstractStringBuilder"), (0, u "EMPTYVALUE"), (0, u "[B"), (0, .fieldref 10 16), (0, .nameAndType 17 14), (0, u "value"), (0, .fieldref 1 19), (0, .nameAndType 20 21), (0, u "COMPACT_STRINGS"), (0, u "Z"), (0, .fieldref 10 23), (0, .nameAndType 24 25), (0, u "coder"), (0, u "B"), (6, .methodref 1 33), (0, .nameAndType 34 35), (0, u "length"), (0, u "()I"), (0, .class_ 37), (0, u "java/lang/Integer"), (2, .methodref 1 41), (0, .nameAndType 24 42), (0, u "()B"), (2, u "append"), (0, u "(Ljava/lang/String;)Ljava/lang/AbstractStringBuilder;"), (1, .class_ 49), (0, u "java/lang/CharSequence"), (19, u "(Ljava/lang/String;)V"), (5, u "maybeLatin1"), (3, .fieldref 10 80), (0, .nameAndType 81 82), (0, u "count"), (0, u "I"), (0, .methodref 10 84), (0, .nameAndType 85 86), (0, u "isLatin1"), (0, u "()Z"), (13, .methodref 10 101), (0, .nameAndType 102 103), (0, u "ensureCapacityInternal"), (0, u "(I)V"), (3, u "(I)I"), (80, u "getChars"), (19, .methodref 10 209), (0, .nameAndType 210 211), (0, u "putStringAt"), (0, u "(ILjava/lang/String;)V"), (5, u "inflateIfNeededFor"), (2, .nameAndType 221 222), (0, u "getBytes"), (0, u "([BIB)V"), (22, .methodref 36 246), (0, .nameAndType 247 107), (0, u "stringSize"), (0, .methodref 36 249), (0, .nameAndType 188 250), (0, u "(II[B)I"), (146, .methodref 10 398), (0, .nameAndType 217 69), (0, .methodref 1 220), (3, u "()[B"), (40, .class_ 445), (0, u "java/lang/Appendable"), (65, u "(I)Ljava/lang/AbstractStringBuilder;"), (40, u "getValue")] 56

def k14m0 : Method := { name := "<init>", desc := "()V", sig := { parameters := [], returnType := none }, accessFlags := 0, code := none }
def k14c1 : Code := { maxStack := 2, maxLocals := 2, code := jdk_68_method_2_code, exceptionTable := #[], attributes := #[] }
def k14m1 : Method := { name := "<init>", desc := "(I)V", sig := { parameters := [.int], returnType := none }, accessFlags := 0, code := some k14c1 }
def k14c2 : Code := { maxStack := 1, maxLocals := 1, code := jdk_68_method_6_code, exceptionTable := #[], attributes := #[] }
def k14m2 : Method := { name := "length", desc := "()I", sig := { parameters := [], returnType := some .int }, accessFlags := 1, code := some k14c2 }
def k14c3 : Code := { maxStack := 4, maxLocals := 3, code := jdk_68_method_9_code, exceptionTable := #[], attributes := #[] }
def k14m3 : Method := { name := "ensureCapacityInternal", desc := "(I)V", sig := { parameters := [.int], returnType := none }, accessFlags := 2, code := some k14c3 }
def k14c4 : Code := { maxStack := 3, maxLocals := 3, code := jdk_68_method_22_code, exceptionTable := #[], attributes := #[] }
def k14m4 : Method := { name := "append", desc := "(Ljava/lang/String;)Ljava/lang/AbstractStringBuilder;", sig := { parameters := [(.object "java/lang/String")], returnType := some (.object "java/lang/AbstractStringBuilder") }, accessFlags := 1, code := some k14c4 }
def k14c5 : Code := { maxStack := 4, maxLocals := 4, code := jdk_68_method_32_code, exceptionTable := #[], attributes := #[] }
def k14m5 : Method := { name := "append", desc := "(I)Ljava/lang/AbstractStringBuilder;", sig := { parameters := [.int], returnType := some (.object "java/lang/AbstractStringBuilder") }, accessFlags := 1, code := some k14c5 }
def k14c6 : Code := { maxStack := 1, maxLocals := 1, code := jdk_68_method_64_code, exceptionTable := #[], attributes := #[] }
def k14m6 : Method := { name := "getValue", desc := "()[B", sig := { parameters := [], returnType := some (.array .byte) }, accessFlags := 16, code := some k14c6 }
def k14c7 : Code := { maxStack := 1, maxLocals := 1, code := jdk_68_method_68_code, exceptionTable := #[], attributes := #[] }
def k14m7 : Method := { name := "isLatin1", desc := "()Z", sig := { parameters := [], returnType := some .boolean }, accessFlags := 16, code := some k14c7 }
def k14c8 : Code := { maxStack := 2, maxLocals := 2, code := jdk_68_method_71_code, exceptionTable := #[], attributes := #[] }
def k14m8 : Method := { name := "inflateIfNeededFor", desc := "(Ljava/lang/String;)V", sig := { parameters := [(.object "java/lang/String")], returnType := none }, accessFlags := 2, code := some k14c8 }
def k14c9 : Code := { maxStack := 4, maxLocals := 3, code := jdk_68_method_73_code, exceptionTable := #[], attributes := #[] }
def k14m9 : Method := { name := "putStringAt", desc := "(ILjava/lang/String;)V", sig := { parameters := [.int, (.object "java/lang/String")], returnType := none }, accessFlags := 2, code := some k14c9 }
/-- java/lang/AbstractStringBuilder -/
def k14 : Class := { plain "java/lang/AbstractStringBuilder" (some 0) with
  accessFlags := 1056
  interfaces := #[13, 4]
  cf := some (fileOf pool14 10 #[] #[{ accessFlags := 0, nameIndex := 7, descriptorIndex := 8, attributes := #[] }, { accessFlags := 0, nameIndex := 7, descriptorIndex := 103, attributes := #[] }, { accessFlags := 1, nameIndex := 34, descriptorIndex := 35, attributes := #[] }, { accessFlags := 2, nameIndex := 102, descriptorIndex := 103, attributes := #[] }, { accessFlags := 1, nameIndex := 45, descriptorIndex := 46, attributes := #[] }, { accessFlags := 1, nameIndex := 45, descriptorIndex := 511, attributes := #[] }, { accessFlags := 16, nameIndex := 552, descriptorIndex := 403, attributes := #[] }, { accessFlags := 16, nameIndex := 85, descriptorIndex := 86, attributes := #[] }, { accessFlags := 2, nameIndex := 217, descriptorIndex := 69, attributes := #[] }, { accessFlags := 2, nameIndex := 210, descriptorIndex := 211, attributes := #[] }] 1056 4 #[444, 48] #[{ accessFlags := 0, nameIndex := 17, descriptorIndex := 14, attributes := #[] }, { accessFlags := 0, nameIndex := 24, descriptorIndex := 25, attributes := #[] }, { accessFlags := 0, nameIndex := 75, descriptorIndex := 21, attributes := #[] }, { accessFlags := 0, nameIndex := 81, descriptorIndex := 82, attributes := #[] }, { accessFlags := 26, nameIndex := 13, descriptorIndex := 14, attributes := #[] }])
  fields := #[{ name := "value", type := (.array .byte), accessFlags := 0, slot := 0, constantValue := 0 }, { name := "coder", type := .byte, accessFlags := 0, slot := 1, constantValue := 0 }, { name := "maybeLatin1", type := .boolean, accessFlags := 0, slot := 2, constantValue := 0 }, { name := "count", type := .int, accessFlags := 0, slot := 3, constantValue := 0 }, { name := "EMPTYVALUE", type := (.array .byte), accessFlags := 26, slot := 0, constantValue := 0 }]
  methods := #[k14m0, k14m1, k14m2, k14m3, k14m4, k14m5, k14m6, k14m7, k14m8, k14m9]
  instanceTypes := #[(.array .byte), .byte, .boolean, .int]
  staticTypes := #[(.array .byte)]
  resolved := Array.replicate 609 none
  statics := none }

def pool15 : Array CpInfo := pool [(1, .methodref 2 3), (0, .class_ 4), (0, .nameAndType 5 6), (0, u "java/lang/AbstractStringBuilder"), (0, u "<init>"), (0, u "(I)V"), (11, .class_ 20), (1, u "java/lang/String"), (3, .class_ 26), (1, u "java/lang/StringBuilder"), (0, u "append"), (0, u "(Ljava/lang/String;)Ljava/lang/StringBuilder;"), (0, .methodref 2 30), (0, .nameAndType 27 31), (0, u "(Ljava/lang/String;)Ljava/lang/AbstractStringBuilder;"), (21, .methodref 2 54), (0, .nameAndType 27 55), (0, u "(I)Ljava/lang/AbstractStringBuilder;"), (81, .methodref 18 138), (0, .nameAndType 5 139), (0, u "(Ljava/lang/StringBuilder;)V"), (5, u "()V"), (10, u "()I"), (111, u "(I)Ljava/lang/StringBuilder;"), (74, .methodref 2 344), (0, .nameAndType 345 156), (0, u "length"), (3, .class_ 350), (0, u "java/lang/Appendable"), (0, .class_ 352), (0, u "java/io/Serializable"), (0, .class_ 354), (0, u "java/lang/Comparable"), (0, .class_ 356), (0, u "java/lang/CharSequence"), (0, u "serialVersionUID"), (0, u "J"), (40, u "toString"), (0, u "()Ljava/lang/String;")] 21

def k15c0 : Code := { maxStack := 2, maxLocals := 1, code := jdk_67_method_1_code, exceptionTable := #[], attributes := #[] }
def k15m0 : Method := { name := "<init>", desc := "()V", sig := { parameters := [], returnType := none }, accessFlags := 1, code := some k15c0 }
def k15c1 : Code := { maxStack := 2, maxLocals := 2, code := jdk_67_method_7_code, exceptionTable := #[], attributes := #[] }
def k15m1 : Method := { name := "append", desc := "(Ljava/lang/String;)Ljava/lang/StringBuilder;", sig := { parameters := [(.object "java/lang/String")], returnType := some (.object "java/lang/StringBuilder") }, accessFlags := 1, code := some k15c1 }
def k15c2 : Code := { maxStack := 2, maxLocals := 2, code := jdk_67_method_15_code, exceptionTable := #[], attributes := #[] }
def k15m2 : Method := { name := "append", desc := "(I)Ljava/lang/StringBuilder;", sig := { parameters := [.int], returnType := some (.object "java/lang/StringBuilder") }, accessFlags := 1, code := some k15c2 }
def k15c3 : Code := { maxStack := 3, maxLocals := 1, code := jdk_67_method_42_code, exceptionTable := #[], attributes := #[] }
def k15m3 : Method := { name := "toString", desc := "()Ljava/lang/String;", sig := { parameters := [], returnType := some (.object "java/lang/String") }, accessFlags := 1, code := some k15c3 }
def k15c4 : Code := { maxStack := 1, maxLocals := 1, code := jdk_67_method_93_code, exceptionTable := #[], attributes := #[] }
def k15m4 : Method := { name := "length", desc := "()I", sig := { parameters := [], returnType := some .int }, accessFlags := 4161, code := some k15c4 }
/-- java/lang/StringBuilder -/
def k15 : Class := { plain "java/lang/StringBuilder" (some 14) with
  accessFlags := 49
  interfaces := #[13, 2, 3, 4]
  cf := some (fileOf pool15 24 #[] #[{ accessFlags := 1, nameIndex := 5, descriptorIndex := 145, attributes := #[] }, { accessFlags := 1, nameIndex := 27, descriptorIndex := 28, attributes := #[] }, { accessFlags := 1, nameIndex := 27, descriptorIndex := 268, attributes := #[] }, { accessFlags := 1, nameIndex := 399, descriptorIndex := 400, attributes := #[] }, { accessFlags := 4161, nameIndex := 345, descriptorIndex := 156, attributes := #[] }] 49 2 #[349, 351, 353, 355] #[{ accessFlags := 24, nameIndex := 357, descriptorIndex := 358, attributes := #[] }])
  fields := #[{ name := "serialVersionUID", type := .long, accessFlags := 24, slot := 0, constantValue := 0 }]
  methods := #[k15m0, k15m1, k15m2, k15m3, k15m4]
  instanceTypes := #[(.array .byte), .byte, .boolean, .int]
  staticTypes := #[.long]
  resolved := Array.replicate 422 none
  statics := none }

def pool16 : Array CpInfo := pool [(2, .class_ 4), (1, u "java/lang/Object"), (0, u "<init>"), (0, u "()V"), (1, .class_ 10), (1, u "java/lang/System"), (0, u "allowSecurityManager"), (0, u "I"), (16, u "cons"), (0, u "Ljava/io/Console;"), (77, .class_ 110), (1, u "java/lang/System$CallersHolder"), (43, u "initialErrStream"), (0, u "Ljava/io/PrintStream;"), (19, u "security"), (0, u "Ljava/lang/SecurityManager;"), (31, .class_ 209), (0, u "java/lang/System$1"), (7, u "props"), (0, u "Ljava/util/Properties;"), (2, u "lineSeparator"), (0, u "Ljava/lang/String;"), (96, .class_ 321), (1, u "java/lang/System$LoggerFinder"), (5, .class_ 328), (0, u "java/lang/System$Logger"), (67, u "err"), (2, u "out"), (91, u "notSupportedJnuEncoding"), (15, u "in"), (17, u "initialIn"), (0, u "Ljava/io/InputStream;"), (35, u "bootLayer"), (0, u "Ljava/lang/ModuleLayer;"), (99, .class_ 664), (0, u "java/lang/System$2"), (9, u "NEVER"), (2, u "MAYBE"), (49, u "arraycopy"), (0, u "(Ljava/lang/Object;ILjava/lang/Object;II)V"), (72, .class_ 802), (0, u "java/lang/System$Logger$Level")] 31

def k16m0 : Method := { name := "<init>", desc := "()V", sig := { parameters := [], returnType := none }, accessFlags := 2, code := none }
def k16m1 : Method := { name := "arraycopy", desc := "(Ljava/lang/Object;ILjava/lang/Object;II)V", sig := { parameters := [(.object "java/lang/Object"), .int, (.object "java/lang/Object"), .int, .int], returnType := none }, accessFlags := 265, code := none }
/-- java/lang/System -/
def k16 : Class := { plain "java/lang/System" (some 0) with
  accessFlags := 49
  interfaces := #[]
  cf := some (fileOf pool16 8 #[.nestMembers #[319, 327, 801, 108, 663, 208]] #[{ accessFlags := 2, nameIndex := 5, descriptorIndex := 6, attributes := #[] }, { accessFlags := 265, nameIndex := 727, descriptorIndex := 728, attributes := #[] }] 49 2 #[] #[{ accessFlags := 25, nameIndex := 507, descriptorIndex := 526, attributes := #[] }, { accessFlags := 25, nameIndex := 399, descriptorIndex := 155, attributes := #[] }, { accessFlags := 25, nameIndex := 396, descriptorIndex := 155, attributes := #[] }, { accessFlags := 10, nameIndex := 525, descriptorIndex := 526, attributes := #[] }, { accessFlags := 26, nameIndex := 674, descriptorIndex := 12, attributes := #[] }, { accessFlags := 26, nameIndex := 677, descriptorIndex := 12, attributes := #[] }, { accessFlags := 10, nameIndex := 11, descriptorIndex := 12, attributes := #[] }, { accessFlags := 74, nameIndex := 175, descriptorIndex := 176, attributes := #[] }, { accessFlags := 10, nameIndex := 491, descriptorIndex := 222, attributes := #[] }, { accessFlags := 74, nameIndex := 29, descriptorIndex := 30, attributes := #[] }, { accessFlags := 74, nameIndex := 154, descriptorIndex := 155, attributes := #[] }, { accessFlags := 10, nameIndex := 217, descriptorIndex := 218, attributes := #[] }, { accessFlags := 10, nameIndex := 221, descriptorIndex := 222, attributes := #[] }, { accessFlags := 8, nameIndex := 562, descriptorIndex := 563, attributes := #[] }])
  fields := #[{ name := "in", type := (.object "java/io/InputStream"), accessFlags := 25, slot := 0, constantValue := 0 }, { name := "out", type := (.object "java/io/PrintStream"), accessFlags := 25, slot := 1, constantValue := 0 }, { name := "err", type := (.object "java/io/PrintStream"), accessFlags := 25, slot := 2, constantValue := 0 }, { name := "initialIn", type := (.object "java/io/InputStream"), accessFlags := 10, slot := 3, constantValue := 0 }, { name := "NEVER", type := .int, accessFlags := 26, slot := 4, constantValue := 0 }, { name := "MAYBE", type := .int, accessFlags := 26, slot := 5, constantValue := 0 }, { name := "allowSecurityManager", type := .int, accessFlags := 10, slot := 6, constantValue := 0 }, { name := "security", type := (.object "java/lang/SecurityManager"), accessFlags := 74, slot := 7, constantValue := 0 }, { name := "notSupportedJnuEncoding", type := (.object "java/lang/String"), accessFlags := 10, slot := 8, constantValue := 0 }, { name := "cons", type := (.object "java/io/Console"), accessFlags := 74, slot := 9, constantValue := 0 }, { name := "initialErrStream", type := (.object "java/io/PrintStream"), accessFlags := 74, slot := 10, constantValue := 0 }, { name := "props", type := (.object "java/util/Properties"), accessFlags := 10, slot := 11, constantValue := 0 }, { name := "lineSeparator", type := (.object "java/lang/String"), accessFlags := 10, slot := 12, constantValue := 0 }, { name := "bootLayer", type := (.object "java/lang/ModuleLayer"), accessFlags := 8, slot := 13, constantValue := 0 }]
  methods := #[k16m0, k16m1]
  instanceTypes := #[]
  staticTypes := #[(.object "java/io/InputStream"), (.object "java/io/PrintStream"), (.object "java/io/PrintStream"), (.object "java/io/InputStream"), .int, .int, .int, (.object "java/lang/SecurityManager"), (.object "java/lang/String"), (.object "java/io/Console"), (.object "java/io/PrintStream"), (.object "java/util/Properties"), (.object "java/lang/String"), (.object "java/lang/ModuleLayer")]
  resolved := Array.replicate 834 none
  statics := none }

def pool17 : Array CpInfo := pool [(2, .class_ 4), (1, u "java/lang/Object"), (0, u "<init>"), (0, u "()V"), (1, .class_ 10), (1, u "java/lang/Number"), (2, .class_ 14), (0, u "java/io/Serializable"), (0, u "serialVersionUID"), (0, u "J")] 20

def k17m0 : Method := { name := "<init>", desc := "()V", sig := { parameters := [], returnType := none }, accessFlags := 1, code := none }
/-- java/lang/Number -/
def k17 : Class := { plain "java/lang/Number" (some 0) with
  accessFlags := 1057
  interfaces := #[2]
  cf := some (fileOf pool17 8 #[] #[{ accessFlags := 1, nameIndex := 5, descriptorIndex := 6, attributes := #[] }] 1057 2 #[13] #[{ accessFlags := 26, nameIndex := 15, descriptorIndex := 16, attributes := #[] }])
  fields := #[{ name := "serialVersionUID", type := .long, accessFlags := 26, slot := 0, constantValue := 0 }]
  methods := #[k17m0]
  instanceTypes := #[]
  staticTypes := #[.long]
  resolved := Array.replicate 37 none
  statics := none }

def pool18 : Array CpInfo := pool [(1, .class_ 2), (0, u "java/lang/Integer"), (16, u "digits"), (0, u "[C"), (33, u "(I)I"), (19, u "stringSize"), (2, u "getChars"), (0, u "(II[B)I"), (4, .fieldref 1 84), (0, .nameAndType 85 86), (0, u "DigitOnes"), (0, u "[B"), (0, .fieldref 1 88), (0, .nameAndType 89 86), (0, u "DigitTens"), (99, .class_ 190), (0, u "java/lang/Integer$IntegerCache"), (3, u "I"), (8, .class_ 204), (0, u "java/lang/Number"), (2, u "value"), (94, u "TYPE"), (0, u "Ljava/lang/Class;"), (0, .class_ 305), (0, u "java/lang/Comparable"), (0, .class_ 307), (0, u "java/lang/constant/Constable"), (0, .class_ 309), (0, u "java/lang/constant/ConstantDesc"), (0, u "MIN_VALUE"), (1, u "MAX_VALUE"), (3, u "SIZE"), (1, u "BYTES"), (1, u "serialVersionUID"), (0, u "J")] 131

def k18c0 : Code := { maxStack := 4, maxLocals := 7, code := jdk_33_method_12_code, exceptionTable := #[], attributes := #[] }
def k18m0 : Method := { name := "getChars", desc := "(II[B)I", sig := { parameters := [.int, .int, (.array .byte)], returnType := some .int }, accessFlags := 8, code := some k18c0 }
def k18c1 : Code := { maxStack := 2, maxLocals := 4, code := jdk_33_method_13_code, exceptionTable := #[], attributes := #[] }
def k18m1 : Method := { name := "stringSize", desc := "(I)I", sig := { parameters := [.int], returnType := some .int }, accessFlags := 8, code := some k18c1 }
/-- java/lang/Integer -/
def k18 : Class := { plain "java/lang/Integer" (some 17) with
  accessFlags := 49
  interfaces := #[3, 5, 6]
  cf := some (fileOf pool18 1 #[.nestMembers #[189]] #[{ accessFlags := 8, nameIndex := 77, descriptorIndex := 78, attributes := #[] }, { accessFlags := 8, nameIndex := 74, descriptorIndex := 54, attributes := #[] }] 49 203 #[304, 306, 308] #[{ accessFlags := 25, nameIndex := 310, descriptorIndex := 194, attributes := #[] }, { accessFlags := 25, nameIndex := 312, descriptorIndex := 194, attributes := #[] }, { accessFlags := 25, nameIndex := 302, descriptorIndex := 303, attributes := #[] }, { accessFlags := 24, nameIndex := 19, descriptorIndex := 20, attributes := #[] }, { accessFlags := 24, nameIndex := 89, descriptorIndex := 86, attributes := #[] }, { accessFlags := 24, nameIndex := 85, descriptorIndex := 86, attributes := #[] }, { accessFlags := 18, nameIndex := 207, descriptorIndex := 194, attributes := #[] }, { accessFlags := 25, nameIndex := 316, descriptorIndex := 194, attributes := #[] }, { accessFlags := 25, nameIndex := 318, descriptorIndex := 194, attributes := #[] }, { accessFlags := 26, nameIndex := 320, descriptorIndex := 321, attributes := #[] }])
  fields := #[{ name := "MIN_VALUE", type := .int, accessFlags := 25, slot := 0, constantValue := 0 }, { name := "MAX_VALUE", type := .int, accessFlags := 25, slot := 1, constantValue := 0 }, { name := "TYPE", type := (.object "java/lang/Class"), accessFlags := 25, slot := 2, constantValue := 0 }, { name := "digits", type := (.array .char), accessFlags := 24, slot := 3, constantValue := 0 }, { name := "DigitTens", type := (.array .byte), accessFlags := 24, slot := 4, constantValue := 0 }, { name := "DigitOnes", type := (.array .byte), accessFlags := 24, slot := 5, constantValue := 0 }, { name := "value", type := .int, accessFlags := 18, slot := 0, constantValue := 0 }, { name := "SIZE", type := .int, accessFlags := 25, slot := 6, constantValue := 0 }, { name := "BYTES", type := .int, accessFlags := 25, slot := 7, constantValue := 0 }, { name := "serialVersionUID", type := .long, accessFlags := 26, slot := 8, constantValue := 0 }]
  methods := #[k18m0, k18m1]
  instanceTypes := #[.int]
  staticTypes := #[.int, .int, (.object "java/lang/Class"), (.array .char), (.array .byte), (.array .byte), .int, .int, .long]
  resolved := Array.replicate 453 none
  statics := some 1 }

def pool19 : Array CpInfo := pool [(2, .class_ 4), (1, u "java/lang/Object"), (0, u "<init>"), (0, u "()V"), (7, .class_ 16), (1, u "java/util/Arrays"), (57, .class_ 76), (1, u "java/util/Arrays$NaturalOrder"), (36, .class_ 115), (1, u "java/util/Arrays$LegacyMergeSort"), (1, u "Z"), (21, u "copyOfRange"), (10, .methodref 151 152), (0, .class_ 153), (0, .nameAndType 154 155), (0, u "java/lang/System"), (0, u "arraycopy"), (0, u "(Ljava/lang/Object;ILjava/lang/Object;II)V"), (148, .methodref 305 306), (0, .class_ 307), (0, .nameAndType 308 309), (0, u "java/lang/Math"), (0, u "min"), (0, u "(II)I"), (29, .methodref 14 340), (0, .nameAndType 341 342), (0, u "copyOfRangeByte"), (0, u "([BII)[B"), (0, .methodref 14 344), (0, .nameAndType 345 346), (0, u "checkLength"), (0, u "(II)V"), (28, .class_ 376), (0, u "java/util/Arrays$ArrayList"), (68, u "$assertionsDisabled"), (269, u "MIN_ARRAY_SORT_GRAN"), (0, u "I"), (2, u "INSERTIONSORT_THRESHOLD"), (255, .class_ 976), (0, u "java/util/Arrays$ArrayItr")] 52

def k19m0 : Method := { name := "<init>", desc := "()V", sig := { parameters := [], returnType := none }, accessFlags := 2, code := none }
def k19c1 : Code := { maxStack := 4, maxLocals := 2, code := jdk_65_method_131_code, exceptionTable := #[], attributes := #[] }
def k19m1 : Method := { name := "checkLength", desc := "(II)V", sig := { parameters := [.int, .int], returnType := none }, accessFlags := 10, code := some k19c1 }
def k19c2 : Code := { maxStack := 3, maxLocals := 3, code := jdk_65_method_132_code, exceptionTable := #[], attributes := #[] }
def k19m2 : Method := { name := "copyOfRange", desc := "([BII)[B", sig := { parameters := [(.array .byte), .int, .int], returnType := some (.array .byte) }, accessFlags := 9, code := some k19c2 }
def k19c3 : Code := { maxStack := 6, maxLocals := 5, code := jdk_65_method_133_code, exceptionTable := #[], attributes := #[] }
def k19m3 : Method := { name := "copyOfRangeByte", desc := "([BII)[B", sig := { parameters := [(.array .byte), .int, .int], returnType := some (.array .byte) }, accessFlags := 10, code := some k19c3 }
/-- java/util/Arrays -/
def k19 : Class := { plain "java/util/Arrays" (some 0) with
  accessFlags := 49
  interfaces := #[]
  cf := some (fileOf pool19 14 #[.nestMembers #[975, 375, 113, 74]] #[{ accessFlags := 2, nameIndex := 5, descriptorIndex := 6, attributes := #[] }, { accessFlags := 10, nameIndex := 345, descriptorIndex := 346, attributes := #[] }, { accessFlags := 9, nameIndex := 139, descriptorIndex := 342, attributes := #[] }, { accessFlags := 10, nameIndex := 341, descriptorIndex := 342, attributes := #[] }] 49 2 #[] #[{ accessFlags := 26, nameIndex := 715, descriptorIndex := 716, attributes := #[] }, { accessFlags := 26, nameIndex := 719, descriptorIndex := 716, attributes := #[] }, { accessFlags := 4120, nameIndex := 445, descriptorIndex := 117, attributes := #[] }])
  fields := #[{ name := "MIN_ARRAY_SORT_GRAN", type := .int, accessFlags := 26, slot := 0, constantValue := 0 }, { name := "INSERTIONSORT_THRESHOLD", type := .int, accessFlags := 26, slot := 1, constantValue := 0 }, { name := "$assertionsDisabled", type := .boolean, accessFlags := 4120, slot := 2, constantValue := 0 }]
  methods := #[k19m0, k19m1, k19m2, k19m3]
  instanceTypes := #[]
  staticTypes := #[.int, .int, .boolean]
  resolved := Array.replicate 1029 none
  statics := none }

def pool20 : Array CpInfo := pool [(1, .class_ 2), (0, u "java/lang/Math"), (1, .class_ 6), (1, u "java/lang/Object"), (0, u "<init>"), (0, u "()V"), (89, .class_ 100), (1, u "java/lang/Math$RandomNumberGeneratorHolder"), (71, u "negativeZeroFloatBits"), (0, u "J"), (2, u "negativeZeroDoubleBits"), (24, u "min"), (43, u "$assertionsDisabled"), (0, u "Z"), (88, u "(II)I"), (2, u "twoToTheDoubleScaleDown"), (0, u "D"), (4, u "twoToTheDoubleScaleUp"), (9, u "E"), (3, u "PI"), (2, u "TAU"), (2, u "DEGREES_TO_RADIANS"), (0, u "RADIANS_TO_DEGREES")] 94

def k20m0 : Method := { name := "<init>", desc := "()V", sig := { parameters := [], returnType := none }, accessFlags := 2, code := none }
def k20c1 : Code := { maxStack := 2, maxLocals := 2, code := jdk_29_method_69_code, exceptionTable := #[], attributes := #[] }
def k20m1 : Method := { name := "min", desc := "(II)I", sig := { parameters := [.int, .int], returnType := some .int }, accessFlags := 9, code := some k20c1 }
/-- java/lang/Math -/
def k20 : Class := { plain "java/lang/Math" (some 0) with
  accessFlags := 49
  interfaces := #[]
  cf := some (fileOf pool20 1 #[.nestMembers #[98]] #[{ accessFlags := 2, nameIndex := 7, descriptorIndex := 8, attributes := #[] }, { accessFlags := 9, nameIndex := 201, descriptorIndex := 335, attributes := #[] }] 49 4 #[] #[{ accessFlags := 25, nameIndex := 354, descriptorIndex := 339, attributes := #[] }, { accessFlags := 25, nameIndex := 358, descriptorIndex := 339, attributes := #[] }, { accessFlags := 25, nameIndex := 361, descriptorIndex := 339, attributes := #[] }, { accessFlags := 26, nameIndex := 364, descriptorIndex := 339, attributes := #[] }, { accessFlags := 26, nameIndex := 365, descriptorIndex := 339, attributes := #[] }, { accessFlags := 26, nameIndex := 172, descriptorIndex := 173, attributes := #[] }, { accessFlags := 26, nameIndex := 176, descriptorIndex := 173, attributes := #[] }, { accessFlags := 8, nameIndex := 344, descriptorIndex := 339, attributes := #[] }, { accessFlags := 8, nameIndex := 338, descriptorIndex := 339, attributes := #[] }, { accessFlags := 4120, nameIndex := 245, descriptorIndex := 246, attributes := #[] }])
  fields := #[{ name := "E", type := .double, accessFlags := 25, slot := 0, constantValue := 0 }, { name := "PI", type := .double, accessFlags := 25, slot := 1, constantValue := 0 }, { name := "TAU", type := .double, accessFlags := 25, slot := 2, constantValue := 0 }, { name := "DEGREES_TO_RADIANS", type := .double, accessFlags := 26, slot := 3, constantValue := 0 }, { name := "RADIANS_TO_DEGREES", type := .double, accessFlags := 26, slot := 4, constantValue := 0 }, { name := "negativeZeroFloatBits", type := .long, accessFlags := 26, slot := 5, constantValue := 0 }, { name := "negativeZeroDoubleBits", type := .long, accessFlags := 26, slot := 6, constantValue := 0 }, { name := "twoToTheDoubleScaleUp", type := .double, accessFlags := 8, slot := 7, constantValue := 0 }, { name := "twoToTheDoubleScaleDown", type := .double, accessFlags := 8, slot := 8, constantValue := 0 }, { name := "$assertionsDisabled", type := .boolean, accessFlags := 4120, slot := 9, constantValue := 0 }]
  methods := #[k20m0, k20m1]
  instanceTypes := #[]
  staticTypes := #[.double, .double, .double, .double, .double, .long, .long, .double, .double, .boolean]
  resolved := Array.replicate 460 none
  statics := none }

def pool21 : Array CpInfo := pool [(2, .class_ 4), (1, u "java/lang/Object"), (0, u "<init>"), (0, u "()V"), (17, .class_ 26), (1, u "jdk/internal/util/Preconditions"), (6, u "checkIndex"), (21, .class_ 56), (0, u "jdk/internal/util/Preconditions$4"), (57, .class_ 115), (0, u "jdk/internal/util/Preconditions$1"), (7, u "SIOOBE_FORMATTER"), (0, u "Ljava/util/function/BiFunction;"), (0, .class_ 126), (0, u "jdk/internal/util/Preconditions$2"), (3, u "AIOOBE_FORMATTER"), (0, .class_ 132), (0, u "jdk/internal/util/Preconditions$3"), (3, u "IOOBE_FORMATTER"), (41, u "(IILjava/util/function/BiFunction;)I")] 15

def k21m0 : Method := { name := "<init>", desc := "()V", sig := { parameters := [], returnType := none }, accessFlags := 1, code := none }
def k21c1 : Code := { maxStack := 3, maxLocals := 3, code := jdk_41_method_11_code, exceptionTable := #[], attributes := #[] }
def k21m1 : Method := { name := "checkIndex", desc := "(IILjava/util/function/BiFunction;)I", sig := { parameters := [.int, .int, (.object "java/util/function/BiFunction")], returnType := some .int }, accessFlags := 9, code := some k21c1 }
/-- jdk/internal/util/Preconditions -/
def k21 : Class := { plain "jdk/internal/util/Preconditions" (some 0) with
  accessFlags := 33
  interfaces := #[]
  cf := some (fileOf pool21 24 #[.nestMembers #[55, 131, 125, 114]] #[{ accessFlags := 1, nameIndex := 5, descriptorIndex := 6, attributes := #[] }, { accessFlags := 9, nameIndex := 33, descriptorIndex := 178, attributes := #[] }] 33 2 #[] #[{ accessFlags := 25, nameIndex := 123, descriptorIndex := 124, attributes := #[] }, { accessFlags := 25, nameIndex := 130, descriptorIndex := 124, attributes := #[] }, { accessFlags := 25, nameIndex := 136, descriptorIndex := 124, attributes := #[] }])
  fields := #[{ name := "SIOOBE_FORMATTER", type := (.object "java/util/function/BiFunction"), accessFlags := 25, slot := 0, constantValue := 0 }, { name := "AIOOBE_FORMATTER", type := (.object "java/util/function/BiFunction"), accessFlags := 25, slot := 1, constantValue := 0 }, { name := "IOOBE_FORMATTER", type := (.object "java/util/function/BiFunction"), accessFlags := 25, slot := 2, constantValue := 0 }]
  methods := #[k21m0, k21m1]
  instanceTypes := #[]
  staticTypes := #[(.object "java/util/function/BiFunction"), (.object "java/util/function/BiFunction"), (.object "java/util/function/BiFunction")]
  resolved := Array.replicate 194 none
  statics := some 2 }

def pool22 : Array CpInfo := pool [(9, u "<init>"), (6, .class_ 18), (1, u "java/lang/Object"), (0, u "()V"), (1, .class_ 23), (1, u "jdk/internal/util/ArraysSupport"), (0, u "LOG2_ARRAY_LONG_INDEX_SCALE"), (0, u "I"), (2, u "U"), (0, u "Ljdk/internal/misc/Unsafe;"), (8, u "BIG_ENDIAN"), (0, u "Z"), (8, u "LOG2_BYTE_BIT_SIZE"), (4, u "LOG2_ARRAY_INT_INDEX_SCALE"), (54, u "JLA"), (0, u "Ljdk/internal/access/JavaLangAccess;"), (11, u "LOG2_ARRAY_BOOLEAN_INDEX_SCALE"), (9, u "LOG2_ARRAY_BYTE_INDEX_SCALE"), (5, u "LOG2_ARRAY_CHAR_INDEX_SCALE"), (5, u "LOG2_ARRAY_SHORT_INDEX_SCALE"), (18, u "LOG2_ARRAY_FLOAT_INDEX_SCALE"), (24, u "LOG2_ARRAY_DOUBLE_INDEX_SCALE"), (89, u "T_BOOLEAN"), (2, u "T_CHAR"), (1, u "T_FLOAT"), (1, u "T_DOUBLE"), (1, u "T_BYTE"), (1, u "T_SHORT"), (1, u "T_INT"), (1, u "T_LONG"), (1, u "SOFT_MAX_ARRAY_LENGTH")] 83

def k22m0 : Method := { name := "<init>", desc := "()V", sig := { parameters := [], returnType := none }, accessFlags := 2, code := none }
/-- jdk/internal/util/ArraysSupport -/
def k22 : Class := { plain "jdk/internal/util/ArraysSupport" (some 0) with
  accessFlags := 33
  interfaces := #[]
  cf := some (fileOf pool22 21 #[] #[{ accessFlags := 2, nameIndex := 9, descriptorIndex := 19, attributes := #[] }] 33 16 #[] #[{ accessFlags := 24, nameIndex := 28, descriptorIndex := 29, attributes := #[] }, { accessFlags := 26, nameIndex := 38, descriptorIndex := 39, attributes := #[] }, { accessFlags := 25, nameIndex := 121, descriptorIndex := 25, attributes := #[] }, { accessFlags := 25, nameIndex := 131, descriptorIndex := 25, attributes := #[] }, { accessFlags := 25, nameIndex := 137, descriptorIndex := 25, attributes := #[] }, { accessFlags := 25, nameIndex := 143, descriptorIndex := 25, attributes := #[] }, { accessFlags := 25, nameIndex := 53, descriptorIndex := 25, attributes := #[] }, { accessFlags := 25, nameIndex := 24, descriptorIndex := 25, attributes := #[] }, { accessFlags := 25, nameIndex := 162, descriptorIndex := 25, attributes := #[] }, { accessFlags := 25, nameIndex := 187, descriptorIndex := 25, attributes := #[] }, { accessFlags := 26, nameIndex := 48, descriptorIndex := 25, attributes := #[] }, { accessFlags := 25, nameIndex := 277, descriptorIndex := 25, attributes := #[] }, { accessFlags := 25, nameIndex := 280, descriptorIndex := 25, attributes := #[] }, { accessFlags := 25, nameIndex := 282, descriptorIndex := 25, attributes := #[] }, { accessFlags := 25, nameIndex := 284, descriptorIndex := 25, attributes := #[] }, { accessFlags := 25, nameIndex := 286, descriptorIndex := 25, attributes := #[] }, { accessFlags := 25, nameIndex := 288, descriptorIndex := 25, attributes := #[] }, { accessFlags := 25, nameIndex := 290, descriptorIndex := 25, attributes := #[] }, { accessFlags := 25, nameIndex := 292, descriptorIndex := 25, attributes := #[] }, { accessFlags := 26, nameIndex := 108, descriptorIndex := 109, attributes := #[] }, { accessFlags := 25, nameIndex := 294, descriptorIndex := 25, attributes := #[] }])
  fields := #[{ name := "U", type := (.object "jdk/internal/misc/Unsafe"), accessFlags := 24, slot := 0, constantValue := 0 }, { name := "BIG_ENDIAN", type := .boolean, accessFlags := 26, slot := 1, constantValue := 0 }, { name := "LOG2_ARRAY_BOOLEAN_INDEX_SCALE", type := .int, accessFlags := 25, slot := 2, constantValue := 0 }, { name := "LOG2_ARRAY_BYTE_INDEX_SCALE", type := .int, accessFlags := 25, slot := 3, constantValue := 0 }, { name := "LOG2_ARRAY_CHAR_INDEX_SCALE", type := .int, accessFlags := 25, slot := 4, constantValue := 0 }, { name := "LOG2_ARRAY_SHORT_INDEX_SCALE", type := .int, accessFlags := 25, slot := 5, constantValue := 0 }, { name := "LOG2_ARRAY_INT_INDEX_SCALE", type := .int, accessFlags := 25, slot := 6, constantValue := 0 }, { name := "LOG2_ARRAY_LONG_INDEX_SCALE", type := .int, accessFlags := 25, slot := 7, constantValue := 0 }, { name := "LOG2_ARRAY_FLOAT_INDEX_SCALE", type := .int, accessFlags := 25, slot := 8, constantValue := 0 }, { name := "LOG2_ARRAY_DOUBLE_INDEX_SCALE", type := .int, accessFlags := 25, slot := 9, constantValue := 0 }, { name := "LOG2_BYTE_BIT_SIZE", type := .int, accessFlags := 26, slot := 10, constantValue := 0 }, { name := "T_BOOLEAN", type := .int, accessFlags := 25, slot := 11, constantValue := 0 }, { name := "T_CHAR", type := .int, accessFlags := 25, slot := 12, constantValue := 0 }, { name := "T_FLOAT", type := .int, accessFlags := 25, slot := 13, constantValue := 0 }, { name := "T_DOUBLE", type := .int, accessFlags := 25, slot := 14, constantValue := 0 }, { name := "T_BYTE", type := .int, accessFlags := 25, slot := 15, constantValue := 0 }, { name := "T_SHORT", type := .int, accessFlags := 25, slot := 16, constantValue := 0 }, { name := "T_INT", type := .int, accessFlags := 25, slot := 17, constantValue := 0 }, { name := "T_LONG", type := .int, accessFlags := 25, slot := 18, constantValue := 0 }, { name := "JLA", type := (.object "jdk/internal/access/JavaLangAccess"), accessFlags := 26, slot := 19, constantValue := 0 }, { name := "SOFT_MAX_ARRAY_LENGTH", type := .int, accessFlags := 25, slot := 20, constantValue := 0 }]
  methods := #[k22m0]
  instanceTypes := #[]
  staticTypes := #[(.object "jdk/internal/misc/Unsafe"), .boolean, .int, .int, .int, .int, .int, .int, .int, .int, .int, .int, .int, .int, .int, .int, .int, .int, .int, (.object "jdk/internal/access/JavaLangAccess"), .int]
  resolved := Array.replicate 378 none
  statics := none }

def pool23 : Array CpInfo := pool [(1, u "java/lang/Cloneable"), (0, .class_ 1), (0, u "java/lang/Object"), (0, .class_ 3)] 3

/-- java/lang/Cloneable -/
def k23 : Class := { plain "java/lang/Cloneable" (some 0) with
  accessFlags := 1537
  interfaces := #[]
  cf := some (fileOf pool23 2 #[] #[] 1537 4 #[] #[])
  fields := #[]
  methods := #[]
  instanceTypes := #[]
  staticTypes := #[]
  resolved := Array.replicate 8 none
  statics := none }

/-- the primitive byte -/
def k24 : Class := { plain "byte" none with kind := .primitive 'B', accessFlags := 0x411 }
/-- [B -/
def k25 : Class := { plain "[B" (some 0) with kind := .array 24 .byte, interfaces := #[23, 2], accessFlags := 1041 }

/-- the primitive char -/
def k26 : Class := { plain "char" none with kind := .primitive 'C', accessFlags := 0x411 }
/-- [C -/
def k27 : Class := { plain "[C" (some 0) with kind := .array 26 .char, interfaces := #[23, 2], accessFlags := 1041 }

/-- the primitive int -/
def k28 : Class := { plain "int" none with kind := .primitive 'I', accessFlags := 0x411 }
/-- [I -/
def k29 : Class := { plain "[I" (some 0) with kind := .array 28 .int, interfaces := #[23, 2], accessFlags := 1041 }

def heap : Heap := #[{ cls := 7, slots := #[.long 0, .int 1, .null, .int 0, .null, .int 0, .int 0], vm := .statics 7 },
  { cls := 18, slots := #[.int 0, .int 0, .null, .null, .ref 4, .ref 3, .int 0, .int 0, .long 0], vm := .statics 18 },
  { cls := 21, slots := #[.null, .null, .null], vm := .statics 21 },
  { cls := 25, slots := #[.int 48, .int 49, .int 50, .int 51, .int 52, .int 53, .int 54, .int 55, .int 56, .int 57, .int 48, .int 49, .int 50, .int 51, .int 52, .int 53, .int 54, .int 55, .int 56, .int 57, .int 48, .int 49, .int 50, .int 51, .int 52, .int 53, .int 54, .int 55, .int 56, .int 57, .int 48, .int 49, .int 50, .int 51, .int 52, .int 53, .int 54, .int 55, .int 56, .int 57, .int 48, .int 49, .int 50, .int 51, .int 52, .int 53, .int 54, .int 55, .int 56, .int 57, .int 48, .int 49, .int 50, .int 51, .int 52, .int 53, .int 54, .int 55, .int 56, .int 57, .int 48, .int 49, .int 50, .int 51, .int 52, .int 53, .int 54, .int 55, .int 56, .int 57, .int 48, .int 49, .int 50, .int 51, .int 52, .int 53, .int 54, .int 55, .int 56, .int 57, .int 48, .int 49, .int 50, .int 51, .int 52, .int 53, .int 54, .int 55, .int 56, .int 57, .int 48, .int 49, .int 50, .int 51, .int 52, .int 53, .int 54, .int 55, .int 56, .int 57], vm := .none },
  { cls := 25, slots := #[.int 48, .int 48, .int 48, .int 48, .int 48, .int 48, .int 48, .int 48, .int 48, .int 48, .int 49, .int 49, .int 49, .int 49, .int 49, .int 49, .int 49, .int 49, .int 49, .int 49, .int 50, .int 50, .int 50, .int 50, .int 50, .int 50, .int 50, .int 50, .int 50, .int 50, .int 51, .int 51, .int 51, .int 51, .int 51, .int 51, .int 51, .int 51, .int 51, .int 51, .int 52, .int 52, .int 52, .int 52, .int 52, .int 52, .int 52, .int 52, .int 52, .int 52, .int 53, .int 53, .int 53, .int 53, .int 53, .int 53, .int 53, .int 53, .int 53, .int 53, .int 54, .int 54, .int 54, .int 54, .int 54, .int 54, .int 54, .int 54, .int 54, .int 54, .int 55, .int 55, .int 55, .int 55, .int 55, .int 55, .int 55, .int 55, .int 55, .int 55, .int 56, .int 56, .int 56, .int 56, .int 56, .int 56, .int 56, .int 56, .int 56, .int 56, .int 57, .int 57, .int 57, .int 57, .int 57, .int 57, .int 57, .int 57, .int 57, .int 57], vm := .none }]
def classes : Array Class := #[k0, k1, k2, k3, k4, k5, k6, k7, k8, k9, k10, k11, k12, k13, k14, k15, k16, k17, k18, k19, k20, k21, k22, k23, k24, k25, k26, k27, k28, k29]
def interned : List (Array UInt16 × Addr) := []
def slotsUsed : Nat := 219
def theMethod : MethodId := ⟨1, 1⟩
def args0 : Array Value := #[.int 1, .int 2, .int 3]
def aboutOver (below : List Frame) : State where
  vm := { classes := classes, interned := interned.toArray }
  heap := heap
  slotsUsed := slotsUsed
  threads := #[{ frames := .invoking theMethod args0 :: below }]
def below0 : List Frame := [.native { method := ⟨0, 0⟩, args := #[] }]
def about1 : State := aboutOver below0
def p0 : Program := .bare "" "" ""
def e0 : Env := launch0.env 0 0 0
theorem w_frames : about1.frames = Frame.invoking theMethod args0 :: below0 := rfl
set_option maxRecDepth 65536 in
theorem w_args : argsFit about1.vm theMethod args0 = true := by decide +kernel
set_option maxRecDepth 65536 in
theorem w_heap : heapFits about1 = true := by decide +kernel
set_option maxRecDepth 65536 in
theorem w_runnable : about1.curStatus? = some .runnable := by decide +kernel
set_option maxRecDepth 65536 in
theorem w_alone : about1.alone = true := by decide +kernel
set_option maxRecDepth 65536 in
theorem w_named : about1.methodNamed? x = some theMethod := by decide +kernel
set_option maxRecDepth 65536 in
theorem w_hears : about1.hears theMethod below0 = true := by decide +kernel
set_option maxRecDepth 65536 in
theorem w_ripe : about1.ripe theMethod args0 below0 = true := by decide +kernel
theorem w_running : about1.status = .running := rfl
set_option maxRecDepth 65536 in
theorem w_room : about1.hasRoom e0.platform room_1 = true :=
  launch0.hasRoom_least _ room_1 (by decide +kernel) (by decide +kernel) (by decide +kernel) (by decide +kernel) (by decide +kernel) (by decide +kernel)
theorem allAtoms_all (ts : List Jvm.Cond) (a : Array Jvm.Value) (st : Jvm.State) : (allAtoms ts).before a st = ts.all (fun c => c.before a st) := by
  induction ts with
  | nil => rfl
  | cons c t ih =>
    show (Jvm.Cond.and c (allAtoms t)).before a st = _
    rw [Jvm.Cond.before_and, ih, List.all_cons]
def words1 : List Jvm.Cond := Jvm.Cond.code x code maxLocals ret :: tables_1
/-- a 'code' word, met by the world's own term for the bytes: nothing is compared byte by byte -/
theorem code_word {y : MethodName} {bytes : ByteArray} {mx : Nat} {rt : Option FieldType} {a : Array Value} {s : State} {m : MethodId} {meth : Method} {c : Code} (h1 : s.methodNamed? y = some m) (h2 : s.vm.method? m = some meth) (h3 : meth.code = some c) (h4 : c.code = bytes)
    (h5 : (c.maxLocals == mx && c.exceptionTable.isEmpty && decide (c.maxStack ≤ mostOperands) && decide (meth.sig.returnType = rt) && !meth.locks && decide (parseMethodDescriptor y.desc = some meth.sig)) = true) : (Jvm.Cond.code y bytes mx rt).before a s = true := by
  simp only [Bool.and_eq_true, beq_iff_eq, Bool.not_eq_true', decide_eq_true_eq] at h5
  obtain ⟨⟨⟨⟨⟨g1, g2⟩, g3⟩, g4⟩, g5⟩, g6⟩ := h5
  simp [Cond.before, Cond.holds, Cond.value, h1, h2, h3, h4, g1, g2, g3, g4, g5, g6]
def isCode : Jvm.Cond → Bool
  | .code _ _ _ _ => true
  | _ => false
theorem all_split {L : List Jvm.Cond} {P : Jvm.Cond → Bool} (h1 : L.all (fun c => isCode c || P c) = true) (h2 : ∀ c ∈ L.filter isCode, P c = true) : L.all P = true := by
  refine List.all_eq_true.mpr fun c hc => ?_
  have h := List.all_eq_true.mp h1 c hc
  rcases Bool.eq_false_or_eq_true (isCode c) with hi | hi
  · exact h2 c (List.mem_filter.mpr ⟨hc, hi⟩)
  · simpa [hi] using h
set_option maxRecDepth 65536 in
theorem w_c0 : (Jvm.Cond.code x code maxLocals ret).before args0 about1 = true := code_word (m := ⟨1, 1⟩) (meth := k1m1) (c := k1c1) (by decide +kernel) rfl rfl rfl (by decide +kernel)
set_option maxRecDepth 65536 in
theorem w_c1 : (Jvm.Cond.code ({ cls := "java/lang/String", name := "<init>", desc := "([C)V" } : Jvm.MethodName) jdk_42_method_3_code (2 : Nat) (Option.none : Option Jvm.ClassFile.FieldType)).before args0 about1 = true := code_word (m := ⟨7, 1⟩) (meth := k7m1) (c := k7c1) (by decide +kernel) rfl rfl rfl (by decide +kernel)
set_option maxRecDepth 65536 in
theorem w_c2 : (Jvm.Cond.code ({ cls := "java/lang/String", name := "<init>", desc := "([CIILjava/lang/Void;)V" } : Jvm.MethodName) jdk_42_method_149_code (6 : Nat) (Option.none : Option Jvm.ClassFile.FieldType)).before args0 about1 = true := code_word (m := ⟨7, 8⟩) (meth := k7m8) (c := k7c8) (by decide +kernel) rfl rfl rfl (by decide +kernel)
set_option maxRecDepth 65536 in
theorem w_c3 : (Jvm.Cond.code ({ cls := "java/lang/Object", name := "<init>", desc := "()V" } : Jvm.MethodName) object_method_1_code (1 : Nat) (Option.none : Option Jvm.ClassFile.FieldType)).before args0 about1 = true := code_word (m := ⟨0, 0⟩) (meth := k0m0) (c := k0c0) (by decide +kernel) rfl rfl rfl (by decide +kernel)
set_option maxRecDepth 65536 in
theorem w_c4 : (Jvm.Cond.code ({ cls := "java/lang/StringUTF16", name := "compress", desc := "([CII)[B" } : Jvm.MethodName) jdk_52_method_16_code (6 : Nat) (Option.some (Jvm.ClassFile.FieldType.array Jvm.ClassFile.FieldType.byte))).before args0 about1 = true := code_word (m := ⟨8, 2⟩) (meth := k8m2) (c := k8c2) (by decide +kernel) rfl rfl rfl (by decide +kernel)
set_option maxRecDepth 65536 in
theorem w_c5 : (Jvm.Cond.code ({ cls := "java/lang/StringUTF16", name := "compress", desc := "([CI[BII)I" } : Jvm.MethodName) jdk_52_method_21_code (7 : Nat) (Option.some Jvm.ClassFile.FieldType.int)).before args0 about1 = true := code_word (m := ⟨8, 3⟩) (meth := k8m3) (c := k8c3) (by decide +kernel) rfl rfl rfl (by decide +kernel)
set_option maxRecDepth 65536 in
theorem w_c6 : (Jvm.Cond.code ({ cls := "java/lang/StringUTF16", name := "coderFromArrayLen", desc := "([BI)B" } : Jvm.MethodName) jdk_52_method_15_code (2 : Nat) (Option.some Jvm.ClassFile.FieldType.byte)).before args0 about1 = true := code_word (m := ⟨8, 1⟩) (meth := k8m1) (c := k8c1) (by decide +kernel) rfl rfl rfl (by decide +kernel)
set_option maxRecDepth 65536 in
theorem w_c7 : (Jvm.Cond.code ({ cls := "java/lang/String", name := "valueOf", desc := "(C)Ljava/lang/String;" } : Jvm.MethodName) jdk_42_method_139_code (1 : Nat) (Option.some (Jvm.ClassFile.FieldType.object "java/lang/String"))).before args0 about1 = true := code_word (m := ⟨7, 6⟩) (meth := k7m6) (c := k7c6) (by decide +kernel) rfl rfl rfl (by decide +kernel)
set_option maxRecDepth 65536 in
theorem w_c8 : (Jvm.Cond.code ({ cls := "java/lang/StringLatin1", name := "canEncode", desc := "(C)Z" } : Jvm.MethodName) jdk_43_method_3_code (1 : Nat) (Option.some Jvm.ClassFile.FieldType.boolean)).before args0 about1 = true := code_word (m := ⟨9, 2⟩) (meth := k9m2) (c := k9c2) (by decide +kernel) rfl rfl rfl (by decide +kernel)
set_option maxRecDepth 65536 in
theorem w_c9 : (Jvm.Cond.code ({ cls := "java/lang/StringLatin1", name := "toBytes", desc := "(C)[B" } : Jvm.MethodName) jdk_43_method_46_code (1 : Nat) (Option.some (Jvm.ClassFile.FieldType.array Jvm.ClassFile.FieldType.byte))).before args0 about1 = true := code_word (m := ⟨9, 3⟩) (meth := k9m3) (c := k9c3) (by decide +kernel) rfl rfl rfl (by decide +kernel)
set_option maxRecDepth 65536 in
theorem w_c10 : (Jvm.Cond.code ({ cls := "java/lang/String", name := "<init>", desc := "([BB)V" } : Jvm.MethodName) jdk_42_method_151_code (3 : Nat) (Option.none : Option Jvm.ClassFile.FieldType)).before args0 about1 = true := code_word (m := ⟨7, 10⟩) (meth := k7m10) (c := k7c10) (by decide +kernel) rfl rfl rfl (by decide +kernel)
set_option maxRecDepth 65536 in
theorem w_c11 : (Jvm.Cond.code ({ cls := "com/example/rebalance/rebalance/MessageQueue", name := "<init>", desc := "(Ljava/lang/String;Ljava/lang/String;I)V" } : Jvm.MethodName) prog_2_method_1_code (4 : Nat) (Option.none : Option Jvm.ClassFile.FieldType)).before args0 about1 = true := code_word (m := ⟨11, 0⟩) (meth := k11m0) (c := k11c0) (by decide +kernel) rfl rfl rfl (by decide +kernel)
set_option maxRecDepth 65536 in
theorem w_c12 : (Jvm.Cond.code ({ cls := "java/lang/Record", name := "<init>", desc := "()V" } : Jvm.MethodName) jdk_30_method_1_code (1 : Nat) (Option.none : Option Jvm.ClassFile.FieldType)).before args0 about1 = true := code_word (m := ⟨10, 0⟩) (meth := k10m0) (c := k10c0) (by decide +kernel) rfl rfl rfl (by decide +kernel)
set_option maxRecDepth 65536 in
theorem w_c13 : (Jvm.Cond.code ({ cls := "java/util/Objects", name := "requireNonNull", desc := "(Ljava/lang/Object;Ljava/lang/String;)Ljava/lang/Object;" } : Jvm.MethodName) jdk_31_method_11_code (2 : Nat) (Option.some (Jvm.ClassFile.FieldType.object "java/lang/Object"))).before args0 about1 = true := code_word (m := ⟨12, 1⟩) (meth := k12m1) (c := k12c1) (by decide +kernel) rfl rfl rfl (by decide +kernel)
set_option maxRecDepth 65536 in
theorem w_c14 : (Jvm.Cond.code ({ cls := "java/lang/String", name := "isEmpty", desc := "()Z" } : Jvm.MethodName) jdk_42_method_55_code (1 : Nat) (Option.some Jvm.ClassFile.FieldType.boolean)).before args0 about1 = true := code_word (m := ⟨7, 4⟩) (meth := k7m4) (c := k7c4) (by decide +kernel) rfl rfl rfl (by decide +kernel)
set_option maxRecDepth 65536 in
theorem w_c15 : (Jvm.Cond.code ({ cls := "com/example/rebalance/rebalance/MessageQueue", name := "toString", desc := "()Ljava/lang/String;" } : Jvm.MethodName) prog_2_method_4_code (1 : Nat) (Option.some (Jvm.ClassFile.FieldType.object "java/lang/String"))).before args0 about1 = true := code_word (m := ⟨11, 1⟩) (meth := k11m1) (c := k11c1) (by decide +kernel) rfl rfl rfl (by decide +kernel)
set_option maxRecDepth 65536 in
theorem w_c16 : (Jvm.Cond.code ({ cls := "java/lang/StringBuilder", name := "<init>", desc := "()V" } : Jvm.MethodName) jdk_67_method_1_code (1 : Nat) (Option.none : Option Jvm.ClassFile.FieldType)).before args0 about1 = true := code_word (m := ⟨15, 0⟩) (meth := k15m0) (c := k15c0) (by decide +kernel) rfl rfl rfl (by decide +kernel)
set_option maxRecDepth 65536 in
theorem w_c17 : (Jvm.Cond.code ({ cls := "java/lang/AbstractStringBuilder", name := "<init>", desc := "(I)V" } : Jvm.MethodName) jdk_68_method_2_code (2 : Nat) (Option.none : Option Jvm.ClassFile.FieldType)).before args0 about1 = true := code_word (m := ⟨14, 1⟩) (meth := k14m1) (c := k14c1) (by decide +kernel) rfl rfl rfl (by decide +kernel)
set_option maxRecDepth 65536 in
theorem w_c18 : (Jvm.Cond.code ({ cls := "java/lang/StringBuilder", name := "append", desc := "(Ljava/lang/String;)Ljava/lang/StringBuilder;" } : Jvm.MethodName) jdk_67_method_7_code (2 : Nat) (Option.some (Jvm.ClassFile.FieldType.object "java/lang/StringBuilder"))).before args0 about1 = true := code_word (m := ⟨15, 1⟩) (meth := k15m1) (c := k15c1) (by decide +kernel) rfl rfl rfl (by decide +kernel)
set_option maxRecDepth 65536 in
theorem w_c19 : (Jvm.Cond.code ({ cls := "java/lang/AbstractStringBuilder", name := "append", desc := "(Ljava/lang/String;)Ljava/lang/AbstractStringBuilder;" } : Jvm.MethodName) jdk_68_method_22_code (3 : Nat) (Option.some (Jvm.ClassFile.FieldType.object "java/lang/AbstractStringBuilder"))).before args0 about1 = true := code_word (m := ⟨14, 4⟩) (meth := k14m4) (c := k14c4) (by decide +kernel) rfl rfl rfl (by decide +kernel)
set_option maxRecDepth 65536 in
theorem w_c20 : (Jvm.Cond.code ({ cls := "java/lang/String", name := "length", desc := "()I" } : Jvm.MethodName) jdk_42_method_54_code (1 : Nat) (Option.some Jvm.ClassFile.FieldType.int)).before args0 about1 = true := code_word (m := ⟨7, 3⟩) (meth := k7m3) (c := k7c3) (by decide +kernel) rfl rfl rfl (by decide +kernel)
set_option maxRecDepth 65536 in
theorem w_c21 : (Jvm.Cond.code ({ cls := "java/lang/String", name := "coder", desc := "()B" } : Jvm.MethodName) jdk_42_method_152_code (1 : Nat) (Option.some Jvm.ClassFile.FieldType.byte)).before args0 about1 = true := code_word (m := ⟨7, 11⟩) (meth := k7m11) (c := k7c11) (by decide +kernel) rfl rfl rfl (by decide +kernel)
set_option maxRecDepth 65536 in
theorem w_c22 : (Jvm.Cond.code ({ cls := "java/lang/AbstractStringBuilder", name := "ensureCapacityInternal", desc := "(I)V" } : Jvm.MethodName) jdk_68_method_9_code (3 : Nat) (Option.none : Option Jvm.ClassFile.FieldType)).before args0 about1 = true := code_word (m := ⟨14, 3⟩) (meth := k14m3) (c := k14c3) (by decide +kernel) rfl rfl rfl (by decide +kernel)
set_option maxRecDepth 65536 in
theorem w_c23 : (Jvm.Cond.code ({ cls := "java/lang/AbstractStringBuilder", name := "putStringAt", desc := "(ILjava/lang/String;)V" } : Jvm.MethodName) jdk_68_method_73_code (3 : Nat) (Option.none : Option Jvm.ClassFile.FieldType)).before args0 about1 = true := code_word (m := ⟨14, 9⟩) (meth := k14m9) (c := k14c9) (by decide +kernel) rfl rfl rfl (by decide +kernel)
set_option maxRecDepth 65536 in
theorem w_c24 : (Jvm.Cond.code ({ cls := "java/lang/AbstractStringBuilder", name := "inflateIfNeededFor", desc := "(Ljava/lang/String;)V" } : Jvm.MethodName) jdk_68_method_71_code (2 : Nat) (Option.none : Option Jvm.ClassFile.FieldType)).before args0 about1 = true := code_word (m := ⟨14, 8⟩) (meth := k14m8) (c := k14c8) (by decide +kernel) rfl rfl rfl (by decide +kernel)
set_option maxRecDepth 65536 in
theorem w_c25 : (Jvm.Cond.code ({ cls := "java/lang/String", name := "getBytes", desc := "([BIB)V" } : Jvm.MethodName) jdk_42_method_147_code (4 : Nat) (Option.none : Option Jvm.ClassFile.FieldType)).before args0 about1 = true := code_word (m := ⟨7, 7⟩) (meth := k7m7) (c := k7c7) (by decide +kernel) rfl rfl rfl (by decide +kernel)
set_option maxRecDepth 65536 in
theorem w_c26 : (Jvm.Cond.code ({ cls := "java/lang/StringBuilder", name := "append", desc := "(I)Ljava/lang/StringBuilder;" } : Jvm.MethodName) jdk_67_method_15_code (2 : Nat) (Option.some (Jvm.ClassFile.FieldType.object "java/lang/StringBuilder"))).before args0 about1 = true := code_word (m := ⟨15, 2⟩) (meth := k15m2) (c := k15c2) (by decide +kernel) rfl rfl rfl (by decide +kernel)
set_option maxRecDepth 65536 in
theorem w_c27 : (Jvm.Cond.code ({ cls := "java/lang/AbstractStringBuilder", name := "append", desc := "(I)Ljava/lang/AbstractStringBuilder;" } : Jvm.MethodName) jdk_68_method_32_code (4 : Nat) (Option.some (Jvm.ClassFile.FieldType.object "java/lang/AbstractStringBuilder"))).before args0 about1 = true := code_word (m := ⟨14, 5⟩) (meth := k14m5) (c := k14c5) (by decide +kernel) rfl rfl rfl (by decide +kernel)
set_option maxRecDepth 65536 in
theorem w_c28 : (Jvm.Cond.code ({ cls := "java/lang/Integer", name := "stringSize", desc := "(I)I" } : Jvm.MethodName) jdk_33_method_13_code (4 : Nat) (Option.some Jvm.ClassFile.FieldType.int)).before args0 about1 = true := code_word (m := ⟨18, 1⟩) (meth := k18m1) (c := k18c1) (by decide +kernel) rfl rfl rfl (by decide +kernel)
set_option maxRecDepth 65536 in
theorem w_c29 : (Jvm.Cond.code ({ cls := "java/lang/AbstractStringBuilder", name := "isLatin1", desc := "()Z" } : Jvm.MethodName) jdk_68_method_68_code (1 : Nat) (Option.some Jvm.ClassFile.FieldType.boolean)).before args0 about1 = true := code_word (m := ⟨14, 7⟩) (meth := k14m7) (c := k14c7) (by decide +kernel) rfl rfl rfl (by decide +kernel)
set_option maxRecDepth 65536 in
theorem w_c30 : (Jvm.Cond.code ({ cls := "java/lang/Integer", name := "getChars", desc := "(II[B)I" } : Jvm.MethodName) jdk_33_method_12_code (7 : Nat) (Option.some Jvm.ClassFile.FieldType.int)).before args0 about1 = true := code_word (m := ⟨18, 0⟩) (meth := k18m0) (c := k18c0) (by decide +kernel) rfl rfl rfl (by decide +kernel)
set_option maxRecDepth 65536 in
theorem w_c31 : (Jvm.Cond.code ({ cls := "java/lang/StringBuilder", name := "toString", desc := "()Ljava/lang/String;" } : Jvm.MethodName) jdk_67_method_42_code (1 : Nat) (Option.some (Jvm.ClassFile.FieldType.object "java/lang/String"))).before args0 about1 = true := code_word (m := ⟨15, 3⟩) (meth := k15m3) (c := k15c3) (by decide +kernel) rfl rfl rfl (by decide +kernel)
set_option maxRecDepth 65536 in
theorem w_c32 : (Jvm.Cond.code ({ cls := "java/lang/String", name := "<init>", desc := "(Ljava/lang/StringBuilder;)V" } : Jvm.MethodName) jdk_42_method_53_code (2 : Nat) (Option.none : Option Jvm.ClassFile.FieldType)).before args0 about1 = true := code_word (m := ⟨7, 2⟩) (meth := k7m2) (c := k7c2) (by decide +kernel) rfl rfl rfl (by decide +kernel)
set_option maxRecDepth 65536 in
theorem w_c33 : (Jvm.Cond.code ({ cls := "java/lang/String", name := "<init>", desc := "(Ljava/lang/AbstractStringBuilder;Ljava/lang/Void;)V" } : Jvm.MethodName) jdk_42_method_150_code (5 : Nat) (Option.none : Option Jvm.ClassFile.FieldType)).before args0 about1 = true := code_word (m := ⟨7, 9⟩) (meth := k7m9) (c := k7c9) (by decide +kernel) rfl rfl rfl (by decide +kernel)
set_option maxRecDepth 65536 in
theorem w_c34 : (Jvm.Cond.code ({ cls := "java/lang/AbstractStringBuilder", name := "getValue", desc := "()[B" } : Jvm.MethodName) jdk_68_method_64_code (1 : Nat) (Option.some (Jvm.ClassFile.FieldType.array Jvm.ClassFile.FieldType.byte))).before args0 about1 = true := code_word (m := ⟨14, 6⟩) (meth := k14m6) (c := k14c6) (by decide +kernel) rfl rfl rfl (by decide +kernel)
set_option maxRecDepth 65536 in
theorem w_c35 : (Jvm.Cond.code ({ cls := "java/lang/StringBuilder", name := "length", desc := "()I" } : Jvm.MethodName) jdk_67_method_93_code (1 : Nat) (Option.some Jvm.ClassFile.FieldType.int)).before args0 about1 = true := code_word (m := ⟨15, 4⟩) (meth := k15m4) (c := k15c4) (by decide +kernel) rfl rfl rfl (by decide +kernel)
set_option maxRecDepth 65536 in
theorem w_c36 : (Jvm.Cond.code ({ cls := "java/lang/AbstractStringBuilder", name := "length", desc := "()I" } : Jvm.MethodName) jdk_68_method_6_code (1 : Nat) (Option.some Jvm.ClassFile.FieldType.int)).before args0 about1 = true := code_word (m := ⟨14, 2⟩) (meth := k14m2) (c := k14c2) (by decide +kernel) rfl rfl rfl (by decide +kernel)
set_option maxRecDepth 65536 in
theorem w_c37 : (Jvm.Cond.code ({ cls := "java/util/Arrays", name := "copyOfRange", desc := "([BII)[B" } : Jvm.MethodName) jdk_65_method_132_code (3 : Nat) (Option.some (Jvm.ClassFile.FieldType.array Jvm.ClassFile.FieldType.byte))).before args0 about1 = true := code_word (m := ⟨19, 2⟩) (meth := k19m2) (c := k19c2) (by decide +kernel) rfl rfl rfl (by decide +kernel)
set_option maxRecDepth 65536 in
theorem w_c38 : (Jvm.Cond.code ({ cls := "java/util/Arrays", name := "copyOfRangeByte", desc := "([BII)[B" } : Jvm.MethodName) jdk_65_method_133_code (5 : Nat) (Option.some (Jvm.ClassFile.FieldType.array Jvm.ClassFile.FieldType.byte))).before args0 about1 = true := code_word (m := ⟨19, 3⟩) (meth := k19m3) (c := k19c3) (by decide +kernel) rfl rfl rfl (by decide +kernel)
set_option maxRecDepth 65536 in
theorem w_c39 : (Jvm.Cond.code ({ cls := "java/util/Arrays", name := "checkLength", desc := "(II)V" } : Jvm.MethodName) jdk_65_method_131_code (2 : Nat) (Option.none : Option Jvm.ClassFile.FieldType)).before args0 about1 = true := code_word (m := ⟨19, 1⟩) (meth := k19m1) (c := k19c1) (by decide +kernel) rfl rfl rfl (by decide +kernel)
set_option maxRecDepth 65536 in
theorem w_c40 : (Jvm.Cond.code ({ cls := "java/lang/Math", name := "min", desc := "(II)I" } : Jvm.MethodName) jdk_29_method_69_code (2 : Nat) (Option.some Jvm.ClassFile.FieldType.int)).before args0 about1 = true := code_word (m := ⟨20, 1⟩) (meth := k20m1) (c := k20c1) (by decide +kernel) rfl rfl rfl (by decide +kernel)
set_option maxRecDepth 65536 in
theorem w_c41 : (Jvm.Cond.code ({ cls := "com/example/rebalance/rebalance/MessageQueueToStringPinLaw", name := "digits", desc := "(I)I" } : Jvm.MethodName) method_5_code (1 : Nat) (Option.some Jvm.ClassFile.FieldType.int)).before args0 about1 = true := code_word (m := ⟨1, 4⟩) (meth := k1m4) (c := k1c4) (by decide +kernel) rfl rfl rfl (by decide +kernel)
set_option maxRecDepth 65536 in
theorem w_c42 : (Jvm.Cond.code ({ cls := "java/lang/String", name := "charAt", desc := "(I)C" } : Jvm.MethodName) jdk_42_method_56_code (2 : Nat) (Option.some Jvm.ClassFile.FieldType.char)).before args0 about1 = true := code_word (m := ⟨7, 5⟩) (meth := k7m5) (c := k7c5) (by decide +kernel) rfl rfl rfl (by decide +kernel)
set_option maxRecDepth 65536 in
theorem w_c43 : (Jvm.Cond.code ({ cls := "java/lang/String", name := "isLatin1", desc := "()Z" } : Jvm.MethodName) jdk_42_method_154_code (1 : Nat) (Option.some Jvm.ClassFile.FieldType.boolean)).before args0 about1 = true := code_word (m := ⟨7, 12⟩) (meth := k7m12) (c := k7c12) (by decide +kernel) rfl rfl rfl (by decide +kernel)
set_option maxRecDepth 65536 in
theorem w_c44 : (Jvm.Cond.code ({ cls := "java/lang/StringLatin1", name := "charAt", desc := "([BI)C" } : Jvm.MethodName) jdk_43_method_2_code (2 : Nat) (Option.some Jvm.ClassFile.FieldType.char)).before args0 about1 = true := code_word (m := ⟨9, 1⟩) (meth := k9m1) (c := k9c1) (by decide +kernel) rfl rfl rfl (by decide +kernel)
set_option maxRecDepth 65536 in
theorem w_c45 : (Jvm.Cond.code ({ cls := "java/lang/String", name := "checkIndex", desc := "(II)V" } : Jvm.MethodName) jdk_42_method_155_code (2 : Nat) (Option.none : Option Jvm.ClassFile.FieldType)).before args0 about1 = true := code_word (m := ⟨7, 13⟩) (meth := k7m13) (c := k7c13) (by decide +kernel) rfl rfl rfl (by decide +kernel)
set_option maxRecDepth 65536 in
theorem w_c46 : (Jvm.Cond.code ({ cls := "jdk/internal/util/Preconditions", name := "checkIndex", desc := "(IILjava/util/function/BiFunction;)I" } : Jvm.MethodName) jdk_41_method_11_code (3 : Nat) (Option.some Jvm.ClassFile.FieldType.int)).before args0 about1 = true := code_word (m := ⟨21, 1⟩) (meth := k21m1) (c := k21c1) (by decide +kernel) rfl rfl rfl (by decide +kernel)
set_option maxRecDepth 65536 in
theorem w_c47 : (Jvm.Cond.code ({ cls := "com/example/rebalance/rebalance/MessageQueueToStringPinLaw", name := "digitOk", desc := "(Ljava/lang/String;IIII)Z" } : Jvm.MethodName) method_3_code (7 : Nat) (Option.some Jvm.ClassFile.FieldType.boolean)).before args0 about1 = true := code_word (m := ⟨1, 2⟩) (meth := k1m2) (c := k1c2) (by decide +kernel) rfl rfl rfl (by decide +kernel)
set_option maxRecDepth 65536 in
theorem w_c48 : (Jvm.Cond.code ({ cls := "com/example/rebalance/rebalance/MessageQueueToStringPinLaw", name := "pow10", desc := "(I)I" } : Jvm.MethodName) method_4_code (1 : Nat) (Option.some Jvm.ClassFile.FieldType.int)).before args0 about1 = true := code_word (m := ⟨1, 3⟩) (meth := k1m3) (c := k1c3) (by decide +kernel) rfl rfl rfl (by decide +kernel)
def codes1 : List Jvm.Cond := [Jvm.Cond.code x code maxLocals ret, Jvm.Cond.code ({ cls := "java/lang/String", name := "<init>", desc := "([C)V" } : Jvm.MethodName) jdk_42_method_3_code (2 : Nat) (Option.none : Option Jvm.ClassFile.FieldType), Jvm.Cond.code ({ cls := "java/lang/String", name := "<init>", desc := "([CIILjava/lang/Void;)V" } : Jvm.MethodName) jdk_42_method_149_code (6 : Nat) (Option.none : Option Jvm.ClassFile.FieldType), Jvm.Cond.code ({ cls := "java/lang/Object", name := "<init>", desc := "()V" } : Jvm.MethodName) object_method_1_code (1 : Nat) (Option.none : Option Jvm.ClassFile.FieldType), Jvm.Cond.code ({ cls := "java/lang/StringUTF16", name := "compress", desc := "([CII)[B" } : Jvm.MethodName) jdk_52_method_16_code (6 : Nat) (Option.some (Jvm.ClassFile.FieldType.array Jvm.ClassFile.FieldType.byte)), Jvm.Cond.code ({ cls := "java/lang/StringUTF16", name := "compress", desc := "([CI[BII)I" } : Jvm.MethodName) jdk_52_method_21_code (7 : Nat) (Option.some Jvm.ClassFile.FieldType.int), Jvm.Cond.code ({ cls := "java/lang/StringUTF16", name := "coderFromArrayLen", desc := "([BI)B" } : Jvm.MethodName) jdk_52_method_15_code (2 : Nat) (Option.some Jvm.ClassFile.FieldType.byte), Jvm.Cond.code ({ cls := "java/lang/String", name := "valueOf", desc := "(C)Ljava/lang/String;" } : Jvm.MethodName) jdk_42_method_139_code (1 : Nat) (Option.some (Jvm.ClassFile.FieldType.object "java/lang/String")), Jvm.Cond.code ({ cls := "java/lang/StringLatin1", name := "canEncode", desc := "(C)Z" } : Jvm.MethodName) jdk_43_method_3_code (1 : Nat) (Option.some Jvm.ClassFile.FieldType.boolean), Jvm.Cond.code ({ cls := "java/lang/StringLatin1", name := "toBytes", desc := "(C)[B" } : Jvm.MethodName) jdk_43_method_46_code (1 : Nat) (Option.some (Jvm.ClassFile.FieldType.array Jvm.ClassFile.FieldType.byte)), Jvm.Cond.code ({ cls := "java/lang/String", name := "<init>", desc := "([BB)V" } : Jvm.MethodName) jdk_42_method_151_code (3 : Nat) (Option.none : Option Jvm.ClassFile.FieldType), Jvm.Cond.code ({ cls := "com/example/rebalance/rebalance/MessageQueue", name := "<init>", desc := "(Ljava/lang/String;Ljava/lang/String;I)V" } : Jvm.MethodName) prog_2_method_1_code (4 : Nat) (Option.none : Option Jvm.ClassFile.FieldType), Jvm.Cond.code ({ cls := "java/lang/Record", name := "<init>", desc := "()V" } : Jvm.MethodName) jdk_30_method_1_code (1 : Nat) (Option.none : Option Jvm.ClassFile.FieldType), Jvm.Cond.code ({ cls := "java/util/Objects", name := "requireNonNull", desc := "(Ljava/lang/Object;Ljava/lang/String;)Ljava/lang/Object;" } : Jvm.MethodName) jdk_31_method_11_code (2 : Nat) (Option.some (Jvm.ClassFile.FieldType.object "java/lang/Object")), Jvm.Cond.code ({ cls := "java/lang/String", name := "isEmpty", desc := "()Z" } : Jvm.MethodName) jdk_42_method_55_code (1 : Nat) (Option.some Jvm.ClassFile.FieldType.boolean), Jvm.Cond.code ({ cls := "com/example/rebalance/rebalance/MessageQueue", name := "toString", desc := "()Ljava/lang/String;" } : Jvm.MethodName) prog_2_method_4_code (1 : Nat) (Option.some (Jvm.ClassFile.FieldType.object "java/lang/String")), Jvm.Cond.code ({ cls := "java/lang/StringBuilder", name := "<init>", desc := "()V" } : Jvm.MethodName) jdk_67_method_1_code (1 : Nat) (Option.none : Option Jvm.ClassFile.FieldType), Jvm.Cond.code ({ cls := "java/lang/AbstractStringBuilder", name := "<init>", desc := "(I)V" } : Jvm.MethodName) jdk_68_method_2_code (2 : Nat) (Option.none : Option Jvm.ClassFile.FieldType), Jvm.Cond.code ({ cls := "java/lang/StringBuilder", name := "append", desc := "(Ljava/lang/String;)Ljava/lang/StringBuilder;" } : Jvm.MethodName) jdk_67_method_7_code (2 : Nat) (Option.some (Jvm.ClassFile.FieldType.object "java/lang/StringBuilder")), Jvm.Cond.code ({ cls := "java/lang/AbstractStringBuilder", name := "append", desc := "(Ljava/lang/String;)Ljava/lang/AbstractStringBuilder;" } : Jvm.MethodName) jdk_68_method_22_code (3 : Nat) (Option.some (Jvm.ClassFile.FieldType.object "java/lang/AbstractStringBuilder")), Jvm.Cond.code ({ cls := "java/lang/String", name := "length", desc := "()I" } : Jvm.MethodName) jdk_42_method_54_code (1 : Nat) (Option.some Jvm.ClassFile.FieldType.int), Jvm.Cond.code ({ cls := "java/lang/String", name := "coder", desc := "()B" } : Jvm.MethodName) jdk_42_method_152_code (1 : Nat) (Option.some Jvm.ClassFile.FieldType.byte), Jvm.Cond.code ({ cls := "java/lang/AbstractStringBuilder", name := "ensureCapacityInternal", desc := "(I)V" } : Jvm.MethodName) jdk_68_method_9_code (3 : Nat) (Option.none : Option Jvm.ClassFile.FieldType), Jvm.Cond.code ({ cls := "java/lang/AbstractStringBuilder", name := "putStringAt", desc := "(ILjava/lang/String;)V" } : Jvm.MethodName) jdk_68_method_73_code (3 : Nat) (Option.none : Option Jvm.ClassFile.FieldType), Jvm.Cond.code ({ cls := "java/lang/AbstractStringBuilder", name := "inflateIfNeededFor", desc := "(Ljava/lang/String;)V" } : Jvm.MethodName) jdk_68_method_71_code (2 : Nat) (Option.none : Option Jvm.ClassFile.FieldType), Jvm.Cond.code ({ cls := "java/lang/String", name := "getBytes", desc := "([BIB)V" } : Jvm.MethodName) jdk_42_method_147_code (4 : Nat) (Option.none : Option Jvm.ClassFile.FieldType), Jvm.Cond.code ({ cls := "java/lang/StringBuilder", name := "append", desc := "(I)Ljava/lang/StringBuilder;" } : Jvm.MethodName) jdk_67_method_15_code (2 : Nat) (Option.some (Jvm.ClassFile.FieldType.object "java/lang/StringBuilder")), Jvm.Cond.code ({ cls := "java/lang/AbstractStringBuilder", name := "append", desc := "(I)Ljava/lang/AbstractStringBuilder;" } : Jvm.MethodName) jdk_68_method_32_code (4 : Nat) (Option.some (Jvm.ClassFile.FieldType.object "java/lang/AbstractStringBuilder")), Jvm.Cond.code ({ cls := "java/lang/Integer", name := "stringSize", desc := "(I)I" } : Jvm.MethodName) jdk_33_method_13_code (4 : Nat) (Option.some Jvm.ClassFile.FieldType.int), Jvm.Cond.code ({ cls := "java/lang/AbstractStringBuilder", name := "isLatin1", desc := "()Z" } : Jvm.MethodName) jdk_68_method_68_code (1 : Nat) (Option.some Jvm.ClassFile.FieldType.boolean), Jvm.Cond.code ({ cls := "java/lang/Integer", name := "getChars", desc := "(II[B)I" } : Jvm.MethodName) jdk_33_method_12_code (7 : Nat) (Option.some Jvm.ClassFile.FieldType.int), Jvm.Cond.code ({ cls := "java/lang/StringBuilder", name := "toString", desc := "()Ljava/lang/String;" } : Jvm.MethodName) jdk_67_method_42_code (1 : Nat) (Option.some (Jvm.ClassFile.FieldType.object "java/lang/String")), Jvm.Cond.code ({ cls := "java/lang/String", name := "<init>", desc := "(Ljava/lang/StringBuilder;)V" } : Jvm.MethodName) jdk_42_method_53_code (2 : Nat) (Option.none : Option Jvm.ClassFile.FieldType), Jvm.Cond.code ({ cls := "java/lang/String", name := "<init>", desc := "(Ljava/lang/AbstractStringBuilder;Ljava/lang/Void;)V" } : Jvm.MethodName) jdk_42_method_150_code (5 : Nat) (Option.none : Option Jvm.ClassFile.FieldType), Jvm.Cond.code ({ cls := "java/lang/AbstractStringBuilder", name := "getValue", desc := "()[B" } : Jvm.MethodName) jdk_68_method_64_code (1 : Nat) (Option.some (Jvm.ClassFile.FieldType.array Jvm.ClassFile.FieldType.byte)), Jvm.Cond.code ({ cls := "java/lang/StringBuilder", name := "length", desc := "()I" } : Jvm.MethodName) jdk_67_method_93_code (1 : Nat) (Option.some Jvm.ClassFile.FieldType.int), Jvm.Cond.code ({ cls := "java/lang/AbstractStringBuilder", name := "length", desc := "()I" } : Jvm.MethodName) jdk_68_method_6_code (1 : Nat) (Option.some Jvm.ClassFile.FieldType.int), Jvm.Cond.code ({ cls := "java/util/Arrays", name := "copyOfRange", desc := "([BII)[B" } : Jvm.MethodName) jdk_65_method_132_code (3 : Nat) (Option.some (Jvm.ClassFile.FieldType.array Jvm.ClassFile.FieldType.byte)), Jvm.Cond.code ({ cls := "java/util/Arrays", name := "copyOfRangeByte", desc := "([BII)[B" } : Jvm.MethodName) jdk_65_method_133_code (5 : Nat) (Option.some (Jvm.ClassFile.FieldType.array Jvm.ClassFile.FieldType.byte)), Jvm.Cond.code ({ cls := "java/util/Arrays", name := "checkLength", desc := "(II)V" } : Jvm.MethodName) jdk_65_method_131_code (2 : Nat) (Option.none : Option Jvm.ClassFile.FieldType), Jvm.Cond.code ({ cls := "java/lang/Math", name := "min", desc := "(II)I" } : Jvm.MethodName) jdk_29_method_69_code (2 : Nat) (Option.some Jvm.ClassFile.FieldType.int), Jvm.Cond.code ({ cls := "com/example/rebalance/rebalance/MessageQueueToStringPinLaw", name := "digits", desc := "(I)I" } : Jvm.MethodName) method_5_code (1 : Nat) (Option.some Jvm.ClassFile.FieldType.int), Jvm.Cond.code ({ cls := "java/lang/String", name := "charAt", desc := "(I)C" } : Jvm.MethodName) jdk_42_method_56_code (2 : Nat) (Option.some Jvm.ClassFile.FieldType.char), Jvm.Cond.code ({ cls := "java/lang/String", name := "isLatin1", desc := "()Z" } : Jvm.MethodName) jdk_42_method_154_code (1 : Nat) (Option.some Jvm.ClassFile.FieldType.boolean), Jvm.Cond.code ({ cls := "java/lang/StringLatin1", name := "charAt", desc := "([BI)C" } : Jvm.MethodName) jdk_43_method_2_code (2 : Nat) (Option.some Jvm.ClassFile.FieldType.char), Jvm.Cond.code ({ cls := "java/lang/String", name := "checkIndex", desc := "(II)V" } : Jvm.MethodName) jdk_42_method_155_code (2 : Nat) (Option.none : Option Jvm.ClassFile.FieldType), Jvm.Cond.code ({ cls := "jdk/internal/util/Preconditions", name := "checkIndex", desc := "(IILjava/util/function/BiFunction;)I" } : Jvm.MethodName) jdk_41_method_11_code (3 : Nat) (Option.some Jvm.ClassFile.FieldType.int), Jvm.Cond.code ({ cls := "com/example/rebalance/rebalance/MessageQueueToStringPinLaw", name := "digitOk", desc := "(Ljava/lang/String;IIII)Z" } : Jvm.MethodName) method_3_code (7 : Nat) (Option.some Jvm.ClassFile.FieldType.boolean), Jvm.Cond.code ({ cls := "com/example/rebalance/rebalance/MessageQueueToStringPinLaw", name := "pow10", desc := "(I)I" } : Jvm.MethodName) method_4_code (1 : Nat) (Option.some Jvm.ClassFile.FieldType.int)]
set_option maxRecDepth 65536 in
theorem codes_eq : words1.filter isCode = codes1 := rfl
theorem w_codes : ∀ c ∈ words1.filter isCode, c.before args0 about1 = true := by
  rw [codes_eq]
  intro c hc
  simp only [codes1, List.mem_cons, List.not_mem_nil, or_false] at hc
  rcases hc with rfl | rfl | rfl | rfl | rfl | rfl | rfl | rfl | rfl | rfl | rfl | rfl | rfl | rfl | rfl | rfl | rfl | rfl | rfl | rfl | rfl | rfl | rfl | rfl | rfl | rfl | rfl | rfl | rfl | rfl | rfl | rfl | rfl | rfl | rfl | rfl | rfl | rfl | rfl | rfl | rfl | rfl | rfl | rfl | rfl | rfl | rfl | rfl | rfl
  · exact w_c0
  · exact w_c1
  · exact w_c2
  · exact w_c3
  · exact w_c4
  · exact w_c5
  · exact w_c6
  · exact w_c7
  · exact w_c8
  · exact w_c9
  · exact w_c10
  · exact w_c11
  · exact w_c12
  · exact w_c13
  · exact w_c14
  · exact w_c15
  · exact w_c16
  · exact w_c17
  · exact w_c18
  · exact w_c19
  · exact w_c20
  · exact w_c21
  · exact w_c22
  · exact w_c23
  · exact w_c24
  · exact w_c25
  · exact w_c26
  · exact w_c27
  · exact w_c28
  · exact w_c29
  · exact w_c30
  · exact w_c31
  · exact w_c32
  · exact w_c33
  · exact w_c34
  · exact w_c35
  · exact w_c36
  · exact w_c37
  · exact w_c38
  · exact w_c39
  · exact w_c40
  · exact w_c41
  · exact w_c42
  · exact w_c43
  · exact w_c44
  · exact w_c45
  · exact w_c46
  · exact w_c47
  · exact w_c48
set_option maxRecDepth 65536 in
theorem w_t1 : (words1.take 24).all (fun c => isCode c || c.before args0 about1) = true := by decide +kernel
set_option maxRecDepth 65536 in
theorem w_t2 : ((words1.drop 24).take 24).all (fun c => isCode c || c.before args0 about1) = true := by decide +kernel
set_option maxRecDepth 65536 in
theorem w_t3 : (((words1.drop 24).drop 24).take 24).all (fun c => isCode c || c.before args0 about1) = true := by decide +kernel
set_option maxRecDepth 65536 in
theorem w_t4 : ((((words1.drop 24).drop 24).drop 24).take 24).all (fun c => isCode c || c.before args0 about1) = true := by decide +kernel
set_option maxRecDepth 65536 in
theorem w_t5 : (((((words1.drop 24).drop 24).drop 24).drop 24).take 24).all (fun c => isCode c || c.before args0 about1) = true := by decide +kernel
set_option maxRecDepth 65536 in
theorem w_t6 : ((((((words1.drop 24).drop 24).drop 24).drop 24).drop 24).take 24).all (fun c => isCode c || c.before args0 about1) = true := by decide +kernel
set_option maxRecDepth 65536 in
theorem w_t7 : (((((((words1.drop 24).drop 24).drop 24).drop 24).drop 24).drop 24).take 24).all (fun c => isCode c || c.before args0 about1) = true := by decide +kernel
set_option maxRecDepth 65536 in
theorem w_t8 : ((((((((words1.drop 24).drop 24).drop 24).drop 24).drop 24).drop 24).drop 24).take 24).all (fun c => isCode c || c.before args0 about1) = true := by decide +kernel
set_option maxRecDepth 65536 in
theorem w_t9 : (((((((((words1.drop 24).drop 24).drop 24).drop 24).drop 24).drop 24).drop 24).drop 24).take 24).all (fun c => isCode c || c.before args0 about1) = true := by decide +kernel
set_option maxRecDepth 65536 in
theorem w_t10 : ((((((((((words1.drop 24).drop 24).drop 24).drop 24).drop 24).drop 24).drop 24).drop 24).drop 24).take 24).all (fun c => isCode c || c.before args0 about1) = true := by decide +kernel
set_option maxRecDepth 65536 in
theorem w_t11 : ((((((((((words1.drop 24).drop 24).drop 24).drop 24).drop 24).drop 24).drop 24).drop 24).drop 24).drop 24).all (fun c => isCode c || c.before args0 about1) = true := by decide +kernel
theorem w_tables : (allAtoms (Jvm.Cond.code x code maxLocals ret :: tables_1)).before args0 about1 = true := by
  rw [allAtoms_all]
  show words1.all (fun c => c.before args0 about1) = true
  refine all_split ?_ w_codes
  rw [← List.take_append_drop 24 words1, List.all_append, w_t1, ← List.take_append_drop 24 (words1.drop 24), List.all_append, w_t2, ← List.take_append_drop 24 ((words1.drop 24).drop 24), List.all_append, w_t3, ← List.take_append_drop 24 (((words1.drop 24).drop 24).drop 24), List.all_append, w_t4, ← List.take_append_drop 24 ((((words1.drop 24).drop 24).drop 24).drop 24), List.all_append, w_t5, ← List.take_append_drop 24 (((((words1.drop 24).drop 24).drop 24).drop 24).drop 24), List.all_append, w_t6, ← List.take_append_drop 24 ((((((words1.drop 24).drop 24).drop 24).drop 24).drop 24).drop 24), List.all_append, w_t7, ← List.take_append_drop 24 (((((((words1.drop 24).drop 24).drop 24).drop 24).drop 24).drop 24).drop 24), List.all_append, w_t8, ← List.take_append_drop 24 ((((((((words1.drop 24).drop 24).drop 24).drop 24).drop 24).drop 24).drop 24).drop 24), List.all_append, w_t9, ← List.take_append_drop 24 (((((((((words1.drop 24).drop 24).drop 24).drop 24).drop 24).drop 24).drop 24).drop 24).drop 24), List.all_append, w_t10, w_t11]
  rfl
set_option maxRecDepth 65536 in
theorem w_rest : rest_1_c.before args0 about1 = true := by decide +kernel
set_option maxRecDepth 65536 in
theorem w_case : (Jvm.Cond.and given_1 narrow_1).before args0 about1 = true := by decide +kernel
set_option maxRecDepth 65536 in
theorem w_consts : constsHeld consts_1 about1 := Jvm.Lit.constsHeldB_iff.mp (by decide +kernel)
theorem w_applies : (headSpec (Jvm.Cond.code x code maxLocals ret :: tables_1) room_1).applies x e0.platform about1 = true :=
  (Spec.applies_iff w_frames).mpr ⟨w_running, w_runnable, w_alone, w_named, w_hears, w_ripe, w_room, w_tables⟩
theorem atStart : AtStart classFile x code maxLocals ret World_1 tables_1 room_1 Calls_1 rest_1 Pre_1 launch0 p0 e0 about1 theMethod args0 below0 :=
  ⟨lists_1, trivial, launch0.admits_env _ _ _, launch0.least_env, fairChoices_fair.cas, fairChoices_fair.clock, w_frames, w_args, w_heap, w_applies, ⟨w_consts, trivial⟩, w_rest, w_case⟩
end start1
theorem witness_1 : WitnessClaimed_1 := ⟨start1.p0, start1.e0, start1.about1, start1.theMethod, start1.args0, start1.below0, start1.atStart⟩
end Jvm.Pilot.@@N@@
