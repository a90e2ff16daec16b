import JvmDerived
import JvmDerived.Pilot.@@N@@Statement
import JvmDerived.Pilot.@@N@@Code
set_option linter.unusedVariables false
set_option linter.unusedSimpArgs false
namespace Jvm.OwnL
open Sem ClassFile Op Lib Bundle Jvm.Stand Jvm.Free Jvm.LawKit Jvm.RoadKit
/-- where a walk stands: the tables v at hand (String constants of EL, if loaded, hold their text), the heap h (the entry heap h0 but for ws and what is new; the case's own start unchanged), what is safely no constant's cell (sf), and the frame -/
def Wl (Z : State) (a0 : Array Value) (own : String) (p : Program) (l : Launch) (e : Env) (R : Room) (s : State) (m : MethodId) (args : Array Value) (below : List Frame) (meth : Method) (c : Code) (code : ByteArray) (mx : Nat) (B : State) (EL : List (String × Nat)) (h0 : Heap) (n0 : Nat) (ws sf : List Addr) (h : Heap) (cells slots pc : Nat) (L : Array Slot) (S : List Value) : Prop :=
  (p.tables.exec = Jvm.exec ∧ c.code = code ∧ c.maxLocals = mx ∧ EW Z a0 EL) ∧ (Old Z n0 h ∧ Keep h0 h ws ∧ (∀ x ∈ ws, n0 ≤ x) ∧ n0 ≤ h0.size ∧ s.heap = h0) ∧
    ∃ (v : Vm) (k0 : Nat) (T : State) (locs : List Loc), Stand p l e R (s.setVm v) m args below meth c T locs cells slots ∧ (s.Since v k0 ∧ k0 ≤ h.size ∧ Z.Warmed39 v ∧ v.findClass own = some m.cls) ∧ (CHr Z EL s.vm h0 v h ∧ ∀ x ∈ sf, x < h.size ∧ Safe Z EL v h x) ∧ Fr n0 locs ∧ T.heap = h ∧ ∀ t, Steps p.tables e below (T.setTop (mkF m pc L S)) t → Steps p.tables e below B t
section OwnL
variable {Z : State} {own : String} {p : Program} {l : Launch} {e : Env} {R : Room} {s : State} {m : MethodId} {args : Array Value} {below : List Frame} {meth : Method} {c : Code} {code : ByteArray} {mx : Nat} {B : State} {EL : List (String × Nat)} {h0 : Heap} {n0 : Nat} {ws sf : List Addr} {h h' : Heap} {cells slots pc : Nat} {L L' : Array Slot} {S : List Value} {a0 : Array Value}
theorem safeNew {v : Vm} (E : Ext h h') (H : CHv Z EL v h) (F : ∀ x ∈ sf, x < h.size ∧ Safe Z EL v h x) (lt : h.size < h'.size) : ∀ x ∈ h.size :: sf, x < h'.size ∧ Safe Z EL v h' x := fun x q => by
  rcases List.mem_cons.mp q with rfl | q
  · exact ⟨lt, (Safe.new (Nat.le_refl _)).ext E H⟩
  · exact ⟨Nat.lt_of_lt_of_le (F x q).1 E.1, (F x q).2.ext E H⟩
theorem safeKeep {v : Vm} {wsC : List Addr} (K : Keep h h' wsC) (hs : ∀ x ∈ wsC, Safe Z EL v h x) (H : CHv Z EL v h) (F : ∀ x ∈ sf, x < h.size ∧ Safe Z EL v h x) : ∀ x ∈ sf, x < h'.size ∧ Safe Z EL v h' x := fun x q =>
  ⟨Nat.lt_of_lt_of_le (F x q).1 K.1, (F x q).2.keep K hs H⟩
theorem Wl.keep0 (G : Wl Z a0 own p l e R s m args below meth c code mx B EL h0 n0 ws sf h cells slots pc L S) : Keep h0 h ws := G.2.1.2.1
theorem Wl.old (G : Wl Z a0 own p l e R s m args below meth c code mx B EL h0 n0 ws sf h cells slots pc L S) : Old Z n0 h := G.2.1.1
theorem Wl.n0le (G : Wl Z a0 own p l e R s m args below meth c code mx B EL h0 n0 ws sf h cells slots pc L S) : n0 ≤ h.size := Nat.le_trans G.2.1.2.2.2.1 G.2.1.2.1.1
theorem Wl.sz (G : Wl Z a0 own p l e R s m args below meth c code mx B EL h0 n0 ws sf h cells slots pc L S) : h0.size ≤ h.size := G.2.1.2.1.1
theorem Wl.nw (G : Wl Z a0 own p l e R s m args below meth c code mx B EL h0 n0 ws sf h cells slots pc L S) {x : Addr} (q : x ∈ ws ∨ h0.size ≤ x) : n0 ≤ x := q.elim (G.2.1.2.2.1 x) (Nat.le_trans G.2.1.2.2.2.1)
theorem Wl.sta {C n d : String} {v : Value} (G : Wl Z a0 own p l e R s m args below meth c code mx B EL h0 n0 ws sf h cells slots pc L S) (F : Sta Z Z.heap C n d v) : Sta Z h C n d v := F.ext G.2.1.1.2
theorem Wl.plain {pc' : Nat} {S' : List Value} (G : Wl Z a0 own p l e R s m args below meth c code mx B EL h0 n0 ws sf h cells slots pc L S) (st : ∀ T : State, At T m c below → p.tables.exec = Jvm.exec → c.code = code → ∀ t, Steps p.tables e below (T.setTop (mkF m pc' L' S')) t → Steps p.tables e below (T.setTop (mkF m pc L S)) t) : Wl Z a0 own p l e R s m args below meth c code mx B EL h0 n0 ws sf h cells slots pc' L' (S') := by
  obtain ⟨a, b, v, k0, T, locs, X, x1, x2, N, eT, k⟩ := G
  exact ⟨a, b, v, k0, T, locs, X, x1, x2, N, eT, fun t q => k t (st T X.here a.1 a.2.1 t q)⟩
theorem Wl.nameI {x : Int32} (G : Wl Z a0 own p l e R s m args below meth c code mx B EL h0 n0 ws sf h cells slots pc L (.int x :: S)) : ∃ v, v = x ∧ Wl Z a0 own p l e R s m args below meth c code mx B EL h0 n0 ws sf h cells slots pc L (.int v :: S) := ⟨x, rfl, G⟩
theorem Wl.nameJ {x : Int64} (G : Wl Z a0 own p l e R s m args below meth c code mx B EL h0 n0 ws sf h cells slots pc L (.long x :: S)) : ∃ v, v = x ∧ Wl Z a0 own p l e R s m args below meth c code mx B EL h0 n0 ws sf h cells slots pc L (.long v :: S) := ⟨x, rfl, G⟩
theorem Wl.top {x y : Value} (G : Wl Z a0 own p l e R s m args below meth c code mx B EL h0 n0 ws sf h cells slots pc L (x :: S)) (q : x = y) : Wl Z a0 own p l e R s m args below meth c code mx B EL h0 n0 ws sf h cells slots pc L (y :: S) := q ▸ G
theorem Wl.cast {L' : Array Slot} {S' : List Value} (G : Wl Z a0 own p l e R s m args below meth c code mx B EL h0 n0 ws sf h cells slots pc L S) (q : L = L') (r : S = S') : Wl Z a0 own p l e R s m args below meth c code mx B EL h0 n0 ws sf h cells slots pc L' (S') := q ▸ r ▸ G
theorem Wl.more (G : Wl Z a0 own p l e R s m args below meth c code mx B EL h0 n0 ws sf h cells slots pc L S) {k n : Nat} (h1 : cells ≤ k) (h2 : slots ≤ n) : Wl Z a0 own p l e R s m args below meth c code mx B EL h0 n0 ws sf h k n pc L S := by
  obtain ⟨a, b, v, k0, T, locs, X, r⟩ := G
  exact ⟨a, b, v, k0, T, locs, X.more h1 h2, r⟩
theorem Wl.less {sf' : List Addr} (G : Wl Z a0 own p l e R s m args below meth c code mx B EL h0 n0 ws sf h cells slots pc L S) (q : ∀ x ∈ sf', x ∈ sf) : Wl Z a0 own p l e R s m args below meth c code mx B EL h0 n0 ws sf' h cells slots pc L S := by
  obtain ⟨a, b, v, k0, T, locs, X, x1, x2, r⟩ := G
  exact ⟨a, b, v, k0, T, locs, X, x1, ⟨x2.1, fun x y => x2.2 x (q x y)⟩, r⟩
theorem Wl.aload {k : Nat} {v : Value} (G : Wl Z a0 own p l e R s m args below meth c code mx B EL h0 n0 ws sf h cells slots pc L S) (pc' : Nat) (hd : decode code pc = .ok (.aload k, 2)) (hl : L[k]? = some (.val v)) (hv : v.isRef = true) (hp : pc + 2 = pc') : Wl Z a0 own p l e R s m args below meth c code mx B EL h0 n0 ws sf h cells slots pc' L (v :: S) :=
  G.plain fun T H hx hy t k => XS.aload (g := mkF m pc L (S)) H hx rfl (by rw [hy]; exact hd) hl hv (by subst hp; exact k)
theorem Wl.aloadN {k : Fin 4} {v : Value} (G : Wl Z a0 own p l e R s m args below meth c code mx B EL h0 n0 ws sf h cells slots pc L S) (pc' : Nat) (hd : decode code pc = .ok (.aload_n k, 1)) (hl : L[k.val]? = some (.val v)) (hv : v.isRef = true) (hp : pc + 1 = pc') : Wl Z a0 own p l e R s m args below meth c code mx B EL h0 n0 ws sf h cells slots pc' L (v :: S) :=
  G.plain fun T H hx hy t k => XS.aloadN (g := mkF m pc L (S)) H hx rfl (by rw [hy]; exact hd) hl hv (by subst hp; exact k)
theorem Wl.iload {k : Nat} {v : Int32} (G : Wl Z a0 own p l e R s m args below meth c code mx B EL h0 n0 ws sf h cells slots pc L S) (pc' : Nat) (hd : decode code pc = .ok (.iload k, 2)) (hl : L[k]? = some (.val (.int v))) (hp : pc + 2 = pc') : Wl Z a0 own p l e R s m args below meth c code mx B EL h0 n0 ws sf h cells slots pc' L (.int v :: S) :=
  G.plain fun T H hx hy t k => XS.iload (g := mkF m pc L (S)) H hx rfl (by rw [hy]; exact hd) hl (by subst hp; exact k)
theorem Wl.iloadN {k : Fin 4} {v : Int32} (G : Wl Z a0 own p l e R s m args below meth c code mx B EL h0 n0 ws sf h cells slots pc L S) (pc' : Nat) (hd : decode code pc = .ok (.iload_n k, 1)) (hl : L[k.val]? = some (.val (.int v))) (hp : pc + 1 = pc') : Wl Z a0 own p l e R s m args below meth c code mx B EL h0 n0 ws sf h cells slots pc' L (.int v :: S) :=
  G.plain fun T H hx hy t k => XS.iloadN (g := mkF m pc L (S)) H hx rfl (by rw [hy]; exact hd) hl (by subst hp; exact k)
theorem Wl.lload {k : Nat} {v : Int64} (G : Wl Z a0 own p l e R s m args below meth c code mx B EL h0 n0 ws sf h cells slots pc L S) (pc' : Nat) (hd : decode code pc = .ok (.lload k, 2)) (hl : L[k]? = some (.val (.long v))) (hp : pc + 2 = pc') : Wl Z a0 own p l e R s m args below meth c code mx B EL h0 n0 ws sf h cells slots pc' L (.long v :: S) :=
  G.plain fun T H hx hy t k => XT.lload (g := mkF m pc L (S)) H hx rfl (by rw [hy]; exact hd) hl (by subst hp; exact k)
theorem Wl.lloadN {k : Fin 4} {v : Int64} (G : Wl Z a0 own p l e R s m args below meth c code mx B EL h0 n0 ws sf h cells slots pc L S) (pc' : Nat) (hd : decode code pc = .ok (.lload_n k, 1)) (hl : L[k.val]? = some (.val (.long v))) (hp : pc + 1 = pc') : Wl Z a0 own p l e R s m args below meth c code mx B EL h0 n0 ws sf h cells slots pc' L (.long v :: S) :=
  G.plain fun T H hx hy t k => XT.lloadN (g := mkF m pc L (S)) H hx rfl (by rw [hy]; exact hd) hl (by subst hp; exact k)
theorem Wl.dload {k : Nat} {v : UInt64} (G : Wl Z a0 own p l e R s m args below meth c code mx B EL h0 n0 ws sf h cells slots pc L S) (pc' : Nat) (hd : decode code pc = .ok (.dload k, 2)) (hl : L[k]? = some (.val (.double v))) (hp : pc + 2 = pc') : Wl Z a0 own p l e R s m args below meth c code mx B EL h0 n0 ws sf h cells slots pc' L (.double v :: S) :=
  G.plain fun T H hx hy t k => XS.dload (g := mkF m pc L (S)) H hx rfl (by rw [hy]; exact hd) hl (by subst hp; exact k)
theorem Wl.dloadN {k : Fin 4} {v : UInt64} (G : Wl Z a0 own p l e R s m args below meth c code mx B EL h0 n0 ws sf h cells slots pc L S) (pc' : Nat) (hd : decode code pc = .ok (.dload_n k, 1)) (hl : L[k.val]? = some (.val (.double v))) (hp : pc + 1 = pc') : Wl Z a0 own p l e R s m args below meth c code mx B EL h0 n0 ws sf h cells slots pc' L (.double v :: S) :=
  G.plain fun T H hx hy t k => XS.dloadN (g := mkF m pc L (S)) H hx rfl (by rw [hy]; exact hd) hl (by subst hp; exact k)
theorem Wl.istore {k : Nat} {x : Int32} (G : Wl Z a0 own p l e R s m args below meth c code mx B EL h0 n0 ws sf h cells slots pc L (.int x :: S)) (pc' : Nat) (L' : Array Slot) (hd : decode code pc = .ok (.istore k, 2)) (hl : storeLocals L k (.int x) = some L') (hp : pc + 2 = pc') : Wl Z a0 own p l e R s m args below meth c code mx B EL h0 n0 ws sf h cells slots pc' L' S :=
  G.plain fun T H hx hy t k => XS.istore (g := mkF m pc L (.int x :: S)) H hx rfl (by rw [hy]; exact hd) rfl hl (by subst hp; exact k)
theorem Wl.istoreN {k : Fin 4} {x : Int32} (G : Wl Z a0 own p l e R s m args below meth c code mx B EL h0 n0 ws sf h cells slots pc L (.int x :: S)) (pc' : Nat) (L' : Array Slot) (hd : decode code pc = .ok (.istore_n k, 1)) (hl : storeLocals L k.val (.int x) = some L') (hp : pc + 1 = pc') : Wl Z a0 own p l e R s m args below meth c code mx B EL h0 n0 ws sf h cells slots pc' L' S :=
  G.plain fun T H hx hy t k => XS.istoreN (g := mkF m pc L (.int x :: S)) H hx rfl (by rw [hy]; exact hd) rfl hl (by subst hp; exact k)
theorem Wl.lstore {k : Nat} {x : Int64} (G : Wl Z a0 own p l e R s m args below meth c code mx B EL h0 n0 ws sf h cells slots pc L (.long x :: S)) (pc' : Nat) (L' : Array Slot) (hd : decode code pc = .ok (.lstore k, 2)) (hl : storeLocals L k (.long x) = some L') (hp : pc + 2 = pc') : Wl Z a0 own p l e R s m args below meth c code mx B EL h0 n0 ws sf h cells slots pc' L' S :=
  G.plain fun T H hx hy t k => XT.lstore (g := mkF m pc L (.long x :: S)) H hx rfl (by rw [hy]; exact hd) rfl hl (by subst hp; exact k)
theorem Wl.lstoreN {k : Fin 4} {x : Int64} (G : Wl Z a0 own p l e R s m args below meth c code mx B EL h0 n0 ws sf h cells slots pc L (.long x :: S)) (pc' : Nat) (L' : Array Slot) (hd : decode code pc = .ok (.lstore_n k, 1)) (hl : storeLocals L k.val (.long x) = some L') (hp : pc + 1 = pc') : Wl Z a0 own p l e R s m args below meth c code mx B EL h0 n0 ws sf h cells slots pc' L' S :=
  G.plain fun T H hx hy t k => XT.lstoreN (g := mkF m pc L (.long x :: S)) H hx rfl (by rw [hy]; exact hd) rfl hl (by subst hp; exact k)
theorem Wl.dstore {k : Nat} {x : UInt64} (G : Wl Z a0 own p l e R s m args below meth c code mx B EL h0 n0 ws sf h cells slots pc L (.double x :: S)) (pc' : Nat) (L' : Array Slot) (hd : decode code pc = .ok (.dstore k, 2)) (hl : storeLocals L k (.double x) = some L') (hp : pc + 2 = pc') : Wl Z a0 own p l e R s m args below meth c code mx B EL h0 n0 ws sf h cells slots pc' L' S :=
  G.plain fun T H hx hy t k => XS.dstore (g := mkF m pc L (.double x :: S)) H hx rfl (by rw [hy]; exact hd) rfl hl (by subst hp; exact k)
theorem Wl.dstoreN {k : Fin 4} {x : UInt64} (G : Wl Z a0 own p l e R s m args below meth c code mx B EL h0 n0 ws sf h cells slots pc L (.double x :: S)) (pc' : Nat) (L' : Array Slot) (hd : decode code pc = .ok (.dstore_n k, 1)) (hl : storeLocals L k.val (.double x) = some L') (hp : pc + 1 = pc') : Wl Z a0 own p l e R s m args below meth c code mx B EL h0 n0 ws sf h cells slots pc' L' S :=
  G.plain fun T H hx hy t k => XS.dstoreN (g := mkF m pc L (.double x :: S)) H hx rfl (by rw [hy]; exact hd) rfl hl (by subst hp; exact k)
theorem Wl.astore {k : Nat} {x : Value} (G : Wl Z a0 own p l e R s m args below meth c code mx B EL h0 n0 ws sf h cells slots pc L (x :: S)) (pc' : Nat) (L' : Array Slot) (hd : decode code pc = .ok (.astore k, 2)) (hv : x.isRef = true) (hl : storeLocals L k x = some L') (hp : pc + 2 = pc') : Wl Z a0 own p l e R s m args below meth c code mx B EL h0 n0 ws sf h cells slots pc' L' S :=
  G.plain fun T H hx hy t k => XS.astore (g := mkF m pc L (x :: S)) H hx rfl (by rw [hy]; exact hd) rfl hv hl (by subst hp; exact k)
theorem Wl.astoreN {k : Fin 4} {x : Value} (G : Wl Z a0 own p l e R s m args below meth c code mx B EL h0 n0 ws sf h cells slots pc L (x :: S)) (pc' : Nat) (L' : Array Slot) (hd : decode code pc = .ok (.astore_n k, 1)) (hv : x.isRef = true) (hl : storeLocals L k.val x = some L') (hp : pc + 1 = pc') : Wl Z a0 own p l e R s m args below meth c code mx B EL h0 n0 ws sf h cells slots pc' L' S :=
  G.plain fun T H hx hy t k => XS.astoreN (g := mkF m pc L (x :: S)) H hx rfl (by rw [hy]; exact hd) rfl hv hl (by subst hp; exact k)
theorem Wl.iinc {k : Nat} {cst : Int} {x : Int32} (G : Wl Z a0 own p l e R s m args below meth c code mx B EL h0 n0 ws sf h cells slots pc L S) (pc' : Nat) (L' : Array Slot) (hd : decode code pc = .ok (.iinc k cst, 3)) (hl : L[k]? = some (.val (.int x))) (hl' : storeLocals L k (.int (x + Int32.ofInt cst)) = some L') (hp : pc + 3 = pc') : Wl Z a0 own p l e R s m args below meth c code mx B EL h0 n0 ws sf h cells slots pc' L' S :=
  G.plain fun T H hx hy t k => XS.iinc (g := mkF m pc L (S)) H hx rfl (by rw [hy]; exact hd) hl hl' (by subst hp; exact k)
theorem Wl.iincV {k : Nat} {cst : Int} {x : Int32} (G : Wl Z a0 own p l e R s m args below meth c code mx B EL h0 n0 ws sf h cells slots pc L S) (pc' : Nat) (L' : Array Slot) (y : Int32) (hd : decode code pc = .ok (.iinc k cst, 3)) (hl : L[k]? = some (.val (.int x))) (hv : x + Int32.ofInt cst = y) (hl' : storeLocals L k (.int y) = some L') (hp : pc + 3 = pc') : Wl Z a0 own p l e R s m args below meth c code mx B EL h0 n0 ws sf h cells slots pc' L' S :=
  G.plain fun T H hx hy t k => XS.iinc (g := mkF m pc L (S)) H hx rfl (by rw [hy]; exact hd) hl (by rw [hv]; exact hl') (by subst hp; exact k)
theorem Wl.iconst {i : Int} (G : Wl Z a0 own p l e R s m args below meth c code mx B EL h0 n0 ws sf h cells slots pc L S) (pc' : Nat) (v : Int32) (hd : decode code pc = .ok (.iconst i, 1)) (hv : Int32.ofInt i = v) (hp : pc + 1 = pc') : Wl Z a0 own p l e R s m args below meth c code mx B EL h0 n0 ws sf h cells slots pc' L (.int v :: S) :=
  G.plain fun T H hx hy t k => XS.iconst (g := mkF m pc L (S)) H hx rfl (by rw [hy]; exact hd) (by subst hv hp; exact k)
theorem Wl.bipush {i : Int} (G : Wl Z a0 own p l e R s m args below meth c code mx B EL h0 n0 ws sf h cells slots pc L S) (pc' : Nat) (v : Int32) (hd : decode code pc = .ok (.bipush i, 2)) (hv : (Int8.ofInt i).toInt32 = v) (hp : pc + 2 = pc') : Wl Z a0 own p l e R s m args below meth c code mx B EL h0 n0 ws sf h cells slots pc' L (.int v :: S) :=
  G.plain fun T H hx hy t k => XS.bipush (g := mkF m pc L (S)) H hx rfl (by rw [hy]; exact hd) (by subst hv hp; exact k)
theorem Wl.sipush {i : Int} (G : Wl Z a0 own p l e R s m args below meth c code mx B EL h0 n0 ws sf h cells slots pc L S) (pc' : Nat) (v : Int32) (hd : decode code pc = .ok (.sipush i, 3)) (hv : (Int16.ofInt i).toInt32 = v) (hp : pc + 3 = pc') : Wl Z a0 own p l e R s m args below meth c code mx B EL h0 n0 ws sf h cells slots pc' L (.int v :: S) :=
  G.plain fun T H hx hy t k => XS.sipush (g := mkF m pc L (S)) H hx rfl (by rw [hy]; exact hd) (by subst hv hp; exact k)
theorem Wl.lconst0  (G : Wl Z a0 own p l e R s m args below meth c code mx B EL h0 n0 ws sf h cells slots pc L S) (pc' : Nat) (hd : decode code pc = .ok (.lconst 0, 1)) (hp : pc + 1 = pc') : Wl Z a0 own p l e R s m args below meth c code mx B EL h0 n0 ws sf h cells slots pc' L (.long 0 :: S) :=
  G.plain fun T H hx hy t k => XT.lconst (g := mkF m pc L (S)) H hx rfl (by rw [hy]; exact hd) (by subst hp; exact k)
theorem Wl.lconst1  (G : Wl Z a0 own p l e R s m args below meth c code mx B EL h0 n0 ws sf h cells slots pc L S) (pc' : Nat) (hd : decode code pc = .ok (.lconst 1, 1)) (hp : pc + 1 = pc') : Wl Z a0 own p l e R s m args below meth c code mx B EL h0 n0 ws sf h cells slots pc' L (.long 1 :: S) :=
  G.plain fun T H hx hy t k => XT.lconst (g := mkF m pc L (S)) H hx rfl (by rw [hy]; exact hd) (by subst hp; exact k)
theorem Wl.aconstNull  (G : Wl Z a0 own p l e R s m args below meth c code mx B EL h0 n0 ws sf h cells slots pc L S) (pc' : Nat) (hd : decode code pc = .ok (.aconst_null, 1)) (hp : pc + 1 = pc') : Wl Z a0 own p l e R s m args below meth c code mx B EL h0 n0 ws sf h cells slots pc' L (.null :: S) :=
  G.plain fun T H hx hy t k => XS.aconstNull (g := mkF m pc L (S)) H hx rfl (by rw [hy]; exact hd) (by subst hp; exact k)
theorem Wl.iadd {x y : Int32} (G : Wl Z a0 own p l e R s m args below meth c code mx B EL h0 n0 ws sf h cells slots pc L (.int y :: .int x :: S)) (pc' : Nat) (hd : decode code pc = .ok (.iadd, 1)) (hp : pc + 1 = pc') : Wl Z a0 own p l e R s m args below meth c code mx B EL h0 n0 ws sf h cells slots pc' L (.int (x + y) :: S) :=
  G.plain fun T H hx hy t k => XS.iadd (g := mkF m pc L (.int y :: .int x :: S)) H hx rfl (by rw [hy]; exact hd) rfl (by subst hp; exact k)
theorem Wl.isub {x y : Int32} (G : Wl Z a0 own p l e R s m args below meth c code mx B EL h0 n0 ws sf h cells slots pc L (.int y :: .int x :: S)) (pc' : Nat) (hd : decode code pc = .ok (.isub, 1)) (hp : pc + 1 = pc') : Wl Z a0 own p l e R s m args below meth c code mx B EL h0 n0 ws sf h cells slots pc' L (.int (x - y) :: S) :=
  G.plain fun T H hx hy t k => XS.isub (g := mkF m pc L (.int y :: .int x :: S)) H hx rfl (by rw [hy]; exact hd) rfl (by subst hp; exact k)
theorem Wl.imul {x y : Int32} (G : Wl Z a0 own p l e R s m args below meth c code mx B EL h0 n0 ws sf h cells slots pc L (.int y :: .int x :: S)) (pc' : Nat) (hd : decode code pc = .ok (.imul, 1)) (hp : pc + 1 = pc') : Wl Z a0 own p l e R s m args below meth c code mx B EL h0 n0 ws sf h cells slots pc' L (.int (x * y) :: S) :=
  G.plain fun T H hx hy t k => XS.imul (g := mkF m pc L (.int y :: .int x :: S)) H hx rfl (by rw [hy]; exact hd) rfl (by subst hp; exact k)
theorem Wl.iand {x y : Int32} (G : Wl Z a0 own p l e R s m args below meth c code mx B EL h0 n0 ws sf h cells slots pc L (.int y :: .int x :: S)) (pc' : Nat) (hd : decode code pc = .ok (.iand, 1)) (hp : pc + 1 = pc') : Wl Z a0 own p l e R s m args below meth c code mx B EL h0 n0 ws sf h cells slots pc' L (.int (x &&& y) :: S) :=
  G.plain fun T H hx hy t k => XS.iand (g := mkF m pc L (.int y :: .int x :: S)) H hx rfl (by rw [hy]; exact hd) rfl (by subst hp; exact k)
theorem Wl.ior {x y : Int32} (G : Wl Z a0 own p l e R s m args below meth c code mx B EL h0 n0 ws sf h cells slots pc L (.int y :: .int x :: S)) (pc' : Nat) (hd : decode code pc = .ok (.ior, 1)) (hp : pc + 1 = pc') : Wl Z a0 own p l e R s m args below meth c code mx B EL h0 n0 ws sf h cells slots pc' L (.int (x ||| y) :: S) :=
  G.plain fun T H hx hy t k => XT.ior (g := mkF m pc L (.int y :: .int x :: S)) H hx rfl (by rw [hy]; exact hd) rfl (by subst hp; exact k)
theorem Wl.ixor {x y : Int32} (G : Wl Z a0 own p l e R s m args below meth c code mx B EL h0 n0 ws sf h cells slots pc L (.int y :: .int x :: S)) (pc' : Nat) (hd : decode code pc = .ok (.ixor, 1)) (hp : pc + 1 = pc') : Wl Z a0 own p l e R s m args below meth c code mx B EL h0 n0 ws sf h cells slots pc' L (.int (x ^^^ y) :: S) :=
  G.plain fun T H hx hy t k => XT.ixor (g := mkF m pc L (.int y :: .int x :: S)) H hx rfl (by rw [hy]; exact hd) rfl (by subst hp; exact k)
theorem Wl.ishl {x y : Int32} (G : Wl Z a0 own p l e R s m args below meth c code mx B EL h0 n0 ws sf h cells slots pc L (.int y :: .int x :: S)) (pc' : Nat) (hd : decode code pc = .ok (.ishl, 1)) (hp : pc + 1 = pc') : Wl Z a0 own p l e R s m args below meth c code mx B EL h0 n0 ws sf h cells slots pc' L (.int (x <<< (y &&& 31)) :: S) :=
  G.plain fun T H hx hy t k => XT.ishl (g := mkF m pc L (.int y :: .int x :: S)) H hx rfl (by rw [hy]; exact hd) rfl (by subst hp; exact k)
theorem Wl.ishr {x y : Int32} (G : Wl Z a0 own p l e R s m args below meth c code mx B EL h0 n0 ws sf h cells slots pc L (.int y :: .int x :: S)) (pc' : Nat) (hd : decode code pc = .ok (.ishr, 1)) (hp : pc + 1 = pc') : Wl Z a0 own p l e R s m args below meth c code mx B EL h0 n0 ws sf h cells slots pc' L (.int (x >>> (y &&& 31)) :: S) :=
  G.plain fun T H hx hy t k => XT.ishr (g := mkF m pc L (.int y :: .int x :: S)) H hx rfl (by rw [hy]; exact hd) rfl (by subst hp; exact k)
theorem Wl.iushr {x y : Int32} (G : Wl Z a0 own p l e R s m args below meth c code mx B EL h0 n0 ws sf h cells slots pc L (.int y :: .int x :: S)) (pc' : Nat) (hd : decode code pc = .ok (.iushr, 1)) (hp : pc + 1 = pc') : Wl Z a0 own p l e R s m args below meth c code mx B EL h0 n0 ws sf h cells slots pc' L (.int (XT.ushr x y) :: S) :=
  G.plain fun T H hx hy t k => XT.iushr (g := mkF m pc L (.int y :: .int x :: S)) H hx rfl (by rw [hy]; exact hd) rfl (by subst hp; exact k)
theorem Wl.idiv {x y : Int32} (G : Wl Z a0 own p l e R s m args below meth c code mx B EL h0 n0 ws sf h cells slots pc L (.int y :: .int x :: S)) (pc' : Nat) (hd : decode code pc = .ok (.idiv, 1)) (hy0 : y ≠ 0) (hp : pc + 1 = pc') : Wl Z a0 own p l e R s m args below meth c code mx B EL h0 n0 ws sf h cells slots pc' L (.int (x / y) :: S) :=
  G.plain fun T H hx hy t k => XS.idiv (g := mkF m pc L (.int y :: .int x :: S)) H hx rfl (by rw [hy]; exact hd) rfl hy0 (by subst hp; exact k)
theorem Wl.irem {x y : Int32} (G : Wl Z a0 own p l e R s m args below meth c code mx B EL h0 n0 ws sf h cells slots pc L (.int y :: .int x :: S)) (pc' : Nat) (hd : decode code pc = .ok (.irem, 1)) (hy0 : y ≠ 0) (hp : pc + 1 = pc') : Wl Z a0 own p l e R s m args below meth c code mx B EL h0 n0 ws sf h cells slots pc' L (.int (x - (x / y) * y) :: S) :=
  G.plain fun T H hx hy t k => XS.irem (g := mkF m pc L (.int y :: .int x :: S)) H hx rfl (by rw [hy]; exact hd) rfl hy0 (by subst hp; exact k)
theorem Wl.ineg {x : Int32} (G : Wl Z a0 own p l e R s m args below meth c code mx B EL h0 n0 ws sf h cells slots pc L (.int x :: S)) (pc' : Nat) (hd : decode code pc = .ok (.ineg, 1)) (hp : pc + 1 = pc') : Wl Z a0 own p l e R s m args below meth c code mx B EL h0 n0 ws sf h cells slots pc' L (.int (-x) :: S) :=
  G.plain fun T H hx hy t k => XS.ineg (g := mkF m pc L (.int x :: S)) H hx rfl (by rw [hy]; exact hd) rfl (by subst hp; exact k)
theorem Wl.ladd {x y : Int64} (G : Wl Z a0 own p l e R s m args below meth c code mx B EL h0 n0 ws sf h cells slots pc L (.long y :: .long x :: S)) (pc' : Nat) (hd : decode code pc = .ok (.ladd, 1)) (hp : pc + 1 = pc') : Wl Z a0 own p l e R s m args below meth c code mx B EL h0 n0 ws sf h cells slots pc' L (.long (x + y) :: S) :=
  G.plain fun T H hx hy t k => XT.ladd (g := mkF m pc L (.long y :: .long x :: S)) H hx rfl (by rw [hy]; exact hd) rfl (by subst hp; exact k)
theorem Wl.lsub {x y : Int64} (G : Wl Z a0 own p l e R s m args below meth c code mx B EL h0 n0 ws sf h cells slots pc L (.long y :: .long x :: S)) (pc' : Nat) (hd : decode code pc = .ok (.lsub, 1)) (hp : pc + 1 = pc') : Wl Z a0 own p l e R s m args below meth c code mx B EL h0 n0 ws sf h cells slots pc' L (.long (x - y) :: S) :=
  G.plain fun T H hx hy t k => XT.lsub (g := mkF m pc L (.long y :: .long x :: S)) H hx rfl (by rw [hy]; exact hd) rfl (by subst hp; exact k)
theorem Wl.lmul {x y : Int64} (G : Wl Z a0 own p l e R s m args below meth c code mx B EL h0 n0 ws sf h cells slots pc L (.long y :: .long x :: S)) (pc' : Nat) (hd : decode code pc = .ok (.lmul, 1)) (hp : pc + 1 = pc') : Wl Z a0 own p l e R s m args below meth c code mx B EL h0 n0 ws sf h cells slots pc' L (.long (x * y) :: S) :=
  G.plain fun T H hx hy t k => XT.lmul (g := mkF m pc L (.long y :: .long x :: S)) H hx rfl (by rw [hy]; exact hd) rfl (by subst hp; exact k)
theorem Wl.land {x y : Int64} (G : Wl Z a0 own p l e R s m args below meth c code mx B EL h0 n0 ws sf h cells slots pc L (.long y :: .long x :: S)) (pc' : Nat) (hd : decode code pc = .ok (.land, 1)) (hp : pc + 1 = pc') : Wl Z a0 own p l e R s m args below meth c code mx B EL h0 n0 ws sf h cells slots pc' L (.long (x &&& y) :: S) :=
  G.plain fun T H hx hy t k => XT.land (g := mkF m pc L (.long y :: .long x :: S)) H hx rfl (by rw [hy]; exact hd) rfl (by subst hp; exact k)
theorem Wl.lor {x y : Int64} (G : Wl Z a0 own p l e R s m args below meth c code mx B EL h0 n0 ws sf h cells slots pc L (.long y :: .long x :: S)) (pc' : Nat) (hd : decode code pc = .ok (.lor, 1)) (hp : pc + 1 = pc') : Wl Z a0 own p l e R s m args below meth c code mx B EL h0 n0 ws sf h cells slots pc' L (.long (x ||| y) :: S) :=
  G.plain fun T H hx hy t k => XT.lor (g := mkF m pc L (.long y :: .long x :: S)) H hx rfl (by rw [hy]; exact hd) rfl (by subst hp; exact k)
theorem Wl.lxor {x y : Int64} (G : Wl Z a0 own p l e R s m args below meth c code mx B EL h0 n0 ws sf h cells slots pc L (.long y :: .long x :: S)) (pc' : Nat) (hd : decode code pc = .ok (.lxor, 1)) (hp : pc + 1 = pc') : Wl Z a0 own p l e R s m args below meth c code mx B EL h0 n0 ws sf h cells slots pc' L (.long (x ^^^ y) :: S) :=
  G.plain fun T H hx hy t k => XT.lxor (g := mkF m pc L (.long y :: .long x :: S)) H hx rfl (by rw [hy]; exact hd) rfl (by subst hp; exact k)
theorem Wl.ldiv {x y : Int64} (G : Wl Z a0 own p l e R s m args below meth c code mx B EL h0 n0 ws sf h cells slots pc L (.long y :: .long x :: S)) (pc' : Nat) (hd : decode code pc = .ok (.ldiv, 1)) (hy0 : y ≠ 0) (hp : pc + 1 = pc') : Wl Z a0 own p l e R s m args below meth c code mx B EL h0 n0 ws sf h cells slots pc' L (.long (x / y) :: S) :=
  G.plain fun T H hx hy t k => XT.ldiv (g := mkF m pc L (.long y :: .long x :: S)) H hx rfl (by rw [hy]; exact hd) rfl hy0 (by subst hp; exact k)
theorem Wl.lrem {x y : Int64} (G : Wl Z a0 own p l e R s m args below meth c code mx B EL h0 n0 ws sf h cells slots pc L (.long y :: .long x :: S)) (pc' : Nat) (hd : decode code pc = .ok (.lrem, 1)) (hy0 : y ≠ 0) (hp : pc + 1 = pc') : Wl Z a0 own p l e R s m args below meth c code mx B EL h0 n0 ws sf h cells slots pc' L (.long (x - (x / y) * y) :: S) :=
  G.plain fun T H hx hy t k => XT.lrem (g := mkF m pc L (.long y :: .long x :: S)) H hx rfl (by rw [hy]; exact hd) rfl hy0 (by subst hp; exact k)
theorem Wl.lneg {x : Int64} (G : Wl Z a0 own p l e R s m args below meth c code mx B EL h0 n0 ws sf h cells slots pc L (.long x :: S)) (pc' : Nat) (hd : decode code pc = .ok (.lneg, 1)) (hp : pc + 1 = pc') : Wl Z a0 own p l e R s m args below meth c code mx B EL h0 n0 ws sf h cells slots pc' L (.long (-x) :: S) :=
  G.plain fun T H hx hy t k => XT.lneg (g := mkF m pc L (.long x :: S)) H hx rfl (by rw [hy]; exact hd) rfl (by subst hp; exact k)
theorem Wl.lushr {x : Int64} {y : Int32} (G : Wl Z a0 own p l e R s m args below meth c code mx B EL h0 n0 ws sf h cells slots pc L (.int y :: .long x :: S)) (pc' : Nat) (hd : decode code pc = .ok (.lushr, 1)) (hp : pc + 1 = pc') : Wl Z a0 own p l e R s m args below meth c code mx B EL h0 n0 ws sf h cells slots pc' L (.long (XT.ushrL x y) :: S) :=
  G.plain fun T H hx hy t k => XT.lushr (g := mkF m pc L (.int y :: .long x :: S)) H hx rfl (by rw [hy]; exact hd) rfl (by subst hp; exact k)
theorem Wl.lcmp {x y : Int64} (G : Wl Z a0 own p l e R s m args below meth c code mx B EL h0 n0 ws sf h cells slots pc L (.long y :: .long x :: S)) (pc' : Nat) (hd : decode code pc = .ok (.lcmp, 1)) (hp : pc + 1 = pc') : Wl Z a0 own p l e R s m args below meth c code mx B EL h0 n0 ws sf h cells slots pc' L (.int (XT.cmpL x y) :: S) :=
  G.plain fun T H hx hy t k => XT.lcmp (g := mkF m pc L (.long y :: .long x :: S)) H hx rfl (by rw [hy]; exact hd) rfl (by subst hp; exact k)
theorem Wl.i2l {x : Int32} (G : Wl Z a0 own p l e R s m args below meth c code mx B EL h0 n0 ws sf h cells slots pc L (.int x :: S)) (pc' : Nat) (hd : decode code pc = .ok (.i2l, 1)) (hp : pc + 1 = pc') : Wl Z a0 own p l e R s m args below meth c code mx B EL h0 n0 ws sf h cells slots pc' L (.long x.toInt64 :: S) :=
  G.plain fun T H hx hy t k => XT.i2l (g := mkF m pc L (.int x :: S)) H hx rfl (by rw [hy]; exact hd) rfl (by subst hp; exact k)
theorem Wl.l2i {x : Int64} (G : Wl Z a0 own p l e R s m args below meth c code mx B EL h0 n0 ws sf h cells slots pc L (.long x :: S)) (pc' : Nat) (hd : decode code pc = .ok (.l2i, 1)) (hp : pc + 1 = pc') : Wl Z a0 own p l e R s m args below meth c code mx B EL h0 n0 ws sf h cells slots pc' L (.int x.toInt32 :: S) :=
  G.plain fun T H hx hy t k => XT.l2i (g := mkF m pc L (.long x :: S)) H hx rfl (by rw [hy]; exact hd) rfl (by subst hp; exact k)
theorem Wl.i2b {x : Int32} (G : Wl Z a0 own p l e R s m args below meth c code mx B EL h0 n0 ws sf h cells slots pc L (.int x :: S)) (pc' : Nat) (hd : decode code pc = .ok (.i2b, 1)) (hp : pc + 1 = pc') : Wl Z a0 own p l e R s m args below meth c code mx B EL h0 n0 ws sf h cells slots pc' L (.int x.toInt8.toInt32 :: S) :=
  G.plain fun T H hx hy t k => XT.i2b (g := mkF m pc L (.int x :: S)) H hx rfl (by rw [hy]; exact hd) rfl (by subst hp; exact k)
theorem Wl.i2c {x : Int32} (G : Wl Z a0 own p l e R s m args below meth c code mx B EL h0 n0 ws sf h cells slots pc L (.int x :: S)) (pc' : Nat) (hd : decode code pc = .ok (.i2c, 1)) (hp : pc + 1 = pc') : Wl Z a0 own p l e R s m args below meth c code mx B EL h0 n0 ws sf h cells slots pc' L (.int x.toUInt32.toUInt16.toUInt32.toInt32 :: S) :=
  G.plain fun T H hx hy t k => XT.i2c (g := mkF m pc L (.int x :: S)) H hx rfl (by rw [hy]; exact hd) rfl (by subst hp; exact k)
theorem Wl.dup {x : Value} (G : Wl Z a0 own p l e R s m args below meth c code mx B EL h0 n0 ws sf h cells slots pc L (x :: S)) (pc' : Nat) (hd : decode code pc = .ok (.dup, 1)) (hc : x.category = 1) (hp : pc + 1 = pc') : Wl Z a0 own p l e R s m args below meth c code mx B EL h0 n0 ws sf h cells slots pc' L (x :: x :: S) :=
  G.plain fun T H hx hy t k => XS.dup (g := mkF m pc L (x :: S)) H hx rfl (by rw [hy]; exact hd) rfl hc (by subst hp; exact k)
theorem Wl.pop {x : Value} (G : Wl Z a0 own p l e R s m args below meth c code mx B EL h0 n0 ws sf h cells slots pc L (x :: S)) (pc' : Nat) (hd : decode code pc = .ok (.pop, 1)) (hc : x.category = 1) (hp : pc + 1 = pc') : Wl Z a0 own p l e R s m args below meth c code mx B EL h0 n0 ws sf h cells slots pc' L S :=
  G.plain fun T H hx hy t k => XT.pop (g := mkF m pc L (x :: S)) H hx rfl (by rw [hy]; exact hd) rfl hc (by subst hp; exact k)
theorem Wl.dupX1 {x y : Value} (G : Wl Z a0 own p l e R s m args below meth c code mx B EL h0 n0 ws sf h cells slots pc L (y :: x :: S)) (pc' : Nat) (hd : decode code pc = .ok (.dup_x1, 1)) (hc : y.category = 1) (hc' : x.category = 1) (hp : pc + 1 = pc') : Wl Z a0 own p l e R s m args below meth c code mx B EL h0 n0 ws sf h cells slots pc' L (y :: x :: y :: S) :=
  G.plain fun T H hx hy t k => XT.dupX1 (g := mkF m pc L (y :: x :: S)) H hx rfl (by rw [hy]; exact hd) rfl hc hc' (by subst hp; exact k)
theorem Wl.i2dS {x : Int32} {v : UInt64} (G : Wl Z a0 own p l e R s m args below meth c code mx B EL h0 n0 ws sf h cells slots pc L (.int x :: S)) (pc' : Nat) (hd : decode code pc = .ok (.i2d, 1)) (hv : FP.i2d x = v) (hp : pc + 1 = pc') : Wl Z a0 own p l e R s m args below meth c code mx B EL h0 n0 ws sf h cells slots pc' L (.double v :: S) :=
  G.plain fun T H hx hy t k => XS.i2dS (g := mkF m pc L (.int x :: S)) H hx rfl (by rw [hy]; exact hd) rfl hv (by subst hp; exact k)
theorem Wl.l2dS {x : Int64} {v : UInt64} (G : Wl Z a0 own p l e R s m args below meth c code mx B EL h0 n0 ws sf h cells slots pc L (.long x :: S)) (pc' : Nat) (hd : decode code pc = .ok (.l2d, 1)) (hv : FP.l2d x = v) (hp : pc + 1 = pc') : Wl Z a0 own p l e R s m args below meth c code mx B EL h0 n0 ws sf h cells slots pc' L (.double v :: S) :=
  G.plain fun T H hx hy t k => XS.l2dS (g := mkF m pc L (.long x :: S)) H hx rfl (by rw [hy]; exact hd) rfl hv (by subst hp; exact k)
theorem Wl.daddS {x y v : UInt64} (G : Wl Z a0 own p l e R s m args below meth c code mx B EL h0 n0 ws sf h cells slots pc L (.double y :: .double x :: S)) (pc' : Nat) (hd : decode code pc = .ok (.dadd, 1)) (hn : Jvm.Free.Fl.NoNaN64 (FP.dadd x y)) (hv : FP.dadd x y = v) (hp : pc + 1 = pc') : Wl Z a0 own p l e R s m args below meth c code mx B EL h0 n0 ws sf h cells slots pc' L (.double v :: S) :=
  G.plain fun T H hx hy t k => XS.daddS (g := mkF m pc L (.double y :: .double x :: S)) H hx rfl (by rw [hy]; exact hd) rfl hn hv (by subst hp; exact k)
theorem Wl.dcmpS {o : CmpOp} {x y : UInt64} {v : Int32} (G : Wl Z a0 own p l e R s m args below meth c code mx B EL h0 n0 ws sf h cells slots pc L (.double y :: .double x :: S)) (pc' : Nat) (hd : decode code pc = .ok (.dcmp o, 1)) (hv : cmpValue (FP.dcmp x y) o = v) (hp : pc + 1 = pc') : Wl Z a0 own p l e R s m args below meth c code mx B EL h0 n0 ws sf h cells slots pc' L (.int v :: S) :=
  G.plain fun T H hx hy t k => XS.dcmpS (g := mkF m pc L (.double y :: .double x :: S)) H hx rfl (by rw [hy]; exact hd) rfl hv (by subst hp; exact k)
theorem Wl.goto  {o : Int} (G : Wl Z a0 own p l e R s m args below meth c code mx B EL h0 n0 ws sf h cells slots pc L S) (pc' : Nat) (hd : decode code pc = .ok (.goto o, 3)) (ho : 0 ≤ (pc : Int) + o) (hp : ((pc : Int) + o).toNat = pc') : Wl Z a0 own p l e R s m args below meth c code mx B EL h0 n0 ws sf h cells slots pc' L S :=
  G.plain fun T H hx hy t k => XS.goto (g := mkF m pc L (S)) (pc' := pc') H hx rfl rfl (by rw [hy]; exact hd) ho hp k
theorem Wl.ifT {cd : ClassFile.Cond} {x : Int32} {o : Int} (G : Wl Z a0 own p l e R s m args below meth c code mx B EL h0 n0 ws sf h cells slots pc L (.int x :: S)) (pc' : Nat) (hd : decode code pc = .ok (.ifCond cd o, 3)) (hc : ifCond.holds cd x = true) (ho : 0 ≤ (pc : Int) + o) (hp : ((pc : Int) + o).toNat = pc') : Wl Z a0 own p l e R s m args below meth c code mx B EL h0 n0 ws sf h cells slots pc' L S :=
  G.plain fun T H hx hy t k => XS.ifYes (g := mkF m pc L (.int x :: S)) (pc' := pc') H hx rfl rfl (by rw [hy]; exact hd) rfl hc ho hp k
theorem Wl.icmpT {cd : ClassFile.Cond} {x y : Int32} {o : Int} (G : Wl Z a0 own p l e R s m args below meth c code mx B EL h0 n0 ws sf h cells slots pc L (.int y :: .int x :: S)) (pc' : Nat) (hd : decode code pc = .ok (.if_icmp cd o, 3)) (hc : if_icmp.holds cd x y = true) (ho : 0 ≤ (pc : Int) + o) (hp : ((pc : Int) + o).toNat = pc') : Wl Z a0 own p l e R s m args below meth c code mx B EL h0 n0 ws sf h cells slots pc' L S :=
  G.plain fun T H hx hy t k => XS.icmpYes (g := mkF m pc L (.int y :: .int x :: S)) (pc' := pc') H hx rfl rfl (by rw [hy]; exact hd) rfl hc ho hp k
theorem Wl.ifnullT  {o : Int} (G : Wl Z a0 own p l e R s m args below meth c code mx B EL h0 n0 ws sf h cells slots pc L (.null :: S)) (pc' : Nat) (hd : decode code pc = .ok (.ifnull o, 3)) (ho : 0 ≤ (pc : Int) + o) (hp : ((pc : Int) + o).toNat = pc') : Wl Z a0 own p l e R s m args below meth c code mx B EL h0 n0 ws sf h cells slots pc' L S :=
  G.plain fun T H hx hy t k => XS.ifnullYes (g := mkF m pc L (.null :: S)) (pc' := pc') H hx rfl rfl (by rw [hy]; exact hd) rfl ho hp k
theorem Wl.ifnonnullT {b : Addr} {o : Int} (G : Wl Z a0 own p l e R s m args below meth c code mx B EL h0 n0 ws sf h cells slots pc L (.ref b :: S)) (pc' : Nat) (hd : decode code pc = .ok (.ifnonnull o, 3)) (ho : 0 ≤ (pc : Int) + o) (hp : ((pc : Int) + o).toNat = pc') : Wl Z a0 own p l e R s m args below meth c code mx B EL h0 n0 ws sf h cells slots pc' L S :=
  G.plain fun T H hx hy t k => XT.ifnonnullYes (g := mkF m pc L (.ref b :: S)) (pc' := pc') H hx rfl rfl (by rw [hy]; exact hd) rfl ho hp k
theorem Wl.acmpT {cd : ClassFile.ACond} {x y : Value} {o : Int} (G : Wl Z a0 own p l e R s m args below meth c code mx B EL h0 n0 ws sf h cells slots pc L (y :: x :: S)) (pc' : Nat) (hd : decode code pc = .ok (.if_acmp cd o, 3)) (hx1 : x.isRef = true) (hy1 : y.isRef = true) (hc : XT.acmp cd x y = true) (ho : 0 ≤ (pc : Int) + o) (hp : ((pc : Int) + o).toNat = pc') : Wl Z a0 own p l e R s m args below meth c code mx B EL h0 n0 ws sf h cells slots pc' L S :=
  G.plain fun T H hx hy t k => XT.acmpYes (g := mkF m pc L (y :: x :: S)) (pc' := pc') H hx rfl rfl (by rw [hy]; exact hd) rfl hx1 hy1 hc ho hp k
theorem Wl.ifF {cd : ClassFile.Cond} {x : Int32} {o : Int} (G : Wl Z a0 own p l e R s m args below meth c code mx B EL h0 n0 ws sf h cells slots pc L (.int x :: S)) (pc' : Nat) (hd : decode code pc = .ok (.ifCond cd o, 3)) (hc : ifCond.holds cd x = false) (hp : pc + 3 = pc') : Wl Z a0 own p l e R s m args below meth c code mx B EL h0 n0 ws sf h cells slots pc' L S :=
  G.plain fun T H hx hy t k => XS.ifNo (g := mkF m pc L (.int x :: S)) H hx rfl (by rw [hy]; exact hd) rfl hc (by subst hp; exact k)
theorem Wl.icmpF {cd : ClassFile.Cond} {x y : Int32} {o : Int} (G : Wl Z a0 own p l e R s m args below meth c code mx B EL h0 n0 ws sf h cells slots pc L (.int y :: .int x :: S)) (pc' : Nat) (hd : decode code pc = .ok (.if_icmp cd o, 3)) (hc : if_icmp.holds cd x y = false) (hp : pc + 3 = pc') : Wl Z a0 own p l e R s m args below meth c code mx B EL h0 n0 ws sf h cells slots pc' L S :=
  G.plain fun T H hx hy t k => XS.icmpNo (g := mkF m pc L (.int y :: .int x :: S)) H hx rfl (by rw [hy]; exact hd) rfl hc (by subst hp; exact k)
theorem Wl.ifnullF {b : Addr} {o : Int} (G : Wl Z a0 own p l e R s m args below meth c code mx B EL h0 n0 ws sf h cells slots pc L (.ref b :: S)) (pc' : Nat) (hd : decode code pc = .ok (.ifnull o, 3)) (hp : pc + 3 = pc') : Wl Z a0 own p l e R s m args below meth c code mx B EL h0 n0 ws sf h cells slots pc' L S :=
  G.plain fun T H hx hy t k => XS.ifnullNo (g := mkF m pc L (.ref b :: S)) H hx rfl (by rw [hy]; exact hd) rfl (by subst hp; exact k)
theorem Wl.ifnonnullF  {o : Int} (G : Wl Z a0 own p l e R s m args below meth c code mx B EL h0 n0 ws sf h cells slots pc L (.null :: S)) (pc' : Nat) (hd : decode code pc = .ok (.ifnonnull o, 3)) (hp : pc + 3 = pc') : Wl Z a0 own p l e R s m args below meth c code mx B EL h0 n0 ws sf h cells slots pc' L S :=
  G.plain fun T H hx hy t k => XT.ifnonnullNo (g := mkF m pc L (.null :: S)) H hx rfl (by rw [hy]; exact hd) rfl (by subst hp; exact k)
theorem Wl.acmpF {cd : ClassFile.ACond} {x y : Value} {o : Int} (G : Wl Z a0 own p l e R s m args below meth c code mx B EL h0 n0 ws sf h cells slots pc L (y :: x :: S)) (pc' : Nat) (hd : decode code pc = .ok (.if_acmp cd o, 3)) (hx1 : x.isRef = true) (hy1 : y.isRef = true) (hc : XT.acmp cd x y = false) (hp : pc + 3 = pc') : Wl Z a0 own p l e R s m args below meth c code mx B EL h0 n0 ws sf h cells slots pc' L S :=
  G.plain fun T H hx hy t k => XT.acmpNo (g := mkF m pc L (y :: x :: S)) H hx rfl (by rw [hy]; exact hd) rfl hx1 hy1 hc (by subst hp; exact k)
theorem ext_keep {h h' : Heap} (E : Ext h h') : Keep h h' [] := (Keep.refl h []).ext E
def NW (h0 : Heap) (ws : List Addr) (a : Addr) : Prop := a ∈ ws ∨ h0.size ≤ a
theorem NW.new {a : Addr} (q : h0.size ≤ a) : NW h0 ws a := Or.inr q
theorem ne_new {a b : Addr} {n : Nat} (q : a = n) (r : b < n) : b ≠ a := Nat.ne_of_lt (q.symm ▸ r)
theorem ne_ge {a b : Addr} {n : Nat} (r : a < n) (q : n ≤ b) : b ≠ a := (Nat.ne_of_lt (Nat.lt_of_lt_of_le r q)).symm
theorem Wl.new {C : String} {index n : Nat} (G : Wl Z a0 own p l e R s m args below meth c code mx B EL h0 n0 ws sf h cells slots pc L S) (pc' : Nat) (w : (Cond.classLink own index C).before a0 Z = true) (wi : (Cond.instantiable C n).before a0 Z = true) (wz : (Cond.initialized C).before a0 Z = true) (hd : decode code pc = .ok (.new index, 3)) (hp : pc + 3 = pc') (hc : cells + 1 ≤ R.cells) (hl : slots + n ≤ R.slots) : ∃ (a : Addr) (h' : Heap), Wl Z a0 own p l e R s m args below meth c code mx B EL h0 n0 ws (a :: sf) h' (cells + 1) (slots + n) pc' L (.ref a :: S) ∧ a = h.size ∧ h0.size ≤ a ∧ Ext h h' ∧ Exa Z h' a C ∧ (∀ {O nm d : String} {ty : FieldType}, Laid Z a0 C O nm d → parseFieldDescriptor d = some ty → Fld Z h' a O nm d (defaultValue ty)) ∧ Unt h' a := by
  obtain ⟨⟨hx, hby, hml, hEW⟩, ⟨o1, z2, z3, z1, es⟩, v0, k0, T, locs, X, ⟨hS, hk, hZ, hown⟩, ⟨hC, hF⟩, N, eT, k⟩ := G
  obtain ⟨T', h', X', e', E, A, D, U, st⟩ := newO X hx hZ hown w wi wz eT (g := mkF m pc L S) rfl (hb hby hd) hc hl
  exact ⟨h.size, h', ⟨⟨hx, hby, hml, hEW⟩, ⟨o1.ext E, z2.ext E, z3, z1, es⟩, v0, k0, T', _, X', ⟨hS, Nat.le_trans hk E.1, hZ, hown⟩, ⟨hC.trans (CHr.ext E hC.1), safeNew E hC.1 hF A.lt⟩, N, e', fun t q => k t (st t (by subst hp; exact q))⟩, rfl, z2.1, E, A, D, U⟩
theorem Wl.newarray {aty : ArrayType} {n : Int32} (G : Wl Z a0 own p l e R s m args below meth c code mx B EL h0 n0 ws sf h cells slots pc L (.int n :: S)) (pc' : Nat) (w : (Cond.arrayClass (newarray.typeOf aty)).before a0 Z = true) (hd : decode code pc = .ok (.newarray aty, 2)) (hn : ¬ n < 0) (cap : Nat) (hcap : n.toNatClampNeg ≤ cap) (hb8 : cap * 8 ≤ 536870912) (hp : pc + 2 = pc') (hc : cells + 1 ≤ R.cells) (hl : slots + cap ≤ R.slots) : ∃ (a : Addr) (h' : Heap) (k : ClassId), Wl Z a0 own p l e R s m args below meth c code mx B EL h0 n0 ws (a :: sf) h' (cells + 1) (slots + cap) pc' L (.ref a :: S) ∧ a = h.size ∧ h0.size ≤ a ∧ Ext h h' ∧ Arv Z h' a k (newarray.typeOf aty) n [] (defaultValue (newarray.typeOf aty)) := by
  obtain ⟨⟨hx, hby, hml, hEW⟩, ⟨o1, z2, z3, z1, es⟩, v0, k0, T, locs, X, ⟨hS, hk, hZ, hown⟩, ⟨hC, hF⟩, N, eT, k⟩ := G
  obtain ⟨T', h', cA, X', e', E, A, st⟩ := newP X hx hZ w eT (g := mkF m pc L (.int n :: S)) rfl (hb hby hd) rfl hn hcap hb8 hc hl
  exact ⟨h.size, h', cA, ⟨⟨hx, hby, hml, hEW⟩, ⟨o1.ext E, z2.ext E, z3, z1, es⟩, v0, k0, T', _, X', ⟨hS, Nat.le_trans hk E.1, hZ, hown⟩, ⟨hC.trans (CHr.ext E hC.1), safeNew E hC.1 hF A.lt⟩, N, e', fun t q => k t (st t (by subst hp; exact q))⟩, rfl, z2.1, E, Arv.new A hn⟩
theorem Wl.getf {R0 O n d host : String} {index : Nat} {a : Addr} {v : Value} (G : Wl Z a0 own p l e R s m args below meth c code mx B EL h0 n0 ws sf h cells slots pc L (.ref a :: S)) (pc' : Nat) (w : (Cond.fieldLink own index R0 n d).before a0 Z = true ∨ (Cond.fieldLinkNest own index R0 n d host).before a0 Z = true) (via : Via Z R0 O n d) (F : Fld Z h a O n d v) (hd : decode code pc = .ok (.getfield index, 3)) (hp : pc + 3 = pc') : Wl Z a0 own p l e R s m args below meth c code mx B EL h0 n0 ws sf h cells slots pc' L (v :: S) := by
  obtain ⟨⟨hx, hby, hml, hEW⟩, ⟨o1, z2, z3, z1, es⟩, v0, k0, T, locs, X, ⟨hS, hk, hZ, hown⟩, ⟨hC, hF⟩, N, eT, k⟩ := G
  obtain ⟨T', X', e', st⟩ := getF X hx hZ hown w via eT F (g := mkF m pc L (.ref a :: S)) rfl rfl (hb hby hd)
  exact ⟨⟨hx, hby, hml, hEW⟩, ⟨o1, z2, z3, z1, es⟩, v0, k0, T', _, X', ⟨hS, hk, hZ, hown⟩, ⟨hC, hF⟩, N, e', fun t q => k t (st t (by subst hp; exact q))⟩
theorem Wl.gets {R0 O n d host : String} {index : Nat} {v : Value} (G : Wl Z a0 own p l e R s m args below meth c code mx B EL h0 n0 ws sf h cells slots pc L S) (pc' : Nat) (w : (Cond.fieldLink own index R0 n d).before a0 Z = true ∨ (Cond.fieldLinkNest own index R0 n d host).before a0 Z = true) (via : Via Z R0 O n d) (F : Sta Z h O n d v) (hd : decode code pc = .ok (.getstatic index, 3)) (hp : pc + 3 = pc') : Wl Z a0 own p l e R s m args below meth c code mx B EL h0 n0 ws sf h cells slots pc' L (v :: S) := by
  obtain ⟨⟨hx, hby, hml, hEW⟩, ⟨o1, z2, z3, z1, es⟩, v0, k0, T, locs, X, ⟨hS, hk, hZ, hown⟩, ⟨hC, hF⟩, N, eT, k⟩ := G
  obtain ⟨T', X', e', st⟩ := getS2 X hx hZ hown w via eT F (g := mkF m pc L S) rfl (hb hby hd)
  exact ⟨⟨hx, hby, hml, hEW⟩, ⟨o1, z2, z3, z1, es⟩, v0, k0, T', _, X', ⟨hS, hk, hZ, hown⟩, ⟨hC, hF⟩, N, e', fun t q => k t (st t (by subst hp; exact q))⟩
theorem Wl.putf {R0 O n d host C : String} {index kk : Nat} {ty : FieldType} {a : Addr} {v old : Value} (G : Wl Z a0 own p l e R s m args below meth c code mx B EL h0 n0 ws sf h cells slots pc L (v :: .ref a :: S)) (pc' : Nat) (w : (Cond.fieldLink own index R0 n d).before a0 Z = true ∨ (Cond.fieldLinkNest own index R0 n d host).before a0 Z = true) (via : Via Z R0 O n d) (F : Fld Z h a O n d old) (E : Exa Z h a C) (lay : (Cond.lays C O n d).before a0 Z = true ∨ ((Cond.laysFinal C O n d).before a0 Z = true ∧ own = O ∧ meth.name = "<init>")) (wi : (Cond.instantiable C kk).before a0 Z = true) (hty : parseFieldDescriptor d = some ty) (hn : narrow ty v = v) (hf : fits ty v = true) (q : NW h0 ws a) (qs : a ∈ sf) (hd : decode code pc = .ok (.putfield index, 3)) (hp : pc + 3 = pc') : ∃ (h' : Heap), Wl Z a0 own p l e R s m args below meth c code mx B EL h0 n0 ws sf h' cells slots pc' L S ∧ Wr h h' a (Jvm.RoadKit.slotOf Z O n d) v ∧ Fld Z h' a O n d v ∧ Keep h h' [a] := by
  have qn := G.nw q
  obtain ⟨⟨hx, hby, hml, hEW⟩, ⟨o1, z2, z3, z1, es⟩, v0, k0, T, locs, X, ⟨hS, hk, hZ, hown⟩, ⟨hC, hF⟩, N, eT, k⟩ := G
  obtain ⟨T', h', X', e', W', st⟩ := putF X hx hZ hown w via eT F E lay wi hty hn hf (g := mkF m pc L (v :: .ref a :: S)) rfl rfl (hb hby hd)
  exact ⟨h', ⟨⟨hx, hby, hml, hEW⟩, ⟨o1.wr W' qn, z2.wr W' q, z3, z1, es⟩, v0, k0, T', _, X', ⟨hS, (by rw [W'.size]; exact hk), hZ, hown⟩, ⟨hC.trans (CHr.wr W' (hF _ qs).2 hC.1), safeKeep (Keep.of_wr W') (fun x y => by cases List.mem_singleton.mp y; exact (hF _ qs).2) hC.1 hF⟩, Fr.snoc X' N qn, e', fun t q => k t (st t (by subst hp; exact q))⟩, W', F.same W', Keep.of_wr W'⟩
theorem Wl.alen {a : Addr} {k : ClassId} {ty : FieldType} {z : Int32} {vs : List Value} {dv : Value} (G : Wl Z a0 own p l e R s m args below meth c code mx B EL h0 n0 ws sf h cells slots pc L (.ref a :: S)) (pc' : Nat) (A : Arv Z h a k ty z vs dv) (hd : decode code pc = .ok (.arraylength, 1)) (hp : pc + 1 = pc') : Wl Z a0 own p l e R s m args below meth c code mx B EL h0 n0 ws sf h cells slots pc' L (.int z :: S) := by
  obtain ⟨⟨hx, hby, hml, hEW⟩, ⟨o1, z2, z3, z1, es⟩, v0, k0, T, locs, X, ⟨hS, hk, hZ, hown⟩, ⟨hC, hF⟩, N, eT, k⟩ := G
  obtain ⟨cl, Ar, -, hSz, hN, -⟩ := A
  refine ⟨⟨hx, hby, hml, hEW⟩, ⟨o1, z2, z3, z1, es⟩, v0, k0, T, locs, X, ⟨hS, hk, hZ, hown⟩, ⟨hC, hF⟩, N, eT, fun t q => k t ?_⟩
  refine X.arraylength hx (by rw [eT]; exact Ar.1) (State.isArrayOf_alike hZ.alike Ar.2.1) (g := mkF m pc L (.ref a :: S)) rfl rfl (hb hby hd) _ ?_
  rw [len_of hSz hN]; exact hp ▸ q
theorem Wl.iaload {a : Addr} {k : ClassId} {z j : Int32} {vs : List Value} {dv v : Value} (G : Wl Z a0 own p l e R s m args below meth c code mx B EL h0 n0 ws sf h cells slots pc L (.int j :: .ref a :: S)) (pc' : Nat) (A : Arv Z h a k .int z vs dv) (hj : ¬ j < 0 ∧ j < z) (hv : vs.getD j.toNatClampNeg dv = v) (hd : decode code pc = .ok (.iaload, 1)) (hp : pc + 1 = pc') : Wl Z a0 own p l e R s m args below meth c code mx B EL h0 n0 ws sf h cells slots pc' L (v :: S) := by
  obtain ⟨⟨hx, hby, hml, hEW⟩, ⟨o1, z2, z3, z1, es⟩, v0, k0, T, locs, X, ⟨hS, hk, hZ, hown⟩, ⟨hC, hF⟩, N, eT, k⟩ := G
  obtain ⟨cl, Ar, -, hSz, hN, H, -⟩ := A
  refine ⟨⟨hx, hby, hml, hEW⟩, ⟨o1, z2, z3, z1, es⟩, v0, k0, T, locs, X, ⟨hS, hk, hZ, hown⟩, ⟨hC, hF⟩, N, eT, fun t q => k t ?_⟩
  have hin := inb_of hSz hj
  exact X.iaload hx (by rw [eT]; exact Ar.1) (State.isArrayOf_alike hZ.alike Ar.2.1) Ar.2.2 hin (H.at hin hv) (g := mkF m pc L (.int j :: .ref a :: S)) rfl rfl (hb hby hd) t (by subst hp; exact q)
theorem Wl.laload {a : Addr} {k : ClassId} {z j : Int32} {vs : List Value} {dv v : Value} (G : Wl Z a0 own p l e R s m args below meth c code mx B EL h0 n0 ws sf h cells slots pc L (.int j :: .ref a :: S)) (pc' : Nat) (A : Arv Z h a k .long z vs dv) (hj : ¬ j < 0 ∧ j < z) (hv : vs.getD j.toNatClampNeg dv = v) (hd : decode code pc = .ok (.laload, 1)) (hp : pc + 1 = pc') : Wl Z a0 own p l e R s m args below meth c code mx B EL h0 n0 ws sf h cells slots pc' L (v :: S) := by
  obtain ⟨⟨hx, hby, hml, hEW⟩, ⟨o1, z2, z3, z1, es⟩, v0, k0, T, locs, X, ⟨hS, hk, hZ, hown⟩, ⟨hC, hF⟩, N, eT, k⟩ := G
  obtain ⟨cl, Ar, -, hSz, hN, H, -⟩ := A
  refine ⟨⟨hx, hby, hml, hEW⟩, ⟨o1, z2, z3, z1, es⟩, v0, k0, T, locs, X, ⟨hS, hk, hZ, hown⟩, ⟨hC, hF⟩, N, eT, fun t q => k t ?_⟩
  have hin := inb_of hSz hj
  exact X.laload hx (by rw [eT]; exact Ar.1) (State.isArrayOf_alike hZ.alike Ar.2.1) Ar.2.2 hin (H.at hin hv) (g := mkF m pc L (.int j :: .ref a :: S)) rfl rfl (hb hby hd) t (by subst hp; exact q)
theorem Wl.caload {a : Addr} {k : ClassId} {z j : Int32} {vs : List Value} {dv v : Value} (G : Wl Z a0 own p l e R s m args below meth c code mx B EL h0 n0 ws sf h cells slots pc L (.int j :: .ref a :: S)) (pc' : Nat) (A : Arv Z h a k .char z vs dv) (hj : ¬ j < 0 ∧ j < z) (hv : vs.getD j.toNatClampNeg dv = v) (hd : decode code pc = .ok (.caload, 1)) (hp : pc + 1 = pc') : Wl Z a0 own p l e R s m args below meth c code mx B EL h0 n0 ws sf h cells slots pc' L (v :: S) := by
  obtain ⟨⟨hx, hby, hml, hEW⟩, ⟨o1, z2, z3, z1, es⟩, v0, k0, T, locs, X, ⟨hS, hk, hZ, hown⟩, ⟨hC, hF⟩, N, eT, k⟩ := G
  obtain ⟨cl, Ar, -, hSz, hN, H, -⟩ := A
  refine ⟨⟨hx, hby, hml, hEW⟩, ⟨o1, z2, z3, z1, es⟩, v0, k0, T, locs, X, ⟨hS, hk, hZ, hown⟩, ⟨hC, hF⟩, N, eT, fun t q => k t ?_⟩
  have hin := inb_of hSz hj
  exact X.caload hx (by rw [eT]; exact Ar.1) (State.isArrayOf_alike hZ.alike Ar.2.1) Ar.2.2 hin (H.at hin hv) (g := mkF m pc L (.int j :: .ref a :: S)) rfl rfl (hb hby hd) t (by subst hp; exact q)
theorem Wl.baload {a : Addr} {k : ClassId} {z j : Int32} {vs : List Value} {dv v : Value} (G : Wl Z a0 own p l e R s m args below meth c code mx B EL h0 n0 ws sf h cells slots pc L (.int j :: .ref a :: S)) (pc' : Nat) (A : Arv Z h a k .byte z vs dv) (hj : ¬ j < 0 ∧ j < z) (hv : vs.getD j.toNatClampNeg dv = v) (hd : decode code pc = .ok (.baload, 1)) (hp : pc + 1 = pc') : Wl Z a0 own p l e R s m args below meth c code mx B EL h0 n0 ws sf h cells slots pc' L (v :: S) := by
  obtain ⟨⟨hx, hby, hml, hEW⟩, ⟨o1, z2, z3, z1, es⟩, v0, k0, T, locs, X, ⟨hS, hk, hZ, hown⟩, ⟨hC, hF⟩, N, eT, k⟩ := G
  obtain ⟨cl, Ar, -, hSz, hN, H, -⟩ := A
  refine ⟨⟨hx, hby, hml, hEW⟩, ⟨o1, z2, z3, z1, es⟩, v0, k0, T, locs, X, ⟨hS, hk, hZ, hown⟩, ⟨hC, hF⟩, N, eT, fun t q => k t ?_⟩
  have hin := inb_of hSz hj
  exact X.baloadBytes hx (by rw [eT]; exact Ar.1) (State.isArrayOf_alike hZ.alike Ar.2.1) Ar.2.2 hin (H.at hin hv) (g := mkF m pc L (.int j :: .ref a :: S)) rfl rfl (hb hby hd) t (by subst hp; exact q)
theorem Wl.daload {a : Addr} {k : ClassId} {z j : Int32} {vs : List Value} {dv v : Value} (G : Wl Z a0 own p l e R s m args below meth c code mx B EL h0 n0 ws sf h cells slots pc L (.int j :: .ref a :: S)) (pc' : Nat) (A : Arv Z h a k .double z vs dv) (hj : ¬ j < 0 ∧ j < z) (hv : vs.getD j.toNatClampNeg dv = v) (hd : decode code pc = .ok (.daload, 1)) (hp : pc + 1 = pc') : Wl Z a0 own p l e R s m args below meth c code mx B EL h0 n0 ws sf h cells slots pc' L (v :: S) := by
  obtain ⟨⟨hx, hby, hml, hEW⟩, ⟨o1, z2, z3, z1, es⟩, v0, k0, T, locs, X, ⟨hS, hk, hZ, hown⟩, ⟨hC, hF⟩, N, eT, k⟩ := G
  obtain ⟨cl, Ar, -, hSz, hN, H, -⟩ := A
  refine ⟨⟨hx, hby, hml, hEW⟩, ⟨o1, z2, z3, z1, es⟩, v0, k0, T, locs, X, ⟨hS, hk, hZ, hown⟩, ⟨hC, hF⟩, N, eT, fun t q => k t ?_⟩
  have hin := inb_of hSz hj
  exact X.daload hx (by rw [eT]; exact Ar.1) (State.isArrayOf_alike hZ.alike Ar.2.1) Ar.2.2 hin (H.at hin hv) (g := mkF m pc L (.int j :: .ref a :: S)) rfl rfl (hb hby hd) t (by subst hp; exact q)
theorem Wl.iastore {a : Addr} {k : ClassId} {z j : Int32} {x : Int32} {vs : List Value} {dv : Value} (G : Wl Z a0 own p l e R s m args below meth c code mx B EL h0 n0 ws sf h cells slots pc L (.int x :: .int j :: .ref a :: S)) (pc' : Nat) (i : Nat) (A : Arv Z h a k .int z vs dv) (hj : ¬ j < 0 ∧ j < z) (hi : j.toNatClampNeg = i) (hl : i < vs.length) (q : NW h0 ws a) (qs : a ∈ sf) (hd : decode code pc = .ok (.iastore, 1)) (hp : pc + 1 = pc') : ∃ (h' : Heap), Wl Z a0 own p l e R s m args below meth c code mx B EL h0 n0 ws sf h' cells slots pc' L S ∧ Arv Z h' a k .int z (vs.set i (.int x)) dv ∧ Keep h h' [a] := by
  have qn := G.nw q
  obtain ⟨⟨hx, hby, hml, hEW⟩, ⟨o1, z2, z3, z1, es⟩, v0, k0, T, locs, X, ⟨hS, hk, hZ, hown⟩, ⟨hC, hF⟩, N, eT, k⟩ := G
  obtain ⟨cl, Ar, q1, hSz, hN, H, F⟩ := A
  obtain ⟨T', h', X', e', W', st⟩ := stI X hx hZ eT Ar (inb_of hSz hj) (g := mkF m pc L (.int x :: .int j :: .ref a :: S)) rfl rfl (hb hby hd)
  exact ⟨h', ⟨⟨hx, hby, hml, hEW⟩, ⟨o1.wr W' qn, z2.wr W' q, z3, z1, es⟩, v0, k0, T', _, X', ⟨hS, (by rw [W'.size]; exact hk), hZ, hown⟩, ⟨hC.trans (CHr.wr W' (hF _ qs).2 hC.1), safeKeep (Keep.of_wr W') (fun x y => by cases List.mem_singleton.mp y; exact (hF _ qs).2) hC.1 hF⟩, Fr.snoc X' N qn, e', fun t q => k t (st t (by subst hp; exact q))⟩, Arv.set Ar q1 hSz hN H F rfl W' i hi hl, Keep.of_wr W'⟩
theorem Wl.lastore {a : Addr} {k : ClassId} {z j : Int32} {x : Int64} {vs : List Value} {dv : Value} (G : Wl Z a0 own p l e R s m args below meth c code mx B EL h0 n0 ws sf h cells slots pc L (.long x :: .int j :: .ref a :: S)) (pc' : Nat) (i : Nat) (A : Arv Z h a k .long z vs dv) (hj : ¬ j < 0 ∧ j < z) (hi : j.toNatClampNeg = i) (hl : i < vs.length) (q : NW h0 ws a) (qs : a ∈ sf) (hd : decode code pc = .ok (.lastore, 1)) (hp : pc + 1 = pc') : ∃ (h' : Heap), Wl Z a0 own p l e R s m args below meth c code mx B EL h0 n0 ws sf h' cells slots pc' L S ∧ Arv Z h' a k .long z (vs.set i (.long x)) dv ∧ Keep h h' [a] := by
  have qn := G.nw q
  obtain ⟨⟨hx, hby, hml, hEW⟩, ⟨o1, z2, z3, z1, es⟩, v0, k0, T, locs, X, ⟨hS, hk, hZ, hown⟩, ⟨hC, hF⟩, N, eT, k⟩ := G
  obtain ⟨cl, Ar, q1, hSz, hN, H, F⟩ := A
  obtain ⟨T', h', X', e', W', st⟩ := stJ X hx hZ eT Ar (inb_of hSz hj) (g := mkF m pc L (.long x :: .int j :: .ref a :: S)) rfl rfl (hb hby hd)
  exact ⟨h', ⟨⟨hx, hby, hml, hEW⟩, ⟨o1.wr W' qn, z2.wr W' q, z3, z1, es⟩, v0, k0, T', _, X', ⟨hS, (by rw [W'.size]; exact hk), hZ, hown⟩, ⟨hC.trans (CHr.wr W' (hF _ qs).2 hC.1), safeKeep (Keep.of_wr W') (fun x y => by cases List.mem_singleton.mp y; exact (hF _ qs).2) hC.1 hF⟩, Fr.snoc X' N qn, e', fun t q => k t (st t (by subst hp; exact q))⟩, Arv.set Ar q1 hSz hN H F rfl W' i hi hl, Keep.of_wr W'⟩
theorem Wl.dastore {a : Addr} {k : ClassId} {z j : Int32} {x : UInt64} {vs : List Value} {dv : Value} (G : Wl Z a0 own p l e R s m args below meth c code mx B EL h0 n0 ws sf h cells slots pc L (.double x :: .int j :: .ref a :: S)) (pc' : Nat) (i : Nat) (A : Arv Z h a k .double z vs dv) (hj : ¬ j < 0 ∧ j < z) (hi : j.toNatClampNeg = i) (hl : i < vs.length) (q : NW h0 ws a) (qs : a ∈ sf) (hd : decode code pc = .ok (.dastore, 1)) (hp : pc + 1 = pc') : ∃ (h' : Heap), Wl Z a0 own p l e R s m args below meth c code mx B EL h0 n0 ws sf h' cells slots pc' L S ∧ Arv Z h' a k .double z (vs.set i (.double x)) dv ∧ Keep h h' [a] := by
  have qn := G.nw q
  obtain ⟨⟨hx, hby, hml, hEW⟩, ⟨o1, z2, z3, z1, es⟩, v0, k0, T, locs, X, ⟨hS, hk, hZ, hown⟩, ⟨hC, hF⟩, N, eT, k⟩ := G
  obtain ⟨cl, Ar, q1, hSz, hN, H, F⟩ := A
  obtain ⟨T', h', X', e', W', st⟩ := stD X hx hZ eT Ar (inb_of hSz hj) (g := mkF m pc L (.double x :: .int j :: .ref a :: S)) rfl rfl (hb hby hd)
  exact ⟨h', ⟨⟨hx, hby, hml, hEW⟩, ⟨o1.wr W' qn, z2.wr W' q, z3, z1, es⟩, v0, k0, T', _, X', ⟨hS, (by rw [W'.size]; exact hk), hZ, hown⟩, ⟨hC.trans (CHr.wr W' (hF _ qs).2 hC.1), safeKeep (Keep.of_wr W') (fun x y => by cases List.mem_singleton.mp y; exact (hF _ qs).2) hC.1 hF⟩, Fr.snoc X' N qn, e', fun t q => k t (st t (by subst hp; exact q))⟩, Arv.set Ar q1 hSz hN H F rfl W' i hi hl, Keep.of_wr W'⟩
theorem Wl.castore {a : Addr} {k : ClassId} {z j : Int32} {x : Int32} {vs : List Value} {dv : Value} (G : Wl Z a0 own p l e R s m args below meth c code mx B EL h0 n0 ws sf h cells slots pc L (.int x :: .int j :: .ref a :: S)) (pc' : Nat) (i : Nat) (A : Arv Z h a k .char z vs dv) (hj : ¬ j < 0 ∧ j < z) (hi : j.toNatClampNeg = i) (hl : i < vs.length) (q : NW h0 ws a) (qs : a ∈ sf) (hd : decode code pc = .ok (.castore, 1)) (hp : pc + 1 = pc') : ∃ (h' : Heap), Wl Z a0 own p l e R s m args below meth c code mx B EL h0 n0 ws sf h' cells slots pc' L S ∧ Arv Z h' a k .char z (vs.set i (.int (nar .char x))) dv ∧ Keep h h' [a] := by
  have qn := G.nw q
  obtain ⟨⟨hx, hby, hml, hEW⟩, ⟨o1, z2, z3, z1, es⟩, v0, k0, T, locs, X, ⟨hS, hk, hZ, hown⟩, ⟨hC, hF⟩, N, eT, k⟩ := G
  obtain ⟨cl, Ar, q1, hSz, hN, H, F⟩ := A
  obtain ⟨T', h', X', e', W', st⟩ := stC X hx hZ eT Ar (inb_of hSz hj) (g := mkF m pc L (.int x :: .int j :: .ref a :: S)) rfl rfl (hb hby hd)
  exact ⟨h', ⟨⟨hx, hby, hml, hEW⟩, ⟨o1.wr W' qn, z2.wr W' q, z3, z1, es⟩, v0, k0, T', _, X', ⟨hS, (by rw [W'.size]; exact hk), hZ, hown⟩, ⟨hC.trans (CHr.wr W' (hF _ qs).2 hC.1), safeKeep (Keep.of_wr W') (fun x y => by cases List.mem_singleton.mp y; exact (hF _ qs).2) hC.1 hF⟩, Fr.snoc X' N qn, e', fun t q => k t (st t (by subst hp; exact q))⟩, Arv.set Ar q1 hSz hN H F (fits_nar_char x) W' i hi hl, Keep.of_wr W'⟩
theorem Wl.bastore {a : Addr} {k : ClassId} {z j : Int32} {x : Int32} {vs : List Value} {dv : Value} (G : Wl Z a0 own p l e R s m args below meth c code mx B EL h0 n0 ws sf h cells slots pc L (.int x :: .int j :: .ref a :: S)) (pc' : Nat) (i : Nat) (A : Arv Z h a k .byte z vs dv) (hj : ¬ j < 0 ∧ j < z) (hi : j.toNatClampNeg = i) (hl : i < vs.length) (q : NW h0 ws a) (qs : a ∈ sf) (hd : decode code pc = .ok (.bastore, 1)) (hp : pc + 1 = pc') : ∃ (h' : Heap), Wl Z a0 own p l e R s m args below meth c code mx B EL h0 n0 ws sf h' cells slots pc' L S ∧ Arv Z h' a k .byte z (vs.set i (.int x.toInt8.toInt32)) dv ∧ Keep h h' [a] := by
  have qn := G.nw q
  obtain ⟨⟨hx, hby, hml, hEW⟩, ⟨o1, z2, z3, z1, es⟩, v0, k0, T, locs, X, ⟨hS, hk, hZ, hown⟩, ⟨hC, hF⟩, N, eT, k⟩ := G
  obtain ⟨cl, Ar, q1, hSz, hN, H, F⟩ := A
  obtain ⟨T', h', X', e', W', st⟩ := stB X hx hZ eT Ar (inb_of hSz hj) (g := mkF m pc L (.int x :: .int j :: .ref a :: S)) rfl rfl (hb hby hd)
  exact ⟨h', ⟨⟨hx, hby, hml, hEW⟩, ⟨o1.wr W' qn, z2.wr W' q, z3, z1, es⟩, v0, k0, T', _, X', ⟨hS, (by rw [W'.size]; exact hk), hZ, hown⟩, ⟨hC.trans (CHr.wr W' (hF _ qs).2 hC.1), safeKeep (Keep.of_wr W') (fun x y => by cases List.mem_singleton.mp y; exact (hF _ qs).2) hC.1 hF⟩, Fr.snoc X' N qn, e', fun t q => k t (st t (by subst hp; exact q))⟩, Arv.set Ar q1 hSz hN H F (fits_nar_byte x) W' i hi hl, Keep.of_wr W'⟩
theorem Wl.anewR {C : String} {index : Nat} {n : Int32} (G : Wl Z a0 own p l e R s m args below meth c code mx B EL h0 n0 ws sf h cells slots pc L (.int n :: S)) (pc' : Nat) (w1 : (Cond.classLink own index C).before a0 Z = true) (w2 : (Cond.arrayOver (.object C)).before a0 Z = true) (hd : decode code pc = .ok (.anewarray index, 3)) (hn : ¬ n < 0) (cap : Nat) (hcap : n.toNatClampNeg ≤ cap) (hb8 : cap * 8 ≤ 536870912) (hp : pc + 3 = pc') (hc : cells + 1 ≤ R.cells) (hl : slots + cap ≤ R.slots) : ∃ (a : Addr) (h' : Heap) (k : ClassId), Wl Z a0 own p l e R s m args below meth c code mx B EL h0 n0 ws (a :: sf) h' (cells + 1) (slots + cap) pc' L (.ref a :: S) ∧ a = h.size ∧ h0.size ≤ a ∧ Ext h h' ∧ Arv Z h' a k (.object C) n [] .null ∧ Ovr Z k C := by
  obtain ⟨⟨hx, hby, hml, hEW⟩, ⟨o1, z2, z3, z1, es⟩, v0, k0, T, locs, X, ⟨hS, hk, hZ, hown⟩, ⟨hC, hF⟩, N, eT, k⟩ := G
  obtain ⟨T', h', cA, X', e', E, A, O, st⟩ := newR (s := s.setVm v0) X hx hZ hown w1 w2 eT (g := mkF m pc L (.int n :: S)) rfl (hb hby hd) rfl hn hcap hb8 hc hl
  exact ⟨h.size, h', cA, ⟨⟨hx, hby, hml, hEW⟩, ⟨o1.ext E, z2.ext E, z3, z1, es⟩, v0, k0, T', _, X', ⟨hS, Nat.le_trans hk E.1, hZ, hown⟩, ⟨hC.trans (CHr.ext E hC.1), safeNew E hC.1 hF A.lt⟩, N, e', fun t q => k t (st t (by subst hp; exact q))⟩, rfl, z2.1, E, Arv.new A hn, O⟩
theorem Wl.aaload {a : Addr} {k : ClassId} {z j : Int32} {C : String} {vs : List Value} {dv v : Value} (G : Wl Z a0 own p l e R s m args below meth c code mx B EL h0 n0 ws sf h cells slots pc L (.int j :: .ref a :: S)) (pc' : Nat) (A : Arv Z h a k (.object C) z vs dv) (hj : ¬ j < 0 ∧ j < z) (hv : vs.getD j.toNatClampNeg dv = v) (hd : decode code pc = .ok (.aaload, 1)) (hp : pc + 1 = pc') : Wl Z a0 own p l e R s m args below meth c code mx B EL h0 n0 ws sf h cells slots pc' L (v :: S) := by
  obtain ⟨⟨hx, hby, hml, hEW⟩, ⟨o1, z2, z3, z1, es⟩, v0, k0, T, locs, X, ⟨hS, hk, hZ, hown⟩, ⟨hC, hF⟩, N, eT, k⟩ := G
  obtain ⟨cl, Ar, -, hSz, hN, H, -⟩ := A
  refine ⟨⟨hx, hby, hml, hEW⟩, ⟨o1, z2, z3, z1, es⟩, v0, k0, T, locs, X, ⟨hS, hk, hZ, hown⟩, ⟨hC, hF⟩, N, eT, fun t q => k t ?_⟩
  have hin := inb_of hSz hj
  exact X.aaload hx (by rw [eT]; exact Ar.1) (State.isArrayOf_alike hZ.alike Ar.2.1) rfl Ar.2.2 hin (H.at hin hv) (g := mkF m pc L (.int j :: .ref a :: S)) rfl rfl (hb hby hd) t (by subst hp; exact q)
theorem Wl.aastore {a y : Addr} {k : ClassId} {z j : Int32} {C : String} {vs : List Value} {dv : Value} (G : Wl Z a0 own p l e R s m args below meth c code mx B EL h0 n0 ws sf h cells slots pc L (.ref y :: .int j :: .ref a :: S)) (pc' : Nat) (i : Nat) (A : Arv Z h a k (.object C) z vs dv) (O : Ovr Z k C) (I : Ins Z h y C true) (hj : ¬ j < 0 ∧ j < z) (hi : j.toNatClampNeg = i) (hl : i < vs.length) (q : NW h0 ws a) (qs : a ∈ sf) (hd : decode code pc = .ok (.aastore, 1)) (hp : pc + 1 = pc') : ∃ (h' : Heap), Wl Z a0 own p l e R s m args below meth c code mx B EL h0 n0 ws sf h' cells slots pc' L S ∧ Arv Z h' a k (.object C) z (vs.set i (.ref y)) dv ∧ Keep h h' [a] := by
  have qn := G.nw q
  obtain ⟨⟨hx, hby, hml, hEW⟩, ⟨o1, z2, z3, z1, es⟩, v0, k0, T, locs, X, ⟨hS, hk, hZ, hown⟩, ⟨hC, hF⟩, N, eT, k⟩ := G
  obtain ⟨cl, Ar, q1, hSz, hN, H, F⟩ := A
  obtain ⟨T', h', X', e', W', st⟩ := stR X hx hZ eT Ar (inb_of hSz hj) rfl (Sto.of Ar (q1 ▸ O) I) (g := mkF m pc L (.ref y :: .int j :: .ref a :: S)) rfl rfl (hb hby hd)
  exact ⟨h', ⟨⟨hx, hby, hml, hEW⟩, ⟨o1.wr W' qn, z2.wr W' q, z3, z1, es⟩, v0, k0, T', _, X', ⟨hS, (by rw [W'.size]; exact hk), hZ, hown⟩, ⟨hC.trans (CHr.wr W' (hF _ qs).2 hC.1), safeKeep (Keep.of_wr W') (fun x y => by cases List.mem_singleton.mp y; exact (hF _ qs).2) hC.1 hF⟩, Fr.snoc X' N qn, e', fun t q => k t (st t (by subst hp; exact q))⟩, Arv.set Ar q1 hSz hN H F rfl W' i hi hl, Keep.of_wr W'⟩
theorem Wl.initO {a : Addr} {idx : Nat} (G : Wl Z a0 own p l e R s m args below meth c code mx B EL h0 n0 ws sf h cells slots pc L (.ref a :: S)) (pc' : Nat) (w1 : (Cond.methodLink own idx Lib.objectInit).before a0 Z = true) (w2 : (Cond.instanceMethod Lib.objectInit).before a0 Z = true) (w3 : (Cond.code Lib.objectInit ⟨#[0xb1]⟩ 1 none).before a0 Z = true) (hd : decode code pc = .ok (.invokespecial idx, 3)) (hz : L.size = mx) (hf : 1 ≤ R.frames) (hl : (S.map fun v => v.category).sum + 12 ≤ R.locals) (hp : pc + 3 = pc') : Wl Z a0 own p l e R s m args below meth c code mx B EL h0 n0 ws sf h cells slots pc' L S := by
  obtain ⟨⟨hx, hby, hml, hEW⟩, ⟨o1, z2, z3, z1, es⟩, v0, k0, T, locs, X, ⟨hS, hk, hZ, hown⟩, ⟨hC, hF⟩, N, eT, k⟩ := G
  obtain ⟨T', X', e', st⟩ := Jvm.RoadKit.initO X hx hZ hown w1 w2 w3 eT (g := mkF m pc L (.ref a :: S)) rfl (hz.trans hml.symm) rfl (hb hby hd) hf (W := (S.map fun v => v.category).sum) (by show 2 * 0 + _ ≤ _; omega) hl
  exact ⟨⟨hx, hby, hml, hEW⟩, ⟨o1, z2, z3, z1, es⟩, v0, k0, T', _, X', ⟨hS, hk, hZ, hown⟩, ⟨hC, hF⟩, N, e', fun t q => k t (st t (by subst hp; exact q))⟩
theorem Wl.ldcI {index : Nat} {v : Int32} (G : Wl Z a0 own p l e R s m args below meth c code mx B EL h0 n0 ws sf h cells slots pc L S) (pc' : Nat) (w : (Cond.constant own index v).before a0 Z = true) (hd : decode code pc = .ok (.ldc index, 2)) (hp : pc + 2 = pc') : Wl Z a0 own p l e R s m args below meth c code mx B EL h0 n0 ws sf h cells slots pc' L (.int v :: S) := by
  obtain ⟨⟨hx, hby, hml, hEW⟩, ⟨o1, z2, z3, z1, es⟩, v0, k0, T, locs, X, ⟨hS, hk, hZ, hown⟩, ⟨hC, hF⟩, N, eT, k⟩ := G
  exact ⟨⟨hx, hby, hml, hEW⟩, ⟨o1, z2, z3, z1, es⟩, v0, k0, T, locs, X, ⟨hS, hk, hZ, hown⟩, ⟨hC, hF⟩, N, eT, fun t q => k t (X.ldcInt hx hown (mvT hZ w) (g := mkF m pc L S) rfl (hb hby hd) t (by subst hp; exact q))⟩
theorem Wl.ldcWI {index : Nat} {v : Int32} (G : Wl Z a0 own p l e R s m args below meth c code mx B EL h0 n0 ws sf h cells slots pc L S) (pc' : Nat) (w : (Cond.constant own index v).before a0 Z = true) (hd : decode code pc = .ok (.ldc_w index, 3)) (hp : pc + 3 = pc') : Wl Z a0 own p l e R s m args below meth c code mx B EL h0 n0 ws sf h cells slots pc' L (.int v :: S) := by
  obtain ⟨⟨hx, hby, hml, hEW⟩, ⟨o1, z2, z3, z1, es⟩, v0, k0, T, locs, X, ⟨hS, hk, hZ, hown⟩, ⟨hC, hF⟩, N, eT, k⟩ := G
  exact ⟨⟨hx, hby, hml, hEW⟩, ⟨o1, z2, z3, z1, es⟩, v0, k0, T, locs, X, ⟨hS, hk, hZ, hown⟩, ⟨hC, hF⟩, N, eT, fun t q => k t (X.ldcWInt hx hown (mvT hZ w) (g := mkF m pc L S) rfl (hb hby hd) t (by subst hp; exact q))⟩
theorem Wl.ldc2J {index : Nat} {v : Int64} (G : Wl Z a0 own p l e R s m args below meth c code mx B EL h0 n0 ws sf h cells slots pc L S) (pc' : Nat) (w : (Cond.constantLong own index v).before a0 Z = true) (hd : decode code pc = .ok (.ldc2_w index, 3)) (hp : pc + 3 = pc') : Wl Z a0 own p l e R s m args below meth c code mx B EL h0 n0 ws sf h cells slots pc' L (.long v :: S) := by
  obtain ⟨⟨hx, hby, hml, hEW⟩, ⟨o1, z2, z3, z1, es⟩, v0, k0, T, locs, X, ⟨hS, hk, hZ, hown⟩, ⟨hC, hF⟩, N, eT, k⟩ := G
  exact ⟨⟨hx, hby, hml, hEW⟩, ⟨o1, z2, z3, z1, es⟩, v0, k0, T, locs, X, ⟨hS, hk, hZ, hown⟩, ⟨hC, hF⟩, N, eT, fun t q => k t (X.ldc2Long hx hown (mvT hZ w) (g := mkF m pc L S) rfl (hb hby hd) t (by subst hp; exact q))⟩
/-- a body's contract: from the heap h0 with the arguments as', it returns; only what is new since n0 was written; h0 stands but for ws; String constants stay whole; sf: what must be no constant's cell; Q's list: what else is none -/
def Con (Z : State) (a0 : Array Value) (l : Launch) (y : MethodName) (bytes : ByteArray) (maxL : Nat) (ret : Option FieldType) (rm : Room) (tws : List Jvm.Cond) (as' : Array Value) (EL : List (String × Nat)) (h0 : Heap) (n0 : Nat) (ws sf : List Addr) (Q : Option Value → Heap → List Addr → Prop) : Prop :=
  MetFree l y (head1 (Cond.code y bytes maxL ret :: tws) rm) (fun a U => a = as' ∧ Z.Warmed39 U.vm ∧ U.heap = h0 ∧ CHv Z EL U.vm h0 ∧ ∀ x ∈ sf, x < h0.size ∧ Safe Z EL U.vm h0 x) (fun _ _ _ _ _ => True) (fun _ U o U' => ∃ v LL, o = .returned v ∧ (∃ so, Fr n0 LL ∧ Keep h0 U'.heap ws ∧ Q v U'.heap so ∧ CHr Z EL U.vm U.heap U'.vm U'.heap ∧ ∀ x ∈ so, x < U'.heap.size ∧ Safe Z EL U'.vm U'.heap x) ∧ ReturnedEndW U o U' LL rm.cells rm.slots)
def VV (Q : Value → Heap → List Addr → Prop) : Option Value → Heap → List Addr → Prop := fun v h so => ∃ w, v = some w ∧ Q w h so
def V0 (Q : Heap → List Addr → Prop) : Option Value → Heap → List Addr → Prop := fun v h so => v = none ∧ Q h so
/-- the walk's end -/
def Fin (Z : State) (EL : List (String × Nat)) (p : Program) (e : Env) (below : List Frame) (B s : State) (h0 : Heap) (n0 : Nat) (ws : List Addr) (k n : Nat) (Q : Option Value → Heap → List Addr → Prop) : Prop :=
  ∃ s₂ o, Steps p.tables e below B s₂ ∧ s₂.status = .running ∧ Ended s₂ below o ∧ ∃ v LL, o = .returned v ∧ (∃ so, Fr n0 LL ∧ Keep h0 s₂.heap ws ∧ Q v s₂.heap so ∧ CHr Z EL s.vm s.heap s₂.vm s₂.heap ∧ ∀ x ∈ so, x < s₂.heap.size ∧ Safe Z EL s₂.vm s₂.heap x) ∧ ReturnedEndW s o s₂ LL k n
theorem Con.body {tws : List Jvm.Cond} {y : MethodName} {bytes : ByteArray} {maxL : Nat} {ret : Option FieldType} {rm : Room} {as' : Array Value} {Q : Option Value → Heap → List Addr → Prop} (hpl : plainFor y = true) (hEW : EW Z a0 EL) (o1 : Old Z n0 h0) (z3 : ∀ x ∈ ws, n0 ≤ x) (L0 : Array Slot) (hef : ∀ m, entryFrame m as' maxL = mkF m 0 L0 [])
    (body : ∀ (p : Program) (e : Env) (s : State) (m : MethodId) (below : List Frame) (meth : Method) (c : Code) (B : State), meth.name = y.name → meth.sig.returnType = ret → meth.locks = false → Wl Z a0 y.cls p l e rm s m as' below meth c bytes maxL B EL h0 n0 ws sf h0 0 0 0 L0 [] → Fin Z EL p e below B s h0 n0 ws rm.cells rm.slots Q) : Con Z a0 l y bytes maxL ret rm tws as' EL h0 n0 ws sf Q := by
  refine MetFree.of_bodySF hpl hisR ?_
  intro p e s m args below meth c s₁ Bd hml hP hK
  obtain ⟨rfl, hZ, hh, hC, hF⟩ := hP
  refine body p e s m below meth c _ (name_of_methodNamed Bd.named Bd.method).1 Bd.returns Bd.notSynchronized ⟨⟨Bd.exec, Bd.bytes, hml, hEW⟩, ⟨o1, Keep.refl _ _, z3, by rw [← o1.1]; exact o1.2.1, hh⟩, s.vm, 0, s₁, [], Stand.of_body Bd, ⟨(State.WarmedH.refl s).since 0, Nat.zero_le _, hZ, findClass_of_methodNamed Bd.named⟩, ⟨CHr.refl hC, hF⟩, Fr.nil n0, by rw [← hh, Bd.state]; rfl, fun t q => ?_⟩
  rw [hef m]; exact q
theorem Wl.retV  {Q : Option Value → Heap → List Addr → Prop} {kk nn : Nat} (G : Wl Z a0 own p l e R s m args below meth c code mx B EL h0 n0 ws sf h cells slots pc L ([])) (hret : meth.sig.returnType = none) (hlk : meth.locks = false) (hd : decode code pc = .ok (.return_, 1)) (so : List Addr) (hso : ∀ x ∈ so, x ∈ sf) (hQ : Q (none) h so) (hc : cells ≤ kk) (hs : slots ≤ nn) : Fin Z EL p e below B s h0 n0 ws kk nn Q := by
  obtain ⟨⟨hx, hby, hml, hEW⟩, ⟨o1, z2, z3, z1, es⟩, v0, k0, T, locs, X, ⟨hS, hk, hZ, hown⟩, ⟨hC, hF⟩, N, eT, k⟩ := G
  obtain ⟨fs, hr, hrun, hended, hW⟩ := X.leaveW hS (by rw [eT]; exact hk) (v := none) (fun _ => rfl) hlk
  have hCT := CHv.at X hZ hEW hC.1
  refine ⟨_, _, k _ ?_, hrun, hended, _, _, rfl, ⟨so, N, ?_, ?_, ?_, ?_⟩, hW.1, hW.2.1, hW.2.2.1, hW.2.2.2.mono hc hs⟩
  · exact X.returnOut hx hret (hb hby hd) hr
  · show Keep h0 T.heap ws
    rw [eT]; exact z2
  · show Q _ T.heap so
    rw [eT]; exact hQ
  · show CHr Z EL s.vm s.heap T.vm T.heap
    rw [eT, es]
    exact hC.trans hCT
  · intro x hx
    show x < T.heap.size ∧ Safe Z EL T.vm T.heap x
    rw [eT]; exact ⟨(hF x (hso x hx)).1, hCT.safe (hF x (hso x hx)).1 (hF x (hso x hx)).2⟩
theorem Wl.retI {z : Int32} {Q : Option Value → Heap → List Addr → Prop} {kk nn : Nat} (G : Wl Z a0 own p l e R s m args below meth c code mx B EL h0 n0 ws sf h cells slots pc L (.int z :: S)) (hret : meth.sig.returnType = some .int) (hlk : meth.locks = false) (hd : decode code pc = .ok (.ireturn, 1)) (so : List Addr) (hso : ∀ x ∈ so, x ∈ sf) (hQ : Q (some (.int z)) h so) (hc : cells ≤ kk) (hs : slots ≤ nn) : Fin Z EL p e below B s h0 n0 ws kk nn Q := by
  obtain ⟨⟨hx, hby, hml, hEW⟩, ⟨o1, z2, z3, z1, es⟩, v0, k0, T, locs, X, ⟨hS, hk, hZ, hown⟩, ⟨hC, hF⟩, N, eT, k⟩ := G
  obtain ⟨fs, hr, hrun, hended, hW⟩ := X.leaveW hS (by rw [eT]; exact hk) (v := some (.int z)) (fun h => by rw [hret] at h; cases h) hlk
  have hCT := CHv.at X hZ hEW hC.1
  refine ⟨_, _, k _ ?_, hrun, hended, _, _, rfl, ⟨so, N, ?_, ?_, ?_, ?_⟩, hW.1, hW.2.1, hW.2.2.1, hW.2.2.2.mono hc hs⟩
  · exact retOut X hx hret rfl (Or.inl ⟨rfl, Or.inl rfl, _, rfl⟩) (hb hby hd) hr
  · show Keep h0 T.heap ws
    rw [eT]; exact z2
  · show Q _ T.heap so
    rw [eT]; exact hQ
  · show CHr Z EL s.vm s.heap T.vm T.heap
    rw [eT, es]
    exact hC.trans hCT
  · intro x hx
    show x < T.heap.size ∧ Safe Z EL T.vm T.heap x
    rw [eT]; exact ⟨(hF x (hso x hx)).1, hCT.safe (hF x (hso x hx)).1 (hF x (hso x hx)).2⟩
theorem Wl.retN {z : Int32} {t : FieldType} {Q : Option Value → Heap → List Addr → Prop} {kk nn : Nat} (G : Wl Z a0 own p l e R s m args below meth c code mx B EL h0 n0 ws sf h cells slots pc L (.int z :: S)) (hret : meth.sig.returnType = some t) (ht : t = .boolean ∨ t = .byte ∨ t = .char ∨ t = .short) (hlk : meth.locks = false) (hd : decode code pc = .ok (.ireturn, 1)) (so : List Addr) (hso : ∀ x ∈ so, x ∈ sf) (hQ : Q (some (.int (nar t z))) h so) (hc : cells ≤ kk) (hs : slots ≤ nn) : Fin Z EL p e below B s h0 n0 ws kk nn Q := by
  obtain ⟨⟨hx, hby, hml, hEW⟩, ⟨o1, z2, z3, z1, es⟩, v0, k0, T, locs, X, ⟨hS, hk, hZ, hown⟩, ⟨hC, hF⟩, N, eT, k⟩ := G
  obtain ⟨fs, hr, hrun, hended, hW⟩ := X.leaveW hS (by rw [eT]; exact hk) (v := some (.int (nar t z))) (fun h => by rw [hret] at h; cases h) hlk
  have hCT := CHv.at X hZ hEW hC.1
  refine ⟨_, _, k _ ?_, hrun, hended, _, _, rfl, ⟨so, N, ?_, ?_, ?_, ?_⟩, hW.1, hW.2.1, hW.2.2.1, hW.2.2.2.mono hc hs⟩
  · exact Jvm.RoadKit.retN X hx hret ht (hb hby hd) hr
  · show Keep h0 T.heap ws
    rw [eT]; exact z2
  · show Q _ T.heap so
    rw [eT]; exact hQ
  · show CHr Z EL s.vm s.heap T.vm T.heap
    rw [eT, es]
    exact hC.trans hCT
  · intro x hx
    show x < T.heap.size ∧ Safe Z EL T.vm T.heap x
    rw [eT]; exact ⟨(hF x (hso x hx)).1, hCT.safe (hF x (hso x hx)).1 (hF x (hso x hx)).2⟩
theorem Wl.retL {z : Int64} {Q : Option Value → Heap → List Addr → Prop} {kk nn : Nat} (G : Wl Z a0 own p l e R s m args below meth c code mx B EL h0 n0 ws sf h cells slots pc L (.long z :: S)) (hret : meth.sig.returnType = some .long) (hlk : meth.locks = false) (hd : decode code pc = .ok (.lreturn, 1)) (so : List Addr) (hso : ∀ x ∈ so, x ∈ sf) (hQ : Q (some (.long z)) h so) (hc : cells ≤ kk) (hs : slots ≤ nn) : Fin Z EL p e below B s h0 n0 ws kk nn Q := by
  obtain ⟨⟨hx, hby, hml, hEW⟩, ⟨o1, z2, z3, z1, es⟩, v0, k0, T, locs, X, ⟨hS, hk, hZ, hown⟩, ⟨hC, hF⟩, N, eT, k⟩ := G
  obtain ⟨fs, hr, hrun, hended, hW⟩ := X.leaveW hS (by rw [eT]; exact hk) (v := some (.long z)) (fun h => by rw [hret] at h; cases h) hlk
  have hCT := CHv.at X hZ hEW hC.1
  refine ⟨_, _, k _ ?_, hrun, hended, _, _, rfl, ⟨so, N, ?_, ?_, ?_, ?_⟩, hW.1, hW.2.1, hW.2.2.1, hW.2.2.2.mono hc hs⟩
  · exact retOut X hx hret rfl (Or.inr (Or.inl ⟨rfl, rfl, _, rfl⟩)) (hb hby hd) hr
  · show Keep h0 T.heap ws
    rw [eT]; exact z2
  · show Q _ T.heap so
    rw [eT]; exact hQ
  · show CHr Z EL s.vm s.heap T.vm T.heap
    rw [eT, es]
    exact hC.trans hCT
  · intro x hx
    show x < T.heap.size ∧ Safe Z EL T.vm T.heap x
    rw [eT]; exact ⟨(hF x (hso x hx)).1, hCT.safe (hF x (hso x hx)).1 (hF x (hso x hx)).2⟩
theorem Wl.retA {w : Value} {t : FieldType} {Q : Option Value → Heap → List Addr → Prop} {kk nn : Nat} (G : Wl Z a0 own p l e R s m args below meth c code mx B EL h0 n0 ws sf h cells slots pc L (w :: S)) (hret : meth.sig.returnType = some t) (ht : t.isReference = true) (hw : w.isRef = true) (hlk : meth.locks = false) (hd : decode code pc = .ok (.areturn, 1)) (so : List Addr) (hso : ∀ x ∈ so, x ∈ sf) (hQ : Q (some w) h so) (hc : cells ≤ kk) (hs : slots ≤ nn) : Fin Z EL p e below B s h0 n0 ws kk nn Q := by
  obtain ⟨⟨hx, hby, hml, hEW⟩, ⟨o1, z2, z3, z1, es⟩, v0, k0, T, locs, X, ⟨hS, hk, hZ, hown⟩, ⟨hC, hF⟩, N, eT, k⟩ := G
  obtain ⟨fs, hr, hrun, hended, hW⟩ := X.leaveW hS (by rw [eT]; exact hk) (v := some w) (fun h => by rw [hret] at h; cases h) hlk
  have hCT := CHv.at X hZ hEW hC.1
  refine ⟨_, _, k _ ?_, hrun, hended, _, _, rfl, ⟨so, N, ?_, ?_, ?_, ?_⟩, hW.1, hW.2.1, hW.2.2.1, hW.2.2.2.mono hc hs⟩
  · exact retOut X hx hret (by cases t <;> first | rfl | simp [FieldType.isReference] at ht) (Or.inr (Or.inr (Or.inr (Or.inr ⟨rfl, ht, hw⟩)))) (hb hby hd) hr
  · show Keep h0 T.heap ws
    rw [eT]; exact z2
  · show Q _ T.heap so
    rw [eT]; exact hQ
  · show CHr Z EL s.vm s.heap T.vm T.heap
    rw [eT, es]
    exact hC.trans hCT
  · intro x hx
    show x < T.heap.size ∧ Safe Z EL T.vm T.heap x
    rw [eT]; exact ⟨(hF x (hso x hx)).1, hCT.safe (hF x (hso x hx)).1 (hF x (hso x hx)).2⟩
theorem backL {y : MethodName} {bytes : ByteArray} {maxL : Nat} {ret : Option FieldType} {rm : Room} {len W : Nat} {as' : Array Value} {v0 : Vm} {wsC sfC : List Addr} {Q : Option Value → Heap → List Addr → Prop}
    (hM : Con Z a0 l y bytes maxL ret rm [] as' EL h n0 wsC sfC Q) (hZ : Z.Warmed39 v0) (wc : (Cond.code y bytes maxL ret).before a0 Z = true) (wz : (Cond.initialized y.cls).before a0 Z = true) (hf : rm.frames + 1 ≤ R.frames) (hl : W + (maxL + 11) + rm.locals ≤ R.locals) (hEL : EW Z a0 EL) (H : CHv Z EL v0 h) (hF : ∀ x ∈ sfC, x < h.size ∧ Safe Z EL v0 h x) :
    BackS l R p e below (s.setVm v0) args y len W (fun A a => a = as' ∧ A.U.heap = h ∧ A.cells + rm.cells ≤ R.cells ∧ A.slots + rm.slots ≤ R.slots)
      (fun A _ v B => ∃ LL, (∃ so, Fr n0 LL ∧ Keep h B.U.heap wsC ∧ Q v B.U.heap so ∧ CHr Z EL v0 h B.U.vm B.U.heap ∧ ∀ x ∈ so, x < B.U.heap.size ∧ Safe Z EL B.U.vm B.U.heap x) ∧ B.locs = A.locs ++ LL ∧ B.cells = A.cells + rm.cells ∧ B.slots = A.slots + rm.slots) :=
  BackS.of_freeW (bytes := bytes) (maxL := maxL) (ret := ret) (E := fun _ first o t LL k n => k = rm.cells ∧ n = rm.slots ∧ ∃ v, o = .returned v ∧ ∃ so, Fr n0 LL ∧ Keep h t.heap wsC ∧ Q v t.heap so ∧ CHr Z EL first.vm first.heap t.vm t.heap ∧ ∀ x ∈ so, x < t.heap.size ∧ Safe Z EL t.vm t.heap x) hM hf hl
    (fun m meth c A a Y hp => have hU : Z.Warmed39 A.U.vm := wtrans (s := s.setVm v0) hZ Y.warmed
      ⟨by show (Cond.and _ .tt).before a A.U = true; rw [Cond.before_and, mv hU wc]; rfl, mv hU wc, mv hU wz, hp.2.2.1, hp.2.2.2⟩)
    (fun m meth c A a g mk Y hp => ⟨hp.1, wtrans (s := s.setVm v0) hZ Y.warmed, hp.2.1, (CHv.at Y hZ hEL H).1, fun x hx => ⟨(hF x hx).1, (CHv.at Y hZ hEL H).safe (hF x hx).1 (hF x hx).2⟩⟩) (fun _ _ _ _ _ _ _ _ _ => trivial)
    (fun _ _ _ _ ⟨v, LL, h1, h2, h3⟩ => ⟨LL, _, _, h3, rfl, rfl, v, h1, h2⟩)
    (fun m meth c A a g mk v t LL k n Y hp _ _ ⟨e1, e2, v', e3, so, q1, q2, q3, q4, q5⟩ => by
      cases e3; subst e1 e2
      refine ⟨LL, ⟨so, q1, q2, q3, (CHv.at Y hZ hEL H).trans ?_, q5⟩, rfl, rfl, rfl⟩
      rw [← hp.2.1]; exact q4)
theorem Wl.callS {index : Nat} {y : MethodName} {bytes : ByteArray} {maxL : Nat} {ret : Option FieldType} {rm : Room} {wsC sfC : List Addr} {St : List Value} {Q : Option Value → Heap → List Addr → Prop} (G : Wl Z a0 own p l e R s m args below meth c code mx B EL h0 n0 ws sf h cells slots pc L (St)) (pc' : Nat) (w1 : (Cond.methodLink own index y).before a0 Z = true) (w2 : (Cond.static y).before a0 Z = true) (wz : (Cond.initialized y.cls).before a0 Z = true) (wc : (Cond.code y bytes maxL ret).before a0 Z = true) (hy : y.cls ≠ "java/lang/invoke/MethodHandle" ∧ y.cls ≠ "java/lang/invoke/VarHandle") (argsL rest : List Value) (hst : St = argsL.reverse ++ rest) (hM : Con Z a0 l y bytes maxL ret rm [] argsL.toArray EL h n0 wsC sfC Q) (hlen : ∀ sig, parseMethodDescriptor y.desc = some sig → argsL.length = sig.parameters.length) (hd : decode code pc = .ok (.invokestatic index, 3)) (hz : L.size = mx) (hf : rm.frames + 1 ≤ R.frames) (hl : (rest.map fun v => v.category).sum + (maxL + 11) + rm.locals ≤ R.locals) (hc : cells + rm.cells ≤ R.cells) (hs : slots + rm.slots ≤ R.slots) (hws : ∀ x ∈ wsC, NW h0 ws x) (hsf : ∀ x ∈ sfC, x ∈ sf) (hwf : ∀ x ∈ wsC, x ∈ sf) (hp : pc + 3 = pc') :
    ∃ (v : Option Value) (h' : Heap) (so : List Addr), Wl Z a0 own p l e R s m args below meth c code mx B EL h0 n0 ws (so ++ sf) h' (cells + rm.cells) (slots + rm.slots) pc' L (v.toList ++ rest) ∧ Keep h h' wsC ∧ Q v h' so := by
  have nw := fun x (q : NW h0 ws x) => G.nw q
  obtain ⟨⟨hx, hby, hml, hEW⟩, ⟨o1, z2, z3, z1, es⟩, v0, k0, T, locs, X, ⟨hS, hk, hZ, hown⟩, ⟨hC, hF⟩, N, eT, k⟩ := G
  subst hst
  obtain ⟨v, _, ⟨T', L', k', n'⟩, -, X', hS', g', ⟨Lc, ⟨so, N', K', hQ, C', F'⟩, l', y', z'⟩, st⟩ := callSS X hx (y := y) hown (mvT (s := s.setVm v0) hZ w1) (mvT (s := s.setVm v0) hZ w2) (mvT (s := s.setVm v0) hZ wz) (mvT (s := s.setVm v0) hZ wc) hy (backL (s := s) (W := (rest.map fun v => v.category).sum) hM hZ wc wz hf hl hEW hC.1 (fun x hx => hF x (hsf x hx))) (g := mkF m pc L (argsL.reverse ++ rest)) rfl (hz.trans hml.symm) (argsL := argsL) (rest := rest) hlen rfl (by show 2 * 0 + _ ≤ _; omega) (hb hby hd) (fun _ _ => ⟨rfl, eT, hc, hs⟩)
  dsimp only [Pt.U, Pt.locs, Pt.cells, Pt.slots] at X' hS' g' l' y' z' st N' K' hQ C' F'
  subst l' y' z'
  obtain ⟨X2, hS2, hZ2, hown2⟩ := rebS (s := s) hS (by rw [← eT] at hk; exact hk) X' hS' g' hZ hown
  exact ⟨v, T'.heap, so, ⟨⟨hx, hby, hml, hEW⟩, ⟨o1.keep K' (fun x q => nw x (hws x q)), z2.trans K' hws, z3, z1, es⟩, T'.vm, _, T', _, X2, ⟨hS2, Nat.le_refl _, hZ2, hown2⟩, ⟨hC.trans C', fun x q => (List.mem_append.mp q).elim (F' x) (fun r => ⟨Nat.lt_of_lt_of_le (hF x r).1 K'.1, C'.safe (hF x r).1 (hF x r).2⟩)⟩, N.app N', rfl, fun t q => k t (st.trans (by subst hp; exact q))⟩, K', hQ⟩
theorem Wl.callI {index : Nat} {y : MethodName} {bytes : ByteArray} {maxL : Nat} {ret : Option FieldType} {rm : Room} {wsC sfC : List Addr} {St : List Value} {a : Addr} {Q : Option Value → Heap → List Addr → Prop} (G : Wl Z a0 own p l e R s m args below meth c code mx B EL h0 n0 ws sf h cells slots pc L (St)) (pc' : Nat) (hr : ret = none) (hy1 : y.name = "<init>") (w1 : (Cond.methodLink own index y).before a0 Z = true) (w2 : (Cond.instanceMethod y).before a0 Z = true) (wz : (Cond.initialized y.cls).before a0 Z = true) (wc : (Cond.code y bytes maxL ret).before a0 Z = true) (hy : y.cls ≠ "java/lang/invoke/MethodHandle" ∧ y.cls ≠ "java/lang/invoke/VarHandle") (argsL rest : List Value) (hst : St = argsL.reverse ++ .ref a :: rest) (hM : Con Z a0 l y bytes maxL ret rm [] (.ref a :: argsL).toArray EL h n0 wsC sfC Q) (hlen : ∀ sig, parseMethodDescriptor y.desc = some sig → argsL.length = sig.parameters.length) (hd : decode code pc = .ok (.invokespecial index, 3)) (hz : L.size = mx) (hf : rm.frames + 1 ≤ R.frames) (hl : (rest.map fun v => v.category).sum + (maxL + 11) + rm.locals ≤ R.locals) (hc : cells + rm.cells ≤ R.cells) (hs : slots + rm.slots ≤ R.slots) (hws : ∀ x ∈ wsC, NW h0 ws x) (hsf : ∀ x ∈ sfC, x ∈ sf) (hwf : ∀ x ∈ wsC, x ∈ sf) (hp : pc + 3 = pc') :
    ∃ (v : Option Value) (h' : Heap) (so : List Addr), Wl Z a0 own p l e R s m args below meth c code mx B EL h0 n0 ws (so ++ sf) h' (cells + rm.cells) (slots + rm.slots) pc' L (v.toList ++ rest) ∧ Keep h h' wsC ∧ Q v h' so := by
  have nw := fun x (q : NW h0 ws x) => G.nw q
  obtain ⟨⟨hx, hby, hml, hEW⟩, ⟨o1, z2, z3, z1, es⟩, v0, k0, T, locs, X, ⟨hS, hk, hZ, hown⟩, ⟨hC, hF⟩, N, eT, k⟩ := G
  subst hst
  subst hr
  obtain ⟨v, _, ⟨T', L', k', n'⟩, -, X', hS', g', ⟨Lc, ⟨so, N', K', hQ, C', F'⟩, l', y', z'⟩, st⟩ := X.specialBackS hx (y := y) hy1 hown (mvT (s := s.setVm v0) hZ w1) (mvT (s := s.setVm v0) hZ w2) (mvT (s := s.setVm v0) hZ wc) hy (backL (s := s) (W := (rest.map fun v => v.category).sum) hM hZ wc wz hf hl hEW hC.1 (fun x hx => hF x (hsf x hx))) (g := mkF m pc L (argsL.reverse ++ .ref a :: rest)) rfl (hz.trans hml.symm) (Steps.refl _) (a := a) (argsL := argsL) (rest := rest) hlen rfl (by show 2 * 0 + _ ≤ _; omega) (hb hby hd) (fun _ _ => ⟨rfl, eT, hc, hs⟩)
  dsimp only [Pt.U, Pt.locs, Pt.cells, Pt.slots] at X' hS' g' l' y' z' st N' K' hQ C' F'
  subst l' y' z'
  obtain ⟨X2, hS2, hZ2, hown2⟩ := rebS (s := s) hS (by rw [← eT] at hk; exact hk) X' hS' g' hZ hown
  exact ⟨v, T'.heap, so, ⟨⟨hx, hby, hml, hEW⟩, ⟨o1.keep K' (fun x q => nw x (hws x q)), z2.trans K' hws, z3, z1, es⟩, T'.vm, _, T', _, X2, ⟨hS2, Nat.le_refl _, hZ2, hown2⟩, ⟨hC.trans C', fun x q => (List.mem_append.mp q).elim (F' x) (fun r => ⟨Nat.lt_of_lt_of_le (hF x r).1 K'.1, C'.safe (hF x r).1 (hF x r).2⟩)⟩, N.app N', rfl, fun t q => k t (st.trans (by subst hp; exact q))⟩, K', hQ⟩
theorem Wl.callV {index : Nat} {y : MethodName} {bytes : ByteArray} {maxL : Nat} {ret : Option FieldType} {rm : Room} {wsC sfC : List Addr} {St : List Value} {a : Addr} {C : String} {zz : MethodName} {Q : Option Value → Heap → List Addr → Prop} (G : Wl Z a0 own p l e R s m args below meth c code mx B EL h0 n0 ws sf h cells slots pc L (St)) (pc' : Nat) (w1 : (Cond.methodLink own index y).before a0 Z = true) (w2 : (Cond.declares y).before a0 Z = true) (hnf : ∀ s' : State, Z.Warmed39 s'.vm → NotFace s' y) (w3 : (Cond.selects C y zz).before a0 Z = true) (w4 : (Cond.instanceMethod zz).before a0 Z = true) (wz : (Cond.initialized zz.cls).before a0 Z = true) (wc : (Cond.code zz bytes maxL ret).before a0 Z = true) (Ex : Exa Z h a C) (hy : y.cls ≠ "java/lang/invoke/MethodHandle" ∧ y.cls ≠ "java/lang/invoke/VarHandle") (argsL rest : List Value) (hst : St = argsL.reverse ++ .ref a :: rest) (hM : Con Z a0 l zz bytes maxL ret rm [] (.ref a :: argsL).toArray EL h n0 wsC sfC Q) (hlen : ∀ sig, parseMethodDescriptor y.desc = some sig → argsL.length = sig.parameters.length) (hd : decode code pc = .ok (.invokevirtual index, 3)) (hz : L.size = mx) (hf : rm.frames + 1 ≤ R.frames) (hl : (rest.map fun v => v.category).sum + (maxL + 11) + rm.locals ≤ R.locals) (hc : cells + rm.cells ≤ R.cells) (hs : slots + rm.slots ≤ R.slots) (hws : ∀ x ∈ wsC, NW h0 ws x) (hsf : ∀ x ∈ sfC, x ∈ sf) (hwf : ∀ x ∈ wsC, x ∈ sf) (hp : pc + 3 = pc') :
    ∃ (v : Option Value) (h' : Heap) (so : List Addr), Wl Z a0 own p l e R s m args below meth c code mx B EL h0 n0 ws (so ++ sf) h' (cells + rm.cells) (slots + rm.slots) pc' L (v.toList ++ rest) ∧ Keep h h' wsC ∧ Q v h' so := by
  have nw := fun x (q : NW h0 ws x) => G.nw q
  obtain ⟨⟨hx, hby, hml, hEW⟩, ⟨o1, z2, z3, z1, es⟩, v0, k0, T, locs, X, ⟨hS, hk, hZ, hown⟩, ⟨hC, hF⟩, N, eT, k⟩ := G
  subst hst
  obtain ⟨cq, kq, q1, q2, q3⟩ := isOf (s := s.setVm v0) (T := T) hZ eT Ex
  obtain ⟨v, _, ⟨T', L', k', n'⟩, -, X', hS', g', ⟨Lc, ⟨so, N', K', hQ, C', F'⟩, l', y', z'⟩, st⟩ := X.virtualBackS hx (y := y) (z := zz) hown (mvT (s := s.setVm v0) hZ w1) (mvT (s := s.setVm v0) hZ w2) (hnf (s.setVm v0) hZ) (mvT (s := s.setVm v0) hZ w3) (mvT (s := s.setVm v0) hZ w4) hy (backL (s := s) (W := (rest.map fun v => v.category).sum) hM hZ wc wz hf hl hEW hC.1 (fun x hx => hF x (hsf x hx))) q1 q3 (g := mkF m pc L (argsL.reverse ++ .ref a :: rest)) rfl (hz.trans hml.symm) (Steps.refl _) (argsL := argsL) (rest := rest) hlen rfl (by show 2 * 0 + _ ≤ _; omega) (hb hby hd) (fun _ _ => ⟨rfl, eT, hc, hs⟩)
  dsimp only [Pt.U, Pt.locs, Pt.cells, Pt.slots] at X' hS' g' l' y' z' st N' K' hQ C' F'
  subst l' y' z'
  obtain ⟨X2, hS2, hZ2, hown2⟩ := rebS (s := s) hS (by rw [← eT] at hk; exact hk) X' hS' g' hZ hown
  exact ⟨v, T'.heap, so, ⟨⟨hx, hby, hml, hEW⟩, ⟨o1.keep K' (fun x q => nw x (hws x q)), z2.trans K' hws, z3, z1, es⟩, T'.vm, _, T', _, X2, ⟨hS2, Nat.le_refl _, hZ2, hown2⟩, ⟨hC.trans C', fun x q => (List.mem_append.mp q).elim (F' x) (fun r => ⟨Nat.lt_of_lt_of_le (hF x r).1 K'.1, C'.safe (hF x r).1 (hF x r).2⟩)⟩, N.app N', rfl, fun t q => k t (st.trans (by subst hp; exact q))⟩, K', hQ⟩
theorem Wl.callU {index : Nat} {y : MethodName} {bytes : ByteArray} {maxL : Nat} {ret : Option FieldType} {rm : Room} {wsC sfC : List Addr} {St : List Value} {a : Addr} {C owner : String} {zz : MethodName} {Q : Option Value → Heap → List Addr → Prop} (G : Wl Z a0 own p l e R s m args below meth c code mx B EL h0 n0 ws sf h cells slots pc L (St)) (pc' : Nat) (w1 : (Cond.methodLink own index y).before a0 Z = true) (w2 : (Cond.sameMethod y.cls owner y.name y.desc).before a0 Z = true) (w5 : (Cond.declares ⟨owner, y.name, y.desc⟩).before a0 Z = true) (w3 : (Cond.selects C y zz).before a0 Z = true) (w4 : (Cond.instanceMethod zz).before a0 Z = true) (wz : (Cond.initialized zz.cls).before a0 Z = true) (wc : (Cond.code zz bytes maxL ret).before a0 Z = true) (Ex : Exa Z h a C) (hy : owner ≠ "java/lang/invoke/MethodHandle" ∧ owner ≠ "java/lang/invoke/VarHandle") (argsL rest : List Value) (hst : St = argsL.reverse ++ .ref a :: rest) (hM : Con Z a0 l zz bytes maxL ret rm [] (.ref a :: argsL).toArray EL h n0 wsC sfC Q) (hlen : ∀ sig, parseMethodDescriptor y.desc = some sig → argsL.length = sig.parameters.length) (hd : decode code pc = .ok (.invokevirtual index, 3)) (hz : L.size = mx) (hf : rm.frames + 1 ≤ R.frames) (hl : (rest.map fun v => v.category).sum + (maxL + 11) + rm.locals ≤ R.locals) (hc : cells + rm.cells ≤ R.cells) (hs : slots + rm.slots ≤ R.slots) (hws : ∀ x ∈ wsC, NW h0 ws x) (hsf : ∀ x ∈ sfC, x ∈ sf) (hwf : ∀ x ∈ wsC, x ∈ sf) (hp : pc + 3 = pc') :
    ∃ (v : Option Value) (h' : Heap) (so : List Addr), Wl Z a0 own p l e R s m args below meth c code mx B EL h0 n0 ws (so ++ sf) h' (cells + rm.cells) (slots + rm.slots) pc' L (v.toList ++ rest) ∧ Keep h h' wsC ∧ Q v h' so := by
  have nw := fun x (q : NW h0 ws x) => G.nw q
  obtain ⟨⟨hx, hby, hml, hEW⟩, ⟨o1, z2, z3, z1, es⟩, v0, k0, T, locs, X, ⟨hS, hk, hZ, hown⟩, ⟨hC, hF⟩, N, eT, k⟩ := G
  subst hst
  obtain ⟨cq, kq, q1, q2, q3⟩ := isOf (s := s.setVm v0) (T := T) hZ eT Ex
  obtain ⟨v, _, ⟨T', L', k', n'⟩, -, X', hS', g', ⟨Lc, ⟨so, N', K', hQ, C', F'⟩, l', y', z'⟩, st⟩ := X.virtualBackUpS hx (x := y) (y := zz) hown (mvT (s := s.setVm v0) hZ w1) (mvT (s := s.setVm v0) hZ w2) (mvT (s := s.setVm v0) hZ w5) hy (mvT (s := s.setVm v0) hZ w3) (mvT (s := s.setVm v0) hZ w4) (backL (s := s) (W := (rest.map fun v => v.category).sum) hM hZ wc wz hf hl hEW hC.1 (fun x hx => hF x (hsf x hx))) q1 q3 (g := mkF m pc L (argsL.reverse ++ .ref a :: rest)) rfl (hz.trans hml.symm) (Steps.refl _) (argsL := argsL) (rest := rest) hlen rfl (by show 2 * 0 + _ ≤ _; omega) (hb hby hd) (fun _ _ => ⟨rfl, eT, hc, hs⟩)
  dsimp only [Pt.U, Pt.locs, Pt.cells, Pt.slots] at X' hS' g' l' y' z' st N' K' hQ C' F'
  subst l' y' z'
  obtain ⟨X2, hS2, hZ2, hown2⟩ := rebS (s := s) hS (by rw [← eT] at hk; exact hk) X' hS' g' hZ hown
  exact ⟨v, T'.heap, so, ⟨⟨hx, hby, hml, hEW⟩, ⟨o1.keep K' (fun x q => nw x (hws x q)), z2.trans K' hws, z3, z1, es⟩, T'.vm, _, T', _, X2, ⟨hS2, Nat.le_refl _, hZ2, hown2⟩, ⟨hC.trans C', fun x q => (List.mem_append.mp q).elim (F' x) (fun r => ⟨Nat.lt_of_lt_of_le (hF x r).1 K'.1, C'.safe (hF x r).1 (hF x r).2⟩)⟩, N.app N', rfl, fun t q => k t (st.trans (by subst hp; exact q))⟩, K', hQ⟩
theorem Wl.callF {index : Nat} {y : MethodName} {bytes : ByteArray} {maxL : Nat} {ret : Option FieldType} {rm : Room} {wsC sfC : List Addr} {St : List Value} {a : Addr} {C : String} {count : Nat} {zz : MethodName} {Q : Option Value → Heap → List Addr → Prop} (G : Wl Z a0 own p l e R s m args below meth c code mx B EL h0 n0 ws sf h cells slots pc L (St)) (pc' : Nat) (w1 : (Cond.methodLink own index y).before a0 Z = true) (w2 : (Cond.declares y).before a0 Z = true) (w5 : (Cond.interfaceMethod y.cls y.cls y.name y.desc).before a0 Z = true) (k5 : ((Cond.interfaceMethod y.cls y.cls y.name y.desc).onTables && (Cond.interfaceMethod y.cls y.cls y.name y.desc).keepsFace) = true) (w3 : (Cond.selects C y zz).before a0 Z = true) (w4 : (Cond.instanceMethod zz).before a0 Z = true) (w6 : (Cond.publicMethod zz).before a0 Z = true) (w7 : (Cond.unhidden C y.name y.desc).before a0 Z = true) (w8 : (Cond.castable C y.cls).before a0 Z = true) (wz : (Cond.initialized zz.cls).before a0 Z = true) (wc : (Cond.code zz bytes maxL ret).before a0 Z = true) (Ex : Exa Z h a C) (hy : y.cls ≠ "java/lang/invoke/MethodHandle" ∧ y.cls ≠ "java/lang/invoke/VarHandle") (argsL rest : List Value) (hst : St = argsL.reverse ++ .ref a :: rest) (hM : Con Z a0 l zz bytes maxL ret rm [] (.ref a :: argsL).toArray EL h n0 wsC sfC Q) (hlen : ∀ sig, parseMethodDescriptor y.desc = some sig → argsL.length = sig.parameters.length) (hd : decode code pc = .ok (.invokeinterface index count, 5)) (hz : L.size = mx) (hf : rm.frames + 1 ≤ R.frames) (hl : (rest.map fun v => v.category).sum + (maxL + 11) + rm.locals ≤ R.locals) (hc : cells + rm.cells ≤ R.cells) (hs : slots + rm.slots ≤ R.slots) (hws : ∀ x ∈ wsC, NW h0 ws x) (hsf : ∀ x ∈ sfC, x ∈ sf) (hwf : ∀ x ∈ wsC, x ∈ sf) (hp : pc + 5 = pc') :
    ∃ (v : Option Value) (h' : Heap) (so : List Addr), Wl Z a0 own p l e R s m args below meth c code mx B EL h0 n0 ws (so ++ sf) h' (cells + rm.cells) (slots + rm.slots) pc' L (v.toList ++ rest) ∧ Keep h h' wsC ∧ Q v h' so := by
  have nw := fun x (q : NW h0 ws x) => G.nw q
  obtain ⟨⟨hx, hby, hml, hEW⟩, ⟨o1, z2, z3, z1, es⟩, v0, k0, T, locs, X, ⟨hS, hk, hZ, hown⟩, ⟨hC, hF⟩, N, eT, k⟩ := G
  subst hst
  obtain ⟨cq, kq, q1, q2, q3⟩ := isOf (s := s.setVm v0) (T := T) hZ eT Ex
  obtain ⟨v, _, ⟨T', L', k', n'⟩, -, X', hS', g', ⟨Lc, ⟨so, N', K', hQ, C', F'⟩, l', y', z'⟩, st⟩ := X.interfaceBackS hx (xi := y) (y := zz) hown (mvT (s := s.setVm v0) hZ w1) (mvT (s := s.setVm v0) hZ w2) (mvT (s := s.setVm v0) hZ w5 k5) (mvT (s := s.setVm v0) hZ w3) (mvT (s := s.setVm v0) hZ w4) (mvT (s := s.setVm v0) hZ w6) (mvT (s := s.setVm v0) hZ w7) (mvT (s := s.setVm v0) hZ w8) hy (backL (s := s) (W := (rest.map fun v => v.category).sum) hM hZ wc wz hf hl hEW hC.1 (fun x hx => hF x (hsf x hx))) q1 q2 q3 (g := mkF m pc L (argsL.reverse ++ .ref a :: rest)) rfl (hz.trans hml.symm) (Steps.refl _) (argsL := argsL) (rest := rest) hlen rfl (by show 2 * 0 + _ ≤ _; omega) (hb hby hd) (fun _ _ => ⟨rfl, eT, hc, hs⟩)
  dsimp only [Pt.U, Pt.locs, Pt.cells, Pt.slots] at X' hS' g' l' y' z' st N' K' hQ C' F'
  subst l' y' z'
  obtain ⟨X2, hS2, hZ2, hown2⟩ := rebS (s := s) hS (by rw [← eT] at hk; exact hk) X' hS' g' hZ hown
  exact ⟨v, T'.heap, so, ⟨⟨hx, hby, hml, hEW⟩, ⟨o1.keep K' (fun x q => nw x (hws x q)), z2.trans K' hws, z3, z1, es⟩, T'.vm, _, T', _, X2, ⟨hS2, Nat.le_refl _, hZ2, hown2⟩, ⟨hC.trans C', fun x q => (List.mem_append.mp q).elim (F' x) (fun r => ⟨Nat.lt_of_lt_of_le (hF x r).1 K'.1, C'.safe (hF x r).1 (hF x r).2⟩)⟩, N.app N', rfl, fun t q => k t (st.trans (by subst hp; exact q))⟩, K', hQ⟩
theorem Wl.callSup {index : Nat} {y : MethodName} {bytes : ByteArray} {maxL : Nat} {ret : Option FieldType} {rm : Room} {wsC sfC : List Addr} {St : List Value} {a : Addr} {K : String} {Q : Option Value → Heap → List Addr → Prop} (G : Wl Z a0 own p l e R s m args below meth c code mx B EL h0 n0 ws sf h cells slots pc L (St)) (pc' : Nat) (w1 : (Cond.methodLink own index y).before a0 Z = true) (w2 : (Cond.sameMethod y.cls y.cls y.name y.desc).before a0 Z = true) (w3 : (Cond.instanceMethod y).before a0 Z = true) (w4 : (Cond.superclass own y.cls).before a0 Z = true) (hn : y.name ≠ "<init>") (wz : (Cond.initialized y.cls).before a0 Z = true) (wc : (Cond.code y bytes maxL ret).before a0 Z = true) (Ex : Ins Z h a K true) (argsL rest : List Value) (hst : St = argsL.reverse ++ .ref a :: rest) (hM : Con Z a0 l y bytes maxL ret rm [] (.ref a :: argsL).toArray EL h n0 wsC sfC Q) (hlen : ∀ sig, parseMethodDescriptor y.desc = some sig → argsL.length = sig.parameters.length) (hd : decode code pc = .ok (.invokespecial index, 3)) (hz : L.size = mx) (hf : rm.frames + 1 ≤ R.frames) (hl : (rest.map fun v => v.category).sum + (maxL + 11) + rm.locals ≤ R.locals) (hc : cells + rm.cells ≤ R.cells) (hs : slots + rm.slots ≤ R.slots) (hws : ∀ x ∈ wsC, NW h0 ws x) (hsf : ∀ x ∈ sfC, x ∈ sf) (hwf : ∀ x ∈ wsC, x ∈ sf) (hp : pc + 3 = pc') :
    ∃ (v : Option Value) (h' : Heap) (so : List Addr), Wl Z a0 own p l e R s m args below meth c code mx B EL h0 n0 ws (so ++ sf) h' (cells + rm.cells) (slots + rm.slots) pc' L (v.toList ++ rest) ∧ Keep h h' wsC ∧ Q v h' so := by
  have nw := fun x (q : NW h0 ws x) => G.nw q
  obtain ⟨⟨hx, hby, hml, hEW⟩, ⟨o1, z2, z3, z1, es⟩, v0, k0, T, locs, X, ⟨hS, hk, hZ, hown⟩, ⟨hC, hF⟩, N, eT, k⟩ := G
  subst hst
  obtain ⟨v, _, ⟨T', L', k', n'⟩, -, X', hS', g', ⟨Lc, ⟨so, N', K', hQ, C', F'⟩, l', y', z'⟩, st⟩ := superBackS (s := s.setVm v0) X hx hZ (y := y) hown w1 w2 w3 w4 hn (backL (s := s) (W := (rest.map fun v => v.category).sum) hM hZ wc wz hf hl hEW hC.1 (fun x hx => hF x (hsf x hx))) eT Ex (g := mkF m pc L (argsL.reverse ++ .ref a :: rest)) rfl (hz.trans hml.symm) wc (argsL := argsL) (rest := rest) hlen rfl (by show 2 * 0 + _ ≤ _; omega) (hb hby hd) (fun _ _ => ⟨rfl, eT, hc, hs⟩)
  dsimp only [Pt.U, Pt.locs, Pt.cells, Pt.slots] at X' hS' g' l' y' z' st N' K' hQ C' F'
  subst l' y' z'
  obtain ⟨X2, hS2, hZ2, hown2⟩ := rebS (s := s) hS (by rw [← eT] at hk; exact hk) X' hS' g' hZ hown
  exact ⟨v, T'.heap, so, ⟨⟨hx, hby, hml, hEW⟩, ⟨o1.keep K' (fun x q => nw x (hws x q)), z2.trans K' hws, z3, z1, es⟩, T'.vm, _, T', _, X2, ⟨hS2, Nat.le_refl _, hZ2, hown2⟩, ⟨hC.trans C', fun x q => (List.mem_append.mp q).elim (F' x) (fun r => ⟨Nat.lt_of_lt_of_le (hF x r).1 K'.1, C'.safe (hF x r).1 (hF x r).2⟩)⟩, N.app N', rfl, fun t q => k t (st.trans (by subst hp; exact q))⟩, K', hQ⟩
theorem nfSel {C : String} {y : MethodName} (w3 : (Cond.selects C y y).before a0 Z = true) : ∀ s' : State, Z.Warmed39 s'.vm → NotFace s' y := fun s' hZ => notFace_of_selects (args := #[]) (mvT hZ w3)
theorem Wl.val {v : Option Value} {w : Value} {rest : List Value} (G : Wl Z a0 own p l e R s m args below meth c code mx B EL h0 n0 ws sf h cells slots pc L (v.toList ++ rest)) (q : v = some w) : Wl Z a0 own p l e R s m args below meth c code mx B EL h0 n0 ws sf h cells slots pc L (w :: rest) := by subst q; exact G
theorem Wl.nov {v : Option Value} {rest : List Value} (G : Wl Z a0 own p l e R s m args below meth c code mx B EL h0 n0 ws sf h cells slots pc L (v.toList ++ rest)) (q : v = none) : Wl Z a0 own p l e R s m args below meth c code mx B EL h0 n0 ws sf h cells slots pc L (rest) := by subst q; exact G
theorem Wl.callP {index : Nat} {y : MethodName} {bytes : ByteArray} {maxL : Nat} {ret : Option FieldType} {rm : Room} {wsC sfC : List Addr} {St : List Value} {a : Addr} {C : String} {Q : Option Value → Heap → List Addr → Prop} (G : Wl Z a0 own p l e R s m args below meth c code mx B EL h0 n0 ws sf h cells slots pc L (St)) (pc' : Nat) (w1 : (Cond.methodLink own index y).before a0 Z = true) (w2 : (Cond.instanceMethod y).before a0 Z = true) (w3 : (Cond.selects y.cls y y).before a0 Z = true) (w4 : (Cond.privateMethod y).before a0 Z = true) (wz : (Cond.initialized y.cls).before a0 Z = true) (wc : (Cond.code y bytes maxL ret).before a0 Z = true) (Ex : Exa Z h a C) (hy : y.cls ≠ "java/lang/invoke/MethodHandle" ∧ y.cls ≠ "java/lang/invoke/VarHandle") (argsL rest : List Value) (hst : St = argsL.reverse ++ .ref a :: rest) (hM : Con Z a0 l y bytes maxL ret rm [] (.ref a :: argsL).toArray EL h n0 wsC sfC Q) (hlen : ∀ sig, parseMethodDescriptor y.desc = some sig → argsL.length = sig.parameters.length) (hd : decode code pc = .ok (.invokevirtual index, 3)) (hz : L.size = mx) (hf : rm.frames + 1 ≤ R.frames) (hl : (rest.map fun v => v.category).sum + (maxL + 11) + rm.locals ≤ R.locals) (hc : cells + rm.cells ≤ R.cells) (hs : slots + rm.slots ≤ R.slots) (hws : ∀ x ∈ wsC, NW h0 ws x) (hsf : ∀ x ∈ sfC, x ∈ sf) (hwf : ∀ x ∈ wsC, x ∈ sf) (hp : pc + 3 = pc') :
    ∃ (v : Option Value) (h' : Heap) (so : List Addr), Wl Z a0 own p l e R s m args below meth c code mx B EL h0 n0 ws (so ++ sf) h' (cells + rm.cells) (slots + rm.slots) pc' L (v.toList ++ rest) ∧ Keep h h' wsC ∧ Q v h' so := by
  have nw := fun x (q : NW h0 ws x) => G.nw q
  obtain ⟨⟨hx, hby, hml, hEW⟩, ⟨o1, z2, z3, z1, es⟩, v0, k0, T, locs, X, ⟨hS, hk, hZ, hown⟩, ⟨hC, hF⟩, N, eT, k⟩ := G
  subst hst
  obtain ⟨cellq, kq, q1, -, -, q4, -⟩ := Ex
  obtain ⟨v, _, ⟨T', L', k', n'⟩, -, X', hS', g', ⟨Lc, ⟨so, N', K', hQ, C', F'⟩, l', y', z'⟩, st⟩ := X.privateBackS hx (y := y) hown (mvT (s := s.setVm v0) hZ w1) (mvT (s := s.setVm v0) hZ w2) (mvT (s := s.setVm v0) hZ w3) (Cond.privateMethod_at (args := args) (mvP (s := s.setVm v0) hZ w4)) (mvT (s := s.setVm v0) hZ wc) hy (backL (s := s) (W := (rest.map fun v => v.category).sum) hM hZ wc wz hf hl hEW hC.1 (fun x hx => hF x (hsf x hx))) (g := mkF m pc L (argsL.reverse ++ .ref a :: rest)) rfl (hz.trans hml.symm) (Steps.refl _) (by rw [eT]; exact q1) (fun q r => by rw [r] at q4; cases q4) (argsL := argsL) (rest := rest) hlen rfl (by show 2 * 0 + _ ≤ _; omega) (hb hby hd) (fun _ _ => ⟨rfl, eT, hc, hs⟩)
  dsimp only [Pt.U, Pt.locs, Pt.cells, Pt.slots] at X' hS' g' l' y' z' st N' K' hQ C' F'
  subst l' y' z'
  obtain ⟨X2, hS2, hZ2, hown2⟩ := rebS (s := s) hS (by rw [← eT] at hk; exact hk) X' hS' g' hZ hown
  exact ⟨v, T'.heap, so, ⟨⟨hx, hby, hml, hEW⟩, ⟨o1.keep K' (fun x q => nw x (hws x q)), z2.trans K' hws, z3, z1, es⟩, T'.vm, _, T', _, X2, ⟨hS2, Nat.le_refl _, hZ2, hown2⟩, ⟨hC.trans C', fun x q => (List.mem_append.mp q).elim (F' x) (fun r => ⟨Nat.lt_of_lt_of_le (hF x r).1 K'.1, C'.safe (hF x r).1 (hF x r).2⟩)⟩, N.app N', rfl, fun t q => k t (st.trans (by subst hp; exact q))⟩, K', hQ⟩
theorem declOf {y : MethodName} {bytes : ByteArray} {maxL : Nat} {ret : Option FieldType} (w2 : (Cond.instanceMethod y).before a0 Z = true) (wc : (Cond.code y bytes maxL ret).before a0 Z = true) : (Cond.declares y).before a0 Z = true := by
  obtain ⟨mk, methM, hnamed, hmethM, hstM, -⟩ := Cond.instanceMethod_spec w2
  obtain ⟨methM', cM, hmethM', -, -, -, -, -, -, hsigM⟩ := Cond.code_spec hnamed wc
  cases hmethM.symm.trans hmethM'
  simp [Cond.before, Cond.holds, Cond.value, hnamed, hmethM, hstM, hsigM]
theorem nfVia {C : String} {y y' : MethodName} (hc : y'.cls = y.cls) (w3 : (Cond.selects C y y).before a0 Z = true) (w4 : (Cond.instanceMethod y).before a0 Z = true) : ∀ s' : State, Z.Warmed39 s'.vm → NotFace s' y' := fun s' hZ r0 h0 => by
  obtain ⟨mk, methM, hnamed, -⟩ := Cond.instanceMethod_spec (mv (args := #[]) hZ w4)
  obtain ⟨kr, h1, h2⟩ := notFace_of_selects (args := #[]) (mvT hZ w3) mk hnamed
  have e1 := findClass_of_methodNamed hnamed
  have e2 := findClass_of_methodNamed h0
  rw [hc] at e2
  have e3 := Option.some.inj (e1.symm.trans e2)
  exact ⟨kr, by rw [← e3]; exact h1, h2⟩
theorem sameOf {y : MethodName} (w2 : (Cond.instanceMethod y).before a0 Z = true) (nf : ∀ s' : State, Z.Warmed39 s'.vm → NotFace s' y) (hy : y.cls ≠ "java/lang/invoke/MethodHandle" ∧ y.cls ≠ "java/lang/invoke/VarHandle") : (Cond.sameMethod y.cls y.cls y.name y.desc).before a0 Z = true := by
  obtain ⟨mk, methM, hnamed, -⟩ := Cond.instanceMethod_spec w2
  obtain ⟨kr, h1, h2⟩ := nf Z (State.Warmed39.refl Z) mk hnamed
  have e1 := findClass_of_methodNamed hnamed
  have e2 := State.methodFound?_of_named hnamed hy
  have e3 : Z.methodNamed? ⟨y.cls, y.name, y.desc⟩ = some mk := hnamed
  simp [Cond.before, Cond.holds, Cond.value, e1, e2, e3, h1, h2]
theorem Wl.ccast {K : String} {index : Nat} {a : Addr} (G : Wl Z a0 own p l e R s m args below meth c code mx B EL h0 n0 ws sf h cells slots pc L (.ref a :: S)) (pc' : Nat) (w : (Cond.classLink own index K).before a0 Z = true) (F : Ins Z h a K true) (hd : decode code pc = .ok (.checkcast index, 3)) (hp : pc + 3 = pc') : Wl Z a0 own p l e R s m args below meth c code mx B EL h0 n0 ws sf h cells slots pc' L (.ref a :: S) := by
  obtain ⟨⟨hx, hby, hml, hEW⟩, ⟨o1, z2, z3, z1, es⟩, v0, k0, T, locs, X, ⟨hS, hk, hZ, hown⟩, ⟨hC, hF⟩, N, eT, k⟩ := G
  obtain ⟨T', X', e', st⟩ := castY (s := s.setVm v0) X hx hZ hown w eT F (g := mkF m pc L (.ref a :: S)) rfl rfl (hb hby hd)
  exact ⟨⟨hx, hby, hml, hEW⟩, ⟨o1, z2, z3, z1, es⟩, v0, k0, T', _, X', ⟨hS, hk, hZ, hown⟩, ⟨hC, hF⟩, N, e', fun t q => k t (st t (by subst hp; exact q))⟩
theorem Wl.instY {K : String} {index : Nat} {a : Addr} (G : Wl Z a0 own p l e R s m args below meth c code mx B EL h0 n0 ws sf h cells slots pc L (.ref a :: S)) (pc' : Nat) (w : (Cond.classLink own index K).before a0 Z = true) (F : Ins Z h a K true) (hd : decode code pc = .ok (.instanceof index, 3)) (hp : pc + 3 = pc') : Wl Z a0 own p l e R s m args below meth c code mx B EL h0 n0 ws sf h cells slots pc' L (.int 1 :: S) := by
  obtain ⟨⟨hx, hby, hml, hEW⟩, ⟨o1, z2, z3, z1, es⟩, v0, k0, T, locs, X, ⟨hS, hk, hZ, hown⟩, ⟨hC, hF⟩, N, eT, k⟩ := G
  obtain ⟨T', X', e', st⟩ := Jvm.RoadKit.instY (s := s.setVm v0) X hx hZ hown w eT F (g := mkF m pc L (.ref a :: S)) rfl rfl (hb hby hd)
  exact ⟨⟨hx, hby, hml, hEW⟩, ⟨o1, z2, z3, z1, es⟩, v0, k0, T', _, X', ⟨hS, hk, hZ, hown⟩, ⟨hC, hF⟩, N, e', fun t q => k t (st t (by subst hp; exact q))⟩
theorem Wl.cpy {index : Nat} {a b : Addr} {k k' : ClassId} {ty : FieldType} {z z' sp dp nn : Int32} {vs vd : List Value} {dv dd : Value} (G : Wl Z a0 own p l e R s m args below meth c code mx B EL h0 n0 ws sf h cells slots pc L (.int nn :: .int dp :: .ref b :: .int sp :: .ref a :: S)) (pc' : Nat) (w1 : (Cond.methodLink own index Jvm.Stand.acN).before a0 Z = true) (w2 : (Cond.native Jvm.Stand.acN).before a0 Z = true) (w3 : (Cond.static Jvm.Stand.acN).before a0 Z = true) (w4 : (Cond.initialized "java/lang/System").before a0 Z = true) (A : Arv Z h a k ty z vs dv) (B' : Arv Z h b k' ty z' vd dd) (hr : refKind ty = false) (h1 : ¬ sp < 0) (h2 : ¬ dp < 0) (h3 : ¬ nn < 0) (h4 : sp.toNatClampNeg + nn.toNatClampNeg ≤ z.toNatClampNeg) (h5 : dp.toNatClampNeg + nn.toNatClampNeg ≤ z'.toNatClampNeg) (hl : dp.toNatClampNeg + nn.toNatClampNeg ≤ vd.length) (q : NW h0 ws b) (qs : b ∈ sf) (hd : decode code pc = .ok (.invokestatic index, 3)) (hz : L.size = mx) (hf : 1 ≤ R.frames) (hlo : (S.map fun v => v.category).sum + (nativeFrameWords "java/lang/System" "arraycopy" 5 + 11) ≤ R.locals) (hp : pc + 3 = pc') : ∃ (h' : Heap), Wl Z a0 own p l e R s m args below meth c code mx B EL h0 n0 ws sf h' cells slots pc' L S ∧ Arv Z h' b k' ty z' (vd.take dp.toNatClampNeg ++ ((List.range nn.toNatClampNeg).map fun i => vs.getD (sp.toNatClampNeg + i) dv) ++ vd.drop (dp.toNatClampNeg + nn.toNatClampNeg)) dd ∧ Keep h h' [b] := by
  have qn := G.nw q
  obtain ⟨⟨hx, hby, hml, hEW⟩, ⟨o1, z2, z3, z1, es⟩, v0, k0, T, locs, X, ⟨hS, hk, hZ, hown⟩, ⟨hC, hF⟩, N, eT, k⟩ := G
  obtain ⟨T', h', LL, X', e', N', K', A', st⟩ := cpA (s := s.setVm v0) X hx hZ hown w1 w2 w3 w4 eT A B' (Or.inl ⟨rfl, hr⟩) h1 h2 h3 h4 h5 rfl hl N qn (g := mkF m pc L (.int nn :: .int dp :: .ref b :: .int sp :: .ref a :: S)) rfl (hz.trans hml.symm) rfl (hb hby hd) hf (W := (S.map fun v => v.category).sum) (by show 2 * 0 + _ ≤ _; omega) hlo
  have hsb : ∀ x ∈ [b], Safe Z EL v0 h x := fun x y => by cases List.mem_singleton.mp y; exact (hF _ qs).2
  exact ⟨h', ⟨⟨hx, hby, hml, hEW⟩, ⟨o1.keep K' (allS qn all0), z2.trans K' (allS q all0), z3, z1, es⟩, v0, k0, T', _, X', ⟨hS, Nat.le_trans hk K'.1, hZ, hown⟩, ⟨hC.trans (CHr.keep K' hsb hC.1), safeKeep K' hsb hC.1 hF⟩, N', e', fun t q => k t (st t (by subst hp; exact q))⟩, A', K'⟩
theorem Wl.ldcS {index : Nat} {text : String} {vs : List Value} {z : Int32} (G : Wl Z a0 own p l e R s m args below meth c code mx B EL h0 n0 ws sf h cells slots pc L S) (pc' : Nat) (w : (Cond.stringLink own index text).before a0 Z = true) (wS : ∀ a ∈ Bundle.stringAtoms, a.before a0 Z = true) (hmem : (own, index) ∈ EL) (ht : (∀ c ∈ text.toList, c.toNat < 256) ∧ text.toList.map (fun c => Value.int (Jvm.Lit.byteI c.toNat.toUInt16)) = vs) (hz : ¬ z < 0) (hl : z.toNatClampNeg = vs.length) (hd : decode code pc = .ok (.ldc index, 2)) (n : Nat) (hn : 4 * text.toList.length ≤ n) (hbig : n ≤ 536870912) (hc : cells + 2 ≤ R.cells) (hl' : slots + (n + 4) ≤ R.slots) (hp : pc + 2 = pc') : ∃ (a b : Addr) (h' : Heap) (kk : ClassId), Wl Z a0 own p l e R s m args below meth c code mx B EL h0 n0 ws sf h' (cells + 2) (slots + (n + 4)) pc' L (.ref a :: S) ∧ Ext h h' ∧ Exa Z h' a "java/lang/String" ∧ Fld Z h' a "java/lang/String" "coder" "B" (.int 0) ∧ Fld Z h' a "java/lang/String" "value" "[B" (.ref b) ∧ Arv Z h' b kk .byte z vs (.int 0) ∧ ∀ x ∈ sf, x ≠ a ∧ x ≠ b := by
  obtain ⟨⟨hx, hby, hml, hEW⟩, ⟨o1, z2, z3, z1, es⟩, v0, k0, T, locs, X, ⟨hS, hk, hZ, hown⟩, ⟨hC, hF⟩, N, eT, k⟩ := G
  obtain ⟨a, T', h', k1, b, kk, X', e', E, hS', hk', hZ', hown', Ex, Fc, Fv, A, -, -, C', -, hne, st⟩ := ldcCH X hx hZ hown w wS eT hS hk hEW hmem hC.1 ht hz hl (g := mkF m pc L S) rfl (hb hby hd) hn hbig hc hl'
  have hF' : ∀ x ∈ sf, x < h'.size ∧ Safe Z EL T'.vm h' x := fun x q => ⟨Nat.lt_of_lt_of_le (hF x q).1 E.1, C'.safe (hF x q).1 (hF x q).2⟩
  exact ⟨a, b, h', kk, ⟨⟨hx, hby, hml, hEW⟩, ⟨o1.ext E, z2.ext E, z3, z1, es⟩, T'.vm, k1, T', _, X', ⟨hS', hk', hZ', hown'⟩, ⟨hC.trans C', hF'⟩, N, e', fun t q => k t (st t (by subst hp; exact q))⟩, E, Ex, Fc, Fv, A, fun x q => hne x (hF' x q).2⟩
end OwnL
end Jvm.OwnL
namespace Jvm.Pilot.@@N@@
open Jvm Jvm.ClassFile Sem Op Lib Jvm.Free Jvm.Free.Fl Jvm.Stand Jvm.LawKit Jvm.RoadKit Jvm.OwnL Bundle Jvm.Pilot.@@N@@.Jvm.D
set_option maxRecDepth 65536
set_option maxHeartbeats 40000000
theorem nle {a b : Nat} (h : Nat.ble a b = true) : a ≤ b := Nat.le_of_ble_eq_true h
theorem mm {α : Type} {l : List α} {a : α} (i : Nat) (h : l[i]? = some a) : a ∈ l := List.mem_of_getElem? h
theorem ofn_int {n : Nat} (h : n < 2147483648) : (Int32.ofNat n).toInt = (n : Int) := Int32.toInt_ofNat_small h
theorem ofn_nat {n : Nat} (h : n < 2147483648) : (Int32.ofNat n).toNatClampNeg = n := by simp only [Int32.toNatClampNeg, ofn_int h]; omega
theorem ofn_nn {n : Nat} (h : n < 2147483648) : ¬ Int32.ofNat n < 0 := by
  rw [Int32.lt_iff_toInt_lt, ofn_int h]; show ¬ (n : Int) < 0; omega
theorem ofn_lt {i n : Nat} (hi : i < n) (h : n < 2147483648) : Int32.ofNat i < Int32.ofNat n := by
  rw [Int32.lt_iff_toInt_lt, ofn_int h, ofn_int (by omega)]; omega
theorem ofn_nlt {i n : Nat} (hi : n ≤ i) (h : i < 2147483648) : ¬ Int32.ofNat i < Int32.ofNat n := by
  rw [Int32.lt_iff_toInt_lt, ofn_int h, ofn_int (by omega)]; omega
theorem ofn_ne {i n : Nat} (hi : i ≠ n) (h1 : i < 2147483648) (h2 : n < 2147483648) : ¬ Int32.ofNat i = Int32.ofNat n := fun q => hi (by
  have := congrArg Int32.toInt q; rw [ofn_int h1, ofn_int h2] at this; omega)
theorem ofn_add (a b : Nat) : Int32.ofNat a + Int32.ofNat b = Int32.ofNat (a + b) := (Int32.ofNat_add a b).symm
theorem ofn_sub {a b : Nat} (h : b ≤ a) (ha : a < 2147483648) : Int32.ofNat a - Int32.ofNat b = Int32.ofNat (a - b) := by
  apply Int32.toInt_inj.mp
  have e := c_isub (Int32.ofNat a) (Int32.ofNat b)
  have r := rng32 (Int32.ofNat a - Int32.ofNat b)
  rw [ofn_int ha, ofn_int (by omega)] at e
  rw [ofn_int (by omega)]; omega
theorem ofn_le0 {a b : Nat} (h : a ≤ b) (hb : b < 2147483648) : ¬ 0 < Int32.ofNat a - Int32.ofNat b := by
  have e := c_isub (Int32.ofNat a) (Int32.ofNat b)
  have r := rng32 (Int32.ofNat a - Int32.ofNat b)
  rw [ofn_int (by omega), ofn_int hb] at e
  rw [Int32.lt_iff_toInt_lt]; show ¬ (0 : Int) < _; omega
theorem shr0 (x : Int32) : x >>> ((0 : Int32) &&& 31) = x := by
  apply Int32.toInt_inj.mp; rw [c_ishr x 0 0 rfl]; simp
theorem shl0 (x : Int32) : x <<< ((0 : Int32) &&& 31) = x := by
  have e : (0 : Int32) &&& 31 = 0 := by decide
  have f := c_ishl x 0 0 rfl
  have r := rng32 (x <<< ((0 : Int32) &&& 31)); have r2 := rng32 x
  rw [show ((2 ^ 0 : Nat) : Int) = 1 from rfl, Int.mul_one] at f
  apply Int32.toInt_inj.mp; omega
theorem byt2 (x : Int32) : x.toInt8.toInt32.toInt8.toInt32 = x.toInt8.toInt32 := by simp
theorem sub0 (x : Int32) : x - 0 = x := by simp
theorem ofn_succ (i : Nat) : Int32.ofNat i + Int32.ofInt 1 = Int32.ofNat (i + 1) := (Int32.ofNat_add i 1).symm
theorem cpy_res (bs cs : List Value) (d : Value) : ((bs ++ List.replicate cs.length d).take bs.length ++ ((List.range cs.length).map fun i => cs.getD (0 + i) d) ++ (bs ++ List.replicate cs.length d).drop (bs.length + cs.length)) = bs ++ cs := by
  have e1 : (bs ++ List.replicate cs.length d).take bs.length = bs := by simp
  have e2 : (bs ++ List.replicate cs.length d).drop (bs.length + cs.length) = [] := List.drop_eq_nil_of_le (by simp)
  have e3 : ((List.range cs.length).map fun i => cs.getD (0 + i) d) = cs := by
    apply List.ext_getElem?
    intro i
    by_cases h : i < cs.length
    · simp [h]
    · simp [h, List.getElem?_eq_none (Nat.le_of_not_lt h)]
  rw [e1, e2, e3]; simp
def bytV (c : Int32) : Value := .int c.toInt8.toInt32
theorem tk_succ {α : Type} (cs : List Int32) (f : Int32 → α) (i : Nat) (h : i < cs.length) : (cs.take (i + 1)).map f = (cs.take i).map f ++ [f (cs.getD i 0)] := by
  rw [List.take_add_one, List.map_append]; simp [h]
theorem set_app (l : List Value) (d x : Value) (i : Nat) (h : l.length = i) : (l ++ [d]).set i x = l ++ [x] := by subst h; simp
theorem getD_mem (cs : List Int32) (i : Nat) (h : i < cs.length) : cs.getD i 0 ∈ cs := by simp [h]
theorem getD_map (cs : List Int32) (i : Nat) (h : i < cs.length) : (cs.map Value.int).getD i (.int 0) = .int (cs.getD i 0) := by simp [h]
theorem getD_mapB (cs : List Int32) (i : Nat) (h : i < cs.length) : (cs.map bytV).getD i (.int 0) = bytV (cs.getD i 0) := by simp [h]
theorem cod0 (x : Int32) : XT.ushr (x - x) 31 = 0 := by
  have e : x - x = 0 := by simp
  rw [e]; decide
/-- a Latin-1 String: the object a, its array b, its bytes -/
def Str (Z : State) (h : Heap) (a b : Addr) (bs : List Value) : Prop := Exa Z h a "java/lang/String" ∧ Fld Z h a "java/lang/String" "coder" "B" (.int 0) ∧ Fld Z h a "java/lang/String" "value" "[B" (.ref b) ∧ ∃ k, Arv Z h b k .byte (Int32.ofNat bs.length) bs (.int 0)
theorem Str.ext {Z : State} {h h' : Heap} {a b : Addr} {bs : List Value} (F : Str Z h a b bs) (E : Ext h h') : Str Z h' a b bs := by obtain ⟨h1, h2, h3, k, h4⟩ := F; exact ⟨h1.ext E, h2.ext E, h3.ext E, k, h4.ext E⟩
theorem Str.keep {Z : State} {h h' : Heap} {a b : Addr} {bs : List Value} {ws : List Addr} (F : Str Z h a b bs) (K : Keep h h' ws) (q : a ∉ ws) (r : b ∉ ws) : Str Z h' a b bs := by obtain ⟨h1, h2, h3, k, h4⟩ := F; exact ⟨h1.keep K, h2.keep K q, h3.keep K q, k, h4.keep K r⟩
/-- a StringBuilder: the object a, its array b of cap bytes, its bytes so far -/
def Sbd (Z : State) (h : Heap) (a b : Addr) (cap : Nat) (bs : List Value) : Prop := Exa Z h a "java/lang/StringBuilder" ∧ Fld Z h a "java/lang/AbstractStringBuilder" "value" "[B" (.ref b) ∧ Fld Z h a "java/lang/AbstractStringBuilder" "coder" "B" (.int 0) ∧ Fld Z h a "java/lang/AbstractStringBuilder" "count" "I" (.int (Int32.ofNat bs.length)) ∧ ∃ k, Arv Z h b k .byte (Int32.ofNat cap) bs (.int 0)
theorem Sbd.ext {Z : State} {h h' : Heap} {a b : Addr} {cap : Nat} {bs : List Value} (F : Sbd Z h a b cap bs) (E : Ext h h') : Sbd Z h' a b cap bs := by obtain ⟨h1, h2, h3, h4, k, h5⟩ := F; exact ⟨h1.ext E, h2.ext E, h3.ext E, h4.ext E, k, h5.ext E⟩
theorem Sbd.keep {Z : State} {h h' : Heap} {a b : Addr} {cap : Nat} {bs : List Value} {ws : List Addr} (F : Sbd Z h a b cap bs) (K : Keep h h' ws) (q : a ∉ ws) (r : b ∉ ws) : Sbd Z h' a b cap bs := by obtain ⟨h1, h2, h3, h4, k, h5⟩ := F; exact ⟨h1.keep K, h2.keep K q, h3.keep K q, h4.keep K q, k, h5.keep K r⟩
theorem Str.lt {Z : State} {h : Heap} {a b : Addr} {bs : List Value} (F : Str Z h a b bs) : a < h.size := F.1.lt
theorem Str.ltb {Z : State} {h : Heap} {a b : Addr} {bs : List Value} (F : Str Z h a b bs) : b < h.size := by obtain ⟨-, -, -, k, h4⟩ := F; exact h4.lt
theorem Sbd.lt {Z : State} {h : Heap} {a b : Addr} {cap : Nat} {bs : List Value} (F : Sbd Z h a b cap bs) : a < h.size := F.1.lt
theorem Sbd.ltb {Z : State} {h : Heap} {a b : Addr} {cap : Nat} {bs : List Value} (F : Sbd Z h a b cap bs) : b < h.size := by obtain ⟨-, -, -, -, k, h4⟩ := F; exact h4.lt
def dOnes : List Value := (List.range 100).map fun j => .int (Int32.ofNat (48 + j % 10))
def dTens : List Value := (List.range 100).map fun j => .int (Int32.ofNat (48 + j / 10))
theorem dOnes_at {r : Nat} (h : r < 100) : dOnes.getD r (.int 0) = .int (Int32.ofNat (48 + r % 10)) := by simp [dOnes, h]
theorem dTens_at {r : Nat} (h : r < 100) : dTens.getD r (.int 0) = .int (Int32.ofNat (48 + r / 10)) := by simp [dTens, h]
def dg (N k : Nat) : Value := .int (Int32.ofNat (48 + N / 10 ^ k % 10))
theorem dig_b {e : Nat} (h : e < 10) : (Int32.ofNat (48 + e)).toInt8.toInt32 = Int32.ofNat (48 + e) := by
  have : e = 0 ∨ e = 1 ∨ e = 2 ∨ e = 3 ∨ e = 4 ∨ e = 5 ∨ e = 6 ∨ e = 7 ∨ e = 8 ∨ e = 9 := by omega
  rcases this with rfl | rfl | rfl | rfl | rfl | rfl | rfl | rfl | rfl | rfl <;> decide
theorem ofn_pred (k : Nat) : Int32.ofNat (k + 1) + Int32.ofInt (-1) = Int32.ofNat k := by
  rw [Int32.ofNat_add]; show Int32.ofNat k + 1 + -1 = _; rw [Int32.add_assoc]; simp
theorem set_app2 (bs Ld : List Value) (j n : Nat) (x : Value) (h : n = bs.length + j) : (bs ++ Ld).set n x = bs ++ Ld.set j x := by subst h; simp [List.set_append]
theorem ng_int {M : Nat} (h : M < 2147483648) : (-(Int32.ofNat M)).toInt = -(M : Int) := by
  have e := c_ineg (Int32.ofNat M); have r := rng32 (-(Int32.ofNat M)); rw [ofn_int h] at e; omega
theorem ng_div {M : Nat} (h : M < 2147483648) : -(Int32.ofNat M) / 100 = -(Int32.ofNat (M / 100)) := by
  apply Int32.toInt_inj.mp
  have e := c_idiv (-(Int32.ofNat M)) 100 100 rfl (by decide)
  rw [ng_int h] at e
  rw [ng_int (by omega)]
  by_cases h0 : M = 0
  · subst h0; have := e.1 (by decide); rw [this]; decide
  · rw [e.2 (by omega)]; omega
theorem ng_rem {M : Nat} (h : M < 2147483648) : -(Int32.ofNat (M / 100)) * 100 - -(Int32.ofNat M) = Int32.ofNat (M % 100) := by
  apply Int32.toInt_inj.mp
  have e1 := c_imul (-(Int32.ofNat (M / 100))) 100
  have e2 := c_isub (-(Int32.ofNat (M / 100)) * 100) (-(Int32.ofNat M))
  have r1 := rng32 (-(Int32.ofNat (M / 100)) * 100); have r2 := rng32 (-(Int32.ofNat (M / 100)) * 100 - -(Int32.ofNat M))
  rw [ng_int (by omega), show (100 : Int32).toInt = 100 from rfl] at e1
  rw [ng_int h] at e2
  rw [ofn_int (by omega)]; omega
theorem ng_lt {M : Nat} {k : Int32} {K : Int} (h : M < 2147483648) (hk : k.toInt = K) (q : -(M : Int) < K) : -(Int32.ofNat M) < k := by rw [Int32.lt_iff_toInt_lt, ng_int h, hk]; exact q
theorem ng_nlt {M : Nat} {k : Int32} {K : Int} (h : M < 2147483648) (hk : k.toInt = K) (q : K ≤ -(M : Int)) : ¬ -(Int32.ofNat M) < k := by rw [Int32.lt_iff_toInt_lt, ng_int h, hk]; omega
theorem ng_gt {M : Nat} {k : Int32} {K : Int} (h : M < 2147483648) (hk : k.toInt = K) (q : K < -(M : Int)) : k < -(Int32.ofNat M) := by rw [Int32.lt_iff_toInt_lt, ng_int h, hk]; exact q
theorem ng_ngt {M : Nat} {k : Int32} {K : Int} (h : M < 2147483648) (hk : k.toInt = K) (q : -(M : Int) ≤ K) : ¬ k < -(Int32.ofNat M) := by rw [Int32.lt_iff_toInt_lt, ng_int h, hk]; omega
def nd (N : Nat) : Nat := if N < 10 then 1 else if N < 100 then 2 else if N < 1000 then 3 else if N < 10000 then 4 else if N < 100000 then 5 else if N < 1000000 then 6 else if N < 10000000 then 7 else if N < 100000000 then 8 else if N < 1000000000 then 9 else 10
def digs (N : Nat) : List Value := (List.range (nd N)).map fun j => dg N (nd N - 1 - j)
theorem nd_cases {N : Nat} (h : N < 2147483648) : (0 ≤ N ∧ N < 10) ∨ (10 ≤ N ∧ N < 100) ∨ (100 ≤ N ∧ N < 1000) ∨ (1000 ≤ N ∧ N < 10000) ∨ (10000 ≤ N ∧ N < 100000) ∨ (100000 ≤ N ∧ N < 1000000) ∨ (1000000 ≤ N ∧ N < 10000000) ∨ (10000000 ≤ N ∧ N < 100000000) ∨ (100000000 ≤ N ∧ N < 1000000000) ∨ (1000000000 ≤ N ∧ N < 2147483648) := by omega
theorem digs_len (N : Nat) : (digs N).length = nd N := by simp [digs]
theorem digs_at {N k : Nat} (h : k < nd N) : (digs N).getD k (.int 0) = dg N (nd N - 1 - k) := by simp [digs, h]
theorem nd_1 {N : Nat} (hlo : 0 ≤ N) (hhi : N < 10) : nd N = 1 := by unfold nd;  rw [if_pos (by omega)]
theorem digs_1 {N : Nat} (hlo : 0 ≤ N) (hhi : N < 10) : digs N = [dg N 0] := by unfold digs; rw [nd_1 hlo hhi]; rfl
theorem nd_2 {N : Nat} (hlo : 10 ≤ N) (hhi : N < 100) : nd N = 2 := by unfold nd; rw [if_neg (by omega)]; rw [if_pos (by omega)]
theorem digs_2 {N : Nat} (hlo : 10 ≤ N) (hhi : N < 100) : digs N = [dg N 1, dg N 0] := by unfold digs; rw [nd_2 hlo hhi]; rfl
theorem nd_3 {N : Nat} (hlo : 100 ≤ N) (hhi : N < 1000) : nd N = 3 := by unfold nd; rw [if_neg (by omega)]; rw [if_neg (by omega)]; rw [if_pos (by omega)]
theorem digs_3 {N : Nat} (hlo : 100 ≤ N) (hhi : N < 1000) : digs N = [dg N 2, dg N 1, dg N 0] := by unfold digs; rw [nd_3 hlo hhi]; rfl
theorem nd_4 {N : Nat} (hlo : 1000 ≤ N) (hhi : N < 10000) : nd N = 4 := by unfold nd; rw [if_neg (by omega)]; rw [if_neg (by omega)]; rw [if_neg (by omega)]; rw [if_pos (by omega)]
theorem digs_4 {N : Nat} (hlo : 1000 ≤ N) (hhi : N < 10000) : digs N = [dg N 3, dg N 2, dg N 1, dg N 0] := by unfold digs; rw [nd_4 hlo hhi]; rfl
theorem nd_5 {N : Nat} (hlo : 10000 ≤ N) (hhi : N < 100000) : nd N = 5 := by unfold nd; rw [if_neg (by omega)]; rw [if_neg (by omega)]; rw [if_neg (by omega)]; rw [if_neg (by omega)]; rw [if_pos (by omega)]
theorem digs_5 {N : Nat} (hlo : 10000 ≤ N) (hhi : N < 100000) : digs N = [dg N 4, dg N 3, dg N 2, dg N 1, dg N 0] := by unfold digs; rw [nd_5 hlo hhi]; rfl
theorem nd_6 {N : Nat} (hlo : 100000 ≤ N) (hhi : N < 1000000) : nd N = 6 := by unfold nd; rw [if_neg (by omega)]; rw [if_neg (by omega)]; rw [if_neg (by omega)]; rw [if_neg (by omega)]; rw [if_neg (by omega)]; rw [if_pos (by omega)]
theorem digs_6 {N : Nat} (hlo : 100000 ≤ N) (hhi : N < 1000000) : digs N = [dg N 5, dg N 4, dg N 3, dg N 2, dg N 1, dg N 0] := by unfold digs; rw [nd_6 hlo hhi]; rfl
theorem nd_7 {N : Nat} (hlo : 1000000 ≤ N) (hhi : N < 10000000) : nd N = 7 := by unfold nd; rw [if_neg (by omega)]; rw [if_neg (by omega)]; rw [if_neg (by omega)]; rw [if_neg (by omega)]; rw [if_neg (by omega)]; rw [if_neg (by omega)]; rw [if_pos (by omega)]
theorem digs_7 {N : Nat} (hlo : 1000000 ≤ N) (hhi : N < 10000000) : digs N = [dg N 6, dg N 5, dg N 4, dg N 3, dg N 2, dg N 1, dg N 0] := by unfold digs; rw [nd_7 hlo hhi]; rfl
theorem nd_8 {N : Nat} (hlo : 10000000 ≤ N) (hhi : N < 100000000) : nd N = 8 := by unfold nd; rw [if_neg (by omega)]; rw [if_neg (by omega)]; rw [if_neg (by omega)]; rw [if_neg (by omega)]; rw [if_neg (by omega)]; rw [if_neg (by omega)]; rw [if_neg (by omega)]; rw [if_pos (by omega)]
theorem digs_8 {N : Nat} (hlo : 10000000 ≤ N) (hhi : N < 100000000) : digs N = [dg N 7, dg N 6, dg N 5, dg N 4, dg N 3, dg N 2, dg N 1, dg N 0] := by unfold digs; rw [nd_8 hlo hhi]; rfl
theorem nd_9 {N : Nat} (hlo : 100000000 ≤ N) (hhi : N < 1000000000) : nd N = 9 := by unfold nd; rw [if_neg (by omega)]; rw [if_neg (by omega)]; rw [if_neg (by omega)]; rw [if_neg (by omega)]; rw [if_neg (by omega)]; rw [if_neg (by omega)]; rw [if_neg (by omega)]; rw [if_neg (by omega)]; rw [if_pos (by omega)]
theorem digs_9 {N : Nat} (hlo : 100000000 ≤ N) (hhi : N < 1000000000) : digs N = [dg N 8, dg N 7, dg N 6, dg N 5, dg N 4, dg N 3, dg N 2, dg N 1, dg N 0] := by unfold digs; rw [nd_9 hlo hhi]; rfl
theorem nd_10 {N : Nat} (hlo : 1000000000 ≤ N) (hhi : N < 2147483648) : nd N = 10 := by unfold nd; rw [if_neg (by omega)]; rw [if_neg (by omega)]; rw [if_neg (by omega)]; rw [if_neg (by omega)]; rw [if_neg (by omega)]; rw [if_neg (by omega)]; rw [if_neg (by omega)]; rw [if_neg (by omega)]; rw [if_neg (by omega)];
theorem digs_10 {N : Nat} (hlo : 1000000000 ≤ N) (hhi : N < 2147483648) : digs N = [dg N 9, dg N 8, dg N 7, dg N 6, dg N 5, dg N 4, dg N 3, dg N 2, dg N 1, dg N 0] := by unfold digs; rw [nd_10 hlo hhi]; rfl
theorem nd_le {N : Nat} (h : N < 2147483648) : 1 ≤ nd N ∧ nd N ≤ 10 := by
  rcases nd_cases h with ⟨q1, q2⟩ | ⟨q1, q2⟩ | ⟨q1, q2⟩ | ⟨q1, q2⟩ | ⟨q1, q2⟩ | ⟨q1, q2⟩ | ⟨q1, q2⟩ | ⟨q1, q2⟩ | ⟨q1, q2⟩ | ⟨q1, q2⟩
  · rw [nd_1 q1 q2]; exact ⟨by decide, by decide⟩
  · rw [nd_2 q1 q2]; exact ⟨by decide, by decide⟩
  · rw [nd_3 q1 q2]; exact ⟨by decide, by decide⟩
  · rw [nd_4 q1 q2]; exact ⟨by decide, by decide⟩
  · rw [nd_5 q1 q2]; exact ⟨by decide, by decide⟩
  · rw [nd_6 q1 q2]; exact ⟨by decide, by decide⟩
  · rw [nd_7 q1 q2]; exact ⟨by decide, by decide⟩
  · rw [nd_8 q1 q2]; exact ⟨by decide, by decide⟩
  · rw [nd_9 q1 q2]; exact ⟨by decide, by decide⟩
  · rw [nd_10 q1 q2]; exact ⟨by decide, by decide⟩
theorem m8 (x : Int32) : ∃ c, c < 256 ∧ x &&& 255 = Int32.ofNat c := by
  have e := c_mask x 255 8 (by decide) rfl
  rw [show ((2 ^ 8 : Nat) : Int) = 256 from rfl] at e
  refine ⟨(x.toInt % 256).toNat, by omega, ?_⟩
  apply Int32.toInt_inj.mp; rw [e, ofn_int (by omega)]; omega
theorem m2 (x : Int32) : ∃ c, c < 4 ∧ x &&& 3 = Int32.ofNat c := by
  have e := c_mask x 3 2 (by decide) rfl
  rw [show ((2 ^ 2 : Nat) : Int) = 4 from rfl] at e
  refine ⟨(x.toInt % 4).toNat, by omega, ?_⟩
  apply Int32.toInt_inj.mp; rw [e, ofn_int (by omega)]; omega
theorem m31 (x : Int32) : ∃ c, c < 2147483648 ∧ x &&& 2147483647 = Int32.ofNat c := by
  have e := c_mask x 2147483647 31 (by decide) rfl
  rw [show ((2 ^ 31 : Nat) : Int) = 2147483648 from rfl] at e
  refine ⟨(x.toInt % 2147483648).toNat, by omega, ?_⟩
  apply Int32.toInt_inj.mp; rw [e, ofn_int (by omega)]; omega
theorem i2c_n0 : ∀ t : Fin 256, (Int32.ofNat t.1).toUInt32.toUInt16.toUInt32.toInt32 = Int32.ofNat t.1 ∧ (Int32.ofNat t.1).toInt8.toInt32 &&& 255 = Int32.ofNat t.1 ∧ ¬ (255 : Int32) < Int32.ofNat t.1 ∧ Int32.ofNat t.1 &&& 255 = Int32.ofNat t.1 ∧ fits .char (.int (Int32.ofNat t.1)) = true := by decide +kernel
theorem i2c_n {c : Nat} (h : c < 256) : (Int32.ofNat c).toUInt32.toUInt16.toUInt32.toInt32 = Int32.ofNat c := (i2c_n0 ⟨c, h⟩).1
theorem bm {c : Nat} (h : c < 256) : (Int32.ofNat c).toInt8.toInt32 &&& 255 = Int32.ofNat c := (i2c_n0 ⟨c, h⟩).2.1
theorem c255 {c : Nat} (h : c < 256) : ¬ (255 : Int32) < Int32.ofNat c := (i2c_n0 ⟨c, h⟩).2.2.1
theorem m255 {c : Nat} (h : c < 256) : Int32.ofNat c &&& 255 = Int32.ofNat c := (i2c_n0 ⟨c, h⟩).2.2.2.1
theorem fit255 {c : Nat} (h : c < 256) : fits .char (.int (Int32.ofNat c)) = true := (i2c_n0 ⟨c, h⟩).2.2.2.2
theorem ofn_div {N P : Nat} (hN : N < 2147483648) (h0 : 0 < P) (hP : P < 2147483648) : Int32.ofNat N / Int32.ofNat P = Int32.ofNat (N / P) := by
  apply Int32.toInt_inj.mp
  have e := c_idiv (Int32.ofNat N) (Int32.ofNat P) P (ofn_int hP) (fun q => by have := congrArg Int32.toInt q; rw [ofn_int hP, show (-1 : Int32).toInt = -1 from rfl] at this; omega)
  rw [ofn_int hN] at e
  have hd : N / P ≤ N := Nat.div_le_self _ _
  rw [ofn_int (by omega), e.1 (by omega)]; rfl
theorem ofn_rem10 {M : Nat} (hM : M < 2147483648) : Int32.ofNat M - Int32.ofNat M / 10 * 10 = Int32.ofNat (M % 10) := by
  have e := ofn_div hM (P := 10) (by decide) (by decide)
  rw [show Int32.ofNat 10 = (10 : Int32) from rfl] at e
  rw [e, show (10 : Int32) = Int32.ofNat 10 from rfl, ← Int32.ofNat_mul, ofn_sub (by omega) hM]
  congr 1; omega
theorem wS_of {Z : State} {a0 : Array Value} (hw : ∀ d ∈ tables_1, d.before a0 Z = true) : ∀ a ∈ Bundle.stringAtoms, a.before a0 Z = true := by
  intro a ha
  simp only [Bundle.stringAtoms, Bundle.sN, List.mem_cons, List.not_mem_nil, or_false] at ha
  rcases ha with rfl | rfl | rfl | rfl | rfl | rfl | rfl
  · exact (hw _ (mm 17 rfl))
  · exact (hw _ (mm 16 rfl))
  · exact (hw _ (mm 30 rfl))
  · exact (hw _ (mm 31 rfl))
  · exact (hw _ (mm 32 rfl))
  · exact (hw _ (mm 33 rfl))
  · exact (hw _ (mm 34 rfl))
theorem ne_or {x b b' : Addr} {n : Nat} (h : x ≠ b) (lt : x < n) (q : b' = b ∨ n ≤ b') : x ≠ b' := q.elim (fun e => e ▸ h) (fun r => Nat.ne_of_lt (Nat.lt_of_lt_of_le lt r))
def byt (c : Nat) : Int32 := (Int32.ofNat c).toInt8.toInt32
theorem byt_int {c : Nat} (h : c < 2147483648) : (byt c).toInt % 256 = (c % 256 : Nat) := by
  unfold byt
  rw [Int8.toInt_toInt32, Int32.toInt_toInt8, ofn_int h]
  simp only [Int.bmod]; split <;> omega
theorem byt_mask {c : Nat} (h : c < 2147483648) : byt c &&& 255 = Int32.ofNat (c % 256) := by
  apply Int32.toInt_inj.mp
  rw [c_mask _ 255 8 (by decide) rfl, ofn_int (by omega), ← byt_int h]; rfl
theorem shr8 {c : Nat} (h : c < 2147483648) : Int32.ofNat c >>> ((8 : Int32) &&& 31) = Int32.ofNat (c / 256) := by
  apply Int32.toInt_inj.mp
  rw [c_ishr _ 8 8 rfl, ofn_int h, ofn_int (by omega)]; rfl
theorem shl8 {c : Nat} (h : c < 256) : Int32.ofNat c <<< ((8 : Int32) &&& 31) = Int32.ofNat (c * 256) := by
  rw [shlm (m := 256) (by decide), show (256 : Int32) = Int32.ofNat 256 from rfl, ← Int32.ofNat_mul]
theorem or8 {a b : Nat} (h : a < 256) : Int32.ofNat a ||| Int32.ofNat (b * 256) = Int32.ofNat (a + b * 256) := by
  have e : b * 256 ||| a = b * 256 + a := by
    have := Nat.shiftLeft_add_eq_or_of_lt (i := 8) (b := a) (by omega) b
    rw [Nat.shiftLeft_eq] at this; exact this.symm
  apply Int32.toBitVec_inj.mp
  show BitVec.ofNat 32 a ||| BitVec.ofNat 32 (b * 256) = BitVec.ofNat 32 (a + b * 256)
  rw [← BitVec.ofNat_or, Nat.or_comm, e, Nat.add_comm]
theorem i2c_w {c : Nat} (h : c < 65536) : (Int32.ofNat c).toUInt32.toUInt16.toUInt32.toInt32 = Int32.ofNat c := by
  apply Int32.toBitVec_inj.mp
  simp only [Int32.toBitVec_ofNat', UInt32.toBitVec_toInt32, UInt16.toBitVec_toUInt32, UInt32.toBitVec_toUInt16, Int32.toBitVec_toUInt32]
  apply BitVec.eq_of_toNat_eq
  simp only [BitVec.toNat_setWidth, BitVec.toNat_ofNat]
  omega
theorem shr1 {n : Nat} (h : n < 1073741824) : Int32.ofNat (n * 2) >>> ((1 : Int32) &&& 31) = Int32.ofNat n := by
  apply Int32.toInt_inj.mp
  rw [c_ishr _ 1 1 rfl, ofn_int (by omega), ofn_int (by omega)]
  show ((n * 2 : Nat) : Int) / 2 = n; omega
theorem shl1 {n : Nat} (h : n < 1073741824) : Int32.ofNat n <<< ((1 : Int32) &&& 31) = Int32.ofNat (n * 2) := by
  rw [shlm (m := 2) (by decide), show (2 : Int32) = Int32.ofNat 2 from rfl, ← Int32.ofNat_mul]
theorem shrK {n k : Nat} (hk : k = 0 ∨ k = 1) (h : n < 1073741824) : Int32.ofNat (n * 2 ^ k) >>> (Int32.ofNat k &&& 31) = Int32.ofNat n := by
  rcases hk with rfl | rfl
  · rw [Nat.pow_zero, Nat.mul_one]; exact shr0 _
  · rw [Nat.pow_one]; exact shr1 h
theorem shlK {n k : Nat} (hk : k = 0 ∨ k = 1) (h : n < 1073741824) : Int32.ofNat n <<< (Int32.ofNat k &&& 31) = Int32.ofNat (n * 2 ^ k) := by
  rcases hk with rfl | rfl
  · rw [Nat.pow_zero, Nat.mul_one]; exact shl0 _
  · rw [Nat.pow_one]; exact shl1 h
def enc (k c : Nat) : List Value := if k = 0 then [.int (byt c)] else [.int (byt c), .int (byt (c / 256))]
def encS (k : Nat) (cs : List Nat) : List Value := cs.flatMap (enc k)
theorem encS_app (k : Nat) (xs ys : List Nat) : encS k (xs ++ ys) = encS k xs ++ encS k ys := List.flatMap_append
theorem encS_cons (k c : Nat) (ys : List Nat) : encS k (c :: ys) = enc k c ++ encS k ys := rfl
theorem encS_len0 (cs : List Nat) : (encS 0 cs).length = cs.length := by
  induction cs with
  | nil => rfl
  | cons c r ih => rw [encS_cons, List.length_append, ih]; show 1 + r.length = r.length + 1; omega
theorem encS_len1 (cs : List Nat) : (encS 1 cs).length = cs.length * 2 := by
  induction cs with
  | nil => rfl
  | cons c r ih => rw [encS_cons, List.length_append, ih]; show 2 + r.length * 2 = (r.length + 1) * 2; omega
theorem encS_len {k : Nat} (hk : k = 0 ∨ k = 1) (cs : List Nat) : (encS k cs).length = cs.length * 2 ^ k := by
  rcases hk with rfl | rfl
  · rw [encS_len0]; omega
  · rw [encS_len1]
theorem encS0_at : ∀ (cs : List Nat) (i : Nat), i < cs.length → (encS 0 cs).getD i (.int 0) = .int (byt (cs.getD i 0))
  | c :: r, 0, _ => rfl
  | c :: r, i + 1, h => by
    have := encS0_at r i (by simpa using h)
    exact this
theorem encS1_at : ∀ (cs : List Nat) (i : Nat), i < cs.length → (encS 1 cs).getD (i * 2) (.int 0) = .int (byt (cs.getD i 0)) ∧ (encS 1 cs).getD (i * 2 + 1) (.int 0) = .int (byt (cs.getD i 0 / 256))
  | c :: r, 0, _ => ⟨rfl, rfl⟩
  | c :: r, i + 1, h => by
    have := encS1_at r i (by simpa using h)
    rw [show (i + 1) * 2 = i * 2 + 1 + 1 by omega]
    exact this
theorem put2 (L : List Value) (n : Nat) (x y : Value) (h : L.length = n) : ((L ++ [Value.int 0, Value.int 0]).set n x).set (n + 1) y = L ++ [x, y] := by
  subst h; simp [List.set_append]
theorem getc {c : Nat} (h : c < 65536) : ((byt c &&& 255) <<< ((0 : Int32) &&& 31) ||| (byt (c / 256) &&& 255) <<< ((8 : Int32) &&& 31)) = Int32.ofNat c := by
  rw [byt_mask (by omega), byt_mask (by omega), shl0, shl8 (by omega), or8 (by omega)]
  congr 1; omega
/-- a String of the coder k -/
def StrK (Z : State) (h : Heap) (a b : Addr) (k : Nat) (cs : List Nat) : Prop := Exa Z h a "java/lang/String" ∧ Fld Z h a "java/lang/String" "coder" "B" (.int (Int32.ofNat k)) ∧ Fld Z h a "java/lang/String" "value" "[B" (.ref b) ∧ ∃ kb, Arv Z h b kb .byte (Int32.ofNat (cs.length * 2 ^ k)) (encS k cs) (.int 0)
theorem StrK.ext {Z : State} {h h' : Heap} {a b : Addr} {k : Nat} {cs : List Nat} (F : StrK Z h a b k cs) (E : Ext h h') : StrK Z h' a b k cs := by obtain ⟨h1, h2, h3, kb, h4⟩ := F; exact ⟨h1.ext E, h2.ext E, h3.ext E, kb, h4.ext E⟩
theorem StrK.keep {Z : State} {h h' : Heap} {a b : Addr} {k : Nat} {cs : List Nat} {ws : List Addr} (F : StrK Z h a b k cs) (K : Keep h h' ws) (q : a ∉ ws) (r : b ∉ ws) : StrK Z h' a b k cs := by obtain ⟨h1, h2, h3, kb, h4⟩ := F; exact ⟨h1.keep K, h2.keep K q, h3.keep K q, kb, h4.keep K r⟩
theorem StrK.lt {Z : State} {h : Heap} {a b : Addr} {k : Nat} {cs : List Nat} (F : StrK Z h a b k cs) : a < h.size := F.1.lt
theorem StrK.ltb {Z : State} {h : Heap} {a b : Addr} {k : Nat} {cs : List Nat} (F : StrK Z h a b k cs) : b < h.size := by obtain ⟨-, -, -, kb, h4⟩ := F; exact h4.lt
/-- a StringBuilder of the coder k -/
def SbdK (Z : State) (h : Heap) (a b : Addr) (cap k : Nat) (cs : List Nat) : Prop := Exa Z h a "java/lang/StringBuilder" ∧ Fld Z h a "java/lang/AbstractStringBuilder" "value" "[B" (.ref b) ∧ Fld Z h a "java/lang/AbstractStringBuilder" "coder" "B" (.int (Int32.ofNat k)) ∧ Fld Z h a "java/lang/AbstractStringBuilder" "count" "I" (.int (Int32.ofNat cs.length)) ∧ Fld Z h a "java/lang/AbstractStringBuilder" "maybeLatin1" "Z" (.int 0) ∧ ∃ kb, Arv Z h b kb .byte (Int32.ofNat (cap * 2 ^ k)) (encS k cs) (.int 0)
theorem SbdK.ext {Z : State} {h h' : Heap} {a b : Addr} {cap k : Nat} {cs : List Nat} (F : SbdK Z h a b cap k cs) (E : Ext h h') : SbdK Z h' a b cap k cs := by obtain ⟨h1, h2, h3, h4, h5, kb, h6⟩ := F; exact ⟨h1.ext E, h2.ext E, h3.ext E, h4.ext E, h5.ext E, kb, h6.ext E⟩
theorem SbdK.keep {Z : State} {h h' : Heap} {a b : Addr} {cap k : Nat} {cs : List Nat} {ws : List Addr} (F : SbdK Z h a b cap k cs) (K : Keep h h' ws) (q : a ∉ ws) (r : b ∉ ws) : SbdK Z h' a b cap k cs := by obtain ⟨h1, h2, h3, h4, h5, kb, h6⟩ := F; exact ⟨h1.keep K, h2.keep K q, h3.keep K q, h4.keep K q, h5.keep K q, kb, h6.keep K r⟩
theorem SbdK.lt {Z : State} {h : Heap} {a b : Addr} {cap k : Nat} {cs : List Nat} (F : SbdK Z h a b cap k cs) : a < h.size := F.1.lt
theorem SbdK.ltb {Z : State} {h : Heap} {a b : Addr} {cap k : Nat} {cs : List Nat} (F : SbdK Z h a b cap k cs) : b < h.size := by obtain ⟨-, -, -, -, -, kb, h4⟩ := F; exact h4.lt
/-- the coder that a text of its own takes -/
def kd (cs : List Nat) : Nat := if cs.all (fun c => decide (c < 256)) then 0 else 1
theorem kd01 (cs : List Nat) : kd cs = 0 ∨ kd cs = 1 := by unfold kd; split; exact Or.inl rfl; exact Or.inr rfl
theorem kd_app (xs ys : List Nat) : kd (xs ++ ys) = max (kd xs) (kd ys) := by
  unfold kd; rw [List.all_append]
  cases xs.all (fun c => decide (c < 256)) <;> cases ys.all (fun c => decide (c < 256)) <;> rfl
theorem kd0 {cs : List Nat} (h : kd cs = 0) : ∀ c ∈ cs, c < 256 := by
  unfold kd at h; split at h
  · rename_i q; exact fun c hc => of_decide_eq_true (List.all_eq_true.mp q c hc)
  · cases h
theorem kd_of {cs : List Nat} (h : ∀ c ∈ cs, c < 256) : kd cs = 0 := by
  unfold kd; rw [if_pos (List.all_eq_true.mpr fun c hc => decide_eq_true (h c hc))]
theorem getD_memN (cs : List Nat) (i : Nat) (h : i < cs.length) : cs.getD i 0 ∈ cs := by simp [h]
theorem getD_mapN (cs : List Nat) (i : Nat) (h : i < cs.length) : (cs.map fun c => Value.int (Int32.ofNat c)).getD i (.int 0) = .int (Int32.ofNat (cs.getD i 0)) := by simp [h]
theorem tk_succN (cs : List Nat) (i : Nat) (h : i < cs.length) : cs.take (i + 1) = cs.take i ++ [cs.getD i 0] := by rw [List.take_add_one]; simp [h]
theorem kd1_of {cs : List Nat} {j : Nat} (h : j < cs.length) (q : 256 ≤ cs.getD j 0) : kd cs = 1 := by
  rcases kd01 cs with e | e
  · have := kd0 e _ (getD_memN cs j h); omega
  · exact e
theorem cod1 {n : Nat} (h : 0 < n) (hn : n < 1073741824) : XT.ushr (Int32.ofNat n - Int32.ofNat (n * 2)) 31 = 1 := by
  have e := c_isub (Int32.ofNat n) (Int32.ofNat (n * 2))
  have r := rng32 (Int32.ofNat n - Int32.ofNat (n * 2))
  rw [ofn_int (by omega), ofn_int (by omega)] at e
  apply Int32.toInt_inj.mp
  have f := c_iushr (Int32.ofNat n - Int32.ofNat (n * 2)) 31 31 rfl (by decide)
  refine f.trans ?_
  show _ = (1 : Int)
  omega
theorem codK {n k : Nat} (hk : k = 0 ∨ k = 1) (h : 0 < n) (hn : n < 1073741824) : (XT.ushr (Int32.ofNat n - Int32.ofNat (n * 2 ^ k)) 31).toInt8.toInt32 = Int32.ofNat k := by
  rcases hk with rfl | rfl
  · rw [Nat.pow_zero, Nat.mul_one, cod0]; rfl
  · rw [Nat.pow_one, cod1 h hn]; rfl
theorem ofk8 {k : Nat} (hk : k = 0 ∨ k = 1) : (Int32.ofNat k).toInt8.toInt32 = Int32.ofNat k := by rcases hk with rfl | rfl <;> rfl
theorem or_nn {x y : Int32} (hx : ¬ x < 0) (hy : ¬ y < 0) : ¬ (x ||| y) < 0 := by
  have e : ∀ z : Int32, z < 0 ↔ z.toBitVec.msb = true := fun z => by
    rw [Int32.lt_iff_toInt_lt, BitVec.msb_eq_toInt]; exact (decide_eq_true_iff).symm
  rw [e] at hx hy ⊢
  rw [Int32.toBitVec_or, BitVec.msb_or]
  simp only [Bool.not_eq_true] at hx hy
  rw [hx, hy]; decide
theorem ofk_ne {k k' : Nat} (hk : k = 0 ∨ k = 1) (hk' : k' = 0 ∨ k' = 1) (h : k ≠ k') : ¬ Int32.ofNat k = Int32.ofNat k' := ofn_ne h (by omega) (by omega)
theorem byt_inj {x y : Nat} (hx : x < 65536) (hy : y < 65536) (h : byt x = byt y) : x % 256 = y % 256 := by
  have e := (byt_mask (c := x) (by omega)).symm.trans ((congrArg (· &&& 255) h).trans (byt_mask (c := y) (by omega)))
  have := congrArg Int32.toInt e
  rw [ofn_int (by omega), ofn_int (by omega)] at this; omega
theorem encS_inj {k : Nat} (hk : k = 0 ∨ k = 1) : ∀ (xs ys : List Nat), (∀ c ∈ xs, c < 65536) → (∀ c ∈ ys, c < 65536) → (k = 0 → ∀ c ∈ xs, c < 256) → (k = 0 → ∀ c ∈ ys, c < 256) → encS k xs = encS k ys → xs = ys
  | [], [], _, _, _, _, _ => rfl
  | x :: xs, [], _, _, _, _, h => by rcases hk with rfl | rfl <;> cases h
  | [], y :: ys, _, _, _, _, h => by rcases hk with rfl | rfl <;> cases h
  | x :: xs, y :: ys, hx, hy, h1, h2, h => by
    have bx := hx x (List.mem_cons_self ..); have by' := hy y (List.mem_cons_self ..)
    have r := fun q => encS_inj hk xs ys (fun c hc => hx c (List.mem_cons_of_mem _ hc)) (fun c hc => hy c (List.mem_cons_of_mem _ hc)) (fun e c hc => h1 e c (List.mem_cons_of_mem _ hc)) (fun e c hc => h2 e c (List.mem_cons_of_mem _ hc)) q
    rcases hk with rfl | rfl
    · have h' : Value.int (byt x) :: encS 0 xs = Value.int (byt y) :: encS 0 ys := h
      obtain ⟨e1, e2⟩ := List.cons.inj h'
      have e3 := byt_inj bx by' (Value.int.inj e1)
      have u1 := h1 rfl x (List.mem_cons_self ..); have u2 := h2 rfl y (List.mem_cons_self ..)
      rw [r e2, show x = y by omega]
    · have h' : Value.int (byt x) :: Value.int (byt (x / 256)) :: encS 1 xs = Value.int (byt y) :: Value.int (byt (y / 256)) :: encS 1 ys := h
      obtain ⟨e1, e2⟩ := List.cons.inj h'
      obtain ⟨e3, e4⟩ := List.cons.inj e2
      have e5 := byt_inj bx by' (Value.int.inj e1)
      have e6 := byt_inj (x := x / 256) (y := y / 256) (by omega) (by omega) (Value.int.inj e3)
      rw [r e4, show x = y by omega]
theorem encS_int {k : Nat} (hk : k = 0 ∨ k = 1) : ∀ (xs : List Nat) (i : Nat), i < (encS k xs).length → ∃ v : Int32, (encS k xs).getD i (.int 0) = .int v := by
  intro xs
  have all : ∀ v ∈ encS k xs, ∃ z : Int32, v = .int z := by
    intro v hv
    obtain ⟨c, -, hc⟩ := List.mem_flatMap.mp hv
    rcases hk with rfl | rfl
    · cases List.mem_singleton.mp (show v ∈ [Value.int (byt c)] from hc); exact ⟨_, rfl⟩
    · rcases List.mem_cons.mp (show v ∈ [Value.int (byt c), Value.int (byt (c / 256))] from hc) with rfl | h
      · exact ⟨_, rfl⟩
      · cases List.mem_singleton.mp h; exact ⟨_, rfl⟩
  intro i hi
  obtain ⟨z, hz⟩ := all ((encS k xs)[i]) (List.getElem_mem hi)
  exact ⟨z, by rw [List.getD_eq_getElem?_getD, List.getElem?_eq_getElem hi]; exact hz⟩
theorem list_eq {xs ys : List Value} (hl : xs.length = ys.length) (h : ∀ j, j < xs.length → xs.getD j (.int 0) = ys.getD j (.int 0)) : xs = ys := by
  apply List.ext_getElem hl
  intro i h1 h2
  have := h i h1
  rw [List.getD_eq_getElem?_getD, List.getD_eq_getElem?_getD, List.getElem?_eq_getElem h1, List.getElem?_eq_getElem h2] at this
  exact this
def mkL (n x y : Nat) : List Nat := if n = 0 then [] else if n = 1 then [x] else [x, y]
theorem mkL_len {n x y : Nat} (h : n ≤ 2) : (mkL n x y).length = n := by
  rcases (show n = 0 ∨ n = 1 ∨ n = 2 by omega) with rfl | rfl | rfl <;> rfl
theorem mkL_b {n x y : Nat} (hx : x < 65536) (hy : y < 65536) : ∀ c ∈ mkL n x y, c < 65536 := by
  unfold mkL; intro c hc; split at hc
  · cases hc
  · split at hc
    · cases List.mem_singleton.mp hc; exact hx
    · rcases List.mem_cons.mp hc with rfl | hc
      · exact hx
      · cases List.mem_singleton.mp hc; exact hy
theorem txt_at {nl sl i n0 n1 s0 s1 : Nat} (hn : nl ≤ 2) (hs : sl ≤ 2) (hi : i < nl + 2 + sl) : (mkL nl n0 n1 ++ [58, 32] ++ mkL sl s0 s1).getD i 0 = if i < nl then (if i = 0 then n0 else n1) else if i = nl then 58 else if i = nl + 1 then 32 else if i - nl - 2 = 0 then s0 else s1 := by
  rcases (show nl = 0 ∨ nl = 1 ∨ nl = 2 by omega) with rfl | rfl | rfl <;> rcases (show sl = 0 ∨ sl = 1 ∨ sl = 2 by omega) with rfl | rfl | rfl <;> rcases (show i = 0 ∨ i = 1 ∨ i = 2 ∨ i = 3 ∨ i = 4 ∨ i = 5 by omega) with rfl | rfl | rfl | rfl | rfl | rfl <;> first | rfl | (exfalso; omega)
theorem m16L (x : Int64) : ∃ c, c < 65536 ∧ (x &&& 65535).toInt32.toUInt32.toUInt16.toUInt32.toInt32 = Int32.ofNat c := by
  have e := c_maskL x 65535 16 (by decide) rfl
  rw [show ((2 ^ 16 : Nat) : Int) = 65536 from rfl] at e
  have hc : (x.toInt % 65536).toNat < 65536 := by omega
  refine ⟨(x.toInt % 65536).toNat, hc, ?_⟩
  have f : (x &&& 65535).toInt32 = Int32.ofNat (x.toInt % 65536).toNat := by
    apply Int32.toInt_inj.mp
    rw [Int64.toInt_toInt32, e, ofn_int (by omega)]
    simp only [Int.bmod]; split <;> omega
  rw [f, i2c_w hc]
theorem m3L (x : Int64) : ∃ c, c ≤ 2 ∧ ((x &&& 3) - (x &&& 3) / 3 * 3).toInt32 = Int32.ofNat c := by
  have e := c_maskL x 3 2 (by decide) rfl
  rw [show ((2 ^ 2 : Nat) : Int) = 4 from rfl] at e
  have h : x &&& 3 = 0 ∨ x &&& 3 = 1 ∨ x &&& 3 = 2 ∨ x &&& 3 = 3 := by
    rcases (show x.toInt % 4 = 0 ∨ x.toInt % 4 = 1 ∨ x.toInt % 4 = 2 ∨ x.toInt % 4 = 3 by omega) with q | q | q | q <;> rw [q] at e
    · exact Or.inl (Int64.toInt_inj.mp e)
    · exact Or.inr (Or.inl (Int64.toInt_inj.mp e))
    · exact Or.inr (Or.inr (Or.inl (Int64.toInt_inj.mp e)))
    · exact Or.inr (Or.inr (Or.inr (Int64.toInt_inj.mp e)))
  rcases h with h | h | h | h <;> rw [h]
  · exact ⟨0, by decide, by decide⟩
  · exact ⟨1, by decide, by decide⟩
  · exact ⟨2, by decide, by decide⟩
  · exact ⟨0, by decide, by decide⟩
theorem pn_java_lang_StringUTF16 : plainName "java/lang/StringUTF16" = true := by first | (simp [plainName, overriddenIn]; done) | decide +kernel
theorem pd__I_I : parseMethodDescriptor "(I)I" = some ⟨[.int], some .int⟩ := by decide +kernel
theorem pd__I__B : parseMethodDescriptor "(I)[B" = some ⟨[.int], some (.array .byte)⟩ := by decide +kernel
theorem pd___BII_V : parseMethodDescriptor "([BII)V" = some ⟨[(.array .byte), .int, .int], none⟩ := by decide +kernel
theorem pd___CI_BII_I : parseMethodDescriptor "([CI[BII)I" = some ⟨[(.array .char), .int, (.array .byte), .int, .int], some .int⟩ := by decide +kernel
theorem pd___CII__B : parseMethodDescriptor "([CII)[B" = some ⟨[(.array .char), .int, .int], some (.array .byte)⟩ := by decide +kernel
theorem pd___BI_C : parseMethodDescriptor "([BI)C" = some ⟨[(.array .byte), .int], some .char⟩ := by decide +kernel
theorem pd___BI_B : parseMethodDescriptor "([BI)B" = some ⟨[(.array .byte), .int], some .byte⟩ := by decide +kernel
theorem pn_java_lang_String : plainName "java/lang/String" = true := by first | (simp [plainName, overriddenIn]; done) | decide +kernel
theorem pd___CIILjava_lang_Void__V : parseMethodDescriptor "([CIILjava/lang/Void;)V" = some ⟨[(.array .char), .int, .int, (.object "java/lang/Void")], none⟩ := by decide +kernel
theorem pd___B : parseMethodDescriptor "()B" = some ⟨[], some .byte⟩ := by decide +kernel
theorem pn_jdk_internal_util_Preconditions : plainName "jdk/internal/util/Preconditions" = true := by first | (simp [plainName, overriddenIn]; done) | decide +kernel
theorem pd__IIILjava_util_function_BiFunction__I : parseMethodDescriptor "(IIILjava/util/function/BiFunction;)I" = some ⟨[.int, .int, .int, (.object "java/util/function/BiFunction")], some .int⟩ := by decide +kernel
theorem pd___B_I : parseMethodDescriptor "([B)I" = some ⟨[(.array .byte)], some .int⟩ := by decide +kernel
theorem pd__III_I : parseMethodDescriptor "(III)I" = some ⟨[.int, .int, .int], some .int⟩ := by decide +kernel
theorem pd__II_B_V : parseMethodDescriptor "(II[B)V" = some ⟨[.int, .int, (.array .byte)], none⟩ := by decide +kernel
theorem pd___BI_BII_V : parseMethodDescriptor "([BI[BII)V" = some ⟨[(.array .byte), .int, (.array .byte), .int, .int], none⟩ := by decide +kernel
theorem pn_java_lang_StringLatin1 : plainName "java/lang/StringLatin1" = true := by first | (simp [plainName, overriddenIn]; done) | decide +kernel
theorem pn_java_lang_AbstractStringBuilder : plainName "java/lang/AbstractStringBuilder" = true := by first | (simp [plainName, overriddenIn]; done) | decide +kernel
theorem pd__I_V : parseMethodDescriptor "(I)V" = some ⟨[.int], none⟩ := by decide +kernel
theorem pn_java_lang_StringBuilder : plainName "java/lang/StringBuilder" = true := by first | (simp [plainName, overriddenIn]; done) | decide +kernel
theorem pd___Z : parseMethodDescriptor "()Z" = some ⟨[], some .boolean⟩ := by decide +kernel
theorem pd___V : parseMethodDescriptor "()V" = some ⟨[], none⟩ := by decide +kernel
theorem pd__Ljava_lang_String__V : parseMethodDescriptor "(Ljava/lang/String;)V" = some ⟨[(.object "java/lang/String")], none⟩ := by decide +kernel
theorem pd___BIB_V : parseMethodDescriptor "([BIB)V" = some ⟨[(.array .byte), .int, .byte], none⟩ := by decide +kernel
theorem pd___I : parseMethodDescriptor "()I" = some ⟨[], some .int⟩ := by decide +kernel
theorem pd__ILjava_lang_String__V : parseMethodDescriptor "(ILjava/lang/String;)V" = some ⟨[.int, (.object "java/lang/String")], none⟩ := by decide +kernel
theorem pd__Ljava_lang_String__Ljava_lang_AbstractStringBuilder_ : parseMethodDescriptor "(Ljava/lang/String;)Ljava/lang/AbstractStringBuilder;" = some ⟨[(.object "java/lang/String")], some (.object "java/lang/AbstractStringBuilder")⟩ := by decide +kernel
theorem pn_java_util_Arrays : plainName "java/util/Arrays" = true := by first | (simp [plainName, overriddenIn]; done) | decide +kernel
theorem pd__II_V : parseMethodDescriptor "(II)V" = some ⟨[.int, .int], none⟩ := by decide +kernel
theorem pd__II_I : parseMethodDescriptor "(II)I" = some ⟨[.int, .int], some .int⟩ := by decide +kernel
theorem pd___BII__B : parseMethodDescriptor "([BII)[B" = some ⟨[(.array .byte), .int, .int], some (.array .byte)⟩ := by decide +kernel
theorem pd____B : parseMethodDescriptor "()[B" = some ⟨[], some (.array .byte)⟩ := by decide +kernel
theorem pd__Ljava_lang_AbstractStringBuilder_Ljava_lang_Void__V : parseMethodDescriptor "(Ljava/lang/AbstractStringBuilder;Ljava/lang/Void;)V" = some ⟨[(.object "java/lang/AbstractStringBuilder"), (.object "java/lang/Void")], none⟩ := by decide +kernel
theorem pd__Ljava_lang_StringBuilder__V : parseMethodDescriptor "(Ljava/lang/StringBuilder;)V" = some ⟨[(.object "java/lang/StringBuilder")], none⟩ := by decide +kernel
theorem pd__IILjava_util_function_BiFunction__I : parseMethodDescriptor "(IILjava/util/function/BiFunction;)I" = some ⟨[.int, .int, (.object "java/util/function/BiFunction")], some .int⟩ := by decide +kernel
theorem pd__I_B_V : parseMethodDescriptor "(I[B)V" = some ⟨[.int, (.array .byte)], none⟩ := by decide +kernel
theorem pd___B_B_Z : parseMethodDescriptor "([B[B)Z" = some ⟨[(.array .byte), (.array .byte)], some .boolean⟩ := by decide +kernel
theorem pn_com_example_synclane_synclane_command_LineExpectPinLaw : plainName "com/example/synclane/synclane/command/LineExpectPinLaw" = true := by first | (simp [plainName, overriddenIn]; done) | decide +kernel
theorem pd___C_V : parseMethodDescriptor "([C)V" = some ⟨[(.array .char)], none⟩ := by decide +kernel
theorem pn_java_lang_Record : plainName "java/lang/Record" = true := by first | (simp [plainName, overriddenIn]; done) | decide +kernel
theorem pn_com_example_synclane_synclane_command_Line : plainName "com/example/synclane/synclane/command/Line" = true := by first | (simp [plainName, overriddenIn]; done) | decide +kernel
theorem pd__Ljava_lang_String__Ljava_lang_StringBuilder_ : parseMethodDescriptor "(Ljava/lang/String;)Ljava/lang/StringBuilder;" = some ⟨[(.object "java/lang/String")], some (.object "java/lang/StringBuilder")⟩ := by decide +kernel
theorem pd___Ljava_lang_String_ : parseMethodDescriptor "()Ljava/lang/String;" = some ⟨[], some (.object "java/lang/String")⟩ := by decide +kernel
theorem pd__Ljava_lang_Object__Z : parseMethodDescriptor "(Ljava/lang/Object;)Z" = some ⟨[(.object "java/lang/Object")], some .boolean⟩ := by decide +kernel
theorem pd__Ljava_lang_String_Z_V : parseMethodDescriptor "(Ljava/lang/String;Z)V" = some ⟨[(.object "java/lang/String"), .boolean], none⟩ := by decide +kernel
theorem pd__I_C : parseMethodDescriptor "(I)C" = some ⟨[.int], some .char⟩ := by decide +kernel
theorem pd__IICCCC_C : parseMethodDescriptor "(IICCCC)C" = some ⟨[.int, .int, .char, .char, .char, .char], some .char⟩ := by decide +kernel
theorem pd__J_I : parseMethodDescriptor "(J)I" = some ⟨[.long], some .int⟩ := by decide +kernel
theorem pd__J_C : parseMethodDescriptor "(J)C" = some ⟨[.long], some .char⟩ := by decide +kernel
theorem pd__ICC_Ljava_lang_String_ : parseMethodDescriptor "(ICC)Ljava/lang/String;" = some ⟨[.int, .char, .char], some (.object "java/lang/String")⟩ := by decide +kernel
theorem pd__Ljava_lang_String_Ljava_lang_String_Ljava_lang_String__Lcom_example_synclane_synclane_command_Line_ : parseMethodDescriptor "(Ljava/lang/String;Ljava/lang/String;Ljava/lang/String;)Lcom/example/synclane/synclane/command/Line;" = some ⟨[(.object "java/lang/String"), (.object "java/lang/String"), (.object "java/lang/String")], some (.object "com/example/synclane/synclane/command/Line")⟩ := by decide +kernel
theorem pd__Ljava_lang_String_IICCCC_Z : parseMethodDescriptor "(Ljava/lang/String;IICCCC)Z" = some ⟨[(.object "java/lang/String"), .int, .int, .char, .char, .char, .char], some .boolean⟩ := by decide +kernel
theorem d55_0 : decode jdk_52_method_6_code 0 = .ok (.aload_n 0, 1) := by decide +kernel
theorem d55_1 : decode jdk_52_method_6_code 1 = .ok (.arraylength, 1) := by decide +kernel
theorem d55_2 : decode jdk_52_method_6_code 2 = .ok (.iconst 1, 1) := by decide +kernel
theorem d55_3 : decode jdk_52_method_6_code 3 = .ok (.ishr, 1) := by decide +kernel
theorem d55_4 : decode jdk_52_method_6_code 4 = .ok (.ireturn, 1) := by decide +kernel
theorem c_ulen (l : Launch) (Z : State) (a0 : Array Value) (hw : ∀ d ∈ tables_1, d.before a0 Z = true) (hEW : EW Z a0 consts_1) (n0 : Nat) (c1 : Int32) (hc1 : ¬ c1 = 0) (S1 : Sta Z Z.heap "java/lang/String" "COMPACT_STRINGS" "Z" (.int c1)) (v2 : Value) (hv2 : v2.isRef = true) (S2 : Sta Z Z.heap "jdk/internal/util/Preconditions" "SIOOBE_FORMATTER" "Ljava/util/function/BiFunction;" v2) (S3 : Sta Z Z.heap "java/lang/StringUTF16" "$assertionsDisabled" "Z" (.int 1)) (S4 : Sta Z Z.heap "java/lang/StringUTF16" "HI_BYTE_SHIFT" "I" (.int 0)) (S5 : Sta Z Z.heap "java/lang/StringUTF16" "LO_BYTE_SHIFT" "I" (.int 8)) (b : Addr) (kb : ClassId) (n : Nat) (vs : List Value) {h0 : Heap} (o1 : Old Z n0 h0) (hn : n < 1073741824) (Ab : Arv Z h0 b kb .byte (Int32.ofNat (n * 2)) vs (.int 0)) :
    Con Z a0 l (⟨"java/lang/StringUTF16", "length", "([B)I"⟩ : MethodName) jdk_52_method_6_code 1 (some .int) ({ frames := 0, cells := 0, slots := 0, locals := 0 } : Room) [] #[(.ref b)] consts_1 h0 n0 [] [] (VV fun w h so => w = .int (Int32.ofNat n) ∧ h = h0 ∧ so = []) := by
  refine Con.body (plainFor_of_name pn_java_lang_StringUTF16) hEW o1 all0 #[.val (.ref b)] (fun m => by first | (simp [entryFrame, mkF, argsToLocals, Value.category]; done) | rfl) ?_
  intro p e s m below meth c B hnm hret hlk G
  replace G := G.aloadN 1 d55_0 rfl rfl rfl |>.alen 2 Ab d55_1 rfl |>.iconst 3 (1 : Int32) d55_2 rfl rfl |>.ishr 4 d55_3 rfl |>.top (y := (.int (Int32.ofNat n))) (congrArg Value.int (shr1 hn))
  exact G.retI hret hlk d55_4 [] all0 ⟨_, rfl, rfl, rfl, rfl⟩ (nle rfl) (nle rfl)
theorem d48_0 : decode jdk_52_method_4_code 0 = .ok (.getstatic 44, 3) := by decide +kernel
theorem d48_3 : decode jdk_52_method_4_code 3 = .ok (.ifCond .ne 25, 3) := by decide +kernel
theorem d48_6 : decode jdk_52_method_4_code 6 = .ok (.iload_n 1, 1) := by decide +kernel
theorem d48_7 : decode jdk_52_method_4_code 7 = .ok (.ifCond .lt 11, 3) := by decide +kernel
theorem d48_10 : decode jdk_52_method_4_code 10 = .ok (.iload_n 1, 1) := by decide +kernel
theorem d48_11 : decode jdk_52_method_4_code 11 = .ok (.aload_n 0, 1) := by decide +kernel
theorem d48_12 : decode jdk_52_method_4_code 12 = .ok (.invokestatic 48, 3) := by decide +kernel
theorem d48_15 : decode jdk_52_method_4_code 15 = .ok (.if_icmp .lt 13, 3) := by decide +kernel
theorem d48_18 : decode jdk_52_method_4_code 18 = .ok (.new 52, 3) := by decide +kernel
theorem d48_21 : decode jdk_52_method_4_code 21 = .ok (.dup, 1) := by decide +kernel
theorem d48_22 : decode jdk_52_method_4_code 22 = .ok (.ldc 54, 2) := by decide +kernel
theorem d48_24 : decode jdk_52_method_4_code 24 = .ok (.invokespecial 56, 3) := by decide +kernel
theorem d48_27 : decode jdk_52_method_4_code 27 = .ok (.athrow, 1) := by decide +kernel
theorem d48_28 : decode jdk_52_method_4_code 28 = .ok (.iload_n 1, 1) := by decide +kernel
theorem d48_29 : decode jdk_52_method_4_code 29 = .ok (.iconst 1, 1) := by decide +kernel
theorem d48_30 : decode jdk_52_method_4_code 30 = .ok (.ishl, 1) := by decide +kernel
theorem d48_31 : decode jdk_52_method_4_code 31 = .ok (.istore_n 1, 1) := by decide +kernel
theorem d48_32 : decode jdk_52_method_4_code 32 = .ok (.aload_n 0, 1) := by decide +kernel
theorem d48_33 : decode jdk_52_method_4_code 33 = .ok (.iload_n 1, 1) := by decide +kernel
theorem d48_34 : decode jdk_52_method_4_code 34 = .ok (.iinc 1 1, 3) := by decide +kernel
theorem d48_37 : decode jdk_52_method_4_code 37 = .ok (.iload_n 2, 1) := by decide +kernel
theorem d48_38 : decode jdk_52_method_4_code 38 = .ok (.getstatic 59, 3) := by decide +kernel
theorem d48_41 : decode jdk_52_method_4_code 41 = .ok (.ishr, 1) := by decide +kernel
theorem d48_42 : decode jdk_52_method_4_code 42 = .ok (.i2b, 1) := by decide +kernel
theorem d48_43 : decode jdk_52_method_4_code 43 = .ok (.bastore, 1) := by decide +kernel
theorem d48_44 : decode jdk_52_method_4_code 44 = .ok (.aload_n 0, 1) := by decide +kernel
theorem d48_45 : decode jdk_52_method_4_code 45 = .ok (.iload_n 1, 1) := by decide +kernel
theorem d48_46 : decode jdk_52_method_4_code 46 = .ok (.iload_n 2, 1) := by decide +kernel
theorem d48_47 : decode jdk_52_method_4_code 47 = .ok (.getstatic 63, 3) := by decide +kernel
theorem d48_50 : decode jdk_52_method_4_code 50 = .ok (.ishr, 1) := by decide +kernel
theorem d48_51 : decode jdk_52_method_4_code 51 = .ok (.i2b, 1) := by decide +kernel
theorem d48_52 : decode jdk_52_method_4_code 52 = .ok (.bastore, 1) := by decide +kernel
theorem d48_53 : decode jdk_52_method_4_code 53 = .ok (.return_, 1) := by decide +kernel
theorem c_putCh (l : Launch) (Z : State) (a0 : Array Value) (hw : ∀ d ∈ tables_1, d.before a0 Z = true) (hEW : EW Z a0 consts_1) (n0 : Nat) (c1 : Int32) (hc1 : ¬ c1 = 0) (S1 : Sta Z Z.heap "java/lang/String" "COMPACT_STRINGS" "Z" (.int c1)) (v2 : Value) (hv2 : v2.isRef = true) (S2 : Sta Z Z.heap "jdk/internal/util/Preconditions" "SIOOBE_FORMATTER" "Ljava/util/function/BiFunction;" v2) (S3 : Sta Z Z.heap "java/lang/StringUTF16" "$assertionsDisabled" "Z" (.int 1)) (S4 : Sta Z Z.heap "java/lang/StringUTF16" "HI_BYTE_SHIFT" "I" (.int 0)) (S5 : Sta Z Z.heap "java/lang/StringUTF16" "LO_BYTE_SHIFT" "I" (.int 8)) (b : Addr) (kb : ClassId) (n ch : Nat) (cs : List Nat) {h0 : Heap} (o1 : Old Z n0 h0) (ge_b : n0 ≤ b) (hc : ch < 65536) (hi : cs.length < n) (hn : n < 1073741824) (Ab : Arv Z h0 b kb .byte (Int32.ofNat (n * 2)) (encS 1 cs) (.int 0)) :
    Con Z a0 l (⟨"java/lang/StringUTF16", "putChar", "([BII)V"⟩ : MethodName) jdk_52_method_4_code 3 (none) ({ frames := 0, cells := 0, slots := 0, locals := 0 } : Room) [] #[(.ref b), (.int (Int32.ofNat cs.length)), (.int (Int32.ofNat ch))] consts_1 h0 n0 [b] [b] (V0 fun h so => Arv Z h b kb .byte (Int32.ofNat (n * 2)) (encS 1 (cs ++ [ch])) (.int 0) ∧ so = []) := by
  refine Con.body (plainFor_of_name pn_java_lang_StringUTF16) hEW o1 (allS ge_b all0) #[.val (.ref b), .val (.int (Int32.ofNat cs.length)), .val (.int (Int32.ofNat ch))] (fun m => by first | (simp [entryFrame, mkF, argsToLocals, Value.category]; done) | rfl) ?_
  intro p e s m below meth c B hnm hret hlk G
  have hl := encS_len1 cs
  replace G := G.gets 3 (host := "") (Or.inl (hw _ (mm 236 rfl))) Via.refl (G.sta S3) d48_0 rfl |>.ifT 28 d48_3 (XT.i0_ne_t (by decide)) (by decide) (by decide) |>.iloadN 29 d48_28 rfl rfl |>.iconst 30 (1 : Int32) d48_29 rfl rfl |>.ishl 31 d48_30 rfl |>.top (y := (.int (Int32.ofNat (cs.length * 2)))) (congrArg Value.int (shl1 (by omega))) |>.istoreN 32 #[.val (.ref b), .val (.int (Int32.ofNat (cs.length * 2))), .val (.int (Int32.ofNat ch))] d48_31 rfl rfl |>.aloadN 33 d48_32 rfl rfl rfl
  replace G := G.iloadN 34 d48_33 rfl rfl |>.iincV 37 #[.val (.ref b), .val (.int (Int32.ofNat (cs.length * 2 + 1))), .val (.int (Int32.ofNat ch))] (Int32.ofNat (cs.length * 2 + 1)) d48_34 rfl (ofn_succ _) rfl rfl |>.iloadN 38 d48_37 rfl rfl |>.gets 41 (host := "") (Or.inl (hw _ (mm 237 rfl))) Via.refl (G.sta S4) d48_38 rfl |>.ishr 42 d48_41 rfl |>.top (y := (.int (Int32.ofNat ch))) (congrArg Value.int (shr0 _)) |>.i2b 43 d48_42 rfl
  replace Ab := Ab.pad (vs' := encS 1 cs ++ [(.int 0), (.int 0)]) (pad_rep _ (.int 0) 2)
  obtain ⟨h1, G', As, Ks⟩ := G.bastore 44 (cs.length * 2) Ab ⟨ofn_nn (by omega), ofn_lt (by omega) (by omega)⟩ (ofn_nat (by omega)) (by simp [hl]) (Or.inl (mm 0 rfl)) (mm 0 rfl) d48_43 rfl
  replace G := G'; clear G'
  replace G := G.aloadN 45 d48_44 rfl rfl rfl |>.iloadN 46 d48_45 rfl rfl |>.iloadN 47 d48_46 rfl rfl |>.gets 50 (host := "") (Or.inl (hw _ (mm 238 rfl))) Via.refl (G.sta S5) d48_47 rfl |>.ishr 51 d48_50 rfl |>.top (y := (.int (Int32.ofNat (ch / 256)))) (congrArg Value.int (shr8 (by omega))) |>.i2b 52 d48_51 rfl
  obtain ⟨h2, G', At, Kt⟩ := G.bastore 53 (cs.length * 2 + 1) As ⟨ofn_nn (by omega), ofn_lt (by omega) (by omega)⟩ (ofn_nat (by omega)) (by simp [hl]) (Or.inl (mm 0 rfl)) (mm 0 rfl) d48_52 rfl
  replace G := G'; clear G'
  rw [byt2, byt2, put2 _ _ _ _ hl] at At
  replace At : Arv Z h2 b kb .byte (Int32.ofNat (n * 2)) (encS 1 (cs ++ [ch])) (.int 0) := by rw [encS_app]; exact At
  exact G.retV hret hlk d48_53 [] all0 ⟨rfl, At, rfl⟩ (nle rfl) (nle rfl)
theorem d49_0 : decode jdk_52_method_5_code 0 = .ok (.getstatic 44, 3) := by decide +kernel
theorem d49_3 : decode jdk_52_method_5_code 3 = .ok (.ifCond .ne 25, 3) := by decide +kernel
theorem d49_6 : decode jdk_52_method_5_code 6 = .ok (.iload_n 1, 1) := by decide +kernel
theorem d49_7 : decode jdk_52_method_5_code 7 = .ok (.ifCond .lt 11, 3) := by decide +kernel
theorem d49_10 : decode jdk_52_method_5_code 10 = .ok (.iload_n 1, 1) := by decide +kernel
theorem d49_11 : decode jdk_52_method_5_code 11 = .ok (.aload_n 0, 1) := by decide +kernel
theorem d49_12 : decode jdk_52_method_5_code 12 = .ok (.invokestatic 48, 3) := by decide +kernel
theorem d49_15 : decode jdk_52_method_5_code 15 = .ok (.if_icmp .lt 13, 3) := by decide +kernel
theorem d49_18 : decode jdk_52_method_5_code 18 = .ok (.new 52, 3) := by decide +kernel
theorem d49_21 : decode jdk_52_method_5_code 21 = .ok (.dup, 1) := by decide +kernel
theorem d49_22 : decode jdk_52_method_5_code 22 = .ok (.ldc 54, 2) := by decide +kernel
theorem d49_24 : decode jdk_52_method_5_code 24 = .ok (.invokespecial 56, 3) := by decide +kernel
theorem d49_27 : decode jdk_52_method_5_code 27 = .ok (.athrow, 1) := by decide +kernel
theorem d49_28 : decode jdk_52_method_5_code 28 = .ok (.iload_n 1, 1) := by decide +kernel
theorem d49_29 : decode jdk_52_method_5_code 29 = .ok (.iconst 1, 1) := by decide +kernel
theorem d49_30 : decode jdk_52_method_5_code 30 = .ok (.ishl, 1) := by decide +kernel
theorem d49_31 : decode jdk_52_method_5_code 31 = .ok (.istore_n 1, 1) := by decide +kernel
theorem d49_32 : decode jdk_52_method_5_code 32 = .ok (.aload_n 0, 1) := by decide +kernel
theorem d49_33 : decode jdk_52_method_5_code 33 = .ok (.iload_n 1, 1) := by decide +kernel
theorem d49_34 : decode jdk_52_method_5_code 34 = .ok (.iinc 1 1, 3) := by decide +kernel
theorem d49_37 : decode jdk_52_method_5_code 37 = .ok (.baload, 1) := by decide +kernel
theorem d49_38 : decode jdk_52_method_5_code 38 = .ok (.sipush 255, 3) := by decide +kernel
theorem d49_41 : decode jdk_52_method_5_code 41 = .ok (.iand, 1) := by decide +kernel
theorem d49_42 : decode jdk_52_method_5_code 42 = .ok (.getstatic 59, 3) := by decide +kernel
theorem d49_45 : decode jdk_52_method_5_code 45 = .ok (.ishl, 1) := by decide +kernel
theorem d49_46 : decode jdk_52_method_5_code 46 = .ok (.aload_n 0, 1) := by decide +kernel
theorem d49_47 : decode jdk_52_method_5_code 47 = .ok (.iload_n 1, 1) := by decide +kernel
theorem d49_48 : decode jdk_52_method_5_code 48 = .ok (.baload, 1) := by decide +kernel
theorem d49_49 : decode jdk_52_method_5_code 49 = .ok (.sipush 255, 3) := by decide +kernel
theorem d49_52 : decode jdk_52_method_5_code 52 = .ok (.iand, 1) := by decide +kernel
theorem d49_53 : decode jdk_52_method_5_code 53 = .ok (.getstatic 63, 3) := by decide +kernel
theorem d49_56 : decode jdk_52_method_5_code 56 = .ok (.ishl, 1) := by decide +kernel
theorem d49_57 : decode jdk_52_method_5_code 57 = .ok (.ior, 1) := by decide +kernel
theorem d49_58 : decode jdk_52_method_5_code 58 = .ok (.i2c, 1) := by decide +kernel
theorem d49_59 : decode jdk_52_method_5_code 59 = .ok (.ireturn, 1) := by decide +kernel
theorem c_getCh (l : Launch) (Z : State) (a0 : Array Value) (hw : ∀ d ∈ tables_1, d.before a0 Z = true) (hEW : EW Z a0 consts_1) (n0 : Nat) (c1 : Int32) (hc1 : ¬ c1 = 0) (S1 : Sta Z Z.heap "java/lang/String" "COMPACT_STRINGS" "Z" (.int c1)) (v2 : Value) (hv2 : v2.isRef = true) (S2 : Sta Z Z.heap "jdk/internal/util/Preconditions" "SIOOBE_FORMATTER" "Ljava/util/function/BiFunction;" v2) (S3 : Sta Z Z.heap "java/lang/StringUTF16" "$assertionsDisabled" "Z" (.int 1)) (S4 : Sta Z Z.heap "java/lang/StringUTF16" "HI_BYTE_SHIFT" "I" (.int 0)) (S5 : Sta Z Z.heap "java/lang/StringUTF16" "LO_BYTE_SHIFT" "I" (.int 8)) (b : Addr) (kb : ClassId) (n i : Nat) (cs : List Nat) {h0 : Heap} (o1 : Old Z n0 h0) (hc : cs.getD i 0 < 65536) (hi : i < cs.length) (hcn : cs.length ≤ n) (hn : n < 1073741824) (Ab : Arv Z h0 b kb .byte (Int32.ofNat (n * 2)) (encS 1 cs) (.int 0)) :
    Con Z a0 l (⟨"java/lang/StringUTF16", "getChar", "([BI)C"⟩ : MethodName) jdk_52_method_5_code 2 (some .char) ({ frames := 0, cells := 0, slots := 0, locals := 0 } : Room) [] #[(.ref b), (.int (Int32.ofNat i))] consts_1 h0 n0 [] [] (VV fun w h so => w = .int (Int32.ofNat (cs.getD i 0)) ∧ h = h0 ∧ so = []) := by
  refine Con.body (plainFor_of_name pn_java_lang_StringUTF16) hEW o1 all0 #[.val (.ref b), .val (.int (Int32.ofNat i))] (fun m => by first | (simp [entryFrame, mkF, argsToLocals, Value.category]; done) | rfl) ?_
  intro p e s m below meth c B hnm hret hlk G
  replace G := G.gets 3 (host := "") (Or.inl (hw _ (mm 236 rfl))) Via.refl (G.sta S3) d49_0 rfl |>.ifT 28 d49_3 (XT.i0_ne_t (by decide)) (by decide) (by decide) |>.iloadN 29 d49_28 rfl rfl |>.iconst 30 (1 : Int32) d49_29 rfl rfl |>.ishl 31 d49_30 rfl |>.top (y := (.int (Int32.ofNat (i * 2)))) (congrArg Value.int (shl1 (by omega))) |>.istoreN 32 #[.val (.ref b), .val (.int (Int32.ofNat (i * 2)))] d49_31 rfl rfl |>.aloadN 33 d49_32 rfl rfl rfl
  replace G := G.iloadN 34 d49_33 rfl rfl |>.iincV 37 #[.val (.ref b), .val (.int (Int32.ofNat (i * 2 + 1)))] (Int32.ofNat (i * 2 + 1)) d49_34 rfl (ofn_succ _) rfl rfl |>.baload 38 (v := (.int (byt (cs.getD i 0)))) Ab ⟨ofn_nn (by omega), ofn_lt (by omega) (by omega)⟩ (by rw [ofn_nat (by omega)]; exact (encS1_at cs i hi).1) d49_37 rfl |>.sipush 41 (255 : Int32) d49_38 (by decide) rfl |>.iand 42 d49_41 rfl |>.gets 45 (host := "") (Or.inl (hw _ (mm 237 rfl))) Via.refl (G.sta S4) d49_42 rfl |>.ishl 46 d49_45 rfl |>.aloadN 47 d49_46 rfl rfl rfl
  replace G := G.iloadN 48 d49_47 rfl rfl |>.baload 49 (v := (.int (byt (cs.getD i 0 / 256)))) Ab ⟨ofn_nn (by omega), ofn_lt (by omega) (by omega)⟩ (by rw [ofn_nat (by omega)]; exact (encS1_at cs i hi).2) d49_48 rfl |>.sipush 52 (255 : Int32) d49_49 (by decide) rfl |>.iand 53 d49_52 rfl |>.gets 56 (host := "") (Or.inl (hw _ (mm 238 rfl))) Via.refl (G.sta S5) d49_53 rfl |>.ishl 57 d49_56 rfl |>.ior 58 d49_57 rfl |>.top (y := (.int (Int32.ofNat (cs.getD i 0)))) (congrArg Value.int (getc hc))
  replace G := G.i2c 59 d49_58 rfl |>.top (y := (.int (Int32.ofNat (cs.getD i 0)))) (congrArg Value.int (i2c_w hc))
  exact G.retN hret (Or.inr (Or.inr (Or.inl rfl))) hlk d49_59 [] all0 ⟨_, rfl, congrArg Value.int (i2c_w hc), rfl, rfl⟩ (nle rfl) (nle rfl)
theorem d47_0 : decode jdk_52_method_3_code 0 = .ok (.iload_n 0, 1) := by decide +kernel
theorem d47_1 : decode jdk_52_method_3_code 1 = .ok (.ifCond .ge 11, 3) := by decide +kernel
theorem d47_4 : decode jdk_52_method_3_code 4 = .ok (.new 17, 3) := by decide +kernel
theorem d47_7 : decode jdk_52_method_3_code 7 = .ok (.dup, 1) := by decide +kernel
theorem d47_8 : decode jdk_52_method_3_code 8 = .ok (.invokespecial 19, 3) := by decide +kernel
theorem d47_11 : decode jdk_52_method_3_code 11 = .ok (.athrow, 1) := by decide +kernel
theorem d47_12 : decode jdk_52_method_3_code 12 = .ok (.iload_n 0, 1) := by decide +kernel
theorem d47_13 : decode jdk_52_method_3_code 13 = .ok (.ldc 20, 2) := by decide +kernel
theorem d47_15 : decode jdk_52_method_3_code 15 = .ok (.if_icmp .lt 40, 3) := by decide +kernel
theorem d47_18 : decode jdk_52_method_3_code 18 = .ok (.new 21, 3) := by decide +kernel
theorem d47_21 : decode jdk_52_method_3_code 21 = .ok (.dup, 1) := by decide +kernel
theorem d47_22 : decode jdk_52_method_3_code 22 = .ok (.new 23, 3) := by decide +kernel
theorem d47_25 : decode jdk_52_method_3_code 25 = .ok (.dup, 1) := by decide +kernel
theorem d47_26 : decode jdk_52_method_3_code 26 = .ok (.invokespecial 25, 3) := by decide +kernel
theorem d47_29 : decode jdk_52_method_3_code 29 = .ok (.ldc 26, 2) := by decide +kernel
theorem d47_31 : decode jdk_52_method_3_code 31 = .ok (.invokevirtual 28, 3) := by decide +kernel
theorem d47_34 : decode jdk_52_method_3_code 34 = .ok (.iload_n 0, 1) := by decide +kernel
theorem d47_35 : decode jdk_52_method_3_code 35 = .ok (.invokevirtual 32, 3) := by decide +kernel
theorem d47_38 : decode jdk_52_method_3_code 38 = .ok (.ldc 35, 2) := by decide +kernel
theorem d47_40 : decode jdk_52_method_3_code 40 = .ok (.invokevirtual 28, 3) := by decide +kernel
theorem d47_43 : decode jdk_52_method_3_code 43 = .ok (.ldc 20, 2) := by decide +kernel
theorem d47_45 : decode jdk_52_method_3_code 45 = .ok (.invokevirtual 32, 3) := by decide +kernel
theorem d47_48 : decode jdk_52_method_3_code 48 = .ok (.invokevirtual 37, 3) := by decide +kernel
theorem d47_51 : decode jdk_52_method_3_code 51 = .ok (.invokespecial 41, 3) := by decide +kernel
theorem d47_54 : decode jdk_52_method_3_code 54 = .ok (.athrow, 1) := by decide +kernel
theorem d47_55 : decode jdk_52_method_3_code 55 = .ok (.iload_n 0, 1) := by decide +kernel
theorem d47_56 : decode jdk_52_method_3_code 56 = .ok (.iconst 1, 1) := by decide +kernel
theorem d47_57 : decode jdk_52_method_3_code 57 = .ok (.ishl, 1) := by decide +kernel
theorem d47_58 : decode jdk_52_method_3_code 58 = .ok (.ireturn, 1) := by decide +kernel
theorem c_nbl (l : Launch) (Z : State) (a0 : Array Value) (hw : ∀ d ∈ tables_1, d.before a0 Z = true) (hEW : EW Z a0 consts_1) (n0 : Nat) (c1 : Int32) (hc1 : ¬ c1 = 0) (S1 : Sta Z Z.heap "java/lang/String" "COMPACT_STRINGS" "Z" (.int c1)) (v2 : Value) (hv2 : v2.isRef = true) (S2 : Sta Z Z.heap "jdk/internal/util/Preconditions" "SIOOBE_FORMATTER" "Ljava/util/function/BiFunction;" v2) (S3 : Sta Z Z.heap "java/lang/StringUTF16" "$assertionsDisabled" "Z" (.int 1)) (S4 : Sta Z Z.heap "java/lang/StringUTF16" "HI_BYTE_SHIFT" "I" (.int 0)) (S5 : Sta Z Z.heap "java/lang/StringUTF16" "LO_BYTE_SHIFT" "I" (.int 8)) (n : Nat) {h0 : Heap} (o1 : Old Z n0 h0) (hn : n < 1000) :
    Con Z a0 l (⟨"java/lang/StringUTF16", "newBytesLength", "(I)I"⟩ : MethodName) jdk_52_method_3_code 1 (some .int) ({ frames := 0, cells := 0, slots := 0, locals := 0 } : Room) [] #[(.int (Int32.ofNat n))] consts_1 h0 n0 [] [] (VV fun w h so => w = .int (Int32.ofNat (n * 2)) ∧ h = h0 ∧ so = []) := by
  refine Con.body (plainFor_of_name pn_java_lang_StringUTF16) hEW o1 all0 #[.val (.int (Int32.ofNat n))] (fun m => by first | (simp [entryFrame, mkF, argsToLocals, Value.category]; done) | rfl) ?_
  intro p e s m below meth c B hnm hret hlk G
  replace G := G.iloadN 1 d47_0 rfl rfl |>.ifT 12 d47_1 (XT.i0_ge_t (ofn_nn (by omega))) (by decide) (by decide) |>.iloadN 13 d47_12 rfl rfl |>.ldcI 15 (hw _ (mm 232 rfl)) d47_13 rfl |>.icmpT 55 d47_15 (XT.ii_lt_t (ofn_lt (n := 1073741823) (by omega) (by decide))) (by decide) (by decide) |>.iloadN 56 d47_55 rfl rfl |>.iconst 57 (1 : Int32) d47_56 rfl rfl |>.ishl 58 d47_57 rfl
  replace G := G.top (y := (.int (Int32.ofNat (n * 2)))) (congrArg Value.int (shl1 (by omega)))
  exact G.retI hret hlk d47_58 [] all0 ⟨_, rfl, rfl, rfl, rfl⟩ (nle rfl) (nle rfl)
theorem d46_0 : decode jdk_52_method_2_code 0 = .ok (.iload_n 0, 1) := by decide +kernel
theorem d46_1 : decode jdk_52_method_2_code 1 = .ok (.invokestatic 11, 3) := by decide +kernel
theorem d46_4 : decode jdk_52_method_2_code 4 = .ok (.newarray .byte, 2) := by decide +kernel
theorem d46_6 : decode jdk_52_method_2_code 6 = .ok (.areturn, 1) := by decide +kernel
theorem c_nbf (l : Launch) (Z : State) (a0 : Array Value) (hw : ∀ d ∈ tables_1, d.before a0 Z = true) (hEW : EW Z a0 consts_1) (n0 : Nat) (c1 : Int32) (hc1 : ¬ c1 = 0) (S1 : Sta Z Z.heap "java/lang/String" "COMPACT_STRINGS" "Z" (.int c1)) (v2 : Value) (hv2 : v2.isRef = true) (S2 : Sta Z Z.heap "jdk/internal/util/Preconditions" "SIOOBE_FORMATTER" "Ljava/util/function/BiFunction;" v2) (S3 : Sta Z Z.heap "java/lang/StringUTF16" "$assertionsDisabled" "Z" (.int 1)) (S4 : Sta Z Z.heap "java/lang/StringUTF16" "HI_BYTE_SHIFT" "I" (.int 0)) (S5 : Sta Z Z.heap "java/lang/StringUTF16" "LO_BYTE_SHIFT" "I" (.int 8)) (n : Nat) {h0 : Heap} (o1 : Old Z n0 h0) (hn : n ≤ 16) :
    Con Z a0 l (⟨"java/lang/StringUTF16", "newBytesFor", "(I)[B"⟩ : MethodName) jdk_52_method_2_code 1 (some (.array .byte)) ({ frames := 1, cells := 1, slots := 32, locals := 12 } : Room) [] #[(.int (Int32.ofNat n))] consts_1 h0 n0 [] [] (VV fun w h so => ∃ d, w = .ref d ∧ (∃ k, Arv Z h d k .byte (Int32.ofNat (n * 2)) [] (.int 0)) ∧ h0.size ≤ d ∧ so = [d]) := by
  refine Con.body (plainFor_of_name pn_java_lang_StringUTF16) hEW o1 all0 #[.val (.int (Int32.ofNat n))] (fun m => by first | (simp [entryFrame, mkF, argsToLocals, Value.category]; done) | rfl) ?_
  intro p e s m below meth c B hnm hret hlk G
  replace G := G.iloadN 1 d46_0 rfl rfl
  obtain ⟨vn, h_n, son, G', Kn, Qn⟩ := G.callS 4 (hw _ (mm 229 rfl)) (hw _ (mm 230 rfl)) (hw _ (mm 218 rfl)) (hw _ (mm 231 rfl)) (by decide) [(.int (Int32.ofNat n))] [] rfl (c_nbl l Z a0 hw hEW n0 c1 hc1 S1 v2 hv2 S2 S3 S4 S5 n G.old (by omega)) (lenOf pd__I_I rfl) d46_1 rfl (nle rfl) (nle rfl) (nle rfl) (nle rfl) all0 all0 all0 rfl
  replace G := G'; clear G'
  obtain ⟨wn, qn, rfl, en, rfl⟩ := Qn
  replace G := G.val qn
  subst en
  obtain ⟨d, h1, kd, G', gd, sd, Ed, Ad⟩ := G.newarray 6 (hw _ (mm 30 rfl)) d46_4 (ofn_nn (by omega)) 32 (by rw [ofn_nat (by omega)]; omega) (by decide) rfl (nle rfl) (nle rfl)
  replace G := G'; clear G'
  exact G.retA hret rfl rfl hlk d46_6 [d] (allS (mm 0 rfl) all0) ⟨_, rfl, d, rfl, ⟨kd, Ad⟩, sd, rfl⟩ (nle rfl) (nle rfl)
theorem d45_0 : decode jdk_52_method_14_code 0 = .ok (.iload_n 2, 1) := by decide +kernel
theorem d45_1 : decode jdk_52_method_14_code 1 = .ok (.invokestatic 107, 3) := by decide +kernel
theorem d45_4 : decode jdk_52_method_14_code 4 = .ok (.astore_n 3, 1) := by decide +kernel
theorem d45_5 : decode jdk_52_method_14_code 5 = .ok (.iconst 0, 1) := by decide +kernel
theorem d45_6 : decode jdk_52_method_14_code 6 = .ok (.istore 4, 2) := by decide +kernel
theorem d45_8 : decode jdk_52_method_14_code 8 = .ok (.iload 4, 2) := by decide +kernel
theorem d45_10 : decode jdk_52_method_14_code 10 = .ok (.iload_n 2, 1) := by decide +kernel
theorem d45_11 : decode jdk_52_method_14_code 11 = .ok (.if_icmp .ge 21, 3) := by decide +kernel
theorem d45_14 : decode jdk_52_method_14_code 14 = .ok (.aload_n 3, 1) := by decide +kernel
theorem d45_15 : decode jdk_52_method_14_code 15 = .ok (.iload 4, 2) := by decide +kernel
theorem d45_17 : decode jdk_52_method_14_code 17 = .ok (.aload_n 0, 1) := by decide +kernel
theorem d45_18 : decode jdk_52_method_14_code 18 = .ok (.iload_n 1, 1) := by decide +kernel
theorem d45_19 : decode jdk_52_method_14_code 19 = .ok (.caload, 1) := by decide +kernel
theorem d45_20 : decode jdk_52_method_14_code 20 = .ok (.invokestatic 111, 3) := by decide +kernel
theorem d45_23 : decode jdk_52_method_14_code 23 = .ok (.iinc 1 1, 3) := by decide +kernel
theorem d45_26 : decode jdk_52_method_14_code 26 = .ok (.iinc 4 1, 3) := by decide +kernel
theorem d45_29 : decode jdk_52_method_14_code 29 = .ok (.goto (-21), 3) := by decide +kernel
theorem d45_32 : decode jdk_52_method_14_code 32 = .ok (.aload_n 3, 1) := by decide +kernel
theorem d45_33 : decode jdk_52_method_14_code 33 = .ok (.areturn, 1) := by decide +kernel
theorem c_toBy (l : Launch) (Z : State) (a0 : Array Value) (hw : ∀ d ∈ tables_1, d.before a0 Z = true) (hEW : EW Z a0 consts_1) (n0 : Nat) (c1 : Int32) (hc1 : ¬ c1 = 0) (S1 : Sta Z Z.heap "java/lang/String" "COMPACT_STRINGS" "Z" (.int c1)) (v2 : Value) (hv2 : v2.isRef = true) (S2 : Sta Z Z.heap "jdk/internal/util/Preconditions" "SIOOBE_FORMATTER" "Ljava/util/function/BiFunction;" v2) (S3 : Sta Z Z.heap "java/lang/StringUTF16" "$assertionsDisabled" "Z" (.int 1)) (S4 : Sta Z Z.heap "java/lang/StringUTF16" "HI_BYTE_SHIFT" "I" (.int 0)) (S5 : Sta Z Z.heap "java/lang/StringUTF16" "LO_BYTE_SHIFT" "I" (.int 8)) (va : Addr) (kv : ClassId) (cs : List Nat) {h0 : Heap} (o1 : Old Z n0 h0) (hmax : cs.length ≤ 8) (hc : ∀ c ∈ cs, c < 65536) (Av : Arv Z h0 va kv .char (Int32.ofNat cs.length) (cs.map fun c => Value.int (Int32.ofNat c)) (.int 0)) :
    Con Z a0 l (⟨"java/lang/StringUTF16", "toBytes", "([CII)[B"⟩ : MethodName) jdk_52_method_14_code 5 (some (.array .byte)) ({ frames := 2, cells := 1, slots := 32, locals := 24 } : Room) [] #[(.ref va), (.int (0 : Int32)), (.int (Int32.ofNat cs.length))] consts_1 h0 n0 [] [] (VV fun w h so => ∃ d, w = .ref d ∧ (∃ k, Arv Z h d k .byte (Int32.ofNat (cs.length * 2)) (encS 1 cs) (.int 0)) ∧ h0.size ≤ d ∧ so = [d]) := by
  refine Con.body (plainFor_of_name pn_java_lang_StringUTF16) hEW o1 all0 #[.val (.ref va), .val (.int (0 : Int32)), .val (.int (Int32.ofNat cs.length)), .unset, .unset] (fun m => by first | (simp [entryFrame, mkF, argsToLocals, Value.category]; done) | rfl) ?_
  intro p e s m below meth c B hnm hret hlk G
  have hn : cs.length < 1000 := by omega
  replace G := G.iloadN 1 d45_0 rfl rfl
  obtain ⟨vn, h1, son, G', Kn, Qn⟩ := G.callS 4 (hw _ (mm 226 rfl)) (hw _ (mm 227 rfl)) (hw _ (mm 218 rfl)) (hw _ (mm 228 rfl)) (by decide) [(.int (Int32.ofNat cs.length))] [] rfl (c_nbf l Z a0 hw hEW n0 c1 hc1 S1 v2 hv2 S2 S3 S4 S5 cs.length G.old (by omega)) (lenOf pd__I__B rfl) d45_1 rfl (nle rfl) (nle rfl) (nle rfl) (nle rfl) all0 all0 all0 rfl
  replace G := G'; clear G'
  obtain ⟨wn, qn, d, rfl, ⟨kdd, Ad⟩, sd, rfl⟩ := Qn
  replace G := G.val qn
  have nvd : va ≠ d := (ne_ge Av.lt sd).symm
  replace Av := Av.keep Kn nin0
  replace G := G.astoreN 5 #[.val (.ref va), .val (.int (0 : Int32)), .val (.int (Int32.ofNat cs.length)), .val (.ref d), .unset] d45_4 rfl rfl rfl |>.iconst 6 (0 : Int32) d45_5 rfl rfl |>.istore 8 #[.val (.ref va), .val (.int (0 : Int32)), .val (.int (Int32.ofNat cs.length)), .val (.ref d), .val (.int (0 : Int32))] d45_6 rfl rfl
  have loop : ∀ (k : Nat) (h : Heap) (i : Nat), i + k = cs.length → Arv Z h va kv .char (Int32.ofNat cs.length) (cs.map fun c => Value.int (Int32.ofNat c)) (.int 0) → Arv Z h d kdd .byte (Int32.ofNat (cs.length * 2)) (encS 1 (cs.take i)) (.int 0) → Wl Z a0 "java/lang/StringUTF16" p l e ({ frames := 2, cells := 1, slots := 32, locals := 24 } : Room) s m #[(.ref va), (.int (0 : Int32)), (.int (Int32.ofNat cs.length))] below meth c jdk_52_method_14_code 5 B consts_1 h0 n0 [] [d] h 1 32 8 #[.val (.ref va), .val (.int (Int32.ofNat i)), .val (.int (Int32.ofNat cs.length)), .val (.ref d), .val (.int (Int32.ofNat i))] [] → Fin Z consts_1 p e below B s h0 n0 [] ({ frames := 2, cells := 1, slots := 32, locals := 24 } : Room).cells ({ frames := 2, cells := 1, slots := 32, locals := 24 } : Room).slots (VV fun w h so => ∃ d, w = .ref d ∧ (∃ k, Arv Z h d k .byte (Int32.ofNat (cs.length * 2)) (encS 1 cs) (.int 0)) ∧ h0.size ≤ d ∧ so = [d]) := by
    intro k; induction k with
    | zero =>
      intro h i hik Av Ad G
      obtain rfl : i = cs.length := by omega
      replace G := G.iload 10 d45_8 rfl rfl |>.iloadN 11 d45_10 rfl rfl |>.icmpT 32 d45_11 (XT.ii_ge_t (ofn_nlt (Nat.le_refl _) (by omega))) (by decide) (by decide) |>.aloadN 33 d45_32 rfl rfl rfl
      rw [List.take_length] at Ad
      exact G.retA hret rfl rfl hlk d45_33 [d] (allS (mm 0 rfl) all0) ⟨_, rfl, d, rfl, ⟨kdd, Ad⟩, sd, rfl⟩ (nle rfl) (nle rfl)
    | succ k ih =>
      intro h i hik Av Ad G
      have hi : i < cs.length := by omega
      have hci := hc _ (getD_memN cs i hi)
      replace G := G.iload 10 d45_8 rfl rfl |>.iloadN 11 d45_10 rfl rfl |>.icmpF 14 d45_11 (XT.ii_ge_f (ofn_lt hi (by omega))) rfl |>.aloadN 15 d45_14 rfl rfl rfl |>.iload 17 d45_15 rfl rfl |>.aloadN 18 d45_17 rfl rfl rfl |>.iloadN 19 d45_18 rfl rfl |>.caload 20 (v := (.int (Int32.ofNat (cs.getD i 0)))) Av ⟨ofn_nn (by omega), ofn_lt hi (by omega)⟩ (by rw [ofn_nat (by omega)]; exact getD_mapN cs i hi) d45_19 rfl
      have hti : (cs.take i).length = i := by rw [List.length_take]; omega
      replace G := G.cast (S' := [(.int (Int32.ofNat (cs.getD i 0))), (.int (Int32.ofNat (cs.take i).length)), (.ref d)]) rfl (by rw [hti])
      obtain ⟨vp, h2, sop, G', Kp, Qp⟩ := G.callS 23 (hw _ (mm 233 rfl)) (hw _ (mm 234 rfl)) (hw _ (mm 218 rfl)) (hw _ (mm 235 rfl)) (by decide) [(.ref d), (.int (Int32.ofNat (cs.take i).length)), (.int (Int32.ofNat (cs.getD i 0)))] [] rfl (c_putCh l Z a0 hw hEW n0 c1 hc1 S1 v2 hv2 S2 S3 S4 S5 d kdd cs.length (cs.getD i 0) (cs.take i) G.old (G.nw (Or.inr sd)) hci (by rw [hti]; exact hi) (by omega) Ad) (lenOf pd___BII_V rfl) d45_20 rfl (nle rfl) (nle rfl) (nle rfl) (nle rfl) (allS (Or.inr sd) all0) (allS (mm 0 rfl) all0) (allS (mm 0 rfl) all0) rfl
      replace G := G'; clear G'
      obtain ⟨qp, Ad, rfl⟩ := Qp
      replace G := G.nov qp
      replace Av := Av.keep Kp (ninS nvd nin0)
      rw [← tk_succN cs i hi] at Ad
      replace G := G.iincV 26 #[.val (.ref va), .val (.int (Int32.ofNat (i + 1))), .val (.int (Int32.ofNat cs.length)), .val (.ref d), .val (.int (Int32.ofNat i))] (Int32.ofNat (i + 1)) d45_23 rfl (ofn_succ i) rfl rfl |>.iincV 29 #[.val (.ref va), .val (.int (Int32.ofNat (i + 1))), .val (.int (Int32.ofNat cs.length)), .val (.ref d), .val (.int (Int32.ofNat (i + 1)))] (Int32.ofNat (i + 1)) d45_26 rfl (ofn_succ i) rfl rfl |>.goto 8 d45_29 (by decide) (by decide)
      exact ih _ (i + 1) (by omega) Av Ad G
  exact loop cs.length _ 0 (by omega) Av Ad G
theorem d44_0 : decode jdk_52_method_21_code 0 = .ok (.iconst 0, 1) := by decide +kernel
theorem d44_1 : decode jdk_52_method_21_code 1 = .ok (.istore 5, 2) := by decide +kernel
theorem d44_3 : decode jdk_52_method_21_code 3 = .ok (.iload 5, 2) := by decide +kernel
theorem d44_5 : decode jdk_52_method_21_code 5 = .ok (.iload 4, 2) := by decide +kernel
theorem d44_7 : decode jdk_52_method_21_code 7 = .ok (.if_icmp .ge 37, 3) := by decide +kernel
theorem d44_10 : decode jdk_52_method_21_code 10 = .ok (.aload_n 0, 1) := by decide +kernel
theorem d44_11 : decode jdk_52_method_21_code 11 = .ok (.iload_n 1, 1) := by decide +kernel
theorem d44_12 : decode jdk_52_method_21_code 12 = .ok (.caload, 1) := by decide +kernel
theorem d44_13 : decode jdk_52_method_21_code 13 = .ok (.istore 6, 2) := by decide +kernel
theorem d44_15 : decode jdk_52_method_21_code 15 = .ok (.iload 6, 2) := by decide +kernel
theorem d44_17 : decode jdk_52_method_21_code 17 = .ok (.sipush 255, 3) := by decide +kernel
theorem d44_20 : decode jdk_52_method_21_code 20 = .ok (.if_icmp .le 6, 3) := by decide +kernel
theorem d44_23 : decode jdk_52_method_21_code 23 = .ok (.iload 5, 2) := by decide +kernel
theorem d44_25 : decode jdk_52_method_21_code 25 = .ok (.ireturn, 1) := by decide +kernel
theorem d44_26 : decode jdk_52_method_21_code 26 = .ok (.aload_n 2, 1) := by decide +kernel
theorem d44_27 : decode jdk_52_method_21_code 27 = .ok (.iload_n 3, 1) := by decide +kernel
theorem d44_28 : decode jdk_52_method_21_code 28 = .ok (.iload 6, 2) := by decide +kernel
theorem d44_30 : decode jdk_52_method_21_code 30 = .ok (.i2b, 1) := by decide +kernel
theorem d44_31 : decode jdk_52_method_21_code 31 = .ok (.bastore, 1) := by decide +kernel
theorem d44_32 : decode jdk_52_method_21_code 32 = .ok (.iinc 1 1, 3) := by decide +kernel
theorem d44_35 : decode jdk_52_method_21_code 35 = .ok (.iinc 3 1, 3) := by decide +kernel
theorem d44_38 : decode jdk_52_method_21_code 38 = .ok (.iinc 5 1, 3) := by decide +kernel
theorem d44_41 : decode jdk_52_method_21_code 41 = .ok (.goto (-38), 3) := by decide +kernel
theorem d44_44 : decode jdk_52_method_21_code 44 = .ok (.iload 4, 2) := by decide +kernel
theorem d44_46 : decode jdk_52_method_21_code 46 = .ok (.ireturn, 1) := by decide +kernel
theorem c_cmpN (l : Launch) (Z : State) (a0 : Array Value) (hw : ∀ d ∈ tables_1, d.before a0 Z = true) (hEW : EW Z a0 consts_1) (n0 : Nat) (c1 : Int32) (hc1 : ¬ c1 = 0) (S1 : Sta Z Z.heap "java/lang/String" "COMPACT_STRINGS" "Z" (.int c1)) (v2 : Value) (hv2 : v2.isRef = true) (S2 : Sta Z Z.heap "jdk/internal/util/Preconditions" "SIOOBE_FORMATTER" "Ljava/util/function/BiFunction;" v2) (S3 : Sta Z Z.heap "java/lang/StringUTF16" "$assertionsDisabled" "Z" (.int 1)) (S4 : Sta Z Z.heap "java/lang/StringUTF16" "HI_BYTE_SHIFT" "I" (.int 0)) (S5 : Sta Z Z.heap "java/lang/StringUTF16" "LO_BYTE_SHIFT" "I" (.int 8)) (va d : Addr) (kv kdd : ClassId) (cs : List Nat) {h0 : Heap} (o1 : Old Z n0 h0) (ge_d : n0 ≤ d) (hmax : cs.length ≤ 8) (hc : ∀ c ∈ cs, c < 65536) (nvd : va ≠ d) (Av : Arv Z h0 va kv .char (Int32.ofNat cs.length) (cs.map fun c => Value.int (Int32.ofNat c)) (.int 0)) (Ad : Arv Z h0 d kdd .byte (Int32.ofNat cs.length) [] (.int 0)) :
    Con Z a0 l (⟨"java/lang/StringUTF16", "compress", "([CI[BII)I"⟩ : MethodName) jdk_52_method_21_code 7 (some .int) ({ frames := 0, cells := 0, slots := 0, locals := 0 } : Room) [] #[(.ref va), (.int (0 : Int32)), (.ref d), (.int (0 : Int32)), (.int (Int32.ofNat cs.length))] consts_1 h0 n0 [d] [d] (VV fun w h so => ∃ j, w = .int (Int32.ofNat j) ∧ ((j = cs.length ∧ (∀ c ∈ cs, c < 256) ∧ Arv Z h d kdd .byte (Int32.ofNat cs.length) (encS 0 cs) (.int 0)) ∨ (j < cs.length ∧ 256 ≤ cs.getD j 0)) ∧ so = []) := by
  refine Con.body (plainFor_of_name pn_java_lang_StringUTF16) hEW o1 (allS ge_d all0) #[.val (.ref va), .val (.int (0 : Int32)), .val (.ref d), .val (.int (0 : Int32)), .val (.int (Int32.ofNat cs.length)), .unset, .unset] (fun m => by first | (simp [entryFrame, mkF, argsToLocals, Value.category]; done) | rfl) ?_
  intro p e s m below meth c B hnm hret hlk G
  have hn : cs.length < 2147483648 := by omega
  have loop : ∀ (k : Nat) (h : Heap) (i : Nat) (sl : Slot), (sl = .unset ∨ ∃ cc : Int32, sl = .val (.int cc)) → i + k = cs.length → (∀ c ∈ cs.take i, c < 256) → Arv Z h va kv .char (Int32.ofNat cs.length) (cs.map fun c => Value.int (Int32.ofNat c)) (.int 0) → Arv Z h d kdd .byte (Int32.ofNat cs.length) (encS 0 (cs.take i)) (.int 0) → Wl Z a0 "java/lang/StringUTF16" p l e ({ frames := 0, cells := 0, slots := 0, locals := 0 } : Room) s m #[(.ref va), (.int (0 : Int32)), (.ref d), (.int (0 : Int32)), (.int (Int32.ofNat cs.length))] below meth c jdk_52_method_21_code 7 B consts_1 h0 n0 [d] [d] h 0 0 3 #[.val (.ref va), .val (.int (Int32.ofNat i)), .val (.ref d), .val (.int (Int32.ofNat i)), .val (.int (Int32.ofNat cs.length)), .val (.int (Int32.ofNat i)), sl] [] → Fin Z consts_1 p e below B s h0 n0 [d] ({ frames := 0, cells := 0, slots := 0, locals := 0 } : Room).cells ({ frames := 0, cells := 0, slots := 0, locals := 0 } : Room).slots (VV fun w h so => ∃ j, w = .int (Int32.ofNat j) ∧ ((j = cs.length ∧ (∀ c ∈ cs, c < 256) ∧ Arv Z h d kdd .byte (Int32.ofNat cs.length) (encS 0 cs) (.int 0)) ∨ (j < cs.length ∧ 256 ≤ cs.getD j 0)) ∧ so = []) := by
    intro k; induction k with
    | zero =>
      intro h i sl hsl hik hall Av Ad G
      obtain rfl : i = cs.length := by omega
      replace G := G.iload 5 d44_3 rfl rfl |>.iload 7 d44_5 rfl rfl |>.icmpT 44 d44_7 (XT.ii_ge_t (ofn_nlt (Nat.le_refl _) hn)) (by decide) (by decide) |>.iload 46 d44_44 rfl rfl
      rw [List.take_length] at Ad hall
      exact G.retI hret hlk d44_46 [] all0 ⟨_, rfl, cs.length, rfl, Or.inl ⟨rfl, hall, Ad⟩, rfl⟩ (nle rfl) (nle rfl)
    | succ k ih =>
      intro h i sl hsl hik hall Av Ad G
      have hi : i < cs.length := by omega
      have hci := hc _ (getD_memN cs i hi)
      replace G := G.iload 5 d44_3 rfl rfl |>.iload 7 d44_5 rfl rfl |>.icmpF 10 d44_7 (XT.ii_ge_f (ofn_lt hi hn)) rfl |>.aloadN 11 d44_10 rfl rfl rfl |>.iloadN 12 d44_11 rfl rfl |>.caload 13 (v := (.int (Int32.ofNat (cs.getD i 0)))) Av ⟨ofn_nn (by omega), ofn_lt hi hn⟩ (by rw [ofn_nat (by omega)]; exact getD_mapN cs i hi) d44_12 rfl |>.istore 15 #[.val (.ref va), .val (.int (Int32.ofNat i)), .val (.ref d), .val (.int (Int32.ofNat i)), .val (.int (Int32.ofNat cs.length)), .val (.int (Int32.ofNat i)), .val (.int (Int32.ofNat (cs.getD i 0)))] d44_13 (by rcases hsl with rfl | ⟨cc, rfl⟩ <;> rfl) rfl |>.iload 17 d44_15 rfl rfl
      replace G := G.sipush 20 (255 : Int32) d44_17 (by decide) rfl
      rcases Nat.lt_or_ge (cs.getD i 0) 256 with hx | hx
      · skip
        replace G := G.icmpT 26 d44_20 (XT.ii_le_t (c255 hx)) (by decide) (by decide) |>.aloadN 27 d44_26 rfl rfl rfl |>.iloadN 28 d44_27 rfl rfl |>.iload 30 d44_28 rfl rfl |>.i2b 31 d44_30 rfl
        have hti : (encS 0 (cs.take i)).length = i := by rw [encS_len0, List.length_take]; omega
        have Ad' := Ad.pad (vs' := encS 0 (cs.take i) ++ [(.int 0)]) (pad_rep _ (.int 0) 1)
        obtain ⟨h2, G', As, Ks⟩ := G.bastore 32 i Ad' ⟨ofn_nn (by omega), ofn_lt hi hn⟩ (ofn_nat (by omega)) (by rw [List.length_append, hti]; simp) (Or.inl (mm 0 rfl)) (mm 0 rfl) d44_31 rfl
        replace G := G'; clear G'
        rw [set_app _ _ _ _ hti, byt2] at As
        replace As : Arv Z h2 d kdd .byte (Int32.ofNat cs.length) (encS 0 (cs.take (i + 1))) (.int 0) := by rw [tk_succN cs i hi, encS_app]; exact As
        replace Av := Av.keep Ks (ninS nvd nin0)
        have hall' : ∀ c ∈ cs.take (i + 1), c < 256 := by rw [tk_succN cs i hi]; intro c hc'; rcases List.mem_append.mp hc' with q | q; exact hall c q; cases List.mem_singleton.mp q; exact hx
        replace G := G.iincV 35 #[.val (.ref va), .val (.int (Int32.ofNat (i + 1))), .val (.ref d), .val (.int (Int32.ofNat i)), .val (.int (Int32.ofNat cs.length)), .val (.int (Int32.ofNat i)), .val (.int (Int32.ofNat (cs.getD i 0)))] (Int32.ofNat (i + 1)) d44_32 rfl (ofn_succ i) rfl rfl |>.iincV 38 #[.val (.ref va), .val (.int (Int32.ofNat (i + 1))), .val (.ref d), .val (.int (Int32.ofNat (i + 1))), .val (.int (Int32.ofNat cs.length)), .val (.int (Int32.ofNat i)), .val (.int (Int32.ofNat (cs.getD i 0)))] (Int32.ofNat (i + 1)) d44_35 rfl (ofn_succ i) rfl rfl |>.iincV 41 #[.val (.ref va), .val (.int (Int32.ofNat (i + 1))), .val (.ref d), .val (.int (Int32.ofNat (i + 1))), .val (.int (Int32.ofNat cs.length)), .val (.int (Int32.ofNat (i + 1))), .val (.int (Int32.ofNat (cs.getD i 0)))] (Int32.ofNat (i + 1)) d44_38 rfl (ofn_succ i) rfl rfl |>.goto 3 d44_41 (by decide) (by decide)
        exact ih _ (i + 1) _ (Or.inr ⟨_, rfl⟩) (by omega) hall' Av As G
      · skip
        replace G := G.icmpF 23 d44_20 (XT.ii_le_f (ofn_lt (i := 255) hx (by omega))) rfl |>.iload 25 d44_23 rfl rfl
        exact G.retI hret hlk d44_25 [] all0 ⟨_, rfl, i, rfl, Or.inr ⟨hi, hx⟩, rfl⟩ (nle rfl) (nle rfl)
  replace G := G.iconst 1 (0 : Int32) d44_0 rfl rfl |>.istore 3 #[.val (.ref va), .val (.int (0 : Int32)), .val (.ref d), .val (.int (0 : Int32)), .val (.int (Int32.ofNat cs.length)), .val (.int (0 : Int32)), .unset] d44_1 rfl rfl
  exact loop cs.length _ 0 _ (Or.inl rfl) (by omega) (fun c q => nomatch q) Av Ad G
theorem d43_0 : decode jdk_52_method_16_code 0 = .ok (.iload_n 2, 1) := by decide +kernel
theorem d43_1 : decode jdk_52_method_16_code 1 = .ok (.newarray .byte, 2) := by decide +kernel
theorem d43_3 : decode jdk_52_method_16_code 3 = .ok (.astore_n 3, 1) := by decide +kernel
theorem d43_4 : decode jdk_52_method_16_code 4 = .ok (.aload_n 0, 1) := by decide +kernel
theorem d43_5 : decode jdk_52_method_16_code 5 = .ok (.iload_n 1, 1) := by decide +kernel
theorem d43_6 : decode jdk_52_method_16_code 6 = .ok (.aload_n 3, 1) := by decide +kernel
theorem d43_7 : decode jdk_52_method_16_code 7 = .ok (.iconst 0, 1) := by decide +kernel
theorem d43_8 : decode jdk_52_method_16_code 8 = .ok (.iload_n 2, 1) := by decide +kernel
theorem d43_9 : decode jdk_52_method_16_code 9 = .ok (.invokestatic 115, 3) := by decide +kernel
theorem d43_12 : decode jdk_52_method_16_code 12 = .ok (.istore 4, 2) := by decide +kernel
theorem d43_14 : decode jdk_52_method_16_code 14 = .ok (.iload 4, 2) := by decide +kernel
theorem d43_16 : decode jdk_52_method_16_code 16 = .ok (.iload_n 2, 1) := by decide +kernel
theorem d43_17 : decode jdk_52_method_16_code 17 = .ok (.if_icmp .eq 40, 3) := by decide +kernel
theorem d43_20 : decode jdk_52_method_16_code 20 = .ok (.aload_n 0, 1) := by decide +kernel
theorem d43_21 : decode jdk_52_method_16_code 21 = .ok (.iload_n 1, 1) := by decide +kernel
theorem d43_22 : decode jdk_52_method_16_code 22 = .ok (.iload_n 2, 1) := by decide +kernel
theorem d43_23 : decode jdk_52_method_16_code 23 = .ok (.invokestatic 119, 3) := by decide +kernel
theorem d43_26 : decode jdk_52_method_16_code 26 = .ok (.astore 5, 2) := by decide +kernel
theorem d43_28 : decode jdk_52_method_16_code 28 = .ok (.aload 5, 2) := by decide +kernel
theorem d43_30 : decode jdk_52_method_16_code 30 = .ok (.iload 4, 2) := by decide +kernel
theorem d43_32 : decode jdk_52_method_16_code 32 = .ok (.invokestatic 71, 3) := by decide +kernel
theorem d43_35 : decode jdk_52_method_16_code 35 = .ok (.sipush 255, 3) := by decide +kernel
theorem d43_38 : decode jdk_52_method_16_code 38 = .ok (.if_icmp .gt 16, 3) := by decide +kernel
theorem d43_41 : decode jdk_52_method_16_code 41 = .ok (.aload 5, 2) := by decide +kernel
theorem d43_43 : decode jdk_52_method_16_code 43 = .ok (.iconst 0, 1) := by decide +kernel
theorem d43_44 : decode jdk_52_method_16_code 44 = .ok (.aload_n 3, 1) := by decide +kernel
theorem d43_45 : decode jdk_52_method_16_code 45 = .ok (.iconst 0, 1) := by decide +kernel
theorem d43_46 : decode jdk_52_method_16_code 46 = .ok (.iload_n 2, 1) := by decide +kernel
theorem d43_47 : decode jdk_52_method_16_code 47 = .ok (.invokestatic 123, 3) := by decide +kernel
theorem d43_50 : decode jdk_52_method_16_code 50 = .ok (.iload_n 2, 1) := by decide +kernel
theorem d43_51 : decode jdk_52_method_16_code 51 = .ok (.if_icmp .eq 6, 3) := by decide +kernel
theorem d43_54 : decode jdk_52_method_16_code 54 = .ok (.aload 5, 2) := by decide +kernel
theorem d43_56 : decode jdk_52_method_16_code 56 = .ok (.areturn, 1) := by decide +kernel
theorem d43_57 : decode jdk_52_method_16_code 57 = .ok (.aload_n 3, 1) := by decide +kernel
theorem d43_58 : decode jdk_52_method_16_code 58 = .ok (.areturn, 1) := by decide +kernel
theorem c_cmpK (l : Launch) (Z : State) (a0 : Array Value) (hw : ∀ d ∈ tables_1, d.before a0 Z = true) (hEW : EW Z a0 consts_1) (n0 : Nat) (c1 : Int32) (hc1 : ¬ c1 = 0) (S1 : Sta Z Z.heap "java/lang/String" "COMPACT_STRINGS" "Z" (.int c1)) (v2 : Value) (hv2 : v2.isRef = true) (S2 : Sta Z Z.heap "jdk/internal/util/Preconditions" "SIOOBE_FORMATTER" "Ljava/util/function/BiFunction;" v2) (S3 : Sta Z Z.heap "java/lang/StringUTF16" "$assertionsDisabled" "Z" (.int 1)) (S4 : Sta Z Z.heap "java/lang/StringUTF16" "HI_BYTE_SHIFT" "I" (.int 0)) (S5 : Sta Z Z.heap "java/lang/StringUTF16" "LO_BYTE_SHIFT" "I" (.int 8)) (va : Addr) (kv : ClassId) (cs : List Nat) {h0 : Heap} (o1 : Old Z n0 h0) (hmax : cs.length ≤ 8) (hc : ∀ c ∈ cs, c < 65536) (Av : Arv Z h0 va kv .char (Int32.ofNat cs.length) (cs.map fun c => Value.int (Int32.ofNat c)) (.int 0)) :
    Con Z a0 l (⟨"java/lang/StringUTF16", "compress", "([CII)[B"⟩ : MethodName) jdk_52_method_16_code 6 (some (.array .byte)) ({ frames := 3, cells := 2, slots := 40, locals := 40 } : Room) [] #[(.ref va), (.int (0 : Int32)), (.int (Int32.ofNat cs.length))] consts_1 h0 n0 [] [] (VV fun w h so => ∃ d, w = .ref d ∧ (∃ kb, Arv Z h d kb .byte (Int32.ofNat (cs.length * 2 ^ kd cs)) (encS (kd cs) cs) (.int 0)) ∧ h0.size ≤ d ∧ so = [d]) := by
  refine Con.body (plainFor_of_name pn_java_lang_StringUTF16) hEW o1 all0 #[.val (.ref va), .val (.int (0 : Int32)), .val (.int (Int32.ofNat cs.length)), .unset, .unset, .unset] (fun m => by first | (simp [entryFrame, mkF, argsToLocals, Value.category]; done) | rfl) ?_
  intro p e s m below meth c B hnm hret hlk G
  have hn : cs.length < 2147483648 := by omega
  replace G := G.iloadN 1 d43_0 rfl rfl
  obtain ⟨d, h1, kd, G', gd, sd, Ed, Ad⟩ := G.newarray 3 (hw _ (mm 30 rfl)) d43_1 (ofn_nn hn) 8 (by rw [ofn_nat hn]; exact hmax) (by decide) rfl (nle rfl) (nle rfl)
  replace G := G'; clear G'
  have nvd : va ≠ d := ne_new gd Av.lt
  replace Av := Av.ext Ed
  replace G := G.astoreN 4 #[.val (.ref va), .val (.int (0 : Int32)), .val (.int (Int32.ofNat cs.length)), .val (.ref d), .unset, .unset] d43_3 rfl rfl rfl |>.aloadN 5 d43_4 rfl rfl rfl |>.iloadN 6 d43_5 rfl rfl |>.aloadN 7 d43_6 rfl rfl rfl |>.iconst 8 (0 : Int32) d43_7 rfl rfl |>.iloadN 9 d43_8 rfl rfl
  obtain ⟨vc, h2, soc, G', Kc, Qc⟩ := G.callS 12 (hw _ (mm 220 rfl)) (hw _ (mm 221 rfl)) (hw _ (mm 218 rfl)) (hw _ (mm 222 rfl)) (by decide) [(.ref va), (.int (0 : Int32)), (.ref d), (.int (0 : Int32)), (.int (Int32.ofNat cs.length))] [] rfl (c_cmpN l Z a0 hw hEW n0 c1 hc1 S1 v2 hv2 S2 S3 S4 S5 va d kv kd cs G.old (G.nw (Or.inr sd)) hmax hc nvd Av Ad) (lenOf pd___CI_BII_I rfl) d43_9 rfl (nle rfl) (nle rfl) (nle rfl) (nle rfl) (allS (Or.inr sd) all0) (allS (mm 0 rfl) all0) (allS (mm 0 rfl) all0) rfl
  replace G := G'; clear G'
  obtain ⟨wc, qc, j, rfl, hj, rfl⟩ := Qc
  replace G := G.val qc
  replace Av := Av.keep Kc (ninS nvd nin0)
  replace G := G.istore 14 #[.val (.ref va), .val (.int (0 : Int32)), .val (.int (Int32.ofNat cs.length)), .val (.ref d), .val (.int (Int32.ofNat j)), .unset] d43_12 rfl rfl |>.iload 16 d43_14 rfl rfl |>.iloadN 17 d43_16 rfl rfl
  rcases hj with hj | hj
  · skip
    obtain ⟨rfl, hall, Ae⟩ := hj
    replace G := G.icmpT 57 d43_17 (XT.ii_eq_t rfl) (by decide) (by decide) |>.aloadN 58 d43_57 rfl rfl rfl
    exact G.retA hret rfl rfl hlk d43_58 [d] (allS (mm 0 rfl) all0) ⟨_, rfl, d, rfl, ⟨_, by rw [kd_of hall, Nat.pow_zero, Nat.mul_one]; exact Ae⟩, sd, rfl⟩ (nle rfl) (nle rfl)
  · skip
    obtain ⟨hj, hx⟩ := hj
    replace G := G.icmpF 20 d43_17 (XT.ii_eq_f (ofn_ne (by omega) (by omega) hn)) rfl |>.aloadN 21 d43_20 rfl rfl rfl |>.iloadN 22 d43_21 rfl rfl |>.iloadN 23 d43_22 rfl rfl
    have sz := G.sz
    obtain ⟨vt, h3, sot, G', Kt, Qt⟩ := G.callS 26 (hw _ (mm 223 rfl)) (hw _ (mm 224 rfl)) (hw _ (mm 218 rfl)) (hw _ (mm 225 rfl)) (by decide) [(.ref va), (.int (0 : Int32)), (.int (Int32.ofNat cs.length))] [] rfl (c_toBy l Z a0 hw hEW n0 c1 hc1 S1 v2 hv2 S2 S3 S4 S5 va kv cs G.old (by omega) hc Av) (lenOf pd___CII__B rfl) d43_23 rfl (nle rfl) (nle rfl) (nle rfl) (nle rfl) all0 all0 all0 rfl
    replace G := G'; clear G'
    obtain ⟨wt, qt, e1, rfl, ⟨ke, Ae⟩, se, rfl⟩ := Qt
    replace G := G.val qt |>.astore 28 #[.val (.ref va), .val (.int (0 : Int32)), .val (.int (Int32.ofNat cs.length)), .val (.ref d), .val (.int (Int32.ofNat j)), .val (.ref e1)] d43_26 rfl rfl rfl |>.aload 30 d43_28 rfl rfl rfl |>.iload 32 d43_30 rfl rfl
    obtain ⟨vg, h_g, sog, G', Kg, Qg⟩ := G.callS 35 (hw _ (mm 239 rfl)) (hw _ (mm 240 rfl)) (hw _ (mm 218 rfl)) (hw _ (mm 241 rfl)) (by decide) [(.ref e1), (.int (Int32.ofNat j))] [] rfl (c_getCh l Z a0 hw hEW n0 c1 hc1 S1 v2 hv2 S2 S3 S4 S5 e1 ke cs.length j cs G.old (hc _ (getD_memN cs j hj)) hj (Nat.le_refl _) (by omega) Ae) (lenOf pd___BI_C rfl) d43_32 rfl (nle rfl) (nle rfl) (nle rfl) (nle rfl) all0 all0 all0 rfl
    replace G := G'; clear G'
    obtain ⟨wg, qg, rfl, eg, rfl⟩ := Qg
    replace G := G.val qg
    subst eg
    replace G := G.sipush 38 (255 : Int32) d43_35 (by decide) rfl
    have hcj := hc _ (getD_memN cs j hj)
    replace G := G.icmpT 54 d43_38 (XT.ii_gt_t (ofn_lt (i := 255) hx (by omega))) (by decide) (by decide) |>.aload 56 d43_54 rfl rfl rfl
    exact G.retA hret rfl rfl hlk d43_56 [e1] (allS (mm 0 rfl) all0) ⟨_, rfl, e1, rfl, ⟨_, by rw [kd1_of hj hx, Nat.pow_one]; exact Ae⟩, Nat.le_trans sz se, rfl⟩ (nle rfl) (nle rfl)
theorem d50_0 : decode jdk_52_method_15_code 0 = .ok (.iload_n 1, 1) := by decide +kernel
theorem d50_1 : decode jdk_52_method_15_code 1 = .ok (.aload_n 0, 1) := by decide +kernel
theorem d50_2 : decode jdk_52_method_15_code 2 = .ok (.arraylength, 1) := by decide +kernel
theorem d50_3 : decode jdk_52_method_15_code 3 = .ok (.isub, 1) := by decide +kernel
theorem d50_4 : decode jdk_52_method_15_code 4 = .ok (.bipush 31, 2) := by decide +kernel
theorem d50_6 : decode jdk_52_method_15_code 6 = .ok (.iushr, 1) := by decide +kernel
theorem d50_7 : decode jdk_52_method_15_code 7 = .ok (.i2b, 1) := by decide +kernel
theorem d50_8 : decode jdk_52_method_15_code 8 = .ok (.ireturn, 1) := by decide +kernel
theorem c_codK (l : Launch) (Z : State) (a0 : Array Value) (hw : ∀ d ∈ tables_1, d.before a0 Z = true) (hEW : EW Z a0 consts_1) (n0 : Nat) (c1 : Int32) (hc1 : ¬ c1 = 0) (S1 : Sta Z Z.heap "java/lang/String" "COMPACT_STRINGS" "Z" (.int c1)) (v2 : Value) (hv2 : v2.isRef = true) (S2 : Sta Z Z.heap "jdk/internal/util/Preconditions" "SIOOBE_FORMATTER" "Ljava/util/function/BiFunction;" v2) (S3 : Sta Z Z.heap "java/lang/StringUTF16" "$assertionsDisabled" "Z" (.int 1)) (S4 : Sta Z Z.heap "java/lang/StringUTF16" "HI_BYTE_SHIFT" "I" (.int 0)) (S5 : Sta Z Z.heap "java/lang/StringUTF16" "LO_BYTE_SHIFT" "I" (.int 8)) (b : Addr) (kb : ClassId) (n k : Nat) (vs : List Value) {h0 : Heap} (o1 : Old Z n0 h0) (hk : k = 0 ∨ k = 1) (h1 : 0 < n) (h2 : n < 1073741824) (Ab : Arv Z h0 b kb .byte (Int32.ofNat (n * 2 ^ k)) vs (.int 0)) :
    Con Z a0 l (⟨"java/lang/StringUTF16", "coderFromArrayLen", "([BI)B"⟩ : MethodName) jdk_52_method_15_code 2 (some .byte) ({ frames := 0, cells := 0, slots := 0, locals := 0 } : Room) [] #[(.ref b), (.int (Int32.ofNat n))] consts_1 h0 n0 [] [] (VV fun w h so => w = .int (Int32.ofNat k) ∧ h = h0 ∧ so = []) := by
  refine Con.body (plainFor_of_name pn_java_lang_StringUTF16) hEW o1 all0 #[.val (.ref b), .val (.int (Int32.ofNat n))] (fun m => by first | (simp [entryFrame, mkF, argsToLocals, Value.category]; done) | rfl) ?_
  intro p e s m below meth c B hnm hret hlk G
  replace G := G.iloadN 1 d50_0 rfl rfl |>.aloadN 2 d50_1 rfl rfl rfl |>.alen 3 Ab d50_2 rfl |>.isub 4 d50_3 rfl |>.bipush 6 (31 : Int32) d50_4 (by decide) rfl |>.iushr 7 d50_6 rfl |>.i2b 8 d50_7 rfl |>.top (y := (.int (Int32.ofNat k))) (congrArg Value.int (codK hk h1 h2))
  exact G.retN hret (Or.inr (Or.inl rfl)) hlk d50_8 [] all0 ⟨_, rfl, congrArg Value.int (ofk8 hk), rfl, rfl⟩ (nle rfl) (nle rfl)
theorem d6_0 : decode jdk_42_method_149_code 0 = .ok (.aload_n 0, 1) := by decide +kernel
theorem d6_1 : decode jdk_42_method_149_code 1 = .ok (.invokespecial 1, 3) := by decide +kernel
theorem d6_4 : decode jdk_42_method_149_code 4 = .ok (.iload_n 3, 1) := by decide +kernel
theorem d6_5 : decode jdk_42_method_149_code 5 = .ok (.ifCond .ne 22, 3) := by decide +kernel
theorem d6_8 : decode jdk_42_method_149_code 8 = .ok (.aload_n 0, 1) := by decide +kernel
theorem d6_9 : decode jdk_42_method_149_code 9 = .ok (.ldc 7, 2) := by decide +kernel
theorem d6_11 : decode jdk_42_method_149_code 11 = .ok (.getfield 9, 3) := by decide +kernel
theorem d6_14 : decode jdk_42_method_149_code 14 = .ok (.putfield 9, 3) := by decide +kernel
theorem d6_17 : decode jdk_42_method_149_code 17 = .ok (.aload_n 0, 1) := by decide +kernel
theorem d6_18 : decode jdk_42_method_149_code 18 = .ok (.ldc 7, 2) := by decide +kernel
theorem d6_20 : decode jdk_42_method_149_code 20 = .ok (.getfield 15, 3) := by decide +kernel
theorem d6_23 : decode jdk_42_method_149_code 23 = .ok (.putfield 15, 3) := by decide +kernel
theorem d6_26 : decode jdk_42_method_149_code 26 = .ok (.return_, 1) := by decide +kernel
theorem d6_27 : decode jdk_42_method_149_code 27 = .ok (.getstatic 38, 3) := by decide +kernel
theorem d6_30 : decode jdk_42_method_149_code 30 = .ok (.ifCond .eq 28, 3) := by decide +kernel
theorem d6_33 : decode jdk_42_method_149_code 33 = .ok (.aload_n 1, 1) := by decide +kernel
theorem d6_34 : decode jdk_42_method_149_code 34 = .ok (.iload_n 2, 1) := by decide +kernel
theorem d6_35 : decode jdk_42_method_149_code 35 = .ok (.iload_n 3, 1) := by decide +kernel
theorem d6_36 : decode jdk_42_method_149_code 36 = .ok (.invokestatic 177, 3) := by decide +kernel
theorem d6_39 : decode jdk_42_method_149_code 39 = .ok (.astore 5, 2) := by decide +kernel
theorem d6_41 : decode jdk_42_method_149_code 41 = .ok (.aload_n 0, 1) := by decide +kernel
theorem d6_42 : decode jdk_42_method_149_code 42 = .ok (.aload 5, 2) := by decide +kernel
theorem d6_44 : decode jdk_42_method_149_code 44 = .ok (.iload_n 3, 1) := by decide +kernel
theorem d6_45 : decode jdk_42_method_149_code 45 = .ok (.invokestatic 47, 3) := by decide +kernel
theorem d6_48 : decode jdk_42_method_149_code 48 = .ok (.putfield 15, 3) := by decide +kernel
theorem d6_51 : decode jdk_42_method_149_code 51 = .ok (.aload_n 0, 1) := by decide +kernel
theorem d6_52 : decode jdk_42_method_149_code 52 = .ok (.aload 5, 2) := by decide +kernel
theorem d6_54 : decode jdk_42_method_149_code 54 = .ok (.putfield 9, 3) := by decide +kernel
theorem d6_57 : decode jdk_42_method_149_code 57 = .ok (.return_, 1) := by decide +kernel
theorem d6_58 : decode jdk_42_method_149_code 58 = .ok (.aload_n 0, 1) := by decide +kernel
theorem d6_59 : decode jdk_42_method_149_code 59 = .ok (.iconst 1, 1) := by decide +kernel
theorem d6_60 : decode jdk_42_method_149_code 60 = .ok (.putfield 15, 3) := by decide +kernel
theorem d6_63 : decode jdk_42_method_149_code 63 = .ok (.aload_n 0, 1) := by decide +kernel
theorem d6_64 : decode jdk_42_method_149_code 64 = .ok (.aload_n 1, 1) := by decide +kernel
theorem d6_65 : decode jdk_42_method_149_code 65 = .ok (.iload_n 2, 1) := by decide +kernel
theorem d6_66 : decode jdk_42_method_149_code 66 = .ok (.iload_n 3, 1) := by decide +kernel
theorem d6_67 : decode jdk_42_method_149_code 67 = .ok (.invokestatic 180, 3) := by decide +kernel
theorem d6_70 : decode jdk_42_method_149_code 70 = .ok (.putfield 9, 3) := by decide +kernel
theorem d6_73 : decode jdk_42_method_149_code 73 = .ok (.return_, 1) := by decide +kernel
theorem c_strVK (l : Launch) (Z : State) (a0 : Array Value) (hw : ∀ d ∈ tables_1, d.before a0 Z = true) (hEW : EW Z a0 consts_1) (n0 : Nat) (c1 : Int32) (hc1 : ¬ c1 = 0) (S1 : Sta Z Z.heap "java/lang/String" "COMPACT_STRINGS" "Z" (.int c1)) (v2 : Value) (hv2 : v2.isRef = true) (S2 : Sta Z Z.heap "jdk/internal/util/Preconditions" "SIOOBE_FORMATTER" "Ljava/util/function/BiFunction;" v2) (S3 : Sta Z Z.heap "java/lang/StringUTF16" "$assertionsDisabled" "Z" (.int 1)) (S4 : Sta Z Z.heap "java/lang/StringUTF16" "HI_BYTE_SHIFT" "I" (.int 0)) (S5 : Sta Z Z.heap "java/lang/StringUTF16" "LO_BYTE_SHIFT" "I" (.int 8)) (a va : Addr) (kv : ClassId) (cs : List Nat) {h0 : Heap} (o1 : Old Z n0 h0) (ge_a : n0 ≤ a) (Xa : Exa Z h0 a "java/lang/String") (Fv : Fld Z h0 a "java/lang/String" "value" "[B" .null) (Fc : Fld Z h0 a "java/lang/String" "coder" "B" (.int 0)) (hmax : cs.length ≤ 8) (hc : ∀ c ∈ cs, c < 65536) (Av : Arv Z h0 va kv .char (Int32.ofNat cs.length) (cs.map fun c => Value.int (Int32.ofNat c)) (.int 0)) :
    Con Z a0 l (⟨"java/lang/String", "<init>", "([CIILjava/lang/Void;)V"⟩ : MethodName) jdk_42_method_149_code 6 (none) ({ frames := 4, cells := 4, slots := 40, locals := 57 } : Room) [] #[(.ref a), (.ref va), (.int (0 : Int32)), (.int (Int32.ofNat cs.length)), .null] consts_1 h0 n0 [a] [a] (V0 fun h so => ∃ b, StrK Z h a b (kd cs) cs ∧ b ≠ a ∧ so = []) := by
  refine Con.body (plainFor_of_name pn_java_lang_String) hEW o1 (allS ge_a all0) #[.val (.ref a), .val (.ref va), .val (.int (0 : Int32)), .val (.int (Int32.ofNat cs.length)), .val .null, .unset] (fun m => by first | (simp [entryFrame, mkF, argsToLocals, Value.category]; done) | rfl) ?_
  intro p e s m below meth c B hnm hret hlk G
  have hn : cs.length < 2147483648 := by omega
  replace G := G.aloadN 1 d6_0 rfl rfl rfl |>.initO 4 (hw _ (mm 26 rfl)) (hw _ (mm 27 rfl)) (hw _ (mm 28 rfl)) d6_1 rfl (nle rfl) (nle rfl) rfl |>.iloadN 5 d6_4 rfl rfl
  rcases Nat.eq_zero_or_pos cs.length with h0' | h0'
  · skip
    obtain rfl : cs = [] := List.length_eq_zero_iff.mp h0'
    replace G := G.ifF 8 d6_5 (XT.i0_ne_f rfl) rfl |>.aloadN 9 d6_8 rfl rfl rfl
    obtain ⟨l1, l2, h1, kkx1, G', Ex1, Xx1, Fcx1, Fvx1, Ax1, nex1⟩ := G.ldcS 11 (hw _ (mm 29 rfl)) (wS_of hw) (mm 1 rfl) (vs := []) (z := (0 : Int32)) (by decide) (by decide) rfl d6_9 0 (by decide) (by decide) (nle rfl) (nle rfl) rfl
    replace G := G'; clear G'
    replace Xa := Xa.ext Ex1; replace Fv := Fv.ext Ex1; replace Fc := Fc.ext Ex1; have n1 := (nex1 a (mm 0 rfl)).2
    replace G := G.getf 14 (host := "") (Or.inl (hw _ (mm 35 rfl))) Via.refl Fvx1 d6_11 rfl
    obtain ⟨h2, G', Wv', Fv', Kv'⟩ := G.putf 17 (host := "") (Or.inl (hw _ (mm 35 rfl))) Via.refl Fv Xa (Or.inr ⟨(hw _ (mm 31 rfl)), rfl, hnm⟩) (hw _ (mm 16 rfl)) (ty := (.array .byte)) (by decide) rfl rfl (Or.inl (mm 0 rfl)) (mm 0 rfl) d6_14 rfl
    replace G := G'; clear G'
    replace Fc := Fc.other Wv' (Or.inr (slot_ne (Or.inr (hw _ (mm 32 rfl))) (Or.inr (hw _ (mm 31 rfl))) (by decide) (t := .byte) (t' := (.array .byte)) (by decide) (by decide))); replace Xa := Xa.wr Wv'; replace Ax1 := Ax1.keep Kv' (ninS n1.symm nin0)
    replace G := G.aloadN 18 d6_17 rfl rfl rfl
    obtain ⟨l3, l4, h3, kkx2, G', Ex2, Xx2, Fcx2, Fvx2, Ax2, nex2⟩ := G.ldcS 20 (hw _ (mm 29 rfl)) (wS_of hw) (mm 1 rfl) (vs := []) (z := (0 : Int32)) (by decide) (by decide) rfl d6_18 0 (by decide) (by decide) (nle rfl) (nle rfl) rfl
    replace G := G'; clear G'
    replace Xa := Xa.ext Ex2; replace Fv' := Fv'.ext Ex2; replace Fc := Fc.ext Ex2; replace Ax1 := Ax1.ext Ex2
    replace G := G.getf 23 (host := "") (Or.inl (hw _ (mm 36 rfl))) Via.refl Fcx2 d6_20 rfl
    obtain ⟨h4, G', Wc', Fc', Kc'⟩ := G.putf 26 (host := "") (Or.inl (hw _ (mm 36 rfl))) Via.refl Fc Xa (Or.inr ⟨(hw _ (mm 32 rfl)), rfl, hnm⟩) (hw _ (mm 16 rfl)) (ty := .byte) (by decide) rfl rfl (Or.inl (mm 0 rfl)) (mm 0 rfl) d6_23 rfl
    replace G := G'; clear G'
    replace Fv' := Fv'.other Wc' (Or.inr (slot_ne (Or.inr (hw _ (mm 31 rfl))) (Or.inr (hw _ (mm 32 rfl))) (by decide) (t := (.array .byte)) (t' := .byte) (by decide) (by decide))); replace Xa := Xa.wr Wc'; replace Ax1 := Ax1.keep Kc' (ninS n1.symm nin0)
    exact G.retV hret hlk d6_26 [] all0 ⟨rfl, l2, ⟨Xa, Fc', Fv', _, Ax1⟩, n1.symm, rfl⟩ (nle rfl) (nle rfl)
  · skip
    replace G := G.ifT 27 d6_5 (XT.i0_ne_t (ofn_ne (n := 0) (by omega) hn (by decide))) (by decide) (by decide) |>.gets 30 (host := "") (Or.inl (hw _ (mm 81 rfl))) Via.refl (G.sta S1) d6_27 rfl |>.ifF 33 d6_30 (XT.i0_eq_f hc1) rfl |>.aloadN 34 d6_33 rfl rfl rfl |>.iloadN 35 d6_34 rfl rfl |>.iloadN 36 d6_35 rfl rfl
    obtain ⟨vc, h1, soc, G', Kc, Qc⟩ := G.callS 39 (hw _ (mm 216 rfl)) (hw _ (mm 217 rfl)) (hw _ (mm 218 rfl)) (hw _ (mm 219 rfl)) (by decide) [(.ref va), (.int (0 : Int32)), (.int (Int32.ofNat cs.length))] [] rfl (c_cmpK l Z a0 hw hEW n0 c1 hc1 S1 v2 hv2 S2 S3 S4 S5 va kv cs G.old (by omega) hc Av) (lenOf pd___CII__B rfl) d6_36 rfl (nle rfl) (nle rfl) (nle rfl) (nle rfl) all0 all0 all0 rfl
    replace G := G'; clear G'
    obtain ⟨wc, qc, b, rfl, ⟨kb, Ab⟩, sb, rfl⟩ := Qc
    replace G := G.val qc
    have nba : b ≠ a := ne_ge Xa.lt sb
    replace Xa := Xa.keep Kc; replace Fv := Fv.keep Kc nin0; replace Fc := Fc.keep Kc nin0
    replace G := G.astore 41 #[.val (.ref a), .val (.ref va), .val (.int (0 : Int32)), .val (.int (Int32.ofNat cs.length)), .val .null, .val (.ref b)] d6_39 rfl rfl rfl |>.aloadN 42 d6_41 rfl rfl rfl |>.aload 44 d6_42 rfl rfl rfl |>.iloadN 45 d6_44 rfl rfl
    obtain ⟨vd, h_d, sod, G', Kd, Qd⟩ := G.callS 48 (hw _ (mm 242 rfl)) (hw _ (mm 243 rfl)) (hw _ (mm 218 rfl)) (hw _ (mm 244 rfl)) (by decide) [(.ref b), (.int (Int32.ofNat cs.length))] [(.ref a)] rfl (c_codK l Z a0 hw hEW n0 c1 hc1 S1 v2 hv2 S2 S3 S4 S5 b kb cs.length (kd cs) (encS (kd cs) cs) G.old (kd01 cs) (by omega) (by omega) Ab) (lenOf pd___BI_B rfl) d6_45 rfl (nle rfl) (nle rfl) (nle rfl) (nle rfl) all0 all0 all0 rfl
    replace G := G'; clear G'
    obtain ⟨wd, qd, rfl, ed, rfl⟩ := Qd
    replace G := G.val qd
    subst ed
    obtain ⟨h2, G', Wc2, Fc2, Kc2⟩ := G.putf 51 (host := "") (Or.inl (hw _ (mm 36 rfl))) Via.refl Fc Xa (Or.inr ⟨(hw _ (mm 32 rfl)), rfl, hnm⟩) (hw _ (mm 16 rfl)) (ty := .byte) (by decide) (congrArg Value.int (ofk8 (kd01 cs))) (by rcases kd01 cs with e | e <;> rw [e] <;> rfl) (Or.inl (mm 0 rfl)) (mm 1 rfl) d6_48 rfl
    replace G := G'; clear G'
    replace Fv := Fv.other Wc2 (Or.inr (slot_ne (Or.inr (hw _ (mm 31 rfl))) (Or.inr (hw _ (mm 32 rfl))) (by decide) (t := (.array .byte)) (t' := .byte) (by decide) (by decide))); replace Xa := Xa.wr Wc2; replace Ab := Ab.keep Kc2 (ninS nba nin0)
    replace G := G.aloadN 52 d6_51 rfl rfl rfl |>.aload 54 d6_52 rfl rfl rfl
    obtain ⟨h3, G', Wv2', Fv2', Kv2'⟩ := G.putf 57 (host := "") (Or.inl (hw _ (mm 35 rfl))) Via.refl Fv Xa (Or.inr ⟨(hw _ (mm 31 rfl)), rfl, hnm⟩) (hw _ (mm 16 rfl)) (ty := (.array .byte)) (by decide) rfl rfl (Or.inl (mm 0 rfl)) (mm 1 rfl) d6_54 rfl
    replace G := G'; clear G'
    replace Fc2 := Fc2.other Wv2' (Or.inr (slot_ne (Or.inr (hw _ (mm 32 rfl))) (Or.inr (hw _ (mm 31 rfl))) (by decide) (t := .byte) (t' := (.array .byte)) (by decide) (by decide))); replace Xa := Xa.wr Wv2'; replace Ab := Ab.keep Kv2' (ninS nba nin0)
    exact G.retV hret hlk d6_57 [] all0 ⟨rfl, b, ⟨Xa, Fc2, Fv2', kb, Ab⟩, nba, rfl⟩ (nle rfl) (nle rfl)
theorem d5_0 : decode jdk_42_method_3_code 0 = .ok (.aload_n 0, 1) := by decide +kernel
theorem d5_1 : decode jdk_42_method_3_code 1 = .ok (.aload_n 1, 1) := by decide +kernel
theorem d5_2 : decode jdk_42_method_3_code 2 = .ok (.iconst 0, 1) := by decide +kernel
theorem d5_3 : decode jdk_42_method_3_code 3 = .ok (.aload_n 1, 1) := by decide +kernel
theorem d5_4 : decode jdk_42_method_3_code 4 = .ok (.arraylength, 1) := by decide +kernel
theorem d5_5 : decode jdk_42_method_3_code 5 = .ok (.aconst_null, 1) := by decide +kernel
theorem d5_6 : decode jdk_42_method_3_code 6 = .ok (.invokespecial 27, 3) := by decide +kernel
theorem d5_9 : decode jdk_42_method_3_code 9 = .ok (.return_, 1) := by decide +kernel
theorem c_strK (l : Launch) (Z : State) (a0 : Array Value) (hw : ∀ d ∈ tables_1, d.before a0 Z = true) (hEW : EW Z a0 consts_1) (n0 : Nat) (c1 : Int32) (hc1 : ¬ c1 = 0) (S1 : Sta Z Z.heap "java/lang/String" "COMPACT_STRINGS" "Z" (.int c1)) (v2 : Value) (hv2 : v2.isRef = true) (S2 : Sta Z Z.heap "jdk/internal/util/Preconditions" "SIOOBE_FORMATTER" "Ljava/util/function/BiFunction;" v2) (S3 : Sta Z Z.heap "java/lang/StringUTF16" "$assertionsDisabled" "Z" (.int 1)) (S4 : Sta Z Z.heap "java/lang/StringUTF16" "HI_BYTE_SHIFT" "I" (.int 0)) (S5 : Sta Z Z.heap "java/lang/StringUTF16" "LO_BYTE_SHIFT" "I" (.int 8)) (a va : Addr) (kv : ClassId) (cs : List Nat) {h0 : Heap} (o1 : Old Z n0 h0) (ge_a : n0 ≤ a) (Xa : Exa Z h0 a "java/lang/String") (Fv : Fld Z h0 a "java/lang/String" "value" "[B" .null) (Fc : Fld Z h0 a "java/lang/String" "coder" "B" (.int 0)) (hmax : cs.length ≤ 8) (hc : ∀ c ∈ cs, c < 65536) (Av : Arv Z h0 va kv .char (Int32.ofNat cs.length) (cs.map fun c => Value.int (Int32.ofNat c)) (.int 0)) :
    Con Z a0 l (⟨"java/lang/String", "<init>", "([C)V"⟩ : MethodName) jdk_42_method_3_code 2 (none) ({ frames := 5, cells := 4, slots := 40, locals := 74 } : Room) [] #[(.ref a), (.ref va)] consts_1 h0 n0 [a] [a] (V0 fun h so => ∃ b, StrK Z h a b (kd cs) cs ∧ b ≠ a ∧ so = []) := by
  refine Con.body (plainFor_of_name pn_java_lang_String) hEW o1 (allS ge_a all0) #[.val (.ref a), .val (.ref va)] (fun m => by first | (simp [entryFrame, mkF, argsToLocals, Value.category]; done) | rfl) ?_
  intro p e s m below meth c B hnm hret hlk G
  replace G := G.aloadN 1 d5_0 rfl rfl rfl |>.aloadN 2 d5_1 rfl rfl rfl |>.iconst 3 (0 : Int32) d5_2 rfl rfl |>.aloadN 4 d5_3 rfl rfl rfl |>.alen 5 Av d5_4 rfl |>.aconstNull 6 d5_5 rfl
  obtain ⟨vc, h1, soc, G', Kc, Qc⟩ := G.callI 9 rfl rfl (hw _ (mm 22 rfl)) (hw _ (mm 23 rfl)) (hw _ (mm 17 rfl)) (hw _ (mm 25 rfl)) (by decide) [(.ref va), (.int (0 : Int32)), (.int (Int32.ofNat cs.length)), .null] [] rfl (c_strVK l Z a0 hw hEW n0 c1 hc1 S1 v2 hv2 S2 S3 S4 S5 a va kv cs G.old ge_a Xa Fv Fc hmax hc Av) (lenOf pd___CIILjava_lang_Void__V rfl) d5_6 rfl (nle rfl) (nle rfl) (nle rfl) (nle rfl) (allS (Or.inl (mm 0 rfl)) all0) (allS (mm 0 rfl) all0) (allS (mm 0 rfl) all0) rfl
  replace G := G'; clear G'
  obtain ⟨qc, b, hT, nb, rfl⟩ := Qc
  replace G := G.nov qc
  exact G.retV hret hlk d5_9 [] all0 ⟨rfl, b, hT, nb, rfl⟩ (nle rfl) (nle rfl)
theorem d14_0 : decode jdk_42_method_152_code 0 = .ok (.getstatic 38, 3) := by decide +kernel
theorem d14_3 : decode jdk_42_method_152_code 3 = .ok (.ifCond .eq 10, 3) := by decide +kernel
theorem d14_6 : decode jdk_42_method_152_code 6 = .ok (.aload_n 0, 1) := by decide +kernel
theorem d14_7 : decode jdk_42_method_152_code 7 = .ok (.getfield 15, 3) := by decide +kernel
theorem d14_10 : decode jdk_42_method_152_code 10 = .ok (.goto 4, 3) := by decide +kernel
theorem d14_13 : decode jdk_42_method_152_code 13 = .ok (.iconst 1, 1) := by decide +kernel
theorem d14_14 : decode jdk_42_method_152_code 14 = .ok (.ireturn, 1) := by decide +kernel
theorem c_coderK (l : Launch) (Z : State) (a0 : Array Value) (hw : ∀ d ∈ tables_1, d.before a0 Z = true) (hEW : EW Z a0 consts_1) (n0 : Nat) (c1 : Int32) (hc1 : ¬ c1 = 0) (S1 : Sta Z Z.heap "java/lang/String" "COMPACT_STRINGS" "Z" (.int c1)) (v2 : Value) (hv2 : v2.isRef = true) (S2 : Sta Z Z.heap "jdk/internal/util/Preconditions" "SIOOBE_FORMATTER" "Ljava/util/function/BiFunction;" v2) (S3 : Sta Z Z.heap "java/lang/StringUTF16" "$assertionsDisabled" "Z" (.int 1)) (S4 : Sta Z Z.heap "java/lang/StringUTF16" "HI_BYTE_SHIFT" "I" (.int 0)) (S5 : Sta Z Z.heap "java/lang/StringUTF16" "LO_BYTE_SHIFT" "I" (.int 8)) (a : Addr) (k : Nat) {h0 : Heap} (o1 : Old Z n0 h0) (hk : k = 0 ∨ k = 1) (Fc : Fld Z h0 a "java/lang/String" "coder" "B" (.int (Int32.ofNat k))) :
    Con Z a0 l (⟨"java/lang/String", "coder", "()B"⟩ : MethodName) jdk_42_method_152_code 1 (some .byte) ({ frames := 0, cells := 0, slots := 0, locals := 0 } : Room) [] #[(.ref a)] consts_1 h0 n0 [] [] (VV fun w h so => w = .int (Int32.ofNat k) ∧ h = h0 ∧ so = []) := by
  refine Con.body (plainFor_of_name pn_java_lang_String) hEW o1 all0 #[.val (.ref a)] (fun m => by first | (simp [entryFrame, mkF, argsToLocals, Value.category]; done) | rfl) ?_
  intro p e s m below meth c B hnm hret hlk G
  replace G := G.gets 3 (host := "") (Or.inl (hw _ (mm 81 rfl))) Via.refl (G.sta S1) d14_0 rfl |>.ifF 6 d14_3 (XT.i0_eq_f hc1) rfl |>.aloadN 7 d14_6 rfl rfl rfl |>.getf 10 (host := "") (Or.inl (hw _ (mm 36 rfl))) Via.refl Fc d14_7 rfl |>.goto 14 d14_10 (by decide) (by decide)
  exact G.retN hret (Or.inr (Or.inl rfl)) hlk d14_14 [] all0 ⟨_, rfl, congrArg Value.int (ofk8 hk), rfl, rfl⟩ (nle rfl) (nle rfl)
theorem d13_0 : decode jdk_42_method_54_code 0 = .ok (.aload_n 0, 1) := by decide +kernel
theorem d13_1 : decode jdk_42_method_54_code 1 = .ok (.getfield 9, 3) := by decide +kernel
theorem d13_4 : decode jdk_42_method_54_code 4 = .ok (.arraylength, 1) := by decide +kernel
theorem d13_5 : decode jdk_42_method_54_code 5 = .ok (.aload_n 0, 1) := by decide +kernel
theorem d13_6 : decode jdk_42_method_54_code 6 = .ok (.invokevirtual 335, 3) := by decide +kernel
theorem d13_9 : decode jdk_42_method_54_code 9 = .ok (.ishr, 1) := by decide +kernel
theorem d13_10 : decode jdk_42_method_54_code 10 = .ok (.ireturn, 1) := by decide +kernel
theorem c_lengthK (l : Launch) (Z : State) (a0 : Array Value) (hw : ∀ d ∈ tables_1, d.before a0 Z = true) (hEW : EW Z a0 consts_1) (n0 : Nat) (c1 : Int32) (hc1 : ¬ c1 = 0) (S1 : Sta Z Z.heap "java/lang/String" "COMPACT_STRINGS" "Z" (.int c1)) (v2 : Value) (hv2 : v2.isRef = true) (S2 : Sta Z Z.heap "jdk/internal/util/Preconditions" "SIOOBE_FORMATTER" "Ljava/util/function/BiFunction;" v2) (S3 : Sta Z Z.heap "java/lang/StringUTF16" "$assertionsDisabled" "Z" (.int 1)) (S4 : Sta Z Z.heap "java/lang/StringUTF16" "HI_BYTE_SHIFT" "I" (.int 0)) (S5 : Sta Z Z.heap "java/lang/StringUTF16" "LO_BYTE_SHIFT" "I" (.int 8)) (a b : Addr) (k : Nat) (cs : List Nat) {h0 : Heap} (o1 : Old Z n0 h0) (hk : k = 0 ∨ k = 1) (hn : cs.length < 1073741824) (hS : StrK Z h0 a b k cs) :
    Con Z a0 l (⟨"java/lang/String", "length", "()I"⟩ : MethodName) jdk_42_method_54_code 1 (some .int) ({ frames := 1, cells := 0, slots := 0, locals := 13 } : Room) [] #[(.ref a)] consts_1 h0 n0 [] [] (VV fun w h so => w = .int (Int32.ofNat cs.length) ∧ h = h0 ∧ so = []) := by
  refine Con.body (plainFor_of_name pn_java_lang_String) hEW o1 all0 #[.val (.ref a)] (fun m => by first | (simp [entryFrame, mkF, argsToLocals, Value.category]; done) | rfl) ?_
  intro p e s m below meth c B hnm hret hlk G
  obtain ⟨Xa, Fc, Fv, kb, Ab⟩ := hS
  replace G := G.aloadN 1 d13_0 rfl rfl rfl |>.getf 4 (host := "") (Or.inl (hw _ (mm 35 rfl))) Via.refl Fv d13_1 rfl |>.alen 5 Ab d13_4 rfl |>.aloadN 6 d13_5 rfl rfl rfl
  obtain ⟨vc, h_c, soc, G', Kc, Qc⟩ := G.callV 9 (hw _ (mm 76 rfl)) (hw _ (mm 77 rfl)) (nfSel (hw _ (mm 79 rfl))) (hw _ (mm 79 rfl)) (hw _ (mm 78 rfl)) (hw _ (mm 17 rfl)) (hw _ (mm 80 rfl)) Xa (by decide) [] [(.int (Int32.ofNat (cs.length * 2 ^ k)))] rfl (c_coderK l Z a0 hw hEW n0 c1 hc1 S1 v2 hv2 S2 S3 S4 S5 a k G.old hk Fc) (lenOf pd___B rfl) d13_6 rfl (nle rfl) (nle rfl) (nle rfl) (nle rfl) all0 all0 all0 rfl
  replace G := G'; clear G'
  obtain ⟨wc, qc, rfl, ec, rfl⟩ := Qc
  replace G := G.val qc
  subst ec
  replace G := G.ishr 10 d13_9 rfl |>.top (y := (.int (Int32.ofNat cs.length))) (congrArg Value.int (shrK hk hn))
  exact G.retI hret hlk d13_10 [] all0 ⟨_, rfl, rfl, rfl, rfl⟩ (nle rfl) (nle rfl)
theorem d57_0 : decode jdk_41_method_13_code 0 = .ok (.iload_n 2, 1) := by decide +kernel
theorem d57_1 : decode jdk_41_method_13_code 1 = .ok (.iload_n 0, 1) := by decide +kernel
theorem d57_2 : decode jdk_41_method_13_code 2 = .ok (.ior, 1) := by decide +kernel
theorem d57_3 : decode jdk_41_method_13_code 3 = .ok (.iload_n 1, 1) := by decide +kernel
theorem d57_4 : decode jdk_41_method_13_code 4 = .ok (.ior, 1) := by decide +kernel
theorem d57_5 : decode jdk_41_method_13_code 5 = .ok (.ifCond .lt 10, 3) := by decide +kernel
theorem d57_8 : decode jdk_41_method_13_code 8 = .ok (.iload_n 1, 1) := by decide +kernel
theorem d57_9 : decode jdk_41_method_13_code 9 = .ok (.iload_n 2, 1) := by decide +kernel
theorem d57_10 : decode jdk_41_method_13_code 10 = .ok (.iload_n 0, 1) := by decide +kernel
theorem d57_11 : decode jdk_41_method_13_code 11 = .ok (.isub, 1) := by decide +kernel
theorem d57_12 : decode jdk_41_method_13_code 12 = .ok (.if_icmp .le 11, 3) := by decide +kernel
theorem d57_15 : decode jdk_41_method_13_code 15 = .ok (.aload_n 3, 1) := by decide +kernel
theorem d57_16 : decode jdk_41_method_13_code 16 = .ok (.iload_n 0, 1) := by decide +kernel
theorem d57_17 : decode jdk_41_method_13_code 17 = .ok (.iload_n 1, 1) := by decide +kernel
theorem d57_18 : decode jdk_41_method_13_code 18 = .ok (.iload_n 2, 1) := by decide +kernel
theorem d57_19 : decode jdk_41_method_13_code 19 = .ok (.invokestatic 103, 3) := by decide +kernel
theorem d57_22 : decode jdk_41_method_13_code 22 = .ok (.athrow, 1) := by decide +kernel
theorem d57_23 : decode jdk_41_method_13_code 23 = .ok (.iload_n 0, 1) := by decide +kernel
theorem d57_24 : decode jdk_41_method_13_code 24 = .ok (.ireturn, 1) := by decide +kernel
theorem c_cfis (l : Launch) (Z : State) (a0 : Array Value) (hw : ∀ d ∈ tables_1, d.before a0 Z = true) (hEW : EW Z a0 consts_1) (n0 : Nat) (c1 : Int32) (hc1 : ¬ c1 = 0) (S1 : Sta Z Z.heap "java/lang/String" "COMPACT_STRINGS" "Z" (.int c1)) (v2 : Value) (hv2 : v2.isRef = true) (S2 : Sta Z Z.heap "jdk/internal/util/Preconditions" "SIOOBE_FORMATTER" "Ljava/util/function/BiFunction;" v2) (S3 : Sta Z Z.heap "java/lang/StringUTF16" "$assertionsDisabled" "Z" (.int 1)) (S4 : Sta Z Z.heap "java/lang/StringUTF16" "HI_BYTE_SHIFT" "I" (.int 0)) (S5 : Sta Z Z.heap "java/lang/StringUTF16" "LO_BYTE_SHIFT" "I" (.int 8)) (o z n : Nat) {h0 : Heap} (o1 : Old Z n0 h0) (h1 : o + z ≤ n) (h2 : n < 1073741824) :
    Con Z a0 l (⟨"jdk/internal/util/Preconditions", "checkFromIndexSize", "(IIILjava/util/function/BiFunction;)I"⟩ : MethodName) jdk_41_method_13_code 4 (some .int) ({ frames := 0, cells := 0, slots := 0, locals := 0 } : Room) [] #[(.int (Int32.ofNat o)), (.int (Int32.ofNat z)), (.int (Int32.ofNat n)), v2] consts_1 h0 n0 [] [] (VV fun w h so => w = .int (Int32.ofNat o) ∧ h = h0 ∧ so = []) := by
  refine Con.body (plainFor_of_name pn_jdk_internal_util_Preconditions) hEW o1 all0 #[.val (.int (Int32.ofNat o)), .val (.int (Int32.ofNat z)), .val (.int (Int32.ofNat n)), .val v2] (fun m => by rcases XT.refc hv2 with rfl | ⟨r, rfl⟩ <;> rfl) ?_
  intro p e s m below meth c B hnm hret hlk G
  replace G := G.iloadN 1 d57_0 rfl rfl |>.iloadN 2 d57_1 rfl rfl |>.ior 3 d57_2 rfl |>.iloadN 4 d57_3 rfl rfl |>.ior 5 d57_4 rfl |>.ifF 8 d57_5 (XT.i0_lt_f (or_nn (or_nn (ofn_nn (by omega)) (ofn_nn (by omega))) (ofn_nn (by omega)))) rfl |>.iloadN 9 d57_8 rfl rfl |>.iloadN 10 d57_9 rfl rfl
  replace G := G.iloadN 11 d57_10 rfl rfl |>.isub 12 d57_11 rfl
  have es := ofn_sub (a := n) (b := o) (by omega) (by omega)
  replace G := G.icmpT 23 d57_12 (XT.ii_le_t (by rw [es]; exact ofn_nlt (by omega) (by omega))) (by decide) (by decide) |>.iloadN 24 d57_23 rfl rfl
  exact G.retI hret hlk d57_24 [] all0 ⟨_, rfl, rfl, rfl, rfl⟩ (nle rfl) (nle rfl)
theorem d56_0 : decode jdk_42_method_157_code 0 = .ok (.iload_n 0, 1) := by decide +kernel
theorem d56_1 : decode jdk_42_method_157_code 1 = .ok (.iload_n 1, 1) := by decide +kernel
theorem d56_2 : decode jdk_42_method_157_code 2 = .ok (.iload_n 2, 1) := by decide +kernel
theorem d56_3 : decode jdk_42_method_157_code 3 = .ok (.getstatic 1053, 3) := by decide +kernel
theorem d56_6 : decode jdk_42_method_157_code 6 = .ok (.invokestatic 1065, 3) := by decide +kernel
theorem d56_9 : decode jdk_42_method_157_code 9 = .ok (.ireturn, 1) := by decide +kernel
theorem c_scbo (l : Launch) (Z : State) (a0 : Array Value) (hw : ∀ d ∈ tables_1, d.before a0 Z = true) (hEW : EW Z a0 consts_1) (n0 : Nat) (c1 : Int32) (hc1 : ¬ c1 = 0) (S1 : Sta Z Z.heap "java/lang/String" "COMPACT_STRINGS" "Z" (.int c1)) (v2 : Value) (hv2 : v2.isRef = true) (S2 : Sta Z Z.heap "jdk/internal/util/Preconditions" "SIOOBE_FORMATTER" "Ljava/util/function/BiFunction;" v2) (S3 : Sta Z Z.heap "java/lang/StringUTF16" "$assertionsDisabled" "Z" (.int 1)) (S4 : Sta Z Z.heap "java/lang/StringUTF16" "HI_BYTE_SHIFT" "I" (.int 0)) (S5 : Sta Z Z.heap "java/lang/StringUTF16" "LO_BYTE_SHIFT" "I" (.int 8)) (o z n : Nat) {h0 : Heap} (o1 : Old Z n0 h0) (h1 : o + z ≤ n) (h2 : n < 1073741824) :
    Con Z a0 l (⟨"java/lang/String", "checkBoundsOffCount", "(III)I"⟩ : MethodName) jdk_42_method_157_code 3 (some .int) ({ frames := 1, cells := 0, slots := 0, locals := 15 } : Room) [] #[(.int (Int32.ofNat o)), (.int (Int32.ofNat z)), (.int (Int32.ofNat n))] consts_1 h0 n0 [] [] (VV fun w h so => w = .int (Int32.ofNat o) ∧ h = h0 ∧ so = []) := by
  refine Con.body (plainFor_of_name pn_java_lang_String) hEW o1 all0 #[.val (.int (Int32.ofNat o)), .val (.int (Int32.ofNat z)), .val (.int (Int32.ofNat n))] (fun m => by first | (simp [entryFrame, mkF, argsToLocals, Value.category]; done) | rfl) ?_
  intro p e s m below meth c B hnm hret hlk G
  replace G := G.iloadN 1 d56_0 rfl rfl |>.iloadN 2 d56_1 rfl rfl |>.iloadN 3 d56_2 rfl rfl |>.gets 6 (host := "") (Or.inl (hw _ (mm 203 rfl))) Via.refl (G.sta S2) d56_3 rfl
  obtain ⟨vp, h_p, sop, G', Kp, Qp⟩ := G.callS 9 (hw _ (mm 267 rfl)) (hw _ (mm 268 rfl)) (hw _ (mm 204 rfl)) (hw _ (mm 269 rfl)) (by decide) [(.int (Int32.ofNat o)), (.int (Int32.ofNat z)), (.int (Int32.ofNat n)), v2] [] rfl (c_cfis l Z a0 hw hEW n0 c1 hc1 S1 v2 hv2 S2 S3 S4 S5 o z n G.old h1 h2) (lenOf pd__IIILjava_util_function_BiFunction__I rfl) d56_6 rfl (nle rfl) (nle rfl) (nle rfl) (nle rfl) all0 all0 all0 rfl
  replace G := G'; clear G'
  obtain ⟨wp, qp, rfl, ep, rfl⟩ := Qp
  replace G := G.val qp
  subst ep
  exact G.retI hret hlk d56_9 [] all0 ⟨_, rfl, rfl, rfl, rfl⟩ (nle rfl) (nle rfl)
theorem d54_0 : decode jdk_52_method_94_code 0 = .ok (.iload_n 0, 1) := by decide +kernel
theorem d54_1 : decode jdk_52_method_94_code 1 = .ok (.iload_n 1, 1) := by decide +kernel
theorem d54_2 : decode jdk_52_method_94_code 2 = .ok (.aload_n 2, 1) := by decide +kernel
theorem d54_3 : decode jdk_52_method_94_code 3 = .ok (.invokestatic 48, 3) := by decide +kernel
theorem d54_6 : decode jdk_52_method_94_code 6 = .ok (.invokestatic 419, 3) := by decide +kernel
theorem d54_9 : decode jdk_52_method_94_code 9 = .ok (.pop, 1) := by decide +kernel
theorem d54_10 : decode jdk_52_method_94_code 10 = .ok (.return_, 1) := by decide +kernel
theorem c_ucbo (l : Launch) (Z : State) (a0 : Array Value) (hw : ∀ d ∈ tables_1, d.before a0 Z = true) (hEW : EW Z a0 consts_1) (n0 : Nat) (c1 : Int32) (hc1 : ¬ c1 = 0) (S1 : Sta Z Z.heap "java/lang/String" "COMPACT_STRINGS" "Z" (.int c1)) (v2 : Value) (hv2 : v2.isRef = true) (S2 : Sta Z Z.heap "jdk/internal/util/Preconditions" "SIOOBE_FORMATTER" "Ljava/util/function/BiFunction;" v2) (S3 : Sta Z Z.heap "java/lang/StringUTF16" "$assertionsDisabled" "Z" (.int 1)) (S4 : Sta Z Z.heap "java/lang/StringUTF16" "HI_BYTE_SHIFT" "I" (.int 0)) (S5 : Sta Z Z.heap "java/lang/StringUTF16" "LO_BYTE_SHIFT" "I" (.int 8)) (b : Addr) (kb : ClassId) (o z n : Nat) (vs : List Value) {h0 : Heap} (o1 : Old Z n0 h0) (h1 : o + z ≤ n) (h2 : n < 1073741824) (Ab : Arv Z h0 b kb .byte (Int32.ofNat (n * 2)) vs (.int 0)) :
    Con Z a0 l (⟨"java/lang/StringUTF16", "checkBoundsOffCount", "(II[B)V"⟩ : MethodName) jdk_52_method_94_code 3 (none) ({ frames := 2, cells := 0, slots := 0, locals := 29 } : Room) [] #[(.int (Int32.ofNat o)), (.int (Int32.ofNat z)), (.ref b)] consts_1 h0 n0 [] [] (V0 fun h so => h = h0 ∧ so = []) := by
  refine Con.body (plainFor_of_name pn_java_lang_StringUTF16) hEW o1 all0 #[.val (.int (Int32.ofNat o)), .val (.int (Int32.ofNat z)), .val (.ref b)] (fun m => by first | (simp [entryFrame, mkF, argsToLocals, Value.category]; done) | rfl) ?_
  intro p e s m below meth c B hnm hret hlk G
  replace G := G.iloadN 1 d54_0 rfl rfl |>.iloadN 2 d54_1 rfl rfl |>.aloadN 3 d54_2 rfl rfl rfl
  obtain ⟨vl, h_l, sol, G', Kl, Ql⟩ := G.callS 6 (hw _ (mm 261 rfl)) (hw _ (mm 262 rfl)) (hw _ (mm 218 rfl)) (hw _ (mm 263 rfl)) (by decide) [(.ref b)] [(.int (Int32.ofNat z)), (.int (Int32.ofNat o))] rfl (c_ulen l Z a0 hw hEW n0 c1 hc1 S1 v2 hv2 S2 S3 S4 S5 b kb n vs G.old h2 Ab) (lenOf pd___B_I rfl) d54_3 rfl (nle rfl) (nle rfl) (nle rfl) (nle rfl) all0 all0 all0 rfl
  replace G := G'; clear G'
  obtain ⟨wl, ql, rfl, el, rfl⟩ := Ql
  replace G := G.val ql
  subst el
  obtain ⟨vp, h_p, sop, G', Kp, Qp⟩ := G.callS 9 (hw _ (mm 264 rfl)) (hw _ (mm 265 rfl)) (hw _ (mm 17 rfl)) (hw _ (mm 266 rfl)) (by decide) [(.int (Int32.ofNat o)), (.int (Int32.ofNat z)), (.int (Int32.ofNat n))] [] rfl (c_scbo l Z a0 hw hEW n0 c1 hc1 S1 v2 hv2 S2 S3 S4 S5 o z n G.old h1 h2) (lenOf pd__III_I rfl) d54_6 rfl (nle rfl) (nle rfl) (nle rfl) (nle rfl) all0 all0 all0 rfl
  replace G := G'; clear G'
  obtain ⟨wp, qp, rfl, ep, rfl⟩ := Qp
  replace G := G.val qp
  subst ep
  replace G := G.pop 10 d54_9 rfl rfl
  exact G.retV hret hlk d54_10 [] all0 ⟨rfl, rfl, rfl⟩ (nle rfl) (nle rfl)
theorem d53_0 : decode jdk_52_method_86_code 0 = .ok (.iload_n 3, 1) := by decide +kernel
theorem d53_1 : decode jdk_52_method_86_code 1 = .ok (.iload 4, 2) := by decide +kernel
theorem d53_3 : decode jdk_52_method_86_code 3 = .ok (.aload_n 2, 1) := by decide +kernel
theorem d53_4 : decode jdk_52_method_86_code 4 = .ok (.invokestatic 173, 3) := by decide +kernel
theorem d53_7 : decode jdk_52_method_86_code 7 = .ok (.iconst 0, 1) := by decide +kernel
theorem d53_8 : decode jdk_52_method_86_code 8 = .ok (.istore 5, 2) := by decide +kernel
theorem d53_10 : decode jdk_52_method_86_code 10 = .ok (.iload 5, 2) := by decide +kernel
theorem d53_12 : decode jdk_52_method_86_code 12 = .ok (.iload 4, 2) := by decide +kernel
theorem d53_14 : decode jdk_52_method_86_code 14 = .ok (.if_icmp .ge 27, 3) := by decide +kernel
theorem d53_17 : decode jdk_52_method_86_code 17 = .ok (.aload_n 2, 1) := by decide +kernel
theorem d53_18 : decode jdk_52_method_86_code 18 = .ok (.iload_n 3, 1) := by decide +kernel
theorem d53_19 : decode jdk_52_method_86_code 19 = .ok (.iinc 3 1, 3) := by decide +kernel
theorem d53_22 : decode jdk_52_method_86_code 22 = .ok (.aload_n 0, 1) := by decide +kernel
theorem d53_23 : decode jdk_52_method_86_code 23 = .ok (.iload_n 1, 1) := by decide +kernel
theorem d53_24 : decode jdk_52_method_86_code 24 = .ok (.iinc 1 1, 3) := by decide +kernel
theorem d53_27 : decode jdk_52_method_86_code 27 = .ok (.baload, 1) := by decide +kernel
theorem d53_28 : decode jdk_52_method_86_code 28 = .ok (.sipush 255, 3) := by decide +kernel
theorem d53_31 : decode jdk_52_method_86_code 31 = .ok (.iand, 1) := by decide +kernel
theorem d53_32 : decode jdk_52_method_86_code 32 = .ok (.invokestatic 111, 3) := by decide +kernel
theorem d53_35 : decode jdk_52_method_86_code 35 = .ok (.iinc 5 1, 3) := by decide +kernel
theorem d53_38 : decode jdk_52_method_86_code 38 = .ok (.goto (-28), 3) := by decide +kernel
theorem d53_41 : decode jdk_52_method_86_code 41 = .ok (.return_, 1) := by decide +kernel
theorem c_uInfl (l : Launch) (Z : State) (a0 : Array Value) (hw : ∀ d ∈ tables_1, d.before a0 Z = true) (hEW : EW Z a0 consts_1) (n0 : Nat) (c1 : Int32) (hc1 : ¬ c1 = 0) (S1 : Sta Z Z.heap "java/lang/String" "COMPACT_STRINGS" "Z" (.int c1)) (v2 : Value) (hv2 : v2.isRef = true) (S2 : Sta Z Z.heap "jdk/internal/util/Preconditions" "SIOOBE_FORMATTER" "Ljava/util/function/BiFunction;" v2) (S3 : Sta Z Z.heap "java/lang/StringUTF16" "$assertionsDisabled" "Z" (.int 1)) (S4 : Sta Z Z.heap "java/lang/StringUTF16" "HI_BYTE_SHIFT" "I" (.int 0)) (S5 : Sta Z Z.heap "java/lang/StringUTF16" "LO_BYTE_SHIFT" "I" (.int 8)) (b d : Addr) (kb kdd : ClassId) (zn n : Nat) (cs0 cs1 : List Nat) {h0 : Heap} (o1 : Old Z n0 h0) (ge_d : n0 ≤ d) (hn : n < 1073741824) (hz : zn < 1073741824) (hle : cs0.length + cs1.length ≤ n) (hl1 : cs1.length ≤ zn) (hc : ∀ c ∈ cs1, c < 256) (nbd : b ≠ d) (Ab : Arv Z h0 b kb .byte (Int32.ofNat zn) (encS 0 cs1) (.int 0)) (Ad : Arv Z h0 d kdd .byte (Int32.ofNat (n * 2)) (encS 1 cs0) (.int 0)) :
    Con Z a0 l (⟨"java/lang/StringUTF16", "inflate", "([BI[BII)V"⟩ : MethodName) jdk_52_method_86_code 6 (none) ({ frames := 3, cells := 0, slots := 0, locals := 43 } : Room) [] #[(.ref b), (.int (0 : Int32)), (.ref d), (.int (Int32.ofNat cs0.length)), (.int (Int32.ofNat cs1.length))] consts_1 h0 n0 [d] [d] (V0 fun h so => Arv Z h d kdd .byte (Int32.ofNat (n * 2)) (encS 1 (cs0 ++ cs1)) (.int 0) ∧ so = []) := by
  refine Con.body (plainFor_of_name pn_java_lang_StringUTF16) hEW o1 (allS ge_d all0) #[.val (.ref b), .val (.int (0 : Int32)), .val (.ref d), .val (.int (Int32.ofNat cs0.length)), .val (.int (Int32.ofNat cs1.length)), .unset] (fun m => by first | (simp [entryFrame, mkF, argsToLocals, Value.category]; done) | rfl) ?_
  intro p e s m below meth c B hnm hret hlk G
  replace G := G.iloadN 1 d53_0 rfl rfl |>.iload 3 d53_1 rfl rfl |>.aloadN 4 d53_3 rfl rfl rfl
  obtain ⟨vb', h_b, sob', G', Kb', Qb'⟩ := G.callS 7 (hw _ (mm 258 rfl)) (hw _ (mm 259 rfl)) (hw _ (mm 218 rfl)) (hw _ (mm 260 rfl)) (by decide) [(.int (Int32.ofNat cs0.length)), (.int (Int32.ofNat cs1.length)), (.ref d)] [] rfl (c_ucbo l Z a0 hw hEW n0 c1 hc1 S1 v2 hv2 S2 S3 S4 S5 d kdd cs0.length cs1.length n (encS 1 cs0) G.old hle hn Ad) (lenOf pd__II_B_V rfl) d53_4 rfl (nle rfl) (nle rfl) (nle rfl) (nle rfl) all0 all0 all0 rfl
  replace G := G'; clear G'
  obtain ⟨qb', eb, rfl⟩ := Qb'
  replace G := G.nov qb'
  subst eb
  replace G := G.iconst 8 (0 : Int32) d53_7 rfl rfl |>.istore 10 #[.val (.ref b), .val (.int (0 : Int32)), .val (.ref d), .val (.int (Int32.ofNat cs0.length)), .val (.int (Int32.ofNat cs1.length)), .val (.int (0 : Int32))] d53_8 rfl rfl
  have loop : ∀ (j : Nat) (h : Heap) (i : Nat), i + j = cs1.length → Arv Z h b kb .byte (Int32.ofNat zn) (encS 0 cs1) (.int 0) → Arv Z h d kdd .byte (Int32.ofNat (n * 2)) (encS 1 (cs0 ++ cs1.take i)) (.int 0) → Wl Z a0 "java/lang/StringUTF16" p l e ({ frames := 3, cells := 0, slots := 0, locals := 43 } : Room) s m #[(.ref b), (.int (0 : Int32)), (.ref d), (.int (Int32.ofNat cs0.length)), (.int (Int32.ofNat cs1.length))] below meth c jdk_52_method_86_code 6 B consts_1 h_b n0 [d] [d] h 0 0 10 #[.val (.ref b), .val (.int (Int32.ofNat i)), .val (.ref d), .val (.int (Int32.ofNat (cs0.length + i))), .val (.int (Int32.ofNat cs1.length)), .val (.int (Int32.ofNat i))] [] → Fin Z consts_1 p e below B s h_b n0 [d] ({ frames := 3, cells := 0, slots := 0, locals := 43 } : Room).cells ({ frames := 3, cells := 0, slots := 0, locals := 43 } : Room).slots (V0 fun h so => Arv Z h d kdd .byte (Int32.ofNat (n * 2)) (encS 1 (cs0 ++ cs1)) (.int 0) ∧ so = []) := by
    intro j; induction j with
    | zero =>
      intro h i hij Ab Ad G
      obtain rfl : i = cs1.length := by omega
      replace G := G.iload 12 d53_10 rfl rfl |>.iload 14 d53_12 rfl rfl |>.icmpT 41 d53_14 (XT.ii_ge_t (ofn_nlt (Nat.le_refl _) (by omega))) (by decide) (by decide)
      rw [List.take_length] at Ad
      exact G.retV hret hlk d53_41 [] all0 ⟨rfl, Ad, rfl⟩ (nle rfl) (nle rfl)
    | succ j ih =>
      intro h i hij Ab Ad G
      have hi : i < cs1.length := by omega
      have hci := hc _ (getD_memN cs1 i hi)
      have hti : (cs0 ++ cs1.take i).length = cs0.length + i := by rw [List.length_append, List.length_take]; omega
      replace G := G.iload 12 d53_10 rfl rfl |>.iload 14 d53_12 rfl rfl |>.icmpF 17 d53_14 (XT.ii_ge_f (ofn_lt hi (by omega))) rfl |>.aloadN 18 d53_17 rfl rfl rfl |>.iloadN 19 d53_18 rfl rfl |>.iincV 22 #[.val (.ref b), .val (.int (Int32.ofNat i)), .val (.ref d), .val (.int (Int32.ofNat (cs0.length + i + 1))), .val (.int (Int32.ofNat cs1.length)), .val (.int (Int32.ofNat i))] (Int32.ofNat (cs0.length + i + 1)) d53_19 rfl (ofn_succ _) rfl rfl |>.aloadN 23 d53_22 rfl rfl rfl |>.iloadN 24 d53_23 rfl rfl
      replace G := G.iincV 27 #[.val (.ref b), .val (.int (Int32.ofNat (i + 1))), .val (.ref d), .val (.int (Int32.ofNat (cs0.length + i + 1))), .val (.int (Int32.ofNat cs1.length)), .val (.int (Int32.ofNat i))] (Int32.ofNat (i + 1)) d53_24 rfl (ofn_succ _) rfl rfl |>.baload 28 (v := (.int (byt (cs1.getD i 0)))) Ab ⟨ofn_nn (by omega), ofn_lt (by omega) (by omega)⟩ (by rw [ofn_nat (by omega)]; exact encS0_at cs1 i hi) d53_27 rfl |>.sipush 31 (255 : Int32) d53_28 (by decide) rfl |>.iand 32 d53_31 rfl |>.top (y := (.int (Int32.ofNat (cs1.getD i 0)))) (congrArg Value.int ((byt_mask (by omega)).trans (by rw [Nat.mod_eq_of_lt hci]))) |>.cast (S' := [(.int (Int32.ofNat (cs1.getD i 0))), (.int (Int32.ofNat (cs0 ++ cs1.take i).length)), (.ref d)]) rfl (by rw [hti])
      obtain ⟨vp, h2, sop, G', Kp, Qp⟩ := G.callS 35 (hw _ (mm 233 rfl)) (hw _ (mm 234 rfl)) (hw _ (mm 218 rfl)) (hw _ (mm 235 rfl)) (by decide) [(.ref d), (.int (Int32.ofNat (cs0 ++ cs1.take i).length)), (.int (Int32.ofNat (cs1.getD i 0)))] [] rfl (c_putCh l Z a0 hw hEW n0 c1 hc1 S1 v2 hv2 S2 S3 S4 S5 d kdd n (cs1.getD i 0) (cs0 ++ cs1.take i) G.old (G.nw (Or.inl (mm 0 rfl))) (by omega) (by omega) hn Ad) (lenOf pd___BII_V rfl) d53_32 rfl (nle rfl) (nle rfl) (nle rfl) (nle rfl) (allS (Or.inl (mm 0 rfl)) all0) (allS (mm 0 rfl) all0) (allS (mm 0 rfl) all0) rfl
      replace G := G'; clear G'
      obtain ⟨qp, Ad, rfl⟩ := Qp
      replace G := G.nov qp
      replace Ab := Ab.keep Kp (ninS nbd nin0)
      rw [List.append_assoc, ← tk_succN cs1 i hi] at Ad
      replace G := G.iincV 38 #[.val (.ref b), .val (.int (Int32.ofNat (i + 1))), .val (.ref d), .val (.int (Int32.ofNat (cs0.length + i + 1))), .val (.int (Int32.ofNat cs1.length)), .val (.int (Int32.ofNat (i + 1)))] (Int32.ofNat (i + 1)) d53_35 rfl (ofn_succ _) rfl rfl |>.goto 10 d53_38 (by decide) (by decide)
      rw [Nat.add_assoc] at G
      exact ih _ (i + 1) (by omega) Ab Ad G
  rw [show cs0 = cs0 ++ cs1.take 0 from (List.append_nil _).symm] at Ad
  exact loop cs1.length _ 0 (by omega) Ab Ad G
theorem d52_0 : decode jdk_43_method_50_code 0 = .ok (.aload_n 0, 1) := by decide +kernel
theorem d52_1 : decode jdk_43_method_50_code 1 = .ok (.iload_n 1, 1) := by decide +kernel
theorem d52_2 : decode jdk_43_method_50_code 2 = .ok (.aload_n 2, 1) := by decide +kernel
theorem d52_3 : decode jdk_43_method_50_code 3 = .ok (.iload_n 3, 1) := by decide +kernel
theorem d52_4 : decode jdk_43_method_50_code 4 = .ok (.iload 4, 2) := by decide +kernel
theorem d52_6 : decode jdk_43_method_50_code 6 = .ok (.invokestatic 240, 3) := by decide +kernel
theorem d52_9 : decode jdk_43_method_50_code 9 = .ok (.return_, 1) := by decide +kernel
theorem c_lInfl (l : Launch) (Z : State) (a0 : Array Value) (hw : ∀ d ∈ tables_1, d.before a0 Z = true) (hEW : EW Z a0 consts_1) (n0 : Nat) (c1 : Int32) (hc1 : ¬ c1 = 0) (S1 : Sta Z Z.heap "java/lang/String" "COMPACT_STRINGS" "Z" (.int c1)) (v2 : Value) (hv2 : v2.isRef = true) (S2 : Sta Z Z.heap "jdk/internal/util/Preconditions" "SIOOBE_FORMATTER" "Ljava/util/function/BiFunction;" v2) (S3 : Sta Z Z.heap "java/lang/StringUTF16" "$assertionsDisabled" "Z" (.int 1)) (S4 : Sta Z Z.heap "java/lang/StringUTF16" "HI_BYTE_SHIFT" "I" (.int 0)) (S5 : Sta Z Z.heap "java/lang/StringUTF16" "LO_BYTE_SHIFT" "I" (.int 8)) (b d : Addr) (kb kdd : ClassId) (zn n : Nat) (cs0 cs1 : List Nat) {h0 : Heap} (o1 : Old Z n0 h0) (ge_d : n0 ≤ d) (hn : n < 1073741824) (hz : zn < 1073741824) (hle : cs0.length + cs1.length ≤ n) (hl1 : cs1.length ≤ zn) (hc : ∀ c ∈ cs1, c < 256) (nbd : b ≠ d) (Ab : Arv Z h0 b kb .byte (Int32.ofNat zn) (encS 0 cs1) (.int 0)) (Ad : Arv Z h0 d kdd .byte (Int32.ofNat (n * 2)) (encS 1 cs0) (.int 0)) :
    Con Z a0 l (⟨"java/lang/StringLatin1", "inflate", "([BI[BII)V"⟩ : MethodName) jdk_43_method_50_code 5 (none) ({ frames := 4, cells := 0, slots := 0, locals := 60 } : Room) [] #[(.ref b), (.int (0 : Int32)), (.ref d), (.int (Int32.ofNat cs0.length)), (.int (Int32.ofNat cs1.length))] consts_1 h0 n0 [d] [d] (V0 fun h so => Arv Z h d kdd .byte (Int32.ofNat (n * 2)) (encS 1 (cs0 ++ cs1)) (.int 0) ∧ so = []) := by
  refine Con.body (plainFor_of_name pn_java_lang_StringLatin1) hEW o1 (allS ge_d all0) #[.val (.ref b), .val (.int (0 : Int32)), .val (.ref d), .val (.int (Int32.ofNat cs0.length)), .val (.int (Int32.ofNat cs1.length))] (fun m => by first | (simp [entryFrame, mkF, argsToLocals, Value.category]; done) | rfl) ?_
  intro p e s m below meth c B hnm hret hlk G
  replace G := G.aloadN 1 d52_0 rfl rfl rfl |>.iloadN 2 d52_1 rfl rfl |>.aloadN 3 d52_2 rfl rfl rfl |>.iloadN 4 d52_3 rfl rfl |>.iload 6 d52_4 rfl rfl
  obtain ⟨vi, h1, soi, G', Ki, Qi⟩ := G.callS 9 (hw _ (mm 255 rfl)) (hw _ (mm 256 rfl)) (hw _ (mm 218 rfl)) (hw _ (mm 257 rfl)) (by decide) [(.ref b), (.int (0 : Int32)), (.ref d), (.int (Int32.ofNat cs0.length)), (.int (Int32.ofNat cs1.length))] [] rfl (c_uInfl l Z a0 hw hEW n0 c1 hc1 S1 v2 hv2 S2 S3 S4 S5 b d kb kdd zn n cs0 cs1 G.old ge_d hn hz hle hl1 hc nbd Ab Ad) (lenOf pd___BI_BII_V rfl) d52_6 rfl (nle rfl) (nle rfl) (nle rfl) (nle rfl) (allS (Or.inl (mm 0 rfl)) all0) (allS (mm 0 rfl) all0) (allS (mm 0 rfl) all0) rfl
  replace G := G'; clear G'
  obtain ⟨qi, Ad, rfl⟩ := Qi
  replace G := G.nov qi
  exact G.retV hret hlk d52_9 [] all0 ⟨rfl, Ad, rfl⟩ (nle rfl) (nle rfl)
theorem d10_0 : decode jdk_68_method_2_code 0 = .ok (.aload_n 0, 1) := by decide +kernel
theorem d10_1 : decode jdk_68_method_2_code 1 = .ok (.invokespecial 3, 3) := by decide +kernel
theorem d10_4 : decode jdk_68_method_2_code 4 = .ok (.getstatic 18, 3) := by decide +kernel
theorem d10_7 : decode jdk_68_method_2_code 7 = .ok (.ifCond .eq 18, 3) := by decide +kernel
theorem d10_10 : decode jdk_68_method_2_code 10 = .ok (.aload_n 0, 1) := by decide +kernel
theorem d10_11 : decode jdk_68_method_2_code 11 = .ok (.iload_n 1, 1) := by decide +kernel
theorem d10_12 : decode jdk_68_method_2_code 12 = .ok (.newarray .byte, 2) := by decide +kernel
theorem d10_14 : decode jdk_68_method_2_code 14 = .ok (.putfield 15, 3) := by decide +kernel
theorem d10_17 : decode jdk_68_method_2_code 17 = .ok (.aload_n 0, 1) := by decide +kernel
theorem d10_18 : decode jdk_68_method_2_code 18 = .ok (.iconst 0, 1) := by decide +kernel
theorem d10_19 : decode jdk_68_method_2_code 19 = .ok (.putfield 22, 3) := by decide +kernel
theorem d10_22 : decode jdk_68_method_2_code 22 = .ok (.goto 16, 3) := by decide +kernel
theorem d10_25 : decode jdk_68_method_2_code 25 = .ok (.aload_n 0, 1) := by decide +kernel
theorem d10_26 : decode jdk_68_method_2_code 26 = .ok (.iload_n 1, 1) := by decide +kernel
theorem d10_27 : decode jdk_68_method_2_code 27 = .ok (.invokestatic 26, 3) := by decide +kernel
theorem d10_30 : decode jdk_68_method_2_code 30 = .ok (.putfield 15, 3) := by decide +kernel
theorem d10_33 : decode jdk_68_method_2_code 33 = .ok (.aload_n 0, 1) := by decide +kernel
theorem d10_34 : decode jdk_68_method_2_code 34 = .ok (.iconst 1, 1) := by decide +kernel
theorem d10_35 : decode jdk_68_method_2_code 35 = .ok (.putfield 22, 3) := by decide +kernel
theorem d10_38 : decode jdk_68_method_2_code 38 = .ok (.return_, 1) := by decide +kernel
theorem c_asbIK (l : Launch) (Z : State) (a0 : Array Value) (hw : ∀ d ∈ tables_1, d.before a0 Z = true) (hEW : EW Z a0 consts_1) (n0 : Nat) (c1 : Int32) (hc1 : ¬ c1 = 0) (S1 : Sta Z Z.heap "java/lang/String" "COMPACT_STRINGS" "Z" (.int c1)) (v2 : Value) (hv2 : v2.isRef = true) (S2 : Sta Z Z.heap "jdk/internal/util/Preconditions" "SIOOBE_FORMATTER" "Ljava/util/function/BiFunction;" v2) (S3 : Sta Z Z.heap "java/lang/StringUTF16" "$assertionsDisabled" "Z" (.int 1)) (S4 : Sta Z Z.heap "java/lang/StringUTF16" "HI_BYTE_SHIFT" "I" (.int 0)) (S5 : Sta Z Z.heap "java/lang/StringUTF16" "LO_BYTE_SHIFT" "I" (.int 8)) (a : Addr) (cap : Nat) {h0 : Heap} (o1 : Old Z n0 h0) (ge_a : n0 ≤ a) (hcap : cap ≤ 16) (Xa : Exa Z h0 a "java/lang/StringBuilder") (Fv : Fld Z h0 a "java/lang/AbstractStringBuilder" "value" "[B" .null) (Fc : Fld Z h0 a "java/lang/AbstractStringBuilder" "coder" "B" (.int 0)) (Fn : Fld Z h0 a "java/lang/AbstractStringBuilder" "count" "I" (.int 0)) (Fm : Fld Z h0 a "java/lang/AbstractStringBuilder" "maybeLatin1" "Z" (.int 0)) :
    Con Z a0 l (⟨"java/lang/AbstractStringBuilder", "<init>", "(I)V"⟩ : MethodName) jdk_68_method_2_code 2 (none) ({ frames := 1, cells := 1, slots := 16, locals := 12 } : Room) [] #[(.ref a), (.int (Int32.ofNat cap))] consts_1 h0 n0 [a] [a] (V0 fun h so => ∃ b, SbdK Z h a b cap 0 [] ∧ h0.size ≤ b ∧ so = [b]) := by
  refine Con.body (plainFor_of_name pn_java_lang_AbstractStringBuilder) hEW o1 (allS ge_a all0) #[.val (.ref a), .val (.int (Int32.ofNat cap))] (fun m => by first | (simp [entryFrame, mkF, argsToLocals, Value.category]; done) | rfl) ?_
  intro p e s m below meth c B hnm hret hlk G
  replace G := G.aloadN 1 d10_0 rfl rfl rfl |>.initO 4 (hw _ (mm 55 rfl)) (hw _ (mm 27 rfl)) (hw _ (mm 28 rfl)) d10_1 rfl (nle rfl) (nle rfl) rfl |>.gets 7 (host := "") (Or.inl (hw _ (mm 56 rfl))) Via.refl (G.sta S1) d10_4 rfl |>.ifF 10 d10_7 (XT.i0_eq_f hc1) rfl |>.aloadN 11 d10_10 rfl rfl rfl |>.iloadN 12 d10_11 rfl rfl
  obtain ⟨b, h1, kb, G', gb, sb, Eb, Ab⟩ := G.newarray 14 (hw _ (mm 30 rfl)) d10_12 (ofn_nn (by omega)) 16 (by rw [ofn_nat (by omega)]; exact hcap) (by decide) rfl (nle rfl) (nle rfl)
  replace G := G'; clear G'
  have nab : a ≠ b := ne_new gb Xa.lt
  replace Xa := Xa.ext Eb; replace Fv := Fv.ext Eb; replace Fc := Fc.ext Eb; replace Fn := Fn.ext Eb; replace Fm := Fm.ext Eb
  obtain ⟨h2, G', Wv, Fv, Kv⟩ := G.putf 17 (host := "") (Or.inl (hw _ (mm 57 rfl))) Via.refl Fv Xa (Or.inl (hw _ (mm 58 rfl))) (hw _ (mm 44 rfl)) (ty := (.array .byte)) (by decide) rfl rfl (Or.inl (mm 0 rfl)) (mm 1 rfl) d10_14 rfl
  replace G := G'; clear G'
  replace Fn := Fn.other Wv (Or.inr (slot_ne (Or.inl (hw _ (mm 83 rfl))) (Or.inl (hw _ (mm 58 rfl))) (by decide) (t := .int) (t' := (.array .byte)) (by decide) (by decide))); replace Fc := Fc.other Wv (Or.inr (slot_ne (Or.inl (hw _ (mm 60 rfl))) (Or.inl (hw _ (mm 58 rfl))) (by decide) (t := .byte) (t' := (.array .byte)) (by decide) (by decide))); replace Fm := Fm.other Wv (Or.inr (slot_ne (Or.inl (hw _ (mm 271 rfl))) (Or.inl (hw _ (mm 58 rfl))) (by decide) (t := .boolean) (t' := (.array .byte)) (by decide) (by decide))); replace Xa := Xa.wr Wv; replace Ab := Ab.keep Kv (ninS nab.symm nin0)
  replace G := G.aloadN 18 d10_17 rfl rfl rfl |>.iconst 19 (0 : Int32) d10_18 rfl rfl
  obtain ⟨h3, G', Wc, Fc, Kc⟩ := G.putf 22 (host := "") (Or.inl (hw _ (mm 59 rfl))) Via.refl Fc Xa (Or.inl (hw _ (mm 60 rfl))) (hw _ (mm 44 rfl)) (ty := .byte) (by decide) rfl rfl (Or.inl (mm 0 rfl)) (mm 1 rfl) d10_19 rfl
  replace G := G'; clear G'
  replace Fn := Fn.other Wc (Or.inr (slot_ne (Or.inl (hw _ (mm 83 rfl))) (Or.inl (hw _ (mm 60 rfl))) (by decide) (t := .int) (t' := .byte) (by decide) (by decide))); replace Fv := Fv.other Wc (Or.inr (slot_ne (Or.inl (hw _ (mm 58 rfl))) (Or.inl (hw _ (mm 60 rfl))) (by decide) (t := (.array .byte)) (t' := .byte) (by decide) (by decide))); replace Fm := Fm.other Wc (Or.inr (slot_ne (Or.inl (hw _ (mm 271 rfl))) (Or.inl (hw _ (mm 60 rfl))) (by decide) (t := .boolean) (t' := .byte) (by decide) (by decide))); replace Xa := Xa.wr Wc; replace Ab := Ab.keep Kc (ninS nab.symm nin0)
  replace G := G.goto 38 d10_22 (by decide) (by decide)
  exact G.retV hret hlk d10_38 [b] (allS (mm 0 rfl) all0) ⟨rfl, b, ⟨Xa, Fv, Fc, Fn, Fm, kb, by rw [Nat.pow_zero, Nat.mul_one]; exact Ab⟩, sb, rfl⟩ (nle rfl) (nle rfl)
theorem d9_0 : decode jdk_67_method_1_code 0 = .ok (.aload_n 0, 1) := by decide +kernel
theorem d9_1 : decode jdk_67_method_1_code 1 = .ok (.bipush 16, 2) := by decide +kernel
theorem d9_3 : decode jdk_67_method_1_code 3 = .ok (.invokespecial 1, 3) := by decide +kernel
theorem d9_6 : decode jdk_67_method_1_code 6 = .ok (.return_, 1) := by decide +kernel
theorem c_sbIK (l : Launch) (Z : State) (a0 : Array Value) (hw : ∀ d ∈ tables_1, d.before a0 Z = true) (hEW : EW Z a0 consts_1) (n0 : Nat) (c1 : Int32) (hc1 : ¬ c1 = 0) (S1 : Sta Z Z.heap "java/lang/String" "COMPACT_STRINGS" "Z" (.int c1)) (v2 : Value) (hv2 : v2.isRef = true) (S2 : Sta Z Z.heap "jdk/internal/util/Preconditions" "SIOOBE_FORMATTER" "Ljava/util/function/BiFunction;" v2) (S3 : Sta Z Z.heap "java/lang/StringUTF16" "$assertionsDisabled" "Z" (.int 1)) (S4 : Sta Z Z.heap "java/lang/StringUTF16" "HI_BYTE_SHIFT" "I" (.int 0)) (S5 : Sta Z Z.heap "java/lang/StringUTF16" "LO_BYTE_SHIFT" "I" (.int 8)) (a : Addr) {h0 : Heap} (o1 : Old Z n0 h0) (ge_a : n0 ≤ a) (Xa : Exa Z h0 a "java/lang/StringBuilder") (Fv : Fld Z h0 a "java/lang/AbstractStringBuilder" "value" "[B" .null) (Fc : Fld Z h0 a "java/lang/AbstractStringBuilder" "coder" "B" (.int 0)) (Fn : Fld Z h0 a "java/lang/AbstractStringBuilder" "count" "I" (.int 0)) (Fm : Fld Z h0 a "java/lang/AbstractStringBuilder" "maybeLatin1" "Z" (.int 0)) :
    Con Z a0 l (⟨"java/lang/StringBuilder", "<init>", "()V"⟩ : MethodName) jdk_67_method_1_code 1 (none) ({ frames := 2, cells := 1, slots := 16, locals := 25 } : Room) [] #[(.ref a)] consts_1 h0 n0 [a] [a] (V0 fun h so => ∃ b, SbdK Z h a b 16 0 [] ∧ h0.size ≤ b ∧ so = [b]) := by
  refine Con.body (plainFor_of_name pn_java_lang_StringBuilder) hEW o1 (allS ge_a all0) #[.val (.ref a)] (fun m => by first | (simp [entryFrame, mkF, argsToLocals, Value.category]; done) | rfl) ?_
  intro p e s m below meth c B hnm hret hlk G
  replace G := G.aloadN 1 d9_0 rfl rfl rfl |>.bipush 3 (16 : Int32) d9_1 (by decide) rfl |>.top (y := (.int (Int32.ofNat 16))) (rfl)
  obtain ⟨vi, h1, soi, G', Ki, Qi⟩ := G.callI 6 rfl rfl (hw _ (mm 49 rfl)) (hw _ (mm 50 rfl)) (hw _ (mm 53 rfl)) (hw _ (mm 54 rfl)) (by decide) [(.int (Int32.ofNat 16))] [] rfl (c_asbIK l Z a0 hw hEW n0 c1 hc1 S1 v2 hv2 S2 S3 S4 S5 a 16 G.old ge_a (by decide) Xa Fv Fc Fn Fm) (lenOf pd__I_V rfl) d9_3 rfl (nle rfl) (nle rfl) (nle rfl) (nle rfl) (allS (Or.inl (mm 0 rfl)) all0) (allS (mm 0 rfl) all0) (allS (mm 0 rfl) all0) rfl
  replace G := G'; clear G'
  obtain ⟨qi, b, hS, hb, rfl⟩ := Qi
  replace G := G.nov qi
  exact G.retV hret hlk d9_6 [b] (allS (mm 0 rfl) all0) ⟨rfl, b, hS, hb, rfl⟩ (nle rfl) (nle rfl)
theorem d15_0 : decode jdk_68_method_9_code 0 = .ok (.aload_n 0, 1) := by decide +kernel
theorem d15_1 : decode jdk_68_method_9_code 1 = .ok (.getfield 15, 3) := by decide +kernel
theorem d15_4 : decode jdk_68_method_9_code 4 = .ok (.arraylength, 1) := by decide +kernel
theorem d15_5 : decode jdk_68_method_9_code 5 = .ok (.aload_n 0, 1) := by decide +kernel
theorem d15_6 : decode jdk_68_method_9_code 6 = .ok (.getfield 22, 3) := by decide +kernel
theorem d15_9 : decode jdk_68_method_9_code 9 = .ok (.ishr, 1) := by decide +kernel
theorem d15_10 : decode jdk_68_method_9_code 10 = .ok (.istore_n 2, 1) := by decide +kernel
theorem d15_11 : decode jdk_68_method_9_code 11 = .ok (.iload_n 1, 1) := by decide +kernel
theorem d15_12 : decode jdk_68_method_9_code 12 = .ok (.iload_n 2, 1) := by decide +kernel
theorem d15_13 : decode jdk_68_method_9_code 13 = .ok (.isub, 1) := by decide +kernel
theorem d15_14 : decode jdk_68_method_9_code 14 = .ok (.ifCond .le 24, 3) := by decide +kernel
theorem d15_17 : decode jdk_68_method_9_code 17 = .ok (.aload_n 0, 1) := by decide +kernel
theorem d15_18 : decode jdk_68_method_9_code 18 = .ok (.aload_n 0, 1) := by decide +kernel
theorem d15_19 : decode jdk_68_method_9_code 19 = .ok (.getfield 15, 3) := by decide +kernel
theorem d15_22 : decode jdk_68_method_9_code 22 = .ok (.aload_n 0, 1) := by decide +kernel
theorem d15_23 : decode jdk_68_method_9_code 23 = .ok (.iload_n 1, 1) := by decide +kernel
theorem d15_24 : decode jdk_68_method_9_code 24 = .ok (.invokevirtual 104, 3) := by decide +kernel
theorem d15_27 : decode jdk_68_method_9_code 27 = .ok (.aload_n 0, 1) := by decide +kernel
theorem d15_28 : decode jdk_68_method_9_code 28 = .ok (.getfield 22, 3) := by decide +kernel
theorem d15_31 : decode jdk_68_method_9_code 31 = .ok (.ishl, 1) := by decide +kernel
theorem d15_32 : decode jdk_68_method_9_code 32 = .ok (.invokestatic 108, 3) := by decide +kernel
theorem d15_35 : decode jdk_68_method_9_code 35 = .ok (.putfield 15, 3) := by decide +kernel
theorem d15_38 : decode jdk_68_method_9_code 38 = .ok (.return_, 1) := by decide +kernel
theorem c_ensK (l : Launch) (Z : State) (a0 : Array Value) (hw : ∀ d ∈ tables_1, d.before a0 Z = true) (hEW : EW Z a0 consts_1) (n0 : Nat) (c1 : Int32) (hc1 : ¬ c1 = 0) (S1 : Sta Z Z.heap "java/lang/String" "COMPACT_STRINGS" "Z" (.int c1)) (v2 : Value) (hv2 : v2.isRef = true) (S2 : Sta Z Z.heap "jdk/internal/util/Preconditions" "SIOOBE_FORMATTER" "Ljava/util/function/BiFunction;" v2) (S3 : Sta Z Z.heap "java/lang/StringUTF16" "$assertionsDisabled" "Z" (.int 1)) (S4 : Sta Z Z.heap "java/lang/StringUTF16" "HI_BYTE_SHIFT" "I" (.int 0)) (S5 : Sta Z Z.heap "java/lang/StringUTF16" "LO_BYTE_SHIFT" "I" (.int 8)) (a b : Addr) (cap k mc : Nat) (cs : List Nat) {h0 : Heap} (o1 : Old Z n0 h0) (hk : k = 0 ∨ k = 1) (hmc : mc ≤ cap) (hcap : cap ≤ 16) (hS : SbdK Z h0 a b cap k cs) :
    Con Z a0 l (⟨"java/lang/AbstractStringBuilder", "ensureCapacityInternal", "(I)V"⟩ : MethodName) jdk_68_method_9_code 3 (none) ({ frames := 0, cells := 0, slots := 0, locals := 0 } : Room) [] #[(.ref a), (.int (Int32.ofNat mc))] consts_1 h0 n0 [] [] (V0 fun h so => h = h0 ∧ so = []) := by
  refine Con.body (plainFor_of_name pn_java_lang_AbstractStringBuilder) hEW o1 all0 #[.val (.ref a), .val (.int (Int32.ofNat mc)), .unset] (fun m => by first | (simp [entryFrame, mkF, argsToLocals, Value.category]; done) | rfl) ?_
  intro p e s m below meth c B hnm hret hlk G
  obtain ⟨Xa, Fv, Fc, Fn, Fm, kb, Ab⟩ := hS
  replace G := G.aloadN 1 d15_0 rfl rfl rfl |>.getf 4 (host := "") (Or.inl (hw _ (mm 57 rfl))) Via.refl Fv d15_1 rfl |>.alen 5 Ab d15_4 rfl |>.aloadN 6 d15_5 rfl rfl rfl |>.getf 9 (host := "") (Or.inl (hw _ (mm 59 rfl))) Via.refl Fc d15_6 rfl |>.ishr 10 d15_9 rfl |>.top (y := (.int (Int32.ofNat cap))) (congrArg Value.int (shrK hk (by omega))) |>.istoreN 11 #[.val (.ref a), .val (.int (Int32.ofNat mc)), .val (.int (Int32.ofNat cap))] d15_10 rfl rfl
  replace G := G.iloadN 12 d15_11 rfl rfl |>.iloadN 13 d15_12 rfl rfl |>.isub 14 d15_13 rfl |>.ifT 38 d15_14 (XT.i0_le_t (ofn_le0 hmc (by omega))) (by decide) (by decide)
  exact G.retV hret hlk d15_38 [] all0 ⟨rfl, rfl, rfl⟩ (nle rfl) (nle rfl)
theorem d25_0 : decode jdk_68_method_68_code 0 = .ok (.getstatic 18, 3) := by decide +kernel
theorem d25_3 : decode jdk_68_method_68_code 3 = .ok (.ifCond .eq 14, 3) := by decide +kernel
theorem d25_6 : decode jdk_68_method_68_code 6 = .ok (.aload_n 0, 1) := by decide +kernel
theorem d25_7 : decode jdk_68_method_68_code 7 = .ok (.getfield 22, 3) := by decide +kernel
theorem d25_10 : decode jdk_68_method_68_code 10 = .ok (.ifCond .ne 7, 3) := by decide +kernel
theorem d25_13 : decode jdk_68_method_68_code 13 = .ok (.iconst 1, 1) := by decide +kernel
theorem d25_14 : decode jdk_68_method_68_code 14 = .ok (.goto 4, 3) := by decide +kernel
theorem d25_17 : decode jdk_68_method_68_code 17 = .ok (.iconst 0, 1) := by decide +kernel
theorem d25_18 : decode jdk_68_method_68_code 18 = .ok (.ireturn, 1) := by decide +kernel
theorem c_isL1K (l : Launch) (Z : State) (a0 : Array Value) (hw : ∀ d ∈ tables_1, d.before a0 Z = true) (hEW : EW Z a0 consts_1) (n0 : Nat) (c1 : Int32) (hc1 : ¬ c1 = 0) (S1 : Sta Z Z.heap "java/lang/String" "COMPACT_STRINGS" "Z" (.int c1)) (v2 : Value) (hv2 : v2.isRef = true) (S2 : Sta Z Z.heap "jdk/internal/util/Preconditions" "SIOOBE_FORMATTER" "Ljava/util/function/BiFunction;" v2) (S3 : Sta Z Z.heap "java/lang/StringUTF16" "$assertionsDisabled" "Z" (.int 1)) (S4 : Sta Z Z.heap "java/lang/StringUTF16" "HI_BYTE_SHIFT" "I" (.int 0)) (S5 : Sta Z Z.heap "java/lang/StringUTF16" "LO_BYTE_SHIFT" "I" (.int 8)) (a b : Addr) (cap k : Nat) (cs : List Nat) {h0 : Heap} (o1 : Old Z n0 h0) (hk : k = 0 ∨ k = 1) (hS : SbdK Z h0 a b cap k cs) :
    Con Z a0 l (⟨"java/lang/AbstractStringBuilder", "isLatin1", "()Z"⟩ : MethodName) jdk_68_method_68_code 1 (some .boolean) ({ frames := 0, cells := 0, slots := 0, locals := 0 } : Room) [] #[(.ref a)] consts_1 h0 n0 [] [] (VV fun w h so => w = .int (Int32.ofNat (1 - k)) ∧ h = h0 ∧ so = []) := by
  refine Con.body (plainFor_of_name pn_java_lang_AbstractStringBuilder) hEW o1 all0 #[.val (.ref a)] (fun m => by first | (simp [entryFrame, mkF, argsToLocals, Value.category]; done) | rfl) ?_
  intro p e s m below meth c B hnm hret hlk G
  replace G := G.gets 3 (host := "") (Or.inl (hw _ (mm 56 rfl))) Via.refl (G.sta S1) d25_0 rfl |>.ifF 6 d25_3 (XT.i0_eq_f hc1) rfl |>.aloadN 7 d25_6 rfl rfl rfl |>.getf 10 (host := "") (Or.inl (hw _ (mm 59 rfl))) Via.refl hS.2.2.1 d25_7 rfl
  rcases hk with rfl | rfl
  · skip
    replace G := G.ifF 13 d25_10 (XT.i0_ne_f rfl) rfl |>.iconst 14 (1 : Int32) d25_13 rfl rfl |>.goto 18 d25_14 (by decide) (by decide)
    exact G.retN hret (Or.inl rfl) hlk d25_18 [] all0 ⟨_, rfl, rfl, rfl, rfl⟩ (nle rfl) (nle rfl)
  · skip
    replace G := G.ifT 17 d25_10 (XT.i0_ne_t (by decide)) (by decide) (by decide) |>.iconst 18 (0 : Int32) d25_17 rfl rfl
    exact G.retN hret (Or.inl rfl) hlk d25_18 [] all0 ⟨_, rfl, rfl, rfl, rfl⟩ (nle rfl) (nle rfl)
theorem d51_0 : decode jdk_68_method_11_code 0 = .ok (.aload_n 0, 1) := by decide +kernel
theorem d51_1 : decode jdk_68_method_11_code 1 = .ok (.invokevirtual 83, 3) := by decide +kernel
theorem d51_4 : decode jdk_68_method_11_code 4 = .ok (.ifCond .ne 4, 3) := by decide +kernel
theorem d51_7 : decode jdk_68_method_11_code 7 = .ok (.return_, 1) := by decide +kernel
theorem d51_8 : decode jdk_68_method_11_code 8 = .ok (.aload_n 0, 1) := by decide +kernel
theorem d51_9 : decode jdk_68_method_11_code 9 = .ok (.getfield 15, 3) := by decide +kernel
theorem d51_12 : decode jdk_68_method_11_code 12 = .ok (.arraylength, 1) := by decide +kernel
theorem d51_13 : decode jdk_68_method_11_code 13 = .ok (.invokestatic 26, 3) := by decide +kernel
theorem d51_16 : decode jdk_68_method_11_code 16 = .ok (.astore_n 1, 1) := by decide +kernel
theorem d51_17 : decode jdk_68_method_11_code 17 = .ok (.aload_n 0, 1) := by decide +kernel
theorem d51_18 : decode jdk_68_method_11_code 18 = .ok (.getfield 15, 3) := by decide +kernel
theorem d51_21 : decode jdk_68_method_11_code 21 = .ok (.iconst 0, 1) := by decide +kernel
theorem d51_22 : decode jdk_68_method_11_code 22 = .ok (.aload_n 1, 1) := by decide +kernel
theorem d51_23 : decode jdk_68_method_11_code 23 = .ok (.iconst 0, 1) := by decide +kernel
theorem d51_24 : decode jdk_68_method_11_code 24 = .ok (.aload_n 0, 1) := by decide +kernel
theorem d51_25 : decode jdk_68_method_11_code 25 = .ok (.getfield 79, 3) := by decide +kernel
theorem d51_28 : decode jdk_68_method_11_code 28 = .ok (.invokestatic 125, 3) := by decide +kernel
theorem d51_31 : decode jdk_68_method_11_code 31 = .ok (.aload_n 0, 1) := by decide +kernel
theorem d51_32 : decode jdk_68_method_11_code 32 = .ok (.aload_n 1, 1) := by decide +kernel
theorem d51_33 : decode jdk_68_method_11_code 33 = .ok (.putfield 15, 3) := by decide +kernel
theorem d51_36 : decode jdk_68_method_11_code 36 = .ok (.aload_n 0, 1) := by decide +kernel
theorem d51_37 : decode jdk_68_method_11_code 37 = .ok (.iconst 1, 1) := by decide +kernel
theorem d51_38 : decode jdk_68_method_11_code 38 = .ok (.putfield 22, 3) := by decide +kernel
theorem d51_41 : decode jdk_68_method_11_code 41 = .ok (.return_, 1) := by decide +kernel
theorem c_inflK (l : Launch) (Z : State) (a0 : Array Value) (hw : ∀ d ∈ tables_1, d.before a0 Z = true) (hEW : EW Z a0 consts_1) (n0 : Nat) (c1 : Int32) (hc1 : ¬ c1 = 0) (S1 : Sta Z Z.heap "java/lang/String" "COMPACT_STRINGS" "Z" (.int c1)) (v2 : Value) (hv2 : v2.isRef = true) (S2 : Sta Z Z.heap "jdk/internal/util/Preconditions" "SIOOBE_FORMATTER" "Ljava/util/function/BiFunction;" v2) (S3 : Sta Z Z.heap "java/lang/StringUTF16" "$assertionsDisabled" "Z" (.int 1)) (S4 : Sta Z Z.heap "java/lang/StringUTF16" "HI_BYTE_SHIFT" "I" (.int 0)) (S5 : Sta Z Z.heap "java/lang/StringUTF16" "LO_BYTE_SHIFT" "I" (.int 8)) (a b : Addr) (cap k : Nat) (cs : List Nat) {h0 : Heap} (o1 : Old Z n0 h0) (ge_a : n0 ≤ a) (hk : k = 0 ∨ k = 1) (hcap : cap ≤ 16) (hlen : cs.length ≤ cap) (h8 : k = 0 → ∀ c ∈ cs, c < 256) (hS : SbdK Z h0 a b cap k cs) :
    Con Z a0 l (⟨"java/lang/AbstractStringBuilder", "inflate", "()V"⟩ : MethodName) jdk_68_method_11_code 2 (none) ({ frames := 5, cells := 1, slots := 32, locals := 76 } : Room) [] #[(.ref a)] consts_1 h0 n0 [a] [a, b] (V0 fun h so => ∃ b', SbdK Z h a b' cap 1 cs ∧ (b' = b ∨ h0.size ≤ b') ∧ so = [b']) := by
  refine Con.body (plainFor_of_name pn_java_lang_AbstractStringBuilder) hEW o1 (allS ge_a all0) #[.val (.ref a), .unset] (fun m => by first | (simp [entryFrame, mkF, argsToLocals, Value.category]; done) | rfl) ?_
  intro p e s m below meth c B hnm hret hlk G
  replace G := G.aloadN 1 d51_0 rfl rfl rfl
  obtain ⟨vl, h_l, sol, G', Kl, Ql⟩ := G.callV 4 (hw _ (mm 250 rfl)) (hw _ (mm 136 rfl)) (nfSel (hw _ (mm 138 rfl))) (hw _ (mm 138 rfl)) (hw _ (mm 137 rfl)) (hw _ (mm 53 rfl)) (hw _ (mm 139 rfl)) hS.1 (by decide) [] [] rfl (c_isL1K l Z a0 hw hEW n0 c1 hc1 S1 v2 hv2 S2 S3 S4 S5 a b cap k cs G.old hk hS) (lenOf pd___Z rfl) d51_1 rfl (nle rfl) (nle rfl) (nle rfl) (nle rfl) all0 all0 all0 rfl
  replace G := G'; clear G'
  obtain ⟨wl, ql, rfl, el, rfl⟩ := Ql
  replace G := G.val ql
  subst el
  rcases hk with rfl | rfl
  · skip
    replace G := G.ifT 8 d51_4 (XT.i0_ne_t (by decide)) (by decide) (by decide)
    obtain ⟨Xa, Fv, Fc, Fn, Fm, kb, Ab⟩ := hS
    rw [Nat.pow_zero, Nat.mul_one] at Ab
    replace G := G.aloadN 9 d51_8 rfl rfl rfl |>.getf 12 (host := "") (Or.inl (hw _ (mm 57 rfl))) Via.refl Fv d51_9 rfl |>.alen 13 Ab d51_12 rfl
    obtain ⟨vn, h1, son, G', Kn, Qn⟩ := G.callS 16 (hw _ (mm 251 rfl)) (hw _ (mm 227 rfl)) (hw _ (mm 218 rfl)) (hw _ (mm 228 rfl)) (by decide) [(.int (Int32.ofNat cap))] [] rfl (c_nbf l Z a0 hw hEW n0 c1 hc1 S1 v2 hv2 S2 S3 S4 S5 cap G.old hcap) (lenOf pd__I__B rfl) d51_13 rfl (nle rfl) (nle rfl) (nle rfl) (nle rfl) all0 all0 all0 rfl
    replace G := G'; clear G'
    obtain ⟨wn, qn, d, rfl, ⟨kdd, Ad⟩, sd, rfl⟩ := Qn
    replace G := G.val qn
    have nbd : b ≠ d := (ne_ge Ab.lt sd).symm; have nad : a ≠ d := (ne_ge Xa.lt sd).symm
    replace Ab := Ab.keep Kn nin0; replace Xa := Xa.keep Kn; replace Fv := Fv.keep Kn nin0; replace Fc := Fc.keep Kn nin0; replace Fn := Fn.keep Kn nin0; replace Fm := Fm.keep Kn nin0
    replace G := G.astoreN 17 #[.val (.ref a), .val (.ref d)] d51_16 rfl rfl rfl |>.aloadN 18 d51_17 rfl rfl rfl |>.getf 21 (host := "") (Or.inl (hw _ (mm 57 rfl))) Via.refl Fv d51_18 rfl |>.iconst 22 (0 : Int32) d51_21 rfl rfl |>.aloadN 23 d51_22 rfl rfl rfl |>.iconst 24 (0 : Int32) d51_23 rfl rfl |>.aloadN 25 d51_24 rfl rfl rfl |>.getf 28 (host := "") (Or.inl (hw _ (mm 82 rfl))) Via.refl Fn d51_25 rfl
    obtain ⟨vi, h2, soi, G', Ki, Qi⟩ := G.callS 31 (hw _ (mm 252 rfl)) (hw _ (mm 253 rfl)) (hw _ (mm 163 rfl)) (hw _ (mm 254 rfl)) (by decide) [(.ref b), (.int (0 : Int32)), (.ref d), (.int (0 : Int32)), (.int (Int32.ofNat cs.length))] [] rfl (c_lInfl l Z a0 hw hEW n0 c1 hc1 S1 v2 hv2 S2 S3 S4 S5 b d kb kdd cap cap [] cs G.old (G.nw (Or.inr sd)) (by omega) (by omega) (by simpa using hlen) hlen (h8 rfl) nbd Ab Ad) (lenOf pd___BI_BII_V rfl) d51_28 rfl (nle rfl) (nle rfl) (nle rfl) (nle rfl) (allS (Or.inr sd) all0) (allS (mm 0 rfl) all0) (allS (mm 0 rfl) all0) rfl
    replace G := G'; clear G'
    obtain ⟨qi, Ad, rfl⟩ := Qi
    replace G := G.nov qi
    replace Xa := Xa.keep Ki; replace Fv := Fv.keep Ki (ninS nad nin0); replace Fc := Fc.keep Ki (ninS nad nin0); replace Fn := Fn.keep Ki (ninS nad nin0); replace Fm := Fm.keep Ki (ninS nad nin0)
    replace G := G.aloadN 32 d51_31 rfl rfl rfl |>.aloadN 33 d51_32 rfl rfl rfl
    obtain ⟨h3, G', Wv', Fv', Kv'⟩ := G.putf 36 (host := "") (Or.inl (hw _ (mm 57 rfl))) Via.refl Fv Xa (Or.inl (hw _ (mm 58 rfl))) (hw _ (mm 44 rfl)) (ty := (.array .byte)) (by decide) rfl rfl (Or.inl (mm 0 rfl)) (mm 1 rfl) d51_33 rfl
    replace G := G'; clear G'
    replace Fn := Fn.other Wv' (Or.inr (slot_ne (Or.inl (hw _ (mm 83 rfl))) (Or.inl (hw _ (mm 58 rfl))) (by decide) (t := .int) (t' := (.array .byte)) (by decide) (by decide))); replace Fc := Fc.other Wv' (Or.inr (slot_ne (Or.inl (hw _ (mm 60 rfl))) (Or.inl (hw _ (mm 58 rfl))) (by decide) (t := .byte) (t' := (.array .byte)) (by decide) (by decide))); replace Fm := Fm.other Wv' (Or.inr (slot_ne (Or.inl (hw _ (mm 271 rfl))) (Or.inl (hw _ (mm 58 rfl))) (by decide) (t := .boolean) (t' := (.array .byte)) (by decide) (by decide))); replace Xa := Xa.wr Wv'; replace Ad := Ad.keep Kv' (ninS nad.symm nin0)
    replace G := G.aloadN 37 d51_36 rfl rfl rfl |>.iconst 38 (1 : Int32) d51_37 rfl rfl
    obtain ⟨h4, G', Wc', Fc', Kc'⟩ := G.putf 41 (host := "") (Or.inl (hw _ (mm 59 rfl))) Via.refl Fc Xa (Or.inl (hw _ (mm 60 rfl))) (hw _ (mm 44 rfl)) (ty := .byte) (by decide) rfl rfl (Or.inl (mm 0 rfl)) (mm 1 rfl) d51_38 rfl
    replace G := G'; clear G'
    replace Fn := Fn.other Wc' (Or.inr (slot_ne (Or.inl (hw _ (mm 83 rfl))) (Or.inl (hw _ (mm 60 rfl))) (by decide) (t := .int) (t' := .byte) (by decide) (by decide))); replace Fv' := Fv'.other Wc' (Or.inr (slot_ne (Or.inl (hw _ (mm 58 rfl))) (Or.inl (hw _ (mm 60 rfl))) (by decide) (t := (.array .byte)) (t' := .byte) (by decide) (by decide))); replace Fm := Fm.other Wc' (Or.inr (slot_ne (Or.inl (hw _ (mm 271 rfl))) (Or.inl (hw _ (mm 60 rfl))) (by decide) (t := .boolean) (t' := .byte) (by decide) (by decide))); replace Xa := Xa.wr Wc'; replace Ad := Ad.keep Kc' (ninS nad.symm nin0)
    exact G.retV hret hlk d51_41 [d] (allS (mm 0 rfl) all0) ⟨rfl, d, ⟨Xa, Fv', Fc', Fn, Fm, kdd, Ad⟩, Or.inr sd, rfl⟩ (nle rfl) (nle rfl)
  · skip
    replace G := G.ifF 7 d51_4 (XT.i0_ne_f rfl) rfl
    exact G.retV hret hlk d51_7 [b] (allS (mm 1 rfl) all0) ⟨rfl, b, hS, Or.inl rfl, rfl⟩ (nle rfl) (nle rfl)
theorem d17_0 : decode jdk_68_method_71_code 0 = .ok (.getstatic 18, 3) := by decide +kernel
theorem d17_3 : decode jdk_68_method_71_code 3 = .ok (.ifCond .eq 18, 3) := by decide +kernel
theorem d17_6 : decode jdk_68_method_71_code 6 = .ok (.aload_n 0, 1) := by decide +kernel
theorem d17_7 : decode jdk_68_method_71_code 7 = .ok (.getfield 22, 3) := by decide +kernel
theorem d17_10 : decode jdk_68_method_71_code 10 = .ok (.aload_n 1, 1) := by decide +kernel
theorem d17_11 : decode jdk_68_method_71_code 11 = .ok (.invokevirtual 40, 3) := by decide +kernel
theorem d17_14 : decode jdk_68_method_71_code 14 = .ok (.if_icmp .eq 7, 3) := by decide +kernel
theorem d17_17 : decode jdk_68_method_71_code 17 = .ok (.aload_n 0, 1) := by decide +kernel
theorem d17_18 : decode jdk_68_method_71_code 18 = .ok (.invokevirtual 195, 3) := by decide +kernel
theorem d17_21 : decode jdk_68_method_71_code 21 = .ok (.return_, 1) := by decide +kernel
theorem c_infIK (l : Launch) (Z : State) (a0 : Array Value) (hw : ∀ d ∈ tables_1, d.before a0 Z = true) (hEW : EW Z a0 consts_1) (n0 : Nat) (c1 : Int32) (hc1 : ¬ c1 = 0) (S1 : Sta Z Z.heap "java/lang/String" "COMPACT_STRINGS" "Z" (.int c1)) (v2 : Value) (hv2 : v2.isRef = true) (S2 : Sta Z Z.heap "jdk/internal/util/Preconditions" "SIOOBE_FORMATTER" "Ljava/util/function/BiFunction;" v2) (S3 : Sta Z Z.heap "java/lang/StringUTF16" "$assertionsDisabled" "Z" (.int 1)) (S4 : Sta Z Z.heap "java/lang/StringUTF16" "HI_BYTE_SHIFT" "I" (.int 0)) (S5 : Sta Z Z.heap "java/lang/StringUTF16" "LO_BYTE_SHIFT" "I" (.int 8)) (a b a2 b2 : Addr) (cap k k2 : Nat) (cs cs2 : List Nat) {h0 : Heap} (o1 : Old Z n0 h0) (ge_a : n0 ≤ a) (hk : k = 0 ∨ k = 1) (hk2 : k2 = 0 ∨ k2 = 1) (hcap : cap ≤ 16) (hlen : cs.length ≤ cap) (h8 : k = 0 → ∀ c ∈ cs, c < 256) (hS : SbdK Z h0 a b cap k cs) (hT : StrK Z h0 a2 b2 k2 cs2)  :
    Con Z a0 l (⟨"java/lang/AbstractStringBuilder", "inflateIfNeededFor", "(Ljava/lang/String;)V"⟩ : MethodName) jdk_68_method_71_code 2 (none) ({ frames := 6, cells := 1, slots := 32, locals := 89 } : Room) [] #[(.ref a), (.ref a2)] consts_1 h0 n0 [a] [a, b] (V0 fun h so => ∃ b', SbdK Z h a b' cap (max k k2) cs ∧ (b' = b ∨ h0.size ≤ b') ∧ so = [b']) := by
  refine Con.body (plainFor_of_name pn_java_lang_AbstractStringBuilder) hEW o1 (allS ge_a all0) #[.val (.ref a), .val (.ref a2)] (fun m => by first | (simp [entryFrame, mkF, argsToLocals, Value.category]; done) | rfl) ?_
  intro p e s m below meth c B hnm hret hlk G
  replace G := G.gets 3 (host := "") (Or.inl (hw _ (mm 56 rfl))) Via.refl (G.sta S1) d17_0 rfl |>.ifF 6 d17_3 (XT.i0_eq_f hc1) rfl |>.aloadN 7 d17_6 rfl rfl rfl |>.getf 10 (host := "") (Or.inl (hw _ (mm 59 rfl))) Via.refl hS.2.2.1 d17_7 rfl |>.aloadN 11 d17_10 rfl rfl rfl
  obtain ⟨vc, h_c, soc, G', Kc, Qc⟩ := G.callV 14 (hw _ (mm 99 rfl)) (hw _ (mm 77 rfl)) (nfSel (hw _ (mm 79 rfl))) (hw _ (mm 79 rfl)) (hw _ (mm 78 rfl)) (hw _ (mm 17 rfl)) (hw _ (mm 80 rfl)) hT.1 (by decide) [] [(.int (Int32.ofNat k))] rfl (c_coderK l Z a0 hw hEW n0 c1 hc1 S1 v2 hv2 S2 S3 S4 S5 a2 k2 G.old hk2 hT.2.1) (lenOf pd___B rfl) d17_11 rfl (nle rfl) (nle rfl) (nle rfl) (nle rfl) all0 all0 all0 rfl
  replace G := G'; clear G'
  obtain ⟨wc, qc, rfl, ec, rfl⟩ := Qc
  replace G := G.val qc
  subst ec
  rcases Decidable.em (k = k2) with hq | hq
  · skip
    subst hq
    replace G := G.icmpT 21 d17_14 (XT.ii_eq_t rfl) (by decide) (by decide)
    exact G.retV hret hlk d17_21 [b] (allS (mm 1 rfl) all0) ⟨rfl, b, by rw [Nat.max_self]; exact hS, Or.inl rfl, rfl⟩ (nle rfl) (nle rfl)
  · skip
    replace G := G.icmpF 17 d17_14 (XT.ii_eq_f (ofk_ne hk hk2 hq)) rfl |>.aloadN 18 d17_17 rfl rfl rfl
    obtain ⟨vi, h1, soi, G', Ki, Qi⟩ := G.callV 21 (hw _ (mm 245 rfl)) (declOf (hw _ (mm 246 rfl)) (hw _ (mm 249 rfl))) (nfSel (hw _ (mm 248 rfl))) (hw _ (mm 248 rfl)) (hw _ (mm 246 rfl)) (hw _ (mm 53 rfl)) (hw _ (mm 249 rfl)) hS.1 (by decide) [] [] rfl (c_inflK l Z a0 hw hEW n0 c1 hc1 S1 v2 hv2 S2 S3 S4 S5 a b cap k cs G.old ge_a hk hcap hlen h8 hS) (lenOf pd___V rfl) d17_18 rfl (nle rfl) (nle rfl) (nle rfl) (nle rfl) (allS (Or.inl (mm 0 rfl)) all0) (allS (mm 0 rfl) (allS (mm 1 rfl) all0)) (allS (mm 0 rfl) all0) rfl
    replace G := G'; clear G'
    obtain ⟨qi, b1, hS1, hb1, rfl⟩ := Qi
    replace G := G.nov qi
    have em : max k k2 = 1 := by omega
    exact G.retV hret hlk d17_21 [b1] (allS (mm 0 rfl) all0) ⟨rfl, b1, by rw [em]; exact hS1, hb1, rfl⟩ (nle rfl) (nle rfl)
theorem d18_0 : decode jdk_42_method_147_code 0 = .ok (.aload_n 0, 1) := by decide +kernel
theorem d18_1 : decode jdk_42_method_147_code 1 = .ok (.invokevirtual 335, 3) := by decide +kernel
theorem d18_4 : decode jdk_42_method_147_code 4 = .ok (.iload_n 3, 1) := by decide +kernel
theorem d18_5 : decode jdk_42_method_147_code 5 = .ok (.if_icmp .ne 23, 3) := by decide +kernel
theorem d18_8 : decode jdk_42_method_147_code 8 = .ok (.aload_n 0, 1) := by decide +kernel
theorem d18_9 : decode jdk_42_method_147_code 9 = .ok (.getfield 9, 3) := by decide +kernel
theorem d18_12 : decode jdk_42_method_147_code 12 = .ok (.iconst 0, 1) := by decide +kernel
theorem d18_13 : decode jdk_42_method_147_code 13 = .ok (.aload_n 1, 1) := by decide +kernel
theorem d18_14 : decode jdk_42_method_147_code 14 = .ok (.iload_n 2, 1) := by decide +kernel
theorem d18_15 : decode jdk_42_method_147_code 15 = .ok (.iload_n 3, 1) := by decide +kernel
theorem d18_16 : decode jdk_42_method_147_code 16 = .ok (.ishl, 1) := by decide +kernel
theorem d18_17 : decode jdk_42_method_147_code 17 = .ok (.aload_n 0, 1) := by decide +kernel
theorem d18_18 : decode jdk_42_method_147_code 18 = .ok (.getfield 9, 3) := by decide +kernel
theorem d18_21 : decode jdk_42_method_147_code 21 = .ok (.arraylength, 1) := by decide +kernel
theorem d18_22 : decode jdk_42_method_147_code 22 = .ok (.invokestatic 212, 3) := by decide +kernel
theorem d18_25 : decode jdk_42_method_147_code 25 = .ok (.goto 18, 3) := by decide +kernel
theorem d18_28 : decode jdk_42_method_147_code 28 = .ok (.aload_n 0, 1) := by decide +kernel
theorem d18_29 : decode jdk_42_method_147_code 29 = .ok (.getfield 9, 3) := by decide +kernel
theorem d18_32 : decode jdk_42_method_147_code 32 = .ok (.iconst 0, 1) := by decide +kernel
theorem d18_33 : decode jdk_42_method_147_code 33 = .ok (.aload_n 1, 1) := by decide +kernel
theorem d18_34 : decode jdk_42_method_147_code 34 = .ok (.iload_n 2, 1) := by decide +kernel
theorem d18_35 : decode jdk_42_method_147_code 35 = .ok (.aload_n 0, 1) := by decide +kernel
theorem d18_36 : decode jdk_42_method_147_code 36 = .ok (.getfield 9, 3) := by decide +kernel
theorem d18_39 : decode jdk_42_method_147_code 39 = .ok (.arraylength, 1) := by decide +kernel
theorem d18_40 : decode jdk_42_method_147_code 40 = .ok (.invokestatic 106, 3) := by decide +kernel
theorem d18_43 : decode jdk_42_method_147_code 43 = .ok (.return_, 1) := by decide +kernel
theorem c_getBK (l : Launch) (Z : State) (a0 : Array Value) (hw : ∀ d ∈ tables_1, d.before a0 Z = true) (hEW : EW Z a0 consts_1) (n0 : Nat) (c1 : Int32) (hc1 : ¬ c1 = 0) (S1 : Sta Z Z.heap "java/lang/String" "COMPACT_STRINGS" "Z" (.int c1)) (v2 : Value) (hv2 : v2.isRef = true) (S2 : Sta Z Z.heap "jdk/internal/util/Preconditions" "SIOOBE_FORMATTER" "Ljava/util/function/BiFunction;" v2) (S3 : Sta Z Z.heap "java/lang/StringUTF16" "$assertionsDisabled" "Z" (.int 1)) (S4 : Sta Z Z.heap "java/lang/StringUTF16" "HI_BYTE_SHIFT" "I" (.int 0)) (S5 : Sta Z Z.heap "java/lang/StringUTF16" "LO_BYTE_SHIFT" "I" (.int 8)) (a2 b2 b : Addr) (kb : ClassId) (cap k k2 : Nat) (cs cs2 : List Nat) {h0 : Heap} (o1 : Old Z n0 h0) (ge_b : n0 ≤ b) (hk : k = 0 ∨ k = 1) (hk2 : k2 = 0 ∨ k2 = 1) (hkk : k2 ≤ k) (hle : cs.length + cs2.length ≤ cap) (hcap : cap ≤ 16) (h8 : k2 = 0 → ∀ c ∈ cs2, c < 256) (n2 : b2 ≠ b) (hT : StrK Z h0 a2 b2 k2 cs2) (Ab : Arv Z h0 b kb .byte (Int32.ofNat (cap * 2 ^ k)) (encS k cs) (.int 0)) :
    Con Z a0 l (⟨"java/lang/String", "getBytes", "([BIB)V"⟩ : MethodName) jdk_42_method_147_code 4 (none) ({ frames := 5, cells := 0, slots := 0, locals := 76 } : Room) [] #[(.ref a2), (.ref b), (.int (Int32.ofNat cs.length)), (.int (Int32.ofNat k))] consts_1 h0 n0 [b] [b] (V0 fun h so => Arv Z h b kb .byte (Int32.ofNat (cap * 2 ^ k)) (encS k (cs ++ cs2)) (.int 0) ∧ so = []) := by
  refine Con.body (plainFor_of_name pn_java_lang_String) hEW o1 (allS ge_b all0) #[.val (.ref a2), .val (.ref b), .val (.int (Int32.ofNat cs.length)), .val (.int (Int32.ofNat k))] (fun m => by first | (simp [entryFrame, mkF, argsToLocals, Value.category]; done) | rfl) ?_
  intro p e s m below meth c B hnm hret hlk G
  obtain ⟨X2, Fc2, Fv2, kb2, Ab2⟩ := hT
  have hle2 := encS_len hk cs; have hle3 := encS_len hk2 cs2
  replace G := G.aloadN 1 d18_0 rfl rfl rfl
  obtain ⟨vc, h_c, soc, G', Kc, Qc⟩ := G.callV 4 (hw _ (mm 76 rfl)) (hw _ (mm 77 rfl)) (nfSel (hw _ (mm 79 rfl))) (hw _ (mm 79 rfl)) (hw _ (mm 78 rfl)) (hw _ (mm 17 rfl)) (hw _ (mm 80 rfl)) X2 (by decide) [] [] rfl (c_coderK l Z a0 hw hEW n0 c1 hc1 S1 v2 hv2 S2 S3 S4 S5 a2 k2 G.old hk2 Fc2) (lenOf pd___B rfl) d18_1 rfl (nle rfl) (nle rfl) (nle rfl) (nle rfl) all0 all0 all0 rfl
  replace G := G'; clear G'
  obtain ⟨wc, qc, rfl, ec, rfl⟩ := Qc
  replace G := G.val qc
  subst ec
  replace G := G.iloadN 5 d18_4 rfl rfl
  rcases Decidable.em (k = k2) with hq | hq
  · skip
    subst hq
    replace G := G.icmpF 8 d18_5 (XT.ii_ne_f rfl) rfl |>.aloadN 9 d18_8 rfl rfl rfl |>.getf 12 (host := "") (Or.inl (hw _ (mm 35 rfl))) Via.refl Fv2 d18_9 rfl |>.iconst 13 (0 : Int32) d18_12 rfl rfl |>.aloadN 14 d18_13 rfl rfl rfl |>.iloadN 15 d18_14 rfl rfl |>.iloadN 16 d18_15 rfl rfl |>.ishl 17 d18_16 rfl
    replace G := G.top (y := (.int (Int32.ofNat (cs.length * 2 ^ k)))) (congrArg Value.int (shlK hk (by omega))) |>.aloadN 18 d18_17 rfl rfl rfl |>.getf 21 (host := "") (Or.inl (hw _ (mm 35 rfl))) Via.refl Fv2 d18_18 rfl |>.alen 22 Ab2 d18_21 rfl
    have p2 : 2 ^ k ≤ 2 := by rcases hk with rfl | rfl <;> decide
    have p1 : cs.length * 2 ^ k + cs2.length * 2 ^ k ≤ cap * 2 ^ k := by rw [← Nat.add_mul]; exact Nat.mul_le_mul_right _ hle
    have p3 : cap * 2 ^ k ≤ cap * 2 := Nat.mul_le_mul_left _ p2
    have m1 : cs.length * 2 ^ k < 2147483648 := by omega
    have m2 : cs2.length * 2 ^ k < 2147483648 := by omega
    have m3 : cap * 2 ^ k < 2147483648 := by omega
    rw [← hle2] at m1 p1; rw [← hle3] at m2 p1 Ab2
    replace G := G.cast (S' := [(.int (Int32.ofNat (encS k cs2).length)), (.int (Int32.ofNat (encS k cs).length)), (.ref b), (.int (0 : Int32)), (.ref b2)]) rfl (by rw [hle2, hle3])
    have Ab' := Ab.pad (vs' := encS k cs ++ List.replicate (encS k cs2).length (.int 0)) (pad_rep _ (.int 0) _)
    obtain ⟨h1, G', Ap, Kp⟩ := G.cpy 25 (hw _ (mm 105 rfl)) (hw _ (mm 108 rfl)) (hw _ (mm 106 rfl)) (hw _ (mm 107 rfl)) Ab2 Ab' rfl (by decide) (ofn_nn m1) (ofn_nn m2) (by rw [ofn_nat m2]; exact Nat.le_of_eq (Nat.zero_add _)) (by rw [ofn_nat m1, ofn_nat m2, ofn_nat m3]; exact p1) (by rw [ofn_nat m1, ofn_nat m2]; simp) (Or.inl (mm 0 rfl)) (mm 0 rfl) d18_22 rfl (nle rfl) (nle rfl) rfl
    replace G := G'; clear G'
    rw [ofn_nat m1, ofn_nat m2, show (0 : Int32).toNatClampNeg = 0 from rfl, cpy_res, ← encS_app] at Ap
    replace G := G.goto 43 d18_25 (by decide) (by decide)
    exact G.retV hret hlk d18_43 [] all0 ⟨rfl, Ap, rfl⟩ (nle rfl) (nle rfl)
  · skip
    obtain rfl : k2 = 0 := by omega
    obtain rfl : k = 1 := by omega
    replace G := G.icmpT 28 d18_5 (XT.ii_ne_t (by decide)) (by decide) (by decide) |>.aloadN 29 d18_28 rfl rfl rfl
    rw [Nat.pow_zero, Nat.mul_one] at Ab2; rw [Nat.pow_one] at Ab
    replace G := G.getf 32 (host := "") (Or.inl (hw _ (mm 35 rfl))) Via.refl Fv2 d18_29 rfl |>.iconst 33 (0 : Int32) d18_32 rfl rfl |>.aloadN 34 d18_33 rfl rfl rfl |>.iloadN 35 d18_34 rfl rfl |>.aloadN 36 d18_35 rfl rfl rfl |>.getf 39 (host := "") (Or.inl (hw _ (mm 35 rfl))) Via.refl Fv2 d18_36 rfl |>.alen 40 Ab2 d18_39 rfl
    obtain ⟨vi, h1, soi, G', Ki, Qi⟩ := G.callS 43 (hw _ (mm 279 rfl)) (hw _ (mm 253 rfl)) (hw _ (mm 163 rfl)) (hw _ (mm 254 rfl)) (by decide) [(.ref b2), (.int (0 : Int32)), (.ref b), (.int (Int32.ofNat cs.length)), (.int (Int32.ofNat cs2.length))] [] rfl (c_lInfl l Z a0 hw hEW n0 c1 hc1 S1 v2 hv2 S2 S3 S4 S5 b2 b kb2 kb cs2.length cap cs cs2 G.old ge_b (by omega) (by omega) hle (Nat.le_refl _) (h8 rfl) n2 Ab2 Ab) (lenOf pd___BI_BII_V rfl) d18_40 rfl (nle rfl) (nle rfl) (nle rfl) (nle rfl) (allS (Or.inl (mm 0 rfl)) all0) (allS (mm 0 rfl) all0) (allS (mm 0 rfl) all0) rfl
    replace G := G'; clear G'
    obtain ⟨qi, Ap, rfl⟩ := Qi
    replace G := G.nov qi
    exact G.retV hret hlk d18_43 [] all0 ⟨rfl, by rw [Nat.pow_one]; exact Ap, rfl⟩ (nle rfl) (nle rfl)
theorem d16_0 : decode jdk_68_method_73_code 0 = .ok (.aload_n 0, 1) := by decide +kernel
theorem d16_1 : decode jdk_68_method_73_code 1 = .ok (.aload_n 2, 1) := by decide +kernel
theorem d16_2 : decode jdk_68_method_73_code 2 = .ok (.invokevirtual 397, 3) := by decide +kernel
theorem d16_5 : decode jdk_68_method_73_code 5 = .ok (.aload_n 2, 1) := by decide +kernel
theorem d16_6 : decode jdk_68_method_73_code 6 = .ok (.aload_n 0, 1) := by decide +kernel
theorem d16_7 : decode jdk_68_method_73_code 7 = .ok (.getfield 15, 3) := by decide +kernel
theorem d16_10 : decode jdk_68_method_73_code 10 = .ok (.iload_n 1, 1) := by decide +kernel
theorem d16_11 : decode jdk_68_method_73_code 11 = .ok (.aload_n 0, 1) := by decide +kernel
theorem d16_12 : decode jdk_68_method_73_code 12 = .ok (.getfield 22, 3) := by decide +kernel
theorem d16_15 : decode jdk_68_method_73_code 15 = .ok (.invokevirtual 399, 3) := by decide +kernel
theorem d16_18 : decode jdk_68_method_73_code 18 = .ok (.return_, 1) := by decide +kernel
theorem c_putSK (l : Launch) (Z : State) (a0 : Array Value) (hw : ∀ d ∈ tables_1, d.before a0 Z = true) (hEW : EW Z a0 consts_1) (n0 : Nat) (c1 : Int32) (hc1 : ¬ c1 = 0) (S1 : Sta Z Z.heap "java/lang/String" "COMPACT_STRINGS" "Z" (.int c1)) (v2 : Value) (hv2 : v2.isRef = true) (S2 : Sta Z Z.heap "jdk/internal/util/Preconditions" "SIOOBE_FORMATTER" "Ljava/util/function/BiFunction;" v2) (S3 : Sta Z Z.heap "java/lang/StringUTF16" "$assertionsDisabled" "Z" (.int 1)) (S4 : Sta Z Z.heap "java/lang/StringUTF16" "HI_BYTE_SHIFT" "I" (.int 0)) (S5 : Sta Z Z.heap "java/lang/StringUTF16" "LO_BYTE_SHIFT" "I" (.int 8)) (a b a2 b2 : Addr) (cap k k2 : Nat) (cs cs2 : List Nat) {h0 : Heap} (o1 : Old Z n0 h0) (ge_a : n0 ≤ a) (ge_b : n0 ≤ b) (hk : k = 0 ∨ k = 1) (hk2 : k2 = 0 ∨ k2 = 1) (hle : cs.length + cs2.length ≤ cap) (hcap : cap ≤ 16) (h8 : k = 0 → ∀ c ∈ cs, c < 256) (h82 : k2 = 0 → ∀ c ∈ cs2, c < 256) (n2a : a2 ≠ a) (n2b : b2 ≠ a) (n2c : b2 ≠ b) (hS : SbdK Z h0 a b cap k cs) (hT : StrK Z h0 a2 b2 k2 cs2) :
    Con Z a0 l (⟨"java/lang/AbstractStringBuilder", "putStringAt", "(ILjava/lang/String;)V"⟩ : MethodName) jdk_68_method_73_code 3 (none) ({ frames := 7, cells := 1, slots := 32, locals := 102 } : Room) [] #[(.ref a), (.int (Int32.ofNat cs.length)), (.ref a2)] consts_1 h0 n0 [a, b] [a, b] (V0 fun h so => ∃ b', (Exa Z h a "java/lang/StringBuilder" ∧ Fld Z h a "java/lang/AbstractStringBuilder" "value" "[B" (.ref b') ∧ Fld Z h a "java/lang/AbstractStringBuilder" "coder" "B" (.int (Int32.ofNat (max k k2))) ∧ Fld Z h a "java/lang/AbstractStringBuilder" "count" "I" (.int (Int32.ofNat cs.length)) ∧ Fld Z h a "java/lang/AbstractStringBuilder" "maybeLatin1" "Z" (.int 0) ∧ ∃ kb, Arv Z h b' kb .byte (Int32.ofNat (cap * 2 ^ max k k2)) (encS (max k k2) (cs ++ cs2)) (.int 0)) ∧ a ≠ b' ∧ (b' = b ∨ h0.size ≤ b') ∧ so = [b']) := by
  refine Con.body (plainFor_of_name pn_java_lang_AbstractStringBuilder) hEW o1 (allS ge_a (allS ge_b all0)) #[.val (.ref a), .val (.int (Int32.ofNat cs.length)), .val (.ref a2)] (fun m => by first | (simp [entryFrame, mkF, argsToLocals, Value.category]; done) | rfl) ?_
  intro p e s m below meth c B hnm hret hlk G
  have lt2 := hT.ltb
  replace G := G.aloadN 1 d16_0 rfl rfl rfl |>.aloadN 2 d16_1 rfl rfl rfl
  obtain ⟨vi, h1, soi, G', Ki, Qi⟩ := G.callV 5 (hw _ (mm 94 rfl)) (declOf (hw _ (mm 95 rfl)) (hw _ (mm 98 rfl))) (nfSel (hw _ (mm 97 rfl))) (hw _ (mm 97 rfl)) (hw _ (mm 95 rfl)) (hw _ (mm 53 rfl)) (hw _ (mm 98 rfl)) hS.1 (by decide) [(.ref a2)] [] rfl (c_infIK l Z a0 hw hEW n0 c1 hc1 S1 v2 hv2 S2 S3 S4 S5 a b a2 b2 cap k k2 cs cs2 G.old ge_a hk hk2 hcap (by omega) h8 hS hT) (lenOf pd__Ljava_lang_String__V rfl) d16_2 rfl (nle rfl) (nle rfl) (nle rfl) (nle rfl) (allS (Or.inl (mm 0 rfl)) all0) (allS (mm 0 rfl) (allS (mm 1 rfl) all0)) (allS (mm 0 rfl) all0) rfl
  replace G := G'; clear G'
  obtain ⟨qi, b1, hS1, hb1, rfl⟩ := Qi
  replace G := G.nov qi
  replace hT := hT.keep Ki (ninS n2a nin0) (ninS n2b nin0); have n2d : b2 ≠ b1 := ne_or n2c lt2 hb1; have nwb : NW h0 [a, b] b1 := hb1.elim (fun q => Or.inl (q ▸ (mm 1 rfl))) Or.inr; have hkm : max k k2 = 0 ∨ max k k2 = 1 := by omega
  obtain ⟨Xa, Fv, Fc, Fn, Fm, kb, Ab⟩ := hS1
  replace G := G.aloadN 6 d16_5 rfl rfl rfl |>.aloadN 7 d16_6 rfl rfl rfl |>.getf 10 (host := "") (Or.inl (hw _ (mm 57 rfl))) Via.refl Fv d16_7 rfl |>.iloadN 11 d16_10 rfl rfl |>.aloadN 12 d16_11 rfl rfl rfl |>.getf 15 (host := "") (Or.inl (hw _ (mm 59 rfl))) Via.refl Fc d16_12 rfl
  obtain ⟨vg, h2, sog, G', Kg, Qg⟩ := G.callV 18 (hw _ (mm 100 rfl)) (hw _ (mm 101 rfl)) (nfSel (hw _ (mm 103 rfl))) (hw _ (mm 103 rfl)) (hw _ (mm 102 rfl)) (hw _ (mm 17 rfl)) (hw _ (mm 104 rfl)) hT.1 (by decide) [(.ref b1), (.int (Int32.ofNat cs.length)), (.int (Int32.ofNat (max k k2)))] [] rfl (c_getBK l Z a0 hw hEW n0 c1 hc1 S1 v2 hv2 S2 S3 S4 S5 a2 b2 b1 kb cap (max k k2) k2 cs cs2 G.old (G.nw nwb) hkm hk2 (by omega) hle hcap h82 n2d hT Ab) (lenOf pd___BIB_V rfl) d16_15 rfl (nle rfl) (nle rfl) (nle rfl) (nle rfl) (allS nwb all0) (allS (mm 0 rfl) all0) (allS (mm 0 rfl) all0) rfl
  replace G := G'; clear G'
  obtain ⟨qg, Ag, rfl⟩ := Qg
  replace G := G.nov qg
  have nab : a ≠ b1 := ne_arr Xa (hw _ (mm 44 rfl)) Ab.choose_spec.1
  replace Xa := Xa.keep Kg; replace Fv := Fv.keep Kg (ninS nab nin0); replace Fc := Fc.keep Kg (ninS nab nin0); replace Fn := Fn.keep Kg (ninS nab nin0); replace Fm := Fm.keep Kg (ninS nab nin0)
  exact G.retV hret hlk d16_18 [b1] (allS (mm 0 rfl) all0) ⟨rfl, b1, ⟨Xa, Fv, Fc, Fn, Fm, kb, Ag⟩, nab, hb1, rfl⟩ (nle rfl) (nle rfl)
theorem d12_0 : decode jdk_68_method_22_code 0 = .ok (.aload_n 1, 1) := by decide +kernel
theorem d12_1 : decode jdk_68_method_22_code 1 = .ok (.ifnonnull 8, 3) := by decide +kernel
theorem d12_4 : decode jdk_68_method_22_code 4 = .ok (.aload_n 0, 1) := by decide +kernel
theorem d12_5 : decode jdk_68_method_22_code 5 = .ok (.invokevirtual 204, 3) := by decide +kernel
theorem d12_8 : decode jdk_68_method_22_code 8 = .ok (.areturn, 1) := by decide +kernel
theorem d12_9 : decode jdk_68_method_22_code 9 = .ok (.aload_n 1, 1) := by decide +kernel
theorem d12_10 : decode jdk_68_method_22_code 10 = .ok (.invokevirtual 32, 3) := by decide +kernel
theorem d12_13 : decode jdk_68_method_22_code 13 = .ok (.istore_n 2, 1) := by decide +kernel
theorem d12_14 : decode jdk_68_method_22_code 14 = .ok (.aload_n 0, 1) := by decide +kernel
theorem d12_15 : decode jdk_68_method_22_code 15 = .ok (.aload_n 0, 1) := by decide +kernel
theorem d12_16 : decode jdk_68_method_22_code 16 = .ok (.getfield 79, 3) := by decide +kernel
theorem d12_19 : decode jdk_68_method_22_code 19 = .ok (.iload_n 2, 1) := by decide +kernel
theorem d12_20 : decode jdk_68_method_22_code 20 = .ok (.iadd, 1) := by decide +kernel
theorem d12_21 : decode jdk_68_method_22_code 21 = .ok (.invokevirtual 100, 3) := by decide +kernel
theorem d12_24 : decode jdk_68_method_22_code 24 = .ok (.aload_n 0, 1) := by decide +kernel
theorem d12_25 : decode jdk_68_method_22_code 25 = .ok (.aload_n 0, 1) := by decide +kernel
theorem d12_26 : decode jdk_68_method_22_code 26 = .ok (.getfield 79, 3) := by decide +kernel
theorem d12_29 : decode jdk_68_method_22_code 29 = .ok (.aload_n 1, 1) := by decide +kernel
theorem d12_30 : decode jdk_68_method_22_code 30 = .ok (.invokevirtual 208, 3) := by decide +kernel
theorem d12_33 : decode jdk_68_method_22_code 33 = .ok (.aload_n 0, 1) := by decide +kernel
theorem d12_34 : decode jdk_68_method_22_code 34 = .ok (.dup, 1) := by decide +kernel
theorem d12_35 : decode jdk_68_method_22_code 35 = .ok (.getfield 79, 3) := by decide +kernel
theorem d12_38 : decode jdk_68_method_22_code 38 = .ok (.iload_n 2, 1) := by decide +kernel
theorem d12_39 : decode jdk_68_method_22_code 39 = .ok (.iadd, 1) := by decide +kernel
theorem d12_40 : decode jdk_68_method_22_code 40 = .ok (.putfield 79, 3) := by decide +kernel
theorem d12_43 : decode jdk_68_method_22_code 43 = .ok (.aload_n 0, 1) := by decide +kernel
theorem d12_44 : decode jdk_68_method_22_code 44 = .ok (.areturn, 1) := by decide +kernel
theorem c_asbAppK (l : Launch) (Z : State) (a0 : Array Value) (hw : ∀ d ∈ tables_1, d.before a0 Z = true) (hEW : EW Z a0 consts_1) (n0 : Nat) (c1 : Int32) (hc1 : ¬ c1 = 0) (S1 : Sta Z Z.heap "java/lang/String" "COMPACT_STRINGS" "Z" (.int c1)) (v2 : Value) (hv2 : v2.isRef = true) (S2 : Sta Z Z.heap "jdk/internal/util/Preconditions" "SIOOBE_FORMATTER" "Ljava/util/function/BiFunction;" v2) (S3 : Sta Z Z.heap "java/lang/StringUTF16" "$assertionsDisabled" "Z" (.int 1)) (S4 : Sta Z Z.heap "java/lang/StringUTF16" "HI_BYTE_SHIFT" "I" (.int 0)) (S5 : Sta Z Z.heap "java/lang/StringUTF16" "LO_BYTE_SHIFT" "I" (.int 8)) (a b a2 b2 : Addr) (cap k k2 : Nat) (cs cs2 : List Nat) {h0 : Heap} (o1 : Old Z n0 h0) (ge_a : n0 ≤ a) (ge_b : n0 ≤ b) (hk : k = 0 ∨ k = 1) (hk2 : k2 = 0 ∨ k2 = 1) (hle : cs.length + cs2.length ≤ cap) (hcap : cap ≤ 16) (h8 : k = 0 → ∀ c ∈ cs, c < 256) (h82 : k2 = 0 → ∀ c ∈ cs2, c < 256) (n2a : a2 ≠ a) (n2b : b2 ≠ a) (n2c : b2 ≠ b) (hS : SbdK Z h0 a b cap k cs) (hT : StrK Z h0 a2 b2 k2 cs2) :
    Con Z a0 l (⟨"java/lang/AbstractStringBuilder", "append", "(Ljava/lang/String;)Ljava/lang/AbstractStringBuilder;"⟩ : MethodName) jdk_68_method_22_code 3 (some (.object "java/lang/AbstractStringBuilder")) ({ frames := 8, cells := 1, slots := 32, locals := 116 } : Room) [] #[(.ref a), (.ref a2)] consts_1 h0 n0 [a, b] [a, b] (VV fun w h so => w = .ref a ∧ ∃ b', SbdK Z h a b' cap (max k k2) (cs ++ cs2) ∧ (b' = b ∨ h0.size ≤ b') ∧ so = [b']) := by
  refine Con.body (plainFor_of_name pn_java_lang_AbstractStringBuilder) hEW o1 (allS ge_a (allS ge_b all0)) #[.val (.ref a), .val (.ref a2), .unset] (fun m => by first | (simp [entryFrame, mkF, argsToLocals, Value.category]; done) | rfl) ?_
  intro p e s m below meth c B hnm hret hlk G
  replace G := G.aloadN 1 d12_0 rfl rfl rfl |>.ifnonnullT 9 d12_1 (by decide) (by decide) |>.aloadN 10 d12_9 rfl rfl rfl
  obtain ⟨vl, h_l, sol, G', Kl, Ql⟩ := G.callV 13 (hw _ (mm 71 rfl)) (hw _ (mm 72 rfl)) (nfSel (hw _ (mm 74 rfl))) (hw _ (mm 74 rfl)) (hw _ (mm 73 rfl)) (hw _ (mm 17 rfl)) (hw _ (mm 75 rfl)) hT.1 (by decide) [] [] rfl (c_lengthK l Z a0 hw hEW n0 c1 hc1 S1 v2 hv2 S2 S3 S4 S5 a2 b2 k2 cs2 G.old hk2 (by omega) hT) (lenOf pd___I rfl) d12_10 rfl (nle rfl) (nle rfl) (nle rfl) (nle rfl) all0 all0 all0 rfl
  replace G := G'; clear G'
  obtain ⟨wl, ql, rfl, el, rfl⟩ := Ql
  replace G := G.val ql
  subst el
  replace G := G.istoreN 14 #[.val (.ref a), .val (.ref a2), .val (.int (Int32.ofNat cs2.length))] d12_13 rfl rfl |>.aloadN 15 d12_14 rfl rfl rfl |>.aloadN 16 d12_15 rfl rfl rfl |>.getf 19 (host := "") (Or.inl (hw _ (mm 82 rfl))) Via.refl hS.2.2.2.1 d12_16 rfl |>.iloadN 20 d12_19 rfl rfl |>.iadd 21 d12_20 rfl |>.top (y := (.int (Int32.ofNat (cs.length + cs2.length)))) (congrArg Value.int (ofn_add _ _))
  obtain ⟨ve, h_e, soe, G', Ke, Qe⟩ := G.callV 24 (hw _ (mm 84 rfl)) (declOf (hw _ (mm 85 rfl)) (hw _ (mm 88 rfl))) (nfSel (hw _ (mm 87 rfl))) (hw _ (mm 87 rfl)) (hw _ (mm 85 rfl)) (hw _ (mm 53 rfl)) (hw _ (mm 88 rfl)) hS.1 (by decide) [(.int (Int32.ofNat (cs.length + cs2.length)))] [] rfl (c_ensK l Z a0 hw hEW n0 c1 hc1 S1 v2 hv2 S2 S3 S4 S5 a b cap k (cs.length + cs2.length) cs G.old hk hle hcap hS) (lenOf pd__I_V rfl) d12_21 rfl (nle rfl) (nle rfl) (nle rfl) (nle rfl) all0 all0 all0 rfl
  replace G := G'; clear G'
  obtain ⟨qe, ee, rfl⟩ := Qe
  replace G := G.nov qe
  subst ee
  replace G := G.aloadN 25 d12_24 rfl rfl rfl |>.aloadN 26 d12_25 rfl rfl rfl |>.getf 29 (host := "") (Or.inl (hw _ (mm 82 rfl))) Via.refl hS.2.2.2.1 d12_26 rfl |>.aloadN 30 d12_29 rfl rfl rfl
  obtain ⟨vp, h1, sop, G', Kp, Qp⟩ := G.callV 33 (hw _ (mm 89 rfl)) (declOf (hw _ (mm 90 rfl)) (hw _ (mm 93 rfl))) (nfSel (hw _ (mm 92 rfl))) (hw _ (mm 92 rfl)) (hw _ (mm 90 rfl)) (hw _ (mm 53 rfl)) (hw _ (mm 93 rfl)) hS.1 (by decide) [(.int (Int32.ofNat cs.length)), (.ref a2)] [] rfl (c_putSK l Z a0 hw hEW n0 c1 hc1 S1 v2 hv2 S2 S3 S4 S5 a b a2 b2 cap k k2 cs cs2 G.old ge_a ge_b hk hk2 hle hcap h8 h82 n2a n2b n2c hS hT) (lenOf pd__ILjava_lang_String__V rfl) d12_30 rfl (nle rfl) (nle rfl) (nle rfl) (nle rfl) (allS (Or.inl (mm 0 rfl)) (allS (Or.inl (mm 1 rfl)) all0)) (allS (mm 0 rfl) (allS (mm 1 rfl) all0)) (allS (mm 0 rfl) (allS (mm 1 rfl) all0)) rfl
  replace G := G'; clear G'
  obtain ⟨qp, b1, ⟨Xa, Fv, Fc, Fn, Fm, kb, Ab⟩, nab, hb1, rfl⟩ := Qp
  replace G := G.nov qp |>.aloadN 34 d12_33 rfl rfl rfl |>.dup 35 d12_34 rfl rfl |>.getf 38 (host := "") (Or.inl (hw _ (mm 82 rfl))) Via.refl Fn d12_35 rfl |>.iloadN 39 d12_38 rfl rfl |>.iadd 40 d12_39 rfl |>.top (y := (.int (Int32.ofNat (cs ++ cs2).length))) (congrArg Value.int ((ofn_add _ _).trans (by rw [List.length_append])))
  obtain ⟨h2, G', Ww, Fw, Kw⟩ := G.putf 43 (host := "") (Or.inl (hw _ (mm 82 rfl))) Via.refl Fn Xa (Or.inl (hw _ (mm 83 rfl))) (hw _ (mm 44 rfl)) (ty := .int) (by decide) rfl rfl (Or.inl (mm 0 rfl)) (mm 1 rfl) d12_40 rfl
  replace G := G'; clear G'
  replace Fv := Fv.other Ww (Or.inr (slot_ne (Or.inl (hw _ (mm 58 rfl))) (Or.inl (hw _ (mm 83 rfl))) (by decide) (t := (.array .byte)) (t' := .int) (by decide) (by decide))); replace Fc := Fc.other Ww (Or.inr (slot_ne (Or.inl (hw _ (mm 60 rfl))) (Or.inl (hw _ (mm 83 rfl))) (by decide) (t := .byte) (t' := .int) (by decide) (by decide))); replace Fm := Fm.other Ww (Or.inr (slot_ne (Or.inl (hw _ (mm 271 rfl))) (Or.inl (hw _ (mm 83 rfl))) (by decide) (t := .boolean) (t' := .int) (by decide) (by decide))); replace Xa := Xa.wr Ww; replace Ab := Ab.keep Kw (ninS nab.symm nin0)
  replace G := G.aloadN 44 d12_43 rfl rfl rfl
  exact G.retA hret rfl rfl hlk d12_44 [b1] (allS (mm 0 rfl) all0) ⟨_, rfl, rfl, b1, ⟨Xa, Fv, Fc, Fw, Fm, kb, Ab⟩, hb1, rfl⟩ (nle rfl) (nle rfl)
theorem d11_0 : decode jdk_67_method_7_code 0 = .ok (.aload_n 0, 1) := by decide +kernel
theorem d11_1 : decode jdk_67_method_7_code 1 = .ok (.aload_n 1, 1) := by decide +kernel
theorem d11_2 : decode jdk_67_method_7_code 2 = .ok (.invokespecial 29, 3) := by decide +kernel
theorem d11_5 : decode jdk_67_method_7_code 5 = .ok (.pop, 1) := by decide +kernel
theorem d11_6 : decode jdk_67_method_7_code 6 = .ok (.aload_n 0, 1) := by decide +kernel
theorem d11_7 : decode jdk_67_method_7_code 7 = .ok (.areturn, 1) := by decide +kernel
theorem c_appK (l : Launch) (Z : State) (a0 : Array Value) (hw : ∀ d ∈ tables_1, d.before a0 Z = true) (hEW : EW Z a0 consts_1) (n0 : Nat) (c1 : Int32) (hc1 : ¬ c1 = 0) (S1 : Sta Z Z.heap "java/lang/String" "COMPACT_STRINGS" "Z" (.int c1)) (v2 : Value) (hv2 : v2.isRef = true) (S2 : Sta Z Z.heap "jdk/internal/util/Preconditions" "SIOOBE_FORMATTER" "Ljava/util/function/BiFunction;" v2) (S3 : Sta Z Z.heap "java/lang/StringUTF16" "$assertionsDisabled" "Z" (.int 1)) (S4 : Sta Z Z.heap "java/lang/StringUTF16" "HI_BYTE_SHIFT" "I" (.int 0)) (S5 : Sta Z Z.heap "java/lang/StringUTF16" "LO_BYTE_SHIFT" "I" (.int 8)) (a b a2 b2 : Addr) (cap k k2 : Nat) (cs cs2 : List Nat) {h0 : Heap} (o1 : Old Z n0 h0) (ge_a : n0 ≤ a) (ge_b : n0 ≤ b) (hk : k = 0 ∨ k = 1) (hk2 : k2 = 0 ∨ k2 = 1) (hle : cs.length + cs2.length ≤ cap) (hcap : cap ≤ 16) (h8 : k = 0 → ∀ c ∈ cs, c < 256) (h82 : k2 = 0 → ∀ c ∈ cs2, c < 256) (n2a : a2 ≠ a) (n2b : b2 ≠ a) (n2c : b2 ≠ b) (hS : SbdK Z h0 a b cap k cs) (hT : StrK Z h0 a2 b2 k2 cs2) :
    Con Z a0 l (⟨"java/lang/StringBuilder", "append", "(Ljava/lang/String;)Ljava/lang/StringBuilder;"⟩ : MethodName) jdk_67_method_7_code 2 (some (.object "java/lang/StringBuilder")) ({ frames := 9, cells := 1, slots := 32, locals := 130 } : Room) [] #[(.ref a), (.ref a2)] consts_1 h0 n0 [a, b] [a, b] (VV fun w h so => w = .ref a ∧ ∃ b', SbdK Z h a b' cap (max k k2) (cs ++ cs2) ∧ (b' = b ∨ h0.size ≤ b') ∧ so = [b']) := by
  refine Con.body (plainFor_of_name pn_java_lang_StringBuilder) hEW o1 (allS ge_a (allS ge_b all0)) #[.val (.ref a), .val (.ref a2)] (fun m => by first | (simp [entryFrame, mkF, argsToLocals, Value.category]; done) | rfl) ?_
  intro p e s m below meth c B hnm hret hlk G
  replace G := G.aloadN 1 d11_0 rfl rfl rfl |>.aloadN 2 d11_1 rfl rfl rfl
  obtain ⟨vp, h1, sop, G', Kp, Qp⟩ := G.callSup 5 (hw _ (mm 66 rfl)) (sameOf (hw _ (mm 67 rfl)) (nfVia (y := (⟨"java/lang/AbstractStringBuilder", "ensureCapacityInternal", "(I)V"⟩ : MethodName)) rfl (hw _ (mm 87 rfl)) (hw _ (mm 85 rfl))) (by decide)) (hw _ (mm 67 rfl)) (hw _ (mm 68 rfl)) (by decide) (hw _ (mm 53 rfl)) (hw _ (mm 70 rfl)) (Ins.self hS.1) [(.ref a2)] [] rfl (c_asbAppK l Z a0 hw hEW n0 c1 hc1 S1 v2 hv2 S2 S3 S4 S5 a b a2 b2 cap k k2 cs cs2 G.old ge_a ge_b hk hk2 hle hcap h8 h82 n2a n2b n2c hS hT) (lenOf pd__Ljava_lang_String__Ljava_lang_AbstractStringBuilder_ rfl) d11_2 rfl (nle rfl) (nle rfl) (nle rfl) (nle rfl) (allS (Or.inl (mm 0 rfl)) (allS (Or.inl (mm 1 rfl)) all0)) (allS (mm 0 rfl) (allS (mm 1 rfl) all0)) (allS (mm 0 rfl) (allS (mm 1 rfl) all0)) rfl
  replace G := G'; clear G'
  obtain ⟨wp, qp, rfl, b1, hS1, hb1, rfl⟩ := Qp
  replace G := G.val qp |>.pop 6 d11_5 rfl rfl |>.aloadN 7 d11_6 rfl rfl rfl
  exact G.retA hret rfl rfl hlk d11_7 [b1] (allS (mm 0 rfl) all0) ⟨_, rfl, rfl, b1, hS1, hb1, rfl⟩ (nle rfl) (nle rfl)
theorem d29_0 : decode jdk_29_method_69_code 0 = .ok (.iload_n 0, 1) := by decide +kernel
theorem d29_1 : decode jdk_29_method_69_code 1 = .ok (.iload_n 1, 1) := by decide +kernel
theorem d29_2 : decode jdk_29_method_69_code 2 = .ok (.if_icmp .gt 7, 3) := by decide +kernel
theorem d29_5 : decode jdk_29_method_69_code 5 = .ok (.iload_n 0, 1) := by decide +kernel
theorem d29_6 : decode jdk_29_method_69_code 6 = .ok (.goto 4, 3) := by decide +kernel
theorem d29_9 : decode jdk_29_method_69_code 9 = .ok (.iload_n 1, 1) := by decide +kernel
theorem d29_10 : decode jdk_29_method_69_code 10 = .ok (.ireturn, 1) := by decide +kernel
theorem c_minR (l : Launch) (Z : State) (a0 : Array Value) (hw : ∀ d ∈ tables_1, d.before a0 Z = true) (hEW : EW Z a0 consts_1) (n0 : Nat) (c1 : Int32) (hc1 : ¬ c1 = 0) (S1 : Sta Z Z.heap "java/lang/String" "COMPACT_STRINGS" "Z" (.int c1)) (v2 : Value) (hv2 : v2.isRef = true) (S2 : Sta Z Z.heap "jdk/internal/util/Preconditions" "SIOOBE_FORMATTER" "Ljava/util/function/BiFunction;" v2) (S3 : Sta Z Z.heap "java/lang/StringUTF16" "$assertionsDisabled" "Z" (.int 1)) (S4 : Sta Z Z.heap "java/lang/StringUTF16" "HI_BYTE_SHIFT" "I" (.int 0)) (S5 : Sta Z Z.heap "java/lang/StringUTF16" "LO_BYTE_SHIFT" "I" (.int 8)) (x y : Int32) {h0 : Heap} (o1 : Old Z n0 h0) (hxy : y < x) :
    Con Z a0 l (⟨"java/lang/Math", "min", "(II)I"⟩ : MethodName) jdk_29_method_69_code 2 (some .int) ({ frames := 0, cells := 0, slots := 0, locals := 0 } : Room) [] #[(.int x), (.int y)] consts_1 h0 n0 [] [] (VV fun w h so => w = .int y ∧ h = h0 ∧ so = []) := by
  refine Con.body (by decide +kernel) hEW o1 all0 #[.val (.int x), .val (.int y)] (fun m => by first | (simp [entryFrame, mkF, argsToLocals, Value.category]; done) | rfl) ?_
  intro p e s m below meth c B hnm hret hlk G
  replace G := G.iloadN 1 d29_0 rfl rfl |>.iloadN 2 d29_1 rfl rfl |>.icmpT 9 d29_2 (XT.ii_gt_t hxy) (by decide) (by decide) |>.iloadN 10 d29_9 rfl rfl
  exact G.retI hret hlk d29_10 [] all0 ⟨_, rfl, rfl, rfl, rfl⟩ (nle rfl) (nle rfl)
theorem d28_0 : decode jdk_65_method_131_code 0 = .ok (.iload_n 1, 1) := by decide +kernel
theorem d28_1 : decode jdk_65_method_131_code 1 = .ok (.iload_n 0, 1) := by decide +kernel
theorem d28_2 : decode jdk_65_method_131_code 2 = .ok (.if_icmp .ge 35, 3) := by decide +kernel
theorem d28_5 : decode jdk_65_method_131_code 5 = .ok (.new 43, 3) := by decide +kernel
theorem d28_8 : decode jdk_65_method_131_code 8 = .ok (.dup, 1) := by decide +kernel
theorem d28_9 : decode jdk_65_method_131_code 9 = .ok (.new 45, 3) := by decide +kernel
theorem d28_12 : decode jdk_65_method_131_code 12 = .ok (.dup, 1) := by decide +kernel
theorem d28_13 : decode jdk_65_method_131_code 13 = .ok (.invokespecial 47, 3) := by decide +kernel
theorem d28_16 : decode jdk_65_method_131_code 16 = .ok (.iload_n 0, 1) := by decide +kernel
theorem d28_17 : decode jdk_65_method_131_code 17 = .ok (.invokevirtual 54, 3) := by decide +kernel
theorem d28_20 : decode jdk_65_method_131_code 20 = .ok (.ldc_w 337, 3) := by decide +kernel
theorem d28_23 : decode jdk_65_method_131_code 23 = .ok (.invokevirtual 50, 3) := by decide +kernel
theorem d28_26 : decode jdk_65_method_131_code 26 = .ok (.iload_n 1, 1) := by decide +kernel
theorem d28_27 : decode jdk_65_method_131_code 27 = .ok (.invokevirtual 54, 3) := by decide +kernel
theorem d28_30 : decode jdk_65_method_131_code 30 = .ok (.invokevirtual 61, 3) := by decide +kernel
theorem d28_33 : decode jdk_65_method_131_code 33 = .ok (.invokespecial 65, 3) := by decide +kernel
theorem d28_36 : decode jdk_65_method_131_code 36 = .ok (.athrow, 1) := by decide +kernel
theorem d28_37 : decode jdk_65_method_131_code 37 = .ok (.return_, 1) := by decide +kernel
theorem c_chkLen (l : Launch) (Z : State) (a0 : Array Value) (hw : ∀ d ∈ tables_1, d.before a0 Z = true) (hEW : EW Z a0 consts_1) (n0 : Nat) (c1 : Int32) (hc1 : ¬ c1 = 0) (S1 : Sta Z Z.heap "java/lang/String" "COMPACT_STRINGS" "Z" (.int c1)) (v2 : Value) (hv2 : v2.isRef = true) (S2 : Sta Z Z.heap "jdk/internal/util/Preconditions" "SIOOBE_FORMATTER" "Ljava/util/function/BiFunction;" v2) (S3 : Sta Z Z.heap "java/lang/StringUTF16" "$assertionsDisabled" "Z" (.int 1)) (S4 : Sta Z Z.heap "java/lang/StringUTF16" "HI_BYTE_SHIFT" "I" (.int 0)) (S5 : Sta Z Z.heap "java/lang/StringUTF16" "LO_BYTE_SHIFT" "I" (.int 8)) (x y : Int32) {h0 : Heap} (o1 : Old Z n0 h0) (hxy : ¬ y < x) :
    Con Z a0 l (⟨"java/util/Arrays", "checkLength", "(II)V"⟩ : MethodName) jdk_65_method_131_code 2 (none) ({ frames := 0, cells := 0, slots := 0, locals := 0 } : Room) [] #[(.int x), (.int y)] consts_1 h0 n0 [] [] (V0 fun h so => h = h0 ∧ so = []) := by
  refine Con.body (plainFor_of_name pn_java_util_Arrays) hEW o1 all0 #[.val (.int x), .val (.int y)] (fun m => by first | (simp [entryFrame, mkF, argsToLocals, Value.category]; done) | rfl) ?_
  intro p e s m below meth c B hnm hret hlk G
  replace G := G.iloadN 1 d28_0 rfl rfl |>.iloadN 2 d28_1 rfl rfl |>.icmpT 37 d28_2 (XT.ii_ge_t hxy) (by decide) (by decide)
  exact G.retV hret hlk d28_37 [] all0 ⟨rfl, rfl, rfl⟩ (nle rfl) (nle rfl)
theorem d27_0 : decode jdk_65_method_133_code 0 = .ok (.iload_n 1, 1) := by decide +kernel
theorem d27_1 : decode jdk_65_method_133_code 1 = .ok (.iload_n 2, 1) := by decide +kernel
theorem d27_2 : decode jdk_65_method_133_code 2 = .ok (.invokestatic 343, 3) := by decide +kernel
theorem d27_5 : decode jdk_65_method_133_code 5 = .ok (.iload_n 2, 1) := by decide +kernel
theorem d27_6 : decode jdk_65_method_133_code 6 = .ok (.iload_n 1, 1) := by decide +kernel
theorem d27_7 : decode jdk_65_method_133_code 7 = .ok (.isub, 1) := by decide +kernel
theorem d27_8 : decode jdk_65_method_133_code 8 = .ok (.istore_n 3, 1) := by decide +kernel
theorem d27_9 : decode jdk_65_method_133_code 9 = .ok (.iload_n 3, 1) := by decide +kernel
theorem d27_10 : decode jdk_65_method_133_code 10 = .ok (.newarray .byte, 2) := by decide +kernel
theorem d27_12 : decode jdk_65_method_133_code 12 = .ok (.astore 4, 2) := by decide +kernel
theorem d27_14 : decode jdk_65_method_133_code 14 = .ok (.aload_n 0, 1) := by decide +kernel
theorem d27_15 : decode jdk_65_method_133_code 15 = .ok (.iload_n 1, 1) := by decide +kernel
theorem d27_16 : decode jdk_65_method_133_code 16 = .ok (.aload 4, 2) := by decide +kernel
theorem d27_18 : decode jdk_65_method_133_code 18 = .ok (.iconst 0, 1) := by decide +kernel
theorem d27_19 : decode jdk_65_method_133_code 19 = .ok (.aload_n 0, 1) := by decide +kernel
theorem d27_20 : decode jdk_65_method_133_code 20 = .ok (.arraylength, 1) := by decide +kernel
theorem d27_21 : decode jdk_65_method_133_code 21 = .ok (.iload_n 1, 1) := by decide +kernel
theorem d27_22 : decode jdk_65_method_133_code 22 = .ok (.isub, 1) := by decide +kernel
theorem d27_23 : decode jdk_65_method_133_code 23 = .ok (.iload_n 3, 1) := by decide +kernel
theorem d27_24 : decode jdk_65_method_133_code 24 = .ok (.invokestatic 304, 3) := by decide +kernel
theorem d27_27 : decode jdk_65_method_133_code 27 = .ok (.invokestatic 150, 3) := by decide +kernel
theorem d27_30 : decode jdk_65_method_133_code 30 = .ok (.aload 4, 2) := by decide +kernel
theorem d27_32 : decode jdk_65_method_133_code 32 = .ok (.areturn, 1) := by decide +kernel
theorem c_corb (l : Launch) (Z : State) (a0 : Array Value) (hw : ∀ d ∈ tables_1, d.before a0 Z = true) (hEW : EW Z a0 consts_1) (n0 : Nat) (c1 : Int32) (hc1 : ¬ c1 = 0) (S1 : Sta Z Z.heap "java/lang/String" "COMPACT_STRINGS" "Z" (.int c1)) (v2 : Value) (hv2 : v2.isRef = true) (S2 : Sta Z Z.heap "jdk/internal/util/Preconditions" "SIOOBE_FORMATTER" "Ljava/util/function/BiFunction;" v2) (S3 : Sta Z Z.heap "java/lang/StringUTF16" "$assertionsDisabled" "Z" (.int 1)) (S4 : Sta Z Z.heap "java/lang/StringUTF16" "HI_BYTE_SHIFT" "I" (.int 0)) (S5 : Sta Z Z.heap "java/lang/StringUTF16" "LO_BYTE_SHIFT" "I" (.int 8)) (b : Addr) (kb : ClassId) (cap : Nat) (bs : List Value) {h0 : Heap} (o1 : Old Z n0 h0) (hlt : bs.length < cap) (hcap : cap < 2147483648) (hmax : bs.length ≤ 32) (Ab : Arv Z h0 b kb .byte (Int32.ofNat cap) bs (.int 0)) :
    Con Z a0 l (⟨"java/util/Arrays", "copyOfRangeByte", "([BII)[B"⟩ : MethodName) jdk_65_method_133_code 5 (some (.array .byte)) ({ frames := 1, cells := 1, slots := 32, locals := 41 } : Room) [] #[(.ref b), (.int (0 : Int32)), (.int (Int32.ofNat bs.length))] consts_1 h0 n0 [] [] (VV fun w h so => ∃ n, w = .ref n ∧ (∃ k, Arv Z h n k .byte (Int32.ofNat bs.length) bs (.int 0)) ∧ h0.size ≤ n ∧ so = [n]) := by
  refine Con.body (plainFor_of_name pn_java_util_Arrays) hEW o1 all0 #[.val (.ref b), .val (.int (0 : Int32)), .val (.int (Int32.ofNat bs.length)), .unset, .unset] (fun m => by first | (simp [entryFrame, mkF, argsToLocals, Value.category]; done) | rfl) ?_
  intro p e s m below meth c B hnm hret hlk G
  have m1 : cap < 2147483648 := hcap
  have m2 : bs.length < 2147483648 := by omega
  replace G := G.iloadN 1 d27_0 rfl rfl |>.iloadN 2 d27_1 rfl rfl
  obtain ⟨vk, h_k, sok, G', Kk, Qk⟩ := G.callS 5 (hw _ (mm 147 rfl)) (hw _ (mm 148 rfl)) (hw _ (mm 142 rfl)) (hw _ (mm 149 rfl)) (by decide) [(.int (0 : Int32)), (.int (Int32.ofNat bs.length))] [] rfl (c_chkLen l Z a0 hw hEW n0 c1 hc1 S1 v2 hv2 S2 S3 S4 S5 0 (Int32.ofNat bs.length) G.old (ofn_nn m2)) (lenOf pd__II_V rfl) d27_2 rfl (nle rfl) (nle rfl) (nle rfl) (nle rfl) all0 all0 all0 rfl
  replace G := G'; clear G'
  obtain ⟨qk, ek, rfl⟩ := Qk
  replace G := G.nov qk
  subst ek
  replace G := G.iloadN 6 d27_5 rfl rfl |>.iloadN 7 d27_6 rfl rfl |>.isub 8 d27_7 rfl |>.top (y := (.int (Int32.ofNat bs.length))) (congrArg Value.int (sub0 _)) |>.istoreN 9 #[.val (.ref b), .val (.int (0 : Int32)), .val (.int (Int32.ofNat bs.length)), .val (.int (Int32.ofNat bs.length)), .unset] d27_8 rfl rfl |>.iloadN 10 d27_9 rfl rfl
  obtain ⟨n, h1, kn, G', gn, sn, En, An⟩ := G.newarray 12 (hw _ (mm 30 rfl)) d27_10 (ofn_nn m2) 32 (by rw [ofn_nat m2]; exact hmax) (by decide) rfl (nle rfl) (nle rfl)
  replace G := G'; clear G'
  replace Ab := Ab.ext En
  replace G := G.astore 14 #[.val (.ref b), .val (.int (0 : Int32)), .val (.int (Int32.ofNat bs.length)), .val (.int (Int32.ofNat bs.length)), .val (.ref n)] d27_12 rfl rfl rfl |>.aloadN 15 d27_14 rfl rfl rfl |>.iloadN 16 d27_15 rfl rfl |>.aload 18 d27_16 rfl rfl rfl |>.iconst 19 (0 : Int32) d27_18 rfl rfl |>.aloadN 20 d27_19 rfl rfl rfl |>.alen 21 Ab d27_20 rfl |>.iloadN 22 d27_21 rfl rfl
  replace G := G.isub 23 d27_22 rfl |>.top (y := (.int (Int32.ofNat cap))) (congrArg Value.int (sub0 _)) |>.iloadN 24 d27_23 rfl rfl
  obtain ⟨vm, h_m, som, G', Km, Qm⟩ := G.callS 27 (hw _ (mm 150 rfl)) (hw _ (mm 151 rfl)) (hw _ (mm 152 rfl)) (hw _ (mm 153 rfl)) (by decide) [(.int (Int32.ofNat cap)), (.int (Int32.ofNat bs.length))] [(.int (0 : Int32)), (.ref n), (.int (0 : Int32)), (.ref b)] rfl (c_minR l Z a0 hw hEW n0 c1 hc1 S1 v2 hv2 S2 S3 S4 S5 (Int32.ofNat cap) (Int32.ofNat bs.length) G.old (ofn_lt hlt hcap)) (lenOf pd__II_I rfl) d27_24 rfl (nle rfl) (nle rfl) (nle rfl) (nle rfl) all0 all0 all0 rfl
  replace G := G'; clear G'
  obtain ⟨wm, qm, rfl, em, rfl⟩ := Qm
  replace G := G.val qm
  subst em
  have An' := An.pad (vs' := [] ++ List.replicate bs.length (.int 0)) (pad_rep [] (.int 0) bs.length)
  obtain ⟨h2, G', Ap, Kp⟩ := G.cpy 30 (hw _ (mm 154 rfl)) (hw _ (mm 108 rfl)) (hw _ (mm 106 rfl)) (hw _ (mm 107 rfl)) Ab An' rfl (by decide) (by decide) (ofn_nn m2) (by rw [ofn_nat m2, ofn_nat hcap, show (0 : Int32).toNatClampNeg = 0 from rfl]; omega) (by rw [ofn_nat m2, show (0 : Int32).toNatClampNeg = 0 from rfl]; omega) (by rw [ofn_nat m2, show (0 : Int32).toNatClampNeg = 0 from rfl]; simp) (Or.inr sn) (mm 0 rfl) d27_27 rfl (nle rfl) (nle rfl) rfl
  replace G := G'; clear G'
  rw [ofn_nat m2, show (0 : Int32).toNatClampNeg = 0 from rfl] at Ap
  replace Ap := (cpy_res [] bs (.int 0)) ▸ Ap
  replace G := G.aload 32 d27_30 rfl rfl rfl
  exact G.retA hret rfl rfl hlk d27_32 [n] (allS (mm 0 rfl) all0) ⟨_, rfl, n, rfl, ⟨kn, Ap⟩, sn, rfl⟩ (nle rfl) (nle rfl)
theorem d26_0 : decode jdk_65_method_132_code 0 = .ok (.iload_n 1, 1) := by decide +kernel
theorem d26_1 : decode jdk_65_method_132_code 1 = .ok (.ifCond .ne 9, 3) := by decide +kernel
theorem d26_4 : decode jdk_65_method_132_code 4 = .ok (.iload_n 2, 1) := by decide +kernel
theorem d26_5 : decode jdk_65_method_132_code 5 = .ok (.aload_n 0, 1) := by decide +kernel
theorem d26_6 : decode jdk_65_method_132_code 6 = .ok (.arraylength, 1) := by decide +kernel
theorem d26_7 : decode jdk_65_method_132_code 7 = .ok (.if_icmp .eq 10, 3) := by decide +kernel
theorem d26_10 : decode jdk_65_method_132_code 10 = .ok (.aload_n 0, 1) := by decide +kernel
theorem d26_11 : decode jdk_65_method_132_code 11 = .ok (.iload_n 1, 1) := by decide +kernel
theorem d26_12 : decode jdk_65_method_132_code 12 = .ok (.iload_n 2, 1) := by decide +kernel
theorem d26_13 : decode jdk_65_method_132_code 13 = .ok (.invokestatic 339, 3) := by decide +kernel
theorem d26_16 : decode jdk_65_method_132_code 16 = .ok (.areturn, 1) := by decide +kernel
theorem d26_17 : decode jdk_65_method_132_code 17 = .ok (.aload_n 0, 1) := by decide +kernel
theorem d26_18 : decode jdk_65_method_132_code 18 = .ok (.invokevirtual 310, 3) := by decide +kernel
theorem d26_21 : decode jdk_65_method_132_code 21 = .ok (.checkcast 311, 3) := by decide +kernel
theorem d26_24 : decode jdk_65_method_132_code 24 = .ok (.areturn, 1) := by decide +kernel
theorem c_cor (l : Launch) (Z : State) (a0 : Array Value) (hw : ∀ d ∈ tables_1, d.before a0 Z = true) (hEW : EW Z a0 consts_1) (n0 : Nat) (c1 : Int32) (hc1 : ¬ c1 = 0) (S1 : Sta Z Z.heap "java/lang/String" "COMPACT_STRINGS" "Z" (.int c1)) (v2 : Value) (hv2 : v2.isRef = true) (S2 : Sta Z Z.heap "jdk/internal/util/Preconditions" "SIOOBE_FORMATTER" "Ljava/util/function/BiFunction;" v2) (S3 : Sta Z Z.heap "java/lang/StringUTF16" "$assertionsDisabled" "Z" (.int 1)) (S4 : Sta Z Z.heap "java/lang/StringUTF16" "HI_BYTE_SHIFT" "I" (.int 0)) (S5 : Sta Z Z.heap "java/lang/StringUTF16" "LO_BYTE_SHIFT" "I" (.int 8)) (b : Addr) (kb : ClassId) (cap : Nat) (bs : List Value) {h0 : Heap} (o1 : Old Z n0 h0) (hlt : bs.length < cap) (hcap : cap < 2147483648) (hmax : bs.length ≤ 32) (Ab : Arv Z h0 b kb .byte (Int32.ofNat cap) bs (.int 0)) :
    Con Z a0 l (⟨"java/util/Arrays", "copyOfRange", "([BII)[B"⟩ : MethodName) jdk_65_method_132_code 3 (some (.array .byte)) ({ frames := 2, cells := 1, slots := 32, locals := 57 } : Room) [] #[(.ref b), (.int (0 : Int32)), (.int (Int32.ofNat bs.length))] consts_1 h0 n0 [] [] (VV fun w h so => ∃ n, w = .ref n ∧ (∃ k, Arv Z h n k .byte (Int32.ofNat bs.length) bs (.int 0)) ∧ h0.size ≤ n ∧ so = [n]) := by
  refine Con.body (plainFor_of_name pn_java_util_Arrays) hEW o1 all0 #[.val (.ref b), .val (.int (0 : Int32)), .val (.int (Int32.ofNat bs.length))] (fun m => by first | (simp [entryFrame, mkF, argsToLocals, Value.category]; done) | rfl) ?_
  intro p e s m below meth c B hnm hret hlk G
  replace G := G.iloadN 1 d26_0 rfl rfl |>.ifF 4 d26_1 (XT.i0_ne_f rfl) rfl |>.iloadN 5 d26_4 rfl rfl |>.aloadN 6 d26_5 rfl rfl rfl |>.alen 7 Ab d26_6 rfl |>.icmpF 10 d26_7 (XT.ii_eq_f (ofn_ne (by omega) (by omega) hcap)) rfl |>.aloadN 11 d26_10 rfl rfl rfl |>.iloadN 12 d26_11 rfl rfl
  replace G := G.iloadN 13 d26_12 rfl rfl
  obtain ⟨vc, h1, soc, G', Kc, Qc⟩ := G.callS 16 (hw _ (mm 144 rfl)) (hw _ (mm 145 rfl)) (hw _ (mm 142 rfl)) (hw _ (mm 146 rfl)) (by decide) [(.ref b), (.int (0 : Int32)), (.int (Int32.ofNat bs.length))] [] rfl (c_corb l Z a0 hw hEW n0 c1 hc1 S1 v2 hv2 S2 S3 S4 S5 b kb cap bs G.old hlt hcap hmax Ab) (lenOf pd___BII__B rfl) d26_13 rfl (nle rfl) (nle rfl) (nle rfl) (nle rfl) all0 all0 all0 rfl
  replace G := G'; clear G'
  obtain ⟨wc, qc, n, rfl, hA, sn, rfl⟩ := Qc
  replace G := G.val qc
  exact G.retA hret rfl rfl hlk d26_16 [n] (allS (mm 0 rfl) all0) ⟨_, rfl, n, rfl, hA, sn, rfl⟩ (nle rfl) (nle rfl)
theorem d22_0 : decode jdk_68_method_64_code 0 = .ok (.aload_n 0, 1) := by decide +kernel
theorem d22_1 : decode jdk_68_method_64_code 1 = .ok (.getfield 15, 3) := by decide +kernel
theorem d22_4 : decode jdk_68_method_64_code 4 = .ok (.areturn, 1) := by decide +kernel
theorem c_getValK (l : Launch) (Z : State) (a0 : Array Value) (hw : ∀ d ∈ tables_1, d.before a0 Z = true) (hEW : EW Z a0 consts_1) (n0 : Nat) (c1 : Int32) (hc1 : ¬ c1 = 0) (S1 : Sta Z Z.heap "java/lang/String" "COMPACT_STRINGS" "Z" (.int c1)) (v2 : Value) (hv2 : v2.isRef = true) (S2 : Sta Z Z.heap "jdk/internal/util/Preconditions" "SIOOBE_FORMATTER" "Ljava/util/function/BiFunction;" v2) (S3 : Sta Z Z.heap "java/lang/StringUTF16" "$assertionsDisabled" "Z" (.int 1)) (S4 : Sta Z Z.heap "java/lang/StringUTF16" "HI_BYTE_SHIFT" "I" (.int 0)) (S5 : Sta Z Z.heap "java/lang/StringUTF16" "LO_BYTE_SHIFT" "I" (.int 8)) (a b : Addr) (cap k : Nat) (cs : List Nat) {h0 : Heap} (o1 : Old Z n0 h0) (hS : SbdK Z h0 a b cap k cs) :
    Con Z a0 l (⟨"java/lang/AbstractStringBuilder", "getValue", "()[B"⟩ : MethodName) jdk_68_method_64_code 1 (some (.array .byte)) ({ frames := 0, cells := 0, slots := 0, locals := 0 } : Room) [] #[(.ref a)] consts_1 h0 n0 [] [] (VV fun w h so => w = .ref b ∧ h = h0 ∧ so = []) := by
  refine Con.body (plainFor_of_name pn_java_lang_AbstractStringBuilder) hEW o1 all0 #[.val (.ref a)] (fun m => by first | (simp [entryFrame, mkF, argsToLocals, Value.category]; done) | rfl) ?_
  intro p e s m below meth c B hnm hret hlk G
  replace G := G.aloadN 1 d22_0 rfl rfl rfl |>.getf 4 (host := "") (Or.inl (hw _ (mm 57 rfl))) Via.refl hS.2.1 d22_1 rfl
  exact G.retA hret rfl rfl hlk d22_4 [] all0 ⟨_, rfl, rfl, rfl, rfl⟩ (nle rfl) (nle rfl)
theorem d24_0 : decode jdk_68_method_6_code 0 = .ok (.aload_n 0, 1) := by decide +kernel
theorem d24_1 : decode jdk_68_method_6_code 1 = .ok (.getfield 79, 3) := by decide +kernel
theorem d24_4 : decode jdk_68_method_6_code 4 = .ok (.ireturn, 1) := by decide +kernel
theorem c_asbLenK (l : Launch) (Z : State) (a0 : Array Value) (hw : ∀ d ∈ tables_1, d.before a0 Z = true) (hEW : EW Z a0 consts_1) (n0 : Nat) (c1 : Int32) (hc1 : ¬ c1 = 0) (S1 : Sta Z Z.heap "java/lang/String" "COMPACT_STRINGS" "Z" (.int c1)) (v2 : Value) (hv2 : v2.isRef = true) (S2 : Sta Z Z.heap "jdk/internal/util/Preconditions" "SIOOBE_FORMATTER" "Ljava/util/function/BiFunction;" v2) (S3 : Sta Z Z.heap "java/lang/StringUTF16" "$assertionsDisabled" "Z" (.int 1)) (S4 : Sta Z Z.heap "java/lang/StringUTF16" "HI_BYTE_SHIFT" "I" (.int 0)) (S5 : Sta Z Z.heap "java/lang/StringUTF16" "LO_BYTE_SHIFT" "I" (.int 8)) (a b : Addr) (cap k : Nat) (cs : List Nat) {h0 : Heap} (o1 : Old Z n0 h0) (hS : SbdK Z h0 a b cap k cs) :
    Con Z a0 l (⟨"java/lang/AbstractStringBuilder", "length", "()I"⟩ : MethodName) jdk_68_method_6_code 1 (some .int) ({ frames := 0, cells := 0, slots := 0, locals := 0 } : Room) [] #[(.ref a)] consts_1 h0 n0 [] [] (VV fun w h so => w = .int (Int32.ofNat cs.length) ∧ h = h0 ∧ so = []) := by
  refine Con.body (plainFor_of_name pn_java_lang_AbstractStringBuilder) hEW o1 all0 #[.val (.ref a)] (fun m => by first | (simp [entryFrame, mkF, argsToLocals, Value.category]; done) | rfl) ?_
  intro p e s m below meth c B hnm hret hlk G
  replace G := G.aloadN 1 d24_0 rfl rfl rfl |>.getf 4 (host := "") (Or.inl (hw _ (mm 82 rfl))) Via.refl hS.2.2.2.1 d24_1 rfl
  exact G.retI hret hlk d24_4 [] all0 ⟨_, rfl, rfl, rfl, rfl⟩ (nle rfl) (nle rfl)
theorem d23_0 : decode jdk_67_method_93_code 0 = .ok (.aload_n 0, 1) := by decide +kernel
theorem d23_1 : decode jdk_67_method_93_code 1 = .ok (.invokespecial 343, 3) := by decide +kernel
theorem d23_4 : decode jdk_67_method_93_code 4 = .ok (.ireturn, 1) := by decide +kernel
theorem c_sbLenK (l : Launch) (Z : State) (a0 : Array Value) (hw : ∀ d ∈ tables_1, d.before a0 Z = true) (hEW : EW Z a0 consts_1) (n0 : Nat) (c1 : Int32) (hc1 : ¬ c1 = 0) (S1 : Sta Z Z.heap "java/lang/String" "COMPACT_STRINGS" "Z" (.int c1)) (v2 : Value) (hv2 : v2.isRef = true) (S2 : Sta Z Z.heap "jdk/internal/util/Preconditions" "SIOOBE_FORMATTER" "Ljava/util/function/BiFunction;" v2) (S3 : Sta Z Z.heap "java/lang/StringUTF16" "$assertionsDisabled" "Z" (.int 1)) (S4 : Sta Z Z.heap "java/lang/StringUTF16" "HI_BYTE_SHIFT" "I" (.int 0)) (S5 : Sta Z Z.heap "java/lang/StringUTF16" "LO_BYTE_SHIFT" "I" (.int 8)) (a b : Addr) (cap k : Nat) (cs : List Nat) {h0 : Heap} (o1 : Old Z n0 h0) (hS : SbdK Z h0 a b cap k cs) :
    Con Z a0 l (⟨"java/lang/StringBuilder", "length", "()I"⟩ : MethodName) jdk_67_method_93_code 1 (some .int) ({ frames := 1, cells := 0, slots := 0, locals := 12 } : Room) [] #[(.ref a)] consts_1 h0 n0 [] [] (VV fun w h so => w = .int (Int32.ofNat cs.length) ∧ h = h0 ∧ so = []) := by
  refine Con.body (plainFor_of_name pn_java_lang_StringBuilder) hEW o1 all0 #[.val (.ref a)] (fun m => by first | (simp [entryFrame, mkF, argsToLocals, Value.category]; done) | rfl) ?_
  intro p e s m below meth c B hnm hret hlk G
  replace G := G.aloadN 1 d23_0 rfl rfl rfl
  obtain ⟨vl, h_l, sol, G', Kl, Ql⟩ := G.callSup 4 (hw _ (mm 133 rfl)) (sameOf (hw _ (mm 129 rfl)) (nfVia (y := (⟨"java/lang/AbstractStringBuilder", "ensureCapacityInternal", "(I)V"⟩ : MethodName)) rfl (hw _ (mm 87 rfl)) (hw _ (mm 85 rfl))) (by decide)) (hw _ (mm 129 rfl)) (hw _ (mm 68 rfl)) (by decide) (hw _ (mm 53 rfl)) (hw _ (mm 134 rfl)) (Ins.self hS.1) [] [] rfl (c_asbLenK l Z a0 hw hEW n0 c1 hc1 S1 v2 hv2 S2 S3 S4 S5 a b cap k cs G.old hS) (lenOf pd___I rfl) d23_1 rfl (nle rfl) (nle rfl) (nle rfl) (nle rfl) all0 all0 all0 rfl
  replace G := G'; clear G'
  obtain ⟨wl, ql, rfl, el, rfl⟩ := Ql
  replace G := G.val ql
  subst el
  exact G.retI hret hlk d23_4 [] all0 ⟨_, rfl, rfl, rfl, rfl⟩ (nle rfl) (nle rfl)
theorem d21_0 : decode jdk_42_method_150_code 0 = .ok (.aload_n 0, 1) := by decide +kernel
theorem d21_1 : decode jdk_42_method_150_code 1 = .ok (.invokespecial 1, 3) := by decide +kernel
theorem d21_4 : decode jdk_42_method_150_code 4 = .ok (.aload_n 1, 1) := by decide +kernel
theorem d21_5 : decode jdk_42_method_150_code 5 = .ok (.invokevirtual 552, 3) := by decide +kernel
theorem d21_8 : decode jdk_42_method_150_code 8 = .ok (.astore_n 3, 1) := by decide +kernel
theorem d21_9 : decode jdk_42_method_150_code 9 = .ok (.aload_n 1, 1) := by decide +kernel
theorem d21_10 : decode jdk_42_method_150_code 10 = .ok (.invokevirtual 549, 3) := by decide +kernel
theorem d21_13 : decode jdk_42_method_150_code 13 = .ok (.istore 4, 2) := by decide +kernel
theorem d21_15 : decode jdk_42_method_150_code 15 = .ok (.aload_n 1, 1) := by decide +kernel
theorem d21_16 : decode jdk_42_method_150_code 16 = .ok (.invokevirtual 1047, 3) := by decide +kernel
theorem d21_19 : decode jdk_42_method_150_code 19 = .ok (.ifCond .eq 22, 3) := by decide +kernel
theorem d21_22 : decode jdk_42_method_150_code 22 = .ok (.aload_n 0, 1) := by decide +kernel
theorem d21_23 : decode jdk_42_method_150_code 23 = .ok (.iconst 0, 1) := by decide +kernel
theorem d21_24 : decode jdk_42_method_150_code 24 = .ok (.putfield 15, 3) := by decide +kernel
theorem d21_27 : decode jdk_42_method_150_code 27 = .ok (.aload_n 0, 1) := by decide +kernel
theorem d21_28 : decode jdk_42_method_150_code 28 = .ok (.aload_n 3, 1) := by decide +kernel
theorem d21_29 : decode jdk_42_method_150_code 29 = .ok (.iconst 0, 1) := by decide +kernel
theorem d21_30 : decode jdk_42_method_150_code 30 = .ok (.iload 4, 2) := by decide +kernel
theorem d21_32 : decode jdk_42_method_150_code 32 = .ok (.invokestatic 54, 3) := by decide +kernel
theorem d21_35 : decode jdk_42_method_150_code 35 = .ok (.putfield 9, 3) := by decide +kernel
theorem d21_38 : decode jdk_42_method_150_code 38 = .ok (.goto 59, 3) := by decide +kernel
theorem d21_41 : decode jdk_42_method_150_code 41 = .ok (.getstatic 38, 3) := by decide +kernel
theorem d21_44 : decode jdk_42_method_150_code 44 = .ok (.ifCond .eq 35, 3) := by decide +kernel
theorem d21_47 : decode jdk_42_method_150_code 47 = .ok (.aload_n 1, 1) := by decide +kernel
theorem d21_48 : decode jdk_42_method_150_code 48 = .ok (.getfield 1048, 3) := by decide +kernel
theorem d21_51 : decode jdk_42_method_150_code 51 = .ok (.ifCond .eq 28, 3) := by decide +kernel
theorem d21_54 : decode jdk_42_method_150_code 54 = .ok (.aload_n 0, 1) := by decide +kernel
theorem d21_55 : decode jdk_42_method_150_code 55 = .ok (.aload_n 3, 1) := by decide +kernel
theorem d21_56 : decode jdk_42_method_150_code 56 = .ok (.iconst 0, 1) := by decide +kernel
theorem d21_57 : decode jdk_42_method_150_code 57 = .ok (.iload 4, 2) := by decide +kernel
theorem d21_59 : decode jdk_42_method_150_code 59 = .ok (.invokestatic 1051, 3) := by decide +kernel
theorem d21_62 : decode jdk_42_method_150_code 62 = .ok (.putfield 9, 3) := by decide +kernel
theorem d21_65 : decode jdk_42_method_150_code 65 = .ok (.aload_n 0, 1) := by decide +kernel
theorem d21_66 : decode jdk_42_method_150_code 66 = .ok (.aload_n 0, 1) := by decide +kernel
theorem d21_67 : decode jdk_42_method_150_code 67 = .ok (.getfield 9, 3) := by decide +kernel
theorem d21_70 : decode jdk_42_method_150_code 70 = .ok (.iload 4, 2) := by decide +kernel
theorem d21_72 : decode jdk_42_method_150_code 72 = .ok (.invokestatic 47, 3) := by decide +kernel
theorem d21_75 : decode jdk_42_method_150_code 75 = .ok (.putfield 15, 3) := by decide +kernel
theorem d21_78 : decode jdk_42_method_150_code 78 = .ok (.return_, 1) := by decide +kernel
theorem d21_79 : decode jdk_42_method_150_code 79 = .ok (.aload_n 0, 1) := by decide +kernel
theorem d21_80 : decode jdk_42_method_150_code 80 = .ok (.iconst 1, 1) := by decide +kernel
theorem d21_81 : decode jdk_42_method_150_code 81 = .ok (.putfield 15, 3) := by decide +kernel
theorem d21_84 : decode jdk_42_method_150_code 84 = .ok (.aload_n 0, 1) := by decide +kernel
theorem d21_85 : decode jdk_42_method_150_code 85 = .ok (.aload_n 3, 1) := by decide +kernel
theorem d21_86 : decode jdk_42_method_150_code 86 = .ok (.iconst 0, 1) := by decide +kernel
theorem d21_87 : decode jdk_42_method_150_code 87 = .ok (.iload 4, 2) := by decide +kernel
theorem d21_89 : decode jdk_42_method_150_code 89 = .ok (.iconst 1, 1) := by decide +kernel
theorem d21_90 : decode jdk_42_method_150_code 90 = .ok (.ishl, 1) := by decide +kernel
theorem d21_91 : decode jdk_42_method_150_code 91 = .ok (.invokestatic 54, 3) := by decide +kernel
theorem d21_94 : decode jdk_42_method_150_code 94 = .ok (.putfield 9, 3) := by decide +kernel
theorem d21_97 : decode jdk_42_method_150_code 97 = .ok (.return_, 1) := by decide +kernel
theorem c_sASBK (l : Launch) (Z : State) (a0 : Array Value) (hw : ∀ d ∈ tables_1, d.before a0 Z = true) (hEW : EW Z a0 consts_1) (n0 : Nat) (c1 : Int32) (hc1 : ¬ c1 = 0) (S1 : Sta Z Z.heap "java/lang/String" "COMPACT_STRINGS" "Z" (.int c1)) (v2 : Value) (hv2 : v2.isRef = true) (S2 : Sta Z Z.heap "jdk/internal/util/Preconditions" "SIOOBE_FORMATTER" "Ljava/util/function/BiFunction;" v2) (S3 : Sta Z Z.heap "java/lang/StringUTF16" "$assertionsDisabled" "Z" (.int 1)) (S4 : Sta Z Z.heap "java/lang/StringUTF16" "HI_BYTE_SHIFT" "I" (.int 0)) (S5 : Sta Z Z.heap "java/lang/StringUTF16" "LO_BYTE_SHIFT" "I" (.int 8)) (s2 a b : Addr) (cap k : Nat) (cs : List Nat) {h0 : Heap} (o1 : Old Z n0 h0) (ge_s2 : n0 ≤ s2) (hk : k = 0 ∨ k = 1) (hlt : cs.length < cap) (hcap : cap ≤ 16) (Xs : Exa Z h0 s2 "java/lang/String") (Fv : Fld Z h0 s2 "java/lang/String" "value" "[B" .null) (Fc : Fld Z h0 s2 "java/lang/String" "coder" "B" (.int 0)) (hS : SbdK Z h0 a b cap k cs) :
    Con Z a0 l (⟨"java/lang/String", "<init>", "(Ljava/lang/AbstractStringBuilder;Ljava/lang/Void;)V"⟩ : MethodName) jdk_42_method_150_code 5 (none) ({ frames := 3, cells := 1, slots := 32, locals := 72 } : Room) [] #[(.ref s2), (.ref a), .null] consts_1 h0 n0 [s2] [s2] (V0 fun h so => ∃ n, StrK Z h s2 n k cs ∧ h0.size ≤ n ∧ so = [n]) := by
  refine Con.body (plainFor_of_name pn_java_lang_String) hEW o1 (allS ge_s2 all0) #[.val (.ref s2), .val (.ref a), .val .null, .unset, .unset] (fun m => by first | (simp [entryFrame, mkF, argsToLocals, Value.category]; done) | rfl) ?_
  intro p e s m below meth c B hnm hret hlk G
  have hle2 := encS_len hk cs
  replace G := G.aloadN 1 d21_0 rfl rfl rfl |>.initO 4 (hw _ (mm 26 rfl)) (hw _ (mm 27 rfl)) (hw _ (mm 28 rfl)) d21_1 rfl (nle rfl) (nle rfl) rfl |>.aloadN 5 d21_4 rfl rfl rfl
  obtain ⟨vy1, h_1, soy1, G', Ky1, Qy1⟩ := G.callV 8 (hw _ (mm 122 rfl)) (hw _ (mm 123 rfl)) (nfSel (hw _ (mm 125 rfl))) (hw _ (mm 125 rfl)) (hw _ (mm 124 rfl)) (hw _ (mm 53 rfl)) (hw _ (mm 126 rfl)) hS.1 (by decide) [] [] rfl (c_getValK l Z a0 hw hEW n0 c1 hc1 S1 v2 hv2 S2 S3 S4 S5 a b cap k cs G.old hS) (lenOf pd____B rfl) d21_5 rfl (nle rfl) (nle rfl) (nle rfl) (nle rfl) all0 all0 all0 rfl
  replace G := G'; clear G'
  obtain ⟨wy1, qy1, rfl, ey1, rfl⟩ := Qy1
  replace G := G.val qy1
  subst ey1
  replace G := G.astoreN 9 #[.val (.ref s2), .val (.ref a), .val .null, .val (.ref b), .unset] d21_8 rfl rfl rfl |>.aloadN 10 d21_9 rfl rfl rfl
  obtain ⟨vy2, h_2, soy2, G', Ky2, Qy2⟩ := G.callV 13 (hw _ (mm 127 rfl)) (hw _ (mm 128 rfl)) (nfVia (y := (⟨"java/lang/AbstractStringBuilder", "ensureCapacityInternal", "(I)V"⟩ : MethodName)) rfl (hw _ (mm 87 rfl)) (hw _ (mm 85 rfl))) (hw _ (mm 130 rfl)) (hw _ (mm 131 rfl)) (hw _ (mm 45 rfl)) (hw _ (mm 132 rfl)) hS.1 (by decide) [] [] rfl (c_sbLenK l Z a0 hw hEW n0 c1 hc1 S1 v2 hv2 S2 S3 S4 S5 a b cap k cs G.old hS) (lenOf pd___I rfl) d21_10 rfl (nle rfl) (nle rfl) (nle rfl) (nle rfl) all0 all0 all0 rfl
  replace G := G'; clear G'
  obtain ⟨wy2, qy2, rfl, ey2, rfl⟩ := Qy2
  replace G := G.val qy2
  subst ey2
  replace G := G.istore 15 #[.val (.ref s2), .val (.ref a), .val .null, .val (.ref b), .val (.int (Int32.ofNat cs.length))] d21_13 rfl rfl |>.aloadN 16 d21_15 rfl rfl rfl
  obtain ⟨vy3, h_3, soy3, G', Ky3, Qy3⟩ := G.callV 19 (hw _ (mm 135 rfl)) (hw _ (mm 136 rfl)) (nfSel (hw _ (mm 138 rfl))) (hw _ (mm 138 rfl)) (hw _ (mm 137 rfl)) (hw _ (mm 53 rfl)) (hw _ (mm 139 rfl)) hS.1 (by decide) [] [] rfl (c_isL1K l Z a0 hw hEW n0 c1 hc1 S1 v2 hv2 S2 S3 S4 S5 a b cap k cs G.old hk hS) (lenOf pd___Z rfl) d21_16 rfl (nle rfl) (nle rfl) (nle rfl) (nle rfl) all0 all0 all0 rfl
  replace G := G'; clear G'
  obtain ⟨wy3, qy3, rfl, ey3, rfl⟩ := Qy3
  replace G := G.val qy3
  subst ey3
  have nas : s2 ≠ a := fun q => by subst q; exact absurd rfl (ne_exa Xs hS.1 (by decide))
  have nbs : s2 ≠ b := by obtain ⟨-, -, -, -, -, kb, Ab⟩ := hS; exact ne_arr Xs (hw _ (mm 16 rfl)) Ab.choose_spec.1
  rcases hk with rfl | rfl
  · skip
    replace G := G.ifF 22 d21_19 (XT.i0_eq_f (by decide)) rfl |>.aloadN 23 d21_22 rfl rfl rfl |>.iconst 24 (0 : Int32) d21_23 rfl rfl
    obtain ⟨h1, G', Wc', Fc', Kc'⟩ := G.putf 27 (host := "") (Or.inl (hw _ (mm 36 rfl))) Via.refl Fc Xs (Or.inr ⟨(hw _ (mm 32 rfl)), rfl, hnm⟩) (hw _ (mm 16 rfl)) (ty := .byte) (by decide) rfl rfl (Or.inl (mm 0 rfl)) (mm 0 rfl) d21_24 rfl
    replace G := G'; clear G'
    replace Fv := Fv.other Wc' (Or.inr (slot_ne (Or.inr (hw _ (mm 31 rfl))) (Or.inr (hw _ (mm 32 rfl))) (by decide) (t := (.array .byte)) (t' := .byte) (by decide) (by decide))); replace Xs := Xs.wr Wc'; replace hS := hS.keep Kc' (ninS nas.symm nin0) (ninS nbs.symm nin0)
    obtain ⟨kb, Ab⟩ := hS.2.2.2.2.2
    replace G := G.aloadN 28 d21_27 rfl rfl rfl |>.aloadN 29 d21_28 rfl rfl rfl |>.iconst 30 (0 : Int32) d21_29 rfl rfl |>.iload 32 d21_30 rfl rfl |>.top (y := (.int (Int32.ofNat (encS 0 cs).length))) (congrArg Value.int (by rw [hle2, Nat.pow_zero, Nat.mul_one]))
    obtain ⟨vr, h2, sor, G', Kr, Qr⟩ := G.callS 35 (hw _ (mm 140 rfl)) (hw _ (mm 141 rfl)) (hw _ (mm 142 rfl)) (hw _ (mm 143 rfl)) (by decide) [(.ref b), (.int (0 : Int32)), (.int (Int32.ofNat (encS 0 cs).length))] [(.ref s2)] rfl (c_cor l Z a0 hw hEW n0 c1 hc1 S1 v2 hv2 S2 S3 S4 S5 b kb (cap * 2 ^ 0) (encS 0 cs) G.old (by rw [hle2]; omega) (by omega) (by rw [hle2]; omega) Ab) (lenOf pd___BII__B rfl) d21_32 rfl (nle rfl) (nle rfl) (nle rfl) (nle rfl) all0 all0 all0 rfl
    replace G := G'; clear G'
    obtain ⟨wr, qr, n, rfl, ⟨kn, An⟩, sn, rfl⟩ := Qr
    replace G := G.val qr
    rw [hle2] at An
    have nsn : s2 ≠ n := (ne_ge Xs.lt sn).symm
    replace Xs := Xs.keep Kr; replace Fv := Fv.keep Kr nin0; replace Fc' := Fc'.keep Kr nin0
    obtain ⟨h3, G', Wv', Fv', Kv'⟩ := G.putf 38 (host := "") (Or.inl (hw _ (mm 35 rfl))) Via.refl Fv Xs (Or.inr ⟨(hw _ (mm 31 rfl)), rfl, hnm⟩) (hw _ (mm 16 rfl)) (ty := (.array .byte)) (by decide) rfl rfl (Or.inl (mm 0 rfl)) (mm 1 rfl) d21_35 rfl
    replace G := G'; clear G'
    replace Fc' := Fc'.other Wv' (Or.inr (slot_ne (Or.inr (hw _ (mm 32 rfl))) (Or.inr (hw _ (mm 31 rfl))) (by decide) (t := .byte) (t' := (.array .byte)) (by decide) (by decide))); replace Xs := Xs.wr Wv'; replace An := An.keep Kv' (ninS nsn.symm nin0)
    replace G := G.goto 97 d21_38 (by decide) (by decide)
    exact G.retV hret hlk d21_97 [n] (allS (mm 0 rfl) all0) ⟨rfl, n, ⟨Xs, Fc', Fv', kn, An⟩, Nat.le_trans Kc'.1 sn, rfl⟩ (nle rfl) (nle rfl)
  · skip
    replace G := G.ifT 41 d21_19 (XT.i0_eq_t rfl) (by decide) (by decide) |>.gets 44 (host := "") (Or.inl (hw _ (mm 81 rfl))) Via.refl (G.sta S1) d21_41 rfl |>.ifF 47 d21_44 (XT.i0_eq_f hc1) rfl |>.aloadN 48 d21_47 rfl rfl rfl |>.getf 51 (host := "") (Or.inl (hw _ (mm 270 rfl))) Via.refl hS.2.2.2.2.1 d21_48 rfl |>.ifT 79 d21_51 (XT.i0_eq_t rfl) (by decide) (by decide) |>.aloadN 80 d21_79 rfl rfl rfl |>.iconst 81 (1 : Int32) d21_80 rfl rfl
    obtain ⟨h1, G', Wc', Fc', Kc'⟩ := G.putf 84 (host := "") (Or.inl (hw _ (mm 36 rfl))) Via.refl Fc Xs (Or.inr ⟨(hw _ (mm 32 rfl)), rfl, hnm⟩) (hw _ (mm 16 rfl)) (ty := .byte) (by decide) rfl rfl (Or.inl (mm 0 rfl)) (mm 0 rfl) d21_81 rfl
    replace G := G'; clear G'
    replace Fv := Fv.other Wc' (Or.inr (slot_ne (Or.inr (hw _ (mm 31 rfl))) (Or.inr (hw _ (mm 32 rfl))) (by decide) (t := (.array .byte)) (t' := .byte) (by decide) (by decide))); replace Xs := Xs.wr Wc'; replace hS := hS.keep Kc' (ninS nas.symm nin0) (ninS nbs.symm nin0)
    obtain ⟨kb, Ab⟩ := hS.2.2.2.2.2
    replace G := G.aloadN 85 d21_84 rfl rfl rfl |>.aloadN 86 d21_85 rfl rfl rfl |>.iconst 87 (0 : Int32) d21_86 rfl rfl |>.iload 89 d21_87 rfl rfl |>.iconst 90 (1 : Int32) d21_89 rfl rfl |>.ishl 91 d21_90 rfl |>.top (y := (.int (Int32.ofNat (encS 1 cs).length))) (congrArg Value.int ((shl1 (by omega)).trans (by rw [hle2, Nat.pow_one])))
    obtain ⟨vr, h2, sor, G', Kr, Qr⟩ := G.callS 94 (hw _ (mm 140 rfl)) (hw _ (mm 141 rfl)) (hw _ (mm 142 rfl)) (hw _ (mm 143 rfl)) (by decide) [(.ref b), (.int (0 : Int32)), (.int (Int32.ofNat (encS 1 cs).length))] [(.ref s2)] rfl (c_cor l Z a0 hw hEW n0 c1 hc1 S1 v2 hv2 S2 S3 S4 S5 b kb (cap * 2 ^ 1) (encS 1 cs) G.old (by rw [hle2]; omega) (by omega) (by rw [hle2]; omega) Ab) (lenOf pd___BII__B rfl) d21_91 rfl (nle rfl) (nle rfl) (nle rfl) (nle rfl) all0 all0 all0 rfl
    replace G := G'; clear G'
    obtain ⟨wr, qr, n, rfl, ⟨kn, An⟩, sn, rfl⟩ := Qr
    replace G := G.val qr
    rw [hle2] at An
    have nsn : s2 ≠ n := (ne_ge Xs.lt sn).symm
    replace Xs := Xs.keep Kr; replace Fv := Fv.keep Kr nin0; replace Fc' := Fc'.keep Kr nin0
    obtain ⟨h3, G', Wv', Fv', Kv'⟩ := G.putf 97 (host := "") (Or.inl (hw _ (mm 35 rfl))) Via.refl Fv Xs (Or.inr ⟨(hw _ (mm 31 rfl)), rfl, hnm⟩) (hw _ (mm 16 rfl)) (ty := (.array .byte)) (by decide) rfl rfl (Or.inl (mm 0 rfl)) (mm 1 rfl) d21_94 rfl
    replace G := G'; clear G'
    replace Fc' := Fc'.other Wv' (Or.inr (slot_ne (Or.inr (hw _ (mm 32 rfl))) (Or.inr (hw _ (mm 31 rfl))) (by decide) (t := .byte) (t' := (.array .byte)) (by decide) (by decide))); replace Xs := Xs.wr Wv'; replace An := An.keep Kv' (ninS nsn.symm nin0)
    exact G.retV hret hlk d21_97 [n] (allS (mm 0 rfl) all0) ⟨rfl, n, ⟨Xs, Fc', Fv', kn, An⟩, Nat.le_trans Kc'.1 sn, rfl⟩ (nle rfl) (nle rfl)
theorem d20_0 : decode jdk_42_method_53_code 0 = .ok (.aload_n 0, 1) := by decide +kernel
theorem d20_1 : decode jdk_42_method_53_code 1 = .ok (.aload_n 1, 1) := by decide +kernel
theorem d20_2 : decode jdk_42_method_53_code 2 = .ok (.aconst_null, 1) := by decide +kernel
theorem d20_3 : decode jdk_42_method_53_code 3 = .ok (.invokespecial 489, 3) := by decide +kernel
theorem d20_6 : decode jdk_42_method_53_code 6 = .ok (.return_, 1) := by decide +kernel
theorem c_sSBK (l : Launch) (Z : State) (a0 : Array Value) (hw : ∀ d ∈ tables_1, d.before a0 Z = true) (hEW : EW Z a0 consts_1) (n0 : Nat) (c1 : Int32) (hc1 : ¬ c1 = 0) (S1 : Sta Z Z.heap "java/lang/String" "COMPACT_STRINGS" "Z" (.int c1)) (v2 : Value) (hv2 : v2.isRef = true) (S2 : Sta Z Z.heap "jdk/internal/util/Preconditions" "SIOOBE_FORMATTER" "Ljava/util/function/BiFunction;" v2) (S3 : Sta Z Z.heap "java/lang/StringUTF16" "$assertionsDisabled" "Z" (.int 1)) (S4 : Sta Z Z.heap "java/lang/StringUTF16" "HI_BYTE_SHIFT" "I" (.int 0)) (S5 : Sta Z Z.heap "java/lang/StringUTF16" "LO_BYTE_SHIFT" "I" (.int 8)) (s2 a b : Addr) (cap k : Nat) (cs : List Nat) {h0 : Heap} (o1 : Old Z n0 h0) (ge_s2 : n0 ≤ s2) (hk : k = 0 ∨ k = 1) (hlt : cs.length < cap) (hcap : cap ≤ 16) (Xs : Exa Z h0 s2 "java/lang/String") (Fv : Fld Z h0 s2 "java/lang/String" "value" "[B" .null) (Fc : Fld Z h0 s2 "java/lang/String" "coder" "B" (.int 0)) (hS : SbdK Z h0 a b cap k cs) :
    Con Z a0 l (⟨"java/lang/String", "<init>", "(Ljava/lang/StringBuilder;)V"⟩ : MethodName) jdk_42_method_53_code 2 (none) ({ frames := 4, cells := 1, slots := 32, locals := 88 } : Room) [] #[(.ref s2), (.ref a)] consts_1 h0 n0 [s2] [s2] (V0 fun h so => ∃ n, StrK Z h s2 n k cs ∧ h0.size ≤ n ∧ so = [n]) := by
  refine Con.body (plainFor_of_name pn_java_lang_String) hEW o1 (allS ge_s2 all0) #[.val (.ref s2), .val (.ref a)] (fun m => by first | (simp [entryFrame, mkF, argsToLocals, Value.category]; done) | rfl) ?_
  intro p e s m below meth c B hnm hret hlk G
  replace G := G.aloadN 1 d20_0 rfl rfl rfl |>.aloadN 2 d20_1 rfl rfl rfl |>.aconstNull 3 d20_2 rfl
  obtain ⟨vi, h1, soi, G', Ki, Qi⟩ := G.callI 6 rfl rfl (hw _ (mm 119 rfl)) (hw _ (mm 120 rfl)) (hw _ (mm 17 rfl)) (hw _ (mm 121 rfl)) (by decide) [(.ref a), .null] [] rfl (c_sASBK l Z a0 hw hEW n0 c1 hc1 S1 v2 hv2 S2 S3 S4 S5 s2 a b cap k cs G.old ge_s2 hk hlt hcap Xs Fv Fc hS) (lenOf pd__Ljava_lang_AbstractStringBuilder_Ljava_lang_Void__V rfl) d20_3 rfl (nle rfl) (nle rfl) (nle rfl) (nle rfl) (allS (Or.inl (mm 0 rfl)) all0) (allS (mm 0 rfl) all0) (allS (mm 0 rfl) all0) rfl
  replace G := G'; clear G'
  obtain ⟨qi, n, hT, sn, rfl⟩ := Qi
  replace G := G.nov qi
  exact G.retV hret hlk d20_6 [n] (allS (mm 0 rfl) all0) ⟨rfl, n, hT, sn, rfl⟩ (nle rfl) (nle rfl)
theorem d19_0 : decode jdk_67_method_42_code 0 = .ok (.new 18, 3) := by decide +kernel
theorem d19_3 : decode jdk_67_method_42_code 3 = .ok (.dup, 1) := by decide +kernel
theorem d19_4 : decode jdk_67_method_42_code 4 = .ok (.aload_n 0, 1) := by decide +kernel
theorem d19_5 : decode jdk_67_method_42_code 5 = .ok (.invokespecial 137, 3) := by decide +kernel
theorem d19_8 : decode jdk_67_method_42_code 8 = .ok (.areturn, 1) := by decide +kernel
theorem c_toStrK (l : Launch) (Z : State) (a0 : Array Value) (hw : ∀ d ∈ tables_1, d.before a0 Z = true) (hEW : EW Z a0 consts_1) (n0 : Nat) (c1 : Int32) (hc1 : ¬ c1 = 0) (S1 : Sta Z Z.heap "java/lang/String" "COMPACT_STRINGS" "Z" (.int c1)) (v2 : Value) (hv2 : v2.isRef = true) (S2 : Sta Z Z.heap "jdk/internal/util/Preconditions" "SIOOBE_FORMATTER" "Ljava/util/function/BiFunction;" v2) (S3 : Sta Z Z.heap "java/lang/StringUTF16" "$assertionsDisabled" "Z" (.int 1)) (S4 : Sta Z Z.heap "java/lang/StringUTF16" "HI_BYTE_SHIFT" "I" (.int 0)) (S5 : Sta Z Z.heap "java/lang/StringUTF16" "LO_BYTE_SHIFT" "I" (.int 8)) (a b : Addr) (cap k : Nat) (cs : List Nat) {h0 : Heap} (o1 : Old Z n0 h0) (hk : k = 0 ∨ k = 1) (hlt : cs.length < cap) (hcap : cap ≤ 16) (hS : SbdK Z h0 a b cap k cs) :
    Con Z a0 l (⟨"java/lang/StringBuilder", "toString", "()Ljava/lang/String;"⟩ : MethodName) jdk_67_method_42_code 1 (some (.object "java/lang/String")) ({ frames := 5, cells := 2, slots := 36, locals := 102 } : Room) [] #[(.ref a)] consts_1 h0 n0 [] [] (VV fun w h so => ∃ s2 n, w = .ref s2 ∧ StrK Z h s2 n k cs ∧ h0.size ≤ s2 ∧ h0.size ≤ n ∧ so = [n, s2]) := by
  refine Con.body (plainFor_of_name pn_java_lang_StringBuilder) hEW o1 all0 #[.val (.ref a)] (fun m => by first | (simp [entryFrame, mkF, argsToLocals, Value.category]; done) | rfl) ?_
  intro p e s m below meth c B hnm hret hlk G
  obtain ⟨s2, h1, G', gs2, ss2, Es2, Xs2, Ds2, Us2⟩ := G.new 3 (hw _ (mm 115 rfl)) (hw _ (mm 16 rfl)) (hw _ (mm 17 rfl)) d19_0 rfl (nle rfl) (nle rfl)
  replace G := G'; clear G'
  have Fv := Ds2 (Or.inr (hw _ (mm 31 rfl))) (ty := .array .byte) (by decide); have Fc := Ds2 (Or.inr (hw _ (mm 32 rfl))) (ty := .byte) (by decide); replace hS := hS.ext Es2
  replace G := G.dup 4 d19_3 rfl rfl |>.aloadN 5 d19_4 rfl rfl rfl
  obtain ⟨vi, h2, soi, G', Ki, Qi⟩ := G.callI 8 rfl rfl (hw _ (mm 116 rfl)) (hw _ (mm 117 rfl)) (hw _ (mm 17 rfl)) (hw _ (mm 118 rfl)) (by decide) [(.ref a)] [(.ref s2)] rfl (c_sSBK l Z a0 hw hEW n0 c1 hc1 S1 v2 hv2 S2 S3 S4 S5 s2 a b cap k cs G.old (G.nw (Or.inr ss2)) hk hlt hcap Xs2 Fv Fc hS) (lenOf pd__Ljava_lang_StringBuilder__V rfl) d19_5 rfl (nle rfl) (nle rfl) (nle rfl) (nle rfl) (allS (Or.inr ss2) all0) (allS (mm 0 rfl) all0) (allS (mm 0 rfl) all0) rfl
  replace G := G'; clear G'
  obtain ⟨qi, n, hT, sn, rfl⟩ := Qi
  replace G := G.nov qi
  exact G.retA hret rfl rfl hlk d19_8 [n, s2] (allS (mm 0 rfl) (allS (mm 1 rfl) all0)) ⟨_, rfl, s2, n, rfl, hT, ss2, Nat.le_trans Es2.1 sn, rfl⟩ (nle rfl) (nle rfl)
theorem d40_0 : decode jdk_41_method_11_code 0 = .ok (.iload_n 0, 1) := by decide +kernel
theorem d40_1 : decode jdk_41_method_11_code 1 = .ok (.ifCond .lt 8, 3) := by decide +kernel
theorem d40_4 : decode jdk_41_method_11_code 4 = .ok (.iload_n 0, 1) := by decide +kernel
theorem d40_5 : decode jdk_41_method_11_code 5 = .ok (.iload_n 1, 1) := by decide +kernel
theorem d40_6 : decode jdk_41_method_11_code 6 = .ok (.if_icmp .lt 10, 3) := by decide +kernel
theorem d40_9 : decode jdk_41_method_11_code 9 = .ok (.aload_n 2, 1) := by decide +kernel
theorem d40_10 : decode jdk_41_method_11_code 10 = .ok (.iload_n 0, 1) := by decide +kernel
theorem d40_11 : decode jdk_41_method_11_code 11 = .ok (.iload_n 1, 1) := by decide +kernel
theorem d40_12 : decode jdk_41_method_11_code 12 = .ok (.invokestatic 95, 3) := by decide +kernel
theorem d40_15 : decode jdk_41_method_11_code 15 = .ok (.athrow, 1) := by decide +kernel
theorem d40_16 : decode jdk_41_method_11_code 16 = .ok (.iload_n 0, 1) := by decide +kernel
theorem d40_17 : decode jdk_41_method_11_code 17 = .ok (.ireturn, 1) := by decide +kernel
theorem c_pci (l : Launch) (Z : State) (a0 : Array Value) (hw : ∀ d ∈ tables_1, d.before a0 Z = true) (hEW : EW Z a0 consts_1) (n0 : Nat) (c1 : Int32) (hc1 : ¬ c1 = 0) (S1 : Sta Z Z.heap "java/lang/String" "COMPACT_STRINGS" "Z" (.int c1)) (v2 : Value) (hv2 : v2.isRef = true) (S2 : Sta Z Z.heap "jdk/internal/util/Preconditions" "SIOOBE_FORMATTER" "Ljava/util/function/BiFunction;" v2) (S3 : Sta Z Z.heap "java/lang/StringUTF16" "$assertionsDisabled" "Z" (.int 1)) (S4 : Sta Z Z.heap "java/lang/StringUTF16" "HI_BYTE_SHIFT" "I" (.int 0)) (S5 : Sta Z Z.heap "java/lang/StringUTF16" "LO_BYTE_SHIFT" "I" (.int 8)) (i n : Int32) {h0 : Heap} (o1 : Old Z n0 h0) (h1 : ¬ i < 0) (h2 : i < n) :
    Con Z a0 l (⟨"jdk/internal/util/Preconditions", "checkIndex", "(IILjava/util/function/BiFunction;)I"⟩ : MethodName) jdk_41_method_11_code 3 (some .int) ({ frames := 0, cells := 0, slots := 0, locals := 0 } : Room) [] #[(.int i), (.int n), v2] consts_1 h0 n0 [] [] (VV fun w h so => w = .int i ∧ h = h0 ∧ so = []) := by
  refine Con.body (plainFor_of_name pn_jdk_internal_util_Preconditions) hEW o1 all0 #[.val (.int i), .val (.int n), .val v2] (fun m => by rcases XT.refc hv2 with rfl | ⟨r, rfl⟩ <;> rfl) ?_
  intro p e s m below meth c B hnm hret hlk G
  replace G := G.iloadN 1 d40_0 rfl rfl |>.ifF 4 d40_1 (XT.i0_lt_f h1) rfl |>.iloadN 5 d40_4 rfl rfl |>.iloadN 6 d40_5 rfl rfl |>.icmpT 16 d40_6 (XT.ii_lt_t h2) (by decide) (by decide) |>.iloadN 17 d40_16 rfl rfl
  exact G.retI hret hlk d40_17 [] all0 ⟨_, rfl, rfl, rfl, rfl⟩ (nle rfl) (nle rfl)
theorem d39_0 : decode jdk_42_method_155_code 0 = .ok (.iload_n 0, 1) := by decide +kernel
theorem d39_1 : decode jdk_42_method_155_code 1 = .ok (.iload_n 1, 1) := by decide +kernel
theorem d39_2 : decode jdk_42_method_155_code 2 = .ok (.getstatic 1053, 3) := by decide +kernel
theorem d39_5 : decode jdk_42_method_155_code 5 = .ok (.invokestatic 1059, 3) := by decide +kernel
theorem d39_8 : decode jdk_42_method_155_code 8 = .ok (.pop, 1) := by decide +kernel
theorem d39_9 : decode jdk_42_method_155_code 9 = .ok (.return_, 1) := by decide +kernel
theorem c_chkIdx (l : Launch) (Z : State) (a0 : Array Value) (hw : ∀ d ∈ tables_1, d.before a0 Z = true) (hEW : EW Z a0 consts_1) (n0 : Nat) (c1 : Int32) (hc1 : ¬ c1 = 0) (S1 : Sta Z Z.heap "java/lang/String" "COMPACT_STRINGS" "Z" (.int c1)) (v2 : Value) (hv2 : v2.isRef = true) (S2 : Sta Z Z.heap "jdk/internal/util/Preconditions" "SIOOBE_FORMATTER" "Ljava/util/function/BiFunction;" v2) (S3 : Sta Z Z.heap "java/lang/StringUTF16" "$assertionsDisabled" "Z" (.int 1)) (S4 : Sta Z Z.heap "java/lang/StringUTF16" "HI_BYTE_SHIFT" "I" (.int 0)) (S5 : Sta Z Z.heap "java/lang/StringUTF16" "LO_BYTE_SHIFT" "I" (.int 8)) (i n : Int32) {h0 : Heap} (o1 : Old Z n0 h0) (h1 : ¬ i < 0) (h2 : i < n) :
    Con Z a0 l (⟨"java/lang/String", "checkIndex", "(II)V"⟩ : MethodName) jdk_42_method_155_code 2 (none) ({ frames := 1, cells := 0, slots := 0, locals := 14 } : Room) [] #[(.int i), (.int n)] consts_1 h0 n0 [] [] (V0 fun h so => h = h0 ∧ so = []) := by
  refine Con.body (plainFor_of_name pn_java_lang_String) hEW o1 all0 #[.val (.int i), .val (.int n)] (fun m => by first | (simp [entryFrame, mkF, argsToLocals, Value.category]; done) | rfl) ?_
  intro p e s m below meth c B hnm hret hlk G
  replace G := G.iloadN 1 d39_0 rfl rfl |>.iloadN 2 d39_1 rfl rfl |>.gets 5 (host := "") (Or.inl (hw _ (mm 203 rfl))) Via.refl (G.sta S2) d39_2 rfl
  obtain ⟨vp, h_p, sop, G', Kp, Qp⟩ := G.callS 8 (hw _ (mm 205 rfl)) (hw _ (mm 206 rfl)) (hw _ (mm 204 rfl)) (hw _ (mm 207 rfl)) (by decide) [(.int i), (.int n), v2] [] rfl (c_pci l Z a0 hw hEW n0 c1 hc1 S1 v2 hv2 S2 S3 S4 S5 i n G.old h1 h2) (lenOf pd__IILjava_util_function_BiFunction__I rfl) d39_5 rfl (nle rfl) (nle rfl) (nle rfl) (nle rfl) all0 all0 all0 rfl
  replace G := G'; clear G'
  obtain ⟨wp, qp, rfl, ep, rfl⟩ := Qp
  replace G := G.val qp
  subst ep
  replace G := G.pop 9 d39_8 rfl rfl
  exact G.retV hret hlk d39_9 [] all0 ⟨rfl, rfl, rfl⟩ (nle rfl) (nle rfl)
theorem d38_0 : decode jdk_43_method_2_code 0 = .ok (.iload_n 1, 1) := by decide +kernel
theorem d38_1 : decode jdk_43_method_2_code 1 = .ok (.aload_n 0, 1) := by decide +kernel
theorem d38_2 : decode jdk_43_method_2_code 2 = .ok (.arraylength, 1) := by decide +kernel
theorem d38_3 : decode jdk_43_method_2_code 3 = .ok (.invokestatic 9, 3) := by decide +kernel
theorem d38_6 : decode jdk_43_method_2_code 6 = .ok (.aload_n 0, 1) := by decide +kernel
theorem d38_7 : decode jdk_43_method_2_code 7 = .ok (.iload_n 1, 1) := by decide +kernel
theorem d38_8 : decode jdk_43_method_2_code 8 = .ok (.baload, 1) := by decide +kernel
theorem d38_9 : decode jdk_43_method_2_code 9 = .ok (.sipush 255, 3) := by decide +kernel
theorem d38_12 : decode jdk_43_method_2_code 12 = .ok (.iand, 1) := by decide +kernel
theorem d38_13 : decode jdk_43_method_2_code 13 = .ok (.i2c, 1) := by decide +kernel
theorem d38_14 : decode jdk_43_method_2_code 14 = .ok (.ireturn, 1) := by decide +kernel
theorem c_l1char (l : Launch) (Z : State) (a0 : Array Value) (hw : ∀ d ∈ tables_1, d.before a0 Z = true) (hEW : EW Z a0 consts_1) (n0 : Nat) (c1 : Int32) (hc1 : ¬ c1 = 0) (S1 : Sta Z Z.heap "java/lang/String" "COMPACT_STRINGS" "Z" (.int c1)) (v2 : Value) (hv2 : v2.isRef = true) (S2 : Sta Z Z.heap "jdk/internal/util/Preconditions" "SIOOBE_FORMATTER" "Ljava/util/function/BiFunction;" v2) (S3 : Sta Z Z.heap "java/lang/StringUTF16" "$assertionsDisabled" "Z" (.int 1)) (S4 : Sta Z Z.heap "java/lang/StringUTF16" "HI_BYTE_SHIFT" "I" (.int 0)) (S5 : Sta Z Z.heap "java/lang/StringUTF16" "LO_BYTE_SHIFT" "I" (.int 8)) (b : Addr) (kb : ClassId) (bs : List Value) (i : Nat) (x : Int32) {h0 : Heap} (o1 : Old Z n0 h0) (hi : i < bs.length) (hn : bs.length < 2147483648) (hv : bs.getD i (.int 0) = .int x) (Ab : Arv Z h0 b kb .byte (Int32.ofNat bs.length) bs (.int 0)) :
    Con Z a0 l (⟨"java/lang/StringLatin1", "charAt", "([BI)C"⟩ : MethodName) jdk_43_method_2_code 2 (some .char) ({ frames := 2, cells := 0, slots := 0, locals := 27 } : Room) [] #[(.ref b), (.int (Int32.ofNat i))] consts_1 h0 n0 [] [] (VV fun w h so => w = .int (x &&& 255) ∧ h = h0 ∧ so = []) := by
  refine Con.body (plainFor_of_name pn_java_lang_StringLatin1) hEW o1 all0 #[.val (.ref b), .val (.int (Int32.ofNat i))] (fun m => by first | (simp [entryFrame, mkF, argsToLocals, Value.category]; done) | rfl) ?_
  intro p e s m below meth c B hnm hret hlk G
  replace G := G.iloadN 1 d38_0 rfl rfl |>.aloadN 2 d38_1 rfl rfl rfl |>.alen 3 Ab d38_2 rfl
  obtain ⟨vc, h_c, soc, G', Kc, Qc⟩ := G.callS 6 (hw _ (mm 200 rfl)) (hw _ (mm 201 rfl)) (hw _ (mm 17 rfl)) (hw _ (mm 202 rfl)) (by decide) [(.int (Int32.ofNat i)), (.int (Int32.ofNat bs.length))] [] rfl (c_chkIdx l Z a0 hw hEW n0 c1 hc1 S1 v2 hv2 S2 S3 S4 S5 (Int32.ofNat i) (Int32.ofNat bs.length) G.old (ofn_nn (by omega)) (ofn_lt hi hn)) (lenOf pd__II_V rfl) d38_3 rfl (nle rfl) (nle rfl) (nle rfl) (nle rfl) all0 all0 all0 rfl
  replace G := G'; clear G'
  obtain ⟨qc, ec, rfl⟩ := Qc
  replace G := G.nov qc
  subst ec
  replace G := G.aloadN 7 d38_6 rfl rfl rfl |>.iloadN 8 d38_7 rfl rfl |>.baload 9 (v := (.int x)) Ab ⟨ofn_nn (by omega), ofn_lt hi hn⟩ (by rw [ofn_nat (by omega)]; exact hv) d38_8 rfl |>.sipush 12 (255 : Int32) d38_9 (by decide) rfl |>.iand 13 d38_12 rfl |>.i2c 14 d38_13 rfl |>.top (y := (.int (x &&& 255))) (congrArg Value.int (i2c_mask x))
  exact G.retN hret (Or.inr (Or.inr (Or.inl rfl))) hlk d38_14 [] all0 ⟨_, rfl, congrArg Value.int (i2c_mask x), rfl, rfl⟩ (nle rfl) (nle rfl)
theorem d37_0 : decode jdk_42_method_154_code 0 = .ok (.getstatic 38, 3) := by decide +kernel
theorem d37_3 : decode jdk_42_method_154_code 3 = .ok (.ifCond .eq 14, 3) := by decide +kernel
theorem d37_6 : decode jdk_42_method_154_code 6 = .ok (.aload_n 0, 1) := by decide +kernel
theorem d37_7 : decode jdk_42_method_154_code 7 = .ok (.getfield 15, 3) := by decide +kernel
theorem d37_10 : decode jdk_42_method_154_code 10 = .ok (.ifCond .ne 7, 3) := by decide +kernel
theorem d37_13 : decode jdk_42_method_154_code 13 = .ok (.iconst 1, 1) := by decide +kernel
theorem d37_14 : decode jdk_42_method_154_code 14 = .ok (.goto 4, 3) := by decide +kernel
theorem d37_17 : decode jdk_42_method_154_code 17 = .ok (.iconst 0, 1) := by decide +kernel
theorem d37_18 : decode jdk_42_method_154_code 18 = .ok (.ireturn, 1) := by decide +kernel
theorem c_isL1S (l : Launch) (Z : State) (a0 : Array Value) (hw : ∀ d ∈ tables_1, d.before a0 Z = true) (hEW : EW Z a0 consts_1) (n0 : Nat) (c1 : Int32) (hc1 : ¬ c1 = 0) (S1 : Sta Z Z.heap "java/lang/String" "COMPACT_STRINGS" "Z" (.int c1)) (v2 : Value) (hv2 : v2.isRef = true) (S2 : Sta Z Z.heap "jdk/internal/util/Preconditions" "SIOOBE_FORMATTER" "Ljava/util/function/BiFunction;" v2) (S3 : Sta Z Z.heap "java/lang/StringUTF16" "$assertionsDisabled" "Z" (.int 1)) (S4 : Sta Z Z.heap "java/lang/StringUTF16" "HI_BYTE_SHIFT" "I" (.int 0)) (S5 : Sta Z Z.heap "java/lang/StringUTF16" "LO_BYTE_SHIFT" "I" (.int 8)) (a : Addr) {h0 : Heap} (o1 : Old Z n0 h0) (Fc : Fld Z h0 a "java/lang/String" "coder" "B" (.int 0)) :
    Con Z a0 l (⟨"java/lang/String", "isLatin1", "()Z"⟩ : MethodName) jdk_42_method_154_code 1 (some .boolean) ({ frames := 0, cells := 0, slots := 0, locals := 0 } : Room) [] #[(.ref a)] consts_1 h0 n0 [] [] (VV fun w h so => w = .int 1 ∧ h = h0 ∧ so = []) := by
  refine Con.body (plainFor_of_name pn_java_lang_String) hEW o1 all0 #[.val (.ref a)] (fun m => by first | (simp [entryFrame, mkF, argsToLocals, Value.category]; done) | rfl) ?_
  intro p e s m below meth c B hnm hret hlk G
  replace G := G.gets 3 (host := "") (Or.inl (hw _ (mm 81 rfl))) Via.refl (G.sta S1) d37_0 rfl |>.ifF 6 d37_3 (XT.i0_eq_f hc1) rfl |>.aloadN 7 d37_6 rfl rfl rfl |>.getf 10 (host := "") (Or.inl (hw _ (mm 36 rfl))) Via.refl Fc d37_7 rfl |>.ifF 13 d37_10 (XT.i0_ne_f rfl) rfl |>.iconst 14 (1 : Int32) d37_13 rfl rfl |>.goto 18 d37_14 (by decide) (by decide)
  exact G.retN hret (Or.inl rfl) hlk d37_18 [] all0 ⟨_, rfl, rfl, rfl, rfl⟩ (nle rfl) (nle rfl)
theorem d36_0 : decode jdk_42_method_56_code 0 = .ok (.aload_n 0, 1) := by decide +kernel
theorem d36_1 : decode jdk_42_method_56_code 1 = .ok (.invokevirtual 492, 3) := by decide +kernel
theorem d36_4 : decode jdk_42_method_56_code 4 = .ok (.ifCond .eq 12, 3) := by decide +kernel
theorem d36_7 : decode jdk_42_method_56_code 7 = .ok (.aload_n 0, 1) := by decide +kernel
theorem d36_8 : decode jdk_42_method_56_code 8 = .ok (.getfield 9, 3) := by decide +kernel
theorem d36_11 : decode jdk_42_method_56_code 11 = .ok (.iload_n 1, 1) := by decide +kernel
theorem d36_12 : decode jdk_42_method_56_code 12 = .ok (.invokestatic 495, 3) := by decide +kernel
theorem d36_15 : decode jdk_42_method_56_code 15 = .ok (.ireturn, 1) := by decide +kernel
theorem d36_16 : decode jdk_42_method_56_code 16 = .ok (.aload_n 0, 1) := by decide +kernel
theorem d36_17 : decode jdk_42_method_56_code 17 = .ok (.getfield 9, 3) := by decide +kernel
theorem d36_20 : decode jdk_42_method_56_code 20 = .ok (.iload_n 1, 1) := by decide +kernel
theorem d36_21 : decode jdk_42_method_56_code 21 = .ok (.invokestatic 498, 3) := by decide +kernel
theorem d36_24 : decode jdk_42_method_56_code 24 = .ok (.ireturn, 1) := by decide +kernel
theorem c_charAt (l : Launch) (Z : State) (a0 : Array Value) (hw : ∀ d ∈ tables_1, d.before a0 Z = true) (hEW : EW Z a0 consts_1) (n0 : Nat) (c1 : Int32) (hc1 : ¬ c1 = 0) (S1 : Sta Z Z.heap "java/lang/String" "COMPACT_STRINGS" "Z" (.int c1)) (v2 : Value) (hv2 : v2.isRef = true) (S2 : Sta Z Z.heap "jdk/internal/util/Preconditions" "SIOOBE_FORMATTER" "Ljava/util/function/BiFunction;" v2) (S3 : Sta Z Z.heap "java/lang/StringUTF16" "$assertionsDisabled" "Z" (.int 1)) (S4 : Sta Z Z.heap "java/lang/StringUTF16" "HI_BYTE_SHIFT" "I" (.int 0)) (S5 : Sta Z Z.heap "java/lang/StringUTF16" "LO_BYTE_SHIFT" "I" (.int 8)) (a b : Addr) (bs : List Value) (i : Nat) (x : Int32) {h0 : Heap} (o1 : Old Z n0 h0) (hi : i < bs.length) (hn : bs.length < 2147483648) (hv : bs.getD i (.int 0) = .int x) (hS : Str Z h0 a b bs) :
    Con Z a0 l (⟨"java/lang/String", "charAt", "(I)C"⟩ : MethodName) jdk_42_method_56_code 2 (some .char) ({ frames := 3, cells := 0, slots := 0, locals := 40 } : Room) [] #[(.ref a), (.int (Int32.ofNat i))] consts_1 h0 n0 [] [] (VV fun w h so => w = .int (x &&& 255) ∧ h = h0 ∧ so = []) := by
  refine Con.body (plainFor_of_name pn_java_lang_String) hEW o1 all0 #[.val (.ref a), .val (.int (Int32.ofNat i))] (fun m => by first | (simp [entryFrame, mkF, argsToLocals, Value.category]; done) | rfl) ?_
  intro p e s m below meth c B hnm hret hlk G
  obtain ⟨Xa, Fc, Fv, kb, Ab⟩ := hS
  replace G := G.aloadN 1 d36_0 rfl rfl rfl
  obtain ⟨vl, h_l, sol, G', Kl, Ql⟩ := G.callV 4 (hw _ (mm 192 rfl)) (hw _ (mm 193 rfl)) (nfSel (hw _ (mm 195 rfl))) (hw _ (mm 195 rfl)) (hw _ (mm 194 rfl)) (hw _ (mm 17 rfl)) (hw _ (mm 196 rfl)) Xa (by decide) [] [] rfl (c_isL1S l Z a0 hw hEW n0 c1 hc1 S1 v2 hv2 S2 S3 S4 S5 a G.old Fc) (lenOf pd___Z rfl) d36_1 rfl (nle rfl) (nle rfl) (nle rfl) (nle rfl) all0 all0 all0 rfl
  replace G := G'; clear G'
  obtain ⟨wl, ql, rfl, el, rfl⟩ := Ql
  replace G := G.val ql
  subst el
  replace G := G.ifF 7 d36_4 (XT.i0_eq_f (by decide)) rfl |>.aloadN 8 d36_7 rfl rfl rfl |>.getf 11 (host := "") (Or.inl (hw _ (mm 35 rfl))) Via.refl Fv d36_8 rfl |>.iloadN 12 d36_11 rfl rfl
  obtain ⟨vc, h_c, soc, G', Kc, Qc⟩ := G.callS 15 (hw _ (mm 197 rfl)) (hw _ (mm 198 rfl)) (hw _ (mm 163 rfl)) (hw _ (mm 199 rfl)) (by decide) [(.ref b), (.int (Int32.ofNat i))] [] rfl (c_l1char l Z a0 hw hEW n0 c1 hc1 S1 v2 hv2 S2 S3 S4 S5 b kb bs i x G.old hi hn hv Ab) (lenOf pd___BI_C rfl) d36_12 rfl (nle rfl) (nle rfl) (nle rfl) (nle rfl) all0 all0 all0 rfl
  replace G := G'; clear G'
  obtain ⟨wc, qc, rfl, ec, rfl⟩ := Qc
  replace G := G.val qc
  subst ec
  exact G.retN hret (Or.inr (Or.inr (Or.inl rfl))) hlk d36_15 [] all0 ⟨_, rfl, congrArg Value.int (i2c_mask x), rfl, rfl⟩ (nle rfl) (nle rfl)
theorem d59_0 : decode jdk_52_method_91_code 0 = .ok (.iload_n 0, 1) := by decide +kernel
theorem d59_1 : decode jdk_52_method_91_code 1 = .ok (.aload_n 1, 1) := by decide +kernel
theorem d59_2 : decode jdk_52_method_91_code 2 = .ok (.invokestatic 48, 3) := by decide +kernel
theorem d59_5 : decode jdk_52_method_91_code 5 = .ok (.invokestatic 414, 3) := by decide +kernel
theorem d59_8 : decode jdk_52_method_91_code 8 = .ok (.return_, 1) := by decide +kernel
theorem c_uchk (l : Launch) (Z : State) (a0 : Array Value) (hw : ∀ d ∈ tables_1, d.before a0 Z = true) (hEW : EW Z a0 consts_1) (n0 : Nat) (c1 : Int32) (hc1 : ¬ c1 = 0) (S1 : Sta Z Z.heap "java/lang/String" "COMPACT_STRINGS" "Z" (.int c1)) (v2 : Value) (hv2 : v2.isRef = true) (S2 : Sta Z Z.heap "jdk/internal/util/Preconditions" "SIOOBE_FORMATTER" "Ljava/util/function/BiFunction;" v2) (S3 : Sta Z Z.heap "java/lang/StringUTF16" "$assertionsDisabled" "Z" (.int 1)) (S4 : Sta Z Z.heap "java/lang/StringUTF16" "HI_BYTE_SHIFT" "I" (.int 0)) (S5 : Sta Z Z.heap "java/lang/StringUTF16" "LO_BYTE_SHIFT" "I" (.int 8)) (b : Addr) (kb : ClassId) (n i : Nat) (vs : List Value) {h0 : Heap} (o1 : Old Z n0 h0) (hi : i < n) (hn : n < 1073741824) (Ab : Arv Z h0 b kb .byte (Int32.ofNat (n * 2)) vs (.int 0)) :
    Con Z a0 l (⟨"java/lang/StringUTF16", "checkIndex", "(I[B)V"⟩ : MethodName) jdk_52_method_91_code 2 (none) ({ frames := 2, cells := 0, slots := 0, locals := 27 } : Room) [] #[(.int (Int32.ofNat i)), (.ref b)] consts_1 h0 n0 [] [] (V0 fun h so => h = h0 ∧ so = []) := by
  refine Con.body (plainFor_of_name pn_java_lang_StringUTF16) hEW o1 all0 #[.val (.int (Int32.ofNat i)), .val (.ref b)] (fun m => by first | (simp [entryFrame, mkF, argsToLocals, Value.category]; done) | rfl) ?_
  intro p e s m below meth c B hnm hret hlk G
  replace G := G.iloadN 1 d59_0 rfl rfl |>.aloadN 2 d59_1 rfl rfl rfl
  obtain ⟨vl, h_l, sol, G', Kl, Ql⟩ := G.callS 5 (hw _ (mm 261 rfl)) (hw _ (mm 262 rfl)) (hw _ (mm 218 rfl)) (hw _ (mm 263 rfl)) (by decide) [(.ref b)] [(.int (Int32.ofNat i))] rfl (c_ulen l Z a0 hw hEW n0 c1 hc1 S1 v2 hv2 S2 S3 S4 S5 b kb n vs G.old hn Ab) (lenOf pd___B_I rfl) d59_2 rfl (nle rfl) (nle rfl) (nle rfl) (nle rfl) all0 all0 all0 rfl
  replace G := G'; clear G'
  obtain ⟨wl, ql, rfl, el, rfl⟩ := Ql
  replace G := G.val ql
  subst el
  obtain ⟨vc, h_c, soc, G', Kc, Qc⟩ := G.callS 8 (hw _ (mm 278 rfl)) (hw _ (mm 201 rfl)) (hw _ (mm 17 rfl)) (hw _ (mm 202 rfl)) (by decide) [(.int (Int32.ofNat i)), (.int (Int32.ofNat n))] [] rfl (c_chkIdx l Z a0 hw hEW n0 c1 hc1 S1 v2 hv2 S2 S3 S4 S5 (Int32.ofNat i) (Int32.ofNat n) G.old (ofn_nn (by omega)) (ofn_lt hi (by omega))) (lenOf pd__II_V rfl) d59_5 rfl (nle rfl) (nle rfl) (nle rfl) (nle rfl) all0 all0 all0 rfl
  replace G := G'; clear G'
  obtain ⟨qc, ec, rfl⟩ := Qc
  replace G := G.nov qc
  subst ec
  exact G.retV hret hlk d59_8 [] all0 ⟨rfl, rfl, rfl⟩ (nle rfl) (nle rfl)
theorem d58_0 : decode jdk_52_method_83_code 0 = .ok (.iload_n 1, 1) := by decide +kernel
theorem d58_1 : decode jdk_52_method_83_code 1 = .ok (.aload_n 0, 1) := by decide +kernel
theorem d58_2 : decode jdk_52_method_83_code 2 = .ok (.invokestatic 67, 3) := by decide +kernel
theorem d58_5 : decode jdk_52_method_83_code 5 = .ok (.aload_n 0, 1) := by decide +kernel
theorem d58_6 : decode jdk_52_method_83_code 6 = .ok (.iload_n 1, 1) := by decide +kernel
theorem d58_7 : decode jdk_52_method_83_code 7 = .ok (.invokestatic 71, 3) := by decide +kernel
theorem d58_10 : decode jdk_52_method_83_code 10 = .ok (.ireturn, 1) := by decide +kernel
theorem c_uchAt (l : Launch) (Z : State) (a0 : Array Value) (hw : ∀ d ∈ tables_1, d.before a0 Z = true) (hEW : EW Z a0 consts_1) (n0 : Nat) (c1 : Int32) (hc1 : ¬ c1 = 0) (S1 : Sta Z Z.heap "java/lang/String" "COMPACT_STRINGS" "Z" (.int c1)) (v2 : Value) (hv2 : v2.isRef = true) (S2 : Sta Z Z.heap "jdk/internal/util/Preconditions" "SIOOBE_FORMATTER" "Ljava/util/function/BiFunction;" v2) (S3 : Sta Z Z.heap "java/lang/StringUTF16" "$assertionsDisabled" "Z" (.int 1)) (S4 : Sta Z Z.heap "java/lang/StringUTF16" "HI_BYTE_SHIFT" "I" (.int 0)) (S5 : Sta Z Z.heap "java/lang/StringUTF16" "LO_BYTE_SHIFT" "I" (.int 8)) (b : Addr) (kb : ClassId) (i : Nat) (cs : List Nat) {h0 : Heap} (o1 : Old Z n0 h0) (hc : cs.getD i 0 < 65536) (hi : i < cs.length) (hn : cs.length < 1073741824) (Ab : Arv Z h0 b kb .byte (Int32.ofNat (cs.length * 2)) (encS 1 cs) (.int 0)) :
    Con Z a0 l (⟨"java/lang/StringUTF16", "charAt", "([BI)C"⟩ : MethodName) jdk_52_method_83_code 2 (some .char) ({ frames := 3, cells := 0, slots := 0, locals := 40 } : Room) [] #[(.ref b), (.int (Int32.ofNat i))] consts_1 h0 n0 [] [] (VV fun w h so => w = .int (Int32.ofNat (cs.getD i 0)) ∧ h = h0 ∧ so = []) := by
  refine Con.body (plainFor_of_name pn_java_lang_StringUTF16) hEW o1 all0 #[.val (.ref b), .val (.int (Int32.ofNat i))] (fun m => by first | (simp [entryFrame, mkF, argsToLocals, Value.category]; done) | rfl) ?_
  intro p e s m below meth c B hnm hret hlk G
  replace G := G.iloadN 1 d58_0 rfl rfl |>.aloadN 2 d58_1 rfl rfl rfl
  obtain ⟨vk', h_k, sok', G', Kk', Qk'⟩ := G.callS 5 (hw _ (mm 275 rfl)) (hw _ (mm 276 rfl)) (hw _ (mm 218 rfl)) (hw _ (mm 277 rfl)) (by decide) [(.int (Int32.ofNat i)), (.ref b)] [] rfl (c_uchk l Z a0 hw hEW n0 c1 hc1 S1 v2 hv2 S2 S3 S4 S5 b kb cs.length i (encS 1 cs) G.old hi hn Ab) (lenOf pd__I_B_V rfl) d58_2 rfl (nle rfl) (nle rfl) (nle rfl) (nle rfl) all0 all0 all0 rfl
  replace G := G'; clear G'
  obtain ⟨qk', ek, rfl⟩ := Qk'
  replace G := G.nov qk'
  subst ek
  replace G := G.aloadN 6 d58_5 rfl rfl rfl |>.iloadN 7 d58_6 rfl rfl
  obtain ⟨vg, h_g, sog, G', Kg, Qg⟩ := G.callS 10 (hw _ (mm 239 rfl)) (hw _ (mm 240 rfl)) (hw _ (mm 218 rfl)) (hw _ (mm 241 rfl)) (by decide) [(.ref b), (.int (Int32.ofNat i))] [] rfl (c_getCh l Z a0 hw hEW n0 c1 hc1 S1 v2 hv2 S2 S3 S4 S5 b kb cs.length i cs G.old hc hi (Nat.le_refl _) hn Ab) (lenOf pd___BI_C rfl) d58_7 rfl (nle rfl) (nle rfl) (nle rfl) (nle rfl) all0 all0 all0 rfl
  replace G := G'; clear G'
  obtain ⟨wg, qg, rfl, eg, rfl⟩ := Qg
  replace G := G.val qg
  subst eg
  exact G.retN hret (Or.inr (Or.inr (Or.inl rfl))) hlk d58_10 [] all0 ⟨_, rfl, congrArg Value.int (i2c_w hc), rfl, rfl⟩ (nle rfl) (nle rfl)
theorem c_isL1SK (l : Launch) (Z : State) (a0 : Array Value) (hw : ∀ d ∈ tables_1, d.before a0 Z = true) (hEW : EW Z a0 consts_1) (n0 : Nat) (c1 : Int32) (hc1 : ¬ c1 = 0) (S1 : Sta Z Z.heap "java/lang/String" "COMPACT_STRINGS" "Z" (.int c1)) (v2 : Value) (hv2 : v2.isRef = true) (S2 : Sta Z Z.heap "jdk/internal/util/Preconditions" "SIOOBE_FORMATTER" "Ljava/util/function/BiFunction;" v2) (S3 : Sta Z Z.heap "java/lang/StringUTF16" "$assertionsDisabled" "Z" (.int 1)) (S4 : Sta Z Z.heap "java/lang/StringUTF16" "HI_BYTE_SHIFT" "I" (.int 0)) (S5 : Sta Z Z.heap "java/lang/StringUTF16" "LO_BYTE_SHIFT" "I" (.int 8)) (a : Addr) (k : Nat) {h0 : Heap} (o1 : Old Z n0 h0) (hk : k = 0 ∨ k = 1) (Fc : Fld Z h0 a "java/lang/String" "coder" "B" (.int (Int32.ofNat k))) :
    Con Z a0 l (⟨"java/lang/String", "isLatin1", "()Z"⟩ : MethodName) jdk_42_method_154_code 1 (some .boolean) ({ frames := 0, cells := 0, slots := 0, locals := 0 } : Room) [] #[(.ref a)] consts_1 h0 n0 [] [] (VV fun w h so => w = .int (Int32.ofNat (1 - k)) ∧ h = h0 ∧ so = []) := by
  refine Con.body (plainFor_of_name pn_java_lang_String) hEW o1 all0 #[.val (.ref a)] (fun m => by first | (simp [entryFrame, mkF, argsToLocals, Value.category]; done) | rfl) ?_
  intro p e s m below meth c B hnm hret hlk G
  replace G := G.gets 3 (host := "") (Or.inl (hw _ (mm 81 rfl))) Via.refl (G.sta S1) d37_0 rfl |>.ifF 6 d37_3 (XT.i0_eq_f hc1) rfl |>.aloadN 7 d37_6 rfl rfl rfl |>.getf 10 (host := "") (Or.inl (hw _ (mm 36 rfl))) Via.refl Fc d37_7 rfl
  rcases hk with rfl | rfl
  · skip
    replace G := G.ifF 13 d37_10 (XT.i0_ne_f rfl) rfl |>.iconst 14 (1 : Int32) d37_13 rfl rfl |>.goto 18 d37_14 (by decide) (by decide)
    exact G.retN hret (Or.inl rfl) hlk d37_18 [] all0 ⟨_, rfl, rfl, rfl, rfl⟩ (nle rfl) (nle rfl)
  · skip
    replace G := G.ifT 17 d37_10 (XT.i0_ne_t (by decide)) (by decide) (by decide) |>.iconst 18 (0 : Int32) d37_17 rfl rfl
    exact G.retN hret (Or.inl rfl) hlk d37_18 [] all0 ⟨_, rfl, rfl, rfl, rfl⟩ (nle rfl) (nle rfl)
theorem c_charK (l : Launch) (Z : State) (a0 : Array Value) (hw : ∀ d ∈ tables_1, d.before a0 Z = true) (hEW : EW Z a0 consts_1) (n0 : Nat) (c1 : Int32) (hc1 : ¬ c1 = 0) (S1 : Sta Z Z.heap "java/lang/String" "COMPACT_STRINGS" "Z" (.int c1)) (v2 : Value) (hv2 : v2.isRef = true) (S2 : Sta Z Z.heap "jdk/internal/util/Preconditions" "SIOOBE_FORMATTER" "Ljava/util/function/BiFunction;" v2) (S3 : Sta Z Z.heap "java/lang/StringUTF16" "$assertionsDisabled" "Z" (.int 1)) (S4 : Sta Z Z.heap "java/lang/StringUTF16" "HI_BYTE_SHIFT" "I" (.int 0)) (S5 : Sta Z Z.heap "java/lang/StringUTF16" "LO_BYTE_SHIFT" "I" (.int 8)) (a b : Addr) (k i : Nat) (cs : List Nat) {h0 : Heap} (o1 : Old Z n0 h0) (hk : k = 0 ∨ k = 1) (hi : i < cs.length) (hn : cs.length < 1000) (hc : ∀ c ∈ cs, c < 65536) (h8 : k = 0 → ∀ c ∈ cs, c < 256) (hS : StrK Z h0 a b k cs) :
    Con Z a0 l (⟨"java/lang/String", "charAt", "(I)C"⟩ : MethodName) jdk_42_method_56_code 2 (some .char) ({ frames := 4, cells := 0, slots := 0, locals := 53 } : Room) [] #[(.ref a), (.int (Int32.ofNat i))] consts_1 h0 n0 [] [] (VV fun w h so => w = .int (Int32.ofNat (cs.getD i 0)) ∧ h = h0 ∧ so = []) := by
  refine Con.body (plainFor_of_name pn_java_lang_String) hEW o1 all0 #[.val (.ref a), .val (.int (Int32.ofNat i))] (fun m => by first | (simp [entryFrame, mkF, argsToLocals, Value.category]; done) | rfl) ?_
  intro p e s m below meth c B hnm hret hlk G
  have hcc := hc _ (getD_memN cs i hi)
  obtain ⟨Xa, Fc, Fv, kb, Ab⟩ := hS
  replace G := G.aloadN 1 d36_0 rfl rfl rfl
  obtain ⟨vl, h_l, sol, G', Kl, Ql⟩ := G.callV 4 (hw _ (mm 192 rfl)) (hw _ (mm 193 rfl)) (nfSel (hw _ (mm 195 rfl))) (hw _ (mm 195 rfl)) (hw _ (mm 194 rfl)) (hw _ (mm 17 rfl)) (hw _ (mm 196 rfl)) Xa (by decide) [] [] rfl (c_isL1SK l Z a0 hw hEW n0 c1 hc1 S1 v2 hv2 S2 S3 S4 S5 a k G.old hk Fc) (lenOf pd___Z rfl) d36_1 rfl (nle rfl) (nle rfl) (nle rfl) (nle rfl) all0 all0 all0 rfl
  replace G := G'; clear G'
  obtain ⟨wl, ql, rfl, el, rfl⟩ := Ql
  replace G := G.val ql
  subst el
  rcases hk with rfl | rfl
  · skip
    have hle2 := encS_len0 cs
    rw [Nat.pow_zero, Nat.mul_one, ← hle2] at Ab
    replace G := G.ifF 7 d36_4 (XT.i0_eq_f (by decide)) rfl |>.aloadN 8 d36_7 rfl rfl rfl |>.getf 11 (host := "") (Or.inl (hw _ (mm 35 rfl))) Via.refl Fv d36_8 rfl |>.iloadN 12 d36_11 rfl rfl
    obtain ⟨vc, h_c, soc, G', Kc, Qc⟩ := G.callS 15 (hw _ (mm 197 rfl)) (hw _ (mm 198 rfl)) (hw _ (mm 163 rfl)) (hw _ (mm 199 rfl)) (by decide) [(.ref b), (.int (Int32.ofNat i))] [] rfl (c_l1char l Z a0 hw hEW n0 c1 hc1 S1 v2 hv2 S2 S3 S4 S5 b kb (encS 0 cs) i (byt (cs.getD i 0)) G.old (by omega) (by omega) (encS0_at cs i hi) Ab) (lenOf pd___BI_C rfl) d36_12 rfl (nle rfl) (nle rfl) (nle rfl) (nle rfl) all0 all0 all0 rfl
    replace G := G'; clear G'
    obtain ⟨wc, qc, rfl, ec, rfl⟩ := Qc
    replace G := G.val qc
    subst ec
    have h88 := h8 rfl _ (getD_memN cs i hi)
    replace G := G.top (y := (.int (Int32.ofNat (cs.getD i 0)))) (congrArg Value.int ((byt_mask (by omega)).trans (by rw [Nat.mod_eq_of_lt h88])))
    exact G.retN hret (Or.inr (Or.inr (Or.inl rfl))) hlk d36_15 [] all0 ⟨_, rfl, congrArg Value.int (i2c_w hcc), rfl, rfl⟩ (nle rfl) (nle rfl)
  · skip
    rw [Nat.pow_one] at Ab
    replace G := G.ifT 16 d36_4 (XT.i0_eq_t rfl) (by decide) (by decide) |>.aloadN 17 d36_16 rfl rfl rfl |>.getf 20 (host := "") (Or.inl (hw _ (mm 35 rfl))) Via.refl Fv d36_17 rfl |>.iloadN 21 d36_20 rfl rfl
    obtain ⟨vc, h_c, soc, G', Kc, Qc⟩ := G.callS 24 (hw _ (mm 272 rfl)) (hw _ (mm 273 rfl)) (hw _ (mm 218 rfl)) (hw _ (mm 274 rfl)) (by decide) [(.ref b), (.int (Int32.ofNat i))] [] rfl (c_uchAt l Z a0 hw hEW n0 c1 hc1 S1 v2 hv2 S2 S3 S4 S5 b kb i cs G.old hcc hi (by omega) Ab) (lenOf pd___BI_C rfl) d36_21 rfl (nle rfl) (nle rfl) (nle rfl) (nle rfl) all0 all0 all0 rfl
    replace G := G'; clear G'
    obtain ⟨wc, qc, rfl, ec, rfl⟩ := Qc
    replace G := G.val qc
    subst ec
    exact G.retN hret (Or.inr (Or.inr (Or.inl rfl))) hlk d36_24 [] all0 ⟨_, rfl, congrArg Value.int (i2c_w hcc), rfl, rfl⟩ (nle rfl) (nle rfl)
theorem d31_0 : decode jdk_43_method_13_code 0 = .ok (.aload_n 0, 1) := by decide +kernel
theorem d31_1 : decode jdk_43_method_13_code 1 = .ok (.arraylength, 1) := by decide +kernel
theorem d31_2 : decode jdk_43_method_13_code 2 = .ok (.aload_n 1, 1) := by decide +kernel
theorem d31_3 : decode jdk_43_method_13_code 3 = .ok (.arraylength, 1) := by decide +kernel
theorem d31_4 : decode jdk_43_method_13_code 4 = .ok (.if_icmp .ne 30, 3) := by decide +kernel
theorem d31_7 : decode jdk_43_method_13_code 7 = .ok (.iconst 0, 1) := by decide +kernel
theorem d31_8 : decode jdk_43_method_13_code 8 = .ok (.istore_n 2, 1) := by decide +kernel
theorem d31_9 : decode jdk_43_method_13_code 9 = .ok (.iload_n 2, 1) := by decide +kernel
theorem d31_10 : decode jdk_43_method_13_code 10 = .ok (.aload_n 0, 1) := by decide +kernel
theorem d31_11 : decode jdk_43_method_13_code 11 = .ok (.arraylength, 1) := by decide +kernel
theorem d31_12 : decode jdk_43_method_13_code 12 = .ok (.if_icmp .ge 20, 3) := by decide +kernel
theorem d31_15 : decode jdk_43_method_13_code 15 = .ok (.aload_n 0, 1) := by decide +kernel
theorem d31_16 : decode jdk_43_method_13_code 16 = .ok (.iload_n 2, 1) := by decide +kernel
theorem d31_17 : decode jdk_43_method_13_code 17 = .ok (.baload, 1) := by decide +kernel
theorem d31_18 : decode jdk_43_method_13_code 18 = .ok (.aload_n 1, 1) := by decide +kernel
theorem d31_19 : decode jdk_43_method_13_code 19 = .ok (.iload_n 2, 1) := by decide +kernel
theorem d31_20 : decode jdk_43_method_13_code 20 = .ok (.baload, 1) := by decide +kernel
theorem d31_21 : decode jdk_43_method_13_code 21 = .ok (.if_icmp .eq 5, 3) := by decide +kernel
theorem d31_24 : decode jdk_43_method_13_code 24 = .ok (.iconst 0, 1) := by decide +kernel
theorem d31_25 : decode jdk_43_method_13_code 25 = .ok (.ireturn, 1) := by decide +kernel
theorem d31_26 : decode jdk_43_method_13_code 26 = .ok (.iinc 2 1, 3) := by decide +kernel
theorem d31_29 : decode jdk_43_method_13_code 29 = .ok (.goto (-20), 3) := by decide +kernel
theorem d31_32 : decode jdk_43_method_13_code 32 = .ok (.iconst 1, 1) := by decide +kernel
theorem d31_33 : decode jdk_43_method_13_code 33 = .ok (.ireturn, 1) := by decide +kernel
theorem d31_34 : decode jdk_43_method_13_code 34 = .ok (.iconst 0, 1) := by decide +kernel
theorem d31_35 : decode jdk_43_method_13_code 35 = .ok (.ireturn, 1) := by decide +kernel
theorem c_eqBK (l : Launch) (Z : State) (a0 : Array Value) (hw : ∀ d ∈ tables_1, d.before a0 Z = true) (hEW : EW Z a0 consts_1) (n0 : Nat) (c1 : Int32) (hc1 : ¬ c1 = 0) (S1 : Sta Z Z.heap "java/lang/String" "COMPACT_STRINGS" "Z" (.int c1)) (v2 : Value) (hv2 : v2.isRef = true) (S2 : Sta Z Z.heap "jdk/internal/util/Preconditions" "SIOOBE_FORMATTER" "Ljava/util/function/BiFunction;" v2) (S3 : Sta Z Z.heap "java/lang/StringUTF16" "$assertionsDisabled" "Z" (.int 1)) (S4 : Sta Z Z.heap "java/lang/StringUTF16" "HI_BYTE_SHIFT" "I" (.int 0)) (S5 : Sta Z Z.heap "java/lang/StringUTF16" "LO_BYTE_SHIFT" "I" (.int 8)) (b1 b2 : Addr) (k1 k2 : ClassId) (xs ys : List Value) {h0 : Heap} (o1 : Old Z n0 h0) (hn1 : xs.length < 2147483648) (hn2 : ys.length < 2147483648) (hint1 : ∀ i, i < xs.length → ∃ x, xs.getD i (.int 0) = .int x) (hint2 : ∀ i, i < ys.length → ∃ x, ys.getD i (.int 0) = .int x) (A1 : Arv Z h0 b1 k1 .byte (Int32.ofNat xs.length) xs (.int 0)) (A2 : Arv Z h0 b2 k2 .byte (Int32.ofNat ys.length) ys (.int 0)) :
    Con Z a0 l (⟨"java/lang/StringLatin1", "equals", "([B[B)Z"⟩ : MethodName) jdk_43_method_13_code 3 (some .boolean) ({ frames := 0, cells := 0, slots := 0, locals := 0 } : Room) [] #[(.ref b1), (.ref b2)] consts_1 h0 n0 [] [] (VV fun w h so => w = .int (if xs = ys then 1 else 0) ∧ h = h0 ∧ so = []) := by
  refine Con.body (plainFor_of_name pn_java_lang_StringLatin1) hEW o1 all0 #[.val (.ref b1), .val (.ref b2), .unset] (fun m => by first | (simp [entryFrame, mkF, argsToLocals, Value.category]; done) | rfl) ?_
  intro p e s m below meth c B hnm hret hlk G
  replace G := G.aloadN 1 d31_0 rfl rfl rfl |>.alen 2 A1 d31_1 rfl |>.aloadN 3 d31_2 rfl rfl rfl |>.alen 4 A2 d31_3 rfl
  rcases Decidable.em (xs.length = ys.length) with hq | hq
  · skip
    replace G := G.icmpF 7 d31_4 (XT.ii_ne_f (by rw [hq])) rfl |>.iconst 8 (0 : Int32) d31_7 rfl rfl |>.istoreN 9 #[.val (.ref b1), .val (.ref b2), .val (.int (0 : Int32))] d31_8 rfl rfl
    have loop : ∀ (k i : Nat), i + k = xs.length → (∀ j, j < i → xs.getD j (.int 0) = ys.getD j (.int 0)) → Wl Z a0 "java/lang/StringLatin1" p l e ({ frames := 0, cells := 0, slots := 0, locals := 0 } : Room) s m #[(.ref b1), (.ref b2)] below meth c jdk_43_method_13_code 3 B consts_1 h0 n0 [] [] h0 0 0 9 #[.val (.ref b1), .val (.ref b2), .val (.int (Int32.ofNat i))] [] → Fin Z consts_1 p e below B s h0 n0 [] ({ frames := 0, cells := 0, slots := 0, locals := 0 } : Room).cells ({ frames := 0, cells := 0, slots := 0, locals := 0 } : Room).slots (VV fun w h so => w = .int (if xs = ys then 1 else 0) ∧ h = h0 ∧ so = []) := by
      intro k; induction k with
      | zero =>
        intro i hik hj G
        obtain rfl : i = xs.length := by omega
        replace G := G.iloadN 10 d31_9 rfl rfl |>.aloadN 11 d31_10 rfl rfl rfl |>.alen 12 A1 d31_11 rfl |>.icmpT 32 d31_12 (XT.ii_ge_t (ofn_nlt (Nat.le_refl _) hn1)) (by decide) (by decide) |>.iconst 33 (1 : Int32) d31_32 rfl rfl
        exact G.retN hret (Or.inl rfl) hlk d31_33 [] all0 ⟨_, rfl, by rw [if_pos (list_eq hq hj)] <;> rfl, rfl, rfl⟩ (nle rfl) (nle rfl)
      | succ k ih =>
        intro i hik hj G
        have hi : i < xs.length := by omega
        obtain ⟨p1, e1⟩ := hint1 i hi
        obtain ⟨p2, e2⟩ := hint2 i (by omega)
        replace G := G.iloadN 10 d31_9 rfl rfl |>.aloadN 11 d31_10 rfl rfl rfl |>.alen 12 A1 d31_11 rfl |>.icmpF 15 d31_12 (XT.ii_ge_f (ofn_lt hi hn1)) rfl |>.aloadN 16 d31_15 rfl rfl rfl |>.iloadN 17 d31_16 rfl rfl |>.baload 18 (v := (.int p1)) A1 ⟨ofn_nn (by omega), ofn_lt hi hn1⟩ (by rw [ofn_nat (by omega)]; exact e1) d31_17 rfl |>.aloadN 19 d31_18 rfl rfl rfl
        replace G := G.iloadN 20 d31_19 rfl rfl |>.baload 21 (v := (.int p2)) A2 ⟨ofn_nn (by omega), ofn_lt (by omega) hn2⟩ (by rw [ofn_nat (by omega)]; exact e2) d31_20 rfl
        rcases Decidable.em (p1 = p2) with hp | hp
        · skip
          replace G := G.icmpT 26 d31_21 (XT.ii_eq_t hp) (by decide) (by decide) |>.iincV 29 #[.val (.ref b1), .val (.ref b2), .val (.int (Int32.ofNat (i + 1)))] (Int32.ofNat (i + 1)) d31_26 rfl (ofn_succ i) rfl rfl |>.goto 9 d31_29 (by decide) (by decide)
          exact ih (i + 1) (by omega) (fun j hj' => (Nat.lt_succ_iff_lt_or_eq.mp hj').elim (hj j) (fun e => by rw [e, e1, e2, hp])) G
        · skip
          replace G := G.icmpF 24 d31_21 (XT.ii_eq_f hp) rfl |>.iconst 25 (0 : Int32) d31_24 rfl rfl
          exact G.retN hret (Or.inl rfl) hlk d31_25 [] all0 ⟨_, rfl, by rw [if_neg (fun e => hp (by rw [e, e2] at e1; exact (Value.int.inj e1).symm))] <;> rfl, rfl, rfl⟩ (nle rfl) (nle rfl)
    exact loop xs.length 0 (by omega) (fun j hj => absurd hj (Nat.not_lt_zero j)) G
  · skip
    replace G := G.icmpT 34 d31_4 (XT.ii_ne_t (ofn_ne hq hn1 hn2)) (by decide) (by decide) |>.iconst 35 (0 : Int32) d31_34 rfl rfl
    exact G.retN hret (Or.inl rfl) hlk d31_35 [] all0 ⟨_, rfl, by rw [if_neg (fun e => hq (by rw [e]))] <;> rfl, rfl, rfl⟩ (nle rfl) (nle rfl)
theorem d30_0 : decode jdk_42_method_66_code 0 = .ok (.aload_n 0, 1) := by decide +kernel
theorem d30_1 : decode jdk_42_method_66_code 1 = .ok (.aload_n 1, 1) := by decide +kernel
theorem d30_2 : decode jdk_42_method_66_code 2 = .ok (.if_acmp .ne 5, 3) := by decide +kernel
theorem d30_5 : decode jdk_42_method_66_code 5 = .ok (.iconst 1, 1) := by decide +kernel
theorem d30_6 : decode jdk_42_method_66_code 6 = .ok (.ireturn, 1) := by decide +kernel
theorem d30_7 : decode jdk_42_method_66_code 7 = .ok (.aload_n 1, 1) := by decide +kernel
theorem d30_8 : decode jdk_42_method_66_code 8 = .ok (.instanceof 10, 3) := by decide +kernel
theorem d30_11 : decode jdk_42_method_66_code 11 = .ok (.ifCond .eq 43, 3) := by decide +kernel
theorem d30_14 : decode jdk_42_method_66_code 14 = .ok (.aload_n 1, 1) := by decide +kernel
theorem d30_15 : decode jdk_42_method_66_code 15 = .ok (.checkcast 10, 3) := by decide +kernel
theorem d30_18 : decode jdk_42_method_66_code 18 = .ok (.astore_n 2, 1) := by decide +kernel
theorem d30_19 : decode jdk_42_method_66_code 19 = .ok (.getstatic 38, 3) := by decide +kernel
theorem d30_22 : decode jdk_42_method_66_code 22 = .ok (.ifCond .eq 14, 3) := by decide +kernel
theorem d30_25 : decode jdk_42_method_66_code 25 = .ok (.aload_n 0, 1) := by decide +kernel
theorem d30_26 : decode jdk_42_method_66_code 26 = .ok (.getfield 15, 3) := by decide +kernel
theorem d30_29 : decode jdk_42_method_66_code 29 = .ok (.aload_n 2, 1) := by decide +kernel
theorem d30_30 : decode jdk_42_method_66_code 30 = .ok (.getfield 15, 3) := by decide +kernel
theorem d30_33 : decode jdk_42_method_66_code 33 = .ok (.if_icmp .ne 21, 3) := by decide +kernel
theorem d30_36 : decode jdk_42_method_66_code 36 = .ok (.aload_n 0, 1) := by decide +kernel
theorem d30_37 : decode jdk_42_method_66_code 37 = .ok (.getfield 9, 3) := by decide +kernel
theorem d30_40 : decode jdk_42_method_66_code 40 = .ok (.aload_n 2, 1) := by decide +kernel
theorem d30_41 : decode jdk_42_method_66_code 41 = .ok (.getfield 9, 3) := by decide +kernel
theorem d30_44 : decode jdk_42_method_66_code 44 = .ok (.invokestatic 541, 3) := by decide +kernel
theorem d30_47 : decode jdk_42_method_66_code 47 = .ok (.ifCond .eq 7, 3) := by decide +kernel
theorem d30_50 : decode jdk_42_method_66_code 50 = .ok (.iconst 1, 1) := by decide +kernel
theorem d30_51 : decode jdk_42_method_66_code 51 = .ok (.goto 4, 3) := by decide +kernel
theorem d30_54 : decode jdk_42_method_66_code 54 = .ok (.iconst 0, 1) := by decide +kernel
theorem d30_55 : decode jdk_42_method_66_code 55 = .ok (.ireturn, 1) := by decide +kernel
theorem c_equK (l : Launch) (Z : State) (a0 : Array Value) (hw : ∀ d ∈ tables_1, d.before a0 Z = true) (hEW : EW Z a0 consts_1) (n0 : Nat) (c1 : Int32) (hc1 : ¬ c1 = 0) (S1 : Sta Z Z.heap "java/lang/String" "COMPACT_STRINGS" "Z" (.int c1)) (v2 : Value) (hv2 : v2.isRef = true) (S2 : Sta Z Z.heap "jdk/internal/util/Preconditions" "SIOOBE_FORMATTER" "Ljava/util/function/BiFunction;" v2) (S3 : Sta Z Z.heap "java/lang/StringUTF16" "$assertionsDisabled" "Z" (.int 1)) (S4 : Sta Z Z.heap "java/lang/StringUTF16" "HI_BYTE_SHIFT" "I" (.int 0)) (S5 : Sta Z Z.heap "java/lang/StringUTF16" "LO_BYTE_SHIFT" "I" (.int 8)) (a1 b1 a2 b2 : Addr) (xs ys : List Nat) {h0 : Heap} (o1 : Old Z n0 h0) (hne : a1 ≠ a2) (hn1 : xs.length < 1000) (hn2 : ys.length < 1000) (hx : ∀ c ∈ xs, c < 65536) (hy : ∀ c ∈ ys, c < 65536) (hS1 : StrK Z h0 a1 b1 (kd xs) xs) (hS2 : StrK Z h0 a2 b2 (kd ys) ys) :
    Con Z a0 l (⟨"java/lang/String", "equals", "(Ljava/lang/Object;)Z"⟩ : MethodName) jdk_42_method_66_code 3 (some .boolean) ({ frames := 1, cells := 0, slots := 0, locals := 14 } : Room) [] #[(.ref a1), (.ref a2)] consts_1 h0 n0 [] [] (VV fun w h so => w = .int (if xs = ys then 1 else 0) ∧ h = h0 ∧ so = []) := by
  refine Con.body (plainFor_of_name pn_java_lang_String) hEW o1 all0 #[.val (.ref a1), .val (.ref a2), .unset] (fun m => by first | (simp [entryFrame, mkF, argsToLocals, Value.category]; done) | rfl) ?_
  intro p e s m below meth c B hnm hret hlk G
  obtain ⟨X1, Fc1, Fv1, k1, A1⟩ := hS1
  obtain ⟨X2, Fc2, Fv2, k2, A2⟩ := hS2
  have l1 := encS_len (kd01 xs) xs; have l2 := encS_len (kd01 ys) ys; rw [← l1] at A1; rw [← l2] at A2
  have p1 : 2 ^ kd xs ≤ 2 := by rcases kd01 xs with e | e <;> rw [e] <;> decide
  have p2 : 2 ^ kd ys ≤ 2 := by rcases kd01 ys with e | e <;> rw [e] <;> decide
  have p3 := Nat.mul_le_mul_left xs.length p1; have p4 := Nat.mul_le_mul_left ys.length p2
  replace G := G.aloadN 1 d30_0 rfl rfl rfl |>.aloadN 2 d30_1 rfl rfl rfl |>.acmpT 7 d30_2 rfl rfl (decide_eq_true (fun q => hne (Value.ref.inj q))) (by decide) (by decide) |>.aloadN 8 d30_7 rfl rfl rfl |>.instY 11 (hw _ (mm 160 rfl)) (Ins.self X2) d30_8 rfl |>.ifF 14 d30_11 (XT.i0_eq_f (by decide)) rfl |>.aloadN 15 d30_14 rfl rfl rfl |>.ccast 18 (hw _ (mm 160 rfl)) (Ins.self X2) d30_15 rfl
  replace G := G.astoreN 19 #[.val (.ref a1), .val (.ref a2), .val (.ref a2)] d30_18 rfl rfl rfl |>.gets 22 (host := "") (Or.inl (hw _ (mm 81 rfl))) Via.refl (G.sta S1) d30_19 rfl |>.ifF 25 d30_22 (XT.i0_eq_f hc1) rfl |>.aloadN 26 d30_25 rfl rfl rfl |>.getf 29 (host := "") (Or.inl (hw _ (mm 36 rfl))) Via.refl Fc1 d30_26 rfl |>.aloadN 30 d30_29 rfl rfl rfl |>.getf 33 (host := "") (Or.inl (hw _ (mm 36 rfl))) Via.refl Fc2 d30_30 rfl
  rcases Decidable.em (kd xs = kd ys) with hq | hq
  · skip
    replace G := G.icmpF 36 d30_33 (XT.ii_ne_f (by rw [hq])) rfl |>.aloadN 37 d30_36 rfl rfl rfl |>.getf 40 (host := "") (Or.inl (hw _ (mm 35 rfl))) Via.refl Fv1 d30_37 rfl |>.aloadN 41 d30_40 rfl rfl rfl |>.getf 44 (host := "") (Or.inl (hw _ (mm 35 rfl))) Via.refl Fv2 d30_41 rfl
    obtain ⟨vq, h_q, soq, G', Kq, Qq⟩ := G.callS 47 (hw _ (mm 161 rfl)) (hw _ (mm 162 rfl)) (hw _ (mm 163 rfl)) (hw _ (mm 164 rfl)) (by decide) [(.ref b1), (.ref b2)] [] rfl (c_eqBK l Z a0 hw hEW n0 c1 hc1 S1 v2 hv2 S2 S3 S4 S5 b1 b2 k1 k2 (encS (kd xs) xs) (encS (kd ys) ys) G.old (by omega) (by omega) (encS_int (kd01 xs) xs) (encS_int (kd01 ys) ys) A1 A2) (lenOf pd___B_B_Z rfl) d30_44 rfl (nle rfl) (nle rfl) (nle rfl) (nle rfl) all0 all0 all0 rfl
    replace G := G'; clear G'
    obtain ⟨wq, qq, rfl, eqq, rfl⟩ := Qq
    replace G := G.val qq
    subst eqq
    rcases Decidable.em (xs = ys) with he | he
    · skip
      rw [if_pos (by rw [he])] at G
      replace G := G.ifF 50 d30_47 (XT.i0_eq_f (by decide)) rfl |>.iconst 51 (1 : Int32) d30_50 rfl rfl |>.goto 55 d30_51 (by decide) (by decide)
      exact G.retN hret (Or.inl rfl) hlk d30_55 [] all0 ⟨_, rfl, by rw [if_pos he] <;> rfl, rfl, rfl⟩ (nle rfl) (nle rfl)
    · skip
      rw [if_neg (fun q => he (encS_inj (kd01 ys) xs ys hx hy (fun e => kd0 (hq.trans e)) (fun e => kd0 e) (by rw [← hq]; rw [hq] at q ⊢; exact q)))] at G
      replace G := G.ifT 54 d30_47 (XT.i0_eq_t rfl) (by decide) (by decide) |>.iconst 55 (0 : Int32) d30_54 rfl rfl
      exact G.retN hret (Or.inl rfl) hlk d30_55 [] all0 ⟨_, rfl, by rw [if_neg he] <;> rfl, rfl, rfl⟩ (nle rfl) (nle rfl)
  · skip
    replace G := G.icmpT 54 d30_33 (XT.ii_ne_t (ofk_ne (kd01 xs) (kd01 ys) hq)) (by decide) (by decide) |>.iconst 55 (0 : Int32) d30_54 rfl rfl
    exact G.retN hret (Or.inl rfl) hlk d30_55 [] all0 ⟨_, rfl, by rw [if_neg (fun e => hq (by rw [e]))] <;> rfl, rfl, rfl⟩ (nle rfl) (nle rfl)
theorem d1_0 : decode method_3_code 0 = .ok (.lload_n 0, 1) := by decide +kernel
theorem d1_1 : decode method_3_code 1 = .ok (.bipush 32, 2) := by decide +kernel
theorem d1_3 : decode method_3_code 3 = .ok (.lushr, 1) := by decide +kernel
theorem d1_4 : decode method_3_code 4 = .ok (.ldc2_w 12, 3) := by decide +kernel
theorem d1_7 : decode method_3_code 7 = .ok (.land, 1) := by decide +kernel
theorem d1_8 : decode method_3_code 8 = .ok (.ldc2_w 12, 3) := by decide +kernel
theorem d1_11 : decode method_3_code 11 = .ok (.lrem, 1) := by decide +kernel
theorem d1_12 : decode method_3_code 12 = .ok (.l2i, 1) := by decide +kernel
theorem d1_13 : decode method_3_code 13 = .ok (.ireturn, 1) := by decide +kernel
theorem c_lenOf (l : Launch) (Z : State) (a0 : Array Value) (hw : ∀ d ∈ tables_1, d.before a0 Z = true) (hEW : EW Z a0 consts_1) (n0 : Nat) (c1 : Int32) (hc1 : ¬ c1 = 0) (S1 : Sta Z Z.heap "java/lang/String" "COMPACT_STRINGS" "Z" (.int c1)) (v2 : Value) (hv2 : v2.isRef = true) (S2 : Sta Z Z.heap "jdk/internal/util/Preconditions" "SIOOBE_FORMATTER" "Ljava/util/function/BiFunction;" v2) (S3 : Sta Z Z.heap "java/lang/StringUTF16" "$assertionsDisabled" "Z" (.int 1)) (S4 : Sta Z Z.heap "java/lang/StringUTF16" "HI_BYTE_SHIFT" "I" (.int 0)) (S5 : Sta Z Z.heap "java/lang/StringUTF16" "LO_BYTE_SHIFT" "I" (.int 8)) (p' : Int64) {h0 : Heap} (o1 : Old Z n0 h0)  :
    Con Z a0 l (⟨"com/example/synclane/synclane/command/LineExpectPinLaw", "lenOf", "(J)I"⟩ : MethodName) method_3_code 2 (some .int) ({ frames := 0, cells := 0, slots := 0, locals := 0 } : Room) [] #[(.long p')] consts_1 h0 n0 [] [] (VV fun w h so => ∃ n, n ≤ 2 ∧ w = .int (Int32.ofNat n) ∧ h = h0 ∧ so = []) := by
  refine Con.body (plainFor_of_name pn_com_example_synclane_synclane_command_LineExpectPinLaw) hEW o1 all0 #[.val (.long p'), .second] (fun m => by first | (simp [entryFrame, mkF, argsToLocals, Value.category]; done) | rfl) ?_
  intro p e s m below meth c B hnm hret hlk G
  replace G := G.lloadN 1 d1_0 rfl rfl |>.bipush 3 (32 : Int32) d1_1 (by decide) rfl |>.lushr 4 d1_3 rfl |>.ldc2J 7 (hw _ (mm 4 rfl)) d1_4 rfl |>.land 8 d1_7 rfl |>.ldc2J 11 (hw _ (mm 4 rfl)) d1_8 rfl |>.lrem 12 d1_11 (by decide) rfl
  obtain ⟨n, hn, en⟩ := m3L (XT.ushrL p' 32)
  replace G := G.l2i 13 d1_12 rfl |>.top (y := (.int (Int32.ofNat n))) (congrArg Value.int en)
  exact G.retI hret hlk d1_13 [] all0 ⟨_, rfl, n, hn, rfl, rfl, rfl⟩ (nle rfl) (nle rfl)
theorem d2_0 : decode method_4_code 0 = .ok (.lload_n 0, 1) := by decide +kernel
theorem d2_1 : decode method_4_code 1 = .ok (.ldc2_w 14, 3) := by decide +kernel
theorem d2_4 : decode method_4_code 4 = .ok (.land, 1) := by decide +kernel
theorem d2_5 : decode method_4_code 5 = .ok (.l2i, 1) := by decide +kernel
theorem d2_6 : decode method_4_code 6 = .ok (.i2c, 1) := by decide +kernel
theorem d2_7 : decode method_4_code 7 = .ok (.ireturn, 1) := by decide +kernel
theorem c_c0 (l : Launch) (Z : State) (a0 : Array Value) (hw : ∀ d ∈ tables_1, d.before a0 Z = true) (hEW : EW Z a0 consts_1) (n0 : Nat) (c1 : Int32) (hc1 : ¬ c1 = 0) (S1 : Sta Z Z.heap "java/lang/String" "COMPACT_STRINGS" "Z" (.int c1)) (v2 : Value) (hv2 : v2.isRef = true) (S2 : Sta Z Z.heap "jdk/internal/util/Preconditions" "SIOOBE_FORMATTER" "Ljava/util/function/BiFunction;" v2) (S3 : Sta Z Z.heap "java/lang/StringUTF16" "$assertionsDisabled" "Z" (.int 1)) (S4 : Sta Z Z.heap "java/lang/StringUTF16" "HI_BYTE_SHIFT" "I" (.int 0)) (S5 : Sta Z Z.heap "java/lang/StringUTF16" "LO_BYTE_SHIFT" "I" (.int 8)) (p' : Int64) {h0 : Heap} (o1 : Old Z n0 h0)  :
    Con Z a0 l (⟨"com/example/synclane/synclane/command/LineExpectPinLaw", "c0", "(J)C"⟩ : MethodName) method_4_code 2 (some .char) ({ frames := 0, cells := 0, slots := 0, locals := 0 } : Room) [] #[(.long p')] consts_1 h0 n0 [] [] (VV fun w h so => ∃ x, x < 65536 ∧ w = .int (Int32.ofNat x) ∧ h = h0 ∧ so = []) := by
  refine Con.body (plainFor_of_name pn_com_example_synclane_synclane_command_LineExpectPinLaw) hEW o1 all0 #[.val (.long p'), .second] (fun m => by first | (simp [entryFrame, mkF, argsToLocals, Value.category]; done) | rfl) ?_
  intro p e s m below meth c B hnm hret hlk G
  replace G := G.lloadN 1 d2_0 rfl rfl |>.ldc2J 4 (hw _ (mm 8 rfl)) d2_1 rfl |>.land 5 d2_4 rfl |>.l2i 6 d2_5 rfl
  obtain ⟨x, hx, ex⟩ := m16L p'
  replace G := G.i2c 7 d2_6 rfl |>.top (y := (.int (Int32.ofNat x))) (congrArg Value.int ex)
  exact G.retN hret (Or.inr (Or.inr (Or.inl rfl))) hlk d2_7 [] all0 ⟨_, rfl, x, hx, congrArg Value.int (i2c_w hx), rfl, rfl⟩ (nle rfl) (nle rfl)
theorem d3_0 : decode method_5_code 0 = .ok (.lload_n 0, 1) := by decide +kernel
theorem d3_1 : decode method_5_code 1 = .ok (.bipush 16, 2) := by decide +kernel
theorem d3_3 : decode method_5_code 3 = .ok (.lushr, 1) := by decide +kernel
theorem d3_4 : decode method_5_code 4 = .ok (.ldc2_w 14, 3) := by decide +kernel
theorem d3_7 : decode method_5_code 7 = .ok (.land, 1) := by decide +kernel
theorem d3_8 : decode method_5_code 8 = .ok (.l2i, 1) := by decide +kernel
theorem d3_9 : decode method_5_code 9 = .ok (.i2c, 1) := by decide +kernel
theorem d3_10 : decode method_5_code 10 = .ok (.ireturn, 1) := by decide +kernel
theorem c_c1 (l : Launch) (Z : State) (a0 : Array Value) (hw : ∀ d ∈ tables_1, d.before a0 Z = true) (hEW : EW Z a0 consts_1) (n0 : Nat) (c1 : Int32) (hc1 : ¬ c1 = 0) (S1 : Sta Z Z.heap "java/lang/String" "COMPACT_STRINGS" "Z" (.int c1)) (v2 : Value) (hv2 : v2.isRef = true) (S2 : Sta Z Z.heap "jdk/internal/util/Preconditions" "SIOOBE_FORMATTER" "Ljava/util/function/BiFunction;" v2) (S3 : Sta Z Z.heap "java/lang/StringUTF16" "$assertionsDisabled" "Z" (.int 1)) (S4 : Sta Z Z.heap "java/lang/StringUTF16" "HI_BYTE_SHIFT" "I" (.int 0)) (S5 : Sta Z Z.heap "java/lang/StringUTF16" "LO_BYTE_SHIFT" "I" (.int 8)) (p' : Int64) {h0 : Heap} (o1 : Old Z n0 h0)  :
    Con Z a0 l (⟨"com/example/synclane/synclane/command/LineExpectPinLaw", "c1", "(J)C"⟩ : MethodName) method_5_code 2 (some .char) ({ frames := 0, cells := 0, slots := 0, locals := 0 } : Room) [] #[(.long p')] consts_1 h0 n0 [] [] (VV fun w h so => ∃ x, x < 65536 ∧ w = .int (Int32.ofNat x) ∧ h = h0 ∧ so = []) := by
  refine Con.body (plainFor_of_name pn_com_example_synclane_synclane_command_LineExpectPinLaw) hEW o1 all0 #[.val (.long p'), .second] (fun m => by first | (simp [entryFrame, mkF, argsToLocals, Value.category]; done) | rfl) ?_
  intro p e s m below meth c B hnm hret hlk G
  replace G := G.lloadN 1 d3_0 rfl rfl |>.bipush 3 (16 : Int32) d3_1 (by decide) rfl |>.lushr 4 d3_3 rfl |>.ldc2J 7 (hw _ (mm 8 rfl)) d3_4 rfl |>.land 8 d3_7 rfl |>.l2i 9 d3_8 rfl
  obtain ⟨x, hx, ex⟩ := m16L (XT.ushrL p' 16)
  replace G := G.i2c 10 d3_9 rfl |>.top (y := (.int (Int32.ofNat x))) (congrArg Value.int ex)
  exact G.retN hret (Or.inr (Or.inr (Or.inl rfl))) hlk d3_10 [] all0 ⟨_, rfl, x, hx, congrArg Value.int (i2c_w hx), rfl, rfl⟩ (nle rfl) (nle rfl)
theorem d4_0 : decode method_2_code 0 = .ok (.iload_n 0, 1) := by decide +kernel
theorem d4_1 : decode method_2_code 1 = .ok (.ifCond .ne 14, 3) := by decide +kernel
theorem d4_4 : decode method_2_code 4 = .ok (.new 7, 3) := by decide +kernel
theorem d4_7 : decode method_2_code 7 = .ok (.dup, 1) := by decide +kernel
theorem d4_8 : decode method_2_code 8 = .ok (.iconst 0, 1) := by decide +kernel
theorem d4_9 : decode method_2_code 9 = .ok (.newarray .char, 2) := by decide +kernel
theorem d4_11 : decode method_2_code 11 = .ok (.invokespecial 9, 3) := by decide +kernel
theorem d4_14 : decode method_2_code 14 = .ok (.areturn, 1) := by decide +kernel
theorem d4_15 : decode method_2_code 15 = .ok (.iload_n 0, 1) := by decide +kernel
theorem d4_16 : decode method_2_code 16 = .ok (.iconst 1, 1) := by decide +kernel
theorem d4_17 : decode method_2_code 17 = .ok (.if_icmp .ne 18, 3) := by decide +kernel
theorem d4_20 : decode method_2_code 20 = .ok (.new 7, 3) := by decide +kernel
theorem d4_23 : decode method_2_code 23 = .ok (.dup, 1) := by decide +kernel
theorem d4_24 : decode method_2_code 24 = .ok (.iconst 1, 1) := by decide +kernel
theorem d4_25 : decode method_2_code 25 = .ok (.newarray .char, 2) := by decide +kernel
theorem d4_27 : decode method_2_code 27 = .ok (.dup, 1) := by decide +kernel
theorem d4_28 : decode method_2_code 28 = .ok (.iconst 0, 1) := by decide +kernel
theorem d4_29 : decode method_2_code 29 = .ok (.iload_n 1, 1) := by decide +kernel
theorem d4_30 : decode method_2_code 30 = .ok (.castore, 1) := by decide +kernel
theorem d4_31 : decode method_2_code 31 = .ok (.invokespecial 9, 3) := by decide +kernel
theorem d4_34 : decode method_2_code 34 = .ok (.areturn, 1) := by decide +kernel
theorem d4_35 : decode method_2_code 35 = .ok (.new 7, 3) := by decide +kernel
theorem d4_38 : decode method_2_code 38 = .ok (.dup, 1) := by decide +kernel
theorem d4_39 : decode method_2_code 39 = .ok (.iconst 2, 1) := by decide +kernel
theorem d4_40 : decode method_2_code 40 = .ok (.newarray .char, 2) := by decide +kernel
theorem d4_42 : decode method_2_code 42 = .ok (.dup, 1) := by decide +kernel
theorem d4_43 : decode method_2_code 43 = .ok (.iconst 0, 1) := by decide +kernel
theorem d4_44 : decode method_2_code 44 = .ok (.iload_n 1, 1) := by decide +kernel
theorem d4_45 : decode method_2_code 45 = .ok (.castore, 1) := by decide +kernel
theorem d4_46 : decode method_2_code 46 = .ok (.dup, 1) := by decide +kernel
theorem d4_47 : decode method_2_code 47 = .ok (.iconst 1, 1) := by decide +kernel
theorem d4_48 : decode method_2_code 48 = .ok (.iload_n 2, 1) := by decide +kernel
theorem d4_49 : decode method_2_code 49 = .ok (.castore, 1) := by decide +kernel
theorem d4_50 : decode method_2_code 50 = .ok (.invokespecial 9, 3) := by decide +kernel
theorem d4_53 : decode method_2_code 53 = .ok (.areturn, 1) := by decide +kernel
theorem c_mk0 (l : Launch) (Z : State) (a0 : Array Value) (hw : ∀ d ∈ tables_1, d.before a0 Z = true) (hEW : EW Z a0 consts_1) (n0 : Nat) (c1 : Int32) (hc1 : ¬ c1 = 0) (S1 : Sta Z Z.heap "java/lang/String" "COMPACT_STRINGS" "Z" (.int c1)) (v2 : Value) (hv2 : v2.isRef = true) (S2 : Sta Z Z.heap "jdk/internal/util/Preconditions" "SIOOBE_FORMATTER" "Ljava/util/function/BiFunction;" v2) (S3 : Sta Z Z.heap "java/lang/StringUTF16" "$assertionsDisabled" "Z" (.int 1)) (S4 : Sta Z Z.heap "java/lang/StringUTF16" "HI_BYTE_SHIFT" "I" (.int 0)) (S5 : Sta Z Z.heap "java/lang/StringUTF16" "LO_BYTE_SHIFT" "I" (.int 8)) (x y : Nat) {h0 : Heap} (o1 : Old Z n0 h0) (hx : x < 65536) (hy : y < 65536) :
    Con Z a0 l (⟨"com/example/synclane/synclane/command/LineExpectPinLaw", "mk", "(ICC)Ljava/lang/String;"⟩ : MethodName) method_2_code 3 (some (.object "java/lang/String")) ({ frames := 6, cells := 6, slots := 46, locals := 88 } : Room) [] #[(.int (Int32.ofNat 0)), (.int (Int32.ofNat x)), (.int (Int32.ofNat y))] consts_1 h0 n0 [] [] (VV fun w h so => ∃ a b, w = .ref a ∧ StrK Z h a b (kd (mkL 0 x y)) (mkL 0 x y) ∧ h0.size ≤ a ∧ so = [a]) := by
  refine Con.body (plainFor_of_name pn_com_example_synclane_synclane_command_LineExpectPinLaw) hEW o1 all0 #[.val (.int (Int32.ofNat 0)), .val (.int (Int32.ofNat x)), .val (.int (Int32.ofNat y))] (fun m => by first | (simp [entryFrame, mkF, argsToLocals, Value.category]; done) | rfl) ?_
  intro p e s m below meth c B hnm hret hlk G
  replace G := G.iloadN 1 d4_0 rfl rfl |>.ifF 4 d4_1 (XT.i0_ne_f rfl) rfl
  obtain ⟨sa, g1, G', gsa, ssa, Esa, Xsa, Dsa, Usa⟩ := G.new 7 (hw _ (mm 15 rfl)) (hw _ (mm 16 rfl)) (hw _ (mm 17 rfl)) d4_4 rfl (nle rfl) (nle rfl)
  replace G := G'; clear G'
  have Fv := Dsa (Or.inr (hw _ (mm 31 rfl))) (ty := .array .byte) (by decide); have Fc := Dsa (Or.inr (hw _ (mm 32 rfl))) (ty := .byte) (by decide)
  replace G := G.dup 8 d4_7 rfl rfl |>.iconst 9 (0 : Int32) d4_8 rfl rfl
  obtain ⟨ca, g2, kca, G', gca, sca, Eca, Aca⟩ := G.newarray 11 (hw _ (mm 18 rfl)) d4_9 (by decide) 2 (nle rfl) (by decide) rfl (nle rfl) (nle rfl)
  replace G := G'; clear G'
  have nsc : sa ≠ ca := ne_new gca Xsa.lt; replace Xsa := Xsa.ext Eca; replace Fv := Fv.ext Eca; replace Fc := Fc.ext Eca
  have hA : Arv Z g2 ca kca .char (0 : Int32) [] (.int 0) := Aca
  obtain ⟨vc, g9, soc, G', Kc, Qc⟩ := G.callI 14 rfl rfl (hw _ (mm 19 rfl)) (hw _ (mm 20 rfl)) (hw _ (mm 17 rfl)) (hw _ (mm 21 rfl)) (by decide) [(.ref ca)] [(.ref sa)] rfl (c_strK l Z a0 hw hEW n0 c1 hc1 S1 v2 hv2 S2 S3 S4 S5 sa ca kca (mkL 0 x y) G.old (G.nw (Or.inr ssa)) Xsa Fv Fc (by rw [mkL_len (by decide)]; decide) (mkL_b hx hy) hA) (lenOf pd___C_V rfl) d4_11 rfl (nle rfl) (nle rfl) (nle rfl) (nle rfl) (allS (Or.inr ssa) all0) (allS (mm 1 rfl) all0) (allS (mm 1 rfl) all0) rfl
  replace G := G'; clear G'
  obtain ⟨qc, sb, hT, -, rfl⟩ := Qc
  replace G := G.nov qc
  exact G.retA hret rfl rfl hlk d4_14 [sa] (allS (mm 1 rfl) all0) ⟨_, rfl, sa, sb, rfl, hT, ssa, rfl⟩ (nle rfl) (nle rfl)
theorem c_mk1 (l : Launch) (Z : State) (a0 : Array Value) (hw : ∀ d ∈ tables_1, d.before a0 Z = true) (hEW : EW Z a0 consts_1) (n0 : Nat) (c1 : Int32) (hc1 : ¬ c1 = 0) (S1 : Sta Z Z.heap "java/lang/String" "COMPACT_STRINGS" "Z" (.int c1)) (v2 : Value) (hv2 : v2.isRef = true) (S2 : Sta Z Z.heap "jdk/internal/util/Preconditions" "SIOOBE_FORMATTER" "Ljava/util/function/BiFunction;" v2) (S3 : Sta Z Z.heap "java/lang/StringUTF16" "$assertionsDisabled" "Z" (.int 1)) (S4 : Sta Z Z.heap "java/lang/StringUTF16" "HI_BYTE_SHIFT" "I" (.int 0)) (S5 : Sta Z Z.heap "java/lang/StringUTF16" "LO_BYTE_SHIFT" "I" (.int 8)) (x y : Nat) {h0 : Heap} (o1 : Old Z n0 h0) (hx : x < 65536) (hy : y < 65536) :
    Con Z a0 l (⟨"com/example/synclane/synclane/command/LineExpectPinLaw", "mk", "(ICC)Ljava/lang/String;"⟩ : MethodName) method_2_code 3 (some (.object "java/lang/String")) ({ frames := 6, cells := 6, slots := 46, locals := 88 } : Room) [] #[(.int (Int32.ofNat 1)), (.int (Int32.ofNat x)), (.int (Int32.ofNat y))] consts_1 h0 n0 [] [] (VV fun w h so => ∃ a b, w = .ref a ∧ StrK Z h a b (kd (mkL 1 x y)) (mkL 1 x y) ∧ h0.size ≤ a ∧ so = [a]) := by
  refine Con.body (plainFor_of_name pn_com_example_synclane_synclane_command_LineExpectPinLaw) hEW o1 all0 #[.val (.int (Int32.ofNat 1)), .val (.int (Int32.ofNat x)), .val (.int (Int32.ofNat y))] (fun m => by first | (simp [entryFrame, mkF, argsToLocals, Value.category]; done) | rfl) ?_
  intro p e s m below meth c B hnm hret hlk G
  replace G := G.iloadN 1 d4_0 rfl rfl |>.ifT 15 d4_1 (XT.i0_ne_t (by decide)) (by decide) (by decide) |>.iloadN 16 d4_15 rfl rfl |>.iconst 17 (1 : Int32) d4_16 rfl rfl |>.icmpF 20 d4_17 (XT.ii_ne_f rfl) rfl
  obtain ⟨sa, g1, G', gsa, ssa, Esa, Xsa, Dsa, Usa⟩ := G.new 23 (hw _ (mm 15 rfl)) (hw _ (mm 16 rfl)) (hw _ (mm 17 rfl)) d4_20 rfl (nle rfl) (nle rfl)
  replace G := G'; clear G'
  have Fv := Dsa (Or.inr (hw _ (mm 31 rfl))) (ty := .array .byte) (by decide); have Fc := Dsa (Or.inr (hw _ (mm 32 rfl))) (ty := .byte) (by decide)
  replace G := G.dup 24 d4_23 rfl rfl |>.iconst 25 (1 : Int32) d4_24 rfl rfl
  obtain ⟨ca, g2, kca, G', gca, sca, Eca, Aca⟩ := G.newarray 27 (hw _ (mm 18 rfl)) d4_25 (by decide) 2 (nle rfl) (by decide) rfl (nle rfl) (nle rfl)
  replace G := G'; clear G'
  have nsc : sa ≠ ca := ne_new gca Xsa.lt; replace Xsa := Xsa.ext Eca; replace Fv := Fv.ext Eca; replace Fc := Fc.ext Eca
  have hA : Arv Z g2 ca kca .char (1 : Int32) [(.int 0)] (.int 0) := Aca.pad (pad_rep [] (.int 0) 1)
  replace G := G.dup 28 d4_27 rfl rfl |>.iconst 29 (0 : Int32) d4_28 rfl rfl |>.iloadN 30 d4_29 rfl rfl
  obtain ⟨g3, G', As, Ks⟩ := G.castore 31 0 hA (by decide) rfl (nle rfl) (Or.inr sca) (mm 0 rfl) d4_30 rfl
  replace G := G'; clear G'
  replace hA : Arv Z g3 ca kca .char 1 [(.int (Int32.ofNat x))] (.int 0) := by have h := As; rw [show nar FieldType.char (Int32.ofNat x) = Int32.ofNat x from i2c_w hx] at h; exact h
  replace Xsa := Xsa.keep Ks; replace Fv := Fv.keep Ks (ninS nsc nin0); replace Fc := Fc.keep Ks (ninS nsc nin0)
  obtain ⟨vc, g9, soc, G', Kc, Qc⟩ := G.callI 34 rfl rfl (hw _ (mm 19 rfl)) (hw _ (mm 20 rfl)) (hw _ (mm 17 rfl)) (hw _ (mm 21 rfl)) (by decide) [(.ref ca)] [(.ref sa)] rfl (c_strK l Z a0 hw hEW n0 c1 hc1 S1 v2 hv2 S2 S3 S4 S5 sa ca kca (mkL 1 x y) G.old (G.nw (Or.inr ssa)) Xsa Fv Fc (by rw [mkL_len (by decide)]; decide) (mkL_b hx hy) hA) (lenOf pd___C_V rfl) d4_31 rfl (nle rfl) (nle rfl) (nle rfl) (nle rfl) (allS (Or.inr ssa) all0) (allS (mm 1 rfl) all0) (allS (mm 1 rfl) all0) rfl
  replace G := G'; clear G'
  obtain ⟨qc, sb, hT, -, rfl⟩ := Qc
  replace G := G.nov qc
  exact G.retA hret rfl rfl hlk d4_34 [sa] (allS (mm 1 rfl) all0) ⟨_, rfl, sa, sb, rfl, hT, ssa, rfl⟩ (nle rfl) (nle rfl)
theorem c_mk2 (l : Launch) (Z : State) (a0 : Array Value) (hw : ∀ d ∈ tables_1, d.before a0 Z = true) (hEW : EW Z a0 consts_1) (n0 : Nat) (c1 : Int32) (hc1 : ¬ c1 = 0) (S1 : Sta Z Z.heap "java/lang/String" "COMPACT_STRINGS" "Z" (.int c1)) (v2 : Value) (hv2 : v2.isRef = true) (S2 : Sta Z Z.heap "jdk/internal/util/Preconditions" "SIOOBE_FORMATTER" "Ljava/util/function/BiFunction;" v2) (S3 : Sta Z Z.heap "java/lang/StringUTF16" "$assertionsDisabled" "Z" (.int 1)) (S4 : Sta Z Z.heap "java/lang/StringUTF16" "HI_BYTE_SHIFT" "I" (.int 0)) (S5 : Sta Z Z.heap "java/lang/StringUTF16" "LO_BYTE_SHIFT" "I" (.int 8)) (x y : Nat) {h0 : Heap} (o1 : Old Z n0 h0) (hx : x < 65536) (hy : y < 65536) :
    Con Z a0 l (⟨"com/example/synclane/synclane/command/LineExpectPinLaw", "mk", "(ICC)Ljava/lang/String;"⟩ : MethodName) method_2_code 3 (some (.object "java/lang/String")) ({ frames := 6, cells := 6, slots := 46, locals := 88 } : Room) [] #[(.int (Int32.ofNat 2)), (.int (Int32.ofNat x)), (.int (Int32.ofNat y))] consts_1 h0 n0 [] [] (VV fun w h so => ∃ a b, w = .ref a ∧ StrK Z h a b (kd (mkL 2 x y)) (mkL 2 x y) ∧ h0.size ≤ a ∧ so = [a]) := by
  refine Con.body (plainFor_of_name pn_com_example_synclane_synclane_command_LineExpectPinLaw) hEW o1 all0 #[.val (.int (Int32.ofNat 2)), .val (.int (Int32.ofNat x)), .val (.int (Int32.ofNat y))] (fun m => by first | (simp [entryFrame, mkF, argsToLocals, Value.category]; done) | rfl) ?_
  intro p e s m below meth c B hnm hret hlk G
  replace G := G.iloadN 1 d4_0 rfl rfl |>.ifT 15 d4_1 (XT.i0_ne_t (by decide)) (by decide) (by decide) |>.iloadN 16 d4_15 rfl rfl |>.iconst 17 (1 : Int32) d4_16 rfl rfl |>.icmpT 35 d4_17 (XT.ii_ne_t (by decide)) (by decide) (by decide)
  obtain ⟨sa, g1, G', gsa, ssa, Esa, Xsa, Dsa, Usa⟩ := G.new 38 (hw _ (mm 15 rfl)) (hw _ (mm 16 rfl)) (hw _ (mm 17 rfl)) d4_35 rfl (nle rfl) (nle rfl)
  replace G := G'; clear G'
  have Fv := Dsa (Or.inr (hw _ (mm 31 rfl))) (ty := .array .byte) (by decide); have Fc := Dsa (Or.inr (hw _ (mm 32 rfl))) (ty := .byte) (by decide)
  replace G := G.dup 39 d4_38 rfl rfl |>.iconst 40 (2 : Int32) d4_39 rfl rfl
  obtain ⟨ca, g2, kca, G', gca, sca, Eca, Aca⟩ := G.newarray 42 (hw _ (mm 18 rfl)) d4_40 (by decide) 2 (nle rfl) (by decide) rfl (nle rfl) (nle rfl)
  replace G := G'; clear G'
  have nsc : sa ≠ ca := ne_new gca Xsa.lt; replace Xsa := Xsa.ext Eca; replace Fv := Fv.ext Eca; replace Fc := Fc.ext Eca
  have hA : Arv Z g2 ca kca .char (2 : Int32) [(.int 0), (.int 0)] (.int 0) := Aca.pad (pad_rep [] (.int 0) 2)
  replace G := G.dup 43 d4_42 rfl rfl |>.iconst 44 (0 : Int32) d4_43 rfl rfl |>.iloadN 45 d4_44 rfl rfl
  obtain ⟨g3, G', As, Ks⟩ := G.castore 46 0 hA (by decide) rfl (nle rfl) (Or.inr sca) (mm 0 rfl) d4_45 rfl
  replace G := G'; clear G'
  replace hA : Arv Z g3 ca kca .char 2 [(.int (Int32.ofNat x)), (.int 0)] (.int 0) := by have h := As; rw [show nar FieldType.char (Int32.ofNat x) = Int32.ofNat x from i2c_w hx] at h; exact h
  replace Xsa := Xsa.keep Ks; replace Fv := Fv.keep Ks (ninS nsc nin0); replace Fc := Fc.keep Ks (ninS nsc nin0)
  replace G := G.dup 47 d4_46 rfl rfl |>.iconst 48 (1 : Int32) d4_47 rfl rfl |>.iloadN 49 d4_48 rfl rfl
  obtain ⟨g4, G', As, Ks⟩ := G.castore 50 1 hA (by decide) rfl (nle rfl) (Or.inr sca) (mm 0 rfl) d4_49 rfl
  replace G := G'; clear G'
  replace hA : Arv Z g4 ca kca .char 2 [(.int (Int32.ofNat x)), (.int (Int32.ofNat y))] (.int 0) := by have h := As; rw [show nar FieldType.char (Int32.ofNat y) = Int32.ofNat y from i2c_w hy] at h; exact h
  replace Xsa := Xsa.keep Ks; replace Fv := Fv.keep Ks (ninS nsc nin0); replace Fc := Fc.keep Ks (ninS nsc nin0)
  obtain ⟨vc, g9, soc, G', Kc, Qc⟩ := G.callI 53 rfl rfl (hw _ (mm 19 rfl)) (hw _ (mm 20 rfl)) (hw _ (mm 17 rfl)) (hw _ (mm 21 rfl)) (by decide) [(.ref ca)] [(.ref sa)] rfl (c_strK l Z a0 hw hEW n0 c1 hc1 S1 v2 hv2 S2 S3 S4 S5 sa ca kca (mkL 2 x y) G.old (G.nw (Or.inr ssa)) Xsa Fv Fc (by rw [mkL_len (by decide)]; decide) (mkL_b hx hy) hA) (lenOf pd___C_V rfl) d4_50 rfl (nle rfl) (nle rfl) (nle rfl) (nle rfl) (allS (Or.inr ssa) all0) (allS (mm 1 rfl) all0) (allS (mm 1 rfl) all0) rfl
  replace G := G'; clear G'
  obtain ⟨qc, sb, hT, -, rfl⟩ := Qc
  replace G := G.nov qc
  exact G.retA hret rfl rfl hlk d4_53 [sa] (allS (mm 1 rfl) all0) ⟨_, rfl, sa, sb, rfl, hT, ssa, rfl⟩ (nle rfl) (nle rfl)
theorem c_mk (l : Launch) (Z : State) (a0 : Array Value) (hw : ∀ d ∈ tables_1, d.before a0 Z = true) (hEW : EW Z a0 consts_1) (n0 : Nat) (c1 : Int32) (hc1 : ¬ c1 = 0) (S1 : Sta Z Z.heap "java/lang/String" "COMPACT_STRINGS" "Z" (.int c1)) (v2 : Value) (hv2 : v2.isRef = true) (S2 : Sta Z Z.heap "jdk/internal/util/Preconditions" "SIOOBE_FORMATTER" "Ljava/util/function/BiFunction;" v2) (S3 : Sta Z Z.heap "java/lang/StringUTF16" "$assertionsDisabled" "Z" (.int 1)) (S4 : Sta Z Z.heap "java/lang/StringUTF16" "HI_BYTE_SHIFT" "I" (.int 0)) (S5 : Sta Z Z.heap "java/lang/StringUTF16" "LO_BYTE_SHIFT" "I" (.int 8)) (n x y : Nat) {h0 : Heap} (o1 : Old Z n0 h0) (hn : n ≤ 2) (hx : x < 65536) (hy : y < 65536) :
    Con Z a0 l (⟨"com/example/synclane/synclane/command/LineExpectPinLaw", "mk", "(ICC)Ljava/lang/String;"⟩ : MethodName) method_2_code 3 (some (.object "java/lang/String")) ({ frames := 6, cells := 6, slots := 46, locals := 88 } : Room) [] #[(.int (Int32.ofNat n)), (.int (Int32.ofNat x)), (.int (Int32.ofNat y))] consts_1 h0 n0 [] [] (VV fun w h so => ∃ a b, w = .ref a ∧ StrK Z h a b (kd (mkL n x y)) (mkL n x y) ∧ h0.size ≤ a ∧ so = [a]) := by
  rcases (show n = 0 ∨ n = 1 ∨ n = 2 by omega) with rfl | rfl | rfl
  · exact c_mk0 l Z a0 hw hEW n0 c1 hc1 S1 v2 hv2 S2 S3 S4 S5 x y o1 hx hy
  · exact c_mk1 l Z a0 hw hEW n0 c1 hc1 S1 v2 hv2 S2 S3 S4 S5 x y o1 hx hy
  · exact c_mk2 l Z a0 hw hEW n0 c1 hc1 S1 v2 hv2 S2 S3 S4 S5 x y o1 hx hy
theorem d33_0 : decode jdk_30_method_1_code 0 = .ok (.aload_n 0, 1) := by decide +kernel
theorem d33_1 : decode jdk_30_method_1_code 1 = .ok (.invokespecial 1, 3) := by decide +kernel
theorem d33_4 : decode jdk_30_method_1_code 4 = .ok (.return_, 1) := by decide +kernel
theorem c_recI (l : Launch) (Z : State) (a0 : Array Value) (hw : ∀ d ∈ tables_1, d.before a0 Z = true) (hEW : EW Z a0 consts_1) (n0 : Nat) (c1 : Int32) (hc1 : ¬ c1 = 0) (S1 : Sta Z Z.heap "java/lang/String" "COMPACT_STRINGS" "Z" (.int c1)) (v2 : Value) (hv2 : v2.isRef = true) (S2 : Sta Z Z.heap "jdk/internal/util/Preconditions" "SIOOBE_FORMATTER" "Ljava/util/function/BiFunction;" v2) (S3 : Sta Z Z.heap "java/lang/StringUTF16" "$assertionsDisabled" "Z" (.int 1)) (S4 : Sta Z Z.heap "java/lang/StringUTF16" "HI_BYTE_SHIFT" "I" (.int 0)) (S5 : Sta Z Z.heap "java/lang/StringUTF16" "LO_BYTE_SHIFT" "I" (.int 8)) (a : Addr) {h0 : Heap} (o1 : Old Z n0 h0)  :
    Con Z a0 l (⟨"java/lang/Record", "<init>", "()V"⟩ : MethodName) jdk_30_method_1_code 1 (none) ({ frames := 1, cells := 0, slots := 0, locals := 12 } : Room) [] #[(.ref a)] consts_1 h0 n0 [] [] (V0 fun h so => h = h0 ∧ so = []) := by
  refine Con.body (plainFor_of_name pn_java_lang_Record) hEW o1 all0 #[.val (.ref a)] (fun m => by first | (simp [entryFrame, mkF, argsToLocals, Value.category]; done) | rfl) ?_
  intro p e s m below meth c B hnm hret hlk G
  replace G := G.aloadN 1 d33_0 rfl rfl rfl |>.initO 4 (hw _ (mm 173 rfl)) (hw _ (mm 27 rfl)) (hw _ (mm 28 rfl)) d33_1 rfl (nle rfl) (nle rfl) rfl
  exact G.retV hret hlk d33_4 [] all0 ⟨rfl, rfl, rfl⟩ (nle rfl) (nle rfl)
theorem d32_0 : decode prog_28_method_1_code 0 = .ok (.aload_n 0, 1) := by decide +kernel
theorem d32_1 : decode prog_28_method_1_code 1 = .ok (.invokespecial 1, 3) := by decide +kernel
theorem d32_4 : decode prog_28_method_1_code 4 = .ok (.aload_n 0, 1) := by decide +kernel
theorem d32_5 : decode prog_28_method_1_code 5 = .ok (.aload_n 1, 1) := by decide +kernel
theorem d32_6 : decode prog_28_method_1_code 6 = .ok (.putfield 7, 3) := by decide +kernel
theorem d32_9 : decode prog_28_method_1_code 9 = .ok (.aload_n 0, 1) := by decide +kernel
theorem d32_10 : decode prog_28_method_1_code 10 = .ok (.iload_n 2, 1) := by decide +kernel
theorem d32_11 : decode prog_28_method_1_code 11 = .ok (.putfield 13, 3) := by decide +kernel
theorem d32_14 : decode prog_28_method_1_code 14 = .ok (.return_, 1) := by decide +kernel
theorem c_lnI (l : Launch) (Z : State) (a0 : Array Value) (hw : ∀ d ∈ tables_1, d.before a0 Z = true) (hEW : EW Z a0 consts_1) (n0 : Nat) (c1 : Int32) (hc1 : ¬ c1 = 0) (S1 : Sta Z Z.heap "java/lang/String" "COMPACT_STRINGS" "Z" (.int c1)) (v2 : Value) (hv2 : v2.isRef = true) (S2 : Sta Z Z.heap "jdk/internal/util/Preconditions" "SIOOBE_FORMATTER" "Ljava/util/function/BiFunction;" v2) (S3 : Sta Z Z.heap "java/lang/StringUTF16" "$assertionsDisabled" "Z" (.int 1)) (S4 : Sta Z Z.heap "java/lang/StringUTF16" "HI_BYTE_SHIFT" "I" (.int 0)) (S5 : Sta Z Z.heap "java/lang/StringUTF16" "LO_BYTE_SHIFT" "I" (.int 8)) (q t : Addr) (bv : Int32) {h0 : Heap} (o1 : Old Z n0 h0) (ge_q : n0 ≤ q) (hb : bv = 0 ∨ bv = 1) (Xq : Exa Z h0 q "com/example/synclane/synclane/command/Line") (Ft : Fld Z h0 q "com/example/synclane/synclane/command/Line" "text" "Ljava/lang/String;" .null) (Fh : Fld Z h0 q "com/example/synclane/synclane/command/Line" "holds" "Z" (.int 0)) :
    Con Z a0 l (⟨"com/example/synclane/synclane/command/Line", "<init>", "(Ljava/lang/String;Z)V"⟩ : MethodName) prog_28_method_1_code 3 (none) ({ frames := 2, cells := 0, slots := 0, locals := 24 } : Room) [] #[(.ref q), (.ref t), (.int bv)] consts_1 h0 n0 [q] [q] (V0 fun h so => Exa Z h q "com/example/synclane/synclane/command/Line" ∧ Fld Z h q "com/example/synclane/synclane/command/Line" "text" "Ljava/lang/String;" (.ref t) ∧ Fld Z h q "com/example/synclane/synclane/command/Line" "holds" "Z" (.int bv) ∧ so = []) := by
  refine Con.body (plainFor_of_name pn_com_example_synclane_synclane_command_Line) hEW o1 (allS ge_q all0) #[.val (.ref q), .val (.ref t), .val (.int bv)] (fun m => by first | (simp [entryFrame, mkF, argsToLocals, Value.category]; done) | rfl) ?_
  intro p e s m below meth c B hnm hret hlk G
  replace G := G.aloadN 1 d32_0 rfl rfl rfl
  obtain ⟨vr, h_r, sor, G', Kr, Qr⟩ := G.callI 4 rfl rfl (hw _ (mm 168 rfl)) (hw _ (mm 169 rfl)) (hw _ (mm 171 rfl)) (hw _ (mm 172 rfl)) (by decide) [] [] rfl (c_recI l Z a0 hw hEW n0 c1 hc1 S1 v2 hv2 S2 S3 S4 S5 q G.old ) (lenOf pd___V rfl) d32_1 rfl (nle rfl) (nle rfl) (nle rfl) (nle rfl) all0 all0 all0 rfl
  replace G := G'; clear G'
  obtain ⟨qr, er, rfl⟩ := Qr
  replace G := G.nov qr
  subst er
  replace G := G.aloadN 5 d32_4 rfl rfl rfl |>.aloadN 6 d32_5 rfl rfl rfl
  obtain ⟨h1, G', Wt1, Ft1, Kt1⟩ := G.putf 9 (host := "") (Or.inl (hw _ (mm 174 rfl))) Via.refl Ft Xq (Or.inr ⟨(hw _ (mm 175 rfl)), rfl, hnm⟩) (hw _ (mm 42 rfl)) (ty := (.object "java/lang/String")) (by decide) rfl rfl (Or.inl (mm 0 rfl)) (mm 0 rfl) d32_6 rfl
  replace G := G'; clear G'
  replace Fh := Fh.other Wt1 (Or.inr (slot_ne (Or.inr (hw _ (mm 177 rfl))) (Or.inr (hw _ (mm 175 rfl))) (by decide) (t := .boolean) (t' := (.object "java/lang/String")) (by decide) (by decide))); replace Xq := Xq.wr Wt1
  replace G := G.aloadN 10 d32_9 rfl rfl rfl |>.iloadN 11 d32_10 rfl rfl
  obtain ⟨h2, G', Wh1', Fh1', Kh1'⟩ := G.putf 14 (host := "") (Or.inl (hw _ (mm 176 rfl))) Via.refl Fh Xq (Or.inr ⟨(hw _ (mm 177 rfl)), rfl, hnm⟩) (hw _ (mm 42 rfl)) (ty := .boolean) (by decide) (by rcases hb with rfl | rfl <;> rfl) (by rcases hb with rfl | rfl <;> rfl) (Or.inl (mm 0 rfl)) (mm 0 rfl) d32_11 rfl
  replace G := G'; clear G'
  replace Ft1 := Ft1.other Wh1' (Or.inr (slot_ne (Or.inr (hw _ (mm 175 rfl))) (Or.inr (hw _ (mm 177 rfl))) (by decide) (t := (.object "java/lang/String")) (t' := .boolean) (by decide) (by decide))); replace Xq := Xq.wr Wh1'
  exact G.retV hret hlk d32_14 [] all0 ⟨rfl, Xq, Ft1, Fh1', rfl⟩ (nle rfl) (nle rfl)
theorem d8_0 : decode prog_28_method_2_code 0 = .ok (.new 8, 3) := by decide +kernel
theorem d8_3 : decode prog_28_method_2_code 3 = .ok (.dup, 1) := by decide +kernel
theorem d8_4 : decode prog_28_method_2_code 4 = .ok (.new 17, 3) := by decide +kernel
theorem d8_7 : decode prog_28_method_2_code 7 = .ok (.dup, 1) := by decide +kernel
theorem d8_8 : decode prog_28_method_2_code 8 = .ok (.invokespecial 19, 3) := by decide +kernel
theorem d8_11 : decode prog_28_method_2_code 11 = .ok (.aload_n 0, 1) := by decide +kernel
theorem d8_12 : decode prog_28_method_2_code 12 = .ok (.invokevirtual 20, 3) := by decide +kernel
theorem d8_15 : decode prog_28_method_2_code 15 = .ok (.ldc 24, 2) := by decide +kernel
theorem d8_17 : decode prog_28_method_2_code 17 = .ok (.invokevirtual 20, 3) := by decide +kernel
theorem d8_20 : decode prog_28_method_2_code 20 = .ok (.aload_n 1, 1) := by decide +kernel
theorem d8_21 : decode prog_28_method_2_code 21 = .ok (.invokevirtual 20, 3) := by decide +kernel
theorem d8_24 : decode prog_28_method_2_code 24 = .ok (.invokevirtual 26, 3) := by decide +kernel
theorem d8_27 : decode prog_28_method_2_code 27 = .ok (.aload_n 1, 1) := by decide +kernel
theorem d8_28 : decode prog_28_method_2_code 28 = .ok (.aload_n 2, 1) := by decide +kernel
theorem d8_29 : decode prog_28_method_2_code 29 = .ok (.invokevirtual 30, 3) := by decide +kernel
theorem d8_32 : decode prog_28_method_2_code 32 = .ok (.invokespecial 36, 3) := by decide +kernel
theorem d8_35 : decode prog_28_method_2_code 35 = .ok (.areturn, 1) := by decide +kernel
theorem c_exp (l : Launch) (Z : State) (a0 : Array Value) (hw : ∀ d ∈ tables_1, d.before a0 Z = true) (hEW : EW Z a0 consts_1) (n0 : Nat) (c1 : Int32) (hc1 : ¬ c1 = 0) (S1 : Sta Z Z.heap "java/lang/String" "COMPACT_STRINGS" "Z" (.int c1)) (v2 : Value) (hv2 : v2.isRef = true) (S2 : Sta Z Z.heap "jdk/internal/util/Preconditions" "SIOOBE_FORMATTER" "Ljava/util/function/BiFunction;" v2) (S3 : Sta Z Z.heap "java/lang/StringUTF16" "$assertionsDisabled" "Z" (.int 1)) (S4 : Sta Z Z.heap "java/lang/StringUTF16" "HI_BYTE_SHIFT" "I" (.int 0)) (S5 : Sta Z Z.heap "java/lang/StringUTF16" "LO_BYTE_SHIFT" "I" (.int 8)) (a1 b1 a2 b2 a3 b3 : Addr) (ns ss ps : List Nat) {h0 : Heap} (o1 : Old Z n0 h0) (h1 : ns.length ≤ 2) (h2 : ss.length ≤ 2) (h3 : ps.length ≤ 2) (hcs : ∀ c ∈ ss, c < 65536) (hcp : ∀ c ∈ ps, c < 65536) (n23 : a2 ≠ a3) (hN : StrK Z h0 a1 b1 (kd ns) ns) (hS : StrK Z h0 a2 b2 (kd ss) ss) (hP : StrK Z h0 a3 b3 (kd ps) ps) :
    Con Z a0 l (⟨"com/example/synclane/synclane/command/Line", "expect", "(Ljava/lang/String;Ljava/lang/String;Ljava/lang/String;)Lcom/example/synclane/synclane/command/Line;"⟩ : MethodName) prog_28_method_2_code 3 (some (.object "com/example/synclane/synclane/command/Line")) ({ frames := 10, cells := 10, slots := 166, locals := 145 } : Room) [] #[(.ref a1), (.ref a2), (.ref a3)] consts_1 h0 n0 [] [] (VV fun w h so => ∃ q t tb, w = .ref q ∧ Exa Z h q "com/example/synclane/synclane/command/Line" ∧ Fld Z h q "com/example/synclane/synclane/command/Line" "text" "Ljava/lang/String;" (.ref t) ∧ Fld Z h q "com/example/synclane/synclane/command/Line" "holds" "Z" (.int (if ss = ps then 1 else 0)) ∧ StrK Z h t tb (kd (ns ++ [58, 32] ++ ss)) (ns ++ [58, 32] ++ ss) ∧ so = []) := by
  refine Con.body (plainFor_of_name pn_com_example_synclane_synclane_command_Line) hEW o1 all0 #[.val (.ref a1), .val (.ref a2), .val (.ref a3)] (fun m => by first | (simp [entryFrame, mkF, argsToLocals, Value.category]; done) | rfl) ?_
  intro p e s m below meth c B hnm hret hlk G
  obtain ⟨q, g1, G', gq, sq, Eq, Xq, Dq, Uq⟩ := G.new 3 (hw _ (mm 41 rfl)) (hw _ (mm 42 rfl)) (hw _ (mm 39 rfl)) d8_0 rfl (nle rfl) (nle rfl)
  replace G := G'; clear G'
  have ne_a1_q : a1 ≠ q := ne_new gq hN.lt; have ne_b1_q : b1 ≠ q := ne_new gq hN.ltb; have ne_a2_q : a2 ≠ q := ne_new gq hS.lt; have ne_b2_q : b2 ≠ q := ne_new gq hS.ltb; have ne_a3_q : a3 ≠ q := ne_new gq hP.lt; have ne_b3_q : b3 ≠ q := ne_new gq hP.ltb
  replace hN := hN.ext Eq; replace hS := hS.ext Eq; replace hP := hP.ext Eq
  have Ft := Dq (Or.inr (hw _ (mm 175 rfl))) (ty := .object "java/lang/String") (by decide); have Fh := Dq (Or.inr (hw _ (mm 177 rfl))) (ty := .boolean) (by decide)
  replace G := G.dup 4 d8_3 rfl rfl
  obtain ⟨a, g2, G', ga, sa, Ea, Xa, Da, Ua⟩ := G.new 7 (hw _ (mm 43 rfl)) (hw _ (mm 44 rfl)) (hw _ (mm 45 rfl)) d8_4 rfl (nle rfl) (nle rfl)
  replace G := G'; clear G'
  have ne_a1_a : a1 ≠ a := ne_new ga hN.lt; have ne_b1_a : b1 ≠ a := ne_new ga hN.ltb; have ne_a2_a : a2 ≠ a := ne_new ga hS.lt; have ne_b2_a : b2 ≠ a := ne_new ga hS.ltb; have ne_a3_a : a3 ≠ a := ne_new ga hP.lt; have ne_b3_a : b3 ≠ a := ne_new ga hP.ltb; have ne_q_a : q ≠ a := ne_new ga Xq.lt
  replace hN := hN.ext Ea; replace hS := hS.ext Ea; replace hP := hP.ext Ea; replace Xq := Xq.ext Ea; replace Ft := Ft.ext Ea; replace Fh := Fh.ext Ea
  have Fva := Da (Or.inl (hw _ (mm 58 rfl))) (ty := .array .byte) (by decide); have Fca := Da (Or.inl (hw _ (mm 60 rfl))) (ty := .byte) (by decide); have Fna := Da (Or.inl (hw _ (mm 83 rfl))) (ty := .int) (by decide); have Fma := Da (Or.inl (hw _ (mm 271 rfl))) (ty := .boolean) (by decide)
  replace G := G.dup 8 d8_7 rfl rfl
  have sz0 := G.sz
  obtain ⟨vi, g3, soi, G', Ki, Qi⟩ := G.callI 11 rfl rfl (hw _ (mm 46 rfl)) (hw _ (mm 47 rfl)) (hw _ (mm 45 rfl)) (hw _ (mm 48 rfl)) (by decide) [] [(.ref a), (.ref q), (.ref q)] rfl (c_sbIK l Z a0 hw hEW n0 c1 hc1 S1 v2 hv2 S2 S3 S4 S5 a G.old (G.nw (Or.inr sa)) Xa Fva Fca Fna Fma) (lenOf pd___V rfl) d8_8 rfl (nle rfl) (nle rfl) (nle rfl) (nle rfl) (allS (Or.inr sa) all0) (allS (mm 0 rfl) all0) (allS (mm 0 rfl) all0) rfl
  replace G := G'; clear G'
  obtain ⟨qi, e0, hB0, se0', rfl⟩ := Qi
  replace G := G.nov qi
  have ne_a1_e0 : a1 ≠ e0 := (ne_ge hN.lt se0').symm; have ne_b1_e0 : b1 ≠ e0 := (ne_ge hN.ltb se0').symm; have ne_a2_e0 : a2 ≠ e0 := (ne_ge hS.lt se0').symm; have ne_b2_e0 : b2 ≠ e0 := (ne_ge hS.ltb se0').symm; have ne_a3_e0 : a3 ≠ e0 := (ne_ge hP.lt se0').symm; have ne_b3_e0 : b3 ≠ e0 := (ne_ge hP.ltb se0').symm; have ne_q_e0 : q ≠ e0 := (ne_ge Xq.lt se0').symm
  replace hN := hN.keep Ki (ninS ne_a1_a nin0) (ninS ne_b1_a nin0); replace hS := hS.keep Ki (ninS ne_a2_a nin0) (ninS ne_b2_a nin0); replace hP := hP.keep Ki (ninS ne_a3_a nin0) (ninS ne_b3_a nin0); replace Xq := Xq.keep Ki; replace Ft := Ft.keep Ki (ninS ne_q_a nin0); replace Fh := Fh.keep Ki (ninS ne_q_a nin0)
  have se0 := Nat.le_trans sz0 se0'
  have ka := kd01 ns; have kb := kd01 ss
  replace G := G.aloadN 12 d8_11 rfl rfl rfl
  have sz1 := G.sz
  obtain ⟨vp0, g4, sop0, G', Kp0, Qp0⟩ := G.callV 15 (hw _ (mm 61 rfl)) (hw _ (mm 62 rfl)) (nfSel (hw _ (mm 64 rfl))) (hw _ (mm 64 rfl)) (hw _ (mm 63 rfl)) (hw _ (mm 45 rfl)) (hw _ (mm 65 rfl)) hB0.1 (by decide) [(.ref a1)] [(.ref q), (.ref q)] rfl (c_appK l Z a0 hw hEW n0 c1 hc1 S1 v2 hv2 S2 S3 S4 S5 a e0 a1 b1 16 0 (kd ns) [] ns G.old (G.nw (Or.inr sa)) (G.nw (Or.inr se0)) (by omega) (by omega) (by simp; omega) (by decide) (fun _ c q => nomatch q) (fun e => kd0 e) ne_a1_a ne_b1_a ne_b1_e0 hB0 hN) (lenOf pd__Ljava_lang_String__Ljava_lang_StringBuilder_ rfl) d8_12 rfl (nle rfl) (nle rfl) (nle rfl) (nle rfl) (allS (Or.inr sa) (allS (Or.inr se0) all0)) (allS (mm 1 rfl) (allS (mm 0 rfl) all0)) (allS (mm 1 rfl) (allS (mm 0 rfl) all0)) rfl
  replace G := G'; clear G'
  obtain ⟨wp0, qp0, rfl, e1, hB1, hb1, rfl⟩ := Qp0
  replace G := G.val qp0
  have ne_a1_e1 : a1 ≠ e1 := ne_or ne_a1_e0 hN.lt hb1; have ne_b1_e1 : b1 ≠ e1 := ne_or ne_b1_e0 hN.ltb hb1; have ne_a2_e1 : a2 ≠ e1 := ne_or ne_a2_e0 hS.lt hb1; have ne_b2_e1 : b2 ≠ e1 := ne_or ne_b2_e0 hS.ltb hb1; have ne_a3_e1 : a3 ≠ e1 := ne_or ne_a3_e0 hP.lt hb1; have ne_b3_e1 : b3 ≠ e1 := ne_or ne_b3_e0 hP.ltb hb1; have ne_q_e1 : q ≠ e1 := ne_or ne_q_e0 Xq.lt hb1
  have se1 : h0.size ≤ e1 := hb1.elim (fun e => e ▸ se0) (fun r => Nat.le_trans sz1 r)
  replace hN := hN.keep Kp0 (ninS ne_a1_a (ninS ne_a1_e0 nin0)) (ninS ne_b1_a (ninS ne_b1_e0 nin0)); replace hS := hS.keep Kp0 (ninS ne_a2_a (ninS ne_a2_e0 nin0)) (ninS ne_b2_a (ninS ne_b2_e0 nin0)); replace hP := hP.keep Kp0 (ninS ne_a3_a (ninS ne_a3_e0 nin0)) (ninS ne_b3_a (ninS ne_b3_e0 nin0)); replace Xq := Xq.keep Kp0; replace Ft := Ft.keep Kp0 (ninS ne_q_a (ninS ne_q_e0 nin0)); replace Fh := Fh.keep Kp0 (ninS ne_q_a (ninS ne_q_e0 nin0))
  rw [List.nil_append, show max 0 (kd ns) = kd ns by omega] at hB1
  obtain ⟨l1, l2, g5, kkz, G', Ez, Xz, Fcz, Fvz, Az, nez⟩ := G.ldcS 17 (hw _ (mm 109 rfl)) (wS_of hw) (mm 0 rfl) (vs := [(.int (58 : Int32)), (.int (32 : Int32))]) (z := (2 : Int32)) (by decide) (by decide) rfl d8_15 8 (by decide) (by decide) (nle rfl) (nle rfl) rfl
  replace G := G'; clear G'
  have ne_l1_a : l1 ≠ a := (nez a (mm 2 rfl)).1.symm; have ne_l2_a : l2 ≠ a := (nez a (mm 2 rfl)).2.symm; have ne_l1_e1 : l1 ≠ e1 := (nez e1 (mm 0 rfl)).1.symm; have ne_l2_e1 : l2 ≠ e1 := (nez e1 (mm 0 rfl)).2.symm
  replace hN := hN.ext Ez; replace hS := hS.ext Ez; replace hP := hP.ext Ez; replace Xq := Xq.ext Ez; replace Ft := Ft.ext Ez; replace Fh := Fh.ext Ez
  replace hB1 := hB1.ext Ez
  have hL : StrK Z g5 l1 l2 0 [58, 32] := ⟨Xz, Fcz, Fvz, kkz, Az⟩
  have sz2 := G.sz
  obtain ⟨vp1, g6, sop1, G', Kp1, Qp1⟩ := G.callV 20 (hw _ (mm 61 rfl)) (hw _ (mm 62 rfl)) (nfSel (hw _ (mm 64 rfl))) (hw _ (mm 64 rfl)) (hw _ (mm 63 rfl)) (hw _ (mm 45 rfl)) (hw _ (mm 65 rfl)) hB1.1 (by decide) [(.ref l1)] [(.ref q), (.ref q)] rfl (c_appK l Z a0 hw hEW n0 c1 hc1 S1 v2 hv2 S2 S3 S4 S5 a e1 l1 l2 16 (kd ns) 0 ns [58, 32] G.old (G.nw (Or.inr sa)) (G.nw (Or.inr se1)) (by omega) (by omega) (by simp; omega) (by decide) (fun e => kd0 e) (fun _ => by decide) ne_l1_a ne_l2_a ne_l2_e1 hB1 hL) (lenOf pd__Ljava_lang_String__Ljava_lang_StringBuilder_ rfl) d8_17 rfl (nle rfl) (nle rfl) (nle rfl) (nle rfl) (allS (Or.inr sa) (allS (Or.inr se1) all0)) (allS (mm 2 rfl) (allS (mm 0 rfl) all0)) (allS (mm 2 rfl) (allS (mm 0 rfl) all0)) rfl
  replace G := G'; clear G'
  obtain ⟨wp1, qp1, rfl, e2, hB2, hb2, rfl⟩ := Qp1
  replace G := G.val qp1
  have ne_a1_e2 : a1 ≠ e2 := ne_or ne_a1_e1 hN.lt hb2; have ne_b1_e2 : b1 ≠ e2 := ne_or ne_b1_e1 hN.ltb hb2; have ne_a2_e2 : a2 ≠ e2 := ne_or ne_a2_e1 hS.lt hb2; have ne_b2_e2 : b2 ≠ e2 := ne_or ne_b2_e1 hS.ltb hb2; have ne_a3_e2 : a3 ≠ e2 := ne_or ne_a3_e1 hP.lt hb2; have ne_b3_e2 : b3 ≠ e2 := ne_or ne_b3_e1 hP.ltb hb2; have ne_q_e2 : q ≠ e2 := ne_or ne_q_e1 Xq.lt hb2
  have se2 : h0.size ≤ e2 := hb2.elim (fun e => e ▸ se1) (fun r => Nat.le_trans sz2 r)
  replace hN := hN.keep Kp1 (ninS ne_a1_a (ninS ne_a1_e1 nin0)) (ninS ne_b1_a (ninS ne_b1_e1 nin0)); replace hS := hS.keep Kp1 (ninS ne_a2_a (ninS ne_a2_e1 nin0)) (ninS ne_b2_a (ninS ne_b2_e1 nin0)); replace hP := hP.keep Kp1 (ninS ne_a3_a (ninS ne_a3_e1 nin0)) (ninS ne_b3_a (ninS ne_b3_e1 nin0)); replace Xq := Xq.keep Kp1; replace Ft := Ft.keep Kp1 (ninS ne_q_a (ninS ne_q_e1 nin0)); replace Fh := Fh.keep Kp1 (ninS ne_q_a (ninS ne_q_e1 nin0))
  rw [show max (kd ns) 0 = kd ns by omega] at hB2
  have h8b : kd ns = 0 → ∀ c ∈ ns ++ [58, 32], c < 256 := fun e c hc => (List.mem_append.mp hc).elim (kd0 e c) (fun q => (show ∀ c ∈ ([58, 32] : List Nat), c < 256 by decide) c q)
  replace G := G.aloadN 21 d8_20 rfl rfl rfl
  have sz3 := G.sz
  obtain ⟨vp2, g7, sop2, G', Kp2, Qp2⟩ := G.callV 24 (hw _ (mm 61 rfl)) (hw _ (mm 62 rfl)) (nfSel (hw _ (mm 64 rfl))) (hw _ (mm 64 rfl)) (hw _ (mm 63 rfl)) (hw _ (mm 45 rfl)) (hw _ (mm 65 rfl)) hB2.1 (by decide) [(.ref a2)] [(.ref q), (.ref q)] rfl (c_appK l Z a0 hw hEW n0 c1 hc1 S1 v2 hv2 S2 S3 S4 S5 a e2 a2 b2 16 (kd ns) (kd ss) (ns ++ [58, 32]) ss G.old (G.nw (Or.inr sa)) (G.nw (Or.inr se2)) (by omega) (by omega) (by simp; omega) (by decide) h8b (fun e => kd0 e) ne_a2_a ne_b2_a ne_b2_e2 hB2 hS) (lenOf pd__Ljava_lang_String__Ljava_lang_StringBuilder_ rfl) d8_21 rfl (nle rfl) (nle rfl) (nle rfl) (nle rfl) (allS (Or.inr sa) (allS (Or.inr se2) all0)) (allS (mm 3 rfl) (allS (mm 0 rfl) all0)) (allS (mm 3 rfl) (allS (mm 0 rfl) all0)) rfl
  replace G := G'; clear G'
  obtain ⟨wp2, qp2, rfl, e3, hB3, hb3, rfl⟩ := Qp2
  replace G := G.val qp2
  have ne_a1_e3 : a1 ≠ e3 := ne_or ne_a1_e2 hN.lt hb3; have ne_b1_e3 : b1 ≠ e3 := ne_or ne_b1_e2 hN.ltb hb3; have ne_a2_e3 : a2 ≠ e3 := ne_or ne_a2_e2 hS.lt hb3; have ne_b2_e3 : b2 ≠ e3 := ne_or ne_b2_e2 hS.ltb hb3; have ne_a3_e3 : a3 ≠ e3 := ne_or ne_a3_e2 hP.lt hb3; have ne_b3_e3 : b3 ≠ e3 := ne_or ne_b3_e2 hP.ltb hb3; have ne_q_e3 : q ≠ e3 := ne_or ne_q_e2 Xq.lt hb3
  have se3 : h0.size ≤ e3 := hb3.elim (fun e => e ▸ se2) (fun r => Nat.le_trans sz3 r)
  replace hN := hN.keep Kp2 (ninS ne_a1_a (ninS ne_a1_e2 nin0)) (ninS ne_b1_a (ninS ne_b1_e2 nin0)); replace hS := hS.keep Kp2 (ninS ne_a2_a (ninS ne_a2_e2 nin0)) (ninS ne_b2_a (ninS ne_b2_e2 nin0)); replace hP := hP.keep Kp2 (ninS ne_a3_a (ninS ne_a3_e2 nin0)) (ninS ne_b3_a (ninS ne_b3_e2 nin0)); replace Xq := Xq.keep Kp2; replace Ft := Ft.keep Kp2 (ninS ne_q_a (ninS ne_q_e2 nin0)); replace Fh := Fh.keep Kp2 (ninS ne_q_a (ninS ne_q_e2 nin0))
  have sz := G.sz; have hlen : (ns ++ [58, 32] ++ ss).length = ns.length + 2 + ss.length := by rw [List.length_append, List.length_append]; rfl
  have ek : max (kd ns) (kd ss) = kd (ns ++ [58, 32] ++ ss) := by rw [kd_app, kd_app, show kd [58, 32] = 0 from rfl]; omega
  rw [ek] at hB3
  obtain ⟨vt, g8, sot, G', Kt, Qt⟩ := G.callV 27 (hw _ (mm 110 rfl)) (hw _ (mm 111 rfl)) (nfSel (hw _ (mm 113 rfl))) (hw _ (mm 113 rfl)) (hw _ (mm 112 rfl)) (hw _ (mm 45 rfl)) (hw _ (mm 114 rfl)) hB3.1 (by decide) [] [(.ref q), (.ref q)] rfl (c_toStrK l Z a0 hw hEW n0 c1 hc1 S1 v2 hv2 S2 S3 S4 S5 a e3 16 (kd (ns ++ [58, 32] ++ ss)) (ns ++ [58, 32] ++ ss) G.old (kd01 _) (by rw [hlen]; omega) (by decide) hB3) (lenOf pd___Ljava_lang_String_ rfl) d8_24 rfl (nle rfl) (nle rfl) (nle rfl) (nle rfl) all0 all0 all0 rfl
  replace G := G'; clear G'
  obtain ⟨wt, qt, t, tb, rfl, hT, st1, st2, rfl⟩ := Qt
  replace G := G.val qt
  have ne_a1_t : a1 ≠ t := (ne_ge hN.lt st1).symm; have ne_b1_t : b1 ≠ t := (ne_ge hN.ltb st1).symm; have ne_a2_t : a2 ≠ t := (ne_ge hS.lt st1).symm; have ne_b2_t : b2 ≠ t := (ne_ge hS.ltb st1).symm; have ne_a3_t : a3 ≠ t := (ne_ge hP.lt st1).symm; have ne_b3_t : b3 ≠ t := (ne_ge hP.ltb st1).symm; have ne_q_t : q ≠ t := (ne_ge Xq.lt st1).symm
  have ne_a1_tb : a1 ≠ tb := (ne_ge hN.lt st2).symm; have ne_b1_tb : b1 ≠ tb := (ne_ge hN.ltb st2).symm; have ne_a2_tb : a2 ≠ tb := (ne_ge hS.lt st2).symm; have ne_b2_tb : b2 ≠ tb := (ne_ge hS.ltb st2).symm; have ne_a3_tb : a3 ≠ tb := (ne_ge hP.lt st2).symm; have ne_b3_tb : b3 ≠ tb := (ne_ge hP.ltb st2).symm; have ne_q_tb : q ≠ tb := (ne_ge Xq.lt st2).symm
  replace hN := hN.keep Kt nin0 nin0; replace hS := hS.keep Kt nin0 nin0; replace hP := hP.keep Kt nin0 nin0; replace Xq := Xq.keep Kt; replace Ft := Ft.keep Kt nin0; replace Fh := Fh.keep Kt nin0
  replace G := G.aloadN 28 d8_27 rfl rfl rfl |>.aloadN 29 d8_28 rfl rfl rfl
  obtain ⟨ve, g_9, soe, G', Ke, Qe⟩ := G.callV 32 (hw _ (mm 155 rfl)) (hw _ (mm 156 rfl)) (nfSel (hw _ (mm 158 rfl))) (hw _ (mm 158 rfl)) (hw _ (mm 157 rfl)) (hw _ (mm 17 rfl)) (hw _ (mm 159 rfl)) hS.1 (by decide) [(.ref a3)] [(.ref t), (.ref q), (.ref q)] rfl (c_equK l Z a0 hw hEW n0 c1 hc1 S1 v2 hv2 S2 S3 S4 S5 a2 b2 a3 b3 ss ps G.old n23 (by omega) (by omega) hcs hcp hS hP) (lenOf pd__Ljava_lang_Object__Z rfl) d8_29 rfl (nle rfl) (nle rfl) (nle rfl) (nle rfl) all0 all0 all0 rfl
  replace G := G'; clear G'
  obtain ⟨we, qe, rfl, ee, rfl⟩ := Qe
  replace G := G.val qe
  subst ee
  obtain ⟨vn, g10, son, G', Kn, Qn⟩ := G.callI 35 rfl rfl (hw _ (mm 165 rfl)) (hw _ (mm 166 rfl)) (hw _ (mm 39 rfl)) (hw _ (mm 167 rfl)) (by decide) [(.ref t), (.int (if ss = ps then 1 else 0))] [(.ref q)] rfl (c_lnI l Z a0 hw hEW n0 c1 hc1 S1 v2 hv2 S2 S3 S4 S5 q t (if ss = ps then 1 else 0) G.old (G.nw (Or.inr sq)) (by split; exact Or.inr rfl; exact Or.inl rfl) Xq Ft Fh) (lenOf pd__Ljava_lang_String_Z_V rfl) d8_32 rfl (nle rfl) (nle rfl) (nle rfl) (nle rfl) (allS (Or.inr sq) all0) (allS (mm 7 rfl) all0) (allS (mm 7 rfl) all0) rfl
  replace G := G'; clear G'
  obtain ⟨qn, Xq1, Ft1, Fh1, rfl⟩ := Qn
  replace G := G.nov qn
  replace hT := hT.keep Kn (ninS ne_q_t.symm nin0) (ninS ne_q_tb.symm nin0)
  exact G.retA hret rfl rfl hlk d8_35 [] all0 ⟨_, rfl, q, t, tb, rfl, Xq1, Ft1, Fh1, hT, rfl⟩ (nle rfl) (nle rfl)
theorem d34_0 : decode prog_28_method_9_code 0 = .ok (.aload_n 0, 1) := by decide +kernel
theorem d34_1 : decode prog_28_method_9_code 1 = .ok (.getfield 7, 3) := by decide +kernel
theorem d34_4 : decode prog_28_method_9_code 4 = .ok (.areturn, 1) := by decide +kernel
theorem c_text (l : Launch) (Z : State) (a0 : Array Value) (hw : ∀ d ∈ tables_1, d.before a0 Z = true) (hEW : EW Z a0 consts_1) (n0 : Nat) (c1 : Int32) (hc1 : ¬ c1 = 0) (S1 : Sta Z Z.heap "java/lang/String" "COMPACT_STRINGS" "Z" (.int c1)) (v2 : Value) (hv2 : v2.isRef = true) (S2 : Sta Z Z.heap "jdk/internal/util/Preconditions" "SIOOBE_FORMATTER" "Ljava/util/function/BiFunction;" v2) (S3 : Sta Z Z.heap "java/lang/StringUTF16" "$assertionsDisabled" "Z" (.int 1)) (S4 : Sta Z Z.heap "java/lang/StringUTF16" "HI_BYTE_SHIFT" "I" (.int 0)) (S5 : Sta Z Z.heap "java/lang/StringUTF16" "LO_BYTE_SHIFT" "I" (.int 8)) (q t : Addr) {h0 : Heap} (o1 : Old Z n0 h0) (Ft : Fld Z h0 q "com/example/synclane/synclane/command/Line" "text" "Ljava/lang/String;" (.ref t)) :
    Con Z a0 l (⟨"com/example/synclane/synclane/command/Line", "text", "()Ljava/lang/String;"⟩ : MethodName) prog_28_method_9_code 1 (some (.object "java/lang/String")) ({ frames := 0, cells := 0, slots := 0, locals := 0 } : Room) [] #[(.ref q)] consts_1 h0 n0 [] [] (VV fun w h so => w = .ref t ∧ h = h0 ∧ so = []) := by
  refine Con.body (plainFor_of_name pn_com_example_synclane_synclane_command_Line) hEW o1 all0 #[.val (.ref q)] (fun m => by first | (simp [entryFrame, mkF, argsToLocals, Value.category]; done) | rfl) ?_
  intro p e s m below meth c B hnm hret hlk G
  replace G := G.aloadN 1 d34_0 rfl rfl rfl |>.getf 4 (host := "") (Or.inl (hw _ (mm 174 rfl))) Via.refl Ft d34_1 rfl
  exact G.retA hret rfl rfl hlk d34_4 [] all0 ⟨_, rfl, rfl, rfl, rfl⟩ (nle rfl) (nle rfl)
theorem d42_0 : decode prog_28_method_10_code 0 = .ok (.aload_n 0, 1) := by decide +kernel
theorem d42_1 : decode prog_28_method_10_code 1 = .ok (.getfield 13, 3) := by decide +kernel
theorem d42_4 : decode prog_28_method_10_code 4 = .ok (.ireturn, 1) := by decide +kernel
theorem c_holds (l : Launch) (Z : State) (a0 : Array Value) (hw : ∀ d ∈ tables_1, d.before a0 Z = true) (hEW : EW Z a0 consts_1) (n0 : Nat) (c1 : Int32) (hc1 : ¬ c1 = 0) (S1 : Sta Z Z.heap "java/lang/String" "COMPACT_STRINGS" "Z" (.int c1)) (v2 : Value) (hv2 : v2.isRef = true) (S2 : Sta Z Z.heap "jdk/internal/util/Preconditions" "SIOOBE_FORMATTER" "Ljava/util/function/BiFunction;" v2) (S3 : Sta Z Z.heap "java/lang/StringUTF16" "$assertionsDisabled" "Z" (.int 1)) (S4 : Sta Z Z.heap "java/lang/StringUTF16" "HI_BYTE_SHIFT" "I" (.int 0)) (S5 : Sta Z Z.heap "java/lang/StringUTF16" "LO_BYTE_SHIFT" "I" (.int 8)) (q : Addr) (bv : Int32) {h0 : Heap} (o1 : Old Z n0 h0) (hb : bv = 0 ∨ bv = 1) (Fh : Fld Z h0 q "com/example/synclane/synclane/command/Line" "holds" "Z" (.int bv)) :
    Con Z a0 l (⟨"com/example/synclane/synclane/command/Line", "holds", "()Z"⟩ : MethodName) prog_28_method_10_code 1 (some .boolean) ({ frames := 0, cells := 0, slots := 0, locals := 0 } : Room) [] #[(.ref q)] consts_1 h0 n0 [] [] (VV fun w h so => w = .int bv ∧ h = h0 ∧ so = []) := by
  refine Con.body (plainFor_of_name pn_com_example_synclane_synclane_command_Line) hEW o1 all0 #[.val (.ref q)] (fun m => by first | (simp [entryFrame, mkF, argsToLocals, Value.category]; done) | rfl) ?_
  intro p e s m below meth c B hnm hret hlk G
  replace G := G.aloadN 1 d42_0 rfl rfl rfl |>.getf 4 (host := "") (Or.inl (hw _ (mm 176 rfl))) Via.refl Fh d42_1 rfl
  exact G.retN hret (Or.inl rfl) hlk d42_4 [] all0 ⟨_, rfl, by rcases hb with rfl | rfl <;> rfl, rfl, rfl⟩ (nle rfl) (nle rfl)
theorem d41_0 : decode method_6_code 0 = .ok (.iload_n 0, 1) := by decide +kernel
theorem d41_1 : decode method_6_code 1 = .ok (.iload_n 1, 1) := by decide +kernel
theorem d41_2 : decode method_6_code 2 = .ok (.if_icmp .ge 13, 3) := by decide +kernel
theorem d41_5 : decode method_6_code 5 = .ok (.iload_n 0, 1) := by decide +kernel
theorem d41_6 : decode method_6_code 6 = .ok (.ifCond .ne 7, 3) := by decide +kernel
theorem d41_9 : decode method_6_code 9 = .ok (.iload_n 2, 1) := by decide +kernel
theorem d41_10 : decode method_6_code 10 = .ok (.goto 4, 3) := by decide +kernel
theorem d41_13 : decode method_6_code 13 = .ok (.iload_n 3, 1) := by decide +kernel
theorem d41_14 : decode method_6_code 14 = .ok (.ireturn, 1) := by decide +kernel
theorem d41_15 : decode method_6_code 15 = .ok (.iload_n 0, 1) := by decide +kernel
theorem d41_16 : decode method_6_code 16 = .ok (.iload_n 1, 1) := by decide +kernel
theorem d41_17 : decode method_6_code 17 = .ok (.if_icmp .ne 6, 3) := by decide +kernel
theorem d41_20 : decode method_6_code 20 = .ok (.bipush 58, 2) := by decide +kernel
theorem d41_22 : decode method_6_code 22 = .ok (.ireturn, 1) := by decide +kernel
theorem d41_23 : decode method_6_code 23 = .ok (.iload_n 0, 1) := by decide +kernel
theorem d41_24 : decode method_6_code 24 = .ok (.iload_n 1, 1) := by decide +kernel
theorem d41_25 : decode method_6_code 25 = .ok (.iconst 1, 1) := by decide +kernel
theorem d41_26 : decode method_6_code 26 = .ok (.iadd, 1) := by decide +kernel
theorem d41_27 : decode method_6_code 27 = .ok (.if_icmp .ne 6, 3) := by decide +kernel
theorem d41_30 : decode method_6_code 30 = .ok (.bipush 32, 2) := by decide +kernel
theorem d41_32 : decode method_6_code 32 = .ok (.ireturn, 1) := by decide +kernel
theorem d41_33 : decode method_6_code 33 = .ok (.iload_n 0, 1) := by decide +kernel
theorem d41_34 : decode method_6_code 34 = .ok (.iload_n 1, 1) := by decide +kernel
theorem d41_35 : decode method_6_code 35 = .ok (.isub, 1) := by decide +kernel
theorem d41_36 : decode method_6_code 36 = .ok (.iconst 2, 1) := by decide +kernel
theorem d41_37 : decode method_6_code 37 = .ok (.isub, 1) := by decide +kernel
theorem d41_38 : decode method_6_code 38 = .ok (.istore 6, 2) := by decide +kernel
theorem d41_40 : decode method_6_code 40 = .ok (.iload 6, 2) := by decide +kernel
theorem d41_42 : decode method_6_code 42 = .ok (.ifCond .ne 8, 3) := by decide +kernel
theorem d41_45 : decode method_6_code 45 = .ok (.iload 4, 2) := by decide +kernel
theorem d41_47 : decode method_6_code 47 = .ok (.goto 5, 3) := by decide +kernel
theorem d41_50 : decode method_6_code 50 = .ok (.iload 5, 2) := by decide +kernel
theorem d41_52 : decode method_6_code 52 = .ok (.ireturn, 1) := by decide +kernel
theorem c_ea (l : Launch) (Z : State) (a0 : Array Value) (hw : ∀ d ∈ tables_1, d.before a0 Z = true) (hEW : EW Z a0 consts_1) (n0 : Nat) (c1 : Int32) (hc1 : ¬ c1 = 0) (S1 : Sta Z Z.heap "java/lang/String" "COMPACT_STRINGS" "Z" (.int c1)) (v2 : Value) (hv2 : v2.isRef = true) (S2 : Sta Z Z.heap "jdk/internal/util/Preconditions" "SIOOBE_FORMATTER" "Ljava/util/function/BiFunction;" v2) (S3 : Sta Z Z.heap "java/lang/StringUTF16" "$assertionsDisabled" "Z" (.int 1)) (S4 : Sta Z Z.heap "java/lang/StringUTF16" "HI_BYTE_SHIFT" "I" (.int 0)) (S5 : Sta Z Z.heap "java/lang/StringUTF16" "LO_BYTE_SHIFT" "I" (.int 8)) (i nl sl n0' n1 s0 s1 : Nat) {h0 : Heap} (o1 : Old Z n0 h0) (hn : nl ≤ 2) (hs : sl ≤ 2) (h0' : n0' < 65536) (h1' : n1 < 65536) (h2' : s0 < 65536) (h3' : s1 < 65536) (hi : i < nl + 2 + sl) :
    Con Z a0 l (⟨"com/example/synclane/synclane/command/LineExpectPinLaw", "expectedAt", "(IICCCC)C"⟩ : MethodName) method_6_code 7 (some .char) ({ frames := 0, cells := 0, slots := 0, locals := 0 } : Room) [] #[(.int (Int32.ofNat i)), (.int (Int32.ofNat nl)), (.int (Int32.ofNat n0')), (.int (Int32.ofNat n1)), (.int (Int32.ofNat s0)), (.int (Int32.ofNat s1))] consts_1 h0 n0 [] [] (VV fun w h so => w = .int (Int32.ofNat ((mkL nl n0' n1 ++ [58, 32] ++ mkL sl s0 s1).getD i 0)) ∧ h = h0 ∧ so = []) := by
  refine Con.body (plainFor_of_name pn_com_example_synclane_synclane_command_LineExpectPinLaw) hEW o1 all0 #[.val (.int (Int32.ofNat i)), .val (.int (Int32.ofNat nl)), .val (.int (Int32.ofNat n0')), .val (.int (Int32.ofNat n1)), .val (.int (Int32.ofNat s0)), .val (.int (Int32.ofNat s1)), .unset] (fun m => by first | (simp [entryFrame, mkF, argsToLocals, Value.category]; done) | rfl) ?_
  intro p e s m below meth c B hnm hret hlk G
  have ht := txt_at (n0 := n0') (n1 := n1) (s0 := s0) (s1 := s1) hn hs hi
  replace G := G.iloadN 1 d41_0 rfl rfl |>.iloadN 2 d41_1 rfl rfl
  rcases Decidable.em (i < nl) with hq | hq
  · skip
    replace G := G.icmpF 5 d41_2 (XT.ii_ge_f (ofn_lt hq (by omega))) rfl |>.iloadN 6 d41_5 rfl rfl
    rcases Decidable.em (i = 0) with he | he
    · skip
      replace G := G.ifF 9 d41_6 (XT.i0_ne_f (by rw [he]; rfl)) rfl |>.iloadN 10 d41_9 rfl rfl |>.goto 14 d41_10 (by decide) (by decide)
      exact G.retN hret (Or.inr (Or.inr (Or.inl rfl))) hlk d41_14 [] all0 ⟨_, rfl, by rw [ht, if_pos hq, if_pos he]; exact congrArg Value.int (i2c_w h0'), rfl, rfl⟩ (nle rfl) (nle rfl)
    · skip
      replace G := G.ifT 13 d41_6 (XT.i0_ne_t (ofn_ne (n := 0) he (by omega) (by decide))) (by decide) (by decide) |>.iloadN 14 d41_13 rfl rfl
      exact G.retN hret (Or.inr (Or.inr (Or.inl rfl))) hlk d41_14 [] all0 ⟨_, rfl, by rw [ht, if_pos hq, if_neg he]; exact congrArg Value.int (i2c_w h1'), rfl, rfl⟩ (nle rfl) (nle rfl)
  · skip
    replace G := G.icmpT 15 d41_2 (XT.ii_ge_t (ofn_nlt (Nat.not_lt.mp hq) (by omega))) (by decide) (by decide) |>.iloadN 16 d41_15 rfl rfl |>.iloadN 17 d41_16 rfl rfl
    rcases Decidable.em (i = nl) with he | he
    · skip
      replace G := G.icmpF 20 d41_17 (XT.ii_ne_f (by rw [he])) rfl |>.bipush 22 (58 : Int32) d41_20 (by decide) rfl
      exact G.retN hret (Or.inr (Or.inr (Or.inl rfl))) hlk d41_22 [] all0 ⟨_, rfl, by rw [ht, if_neg hq, if_pos he]; exact congrArg Value.int (i2c_w (by decide : 58 < 65536)), rfl, rfl⟩ (nle rfl) (nle rfl)
    · skip
      replace G := G.icmpT 23 d41_17 (XT.ii_ne_t (ofn_ne he (by omega) (by omega))) (by decide) (by decide) |>.iloadN 24 d41_23 rfl rfl |>.iloadN 25 d41_24 rfl rfl |>.iconst 26 (1 : Int32) d41_25 rfl rfl |>.iadd 27 d41_26 rfl |>.top (y := (.int (Int32.ofNat (nl + 1)))) (congrArg Value.int (ofn_add nl 1))
      rcases Decidable.em (i = nl + 1) with hf | hf
      · skip
        replace G := G.icmpF 30 d41_27 (XT.ii_ne_f (by rw [hf])) rfl |>.bipush 32 (32 : Int32) d41_30 (by decide) rfl
        exact G.retN hret (Or.inr (Or.inr (Or.inl rfl))) hlk d41_32 [] all0 ⟨_, rfl, by rw [ht, if_neg hq, if_neg he, if_pos hf]; exact congrArg Value.int (i2c_w (by decide : 32 < 65536)), rfl, rfl⟩ (nle rfl) (nle rfl)
      · skip
        replace G := G.icmpT 33 d41_27 (XT.ii_ne_t (ofn_ne hf (by omega) (by omega))) (by decide) (by decide) |>.iloadN 34 d41_33 rfl rfl |>.iloadN 35 d41_34 rfl rfl |>.isub 36 d41_35 rfl |>.top (y := (.int (Int32.ofNat (i - nl)))) (congrArg Value.int (ofn_sub (by omega) (by omega))) |>.iconst 37 (2 : Int32) d41_36 rfl rfl |>.isub 38 d41_37 rfl |>.top (y := (.int (Int32.ofNat (i - nl - 2)))) (congrArg Value.int (ofn_sub (b := 2) (by omega) (by omega)))
        replace G := G.istore 40 #[.val (.int (Int32.ofNat i)), .val (.int (Int32.ofNat nl)), .val (.int (Int32.ofNat n0')), .val (.int (Int32.ofNat n1)), .val (.int (Int32.ofNat s0)), .val (.int (Int32.ofNat s1)), .val (.int (Int32.ofNat (i - nl - 2)))] d41_38 rfl rfl |>.iload 42 d41_40 rfl rfl
        rcases Decidable.em (i - nl - 2 = 0) with hg | hg
        · skip
          replace G := G.ifF 45 d41_42 (XT.i0_ne_f (by rw [hg]; rfl)) rfl |>.iload 47 d41_45 rfl rfl |>.goto 52 d41_47 (by decide) (by decide)
          exact G.retN hret (Or.inr (Or.inr (Or.inl rfl))) hlk d41_52 [] all0 ⟨_, rfl, by rw [ht, if_neg hq, if_neg he, if_neg hf, if_pos hg]; exact congrArg Value.int (i2c_w h2'), rfl, rfl⟩ (nle rfl) (nle rfl)
        · skip
          replace G := G.ifT 50 d41_42 (XT.i0_ne_t (ofn_ne (n := 0) hg (by omega) (by decide))) (by decide) (by decide) |>.iload 52 d41_50 rfl rfl
          exact G.retN hret (Or.inr (Or.inr (Or.inl rfl))) hlk d41_52 [] all0 ⟨_, rfl, by rw [ht, if_neg hq, if_neg he, if_neg hf, if_neg hg]; exact congrArg Value.int (i2c_w h3'), rfl, rfl⟩ (nle rfl) (nle rfl)
theorem d35_0 : decode method_7_code 0 = .ok (.iload_n 1, 1) := by decide +kernel
theorem d35_1 : decode method_7_code 1 = .ok (.aload_n 0, 1) := by decide +kernel
theorem d35_2 : decode method_7_code 2 = .ok (.invokevirtual 16, 3) := by decide +kernel
theorem d35_5 : decode method_7_code 5 = .ok (.if_icmp .ge 23, 3) := by decide +kernel
theorem d35_8 : decode method_7_code 8 = .ok (.aload_n 0, 1) := by decide +kernel
theorem d35_9 : decode method_7_code 9 = .ok (.iload_n 1, 1) := by decide +kernel
theorem d35_10 : decode method_7_code 10 = .ok (.invokevirtual 20, 3) := by decide +kernel
theorem d35_13 : decode method_7_code 13 = .ok (.iload_n 1, 1) := by decide +kernel
theorem d35_14 : decode method_7_code 14 = .ok (.iload_n 2, 1) := by decide +kernel
theorem d35_15 : decode method_7_code 15 = .ok (.iload_n 3, 1) := by decide +kernel
theorem d35_16 : decode method_7_code 16 = .ok (.iload 4, 2) := by decide +kernel
theorem d35_18 : decode method_7_code 18 = .ok (.iload 5, 2) := by decide +kernel
theorem d35_20 : decode method_7_code 20 = .ok (.iload 6, 2) := by decide +kernel
theorem d35_22 : decode method_7_code 22 = .ok (.invokestatic 24, 3) := by decide +kernel
theorem d35_25 : decode method_7_code 25 = .ok (.if_icmp .ne 7, 3) := by decide +kernel
theorem d35_28 : decode method_7_code 28 = .ok (.iconst 1, 1) := by decide +kernel
theorem d35_29 : decode method_7_code 29 = .ok (.goto 4, 3) := by decide +kernel
theorem d35_32 : decode method_7_code 32 = .ok (.iconst 0, 1) := by decide +kernel
theorem d35_33 : decode method_7_code 33 = .ok (.ireturn, 1) := by decide +kernel
theorem c_ok (l : Launch) (Z : State) (a0 : Array Value) (hw : ∀ d ∈ tables_1, d.before a0 Z = true) (hEW : EW Z a0 consts_1) (n0 : Nat) (c1 : Int32) (hc1 : ¬ c1 = 0) (S1 : Sta Z Z.heap "java/lang/String" "COMPACT_STRINGS" "Z" (.int c1)) (v2 : Value) (hv2 : v2.isRef = true) (S2 : Sta Z Z.heap "jdk/internal/util/Preconditions" "SIOOBE_FORMATTER" "Ljava/util/function/BiFunction;" v2) (S3 : Sta Z Z.heap "java/lang/StringUTF16" "$assertionsDisabled" "Z" (.int 1)) (S4 : Sta Z Z.heap "java/lang/StringUTF16" "HI_BYTE_SHIFT" "I" (.int 0)) (S5 : Sta Z Z.heap "java/lang/StringUTF16" "LO_BYTE_SHIFT" "I" (.int 8)) (t tb : Addr) (i nl sl n0' n1 s0 s1 : Nat) {h0 : Heap} (o1 : Old Z n0 h0) (hn : nl ≤ 2) (hs : sl ≤ 2) (h0' : n0' < 65536) (h1' : n1 < 65536) (h2' : s0 < 65536) (h3' : s1 < 65536) (hi : i < 10) (hT : StrK Z h0 t tb (kd (mkL nl n0' n1 ++ [58, 32] ++ mkL sl s0 s1)) (mkL nl n0' n1 ++ [58, 32] ++ mkL sl s0 s1)) :
    Con Z a0 l (⟨"com/example/synclane/synclane/command/LineExpectPinLaw", "ok", "(Ljava/lang/String;IICCCC)Z"⟩ : MethodName) method_7_code 7 (some .boolean) ({ frames := 5, cells := 0, slots := 0, locals := 66 } : Room) [] #[(.ref t), (.int (Int32.ofNat i)), (.int (Int32.ofNat nl)), (.int (Int32.ofNat n0')), (.int (Int32.ofNat n1)), (.int (Int32.ofNat s0)), (.int (Int32.ofNat s1))] consts_1 h0 n0 [] [] (VV fun w h so => w = .int 1 ∧ h = h0 ∧ so = []) := by
  refine Con.body (plainFor_of_name pn_com_example_synclane_synclane_command_LineExpectPinLaw) hEW o1 all0 #[.val (.ref t), .val (.int (Int32.ofNat i)), .val (.int (Int32.ofNat nl)), .val (.int (Int32.ofNat n0')), .val (.int (Int32.ofNat n1)), .val (.int (Int32.ofNat s0)), .val (.int (Int32.ofNat s1))] (fun m => by first | (simp [entryFrame, mkF, argsToLocals, Value.category]; done) | rfl) ?_
  intro p e s m below meth c B hnm hret hlk G
  have hlen : (mkL nl n0' n1 ++ [58, 32] ++ mkL sl s0 s1).length = nl + 2 + sl := by rw [List.length_append, List.length_append, mkL_len hn, mkL_len hs]; rfl
  have hcc : ∀ c ∈ (mkL nl n0' n1 ++ [58, 32] ++ mkL sl s0 s1), c < 65536 := fun c hc => (List.mem_append.mp hc).elim (fun q => (List.mem_append.mp q).elim (mkL_b h0' h1' c) (fun r => (show ∀ c ∈ ([58, 32] : List Nat), c < 65536 by decide) c r)) (mkL_b h2' h3' c)
  replace G := G.iloadN 1 d35_0 rfl rfl |>.aloadN 2 d35_1 rfl rfl rfl
  obtain ⟨vl, h_l, sol, G', Kl, Ql⟩ := G.callV 5 (hw _ (mm 183 rfl)) (hw _ (mm 72 rfl)) (nfSel (hw _ (mm 74 rfl))) (hw _ (mm 74 rfl)) (hw _ (mm 73 rfl)) (hw _ (mm 17 rfl)) (hw _ (mm 75 rfl)) hT.1 (by decide) [] [(.int (Int32.ofNat i))] rfl (c_lengthK l Z a0 hw hEW n0 c1 hc1 S1 v2 hv2 S2 S3 S4 S5 t tb (kd (mkL nl n0' n1 ++ [58, 32] ++ mkL sl s0 s1)) (mkL nl n0' n1 ++ [58, 32] ++ mkL sl s0 s1) G.old (kd01 _) (by omega) hT) (lenOf pd___I rfl) d35_2 rfl (nle rfl) (nle rfl) (nle rfl) (nle rfl) all0 all0 all0 rfl
  replace G := G'; clear G'
  obtain ⟨wl, ql, rfl, el, rfl⟩ := Ql
  replace G := G.val ql
  subst el
  rcases Decidable.em (i < (mkL nl n0' n1 ++ [58, 32] ++ mkL sl s0 s1).length) with hq | hq
  · skip
    replace G := G.icmpF 8 d35_5 (XT.ii_ge_f (ofn_lt hq (by omega))) rfl |>.aloadN 9 d35_8 rfl rfl rfl |>.iloadN 10 d35_9 rfl rfl
    obtain ⟨vc, h_c, soc, G', Kc, Qc⟩ := G.callV 13 (hw _ (mm 187 rfl)) (hw _ (mm 188 rfl)) (nfSel (hw _ (mm 190 rfl))) (hw _ (mm 190 rfl)) (hw _ (mm 189 rfl)) (hw _ (mm 17 rfl)) (hw _ (mm 191 rfl)) hT.1 (by decide) [(.int (Int32.ofNat i))] [] rfl (c_charK l Z a0 hw hEW n0 c1 hc1 S1 v2 hv2 S2 S3 S4 S5 t tb (kd (mkL nl n0' n1 ++ [58, 32] ++ mkL sl s0 s1)) i (mkL nl n0' n1 ++ [58, 32] ++ mkL sl s0 s1) G.old (kd01 _) hq (by omega) hcc (fun e => kd0 e) hT) (lenOf pd__I_C rfl) d35_10 rfl (nle rfl) (nle rfl) (nle rfl) (nle rfl) all0 all0 all0 rfl
    replace G := G'; clear G'
    obtain ⟨wc, qc, rfl, ec, rfl⟩ := Qc
    replace G := G.val qc
    subst ec
    replace G := G.iloadN 14 d35_13 rfl rfl |>.iloadN 15 d35_14 rfl rfl |>.iloadN 16 d35_15 rfl rfl |>.iload 18 d35_16 rfl rfl |>.iload 20 d35_18 rfl rfl |>.iload 22 d35_20 rfl rfl
    obtain ⟨ve, h_e, soe, G', Ke, Qe⟩ := G.callS 25 (hw _ (mm 208 rfl)) (hw _ (mm 209 rfl)) (hw _ (mm 2 rfl)) (hw _ (mm 210 rfl)) (by decide) [(.int (Int32.ofNat i)), (.int (Int32.ofNat nl)), (.int (Int32.ofNat n0')), (.int (Int32.ofNat n1)), (.int (Int32.ofNat s0)), (.int (Int32.ofNat s1))] [(.int (Int32.ofNat ((mkL nl n0' n1 ++ [58, 32] ++ mkL sl s0 s1).getD i 0)))] rfl (c_ea l Z a0 hw hEW n0 c1 hc1 S1 v2 hv2 S2 S3 S4 S5 i nl sl n0' n1 s0 s1 G.old hn hs h0' h1' h2' h3' (by omega)) (lenOf pd__IICCCC_C rfl) d35_22 rfl (nle rfl) (nle rfl) (nle rfl) (nle rfl) all0 all0 all0 rfl
    replace G := G'; clear G'
    obtain ⟨we, qe, rfl, ee, rfl⟩ := Qe
    replace G := G.val qe
    subst ee
    replace G := G.icmpF 28 d35_25 (XT.ii_ne_f rfl) rfl |>.iconst 29 (1 : Int32) d35_28 rfl rfl |>.goto 33 d35_29 (by decide) (by decide)
    exact G.retN hret (Or.inl rfl) hlk d35_33 [] all0 ⟨_, rfl, rfl, rfl, rfl⟩ (nle rfl) (nle rfl)
  · skip
    replace G := G.icmpT 28 d35_5 (XT.ii_ge_t (ofn_nlt (Nat.not_lt.mp hq) (by omega))) (by decide) (by decide) |>.iconst 29 (1 : Int32) d35_28 rfl rfl |>.goto 33 d35_29 (by decide) (by decide)
    exact G.retN hret (Or.inl rfl) hlk d35_33 [] all0 ⟨_, rfl, rfl, rfl, rfl⟩ (nle rfl) (nle rfl)
theorem c_law (l : Launch) (Z : State) (a0 : Array Value) (hw : ∀ d ∈ tables_1, d.before a0 Z = true) (hEW : EW Z a0 consts_1) (n0 : Nat) (c1 : Int32) (hc1 : ¬ c1 = 0) (S1 : Sta Z Z.heap "java/lang/String" "COMPACT_STRINGS" "Z" (.int c1)) (v2 : Value) (hv2 : v2.isRef = true) (S2 : Sta Z Z.heap "jdk/internal/util/Preconditions" "SIOOBE_FORMATTER" "Ljava/util/function/BiFunction;" v2) (S3 : Sta Z Z.heap "java/lang/StringUTF16" "$assertionsDisabled" "Z" (.int 1)) (S4 : Sta Z Z.heap "java/lang/StringUTF16" "HI_BYTE_SHIFT" "I" (.int 0)) (S5 : Sta Z Z.heap "java/lang/StringUTF16" "LO_BYTE_SHIFT" "I" (.int 8)) (tws : List Jvm.Cond) (i0 i1 i2 : Int64) (i3 : Int32) {h0 : Heap} (o1 : Old Z n0 h0)  :
    Con Z a0 l (⟨"com/example/synclane/synclane/command/LineExpectPinLaw", "law", "(JJJI)Z"⟩ : MethodName) code 24 (some .boolean) room_1 tws #[(.long i0), (.long i1), (.long i2), (.int i3)] consts_1 h0 n0 [] [] (VV fun w h so => w = .int 1 ∧ so = []) := by
  refine Con.body (plainFor_of_name pn_com_example_synclane_synclane_command_LineExpectPinLaw) hEW o1 all0 #[.val (.long i0), .second, .val (.long i1), .second, .val (.long i2), .second, .val (.int i3), .unset, .unset, .unset, .unset, .unset, .unset, .unset, .unset, .unset, .unset, .unset, .unset, .unset, .unset, .unset, .unset, .unset] (fun m => by first | (simp [entryFrame, mkF, argsToLocals, Value.category]; done) | rfl) ?_
  intro p e s m below meth c B hnm hret hlk G
  replace G := G.lloadN 1 at_0 rfl rfl
  obtain ⟨vv0, k_0, sov0, G', Kv0, Qv0⟩ := G.callS 4 (hw _ (mm 0 rfl)) (hw _ (mm 1 rfl)) (hw _ (mm 2 rfl)) (hw _ (mm 3 rfl)) (by decide) [(.long i0)] [] rfl (c_lenOf l Z a0 hw hEW n0 c1 hc1 S1 v2 hv2 S2 S3 S4 S5 i0 G.old ) (lenOf pd__J_I rfl) at_1 rfl (nle rfl) (nle rfl) (nle rfl) (nle rfl) all0 all0 all0 rfl
  replace G := G'; clear G'
  obtain ⟨wv0, qv0, nl, h_nl, rfl, e0, rfl⟩ := Qv0
  replace G := G.val qv0
  subst e0
  replace G := G.istore 6 #[.val (.long i0), .second, .val (.long i1), .second, .val (.long i2), .second, .val (.int i3), .val (.int (Int32.ofNat nl)), .unset, .unset, .unset, .unset, .unset, .unset, .unset, .unset, .unset, .unset, .unset, .unset, .unset, .unset, .unset, .unset] at_4 rfl rfl |>.lloadN 7 at_6 rfl rfl
  obtain ⟨vv1, k_1, sov1, G', Kv1, Qv1⟩ := G.callS 10 (hw _ (mm 5 rfl)) (hw _ (mm 6 rfl)) (hw _ (mm 2 rfl)) (hw _ (mm 7 rfl)) (by decide) [(.long i0)] [] rfl (c_c0 l Z a0 hw hEW n0 c1 hc1 S1 v2 hv2 S2 S3 S4 S5 i0 G.old ) (lenOf pd__J_C rfl) at_7 rfl (nle rfl) (nle rfl) (nle rfl) (nle rfl) all0 all0 all0 rfl
  replace G := G'; clear G'
  obtain ⟨wv1, qv1, n0', h_n0', rfl, e1, rfl⟩ := Qv1
  replace G := G.val qv1
  subst e1
  replace G := G.istore 12 #[.val (.long i0), .second, .val (.long i1), .second, .val (.long i2), .second, .val (.int i3), .val (.int (Int32.ofNat nl)), .val (.int (Int32.ofNat n0')), .unset, .unset, .unset, .unset, .unset, .unset, .unset, .unset, .unset, .unset, .unset, .unset, .unset, .unset, .unset] at_10 rfl rfl |>.lloadN 13 at_12 rfl rfl
  obtain ⟨vv2, k_2, sov2, G', Kv2, Qv2⟩ := G.callS 16 (hw _ (mm 9 rfl)) (hw _ (mm 10 rfl)) (hw _ (mm 2 rfl)) (hw _ (mm 11 rfl)) (by decide) [(.long i0)] [] rfl (c_c1 l Z a0 hw hEW n0 c1 hc1 S1 v2 hv2 S2 S3 S4 S5 i0 G.old ) (lenOf pd__J_C rfl) at_13 rfl (nle rfl) (nle rfl) (nle rfl) (nle rfl) all0 all0 all0 rfl
  replace G := G'; clear G'
  obtain ⟨wv2, qv2, n1, h_n1, rfl, e2, rfl⟩ := Qv2
  replace G := G.val qv2
  subst e2
  replace G := G.istore 18 #[.val (.long i0), .second, .val (.long i1), .second, .val (.long i2), .second, .val (.int i3), .val (.int (Int32.ofNat nl)), .val (.int (Int32.ofNat n0')), .val (.int (Int32.ofNat n1)), .unset, .unset, .unset, .unset, .unset, .unset, .unset, .unset, .unset, .unset, .unset, .unset, .unset, .unset] at_16 rfl rfl |>.lloadN 19 at_18 rfl rfl
  obtain ⟨vv3, k_3, sov3, G', Kv3, Qv3⟩ := G.callS 22 (hw _ (mm 0 rfl)) (hw _ (mm 1 rfl)) (hw _ (mm 2 rfl)) (hw _ (mm 3 rfl)) (by decide) [(.long i1)] [] rfl (c_lenOf l Z a0 hw hEW n0 c1 hc1 S1 v2 hv2 S2 S3 S4 S5 i1 G.old ) (lenOf pd__J_I rfl) at_19 rfl (nle rfl) (nle rfl) (nle rfl) (nle rfl) all0 all0 all0 rfl
  replace G := G'; clear G'
  obtain ⟨wv3, qv3, sl, h_sl, rfl, e3, rfl⟩ := Qv3
  replace G := G.val qv3
  subst e3
  replace G := G.istore 24 #[.val (.long i0), .second, .val (.long i1), .second, .val (.long i2), .second, .val (.int i3), .val (.int (Int32.ofNat nl)), .val (.int (Int32.ofNat n0')), .val (.int (Int32.ofNat n1)), .val (.int (Int32.ofNat sl)), .unset, .unset, .unset, .unset, .unset, .unset, .unset, .unset, .unset, .unset, .unset, .unset, .unset] at_22 rfl rfl |>.lloadN 25 at_24 rfl rfl
  obtain ⟨vv4, k_4, sov4, G', Kv4, Qv4⟩ := G.callS 28 (hw _ (mm 5 rfl)) (hw _ (mm 6 rfl)) (hw _ (mm 2 rfl)) (hw _ (mm 7 rfl)) (by decide) [(.long i1)] [] rfl (c_c0 l Z a0 hw hEW n0 c1 hc1 S1 v2 hv2 S2 S3 S4 S5 i1 G.old ) (lenOf pd__J_C rfl) at_25 rfl (nle rfl) (nle rfl) (nle rfl) (nle rfl) all0 all0 all0 rfl
  replace G := G'; clear G'
  obtain ⟨wv4, qv4, s0, h_s0, rfl, e4, rfl⟩ := Qv4
  replace G := G.val qv4
  subst e4
  replace G := G.istore 30 #[.val (.long i0), .second, .val (.long i1), .second, .val (.long i2), .second, .val (.int i3), .val (.int (Int32.ofNat nl)), .val (.int (Int32.ofNat n0')), .val (.int (Int32.ofNat n1)), .val (.int (Int32.ofNat sl)), .val (.int (Int32.ofNat s0)), .unset, .unset, .unset, .unset, .unset, .unset, .unset, .unset, .unset, .unset, .unset, .unset] at_28 rfl rfl |>.lloadN 31 at_30 rfl rfl
  obtain ⟨vv5, k_5, sov5, G', Kv5, Qv5⟩ := G.callS 34 (hw _ (mm 9 rfl)) (hw _ (mm 10 rfl)) (hw _ (mm 2 rfl)) (hw _ (mm 11 rfl)) (by decide) [(.long i1)] [] rfl (c_c1 l Z a0 hw hEW n0 c1 hc1 S1 v2 hv2 S2 S3 S4 S5 i1 G.old ) (lenOf pd__J_C rfl) at_31 rfl (nle rfl) (nle rfl) (nle rfl) (nle rfl) all0 all0 all0 rfl
  replace G := G'; clear G'
  obtain ⟨wv5, qv5, s1, h_s1, rfl, e5, rfl⟩ := Qv5
  replace G := G.val qv5
  subst e5
  replace G := G.istore 36 #[.val (.long i0), .second, .val (.long i1), .second, .val (.long i2), .second, .val (.int i3), .val (.int (Int32.ofNat nl)), .val (.int (Int32.ofNat n0')), .val (.int (Int32.ofNat n1)), .val (.int (Int32.ofNat sl)), .val (.int (Int32.ofNat s0)), .val (.int (Int32.ofNat s1)), .unset, .unset, .unset, .unset, .unset, .unset, .unset, .unset, .unset, .unset, .unset] at_34 rfl rfl |>.lload 38 at_36 rfl rfl
  obtain ⟨vv6, k_6, sov6, G', Kv6, Qv6⟩ := G.callS 41 (hw _ (mm 0 rfl)) (hw _ (mm 1 rfl)) (hw _ (mm 2 rfl)) (hw _ (mm 3 rfl)) (by decide) [(.long i2)] [] rfl (c_lenOf l Z a0 hw hEW n0 c1 hc1 S1 v2 hv2 S2 S3 S4 S5 i2 G.old ) (lenOf pd__J_I rfl) at_38 rfl (nle rfl) (nle rfl) (nle rfl) (nle rfl) all0 all0 all0 rfl
  replace G := G'; clear G'
  obtain ⟨wv6, qv6, pl, h_pl, rfl, e6, rfl⟩ := Qv6
  replace G := G.val qv6
  subst e6
  replace G := G.istore 43 #[.val (.long i0), .second, .val (.long i1), .second, .val (.long i2), .second, .val (.int i3), .val (.int (Int32.ofNat nl)), .val (.int (Int32.ofNat n0')), .val (.int (Int32.ofNat n1)), .val (.int (Int32.ofNat sl)), .val (.int (Int32.ofNat s0)), .val (.int (Int32.ofNat s1)), .val (.int (Int32.ofNat pl)), .unset, .unset, .unset, .unset, .unset, .unset, .unset, .unset, .unset, .unset] at_41 rfl rfl |>.lload 45 at_43 rfl rfl
  obtain ⟨vv7, k_7, sov7, G', Kv7, Qv7⟩ := G.callS 48 (hw _ (mm 5 rfl)) (hw _ (mm 6 rfl)) (hw _ (mm 2 rfl)) (hw _ (mm 7 rfl)) (by decide) [(.long i2)] [] rfl (c_c0 l Z a0 hw hEW n0 c1 hc1 S1 v2 hv2 S2 S3 S4 S5 i2 G.old ) (lenOf pd__J_C rfl) at_45 rfl (nle rfl) (nle rfl) (nle rfl) (nle rfl) all0 all0 all0 rfl
  replace G := G'; clear G'
  obtain ⟨wv7, qv7, p0, h_p0, rfl, e7, rfl⟩ := Qv7
  replace G := G.val qv7
  subst e7
  replace G := G.istore 50 #[.val (.long i0), .second, .val (.long i1), .second, .val (.long i2), .second, .val (.int i3), .val (.int (Int32.ofNat nl)), .val (.int (Int32.ofNat n0')), .val (.int (Int32.ofNat n1)), .val (.int (Int32.ofNat sl)), .val (.int (Int32.ofNat s0)), .val (.int (Int32.ofNat s1)), .val (.int (Int32.ofNat pl)), .val (.int (Int32.ofNat p0)), .unset, .unset, .unset, .unset, .unset, .unset, .unset, .unset, .unset] at_48 rfl rfl |>.lload 52 at_50 rfl rfl
  obtain ⟨vv8, k_8, sov8, G', Kv8, Qv8⟩ := G.callS 55 (hw _ (mm 9 rfl)) (hw _ (mm 10 rfl)) (hw _ (mm 2 rfl)) (hw _ (mm 11 rfl)) (by decide) [(.long i2)] [] rfl (c_c1 l Z a0 hw hEW n0 c1 hc1 S1 v2 hv2 S2 S3 S4 S5 i2 G.old ) (lenOf pd__J_C rfl) at_52 rfl (nle rfl) (nle rfl) (nle rfl) (nle rfl) all0 all0 all0 rfl
  replace G := G'; clear G'
  obtain ⟨wv8, qv8, p1, h_p1, rfl, e8, rfl⟩ := Qv8
  replace G := G.val qv8
  subst e8
  replace G := G.istore 57 #[.val (.long i0), .second, .val (.long i1), .second, .val (.long i2), .second, .val (.int i3), .val (.int (Int32.ofNat nl)), .val (.int (Int32.ofNat n0')), .val (.int (Int32.ofNat n1)), .val (.int (Int32.ofNat sl)), .val (.int (Int32.ofNat s0)), .val (.int (Int32.ofNat s1)), .val (.int (Int32.ofNat pl)), .val (.int (Int32.ofNat p0)), .val (.int (Int32.ofNat p1)), .unset, .unset, .unset, .unset, .unset, .unset, .unset, .unset] at_55 rfl rfl |>.iload 59 at_57 rfl rfl |>.iconst 60 (1 : Int32) at_59 rfl rfl |>.iand 61 at_60 rfl
  have main : ∀ (pl' p0' p1' : Nat), pl' ≤ 2 → p0' < 65536 → p1' < 65536 → Wl Z a0 "com/example/synclane/synclane/command/LineExpectPinLaw" p l e room_1 s m #[(.long i0), (.long i1), (.long i2), (.int i3)] below meth c code 24 B consts_1 k_8 n0 [] [] k_8 0 0 76 #[.val (.long i0), .second, .val (.long i1), .second, .val (.long i2), .second, .val (.int i3), .val (.int (Int32.ofNat nl)), .val (.int (Int32.ofNat n0')), .val (.int (Int32.ofNat n1)), .val (.int (Int32.ofNat sl)), .val (.int (Int32.ofNat s0)), .val (.int (Int32.ofNat s1)), .val (.int (Int32.ofNat pl')), .val (.int (Int32.ofNat p0')), .val (.int (Int32.ofNat p1')), .unset, .unset, .unset, .unset, .unset, .unset, .unset, .unset] [] → Fin Z consts_1 p e below B s k_8 n0 [] room_1.cells room_1.slots (VV fun w h so => w = .int 1 ∧ so = []) := by
    intro pl' p0' p1' hpl hp0 hp1 G
    replace G := G.iload 78 at_76 rfl rfl |>.iload 80 at_78 rfl rfl |>.iload 82 at_80 rfl rfl
    obtain ⟨vma1, ga1, soma1, G', Kma1, Qma1⟩ := G.callS 85 (hw _ (mm 12 rfl)) (hw _ (mm 13 rfl)) (hw _ (mm 2 rfl)) (hw _ (mm 14 rfl)) (by decide) [(.int (Int32.ofNat nl)), (.int (Int32.ofNat n0')), (.int (Int32.ofNat n1))] [] rfl (c_mk l Z a0 hw hEW n0 c1 hc1 S1 v2 hv2 S2 S3 S4 S5 nl n0' n1 G.old h_nl h_n0' h_n1) (lenOf pd__ICC_Ljava_lang_String_ rfl) at_82 rfl (nle rfl) (nle rfl) (nle rfl) (nle rfl) all0 all0 all0 rfl
    replace G := G'; clear G'
    obtain ⟨wma1, qma1, a1, b1, rfl, hN, sa1, rfl⟩ := Qma1
    replace G := G.val qma1 |>.astore 87 #[.val (.long i0), .second, .val (.long i1), .second, .val (.long i2), .second, .val (.int i3), .val (.int (Int32.ofNat nl)), .val (.int (Int32.ofNat n0')), .val (.int (Int32.ofNat n1)), .val (.int (Int32.ofNat sl)), .val (.int (Int32.ofNat s0)), .val (.int (Int32.ofNat s1)), .val (.int (Int32.ofNat pl')), .val (.int (Int32.ofNat p0')), .val (.int (Int32.ofNat p1')), .val (.ref a1), .unset, .unset, .unset, .unset, .unset, .unset, .unset] at_85 rfl rfl rfl |>.iload 89 at_87 rfl rfl |>.iload 91 at_89 rfl rfl |>.iload 93 at_91 rfl rfl
    obtain ⟨vma2, ga2, soma2, G', Kma2, Qma2⟩ := G.callS 96 (hw _ (mm 12 rfl)) (hw _ (mm 13 rfl)) (hw _ (mm 2 rfl)) (hw _ (mm 14 rfl)) (by decide) [(.int (Int32.ofNat sl)), (.int (Int32.ofNat s0)), (.int (Int32.ofNat s1))] [] rfl (c_mk l Z a0 hw hEW n0 c1 hc1 S1 v2 hv2 S2 S3 S4 S5 sl s0 s1 G.old h_sl h_s0 h_s1) (lenOf pd__ICC_Ljava_lang_String_ rfl) at_93 rfl (nle rfl) (nle rfl) (nle rfl) (nle rfl) all0 all0 all0 rfl
    replace G := G'; clear G'
    obtain ⟨wma2, qma2, a2, b2, rfl, hS, sa2, rfl⟩ := Qma2
    replace G := G.val qma2
    have ne_a1_a2 : a1 ≠ a2 := (ne_ge hN.lt sa2).symm; have ne_b1_a2 : b1 ≠ a2 := (ne_ge hN.ltb sa2).symm
    replace hN := hN.keep Kma2 nin0 nin0
    replace G := G.astore 98 #[.val (.long i0), .second, .val (.long i1), .second, .val (.long i2), .second, .val (.int i3), .val (.int (Int32.ofNat nl)), .val (.int (Int32.ofNat n0')), .val (.int (Int32.ofNat n1)), .val (.int (Int32.ofNat sl)), .val (.int (Int32.ofNat s0)), .val (.int (Int32.ofNat s1)), .val (.int (Int32.ofNat pl')), .val (.int (Int32.ofNat p0')), .val (.int (Int32.ofNat p1')), .val (.ref a1), .val (.ref a2), .unset, .unset, .unset, .unset, .unset, .unset] at_96 rfl rfl rfl |>.iload 100 at_98 rfl rfl |>.iload 102 at_100 rfl rfl |>.iload 104 at_102 rfl rfl
    obtain ⟨vma3, ga3, soma3, G', Kma3, Qma3⟩ := G.callS 107 (hw _ (mm 12 rfl)) (hw _ (mm 13 rfl)) (hw _ (mm 2 rfl)) (hw _ (mm 14 rfl)) (by decide) [(.int (Int32.ofNat pl')), (.int (Int32.ofNat p0')), (.int (Int32.ofNat p1'))] [] rfl (c_mk l Z a0 hw hEW n0 c1 hc1 S1 v2 hv2 S2 S3 S4 S5 pl' p0' p1' G.old hpl hp0 hp1) (lenOf pd__ICC_Ljava_lang_String_ rfl) at_104 rfl (nle rfl) (nle rfl) (nle rfl) (nle rfl) all0 all0 all0 rfl
    replace G := G'; clear G'
    obtain ⟨wma3, qma3, a3, b3, rfl, hP, sa3, rfl⟩ := Qma3
    replace G := G.val qma3
    have ne_a1_a3 : a1 ≠ a3 := (ne_ge hN.lt sa3).symm; have ne_b1_a3 : b1 ≠ a3 := (ne_ge hN.ltb sa3).symm; have ne_a2_a3 : a2 ≠ a3 := (ne_ge hS.lt sa3).symm; have ne_b2_a3 : b2 ≠ a3 := (ne_ge hS.ltb sa3).symm
    replace hN := hN.keep Kma3 nin0 nin0; replace hS := hS.keep Kma3 nin0 nin0
    replace G := G.astore 109 #[.val (.long i0), .second, .val (.long i1), .second, .val (.long i2), .second, .val (.int i3), .val (.int (Int32.ofNat nl)), .val (.int (Int32.ofNat n0')), .val (.int (Int32.ofNat n1)), .val (.int (Int32.ofNat sl)), .val (.int (Int32.ofNat s0)), .val (.int (Int32.ofNat s1)), .val (.int (Int32.ofNat pl')), .val (.int (Int32.ofNat p0')), .val (.int (Int32.ofNat p1')), .val (.ref a1), .val (.ref a2), .val (.ref a3), .unset, .unset, .unset, .unset, .unset] at_107 rfl rfl rfl |>.aload 111 at_109 rfl rfl rfl |>.aload 113 at_111 rfl rfl rfl |>.aload 115 at_113 rfl rfl rfl
    have l1 := mkL_len (x := n0') (y := n1) h_nl; have l2 := mkL_len (x := s0) (y := s1) h_sl; have l3 := mkL_len (x := p0') (y := p1') hpl
    obtain ⟨vx, g4, sox, G', Kx, Qx⟩ := G.callS 118 (hw _ (mm 37 rfl)) (hw _ (mm 38 rfl)) (hw _ (mm 39 rfl)) (hw _ (mm 40 rfl)) (by decide) [(.ref a1), (.ref a2), (.ref a3)] [] rfl (c_exp l Z a0 hw hEW n0 c1 hc1 S1 v2 hv2 S2 S3 S4 S5 a1 b1 a2 b2 a3 b3 (mkL nl n0' n1) (mkL sl s0 s1) (mkL pl' p0' p1') G.old (by omega) (by omega) (by omega) (mkL_b h_s0 h_s1) (mkL_b hp0 hp1) ne_a2_a3 hN hS hP) (lenOf pd__Ljava_lang_String_Ljava_lang_String_Ljava_lang_String__Lcom_example_synclane_synclane_command_Line_ rfl) at_115 rfl (nle rfl) (nle rfl) (nle rfl) (nle rfl) all0 all0 all0 rfl
    replace G := G'; clear G'
    obtain ⟨wx, qx, q, t, tb, rfl, Xq, Ft, Fh, hT, rfl⟩ := Qx
    replace G := G.val qx |>.astore 120 #[.val (.long i0), .second, .val (.long i1), .second, .val (.long i2), .second, .val (.int i3), .val (.int (Int32.ofNat nl)), .val (.int (Int32.ofNat n0')), .val (.int (Int32.ofNat n1)), .val (.int (Int32.ofNat sl)), .val (.int (Int32.ofNat s0)), .val (.int (Int32.ofNat s1)), .val (.int (Int32.ofNat pl')), .val (.int (Int32.ofNat p0')), .val (.int (Int32.ofNat p1')), .val (.ref a1), .val (.ref a2), .val (.ref a3), .val (.ref q), .unset, .unset, .unset, .unset] at_118 rfl rfl rfl |>.aload 122 at_120 rfl rfl rfl
    obtain ⟨vy, g_5, soy, G', Ky, Qy⟩ := G.callV 125 (hw _ (mm 178 rfl)) (hw _ (mm 179 rfl)) (nfSel (hw _ (mm 181 rfl))) (hw _ (mm 181 rfl)) (hw _ (mm 180 rfl)) (hw _ (mm 39 rfl)) (hw _ (mm 182 rfl)) Xq (by decide) [] [] rfl (c_text l Z a0 hw hEW n0 c1 hc1 S1 v2 hv2 S2 S3 S4 S5 q t G.old Ft) (lenOf pd___Ljava_lang_String_ rfl) at_122 rfl (nle rfl) (nle rfl) (nle rfl) (nle rfl) all0 all0 all0 rfl
    replace G := G'; clear G'
    obtain ⟨wy, qy, rfl, ey, rfl⟩ := Qy
    replace G := G.val qy
    subst ey
    replace G := G.astore 127 #[.val (.long i0), .second, .val (.long i1), .second, .val (.long i2), .second, .val (.int i3), .val (.int (Int32.ofNat nl)), .val (.int (Int32.ofNat n0')), .val (.int (Int32.ofNat n1)), .val (.int (Int32.ofNat sl)), .val (.int (Int32.ofNat s0)), .val (.int (Int32.ofNat s1)), .val (.int (Int32.ofNat pl')), .val (.int (Int32.ofNat p0')), .val (.int (Int32.ofNat p1')), .val (.ref a1), .val (.ref a2), .val (.ref a3), .val (.ref q), .val (.ref t), .unset, .unset, .unset] at_125 rfl rfl rfl |>.aload 129 at_127 rfl rfl rfl
    have hlen : (mkL nl n0' n1 ++ [58, 32] ++ mkL sl s0 s1).length = nl + 2 + sl := by rw [List.length_append, List.length_append, l1, l2]; rfl
    obtain ⟨vl, g_6, sol, G', Kl, Ql⟩ := G.callV 132 (hw _ (mm 183 rfl)) (hw _ (mm 72 rfl)) (nfSel (hw _ (mm 74 rfl))) (hw _ (mm 74 rfl)) (hw _ (mm 73 rfl)) (hw _ (mm 17 rfl)) (hw _ (mm 75 rfl)) hT.1 (by decide) [] [] rfl (c_lengthK l Z a0 hw hEW n0 c1 hc1 S1 v2 hv2 S2 S3 S4 S5 t tb (kd (mkL nl n0' n1 ++ [58, 32] ++ mkL sl s0 s1)) (mkL nl n0' n1 ++ [58, 32] ++ mkL sl s0 s1) G.old (kd01 _) (by omega) hT) (lenOf pd___I rfl) at_129 rfl (nle rfl) (nle rfl) (nle rfl) (nle rfl) all0 all0 all0 rfl
    replace G := G'; clear G'
    obtain ⟨wl, ql, rfl, el, rfl⟩ := Ql
    replace G := G.val ql
    subst el
    replace G := G.iload 134 at_132 rfl rfl |>.iconst 135 (2 : Int32) at_134 rfl rfl |>.iadd 136 at_135 rfl |>.top (y := (.int (Int32.ofNat (nl + 2)))) (congrArg Value.int (ofn_add nl 2)) |>.iload 138 at_136 rfl rfl |>.iadd 139 at_138 rfl |>.top (y := (.int (Int32.ofNat (nl + 2 + sl)))) (congrArg Value.int (ofn_add _ sl)) |>.icmpF 142 at_139 (XT.ii_ne_f (by rw [hlen])) rfl
    replace G := G.iconst 143 (1 : Int32) at_142 rfl rfl |>.goto 147 at_143 (by decide) (by decide) |>.istore 149 #[.val (.long i0), .second, .val (.long i1), .second, .val (.long i2), .second, .val (.int i3), .val (.int (Int32.ofNat nl)), .val (.int (Int32.ofNat n0')), .val (.int (Int32.ofNat n1)), .val (.int (Int32.ofNat sl)), .val (.int (Int32.ofNat s0)), .val (.int (Int32.ofNat s1)), .val (.int (Int32.ofNat pl')), .val (.int (Int32.ofNat p0')), .val (.int (Int32.ofNat p1')), .val (.ref a1), .val (.ref a2), .val (.ref a3), .val (.ref q), .val (.ref t), .val (.int (1 : Int32)), .unset, .unset] at_147 rfl rfl |>.aload 151 at_149 rfl rfl rfl |>.iconst 152 (0 : Int32) at_151 rfl rfl |>.iload 154 at_152 rfl rfl |>.iload 156 at_154 rfl rfl |>.iload 158 at_156 rfl rfl
    replace G := G.iload 160 at_158 rfl rfl |>.iload 162 at_160 rfl rfl
    obtain ⟨vo0, g_o, soo0, G', Ko0, Qo0⟩ := G.callS 165 (hw _ (mm 184 rfl)) (hw _ (mm 185 rfl)) (hw _ (mm 2 rfl)) (hw _ (mm 186 rfl)) (by decide) [(.ref t), (.int (0 : Int32)), (.int (Int32.ofNat nl)), (.int (Int32.ofNat n0')), (.int (Int32.ofNat n1)), (.int (Int32.ofNat s0)), (.int (Int32.ofNat s1))] [] rfl (c_ok l Z a0 hw hEW n0 c1 hc1 S1 v2 hv2 S2 S3 S4 S5 t tb 0 nl sl n0' n1 s0 s1 G.old h_nl h_sl h_n0' h_n1 h_s0 h_s1 (by decide) hT) (lenOf pd__Ljava_lang_String_IICCCC_Z rfl) at_162 rfl (nle rfl) (nle rfl) (nle rfl) (nle rfl) all0 all0 all0 rfl
    replace G := G'; clear G'
    obtain ⟨wo0, qo0, rfl, eo0, rfl⟩ := Qo0
    replace G := G.val qo0
    subst eo0
    replace G := G.ifF 168 at_165 (XT.i0_eq_f (by decide)) rfl |>.aload 170 at_168 rfl rfl rfl |>.iconst 171 (1 : Int32) at_170 rfl rfl |>.iload 173 at_171 rfl rfl |>.iload 175 at_173 rfl rfl |>.iload 177 at_175 rfl rfl |>.iload 179 at_177 rfl rfl |>.iload 181 at_179 rfl rfl
    obtain ⟨vo1, g_o, soo1, G', Ko1, Qo1⟩ := G.callS 184 (hw _ (mm 184 rfl)) (hw _ (mm 185 rfl)) (hw _ (mm 2 rfl)) (hw _ (mm 186 rfl)) (by decide) [(.ref t), (.int (1 : Int32)), (.int (Int32.ofNat nl)), (.int (Int32.ofNat n0')), (.int (Int32.ofNat n1)), (.int (Int32.ofNat s0)), (.int (Int32.ofNat s1))] [] rfl (c_ok l Z a0 hw hEW n0 c1 hc1 S1 v2 hv2 S2 S3 S4 S5 t tb 1 nl sl n0' n1 s0 s1 G.old h_nl h_sl h_n0' h_n1 h_s0 h_s1 (by decide) hT) (lenOf pd__Ljava_lang_String_IICCCC_Z rfl) at_181 rfl (nle rfl) (nle rfl) (nle rfl) (nle rfl) all0 all0 all0 rfl
    replace G := G'; clear G'
    obtain ⟨wo1, qo1, rfl, eo1, rfl⟩ := Qo1
    replace G := G.val qo1
    subst eo1
    replace G := G.ifF 187 at_184 (XT.i0_eq_f (by decide)) rfl |>.aload 189 at_187 rfl rfl rfl |>.iconst 190 (2 : Int32) at_189 rfl rfl |>.iload 192 at_190 rfl rfl |>.iload 194 at_192 rfl rfl |>.iload 196 at_194 rfl rfl |>.iload 198 at_196 rfl rfl |>.iload 200 at_198 rfl rfl
    obtain ⟨vo2, g_o, soo2, G', Ko2, Qo2⟩ := G.callS 203 (hw _ (mm 184 rfl)) (hw _ (mm 185 rfl)) (hw _ (mm 2 rfl)) (hw _ (mm 186 rfl)) (by decide) [(.ref t), (.int (2 : Int32)), (.int (Int32.ofNat nl)), (.int (Int32.ofNat n0')), (.int (Int32.ofNat n1)), (.int (Int32.ofNat s0)), (.int (Int32.ofNat s1))] [] rfl (c_ok l Z a0 hw hEW n0 c1 hc1 S1 v2 hv2 S2 S3 S4 S5 t tb 2 nl sl n0' n1 s0 s1 G.old h_nl h_sl h_n0' h_n1 h_s0 h_s1 (by decide) hT) (lenOf pd__Ljava_lang_String_IICCCC_Z rfl) at_200 rfl (nle rfl) (nle rfl) (nle rfl) (nle rfl) all0 all0 all0 rfl
    replace G := G'; clear G'
    obtain ⟨wo2, qo2, rfl, eo2, rfl⟩ := Qo2
    replace G := G.val qo2
    subst eo2
    replace G := G.ifF 206 at_203 (XT.i0_eq_f (by decide)) rfl |>.aload 208 at_206 rfl rfl rfl |>.iconst 209 (3 : Int32) at_208 rfl rfl |>.iload 211 at_209 rfl rfl |>.iload 213 at_211 rfl rfl |>.iload 215 at_213 rfl rfl |>.iload 217 at_215 rfl rfl |>.iload 219 at_217 rfl rfl
    obtain ⟨vo3, g_o, soo3, G', Ko3, Qo3⟩ := G.callS 222 (hw _ (mm 184 rfl)) (hw _ (mm 185 rfl)) (hw _ (mm 2 rfl)) (hw _ (mm 186 rfl)) (by decide) [(.ref t), (.int (3 : Int32)), (.int (Int32.ofNat nl)), (.int (Int32.ofNat n0')), (.int (Int32.ofNat n1)), (.int (Int32.ofNat s0)), (.int (Int32.ofNat s1))] [] rfl (c_ok l Z a0 hw hEW n0 c1 hc1 S1 v2 hv2 S2 S3 S4 S5 t tb 3 nl sl n0' n1 s0 s1 G.old h_nl h_sl h_n0' h_n1 h_s0 h_s1 (by decide) hT) (lenOf pd__Ljava_lang_String_IICCCC_Z rfl) at_219 rfl (nle rfl) (nle rfl) (nle rfl) (nle rfl) all0 all0 all0 rfl
    replace G := G'; clear G'
    obtain ⟨wo3, qo3, rfl, eo3, rfl⟩ := Qo3
    replace G := G.val qo3
    subst eo3
    replace G := G.ifF 225 at_222 (XT.i0_eq_f (by decide)) rfl |>.aload 227 at_225 rfl rfl rfl |>.iconst 228 (4 : Int32) at_227 rfl rfl |>.iload 230 at_228 rfl rfl |>.iload 232 at_230 rfl rfl |>.iload 234 at_232 rfl rfl |>.iload 236 at_234 rfl rfl |>.iload 238 at_236 rfl rfl
    obtain ⟨vo4, g_o, soo4, G', Ko4, Qo4⟩ := G.callS 241 (hw _ (mm 184 rfl)) (hw _ (mm 185 rfl)) (hw _ (mm 2 rfl)) (hw _ (mm 186 rfl)) (by decide) [(.ref t), (.int (4 : Int32)), (.int (Int32.ofNat nl)), (.int (Int32.ofNat n0')), (.int (Int32.ofNat n1)), (.int (Int32.ofNat s0)), (.int (Int32.ofNat s1))] [] rfl (c_ok l Z a0 hw hEW n0 c1 hc1 S1 v2 hv2 S2 S3 S4 S5 t tb 4 nl sl n0' n1 s0 s1 G.old h_nl h_sl h_n0' h_n1 h_s0 h_s1 (by decide) hT) (lenOf pd__Ljava_lang_String_IICCCC_Z rfl) at_238 rfl (nle rfl) (nle rfl) (nle rfl) (nle rfl) all0 all0 all0 rfl
    replace G := G'; clear G'
    obtain ⟨wo4, qo4, rfl, eo4, rfl⟩ := Qo4
    replace G := G.val qo4
    subst eo4
    replace G := G.ifF 244 at_241 (XT.i0_eq_f (by decide)) rfl |>.aload 246 at_244 rfl rfl rfl |>.iconst 247 (5 : Int32) at_246 rfl rfl |>.iload 249 at_247 rfl rfl |>.iload 251 at_249 rfl rfl |>.iload 253 at_251 rfl rfl |>.iload 255 at_253 rfl rfl |>.iload 257 at_255 rfl rfl
    obtain ⟨vo5, g_o, soo5, G', Ko5, Qo5⟩ := G.callS 260 (hw _ (mm 184 rfl)) (hw _ (mm 185 rfl)) (hw _ (mm 2 rfl)) (hw _ (mm 186 rfl)) (by decide) [(.ref t), (.int (5 : Int32)), (.int (Int32.ofNat nl)), (.int (Int32.ofNat n0')), (.int (Int32.ofNat n1)), (.int (Int32.ofNat s0)), (.int (Int32.ofNat s1))] [] rfl (c_ok l Z a0 hw hEW n0 c1 hc1 S1 v2 hv2 S2 S3 S4 S5 t tb 5 nl sl n0' n1 s0 s1 G.old h_nl h_sl h_n0' h_n1 h_s0 h_s1 (by decide) hT) (lenOf pd__Ljava_lang_String_IICCCC_Z rfl) at_257 rfl (nle rfl) (nle rfl) (nle rfl) (nle rfl) all0 all0 all0 rfl
    replace G := G'; clear G'
    obtain ⟨wo5, qo5, rfl, eo5, rfl⟩ := Qo5
    replace G := G.val qo5
    subst eo5
    replace G := G.ifF 263 at_260 (XT.i0_eq_f (by decide)) rfl |>.iconst 264 (1 : Int32) at_263 rfl rfl |>.goto 268 at_264 (by decide) (by decide) |>.istore 270 #[.val (.long i0), .second, .val (.long i1), .second, .val (.long i2), .second, .val (.int i3), .val (.int (Int32.ofNat nl)), .val (.int (Int32.ofNat n0')), .val (.int (Int32.ofNat n1)), .val (.int (Int32.ofNat sl)), .val (.int (Int32.ofNat s0)), .val (.int (Int32.ofNat s1)), .val (.int (Int32.ofNat pl')), .val (.int (Int32.ofNat p0')), .val (.int (Int32.ofNat p1')), .val (.ref a1), .val (.ref a2), .val (.ref a3), .val (.ref q), .val (.ref t), .val (.int (1 : Int32)), .val (.int (1 : Int32)), .unset] at_268 rfl rfl |>.iload 272 at_270 rfl rfl |>.iload 274 at_272 rfl rfl
    rcases Decidable.em (sl = pl') with hq | hq
    · skip
      subst hq
      replace G := G.icmpF 277 at_274 (XT.ii_ne_f rfl) rfl |>.iload 279 at_277 rfl rfl |>.iconst 280 (1 : Int32) at_279 rfl rfl
      rcases (show sl = 0 ∨ sl = 1 ∨ sl = 2 by omega) with rfl | rfl | rfl
      · skip
        replace G := G.icmpT 290 at_280 (XT.ii_lt_t (by decide)) (by decide) (by decide) |>.iload 292 at_290 rfl rfl |>.iconst 293 (2 : Int32) at_292 rfl rfl |>.icmpT 303 at_293 (XT.ii_lt_t (by decide)) (by decide) (by decide) |>.iconst 304 (1 : Int32) at_303 rfl rfl |>.goto 308 at_304 (by decide) (by decide)
        have hif : (if mkL 0 s0 s1 = mkL 0 p0' p1' then (1 : Int32) else 0) = 1 := by rw [if_pos (show mkL 0 s0 s1 = mkL 0 p0' p1' from rfl)]
        rw [hif] at Fh
        replace G := G.istore 310 #[.val (.long i0), .second, .val (.long i1), .second, .val (.long i2), .second, .val (.int i3), .val (.int (Int32.ofNat nl)), .val (.int (Int32.ofNat n0')), .val (.int (Int32.ofNat n1)), .val (.int (Int32.ofNat 0)), .val (.int (Int32.ofNat s0)), .val (.int (Int32.ofNat s1)), .val (.int (Int32.ofNat 0)), .val (.int (Int32.ofNat p0')), .val (.int (Int32.ofNat p1')), .val (.ref a1), .val (.ref a2), .val (.ref a3), .val (.ref q), .val (.ref t), .val (.int (1 : Int32)), .val (.int (1 : Int32)), .val (.int (1 : Int32))] at_308 rfl rfl |>.iload 312 at_310 rfl rfl |>.ifF 315 at_312 (XT.i0_eq_f (by decide)) rfl |>.iload 317 at_315 rfl rfl |>.ifF 320 at_317 (XT.i0_eq_f (by decide)) rfl |>.aload 322 at_320 rfl rfl rfl
        obtain ⟨vhh, g_h, sohh, G', Khh, Qhh⟩ := G.callV 325 (hw _ (mm 211 rfl)) (hw _ (mm 212 rfl)) (nfSel (hw _ (mm 214 rfl))) (hw _ (mm 214 rfl)) (hw _ (mm 213 rfl)) (hw _ (mm 39 rfl)) (hw _ (mm 215 rfl)) Xq (by decide) [] [] rfl (c_holds l Z a0 hw hEW n0 c1 hc1 S1 v2 hv2 S2 S3 S4 S5 q 1 G.old (by decide) Fh) (lenOf pd___Z rfl) at_322 rfl (nle rfl) (nle rfl) (nle rfl) (nle rfl) all0 all0 all0 rfl
        replace G := G'; clear G'
        obtain ⟨whh, qhh, rfl, ehh, rfl⟩ := Qhh
        replace G := G.val qhh
        subst ehh
        replace G := G.iload 327 at_325 rfl rfl |>.icmpF 330 at_327 (XT.ii_ne_f rfl) rfl |>.iconst 331 (1 : Int32) at_330 rfl rfl |>.goto 335 at_331 (by decide) (by decide)
        exact G.retN hret (Or.inl rfl) hlk at_335 [] all0 ⟨_, rfl, rfl, rfl⟩ (nle rfl) (nle rfl)
      · skip
        replace G := G.icmpF 283 at_280 (XT.ii_lt_f (by decide)) rfl |>.iload 285 at_283 rfl rfl |>.iload 287 at_285 rfl rfl
        rcases Decidable.em (s0 = p0') with h0e | h0e
        · skip
          replace G := G.icmpF 290 at_287 (XT.ii_ne_f (by rw [h0e])) rfl |>.iload 292 at_290 rfl rfl |>.iconst 293 (2 : Int32) at_292 rfl rfl |>.icmpT 303 at_293 (XT.ii_lt_t (by decide)) (by decide) (by decide) |>.iconst 304 (1 : Int32) at_303 rfl rfl |>.goto 308 at_304 (by decide) (by decide)
          have hif : (if mkL 1 s0 s1 = mkL 1 p0' p1' then (1 : Int32) else 0) = 1 := by rw [if_pos (by rw [h0e]; rfl)]
          rw [hif] at Fh
          replace G := G.istore 310 #[.val (.long i0), .second, .val (.long i1), .second, .val (.long i2), .second, .val (.int i3), .val (.int (Int32.ofNat nl)), .val (.int (Int32.ofNat n0')), .val (.int (Int32.ofNat n1)), .val (.int (Int32.ofNat 1)), .val (.int (Int32.ofNat s0)), .val (.int (Int32.ofNat s1)), .val (.int (Int32.ofNat 1)), .val (.int (Int32.ofNat p0')), .val (.int (Int32.ofNat p1')), .val (.ref a1), .val (.ref a2), .val (.ref a3), .val (.ref q), .val (.ref t), .val (.int (1 : Int32)), .val (.int (1 : Int32)), .val (.int (1 : Int32))] at_308 rfl rfl |>.iload 312 at_310 rfl rfl |>.ifF 315 at_312 (XT.i0_eq_f (by decide)) rfl |>.iload 317 at_315 rfl rfl |>.ifF 320 at_317 (XT.i0_eq_f (by decide)) rfl |>.aload 322 at_320 rfl rfl rfl
          obtain ⟨vhh, g_h, sohh, G', Khh, Qhh⟩ := G.callV 325 (hw _ (mm 211 rfl)) (hw _ (mm 212 rfl)) (nfSel (hw _ (mm 214 rfl))) (hw _ (mm 214 rfl)) (hw _ (mm 213 rfl)) (hw _ (mm 39 rfl)) (hw _ (mm 215 rfl)) Xq (by decide) [] [] rfl (c_holds l Z a0 hw hEW n0 c1 hc1 S1 v2 hv2 S2 S3 S4 S5 q 1 G.old (by decide) Fh) (lenOf pd___Z rfl) at_322 rfl (nle rfl) (nle rfl) (nle rfl) (nle rfl) all0 all0 all0 rfl
          replace G := G'; clear G'
          obtain ⟨whh, qhh, rfl, ehh, rfl⟩ := Qhh
          replace G := G.val qhh
          subst ehh
          replace G := G.iload 327 at_325 rfl rfl |>.icmpF 330 at_327 (XT.ii_ne_f rfl) rfl |>.iconst 331 (1 : Int32) at_330 rfl rfl |>.goto 335 at_331 (by decide) (by decide)
          exact G.retN hret (Or.inl rfl) hlk at_335 [] all0 ⟨_, rfl, rfl, rfl⟩ (nle rfl) (nle rfl)
        · skip
          replace G := G.icmpT 307 at_287 (XT.ii_ne_t (ofn_ne h0e (by omega) (by omega))) (by decide) (by decide) |>.iconst 308 (0 : Int32) at_307 rfl rfl
          have hif : (if mkL 1 s0 s1 = mkL 1 p0' p1' then (1 : Int32) else 0) = 0 := by rw [if_neg (fun e => h0e (by have := congrArg (fun l : List Nat => l.getD 0 0) e; exact this))]
          rw [hif] at Fh
          replace G := G.istore 310 #[.val (.long i0), .second, .val (.long i1), .second, .val (.long i2), .second, .val (.int i3), .val (.int (Int32.ofNat nl)), .val (.int (Int32.ofNat n0')), .val (.int (Int32.ofNat n1)), .val (.int (Int32.ofNat 1)), .val (.int (Int32.ofNat s0)), .val (.int (Int32.ofNat s1)), .val (.int (Int32.ofNat 1)), .val (.int (Int32.ofNat p0')), .val (.int (Int32.ofNat p1')), .val (.ref a1), .val (.ref a2), .val (.ref a3), .val (.ref q), .val (.ref t), .val (.int (1 : Int32)), .val (.int (1 : Int32)), .val (.int (0 : Int32))] at_308 rfl rfl |>.iload 312 at_310 rfl rfl |>.ifF 315 at_312 (XT.i0_eq_f (by decide)) rfl |>.iload 317 at_315 rfl rfl |>.ifF 320 at_317 (XT.i0_eq_f (by decide)) rfl |>.aload 322 at_320 rfl rfl rfl
          obtain ⟨vhh, g_h, sohh, G', Khh, Qhh⟩ := G.callV 325 (hw _ (mm 211 rfl)) (hw _ (mm 212 rfl)) (nfSel (hw _ (mm 214 rfl))) (hw _ (mm 214 rfl)) (hw _ (mm 213 rfl)) (hw _ (mm 39 rfl)) (hw _ (mm 215 rfl)) Xq (by decide) [] [] rfl (c_holds l Z a0 hw hEW n0 c1 hc1 S1 v2 hv2 S2 S3 S4 S5 q 0 G.old (by decide) Fh) (lenOf pd___Z rfl) at_322 rfl (nle rfl) (nle rfl) (nle rfl) (nle rfl) all0 all0 all0 rfl
          replace G := G'; clear G'
          obtain ⟨whh, qhh, rfl, ehh, rfl⟩ := Qhh
          replace G := G.val qhh
          subst ehh
          replace G := G.iload 327 at_325 rfl rfl |>.icmpF 330 at_327 (XT.ii_ne_f rfl) rfl |>.iconst 331 (1 : Int32) at_330 rfl rfl |>.goto 335 at_331 (by decide) (by decide)
          exact G.retN hret (Or.inl rfl) hlk at_335 [] all0 ⟨_, rfl, rfl, rfl⟩ (nle rfl) (nle rfl)
      · skip
        replace G := G.icmpF 283 at_280 (XT.ii_lt_f (by decide)) rfl |>.iload 285 at_283 rfl rfl |>.iload 287 at_285 rfl rfl
        rcases Decidable.em (s0 = p0') with h0e | h0e
        · skip
          replace G := G.icmpF 290 at_287 (XT.ii_ne_f (by rw [h0e])) rfl |>.iload 292 at_290 rfl rfl |>.iconst 293 (2 : Int32) at_292 rfl rfl |>.icmpF 296 at_293 (XT.ii_lt_f (by decide)) rfl |>.iload 298 at_296 rfl rfl |>.iload 300 at_298 rfl rfl
          rcases Decidable.em (s1 = p1') with h1e | h1e
          · skip
            replace G := G.icmpF 303 at_300 (XT.ii_ne_f (by rw [h1e])) rfl |>.iconst 304 (1 : Int32) at_303 rfl rfl |>.goto 308 at_304 (by decide) (by decide)
            have hif : (if mkL 2 s0 s1 = mkL 2 p0' p1' then (1 : Int32) else 0) = 1 := by rw [if_pos (by rw [h0e, h1e])]
            rw [hif] at Fh
            replace G := G.istore 310 #[.val (.long i0), .second, .val (.long i1), .second, .val (.long i2), .second, .val (.int i3), .val (.int (Int32.ofNat nl)), .val (.int (Int32.ofNat n0')), .val (.int (Int32.ofNat n1)), .val (.int (Int32.ofNat 2)), .val (.int (Int32.ofNat s0)), .val (.int (Int32.ofNat s1)), .val (.int (Int32.ofNat 2)), .val (.int (Int32.ofNat p0')), .val (.int (Int32.ofNat p1')), .val (.ref a1), .val (.ref a2), .val (.ref a3), .val (.ref q), .val (.ref t), .val (.int (1 : Int32)), .val (.int (1 : Int32)), .val (.int (1 : Int32))] at_308 rfl rfl |>.iload 312 at_310 rfl rfl |>.ifF 315 at_312 (XT.i0_eq_f (by decide)) rfl |>.iload 317 at_315 rfl rfl |>.ifF 320 at_317 (XT.i0_eq_f (by decide)) rfl |>.aload 322 at_320 rfl rfl rfl
            obtain ⟨vhh, g_h, sohh, G', Khh, Qhh⟩ := G.callV 325 (hw _ (mm 211 rfl)) (hw _ (mm 212 rfl)) (nfSel (hw _ (mm 214 rfl))) (hw _ (mm 214 rfl)) (hw _ (mm 213 rfl)) (hw _ (mm 39 rfl)) (hw _ (mm 215 rfl)) Xq (by decide) [] [] rfl (c_holds l Z a0 hw hEW n0 c1 hc1 S1 v2 hv2 S2 S3 S4 S5 q 1 G.old (by decide) Fh) (lenOf pd___Z rfl) at_322 rfl (nle rfl) (nle rfl) (nle rfl) (nle rfl) all0 all0 all0 rfl
            replace G := G'; clear G'
            obtain ⟨whh, qhh, rfl, ehh, rfl⟩ := Qhh
            replace G := G.val qhh
            subst ehh
            replace G := G.iload 327 at_325 rfl rfl |>.icmpF 330 at_327 (XT.ii_ne_f rfl) rfl |>.iconst 331 (1 : Int32) at_330 rfl rfl |>.goto 335 at_331 (by decide) (by decide)
            exact G.retN hret (Or.inl rfl) hlk at_335 [] all0 ⟨_, rfl, rfl, rfl⟩ (nle rfl) (nle rfl)
          · skip
            replace G := G.icmpT 307 at_300 (XT.ii_ne_t (ofn_ne h1e (by omega) (by omega))) (by decide) (by decide) |>.iconst 308 (0 : Int32) at_307 rfl rfl
            have hif : (if mkL 2 s0 s1 = mkL 2 p0' p1' then (1 : Int32) else 0) = 0 := by rw [if_neg (fun e => h1e (by have := congrArg (fun l : List Nat => l.getD 1 0) e; exact this))]
            rw [hif] at Fh
            replace G := G.istore 310 #[.val (.long i0), .second, .val (.long i1), .second, .val (.long i2), .second, .val (.int i3), .val (.int (Int32.ofNat nl)), .val (.int (Int32.ofNat n0')), .val (.int (Int32.ofNat n1)), .val (.int (Int32.ofNat 2)), .val (.int (Int32.ofNat s0)), .val (.int (Int32.ofNat s1)), .val (.int (Int32.ofNat 2)), .val (.int (Int32.ofNat p0')), .val (.int (Int32.ofNat p1')), .val (.ref a1), .val (.ref a2), .val (.ref a3), .val (.ref q), .val (.ref t), .val (.int (1 : Int32)), .val (.int (1 : Int32)), .val (.int (0 : Int32))] at_308 rfl rfl |>.iload 312 at_310 rfl rfl |>.ifF 315 at_312 (XT.i0_eq_f (by decide)) rfl |>.iload 317 at_315 rfl rfl |>.ifF 320 at_317 (XT.i0_eq_f (by decide)) rfl |>.aload 322 at_320 rfl rfl rfl
            obtain ⟨vhh, g_h, sohh, G', Khh, Qhh⟩ := G.callV 325 (hw _ (mm 211 rfl)) (hw _ (mm 212 rfl)) (nfSel (hw _ (mm 214 rfl))) (hw _ (mm 214 rfl)) (hw _ (mm 213 rfl)) (hw _ (mm 39 rfl)) (hw _ (mm 215 rfl)) Xq (by decide) [] [] rfl (c_holds l Z a0 hw hEW n0 c1 hc1 S1 v2 hv2 S2 S3 S4 S5 q 0 G.old (by decide) Fh) (lenOf pd___Z rfl) at_322 rfl (nle rfl) (nle rfl) (nle rfl) (nle rfl) all0 all0 all0 rfl
            replace G := G'; clear G'
            obtain ⟨whh, qhh, rfl, ehh, rfl⟩ := Qhh
            replace G := G.val qhh
            subst ehh
            replace G := G.iload 327 at_325 rfl rfl |>.icmpF 330 at_327 (XT.ii_ne_f rfl) rfl |>.iconst 331 (1 : Int32) at_330 rfl rfl |>.goto 335 at_331 (by decide) (by decide)
            exact G.retN hret (Or.inl rfl) hlk at_335 [] all0 ⟨_, rfl, rfl, rfl⟩ (nle rfl) (nle rfl)
        · skip
          replace G := G.icmpT 307 at_287 (XT.ii_ne_t (ofn_ne h0e (by omega) (by omega))) (by decide) (by decide) |>.iconst 308 (0 : Int32) at_307 rfl rfl
          have hif : (if mkL 2 s0 s1 = mkL 2 p0' p1' then (1 : Int32) else 0) = 0 := by rw [if_neg (fun e => h0e (by have := congrArg (fun l : List Nat => l.getD 0 0) e; exact this))]
          rw [hif] at Fh
          replace G := G.istore 310 #[.val (.long i0), .second, .val (.long i1), .second, .val (.long i2), .second, .val (.int i3), .val (.int (Int32.ofNat nl)), .val (.int (Int32.ofNat n0')), .val (.int (Int32.ofNat n1)), .val (.int (Int32.ofNat 2)), .val (.int (Int32.ofNat s0)), .val (.int (Int32.ofNat s1)), .val (.int (Int32.ofNat 2)), .val (.int (Int32.ofNat p0')), .val (.int (Int32.ofNat p1')), .val (.ref a1), .val (.ref a2), .val (.ref a3), .val (.ref q), .val (.ref t), .val (.int (1 : Int32)), .val (.int (1 : Int32)), .val (.int (0 : Int32))] at_308 rfl rfl |>.iload 312 at_310 rfl rfl |>.ifF 315 at_312 (XT.i0_eq_f (by decide)) rfl |>.iload 317 at_315 rfl rfl |>.ifF 320 at_317 (XT.i0_eq_f (by decide)) rfl |>.aload 322 at_320 rfl rfl rfl
          obtain ⟨vhh, g_h, sohh, G', Khh, Qhh⟩ := G.callV 325 (hw _ (mm 211 rfl)) (hw _ (mm 212 rfl)) (nfSel (hw _ (mm 214 rfl))) (hw _ (mm 214 rfl)) (hw _ (mm 213 rfl)) (hw _ (mm 39 rfl)) (hw _ (mm 215 rfl)) Xq (by decide) [] [] rfl (c_holds l Z a0 hw hEW n0 c1 hc1 S1 v2 hv2 S2 S3 S4 S5 q 0 G.old (by decide) Fh) (lenOf pd___Z rfl) at_322 rfl (nle rfl) (nle rfl) (nle rfl) (nle rfl) all0 all0 all0 rfl
          replace G := G'; clear G'
          obtain ⟨whh, qhh, rfl, ehh, rfl⟩ := Qhh
          replace G := G.val qhh
          subst ehh
          replace G := G.iload 327 at_325 rfl rfl |>.icmpF 330 at_327 (XT.ii_ne_f rfl) rfl |>.iconst 331 (1 : Int32) at_330 rfl rfl |>.goto 335 at_331 (by decide) (by decide)
          exact G.retN hret (Or.inl rfl) hlk at_335 [] all0 ⟨_, rfl, rfl, rfl⟩ (nle rfl) (nle rfl)
    · skip
      replace G := G.icmpT 307 at_274 (XT.ii_ne_t (ofn_ne hq (by omega) (by omega))) (by decide) (by decide) |>.iconst 308 (0 : Int32) at_307 rfl rfl
      have hif : (if mkL sl s0 s1 = mkL pl' p0' p1' then (1 : Int32) else 0) = 0 := by rw [if_neg (fun e => hq (by have := congrArg List.length e; rw [l2, l3] at this; exact this))]
      rw [hif] at Fh
      replace G := G.istore 310 #[.val (.long i0), .second, .val (.long i1), .second, .val (.long i2), .second, .val (.int i3), .val (.int (Int32.ofNat nl)), .val (.int (Int32.ofNat n0')), .val (.int (Int32.ofNat n1)), .val (.int (Int32.ofNat sl)), .val (.int (Int32.ofNat s0)), .val (.int (Int32.ofNat s1)), .val (.int (Int32.ofNat pl')), .val (.int (Int32.ofNat p0')), .val (.int (Int32.ofNat p1')), .val (.ref a1), .val (.ref a2), .val (.ref a3), .val (.ref q), .val (.ref t), .val (.int (1 : Int32)), .val (.int (1 : Int32)), .val (.int (0 : Int32))] at_308 rfl rfl |>.iload 312 at_310 rfl rfl |>.ifF 315 at_312 (XT.i0_eq_f (by decide)) rfl |>.iload 317 at_315 rfl rfl |>.ifF 320 at_317 (XT.i0_eq_f (by decide)) rfl |>.aload 322 at_320 rfl rfl rfl
      obtain ⟨vhh, g_h, sohh, G', Khh, Qhh⟩ := G.callV 325 (hw _ (mm 211 rfl)) (hw _ (mm 212 rfl)) (nfSel (hw _ (mm 214 rfl))) (hw _ (mm 214 rfl)) (hw _ (mm 213 rfl)) (hw _ (mm 39 rfl)) (hw _ (mm 215 rfl)) Xq (by decide) [] [] rfl (c_holds l Z a0 hw hEW n0 c1 hc1 S1 v2 hv2 S2 S3 S4 S5 q 0 G.old (by decide) Fh) (lenOf pd___Z rfl) at_322 rfl (nle rfl) (nle rfl) (nle rfl) (nle rfl) all0 all0 all0 rfl
      replace G := G'; clear G'
      obtain ⟨whh, qhh, rfl, ehh, rfl⟩ := Qhh
      replace G := G.val qhh
      subst ehh
      replace G := G.iload 327 at_325 rfl rfl |>.icmpF 330 at_327 (XT.ii_ne_f rfl) rfl |>.iconst 331 (1 : Int32) at_330 rfl rfl |>.goto 335 at_331 (by decide) (by decide)
      exact G.retN hret (Or.inl rfl) hlk at_335 [] all0 ⟨_, rfl, rfl, rfl⟩ (nle rfl) (nle rfl)
  rcases Decidable.em ((i3 &&& 1) = 0) with hm | hm
  · skip
    replace G := G.ifT 76 at_61 (XT.i0_eq_t hm) (by decide) (by decide)
    exact main pl p0 p1 h_pl h_p0 h_p1 G
  · skip
    replace G := G.ifF 64 at_61 (XT.i0_eq_f hm) rfl |>.iload 66 at_64 rfl rfl |>.istore 68 #[.val (.long i0), .second, .val (.long i1), .second, .val (.long i2), .second, .val (.int i3), .val (.int (Int32.ofNat nl)), .val (.int (Int32.ofNat n0')), .val (.int (Int32.ofNat n1)), .val (.int (Int32.ofNat sl)), .val (.int (Int32.ofNat s0)), .val (.int (Int32.ofNat s1)), .val (.int (Int32.ofNat sl)), .val (.int (Int32.ofNat p0)), .val (.int (Int32.ofNat p1)), .unset, .unset, .unset, .unset, .unset, .unset, .unset, .unset] at_66 rfl rfl |>.iload 70 at_68 rfl rfl |>.istore 72 #[.val (.long i0), .second, .val (.long i1), .second, .val (.long i2), .second, .val (.int i3), .val (.int (Int32.ofNat nl)), .val (.int (Int32.ofNat n0')), .val (.int (Int32.ofNat n1)), .val (.int (Int32.ofNat sl)), .val (.int (Int32.ofNat s0)), .val (.int (Int32.ofNat s1)), .val (.int (Int32.ofNat sl)), .val (.int (Int32.ofNat s0)), .val (.int (Int32.ofNat p1)), .unset, .unset, .unset, .unset, .unset, .unset, .unset, .unset] at_70 rfl rfl |>.iload 74 at_72 rfl rfl |>.istore 76 #[.val (.long i0), .second, .val (.long i1), .second, .val (.long i2), .second, .val (.int i3), .val (.int (Int32.ofNat nl)), .val (.int (Int32.ofNat n0')), .val (.int (Int32.ofNat n1)), .val (.int (Int32.ofNat sl)), .val (.int (Int32.ofNat s0)), .val (.int (Int32.ofNat s1)), .val (.int (Int32.ofNat sl)), .val (.int (Int32.ofNat s0)), .val (.int (Int32.ofNat s1)), .unset, .unset, .unset, .unset, .unset, .unset, .unset, .unset] at_74 rfl rfl
    exact main sl s0 s1 h_sl h_s0 h_s1 G
theorem comes_1 {Post : Tables → Env → Array Value → State → Outcome → State → Prop} (hpost : ∀ tb e args s v u, (limb_1_1.after args s (.returned v) u = true ∧ limb_1_2.after args s (.returned v) u = true ∧ True) → FramedW s (.returned v) u (Jvm.fieldLocs frame_1_writes args s ++ Jvm.arrayLocs frame_1_arrays args s ++ Jvm.staticLocs frame_1_statics s) 48 2368 → Post tb e args s (.returned v) u) :
    ArmFor flags0 classFile x code maxLocals ret World_1 tables_1 room_1 Calls_1 rest_1 Pre_1 Post := by
  intro l hfl _ _ p e ha hc hk s m args below hf hA hF happ hP
  obtain ⟨hcalls, hrest, hpre⟩ := hP
  obtain ⟨-, -, -, hnamed, -, -, -, hat⟩ := (Spec.applies_iff hf).mp happ
  obtain ⟨hg, hn⟩ := and_e (Cond.before_iff.mp (show (Jvm.Cond.and given_1 narrow_1).before args s = true from hpre))
  obtain ⟨hcnt, g0⟩ := and_e hg
  obtain ⟨a0, g1⟩ := and_e g0
  obtain ⟨a1, g2⟩ := and_e g1
  obtain ⟨a2, g3⟩ := and_e g2
  have a3 := g3
  obtain ⟨w0, w1, w2, w3, rfl⟩ : ∃ w0 w1 w2 w3 : Value, args = #[w0, w1, w2, w3] := by
    have hs : args.size = 4 := by simpa [Cond.value, given_1] using hcnt
    obtain ⟨L⟩ := args
    match L, hs with
    | [w0, w1, w2, w3], _ => exact ⟨w0, w1, w2, w3, rfl⟩
  have hw := fun d (hd : d ∈ tables_1) => atoms_spec (ws := Jvm.Cond.code x code maxLocals ret :: tables_1) hat d (List.mem_cons_of_mem _ hd)
  obtain ⟨hsets, hown0⟩ := atoms_of _ (rest_1_c_eq ▸ (show rest_1_c.before _ s = true from hrest))
  have hfit : Fit s := fun {y c} hc i hi => by
    obtain ⟨ha, rfl⟩ := Array.getElem?_eq_some_iff.mp hc
    have q := List.all_eq_true.mp ((Array.all_eq_true_iff_forall_mem.mp hF) _ (Array.getElem_mem ha)) i (List.mem_range.mpr hi)
    simpa [Array.getElem?_eq_getElem hi] using q
  obtain ⟨i0, e0⟩ := isL_v a0
  obtain rfl : w0 = (.long i0) := Option.some.inj e0
  obtain ⟨i1, e1⟩ := isL_v a1
  obtain rfl : w1 = (.long i1) := Option.some.inj e1
  obtain ⟨i2, e2⟩ := isL_v a2
  obtain rfl : w2 = (.long i2) := Option.some.inj e2
  obtain ⟨i3, e3⟩ := is_v a3
  obtain rfl : w3 = (.int i3) := Option.some.inj e3
  have hcompact : Jvm.Lit.compactW.before _ s = true := (hsets _ (mm 2 rfl))
  obtain ⟨c1, ec1⟩ := is_v (Cond.before_iff.mp (hsets _ (mm 1 rfl)))
  have S1 : Sta s s.heap "java/lang/String" "COMPACT_STRINGS" "Z" (.int c1) := Sta.start ec1 (Or.inl (hsets _ (mm 0 rfl)))
  have hc1 : ¬ (c1 = (0 : Int32)) := gotF (Cond.eq_ints ec1 (Term.int_eval (0))) (not_v (Cond.before_iff.mp hcompact))
  obtain ⟨v2, ev2, hv2⟩ := isR_v (Cond.before_iff.mp (hsets _ (mm 8 rfl)))
  have S2 : Sta s s.heap "jdk/internal/util/Preconditions" "SIOOBE_FORMATTER" "Ljava/util/function/BiFunction;" v2 := Sta.start ev2 (Or.inl (hsets _ (mm 7 rfl)))
  have S3 : Sta s s.heap "java/lang/StringUTF16" "$assertionsDisabled" "Z" (.int 1) := Sta.start (Cond.eq_int (hsets _ (mm 12 rfl)) rfl) (Or.inl (hsets _ (mm 11 rfl)))
  have S4 : Sta s s.heap "java/lang/StringUTF16" "HI_BYTE_SHIFT" "I" (.int 0) := Sta.start (Cond.eq_int (hsets _ (mm 15 rfl)) rfl) (Or.inl (hsets _ (mm 14 rfl)))
  have S5 : Sta s s.heap "java/lang/StringUTF16" "LO_BYTE_SHIFT" "I" (.int 8) := Sta.start (Cond.eq_int (hsets _ (mm 18 rfl)) rfl) (Or.inl (hsets _ (mm 17 rfl)))
  have hEW : EW s _ consts_1 := (EW.cons (hw _ (mm 109 rfl)) (by decide) (EW.cons (hw _ (mm 29 rfl)) (by decide) EW.nil))
  have hCH : CHv s consts_1 s.vm s.heap := CHv.start hEW (show ∀ p ∈ consts_1, Jvm.Lit.constHeld s p.1 p.2 from hcalls.1) hcompact (hw _ (mm 30 rfl)) (hw _ (mm 16 rfl))
  obtain ⟨n, o, h1, h2, h3, _, L, rfl, ⟨so, N, -, ⟨w, rfl, rfl, -⟩, -, -⟩, hq⟩ := c_law l s _ hw hEW s.heap.size c1 hc1 S1 v2 hv2 S2 S3 S4 S5 tables_1 i0 i1 i2 i3 (Old.start s) p e ha hc hk s m _ below hf ((Spec.applies_iff_loose hf).mp happ).1 ⟨rfl, State.Warmed39.refl s, rfl, hCH, fun _ q => nomatch q⟩ trivial
  refine ⟨n, _, h1, h2, h3, hpost _ _ _ _ _ _ ⟨Cond.after_iff.mpr rfl, Cond.after_iff.mpr (eq_i res_at (Term.int_eval (1)) rfl), trivial⟩ ⟨hq.1, hq.2.1, hq.2.2.1, (hq.2.2.2.sift fun y hy => Or.inr (N y hy)).mono (by decide) (by decide)⟩⟩
theorem main_1_1 : Claimed_1_1 := comes_1 fun _ _ _ _ _ _ h hF => ⟨h.1, hF⟩
theorem main_1_2 : Claimed_1_2 := comes_1 fun _ _ _ _ _ _ h hF => ⟨h.2.1, hF⟩
end Jvm.Pilot.@@N@@
namespace Jvm.Pilot.@@N@@
open Jvm Jvm.ClassFile Sem Op Lib Jvm.Free Jvm.Stand Jvm.Pilot.@@N@@.Jvm.D
/-! MADE BY PROGRAM (witnessworld.py) out of the Statement's table words and the real class files: 27 classes; the members and pool entries that the words name. The judged class is class 1, her method 7. -/
namespace start1
open Jvm.ClassFile
def u (s : String) : CpInfo := .utf8 (stringToUtf16 s)
/-- a pool by its gaps: so many unusable entries, then the entry; so many at the end -/
def gap : Nat → List CpInfo → List CpInfo
  | 0, r => r
  | n + 1, r => .unusable :: gap n r
def poolList (es : List (Nat × CpInfo)) (last : Nat) : List CpInfo := es.foldr (fun e r => gap e.1 (e.2 :: r)) (gap last [])
def pool (es : List (Nat × CpInfo)) (last : Nat) : Array CpInfo := ⟨poolList es last⟩
def fileOf (pool : Array CpInfo) (this : Nat) (attrs : Array Attribute := #[]) (ms : Array MethodInfo := #[]) (fl : Nat := 33) (sup : Nat := 0) (ifs : Array Nat := #[]) (fds : Array FieldInfo := #[]) : ClassFile where
  minorVersion := 0
  majorVersion := 65
  constantPool := pool
  accessFlags := fl
  thisClass := this
  superClass := sup
  interfaces := ifs
  fields := fds
  methods := ms
  attributes := attrs
def plain (name : String) (sup : Option ClassId) : Class where
  name := name
  kind := .ordinary
  loader := none
  accessFlags := 33
  super := sup
  interfaces := #[]
  cf := none
  fields := #[]
  methods := #[]
  instanceTypes := #[]
  staticTypes := #[]
  resolved := #[]
  callSites := []
  init := .initialized
  statics := none
  mirror := none

def pool0 : Array CpInfo := pool [(5, u "<init>"), (0, u "()V"), (1, .class_ 10), (1, u "java/lang/Object")] 113

def k0c0 : Code := { maxStack := 0, maxLocals := 1, code := object_method_1_code, exceptionTable := #[], attributes := #[] }
def k0m0 : Method := { name := "<init>", desc := "()V", sig := { parameters := [], returnType := none }, accessFlags := 1, code := some k0c0 }
/-- java/lang/Object -/
def k0 : Class := { plain "java/lang/Object" none with
  accessFlags := 33
  interfaces := #[]
  cf := some (fileOf pool0 8 #[] #[{ accessFlags := 1, nameIndex := 5, descriptorIndex := 6, attributes := #[] }] 33 0 #[] #[])
  fields := #[]
  methods := #[k0m0]
  instanceTypes := #[]
  staticTypes := #[]
  resolved := Array.replicate 124 none
  statics := none }

def pool1 : Array CpInfo := pool [(2, .class_ 4), (1, u "java/lang/Object"), (0, u "<init>"), (0, u "()V"), (0, .class_ 8), (0, u "java/lang/String"), (0, .methodref 7 10), (0, .nameAndType 5 11), (0, u "([C)V"), (0, .long 3), (1, .long 65535), (1, .methodref 7 17), (0, .nameAndType 18 19), (0, u "length"), (0, u "()I"), (0, .methodref 7 21), (0, .nameAndType 22 23), (0, u "charAt"), (0, u "(I)C"), (0, .methodref 25 26), (0, .class_ 27), (0, .nameAndType 28 29), (0, u "com/example/synclane/synclane/command/LineExpectPinLaw"), (0, u "expectedAt"), (0, u "(IICCCC)C"), (0, .methodref 25 31), (0, .nameAndType 32 33), (0, u "lenOf"), (0, u "(J)I"), (0, .methodref 25 35), (0, .nameAndType 36 37), (0, u "c0"), (0, u "(J)C"), (0, .methodref 25 39), (0, .nameAndType 40 37), (0, u "c1"), (0, .methodref 25 42), (0, .nameAndType 43 44), (0, u "mk"), (0, u "(ICC)Ljava/lang/String;"), (0, .methodref 46 47), (0, .class_ 48), (0, .nameAndType 49 50), (0, u "com/example/synclane/synclane/command/Line"), (0, u "expect"), (0, u "(Ljava/lang/String;Ljava/lang/String;Ljava/lang/String;)Lcom/example/synclane/synclane/command/Line;"), (0, .methodref 46 52), (0, .nameAndType 53 54), (0, u "text"), (0, u "()Ljava/lang/String;"), (0, .methodref 25 56), (0, .nameAndType 57 58), (0, u "ok"), (0, u "(Ljava/lang/String;IICCCC)Z"), (0, .methodref 46 60), (0, .nameAndType 61 62), (0, u "holds"), (0, u "()Z"), (3, u "law"), (0, u "(JJJI)Z")] 2

def k1m0 : Method := { name := "<init>", desc := "()V", sig := { parameters := [], returnType := none }, accessFlags := 1, code := none }
def k1c1 : Code := { maxStack := 6, maxLocals := 3, code := method_2_code, exceptionTable := #[], attributes := #[] }
def k1m1 : Method := { name := "mk", desc := "(ICC)Ljava/lang/String;", sig := { parameters := [.int, .char, .char], returnType := some (.object "java/lang/String") }, accessFlags := 10, code := some k1c1 }
def k1c2 : Code := { maxStack := 4, maxLocals := 2, code := method_3_code, exceptionTable := #[], attributes := #[] }
def k1m2 : Method := { name := "lenOf", desc := "(J)I", sig := { parameters := [.long], returnType := some .int }, accessFlags := 10, code := some k1c2 }
def k1c3 : Code := { maxStack := 4, maxLocals := 2, code := method_4_code, exceptionTable := #[], attributes := #[] }
def k1m3 : Method := { name := "c0", desc := "(J)C", sig := { parameters := [.long], returnType := some .char }, accessFlags := 10, code := some k1c3 }
def k1c4 : Code := { maxStack := 4, maxLocals := 2, code := method_5_code, exceptionTable := #[], attributes := #[] }
def k1m4 : Method := { name := "c1", desc := "(J)C", sig := { parameters := [.long], returnType := some .char }, accessFlags := 10, code := some k1c4 }
def k1c5 : Code := { maxStack := 3, maxLocals := 7, code := method_6_code, exceptionTable := #[], attributes := #[] }
def k1m5 : Method := { name := "expectedAt", desc := "(IICCCC)C", sig := { parameters := [.int, .int, .char, .char, .char, .char], returnType := some .char }, accessFlags := 10, code := some k1c5 }
def k1c6 : Code := { maxStack := 7, maxLocals := 7, code := method_7_code, exceptionTable := #[], attributes := #[] }
def k1m6 : Method := { name := "ok", desc := "(Ljava/lang/String;IICCCC)Z", sig := { parameters := [(.object "java/lang/String"), .int, .int, .char, .char, .char, .char], returnType := some .boolean }, accessFlags := 10, code := some k1c6 }
def k1c7 : Code := { maxStack := 7, maxLocals := 24, code := code, exceptionTable := #[], attributes := #[] }
def k1m7 : Method := { name := "law", desc := "(JJJI)Z", sig := { parameters := [.long, .long, .long, .int], returnType := some .boolean }, accessFlags := 9, code := some k1c7 }
/-- com/example/synclane/synclane/command/LineExpectPinLaw -/
def k1 : Class := { plain "com/example/synclane/synclane/command/LineExpectPinLaw" (some 0) with
  accessFlags := 49
  interfaces := #[]
  cf := some (fileOf pool1 25 #[] #[{ accessFlags := 1, nameIndex := 5, descriptorIndex := 6, attributes := #[] }, { accessFlags := 10, nameIndex := 43, descriptorIndex := 44, attributes := #[] }, { accessFlags := 10, nameIndex := 32, descriptorIndex := 33, attributes := #[] }, { accessFlags := 10, nameIndex := 36, descriptorIndex := 37, attributes := #[] }, { accessFlags := 10, nameIndex := 40, descriptorIndex := 37, attributes := #[] }, { accessFlags := 10, nameIndex := 28, descriptorIndex := 29, attributes := #[] }, { accessFlags := 10, nameIndex := 57, descriptorIndex := 58, attributes := #[] }, { accessFlags := 9, nameIndex := 66, descriptorIndex := 67, attributes := #[] }] 49 2 #[] #[])
  fields := #[]
  methods := #[k1m0, k1m1, k1m2, k1m3, k1m4, k1m5, k1m6, k1m7]
  instanceTypes := #[]
  staticTypes := #[]
  resolved := Array.replicate 70 none
  statics := none }

def pool2 : Array CpInfo := pool [(1, .class_ 2), (0, u "java/io/Serializable"), (0, .class_ 4), (0, u "java/lang/Object")] 2

/-- java/io/Serializable -/
def k2 : Class := { plain "java/io/Serializable" (some 0) with
  accessFlags := 1537
  interfaces := #[]
  cf := some (fileOf pool2 1 #[] #[] 1537 3 #[] #[])
  fields := #[]
  methods := #[]
  instanceTypes := #[]
  staticTypes := #[]
  resolved := Array.replicate 7 none
  statics := none }

def pool3 : Array CpInfo := pool [(1, .class_ 2), (0, u "java/lang/Comparable"), (0, .class_ 4), (0, u "java/lang/Object")] 7

/-- java/lang/Comparable -/
def k3 : Class := { plain "java/lang/Comparable" (some 0) with
  accessFlags := 1537
  interfaces := #[]
  cf := some (fileOf pool3 1 #[] #[] 1537 3 #[] #[])
  fields := #[]
  methods := #[]
  instanceTypes := #[]
  staticTypes := #[]
  resolved := Array.replicate 12 none
  statics := none }

def pool4 : Array CpInfo := pool [(2, .class_ 4), (1, u "java/lang/CharSequence"), (42, .class_ 48), (0, u "java/lang/CharSequence$1CodePointIterator"), (10, .class_ 60), (0, u "java/lang/CharSequence$1CharIterator"), (5, .class_ 67), (0, u "java/lang/Object")] 63

/-- java/lang/CharSequence -/
def k4 : Class := { plain "java/lang/CharSequence" (some 0) with
  accessFlags := 1537
  interfaces := #[]
  cf := some (fileOf pool4 2 #[.nestMembers #[47, 59]] #[] 1537 66 #[] #[])
  fields := #[]
  methods := #[]
  instanceTypes := #[]
  staticTypes := #[]
  resolved := Array.replicate 131 none
  statics := none }

def pool5 : Array CpInfo := pool [(1, .class_ 2), (0, u "java/lang/constant/Constable"), (0, .class_ 4), (0, u "java/lang/Object")] 6

/-- java/lang/constant/Constable -/
def k5 : Class := { plain "java/lang/constant/Constable" (some 0) with
  accessFlags := 1537
  interfaces := #[]
  cf := some (fileOf pool5 1 #[] #[] 1537 3 #[] #[])
  fields := #[]
  methods := #[]
  instanceTypes := #[]
  staticTypes := #[]
  resolved := Array.replicate 11 none
  statics := none }

def pool6 : Array CpInfo := pool [(1, .class_ 2), (0, u "java/lang/constant/ConstantDesc"), (0, .class_ 4), (0, u "java/lang/Object")] 32

/-- java/lang/constant/ConstantDesc -/
def k6 : Class := { plain "java/lang/constant/ConstantDesc" (some 0) with
  accessFlags := 1537
  interfaces := #[]
  cf := some (fileOf pool6 1 #[] #[] 1537 3 #[] #[])
  fields := #[]
  methods := #[]
  instanceTypes := #[]
  staticTypes := #[]
  resolved := Array.replicate 37 none
  statics := none }

def pool7 : Array CpInfo := pool [(1, .methodref 2 3), (0, .class_ 4), (0, .nameAndType 5 6), (0, u "java/lang/Object"), (0, u "<init>"), (0, u "()V"), (0, .string 8), (0, u ""), (0, .fieldref 10 11), (0, .class_ 12), (0, .nameAndType 13 14), (0, u "java/lang/String"), (0, u "value"), (0, u "[B"), (0, .fieldref 10 16), (0, .nameAndType 17 18), (0, u "coder"), (0, u "B"), (2, u "hash"), (0, u "I"), (2, u "hashIsZero"), (0, u "Z"), (0, .methodref 10 28), (0, .nameAndType 5 29), (0, u "([CIILjava/lang/Void;)V"), (6, u "checkBoundsOffCount"), (0, u "(III)I"), (0, .fieldref 10 39), (0, .nameAndType 40 26), (0, u "COMPACT_STRINGS"), (1, .class_ 44), (1, u "java/lang/StringUTF16"), (0, u "compress"), (1, .methodref 42 48), (0, .nameAndType 49 50), (0, u "coderFromArrayLen"), (0, u "([BI)B"), (3, .methodref 55 56), (0, .class_ 57), (0, .nameAndType 58 59), (0, u "java/util/Arrays"), (0, u "copyOfRange"), (0, u "([BII)[B"), (46, .methodref 107 108), (0, .class_ 109), (0, .nameAndType 110 111), (0, u "java/lang/StringLatin1"), (0, u "inflate"), (0, u "([BI[BII)V"), (30, u "()Z"), (34, .methodref 42 178), (0, .nameAndType 45 179), (0, u "([CII)[B"), (13, .class_ 195), (1, u "java/lang/System"), (16, .methodref 193 213), (0, .nameAndType 214 215), (0, u "arraycopy"), (0, u "(Ljava/lang/Object;ILjava/lang/Object;II)V"), (118, u "()I"), (0, .methodref 10 336), (0, .nameAndType 17 337), (0, u "()B"), (2, u "()[B"), (22, u "([BI)C"), (27, u "(II)V"), (35, u "(I)C"), (61, .methodref 10 490), (0, .nameAndType 5 491), (0, u "(Ljava/lang/AbstractStringBuilder;Ljava/lang/Void;)V"), (0, .methodref 10 493), (0, .nameAndType 494 142), (0, u "isLatin1"), (0, .methodref 107 496), (0, .nameAndType 497 363), (0, u "charAt"), (0, .methodref 42 496), (2, u "checkIndex"), (4, .nameAndType 507 334), (0, u "length"), (24, u "getBytes"), (8, .methodref 107 542), (0, .nameAndType 543 544), (0, u "equals"), (0, u "([B[B)Z"), (4, .methodref 550 506), (0, .class_ 551), (0, u "java/lang/AbstractStringBuilder"), (0, .methodref 550 553), (0, .nameAndType 554 340), (0, u "getValue"), (18, u "(Ljava/lang/Object;)Z"), (1, .class_ 576), (0, u "java/lang/CharSequence"), (22, u "CASE_INSENSITIVE_ORDER"), (0, u "Ljava/util/Comparator;"), (220, u "([BIB)V"), (188, u "([C)V"), (36, .methodref 550 493), (0, .fieldref 550 1049), (0, .nameAndType 1050 26), (0, u "maybeLatin1"), (2, .fieldref 1054 1055), (0, .class_ 1056), (0, .nameAndType 1057 1058), (0, u "jdk/internal/util/Preconditions"), (0, u "SIOOBE_FORMATTER"), (0, u "Ljava/util/function/BiFunction;"), (0, .methodref 1054 1060), (0, .nameAndType 501 1061), (0, u "(IILjava/util/function/BiFunction;)I"), (2, u "(IIILjava/util/function/BiFunction;)I"), (0, .methodref 1054 1066), (0, .nameAndType 1067 1064), (0, u "checkFromIndexSize"), (33, u "serialPersistentFields"), (0, u "[Ljava/io/ObjectStreamField;"), (0, .class_ 1104), (0, u "java/lang/String$CaseInsensitiveComparator"), (1, .class_ 1107), (0, u "java/io/Serializable"), (0, .class_ 1109), (0, u "java/lang/Comparable"), (0, .class_ 1111), (0, u "java/lang/constant/Constable"), (0, .class_ 1113), (0, u "java/lang/constant/ConstantDesc"), (2, u "serialVersionUID"), (0, u "J"), (3, u "REPL"), (0, u "C"), (2, u "LATIN1"), (1, u "UTF16"), (105, u "(Ljava/lang/StringBuilder;)V")] 217

def k7m0 : Method := { name := "<init>", desc := "()V", sig := { parameters := [], returnType := none }, accessFlags := 1, code := none }
def k7c1 : Code := { maxStack := 5, maxLocals := 2, code := jdk_42_method_3_code, exceptionTable := #[], attributes := #[] }
def k7m1 : Method := { name := "<init>", desc := "([C)V", sig := { parameters := [(.array .char)], returnType := none }, accessFlags := 1, code := some k7c1 }
def k7c2 : Code := { maxStack := 3, maxLocals := 2, code := jdk_42_method_53_code, exceptionTable := #[], attributes := #[] }
def k7m2 : Method := { name := "<init>", desc := "(Ljava/lang/StringBuilder;)V", sig := { parameters := [(.object "java/lang/StringBuilder")], returnType := none }, accessFlags := 1, code := some k7c2 }
def k7c3 : Code := { maxStack := 2, maxLocals := 1, code := jdk_42_method_54_code, exceptionTable := #[], attributes := #[] }
def k7m3 : Method := { name := "length", desc := "()I", sig := { parameters := [], returnType := some .int }, accessFlags := 1, code := some k7c3 }
def k7c4 : Code := { maxStack := 2, maxLocals := 2, code := jdk_42_method_56_code, exceptionTable := #[], attributes := #[] }
def k7m4 : Method := { name := "charAt", desc := "(I)C", sig := { parameters := [.int], returnType := some .char }, accessFlags := 1, code := some k7c4 }
def k7c5 : Code := { maxStack := 2, maxLocals := 3, code := jdk_42_method_66_code, exceptionTable := #[], attributes := #[] }
def k7m5 : Method := { name := "equals", desc := "(Ljava/lang/Object;)Z", sig := { parameters := [(.object "java/lang/Object")], returnType := some .boolean }, accessFlags := 1, code := some k7c5 }
def k7c6 : Code := { maxStack := 5, maxLocals := 4, code := jdk_42_method_147_code, exceptionTable := #[], attributes := #[] }
def k7m6 : Method := { name := "getBytes", desc := "([BIB)V", sig := { parameters := [(.array .byte), .int, .byte], returnType := none }, accessFlags := 0, code := some k7c6 }
def k7c7 : Code := { maxStack := 4, maxLocals := 6, code := jdk_42_method_149_code, exceptionTable := #[], attributes := #[] }
def k7m7 : Method := { name := "<init>", desc := "([CIILjava/lang/Void;)V", sig := { parameters := [(.array .char), .int, .int, (.object "java/lang/Void")], returnType := none }, accessFlags := 2, code := some k7c7 }
def k7c8 : Code := { maxStack := 5, maxLocals := 5, code := jdk_42_method_150_code, exceptionTable := #[], attributes := #[] }
def k7m8 : Method := { name := "<init>", desc := "(Ljava/lang/AbstractStringBuilder;Ljava/lang/Void;)V", sig := { parameters := [(.object "java/lang/AbstractStringBuilder"), (.object "java/lang/Void")], returnType := none }, accessFlags := 0, code := some k7c8 }
def k7c9 : Code := { maxStack := 1, maxLocals := 1, code := jdk_42_method_152_code, exceptionTable := #[], attributes := #[] }
def k7m9 : Method := { name := "coder", desc := "()B", sig := { parameters := [], returnType := some .byte }, accessFlags := 0, code := some k7c9 }
def k7c10 : Code := { maxStack := 1, maxLocals := 1, code := jdk_42_method_154_code, exceptionTable := #[], attributes := #[] }
def k7m10 : Method := { name := "isLatin1", desc := "()Z", sig := { parameters := [], returnType := some .boolean }, accessFlags := 0, code := some k7c10 }
def k7c11 : Code := { maxStack := 3, maxLocals := 2, code := jdk_42_method_155_code, exceptionTable := #[], attributes := #[] }
def k7m11 : Method := { name := "checkIndex", desc := "(II)V", sig := { parameters := [.int, .int], returnType := none }, accessFlags := 8, code := some k7c11 }
def k7c12 : Code := { maxStack := 4, maxLocals := 3, code := jdk_42_method_157_code, exceptionTable := #[], attributes := #[] }
def k7m12 : Method := { name := "checkBoundsOffCount", desc := "(III)I", sig := { parameters := [.int, .int, .int], returnType := some .int }, accessFlags := 8, code := some k7c12 }
/-- java/lang/String -/
def k7 : Class := { plain "java/lang/String" (some 0) with
  accessFlags := 49
  interfaces := #[2, 3, 4, 5, 6]
  cf := some (fileOf pool7 10 #[.nestMembers #[1103]] #[{ accessFlags := 1, nameIndex := 5, descriptorIndex := 6, attributes := #[] }, { accessFlags := 1, nameIndex := 5, descriptorIndex := 1010, attributes := #[] }, { accessFlags := 1, nameIndex := 5, descriptorIndex := 1233, attributes := #[] }, { accessFlags := 1, nameIndex := 507, descriptorIndex := 334, attributes := #[] }, { accessFlags := 1, nameIndex := 497, descriptorIndex := 427, attributes := #[] }, { accessFlags := 1, nameIndex := 543, descriptorIndex := 573, attributes := #[] }, { accessFlags := 0, nameIndex := 532, descriptorIndex := 821, attributes := #[] }, { accessFlags := 2, nameIndex := 5, descriptorIndex := 29, attributes := #[] }, { accessFlags := 0, nameIndex := 5, descriptorIndex := 491, attributes := #[] }, { accessFlags := 0, nameIndex := 17, descriptorIndex := 337, attributes := #[] }, { accessFlags := 0, nameIndex := 494, descriptorIndex := 142, attributes := #[] }, { accessFlags := 8, nameIndex := 501, descriptorIndex := 391, attributes := #[] }, { accessFlags := 8, nameIndex := 36, descriptorIndex := 37, attributes := #[] }] 49 2 #[1106, 1108, 575, 1110, 1112] #[{ accessFlags := 18, nameIndex := 13, descriptorIndex := 14, attributes := #[] }, { accessFlags := 18, nameIndex := 17, descriptorIndex := 18, attributes := #[] }, { accessFlags := 2, nameIndex := 21, descriptorIndex := 22, attributes := #[] }, { accessFlags := 2, nameIndex := 25, descriptorIndex := 26, attributes := #[] }, { accessFlags := 26, nameIndex := 1116, descriptorIndex := 1117, attributes := #[] }, { accessFlags := 24, nameIndex := 40, descriptorIndex := 26, attributes := #[] }, { accessFlags := 26, nameIndex := 1101, descriptorIndex := 1102, attributes := #[] }, { accessFlags := 26, nameIndex := 1121, descriptorIndex := 1122, attributes := #[] }, { accessFlags := 25, nameIndex := 599, descriptorIndex := 600, attributes := #[] }, { accessFlags := 24, nameIndex := 1125, descriptorIndex := 18, attributes := #[] }, { accessFlags := 24, nameIndex := 1127, descriptorIndex := 18, attributes := #[] }])
  fields := #[{ name := "value", type := (.array .byte), accessFlags := 18, slot := 0, constantValue := 0 }, { name := "coder", type := .byte, accessFlags := 18, slot := 1, constantValue := 0 }, { name := "hash", type := .int, accessFlags := 2, slot := 2, constantValue := 0 }, { name := "hashIsZero", type := .boolean, accessFlags := 2, slot := 3, constantValue := 0 }, { name := "serialVersionUID", type := .long, accessFlags := 26, slot := 0, constantValue := 0 }, { name := "COMPACT_STRINGS", type := .boolean, accessFlags := 24, slot := 1, constantValue := 0 }, { name := "serialPersistentFields", type := (.array (.object "java/io/ObjectStreamField")), accessFlags := 26, slot := 2, constantValue := 0 }, { name := "REPL", type := .char, accessFlags := 26, slot := 3, constantValue := 0 }, { name := "CASE_INSENSITIVE_ORDER", type := (.object "java/util/Comparator"), accessFlags := 25, slot := 4, constantValue := 0 }, { name := "LATIN1", type := .byte, accessFlags := 24, slot := 5, constantValue := 0 }, { name := "UTF16", type := .byte, accessFlags := 24, slot := 6, constantValue := 0 }]
  methods := #[k7m0, k7m1, k7m2, k7m3, k7m4, k7m5, k7m6, k7m7, k7m8, k7m9, k7m10, k7m11, k7m12]
  instanceTypes := #[(.array .byte), .byte, .int, .boolean]
  staticTypes := #[.long, .boolean, (.array (.object "java/io/ObjectStreamField")), .char, (.object "java/util/Comparator"), .byte, .byte]
  resolved := Array.replicate 1451 none
  statics := some 0 }

def pool8 : Array CpInfo := pool [(1, .methodref 2 3), (0, .class_ 4), (0, .nameAndType 5 6), (0, u "java/lang/Object"), (0, u "<init>"), (0, u "()V"), (0, .class_ 8), (0, u "java/lang/Record")] 13

def k8c0 : Code := { maxStack := 1, maxLocals := 1, code := jdk_30_method_1_code, exceptionTable := #[], attributes := #[] }
def k8m0 : Method := { name := "<init>", desc := "()V", sig := { parameters := [], returnType := none }, accessFlags := 4, code := some k8c0 }
/-- java/lang/Record -/
def k8 : Class := { plain "java/lang/Record" (some 0) with
  accessFlags := 1057
  interfaces := #[]
  cf := some (fileOf pool8 7 #[] #[{ accessFlags := 4, nameIndex := 5, descriptorIndex := 6, attributes := #[] }] 1057 2 #[] #[])
  fields := #[]
  methods := #[k8m0]
  instanceTypes := #[]
  staticTypes := #[]
  resolved := Array.replicate 22 none
  statics := none }

def pool9 : Array CpInfo := pool [(1, .methodref 2 3), (0, .class_ 4), (0, .nameAndType 5 6), (0, u "java/lang/Record"), (0, u "<init>"), (0, u "()V"), (0, .fieldref 8 9), (0, .class_ 10), (0, .nameAndType 11 12), (0, u "com/example/synclane/synclane/command/Line"), (0, u "text"), (0, u "Ljava/lang/String;"), (0, .fieldref 8 14), (0, .nameAndType 15 16), (0, u "holds"), (0, u "Z"), (0, .class_ 18), (0, u "java/lang/StringBuilder"), (0, .methodref 17 3), (0, .methodref 17 21), (0, .nameAndType 22 23), (0, u "append"), (0, u "(Ljava/lang/String;)Ljava/lang/StringBuilder;"), (0, .string 25), (0, u ": "), (0, .methodref 17 27), (0, .nameAndType 28 29), (0, u "toString"), (0, u "()Ljava/lang/String;"), (0, .methodref 31 32), (0, .class_ 33), (0, .nameAndType 34 35), (0, u "java/lang/String"), (0, u "equals"), (0, u "(Ljava/lang/Object;)Z"), (0, .methodref 8 37), (0, .nameAndType 5 38), (0, u "(Ljava/lang/String;Z)V"), (28, u "()Z"), (27, u "expect"), (0, u "(Ljava/lang/String;Ljava/lang/String;Ljava/lang/String;)Lcom/example/synclane/synclane/command/Line;")] 31

def k9c0 : Code := { maxStack := 2, maxLocals := 3, code := prog_28_method_1_code, exceptionTable := #[], attributes := #[] }
def k9m0 : Method := { name := "<init>", desc := "(Ljava/lang/String;Z)V", sig := { parameters := [(.object "java/lang/String"), .boolean], returnType := none }, accessFlags := 0, code := some k9c0 }
def k9c1 : Code := { maxStack := 5, maxLocals := 3, code := prog_28_method_2_code, exceptionTable := #[], attributes := #[] }
def k9m1 : Method := { name := "expect", desc := "(Ljava/lang/String;Ljava/lang/String;Ljava/lang/String;)Lcom/example/synclane/synclane/command/Line;", sig := { parameters := [(.object "java/lang/String"), (.object "java/lang/String"), (.object "java/lang/String")], returnType := some (.object "com/example/synclane/synclane/command/Line") }, accessFlags := 8, code := some k9c1 }
def k9c2 : Code := { maxStack := 1, maxLocals := 1, code := prog_28_method_9_code, exceptionTable := #[], attributes := #[] }
def k9m2 : Method := { name := "text", desc := "()Ljava/lang/String;", sig := { parameters := [], returnType := some (.object "java/lang/String") }, accessFlags := 1, code := some k9c2 }
def k9c3 : Code := { maxStack := 1, maxLocals := 1, code := prog_28_method_10_code, exceptionTable := #[], attributes := #[] }
def k9m3 : Method := { name := "holds", desc := "()Z", sig := { parameters := [], returnType := some .boolean }, accessFlags := 1, code := some k9c3 }
/-- com/example/synclane/synclane/command/Line -/
def k9 : Class := { plain "com/example/synclane/synclane/command/Line" (some 8) with
  accessFlags := 48
  interfaces := #[]
  cf := some (fileOf pool9 8 #[] #[{ accessFlags := 0, nameIndex := 5, descriptorIndex := 38, attributes := #[] }, { accessFlags := 8, nameIndex := 95, descriptorIndex := 96, attributes := #[] }, { accessFlags := 1, nameIndex := 11, descriptorIndex := 29, attributes := #[] }, { accessFlags := 1, nameIndex := 15, descriptorIndex := 67, attributes := #[] }] 48 2 #[] #[{ accessFlags := 18, nameIndex := 11, descriptorIndex := 12, attributes := #[] }, { accessFlags := 18, nameIndex := 15, descriptorIndex := 16, attributes := #[] }])
  fields := #[{ name := "text", type := (.object "java/lang/String"), accessFlags := 18, slot := 0, constantValue := 0 }, { name := "holds", type := .boolean, accessFlags := 18, slot := 1, constantValue := 0 }]
  methods := #[k9m0, k9m1, k9m2, k9m3]
  instanceTypes := #[(.object "java/lang/String"), .boolean]
  staticTypes := #[]
  resolved := Array.replicate 128 none
  statics := none }

def pool10 : Array CpInfo := pool [(1, .class_ 2), (0, u "java/lang/Appendable"), (0, .class_ 4), (0, u "java/lang/Object")] 9

/-- java/lang/Appendable -/
def k10 : Class := { plain "java/lang/Appendable" (some 0) with
  accessFlags := 1537
  interfaces := #[]
  cf := some (fileOf pool10 1 #[] #[] 1537 3 #[] #[])
  fields := #[]
  methods := #[]
  instanceTypes := #[]
  staticTypes := #[]
  resolved := Array.replicate 14 none
  statics := none }

def pool11 : Array CpInfo := pool [(1, .class_ 2), (0, u "java/lang/String"), (0, .methodref 4 5), (0, .class_ 6), (0, .nameAndType 7 8), (0, u "java/lang/Object"), (0, u "<init>"), (0, u "()V"), (1, .class_ 12), (1, u "java/lang/AbstractStringBuilder"), (0, u "EMPTYVALUE"), (0, u "[B"), (0, .fieldref 10 16), (0, .nameAndType 17 14), (0, u "value"), (0, .fieldref 1 19), (0, .nameAndType 20 21), (0, u "COMPACT_STRINGS"), (0, u "Z"), (0, .fieldref 10 23), (0, .nameAndType 24 25), (0, u "coder"), (0, u "B"), (0, .methodref 27 28), (0, .class_ 29), (0, .nameAndType 30 31), (0, u "java/lang/StringUTF16"), (0, u "newBytesFor"), (0, u "(I)[B"), (0, .methodref 1 33), (0, .nameAndType 34 35), (0, u "length"), (0, u "()I"), (4, .methodref 1 41), (0, .nameAndType 24 42), (0, u "()B"), (2, u "append"), (0, u "(Ljava/lang/String;)Ljava/lang/AbstractStringBuilder;"), (1, .class_ 49), (0, u "java/lang/CharSequence"), (19, u "(Ljava/lang/String;)V"), (5, u "maybeLatin1"), (3, .fieldref 10 80), (0, .nameAndType 81 82), (0, u "count"), (0, u "I"), (0, .methodref 10 84), (0, .nameAndType 85 86), (0, u "isLatin1"), (0, u "()Z"), (1, .class_ 90), (1, u "java/lang/StringLatin1"), (9, .methodref 10 101), (0, .nameAndType 102 103), (0, u "ensureCapacityInternal"), (0, u "(I)V"), (21, .methodref 88 126), (0, .nameAndType 127 128), (0, u "inflate"), (0, u "([BI[BII)V"), (66, .methodref 10 196), (0, .nameAndType 127 8), (11, .methodref 10 209), (0, .nameAndType 210 211), (0, u "putStringAt"), (0, u "(ILjava/lang/String;)V"), (5, u "inflateIfNeededFor"), (2, .nameAndType 221 222), (0, u "getBytes"), (0, u "([BIB)V"), (174, .methodref 10 398), (0, .nameAndType 217 69), (0, .methodref 1 220), (3, u "()[B"), (40, .class_ 445), (0, u "java/lang/Appendable"), (106, u "getValue")] 56

def k11m0 : Method := { name := "<init>", desc := "()V", sig := { parameters := [], returnType := none }, accessFlags := 0, code := none }
def k11c1 : Code := { maxStack := 2, maxLocals := 2, code := jdk_68_method_2_code, exceptionTable := #[], attributes := #[] }
def k11m1 : Method := { name := "<init>", desc := "(I)V", sig := { parameters := [.int], returnType := none }, accessFlags := 0, code := some k11c1 }
def k11c2 : Code := { maxStack := 1, maxLocals := 1, code := jdk_68_method_6_code, exceptionTable := #[], attributes := #[] }
def k11m2 : Method := { name := "length", desc := "()I", sig := { parameters := [], returnType := some .int }, accessFlags := 1, code := some k11c2 }
def k11c3 : Code := { maxStack := 4, maxLocals := 3, code := jdk_68_method_9_code, exceptionTable := #[], attributes := #[] }
def k11m3 : Method := { name := "ensureCapacityInternal", desc := "(I)V", sig := { parameters := [.int], returnType := none }, accessFlags := 2, code := some k11c3 }
def k11c4 : Code := { maxStack := 5, maxLocals := 2, code := jdk_68_method_11_code, exceptionTable := #[], attributes := #[] }
def k11m4 : Method := { name := "inflate", desc := "()V", sig := { parameters := [], returnType := none }, accessFlags := 2, code := some k11c4 }
def k11c5 : Code := { maxStack := 3, maxLocals := 3, code := jdk_68_method_22_code, exceptionTable := #[], attributes := #[] }
def k11m5 : Method := { name := "append", desc := "(Ljava/lang/String;)Ljava/lang/AbstractStringBuilder;", sig := { parameters := [(.object "java/lang/String")], returnType := some (.object "java/lang/AbstractStringBuilder") }, accessFlags := 1, code := some k11c5 }
def k11c6 : Code := { maxStack := 1, maxLocals := 1, code := jdk_68_method_64_code, exceptionTable := #[], attributes := #[] }
def k11m6 : Method := { name := "getValue", desc := "()[B", sig := { parameters := [], returnType := some (.array .byte) }, accessFlags := 16, code := some k11c6 }
def k11c7 : Code := { maxStack := 1, maxLocals := 1, code := jdk_68_method_68_code, exceptionTable := #[], attributes := #[] }
def k11m7 : Method := { name := "isLatin1", desc := "()Z", sig := { parameters := [], returnType := some .boolean }, accessFlags := 16, code := some k11c7 }
def k11c8 : Code := { maxStack := 2, maxLocals := 2, code := jdk_68_method_71_code, exceptionTable := #[], attributes := #[] }
def k11m8 : Method := { name := "inflateIfNeededFor", desc := "(Ljava/lang/String;)V", sig := { parameters := [(.object "java/lang/String")], returnType := none }, accessFlags := 2, code := some k11c8 }
def k11c9 : Code := { maxStack := 4, maxLocals := 3, code := jdk_68_method_73_code, exceptionTable := #[], attributes := #[] }
def k11m9 : Method := { name := "putStringAt", desc := "(ILjava/lang/String;)V", sig := { parameters := [.int, (.object "java/lang/String")], returnType := none }, accessFlags := 2, code := some k11c9 }
/-- java/lang/AbstractStringBuilder -/
def k11 : Class := { plain "java/lang/AbstractStringBuilder" (some 0) with
  accessFlags := 1056
  interfaces := #[10, 4]
  cf := some (fileOf pool11 10 #[] #[{ accessFlags := 0, nameIndex := 7, descriptorIndex := 8, attributes := #[] }, { accessFlags := 0, nameIndex := 7, descriptorIndex := 103, attributes := #[] }, { accessFlags := 1, nameIndex := 34, descriptorIndex := 35, attributes := #[] }, { accessFlags := 2, nameIndex := 102, descriptorIndex := 103, attributes := #[] }, { accessFlags := 2, nameIndex := 127, descriptorIndex := 8, attributes := #[] }, { accessFlags := 1, nameIndex := 45, descriptorIndex := 46, attributes := #[] }, { accessFlags := 16, nameIndex := 552, descriptorIndex := 403, attributes := #[] }, { accessFlags := 16, nameIndex := 85, descriptorIndex := 86, attributes := #[] }, { accessFlags := 2, nameIndex := 217, descriptorIndex := 69, attributes := #[] }, { accessFlags := 2, nameIndex := 210, descriptorIndex := 211, attributes := #[] }] 1056 4 #[444, 48] #[{ accessFlags := 0, nameIndex := 17, descriptorIndex := 14, attributes := #[] }, { accessFlags := 0, nameIndex := 24, descriptorIndex := 25, attributes := #[] }, { accessFlags := 0, nameIndex := 75, descriptorIndex := 21, attributes := #[] }, { accessFlags := 0, nameIndex := 81, descriptorIndex := 82, attributes := #[] }, { accessFlags := 26, nameIndex := 13, descriptorIndex := 14, attributes := #[] }])
  fields := #[{ name := "value", type := (.array .byte), accessFlags := 0, slot := 0, constantValue := 0 }, { name := "coder", type := .byte, accessFlags := 0, slot := 1, constantValue := 0 }, { name := "maybeLatin1", type := .boolean, accessFlags := 0, slot := 2, constantValue := 0 }, { name := "count", type := .int, accessFlags := 0, slot := 3, constantValue := 0 }, { name := "EMPTYVALUE", type := (.array .byte), accessFlags := 26, slot := 0, constantValue := 0 }]
  methods := #[k11m0, k11m1, k11m2, k11m3, k11m4, k11m5, k11m6, k11m7, k11m8, k11m9]
  instanceTypes := #[(.array .byte), .byte, .boolean, .int]
  staticTypes := #[(.array .byte)]
  resolved := Array.replicate 609 none
  statics := none }

def pool12 : Array CpInfo := pool [(1, .methodref 2 3), (0, .class_ 4), (0, .nameAndType 5 6), (0, u "java/lang/AbstractStringBuilder"), (0, u "<init>"), (0, u "(I)V"), (11, .class_ 20), (1, u "java/lang/String"), (3, .class_ 26), (1, u "java/lang/StringBuilder"), (0, u "append"), (0, u "(Ljava/lang/String;)Ljava/lang/StringBuilder;"), (0, .methodref 2 30), (0, .nameAndType 27 31), (0, u "(Ljava/lang/String;)Ljava/lang/AbstractStringBuilder;"), (105, .methodref 18 138), (0, .nameAndType 5 139), (0, u "(Ljava/lang/StringBuilder;)V"), (5, u "()V"), (10, u "()I"), (186, .methodref 2 344), (0, .nameAndType 345 156), (0, u "length"), (3, .class_ 350), (0, u "java/lang/Appendable"), (0, .class_ 352), (0, u "java/io/Serializable"), (0, .class_ 354), (0, u "java/lang/Comparable"), (0, .class_ 356), (0, u "java/lang/CharSequence"), (0, u "serialVersionUID"), (0, u "J"), (40, u "toString"), (0, u "()Ljava/lang/String;")] 21

def k12c0 : Code := { maxStack := 2, maxLocals := 1, code := jdk_67_method_1_code, exceptionTable := #[], attributes := #[] }
def k12m0 : Method := { name := "<init>", desc := "()V", sig := { parameters := [], returnType := none }, accessFlags := 1, code := some k12c0 }
def k12c1 : Code := { maxStack := 2, maxLocals := 2, code := jdk_67_method_7_code, exceptionTable := #[], attributes := #[] }
def k12m1 : Method := { name := "append", desc := "(Ljava/lang/String;)Ljava/lang/StringBuilder;", sig := { parameters := [(.object "java/lang/String")], returnType := some (.object "java/lang/StringBuilder") }, accessFlags := 1, code := some k12c1 }
def k12c2 : Code := { maxStack := 3, maxLocals := 1, code := jdk_67_method_42_code, exceptionTable := #[], attributes := #[] }
def k12m2 : Method := { name := "toString", desc := "()Ljava/lang/String;", sig := { parameters := [], returnType := some (.object "java/lang/String") }, accessFlags := 1, code := some k12c2 }
def k12c3 : Code := { maxStack := 1, maxLocals := 1, code := jdk_67_method_93_code, exceptionTable := #[], attributes := #[] }
def k12m3 : Method := { name := "length", desc := "()I", sig := { parameters := [], returnType := some .int }, accessFlags := 4161, code := some k12c3 }
/-- java/lang/StringBuilder -/
def k12 : Class := { plain "java/lang/StringBuilder" (some 11) with
  accessFlags := 49
  interfaces := #[10, 2, 3, 4]
  cf := some (fileOf pool12 24 #[] #[{ accessFlags := 1, nameIndex := 5, descriptorIndex := 145, attributes := #[] }, { accessFlags := 1, nameIndex := 27, descriptorIndex := 28, attributes := #[] }, { accessFlags := 1, nameIndex := 399, descriptorIndex := 400, attributes := #[] }, { accessFlags := 4161, nameIndex := 345, descriptorIndex := 156, attributes := #[] }] 49 2 #[349, 351, 353, 355] #[{ accessFlags := 24, nameIndex := 357, descriptorIndex := 358, attributes := #[] }])
  fields := #[{ name := "serialVersionUID", type := .long, accessFlags := 24, slot := 0, constantValue := 0 }]
  methods := #[k12m0, k12m1, k12m2, k12m3]
  instanceTypes := #[(.array .byte), .byte, .boolean, .int]
  staticTypes := #[.long]
  resolved := Array.replicate 422 none
  statics := none }

def pool13 : Array CpInfo := pool [(2, .class_ 4), (1, u "java/lang/Object"), (0, u "<init>"), (0, u "()V"), (1, .class_ 10), (1, u "java/lang/System"), (0, u "allowSecurityManager"), (0, u "I"), (16, u "cons"), (0, u "Ljava/io/Console;"), (77, .class_ 110), (1, u "java/lang/System$CallersHolder"), (43, u "initialErrStream"), (0, u "Ljava/io/PrintStream;"), (19, u "security"), (0, u "Ljava/lang/SecurityManager;"), (31, .class_ 209), (0, u "java/lang/System$1"), (7, u "props"), (0, u "Ljava/util/Properties;"), (2, u "lineSeparator"), (0, u "Ljava/lang/String;"), (96, .class_ 321), (1, u "java/lang/System$LoggerFinder"), (5, .class_ 328), (0, u "java/lang/System$Logger"), (67, u "err"), (2, u "out"), (91, u "notSupportedJnuEncoding"), (15, u "in"), (17, u "initialIn"), (0, u "Ljava/io/InputStream;"), (35, u "bootLayer"), (0, u "Ljava/lang/ModuleLayer;"), (99, .class_ 664), (0, u "java/lang/System$2"), (9, u "NEVER"), (2, u "MAYBE"), (49, u "arraycopy"), (0, u "(Ljava/lang/Object;ILjava/lang/Object;II)V"), (72, .class_ 802), (0, u "java/lang/System$Logger$Level")] 31

def k13m0 : Method := { name := "<init>", desc := "()V", sig := { parameters := [], returnType := none }, accessFlags := 2, code := none }
def k13m1 : Method := { name := "arraycopy", desc := "(Ljava/lang/Object;ILjava/lang/Object;II)V", sig := { parameters := [(.object "java/lang/Object"), .int, (.object "java/lang/Object"), .int, .int], returnType := none }, accessFlags := 265, code := none }
/-- java/lang/System -/
def k13 : Class := { plain "java/lang/System" (some 0) with
  accessFlags := 49
  interfaces := #[]
  cf := some (fileOf pool13 8 #[.nestMembers #[319, 327, 801, 108, 663, 208]] #[{ accessFlags := 2, nameIndex := 5, descriptorIndex := 6, attributes := #[] }, { accessFlags := 265, nameIndex := 727, descriptorIndex := 728, attributes := #[] }] 49 2 #[] #[{ accessFlags := 25, nameIndex := 507, descriptorIndex := 526, attributes := #[] }, { accessFlags := 25, nameIndex := 399, descriptorIndex := 155, attributes := #[] }, { accessFlags := 25, nameIndex := 396, descriptorIndex := 155, attributes := #[] }, { accessFlags := 10, nameIndex := 525, descriptorIndex := 526, attributes := #[] }, { accessFlags := 26, nameIndex := 674, descriptorIndex := 12, attributes := #[] }, { accessFlags := 26, nameIndex := 677, descriptorIndex := 12, attributes := #[] }, { accessFlags := 10, nameIndex := 11, descriptorIndex := 12, attributes := #[] }, { accessFlags := 74, nameIndex := 175, descriptorIndex := 176, attributes := #[] }, { accessFlags := 10, nameIndex := 491, descriptorIndex := 222, attributes := #[] }, { accessFlags := 74, nameIndex := 29, descriptorIndex := 30, attributes := #[] }, { accessFlags := 74, nameIndex := 154, descriptorIndex := 155, attributes := #[] }, { accessFlags := 10, nameIndex := 217, descriptorIndex := 218, attributes := #[] }, { accessFlags := 10, nameIndex := 221, descriptorIndex := 222, attributes := #[] }, { accessFlags := 8, nameIndex := 562, descriptorIndex := 563, attributes := #[] }])
  fields := #[{ name := "in", type := (.object "java/io/InputStream"), accessFlags := 25, slot := 0, constantValue := 0 }, { name := "out", type := (.object "java/io/PrintStream"), accessFlags := 25, slot := 1, constantValue := 0 }, { name := "err", type := (.object "java/io/PrintStream"), accessFlags := 25, slot := 2, constantValue := 0 }, { name := "initialIn", type := (.object "java/io/InputStream"), accessFlags := 10, slot := 3, constantValue := 0 }, { name := "NEVER", type := .int, accessFlags := 26, slot := 4, constantValue := 0 }, { name := "MAYBE", type := .int, accessFlags := 26, slot := 5, constantValue := 0 }, { name := "allowSecurityManager", type := .int, accessFlags := 10, slot := 6, constantValue := 0 }, { name := "security", type := (.object "java/lang/SecurityManager"), accessFlags := 74, slot := 7, constantValue := 0 }, { name := "notSupportedJnuEncoding", type := (.object "java/lang/String"), accessFlags := 10, slot := 8, constantValue := 0 }, { name := "cons", type := (.object "java/io/Console"), accessFlags := 74, slot := 9, constantValue := 0 }, { name := "initialErrStream", type := (.object "java/io/PrintStream"), accessFlags := 74, slot := 10, constantValue := 0 }, { name := "props", type := (.object "java/util/Properties"), accessFlags := 10, slot := 11, constantValue := 0 }, { name := "lineSeparator", type := (.object "java/lang/String"), accessFlags := 10, slot := 12, constantValue := 0 }, { name := "bootLayer", type := (.object "java/lang/ModuleLayer"), accessFlags := 8, slot := 13, constantValue := 0 }]
  methods := #[k13m0, k13m1]
  instanceTypes := #[]
  staticTypes := #[(.object "java/io/InputStream"), (.object "java/io/PrintStream"), (.object "java/io/PrintStream"), (.object "java/io/InputStream"), .int, .int, .int, (.object "java/lang/SecurityManager"), (.object "java/lang/String"), (.object "java/io/Console"), (.object "java/io/PrintStream"), (.object "java/util/Properties"), (.object "java/lang/String"), (.object "java/lang/ModuleLayer")]
  resolved := Array.replicate 834 none
  statics := none }

def pool14 : Array CpInfo := pool [(2, .class_ 4), (1, u "java/lang/Object"), (0, u "<init>"), (0, u "()V"), (7, .class_ 16), (1, u "java/util/Arrays"), (57, .class_ 76), (1, u "java/util/Arrays$NaturalOrder"), (36, .class_ 115), (1, u "java/util/Arrays$LegacyMergeSort"), (1, u "Z"), (21, u "copyOfRange"), (10, .methodref 151 152), (0, .class_ 153), (0, .nameAndType 154 155), (0, u "java/lang/System"), (0, u "arraycopy"), (0, u "(Ljava/lang/Object;ILjava/lang/Object;II)V"), (148, .methodref 305 306), (0, .class_ 307), (0, .nameAndType 308 309), (0, u "java/lang/Math"), (0, u "min"), (0, u "(II)I"), (29, .methodref 14 340), (0, .nameAndType 341 342), (0, u "copyOfRangeByte"), (0, u "([BII)[B"), (0, .methodref 14 344), (0, .nameAndType 345 346), (0, u "checkLength"), (0, u "(II)V"), (28, .class_ 376), (0, u "java/util/Arrays$ArrayList"), (68, u "$assertionsDisabled"), (269, u "MIN_ARRAY_SORT_GRAN"), (0, u "I"), (2, u "INSERTIONSORT_THRESHOLD"), (255, .class_ 976), (0, u "java/util/Arrays$ArrayItr")] 52

def k14m0 : Method := { name := "<init>", desc := "()V", sig := { parameters := [], returnType := none }, accessFlags := 2, code := none }
def k14c1 : Code := { maxStack := 4, maxLocals := 2, code := jdk_65_method_131_code, exceptionTable := #[], attributes := #[] }
def k14m1 : Method := { name := "checkLength", desc := "(II)V", sig := { parameters := [.int, .int], returnType := none }, accessFlags := 10, code := some k14c1 }
def k14c2 : Code := { maxStack := 3, maxLocals := 3, code := jdk_65_method_132_code, exceptionTable := #[], attributes := #[] }
def k14m2 : Method := { name := "copyOfRange", desc := "([BII)[B", sig := { parameters := [(.array .byte), .int, .int], returnType := some (.array .byte) }, accessFlags := 9, code := some k14c2 }
def k14c3 : Code := { maxStack := 6, maxLocals := 5, code := jdk_65_method_133_code, exceptionTable := #[], attributes := #[] }
def k14m3 : Method := { name := "copyOfRangeByte", desc := "([BII)[B", sig := { parameters := [(.array .byte), .int, .int], returnType := some (.array .byte) }, accessFlags := 10, code := some k14c3 }
/-- java/util/Arrays -/
def k14 : Class := { plain "java/util/Arrays" (some 0) with
  accessFlags := 49
  interfaces := #[]
  cf := some (fileOf pool14 14 #[.nestMembers #[975, 375, 113, 74]] #[{ accessFlags := 2, nameIndex := 5, descriptorIndex := 6, attributes := #[] }, { accessFlags := 10, nameIndex := 345, descriptorIndex := 346, attributes := #[] }, { accessFlags := 9, nameIndex := 139, descriptorIndex := 342, attributes := #[] }, { accessFlags := 10, nameIndex := 341, descriptorIndex := 342, attributes := #[] }] 49 2 #[] #[{ accessFlags := 26, nameIndex := 715, descriptorIndex := 716, attributes := #[] }, { accessFlags := 26, nameIndex := 719, descriptorIndex := 716, attributes := #[] }, { accessFlags := 4120, nameIndex := 445, descriptorIndex := 117, attributes := #[] }])
  fields := #[{ name := "MIN_ARRAY_SORT_GRAN", type := .int, accessFlags := 26, slot := 0, constantValue := 0 }, { name := "INSERTIONSORT_THRESHOLD", type := .int, accessFlags := 26, slot := 1, constantValue := 0 }, { name := "$assertionsDisabled", type := .boolean, accessFlags := 4120, slot := 2, constantValue := 0 }]
  methods := #[k14m0, k14m1, k14m2, k14m3]
  instanceTypes := #[]
  staticTypes := #[.int, .int, .boolean]
  resolved := Array.replicate 1029 none
  statics := none }

def pool15 : Array CpInfo := pool [(1, .class_ 2), (0, u "java/lang/Math"), (1, .class_ 6), (1, u "java/lang/Object"), (0, u "<init>"), (0, u "()V"), (89, .class_ 100), (1, u "java/lang/Math$RandomNumberGeneratorHolder"), (71, u "negativeZeroFloatBits"), (0, u "J"), (2, u "negativeZeroDoubleBits"), (24, u "min"), (43, u "$assertionsDisabled"), (0, u "Z"), (88, u "(II)I"), (2, u "twoToTheDoubleScaleDown"), (0, u "D"), (4, u "twoToTheDoubleScaleUp"), (9, u "E"), (3, u "PI"), (2, u "TAU"), (2, u "DEGREES_TO_RADIANS"), (0, u "RADIANS_TO_DEGREES")] 94

def k15m0 : Method := { name := "<init>", desc := "()V", sig := { parameters := [], returnType := none }, accessFlags := 2, code := none }
def k15c1 : Code := { maxStack := 2, maxLocals := 2, code := jdk_29_method_69_code, exceptionTable := #[], attributes := #[] }
def k15m1 : Method := { name := "min", desc := "(II)I", sig := { parameters := [.int, .int], returnType := some .int }, accessFlags := 9, code := some k15c1 }
/-- java/lang/Math -/
def k15 : Class := { plain "java/lang/Math" (some 0) with
  accessFlags := 49
  interfaces := #[]
  cf := some (fileOf pool15 1 #[.nestMembers #[98]] #[{ accessFlags := 2, nameIndex := 7, descriptorIndex := 8, attributes := #[] }, { accessFlags := 9, nameIndex := 201, descriptorIndex := 335, attributes := #[] }] 49 4 #[] #[{ accessFlags := 25, nameIndex := 354, descriptorIndex := 339, attributes := #[] }, { accessFlags := 25, nameIndex := 358, descriptorIndex := 339, attributes := #[] }, { accessFlags := 25, nameIndex := 361, descriptorIndex := 339, attributes := #[] }, { accessFlags := 26, nameIndex := 364, descriptorIndex := 339, attributes := #[] }, { accessFlags := 26, nameIndex := 365, descriptorIndex := 339, attributes := #[] }, { accessFlags := 26, nameIndex := 172, descriptorIndex := 173, attributes := #[] }, { accessFlags := 26, nameIndex := 176, descriptorIndex := 173, attributes := #[] }, { accessFlags := 8, nameIndex := 344, descriptorIndex := 339, attributes := #[] }, { accessFlags := 8, nameIndex := 338, descriptorIndex := 339, attributes := #[] }, { accessFlags := 4120, nameIndex := 245, descriptorIndex := 246, attributes := #[] }])
  fields := #[{ name := "E", type := .double, accessFlags := 25, slot := 0, constantValue := 0 }, { name := "PI", type := .double, accessFlags := 25, slot := 1, constantValue := 0 }, { name := "TAU", type := .double, accessFlags := 25, slot := 2, constantValue := 0 }, { name := "DEGREES_TO_RADIANS", type := .double, accessFlags := 26, slot := 3, constantValue := 0 }, { name := "RADIANS_TO_DEGREES", type := .double, accessFlags := 26, slot := 4, constantValue := 0 }, { name := "negativeZeroFloatBits", type := .long, accessFlags := 26, slot := 5, constantValue := 0 }, { name := "negativeZeroDoubleBits", type := .long, accessFlags := 26, slot := 6, constantValue := 0 }, { name := "twoToTheDoubleScaleUp", type := .double, accessFlags := 8, slot := 7, constantValue := 0 }, { name := "twoToTheDoubleScaleDown", type := .double, accessFlags := 8, slot := 8, constantValue := 0 }, { name := "$assertionsDisabled", type := .boolean, accessFlags := 4120, slot := 9, constantValue := 0 }]
  methods := #[k15m0, k15m1]
  instanceTypes := #[]
  staticTypes := #[.double, .double, .double, .double, .double, .long, .long, .double, .double, .boolean]
  resolved := Array.replicate 460 none
  statics := none }

def pool16 : Array CpInfo := pool [(1, .class_ 2), (0, u "java/lang/String"), (1, .class_ 6), (1, u "java/lang/Object"), (0, u "<init>"), (0, u "()V"), (0, .methodref 1 10), (0, .nameAndType 11 12), (0, u "checkIndex"), (0, u "(II)V"), (1, .class_ 16), (1, u "java/lang/StringLatin1"), (0, u "inflate"), (2, .class_ 22), (1, u "java/lang/StringUTF16"), (3, .nameAndType 17 27), (0, u "([BI[BII)V"), (25, u "([BI)C"), (67, u "$assertionsDisabled"), (0, u "Z"), (98, .class_ 223), (1, u "java/lang/StringLatin1$LinesSpliterator"), (16, .methodref 20 26), (11, u "charAt"), (28, u "equals"), (0, u "([B[B)Z"), (107, .class_ 391), (0, u "java/lang/StringLatin1$CharsSpliterator")] 3

def k16m0 : Method := { name := "<init>", desc := "()V", sig := { parameters := [], returnType := none }, accessFlags := 0, code := none }
def k16c1 : Code := { maxStack := 2, maxLocals := 2, code := jdk_43_method_2_code, exceptionTable := #[], attributes := #[] }
def k16m1 : Method := { name := "charAt", desc := "([BI)C", sig := { parameters := [(.array .byte), .int], returnType := some .char }, accessFlags := 9, code := some k16c1 }
def k16c2 : Code := { maxStack := 3, maxLocals := 3, code := jdk_43_method_13_code, exceptionTable := #[], attributes := #[] }
def k16m2 : Method := { name := "equals", desc := "([B[B)Z", sig := { parameters := [(.array .byte), (.array .byte)], returnType := some .boolean }, accessFlags := 9, code := some k16c2 }
def k16c3 : Code := { maxStack := 5, maxLocals := 5, code := jdk_43_method_50_code, exceptionTable := #[], attributes := #[] }
def k16m3 : Method := { name := "inflate", desc := "([BI[BII)V", sig := { parameters := [(.array .byte), .int, (.array .byte), .int, .int], returnType := none }, accessFlags := 9, code := some k16c3 }
/-- java/lang/StringLatin1 -/
def k16 : Class := { plain "java/lang/StringLatin1" (some 0) with
  accessFlags := 48
  interfaces := #[]
  cf := some (fileOf pool16 14 #[.nestMembers #[390, 221]] #[{ accessFlags := 0, nameIndex := 7, descriptorIndex := 8, attributes := #[] }, { accessFlags := 9, nameIndex := 252, descriptorIndex := 53, attributes := #[] }, { accessFlags := 9, nameIndex := 281, descriptorIndex := 282, attributes := #[] }, { accessFlags := 9, nameIndex := 17, descriptorIndex := 27, attributes := #[] }] 48 4 #[] #[{ accessFlags := 4120, nameIndex := 121, descriptorIndex := 122, attributes := #[] }])
  fields := #[{ name := "$assertionsDisabled", type := .boolean, accessFlags := 4120, slot := 0, constantValue := 0 }]
  methods := #[k16m0, k16m1, k16m2, k16m3]
  instanceTypes := #[]
  staticTypes := #[.boolean]
  resolved := Array.replicate 395 none
  statics := none }

def pool17 : Array CpInfo := pool [(2, .class_ 4), (1, u "java/lang/Object"), (0, u "<init>"), (0, u "()V"), (17, .class_ 26), (1, u "jdk/internal/util/Preconditions"), (6, u "checkIndex"), (15, u "checkFromIndexSize"), (5, .class_ 56), (0, u "jdk/internal/util/Preconditions$4"), (57, .class_ 115), (0, u "jdk/internal/util/Preconditions$1"), (7, u "SIOOBE_FORMATTER"), (0, u "Ljava/util/function/BiFunction;"), (0, .class_ 126), (0, u "jdk/internal/util/Preconditions$2"), (3, u "AIOOBE_FORMATTER"), (0, .class_ 132), (0, u "jdk/internal/util/Preconditions$3"), (3, u "IOOBE_FORMATTER"), (41, u "(IILjava/util/function/BiFunction;)I"), (4, u "(IIILjava/util/function/BiFunction;)I")] 10

def k17m0 : Method := { name := "<init>", desc := "()V", sig := { parameters := [], returnType := none }, accessFlags := 1, code := none }
def k17c1 : Code := { maxStack := 3, maxLocals := 3, code := jdk_41_method_11_code, exceptionTable := #[], attributes := #[] }
def k17m1 : Method := { name := "checkIndex", desc := "(IILjava/util/function/BiFunction;)I", sig := { parameters := [.int, .int, (.object "java/util/function/BiFunction")], returnType := some .int }, accessFlags := 9, code := some k17c1 }
def k17c2 : Code := { maxStack := 4, maxLocals := 4, code := jdk_41_method_13_code, exceptionTable := #[], attributes := #[] }
def k17m2 : Method := { name := "checkFromIndexSize", desc := "(IIILjava/util/function/BiFunction;)I", sig := { parameters := [.int, .int, .int, (.object "java/util/function/BiFunction")], returnType := some .int }, accessFlags := 9, code := some k17c2 }
/-- jdk/internal/util/Preconditions -/
def k17 : Class := { plain "jdk/internal/util/Preconditions" (some 0) with
  accessFlags := 33
  interfaces := #[]
  cf := some (fileOf pool17 24 #[.nestMembers #[55, 131, 125, 114]] #[{ accessFlags := 1, nameIndex := 5, descriptorIndex := 6, attributes := #[] }, { accessFlags := 9, nameIndex := 33, descriptorIndex := 178, attributes := #[] }, { accessFlags := 9, nameIndex := 49, descriptorIndex := 183, attributes := #[] }] 33 2 #[] #[{ accessFlags := 25, nameIndex := 123, descriptorIndex := 124, attributes := #[] }, { accessFlags := 25, nameIndex := 130, descriptorIndex := 124, attributes := #[] }, { accessFlags := 25, nameIndex := 136, descriptorIndex := 124, attributes := #[] }])
  fields := #[{ name := "SIOOBE_FORMATTER", type := (.object "java/util/function/BiFunction"), accessFlags := 25, slot := 0, constantValue := 0 }, { name := "AIOOBE_FORMATTER", type := (.object "java/util/function/BiFunction"), accessFlags := 25, slot := 1, constantValue := 0 }, { name := "IOOBE_FORMATTER", type := (.object "java/util/function/BiFunction"), accessFlags := 25, slot := 2, constantValue := 0 }]
  methods := #[k17m0, k17m1, k17m2]
  instanceTypes := #[]
  staticTypes := #[(.object "java/util/function/BiFunction"), (.object "java/util/function/BiFunction"), (.object "java/util/function/BiFunction")]
  resolved := Array.replicate 194 none
  statics := some 1 }

def pool18 : Array CpInfo := pool [(3, .class_ 4), (0, u "java/lang/String"), (1, .class_ 8), (1, u "java/lang/Object"), (0, u "<init>"), (0, u "()V"), (0, .methodref 12 13), (0, .class_ 14), (0, .nameAndType 15 16), (0, u "java/lang/StringUTF16"), (0, u "newBytesLength"), (0, u "(I)I"), (3, .integer 1073741823), (23, .fieldref 12 45), (0, .nameAndType 46 47), (0, u "$assertionsDisabled"), (0, u "Z"), (0, .methodref 12 49), (0, .nameAndType 50 51), (0, u "length"), (0, u "([B)I"), (7, .fieldref 12 60), (0, .nameAndType 61 62), (0, u "HI_BYTE_SHIFT"), (0, u "I"), (0, .fieldref 12 64), (0, .nameAndType 65 62), (0, u "LO_BYTE_SHIFT"), (1, .methodref 12 68), (0, .nameAndType 69 70), (0, u "checkIndex"), (0, u "(I[B)V"), (0, .methodref 12 72), (0, .nameAndType 73 74), (0, u "getChar"), (0, u "([BI)C"), (24, u "(II[B)V"), (7, .methodref 12 108), (0, .nameAndType 109 110), (0, u "newBytesFor"), (0, u "(I)[B"), (0, .methodref 12 112), (0, .nameAndType 113 114), (0, u "putChar"), (0, u "([BII)V"), (0, .methodref 12 116), (0, .nameAndType 117 118), (0, u "compress"), (0, u "([CI[BII)I"), (0, .methodref 12 120), (0, .nameAndType 121 122), (0, u "toBytes"), (0, u "([CII)[B"), (17, u "inflate"), (0, u "([BI[BII)V"), (31, .methodref 12 174), (0, .nameAndType 175 99), (0, u "checkBoundsOffCount"), (85, u "coderFromArrayLen"), (0, u "([BI)B"), (18, u "(III)I"), (87, .class_ 371), (1, u "java/lang/StringUTF16$LinesSpliterator"), (20, u "charAt"), (21, .methodref 3 415), (0, .nameAndType 69 416), (0, u "(II)V"), (2, .methodref 3 420), (0, .nameAndType 175 281), (9, u "MAX_LENGTH"), (196, .class_ 628), (0, u "java/lang/StringUTF16$CodePointsSpliterator"), (0, .class_ 630), (0, u "java/lang/StringUTF16$CharsSpliterator")] 4

def k18m0 : Method := { name := "<init>", desc := "()V", sig := { parameters := [], returnType := none }, accessFlags := 0, code := none }
def k18c1 : Code := { maxStack := 1, maxLocals := 1, code := jdk_52_method_2_code, exceptionTable := #[], attributes := #[] }
def k18m1 : Method := { name := "newBytesFor", desc := "(I)[B", sig := { parameters := [.int], returnType := some (.array .byte) }, accessFlags := 9, code := some k18c1 }
def k18c2 : Code := { maxStack := 4, maxLocals := 1, code := jdk_52_method_3_code, exceptionTable := #[], attributes := #[] }
def k18m2 : Method := { name := "newBytesLength", desc := "(I)I", sig := { parameters := [.int], returnType := some .int }, accessFlags := 9, code := some k18c2 }
def k18c3 : Code := { maxStack := 4, maxLocals := 3, code := jdk_52_method_4_code, exceptionTable := #[], attributes := #[] }
def k18m3 : Method := { name := "putChar", desc := "([BII)V", sig := { parameters := [(.array .byte), .int, .int], returnType := none }, accessFlags := 8, code := some k18c3 }
def k18c4 : Code := { maxStack := 3, maxLocals := 2, code := jdk_52_method_5_code, exceptionTable := #[], attributes := #[] }
def k18m4 : Method := { name := "getChar", desc := "([BI)C", sig := { parameters := [(.array .byte), .int], returnType := some .char }, accessFlags := 8, code := some k18c4 }
def k18c5 : Code := { maxStack := 2, maxLocals := 1, code := jdk_52_method_6_code, exceptionTable := #[], attributes := #[] }
def k18m5 : Method := { name := "length", desc := "([B)I", sig := { parameters := [(.array .byte)], returnType := some .int }, accessFlags := 9, code := some k18c5 }
def k18c6 : Code := { maxStack := 4, maxLocals := 5, code := jdk_52_method_14_code, exceptionTable := #[], attributes := #[] }
def k18m6 : Method := { name := "toBytes", desc := "([CII)[B", sig := { parameters := [(.array .char), .int, .int], returnType := some (.array .byte) }, accessFlags := 9, code := some k18c6 }
def k18c7 : Code := { maxStack := 2, maxLocals := 2, code := jdk_52_method_15_code, exceptionTable := #[], attributes := #[] }
def k18m7 : Method := { name := "coderFromArrayLen", desc := "([BI)B", sig := { parameters := [(.array .byte), .int], returnType := some .byte }, accessFlags := 8, code := some k18c7 }
def k18c8 : Code := { maxStack := 5, maxLocals := 6, code := jdk_52_method_16_code, exceptionTable := #[], attributes := #[] }
def k18m8 : Method := { name := "compress", desc := "([CII)[B", sig := { parameters := [(.array .char), .int, .int], returnType := some (.array .byte) }, accessFlags := 9, code := some k18c8 }
def k18c9 : Code := { maxStack := 3, maxLocals := 7, code := jdk_52_method_21_code, exceptionTable := #[], attributes := #[] }
def k18m9 : Method := { name := "compress", desc := "([CI[BII)I", sig := { parameters := [(.array .char), .int, (.array .byte), .int, .int], returnType := some .int }, accessFlags := 9, code := some k18c9 }
def k18c10 : Code := { maxStack := 2, maxLocals := 2, code := jdk_52_method_83_code, exceptionTable := #[], attributes := #[] }
def k18m10 : Method := { name := "charAt", desc := "([BI)C", sig := { parameters := [(.array .byte), .int], returnType := some .char }, accessFlags := 9, code := some k18c10 }
def k18c11 : Code := { maxStack := 4, maxLocals := 6, code := jdk_52_method_86_code, exceptionTable := #[], attributes := #[] }
def k18m11 : Method := { name := "inflate", desc := "([BI[BII)V", sig := { parameters := [(.array .byte), .int, (.array .byte), .int, .int], returnType := none }, accessFlags := 9, code := some k18c11 }
def k18c12 : Code := { maxStack := 2, maxLocals := 2, code := jdk_52_method_91_code, exceptionTable := #[], attributes := #[] }
def k18m12 : Method := { name := "checkIndex", desc := "(I[B)V", sig := { parameters := [.int, (.array .byte)], returnType := none }, accessFlags := 9, code := some k18c12 }
def k18c13 : Code := { maxStack := 3, maxLocals := 3, code := jdk_52_method_94_code, exceptionTable := #[], attributes := #[] }
def k18m13 : Method := { name := "checkBoundsOffCount", desc := "(II[B)V", sig := { parameters := [.int, .int, (.array .byte)], returnType := none }, accessFlags := 9, code := some k18c13 }
/-- java/lang/StringUTF16 -/
def k18 : Class := { plain "java/lang/StringUTF16" (some 0) with
  accessFlags := 48
  interfaces := #[]
  cf := some (fileOf pool18 12 #[.nestMembers #[627, 629, 369]] #[{ accessFlags := 0, nameIndex := 9, descriptorIndex := 10, attributes := #[] }, { accessFlags := 9, nameIndex := 109, descriptorIndex := 110, attributes := #[] }, { accessFlags := 9, nameIndex := 15, descriptorIndex := 16, attributes := #[] }, { accessFlags := 8, nameIndex := 113, descriptorIndex := 114, attributes := #[] }, { accessFlags := 8, nameIndex := 73, descriptorIndex := 74, attributes := #[] }, { accessFlags := 9, nameIndex := 50, descriptorIndex := 51, attributes := #[] }, { accessFlags := 9, nameIndex := 121, descriptorIndex := 122, attributes := #[] }, { accessFlags := 8, nameIndex := 261, descriptorIndex := 262, attributes := #[] }, { accessFlags := 9, nameIndex := 117, descriptorIndex := 122, attributes := #[] }, { accessFlags := 9, nameIndex := 117, descriptorIndex := 118, attributes := #[] }, { accessFlags := 9, nameIndex := 392, descriptorIndex := 74, attributes := #[] }, { accessFlags := 9, nameIndex := 140, descriptorIndex := 141, attributes := #[] }, { accessFlags := 9, nameIndex := 69, descriptorIndex := 70, attributes := #[] }, { accessFlags := 9, nameIndex := 175, descriptorIndex := 99, attributes := #[] }] 48 6 #[] #[{ accessFlags := 26, nameIndex := 61, descriptorIndex := 62, attributes := #[] }, { accessFlags := 26, nameIndex := 65, descriptorIndex := 62, attributes := #[] }, { accessFlags := 24, nameIndex := 430, descriptorIndex := 62, attributes := #[] }, { accessFlags := 4120, nameIndex := 46, descriptorIndex := 47, attributes := #[] }])
  fields := #[{ name := "HI_BYTE_SHIFT", type := .int, accessFlags := 26, slot := 0, constantValue := 0 }, { name := "LO_BYTE_SHIFT", type := .int, accessFlags := 26, slot := 1, constantValue := 0 }, { name := "MAX_LENGTH", type := .int, accessFlags := 24, slot := 2, constantValue := 0 }, { name := "$assertionsDisabled", type := .boolean, accessFlags := 4120, slot := 3, constantValue := 0 }]
  methods := #[k18m0, k18m1, k18m2, k18m3, k18m4, k18m5, k18m6, k18m7, k18m8, k18m9, k18m10, k18m11, k18m12, k18m13]
  instanceTypes := #[]
  staticTypes := #[.int, .int, .int, .boolean]
  resolved := Array.replicate 635 none
  statics := some 2 }

def pool19 : Array CpInfo := pool [(9, u "<init>"), (6, .class_ 18), (1, u "java/lang/Object"), (0, u "()V"), (1, .class_ 23), (1, u "jdk/internal/util/ArraysSupport"), (0, u "LOG2_ARRAY_LONG_INDEX_SCALE"), (0, u "I"), (2, u "U"), (0, u "Ljdk/internal/misc/Unsafe;"), (8, u "BIG_ENDIAN"), (0, u "Z"), (8, u "LOG2_BYTE_BIT_SIZE"), (4, u "LOG2_ARRAY_INT_INDEX_SCALE"), (54, u "JLA"), (0, u "Ljdk/internal/access/JavaLangAccess;"), (11, u "LOG2_ARRAY_BOOLEAN_INDEX_SCALE"), (9, u "LOG2_ARRAY_BYTE_INDEX_SCALE"), (5, u "LOG2_ARRAY_CHAR_INDEX_SCALE"), (5, u "LOG2_ARRAY_SHORT_INDEX_SCALE"), (18, u "LOG2_ARRAY_FLOAT_INDEX_SCALE"), (24, u "LOG2_ARRAY_DOUBLE_INDEX_SCALE"), (89, u "T_BOOLEAN"), (2, u "T_CHAR"), (1, u "T_FLOAT"), (1, u "T_DOUBLE"), (1, u "T_BYTE"), (1, u "T_SHORT"), (1, u "T_INT"), (1, u "T_LONG"), (1, u "SOFT_MAX_ARRAY_LENGTH")] 83

def k19m0 : Method := { name := "<init>", desc := "()V", sig := { parameters := [], returnType := none }, accessFlags := 2, code := none }
/-- jdk/internal/util/ArraysSupport -/
def k19 : Class := { plain "jdk/internal/util/ArraysSupport" (some 0) with
  accessFlags := 33
  interfaces := #[]
  cf := some (fileOf pool19 21 #[] #[{ accessFlags := 2, nameIndex := 9, descriptorIndex := 19, attributes := #[] }] 33 16 #[] #[{ accessFlags := 24, nameIndex := 28, descriptorIndex := 29, attributes := #[] }, { accessFlags := 26, nameIndex := 38, descriptorIndex := 39, attributes := #[] }, { accessFlags := 25, nameIndex := 121, descriptorIndex := 25, attributes := #[] }, { accessFlags := 25, nameIndex := 131, descriptorIndex := 25, attributes := #[] }, { accessFlags := 25, nameIndex := 137, descriptorIndex := 25, attributes := #[] }, { accessFlags := 25, nameIndex := 143, descriptorIndex := 25, attributes := #[] }, { accessFlags := 25, nameIndex := 53, descriptorIndex := 25, attributes := #[] }, { accessFlags := 25, nameIndex := 24, descriptorIndex := 25, attributes := #[] }, { accessFlags := 25, nameIndex := 162, descriptorIndex := 25, attributes := #[] }, { accessFlags := 25, nameIndex := 187, descriptorIndex := 25, attributes := #[] }, { accessFlags := 26, nameIndex := 48, descriptorIndex := 25, attributes := #[] }, { accessFlags := 25, nameIndex := 277, descriptorIndex := 25, attributes := #[] }, { accessFlags := 25, nameIndex := 280, descriptorIndex := 25, attributes := #[] }, { accessFlags := 25, nameIndex := 282, descriptorIndex := 25, attributes := #[] }, { accessFlags := 25, nameIndex := 284, descriptorIndex := 25, attributes := #[] }, { accessFlags := 25, nameIndex := 286, descriptorIndex := 25, attributes := #[] }, { accessFlags := 25, nameIndex := 288, descriptorIndex := 25, attributes := #[] }, { accessFlags := 25, nameIndex := 290, descriptorIndex := 25, attributes := #[] }, { accessFlags := 25, nameIndex := 292, descriptorIndex := 25, attributes := #[] }, { accessFlags := 26, nameIndex := 108, descriptorIndex := 109, attributes := #[] }, { accessFlags := 25, nameIndex := 294, descriptorIndex := 25, attributes := #[] }])
  fields := #[{ name := "U", type := (.object "jdk/internal/misc/Unsafe"), accessFlags := 24, slot := 0, constantValue := 0 }, { name := "BIG_ENDIAN", type := .boolean, accessFlags := 26, slot := 1, constantValue := 0 }, { name := "LOG2_ARRAY_BOOLEAN_INDEX_SCALE", type := .int, accessFlags := 25, slot := 2, constantValue := 0 }, { name := "LOG2_ARRAY_BYTE_INDEX_SCALE", type := .int, accessFlags := 25, slot := 3, constantValue := 0 }, { name := "LOG2_ARRAY_CHAR_INDEX_SCALE", type := .int, accessFlags := 25, slot := 4, constantValue := 0 }, { name := "LOG2_ARRAY_SHORT_INDEX_SCALE", type := .int, accessFlags := 25, slot := 5, constantValue := 0 }, { name := "LOG2_ARRAY_INT_INDEX_SCALE", type := .int, accessFlags := 25, slot := 6, constantValue := 0 }, { name := "LOG2_ARRAY_LONG_INDEX_SCALE", type := .int, accessFlags := 25, slot := 7, constantValue := 0 }, { name := "LOG2_ARRAY_FLOAT_INDEX_SCALE", type := .int, accessFlags := 25, slot := 8, constantValue := 0 }, { name := "LOG2_ARRAY_DOUBLE_INDEX_SCALE", type := .int, accessFlags := 25, slot := 9, constantValue := 0 }, { name := "LOG2_BYTE_BIT_SIZE", type := .int, accessFlags := 26, slot := 10, constantValue := 0 }, { name := "T_BOOLEAN", type := .int, accessFlags := 25, slot := 11, constantValue := 0 }, { name := "T_CHAR", type := .int, accessFlags := 25, slot := 12, constantValue := 0 }, { name := "T_FLOAT", type := .int, accessFlags := 25, slot := 13, constantValue := 0 }, { name := "T_DOUBLE", type := .int, accessFlags := 25, slot := 14, constantValue := 0 }, { name := "T_BYTE", type := .int, accessFlags := 25, slot := 15, constantValue := 0 }, { name := "T_SHORT", type := .int, accessFlags := 25, slot := 16, constantValue := 0 }, { name := "T_INT", type := .int, accessFlags := 25, slot := 17, constantValue := 0 }, { name := "T_LONG", type := .int, accessFlags := 25, slot := 18, constantValue := 0 }, { name := "JLA", type := (.object "jdk/internal/access/JavaLangAccess"), accessFlags := 26, slot := 19, constantValue := 0 }, { name := "SOFT_MAX_ARRAY_LENGTH", type := .int, accessFlags := 25, slot := 20, constantValue := 0 }]
  methods := #[k19m0]
  instanceTypes := #[]
  staticTypes := #[(.object "jdk/internal/misc/Unsafe"), .boolean, .int, .int, .int, .int, .int, .int, .int, .int, .int, .int, .int, .int, .int, .int, .int, .int, .int, (.object "jdk/internal/access/JavaLangAccess"), .int]
  resolved := Array.replicate 378 none
  statics := none }

def pool20 : Array CpInfo := pool [(1, u "java/lang/Cloneable"), (0, .class_ 1), (0, u "java/lang/Object"), (0, .class_ 3)] 3

/-- java/lang/Cloneable -/
def k20 : Class := { plain "java/lang/Cloneable" (some 0) with
  accessFlags := 1537
  interfaces := #[]
  cf := some (fileOf pool20 2 #[] #[] 1537 4 #[] #[])
  fields := #[]
  methods := #[]
  instanceTypes := #[]
  staticTypes := #[]
  resolved := Array.replicate 8 none
  statics := none }

/-- the primitive byte -/
def k21 : Class := { plain "byte" none with kind := .primitive 'B', accessFlags := 0x411 }
/-- [B -/
def k22 : Class := { plain "[B" (some 0) with kind := .array 21 .byte, interfaces := #[20, 2], accessFlags := 1041 }

/-- the primitive char -/
def k23 : Class := { plain "char" none with kind := .primitive 'C', accessFlags := 0x411 }
/-- [C -/
def k24 : Class := { plain "[C" (some 0) with kind := .array 23 .char, interfaces := #[20, 2], accessFlags := 1041 }

/-- the primitive int -/
def k25 : Class := { plain "int" none with kind := .primitive 'I', accessFlags := 0x411 }
/-- [I -/
def k26 : Class := { plain "[I" (some 0) with kind := .array 25 .int, interfaces := #[20, 2], accessFlags := 1041 }

def heap : Heap := #[{ cls := 7, slots := #[.long 0, .int 1, .null, .int 0, .null, .int 0, .int 0], vm := .statics 7 },
  { cls := 17, slots := #[.null, .null, .null], vm := .statics 17 },
  { cls := 18, slots := #[.int 0, .int 8, .int 0, .int 1], vm := .statics 18 }]
def classes : Array Class := #[k0, k1, k2, k3, k4, k5, k6, k7, k8, k9, k10, k11, k12, k13, k14, k15, k16, k17, k18, k19, k20, k21, k22, k23, k24, k25, k26]
def interned : List (Array UInt16 × Addr) := []
def slotsUsed : Nat := 14
def theMethod : MethodId := ⟨1, 7⟩
def args0 : Array Value := #[.long 1, .long 2, .long 3, .int 4]
def aboutOver (below : List Frame) : State where
  vm := { classes := classes, interned := interned.toArray }
  heap := heap
  slotsUsed := slotsUsed
  threads := #[{ frames := .invoking theMethod args0 :: below }]
def below0 : List Frame := [.native { method := ⟨0, 0⟩, args := #[] }]
def about1 : State := aboutOver below0
def p0 : Program := .bare "" "" ""
def e0 : Env := launch0.env 0 0 0
theorem w_frames : about1.frames = Frame.invoking theMethod args0 :: below0 := rfl
set_option maxRecDepth 65536 in
theorem w_args : argsFit about1.vm theMethod args0 = true := by decide +kernel
set_option maxRecDepth 65536 in
theorem w_heap : heapFits about1 = true := by decide +kernel
set_option maxRecDepth 65536 in
theorem w_runnable : about1.curStatus? = some .runnable := by decide +kernel
set_option maxRecDepth 65536 in
theorem w_alone : about1.alone = true := by decide +kernel
set_option maxRecDepth 65536 in
theorem w_named : about1.methodNamed? x = some theMethod := by decide +kernel
set_option maxRecDepth 65536 in
theorem w_hears : about1.hears theMethod below0 = true := by decide +kernel
set_option maxRecDepth 65536 in
theorem w_ripe : about1.ripe theMethod args0 below0 = true := by decide +kernel
theorem w_running : about1.status = .running := rfl
set_option maxRecDepth 65536 in
theorem w_room : about1.hasRoom e0.platform room_1 = true :=
  launch0.hasRoom_least _ room_1 (by decide +kernel) (by decide +kernel) (by decide +kernel) (by decide +kernel) (by decide +kernel) (by decide +kernel)
theorem allAtoms_all (ts : List Jvm.Cond) (a : Array Jvm.Value) (st : Jvm.State) : (allAtoms ts).before a st = ts.all (fun c => c.before a st) := by
  induction ts with
  | nil => rfl
  | cons c t ih =>
    show (Jvm.Cond.and c (allAtoms t)).before a st = _
    rw [Jvm.Cond.before_and, ih, List.all_cons]
def words1 : List Jvm.Cond := Jvm.Cond.code x code maxLocals ret :: tables_1
/-- a 'code' word, met by the world's own term for the bytes: nothing is compared byte by byte -/
theorem code_word {y : MethodName} {bytes : ByteArray} {mx : Nat} {rt : Option FieldType} {a : Array Value} {s : State} {m : MethodId} {meth : Method} {c : Code} (h1 : s.methodNamed? y = some m) (h2 : s.vm.method? m = some meth) (h3 : meth.code = some c) (h4 : c.code = bytes)
    (h5 : (c.maxLocals == mx && c.exceptionTable.isEmpty && decide (c.maxStack ≤ mostOperands) && decide (meth.sig.returnType = rt) && !meth.locks && decide (parseMethodDescriptor y.desc = some meth.sig)) = true) : (Jvm.Cond.code y bytes mx rt).before a s = true := by
  simp only [Bool.and_eq_true, beq_iff_eq, Bool.not_eq_true', decide_eq_true_eq] at h5
  obtain ⟨⟨⟨⟨⟨g1, g2⟩, g3⟩, g4⟩, g5⟩, g6⟩ := h5
  simp [Cond.before, Cond.holds, Cond.value, h1, h2, h3, h4, g1, g2, g3, g4, g5, g6]
def isCode : Jvm.Cond → Bool
  | .code _ _ _ _ => true
  | _ => false
theorem all_split {L : List Jvm.Cond} {P : Jvm.Cond → Bool} (h1 : L.all (fun c => isCode c || P c) = true) (h2 : ∀ c ∈ L.filter isCode, P c = true) : L.all P = true := by
  refine List.all_eq_true.mpr fun c hc => ?_
  have h := List.all_eq_true.mp h1 c hc
  rcases Bool.eq_false_or_eq_true (isCode c) with hi | hi
  · exact h2 c (List.mem_filter.mpr ⟨hc, hi⟩)
  · simpa [hi] using h
set_option maxRecDepth 65536 in
theorem w_c0 : (Jvm.Cond.code x code maxLocals ret).before args0 about1 = true := code_word (m := ⟨1, 7⟩) (meth := k1m7) (c := k1c7) (by decide +kernel) rfl rfl rfl (by decide +kernel)
set_option maxRecDepth 65536 in
theorem w_c1 : (Jvm.Cond.code ({ cls := "com/example/synclane/synclane/command/LineExpectPinLaw", name := "lenOf", desc := "(J)I" } : Jvm.MethodName) method_3_code (2 : Nat) (Option.some Jvm.ClassFile.FieldType.int)).before args0 about1 = true := code_word (m := ⟨1, 2⟩) (meth := k1m2) (c := k1c2) (by decide +kernel) rfl rfl rfl (by decide +kernel)
set_option maxRecDepth 65536 in
theorem w_c2 : (Jvm.Cond.code ({ cls := "com/example/synclane/synclane/command/LineExpectPinLaw", name := "c0", desc := "(J)C" } : Jvm.MethodName) method_4_code (2 : Nat) (Option.some Jvm.ClassFile.FieldType.char)).before args0 about1 = true := code_word (m := ⟨1, 3⟩) (meth := k1m3) (c := k1c3) (by decide +kernel) rfl rfl rfl (by decide +kernel)
set_option maxRecDepth 65536 in
theorem w_c3 : (Jvm.Cond.code ({ cls := "com/example/synclane/synclane/command/LineExpectPinLaw", name := "c1", desc := "(J)C" } : Jvm.MethodName) method_5_code (2 : Nat) (Option.some Jvm.ClassFile.FieldType.char)).before args0 about1 = true := code_word (m := ⟨1, 4⟩) (meth := k1m4) (c := k1c4) (by decide +kernel) rfl rfl rfl (by decide +kernel)
set_option maxRecDepth 65536 in
theorem w_c4 : (Jvm.Cond.code ({ cls := "com/example/synclane/synclane/command/LineExpectPinLaw", name := "mk", desc := "(ICC)Ljava/lang/String;" } : Jvm.MethodName) method_2_code (3 : Nat) (Option.some (Jvm.ClassFile.FieldType.object "java/lang/String"))).before args0 about1 = true := code_word (m := ⟨1, 1⟩) (meth := k1m1) (c := k1c1) (by decide +kernel) rfl rfl rfl (by decide +kernel)
set_option maxRecDepth 65536 in
theorem w_c5 : (Jvm.Cond.code ({ cls := "java/lang/String", name := "<init>", desc := "([C)V" } : Jvm.MethodName) jdk_42_method_3_code (2 : Nat) (Option.none : Option Jvm.ClassFile.FieldType)).before args0 about1 = true := code_word (m := ⟨7, 1⟩) (meth := k7m1) (c := k7c1) (by decide +kernel) rfl rfl rfl (by decide +kernel)
set_option maxRecDepth 65536 in
theorem w_c6 : (Jvm.Cond.code ({ cls := "java/lang/String", name := "<init>", desc := "([CIILjava/lang/Void;)V" } : Jvm.MethodName) jdk_42_method_149_code (6 : Nat) (Option.none : Option Jvm.ClassFile.FieldType)).before args0 about1 = true := code_word (m := ⟨7, 7⟩) (meth := k7m7) (c := k7c7) (by decide +kernel) rfl rfl rfl (by decide +kernel)
set_option maxRecDepth 65536 in
theorem w_c7 : (Jvm.Cond.code ({ cls := "java/lang/Object", name := "<init>", desc := "()V" } : Jvm.MethodName) object_method_1_code (1 : Nat) (Option.none : Option Jvm.ClassFile.FieldType)).before args0 about1 = true := code_word (m := ⟨0, 0⟩) (meth := k0m0) (c := k0c0) (by decide +kernel) rfl rfl rfl (by decide +kernel)
set_option maxRecDepth 65536 in
theorem w_c8 : (Jvm.Cond.code ({ cls := "com/example/synclane/synclane/command/Line", name := "expect", desc := "(Ljava/lang/String;Ljava/lang/String;Ljava/lang/String;)Lcom/example/synclane/synclane/command/Line;" } : Jvm.MethodName) prog_28_method_2_code (3 : Nat) (Option.some (Jvm.ClassFile.FieldType.object "com/example/synclane/synclane/command/Line"))).before args0 about1 = true := code_word (m := ⟨9, 1⟩) (meth := k9m1) (c := k9c1) (by decide +kernel) rfl rfl rfl (by decide +kernel)
set_option maxRecDepth 65536 in
theorem w_c9 : (Jvm.Cond.code ({ cls := "java/lang/StringBuilder", name := "<init>", desc := "()V" } : Jvm.MethodName) jdk_67_method_1_code (1 : Nat) (Option.none : Option Jvm.ClassFile.FieldType)).before args0 about1 = true := code_word (m := ⟨12, 0⟩) (meth := k12m0) (c := k12c0) (by decide +kernel) rfl rfl rfl (by decide +kernel)
set_option maxRecDepth 65536 in
theorem w_c10 : (Jvm.Cond.code ({ cls := "java/lang/AbstractStringBuilder", name := "<init>", desc := "(I)V" } : Jvm.MethodName) jdk_68_method_2_code (2 : Nat) (Option.none : Option Jvm.ClassFile.FieldType)).before args0 about1 = true := code_word (m := ⟨11, 1⟩) (meth := k11m1) (c := k11c1) (by decide +kernel) rfl rfl rfl (by decide +kernel)
set_option maxRecDepth 65536 in
theorem w_c11 : (Jvm.Cond.code ({ cls := "java/lang/StringBuilder", name := "append", desc := "(Ljava/lang/String;)Ljava/lang/StringBuilder;" } : Jvm.MethodName) jdk_67_method_7_code (2 : Nat) (Option.some (Jvm.ClassFile.FieldType.object "java/lang/StringBuilder"))).before args0 about1 = true := code_word (m := ⟨12, 1⟩) (meth := k12m1) (c := k12c1) (by decide +kernel) rfl rfl rfl (by decide +kernel)
set_option maxRecDepth 65536 in
theorem w_c12 : (Jvm.Cond.code ({ cls := "java/lang/AbstractStringBuilder", name := "append", desc := "(Ljava/lang/String;)Ljava/lang/AbstractStringBuilder;" } : Jvm.MethodName) jdk_68_method_22_code (3 : Nat) (Option.some (Jvm.ClassFile.FieldType.object "java/lang/AbstractStringBuilder"))).before args0 about1 = true := code_word (m := ⟨11, 5⟩) (meth := k11m5) (c := k11c5) (by decide +kernel) rfl rfl rfl (by decide +kernel)
set_option maxRecDepth 65536 in
theorem w_c13 : (Jvm.Cond.code ({ cls := "java/lang/String", name := "length", desc := "()I" } : Jvm.MethodName) jdk_42_method_54_code (1 : Nat) (Option.some Jvm.ClassFile.FieldType.int)).before args0 about1 = true := code_word (m := ⟨7, 3⟩) (meth := k7m3) (c := k7c3) (by decide +kernel) rfl rfl rfl (by decide +kernel)
set_option maxRecDepth 65536 in
theorem w_c14 : (Jvm.Cond.code ({ cls := "java/lang/String", name := "coder", desc := "()B" } : Jvm.MethodName) jdk_42_method_152_code (1 : Nat) (Option.some Jvm.ClassFile.FieldType.byte)).before args0 about1 = true := code_word (m := ⟨7, 9⟩) (meth := k7m9) (c := k7c9) (by decide +kernel) rfl rfl rfl (by decide +kernel)
set_option maxRecDepth 65536 in
theorem w_c15 : (Jvm.Cond.code ({ cls := "java/lang/AbstractStringBuilder", name := "ensureCapacityInternal", desc := "(I)V" } : Jvm.MethodName) jdk_68_method_9_code (3 : Nat) (Option.none : Option Jvm.ClassFile.FieldType)).before args0 about1 = true := code_word (m := ⟨11, 3⟩) (meth := k11m3) (c := k11c3) (by decide +kernel) rfl rfl rfl (by decide +kernel)
set_option maxRecDepth 65536 in
theorem w_c16 : (Jvm.Cond.code ({ cls := "java/lang/AbstractStringBuilder", name := "putStringAt", desc := "(ILjava/lang/String;)V" } : Jvm.MethodName) jdk_68_method_73_code (3 : Nat) (Option.none : Option Jvm.ClassFile.FieldType)).before args0 about1 = true := code_word (m := ⟨11, 9⟩) (meth := k11m9) (c := k11c9) (by decide +kernel) rfl rfl rfl (by decide +kernel)
set_option maxRecDepth 65536 in
theorem w_c17 : (Jvm.Cond.code ({ cls := "java/lang/AbstractStringBuilder", name := "inflateIfNeededFor", desc := "(Ljava/lang/String;)V" } : Jvm.MethodName) jdk_68_method_71_code (2 : Nat) (Option.none : Option Jvm.ClassFile.FieldType)).before args0 about1 = true := code_word (m := ⟨11, 8⟩) (meth := k11m8) (c := k11c8) (by decide +kernel) rfl rfl rfl (by decide +kernel)
set_option maxRecDepth 65536 in
theorem w_c18 : (Jvm.Cond.code ({ cls := "java/lang/String", name := "getBytes", desc := "([BIB)V" } : Jvm.MethodName) jdk_42_method_147_code (4 : Nat) (Option.none : Option Jvm.ClassFile.FieldType)).before args0 about1 = true := code_word (m := ⟨7, 6⟩) (meth := k7m6) (c := k7c6) (by decide +kernel) rfl rfl rfl (by decide +kernel)
set_option maxRecDepth 65536 in
theorem w_c19 : (Jvm.Cond.code ({ cls := "java/lang/StringBuilder", name := "toString", desc := "()Ljava/lang/String;" } : Jvm.MethodName) jdk_67_method_42_code (1 : Nat) (Option.some (Jvm.ClassFile.FieldType.object "java/lang/String"))).before args0 about1 = true := code_word (m := ⟨12, 2⟩) (meth := k12m2) (c := k12c2) (by decide +kernel) rfl rfl rfl (by decide +kernel)
set_option maxRecDepth 65536 in
theorem w_c20 : (Jvm.Cond.code ({ cls := "java/lang/String", name := "<init>", desc := "(Ljava/lang/StringBuilder;)V" } : Jvm.MethodName) jdk_42_method_53_code (2 : Nat) (Option.none : Option Jvm.ClassFile.FieldType)).before args0 about1 = true := code_word (m := ⟨7, 2⟩) (meth := k7m2) (c := k7c2) (by decide +kernel) rfl rfl rfl (by decide +kernel)
set_option maxRecDepth 65536 in
theorem w_c21 : (Jvm.Cond.code ({ cls := "java/lang/String", name := "<init>", desc := "(Ljava/lang/AbstractStringBuilder;Ljava/lang/Void;)V" } : Jvm.MethodName) jdk_42_method_150_code (5 : Nat) (Option.none : Option Jvm.ClassFile.FieldType)).before args0 about1 = true := code_word (m := ⟨7, 8⟩) (meth := k7m8) (c := k7c8) (by decide +kernel) rfl rfl rfl (by decide +kernel)
set_option maxRecDepth 65536 in
theorem w_c22 : (Jvm.Cond.code ({ cls := "java/lang/AbstractStringBuilder", name := "getValue", desc := "()[B" } : Jvm.MethodName) jdk_68_method_64_code (1 : Nat) (Option.some (Jvm.ClassFile.FieldType.array Jvm.ClassFile.FieldType.byte))).before args0 about1 = true := code_word (m := ⟨11, 6⟩) (meth := k11m6) (c := k11c6) (by decide +kernel) rfl rfl rfl (by decide +kernel)
set_option maxRecDepth 65536 in
theorem w_c23 : (Jvm.Cond.code ({ cls := "java/lang/StringBuilder", name := "length", desc := "()I" } : Jvm.MethodName) jdk_67_method_93_code (1 : Nat) (Option.some Jvm.ClassFile.FieldType.int)).before args0 about1 = true := code_word (m := ⟨12, 3⟩) (meth := k12m3) (c := k12c3) (by decide +kernel) rfl rfl rfl (by decide +kernel)
set_option maxRecDepth 65536 in
theorem w_c24 : (Jvm.Cond.code ({ cls := "java/lang/AbstractStringBuilder", name := "length", desc := "()I" } : Jvm.MethodName) jdk_68_method_6_code (1 : Nat) (Option.some Jvm.ClassFile.FieldType.int)).before args0 about1 = true := code_word (m := ⟨11, 2⟩) (meth := k11m2) (c := k11c2) (by decide +kernel) rfl rfl rfl (by decide +kernel)
set_option maxRecDepth 65536 in
theorem w_c25 : (Jvm.Cond.code ({ cls := "java/lang/AbstractStringBuilder", name := "isLatin1", desc := "()Z" } : Jvm.MethodName) jdk_68_method_68_code (1 : Nat) (Option.some Jvm.ClassFile.FieldType.boolean)).before args0 about1 = true := code_word (m := ⟨11, 7⟩) (meth := k11m7) (c := k11c7) (by decide +kernel) rfl rfl rfl (by decide +kernel)
set_option maxRecDepth 65536 in
theorem w_c26 : (Jvm.Cond.code ({ cls := "java/util/Arrays", name := "copyOfRange", desc := "([BII)[B" } : Jvm.MethodName) jdk_65_method_132_code (3 : Nat) (Option.some (Jvm.ClassFile.FieldType.array Jvm.ClassFile.FieldType.byte))).before args0 about1 = true := code_word (m := ⟨14, 2⟩) (meth := k14m2) (c := k14c2) (by decide +kernel) rfl rfl rfl (by decide +kernel)
set_option maxRecDepth 65536 in
theorem w_c27 : (Jvm.Cond.code ({ cls := "java/util/Arrays", name := "copyOfRangeByte", desc := "([BII)[B" } : Jvm.MethodName) jdk_65_method_133_code (5 : Nat) (Option.some (Jvm.ClassFile.FieldType.array Jvm.ClassFile.FieldType.byte))).before args0 about1 = true := code_word (m := ⟨14, 3⟩) (meth := k14m3) (c := k14c3) (by decide +kernel) rfl rfl rfl (by decide +kernel)
set_option maxRecDepth 65536 in
theorem w_c28 : (Jvm.Cond.code ({ cls := "java/util/Arrays", name := "checkLength", desc := "(II)V" } : Jvm.MethodName) jdk_65_method_131_code (2 : Nat) (Option.none : Option Jvm.ClassFile.FieldType)).before args0 about1 = true := code_word (m := ⟨14, 1⟩) (meth := k14m1) (c := k14c1) (by decide +kernel) rfl rfl rfl (by decide +kernel)
set_option maxRecDepth 65536 in
theorem w_c29 : (Jvm.Cond.code ({ cls := "java/lang/Math", name := "min", desc := "(II)I" } : Jvm.MethodName) jdk_29_method_69_code (2 : Nat) (Option.some Jvm.ClassFile.FieldType.int)).before args0 about1 = true := code_word (m := ⟨15, 1⟩) (meth := k15m1) (c := k15c1) (by decide +kernel) rfl rfl rfl (by decide +kernel)
set_option maxRecDepth 65536 in
theorem w_c30 : (Jvm.Cond.code ({ cls := "java/lang/String", name := "equals", desc := "(Ljava/lang/Object;)Z" } : Jvm.MethodName) jdk_42_method_66_code (3 : Nat) (Option.some Jvm.ClassFile.FieldType.boolean)).before args0 about1 = true := code_word (m := ⟨7, 5⟩) (meth := k7m5) (c := k7c5) (by decide +kernel) rfl rfl rfl (by decide +kernel)
set_option maxRecDepth 65536 in
theorem w_c31 : (Jvm.Cond.code ({ cls := "java/lang/StringLatin1", name := "equals", desc := "([B[B)Z" } : Jvm.MethodName) jdk_43_method_13_code (3 : Nat) (Option.some Jvm.ClassFile.FieldType.boolean)).before args0 about1 = true := code_word (m := ⟨16, 2⟩) (meth := k16m2) (c := k16c2) (by decide +kernel) rfl rfl rfl (by decide +kernel)
set_option maxRecDepth 65536 in
theorem w_c32 : (Jvm.Cond.code ({ cls := "com/example/synclane/synclane/command/Line", name := "<init>", desc := "(Ljava/lang/String;Z)V" } : Jvm.MethodName) prog_28_method_1_code (3 : Nat) (Option.none : Option Jvm.ClassFile.FieldType)).before args0 about1 = true := code_word (m := ⟨9, 0⟩) (meth := k9m0) (c := k9c0) (by decide +kernel) rfl rfl rfl (by decide +kernel)
set_option maxRecDepth 65536 in
theorem w_c33 : (Jvm.Cond.code ({ cls := "java/lang/Record", name := "<init>", desc := "()V" } : Jvm.MethodName) jdk_30_method_1_code (1 : Nat) (Option.none : Option Jvm.ClassFile.FieldType)).before args0 about1 = true := code_word (m := ⟨8, 0⟩) (meth := k8m0) (c := k8c0) (by decide +kernel) rfl rfl rfl (by decide +kernel)
set_option maxRecDepth 65536 in
theorem w_c34 : (Jvm.Cond.code ({ cls := "com/example/synclane/synclane/command/Line", name := "text", desc := "()Ljava/lang/String;" } : Jvm.MethodName) prog_28_method_9_code (1 : Nat) (Option.some (Jvm.ClassFile.FieldType.object "java/lang/String"))).before args0 about1 = true := code_word (m := ⟨9, 2⟩) (meth := k9m2) (c := k9c2) (by decide +kernel) rfl rfl rfl (by decide +kernel)
set_option maxRecDepth 65536 in
theorem w_c35 : (Jvm.Cond.code ({ cls := "com/example/synclane/synclane/command/LineExpectPinLaw", name := "ok", desc := "(Ljava/lang/String;IICCCC)Z" } : Jvm.MethodName) method_7_code (7 : Nat) (Option.some Jvm.ClassFile.FieldType.boolean)).before args0 about1 = true := code_word (m := ⟨1, 6⟩) (meth := k1m6) (c := k1c6) (by decide +kernel) rfl rfl rfl (by decide +kernel)
set_option maxRecDepth 65536 in
theorem w_c36 : (Jvm.Cond.code ({ cls := "java/lang/String", name := "charAt", desc := "(I)C" } : Jvm.MethodName) jdk_42_method_56_code (2 : Nat) (Option.some Jvm.ClassFile.FieldType.char)).before args0 about1 = true := code_word (m := ⟨7, 4⟩) (meth := k7m4) (c := k7c4) (by decide +kernel) rfl rfl rfl (by decide +kernel)
set_option maxRecDepth 65536 in
theorem w_c37 : (Jvm.Cond.code ({ cls := "java/lang/String", name := "isLatin1", desc := "()Z" } : Jvm.MethodName) jdk_42_method_154_code (1 : Nat) (Option.some Jvm.ClassFile.FieldType.boolean)).before args0 about1 = true := code_word (m := ⟨7, 10⟩) (meth := k7m10) (c := k7c10) (by decide +kernel) rfl rfl rfl (by decide +kernel)
set_option maxRecDepth 65536 in
theorem w_c38 : (Jvm.Cond.code ({ cls := "java/lang/StringLatin1", name := "charAt", desc := "([BI)C" } : Jvm.MethodName) jdk_43_method_2_code (2 : Nat) (Option.some Jvm.ClassFile.FieldType.char)).before args0 about1 = true := code_word (m := ⟨16, 1⟩) (meth := k16m1) (c := k16c1) (by decide +kernel) rfl rfl rfl (by decide +kernel)
set_option maxRecDepth 65536 in
theorem w_c39 : (Jvm.Cond.code ({ cls := "java/lang/String", name := "checkIndex", desc := "(II)V" } : Jvm.MethodName) jdk_42_method_155_code (2 : Nat) (Option.none : Option Jvm.ClassFile.FieldType)).before args0 about1 = true := code_word (m := ⟨7, 11⟩) (meth := k7m11) (c := k7c11) (by decide +kernel) rfl rfl rfl (by decide +kernel)
set_option maxRecDepth 65536 in
theorem w_c40 : (Jvm.Cond.code ({ cls := "jdk/internal/util/Preconditions", name := "checkIndex", desc := "(IILjava/util/function/BiFunction;)I" } : Jvm.MethodName) jdk_41_method_11_code (3 : Nat) (Option.some Jvm.ClassFile.FieldType.int)).before args0 about1 = true := code_word (m := ⟨17, 1⟩) (meth := k17m1) (c := k17c1) (by decide +kernel) rfl rfl rfl (by decide +kernel)
set_option maxRecDepth 65536 in
theorem w_c41 : (Jvm.Cond.code ({ cls := "com/example/synclane/synclane/command/LineExpectPinLaw", name := "expectedAt", desc := "(IICCCC)C" } : Jvm.MethodName) method_6_code (7 : Nat) (Option.some Jvm.ClassFile.FieldType.char)).before args0 about1 = true := code_word (m := ⟨1, 5⟩) (meth := k1m5) (c := k1c5) (by decide +kernel) rfl rfl rfl (by decide +kernel)
set_option maxRecDepth 65536 in
theorem w_c42 : (Jvm.Cond.code ({ cls := "com/example/synclane/synclane/command/Line", name := "holds", desc := "()Z" } : Jvm.MethodName) prog_28_method_10_code (1 : Nat) (Option.some Jvm.ClassFile.FieldType.boolean)).before args0 about1 = true := code_word (m := ⟨9, 3⟩) (meth := k9m3) (c := k9c3) (by decide +kernel) rfl rfl rfl (by decide +kernel)
set_option maxRecDepth 65536 in
theorem w_c43 : (Jvm.Cond.code ({ cls := "java/lang/StringUTF16", name := "compress", desc := "([CII)[B" } : Jvm.MethodName) jdk_52_method_16_code (6 : Nat) (Option.some (Jvm.ClassFile.FieldType.array Jvm.ClassFile.FieldType.byte))).before args0 about1 = true := code_word (m := ⟨18, 8⟩) (meth := k18m8) (c := k18c8) (by decide +kernel) rfl rfl rfl (by decide +kernel)
set_option maxRecDepth 65536 in
theorem w_c44 : (Jvm.Cond.code ({ cls := "java/lang/StringUTF16", name := "compress", desc := "([CI[BII)I" } : Jvm.MethodName) jdk_52_method_21_code (7 : Nat) (Option.some Jvm.ClassFile.FieldType.int)).before args0 about1 = true := code_word (m := ⟨18, 9⟩) (meth := k18m9) (c := k18c9) (by decide +kernel) rfl rfl rfl (by decide +kernel)
set_option maxRecDepth 65536 in
theorem w_c45 : (Jvm.Cond.code ({ cls := "java/lang/StringUTF16", name := "toBytes", desc := "([CII)[B" } : Jvm.MethodName) jdk_52_method_14_code (5 : Nat) (Option.some (Jvm.ClassFile.FieldType.array Jvm.ClassFile.FieldType.byte))).before args0 about1 = true := code_word (m := ⟨18, 6⟩) (meth := k18m6) (c := k18c6) (by decide +kernel) rfl rfl rfl (by decide +kernel)
set_option maxRecDepth 65536 in
theorem w_c46 : (Jvm.Cond.code ({ cls := "java/lang/StringUTF16", name := "newBytesFor", desc := "(I)[B" } : Jvm.MethodName) jdk_52_method_2_code (1 : Nat) (Option.some (Jvm.ClassFile.FieldType.array Jvm.ClassFile.FieldType.byte))).before args0 about1 = true := code_word (m := ⟨18, 1⟩) (meth := k18m1) (c := k18c1) (by decide +kernel) rfl rfl rfl (by decide +kernel)
set_option maxRecDepth 65536 in
theorem w_c47 : (Jvm.Cond.code ({ cls := "java/lang/StringUTF16", name := "newBytesLength", desc := "(I)I" } : Jvm.MethodName) jdk_52_method_3_code (1 : Nat) (Option.some Jvm.ClassFile.FieldType.int)).before args0 about1 = true := code_word (m := ⟨18, 2⟩) (meth := k18m2) (c := k18c2) (by decide +kernel) rfl rfl rfl (by decide +kernel)
set_option maxRecDepth 65536 in
theorem w_c48 : (Jvm.Cond.code ({ cls := "java/lang/StringUTF16", name := "putChar", desc := "([BII)V" } : Jvm.MethodName) jdk_52_method_4_code (3 : Nat) (Option.none : Option Jvm.ClassFile.FieldType)).before args0 about1 = true := code_word (m := ⟨18, 3⟩) (meth := k18m3) (c := k18c3) (by decide +kernel) rfl rfl rfl (by decide +kernel)
set_option maxRecDepth 65536 in
theorem w_c49 : (Jvm.Cond.code ({ cls := "java/lang/StringUTF16", name := "getChar", desc := "([BI)C" } : Jvm.MethodName) jdk_52_method_5_code (2 : Nat) (Option.some Jvm.ClassFile.FieldType.char)).before args0 about1 = true := code_word (m := ⟨18, 4⟩) (meth := k18m4) (c := k18c4) (by decide +kernel) rfl rfl rfl (by decide +kernel)
set_option maxRecDepth 65536 in
theorem w_c50 : (Jvm.Cond.code ({ cls := "java/lang/StringUTF16", name := "coderFromArrayLen", desc := "([BI)B" } : Jvm.MethodName) jdk_52_method_15_code (2 : Nat) (Option.some Jvm.ClassFile.FieldType.byte)).before args0 about1 = true := code_word (m := ⟨18, 7⟩) (meth := k18m7) (c := k18c7) (by decide +kernel) rfl rfl rfl (by decide +kernel)
set_option maxRecDepth 65536 in
theorem w_c51 : (Jvm.Cond.code ({ cls := "java/lang/AbstractStringBuilder", name := "inflate", desc := "()V" } : Jvm.MethodName) jdk_68_method_11_code (2 : Nat) (Option.none : Option Jvm.ClassFile.FieldType)).before args0 about1 = true := code_word (m := ⟨11, 4⟩) (meth := k11m4) (c := k11c4) (by decide +kernel) rfl rfl rfl (by decide +kernel)
set_option maxRecDepth 65536 in
theorem w_c52 : (Jvm.Cond.code ({ cls := "java/lang/StringLatin1", name := "inflate", desc := "([BI[BII)V" } : Jvm.MethodName) jdk_43_method_50_code (5 : Nat) (Option.none : Option Jvm.ClassFile.FieldType)).before args0 about1 = true := code_word (m := ⟨16, 3⟩) (meth := k16m3) (c := k16c3) (by decide +kernel) rfl rfl rfl (by decide +kernel)
set_option maxRecDepth 65536 in
theorem w_c53 : (Jvm.Cond.code ({ cls := "java/lang/StringUTF16", name := "inflate", desc := "([BI[BII)V" } : Jvm.MethodName) jdk_52_method_86_code (6 : Nat) (Option.none : Option Jvm.ClassFile.FieldType)).before args0 about1 = true := code_word (m := ⟨18, 11⟩) (meth := k18m11) (c := k18c11) (by decide +kernel) rfl rfl rfl (by decide +kernel)
set_option maxRecDepth 65536 in
theorem w_c54 : (Jvm.Cond.code ({ cls := "java/lang/StringUTF16", name := "checkBoundsOffCount", desc := "(II[B)V" } : Jvm.MethodName) jdk_52_method_94_code (3 : Nat) (Option.none : Option Jvm.ClassFile.FieldType)).before args0 about1 = true := code_word (m := ⟨18, 13⟩) (meth := k18m13) (c := k18c13) (by decide +kernel) rfl rfl rfl (by decide +kernel)
set_option maxRecDepth 65536 in
theorem w_c55 : (Jvm.Cond.code ({ cls := "java/lang/StringUTF16", name := "length", desc := "([B)I" } : Jvm.MethodName) jdk_52_method_6_code (1 : Nat) (Option.some Jvm.ClassFile.FieldType.int)).before args0 about1 = true := code_word (m := ⟨18, 5⟩) (meth := k18m5) (c := k18c5) (by decide +kernel) rfl rfl rfl (by decide +kernel)
set_option maxRecDepth 65536 in
theorem w_c56 : (Jvm.Cond.code ({ cls := "java/lang/String", name := "checkBoundsOffCount", desc := "(III)I" } : Jvm.MethodName) jdk_42_method_157_code (3 : Nat) (Option.some Jvm.ClassFile.FieldType.int)).before args0 about1 = true := code_word (m := ⟨7, 12⟩) (meth := k7m12) (c := k7c12) (by decide +kernel) rfl rfl rfl (by decide +kernel)
set_option maxRecDepth 65536 in
theorem w_c57 : (Jvm.Cond.code ({ cls := "jdk/internal/util/Preconditions", name := "checkFromIndexSize", desc := "(IIILjava/util/function/BiFunction;)I" } : Jvm.MethodName) jdk_41_method_13_code (4 : Nat) (Option.some Jvm.ClassFile.FieldType.int)).before args0 about1 = true := code_word (m := ⟨17, 2⟩) (meth := k17m2) (c := k17c2) (by decide +kernel) rfl rfl rfl (by decide +kernel)
set_option maxRecDepth 65536 in
theorem w_c58 : (Jvm.Cond.code ({ cls := "java/lang/StringUTF16", name := "charAt", desc := "([BI)C" } : Jvm.MethodName) jdk_52_method_83_code (2 : Nat) (Option.some Jvm.ClassFile.FieldType.char)).before args0 about1 = true := code_word (m := ⟨18, 10⟩) (meth := k18m10) (c := k18c10) (by decide +kernel) rfl rfl rfl (by decide +kernel)
set_option maxRecDepth 65536 in
theorem w_c59 : (Jvm.Cond.code ({ cls := "java/lang/StringUTF16", name := "checkIndex", desc := "(I[B)V" } : Jvm.MethodName) jdk_52_method_91_code (2 : Nat) (Option.none : Option Jvm.ClassFile.FieldType)).before args0 about1 = true := code_word (m := ⟨18, 12⟩) (meth := k18m12) (c := k18c12) (by decide +kernel) rfl rfl rfl (by decide +kernel)
def codes1 : List Jvm.Cond := [Jvm.Cond.code x code maxLocals ret, Jvm.Cond.code ({ cls := "com/example/synclane/synclane/command/LineExpectPinLaw", name := "lenOf", desc := "(J)I" } : Jvm.MethodName) method_3_code (2 : Nat) (Option.some Jvm.ClassFile.FieldType.int), Jvm.Cond.code ({ cls := "com/example/synclane/synclane/command/LineExpectPinLaw", name := "c0", desc := "(J)C" } : Jvm.MethodName) method_4_code (2 : Nat) (Option.some Jvm.ClassFile.FieldType.char), Jvm.Cond.code ({ cls := "com/example/synclane/synclane/command/LineExpectPinLaw", name := "c1", desc := "(J)C" } : Jvm.MethodName) method_5_code (2 : Nat) (Option.some Jvm.ClassFile.FieldType.char), Jvm.Cond.code ({ cls := "com/example/synclane/synclane/command/LineExpectPinLaw", name := "mk", desc := "(ICC)Ljava/lang/String;" } : Jvm.MethodName) method_2_code (3 : Nat) (Option.some (Jvm.ClassFile.FieldType.object "java/lang/String")), Jvm.Cond.code ({ cls := "java/lang/String", name := "<init>", desc := "([C)V" } : Jvm.MethodName) jdk_42_method_3_code (2 : Nat) (Option.none : Option Jvm.ClassFile.FieldType), Jvm.Cond.code ({ cls := "java/lang/String", name := "<init>", desc := "([CIILjava/lang/Void;)V" } : Jvm.MethodName) jdk_42_method_149_code (6 : Nat) (Option.none : Option Jvm.ClassFile.FieldType), Jvm.Cond.code ({ cls := "java/lang/Object", name := "<init>", desc := "()V" } : Jvm.MethodName) object_method_1_code (1 : Nat) (Option.none : Option Jvm.ClassFile.FieldType), Jvm.Cond.code ({ cls := "com/example/synclane/synclane/command/Line", name := "expect", desc := "(Ljava/lang/String;Ljava/lang/String;Ljava/lang/String;)Lcom/example/synclane/synclane/command/Line;" } : Jvm.MethodName) prog_28_method_2_code (3 : Nat) (Option.some (Jvm.ClassFile.FieldType.object "com/example/synclane/synclane/command/Line")), Jvm.Cond.code ({ cls := "java/lang/StringBuilder", name := "<init>", desc := "()V" } : Jvm.MethodName) jdk_67_method_1_code (1 : Nat) (Option.none : Option Jvm.ClassFile.FieldType), Jvm.Cond.code ({ cls := "java/lang/AbstractStringBuilder", name := "<init>", desc := "(I)V" } : Jvm.MethodName) jdk_68_method_2_code (2 : Nat) (Option.none : Option Jvm.ClassFile.FieldType), Jvm.Cond.code ({ cls := "java/lang/StringBuilder", name := "append", desc := "(Ljava/lang/String;)Ljava/lang/StringBuilder;" } : Jvm.MethodName) jdk_67_method_7_code (2 : Nat) (Option.some (Jvm.ClassFile.FieldType.object "java/lang/StringBuilder")), Jvm.Cond.code ({ cls := "java/lang/AbstractStringBuilder", name := "append", desc := "(Ljava/lang/String;)Ljava/lang/AbstractStringBuilder;" } : Jvm.MethodName) jdk_68_method_22_code (3 : Nat) (Option.some (Jvm.ClassFile.FieldType.object "java/lang/AbstractStringBuilder")), Jvm.Cond.code ({ cls := "java/lang/String", name := "length", desc := "()I" } : Jvm.MethodName) jdk_42_method_54_code (1 : Nat) (Option.some Jvm.ClassFile.FieldType.int), Jvm.Cond.code ({ cls := "java/lang/String", name := "coder", desc := "()B" } : Jvm.MethodName) jdk_42_method_152_code (1 : Nat) (Option.some Jvm.ClassFile.FieldType.byte), Jvm.Cond.code ({ cls := "java/lang/AbstractStringBuilder", name := "ensureCapacityInternal", desc := "(I)V" } : Jvm.MethodName) jdk_68_method_9_code (3 : Nat) (Option.none : Option Jvm.ClassFile.FieldType), Jvm.Cond.code ({ cls := "java/lang/AbstractStringBuilder", name := "putStringAt", desc := "(ILjava/lang/String;)V" } : Jvm.MethodName) jdk_68_method_73_code (3 : Nat) (Option.none : Option Jvm.ClassFile.FieldType), Jvm.Cond.code ({ cls := "java/lang/AbstractStringBuilder", name := "inflateIfNeededFor", desc := "(Ljava/lang/String;)V" } : Jvm.MethodName) jdk_68_method_71_code (2 : Nat) (Option.none : Option Jvm.ClassFile.FieldType), Jvm.Cond.code ({ cls := "java/lang/String", name := "getBytes", desc := "([BIB)V" } : Jvm.MethodName) jdk_42_method_147_code (4 : Nat) (Option.none : Option Jvm.ClassFile.FieldType), Jvm.Cond.code ({ cls := "java/lang/StringBuilder", name := "toString", desc := "()Ljava/lang/String;" } : Jvm.MethodName) jdk_67_method_42_code (1 : Nat) (Option.some (Jvm.ClassFile.FieldType.object "java/lang/String")), Jvm.Cond.code ({ cls := "java/lang/String", name := "<init>", desc := "(Ljava/lang/StringBuilder;)V" } : Jvm.MethodName) jdk_42_method_53_code (2 : Nat) (Option.none : Option Jvm.ClassFile.FieldType), Jvm.Cond.code ({ cls := "java/lang/String", name := "<init>", desc := "(Ljava/lang/AbstractStringBuilder;Ljava/lang/Void;)V" } : Jvm.MethodName) jdk_42_method_150_code (5 : Nat) (Option.none : Option Jvm.ClassFile.FieldType), Jvm.Cond.code ({ cls := "java/lang/AbstractStringBuilder", name := "getValue", desc := "()[B" } : Jvm.MethodName) jdk_68_method_64_code (1 : Nat) (Option.some (Jvm.ClassFile.FieldType.array Jvm.ClassFile.FieldType.byte)), Jvm.Cond.code ({ cls := "java/lang/StringBuilder", name := "length", desc := "()I" } : Jvm.MethodName) jdk_67_method_93_code (1 : Nat) (Option.some Jvm.ClassFile.FieldType.int), Jvm.Cond.code ({ cls := "java/lang/AbstractStringBuilder", name := "length", desc := "()I" } : Jvm.MethodName) jdk_68_method_6_code (1 : Nat) (Option.some Jvm.ClassFile.FieldType.int), Jvm.Cond.code ({ cls := "java/lang/AbstractStringBuilder", name := "isLatin1", desc := "()Z" } : Jvm.MethodName) jdk_68_method_68_code (1 : Nat) (Option.some Jvm.ClassFile.FieldType.boolean), Jvm.Cond.code ({ cls := "java/util/Arrays", name := "copyOfRange", desc := "([BII)[B" } : Jvm.MethodName) jdk_65_method_132_code (3 : Nat) (Option.some (Jvm.ClassFile.FieldType.array Jvm.ClassFile.FieldType.byte)), Jvm.Cond.code ({ cls := "java/util/Arrays", name := "copyOfRangeByte", desc := "([BII)[B" } : Jvm.MethodName) jdk_65_method_133_code (5 : Nat) (Option.some (Jvm.ClassFile.FieldType.array Jvm.ClassFile.FieldType.byte)), Jvm.Cond.code ({ cls := "java/util/Arrays", name := "checkLength", desc := "(II)V" } : Jvm.MethodName) jdk_65_method_131_code (2 : Nat) (Option.none : Option Jvm.ClassFile.FieldType), Jvm.Cond.code ({ cls := "java/lang/Math", name := "min", desc := "(II)I" } : Jvm.MethodName) jdk_29_method_69_code (2 : Nat) (Option.some Jvm.ClassFile.FieldType.int), Jvm.Cond.code ({ cls := "java/lang/String", name := "equals", desc := "(Ljava/lang/Object;)Z" } : Jvm.MethodName) jdk_42_method_66_code (3 : Nat) (Option.some Jvm.ClassFile.FieldType.boolean), Jvm.Cond.code ({ cls := "java/lang/StringLatin1", name := "equals", desc := "([B[B)Z" } : Jvm.MethodName) jdk_43_method_13_code (3 : Nat) (Option.some Jvm.ClassFile.FieldType.boolean), Jvm.Cond.code ({ cls := "com/example/synclane/synclane/command/Line", name := "<init>", desc := "(Ljava/lang/String;Z)V" } : Jvm.MethodName) prog_28_method_1_code (3 : Nat) (Option.none : Option Jvm.ClassFile.FieldType), Jvm.Cond.code ({ cls := "java/lang/Record", name := "<init>", desc := "()V" } : Jvm.MethodName) jdk_30_method_1_code (1 : Nat) (Option.none : Option Jvm.ClassFile.FieldType), Jvm.Cond.code ({ cls := "com/example/synclane/synclane/command/Line", name := "text", desc := "()Ljava/lang/String;" } : Jvm.MethodName) prog_28_method_9_code (1 : Nat) (Option.some (Jvm.ClassFile.FieldType.object "java/lang/String")), Jvm.Cond.code ({ cls := "com/example/synclane/synclane/command/LineExpectPinLaw", name := "ok", desc := "(Ljava/lang/String;IICCCC)Z" } : Jvm.MethodName) method_7_code (7 : Nat) (Option.some Jvm.ClassFile.FieldType.boolean), Jvm.Cond.code ({ cls := "java/lang/String", name := "charAt", desc := "(I)C" } : Jvm.MethodName) jdk_42_method_56_code (2 : Nat) (Option.some Jvm.ClassFile.FieldType.char), Jvm.Cond.code ({ cls := "java/lang/String", name := "isLatin1", desc := "()Z" } : Jvm.MethodName) jdk_42_method_154_code (1 : Nat) (Option.some Jvm.ClassFile.FieldType.boolean), Jvm.Cond.code ({ cls := "java/lang/StringLatin1", name := "charAt", desc := "([BI)C" } : Jvm.MethodName) jdk_43_method_2_code (2 : Nat) (Option.some Jvm.ClassFile.FieldType.char), Jvm.Cond.code ({ cls := "java/lang/String", name := "checkIndex", desc := "(II)V" } : Jvm.MethodName) jdk_42_method_155_code (2 : Nat) (Option.none : Option Jvm.ClassFile.FieldType), Jvm.Cond.code ({ cls := "jdk/internal/util/Preconditions", name := "checkIndex", desc := "(IILjava/util/function/BiFunction;)I" } : Jvm.MethodName) jdk_41_method_11_code (3 : Nat) (Option.some Jvm.ClassFile.FieldType.int), Jvm.Cond.code ({ cls := "com/example/synclane/synclane/command/LineExpectPinLaw", name := "expectedAt", desc := "(IICCCC)C" } : Jvm.MethodName) method_6_code (7 : Nat) (Option.some Jvm.ClassFile.FieldType.char), Jvm.Cond.code ({ cls := "com/example/synclane/synclane/command/Line", name := "holds", desc := "()Z" } : Jvm.MethodName) prog_28_method_10_code (1 : Nat) (Option.some Jvm.ClassFile.FieldType.boolean), Jvm.Cond.code ({ cls := "java/lang/StringUTF16", name := "compress", desc := "([CII)[B" } : Jvm.MethodName) jdk_52_method_16_code (6 : Nat) (Option.some (Jvm.ClassFile.FieldType.array Jvm.ClassFile.FieldType.byte)), Jvm.Cond.code ({ cls := "java/lang/StringUTF16", name := "compress", desc := "([CI[BII)I" } : Jvm.MethodName) jdk_52_method_21_code (7 : Nat) (Option.some Jvm.ClassFile.FieldType.int), Jvm.Cond.code ({ cls := "java/lang/StringUTF16", name := "toBytes", desc := "([CII)[B" } : Jvm.MethodName) jdk_52_method_14_code (5 : Nat) (Option.some (Jvm.ClassFile.FieldType.array Jvm.ClassFile.FieldType.byte)), Jvm.Cond.code ({ cls := "java/lang/StringUTF16", name := "newBytesFor", desc := "(I)[B" } : Jvm.MethodName) jdk_52_method_2_code (1 : Nat) (Option.some (Jvm.ClassFile.FieldType.array Jvm.ClassFile.FieldType.byte)), Jvm.Cond.code ({ cls := "java/lang/StringUTF16", name := "newBytesLength", desc := "(I)I" } : Jvm.MethodName) jdk_52_method_3_code (1 : Nat) (Option.some Jvm.ClassFile.FieldType.int), Jvm.Cond.code ({ cls := "java/lang/StringUTF16", name := "putChar", desc := "([BII)V" } : Jvm.MethodName) jdk_52_method_4_code (3 : Nat) (Option.none : Option Jvm.ClassFile.FieldType), Jvm.Cond.code ({ cls := "java/lang/StringUTF16", name := "getChar", desc := "([BI)C" } : Jvm.MethodName) jdk_52_method_5_code (2 : Nat) (Option.some Jvm.ClassFile.FieldType.char), Jvm.Cond.code ({ cls := "java/lang/StringUTF16", name := "coderFromArrayLen", desc := "([BI)B" } : Jvm.MethodName) jdk_52_method_15_code (2 : Nat) (Option.some Jvm.ClassFile.FieldType.byte), Jvm.Cond.code ({ cls := "java/lang/AbstractStringBuilder", name := "inflate", desc := "()V" } : Jvm.MethodName) jdk_68_method_11_code (2 : Nat) (Option.none : Option Jvm.ClassFile.FieldType), Jvm.Cond.code ({ cls := "java/lang/StringLatin1", name := "inflate", desc := "([BI[BII)V" } : Jvm.MethodName) jdk_43_method_50_code (5 : Nat) (Option.none : Option Jvm.ClassFile.FieldType), Jvm.Cond.code ({ cls := "java/lang/StringUTF16", name := "inflate", desc := "([BI[BII)V" } : Jvm.MethodName) jdk_52_method_86_code (6 : Nat) (Option.none : Option Jvm.ClassFile.FieldType), Jvm.Cond.code ({ cls := "java/lang/StringUTF16", name := "checkBoundsOffCount", desc := "(II[B)V" } : Jvm.MethodName) jdk_52_method_94_code (3 : Nat) (Option.none : Option Jvm.ClassFile.FieldType), Jvm.Cond.code ({ cls := "java/lang/StringUTF16", name := "length", desc := "([B)I" } : Jvm.MethodName) jdk_52_method_6_code (1 : Nat) (Option.some Jvm.ClassFile.FieldType.int), Jvm.Cond.code ({ cls := "java/lang/String", name := "checkBoundsOffCount", desc := "(III)I" } : Jvm.MethodName) jdk_42_method_157_code (3 : Nat) (Option.some Jvm.ClassFile.FieldType.int), Jvm.Cond.code ({ cls := "jdk/internal/util/Preconditions", name := "checkFromIndexSize", desc := "(IIILjava/util/function/BiFunction;)I" } : Jvm.MethodName) jdk_41_method_13_code (4 : Nat) (Option.some Jvm.ClassFile.FieldType.int), Jvm.Cond.code ({ cls := "java/lang/StringUTF16", name := "charAt", desc := "([BI)C" } : Jvm.MethodName) jdk_52_method_83_code (2 : Nat) (Option.some Jvm.ClassFile.FieldType.char), Jvm.Cond.code ({ cls := "java/lang/StringUTF16", name := "checkIndex", desc := "(I[B)V" } : Jvm.MethodName) jdk_52_method_91_code (2 : Nat) (Option.none : Option Jvm.ClassFile.FieldType)]
set_option maxRecDepth 65536 in
theorem codes_eq : words1.filter isCode = codes1 := rfl
theorem w_codes : ∀ c ∈ words1.filter isCode, c.before args0 about1 = true := by
  rw [codes_eq]
  intro c hc
  simp only [codes1, List.mem_cons, List.not_mem_nil, or_false] at hc
  rcases hc with rfl | rfl | rfl | rfl | rfl | rfl | rfl | rfl | rfl | rfl | rfl | rfl | rfl | rfl | rfl | rfl | rfl | rfl | rfl | rfl | rfl | rfl | rfl | rfl | rfl | rfl | rfl | rfl | rfl | rfl | rfl | rfl | rfl | rfl | rfl | rfl | rfl | rfl | rfl | rfl | rfl | rfl | rfl | rfl | rfl | rfl | rfl | rfl | rfl | rfl | rfl | rfl | rfl | rfl | rfl | rfl | rfl | rfl | rfl | rfl
  · exact w_c0
  · exact w_c1
  · exact w_c2
  · exact w_c3
  · exact w_c4
  · exact w_c5
  · exact w_c6
  · exact w_c7
  · exact w_c8
  · exact w_c9
  · exact w_c10
  · exact w_c11
  · exact w_c12
  · exact w_c13
  · exact w_c14
  · exact w_c15
  · exact w_c16
  · exact w_c17
  · exact w_c18
  · exact w_c19
  · exact w_c20
  · exact w_c21
  · exact w_c22
  · exact w_c23
  · exact w_c24
  · exact w_c25
  · exact w_c26
  · exact w_c27
  · exact w_c28
  · exact w_c29
  · exact w_c30
  · exact w_c31
  · exact w_c32
  · exact w_c33
  · exact w_c34
  · exact w_c35
  · exact w_c36
  · exact w_c37
  · exact w_c38
  · exact w_c39
  · exact w_c40
  · exact w_c41
  · exact w_c42
  · exact w_c43
  · exact w_c44
  · exact w_c45
  · exact w_c46
  · exact w_c47
  · exact w_c48
  · exact w_c49
  · exact w_c50
  · exact w_c51
  · exact w_c52
  · exact w_c53
  · exact w_c54
  · exact w_c55
  · exact w_c56
  · exact w_c57
  · exact w_c58
  · exact w_c59
set_option maxRecDepth 65536 in
theorem w_t1 : (words1.take 24).all (fun c => isCode c || c.before args0 about1) = true := by decide +kernel
set_option maxRecDepth 65536 in
theorem w_t2 : ((words1.drop 24).take 24).all (fun c => isCode c || c.before args0 about1) = true := by decide +kernel
set_option maxRecDepth 65536 in
theorem w_t3 : (((words1.drop 24).drop 24).take 24).all (fun c => isCode c || c.before args0 about1) = true := by decide +kernel
set_option maxRecDepth 65536 in
theorem w_t4 : ((((words1.drop 24).drop 24).drop 24).take 24).all (fun c => isCode c || c.before args0 about1) = true := by decide +kernel
set_option maxRecDepth 65536 in
theorem w_t5 : (((((words1.drop 24).drop 24).drop 24).drop 24).take 24).all (fun c => isCode c || c.before args0 about1) = true := by decide +kernel
set_option maxRecDepth 65536 in
theorem w_t6 : ((((((words1.drop 24).drop 24).drop 24).drop 24).drop 24).take 24).all (fun c => isCode c || c.before args0 about1) = true := by decide +kernel
set_option maxRecDepth 65536 in
theorem w_t7 : (((((((words1.drop 24).drop 24).drop 24).drop 24).drop 24).drop 24).take 24).all (fun c => isCode c || c.before args0 about1) = true := by decide +kernel
set_option maxRecDepth 65536 in
theorem w_t8 : ((((((((words1.drop 24).drop 24).drop 24).drop 24).drop 24).drop 24).drop 24).take 24).all (fun c => isCode c || c.before args0 about1) = true := by decide +kernel
set_option maxRecDepth 65536 in
theorem w_t9 : (((((((((words1.drop 24).drop 24).drop 24).drop 24).drop 24).drop 24).drop 24).drop 24).take 24).all (fun c => isCode c || c.before args0 about1) = true := by decide +kernel
set_option maxRecDepth 65536 in
theorem w_t10 : ((((((((((words1.drop 24).drop 24).drop 24).drop 24).drop 24).drop 24).drop 24).drop 24).drop 24).take 24).all (fun c => isCode c || c.before args0 about1) = true := by decide +kernel
set_option maxRecDepth 65536 in
theorem w_t11 : (((((((((((words1.drop 24).drop 24).drop 24).drop 24).drop 24).drop 24).drop 24).drop 24).drop 24).drop 24).take 24).all (fun c => isCode c || c.before args0 about1) = true := by decide +kernel
set_option maxRecDepth 65536 in
theorem w_t12 : (((((((((((words1.drop 24).drop 24).drop 24).drop 24).drop 24).drop 24).drop 24).drop 24).drop 24).drop 24).drop 24).all (fun c => isCode c || c.before args0 about1) = true := by decide +kernel
theorem w_tables : (allAtoms (Jvm.Cond.code x code maxLocals ret :: tables_1)).before args0 about1 = true := by
  rw [allAtoms_all]
  show words1.all (fun c => c.before args0 about1) = true
  refine all_split ?_ w_codes
  rw [← List.take_append_drop 24 words1, List.all_append, w_t1, ← List.take_append_drop 24 (words1.drop 24), List.all_append, w_t2, ← List.take_append_drop 24 ((words1.drop 24).drop 24), List.all_append, w_t3, ← List.take_append_drop 24 (((words1.drop 24).drop 24).drop 24), List.all_append, w_t4, ← List.take_append_drop 24 ((((words1.drop 24).drop 24).drop 24).drop 24), List.all_append, w_t5, ← List.take_append_drop 24 (((((words1.drop 24).drop 24).drop 24).drop 24).drop 24), List.all_append, w_t6, ← List.take_append_drop 24 ((((((words1.drop 24).drop 24).drop 24).drop 24).drop 24).drop 24), List.all_append, w_t7, ← List.take_append_drop 24 (((((((words1.drop 24).drop 24).drop 24).drop 24).drop 24).drop 24).drop 24), List.all_append, w_t8, ← List.take_append_drop 24 ((((((((words1.drop 24).drop 24).drop 24).drop 24).drop 24).drop 24).drop 24).drop 24), List.all_append, w_t9, ← List.take_append_drop 24 (((((((((words1.drop 24).drop 24).drop 24).drop 24).drop 24).drop 24).drop 24).drop 24).drop 24), List.all_append, w_t10, ← List.take_append_drop 24 ((((((((((words1.drop 24).drop 24).drop 24).drop 24).drop 24).drop 24).drop 24).drop 24).drop 24).drop 24), List.all_append, w_t11, w_t12]
  rfl
set_option maxRecDepth 65536 in
theorem w_rest : rest_1_c.before args0 about1 = true := by decide +kernel
set_option maxRecDepth 65536 in
theorem w_case : (Jvm.Cond.and given_1 narrow_1).before args0 about1 = true := by decide +kernel
set_option maxRecDepth 65536 in
theorem w_consts : constsHeld consts_1 about1 := Jvm.Lit.constsHeldB_iff.mp (by decide +kernel)
theorem w_applies : (headSpec (Jvm.Cond.code x code maxLocals ret :: tables_1) room_1).applies x e0.platform about1 = true :=
  (Spec.applies_iff w_frames).mpr ⟨w_running, w_runnable, w_alone, w_named, w_hears, w_ripe, w_room, w_tables⟩
theorem atStart : AtStart classFile x code maxLocals ret World_1 tables_1 room_1 Calls_1 rest_1 Pre_1 launch0 p0 e0 about1 theMethod args0 below0 :=
  ⟨lists_1, trivial, launch0.admits_env _ _ _, launch0.least_env, fairChoices_fair.cas, fairChoices_fair.clock, w_frames, w_args, w_heap, w_applies, ⟨w_consts, trivial⟩, w_rest, w_case⟩
end start1
theorem witness_1 : WitnessClaimed_1 := ⟨start1.p0, start1.e0, start1.about1, start1.theMethod, start1.args0, start1.below0, start1.atStart⟩
end Jvm.Pilot.@@N@@
