import JvmDerived
import JvmDerived.Pilot.@@N@@Statement
import JvmDerived.Pilot.@@N@@Code
set_option linter.unusedVariables false
set_option linter.unusedSimpArgs false
namespace Jvm.OwnL
open Sem ClassFile Op Lib Bundle Jvm.Stand Jvm.Free Jvm.LawKit Jvm.RoadKit
/-- where a walk stands: the tables v at hand (String constants of EL, if loaded, hold their text), the heap h (the entry heap h0 but for ws and what is new; the case's own start unchanged), what is safely no constant's cell (sf), and the frame -/
def Wl (Z : State) (a0 : Array Value) (own : String) (p : Program) (l : Launch) (e : Env) (R : Room) (s : State) (m : MethodId) (args : Array Value) (below : List Frame) (meth : Method) (c : Code) (code : ByteArray) (mx : Nat) (B : State) (EL : List (String × Nat)) (h0 : Heap) (n0 : Nat) (ws sf : List Addr) (h : Heap) (cells slots pc : Nat) (L : Array Slot) (S : List Value) : Prop :=
  (p.tables.exec = Jvm.exec ∧ c.code = code ∧ c.maxLocals = mx ∧ EW Z a0 EL) ∧ (Old Z n0 h ∧ Keep h0 h ws ∧ (∀ x ∈ ws, n0 ≤ x) ∧ n0 ≤ h0.size ∧ s.heap = h0) ∧
    ∃ (v : Vm) (k0 : Nat) (T : State) (locs : List Loc), Stand p l e R (s.setVm v) m args below meth c T locs cells slots ∧ (s.Since v k0 ∧ k0 ≤ h.size ∧ Z.Warmed39 v ∧ v.findClass own = some m.cls) ∧ (CHr Z EL s.vm h0 v h ∧ ∀ x ∈ sf, x < h.size ∧ Safe Z EL v h x) ∧ Fr n0 locs ∧ T.heap = h ∧ ∀ t, Steps p.tables e below (T.setTop (mkF m pc L S)) t → Steps p.tables e below B t
section OwnL
variable {Z : State} {own : String} {p : Program} {l : Launch} {e : Env} {R : Room} {s : State} {m : MethodId} {args : Array Value} {below : List Frame} {meth : Method} {c : Code} {code : ByteArray} {mx : Nat} {B : State} {EL : List (String × Nat)} {h0 : Heap} {n0 : Nat} {ws sf : List Addr} {h h' : Heap} {cells slots pc : Nat} {L L' : Array Slot} {S : List Value} {a0 : Array Value}
theorem safeNew {v : Vm} (E : Ext h h') (H : CHv Z EL v h) (F : ∀ x ∈ sf, x < h.size ∧ Safe Z EL v h x) (lt : h.size < h'.size) : ∀ x ∈ h.size :: sf, x < h'.size ∧ Safe Z EL v h' x := fun x q => by
  rcases List.mem_cons.mp q with rfl | q
  · exact ⟨lt, (Safe.new (Nat.le_refl _)).ext E H⟩
  · exact ⟨Nat.lt_of_lt_of_le (F x q).1 E.1, (F x q).2.ext E H⟩
theorem safeKeep {v : Vm} {wsC : List Addr} (K : Keep h h' wsC) (hs : ∀ x ∈ wsC, Safe Z EL v h x) (H : CHv Z EL v h) (F : ∀ x ∈ sf, x < h.size ∧ Safe Z EL v h x) : ∀ x ∈ sf, x < h'.size ∧ Safe Z EL v h' x := fun x q =>
  ⟨Nat.lt_of_lt_of_le (F x q).1 K.1, (F x q).2.keep K hs H⟩
theorem Wl.keep0 (G : Wl Z a0 own p l e R s m args below meth c code mx B EL h0 n0 ws sf h cells slots pc L S) : Keep h0 h ws := G.2.1.2.1
theorem Wl.old (G : Wl Z a0 own p l e R s m args below meth c code mx B EL h0 n0 ws sf h cells slots pc L S) : Old Z n0 h := G.2.1.1
theorem Wl.n0le (G : Wl Z a0 own p l e R s m args below meth c code mx B EL h0 n0 ws sf h cells slots pc L S) : n0 ≤ h.size := Nat.le_trans G.2.1.2.2.2.1 G.2.1.2.1.1
theorem Wl.sz (G : Wl Z a0 own p l e R s m args below meth c code mx B EL h0 n0 ws sf h cells slots pc L S) : h0.size ≤ h.size := G.2.1.2.1.1
theorem Wl.nw (G : Wl Z a0 own p l e R s m args below meth c code mx B EL h0 n0 ws sf h cells slots pc L S) {x : Addr} (q : x ∈ ws ∨ h0.size ≤ x) : n0 ≤ x := q.elim (G.2.1.2.2.1 x) (Nat.le_trans G.2.1.2.2.2.1)
theorem Wl.sta {C n d : String} {v : Value} (G : Wl Z a0 own p l e R s m args below meth c code mx B EL h0 n0 ws sf h cells slots pc L S) (F : Sta Z Z.heap C n d v) : Sta Z h C n d v := F.ext G.2.1.1.2
theorem Wl.plain {pc' : Nat} {S' : List Value} (G : Wl Z a0 own p l e R s m args below meth c code mx B EL h0 n0 ws sf h cells slots pc L S) (st : ∀ T : State, At T m c below → p.tables.exec = Jvm.exec → c.code = code → ∀ t, Steps p.tables e below (T.setTop (mkF m pc' L' S')) t → Steps p.tables e below (T.setTop (mkF m pc L S)) t) : Wl Z a0 own p l e R s m args below meth c code mx B EL h0 n0 ws sf h cells slots pc' L' (S') := by
  obtain ⟨a, b, v, k0, T, locs, X, x1, x2, N, eT, k⟩ := G
  exact ⟨a, b, v, k0, T, locs, X, x1, x2, N, eT, fun t q => k t (st T X.here a.1 a.2.1 t q)⟩
theorem Wl.nameI {x : Int32} (G : Wl Z a0 own p l e R s m args below meth c code mx B EL h0 n0 ws sf h cells slots pc L (.int x :: S)) : ∃ v, v = x ∧ Wl Z a0 own p l e R s m args below meth c code mx B EL h0 n0 ws sf h cells slots pc L (.int v :: S) := ⟨x, rfl, G⟩
theorem Wl.nameJ {x : Int64} (G : Wl Z a0 own p l e R s m args below meth c code mx B EL h0 n0 ws sf h cells slots pc L (.long x :: S)) : ∃ v, v = x ∧ Wl Z a0 own p l e R s m args below meth c code mx B EL h0 n0 ws sf h cells slots pc L (.long v :: S) := ⟨x, rfl, G⟩
theorem Wl.top {x y : Value} (G : Wl Z a0 own p l e R s m args below meth c code mx B EL h0 n0 ws sf h cells slots pc L (x :: S)) (q : x = y) : Wl Z a0 own p l e R s m args below meth c code mx B EL h0 n0 ws sf h cells slots pc L (y :: S) := q ▸ G
theorem Wl.cast {L' : Array Slot} {S' : List Value} (G : Wl Z a0 own p l e R s m args below meth c code mx B EL h0 n0 ws sf h cells slots pc L S) (q : L = L') (r : S = S') : Wl Z a0 own p l e R s m args below meth c code mx B EL h0 n0 ws sf h cells slots pc L' (S') := q ▸ r ▸ G
theorem Wl.more (G : Wl Z a0 own p l e R s m args below meth c code mx B EL h0 n0 ws sf h cells slots pc L S) {k n : Nat} (h1 : cells ≤ k) (h2 : slots ≤ n) : Wl Z a0 own p l e R s m args below meth c code mx B EL h0 n0 ws sf h k n pc L S := by
  obtain ⟨a, b, v, k0, T, locs, X, r⟩ := G
  exact ⟨a, b, v, k0, T, locs, X.more h1 h2, r⟩
theorem Wl.less {sf' : List Addr} (G : Wl Z a0 own p l e R s m args below meth c code mx B EL h0 n0 ws sf h cells slots pc L S) (q : ∀ x ∈ sf', x ∈ sf) : Wl Z a0 own p l e R s m args below meth c code mx B EL h0 n0 ws sf' h cells slots pc L S := by
  obtain ⟨a, b, v, k0, T, locs, X, x1, x2, r⟩ := G
  exact ⟨a, b, v, k0, T, locs, X, x1, ⟨x2.1, fun x y => x2.2 x (q x y)⟩, r⟩
theorem Wl.aload {k : Nat} {v : Value} (G : Wl Z a0 own p l e R s m args below meth c code mx B EL h0 n0 ws sf h cells slots pc L S) (pc' : Nat) (hd : decode code pc = .ok (.aload k, 2)) (hl : L[k]? = some (.val v)) (hv : v.isRef = true) (hp : pc + 2 = pc') : Wl Z a0 own p l e R s m args below meth c code mx B EL h0 n0 ws sf h cells slots pc' L (v :: S) :=
  G.plain fun T H hx hy t k => XS.aload (g := mkF m pc L (S)) H hx rfl (by rw [hy]; exact hd) hl hv (by subst hp; exact k)
theorem Wl.aloadN {k : Fin 4} {v : Value} (G : Wl Z a0 own p l e R s m args below meth c code mx B EL h0 n0 ws sf h cells slots pc L S) (pc' : Nat) (hd : decode code pc = .ok (.aload_n k, 1)) (hl : L[k.val]? = some (.val v)) (hv : v.isRef = true) (hp : pc + 1 = pc') : Wl Z a0 own p l e R s m args below meth c code mx B EL h0 n0 ws sf h cells slots pc' L (v :: S) :=
  G.plain fun T H hx hy t k => XS.aloadN (g := mkF m pc L (S)) H hx rfl (by rw [hy]; exact hd) hl hv (by subst hp; exact k)
theorem Wl.iload {k : Nat} {v : Int32} (G : Wl Z a0 own p l e R s m args below meth c code mx B EL h0 n0 ws sf h cells slots pc L S) (pc' : Nat) (hd : decode code pc = .ok (.iload k, 2)) (hl : L[k]? = some (.val (.int v))) (hp : pc + 2 = pc') : Wl Z a0 own p l e R s m args below meth c code mx B EL h0 n0 ws sf h cells slots pc' L (.int v :: S) :=
  G.plain fun T H hx hy t k => XS.iload (g := mkF m pc L (S)) H hx rfl (by rw [hy]; exact hd) hl (by subst hp; exact k)
theorem Wl.iloadN {k : Fin 4} {v : Int32} (G : Wl Z a0 own p l e R s m args below meth c code mx B EL h0 n0 ws sf h cells slots pc L S) (pc' : Nat) (hd : decode code pc = .ok (.iload_n k, 1)) (hl : L[k.val]? = some (.val (.int v))) (hp : pc + 1 = pc') : Wl Z a0 own p l e R s m args below meth c code mx B EL h0 n0 ws sf h cells slots pc' L (.int v :: S) :=
  G.plain fun T H hx hy t k => XS.iloadN (g := mkF m pc L (S)) H hx rfl (by rw [hy]; exact hd) hl (by subst hp; exact k)
theorem Wl.lload {k : Nat} {v : Int64} (G : Wl Z a0 own p l e R s m args below meth c code mx B EL h0 n0 ws sf h cells slots pc L S) (pc' : Nat) (hd : decode code pc = .ok (.lload k, 2)) (hl : L[k]? = some (.val (.long v))) (hp : pc + 2 = pc') : Wl Z a0 own p l e R s m args below meth c code mx B EL h0 n0 ws sf h cells slots pc' L (.long v :: S) :=
  G.plain fun T H hx hy t k => XT.lload (g := mkF m pc L (S)) H hx rfl (by rw [hy]; exact hd) hl (by subst hp; exact k)
theorem Wl.lloadN {k : Fin 4} {v : Int64} (G : Wl Z a0 own p l e R s m args below meth c code mx B EL h0 n0 ws sf h cells slots pc L S) (pc' : Nat) (hd : decode code pc = .ok (.lload_n k, 1)) (hl : L[k.val]? = some (.val (.long v))) (hp : pc + 1 = pc') : Wl Z a0 own p l e R s m args below meth c code mx B EL h0 n0 ws sf h cells slots pc' L (.long v :: S) :=
  G.plain fun T H hx hy t k => XT.lloadN (g := mkF m pc L (S)) H hx rfl (by rw [hy]; exact hd) hl (by subst hp; exact k)
theorem Wl.dload {k : Nat} {v : UInt64} (G : Wl Z a0 own p l e R s m args below meth c code mx B EL h0 n0 ws sf h cells slots pc L S) (pc' : Nat) (hd : decode code pc = .ok (.dload k, 2)) (hl : L[k]? = some (.val (.double v))) (hp : pc + 2 = pc') : Wl Z a0 own p l e R s m args below meth c code mx B EL h0 n0 ws sf h cells slots pc' L (.double v :: S) :=
  G.plain fun T H hx hy t k => XS.dload (g := mkF m pc L (S)) H hx rfl (by rw [hy]; exact hd) hl (by subst hp; exact k)
theorem Wl.dloadN {k : Fin 4} {v : UInt64} (G : Wl Z a0 own p l e R s m args below meth c code mx B EL h0 n0 ws sf h cells slots pc L S) (pc' : Nat) (hd : decode code pc = .ok (.dload_n k, 1)) (hl : L[k.val]? = some (.val (.double v))) (hp : pc + 1 = pc') : Wl Z a0 own p l e R s m args below meth c code mx B EL h0 n0 ws sf h cells slots pc' L (.double v :: S) :=
  G.plain fun T H hx hy t k => XS.dloadN (g := mkF m pc L (S)) H hx rfl (by rw [hy]; exact hd) hl (by subst hp; exact k)
theorem Wl.istore {k : Nat} {x : Int32} (G : Wl Z a0 own p l e R s m args below meth c code mx B EL h0 n0 ws sf h cells slots pc L (.int x :: S)) (pc' : Nat) (L' : Array Slot) (hd : decode code pc = .ok (.istore k, 2)) (hl : storeLocals L k (.int x) = some L') (hp : pc + 2 = pc') : Wl Z a0 own p l e R s m args below meth c code mx B EL h0 n0 ws sf h cells slots pc' L' S :=
  G.plain fun T H hx hy t k => XS.istore (g := mkF m pc L (.int x :: S)) H hx rfl (by rw [hy]; exact hd) rfl hl (by subst hp; exact k)
theorem Wl.istoreN {k : Fin 4} {x : Int32} (G : Wl Z a0 own p l e R s m args below meth c code mx B EL h0 n0 ws sf h cells slots pc L (.int x :: S)) (pc' : Nat) (L' : Array Slot) (hd : decode code pc = .ok (.istore_n k, 1)) (hl : storeLocals L k.val (.int x) = some L') (hp : pc + 1 = pc') : Wl Z a0 own p l e R s m args below meth c code mx B EL h0 n0 ws sf h cells slots pc' L' S :=
  G.plain fun T H hx hy t k => XS.istoreN (g := mkF m pc L (.int x :: S)) H hx rfl (by rw [hy]; exact hd) rfl hl (by subst hp; exact k)
theorem Wl.lstore {k : Nat} {x : Int64} (G : Wl Z a0 own p l e R s m args below meth c code mx B EL h0 n0 ws sf h cells slots pc L (.long x :: S)) (pc' : Nat) (L' : Array Slot) (hd : decode code pc = .ok (.lstore k, 2)) (hl : storeLocals L k (.long x) = some L') (hp : pc + 2 = pc') : Wl Z a0 own p l e R s m args below meth c code mx B EL h0 n0 ws sf h cells slots pc' L' S :=
  G.plain fun T H hx hy t k => XT.lstore (g := mkF m pc L (.long x :: S)) H hx rfl (by rw [hy]; exact hd) rfl hl (by subst hp; exact k)
theorem Wl.lstoreN {k : Fin 4} {x : Int64} (G : Wl Z a0 own p l e R s m args below meth c code mx B EL h0 n0 ws sf h cells slots pc L (.long x :: S)) (pc' : Nat) (L' : Array Slot) (hd : decode code pc = .ok (.lstore_n k, 1)) (hl : storeLocals L k.val (.long x) = some L') (hp : pc + 1 = pc') : Wl Z a0 own p l e R s m args below meth c code mx B EL h0 n0 ws sf h cells slots pc' L' S :=
  G.plain fun T H hx hy t k => XT.lstoreN (g := mkF m pc L (.long x :: S)) H hx rfl (by rw [hy]; exact hd) rfl hl (by subst hp; exact k)
theorem Wl.dstore {k : Nat} {x : UInt64} (G : Wl Z a0 own p l e R s m args below meth c code mx B EL h0 n0 ws sf h cells slots pc L (.double x :: S)) (pc' : Nat) (L' : Array Slot) (hd : decode code pc = .ok (.dstore k, 2)) (hl : storeLocals L k (.double x) = some L') (hp : pc + 2 = pc') : Wl Z a0 own p l e R s m args below meth c code mx B EL h0 n0 ws sf h cells slots pc' L' S :=
  G.plain fun T H hx hy t k => XS.dstore (g := mkF m pc L (.double x :: S)) H hx rfl (by rw [hy]; exact hd) rfl hl (by subst hp; exact k)
theorem Wl.dstoreN {k : Fin 4} {x : UInt64} (G : Wl Z a0 own p l e R s m args below meth c code mx B EL h0 n0 ws sf h cells slots pc L (.double x :: S)) (pc' : Nat) (L' : Array Slot) (hd : decode code pc = .ok (.dstore_n k, 1)) (hl : storeLocals L k.val (.double x) = some L') (hp : pc + 1 = pc') : Wl Z a0 own p l e R s m args below meth c code mx B EL h0 n0 ws sf h cells slots pc' L' S :=
  G.plain fun T H hx hy t k => XS.dstoreN (g := mkF m pc L (.double x :: S)) H hx rfl (by rw [hy]; exact hd) rfl hl (by subst hp; exact k)
theorem Wl.astore {k : Nat} {x : Value} (G : Wl Z a0 own p l e R s m args below meth c code mx B EL h0 n0 ws sf h cells slots pc L (x :: S)) (pc' : Nat) (L' : Array Slot) (hd : decode code pc = .ok (.astore k, 2)) (hv : x.isRef = true) (hl : storeLocals L k x = some L') (hp : pc + 2 = pc') : Wl Z a0 own p l e R s m args below meth c code mx B EL h0 n0 ws sf h cells slots pc' L' S :=
  G.plain fun T H hx hy t k => XS.astore (g := mkF m pc L (x :: S)) H hx rfl (by rw [hy]; exact hd) rfl hv hl (by subst hp; exact k)
theorem Wl.astoreN {k : Fin 4} {x : Value} (G : Wl Z a0 own p l e R s m args below meth c code mx B EL h0 n0 ws sf h cells slots pc L (x :: S)) (pc' : Nat) (L' : Array Slot) (hd : decode code pc = .ok (.astore_n k, 1)) (hv : x.isRef = true) (hl : storeLocals L k.val x = some L') (hp : pc + 1 = pc') : Wl Z a0 own p l e R s m args below meth c code mx B EL h0 n0 ws sf h cells slots pc' L' S :=
  G.plain fun T H hx hy t k => XS.astoreN (g := mkF m pc L (x :: S)) H hx rfl (by rw [hy]; exact hd) rfl hv hl (by subst hp; exact k)
theorem Wl.iinc {k : Nat} {cst : Int} {x : Int32} (G : Wl Z a0 own p l e R s m args below meth c code mx B EL h0 n0 ws sf h cells slots pc L S) (pc' : Nat) (L' : Array Slot) (hd : decode code pc = .ok (.iinc k cst, 3)) (hl : L[k]? = some (.val (.int x))) (hl' : storeLocals L k (.int (x + Int32.ofInt cst)) = some L') (hp : pc + 3 = pc') : Wl Z a0 own p l e R s m args below meth c code mx B EL h0 n0 ws sf h cells slots pc' L' S :=
  G.plain fun T H hx hy t k => XS.iinc (g := mkF m pc L (S)) H hx rfl (by rw [hy]; exact hd) hl hl' (by subst hp; exact k)
theorem Wl.iincV {k : Nat} {cst : Int} {x : Int32} (G : Wl Z a0 own p l e R s m args below meth c code mx B EL h0 n0 ws sf h cells slots pc L S) (pc' : Nat) (L' : Array Slot) (y : Int32) (hd : decode code pc = .ok (.iinc k cst, 3)) (hl : L[k]? = some (.val (.int x))) (hv : x + Int32.ofInt cst = y) (hl' : storeLocals L k (.int y) = some L') (hp : pc + 3 = pc') : Wl Z a0 own p l e R s m args below meth c code mx B EL h0 n0 ws sf h cells slots pc' L' S :=
  G.plain fun T H hx hy t k => XS.iinc (g := mkF m pc L (S)) H hx rfl (by rw [hy]; exact hd) hl (by rw [hv]; exact hl') (by subst hp; exact k)
theorem Wl.iconst {i : Int} (G : Wl Z a0 own p l e R s m args below meth c code mx B EL h0 n0 ws sf h cells slots pc L S) (pc' : Nat) (v : Int32) (hd : decode code pc = .ok (.iconst i, 1)) (hv : Int32.ofInt i = v) (hp : pc + 1 = pc') : Wl Z a0 own p l e R s m args below meth c code mx B EL h0 n0 ws sf h cells slots pc' L (.int v :: S) :=
  G.plain fun T H hx hy t k => XS.iconst (g := mkF m pc L (S)) H hx rfl (by rw [hy]; exact hd) (by subst hv hp; exact k)
theorem Wl.bipush {i : Int} (G : Wl Z a0 own p l e R s m args below meth c code mx B EL h0 n0 ws sf h cells slots pc L S) (pc' : Nat) (v : Int32) (hd : decode code pc = .ok (.bipush i, 2)) (hv : (Int8.ofInt i).toInt32 = v) (hp : pc + 2 = pc') : Wl Z a0 own p l e R s m args below meth c code mx B EL h0 n0 ws sf h cells slots pc' L (.int v :: S) :=
  G.plain fun T H hx hy t k => XS.bipush (g := mkF m pc L (S)) H hx rfl (by rw [hy]; exact hd) (by subst hv hp; exact k)
theorem Wl.sipush {i : Int} (G : Wl Z a0 own p l e R s m args below meth c code mx B EL h0 n0 ws sf h cells slots pc L S) (pc' : Nat) (v : Int32) (hd : decode code pc = .ok (.sipush i, 3)) (hv : (Int16.ofInt i).toInt32 = v) (hp : pc + 3 = pc') : Wl Z a0 own p l e R s m args below meth c code mx B EL h0 n0 ws sf h cells slots pc' L (.int v :: S) :=
  G.plain fun T H hx hy t k => XS.sipush (g := mkF m pc L (S)) H hx rfl (by rw [hy]; exact hd) (by subst hv hp; exact k)
theorem Wl.lconst0  (G : Wl Z a0 own p l e R s m args below meth c code mx B EL h0 n0 ws sf h cells slots pc L S) (pc' : Nat) (hd : decode code pc = .ok (.lconst 0, 1)) (hp : pc + 1 = pc') : Wl Z a0 own p l e R s m args below meth c code mx B EL h0 n0 ws sf h cells slots pc' L (.long 0 :: S) :=
  G.plain fun T H hx hy t k => XT.lconst (g := mkF m pc L (S)) H hx rfl (by rw [hy]; exact hd) (by subst hp; exact k)
theorem Wl.lconst1  (G : Wl Z a0 own p l e R s m args below meth c code mx B EL h0 n0 ws sf h cells slots pc L S) (pc' : Nat) (hd : decode code pc = .ok (.lconst 1, 1)) (hp : pc + 1 = pc') : Wl Z a0 own p l e R s m args below meth c code mx B EL h0 n0 ws sf h cells slots pc' L (.long 1 :: S) :=
  G.plain fun T H hx hy t k => XT.lconst (g := mkF m pc L (S)) H hx rfl (by rw [hy]; exact hd) (by subst hp; exact k)
theorem Wl.aconstNull  (G : Wl Z a0 own p l e R s m args below meth c code mx B EL h0 n0 ws sf h cells slots pc L S) (pc' : Nat) (hd : decode code pc = .ok (.aconst_null, 1)) (hp : pc + 1 = pc') : Wl Z a0 own p l e R s m args below meth c code mx B EL h0 n0 ws sf h cells slots pc' L (.null :: S) :=
  G.plain fun T H hx hy t k => XS.aconstNull (g := mkF m pc L (S)) H hx rfl (by rw [hy]; exact hd) (by subst hp; exact k)
theorem Wl.iadd {x y : Int32} (G : Wl Z a0 own p l e R s m args below meth c code mx B EL h0 n0 ws sf h cells slots pc L (.int y :: .int x :: S)) (pc' : Nat) (hd : decode code pc = .ok (.iadd, 1)) (hp : pc + 1 = pc') : Wl Z a0 own p l e R s m args below meth c code mx B EL h0 n0 ws sf h cells slots pc' L (.int (x + y) :: S) :=
  G.plain fun T H hx hy t k => XS.iadd (g := mkF m pc L (.int y :: .int x :: S)) H hx rfl (by rw [hy]; exact hd) rfl (by subst hp; exact k)
theorem Wl.isub {x y : Int32} (G : Wl Z a0 own p l e R s m args below meth c code mx B EL h0 n0 ws sf h cells slots pc L (.int y :: .int x :: S)) (pc' : Nat) (hd : decode code pc = .ok (.isub, 1)) (hp : pc + 1 = pc') : Wl Z a0 own p l e R s m args below meth c code mx B EL h0 n0 ws sf h cells slots pc' L (.int (x - y) :: S) :=
  G.plain fun T H hx hy t k => XS.isub (g := mkF m pc L (.int y :: .int x :: S)) H hx rfl (by rw [hy]; exact hd) rfl (by subst hp; exact k)
theorem Wl.imul {x y : Int32} (G : Wl Z a0 own p l e R s m args below meth c code mx B EL h0 n0 ws sf h cells slots pc L (.int y :: .int x :: S)) (pc' : Nat) (hd : decode code pc = .ok (.imul, 1)) (hp : pc + 1 = pc') : Wl Z a0 own p l e R s m args below meth c code mx B EL h0 n0 ws sf h cells slots pc' L (.int (x * y) :: S) :=
  G.plain fun T H hx hy t k => XS.imul (g := mkF m pc L (.int y :: .int x :: S)) H hx rfl (by rw [hy]; exact hd) rfl (by subst hp; exact k)
theorem Wl.iand {x y : Int32} (G : Wl Z a0 own p l e R s m args below meth c code mx B EL h0 n0 ws sf h cells slots pc L (.int y :: .int x :: S)) (pc' : Nat) (hd : decode code pc = .ok (.iand, 1)) (hp : pc + 1 = pc') : Wl Z a0 own p l e R s m args below meth c code mx B EL h0 n0 ws sf h cells slots pc' L (.int (x &&& y) :: S) :=
  G.plain fun T H hx hy t k => XS.iand (g := mkF m pc L (.int y :: .int x :: S)) H hx rfl (by rw [hy]; exact hd) rfl (by subst hp; exact k)
theorem Wl.ior {x y : Int32} (G : Wl Z a0 own p l e R s m args below meth c code mx B EL h0 n0 ws sf h cells slots pc L (.int y :: .int x :: S)) (pc' : Nat) (hd : decode code pc = .ok (.ior, 1)) (hp : pc + 1 = pc') : Wl Z a0 own p l e R s m args below meth c code mx B EL h0 n0 ws sf h cells slots pc' L (.int (x ||| y) :: S) :=
  G.plain fun T H hx hy t k => XT.ior (g := mkF m pc L (.int y :: .int x :: S)) H hx rfl (by rw [hy]; exact hd) rfl (by subst hp; exact k)
theorem Wl.ixor {x y : Int32} (G : Wl Z a0 own p l e R s m args below meth c code mx B EL h0 n0 ws sf h cells slots pc L (.int y :: .int x :: S)) (pc' : Nat) (hd : decode code pc = .ok (.ixor, 1)) (hp : pc + 1 = pc') : Wl Z a0 own p l e R s m args below meth c code mx B EL h0 n0 ws sf h cells slots pc' L (.int (x ^^^ y) :: S) :=
  G.plain fun T H hx hy t k => XT.ixor (g := mkF m pc L (.int y :: .int x :: S)) H hx rfl (by rw [hy]; exact hd) rfl (by subst hp; exact k)
theorem Wl.ishl {x y : Int32} (G : Wl Z a0 own p l e R s m args below meth c code mx B EL h0 n0 ws sf h cells slots pc L (.int y :: .int x :: S)) (pc' : Nat) (hd : decode code pc = .ok (.ishl, 1)) (hp : pc + 1 = pc') : Wl Z a0 own p l e R s m args below meth c code mx B EL h0 n0 ws sf h cells slots pc' L (.int (x <<< (y &&& 31)) :: S) :=
  G.plain fun T H hx hy t k => XT.ishl (g := mkF m pc L (.int y :: .int x :: S)) H hx rfl (by rw [hy]; exact hd) rfl (by subst hp; exact k)
theorem Wl.ishr {x y : Int32} (G : Wl Z a0 own p l e R s m args below meth c code mx B EL h0 n0 ws sf h cells slots pc L (.int y :: .int x :: S)) (pc' : Nat) (hd : decode code pc = .ok (.ishr, 1)) (hp : pc + 1 = pc') : Wl Z a0 own p l e R s m args below meth c code mx B EL h0 n0 ws sf h cells slots pc' L (.int (x >>> (y &&& 31)) :: S) :=
  G.plain fun T H hx hy t k => XT.ishr (g := mkF m pc L (.int y :: .int x :: S)) H hx rfl (by rw [hy]; exact hd) rfl (by subst hp; exact k)
theorem Wl.iushr {x y : Int32} (G : Wl Z a0 own p l e R s m args below meth c code mx B EL h0 n0 ws sf h cells slots pc L (.int y :: .int x :: S)) (pc' : Nat) (hd : decode code pc = .ok (.iushr, 1)) (hp : pc + 1 = pc') : Wl Z a0 own p l e R s m args below meth c code mx B EL h0 n0 ws sf h cells slots pc' L (.int (XT.ushr x y) :: S) :=
  G.plain fun T H hx hy t k => XT.iushr (g := mkF m pc L (.int y :: .int x :: S)) H hx rfl (by rw [hy]; exact hd) rfl (by subst hp; exact k)
theorem Wl.idiv {x y : Int32} (G : Wl Z a0 own p l e R s m args below meth c code mx B EL h0 n0 ws sf h cells slots pc L (.int y :: .int x :: S)) (pc' : Nat) (hd : decode code pc = .ok (.idiv, 1)) (hy0 : y ≠ 0) (hp : pc + 1 = pc') : Wl Z a0 own p l e R s m args below meth c code mx B EL h0 n0 ws sf h cells slots pc' L (.int (x / y) :: S) :=
  G.plain fun T H hx hy t k => XS.idiv (g := mkF m pc L (.int y :: .int x :: S)) H hx rfl (by rw [hy]; exact hd) rfl hy0 (by subst hp; exact k)
theorem Wl.irem {x y : Int32} (G : Wl Z a0 own p l e R s m args below meth c code mx B EL h0 n0 ws sf h cells slots pc L (.int y :: .int x :: S)) (pc' : Nat) (hd : decode code pc = .ok (.irem, 1)) (hy0 : y ≠ 0) (hp : pc + 1 = pc') : Wl Z a0 own p l e R s m args below meth c code mx B EL h0 n0 ws sf h cells slots pc' L (.int (x - (x / y) * y) :: S) :=
  G.plain fun T H hx hy t k => XS.irem (g := mkF m pc L (.int y :: .int x :: S)) H hx rfl (by rw [hy]; exact hd) rfl hy0 (by subst hp; exact k)
theorem Wl.ineg {x : Int32} (G : Wl Z a0 own p l e R s m args below meth c code mx B EL h0 n0 ws sf h cells slots pc L (.int x :: S)) (pc' : Nat) (hd : decode code pc = .ok (.ineg, 1)) (hp : pc + 1 = pc') : Wl Z a0 own p l e R s m args below meth c code mx B EL h0 n0 ws sf h cells slots pc' L (.int (-x) :: S) :=
  G.plain fun T H hx hy t k => XS.ineg (g := mkF m pc L (.int x :: S)) H hx rfl (by rw [hy]; exact hd) rfl (by subst hp; exact k)
theorem Wl.ladd {x y : Int64} (G : Wl Z a0 own p l e R s m args below meth c code mx B EL h0 n0 ws sf h cells slots pc L (.long y :: .long x :: S)) (pc' : Nat) (hd : decode code pc = .ok (.ladd, 1)) (hp : pc + 1 = pc') : Wl Z a0 own p l e R s m args below meth c code mx B EL h0 n0 ws sf h cells slots pc' L (.long (x + y) :: S) :=
  G.plain fun T H hx hy t k => XT.ladd (g := mkF m pc L (.long y :: .long x :: S)) H hx rfl (by rw [hy]; exact hd) rfl (by subst hp; exact k)
theorem Wl.lsub {x y : Int64} (G : Wl Z a0 own p l e R s m args below meth c code mx B EL h0 n0 ws sf h cells slots pc L (.long y :: .long x :: S)) (pc' : Nat) (hd : decode code pc = .ok (.lsub, 1)) (hp : pc + 1 = pc') : Wl Z a0 own p l e R s m args below meth c code mx B EL h0 n0 ws sf h cells slots pc' L (.long (x - y) :: S) :=
  G.plain fun T H hx hy t k => XT.lsub (g := mkF m pc L (.long y :: .long x :: S)) H hx rfl (by rw [hy]; exact hd) rfl (by subst hp; exact k)
theorem Wl.lmul {x y : Int64} (G : Wl Z a0 own p l e R s m args below meth c code mx B EL h0 n0 ws sf h cells slots pc L (.long y :: .long x :: S)) (pc' : Nat) (hd : decode code pc = .ok (.lmul, 1)) (hp : pc + 1 = pc') : Wl Z a0 own p l e R s m args below meth c code mx B EL h0 n0 ws sf h cells slots pc' L (.long (x * y) :: S) :=
  G.plain fun T H hx hy t k => XT.lmul (g := mkF m pc L (.long y :: .long x :: S)) H hx rfl (by rw [hy]; exact hd) rfl (by subst hp; exact k)
theorem Wl.land {x y : Int64} (G : Wl Z a0 own p l e R s m args below meth c code mx B EL h0 n0 ws sf h cells slots pc L (.long y :: .long x :: S)) (pc' : Nat) (hd : decode code pc = .ok (.land, 1)) (hp : pc + 1 = pc') : Wl Z a0 own p l e R s m args below meth c code mx B EL h0 n0 ws sf h cells slots pc' L (.long (x &&& y) :: S) :=
  G.plain fun T H hx hy t k => XT.land (g := mkF m pc L (.long y :: .long x :: S)) H hx rfl (by rw [hy]; exact hd) rfl (by subst hp; exact k)
theorem Wl.lor {x y : Int64} (G : Wl Z a0 own p l e R s m args below meth c code mx B EL h0 n0 ws sf h cells slots pc L (.long y :: .long x :: S)) (pc' : Nat) (hd : decode code pc = .ok (.lor, 1)) (hp : pc + 1 = pc') : Wl Z a0 own p l e R s m args below meth c code mx B EL h0 n0 ws sf h cells slots pc' L (.long (x ||| y) :: S) :=
  G.plain fun T H hx hy t k => XT.lor (g := mkF m pc L (.long y :: .long x :: S)) H hx rfl (by rw [hy]; exact hd) rfl (by subst hp; exact k)
theorem Wl.lxor {x y : Int64} (G : Wl Z a0 own p l e R s m args below meth c code mx B EL h0 n0 ws sf h cells slots pc L (.long y :: .long x :: S)) (pc' : Nat) (hd : decode code pc = .ok (.lxor, 1)) (hp : pc + 1 = pc') : Wl Z a0 own p l e R s m args below meth c code mx B EL h0 n0 ws sf h cells slots pc' L (.long (x ^^^ y) :: S) :=
  G.plain fun T H hx hy t k => XT.lxor (g := mkF m pc L (.long y :: .long x :: S)) H hx rfl (by rw [hy]; exact hd) rfl (by subst hp; exact k)
theorem Wl.ldiv {x y : Int64} (G : Wl Z a0 own p l e R s m args below meth c code mx B EL h0 n0 ws sf h cells slots pc L (.long y :: .long x :: S)) (pc' : Nat) (hd : decode code pc = .ok (.ldiv, 1)) (hy0 : y ≠ 0) (hp : pc + 1 = pc') : Wl Z a0 own p l e R s m args below meth c code mx B EL h0 n0 ws sf h cells slots pc' L (.long (x / y) :: S) :=
  G.plain fun T H hx hy t k => XT.ldiv (g := mkF m pc L (.long y :: .long x :: S)) H hx rfl (by rw [hy]; exact hd) rfl hy0 (by subst hp; exact k)
theorem Wl.lrem {x y : Int64} (G : Wl Z a0 own p l e R s m args below meth c code mx B EL h0 n0 ws sf h cells slots pc L (.long y :: .long x :: S)) (pc' : Nat) (hd : decode code pc = .ok (.lrem, 1)) (hy0 : y ≠ 0) (hp : pc + 1 = pc') : Wl Z a0 own p l e R s m args below meth c code mx B EL h0 n0 ws sf h cells slots pc' L (.long (x - (x / y) * y) :: S) :=
  G.plain fun T H hx hy t k => XT.lrem (g := mkF m pc L (.long y :: .long x :: S)) H hx rfl (by rw [hy]; exact hd) rfl hy0 (by subst hp; exact k)
theorem Wl.lneg {x : Int64} (G : Wl Z a0 own p l e R s m args below meth c code mx B EL h0 n0 ws sf h cells slots pc L (.long x :: S)) (pc' : Nat) (hd : decode code pc = .ok (.lneg, 1)) (hp : pc + 1 = pc') : Wl Z a0 own p l e R s m args below meth c code mx B EL h0 n0 ws sf h cells slots pc' L (.long (-x) :: S) :=
  G.plain fun T H hx hy t k => XT.lneg (g := mkF m pc L (.long x :: S)) H hx rfl (by rw [hy]; exact hd) rfl (by subst hp; exact k)
theorem Wl.lushr {x : Int64} {y : Int32} (G : Wl Z a0 own p l e R s m args below meth c code mx B EL h0 n0 ws sf h cells slots pc L (.int y :: .long x :: S)) (pc' : Nat) (hd : decode code pc = .ok (.lushr, 1)) (hp : pc + 1 = pc') : Wl Z a0 own p l e R s m args below meth c code mx B EL h0 n0 ws sf h cells slots pc' L (.long (XT.ushrL x y) :: S) :=
  G.plain fun T H hx hy t k => XT.lushr (g := mkF m pc L (.int y :: .long x :: S)) H hx rfl (by rw [hy]; exact hd) rfl (by subst hp; exact k)
theorem Wl.lcmp {x y : Int64} (G : Wl Z a0 own p l e R s m args below meth c code mx B EL h0 n0 ws sf h cells slots pc L (.long y :: .long x :: S)) (pc' : Nat) (hd : decode code pc = .ok (.lcmp, 1)) (hp : pc + 1 = pc') : Wl Z a0 own p l e R s m args below meth c code mx B EL h0 n0 ws sf h cells slots pc' L (.int (XT.cmpL x y) :: S) :=
  G.plain fun T H hx hy t k => XT.lcmp (g := mkF m pc L (.long y :: .long x :: S)) H hx rfl (by rw [hy]; exact hd) rfl (by subst hp; exact k)
theorem Wl.i2l {x : Int32} (G : Wl Z a0 own p l e R s m args below meth c code mx B EL h0 n0 ws sf h cells slots pc L (.int x :: S)) (pc' : Nat) (hd : decode code pc = .ok (.i2l, 1)) (hp : pc + 1 = pc') : Wl Z a0 own p l e R s m args below meth c code mx B EL h0 n0 ws sf h cells slots pc' L (.long x.toInt64 :: S) :=
  G.plain fun T H hx hy t k => XT.i2l (g := mkF m pc L (.int x :: S)) H hx rfl (by rw [hy]; exact hd) rfl (by subst hp; exact k)
theorem Wl.l2i {x : Int64} (G : Wl Z a0 own p l e R s m args below meth c code mx B EL h0 n0 ws sf h cells slots pc L (.long x :: S)) (pc' : Nat) (hd : decode code pc = .ok (.l2i, 1)) (hp : pc + 1 = pc') : Wl Z a0 own p l e R s m args below meth c code mx B EL h0 n0 ws sf h cells slots pc' L (.int x.toInt32 :: S) :=
  G.plain fun T H hx hy t k => XT.l2i (g := mkF m pc L (.long x :: S)) H hx rfl (by rw [hy]; exact hd) rfl (by subst hp; exact k)
theorem Wl.i2b {x : Int32} (G : Wl Z a0 own p l e R s m args below meth c code mx B EL h0 n0 ws sf h cells slots pc L (.int x :: S)) (pc' : Nat) (hd : decode code pc = .ok (.i2b, 1)) (hp : pc + 1 = pc') : Wl Z a0 own p l e R s m args below meth c code mx B EL h0 n0 ws sf h cells slots pc' L (.int x.toInt8.toInt32 :: S) :=
  G.plain fun T H hx hy t k => XT.i2b (g := mkF m pc L (.int x :: S)) H hx rfl (by rw [hy]; exact hd) rfl (by subst hp; exact k)
theorem Wl.i2c {x : Int32} (G : Wl Z a0 own p l e R s m args below meth c code mx B EL h0 n0 ws sf h cells slots pc L (.int x :: S)) (pc' : Nat) (hd : decode code pc = .ok (.i2c, 1)) (hp : pc + 1 = pc') : Wl Z a0 own p l e R s m args below meth c code mx B EL h0 n0 ws sf h cells slots pc' L (.int x.toUInt32.toUInt16.toUInt32.toInt32 :: S) :=
  G.plain fun T H hx hy t k => XT.i2c (g := mkF m pc L (.int x :: S)) H hx rfl (by rw [hy]; exact hd) rfl (by subst hp; exact k)
theorem Wl.dup {x : Value} (G : Wl Z a0 own p l e R s m args below meth c code mx B EL h0 n0 ws sf h cells slots pc L (x :: S)) (pc' : Nat) (hd : decode code pc = .ok (.dup, 1)) (hc : x.category = 1) (hp : pc + 1 = pc') : Wl Z a0 own p l e R s m args below meth c code mx B EL h0 n0 ws sf h cells slots pc' L (x :: x :: S) :=
  G.plain fun T H hx hy t k => XS.dup (g := mkF m pc L (x :: S)) H hx rfl (by rw [hy]; exact hd) rfl hc (by subst hp; exact k)
theorem Wl.pop {x : Value} (G : Wl Z a0 own p l e R s m args below meth c code mx B EL h0 n0 ws sf h cells slots pc L (x :: S)) (pc' : Nat) (hd : decode code pc = .ok (.pop, 1)) (hc : x.category = 1) (hp : pc + 1 = pc') : Wl Z a0 own p l e R s m args below meth c code mx B EL h0 n0 ws sf h cells slots pc' L S :=
  G.plain fun T H hx hy t k => XT.pop (g := mkF m pc L (x :: S)) H hx rfl (by rw [hy]; exact hd) rfl hc (by subst hp; exact k)
theorem Wl.dupX1 {x y : Value} (G : Wl Z a0 own p l e R s m args below meth c code mx B EL h0 n0 ws sf h cells slots pc L (y :: x :: S)) (pc' : Nat) (hd : decode code pc = .ok (.dup_x1, 1)) (hc : y.category = 1) (hc' : x.category = 1) (hp : pc + 1 = pc') : Wl Z a0 own p l e R s m args below meth c code mx B EL h0 n0 ws sf h cells slots pc' L (y :: x :: y :: S) :=
  G.plain fun T H hx hy t k => XT.dupX1 (g := mkF m pc L (y :: x :: S)) H hx rfl (by rw [hy]; exact hd) rfl hc hc' (by subst hp; exact k)
theorem Wl.i2dS {x : Int32} {v : UInt64} (G : Wl Z a0 own p l e R s m args below meth c code mx B EL h0 n0 ws sf h cells slots pc L (.int x :: S)) (pc' : Nat) (hd : decode code pc = .ok (.i2d, 1)) (hv : FP.i2d x = v) (hp : pc + 1 = pc') : Wl Z a0 own p l e R s m args below meth c code mx B EL h0 n0 ws sf h cells slots pc' L (.double v :: S) :=
  G.plain fun T H hx hy t k => XS.i2dS (g := mkF m pc L (.int x :: S)) H hx rfl (by rw [hy]; exact hd) rfl hv (by subst hp; exact k)
theorem Wl.l2dS {x : Int64} {v : UInt64} (G : Wl Z a0 own p l e R s m args below meth c code mx B EL h0 n0 ws sf h cells slots pc L (.long x :: S)) (pc' : Nat) (hd : decode code pc = .ok (.l2d, 1)) (hv : FP.l2d x = v) (hp : pc + 1 = pc') : Wl Z a0 own p l e R s m args below meth c code mx B EL h0 n0 ws sf h cells slots pc' L (.double v :: S) :=
  G.plain fun T H hx hy t k => XS.l2dS (g := mkF m pc L (.long x :: S)) H hx rfl (by rw [hy]; exact hd) rfl hv (by subst hp; exact k)
theorem Wl.daddS {x y v : UInt64} (G : Wl Z a0 own p l e R s m args below meth c code mx B EL h0 n0 ws sf h cells slots pc L (.double y :: .double x :: S)) (pc' : Nat) (hd : decode code pc = .ok (.dadd, 1)) (hn : Jvm.Free.Fl.NoNaN64 (FP.dadd x y)) (hv : FP.dadd x y = v) (hp : pc + 1 = pc') : Wl Z a0 own p l e R s m args below meth c code mx B EL h0 n0 ws sf h cells slots pc' L (.double v :: S) :=
  G.plain fun T H hx hy t k => XS.daddS (g := mkF m pc L (.double y :: .double x :: S)) H hx rfl (by rw [hy]; exact hd) rfl hn hv (by subst hp; exact k)
theorem Wl.dcmpS {o : CmpOp} {x y : UInt64} {v : Int32} (G : Wl Z a0 own p l e R s m args below meth c code mx B EL h0 n0 ws sf h cells slots pc L (.double y :: .double x :: S)) (pc' : Nat) (hd : decode code pc = .ok (.dcmp o, 1)) (hv : cmpValue (FP.dcmp x y) o = v) (hp : pc + 1 = pc') : Wl Z a0 own p l e R s m args below meth c code mx B EL h0 n0 ws sf h cells slots pc' L (.int v :: S) :=
  G.plain fun T H hx hy t k => XS.dcmpS (g := mkF m pc L (.double y :: .double x :: S)) H hx rfl (by rw [hy]; exact hd) rfl hv (by subst hp; exact k)
theorem Wl.goto  {o : Int} (G : Wl Z a0 own p l e R s m args below meth c code mx B EL h0 n0 ws sf h cells slots pc L S) (pc' : Nat) (hd : decode code pc = .ok (.goto o, 3)) (ho : 0 ≤ (pc : Int) + o) (hp : ((pc : Int) + o).toNat = pc') : Wl Z a0 own p l e R s m args below meth c code mx B EL h0 n0 ws sf h cells slots pc' L S :=
  G.plain fun T H hx hy t k => XS.goto (g := mkF m pc L (S)) (pc' := pc') H hx rfl rfl (by rw [hy]; exact hd) ho hp k
theorem Wl.ifT {cd : ClassFile.Cond} {x : Int32} {o : Int} (G : Wl Z a0 own p l e R s m args below meth c code mx B EL h0 n0 ws sf h cells slots pc L (.int x :: S)) (pc' : Nat) (hd : decode code pc = .ok (.ifCond cd o, 3)) (hc : ifCond.holds cd x = true) (ho : 0 ≤ (pc : Int) + o) (hp : ((pc : Int) + o).toNat = pc') : Wl Z a0 own p l e R s m args below meth c code mx B EL h0 n0 ws sf h cells slots pc' L S :=
  G.plain fun T H hx hy t k => XS.ifYes (g := mkF m pc L (.int x :: S)) (pc' := pc') H hx rfl rfl (by rw [hy]; exact hd) rfl hc ho hp k
theorem Wl.icmpT {cd : ClassFile.Cond} {x y : Int32} {o : Int} (G : Wl Z a0 own p l e R s m args below meth c code mx B EL h0 n0 ws sf h cells slots pc L (.int y :: .int x :: S)) (pc' : Nat) (hd : decode code pc = .ok (.if_icmp cd o, 3)) (hc : if_icmp.holds cd x y = true) (ho : 0 ≤ (pc : Int) + o) (hp : ((pc : Int) + o).toNat = pc') : Wl Z a0 own p l e R s m args below meth c code mx B EL h0 n0 ws sf h cells slots pc' L S :=
  G.plain fun T H hx hy t k => XS.icmpYes (g := mkF m pc L (.int y :: .int x :: S)) (pc' := pc') H hx rfl rfl (by rw [hy]; exact hd) rfl hc ho hp k
theorem Wl.ifnullT  {o : Int} (G : Wl Z a0 own p l e R s m args below meth c code mx B EL h0 n0 ws sf h cells slots pc L (.null :: S)) (pc' : Nat) (hd : decode code pc = .ok (.ifnull o, 3)) (ho : 0 ≤ (pc : Int) + o) (hp : ((pc : Int) + o).toNat = pc') : Wl Z a0 own p l e R s m args below meth c code mx B EL h0 n0 ws sf h cells slots pc' L S :=
  G.plain fun T H hx hy t k => XS.ifnullYes (g := mkF m pc L (.null :: S)) (pc' := pc') H hx rfl rfl (by rw [hy]; exact hd) rfl ho hp k
theorem Wl.ifnonnullT {b : Addr} {o : Int} (G : Wl Z a0 own p l e R s m args below meth c code mx B EL h0 n0 ws sf h cells slots pc L (.ref b :: S)) (pc' : Nat) (hd : decode code pc = .ok (.ifnonnull o, 3)) (ho : 0 ≤ (pc : Int) + o) (hp : ((pc : Int) + o).toNat = pc') : Wl Z a0 own p l e R s m args below meth c code mx B EL h0 n0 ws sf h cells slots pc' L S :=
  G.plain fun T H hx hy t k => XT.ifnonnullYes (g := mkF m pc L (.ref b :: S)) (pc' := pc') H hx rfl rfl (by rw [hy]; exact hd) rfl ho hp k
theorem Wl.acmpT {cd : ClassFile.ACond} {x y : Value} {o : Int} (G : Wl Z a0 own p l e R s m args below meth c code mx B EL h0 n0 ws sf h cells slots pc L (y :: x :: S)) (pc' : Nat) (hd : decode code pc = .ok (.if_acmp cd o, 3)) (hx1 : x.isRef = true) (hy1 : y.isRef = true) (hc : XT.acmp cd x y = true) (ho : 0 ≤ (pc : Int) + o) (hp : ((pc : Int) + o).toNat = pc') : Wl Z a0 own p l e R s m args below meth c code mx B EL h0 n0 ws sf h cells slots pc' L S :=
  G.plain fun T H hx hy t k => XT.acmpYes (g := mkF m pc L (y :: x :: S)) (pc' := pc') H hx rfl rfl (by rw [hy]; exact hd) rfl hx1 hy1 hc ho hp k
theorem Wl.ifF {cd : ClassFile.Cond} {x : Int32} {o : Int} (G : Wl Z a0 own p l e R s m args below meth c code mx B EL h0 n0 ws sf h cells slots pc L (.int x :: S)) (pc' : Nat) (hd : decode code pc = .ok (.ifCond cd o, 3)) (hc : ifCond.holds cd x = false) (hp : pc + 3 = pc') : Wl Z a0 own p l e R s m args below meth c code mx B EL h0 n0 ws sf h cells slots pc' L S :=
  G.plain fun T H hx hy t k => XS.ifNo (g := mkF m pc L (.int x :: S)) H hx rfl (by rw [hy]; exact hd) rfl hc (by subst hp; exact k)
theorem Wl.icmpF {cd : ClassFile.Cond} {x y : Int32} {o : Int} (G : Wl Z a0 own p l e R s m args below meth c code mx B EL h0 n0 ws sf h cells slots pc L (.int y :: .int x :: S)) (pc' : Nat) (hd : decode code pc = .ok (.if_icmp cd o, 3)) (hc : if_icmp.holds cd x y = false) (hp : pc + 3 = pc') : Wl Z a0 own p l e R s m args below meth c code mx B EL h0 n0 ws sf h cells slots pc' L S :=
  G.plain fun T H hx hy t k => XS.icmpNo (g := mkF m pc L (.int y :: .int x :: S)) H hx rfl (by rw [hy]; exact hd) rfl hc (by subst hp; exact k)
theorem Wl.ifnullF {b : Addr} {o : Int} (G : Wl Z a0 own p l e R s m args below meth c code mx B EL h0 n0 ws sf h cells slots pc L (.ref b :: S)) (pc' : Nat) (hd : decode code pc = .ok (.ifnull o, 3)) (hp : pc + 3 = pc') : Wl Z a0 own p l e R s m args below meth c code mx B EL h0 n0 ws sf h cells slots pc' L S :=
  G.plain fun T H hx hy t k => XS.ifnullNo (g := mkF m pc L (.ref b :: S)) H hx rfl (by rw [hy]; exact hd) rfl (by subst hp; exact k)
theorem Wl.ifnonnullF  {o : Int} (G : Wl Z a0 own p l e R s m args below meth c code mx B EL h0 n0 ws sf h cells slots pc L (.null :: S)) (pc' : Nat) (hd : decode code pc = .ok (.ifnonnull o, 3)) (hp : pc + 3 = pc') : Wl Z a0 own p l e R s m args below meth c code mx B EL h0 n0 ws sf h cells slots pc' L S :=
  G.plain fun T H hx hy t k => XT.ifnonnullNo (g := mkF m pc L (.null :: S)) H hx rfl (by rw [hy]; exact hd) rfl (by subst hp; exact k)
theorem Wl.acmpF {cd : ClassFile.ACond} {x y : Value} {o : Int} (G : Wl Z a0 own p l e R s m args below meth c code mx B EL h0 n0 ws sf h cells slots pc L (y :: x :: S)) (pc' : Nat) (hd : decode code pc = .ok (.if_acmp cd o, 3)) (hx1 : x.isRef = true) (hy1 : y.isRef = true) (hc : XT.acmp cd x y = false) (hp : pc + 3 = pc') : Wl Z a0 own p l e R s m args below meth c code mx B EL h0 n0 ws sf h cells slots pc' L S :=
  G.plain fun T H hx hy t k => XT.acmpNo (g := mkF m pc L (y :: x :: S)) H hx rfl (by rw [hy]; exact hd) rfl hx1 hy1 hc (by subst hp; exact k)
theorem ext_keep {h h' : Heap} (E : Ext h h') : Keep h h' [] := (Keep.refl h []).ext E
def NW (h0 : Heap) (ws : List Addr) (a : Addr) : Prop := a ∈ ws ∨ h0.size ≤ a
theorem NW.new {a : Addr} (q : h0.size ≤ a) : NW h0 ws a := Or.inr q
theorem ne_new {a b : Addr} {n : Nat} (q : a = n) (r : b < n) : b ≠ a := Nat.ne_of_lt (q.symm ▸ r)
theorem ne_ge {a b : Addr} {n : Nat} (r : a < n) (q : n ≤ b) : b ≠ a := (Nat.ne_of_lt (Nat.lt_of_lt_of_le r q)).symm
theorem Wl.new {C : String} {index n : Nat} (G : Wl Z a0 own p l e R s m args below meth c code mx B EL h0 n0 ws sf h cells slots pc L S) (pc' : Nat) (w : (Cond.classLink own index C).before a0 Z = true) (wi : (Cond.instantiable C n).before a0 Z = true) (wz : (Cond.initialized C).before a0 Z = true) (hd : decode code pc = .ok (.new index, 3)) (hp : pc + 3 = pc') (hc : cells + 1 ≤ R.cells) (hl : slots + n ≤ R.slots) : ∃ (a : Addr) (h' : Heap), Wl Z a0 own p l e R s m args below meth c code mx B EL h0 n0 ws (a :: sf) h' (cells + 1) (slots + n) pc' L (.ref a :: S) ∧ a = h.size ∧ h0.size ≤ a ∧ Ext h h' ∧ Exa Z h' a C ∧ (∀ {O nm d : String} {ty : FieldType}, Laid Z a0 C O nm d → parseFieldDescriptor d = some ty → Fld Z h' a O nm d (defaultValue ty)) ∧ Unt h' a := by
  obtain ⟨⟨hx, hby, hml, hEW⟩, ⟨o1, z2, z3, z1, es⟩, v0, k0, T, locs, X, ⟨hS, hk, hZ, hown⟩, ⟨hC, hF⟩, N, eT, k⟩ := G
  obtain ⟨T', h', X', e', E, A, D, U, st⟩ := newO X hx hZ hown w wi wz eT (g := mkF m pc L S) rfl (hb hby hd) hc hl
  exact ⟨h.size, h', ⟨⟨hx, hby, hml, hEW⟩, ⟨o1.ext E, z2.ext E, z3, z1, es⟩, v0, k0, T', _, X', ⟨hS, Nat.le_trans hk E.1, hZ, hown⟩, ⟨hC.trans (CHr.ext E hC.1), safeNew E hC.1 hF A.lt⟩, N, e', fun t q => k t (st t (by subst hp; exact q))⟩, rfl, z2.1, E, A, D, U⟩
theorem Wl.newarray {aty : ArrayType} {n : Int32} (G : Wl Z a0 own p l e R s m args below meth c code mx B EL h0 n0 ws sf h cells slots pc L (.int n :: S)) (pc' : Nat) (w : (Cond.arrayClass (newarray.typeOf aty)).before a0 Z = true) (hd : decode code pc = .ok (.newarray aty, 2)) (hn : ¬ n < 0) (cap : Nat) (hcap : n.toNatClampNeg ≤ cap) (hb8 : cap * 8 ≤ 536870912) (hp : pc + 2 = pc') (hc : cells + 1 ≤ R.cells) (hl : slots + cap ≤ R.slots) : ∃ (a : Addr) (h' : Heap) (k : ClassId), Wl Z a0 own p l e R s m args below meth c code mx B EL h0 n0 ws (a :: sf) h' (cells + 1) (slots + cap) pc' L (.ref a :: S) ∧ a = h.size ∧ h0.size ≤ a ∧ Ext h h' ∧ Arv Z h' a k (newarray.typeOf aty) n [] (defaultValue (newarray.typeOf aty)) := by
  obtain ⟨⟨hx, hby, hml, hEW⟩, ⟨o1, z2, z3, z1, es⟩, v0, k0, T, locs, X, ⟨hS, hk, hZ, hown⟩, ⟨hC, hF⟩, N, eT, k⟩ := G
  obtain ⟨T', h', cA, X', e', E, A, st⟩ := newP X hx hZ w eT (g := mkF m pc L (.int n :: S)) rfl (hb hby hd) rfl hn hcap hb8 hc hl
  exact ⟨h.size, h', cA, ⟨⟨hx, hby, hml, hEW⟩, ⟨o1.ext E, z2.ext E, z3, z1, es⟩, v0, k0, T', _, X', ⟨hS, Nat.le_trans hk E.1, hZ, hown⟩, ⟨hC.trans (CHr.ext E hC.1), safeNew E hC.1 hF A.lt⟩, N, e', fun t q => k t (st t (by subst hp; exact q))⟩, rfl, z2.1, E, Arv.new A hn⟩
theorem Wl.getf {R0 O n d host : String} {index : Nat} {a : Addr} {v : Value} (G : Wl Z a0 own p l e R s m args below meth c code mx B EL h0 n0 ws sf h cells slots pc L (.ref a :: S)) (pc' : Nat) (w : (Cond.fieldLink own index R0 n d).before a0 Z = true ∨ (Cond.fieldLinkNest own index R0 n d host).before a0 Z = true) (via : Via Z R0 O n d) (F : Fld Z h a O n d v) (hd : decode code pc = .ok (.getfield index, 3)) (hp : pc + 3 = pc') : Wl Z a0 own p l e R s m args below meth c code mx B EL h0 n0 ws sf h cells slots pc' L (v :: S) := by
  obtain ⟨⟨hx, hby, hml, hEW⟩, ⟨o1, z2, z3, z1, es⟩, v0, k0, T, locs, X, ⟨hS, hk, hZ, hown⟩, ⟨hC, hF⟩, N, eT, k⟩ := G
  obtain ⟨T', X', e', st⟩ := getF X hx hZ hown w via eT F (g := mkF m pc L (.ref a :: S)) rfl rfl (hb hby hd)
  exact ⟨⟨hx, hby, hml, hEW⟩, ⟨o1, z2, z3, z1, es⟩, v0, k0, T', _, X', ⟨hS, hk, hZ, hown⟩, ⟨hC, hF⟩, N, e', fun t q => k t (st t (by subst hp; exact q))⟩
theorem Wl.gets {R0 O n d host : String} {index : Nat} {v : Value} (G : Wl Z a0 own p l e R s m args below meth c code mx B EL h0 n0 ws sf h cells slots pc L S) (pc' : Nat) (w : (Cond.fieldLink own index R0 n d).before a0 Z = true ∨ (Cond.fieldLinkNest own index R0 n d host).before a0 Z = true) (via : Via Z R0 O n d) (F : Sta Z h O n d v) (hd : decode code pc = .ok (.getstatic index, 3)) (hp : pc + 3 = pc') : Wl Z a0 own p l e R s m args below meth c code mx B EL h0 n0 ws sf h cells slots pc' L (v :: S) := by
  obtain ⟨⟨hx, hby, hml, hEW⟩, ⟨o1, z2, z3, z1, es⟩, v0, k0, T, locs, X, ⟨hS, hk, hZ, hown⟩, ⟨hC, hF⟩, N, eT, k⟩ := G
  obtain ⟨T', X', e', st⟩ := getS2 X hx hZ hown w via eT F (g := mkF m pc L S) rfl (hb hby hd)
  exact ⟨⟨hx, hby, hml, hEW⟩, ⟨o1, z2, z3, z1, es⟩, v0, k0, T', _, X', ⟨hS, hk, hZ, hown⟩, ⟨hC, hF⟩, N, e', fun t q => k t (st t (by subst hp; exact q))⟩
theorem Wl.putf {R0 O n d host C : String} {index kk : Nat} {ty : FieldType} {a : Addr} {v old : Value} (G : Wl Z a0 own p l e R s m args below meth c code mx B EL h0 n0 ws sf h cells slots pc L (v :: .ref a :: S)) (pc' : Nat) (w : (Cond.fieldLink own index R0 n d).before a0 Z = true ∨ (Cond.fieldLinkNest own index R0 n d host).before a0 Z = true) (via : Via Z R0 O n d) (F : Fld Z h a O n d old) (E : Exa Z h a C) (lay : (Cond.lays C O n d).before a0 Z = true ∨ ((Cond.laysFinal C O n d).before a0 Z = true ∧ own = O ∧ meth.name = "<init>")) (wi : (Cond.instantiable C kk).before a0 Z = true) (hty : parseFieldDescriptor d = some ty) (hn : narrow ty v = v) (hf : fits ty v = true) (q : NW h0 ws a) (qs : a ∈ sf) (hd : decode code pc = .ok (.putfield index, 3)) (hp : pc + 3 = pc') : ∃ (h' : Heap), Wl Z a0 own p l e R s m args below meth c code mx B EL h0 n0 ws sf h' cells slots pc' L S ∧ Wr h h' a (Jvm.RoadKit.slotOf Z O n d) v ∧ Fld Z h' a O n d v ∧ Keep h h' [a] := by
  have qn := G.nw q
  obtain ⟨⟨hx, hby, hml, hEW⟩, ⟨o1, z2, z3, z1, es⟩, v0, k0, T, locs, X, ⟨hS, hk, hZ, hown⟩, ⟨hC, hF⟩, N, eT, k⟩ := G
  obtain ⟨T', h', X', e', W', st⟩ := putF X hx hZ hown w via eT F E lay wi hty hn hf (g := mkF m pc L (v :: .ref a :: S)) rfl rfl (hb hby hd)
  exact ⟨h', ⟨⟨hx, hby, hml, hEW⟩, ⟨o1.wr W' qn, z2.wr W' q, z3, z1, es⟩, v0, k0, T', _, X', ⟨hS, (by rw [W'.size]; exact hk), hZ, hown⟩, ⟨hC.trans (CHr.wr W' (hF _ qs).2 hC.1), safeKeep (Keep.of_wr W') (fun x y => by cases List.mem_singleton.mp y; exact (hF _ qs).2) hC.1 hF⟩, Fr.snoc X' N qn, e', fun t q => k t (st t (by subst hp; exact q))⟩, W', F.same W', Keep.of_wr W'⟩
theorem Wl.alen {a : Addr} {k : ClassId} {ty : FieldType} {z : Int32} {vs : List Value} {dv : Value} (G : Wl Z a0 own p l e R s m args below meth c code mx B EL h0 n0 ws sf h cells slots pc L (.ref a :: S)) (pc' : Nat) (A : Arv Z h a k ty z vs dv) (hd : decode code pc = .ok (.arraylength, 1)) (hp : pc + 1 = pc') : Wl Z a0 own p l e R s m args below meth c code mx B EL h0 n0 ws sf h cells slots pc' L (.int z :: S) := by
  obtain ⟨⟨hx, hby, hml, hEW⟩, ⟨o1, z2, z3, z1, es⟩, v0, k0, T, locs, X, ⟨hS, hk, hZ, hown⟩, ⟨hC, hF⟩, N, eT, k⟩ := G
  obtain ⟨cl, Ar, -, hSz, hN, -⟩ := A
  refine ⟨⟨hx, hby, hml, hEW⟩, ⟨o1, z2, z3, z1, es⟩, v0, k0, T, locs, X, ⟨hS, hk, hZ, hown⟩, ⟨hC, hF⟩, N, eT, fun t q => k t ?_⟩
  refine X.arraylength hx (by rw [eT]; exact Ar.1) (State.isArrayOf_alike hZ.alike Ar.2.1) (g := mkF m pc L (.ref a :: S)) rfl rfl (hb hby hd) _ ?_
  rw [len_of hSz hN]; exact hp ▸ q
theorem Wl.iaload {a : Addr} {k : ClassId} {z j : Int32} {vs : List Value} {dv v : Value} (G : Wl Z a0 own p l e R s m args below meth c code mx B EL h0 n0 ws sf h cells slots pc L (.int j :: .ref a :: S)) (pc' : Nat) (A : Arv Z h a k .int z vs dv) (hj : ¬ j < 0 ∧ j < z) (hv : vs.getD j.toNatClampNeg dv = v) (hd : decode code pc = .ok (.iaload, 1)) (hp : pc + 1 = pc') : Wl Z a0 own p l e R s m args below meth c code mx B EL h0 n0 ws sf h cells slots pc' L (v :: S) := by
  obtain ⟨⟨hx, hby, hml, hEW⟩, ⟨o1, z2, z3, z1, es⟩, v0, k0, T, locs, X, ⟨hS, hk, hZ, hown⟩, ⟨hC, hF⟩, N, eT, k⟩ := G
  obtain ⟨cl, Ar, -, hSz, hN, H, -⟩ := A
  refine ⟨⟨hx, hby, hml, hEW⟩, ⟨o1, z2, z3, z1, es⟩, v0, k0, T, locs, X, ⟨hS, hk, hZ, hown⟩, ⟨hC, hF⟩, N, eT, fun t q => k t ?_⟩
  have hin := inb_of hSz hj
  exact X.iaload hx (by rw [eT]; exact Ar.1) (State.isArrayOf_alike hZ.alike Ar.2.1) Ar.2.2 hin (H.at hin hv) (g := mkF m pc L (.int j :: .ref a :: S)) rfl rfl (hb hby hd) t (by subst hp; exact q)
theorem Wl.laload {a : Addr} {k : ClassId} {z j : Int32} {vs : List Value} {dv v : Value} (G : Wl Z a0 own p l e R s m args below meth c code mx B EL h0 n0 ws sf h cells slots pc L (.int j :: .ref a :: S)) (pc' : Nat) (A : Arv Z h a k .long z vs dv) (hj : ¬ j < 0 ∧ j < z) (hv : vs.getD j.toNatClampNeg dv = v) (hd : decode code pc = .ok (.laload, 1)) (hp : pc + 1 = pc') : Wl Z a0 own p l e R s m args below meth c code mx B EL h0 n0 ws sf h cells slots pc' L (v :: S) := by
  obtain ⟨⟨hx, hby, hml, hEW⟩, ⟨o1, z2, z3, z1, es⟩, v0, k0, T, locs, X, ⟨hS, hk, hZ, hown⟩, ⟨hC, hF⟩, N, eT, k⟩ := G
  obtain ⟨cl, Ar, -, hSz, hN, H, -⟩ := A
  refine ⟨⟨hx, hby, hml, hEW⟩, ⟨o1, z2, z3, z1, es⟩, v0, k0, T, locs, X, ⟨hS, hk, hZ, hown⟩, ⟨hC, hF⟩, N, eT, fun t q => k t ?_⟩
  have hin := inb_of hSz hj
  exact X.laload hx (by rw [eT]; exact Ar.1) (State.isArrayOf_alike hZ.alike Ar.2.1) Ar.2.2 hin (H.at hin hv) (g := mkF m pc L (.int j :: .ref a :: S)) rfl rfl (hb hby hd) t (by subst hp; exact q)
theorem Wl.caload {a : Addr} {k : ClassId} {z j : Int32} {vs : List Value} {dv v : Value} (G : Wl Z a0 own p l e R s m args below meth c code mx B EL h0 n0 ws sf h cells slots pc L (.int j :: .ref a :: S)) (pc' : Nat) (A : Arv Z h a k .char z vs dv) (hj : ¬ j < 0 ∧ j < z) (hv : vs.getD j.toNatClampNeg dv = v) (hd : decode code pc = .ok (.caload, 1)) (hp : pc + 1 = pc') : Wl Z a0 own p l e R s m args below meth c code mx B EL h0 n0 ws sf h cells slots pc' L (v :: S) := by
  obtain ⟨⟨hx, hby, hml, hEW⟩, ⟨o1, z2, z3, z1, es⟩, v0, k0, T, locs, X, ⟨hS, hk, hZ, hown⟩, ⟨hC, hF⟩, N, eT, k⟩ := G
  obtain ⟨cl, Ar, -, hSz, hN, H, -⟩ := A
  refine ⟨⟨hx, hby, hml, hEW⟩, ⟨o1, z2, z3, z1, es⟩, v0, k0, T, locs, X, ⟨hS, hk, hZ, hown⟩, ⟨hC, hF⟩, N, eT, fun t q => k t ?_⟩
  have hin := inb_of hSz hj
  exact X.caload hx (by rw [eT]; exact Ar.1) (State.isArrayOf_alike hZ.alike Ar.2.1) Ar.2.2 hin (H.at hin hv) (g := mkF m pc L (.int j :: .ref a :: S)) rfl rfl (hb hby hd) t (by subst hp; exact q)
theorem Wl.baload {a : Addr} {k : ClassId} {z j : Int32} {vs : List Value} {dv v : Value} (G : Wl Z a0 own p l e R s m args below meth c code mx B EL h0 n0 ws sf h cells slots pc L (.int j :: .ref a :: S)) (pc' : Nat) (A : Arv Z h a k .byte z vs dv) (hj : ¬ j < 0 ∧ j < z) (hv : vs.getD j.toNatClampNeg dv = v) (hd : decode code pc = .ok (.baload, 1)) (hp : pc + 1 = pc') : Wl Z a0 own p l e R s m args below meth c code mx B EL h0 n0 ws sf h cells slots pc' L (v :: S) := by
  obtain ⟨⟨hx, hby, hml, hEW⟩, ⟨o1, z2, z3, z1, es⟩, v0, k0, T, locs, X, ⟨hS, hk, hZ, hown⟩, ⟨hC, hF⟩, N, eT, k⟩ := G
  obtain ⟨cl, Ar, -, hSz, hN, H, -⟩ := A
  refine ⟨⟨hx, hby, hml, hEW⟩, ⟨o1, z2, z3, z1, es⟩, v0, k0, T, locs, X, ⟨hS, hk, hZ, hown⟩, ⟨hC, hF⟩, N, eT, fun t q => k t ?_⟩
  have hin := inb_of hSz hj
  exact X.baloadBytes hx (by rw [eT]; exact Ar.1) (State.isArrayOf_alike hZ.alike Ar.2.1) Ar.2.2 hin (H.at hin hv) (g := mkF m pc L (.int j :: .ref a :: S)) rfl rfl (hb hby hd) t (by subst hp; exact q)
theorem Wl.daload {a : Addr} {k : ClassId} {z j : Int32} {vs : List Value} {dv v : Value} (G : Wl Z a0 own p l e R s m args below meth c code mx B EL h0 n0 ws sf h cells slots pc L (.int j :: .ref a :: S)) (pc' : Nat) (A : Arv Z h a k .double z vs dv) (hj : ¬ j < 0 ∧ j < z) (hv : vs.getD j.toNatClampNeg dv = v) (hd : decode code pc = .ok (.daload, 1)) (hp : pc + 1 = pc') : Wl Z a0 own p l e R s m args below meth c code mx B EL h0 n0 ws sf h cells slots pc' L (v :: S) := by
  obtain ⟨⟨hx, hby, hml, hEW⟩, ⟨o1, z2, z3, z1, es⟩, v0, k0, T, locs, X, ⟨hS, hk, hZ, hown⟩, ⟨hC, hF⟩, N, eT, k⟩ := G
  obtain ⟨cl, Ar, -, hSz, hN, H, -⟩ := A
  refine ⟨⟨hx, hby, hml, hEW⟩, ⟨o1, z2, z3, z1, es⟩, v0, k0, T, locs, X, ⟨hS, hk, hZ, hown⟩, ⟨hC, hF⟩, N, eT, fun t q => k t ?_⟩
  have hin := inb_of hSz hj
  exact X.daload hx (by rw [eT]; exact Ar.1) (State.isArrayOf_alike hZ.alike Ar.2.1) Ar.2.2 hin (H.at hin hv) (g := mkF m pc L (.int j :: .ref a :: S)) rfl rfl (hb hby hd) t (by subst hp; exact q)
theorem Wl.iastore {a : Addr} {k : ClassId} {z j : Int32} {x : Int32} {vs : List Value} {dv : Value} (G : Wl Z a0 own p l e R s m args below meth c code mx B EL h0 n0 ws sf h cells slots pc L (.int x :: .int j :: .ref a :: S)) (pc' : Nat) (i : Nat) (A : Arv Z h a k .int z vs dv) (hj : ¬ j < 0 ∧ j < z) (hi : j.toNatClampNeg = i) (hl : i < vs.length) (q : NW h0 ws a) (qs : a ∈ sf) (hd : decode code pc = .ok (.iastore, 1)) (hp : pc + 1 = pc') : ∃ (h' : Heap), Wl Z a0 own p l e R s m args below meth c code mx B EL h0 n0 ws sf h' cells slots pc' L S ∧ Arv Z h' a k .int z (vs.set i (.int x)) dv ∧ Keep h h' [a] := by
  have qn := G.nw q
  obtain ⟨⟨hx, hby, hml, hEW⟩, ⟨o1, z2, z3, z1, es⟩, v0, k0, T, locs, X, ⟨hS, hk, hZ, hown⟩, ⟨hC, hF⟩, N, eT, k⟩ := G
  obtain ⟨cl, Ar, q1, hSz, hN, H, F⟩ := A
  obtain ⟨T', h', X', e', W', st⟩ := stI X hx hZ eT Ar (inb_of hSz hj) (g := mkF m pc L (.int x :: .int j :: .ref a :: S)) rfl rfl (hb hby hd)
  exact ⟨h', ⟨⟨hx, hby, hml, hEW⟩, ⟨o1.wr W' qn, z2.wr W' q, z3, z1, es⟩, v0, k0, T', _, X', ⟨hS, (by rw [W'.size]; exact hk), hZ, hown⟩, ⟨hC.trans (CHr.wr W' (hF _ qs).2 hC.1), safeKeep (Keep.of_wr W') (fun x y => by cases List.mem_singleton.mp y; exact (hF _ qs).2) hC.1 hF⟩, Fr.snoc X' N qn, e', fun t q => k t (st t (by subst hp; exact q))⟩, Arv.set Ar q1 hSz hN H F rfl W' i hi hl, Keep.of_wr W'⟩
theorem Wl.lastore {a : Addr} {k : ClassId} {z j : Int32} {x : Int64} {vs : List Value} {dv : Value} (G : Wl Z a0 own p l e R s m args below meth c code mx B EL h0 n0 ws sf h cells slots pc L (.long x :: .int j :: .ref a :: S)) (pc' : Nat) (i : Nat) (A : Arv Z h a k .long z vs dv) (hj : ¬ j < 0 ∧ j < z) (hi : j.toNatClampNeg = i) (hl : i < vs.length) (q : NW h0 ws a) (qs : a ∈ sf) (hd : decode code pc = .ok (.lastore, 1)) (hp : pc + 1 = pc') : ∃ (h' : Heap), Wl Z a0 own p l e R s m args below meth c code mx B EL h0 n0 ws sf h' cells slots pc' L S ∧ Arv Z h' a k .long z (vs.set i (.long x)) dv ∧ Keep h h' [a] := by
  have qn := G.nw q
  obtain ⟨⟨hx, hby, hml, hEW⟩, ⟨o1, z2, z3, z1, es⟩, v0, k0, T, locs, X, ⟨hS, hk, hZ, hown⟩, ⟨hC, hF⟩, N, eT, k⟩ := G
  obtain ⟨cl, Ar, q1, hSz, hN, H, F⟩ := A
  obtain ⟨T', h', X', e', W', st⟩ := stJ X hx hZ eT Ar (inb_of hSz hj) (g := mkF m pc L (.long x :: .int j :: .ref a :: S)) rfl rfl (hb hby hd)
  exact ⟨h', ⟨⟨hx, hby, hml, hEW⟩, ⟨o1.wr W' qn, z2.wr W' q, z3, z1, es⟩, v0, k0, T', _, X', ⟨hS, (by rw [W'.size]; exact hk), hZ, hown⟩, ⟨hC.trans (CHr.wr W' (hF _ qs).2 hC.1), safeKeep (Keep.of_wr W') (fun x y => by cases List.mem_singleton.mp y; exact (hF _ qs).2) hC.1 hF⟩, Fr.snoc X' N qn, e', fun t q => k t (st t (by subst hp; exact q))⟩, Arv.set Ar q1 hSz hN H F rfl W' i hi hl, Keep.of_wr W'⟩
theorem Wl.dastore {a : Addr} {k : ClassId} {z j : Int32} {x : UInt64} {vs : List Value} {dv : Value} (G : Wl Z a0 own p l e R s m args below meth c code mx B EL h0 n0 ws sf h cells slots pc L (.double x :: .int j :: .ref a :: S)) (pc' : Nat) (i : Nat) (A : Arv Z h a k .double z vs dv) (hj : ¬ j < 0 ∧ j < z) (hi : j.toNatClampNeg = i) (hl : i < vs.length) (q : NW h0 ws a) (qs : a ∈ sf) (hd : decode code pc = .ok (.dastore, 1)) (hp : pc + 1 = pc') : ∃ (h' : Heap), Wl Z a0 own p l e R s m args below meth c code mx B EL h0 n0 ws sf h' cells slots pc' L S ∧ Arv Z h' a k .double z (vs.set i (.double x)) dv ∧ Keep h h' [a] := by
  have qn := G.nw q
  obtain ⟨⟨hx, hby, hml, hEW⟩, ⟨o1, z2, z3, z1, es⟩, v0, k0, T, locs, X, ⟨hS, hk, hZ, hown⟩, ⟨hC, hF⟩, N, eT, k⟩ := G
  obtain ⟨cl, Ar, q1, hSz, hN, H, F⟩ := A
  obtain ⟨T', h', X', e', W', st⟩ := stD X hx hZ eT Ar (inb_of hSz hj) (g := mkF m pc L (.double x :: .int j :: .ref a :: S)) rfl rfl (hb hby hd)
  exact ⟨h', ⟨⟨hx, hby, hml, hEW⟩, ⟨o1.wr W' qn, z2.wr W' q, z3, z1, es⟩, v0, k0, T', _, X', ⟨hS, (by rw [W'.size]; exact hk), hZ, hown⟩, ⟨hC.trans (CHr.wr W' (hF _ qs).2 hC.1), safeKeep (Keep.of_wr W') (fun x y => by cases List.mem_singleton.mp y; exact (hF _ qs).2) hC.1 hF⟩, Fr.snoc X' N qn, e', fun t q => k t (st t (by subst hp; exact q))⟩, Arv.set Ar q1 hSz hN H F rfl W' i hi hl, Keep.of_wr W'⟩
theorem Wl.castore {a : Addr} {k : ClassId} {z j : Int32} {x : Int32} {vs : List Value} {dv : Value} (G : Wl Z a0 own p l e R s m args below meth c code mx B EL h0 n0 ws sf h cells slots pc L (.int x :: .int j :: .ref a :: S)) (pc' : Nat) (i : Nat) (A : Arv Z h a k .char z vs dv) (hj : ¬ j < 0 ∧ j < z) (hi : j.toNatClampNeg = i) (hl : i < vs.length) (q : NW h0 ws a) (qs : a ∈ sf) (hd : decode code pc = .ok (.castore, 1)) (hp : pc + 1 = pc') : ∃ (h' : Heap), Wl Z a0 own p l e R s m args below meth c code mx B EL h0 n0 ws sf h' cells slots pc' L S ∧ Arv Z h' a k .char z (vs.set i (.int (nar .char x))) dv ∧ Keep h h' [a] := by
  have qn := G.nw q
  obtain ⟨⟨hx, hby, hml, hEW⟩, ⟨o1, z2, z3, z1, es⟩, v0, k0, T, locs, X, ⟨hS, hk, hZ, hown⟩, ⟨hC, hF⟩, N, eT, k⟩ := G
  obtain ⟨cl, Ar, q1, hSz, hN, H, F⟩ := A
  obtain ⟨T', h', X', e', W', st⟩ := stC X hx hZ eT Ar (inb_of hSz hj) (g := mkF m pc L (.int x :: .int j :: .ref a :: S)) rfl rfl (hb hby hd)
  exact ⟨h', ⟨⟨hx, hby, hml, hEW⟩, ⟨o1.wr W' qn, z2.wr W' q, z3, z1, es⟩, v0, k0, T', _, X', ⟨hS, (by rw [W'.size]; exact hk), hZ, hown⟩, ⟨hC.trans (CHr.wr W' (hF _ qs).2 hC.1), safeKeep (Keep.of_wr W') (fun x y => by cases List.mem_singleton.mp y; exact (hF _ qs).2) hC.1 hF⟩, Fr.snoc X' N qn, e', fun t q => k t (st t (by subst hp; exact q))⟩, Arv.set Ar q1 hSz hN H F (fits_nar_char x) W' i hi hl, Keep.of_wr W'⟩
theorem Wl.bastore {a : Addr} {k : ClassId} {z j : Int32} {x : Int32} {vs : List Value} {dv : Value} (G : Wl Z a0 own p l e R s m args below meth c code mx B EL h0 n0 ws sf h cells slots pc L (.int x :: .int j :: .ref a :: S)) (pc' : Nat) (i : Nat) (A : Arv Z h a k .byte z vs dv) (hj : ¬ j < 0 ∧ j < z) (hi : j.toNatClampNeg = i) (hl : i < vs.length) (q : NW h0 ws a) (qs : a ∈ sf) (hd : decode code pc = .ok (.bastore, 1)) (hp : pc + 1 = pc') : ∃ (h' : Heap), Wl Z a0 own p l e R s m args below meth c code mx B EL h0 n0 ws sf h' cells slots pc' L S ∧ Arv Z h' a k .byte z (vs.set i (.int x.toInt8.toInt32)) dv ∧ Keep h h' [a] := by
  have qn := G.nw q
  obtain ⟨⟨hx, hby, hml, hEW⟩, ⟨o1, z2, z3, z1, es⟩, v0, k0, T, locs, X, ⟨hS, hk, hZ, hown⟩, ⟨hC, hF⟩, N, eT, k⟩ := G
  obtain ⟨cl, Ar, q1, hSz, hN, H, F⟩ := A
  obtain ⟨T', h', X', e', W', st⟩ := stB X hx hZ eT Ar (inb_of hSz hj) (g := mkF m pc L (.int x :: .int j :: .ref a :: S)) rfl rfl (hb hby hd)
  exact ⟨h', ⟨⟨hx, hby, hml, hEW⟩, ⟨o1.wr W' qn, z2.wr W' q, z3, z1, es⟩, v0, k0, T', _, X', ⟨hS, (by rw [W'.size]; exact hk), hZ, hown⟩, ⟨hC.trans (CHr.wr W' (hF _ qs).2 hC.1), safeKeep (Keep.of_wr W') (fun x y => by cases List.mem_singleton.mp y; exact (hF _ qs).2) hC.1 hF⟩, Fr.snoc X' N qn, e', fun t q => k t (st t (by subst hp; exact q))⟩, Arv.set Ar q1 hSz hN H F (fits_nar_byte x) W' i hi hl, Keep.of_wr W'⟩
theorem Wl.anewR {C : String} {index : Nat} {n : Int32} (G : Wl Z a0 own p l e R s m args below meth c code mx B EL h0 n0 ws sf h cells slots pc L (.int n :: S)) (pc' : Nat) (w1 : (Cond.classLink own index C).before a0 Z = true) (w2 : (Cond.arrayOver (.object C)).before a0 Z = true) (hd : decode code pc = .ok (.anewarray index, 3)) (hn : ¬ n < 0) (cap : Nat) (hcap : n.toNatClampNeg ≤ cap) (hb8 : cap * 8 ≤ 536870912) (hp : pc + 3 = pc') (hc : cells + 1 ≤ R.cells) (hl : slots + cap ≤ R.slots) : ∃ (a : Addr) (h' : Heap) (k : ClassId), Wl Z a0 own p l e R s m args below meth c code mx B EL h0 n0 ws (a :: sf) h' (cells + 1) (slots + cap) pc' L (.ref a :: S) ∧ a = h.size ∧ h0.size ≤ a ∧ Ext h h' ∧ Arv Z h' a k (.object C) n [] .null ∧ Ovr Z k C := by
  obtain ⟨⟨hx, hby, hml, hEW⟩, ⟨o1, z2, z3, z1, es⟩, v0, k0, T, locs, X, ⟨hS, hk, hZ, hown⟩, ⟨hC, hF⟩, N, eT, k⟩ := G
  obtain ⟨T', h', cA, X', e', E, A, O, st⟩ := newR (s := s.setVm v0) X hx hZ hown w1 w2 eT (g := mkF m pc L (.int n :: S)) rfl (hb hby hd) rfl hn hcap hb8 hc hl
  exact ⟨h.size, h', cA, ⟨⟨hx, hby, hml, hEW⟩, ⟨o1.ext E, z2.ext E, z3, z1, es⟩, v0, k0, T', _, X', ⟨hS, Nat.le_trans hk E.1, hZ, hown⟩, ⟨hC.trans (CHr.ext E hC.1), safeNew E hC.1 hF A.lt⟩, N, e', fun t q => k t (st t (by subst hp; exact q))⟩, rfl, z2.1, E, Arv.new A hn, O⟩
theorem Wl.aaload {a : Addr} {k : ClassId} {z j : Int32} {C : String} {vs : List Value} {dv v : Value} (G : Wl Z a0 own p l e R s m args below meth c code mx B EL h0 n0 ws sf h cells slots pc L (.int j :: .ref a :: S)) (pc' : Nat) (A : Arv Z h a k (.object C) z vs dv) (hj : ¬ j < 0 ∧ j < z) (hv : vs.getD j.toNatClampNeg dv = v) (hd : decode code pc = .ok (.aaload, 1)) (hp : pc + 1 = pc') : Wl Z a0 own p l e R s m args below meth c code mx B EL h0 n0 ws sf h cells slots pc' L (v :: S) := by
  obtain ⟨⟨hx, hby, hml, hEW⟩, ⟨o1, z2, z3, z1, es⟩, v0, k0, T, locs, X, ⟨hS, hk, hZ, hown⟩, ⟨hC, hF⟩, N, eT, k⟩ := G
  obtain ⟨cl, Ar, -, hSz, hN, H, -⟩ := A
  refine ⟨⟨hx, hby, hml, hEW⟩, ⟨o1, z2, z3, z1, es⟩, v0, k0, T, locs, X, ⟨hS, hk, hZ, hown⟩, ⟨hC, hF⟩, N, eT, fun t q => k t ?_⟩
  have hin := inb_of hSz hj
  exact X.aaload hx (by rw [eT]; exact Ar.1) (State.isArrayOf_alike hZ.alike Ar.2.1) rfl Ar.2.2 hin (H.at hin hv) (g := mkF m pc L (.int j :: .ref a :: S)) rfl rfl (hb hby hd) t (by subst hp; exact q)
theorem Wl.aastore {a y : Addr} {k : ClassId} {z j : Int32} {C : String} {vs : List Value} {dv : Value} (G : Wl Z a0 own p l e R s m args below meth c code mx B EL h0 n0 ws sf h cells slots pc L (.ref y :: .int j :: .ref a :: S)) (pc' : Nat) (i : Nat) (A : Arv Z h a k (.object C) z vs dv) (O : Ovr Z k C) (I : Ins Z h y C true) (hj : ¬ j < 0 ∧ j < z) (hi : j.toNatClampNeg = i) (hl : i < vs.length) (q : NW h0 ws a) (qs : a ∈ sf) (hd : decode code pc = .ok (.aastore, 1)) (hp : pc + 1 = pc') : ∃ (h' : Heap), Wl Z a0 own p l e R s m args below meth c code mx B EL h0 n0 ws sf h' cells slots pc' L S ∧ Arv Z h' a k (.object C) z (vs.set i (.ref y)) dv ∧ Keep h h' [a] := by
  have qn := G.nw q
  obtain ⟨⟨hx, hby, hml, hEW⟩, ⟨o1, z2, z3, z1, es⟩, v0, k0, T, locs, X, ⟨hS, hk, hZ, hown⟩, ⟨hC, hF⟩, N, eT, k⟩ := G
  obtain ⟨cl, Ar, q1, hSz, hN, H, F⟩ := A
  obtain ⟨T', h', X', e', W', st⟩ := stR X hx hZ eT Ar (inb_of hSz hj) rfl (Sto.of Ar (q1 ▸ O) I) (g := mkF m pc L (.ref y :: .int j :: .ref a :: S)) rfl rfl (hb hby hd)
  exact ⟨h', ⟨⟨hx, hby, hml, hEW⟩, ⟨o1.wr W' qn, z2.wr W' q, z3, z1, es⟩, v0, k0, T', _, X', ⟨hS, (by rw [W'.size]; exact hk), hZ, hown⟩, ⟨hC.trans (CHr.wr W' (hF _ qs).2 hC.1), safeKeep (Keep.of_wr W') (fun x y => by cases List.mem_singleton.mp y; exact (hF _ qs).2) hC.1 hF⟩, Fr.snoc X' N qn, e', fun t q => k t (st t (by subst hp; exact q))⟩, Arv.set Ar q1 hSz hN H F rfl W' i hi hl, Keep.of_wr W'⟩
theorem Wl.initO {a : Addr} {idx : Nat} (G : Wl Z a0 own p l e R s m args below meth c code mx B EL h0 n0 ws sf h cells slots pc L (.ref a :: S)) (pc' : Nat) (w1 : (Cond.methodLink own idx Lib.objectInit).before a0 Z = true) (w2 : (Cond.instanceMethod Lib.objectInit).before a0 Z = true) (w3 : (Cond.code Lib.objectInit ⟨#[0xb1]⟩ 1 none).before a0 Z = true) (hd : decode code pc = .ok (.invokespecial idx, 3)) (hz : L.size = mx) (hf : 1 ≤ R.frames) (hl : (S.map fun v => v.category).sum + 12 ≤ R.locals) (hp : pc + 3 = pc') : Wl Z a0 own p l e R s m args below meth c code mx B EL h0 n0 ws sf h cells slots pc' L S := by
  obtain ⟨⟨hx, hby, hml, hEW⟩, ⟨o1, z2, z3, z1, es⟩, v0, k0, T, locs, X, ⟨hS, hk, hZ, hown⟩, ⟨hC, hF⟩, N, eT, k⟩ := G
  obtain ⟨T', X', e', st⟩ := Jvm.RoadKit.initO X hx hZ hown w1 w2 w3 eT (g := mkF m pc L (.ref a :: S)) rfl (hz.trans hml.symm) rfl (hb hby hd) hf (W := (S.map fun v => v.category).sum) (by show 2 * 0 + _ ≤ _; omega) hl
  exact ⟨⟨hx, hby, hml, hEW⟩, ⟨o1, z2, z3, z1, es⟩, v0, k0, T', _, X', ⟨hS, hk, hZ, hown⟩, ⟨hC, hF⟩, N, e', fun t q => k t (st t (by subst hp; exact q))⟩
theorem Wl.ldcI {index : Nat} {v : Int32} (G : Wl Z a0 own p l e R s m args below meth c code mx B EL h0 n0 ws sf h cells slots pc L S) (pc' : Nat) (w : (Cond.constant own index v).before a0 Z = true) (hd : decode code pc = .ok (.ldc index, 2)) (hp : pc + 2 = pc') : Wl Z a0 own p l e R s m args below meth c code mx B EL h0 n0 ws sf h cells slots pc' L (.int v :: S) := by
  obtain ⟨⟨hx, hby, hml, hEW⟩, ⟨o1, z2, z3, z1, es⟩, v0, k0, T, locs, X, ⟨hS, hk, hZ, hown⟩, ⟨hC, hF⟩, N, eT, k⟩ := G
  exact ⟨⟨hx, hby, hml, hEW⟩, ⟨o1, z2, z3, z1, es⟩, v0, k0, T, locs, X, ⟨hS, hk, hZ, hown⟩, ⟨hC, hF⟩, N, eT, fun t q => k t (X.ldcInt hx hown (mvT hZ w) (g := mkF m pc L S) rfl (hb hby hd) t (by subst hp; exact q))⟩
theorem Wl.ldcWI {index : Nat} {v : Int32} (G : Wl Z a0 own p l e R s m args below meth c code mx B EL h0 n0 ws sf h cells slots pc L S) (pc' : Nat) (w : (Cond.constant own index v).before a0 Z = true) (hd : decode code pc = .ok (.ldc_w index, 3)) (hp : pc + 3 = pc') : Wl Z a0 own p l e R s m args below meth c code mx B EL h0 n0 ws sf h cells slots pc' L (.int v :: S) := by
  obtain ⟨⟨hx, hby, hml, hEW⟩, ⟨o1, z2, z3, z1, es⟩, v0, k0, T, locs, X, ⟨hS, hk, hZ, hown⟩, ⟨hC, hF⟩, N, eT, k⟩ := G
  exact ⟨⟨hx, hby, hml, hEW⟩, ⟨o1, z2, z3, z1, es⟩, v0, k0, T, locs, X, ⟨hS, hk, hZ, hown⟩, ⟨hC, hF⟩, N, eT, fun t q => k t (X.ldcWInt hx hown (mvT hZ w) (g := mkF m pc L S) rfl (hb hby hd) t (by subst hp; exact q))⟩
theorem Wl.ldc2J {index : Nat} {v : Int64} (G : Wl Z a0 own p l e R s m args below meth c code mx B EL h0 n0 ws sf h cells slots pc L S) (pc' : Nat) (w : (Cond.constantLong own index v).before a0 Z = true) (hd : decode code pc = .ok (.ldc2_w index, 3)) (hp : pc + 3 = pc') : Wl Z a0 own p l e R s m args below meth c code mx B EL h0 n0 ws sf h cells slots pc' L (.long v :: S) := by
  obtain ⟨⟨hx, hby, hml, hEW⟩, ⟨o1, z2, z3, z1, es⟩, v0, k0, T, locs, X, ⟨hS, hk, hZ, hown⟩, ⟨hC, hF⟩, N, eT, k⟩ := G
  exact ⟨⟨hx, hby, hml, hEW⟩, ⟨o1, z2, z3, z1, es⟩, v0, k0, T, locs, X, ⟨hS, hk, hZ, hown⟩, ⟨hC, hF⟩, N, eT, fun t q => k t (X.ldc2Long hx hown (mvT hZ w) (g := mkF m pc L S) rfl (hb hby hd) t (by subst hp; exact q))⟩
/-- a body's contract: from the heap h0 with the arguments as', it returns; only what is new since n0 was written; h0 stands but for ws; String constants stay whole; sf: what must be no constant's cell; Q's list: what else is none -/
def Con (Z : State) (a0 : Array Value) (l : Launch) (y : MethodName) (bytes : ByteArray) (maxL : Nat) (ret : Option FieldType) (rm : Room) (tws : List Jvm.Cond) (as' : Array Value) (EL : List (String × Nat)) (h0 : Heap) (n0 : Nat) (ws sf : List Addr) (Q : Option Value → Heap → List Addr → Prop) : Prop :=
  MetFree l y (head1 (Cond.code y bytes maxL ret :: tws) rm) (fun a U => a = as' ∧ Z.Warmed39 U.vm ∧ U.heap = h0 ∧ CHv Z EL U.vm h0 ∧ ∀ x ∈ sf, x < h0.size ∧ Safe Z EL U.vm h0 x) (fun _ _ _ _ _ => True) (fun _ U o U' => ∃ v LL, o = .returned v ∧ (∃ so, Fr n0 LL ∧ Keep h0 U'.heap ws ∧ Q v U'.heap so ∧ CHr Z EL U.vm U.heap U'.vm U'.heap ∧ ∀ x ∈ so, x < U'.heap.size ∧ Safe Z EL U'.vm U'.heap x) ∧ ReturnedEndW U o U' LL rm.cells rm.slots)
def VV (Q : Value → Heap → List Addr → Prop) : Option Value → Heap → List Addr → Prop := fun v h so => ∃ w, v = some w ∧ Q w h so
def V0 (Q : Heap → List Addr → Prop) : Option Value → Heap → List Addr → Prop := fun v h so => v = none ∧ Q h so
/-- the walk's end -/
def Fin (Z : State) (EL : List (String × Nat)) (p : Program) (e : Env) (below : List Frame) (B s : State) (h0 : Heap) (n0 : Nat) (ws : List Addr) (k n : Nat) (Q : Option Value → Heap → List Addr → Prop) : Prop :=
  ∃ s₂ o, Steps p.tables e below B s₂ ∧ s₂.status = .running ∧ Ended s₂ below o ∧ ∃ v LL, o = .returned v ∧ (∃ so, Fr n0 LL ∧ Keep h0 s₂.heap ws ∧ Q v s₂.heap so ∧ CHr Z EL s.vm s.heap s₂.vm s₂.heap ∧ ∀ x ∈ so, x < s₂.heap.size ∧ Safe Z EL s₂.vm s₂.heap x) ∧ ReturnedEndW s o s₂ LL k n
theorem Con.body {tws : List Jvm.Cond} {y : MethodName} {bytes : ByteArray} {maxL : Nat} {ret : Option FieldType} {rm : Room} {as' : Array Value} {Q : Option Value → Heap → List Addr → Prop} (hpl : plainFor y = true) (hEW : EW Z a0 EL) (o1 : Old Z n0 h0) (z3 : ∀ x ∈ ws, n0 ≤ x) (L0 : Array Slot) (hef : ∀ m, entryFrame m as' maxL = mkF m 0 L0 [])
    (body : ∀ (p : Program) (e : Env) (s : State) (m : MethodId) (below : List Frame) (meth : Method) (c : Code) (B : State), meth.name = y.name → meth.sig.returnType = ret → meth.locks = false → Wl Z a0 y.cls p l e rm s m as' below meth c bytes maxL B EL h0 n0 ws sf h0 0 0 0 L0 [] → Fin Z EL p e below B s h0 n0 ws rm.cells rm.slots Q) : Con Z a0 l y bytes maxL ret rm tws as' EL h0 n0 ws sf Q := by
  refine MetFree.of_bodySF hpl hisR ?_
  intro p e s m args below meth c s₁ Bd hml hP hK
  obtain ⟨rfl, hZ, hh, hC, hF⟩ := hP
  refine body p e s m below meth c _ (name_of_methodNamed Bd.named Bd.method).1 Bd.returns Bd.notSynchronized ⟨⟨Bd.exec, Bd.bytes, hml, hEW⟩, ⟨o1, Keep.refl _ _, z3, by rw [← o1.1]; exact o1.2.1, hh⟩, s.vm, 0, s₁, [], Stand.of_body Bd, ⟨(State.WarmedH.refl s).since 0, Nat.zero_le _, hZ, findClass_of_methodNamed Bd.named⟩, ⟨CHr.refl hC, hF⟩, Fr.nil n0, by rw [← hh, Bd.state]; rfl, fun t q => ?_⟩
  rw [hef m]; exact q
theorem Wl.retV  {Q : Option Value → Heap → List Addr → Prop} {kk nn : Nat} (G : Wl Z a0 own p l e R s m args below meth c code mx B EL h0 n0 ws sf h cells slots pc L ([])) (hret : meth.sig.returnType = none) (hlk : meth.locks = false) (hd : decode code pc = .ok (.return_, 1)) (so : List Addr) (hso : ∀ x ∈ so, x ∈ sf) (hQ : Q (none) h so) (hc : cells ≤ kk) (hs : slots ≤ nn) : Fin Z EL p e below B s h0 n0 ws kk nn Q := by
  obtain ⟨⟨hx, hby, hml, hEW⟩, ⟨o1, z2, z3, z1, es⟩, v0, k0, T, locs, X, ⟨hS, hk, hZ, hown⟩, ⟨hC, hF⟩, N, eT, k⟩ := G
  obtain ⟨fs, hr, hrun, hended, hW⟩ := X.leaveW hS (by rw [eT]; exact hk) (v := none) (fun _ => rfl) hlk
  have hCT := CHv.at X hZ hEW hC.1
  refine ⟨_, _, k _ ?_, hrun, hended, _, _, rfl, ⟨so, N, ?_, ?_, ?_, ?_⟩, hW.1, hW.2.1, hW.2.2.1, hW.2.2.2.mono hc hs⟩
  · exact X.returnOut hx hret (hb hby hd) hr
  · show Keep h0 T.heap ws
    rw [eT]; exact z2
  · show Q _ T.heap so
    rw [eT]; exact hQ
  · show CHr Z EL s.vm s.heap T.vm T.heap
    rw [eT, es]
    exact hC.trans hCT
  · intro x hx
    show x < T.heap.size ∧ Safe Z EL T.vm T.heap x
    rw [eT]; exact ⟨(hF x (hso x hx)).1, hCT.safe (hF x (hso x hx)).1 (hF x (hso x hx)).2⟩
theorem Wl.retI {z : Int32} {Q : Option Value → Heap → List Addr → Prop} {kk nn : Nat} (G : Wl Z a0 own p l e R s m args below meth c code mx B EL h0 n0 ws sf h cells slots pc L (.int z :: S)) (hret : meth.sig.returnType = some .int) (hlk : meth.locks = false) (hd : decode code pc = .ok (.ireturn, 1)) (so : List Addr) (hso : ∀ x ∈ so, x ∈ sf) (hQ : Q (some (.int z)) h so) (hc : cells ≤ kk) (hs : slots ≤ nn) : Fin Z EL p e below B s h0 n0 ws kk nn Q := by
  obtain ⟨⟨hx, hby, hml, hEW⟩, ⟨o1, z2, z3, z1, es⟩, v0, k0, T, locs, X, ⟨hS, hk, hZ, hown⟩, ⟨hC, hF⟩, N, eT, k⟩ := G
  obtain ⟨fs, hr, hrun, hended, hW⟩ := X.leaveW hS (by rw [eT]; exact hk) (v := some (.int z)) (fun h => by rw [hret] at h; cases h) hlk
  have hCT := CHv.at X hZ hEW hC.1
  refine ⟨_, _, k _ ?_, hrun, hended, _, _, rfl, ⟨so, N, ?_, ?_, ?_, ?_⟩, hW.1, hW.2.1, hW.2.2.1, hW.2.2.2.mono hc hs⟩
  · exact retOut X hx hret rfl (Or.inl ⟨rfl, Or.inl rfl, _, rfl⟩) (hb hby hd) hr
  · show Keep h0 T.heap ws
    rw [eT]; exact z2
  · show Q _ T.heap so
    rw [eT]; exact hQ
  · show CHr Z EL s.vm s.heap T.vm T.heap
    rw [eT, es]
    exact hC.trans hCT
  · intro x hx
    show x < T.heap.size ∧ Safe Z EL T.vm T.heap x
    rw [eT]; exact ⟨(hF x (hso x hx)).1, hCT.safe (hF x (hso x hx)).1 (hF x (hso x hx)).2⟩
theorem Wl.retN {z : Int32} {t : FieldType} {Q : Option Value → Heap → List Addr → Prop} {kk nn : Nat} (G : Wl Z a0 own p l e R s m args below meth c code mx B EL h0 n0 ws sf h cells slots pc L (.int z :: S)) (hret : meth.sig.returnType = some t) (ht : t = .boolean ∨ t = .byte ∨ t = .char ∨ t = .short) (hlk : meth.locks = false) (hd : decode code pc = .ok (.ireturn, 1)) (so : List Addr) (hso : ∀ x ∈ so, x ∈ sf) (hQ : Q (some (.int (nar t z))) h so) (hc : cells ≤ kk) (hs : slots ≤ nn) : Fin Z EL p e below B s h0 n0 ws kk nn Q := by
  obtain ⟨⟨hx, hby, hml, hEW⟩, ⟨o1, z2, z3, z1, es⟩, v0, k0, T, locs, X, ⟨hS, hk, hZ, hown⟩, ⟨hC, hF⟩, N, eT, k⟩ := G
  obtain ⟨fs, hr, hrun, hended, hW⟩ := X.leaveW hS (by rw [eT]; exact hk) (v := some (.int (nar t z))) (fun h => by rw [hret] at h; cases h) hlk
  have hCT := CHv.at X hZ hEW hC.1
  refine ⟨_, _, k _ ?_, hrun, hended, _, _, rfl, ⟨so, N, ?_, ?_, ?_, ?_⟩, hW.1, hW.2.1, hW.2.2.1, hW.2.2.2.mono hc hs⟩
  · exact Jvm.RoadKit.retN X hx hret ht (hb hby hd) hr
  · show Keep h0 T.heap ws
    rw [eT]; exact z2
  · show Q _ T.heap so
    rw [eT]; exact hQ
  · show CHr Z EL s.vm s.heap T.vm T.heap
    rw [eT, es]
    exact hC.trans hCT
  · intro x hx
    show x < T.heap.size ∧ Safe Z EL T.vm T.heap x
    rw [eT]; exact ⟨(hF x (hso x hx)).1, hCT.safe (hF x (hso x hx)).1 (hF x (hso x hx)).2⟩
theorem Wl.retL {z : Int64} {Q : Option Value → Heap → List Addr → Prop} {kk nn : Nat} (G : Wl Z a0 own p l e R s m args below meth c code mx B EL h0 n0 ws sf h cells slots pc L (.long z :: S)) (hret : meth.sig.returnType = some .long) (hlk : meth.locks = false) (hd : decode code pc = .ok (.lreturn, 1)) (so : List Addr) (hso : ∀ x ∈ so, x ∈ sf) (hQ : Q (some (.long z)) h so) (hc : cells ≤ kk) (hs : slots ≤ nn) : Fin Z EL p e below B s h0 n0 ws kk nn Q := by
  obtain ⟨⟨hx, hby, hml, hEW⟩, ⟨o1, z2, z3, z1, es⟩, v0, k0, T, locs, X, ⟨hS, hk, hZ, hown⟩, ⟨hC, hF⟩, N, eT, k⟩ := G
  obtain ⟨fs, hr, hrun, hended, hW⟩ := X.leaveW hS (by rw [eT]; exact hk) (v := some (.long z)) (fun h => by rw [hret] at h; cases h) hlk
  have hCT := CHv.at X hZ hEW hC.1
  refine ⟨_, _, k _ ?_, hrun, hended, _, _, rfl, ⟨so, N, ?_, ?_, ?_, ?_⟩, hW.1, hW.2.1, hW.2.2.1, hW.2.2.2.mono hc hs⟩
  · exact retOut X hx hret rfl (Or.inr (Or.inl ⟨rfl, rfl, _, rfl⟩)) (hb hby hd) hr
  · show Keep h0 T.heap ws
    rw [eT]; exact z2
  · show Q _ T.heap so
    rw [eT]; exact hQ
  · show CHr Z EL s.vm s.heap T.vm T.heap
    rw [eT, es]
    exact hC.trans hCT
  · intro x hx
    show x < T.heap.size ∧ Safe Z EL T.vm T.heap x
    rw [eT]; exact ⟨(hF x (hso x hx)).1, hCT.safe (hF x (hso x hx)).1 (hF x (hso x hx)).2⟩
theorem Wl.retA {w : Value} {t : FieldType} {Q : Option Value → Heap → List Addr → Prop} {kk nn : Nat} (G : Wl Z a0 own p l e R s m args below meth c code mx B EL h0 n0 ws sf h cells slots pc L (w :: S)) (hret : meth.sig.returnType = some t) (ht : t.isReference = true) (hw : w.isRef = true) (hlk : meth.locks = false) (hd : decode code pc = .ok (.areturn, 1)) (so : List Addr) (hso : ∀ x ∈ so, x ∈ sf) (hQ : Q (some w) h so) (hc : cells ≤ kk) (hs : slots ≤ nn) : Fin Z EL p e below B s h0 n0 ws kk nn Q := by
  obtain ⟨⟨hx, hby, hml, hEW⟩, ⟨o1, z2, z3, z1, es⟩, v0, k0, T, locs, X, ⟨hS, hk, hZ, hown⟩, ⟨hC, hF⟩, N, eT, k⟩ := G
  obtain ⟨fs, hr, hrun, hended, hW⟩ := X.leaveW hS (by rw [eT]; exact hk) (v := some w) (fun h => by rw [hret] at h; cases h) hlk
  have hCT := CHv.at X hZ hEW hC.1
  refine ⟨_, _, k _ ?_, hrun, hended, _, _, rfl, ⟨so, N, ?_, ?_, ?_, ?_⟩, hW.1, hW.2.1, hW.2.2.1, hW.2.2.2.mono hc hs⟩
  · exact retOut X hx hret (by cases t <;> first | rfl | simp [FieldType.isReference] at ht) (Or.inr (Or.inr (Or.inr (Or.inr ⟨rfl, ht, hw⟩)))) (hb hby hd) hr
  · show Keep h0 T.heap ws
    rw [eT]; exact z2
  · show Q _ T.heap so
    rw [eT]; exact hQ
  · show CHr Z EL s.vm s.heap T.vm T.heap
    rw [eT, es]
    exact hC.trans hCT
  · intro x hx
    show x < T.heap.size ∧ Safe Z EL T.vm T.heap x
    rw [eT]; exact ⟨(hF x (hso x hx)).1, hCT.safe (hF x (hso x hx)).1 (hF x (hso x hx)).2⟩
theorem backL {y : MethodName} {bytes : ByteArray} {maxL : Nat} {ret : Option FieldType} {rm : Room} {len W : Nat} {as' : Array Value} {v0 : Vm} {wsC sfC : List Addr} {Q : Option Value → Heap → List Addr → Prop}
    (hM : Con Z a0 l y bytes maxL ret rm [] as' EL h n0 wsC sfC Q) (hZ : Z.Warmed39 v0) (wc : (Cond.code y bytes maxL ret).before a0 Z = true) (wz : (Cond.initialized y.cls).before a0 Z = true) (hf : rm.frames + 1 ≤ R.frames) (hl : W + (maxL + 11) + rm.locals ≤ R.locals) (hEL : EW Z a0 EL) (H : CHv Z EL v0 h) (hF : ∀ x ∈ sfC, x < h.size ∧ Safe Z EL v0 h x) :
    BackS l R p e below (s.setVm v0) args y len W (fun A a => a = as' ∧ A.U.heap = h ∧ A.cells + rm.cells ≤ R.cells ∧ A.slots + rm.slots ≤ R.slots)
      (fun A _ v B => ∃ LL, (∃ so, Fr n0 LL ∧ Keep h B.U.heap wsC ∧ Q v B.U.heap so ∧ CHr Z EL v0 h B.U.vm B.U.heap ∧ ∀ x ∈ so, x < B.U.heap.size ∧ Safe Z EL B.U.vm B.U.heap x) ∧ B.locs = A.locs ++ LL ∧ B.cells = A.cells + rm.cells ∧ B.slots = A.slots + rm.slots) :=
  BackS.of_freeW (bytes := bytes) (maxL := maxL) (ret := ret) (E := fun _ first o t LL k n => k = rm.cells ∧ n = rm.slots ∧ ∃ v, o = .returned v ∧ ∃ so, Fr n0 LL ∧ Keep h t.heap wsC ∧ Q v t.heap so ∧ CHr Z EL first.vm first.heap t.vm t.heap ∧ ∀ x ∈ so, x < t.heap.size ∧ Safe Z EL t.vm t.heap x) hM hf hl
    (fun m meth c A a Y hp => have hU : Z.Warmed39 A.U.vm := wtrans (s := s.setVm v0) hZ Y.warmed
      ⟨by show (Cond.and _ .tt).before a A.U = true; rw [Cond.before_and, mv hU wc]; rfl, mv hU wc, mv hU wz, hp.2.2.1, hp.2.2.2⟩)
    (fun m meth c A a g mk Y hp => ⟨hp.1, wtrans (s := s.setVm v0) hZ Y.warmed, hp.2.1, (CHv.at Y hZ hEL H).1, fun x hx => ⟨(hF x hx).1, (CHv.at Y hZ hEL H).safe (hF x hx).1 (hF x hx).2⟩⟩) (fun _ _ _ _ _ _ _ _ _ => trivial)
    (fun _ _ _ _ ⟨v, LL, h1, h2, h3⟩ => ⟨LL, _, _, h3, rfl, rfl, v, h1, h2⟩)
    (fun m meth c A a g mk v t LL k n Y hp _ _ ⟨e1, e2, v', e3, so, q1, q2, q3, q4, q5⟩ => by
      cases e3; subst e1 e2
      refine ⟨LL, ⟨so, q1, q2, q3, (CHv.at Y hZ hEL H).trans ?_, q5⟩, rfl, rfl, rfl⟩
      rw [← hp.2.1]; exact q4)
theorem Wl.callS {index : Nat} {y : MethodName} {bytes : ByteArray} {maxL : Nat} {ret : Option FieldType} {rm : Room} {wsC sfC : List Addr} {St : List Value} {Q : Option Value → Heap → List Addr → Prop} (G : Wl Z a0 own p l e R s m args below meth c code mx B EL h0 n0 ws sf h cells slots pc L (St)) (pc' : Nat) (w1 : (Cond.methodLink own index y).before a0 Z = true) (w2 : (Cond.static y).before a0 Z = true) (wz : (Cond.initialized y.cls).before a0 Z = true) (wc : (Cond.code y bytes maxL ret).before a0 Z = true) (hy : y.cls ≠ "java/lang/invoke/MethodHandle" ∧ y.cls ≠ "java/lang/invoke/VarHandle") (argsL rest : List Value) (hst : St = argsL.reverse ++ rest) (hM : Con Z a0 l y bytes maxL ret rm [] argsL.toArray EL h n0 wsC sfC Q) (hlen : ∀ sig, parseMethodDescriptor y.desc = some sig → argsL.length = sig.parameters.length) (hd : decode code pc = .ok (.invokestatic index, 3)) (hz : L.size = mx) (hf : rm.frames + 1 ≤ R.frames) (hl : (rest.map fun v => v.category).sum + (maxL + 11) + rm.locals ≤ R.locals) (hc : cells + rm.cells ≤ R.cells) (hs : slots + rm.slots ≤ R.slots) (hws : ∀ x ∈ wsC, NW h0 ws x) (hsf : ∀ x ∈ sfC, x ∈ sf) (hwf : ∀ x ∈ wsC, x ∈ sf) (hp : pc + 3 = pc') :
    ∃ (v : Option Value) (h' : Heap) (so : List Addr), Wl Z a0 own p l e R s m args below meth c code mx B EL h0 n0 ws (so ++ sf) h' (cells + rm.cells) (slots + rm.slots) pc' L (v.toList ++ rest) ∧ Keep h h' wsC ∧ Q v h' so := by
  have nw := fun x (q : NW h0 ws x) => G.nw q
  obtain ⟨⟨hx, hby, hml, hEW⟩, ⟨o1, z2, z3, z1, es⟩, v0, k0, T, locs, X, ⟨hS, hk, hZ, hown⟩, ⟨hC, hF⟩, N, eT, k⟩ := G
  subst hst
  obtain ⟨v, _, ⟨T', L', k', n'⟩, -, X', hS', g', ⟨Lc, ⟨so, N', K', hQ, C', F'⟩, l', y', z'⟩, st⟩ := callSS X hx (y := y) hown (mvT (s := s.setVm v0) hZ w1) (mvT (s := s.setVm v0) hZ w2) (mvT (s := s.setVm v0) hZ wz) (mvT (s := s.setVm v0) hZ wc) hy (backL (s := s) (W := (rest.map fun v => v.category).sum) hM hZ wc wz hf hl hEW hC.1 (fun x hx => hF x (hsf x hx))) (g := mkF m pc L (argsL.reverse ++ rest)) rfl (hz.trans hml.symm) (argsL := argsL) (rest := rest) hlen rfl (by show 2 * 0 + _ ≤ _; omega) (hb hby hd) (fun _ _ => ⟨rfl, eT, hc, hs⟩)
  dsimp only [Pt.U, Pt.locs, Pt.cells, Pt.slots] at X' hS' g' l' y' z' st N' K' hQ C' F'
  subst l' y' z'
  obtain ⟨X2, hS2, hZ2, hown2⟩ := rebS (s := s) hS (by rw [← eT] at hk; exact hk) X' hS' g' hZ hown
  exact ⟨v, T'.heap, so, ⟨⟨hx, hby, hml, hEW⟩, ⟨o1.keep K' (fun x q => nw x (hws x q)), z2.trans K' hws, z3, z1, es⟩, T'.vm, _, T', _, X2, ⟨hS2, Nat.le_refl _, hZ2, hown2⟩, ⟨hC.trans C', fun x q => (List.mem_append.mp q).elim (F' x) (fun r => ⟨Nat.lt_of_lt_of_le (hF x r).1 K'.1, C'.safe (hF x r).1 (hF x r).2⟩)⟩, N.app N', rfl, fun t q => k t (st.trans (by subst hp; exact q))⟩, K', hQ⟩
theorem Wl.callI {index : Nat} {y : MethodName} {bytes : ByteArray} {maxL : Nat} {ret : Option FieldType} {rm : Room} {wsC sfC : List Addr} {St : List Value} {a : Addr} {Q : Option Value → Heap → List Addr → Prop} (G : Wl Z a0 own p l e R s m args below meth c code mx B EL h0 n0 ws sf h cells slots pc L (St)) (pc' : Nat) (hr : ret = none) (hy1 : y.name = "<init>") (w1 : (Cond.methodLink own index y).before a0 Z = true) (w2 : (Cond.instanceMethod y).before a0 Z = true) (wz : (Cond.initialized y.cls).before a0 Z = true) (wc : (Cond.code y bytes maxL ret).before a0 Z = true) (hy : y.cls ≠ "java/lang/invoke/MethodHandle" ∧ y.cls ≠ "java/lang/invoke/VarHandle") (argsL rest : List Value) (hst : St = argsL.reverse ++ .ref a :: rest) (hM : Con Z a0 l y bytes maxL ret rm [] (.ref a :: argsL).toArray EL h n0 wsC sfC Q) (hlen : ∀ sig, parseMethodDescriptor y.desc = some sig → argsL.length = sig.parameters.length) (hd : decode code pc = .ok (.invokespecial index, 3)) (hz : L.size = mx) (hf : rm.frames + 1 ≤ R.frames) (hl : (rest.map fun v => v.category).sum + (maxL + 11) + rm.locals ≤ R.locals) (hc : cells + rm.cells ≤ R.cells) (hs : slots + rm.slots ≤ R.slots) (hws : ∀ x ∈ wsC, NW h0 ws x) (hsf : ∀ x ∈ sfC, x ∈ sf) (hwf : ∀ x ∈ wsC, x ∈ sf) (hp : pc + 3 = pc') :
    ∃ (v : Option Value) (h' : Heap) (so : List Addr), Wl Z a0 own p l e R s m args below meth c code mx B EL h0 n0 ws (so ++ sf) h' (cells + rm.cells) (slots + rm.slots) pc' L (v.toList ++ rest) ∧ Keep h h' wsC ∧ Q v h' so := by
  have nw := fun x (q : NW h0 ws x) => G.nw q
  obtain ⟨⟨hx, hby, hml, hEW⟩, ⟨o1, z2, z3, z1, es⟩, v0, k0, T, locs, X, ⟨hS, hk, hZ, hown⟩, ⟨hC, hF⟩, N, eT, k⟩ := G
  subst hst
  subst hr
  obtain ⟨v, _, ⟨T', L', k', n'⟩, -, X', hS', g', ⟨Lc, ⟨so, N', K', hQ, C', F'⟩, l', y', z'⟩, st⟩ := X.specialBackS hx (y := y) hy1 hown (mvT (s := s.setVm v0) hZ w1) (mvT (s := s.setVm v0) hZ w2) (mvT (s := s.setVm v0) hZ wc) hy (backL (s := s) (W := (rest.map fun v => v.category).sum) hM hZ wc wz hf hl hEW hC.1 (fun x hx => hF x (hsf x hx))) (g := mkF m pc L (argsL.reverse ++ .ref a :: rest)) rfl (hz.trans hml.symm) (Steps.refl _) (a := a) (argsL := argsL) (rest := rest) hlen rfl (by show 2 * 0 + _ ≤ _; omega) (hb hby hd) (fun _ _ => ⟨rfl, eT, hc, hs⟩)
  dsimp only [Pt.U, Pt.locs, Pt.cells, Pt.slots] at X' hS' g' l' y' z' st N' K' hQ C' F'
  subst l' y' z'
  obtain ⟨X2, hS2, hZ2, hown2⟩ := rebS (s := s) hS (by rw [← eT] at hk; exact hk) X' hS' g' hZ hown
  exact ⟨v, T'.heap, so, ⟨⟨hx, hby, hml, hEW⟩, ⟨o1.keep K' (fun x q => nw x (hws x q)), z2.trans K' hws, z3, z1, es⟩, T'.vm, _, T', _, X2, ⟨hS2, Nat.le_refl _, hZ2, hown2⟩, ⟨hC.trans C', fun x q => (List.mem_append.mp q).elim (F' x) (fun r => ⟨Nat.lt_of_lt_of_le (hF x r).1 K'.1, C'.safe (hF x r).1 (hF x r).2⟩)⟩, N.app N', rfl, fun t q => k t (st.trans (by subst hp; exact q))⟩, K', hQ⟩
theorem Wl.callV {index : Nat} {y : MethodName} {bytes : ByteArray} {maxL : Nat} {ret : Option FieldType} {rm : Room} {wsC sfC : List Addr} {St : List Value} {a : Addr} {C : String} {zz : MethodName} {Q : Option Value → Heap → List Addr → Prop} (G : Wl Z a0 own p l e R s m args below meth c code mx B EL h0 n0 ws sf h cells slots pc L (St)) (pc' : Nat) (w1 : (Cond.methodLink own index y).before a0 Z = true) (w2 : (Cond.declares y).before a0 Z = true) (hnf : ∀ s' : State, Z.Warmed39 s'.vm → NotFace s' y) (w3 : (Cond.selects C y zz).before a0 Z = true) (w4 : (Cond.instanceMethod zz).before a0 Z = true) (wz : (Cond.initialized zz.cls).before a0 Z = true) (wc : (Cond.code zz bytes maxL ret).before a0 Z = true) (Ex : Exa Z h a C) (hy : y.cls ≠ "java/lang/invoke/MethodHandle" ∧ y.cls ≠ "java/lang/invoke/VarHandle") (argsL rest : List Value) (hst : St = argsL.reverse ++ .ref a :: rest) (hM : Con Z a0 l zz bytes maxL ret rm [] (.ref a :: argsL).toArray EL h n0 wsC sfC Q) (hlen : ∀ sig, parseMethodDescriptor y.desc = some sig → argsL.length = sig.parameters.length) (hd : decode code pc = .ok (.invokevirtual index, 3)) (hz : L.size = mx) (hf : rm.frames + 1 ≤ R.frames) (hl : (rest.map fun v => v.category).sum + (maxL + 11) + rm.locals ≤ R.locals) (hc : cells + rm.cells ≤ R.cells) (hs : slots + rm.slots ≤ R.slots) (hws : ∀ x ∈ wsC, NW h0 ws x) (hsf : ∀ x ∈ sfC, x ∈ sf) (hwf : ∀ x ∈ wsC, x ∈ sf) (hp : pc + 3 = pc') :
    ∃ (v : Option Value) (h' : Heap) (so : List Addr), Wl Z a0 own p l e R s m args below meth c code mx B EL h0 n0 ws (so ++ sf) h' (cells + rm.cells) (slots + rm.slots) pc' L (v.toList ++ rest) ∧ Keep h h' wsC ∧ Q v h' so := by
  have nw := fun x (q : NW h0 ws x) => G.nw q
  obtain ⟨⟨hx, hby, hml, hEW⟩, ⟨o1, z2, z3, z1, es⟩, v0, k0, T, locs, X, ⟨hS, hk, hZ, hown⟩, ⟨hC, hF⟩, N, eT, k⟩ := G
  subst hst
  obtain ⟨cq, kq, q1, q2, q3⟩ := isOf (s := s.setVm v0) (T := T) hZ eT Ex
  obtain ⟨v, _, ⟨T', L', k', n'⟩, -, X', hS', g', ⟨Lc, ⟨so, N', K', hQ, C', F'⟩, l', y', z'⟩, st⟩ := X.virtualBackS hx (y := y) (z := zz) hown (mvT (s := s.setVm v0) hZ w1) (mvT (s := s.setVm v0) hZ w2) (hnf (s.setVm v0) hZ) (mvT (s := s.setVm v0) hZ w3) (mvT (s := s.setVm v0) hZ w4) hy (backL (s := s) (W := (rest.map fun v => v.category).sum) hM hZ wc wz hf hl hEW hC.1 (fun x hx => hF x (hsf x hx))) q1 q3 (g := mkF m pc L (argsL.reverse ++ .ref a :: rest)) rfl (hz.trans hml.symm) (Steps.refl _) (argsL := argsL) (rest := rest) hlen rfl (by show 2 * 0 + _ ≤ _; omega) (hb hby hd) (fun _ _ => ⟨rfl, eT, hc, hs⟩)
  dsimp only [Pt.U, Pt.locs, Pt.cells, Pt.slots] at X' hS' g' l' y' z' st N' K' hQ C' F'
  subst l' y' z'
  obtain ⟨X2, hS2, hZ2, hown2⟩ := rebS (s := s) hS (by rw [← eT] at hk; exact hk) X' hS' g' hZ hown
  exact ⟨v, T'.heap, so, ⟨⟨hx, hby, hml, hEW⟩, ⟨o1.keep K' (fun x q => nw x (hws x q)), z2.trans K' hws, z3, z1, es⟩, T'.vm, _, T', _, X2, ⟨hS2, Nat.le_refl _, hZ2, hown2⟩, ⟨hC.trans C', fun x q => (List.mem_append.mp q).elim (F' x) (fun r => ⟨Nat.lt_of_lt_of_le (hF x r).1 K'.1, C'.safe (hF x r).1 (hF x r).2⟩)⟩, N.app N', rfl, fun t q => k t (st.trans (by subst hp; exact q))⟩, K', hQ⟩
theorem Wl.callU {index : Nat} {y : MethodName} {bytes : ByteArray} {maxL : Nat} {ret : Option FieldType} {rm : Room} {wsC sfC : List Addr} {St : List Value} {a : Addr} {C owner : String} {zz : MethodName} {Q : Option Value → Heap → List Addr → Prop} (G : Wl Z a0 own p l e R s m args below meth c code mx B EL h0 n0 ws sf h cells slots pc L (St)) (pc' : Nat) (w1 : (Cond.methodLink own index y).before a0 Z = true) (w2 : (Cond.sameMethod y.cls owner y.name y.desc).before a0 Z = true) (w5 : (Cond.declares ⟨owner, y.name, y.desc⟩).before a0 Z = true) (w3 : (Cond.selects C y zz).before a0 Z = true) (w4 : (Cond.instanceMethod zz).before a0 Z = true) (wz : (Cond.initialized zz.cls).before a0 Z = true) (wc : (Cond.code zz bytes maxL ret).before a0 Z = true) (Ex : Exa Z h a C) (hy : owner ≠ "java/lang/invoke/MethodHandle" ∧ owner ≠ "java/lang/invoke/VarHandle") (argsL rest : List Value) (hst : St = argsL.reverse ++ .ref a :: rest) (hM : Con Z a0 l zz bytes maxL ret rm [] (.ref a :: argsL).toArray EL h n0 wsC sfC Q) (hlen : ∀ sig, parseMethodDescriptor y.desc = some sig → argsL.length = sig.parameters.length) (hd : decode code pc = .ok (.invokevirtual index, 3)) (hz : L.size = mx) (hf : rm.frames + 1 ≤ R.frames) (hl : (rest.map fun v => v.category).sum + (maxL + 11) + rm.locals ≤ R.locals) (hc : cells + rm.cells ≤ R.cells) (hs : slots + rm.slots ≤ R.slots) (hws : ∀ x ∈ wsC, NW h0 ws x) (hsf : ∀ x ∈ sfC, x ∈ sf) (hwf : ∀ x ∈ wsC, x ∈ sf) (hp : pc + 3 = pc') :
    ∃ (v : Option Value) (h' : Heap) (so : List Addr), Wl Z a0 own p l e R s m args below meth c code mx B EL h0 n0 ws (so ++ sf) h' (cells + rm.cells) (slots + rm.slots) pc' L (v.toList ++ rest) ∧ Keep h h' wsC ∧ Q v h' so := by
  have nw := fun x (q : NW h0 ws x) => G.nw q
  obtain ⟨⟨hx, hby, hml, hEW⟩, ⟨o1, z2, z3, z1, es⟩, v0, k0, T, locs, X, ⟨hS, hk, hZ, hown⟩, ⟨hC, hF⟩, N, eT, k⟩ := G
  subst hst
  obtain ⟨cq, kq, q1, q2, q3⟩ := isOf (s := s.setVm v0) (T := T) hZ eT Ex
  obtain ⟨v, _, ⟨T', L', k', n'⟩, -, X', hS', g', ⟨Lc, ⟨so, N', K', hQ, C', F'⟩, l', y', z'⟩, st⟩ := X.virtualBackUpS hx (x := y) (y := zz) hown (mvT (s := s.setVm v0) hZ w1) (mvT (s := s.setVm v0) hZ w2) (mvT (s := s.setVm v0) hZ w5) hy (mvT (s := s.setVm v0) hZ w3) (mvT (s := s.setVm v0) hZ w4) (backL (s := s) (W := (rest.map fun v => v.category).sum) hM hZ wc wz hf hl hEW hC.1 (fun x hx => hF x (hsf x hx))) q1 q3 (g := mkF m pc L (argsL.reverse ++ .ref a :: rest)) rfl (hz.trans hml.symm) (Steps.refl _) (argsL := argsL) (rest := rest) hlen rfl (by show 2 * 0 + _ ≤ _; omega) (hb hby hd) (fun _ _ => ⟨rfl, eT, hc, hs⟩)
  dsimp only [Pt.U, Pt.locs, Pt.cells, Pt.slots] at X' hS' g' l' y' z' st N' K' hQ C' F'
  subst l' y' z'
  obtain ⟨X2, hS2, hZ2, hown2⟩ := rebS (s := s) hS (by rw [← eT] at hk; exact hk) X' hS' g' hZ hown
  exact ⟨v, T'.heap, so, ⟨⟨hx, hby, hml, hEW⟩, ⟨o1.keep K' (fun x q => nw x (hws x q)), z2.trans K' hws, z3, z1, es⟩, T'.vm, _, T', _, X2, ⟨hS2, Nat.le_refl _, hZ2, hown2⟩, ⟨hC.trans C', fun x q => (List.mem_append.mp q).elim (F' x) (fun r => ⟨Nat.lt_of_lt_of_le (hF x r).1 K'.1, C'.safe (hF x r).1 (hF x r).2⟩)⟩, N.app N', rfl, fun t q => k t (st.trans (by subst hp; exact q))⟩, K', hQ⟩
theorem Wl.callF {index : Nat} {y : MethodName} {bytes : ByteArray} {maxL : Nat} {ret : Option FieldType} {rm : Room} {wsC sfC : List Addr} {St : List Value} {a : Addr} {C : String} {count : Nat} {zz : MethodName} {Q : Option Value → Heap → List Addr → Prop} (G : Wl Z a0 own p l e R s m args below meth c code mx B EL h0 n0 ws sf h cells slots pc L (St)) (pc' : Nat) (w1 : (Cond.methodLink own index y).before a0 Z = true) (w2 : (Cond.declares y).before a0 Z = true) (w5 : (Cond.interfaceMethod y.cls y.cls y.name y.desc).before a0 Z = true) (k5 : ((Cond.interfaceMethod y.cls y.cls y.name y.desc).onTables && (Cond.interfaceMethod y.cls y.cls y.name y.desc).keepsFace) = true) (w3 : (Cond.selects C y zz).before a0 Z = true) (w4 : (Cond.instanceMethod zz).before a0 Z = true) (w6 : (Cond.publicMethod zz).before a0 Z = true) (w7 : (Cond.unhidden C y.name y.desc).before a0 Z = true) (w8 : (Cond.castable C y.cls).before a0 Z = true) (wz : (Cond.initialized zz.cls).before a0 Z = true) (wc : (Cond.code zz bytes maxL ret).before a0 Z = true) (Ex : Exa Z h a C) (hy : y.cls ≠ "java/lang/invoke/MethodHandle" ∧ y.cls ≠ "java/lang/invoke/VarHandle") (argsL rest : List Value) (hst : St = argsL.reverse ++ .ref a :: rest) (hM : Con Z a0 l zz bytes maxL ret rm [] (.ref a :: argsL).toArray EL h n0 wsC sfC Q) (hlen : ∀ sig, parseMethodDescriptor y.desc = some sig → argsL.length = sig.parameters.length) (hd : decode code pc = .ok (.invokeinterface index count, 5)) (hz : L.size = mx) (hf : rm.frames + 1 ≤ R.frames) (hl : (rest.map fun v => v.category).sum + (maxL + 11) + rm.locals ≤ R.locals) (hc : cells + rm.cells ≤ R.cells) (hs : slots + rm.slots ≤ R.slots) (hws : ∀ x ∈ wsC, NW h0 ws x) (hsf : ∀ x ∈ sfC, x ∈ sf) (hwf : ∀ x ∈ wsC, x ∈ sf) (hp : pc + 5 = pc') :
    ∃ (v : Option Value) (h' : Heap) (so : List Addr), Wl Z a0 own p l e R s m args below meth c code mx B EL h0 n0 ws (so ++ sf) h' (cells + rm.cells) (slots + rm.slots) pc' L (v.toList ++ rest) ∧ Keep h h' wsC ∧ Q v h' so := by
  have nw := fun x (q : NW h0 ws x) => G.nw q
  obtain ⟨⟨hx, hby, hml, hEW⟩, ⟨o1, z2, z3, z1, es⟩, v0, k0, T, locs, X, ⟨hS, hk, hZ, hown⟩, ⟨hC, hF⟩, N, eT, k⟩ := G
  subst hst
  obtain ⟨cq, kq, q1, q2, q3⟩ := isOf (s := s.setVm v0) (T := T) hZ eT Ex
  obtain ⟨v, _, ⟨T', L', k', n'⟩, -, X', hS', g', ⟨Lc, ⟨so, N', K', hQ, C', F'⟩, l', y', z'⟩, st⟩ := X.interfaceBackS hx (xi := y) (y := zz) hown (mvT (s := s.setVm v0) hZ w1) (mvT (s := s.setVm v0) hZ w2) (mvT (s := s.setVm v0) hZ w5 k5) (mvT (s := s.setVm v0) hZ w3) (mvT (s := s.setVm v0) hZ w4) (mvT (s := s.setVm v0) hZ w6) (mvT (s := s.setVm v0) hZ w7) (mvT (s := s.setVm v0) hZ w8) hy (backL (s := s) (W := (rest.map fun v => v.category).sum) hM hZ wc wz hf hl hEW hC.1 (fun x hx => hF x (hsf x hx))) q1 q2 q3 (g := mkF m pc L (argsL.reverse ++ .ref a :: rest)) rfl (hz.trans hml.symm) (Steps.refl _) (argsL := argsL) (rest := rest) hlen rfl (by show 2 * 0 + _ ≤ _; omega) (hb hby hd) (fun _ _ => ⟨rfl, eT, hc, hs⟩)
  dsimp only [Pt.U, Pt.locs, Pt.cells, Pt.slots] at X' hS' g' l' y' z' st N' K' hQ C' F'
  subst l' y' z'
  obtain ⟨X2, hS2, hZ2, hown2⟩ := rebS (s := s) hS (by rw [← eT] at hk; exact hk) X' hS' g' hZ hown
  exact ⟨v, T'.heap, so, ⟨⟨hx, hby, hml, hEW⟩, ⟨o1.keep K' (fun x q => nw x (hws x q)), z2.trans K' hws, z3, z1, es⟩, T'.vm, _, T', _, X2, ⟨hS2, Nat.le_refl _, hZ2, hown2⟩, ⟨hC.trans C', fun x q => (List.mem_append.mp q).elim (F' x) (fun r => ⟨Nat.lt_of_lt_of_le (hF x r).1 K'.1, C'.safe (hF x r).1 (hF x r).2⟩)⟩, N.app N', rfl, fun t q => k t (st.trans (by subst hp; exact q))⟩, K', hQ⟩
theorem Wl.callSup {index : Nat} {y : MethodName} {bytes : ByteArray} {maxL : Nat} {ret : Option FieldType} {rm : Room} {wsC sfC : List Addr} {St : List Value} {a : Addr} {K : String} {Q : Option Value → Heap → List Addr → Prop} (G : Wl Z a0 own p l e R s m args below meth c code mx B EL h0 n0 ws sf h cells slots pc L (St)) (pc' : Nat) (w1 : (Cond.methodLink own index y).before a0 Z = true) (w2 : (Cond.sameMethod y.cls y.cls y.name y.desc).before a0 Z = true) (w3 : (Cond.instanceMethod y).before a0 Z = true) (w4 : (Cond.superclass own y.cls).before a0 Z = true) (hn : y.name ≠ "<init>") (wz : (Cond.initialized y.cls).before a0 Z = true) (wc : (Cond.code y bytes maxL ret).before a0 Z = true) (Ex : Ins Z h a K true) (argsL rest : List Value) (hst : St = argsL.reverse ++ .ref a :: rest) (hM : Con Z a0 l y bytes maxL ret rm [] (.ref a :: argsL).toArray EL h n0 wsC sfC Q) (hlen : ∀ sig, parseMethodDescriptor y.desc = some sig → argsL.length = sig.parameters.length) (hd : decode code pc = .ok (.invokespecial index, 3)) (hz : L.size = mx) (hf : rm.frames + 1 ≤ R.frames) (hl : (rest.map fun v => v.category).sum + (maxL + 11) + rm.locals ≤ R.locals) (hc : cells + rm.cells ≤ R.cells) (hs : slots + rm.slots ≤ R.slots) (hws : ∀ x ∈ wsC, NW h0 ws x) (hsf : ∀ x ∈ sfC, x ∈ sf) (hwf : ∀ x ∈ wsC, x ∈ sf) (hp : pc + 3 = pc') :
    ∃ (v : Option Value) (h' : Heap) (so : List Addr), Wl Z a0 own p l e R s m args below meth c code mx B EL h0 n0 ws (so ++ sf) h' (cells + rm.cells) (slots + rm.slots) pc' L (v.toList ++ rest) ∧ Keep h h' wsC ∧ Q v h' so := by
  have nw := fun x (q : NW h0 ws x) => G.nw q
  obtain ⟨⟨hx, hby, hml, hEW⟩, ⟨o1, z2, z3, z1, es⟩, v0, k0, T, locs, X, ⟨hS, hk, hZ, hown⟩, ⟨hC, hF⟩, N, eT, k⟩ := G
  subst hst
  obtain ⟨v, _, ⟨T', L', k', n'⟩, -, X', hS', g', ⟨Lc, ⟨so, N', K', hQ, C', F'⟩, l', y', z'⟩, st⟩ := superBackS (s := s.setVm v0) X hx hZ (y := y) hown w1 w2 w3 w4 hn (backL (s := s) (W := (rest.map fun v => v.category).sum) hM hZ wc wz hf hl hEW hC.1 (fun x hx => hF x (hsf x hx))) eT Ex (g := mkF m pc L (argsL.reverse ++ .ref a :: rest)) rfl (hz.trans hml.symm) wc (argsL := argsL) (rest := rest) hlen rfl (by show 2 * 0 + _ ≤ _; omega) (hb hby hd) (fun _ _ => ⟨rfl, eT, hc, hs⟩)
  dsimp only [Pt.U, Pt.locs, Pt.cells, Pt.slots] at X' hS' g' l' y' z' st N' K' hQ C' F'
  subst l' y' z'
  obtain ⟨X2, hS2, hZ2, hown2⟩ := rebS (s := s) hS (by rw [← eT] at hk; exact hk) X' hS' g' hZ hown
  exact ⟨v, T'.heap, so, ⟨⟨hx, hby, hml, hEW⟩, ⟨o1.keep K' (fun x q => nw x (hws x q)), z2.trans K' hws, z3, z1, es⟩, T'.vm, _, T', _, X2, ⟨hS2, Nat.le_refl _, hZ2, hown2⟩, ⟨hC.trans C', fun x q => (List.mem_append.mp q).elim (F' x) (fun r => ⟨Nat.lt_of_lt_of_le (hF x r).1 K'.1, C'.safe (hF x r).1 (hF x r).2⟩)⟩, N.app N', rfl, fun t q => k t (st.trans (by subst hp; exact q))⟩, K', hQ⟩
theorem nfSel {C : String} {y : MethodName} (w3 : (Cond.selects C y y).before a0 Z = true) : ∀ s' : State, Z.Warmed39 s'.vm → NotFace s' y := fun s' hZ => notFace_of_selects (args := #[]) (mvT hZ w3)
theorem Wl.val {v : Option Value} {w : Value} {rest : List Value} (G : Wl Z a0 own p l e R s m args below meth c code mx B EL h0 n0 ws sf h cells slots pc L (v.toList ++ rest)) (q : v = some w) : Wl Z a0 own p l e R s m args below meth c code mx B EL h0 n0 ws sf h cells slots pc L (w :: rest) := by subst q; exact G
theorem Wl.nov {v : Option Value} {rest : List Value} (G : Wl Z a0 own p l e R s m args below meth c code mx B EL h0 n0 ws sf h cells slots pc L (v.toList ++ rest)) (q : v = none) : Wl Z a0 own p l e R s m args below meth c code mx B EL h0 n0 ws sf h cells slots pc L (rest) := by subst q; exact G
theorem Wl.callP {index : Nat} {y : MethodName} {bytes : ByteArray} {maxL : Nat} {ret : Option FieldType} {rm : Room} {wsC sfC : List Addr} {St : List Value} {a : Addr} {C : String} {Q : Option Value → Heap → List Addr → Prop} (G : Wl Z a0 own p l e R s m args below meth c code mx B EL h0 n0 ws sf h cells slots pc L (St)) (pc' : Nat) (w1 : (Cond.methodLink own index y).before a0 Z = true) (w2 : (Cond.instanceMethod y).before a0 Z = true) (w3 : (Cond.selects y.cls y y).before a0 Z = true) (w4 : (Cond.privateMethod y).before a0 Z = true) (wz : (Cond.initialized y.cls).before a0 Z = true) (wc : (Cond.code y bytes maxL ret).before a0 Z = true) (Ex : Exa Z h a C) (hy : y.cls ≠ "java/lang/invoke/MethodHandle" ∧ y.cls ≠ "java/lang/invoke/VarHandle") (argsL rest : List Value) (hst : St = argsL.reverse ++ .ref a :: rest) (hM : Con Z a0 l y bytes maxL ret rm [] (.ref a :: argsL).toArray EL h n0 wsC sfC Q) (hlen : ∀ sig, parseMethodDescriptor y.desc = some sig → argsL.length = sig.parameters.length) (hd : decode code pc = .ok (.invokevirtual index, 3)) (hz : L.size = mx) (hf : rm.frames + 1 ≤ R.frames) (hl : (rest.map fun v => v.category).sum + (maxL + 11) + rm.locals ≤ R.locals) (hc : cells + rm.cells ≤ R.cells) (hs : slots + rm.slots ≤ R.slots) (hws : ∀ x ∈ wsC, NW h0 ws x) (hsf : ∀ x ∈ sfC, x ∈ sf) (hwf : ∀ x ∈ wsC, x ∈ sf) (hp : pc + 3 = pc') :
    ∃ (v : Option Value) (h' : Heap) (so : List Addr), Wl Z a0 own p l e R s m args below meth c code mx B EL h0 n0 ws (so ++ sf) h' (cells + rm.cells) (slots + rm.slots) pc' L (v.toList ++ rest) ∧ Keep h h' wsC ∧ Q v h' so := by
  have nw := fun x (q : NW h0 ws x) => G.nw q
  obtain ⟨⟨hx, hby, hml, hEW⟩, ⟨o1, z2, z3, z1, es⟩, v0, k0, T, locs, X, ⟨hS, hk, hZ, hown⟩, ⟨hC, hF⟩, N, eT, k⟩ := G
  subst hst
  obtain ⟨cellq, kq, q1, -, -, q4, -⟩ := Ex
  obtain ⟨v, _, ⟨T', L', k', n'⟩, -, X', hS', g', ⟨Lc, ⟨so, N', K', hQ, C', F'⟩, l', y', z'⟩, st⟩ := X.privateBackS hx (y := y) hown (mvT (s := s.setVm v0) hZ w1) (mvT (s := s.setVm v0) hZ w2) (mvT (s := s.setVm v0) hZ w3) (Cond.privateMethod_at (args := args) (mvP (s := s.setVm v0) hZ w4)) (mvT (s := s.setVm v0) hZ wc) hy (backL (s := s) (W := (rest.map fun v => v.category).sum) hM hZ wc wz hf hl hEW hC.1 (fun x hx => hF x (hsf x hx))) (g := mkF m pc L (argsL.reverse ++ .ref a :: rest)) rfl (hz.trans hml.symm) (Steps.refl _) (by rw [eT]; exact q1) (fun q r => by rw [r] at q4; cases q4) (argsL := argsL) (rest := rest) hlen rfl (by show 2 * 0 + _ ≤ _; omega) (hb hby hd) (fun _ _ => ⟨rfl, eT, hc, hs⟩)
  dsimp only [Pt.U, Pt.locs, Pt.cells, Pt.slots] at X' hS' g' l' y' z' st N' K' hQ C' F'
  subst l' y' z'
  obtain ⟨X2, hS2, hZ2, hown2⟩ := rebS (s := s) hS (by rw [← eT] at hk; exact hk) X' hS' g' hZ hown
  exact ⟨v, T'.heap, so, ⟨⟨hx, hby, hml, hEW⟩, ⟨o1.keep K' (fun x q => nw x (hws x q)), z2.trans K' hws, z3, z1, es⟩, T'.vm, _, T', _, X2, ⟨hS2, Nat.le_refl _, hZ2, hown2⟩, ⟨hC.trans C', fun x q => (List.mem_append.mp q).elim (F' x) (fun r => ⟨Nat.lt_of_lt_of_le (hF x r).1 K'.1, C'.safe (hF x r).1 (hF x r).2⟩)⟩, N.app N', rfl, fun t q => k t (st.trans (by subst hp; exact q))⟩, K', hQ⟩
theorem declOf {y : MethodName} {bytes : ByteArray} {maxL : Nat} {ret : Option FieldType} (w2 : (Cond.instanceMethod y).before a0 Z = true) (wc : (Cond.code y bytes maxL ret).before a0 Z = true) : (Cond.declares y).before a0 Z = true := by
  obtain ⟨mk, methM, hnamed, hmethM, hstM, -⟩ := Cond.instanceMethod_spec w2
  obtain ⟨methM', cM, hmethM', -, -, -, -, -, -, hsigM⟩ := Cond.code_spec hnamed wc
  cases hmethM.symm.trans hmethM'
  simp [Cond.before, Cond.holds, Cond.value, hnamed, hmethM, hstM, hsigM]
theorem nfVia {C : String} {y y' : MethodName} (hc : y'.cls = y.cls) (w3 : (Cond.selects C y y).before a0 Z = true) (w4 : (Cond.instanceMethod y).before a0 Z = true) : ∀ s' : State, Z.Warmed39 s'.vm → NotFace s' y' := fun s' hZ r0 h0 => by
  obtain ⟨mk, methM, hnamed, -⟩ := Cond.instanceMethod_spec (mv (args := #[]) hZ w4)
  obtain ⟨kr, h1, h2⟩ := notFace_of_selects (args := #[]) (mvT hZ w3) mk hnamed
  have e1 := findClass_of_methodNamed hnamed
  have e2 := findClass_of_methodNamed h0
  rw [hc] at e2
  have e3 := Option.some.inj (e1.symm.trans e2)
  exact ⟨kr, by rw [← e3]; exact h1, h2⟩
theorem sameOf {y : MethodName} (w2 : (Cond.instanceMethod y).before a0 Z = true) (nf : ∀ s' : State, Z.Warmed39 s'.vm → NotFace s' y) (hy : y.cls ≠ "java/lang/invoke/MethodHandle" ∧ y.cls ≠ "java/lang/invoke/VarHandle") : (Cond.sameMethod y.cls y.cls y.name y.desc).before a0 Z = true := by
  obtain ⟨mk, methM, hnamed, -⟩ := Cond.instanceMethod_spec w2
  obtain ⟨kr, h1, h2⟩ := nf Z (State.Warmed39.refl Z) mk hnamed
  have e1 := findClass_of_methodNamed hnamed
  have e2 := State.methodFound?_of_named hnamed hy
  have e3 : Z.methodNamed? ⟨y.cls, y.name, y.desc⟩ = some mk := hnamed
  simp [Cond.before, Cond.holds, Cond.value, e1, e2, e3, h1, h2]
theorem Wl.ccast {K : String} {index : Nat} {a : Addr} (G : Wl Z a0 own p l e R s m args below meth c code mx B EL h0 n0 ws sf h cells slots pc L (.ref a :: S)) (pc' : Nat) (w : (Cond.classLink own index K).before a0 Z = true) (F : Ins Z h a K true) (hd : decode code pc = .ok (.checkcast index, 3)) (hp : pc + 3 = pc') : Wl Z a0 own p l e R s m args below meth c code mx B EL h0 n0 ws sf h cells slots pc' L (.ref a :: S) := by
  obtain ⟨⟨hx, hby, hml, hEW⟩, ⟨o1, z2, z3, z1, es⟩, v0, k0, T, locs, X, ⟨hS, hk, hZ, hown⟩, ⟨hC, hF⟩, N, eT, k⟩ := G
  obtain ⟨T', X', e', st⟩ := castY (s := s.setVm v0) X hx hZ hown w eT F (g := mkF m pc L (.ref a :: S)) rfl rfl (hb hby hd)
  exact ⟨⟨hx, hby, hml, hEW⟩, ⟨o1, z2, z3, z1, es⟩, v0, k0, T', _, X', ⟨hS, hk, hZ, hown⟩, ⟨hC, hF⟩, N, e', fun t q => k t (st t (by subst hp; exact q))⟩
theorem Wl.instY {K : String} {index : Nat} {a : Addr} (G : Wl Z a0 own p l e R s m args below meth c code mx B EL h0 n0 ws sf h cells slots pc L (.ref a :: S)) (pc' : Nat) (w : (Cond.classLink own index K).before a0 Z = true) (F : Ins Z h a K true) (hd : decode code pc = .ok (.instanceof index, 3)) (hp : pc + 3 = pc') : Wl Z a0 own p l e R s m args below meth c code mx B EL h0 n0 ws sf h cells slots pc' L (.int 1 :: S) := by
  obtain ⟨⟨hx, hby, hml, hEW⟩, ⟨o1, z2, z3, z1, es⟩, v0, k0, T, locs, X, ⟨hS, hk, hZ, hown⟩, ⟨hC, hF⟩, N, eT, k⟩ := G
  obtain ⟨T', X', e', st⟩ := Jvm.RoadKit.instY (s := s.setVm v0) X hx hZ hown w eT F (g := mkF m pc L (.ref a :: S)) rfl rfl (hb hby hd)
  exact ⟨⟨hx, hby, hml, hEW⟩, ⟨o1, z2, z3, z1, es⟩, v0, k0, T', _, X', ⟨hS, hk, hZ, hown⟩, ⟨hC, hF⟩, N, e', fun t q => k t (st t (by subst hp; exact q))⟩
theorem Wl.cpy {index : Nat} {a b : Addr} {k k' : ClassId} {ty : FieldType} {z z' sp dp nn : Int32} {vs vd : List Value} {dv dd : Value} (G : Wl Z a0 own p l e R s m args below meth c code mx B EL h0 n0 ws sf h cells slots pc L (.int nn :: .int dp :: .ref b :: .int sp :: .ref a :: S)) (pc' : Nat) (w1 : (Cond.methodLink own index Jvm.Stand.acN).before a0 Z = true) (w2 : (Cond.native Jvm.Stand.acN).before a0 Z = true) (w3 : (Cond.static Jvm.Stand.acN).before a0 Z = true) (w4 : (Cond.initialized "java/lang/System").before a0 Z = true) (A : Arv Z h a k ty z vs dv) (B' : Arv Z h b k' ty z' vd dd) (hr : refKind ty = false) (h1 : ¬ sp < 0) (h2 : ¬ dp < 0) (h3 : ¬ nn < 0) (h4 : sp.toNatClampNeg + nn.toNatClampNeg ≤ z.toNatClampNeg) (h5 : dp.toNatClampNeg + nn.toNatClampNeg ≤ z'.toNatClampNeg) (hl : dp.toNatClampNeg + nn.toNatClampNeg ≤ vd.length) (q : NW h0 ws b) (qs : b ∈ sf) (hd : decode code pc = .ok (.invokestatic index, 3)) (hz : L.size = mx) (hf : 1 ≤ R.frames) (hlo : (S.map fun v => v.category).sum + (nativeFrameWords "java/lang/System" "arraycopy" 5 + 11) ≤ R.locals) (hp : pc + 3 = pc') : ∃ (h' : Heap), Wl Z a0 own p l e R s m args below meth c code mx B EL h0 n0 ws sf h' cells slots pc' L S ∧ Arv Z h' b k' ty z' (vd.take dp.toNatClampNeg ++ ((List.range nn.toNatClampNeg).map fun i => vs.getD (sp.toNatClampNeg + i) dv) ++ vd.drop (dp.toNatClampNeg + nn.toNatClampNeg)) dd ∧ Keep h h' [b] := by
  have qn := G.nw q
  obtain ⟨⟨hx, hby, hml, hEW⟩, ⟨o1, z2, z3, z1, es⟩, v0, k0, T, locs, X, ⟨hS, hk, hZ, hown⟩, ⟨hC, hF⟩, N, eT, k⟩ := G
  obtain ⟨T', h', LL, X', e', N', K', A', st⟩ := cpA (s := s.setVm v0) X hx hZ hown w1 w2 w3 w4 eT A B' (Or.inl ⟨rfl, hr⟩) h1 h2 h3 h4 h5 rfl hl N qn (g := mkF m pc L (.int nn :: .int dp :: .ref b :: .int sp :: .ref a :: S)) rfl (hz.trans hml.symm) rfl (hb hby hd) hf (W := (S.map fun v => v.category).sum) (by show 2 * 0 + _ ≤ _; omega) hlo
  have hsb : ∀ x ∈ [b], Safe Z EL v0 h x := fun x y => by cases List.mem_singleton.mp y; exact (hF _ qs).2
  exact ⟨h', ⟨⟨hx, hby, hml, hEW⟩, ⟨o1.keep K' (allS qn all0), z2.trans K' (allS q all0), z3, z1, es⟩, v0, k0, T', _, X', ⟨hS, Nat.le_trans hk K'.1, hZ, hown⟩, ⟨hC.trans (CHr.keep K' hsb hC.1), safeKeep K' hsb hC.1 hF⟩, N', e', fun t q => k t (st t (by subst hp; exact q))⟩, A', K'⟩
theorem Wl.ldcS {index : Nat} {text : String} {vs : List Value} {z : Int32} (G : Wl Z a0 own p l e R s m args below meth c code mx B EL h0 n0 ws sf h cells slots pc L S) (pc' : Nat) (w : (Cond.stringLink own index text).before a0 Z = true) (wS : ∀ a ∈ Bundle.stringAtoms, a.before a0 Z = true) (hmem : (own, index) ∈ EL) (ht : (∀ c ∈ text.toList, c.toNat < 256) ∧ text.toList.map (fun c => Value.int (Jvm.Lit.byteI c.toNat.toUInt16)) = vs) (hz : ¬ z < 0) (hl : z.toNatClampNeg = vs.length) (hd : decode code pc = .ok (.ldc index, 2)) (n : Nat) (hn : 4 * text.toList.length ≤ n) (hbig : n ≤ 536870912) (hc : cells + 2 ≤ R.cells) (hl' : slots + (n + 4) ≤ R.slots) (hp : pc + 2 = pc') : ∃ (a b : Addr) (h' : Heap) (kk : ClassId), Wl Z a0 own p l e R s m args below meth c code mx B EL h0 n0 ws sf h' (cells + 2) (slots + (n + 4)) pc' L (.ref a :: S) ∧ Ext h h' ∧ Exa Z h' a "java/lang/String" ∧ Fld Z h' a "java/lang/String" "coder" "B" (.int 0) ∧ Fld Z h' a "java/lang/String" "value" "[B" (.ref b) ∧ Arv Z h' b kk .byte z vs (.int 0) ∧ ∀ x ∈ sf, x ≠ a ∧ x ≠ b := by
  obtain ⟨⟨hx, hby, hml, hEW⟩, ⟨o1, z2, z3, z1, es⟩, v0, k0, T, locs, X, ⟨hS, hk, hZ, hown⟩, ⟨hC, hF⟩, N, eT, k⟩ := G
  obtain ⟨a, T', h', k1, b, kk, X', e', E, hS', hk', hZ', hown', Ex, Fc, Fv, A, -, -, C', -, hne, st⟩ := ldcCH X hx hZ hown w wS eT hS hk hEW hmem hC.1 ht hz hl (g := mkF m pc L S) rfl (hb hby hd) hn hbig hc hl'
  have hF' : ∀ x ∈ sf, x < h'.size ∧ Safe Z EL T'.vm h' x := fun x q => ⟨Nat.lt_of_lt_of_le (hF x q).1 E.1, C'.safe (hF x q).1 (hF x q).2⟩
  exact ⟨a, b, h', kk, ⟨⟨hx, hby, hml, hEW⟩, ⟨o1.ext E, z2.ext E, z3, z1, es⟩, T'.vm, k1, T', _, X', ⟨hS', hk', hZ', hown'⟩, ⟨hC.trans C', hF'⟩, N, e', fun t q => k t (st t (by subst hp; exact q))⟩, E, Ex, Fc, Fv, A, fun x q => hne x (hF' x q).2⟩
end OwnL
end Jvm.OwnL
namespace Jvm.Pilot.@@N@@
open Jvm Jvm.ClassFile Sem Op Lib Jvm.Free Jvm.Free.Fl Jvm.Stand Jvm.LawKit Jvm.RoadKit Jvm.OwnL Bundle Jvm.Pilot.@@N@@.Jvm.D
set_option maxRecDepth 65536
set_option maxHeartbeats 40000000
theorem nle {a b : Nat} (h : Nat.ble a b = true) : a ≤ b := Nat.le_of_ble_eq_true h
theorem mm {α : Type} {l : List α} {a : α} (i : Nat) (h : l[i]? = some a) : a ∈ l := List.mem_of_getElem? h
theorem ofn_int {n : Nat} (h : n < 2147483648) : (Int32.ofNat n).toInt = (n : Int) := Int32.toInt_ofNat_small h
theorem ofn_nat {n : Nat} (h : n < 2147483648) : (Int32.ofNat n).toNatClampNeg = n := by simp only [Int32.toNatClampNeg, ofn_int h]; omega
theorem ofn_nn {n : Nat} (h : n < 2147483648) : ¬ Int32.ofNat n < 0 := by
  rw [Int32.lt_iff_toInt_lt, ofn_int h]; show ¬ (n : Int) < 0; omega
theorem ofn_lt {i n : Nat} (hi : i < n) (h : n < 2147483648) : Int32.ofNat i < Int32.ofNat n := by
  rw [Int32.lt_iff_toInt_lt, ofn_int h, ofn_int (by omega)]; omega
theorem ofn_nlt {i n : Nat} (hi : n ≤ i) (h : i < 2147483648) : ¬ Int32.ofNat i < Int32.ofNat n := by
  rw [Int32.lt_iff_toInt_lt, ofn_int h, ofn_int (by omega)]; omega
theorem ofn_ne {i n : Nat} (hi : i ≠ n) (h1 : i < 2147483648) (h2 : n < 2147483648) : ¬ Int32.ofNat i = Int32.ofNat n := fun q => hi (by
  have := congrArg Int32.toInt q; rw [ofn_int h1, ofn_int h2] at this; omega)
theorem ofn_add (a b : Nat) : Int32.ofNat a + Int32.ofNat b = Int32.ofNat (a + b) := (Int32.ofNat_add a b).symm
theorem ofn_sub {a b : Nat} (h : b ≤ a) (ha : a < 2147483648) : Int32.ofNat a - Int32.ofNat b = Int32.ofNat (a - b) := by
  apply Int32.toInt_inj.mp
  have e := c_isub (Int32.ofNat a) (Int32.ofNat b)
  have r := rng32 (Int32.ofNat a - Int32.ofNat b)
  rw [ofn_int ha, ofn_int (by omega)] at e
  rw [ofn_int (by omega)]; omega
theorem ofn_le0 {a b : Nat} (h : a ≤ b) (hb : b < 2147483648) : ¬ 0 < Int32.ofNat a - Int32.ofNat b := by
  have e := c_isub (Int32.ofNat a) (Int32.ofNat b)
  have r := rng32 (Int32.ofNat a - Int32.ofNat b)
  rw [ofn_int (by omega), ofn_int hb] at e
  rw [Int32.lt_iff_toInt_lt]; show ¬ (0 : Int) < _; omega
theorem shr0 (x : Int32) : x >>> ((0 : Int32) &&& 31) = x := by
  apply Int32.toInt_inj.mp; rw [c_ishr x 0 0 rfl]; simp
theorem shl0 (x : Int32) : x <<< ((0 : Int32) &&& 31) = x := by
  have e : (0 : Int32) &&& 31 = 0 := by decide
  have f := c_ishl x 0 0 rfl
  have r := rng32 (x <<< ((0 : Int32) &&& 31)); have r2 := rng32 x
  rw [show ((2 ^ 0 : Nat) : Int) = 1 from rfl, Int.mul_one] at f
  apply Int32.toInt_inj.mp; omega
theorem byt2 (x : Int32) : x.toInt8.toInt32.toInt8.toInt32 = x.toInt8.toInt32 := by simp
theorem sub0 (x : Int32) : x - 0 = x := by simp
theorem ofn_succ (i : Nat) : Int32.ofNat i + Int32.ofInt 1 = Int32.ofNat (i + 1) := (Int32.ofNat_add i 1).symm
theorem cpy_res (bs cs : List Value) (d : Value) : ((bs ++ List.replicate cs.length d).take bs.length ++ ((List.range cs.length).map fun i => cs.getD (0 + i) d) ++ (bs ++ List.replicate cs.length d).drop (bs.length + cs.length)) = bs ++ cs := by
  have e1 : (bs ++ List.replicate cs.length d).take bs.length = bs := by simp
  have e2 : (bs ++ List.replicate cs.length d).drop (bs.length + cs.length) = [] := List.drop_eq_nil_of_le (by simp)
  have e3 : ((List.range cs.length).map fun i => cs.getD (0 + i) d) = cs := by
    apply List.ext_getElem?
    intro i
    by_cases h : i < cs.length
    · simp [h]
    · simp [h, List.getElem?_eq_none (Nat.le_of_not_lt h)]
  rw [e1, e2, e3]; simp
def bytV (c : Int32) : Value := .int c.toInt8.toInt32
theorem tk_succ {α : Type} (cs : List Int32) (f : Int32 → α) (i : Nat) (h : i < cs.length) : (cs.take (i + 1)).map f = (cs.take i).map f ++ [f (cs.getD i 0)] := by
  rw [List.take_add_one, List.map_append]; simp [h]
theorem set_app (l : List Value) (d x : Value) (i : Nat) (h : l.length = i) : (l ++ [d]).set i x = l ++ [x] := by subst h; simp
theorem getD_mem (cs : List Int32) (i : Nat) (h : i < cs.length) : cs.getD i 0 ∈ cs := by simp [h]
theorem getD_map (cs : List Int32) (i : Nat) (h : i < cs.length) : (cs.map Value.int).getD i (.int 0) = .int (cs.getD i 0) := by simp [h]
theorem getD_mapB (cs : List Int32) (i : Nat) (h : i < cs.length) : (cs.map bytV).getD i (.int 0) = bytV (cs.getD i 0) := by simp [h]
theorem cod0 (x : Int32) : XT.ushr (x - x) 31 = 0 := by
  have e : x - x = 0 := by simp
  rw [e]; decide
/-- a Latin-1 String: the object a, its array b, its bytes -/
def Str (Z : State) (h : Heap) (a b : Addr) (bs : List Value) : Prop := Exa Z h a "java/lang/String" ∧ Fld Z h a "java/lang/String" "coder" "B" (.int 0) ∧ Fld Z h a "java/lang/String" "value" "[B" (.ref b) ∧ ∃ k, Arv Z h b k .byte (Int32.ofNat bs.length) bs (.int 0)
theorem Str.ext {Z : State} {h h' : Heap} {a b : Addr} {bs : List Value} (F : Str Z h a b bs) (E : Ext h h') : Str Z h' a b bs := by obtain ⟨h1, h2, h3, k, h4⟩ := F; exact ⟨h1.ext E, h2.ext E, h3.ext E, k, h4.ext E⟩
theorem Str.keep {Z : State} {h h' : Heap} {a b : Addr} {bs : List Value} {ws : List Addr} (F : Str Z h a b bs) (K : Keep h h' ws) (q : a ∉ ws) (r : b ∉ ws) : Str Z h' a b bs := by obtain ⟨h1, h2, h3, k, h4⟩ := F; exact ⟨h1.keep K, h2.keep K q, h3.keep K q, k, h4.keep K r⟩
/-- a StringBuilder: the object a, its array b of cap bytes, its bytes so far -/
def Sbd (Z : State) (h : Heap) (a b : Addr) (cap : Nat) (bs : List Value) : Prop := Exa Z h a "java/lang/StringBuilder" ∧ Fld Z h a "java/lang/AbstractStringBuilder" "value" "[B" (.ref b) ∧ Fld Z h a "java/lang/AbstractStringBuilder" "coder" "B" (.int 0) ∧ Fld Z h a "java/lang/AbstractStringBuilder" "count" "I" (.int (Int32.ofNat bs.length)) ∧ ∃ k, Arv Z h b k .byte (Int32.ofNat cap) bs (.int 0)
theorem Sbd.ext {Z : State} {h h' : Heap} {a b : Addr} {cap : Nat} {bs : List Value} (F : Sbd Z h a b cap bs) (E : Ext h h') : Sbd Z h' a b cap bs := by obtain ⟨h1, h2, h3, h4, k, h5⟩ := F; exact ⟨h1.ext E, h2.ext E, h3.ext E, h4.ext E, k, h5.ext E⟩
theorem Sbd.keep {Z : State} {h h' : Heap} {a b : Addr} {cap : Nat} {bs : List Value} {ws : List Addr} (F : Sbd Z h a b cap bs) (K : Keep h h' ws) (q : a ∉ ws) (r : b ∉ ws) : Sbd Z h' a b cap bs := by obtain ⟨h1, h2, h3, h4, k, h5⟩ := F; exact ⟨h1.keep K, h2.keep K q, h3.keep K q, h4.keep K q, k, h5.keep K r⟩
theorem Str.lt {Z : State} {h : Heap} {a b : Addr} {bs : List Value} (F : Str Z h a b bs) : a < h.size := F.1.lt
theorem Str.ltb {Z : State} {h : Heap} {a b : Addr} {bs : List Value} (F : Str Z h a b bs) : b < h.size := by obtain ⟨-, -, -, k, h4⟩ := F; exact h4.lt
theorem Sbd.lt {Z : State} {h : Heap} {a b : Addr} {cap : Nat} {bs : List Value} (F : Sbd Z h a b cap bs) : a < h.size := F.1.lt
theorem Sbd.ltb {Z : State} {h : Heap} {a b : Addr} {cap : Nat} {bs : List Value} (F : Sbd Z h a b cap bs) : b < h.size := by obtain ⟨-, -, -, -, k, h4⟩ := F; exact h4.lt
def dOnes : List Value := (List.range 100).map fun j => .int (Int32.ofNat (48 + j % 10))
def dTens : List Value := (List.range 100).map fun j => .int (Int32.ofNat (48 + j / 10))
theorem dOnes_at {r : Nat} (h : r < 100) : dOnes.getD r (.int 0) = .int (Int32.ofNat (48 + r % 10)) := by simp [dOnes, h]
theorem dTens_at {r : Nat} (h : r < 100) : dTens.getD r (.int 0) = .int (Int32.ofNat (48 + r / 10)) := by simp [dTens, h]
def dg (N k : Nat) : Value := .int (Int32.ofNat (48 + N / 10 ^ k % 10))
theorem dig_b {e : Nat} (h : e < 10) : (Int32.ofNat (48 + e)).toInt8.toInt32 = Int32.ofNat (48 + e) := by
  have : e = 0 ∨ e = 1 ∨ e = 2 ∨ e = 3 ∨ e = 4 ∨ e = 5 ∨ e = 6 ∨ e = 7 ∨ e = 8 ∨ e = 9 := by omega
  rcases this with rfl | rfl | rfl | rfl | rfl | rfl | rfl | rfl | rfl | rfl <;> decide
theorem ofn_pred (k : Nat) : Int32.ofNat (k + 1) + Int32.ofInt (-1) = Int32.ofNat k := by
  rw [Int32.ofNat_add]; show Int32.ofNat k + 1 + -1 = _; rw [Int32.add_assoc]; simp
theorem set_app2 (bs Ld : List Value) (j n : Nat) (x : Value) (h : n = bs.length + j) : (bs ++ Ld).set n x = bs ++ Ld.set j x := by subst h; simp [List.set_append]
theorem ng_int {M : Nat} (h : M < 2147483648) : (-(Int32.ofNat M)).toInt = -(M : Int) := by
  have e := c_ineg (Int32.ofNat M); have r := rng32 (-(Int32.ofNat M)); rw [ofn_int h] at e; omega
theorem ng_div {M : Nat} (h : M < 2147483648) : -(Int32.ofNat M) / 100 = -(Int32.ofNat (M / 100)) := by
  apply Int32.toInt_inj.mp
  have e := c_idiv (-(Int32.ofNat M)) 100 100 rfl (by decide)
  rw [ng_int h] at e
  rw [ng_int (by omega)]
  by_cases h0 : M = 0
  · subst h0; have := e.1 (by decide); rw [this]; decide
  · rw [e.2 (by omega)]; omega
theorem ng_rem {M : Nat} (h : M < 2147483648) : -(Int32.ofNat (M / 100)) * 100 - -(Int32.ofNat M) = Int32.ofNat (M % 100) := by
  apply Int32.toInt_inj.mp
  have e1 := c_imul (-(Int32.ofNat (M / 100))) 100
  have e2 := c_isub (-(Int32.ofNat (M / 100)) * 100) (-(Int32.ofNat M))
  have r1 := rng32 (-(Int32.ofNat (M / 100)) * 100); have r2 := rng32 (-(Int32.ofNat (M / 100)) * 100 - -(Int32.ofNat M))
  rw [ng_int (by omega), show (100 : Int32).toInt = 100 from rfl] at e1
  rw [ng_int h] at e2
  rw [ofn_int (by omega)]; omega
theorem ng_lt {M : Nat} {k : Int32} {K : Int} (h : M < 2147483648) (hk : k.toInt = K) (q : -(M : Int) < K) : -(Int32.ofNat M) < k := by rw [Int32.lt_iff_toInt_lt, ng_int h, hk]; exact q
theorem ng_nlt {M : Nat} {k : Int32} {K : Int} (h : M < 2147483648) (hk : k.toInt = K) (q : K ≤ -(M : Int)) : ¬ -(Int32.ofNat M) < k := by rw [Int32.lt_iff_toInt_lt, ng_int h, hk]; omega
theorem ng_gt {M : Nat} {k : Int32} {K : Int} (h : M < 2147483648) (hk : k.toInt = K) (q : K < -(M : Int)) : k < -(Int32.ofNat M) := by rw [Int32.lt_iff_toInt_lt, ng_int h, hk]; exact q
theorem ng_ngt {M : Nat} {k : Int32} {K : Int} (h : M < 2147483648) (hk : k.toInt = K) (q : -(M : Int) ≤ K) : ¬ k < -(Int32.ofNat M) := by rw [Int32.lt_iff_toInt_lt, ng_int h, hk]; omega
def nd (N : Nat) : Nat := if N < 10 then 1 else if N < 100 then 2 else if N < 1000 then 3 else if N < 10000 then 4 else if N < 100000 then 5 else if N < 1000000 then 6 else if N < 10000000 then 7 else if N < 100000000 then 8 else if N < 1000000000 then 9 else 10
def digs (N : Nat) : List Value := (List.range (nd N)).map fun j => dg N (nd N - 1 - j)
theorem nd_cases {N : Nat} (h : N < 2147483648) : (0 ≤ N ∧ N < 10) ∨ (10 ≤ N ∧ N < 100) ∨ (100 ≤ N ∧ N < 1000) ∨ (1000 ≤ N ∧ N < 10000) ∨ (10000 ≤ N ∧ N < 100000) ∨ (100000 ≤ N ∧ N < 1000000) ∨ (1000000 ≤ N ∧ N < 10000000) ∨ (10000000 ≤ N ∧ N < 100000000) ∨ (100000000 ≤ N ∧ N < 1000000000) ∨ (1000000000 ≤ N ∧ N < 2147483648) := by omega
theorem digs_len (N : Nat) : (digs N).length = nd N := by simp [digs]
theorem digs_at {N k : Nat} (h : k < nd N) : (digs N).getD k (.int 0) = dg N (nd N - 1 - k) := by simp [digs, h]
theorem nd_1 {N : Nat} (hlo : 0 ≤ N) (hhi : N < 10) : nd N = 1 := by unfold nd;  rw [if_pos (by omega)]
theorem digs_1 {N : Nat} (hlo : 0 ≤ N) (hhi : N < 10) : digs N = [dg N 0] := by unfold digs; rw [nd_1 hlo hhi]; rfl
theorem nd_2 {N : Nat} (hlo : 10 ≤ N) (hhi : N < 100) : nd N = 2 := by unfold nd; rw [if_neg (by omega)]; rw [if_pos (by omega)]
theorem digs_2 {N : Nat} (hlo : 10 ≤ N) (hhi : N < 100) : digs N = [dg N 1, dg N 0] := by unfold digs; rw [nd_2 hlo hhi]; rfl
theorem nd_3 {N : Nat} (hlo : 100 ≤ N) (hhi : N < 1000) : nd N = 3 := by unfold nd; rw [if_neg (by omega)]; rw [if_neg (by omega)]; rw [if_pos (by omega)]
theorem digs_3 {N : Nat} (hlo : 100 ≤ N) (hhi : N < 1000) : digs N = [dg N 2, dg N 1, dg N 0] := by unfold digs; rw [nd_3 hlo hhi]; rfl
theorem nd_4 {N : Nat} (hlo : 1000 ≤ N) (hhi : N < 10000) : nd N = 4 := by unfold nd; rw [if_neg (by omega)]; rw [if_neg (by omega)]; rw [if_neg (by omega)]; rw [if_pos (by omega)]
theorem digs_4 {N : Nat} (hlo : 1000 ≤ N) (hhi : N < 10000) : digs N = [dg N 3, dg N 2, dg N 1, dg N 0] := by unfold digs; rw [nd_4 hlo hhi]; rfl
theorem nd_5 {N : Nat} (hlo : 10000 ≤ N) (hhi : N < 100000) : nd N = 5 := by unfold nd; rw [if_neg (by omega)]; rw [if_neg (by omega)]; rw [if_neg (by omega)]; rw [if_neg (by omega)]; rw [if_pos (by omega)]
theorem digs_5 {N : Nat} (hlo : 10000 ≤ N) (hhi : N < 100000) : digs N = [dg N 4, dg N 3, dg N 2, dg N 1, dg N 0] := by unfold digs; rw [nd_5 hlo hhi]; rfl
theorem nd_6 {N : Nat} (hlo : 100000 ≤ N) (hhi : N < 1000000) : nd N = 6 := by unfold nd; rw [if_neg (by omega)]; rw [if_neg (by omega)]; rw [if_neg (by omega)]; rw [if_neg (by omega)]; rw [if_neg (by omega)]; rw [if_pos (by omega)]
theorem digs_6 {N : Nat} (hlo : 100000 ≤ N) (hhi : N < 1000000) : digs N = [dg N 5, dg N 4, dg N 3, dg N 2, dg N 1, dg N 0] := by unfold digs; rw [nd_6 hlo hhi]; rfl
theorem nd_7 {N : Nat} (hlo : 1000000 ≤ N) (hhi : N < 10000000) : nd N = 7 := by unfold nd; rw [if_neg (by omega)]; rw [if_neg (by omega)]; rw [if_neg (by omega)]; rw [if_neg (by omega)]; rw [if_neg (by omega)]; rw [if_neg (by omega)]; rw [if_pos (by omega)]
theorem digs_7 {N : Nat} (hlo : 1000000 ≤ N) (hhi : N < 10000000) : digs N = [dg N 6, dg N 5, dg N 4, dg N 3, dg N 2, dg N 1, dg N 0] := by unfold digs; rw [nd_7 hlo hhi]; rfl
theorem nd_8 {N : Nat} (hlo : 10000000 ≤ N) (hhi : N < 100000000) : nd N = 8 := by unfold nd; rw [if_neg (by omega)]; rw [if_neg (by omega)]; rw [if_neg (by omega)]; rw [if_neg (by omega)]; rw [if_neg (by omega)]; rw [if_neg (by omega)]; rw [if_neg (by omega)]; rw [if_pos (by omega)]
theorem digs_8 {N : Nat} (hlo : 10000000 ≤ N) (hhi : N < 100000000) : digs N = [dg N 7, dg N 6, dg N 5, dg N 4, dg N 3, dg N 2, dg N 1, dg N 0] := by unfold digs; rw [nd_8 hlo hhi]; rfl
theorem nd_9 {N : Nat} (hlo : 100000000 ≤ N) (hhi : N < 1000000000) : nd N = 9 := by unfold nd; rw [if_neg (by omega)]; rw [if_neg (by omega)]; rw [if_neg (by omega)]; rw [if_neg (by omega)]; rw [if_neg (by omega)]; rw [if_neg (by omega)]; rw [if_neg (by omega)]; rw [if_neg (by omega)]; rw [if_pos (by omega)]
theorem digs_9 {N : Nat} (hlo : 100000000 ≤ N) (hhi : N < 1000000000) : digs N = [dg N 8, dg N 7, dg N 6, dg N 5, dg N 4, dg N 3, dg N 2, dg N 1, dg N 0] := by unfold digs; rw [nd_9 hlo hhi]; rfl
theorem nd_10 {N : Nat} (hlo : 1000000000 ≤ N) (hhi : N < 2147483648) : nd N = 10 := by unfold nd; rw [if_neg (by omega)]; rw [if_neg (by omega)]; rw [if_neg (by omega)]; rw [if_neg (by omega)]; rw [if_neg (by omega)]; rw [if_neg (by omega)]; rw [if_neg (by omega)]; rw [if_neg (by omega)]; rw [if_neg (by omega)];
theorem digs_10 {N : Nat} (hlo : 1000000000 ≤ N) (hhi : N < 2147483648) : digs N = [dg N 9, dg N 8, dg N 7, dg N 6, dg N 5, dg N 4, dg N 3, dg N 2, dg N 1, dg N 0] := by unfold digs; rw [nd_10 hlo hhi]; rfl
theorem nd_le {N : Nat} (h : N < 2147483648) : 1 ≤ nd N ∧ nd N ≤ 10 := by
  rcases nd_cases h with ⟨q1, q2⟩ | ⟨q1, q2⟩ | ⟨q1, q2⟩ | ⟨q1, q2⟩ | ⟨q1, q2⟩ | ⟨q1, q2⟩ | ⟨q1, q2⟩ | ⟨q1, q2⟩ | ⟨q1, q2⟩ | ⟨q1, q2⟩
  · rw [nd_1 q1 q2]; exact ⟨by decide, by decide⟩
  · rw [nd_2 q1 q2]; exact ⟨by decide, by decide⟩
  · rw [nd_3 q1 q2]; exact ⟨by decide, by decide⟩
  · rw [nd_4 q1 q2]; exact ⟨by decide, by decide⟩
  · rw [nd_5 q1 q2]; exact ⟨by decide, by decide⟩
  · rw [nd_6 q1 q2]; exact ⟨by decide, by decide⟩
  · rw [nd_7 q1 q2]; exact ⟨by decide, by decide⟩
  · rw [nd_8 q1 q2]; exact ⟨by decide, by decide⟩
  · rw [nd_9 q1 q2]; exact ⟨by decide, by decide⟩
  · rw [nd_10 q1 q2]; exact ⟨by decide, by decide⟩
theorem m8 (x : Int32) : ∃ c, c < 256 ∧ x &&& 255 = Int32.ofNat c := by
  have e := c_mask x 255 8 (by decide) rfl
  rw [show ((2 ^ 8 : Nat) : Int) = 256 from rfl] at e
  refine ⟨(x.toInt % 256).toNat, by omega, ?_⟩
  apply Int32.toInt_inj.mp; rw [e, ofn_int (by omega)]; omega
theorem m2 (x : Int32) : ∃ c, c < 4 ∧ x &&& 3 = Int32.ofNat c := by
  have e := c_mask x 3 2 (by decide) rfl
  rw [show ((2 ^ 2 : Nat) : Int) = 4 from rfl] at e
  refine ⟨(x.toInt % 4).toNat, by omega, ?_⟩
  apply Int32.toInt_inj.mp; rw [e, ofn_int (by omega)]; omega
theorem m31 (x : Int32) : ∃ c, c < 2147483648 ∧ x &&& 2147483647 = Int32.ofNat c := by
  have e := c_mask x 2147483647 31 (by decide) rfl
  rw [show ((2 ^ 31 : Nat) : Int) = 2147483648 from rfl] at e
  refine ⟨(x.toInt % 2147483648).toNat, by omega, ?_⟩
  apply Int32.toInt_inj.mp; rw [e, ofn_int (by omega)]; omega
theorem i2c_n0 : ∀ t : Fin 256, (Int32.ofNat t.1).toUInt32.toUInt16.toUInt32.toInt32 = Int32.ofNat t.1 ∧ (Int32.ofNat t.1).toInt8.toInt32 &&& 255 = Int32.ofNat t.1 ∧ ¬ (255 : Int32) < Int32.ofNat t.1 ∧ Int32.ofNat t.1 &&& 255 = Int32.ofNat t.1 ∧ fits .char (.int (Int32.ofNat t.1)) = true := by decide +kernel
theorem i2c_n {c : Nat} (h : c < 256) : (Int32.ofNat c).toUInt32.toUInt16.toUInt32.toInt32 = Int32.ofNat c := (i2c_n0 ⟨c, h⟩).1
theorem bm {c : Nat} (h : c < 256) : (Int32.ofNat c).toInt8.toInt32 &&& 255 = Int32.ofNat c := (i2c_n0 ⟨c, h⟩).2.1
theorem c255 {c : Nat} (h : c < 256) : ¬ (255 : Int32) < Int32.ofNat c := (i2c_n0 ⟨c, h⟩).2.2.1
theorem m255 {c : Nat} (h : c < 256) : Int32.ofNat c &&& 255 = Int32.ofNat c := (i2c_n0 ⟨c, h⟩).2.2.2.1
theorem fit255 {c : Nat} (h : c < 256) : fits .char (.int (Int32.ofNat c)) = true := (i2c_n0 ⟨c, h⟩).2.2.2.2
theorem ofn_div {N P : Nat} (hN : N < 2147483648) (h0 : 0 < P) (hP : P < 2147483648) : Int32.ofNat N / Int32.ofNat P = Int32.ofNat (N / P) := by
  apply Int32.toInt_inj.mp
  have e := c_idiv (Int32.ofNat N) (Int32.ofNat P) P (ofn_int hP) (fun q => by have := congrArg Int32.toInt q; rw [ofn_int hP, show (-1 : Int32).toInt = -1 from rfl] at this; omega)
  rw [ofn_int hN] at e
  have hd : N / P ≤ N := Nat.div_le_self _ _
  rw [ofn_int (by omega), e.1 (by omega)]; rfl
theorem ofn_rem10 {M : Nat} (hM : M < 2147483648) : Int32.ofNat M - Int32.ofNat M / 10 * 10 = Int32.ofNat (M % 10) := by
  have e := ofn_div hM (P := 10) (by decide) (by decide)
  rw [show Int32.ofNat 10 = (10 : Int32) from rfl] at e
  rw [e, show (10 : Int32) = Int32.ofNat 10 from rfl, ← Int32.ofNat_mul, ofn_sub (by omega) hM]
  congr 1; omega
theorem wS_of {Z : State} {a0 : Array Value} (hw : ∀ d ∈ tables_1, d.before a0 Z = true) : ∀ a ∈ Bundle.stringAtoms, a.before a0 Z = true := by
  intro a ha
  simp only [Bundle.stringAtoms, Bundle.sN, List.mem_cons, List.not_mem_nil, or_false] at ha
  rcases ha with rfl | rfl | rfl | rfl | rfl | rfl | rfl
  · exact (hw _ (mm 3 rfl))
  · exact (hw _ (mm 2 rfl))
  · exact (hw _ (mm 20 rfl))
  · exact (hw _ (mm 30 rfl))
  · exact (hw _ (mm 28 rfl))
  · exact (hw _ (mm 114 rfl))
  · exact (hw _ (mm 115 rfl))
theorem ne_or {x b b' : Addr} {n : Nat} (h : x ≠ b) (lt : x < n) (q : b' = b ∨ n ≤ b') : x ≠ b' := q.elim (fun e => e ▸ h) (fun r => Nat.ne_of_lt (Nat.lt_of_lt_of_le lt r))
theorem cpg (bs : List Value) (cap : Nat) (d : Value) (h : bs.length ≤ cap) : ∀ i, bs.getD i d = ((List.replicate cap d).take 0 ++ ((List.range cap).map fun i => bs.getD (0 + i) d) ++ (List.replicate cap d).drop (0 + cap)).getD i d := fun i => by
  have e1 : (List.replicate cap d).drop (0 + cap) = [] := List.drop_eq_nil_of_le (by simp)
  rw [e1, List.append_nil, List.take_zero, List.nil_append]
  simp only [List.getD_eq_getElem?_getD, List.getElem?_map, List.getElem?_range, Nat.zero_add]
  by_cases q : i < cap
  · simp [q]
  · simp [q, List.getElem?_eq_none (show bs.length ≤ i by omega)]
def GC (c mc c' : Nat) : Prop := (c' = c ∧ mc ≤ c) ∨ (c < mc ∧ c' = c + max (mc - c) (c + 2))
def gcap (cap mc : Nat) : Nat := cap + max (mc - cap) (cap + 2)
theorem gcap_b {cap mc : Nat} (h : cap < mc) (hm : mc ≤ 62) : mc ≤ gcap cap mc ∧ cap < gcap cap mc ∧ gcap cap mc ≤ 126 := by unfold gcap; omega
theorem put_app (es : List Int32) (x : Int32) : (es.map Value.int ++ [Value.int 0]).set es.length (.int x) = (es ++ [x]).map Value.int := by
  rw [set_app _ _ _ _ (by simp)]; simp
theorem pad_lt {es : List Int32} {k : Nat} (h : es.length = k) : k < (es.map Value.int ++ [Value.int 0]).length := by simp [h]
theorem ca_pad {Z : State} {h : Heap} {ea : Addr} {ke : ClassId} {n : Nat} {es : List Int32} (A : Arv Z h ea ke .char (Int32.ofNat n) (es.map Value.int) (.int 0)) : Arv Z h ea ke .char (Int32.ofNat n) (es.map Value.int ++ [Value.int 0]) (.int 0) := A.pad (pad_rep _ (.int 0) 1)
theorem ca_put {Z : State} {h : Heap} {ea : Addr} {ke : ClassId} {n k : Nat} {es : List Int32} {x : Int32} (l : es.length = k) (A : Arv Z h ea ke .char (Int32.ofNat n) ((es.map Value.int ++ [Value.int 0]).set k (.int (nar .char x))) (.int 0)) (e : nar .char x = x) : ∃ es', es' = es ++ [x] ∧ es'.length = k + 1 ∧ Arv Z h ea ke .char (Int32.ofNat n) (es'.map Value.int) (.int 0) := by
  subst l; rw [e, put_app] at A; exact ⟨_, rfl, by simp, A⟩
theorem ofn_rem3 {M : Nat} (hM : M < 2147483648) : Int32.ofNat M - Int32.ofNat M / 3 * 3 = Int32.ofNat (M % 3) := by
  have e := ofn_div hM (P := 3) (by decide) (by decide)
  rw [show Int32.ofNat 3 = (3 : Int32) from rfl] at e
  rw [e, show (3 : Int32) = Int32.ofNat 3 from rfl, ← Int32.ofNat_mul, ofn_sub (by omega) hM]
  congr 1; omega
def LH : List Int32 := [32, 114, 101, 97, 108, 109, 61, 34, 111, 97, 116, 104, 45, 98, 101, 97, 114, 101, 114, 34]
theorem LH_b : LH.map bytV = [Value.int (32 : Int32), Value.int (114 : Int32), Value.int (101 : Int32), Value.int (97 : Int32), Value.int (108 : Int32), Value.int (109 : Int32), Value.int (61 : Int32), Value.int (34 : Int32)] ++ [Value.int (111 : Int32), Value.int (97 : Int32), Value.int (116 : Int32), Value.int (104 : Int32), Value.int (45 : Int32), Value.int (98 : Int32), Value.int (101 : Int32), Value.int (97 : Int32), Value.int (114 : Int32), Value.int (101 : Int32), Value.int (114 : Int32)] ++ [bytV 34] := by decide +kernel
theorem LH_c : ∀ x ∈ LH, ¬ (255 : Int32) < x := by decide +kernel
theorem mem_app {A B : List Int32} {P : Int32 → Prop} (h1 : ∀ x ∈ A, P x) (h2 : ∀ x ∈ B, P x) : ∀ x ∈ A ++ B, P x := fun x hx => (List.mem_append.mp hx).elim (h1 x) (h2 x)
theorem c255s {xs : List Nat} (h : ∀ x ∈ xs, x < 256) : ∀ x ∈ xs.map Int32.ofNat, ¬ (255 : Int32) < x := fun x hx => by obtain ⟨y, hy, rfl⟩ := List.mem_map.mp hx; exact c255 (h y hy)
theorem sep_b : ([44, 32] : List Int32).map bytV = [Value.int (44 : Int32), Value.int (32 : Int32)] := by decide +kernel
theorem pn_java_lang_String : plainName "java/lang/String" = true := by first | (simp [plainName, overriddenIn]; done) | decide +kernel
theorem pd___B : parseMethodDescriptor "()B" = some ⟨[], some .byte⟩ := by decide +kernel
theorem pn_java_lang_AbstractStringBuilder : plainName "java/lang/AbstractStringBuilder" = true := by first | (simp [plainName, overriddenIn]; done) | decide +kernel
theorem pd__Ljava_lang_String__V : parseMethodDescriptor "(Ljava/lang/String;)V" = some ⟨[(.object "java/lang/String")], none⟩ := by decide +kernel
theorem pd___BIB_V : parseMethodDescriptor "([BIB)V" = some ⟨[(.array .byte), .int, .byte], none⟩ := by decide +kernel
theorem pn_java_util_Arrays : plainName "java/util/Arrays" = true := by first | (simp [plainName, overriddenIn]; done) | decide +kernel
theorem pd__II_V : parseMethodDescriptor "(II)V" = some ⟨[.int, .int], none⟩ := by decide +kernel
theorem pd__II_I : parseMethodDescriptor "(II)I" = some ⟨[.int, .int], some .int⟩ := by decide +kernel
theorem pd___BII__B : parseMethodDescriptor "([BII)[B" = some ⟨[(.array .byte), .int, .int], some (.array .byte)⟩ := by decide +kernel
theorem pd___I : parseMethodDescriptor "()I" = some ⟨[], some .int⟩ := by decide +kernel
theorem pn_java_lang_StringBuilder : plainName "java/lang/StringBuilder" = true := by first | (simp [plainName, overriddenIn]; done) | decide +kernel
theorem pd____B : parseMethodDescriptor "()[B" = some ⟨[], some (.array .byte)⟩ := by decide +kernel
theorem pd___Z : parseMethodDescriptor "()Z" = some ⟨[], some .boolean⟩ := by decide +kernel
theorem pd__Ljava_lang_AbstractStringBuilder_Ljava_lang_Void__V : parseMethodDescriptor "(Ljava/lang/AbstractStringBuilder;Ljava/lang/Void;)V" = some ⟨[(.object "java/lang/AbstractStringBuilder"), (.object "java/lang/Void")], none⟩ := by decide +kernel
theorem pd__Ljava_lang_StringBuilder__V : parseMethodDescriptor "(Ljava/lang/StringBuilder;)V" = some ⟨[(.object "java/lang/StringBuilder")], none⟩ := by decide +kernel
theorem pn_java_lang_StringUTF16 : plainName "java/lang/StringUTF16" = true := by first | (simp [plainName, overriddenIn]; done) | decide +kernel
theorem pd___CI_BII_I : parseMethodDescriptor "([CI[BII)I" = some ⟨[(.array .char), .int, (.array .byte), .int, .int], some .int⟩ := by decide +kernel
theorem pd___CII__B : parseMethodDescriptor "([CII)[B" = some ⟨[(.array .char), .int, .int], some (.array .byte)⟩ := by decide +kernel
theorem pd___BI_B : parseMethodDescriptor "([BI)B" = some ⟨[(.array .byte), .int], some .byte⟩ := by decide +kernel
theorem pd___CIILjava_lang_Void__V : parseMethodDescriptor "([CIILjava/lang/Void;)V" = some ⟨[(.array .char), .int, .int, (.object "java/lang/Void")], none⟩ := by decide +kernel
theorem pn_jdk_internal_util_ArraysSupport : plainName "jdk/internal/util/ArraysSupport" = true := by first | (simp [plainName, overriddenIn]; done) | decide +kernel
theorem pd__III_I : parseMethodDescriptor "(III)I" = some ⟨[.int, .int, .int], some .int⟩ := by decide +kernel
theorem pd__I_I : parseMethodDescriptor "(I)I" = some ⟨[.int], some .int⟩ := by decide +kernel
theorem pd___BI__B : parseMethodDescriptor "([BI)[B" = some ⟨[(.array .byte), .int], some (.array .byte)⟩ := by decide +kernel
theorem pd__I_V : parseMethodDescriptor "(I)V" = some ⟨[.int], none⟩ := by decide +kernel
theorem pd__ILjava_lang_String__V : parseMethodDescriptor "(ILjava/lang/String;)V" = some ⟨[.int, (.object "java/lang/String")], none⟩ := by decide +kernel
theorem pd__Ljava_lang_String__Ljava_lang_AbstractStringBuilder_ : parseMethodDescriptor "(Ljava/lang/String;)Ljava/lang/AbstractStringBuilder;" = some ⟨[(.object "java/lang/String")], some (.object "java/lang/AbstractStringBuilder")⟩ := by decide +kernel
theorem pn_java_lang_StringLatin1 : plainName "java/lang/StringLatin1" = true := by first | (simp [plainName, overriddenIn]; done) | decide +kernel
theorem pd___B_B_Z : parseMethodDescriptor "([B[B)Z" = some ⟨[(.array .byte), (.array .byte)], some .boolean⟩ := by decide +kernel
theorem pd__Ljava_lang_String__Ljava_lang_StringBuilder_ : parseMethodDescriptor "(Ljava/lang/String;)Ljava/lang/StringBuilder;" = some ⟨[(.object "java/lang/String")], some (.object "java/lang/StringBuilder")⟩ := by decide +kernel
theorem pd__C_Z : parseMethodDescriptor "(C)Z" = some ⟨[.char], some .boolean⟩ := by decide +kernel
theorem pd__C_Ljava_lang_AbstractStringBuilder_ : parseMethodDescriptor "(C)Ljava/lang/AbstractStringBuilder;" = some ⟨[.char], some (.object "java/lang/AbstractStringBuilder")⟩ := by decide +kernel
theorem pn_com_example_oath_bearer_oathbearer_web_AuthorizationHeaderChallengePinLaw : plainName "com/example/oath_bearer/oathbearer/web/AuthorizationHeaderChallengePinLaw" = true := by first | (simp [plainName, overriddenIn]; done) | decide +kernel
theorem pd__C_Ljava_lang_StringBuilder_ : parseMethodDescriptor "(C)Ljava/lang/StringBuilder;" = some ⟨[.char], some (.object "java/lang/StringBuilder")⟩ := by decide +kernel
theorem pd___Ljava_lang_String_ : parseMethodDescriptor "()Ljava/lang/String;" = some ⟨[], some (.object "java/lang/String")⟩ := by decide +kernel
theorem pn_com_example_oath_bearer_oathbearer_web_AuthorizationHeader : plainName "com/example/oath_bearer/oathbearer/web/AuthorizationHeader" = true := by first | (simp [plainName, overriddenIn]; done) | decide +kernel
theorem pd___C_V : parseMethodDescriptor "([C)V" = some ⟨[(.array .char)], none⟩ := by decide +kernel
theorem pd___CCC_V : parseMethodDescriptor "([CCC)V" = some ⟨[(.array .char), .char, .char], none⟩ := by decide +kernel
theorem pd___CICC_V : parseMethodDescriptor "([CICC)V" = some ⟨[(.array .char), .int, .char, .char], none⟩ := by decide +kernel
theorem pd__Ljava_lang_String__Ljava_lang_String__Ljava_lang_String_ : parseMethodDescriptor "(Ljava/lang/String;[Ljava/lang/String;)Ljava/lang/String;" = some ⟨[(.object "java/lang/String"), (.array (.object "java/lang/String"))], some (.object "java/lang/String")⟩ := by decide +kernel
theorem pd__Ljava_lang_Object__Z : parseMethodDescriptor "(Ljava/lang/Object;)Z" = some ⟨[(.object "java/lang/Object")], some .boolean⟩ := by decide +kernel
theorem d13_0 : decode jdk_42_method_152_code 0 = .ok (.getstatic 38, 3) := by decide +kernel
theorem d13_3 : decode jdk_42_method_152_code 3 = .ok (.ifCond .eq 10, 3) := by decide +kernel
theorem d13_6 : decode jdk_42_method_152_code 6 = .ok (.aload_n 0, 1) := by decide +kernel
theorem d13_7 : decode jdk_42_method_152_code 7 = .ok (.getfield 15, 3) := by decide +kernel
theorem d13_10 : decode jdk_42_method_152_code 10 = .ok (.goto 4, 3) := by decide +kernel
theorem d13_13 : decode jdk_42_method_152_code 13 = .ok (.iconst 1, 1) := by decide +kernel
theorem d13_14 : decode jdk_42_method_152_code 14 = .ok (.ireturn, 1) := by decide +kernel
theorem c_coder (l : Launch) (Z : State) (a0 : Array Value) (hw : ∀ d ∈ tables_1, d.before a0 Z = true) (hEW : EW Z a0 consts_1) (n0 : Nat) (c1 : Int32) (hc1 : ¬ c1 = 0) (S1 : Sta Z Z.heap "java/lang/String" "COMPACT_STRINGS" "Z" (.int c1)) (a : Addr) {h0 : Heap} (o1 : Old Z n0 h0) (Fc : Fld Z h0 a "java/lang/String" "coder" "B" (.int 0)) :
    Con Z a0 l (⟨"java/lang/String", "coder", "()B"⟩ : MethodName) jdk_42_method_152_code 1 (some .byte) ({ frames := 0, cells := 0, slots := 0, locals := 0 } : Room) [] #[(.ref a)] consts_1 h0 n0 [] [] (VV fun w h so => w = .int 0 ∧ h = h0 ∧ so = []) := by
  refine Con.body (plainFor_of_name pn_java_lang_String) hEW o1 all0 #[.val (.ref a)] (fun m => by first | (simp [entryFrame, mkF, argsToLocals, Value.category]; done) | rfl) ?_
  intro p e s m below meth c B hnm hret hlk G
  replace G := G.gets 3 (host := "") (Or.inl (hw _ (mm 15 rfl))) Via.refl (G.sta S1) d13_0 rfl |>.ifF 6 d13_3 (XT.i0_eq_f hc1) rfl |>.aloadN 7 d13_6 rfl rfl rfl |>.getf 10 (host := "") (Or.inl (hw _ (mm 27 rfl))) Via.refl Fc d13_7 rfl |>.goto 14 d13_10 (by decide) (by decide)
  exact G.retN hret (Or.inr (Or.inl rfl)) hlk d13_14 [] all0 ⟨_, rfl, rfl, rfl, rfl⟩ (nle rfl) (nle rfl)
theorem d12_0 : decode jdk_42_method_54_code 0 = .ok (.aload_n 0, 1) := by decide +kernel
theorem d12_1 : decode jdk_42_method_54_code 1 = .ok (.getfield 9, 3) := by decide +kernel
theorem d12_4 : decode jdk_42_method_54_code 4 = .ok (.arraylength, 1) := by decide +kernel
theorem d12_5 : decode jdk_42_method_54_code 5 = .ok (.aload_n 0, 1) := by decide +kernel
theorem d12_6 : decode jdk_42_method_54_code 6 = .ok (.invokevirtual 335, 3) := by decide +kernel
theorem d12_9 : decode jdk_42_method_54_code 9 = .ok (.ishr, 1) := by decide +kernel
theorem d12_10 : decode jdk_42_method_54_code 10 = .ok (.ireturn, 1) := by decide +kernel
theorem c_length (l : Launch) (Z : State) (a0 : Array Value) (hw : ∀ d ∈ tables_1, d.before a0 Z = true) (hEW : EW Z a0 consts_1) (n0 : Nat) (c1 : Int32) (hc1 : ¬ c1 = 0) (S1 : Sta Z Z.heap "java/lang/String" "COMPACT_STRINGS" "Z" (.int c1)) (a b : Addr) (bs : List Value) {h0 : Heap} (o1 : Old Z n0 h0) (hS : Str Z h0 a b bs) :
    Con Z a0 l (⟨"java/lang/String", "length", "()I"⟩ : MethodName) jdk_42_method_54_code 1 (some .int) ({ frames := 1, cells := 0, slots := 0, locals := 13 } : Room) [] #[(.ref a)] consts_1 h0 n0 [] [] (VV fun w h so => w = .int (Int32.ofNat bs.length) ∧ h = h0 ∧ so = []) := by
  refine Con.body (plainFor_of_name pn_java_lang_String) hEW o1 all0 #[.val (.ref a)] (fun m => by first | (simp [entryFrame, mkF, argsToLocals, Value.category]; done) | rfl) ?_
  intro p e s m below meth c B hnm hret hlk G
  obtain ⟨Xa, Fc, Fv, kb, Ab⟩ := hS
  replace G := G.aloadN 1 d12_0 rfl rfl rfl |>.getf 4 (host := "") (Or.inl (hw _ (mm 29 rfl))) Via.refl Fv d12_1 rfl |>.alen 5 Ab d12_4 rfl |>.aloadN 6 d12_5 rfl rfl rfl
  obtain ⟨vc, h_c, soc, G', Kc, Qc⟩ := G.callV 9 (hw _ (mm 61 rfl)) (hw _ (mm 62 rfl)) (nfSel (hw _ (mm 64 rfl))) (hw _ (mm 64 rfl)) (hw _ (mm 63 rfl)) (hw _ (mm 3 rfl)) (hw _ (mm 65 rfl)) Xa (by decide) [] [(.int (Int32.ofNat bs.length))] rfl (c_coder l Z a0 hw hEW n0 c1 hc1 S1 a G.old Fc) (lenOf pd___B rfl) d12_6 rfl (nle rfl) (nle rfl) (nle rfl) (nle rfl) all0 all0 all0 rfl
  replace G := G'; clear G'
  obtain ⟨wc, qc, rfl, ec, rfl⟩ := Qc
  replace G := G.val qc
  subst ec
  replace G := G.ishr 10 d12_9 rfl |>.top (y := (.int (Int32.ofNat bs.length))) (congrArg Value.int (shr0 _))
  exact G.retI hret hlk d12_10 [] all0 ⟨_, rfl, rfl, rfl, rfl⟩ (nle rfl) (nle rfl)
theorem d19_0 : decode jdk_68_method_71_code 0 = .ok (.getstatic 18, 3) := by decide +kernel
theorem d19_3 : decode jdk_68_method_71_code 3 = .ok (.ifCond .eq 18, 3) := by decide +kernel
theorem d19_6 : decode jdk_68_method_71_code 6 = .ok (.aload_n 0, 1) := by decide +kernel
theorem d19_7 : decode jdk_68_method_71_code 7 = .ok (.getfield 22, 3) := by decide +kernel
theorem d19_10 : decode jdk_68_method_71_code 10 = .ok (.aload_n 1, 1) := by decide +kernel
theorem d19_11 : decode jdk_68_method_71_code 11 = .ok (.invokevirtual 40, 3) := by decide +kernel
theorem d19_14 : decode jdk_68_method_71_code 14 = .ok (.if_icmp .eq 7, 3) := by decide +kernel
theorem d19_17 : decode jdk_68_method_71_code 17 = .ok (.aload_n 0, 1) := by decide +kernel
theorem d19_18 : decode jdk_68_method_71_code 18 = .ok (.invokevirtual 195, 3) := by decide +kernel
theorem d19_21 : decode jdk_68_method_71_code 21 = .ok (.return_, 1) := by decide +kernel
theorem c_infl (l : Launch) (Z : State) (a0 : Array Value) (hw : ∀ d ∈ tables_1, d.before a0 Z = true) (hEW : EW Z a0 consts_1) (n0 : Nat) (c1 : Int32) (hc1 : ¬ c1 = 0) (S1 : Sta Z Z.heap "java/lang/String" "COMPACT_STRINGS" "Z" (.int c1)) (a b a2 b2 : Addr) (cap : Nat) (bs cs : List Value) {h0 : Heap} (o1 : Old Z n0 h0) (hS : Sbd Z h0 a b cap bs) (hT : Str Z h0 a2 b2 cs) :
    Con Z a0 l (⟨"java/lang/AbstractStringBuilder", "inflateIfNeededFor", "(Ljava/lang/String;)V"⟩ : MethodName) jdk_68_method_71_code 2 (none) ({ frames := 1, cells := 0, slots := 0, locals := 13 } : Room) [] #[(.ref a), (.ref a2)] consts_1 h0 n0 [] [] (V0 fun h so => h = h0 ∧ so = []) := by
  refine Con.body (plainFor_of_name pn_java_lang_AbstractStringBuilder) hEW o1 all0 #[.val (.ref a), .val (.ref a2)] (fun m => by first | (simp [entryFrame, mkF, argsToLocals, Value.category]; done) | rfl) ?_
  intro p e s m below meth c B hnm hret hlk G
  replace G := G.gets 3 (host := "") (Or.inl (hw _ (mm 103 rfl))) Via.refl (G.sta S1) d19_0 rfl |>.ifF 6 d19_3 (XT.i0_eq_f hc1) rfl |>.aloadN 7 d19_6 rfl rfl rfl |>.getf 10 (host := "") (Or.inl (hw _ (mm 68 rfl))) Via.refl hS.2.2.1 d19_7 rfl |>.aloadN 11 d19_10 rfl rfl rfl
  obtain ⟨vc, h_c, soc, G', Kc, Qc⟩ := G.callV 14 (hw _ (mm 67 rfl)) (hw _ (mm 62 rfl)) (nfSel (hw _ (mm 64 rfl))) (hw _ (mm 64 rfl)) (hw _ (mm 63 rfl)) (hw _ (mm 3 rfl)) (hw _ (mm 65 rfl)) hT.1 (by decide) [] [(.int (0 : Int32))] rfl (c_coder l Z a0 hw hEW n0 c1 hc1 S1 a2 G.old hT.2.1) (lenOf pd___B rfl) d19_11 rfl (nle rfl) (nle rfl) (nle rfl) (nle rfl) all0 all0 all0 rfl
  replace G := G'; clear G'
  obtain ⟨wc, qc, rfl, ec, rfl⟩ := Qc
  replace G := G.val qc
  subst ec
  replace G := G.icmpT 21 d19_14 (XT.ii_eq_t rfl) (by decide) (by decide)
  exact G.retV hret hlk d19_21 [] all0 ⟨rfl, rfl, rfl⟩ (nle rfl) (nle rfl)
theorem d20_0 : decode jdk_42_method_147_code 0 = .ok (.aload_n 0, 1) := by decide +kernel
theorem d20_1 : decode jdk_42_method_147_code 1 = .ok (.invokevirtual 335, 3) := by decide +kernel
theorem d20_4 : decode jdk_42_method_147_code 4 = .ok (.iload_n 3, 1) := by decide +kernel
theorem d20_5 : decode jdk_42_method_147_code 5 = .ok (.if_icmp .ne 23, 3) := by decide +kernel
theorem d20_8 : decode jdk_42_method_147_code 8 = .ok (.aload_n 0, 1) := by decide +kernel
theorem d20_9 : decode jdk_42_method_147_code 9 = .ok (.getfield 9, 3) := by decide +kernel
theorem d20_12 : decode jdk_42_method_147_code 12 = .ok (.iconst 0, 1) := by decide +kernel
theorem d20_13 : decode jdk_42_method_147_code 13 = .ok (.aload_n 1, 1) := by decide +kernel
theorem d20_14 : decode jdk_42_method_147_code 14 = .ok (.iload_n 2, 1) := by decide +kernel
theorem d20_15 : decode jdk_42_method_147_code 15 = .ok (.iload_n 3, 1) := by decide +kernel
theorem d20_16 : decode jdk_42_method_147_code 16 = .ok (.ishl, 1) := by decide +kernel
theorem d20_17 : decode jdk_42_method_147_code 17 = .ok (.aload_n 0, 1) := by decide +kernel
theorem d20_18 : decode jdk_42_method_147_code 18 = .ok (.getfield 9, 3) := by decide +kernel
theorem d20_21 : decode jdk_42_method_147_code 21 = .ok (.arraylength, 1) := by decide +kernel
theorem d20_22 : decode jdk_42_method_147_code 22 = .ok (.invokestatic 212, 3) := by decide +kernel
theorem d20_25 : decode jdk_42_method_147_code 25 = .ok (.goto 18, 3) := by decide +kernel
theorem d20_28 : decode jdk_42_method_147_code 28 = .ok (.aload_n 0, 1) := by decide +kernel
theorem d20_29 : decode jdk_42_method_147_code 29 = .ok (.getfield 9, 3) := by decide +kernel
theorem d20_32 : decode jdk_42_method_147_code 32 = .ok (.iconst 0, 1) := by decide +kernel
theorem d20_33 : decode jdk_42_method_147_code 33 = .ok (.aload_n 1, 1) := by decide +kernel
theorem d20_34 : decode jdk_42_method_147_code 34 = .ok (.iload_n 2, 1) := by decide +kernel
theorem d20_35 : decode jdk_42_method_147_code 35 = .ok (.aload_n 0, 1) := by decide +kernel
theorem d20_36 : decode jdk_42_method_147_code 36 = .ok (.getfield 9, 3) := by decide +kernel
theorem d20_39 : decode jdk_42_method_147_code 39 = .ok (.arraylength, 1) := by decide +kernel
theorem d20_40 : decode jdk_42_method_147_code 40 = .ok (.invokestatic 106, 3) := by decide +kernel
theorem d20_43 : decode jdk_42_method_147_code 43 = .ok (.return_, 1) := by decide +kernel
theorem c_getB (l : Launch) (Z : State) (a0 : Array Value) (hw : ∀ d ∈ tables_1, d.before a0 Z = true) (hEW : EW Z a0 consts_1) (n0 : Nat) (c1 : Int32) (hc1 : ¬ c1 = 0) (S1 : Sta Z Z.heap "java/lang/String" "COMPACT_STRINGS" "Z" (.int c1)) (a2 b2 b : Addr) (kb : ClassId) (cap : Nat) (bs cs : List Value) {h0 : Heap} (o1 : Old Z n0 h0) (ge_b : n0 ≤ b) (hle : bs.length + cs.length ≤ cap) (hcap : cap < 2147483648) (hT : Str Z h0 a2 b2 cs) (Ab : Arv Z h0 b kb .byte (Int32.ofNat cap) bs (.int 0)) :
    Con Z a0 l (⟨"java/lang/String", "getBytes", "([BIB)V"⟩ : MethodName) jdk_42_method_147_code 4 (none) ({ frames := 1, cells := 0, slots := 0, locals := 41 } : Room) [] #[(.ref a2), (.ref b), (.int (Int32.ofNat bs.length)), (.int (0 : Int32))] consts_1 h0 n0 [b] [b] (V0 fun h so => Arv Z h b kb .byte (Int32.ofNat cap) (bs ++ cs) (.int 0) ∧ so = []) := by
  refine Con.body (plainFor_of_name pn_java_lang_String) hEW o1 (allS ge_b all0) #[.val (.ref a2), .val (.ref b), .val (.int (Int32.ofNat bs.length)), .val (.int (0 : Int32))] (fun m => by first | (simp [entryFrame, mkF, argsToLocals, Value.category]; done) | rfl) ?_
  intro p e s m below meth c B hnm hret hlk G
  obtain ⟨Xa2, Fc2, Fv2, kb2, Ab2⟩ := hT
  replace G := G.aloadN 1 d20_0 rfl rfl rfl
  obtain ⟨vc, h_c, soc, G', Kc, Qc⟩ := G.callV 4 (hw _ (mm 61 rfl)) (hw _ (mm 62 rfl)) (nfSel (hw _ (mm 64 rfl))) (hw _ (mm 64 rfl)) (hw _ (mm 63 rfl)) (hw _ (mm 3 rfl)) (hw _ (mm 65 rfl)) Xa2 (by decide) [] [] rfl (c_coder l Z a0 hw hEW n0 c1 hc1 S1 a2 G.old Fc2) (lenOf pd___B rfl) d20_1 rfl (nle rfl) (nle rfl) (nle rfl) (nle rfl) all0 all0 all0 rfl
  replace G := G'; clear G'
  obtain ⟨wc, qc, rfl, ec, rfl⟩ := Qc
  replace G := G.val qc
  subst ec
  replace G := G.iloadN 5 d20_4 rfl rfl |>.icmpF 8 d20_5 (XT.ii_ne_f rfl) rfl |>.aloadN 9 d20_8 rfl rfl rfl |>.getf 12 (host := "") (Or.inl (hw _ (mm 29 rfl))) Via.refl Fv2 d20_9 rfl |>.iconst 13 (0 : Int32) d20_12 rfl rfl |>.aloadN 14 d20_13 rfl rfl rfl |>.iloadN 15 d20_14 rfl rfl |>.iloadN 16 d20_15 rfl rfl
  replace G := G.ishl 17 d20_16 rfl |>.top (y := (.int (Int32.ofNat bs.length))) (congrArg Value.int (shl0 _)) |>.aloadN 18 d20_17 rfl rfl rfl |>.getf 21 (host := "") (Or.inl (hw _ (mm 29 rfl))) Via.refl Fv2 d20_18 rfl |>.alen 22 Ab2 d20_21 rfl
  have m1 : bs.length < 2147483648 := by omega
  have m2 : cs.length < 2147483648 := by omega
  have Ab' := Ab.pad (vs' := bs ++ List.replicate cs.length (.int 0)) (pad_rep bs (.int 0) cs.length)
  obtain ⟨h1, G', Ap, Kp⟩ := G.cpy 25 (hw _ (mm 109 rfl)) (hw _ (mm 112 rfl)) (hw _ (mm 110 rfl)) (hw _ (mm 111 rfl)) Ab2 Ab' rfl (by decide) (ofn_nn m1) (ofn_nn m2) (by rw [ofn_nat m2]; exact Nat.le_of_eq (Nat.zero_add _)) (by rw [ofn_nat m1, ofn_nat m2, ofn_nat hcap]; exact hle) (by rw [ofn_nat m1, ofn_nat m2]; simp) (Or.inl (mm 0 rfl)) (mm 0 rfl) d20_22 rfl (nle rfl) (nle rfl) rfl
  replace G := G'; clear G'
  rw [ofn_nat m1, ofn_nat m2, show (0 : Int32).toNatClampNeg = 0 from rfl, cpy_res] at Ap
  replace G := G.goto 43 d20_25 (by decide) (by decide)
  exact G.retV hret hlk d20_43 [] all0 ⟨rfl, Ap, rfl⟩ (nle rfl) (nle rfl)
theorem d18_0 : decode jdk_68_method_73_code 0 = .ok (.aload_n 0, 1) := by decide +kernel
theorem d18_1 : decode jdk_68_method_73_code 1 = .ok (.aload_n 2, 1) := by decide +kernel
theorem d18_2 : decode jdk_68_method_73_code 2 = .ok (.invokevirtual 397, 3) := by decide +kernel
theorem d18_5 : decode jdk_68_method_73_code 5 = .ok (.aload_n 2, 1) := by decide +kernel
theorem d18_6 : decode jdk_68_method_73_code 6 = .ok (.aload_n 0, 1) := by decide +kernel
theorem d18_7 : decode jdk_68_method_73_code 7 = .ok (.getfield 15, 3) := by decide +kernel
theorem d18_10 : decode jdk_68_method_73_code 10 = .ok (.iload_n 1, 1) := by decide +kernel
theorem d18_11 : decode jdk_68_method_73_code 11 = .ok (.aload_n 0, 1) := by decide +kernel
theorem d18_12 : decode jdk_68_method_73_code 12 = .ok (.getfield 22, 3) := by decide +kernel
theorem d18_15 : decode jdk_68_method_73_code 15 = .ok (.invokevirtual 399, 3) := by decide +kernel
theorem d18_18 : decode jdk_68_method_73_code 18 = .ok (.return_, 1) := by decide +kernel
theorem c_putStr (l : Launch) (Z : State) (a0 : Array Value) (hw : ∀ d ∈ tables_1, d.before a0 Z = true) (hEW : EW Z a0 consts_1) (n0 : Nat) (c1 : Int32) (hc1 : ¬ c1 = 0) (S1 : Sta Z Z.heap "java/lang/String" "COMPACT_STRINGS" "Z" (.int c1)) (a b a2 b2 : Addr) (cap : Nat) (bs cs : List Value) {h0 : Heap} (o1 : Old Z n0 h0) (ge_b : n0 ≤ b) (hle : bs.length + cs.length ≤ cap) (hcap : cap < 2147483648) (hS : Sbd Z h0 a b cap bs) (hT : Str Z h0 a2 b2 cs) :
    Con Z a0 l (⟨"java/lang/AbstractStringBuilder", "putStringAt", "(ILjava/lang/String;)V"⟩ : MethodName) jdk_68_method_73_code 3 (none) ({ frames := 2, cells := 0, slots := 0, locals := 56 } : Room) [] #[(.ref a), (.int (Int32.ofNat bs.length)), (.ref a2)] consts_1 h0 n0 [b] [b] (V0 fun h so => (∃ k, Arv Z h b k .byte (Int32.ofNat cap) (bs ++ cs) (.int 0)) ∧ so = []) := by
  refine Con.body (plainFor_of_name pn_java_lang_AbstractStringBuilder) hEW o1 (allS ge_b all0) #[.val (.ref a), .val (.int (Int32.ofNat bs.length)), .val (.ref a2)] (fun m => by first | (simp [entryFrame, mkF, argsToLocals, Value.category]; done) | rfl) ?_
  intro p e s m below meth c B hnm hret hlk G
  replace G := G.aloadN 1 d18_0 rfl rfl rfl |>.aloadN 2 d18_1 rfl rfl rfl
  obtain ⟨vi, h_i, soi, G', Ki, Qi⟩ := G.callV 5 (hw _ (mm 98 rfl)) (declOf (hw _ (mm 99 rfl)) (hw _ (mm 102 rfl))) (nfSel (hw _ (mm 101 rfl))) (hw _ (mm 101 rfl)) (hw _ (mm 99 rfl)) (hw _ (mm 53 rfl)) (hw _ (mm 102 rfl)) hS.1 (by decide) [(.ref a2)] [] rfl (c_infl l Z a0 hw hEW n0 c1 hc1 S1 a b a2 b2 cap bs cs G.old hS hT) (lenOf pd__Ljava_lang_String__V rfl) d18_2 rfl (nle rfl) (nle rfl) (nle rfl) (nle rfl) all0 all0 all0 rfl
  replace G := G'; clear G'
  obtain ⟨qi, ei, rfl⟩ := Qi
  replace G := G.nov qi
  subst ei
  obtain ⟨Xa, Fv, Fc, Fn, kb, Ab⟩ := hS
  replace G := G.aloadN 6 d18_5 rfl rfl rfl |>.aloadN 7 d18_6 rfl rfl rfl |>.getf 10 (host := "") (Or.inl (hw _ (mm 70 rfl))) Via.refl Fv d18_7 rfl |>.iloadN 11 d18_10 rfl rfl |>.aloadN 12 d18_11 rfl rfl rfl |>.getf 15 (host := "") (Or.inl (hw _ (mm 68 rfl))) Via.refl Fc d18_12 rfl
  obtain ⟨vg, h1, sog, G', Kg, Qg⟩ := G.callV 18 (hw _ (mm 104 rfl)) (hw _ (mm 105 rfl)) (nfSel (hw _ (mm 107 rfl))) (hw _ (mm 107 rfl)) (hw _ (mm 106 rfl)) (hw _ (mm 3 rfl)) (hw _ (mm 108 rfl)) hT.1 (by decide) [(.ref b), (.int (Int32.ofNat bs.length)), (.int (0 : Int32))] [] rfl (c_getB l Z a0 hw hEW n0 c1 hc1 S1 a2 b2 b kb cap bs cs G.old ge_b hle hcap hT Ab) (lenOf pd___BIB_V rfl) d18_15 rfl (nle rfl) (nle rfl) (nle rfl) (nle rfl) (allS (Or.inl (mm 0 rfl)) all0) (allS (mm 0 rfl) all0) (allS (mm 0 rfl) all0) rfl
  replace G := G'; clear G'
  obtain ⟨qg, Ag, rfl⟩ := Qg
  replace G := G.nov qg
  exact G.retV hret hlk d18_18 [] all0 ⟨rfl, ⟨kb, Ag⟩, rfl⟩ (nle rfl) (nle rfl)
theorem d25_0 : decode jdk_29_method_69_code 0 = .ok (.iload_n 0, 1) := by decide +kernel
theorem d25_1 : decode jdk_29_method_69_code 1 = .ok (.iload_n 1, 1) := by decide +kernel
theorem d25_2 : decode jdk_29_method_69_code 2 = .ok (.if_icmp .gt 7, 3) := by decide +kernel
theorem d25_5 : decode jdk_29_method_69_code 5 = .ok (.iload_n 0, 1) := by decide +kernel
theorem d25_6 : decode jdk_29_method_69_code 6 = .ok (.goto 4, 3) := by decide +kernel
theorem d25_9 : decode jdk_29_method_69_code 9 = .ok (.iload_n 1, 1) := by decide +kernel
theorem d25_10 : decode jdk_29_method_69_code 10 = .ok (.ireturn, 1) := by decide +kernel
theorem c_minR (l : Launch) (Z : State) (a0 : Array Value) (hw : ∀ d ∈ tables_1, d.before a0 Z = true) (hEW : EW Z a0 consts_1) (n0 : Nat) (c1 : Int32) (hc1 : ¬ c1 = 0) (S1 : Sta Z Z.heap "java/lang/String" "COMPACT_STRINGS" "Z" (.int c1)) (x y : Int32) {h0 : Heap} (o1 : Old Z n0 h0) (hxy : y < x) :
    Con Z a0 l (⟨"java/lang/Math", "min", "(II)I"⟩ : MethodName) jdk_29_method_69_code 2 (some .int) ({ frames := 0, cells := 0, slots := 0, locals := 0 } : Room) [] #[(.int x), (.int y)] consts_1 h0 n0 [] [] (VV fun w h so => w = .int y ∧ h = h0 ∧ so = []) := by
  refine Con.body (by decide +kernel) hEW o1 all0 #[.val (.int x), .val (.int y)] (fun m => by first | (simp [entryFrame, mkF, argsToLocals, Value.category]; done) | rfl) ?_
  intro p e s m below meth c B hnm hret hlk G
  replace G := G.iloadN 1 d25_0 rfl rfl |>.iloadN 2 d25_1 rfl rfl |>.icmpT 9 d25_2 (XT.ii_gt_t hxy) (by decide) (by decide) |>.iloadN 10 d25_9 rfl rfl
  exact G.retI hret hlk d25_10 [] all0 ⟨_, rfl, rfl, rfl, rfl⟩ (nle rfl) (nle rfl)
theorem d38_0 : decode jdk_65_method_131_code 0 = .ok (.iload_n 1, 1) := by decide +kernel
theorem d38_1 : decode jdk_65_method_131_code 1 = .ok (.iload_n 0, 1) := by decide +kernel
theorem d38_2 : decode jdk_65_method_131_code 2 = .ok (.if_icmp .ge 35, 3) := by decide +kernel
theorem d38_5 : decode jdk_65_method_131_code 5 = .ok (.new 43, 3) := by decide +kernel
theorem d38_8 : decode jdk_65_method_131_code 8 = .ok (.dup, 1) := by decide +kernel
theorem d38_9 : decode jdk_65_method_131_code 9 = .ok (.new 45, 3) := by decide +kernel
theorem d38_12 : decode jdk_65_method_131_code 12 = .ok (.dup, 1) := by decide +kernel
theorem d38_13 : decode jdk_65_method_131_code 13 = .ok (.invokespecial 47, 3) := by decide +kernel
theorem d38_16 : decode jdk_65_method_131_code 16 = .ok (.iload_n 0, 1) := by decide +kernel
theorem d38_17 : decode jdk_65_method_131_code 17 = .ok (.invokevirtual 54, 3) := by decide +kernel
theorem d38_20 : decode jdk_65_method_131_code 20 = .ok (.ldc_w 337, 3) := by decide +kernel
theorem d38_23 : decode jdk_65_method_131_code 23 = .ok (.invokevirtual 50, 3) := by decide +kernel
theorem d38_26 : decode jdk_65_method_131_code 26 = .ok (.iload_n 1, 1) := by decide +kernel
theorem d38_27 : decode jdk_65_method_131_code 27 = .ok (.invokevirtual 54, 3) := by decide +kernel
theorem d38_30 : decode jdk_65_method_131_code 30 = .ok (.invokevirtual 61, 3) := by decide +kernel
theorem d38_33 : decode jdk_65_method_131_code 33 = .ok (.invokespecial 65, 3) := by decide +kernel
theorem d38_36 : decode jdk_65_method_131_code 36 = .ok (.athrow, 1) := by decide +kernel
theorem d38_37 : decode jdk_65_method_131_code 37 = .ok (.return_, 1) := by decide +kernel
theorem c_chkLen (l : Launch) (Z : State) (a0 : Array Value) (hw : ∀ d ∈ tables_1, d.before a0 Z = true) (hEW : EW Z a0 consts_1) (n0 : Nat) (c1 : Int32) (hc1 : ¬ c1 = 0) (S1 : Sta Z Z.heap "java/lang/String" "COMPACT_STRINGS" "Z" (.int c1)) (x y : Int32) {h0 : Heap} (o1 : Old Z n0 h0) (hxy : ¬ y < x) :
    Con Z a0 l (⟨"java/util/Arrays", "checkLength", "(II)V"⟩ : MethodName) jdk_65_method_131_code 2 (none) ({ frames := 0, cells := 0, slots := 0, locals := 0 } : Room) [] #[(.int x), (.int y)] consts_1 h0 n0 [] [] (V0 fun h so => h = h0 ∧ so = []) := by
  refine Con.body (plainFor_of_name pn_java_util_Arrays) hEW o1 all0 #[.val (.int x), .val (.int y)] (fun m => by first | (simp [entryFrame, mkF, argsToLocals, Value.category]; done) | rfl) ?_
  intro p e s m below meth c B hnm hret hlk G
  replace G := G.iloadN 1 d38_0 rfl rfl |>.iloadN 2 d38_1 rfl rfl |>.icmpT 37 d38_2 (XT.ii_ge_t hxy) (by decide) (by decide)
  exact G.retV hret hlk d38_37 [] all0 ⟨rfl, rfl, rfl⟩ (nle rfl) (nle rfl)
theorem d37_0 : decode jdk_65_method_133_code 0 = .ok (.iload_n 1, 1) := by decide +kernel
theorem d37_1 : decode jdk_65_method_133_code 1 = .ok (.iload_n 2, 1) := by decide +kernel
theorem d37_2 : decode jdk_65_method_133_code 2 = .ok (.invokestatic 343, 3) := by decide +kernel
theorem d37_5 : decode jdk_65_method_133_code 5 = .ok (.iload_n 2, 1) := by decide +kernel
theorem d37_6 : decode jdk_65_method_133_code 6 = .ok (.iload_n 1, 1) := by decide +kernel
theorem d37_7 : decode jdk_65_method_133_code 7 = .ok (.isub, 1) := by decide +kernel
theorem d37_8 : decode jdk_65_method_133_code 8 = .ok (.istore_n 3, 1) := by decide +kernel
theorem d37_9 : decode jdk_65_method_133_code 9 = .ok (.iload_n 3, 1) := by decide +kernel
theorem d37_10 : decode jdk_65_method_133_code 10 = .ok (.newarray .byte, 2) := by decide +kernel
theorem d37_12 : decode jdk_65_method_133_code 12 = .ok (.astore 4, 2) := by decide +kernel
theorem d37_14 : decode jdk_65_method_133_code 14 = .ok (.aload_n 0, 1) := by decide +kernel
theorem d37_15 : decode jdk_65_method_133_code 15 = .ok (.iload_n 1, 1) := by decide +kernel
theorem d37_16 : decode jdk_65_method_133_code 16 = .ok (.aload 4, 2) := by decide +kernel
theorem d37_18 : decode jdk_65_method_133_code 18 = .ok (.iconst 0, 1) := by decide +kernel
theorem d37_19 : decode jdk_65_method_133_code 19 = .ok (.aload_n 0, 1) := by decide +kernel
theorem d37_20 : decode jdk_65_method_133_code 20 = .ok (.arraylength, 1) := by decide +kernel
theorem d37_21 : decode jdk_65_method_133_code 21 = .ok (.iload_n 1, 1) := by decide +kernel
theorem d37_22 : decode jdk_65_method_133_code 22 = .ok (.isub, 1) := by decide +kernel
theorem d37_23 : decode jdk_65_method_133_code 23 = .ok (.iload_n 3, 1) := by decide +kernel
theorem d37_24 : decode jdk_65_method_133_code 24 = .ok (.invokestatic 304, 3) := by decide +kernel
theorem d37_27 : decode jdk_65_method_133_code 27 = .ok (.invokestatic 150, 3) := by decide +kernel
theorem d37_30 : decode jdk_65_method_133_code 30 = .ok (.aload 4, 2) := by decide +kernel
theorem d37_32 : decode jdk_65_method_133_code 32 = .ok (.areturn, 1) := by decide +kernel
theorem c_corb (l : Launch) (Z : State) (a0 : Array Value) (hw : ∀ d ∈ tables_1, d.before a0 Z = true) (hEW : EW Z a0 consts_1) (n0 : Nat) (c1 : Int32) (hc1 : ¬ c1 = 0) (S1 : Sta Z Z.heap "java/lang/String" "COMPACT_STRINGS" "Z" (.int c1)) (b : Addr) (kb : ClassId) (cap : Nat) (bs : List Value) {h0 : Heap} (o1 : Old Z n0 h0) (hlt : bs.length < cap) (hcap : cap < 2147483648) (hmax : bs.length ≤ 64) (Ab : Arv Z h0 b kb .byte (Int32.ofNat cap) bs (.int 0)) :
    Con Z a0 l (⟨"java/util/Arrays", "copyOfRangeByte", "([BII)[B"⟩ : MethodName) jdk_65_method_133_code 5 (some (.array .byte)) ({ frames := 1, cells := 1, slots := 64, locals := 41 } : Room) [] #[(.ref b), (.int (0 : Int32)), (.int (Int32.ofNat bs.length))] consts_1 h0 n0 [] [] (VV fun w h so => ∃ n, w = .ref n ∧ (∃ k, Arv Z h n k .byte (Int32.ofNat bs.length) bs (.int 0)) ∧ h0.size ≤ n ∧ so = [n]) := by
  refine Con.body (plainFor_of_name pn_java_util_Arrays) hEW o1 all0 #[.val (.ref b), .val (.int (0 : Int32)), .val (.int (Int32.ofNat bs.length)), .unset, .unset] (fun m => by first | (simp [entryFrame, mkF, argsToLocals, Value.category]; done) | rfl) ?_
  intro p e s m below meth c B hnm hret hlk G
  have m1 : cap < 2147483648 := hcap
  have m2 : bs.length < 2147483648 := by omega
  replace G := G.iloadN 1 d37_0 rfl rfl |>.iloadN 2 d37_1 rfl rfl
  obtain ⟨vk, h_k, sok, G', Kk, Qk⟩ := G.callS 5 (hw _ (mm 192 rfl)) (hw _ (mm 193 rfl)) (hw _ (mm 135 rfl)) (hw _ (mm 194 rfl)) (by decide) [(.int (0 : Int32)), (.int (Int32.ofNat bs.length))] [] rfl (c_chkLen l Z a0 hw hEW n0 c1 hc1 S1 0 (Int32.ofNat bs.length) G.old (ofn_nn m2)) (lenOf pd__II_V rfl) d37_2 rfl (nle rfl) (nle rfl) (nle rfl) (nle rfl) all0 all0 all0 rfl
  replace G := G'; clear G'
  obtain ⟨qk, ek, rfl⟩ := Qk
  replace G := G.nov qk
  subst ek
  replace G := G.iloadN 6 d37_5 rfl rfl |>.iloadN 7 d37_6 rfl rfl |>.isub 8 d37_7 rfl |>.top (y := (.int (Int32.ofNat bs.length))) (congrArg Value.int (sub0 _)) |>.istoreN 9 #[.val (.ref b), .val (.int (0 : Int32)), .val (.int (Int32.ofNat bs.length)), .val (.int (Int32.ofNat bs.length)), .unset] d37_8 rfl rfl |>.iloadN 10 d37_9 rfl rfl
  obtain ⟨n, h1, kn, G', gn, sn, En, An⟩ := G.newarray 12 (hw _ (mm 20 rfl)) d37_10 (ofn_nn m2) 64 (by rw [ofn_nat m2]; exact hmax) (by decide) rfl (nle rfl) (nle rfl)
  replace G := G'; clear G'
  replace Ab := Ab.ext En
  replace G := G.astore 14 #[.val (.ref b), .val (.int (0 : Int32)), .val (.int (Int32.ofNat bs.length)), .val (.int (Int32.ofNat bs.length)), .val (.ref n)] d37_12 rfl rfl rfl |>.aloadN 15 d37_14 rfl rfl rfl |>.iloadN 16 d37_15 rfl rfl |>.aload 18 d37_16 rfl rfl rfl |>.iconst 19 (0 : Int32) d37_18 rfl rfl |>.aloadN 20 d37_19 rfl rfl rfl |>.alen 21 Ab d37_20 rfl |>.iloadN 22 d37_21 rfl rfl
  replace G := G.isub 23 d37_22 rfl |>.top (y := (.int (Int32.ofNat cap))) (congrArg Value.int (sub0 _)) |>.iloadN 24 d37_23 rfl rfl
  obtain ⟨vm, h_m, som, G', Km, Qm⟩ := G.callS 27 (hw _ (mm 137 rfl)) (hw _ (mm 138 rfl)) (hw _ (mm 129 rfl)) (hw _ (mm 139 rfl)) (by decide) [(.int (Int32.ofNat cap)), (.int (Int32.ofNat bs.length))] [(.int (0 : Int32)), (.ref n), (.int (0 : Int32)), (.ref b)] rfl (c_minR l Z a0 hw hEW n0 c1 hc1 S1 (Int32.ofNat cap) (Int32.ofNat bs.length) G.old (ofn_lt hlt hcap)) (lenOf pd__II_I rfl) d37_24 rfl (nle rfl) (nle rfl) (nle rfl) (nle rfl) all0 all0 all0 rfl
  replace G := G'; clear G'
  obtain ⟨wm, qm, rfl, em, rfl⟩ := Qm
  replace G := G.val qm
  subst em
  have An' := An.pad (vs' := [] ++ List.replicate bs.length (.int 0)) (pad_rep [] (.int 0) bs.length)
  obtain ⟨h2, G', Ap, Kp⟩ := G.cpy 30 (hw _ (mm 140 rfl)) (hw _ (mm 112 rfl)) (hw _ (mm 110 rfl)) (hw _ (mm 111 rfl)) Ab An' rfl (by decide) (by decide) (ofn_nn m2) (by rw [ofn_nat m2, ofn_nat hcap, show (0 : Int32).toNatClampNeg = 0 from rfl]; omega) (by rw [ofn_nat m2, show (0 : Int32).toNatClampNeg = 0 from rfl]; omega) (by rw [ofn_nat m2, show (0 : Int32).toNatClampNeg = 0 from rfl]; simp) (Or.inr sn) (mm 0 rfl) d37_27 rfl (nle rfl) (nle rfl) rfl
  replace G := G'; clear G'
  rw [ofn_nat m2, show (0 : Int32).toNatClampNeg = 0 from rfl] at Ap
  replace Ap := (cpy_res [] bs (.int 0)) ▸ Ap
  replace G := G.aload 32 d37_30 rfl rfl rfl
  exact G.retA hret rfl rfl hlk d37_32 [n] (allS (mm 0 rfl) all0) ⟨_, rfl, n, rfl, ⟨kn, Ap⟩, sn, rfl⟩ (nle rfl) (nle rfl)
theorem d36_0 : decode jdk_65_method_132_code 0 = .ok (.iload_n 1, 1) := by decide +kernel
theorem d36_1 : decode jdk_65_method_132_code 1 = .ok (.ifCond .ne 9, 3) := by decide +kernel
theorem d36_4 : decode jdk_65_method_132_code 4 = .ok (.iload_n 2, 1) := by decide +kernel
theorem d36_5 : decode jdk_65_method_132_code 5 = .ok (.aload_n 0, 1) := by decide +kernel
theorem d36_6 : decode jdk_65_method_132_code 6 = .ok (.arraylength, 1) := by decide +kernel
theorem d36_7 : decode jdk_65_method_132_code 7 = .ok (.if_icmp .eq 10, 3) := by decide +kernel
theorem d36_10 : decode jdk_65_method_132_code 10 = .ok (.aload_n 0, 1) := by decide +kernel
theorem d36_11 : decode jdk_65_method_132_code 11 = .ok (.iload_n 1, 1) := by decide +kernel
theorem d36_12 : decode jdk_65_method_132_code 12 = .ok (.iload_n 2, 1) := by decide +kernel
theorem d36_13 : decode jdk_65_method_132_code 13 = .ok (.invokestatic 339, 3) := by decide +kernel
theorem d36_16 : decode jdk_65_method_132_code 16 = .ok (.areturn, 1) := by decide +kernel
theorem d36_17 : decode jdk_65_method_132_code 17 = .ok (.aload_n 0, 1) := by decide +kernel
theorem d36_18 : decode jdk_65_method_132_code 18 = .ok (.invokevirtual 310, 3) := by decide +kernel
theorem d36_21 : decode jdk_65_method_132_code 21 = .ok (.checkcast 311, 3) := by decide +kernel
theorem d36_24 : decode jdk_65_method_132_code 24 = .ok (.areturn, 1) := by decide +kernel
theorem c_cor (l : Launch) (Z : State) (a0 : Array Value) (hw : ∀ d ∈ tables_1, d.before a0 Z = true) (hEW : EW Z a0 consts_1) (n0 : Nat) (c1 : Int32) (hc1 : ¬ c1 = 0) (S1 : Sta Z Z.heap "java/lang/String" "COMPACT_STRINGS" "Z" (.int c1)) (b : Addr) (kb : ClassId) (cap : Nat) (bs : List Value) {h0 : Heap} (o1 : Old Z n0 h0) (hlt : bs.length < cap) (hcap : cap < 2147483648) (hmax : bs.length ≤ 64) (Ab : Arv Z h0 b kb .byte (Int32.ofNat cap) bs (.int 0)) :
    Con Z a0 l (⟨"java/util/Arrays", "copyOfRange", "([BII)[B"⟩ : MethodName) jdk_65_method_132_code 3 (some (.array .byte)) ({ frames := 2, cells := 1, slots := 64, locals := 57 } : Room) [] #[(.ref b), (.int (0 : Int32)), (.int (Int32.ofNat bs.length))] consts_1 h0 n0 [] [] (VV fun w h so => ∃ n, w = .ref n ∧ (∃ k, Arv Z h n k .byte (Int32.ofNat bs.length) bs (.int 0)) ∧ h0.size ≤ n ∧ so = [n]) := by
  refine Con.body (plainFor_of_name pn_java_util_Arrays) hEW o1 all0 #[.val (.ref b), .val (.int (0 : Int32)), .val (.int (Int32.ofNat bs.length))] (fun m => by first | (simp [entryFrame, mkF, argsToLocals, Value.category]; done) | rfl) ?_
  intro p e s m below meth c B hnm hret hlk G
  replace G := G.iloadN 1 d36_0 rfl rfl |>.ifF 4 d36_1 (XT.i0_ne_f rfl) rfl |>.iloadN 5 d36_4 rfl rfl |>.aloadN 6 d36_5 rfl rfl rfl |>.alen 7 Ab d36_6 rfl |>.icmpF 10 d36_7 (XT.ii_eq_f (ofn_ne (by omega) (by omega) hcap)) rfl |>.aloadN 11 d36_10 rfl rfl rfl |>.iloadN 12 d36_11 rfl rfl
  replace G := G.iloadN 13 d36_12 rfl rfl
  obtain ⟨vc, h1, soc, G', Kc, Qc⟩ := G.callS 16 (hw _ (mm 189 rfl)) (hw _ (mm 190 rfl)) (hw _ (mm 135 rfl)) (hw _ (mm 191 rfl)) (by decide) [(.ref b), (.int (0 : Int32)), (.int (Int32.ofNat bs.length))] [] rfl (c_corb l Z a0 hw hEW n0 c1 hc1 S1 b kb cap bs G.old hlt hcap hmax Ab) (lenOf pd___BII__B rfl) d36_13 rfl (nle rfl) (nle rfl) (nle rfl) (nle rfl) all0 all0 all0 rfl
  replace G := G'; clear G'
  obtain ⟨wc, qc, n, rfl, hA, sn, rfl⟩ := Qc
  replace G := G.val qc
  exact G.retA hret rfl rfl hlk d36_16 [n] (allS (mm 0 rfl) all0) ⟨_, rfl, n, rfl, hA, sn, rfl⟩ (nle rfl) (nle rfl)
theorem d33_0 : decode jdk_68_method_64_code 0 = .ok (.aload_n 0, 1) := by decide +kernel
theorem d33_1 : decode jdk_68_method_64_code 1 = .ok (.getfield 15, 3) := by decide +kernel
theorem d33_4 : decode jdk_68_method_64_code 4 = .ok (.areturn, 1) := by decide +kernel
theorem c_getVal (l : Launch) (Z : State) (a0 : Array Value) (hw : ∀ d ∈ tables_1, d.before a0 Z = true) (hEW : EW Z a0 consts_1) (n0 : Nat) (c1 : Int32) (hc1 : ¬ c1 = 0) (S1 : Sta Z Z.heap "java/lang/String" "COMPACT_STRINGS" "Z" (.int c1)) (a b : Addr) (cap : Nat) (bs : List Value) {h0 : Heap} (o1 : Old Z n0 h0) (hS : Sbd Z h0 a b cap bs) :
    Con Z a0 l (⟨"java/lang/AbstractStringBuilder", "getValue", "()[B"⟩ : MethodName) jdk_68_method_64_code 1 (some (.array .byte)) ({ frames := 0, cells := 0, slots := 0, locals := 0 } : Room) [] #[(.ref a)] consts_1 h0 n0 [] [] (VV fun w h so => w = .ref b ∧ h = h0 ∧ so = []) := by
  refine Con.body (plainFor_of_name pn_java_lang_AbstractStringBuilder) hEW o1 all0 #[.val (.ref a)] (fun m => by first | (simp [entryFrame, mkF, argsToLocals, Value.category]; done) | rfl) ?_
  intro p e s m below meth c B hnm hret hlk G
  replace G := G.aloadN 1 d33_0 rfl rfl rfl |>.getf 4 (host := "") (Or.inl (hw _ (mm 70 rfl))) Via.refl hS.2.1 d33_1 rfl
  exact G.retA hret rfl rfl hlk d33_4 [] all0 ⟨_, rfl, rfl, rfl, rfl⟩ (nle rfl) (nle rfl)
theorem d35_0 : decode jdk_68_method_6_code 0 = .ok (.aload_n 0, 1) := by decide +kernel
theorem d35_1 : decode jdk_68_method_6_code 1 = .ok (.getfield 79, 3) := by decide +kernel
theorem d35_4 : decode jdk_68_method_6_code 4 = .ok (.ireturn, 1) := by decide +kernel
theorem c_asbLen (l : Launch) (Z : State) (a0 : Array Value) (hw : ∀ d ∈ tables_1, d.before a0 Z = true) (hEW : EW Z a0 consts_1) (n0 : Nat) (c1 : Int32) (hc1 : ¬ c1 = 0) (S1 : Sta Z Z.heap "java/lang/String" "COMPACT_STRINGS" "Z" (.int c1)) (a b : Addr) (cap : Nat) (bs : List Value) {h0 : Heap} (o1 : Old Z n0 h0) (hS : Sbd Z h0 a b cap bs) :
    Con Z a0 l (⟨"java/lang/AbstractStringBuilder", "length", "()I"⟩ : MethodName) jdk_68_method_6_code 1 (some .int) ({ frames := 0, cells := 0, slots := 0, locals := 0 } : Room) [] #[(.ref a)] consts_1 h0 n0 [] [] (VV fun w h so => w = .int (Int32.ofNat bs.length) ∧ h = h0 ∧ so = []) := by
  refine Con.body (plainFor_of_name pn_java_lang_AbstractStringBuilder) hEW o1 all0 #[.val (.ref a)] (fun m => by first | (simp [entryFrame, mkF, argsToLocals, Value.category]; done) | rfl) ?_
  intro p e s m below meth c B hnm hret hlk G
  replace G := G.aloadN 1 d35_0 rfl rfl rfl |>.getf 4 (host := "") (Or.inl (hw _ (mm 86 rfl))) Via.refl hS.2.2.2.1 d35_1 rfl
  exact G.retI hret hlk d35_4 [] all0 ⟨_, rfl, rfl, rfl, rfl⟩ (nle rfl) (nle rfl)
theorem d34_0 : decode jdk_67_method_93_code 0 = .ok (.aload_n 0, 1) := by decide +kernel
theorem d34_1 : decode jdk_67_method_93_code 1 = .ok (.invokespecial 343, 3) := by decide +kernel
theorem d34_4 : decode jdk_67_method_93_code 4 = .ok (.ireturn, 1) := by decide +kernel
theorem c_sbLen (l : Launch) (Z : State) (a0 : Array Value) (hw : ∀ d ∈ tables_1, d.before a0 Z = true) (hEW : EW Z a0 consts_1) (n0 : Nat) (c1 : Int32) (hc1 : ¬ c1 = 0) (S1 : Sta Z Z.heap "java/lang/String" "COMPACT_STRINGS" "Z" (.int c1)) (a b : Addr) (cap : Nat) (bs : List Value) {h0 : Heap} (o1 : Old Z n0 h0) (hS : Sbd Z h0 a b cap bs) :
    Con Z a0 l (⟨"java/lang/StringBuilder", "length", "()I"⟩ : MethodName) jdk_67_method_93_code 1 (some .int) ({ frames := 1, cells := 0, slots := 0, locals := 12 } : Room) [] #[(.ref a)] consts_1 h0 n0 [] [] (VV fun w h so => w = .int (Int32.ofNat bs.length) ∧ h = h0 ∧ so = []) := by
  refine Con.body (plainFor_of_name pn_java_lang_StringBuilder) hEW o1 all0 #[.val (.ref a)] (fun m => by first | (simp [entryFrame, mkF, argsToLocals, Value.category]; done) | rfl) ?_
  intro p e s m below meth c B hnm hret hlk G
  replace G := G.aloadN 1 d34_0 rfl rfl rfl
  obtain ⟨vl, h_l, sol, G', Kl, Ql⟩ := G.callSup 4 (hw _ (mm 183 rfl)) (sameOf (hw _ (mm 179 rfl)) (nfVia (y := (⟨"java/lang/AbstractStringBuilder", "ensureCapacityInternal", "(I)V"⟩ : MethodName)) rfl (hw _ (mm 91 rfl)) (hw _ (mm 89 rfl))) (by decide)) (hw _ (mm 179 rfl)) (hw _ (mm 84 rfl)) (by decide) (hw _ (mm 53 rfl)) (hw _ (mm 184 rfl)) (Ins.self hS.1) [] [] rfl (c_asbLen l Z a0 hw hEW n0 c1 hc1 S1 a b cap bs G.old hS) (lenOf pd___I rfl) d34_1 rfl (nle rfl) (nle rfl) (nle rfl) (nle rfl) all0 all0 all0 rfl
  replace G := G'; clear G'
  obtain ⟨wl, ql, rfl, el, rfl⟩ := Ql
  replace G := G.val ql
  subst el
  exact G.retI hret hlk d34_4 [] all0 ⟨_, rfl, rfl, rfl, rfl⟩ (nle rfl) (nle rfl)
theorem d28_0 : decode jdk_68_method_68_code 0 = .ok (.getstatic 18, 3) := by decide +kernel
theorem d28_3 : decode jdk_68_method_68_code 3 = .ok (.ifCond .eq 14, 3) := by decide +kernel
theorem d28_6 : decode jdk_68_method_68_code 6 = .ok (.aload_n 0, 1) := by decide +kernel
theorem d28_7 : decode jdk_68_method_68_code 7 = .ok (.getfield 22, 3) := by decide +kernel
theorem d28_10 : decode jdk_68_method_68_code 10 = .ok (.ifCond .ne 7, 3) := by decide +kernel
theorem d28_13 : decode jdk_68_method_68_code 13 = .ok (.iconst 1, 1) := by decide +kernel
theorem d28_14 : decode jdk_68_method_68_code 14 = .ok (.goto 4, 3) := by decide +kernel
theorem d28_17 : decode jdk_68_method_68_code 17 = .ok (.iconst 0, 1) := by decide +kernel
theorem d28_18 : decode jdk_68_method_68_code 18 = .ok (.ireturn, 1) := by decide +kernel
theorem c_isL1 (l : Launch) (Z : State) (a0 : Array Value) (hw : ∀ d ∈ tables_1, d.before a0 Z = true) (hEW : EW Z a0 consts_1) (n0 : Nat) (c1 : Int32) (hc1 : ¬ c1 = 0) (S1 : Sta Z Z.heap "java/lang/String" "COMPACT_STRINGS" "Z" (.int c1)) (a b : Addr) (cap : Nat) (bs : List Value) {h0 : Heap} (o1 : Old Z n0 h0) (hS : Sbd Z h0 a b cap bs) :
    Con Z a0 l (⟨"java/lang/AbstractStringBuilder", "isLatin1", "()Z"⟩ : MethodName) jdk_68_method_68_code 1 (some .boolean) ({ frames := 0, cells := 0, slots := 0, locals := 0 } : Room) [] #[(.ref a)] consts_1 h0 n0 [] [] (VV fun w h so => w = .int 1 ∧ h = h0 ∧ so = []) := by
  refine Con.body (plainFor_of_name pn_java_lang_AbstractStringBuilder) hEW o1 all0 #[.val (.ref a)] (fun m => by first | (simp [entryFrame, mkF, argsToLocals, Value.category]; done) | rfl) ?_
  intro p e s m below meth c B hnm hret hlk G
  replace G := G.gets 3 (host := "") (Or.inl (hw _ (mm 103 rfl))) Via.refl (G.sta S1) d28_0 rfl |>.ifF 6 d28_3 (XT.i0_eq_f hc1) rfl |>.aloadN 7 d28_6 rfl rfl rfl |>.getf 10 (host := "") (Or.inl (hw _ (mm 68 rfl))) Via.refl hS.2.2.1 d28_7 rfl |>.ifF 13 d28_10 (XT.i0_ne_f rfl) rfl |>.iconst 14 (1 : Int32) d28_13 rfl rfl |>.goto 18 d28_14 (by decide) (by decide)
  exact G.retN hret (Or.inl rfl) hlk d28_18 [] all0 ⟨_, rfl, rfl, rfl, rfl⟩ (nle rfl) (nle rfl)
theorem d32_0 : decode jdk_42_method_150_code 0 = .ok (.aload_n 0, 1) := by decide +kernel
theorem d32_1 : decode jdk_42_method_150_code 1 = .ok (.invokespecial 1, 3) := by decide +kernel
theorem d32_4 : decode jdk_42_method_150_code 4 = .ok (.aload_n 1, 1) := by decide +kernel
theorem d32_5 : decode jdk_42_method_150_code 5 = .ok (.invokevirtual 552, 3) := by decide +kernel
theorem d32_8 : decode jdk_42_method_150_code 8 = .ok (.astore_n 3, 1) := by decide +kernel
theorem d32_9 : decode jdk_42_method_150_code 9 = .ok (.aload_n 1, 1) := by decide +kernel
theorem d32_10 : decode jdk_42_method_150_code 10 = .ok (.invokevirtual 549, 3) := by decide +kernel
theorem d32_13 : decode jdk_42_method_150_code 13 = .ok (.istore 4, 2) := by decide +kernel
theorem d32_15 : decode jdk_42_method_150_code 15 = .ok (.aload_n 1, 1) := by decide +kernel
theorem d32_16 : decode jdk_42_method_150_code 16 = .ok (.invokevirtual 1047, 3) := by decide +kernel
theorem d32_19 : decode jdk_42_method_150_code 19 = .ok (.ifCond .eq 22, 3) := by decide +kernel
theorem d32_22 : decode jdk_42_method_150_code 22 = .ok (.aload_n 0, 1) := by decide +kernel
theorem d32_23 : decode jdk_42_method_150_code 23 = .ok (.iconst 0, 1) := by decide +kernel
theorem d32_24 : decode jdk_42_method_150_code 24 = .ok (.putfield 15, 3) := by decide +kernel
theorem d32_27 : decode jdk_42_method_150_code 27 = .ok (.aload_n 0, 1) := by decide +kernel
theorem d32_28 : decode jdk_42_method_150_code 28 = .ok (.aload_n 3, 1) := by decide +kernel
theorem d32_29 : decode jdk_42_method_150_code 29 = .ok (.iconst 0, 1) := by decide +kernel
theorem d32_30 : decode jdk_42_method_150_code 30 = .ok (.iload 4, 2) := by decide +kernel
theorem d32_32 : decode jdk_42_method_150_code 32 = .ok (.invokestatic 54, 3) := by decide +kernel
theorem d32_35 : decode jdk_42_method_150_code 35 = .ok (.putfield 9, 3) := by decide +kernel
theorem d32_38 : decode jdk_42_method_150_code 38 = .ok (.goto 59, 3) := by decide +kernel
theorem d32_41 : decode jdk_42_method_150_code 41 = .ok (.getstatic 38, 3) := by decide +kernel
theorem d32_44 : decode jdk_42_method_150_code 44 = .ok (.ifCond .eq 35, 3) := by decide +kernel
theorem d32_47 : decode jdk_42_method_150_code 47 = .ok (.aload_n 1, 1) := by decide +kernel
theorem d32_48 : decode jdk_42_method_150_code 48 = .ok (.getfield 1048, 3) := by decide +kernel
theorem d32_51 : decode jdk_42_method_150_code 51 = .ok (.ifCond .eq 28, 3) := by decide +kernel
theorem d32_54 : decode jdk_42_method_150_code 54 = .ok (.aload_n 0, 1) := by decide +kernel
theorem d32_55 : decode jdk_42_method_150_code 55 = .ok (.aload_n 3, 1) := by decide +kernel
theorem d32_56 : decode jdk_42_method_150_code 56 = .ok (.iconst 0, 1) := by decide +kernel
theorem d32_57 : decode jdk_42_method_150_code 57 = .ok (.iload 4, 2) := by decide +kernel
theorem d32_59 : decode jdk_42_method_150_code 59 = .ok (.invokestatic 1051, 3) := by decide +kernel
theorem d32_62 : decode jdk_42_method_150_code 62 = .ok (.putfield 9, 3) := by decide +kernel
theorem d32_65 : decode jdk_42_method_150_code 65 = .ok (.aload_n 0, 1) := by decide +kernel
theorem d32_66 : decode jdk_42_method_150_code 66 = .ok (.aload_n 0, 1) := by decide +kernel
theorem d32_67 : decode jdk_42_method_150_code 67 = .ok (.getfield 9, 3) := by decide +kernel
theorem d32_70 : decode jdk_42_method_150_code 70 = .ok (.iload 4, 2) := by decide +kernel
theorem d32_72 : decode jdk_42_method_150_code 72 = .ok (.invokestatic 47, 3) := by decide +kernel
theorem d32_75 : decode jdk_42_method_150_code 75 = .ok (.putfield 15, 3) := by decide +kernel
theorem d32_78 : decode jdk_42_method_150_code 78 = .ok (.return_, 1) := by decide +kernel
theorem d32_79 : decode jdk_42_method_150_code 79 = .ok (.aload_n 0, 1) := by decide +kernel
theorem d32_80 : decode jdk_42_method_150_code 80 = .ok (.iconst 1, 1) := by decide +kernel
theorem d32_81 : decode jdk_42_method_150_code 81 = .ok (.putfield 15, 3) := by decide +kernel
theorem d32_84 : decode jdk_42_method_150_code 84 = .ok (.aload_n 0, 1) := by decide +kernel
theorem d32_85 : decode jdk_42_method_150_code 85 = .ok (.aload_n 3, 1) := by decide +kernel
theorem d32_86 : decode jdk_42_method_150_code 86 = .ok (.iconst 0, 1) := by decide +kernel
theorem d32_87 : decode jdk_42_method_150_code 87 = .ok (.iload 4, 2) := by decide +kernel
theorem d32_89 : decode jdk_42_method_150_code 89 = .ok (.iconst 1, 1) := by decide +kernel
theorem d32_90 : decode jdk_42_method_150_code 90 = .ok (.ishl, 1) := by decide +kernel
theorem d32_91 : decode jdk_42_method_150_code 91 = .ok (.invokestatic 54, 3) := by decide +kernel
theorem d32_94 : decode jdk_42_method_150_code 94 = .ok (.putfield 9, 3) := by decide +kernel
theorem d32_97 : decode jdk_42_method_150_code 97 = .ok (.return_, 1) := by decide +kernel
theorem c_strASB (l : Launch) (Z : State) (a0 : Array Value) (hw : ∀ d ∈ tables_1, d.before a0 Z = true) (hEW : EW Z a0 consts_1) (n0 : Nat) (c1 : Int32) (hc1 : ¬ c1 = 0) (S1 : Sta Z Z.heap "java/lang/String" "COMPACT_STRINGS" "Z" (.int c1)) (s2 a b : Addr) (cap : Nat) (bs : List Value) {h0 : Heap} (o1 : Old Z n0 h0) (ge_s2 : n0 ≤ s2) (hlt : bs.length < cap) (hcap : cap < 2147483648) (hmax : bs.length ≤ 64) (Xs : Exa Z h0 s2 "java/lang/String") (Fv : Fld Z h0 s2 "java/lang/String" "value" "[B" .null) (Fc : Fld Z h0 s2 "java/lang/String" "coder" "B" (.int 0)) (hS : Sbd Z h0 a b cap bs) :
    Con Z a0 l (⟨"java/lang/String", "<init>", "(Ljava/lang/AbstractStringBuilder;Ljava/lang/Void;)V"⟩ : MethodName) jdk_42_method_150_code 5 (none) ({ frames := 3, cells := 1, slots := 64, locals := 72 } : Room) [] #[(.ref s2), (.ref a), .null] consts_1 h0 n0 [s2] [s2] (V0 fun h so => ∃ n, Str Z h s2 n bs ∧ h0.size ≤ n ∧ so = [n]) := by
  refine Con.body (plainFor_of_name pn_java_lang_String) hEW o1 (allS ge_s2 all0) #[.val (.ref s2), .val (.ref a), .val .null, .unset, .unset] (fun m => by first | (simp [entryFrame, mkF, argsToLocals, Value.category]; done) | rfl) ?_
  intro p e s m below meth c B hnm hret hlk G
  replace G := G.aloadN 1 d32_0 rfl rfl rfl |>.initO 4 (hw _ (mm 12 rfl)) (hw _ (mm 13 rfl)) (hw _ (mm 14 rfl)) d32_1 rfl (nle rfl) (nle rfl) rfl |>.aloadN 5 d32_4 rfl rfl rfl
  obtain ⟨vy1, h_1, soy1, G', Ky1, Qy1⟩ := G.callV 8 (hw _ (mm 172 rfl)) (hw _ (mm 173 rfl)) (nfSel (hw _ (mm 175 rfl))) (hw _ (mm 175 rfl)) (hw _ (mm 174 rfl)) (hw _ (mm 53 rfl)) (hw _ (mm 176 rfl)) hS.1 (by decide) [] [] rfl (c_getVal l Z a0 hw hEW n0 c1 hc1 S1 a b cap bs G.old hS) (lenOf pd____B rfl) d32_5 rfl (nle rfl) (nle rfl) (nle rfl) (nle rfl) all0 all0 all0 rfl
  replace G := G'; clear G'
  obtain ⟨wy1, qy1, rfl, ey1, rfl⟩ := Qy1
  replace G := G.val qy1
  subst ey1
  replace G := G.astoreN 9 #[.val (.ref s2), .val (.ref a), .val .null, .val (.ref b), .unset] d32_8 rfl rfl rfl |>.aloadN 10 d32_9 rfl rfl rfl
  obtain ⟨vy2, h_2, soy2, G', Ky2, Qy2⟩ := G.callV 13 (hw _ (mm 177 rfl)) (hw _ (mm 178 rfl)) (nfVia (y := (⟨"java/lang/AbstractStringBuilder", "ensureCapacityInternal", "(I)V"⟩ : MethodName)) rfl (hw _ (mm 91 rfl)) (hw _ (mm 89 rfl))) (hw _ (mm 180 rfl)) (hw _ (mm 181 rfl)) (hw _ (mm 45 rfl)) (hw _ (mm 182 rfl)) hS.1 (by decide) [] [] rfl (c_sbLen l Z a0 hw hEW n0 c1 hc1 S1 a b cap bs G.old hS) (lenOf pd___I rfl) d32_10 rfl (nle rfl) (nle rfl) (nle rfl) (nle rfl) all0 all0 all0 rfl
  replace G := G'; clear G'
  obtain ⟨wy2, qy2, rfl, ey2, rfl⟩ := Qy2
  replace G := G.val qy2
  subst ey2
  replace G := G.istore 15 #[.val (.ref s2), .val (.ref a), .val .null, .val (.ref b), .val (.int (Int32.ofNat bs.length))] d32_13 rfl rfl |>.aloadN 16 d32_15 rfl rfl rfl
  obtain ⟨vy3, h_3, soy3, G', Ky3, Qy3⟩ := G.callV 19 (hw _ (mm 185 rfl)) (hw _ (mm 151 rfl)) (nfSel (hw _ (mm 153 rfl))) (hw _ (mm 153 rfl)) (hw _ (mm 152 rfl)) (hw _ (mm 53 rfl)) (hw _ (mm 154 rfl)) hS.1 (by decide) [] [] rfl (c_isL1 l Z a0 hw hEW n0 c1 hc1 S1 a b cap bs G.old hS) (lenOf pd___Z rfl) d32_16 rfl (nle rfl) (nle rfl) (nle rfl) (nle rfl) all0 all0 all0 rfl
  replace G := G'; clear G'
  obtain ⟨wy3, qy3, rfl, ey3, rfl⟩ := Qy3
  replace G := G.val qy3
  subst ey3
  replace G := G.ifF 22 d32_19 (XT.i0_eq_f (by decide)) rfl |>.aloadN 23 d32_22 rfl rfl rfl |>.iconst 24 (0 : Int32) d32_23 rfl rfl
  have nas : s2 ≠ a := fun q => by subst q; exact absurd rfl (ne_exa Xs hS.1 (by decide))
  have nbs : s2 ≠ b := by obtain ⟨-, -, -, -, kb, Ab⟩ := hS; exact ne_arr Xs (hw _ (mm 2 rfl)) Ab.choose_spec.1
  obtain ⟨h1, G', Wc, Fc, Kc⟩ := G.putf 27 (host := "") (Or.inl (hw _ (mm 27 rfl))) Via.refl Fc Xs (Or.inr ⟨(hw _ (mm 28 rfl)), rfl, hnm⟩) (hw _ (mm 2 rfl)) (ty := .byte) (by decide) rfl rfl (Or.inl (mm 0 rfl)) (mm 0 rfl) d32_24 rfl
  replace G := G'; clear G'
  replace Fv := Fv.other Wc (Or.inr (slot_ne (Or.inr (hw _ (mm 30 rfl))) (Or.inr (hw _ (mm 28 rfl))) (by decide) (t := (.array .byte)) (t' := .byte) (by decide) (by decide)))
  replace Xs := Xs.wr Wc; replace hS := hS.keep Kc (ninS nas.symm nin0) (ninS nbs.symm nin0)
  obtain ⟨kb, Ab⟩ := hS.2.2.2.2
  replace G := G.aloadN 28 d32_27 rfl rfl rfl |>.aloadN 29 d32_28 rfl rfl rfl |>.iconst 30 (0 : Int32) d32_29 rfl rfl |>.iload 32 d32_30 rfl rfl
  obtain ⟨vr, h2, sor, G', Kr, Qr⟩ := G.callS 35 (hw _ (mm 186 rfl)) (hw _ (mm 187 rfl)) (hw _ (mm 135 rfl)) (hw _ (mm 188 rfl)) (by decide) [(.ref b), (.int (0 : Int32)), (.int (Int32.ofNat bs.length))] [(.ref s2)] rfl (c_cor l Z a0 hw hEW n0 c1 hc1 S1 b kb cap bs G.old hlt hcap hmax Ab) (lenOf pd___BII__B rfl) d32_32 rfl (nle rfl) (nle rfl) (nle rfl) (nle rfl) all0 all0 all0 rfl
  replace G := G'; clear G'
  obtain ⟨wr, qr, n, rfl, ⟨kn, An⟩, sn, rfl⟩ := Qr
  replace G := G.val qr
  have nsn : s2 ≠ n := (ne_ge Xs.lt sn).symm
  replace Xs := Xs.keep Kr; replace Fv := Fv.keep Kr nin0; replace Fc := Fc.keep Kr nin0
  obtain ⟨h3, G', Wv, Fv, Kv⟩ := G.putf 38 (host := "") (Or.inl (hw _ (mm 29 rfl))) Via.refl Fv Xs (Or.inr ⟨(hw _ (mm 30 rfl)), rfl, hnm⟩) (hw _ (mm 2 rfl)) (ty := (.array .byte)) (by decide) rfl rfl (Or.inl (mm 0 rfl)) (mm 1 rfl) d32_35 rfl
  replace G := G'; clear G'
  replace Fc := Fc.other Wv (Or.inr (slot_ne (Or.inr (hw _ (mm 28 rfl))) (Or.inr (hw _ (mm 30 rfl))) (by decide) (t := .byte) (t' := (.array .byte)) (by decide) (by decide)))
  replace Xs := Xs.wr Wv; replace An := An.keep Kv (ninS nsn.symm nin0)
  replace G := G.goto 97 d32_38 (by decide) (by decide)
  exact G.retV hret hlk d32_97 [n] (allS (mm 0 rfl) all0) ⟨rfl, n, ⟨Xs, Fc, Fv, kn, An⟩, Nat.le_trans Kc.1 sn, rfl⟩ (nle rfl) (nle rfl)
theorem d31_0 : decode jdk_42_method_53_code 0 = .ok (.aload_n 0, 1) := by decide +kernel
theorem d31_1 : decode jdk_42_method_53_code 1 = .ok (.aload_n 1, 1) := by decide +kernel
theorem d31_2 : decode jdk_42_method_53_code 2 = .ok (.aconst_null, 1) := by decide +kernel
theorem d31_3 : decode jdk_42_method_53_code 3 = .ok (.invokespecial 489, 3) := by decide +kernel
theorem d31_6 : decode jdk_42_method_53_code 6 = .ok (.return_, 1) := by decide +kernel
theorem c_strSB (l : Launch) (Z : State) (a0 : Array Value) (hw : ∀ d ∈ tables_1, d.before a0 Z = true) (hEW : EW Z a0 consts_1) (n0 : Nat) (c1 : Int32) (hc1 : ¬ c1 = 0) (S1 : Sta Z Z.heap "java/lang/String" "COMPACT_STRINGS" "Z" (.int c1)) (s2 a b : Addr) (cap : Nat) (bs : List Value) {h0 : Heap} (o1 : Old Z n0 h0) (ge_s2 : n0 ≤ s2) (hlt : bs.length < cap) (hcap : cap < 2147483648) (hmax : bs.length ≤ 64) (Xs : Exa Z h0 s2 "java/lang/String") (Fv : Fld Z h0 s2 "java/lang/String" "value" "[B" .null) (Fc : Fld Z h0 s2 "java/lang/String" "coder" "B" (.int 0)) (hS : Sbd Z h0 a b cap bs) :
    Con Z a0 l (⟨"java/lang/String", "<init>", "(Ljava/lang/StringBuilder;)V"⟩ : MethodName) jdk_42_method_53_code 2 (none) ({ frames := 4, cells := 1, slots := 64, locals := 88 } : Room) [] #[(.ref s2), (.ref a)] consts_1 h0 n0 [s2] [s2] (V0 fun h so => ∃ n, Str Z h s2 n bs ∧ h0.size ≤ n ∧ so = [n]) := by
  refine Con.body (plainFor_of_name pn_java_lang_String) hEW o1 (allS ge_s2 all0) #[.val (.ref s2), .val (.ref a)] (fun m => by first | (simp [entryFrame, mkF, argsToLocals, Value.category]; done) | rfl) ?_
  intro p e s m below meth c B hnm hret hlk G
  replace G := G.aloadN 1 d31_0 rfl rfl rfl |>.aloadN 2 d31_1 rfl rfl rfl |>.aconstNull 3 d31_2 rfl
  obtain ⟨vi, h1, soi, G', Ki, Qi⟩ := G.callI 6 rfl rfl (hw _ (mm 169 rfl)) (hw _ (mm 170 rfl)) (hw _ (mm 3 rfl)) (hw _ (mm 171 rfl)) (by decide) [(.ref a), .null] [] rfl (c_strASB l Z a0 hw hEW n0 c1 hc1 S1 s2 a b cap bs G.old ge_s2 hlt hcap hmax Xs Fv Fc hS) (lenOf pd__Ljava_lang_AbstractStringBuilder_Ljava_lang_Void__V rfl) d31_3 rfl (nle rfl) (nle rfl) (nle rfl) (nle rfl) (allS (Or.inl (mm 0 rfl)) all0) (allS (mm 0 rfl) all0) (allS (mm 0 rfl) all0) rfl
  replace G := G'; clear G'
  obtain ⟨qi, n, hT, sn, rfl⟩ := Qi
  replace G := G.nov qi
  exact G.retV hret hlk d31_6 [n] (allS (mm 0 rfl) all0) ⟨rfl, n, hT, sn, rfl⟩ (nle rfl) (nle rfl)
theorem d30_0 : decode jdk_67_method_42_code 0 = .ok (.new 18, 3) := by decide +kernel
theorem d30_3 : decode jdk_67_method_42_code 3 = .ok (.dup, 1) := by decide +kernel
theorem d30_4 : decode jdk_67_method_42_code 4 = .ok (.aload_n 0, 1) := by decide +kernel
theorem d30_5 : decode jdk_67_method_42_code 5 = .ok (.invokespecial 137, 3) := by decide +kernel
theorem d30_8 : decode jdk_67_method_42_code 8 = .ok (.areturn, 1) := by decide +kernel
theorem c_toStr (l : Launch) (Z : State) (a0 : Array Value) (hw : ∀ d ∈ tables_1, d.before a0 Z = true) (hEW : EW Z a0 consts_1) (n0 : Nat) (c1 : Int32) (hc1 : ¬ c1 = 0) (S1 : Sta Z Z.heap "java/lang/String" "COMPACT_STRINGS" "Z" (.int c1)) (a b : Addr) (cap : Nat) (bs : List Value) {h0 : Heap} (o1 : Old Z n0 h0) (hlt : bs.length < cap) (hcap : cap < 2147483648) (hmax : bs.length ≤ 64) (hS : Sbd Z h0 a b cap bs) :
    Con Z a0 l (⟨"java/lang/StringBuilder", "toString", "()Ljava/lang/String;"⟩ : MethodName) jdk_67_method_42_code 1 (some (.object "java/lang/String")) ({ frames := 5, cells := 2, slots := 68, locals := 102 } : Room) [] #[(.ref a)] consts_1 h0 n0 [] [] (VV fun w h so => ∃ s2 n, w = .ref s2 ∧ Str Z h s2 n bs ∧ h0.size ≤ s2 ∧ h0.size ≤ n ∧ so = [n, s2]) := by
  refine Con.body (plainFor_of_name pn_java_lang_StringBuilder) hEW o1 all0 #[.val (.ref a)] (fun m => by first | (simp [entryFrame, mkF, argsToLocals, Value.category]; done) | rfl) ?_
  intro p e s m below meth c B hnm hret hlk G
  obtain ⟨s2, h1, G', gs2, ss2, Es2, Xs2, Ds2, Us2⟩ := G.new 3 (hw _ (mm 165 rfl)) (hw _ (mm 2 rfl)) (hw _ (mm 3 rfl)) d30_0 rfl (nle rfl) (nle rfl)
  replace G := G'; clear G'
  have Fv := Ds2 (Or.inr (hw _ (mm 30 rfl))) (ty := .array .byte) (by decide)
  have Fc := Ds2 (Or.inr (hw _ (mm 28 rfl))) (ty := .byte) (by decide)
  replace hS := hS.ext Es2
  replace G := G.dup 4 d30_3 rfl rfl |>.aloadN 5 d30_4 rfl rfl rfl
  obtain ⟨vi, h2, soi, G', Ki, Qi⟩ := G.callI 8 rfl rfl (hw _ (mm 166 rfl)) (hw _ (mm 167 rfl)) (hw _ (mm 3 rfl)) (hw _ (mm 168 rfl)) (by decide) [(.ref a)] [(.ref s2)] rfl (c_strSB l Z a0 hw hEW n0 c1 hc1 S1 s2 a b cap bs G.old (Nat.le_trans (G.nw (Or.inr ss2)) (Nat.le_refl _)) hlt hcap hmax Xs2 Fv Fc hS) (lenOf pd__Ljava_lang_StringBuilder__V rfl) d30_5 rfl (nle rfl) (nle rfl) (nle rfl) (nle rfl) (allS (Or.inr ss2) all0) (allS (mm 0 rfl) all0) (allS (mm 0 rfl) all0) rfl
  replace G := G'; clear G'
  obtain ⟨qi, n, hT, sn, rfl⟩ := Qi
  replace G := G.nov qi
  exact G.retA hret rfl rfl hlk d30_8 [n, s2] (allS (mm 0 rfl) (allS (mm 1 rfl) all0)) ⟨_, rfl, s2, n, rfl, hT, ss2, Nat.le_trans Es2.1 sn, rfl⟩ (nle rfl) (nle rfl)
theorem d5_0 : decode jdk_52_method_21_code 0 = .ok (.iconst 0, 1) := by decide +kernel
theorem d5_1 : decode jdk_52_method_21_code 1 = .ok (.istore 5, 2) := by decide +kernel
theorem d5_3 : decode jdk_52_method_21_code 3 = .ok (.iload 5, 2) := by decide +kernel
theorem d5_5 : decode jdk_52_method_21_code 5 = .ok (.iload 4, 2) := by decide +kernel
theorem d5_7 : decode jdk_52_method_21_code 7 = .ok (.if_icmp .ge 37, 3) := by decide +kernel
theorem d5_10 : decode jdk_52_method_21_code 10 = .ok (.aload_n 0, 1) := by decide +kernel
theorem d5_11 : decode jdk_52_method_21_code 11 = .ok (.iload_n 1, 1) := by decide +kernel
theorem d5_12 : decode jdk_52_method_21_code 12 = .ok (.caload, 1) := by decide +kernel
theorem d5_13 : decode jdk_52_method_21_code 13 = .ok (.istore 6, 2) := by decide +kernel
theorem d5_15 : decode jdk_52_method_21_code 15 = .ok (.iload 6, 2) := by decide +kernel
theorem d5_17 : decode jdk_52_method_21_code 17 = .ok (.sipush 255, 3) := by decide +kernel
theorem d5_20 : decode jdk_52_method_21_code 20 = .ok (.if_icmp .le 6, 3) := by decide +kernel
theorem d5_23 : decode jdk_52_method_21_code 23 = .ok (.iload 5, 2) := by decide +kernel
theorem d5_25 : decode jdk_52_method_21_code 25 = .ok (.ireturn, 1) := by decide +kernel
theorem d5_26 : decode jdk_52_method_21_code 26 = .ok (.aload_n 2, 1) := by decide +kernel
theorem d5_27 : decode jdk_52_method_21_code 27 = .ok (.iload_n 3, 1) := by decide +kernel
theorem d5_28 : decode jdk_52_method_21_code 28 = .ok (.iload 6, 2) := by decide +kernel
theorem d5_30 : decode jdk_52_method_21_code 30 = .ok (.i2b, 1) := by decide +kernel
theorem d5_31 : decode jdk_52_method_21_code 31 = .ok (.bastore, 1) := by decide +kernel
theorem d5_32 : decode jdk_52_method_21_code 32 = .ok (.iinc 1 1, 3) := by decide +kernel
theorem d5_35 : decode jdk_52_method_21_code 35 = .ok (.iinc 3 1, 3) := by decide +kernel
theorem d5_38 : decode jdk_52_method_21_code 38 = .ok (.iinc 5 1, 3) := by decide +kernel
theorem d5_41 : decode jdk_52_method_21_code 41 = .ok (.goto (-38), 3) := by decide +kernel
theorem d5_44 : decode jdk_52_method_21_code 44 = .ok (.iload 4, 2) := by decide +kernel
theorem d5_46 : decode jdk_52_method_21_code 46 = .ok (.ireturn, 1) := by decide +kernel
theorem c_cmpL (l : Launch) (Z : State) (a0 : Array Value) (hw : ∀ d ∈ tables_1, d.before a0 Z = true) (hEW : EW Z a0 consts_1) (n0 : Nat) (c1 : Int32) (hc1 : ¬ c1 = 0) (S1 : Sta Z Z.heap "java/lang/String" "COMPACT_STRINGS" "Z" (.int c1)) (va d : Addr) (kv kd : ClassId) (cs : List Int32) {h0 : Heap} (o1 : Old Z n0 h0) (ge_d : n0 ≤ d) (hne : 0 < cs.length) (hn : cs.length < 2147483648) (hc : ∀ x ∈ cs, ¬ (255 : Int32) < x) (nvd : va ≠ d) (Av : Arv Z h0 va kv .char (Int32.ofNat cs.length) (cs.map Value.int) (.int 0)) (Ad : Arv Z h0 d kd .byte (Int32.ofNat cs.length) [] (.int 0)) :
    Con Z a0 l (⟨"java/lang/StringUTF16", "compress", "([CI[BII)I"⟩ : MethodName) jdk_52_method_21_code 7 (some .int) ({ frames := 0, cells := 0, slots := 0, locals := 0 } : Room) [] #[(.ref va), (.int (0 : Int32)), (.ref d), (.int (0 : Int32)), (.int (Int32.ofNat cs.length))] consts_1 h0 n0 [d] [d] (VV fun w h so => w = .int (Int32.ofNat cs.length) ∧ Arv Z h d kd .byte (Int32.ofNat cs.length) (cs.map bytV) (.int 0) ∧ so = []) := by
  refine Con.body (plainFor_of_name pn_java_lang_StringUTF16) hEW o1 (allS ge_d all0) #[.val (.ref va), .val (.int (0 : Int32)), .val (.ref d), .val (.int (0 : Int32)), .val (.int (Int32.ofNat cs.length)), .unset, .unset] (fun m => by first | (simp [entryFrame, mkF, argsToLocals, Value.category]; done) | rfl) ?_
  intro p e s m below meth c B hnm hret hlk G
  have loop : ∀ (k : Nat) (h : Heap) (i : Nat) (cc : Int32), i + k = cs.length → Arv Z h va kv .char (Int32.ofNat cs.length) (cs.map Value.int) (.int 0) → Arv Z h d kd .byte (Int32.ofNat cs.length) ((cs.take i).map bytV) (.int 0) → Wl Z a0 "java/lang/StringUTF16" p l e ({ frames := 0, cells := 0, slots := 0, locals := 0 } : Room) s m #[(.ref va), (.int (0 : Int32)), (.ref d), (.int (0 : Int32)), (.int (Int32.ofNat cs.length))] below meth c jdk_52_method_21_code 7 B consts_1 h0 n0 [d] [d] h 0 0 3 #[.val (.ref va), .val (.int (Int32.ofNat i)), .val (.ref d), .val (.int (Int32.ofNat i)), .val (.int (Int32.ofNat cs.length)), .val (.int (Int32.ofNat i)), .val (.int cc)] [] → Fin Z consts_1 p e below B s h0 n0 [d] ({ frames := 0, cells := 0, slots := 0, locals := 0 } : Room).cells ({ frames := 0, cells := 0, slots := 0, locals := 0 } : Room).slots (VV fun w h so => w = .int (Int32.ofNat cs.length) ∧ Arv Z h d kd .byte (Int32.ofNat cs.length) (cs.map bytV) (.int 0) ∧ so = []) := by
    intro k; induction k with
    | zero =>
      intro h i cc hik Av Ad G
      obtain rfl : i = cs.length := by omega
      replace G := G.iload 5 d5_3 rfl rfl |>.iload 7 d5_5 rfl rfl |>.icmpT 44 d5_7 (XT.ii_ge_t (ofn_nlt (Nat.le_refl _) hn)) (by decide) (by decide) |>.iload 46 d5_44 rfl rfl
      rw [List.take_length] at Ad
      exact G.retI hret hlk d5_46 [] all0 ⟨_, rfl, rfl, Ad, rfl⟩ (nle rfl) (nle rfl)
    | succ k ih =>
      intro h i cc hik Av Ad G
      have hi : i < cs.length := by omega
      replace G := G.iload 5 d5_3 rfl rfl |>.iload 7 d5_5 rfl rfl |>.icmpF 10 d5_7 (XT.ii_ge_f (ofn_lt hi hn)) rfl |>.aloadN 11 d5_10 rfl rfl rfl |>.iloadN 12 d5_11 rfl rfl
      have hci := hc _ (getD_mem cs i hi)
      replace G := G.caload 13 (v := (.int (cs.getD i 0))) Av ⟨ofn_nn (by omega), ofn_lt hi hn⟩ (by rw [ofn_nat (by omega)]; exact getD_map cs i hi) d5_12 rfl |>.istore 15 #[.val (.ref va), .val (.int (Int32.ofNat i)), .val (.ref d), .val (.int (Int32.ofNat i)), .val (.int (Int32.ofNat cs.length)), .val (.int (Int32.ofNat i)), .val (.int (cs.getD i 0))] d5_13 rfl rfl |>.iload 17 d5_15 rfl rfl |>.sipush 20 (255 : Int32) d5_17 (by decide) rfl |>.icmpT 26 d5_20 (XT.ii_le_t hci) (by decide) (by decide) |>.aloadN 27 d5_26 rfl rfl rfl |>.iloadN 28 d5_27 rfl rfl |>.iload 30 d5_28 rfl rfl
      replace G := G.i2b 31 d5_30 rfl
      have Ad' := Ad.pad (vs' := (cs.take i).map bytV ++ [(.int 0)]) (pad_rep _ (.int 0) 1)
      have hlen : ((cs.take i).map bytV).length = i := by first | (simp; done) | (simp; omega)
      obtain ⟨h2, G', As, Ks⟩ := G.bastore 32 i Ad' ⟨ofn_nn (by omega), ofn_lt hi hn⟩ (ofn_nat (by omega)) (by rw [List.length_append, hlen]; simp) (Or.inl (mm 0 rfl)) (mm 0 rfl) d5_31 rfl
      replace G := G'; clear G'
      rw [set_app _ _ _ _ hlen, byt2] at As
      replace Ad : Arv Z h2 d kd .byte (Int32.ofNat cs.length) ((cs.take (i + 1)).map bytV) (.int 0) := by rw [tk_succ cs bytV i hi]; exact As
      replace Av := Av.keep Ks (ninS nvd nin0)
      replace G := G.iincV 35 #[.val (.ref va), .val (.int (Int32.ofNat (i + 1))), .val (.ref d), .val (.int (Int32.ofNat i)), .val (.int (Int32.ofNat cs.length)), .val (.int (Int32.ofNat i)), .val (.int (cs.getD i 0))] (Int32.ofNat (i + 1)) d5_32 rfl (ofn_succ i) rfl rfl |>.iincV 38 #[.val (.ref va), .val (.int (Int32.ofNat (i + 1))), .val (.ref d), .val (.int (Int32.ofNat (i + 1))), .val (.int (Int32.ofNat cs.length)), .val (.int (Int32.ofNat i)), .val (.int (cs.getD i 0))] (Int32.ofNat (i + 1)) d5_35 rfl (ofn_succ i) rfl rfl |>.iincV 41 #[.val (.ref va), .val (.int (Int32.ofNat (i + 1))), .val (.ref d), .val (.int (Int32.ofNat (i + 1))), .val (.int (Int32.ofNat cs.length)), .val (.int (Int32.ofNat (i + 1))), .val (.int (cs.getD i 0))] (Int32.ofNat (i + 1)) d5_38 rfl (ofn_succ i) rfl rfl |>.goto 3 d5_41 (by decide) (by decide)
      exact ih _ (i + 1) _ (by omega) Av Ad G
  have hi : 0 < cs.length := hne
  replace G := G.iconst 1 (0 : Int32) d5_0 rfl rfl |>.istore 3 #[.val (.ref va), .val (.int (0 : Int32)), .val (.ref d), .val (.int (0 : Int32)), .val (.int (Int32.ofNat cs.length)), .val (.int (0 : Int32)), .unset] d5_1 rfl rfl
  replace Ad : Arv Z h0 d kd .byte (Int32.ofNat cs.length) ((cs.take 0).map bytV) (.int 0) := Ad
  replace G : Wl Z a0 "java/lang/StringUTF16" p l e ({ frames := 0, cells := 0, slots := 0, locals := 0 } : Room) s m #[(.ref va), (.int (0 : Int32)), (.ref d), (.int (0 : Int32)), (.int (Int32.ofNat cs.length))] below meth c jdk_52_method_21_code 7 B consts_1 h0 n0 [d] [d] h0 0 0 3 #[.val (.ref va), .val (.int (Int32.ofNat 0)), .val (.ref d), .val (.int (Int32.ofNat 0)), .val (.int (Int32.ofNat cs.length)), .val (.int (Int32.ofNat 0)), .unset] [] := G
  replace G := G.iload 5 d5_3 rfl rfl |>.iload 7 d5_5 rfl rfl |>.icmpF 10 d5_7 (XT.ii_ge_f (ofn_lt hi hn)) rfl |>.aloadN 11 d5_10 rfl rfl rfl |>.iloadN 12 d5_11 rfl rfl
  have hci := hc _ (getD_mem cs 0 hi)
  replace G := G.caload 13 (v := (.int (cs.getD 0 0))) Av ⟨ofn_nn (by omega), ofn_lt hi hn⟩ (by rw [ofn_nat (by omega)]; exact getD_map cs 0 hi) d5_12 rfl |>.istore 15 #[.val (.ref va), .val (.int (Int32.ofNat 0)), .val (.ref d), .val (.int (Int32.ofNat 0)), .val (.int (Int32.ofNat cs.length)), .val (.int (Int32.ofNat 0)), .val (.int (cs.getD 0 0))] d5_13 rfl rfl |>.iload 17 d5_15 rfl rfl |>.sipush 20 (255 : Int32) d5_17 (by decide) rfl |>.icmpT 26 d5_20 (XT.ii_le_t hci) (by decide) (by decide) |>.aloadN 27 d5_26 rfl rfl rfl |>.iloadN 28 d5_27 rfl rfl |>.iload 30 d5_28 rfl rfl
  replace G := G.i2b 31 d5_30 rfl
  have Ad' := Ad.pad (vs' := (cs.take 0).map bytV ++ [(.int 0)]) (pad_rep _ (.int 0) 1)
  have hlen : ((cs.take 0).map bytV).length = 0 := by first | (simp; done) | (simp; omega)
  obtain ⟨h2, G', As, Ks⟩ := G.bastore 32 0 Ad' ⟨ofn_nn (by omega), ofn_lt hi hn⟩ (ofn_nat (by omega)) (by rw [List.length_append, hlen]; simp) (Or.inl (mm 0 rfl)) (mm 0 rfl) d5_31 rfl
  replace G := G'; clear G'
  rw [set_app _ _ _ _ hlen, byt2] at As
  replace Ad : Arv Z h2 d kd .byte (Int32.ofNat cs.length) ((cs.take (0 + 1)).map bytV) (.int 0) := by rw [tk_succ cs bytV 0 hi]; exact As
  replace Av := Av.keep Ks (ninS nvd nin0)
  replace G := G.iincV 35 #[.val (.ref va), .val (.int (Int32.ofNat (0 + 1))), .val (.ref d), .val (.int (Int32.ofNat 0)), .val (.int (Int32.ofNat cs.length)), .val (.int (Int32.ofNat 0)), .val (.int (cs.getD 0 0))] (Int32.ofNat (0 + 1)) d5_32 rfl (ofn_succ 0) rfl rfl |>.iincV 38 #[.val (.ref va), .val (.int (Int32.ofNat (0 + 1))), .val (.ref d), .val (.int (Int32.ofNat (0 + 1))), .val (.int (Int32.ofNat cs.length)), .val (.int (Int32.ofNat 0)), .val (.int (cs.getD 0 0))] (Int32.ofNat (0 + 1)) d5_35 rfl (ofn_succ 0) rfl rfl |>.iincV 41 #[.val (.ref va), .val (.int (Int32.ofNat (0 + 1))), .val (.ref d), .val (.int (Int32.ofNat (0 + 1))), .val (.int (Int32.ofNat cs.length)), .val (.int (Int32.ofNat (0 + 1))), .val (.int (cs.getD 0 0))] (Int32.ofNat (0 + 1)) d5_38 rfl (ofn_succ 0) rfl rfl |>.goto 3 d5_41 (by decide) (by decide)
  exact loop (cs.length - 1) _ 1 _ (by omega) Av Ad G
theorem d4_0 : decode jdk_52_method_16_code 0 = .ok (.iload_n 2, 1) := by decide +kernel
theorem d4_1 : decode jdk_52_method_16_code 1 = .ok (.newarray .byte, 2) := by decide +kernel
theorem d4_3 : decode jdk_52_method_16_code 3 = .ok (.astore_n 3, 1) := by decide +kernel
theorem d4_4 : decode jdk_52_method_16_code 4 = .ok (.aload_n 0, 1) := by decide +kernel
theorem d4_5 : decode jdk_52_method_16_code 5 = .ok (.iload_n 1, 1) := by decide +kernel
theorem d4_6 : decode jdk_52_method_16_code 6 = .ok (.aload_n 3, 1) := by decide +kernel
theorem d4_7 : decode jdk_52_method_16_code 7 = .ok (.iconst 0, 1) := by decide +kernel
theorem d4_8 : decode jdk_52_method_16_code 8 = .ok (.iload_n 2, 1) := by decide +kernel
theorem d4_9 : decode jdk_52_method_16_code 9 = .ok (.invokestatic 115, 3) := by decide +kernel
theorem d4_12 : decode jdk_52_method_16_code 12 = .ok (.istore 4, 2) := by decide +kernel
theorem d4_14 : decode jdk_52_method_16_code 14 = .ok (.iload 4, 2) := by decide +kernel
theorem d4_16 : decode jdk_52_method_16_code 16 = .ok (.iload_n 2, 1) := by decide +kernel
theorem d4_17 : decode jdk_52_method_16_code 17 = .ok (.if_icmp .eq 40, 3) := by decide +kernel
theorem d4_20 : decode jdk_52_method_16_code 20 = .ok (.aload_n 0, 1) := by decide +kernel
theorem d4_21 : decode jdk_52_method_16_code 21 = .ok (.iload_n 1, 1) := by decide +kernel
theorem d4_22 : decode jdk_52_method_16_code 22 = .ok (.iload_n 2, 1) := by decide +kernel
theorem d4_23 : decode jdk_52_method_16_code 23 = .ok (.invokestatic 119, 3) := by decide +kernel
theorem d4_26 : decode jdk_52_method_16_code 26 = .ok (.astore 5, 2) := by decide +kernel
theorem d4_28 : decode jdk_52_method_16_code 28 = .ok (.aload 5, 2) := by decide +kernel
theorem d4_30 : decode jdk_52_method_16_code 30 = .ok (.iload 4, 2) := by decide +kernel
theorem d4_32 : decode jdk_52_method_16_code 32 = .ok (.invokestatic 71, 3) := by decide +kernel
theorem d4_35 : decode jdk_52_method_16_code 35 = .ok (.sipush 255, 3) := by decide +kernel
theorem d4_38 : decode jdk_52_method_16_code 38 = .ok (.if_icmp .gt 16, 3) := by decide +kernel
theorem d4_41 : decode jdk_52_method_16_code 41 = .ok (.aload 5, 2) := by decide +kernel
theorem d4_43 : decode jdk_52_method_16_code 43 = .ok (.iconst 0, 1) := by decide +kernel
theorem d4_44 : decode jdk_52_method_16_code 44 = .ok (.aload_n 3, 1) := by decide +kernel
theorem d4_45 : decode jdk_52_method_16_code 45 = .ok (.iconst 0, 1) := by decide +kernel
theorem d4_46 : decode jdk_52_method_16_code 46 = .ok (.iload_n 2, 1) := by decide +kernel
theorem d4_47 : decode jdk_52_method_16_code 47 = .ok (.invokestatic 123, 3) := by decide +kernel
theorem d4_50 : decode jdk_52_method_16_code 50 = .ok (.iload_n 2, 1) := by decide +kernel
theorem d4_51 : decode jdk_52_method_16_code 51 = .ok (.if_icmp .eq 6, 3) := by decide +kernel
theorem d4_54 : decode jdk_52_method_16_code 54 = .ok (.aload 5, 2) := by decide +kernel
theorem d4_56 : decode jdk_52_method_16_code 56 = .ok (.areturn, 1) := by decide +kernel
theorem d4_57 : decode jdk_52_method_16_code 57 = .ok (.aload_n 3, 1) := by decide +kernel
theorem d4_58 : decode jdk_52_method_16_code 58 = .ok (.areturn, 1) := by decide +kernel
theorem c_cmpA (l : Launch) (Z : State) (a0 : Array Value) (hw : ∀ d ∈ tables_1, d.before a0 Z = true) (hEW : EW Z a0 consts_1) (n0 : Nat) (c1 : Int32) (hc1 : ¬ c1 = 0) (S1 : Sta Z Z.heap "java/lang/String" "COMPACT_STRINGS" "Z" (.int c1)) (va : Addr) (kv : ClassId) (cs : List Int32) {h0 : Heap} (o1 : Old Z n0 h0) (hne : 0 < cs.length) (hmax : cs.length ≤ 30) (hc : ∀ x ∈ cs, ¬ (255 : Int32) < x) (Av : Arv Z h0 va kv .char (Int32.ofNat cs.length) (cs.map Value.int) (.int 0)) :
    Con Z a0 l (⟨"java/lang/StringUTF16", "compress", "([CII)[B"⟩ : MethodName) jdk_52_method_16_code 6 (some (.array .byte)) ({ frames := 1, cells := 1, slots := 30, locals := 18 } : Room) [] #[(.ref va), (.int (0 : Int32)), (.int (Int32.ofNat cs.length))] consts_1 h0 n0 [] [] (VV fun w h so => ∃ d, w = .ref d ∧ (∃ k, Arv Z h d k .byte (Int32.ofNat cs.length) (cs.map bytV) (.int 0)) ∧ h0.size ≤ d ∧ so = [d]) := by
  refine Con.body (plainFor_of_name pn_java_lang_StringUTF16) hEW o1 all0 #[.val (.ref va), .val (.int (0 : Int32)), .val (.int (Int32.ofNat cs.length)), .unset, .unset, .unset] (fun m => by first | (simp [entryFrame, mkF, argsToLocals, Value.category]; done) | rfl) ?_
  intro p e s m below meth c B hnm hret hlk G
  have hn : cs.length < 2147483648 := by omega
  replace G := G.iloadN 1 d4_0 rfl rfl
  obtain ⟨d, h1, kd, G', gd, sd, Ed, Ad⟩ := G.newarray 3 (hw _ (mm 20 rfl)) d4_1 (ofn_nn hn) 30 (by rw [ofn_nat hn]; exact hmax) (by decide) rfl (nle rfl) (nle rfl)
  replace G := G'; clear G'
  have nvd : va ≠ d := ne_new gd Av.lt
  replace Av := Av.ext Ed
  replace G := G.astoreN 4 #[.val (.ref va), .val (.int (0 : Int32)), .val (.int (Int32.ofNat cs.length)), .val (.ref d), .unset, .unset] d4_3 rfl rfl rfl |>.aloadN 5 d4_4 rfl rfl rfl |>.iloadN 6 d4_5 rfl rfl |>.aloadN 7 d4_6 rfl rfl rfl |>.iconst 8 (0 : Int32) d4_7 rfl rfl |>.iloadN 9 d4_8 rfl rfl
  obtain ⟨vc, h2, soc, G', Kc, Qc⟩ := G.callS 12 (hw _ (mm 21 rfl)) (hw _ (mm 22 rfl)) (hw _ (mm 18 rfl)) (hw _ (mm 23 rfl)) (by decide) [(.ref va), (.int (0 : Int32)), (.ref d), (.int (0 : Int32)), (.int (Int32.ofNat cs.length))] [] rfl (c_cmpL l Z a0 hw hEW n0 c1 hc1 S1 va d kv kd cs G.old (G.nw (Or.inr sd)) hne hn hc nvd Av Ad) (lenOf pd___CI_BII_I rfl) d4_9 rfl (nle rfl) (nle rfl) (nle rfl) (nle rfl) (allS (Or.inr sd) all0) (allS (mm 0 rfl) all0) (allS (mm 0 rfl) all0) rfl
  replace G := G'; clear G'
  obtain ⟨wc, qc, rfl, Ad, rfl⟩ := Qc
  replace G := G.val qc |>.istore 14 #[.val (.ref va), .val (.int (0 : Int32)), .val (.int (Int32.ofNat cs.length)), .val (.ref d), .val (.int (Int32.ofNat cs.length)), .unset] d4_12 rfl rfl |>.iload 16 d4_14 rfl rfl |>.iloadN 17 d4_16 rfl rfl |>.icmpT 57 d4_17 (XT.ii_eq_t rfl) (by decide) (by decide) |>.aloadN 58 d4_57 rfl rfl rfl
  exact G.retA hret rfl rfl hlk d4_58 [d] (allS (mm 0 rfl) all0) ⟨_, rfl, d, rfl, ⟨kd, Ad⟩, sd, rfl⟩ (nle rfl) (nle rfl)
theorem d6_0 : decode jdk_52_method_15_code 0 = .ok (.iload_n 1, 1) := by decide +kernel
theorem d6_1 : decode jdk_52_method_15_code 1 = .ok (.aload_n 0, 1) := by decide +kernel
theorem d6_2 : decode jdk_52_method_15_code 2 = .ok (.arraylength, 1) := by decide +kernel
theorem d6_3 : decode jdk_52_method_15_code 3 = .ok (.isub, 1) := by decide +kernel
theorem d6_4 : decode jdk_52_method_15_code 4 = .ok (.bipush 31, 2) := by decide +kernel
theorem d6_6 : decode jdk_52_method_15_code 6 = .ok (.iushr, 1) := by decide +kernel
theorem d6_7 : decode jdk_52_method_15_code 7 = .ok (.i2b, 1) := by decide +kernel
theorem d6_8 : decode jdk_52_method_15_code 8 = .ok (.ireturn, 1) := by decide +kernel
theorem c_cod (l : Launch) (Z : State) (a0 : Array Value) (hw : ∀ d ∈ tables_1, d.before a0 Z = true) (hEW : EW Z a0 consts_1) (n0 : Nat) (c1 : Int32) (hc1 : ¬ c1 = 0) (S1 : Sta Z Z.heap "java/lang/String" "COMPACT_STRINGS" "Z" (.int c1)) (b : Addr) (kb : ClassId) (z : Int32) (vs : List Value) {h0 : Heap} (o1 : Old Z n0 h0) (Ab : Arv Z h0 b kb .byte z vs (.int 0)) :
    Con Z a0 l (⟨"java/lang/StringUTF16", "coderFromArrayLen", "([BI)B"⟩ : MethodName) jdk_52_method_15_code 2 (some .byte) ({ frames := 0, cells := 0, slots := 0, locals := 0 } : Room) [] #[(.ref b), (.int z)] consts_1 h0 n0 [] [] (VV fun w h so => w = .int 0 ∧ h = h0 ∧ so = []) := by
  refine Con.body (plainFor_of_name pn_java_lang_StringUTF16) hEW o1 all0 #[.val (.ref b), .val (.int z)] (fun m => by first | (simp [entryFrame, mkF, argsToLocals, Value.category]; done) | rfl) ?_
  intro p e s m below meth c B hnm hret hlk G
  replace G := G.iloadN 1 d6_0 rfl rfl |>.aloadN 2 d6_1 rfl rfl rfl |>.alen 3 Ab d6_2 rfl |>.isub 4 d6_3 rfl |>.bipush 6 (31 : Int32) d6_4 (by decide) rfl |>.iushr 7 d6_6 rfl |>.top (y := (.int (0 : Int32))) (congrArg Value.int (cod0 z)) |>.i2b 8 d6_7 rfl
  exact G.retN hret (Or.inr (Or.inl rfl)) hlk d6_8 [] all0 ⟨_, rfl, rfl, rfl, rfl⟩ (nle rfl) (nle rfl)
theorem d2_0 : decode jdk_42_method_149_code 0 = .ok (.aload_n 0, 1) := by decide +kernel
theorem d2_1 : decode jdk_42_method_149_code 1 = .ok (.invokespecial 1, 3) := by decide +kernel
theorem d2_4 : decode jdk_42_method_149_code 4 = .ok (.iload_n 3, 1) := by decide +kernel
theorem d2_5 : decode jdk_42_method_149_code 5 = .ok (.ifCond .ne 22, 3) := by decide +kernel
theorem d2_8 : decode jdk_42_method_149_code 8 = .ok (.aload_n 0, 1) := by decide +kernel
theorem d2_9 : decode jdk_42_method_149_code 9 = .ok (.ldc 7, 2) := by decide +kernel
theorem d2_11 : decode jdk_42_method_149_code 11 = .ok (.getfield 9, 3) := by decide +kernel
theorem d2_14 : decode jdk_42_method_149_code 14 = .ok (.putfield 9, 3) := by decide +kernel
theorem d2_17 : decode jdk_42_method_149_code 17 = .ok (.aload_n 0, 1) := by decide +kernel
theorem d2_18 : decode jdk_42_method_149_code 18 = .ok (.ldc 7, 2) := by decide +kernel
theorem d2_20 : decode jdk_42_method_149_code 20 = .ok (.getfield 15, 3) := by decide +kernel
theorem d2_23 : decode jdk_42_method_149_code 23 = .ok (.putfield 15, 3) := by decide +kernel
theorem d2_26 : decode jdk_42_method_149_code 26 = .ok (.return_, 1) := by decide +kernel
theorem d2_27 : decode jdk_42_method_149_code 27 = .ok (.getstatic 38, 3) := by decide +kernel
theorem d2_30 : decode jdk_42_method_149_code 30 = .ok (.ifCond .eq 28, 3) := by decide +kernel
theorem d2_33 : decode jdk_42_method_149_code 33 = .ok (.aload_n 1, 1) := by decide +kernel
theorem d2_34 : decode jdk_42_method_149_code 34 = .ok (.iload_n 2, 1) := by decide +kernel
theorem d2_35 : decode jdk_42_method_149_code 35 = .ok (.iload_n 3, 1) := by decide +kernel
theorem d2_36 : decode jdk_42_method_149_code 36 = .ok (.invokestatic 177, 3) := by decide +kernel
theorem d2_39 : decode jdk_42_method_149_code 39 = .ok (.astore 5, 2) := by decide +kernel
theorem d2_41 : decode jdk_42_method_149_code 41 = .ok (.aload_n 0, 1) := by decide +kernel
theorem d2_42 : decode jdk_42_method_149_code 42 = .ok (.aload 5, 2) := by decide +kernel
theorem d2_44 : decode jdk_42_method_149_code 44 = .ok (.iload_n 3, 1) := by decide +kernel
theorem d2_45 : decode jdk_42_method_149_code 45 = .ok (.invokestatic 47, 3) := by decide +kernel
theorem d2_48 : decode jdk_42_method_149_code 48 = .ok (.putfield 15, 3) := by decide +kernel
theorem d2_51 : decode jdk_42_method_149_code 51 = .ok (.aload_n 0, 1) := by decide +kernel
theorem d2_52 : decode jdk_42_method_149_code 52 = .ok (.aload 5, 2) := by decide +kernel
theorem d2_54 : decode jdk_42_method_149_code 54 = .ok (.putfield 9, 3) := by decide +kernel
theorem d2_57 : decode jdk_42_method_149_code 57 = .ok (.return_, 1) := by decide +kernel
theorem d2_58 : decode jdk_42_method_149_code 58 = .ok (.aload_n 0, 1) := by decide +kernel
theorem d2_59 : decode jdk_42_method_149_code 59 = .ok (.iconst 1, 1) := by decide +kernel
theorem d2_60 : decode jdk_42_method_149_code 60 = .ok (.putfield 15, 3) := by decide +kernel
theorem d2_63 : decode jdk_42_method_149_code 63 = .ok (.aload_n 0, 1) := by decide +kernel
theorem d2_64 : decode jdk_42_method_149_code 64 = .ok (.aload_n 1, 1) := by decide +kernel
theorem d2_65 : decode jdk_42_method_149_code 65 = .ok (.iload_n 2, 1) := by decide +kernel
theorem d2_66 : decode jdk_42_method_149_code 66 = .ok (.iload_n 3, 1) := by decide +kernel
theorem d2_67 : decode jdk_42_method_149_code 67 = .ok (.invokestatic 180, 3) := by decide +kernel
theorem d2_70 : decode jdk_42_method_149_code 70 = .ok (.putfield 9, 3) := by decide +kernel
theorem d2_73 : decode jdk_42_method_149_code 73 = .ok (.return_, 1) := by decide +kernel
theorem c_strCV (l : Launch) (Z : State) (a0 : Array Value) (hw : ∀ d ∈ tables_1, d.before a0 Z = true) (hEW : EW Z a0 consts_1) (n0 : Nat) (c1 : Int32) (hc1 : ¬ c1 = 0) (S1 : Sta Z Z.heap "java/lang/String" "COMPACT_STRINGS" "Z" (.int c1)) (a va : Addr) (kv : ClassId) (cs : List Int32) {h0 : Heap} (o1 : Old Z n0 h0) (ge_a : n0 ≤ a) (Xa : Exa Z h0 a "java/lang/String") (Fv : Fld Z h0 a "java/lang/String" "value" "[B" .null) (Fc : Fld Z h0 a "java/lang/String" "coder" "B" (.int 0)) (hne : 0 < cs.length) (hmax : cs.length ≤ 30) (hc : ∀ x ∈ cs, ¬ (255 : Int32) < x) (Av : Arv Z h0 va kv .char (Int32.ofNat cs.length) (cs.map Value.int) (.int 0)) :
    Con Z a0 l (⟨"java/lang/String", "<init>", "([CIILjava/lang/Void;)V"⟩ : MethodName) jdk_42_method_149_code 6 (none) ({ frames := 2, cells := 1, slots := 30, locals := 35 } : Room) [] #[(.ref a), (.ref va), (.int (0 : Int32)), (.int (Int32.ofNat cs.length)), .null] consts_1 h0 n0 [a] [a] (V0 fun h so => ∃ b, Str Z h a b (cs.map bytV) ∧ h0.size ≤ b ∧ so = [b]) := by
  refine Con.body (plainFor_of_name pn_java_lang_String) hEW o1 (allS ge_a all0) #[.val (.ref a), .val (.ref va), .val (.int (0 : Int32)), .val (.int (Int32.ofNat cs.length)), .val .null, .unset] (fun m => by first | (simp [entryFrame, mkF, argsToLocals, Value.category]; done) | rfl) ?_
  intro p e s m below meth c B hnm hret hlk G
  have hn : cs.length < 2147483648 := by omega
  replace G := G.aloadN 1 d2_0 rfl rfl rfl |>.initO 4 (hw _ (mm 12 rfl)) (hw _ (mm 13 rfl)) (hw _ (mm 14 rfl)) d2_1 rfl (nle rfl) (nle rfl) rfl |>.iloadN 5 d2_4 rfl rfl |>.ifT 27 d2_5 (XT.i0_ne_t (ofn_ne (n := 0) (by omega) hn (by decide))) (by decide) (by decide) |>.gets 30 (host := "") (Or.inl (hw _ (mm 15 rfl))) Via.refl (G.sta S1) d2_27 rfl |>.ifF 33 d2_30 (XT.i0_eq_f hc1) rfl |>.aloadN 34 d2_33 rfl rfl rfl |>.iloadN 35 d2_34 rfl rfl
  replace G := G.iloadN 36 d2_35 rfl rfl
  obtain ⟨vc, h1, soc, G', Kc, Qc⟩ := G.callS 39 (hw _ (mm 16 rfl)) (hw _ (mm 17 rfl)) (hw _ (mm 18 rfl)) (hw _ (mm 19 rfl)) (by decide) [(.ref va), (.int (0 : Int32)), (.int (Int32.ofNat cs.length))] [] rfl (c_cmpA l Z a0 hw hEW n0 c1 hc1 S1 va kv cs G.old hne hmax hc Av) (lenOf pd___CII__B rfl) d2_36 rfl (nle rfl) (nle rfl) (nle rfl) (nle rfl) all0 all0 all0 rfl
  replace G := G'; clear G'
  obtain ⟨wc, qc, b, rfl, ⟨kb, Ab⟩, sb, rfl⟩ := Qc
  replace G := G.val qc
  have nba : b ≠ a := ne_ge Xa.lt sb
  replace Xa := Xa.keep Kc; replace Fv := Fv.keep Kc nin0; replace Fc := Fc.keep Kc nin0
  replace G := G.astore 41 #[.val (.ref a), .val (.ref va), .val (.int (0 : Int32)), .val (.int (Int32.ofNat cs.length)), .val .null, .val (.ref b)] d2_39 rfl rfl rfl |>.aloadN 42 d2_41 rfl rfl rfl |>.aload 44 d2_42 rfl rfl rfl |>.iloadN 45 d2_44 rfl rfl
  obtain ⟨vd, h_d, sod, G', Kd, Qd⟩ := G.callS 48 (hw _ (mm 24 rfl)) (hw _ (mm 25 rfl)) (hw _ (mm 18 rfl)) (hw _ (mm 26 rfl)) (by decide) [(.ref b), (.int (Int32.ofNat cs.length))] [(.ref a)] rfl (c_cod l Z a0 hw hEW n0 c1 hc1 S1 b kb (Int32.ofNat cs.length) (cs.map bytV) G.old Ab) (lenOf pd___BI_B rfl) d2_45 rfl (nle rfl) (nle rfl) (nle rfl) (nle rfl) all0 all0 all0 rfl
  replace G := G'; clear G'
  obtain ⟨wd, qd, rfl, ed, rfl⟩ := Qd
  replace G := G.val qd
  subst ed
  obtain ⟨h2, G', Wc2, Fc2, Kc2⟩ := G.putf 51 (host := "") (Or.inl (hw _ (mm 27 rfl))) Via.refl Fc Xa (Or.inr ⟨(hw _ (mm 28 rfl)), rfl, hnm⟩) (hw _ (mm 2 rfl)) (ty := .byte) (by decide) rfl rfl (Or.inl (mm 0 rfl)) (mm 1 rfl) d2_48 rfl
  replace G := G'; clear G'
  replace Fv := Fv.other Wc2 (Or.inr (slot_ne (Or.inr (hw _ (mm 30 rfl))) (Or.inr (hw _ (mm 28 rfl))) (by decide) (t := (.array .byte)) (t' := .byte) (by decide) (by decide)))
  replace Xa := Xa.wr Wc2; replace Ab := Ab.keep Kc2 (ninS nba nin0)
  replace G := G.aloadN 52 d2_51 rfl rfl rfl |>.aload 54 d2_52 rfl rfl rfl
  obtain ⟨h3, G', Wv2', Fv2', Kv2'⟩ := G.putf 57 (host := "") (Or.inl (hw _ (mm 29 rfl))) Via.refl Fv Xa (Or.inr ⟨(hw _ (mm 30 rfl)), rfl, hnm⟩) (hw _ (mm 2 rfl)) (ty := (.array .byte)) (by decide) rfl rfl (Or.inl (mm 0 rfl)) (mm 1 rfl) d2_54 rfl
  replace G := G'; clear G'
  replace Fc2 := Fc2.other Wv2' (Or.inr (slot_ne (Or.inr (hw _ (mm 28 rfl))) (Or.inr (hw _ (mm 30 rfl))) (by decide) (t := .byte) (t' := (.array .byte)) (by decide) (by decide)))
  replace Xa := Xa.wr Wv2'; replace Ab := Ab.keep Kv2' (ninS nba nin0)
  have Ab2 : Arv Z h3 b kb .byte (Int32.ofNat (cs.map bytV).length) (cs.map bytV) (.int 0) := by rw [List.length_map]; exact Ab
  exact G.retV hret hlk d2_57 [b] (allS (mm 0 rfl) all0) ⟨rfl, b, ⟨Xa, Fc2, Fv2', kb, Ab2⟩, sb, rfl⟩ (nle rfl) (nle rfl)
theorem d1_0 : decode jdk_42_method_3_code 0 = .ok (.aload_n 0, 1) := by decide +kernel
theorem d1_1 : decode jdk_42_method_3_code 1 = .ok (.aload_n 1, 1) := by decide +kernel
theorem d1_2 : decode jdk_42_method_3_code 2 = .ok (.iconst 0, 1) := by decide +kernel
theorem d1_3 : decode jdk_42_method_3_code 3 = .ok (.aload_n 1, 1) := by decide +kernel
theorem d1_4 : decode jdk_42_method_3_code 4 = .ok (.arraylength, 1) := by decide +kernel
theorem d1_5 : decode jdk_42_method_3_code 5 = .ok (.aconst_null, 1) := by decide +kernel
theorem d1_6 : decode jdk_42_method_3_code 6 = .ok (.invokespecial 27, 3) := by decide +kernel
theorem d1_9 : decode jdk_42_method_3_code 9 = .ok (.return_, 1) := by decide +kernel
theorem c_strC (l : Launch) (Z : State) (a0 : Array Value) (hw : ∀ d ∈ tables_1, d.before a0 Z = true) (hEW : EW Z a0 consts_1) (n0 : Nat) (c1 : Int32) (hc1 : ¬ c1 = 0) (S1 : Sta Z Z.heap "java/lang/String" "COMPACT_STRINGS" "Z" (.int c1)) (a va : Addr) (kv : ClassId) (cs : List Int32) {h0 : Heap} (o1 : Old Z n0 h0) (ge_a : n0 ≤ a) (Xa : Exa Z h0 a "java/lang/String") (Fv : Fld Z h0 a "java/lang/String" "value" "[B" .null) (Fc : Fld Z h0 a "java/lang/String" "coder" "B" (.int 0)) (hne : 0 < cs.length) (hmax : cs.length ≤ 30) (hc : ∀ x ∈ cs, ¬ (255 : Int32) < x) (Av : Arv Z h0 va kv .char (Int32.ofNat cs.length) (cs.map Value.int) (.int 0)) :
    Con Z a0 l (⟨"java/lang/String", "<init>", "([C)V"⟩ : MethodName) jdk_42_method_3_code 2 (none) ({ frames := 3, cells := 1, slots := 30, locals := 52 } : Room) [] #[(.ref a), (.ref va)] consts_1 h0 n0 [a] [a] (V0 fun h so => ∃ b, Str Z h a b (cs.map bytV) ∧ h0.size ≤ b ∧ so = [b]) := by
  refine Con.body (plainFor_of_name pn_java_lang_String) hEW o1 (allS ge_a all0) #[.val (.ref a), .val (.ref va)] (fun m => by first | (simp [entryFrame, mkF, argsToLocals, Value.category]; done) | rfl) ?_
  intro p e s m below meth c B hnm hret hlk G
  replace G := G.aloadN 1 d1_0 rfl rfl rfl |>.aloadN 2 d1_1 rfl rfl rfl |>.iconst 3 (0 : Int32) d1_2 rfl rfl |>.aloadN 4 d1_3 rfl rfl rfl |>.alen 5 Av d1_4 rfl |>.aconstNull 6 d1_5 rfl
  obtain ⟨vc, h1, soc, G', Kc, Qc⟩ := G.callI 9 rfl rfl (hw _ (mm 8 rfl)) (hw _ (mm 9 rfl)) (hw _ (mm 3 rfl)) (hw _ (mm 11 rfl)) (by decide) [(.ref va), (.int (0 : Int32)), (.int (Int32.ofNat cs.length)), .null] [] rfl (c_strCV l Z a0 hw hEW n0 c1 hc1 S1 a va kv cs G.old ge_a Xa Fv Fc hne hmax hc Av) (lenOf pd___CIILjava_lang_Void__V rfl) d1_6 rfl (nle rfl) (nle rfl) (nle rfl) (nle rfl) (allS (Or.inl (mm 0 rfl)) all0) (allS (mm 0 rfl) all0) (allS (mm 0 rfl) all0) rfl
  replace G := G'; clear G'
  obtain ⟨qc, b, hT, sb, rfl⟩ := Qc
  replace G := G.nov qc
  exact G.retV hret hlk d1_9 [b] (allS (mm 0 rfl) all0) ⟨rfl, b, hT, sb, rfl⟩ (nle rfl) (nle rfl)
theorem d23_0 : decode jdk_29_method_65_code 0 = .ok (.iload_n 0, 1) := by decide +kernel
theorem d23_1 : decode jdk_29_method_65_code 1 = .ok (.iload_n 1, 1) := by decide +kernel
theorem d23_2 : decode jdk_29_method_65_code 2 = .ok (.if_icmp .lt 7, 3) := by decide +kernel
theorem d23_5 : decode jdk_29_method_65_code 5 = .ok (.iload_n 0, 1) := by decide +kernel
theorem d23_6 : decode jdk_29_method_65_code 6 = .ok (.goto 4, 3) := by decide +kernel
theorem d23_9 : decode jdk_29_method_65_code 9 = .ok (.iload_n 1, 1) := by decide +kernel
theorem d23_10 : decode jdk_29_method_65_code 10 = .ok (.ireturn, 1) := by decide +kernel
theorem c_max (l : Launch) (Z : State) (a0 : Array Value) (hw : ∀ d ∈ tables_1, d.before a0 Z = true) (hEW : EW Z a0 consts_1) (n0 : Nat) (c1 : Int32) (hc1 : ¬ c1 = 0) (S1 : Sta Z Z.heap "java/lang/String" "COMPACT_STRINGS" "Z" (.int c1)) (x y : Nat) {h0 : Heap} (o1 : Old Z n0 h0) (hx : x < 2147483648) (hy : y < 2147483648) :
    Con Z a0 l (⟨"java/lang/Math", "max", "(II)I"⟩ : MethodName) jdk_29_method_65_code 2 (some .int) ({ frames := 0, cells := 0, slots := 0, locals := 0 } : Room) [] #[(.int (Int32.ofNat x)), (.int (Int32.ofNat y))] consts_1 h0 n0 [] [] (VV fun w h so => w = .int (Int32.ofNat (max x y)) ∧ h = h0 ∧ so = []) := by
  refine Con.body (by decide +kernel) hEW o1 all0 #[.val (.int (Int32.ofNat x)), .val (.int (Int32.ofNat y))] (fun m => by first | (simp [entryFrame, mkF, argsToLocals, Value.category]; done) | rfl) ?_
  intro p e s m below meth c B hnm hret hlk G
  rcases Nat.lt_or_ge x y with q | q
  · skip
    replace G := G.iloadN 1 d23_0 rfl rfl |>.iloadN 2 d23_1 rfl rfl |>.icmpT 9 d23_2 (XT.ii_lt_t (ofn_lt q hy)) (by decide) (by decide) |>.iloadN 10 d23_9 rfl rfl
    exact G.retI hret hlk d23_10 [] all0 ⟨_, rfl, by rw [Nat.max_eq_right (Nat.le_of_lt q)], rfl, rfl⟩ (nle rfl) (nle rfl)
  · skip
    replace G := G.iloadN 1 d23_0 rfl rfl |>.iloadN 2 d23_1 rfl rfl |>.icmpF 5 d23_2 (XT.ii_lt_f (ofn_nlt q hx)) rfl |>.iloadN 6 d23_5 rfl rfl |>.goto 10 d23_6 (by decide) (by decide)
    exact G.retI hret hlk d23_10 [] all0 ⟨_, rfl, by rw [Nat.max_eq_left q], rfl, rfl⟩ (nle rfl) (nle rfl)
theorem d22_0 : decode jdk_48_method_27_code 0 = .ok (.iload_n 0, 1) := by decide +kernel
theorem d22_1 : decode jdk_48_method_27_code 1 = .ok (.iload_n 1, 1) := by decide +kernel
theorem d22_2 : decode jdk_48_method_27_code 2 = .ok (.iload_n 2, 1) := by decide +kernel
theorem d22_3 : decode jdk_48_method_27_code 3 = .ok (.invokestatic 194, 3) := by decide +kernel
theorem d22_6 : decode jdk_48_method_27_code 6 = .ok (.iadd, 1) := by decide +kernel
theorem d22_7 : decode jdk_48_method_27_code 7 = .ok (.istore_n 3, 1) := by decide +kernel
theorem d22_8 : decode jdk_48_method_27_code 8 = .ok (.iconst 0, 1) := by decide +kernel
theorem d22_9 : decode jdk_48_method_27_code 9 = .ok (.iload_n 3, 1) := by decide +kernel
theorem d22_10 : decode jdk_48_method_27_code 10 = .ok (.if_icmp .ge 11, 3) := by decide +kernel
theorem d22_13 : decode jdk_48_method_27_code 13 = .ok (.iload_n 3, 1) := by decide +kernel
theorem d22_14 : decode jdk_48_method_27_code 14 = .ok (.ldc 200, 2) := by decide +kernel
theorem d22_16 : decode jdk_48_method_27_code 16 = .ok (.if_icmp .gt 5, 3) := by decide +kernel
theorem d22_19 : decode jdk_48_method_27_code 19 = .ok (.iload_n 3, 1) := by decide +kernel
theorem d22_20 : decode jdk_48_method_27_code 20 = .ok (.ireturn, 1) := by decide +kernel
theorem d22_21 : decode jdk_48_method_27_code 21 = .ok (.iload_n 0, 1) := by decide +kernel
theorem d22_22 : decode jdk_48_method_27_code 22 = .ok (.iload_n 1, 1) := by decide +kernel
theorem d22_23 : decode jdk_48_method_27_code 23 = .ok (.invokestatic 201, 3) := by decide +kernel
theorem d22_26 : decode jdk_48_method_27_code 26 = .ok (.ireturn, 1) := by decide +kernel
theorem c_newLen (l : Launch) (Z : State) (a0 : Array Value) (hw : ∀ d ∈ tables_1, d.before a0 Z = true) (hEW : EW Z a0 consts_1) (n0 : Nat) (c1 : Int32) (hc1 : ¬ c1 = 0) (S1 : Sta Z Z.heap "java/lang/String" "COMPACT_STRINGS" "Z" (.int c1)) (o g p' : Nat) {h0 : Heap} (o1 : Old Z n0 h0) (h1 : 0 < p') (h2 : o < 100000) (h3 : g < 100000) (h4 : p' < 100000) :
    Con Z a0 l (⟨"jdk/internal/util/ArraysSupport", "newLength", "(III)I"⟩ : MethodName) jdk_48_method_27_code 4 (some .int) ({ frames := 1, cells := 0, slots := 0, locals := 14 } : Room) [] #[(.int (Int32.ofNat o)), (.int (Int32.ofNat g)), (.int (Int32.ofNat p'))] consts_1 h0 n0 [] [] (VV fun w h so => w = .int (Int32.ofNat (o + max g p')) ∧ h = h0 ∧ so = []) := by
  refine Con.body (plainFor_of_name pn_jdk_internal_util_ArraysSupport) hEW o1 all0 #[.val (.int (Int32.ofNat o)), .val (.int (Int32.ofNat g)), .val (.int (Int32.ofNat p')), .unset] (fun m => by first | (simp [entryFrame, mkF, argsToLocals, Value.category]; done) | rfl) ?_
  intro p e s m below meth c B hnm hret hlk G
  replace G := G.iloadN 1 d22_0 rfl rfl |>.iloadN 2 d22_1 rfl rfl |>.iloadN 3 d22_2 rfl rfl
  obtain ⟨vm1, h_m, som1, G', Km1, Qm1⟩ := G.callS 6 (hw _ (mm 127 rfl)) (hw _ (mm 128 rfl)) (hw _ (mm 129 rfl)) (hw _ (mm 130 rfl)) (by decide) [(.int (Int32.ofNat g)), (.int (Int32.ofNat p'))] [(.int (Int32.ofNat o))] rfl (c_max l Z a0 hw hEW n0 c1 hc1 S1 g p' G.old (by omega) (by omega)) (lenOf pd__II_I rfl) d22_3 rfl (nle rfl) (nle rfl) (nle rfl) (nle rfl) all0 all0 all0 rfl
  replace G := G'; clear G'
  obtain ⟨wm1, qm1, rfl, em, rfl⟩ := Qm1
  replace G := G.val qm1
  subst em
  replace G := G.iadd 7 d22_6 rfl |>.top (y := (.int (Int32.ofNat (o + max g p')))) (congrArg Value.int (ofn_add _ _)) |>.istoreN 8 #[.val (.int (Int32.ofNat o)), .val (.int (Int32.ofNat g)), .val (.int (Int32.ofNat p')), .val (.int (Int32.ofNat (o + max g p')))] d22_7 rfl rfl |>.iconst 9 (0 : Int32) d22_8 rfl rfl |>.iloadN 10 d22_9 rfl rfl |>.icmpF 13 d22_10 (XT.ii_ge_f (ofn_lt (i := 0) (by omega) (by omega))) rfl |>.iloadN 14 d22_13 rfl rfl |>.ldcI 16 (hw _ (mm 131 rfl)) d22_14 rfl
  replace G := G.icmpF 19 d22_16 (XT.ii_gt_f (ofn_nlt (i := 2147483639) (by omega) (by decide))) rfl |>.iloadN 20 d22_19 rfl rfl
  exact G.retI hret hlk d22_20 [] all0 ⟨_, rfl, rfl, rfl, rfl⟩ (nle rfl) (nle rfl)
theorem d21_0 : decode jdk_68_method_10_code 0 = .ok (.aload_n 0, 1) := by decide +kernel
theorem d21_1 : decode jdk_68_method_10_code 1 = .ok (.getfield 15, 3) := by decide +kernel
theorem d21_4 : decode jdk_68_method_10_code 4 = .ok (.arraylength, 1) := by decide +kernel
theorem d21_5 : decode jdk_68_method_10_code 5 = .ok (.istore_n 2, 1) := by decide +kernel
theorem d21_6 : decode jdk_68_method_10_code 6 = .ok (.iload_n 1, 1) := by decide +kernel
theorem d21_7 : decode jdk_68_method_10_code 7 = .ok (.aload_n 0, 1) := by decide +kernel
theorem d21_8 : decode jdk_68_method_10_code 8 = .ok (.getfield 22, 3) := by decide +kernel
theorem d21_11 : decode jdk_68_method_10_code 11 = .ok (.ishl, 1) := by decide +kernel
theorem d21_12 : decode jdk_68_method_10_code 12 = .ok (.istore_n 3, 1) := by decide +kernel
theorem d21_13 : decode jdk_68_method_10_code 13 = .ok (.iload_n 3, 1) := by decide +kernel
theorem d21_14 : decode jdk_68_method_10_code 14 = .ok (.iload_n 2, 1) := by decide +kernel
theorem d21_15 : decode jdk_68_method_10_code 15 = .ok (.isub, 1) := by decide +kernel
theorem d21_16 : decode jdk_68_method_10_code 16 = .ok (.istore 4, 2) := by decide +kernel
theorem d21_18 : decode jdk_68_method_10_code 18 = .ok (.iload_n 2, 1) := by decide +kernel
theorem d21_19 : decode jdk_68_method_10_code 19 = .ok (.iload 4, 2) := by decide +kernel
theorem d21_21 : decode jdk_68_method_10_code 21 = .ok (.iload_n 2, 1) := by decide +kernel
theorem d21_22 : decode jdk_68_method_10_code 22 = .ok (.iconst 2, 1) := by decide +kernel
theorem d21_23 : decode jdk_68_method_10_code 23 = .ok (.aload_n 0, 1) := by decide +kernel
theorem d21_24 : decode jdk_68_method_10_code 24 = .ok (.getfield 22, 3) := by decide +kernel
theorem d21_27 : decode jdk_68_method_10_code 27 = .ok (.ishl, 1) := by decide +kernel
theorem d21_28 : decode jdk_68_method_10_code 28 = .ok (.iadd, 1) := by decide +kernel
theorem d21_29 : decode jdk_68_method_10_code 29 = .ok (.invokestatic 114, 3) := by decide +kernel
theorem d21_32 : decode jdk_68_method_10_code 32 = .ok (.istore 5, 2) := by decide +kernel
theorem d21_34 : decode jdk_68_method_10_code 34 = .ok (.iload 5, 2) := by decide +kernel
theorem d21_36 : decode jdk_68_method_10_code 36 = .ok (.ldc 39, 2) := by decide +kernel
theorem d21_38 : decode jdk_68_method_10_code 38 = .ok (.if_icmp .ne 13, 3) := by decide +kernel
theorem d21_41 : decode jdk_68_method_10_code 41 = .ok (.new 120, 3) := by decide +kernel
theorem d21_44 : decode jdk_68_method_10_code 44 = .ok (.dup, 1) := by decide +kernel
theorem d21_45 : decode jdk_68_method_10_code 45 = .ok (.ldc 122, 2) := by decide +kernel
theorem d21_47 : decode jdk_68_method_10_code 47 = .ok (.invokespecial 124, 3) := by decide +kernel
theorem d21_50 : decode jdk_68_method_10_code 50 = .ok (.athrow, 1) := by decide +kernel
theorem d21_51 : decode jdk_68_method_10_code 51 = .ok (.iload 5, 2) := by decide +kernel
theorem d21_53 : decode jdk_68_method_10_code 53 = .ok (.aload_n 0, 1) := by decide +kernel
theorem d21_54 : decode jdk_68_method_10_code 54 = .ok (.getfield 22, 3) := by decide +kernel
theorem d21_57 : decode jdk_68_method_10_code 57 = .ok (.ishr, 1) := by decide +kernel
theorem d21_58 : decode jdk_68_method_10_code 58 = .ok (.ireturn, 1) := by decide +kernel
theorem c_newCap (l : Launch) (Z : State) (a0 : Array Value) (hw : ∀ d ∈ tables_1, d.before a0 Z = true) (hEW : EW Z a0 consts_1) (n0 : Nat) (c1 : Int32) (hc1 : ¬ c1 = 0) (S1 : Sta Z Z.heap "java/lang/String" "COMPACT_STRINGS" "Z" (.int c1)) (a b : Addr) (cap mc : Nat) (bs : List Value) {h0 : Heap} (o1 : Old Z n0 h0) (hlt : cap < mc) (hmc : mc ≤ 62) (hS : Sbd Z h0 a b cap bs) :
    Con Z a0 l (⟨"java/lang/AbstractStringBuilder", "newCapacity", "(I)I"⟩ : MethodName) jdk_68_method_10_code 6 (some .int) ({ frames := 2, cells := 0, slots := 0, locals := 29 } : Room) [] #[(.ref a), (.int (Int32.ofNat mc))] consts_1 h0 n0 [] [] (VV fun w h so => w = .int (Int32.ofNat (gcap cap mc)) ∧ h = h0 ∧ so = []) := by
  refine Con.body (plainFor_of_name pn_java_lang_AbstractStringBuilder) hEW o1 all0 #[.val (.ref a), .val (.int (Int32.ofNat mc)), .unset, .unset, .unset, .unset] (fun m => by first | (simp [entryFrame, mkF, argsToLocals, Value.category]; done) | rfl) ?_
  intro p e s m below meth c B hnm hret hlk G
  obtain ⟨Xa, Fv, Fc, Fn, kb, Ab⟩ := hS
  have hg := gcap_b hlt hmc
  replace G := G.aloadN 1 d21_0 rfl rfl rfl |>.getf 4 (host := "") (Or.inl (hw _ (mm 70 rfl))) Via.refl Fv d21_1 rfl |>.alen 5 Ab d21_4 rfl |>.istoreN 6 #[.val (.ref a), .val (.int (Int32.ofNat mc)), .val (.int (Int32.ofNat cap)), .unset, .unset, .unset] d21_5 rfl rfl |>.iloadN 7 d21_6 rfl rfl |>.aloadN 8 d21_7 rfl rfl rfl |>.getf 11 (host := "") (Or.inl (hw _ (mm 68 rfl))) Via.refl Fc d21_8 rfl |>.ishl 12 d21_11 rfl
  replace G := G.top (y := (.int (Int32.ofNat mc))) (congrArg Value.int (shl0 _)) |>.istoreN 13 #[.val (.ref a), .val (.int (Int32.ofNat mc)), .val (.int (Int32.ofNat cap)), .val (.int (Int32.ofNat mc)), .unset, .unset] d21_12 rfl rfl |>.iloadN 14 d21_13 rfl rfl |>.iloadN 15 d21_14 rfl rfl |>.isub 16 d21_15 rfl |>.top (y := (.int (Int32.ofNat (mc - cap)))) (congrArg Value.int (ofn_sub (Nat.le_of_lt hlt) (by omega))) |>.istore 18 #[.val (.ref a), .val (.int (Int32.ofNat mc)), .val (.int (Int32.ofNat cap)), .val (.int (Int32.ofNat mc)), .val (.int (Int32.ofNat (mc - cap))), .unset] d21_16 rfl rfl |>.iloadN 19 d21_18 rfl rfl
  replace G := G.iload 21 d21_19 rfl rfl |>.iloadN 22 d21_21 rfl rfl |>.iconst 23 (2 : Int32) d21_22 rfl rfl |>.aloadN 24 d21_23 rfl rfl rfl |>.getf 27 (host := "") (Or.inl (hw _ (mm 68 rfl))) Via.refl Fc d21_24 rfl |>.ishl 28 d21_27 rfl |>.top (y := (.int (2 : Int32))) (congrArg Value.int (shl0 _)) |>.iadd 29 d21_28 rfl
  replace G := G.top (y := (.int (Int32.ofNat (cap + 2)))) (congrArg Value.int (ofn_add cap 2))
  obtain ⟨vn1, h_n, son1, G', Kn1, Qn1⟩ := G.callS 32 (hw _ (mm 123 rfl)) (hw _ (mm 124 rfl)) (hw _ (mm 125 rfl)) (hw _ (mm 126 rfl)) (by decide) [(.int (Int32.ofNat cap)), (.int (Int32.ofNat (mc - cap))), (.int (Int32.ofNat (cap + 2)))] [] rfl (c_newLen l Z a0 hw hEW n0 c1 hc1 S1 cap (mc - cap) (cap + 2) G.old (by omega) (by omega) (by omega) (by omega)) (lenOf pd__III_I rfl) d21_29 rfl (nle rfl) (nle rfl) (nle rfl) (nle rfl) all0 all0 all0 rfl
  replace G := G'; clear G'
  obtain ⟨wn1, qn1, rfl, en, rfl⟩ := Qn1
  replace G := G.val qn1
  subst en
  replace G := G.istore 34 #[.val (.ref a), .val (.int (Int32.ofNat mc)), .val (.int (Int32.ofNat cap)), .val (.int (Int32.ofNat mc)), .val (.int (Int32.ofNat (mc - cap))), .val (.int (Int32.ofNat (gcap cap mc)))] d21_32 rfl rfl |>.iload 36 d21_34 rfl rfl |>.ldcI 38 (hw _ (mm 132 rfl)) d21_36 rfl |>.icmpT 51 d21_38 (XT.ii_ne_t (ofn_ne (n := 2147483647) (Nat.ne_of_lt (by omega)) (by omega) (by decide))) (by decide) (by decide) |>.iload 53 d21_51 rfl rfl |>.aloadN 54 d21_53 rfl rfl rfl |>.getf 57 (host := "") (Or.inl (hw _ (mm 68 rfl))) Via.refl Fc d21_54 rfl |>.ishr 58 d21_57 rfl
  replace G := G.top (y := (.int (Int32.ofNat (gcap cap mc)))) (congrArg Value.int (shr0 _))
  exact G.retI hret hlk d21_58 [] all0 ⟨_, rfl, rfl, rfl, rfl⟩ (nle rfl) (nle rfl)
theorem c_minL (l : Launch) (Z : State) (a0 : Array Value) (hw : ∀ d ∈ tables_1, d.before a0 Z = true) (hEW : EW Z a0 consts_1) (n0 : Nat) (c1 : Int32) (hc1 : ¬ c1 = 0) (S1 : Sta Z Z.heap "java/lang/String" "COMPACT_STRINGS" "Z" (.int c1)) (x y : Int32) {h0 : Heap} (o1 : Old Z n0 h0) (hxy : ¬ y < x) :
    Con Z a0 l (⟨"java/lang/Math", "min", "(II)I"⟩ : MethodName) jdk_29_method_69_code 2 (some .int) ({ frames := 0, cells := 0, slots := 0, locals := 0 } : Room) [] #[(.int x), (.int y)] consts_1 h0 n0 [] [] (VV fun w h so => w = .int x ∧ h = h0 ∧ so = []) := by
  refine Con.body (by decide +kernel) hEW o1 all0 #[.val (.int x), .val (.int y)] (fun m => by first | (simp [entryFrame, mkF, argsToLocals, Value.category]; done) | rfl) ?_
  intro p e s m below meth c B hnm hret hlk G
  replace G := G.iloadN 1 d25_0 rfl rfl |>.iloadN 2 d25_1 rfl rfl |>.icmpF 5 d25_2 (XT.ii_gt_f hxy) rfl |>.iloadN 6 d25_5 rfl rfl |>.goto 10 d25_6 (by decide) (by decide)
  exact G.retI hret hlk d25_10 [] all0 ⟨_, rfl, rfl, rfl, rfl⟩ (nle rfl) (nle rfl)
theorem d24_0 : decode jdk_65_method_121_code 0 = .ok (.iload_n 1, 1) := by decide +kernel
theorem d24_1 : decode jdk_65_method_121_code 1 = .ok (.aload_n 0, 1) := by decide +kernel
theorem d24_2 : decode jdk_65_method_121_code 2 = .ok (.arraylength, 1) := by decide +kernel
theorem d24_3 : decode jdk_65_method_121_code 3 = .ok (.if_icmp .ne 11, 3) := by decide +kernel
theorem d24_6 : decode jdk_65_method_121_code 6 = .ok (.aload_n 0, 1) := by decide +kernel
theorem d24_7 : decode jdk_65_method_121_code 7 = .ok (.invokevirtual 310, 3) := by decide +kernel
theorem d24_10 : decode jdk_65_method_121_code 10 = .ok (.checkcast 311, 3) := by decide +kernel
theorem d24_13 : decode jdk_65_method_121_code 13 = .ok (.areturn, 1) := by decide +kernel
theorem d24_14 : decode jdk_65_method_121_code 14 = .ok (.iload_n 1, 1) := by decide +kernel
theorem d24_15 : decode jdk_65_method_121_code 15 = .ok (.newarray .byte, 2) := by decide +kernel
theorem d24_17 : decode jdk_65_method_121_code 17 = .ok (.astore_n 2, 1) := by decide +kernel
theorem d24_18 : decode jdk_65_method_121_code 18 = .ok (.aload_n 0, 1) := by decide +kernel
theorem d24_19 : decode jdk_65_method_121_code 19 = .ok (.iconst 0, 1) := by decide +kernel
theorem d24_20 : decode jdk_65_method_121_code 20 = .ok (.aload_n 2, 1) := by decide +kernel
theorem d24_21 : decode jdk_65_method_121_code 21 = .ok (.iconst 0, 1) := by decide +kernel
theorem d24_22 : decode jdk_65_method_121_code 22 = .ok (.aload_n 0, 1) := by decide +kernel
theorem d24_23 : decode jdk_65_method_121_code 23 = .ok (.arraylength, 1) := by decide +kernel
theorem d24_24 : decode jdk_65_method_121_code 24 = .ok (.iload_n 1, 1) := by decide +kernel
theorem d24_25 : decode jdk_65_method_121_code 25 = .ok (.invokestatic 304, 3) := by decide +kernel
theorem d24_28 : decode jdk_65_method_121_code 28 = .ok (.invokestatic 150, 3) := by decide +kernel
theorem d24_31 : decode jdk_65_method_121_code 31 = .ok (.aload_n 2, 1) := by decide +kernel
theorem d24_32 : decode jdk_65_method_121_code 32 = .ok (.areturn, 1) := by decide +kernel
theorem c_copyOf (l : Launch) (Z : State) (a0 : Array Value) (hw : ∀ d ∈ tables_1, d.before a0 Z = true) (hEW : EW Z a0 consts_1) (n0 : Nat) (c1 : Int32) (hc1 : ¬ c1 = 0) (S1 : Sta Z Z.heap "java/lang/String" "COMPACT_STRINGS" "Z" (.int c1)) (b : Addr) (kb : ClassId) (cap nc : Nat) (bs : List Value) {h0 : Heap} (o1 : Old Z n0 h0) (hlt : cap < nc) (hmax : nc ≤ 126) (hbs : bs.length ≤ cap) (Ab : Arv Z h0 b kb .byte (Int32.ofNat cap) bs (.int 0)) :
    Con Z a0 l (⟨"java/util/Arrays", "copyOf", "([BI)[B"⟩ : MethodName) jdk_65_method_121_code 3 (some (.array .byte)) ({ frames := 1, cells := 1, slots := 126, locals := 41 } : Room) [] #[(.ref b), (.int (Int32.ofNat nc))] consts_1 h0 n0 [] [] (VV fun w h so => ∃ d, w = .ref d ∧ (∃ k, Arv Z h d k .byte (Int32.ofNat nc) bs (.int 0)) ∧ h0.size ≤ d ∧ so = [d]) := by
  refine Con.body (plainFor_of_name pn_java_util_Arrays) hEW o1 all0 #[.val (.ref b), .val (.int (Int32.ofNat nc)), .unset] (fun m => by first | (simp [entryFrame, mkF, argsToLocals, Value.category]; done) | rfl) ?_
  intro p e s m below meth c B hnm hret hlk G
  replace G := G.iloadN 1 d24_0 rfl rfl |>.aloadN 2 d24_1 rfl rfl rfl |>.alen 3 Ab d24_2 rfl |>.icmpT 14 d24_3 (XT.ii_ne_t (ofn_ne (by omega) (by omega) (by omega))) (by decide) (by decide) |>.iloadN 15 d24_14 rfl rfl
  obtain ⟨d, h1, kd, G', gd, sd, Ed, Ad⟩ := G.newarray 17 (hw _ (mm 20 rfl)) d24_15 (ofn_nn (by omega)) 126 (by rw [ofn_nat (by omega)]; exact hmax) (by decide) rfl (nle rfl) (nle rfl)
  replace G := G'; clear G'
  replace Ab := Ab.ext Ed
  replace G := G.astoreN 18 #[.val (.ref b), .val (.int (Int32.ofNat nc)), .val (.ref d)] d24_17 rfl rfl rfl |>.aloadN 19 d24_18 rfl rfl rfl |>.iconst 20 (0 : Int32) d24_19 rfl rfl |>.aloadN 21 d24_20 rfl rfl rfl |>.iconst 22 (0 : Int32) d24_21 rfl rfl |>.aloadN 23 d24_22 rfl rfl rfl |>.alen 24 Ab d24_23 rfl |>.iloadN 25 d24_24 rfl rfl
  obtain ⟨vm1, h_m, som1, G', Km1, Qm1⟩ := G.callS 28 (hw _ (mm 137 rfl)) (hw _ (mm 138 rfl)) (hw _ (mm 129 rfl)) (hw _ (mm 139 rfl)) (by decide) [(.int (Int32.ofNat cap)), (.int (Int32.ofNat nc))] [(.int (0 : Int32)), (.ref d), (.int (0 : Int32)), (.ref b)] rfl (c_minL l Z a0 hw hEW n0 c1 hc1 S1 (Int32.ofNat cap) (Int32.ofNat nc) G.old (ofn_nlt (Nat.le_of_lt hlt) (by omega))) (lenOf pd__II_I rfl) d24_25 rfl (nle rfl) (nle rfl) (nle rfl) (nle rfl) all0 all0 all0 rfl
  replace G := G'; clear G'
  obtain ⟨wm1, qm1, rfl, em, rfl⟩ := Qm1
  replace G := G.val qm1
  subst em
  have Ad' := Ad.pad (vs' := List.replicate cap (.int 0)) (pad_rep [] (.int 0) cap)
  have m1 : cap < 2147483648 := by omega
  obtain ⟨h2, G', Ap, Kp⟩ := G.cpy 31 (hw _ (mm 140 rfl)) (hw _ (mm 112 rfl)) (hw _ (mm 110 rfl)) (hw _ (mm 111 rfl)) Ab Ad' rfl (by decide) (by decide) (ofn_nn m1) (by rw [ofn_nat m1]; exact Nat.le_of_eq (Nat.zero_add _)) (by rw [ofn_nat m1, ofn_nat (by omega)]; rw [show (0 : Int32).toNatClampNeg = 0 from rfl]; omega) (by rw [ofn_nat m1]; simp) (Or.inr sd) (mm 0 rfl) d24_28 rfl (nle rfl) (nle rfl) rfl
  replace G := G'; clear G'
  rw [ofn_nat m1, show (0 : Int32).toNatClampNeg = 0 from rfl] at Ap
  replace Ap := Ap.pad (cpg bs cap (.int 0) hbs)
  replace G := G.aloadN 32 d24_31 rfl rfl rfl
  exact G.retA hret rfl rfl hlk d24_32 [d] (allS (mm 0 rfl) all0) ⟨_, rfl, d, rfl, ⟨kd, Ap⟩, sd, rfl⟩ (nle rfl) (nle rfl)
theorem d17_0 : decode jdk_68_method_9_code 0 = .ok (.aload_n 0, 1) := by decide +kernel
theorem d17_1 : decode jdk_68_method_9_code 1 = .ok (.getfield 15, 3) := by decide +kernel
theorem d17_4 : decode jdk_68_method_9_code 4 = .ok (.arraylength, 1) := by decide +kernel
theorem d17_5 : decode jdk_68_method_9_code 5 = .ok (.aload_n 0, 1) := by decide +kernel
theorem d17_6 : decode jdk_68_method_9_code 6 = .ok (.getfield 22, 3) := by decide +kernel
theorem d17_9 : decode jdk_68_method_9_code 9 = .ok (.ishr, 1) := by decide +kernel
theorem d17_10 : decode jdk_68_method_9_code 10 = .ok (.istore_n 2, 1) := by decide +kernel
theorem d17_11 : decode jdk_68_method_9_code 11 = .ok (.iload_n 1, 1) := by decide +kernel
theorem d17_12 : decode jdk_68_method_9_code 12 = .ok (.iload_n 2, 1) := by decide +kernel
theorem d17_13 : decode jdk_68_method_9_code 13 = .ok (.isub, 1) := by decide +kernel
theorem d17_14 : decode jdk_68_method_9_code 14 = .ok (.ifCond .le 24, 3) := by decide +kernel
theorem d17_17 : decode jdk_68_method_9_code 17 = .ok (.aload_n 0, 1) := by decide +kernel
theorem d17_18 : decode jdk_68_method_9_code 18 = .ok (.aload_n 0, 1) := by decide +kernel
theorem d17_19 : decode jdk_68_method_9_code 19 = .ok (.getfield 15, 3) := by decide +kernel
theorem d17_22 : decode jdk_68_method_9_code 22 = .ok (.aload_n 0, 1) := by decide +kernel
theorem d17_23 : decode jdk_68_method_9_code 23 = .ok (.iload_n 1, 1) := by decide +kernel
theorem d17_24 : decode jdk_68_method_9_code 24 = .ok (.invokevirtual 104, 3) := by decide +kernel
theorem d17_27 : decode jdk_68_method_9_code 27 = .ok (.aload_n 0, 1) := by decide +kernel
theorem d17_28 : decode jdk_68_method_9_code 28 = .ok (.getfield 22, 3) := by decide +kernel
theorem d17_31 : decode jdk_68_method_9_code 31 = .ok (.ishl, 1) := by decide +kernel
theorem d17_32 : decode jdk_68_method_9_code 32 = .ok (.invokestatic 108, 3) := by decide +kernel
theorem d17_35 : decode jdk_68_method_9_code 35 = .ok (.putfield 15, 3) := by decide +kernel
theorem d17_38 : decode jdk_68_method_9_code 38 = .ok (.return_, 1) := by decide +kernel
theorem c_ensG (l : Launch) (Z : State) (a0 : Array Value) (hw : ∀ d ∈ tables_1, d.before a0 Z = true) (hEW : EW Z a0 consts_1) (n0 : Nat) (c1 : Int32) (hc1 : ¬ c1 = 0) (S1 : Sta Z Z.heap "java/lang/String" "COMPACT_STRINGS" "Z" (.int c1)) (a b : Addr) (cap mc : Nat) (bs : List Value) {h0 : Heap} (o1 : Old Z n0 h0) (ge_a : n0 ≤ a) (hmc : mc ≤ 62) (hcap : cap ≤ 126) (hbs : bs.length ≤ cap) (hS : Sbd Z h0 a b cap bs) :
    Con Z a0 l (⟨"java/lang/AbstractStringBuilder", "ensureCapacityInternal", "(I)V"⟩ : MethodName) jdk_68_method_9_code 3 (none) ({ frames := 3, cells := 1, slots := 126, locals := 56 } : Room) [] #[(.ref a), (.int (Int32.ofNat mc))] consts_1 h0 n0 [a] [a, b] (V0 fun h so => ∃ b' cap', Sbd Z h a b' cap' bs ∧ mc ≤ cap' ∧ cap' ≤ 126 ∧ GC cap mc cap' ∧ (b' = b ∨ h0.size ≤ b') ∧ so = [b']) := by
  refine Con.body (plainFor_of_name pn_java_lang_AbstractStringBuilder) hEW o1 (allS ge_a all0) #[.val (.ref a), .val (.int (Int32.ofNat mc)), .unset] (fun m => by first | (simp [entryFrame, mkF, argsToLocals, Value.category]; done) | rfl) ?_
  intro p e s m below meth c B hnm hret hlk G
  rcases Nat.lt_or_ge cap mc with hlt | hge
  · have hg := gcap_b hlt hmc
    have hS' := hS
    obtain ⟨Xa, Fv, Fc, Fn, kb, Ab⟩ := hS
    replace G := G.aloadN 1 d17_0 rfl rfl rfl |>.getf 4 (host := "") (Or.inl (hw _ (mm 70 rfl))) Via.refl Fv d17_1 rfl |>.alen 5 Ab d17_4 rfl |>.aloadN 6 d17_5 rfl rfl rfl |>.getf 9 (host := "") (Or.inl (hw _ (mm 68 rfl))) Via.refl Fc d17_6 rfl |>.ishr 10 d17_9 rfl |>.top (y := (.int (Int32.ofNat cap))) (congrArg Value.int (shr0 _)) |>.istoreN 11 #[.val (.ref a), .val (.int (Int32.ofNat mc)), .val (.int (Int32.ofNat cap))] d17_10 rfl rfl
    replace G := G.iloadN 12 d17_11 rfl rfl |>.iloadN 13 d17_12 rfl rfl |>.isub 14 d17_13 rfl |>.ifF 17 d17_14 (XT.i0_le_f (by rw [ofn_sub (Nat.le_of_lt hlt) (by omega)]; exact ofn_lt (i := 0) (by omega) (by omega))) rfl |>.aloadN 18 d17_17 rfl rfl rfl |>.aloadN 19 d17_18 rfl rfl rfl |>.getf 22 (host := "") (Or.inl (hw _ (mm 70 rfl))) Via.refl Fv d17_19 rfl |>.aloadN 23 d17_22 rfl rfl rfl
    replace G := G.iloadN 24 d17_23 rfl rfl
    obtain ⟨vn1, h_n, son1, G', Kn1, Qn1⟩ := G.callV 27 (hw _ (mm 118 rfl)) (declOf (hw _ (mm 119 rfl)) (hw _ (mm 122 rfl))) (nfSel (hw _ (mm 121 rfl))) (hw _ (mm 121 rfl)) (hw _ (mm 119 rfl)) (hw _ (mm 53 rfl)) (hw _ (mm 122 rfl)) Xa (by decide) [(.int (Int32.ofNat mc))] [(.ref b), (.ref a)] rfl (c_newCap l Z a0 hw hEW n0 c1 hc1 S1 a b cap mc bs G.old hlt hmc hS') (lenOf pd__I_I rfl) d17_24 rfl (nle rfl) (nle rfl) (nle rfl) (nle rfl) all0 all0 all0 rfl
    replace G := G'; clear G'
    obtain ⟨wn1, qn1, rfl, en, rfl⟩ := Qn1
    replace G := G.val qn1
    subst en
    replace G := G.aloadN 28 d17_27 rfl rfl rfl |>.getf 31 (host := "") (Or.inl (hw _ (mm 68 rfl))) Via.refl Fc d17_28 rfl |>.ishl 32 d17_31 rfl |>.top (y := (.int (Int32.ofNat (gcap cap mc)))) (congrArg Value.int (shl0 _))
    obtain ⟨vc, h1, soc, G', Kc, Qc⟩ := G.callS 35 (hw _ (mm 133 rfl)) (hw _ (mm 134 rfl)) (hw _ (mm 135 rfl)) (hw _ (mm 136 rfl)) (by decide) [(.ref b), (.int (Int32.ofNat (gcap cap mc)))] [(.ref a)] rfl (c_copyOf l Z a0 hw hEW n0 c1 hc1 S1 b kb cap (gcap cap mc) bs G.old hg.2.1 hg.2.2 hbs Ab) (lenOf pd___BI__B rfl) d17_32 rfl (nle rfl) (nle rfl) (nle rfl) (nle rfl) all0 all0 all0 rfl
    replace G := G'; clear G'
    obtain ⟨wc, qc, d, rfl, ⟨kd, Ad⟩, sd, rfl⟩ := Qc
    replace G := G.val qc
    have nad : a ≠ d := (ne_ge Xa.lt sd).symm
    replace Xa := Xa.keep Kc; replace Fv := Fv.keep Kc nin0; replace Fc := Fc.keep Kc nin0; replace Fn := Fn.keep Kc nin0
    obtain ⟨h2, G', Wv, Fv, Kv⟩ := G.putf 38 (host := "") (Or.inl (hw _ (mm 70 rfl))) Via.refl Fv Xa (Or.inl (hw _ (mm 71 rfl))) (hw _ (mm 44 rfl)) (ty := (.array .byte)) (by decide) rfl rfl (Or.inl (mm 0 rfl)) (mm 1 rfl) d17_35 rfl
    replace G := G'; clear G'
    replace Fn := Fn.other Wv (Or.inr (slot_ne (Or.inl (hw _ (mm 87 rfl))) (Or.inl (hw _ (mm 71 rfl))) (by decide) (t := .int) (t' := (.array .byte)) (by decide) (by decide))); replace Fc := Fc.other Wv (Or.inr (slot_ne (Or.inl (hw _ (mm 69 rfl))) (Or.inl (hw _ (mm 71 rfl))) (by decide) (t := .byte) (t' := (.array .byte)) (by decide) (by decide))); replace Xa := Xa.wr Wv; replace Ad := Ad.keep Kv (ninS nad.symm nin0)
    exact G.retV hret hlk d17_38 [d] (allS (mm 0 rfl) all0) ⟨rfl, d, gcap cap mc, ⟨Xa, Fv, Fc, Fn, kd, Ad⟩, hg.1, hg.2.2, Or.inr ⟨hlt, rfl⟩, Or.inr sd, rfl⟩ (nle rfl) (nle rfl)
  · have hS' := hS
    obtain ⟨Xa, Fv, Fc, Fn, kb, Ab⟩ := hS
    replace G := G.aloadN 1 d17_0 rfl rfl rfl |>.getf 4 (host := "") (Or.inl (hw _ (mm 70 rfl))) Via.refl Fv d17_1 rfl |>.alen 5 Ab d17_4 rfl |>.aloadN 6 d17_5 rfl rfl rfl |>.getf 9 (host := "") (Or.inl (hw _ (mm 68 rfl))) Via.refl Fc d17_6 rfl |>.ishr 10 d17_9 rfl |>.top (y := (.int (Int32.ofNat cap))) (congrArg Value.int (shr0 _)) |>.istoreN 11 #[.val (.ref a), .val (.int (Int32.ofNat mc)), .val (.int (Int32.ofNat cap))] d17_10 rfl rfl
    replace G := G.iloadN 12 d17_11 rfl rfl |>.iloadN 13 d17_12 rfl rfl |>.isub 14 d17_13 rfl |>.ifT 38 d17_14 (XT.i0_le_t (ofn_le0 hge (by omega))) (by decide) (by decide)
    exact G.retV hret hlk d17_38 [b] (allS (mm 1 rfl) all0) ⟨rfl, b, cap, hS', hge, hcap, Or.inl ⟨rfl, hge⟩, Or.inl rfl, rfl⟩ (nle rfl) (nle rfl)
theorem d16_0 : decode jdk_68_method_22_code 0 = .ok (.aload_n 1, 1) := by decide +kernel
theorem d16_1 : decode jdk_68_method_22_code 1 = .ok (.ifnonnull 8, 3) := by decide +kernel
theorem d16_4 : decode jdk_68_method_22_code 4 = .ok (.aload_n 0, 1) := by decide +kernel
theorem d16_5 : decode jdk_68_method_22_code 5 = .ok (.invokevirtual 204, 3) := by decide +kernel
theorem d16_8 : decode jdk_68_method_22_code 8 = .ok (.areturn, 1) := by decide +kernel
theorem d16_9 : decode jdk_68_method_22_code 9 = .ok (.aload_n 1, 1) := by decide +kernel
theorem d16_10 : decode jdk_68_method_22_code 10 = .ok (.invokevirtual 32, 3) := by decide +kernel
theorem d16_13 : decode jdk_68_method_22_code 13 = .ok (.istore_n 2, 1) := by decide +kernel
theorem d16_14 : decode jdk_68_method_22_code 14 = .ok (.aload_n 0, 1) := by decide +kernel
theorem d16_15 : decode jdk_68_method_22_code 15 = .ok (.aload_n 0, 1) := by decide +kernel
theorem d16_16 : decode jdk_68_method_22_code 16 = .ok (.getfield 79, 3) := by decide +kernel
theorem d16_19 : decode jdk_68_method_22_code 19 = .ok (.iload_n 2, 1) := by decide +kernel
theorem d16_20 : decode jdk_68_method_22_code 20 = .ok (.iadd, 1) := by decide +kernel
theorem d16_21 : decode jdk_68_method_22_code 21 = .ok (.invokevirtual 100, 3) := by decide +kernel
theorem d16_24 : decode jdk_68_method_22_code 24 = .ok (.aload_n 0, 1) := by decide +kernel
theorem d16_25 : decode jdk_68_method_22_code 25 = .ok (.aload_n 0, 1) := by decide +kernel
theorem d16_26 : decode jdk_68_method_22_code 26 = .ok (.getfield 79, 3) := by decide +kernel
theorem d16_29 : decode jdk_68_method_22_code 29 = .ok (.aload_n 1, 1) := by decide +kernel
theorem d16_30 : decode jdk_68_method_22_code 30 = .ok (.invokevirtual 208, 3) := by decide +kernel
theorem d16_33 : decode jdk_68_method_22_code 33 = .ok (.aload_n 0, 1) := by decide +kernel
theorem d16_34 : decode jdk_68_method_22_code 34 = .ok (.dup, 1) := by decide +kernel
theorem d16_35 : decode jdk_68_method_22_code 35 = .ok (.getfield 79, 3) := by decide +kernel
theorem d16_38 : decode jdk_68_method_22_code 38 = .ok (.iload_n 2, 1) := by decide +kernel
theorem d16_39 : decode jdk_68_method_22_code 39 = .ok (.iadd, 1) := by decide +kernel
theorem d16_40 : decode jdk_68_method_22_code 40 = .ok (.putfield 79, 3) := by decide +kernel
theorem d16_43 : decode jdk_68_method_22_code 43 = .ok (.aload_n 0, 1) := by decide +kernel
theorem d16_44 : decode jdk_68_method_22_code 44 = .ok (.areturn, 1) := by decide +kernel
theorem c_asbAppG (l : Launch) (Z : State) (a0 : Array Value) (hw : ∀ d ∈ tables_1, d.before a0 Z = true) (hEW : EW Z a0 consts_1) (n0 : Nat) (c1 : Int32) (hc1 : ¬ c1 = 0) (S1 : Sta Z Z.heap "java/lang/String" "COMPACT_STRINGS" "Z" (.int c1)) (a b a2 b2 : Addr) (cap : Nat) (bs cs : List Value) {h0 : Heap} (o1 : Old Z n0 h0) (ge_a : n0 ≤ a) (ge_b : n0 ≤ b) (hle : bs.length + cs.length ≤ 62) (hcap : cap ≤ 126) (hbs : bs.length ≤ cap) (hS : Sbd Z h0 a b cap bs) (hT : Str Z h0 a2 b2 cs) (n2a : a2 ≠ a) (n2b : b2 ≠ a) :
    Con Z a0 l (⟨"java/lang/AbstractStringBuilder", "append", "(Ljava/lang/String;)Ljava/lang/AbstractStringBuilder;"⟩ : MethodName) jdk_68_method_22_code 3 (some (.object "java/lang/AbstractStringBuilder")) ({ frames := 4, cells := 1, slots := 126, locals := 70 } : Room) [] #[(.ref a), (.ref a2)] consts_1 h0 n0 [a, b] [a, b] (VV fun w h so => w = .ref a ∧ ∃ b' cap', Sbd Z h a b' cap' (bs ++ cs) ∧ (bs ++ cs).length ≤ cap' ∧ cap' ≤ 126 ∧ GC cap (bs.length + cs.length) cap' ∧ (b' = b ∨ h0.size ≤ b') ∧ so = [b']) := by
  refine Con.body (plainFor_of_name pn_java_lang_AbstractStringBuilder) hEW o1 (allS ge_a (allS ge_b all0)) #[.val (.ref a), .val (.ref a2), .unset] (fun m => by first | (simp [entryFrame, mkF, argsToLocals, Value.category]; done) | rfl) ?_
  intro p e s m below meth c B hnm hret hlk G
  replace G := G.aloadN 1 d16_0 rfl rfl rfl |>.ifnonnullT 9 d16_1 (by decide) (by decide) |>.aloadN 10 d16_9 rfl rfl rfl
  obtain ⟨vl, h_l, sol, G', Kl, Ql⟩ := G.callV 13 (hw _ (mm 56 rfl)) (hw _ (mm 57 rfl)) (nfSel (hw _ (mm 59 rfl))) (hw _ (mm 59 rfl)) (hw _ (mm 58 rfl)) (hw _ (mm 3 rfl)) (hw _ (mm 60 rfl)) hT.1 (by decide) [] [] rfl (c_length l Z a0 hw hEW n0 c1 hc1 S1 a2 b2 cs G.old hT) (lenOf pd___I rfl) d16_10 rfl (nle rfl) (nle rfl) (nle rfl) (nle rfl) all0 all0 all0 rfl
  replace G := G'; clear G'
  obtain ⟨wl, ql, rfl, el, rfl⟩ := Ql
  replace G := G.val ql
  subst el
  replace G := G.istoreN 14 #[.val (.ref a), .val (.ref a2), .val (.int (Int32.ofNat cs.length))] d16_13 rfl rfl |>.aloadN 15 d16_14 rfl rfl rfl |>.aloadN 16 d16_15 rfl rfl rfl |>.getf 19 (host := "") (Or.inl (hw _ (mm 86 rfl))) Via.refl hS.2.2.2.1 d16_16 rfl |>.iloadN 20 d16_19 rfl rfl |>.iadd 21 d16_20 rfl |>.top (y := (.int (Int32.ofNat (bs.length + cs.length)))) (congrArg Value.int (ofn_add _ _))
  obtain ⟨ve, h1, soe, G', Ke, Qe⟩ := G.callV 24 (hw _ (mm 88 rfl)) (declOf (hw _ (mm 89 rfl)) (hw _ (mm 92 rfl))) (nfSel (hw _ (mm 91 rfl))) (hw _ (mm 91 rfl)) (hw _ (mm 89 rfl)) (hw _ (mm 53 rfl)) (hw _ (mm 92 rfl)) hS.1 (by decide) [(.int (Int32.ofNat (bs.length + cs.length)))] [] rfl (c_ensG l Z a0 hw hEW n0 c1 hc1 S1 a b cap (bs.length + cs.length) bs G.old ge_a hle hcap hbs hS) (lenOf pd__I_V rfl) d16_21 rfl (nle rfl) (nle rfl) (nle rfl) (nle rfl) (allS (Or.inl (mm 0 rfl)) all0) (allS (mm 0 rfl) (allS (mm 1 rfl) all0)) (allS (mm 0 rfl) all0) rfl
  replace G := G'; clear G'
  obtain ⟨qe, b1, cp1, hS1, hl1, hc1', hg1, hb1, rfl⟩ := Qe
  replace G := G.nov qe
  replace hT := hT.keep Ke (ninS n2a nin0) (ninS n2b nin0); have nwb : NW h_l [a, b] b1 := hb1.elim (fun q => Or.inl (q ▸ (mm 1 rfl))) Or.inr
  replace G := G.aloadN 25 d16_24 rfl rfl rfl |>.aloadN 26 d16_25 rfl rfl rfl |>.getf 29 (host := "") (Or.inl (hw _ (mm 86 rfl))) Via.refl hS1.2.2.2.1 d16_26 rfl |>.aloadN 30 d16_29 rfl rfl rfl
  obtain ⟨vp, h2, sop, G', Kp, Qp⟩ := G.callV 33 (hw _ (mm 93 rfl)) (declOf (hw _ (mm 94 rfl)) (hw _ (mm 97 rfl))) (nfSel (hw _ (mm 96 rfl))) (hw _ (mm 96 rfl)) (hw _ (mm 94 rfl)) (hw _ (mm 53 rfl)) (hw _ (mm 97 rfl)) hS1.1 (by decide) [(.int (Int32.ofNat bs.length)), (.ref a2)] [] rfl (c_putStr l Z a0 hw hEW n0 c1 hc1 S1 a b1 a2 b2 cp1 bs cs G.old (G.nw nwb) hl1 (by omega) hS1 hT) (lenOf pd__ILjava_lang_String__V rfl) d16_30 rfl (nle rfl) (nle rfl) (nle rfl) (nle rfl) (allS nwb all0) (allS (mm 0 rfl) all0) (allS (mm 0 rfl) all0) rfl
  replace G := G'; clear G'
  obtain ⟨qp, ⟨kb, Ab⟩, rfl⟩ := Qp
  replace G := G.nov qp
  obtain ⟨Xa, Fv, Fc, Fn, kb0, Ab0⟩ := hS1
  have nab : a ≠ b1 := ne_arr Xa (hw _ (mm 44 rfl)) Ab0.choose_spec.1
  replace Xa := Xa.keep Kp; replace Fv := Fv.keep Kp (ninS nab nin0); replace Fc := Fc.keep Kp (ninS nab nin0); replace Fn := Fn.keep Kp (ninS nab nin0)
  replace G := G.aloadN 34 d16_33 rfl rfl rfl |>.dup 35 d16_34 rfl rfl |>.getf 38 (host := "") (Or.inl (hw _ (mm 86 rfl))) Via.refl Fn d16_35 rfl |>.iloadN 39 d16_38 rfl rfl |>.iadd 40 d16_39 rfl |>.top (y := (.int (Int32.ofNat (bs ++ cs).length))) (congrArg Value.int ((ofn_add _ _).trans (by rw [List.length_append])))
  obtain ⟨h3, G', Ww, Fw, Kw⟩ := G.putf 43 (host := "") (Or.inl (hw _ (mm 86 rfl))) Via.refl Fn Xa (Or.inl (hw _ (mm 87 rfl))) (hw _ (mm 44 rfl)) (ty := .int) (by decide) rfl rfl (Or.inl (mm 0 rfl)) (mm 1 rfl) d16_40 rfl
  replace G := G'; clear G'
  replace Fv := Fv.other Ww (Or.inr (slot_ne (Or.inl (hw _ (mm 71 rfl))) (Or.inl (hw _ (mm 87 rfl))) (by decide) (t := (.array .byte)) (t' := .int) (by decide) (by decide))); replace Fc := Fc.other Ww (Or.inr (slot_ne (Or.inl (hw _ (mm 69 rfl))) (Or.inl (hw _ (mm 87 rfl))) (by decide) (t := .byte) (t' := .int) (by decide) (by decide)))
  replace Xa := Xa.wr Ww; replace Ab := Ab.keep Kw (ninS nab.symm nin0)
  replace G := G.aloadN 44 d16_43 rfl rfl rfl
  exact G.retA hret rfl rfl hlk d16_44 [b1] (allS (mm 0 rfl) all0) ⟨_, rfl, rfl, b1, cp1, ⟨Xa, Fv, Fc, Fw, kb, Ab⟩, by rw [List.length_append]; exact hl1, hc1', hg1, hb1, rfl⟩ (nle rfl) (nle rfl)
theorem d15_0 : decode jdk_67_method_7_code 0 = .ok (.aload_n 0, 1) := by decide +kernel
theorem d15_1 : decode jdk_67_method_7_code 1 = .ok (.aload_n 1, 1) := by decide +kernel
theorem d15_2 : decode jdk_67_method_7_code 2 = .ok (.invokespecial 29, 3) := by decide +kernel
theorem d15_5 : decode jdk_67_method_7_code 5 = .ok (.pop, 1) := by decide +kernel
theorem d15_6 : decode jdk_67_method_7_code 6 = .ok (.aload_n 0, 1) := by decide +kernel
theorem d15_7 : decode jdk_67_method_7_code 7 = .ok (.areturn, 1) := by decide +kernel
theorem c_appG (l : Launch) (Z : State) (a0 : Array Value) (hw : ∀ d ∈ tables_1, d.before a0 Z = true) (hEW : EW Z a0 consts_1) (n0 : Nat) (c1 : Int32) (hc1 : ¬ c1 = 0) (S1 : Sta Z Z.heap "java/lang/String" "COMPACT_STRINGS" "Z" (.int c1)) (a b a2 b2 : Addr) (cap : Nat) (bs cs : List Value) {h0 : Heap} (o1 : Old Z n0 h0) (ge_a : n0 ≤ a) (ge_b : n0 ≤ b) (hle : bs.length + cs.length ≤ 62) (hcap : cap ≤ 126) (hbs : bs.length ≤ cap) (hS : Sbd Z h0 a b cap bs) (hT : Str Z h0 a2 b2 cs) (n2a : a2 ≠ a) (n2b : b2 ≠ a) :
    Con Z a0 l (⟨"java/lang/StringBuilder", "append", "(Ljava/lang/String;)Ljava/lang/StringBuilder;"⟩ : MethodName) jdk_67_method_7_code 2 (some (.object "java/lang/StringBuilder")) ({ frames := 5, cells := 1, slots := 126, locals := 84 } : Room) [] #[(.ref a), (.ref a2)] consts_1 h0 n0 [a, b] [a, b] (VV fun w h so => w = .ref a ∧ ∃ b' cap', Sbd Z h a b' cap' (bs ++ cs) ∧ (bs ++ cs).length ≤ cap' ∧ cap' ≤ 126 ∧ GC cap (bs.length + cs.length) cap' ∧ (b' = b ∨ h0.size ≤ b') ∧ so = [b']) := by
  refine Con.body (plainFor_of_name pn_java_lang_StringBuilder) hEW o1 (allS ge_a (allS ge_b all0)) #[.val (.ref a), .val (.ref a2)] (fun m => by first | (simp [entryFrame, mkF, argsToLocals, Value.category]; done) | rfl) ?_
  intro p e s m below meth c B hnm hret hlk G
  replace G := G.aloadN 1 d15_0 rfl rfl rfl |>.aloadN 2 d15_1 rfl rfl rfl
  obtain ⟨vp, h1, sop, G', Kp, Qp⟩ := G.callSup 5 (hw _ (mm 83 rfl)) (sameOf (hw _ (mm 74 rfl)) (nfVia (y := (⟨"java/lang/AbstractStringBuilder", "ensureCapacityInternal", "(I)V"⟩ : MethodName)) rfl (hw _ (mm 91 rfl)) (hw _ (mm 89 rfl))) (by decide)) (hw _ (mm 74 rfl)) (hw _ (mm 84 rfl)) (by decide) (hw _ (mm 53 rfl)) (hw _ (mm 85 rfl)) (Ins.self hS.1) [(.ref a2)] [] rfl (c_asbAppG l Z a0 hw hEW n0 c1 hc1 S1 a b a2 b2 cap bs cs G.old ge_a ge_b hle hcap hbs hS hT n2a n2b) (lenOf pd__Ljava_lang_String__Ljava_lang_AbstractStringBuilder_ rfl) d15_2 rfl (nle rfl) (nle rfl) (nle rfl) (nle rfl) (allS (Or.inl (mm 0 rfl)) (allS (Or.inl (mm 1 rfl)) all0)) (allS (mm 0 rfl) (allS (mm 1 rfl) all0)) (allS (mm 0 rfl) (allS (mm 1 rfl) all0)) rfl
  replace G := G'; clear G'
  obtain ⟨wp, qp, rfl, b1, cp1, hS1, hl1, hc2, hg1, hb1, rfl⟩ := Qp
  replace G := G.val qp |>.pop 6 d15_5 rfl rfl |>.aloadN 7 d15_6 rfl rfl rfl
  exact G.retA hret rfl rfl hlk d15_7 [b1] (allS (mm 0 rfl) all0) ⟨_, rfl, rfl, b1, cp1, hS1, hl1, hc2, hg1, hb1, rfl⟩ (nle rfl) (nle rfl)
theorem d40_0 : decode jdk_43_method_13_code 0 = .ok (.aload_n 0, 1) := by decide +kernel
theorem d40_1 : decode jdk_43_method_13_code 1 = .ok (.arraylength, 1) := by decide +kernel
theorem d40_2 : decode jdk_43_method_13_code 2 = .ok (.aload_n 1, 1) := by decide +kernel
theorem d40_3 : decode jdk_43_method_13_code 3 = .ok (.arraylength, 1) := by decide +kernel
theorem d40_4 : decode jdk_43_method_13_code 4 = .ok (.if_icmp .ne 30, 3) := by decide +kernel
theorem d40_7 : decode jdk_43_method_13_code 7 = .ok (.iconst 0, 1) := by decide +kernel
theorem d40_8 : decode jdk_43_method_13_code 8 = .ok (.istore_n 2, 1) := by decide +kernel
theorem d40_9 : decode jdk_43_method_13_code 9 = .ok (.iload_n 2, 1) := by decide +kernel
theorem d40_10 : decode jdk_43_method_13_code 10 = .ok (.aload_n 0, 1) := by decide +kernel
theorem d40_11 : decode jdk_43_method_13_code 11 = .ok (.arraylength, 1) := by decide +kernel
theorem d40_12 : decode jdk_43_method_13_code 12 = .ok (.if_icmp .ge 20, 3) := by decide +kernel
theorem d40_15 : decode jdk_43_method_13_code 15 = .ok (.aload_n 0, 1) := by decide +kernel
theorem d40_16 : decode jdk_43_method_13_code 16 = .ok (.iload_n 2, 1) := by decide +kernel
theorem d40_17 : decode jdk_43_method_13_code 17 = .ok (.baload, 1) := by decide +kernel
theorem d40_18 : decode jdk_43_method_13_code 18 = .ok (.aload_n 1, 1) := by decide +kernel
theorem d40_19 : decode jdk_43_method_13_code 19 = .ok (.iload_n 2, 1) := by decide +kernel
theorem d40_20 : decode jdk_43_method_13_code 20 = .ok (.baload, 1) := by decide +kernel
theorem d40_21 : decode jdk_43_method_13_code 21 = .ok (.if_icmp .eq 5, 3) := by decide +kernel
theorem d40_24 : decode jdk_43_method_13_code 24 = .ok (.iconst 0, 1) := by decide +kernel
theorem d40_25 : decode jdk_43_method_13_code 25 = .ok (.ireturn, 1) := by decide +kernel
theorem d40_26 : decode jdk_43_method_13_code 26 = .ok (.iinc 2 1, 3) := by decide +kernel
theorem d40_29 : decode jdk_43_method_13_code 29 = .ok (.goto (-20), 3) := by decide +kernel
theorem d40_32 : decode jdk_43_method_13_code 32 = .ok (.iconst 1, 1) := by decide +kernel
theorem d40_33 : decode jdk_43_method_13_code 33 = .ok (.ireturn, 1) := by decide +kernel
theorem d40_34 : decode jdk_43_method_13_code 34 = .ok (.iconst 0, 1) := by decide +kernel
theorem d40_35 : decode jdk_43_method_13_code 35 = .ok (.ireturn, 1) := by decide +kernel
theorem c_eqB (l : Launch) (Z : State) (a0 : Array Value) (hw : ∀ d ∈ tables_1, d.before a0 Z = true) (hEW : EW Z a0 consts_1) (n0 : Nat) (c1 : Int32) (hc1 : ¬ c1 = 0) (S1 : Sta Z Z.heap "java/lang/String" "COMPACT_STRINGS" "Z" (.int c1)) (b1 b2 : Addr) (k1 k2 : ClassId) (bs : List Value) {h0 : Heap} (o1 : Old Z n0 h0) (hn : bs.length < 2147483648) (hint : ∀ i, i < bs.length → ∃ x, bs.getD i (.int 0) = .int x) (A1 : Arv Z h0 b1 k1 .byte (Int32.ofNat bs.length) bs (.int 0)) (A2 : Arv Z h0 b2 k2 .byte (Int32.ofNat bs.length) bs (.int 0)) :
    Con Z a0 l (⟨"java/lang/StringLatin1", "equals", "([B[B)Z"⟩ : MethodName) jdk_43_method_13_code 3 (some .boolean) ({ frames := 0, cells := 0, slots := 0, locals := 0 } : Room) [] #[(.ref b1), (.ref b2)] consts_1 h0 n0 [] [] (VV fun w h so => w = .int 1 ∧ h = h0 ∧ so = []) := by
  refine Con.body (plainFor_of_name pn_java_lang_StringLatin1) hEW o1 all0 #[.val (.ref b1), .val (.ref b2), .unset] (fun m => by first | (simp [entryFrame, mkF, argsToLocals, Value.category]; done) | rfl) ?_
  intro p e s m below meth c B hnm hret hlk G
  have loop : ∀ (k i : Nat), i + k = bs.length → Wl Z a0 "java/lang/StringLatin1" p l e ({ frames := 0, cells := 0, slots := 0, locals := 0 } : Room) s m #[(.ref b1), (.ref b2)] below meth c jdk_43_method_13_code 3 B consts_1 h0 n0 [] [] h0 0 0 9 #[.val (.ref b1), .val (.ref b2), .val (.int (Int32.ofNat i))] [] → Fin Z consts_1 p e below B s h0 n0 [] ({ frames := 0, cells := 0, slots := 0, locals := 0 } : Room).cells ({ frames := 0, cells := 0, slots := 0, locals := 0 } : Room).slots (VV fun w h so => w = .int 1 ∧ h = h0 ∧ so = []) := by
    intro k; induction k with
    | zero =>
      intro i hik G
      obtain rfl : i = bs.length := by omega
      replace G := G.iloadN 10 d40_9 rfl rfl |>.aloadN 11 d40_10 rfl rfl rfl |>.alen 12 A1 d40_11 rfl |>.icmpT 32 d40_12 (XT.ii_ge_t (ofn_nlt (Nat.le_refl _) hn)) (by decide) (by decide) |>.iconst 33 (1 : Int32) d40_32 rfl rfl
      exact G.retN hret (Or.inl rfl) hlk d40_33 [] all0 ⟨_, rfl, rfl, rfl, rfl⟩ (nle rfl) (nle rfl)
    | succ k ih =>
      intro i hik G
      have hi : i < bs.length := by omega
      obtain ⟨x, hx⟩ := hint i hi
      replace G := G.iloadN 10 d40_9 rfl rfl |>.aloadN 11 d40_10 rfl rfl rfl |>.alen 12 A1 d40_11 rfl |>.icmpF 15 d40_12 (XT.ii_ge_f (ofn_lt hi hn)) rfl |>.aloadN 16 d40_15 rfl rfl rfl |>.iloadN 17 d40_16 rfl rfl |>.baload 18 (v := (.int x)) A1 ⟨ofn_nn (by omega), ofn_lt hi hn⟩ (by rw [ofn_nat (by omega)]; exact hx) d40_17 rfl |>.aloadN 19 d40_18 rfl rfl rfl
      replace G := G.iloadN 20 d40_19 rfl rfl |>.baload 21 (v := (.int x)) A2 ⟨ofn_nn (by omega), ofn_lt hi hn⟩ (by rw [ofn_nat (by omega)]; exact hx) d40_20 rfl |>.icmpT 26 d40_21 (XT.ii_eq_t rfl) (by decide) (by decide) |>.iincV 29 #[.val (.ref b1), .val (.ref b2), .val (.int (Int32.ofNat (i + 1)))] (Int32.ofNat (i + 1)) d40_26 rfl (ofn_succ i) rfl rfl |>.goto 9 d40_29 (by decide) (by decide)
      exact ih (i + 1) (by omega) G
  replace G := G.aloadN 1 d40_0 rfl rfl rfl |>.alen 2 A1 d40_1 rfl |>.aloadN 3 d40_2 rfl rfl rfl |>.alen 4 A2 d40_3 rfl |>.icmpF 7 d40_4 (XT.ii_ne_f rfl) rfl |>.iconst 8 (0 : Int32) d40_7 rfl rfl |>.istoreN 9 #[.val (.ref b1), .val (.ref b2), .val (.int (0 : Int32))] d40_8 rfl rfl
  exact loop bs.length 0 (by omega) G
theorem d39_0 : decode jdk_42_method_66_code 0 = .ok (.aload_n 0, 1) := by decide +kernel
theorem d39_1 : decode jdk_42_method_66_code 1 = .ok (.aload_n 1, 1) := by decide +kernel
theorem d39_2 : decode jdk_42_method_66_code 2 = .ok (.if_acmp .ne 5, 3) := by decide +kernel
theorem d39_5 : decode jdk_42_method_66_code 5 = .ok (.iconst 1, 1) := by decide +kernel
theorem d39_6 : decode jdk_42_method_66_code 6 = .ok (.ireturn, 1) := by decide +kernel
theorem d39_7 : decode jdk_42_method_66_code 7 = .ok (.aload_n 1, 1) := by decide +kernel
theorem d39_8 : decode jdk_42_method_66_code 8 = .ok (.instanceof 10, 3) := by decide +kernel
theorem d39_11 : decode jdk_42_method_66_code 11 = .ok (.ifCond .eq 43, 3) := by decide +kernel
theorem d39_14 : decode jdk_42_method_66_code 14 = .ok (.aload_n 1, 1) := by decide +kernel
theorem d39_15 : decode jdk_42_method_66_code 15 = .ok (.checkcast 10, 3) := by decide +kernel
theorem d39_18 : decode jdk_42_method_66_code 18 = .ok (.astore_n 2, 1) := by decide +kernel
theorem d39_19 : decode jdk_42_method_66_code 19 = .ok (.getstatic 38, 3) := by decide +kernel
theorem d39_22 : decode jdk_42_method_66_code 22 = .ok (.ifCond .eq 14, 3) := by decide +kernel
theorem d39_25 : decode jdk_42_method_66_code 25 = .ok (.aload_n 0, 1) := by decide +kernel
theorem d39_26 : decode jdk_42_method_66_code 26 = .ok (.getfield 15, 3) := by decide +kernel
theorem d39_29 : decode jdk_42_method_66_code 29 = .ok (.aload_n 2, 1) := by decide +kernel
theorem d39_30 : decode jdk_42_method_66_code 30 = .ok (.getfield 15, 3) := by decide +kernel
theorem d39_33 : decode jdk_42_method_66_code 33 = .ok (.if_icmp .ne 21, 3) := by decide +kernel
theorem d39_36 : decode jdk_42_method_66_code 36 = .ok (.aload_n 0, 1) := by decide +kernel
theorem d39_37 : decode jdk_42_method_66_code 37 = .ok (.getfield 9, 3) := by decide +kernel
theorem d39_40 : decode jdk_42_method_66_code 40 = .ok (.aload_n 2, 1) := by decide +kernel
theorem d39_41 : decode jdk_42_method_66_code 41 = .ok (.getfield 9, 3) := by decide +kernel
theorem d39_44 : decode jdk_42_method_66_code 44 = .ok (.invokestatic 541, 3) := by decide +kernel
theorem d39_47 : decode jdk_42_method_66_code 47 = .ok (.ifCond .eq 7, 3) := by decide +kernel
theorem d39_50 : decode jdk_42_method_66_code 50 = .ok (.iconst 1, 1) := by decide +kernel
theorem d39_51 : decode jdk_42_method_66_code 51 = .ok (.goto 4, 3) := by decide +kernel
theorem d39_54 : decode jdk_42_method_66_code 54 = .ok (.iconst 0, 1) := by decide +kernel
theorem d39_55 : decode jdk_42_method_66_code 55 = .ok (.ireturn, 1) := by decide +kernel
theorem c_equals (l : Launch) (Z : State) (a0 : Array Value) (hw : ∀ d ∈ tables_1, d.before a0 Z = true) (hEW : EW Z a0 consts_1) (n0 : Nat) (c1 : Int32) (hc1 : ¬ c1 = 0) (S1 : Sta Z Z.heap "java/lang/String" "COMPACT_STRINGS" "Z" (.int c1)) (a1 b1 a2 b2 : Addr) (bs : List Value) {h0 : Heap} (o1 : Old Z n0 h0) (hne : a1 ≠ a2) (hn : bs.length < 2147483648) (hint : ∀ i, i < bs.length → ∃ x, bs.getD i (.int 0) = .int x) (hS1 : Str Z h0 a1 b1 bs) (hS2 : Str Z h0 a2 b2 bs) :
    Con Z a0 l (⟨"java/lang/String", "equals", "(Ljava/lang/Object;)Z"⟩ : MethodName) jdk_42_method_66_code 3 (some .boolean) ({ frames := 1, cells := 0, slots := 0, locals := 14 } : Room) [] #[(.ref a1), (.ref a2)] consts_1 h0 n0 [] [] (VV fun w h so => w = .int 1 ∧ h = h0 ∧ so = []) := by
  refine Con.body (plainFor_of_name pn_java_lang_String) hEW o1 all0 #[.val (.ref a1), .val (.ref a2), .unset] (fun m => by first | (simp [entryFrame, mkF, argsToLocals, Value.category]; done) | rfl) ?_
  intro p e s m below meth c B hnm hret hlk G
  obtain ⟨X1, Fc1, Fv1, k1, A1⟩ := hS1
  obtain ⟨X2, Fc2, Fv2, k2, A2⟩ := hS2
  replace G := G.aloadN 1 d39_0 rfl rfl rfl |>.aloadN 2 d39_1 rfl rfl rfl |>.acmpT 7 d39_2 rfl rfl (decide_eq_true (fun q => hne (Value.ref.inj q))) (by decide) (by decide) |>.aloadN 8 d39_7 rfl rfl rfl |>.instY 11 (hw _ (mm 200 rfl)) (Ins.self X2) d39_8 rfl |>.ifF 14 d39_11 (XT.i0_eq_f (by decide)) rfl |>.aloadN 15 d39_14 rfl rfl rfl |>.ccast 18 (hw _ (mm 200 rfl)) (Ins.self X2) d39_15 rfl
  replace G := G.astoreN 19 #[.val (.ref a1), .val (.ref a2), .val (.ref a2)] d39_18 rfl rfl rfl |>.gets 22 (host := "") (Or.inl (hw _ (mm 15 rfl))) Via.refl (G.sta S1) d39_19 rfl |>.ifF 25 d39_22 (XT.i0_eq_f hc1) rfl |>.aloadN 26 d39_25 rfl rfl rfl |>.getf 29 (host := "") (Or.inl (hw _ (mm 27 rfl))) Via.refl Fc1 d39_26 rfl |>.aloadN 30 d39_29 rfl rfl rfl |>.getf 33 (host := "") (Or.inl (hw _ (mm 27 rfl))) Via.refl Fc2 d39_30 rfl |>.icmpF 36 d39_33 (XT.ii_ne_f rfl) rfl
  replace G := G.aloadN 37 d39_36 rfl rfl rfl |>.getf 40 (host := "") (Or.inl (hw _ (mm 29 rfl))) Via.refl Fv1 d39_37 rfl |>.aloadN 41 d39_40 rfl rfl rfl |>.getf 44 (host := "") (Or.inl (hw _ (mm 29 rfl))) Via.refl Fv2 d39_41 rfl
  obtain ⟨vq, h_q, soq, G', Kq, Qq⟩ := G.callS 47 (hw _ (mm 201 rfl)) (hw _ (mm 202 rfl)) (hw _ (mm 157 rfl)) (hw _ (mm 203 rfl)) (by decide) [(.ref b1), (.ref b2)] [] rfl (c_eqB l Z a0 hw hEW n0 c1 hc1 S1 b1 b2 k1 k2 bs G.old hn hint A1 A2) (lenOf pd___B_B_Z rfl) d39_44 rfl (nle rfl) (nle rfl) (nle rfl) (nle rfl) all0 all0 all0 rfl
  replace G := G'; clear G'
  obtain ⟨wq, qq, rfl, eq, rfl⟩ := Qq
  replace G := G.val qq
  subst eq
  replace G := G.ifF 50 d39_47 (XT.i0_eq_f (by decide)) rfl |>.iconst 51 (1 : Int32) d39_50 rfl rfl |>.goto 55 d39_51 (by decide) (by decide)
  exact G.retN hret (Or.inl rfl) hlk d39_55 [] all0 ⟨_, rfl, rfl, rfl, rfl⟩ (nle rfl) (nle rfl)
theorem d29_0 : decode jdk_43_method_3_code 0 = .ok (.iload_n 0, 1) := by decide +kernel
theorem d29_1 : decode jdk_43_method_3_code 1 = .ok (.sipush 255, 3) := by decide +kernel
theorem d29_4 : decode jdk_43_method_3_code 4 = .ok (.if_icmp .gt 7, 3) := by decide +kernel
theorem d29_7 : decode jdk_43_method_3_code 7 = .ok (.iconst 1, 1) := by decide +kernel
theorem d29_8 : decode jdk_43_method_3_code 8 = .ok (.goto 4, 3) := by decide +kernel
theorem d29_11 : decode jdk_43_method_3_code 11 = .ok (.iconst 0, 1) := by decide +kernel
theorem d29_12 : decode jdk_43_method_3_code 12 = .ok (.ireturn, 1) := by decide +kernel
theorem c_canEnc (l : Launch) (Z : State) (a0 : Array Value) (hw : ∀ d ∈ tables_1, d.before a0 Z = true) (hEW : EW Z a0 consts_1) (n0 : Nat) (c1 : Int32) (hc1 : ¬ c1 = 0) (S1 : Sta Z Z.heap "java/lang/String" "COMPACT_STRINGS" "Z" (.int c1)) (x : Int32) {h0 : Heap} (o1 : Old Z n0 h0) (hx : ¬ (255 : Int32) < x) :
    Con Z a0 l (⟨"java/lang/StringLatin1", "canEncode", "(C)Z"⟩ : MethodName) jdk_43_method_3_code 1 (some .boolean) ({ frames := 0, cells := 0, slots := 0, locals := 0 } : Room) [] #[(.int x)] consts_1 h0 n0 [] [] (VV fun w h so => w = .int 1 ∧ h = h0 ∧ so = []) := by
  refine Con.body (plainFor_of_name pn_java_lang_StringLatin1) hEW o1 all0 #[.val (.int x)] (fun m => by first | (simp [entryFrame, mkF, argsToLocals, Value.category]; done) | rfl) ?_
  intro p e s m below meth c B hnm hret hlk G
  replace G := G.iloadN 1 d29_0 rfl rfl |>.sipush 4 (255 : Int32) d29_1 (by decide) rfl |>.icmpF 7 d29_4 (XT.ii_gt_f hx) rfl |>.iconst 8 (1 : Int32) d29_7 rfl rfl |>.goto 12 d29_8 (by decide) (by decide)
  exact G.retN hret (Or.inl rfl) hlk d29_12 [] all0 ⟨_, rfl, rfl, rfl, rfl⟩ (nle rfl) (nle rfl)
theorem d14_0 : decode jdk_67_method_80_code 0 = .ok (.aload_n 0, 1) := by decide +kernel
theorem d14_1 : decode jdk_67_method_80_code 1 = .ok (.aload_n 1, 1) := by decide +kernel
theorem d14_2 : decode jdk_67_method_80_code 2 = .ok (.invokevirtual 23, 3) := by decide +kernel
theorem d14_5 : decode jdk_67_method_80_code 5 = .ok (.areturn, 1) := by decide +kernel
theorem c_appBr (l : Launch) (Z : State) (a0 : Array Value) (hw : ∀ d ∈ tables_1, d.before a0 Z = true) (hEW : EW Z a0 consts_1) (n0 : Nat) (c1 : Int32) (hc1 : ¬ c1 = 0) (S1 : Sta Z Z.heap "java/lang/String" "COMPACT_STRINGS" "Z" (.int c1)) (a b a2 b2 : Addr) (cap : Nat) (bs cs : List Value) {h0 : Heap} (o1 : Old Z n0 h0) (ge_a : n0 ≤ a) (ge_b : n0 ≤ b) (hle : bs.length + cs.length ≤ 62) (hcap : cap ≤ 126) (hbs : bs.length ≤ cap) (hS : Sbd Z h0 a b cap bs) (hT : Str Z h0 a2 b2 cs) (n2a : a2 ≠ a) (n2b : b2 ≠ a) :
    Con Z a0 l (⟨"java/lang/StringBuilder", "append", "(Ljava/lang/String;)Ljava/lang/AbstractStringBuilder;"⟩ : MethodName) jdk_67_method_80_code 2 (some (.object "java/lang/AbstractStringBuilder")) ({ frames := 6, cells := 1, slots := 126, locals := 97 } : Room) [] #[(.ref a), (.ref a2)] consts_1 h0 n0 [a, b] [a, b] (VV fun w h so => w = .ref a ∧ ∃ b' cap', Sbd Z h a b' cap' (bs ++ cs) ∧ (bs ++ cs).length ≤ cap' ∧ cap' ≤ 126 ∧ GC cap (bs.length + cs.length) cap' ∧ (b' = b ∨ h0.size ≤ b') ∧ so = [b']) := by
  refine Con.body (plainFor_of_name pn_java_lang_StringBuilder) hEW o1 (allS ge_a (allS ge_b all0)) #[.val (.ref a), .val (.ref a2)] (fun m => by first | (simp [entryFrame, mkF, argsToLocals, Value.category]; done) | rfl) ?_
  intro p e s m below meth c B hnm hret hlk G
  replace G := G.aloadN 1 d14_0 rfl rfl rfl |>.aloadN 2 d14_1 rfl rfl rfl
  obtain ⟨vp, h1, sop, G', Kp, Qp⟩ := G.callV 5 (hw _ (mm 78 rfl)) (hw _ (mm 79 rfl)) (nfSel (hw _ (mm 81 rfl))) (hw _ (mm 81 rfl)) (hw _ (mm 80 rfl)) (hw _ (mm 45 rfl)) (hw _ (mm 82 rfl)) hS.1 (by decide) [(.ref a2)] [] rfl (c_appG l Z a0 hw hEW n0 c1 hc1 S1 a b a2 b2 cap bs cs G.old ge_a ge_b hle hcap hbs hS hT n2a n2b) (lenOf pd__Ljava_lang_String__Ljava_lang_StringBuilder_ rfl) d14_2 rfl (nle rfl) (nle rfl) (nle rfl) (nle rfl) (allS (Or.inl (mm 0 rfl)) (allS (Or.inl (mm 1 rfl)) all0)) (allS (mm 0 rfl) (allS (mm 1 rfl) all0)) (allS (mm 0 rfl) (allS (mm 1 rfl) all0)) rfl
  replace G := G'; clear G'
  obtain ⟨wp, qp, rfl, b1, cp1, hS1, hl1, hc2, hg1, hb1, rfl⟩ := Qp
  replace G := G.val qp
  exact G.retA hret rfl rfl hlk d14_5 [b1] (allS (mm 0 rfl) all0) ⟨_, rfl, rfl, b1, cp1, hS1, hl1, hc2, hg1, hb1, rfl⟩ (nle rfl) (nle rfl)
theorem d11_0 : decode jdk_68_method_3_code 0 = .ok (.aload_n 0, 1) := by decide +kernel
theorem d11_1 : decode jdk_68_method_3_code 1 = .ok (.invokespecial 3, 3) := by decide +kernel
theorem d11_4 : decode jdk_68_method_3_code 4 = .ok (.aload_n 1, 1) := by decide +kernel
theorem d11_5 : decode jdk_68_method_3_code 5 = .ok (.invokevirtual 32, 3) := by decide +kernel
theorem d11_8 : decode jdk_68_method_3_code 8 = .ok (.istore_n 2, 1) := by decide +kernel
theorem d11_9 : decode jdk_68_method_3_code 9 = .ok (.iload_n 2, 1) := by decide +kernel
theorem d11_10 : decode jdk_68_method_3_code 10 = .ok (.ldc 38, 2) := by decide +kernel
theorem d11_12 : decode jdk_68_method_3_code 12 = .ok (.if_icmp .ge 10, 3) := by decide +kernel
theorem d11_15 : decode jdk_68_method_3_code 15 = .ok (.iload_n 2, 1) := by decide +kernel
theorem d11_16 : decode jdk_68_method_3_code 16 = .ok (.bipush 16, 2) := by decide +kernel
theorem d11_18 : decode jdk_68_method_3_code 18 = .ok (.iadd, 1) := by decide +kernel
theorem d11_19 : decode jdk_68_method_3_code 19 = .ok (.goto 5, 3) := by decide +kernel
theorem d11_22 : decode jdk_68_method_3_code 22 = .ok (.ldc 39, 2) := by decide +kernel
theorem d11_24 : decode jdk_68_method_3_code 24 = .ok (.istore_n 3, 1) := by decide +kernel
theorem d11_25 : decode jdk_68_method_3_code 25 = .ok (.aload_n 1, 1) := by decide +kernel
theorem d11_26 : decode jdk_68_method_3_code 26 = .ok (.invokevirtual 40, 3) := by decide +kernel
theorem d11_29 : decode jdk_68_method_3_code 29 = .ok (.istore 4, 2) := by decide +kernel
theorem d11_31 : decode jdk_68_method_3_code 31 = .ok (.aload_n 0, 1) := by decide +kernel
theorem d11_32 : decode jdk_68_method_3_code 32 = .ok (.iload 4, 2) := by decide +kernel
theorem d11_34 : decode jdk_68_method_3_code 34 = .ok (.putfield 22, 3) := by decide +kernel
theorem d11_37 : decode jdk_68_method_3_code 37 = .ok (.aload_n 0, 1) := by decide +kernel
theorem d11_38 : decode jdk_68_method_3_code 38 = .ok (.iload 4, 2) := by decide +kernel
theorem d11_40 : decode jdk_68_method_3_code 40 = .ok (.ifCond .ne 9, 3) := by decide +kernel
theorem d11_43 : decode jdk_68_method_3_code 43 = .ok (.iload_n 3, 1) := by decide +kernel
theorem d11_44 : decode jdk_68_method_3_code 44 = .ok (.newarray .byte, 2) := by decide +kernel
theorem d11_46 : decode jdk_68_method_3_code 46 = .ok (.goto 7, 3) := by decide +kernel
theorem d11_49 : decode jdk_68_method_3_code 49 = .ok (.iload_n 3, 1) := by decide +kernel
theorem d11_50 : decode jdk_68_method_3_code 50 = .ok (.invokestatic 26, 3) := by decide +kernel
theorem d11_53 : decode jdk_68_method_3_code 53 = .ok (.putfield 15, 3) := by decide +kernel
theorem d11_56 : decode jdk_68_method_3_code 56 = .ok (.aload_n 0, 1) := by decide +kernel
theorem d11_57 : decode jdk_68_method_3_code 57 = .ok (.aload_n 1, 1) := by decide +kernel
theorem d11_58 : decode jdk_68_method_3_code 58 = .ok (.invokevirtual 43, 3) := by decide +kernel
theorem d11_61 : decode jdk_68_method_3_code 61 = .ok (.pop, 1) := by decide +kernel
theorem d11_62 : decode jdk_68_method_3_code 62 = .ok (.return_, 1) := by decide +kernel
theorem c_asbIS (l : Launch) (Z : State) (a0 : Array Value) (hw : ∀ d ∈ tables_1, d.before a0 Z = true) (hEW : EW Z a0 consts_1) (n0 : Nat) (c1 : Int32) (hc1 : ¬ c1 = 0) (S1 : Sta Z Z.heap "java/lang/String" "COMPACT_STRINGS" "Z" (.int c1)) (a a2 b2 : Addr) (cs : List Value) {h0 : Heap} (o1 : Old Z n0 h0) (ge_a : n0 ≤ a) (hn : cs.length ≤ 40) (Xa : Exa Z h0 a "java/lang/StringBuilder") (Fv : Fld Z h0 a "java/lang/AbstractStringBuilder" "value" "[B" .null) (Fc : Fld Z h0 a "java/lang/AbstractStringBuilder" "coder" "B" (.int 0)) (Fn : Fld Z h0 a "java/lang/AbstractStringBuilder" "count" "I" (.int 0)) (hT : Str Z h0 a2 b2 cs) (n2a : a2 ≠ a) (n2b : b2 ≠ a) :
    Con Z a0 l (⟨"java/lang/AbstractStringBuilder", "<init>", "(Ljava/lang/String;)V"⟩ : MethodName) jdk_68_method_3_code 5 (none) ({ frames := 7, cells := 2, slots := 186, locals := 110 } : Room) [] #[(.ref a), (.ref a2)] consts_1 h0 n0 [a] [a] (V0 fun h so => ∃ b, Sbd Z h a b (cs.length + 16) cs ∧ h0.size ≤ b ∧ so = [b]) := by
  refine Con.body (plainFor_of_name pn_java_lang_AbstractStringBuilder) hEW o1 (allS ge_a all0) #[.val (.ref a), .val (.ref a2), .unset, .unset, .unset] (fun m => by first | (simp [entryFrame, mkF, argsToLocals, Value.category]; done) | rfl) ?_
  intro p e s m below meth c B hnm hret hlk G
  obtain ⟨X2, Fc2, Fv2, k2, A2⟩ := hT
  have hT : Str Z h0 a2 b2 cs := ⟨X2, Fc2, Fv2, k2, A2⟩
  replace G := G.aloadN 1 d11_0 rfl rfl rfl |>.initO 4 (hw _ (mm 55 rfl)) (hw _ (mm 13 rfl)) (hw _ (mm 14 rfl)) d11_1 rfl (nle rfl) (nle rfl) rfl |>.aloadN 5 d11_4 rfl rfl rfl
  obtain ⟨vl, h_l, sol, G', Kl, Ql⟩ := G.callV 8 (hw _ (mm 56 rfl)) (hw _ (mm 57 rfl)) (nfSel (hw _ (mm 59 rfl))) (hw _ (mm 59 rfl)) (hw _ (mm 58 rfl)) (hw _ (mm 3 rfl)) (hw _ (mm 60 rfl)) X2 (by decide) [] [] rfl (c_length l Z a0 hw hEW n0 c1 hc1 S1 a2 b2 cs G.old hT) (lenOf pd___I rfl) d11_5 rfl (nle rfl) (nle rfl) (nle rfl) (nle rfl) all0 all0 all0 rfl
  replace G := G'; clear G'
  obtain ⟨wl, ql, rfl, el, rfl⟩ := Ql
  replace G := G.val ql
  subst el
  replace G := G.istoreN 9 #[.val (.ref a), .val (.ref a2), .val (.int (Int32.ofNat cs.length)), .unset, .unset] d11_8 rfl rfl |>.iloadN 10 d11_9 rfl rfl |>.ldcI 12 (hw _ (mm 66 rfl)) d11_10 rfl |>.icmpF 15 d11_12 (XT.ii_ge_f (ofn_lt (n := 2147483631) (by omega) (by decide))) rfl |>.iloadN 16 d11_15 rfl rfl |>.bipush 18 (16 : Int32) d11_16 (by decide) rfl |>.iadd 19 d11_18 rfl |>.top (y := (.int (Int32.ofNat (cs.length + 16)))) (congrArg Value.int (ofn_add _ 16))
  replace G := G.goto 24 d11_19 (by decide) (by decide) |>.istoreN 25 #[.val (.ref a), .val (.ref a2), .val (.int (Int32.ofNat cs.length)), .val (.int (Int32.ofNat (cs.length + 16))), .unset] d11_24 rfl rfl |>.aloadN 26 d11_25 rfl rfl rfl
  obtain ⟨vc, h_c, soc, G', Kc, Qc⟩ := G.callV 29 (hw _ (mm 67 rfl)) (hw _ (mm 62 rfl)) (nfSel (hw _ (mm 64 rfl))) (hw _ (mm 64 rfl)) (hw _ (mm 63 rfl)) (hw _ (mm 3 rfl)) (hw _ (mm 65 rfl)) X2 (by decide) [] [] rfl (c_coder l Z a0 hw hEW n0 c1 hc1 S1 a2 G.old Fc2) (lenOf pd___B rfl) d11_26 rfl (nle rfl) (nle rfl) (nle rfl) (nle rfl) all0 all0 all0 rfl
  replace G := G'; clear G'
  obtain ⟨wc, qc, rfl, ec, rfl⟩ := Qc
  replace G := G.val qc
  subst ec
  replace G := G.istore 31 #[.val (.ref a), .val (.ref a2), .val (.int (Int32.ofNat cs.length)), .val (.int (Int32.ofNat (cs.length + 16))), .val (.int (0 : Int32))] d11_29 rfl rfl |>.aloadN 32 d11_31 rfl rfl rfl |>.iload 34 d11_32 rfl rfl
  obtain ⟨h1, G', Wc', Fc', Kc'⟩ := G.putf 37 (host := "") (Or.inl (hw _ (mm 68 rfl))) Via.refl Fc Xa (Or.inl (hw _ (mm 69 rfl))) (hw _ (mm 44 rfl)) (ty := .byte) (by decide) rfl rfl (Or.inl (mm 0 rfl)) (mm 0 rfl) d11_34 rfl
  replace G := G'; clear G'
  replace Fn := Fn.other Wc' (Or.inr (slot_ne (Or.inl (hw _ (mm 87 rfl))) (Or.inl (hw _ (mm 69 rfl))) (by decide) (t := .int) (t' := .byte) (by decide) (by decide))); replace Fv := Fv.other Wc' (Or.inr (slot_ne (Or.inl (hw _ (mm 71 rfl))) (Or.inl (hw _ (mm 69 rfl))) (by decide) (t := (.array .byte)) (t' := .byte) (by decide) (by decide))); replace Xa := Xa.wr Wc'; replace hT := hT.keep Kc' (ninS n2a nin0) (ninS n2b nin0)
  replace G := G.aloadN 38 d11_37 rfl rfl rfl |>.iload 40 d11_38 rfl rfl |>.ifF 43 d11_40 (XT.i0_ne_f rfl) rfl |>.iloadN 44 d11_43 rfl rfl
  obtain ⟨b, h2, kb, G', gb, sb, Eb, Ab⟩ := G.newarray 46 (hw _ (mm 20 rfl)) d11_44 (ofn_nn (by omega)) 60 (by rw [ofn_nat (by omega)]; omega) (by decide) rfl (nle rfl) (nle rfl)
  replace G := G'; clear G'
  have nab : a ≠ b := ne_new gb Xa.lt
  replace Xa := Xa.ext Eb; replace Fv := Fv.ext Eb; replace Fc' := Fc'.ext Eb; replace Fn := Fn.ext Eb; replace hT := hT.ext Eb
  replace G := G.goto 53 d11_46 (by decide) (by decide)
  obtain ⟨h3, G', Wv, Fv, Kv⟩ := G.putf 56 (host := "") (Or.inl (hw _ (mm 70 rfl))) Via.refl Fv Xa (Or.inl (hw _ (mm 71 rfl))) (hw _ (mm 44 rfl)) (ty := (.array .byte)) (by decide) rfl rfl (Or.inl (mm 0 rfl)) (mm 1 rfl) d11_53 rfl
  replace G := G'; clear G'
  replace Fn := Fn.other Wv (Or.inr (slot_ne (Or.inl (hw _ (mm 87 rfl))) (Or.inl (hw _ (mm 71 rfl))) (by decide) (t := .int) (t' := (.array .byte)) (by decide) (by decide))); replace Fc' := Fc'.other Wv (Or.inr (slot_ne (Or.inl (hw _ (mm 69 rfl))) (Or.inl (hw _ (mm 71 rfl))) (by decide) (t := .byte) (t' := (.array .byte)) (by decide) (by decide))); replace Xa := Xa.wr Wv; replace Ab := Ab.keep Kv (ninS nab.symm nin0); replace hT := hT.keep Kv (ninS n2a nin0) (ninS n2b nin0)
  replace G := G.aloadN 57 d11_56 rfl rfl rfl |>.aloadN 58 d11_57 rfl rfl rfl
  have hS : Sbd Z h3 a b (cs.length + 16) [] := ⟨Xa, Fv, Fc', Fn, kb, Ab⟩
  have sz := G.sz
  obtain ⟨vp, h4, sop, G', Kp, Qp⟩ := G.callV 61 (hw _ (mm 72 rfl)) (hw _ (mm 73 rfl)) (nfVia (y := (⟨"java/lang/AbstractStringBuilder", "ensureCapacityInternal", "(I)V"⟩ : MethodName)) rfl (hw _ (mm 91 rfl)) (hw _ (mm 89 rfl))) (hw _ (mm 75 rfl)) (hw _ (mm 76 rfl)) (hw _ (mm 45 rfl)) (hw _ (mm 77 rfl)) hS.1 (by decide) [(.ref a2)] [] rfl (c_appBr l Z a0 hw hEW n0 c1 hc1 S1 a b a2 b2 (cs.length + 16) [] cs G.old ge_a (G.nw (Or.inr sb)) (by simp; omega) (by omega) (by simp) hS hT n2a n2b) (lenOf pd__Ljava_lang_String__Ljava_lang_AbstractStringBuilder_ rfl) d11_58 rfl (nle rfl) (nle rfl) (nle rfl) (nle rfl) (allS (Or.inl (mm 0 rfl)) (allS (Or.inr sb) all0)) (allS (mm 1 rfl) (allS (mm 0 rfl) all0)) (allS (mm 1 rfl) (allS (mm 0 rfl) all0)) rfl
  replace G := G'; clear G'
  obtain ⟨wp, qp, rfl, b1, cp1, hS1, hl1, hc2, hg1, hb1, rfl⟩ := Qp
  replace G := G.val qp
  rw [List.nil_append] at hS1
  obtain rfl : cp1 = cs.length + 16 := by simp only [GC, List.length_nil] at hg1; omega
  replace G := G.pop 62 d11_61 rfl rfl
  exact G.retV hret hlk d11_62 [b1] (allS (mm 0 rfl) all0) ⟨rfl, b1, hS1, hb1.elim (fun q => q ▸ sb) (fun q => Nat.le_trans sz q), rfl⟩ (nle rfl) (nle rfl)
theorem d10_0 : decode jdk_67_method_3_code 0 = .ok (.aload_n 0, 1) := by decide +kernel
theorem d10_1 : decode jdk_67_method_3_code 1 = .ok (.aload_n 1, 1) := by decide +kernel
theorem d10_2 : decode jdk_67_method_3_code 2 = .ok (.invokespecial 7, 3) := by decide +kernel
theorem d10_5 : decode jdk_67_method_3_code 5 = .ok (.return_, 1) := by decide +kernel
theorem c_sbIS (l : Launch) (Z : State) (a0 : Array Value) (hw : ∀ d ∈ tables_1, d.before a0 Z = true) (hEW : EW Z a0 consts_1) (n0 : Nat) (c1 : Int32) (hc1 : ¬ c1 = 0) (S1 : Sta Z Z.heap "java/lang/String" "COMPACT_STRINGS" "Z" (.int c1)) (a a2 b2 : Addr) (cs : List Value) {h0 : Heap} (o1 : Old Z n0 h0) (ge_a : n0 ≤ a) (hn : cs.length ≤ 40) (Xa : Exa Z h0 a "java/lang/StringBuilder") (Fv : Fld Z h0 a "java/lang/AbstractStringBuilder" "value" "[B" .null) (Fc : Fld Z h0 a "java/lang/AbstractStringBuilder" "coder" "B" (.int 0)) (Fn : Fld Z h0 a "java/lang/AbstractStringBuilder" "count" "I" (.int 0)) (hT : Str Z h0 a2 b2 cs) (n2a : a2 ≠ a) (n2b : b2 ≠ a) :
    Con Z a0 l (⟨"java/lang/StringBuilder", "<init>", "(Ljava/lang/String;)V"⟩ : MethodName) jdk_67_method_3_code 2 (none) ({ frames := 8, cells := 2, slots := 186, locals := 126 } : Room) [] #[(.ref a), (.ref a2)] consts_1 h0 n0 [a] [a] (V0 fun h so => ∃ b, Sbd Z h a b (cs.length + 16) cs ∧ h0.size ≤ b ∧ so = [b]) := by
  refine Con.body (plainFor_of_name pn_java_lang_StringBuilder) hEW o1 (allS ge_a all0) #[.val (.ref a), .val (.ref a2)] (fun m => by first | (simp [entryFrame, mkF, argsToLocals, Value.category]; done) | rfl) ?_
  intro p e s m below meth c B hnm hret hlk G
  replace G := G.aloadN 1 d10_0 rfl rfl rfl |>.aloadN 2 d10_1 rfl rfl rfl
  obtain ⟨vi, h1, soi, G', Ki, Qi⟩ := G.callI 5 rfl rfl (hw _ (mm 49 rfl)) (hw _ (mm 50 rfl)) (hw _ (mm 53 rfl)) (hw _ (mm 54 rfl)) (by decide) [(.ref a2)] [] rfl (c_asbIS l Z a0 hw hEW n0 c1 hc1 S1 a a2 b2 cs G.old ge_a hn Xa Fv Fc Fn hT n2a n2b) (lenOf pd__Ljava_lang_String__V rfl) d10_2 rfl (nle rfl) (nle rfl) (nle rfl) (nle rfl) (allS (Or.inl (mm 0 rfl)) all0) (allS (mm 0 rfl) all0) (allS (mm 0 rfl) all0) rfl
  replace G := G'; clear G'
  obtain ⟨qi, b, hS, hb, rfl⟩ := Qi
  replace G := G.nov qi
  exact G.retV hret hlk d10_5 [b] (allS (mm 0 rfl) all0) ⟨rfl, b, hS, hb, rfl⟩ (nle rfl) (nle rfl)
theorem d27_0 : decode jdk_68_method_31_code 0 = .ok (.aload_n 0, 1) := by decide +kernel
theorem d27_1 : decode jdk_68_method_31_code 1 = .ok (.aload_n 0, 1) := by decide +kernel
theorem d27_2 : decode jdk_68_method_31_code 2 = .ok (.getfield 79, 3) := by decide +kernel
theorem d27_5 : decode jdk_68_method_31_code 5 = .ok (.iconst 1, 1) := by decide +kernel
theorem d27_6 : decode jdk_68_method_31_code 6 = .ok (.iadd, 1) := by decide +kernel
theorem d27_7 : decode jdk_68_method_31_code 7 = .ok (.invokevirtual 100, 3) := by decide +kernel
theorem d27_10 : decode jdk_68_method_31_code 10 = .ok (.aload_n 0, 1) := by decide +kernel
theorem d27_11 : decode jdk_68_method_31_code 11 = .ok (.invokevirtual 83, 3) := by decide +kernel
theorem d27_14 : decode jdk_68_method_31_code 14 = .ok (.ifCond .eq 31, 3) := by decide +kernel
theorem d27_17 : decode jdk_68_method_31_code 17 = .ok (.iload_n 1, 1) := by decide +kernel
theorem d27_18 : decode jdk_68_method_31_code 18 = .ok (.invokestatic 191, 3) := by decide +kernel
theorem d27_21 : decode jdk_68_method_31_code 21 = .ok (.ifCond .eq 24, 3) := by decide +kernel
theorem d27_24 : decode jdk_68_method_31_code 24 = .ok (.aload_n 0, 1) := by decide +kernel
theorem d27_25 : decode jdk_68_method_31_code 25 = .ok (.getfield 15, 3) := by decide +kernel
theorem d27_28 : decode jdk_68_method_31_code 28 = .ok (.aload_n 0, 1) := by decide +kernel
theorem d27_29 : decode jdk_68_method_31_code 29 = .ok (.dup, 1) := by decide +kernel
theorem d27_30 : decode jdk_68_method_31_code 30 = .ok (.getfield 79, 3) := by decide +kernel
theorem d27_33 : decode jdk_68_method_31_code 33 = .ok (.dup_x1, 1) := by decide +kernel
theorem d27_34 : decode jdk_68_method_31_code 34 = .ok (.iconst 1, 1) := by decide +kernel
theorem d27_35 : decode jdk_68_method_31_code 35 = .ok (.iadd, 1) := by decide +kernel
theorem d27_36 : decode jdk_68_method_31_code 36 = .ok (.putfield 79, 3) := by decide +kernel
theorem d27_39 : decode jdk_68_method_31_code 39 = .ok (.iload_n 1, 1) := by decide +kernel
theorem d27_40 : decode jdk_68_method_31_code 40 = .ok (.i2b, 1) := by decide +kernel
theorem d27_41 : decode jdk_68_method_31_code 41 = .ok (.bastore, 1) := by decide +kernel
theorem d27_42 : decode jdk_68_method_31_code 42 = .ok (.goto 33, 3) := by decide +kernel
theorem d27_45 : decode jdk_68_method_31_code 45 = .ok (.aload_n 0, 1) := by decide +kernel
theorem d27_46 : decode jdk_68_method_31_code 46 = .ok (.invokevirtual 83, 3) := by decide +kernel
theorem d27_49 : decode jdk_68_method_31_code 49 = .ok (.ifCond .eq 7, 3) := by decide +kernel
theorem d27_52 : decode jdk_68_method_31_code 52 = .ok (.aload_n 0, 1) := by decide +kernel
theorem d27_53 : decode jdk_68_method_31_code 53 = .ok (.invokevirtual 195, 3) := by decide +kernel
theorem d27_56 : decode jdk_68_method_31_code 56 = .ok (.aload_n 0, 1) := by decide +kernel
theorem d27_57 : decode jdk_68_method_31_code 57 = .ok (.getfield 15, 3) := by decide +kernel
theorem d27_60 : decode jdk_68_method_31_code 60 = .ok (.aload_n 0, 1) := by decide +kernel
theorem d27_61 : decode jdk_68_method_31_code 61 = .ok (.dup, 1) := by decide +kernel
theorem d27_62 : decode jdk_68_method_31_code 62 = .ok (.getfield 79, 3) := by decide +kernel
theorem d27_65 : decode jdk_68_method_31_code 65 = .ok (.dup_x1, 1) := by decide +kernel
theorem d27_66 : decode jdk_68_method_31_code 66 = .ok (.iconst 1, 1) := by decide +kernel
theorem d27_67 : decode jdk_68_method_31_code 67 = .ok (.iadd, 1) := by decide +kernel
theorem d27_68 : decode jdk_68_method_31_code 68 = .ok (.putfield 79, 3) := by decide +kernel
theorem d27_71 : decode jdk_68_method_31_code 71 = .ok (.iload_n 1, 1) := by decide +kernel
theorem d27_72 : decode jdk_68_method_31_code 72 = .ok (.invokestatic 197, 3) := by decide +kernel
theorem d27_75 : decode jdk_68_method_31_code 75 = .ok (.aload_n 0, 1) := by decide +kernel
theorem d27_76 : decode jdk_68_method_31_code 76 = .ok (.areturn, 1) := by decide +kernel
theorem c_asbAC (l : Launch) (Z : State) (a0 : Array Value) (hw : ∀ d ∈ tables_1, d.before a0 Z = true) (hEW : EW Z a0 consts_1) (n0 : Nat) (c1 : Int32) (hc1 : ¬ c1 = 0) (S1 : Sta Z Z.heap "java/lang/String" "COMPACT_STRINGS" "Z" (.int c1)) (a b : Addr) (cap : Nat) (bs : List Value) (x : Int32) {h0 : Heap} (o1 : Old Z n0 h0) (ge_a : n0 ≤ a) (ge_b : n0 ≤ b) (hx : ¬ (255 : Int32) < x) (hle : bs.length + 1 ≤ 62) (hcap : cap ≤ 126) (hbs : bs.length ≤ cap) (hS : Sbd Z h0 a b cap bs) :
    Con Z a0 l (⟨"java/lang/AbstractStringBuilder", "append", "(C)Ljava/lang/AbstractStringBuilder;"⟩ : MethodName) jdk_68_method_31_code 2 (some (.object "java/lang/AbstractStringBuilder")) ({ frames := 4, cells := 1, slots := 126, locals := 70 } : Room) [] #[(.ref a), (.int x)] consts_1 h0 n0 [a, b] [a, b] (VV fun w h so => w = .ref a ∧ ∃ b' cap', Sbd Z h a b' cap' (bs ++ [bytV x]) ∧ (bs ++ [bytV x]).length ≤ cap' ∧ cap' ≤ 126 ∧ GC cap (bs.length + 1) cap' ∧ (b' = b ∨ h0.size ≤ b') ∧ so = [b']) := by
  refine Con.body (plainFor_of_name pn_java_lang_AbstractStringBuilder) hEW o1 (allS ge_a (allS ge_b all0)) #[.val (.ref a), .val (.int x)] (fun m => by first | (simp [entryFrame, mkF, argsToLocals, Value.category]; done) | rfl) ?_
  intro p e s m below meth c B hnm hret hlk G
  replace G := G.aloadN 1 d27_0 rfl rfl rfl |>.aloadN 2 d27_1 rfl rfl rfl |>.getf 5 (host := "") (Or.inl (hw _ (mm 86 rfl))) Via.refl hS.2.2.2.1 d27_2 rfl |>.iconst 6 (1 : Int32) d27_5 rfl rfl |>.iadd 7 d27_6 rfl |>.top (y := (.int (Int32.ofNat (bs.length + 1)))) (congrArg Value.int (ofn_add _ 1))
  obtain ⟨ve, h1, soe, G', Ke, Qe⟩ := G.callV 10 (hw _ (mm 88 rfl)) (declOf (hw _ (mm 89 rfl)) (hw _ (mm 92 rfl))) (nfSel (hw _ (mm 91 rfl))) (hw _ (mm 91 rfl)) (hw _ (mm 89 rfl)) (hw _ (mm 53 rfl)) (hw _ (mm 92 rfl)) hS.1 (by decide) [(.int (Int32.ofNat (bs.length + 1)))] [] rfl (c_ensG l Z a0 hw hEW n0 c1 hc1 S1 a b cap (bs.length + 1) bs G.old ge_a hle hcap hbs hS) (lenOf pd__I_V rfl) d27_7 rfl (nle rfl) (nle rfl) (nle rfl) (nle rfl) (allS (Or.inl (mm 0 rfl)) all0) (allS (mm 0 rfl) (allS (mm 1 rfl) all0)) (allS (mm 0 rfl) all0) rfl
  replace G := G'; clear G'
  obtain ⟨qe, b1, cp1, hS1, hl1, hc1', hg1, hb1, rfl⟩ := Qe
  replace G := G.nov qe
  have nwb : NW h0 [a, b] b1 := hb1.elim (fun q => Or.inl (q ▸ (mm 1 rfl))) Or.inr
  replace G := G.aloadN 11 d27_10 rfl rfl rfl
  obtain ⟨vl, h_l, sol, G', Kl, Ql⟩ := G.callV 14 (hw _ (mm 150 rfl)) (hw _ (mm 151 rfl)) (nfSel (hw _ (mm 153 rfl))) (hw _ (mm 153 rfl)) (hw _ (mm 152 rfl)) (hw _ (mm 53 rfl)) (hw _ (mm 154 rfl)) hS1.1 (by decide) [] [] rfl (c_isL1 l Z a0 hw hEW n0 c1 hc1 S1 a b1 cp1 bs G.old hS1) (lenOf pd___Z rfl) d27_11 rfl (nle rfl) (nle rfl) (nle rfl) (nle rfl) all0 all0 all0 rfl
  replace G := G'; clear G'
  obtain ⟨wl, ql, rfl, el, rfl⟩ := Ql
  replace G := G.val ql
  subst el
  replace G := G.ifF 17 d27_14 (XT.i0_eq_f (by decide)) rfl |>.iloadN 18 d27_17 rfl rfl
  obtain ⟨vk, h_k, sok, G', Kk, Qk⟩ := G.callS 21 (hw _ (mm 155 rfl)) (hw _ (mm 156 rfl)) (hw _ (mm 157 rfl)) (hw _ (mm 158 rfl)) (by decide) [(.int x)] [] rfl (c_canEnc l Z a0 hw hEW n0 c1 hc1 S1 x G.old hx) (lenOf pd__C_Z rfl) d27_18 rfl (nle rfl) (nle rfl) (nle rfl) (nle rfl) all0 all0 all0 rfl
  replace G := G'; clear G'
  obtain ⟨wk, qk, rfl, ek, rfl⟩ := Qk
  replace G := G.val qk
  subst ek
  replace G := G.ifF 24 d27_21 (XT.i0_eq_f (by decide)) rfl |>.aloadN 25 d27_24 rfl rfl rfl |>.getf 28 (host := "") (Or.inl (hw _ (mm 70 rfl))) Via.refl hS1.2.1 d27_25 rfl
  obtain ⟨Xa, Fv, Fc, Fn, kb, Ab⟩ := hS1
  have nab : a ≠ b1 := ne_arr Xa (hw _ (mm 44 rfl)) Ab.choose_spec.1
  replace G := G.aloadN 29 d27_28 rfl rfl rfl |>.dup 30 d27_29 rfl rfl |>.getf 33 (host := "") (Or.inl (hw _ (mm 86 rfl))) Via.refl Fn d27_30 rfl |>.dupX1 34 d27_33 rfl rfl rfl |>.iconst 35 (1 : Int32) d27_34 rfl rfl |>.iadd 36 d27_35 rfl |>.top (y := (.int (Int32.ofNat (bs ++ [bytV x]).length))) (congrArg Value.int ((ofn_add _ 1).trans (by rw [List.length_append]; rfl)))
  obtain ⟨h2, G', Ww, Fw, Kw⟩ := G.putf 39 (host := "") (Or.inl (hw _ (mm 86 rfl))) Via.refl Fn Xa (Or.inl (hw _ (mm 87 rfl))) (hw _ (mm 44 rfl)) (ty := .int) (by decide) rfl rfl (Or.inl (mm 0 rfl)) (mm 1 rfl) d27_36 rfl
  replace G := G'; clear G'
  replace Fv := Fv.other Ww (Or.inr (slot_ne (Or.inl (hw _ (mm 71 rfl))) (Or.inl (hw _ (mm 87 rfl))) (by decide) (t := (.array .byte)) (t' := .int) (by decide) (by decide))); replace Fc := Fc.other Ww (Or.inr (slot_ne (Or.inl (hw _ (mm 69 rfl))) (Or.inl (hw _ (mm 87 rfl))) (by decide) (t := .byte) (t' := .int) (by decide) (by decide))); replace Xa := Xa.wr Ww; replace Ab := Ab.keep Kw (ninS nab.symm nin0)
  replace G := G.iloadN 40 d27_39 rfl rfl |>.i2b 41 d27_40 rfl
  have Ab' := Ab.pad (vs' := bs ++ [(.int 0)]) (pad_rep _ (.int 0) 1)
  obtain ⟨h3, G', As, Ks⟩ := G.bastore 42 bs.length Ab' ⟨ofn_nn (by omega), ofn_lt (by omega) (by omega)⟩ (ofn_nat (by omega)) (by simp) nwb (mm 0 rfl) d27_41 rfl
  replace G := G'; clear G'
  rw [set_app _ _ _ _ rfl, byt2] at As
  replace Xa := Xa.keep Ks; replace Fv := Fv.keep Ks (ninS nab nin0); replace Fc := Fc.keep Ks (ninS nab nin0); replace Fw := Fw.keep Ks (ninS nab nin0)
  replace G := G.goto 75 d27_42 (by decide) (by decide) |>.aloadN 76 d27_75 rfl rfl rfl
  exact G.retA hret rfl rfl hlk d27_76 [b1] (allS (mm 0 rfl) all0) ⟨_, rfl, rfl, b1, cp1, ⟨Xa, Fv, Fc, Fw, kb, As⟩, by rw [List.length_append]; exact hl1, hc1', hg1, hb1, rfl⟩ (nle rfl) (nle rfl)
theorem d26_0 : decode jdk_67_method_14_code 0 = .ok (.aload_n 0, 1) := by decide +kernel
theorem d26_1 : decode jdk_67_method_14_code 1 = .ok (.iload_n 1, 1) := by decide +kernel
theorem d26_2 : decode jdk_67_method_14_code 2 = .ok (.invokespecial 50, 3) := by decide +kernel
theorem d26_5 : decode jdk_67_method_14_code 5 = .ok (.pop, 1) := by decide +kernel
theorem d26_6 : decode jdk_67_method_14_code 6 = .ok (.aload_n 0, 1) := by decide +kernel
theorem d26_7 : decode jdk_67_method_14_code 7 = .ok (.areturn, 1) := by decide +kernel
theorem c_appC (l : Launch) (Z : State) (a0 : Array Value) (hw : ∀ d ∈ tables_1, d.before a0 Z = true) (hEW : EW Z a0 consts_1) (n0 : Nat) (c1 : Int32) (hc1 : ¬ c1 = 0) (S1 : Sta Z Z.heap "java/lang/String" "COMPACT_STRINGS" "Z" (.int c1)) (a b : Addr) (cap : Nat) (bs : List Value) (x : Int32) {h0 : Heap} (o1 : Old Z n0 h0) (ge_a : n0 ≤ a) (ge_b : n0 ≤ b) (hx : ¬ (255 : Int32) < x) (hle : bs.length + 1 ≤ 62) (hcap : cap ≤ 126) (hbs : bs.length ≤ cap) (hS : Sbd Z h0 a b cap bs) :
    Con Z a0 l (⟨"java/lang/StringBuilder", "append", "(C)Ljava/lang/StringBuilder;"⟩ : MethodName) jdk_67_method_14_code 2 (some (.object "java/lang/StringBuilder")) ({ frames := 5, cells := 1, slots := 126, locals := 83 } : Room) [] #[(.ref a), (.int x)] consts_1 h0 n0 [a, b] [a, b] (VV fun w h so => w = .ref a ∧ ∃ b' cap', Sbd Z h a b' cap' (bs ++ [bytV x]) ∧ (bs ++ [bytV x]).length ≤ cap' ∧ cap' ≤ 126 ∧ GC cap (bs.length + 1) cap' ∧ (b' = b ∨ h0.size ≤ b') ∧ so = [b']) := by
  refine Con.body (plainFor_of_name pn_java_lang_StringBuilder) hEW o1 (allS ge_a (allS ge_b all0)) #[.val (.ref a), .val (.int x)] (fun m => by first | (simp [entryFrame, mkF, argsToLocals, Value.category]; done) | rfl) ?_
  intro p e s m below meth c B hnm hret hlk G
  replace G := G.aloadN 1 d26_0 rfl rfl rfl |>.iloadN 2 d26_1 rfl rfl
  obtain ⟨vp, h1, sop, G', Kp, Qp⟩ := G.callSup 5 (hw _ (mm 146 rfl)) (sameOf (hw _ (mm 147 rfl)) (nfVia (y := (⟨"java/lang/AbstractStringBuilder", "ensureCapacityInternal", "(I)V"⟩ : MethodName)) rfl (hw _ (mm 91 rfl)) (hw _ (mm 89 rfl))) (by decide)) (hw _ (mm 147 rfl)) (hw _ (mm 84 rfl)) (by decide) (hw _ (mm 53 rfl)) (hw _ (mm 149 rfl)) (Ins.self hS.1) [(.int x)] [] rfl (c_asbAC l Z a0 hw hEW n0 c1 hc1 S1 a b cap bs x G.old ge_a ge_b hx hle hcap hbs hS) (lenOf pd__C_Ljava_lang_AbstractStringBuilder_ rfl) d26_2 rfl (nle rfl) (nle rfl) (nle rfl) (nle rfl) (allS (Or.inl (mm 0 rfl)) (allS (Or.inl (mm 1 rfl)) all0)) (allS (mm 0 rfl) (allS (mm 1 rfl) all0)) (allS (mm 0 rfl) (allS (mm 1 rfl) all0)) rfl
  replace G := G'; clear G'
  obtain ⟨wp, qp, rfl, b1, cp1, hS1, hl1, hc2, hg1, hb1, rfl⟩ := Qp
  replace G := G.val qp |>.pop 6 d26_5 rfl rfl |>.aloadN 7 d26_6 rfl rfl rfl
  exact G.retA hret rfl rfl hlk d26_7 [b1] (allS (mm 0 rfl) all0) ⟨_, rfl, rfl, b1, cp1, hS1, hl1, hc2, hg1, hb1, rfl⟩ (nle rfl) (nle rfl)
theorem d7_0 : decode method_2_code 0 = .ok (.aload_n 0, 1) := by decide +kernel
theorem d7_1 : decode method_2_code 1 = .ok (.iconst 0, 1) := by decide +kernel
theorem d7_2 : decode method_2_code 2 = .ok (.iload_n 1, 1) := by decide +kernel
theorem d7_3 : decode method_2_code 3 = .ok (.castore, 1) := by decide +kernel
theorem d7_4 : decode method_2_code 4 = .ok (.aload_n 0, 1) := by decide +kernel
theorem d7_5 : decode method_2_code 5 = .ok (.iconst 1, 1) := by decide +kernel
theorem d7_6 : decode method_2_code 6 = .ok (.iload_n 2, 1) := by decide +kernel
theorem d7_7 : decode method_2_code 7 = .ok (.castore, 1) := by decide +kernel
theorem d7_8 : decode method_2_code 8 = .ok (.aload_n 0, 1) := by decide +kernel
theorem d7_9 : decode method_2_code 9 = .ok (.iconst 2, 1) := by decide +kernel
theorem d7_10 : decode method_2_code 10 = .ok (.bipush 32, 2) := by decide +kernel
theorem d7_12 : decode method_2_code 12 = .ok (.castore, 1) := by decide +kernel
theorem d7_13 : decode method_2_code 13 = .ok (.aload_n 0, 1) := by decide +kernel
theorem d7_14 : decode method_2_code 14 = .ok (.iconst 3, 1) := by decide +kernel
theorem d7_15 : decode method_2_code 15 = .ok (.bipush 114, 2) := by decide +kernel
theorem d7_17 : decode method_2_code 17 = .ok (.castore, 1) := by decide +kernel
theorem d7_18 : decode method_2_code 18 = .ok (.aload_n 0, 1) := by decide +kernel
theorem d7_19 : decode method_2_code 19 = .ok (.iconst 4, 1) := by decide +kernel
theorem d7_20 : decode method_2_code 20 = .ok (.bipush 101, 2) := by decide +kernel
theorem d7_22 : decode method_2_code 22 = .ok (.castore, 1) := by decide +kernel
theorem d7_23 : decode method_2_code 23 = .ok (.aload_n 0, 1) := by decide +kernel
theorem d7_24 : decode method_2_code 24 = .ok (.iconst 5, 1) := by decide +kernel
theorem d7_25 : decode method_2_code 25 = .ok (.bipush 97, 2) := by decide +kernel
theorem d7_27 : decode method_2_code 27 = .ok (.castore, 1) := by decide +kernel
theorem d7_28 : decode method_2_code 28 = .ok (.aload_n 0, 1) := by decide +kernel
theorem d7_29 : decode method_2_code 29 = .ok (.bipush 6, 2) := by decide +kernel
theorem d7_31 : decode method_2_code 31 = .ok (.bipush 108, 2) := by decide +kernel
theorem d7_33 : decode method_2_code 33 = .ok (.castore, 1) := by decide +kernel
theorem d7_34 : decode method_2_code 34 = .ok (.aload_n 0, 1) := by decide +kernel
theorem d7_35 : decode method_2_code 35 = .ok (.bipush 7, 2) := by decide +kernel
theorem d7_37 : decode method_2_code 37 = .ok (.bipush 109, 2) := by decide +kernel
theorem d7_39 : decode method_2_code 39 = .ok (.castore, 1) := by decide +kernel
theorem d7_40 : decode method_2_code 40 = .ok (.aload_n 0, 1) := by decide +kernel
theorem d7_41 : decode method_2_code 41 = .ok (.bipush 8, 2) := by decide +kernel
theorem d7_43 : decode method_2_code 43 = .ok (.bipush 61, 2) := by decide +kernel
theorem d7_45 : decode method_2_code 45 = .ok (.castore, 1) := by decide +kernel
theorem d7_46 : decode method_2_code 46 = .ok (.aload_n 0, 1) := by decide +kernel
theorem d7_47 : decode method_2_code 47 = .ok (.bipush 9, 2) := by decide +kernel
theorem d7_49 : decode method_2_code 49 = .ok (.bipush 34, 2) := by decide +kernel
theorem d7_51 : decode method_2_code 51 = .ok (.castore, 1) := by decide +kernel
theorem d7_52 : decode method_2_code 52 = .ok (.aload_n 0, 1) := by decide +kernel
theorem d7_53 : decode method_2_code 53 = .ok (.bipush 10, 2) := by decide +kernel
theorem d7_55 : decode method_2_code 55 = .ok (.bipush 111, 2) := by decide +kernel
theorem d7_57 : decode method_2_code 57 = .ok (.castore, 1) := by decide +kernel
theorem d7_58 : decode method_2_code 58 = .ok (.aload_n 0, 1) := by decide +kernel
theorem d7_59 : decode method_2_code 59 = .ok (.bipush 11, 2) := by decide +kernel
theorem d7_61 : decode method_2_code 61 = .ok (.bipush 97, 2) := by decide +kernel
theorem d7_63 : decode method_2_code 63 = .ok (.castore, 1) := by decide +kernel
theorem d7_64 : decode method_2_code 64 = .ok (.aload_n 0, 1) := by decide +kernel
theorem d7_65 : decode method_2_code 65 = .ok (.bipush 12, 2) := by decide +kernel
theorem d7_67 : decode method_2_code 67 = .ok (.bipush 116, 2) := by decide +kernel
theorem d7_69 : decode method_2_code 69 = .ok (.castore, 1) := by decide +kernel
theorem d7_70 : decode method_2_code 70 = .ok (.aload_n 0, 1) := by decide +kernel
theorem d7_71 : decode method_2_code 71 = .ok (.bipush 13, 2) := by decide +kernel
theorem d7_73 : decode method_2_code 73 = .ok (.bipush 104, 2) := by decide +kernel
theorem d7_75 : decode method_2_code 75 = .ok (.castore, 1) := by decide +kernel
theorem d7_76 : decode method_2_code 76 = .ok (.aload_n 0, 1) := by decide +kernel
theorem d7_77 : decode method_2_code 77 = .ok (.bipush 14, 2) := by decide +kernel
theorem d7_79 : decode method_2_code 79 = .ok (.bipush 45, 2) := by decide +kernel
theorem d7_81 : decode method_2_code 81 = .ok (.castore, 1) := by decide +kernel
theorem d7_82 : decode method_2_code 82 = .ok (.aload_n 0, 1) := by decide +kernel
theorem d7_83 : decode method_2_code 83 = .ok (.bipush 15, 2) := by decide +kernel
theorem d7_85 : decode method_2_code 85 = .ok (.bipush 98, 2) := by decide +kernel
theorem d7_87 : decode method_2_code 87 = .ok (.castore, 1) := by decide +kernel
theorem d7_88 : decode method_2_code 88 = .ok (.aload_n 0, 1) := by decide +kernel
theorem d7_89 : decode method_2_code 89 = .ok (.bipush 16, 2) := by decide +kernel
theorem d7_91 : decode method_2_code 91 = .ok (.bipush 101, 2) := by decide +kernel
theorem d7_93 : decode method_2_code 93 = .ok (.castore, 1) := by decide +kernel
theorem d7_94 : decode method_2_code 94 = .ok (.aload_n 0, 1) := by decide +kernel
theorem d7_95 : decode method_2_code 95 = .ok (.bipush 17, 2) := by decide +kernel
theorem d7_97 : decode method_2_code 97 = .ok (.bipush 97, 2) := by decide +kernel
theorem d7_99 : decode method_2_code 99 = .ok (.castore, 1) := by decide +kernel
theorem d7_100 : decode method_2_code 100 = .ok (.aload_n 0, 1) := by decide +kernel
theorem d7_101 : decode method_2_code 101 = .ok (.bipush 18, 2) := by decide +kernel
theorem d7_103 : decode method_2_code 103 = .ok (.bipush 114, 2) := by decide +kernel
theorem d7_105 : decode method_2_code 105 = .ok (.castore, 1) := by decide +kernel
theorem d7_106 : decode method_2_code 106 = .ok (.aload_n 0, 1) := by decide +kernel
theorem d7_107 : decode method_2_code 107 = .ok (.bipush 19, 2) := by decide +kernel
theorem d7_109 : decode method_2_code 109 = .ok (.bipush 101, 2) := by decide +kernel
theorem d7_111 : decode method_2_code 111 = .ok (.castore, 1) := by decide +kernel
theorem d7_112 : decode method_2_code 112 = .ok (.aload_n 0, 1) := by decide +kernel
theorem d7_113 : decode method_2_code 113 = .ok (.bipush 20, 2) := by decide +kernel
theorem d7_115 : decode method_2_code 115 = .ok (.bipush 114, 2) := by decide +kernel
theorem d7_117 : decode method_2_code 117 = .ok (.castore, 1) := by decide +kernel
theorem d7_118 : decode method_2_code 118 = .ok (.aload_n 0, 1) := by decide +kernel
theorem d7_119 : decode method_2_code 119 = .ok (.bipush 21, 2) := by decide +kernel
theorem d7_121 : decode method_2_code 121 = .ok (.bipush 34, 2) := by decide +kernel
theorem d7_123 : decode method_2_code 123 = .ok (.castore, 1) := by decide +kernel
theorem d7_124 : decode method_2_code 124 = .ok (.return_, 1) := by decide +kernel
theorem c_head (l : Launch) (Z : State) (a0 : Array Value) (hw : ∀ d ∈ tables_1, d.before a0 Z = true) (hEW : EW Z a0 consts_1) (n0 : Nat) (c1 : Int32) (hc1 : ¬ c1 = 0) (S1 : Sta Z Z.heap "java/lang/String" "COMPACT_STRINGS" "Z" (.int c1)) (ea : Addr) (ke : ClassId) (n x0 x1 : Nat) {h0 : Heap} (o1 : Old Z n0 h0) (ge_ea : n0 ≤ ea) (hn1 : 22 ≤ n) (hn2 : n ≤ 30) (hx0 : x0 < 256) (hx1 : x1 < 256) (Ae : Arv Z h0 ea ke .char (Int32.ofNat n) [] (.int 0)) :
    Con Z a0 l (⟨"com/example/oath_bearer/oathbearer/web/AuthorizationHeaderChallengePinLaw", "head", "([CCC)V"⟩ : MethodName) method_2_code 3 (none) ({ frames := 0, cells := 0, slots := 0, locals := 0 } : Room) [] #[(.ref ea), (.int (Int32.ofNat x0)), (.int (Int32.ofNat x1))] consts_1 h0 n0 [ea] [ea] (V0 fun h so => Arv Z h ea ke .char (Int32.ofNat n) (([Int32.ofNat x0, Int32.ofNat x1] ++ LH).map Value.int) (.int 0) ∧ so = []) := by
  refine Con.body (plainFor_of_name pn_com_example_oath_bearer_oathbearer_web_AuthorizationHeaderChallengePinLaw) hEW o1 (allS ge_ea all0) #[.val (.ref ea), .val (.int (Int32.ofNat x0)), .val (.int (Int32.ofNat x1))] (fun m => by first | (simp [entryFrame, mkF, argsToLocals, Value.category]; done) | rfl) ?_
  intro p e s m below meth c B hnm hret hlk G
  have hn31 : n < 2147483648 := by omega
  have l0 : ([] : List Int32).length = 0 := rfl
  replace Ae : Arv Z h0 ea ke .char (Int32.ofNat n) (([] : List Int32).map Value.int) (.int 0) := Ae
  replace G := G.aloadN 1 d7_0 rfl rfl rfl |>.iconst 2 (0 : Int32) d7_1 rfl rfl |>.iloadN 3 d7_2 rfl rfl
  obtain ⟨g0, G', As, Ks⟩ := G.castore 4 0 (ca_pad Ae) ⟨by decide, ofn_lt (i := 0) (by omega) hn31⟩ rfl (pad_lt l0) (Or.inl (mm 0 rfl)) (mm 0 rfl) d7_3 rfl
  replace G := G'; clear G'
  obtain ⟨s1, q1, l1, Ae⟩ := ca_put l0 As (i2c_n hx0)
  replace G := G.aloadN 5 d7_4 rfl rfl rfl |>.iconst 6 (1 : Int32) d7_5 rfl rfl |>.iloadN 7 d7_6 rfl rfl
  obtain ⟨g1, G', As, Ks⟩ := G.castore 8 1 (ca_pad Ae) ⟨by decide, ofn_lt (i := 1) (by omega) hn31⟩ rfl (pad_lt l1) (Or.inl (mm 0 rfl)) (mm 0 rfl) d7_7 rfl
  replace G := G'; clear G'
  obtain ⟨s2, q2, l2, Ae⟩ := ca_put l1 As (i2c_n hx1)
  replace G := G.aloadN 9 d7_8 rfl rfl rfl |>.iconst 10 (2 : Int32) d7_9 rfl rfl |>.bipush 12 (32 : Int32) d7_10 (by decide) rfl
  obtain ⟨g2, G', As, Ks⟩ := G.castore 13 2 (ca_pad Ae) ⟨by decide, ofn_lt (i := 2) (by omega) hn31⟩ rfl (pad_lt l2) (Or.inl (mm 0 rfl)) (mm 0 rfl) d7_12 rfl
  replace G := G'; clear G'
  obtain ⟨s3, q3, l3, Ae⟩ := ca_put l2 As (by decide)
  replace G := G.aloadN 14 d7_13 rfl rfl rfl |>.iconst 15 (3 : Int32) d7_14 rfl rfl |>.bipush 17 (114 : Int32) d7_15 (by decide) rfl
  obtain ⟨g3, G', As, Ks⟩ := G.castore 18 3 (ca_pad Ae) ⟨by decide, ofn_lt (i := 3) (by omega) hn31⟩ rfl (pad_lt l3) (Or.inl (mm 0 rfl)) (mm 0 rfl) d7_17 rfl
  replace G := G'; clear G'
  obtain ⟨s4, q4, l4, Ae⟩ := ca_put l3 As (by decide)
  replace G := G.aloadN 19 d7_18 rfl rfl rfl |>.iconst 20 (4 : Int32) d7_19 rfl rfl |>.bipush 22 (101 : Int32) d7_20 (by decide) rfl
  obtain ⟨g4, G', As, Ks⟩ := G.castore 23 4 (ca_pad Ae) ⟨by decide, ofn_lt (i := 4) (by omega) hn31⟩ rfl (pad_lt l4) (Or.inl (mm 0 rfl)) (mm 0 rfl) d7_22 rfl
  replace G := G'; clear G'
  obtain ⟨s5, q5, l5, Ae⟩ := ca_put l4 As (by decide)
  replace G := G.aloadN 24 d7_23 rfl rfl rfl |>.iconst 25 (5 : Int32) d7_24 rfl rfl |>.bipush 27 (97 : Int32) d7_25 (by decide) rfl
  obtain ⟨g5, G', As, Ks⟩ := G.castore 28 5 (ca_pad Ae) ⟨by decide, ofn_lt (i := 5) (by omega) hn31⟩ rfl (pad_lt l5) (Or.inl (mm 0 rfl)) (mm 0 rfl) d7_27 rfl
  replace G := G'; clear G'
  obtain ⟨s6, q6, l6, Ae⟩ := ca_put l5 As (by decide)
  replace G := G.aloadN 29 d7_28 rfl rfl rfl |>.bipush 31 (6 : Int32) d7_29 (by decide) rfl |>.bipush 33 (108 : Int32) d7_31 (by decide) rfl
  obtain ⟨g6, G', As, Ks⟩ := G.castore 34 6 (ca_pad Ae) ⟨by decide, ofn_lt (i := 6) (by omega) hn31⟩ rfl (pad_lt l6) (Or.inl (mm 0 rfl)) (mm 0 rfl) d7_33 rfl
  replace G := G'; clear G'
  obtain ⟨s7, q7, l7, Ae⟩ := ca_put l6 As (by decide)
  replace G := G.aloadN 35 d7_34 rfl rfl rfl |>.bipush 37 (7 : Int32) d7_35 (by decide) rfl |>.bipush 39 (109 : Int32) d7_37 (by decide) rfl
  obtain ⟨g7, G', As, Ks⟩ := G.castore 40 7 (ca_pad Ae) ⟨by decide, ofn_lt (i := 7) (by omega) hn31⟩ rfl (pad_lt l7) (Or.inl (mm 0 rfl)) (mm 0 rfl) d7_39 rfl
  replace G := G'; clear G'
  obtain ⟨s8, q8, l8, Ae⟩ := ca_put l7 As (by decide)
  replace G := G.aloadN 41 d7_40 rfl rfl rfl |>.bipush 43 (8 : Int32) d7_41 (by decide) rfl |>.bipush 45 (61 : Int32) d7_43 (by decide) rfl
  obtain ⟨g8, G', As, Ks⟩ := G.castore 46 8 (ca_pad Ae) ⟨by decide, ofn_lt (i := 8) (by omega) hn31⟩ rfl (pad_lt l8) (Or.inl (mm 0 rfl)) (mm 0 rfl) d7_45 rfl
  replace G := G'; clear G'
  obtain ⟨s9, q9, l9, Ae⟩ := ca_put l8 As (by decide)
  replace G := G.aloadN 47 d7_46 rfl rfl rfl |>.bipush 49 (9 : Int32) d7_47 (by decide) rfl |>.bipush 51 (34 : Int32) d7_49 (by decide) rfl
  obtain ⟨g9, G', As, Ks⟩ := G.castore 52 9 (ca_pad Ae) ⟨by decide, ofn_lt (i := 9) (by omega) hn31⟩ rfl (pad_lt l9) (Or.inl (mm 0 rfl)) (mm 0 rfl) d7_51 rfl
  replace G := G'; clear G'
  obtain ⟨s10, q10, l10, Ae⟩ := ca_put l9 As (by decide)
  replace G := G.aloadN 53 d7_52 rfl rfl rfl |>.bipush 55 (10 : Int32) d7_53 (by decide) rfl |>.bipush 57 (111 : Int32) d7_55 (by decide) rfl
  obtain ⟨g10, G', As, Ks⟩ := G.castore 58 10 (ca_pad Ae) ⟨by decide, ofn_lt (i := 10) (by omega) hn31⟩ rfl (pad_lt l10) (Or.inl (mm 0 rfl)) (mm 0 rfl) d7_57 rfl
  replace G := G'; clear G'
  obtain ⟨s11, q11, l11, Ae⟩ := ca_put l10 As (by decide)
  replace G := G.aloadN 59 d7_58 rfl rfl rfl |>.bipush 61 (11 : Int32) d7_59 (by decide) rfl |>.bipush 63 (97 : Int32) d7_61 (by decide) rfl
  obtain ⟨g11, G', As, Ks⟩ := G.castore 64 11 (ca_pad Ae) ⟨by decide, ofn_lt (i := 11) (by omega) hn31⟩ rfl (pad_lt l11) (Or.inl (mm 0 rfl)) (mm 0 rfl) d7_63 rfl
  replace G := G'; clear G'
  obtain ⟨s12, q12, l12, Ae⟩ := ca_put l11 As (by decide)
  replace G := G.aloadN 65 d7_64 rfl rfl rfl |>.bipush 67 (12 : Int32) d7_65 (by decide) rfl |>.bipush 69 (116 : Int32) d7_67 (by decide) rfl
  obtain ⟨g12, G', As, Ks⟩ := G.castore 70 12 (ca_pad Ae) ⟨by decide, ofn_lt (i := 12) (by omega) hn31⟩ rfl (pad_lt l12) (Or.inl (mm 0 rfl)) (mm 0 rfl) d7_69 rfl
  replace G := G'; clear G'
  obtain ⟨s13, q13, l13, Ae⟩ := ca_put l12 As (by decide)
  replace G := G.aloadN 71 d7_70 rfl rfl rfl |>.bipush 73 (13 : Int32) d7_71 (by decide) rfl |>.bipush 75 (104 : Int32) d7_73 (by decide) rfl
  obtain ⟨g13, G', As, Ks⟩ := G.castore 76 13 (ca_pad Ae) ⟨by decide, ofn_lt (i := 13) (by omega) hn31⟩ rfl (pad_lt l13) (Or.inl (mm 0 rfl)) (mm 0 rfl) d7_75 rfl
  replace G := G'; clear G'
  obtain ⟨s14, q14, l14, Ae⟩ := ca_put l13 As (by decide)
  replace G := G.aloadN 77 d7_76 rfl rfl rfl |>.bipush 79 (14 : Int32) d7_77 (by decide) rfl |>.bipush 81 (45 : Int32) d7_79 (by decide) rfl
  obtain ⟨g14, G', As, Ks⟩ := G.castore 82 14 (ca_pad Ae) ⟨by decide, ofn_lt (i := 14) (by omega) hn31⟩ rfl (pad_lt l14) (Or.inl (mm 0 rfl)) (mm 0 rfl) d7_81 rfl
  replace G := G'; clear G'
  obtain ⟨s15, q15, l15, Ae⟩ := ca_put l14 As (by decide)
  replace G := G.aloadN 83 d7_82 rfl rfl rfl |>.bipush 85 (15 : Int32) d7_83 (by decide) rfl |>.bipush 87 (98 : Int32) d7_85 (by decide) rfl
  obtain ⟨g15, G', As, Ks⟩ := G.castore 88 15 (ca_pad Ae) ⟨by decide, ofn_lt (i := 15) (by omega) hn31⟩ rfl (pad_lt l15) (Or.inl (mm 0 rfl)) (mm 0 rfl) d7_87 rfl
  replace G := G'; clear G'
  obtain ⟨s16, q16, l16, Ae⟩ := ca_put l15 As (by decide)
  replace G := G.aloadN 89 d7_88 rfl rfl rfl |>.bipush 91 (16 : Int32) d7_89 (by decide) rfl |>.bipush 93 (101 : Int32) d7_91 (by decide) rfl
  obtain ⟨g16, G', As, Ks⟩ := G.castore 94 16 (ca_pad Ae) ⟨by decide, ofn_lt (i := 16) (by omega) hn31⟩ rfl (pad_lt l16) (Or.inl (mm 0 rfl)) (mm 0 rfl) d7_93 rfl
  replace G := G'; clear G'
  obtain ⟨s17, q17, l17, Ae⟩ := ca_put l16 As (by decide)
  replace G := G.aloadN 95 d7_94 rfl rfl rfl |>.bipush 97 (17 : Int32) d7_95 (by decide) rfl |>.bipush 99 (97 : Int32) d7_97 (by decide) rfl
  obtain ⟨g17, G', As, Ks⟩ := G.castore 100 17 (ca_pad Ae) ⟨by decide, ofn_lt (i := 17) (by omega) hn31⟩ rfl (pad_lt l17) (Or.inl (mm 0 rfl)) (mm 0 rfl) d7_99 rfl
  replace G := G'; clear G'
  obtain ⟨s18, q18, l18, Ae⟩ := ca_put l17 As (by decide)
  replace G := G.aloadN 101 d7_100 rfl rfl rfl |>.bipush 103 (18 : Int32) d7_101 (by decide) rfl |>.bipush 105 (114 : Int32) d7_103 (by decide) rfl
  obtain ⟨g18, G', As, Ks⟩ := G.castore 106 18 (ca_pad Ae) ⟨by decide, ofn_lt (i := 18) (by omega) hn31⟩ rfl (pad_lt l18) (Or.inl (mm 0 rfl)) (mm 0 rfl) d7_105 rfl
  replace G := G'; clear G'
  obtain ⟨s19, q19, l19, Ae⟩ := ca_put l18 As (by decide)
  replace G := G.aloadN 107 d7_106 rfl rfl rfl |>.bipush 109 (19 : Int32) d7_107 (by decide) rfl |>.bipush 111 (101 : Int32) d7_109 (by decide) rfl
  obtain ⟨g19, G', As, Ks⟩ := G.castore 112 19 (ca_pad Ae) ⟨by decide, ofn_lt (i := 19) (by omega) hn31⟩ rfl (pad_lt l19) (Or.inl (mm 0 rfl)) (mm 0 rfl) d7_111 rfl
  replace G := G'; clear G'
  obtain ⟨s20, q20, l20, Ae⟩ := ca_put l19 As (by decide)
  replace G := G.aloadN 113 d7_112 rfl rfl rfl |>.bipush 115 (20 : Int32) d7_113 (by decide) rfl |>.bipush 117 (114 : Int32) d7_115 (by decide) rfl
  obtain ⟨g20, G', As, Ks⟩ := G.castore 118 20 (ca_pad Ae) ⟨by decide, ofn_lt (i := 20) (by omega) hn31⟩ rfl (pad_lt l20) (Or.inl (mm 0 rfl)) (mm 0 rfl) d7_117 rfl
  replace G := G'; clear G'
  obtain ⟨s21, q21, l21, Ae⟩ := ca_put l20 As (by decide)
  replace G := G.aloadN 119 d7_118 rfl rfl rfl |>.bipush 121 (21 : Int32) d7_119 (by decide) rfl |>.bipush 123 (34 : Int32) d7_121 (by decide) rfl
  obtain ⟨g21, G', As, Ks⟩ := G.castore 124 21 (ca_pad Ae) ⟨by decide, ofn_lt (i := 21) (by omega) hn31⟩ rfl (pad_lt l21) (Or.inl (mm 0 rfl)) (mm 0 rfl) d7_123 rfl
  replace G := G'; clear G'
  obtain ⟨s22, q22, l22, Ae⟩ := ca_put l21 As (by decide)
  have hs : s22 = [Int32.ofNat x0, Int32.ofNat x1] ++ LH := by simp only [q22, q21, q20, q19, q18, q17, q16, q15, q14, q13, q12, q11, q10, q9, q8, q7, q6, q5, q4, q3, q2, q1, LH, List.append_assoc, List.cons_append, List.nil_append]
  rw [hs] at Ae
  exact G.retV hret hlk d7_124 [] all0 ⟨rfl, Ae, rfl⟩ (nle rfl) (nle rfl)
theorem d8_0 : decode method_3_code 0 = .ok (.aload_n 0, 1) := by decide +kernel
theorem d8_1 : decode method_3_code 1 = .ok (.iload_n 1, 1) := by decide +kernel
theorem d8_2 : decode method_3_code 2 = .ok (.bipush 44, 2) := by decide +kernel
theorem d8_4 : decode method_3_code 4 = .ok (.castore, 1) := by decide +kernel
theorem d8_5 : decode method_3_code 5 = .ok (.aload_n 0, 1) := by decide +kernel
theorem d8_6 : decode method_3_code 6 = .ok (.iload_n 1, 1) := by decide +kernel
theorem d8_7 : decode method_3_code 7 = .ok (.iconst 1, 1) := by decide +kernel
theorem d8_8 : decode method_3_code 8 = .ok (.iadd, 1) := by decide +kernel
theorem d8_9 : decode method_3_code 9 = .ok (.bipush 32, 2) := by decide +kernel
theorem d8_11 : decode method_3_code 11 = .ok (.castore, 1) := by decide +kernel
theorem d8_12 : decode method_3_code 12 = .ok (.aload_n 0, 1) := by decide +kernel
theorem d8_13 : decode method_3_code 13 = .ok (.iload_n 1, 1) := by decide +kernel
theorem d8_14 : decode method_3_code 14 = .ok (.iconst 2, 1) := by decide +kernel
theorem d8_15 : decode method_3_code 15 = .ok (.iadd, 1) := by decide +kernel
theorem d8_16 : decode method_3_code 16 = .ok (.iload_n 2, 1) := by decide +kernel
theorem d8_17 : decode method_3_code 17 = .ok (.castore, 1) := by decide +kernel
theorem d8_18 : decode method_3_code 18 = .ok (.aload_n 0, 1) := by decide +kernel
theorem d8_19 : decode method_3_code 19 = .ok (.iload_n 1, 1) := by decide +kernel
theorem d8_20 : decode method_3_code 20 = .ok (.iconst 3, 1) := by decide +kernel
theorem d8_21 : decode method_3_code 21 = .ok (.iadd, 1) := by decide +kernel
theorem d8_22 : decode method_3_code 22 = .ok (.iload_n 3, 1) := by decide +kernel
theorem d8_23 : decode method_3_code 23 = .ok (.castore, 1) := by decide +kernel
theorem d8_24 : decode method_3_code 24 = .ok (.return_, 1) := by decide +kernel
theorem c_param (l : Launch) (Z : State) (a0 : Array Value) (hw : ∀ d ∈ tables_1, d.before a0 Z = true) (hEW : EW Z a0 consts_1) (n0 : Nat) (c1 : Int32) (hc1 : ¬ c1 = 0) (S1 : Sta Z Z.heap "java/lang/String" "COMPACT_STRINGS" "Z" (.int c1)) (ea : Addr) (ke : ClassId) (n x0 x1 : Nat) (es : List Int32) {h0 : Heap} (o1 : Old Z n0 h0) (ge_ea : n0 ≤ ea) (hn1 : es.length + 4 ≤ n) (hn2 : n ≤ 30) (hx0 : x0 < 256) (hx1 : x1 < 256) (Ae : Arv Z h0 ea ke .char (Int32.ofNat n) (es.map Value.int) (.int 0)) :
    Con Z a0 l (⟨"com/example/oath_bearer/oathbearer/web/AuthorizationHeaderChallengePinLaw", "param", "([CICC)V"⟩ : MethodName) method_3_code 4 (none) ({ frames := 0, cells := 0, slots := 0, locals := 0 } : Room) [] #[(.ref ea), (.int (Int32.ofNat es.length)), (.int (Int32.ofNat x0)), (.int (Int32.ofNat x1))] consts_1 h0 n0 [ea] [ea] (V0 fun h so => Arv Z h ea ke .char (Int32.ofNat n) ((es ++ ([44, 32] ++ [Int32.ofNat x0, Int32.ofNat x1])).map Value.int) (.int 0) ∧ so = []) := by
  refine Con.body (plainFor_of_name pn_com_example_oath_bearer_oathbearer_web_AuthorizationHeaderChallengePinLaw) hEW o1 (allS ge_ea all0) #[.val (.ref ea), .val (.int (Int32.ofNat es.length)), .val (.int (Int32.ofNat x0)), .val (.int (Int32.ofNat x1))] (fun m => by first | (simp [entryFrame, mkF, argsToLocals, Value.category]; done) | rfl) ?_
  intro p e s m below meth c B hnm hret hlk G
  have hn31 : n < 2147483648 := by omega
  have l0 : es.length = es.length := rfl
  replace G := G.aloadN 1 d8_0 rfl rfl rfl |>.iloadN 2 d8_1 rfl rfl |>.bipush 4 (44 : Int32) d8_2 (by decide) rfl
  obtain ⟨g0, G', As, Ks⟩ := G.castore 5 es.length (ca_pad Ae) ⟨ofn_nn (by omega), ofn_lt (by omega) hn31⟩ (ofn_nat (by omega)) (pad_lt l0) (Or.inl (mm 0 rfl)) (mm 0 rfl) d8_4 rfl
  replace G := G'; clear G'
  obtain ⟨s1, q1, l1, Ae⟩ := ca_put l0 As (by decide)
  replace G := G.aloadN 6 d8_5 rfl rfl rfl |>.iloadN 7 d8_6 rfl rfl |>.iconst 8 (1 : Int32) d8_7 rfl rfl |>.iadd 9 d8_8 rfl |>.top (y := (.int (Int32.ofNat (es.length + 1)))) (congrArg Value.int (ofn_add _ 1)) |>.bipush 11 (32 : Int32) d8_9 (by decide) rfl
  obtain ⟨g1, G', As, Ks⟩ := G.castore 12 (es.length + 1) (ca_pad Ae) ⟨ofn_nn (by omega), ofn_lt (by omega) hn31⟩ (ofn_nat (by omega)) (pad_lt l1) (Or.inl (mm 0 rfl)) (mm 0 rfl) d8_11 rfl
  replace G := G'; clear G'
  obtain ⟨s2, q2, l2, Ae⟩ := ca_put l1 As (by decide)
  replace G := G.aloadN 13 d8_12 rfl rfl rfl |>.iloadN 14 d8_13 rfl rfl |>.iconst 15 (2 : Int32) d8_14 rfl rfl |>.iadd 16 d8_15 rfl |>.top (y := (.int (Int32.ofNat (es.length + 2)))) (congrArg Value.int (ofn_add _ 2)) |>.iloadN 17 d8_16 rfl rfl
  obtain ⟨g2, G', As, Ks⟩ := G.castore 18 (es.length + 2) (ca_pad Ae) ⟨ofn_nn (by omega), ofn_lt (by omega) hn31⟩ (ofn_nat (by omega)) (pad_lt l2) (Or.inl (mm 0 rfl)) (mm 0 rfl) d8_17 rfl
  replace G := G'; clear G'
  obtain ⟨s3, q3, l3, Ae⟩ := ca_put l2 As (i2c_n hx0)
  replace G := G.aloadN 19 d8_18 rfl rfl rfl |>.iloadN 20 d8_19 rfl rfl |>.iconst 21 (3 : Int32) d8_20 rfl rfl |>.iadd 22 d8_21 rfl |>.top (y := (.int (Int32.ofNat (es.length + 3)))) (congrArg Value.int (ofn_add _ 3)) |>.iloadN 23 d8_22 rfl rfl
  obtain ⟨g3, G', As, Ks⟩ := G.castore 24 (es.length + 3) (ca_pad Ae) ⟨ofn_nn (by omega), ofn_lt (by omega) hn31⟩ (ofn_nat (by omega)) (pad_lt l3) (Or.inl (mm 0 rfl)) (mm 0 rfl) d8_23 rfl
  replace G := G'; clear G'
  obtain ⟨s4, q4, l4, Ae⟩ := ca_put l3 As (i2c_n hx1)
  have hs : s4 = es ++ ([44, 32] ++ [Int32.ofNat x0, Int32.ofNat x1]) := by simp only [q4, q3, q2, q1, List.append_assoc, List.cons_append, List.nil_append]
  rw [hs] at Ae
  exact G.retV hret hlk d8_24 [] all0 ⟨rfl, Ae, rfl⟩ (nle rfl) (nle rfl)
theorem d9_0 : decode prog_20_method_2_code 0 = .ok (.new 7, 3) := by decide +kernel
theorem d9_3 : decode prog_20_method_2_code 3 = .ok (.dup, 1) := by decide +kernel
theorem d9_4 : decode prog_20_method_2_code 4 = .ok (.aload_n 0, 1) := by decide +kernel
theorem d9_5 : decode prog_20_method_2_code 5 = .ok (.invokespecial 9, 3) := by decide +kernel
theorem d9_8 : decode prog_20_method_2_code 8 = .ok (.ldc 12, 2) := by decide +kernel
theorem d9_10 : decode prog_20_method_2_code 10 = .ok (.invokevirtual 14, 3) := by decide +kernel
theorem d9_13 : decode prog_20_method_2_code 13 = .ok (.ldc 20, 2) := by decide +kernel
theorem d9_15 : decode prog_20_method_2_code 15 = .ok (.invokevirtual 14, 3) := by decide +kernel
theorem d9_18 : decode prog_20_method_2_code 18 = .ok (.bipush 34, 2) := by decide +kernel
theorem d9_20 : decode prog_20_method_2_code 20 = .ok (.invokevirtual 22, 3) := by decide +kernel
theorem d9_23 : decode prog_20_method_2_code 23 = .ok (.astore_n 2, 1) := by decide +kernel
theorem d9_24 : decode prog_20_method_2_code 24 = .ok (.aload_n 1, 1) := by decide +kernel
theorem d9_25 : decode prog_20_method_2_code 25 = .ok (.astore_n 3, 1) := by decide +kernel
theorem d9_26 : decode prog_20_method_2_code 26 = .ok (.aload_n 3, 1) := by decide +kernel
theorem d9_27 : decode prog_20_method_2_code 27 = .ok (.arraylength, 1) := by decide +kernel
theorem d9_28 : decode prog_20_method_2_code 28 = .ok (.istore 4, 2) := by decide +kernel
theorem d9_30 : decode prog_20_method_2_code 30 = .ok (.iconst 0, 1) := by decide +kernel
theorem d9_31 : decode prog_20_method_2_code 31 = .ok (.istore 5, 2) := by decide +kernel
theorem d9_33 : decode prog_20_method_2_code 33 = .ok (.iload 5, 2) := by decide +kernel
theorem d9_35 : decode prog_20_method_2_code 35 = .ok (.iload 4, 2) := by decide +kernel
theorem d9_37 : decode prog_20_method_2_code 37 = .ok (.if_icmp .ge 27, 3) := by decide +kernel
theorem d9_40 : decode prog_20_method_2_code 40 = .ok (.aload_n 3, 1) := by decide +kernel
theorem d9_41 : decode prog_20_method_2_code 41 = .ok (.iload 5, 2) := by decide +kernel
theorem d9_43 : decode prog_20_method_2_code 43 = .ok (.aaload, 1) := by decide +kernel
theorem d9_44 : decode prog_20_method_2_code 44 = .ok (.astore 6, 2) := by decide +kernel
theorem d9_46 : decode prog_20_method_2_code 46 = .ok (.aload_n 2, 1) := by decide +kernel
theorem d9_47 : decode prog_20_method_2_code 47 = .ok (.ldc 25, 2) := by decide +kernel
theorem d9_49 : decode prog_20_method_2_code 49 = .ok (.invokevirtual 14, 3) := by decide +kernel
theorem d9_52 : decode prog_20_method_2_code 52 = .ok (.aload 6, 2) := by decide +kernel
theorem d9_54 : decode prog_20_method_2_code 54 = .ok (.invokevirtual 14, 3) := by decide +kernel
theorem d9_57 : decode prog_20_method_2_code 57 = .ok (.pop, 1) := by decide +kernel
theorem d9_58 : decode prog_20_method_2_code 58 = .ok (.iinc 5 1, 3) := by decide +kernel
theorem d9_61 : decode prog_20_method_2_code 61 = .ok (.goto (-28), 3) := by decide +kernel
theorem d9_64 : decode prog_20_method_2_code 64 = .ok (.aload_n 2, 1) := by decide +kernel
theorem d9_65 : decode prog_20_method_2_code 65 = .ok (.invokevirtual 27, 3) := by decide +kernel
theorem d9_68 : decode prog_20_method_2_code 68 = .ok (.areturn, 1) := by decide +kernel
theorem c_ch0 (l : Launch) (Z : State) (a0 : Array Value) (hw : ∀ d ∈ tables_1, d.before a0 Z = true) (hEW : EW Z a0 consts_1) (n0 : Nat) (c1 : Int32) (hc1 : ¬ c1 = 0) (S1 : Sta Z Z.heap "java/lang/String" "COMPACT_STRINGS" "Z" (.int c1)) (x y pa : Addr) (kp : ClassId) (ts : List Value)  {h0 : Heap} (o1 : Old Z n0 h0) (ht : ts.length = 2) (hT : Str Z h0 x y ts) (Ap : Arv Z h0 pa kp (.object "java/lang/String") (0 : Int32) [] .null) :
    Con Z a0 l (⟨"com/example/oath_bearer/oathbearer/web/AuthorizationHeader", "challenge", "(Ljava/lang/String;[Ljava/lang/String;)Ljava/lang/String;"⟩ : MethodName) prog_20_method_2_code 7 (some (.object "java/lang/String")) ({ frames := 9, cells := 12, slots := 720, locals := 140 } : Room) [] #[(.ref x), (.ref pa)] consts_1 h0 n0 [] [] (VV fun w h so => ∃ s2 n, w = .ref s2 ∧ Str Z h s2 n (((ts ++ [Value.int (32 : Int32), Value.int (114 : Int32), Value.int (101 : Int32), Value.int (97 : Int32), Value.int (108 : Int32), Value.int (109 : Int32), Value.int (61 : Int32), Value.int (34 : Int32)]) ++ [Value.int (111 : Int32), Value.int (97 : Int32), Value.int (116 : Int32), Value.int (104 : Int32), Value.int (45 : Int32), Value.int (98 : Int32), Value.int (101 : Int32), Value.int (97 : Int32), Value.int (114 : Int32), Value.int (101 : Int32), Value.int (114 : Int32)]) ++ [bytV 34]) ∧ h0.size ≤ s2 ∧ h0.size ≤ n ∧ so = [n, s2]) := by
  refine Con.body (plainFor_of_name pn_com_example_oath_bearer_oathbearer_web_AuthorizationHeader) hEW o1 all0 #[.val (.ref x), .val (.ref pa), .unset, .unset, .unset, .unset, .unset] (fun m => by first | (simp [entryFrame, mkF, argsToLocals, Value.category]; done) | rfl) ?_
  intro p e s m below meth c B hnm hret hlk G
  obtain ⟨a, h1, G', ga, sa, Ea, Xa, Da, Ua⟩ := G.new 3 (hw _ (mm 43 rfl)) (hw _ (mm 44 rfl)) (hw _ (mm 45 rfl)) d9_0 rfl (nle rfl) (nle rfl)
  replace G := G'; clear G'
  have Fva := Da (Or.inl (hw _ (mm 71 rfl))) (ty := .array .byte) (by decide); have Fca := Da (Or.inl (hw _ (mm 69 rfl))) (ty := .byte) (by decide); have Fna := Da (Or.inl (hw _ (mm 87 rfl))) (ty := .int) (by decide)
  have n0x : x ≠ a := ne_new ga hT.lt; have n0y : y ≠ a := ne_new ga hT.ltb; have n0pa : pa ≠ a := ne_new ga Ap.lt
  replace hT := hT.ext Ea; replace Ap := Ap.ext Ea
  replace G := G.dup 4 d9_3 rfl rfl |>.aloadN 5 d9_4 rfl rfl rfl
  have sz := G.sz
  obtain ⟨vi, h2, soi, G', Ki, Qi⟩ := G.callI 8 rfl rfl (hw _ (mm 46 rfl)) (hw _ (mm 47 rfl)) (hw _ (mm 45 rfl)) (hw _ (mm 48 rfl)) (by decide) [(.ref x)] [(.ref a)] rfl (c_sbIS l Z a0 hw hEW n0 c1 hc1 S1 a x y ts G.old (G.nw (Or.inr sa)) (by omega) Xa Fva Fca Fna hT n0x n0y) (lenOf pd__Ljava_lang_String__V rfl) d9_5 rfl (nle rfl) (nle rfl) (nle rfl) (nle rfl) (allS (Or.inr sa) all0) (allS (mm 0 rfl) all0) (allS (mm 0 rfl) all0) rfl
  replace G := G'; clear G'
  obtain ⟨qi, b0, hS0, sb0', rfl⟩ := Qi
  replace G := G.nov qi
  have sb0 := Nat.le_trans sz sb0'
  have n1x : x ≠ b0 := (ne_ge hT.lt sb0').symm; have n1y : y ≠ b0 := (ne_ge hT.ltb sb0').symm; have n1pa : pa ≠ b0 := (ne_ge Ap.lt sb0').symm
  replace hT := hT.keep Ki (ninS n0x nin0) (ninS n0y nin0); replace Ap := Ap.keep Ki (ninS n0pa nin0)
  have hk0 : ts.length + 16 ≤ 126 := by omega
  have hl0 : ts.length ≤ ts.length + 16 := by omega
  obtain ⟨lz12, mz12, h3, kkz12, G', Ez12, Xz12, Fcz12, Fvz12, Az12, nez12⟩ := G.ldcS 10 (hw _ (mm 113 rfl)) (wS_of hw) (mm 0 rfl) (vs := [(.int (32 : Int32)), (.int (114 : Int32)), (.int (101 : Int32)), (.int (97 : Int32)), (.int (108 : Int32)), (.int (109 : Int32)), (.int (61 : Int32)), (.int (34 : Int32))]) (z := (8 : Int32)) (by decide) (by decide) rfl d9_8 32 (by decide) (by decide) (nle rfl) (nle rfl) rfl
  replace G := G'; clear G'
  replace hT := hT.ext Ez12; replace Ap := Ap.ext Ez12
  replace hS0 := hS0.ext Ez12
  have hLz12 : Str Z h3 lz12 mz12 [Value.int (32 : Int32), Value.int (114 : Int32), Value.int (101 : Int32), Value.int (97 : Int32), Value.int (108 : Int32), Value.int (109 : Int32), Value.int (61 : Int32), Value.int (34 : Int32)] := ⟨Xz12, Fcz12, Fvz12, kkz12, Az12⟩
  have sz0 := G.sz
  obtain ⟨vp0, h4, sop0, G', Kp0, Qp0⟩ := G.callV 13 (hw _ (mm 116 rfl)) (hw _ (mm 79 rfl)) (nfSel (hw _ (mm 81 rfl))) (hw _ (mm 81 rfl)) (hw _ (mm 80 rfl)) (hw _ (mm 45 rfl)) (hw _ (mm 82 rfl)) hS0.1 (by decide) [(.ref lz12)] [] rfl (c_appG l Z a0 hw hEW n0 c1 hc1 S1 a b0 lz12 mz12 (ts.length + 16) ts [Value.int (32 : Int32), Value.int (114 : Int32), Value.int (101 : Int32), Value.int (97 : Int32), Value.int (108 : Int32), Value.int (109 : Int32), Value.int (61 : Int32), Value.int (34 : Int32)] G.old (G.nw (Or.inr sa)) (G.nw (Or.inr sb0)) (by simp only [List.length_append, List.length_cons, List.length_nil]; omega) hk0 hl0 hS0 hLz12 (nez12 a (mm 1 rfl)).1.symm (nez12 a (mm 1 rfl)).2.symm) (lenOf pd__Ljava_lang_String__Ljava_lang_StringBuilder_ rfl) d9_10 rfl (nle rfl) (nle rfl) (nle rfl) (nle rfl) (allS (Or.inr sa) (allS (Or.inr sb0) all0)) (allS (mm 1 rfl) (allS (mm 0 rfl) all0)) (allS (mm 1 rfl) (allS (mm 0 rfl) all0)) rfl
  replace G := G'; clear G'
  obtain ⟨wp0, qp0, rfl, b1, cp1, hS1, hl1, hk1, hg1, hb1, rfl⟩ := Qp0
  replace G := G.val qp0
  have sb1 : h0.size ≤ b1 := hb1.elim (fun e => e ▸ sb0) (fun r => Nat.le_trans sz0 r)
  have n2x : x ≠ b1 := ne_or n1x hT.lt hb1; have n2y : y ≠ b1 := ne_or n1y hT.ltb hb1; have n2pa : pa ≠ b1 := ne_or n1pa Ap.lt hb1
  replace hT := hT.keep Kp0 (ninS n0x (ninS n1x nin0)) (ninS n0y (ninS n1y nin0)); replace Ap := Ap.keep Kp0 (ninS n0pa (ninS n1pa nin0))
  have ecp1 : cp1 = 18 := by simp only [GC, List.length_append, List.length_cons, List.length_nil] at hg1; omega
  obtain ⟨lz20, mz20, h5, kkz20, G', Ez20, Xz20, Fcz20, Fvz20, Az20, nez20⟩ := G.ldcS 15 (hw _ (mm 117 rfl)) (wS_of hw) (mm 1 rfl) (vs := [(.int (111 : Int32)), (.int (97 : Int32)), (.int (116 : Int32)), (.int (104 : Int32)), (.int (45 : Int32)), (.int (98 : Int32)), (.int (101 : Int32)), (.int (97 : Int32)), (.int (114 : Int32)), (.int (101 : Int32)), (.int (114 : Int32))]) (z := (11 : Int32)) (by decide) (by decide) rfl d9_13 44 (by decide) (by decide) (nle rfl) (nle rfl) rfl
  replace G := G'; clear G'
  replace hT := hT.ext Ez20; replace Ap := Ap.ext Ez20
  replace hS1 := hS1.ext Ez20
  have hLz20 : Str Z h5 lz20 mz20 [Value.int (111 : Int32), Value.int (97 : Int32), Value.int (116 : Int32), Value.int (104 : Int32), Value.int (45 : Int32), Value.int (98 : Int32), Value.int (101 : Int32), Value.int (97 : Int32), Value.int (114 : Int32), Value.int (101 : Int32), Value.int (114 : Int32)] := ⟨Xz20, Fcz20, Fvz20, kkz20, Az20⟩
  have sz1 := G.sz
  obtain ⟨vp1, h6, sop1, G', Kp1, Qp1⟩ := G.callV 18 (hw _ (mm 116 rfl)) (hw _ (mm 79 rfl)) (nfSel (hw _ (mm 81 rfl))) (hw _ (mm 81 rfl)) (hw _ (mm 80 rfl)) (hw _ (mm 45 rfl)) (hw _ (mm 82 rfl)) hS1.1 (by decide) [(.ref lz20)] [] rfl (c_appG l Z a0 hw hEW n0 c1 hc1 S1 a b1 lz20 mz20 cp1 (ts ++ [Value.int (32 : Int32), Value.int (114 : Int32), Value.int (101 : Int32), Value.int (97 : Int32), Value.int (108 : Int32), Value.int (109 : Int32), Value.int (61 : Int32), Value.int (34 : Int32)]) [Value.int (111 : Int32), Value.int (97 : Int32), Value.int (116 : Int32), Value.int (104 : Int32), Value.int (45 : Int32), Value.int (98 : Int32), Value.int (101 : Int32), Value.int (97 : Int32), Value.int (114 : Int32), Value.int (101 : Int32), Value.int (114 : Int32)] G.old (G.nw (Or.inr sa)) (G.nw (Or.inr sb1)) (by simp only [List.length_append, List.length_cons, List.length_nil]; omega) hk1 hl1 hS1 hLz20 (nez20 a (mm 2 rfl)).1.symm (nez20 a (mm 2 rfl)).2.symm) (lenOf pd__Ljava_lang_String__Ljava_lang_StringBuilder_ rfl) d9_15 rfl (nle rfl) (nle rfl) (nle rfl) (nle rfl) (allS (Or.inr sa) (allS (Or.inr sb1) all0)) (allS (mm 2 rfl) (allS (mm 0 rfl) all0)) (allS (mm 2 rfl) (allS (mm 0 rfl) all0)) rfl
  replace G := G'; clear G'
  obtain ⟨wp1, qp1, rfl, b2, cp2, hS2, hl2, hk2, hg2, hb2, rfl⟩ := Qp1
  replace G := G.val qp1
  have sb2 : h0.size ≤ b2 := hb2.elim (fun e => e ▸ sb1) (fun r => Nat.le_trans sz1 r)
  have n3x : x ≠ b2 := ne_or n2x hT.lt hb2; have n3y : y ≠ b2 := ne_or n2y hT.ltb hb2; have n3pa : pa ≠ b2 := ne_or n2pa Ap.lt hb2
  replace hT := hT.keep Kp1 (ninS n0x (ninS n2x nin0)) (ninS n0y (ninS n2y nin0)); replace Ap := Ap.keep Kp1 (ninS n0pa (ninS n2pa nin0))
  have ecp2 : cp2 = 38 := by simp only [GC, List.length_append, List.length_cons, List.length_nil] at hg2; omega
  replace G := G.bipush 20 (34 : Int32) d9_18 (by decide) rfl
  have sz2 := G.sz
  obtain ⟨vp2, h7, sop2, G', Kp2, Qp2⟩ := G.callV 23 (hw _ (mm 141 rfl)) (hw _ (mm 142 rfl)) (nfSel (hw _ (mm 144 rfl))) (hw _ (mm 144 rfl)) (hw _ (mm 143 rfl)) (hw _ (mm 45 rfl)) (hw _ (mm 145 rfl)) hS2.1 (by decide) [(.int (34 : Int32))] [] rfl (c_appC l Z a0 hw hEW n0 c1 hc1 S1 a b2 cp2 ((ts ++ [Value.int (32 : Int32), Value.int (114 : Int32), Value.int (101 : Int32), Value.int (97 : Int32), Value.int (108 : Int32), Value.int (109 : Int32), Value.int (61 : Int32), Value.int (34 : Int32)]) ++ [Value.int (111 : Int32), Value.int (97 : Int32), Value.int (116 : Int32), Value.int (104 : Int32), Value.int (45 : Int32), Value.int (98 : Int32), Value.int (101 : Int32), Value.int (97 : Int32), Value.int (114 : Int32), Value.int (101 : Int32), Value.int (114 : Int32)]) 34 G.old (G.nw (Or.inr sa)) (G.nw (Or.inr sb2)) (by decide) (by simp only [List.length_append, List.length_cons, List.length_nil]; omega) hk2 hl2 hS2) (lenOf pd__C_Ljava_lang_StringBuilder_ rfl) d9_20 rfl (nle rfl) (nle rfl) (nle rfl) (nle rfl) (allS (Or.inr sa) (allS (Or.inr sb2) all0)) (allS (mm 3 rfl) (allS (mm 0 rfl) all0)) (allS (mm 3 rfl) (allS (mm 0 rfl) all0)) rfl
  replace G := G'; clear G'
  obtain ⟨wp2, qp2, rfl, b3, cp3, hS3, hl3, hk3, hg3, hb3, rfl⟩ := Qp2
  replace G := G.val qp2
  have sb3 : h0.size ≤ b3 := hb3.elim (fun e => e ▸ sb2) (fun r => Nat.le_trans sz2 r)
  have n4x : x ≠ b3 := ne_or n3x hT.lt hb3; have n4y : y ≠ b3 := ne_or n3y hT.ltb hb3; have n4pa : pa ≠ b3 := ne_or n3pa Ap.lt hb3
  replace hT := hT.keep Kp2 (ninS n0x (ninS n3x nin0)) (ninS n0y (ninS n3y nin0)); replace Ap := Ap.keep Kp2 (ninS n0pa (ninS n3pa nin0))
  have ecp3 : cp3 = 38 := by simp only [GC, List.length_append, List.length_cons, List.length_nil] at hg3; omega
  replace G := G.astoreN 24 #[.val (.ref x), .val (.ref pa), .val (.ref a), .unset, .unset, .unset, .unset] d9_23 rfl rfl rfl |>.aloadN 25 d9_24 rfl rfl rfl |>.astoreN 26 #[.val (.ref x), .val (.ref pa), .val (.ref a), .val (.ref pa), .unset, .unset, .unset] d9_25 rfl rfl rfl |>.aloadN 27 d9_26 rfl rfl rfl |>.alen 28 Ap d9_27 rfl |>.istore 30 #[.val (.ref x), .val (.ref pa), .val (.ref a), .val (.ref pa), .val (.int (0 : Int32)), .unset, .unset] d9_28 rfl rfl |>.iconst 31 (0 : Int32) d9_30 rfl rfl |>.istore 33 #[.val (.ref x), .val (.ref pa), .val (.ref a), .val (.ref pa), .val (.int (0 : Int32)), .val (.int (0 : Int32)), .unset] d9_31 rfl rfl
  replace G := G.iload 35 d9_33 rfl rfl |>.iload 37 d9_35 rfl rfl |>.icmpT 64 d9_37 (XT.ii_ge_t (by decide)) (by decide) (by decide) |>.aloadN 65 d9_64 rfl rfl rfl
  have szt := G.sz
  have hlen : (((ts ++ [Value.int (32 : Int32), Value.int (114 : Int32), Value.int (101 : Int32), Value.int (97 : Int32), Value.int (108 : Int32), Value.int (109 : Int32), Value.int (61 : Int32), Value.int (34 : Int32)]) ++ [Value.int (111 : Int32), Value.int (97 : Int32), Value.int (116 : Int32), Value.int (104 : Int32), Value.int (45 : Int32), Value.int (98 : Int32), Value.int (101 : Int32), Value.int (97 : Int32), Value.int (114 : Int32), Value.int (101 : Int32), Value.int (114 : Int32)]) ++ [bytV 34]).length ≤ 30 := by simp only [List.length_append, List.length_cons, List.length_nil]; omega
  obtain ⟨vt, h8, sot, G', Kt, Qt⟩ := G.callV 68 (hw _ (mm 160 rfl)) (hw _ (mm 161 rfl)) (nfSel (hw _ (mm 163 rfl))) (hw _ (mm 163 rfl)) (hw _ (mm 162 rfl)) (hw _ (mm 45 rfl)) (hw _ (mm 164 rfl)) hS3.1 (by decide) [] [] rfl (c_toStr l Z a0 hw hEW n0 c1 hc1 S1 a b3 cp3 (((ts ++ [Value.int (32 : Int32), Value.int (114 : Int32), Value.int (101 : Int32), Value.int (97 : Int32), Value.int (108 : Int32), Value.int (109 : Int32), Value.int (61 : Int32), Value.int (34 : Int32)]) ++ [Value.int (111 : Int32), Value.int (97 : Int32), Value.int (116 : Int32), Value.int (104 : Int32), Value.int (45 : Int32), Value.int (98 : Int32), Value.int (101 : Int32), Value.int (97 : Int32), Value.int (114 : Int32), Value.int (101 : Int32), Value.int (114 : Int32)]) ++ [bytV 34]) G.old (by omega) (by omega) (by omega) hS3) (lenOf pd___Ljava_lang_String_ rfl) d9_65 rfl (nle rfl) (nle rfl) (nle rfl) (nle rfl) all0 all0 all0 rfl
  replace G := G'; clear G'
  obtain ⟨wt, qt, s2, n2, rfl, hR, g1, g2, rfl⟩ := Qt
  replace G := G.val qt
  exact G.retA hret rfl rfl hlk d9_68 [n2, s2] (allS (mm 0 rfl) (allS (mm 1 rfl) all0)) ⟨_, rfl, s2, n2, rfl, hR, Nat.le_trans szt g1, Nat.le_trans szt g2, rfl⟩ (nle rfl) (nle rfl)
theorem c_ch1 (l : Launch) (Z : State) (a0 : Array Value) (hw : ∀ d ∈ tables_1, d.before a0 Z = true) (hEW : EW Z a0 consts_1) (n0 : Nat) (c1 : Int32) (hc1 : ¬ c1 = 0) (S1 : Sta Z Z.heap "java/lang/String" "COMPACT_STRINGS" "Z" (.int c1)) (x y pa : Addr) (kp : ClassId) (u0 v0 : Addr) (ts : List Value) (ps0 : List Value) {h0 : Heap} (o1 : Old Z n0 h0) (ht : ts.length = 2) (hp0 : ps0.length = 2) (hT : Str Z h0 x y ts) (hP0 : Str Z h0 u0 v0 ps0) (Ap : Arv Z h0 pa kp (.object "java/lang/String") (1 : Int32) [.ref u0] .null) :
    Con Z a0 l (⟨"com/example/oath_bearer/oathbearer/web/AuthorizationHeader", "challenge", "(Ljava/lang/String;[Ljava/lang/String;)Ljava/lang/String;"⟩ : MethodName) prog_20_method_2_code 7 (some (.object "java/lang/String")) ({ frames := 9, cells := 16, slots := 984, locals := 140 } : Room) [] #[(.ref x), (.ref pa)] consts_1 h0 n0 [] [] (VV fun w h so => ∃ s2 n, w = .ref s2 ∧ Str Z h s2 n (((((ts ++ [Value.int (32 : Int32), Value.int (114 : Int32), Value.int (101 : Int32), Value.int (97 : Int32), Value.int (108 : Int32), Value.int (109 : Int32), Value.int (61 : Int32), Value.int (34 : Int32)]) ++ [Value.int (111 : Int32), Value.int (97 : Int32), Value.int (116 : Int32), Value.int (104 : Int32), Value.int (45 : Int32), Value.int (98 : Int32), Value.int (101 : Int32), Value.int (97 : Int32), Value.int (114 : Int32), Value.int (101 : Int32), Value.int (114 : Int32)]) ++ [bytV 34]) ++ [Value.int (44 : Int32), Value.int (32 : Int32)]) ++ ps0) ∧ h0.size ≤ s2 ∧ h0.size ≤ n ∧ so = [n, s2]) := by
  refine Con.body (plainFor_of_name pn_com_example_oath_bearer_oathbearer_web_AuthorizationHeader) hEW o1 all0 #[.val (.ref x), .val (.ref pa), .unset, .unset, .unset, .unset, .unset] (fun m => by first | (simp [entryFrame, mkF, argsToLocals, Value.category]; done) | rfl) ?_
  intro p e s m below meth c B hnm hret hlk G
  obtain ⟨a, h1, G', ga, sa, Ea, Xa, Da, Ua⟩ := G.new 3 (hw _ (mm 43 rfl)) (hw _ (mm 44 rfl)) (hw _ (mm 45 rfl)) d9_0 rfl (nle rfl) (nle rfl)
  replace G := G'; clear G'
  have Fva := Da (Or.inl (hw _ (mm 71 rfl))) (ty := .array .byte) (by decide); have Fca := Da (Or.inl (hw _ (mm 69 rfl))) (ty := .byte) (by decide); have Fna := Da (Or.inl (hw _ (mm 87 rfl))) (ty := .int) (by decide)
  have n0x : x ≠ a := ne_new ga hT.lt; have n0y : y ≠ a := ne_new ga hT.ltb; have n0u0 : u0 ≠ a := ne_new ga hP0.lt; have n0v0 : v0 ≠ a := ne_new ga hP0.ltb; have n0pa : pa ≠ a := ne_new ga Ap.lt
  replace hT := hT.ext Ea; replace hP0 := hP0.ext Ea; replace Ap := Ap.ext Ea
  replace G := G.dup 4 d9_3 rfl rfl |>.aloadN 5 d9_4 rfl rfl rfl
  have sz := G.sz
  obtain ⟨vi, h2, soi, G', Ki, Qi⟩ := G.callI 8 rfl rfl (hw _ (mm 46 rfl)) (hw _ (mm 47 rfl)) (hw _ (mm 45 rfl)) (hw _ (mm 48 rfl)) (by decide) [(.ref x)] [(.ref a)] rfl (c_sbIS l Z a0 hw hEW n0 c1 hc1 S1 a x y ts G.old (G.nw (Or.inr sa)) (by omega) Xa Fva Fca Fna hT n0x n0y) (lenOf pd__Ljava_lang_String__V rfl) d9_5 rfl (nle rfl) (nle rfl) (nle rfl) (nle rfl) (allS (Or.inr sa) all0) (allS (mm 0 rfl) all0) (allS (mm 0 rfl) all0) rfl
  replace G := G'; clear G'
  obtain ⟨qi, b0, hS0, sb0', rfl⟩ := Qi
  replace G := G.nov qi
  have sb0 := Nat.le_trans sz sb0'
  have n1x : x ≠ b0 := (ne_ge hT.lt sb0').symm; have n1y : y ≠ b0 := (ne_ge hT.ltb sb0').symm; have n1u0 : u0 ≠ b0 := (ne_ge hP0.lt sb0').symm; have n1v0 : v0 ≠ b0 := (ne_ge hP0.ltb sb0').symm; have n1pa : pa ≠ b0 := (ne_ge Ap.lt sb0').symm
  replace hT := hT.keep Ki (ninS n0x nin0) (ninS n0y nin0); replace hP0 := hP0.keep Ki (ninS n0u0 nin0) (ninS n0v0 nin0); replace Ap := Ap.keep Ki (ninS n0pa nin0)
  have hk0 : ts.length + 16 ≤ 126 := by omega
  have hl0 : ts.length ≤ ts.length + 16 := by omega
  obtain ⟨lz12, mz12, h3, kkz12, G', Ez12, Xz12, Fcz12, Fvz12, Az12, nez12⟩ := G.ldcS 10 (hw _ (mm 113 rfl)) (wS_of hw) (mm 0 rfl) (vs := [(.int (32 : Int32)), (.int (114 : Int32)), (.int (101 : Int32)), (.int (97 : Int32)), (.int (108 : Int32)), (.int (109 : Int32)), (.int (61 : Int32)), (.int (34 : Int32))]) (z := (8 : Int32)) (by decide) (by decide) rfl d9_8 32 (by decide) (by decide) (nle rfl) (nle rfl) rfl
  replace G := G'; clear G'
  replace hT := hT.ext Ez12; replace hP0 := hP0.ext Ez12; replace Ap := Ap.ext Ez12
  replace hS0 := hS0.ext Ez12
  have hLz12 : Str Z h3 lz12 mz12 [Value.int (32 : Int32), Value.int (114 : Int32), Value.int (101 : Int32), Value.int (97 : Int32), Value.int (108 : Int32), Value.int (109 : Int32), Value.int (61 : Int32), Value.int (34 : Int32)] := ⟨Xz12, Fcz12, Fvz12, kkz12, Az12⟩
  have sz0 := G.sz
  obtain ⟨vp0, h4, sop0, G', Kp0, Qp0⟩ := G.callV 13 (hw _ (mm 116 rfl)) (hw _ (mm 79 rfl)) (nfSel (hw _ (mm 81 rfl))) (hw _ (mm 81 rfl)) (hw _ (mm 80 rfl)) (hw _ (mm 45 rfl)) (hw _ (mm 82 rfl)) hS0.1 (by decide) [(.ref lz12)] [] rfl (c_appG l Z a0 hw hEW n0 c1 hc1 S1 a b0 lz12 mz12 (ts.length + 16) ts [Value.int (32 : Int32), Value.int (114 : Int32), Value.int (101 : Int32), Value.int (97 : Int32), Value.int (108 : Int32), Value.int (109 : Int32), Value.int (61 : Int32), Value.int (34 : Int32)] G.old (G.nw (Or.inr sa)) (G.nw (Or.inr sb0)) (by simp only [List.length_append, List.length_cons, List.length_nil]; omega) hk0 hl0 hS0 hLz12 (nez12 a (mm 1 rfl)).1.symm (nez12 a (mm 1 rfl)).2.symm) (lenOf pd__Ljava_lang_String__Ljava_lang_StringBuilder_ rfl) d9_10 rfl (nle rfl) (nle rfl) (nle rfl) (nle rfl) (allS (Or.inr sa) (allS (Or.inr sb0) all0)) (allS (mm 1 rfl) (allS (mm 0 rfl) all0)) (allS (mm 1 rfl) (allS (mm 0 rfl) all0)) rfl
  replace G := G'; clear G'
  obtain ⟨wp0, qp0, rfl, b1, cp1, hS1, hl1, hk1, hg1, hb1, rfl⟩ := Qp0
  replace G := G.val qp0
  have sb1 : h0.size ≤ b1 := hb1.elim (fun e => e ▸ sb0) (fun r => Nat.le_trans sz0 r)
  have n2x : x ≠ b1 := ne_or n1x hT.lt hb1; have n2y : y ≠ b1 := ne_or n1y hT.ltb hb1; have n2u0 : u0 ≠ b1 := ne_or n1u0 hP0.lt hb1; have n2v0 : v0 ≠ b1 := ne_or n1v0 hP0.ltb hb1; have n2pa : pa ≠ b1 := ne_or n1pa Ap.lt hb1
  replace hT := hT.keep Kp0 (ninS n0x (ninS n1x nin0)) (ninS n0y (ninS n1y nin0)); replace hP0 := hP0.keep Kp0 (ninS n0u0 (ninS n1u0 nin0)) (ninS n0v0 (ninS n1v0 nin0)); replace Ap := Ap.keep Kp0 (ninS n0pa (ninS n1pa nin0))
  have ecp1 : cp1 = 18 := by simp only [GC, List.length_append, List.length_cons, List.length_nil] at hg1; omega
  obtain ⟨lz20, mz20, h5, kkz20, G', Ez20, Xz20, Fcz20, Fvz20, Az20, nez20⟩ := G.ldcS 15 (hw _ (mm 117 rfl)) (wS_of hw) (mm 1 rfl) (vs := [(.int (111 : Int32)), (.int (97 : Int32)), (.int (116 : Int32)), (.int (104 : Int32)), (.int (45 : Int32)), (.int (98 : Int32)), (.int (101 : Int32)), (.int (97 : Int32)), (.int (114 : Int32)), (.int (101 : Int32)), (.int (114 : Int32))]) (z := (11 : Int32)) (by decide) (by decide) rfl d9_13 44 (by decide) (by decide) (nle rfl) (nle rfl) rfl
  replace G := G'; clear G'
  replace hT := hT.ext Ez20; replace hP0 := hP0.ext Ez20; replace Ap := Ap.ext Ez20
  replace hS1 := hS1.ext Ez20
  have hLz20 : Str Z h5 lz20 mz20 [Value.int (111 : Int32), Value.int (97 : Int32), Value.int (116 : Int32), Value.int (104 : Int32), Value.int (45 : Int32), Value.int (98 : Int32), Value.int (101 : Int32), Value.int (97 : Int32), Value.int (114 : Int32), Value.int (101 : Int32), Value.int (114 : Int32)] := ⟨Xz20, Fcz20, Fvz20, kkz20, Az20⟩
  have sz1 := G.sz
  obtain ⟨vp1, h6, sop1, G', Kp1, Qp1⟩ := G.callV 18 (hw _ (mm 116 rfl)) (hw _ (mm 79 rfl)) (nfSel (hw _ (mm 81 rfl))) (hw _ (mm 81 rfl)) (hw _ (mm 80 rfl)) (hw _ (mm 45 rfl)) (hw _ (mm 82 rfl)) hS1.1 (by decide) [(.ref lz20)] [] rfl (c_appG l Z a0 hw hEW n0 c1 hc1 S1 a b1 lz20 mz20 cp1 (ts ++ [Value.int (32 : Int32), Value.int (114 : Int32), Value.int (101 : Int32), Value.int (97 : Int32), Value.int (108 : Int32), Value.int (109 : Int32), Value.int (61 : Int32), Value.int (34 : Int32)]) [Value.int (111 : Int32), Value.int (97 : Int32), Value.int (116 : Int32), Value.int (104 : Int32), Value.int (45 : Int32), Value.int (98 : Int32), Value.int (101 : Int32), Value.int (97 : Int32), Value.int (114 : Int32), Value.int (101 : Int32), Value.int (114 : Int32)] G.old (G.nw (Or.inr sa)) (G.nw (Or.inr sb1)) (by simp only [List.length_append, List.length_cons, List.length_nil]; omega) hk1 hl1 hS1 hLz20 (nez20 a (mm 2 rfl)).1.symm (nez20 a (mm 2 rfl)).2.symm) (lenOf pd__Ljava_lang_String__Ljava_lang_StringBuilder_ rfl) d9_15 rfl (nle rfl) (nle rfl) (nle rfl) (nle rfl) (allS (Or.inr sa) (allS (Or.inr sb1) all0)) (allS (mm 2 rfl) (allS (mm 0 rfl) all0)) (allS (mm 2 rfl) (allS (mm 0 rfl) all0)) rfl
  replace G := G'; clear G'
  obtain ⟨wp1, qp1, rfl, b2, cp2, hS2, hl2, hk2, hg2, hb2, rfl⟩ := Qp1
  replace G := G.val qp1
  have sb2 : h0.size ≤ b2 := hb2.elim (fun e => e ▸ sb1) (fun r => Nat.le_trans sz1 r)
  have n3x : x ≠ b2 := ne_or n2x hT.lt hb2; have n3y : y ≠ b2 := ne_or n2y hT.ltb hb2; have n3u0 : u0 ≠ b2 := ne_or n2u0 hP0.lt hb2; have n3v0 : v0 ≠ b2 := ne_or n2v0 hP0.ltb hb2; have n3pa : pa ≠ b2 := ne_or n2pa Ap.lt hb2
  replace hT := hT.keep Kp1 (ninS n0x (ninS n2x nin0)) (ninS n0y (ninS n2y nin0)); replace hP0 := hP0.keep Kp1 (ninS n0u0 (ninS n2u0 nin0)) (ninS n0v0 (ninS n2v0 nin0)); replace Ap := Ap.keep Kp1 (ninS n0pa (ninS n2pa nin0))
  have ecp2 : cp2 = 38 := by simp only [GC, List.length_append, List.length_cons, List.length_nil] at hg2; omega
  replace G := G.bipush 20 (34 : Int32) d9_18 (by decide) rfl
  have sz2 := G.sz
  obtain ⟨vp2, h7, sop2, G', Kp2, Qp2⟩ := G.callV 23 (hw _ (mm 141 rfl)) (hw _ (mm 142 rfl)) (nfSel (hw _ (mm 144 rfl))) (hw _ (mm 144 rfl)) (hw _ (mm 143 rfl)) (hw _ (mm 45 rfl)) (hw _ (mm 145 rfl)) hS2.1 (by decide) [(.int (34 : Int32))] [] rfl (c_appC l Z a0 hw hEW n0 c1 hc1 S1 a b2 cp2 ((ts ++ [Value.int (32 : Int32), Value.int (114 : Int32), Value.int (101 : Int32), Value.int (97 : Int32), Value.int (108 : Int32), Value.int (109 : Int32), Value.int (61 : Int32), Value.int (34 : Int32)]) ++ [Value.int (111 : Int32), Value.int (97 : Int32), Value.int (116 : Int32), Value.int (104 : Int32), Value.int (45 : Int32), Value.int (98 : Int32), Value.int (101 : Int32), Value.int (97 : Int32), Value.int (114 : Int32), Value.int (101 : Int32), Value.int (114 : Int32)]) 34 G.old (G.nw (Or.inr sa)) (G.nw (Or.inr sb2)) (by decide) (by simp only [List.length_append, List.length_cons, List.length_nil]; omega) hk2 hl2 hS2) (lenOf pd__C_Ljava_lang_StringBuilder_ rfl) d9_20 rfl (nle rfl) (nle rfl) (nle rfl) (nle rfl) (allS (Or.inr sa) (allS (Or.inr sb2) all0)) (allS (mm 3 rfl) (allS (mm 0 rfl) all0)) (allS (mm 3 rfl) (allS (mm 0 rfl) all0)) rfl
  replace G := G'; clear G'
  obtain ⟨wp2, qp2, rfl, b3, cp3, hS3, hl3, hk3, hg3, hb3, rfl⟩ := Qp2
  replace G := G.val qp2
  have sb3 : h0.size ≤ b3 := hb3.elim (fun e => e ▸ sb2) (fun r => Nat.le_trans sz2 r)
  have n4x : x ≠ b3 := ne_or n3x hT.lt hb3; have n4y : y ≠ b3 := ne_or n3y hT.ltb hb3; have n4u0 : u0 ≠ b3 := ne_or n3u0 hP0.lt hb3; have n4v0 : v0 ≠ b3 := ne_or n3v0 hP0.ltb hb3; have n4pa : pa ≠ b3 := ne_or n3pa Ap.lt hb3
  replace hT := hT.keep Kp2 (ninS n0x (ninS n3x nin0)) (ninS n0y (ninS n3y nin0)); replace hP0 := hP0.keep Kp2 (ninS n0u0 (ninS n3u0 nin0)) (ninS n0v0 (ninS n3v0 nin0)); replace Ap := Ap.keep Kp2 (ninS n0pa (ninS n3pa nin0))
  have ecp3 : cp3 = 38 := by simp only [GC, List.length_append, List.length_cons, List.length_nil] at hg3; omega
  replace G := G.astoreN 24 #[.val (.ref x), .val (.ref pa), .val (.ref a), .unset, .unset, .unset, .unset] d9_23 rfl rfl rfl |>.aloadN 25 d9_24 rfl rfl rfl |>.astoreN 26 #[.val (.ref x), .val (.ref pa), .val (.ref a), .val (.ref pa), .unset, .unset, .unset] d9_25 rfl rfl rfl |>.aloadN 27 d9_26 rfl rfl rfl |>.alen 28 Ap d9_27 rfl |>.istore 30 #[.val (.ref x), .val (.ref pa), .val (.ref a), .val (.ref pa), .val (.int (1 : Int32)), .unset, .unset] d9_28 rfl rfl |>.iconst 31 (0 : Int32) d9_30 rfl rfl |>.istore 33 #[.val (.ref x), .val (.ref pa), .val (.ref a), .val (.ref pa), .val (.int (1 : Int32)), .val (.int (0 : Int32)), .unset] d9_31 rfl rfl
  replace G := G.iload 35 d9_33 rfl rfl |>.iload 37 d9_35 rfl rfl |>.icmpF 40 d9_37 (XT.ii_ge_f (by decide)) rfl |>.aloadN 41 d9_40 rfl rfl rfl |>.iload 43 d9_41 rfl rfl |>.aaload 44 (v := (.ref u0)) Ap ⟨by decide, by decide⟩ rfl d9_43 rfl |>.astore 46 #[.val (.ref x), .val (.ref pa), .val (.ref a), .val (.ref pa), .val (.int (1 : Int32)), .val (.int (0 : Int32)), .val (.ref u0)] d9_44 rfl rfl rfl |>.aloadN 47 d9_46 rfl rfl rfl
  obtain ⟨lz25_0, mz25_0, h8, kkz25_0, G', Ez25_0, Xz25_0, Fcz25_0, Fvz25_0, Az25_0, nez25_0⟩ := G.ldcS 49 (hw _ (mm 159 rfl)) (wS_of hw) (mm 2 rfl) (vs := [(.int (44 : Int32)), (.int (32 : Int32))]) (z := (2 : Int32)) (by decide) (by decide) rfl d9_47 8 (by decide) (by decide) (nle rfl) (nle rfl) rfl
  replace G := G'; clear G'
  replace hT := hT.ext Ez25_0; replace hP0 := hP0.ext Ez25_0; replace Ap := Ap.ext Ez25_0
  replace hS3 := hS3.ext Ez25_0
  have hLz25_0 : Str Z h8 lz25_0 mz25_0 [Value.int (44 : Int32), Value.int (32 : Int32)] := ⟨Xz25_0, Fcz25_0, Fvz25_0, kkz25_0, Az25_0⟩
  have sz3 := G.sz
  obtain ⟨vp3, h9, sop3, G', Kp3, Qp3⟩ := G.callV 52 (hw _ (mm 116 rfl)) (hw _ (mm 79 rfl)) (nfSel (hw _ (mm 81 rfl))) (hw _ (mm 81 rfl)) (hw _ (mm 80 rfl)) (hw _ (mm 45 rfl)) (hw _ (mm 82 rfl)) hS3.1 (by decide) [(.ref lz25_0)] [] rfl (c_appG l Z a0 hw hEW n0 c1 hc1 S1 a b3 lz25_0 mz25_0 cp3 (((ts ++ [Value.int (32 : Int32), Value.int (114 : Int32), Value.int (101 : Int32), Value.int (97 : Int32), Value.int (108 : Int32), Value.int (109 : Int32), Value.int (61 : Int32), Value.int (34 : Int32)]) ++ [Value.int (111 : Int32), Value.int (97 : Int32), Value.int (116 : Int32), Value.int (104 : Int32), Value.int (45 : Int32), Value.int (98 : Int32), Value.int (101 : Int32), Value.int (97 : Int32), Value.int (114 : Int32), Value.int (101 : Int32), Value.int (114 : Int32)]) ++ [bytV 34]) [Value.int (44 : Int32), Value.int (32 : Int32)] G.old (G.nw (Or.inr sa)) (G.nw (Or.inr sb3)) (by simp only [List.length_append, List.length_cons, List.length_nil]; omega) hk3 hl3 hS3 hLz25_0 (nez25_0 a (mm 4 rfl)).1.symm (nez25_0 a (mm 4 rfl)).2.symm) (lenOf pd__Ljava_lang_String__Ljava_lang_StringBuilder_ rfl) d9_49 rfl (nle rfl) (nle rfl) (nle rfl) (nle rfl) (allS (Or.inr sa) (allS (Or.inr sb3) all0)) (allS (mm 4 rfl) (allS (mm 0 rfl) all0)) (allS (mm 4 rfl) (allS (mm 0 rfl) all0)) rfl
  replace G := G'; clear G'
  obtain ⟨wp3, qp3, rfl, b4, cp4, hS4, hl4, hk4, hg4, hb4, rfl⟩ := Qp3
  replace G := G.val qp3
  have sb4 : h0.size ≤ b4 := hb4.elim (fun e => e ▸ sb3) (fun r => Nat.le_trans sz3 r)
  have n5x : x ≠ b4 := ne_or n4x hT.lt hb4; have n5y : y ≠ b4 := ne_or n4y hT.ltb hb4; have n5u0 : u0 ≠ b4 := ne_or n4u0 hP0.lt hb4; have n5v0 : v0 ≠ b4 := ne_or n4v0 hP0.ltb hb4; have n5pa : pa ≠ b4 := ne_or n4pa Ap.lt hb4
  replace hT := hT.keep Kp3 (ninS n0x (ninS n4x nin0)) (ninS n0y (ninS n4y nin0)); replace hP0 := hP0.keep Kp3 (ninS n0u0 (ninS n4u0 nin0)) (ninS n0v0 (ninS n4v0 nin0)); replace Ap := Ap.keep Kp3 (ninS n0pa (ninS n4pa nin0))
  have ecp4 : cp4 = 38 := by simp only [GC, List.length_append, List.length_cons, List.length_nil] at hg4; omega
  replace G := G.aload 54 d9_52 rfl rfl rfl
  have sz4 := G.sz
  obtain ⟨vp4, h10, sop4, G', Kp4, Qp4⟩ := G.callV 57 (hw _ (mm 116 rfl)) (hw _ (mm 79 rfl)) (nfSel (hw _ (mm 81 rfl))) (hw _ (mm 81 rfl)) (hw _ (mm 80 rfl)) (hw _ (mm 45 rfl)) (hw _ (mm 82 rfl)) hS4.1 (by decide) [(.ref u0)] [] rfl (c_appG l Z a0 hw hEW n0 c1 hc1 S1 a b4 u0 v0 cp4 ((((ts ++ [Value.int (32 : Int32), Value.int (114 : Int32), Value.int (101 : Int32), Value.int (97 : Int32), Value.int (108 : Int32), Value.int (109 : Int32), Value.int (61 : Int32), Value.int (34 : Int32)]) ++ [Value.int (111 : Int32), Value.int (97 : Int32), Value.int (116 : Int32), Value.int (104 : Int32), Value.int (45 : Int32), Value.int (98 : Int32), Value.int (101 : Int32), Value.int (97 : Int32), Value.int (114 : Int32), Value.int (101 : Int32), Value.int (114 : Int32)]) ++ [bytV 34]) ++ [Value.int (44 : Int32), Value.int (32 : Int32)]) ps0 G.old (G.nw (Or.inr sa)) (G.nw (Or.inr sb4)) (by simp only [List.length_append, List.length_cons, List.length_nil]; omega) hk4 hl4 hS4 hP0 n0u0 n0v0) (lenOf pd__Ljava_lang_String__Ljava_lang_StringBuilder_ rfl) d9_54 rfl (nle rfl) (nle rfl) (nle rfl) (nle rfl) (allS (Or.inr sa) (allS (Or.inr sb4) all0)) (allS (mm 5 rfl) (allS (mm 0 rfl) all0)) (allS (mm 5 rfl) (allS (mm 0 rfl) all0)) rfl
  replace G := G'; clear G'
  obtain ⟨wp4, qp4, rfl, b5, cp5, hS5, hl5, hk5, hg5, hb5, rfl⟩ := Qp4
  replace G := G.val qp4
  have sb5 : h0.size ≤ b5 := hb5.elim (fun e => e ▸ sb4) (fun r => Nat.le_trans sz4 r)
  have n6x : x ≠ b5 := ne_or n5x hT.lt hb5; have n6y : y ≠ b5 := ne_or n5y hT.ltb hb5; have n6u0 : u0 ≠ b5 := ne_or n5u0 hP0.lt hb5; have n6v0 : v0 ≠ b5 := ne_or n5v0 hP0.ltb hb5; have n6pa : pa ≠ b5 := ne_or n5pa Ap.lt hb5
  replace hT := hT.keep Kp4 (ninS n0x (ninS n5x nin0)) (ninS n0y (ninS n5y nin0)); replace hP0 := hP0.keep Kp4 (ninS n0u0 (ninS n5u0 nin0)) (ninS n0v0 (ninS n5v0 nin0)); replace Ap := Ap.keep Kp4 (ninS n0pa (ninS n5pa nin0))
  have ecp5 : cp5 = 38 := by simp only [GC, List.length_append, List.length_cons, List.length_nil] at hg5; omega
  replace G := G.pop 58 d9_57 rfl rfl |>.iincV 61 #[.val (.ref x), .val (.ref pa), .val (.ref a), .val (.ref pa), .val (.int (1 : Int32)), .val (.int (1 : Int32)), .val (.ref u0)] (1 : Int32) d9_58 rfl (by decide) rfl rfl |>.goto 33 d9_61 (by decide) (by decide) |>.iload 35 d9_33 rfl rfl |>.iload 37 d9_35 rfl rfl |>.icmpT 64 d9_37 (XT.ii_ge_t (by decide)) (by decide) (by decide) |>.aloadN 65 d9_64 rfl rfl rfl
  have szt := G.sz
  have hlen : (((((ts ++ [Value.int (32 : Int32), Value.int (114 : Int32), Value.int (101 : Int32), Value.int (97 : Int32), Value.int (108 : Int32), Value.int (109 : Int32), Value.int (61 : Int32), Value.int (34 : Int32)]) ++ [Value.int (111 : Int32), Value.int (97 : Int32), Value.int (116 : Int32), Value.int (104 : Int32), Value.int (45 : Int32), Value.int (98 : Int32), Value.int (101 : Int32), Value.int (97 : Int32), Value.int (114 : Int32), Value.int (101 : Int32), Value.int (114 : Int32)]) ++ [bytV 34]) ++ [Value.int (44 : Int32), Value.int (32 : Int32)]) ++ ps0).length ≤ 30 := by simp only [List.length_append, List.length_cons, List.length_nil]; omega
  obtain ⟨vt, h11, sot, G', Kt, Qt⟩ := G.callV 68 (hw _ (mm 160 rfl)) (hw _ (mm 161 rfl)) (nfSel (hw _ (mm 163 rfl))) (hw _ (mm 163 rfl)) (hw _ (mm 162 rfl)) (hw _ (mm 45 rfl)) (hw _ (mm 164 rfl)) hS5.1 (by decide) [] [] rfl (c_toStr l Z a0 hw hEW n0 c1 hc1 S1 a b5 cp5 (((((ts ++ [Value.int (32 : Int32), Value.int (114 : Int32), Value.int (101 : Int32), Value.int (97 : Int32), Value.int (108 : Int32), Value.int (109 : Int32), Value.int (61 : Int32), Value.int (34 : Int32)]) ++ [Value.int (111 : Int32), Value.int (97 : Int32), Value.int (116 : Int32), Value.int (104 : Int32), Value.int (45 : Int32), Value.int (98 : Int32), Value.int (101 : Int32), Value.int (97 : Int32), Value.int (114 : Int32), Value.int (101 : Int32), Value.int (114 : Int32)]) ++ [bytV 34]) ++ [Value.int (44 : Int32), Value.int (32 : Int32)]) ++ ps0) G.old (by omega) (by omega) (by omega) hS5) (lenOf pd___Ljava_lang_String_ rfl) d9_65 rfl (nle rfl) (nle rfl) (nle rfl) (nle rfl) all0 all0 all0 rfl
  replace G := G'; clear G'
  obtain ⟨wt, qt, s2, n2, rfl, hR, g1, g2, rfl⟩ := Qt
  replace G := G.val qt
  exact G.retA hret rfl rfl hlk d9_68 [n2, s2] (allS (mm 0 rfl) (allS (mm 1 rfl) all0)) ⟨_, rfl, s2, n2, rfl, hR, Nat.le_trans szt g1, Nat.le_trans szt g2, rfl⟩ (nle rfl) (nle rfl)
theorem c_ch2 (l : Launch) (Z : State) (a0 : Array Value) (hw : ∀ d ∈ tables_1, d.before a0 Z = true) (hEW : EW Z a0 consts_1) (n0 : Nat) (c1 : Int32) (hc1 : ¬ c1 = 0) (S1 : Sta Z Z.heap "java/lang/String" "COMPACT_STRINGS" "Z" (.int c1)) (x y pa : Addr) (kp : ClassId) (u0 v0 u1 v1 : Addr) (ts : List Value) (ps0 ps1 : List Value) {h0 : Heap} (o1 : Old Z n0 h0) (ht : ts.length = 2) (hp0 : ps0.length = 2) (hp1 : ps1.length = 2) (hT : Str Z h0 x y ts) (hP0 : Str Z h0 u0 v0 ps0) (hP1 : Str Z h0 u1 v1 ps1) (Ap : Arv Z h0 pa kp (.object "java/lang/String") (2 : Int32) [.ref u0, .ref u1] .null) :
    Con Z a0 l (⟨"com/example/oath_bearer/oathbearer/web/AuthorizationHeader", "challenge", "(Ljava/lang/String;[Ljava/lang/String;)Ljava/lang/String;"⟩ : MethodName) prog_20_method_2_code 7 (some (.object "java/lang/String")) ({ frames := 9, cells := 20, slots := 1248, locals := 140 } : Room) [] #[(.ref x), (.ref pa)] consts_1 h0 n0 [] [] (VV fun w h so => ∃ s2 n, w = .ref s2 ∧ Str Z h s2 n (((((((ts ++ [Value.int (32 : Int32), Value.int (114 : Int32), Value.int (101 : Int32), Value.int (97 : Int32), Value.int (108 : Int32), Value.int (109 : Int32), Value.int (61 : Int32), Value.int (34 : Int32)]) ++ [Value.int (111 : Int32), Value.int (97 : Int32), Value.int (116 : Int32), Value.int (104 : Int32), Value.int (45 : Int32), Value.int (98 : Int32), Value.int (101 : Int32), Value.int (97 : Int32), Value.int (114 : Int32), Value.int (101 : Int32), Value.int (114 : Int32)]) ++ [bytV 34]) ++ [Value.int (44 : Int32), Value.int (32 : Int32)]) ++ ps0) ++ [Value.int (44 : Int32), Value.int (32 : Int32)]) ++ ps1) ∧ h0.size ≤ s2 ∧ h0.size ≤ n ∧ so = [n, s2]) := by
  refine Con.body (plainFor_of_name pn_com_example_oath_bearer_oathbearer_web_AuthorizationHeader) hEW o1 all0 #[.val (.ref x), .val (.ref pa), .unset, .unset, .unset, .unset, .unset] (fun m => by first | (simp [entryFrame, mkF, argsToLocals, Value.category]; done) | rfl) ?_
  intro p e s m below meth c B hnm hret hlk G
  obtain ⟨a, h1, G', ga, sa, Ea, Xa, Da, Ua⟩ := G.new 3 (hw _ (mm 43 rfl)) (hw _ (mm 44 rfl)) (hw _ (mm 45 rfl)) d9_0 rfl (nle rfl) (nle rfl)
  replace G := G'; clear G'
  have Fva := Da (Or.inl (hw _ (mm 71 rfl))) (ty := .array .byte) (by decide); have Fca := Da (Or.inl (hw _ (mm 69 rfl))) (ty := .byte) (by decide); have Fna := Da (Or.inl (hw _ (mm 87 rfl))) (ty := .int) (by decide)
  have n0x : x ≠ a := ne_new ga hT.lt; have n0y : y ≠ a := ne_new ga hT.ltb; have n0u0 : u0 ≠ a := ne_new ga hP0.lt; have n0v0 : v0 ≠ a := ne_new ga hP0.ltb; have n0u1 : u1 ≠ a := ne_new ga hP1.lt; have n0v1 : v1 ≠ a := ne_new ga hP1.ltb; have n0pa : pa ≠ a := ne_new ga Ap.lt
  replace hT := hT.ext Ea; replace hP0 := hP0.ext Ea; replace hP1 := hP1.ext Ea; replace Ap := Ap.ext Ea
  replace G := G.dup 4 d9_3 rfl rfl |>.aloadN 5 d9_4 rfl rfl rfl
  have sz := G.sz
  obtain ⟨vi, h2, soi, G', Ki, Qi⟩ := G.callI 8 rfl rfl (hw _ (mm 46 rfl)) (hw _ (mm 47 rfl)) (hw _ (mm 45 rfl)) (hw _ (mm 48 rfl)) (by decide) [(.ref x)] [(.ref a)] rfl (c_sbIS l Z a0 hw hEW n0 c1 hc1 S1 a x y ts G.old (G.nw (Or.inr sa)) (by omega) Xa Fva Fca Fna hT n0x n0y) (lenOf pd__Ljava_lang_String__V rfl) d9_5 rfl (nle rfl) (nle rfl) (nle rfl) (nle rfl) (allS (Or.inr sa) all0) (allS (mm 0 rfl) all0) (allS (mm 0 rfl) all0) rfl
  replace G := G'; clear G'
  obtain ⟨qi, b0, hS0, sb0', rfl⟩ := Qi
  replace G := G.nov qi
  have sb0 := Nat.le_trans sz sb0'
  have n1x : x ≠ b0 := (ne_ge hT.lt sb0').symm; have n1y : y ≠ b0 := (ne_ge hT.ltb sb0').symm; have n1u0 : u0 ≠ b0 := (ne_ge hP0.lt sb0').symm; have n1v0 : v0 ≠ b0 := (ne_ge hP0.ltb sb0').symm; have n1u1 : u1 ≠ b0 := (ne_ge hP1.lt sb0').symm; have n1v1 : v1 ≠ b0 := (ne_ge hP1.ltb sb0').symm; have n1pa : pa ≠ b0 := (ne_ge Ap.lt sb0').symm
  replace hT := hT.keep Ki (ninS n0x nin0) (ninS n0y nin0); replace hP0 := hP0.keep Ki (ninS n0u0 nin0) (ninS n0v0 nin0); replace hP1 := hP1.keep Ki (ninS n0u1 nin0) (ninS n0v1 nin0); replace Ap := Ap.keep Ki (ninS n0pa nin0)
  have hk0 : ts.length + 16 ≤ 126 := by omega
  have hl0 : ts.length ≤ ts.length + 16 := by omega
  obtain ⟨lz12, mz12, h3, kkz12, G', Ez12, Xz12, Fcz12, Fvz12, Az12, nez12⟩ := G.ldcS 10 (hw _ (mm 113 rfl)) (wS_of hw) (mm 0 rfl) (vs := [(.int (32 : Int32)), (.int (114 : Int32)), (.int (101 : Int32)), (.int (97 : Int32)), (.int (108 : Int32)), (.int (109 : Int32)), (.int (61 : Int32)), (.int (34 : Int32))]) (z := (8 : Int32)) (by decide) (by decide) rfl d9_8 32 (by decide) (by decide) (nle rfl) (nle rfl) rfl
  replace G := G'; clear G'
  replace hT := hT.ext Ez12; replace hP0 := hP0.ext Ez12; replace hP1 := hP1.ext Ez12; replace Ap := Ap.ext Ez12
  replace hS0 := hS0.ext Ez12
  have hLz12 : Str Z h3 lz12 mz12 [Value.int (32 : Int32), Value.int (114 : Int32), Value.int (101 : Int32), Value.int (97 : Int32), Value.int (108 : Int32), Value.int (109 : Int32), Value.int (61 : Int32), Value.int (34 : Int32)] := ⟨Xz12, Fcz12, Fvz12, kkz12, Az12⟩
  have sz0 := G.sz
  obtain ⟨vp0, h4, sop0, G', Kp0, Qp0⟩ := G.callV 13 (hw _ (mm 116 rfl)) (hw _ (mm 79 rfl)) (nfSel (hw _ (mm 81 rfl))) (hw _ (mm 81 rfl)) (hw _ (mm 80 rfl)) (hw _ (mm 45 rfl)) (hw _ (mm 82 rfl)) hS0.1 (by decide) [(.ref lz12)] [] rfl (c_appG l Z a0 hw hEW n0 c1 hc1 S1 a b0 lz12 mz12 (ts.length + 16) ts [Value.int (32 : Int32), Value.int (114 : Int32), Value.int (101 : Int32), Value.int (97 : Int32), Value.int (108 : Int32), Value.int (109 : Int32), Value.int (61 : Int32), Value.int (34 : Int32)] G.old (G.nw (Or.inr sa)) (G.nw (Or.inr sb0)) (by simp only [List.length_append, List.length_cons, List.length_nil]; omega) hk0 hl0 hS0 hLz12 (nez12 a (mm 1 rfl)).1.symm (nez12 a (mm 1 rfl)).2.symm) (lenOf pd__Ljava_lang_String__Ljava_lang_StringBuilder_ rfl) d9_10 rfl (nle rfl) (nle rfl) (nle rfl) (nle rfl) (allS (Or.inr sa) (allS (Or.inr sb0) all0)) (allS (mm 1 rfl) (allS (mm 0 rfl) all0)) (allS (mm 1 rfl) (allS (mm 0 rfl) all0)) rfl
  replace G := G'; clear G'
  obtain ⟨wp0, qp0, rfl, b1, cp1, hS1, hl1, hk1, hg1, hb1, rfl⟩ := Qp0
  replace G := G.val qp0
  have sb1 : h0.size ≤ b1 := hb1.elim (fun e => e ▸ sb0) (fun r => Nat.le_trans sz0 r)
  have n2x : x ≠ b1 := ne_or n1x hT.lt hb1; have n2y : y ≠ b1 := ne_or n1y hT.ltb hb1; have n2u0 : u0 ≠ b1 := ne_or n1u0 hP0.lt hb1; have n2v0 : v0 ≠ b1 := ne_or n1v0 hP0.ltb hb1; have n2u1 : u1 ≠ b1 := ne_or n1u1 hP1.lt hb1; have n2v1 : v1 ≠ b1 := ne_or n1v1 hP1.ltb hb1; have n2pa : pa ≠ b1 := ne_or n1pa Ap.lt hb1
  replace hT := hT.keep Kp0 (ninS n0x (ninS n1x nin0)) (ninS n0y (ninS n1y nin0)); replace hP0 := hP0.keep Kp0 (ninS n0u0 (ninS n1u0 nin0)) (ninS n0v0 (ninS n1v0 nin0)); replace hP1 := hP1.keep Kp0 (ninS n0u1 (ninS n1u1 nin0)) (ninS n0v1 (ninS n1v1 nin0)); replace Ap := Ap.keep Kp0 (ninS n0pa (ninS n1pa nin0))
  have ecp1 : cp1 = 18 := by simp only [GC, List.length_append, List.length_cons, List.length_nil] at hg1; omega
  obtain ⟨lz20, mz20, h5, kkz20, G', Ez20, Xz20, Fcz20, Fvz20, Az20, nez20⟩ := G.ldcS 15 (hw _ (mm 117 rfl)) (wS_of hw) (mm 1 rfl) (vs := [(.int (111 : Int32)), (.int (97 : Int32)), (.int (116 : Int32)), (.int (104 : Int32)), (.int (45 : Int32)), (.int (98 : Int32)), (.int (101 : Int32)), (.int (97 : Int32)), (.int (114 : Int32)), (.int (101 : Int32)), (.int (114 : Int32))]) (z := (11 : Int32)) (by decide) (by decide) rfl d9_13 44 (by decide) (by decide) (nle rfl) (nle rfl) rfl
  replace G := G'; clear G'
  replace hT := hT.ext Ez20; replace hP0 := hP0.ext Ez20; replace hP1 := hP1.ext Ez20; replace Ap := Ap.ext Ez20
  replace hS1 := hS1.ext Ez20
  have hLz20 : Str Z h5 lz20 mz20 [Value.int (111 : Int32), Value.int (97 : Int32), Value.int (116 : Int32), Value.int (104 : Int32), Value.int (45 : Int32), Value.int (98 : Int32), Value.int (101 : Int32), Value.int (97 : Int32), Value.int (114 : Int32), Value.int (101 : Int32), Value.int (114 : Int32)] := ⟨Xz20, Fcz20, Fvz20, kkz20, Az20⟩
  have sz1 := G.sz
  obtain ⟨vp1, h6, sop1, G', Kp1, Qp1⟩ := G.callV 18 (hw _ (mm 116 rfl)) (hw _ (mm 79 rfl)) (nfSel (hw _ (mm 81 rfl))) (hw _ (mm 81 rfl)) (hw _ (mm 80 rfl)) (hw _ (mm 45 rfl)) (hw _ (mm 82 rfl)) hS1.1 (by decide) [(.ref lz20)] [] rfl (c_appG l Z a0 hw hEW n0 c1 hc1 S1 a b1 lz20 mz20 cp1 (ts ++ [Value.int (32 : Int32), Value.int (114 : Int32), Value.int (101 : Int32), Value.int (97 : Int32), Value.int (108 : Int32), Value.int (109 : Int32), Value.int (61 : Int32), Value.int (34 : Int32)]) [Value.int (111 : Int32), Value.int (97 : Int32), Value.int (116 : Int32), Value.int (104 : Int32), Value.int (45 : Int32), Value.int (98 : Int32), Value.int (101 : Int32), Value.int (97 : Int32), Value.int (114 : Int32), Value.int (101 : Int32), Value.int (114 : Int32)] G.old (G.nw (Or.inr sa)) (G.nw (Or.inr sb1)) (by simp only [List.length_append, List.length_cons, List.length_nil]; omega) hk1 hl1 hS1 hLz20 (nez20 a (mm 2 rfl)).1.symm (nez20 a (mm 2 rfl)).2.symm) (lenOf pd__Ljava_lang_String__Ljava_lang_StringBuilder_ rfl) d9_15 rfl (nle rfl) (nle rfl) (nle rfl) (nle rfl) (allS (Or.inr sa) (allS (Or.inr sb1) all0)) (allS (mm 2 rfl) (allS (mm 0 rfl) all0)) (allS (mm 2 rfl) (allS (mm 0 rfl) all0)) rfl
  replace G := G'; clear G'
  obtain ⟨wp1, qp1, rfl, b2, cp2, hS2, hl2, hk2, hg2, hb2, rfl⟩ := Qp1
  replace G := G.val qp1
  have sb2 : h0.size ≤ b2 := hb2.elim (fun e => e ▸ sb1) (fun r => Nat.le_trans sz1 r)
  have n3x : x ≠ b2 := ne_or n2x hT.lt hb2; have n3y : y ≠ b2 := ne_or n2y hT.ltb hb2; have n3u0 : u0 ≠ b2 := ne_or n2u0 hP0.lt hb2; have n3v0 : v0 ≠ b2 := ne_or n2v0 hP0.ltb hb2; have n3u1 : u1 ≠ b2 := ne_or n2u1 hP1.lt hb2; have n3v1 : v1 ≠ b2 := ne_or n2v1 hP1.ltb hb2; have n3pa : pa ≠ b2 := ne_or n2pa Ap.lt hb2
  replace hT := hT.keep Kp1 (ninS n0x (ninS n2x nin0)) (ninS n0y (ninS n2y nin0)); replace hP0 := hP0.keep Kp1 (ninS n0u0 (ninS n2u0 nin0)) (ninS n0v0 (ninS n2v0 nin0)); replace hP1 := hP1.keep Kp1 (ninS n0u1 (ninS n2u1 nin0)) (ninS n0v1 (ninS n2v1 nin0)); replace Ap := Ap.keep Kp1 (ninS n0pa (ninS n2pa nin0))
  have ecp2 : cp2 = 38 := by simp only [GC, List.length_append, List.length_cons, List.length_nil] at hg2; omega
  replace G := G.bipush 20 (34 : Int32) d9_18 (by decide) rfl
  have sz2 := G.sz
  obtain ⟨vp2, h7, sop2, G', Kp2, Qp2⟩ := G.callV 23 (hw _ (mm 141 rfl)) (hw _ (mm 142 rfl)) (nfSel (hw _ (mm 144 rfl))) (hw _ (mm 144 rfl)) (hw _ (mm 143 rfl)) (hw _ (mm 45 rfl)) (hw _ (mm 145 rfl)) hS2.1 (by decide) [(.int (34 : Int32))] [] rfl (c_appC l Z a0 hw hEW n0 c1 hc1 S1 a b2 cp2 ((ts ++ [Value.int (32 : Int32), Value.int (114 : Int32), Value.int (101 : Int32), Value.int (97 : Int32), Value.int (108 : Int32), Value.int (109 : Int32), Value.int (61 : Int32), Value.int (34 : Int32)]) ++ [Value.int (111 : Int32), Value.int (97 : Int32), Value.int (116 : Int32), Value.int (104 : Int32), Value.int (45 : Int32), Value.int (98 : Int32), Value.int (101 : Int32), Value.int (97 : Int32), Value.int (114 : Int32), Value.int (101 : Int32), Value.int (114 : Int32)]) 34 G.old (G.nw (Or.inr sa)) (G.nw (Or.inr sb2)) (by decide) (by simp only [List.length_append, List.length_cons, List.length_nil]; omega) hk2 hl2 hS2) (lenOf pd__C_Ljava_lang_StringBuilder_ rfl) d9_20 rfl (nle rfl) (nle rfl) (nle rfl) (nle rfl) (allS (Or.inr sa) (allS (Or.inr sb2) all0)) (allS (mm 3 rfl) (allS (mm 0 rfl) all0)) (allS (mm 3 rfl) (allS (mm 0 rfl) all0)) rfl
  replace G := G'; clear G'
  obtain ⟨wp2, qp2, rfl, b3, cp3, hS3, hl3, hk3, hg3, hb3, rfl⟩ := Qp2
  replace G := G.val qp2
  have sb3 : h0.size ≤ b3 := hb3.elim (fun e => e ▸ sb2) (fun r => Nat.le_trans sz2 r)
  have n4x : x ≠ b3 := ne_or n3x hT.lt hb3; have n4y : y ≠ b3 := ne_or n3y hT.ltb hb3; have n4u0 : u0 ≠ b3 := ne_or n3u0 hP0.lt hb3; have n4v0 : v0 ≠ b3 := ne_or n3v0 hP0.ltb hb3; have n4u1 : u1 ≠ b3 := ne_or n3u1 hP1.lt hb3; have n4v1 : v1 ≠ b3 := ne_or n3v1 hP1.ltb hb3; have n4pa : pa ≠ b3 := ne_or n3pa Ap.lt hb3
  replace hT := hT.keep Kp2 (ninS n0x (ninS n3x nin0)) (ninS n0y (ninS n3y nin0)); replace hP0 := hP0.keep Kp2 (ninS n0u0 (ninS n3u0 nin0)) (ninS n0v0 (ninS n3v0 nin0)); replace hP1 := hP1.keep Kp2 (ninS n0u1 (ninS n3u1 nin0)) (ninS n0v1 (ninS n3v1 nin0)); replace Ap := Ap.keep Kp2 (ninS n0pa (ninS n3pa nin0))
  have ecp3 : cp3 = 38 := by simp only [GC, List.length_append, List.length_cons, List.length_nil] at hg3; omega
  replace G := G.astoreN 24 #[.val (.ref x), .val (.ref pa), .val (.ref a), .unset, .unset, .unset, .unset] d9_23 rfl rfl rfl |>.aloadN 25 d9_24 rfl rfl rfl |>.astoreN 26 #[.val (.ref x), .val (.ref pa), .val (.ref a), .val (.ref pa), .unset, .unset, .unset] d9_25 rfl rfl rfl |>.aloadN 27 d9_26 rfl rfl rfl |>.alen 28 Ap d9_27 rfl |>.istore 30 #[.val (.ref x), .val (.ref pa), .val (.ref a), .val (.ref pa), .val (.int (2 : Int32)), .unset, .unset] d9_28 rfl rfl |>.iconst 31 (0 : Int32) d9_30 rfl rfl |>.istore 33 #[.val (.ref x), .val (.ref pa), .val (.ref a), .val (.ref pa), .val (.int (2 : Int32)), .val (.int (0 : Int32)), .unset] d9_31 rfl rfl
  replace G := G.iload 35 d9_33 rfl rfl |>.iload 37 d9_35 rfl rfl |>.icmpF 40 d9_37 (XT.ii_ge_f (by decide)) rfl |>.aloadN 41 d9_40 rfl rfl rfl |>.iload 43 d9_41 rfl rfl |>.aaload 44 (v := (.ref u0)) Ap ⟨by decide, by decide⟩ rfl d9_43 rfl |>.astore 46 #[.val (.ref x), .val (.ref pa), .val (.ref a), .val (.ref pa), .val (.int (2 : Int32)), .val (.int (0 : Int32)), .val (.ref u0)] d9_44 rfl rfl rfl |>.aloadN 47 d9_46 rfl rfl rfl
  obtain ⟨lz25_0, mz25_0, h8, kkz25_0, G', Ez25_0, Xz25_0, Fcz25_0, Fvz25_0, Az25_0, nez25_0⟩ := G.ldcS 49 (hw _ (mm 159 rfl)) (wS_of hw) (mm 2 rfl) (vs := [(.int (44 : Int32)), (.int (32 : Int32))]) (z := (2 : Int32)) (by decide) (by decide) rfl d9_47 8 (by decide) (by decide) (nle rfl) (nle rfl) rfl
  replace G := G'; clear G'
  replace hT := hT.ext Ez25_0; replace hP0 := hP0.ext Ez25_0; replace hP1 := hP1.ext Ez25_0; replace Ap := Ap.ext Ez25_0
  replace hS3 := hS3.ext Ez25_0
  have hLz25_0 : Str Z h8 lz25_0 mz25_0 [Value.int (44 : Int32), Value.int (32 : Int32)] := ⟨Xz25_0, Fcz25_0, Fvz25_0, kkz25_0, Az25_0⟩
  have sz3 := G.sz
  obtain ⟨vp3, h9, sop3, G', Kp3, Qp3⟩ := G.callV 52 (hw _ (mm 116 rfl)) (hw _ (mm 79 rfl)) (nfSel (hw _ (mm 81 rfl))) (hw _ (mm 81 rfl)) (hw _ (mm 80 rfl)) (hw _ (mm 45 rfl)) (hw _ (mm 82 rfl)) hS3.1 (by decide) [(.ref lz25_0)] [] rfl (c_appG l Z a0 hw hEW n0 c1 hc1 S1 a b3 lz25_0 mz25_0 cp3 (((ts ++ [Value.int (32 : Int32), Value.int (114 : Int32), Value.int (101 : Int32), Value.int (97 : Int32), Value.int (108 : Int32), Value.int (109 : Int32), Value.int (61 : Int32), Value.int (34 : Int32)]) ++ [Value.int (111 : Int32), Value.int (97 : Int32), Value.int (116 : Int32), Value.int (104 : Int32), Value.int (45 : Int32), Value.int (98 : Int32), Value.int (101 : Int32), Value.int (97 : Int32), Value.int (114 : Int32), Value.int (101 : Int32), Value.int (114 : Int32)]) ++ [bytV 34]) [Value.int (44 : Int32), Value.int (32 : Int32)] G.old (G.nw (Or.inr sa)) (G.nw (Or.inr sb3)) (by simp only [List.length_append, List.length_cons, List.length_nil]; omega) hk3 hl3 hS3 hLz25_0 (nez25_0 a (mm 4 rfl)).1.symm (nez25_0 a (mm 4 rfl)).2.symm) (lenOf pd__Ljava_lang_String__Ljava_lang_StringBuilder_ rfl) d9_49 rfl (nle rfl) (nle rfl) (nle rfl) (nle rfl) (allS (Or.inr sa) (allS (Or.inr sb3) all0)) (allS (mm 4 rfl) (allS (mm 0 rfl) all0)) (allS (mm 4 rfl) (allS (mm 0 rfl) all0)) rfl
  replace G := G'; clear G'
  obtain ⟨wp3, qp3, rfl, b4, cp4, hS4, hl4, hk4, hg4, hb4, rfl⟩ := Qp3
  replace G := G.val qp3
  have sb4 : h0.size ≤ b4 := hb4.elim (fun e => e ▸ sb3) (fun r => Nat.le_trans sz3 r)
  have n5x : x ≠ b4 := ne_or n4x hT.lt hb4; have n5y : y ≠ b4 := ne_or n4y hT.ltb hb4; have n5u0 : u0 ≠ b4 := ne_or n4u0 hP0.lt hb4; have n5v0 : v0 ≠ b4 := ne_or n4v0 hP0.ltb hb4; have n5u1 : u1 ≠ b4 := ne_or n4u1 hP1.lt hb4; have n5v1 : v1 ≠ b4 := ne_or n4v1 hP1.ltb hb4; have n5pa : pa ≠ b4 := ne_or n4pa Ap.lt hb4
  replace hT := hT.keep Kp3 (ninS n0x (ninS n4x nin0)) (ninS n0y (ninS n4y nin0)); replace hP0 := hP0.keep Kp3 (ninS n0u0 (ninS n4u0 nin0)) (ninS n0v0 (ninS n4v0 nin0)); replace hP1 := hP1.keep Kp3 (ninS n0u1 (ninS n4u1 nin0)) (ninS n0v1 (ninS n4v1 nin0)); replace Ap := Ap.keep Kp3 (ninS n0pa (ninS n4pa nin0))
  have ecp4 : cp4 = 38 := by simp only [GC, List.length_append, List.length_cons, List.length_nil] at hg4; omega
  replace G := G.aload 54 d9_52 rfl rfl rfl
  have sz4 := G.sz
  obtain ⟨vp4, h10, sop4, G', Kp4, Qp4⟩ := G.callV 57 (hw _ (mm 116 rfl)) (hw _ (mm 79 rfl)) (nfSel (hw _ (mm 81 rfl))) (hw _ (mm 81 rfl)) (hw _ (mm 80 rfl)) (hw _ (mm 45 rfl)) (hw _ (mm 82 rfl)) hS4.1 (by decide) [(.ref u0)] [] rfl (c_appG l Z a0 hw hEW n0 c1 hc1 S1 a b4 u0 v0 cp4 ((((ts ++ [Value.int (32 : Int32), Value.int (114 : Int32), Value.int (101 : Int32), Value.int (97 : Int32), Value.int (108 : Int32), Value.int (109 : Int32), Value.int (61 : Int32), Value.int (34 : Int32)]) ++ [Value.int (111 : Int32), Value.int (97 : Int32), Value.int (116 : Int32), Value.int (104 : Int32), Value.int (45 : Int32), Value.int (98 : Int32), Value.int (101 : Int32), Value.int (97 : Int32), Value.int (114 : Int32), Value.int (101 : Int32), Value.int (114 : Int32)]) ++ [bytV 34]) ++ [Value.int (44 : Int32), Value.int (32 : Int32)]) ps0 G.old (G.nw (Or.inr sa)) (G.nw (Or.inr sb4)) (by simp only [List.length_append, List.length_cons, List.length_nil]; omega) hk4 hl4 hS4 hP0 n0u0 n0v0) (lenOf pd__Ljava_lang_String__Ljava_lang_StringBuilder_ rfl) d9_54 rfl (nle rfl) (nle rfl) (nle rfl) (nle rfl) (allS (Or.inr sa) (allS (Or.inr sb4) all0)) (allS (mm 5 rfl) (allS (mm 0 rfl) all0)) (allS (mm 5 rfl) (allS (mm 0 rfl) all0)) rfl
  replace G := G'; clear G'
  obtain ⟨wp4, qp4, rfl, b5, cp5, hS5, hl5, hk5, hg5, hb5, rfl⟩ := Qp4
  replace G := G.val qp4
  have sb5 : h0.size ≤ b5 := hb5.elim (fun e => e ▸ sb4) (fun r => Nat.le_trans sz4 r)
  have n6x : x ≠ b5 := ne_or n5x hT.lt hb5; have n6y : y ≠ b5 := ne_or n5y hT.ltb hb5; have n6u0 : u0 ≠ b5 := ne_or n5u0 hP0.lt hb5; have n6v0 : v0 ≠ b5 := ne_or n5v0 hP0.ltb hb5; have n6u1 : u1 ≠ b5 := ne_or n5u1 hP1.lt hb5; have n6v1 : v1 ≠ b5 := ne_or n5v1 hP1.ltb hb5; have n6pa : pa ≠ b5 := ne_or n5pa Ap.lt hb5
  replace hT := hT.keep Kp4 (ninS n0x (ninS n5x nin0)) (ninS n0y (ninS n5y nin0)); replace hP0 := hP0.keep Kp4 (ninS n0u0 (ninS n5u0 nin0)) (ninS n0v0 (ninS n5v0 nin0)); replace hP1 := hP1.keep Kp4 (ninS n0u1 (ninS n5u1 nin0)) (ninS n0v1 (ninS n5v1 nin0)); replace Ap := Ap.keep Kp4 (ninS n0pa (ninS n5pa nin0))
  have ecp5 : cp5 = 38 := by simp only [GC, List.length_append, List.length_cons, List.length_nil] at hg5; omega
  replace G := G.pop 58 d9_57 rfl rfl |>.iincV 61 #[.val (.ref x), .val (.ref pa), .val (.ref a), .val (.ref pa), .val (.int (2 : Int32)), .val (.int (1 : Int32)), .val (.ref u0)] (1 : Int32) d9_58 rfl (by decide) rfl rfl |>.goto 33 d9_61 (by decide) (by decide) |>.iload 35 d9_33 rfl rfl |>.iload 37 d9_35 rfl rfl |>.icmpF 40 d9_37 (XT.ii_ge_f (by decide)) rfl |>.aloadN 41 d9_40 rfl rfl rfl |>.iload 43 d9_41 rfl rfl
  replace G := G.aaload 44 (v := (.ref u1)) Ap ⟨by decide, by decide⟩ rfl d9_43 rfl |>.astore 46 #[.val (.ref x), .val (.ref pa), .val (.ref a), .val (.ref pa), .val (.int (2 : Int32)), .val (.int (1 : Int32)), .val (.ref u1)] d9_44 rfl rfl rfl |>.aloadN 47 d9_46 rfl rfl rfl
  obtain ⟨lz25_1, mz25_1, h11, kkz25_1, G', Ez25_1, Xz25_1, Fcz25_1, Fvz25_1, Az25_1, nez25_1⟩ := G.ldcS 49 (hw _ (mm 159 rfl)) (wS_of hw) (mm 2 rfl) (vs := [(.int (44 : Int32)), (.int (32 : Int32))]) (z := (2 : Int32)) (by decide) (by decide) rfl d9_47 8 (by decide) (by decide) (nle rfl) (nle rfl) rfl
  replace G := G'; clear G'
  replace hT := hT.ext Ez25_1; replace hP0 := hP0.ext Ez25_1; replace hP1 := hP1.ext Ez25_1; replace Ap := Ap.ext Ez25_1
  replace hS5 := hS5.ext Ez25_1
  have hLz25_1 : Str Z h11 lz25_1 mz25_1 [Value.int (44 : Int32), Value.int (32 : Int32)] := ⟨Xz25_1, Fcz25_1, Fvz25_1, kkz25_1, Az25_1⟩
  have sz5 := G.sz
  obtain ⟨vp5, h12, sop5, G', Kp5, Qp5⟩ := G.callV 52 (hw _ (mm 116 rfl)) (hw _ (mm 79 rfl)) (nfSel (hw _ (mm 81 rfl))) (hw _ (mm 81 rfl)) (hw _ (mm 80 rfl)) (hw _ (mm 45 rfl)) (hw _ (mm 82 rfl)) hS5.1 (by decide) [(.ref lz25_1)] [] rfl (c_appG l Z a0 hw hEW n0 c1 hc1 S1 a b5 lz25_1 mz25_1 cp5 (((((ts ++ [Value.int (32 : Int32), Value.int (114 : Int32), Value.int (101 : Int32), Value.int (97 : Int32), Value.int (108 : Int32), Value.int (109 : Int32), Value.int (61 : Int32), Value.int (34 : Int32)]) ++ [Value.int (111 : Int32), Value.int (97 : Int32), Value.int (116 : Int32), Value.int (104 : Int32), Value.int (45 : Int32), Value.int (98 : Int32), Value.int (101 : Int32), Value.int (97 : Int32), Value.int (114 : Int32), Value.int (101 : Int32), Value.int (114 : Int32)]) ++ [bytV 34]) ++ [Value.int (44 : Int32), Value.int (32 : Int32)]) ++ ps0) [Value.int (44 : Int32), Value.int (32 : Int32)] G.old (G.nw (Or.inr sa)) (G.nw (Or.inr sb5)) (by simp only [List.length_append, List.length_cons, List.length_nil]; omega) hk5 hl5 hS5 hLz25_1 (nez25_1 a (mm 6 rfl)).1.symm (nez25_1 a (mm 6 rfl)).2.symm) (lenOf pd__Ljava_lang_String__Ljava_lang_StringBuilder_ rfl) d9_49 rfl (nle rfl) (nle rfl) (nle rfl) (nle rfl) (allS (Or.inr sa) (allS (Or.inr sb5) all0)) (allS (mm 6 rfl) (allS (mm 0 rfl) all0)) (allS (mm 6 rfl) (allS (mm 0 rfl) all0)) rfl
  replace G := G'; clear G'
  obtain ⟨wp5, qp5, rfl, b6, cp6, hS6, hl6, hk6, hg6, hb6, rfl⟩ := Qp5
  replace G := G.val qp5
  have sb6 : h0.size ≤ b6 := hb6.elim (fun e => e ▸ sb5) (fun r => Nat.le_trans sz5 r)
  have n7x : x ≠ b6 := ne_or n6x hT.lt hb6; have n7y : y ≠ b6 := ne_or n6y hT.ltb hb6; have n7u0 : u0 ≠ b6 := ne_or n6u0 hP0.lt hb6; have n7v0 : v0 ≠ b6 := ne_or n6v0 hP0.ltb hb6; have n7u1 : u1 ≠ b6 := ne_or n6u1 hP1.lt hb6; have n7v1 : v1 ≠ b6 := ne_or n6v1 hP1.ltb hb6; have n7pa : pa ≠ b6 := ne_or n6pa Ap.lt hb6
  replace hT := hT.keep Kp5 (ninS n0x (ninS n6x nin0)) (ninS n0y (ninS n6y nin0)); replace hP0 := hP0.keep Kp5 (ninS n0u0 (ninS n6u0 nin0)) (ninS n0v0 (ninS n6v0 nin0)); replace hP1 := hP1.keep Kp5 (ninS n0u1 (ninS n6u1 nin0)) (ninS n0v1 (ninS n6v1 nin0)); replace Ap := Ap.keep Kp5 (ninS n0pa (ninS n6pa nin0))
  have ecp6 : cp6 = 38 := by simp only [GC, List.length_append, List.length_cons, List.length_nil] at hg6; omega
  replace G := G.aload 54 d9_52 rfl rfl rfl
  have sz6 := G.sz
  obtain ⟨vp6, h13, sop6, G', Kp6, Qp6⟩ := G.callV 57 (hw _ (mm 116 rfl)) (hw _ (mm 79 rfl)) (nfSel (hw _ (mm 81 rfl))) (hw _ (mm 81 rfl)) (hw _ (mm 80 rfl)) (hw _ (mm 45 rfl)) (hw _ (mm 82 rfl)) hS6.1 (by decide) [(.ref u1)] [] rfl (c_appG l Z a0 hw hEW n0 c1 hc1 S1 a b6 u1 v1 cp6 ((((((ts ++ [Value.int (32 : Int32), Value.int (114 : Int32), Value.int (101 : Int32), Value.int (97 : Int32), Value.int (108 : Int32), Value.int (109 : Int32), Value.int (61 : Int32), Value.int (34 : Int32)]) ++ [Value.int (111 : Int32), Value.int (97 : Int32), Value.int (116 : Int32), Value.int (104 : Int32), Value.int (45 : Int32), Value.int (98 : Int32), Value.int (101 : Int32), Value.int (97 : Int32), Value.int (114 : Int32), Value.int (101 : Int32), Value.int (114 : Int32)]) ++ [bytV 34]) ++ [Value.int (44 : Int32), Value.int (32 : Int32)]) ++ ps0) ++ [Value.int (44 : Int32), Value.int (32 : Int32)]) ps1 G.old (G.nw (Or.inr sa)) (G.nw (Or.inr sb6)) (by simp only [List.length_append, List.length_cons, List.length_nil]; omega) hk6 hl6 hS6 hP1 n0u1 n0v1) (lenOf pd__Ljava_lang_String__Ljava_lang_StringBuilder_ rfl) d9_54 rfl (nle rfl) (nle rfl) (nle rfl) (nle rfl) (allS (Or.inr sa) (allS (Or.inr sb6) all0)) (allS (mm 7 rfl) (allS (mm 0 rfl) all0)) (allS (mm 7 rfl) (allS (mm 0 rfl) all0)) rfl
  replace G := G'; clear G'
  obtain ⟨wp6, qp6, rfl, b7, cp7, hS7, hl7, hk7, hg7, hb7, rfl⟩ := Qp6
  replace G := G.val qp6
  have sb7 : h0.size ≤ b7 := hb7.elim (fun e => e ▸ sb6) (fun r => Nat.le_trans sz6 r)
  have n8x : x ≠ b7 := ne_or n7x hT.lt hb7; have n8y : y ≠ b7 := ne_or n7y hT.ltb hb7; have n8u0 : u0 ≠ b7 := ne_or n7u0 hP0.lt hb7; have n8v0 : v0 ≠ b7 := ne_or n7v0 hP0.ltb hb7; have n8u1 : u1 ≠ b7 := ne_or n7u1 hP1.lt hb7; have n8v1 : v1 ≠ b7 := ne_or n7v1 hP1.ltb hb7; have n8pa : pa ≠ b7 := ne_or n7pa Ap.lt hb7
  replace hT := hT.keep Kp6 (ninS n0x (ninS n7x nin0)) (ninS n0y (ninS n7y nin0)); replace hP0 := hP0.keep Kp6 (ninS n0u0 (ninS n7u0 nin0)) (ninS n0v0 (ninS n7v0 nin0)); replace hP1 := hP1.keep Kp6 (ninS n0u1 (ninS n7u1 nin0)) (ninS n0v1 (ninS n7v1 nin0)); replace Ap := Ap.keep Kp6 (ninS n0pa (ninS n7pa nin0))
  have ecp7 : cp7 = 38 := by simp only [GC, List.length_append, List.length_cons, List.length_nil] at hg7; omega
  replace G := G.pop 58 d9_57 rfl rfl |>.iincV 61 #[.val (.ref x), .val (.ref pa), .val (.ref a), .val (.ref pa), .val (.int (2 : Int32)), .val (.int (2 : Int32)), .val (.ref u1)] (2 : Int32) d9_58 rfl (by decide) rfl rfl |>.goto 33 d9_61 (by decide) (by decide) |>.iload 35 d9_33 rfl rfl |>.iload 37 d9_35 rfl rfl |>.icmpT 64 d9_37 (XT.ii_ge_t (by decide)) (by decide) (by decide) |>.aloadN 65 d9_64 rfl rfl rfl
  have szt := G.sz
  have hlen : (((((((ts ++ [Value.int (32 : Int32), Value.int (114 : Int32), Value.int (101 : Int32), Value.int (97 : Int32), Value.int (108 : Int32), Value.int (109 : Int32), Value.int (61 : Int32), Value.int (34 : Int32)]) ++ [Value.int (111 : Int32), Value.int (97 : Int32), Value.int (116 : Int32), Value.int (104 : Int32), Value.int (45 : Int32), Value.int (98 : Int32), Value.int (101 : Int32), Value.int (97 : Int32), Value.int (114 : Int32), Value.int (101 : Int32), Value.int (114 : Int32)]) ++ [bytV 34]) ++ [Value.int (44 : Int32), Value.int (32 : Int32)]) ++ ps0) ++ [Value.int (44 : Int32), Value.int (32 : Int32)]) ++ ps1).length ≤ 30 := by simp only [List.length_append, List.length_cons, List.length_nil]; omega
  obtain ⟨vt, h14, sot, G', Kt, Qt⟩ := G.callV 68 (hw _ (mm 160 rfl)) (hw _ (mm 161 rfl)) (nfSel (hw _ (mm 163 rfl))) (hw _ (mm 163 rfl)) (hw _ (mm 162 rfl)) (hw _ (mm 45 rfl)) (hw _ (mm 164 rfl)) hS7.1 (by decide) [] [] rfl (c_toStr l Z a0 hw hEW n0 c1 hc1 S1 a b7 cp7 (((((((ts ++ [Value.int (32 : Int32), Value.int (114 : Int32), Value.int (101 : Int32), Value.int (97 : Int32), Value.int (108 : Int32), Value.int (109 : Int32), Value.int (61 : Int32), Value.int (34 : Int32)]) ++ [Value.int (111 : Int32), Value.int (97 : Int32), Value.int (116 : Int32), Value.int (104 : Int32), Value.int (45 : Int32), Value.int (98 : Int32), Value.int (101 : Int32), Value.int (97 : Int32), Value.int (114 : Int32), Value.int (101 : Int32), Value.int (114 : Int32)]) ++ [bytV 34]) ++ [Value.int (44 : Int32), Value.int (32 : Int32)]) ++ ps0) ++ [Value.int (44 : Int32), Value.int (32 : Int32)]) ++ ps1) G.old (by omega) (by omega) (by omega) hS7) (lenOf pd___Ljava_lang_String_ rfl) d9_65 rfl (nle rfl) (nle rfl) (nle rfl) (nle rfl) all0 all0 all0 rfl
  replace G := G'; clear G'
  obtain ⟨wt, qt, s2, n2, rfl, hR, g1, g2, rfl⟩ := Qt
  replace G := G.val qt
  exact G.retA hret rfl rfl hlk d9_68 [n2, s2] (allS (mm 0 rfl) (allS (mm 1 rfl) all0)) ⟨_, rfl, s2, n2, rfl, hR, Nat.le_trans szt g1, Nat.le_trans szt g2, rfl⟩ (nle rfl) (nle rfl)
theorem c_law (l : Launch) (Z : State) (a0 : Array Value) (hw : ∀ d ∈ tables_1, d.before a0 Z = true) (hEW : EW Z a0 consts_1) (n0 : Nat) (c1 : Int32) (hc1 : ¬ c1 = 0) (S1 : Sta Z Z.heap "java/lang/String" "COMPACT_STRINGS" "Z" (.int c1)) (tws : List Jvm.Cond) (i0 i1 i2 i3 : Int32) {h0 : Heap} (o1 : Old Z n0 h0)  :
    Con Z a0 l (⟨"com/example/oath_bearer/oathbearer/web/AuthorizationHeaderChallengePinLaw", "law", "(IIII)Z"⟩ : MethodName) code 19 (some .boolean) room_1 tws #[(.int i0), (.int i1), (.int i2), (.int i3)] consts_1 h0 n0 [] [] (VV fun w h so => w = .int 1 ∧ so = []) := by
  refine Con.body (plainFor_of_name pn_com_example_oath_bearer_oathbearer_web_AuthorizationHeaderChallengePinLaw) hEW o1 all0 #[.val (.int i0), .val (.int i1), .val (.int i2), .val (.int i3), .unset, .unset, .unset, .unset, .unset, .unset, .unset, .unset, .unset, .unset, .unset, .unset, .unset, .unset, .unset] (fun m => by first | (simp [entryFrame, mkF, argsToLocals, Value.category]; done) | rfl) ?_
  intro p e s m below meth c B hnm hret hlk G
  obtain ⟨x0, hx0, ex0⟩ := m8 i0; obtain ⟨x1, hx1, ex1⟩ := m8 (XT.ushr i0 8); obtain ⟨x2, hx2, ex2⟩ := m8 i1; obtain ⟨x3, hx3, ex3⟩ := m8 (XT.ushr i1 8); obtain ⟨x4, hx4, ex4⟩ := m8 i2; obtain ⟨x5, hx5, ex5⟩ := m8 (XT.ushr i2 8); obtain ⟨N, hN, eN⟩ := m31 i3
  replace G := G.iloadN 1 at_0 rfl rfl |>.sipush 4 (255 : Int32) at_1 (by decide) rfl |>.iand 5 at_4 rfl |>.top (y := (.int (Int32.ofNat x0))) (congrArg Value.int ex0) |>.i2c 6 at_5 rfl |>.top (y := (.int (Int32.ofNat x0))) (congrArg Value.int (i2c_n hx0)) |>.istore 8 #[.val (.int i0), .val (.int i1), .val (.int i2), .val (.int i3), .val (.int (Int32.ofNat x0)), .unset, .unset, .unset, .unset, .unset, .unset, .unset, .unset, .unset, .unset, .unset, .unset, .unset, .unset] at_6 rfl rfl |>.iloadN 9 at_8 rfl rfl
  replace G := G.bipush 11 (8 : Int32) at_9 (by decide) rfl |>.iushr 12 at_11 rfl |>.sipush 15 (255 : Int32) at_12 (by decide) rfl |>.iand 16 at_15 rfl |>.top (y := (.int (Int32.ofNat x1))) (congrArg Value.int ex1) |>.i2c 17 at_16 rfl |>.top (y := (.int (Int32.ofNat x1))) (congrArg Value.int (i2c_n hx1)) |>.istore 19 #[.val (.int i0), .val (.int i1), .val (.int i2), .val (.int i3), .val (.int (Int32.ofNat x0)), .val (.int (Int32.ofNat x1)), .unset, .unset, .unset, .unset, .unset, .unset, .unset, .unset, .unset, .unset, .unset, .unset, .unset] at_17 rfl rfl
  replace G := G.iloadN 20 at_19 rfl rfl |>.sipush 23 (255 : Int32) at_20 (by decide) rfl |>.iand 24 at_23 rfl |>.top (y := (.int (Int32.ofNat x2))) (congrArg Value.int ex2) |>.i2c 25 at_24 rfl |>.top (y := (.int (Int32.ofNat x2))) (congrArg Value.int (i2c_n hx2)) |>.istore 27 #[.val (.int i0), .val (.int i1), .val (.int i2), .val (.int i3), .val (.int (Int32.ofNat x0)), .val (.int (Int32.ofNat x1)), .val (.int (Int32.ofNat x2)), .unset, .unset, .unset, .unset, .unset, .unset, .unset, .unset, .unset, .unset, .unset, .unset] at_25 rfl rfl |>.iloadN 28 at_27 rfl rfl
  replace G := G.bipush 30 (8 : Int32) at_28 (by decide) rfl |>.iushr 31 at_30 rfl |>.sipush 34 (255 : Int32) at_31 (by decide) rfl |>.iand 35 at_34 rfl |>.top (y := (.int (Int32.ofNat x3))) (congrArg Value.int ex3) |>.i2c 36 at_35 rfl |>.top (y := (.int (Int32.ofNat x3))) (congrArg Value.int (i2c_n hx3)) |>.istore 38 #[.val (.int i0), .val (.int i1), .val (.int i2), .val (.int i3), .val (.int (Int32.ofNat x0)), .val (.int (Int32.ofNat x1)), .val (.int (Int32.ofNat x2)), .val (.int (Int32.ofNat x3)), .unset, .unset, .unset, .unset, .unset, .unset, .unset, .unset, .unset, .unset, .unset] at_36 rfl rfl
  replace G := G.iloadN 39 at_38 rfl rfl |>.sipush 42 (255 : Int32) at_39 (by decide) rfl |>.iand 43 at_42 rfl |>.top (y := (.int (Int32.ofNat x4))) (congrArg Value.int ex4) |>.i2c 44 at_43 rfl |>.top (y := (.int (Int32.ofNat x4))) (congrArg Value.int (i2c_n hx4)) |>.istore 46 #[.val (.int i0), .val (.int i1), .val (.int i2), .val (.int i3), .val (.int (Int32.ofNat x0)), .val (.int (Int32.ofNat x1)), .val (.int (Int32.ofNat x2)), .val (.int (Int32.ofNat x3)), .val (.int (Int32.ofNat x4)), .unset, .unset, .unset, .unset, .unset, .unset, .unset, .unset, .unset, .unset] at_44 rfl rfl |>.iloadN 47 at_46 rfl rfl
  replace G := G.bipush 49 (8 : Int32) at_47 (by decide) rfl |>.iushr 50 at_49 rfl |>.sipush 53 (255 : Int32) at_50 (by decide) rfl |>.iand 54 at_53 rfl |>.top (y := (.int (Int32.ofNat x5))) (congrArg Value.int ex5) |>.i2c 55 at_54 rfl |>.top (y := (.int (Int32.ofNat x5))) (congrArg Value.int (i2c_n hx5)) |>.istore 57 #[.val (.int i0), .val (.int i1), .val (.int i2), .val (.int i3), .val (.int (Int32.ofNat x0)), .val (.int (Int32.ofNat x1)), .val (.int (Int32.ofNat x2)), .val (.int (Int32.ofNat x3)), .val (.int (Int32.ofNat x4)), .val (.int (Int32.ofNat x5)), .unset, .unset, .unset, .unset, .unset, .unset, .unset, .unset, .unset] at_55 rfl rfl
  replace G := G.iloadN 58 at_57 rfl rfl |>.ldcI 60 (hw _ (mm 0 rfl)) at_58 rfl |>.iand 61 at_60 rfl |>.top (y := (.int (Int32.ofNat N))) (congrArg Value.int eN) |>.iconst 62 (3 : Int32) at_61 rfl rfl |>.irem 63 at_62 (by decide) rfl |>.top (y := (.int (Int32.ofNat (N % 3)))) (congrArg Value.int (ofn_rem3 hN)) |>.istore 65 #[.val (.int i0), .val (.int i1), .val (.int i2), .val (.int i3), .val (.int (Int32.ofNat x0)), .val (.int (Int32.ofNat x1)), .val (.int (Int32.ofNat x2)), .val (.int (Int32.ofNat x3)), .val (.int (Int32.ofNat x4)), .val (.int (Int32.ofNat x5)), .val (.int (Int32.ofNat (N % 3))), .unset, .unset, .unset, .unset, .unset, .unset, .unset, .unset] at_63 rfl rfl
  obtain ⟨p, k1, G', gp, sp, Ep, Xp, Dp, Up⟩ := G.new 68 (hw _ (mm 1 rfl)) (hw _ (mm 2 rfl)) (hw _ (mm 3 rfl)) at_65 rfl (nle rfl) (nle rfl)
  replace G := G'; clear G'
  have Fvp := Dp (Or.inr (hw _ (mm 30 rfl))) (ty := .array .byte) (by decide); have Fcp := Dp (Or.inr (hw _ (mm 28 rfl))) (ty := .byte) (by decide)
  replace G := G.dup 69 at_68 rfl rfl |>.iconst 70 (2 : Int32) at_69 rfl rfl
  obtain ⟨cp, k2, kcp, G', gcp, scp, Ecp, Acp⟩ := G.newarray 72 (hw _ (mm 4 rfl)) at_70 (by decide) 2 (nle rfl) (by decide) rfl (nle rfl) (nle rfl)
  replace G := G'; clear G'
  have ne_p_cp : p ≠ cp := ne_new gcp Xp.lt
  replace Xp := Xp.ext Ecp; replace Fvp := Fvp.ext Ecp; replace Fcp := Fcp.ext Ecp
  have hA := Acp.pad (vs' := [(.int 0), (.int 0)]) (pad_rep [] (.int 0) 2)
  replace G := G.dup 73 at_72 rfl rfl |>.iconst 74 (0 : Int32) at_73 rfl rfl |>.iload 76 at_74 rfl rfl
  obtain ⟨k3, G', As, Ks⟩ := G.castore 77 0 hA (by decide) rfl (nle rfl) (Or.inr scp) (mm 0 rfl) at_76 rfl
  replace G := G'; clear G'
  replace Xp := Xp.keep Ks; replace Fvp := Fvp.keep Ks (ninS ne_p_cp nin0); replace Fcp := Fcp.keep Ks (ninS ne_p_cp nin0)
  replace hA : Arv Z k3 cp kcp .char 2 [(.int (Int32.ofNat x0)), (.int 0)] (.int 0) := by have h := As; rw [show nar FieldType.char (Int32.ofNat x0) = Int32.ofNat x0 from i2c_n hx0] at h; exact h
  replace G := G.dup 78 at_77 rfl rfl |>.iconst 79 (1 : Int32) at_78 rfl rfl |>.iload 81 at_79 rfl rfl
  obtain ⟨k4, G', As, Ks⟩ := G.castore 82 1 hA (by decide) rfl (nle rfl) (Or.inr scp) (mm 0 rfl) at_81 rfl
  replace G := G'; clear G'
  replace Xp := Xp.keep Ks; replace Fvp := Fvp.keep Ks (ninS ne_p_cp nin0); replace Fcp := Fcp.keep Ks (ninS ne_p_cp nin0)
  replace hA : Arv Z k4 cp kcp .char 2 [(.int (Int32.ofNat x0)), (.int (Int32.ofNat x1))] (.int 0) := by have h := As; rw [show nar FieldType.char (Int32.ofNat x1) = Int32.ofNat x1 from i2c_n hx1] at h; exact h
  obtain ⟨vcp, k5, socp, G', Kcp, Qcp⟩ := G.callI 85 rfl rfl (hw _ (mm 5 rfl)) (hw _ (mm 6 rfl)) (hw _ (mm 3 rfl)) (hw _ (mm 7 rfl)) (by decide) [(.ref cp)] [(.ref p)] rfl (c_strC l Z a0 hw hEW n0 c1 hc1 S1 p cp kcp [Int32.ofNat x0, Int32.ofNat x1] G.old (G.nw (Or.inr sp)) Xp Fvp Fcp (nle rfl) (nle rfl) (c255s (xs := [x0, x1]) (allS hx0 (allS hx1 all0))) hA) (lenOf pd___C_V rfl) at_82 rfl (nle rfl) (nle rfl) (nle rfl) (nle rfl) (allS (Or.inr sp) all0) (allS (mm 1 rfl) all0) (allS (mm 1 rfl) all0) rfl
  replace G := G'; clear G'
  obtain ⟨qcp, pb, hT, spb, rfl⟩ := Qcp
  replace G := G.nov qcp
  replace hT : Str Z k5 p pb [bytV (Int32.ofNat x0), bytV (Int32.ofNat x1)] := hT
  replace G := G.astore 87 #[.val (.int i0), .val (.int i1), .val (.int i2), .val (.int i3), .val (.int (Int32.ofNat x0)), .val (.int (Int32.ofNat x1)), .val (.int (Int32.ofNat x2)), .val (.int (Int32.ofNat x3)), .val (.int (Int32.ofNat x4)), .val (.int (Int32.ofNat x5)), .val (.int (Int32.ofNat (N % 3))), .val (.ref p), .unset, .unset, .unset, .unset, .unset, .unset, .unset] at_85 rfl rfl rfl
  obtain ⟨q, k6, G', gq, sq, Eq, Xq, Dq, Uq⟩ := G.new 90 (hw _ (mm 1 rfl)) (hw _ (mm 2 rfl)) (hw _ (mm 3 rfl)) at_87 rfl (nle rfl) (nle rfl)
  replace G := G'; clear G'
  have ne_p_q : p ≠ q := ne_new gq hT.lt; have ne_pb_q : pb ≠ q := ne_new gq hT.ltb
  replace hT := hT.ext Eq
  have Fvq := Dq (Or.inr (hw _ (mm 30 rfl))) (ty := .array .byte) (by decide); have Fcq := Dq (Or.inr (hw _ (mm 28 rfl))) (ty := .byte) (by decide)
  replace G := G.dup 91 at_90 rfl rfl |>.iconst 92 (2 : Int32) at_91 rfl rfl
  obtain ⟨cq, k7, kcq, G', gcq, scq, Ecq, Acq⟩ := G.newarray 94 (hw _ (mm 4 rfl)) at_92 (by decide) 2 (nle rfl) (by decide) rfl (nle rfl) (nle rfl)
  replace G := G'; clear G'
  have ne_p_cq : p ≠ cq := ne_new gcq hT.lt; have ne_pb_cq : pb ≠ cq := ne_new gcq hT.ltb; have ne_q_cq : q ≠ cq := ne_new gcq Xq.lt
  replace hT := hT.ext Ecq; replace Xq := Xq.ext Ecq; replace Fvq := Fvq.ext Ecq; replace Fcq := Fcq.ext Ecq
  have hA := Acq.pad (vs' := [(.int 0), (.int 0)]) (pad_rep [] (.int 0) 2)
  replace G := G.dup 95 at_94 rfl rfl |>.iconst 96 (0 : Int32) at_95 rfl rfl |>.iload 98 at_96 rfl rfl
  obtain ⟨k8, G', As, Ks⟩ := G.castore 99 0 hA (by decide) rfl (nle rfl) (Or.inr scq) (mm 0 rfl) at_98 rfl
  replace G := G'; clear G'
  replace hT := hT.keep Ks (ninS ne_p_cq nin0) (ninS ne_pb_cq nin0); replace Xq := Xq.keep Ks; replace Fvq := Fvq.keep Ks (ninS ne_q_cq nin0); replace Fcq := Fcq.keep Ks (ninS ne_q_cq nin0)
  replace hA : Arv Z k8 cq kcq .char 2 [(.int (Int32.ofNat x2)), (.int 0)] (.int 0) := by have h := As; rw [show nar FieldType.char (Int32.ofNat x2) = Int32.ofNat x2 from i2c_n hx2] at h; exact h
  replace G := G.dup 100 at_99 rfl rfl |>.iconst 101 (1 : Int32) at_100 rfl rfl |>.iload 103 at_101 rfl rfl
  obtain ⟨k9, G', As, Ks⟩ := G.castore 104 1 hA (by decide) rfl (nle rfl) (Or.inr scq) (mm 0 rfl) at_103 rfl
  replace G := G'; clear G'
  replace hT := hT.keep Ks (ninS ne_p_cq nin0) (ninS ne_pb_cq nin0); replace Xq := Xq.keep Ks; replace Fvq := Fvq.keep Ks (ninS ne_q_cq nin0); replace Fcq := Fcq.keep Ks (ninS ne_q_cq nin0)
  replace hA : Arv Z k9 cq kcq .char 2 [(.int (Int32.ofNat x2)), (.int (Int32.ofNat x3))] (.int 0) := by have h := As; rw [show nar FieldType.char (Int32.ofNat x3) = Int32.ofNat x3 from i2c_n hx3] at h; exact h
  obtain ⟨vcq, k10, socq, G', Kcq, Qcq⟩ := G.callI 107 rfl rfl (hw _ (mm 5 rfl)) (hw _ (mm 6 rfl)) (hw _ (mm 3 rfl)) (hw _ (mm 7 rfl)) (by decide) [(.ref cq)] [(.ref q)] rfl (c_strC l Z a0 hw hEW n0 c1 hc1 S1 q cq kcq [Int32.ofNat x2, Int32.ofNat x3] G.old (G.nw (Or.inr sq)) Xq Fvq Fcq (nle rfl) (nle rfl) (c255s (xs := [x2, x3]) (allS hx2 (allS hx3 all0))) hA) (lenOf pd___C_V rfl) at_104 rfl (nle rfl) (nle rfl) (nle rfl) (nle rfl) (allS (Or.inr sq) all0) (allS (mm 1 rfl) all0) (allS (mm 1 rfl) all0) rfl
  replace G := G'; clear G'
  obtain ⟨qcq, qb, hQ, sqb, rfl⟩ := Qcq
  replace G := G.nov qcq
  have ne_p_qb : p ≠ qb := (ne_ge hT.lt sqb).symm; have ne_pb_qb : pb ≠ qb := (ne_ge hT.ltb sqb).symm
  replace hT := hT.keep Kcq (ninS ne_p_q nin0) (ninS ne_pb_q nin0)
  replace hQ : Str Z k10 q qb [bytV (Int32.ofNat x2), bytV (Int32.ofNat x3)] := hQ
  replace G := G.astore 109 #[.val (.int i0), .val (.int i1), .val (.int i2), .val (.int i3), .val (.int (Int32.ofNat x0)), .val (.int (Int32.ofNat x1)), .val (.int (Int32.ofNat x2)), .val (.int (Int32.ofNat x3)), .val (.int (Int32.ofNat x4)), .val (.int (Int32.ofNat x5)), .val (.int (Int32.ofNat (N % 3))), .val (.ref p), .val (.ref q), .unset, .unset, .unset, .unset, .unset, .unset] at_107 rfl rfl rfl
  obtain ⟨r, k11, G', gr, sr, Er, Xr, Dr, Ur⟩ := G.new 112 (hw _ (mm 1 rfl)) (hw _ (mm 2 rfl)) (hw _ (mm 3 rfl)) at_109 rfl (nle rfl) (nle rfl)
  replace G := G'; clear G'
  have ne_p_r : p ≠ r := ne_new gr hT.lt; have ne_pb_r : pb ≠ r := ne_new gr hT.ltb; have ne_q_r : q ≠ r := ne_new gr hQ.lt; have ne_qb_r : qb ≠ r := ne_new gr hQ.ltb
  replace hT := hT.ext Er; replace hQ := hQ.ext Er
  have Fvr := Dr (Or.inr (hw _ (mm 30 rfl))) (ty := .array .byte) (by decide); have Fcr := Dr (Or.inr (hw _ (mm 28 rfl))) (ty := .byte) (by decide)
  replace G := G.dup 113 at_112 rfl rfl |>.iconst 114 (2 : Int32) at_113 rfl rfl
  obtain ⟨cr, k12, kcr, G', gcr, scr, Ecr, Acr⟩ := G.newarray 116 (hw _ (mm 4 rfl)) at_114 (by decide) 2 (nle rfl) (by decide) rfl (nle rfl) (nle rfl)
  replace G := G'; clear G'
  have ne_p_cr : p ≠ cr := ne_new gcr hT.lt; have ne_pb_cr : pb ≠ cr := ne_new gcr hT.ltb; have ne_q_cr : q ≠ cr := ne_new gcr hQ.lt; have ne_qb_cr : qb ≠ cr := ne_new gcr hQ.ltb; have ne_r_cr : r ≠ cr := ne_new gcr Xr.lt
  replace hT := hT.ext Ecr; replace hQ := hQ.ext Ecr; replace Xr := Xr.ext Ecr; replace Fvr := Fvr.ext Ecr; replace Fcr := Fcr.ext Ecr
  have hA := Acr.pad (vs' := [(.int 0), (.int 0)]) (pad_rep [] (.int 0) 2)
  replace G := G.dup 117 at_116 rfl rfl |>.iconst 118 (0 : Int32) at_117 rfl rfl |>.iload 120 at_118 rfl rfl
  obtain ⟨k13, G', As, Ks⟩ := G.castore 121 0 hA (by decide) rfl (nle rfl) (Or.inr scr) (mm 0 rfl) at_120 rfl
  replace G := G'; clear G'
  replace hT := hT.keep Ks (ninS ne_p_cr nin0) (ninS ne_pb_cr nin0); replace hQ := hQ.keep Ks (ninS ne_q_cr nin0) (ninS ne_qb_cr nin0); replace Xr := Xr.keep Ks; replace Fvr := Fvr.keep Ks (ninS ne_r_cr nin0); replace Fcr := Fcr.keep Ks (ninS ne_r_cr nin0)
  replace hA : Arv Z k13 cr kcr .char 2 [(.int (Int32.ofNat x4)), (.int 0)] (.int 0) := by have h := As; rw [show nar FieldType.char (Int32.ofNat x4) = Int32.ofNat x4 from i2c_n hx4] at h; exact h
  replace G := G.dup 122 at_121 rfl rfl |>.iconst 123 (1 : Int32) at_122 rfl rfl |>.iload 125 at_123 rfl rfl
  obtain ⟨k14, G', As, Ks⟩ := G.castore 126 1 hA (by decide) rfl (nle rfl) (Or.inr scr) (mm 0 rfl) at_125 rfl
  replace G := G'; clear G'
  replace hT := hT.keep Ks (ninS ne_p_cr nin0) (ninS ne_pb_cr nin0); replace hQ := hQ.keep Ks (ninS ne_q_cr nin0) (ninS ne_qb_cr nin0); replace Xr := Xr.keep Ks; replace Fvr := Fvr.keep Ks (ninS ne_r_cr nin0); replace Fcr := Fcr.keep Ks (ninS ne_r_cr nin0)
  replace hA : Arv Z k14 cr kcr .char 2 [(.int (Int32.ofNat x4)), (.int (Int32.ofNat x5))] (.int 0) := by have h := As; rw [show nar FieldType.char (Int32.ofNat x5) = Int32.ofNat x5 from i2c_n hx5] at h; exact h
  obtain ⟨vcr, k15, socr, G', Kcr, Qcr⟩ := G.callI 129 rfl rfl (hw _ (mm 5 rfl)) (hw _ (mm 6 rfl)) (hw _ (mm 3 rfl)) (hw _ (mm 7 rfl)) (by decide) [(.ref cr)] [(.ref r)] rfl (c_strC l Z a0 hw hEW n0 c1 hc1 S1 r cr kcr [Int32.ofNat x4, Int32.ofNat x5] G.old (G.nw (Or.inr sr)) Xr Fvr Fcr (nle rfl) (nle rfl) (c255s (xs := [x4, x5]) (allS hx4 (allS hx5 all0))) hA) (lenOf pd___C_V rfl) at_126 rfl (nle rfl) (nle rfl) (nle rfl) (nle rfl) (allS (Or.inr sr) all0) (allS (mm 1 rfl) all0) (allS (mm 1 rfl) all0) rfl
  replace G := G'; clear G'
  obtain ⟨qcr, rb, hR, srb, rfl⟩ := Qcr
  replace G := G.nov qcr
  have ne_p_rb : p ≠ rb := (ne_ge hT.lt srb).symm; have ne_pb_rb : pb ≠ rb := (ne_ge hT.ltb srb).symm; have ne_q_rb : q ≠ rb := (ne_ge hQ.lt srb).symm; have ne_qb_rb : qb ≠ rb := (ne_ge hQ.ltb srb).symm
  replace hT := hT.keep Kcr (ninS ne_p_r nin0) (ninS ne_pb_r nin0); replace hQ := hQ.keep Kcr (ninS ne_q_r nin0) (ninS ne_qb_r nin0)
  replace hR : Str Z k15 r rb [bytV (Int32.ofNat x4), bytV (Int32.ofNat x5)] := hR
  replace G := G.astore 131 #[.val (.int i0), .val (.int i1), .val (.int i2), .val (.int i3), .val (.int (Int32.ofNat x0)), .val (.int (Int32.ofNat x1)), .val (.int (Int32.ofNat x2)), .val (.int (Int32.ofNat x3)), .val (.int (Int32.ofNat x4)), .val (.int (Int32.ofNat x5)), .val (.int (Int32.ofNat (N % 3))), .val (.ref p), .val (.ref q), .val (.ref r), .unset, .unset, .unset, .unset, .unset] at_129 rfl rfl rfl |>.bipush 133 (22 : Int32) at_131 (by decide) rfl
  obtain ⟨ea, k16, kea, G', gea, sea, Eea, Aea⟩ := G.newarray 135 (hw _ (mm 4 rfl)) at_133 (by decide) 22 (nle rfl) (by decide) rfl (nle rfl) (nle rfl)
  replace G := G'; clear G'
  have ne_p_ea : p ≠ ea := ne_new gea hT.lt; have ne_pb_ea : pb ≠ ea := ne_new gea hT.ltb; have ne_q_ea : q ≠ ea := ne_new gea hQ.lt; have ne_qb_ea : qb ≠ ea := ne_new gea hQ.ltb; have ne_r_ea : r ≠ ea := ne_new gea hR.lt; have ne_rb_ea : rb ≠ ea := ne_new gea hR.ltb
  replace hT := hT.ext Eea; replace hQ := hQ.ext Eea; replace hR := hR.ext Eea
  replace Aea : Arv Z _ ea kea .char (Int32.ofNat 22) [] (.int 0) := Aea
  replace G := G.astore 137 #[.val (.int i0), .val (.int i1), .val (.int i2), .val (.int i3), .val (.int (Int32.ofNat x0)), .val (.int (Int32.ofNat x1)), .val (.int (Int32.ofNat x2)), .val (.int (Int32.ofNat x3)), .val (.int (Int32.ofNat x4)), .val (.int (Int32.ofNat x5)), .val (.int (Int32.ofNat (N % 3))), .val (.ref p), .val (.ref q), .val (.ref r), .val (.ref ea), .unset, .unset, .unset, .unset] at_135 rfl rfl rfl |>.aload 139 at_137 rfl rfl rfl |>.iload 141 at_139 rfl rfl |>.iload 143 at_141 rfl rfl
  obtain ⟨vhea, k17, sohea, G', Khea, Qhea⟩ := G.callS 146 (hw _ (mm 31 rfl)) (hw _ (mm 32 rfl)) (hw _ (mm 33 rfl)) (hw _ (mm 34 rfl)) (by decide) [(.ref ea), (.int (Int32.ofNat x0)), (.int (Int32.ofNat x1))] [] rfl (c_head l Z a0 hw hEW n0 c1 hc1 S1 ea kea 22 x0 x1 G.old (G.nw (Or.inr sea)) (by decide) (by decide) hx0 hx1 Aea) (lenOf pd___CCC_V rfl) at_143 rfl (nle rfl) (nle rfl) (nle rfl) (nle rfl) (allS (Or.inr sea) all0) (allS (mm 0 rfl) all0) (allS (mm 0 rfl) all0) rfl
  replace G := G'; clear G'
  obtain ⟨qhea, Aea', rfl⟩ := Qhea
  replace G := G.nov qhea
  replace hT := hT.keep Khea (ninS ne_p_ea nin0) (ninS ne_pb_ea nin0); replace hQ := hQ.keep Khea (ninS ne_q_ea nin0) (ninS ne_qb_ea nin0); replace hR := hR.keep Khea (ninS ne_r_ea nin0) (ninS ne_rb_ea nin0)
  replace G := G.bipush 148 (26 : Int32) at_146 (by decide) rfl
  obtain ⟨eb, k18, keb, G', geb, seb, Eeb, Aeb⟩ := G.newarray 150 (hw _ (mm 4 rfl)) at_148 (by decide) 26 (nle rfl) (by decide) rfl (nle rfl) (nle rfl)
  replace G := G'; clear G'
  have ne_p_eb : p ≠ eb := ne_new geb hT.lt; have ne_pb_eb : pb ≠ eb := ne_new geb hT.ltb; have ne_q_eb : q ≠ eb := ne_new geb hQ.lt; have ne_qb_eb : qb ≠ eb := ne_new geb hQ.ltb; have ne_r_eb : r ≠ eb := ne_new geb hR.lt; have ne_rb_eb : rb ≠ eb := ne_new geb hR.ltb; have ne_ea_eb : ea ≠ eb := ne_new geb Aea'.lt
  replace hT := hT.ext Eeb; replace hQ := hQ.ext Eeb; replace hR := hR.ext Eeb; replace Aea' := Aea'.ext Eeb
  replace Aeb : Arv Z _ eb keb .char (Int32.ofNat 26) [] (.int 0) := Aeb
  replace G := G.astore 152 #[.val (.int i0), .val (.int i1), .val (.int i2), .val (.int i3), .val (.int (Int32.ofNat x0)), .val (.int (Int32.ofNat x1)), .val (.int (Int32.ofNat x2)), .val (.int (Int32.ofNat x3)), .val (.int (Int32.ofNat x4)), .val (.int (Int32.ofNat x5)), .val (.int (Int32.ofNat (N % 3))), .val (.ref p), .val (.ref q), .val (.ref r), .val (.ref ea), .val (.ref eb), .unset, .unset, .unset] at_150 rfl rfl rfl |>.aload 154 at_152 rfl rfl rfl |>.iload 156 at_154 rfl rfl |>.iload 158 at_156 rfl rfl
  obtain ⟨vheb, k19, soheb, G', Kheb, Qheb⟩ := G.callS 161 (hw _ (mm 31 rfl)) (hw _ (mm 32 rfl)) (hw _ (mm 33 rfl)) (hw _ (mm 34 rfl)) (by decide) [(.ref eb), (.int (Int32.ofNat x0)), (.int (Int32.ofNat x1))] [] rfl (c_head l Z a0 hw hEW n0 c1 hc1 S1 eb keb 26 x0 x1 G.old (G.nw (Or.inr seb)) (by decide) (by decide) hx0 hx1 Aeb) (lenOf pd___CCC_V rfl) at_158 rfl (nle rfl) (nle rfl) (nle rfl) (nle rfl) (allS (Or.inr seb) all0) (allS (mm 0 rfl) all0) (allS (mm 0 rfl) all0) rfl
  replace G := G'; clear G'
  obtain ⟨qheb, Aeb', rfl⟩ := Qheb
  replace G := G.nov qheb
  replace hT := hT.keep Kheb (ninS ne_p_eb nin0) (ninS ne_pb_eb nin0); replace hQ := hQ.keep Kheb (ninS ne_q_eb nin0) (ninS ne_qb_eb nin0); replace hR := hR.keep Kheb (ninS ne_r_eb nin0) (ninS ne_rb_eb nin0); replace Aea' := Aea'.keep Kheb (ninS ne_ea_eb nin0)
  replace G := G.aload 163 at_161 rfl rfl rfl |>.bipush 165 (22 : Int32) at_163 (by decide) rfl |>.iload 167 at_165 rfl rfl |>.iload 169 at_167 rfl rfl
  have leeb0 : ([Int32.ofNat x0, Int32.ofNat x1] ++ LH).length = 22 := rfl
  replace G := G.cast (S' := [(.int (Int32.ofNat x3)), (.int (Int32.ofNat x2)), (.int (Int32.ofNat ([Int32.ofNat x0, Int32.ofNat x1] ++ LH).length)), (.ref eb)]) rfl rfl
  obtain ⟨vmeb0, k20, someb0, G', Kmeb0, Qmeb0⟩ := G.callS 172 (hw _ (mm 35 rfl)) (hw _ (mm 36 rfl)) (hw _ (mm 33 rfl)) (hw _ (mm 37 rfl)) (by decide) [(.ref eb), (.int (Int32.ofNat ([Int32.ofNat x0, Int32.ofNat x1] ++ LH).length)), (.int (Int32.ofNat x2)), (.int (Int32.ofNat x3))] [] rfl (c_param l Z a0 hw hEW n0 c1 hc1 S1 eb keb 26 x2 x3 ([Int32.ofNat x0, Int32.ofNat x1] ++ LH) G.old (G.nw (Or.inr seb)) (by rw [leeb0]; decide) (by decide) hx2 hx3 Aeb') (lenOf pd___CICC_V rfl) at_169 rfl (nle rfl) (nle rfl) (nle rfl) (nle rfl) (allS (Or.inr seb) all0) (allS (mm 0 rfl) all0) (allS (mm 0 rfl) all0) rfl
  replace G := G'; clear G'
  obtain ⟨qmeb0, Aebn, rfl⟩ := Qmeb0
  replace G := G.nov qmeb0
  replace hT := hT.keep Kmeb0 (ninS ne_p_eb nin0) (ninS ne_pb_eb nin0); replace hQ := hQ.keep Kmeb0 (ninS ne_q_eb nin0) (ninS ne_qb_eb nin0); replace hR := hR.keep Kmeb0 (ninS ne_r_eb nin0) (ninS ne_rb_eb nin0); replace Aea' := Aea'.keep Kmeb0 (ninS ne_ea_eb nin0)
  clear Aeb'; have Aeb' := Aebn; clear Aebn
  replace G := G.bipush 174 (30 : Int32) at_172 (by decide) rfl
  obtain ⟨ec, k21, kec, G', gec, sec, Eec, Aec⟩ := G.newarray 176 (hw _ (mm 4 rfl)) at_174 (by decide) 30 (nle rfl) (by decide) rfl (nle rfl) (nle rfl)
  replace G := G'; clear G'
  have ne_p_ec : p ≠ ec := ne_new gec hT.lt; have ne_pb_ec : pb ≠ ec := ne_new gec hT.ltb; have ne_q_ec : q ≠ ec := ne_new gec hQ.lt; have ne_qb_ec : qb ≠ ec := ne_new gec hQ.ltb; have ne_r_ec : r ≠ ec := ne_new gec hR.lt; have ne_rb_ec : rb ≠ ec := ne_new gec hR.ltb; have ne_ea_ec : ea ≠ ec := ne_new gec Aea'.lt; have ne_eb_ec : eb ≠ ec := ne_new gec Aeb'.lt
  replace hT := hT.ext Eec; replace hQ := hQ.ext Eec; replace hR := hR.ext Eec; replace Aea' := Aea'.ext Eec; replace Aeb' := Aeb'.ext Eec
  replace Aec : Arv Z _ ec kec .char (Int32.ofNat 30) [] (.int 0) := Aec
  replace G := G.astore 178 #[.val (.int i0), .val (.int i1), .val (.int i2), .val (.int i3), .val (.int (Int32.ofNat x0)), .val (.int (Int32.ofNat x1)), .val (.int (Int32.ofNat x2)), .val (.int (Int32.ofNat x3)), .val (.int (Int32.ofNat x4)), .val (.int (Int32.ofNat x5)), .val (.int (Int32.ofNat (N % 3))), .val (.ref p), .val (.ref q), .val (.ref r), .val (.ref ea), .val (.ref eb), .val (.ref ec), .unset, .unset] at_176 rfl rfl rfl |>.aload 180 at_178 rfl rfl rfl |>.iload 182 at_180 rfl rfl |>.iload 184 at_182 rfl rfl
  obtain ⟨vhec, k22, sohec, G', Khec, Qhec⟩ := G.callS 187 (hw _ (mm 31 rfl)) (hw _ (mm 32 rfl)) (hw _ (mm 33 rfl)) (hw _ (mm 34 rfl)) (by decide) [(.ref ec), (.int (Int32.ofNat x0)), (.int (Int32.ofNat x1))] [] rfl (c_head l Z a0 hw hEW n0 c1 hc1 S1 ec kec 30 x0 x1 G.old (G.nw (Or.inr sec)) (by decide) (by decide) hx0 hx1 Aec) (lenOf pd___CCC_V rfl) at_184 rfl (nle rfl) (nle rfl) (nle rfl) (nle rfl) (allS (Or.inr sec) all0) (allS (mm 0 rfl) all0) (allS (mm 0 rfl) all0) rfl
  replace G := G'; clear G'
  obtain ⟨qhec, Aec', rfl⟩ := Qhec
  replace G := G.nov qhec
  replace hT := hT.keep Khec (ninS ne_p_ec nin0) (ninS ne_pb_ec nin0); replace hQ := hQ.keep Khec (ninS ne_q_ec nin0) (ninS ne_qb_ec nin0); replace hR := hR.keep Khec (ninS ne_r_ec nin0) (ninS ne_rb_ec nin0); replace Aea' := Aea'.keep Khec (ninS ne_ea_ec nin0); replace Aeb' := Aeb'.keep Khec (ninS ne_eb_ec nin0)
  replace G := G.aload 189 at_187 rfl rfl rfl |>.bipush 191 (22 : Int32) at_189 (by decide) rfl |>.iload 193 at_191 rfl rfl |>.iload 195 at_193 rfl rfl
  have leec0 : ([Int32.ofNat x0, Int32.ofNat x1] ++ LH).length = 22 := rfl
  replace G := G.cast (S' := [(.int (Int32.ofNat x3)), (.int (Int32.ofNat x2)), (.int (Int32.ofNat ([Int32.ofNat x0, Int32.ofNat x1] ++ LH).length)), (.ref ec)]) rfl rfl
  obtain ⟨vmec0, k23, somec0, G', Kmec0, Qmec0⟩ := G.callS 198 (hw _ (mm 35 rfl)) (hw _ (mm 36 rfl)) (hw _ (mm 33 rfl)) (hw _ (mm 37 rfl)) (by decide) [(.ref ec), (.int (Int32.ofNat ([Int32.ofNat x0, Int32.ofNat x1] ++ LH).length)), (.int (Int32.ofNat x2)), (.int (Int32.ofNat x3))] [] rfl (c_param l Z a0 hw hEW n0 c1 hc1 S1 ec kec 30 x2 x3 ([Int32.ofNat x0, Int32.ofNat x1] ++ LH) G.old (G.nw (Or.inr sec)) (by rw [leec0]; decide) (by decide) hx2 hx3 Aec') (lenOf pd___CICC_V rfl) at_195 rfl (nle rfl) (nle rfl) (nle rfl) (nle rfl) (allS (Or.inr sec) all0) (allS (mm 0 rfl) all0) (allS (mm 0 rfl) all0) rfl
  replace G := G'; clear G'
  obtain ⟨qmec0, Aecn, rfl⟩ := Qmec0
  replace G := G.nov qmec0
  replace hT := hT.keep Kmec0 (ninS ne_p_ec nin0) (ninS ne_pb_ec nin0); replace hQ := hQ.keep Kmec0 (ninS ne_q_ec nin0) (ninS ne_qb_ec nin0); replace hR := hR.keep Kmec0 (ninS ne_r_ec nin0) (ninS ne_rb_ec nin0); replace Aea' := Aea'.keep Kmec0 (ninS ne_ea_ec nin0); replace Aeb' := Aeb'.keep Kmec0 (ninS ne_eb_ec nin0)
  clear Aec'; have Aec' := Aecn; clear Aecn
  replace G := G.aload 200 at_198 rfl rfl rfl |>.bipush 202 (26 : Int32) at_200 (by decide) rfl |>.iload 204 at_202 rfl rfl |>.iload 206 at_204 rfl rfl
  have leec1 : (([Int32.ofNat x0, Int32.ofNat x1] ++ LH) ++ ([44, 32] ++ [Int32.ofNat x2, Int32.ofNat x3])).length = 26 := rfl
  replace G := G.cast (S' := [(.int (Int32.ofNat x5)), (.int (Int32.ofNat x4)), (.int (Int32.ofNat (([Int32.ofNat x0, Int32.ofNat x1] ++ LH) ++ ([44, 32] ++ [Int32.ofNat x2, Int32.ofNat x3])).length)), (.ref ec)]) rfl rfl
  obtain ⟨vmec1, k24, somec1, G', Kmec1, Qmec1⟩ := G.callS 209 (hw _ (mm 35 rfl)) (hw _ (mm 36 rfl)) (hw _ (mm 33 rfl)) (hw _ (mm 37 rfl)) (by decide) [(.ref ec), (.int (Int32.ofNat (([Int32.ofNat x0, Int32.ofNat x1] ++ LH) ++ ([44, 32] ++ [Int32.ofNat x2, Int32.ofNat x3])).length)), (.int (Int32.ofNat x4)), (.int (Int32.ofNat x5))] [] rfl (c_param l Z a0 hw hEW n0 c1 hc1 S1 ec kec 30 x4 x5 (([Int32.ofNat x0, Int32.ofNat x1] ++ LH) ++ ([44, 32] ++ [Int32.ofNat x2, Int32.ofNat x3])) G.old (G.nw (Or.inr sec)) (by rw [leec1]; decide) (by decide) hx4 hx5 Aec') (lenOf pd___CICC_V rfl) at_206 rfl (nle rfl) (nle rfl) (nle rfl) (nle rfl) (allS (Or.inr sec) all0) (allS (mm 0 rfl) all0) (allS (mm 0 rfl) all0) rfl
  replace G := G'; clear G'
  obtain ⟨qmec1, Aecn, rfl⟩ := Qmec1
  replace G := G.nov qmec1
  replace hT := hT.keep Kmec1 (ninS ne_p_ec nin0) (ninS ne_pb_ec nin0); replace hQ := hQ.keep Kmec1 (ninS ne_q_ec nin0) (ninS ne_qb_ec nin0); replace hR := hR.keep Kmec1 (ninS ne_r_ec nin0) (ninS ne_rb_ec nin0); replace Aea' := Aea'.keep Kmec1 (ninS ne_ea_ec nin0); replace Aeb' := Aeb'.keep Kmec1 (ninS ne_eb_ec nin0)
  clear Aec'; have Aec' := Aecn; clear Aecn
  replace G := G.iload 211 at_209 rfl rfl
  have hm : N % 3 = 0 ∨ N % 3 = 1 ∨ N % 3 = 2 := by omega
  rcases hm with hm | hm | hm <;> rw [hm] at G
  · skip
    replace G := G.ifF 214 at_211 (XT.i0_ne_f rfl) rfl |>.aload 216 at_214 rfl rfl rfl |>.iconst 217 (0 : Int32) at_216 rfl rfl
    obtain ⟨pa, k25, kpa, G', gpa, spa, Epa, Apa, Opa⟩ := G.anewR 220 (hw _ (mm 1 rfl)) (hw _ (mm 38 rfl)) at_217 (by decide) 2 (nle rfl) (by decide) rfl (nle rfl) (nle rfl)
    replace G := G'; clear G'
    have ne_p_pa : p ≠ pa := ne_new gpa hT.lt; have ne_pb_pa : pb ≠ pa := ne_new gpa hT.ltb; have ne_q_pa : q ≠ pa := ne_new gpa hQ.lt; have ne_qb_pa : qb ≠ pa := ne_new gpa hQ.ltb; have ne_r_pa : r ≠ pa := ne_new gpa hR.lt; have ne_rb_pa : rb ≠ pa := ne_new gpa hR.ltb; have ne_ea_pa : ea ≠ pa := ne_new gpa Aea'.lt; have ne_eb_pa : eb ≠ pa := ne_new gpa Aeb'.lt; have ne_ec_pa : ec ≠ pa := ne_new gpa Aec'.lt
    replace hT := hT.ext Epa; replace hQ := hQ.ext Epa; replace hR := hR.ext Epa; replace Aea' := Aea'.ext Epa; replace Aeb' := Aeb'.ext Epa; replace Aec' := Aec'.ext Epa
    have hAp : Arv Z k25 pa kpa (.object "java/lang/String") (0 : Int32) [] .null := Apa
    have szc := G.sz
    obtain ⟨vr, k26, sor, G', Kr, Qr⟩ := G.callS 223 (hw _ (mm 39 rfl)) (hw _ (mm 40 rfl)) (hw _ (mm 41 rfl)) (hw _ (mm 42 rfl)) (by decide) [(.ref p), (.ref pa)] [] rfl (c_ch0 l Z a0 hw hEW n0 c1 hc1 S1 p pb pa kpa [bytV (Int32.ofNat x0), bytV (Int32.ofNat x1)]  G.old rfl hT hAp) (lenOf pd__Ljava_lang_String__Ljava_lang_String__Ljava_lang_String_ rfl) at_220 rfl (nle rfl) (nle rfl) (nle rfl) (nle rfl) all0 all0 all0 rfl
    replace G := G'; clear G'
    obtain ⟨wr, qr, ra, rab, rfl, hRes, r1, r2, rfl⟩ := Qr
    replace G := G.val qr
    replace Aea' := Aea'.keep Kr nin0
    replace G := G.astore 225 #[.val (.int i0), .val (.int i1), .val (.int i2), .val (.int i3), .val (.int (Int32.ofNat x0)), .val (.int (Int32.ofNat x1)), .val (.int (Int32.ofNat x2)), .val (.int (Int32.ofNat x3)), .val (.int (Int32.ofNat x4)), .val (.int (Int32.ofNat x5)), .val (.int (Int32.ofNat 0)), .val (.ref p), .val (.ref q), .val (.ref r), .val (.ref ea), .val (.ref eb), .val (.ref ec), .val (.ref ra), .unset] at_223 rfl rfl rfl
    obtain ⟨sa, k27, G', gsa, ssa, Esa, Xsa, Dsa, Usa⟩ := G.new 228 (hw _ (mm 1 rfl)) (hw _ (mm 2 rfl)) (hw _ (mm 3 rfl)) at_225 rfl (nle rfl) (nle rfl)
    replace G := G'; clear G'
    have ne_ea_sa : ea ≠ sa := ne_new gsa Aea'.lt; have ne_ra_sa : ra ≠ sa := ne_new gsa hRes.lt; have ne_rab_sa : rab ≠ sa := ne_new gsa hRes.ltb
    replace Aea' := Aea'.ext Esa; replace hRes := hRes.ext Esa
    have Fvsa := Dsa (Or.inr (hw _ (mm 30 rfl))) (ty := .array .byte) (by decide); have Fcsa := Dsa (Or.inr (hw _ (mm 28 rfl))) (ty := .byte) (by decide)
    replace G := G.dup 229 at_228 rfl rfl |>.aload 231 at_229 rfl rfl rfl
    have hcl : ([Int32.ofNat x0, Int32.ofNat x1] ++ LH).length = 22 := rfl
    replace Aea' : Arv Z _ ea kea .char (Int32.ofNat ([Int32.ofNat x0, Int32.ofNat x1] ++ LH).length) (([Int32.ofNat x0, Int32.ofNat x1] ++ LH).map Value.int) (.int 0) := Aea'
    obtain ⟨vw, k28, sow, G', Kw, Qw⟩ := G.callI 234 rfl rfl (hw _ (mm 5 rfl)) (hw _ (mm 6 rfl)) (hw _ (mm 3 rfl)) (hw _ (mm 7 rfl)) (by decide) [(.ref ea)] [(.ref sa)] rfl (c_strC l Z a0 hw hEW n0 c1 hc1 S1 sa ea kea ([Int32.ofNat x0, Int32.ofNat x1] ++ LH) G.old (G.nw (Or.inr ssa)) Xsa Fvsa Fcsa (by rw [hcl]; decide) (by rw [hcl]; decide) (mem_app (c255s (xs := [x0, x1]) (allS hx0 (allS hx1 all0))) LH_c) Aea') (lenOf pd___C_V rfl) at_231 rfl (nle rfl) (nle rfl) (nle rfl) (nle rfl) (allS (Or.inr ssa) all0) (allS (mm 0 rfl) all0) (allS (mm 0 rfl) all0) rfl
    replace G := G'; clear G'
    obtain ⟨qw, sb, hW, ssb, rfl⟩ := Qw
    replace G := G.nov qw
    replace hRes := hRes.keep Kw (ninS ne_ra_sa nin0) (ninS ne_rab_sa nin0)
    have hkey : ([Int32.ofNat x0, Int32.ofNat x1] ++ LH).map bytV = ((([bytV (Int32.ofNat x0), bytV (Int32.ofNat x1)] ++ [Value.int (32 : Int32), Value.int (114 : Int32), Value.int (101 : Int32), Value.int (97 : Int32), Value.int (108 : Int32), Value.int (109 : Int32), Value.int (61 : Int32), Value.int (34 : Int32)]) ++ [Value.int (111 : Int32), Value.int (97 : Int32), Value.int (116 : Int32), Value.int (104 : Int32), Value.int (45 : Int32), Value.int (98 : Int32), Value.int (101 : Int32), Value.int (97 : Int32), Value.int (114 : Int32), Value.int (101 : Int32), Value.int (114 : Int32)]) ++ [bytV 34]) := by simp only [List.map_append, LH_b, sep_b, List.map_cons, List.map_nil, List.append_assoc] <;> rfl
    rw [← hkey] at hRes
    replace G := G.astore 236 #[.val (.int i0), .val (.int i1), .val (.int i2), .val (.int i3), .val (.int (Int32.ofNat x0)), .val (.int (Int32.ofNat x1)), .val (.int (Int32.ofNat x2)), .val (.int (Int32.ofNat x3)), .val (.int (Int32.ofNat x4)), .val (.int (Int32.ofNat x5)), .val (.int (Int32.ofNat 0)), .val (.ref p), .val (.ref q), .val (.ref r), .val (.ref ea), .val (.ref eb), .val (.ref ec), .val (.ref ra), .val (.ref sa)] at_234 rfl rfl rfl |>.goto 307 at_236 (by decide) (by decide) |>.aload 309 at_307 rfl rfl rfl |>.aload 311 at_309 rfl rfl rfl
    obtain ⟨vqq, k_8, soqq, G', Kqq, Qqq⟩ := G.callV 314 (hw _ (mm 195 rfl)) (hw _ (mm 196 rfl)) (nfSel (hw _ (mm 198 rfl))) (hw _ (mm 198 rfl)) (hw _ (mm 197 rfl)) (hw _ (mm 3 rfl)) (hw _ (mm 199 rfl)) hW.1 (by decide) [(.ref ra)] [] rfl (c_equals l Z a0 hw hEW n0 c1 hc1 S1 sa sb ra rab (([Int32.ofNat x0, Int32.ofNat x1] ++ LH).map bytV) G.old (fun q => ne_ra_sa q.symm) (by rw [List.length_map, hcl]; decide) (fun i hi => ⟨_, getD_mapB _ i (by rw [List.length_map] at hi; exact hi)⟩) hW hRes) (lenOf pd__Ljava_lang_Object__Z rfl) at_311 rfl (nle rfl) (nle rfl) (nle rfl) (nle rfl) all0 all0 all0 rfl
    replace G := G'; clear G'
    obtain ⟨wqq, qqq, rfl, eqq, rfl⟩ := Qqq
    replace G := G.val qqq
    subst eqq
    exact G.retN hret (Or.inl rfl) hlk at_314 [] all0 ⟨_, rfl, rfl, rfl⟩ (nle rfl) (nle rfl)
  · skip
    replace G := G.ifT 239 at_211 (XT.i0_ne_t (by decide)) (by decide) (by decide) |>.iload 241 at_239 rfl rfl |>.iconst 242 (1 : Int32) at_241 rfl rfl |>.icmpF 245 at_242 (XT.ii_ne_f rfl) rfl |>.aload 247 at_245 rfl rfl rfl |>.iconst 248 (1 : Int32) at_247 rfl rfl
    obtain ⟨pa, k25, kpa, G', gpa, spa, Epa, Apa, Opa⟩ := G.anewR 251 (hw _ (mm 1 rfl)) (hw _ (mm 38 rfl)) at_248 (by decide) 2 (nle rfl) (by decide) rfl (nle rfl) (nle rfl)
    replace G := G'; clear G'
    have ne_p_pa : p ≠ pa := ne_new gpa hT.lt; have ne_pb_pa : pb ≠ pa := ne_new gpa hT.ltb; have ne_q_pa : q ≠ pa := ne_new gpa hQ.lt; have ne_qb_pa : qb ≠ pa := ne_new gpa hQ.ltb; have ne_r_pa : r ≠ pa := ne_new gpa hR.lt; have ne_rb_pa : rb ≠ pa := ne_new gpa hR.ltb; have ne_ea_pa : ea ≠ pa := ne_new gpa Aea'.lt; have ne_eb_pa : eb ≠ pa := ne_new gpa Aeb'.lt; have ne_ec_pa : ec ≠ pa := ne_new gpa Aec'.lt
    replace hT := hT.ext Epa; replace hQ := hQ.ext Epa; replace hR := hR.ext Epa; replace Aea' := Aea'.ext Epa; replace Aeb' := Aeb'.ext Epa; replace Aec' := Aec'.ext Epa
    have hAp : Arv Z k25 pa kpa (.object "java/lang/String") (1 : Int32) [.null] .null := Apa.pad (pad_rep [] .null 1)
    replace G := G.dup 252 at_251 rfl rfl |>.iconst 253 (0 : Int32) at_252 rfl rfl |>.aload 255 at_253 rfl rfl rfl
    obtain ⟨k26, G', As, Ks⟩ := G.aastore 256 0 hAp Opa (Ins.self hQ.1) (by decide) rfl (nle rfl) (Or.inr spa) (mm 0 rfl) at_255 rfl
    replace G := G'; clear G'
    replace hT := hT.keep Ks (ninS ne_p_pa nin0) (ninS ne_pb_pa nin0); replace hQ := hQ.keep Ks (ninS ne_q_pa nin0) (ninS ne_qb_pa nin0); replace hR := hR.keep Ks (ninS ne_r_pa nin0) (ninS ne_rb_pa nin0); replace Aea' := Aea'.keep Ks (ninS ne_ea_pa nin0); replace Aeb' := Aeb'.keep Ks (ninS ne_eb_pa nin0); replace Aec' := Aec'.keep Ks (ninS ne_ec_pa nin0)
    replace hAp : Arv Z k26 pa kpa (.object "java/lang/String") (1 : Int32) [.ref q] .null := As
    have szc := G.sz
    obtain ⟨vr, k27, sor, G', Kr, Qr⟩ := G.callS 259 (hw _ (mm 39 rfl)) (hw _ (mm 40 rfl)) (hw _ (mm 41 rfl)) (hw _ (mm 42 rfl)) (by decide) [(.ref p), (.ref pa)] [] rfl (c_ch1 l Z a0 hw hEW n0 c1 hc1 S1 p pb pa kpa q qb [bytV (Int32.ofNat x0), bytV (Int32.ofNat x1)] [bytV (Int32.ofNat x2), bytV (Int32.ofNat x3)] G.old rfl rfl hT hQ hAp) (lenOf pd__Ljava_lang_String__Ljava_lang_String__Ljava_lang_String_ rfl) at_256 rfl (nle rfl) (nle rfl) (nle rfl) (nle rfl) all0 all0 all0 rfl
    replace G := G'; clear G'
    obtain ⟨wr, qr, ra, rab, rfl, hRes, r1, r2, rfl⟩ := Qr
    replace G := G.val qr
    replace Aeb' := Aeb'.keep Kr nin0
    replace G := G.astore 261 #[.val (.int i0), .val (.int i1), .val (.int i2), .val (.int i3), .val (.int (Int32.ofNat x0)), .val (.int (Int32.ofNat x1)), .val (.int (Int32.ofNat x2)), .val (.int (Int32.ofNat x3)), .val (.int (Int32.ofNat x4)), .val (.int (Int32.ofNat x5)), .val (.int (Int32.ofNat 1)), .val (.ref p), .val (.ref q), .val (.ref r), .val (.ref ea), .val (.ref eb), .val (.ref ec), .val (.ref ra), .unset] at_259 rfl rfl rfl
    obtain ⟨sa, k28, G', gsa, ssa, Esa, Xsa, Dsa, Usa⟩ := G.new 264 (hw _ (mm 1 rfl)) (hw _ (mm 2 rfl)) (hw _ (mm 3 rfl)) at_261 rfl (nle rfl) (nle rfl)
    replace G := G'; clear G'
    have ne_eb_sa : eb ≠ sa := ne_new gsa Aeb'.lt; have ne_ra_sa : ra ≠ sa := ne_new gsa hRes.lt; have ne_rab_sa : rab ≠ sa := ne_new gsa hRes.ltb
    replace Aeb' := Aeb'.ext Esa; replace hRes := hRes.ext Esa
    have Fvsa := Dsa (Or.inr (hw _ (mm 30 rfl))) (ty := .array .byte) (by decide); have Fcsa := Dsa (Or.inr (hw _ (mm 28 rfl))) (ty := .byte) (by decide)
    replace G := G.dup 265 at_264 rfl rfl |>.aload 267 at_265 rfl rfl rfl
    have hcl : (([Int32.ofNat x0, Int32.ofNat x1] ++ LH) ++ ([44, 32] ++ [Int32.ofNat x2, Int32.ofNat x3])).length = 26 := rfl
    replace Aeb' : Arv Z _ eb keb .char (Int32.ofNat (([Int32.ofNat x0, Int32.ofNat x1] ++ LH) ++ ([44, 32] ++ [Int32.ofNat x2, Int32.ofNat x3])).length) ((([Int32.ofNat x0, Int32.ofNat x1] ++ LH) ++ ([44, 32] ++ [Int32.ofNat x2, Int32.ofNat x3])).map Value.int) (.int 0) := Aeb'
    obtain ⟨vw, k29, sow, G', Kw, Qw⟩ := G.callI 270 rfl rfl (hw _ (mm 5 rfl)) (hw _ (mm 6 rfl)) (hw _ (mm 3 rfl)) (hw _ (mm 7 rfl)) (by decide) [(.ref eb)] [(.ref sa)] rfl (c_strC l Z a0 hw hEW n0 c1 hc1 S1 sa eb keb (([Int32.ofNat x0, Int32.ofNat x1] ++ LH) ++ ([44, 32] ++ [Int32.ofNat x2, Int32.ofNat x3])) G.old (G.nw (Or.inr ssa)) Xsa Fvsa Fcsa (by rw [hcl]; decide) (by rw [hcl]; decide) (mem_app (mem_app (c255s (xs := [x0, x1]) (allS hx0 (allS hx1 all0))) LH_c) (mem_app (by decide +kernel) (c255s (xs := [x2, x3]) (allS hx2 (allS hx3 all0))))) Aeb') (lenOf pd___C_V rfl) at_267 rfl (nle rfl) (nle rfl) (nle rfl) (nle rfl) (allS (Or.inr ssa) all0) (allS (mm 0 rfl) all0) (allS (mm 0 rfl) all0) rfl
    replace G := G'; clear G'
    obtain ⟨qw, sb, hW, ssb, rfl⟩ := Qw
    replace G := G.nov qw
    replace hRes := hRes.keep Kw (ninS ne_ra_sa nin0) (ninS ne_rab_sa nin0)
    have hkey : (([Int32.ofNat x0, Int32.ofNat x1] ++ LH) ++ ([44, 32] ++ [Int32.ofNat x2, Int32.ofNat x3])).map bytV = ((((([bytV (Int32.ofNat x0), bytV (Int32.ofNat x1)] ++ [Value.int (32 : Int32), Value.int (114 : Int32), Value.int (101 : Int32), Value.int (97 : Int32), Value.int (108 : Int32), Value.int (109 : Int32), Value.int (61 : Int32), Value.int (34 : Int32)]) ++ [Value.int (111 : Int32), Value.int (97 : Int32), Value.int (116 : Int32), Value.int (104 : Int32), Value.int (45 : Int32), Value.int (98 : Int32), Value.int (101 : Int32), Value.int (97 : Int32), Value.int (114 : Int32), Value.int (101 : Int32), Value.int (114 : Int32)]) ++ [bytV 34]) ++ [Value.int (44 : Int32), Value.int (32 : Int32)]) ++ [bytV (Int32.ofNat x2), bytV (Int32.ofNat x3)]) := by simp only [List.map_append, LH_b, sep_b, List.map_cons, List.map_nil, List.append_assoc] <;> rfl
    rw [← hkey] at hRes
    replace G := G.astore 272 #[.val (.int i0), .val (.int i1), .val (.int i2), .val (.int i3), .val (.int (Int32.ofNat x0)), .val (.int (Int32.ofNat x1)), .val (.int (Int32.ofNat x2)), .val (.int (Int32.ofNat x3)), .val (.int (Int32.ofNat x4)), .val (.int (Int32.ofNat x5)), .val (.int (Int32.ofNat 1)), .val (.ref p), .val (.ref q), .val (.ref r), .val (.ref ea), .val (.ref eb), .val (.ref ec), .val (.ref ra), .val (.ref sa)] at_270 rfl rfl rfl |>.goto 307 at_272 (by decide) (by decide) |>.aload 309 at_307 rfl rfl rfl |>.aload 311 at_309 rfl rfl rfl
    obtain ⟨vqq, k_8, soqq, G', Kqq, Qqq⟩ := G.callV 314 (hw _ (mm 195 rfl)) (hw _ (mm 196 rfl)) (nfSel (hw _ (mm 198 rfl))) (hw _ (mm 198 rfl)) (hw _ (mm 197 rfl)) (hw _ (mm 3 rfl)) (hw _ (mm 199 rfl)) hW.1 (by decide) [(.ref ra)] [] rfl (c_equals l Z a0 hw hEW n0 c1 hc1 S1 sa sb ra rab ((([Int32.ofNat x0, Int32.ofNat x1] ++ LH) ++ ([44, 32] ++ [Int32.ofNat x2, Int32.ofNat x3])).map bytV) G.old (fun q => ne_ra_sa q.symm) (by rw [List.length_map, hcl]; decide) (fun i hi => ⟨_, getD_mapB _ i (by rw [List.length_map] at hi; exact hi)⟩) hW hRes) (lenOf pd__Ljava_lang_Object__Z rfl) at_311 rfl (nle rfl) (nle rfl) (nle rfl) (nle rfl) all0 all0 all0 rfl
    replace G := G'; clear G'
    obtain ⟨wqq, qqq, rfl, eqq, rfl⟩ := Qqq
    replace G := G.val qqq
    subst eqq
    exact G.retN hret (Or.inl rfl) hlk at_314 [] all0 ⟨_, rfl, rfl, rfl⟩ (nle rfl) (nle rfl)
  · skip
    replace G := G.ifT 239 at_211 (XT.i0_ne_t (by decide)) (by decide) (by decide) |>.iload 241 at_239 rfl rfl |>.iconst 242 (1 : Int32) at_241 rfl rfl |>.icmpT 275 at_242 (XT.ii_ne_t (by decide)) (by decide) (by decide) |>.aload 277 at_275 rfl rfl rfl |>.iconst 278 (2 : Int32) at_277 rfl rfl
    obtain ⟨pa, k25, kpa, G', gpa, spa, Epa, Apa, Opa⟩ := G.anewR 281 (hw _ (mm 1 rfl)) (hw _ (mm 38 rfl)) at_278 (by decide) 2 (nle rfl) (by decide) rfl (nle rfl) (nle rfl)
    replace G := G'; clear G'
    have ne_p_pa : p ≠ pa := ne_new gpa hT.lt; have ne_pb_pa : pb ≠ pa := ne_new gpa hT.ltb; have ne_q_pa : q ≠ pa := ne_new gpa hQ.lt; have ne_qb_pa : qb ≠ pa := ne_new gpa hQ.ltb; have ne_r_pa : r ≠ pa := ne_new gpa hR.lt; have ne_rb_pa : rb ≠ pa := ne_new gpa hR.ltb; have ne_ea_pa : ea ≠ pa := ne_new gpa Aea'.lt; have ne_eb_pa : eb ≠ pa := ne_new gpa Aeb'.lt; have ne_ec_pa : ec ≠ pa := ne_new gpa Aec'.lt
    replace hT := hT.ext Epa; replace hQ := hQ.ext Epa; replace hR := hR.ext Epa; replace Aea' := Aea'.ext Epa; replace Aeb' := Aeb'.ext Epa; replace Aec' := Aec'.ext Epa
    have hAp : Arv Z k25 pa kpa (.object "java/lang/String") (2 : Int32) [.null, .null] .null := Apa.pad (pad_rep [] .null 2)
    replace G := G.dup 282 at_281 rfl rfl |>.iconst 283 (0 : Int32) at_282 rfl rfl |>.aload 285 at_283 rfl rfl rfl
    obtain ⟨k26, G', As, Ks⟩ := G.aastore 286 0 hAp Opa (Ins.self hQ.1) (by decide) rfl (nle rfl) (Or.inr spa) (mm 0 rfl) at_285 rfl
    replace G := G'; clear G'
    replace hT := hT.keep Ks (ninS ne_p_pa nin0) (ninS ne_pb_pa nin0); replace hQ := hQ.keep Ks (ninS ne_q_pa nin0) (ninS ne_qb_pa nin0); replace hR := hR.keep Ks (ninS ne_r_pa nin0) (ninS ne_rb_pa nin0); replace Aea' := Aea'.keep Ks (ninS ne_ea_pa nin0); replace Aeb' := Aeb'.keep Ks (ninS ne_eb_pa nin0); replace Aec' := Aec'.keep Ks (ninS ne_ec_pa nin0)
    replace hAp : Arv Z k26 pa kpa (.object "java/lang/String") (2 : Int32) [.ref q, .null] .null := As
    replace G := G.dup 287 at_286 rfl rfl |>.iconst 288 (1 : Int32) at_287 rfl rfl |>.aload 290 at_288 rfl rfl rfl
    obtain ⟨k27, G', As, Ks⟩ := G.aastore 291 1 hAp Opa (Ins.self hR.1) (by decide) rfl (nle rfl) (Or.inr spa) (mm 0 rfl) at_290 rfl
    replace G := G'; clear G'
    replace hT := hT.keep Ks (ninS ne_p_pa nin0) (ninS ne_pb_pa nin0); replace hQ := hQ.keep Ks (ninS ne_q_pa nin0) (ninS ne_qb_pa nin0); replace hR := hR.keep Ks (ninS ne_r_pa nin0) (ninS ne_rb_pa nin0); replace Aea' := Aea'.keep Ks (ninS ne_ea_pa nin0); replace Aeb' := Aeb'.keep Ks (ninS ne_eb_pa nin0); replace Aec' := Aec'.keep Ks (ninS ne_ec_pa nin0)
    replace hAp : Arv Z k27 pa kpa (.object "java/lang/String") (2 : Int32) [.ref q, .ref r] .null := As
    have szc := G.sz
    obtain ⟨vr, k28, sor, G', Kr, Qr⟩ := G.callS 294 (hw _ (mm 39 rfl)) (hw _ (mm 40 rfl)) (hw _ (mm 41 rfl)) (hw _ (mm 42 rfl)) (by decide) [(.ref p), (.ref pa)] [] rfl (c_ch2 l Z a0 hw hEW n0 c1 hc1 S1 p pb pa kpa q qb r rb [bytV (Int32.ofNat x0), bytV (Int32.ofNat x1)] [bytV (Int32.ofNat x2), bytV (Int32.ofNat x3)] [bytV (Int32.ofNat x4), bytV (Int32.ofNat x5)] G.old rfl rfl rfl hT hQ hR hAp) (lenOf pd__Ljava_lang_String__Ljava_lang_String__Ljava_lang_String_ rfl) at_291 rfl (nle rfl) (nle rfl) (nle rfl) (nle rfl) all0 all0 all0 rfl
    replace G := G'; clear G'
    obtain ⟨wr, qr, ra, rab, rfl, hRes, r1, r2, rfl⟩ := Qr
    replace G := G.val qr
    replace Aec' := Aec'.keep Kr nin0
    replace G := G.astore 296 #[.val (.int i0), .val (.int i1), .val (.int i2), .val (.int i3), .val (.int (Int32.ofNat x0)), .val (.int (Int32.ofNat x1)), .val (.int (Int32.ofNat x2)), .val (.int (Int32.ofNat x3)), .val (.int (Int32.ofNat x4)), .val (.int (Int32.ofNat x5)), .val (.int (Int32.ofNat 2)), .val (.ref p), .val (.ref q), .val (.ref r), .val (.ref ea), .val (.ref eb), .val (.ref ec), .val (.ref ra), .unset] at_294 rfl rfl rfl
    obtain ⟨sa, k29, G', gsa, ssa, Esa, Xsa, Dsa, Usa⟩ := G.new 299 (hw _ (mm 1 rfl)) (hw _ (mm 2 rfl)) (hw _ (mm 3 rfl)) at_296 rfl (nle rfl) (nle rfl)
    replace G := G'; clear G'
    have ne_ec_sa : ec ≠ sa := ne_new gsa Aec'.lt; have ne_ra_sa : ra ≠ sa := ne_new gsa hRes.lt; have ne_rab_sa : rab ≠ sa := ne_new gsa hRes.ltb
    replace Aec' := Aec'.ext Esa; replace hRes := hRes.ext Esa
    have Fvsa := Dsa (Or.inr (hw _ (mm 30 rfl))) (ty := .array .byte) (by decide); have Fcsa := Dsa (Or.inr (hw _ (mm 28 rfl))) (ty := .byte) (by decide)
    replace G := G.dup 300 at_299 rfl rfl |>.aload 302 at_300 rfl rfl rfl
    have hcl : ((([Int32.ofNat x0, Int32.ofNat x1] ++ LH) ++ ([44, 32] ++ [Int32.ofNat x2, Int32.ofNat x3])) ++ ([44, 32] ++ [Int32.ofNat x4, Int32.ofNat x5])).length = 30 := rfl
    replace Aec' : Arv Z _ ec kec .char (Int32.ofNat ((([Int32.ofNat x0, Int32.ofNat x1] ++ LH) ++ ([44, 32] ++ [Int32.ofNat x2, Int32.ofNat x3])) ++ ([44, 32] ++ [Int32.ofNat x4, Int32.ofNat x5])).length) (((([Int32.ofNat x0, Int32.ofNat x1] ++ LH) ++ ([44, 32] ++ [Int32.ofNat x2, Int32.ofNat x3])) ++ ([44, 32] ++ [Int32.ofNat x4, Int32.ofNat x5])).map Value.int) (.int 0) := Aec'
    obtain ⟨vw, k30, sow, G', Kw, Qw⟩ := G.callI 305 rfl rfl (hw _ (mm 5 rfl)) (hw _ (mm 6 rfl)) (hw _ (mm 3 rfl)) (hw _ (mm 7 rfl)) (by decide) [(.ref ec)] [(.ref sa)] rfl (c_strC l Z a0 hw hEW n0 c1 hc1 S1 sa ec kec ((([Int32.ofNat x0, Int32.ofNat x1] ++ LH) ++ ([44, 32] ++ [Int32.ofNat x2, Int32.ofNat x3])) ++ ([44, 32] ++ [Int32.ofNat x4, Int32.ofNat x5])) G.old (G.nw (Or.inr ssa)) Xsa Fvsa Fcsa (by rw [hcl]; decide) (by rw [hcl]; decide) (mem_app (mem_app (mem_app (c255s (xs := [x0, x1]) (allS hx0 (allS hx1 all0))) LH_c) (mem_app (by decide +kernel) (c255s (xs := [x2, x3]) (allS hx2 (allS hx3 all0))))) (mem_app (by decide +kernel) (c255s (xs := [x4, x5]) (allS hx4 (allS hx5 all0))))) Aec') (lenOf pd___C_V rfl) at_302 rfl (nle rfl) (nle rfl) (nle rfl) (nle rfl) (allS (Or.inr ssa) all0) (allS (mm 0 rfl) all0) (allS (mm 0 rfl) all0) rfl
    replace G := G'; clear G'
    obtain ⟨qw, sb, hW, ssb, rfl⟩ := Qw
    replace G := G.nov qw
    replace hRes := hRes.keep Kw (ninS ne_ra_sa nin0) (ninS ne_rab_sa nin0)
    have hkey : ((([Int32.ofNat x0, Int32.ofNat x1] ++ LH) ++ ([44, 32] ++ [Int32.ofNat x2, Int32.ofNat x3])) ++ ([44, 32] ++ [Int32.ofNat x4, Int32.ofNat x5])).map bytV = ((((((([bytV (Int32.ofNat x0), bytV (Int32.ofNat x1)] ++ [Value.int (32 : Int32), Value.int (114 : Int32), Value.int (101 : Int32), Value.int (97 : Int32), Value.int (108 : Int32), Value.int (109 : Int32), Value.int (61 : Int32), Value.int (34 : Int32)]) ++ [Value.int (111 : Int32), Value.int (97 : Int32), Value.int (116 : Int32), Value.int (104 : Int32), Value.int (45 : Int32), Value.int (98 : Int32), Value.int (101 : Int32), Value.int (97 : Int32), Value.int (114 : Int32), Value.int (101 : Int32), Value.int (114 : Int32)]) ++ [bytV 34]) ++ [Value.int (44 : Int32), Value.int (32 : Int32)]) ++ [bytV (Int32.ofNat x2), bytV (Int32.ofNat x3)]) ++ [Value.int (44 : Int32), Value.int (32 : Int32)]) ++ [bytV (Int32.ofNat x4), bytV (Int32.ofNat x5)]) := by simp only [List.map_append, LH_b, sep_b, List.map_cons, List.map_nil, List.append_assoc] <;> rfl
    rw [← hkey] at hRes
    replace G := G.astore 307 #[.val (.int i0), .val (.int i1), .val (.int i2), .val (.int i3), .val (.int (Int32.ofNat x0)), .val (.int (Int32.ofNat x1)), .val (.int (Int32.ofNat x2)), .val (.int (Int32.ofNat x3)), .val (.int (Int32.ofNat x4)), .val (.int (Int32.ofNat x5)), .val (.int (Int32.ofNat 2)), .val (.ref p), .val (.ref q), .val (.ref r), .val (.ref ea), .val (.ref eb), .val (.ref ec), .val (.ref ra), .val (.ref sa)] at_305 rfl rfl rfl |>.aload 309 at_307 rfl rfl rfl |>.aload 311 at_309 rfl rfl rfl
    obtain ⟨vqq, k_8, soqq, G', Kqq, Qqq⟩ := G.callV 314 (hw _ (mm 195 rfl)) (hw _ (mm 196 rfl)) (nfSel (hw _ (mm 198 rfl))) (hw _ (mm 198 rfl)) (hw _ (mm 197 rfl)) (hw _ (mm 3 rfl)) (hw _ (mm 199 rfl)) hW.1 (by decide) [(.ref ra)] [] rfl (c_equals l Z a0 hw hEW n0 c1 hc1 S1 sa sb ra rab (((([Int32.ofNat x0, Int32.ofNat x1] ++ LH) ++ ([44, 32] ++ [Int32.ofNat x2, Int32.ofNat x3])) ++ ([44, 32] ++ [Int32.ofNat x4, Int32.ofNat x5])).map bytV) G.old (fun q => ne_ra_sa q.symm) (by rw [List.length_map, hcl]; decide) (fun i hi => ⟨_, getD_mapB _ i (by rw [List.length_map] at hi; exact hi)⟩) hW hRes) (lenOf pd__Ljava_lang_Object__Z rfl) at_311 rfl (nle rfl) (nle rfl) (nle rfl) (nle rfl) all0 all0 all0 rfl
    replace G := G'; clear G'
    obtain ⟨wqq, qqq, rfl, eqq, rfl⟩ := Qqq
    replace G := G.val qqq
    subst eqq
    exact G.retN hret (Or.inl rfl) hlk at_314 [] all0 ⟨_, rfl, rfl, rfl⟩ (nle rfl) (nle rfl)
theorem comes_1 {Post : Tables → Env → Array Value → State → Outcome → State → Prop} (hpost : ∀ tb e args s v u, (limb_1_1.after args s (.returned v) u = true ∧ limb_1_2.after args s (.returned v) u = true ∧ True) → FramedW s (.returned v) u (Jvm.fieldLocs frame_1_writes args s ++ Jvm.arrayLocs frame_1_arrays args s ++ Jvm.staticLocs frame_1_statics s) 56 3648 → Post tb e args s (.returned v) u) :
    ArmFor flags0 classFile x code maxLocals ret World_1 tables_1 room_1 Calls_1 rest_1 Pre_1 Post := by
  intro l hfl _ _ p e ha hc hk s m args below hf hA hF happ hP
  obtain ⟨hcalls, hrest, hpre⟩ := hP
  obtain ⟨-, -, -, hnamed, -, -, -, hat⟩ := (Spec.applies_iff hf).mp happ
  obtain ⟨hg, hn⟩ := and_e (Cond.before_iff.mp (show (Jvm.Cond.and given_1 narrow_1).before args s = true from hpre))
  obtain ⟨hcnt, g0⟩ := and_e hg
  obtain ⟨a0, g1⟩ := and_e g0
  obtain ⟨a1, g2⟩ := and_e g1
  obtain ⟨a2, g3⟩ := and_e g2
  have a3 := g3
  obtain ⟨w0, w1, w2, w3, rfl⟩ : ∃ w0 w1 w2 w3 : Value, args = #[w0, w1, w2, w3] := by
    have hs : args.size = 4 := by simpa [Cond.value, given_1] using hcnt
    obtain ⟨L⟩ := args
    match L, hs with
    | [w0, w1, w2, w3], _ => exact ⟨w0, w1, w2, w3, rfl⟩
  have hw := fun d (hd : d ∈ tables_1) => atoms_spec (ws := Jvm.Cond.code x code maxLocals ret :: tables_1) hat d (List.mem_cons_of_mem _ hd)
  obtain ⟨hsets, hown0⟩ := atoms_of _ (rest_1_c_eq ▸ (show rest_1_c.before _ s = true from hrest))
  have hfit : Fit s := fun {y c} hc i hi => by
    obtain ⟨ha, rfl⟩ := Array.getElem?_eq_some_iff.mp hc
    have q := List.all_eq_true.mp ((Array.all_eq_true_iff_forall_mem.mp hF) _ (Array.getElem_mem ha)) i (List.mem_range.mpr hi)
    simpa [Array.getElem?_eq_getElem hi] using q
  obtain ⟨i0, e0⟩ := is_v a0
  obtain rfl : w0 = (.int i0) := Option.some.inj e0
  obtain ⟨i1, e1⟩ := is_v a1
  obtain rfl : w1 = (.int i1) := Option.some.inj e1
  obtain ⟨i2, e2⟩ := is_v a2
  obtain rfl : w2 = (.int i2) := Option.some.inj e2
  obtain ⟨i3, e3⟩ := is_v a3
  obtain rfl : w3 = (.int i3) := Option.some.inj e3
  have hcompact : Jvm.Lit.compactW.before _ s = true := (hsets _ (mm 2 rfl))
  obtain ⟨c1, ec1⟩ := is_v (Cond.before_iff.mp (hsets _ (mm 1 rfl)))
  have S1 : Sta s s.heap "java/lang/String" "COMPACT_STRINGS" "Z" (.int c1) := Sta.start ec1 (Or.inl (hsets _ (mm 0 rfl)))
  have hc1 : ¬ (c1 = (0 : Int32)) := gotF (Cond.eq_ints ec1 (Term.int_eval (0))) (not_v (Cond.before_iff.mp hcompact))
  have hEW : EW s _ consts_1 := (EW.cons (hw _ (mm 113 rfl)) (by decide) (EW.cons (hw _ (mm 117 rfl)) (by decide) (EW.cons (hw _ (mm 159 rfl)) (by decide) EW.nil)))
  have hCH : CHv s consts_1 s.vm s.heap := CHv.start hEW (show ∀ p ∈ consts_1, Jvm.Lit.constHeld s p.1 p.2 from hcalls.1) hcompact (hw _ (mm 20 rfl)) (hw _ (mm 2 rfl))
  obtain ⟨n, o, h1, h2, h3, _, L, rfl, ⟨so, N, -, ⟨w, rfl, rfl, -⟩, -, -⟩, hq⟩ := c_law l s _ hw hEW s.heap.size c1 hc1 S1 tables_1 i0 i1 i2 i3 (Old.start s) p e ha hc hk s m _ below hf ((Spec.applies_iff_loose hf).mp happ).1 ⟨rfl, State.Warmed39.refl s, rfl, hCH, fun _ q => nomatch q⟩ trivial
  refine ⟨n, _, h1, h2, h3, hpost _ _ _ _ _ _ ⟨Cond.after_iff.mpr rfl, Cond.after_iff.mpr (eq_i res_at (Term.int_eval (1)) rfl), trivial⟩ ⟨hq.1, hq.2.1, hq.2.2.1, (hq.2.2.2.sift fun y hy => Or.inr (N y hy)).mono (by decide) (by decide)⟩⟩
theorem main_1_1 : Claimed_1_1 := comes_1 fun _ _ _ _ _ _ h hF => ⟨h.1, hF⟩
theorem main_1_2 : Claimed_1_2 := comes_1 fun _ _ _ _ _ _ h hF => ⟨h.2.1, hF⟩
end Jvm.Pilot.@@N@@
namespace Jvm.Pilot.@@N@@
open Jvm Jvm.ClassFile Sem Op Lib Jvm.Free Jvm.Stand Jvm.Pilot.@@N@@.Jvm.D
/-! MADE BY PROGRAM (witnessworld.py) out of the Statement's table words and the real class files: 27 classes; the members and pool entries that the words name. The judged class is class 1, her method 3. -/
namespace start1
open Jvm.ClassFile
def u (s : String) : CpInfo := .utf8 (stringToUtf16 s)
/-- a pool by its gaps: so many unusable entries, then the entry; so many at the end -/
def gap : Nat → List CpInfo → List CpInfo
  | 0, r => r
  | n + 1, r => .unusable :: gap n r
def poolList (es : List (Nat × CpInfo)) (last : Nat) : List CpInfo := es.foldr (fun e r => gap e.1 (e.2 :: r)) (gap last [])
def pool (es : List (Nat × CpInfo)) (last : Nat) : Array CpInfo := ⟨poolList es last⟩
def fileOf (pool : Array CpInfo) (this : Nat) (attrs : Array Attribute := #[]) (ms : Array MethodInfo := #[]) (fl : Nat := 33) (sup : Nat := 0) (ifs : Array Nat := #[]) (fds : Array FieldInfo := #[]) : ClassFile where
  minorVersion := 0
  majorVersion := 65
  constantPool := pool
  accessFlags := fl
  thisClass := this
  superClass := sup
  interfaces := ifs
  fields := fds
  methods := ms
  attributes := attrs
def plain (name : String) (sup : Option ClassId) : Class where
  name := name
  kind := .ordinary
  loader := none
  accessFlags := 33
  super := sup
  interfaces := #[]
  cf := none
  fields := #[]
  methods := #[]
  instanceTypes := #[]
  staticTypes := #[]
  resolved := #[]
  callSites := []
  init := .initialized
  statics := none
  mirror := none

def pool0 : Array CpInfo := pool [(5, u "<init>"), (0, u "()V"), (1, .class_ 10), (1, u "java/lang/Object")] 113

def k0c0 : Code := { maxStack := 0, maxLocals := 1, code := object_method_1_code, exceptionTable := #[], attributes := #[] }
def k0m0 : Method := { name := "<init>", desc := "()V", sig := { parameters := [], returnType := none }, accessFlags := 1, code := some k0c0 }
/-- java/lang/Object -/
def k0 : Class := { plain "java/lang/Object" none with
  accessFlags := 33
  interfaces := #[]
  cf := some (fileOf pool0 8 #[] #[{ accessFlags := 1, nameIndex := 5, descriptorIndex := 6, attributes := #[] }] 33 0 #[] #[])
  fields := #[]
  methods := #[k0m0]
  instanceTypes := #[]
  staticTypes := #[]
  resolved := Array.replicate 124 none
  statics := none }

def pool1 : Array CpInfo := pool [(2, .class_ 4), (1, u "java/lang/Object"), (0, u "<init>"), (0, u "()V"), (0, .integer 2147483647), (0, .class_ 9), (0, u "java/lang/String"), (0, .methodref 8 11), (0, .nameAndType 5 12), (0, u "([C)V"), (0, .methodref 14 15), (0, .class_ 16), (0, .nameAndType 17 18), (0, u "com/example/oath_bearer/oathbearer/web/AuthorizationHeaderChallengePinLaw"), (0, u "head"), (0, u "([CCC)V"), (0, .methodref 14 20), (0, .nameAndType 21 22), (0, u "param"), (0, u "([CICC)V"), (0, .methodref 24 25), (0, .class_ 26), (0, .nameAndType 27 28), (0, u "com/example/oath_bearer/oathbearer/web/AuthorizationHeader"), (0, u "challenge"), (0, u "(Ljava/lang/String;[Ljava/lang/String;)Ljava/lang/String;"), (0, .methodref 8 30), (0, .nameAndType 31 32), (0, u "equals"), (0, u "(Ljava/lang/Object;)Z"), (2, u "law"), (0, u "(IIII)Z")] 5

def k1m0 : Method := { name := "<init>", desc := "()V", sig := { parameters := [], returnType := none }, accessFlags := 2, code := none }
def k1c1 : Code := { maxStack := 3, maxLocals := 3, code := method_2_code, exceptionTable := #[], attributes := #[] }
def k1m1 : Method := { name := "head", desc := "([CCC)V", sig := { parameters := [(.array .char), .char, .char], returnType := none }, accessFlags := 10, code := some k1c1 }
def k1c2 : Code := { maxStack := 3, maxLocals := 4, code := method_3_code, exceptionTable := #[], attributes := #[] }
def k1m2 : Method := { name := "param", desc := "([CICC)V", sig := { parameters := [(.array .char), .int, .char, .char], returnType := none }, accessFlags := 10, code := some k1c2 }
def k1c3 : Code := { maxStack := 6, maxLocals := 19, code := code, exceptionTable := #[], attributes := #[] }
def k1m3 : Method := { name := "law", desc := "(IIII)Z", sig := { parameters := [.int, .int, .int, .int], returnType := some .boolean }, accessFlags := 9, code := some k1c3 }
/-- com/example/oath_bearer/oathbearer/web/AuthorizationHeaderChallengePinLaw -/
def k1 : Class := { plain "com/example/oath_bearer/oathbearer/web/AuthorizationHeaderChallengePinLaw" (some 0) with
  accessFlags := 49
  interfaces := #[]
  cf := some (fileOf pool1 14 #[] #[{ accessFlags := 2, nameIndex := 5, descriptorIndex := 6, attributes := #[] }, { accessFlags := 10, nameIndex := 17, descriptorIndex := 18, attributes := #[] }, { accessFlags := 10, nameIndex := 21, descriptorIndex := 22, attributes := #[] }, { accessFlags := 9, nameIndex := 35, descriptorIndex := 36, attributes := #[] }] 49 2 #[] #[])
  fields := #[]
  methods := #[k1m0, k1m1, k1m2, k1m3]
  instanceTypes := #[]
  staticTypes := #[]
  resolved := Array.replicate 42 none
  statics := none }

def pool2 : Array CpInfo := pool [(1, .class_ 2), (0, u "java/io/Serializable"), (0, .class_ 4), (0, u "java/lang/Object")] 2

/-- java/io/Serializable -/
def k2 : Class := { plain "java/io/Serializable" (some 0) with
  accessFlags := 1537
  interfaces := #[]
  cf := some (fileOf pool2 1 #[] #[] 1537 3 #[] #[])
  fields := #[]
  methods := #[]
  instanceTypes := #[]
  staticTypes := #[]
  resolved := Array.replicate 7 none
  statics := none }

def pool3 : Array CpInfo := pool [(1, .class_ 2), (0, u "java/lang/Comparable"), (0, .class_ 4), (0, u "java/lang/Object")] 7

/-- java/lang/Comparable -/
def k3 : Class := { plain "java/lang/Comparable" (some 0) with
  accessFlags := 1537
  interfaces := #[]
  cf := some (fileOf pool3 1 #[] #[] 1537 3 #[] #[])
  fields := #[]
  methods := #[]
  instanceTypes := #[]
  staticTypes := #[]
  resolved := Array.replicate 12 none
  statics := none }

def pool4 : Array CpInfo := pool [(2, .class_ 4), (1, u "java/lang/CharSequence"), (42, .class_ 48), (0, u "java/lang/CharSequence$1CodePointIterator"), (10, .class_ 60), (0, u "java/lang/CharSequence$1CharIterator"), (5, .class_ 67), (0, u "java/lang/Object")] 63

/-- java/lang/CharSequence -/
def k4 : Class := { plain "java/lang/CharSequence" (some 0) with
  accessFlags := 1537
  interfaces := #[]
  cf := some (fileOf pool4 2 #[.nestMembers #[47, 59]] #[] 1537 66 #[] #[])
  fields := #[]
  methods := #[]
  instanceTypes := #[]
  staticTypes := #[]
  resolved := Array.replicate 131 none
  statics := none }

def pool5 : Array CpInfo := pool [(1, .class_ 2), (0, u "java/lang/constant/Constable"), (0, .class_ 4), (0, u "java/lang/Object")] 6

/-- java/lang/constant/Constable -/
def k5 : Class := { plain "java/lang/constant/Constable" (some 0) with
  accessFlags := 1537
  interfaces := #[]
  cf := some (fileOf pool5 1 #[] #[] 1537 3 #[] #[])
  fields := #[]
  methods := #[]
  instanceTypes := #[]
  staticTypes := #[]
  resolved := Array.replicate 11 none
  statics := none }

def pool6 : Array CpInfo := pool [(1, .class_ 2), (0, u "java/lang/constant/ConstantDesc"), (0, .class_ 4), (0, u "java/lang/Object")] 32

/-- java/lang/constant/ConstantDesc -/
def k6 : Class := { plain "java/lang/constant/ConstantDesc" (some 0) with
  accessFlags := 1537
  interfaces := #[]
  cf := some (fileOf pool6 1 #[] #[] 1537 3 #[] #[])
  fields := #[]
  methods := #[]
  instanceTypes := #[]
  staticTypes := #[]
  resolved := Array.replicate 37 none
  statics := none }

def pool7 : Array CpInfo := pool [(1, .methodref 2 3), (0, .class_ 4), (0, .nameAndType 5 6), (0, u "java/lang/Object"), (0, u "<init>"), (0, u "()V"), (2, .fieldref 10 11), (0, .class_ 12), (0, .nameAndType 13 14), (0, u "java/lang/String"), (0, u "value"), (0, u "[B"), (0, .fieldref 10 16), (0, .nameAndType 17 18), (0, u "coder"), (0, u "B"), (2, u "hash"), (0, u "I"), (2, u "hashIsZero"), (0, u "Z"), (0, .methodref 10 28), (0, .nameAndType 5 29), (0, u "([CIILjava/lang/Void;)V"), (8, .fieldref 10 39), (0, .nameAndType 40 26), (0, u "COMPACT_STRINGS"), (1, .class_ 44), (1, u "java/lang/StringUTF16"), (0, u "compress"), (1, .methodref 42 48), (0, .nameAndType 49 50), (0, u "coderFromArrayLen"), (0, u "([BI)B"), (3, .methodref 55 56), (0, .class_ 57), (0, .nameAndType 58 59), (0, u "java/util/Arrays"), (0, u "copyOfRange"), (0, u "([BII)[B"), (47, .class_ 109), (1, u "java/lang/StringLatin1"), (32, u "()Z"), (34, .methodref 42 178), (0, .nameAndType 45 179), (0, u "([CII)[B"), (13, .class_ 195), (1, u "java/lang/System"), (16, .methodref 193 213), (0, .nameAndType 214 215), (0, u "arraycopy"), (0, u "(Ljava/lang/Object;ILjava/lang/Object;II)V"), (118, u "()I"), (0, .methodref 10 336), (0, .nameAndType 17 337), (0, u "()B"), (2, u "()[B"), (148, .methodref 10 490), (0, .nameAndType 5 491), (0, u "(Ljava/lang/AbstractStringBuilder;Ljava/lang/Void;)V"), (1, .nameAndType 494 142), (0, u "isLatin1"), (11, .nameAndType 507 334), (0, u "length"), (24, u "getBytes"), (8, .methodref 107 542), (0, .nameAndType 543 544), (0, u "equals"), (0, u "([B[B)Z"), (4, .methodref 550 506), (0, .class_ 551), (0, u "java/lang/AbstractStringBuilder"), (0, .methodref 550 553), (0, .nameAndType 554 340), (0, u "getValue"), (18, u "(Ljava/lang/Object;)Z"), (1, .class_ 576), (0, u "java/lang/CharSequence"), (22, u "CASE_INSENSITIVE_ORDER"), (0, u "Ljava/util/Comparator;"), (220, u "([BIB)V"), (188, u "([C)V"), (36, .methodref 550 493), (53, u "serialPersistentFields"), (0, u "[Ljava/io/ObjectStreamField;"), (0, .class_ 1104), (0, u "java/lang/String$CaseInsensitiveComparator"), (1, .class_ 1107), (0, u "java/io/Serializable"), (0, .class_ 1109), (0, u "java/lang/Comparable"), (0, .class_ 1111), (0, u "java/lang/constant/Constable"), (0, .class_ 1113), (0, u "java/lang/constant/ConstantDesc"), (2, u "serialVersionUID"), (0, u "J"), (3, u "REPL"), (0, u "C"), (2, u "LATIN1"), (1, u "UTF16"), (105, u "(Ljava/lang/StringBuilder;)V")] 217

def k7m0 : Method := { name := "<init>", desc := "()V", sig := { parameters := [], returnType := none }, accessFlags := 1, code := none }
def k7c1 : Code := { maxStack := 5, maxLocals := 2, code := jdk_42_method_3_code, exceptionTable := #[], attributes := #[] }
def k7m1 : Method := { name := "<init>", desc := "([C)V", sig := { parameters := [(.array .char)], returnType := none }, accessFlags := 1, code := some k7c1 }
def k7c2 : Code := { maxStack := 3, maxLocals := 2, code := jdk_42_method_53_code, exceptionTable := #[], attributes := #[] }
def k7m2 : Method := { name := "<init>", desc := "(Ljava/lang/StringBuilder;)V", sig := { parameters := [(.object "java/lang/StringBuilder")], returnType := none }, accessFlags := 1, code := some k7c2 }
def k7c3 : Code := { maxStack := 2, maxLocals := 1, code := jdk_42_method_54_code, exceptionTable := #[], attributes := #[] }
def k7m3 : Method := { name := "length", desc := "()I", sig := { parameters := [], returnType := some .int }, accessFlags := 1, code := some k7c3 }
def k7c4 : Code := { maxStack := 2, maxLocals := 3, code := jdk_42_method_66_code, exceptionTable := #[], attributes := #[] }
def k7m4 : Method := { name := "equals", desc := "(Ljava/lang/Object;)Z", sig := { parameters := [(.object "java/lang/Object")], returnType := some .boolean }, accessFlags := 1, code := some k7c4 }
def k7c5 : Code := { maxStack := 5, maxLocals := 4, code := jdk_42_method_147_code, exceptionTable := #[], attributes := #[] }
def k7m5 : Method := { name := "getBytes", desc := "([BIB)V", sig := { parameters := [(.array .byte), .int, .byte], returnType := none }, accessFlags := 0, code := some k7c5 }
def k7c6 : Code := { maxStack := 4, maxLocals := 6, code := jdk_42_method_149_code, exceptionTable := #[], attributes := #[] }
def k7m6 : Method := { name := "<init>", desc := "([CIILjava/lang/Void;)V", sig := { parameters := [(.array .char), .int, .int, (.object "java/lang/Void")], returnType := none }, accessFlags := 2, code := some k7c6 }
def k7c7 : Code := { maxStack := 5, maxLocals := 5, code := jdk_42_method_150_code, exceptionTable := #[], attributes := #[] }
def k7m7 : Method := { name := "<init>", desc := "(Ljava/lang/AbstractStringBuilder;Ljava/lang/Void;)V", sig := { parameters := [(.object "java/lang/AbstractStringBuilder"), (.object "java/lang/Void")], returnType := none }, accessFlags := 0, code := some k7c7 }
def k7c8 : Code := { maxStack := 1, maxLocals := 1, code := jdk_42_method_152_code, exceptionTable := #[], attributes := #[] }
def k7m8 : Method := { name := "coder", desc := "()B", sig := { parameters := [], returnType := some .byte }, accessFlags := 0, code := some k7c8 }
/-- java/lang/String -/
def k7 : Class := { plain "java/lang/String" (some 0) with
  accessFlags := 49
  interfaces := #[2, 3, 4, 5, 6]
  cf := some (fileOf pool7 10 #[.nestMembers #[1103]] #[{ accessFlags := 1, nameIndex := 5, descriptorIndex := 6, attributes := #[] }, { accessFlags := 1, nameIndex := 5, descriptorIndex := 1010, attributes := #[] }, { accessFlags := 1, nameIndex := 5, descriptorIndex := 1233, attributes := #[] }, { accessFlags := 1, nameIndex := 507, descriptorIndex := 334, attributes := #[] }, { accessFlags := 1, nameIndex := 543, descriptorIndex := 573, attributes := #[] }, { accessFlags := 0, nameIndex := 532, descriptorIndex := 821, attributes := #[] }, { accessFlags := 2, nameIndex := 5, descriptorIndex := 29, attributes := #[] }, { accessFlags := 0, nameIndex := 5, descriptorIndex := 491, attributes := #[] }, { accessFlags := 0, nameIndex := 17, descriptorIndex := 337, attributes := #[] }] 49 2 #[1106, 1108, 575, 1110, 1112] #[{ accessFlags := 18, nameIndex := 13, descriptorIndex := 14, attributes := #[] }, { accessFlags := 18, nameIndex := 17, descriptorIndex := 18, attributes := #[] }, { accessFlags := 2, nameIndex := 21, descriptorIndex := 22, attributes := #[] }, { accessFlags := 2, nameIndex := 25, descriptorIndex := 26, attributes := #[] }, { accessFlags := 26, nameIndex := 1116, descriptorIndex := 1117, attributes := #[] }, { accessFlags := 24, nameIndex := 40, descriptorIndex := 26, attributes := #[] }, { accessFlags := 26, nameIndex := 1101, descriptorIndex := 1102, attributes := #[] }, { accessFlags := 26, nameIndex := 1121, descriptorIndex := 1122, attributes := #[] }, { accessFlags := 25, nameIndex := 599, descriptorIndex := 600, attributes := #[] }, { accessFlags := 24, nameIndex := 1125, descriptorIndex := 18, attributes := #[] }, { accessFlags := 24, nameIndex := 1127, descriptorIndex := 18, attributes := #[] }])
  fields := #[{ name := "value", type := (.array .byte), accessFlags := 18, slot := 0, constantValue := 0 }, { name := "coder", type := .byte, accessFlags := 18, slot := 1, constantValue := 0 }, { name := "hash", type := .int, accessFlags := 2, slot := 2, constantValue := 0 }, { name := "hashIsZero", type := .boolean, accessFlags := 2, slot := 3, constantValue := 0 }, { name := "serialVersionUID", type := .long, accessFlags := 26, slot := 0, constantValue := 0 }, { name := "COMPACT_STRINGS", type := .boolean, accessFlags := 24, slot := 1, constantValue := 0 }, { name := "serialPersistentFields", type := (.array (.object "java/io/ObjectStreamField")), accessFlags := 26, slot := 2, constantValue := 0 }, { name := "REPL", type := .char, accessFlags := 26, slot := 3, constantValue := 0 }, { name := "CASE_INSENSITIVE_ORDER", type := (.object "java/util/Comparator"), accessFlags := 25, slot := 4, constantValue := 0 }, { name := "LATIN1", type := .byte, accessFlags := 24, slot := 5, constantValue := 0 }, { name := "UTF16", type := .byte, accessFlags := 24, slot := 6, constantValue := 0 }]
  methods := #[k7m0, k7m1, k7m2, k7m3, k7m4, k7m5, k7m6, k7m7, k7m8]
  instanceTypes := #[(.array .byte), .byte, .int, .boolean]
  staticTypes := #[.long, .boolean, (.array (.object "java/io/ObjectStreamField")), .char, (.object "java/util/Comparator"), .byte, .byte]
  resolved := Array.replicate 1451 none
  statics := some 0 }

def pool8 : Array CpInfo := pool [(6, .class_ 8), (1, u "java/lang/Object"), (0, u "<init>"), (0, u "()V"), (1, .class_ 14), (1, u "java/lang/StringUTF16"), (31, u "$assertionsDisabled"), (0, u "Z"), (13, u "HI_BYTE_SHIFT"), (0, u "I"), (2, u "LO_BYTE_SHIFT"), (49, .methodref 12 116), (0, .nameAndType 117 118), (0, u "compress"), (0, u "([CI[BII)I"), (3, u "([CII)[B"), (138, u "coderFromArrayLen"), (0, u "([BI)B"), (106, .class_ 371), (1, u "java/lang/StringUTF16$LinesSpliterator"), (58, u "MAX_LENGTH"), (196, .class_ 628), (0, u "java/lang/StringUTF16$CodePointsSpliterator"), (0, .class_ 630), (0, u "java/lang/StringUTF16$CharsSpliterator")] 4

def k8m0 : Method := { name := "<init>", desc := "()V", sig := { parameters := [], returnType := none }, accessFlags := 0, code := none }
def k8c1 : Code := { maxStack := 2, maxLocals := 2, code := jdk_52_method_15_code, exceptionTable := #[], attributes := #[] }
def k8m1 : Method := { name := "coderFromArrayLen", desc := "([BI)B", sig := { parameters := [(.array .byte), .int], returnType := some .byte }, accessFlags := 8, code := some k8c1 }
def k8c2 : Code := { maxStack := 5, maxLocals := 6, code := jdk_52_method_16_code, exceptionTable := #[], attributes := #[] }
def k8m2 : Method := { name := "compress", desc := "([CII)[B", sig := { parameters := [(.array .char), .int, .int], returnType := some (.array .byte) }, accessFlags := 9, code := some k8c2 }
def k8c3 : Code := { maxStack := 3, maxLocals := 7, code := jdk_52_method_21_code, exceptionTable := #[], attributes := #[] }
def k8m3 : Method := { name := "compress", desc := "([CI[BII)I", sig := { parameters := [(.array .char), .int, (.array .byte), .int, .int], returnType := some .int }, accessFlags := 9, code := some k8c3 }
/-- java/lang/StringUTF16 -/
def k8 : Class := { plain "java/lang/StringUTF16" (some 0) with
  accessFlags := 48
  interfaces := #[]
  cf := some (fileOf pool8 12 #[.nestMembers #[627, 629, 369]] #[{ accessFlags := 0, nameIndex := 9, descriptorIndex := 10, attributes := #[] }, { accessFlags := 8, nameIndex := 261, descriptorIndex := 262, attributes := #[] }, { accessFlags := 9, nameIndex := 117, descriptorIndex := 122, attributes := #[] }, { accessFlags := 9, nameIndex := 117, descriptorIndex := 118, attributes := #[] }] 48 6 #[] #[{ accessFlags := 26, nameIndex := 61, descriptorIndex := 62, attributes := #[] }, { accessFlags := 26, nameIndex := 65, descriptorIndex := 62, attributes := #[] }, { accessFlags := 24, nameIndex := 430, descriptorIndex := 62, attributes := #[] }, { accessFlags := 4120, nameIndex := 46, descriptorIndex := 47, attributes := #[] }])
  fields := #[{ name := "HI_BYTE_SHIFT", type := .int, accessFlags := 26, slot := 0, constantValue := 0 }, { name := "LO_BYTE_SHIFT", type := .int, accessFlags := 26, slot := 1, constantValue := 0 }, { name := "MAX_LENGTH", type := .int, accessFlags := 24, slot := 2, constantValue := 0 }, { name := "$assertionsDisabled", type := .boolean, accessFlags := 4120, slot := 3, constantValue := 0 }]
  methods := #[k8m0, k8m1, k8m2, k8m3]
  instanceTypes := #[]
  staticTypes := #[.int, .int, .int, .boolean]
  resolved := Array.replicate 635 none
  statics := none }

def pool9 : Array CpInfo := pool [(2, .class_ 4), (1, u "java/lang/Object"), (0, u "<init>"), (0, u "()V"), (0, .class_ 8), (0, u "java/lang/StringBuilder"), (0, .methodref 7 10), (0, .nameAndType 5 11), (0, u "(Ljava/lang/String;)V"), (0, .string 13), (0, u " realm=\""), (0, .methodref 7 15), (0, .nameAndType 16 17), (0, u "append"), (0, u "(Ljava/lang/String;)Ljava/lang/StringBuilder;"), (0, .class_ 19), (0, u "com/example/oath_bearer/oathbearer/web/AuthorizationHeader"), (0, .string 21), (0, u "oath-bearer"), (0, .methodref 7 23), (0, .nameAndType 16 24), (0, u "(C)Ljava/lang/StringBuilder;"), (0, .string 26), (0, u ", "), (0, .methodref 7 28), (0, .nameAndType 29 30), (0, u "toString"), (0, u "()Ljava/lang/String;"), (57, u "BEARER"), (0, u "Ljava/lang/String;"), (3, u "REALM"), (2, u "challenge"), (0, u "(Ljava/lang/String;[Ljava/lang/String;)Ljava/lang/String;")] 13

def k9m0 : Method := { name := "<init>", desc := "()V", sig := { parameters := [], returnType := none }, accessFlags := 2, code := none }
def k9c1 : Code := { maxStack := 3, maxLocals := 7, code := prog_20_method_2_code, exceptionTable := #[], attributes := #[] }
def k9m1 : Method := { name := "challenge", desc := "(Ljava/lang/String;[Ljava/lang/String;)Ljava/lang/String;", sig := { parameters := [(.object "java/lang/String"), (.array (.object "java/lang/String"))], returnType := some (.object "java/lang/String") }, accessFlags := 136, code := some k9c1 }
/-- com/example/oath_bearer/oathbearer/web/AuthorizationHeader -/
def k9 : Class := { plain "com/example/oath_bearer/oathbearer/web/AuthorizationHeader" (some 0) with
  accessFlags := 48
  interfaces := #[]
  cf := some (fileOf pool9 18 #[] #[{ accessFlags := 2, nameIndex := 5, descriptorIndex := 6, attributes := #[] }, { accessFlags := 136, nameIndex := 96, descriptorIndex := 97, attributes := #[] }] 48 2 #[] #[{ accessFlags := 24, nameIndex := 88, descriptorIndex := 89, attributes := #[] }, { accessFlags := 26, nameIndex := 93, descriptorIndex := 89, attributes := #[] }])
  fields := #[{ name := "BEARER", type := (.object "java/lang/String"), accessFlags := 24, slot := 0, constantValue := 0 }, { name := "REALM", type := (.object "java/lang/String"), accessFlags := 26, slot := 1, constantValue := 0 }]
  methods := #[k9m0, k9m1]
  instanceTypes := #[]
  staticTypes := #[(.object "java/lang/String"), (.object "java/lang/String")]
  resolved := Array.replicate 111 none
  statics := none }

def pool10 : Array CpInfo := pool [(1, .class_ 2), (0, u "java/lang/Appendable"), (0, .class_ 4), (0, u "java/lang/Object")] 9

/-- java/lang/Appendable -/
def k10 : Class := { plain "java/lang/Appendable" (some 0) with
  accessFlags := 1537
  interfaces := #[]
  cf := some (fileOf pool10 1 #[] #[] 1537 3 #[] #[])
  fields := #[]
  methods := #[]
  instanceTypes := #[]
  staticTypes := #[]
  resolved := Array.replicate 14 none
  statics := none }

def pool11 : Array CpInfo := pool [(1, .class_ 2), (0, u "java/lang/String"), (0, .methodref 4 5), (0, .class_ 6), (0, .nameAndType 7 8), (0, u "java/lang/Object"), (0, u "<init>"), (0, u "()V"), (1, .class_ 12), (1, u "java/lang/AbstractStringBuilder"), (0, u "EMPTYVALUE"), (0, u "[B"), (0, .fieldref 10 16), (0, .nameAndType 17 14), (0, u "value"), (0, .fieldref 1 19), (0, .nameAndType 20 21), (0, u "COMPACT_STRINGS"), (0, u "Z"), (0, .fieldref 10 23), (0, .nameAndType 24 25), (0, u "coder"), (0, u "B"), (6, .methodref 1 33), (0, .nameAndType 34 35), (0, u "length"), (0, u "()I"), (2, .integer 2147483631), (0, .integer 2147483647), (0, .methodref 1 41), (0, .nameAndType 24 42), (0, u "()B"), (0, .methodref 10 44), (0, .nameAndType 45 46), (0, u "append"), (0, u "(Ljava/lang/String;)Ljava/lang/AbstractStringBuilder;"), (1, .class_ 49), (0, u "java/lang/CharSequence"), (19, u "(Ljava/lang/String;)V"), (5, u "maybeLatin1"), (3, .fieldref 10 80), (0, .nameAndType 81 82), (0, u "count"), (0, u "I"), (0, .methodref 10 84), (0, .nameAndType 85 86), (0, u "isLatin1"), (0, u "()Z"), (1, .class_ 90), (1, u "java/lang/StringLatin1"), (9, .methodref 10 101), (0, .nameAndType 102 103), (0, u "ensureCapacityInternal"), (0, u "(I)V"), (0, .methodref 10 105), (0, .nameAndType 106 107), (0, u "newCapacity"), (0, u "(I)I"), (0, .methodref 109 110), (0, .class_ 111), (0, .nameAndType 112 113), (0, u "java/util/Arrays"), (0, u "copyOf"), (0, u "([BI)[B"), (0, .methodref 115 116), (0, .class_ 117), (0, .nameAndType 118 119), (0, u "jdk/internal/util/ArraysSupport"), (0, u "newLength"), (0, u "(III)I"), (71, .methodref 88 192), (0, .nameAndType 193 194), (0, u "canEncode"), (0, u "(C)Z"), (13, .methodref 10 209), (0, .nameAndType 210 211), (0, u "putStringAt"), (0, u "(ILjava/lang/String;)V"), (5, u "inflateIfNeededFor"), (2, .nameAndType 221 222), (0, u "getBytes"), (0, u "([BIB)V"), (69, u "(C)Ljava/lang/AbstractStringBuilder;"), (104, .methodref 10 398), (0, .nameAndType 217 69), (0, .methodref 1 220), (3, u "()[B"), (40, .class_ 445), (0, u "java/lang/Appendable"), (106, u "getValue")] 56

def k11m0 : Method := { name := "<init>", desc := "()V", sig := { parameters := [], returnType := none }, accessFlags := 0, code := none }
def k11c1 : Code := { maxStack := 2, maxLocals := 5, code := jdk_68_method_3_code, exceptionTable := #[], attributes := #[] }
def k11m1 : Method := { name := "<init>", desc := "(Ljava/lang/String;)V", sig := { parameters := [(.object "java/lang/String")], returnType := none }, accessFlags := 0, code := some k11c1 }
def k11c2 : Code := { maxStack := 1, maxLocals := 1, code := jdk_68_method_6_code, exceptionTable := #[], attributes := #[] }
def k11m2 : Method := { name := "length", desc := "()I", sig := { parameters := [], returnType := some .int }, accessFlags := 1, code := some k11c2 }
def k11c3 : Code := { maxStack := 4, maxLocals := 3, code := jdk_68_method_9_code, exceptionTable := #[], attributes := #[] }
def k11m3 : Method := { name := "ensureCapacityInternal", desc := "(I)V", sig := { parameters := [.int], returnType := none }, accessFlags := 2, code := some k11c3 }
def k11c4 : Code := { maxStack := 5, maxLocals := 6, code := jdk_68_method_10_code, exceptionTable := #[], attributes := #[] }
def k11m4 : Method := { name := "newCapacity", desc := "(I)I", sig := { parameters := [.int], returnType := some .int }, accessFlags := 2, code := some k11c4 }
def k11c5 : Code := { maxStack := 3, maxLocals := 3, code := jdk_68_method_22_code, exceptionTable := #[], attributes := #[] }
def k11m5 : Method := { name := "append", desc := "(Ljava/lang/String;)Ljava/lang/AbstractStringBuilder;", sig := { parameters := [(.object "java/lang/String")], returnType := some (.object "java/lang/AbstractStringBuilder") }, accessFlags := 1, code := some k11c5 }
def k11c6 : Code := { maxStack := 5, maxLocals := 2, code := jdk_68_method_31_code, exceptionTable := #[], attributes := #[] }
def k11m6 : Method := { name := "append", desc := "(C)Ljava/lang/AbstractStringBuilder;", sig := { parameters := [.char], returnType := some (.object "java/lang/AbstractStringBuilder") }, accessFlags := 1, code := some k11c6 }
def k11c7 : Code := { maxStack := 1, maxLocals := 1, code := jdk_68_method_64_code, exceptionTable := #[], attributes := #[] }
def k11m7 : Method := { name := "getValue", desc := "()[B", sig := { parameters := [], returnType := some (.array .byte) }, accessFlags := 16, code := some k11c7 }
def k11c8 : Code := { maxStack := 1, maxLocals := 1, code := jdk_68_method_68_code, exceptionTable := #[], attributes := #[] }
def k11m8 : Method := { name := "isLatin1", desc := "()Z", sig := { parameters := [], returnType := some .boolean }, accessFlags := 16, code := some k11c8 }
def k11c9 : Code := { maxStack := 2, maxLocals := 2, code := jdk_68_method_71_code, exceptionTable := #[], attributes := #[] }
def k11m9 : Method := { name := "inflateIfNeededFor", desc := "(Ljava/lang/String;)V", sig := { parameters := [(.object "java/lang/String")], returnType := none }, accessFlags := 2, code := some k11c9 }
def k11c10 : Code := { maxStack := 4, maxLocals := 3, code := jdk_68_method_73_code, exceptionTable := #[], attributes := #[] }
def k11m10 : Method := { name := "putStringAt", desc := "(ILjava/lang/String;)V", sig := { parameters := [.int, (.object "java/lang/String")], returnType := none }, accessFlags := 2, code := some k11c10 }
/-- java/lang/AbstractStringBuilder -/
def k11 : Class := { plain "java/lang/AbstractStringBuilder" (some 0) with
  accessFlags := 1056
  interfaces := #[10, 4]
  cf := some (fileOf pool11 10 #[] #[{ accessFlags := 0, nameIndex := 7, descriptorIndex := 8, attributes := #[] }, { accessFlags := 0, nameIndex := 7, descriptorIndex := 69, attributes := #[] }, { accessFlags := 1, nameIndex := 34, descriptorIndex := 35, attributes := #[] }, { accessFlags := 2, nameIndex := 102, descriptorIndex := 103, attributes := #[] }, { accessFlags := 2, nameIndex := 106, descriptorIndex := 107, attributes := #[] }, { accessFlags := 1, nameIndex := 45, descriptorIndex := 46, attributes := #[] }, { accessFlags := 1, nameIndex := 45, descriptorIndex := 292, attributes := #[] }, { accessFlags := 16, nameIndex := 552, descriptorIndex := 403, attributes := #[] }, { accessFlags := 16, nameIndex := 85, descriptorIndex := 86, attributes := #[] }, { accessFlags := 2, nameIndex := 217, descriptorIndex := 69, attributes := #[] }, { accessFlags := 2, nameIndex := 210, descriptorIndex := 211, attributes := #[] }] 1056 4 #[444, 48] #[{ accessFlags := 0, nameIndex := 17, descriptorIndex := 14, attributes := #[] }, { accessFlags := 0, nameIndex := 24, descriptorIndex := 25, attributes := #[] }, { accessFlags := 0, nameIndex := 75, descriptorIndex := 21, attributes := #[] }, { accessFlags := 0, nameIndex := 81, descriptorIndex := 82, attributes := #[] }, { accessFlags := 26, nameIndex := 13, descriptorIndex := 14, attributes := #[] }])
  fields := #[{ name := "value", type := (.array .byte), accessFlags := 0, slot := 0, constantValue := 0 }, { name := "coder", type := .byte, accessFlags := 0, slot := 1, constantValue := 0 }, { name := "maybeLatin1", type := .boolean, accessFlags := 0, slot := 2, constantValue := 0 }, { name := "count", type := .int, accessFlags := 0, slot := 3, constantValue := 0 }, { name := "EMPTYVALUE", type := (.array .byte), accessFlags := 26, slot := 0, constantValue := 0 }]
  methods := #[k11m0, k11m1, k11m2, k11m3, k11m4, k11m5, k11m6, k11m7, k11m8, k11m9, k11m10]
  instanceTypes := #[(.array .byte), .byte, .boolean, .int]
  staticTypes := #[(.array .byte)]
  resolved := Array.replicate 609 none
  statics := none }

def pool12 : Array CpInfo := pool [(2, .class_ 4), (1, u "java/lang/AbstractStringBuilder"), (0, u "<init>"), (1, .methodref 2 8), (0, .nameAndType 5 9), (0, u "(Ljava/lang/String;)V"), (8, .class_ 20), (1, u "java/lang/String"), (2, .methodref 24 25), (0, .class_ 26), (0, .nameAndType 27 28), (0, u "java/lang/StringBuilder"), (0, u "append"), (0, u "(Ljava/lang/String;)Ljava/lang/StringBuilder;"), (0, .methodref 2 30), (0, .nameAndType 27 31), (0, u "(Ljava/lang/String;)Ljava/lang/AbstractStringBuilder;"), (18, .methodref 2 51), (0, .nameAndType 27 52), (0, u "(C)Ljava/lang/AbstractStringBuilder;"), (84, .methodref 18 138), (0, .nameAndType 5 139), (0, u "(Ljava/lang/StringBuilder;)V"), (5, u "()V"), (10, u "()I"), (129, u "(C)Ljava/lang/StringBuilder;"), (56, .methodref 2 344), (0, .nameAndType 345 156), (0, u "length"), (3, .class_ 350), (0, u "java/lang/Appendable"), (0, .class_ 352), (0, u "java/io/Serializable"), (0, .class_ 354), (0, u "java/lang/Comparable"), (0, .class_ 356), (0, u "java/lang/CharSequence"), (0, u "serialVersionUID"), (0, u "J"), (40, u "toString"), (0, u "()Ljava/lang/String;")] 21

def k12m0 : Method := { name := "<init>", desc := "()V", sig := { parameters := [], returnType := none }, accessFlags := 1, code := none }
def k12c1 : Code := { maxStack := 2, maxLocals := 2, code := jdk_67_method_3_code, exceptionTable := #[], attributes := #[] }
def k12m1 : Method := { name := "<init>", desc := "(Ljava/lang/String;)V", sig := { parameters := [(.object "java/lang/String")], returnType := none }, accessFlags := 1, code := some k12c1 }
def k12c2 : Code := { maxStack := 2, maxLocals := 2, code := jdk_67_method_7_code, exceptionTable := #[], attributes := #[] }
def k12m2 : Method := { name := "append", desc := "(Ljava/lang/String;)Ljava/lang/StringBuilder;", sig := { parameters := [(.object "java/lang/String")], returnType := some (.object "java/lang/StringBuilder") }, accessFlags := 1, code := some k12c2 }
def k12c3 : Code := { maxStack := 2, maxLocals := 2, code := jdk_67_method_14_code, exceptionTable := #[], attributes := #[] }
def k12m3 : Method := { name := "append", desc := "(C)Ljava/lang/StringBuilder;", sig := { parameters := [.char], returnType := some (.object "java/lang/StringBuilder") }, accessFlags := 1, code := some k12c3 }
def k12c4 : Code := { maxStack := 3, maxLocals := 1, code := jdk_67_method_42_code, exceptionTable := #[], attributes := #[] }
def k12m4 : Method := { name := "toString", desc := "()Ljava/lang/String;", sig := { parameters := [], returnType := some (.object "java/lang/String") }, accessFlags := 1, code := some k12c4 }
def k12c5 : Code := { maxStack := 2, maxLocals := 2, code := jdk_67_method_80_code, exceptionTable := #[], attributes := #[] }
def k12m5 : Method := { name := "append", desc := "(Ljava/lang/String;)Ljava/lang/AbstractStringBuilder;", sig := { parameters := [(.object "java/lang/String")], returnType := some (.object "java/lang/AbstractStringBuilder") }, accessFlags := 4161, code := some k12c5 }
def k12c6 : Code := { maxStack := 1, maxLocals := 1, code := jdk_67_method_93_code, exceptionTable := #[], attributes := #[] }
def k12m6 : Method := { name := "length", desc := "()I", sig := { parameters := [], returnType := some .int }, accessFlags := 4161, code := some k12c6 }
/-- java/lang/StringBuilder -/
def k12 : Class := { plain "java/lang/StringBuilder" (some 11) with
  accessFlags := 49
  interfaces := #[10, 2, 3, 4]
  cf := some (fileOf pool12 24 #[] #[{ accessFlags := 1, nameIndex := 5, descriptorIndex := 145, attributes := #[] }, { accessFlags := 1, nameIndex := 5, descriptorIndex := 9, attributes := #[] }, { accessFlags := 1, nameIndex := 27, descriptorIndex := 28, attributes := #[] }, { accessFlags := 1, nameIndex := 27, descriptorIndex := 286, attributes := #[] }, { accessFlags := 1, nameIndex := 399, descriptorIndex := 400, attributes := #[] }, { accessFlags := 4161, nameIndex := 27, descriptorIndex := 31, attributes := #[] }, { accessFlags := 4161, nameIndex := 345, descriptorIndex := 156, attributes := #[] }] 49 2 #[349, 351, 353, 355] #[{ accessFlags := 24, nameIndex := 357, descriptorIndex := 358, attributes := #[] }])
  fields := #[{ name := "serialVersionUID", type := .long, accessFlags := 24, slot := 0, constantValue := 0 }]
  methods := #[k12m0, k12m1, k12m2, k12m3, k12m4, k12m5, k12m6]
  instanceTypes := #[(.array .byte), .byte, .boolean, .int]
  staticTypes := #[.long]
  resolved := Array.replicate 422 none
  statics := none }

def pool13 : Array CpInfo := pool [(2, .class_ 4), (1, u "java/lang/Object"), (0, u "<init>"), (0, u "()V"), (1, .class_ 10), (1, u "java/lang/System"), (0, u "allowSecurityManager"), (0, u "I"), (16, u "cons"), (0, u "Ljava/io/Console;"), (77, .class_ 110), (1, u "java/lang/System$CallersHolder"), (43, u "initialErrStream"), (0, u "Ljava/io/PrintStream;"), (19, u "security"), (0, u "Ljava/lang/SecurityManager;"), (31, .class_ 209), (0, u "java/lang/System$1"), (7, u "props"), (0, u "Ljava/util/Properties;"), (2, u "lineSeparator"), (0, u "Ljava/lang/String;"), (96, .class_ 321), (1, u "java/lang/System$LoggerFinder"), (5, .class_ 328), (0, u "java/lang/System$Logger"), (67, u "err"), (2, u "out"), (91, u "notSupportedJnuEncoding"), (15, u "in"), (17, u "initialIn"), (0, u "Ljava/io/InputStream;"), (35, u "bootLayer"), (0, u "Ljava/lang/ModuleLayer;"), (99, .class_ 664), (0, u "java/lang/System$2"), (9, u "NEVER"), (2, u "MAYBE"), (49, u "arraycopy"), (0, u "(Ljava/lang/Object;ILjava/lang/Object;II)V"), (72, .class_ 802), (0, u "java/lang/System$Logger$Level")] 31

def k13m0 : Method := { name := "<init>", desc := "()V", sig := { parameters := [], returnType := none }, accessFlags := 2, code := none }
def k13m1 : Method := { name := "arraycopy", desc := "(Ljava/lang/Object;ILjava/lang/Object;II)V", sig := { parameters := [(.object "java/lang/Object"), .int, (.object "java/lang/Object"), .int, .int], returnType := none }, accessFlags := 265, code := none }
/-- java/lang/System -/
def k13 : Class := { plain "java/lang/System" (some 0) with
  accessFlags := 49
  interfaces := #[]
  cf := some (fileOf pool13 8 #[.nestMembers #[319, 327, 801, 108, 663, 208]] #[{ accessFlags := 2, nameIndex := 5, descriptorIndex := 6, attributes := #[] }, { accessFlags := 265, nameIndex := 727, descriptorIndex := 728, attributes := #[] }] 49 2 #[] #[{ accessFlags := 25, nameIndex := 507, descriptorIndex := 526, attributes := #[] }, { accessFlags := 25, nameIndex := 399, descriptorIndex := 155, attributes := #[] }, { accessFlags := 25, nameIndex := 396, descriptorIndex := 155, attributes := #[] }, { accessFlags := 10, nameIndex := 525, descriptorIndex := 526, attributes := #[] }, { accessFlags := 26, nameIndex := 674, descriptorIndex := 12, attributes := #[] }, { accessFlags := 26, nameIndex := 677, descriptorIndex := 12, attributes := #[] }, { accessFlags := 10, nameIndex := 11, descriptorIndex := 12, attributes := #[] }, { accessFlags := 74, nameIndex := 175, descriptorIndex := 176, attributes := #[] }, { accessFlags := 10, nameIndex := 491, descriptorIndex := 222, attributes := #[] }, { accessFlags := 74, nameIndex := 29, descriptorIndex := 30, attributes := #[] }, { accessFlags := 74, nameIndex := 154, descriptorIndex := 155, attributes := #[] }, { accessFlags := 10, nameIndex := 217, descriptorIndex := 218, attributes := #[] }, { accessFlags := 10, nameIndex := 221, descriptorIndex := 222, attributes := #[] }, { accessFlags := 8, nameIndex := 562, descriptorIndex := 563, attributes := #[] }])
  fields := #[{ name := "in", type := (.object "java/io/InputStream"), accessFlags := 25, slot := 0, constantValue := 0 }, { name := "out", type := (.object "java/io/PrintStream"), accessFlags := 25, slot := 1, constantValue := 0 }, { name := "err", type := (.object "java/io/PrintStream"), accessFlags := 25, slot := 2, constantValue := 0 }, { name := "initialIn", type := (.object "java/io/InputStream"), accessFlags := 10, slot := 3, constantValue := 0 }, { name := "NEVER", type := .int, accessFlags := 26, slot := 4, constantValue := 0 }, { name := "MAYBE", type := .int, accessFlags := 26, slot := 5, constantValue := 0 }, { name := "allowSecurityManager", type := .int, accessFlags := 10, slot := 6, constantValue := 0 }, { name := "security", type := (.object "java/lang/SecurityManager"), accessFlags := 74, slot := 7, constantValue := 0 }, { name := "notSupportedJnuEncoding", type := (.object "java/lang/String"), accessFlags := 10, slot := 8, constantValue := 0 }, { name := "cons", type := (.object "java/io/Console"), accessFlags := 74, slot := 9, constantValue := 0 }, { name := "initialErrStream", type := (.object "java/io/PrintStream"), accessFlags := 74, slot := 10, constantValue := 0 }, { name := "props", type := (.object "java/util/Properties"), accessFlags := 10, slot := 11, constantValue := 0 }, { name := "lineSeparator", type := (.object "java/lang/String"), accessFlags := 10, slot := 12, constantValue := 0 }, { name := "bootLayer", type := (.object "java/lang/ModuleLayer"), accessFlags := 8, slot := 13, constantValue := 0 }]
  methods := #[k13m0, k13m1]
  instanceTypes := #[]
  staticTypes := #[(.object "java/io/InputStream"), (.object "java/io/PrintStream"), (.object "java/io/PrintStream"), (.object "java/io/InputStream"), .int, .int, .int, (.object "java/lang/SecurityManager"), (.object "java/lang/String"), (.object "java/io/Console"), (.object "java/io/PrintStream"), (.object "java/util/Properties"), (.object "java/lang/String"), (.object "java/lang/ModuleLayer")]
  resolved := Array.replicate 834 none
  statics := none }

def pool14 : Array CpInfo := pool [(9, u "<init>"), (6, .class_ 18), (1, u "java/lang/Object"), (0, u "()V"), (1, .class_ 23), (1, u "jdk/internal/util/ArraysSupport"), (0, u "LOG2_ARRAY_LONG_INDEX_SCALE"), (0, u "I"), (2, u "U"), (0, u "Ljdk/internal/misc/Unsafe;"), (8, u "BIG_ENDIAN"), (0, u "Z"), (8, u "LOG2_BYTE_BIT_SIZE"), (4, u "LOG2_ARRAY_INT_INDEX_SCALE"), (54, u "JLA"), (0, u "Ljdk/internal/access/JavaLangAccess;"), (11, u "LOG2_ARRAY_BOOLEAN_INDEX_SCALE"), (9, u "LOG2_ARRAY_BYTE_INDEX_SCALE"), (5, u "LOG2_ARRAY_CHAR_INDEX_SCALE"), (5, u "LOG2_ARRAY_SHORT_INDEX_SCALE"), (18, u "LOG2_ARRAY_FLOAT_INDEX_SCALE"), (24, u "LOG2_ARRAY_DOUBLE_INDEX_SCALE"), (6, .methodref 195 196), (0, .class_ 197), (0, .nameAndType 198 199), (0, u "java/lang/Math"), (0, u "max"), (0, u "(II)I"), (0, .integer 2147483639), (76, u "T_BOOLEAN"), (2, u "T_CHAR"), (1, u "T_FLOAT"), (1, u "T_DOUBLE"), (1, u "T_BYTE"), (1, u "T_SHORT"), (1, u "T_INT"), (1, u "T_LONG"), (1, u "SOFT_MAX_ARRAY_LENGTH"), (56, u "newLength"), (0, u "(III)I")] 25

def k14m0 : Method := { name := "<init>", desc := "()V", sig := { parameters := [], returnType := none }, accessFlags := 2, code := none }
def k14c1 : Code := { maxStack := 3, maxLocals := 4, code := jdk_48_method_27_code, exceptionTable := #[], attributes := #[] }
def k14m1 : Method := { name := "newLength", desc := "(III)I", sig := { parameters := [.int, .int, .int], returnType := some .int }, accessFlags := 9, code := some k14c1 }
/-- jdk/internal/util/ArraysSupport -/
def k14 : Class := { plain "jdk/internal/util/ArraysSupport" (some 0) with
  accessFlags := 33
  interfaces := #[]
  cf := some (fileOf pool14 21 #[] #[{ accessFlags := 2, nameIndex := 9, descriptorIndex := 19, attributes := #[] }, { accessFlags := 9, nameIndex := 351, descriptorIndex := 352, attributes := #[] }] 33 16 #[] #[{ accessFlags := 24, nameIndex := 28, descriptorIndex := 29, attributes := #[] }, { accessFlags := 26, nameIndex := 38, descriptorIndex := 39, attributes := #[] }, { accessFlags := 25, nameIndex := 121, descriptorIndex := 25, attributes := #[] }, { accessFlags := 25, nameIndex := 131, descriptorIndex := 25, attributes := #[] }, { accessFlags := 25, nameIndex := 137, descriptorIndex := 25, attributes := #[] }, { accessFlags := 25, nameIndex := 143, descriptorIndex := 25, attributes := #[] }, { accessFlags := 25, nameIndex := 53, descriptorIndex := 25, attributes := #[] }, { accessFlags := 25, nameIndex := 24, descriptorIndex := 25, attributes := #[] }, { accessFlags := 25, nameIndex := 162, descriptorIndex := 25, attributes := #[] }, { accessFlags := 25, nameIndex := 187, descriptorIndex := 25, attributes := #[] }, { accessFlags := 26, nameIndex := 48, descriptorIndex := 25, attributes := #[] }, { accessFlags := 25, nameIndex := 277, descriptorIndex := 25, attributes := #[] }, { accessFlags := 25, nameIndex := 280, descriptorIndex := 25, attributes := #[] }, { accessFlags := 25, nameIndex := 282, descriptorIndex := 25, attributes := #[] }, { accessFlags := 25, nameIndex := 284, descriptorIndex := 25, attributes := #[] }, { accessFlags := 25, nameIndex := 286, descriptorIndex := 25, attributes := #[] }, { accessFlags := 25, nameIndex := 288, descriptorIndex := 25, attributes := #[] }, { accessFlags := 25, nameIndex := 290, descriptorIndex := 25, attributes := #[] }, { accessFlags := 25, nameIndex := 292, descriptorIndex := 25, attributes := #[] }, { accessFlags := 26, nameIndex := 108, descriptorIndex := 109, attributes := #[] }, { accessFlags := 25, nameIndex := 294, descriptorIndex := 25, attributes := #[] }])
  fields := #[{ name := "U", type := (.object "jdk/internal/misc/Unsafe"), accessFlags := 24, slot := 0, constantValue := 0 }, { name := "BIG_ENDIAN", type := .boolean, accessFlags := 26, slot := 1, constantValue := 0 }, { name := "LOG2_ARRAY_BOOLEAN_INDEX_SCALE", type := .int, accessFlags := 25, slot := 2, constantValue := 0 }, { name := "LOG2_ARRAY_BYTE_INDEX_SCALE", type := .int, accessFlags := 25, slot := 3, constantValue := 0 }, { name := "LOG2_ARRAY_CHAR_INDEX_SCALE", type := .int, accessFlags := 25, slot := 4, constantValue := 0 }, { name := "LOG2_ARRAY_SHORT_INDEX_SCALE", type := .int, accessFlags := 25, slot := 5, constantValue := 0 }, { name := "LOG2_ARRAY_INT_INDEX_SCALE", type := .int, accessFlags := 25, slot := 6, constantValue := 0 }, { name := "LOG2_ARRAY_LONG_INDEX_SCALE", type := .int, accessFlags := 25, slot := 7, constantValue := 0 }, { name := "LOG2_ARRAY_FLOAT_INDEX_SCALE", type := .int, accessFlags := 25, slot := 8, constantValue := 0 }, { name := "LOG2_ARRAY_DOUBLE_INDEX_SCALE", type := .int, accessFlags := 25, slot := 9, constantValue := 0 }, { name := "LOG2_BYTE_BIT_SIZE", type := .int, accessFlags := 26, slot := 10, constantValue := 0 }, { name := "T_BOOLEAN", type := .int, accessFlags := 25, slot := 11, constantValue := 0 }, { name := "T_CHAR", type := .int, accessFlags := 25, slot := 12, constantValue := 0 }, { name := "T_FLOAT", type := .int, accessFlags := 25, slot := 13, constantValue := 0 }, { name := "T_DOUBLE", type := .int, accessFlags := 25, slot := 14, constantValue := 0 }, { name := "T_BYTE", type := .int, accessFlags := 25, slot := 15, constantValue := 0 }, { name := "T_SHORT", type := .int, accessFlags := 25, slot := 16, constantValue := 0 }, { name := "T_INT", type := .int, accessFlags := 25, slot := 17, constantValue := 0 }, { name := "T_LONG", type := .int, accessFlags := 25, slot := 18, constantValue := 0 }, { name := "JLA", type := (.object "jdk/internal/access/JavaLangAccess"), accessFlags := 26, slot := 19, constantValue := 0 }, { name := "SOFT_MAX_ARRAY_LENGTH", type := .int, accessFlags := 25, slot := 20, constantValue := 0 }]
  methods := #[k14m0, k14m1]
  instanceTypes := #[]
  staticTypes := #[(.object "jdk/internal/misc/Unsafe"), .boolean, .int, .int, .int, .int, .int, .int, .int, .int, .int, .int, .int, .int, .int, .int, .int, .int, .int, (.object "jdk/internal/access/JavaLangAccess"), .int]
  resolved := Array.replicate 378 none
  statics := none }

def pool15 : Array CpInfo := pool [(1, .class_ 2), (0, u "java/lang/Math"), (1, .class_ 6), (1, u "java/lang/Object"), (0, u "<init>"), (0, u "()V"), (89, .class_ 100), (1, u "java/lang/Math$RandomNumberGeneratorHolder"), (71, u "negativeZeroFloatBits"), (0, u "J"), (2, u "negativeZeroDoubleBits"), (21, u "max"), (2, u "min"), (43, u "$assertionsDisabled"), (0, u "Z"), (88, u "(II)I"), (2, u "twoToTheDoubleScaleDown"), (0, u "D"), (4, u "twoToTheDoubleScaleUp"), (9, u "E"), (3, u "PI"), (2, u "TAU"), (2, u "DEGREES_TO_RADIANS"), (0, u "RADIANS_TO_DEGREES")] 94

def k15m0 : Method := { name := "<init>", desc := "()V", sig := { parameters := [], returnType := none }, accessFlags := 2, code := none }
def k15c1 : Code := { maxStack := 2, maxLocals := 2, code := jdk_29_method_65_code, exceptionTable := #[], attributes := #[] }
def k15m1 : Method := { name := "max", desc := "(II)I", sig := { parameters := [.int, .int], returnType := some .int }, accessFlags := 9, code := some k15c1 }
def k15c2 : Code := { maxStack := 2, maxLocals := 2, code := jdk_29_method_69_code, exceptionTable := #[], attributes := #[] }
def k15m2 : Method := { name := "min", desc := "(II)I", sig := { parameters := [.int, .int], returnType := some .int }, accessFlags := 9, code := some k15c2 }
/-- java/lang/Math -/
def k15 : Class := { plain "java/lang/Math" (some 0) with
  accessFlags := 49
  interfaces := #[]
  cf := some (fileOf pool15 1 #[.nestMembers #[98]] #[{ accessFlags := 2, nameIndex := 7, descriptorIndex := 8, attributes := #[] }, { accessFlags := 9, nameIndex := 198, descriptorIndex := 335, attributes := #[] }, { accessFlags := 9, nameIndex := 201, descriptorIndex := 335, attributes := #[] }] 49 4 #[] #[{ accessFlags := 25, nameIndex := 354, descriptorIndex := 339, attributes := #[] }, { accessFlags := 25, nameIndex := 358, descriptorIndex := 339, attributes := #[] }, { accessFlags := 25, nameIndex := 361, descriptorIndex := 339, attributes := #[] }, { accessFlags := 26, nameIndex := 364, descriptorIndex := 339, attributes := #[] }, { accessFlags := 26, nameIndex := 365, descriptorIndex := 339, attributes := #[] }, { accessFlags := 26, nameIndex := 172, descriptorIndex := 173, attributes := #[] }, { accessFlags := 26, nameIndex := 176, descriptorIndex := 173, attributes := #[] }, { accessFlags := 8, nameIndex := 344, descriptorIndex := 339, attributes := #[] }, { accessFlags := 8, nameIndex := 338, descriptorIndex := 339, attributes := #[] }, { accessFlags := 4120, nameIndex := 245, descriptorIndex := 246, attributes := #[] }])
  fields := #[{ name := "E", type := .double, accessFlags := 25, slot := 0, constantValue := 0 }, { name := "PI", type := .double, accessFlags := 25, slot := 1, constantValue := 0 }, { name := "TAU", type := .double, accessFlags := 25, slot := 2, constantValue := 0 }, { name := "DEGREES_TO_RADIANS", type := .double, accessFlags := 26, slot := 3, constantValue := 0 }, { name := "RADIANS_TO_DEGREES", type := .double, accessFlags := 26, slot := 4, constantValue := 0 }, { name := "negativeZeroFloatBits", type := .long, accessFlags := 26, slot := 5, constantValue := 0 }, { name := "negativeZeroDoubleBits", type := .long, accessFlags := 26, slot := 6, constantValue := 0 }, { name := "twoToTheDoubleScaleUp", type := .double, accessFlags := 8, slot := 7, constantValue := 0 }, { name := "twoToTheDoubleScaleDown", type := .double, accessFlags := 8, slot := 8, constantValue := 0 }, { name := "$assertionsDisabled", type := .boolean, accessFlags := 4120, slot := 9, constantValue := 0 }]
  methods := #[k15m0, k15m1, k15m2]
  instanceTypes := #[]
  staticTypes := #[.double, .double, .double, .double, .double, .long, .long, .double, .double, .boolean]
  resolved := Array.replicate 460 none
  statics := none }

def pool16 : Array CpInfo := pool [(2, .class_ 4), (1, u "java/lang/Object"), (0, u "<init>"), (0, u "()V"), (7, .class_ 16), (1, u "java/util/Arrays"), (57, .class_ 76), (1, u "java/util/Arrays$NaturalOrder"), (36, .class_ 115), (1, u "java/util/Arrays$LegacyMergeSort"), (1, u "Z"), (21, u "copyOfRange"), (10, .methodref 151 152), (0, .class_ 153), (0, .nameAndType 154 155), (0, u "java/lang/System"), (0, u "arraycopy"), (0, u "(Ljava/lang/Object;ILjava/lang/Object;II)V"), (146, u "copyOf"), (1, .methodref 305 306), (0, .class_ 307), (0, .nameAndType 308 309), (0, u "java/lang/Math"), (0, u "min"), (0, u "(II)I"), (29, .methodref 14 340), (0, .nameAndType 341 342), (0, u "copyOfRangeByte"), (0, u "([BII)[B"), (0, .methodref 14 344), (0, .nameAndType 345 346), (0, u "checkLength"), (0, u "(II)V"), (28, .class_ 376), (0, u "java/util/Arrays$ArrayList"), (68, u "$assertionsDisabled"), (269, u "MIN_ARRAY_SORT_GRAN"), (0, u "I"), (2, u "INSERTIONSORT_THRESHOLD"), (149, u "([BI)[B"), (105, .class_ 976), (0, u "java/util/Arrays$ArrayItr")] 52

def k16m0 : Method := { name := "<init>", desc := "()V", sig := { parameters := [], returnType := none }, accessFlags := 2, code := none }
def k16c1 : Code := { maxStack := 6, maxLocals := 3, code := jdk_65_method_121_code, exceptionTable := #[], attributes := #[] }
def k16m1 : Method := { name := "copyOf", desc := "([BI)[B", sig := { parameters := [(.array .byte), .int], returnType := some (.array .byte) }, accessFlags := 9, code := some k16c1 }
def k16c2 : Code := { maxStack := 4, maxLocals := 2, code := jdk_65_method_131_code, exceptionTable := #[], attributes := #[] }
def k16m2 : Method := { name := "checkLength", desc := "(II)V", sig := { parameters := [.int, .int], returnType := none }, accessFlags := 10, code := some k16c2 }
def k16c3 : Code := { maxStack := 3, maxLocals := 3, code := jdk_65_method_132_code, exceptionTable := #[], attributes := #[] }
def k16m3 : Method := { name := "copyOfRange", desc := "([BII)[B", sig := { parameters := [(.array .byte), .int, .int], returnType := some (.array .byte) }, accessFlags := 9, code := some k16c3 }
def k16c4 : Code := { maxStack := 6, maxLocals := 5, code := jdk_65_method_133_code, exceptionTable := #[], attributes := #[] }
def k16m4 : Method := { name := "copyOfRangeByte", desc := "([BII)[B", sig := { parameters := [(.array .byte), .int, .int], returnType := some (.array .byte) }, accessFlags := 10, code := some k16c4 }
/-- java/util/Arrays -/
def k16 : Class := { plain "java/util/Arrays" (some 0) with
  accessFlags := 49
  interfaces := #[]
  cf := some (fileOf pool16 14 #[.nestMembers #[975, 375, 113, 74]] #[{ accessFlags := 2, nameIndex := 5, descriptorIndex := 6, attributes := #[] }, { accessFlags := 9, nameIndex := 302, descriptorIndex := 869, attributes := #[] }, { accessFlags := 10, nameIndex := 345, descriptorIndex := 346, attributes := #[] }, { accessFlags := 9, nameIndex := 139, descriptorIndex := 342, attributes := #[] }, { accessFlags := 10, nameIndex := 341, descriptorIndex := 342, attributes := #[] }] 49 2 #[] #[{ accessFlags := 26, nameIndex := 715, descriptorIndex := 716, attributes := #[] }, { accessFlags := 26, nameIndex := 719, descriptorIndex := 716, attributes := #[] }, { accessFlags := 4120, nameIndex := 445, descriptorIndex := 117, attributes := #[] }])
  fields := #[{ name := "MIN_ARRAY_SORT_GRAN", type := .int, accessFlags := 26, slot := 0, constantValue := 0 }, { name := "INSERTIONSORT_THRESHOLD", type := .int, accessFlags := 26, slot := 1, constantValue := 0 }, { name := "$assertionsDisabled", type := .boolean, accessFlags := 4120, slot := 2, constantValue := 0 }]
  methods := #[k16m0, k16m1, k16m2, k16m3, k16m4]
  instanceTypes := #[]
  staticTypes := #[.int, .int, .boolean]
  resolved := Array.replicate 1029 none
  statics := none }

def pool17 : Array CpInfo := pool [(4, .class_ 6), (1, u "java/lang/Object"), (0, u "<init>"), (0, u "()V"), (5, .class_ 16), (1, u "java/lang/StringLatin1"), (73, u "canEncode"), (14, u "(C)Z"), (15, u "$assertionsDisabled"), (0, u "Z"), (98, .class_ 223), (1, u "java/lang/StringLatin1$LinesSpliterator"), (57, u "equals"), (0, u "([B[B)Z"), (107, .class_ 391), (0, u "java/lang/StringLatin1$CharsSpliterator")] 3

def k17m0 : Method := { name := "<init>", desc := "()V", sig := { parameters := [], returnType := none }, accessFlags := 0, code := none }
def k17c1 : Code := { maxStack := 2, maxLocals := 1, code := jdk_43_method_3_code, exceptionTable := #[], attributes := #[] }
def k17m1 : Method := { name := "canEncode", desc := "(C)Z", sig := { parameters := [.char], returnType := some .boolean }, accessFlags := 9, code := some k17c1 }
def k17c2 : Code := { maxStack := 3, maxLocals := 3, code := jdk_43_method_13_code, exceptionTable := #[], attributes := #[] }
def k17m2 : Method := { name := "equals", desc := "([B[B)Z", sig := { parameters := [(.array .byte), (.array .byte)], returnType := some .boolean }, accessFlags := 9, code := some k17c2 }
/-- java/lang/StringLatin1 -/
def k17 : Class := { plain "java/lang/StringLatin1" (some 0) with
  accessFlags := 48
  interfaces := #[]
  cf := some (fileOf pool17 14 #[.nestMembers #[390, 221]] #[{ accessFlags := 0, nameIndex := 7, descriptorIndex := 8, attributes := #[] }, { accessFlags := 9, nameIndex := 90, descriptorIndex := 105, attributes := #[] }, { accessFlags := 9, nameIndex := 281, descriptorIndex := 282, attributes := #[] }] 48 4 #[] #[{ accessFlags := 4120, nameIndex := 121, descriptorIndex := 122, attributes := #[] }])
  fields := #[{ name := "$assertionsDisabled", type := .boolean, accessFlags := 4120, slot := 0, constantValue := 0 }]
  methods := #[k17m0, k17m1, k17m2]
  instanceTypes := #[]
  staticTypes := #[.boolean]
  resolved := Array.replicate 395 none
  statics := none }

def pool18 : Array CpInfo := pool [(2, .class_ 4), (1, u "java/lang/Object"), (0, u "<init>"), (0, u "()V"), (17, .class_ 26), (1, u "jdk/internal/util/Preconditions"), (28, .class_ 56), (0, u "jdk/internal/util/Preconditions$4"), (57, .class_ 115), (0, u "jdk/internal/util/Preconditions$1"), (7, u "SIOOBE_FORMATTER"), (0, u "Ljava/util/function/BiFunction;"), (0, .class_ 126), (0, u "jdk/internal/util/Preconditions$2"), (3, u "AIOOBE_FORMATTER"), (0, .class_ 132), (0, u "jdk/internal/util/Preconditions$3"), (3, u "IOOBE_FORMATTER")] 57

def k18m0 : Method := { name := "<init>", desc := "()V", sig := { parameters := [], returnType := none }, accessFlags := 1, code := none }
/-- jdk/internal/util/Preconditions -/
def k18 : Class := { plain "jdk/internal/util/Preconditions" (some 0) with
  accessFlags := 33
  interfaces := #[]
  cf := some (fileOf pool18 24 #[.nestMembers #[55, 131, 125, 114]] #[{ accessFlags := 1, nameIndex := 5, descriptorIndex := 6, attributes := #[] }] 33 2 #[] #[{ accessFlags := 25, nameIndex := 123, descriptorIndex := 124, attributes := #[] }, { accessFlags := 25, nameIndex := 130, descriptorIndex := 124, attributes := #[] }, { accessFlags := 25, nameIndex := 136, descriptorIndex := 124, attributes := #[] }])
  fields := #[{ name := "SIOOBE_FORMATTER", type := (.object "java/util/function/BiFunction"), accessFlags := 25, slot := 0, constantValue := 0 }, { name := "AIOOBE_FORMATTER", type := (.object "java/util/function/BiFunction"), accessFlags := 25, slot := 1, constantValue := 0 }, { name := "IOOBE_FORMATTER", type := (.object "java/util/function/BiFunction"), accessFlags := 25, slot := 2, constantValue := 0 }]
  methods := #[k18m0]
  instanceTypes := #[]
  staticTypes := #[(.object "java/util/function/BiFunction"), (.object "java/util/function/BiFunction"), (.object "java/util/function/BiFunction")]
  resolved := Array.replicate 194 none
  statics := some 1 }

def pool19 : Array CpInfo := pool [(1, u "java/lang/Cloneable"), (0, .class_ 1), (0, u "java/lang/Object"), (0, .class_ 3)] 3

/-- java/lang/Cloneable -/
def k19 : Class := { plain "java/lang/Cloneable" (some 0) with
  accessFlags := 1537
  interfaces := #[]
  cf := some (fileOf pool19 2 #[] #[] 1537 4 #[] #[])
  fields := #[]
  methods := #[]
  instanceTypes := #[]
  staticTypes := #[]
  resolved := Array.replicate 8 none
  statics := none }

/-- the primitive byte -/
def k20 : Class := { plain "byte" none with kind := .primitive 'B', accessFlags := 0x411 }
/-- [B -/
def k21 : Class := { plain "[B" (some 0) with kind := .array 20 .byte, interfaces := #[19, 2], accessFlags := 1041 }

/-- the primitive char -/
def k22 : Class := { plain "char" none with kind := .primitive 'C', accessFlags := 0x411 }
/-- [C -/
def k23 : Class := { plain "[C" (some 0) with kind := .array 22 .char, interfaces := #[19, 2], accessFlags := 1041 }

/-- the primitive int -/
def k24 : Class := { plain "int" none with kind := .primitive 'I', accessFlags := 0x411 }
/-- [I -/
def k25 : Class := { plain "[I" (some 0) with kind := .array 24 .int, interfaces := #[19, 2], accessFlags := 1041 }

/-- [Ljava/lang/String; -/
def k26 : Class := { plain "[Ljava/lang/String;" (some 0) with kind := .array 7 (.object "java/lang/String"), interfaces := #[19, 2], accessFlags := 1041 }

def heap : Heap := #[{ cls := 7, slots := #[.long 0, .int 1, .null, .int 0, .null, .int 0, .int 0], vm := .statics 7 },
  { cls := 18, slots := #[.null, .null, .null], vm := .statics 18 }]
def classes : Array Class := #[k0, k1, k2, k3, k4, k5, k6, k7, k8, k9, k10, k11, k12, k13, k14, k15, k16, k17, k18, k19, k20, k21, k22, k23, k24, k25, k26]
def interned : List (Array UInt16 × Addr) := []
def slotsUsed : Nat := 10
def theMethod : MethodId := ⟨1, 3⟩
def args0 : Array Value := #[.int 1, .int 2, .int 3, .int 4]
def aboutOver (below : List Frame) : State where
  vm := { classes := classes, interned := interned.toArray }
  heap := heap
  slotsUsed := slotsUsed
  threads := #[{ frames := .invoking theMethod args0 :: below }]
def below0 : List Frame := [.native { method := ⟨0, 0⟩, args := #[] }]
def about1 : State := aboutOver below0
def p0 : Program := .bare "" "" ""
def e0 : Env := launch0.env 0 0 0
theorem w_frames : about1.frames = Frame.invoking theMethod args0 :: below0 := rfl
set_option maxRecDepth 65536 in
theorem w_args : argsFit about1.vm theMethod args0 = true := by decide +kernel
set_option maxRecDepth 65536 in
theorem w_heap : heapFits about1 = true := by decide +kernel
set_option maxRecDepth 65536 in
theorem w_runnable : about1.curStatus? = some .runnable := by decide +kernel
set_option maxRecDepth 65536 in
theorem w_alone : about1.alone = true := by decide +kernel
set_option maxRecDepth 65536 in
theorem w_named : about1.methodNamed? x = some theMethod := by decide +kernel
set_option maxRecDepth 65536 in
theorem w_hears : about1.hears theMethod below0 = true := by decide +kernel
set_option maxRecDepth 65536 in
theorem w_ripe : about1.ripe theMethod args0 below0 = true := by decide +kernel
theorem w_running : about1.status = .running := rfl
set_option maxRecDepth 65536 in
theorem w_room : about1.hasRoom e0.platform room_1 = true :=
  launch0.hasRoom_least _ room_1 (by decide +kernel) (by decide +kernel) (by decide +kernel) (by decide +kernel) (by decide +kernel) (by decide +kernel)
theorem allAtoms_all (ts : List Jvm.Cond) (a : Array Jvm.Value) (st : Jvm.State) : (allAtoms ts).before a st = ts.all (fun c => c.before a st) := by
  induction ts with
  | nil => rfl
  | cons c t ih =>
    show (Jvm.Cond.and c (allAtoms t)).before a st = _
    rw [Jvm.Cond.before_and, ih, List.all_cons]
def words1 : List Jvm.Cond := Jvm.Cond.code x code maxLocals ret :: tables_1
/-- a 'code' word, met by the world's own term for the bytes: nothing is compared byte by byte -/
theorem code_word {y : MethodName} {bytes : ByteArray} {mx : Nat} {rt : Option FieldType} {a : Array Value} {s : State} {m : MethodId} {meth : Method} {c : Code} (h1 : s.methodNamed? y = some m) (h2 : s.vm.method? m = some meth) (h3 : meth.code = some c) (h4 : c.code = bytes)
    (h5 : (c.maxLocals == mx && c.exceptionTable.isEmpty && decide (c.maxStack ≤ mostOperands) && decide (meth.sig.returnType = rt) && !meth.locks && decide (parseMethodDescriptor y.desc = some meth.sig)) = true) : (Jvm.Cond.code y bytes mx rt).before a s = true := by
  simp only [Bool.and_eq_true, beq_iff_eq, Bool.not_eq_true', decide_eq_true_eq] at h5
  obtain ⟨⟨⟨⟨⟨g1, g2⟩, g3⟩, g4⟩, g5⟩, g6⟩ := h5
  simp [Cond.before, Cond.holds, Cond.value, h1, h2, h3, h4, g1, g2, g3, g4, g5, g6]
def isCode : Jvm.Cond → Bool
  | .code _ _ _ _ => true
  | _ => false
theorem all_split {L : List Jvm.Cond} {P : Jvm.Cond → Bool} (h1 : L.all (fun c => isCode c || P c) = true) (h2 : ∀ c ∈ L.filter isCode, P c = true) : L.all P = true := by
  refine List.all_eq_true.mpr fun c hc => ?_
  have h := List.all_eq_true.mp h1 c hc
  rcases Bool.eq_false_or_eq_true (isCode c) with hi | hi
  · exact h2 c (List.mem_filter.mpr ⟨hc, hi⟩)
  · simpa [hi] using h
set_option maxRecDepth 65536 in
theorem w_c0 : (Jvm.Cond.code x code maxLocals ret).before args0 about1 = true := code_word (m := ⟨1, 3⟩) (meth := k1m3) (c := k1c3) (by decide +kernel) rfl rfl rfl (by decide +kernel)
set_option maxRecDepth 65536 in
theorem w_c1 : (Jvm.Cond.code ({ cls := "java/lang/String", name := "<init>", desc := "([C)V" } : Jvm.MethodName) jdk_42_method_3_code (2 : Nat) (Option.none : Option Jvm.ClassFile.FieldType)).before args0 about1 = true := code_word (m := ⟨7, 1⟩) (meth := k7m1) (c := k7c1) (by decide +kernel) rfl rfl rfl (by decide +kernel)
set_option maxRecDepth 65536 in
theorem w_c2 : (Jvm.Cond.code ({ cls := "java/lang/String", name := "<init>", desc := "([CIILjava/lang/Void;)V" } : Jvm.MethodName) jdk_42_method_149_code (6 : Nat) (Option.none : Option Jvm.ClassFile.FieldType)).before args0 about1 = true := code_word (m := ⟨7, 6⟩) (meth := k7m6) (c := k7c6) (by decide +kernel) rfl rfl rfl (by decide +kernel)
set_option maxRecDepth 65536 in
theorem w_c3 : (Jvm.Cond.code ({ cls := "java/lang/Object", name := "<init>", desc := "()V" } : Jvm.MethodName) object_method_1_code (1 : Nat) (Option.none : Option Jvm.ClassFile.FieldType)).before args0 about1 = true := code_word (m := ⟨0, 0⟩) (meth := k0m0) (c := k0c0) (by decide +kernel) rfl rfl rfl (by decide +kernel)
set_option maxRecDepth 65536 in
theorem w_c4 : (Jvm.Cond.code ({ cls := "java/lang/StringUTF16", name := "compress", desc := "([CII)[B" } : Jvm.MethodName) jdk_52_method_16_code (6 : Nat) (Option.some (Jvm.ClassFile.FieldType.array Jvm.ClassFile.FieldType.byte))).before args0 about1 = true := code_word (m := ⟨8, 2⟩) (meth := k8m2) (c := k8c2) (by decide +kernel) rfl rfl rfl (by decide +kernel)
set_option maxRecDepth 65536 in
theorem w_c5 : (Jvm.Cond.code ({ cls := "java/lang/StringUTF16", name := "compress", desc := "([CI[BII)I" } : Jvm.MethodName) jdk_52_method_21_code (7 : Nat) (Option.some Jvm.ClassFile.FieldType.int)).before args0 about1 = true := code_word (m := ⟨8, 3⟩) (meth := k8m3) (c := k8c3) (by decide +kernel) rfl rfl rfl (by decide +kernel)
set_option maxRecDepth 65536 in
theorem w_c6 : (Jvm.Cond.code ({ cls := "java/lang/StringUTF16", name := "coderFromArrayLen", desc := "([BI)B" } : Jvm.MethodName) jdk_52_method_15_code (2 : Nat) (Option.some Jvm.ClassFile.FieldType.byte)).before args0 about1 = true := code_word (m := ⟨8, 1⟩) (meth := k8m1) (c := k8c1) (by decide +kernel) rfl rfl rfl (by decide +kernel)
set_option maxRecDepth 65536 in
theorem w_c7 : (Jvm.Cond.code ({ cls := "com/example/oath_bearer/oathbearer/web/AuthorizationHeaderChallengePinLaw", name := "head", desc := "([CCC)V" } : Jvm.MethodName) method_2_code (3 : Nat) (Option.none : Option Jvm.ClassFile.FieldType)).before args0 about1 = true := code_word (m := ⟨1, 1⟩) (meth := k1m1) (c := k1c1) (by decide +kernel) rfl rfl rfl (by decide +kernel)
set_option maxRecDepth 65536 in
theorem w_c8 : (Jvm.Cond.code ({ cls := "com/example/oath_bearer/oathbearer/web/AuthorizationHeaderChallengePinLaw", name := "param", desc := "([CICC)V" } : Jvm.MethodName) method_3_code (4 : Nat) (Option.none : Option Jvm.ClassFile.FieldType)).before args0 about1 = true := code_word (m := ⟨1, 2⟩) (meth := k1m2) (c := k1c2) (by decide +kernel) rfl rfl rfl (by decide +kernel)
set_option maxRecDepth 65536 in
theorem w_c9 : (Jvm.Cond.code ({ cls := "com/example/oath_bearer/oathbearer/web/AuthorizationHeader", name := "challenge", desc := "(Ljava/lang/String;[Ljava/lang/String;)Ljava/lang/String;" } : Jvm.MethodName) prog_20_method_2_code (7 : Nat) (Option.some (Jvm.ClassFile.FieldType.object "java/lang/String"))).before args0 about1 = true := code_word (m := ⟨9, 1⟩) (meth := k9m1) (c := k9c1) (by decide +kernel) rfl rfl rfl (by decide +kernel)
set_option maxRecDepth 65536 in
theorem w_c10 : (Jvm.Cond.code ({ cls := "java/lang/StringBuilder", name := "<init>", desc := "(Ljava/lang/String;)V" } : Jvm.MethodName) jdk_67_method_3_code (2 : Nat) (Option.none : Option Jvm.ClassFile.FieldType)).before args0 about1 = true := code_word (m := ⟨12, 1⟩) (meth := k12m1) (c := k12c1) (by decide +kernel) rfl rfl rfl (by decide +kernel)
set_option maxRecDepth 65536 in
theorem w_c11 : (Jvm.Cond.code ({ cls := "java/lang/AbstractStringBuilder", name := "<init>", desc := "(Ljava/lang/String;)V" } : Jvm.MethodName) jdk_68_method_3_code (5 : Nat) (Option.none : Option Jvm.ClassFile.FieldType)).before args0 about1 = true := code_word (m := ⟨11, 1⟩) (meth := k11m1) (c := k11c1) (by decide +kernel) rfl rfl rfl (by decide +kernel)
set_option maxRecDepth 65536 in
theorem w_c12 : (Jvm.Cond.code ({ cls := "java/lang/String", name := "length", desc := "()I" } : Jvm.MethodName) jdk_42_method_54_code (1 : Nat) (Option.some Jvm.ClassFile.FieldType.int)).before args0 about1 = true := code_word (m := ⟨7, 3⟩) (meth := k7m3) (c := k7c3) (by decide +kernel) rfl rfl rfl (by decide +kernel)
set_option maxRecDepth 65536 in
theorem w_c13 : (Jvm.Cond.code ({ cls := "java/lang/String", name := "coder", desc := "()B" } : Jvm.MethodName) jdk_42_method_152_code (1 : Nat) (Option.some Jvm.ClassFile.FieldType.byte)).before args0 about1 = true := code_word (m := ⟨7, 8⟩) (meth := k7m8) (c := k7c8) (by decide +kernel) rfl rfl rfl (by decide +kernel)
set_option maxRecDepth 65536 in
theorem w_c14 : (Jvm.Cond.code ({ cls := "java/lang/StringBuilder", name := "append", desc := "(Ljava/lang/String;)Ljava/lang/AbstractStringBuilder;" } : Jvm.MethodName) jdk_67_method_80_code (2 : Nat) (Option.some (Jvm.ClassFile.FieldType.object "java/lang/AbstractStringBuilder"))).before args0 about1 = true := code_word (m := ⟨12, 5⟩) (meth := k12m5) (c := k12c5) (by decide +kernel) rfl rfl rfl (by decide +kernel)
set_option maxRecDepth 65536 in
theorem w_c15 : (Jvm.Cond.code ({ cls := "java/lang/StringBuilder", name := "append", desc := "(Ljava/lang/String;)Ljava/lang/StringBuilder;" } : Jvm.MethodName) jdk_67_method_7_code (2 : Nat) (Option.some (Jvm.ClassFile.FieldType.object "java/lang/StringBuilder"))).before args0 about1 = true := code_word (m := ⟨12, 2⟩) (meth := k12m2) (c := k12c2) (by decide +kernel) rfl rfl rfl (by decide +kernel)
set_option maxRecDepth 65536 in
theorem w_c16 : (Jvm.Cond.code ({ cls := "java/lang/AbstractStringBuilder", name := "append", desc := "(Ljava/lang/String;)Ljava/lang/AbstractStringBuilder;" } : Jvm.MethodName) jdk_68_method_22_code (3 : Nat) (Option.some (Jvm.ClassFile.FieldType.object "java/lang/AbstractStringBuilder"))).before args0 about1 = true := code_word (m := ⟨11, 5⟩) (meth := k11m5) (c := k11c5) (by decide +kernel) rfl rfl rfl (by decide +kernel)
set_option maxRecDepth 65536 in
theorem w_c17 : (Jvm.Cond.code ({ cls := "java/lang/AbstractStringBuilder", name := "ensureCapacityInternal", desc := "(I)V" } : Jvm.MethodName) jdk_68_method_9_code (3 : Nat) (Option.none : Option Jvm.ClassFile.FieldType)).before args0 about1 = true := code_word (m := ⟨11, 3⟩) (meth := k11m3) (c := k11c3) (by decide +kernel) rfl rfl rfl (by decide +kernel)
set_option maxRecDepth 65536 in
theorem w_c18 : (Jvm.Cond.code ({ cls := "java/lang/AbstractStringBuilder", name := "putStringAt", desc := "(ILjava/lang/String;)V" } : Jvm.MethodName) jdk_68_method_73_code (3 : Nat) (Option.none : Option Jvm.ClassFile.FieldType)).before args0 about1 = true := code_word (m := ⟨11, 10⟩) (meth := k11m10) (c := k11c10) (by decide +kernel) rfl rfl rfl (by decide +kernel)
set_option maxRecDepth 65536 in
theorem w_c19 : (Jvm.Cond.code ({ cls := "java/lang/AbstractStringBuilder", name := "inflateIfNeededFor", desc := "(Ljava/lang/String;)V" } : Jvm.MethodName) jdk_68_method_71_code (2 : Nat) (Option.none : Option Jvm.ClassFile.FieldType)).before args0 about1 = true := code_word (m := ⟨11, 9⟩) (meth := k11m9) (c := k11c9) (by decide +kernel) rfl rfl rfl (by decide +kernel)
set_option maxRecDepth 65536 in
theorem w_c20 : (Jvm.Cond.code ({ cls := "java/lang/String", name := "getBytes", desc := "([BIB)V" } : Jvm.MethodName) jdk_42_method_147_code (4 : Nat) (Option.none : Option Jvm.ClassFile.FieldType)).before args0 about1 = true := code_word (m := ⟨7, 5⟩) (meth := k7m5) (c := k7c5) (by decide +kernel) rfl rfl rfl (by decide +kernel)
set_option maxRecDepth 65536 in
theorem w_c21 : (Jvm.Cond.code ({ cls := "java/lang/AbstractStringBuilder", name := "newCapacity", desc := "(I)I" } : Jvm.MethodName) jdk_68_method_10_code (6 : Nat) (Option.some Jvm.ClassFile.FieldType.int)).before args0 about1 = true := code_word (m := ⟨11, 4⟩) (meth := k11m4) (c := k11c4) (by decide +kernel) rfl rfl rfl (by decide +kernel)
set_option maxRecDepth 65536 in
theorem w_c22 : (Jvm.Cond.code ({ cls := "jdk/internal/util/ArraysSupport", name := "newLength", desc := "(III)I" } : Jvm.MethodName) jdk_48_method_27_code (4 : Nat) (Option.some Jvm.ClassFile.FieldType.int)).before args0 about1 = true := code_word (m := ⟨14, 1⟩) (meth := k14m1) (c := k14c1) (by decide +kernel) rfl rfl rfl (by decide +kernel)
set_option maxRecDepth 65536 in
theorem w_c23 : (Jvm.Cond.code ({ cls := "java/lang/Math", name := "max", desc := "(II)I" } : Jvm.MethodName) jdk_29_method_65_code (2 : Nat) (Option.some Jvm.ClassFile.FieldType.int)).before args0 about1 = true := code_word (m := ⟨15, 1⟩) (meth := k15m1) (c := k15c1) (by decide +kernel) rfl rfl rfl (by decide +kernel)
set_option maxRecDepth 65536 in
theorem w_c24 : (Jvm.Cond.code ({ cls := "java/util/Arrays", name := "copyOf", desc := "([BI)[B" } : Jvm.MethodName) jdk_65_method_121_code (3 : Nat) (Option.some (Jvm.ClassFile.FieldType.array Jvm.ClassFile.FieldType.byte))).before args0 about1 = true := code_word (m := ⟨16, 1⟩) (meth := k16m1) (c := k16c1) (by decide +kernel) rfl rfl rfl (by decide +kernel)
set_option maxRecDepth 65536 in
theorem w_c25 : (Jvm.Cond.code ({ cls := "java/lang/Math", name := "min", desc := "(II)I" } : Jvm.MethodName) jdk_29_method_69_code (2 : Nat) (Option.some Jvm.ClassFile.FieldType.int)).before args0 about1 = true := code_word (m := ⟨15, 2⟩) (meth := k15m2) (c := k15c2) (by decide +kernel) rfl rfl rfl (by decide +kernel)
set_option maxRecDepth 65536 in
theorem w_c26 : (Jvm.Cond.code ({ cls := "java/lang/StringBuilder", name := "append", desc := "(C)Ljava/lang/StringBuilder;" } : Jvm.MethodName) jdk_67_method_14_code (2 : Nat) (Option.some (Jvm.ClassFile.FieldType.object "java/lang/StringBuilder"))).before args0 about1 = true := code_word (m := ⟨12, 3⟩) (meth := k12m3) (c := k12c3) (by decide +kernel) rfl rfl rfl (by decide +kernel)
set_option maxRecDepth 65536 in
theorem w_c27 : (Jvm.Cond.code ({ cls := "java/lang/AbstractStringBuilder", name := "append", desc := "(C)Ljava/lang/AbstractStringBuilder;" } : Jvm.MethodName) jdk_68_method_31_code (2 : Nat) (Option.some (Jvm.ClassFile.FieldType.object "java/lang/AbstractStringBuilder"))).before args0 about1 = true := code_word (m := ⟨11, 6⟩) (meth := k11m6) (c := k11c6) (by decide +kernel) rfl rfl rfl (by decide +kernel)
set_option maxRecDepth 65536 in
theorem w_c28 : (Jvm.Cond.code ({ cls := "java/lang/AbstractStringBuilder", name := "isLatin1", desc := "()Z" } : Jvm.MethodName) jdk_68_method_68_code (1 : Nat) (Option.some Jvm.ClassFile.FieldType.boolean)).before args0 about1 = true := code_word (m := ⟨11, 8⟩) (meth := k11m8) (c := k11c8) (by decide +kernel) rfl rfl rfl (by decide +kernel)
set_option maxRecDepth 65536 in
theorem w_c29 : (Jvm.Cond.code ({ cls := "java/lang/StringLatin1", name := "canEncode", desc := "(C)Z" } : Jvm.MethodName) jdk_43_method_3_code (1 : Nat) (Option.some Jvm.ClassFile.FieldType.boolean)).before args0 about1 = true := code_word (m := ⟨17, 1⟩) (meth := k17m1) (c := k17c1) (by decide +kernel) rfl rfl rfl (by decide +kernel)
set_option maxRecDepth 65536 in
theorem w_c30 : (Jvm.Cond.code ({ cls := "java/lang/StringBuilder", name := "toString", desc := "()Ljava/lang/String;" } : Jvm.MethodName) jdk_67_method_42_code (1 : Nat) (Option.some (Jvm.ClassFile.FieldType.object "java/lang/String"))).before args0 about1 = true := code_word (m := ⟨12, 4⟩) (meth := k12m4) (c := k12c4) (by decide +kernel) rfl rfl rfl (by decide +kernel)
set_option maxRecDepth 65536 in
theorem w_c31 : (Jvm.Cond.code ({ cls := "java/lang/String", name := "<init>", desc := "(Ljava/lang/StringBuilder;)V" } : Jvm.MethodName) jdk_42_method_53_code (2 : Nat) (Option.none : Option Jvm.ClassFile.FieldType)).before args0 about1 = true := code_word (m := ⟨7, 2⟩) (meth := k7m2) (c := k7c2) (by decide +kernel) rfl rfl rfl (by decide +kernel)
set_option maxRecDepth 65536 in
theorem w_c32 : (Jvm.Cond.code ({ cls := "java/lang/String", name := "<init>", desc := "(Ljava/lang/AbstractStringBuilder;Ljava/lang/Void;)V" } : Jvm.MethodName) jdk_42_method_150_code (5 : Nat) (Option.none : Option Jvm.ClassFile.FieldType)).before args0 about1 = true := code_word (m := ⟨7, 7⟩) (meth := k7m7) (c := k7c7) (by decide +kernel) rfl rfl rfl (by decide +kernel)
set_option maxRecDepth 65536 in
theorem w_c33 : (Jvm.Cond.code ({ cls := "java/lang/AbstractStringBuilder", name := "getValue", desc := "()[B" } : Jvm.MethodName) jdk_68_method_64_code (1 : Nat) (Option.some (Jvm.ClassFile.FieldType.array Jvm.ClassFile.FieldType.byte))).before args0 about1 = true := code_word (m := ⟨11, 7⟩) (meth := k11m7) (c := k11c7) (by decide +kernel) rfl rfl rfl (by decide +kernel)
set_option maxRecDepth 65536 in
theorem w_c34 : (Jvm.Cond.code ({ cls := "java/lang/StringBuilder", name := "length", desc := "()I" } : Jvm.MethodName) jdk_67_method_93_code (1 : Nat) (Option.some Jvm.ClassFile.FieldType.int)).before args0 about1 = true := code_word (m := ⟨12, 6⟩) (meth := k12m6) (c := k12c6) (by decide +kernel) rfl rfl rfl (by decide +kernel)
set_option maxRecDepth 65536 in
theorem w_c35 : (Jvm.Cond.code ({ cls := "java/lang/AbstractStringBuilder", name := "length", desc := "()I" } : Jvm.MethodName) jdk_68_method_6_code (1 : Nat) (Option.some Jvm.ClassFile.FieldType.int)).before args0 about1 = true := code_word (m := ⟨11, 2⟩) (meth := k11m2) (c := k11c2) (by decide +kernel) rfl rfl rfl (by decide +kernel)
set_option maxRecDepth 65536 in
theorem w_c36 : (Jvm.Cond.code ({ cls := "java/util/Arrays", name := "copyOfRange", desc := "([BII)[B" } : Jvm.MethodName) jdk_65_method_132_code (3 : Nat) (Option.some (Jvm.ClassFile.FieldType.array Jvm.ClassFile.FieldType.byte))).before args0 about1 = true := code_word (m := ⟨16, 3⟩) (meth := k16m3) (c := k16c3) (by decide +kernel) rfl rfl rfl (by decide +kernel)
set_option maxRecDepth 65536 in
theorem w_c37 : (Jvm.Cond.code ({ cls := "java/util/Arrays", name := "copyOfRangeByte", desc := "([BII)[B" } : Jvm.MethodName) jdk_65_method_133_code (5 : Nat) (Option.some (Jvm.ClassFile.FieldType.array Jvm.ClassFile.FieldType.byte))).before args0 about1 = true := code_word (m := ⟨16, 4⟩) (meth := k16m4) (c := k16c4) (by decide +kernel) rfl rfl rfl (by decide +kernel)
set_option maxRecDepth 65536 in
theorem w_c38 : (Jvm.Cond.code ({ cls := "java/util/Arrays", name := "checkLength", desc := "(II)V" } : Jvm.MethodName) jdk_65_method_131_code (2 : Nat) (Option.none : Option Jvm.ClassFile.FieldType)).before args0 about1 = true := code_word (m := ⟨16, 2⟩) (meth := k16m2) (c := k16c2) (by decide +kernel) rfl rfl rfl (by decide +kernel)
set_option maxRecDepth 65536 in
theorem w_c39 : (Jvm.Cond.code ({ cls := "java/lang/String", name := "equals", desc := "(Ljava/lang/Object;)Z" } : Jvm.MethodName) jdk_42_method_66_code (3 : Nat) (Option.some Jvm.ClassFile.FieldType.boolean)).before args0 about1 = true := code_word (m := ⟨7, 4⟩) (meth := k7m4) (c := k7c4) (by decide +kernel) rfl rfl rfl (by decide +kernel)
set_option maxRecDepth 65536 in
theorem w_c40 : (Jvm.Cond.code ({ cls := "java/lang/StringLatin1", name := "equals", desc := "([B[B)Z" } : Jvm.MethodName) jdk_43_method_13_code (3 : Nat) (Option.some Jvm.ClassFile.FieldType.boolean)).before args0 about1 = true := code_word (m := ⟨17, 2⟩) (meth := k17m2) (c := k17c2) (by decide +kernel) rfl rfl rfl (by decide +kernel)
def codes1 : List Jvm.Cond := [Jvm.Cond.code x code maxLocals ret, Jvm.Cond.code ({ cls := "java/lang/String", name := "<init>", desc := "([C)V" } : Jvm.MethodName) jdk_42_method_3_code (2 : Nat) (Option.none : Option Jvm.ClassFile.FieldType), Jvm.Cond.code ({ cls := "java/lang/String", name := "<init>", desc := "([CIILjava/lang/Void;)V" } : Jvm.MethodName) jdk_42_method_149_code (6 : Nat) (Option.none : Option Jvm.ClassFile.FieldType), Jvm.Cond.code ({ cls := "java/lang/Object", name := "<init>", desc := "()V" } : Jvm.MethodName) object_method_1_code (1 : Nat) (Option.none : Option Jvm.ClassFile.FieldType), Jvm.Cond.code ({ cls := "java/lang/StringUTF16", name := "compress", desc := "([CII)[B" } : Jvm.MethodName) jdk_52_method_16_code (6 : Nat) (Option.some (Jvm.ClassFile.FieldType.array Jvm.ClassFile.FieldType.byte)), Jvm.Cond.code ({ cls := "java/lang/StringUTF16", name := "compress", desc := "([CI[BII)I" } : Jvm.MethodName) jdk_52_method_21_code (7 : Nat) (Option.some Jvm.ClassFile.FieldType.int), Jvm.Cond.code ({ cls := "java/lang/StringUTF16", name := "coderFromArrayLen", desc := "([BI)B" } : Jvm.MethodName) jdk_52_method_15_code (2 : Nat) (Option.some Jvm.ClassFile.FieldType.byte), Jvm.Cond.code ({ cls := "com/example/oath_bearer/oathbearer/web/AuthorizationHeaderChallengePinLaw", name := "head", desc := "([CCC)V" } : Jvm.MethodName) method_2_code (3 : Nat) (Option.none : Option Jvm.ClassFile.FieldType), Jvm.Cond.code ({ cls := "com/example/oath_bearer/oathbearer/web/AuthorizationHeaderChallengePinLaw", name := "param", desc := "([CICC)V" } : Jvm.MethodName) method_3_code (4 : Nat) (Option.none : Option Jvm.ClassFile.FieldType), Jvm.Cond.code ({ cls := "com/example/oath_bearer/oathbearer/web/AuthorizationHeader", name := "challenge", desc := "(Ljava/lang/String;[Ljava/lang/String;)Ljava/lang/String;" } : Jvm.MethodName) prog_20_method_2_code (7 : Nat) (Option.some (Jvm.ClassFile.FieldType.object "java/lang/String")), Jvm.Cond.code ({ cls := "java/lang/StringBuilder", name := "<init>", desc := "(Ljava/lang/String;)V" } : Jvm.MethodName) jdk_67_method_3_code (2 : Nat) (Option.none : Option Jvm.ClassFile.FieldType), Jvm.Cond.code ({ cls := "java/lang/AbstractStringBuilder", name := "<init>", desc := "(Ljava/lang/String;)V" } : Jvm.MethodName) jdk_68_method_3_code (5 : Nat) (Option.none : Option Jvm.ClassFile.FieldType), Jvm.Cond.code ({ cls := "java/lang/String", name := "length", desc := "()I" } : Jvm.MethodName) jdk_42_method_54_code (1 : Nat) (Option.some Jvm.ClassFile.FieldType.int), Jvm.Cond.code ({ cls := "java/lang/String", name := "coder", desc := "()B" } : Jvm.MethodName) jdk_42_method_152_code (1 : Nat) (Option.some Jvm.ClassFile.FieldType.byte), Jvm.Cond.code ({ cls := "java/lang/StringBuilder", name := "append", desc := "(Ljava/lang/String;)Ljava/lang/AbstractStringBuilder;" } : Jvm.MethodName) jdk_67_method_80_code (2 : Nat) (Option.some (Jvm.ClassFile.FieldType.object "java/lang/AbstractStringBuilder")), Jvm.Cond.code ({ cls := "java/lang/StringBuilder", name := "append", desc := "(Ljava/lang/String;)Ljava/lang/StringBuilder;" } : Jvm.MethodName) jdk_67_method_7_code (2 : Nat) (Option.some (Jvm.ClassFile.FieldType.object "java/lang/StringBuilder")), Jvm.Cond.code ({ cls := "java/lang/AbstractStringBuilder", name := "append", desc := "(Ljava/lang/String;)Ljava/lang/AbstractStringBuilder;" } : Jvm.MethodName) jdk_68_method_22_code (3 : Nat) (Option.some (Jvm.ClassFile.FieldType.object "java/lang/AbstractStringBuilder")), Jvm.Cond.code ({ cls := "java/lang/AbstractStringBuilder", name := "ensureCapacityInternal", desc := "(I)V" } : Jvm.MethodName) jdk_68_method_9_code (3 : Nat) (Option.none : Option Jvm.ClassFile.FieldType), Jvm.Cond.code ({ cls := "java/lang/AbstractStringBuilder", name := "putStringAt", desc := "(ILjava/lang/String;)V" } : Jvm.MethodName) jdk_68_method_73_code (3 : Nat) (Option.none : Option Jvm.ClassFile.FieldType), Jvm.Cond.code ({ cls := "java/lang/AbstractStringBuilder", name := "inflateIfNeededFor", desc := "(Ljava/lang/String;)V" } : Jvm.MethodName) jdk_68_method_71_code (2 : Nat) (Option.none : Option Jvm.ClassFile.FieldType), Jvm.Cond.code ({ cls := "java/lang/String", name := "getBytes", desc := "([BIB)V" } : Jvm.MethodName) jdk_42_method_147_code (4 : Nat) (Option.none : Option Jvm.ClassFile.FieldType), Jvm.Cond.code ({ cls := "java/lang/AbstractStringBuilder", name := "newCapacity", desc := "(I)I" } : Jvm.MethodName) jdk_68_method_10_code (6 : Nat) (Option.some Jvm.ClassFile.FieldType.int), Jvm.Cond.code ({ cls := "jdk/internal/util/ArraysSupport", name := "newLength", desc := "(III)I" } : Jvm.MethodName) jdk_48_method_27_code (4 : Nat) (Option.some Jvm.ClassFile.FieldType.int), Jvm.Cond.code ({ cls := "java/lang/Math", name := "max", desc := "(II)I" } : Jvm.MethodName) jdk_29_method_65_code (2 : Nat) (Option.some Jvm.ClassFile.FieldType.int), Jvm.Cond.code ({ cls := "java/util/Arrays", name := "copyOf", desc := "([BI)[B" } : Jvm.MethodName) jdk_65_method_121_code (3 : Nat) (Option.some (Jvm.ClassFile.FieldType.array Jvm.ClassFile.FieldType.byte)), Jvm.Cond.code ({ cls := "java/lang/Math", name := "min", desc := "(II)I" } : Jvm.MethodName) jdk_29_method_69_code (2 : Nat) (Option.some Jvm.ClassFile.FieldType.int), Jvm.Cond.code ({ cls := "java/lang/StringBuilder", name := "append", desc := "(C)Ljava/lang/StringBuilder;" } : Jvm.MethodName) jdk_67_method_14_code (2 : Nat) (Option.some (Jvm.ClassFile.FieldType.object "java/lang/StringBuilder")), Jvm.Cond.code ({ cls := "java/lang/AbstractStringBuilder", name := "append", desc := "(C)Ljava/lang/AbstractStringBuilder;" } : Jvm.MethodName) jdk_68_method_31_code (2 : Nat) (Option.some (Jvm.ClassFile.FieldType.object "java/lang/AbstractStringBuilder")), Jvm.Cond.code ({ cls := "java/lang/AbstractStringBuilder", name := "isLatin1", desc := "()Z" } : Jvm.MethodName) jdk_68_method_68_code (1 : Nat) (Option.some Jvm.ClassFile.FieldType.boolean), Jvm.Cond.code ({ cls := "java/lang/StringLatin1", name := "canEncode", desc := "(C)Z" } : Jvm.MethodName) jdk_43_method_3_code (1 : Nat) (Option.some Jvm.ClassFile.FieldType.boolean), Jvm.Cond.code ({ cls := "java/lang/StringBuilder", name := "toString", desc := "()Ljava/lang/String;" } : Jvm.MethodName) jdk_67_method_42_code (1 : Nat) (Option.some (Jvm.ClassFile.FieldType.object "java/lang/String")), Jvm.Cond.code ({ cls := "java/lang/String", name := "<init>", desc := "(Ljava/lang/StringBuilder;)V" } : Jvm.MethodName) jdk_42_method_53_code (2 : Nat) (Option.none : Option Jvm.ClassFile.FieldType), Jvm.Cond.code ({ cls := "java/lang/String", name := "<init>", desc := "(Ljava/lang/AbstractStringBuilder;Ljava/lang/Void;)V" } : Jvm.MethodName) jdk_42_method_150_code (5 : Nat) (Option.none : Option Jvm.ClassFile.FieldType), Jvm.Cond.code ({ cls := "java/lang/AbstractStringBuilder", name := "getValue", desc := "()[B" } : Jvm.MethodName) jdk_68_method_64_code (1 : Nat) (Option.some (Jvm.ClassFile.FieldType.array Jvm.ClassFile.FieldType.byte)), Jvm.Cond.code ({ cls := "java/lang/StringBuilder", name := "length", desc := "()I" } : Jvm.MethodName) jdk_67_method_93_code (1 : Nat) (Option.some Jvm.ClassFile.FieldType.int), Jvm.Cond.code ({ cls := "java/lang/AbstractStringBuilder", name := "length", desc := "()I" } : Jvm.MethodName) jdk_68_method_6_code (1 : Nat) (Option.some Jvm.ClassFile.FieldType.int), Jvm.Cond.code ({ cls := "java/util/Arrays", name := "copyOfRange", desc := "([BII)[B" } : Jvm.MethodName) jdk_65_method_132_code (3 : Nat) (Option.some (Jvm.ClassFile.FieldType.array Jvm.ClassFile.FieldType.byte)), Jvm.Cond.code ({ cls := "java/util/Arrays", name := "copyOfRangeByte", desc := "([BII)[B" } : Jvm.MethodName) jdk_65_method_133_code (5 : Nat) (Option.some (Jvm.ClassFile.FieldType.array Jvm.ClassFile.FieldType.byte)), Jvm.Cond.code ({ cls := "java/util/Arrays", name := "checkLength", desc := "(II)V" } : Jvm.MethodName) jdk_65_method_131_code (2 : Nat) (Option.none : Option Jvm.ClassFile.FieldType), Jvm.Cond.code ({ cls := "java/lang/String", name := "equals", desc := "(Ljava/lang/Object;)Z" } : Jvm.MethodName) jdk_42_method_66_code (3 : Nat) (Option.some Jvm.ClassFile.FieldType.boolean), Jvm.Cond.code ({ cls := "java/lang/StringLatin1", name := "equals", desc := "([B[B)Z" } : Jvm.MethodName) jdk_43_method_13_code (3 : Nat) (Option.some Jvm.ClassFile.FieldType.boolean)]
set_option maxRecDepth 65536 in
theorem codes_eq : words1.filter isCode = codes1 := rfl
theorem w_codes : ∀ c ∈ words1.filter isCode, c.before args0 about1 = true := by
  rw [codes_eq]
  intro c hc
  simp only [codes1, List.mem_cons, List.not_mem_nil, or_false] at hc
  rcases hc with rfl | rfl | rfl | rfl | rfl | rfl | rfl | rfl | rfl | rfl | rfl | rfl | rfl | rfl | rfl | rfl | rfl | rfl | rfl | rfl | rfl | rfl | rfl | rfl | rfl | rfl | rfl | rfl | rfl | rfl | rfl | rfl | rfl | rfl | rfl | rfl | rfl | rfl | rfl | rfl | rfl
  · exact w_c0
  · exact w_c1
  · exact w_c2
  · exact w_c3
  · exact w_c4
  · exact w_c5
  · exact w_c6
  · exact w_c7
  · exact w_c8
  · exact w_c9
  · exact w_c10
  · exact w_c11
  · exact w_c12
  · exact w_c13
  · exact w_c14
  · exact w_c15
  · exact w_c16
  · exact w_c17
  · exact w_c18
  · exact w_c19
  · exact w_c20
  · exact w_c21
  · exact w_c22
  · exact w_c23
  · exact w_c24
  · exact w_c25
  · exact w_c26
  · exact w_c27
  · exact w_c28
  · exact w_c29
  · exact w_c30
  · exact w_c31
  · exact w_c32
  · exact w_c33
  · exact w_c34
  · exact w_c35
  · exact w_c36
  · exact w_c37
  · exact w_c38
  · exact w_c39
  · exact w_c40
set_option maxRecDepth 65536 in
theorem w_t1 : (words1.take 24).all (fun c => isCode c || c.before args0 about1) = true := by decide +kernel
set_option maxRecDepth 65536 in
theorem w_t2 : ((words1.drop 24).take 24).all (fun c => isCode c || c.before args0 about1) = true := by decide +kernel
set_option maxRecDepth 65536 in
theorem w_t3 : (((words1.drop 24).drop 24).take 24).all (fun c => isCode c || c.before args0 about1) = true := by decide +kernel
set_option maxRecDepth 65536 in
theorem w_t4 : ((((words1.drop 24).drop 24).drop 24).take 24).all (fun c => isCode c || c.before args0 about1) = true := by decide +kernel
set_option maxRecDepth 65536 in
theorem w_t5 : (((((words1.drop 24).drop 24).drop 24).drop 24).take 24).all (fun c => isCode c || c.before args0 about1) = true := by decide +kernel
set_option maxRecDepth 65536 in
theorem w_t6 : ((((((words1.drop 24).drop 24).drop 24).drop 24).drop 24).take 24).all (fun c => isCode c || c.before args0 about1) = true := by decide +kernel
set_option maxRecDepth 65536 in
theorem w_t7 : (((((((words1.drop 24).drop 24).drop 24).drop 24).drop 24).drop 24).take 24).all (fun c => isCode c || c.before args0 about1) = true := by decide +kernel
set_option maxRecDepth 65536 in
theorem w_t8 : ((((((((words1.drop 24).drop 24).drop 24).drop 24).drop 24).drop 24).drop 24).take 24).all (fun c => isCode c || c.before args0 about1) = true := by decide +kernel
set_option maxRecDepth 65536 in
theorem w_t9 : ((((((((words1.drop 24).drop 24).drop 24).drop 24).drop 24).drop 24).drop 24).drop 24).all (fun c => isCode c || c.before args0 about1) = true := by decide +kernel
theorem w_tables : (allAtoms (Jvm.Cond.code x code maxLocals ret :: tables_1)).before args0 about1 = true := by
  rw [allAtoms_all]
  show words1.all (fun c => c.before args0 about1) = true
  refine all_split ?_ w_codes
  rw [← List.take_append_drop 24 words1, List.all_append, w_t1, ← List.take_append_drop 24 (words1.drop 24), List.all_append, w_t2, ← List.take_append_drop 24 ((words1.drop 24).drop 24), List.all_append, w_t3, ← List.take_append_drop 24 (((words1.drop 24).drop 24).drop 24), List.all_append, w_t4, ← List.take_append_drop 24 ((((words1.drop 24).drop 24).drop 24).drop 24), List.all_append, w_t5, ← List.take_append_drop 24 (((((words1.drop 24).drop 24).drop 24).drop 24).drop 24), List.all_append, w_t6, ← List.take_append_drop 24 ((((((words1.drop 24).drop 24).drop 24).drop 24).drop 24).drop 24), List.all_append, w_t7, ← List.take_append_drop 24 (((((((words1.drop 24).drop 24).drop 24).drop 24).drop 24).drop 24).drop 24), List.all_append, w_t8, w_t9]
  rfl
set_option maxRecDepth 65536 in
theorem w_rest : rest_1_c.before args0 about1 = true := by decide +kernel
set_option maxRecDepth 65536 in
theorem w_case : (Jvm.Cond.and given_1 narrow_1).before args0 about1 = true := by decide +kernel
set_option maxRecDepth 65536 in
theorem w_consts : constsHeld consts_1 about1 := Jvm.Lit.constsHeldB_iff.mp (by decide +kernel)
theorem w_applies : (headSpec (Jvm.Cond.code x code maxLocals ret :: tables_1) room_1).applies x e0.platform about1 = true :=
  (Spec.applies_iff w_frames).mpr ⟨w_running, w_runnable, w_alone, w_named, w_hears, w_ripe, w_room, w_tables⟩
theorem atStart : AtStart classFile x code maxLocals ret World_1 tables_1 room_1 Calls_1 rest_1 Pre_1 launch0 p0 e0 about1 theMethod args0 below0 :=
  ⟨lists_1, trivial, launch0.admits_env _ _ _, launch0.least_env, fairChoices_fair.cas, fairChoices_fair.clock, w_frames, w_args, w_heap, w_applies, ⟨w_consts, trivial⟩, w_rest, w_case⟩
end start1
theorem witness_1 : WitnessClaimed_1 := ⟨start1.p0, start1.e0, start1.about1, start1.theMethod, start1.args0, start1.below0, start1.atStart⟩
end Jvm.Pilot.@@N@@
