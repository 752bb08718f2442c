import JvmDerived
import JvmDerived.Pilot.@@N@@Statement
import JvmDerived.Pilot.@@N@@Code
set_option linter.unusedVariables false
set_option linter.unusedSimpArgs false
namespace Jvm.OwnKit
open Sem ClassFile Op Lib Jvm.Stand Jvm.Free Jvm.LawKit Jvm.RoadKit
/-- from the frame f over the state T the run ends within P -/
def Goes (p : Program) (e : Env) (below : List Frame) (T : State) (f : JFrame) (P : State → Outcome → Prop) : Prop := ∃ U o, Steps p.tables e below (T.setTop f) U ∧ U.status = .running ∧ Ended U below o ∧ P U o
/-- only places of ws or of new cells -/
def Only (h0 : Heap) (ws : List Addr) (L : List Loc) : Prop := ∀ y ∈ L, y.base ∈ ws ∨ h0.size ≤ y.base
def Kp (h0 h : Heap) (ws : List Addr) (L : List Loc) : Prop := Keep h0 h ws ∧ Only h0 ws L
/-- Q, kept from being reduced -/
def Ap (Q : Option Value → Heap → List Loc → Prop) (v : Option Value) (h : Heap) (L : List Loc) : Prop := Q v h L
/-- a contract: called with 'as' over the heap h0, the method returns within Q -/
def Con (l : Launch) (y : MethodName) (bytes : ByteArray) (maxL : Nat) (ret : Option FieldType) (rm : Room) (Z : State) (as : Array Value) (h0 : Heap) (Q : Option Value → Heap → List Loc → Prop) : Prop :=
  ∀ ws, MetFree l y (head1 (Cond.code y bytes maxL ret :: ws) rm) (fun a U => a = as ∧ Z.Warmed39 U.vm ∧ U.heap = h0) (fun _ _ _ _ _ => True) (fun _ U o U' => ∃ v L, o = .returned v ∧ Ap Q v U'.heap L ∧ FrameEnd U o U' L rm.cells rm.slots)
section G
variable {p : Program} {l : Launch} {e : Env} {R : Room} {s : State} {m : MethodId} {args : Array Value} {below : List Frame} {meth : Method} {c : Code} {T T' : State} {locs : List Loc} {cells slots : Nat} {P : State → Outcome → Prop} {f f' : JFrame} {Z : State} {a0 : Array Value} {h h' h0 : Heap} {a b : Addr} {ws ws' : List Addr} {Lc Lc' : List Loc} {sl : Nat} {v : Value}
theorem Goes.via (q : ∀ t, Steps p.tables e below (T'.setTop f') t → Steps p.tables e below (T.setTop f) t) (k : Goes p e below T' f' P) : Goes p e below T f P := by
  obtain ⟨U, o, h1, h2⟩ := k
  exact ⟨U, o, q U h1, h2⟩
theorem Goes.thru (q : Steps p.tables e below (T.setTop f) (T'.setTop f')) (k : Goes p e below T' f' P) : Goes p e below T f P := by
  obtain ⟨U, o, h1, h2⟩ := k
  exact ⟨U, o, q.trans h1, h2⟩
theorem Goes.ite {c : Prop} [Decidable c] {F : Int32 → JFrame} {a b : Int32} (h1 : c → Goes p e below T (F a) P → Goes p e below T f P) (h2 : ¬ c → Goes p e below T (F b) P → Goes p e below T f P) (k : Goes p e below T (F (if c then a else b)) P) : Goes p e below T f P := by
  by_cases hc : c
  · rw [if_pos hc] at k; exact h1 hc k
  · rw [if_neg hc] at k; exact h2 hc k
theorem Goes.cast (q : f = f') (k : Goes p e below T f' P) : Goes p e below T f P := q ▸ k
theorem Kp.refl (h : Heap) (ws : List Addr) : Kp h h ws [] := ⟨Keep.refl h ws, fun _ q => nomatch q⟩
theorem Kp.ext (K : Kp h0 h ws Lc) (E : Ext h h') : Kp h0 h' ws Lc := ⟨K.1.ext E, K.2⟩
theorem Kp.wr (K : Kp h0 h ws Lc) (W : Wr h h' a sl v) (q : a ∈ ws ∨ h0.size ≤ a) : Kp h0 h' ws (Lc ++ [⟨a, sl⟩]) :=
  ⟨K.1.wr W q, fun y hy => (List.mem_append.mp hy).elim (K.2 y) fun z => by cases List.mem_singleton.mp z; exact q⟩
theorem Kp.call (K : Kp h0 h ws Lc) (K' : Kp h h' ws' Lc') (q : ∀ x ∈ ws', x ∈ ws ∨ h0.size ≤ x) : Kp h0 h' ws (Lc ++ Lc') :=
  ⟨K.1.trans K'.1 q, fun y hy => (List.mem_append.mp hy).elim (K.2 y) fun z => (K'.2 y z).elim (q _) fun u => Or.inr (Nat.le_trans K.1.1 u)⟩
theorem Kp.size (K : Kp h0 h ws Lc) : h0.size ≤ h.size := K.1.1
theorem Kp.fr (K : Kp h0 h [] Lc) : Fr h0.size Lc := fun y hy => (K.2 y hy).elim (fun z => nomatch z) id
theorem Con.of_body {l : Launch} {y : MethodName} {bytes : ByteArray} {maxL : Nat} {ret : Option FieldType} {rm : Room} {Z : State} {as : Array Value} {h0 : Heap} {Q : Option Value → Heap → List Loc → Prop} (hn : plainFor y = true)
    (body : ∀ (p : Program) (e : Env) (s : State) (m : MethodId) (below : List Frame) (meth : Method) (c : Code) (T : State), Stand p l e rm s m as below meth c T [] 0 0 → p.tables.exec = Jvm.exec → c.code = bytes → c.maxLocals = maxL → Z.Warmed39 s.vm → s.vm.findClass y.cls = some m.cls → meth.name = y.name → meth.sig.returnType = ret → meth.locks = false → T.heap = h0 →
      Goes p e below T (entryFrame m as maxL) (fun U o => ∃ v L, o = .returned v ∧ Ap Q v U.heap L ∧ FrameEnd s o U L rm.cells rm.slots)) : Con l y bytes maxL ret rm Z as h0 Q := by
  intro ws
  refine MetFree.of_bodySF hn hisR ?_
  intro p e s m args below meth c s₁ Bd hml hP _
  obtain ⟨rfl, hZ, hh⟩ := hP
  exact body p e s m below meth c s₁ (Stand.of_body Bd) Bd.exec Bd.bytes hml hZ (findClass_of_methodNamed Bd.named) (name_of_methodNamed Bd.named Bd.method).1 Bd.returns (BodyLoose.notSynchronized Bd) (by rw [← hh, Bd.state]; rfl)
theorem Con.back {y : MethodName} {bytes : ByteArray} {maxL : Nat} {ret : Option FieldType} {rm : Room} {len W : Nat} {as' : Array Value} {Q : Option Value → Heap → List Loc → Prop} (hM : Con l y bytes maxL ret rm Z as' h Q)
    (hZ : Z.Warmed39 s.vm) (wc : (Cond.code y bytes maxL ret).before a0 Z = true) (wz : (Cond.initialized y.cls).before a0 Z = true) (hf : rm.frames + 1 ≤ R.frames) (hl : W + (maxL + 11) + rm.locals ≤ R.locals) :
    Back l R p e below s args y len W (fun A a => a = as' ∧ A.U.heap = h ∧ A.cells + rm.cells ≤ R.cells ∧ A.slots + rm.slots ≤ R.slots)
      (fun A _ v B => ∃ L, Q v B.U.heap L ∧ B.locs = A.locs ++ L ∧ B.cells = A.cells + rm.cells ∧ B.slots = A.slots + rm.slots) := backOf (hM []) hZ wc wz hf hl
/-- the end of a walk, for any of the returning instructions -/
theorem Goes.end (X : Stand p l e R s m args below meth c T locs cells slots) (hlk : meth.locks = false) {v : Option Value} (hv : meth.sig.returnType = none → v = none)
    (hs : ∀ fs, (∀ (f : JFrame) (acts : List Action), f.method = m → f.locked = none → f.entered = [] → (doReturn e (T.setTop f) acts v).1 = T.setFrames fs) → Steps p.tables e below (T.setTop f) (T.setFrames fs))
    {Q : Option Value → Heap → List Loc → Prop} {k n : Nat} (hk : cells ≤ k) (hn : slots ≤ n) (q : Q v T.heap locs) : Goes p e below T f (fun U o => ∃ v L, o = .returned v ∧ Ap Q v U.heap L ∧ FrameEnd s o U L k n) := by
  obtain ⟨fs, hr, hrun, hended, hW, hsame⟩ := X.leave hv hlk
  exact ⟨_, _, hs fs hr, hrun, hended, v, locs, rfl, q, ⟨_, rfl⟩, hW, hsame.mono hk hn⟩
theorem retI' (X : Stand p l e R s m args below meth c T locs cells slots) (hx : p.tables.exec = Jvm.exec) {pc : Nat} {Ls : Array Slot} {z : Int32} {rest : List Value} (hret : meth.sig.returnType = some .int) (hd : decode c.code pc = .ok (.ireturn, 1)) {fs : List Frame}
    (hl : ∀ (f : JFrame) (acts : List Action), f.method = m → f.locked = none → f.entered = [] → (doReturn e (T.setTop f) acts (some (.int z))).1 = T.setFrames fs) : Steps p.tables e below (T.setTop (mkF m pc Ls (.int z :: rest))) (T.setFrames fs) :=
  retOut X hx hret rfl (Or.inl ⟨rfl, Or.inl rfl, z, rfl⟩) hd hl
variable {pc pc' : Nat} {L L' : Array Slot} {S : List Value}
variable {Q : Option Value → Heap → List Loc → Prop} {k n : Nat}
theorem Goes.retI (X : Stand p l e R s m args below meth c T locs cells slots) (hx : p.tables.exec = Jvm.exec) (hret : meth.sig.returnType = some .int) (hlk : meth.locks = false) {z : Int32} (hd : decode c.code pc = .ok (.ireturn, 1)) (hk : cells ≤ k) (hn : slots ≤ n) (q : Q (some (.int z)) T.heap locs) :
    Goes p e below T (mkF m pc L (.int z :: S)) (fun U o => ∃ v L, o = .returned v ∧ Ap Q v U.heap L ∧ FrameEnd s o U L k n) :=
  Goes.end X hlk (fun h => by rw [hret] at h; cases h) (fun _ hr => retOut X hx hret rfl (Or.inl ⟨rfl, Or.inl rfl, z, rfl⟩) hd hr) hk hn q
theorem Goes.retN (X : Stand p l e R s m args below meth c T locs cells slots) (hx : p.tables.exec = Jvm.exec) {t : FieldType} (hret : meth.sig.returnType = some t) (ht : t = .boolean ∨ t = .byte ∨ t = .char ∨ t = .short) (hlk : meth.locks = false) {z : Int32} (hd : decode c.code pc = .ok (.ireturn, 1)) (hk : cells ≤ k) (hn : slots ≤ n) (q : Q (some (.int (nar t z))) T.heap locs) :
    Goes p e below T (mkF m pc L (.int z :: S)) (fun U o => ∃ v L, o = .returned v ∧ Ap Q v U.heap L ∧ FrameEnd s o U L k n) :=
  Goes.end X hlk (fun h => by rw [hret] at h; cases h) (fun _ hr => Jvm.RoadKit.retN X hx hret ht hd hr) hk hn q
theorem Goes.retJ (X : Stand p l e R s m args below meth c T locs cells slots) (hx : p.tables.exec = Jvm.exec) (hret : meth.sig.returnType = some .long) (hlk : meth.locks = false) {z : Int64} (hd : decode c.code pc = .ok (.lreturn, 1)) (hk : cells ≤ k) (hn : slots ≤ n) (q : Q (some (.long z)) T.heap locs) :
    Goes p e below T (mkF m pc L (.long z :: S)) (fun U o => ∃ v L, o = .returned v ∧ Ap Q v U.heap L ∧ FrameEnd s o U L k n) :=
  Goes.end X hlk (fun h => by rw [hret] at h; cases h) (fun _ hr => retOut X hx hret rfl (Or.inr (Or.inl ⟨rfl, rfl, z, rfl⟩)) hd hr) hk hn q
theorem Goes.retA (X : Stand p l e R s m args below meth c T locs cells slots) (hx : p.tables.exec = Jvm.exec) {t : FieldType} (hret : meth.sig.returnType = some t) (ht : t.isReference = true) (hlk : meth.locks = false) {z : Value} (hz : z.isRef = true) (hnr : narrow t z = z) (hd : decode c.code pc = .ok (.areturn, 1)) (hk : cells ≤ k) (hn : slots ≤ n) (q : Q (some z) T.heap locs) :
    Goes p e below T (mkF m pc L (z :: S)) (fun U o => ∃ v L, o = .returned v ∧ Ap Q v U.heap L ∧ FrameEnd s o U L k n) :=
  Goes.end X hlk (fun h => by rw [hret] at h; cases h) (fun _ hr => retOut X hx hret hnr (Or.inr (Or.inr (Or.inr (Or.inr ⟨rfl, ht, hz⟩)))) hd hr) hk hn q
theorem Goes.retV (X : Stand p l e R s m args below meth c T locs cells slots) (hx : p.tables.exec = Jvm.exec) (hret : meth.sig.returnType = none) (hlk : meth.locks = false) (hd : decode c.code pc = .ok (.return_, 1)) (hk : cells ≤ k) (hn : slots ≤ n) (q : Q none T.heap locs) :
    Goes p e below T (mkF m pc L []) (fun U o => ∃ v L, o = .returned v ∧ Ap Q v U.heap L ∧ FrameEnd s o U L k n) :=
  Goes.end X hlk (fun _ => rfl) (fun _ hr => X.returnOut hx hret hd hr) hk hn q
theorem G.aload (X : Stand p l e R s m args below meth c T locs cells slots) (hx : p.tables.exec = Jvm.exec) {k : Nat} {v : Value} (hd : decode c.code pc = .ok (.aload k, 2)) (hl : L[k]? = some (.val v)) (hv : v.isRef = true) (hp : pc + 2 = pc') (q : Goes p e below T (mkF m pc' L (v :: S)) P) : Goes p e below T (mkF m pc L (S)) P := by
  subst hp; exact Goes.via (fun _ u => Jvm.Free.XS.aload X.here hx rfl hd hl hv u) q
theorem G.aloadN (X : Stand p l e R s m args below meth c T locs cells slots) (hx : p.tables.exec = Jvm.exec) {k : Fin 4} {v : Value} (hd : decode c.code pc = .ok (.aload_n k, 1)) (hl : L[k.val]? = some (.val v)) (hv : v.isRef = true) (hp : pc + 1 = pc') (q : Goes p e below T (mkF m pc' L (v :: S)) P) : Goes p e below T (mkF m pc L (S)) P := by
  subst hp; exact Goes.via (fun _ u => Jvm.Free.XS.aloadN X.here hx rfl hd hl hv u) q
theorem G.iload (X : Stand p l e R s m args below meth c T locs cells slots) (hx : p.tables.exec = Jvm.exec) {k : Nat} {v : Int32} (hd : decode c.code pc = .ok (.iload k, 2)) (hl : L[k]? = some (.val (.int v))) (hp : pc + 2 = pc') (q : Goes p e below T (mkF m pc' L (.int v :: S)) P) : Goes p e below T (mkF m pc L (S)) P := by
  subst hp; exact Goes.via (fun _ u => Jvm.Free.XS.iload X.here hx rfl hd hl u) q
theorem G.iloadN (X : Stand p l e R s m args below meth c T locs cells slots) (hx : p.tables.exec = Jvm.exec) {k : Fin 4} {v : Int32} (hd : decode c.code pc = .ok (.iload_n k, 1)) (hl : L[k.val]? = some (.val (.int v))) (hp : pc + 1 = pc') (q : Goes p e below T (mkF m pc' L (.int v :: S)) P) : Goes p e below T (mkF m pc L (S)) P := by
  subst hp; exact Goes.via (fun _ u => Jvm.Free.XS.iloadN X.here hx rfl hd hl u) q
theorem G.lload (X : Stand p l e R s m args below meth c T locs cells slots) (hx : p.tables.exec = Jvm.exec) {k : Nat} {v : Int64} (hd : decode c.code pc = .ok (.lload k, 2)) (hl : L[k]? = some (.val (.long v))) (hp : pc + 2 = pc') (q : Goes p e below T (mkF m pc' L (.long v :: S)) P) : Goes p e below T (mkF m pc L (S)) P := by
  subst hp; exact Goes.via (fun _ u => Jvm.Free.XT.lload X.here hx rfl hd hl u) q
theorem G.lloadN (X : Stand p l e R s m args below meth c T locs cells slots) (hx : p.tables.exec = Jvm.exec) {k : Fin 4} {v : Int64} (hd : decode c.code pc = .ok (.lload_n k, 1)) (hl : L[k.val]? = some (.val (.long v))) (hp : pc + 1 = pc') (q : Goes p e below T (mkF m pc' L (.long v :: S)) P) : Goes p e below T (mkF m pc L (S)) P := by
  subst hp; exact Goes.via (fun _ u => Jvm.Free.XT.lloadN X.here hx rfl hd hl u) q
theorem G.istore (X : Stand p l e R s m args below meth c T locs cells slots) (hx : p.tables.exec = Jvm.exec) {k : Nat} {v : Int32} (hd : decode c.code pc = .ok (.istore k, 2)) (hl : storeLocals L k (.int v) = some L') (hp : pc + 2 = pc') (q : Goes p e below T (mkF m pc' L' (S)) P) : Goes p e below T (mkF m pc L (.int v :: S)) P := by
  subst hp; exact Goes.via (fun _ u => Jvm.Free.XS.istore X.here hx rfl hd rfl hl u) q
theorem G.istoreN (X : Stand p l e R s m args below meth c T locs cells slots) (hx : p.tables.exec = Jvm.exec) {k : Fin 4} {v : Int32} (hd : decode c.code pc = .ok (.istore_n k, 1)) (hl : storeLocals L k.val (.int v) = some L') (hp : pc + 1 = pc') (q : Goes p e below T (mkF m pc' L' (S)) P) : Goes p e below T (mkF m pc L (.int v :: S)) P := by
  subst hp; exact Goes.via (fun _ u => Jvm.Free.XS.istoreN X.here hx rfl hd rfl hl u) q
theorem G.lstore (X : Stand p l e R s m args below meth c T locs cells slots) (hx : p.tables.exec = Jvm.exec) {k : Nat} {v : Int64} (hd : decode c.code pc = .ok (.lstore k, 2)) (hl : storeLocals L k (.long v) = some L') (hp : pc + 2 = pc') (q : Goes p e below T (mkF m pc' L' (S)) P) : Goes p e below T (mkF m pc L (.long v :: S)) P := by
  subst hp; exact Goes.via (fun _ u => Jvm.Free.XT.lstore X.here hx rfl hd rfl hl u) q
theorem G.lstoreN (X : Stand p l e R s m args below meth c T locs cells slots) (hx : p.tables.exec = Jvm.exec) {k : Fin 4} {v : Int64} (hd : decode c.code pc = .ok (.lstore_n k, 1)) (hl : storeLocals L k.val (.long v) = some L') (hp : pc + 1 = pc') (q : Goes p e below T (mkF m pc' L' (S)) P) : Goes p e below T (mkF m pc L (.long v :: S)) P := by
  subst hp; exact Goes.via (fun _ u => Jvm.Free.XT.lstoreN X.here hx rfl hd rfl hl u) q
theorem G.astore (X : Stand p l e R s m args below meth c T locs cells slots) (hx : p.tables.exec = Jvm.exec) {k : Nat} {v : Value} (hd : decode c.code pc = .ok (.astore k, 2)) (hv : v.isRef = true) (hl : storeLocals L k v = some L') (hp : pc + 2 = pc') (q : Goes p e below T (mkF m pc' L' (S)) P) : Goes p e below T (mkF m pc L (v :: S)) P := by
  subst hp; exact Goes.via (fun _ u => Jvm.Free.XS.astore X.here hx rfl hd rfl hv hl u) q
theorem G.astoreN (X : Stand p l e R s m args below meth c T locs cells slots) (hx : p.tables.exec = Jvm.exec) {k : Fin 4} {v : Value} (hd : decode c.code pc = .ok (.astore_n k, 1)) (hv : v.isRef = true) (hl : storeLocals L k.val v = some L') (hp : pc + 1 = pc') (q : Goes p e below T (mkF m pc' L' (S)) P) : Goes p e below T (mkF m pc L (v :: S)) P := by
  subst hp; exact Goes.via (fun _ u => Jvm.Free.XS.astoreN X.here hx rfl hd rfl hv hl u) q
theorem G.iinc (X : Stand p l e R s m args below meth c T locs cells slots) (hx : p.tables.exec = Jvm.exec) {k : Nat} {cst : Int} {v : Int32} (hd : decode c.code pc = .ok (.iinc k cst, 3)) (hl : L[k]? = some (.val (.int v))) (hl' : storeLocals L k (.int (v + Int32.ofInt cst)) = some L') (hp : pc + 3 = pc') (q : Goes p e below T (mkF m pc' L' (S)) P) : Goes p e below T (mkF m pc L (S)) P := by
  subst hp; exact Goes.via (fun _ u => Jvm.Free.XS.iinc X.here hx rfl hd hl hl' u) q
theorem G.iconst (X : Stand p l e R s m args below meth c T locs cells slots) (hx : p.tables.exec = Jvm.exec) {i : Int} {z : Int32} (hd : decode c.code pc = .ok (.iconst i, 1)) (hz : Int32.ofInt i = z) (hp : pc + 1 = pc') (q : Goes p e below T (mkF m pc' L (.int z :: S)) P) : Goes p e below T (mkF m pc L S) P := by
  subst hp hz; exact Goes.via (fun _ u => Jvm.Free.XS.iconst X.here hx rfl hd u) q
theorem G.bipush (X : Stand p l e R s m args below meth c T locs cells slots) (hx : p.tables.exec = Jvm.exec) {i : Int} {z : Int32} (hd : decode c.code pc = .ok (.bipush i, 2)) (hz : (Int8.ofInt i).toInt32 = z) (hp : pc + 2 = pc') (q : Goes p e below T (mkF m pc' L (.int z :: S)) P) : Goes p e below T (mkF m pc L S) P := by
  subst hp hz; exact Goes.via (fun _ u => Jvm.Free.XS.bipush X.here hx rfl hd u) q
theorem G.sipush (X : Stand p l e R s m args below meth c T locs cells slots) (hx : p.tables.exec = Jvm.exec) {i : Int} {z : Int32} (hd : decode c.code pc = .ok (.sipush i, 3)) (hz : (Int16.ofInt i).toInt32 = z) (hp : pc + 3 = pc') (q : Goes p e below T (mkF m pc' L (.int z :: S)) P) : Goes p e below T (mkF m pc L S) P := by
  subst hp hz; exact Goes.via (fun _ u => Jvm.Free.XS.sipush X.here hx rfl hd u) q
theorem G.lconst (X : Stand p l e R s m args below meth c T locs cells slots) (hx : p.tables.exec = Jvm.exec) {k : Fin 2} {z : Int64} (hd : decode c.code pc = .ok (.lconst k, 1)) (hz : Int64.ofNat k = z) (hp : pc + 1 = pc') (q : Goes p e below T (mkF m pc' L (.long z :: S)) P) : Goes p e below T (mkF m pc L S) P := by
  subst hp hz; exact Goes.via (fun _ u => Jvm.Free.XT.lconst X.here hx rfl hd u) q
theorem G.aconstNull (X : Stand p l e R s m args below meth c T locs cells slots) (hx : p.tables.exec = Jvm.exec) (hd : decode c.code pc = .ok (.aconst_null, 1)) (hp : pc + 1 = pc') (q : Goes p e below T (mkF m pc' L (.null :: S)) P) : Goes p e below T (mkF m pc L (S)) P := by
  subst hp; exact Goes.via (fun _ u => Jvm.Free.XS.aconstNull X.here hx rfl hd u) q
theorem G.iadd (X : Stand p l e R s m args below meth c T locs cells slots) (hx : p.tables.exec = Jvm.exec) {x y : Int32} (hd : decode c.code pc = .ok (.iadd, 1)) (hp : pc + 1 = pc') (q : Goes p e below T (mkF m pc' L (.int (x + y) :: S)) P) : Goes p e below T (mkF m pc L (.int y :: .int x :: S)) P := by
  subst hp; exact Goes.via (fun _ u => Jvm.Free.XS.iadd X.here hx rfl hd rfl u) q
theorem G.isub (X : Stand p l e R s m args below meth c T locs cells slots) (hx : p.tables.exec = Jvm.exec) {x y : Int32} (hd : decode c.code pc = .ok (.isub, 1)) (hp : pc + 1 = pc') (q : Goes p e below T (mkF m pc' L (.int (x - y) :: S)) P) : Goes p e below T (mkF m pc L (.int y :: .int x :: S)) P := by
  subst hp; exact Goes.via (fun _ u => Jvm.Free.XS.isub X.here hx rfl hd rfl u) q
theorem G.iand (X : Stand p l e R s m args below meth c T locs cells slots) (hx : p.tables.exec = Jvm.exec) {x y : Int32} (hd : decode c.code pc = .ok (.iand, 1)) (hp : pc + 1 = pc') (q : Goes p e below T (mkF m pc' L (.int (x &&& y) :: S)) P) : Goes p e below T (mkF m pc L (.int y :: .int x :: S)) P := by
  subst hp; exact Goes.via (fun _ u => Jvm.Free.XS.iand X.here hx rfl hd rfl u) q
theorem G.imul (X : Stand p l e R s m args below meth c T locs cells slots) (hx : p.tables.exec = Jvm.exec) {x y : Int32} (hd : decode c.code pc = .ok (.imul, 1)) (hp : pc + 1 = pc') (q : Goes p e below T (mkF m pc' L (.int (x * y) :: S)) P) : Goes p e below T (mkF m pc L (.int y :: .int x :: S)) P := by
  subst hp; exact Goes.via (fun _ u => Jvm.Free.XS.imul X.here hx rfl hd rfl u) q
theorem G.ior (X : Stand p l e R s m args below meth c T locs cells slots) (hx : p.tables.exec = Jvm.exec) {x y : Int32} (hd : decode c.code pc = .ok (.ior, 1)) (hp : pc + 1 = pc') (q : Goes p e below T (mkF m pc' L (.int (x ||| y) :: S)) P) : Goes p e below T (mkF m pc L (.int y :: .int x :: S)) P := by
  subst hp; exact Goes.via (fun _ u => Jvm.Free.XT.ior X.here hx rfl hd rfl u) q
theorem G.ixor (X : Stand p l e R s m args below meth c T locs cells slots) (hx : p.tables.exec = Jvm.exec) {x y : Int32} (hd : decode c.code pc = .ok (.ixor, 1)) (hp : pc + 1 = pc') (q : Goes p e below T (mkF m pc' L (.int (x ^^^ y) :: S)) P) : Goes p e below T (mkF m pc L (.int y :: .int x :: S)) P := by
  subst hp; exact Goes.via (fun _ u => Jvm.Free.XT.ixor X.here hx rfl hd rfl u) q
theorem G.ishl (X : Stand p l e R s m args below meth c T locs cells slots) (hx : p.tables.exec = Jvm.exec) {x y : Int32} (hd : decode c.code pc = .ok (.ishl, 1)) (hp : pc + 1 = pc') (q : Goes p e below T (mkF m pc' L (.int (x <<< (y &&& 31)) :: S)) P) : Goes p e below T (mkF m pc L (.int y :: .int x :: S)) P := by
  subst hp; exact Goes.via (fun _ u => Jvm.Free.XT.ishl X.here hx rfl hd rfl u) q
theorem G.ishr (X : Stand p l e R s m args below meth c T locs cells slots) (hx : p.tables.exec = Jvm.exec) {x y : Int32} (hd : decode c.code pc = .ok (.ishr, 1)) (hp : pc + 1 = pc') (q : Goes p e below T (mkF m pc' L (.int (x >>> (y &&& 31)) :: S)) P) : Goes p e below T (mkF m pc L (.int y :: .int x :: S)) P := by
  subst hp; exact Goes.via (fun _ u => Jvm.Free.XT.ishr X.here hx rfl hd rfl u) q
theorem G.iushr (X : Stand p l e R s m args below meth c T locs cells slots) (hx : p.tables.exec = Jvm.exec) {x y : Int32} (hd : decode c.code pc = .ok (.iushr, 1)) (hp : pc + 1 = pc') (q : Goes p e below T (mkF m pc' L (.int (Jvm.Free.XT.ushr x y) :: S)) P) : Goes p e below T (mkF m pc L (.int y :: .int x :: S)) P := by
  subst hp; exact Goes.via (fun _ u => Jvm.Free.XT.iushr X.here hx rfl hd rfl u) q
theorem G.idiv (X : Stand p l e R s m args below meth c T locs cells slots) (hx : p.tables.exec = Jvm.exec) {x y : Int32} (hd : decode c.code pc = .ok (.idiv, 1)) (hy : y ≠ 0) (hp : pc + 1 = pc') (q : Goes p e below T (mkF m pc' L (.int (x / y) :: S)) P) : Goes p e below T (mkF m pc L (.int y :: .int x :: S)) P := by
  subst hp; exact Goes.via (fun _ u => Jvm.Free.XS.idiv X.here hx rfl hd rfl hy u) q
theorem G.irem (X : Stand p l e R s m args below meth c T locs cells slots) (hx : p.tables.exec = Jvm.exec) {x y : Int32} (hd : decode c.code pc = .ok (.irem, 1)) (hy : y ≠ 0) (hp : pc + 1 = pc') (q : Goes p e below T (mkF m pc' L (.int (x % y) :: S)) P) : Goes p e below T (mkF m pc L (.int y :: .int x :: S)) P := by
  subst hp; exact Goes.via (fun _ u => Jvm.RoadKit.iremM X hx rfl hd rfl hy u) q
theorem G.ineg (X : Stand p l e R s m args below meth c T locs cells slots) (hx : p.tables.exec = Jvm.exec) {x : Int32} (hd : decode c.code pc = .ok (.ineg, 1)) (hp : pc + 1 = pc') (q : Goes p e below T (mkF m pc' L (.int (-x) :: S)) P) : Goes p e below T (mkF m pc L (.int x :: S)) P := by
  subst hp; exact Goes.via (fun _ u => Jvm.Free.XS.ineg X.here hx rfl hd rfl u) q
theorem G.ladd (X : Stand p l e R s m args below meth c T locs cells slots) (hx : p.tables.exec = Jvm.exec) {x y : Int64} (hd : decode c.code pc = .ok (.ladd, 1)) (hp : pc + 1 = pc') (q : Goes p e below T (mkF m pc' L (.long (x + y) :: S)) P) : Goes p e below T (mkF m pc L (.long y :: .long x :: S)) P := by
  subst hp; exact Goes.via (fun _ u => Jvm.Free.XT.ladd X.here hx rfl hd rfl u) q
theorem G.lsub (X : Stand p l e R s m args below meth c T locs cells slots) (hx : p.tables.exec = Jvm.exec) {x y : Int64} (hd : decode c.code pc = .ok (.lsub, 1)) (hp : pc + 1 = pc') (q : Goes p e below T (mkF m pc' L (.long (x - y) :: S)) P) : Goes p e below T (mkF m pc L (.long y :: .long x :: S)) P := by
  subst hp; exact Goes.via (fun _ u => Jvm.Free.XT.lsub X.here hx rfl hd rfl u) q
theorem G.lmul (X : Stand p l e R s m args below meth c T locs cells slots) (hx : p.tables.exec = Jvm.exec) {x y : Int64} (hd : decode c.code pc = .ok (.lmul, 1)) (hp : pc + 1 = pc') (q : Goes p e below T (mkF m pc' L (.long (x * y) :: S)) P) : Goes p e below T (mkF m pc L (.long y :: .long x :: S)) P := by
  subst hp; exact Goes.via (fun _ u => Jvm.Free.XT.lmul X.here hx rfl hd rfl u) q
theorem G.land (X : Stand p l e R s m args below meth c T locs cells slots) (hx : p.tables.exec = Jvm.exec) {x y : Int64} (hd : decode c.code pc = .ok (.land, 1)) (hp : pc + 1 = pc') (q : Goes p e below T (mkF m pc' L (.long (x &&& y) :: S)) P) : Goes p e below T (mkF m pc L (.long y :: .long x :: S)) P := by
  subst hp; exact Goes.via (fun _ u => Jvm.Free.XT.land X.here hx rfl hd rfl u) q
theorem G.lor (X : Stand p l e R s m args below meth c T locs cells slots) (hx : p.tables.exec = Jvm.exec) {x y : Int64} (hd : decode c.code pc = .ok (.lor, 1)) (hp : pc + 1 = pc') (q : Goes p e below T (mkF m pc' L (.long (x ||| y) :: S)) P) : Goes p e below T (mkF m pc L (.long y :: .long x :: S)) P := by
  subst hp; exact Goes.via (fun _ u => Jvm.Free.XT.lor X.here hx rfl hd rfl u) q
theorem G.lxor (X : Stand p l e R s m args below meth c T locs cells slots) (hx : p.tables.exec = Jvm.exec) {x y : Int64} (hd : decode c.code pc = .ok (.lxor, 1)) (hp : pc + 1 = pc') (q : Goes p e below T (mkF m pc' L (.long (x ^^^ y) :: S)) P) : Goes p e below T (mkF m pc L (.long y :: .long x :: S)) P := by
  subst hp; exact Goes.via (fun _ u => Jvm.Free.XT.lxor X.here hx rfl hd rfl u) q
theorem G.lshl (X : Stand p l e R s m args below meth c T locs cells slots) (hx : p.tables.exec = Jvm.exec) {x : Int64} {y : Int32} (hd : decode c.code pc = .ok (.lshl, 1)) (hp : pc + 1 = pc') (q : Goes p e below T (mkF m pc' L (.long (x <<< (y.toInt64 &&& 63)) :: S)) P) : Goes p e below T (mkF m pc L (.int y :: .long x :: S)) P := by
  subst hp; exact Goes.via (fun _ u => Jvm.Free.XT.lshl X.here hx rfl hd rfl u) q
theorem G.lshr (X : Stand p l e R s m args below meth c T locs cells slots) (hx : p.tables.exec = Jvm.exec) {x : Int64} {y : Int32} (hd : decode c.code pc = .ok (.lshr, 1)) (hp : pc + 1 = pc') (q : Goes p e below T (mkF m pc' L (.long (x >>> (y.toInt64 &&& 63)) :: S)) P) : Goes p e below T (mkF m pc L (.int y :: .long x :: S)) P := by
  subst hp; exact Goes.via (fun _ u => Jvm.Free.XT.lshr X.here hx rfl hd rfl u) q
theorem G.lushr (X : Stand p l e R s m args below meth c T locs cells slots) (hx : p.tables.exec = Jvm.exec) {x : Int64} {y : Int32} (hd : decode c.code pc = .ok (.lushr, 1)) (hp : pc + 1 = pc') (q : Goes p e below T (mkF m pc' L (.long (Jvm.Free.XT.ushrL x y) :: S)) P) : Goes p e below T (mkF m pc L (.int y :: .long x :: S)) P := by
  subst hp; exact Goes.via (fun _ u => Jvm.Free.XT.lushr X.here hx rfl hd rfl u) q
theorem G.ldiv (X : Stand p l e R s m args below meth c T locs cells slots) (hx : p.tables.exec = Jvm.exec) {x y : Int64} (hd : decode c.code pc = .ok (.ldiv, 1)) (hy : y ≠ 0) (hp : pc + 1 = pc') (q : Goes p e below T (mkF m pc' L (.long (x / y) :: S)) P) : Goes p e below T (mkF m pc L (.long y :: .long x :: S)) P := by
  subst hp; exact Goes.via (fun _ u => Jvm.Free.XT.ldiv X.here hx rfl hd rfl hy u) q
theorem G.lrem (X : Stand p l e R s m args below meth c T locs cells slots) (hx : p.tables.exec = Jvm.exec) {x y : Int64} (hd : decode c.code pc = .ok (.lrem, 1)) (hy : y ≠ 0) (hp : pc + 1 = pc') (q : Goes p e below T (mkF m pc' L (.long (x % y) :: S)) P) : Goes p e below T (mkF m pc L (.long y :: .long x :: S)) P := by
  subst hp; exact Goes.via (fun _ u => Jvm.Free.XT.lrem X.here hx rfl hd rfl hy u) (by rw [lrem_mod]; exact q)
theorem G.lneg (X : Stand p l e R s m args below meth c T locs cells slots) (hx : p.tables.exec = Jvm.exec) {x : Int64} (hd : decode c.code pc = .ok (.lneg, 1)) (hp : pc + 1 = pc') (q : Goes p e below T (mkF m pc' L (.long (-x) :: S)) P) : Goes p e below T (mkF m pc L (.long x :: S)) P := by
  subst hp; exact Goes.via (fun _ u => Jvm.Free.XT.lneg X.here hx rfl hd rfl u) q
theorem G.i2l (X : Stand p l e R s m args below meth c T locs cells slots) (hx : p.tables.exec = Jvm.exec) {x : Int32} (hd : decode c.code pc = .ok (.i2l, 1)) (hp : pc + 1 = pc') (q : Goes p e below T (mkF m pc' L (.long (x.toInt64) :: S)) P) : Goes p e below T (mkF m pc L (.int x :: S)) P := by
  subst hp; exact Goes.via (fun _ u => Jvm.Free.XT.i2l X.here hx rfl hd rfl u) q
theorem G.i2b (X : Stand p l e R s m args below meth c T locs cells slots) (hx : p.tables.exec = Jvm.exec) {x : Int32} (hd : decode c.code pc = .ok (.i2b, 1)) (hp : pc + 1 = pc') (q : Goes p e below T (mkF m pc' L (.int (x.toInt8.toInt32) :: S)) P) : Goes p e below T (mkF m pc L (.int x :: S)) P := by
  subst hp; exact Goes.via (fun _ u => Jvm.Free.XT.i2b X.here hx rfl hd rfl u) q
theorem G.i2c (X : Stand p l e R s m args below meth c T locs cells slots) (hx : p.tables.exec = Jvm.exec) {x : Int32} (hd : decode c.code pc = .ok (.i2c, 1)) (hp : pc + 1 = pc') (q : Goes p e below T (mkF m pc' L (.int (x.toUInt32.toUInt16.toUInt32.toInt32) :: S)) P) : Goes p e below T (mkF m pc L (.int x :: S)) P := by
  subst hp; exact Goes.via (fun _ u => Jvm.Free.XT.i2c X.here hx rfl hd rfl u) q
theorem G.i2s (X : Stand p l e R s m args below meth c T locs cells slots) (hx : p.tables.exec = Jvm.exec) {x : Int32} (hd : decode c.code pc = .ok (.i2s, 1)) (hp : pc + 1 = pc') (q : Goes p e below T (mkF m pc' L (.int (x.toInt16.toInt32) :: S)) P) : Goes p e below T (mkF m pc L (.int x :: S)) P := by
  subst hp; exact Goes.via (fun _ u => Jvm.Free.XT.i2s X.here hx rfl hd rfl u) q
theorem G.l2i (X : Stand p l e R s m args below meth c T locs cells slots) (hx : p.tables.exec = Jvm.exec) {x : Int64} (hd : decode c.code pc = .ok (.l2i, 1)) (hp : pc + 1 = pc') (q : Goes p e below T (mkF m pc' L (.int (x.toInt32) :: S)) P) : Goes p e below T (mkF m pc L (.long x :: S)) P := by
  subst hp; exact Goes.via (fun _ u => Jvm.Free.XT.l2i X.here hx rfl hd rfl u) q
theorem G.lcmp (X : Stand p l e R s m args below meth c T locs cells slots) (hx : p.tables.exec = Jvm.exec) {x y : Int64} (hd : decode c.code pc = .ok (.lcmp, 1)) (hp : pc + 1 = pc') (q : Goes p e below T (mkF m pc' L (.int (Jvm.Free.XT.cmpL x y) :: S)) P) : Goes p e below T (mkF m pc L (.long y :: .long x :: S)) P := by
  subst hp; exact Goes.via (fun _ u => Jvm.Free.XT.lcmp X.here hx rfl hd rfl u) q
theorem G.dup (X : Stand p l e R s m args below meth c T locs cells slots) (hx : p.tables.exec = Jvm.exec) {v : Value} (hd : decode c.code pc = .ok (.dup, 1)) (hv : v.category = 1) (hp : pc + 1 = pc') (q : Goes p e below T (mkF m pc' L (v :: v :: S)) P) : Goes p e below T (mkF m pc L (v :: S)) P := by
  subst hp; exact Goes.via (fun _ u => Jvm.Free.XS.dup X.here hx rfl hd rfl hv u) q
theorem G.pop (X : Stand p l e R s m args below meth c T locs cells slots) (hx : p.tables.exec = Jvm.exec) {v : Value} (hd : decode c.code pc = .ok (.pop, 1)) (hv : v.category = 1) (hp : pc + 1 = pc') (q : Goes p e below T (mkF m pc' L (S)) P) : Goes p e below T (mkF m pc L (v :: S)) P := by
  subst hp; exact Goes.via (fun _ u => Jvm.Free.XT.pop X.here hx rfl hd rfl hv u) q
theorem G.dupX1 (X : Stand p l e R s m args below meth c T locs cells slots) (hx : p.tables.exec = Jvm.exec) {v w : Value} (hd : decode c.code pc = .ok (.dup_x1, 1)) (hv : v.category = 1) (hw : w.category = 1) (hp : pc + 1 = pc') (q : Goes p e below T (mkF m pc' L (v :: w :: v :: S)) P) : Goes p e below T (mkF m pc L (v :: w :: S)) P := by
  subst hp; exact Goes.via (fun _ u => Jvm.Free.XT.dupX1 X.here hx rfl hd rfl hv hw u) q
theorem G.dup2 (X : Stand p l e R s m args below meth c T locs cells slots) (hx : p.tables.exec = Jvm.exec) {v w : Value} (hd : decode c.code pc = .ok (.dup2, 1)) (hv : v.category = 1) (hw : w.category = 1) (hp : pc + 1 = pc') (q : Goes p e below T (mkF m pc' L (v :: w :: v :: w :: S)) P) : Goes p e below T (mkF m pc L (v :: w :: S)) P := by
  subst hp; exact Goes.via (fun _ u => Jvm.Free.XT.dup2 X.here hx rfl hd rfl hv hw u) q
theorem G.goto (X : Stand p l e R s m args below meth c T locs cells slots) (hx : p.tables.exec = Jvm.exec) {o : Int} (hd : decode c.code pc = .ok (.goto o, 3)) (ho : 0 ≤ (pc : Int) + o) (hp : ((pc : Int) + o).toNat = pc') (q : Goes p e below T (mkF m pc' L S) P) : Goes p e below T (mkF m pc L S) P :=
  Goes.via (fun _ u => Jvm.Free.XS.goto X.here hx rfl rfl hd ho hp u) q
theorem G.icmpT (X : Stand p l e R s m args below meth c T locs cells slots) (hx : p.tables.exec = Jvm.exec) {cd : ClassFile.Cond} {x y : Int32} {o : Int} (hd : decode c.code pc = .ok (.if_icmp cd o, 3)) (hc : if_icmp.holds cd x y = true) (ho : 0 ≤ (pc : Int) + o) (hp : ((pc : Int) + o).toNat = pc') (q : Goes p e below T (mkF m pc' L S) P) : Goes p e below T (mkF m pc L (.int y :: .int x :: S)) P :=
  Goes.via (fun _ u => Jvm.Free.XS.icmpYes X.here hx rfl rfl hd rfl hc ho hp u) q
theorem G.icmpF (X : Stand p l e R s m args below meth c T locs cells slots) (hx : p.tables.exec = Jvm.exec) {cd : ClassFile.Cond} {x y : Int32} {o : Int} (hd : decode c.code pc = .ok (.if_icmp cd o, 3)) (hc : if_icmp.holds cd x y = false) (hp : pc + 3 = pc') (q : Goes p e below T (mkF m pc' L S) P) : Goes p e below T (mkF m pc L (.int y :: .int x :: S)) P := by
  subst hp; exact Goes.via (fun _ u => Jvm.Free.XS.icmpNo X.here hx rfl hd rfl hc u) q
theorem G.ifT (X : Stand p l e R s m args below meth c T locs cells slots) (hx : p.tables.exec = Jvm.exec) {cd : ClassFile.Cond} {x : Int32} {o : Int} (hd : decode c.code pc = .ok (.ifCond cd o, 3)) (hc : ifCond.holds cd x = true) (ho : 0 ≤ (pc : Int) + o) (hp : ((pc : Int) + o).toNat = pc') (q : Goes p e below T (mkF m pc' L S) P) : Goes p e below T (mkF m pc L (.int x :: S)) P :=
  Goes.via (fun _ u => Jvm.Free.XS.ifYes X.here hx rfl rfl hd rfl hc ho hp u) q
theorem G.ifF (X : Stand p l e R s m args below meth c T locs cells slots) (hx : p.tables.exec = Jvm.exec) {cd : ClassFile.Cond} {x : Int32} {o : Int} (hd : decode c.code pc = .ok (.ifCond cd o, 3)) (hc : ifCond.holds cd x = false) (hp : pc + 3 = pc') (q : Goes p e below T (mkF m pc' L S) P) : Goes p e below T (mkF m pc L (.int x :: S)) P := by
  subst hp; exact Goes.via (fun _ u => Jvm.Free.XS.ifNo X.here hx rfl hd rfl hc u) q
theorem G.nullT (X : Stand p l e R s m args below meth c T locs cells slots) (hx : p.tables.exec = Jvm.exec) {o : Int} (hd : decode c.code pc = .ok (.ifnull o, 3)) (ho : 0 ≤ (pc : Int) + o) (hp : ((pc : Int) + o).toNat = pc') (q : Goes p e below T (mkF m pc' L S) P) : Goes p e below T (mkF m pc L (.null :: S)) P :=
  Goes.via (fun _ u => Jvm.Free.XS.ifnullYes X.here hx rfl rfl hd rfl ho hp u) q
theorem G.nullF (X : Stand p l e R s m args below meth c T locs cells slots) (hx : p.tables.exec = Jvm.exec) {b : Addr} {o : Int} (hd : decode c.code pc = .ok (.ifnull o, 3)) (hp : pc + 3 = pc') (q : Goes p e below T (mkF m pc' L S) P) : Goes p e below T (mkF m pc L (.ref b :: S)) P := by
  subst hp; exact Goes.via (fun _ u => Jvm.Free.XS.ifnullNo X.here hx rfl hd rfl u) q
theorem G.nonnullT (X : Stand p l e R s m args below meth c T locs cells slots) (hx : p.tables.exec = Jvm.exec) {b : Addr} {o : Int} (hd : decode c.code pc = .ok (.ifnonnull o, 3)) (ho : 0 ≤ (pc : Int) + o) (hp : ((pc : Int) + o).toNat = pc') (q : Goes p e below T (mkF m pc' L S) P) : Goes p e below T (mkF m pc L (.ref b :: S)) P :=
  Goes.via (fun _ u => Jvm.Free.XS.ifnonnullYes X.here hx rfl rfl hd rfl ho hp u) q
theorem G.nonnullF (X : Stand p l e R s m args below meth c T locs cells slots) (hx : p.tables.exec = Jvm.exec) {o : Int} (hd : decode c.code pc = .ok (.ifnonnull o, 3)) (hp : pc + 3 = pc') (q : Goes p e below T (mkF m pc' L S) P) : Goes p e below T (mkF m pc L (.null :: S)) P := by
  subst hp; exact Goes.via (fun _ u => Jvm.Free.XS.ifnonnullNo X.here hx rfl hd rfl u) q
theorem G.acmpT (X : Stand p l e R s m args below meth c T locs cells slots) (hx : p.tables.exec = Jvm.exec) {cd : ACond} {x y : Value} {o : Int} (hd : decode c.code pc = .ok (.if_acmp cd o, 3)) (h1 : x.isRef = true) (h2 : y.isRef = true) {same : Bool} (hq : decide (x = y) = same) (ho : 0 ≤ (pc : Int) + o) (hp : pc' = if acV cd same = true then ((pc : Int) + o).toNat else pc + 3) (q : Goes p e below T (mkF m pc' L S) P) : Goes p e below T (mkF m pc L (y :: x :: S)) P :=
  Goes.via (fun _ u => Jvm.RoadKit.acmp X hx rfl h1 h2 rfl hd rfl hq ho hp u) q
theorem G.ldcInt (X : Stand p l e R s m args below meth c T locs cells slots) (hx : p.tables.exec = Jvm.exec) (hZ : Z.Warmed39 s.vm) {own : String} {index : Nat} {v : Int32} (hown : s.vm.findClass own = some m.cls) (w : (Cond.constant own index v).before a0 Z = true) (hd : decode c.code pc = .ok (.ldc index, 2)) (hp : pc + 2 = pc') (q : Goes p e below T (mkF m pc' L (.int v :: S)) P) : Goes p e below T (mkF m pc L S) P := by
  subst hp; exact Goes.via (X.ldcInt hx hown (mvT hZ w) (g := mkF m pc L S) rfl hd) q
theorem G.ldcLong (X : Stand p l e R s m args below meth c T locs cells slots) (hx : p.tables.exec = Jvm.exec) (hZ : Z.Warmed39 s.vm) {own : String} {index : Nat} {v : Int64} (hown : s.vm.findClass own = some m.cls) (w : (Cond.constantLong own index v).before a0 Z = true) (hd : decode c.code pc = .ok (.ldc2_w index, 3)) (hp : pc + 3 = pc') (q : Goes p e below T (mkF m pc' L (.long v :: S)) P) : Goes p e below T (mkF m pc L S) P := by
  subst hp; exact Goes.via (X.ldc2Long hx hown (mvT hZ w) (g := mkF m pc L S) rfl hd) q
theorem G.getF (X : Stand p l e R s m args below meth c T locs cells slots) (hx : p.tables.exec = Jvm.exec) (hZ : Z.Warmed39 s.vm) {own R0 O n d : String} {index : Nat} (hown : s.vm.findClass own = some m.cls) (w : (Cond.fieldLink own index R0 n d).before a0 Z = true) (via : Via Z R0 O n d) (eT : T.heap = h) (F : Fld Z h a O n d v) (hd : decode c.code pc = .ok (.getfield index, 3)) (hp : pc + 3 = pc')
    (q : ∀ T', Stand p l e R s m args below meth c T' locs cells slots → T'.heap = h → Goes p e below T' (mkF m pc' L (v :: S)) P) : Goes p e below T (mkF m pc L (.ref a :: S)) P := by
  subst hp
  obtain ⟨T', X', e', st⟩ := Jvm.RoadKit.getF X hx hZ hown (host := "") (Or.inl w) via eT F (g := mkF m pc L (.ref a :: S)) rfl rfl hd
  exact Goes.via st (q T' X' e')
theorem G.getS (X : Stand p l e R s m args below meth c T locs cells slots) (hx : p.tables.exec = Jvm.exec) (hZ : Z.Warmed39 s.vm) {own R0 O n d : String} {index : Nat} (hown : s.vm.findClass own = some m.cls) (w : (Cond.fieldLink own index R0 n d).before a0 Z = true) (via : Via Z R0 O n d) (eT : T.heap = h) (F : Sta Z h O n d v) (hd : decode c.code pc = .ok (.getstatic index, 3)) (hp : pc + 3 = pc')
    (q : ∀ T', Stand p l e R s m args below meth c T' locs cells slots → T'.heap = h → Goes p e below T' (mkF m pc' L (v :: S)) P) : Goes p e below T (mkF m pc L S) P := by
  subst hp
  obtain ⟨T', X', e', st⟩ := Jvm.RoadKit.getS2 X hx hZ hown (host := "") (Or.inl w) via eT F (g := mkF m pc L S) rfl hd
  exact Goes.via st (q T' X' e')
theorem G.putF (X : Stand p l e R s m args below meth c T locs cells slots) (hx : p.tables.exec = Jvm.exec) (hZ : Z.Warmed39 s.vm) {own R0 O n d C : String} {index kk : Nat} {ty : FieldType} {old : Value} (hown : s.vm.findClass own = some m.cls) (w : (Cond.fieldLink own index R0 n d).before a0 Z = true) (via : Via Z R0 O n d) (eT : T.heap = h) (F : Fld Z h a O n d old) (E : Exa Z h a C) (Ly : (Cond.lays C O n d).before a0 Z = true ∨ ((Cond.laysFinal C O n d).before a0 Z = true ∧ own = O ∧ meth.name = "<init>")) (wi : (Cond.instantiable C kk).before a0 Z = true)
    (hty : parseFieldDescriptor d = some ty) (hn : narrow ty v = v) (hf : fits ty v = true) (hd : decode c.code pc = .ok (.putfield index, 3)) (hp : pc + 3 = pc')
    (q : ∀ T' h', Stand p l e R s m args below meth c T' (locs ++ [⟨a, Jvm.RoadKit.slotOf Z O n d⟩]) cells slots → T'.heap = h' → Wr h h' a (Jvm.RoadKit.slotOf Z O n d) v → Goes p e below T' (mkF m pc' L S) P) : Goes p e below T (mkF m pc L (v :: .ref a :: S)) P := by
  subst hp
  obtain ⟨T', h', X', e', W', st⟩ := Jvm.RoadKit.putF X hx hZ hown (host := "") (Or.inl w) via eT F E Ly wi hty hn hf (g := mkF m pc L (v :: .ref a :: S)) rfl rfl hd
  exact Goes.via st (q T' h' X' e' W')
theorem G.putFN (X : Stand p l e R s m args below meth c T locs cells slots) (hx : p.tables.exec = Jvm.exec) (hZ : Z.Warmed39 s.vm) {own R0 O n d C : String} {index kk : Nat} {ty : FieldType} {old v' : Value} (hown : s.vm.findClass own = some m.cls) (w : (Cond.fieldLink own index R0 n d).before a0 Z = true) (via : Via Z R0 O n d) (eT : T.heap = h) (F : Fld Z h a O n d old) (E : Exa Z h a C) (Ly : (Cond.lays C O n d).before a0 Z = true ∨ ((Cond.laysFinal C O n d).before a0 Z = true ∧ own = O ∧ meth.name = "<init>")) (wi : (Cond.instantiable C kk).before a0 Z = true)
    (hty : parseFieldDescriptor d = some ty) (hn : narrow ty v = v') (hf : fits ty v' = true) (hd : decode c.code pc = .ok (.putfield index, 3)) (hp : pc + 3 = pc')
    (q : ∀ T' h', Stand p l e R s m args below meth c T' (locs ++ [⟨a, Jvm.RoadKit.slotOf Z O n d⟩]) cells slots → T'.heap = h' → Wr h h' a (Jvm.RoadKit.slotOf Z O n d) v' → Goes p e below T' (mkF m pc' L S) P) : Goes p e below T (mkF m pc L (v :: .ref a :: S)) P := by
  subst hp
  obtain ⟨T', h', X', e', W', st⟩ := Jvm.RoadKit.putFN X hx hZ hown w via eT F E Ly wi hty hn hf (g := mkF m pc L (v :: .ref a :: S)) rfl rfl hd
  exact Goes.via st (q T' h' X' e' W')
theorem G.newO (X : Stand p l e R s m args below meth c T locs cells slots) (hx : p.tables.exec = Jvm.exec) (hZ : Z.Warmed39 s.vm) {own C : String} {index n : Nat} (hown : s.vm.findClass own = some m.cls) (w : (Cond.classLink own index C).before a0 Z = true) (wi : (Cond.instantiable C n).before a0 Z = true) (wz : (Cond.initialized C).before a0 Z = true) (eT : T.heap = h) (hd : decode c.code pc = .ok (.new index, 3)) (hc : cells + 1 ≤ R.cells) (hl : slots + n ≤ R.slots) (hp : pc + 3 = pc')
    (q : ∀ T' h' a, a = h.size → Stand p l e R s m args below meth c T' locs (cells + 1) (slots + n) → T'.heap = h' → Ext h h' → Exa Z h' a C → (∀ {O nm d : String} {ty : FieldType}, Laid Z a0 C O nm d → parseFieldDescriptor d = some ty → Fld Z h' a O nm d (defaultValue ty)) → Goes p e below T' (mkF m pc' L (.ref a :: S)) P) : Goes p e below T (mkF m pc L S) P := by
  subst hp
  obtain ⟨T', h', X', e', E', A', D', -, st⟩ := Jvm.RoadKit.newO X hx hZ hown w wi wz eT (g := mkF m pc L S) rfl hd hc hl
  exact Goes.via st (q T' h' _ rfl X' e' E' A' D')
theorem G.initO (X : Stand p l e R s m args below meth c T locs cells slots) (hx : p.tables.exec = Jvm.exec) (hZ : Z.Warmed39 s.vm) {own : String} {idx : Nat} (hown : s.vm.findClass own = some m.cls) (w1 : (Cond.methodLink own idx Lib.objectInit).before a0 Z = true) (w2 : (Cond.instanceMethod Lib.objectInit).before a0 Z = true) (w3 : (Cond.code Lib.objectInit ⟨#[0xb1]⟩ 1 none).before a0 Z = true) (eT : T.heap = h) (hsz : L.size = c.maxLocals) (hd : decode c.code pc = .ok (.invokespecial idx, 3)) (hf : 1 ≤ R.frames) {W : Nat} (hW : (S.map fun v => v.category).sum ≤ W) (hl : W + 12 ≤ R.locals) (hp : pc + 3 = pc')
    (q : ∀ T', Stand p l e R s m args below meth c T' locs cells slots → T'.heap = h → Goes p e below T' (mkF m pc' L S) P) : Goes p e below T (mkF m pc L (.ref a :: S)) P := by
  subst hp
  obtain ⟨T', X', e', st⟩ := Jvm.RoadKit.initO X hx hZ hown w1 w2 w3 eT (g := mkF m pc L (.ref a :: S)) rfl hsz rfl hd hf (W := W) (by show 2 * 0 + _ ≤ _; omega) hl
  exact Goes.via st (q T' X' e')
/-- an array's components, in order -/
def Seq (Z : State) (h : Heap) (a : Addr) (ty : FieldType) (vs : List Value) : Prop := ∃ cl : Cell, Arr Z h a cl ty ∧ cl.slots.toList = vs ∧ vs.length < 2 ^ 31
variable {vs : List Value} {ty : FieldType} {j : Int32}
theorem Seq.lt (F : Seq Z h a ty vs) : a < h.size := by obtain ⟨_, A, -⟩ := F; exact A.lt
theorem Seq.ext (F : Seq Z h a ty vs) (E : Ext h h') : Seq Z h' a ty vs := by obtain ⟨cl, A, r⟩ := F; exact ⟨cl, A.ext E, r⟩
theorem Seq.other {w : Value} (F : Seq Z h b ty vs) (W : Wr h h' a sl w) (q : b ≠ a) : Seq Z h' b ty vs := by obtain ⟨cl, A, r⟩ := F; exact ⟨cl, A.other W q, r⟩
theorem Seq.keep (F : Seq Z h a ty vs) (K : Keep h h' ws) (q : a ∉ ws) : Seq Z h' a ty vs := by obtain ⟨cl, A, r⟩ := F; exact ⟨cl, ⟨K.2.1 a cl A.1 q, A.2⟩, r⟩
theorem Seq.new {k : ClassId} {z : Int32} (A : Arr Z h a (newA k ty z) ty) (n : Nat) (hn : z.toNatClampNeg = n) : Seq Z h a ty (List.replicate n (defaultValue ty)) := by
  refine ⟨_, A, by rw [← hn]; simp [newA], ?_⟩
  rw [List.length_replicate, ← hn]
  have := Int32.toInt_lt z
  simp only [Int32.toNatClampNeg]
  omega
theorem Seq.at (F : Seq Z h a ty vs) (hj : ¬ j < 0) (hv : vs[j.toNatClampNeg]? = some v) : ∃ cl : Cell, h[a]? = some cl ∧ Z.isArrayOf cl ty ∧ cl.vm ≠ .unknown ∧ ¬ (j < 0 ∨ cl.slots.size ≤ j.toNatClampNeg) ∧ cl.slots[j.toNatClampNeg]? = some v := by
  obtain ⟨cl, A, rfl, hl⟩ := F
  rw [Array.getElem?_toList] at hv
  exact ⟨cl, A.1, A.2.1, A.2.2, fun q => q.elim hj fun q => by have := (Array.getElem?_eq_some_iff.mp hv).1; omega, hv⟩
theorem Seq.set (F : Seq Z h a ty vs) (W : Wr h h' a j.toNatClampNeg v) : Seq Z h' a ty (vs.set j.toNatClampNeg v) := by
  obtain ⟨cl, A, rfl, hl⟩ := F
  exact ⟨_, A.same W, by simp [Cell.setSlot], by simpa using hl⟩
theorem Seq.inb (F : Seq Z h a ty vs) (hj : ¬ j < 0) (hi : j.toNatClampNeg < vs.length) : ∃ cl : Cell, Arr Z h a cl ty ∧ ¬ (j < 0 ∨ cl.slots.size ≤ j.toNatClampNeg) := by
  obtain ⟨cl, A, rfl, hl⟩ := F
  exact ⟨cl, A, fun q => q.elim hj fun q => by rw [Array.length_toList] at hi; omega⟩
theorem G.newP (X : Stand p l e R s m args below meth c T locs cells slots) (hx : p.tables.exec = Jvm.exec) (hZ : Z.Warmed39 s.vm) {aty : ArrayType} (w : (Cond.arrayClass (newarray.typeOf aty)).before a0 Z = true) (eT : T.heap = h) (hd : decode c.code pc = .ok (.newarray aty, 2)) {z : Int32} (hz : ¬ z < 0) {cap n : Nat} (hn : z.toNatClampNeg = n) (hcap : n ≤ cap) (hb : cap * 8 ≤ 536870912) (hc : cells + 1 ≤ R.cells) (hl : slots + cap ≤ R.slots) (hp : pc + 2 = pc')
    (q : ∀ T' h' a, a = h.size → Stand p l e R s m args below meth c T' locs (cells + 1) (slots + cap) → T'.heap = h' → Ext h h' → Seq Z h' a (newarray.typeOf aty) (List.replicate n (defaultValue (newarray.typeOf aty))) → Goes p e below T' (mkF m pc' L (.ref a :: S)) P) : Goes p e below T (mkF m pc L (.int z :: S)) P := by
  subst hp
  obtain ⟨T', h', k, X', e', E', A', st⟩ := Jvm.RoadKit.newP X hx hZ w eT (g := mkF m pc L (.int z :: S)) rfl hd rfl hz (cap := cap) (hn ▸ hcap) hb hc hl
  exact Goes.via st (q T' h' _ rfl X' e' E' (Seq.new A' n hn))
theorem G.arraylength (X : Stand p l e R s m args below meth c T locs cells slots) (hx : p.tables.exec = Jvm.exec) (hZ : Z.Warmed39 s.vm) (eT : T.heap = h) (F : Seq Z h a ty vs) (hd : decode c.code pc = .ok (.arraylength, 1)) {z : Int32} (hz : vs.length.toInt32 = z) (hp : pc + 1 = pc') (q : Goes p e below T (mkF m pc' L (.int z :: S)) P) : Goes p e below T (mkF m pc L (.ref a :: S)) P := by
  subst hp
  obtain ⟨cl, A, rfl, hl⟩ := F
  rw [Array.length_toList] at hz
  subst hz
  exact Goes.via (fun t u => X.arraylength hx (by rw [eT]; exact A.1) (State.isArrayOf_alike hZ.alike A.2.1) (g := mkF m pc L (.ref a :: S)) rfl rfl hd t u) q
theorem G.iaload (X : Stand p l e R s m args below meth c T locs cells slots) (hx : p.tables.exec = Jvm.exec) (hZ : Z.Warmed39 s.vm) (eT : T.heap = h) (F : Seq Z h a .int vs) (hd : decode c.code pc = .ok (.iaload, 1)) (hj : ¬ j < 0) (hv : vs[j.toNatClampNeg]? = some v) (hp : pc + 1 = pc') (q : Goes p e below T (mkF m pc' L (v :: S)) P) : Goes p e below T (mkF m pc L (.int j :: .ref a :: S)) P := by
  subst hp
  obtain ⟨cl, q1, q2, q3, q4, q5⟩ := F.at hj hv
  exact Goes.via (fun t u => X.iaload hx (by rw [eT]; exact q1) (State.isArrayOf_alike hZ.alike q2) q3 q4 q5 (g := mkF m pc L (.int j :: .ref a :: S)) rfl rfl hd t u) q
theorem G.laload (X : Stand p l e R s m args below meth c T locs cells slots) (hx : p.tables.exec = Jvm.exec) (hZ : Z.Warmed39 s.vm) (eT : T.heap = h) (F : Seq Z h a .long vs) (hd : decode c.code pc = .ok (.laload, 1)) (hj : ¬ j < 0) (hv : vs[j.toNatClampNeg]? = some v) (hp : pc + 1 = pc') (q : Goes p e below T (mkF m pc' L (v :: S)) P) : Goes p e below T (mkF m pc L (.int j :: .ref a :: S)) P := by
  subst hp
  obtain ⟨cl, q1, q2, q3, q4, q5⟩ := F.at hj hv
  exact Goes.via (fun t u => X.laload hx (by rw [eT]; exact q1) (State.isArrayOf_alike hZ.alike q2) q3 q4 q5 (g := mkF m pc L (.int j :: .ref a :: S)) rfl rfl hd t u) q
theorem G.baload (X : Stand p l e R s m args below meth c T locs cells slots) (hx : p.tables.exec = Jvm.exec) (hZ : Z.Warmed39 s.vm) (eT : T.heap = h) (F : Seq Z h a .byte vs) (hd : decode c.code pc = .ok (.baload, 1)) (hj : ¬ j < 0) (hv : vs[j.toNatClampNeg]? = some v) (hp : pc + 1 = pc') (q : Goes p e below T (mkF m pc' L (v :: S)) P) : Goes p e below T (mkF m pc L (.int j :: .ref a :: S)) P := by
  subst hp
  obtain ⟨cl, q1, q2, q3, q4, q5⟩ := F.at hj hv
  exact Goes.via (fun t u => X.baloadBytes hx (by rw [eT]; exact q1) (State.isArrayOf_alike hZ.alike q2) q3 q4 q5 (g := mkF m pc L (.int j :: .ref a :: S)) rfl rfl hd t u) q
theorem G.zaload (X : Stand p l e R s m args below meth c T locs cells slots) (hx : p.tables.exec = Jvm.exec) (hZ : Z.Warmed39 s.vm) (eT : T.heap = h) (F : Seq Z h a .boolean vs) (hd : decode c.code pc = .ok (.baload, 1)) (hj : ¬ j < 0) (hv : vs[j.toNatClampNeg]? = some v) (hp : pc + 1 = pc') (q : Goes p e below T (mkF m pc' L (v :: S)) P) : Goes p e below T (mkF m pc L (.int j :: .ref a :: S)) P := by
  subst hp
  obtain ⟨cl, q1, q2, q3, q4, q5⟩ := F.at hj hv
  exact Goes.via (fun t u => X.baloadBooleans hx (by rw [eT]; exact q1) (State.isArrayOf_alike hZ.alike q2) q3 q4 q5 (g := mkF m pc L (.int j :: .ref a :: S)) rfl rfl hd t u) q
theorem G.caload (X : Stand p l e R s m args below meth c T locs cells slots) (hx : p.tables.exec = Jvm.exec) (hZ : Z.Warmed39 s.vm) (eT : T.heap = h) (F : Seq Z h a .char vs) (hd : decode c.code pc = .ok (.caload, 1)) (hj : ¬ j < 0) (hv : vs[j.toNatClampNeg]? = some v) (hp : pc + 1 = pc') (q : Goes p e below T (mkF m pc' L (v :: S)) P) : Goes p e below T (mkF m pc L (.int j :: .ref a :: S)) P := by
  subst hp
  obtain ⟨cl, q1, q2, q3, q4, q5⟩ := F.at hj hv
  exact Goes.via (fun t u => X.caload hx (by rw [eT]; exact q1) (State.isArrayOf_alike hZ.alike q2) q3 q4 q5 (g := mkF m pc L (.int j :: .ref a :: S)) rfl rfl hd t u) q
theorem G.aaload (X : Stand p l e R s m args below meth c T locs cells slots) (hx : p.tables.exec = Jvm.exec) (hZ : Z.Warmed39 s.vm) (eT : T.heap = h) (F : Seq Z h a ty vs) (hty : ty.isReference = true) (hd : decode c.code pc = .ok (.aaload, 1)) (hj : ¬ j < 0) (hv : vs[j.toNatClampNeg]? = some v) (hp : pc + 1 = pc') (q : Goes p e below T (mkF m pc' L (v :: S)) P) : Goes p e below T (mkF m pc L (.int j :: .ref a :: S)) P := by
  subst hp
  obtain ⟨cl, q1, q2, q3, q4, q5⟩ := F.at hj hv
  exact Goes.via (fun t u => X.aaload hx (by rw [eT]; exact q1) (State.isArrayOf_alike hZ.alike q2) hty q3 q4 q5 (g := mkF m pc L (.int j :: .ref a :: S)) rfl rfl hd t u) q
theorem G.iastore (X : Stand p l e R s m args below meth c T locs cells slots) (hx : p.tables.exec = Jvm.exec) (hZ : Z.Warmed39 s.vm) (eT : T.heap = h) (F : Seq Z h a .int vs) {x : Int32} (hd : decode c.code pc = .ok (.iastore, 1)) (hj : ¬ j < 0) (hi : j.toNatClampNeg < vs.length) (hp : pc + 1 = pc')
    (q : ∀ T' h', Stand p l e R s m args below meth c T' (locs ++ [⟨a, j.toNatClampNeg⟩]) cells slots → T'.heap = h' → Wr h h' a j.toNatClampNeg (.int x) → Seq Z h' a .int (vs.set j.toNatClampNeg (.int x)) → Goes p e below T' (mkF m pc' L S) P) : Goes p e below T (mkF m pc L (.int x :: .int j :: .ref a :: S)) P := by
  subst hp
  obtain ⟨cl, A, hj'⟩ := F.inb hj hi
  obtain ⟨T', h', X', e', W', st⟩ := Jvm.RoadKit.stI X hx hZ eT A hj' (g := mkF m pc L (.int x :: .int j :: .ref a :: S)) rfl rfl hd
  exact Goes.via st (q T' h' X' e' W' (F.set W'))
theorem G.lastore (X : Stand p l e R s m args below meth c T locs cells slots) (hx : p.tables.exec = Jvm.exec) (hZ : Z.Warmed39 s.vm) (eT : T.heap = h) (F : Seq Z h a .long vs) {x : Int64} (hd : decode c.code pc = .ok (.lastore, 1)) (hj : ¬ j < 0) (hi : j.toNatClampNeg < vs.length) (hp : pc + 1 = pc')
    (q : ∀ T' h', Stand p l e R s m args below meth c T' (locs ++ [⟨a, j.toNatClampNeg⟩]) cells slots → T'.heap = h' → Wr h h' a j.toNatClampNeg (.long x) → Seq Z h' a .long (vs.set j.toNatClampNeg (.long x)) → Goes p e below T' (mkF m pc' L S) P) : Goes p e below T (mkF m pc L (.long x :: .int j :: .ref a :: S)) P := by
  subst hp
  obtain ⟨cl, A, hj'⟩ := F.inb hj hi
  obtain ⟨T', h', X', e', W', st⟩ := Jvm.RoadKit.stJ X hx hZ eT A hj' (g := mkF m pc L (.long x :: .int j :: .ref a :: S)) rfl rfl hd
  exact Goes.via st (q T' h' X' e' W' (F.set W'))
theorem G.bastore (X : Stand p l e R s m args below meth c T locs cells slots) (hx : p.tables.exec = Jvm.exec) (hZ : Z.Warmed39 s.vm) (eT : T.heap = h) (F : Seq Z h a .byte vs) {x : Int32} (hd : decode c.code pc = .ok (.bastore, 1)) (hj : ¬ j < 0) (hi : j.toNatClampNeg < vs.length) (hp : pc + 1 = pc')
    (q : ∀ T' h', Stand p l e R s m args below meth c T' (locs ++ [⟨a, j.toNatClampNeg⟩]) cells slots → T'.heap = h' → Wr h h' a j.toNatClampNeg (.int (nar .byte x)) → Seq Z h' a .byte (vs.set j.toNatClampNeg (.int (nar .byte x))) → Goes p e below T' (mkF m pc' L S) P) : Goes p e below T (mkF m pc L (.int x :: .int j :: .ref a :: S)) P := by
  subst hp
  obtain ⟨cl, A, hj'⟩ := F.inb hj hi
  obtain ⟨T', h', X', e', W', st⟩ := Jvm.RoadKit.stB X hx hZ eT A hj' (g := mkF m pc L (.int x :: .int j :: .ref a :: S)) rfl rfl hd
  exact Goes.via st (q T' h' X' e' W' (F.set W'))
theorem G.zastore (X : Stand p l e R s m args below meth c T locs cells slots) (hx : p.tables.exec = Jvm.exec) (hZ : Z.Warmed39 s.vm) (eT : T.heap = h) (F : Seq Z h a .boolean vs) {x : Int32} (hd : decode c.code pc = .ok (.bastore, 1)) (hj : ¬ j < 0) (hi : j.toNatClampNeg < vs.length) (hp : pc + 1 = pc')
    (q : ∀ T' h', Stand p l e R s m args below meth c T' (locs ++ [⟨a, j.toNatClampNeg⟩]) cells slots → T'.heap = h' → Wr h h' a j.toNatClampNeg (.int (nar .boolean x)) → Seq Z h' a .boolean (vs.set j.toNatClampNeg (.int (nar .boolean x))) → Goes p e below T' (mkF m pc' L S) P) : Goes p e below T (mkF m pc L (.int x :: .int j :: .ref a :: S)) P := by
  subst hp
  obtain ⟨cl, A, hj'⟩ := F.inb hj hi
  obtain ⟨T', h', X', e', W', st⟩ := Jvm.RoadKit.stZ X hx hZ eT A hj' (g := mkF m pc L (.int x :: .int j :: .ref a :: S)) rfl rfl hd
  exact Goes.via st (q T' h' X' e' W' (F.set W'))
theorem G.castore (X : Stand p l e R s m args below meth c T locs cells slots) (hx : p.tables.exec = Jvm.exec) (hZ : Z.Warmed39 s.vm) (eT : T.heap = h) (F : Seq Z h a .char vs) {x : Int32} (hd : decode c.code pc = .ok (.castore, 1)) (hj : ¬ j < 0) (hi : j.toNatClampNeg < vs.length) (hp : pc + 1 = pc')
    (q : ∀ T' h', Stand p l e R s m args below meth c T' (locs ++ [⟨a, j.toNatClampNeg⟩]) cells slots → T'.heap = h' → Wr h h' a j.toNatClampNeg (.int (nar .char x)) → Seq Z h' a .char (vs.set j.toNatClampNeg (.int (nar .char x))) → Goes p e below T' (mkF m pc' L S) P) : Goes p e below T (mkF m pc L (.int x :: .int j :: .ref a :: S)) P := by
  subst hp
  obtain ⟨cl, A, hj'⟩ := F.inb hj hi
  obtain ⟨T', h', X', e', W', st⟩ := Jvm.RoadKit.stC X hx hZ eT A hj' (g := mkF m pc L (.int x :: .int j :: .ref a :: S)) rfl rfl hd
  exact Goes.via st (q T' h' X' e' W' (F.set W'))
variable {y : MethodName} {bytes : ByteArray} {maxL : Nat} {ret : Option FieldType} {rm : Room} {argsL S0 : List Value} {W : Nat} {QQ : Option Value → Heap → List Loc → Prop}
theorem G.callS (X : Stand p l e R s m args below meth c T locs cells slots) (hx : p.tables.exec = Jvm.exec) (hZ : Z.Warmed39 s.vm) {own : String} {index : Nat} (hown : s.vm.findClass own = some m.cls) (w1 : (Cond.methodLink own index y).before a0 Z = true) (w2 : (Cond.static y).before a0 Z = true) (w3 : (Cond.initialized y.cls).before a0 Z = true) (w4 : (Cond.code y bytes maxL ret).before a0 Z = true)
    (hy : y.cls ≠ "java/lang/invoke/MethodHandle" ∧ y.cls ≠ "java/lang/invoke/VarHandle") (eT : T.heap = h) (hC : Con l y bytes maxL ret rm Z argsL.toArray h QQ) (hlen : ∀ sig, parseMethodDescriptor y.desc = some sig → argsL.length = sig.parameters.length) (hst : S0 = argsL.reverse ++ S) (hW : (S.map fun v => v.category).sum ≤ W)
    (hf : rm.frames + 1 ≤ R.frames) (hl : W + (maxL + 11) + rm.locals ≤ R.locals) (hc : cells + rm.cells ≤ R.cells) (hs : slots + rm.slots ≤ R.slots) (hsz : L.size = c.maxLocals) (hd : decode c.code pc = .ok (.invokestatic index, 3)) (hp : pc + 3 = pc')
    (q : ∀ T' v Lc, QQ v T'.heap Lc → Stand p l e R s m args below meth c T' (locs ++ Lc) (cells + rm.cells) (slots + rm.slots) → Goes p e below T' (mkF m pc' L (v.toList ++ S)) P) : Goes p e below T (mkF m pc L S0) P := by
  subst hp
  obtain ⟨v, vm1, ⟨T', L1, k1, n1⟩, hw1, X', ⟨Lc, hQ, l1, y1, z1⟩, st⟩ := Jvm.LawKit.callS X hx (y := y) hown (mvT hZ w1) (mvT hZ w2) (mvT hZ w3) (mvT hZ w4) hy (hC.back (W := W) hZ w4 w3 hf hl) (g := mkF m pc L S0) rfl hsz (argsL := argsL) (rest := S) hlen hst (by show 2 * 0 + _ ≤ _; omega) hd (fun _ _ => ⟨rfl, eT, hc, hs⟩)
  dsimp only [Pt.U, Pt.locs, Pt.cells, Pt.slots] at X' l1 y1 z1 st hQ
  subst l1 y1 z1
  exact Goes.via st (q T' v Lc hQ X')
theorem G.callI (X : Stand p l e R s m args below meth c T locs cells slots) (hx : p.tables.exec = Jvm.exec) (hZ : Z.Warmed39 s.vm) {own : String} {index : Nat} (hy1 : y.name = "<init>") (hown : s.vm.findClass own = some m.cls) (w1 : (Cond.methodLink own index y).before a0 Z = true) (w2 : (Cond.instanceMethod y).before a0 Z = true) (w3 : (Cond.initialized y.cls).before a0 Z = true) (w4 : (Cond.code y bytes maxL none).before a0 Z = true)
    (hy : y.cls ≠ "java/lang/invoke/MethodHandle" ∧ y.cls ≠ "java/lang/invoke/VarHandle") (eT : T.heap = h) (hC : Con l y bytes maxL none rm Z (.ref a :: argsL).toArray h QQ) (hlen : ∀ sig, parseMethodDescriptor y.desc = some sig → argsL.length = sig.parameters.length) (hst : S0 = argsL.reverse ++ .ref a :: S) (hW : (S.map fun v => v.category).sum ≤ W)
    (hf : rm.frames + 1 ≤ R.frames) (hl : W + (maxL + 11) + rm.locals ≤ R.locals) (hc : cells + rm.cells ≤ R.cells) (hs : slots + rm.slots ≤ R.slots) (hsz : L.size = c.maxLocals) (hd : decode c.code pc = .ok (.invokespecial index, 3)) (hp : pc + 3 = pc')
    (q : ∀ T' v Lc, QQ v T'.heap Lc → Stand p l e R s m args below meth c T' (locs ++ Lc) (cells + rm.cells) (slots + rm.slots) → Goes p e below T' (mkF m pc' L (v.toList ++ S)) P) : Goes p e below T (mkF m pc L S0) P := by
  subst hp
  obtain ⟨v, vm1, ⟨T', L1, k1, n1⟩, hw1, X', ⟨Lc, hQ, l1, y1, z1⟩, st⟩ := X.specialBack hx (y := y) hy1 hown (mvT hZ w1) (mvT hZ w2) (mvT hZ w4) hy (hC.back (W := W) hZ w4 w3 hf hl) (g := mkF m pc L S0) rfl hsz (Steps.refl _) (a := a) (argsL := argsL) (rest := S) hlen hst (by show 2 * 0 + _ ≤ _; omega) hd (fun _ _ => ⟨rfl, eT, hc, hs⟩)
  dsimp only [Pt.U, Pt.locs, Pt.cells, Pt.slots] at X' l1 y1 z1 st hQ
  subst l1 y1 z1
  exact Goes.thru st (q T' v Lc hQ X')
theorem G.callV (X : Stand p l e R s m args below meth c T locs cells slots) (hx : p.tables.exec = Jvm.exec) (hZ : Z.Warmed39 s.vm) {own C : String} {index : Nat} {y0 : MethodName} (hown : s.vm.findClass own = some m.cls) (w1 : (Cond.methodLink own index y0).before a0 Z = true) (w2 : (Cond.declares y0).before a0 Z = true) (hnf : NotFace s y0) (w3 : (Cond.selects C y0 y).before a0 Z = true) (w4 : (Cond.instanceMethod y).before a0 Z = true) (w5 : (Cond.initialized y.cls).before a0 Z = true) (w6 : (Cond.code y bytes maxL ret).before a0 Z = true)
    (hy : y0.cls ≠ "java/lang/invoke/MethodHandle" ∧ y0.cls ≠ "java/lang/invoke/VarHandle") (eT : T.heap = h) (E : Exa Z h a C) (hC : Con l y bytes maxL ret rm Z (.ref a :: argsL).toArray h QQ) (hlen : ∀ sig, parseMethodDescriptor y0.desc = some sig → argsL.length = sig.parameters.length) (hst : S0 = argsL.reverse ++ .ref a :: S) (hW : (S.map fun v => v.category).sum ≤ W)
    (hf : rm.frames + 1 ≤ R.frames) (hl : W + (maxL + 11) + rm.locals ≤ R.locals) (hc : cells + rm.cells ≤ R.cells) (hs : slots + rm.slots ≤ R.slots) (hsz : L.size = c.maxLocals) (hd : decode c.code pc = .ok (.invokevirtual index, 3)) (hp : pc + 3 = pc')
    (q : ∀ T' v Lc, QQ v T'.heap Lc → Stand p l e R s m args below meth c T' (locs ++ Lc) (cells + rm.cells) (slots + rm.slots) → Goes p e below T' (mkF m pc' L (v.toList ++ S)) P) : Goes p e below T (mkF m pc L S0) P := by
  subst hp
  obtain ⟨cB, kB, i1, i2, i3⟩ := isOf hZ eT E
  obtain ⟨v, vm1, ⟨T', L1, k1, n1⟩, hw1, X', ⟨Lc, hQ, l1, y1, z1⟩, st⟩ := X.virtualBack hx (y := y0) (z := y) hown (mvT hZ w1) (mvT hZ w2) hnf (mvT hZ w3) (mvT hZ w4) hy (hC.back (W := W) hZ w6 w5 hf hl) i1 i3 (g := mkF m pc L S0) rfl hsz (Steps.refl _) (argsL := argsL) (rest := S) hlen hst (by show 2 * 0 + _ ≤ _; omega) hd (fun _ _ => ⟨rfl, eT, hc, hs⟩)
  dsimp only [Pt.U, Pt.locs, Pt.cells, Pt.slots] at X' l1 y1 z1 st hQ
  subst l1 y1 z1
  exact Goes.thru st (q T' v Lc hQ X')
def Pur (v0 : Option Value) (h0 : Heap) (v : Option Value) (h : Heap) (L : List Loc) : Prop := v = v0 ∧ h = h0 ∧ L = []
theorem Seq.arv (F : Seq Z h a ty vs) (hf : ∀ v ∈ vs, fits ty v = true) {z : Int32} (hz : z.toNatClampNeg = vs.length) (hz0 : ¬ z < 0) (dv : Value) : ∃ k, Arv Z h a k ty z vs dv := by
  obtain ⟨cl, A, rfl, hl⟩ := F
  rw [Array.length_toList] at hz
  have hg : ∀ i, i < cl.slots.size → cl.slots[i]? = some (cl.slots.toList.getD i dv) := fun i hi => by
    rw [List.getD_eq_getElem?_getD, Array.getElem?_toList, Array.getElem?_eq_getElem hi]; rfl
  refine ⟨cl.cls, cl, A, rfl, hz.symm, hz0, hg, fun i hi => hf _ ?_⟩
  have := hg i hi
  rw [Array.getElem?_eq_getElem hi] at this
  rw [← Option.some.inj this]
  exact Array.mem_toList_iff.mpr (Array.getElem_mem hi)
theorem Arv.seq {k : ClassId} {z : Int32} {dv : Value} (F : Arv Z h a k ty z vs dv) (hl : vs.length = z.toNatClampNeg) : Seq Z h a ty vs := by
  obtain ⟨cl, A, -, S, hz, H, -⟩ := F
  refine ⟨cl, A, ?_, ?_⟩
  · apply List.ext_getElem?
    intro i
    rw [Array.getElem?_toList]
    by_cases hi : i < cl.slots.size
    · rw [H i hi, List.getD_eq_getElem?_getD, List.getElem?_eq_getElem (by omega)]; rfl
    · rw [Array.getElem?_eq_none (by omega), List.getElem?_eq_none (by omega)]
  · have := Int32.toInt_lt z
    rw [hl]; simp only [Int32.toNatClampNeg]; omega
/-- System.arraycopy of the whole int[] a into the head of the int[] b -/
theorem G.copyInts (X : Stand p l e R s m args below meth c T locs cells slots) (hx : p.tables.exec = Jvm.exec) (hZ : Z.Warmed39 s.vm) {own : String} {index : Nat} (hown : s.vm.findClass own = some m.cls) (w1 : (Cond.methodLink own index Jvm.Stand.acN).before a0 Z = true) (w2 : (Cond.native Jvm.Stand.acN).before a0 Z = true) (w3 : (Cond.static Jvm.Stand.acN).before a0 Z = true) (w4 : (Cond.initialized "java/lang/System").before a0 Z = true) (eT : T.heap = h)
    {xs ys : List Value} (A : Seq Z h a .int xs) (B : Seq Z h b .int ys) (hfx : ∀ v ∈ xs, fits .int v = true) (hfy : ∀ v ∈ ys, fits .int v = true) {z z' : Int32} (hz : z.toNatClampNeg = xs.length) (hz0 : ¬ z < 0) (hz' : z'.toNatClampNeg = ys.length) (hz0' : ¬ z' < 0) (hle : xs.length ≤ ys.length) {n0 : Nat} (N : Fr n0 locs) (ge : n0 ≤ b)
    (hsz : L.size = c.maxLocals) (hd : decode c.code pc = .ok (.invokestatic index, 3)) (hf : 1 ≤ R.frames) {W : Nat} (hW : (S.map fun v => v.category).sum ≤ W) (hlo : W + (nativeFrameWords "java/lang/System" "arraycopy" 5 + 11) ≤ R.locals) (hp : pc + 3 = pc')
    (q : ∀ T' h' L', Stand p l e R s m args below meth c T' L' cells slots → T'.heap = h' → Fr n0 L' → Keep h h' [b] → Seq Z h' b .int (xs ++ ys.drop xs.length) → Goes p e below T' (mkF m pc' L S) P) : Goes p e below T (mkF m pc L (.int z :: .int (0 : Int32) :: .ref b :: .int (0 : Int32) :: .ref a :: S)) P := by
  subst hp
  obtain ⟨ka, FA⟩ := A.arv hfx hz hz0 (.int 0)
  obtain ⟨kb, FB⟩ := B.arv hfy hz' hz0' (.int 0)
  have e0 : (0 : Int32).toNatClampNeg = 0 := rfl
  have hus : xs = (List.range z.toNatClampNeg).map fun i => xs.getD ((0 : Int32).toNatClampNeg + i) (.int 0) := by
    refine List.ext_getElem (by simp [hz]) fun i h1 h2 => ?_
    simp [List.getD_eq_getElem?_getD, h1, e0]
  obtain ⟨T', h', L', X', e', N', K', F', st⟩ := Jvm.RoadKit.cpA X hx hZ hown w1 w2 w3 w4 eT (us := xs) FA FB (Or.inl ⟨rfl, rfl⟩) (sp := 0) (dp := 0) (nn := z) (by decide) (by decide) hz0 (by rw [e0]; omega) (by rw [e0]; omega) hus (by rw [e0]; omega) N ge (g := mkF m pc L (.int z :: .int (0 : Int32) :: .ref b :: .int (0 : Int32) :: .ref a :: S)) rfl hsz rfl hd hf (W := W) (by show 2 * 0 + _ ≤ _; omega) hlo
  refine Goes.via st (q T' h' L' X' e' N' K' ?_)
  have := Arv.seq F' (by rw [e0]; simp; omega)
  rw [e0, hz] at this
  simpa using this
theorem sel_priv {s : State} {args : Array Value} {n : Nat} (hins : (Cond.instantiable y.cls n).before args s = true) (hpriv : (Cond.privateMethod y).before args s = true) (hinst : (Cond.instanceMethod y).before args s = true) (hy : y.cls ≠ "java/lang/invoke/MethodHandle" ∧ y.cls ≠ "java/lang/invoke/VarHandle") : (Cond.selects y.cls y y).before args s = true := by
  obtain ⟨c, k, hc, hk, -, hniab, -, -⟩ := Cond.instantiable_spec hins
  have hni : k.isInterface = false := (Bool.or_eq_false_iff.mp hniab).1
  obtain ⟨mk, methM, hnamed, hmethM, -, -⟩ := Cond.instanceMethod_spec hinst
  have hfound : s.methodFound? y.cls y.name y.desc = some mk := State.methodFound?_of_named hnamed hy
  have hcls : mk.cls = c := Option.some.inj ((findClass_of_methodNamed hnamed).symm.trans hc)
  have hsel : selectMethod {} s.vm c mk = .method mk := selectMethod_private hmethM (Cond.privateMethod_at hpriv mk methM hnamed hmethM)
  simp only [Cond.before, Cond.holds, Cond.value, hc, hfound, hnamed, hsel, hcls, hk]
  simp; exact hni
theorem G.callP (X : Stand p l e R s m args below meth c T locs cells slots) (hx : p.tables.exec = Jvm.exec) (hZ : Z.Warmed39 s.vm) {own : String} {index : Nat} (hown : s.vm.findClass own = some m.cls) (w1 : (Cond.methodLink own index y).before a0 Z = true) (w2 : (Cond.instanceMethod y).before a0 Z = true) {kk : Nat} (w3 : (Cond.instantiable y.cls kk).before a0 Z = true) (w4 : (Cond.privateMethod y).before a0 Z = true) (w5 : (Cond.initialized y.cls).before a0 Z = true) (w6 : (Cond.code y bytes maxL ret).before a0 Z = true)
    (hy : y.cls ≠ "java/lang/invoke/MethodHandle" ∧ y.cls ≠ "java/lang/invoke/VarHandle") (eT : T.heap = h) {C : String} (E : Exa Z h a C) (hC : Con l y bytes maxL ret rm Z (.ref a :: argsL).toArray h QQ) (hlen : ∀ sig, parseMethodDescriptor y.desc = some sig → argsL.length = sig.parameters.length) (hst : S0 = argsL.reverse ++ .ref a :: S) (hW : (S.map fun v => v.category).sum ≤ W)
    (hf : rm.frames + 1 ≤ R.frames) (hl : W + (maxL + 11) + rm.locals ≤ R.locals) (hc : cells + rm.cells ≤ R.cells) (hs : slots + rm.slots ≤ R.slots) (hsz : L.size = c.maxLocals) (hd : decode c.code pc = .ok (.invokevirtual index, 3)) (hp : pc + 3 = pc')
    (q : ∀ T' v Lc, QQ v T'.heap Lc → Stand p l e R s m args below meth c T' (locs ++ Lc) (cells + rm.cells) (slots + rm.slots) → Goes p e below T' (mkF m pc' L (v.toList ++ S)) P) : Goes p e below T (mkF m pc L S0) P := by
  subst hp
  obtain ⟨cl, i1, i2⟩ := E.cell
  obtain ⟨v, vm1, ⟨T', L1, k1, n1⟩, hw1, X', ⟨Lc, hQ, l1, y1, z1⟩, st⟩ := X.privateBack hx (y := y) hown (mvT hZ w1) (mvT hZ w2) (sel_priv (mvT hZ w3) (mvP hZ w4) (mvT hZ w2) hy) (Cond.privateMethod_at (mvP hZ w4 (args := #[]))) (mvT hZ w6) hy (hC.back (W := W) hZ w6 w5 hf hl) (g := mkF m pc L S0) rfl hsz (Steps.refl _) (a := a) (by rw [eT]; exact i1) i2 (argsL := argsL) (rest := S) hlen hst (by show 2 * 0 + _ ≤ _; omega) hd (fun _ _ => ⟨rfl, eT, hc, hs⟩)
  dsimp only [Pt.U, Pt.locs, Pt.cells, Pt.slots] at X' l1 y1 z1 st hQ
  subst l1 y1 z1
  exact Goes.thru st (q T' v Lc hQ X')
theorem Sta.keep0 {C n d : String} (F : Sta Z h C n d v) (K : Keep h h' []) : Sta Z h' C n d v := by
  obtain ⟨cf, i, k, f, st, cell, h1, h2, h3, h4, h5, r⟩ := F
  exact ⟨cf, i, k, f, st, cell, h1, h2, h3, h4, K.2.1 _ _ h5 nin0, r⟩
theorem Goes.join {α : Type} {F : α → JFrame} (k : (∀ z, Goes p e below T (F z) P) → Goes p e below T f P) (hj : ∀ z, Goes p e below T (F z) P) : Goes p e below T f P := k hj
theorem Goes.to (k : Goes p e below T f' P → Goes p e below T f P) (q : Goes p e below T f' P) : Goes p e below T f P := k q
theorem Goes.toT (Φ : State → Prop) (k : (∀ T', Φ T' → Goes p e below T' f' P) → Goes p e below T f P) (q : ∀ T', Φ T' → Goes p e below T' f' P) : Goes p e below T f P := k q
/-- a law whose walk may make and intern its String constants: called at the state Z itself -/
def ConW (l : Launch) (y : MethodName) (bytes : ByteArray) (maxL : Nat) (ret : Option FieldType) (rm : Room) (Z : State) (as : Array Value) (Q : Option Value → Heap → List Loc → Prop) : Prop :=
  ∀ ws, MetFree l y (head1 (Cond.code y bytes maxL ret :: ws) rm) (fun a U => a = as ∧ U = Z) (fun _ _ _ _ _ => True) (fun _ U o U' => ∃ v L, o = .returned v ∧ Ap Q v U'.heap L ∧ ReturnedEndW U o U' L rm.cells rm.slots)
theorem ConW.of_body {l : Launch} {y : MethodName} {bytes : ByteArray} {maxL : Nat} {ret : Option FieldType} {rm : Room} {Z : State} {as : Array Value} {Q : Option Value → Heap → List Loc → Prop} (hn : plainFor y = true)
    (body : ∀ (p : Program) (e : Env) (m : MethodId) (below : List Frame) (meth : Method) (c : Code) (T : State), Stand p l e rm (Z.setVm Z.vm) m as below meth c T [] 0 0 → p.tables.exec = Jvm.exec → c.code = bytes → c.maxLocals = maxL → Z.Warmed39 (Z.setVm Z.vm).vm → (Z.setVm Z.vm).vm.findClass y.cls = some m.cls → meth.name = y.name → meth.sig.returnType = ret → meth.locks = false → T.heap = Z.heap →
      Goes p e below T (entryFrame m as maxL) (fun U o => ∃ v L, o = .returned v ∧ Ap Q v U.heap L ∧ ReturnedEndW Z o U L rm.cells rm.slots)) : ConW l y bytes maxL ret rm Z as Q := by
  intro ws
  refine MetFree.of_bodySF hn hisR ?_
  intro p e s m args below meth c s₁ Bd hml hP _
  obtain ⟨rfl, rfl⟩ := hP
  exact body p e m below meth c s₁ (Stand.of_body Bd) Bd.exec Bd.bytes hml (State.Warmed39.refl _) (findClass_of_methodNamed Bd.named) (name_of_methodNamed Bd.named Bd.method).1 Bd.returns (BodyLoose.notSynchronized Bd) (by rw [Bd.state]; rfl)
theorem since0 (s : State) : s.Since s.vm 0 := (State.WarmedH.refl s).since 0
theorem Goes.retNW {vm1 : Vm} {n1 : Nat} (X : Stand p l e R (s.setVm vm1) m args below meth c T locs cells slots) (hS : s.Since vm1 n1) (hn1 : n1 ≤ T.heap.size) (hx : p.tables.exec = Jvm.exec) {t : FieldType} (hret : meth.sig.returnType = some t) (ht : t = .boolean ∨ t = .byte ∨ t = .char ∨ t = .short) (hlk : meth.locks = false) {z : Int32} (hd : decode c.code pc = .ok (.ireturn, 1)) (hk : cells ≤ k) (hn : slots ≤ n) (q : Q (some (.int (nar t z))) T.heap locs) :
    Goes p e below T (mkF m pc L (.int z :: S)) (fun U o => ∃ v L, o = .returned v ∧ Ap Q v U.heap L ∧ ReturnedEndW s o U L k n) := by
  obtain ⟨fs, hr, hrun, hended, hE⟩ := X.leaveW hS hn1 (v := some (.int (nar t z))) (fun h => by rw [hret] at h; cases h) hlk
  exact ⟨_, _, Jvm.RoadKit.retN X hx hret ht hd hr, hrun, hended, _, locs, rfl, q, hE.1, hE.2.1, hE.2.2.1, hE.2.2.2.mono hk hn⟩
theorem G.ldcStr {vm0 : Vm} (X : Stand p l e R (s.setVm vm0) m args below meth c T locs cells slots) (hx : p.tables.exec = Jvm.exec) (hZ : Z.Warmed39 (s.setVm vm0).vm) {own text : String} {index : Nat} (hown : (s.setVm vm0).vm.findClass own = some m.cls) (w : (Cond.stringLink own index text).before a0 Z = true) (wS : ∀ a ∈ Bundle.stringAtoms, a.before a0 Z = true) (eT : T.heap = h) {k0 : Nat} (hS : s.Since vm0 k0) (hk : k0 ≤ h.size)
    (hd : decode c.code pc = .ok (.ldc index, 2)) {n : Nat} (hn : 4 * text.toList.length ≤ n) (hbig : n ≤ 536870912) (hc : cells + 2 ≤ R.cells) (hl : slots + (n + 4) ≤ R.slots) (hp : pc + 2 = pc')
    (q : ∀ a T' h' k1, Stand p l e R (s.setVm T'.vm) m args below meth c T' locs (cells + 2) (slots + (n + 4)) → T'.heap = h' → Ext h h' → s.Since T'.vm k1 → k1 ≤ h'.size → Z.Warmed39 (s.setVm T'.vm).vm → (s.setVm T'.vm).vm.findClass own = some m.cls → Goes p e below T' (mkF m pc' L (.ref a :: S)) P) : Goes p e below T (mkF m pc L S) P := by
  subst hp
  obtain ⟨a, T', h', k1, r1, r2, r3, r4, r5, r6, r7, st⟩ := Jvm.RoadKit.ldcS X hx hZ hown w wS eT hS hk (g := mkF m pc L S) rfl hd hn hbig hc hl
  exact Goes.via st (q a T' h' k1 r1 r2 r3 r4 r5 r6 r7)
theorem G.ldcLit {vm0 : Vm} (X : Stand p l e R (s.setVm vm0) m args below meth c T locs cells slots) (hx : p.tables.exec = Jvm.exec) (hZ : Z.Warmed39 (s.setVm vm0).vm) {own text : String} {index : Nat} (hown : (s.setVm vm0).vm.findClass own = some m.cls) (w : (Cond.stringLink own index text).before a0 Z = true) (wS : ∀ a ∈ Bundle.stringAtoms, a.before a0 Z = true) (eT : T.heap = h) {k0 : Nat} (hS : s.Since vm0 k0) (hk : k0 ≤ h.size)
    (N : Fr s.heap.size locs) (hkeep : ∀ (b : Addr) (cl : Cell), Z.heap[b]? = some cl → s.heap[b]? = some cl) {Ts : List String} (Ib : IB Z vm0 Ts) (hnot : text ∉ Ts) (hh : Jvm.Lit.constHeld Z own index) (hcw : Jvm.Lit.compactW.before a0 Z = true) {vs : List Value} {z : Int32} (ht : (∀ c ∈ text.toList, c.toNat < 256) ∧ text.toList.map (fun c => Value.int (Jvm.Lit.byteI c.toNat.toUInt16)) = vs) (hz : ¬ z < 0) (hzl : z.toNatClampNeg = vs.length)
    (hd : decode c.code pc = .ok (.ldc index, 2)) {n : Nat} (hn : 4 * text.toList.length ≤ n) (hbig : n ≤ 536870912) (hc : cells + 2 ≤ R.cells) (hl : slots + (n + 4) ≤ R.slots) (hp : pc + 2 = pc')
    (q : ∀ a T' h' k1 b, Stand p l e R (s.setVm T'.vm) m args below meth c T' locs (cells + 2) (slots + (n + 4)) → T'.heap = h' → Ext h h' → s.Since T'.vm k1 → k1 ≤ h'.size → Z.Warmed39 (s.setVm T'.vm).vm → (s.setVm T'.vm).vm.findClass own = some m.cls →
      Exa Z h' a "java/lang/String" → Fld Z h' a "java/lang/String" "coder" "B" (.int 0) → Fld Z h' a "java/lang/String" "value" "[B" (.ref b) → Seq Z h' b .byte vs → IB Z T'.vm (text :: Ts) → Goes p e below T' (mkF m pc' L (.ref a :: S)) P) : Goes p e below T (mkF m pc L S) P := by
  subst hp
  obtain ⟨a, T', h', k1, b, k, r1, r2, r3, r4, r5, r6, r7, r8, r9, r10, r11, r12, r13, r14, -, st⟩ := Jvm.RoadKit.ldcSVL X hx hZ hown w wS eT hS hk N hkeep Ib hnot hh hcw ht hz hzl (g := mkF m pc L S) rfl hd hn hbig hc hl
  exact Goes.via st (q a T' h' k1 b r1 r2 r3 r4 r5 r6 r7 r8 r9 r10 (Arv.seq r11 hzl.symm) r14)
theorem len_at {args : Array Value} {first s : State} {o : Option Outcome} {idx : List Nat} {t : Term} {cl : Cell} {z : Int32} (ht : t.eval args first o idx s = some (.ref a)) (ha : s.arrayAt? a = some cl) (hl : (Term.length t).eval args first o idx s = some (.int z)) : cl.slots.size < 2 ^ 31 ∧ cl.slots.size.toInt32 = z := by
  by_cases q : cl.slots.size < 2 ^ 31
  · rw [len_f ht ha q] at hl
    exact ⟨q, Value.int.inj (Option.some.inj hl)⟩
  · simp [Term.eval, ht, ha, q] at hl
theorem toList_eq {xs : Array Value} {vs : List Value} (hs : xs.size = vs.length) (hv : ∀ i, i < vs.length → xs[i]? = vs[i]?) : xs.toList = vs := by
  apply List.ext_getElem?
  intro i
  rw [Array.getElem?_toList]
  by_cases hi : i < vs.length
  · exact hv i hi
  · rw [Array.getElem?_eq_none (by omega), List.getElem?_eq_none (by omega)]
theorem Seq.ne {xs ys : List Value} (F : Seq Z h a ty xs) (H : Seq Z h b ty ys) (q : xs ≠ ys) : a ≠ b := fun e => by
  subst e
  obtain ⟨c1, A1, rfl, -⟩ := F
  obtain ⟨c2, A2, rfl, -⟩ := H
  exact q (by rw [Option.some.inj (A1.1.symm.trans A2.1)])
end G
end Jvm.OwnKit
namespace Jvm.Pilot.@@N@@
open Jvm Jvm.ClassFile Sem Op Lib Jvm.Free Jvm.Stand Jvm.LawKit Jvm.RoadKit Jvm.OwnKit Bundle Jvm.Pilot.@@N@@.Jvm.D
theorem d9_0 : decode prog_25_method_22_code 0 = .ok (.aload_n 0, 1) := by decide +kernel
theorem d9_1 : decode prog_25_method_22_code 1 = .ok (.getfield 33, 3) := by decide +kernel
theorem d9_4 : decode prog_25_method_22_code 4 = .ok (.aload_n 0, 1) := by decide +kernel
theorem d9_5 : decode prog_25_method_22_code 5 = .ok (.getfield 22, 3) := by decide +kernel
theorem d9_8 : decode prog_25_method_22_code 8 = .ok (.if_icmp .ge 72, 3) := by decide +kernel
theorem d9_80 : decode prog_25_method_22_code 80 = .ok (.aload_n 0, 1) := by decide +kernel
theorem d9_81 : decode prog_25_method_22_code 81 = .ok (.getfield 33, 3) := by decide +kernel
theorem d9_84 : decode prog_25_method_22_code 84 = .ok (.aload_n 0, 1) := by decide +kernel
theorem d9_85 : decode prog_25_method_22_code 85 = .ok (.getfield 22, 3) := by decide +kernel
theorem d9_88 : decode prog_25_method_22_code 88 = .ok (.if_icmp .ge 19, 3) := by decide +kernel
theorem d9_107 : decode prog_25_method_22_code 107 = .ok (.iconst (-1), 1) := by decide +kernel
theorem d9_108 : decode prog_25_method_22_code 108 = .ok (.ireturn, 1) := by decide +kernel
theorem d9_11 : decode prog_25_method_22_code 11 = .ok (.aload_n 0, 1) := by decide +kernel
theorem d9_12 : decode prog_25_method_22_code 12 = .ok (.getfield 14, 3) := by decide +kernel
theorem d9_15 : decode prog_25_method_22_code 15 = .ok (.aload_n 0, 1) := by decide +kernel
theorem d9_16 : decode prog_25_method_22_code 16 = .ok (.getfield 33, 3) := by decide +kernel
theorem d9_19 : decode prog_25_method_22_code 19 = .ok (.baload, 1) := by decide +kernel
theorem d9_20 : decode prog_25_method_22_code 20 = .ok (.bipush 32, 2) := by decide +kernel
theorem d9_22 : decode prog_25_method_22_code 22 = .ok (.if_icmp .eq 45, 3) := by decide +kernel
theorem d9_67 : decode prog_25_method_22_code 67 = .ok (.aload_n 0, 1) := by decide +kernel
theorem d9_68 : decode prog_25_method_22_code 68 = .ok (.dup, 1) := by decide +kernel
theorem d9_69 : decode prog_25_method_22_code 69 = .ok (.getfield 33, 3) := by decide +kernel
theorem d9_72 : decode prog_25_method_22_code 72 = .ok (.iconst 1, 1) := by decide +kernel
theorem d9_73 : decode prog_25_method_22_code 73 = .ok (.iadd, 1) := by decide +kernel
theorem d9_74 : decode prog_25_method_22_code 74 = .ok (.putfield 33, 3) := by decide +kernel
theorem d9_77 : decode prog_25_method_22_code 77 = .ok (.goto (-77), 3) := by decide +kernel
theorem d9_25 : decode prog_25_method_22_code 25 = .ok (.aload_n 0, 1) := by decide +kernel
theorem d9_26 : decode prog_25_method_22_code 26 = .ok (.getfield 14, 3) := by decide +kernel
theorem d9_29 : decode prog_25_method_22_code 29 = .ok (.aload_n 0, 1) := by decide +kernel
theorem d9_30 : decode prog_25_method_22_code 30 = .ok (.getfield 33, 3) := by decide +kernel
theorem d9_33 : decode prog_25_method_22_code 33 = .ok (.baload, 1) := by decide +kernel
theorem d9_34 : decode prog_25_method_22_code 34 = .ok (.bipush 9, 2) := by decide +kernel
theorem d9_36 : decode prog_25_method_22_code 36 = .ok (.if_icmp .eq 31, 3) := by decide +kernel
theorem d9_39 : decode prog_25_method_22_code 39 = .ok (.aload_n 0, 1) := by decide +kernel
theorem d9_40 : decode prog_25_method_22_code 40 = .ok (.getfield 14, 3) := by decide +kernel
theorem d9_43 : decode prog_25_method_22_code 43 = .ok (.aload_n 0, 1) := by decide +kernel
theorem d9_44 : decode prog_25_method_22_code 44 = .ok (.getfield 33, 3) := by decide +kernel
theorem d9_47 : decode prog_25_method_22_code 47 = .ok (.baload, 1) := by decide +kernel
theorem d9_48 : decode prog_25_method_22_code 48 = .ok (.bipush 10, 2) := by decide +kernel
theorem d9_50 : decode prog_25_method_22_code 50 = .ok (.if_icmp .eq 17, 3) := by decide +kernel
theorem d9_53 : decode prog_25_method_22_code 53 = .ok (.aload_n 0, 1) := by decide +kernel
theorem d9_54 : decode prog_25_method_22_code 54 = .ok (.getfield 14, 3) := by decide +kernel
theorem d9_57 : decode prog_25_method_22_code 57 = .ok (.aload_n 0, 1) := by decide +kernel
theorem d9_58 : decode prog_25_method_22_code 58 = .ok (.getfield 33, 3) := by decide +kernel
theorem d9_61 : decode prog_25_method_22_code 61 = .ok (.baload, 1) := by decide +kernel
theorem d9_62 : decode prog_25_method_22_code 62 = .ok (.bipush 13, 2) := by decide +kernel
theorem d9_64 : decode prog_25_method_22_code 64 = .ok (.if_icmp .ne 16, 3) := by decide +kernel
theorem d9_91 : decode prog_25_method_22_code 91 = .ok (.aload_n 0, 1) := by decide +kernel
theorem d9_92 : decode prog_25_method_22_code 92 = .ok (.getfield 14, 3) := by decide +kernel
theorem d9_95 : decode prog_25_method_22_code 95 = .ok (.aload_n 0, 1) := by decide +kernel
theorem d9_96 : decode prog_25_method_22_code 96 = .ok (.getfield 33, 3) := by decide +kernel
theorem d9_99 : decode prog_25_method_22_code 99 = .ok (.baload, 1) := by decide +kernel
theorem d9_100 : decode prog_25_method_22_code 100 = .ok (.sipush 255, 3) := by decide +kernel
theorem d9_103 : decode prog_25_method_22_code 103 = .ok (.iand, 1) := by decide +kernel
theorem d9_104 : decode prog_25_method_22_code 104 = .ok (.goto 4, 3) := by decide +kernel
theorem ef9_R (m : MethodId) (x0 : Addr) : entryFrame m #[(.ref x0)] 1 = mkF m 0 #[.val (.ref x0)] [] := by first | (simp [entryFrame, mkF, argsToLocals, Value.category]; done) | rfl
theorem pn_0 : plainName "com/example/wary_offset/waryoffset/remoting/JsonText$Reader" = true := by first | (simp [plainName, overriddenIn]; done) | decide +kernel
theorem d8_0 : decode prog_25_method_4_code 0 = .ok (.aload_n 0, 1) := by decide +kernel
theorem pd_1 : parseMethodDescriptor "()I" = some ⟨[], some .int⟩ := by decide +kernel
theorem d8_1 : decode prog_25_method_4_code 1 = .ok (.invokevirtual 48, 3) := by decide +kernel
theorem d8_4 : decode prog_25_method_4_code 4 = .ok (.iload_n 1, 1) := by decide +kernel
theorem d8_5 : decode prog_25_method_4_code 5 = .ok (.if_icmp .ne 7, 3) := by decide +kernel
theorem d8_8 : decode prog_25_method_4_code 8 = .ok (.iconst 1, 1) := by decide +kernel
theorem d8_9 : decode prog_25_method_4_code 9 = .ok (.goto 4, 3) := by decide +kernel
theorem d8_13 : decode prog_25_method_4_code 13 = .ok (.istore_n 2, 1) := by decide +kernel
theorem d8_14 : decode prog_25_method_4_code 14 = .ok (.iload_n 2, 1) := by decide +kernel
theorem d8_15 : decode prog_25_method_4_code 15 = .ok (.ifCond .eq 13, 3) := by decide +kernel
theorem d8_18 : decode prog_25_method_4_code 18 = .ok (.aload_n 0, 1) := by decide +kernel
theorem d8_19 : decode prog_25_method_4_code 19 = .ok (.dup, 1) := by decide +kernel
theorem d8_20 : decode prog_25_method_4_code 20 = .ok (.getfield 33, 3) := by decide +kernel
theorem d8_23 : decode prog_25_method_4_code 23 = .ok (.iconst 1, 1) := by decide +kernel
theorem d8_24 : decode prog_25_method_4_code 24 = .ok (.iadd, 1) := by decide +kernel
theorem d8_25 : decode prog_25_method_4_code 25 = .ok (.putfield 33, 3) := by decide +kernel
theorem d8_28 : decode prog_25_method_4_code 28 = .ok (.iload_n 2, 1) := by decide +kernel
theorem d8_29 : decode prog_25_method_4_code 29 = .ok (.ireturn, 1) := by decide +kernel
theorem d8_12 : decode prog_25_method_4_code 12 = .ok (.iconst 0, 1) := by decide +kernel
theorem ef8_RI (m : MethodId) (x0 : Addr) (x1 : Int32) : entryFrame m #[(.ref x0), (.int x1)] 3 = mkF m 0 #[.val (.ref x0), .val (.int x1), .unset] [] := by first | (simp [entryFrame, mkF, argsToLocals, Value.category]; done) | rfl
theorem d6_0 : decode prog_25_method_2_code 0 = .ok (.aload_n 0, 1) := by decide +kernel
theorem d6_1 : decode prog_25_method_2_code 1 = .ok (.invokespecial 9, 3) := by decide +kernel
theorem d6_4 : decode prog_25_method_2_code 4 = .ok (.aload_n 0, 1) := by decide +kernel
theorem d6_5 : decode prog_25_method_2_code 5 = .ok (.aload_n 1, 1) := by decide +kernel
theorem d6_6 : decode prog_25_method_2_code 6 = .ok (.putfield 14, 3) := by decide +kernel
theorem d6_9 : decode prog_25_method_2_code 9 = .ok (.aload_n 0, 1) := by decide +kernel
theorem d6_10 : decode prog_25_method_2_code 10 = .ok (.iload_n 2, 1) := by decide +kernel
theorem d6_11 : decode prog_25_method_2_code 11 = .ok (.putfield 18, 3) := by decide +kernel
theorem d6_14 : decode prog_25_method_2_code 14 = .ok (.aload_n 0, 1) := by decide +kernel
theorem d6_15 : decode prog_25_method_2_code 15 = .ok (.iload_n 2, 1) := by decide +kernel
theorem d6_16 : decode prog_25_method_2_code 16 = .ok (.iload_n 3, 1) := by decide +kernel
theorem d6_17 : decode prog_25_method_2_code 17 = .ok (.iadd, 1) := by decide +kernel
theorem d6_18 : decode prog_25_method_2_code 18 = .ok (.putfield 22, 3) := by decide +kernel
theorem d6_21 : decode prog_25_method_2_code 21 = .ok (.aload_n 0, 1) := by decide +kernel
theorem d6_22 : decode prog_25_method_2_code 22 = .ok (.aload 4, 2) := by decide +kernel
theorem d6_24 : decode prog_25_method_2_code 24 = .ok (.putfield 25, 3) := by decide +kernel
theorem d6_27 : decode prog_25_method_2_code 27 = .ok (.aload_n 0, 1) := by decide +kernel
theorem d6_28 : decode prog_25_method_2_code 28 = .ok (.aload 5, 2) := by decide +kernel
theorem d6_30 : decode prog_25_method_2_code 30 = .ok (.putfield 29, 3) := by decide +kernel
theorem d6_33 : decode prog_25_method_2_code 33 = .ok (.aload_n 0, 1) := by decide +kernel
theorem d6_34 : decode prog_25_method_2_code 34 = .ok (.iload_n 2, 1) := by decide +kernel
theorem d6_35 : decode prog_25_method_2_code 35 = .ok (.putfield 33, 3) := by decide +kernel
theorem d6_38 : decode prog_25_method_2_code 38 = .ok (.return_, 1) := by decide +kernel
theorem ef6_RRIIRN (m : MethodId) (x0 : Addr) (x1 : Addr) (x2 : Int32) (x3 : Int32) (x4 : Addr) : entryFrame m #[(.ref x0), (.ref x1), (.int x2), (.int x3), (.ref x4), .null] 6 = mkF m 0 #[.val (.ref x0), .val (.ref x1), .val (.int x2), .val (.int x3), .val (.ref x4), .val .null] [] := by first | (simp [entryFrame, mkF, argsToLocals, Value.category]; done) | rfl
theorem d5_0 : decode prog_25_method_1_code 0 = .ok (.aload_n 0, 1) := by decide +kernel
theorem d5_1 : decode prog_25_method_1_code 1 = .ok (.aload_n 1, 1) := by decide +kernel
theorem d5_2 : decode prog_25_method_1_code 2 = .ok (.iload_n 2, 1) := by decide +kernel
theorem d5_3 : decode prog_25_method_1_code 3 = .ok (.iload_n 3, 1) := by decide +kernel
theorem d5_4 : decode prog_25_method_1_code 4 = .ok (.aload 4, 2) := by decide +kernel
theorem d5_6 : decode prog_25_method_1_code 6 = .ok (.aconst_null, 1) := by decide +kernel
theorem pd_2 : parseMethodDescriptor "([BIILjava/lang/String;Lcom/example/wary_offset/waryoffset/remoting/JsonText$Strings;)V" = some ⟨[(.array .byte), .int, .int, (.object "java/lang/String"), (.object "com/example/wary_offset/waryoffset/remoting/JsonText$Strings")], none⟩ := by decide +kernel
theorem d5_7 : decode prog_25_method_1_code 7 = .ok (.invokespecial 3, 3) := by decide +kernel
theorem d5_10 : decode prog_25_method_1_code 10 = .ok (.return_, 1) := by decide +kernel
theorem ef5_RRIIR (m : MethodId) (x0 : Addr) (x1 : Addr) (x2 : Int32) (x3 : Int32) (x4 : Addr) : entryFrame m #[(.ref x0), (.ref x1), (.int x2), (.int x3), (.ref x4)] 5 = mkF m 0 #[.val (.ref x0), .val (.ref x1), .val (.int x2), .val (.int x3), .val (.ref x4)] [] := by first | (simp [entryFrame, mkF, argsToLocals, Value.category]; done) | rfl
theorem d4_0 : decode method_2_code 0 = .ok (.iload_n 0, 1) := by decide +kernel
theorem d4_1 : decode method_2_code 1 = .ok (.bipush 32, 2) := by decide +kernel
theorem d4_3 : decode method_2_code 3 = .ok (.if_icmp .eq 21, 3) := by decide +kernel
theorem d4_24 : decode method_2_code 24 = .ok (.iconst 1, 1) := by decide +kernel
theorem d4_25 : decode method_2_code 25 = .ok (.goto 4, 3) := by decide +kernel
theorem d4_29 : decode method_2_code 29 = .ok (.ireturn, 1) := by decide +kernel
theorem d4_6 : decode method_2_code 6 = .ok (.iload_n 0, 1) := by decide +kernel
theorem d4_7 : decode method_2_code 7 = .ok (.bipush 9, 2) := by decide +kernel
theorem d4_9 : decode method_2_code 9 = .ok (.if_icmp .eq 15, 3) := by decide +kernel
theorem d4_12 : decode method_2_code 12 = .ok (.iload_n 0, 1) := by decide +kernel
theorem d4_13 : decode method_2_code 13 = .ok (.bipush 10, 2) := by decide +kernel
theorem d4_15 : decode method_2_code 15 = .ok (.if_icmp .eq 9, 3) := by decide +kernel
theorem d4_18 : decode method_2_code 18 = .ok (.iload_n 0, 1) := by decide +kernel
theorem d4_19 : decode method_2_code 19 = .ok (.bipush 13, 2) := by decide +kernel
theorem d4_21 : decode method_2_code 21 = .ok (.if_icmp .ne 7, 3) := by decide +kernel
theorem d4_28 : decode method_2_code 28 = .ok (.iconst 0, 1) := by decide +kernel
theorem ef4_I (m : MethodId) (x0 : Int32) : entryFrame m #[(.int x0)] 1 = mkF m 0 #[.val (.int x0)] [] := by first | (simp [entryFrame, mkF, argsToLocals, Value.category]; done) | rfl
theorem pn_3 : plainName "com/example/wary_offset/waryoffset/remoting/ReaderTakePinLaw" = true := by first | (simp [plainName, overriddenIn]; done) | decide +kernel
theorem d1_0 : decode method_4_code 0 = .ok (.lload_n 0, 1) := by decide +kernel
theorem d1_1 : decode method_4_code 1 = .ok (.ldc2_w 13, 3) := by decide +kernel
theorem d1_4 : decode method_4_code 4 = .ok (.land, 1) := by decide +kernel
theorem d1_5 : decode method_4_code 5 = .ok (.l2i, 1) := by decide +kernel
theorem d1_6 : decode method_4_code 6 = .ok (.istore_n 2, 1) := by decide +kernel
theorem d1_7 : decode method_4_code 7 = .ok (.lload_n 0, 1) := by decide +kernel
theorem d1_8 : decode method_4_code 8 = .ok (.iconst 3, 1) := by decide +kernel
theorem d1_9 : decode method_4_code 9 = .ok (.lushr, 1) := by decide +kernel
theorem d1_10 : decode method_4_code 10 = .ok (.ldc2_w 15, 3) := by decide +kernel
theorem d1_13 : decode method_4_code 13 = .ok (.land, 1) := by decide +kernel
theorem d1_14 : decode method_4_code 14 = .ok (.l2i, 1) := by decide +kernel
theorem d1_15 : decode method_4_code 15 = .ok (.istore_n 3, 1) := by decide +kernel
theorem d1_16 : decode method_4_code 16 = .ok (.iload_n 2, 1) := by decide +kernel
theorem d1_17 : decode method_4_code 17 = .ok (.ifCond .ne 6, 3) := by decide +kernel
theorem d1_20 : decode method_4_code 20 = .ok (.bipush 32, 2) := by decide +kernel
theorem d1_22 : decode method_4_code 22 = .ok (.ireturn, 1) := by decide +kernel
theorem d1_23 : decode method_4_code 23 = .ok (.iload_n 2, 1) := by decide +kernel
theorem d1_24 : decode method_4_code 24 = .ok (.iconst 1, 1) := by decide +kernel
theorem d1_25 : decode method_4_code 25 = .ok (.if_icmp .ne 6, 3) := by decide +kernel
theorem d1_28 : decode method_4_code 28 = .ok (.bipush 9, 2) := by decide +kernel
theorem d1_30 : decode method_4_code 30 = .ok (.ireturn, 1) := by decide +kernel
theorem d1_31 : decode method_4_code 31 = .ok (.iload_n 2, 1) := by decide +kernel
theorem d1_32 : decode method_4_code 32 = .ok (.iconst 2, 1) := by decide +kernel
theorem d1_33 : decode method_4_code 33 = .ok (.if_icmp .ne 6, 3) := by decide +kernel
theorem d1_36 : decode method_4_code 36 = .ok (.bipush 10, 2) := by decide +kernel
theorem d1_38 : decode method_4_code 38 = .ok (.ireturn, 1) := by decide +kernel
theorem d1_39 : decode method_4_code 39 = .ok (.iload_n 2, 1) := by decide +kernel
theorem d1_40 : decode method_4_code 40 = .ok (.iconst 3, 1) := by decide +kernel
theorem d1_41 : decode method_4_code 41 = .ok (.if_icmp .ne 6, 3) := by decide +kernel
theorem d1_44 : decode method_4_code 44 = .ok (.bipush 13, 2) := by decide +kernel
theorem d1_46 : decode method_4_code 46 = .ok (.ireturn, 1) := by decide +kernel
theorem d1_47 : decode method_4_code 47 = .ok (.iload_n 3, 1) := by decide +kernel
theorem d1_48 : decode method_4_code 48 = .ok (.i2b, 1) := by decide +kernel
theorem d1_49 : decode method_4_code 49 = .ok (.ireturn, 1) := by decide +kernel
theorem ef1_J (m : MethodId) (x0 : Int64) : entryFrame m #[(.long x0)] 4 = mkF m 0 #[.val (.long x0), .second, .unset, .unset] [] := by first | (simp [entryFrame, mkF, argsToLocals, Value.category]; done) | rfl
theorem d2_0 : decode method_5_code 0 = .ok (.iload_n 0, 1) := by decide +kernel
theorem d2_1 : decode method_5_code 1 = .ok (.bipush 16, 2) := by decide +kernel
theorem d2_3 : decode method_5_code 3 = .ok (.iushr, 1) := by decide +kernel
theorem d2_4 : decode method_5_code 4 = .ok (.bipush 7, 2) := by decide +kernel
theorem d2_6 : decode method_5_code 6 = .ok (.iand, 1) := by decide +kernel
theorem d2_7 : decode method_5_code 7 = .ok (.istore_n 2, 1) := by decide +kernel
theorem d2_8 : decode method_5_code 8 = .ok (.iload_n 2, 1) := by decide +kernel
theorem d2_9 : decode method_5_code 9 = .ok (.iconst 5, 1) := by decide +kernel
theorem d2_10 : decode method_5_code 10 = .ok (.if_icmp .ge 12, 3) := by decide +kernel
theorem d2_13 : decode method_5_code 13 = .ok (.aload_n 1, 1) := by decide +kernel
theorem d2_14 : decode method_5_code 14 = .ok (.iload_n 2, 1) := by decide +kernel
theorem d2_15 : decode method_5_code 15 = .ok (.baload, 1) := by decide +kernel
theorem d2_16 : decode method_5_code 16 = .ok (.sipush 255, 3) := by decide +kernel
theorem d2_19 : decode method_5_code 19 = .ok (.iand, 1) := by decide +kernel
theorem d2_20 : decode method_5_code 20 = .ok (.i2c, 1) := by decide +kernel
theorem d2_21 : decode method_5_code 21 = .ok (.ireturn, 1) := by decide +kernel
theorem d2_22 : decode method_5_code 22 = .ok (.iload_n 0, 1) := by decide +kernel
theorem d2_23 : decode method_5_code 23 = .ok (.ldc 17, 2) := by decide +kernel
theorem d2_25 : decode method_5_code 25 = .ok (.iand, 1) := by decide +kernel
theorem d2_26 : decode method_5_code 26 = .ok (.i2c, 1) := by decide +kernel
theorem d2_27 : decode method_5_code 27 = .ok (.ireturn, 1) := by decide +kernel
theorem ef2_IR (m : MethodId) (x0 : Int32) (x1 : Addr) : entryFrame m #[(.int x0), (.ref x1)] 3 = mkF m 0 #[.val (.int x0), .val (.ref x1), .unset] [] := by first | (simp [entryFrame, mkF, argsToLocals, Value.category]; done) | rfl
theorem d3_0 : decode method_3_code 0 = .ok (.iload_n 1, 1) := by decide +kernel
theorem d3_1 : decode method_3_code 1 = .ok (.istore_n 3, 1) := by decide +kernel
theorem d3_2 : decode method_3_code 2 = .ok (.iload_n 3, 1) := by decide +kernel
theorem d3_3 : decode method_3_code 3 = .ok (.iload_n 2, 1) := by decide +kernel
theorem d3_4 : decode method_3_code 4 = .ok (.if_icmp .ge 15, 3) := by decide +kernel
theorem d3_7 : decode method_3_code 7 = .ok (.aload_n 0, 1) := by decide +kernel
theorem d3_8 : decode method_3_code 8 = .ok (.iload_n 3, 1) := by decide +kernel
theorem d3_9 : decode method_3_code 9 = .ok (.baload, 1) := by decide +kernel
theorem pd_4 : parseMethodDescriptor "(B)Z" = some ⟨[.byte], some .boolean⟩ := by decide +kernel
theorem d3_10 : decode method_3_code 10 = .ok (.invokestatic 7, 3) := by decide +kernel
theorem d3_13 : decode method_3_code 13 = .ok (.ifCond .eq 6, 3) := by decide +kernel
theorem d3_16 : decode method_3_code 16 = .ok (.iinc 3 1, 3) := by decide +kernel
theorem d3_19 : decode method_3_code 19 = .ok (.iload_n 3, 1) := by decide +kernel
theorem d3_20 : decode method_3_code 20 = .ok (.iload_n 2, 1) := by decide +kernel
theorem d3_21 : decode method_3_code 21 = .ok (.if_icmp .ge 15, 3) := by decide +kernel
theorem d3_24 : decode method_3_code 24 = .ok (.aload_n 0, 1) := by decide +kernel
theorem d3_25 : decode method_3_code 25 = .ok (.iload_n 3, 1) := by decide +kernel
theorem d3_26 : decode method_3_code 26 = .ok (.baload, 1) := by decide +kernel
theorem d3_27 : decode method_3_code 27 = .ok (.invokestatic 7, 3) := by decide +kernel
theorem d3_30 : decode method_3_code 30 = .ok (.ifCond .eq 6, 3) := by decide +kernel
theorem d3_33 : decode method_3_code 33 = .ok (.iinc 3 1, 3) := by decide +kernel
theorem d3_36 : decode method_3_code 36 = .ok (.iload_n 3, 1) := by decide +kernel
theorem d3_37 : decode method_3_code 37 = .ok (.iload_n 2, 1) := by decide +kernel
theorem d3_38 : decode method_3_code 38 = .ok (.if_icmp .ge 15, 3) := by decide +kernel
theorem d3_41 : decode method_3_code 41 = .ok (.aload_n 0, 1) := by decide +kernel
theorem d3_42 : decode method_3_code 42 = .ok (.iload_n 3, 1) := by decide +kernel
theorem d3_43 : decode method_3_code 43 = .ok (.baload, 1) := by decide +kernel
theorem d3_44 : decode method_3_code 44 = .ok (.invokestatic 7, 3) := by decide +kernel
theorem d3_47 : decode method_3_code 47 = .ok (.ifCond .eq 6, 3) := by decide +kernel
theorem d3_50 : decode method_3_code 50 = .ok (.iinc 3 1, 3) := by decide +kernel
theorem d3_53 : decode method_3_code 53 = .ok (.iload_n 3, 1) := by decide +kernel
theorem d3_54 : decode method_3_code 54 = .ok (.iload_n 2, 1) := by decide +kernel
theorem d3_55 : decode method_3_code 55 = .ok (.if_icmp .ge 15, 3) := by decide +kernel
theorem d3_58 : decode method_3_code 58 = .ok (.aload_n 0, 1) := by decide +kernel
theorem d3_59 : decode method_3_code 59 = .ok (.iload_n 3, 1) := by decide +kernel
theorem d3_60 : decode method_3_code 60 = .ok (.baload, 1) := by decide +kernel
theorem d3_61 : decode method_3_code 61 = .ok (.invokestatic 7, 3) := by decide +kernel
theorem d3_64 : decode method_3_code 64 = .ok (.ifCond .eq 6, 3) := by decide +kernel
theorem d3_67 : decode method_3_code 67 = .ok (.iinc 3 1, 3) := by decide +kernel
theorem d3_70 : decode method_3_code 70 = .ok (.iload_n 3, 1) := by decide +kernel
theorem d3_71 : decode method_3_code 71 = .ok (.iload_n 2, 1) := by decide +kernel
theorem d3_72 : decode method_3_code 72 = .ok (.if_icmp .ge 15, 3) := by decide +kernel
theorem d3_75 : decode method_3_code 75 = .ok (.aload_n 0, 1) := by decide +kernel
theorem d3_76 : decode method_3_code 76 = .ok (.iload_n 3, 1) := by decide +kernel
theorem d3_77 : decode method_3_code 77 = .ok (.baload, 1) := by decide +kernel
theorem d3_78 : decode method_3_code 78 = .ok (.invokestatic 7, 3) := by decide +kernel
theorem d3_81 : decode method_3_code 81 = .ok (.ifCond .eq 6, 3) := by decide +kernel
theorem d3_84 : decode method_3_code 84 = .ok (.iinc 3 1, 3) := by decide +kernel
theorem d3_87 : decode method_3_code 87 = .ok (.iload_n 3, 1) := by decide +kernel
theorem d3_88 : decode method_3_code 88 = .ok (.ireturn, 1) := by decide +kernel
theorem ef3_RII (m : MethodId) (x0 : Addr) (x1 : Int32) (x2 : Int32) : entryFrame m #[(.ref x0), (.int x1), (.int x2)] 4 = mkF m 0 #[.val (.ref x0), .val (.int x1), .val (.int x2), .unset] [] := by first | (simp [entryFrame, mkF, argsToLocals, Value.category]; done) | rfl
theorem pd_5 : parseMethodDescriptor "(J)B" = some ⟨[.long], some .byte⟩ := by decide +kernel
theorem pd_6 : parseMethodDescriptor "(I[B)C" = some ⟨[.int, (.array .byte)], some .char⟩ := by decide +kernel
theorem pd_7 : parseMethodDescriptor "([BII)I" = some ⟨[(.array .byte), .int, .int], some .int⟩ := by decide +kernel
theorem pd_8 : parseMethodDescriptor "([BIILjava/lang/String;)V" = some ⟨[(.array .byte), .int, .int, (.object "java/lang/String")], none⟩ := by decide +kernel
theorem pd_9 : parseMethodDescriptor "(C)Z" = some ⟨[.char], some .boolean⟩ := by decide +kernel
theorem ef0_JIIII (m : MethodId) (x0 : Int64) (x1 : Int32) (x2 : Int32) (x3 : Int32) (x4 : Int32) : entryFrame m #[(.long x0), (.int x1), (.int x2), (.int x3), (.int x4)] maxLocals = mkF m 0 #[.val (.long x0), .second, .val (.int x1), .val (.int x2), .val (.int x3), .val (.int x4), .unset, .unset, .unset, .unset, .unset, .unset, .unset, .unset, .unset, .unset, .unset, .unset, .unset, .unset, .unset, .unset] [] := by first | (simp [entryFrame, mkF, argsToLocals, Value.category, maxLocals]; done) | rfl
def isws (x : Int32) : Prop := x = (32 : Int32) ∨ x = (9 : Int32) ∨ x = (10 : Int32) ∨ x = (13 : Int32)
instance own_dws (x : Int32) : Decidable (isws x) := by unfold isws; exact inferInstance
def sk (xs : List Int32) (e : Nat) : Nat → Nat → Nat
  | 0, j => j
  | f + 1, j => if j < e ∧ isws (xs.getD j 0) then sk xs e f (j + 1) else j
def nextv (xs : List Int32) (e j : Nat) : Int32 := if j < e then (xs.getD j 0) &&& (255 : Int32) else (-1 : Int32)
theorem sk_yes {xs : List Int32} {e f j : Nat} (h1 : j < e) (h2 : isws (xs.getD j 0)) : sk xs e (f + 1) j = sk xs e f (j + 1) := by rw [sk, if_pos ⟨h1, h2⟩]
theorem sk_no {xs : List Int32} {e f j : Nat} (h : ¬ (j < e ∧ isws (xs.getD j 0))) : sk xs e f j = j := by cases f with | zero => rfl | succ f => rw [sk, if_neg h]
theorem sk_more {xs : List Int32} {e : Nat} : ∀ (f j : Nat), e - j ≤ f → sk xs e f j = sk xs e (e - j) j
  | 0, j, h => by rw [show e - j = 0 by omega]
  | f + 1, j, h => by
    by_cases q : j < e ∧ isws (xs.getD j 0)
    · rw [sk_yes q.1 q.2, show e - j = (e - (j + 1)) + 1 by omega, sk_yes q.1 q.2]
      exact sk_more f (j + 1) (by omega)
    · rw [sk_no q, sk_no q]
theorem sk_le {xs : List Int32} {e : Nat} : ∀ (f j : Nat), j ≤ e → j ≤ sk xs e f j ∧ sk xs e f j ≤ e
  | 0, j, h => ⟨Nat.le_refl _, h⟩
  | f + 1, j, h => by
    by_cases q : j < e ∧ isws (xs.getD j 0)
    · rw [sk_yes q.1 q.2]; have := sk_le (xs := xs) f (j + 1) q.1; omega
    · rw [sk_no q]; omega
theorem sk_one {xs : List Int32} {e : Nat} : ∀ (k i : Nat), sk xs e (k + 1) i = (if sk xs e k i < e ∧ isws (xs.getD (sk xs e k i) 0) then sk xs e k i + 1 else sk xs e k i)
  | 0, i => rfl
  | k + 1, i => by
    by_cases q : i < e ∧ isws (xs.getD i 0)
    · rw [sk_yes q.1 q.2, sk_yes q.1 q.2]; exact sk_one k (i + 1)
    · rw [sk_no q, sk_no q, if_neg q]
theorem nat_lt {j e : Nat} (hj : j < 1000) (he : e < 1000) : Int32.ofNat j < Int32.ofNat e ↔ j < e := by
  rw [Int32.lt_iff_toInt_lt, Int32.toInt_ofNat_small (by omega), Int32.toInt_ofNat_small (by omega)]; omega
theorem nat_nn {j : Nat} (hj : j < 1000) : ¬ Int32.ofNat j < 0 := by
  rw [Int32.lt_iff_toInt_lt, Int32.toInt_ofNat_small (by omega), show (0 : Int32).toInt = 0 from rfl]; omega
theorem nat_to {j : Nat} (hj : j < 1000) : (Int32.ofNat j).toNatClampNeg = j := by
  simp only [Int32.toNatClampNeg, Int32.toInt_ofNat_small (show j < 2 ^ 31 by omega)]; omega
theorem nat_s {j : Nat} : Int32.ofNat j + (1 : Int32) = Int32.ofNat (j + 1) := by
  rw [Int32.ofNat_add]; rfl
theorem at_map {xs : List Int32} {j : Nat} (hj : j < xs.length) (hs : xs.length < 1000) : (xs.map Value.int)[(Int32.ofNat j).toNatClampNeg]? = some (.int (xs.getD j 0)) := by
  rw [nat_to (by omega), List.getElem?_map, List.getD_eq_getElem?_getD, List.getElem?_eq_getElem hj]; rfl
def pk (s : Int64) : Int32 := if (s &&& (7 : Int64)).toInt32 = (0 : Int32) then (32 : Int32) else if (s &&& (7 : Int64)).toInt32 = (1 : Int32) then (9 : Int32) else if (s &&& (7 : Int64)).toInt32 = (2 : Int32) then (10 : Int32) else if (s &&& (7 : Int64)).toInt32 = (3 : Int32) then (13 : Int32) else nar .byte (((Jvm.Free.XT.ushrL s (3 : Int32)) &&& (255 : Int64)).toInt32.toInt8.toInt32)
def tokf (t : Int32) (xs : List Int32) : Int32 := if ((Jvm.Free.XT.ushr t (16 : Int32)) &&& (7 : Int32)) < (5 : Int32) then nar .char ((xs.getD ((Jvm.Free.XT.ushr t (16 : Int32)) &&& (7 : Int32)).toNatClampNeg 0 &&& (255 : Int32)).toUInt32.toUInt16.toUInt32.toInt32) else nar .char ((t &&& (65535 : Int32)).toUInt32.toUInt16.toUInt32.toInt32)
def sk5 (xs : List Int32) (e i : Nat) : Nat := sk xs e 5 i
theorem own_c0 (x : Int32) : ¬ (-1 : Int32) = nar .char (x.toUInt32.toUInt16.toUInt32.toInt32) := fun q => by
  have z0 : (-1 : Int32).toInt = -1 := rfl
  have h := c_i2c (x.toUInt32.toUInt16.toUInt32.toInt32)
  have q' : (-1 : Int32) = (x.toUInt32.toUInt16.toUInt32.toInt32).toUInt32.toUInt16.toUInt32.toInt32 := q
  rw [← q'] at h; omega
theorem own_tok (t : Int32) (xs : List Int32) : ¬ (-1 : Int32) = tokf t xs := by
  unfold tokf; split <;> exact own_c0 _
theorem own_sel (t : Int32) : ¬ ((Jvm.Free.XT.ushr t (16 : Int32)) &&& (7 : Int32)) < 0 ∧ (((Jvm.Free.XT.ushr t (16 : Int32)) &&& (7 : Int32)) < (5 : Int32) → ((Jvm.Free.XT.ushr t (16 : Int32)) &&& (7 : Int32)).toNatClampNeg < 5) := by
  have e := c_and (Jvm.Free.XT.ushr t (16 : Int32)) 7 (by decide)
  have z0 : (0 : Int32).toInt = 0 := rfl
  have z5 : (5 : Int32).toInt = 5 := rfl
  rw [Int32.lt_iff_toInt_lt, Int32.lt_iff_toInt_lt]
  simp only [Int32.toNatClampNeg]
  omega
theorem own_off (x : Int32) : ∃ o e : Nat, o ≤ e ∧ e ≤ 5 ∧ (x &&& (1 : Int32)) = Int32.ofNat o ∧ ((x &&& (1 : Int32)) + (((Jvm.Free.XT.ushr x (1 : Int32)) &&& (7 : Int32)) % ((6 : Int32) - (x &&& (1 : Int32))))) = Int32.ofNat e ∧ ((6 : Int32) - (x &&& (1 : Int32))) ≠ 0 := by
  have e1 : (x &&& (1 : Int32)).toInt = x.toInt % (2 ^ 1 : Nat) := c_mask x 1 1 (by decide) (by decide)
  have e2 := c_and (Jvm.Free.XT.ushr x (1 : Int32)) 7 (by decide)
  have e3 := c_isub 6 (x &&& (1 : Int32))
  have r3 := rng32 ((6 : Int32) - (x &&& (1 : Int32)))
  have z6 : (6 : Int32).toInt = 6 := rfl
  have z7 : (7 : Int32).toInt = 7 := rfl
  have z0 : (0 : Int32).toInt = 0 := rfl
  have e4 := (c_iremV ((Jvm.Free.XT.ushr x (1 : Int32)) &&& (7 : Int32)) ((6 : Int32) - (x &&& (1 : Int32)))).1
  have e5 := c_iadd (x &&& (1 : Int32)) (((Jvm.Free.XT.ushr x (1 : Int32)) &&& (7 : Int32)) % ((6 : Int32) - (x &&& (1 : Int32))))
  have r5 := rng32 ((x &&& (1 : Int32)) + (((Jvm.Free.XT.ushr x (1 : Int32)) &&& (7 : Int32)) % ((6 : Int32) - (x &&& (1 : Int32)))))
  refine ⟨(x &&& (1 : Int32)).toInt.toNat, ((x &&& (1 : Int32)) + (((Jvm.Free.XT.ushr x (1 : Int32)) &&& (7 : Int32)) % ((6 : Int32) - (x &&& (1 : Int32))))).toInt.toNat, by omega, by omega, ?_, ?_, ?_⟩
  · apply Int32.toInt_inj.mp; rw [Int32.toInt_ofNat_small (by omega)]; omega
  · apply Int32.toInt_inj.mp; rw [Int32.toInt_ofNat_small (by omega)]; omega
  · intro q; rw [← Int32.toInt_inj] at q; omega
theorem own_nx {xs : List Int32} {e p : Nat} {c : Int32} (hp : p ≤ e) (hc : ¬ (-1 : Int32) = c) : (if nextv xs e p = c then p + 1 else p) ≤ e := by
  by_cases q : nextv xs e p = c
  · rw [if_pos q]
    by_cases q2 : p < e
    · exact q2
    · rw [nextv, if_neg q2] at q; exact absurd q hc
  · rw [if_neg q]; exact hp
set_option maxRecDepth 65536 in
set_option maxHeartbeats 40000000 in
theorem rm_next (l : Launch) (Z : State) (a0 : Array Value) (hw : ∀ d ∈ tables_1, d.before a0 Z = true) (r b : Addr) (i ee : Nat) (xs : List Int32) (h0 : Heap) (Er : Exa Z h0 r "com/example/wary_offset/waryoffset/remoting/JsonText$Reader") (Fa : Fld Z h0 r "com/example/wary_offset/waryoffset/remoting/JsonText$Reader" "at" "I" (.int (Int32.ofNat i))) (Fe : Fld Z h0 r "com/example/wary_offset/waryoffset/remoting/JsonText$Reader" "end" "I" (.int (Int32.ofNat ee))) (Ft : Fld Z h0 r "com/example/wary_offset/waryoffset/remoting/JsonText$Reader" "text" "[B" (.ref b)) (A0 : Seq Z h0 b .byte (xs.map Value.int)) (nrb : r ≠ b) (hie : i ≤ ee) (hel : ee ≤ xs.length) (hxl : xs.length < 1000) :
    Con l (⟨"com/example/wary_offset/waryoffset/remoting/JsonText$Reader", "next", "()I"⟩ : MethodName) prog_25_method_22_code 1 (some .int) ({ frames := 0, cells := 0, slots := 0, locals := 0 } : Room) Z #[(.ref r)] h0 (fun v h L => v = some (.int (nextv xs ee (sk xs ee (ee - i) i))) ∧ Kp h0 h [r] L ∧ Fld Z h r "com/example/wary_offset/waryoffset/remoting/JsonText$Reader" "at" "I" (.int (Int32.ofNat (sk xs ee (ee - i) i))) ∧ Fld Z h r "com/example/wary_offset/waryoffset/remoting/JsonText$Reader" "end" "I" (.int (Int32.ofNat ee)) ∧ Fld Z h r "com/example/wary_offset/waryoffset/remoting/JsonText$Reader" "text" "[B" (.ref b)) := by
  refine Con.of_body (plainFor_of_name pn_0) ?_
  intro p e s m below meth c T0 X0 hx hby hml hZ hown hnm hret hlk e0
  have hown : s.vm.findClass "com/example/wary_offset/waryoffset/remoting/JsonText$Reader" = some m.cls := hown
  have hml : c.maxLocals = 1 := hml
  refine Goes.cast (ef9_R m r) ?_
  have K0 := Kp.refl h0 [r]
  have hloop : ∀ (n j : Nat) (Tj : State) (hj : Heap) (Lc : List Loc), ee - j ≤ n → j ≤ ee → sk xs ee (ee - j) j = sk xs ee (ee - i) i → Stand p l e ({ frames := 0, cells := 0, slots := 0, locals := 0 } : Room) s m #[(.ref r)] below meth c Tj Lc 0 0 → Tj.heap = hj → Exa Z hj r "com/example/wary_offset/waryoffset/remoting/JsonText$Reader" → Fld Z hj r "com/example/wary_offset/waryoffset/remoting/JsonText$Reader" "at" "I" (.int (Int32.ofNat j)) → Fld Z hj r "com/example/wary_offset/waryoffset/remoting/JsonText$Reader" "end" "I" (.int (Int32.ofNat ee)) → Fld Z hj r "com/example/wary_offset/waryoffset/remoting/JsonText$Reader" "text" "[B" (.ref b) → Seq Z hj b .byte (xs.map Value.int) → Kp h0 hj [r] Lc → Goes p e below Tj (mkF m 0 #[.val (.ref r)] []) (fun U o => ∃ v L, o = .returned v ∧ Ap (fun v h L => v = some (.int (nextv xs ee (sk xs ee (ee - i) i))) ∧ Kp h0 h [r] L ∧ Fld Z h r "com/example/wary_offset/waryoffset/remoting/JsonText$Reader" "at" "I" (.int (Int32.ofNat (sk xs ee (ee - i) i))) ∧ Fld Z h r "com/example/wary_offset/waryoffset/remoting/JsonText$Reader" "end" "I" (.int (Int32.ofNat ee)) ∧ Fld Z h r "com/example/wary_offset/waryoffset/remoting/JsonText$Reader" "text" "[B" (.ref b)) v U.heap L ∧ FrameEnd s o U L ({ frames := 0, cells := 0, slots := 0, locals := 0 } : Room).cells ({ frames := 0, cells := 0, slots := 0, locals := 0 } : Room).slots) := by
    intro n
    induction n with
    | zero =>
      intro j Tj hj Lc hn hje hsk Xj ej Erj Faj Fej Ftj A0j Kj
      by_cases hlt : j < ee
      · exact absurd hlt (by omega)
      · have hJ : sk xs ee (ee - i) i = j := by rw [← hsk, sk_no (fun q => hlt q.1)]
        refine G.aloadN Xj hx (pc' := 1) (hb hby d9_0) rfl rfl rfl ?_
        refine G.getF Xj hx hZ hown (hw _ (List.mem_of_getElem? (i := 45) rfl)) Via.refl ej Faj (pc' := 4) (hb hby d9_1) rfl fun T1 X1 e1 => ?_
        refine G.aloadN X1 hx (pc' := 5) (hb hby d9_4) rfl rfl rfl ?_
        refine G.getF X1 hx hZ hown (hw _ (List.mem_of_getElem? (i := 39) rfl)) Via.refl e1 Fej (pc' := 8) (hb hby d9_5) rfl fun T2 X2 e2 => ?_
        refine G.icmpT X2 hx (pc' := 80) (hb hby d9_8) (Jvm.Free.XT.ii_ge_t (fun q => hlt ((nat_lt (by omega) (by omega)).mp q))) (by decide) (by decide) ?_
        refine G.aloadN X2 hx (pc' := 81) (hb hby d9_80) rfl rfl rfl ?_
        refine G.getF X2 hx hZ hown (hw _ (List.mem_of_getElem? (i := 45) rfl)) Via.refl e2 Faj (pc' := 84) (hb hby d9_81) rfl fun T3 X3 e3 => ?_
        refine G.aloadN X3 hx (pc' := 85) (hb hby d9_84) rfl rfl rfl ?_
        refine G.getF X3 hx hZ hown (hw _ (List.mem_of_getElem? (i := 39) rfl)) Via.refl e3 Fej (pc' := 88) (hb hby d9_85) rfl fun T4 X4 e4 => ?_
        refine G.icmpT X4 hx (pc' := 107) (hb hby d9_88) (Jvm.Free.XT.ii_ge_t (fun q => hlt ((nat_lt (by omega) (by omega)).mp q))) (by decide) (by decide) ?_
        refine G.iconst X4 hx (pc' := 108) (hb hby d9_107) (z := (-1 : Int32)) rfl rfl ?_
        refine Goes.retI X4 hx hret hlk (hb hby d9_108) (by decide) (by decide) ⟨by rw [hJ, nextv, if_neg hlt], e4 ▸ Kj, by rw [hJ]; exact e4 ▸ Faj, e4 ▸ Fej, e4 ▸ Ftj⟩
    | succ n ih =>
      intro j Tj hj Lc hn hje hsk Xj ej Erj Faj Fej Ftj A0j Kj
      by_cases hlt : j < ee
      · have hin : j < xs.length := by omega
        have hat := at_map hin hxl
        generalize hxx : xs.getD j 0 = xx at hat
        refine G.aloadN Xj hx (pc' := 1) (hb hby d9_0) rfl rfl rfl ?_
        refine G.getF Xj hx hZ hown (hw _ (List.mem_of_getElem? (i := 45) rfl)) Via.refl ej Faj (pc' := 4) (hb hby d9_1) rfl fun T5 X5 e5 => ?_
        refine G.aloadN X5 hx (pc' := 5) (hb hby d9_4) rfl rfl rfl ?_
        refine G.getF X5 hx hZ hown (hw _ (List.mem_of_getElem? (i := 39) rfl)) Via.refl e5 Fej (pc' := 8) (hb hby d9_5) rfl fun T6 X6 e6 => ?_
        refine G.icmpF X6 hx (pc' := 11) (hb hby d9_8) (Jvm.Free.XT.ii_ge_f ((nat_lt (by omega) (by omega)).mpr hlt)) rfl ?_
        refine G.aloadN X6 hx (pc' := 12) (hb hby d9_11) rfl rfl rfl ?_
        refine G.getF X6 hx hZ hown (hw _ (List.mem_of_getElem? (i := 35) rfl)) Via.refl e6 Ftj (pc' := 15) (hb hby d9_12) rfl fun T7 X7 e7 => ?_
        refine G.aloadN X7 hx (pc' := 16) (hb hby d9_15) rfl rfl rfl ?_
        refine G.getF X7 hx hZ hown (hw _ (List.mem_of_getElem? (i := 45) rfl)) Via.refl e7 Faj (pc' := 19) (hb hby d9_16) rfl fun T8 X8 e8 => ?_
        refine G.baload X8 hx hZ e8 A0j (pc' := 20) (v := (.int xx)) (hb hby d9_19) (nat_nn (by omega)) hat rfl ?_
        refine G.bipush X8 hx (pc' := 22) (hb hby d9_20) (z := (32 : Int32)) rfl rfl ?_
        by_cases w1 : xx = (32 : Int32)
        · refine G.icmpT X8 hx (pc' := 67) (hb hby d9_22) (Jvm.Free.XT.ii_eq_t w1) (by decide) (by decide) ?_
          refine G.aloadN X8 hx (pc' := 68) (hb hby d9_67) rfl rfl rfl ?_
          refine G.dup X8 hx (pc' := 69) (hb hby d9_68) rfl rfl ?_
          refine G.getF X8 hx hZ hown (hw _ (List.mem_of_getElem? (i := 45) rfl)) Via.refl e8 Faj (pc' := 72) (hb hby d9_69) rfl fun T9 X9 e9 => ?_
          refine G.iconst X9 hx (pc' := 73) (hb hby d9_72) (z := (1 : Int32)) rfl rfl ?_
          refine G.iadd X9 hx (pc' := 74) (hb hby d9_73) rfl ?_
          refine G.putF X9 hx hZ hown (hw _ (List.mem_of_getElem? (i := 45) rfl)) Via.refl e9 Faj Erj (Or.inl (hw _ (List.mem_of_getElem? (i := 46) rfl))) (hw _ (List.mem_of_getElem? (i := 17) rfl)) (ty := .int) (by decide) rfl rfl (pc' := 77) (hb hby d9_74) rfl fun T10 h10 X10 e10 W10 => ?_
          have F10_r_end := Fld.other W10 Fej (Or.inr (slot_ne (Or.inr (hw _ (List.mem_of_getElem? (i := 40) rfl))) (Or.inl (hw _ (List.mem_of_getElem? (i := 46) rfl))) (by decide) (t := .int) (t' := .int) (by decide) (by decide)))
          have F10_r_text := Fld.other W10 Ftj (Or.inr (slot_ne (Or.inr (hw _ (List.mem_of_getElem? (i := 36) rfl))) (Or.inl (hw _ (List.mem_of_getElem? (i := 46) rfl))) (by decide) (t := (.array .byte)) (t' := .int) (by decide) (by decide)))
          have E10_r := Exa.wr W10 Erj
          have A10_b := Seq.other A0j W10 (Ne.symm nrb)
          have K10 := Kp.wr Kj W10 (Or.inl (List.mem_of_getElem? (i := 0) rfl))
          have F10_r_at := Fld.same W10 Faj
          refine G.goto X10 hx (pc' := 0) (hb hby d9_77) (by decide) (by decide) ?_
          rw [nat_s] at F10_r_at
          exact ih (j + 1) T10 h10 _ (by omega) (by omega) (by rw [← hsk, show ee - j = (ee - (j + 1)) + 1 by omega, sk_yes hlt (by rw [hxx]; unfold isws; simp [w1])]) X10 e10 E10_r F10_r_at F10_r_end F10_r_text A10_b K10
        · refine G.icmpF X8 hx (pc' := 25) (hb hby d9_22) (Jvm.Free.XT.ii_eq_f w1) rfl ?_
          refine G.aloadN X8 hx (pc' := 26) (hb hby d9_25) rfl rfl rfl ?_
          refine G.getF X8 hx hZ hown (hw _ (List.mem_of_getElem? (i := 35) rfl)) Via.refl e8 Ftj (pc' := 29) (hb hby d9_26) rfl fun T11 X11 e11 => ?_
          refine G.aloadN X11 hx (pc' := 30) (hb hby d9_29) rfl rfl rfl ?_
          refine G.getF X11 hx hZ hown (hw _ (List.mem_of_getElem? (i := 45) rfl)) Via.refl e11 Faj (pc' := 33) (hb hby d9_30) rfl fun T12 X12 e12 => ?_
          refine G.baload X12 hx hZ e12 A0j (pc' := 34) (v := (.int xx)) (hb hby d9_33) (nat_nn (by omega)) hat rfl ?_
          refine G.bipush X12 hx (pc' := 36) (hb hby d9_34) (z := (9 : Int32)) rfl rfl ?_
          by_cases w2 : xx = (9 : Int32)
          · refine G.icmpT X12 hx (pc' := 67) (hb hby d9_36) (Jvm.Free.XT.ii_eq_t w2) (by decide) (by decide) ?_
            refine G.aloadN X12 hx (pc' := 68) (hb hby d9_67) rfl rfl rfl ?_
            refine G.dup X12 hx (pc' := 69) (hb hby d9_68) rfl rfl ?_
            refine G.getF X12 hx hZ hown (hw _ (List.mem_of_getElem? (i := 45) rfl)) Via.refl e12 Faj (pc' := 72) (hb hby d9_69) rfl fun T13 X13 e13 => ?_
            refine G.iconst X13 hx (pc' := 73) (hb hby d9_72) (z := (1 : Int32)) rfl rfl ?_
            refine G.iadd X13 hx (pc' := 74) (hb hby d9_73) rfl ?_
            refine G.putF X13 hx hZ hown (hw _ (List.mem_of_getElem? (i := 45) rfl)) Via.refl e13 Faj Erj (Or.inl (hw _ (List.mem_of_getElem? (i := 46) rfl))) (hw _ (List.mem_of_getElem? (i := 17) rfl)) (ty := .int) (by decide) rfl rfl (pc' := 77) (hb hby d9_74) rfl fun T14 h14 X14 e14 W14 => ?_
            have F14_r_end := Fld.other W14 Fej (Or.inr (slot_ne (Or.inr (hw _ (List.mem_of_getElem? (i := 40) rfl))) (Or.inl (hw _ (List.mem_of_getElem? (i := 46) rfl))) (by decide) (t := .int) (t' := .int) (by decide) (by decide)))
            have F14_r_text := Fld.other W14 Ftj (Or.inr (slot_ne (Or.inr (hw _ (List.mem_of_getElem? (i := 36) rfl))) (Or.inl (hw _ (List.mem_of_getElem? (i := 46) rfl))) (by decide) (t := (.array .byte)) (t' := .int) (by decide) (by decide)))
            have E14_r := Exa.wr W14 Erj
            have A14_b := Seq.other A0j W14 (Ne.symm nrb)
            have K14 := Kp.wr Kj W14 (Or.inl (List.mem_of_getElem? (i := 0) rfl))
            have F14_r_at := Fld.same W14 Faj
            refine G.goto X14 hx (pc' := 0) (hb hby d9_77) (by decide) (by decide) ?_
            rw [nat_s] at F14_r_at
            exact ih (j + 1) T14 h14 _ (by omega) (by omega) (by rw [← hsk, show ee - j = (ee - (j + 1)) + 1 by omega, sk_yes hlt (by rw [hxx]; unfold isws; simp [w2])]) X14 e14 E14_r F14_r_at F14_r_end F14_r_text A14_b K14
          · refine G.icmpF X12 hx (pc' := 39) (hb hby d9_36) (Jvm.Free.XT.ii_eq_f w2) rfl ?_
            refine G.aloadN X12 hx (pc' := 40) (hb hby d9_39) rfl rfl rfl ?_
            refine G.getF X12 hx hZ hown (hw _ (List.mem_of_getElem? (i := 35) rfl)) Via.refl e12 Ftj (pc' := 43) (hb hby d9_40) rfl fun T15 X15 e15 => ?_
            refine G.aloadN X15 hx (pc' := 44) (hb hby d9_43) rfl rfl rfl ?_
            refine G.getF X15 hx hZ hown (hw _ (List.mem_of_getElem? (i := 45) rfl)) Via.refl e15 Faj (pc' := 47) (hb hby d9_44) rfl fun T16 X16 e16 => ?_
            refine G.baload X16 hx hZ e16 A0j (pc' := 48) (v := (.int xx)) (hb hby d9_47) (nat_nn (by omega)) hat rfl ?_
            refine G.bipush X16 hx (pc' := 50) (hb hby d9_48) (z := (10 : Int32)) rfl rfl ?_
            by_cases w3 : xx = (10 : Int32)
            · refine G.icmpT X16 hx (pc' := 67) (hb hby d9_50) (Jvm.Free.XT.ii_eq_t w3) (by decide) (by decide) ?_
              refine G.aloadN X16 hx (pc' := 68) (hb hby d9_67) rfl rfl rfl ?_
              refine G.dup X16 hx (pc' := 69) (hb hby d9_68) rfl rfl ?_
              refine G.getF X16 hx hZ hown (hw _ (List.mem_of_getElem? (i := 45) rfl)) Via.refl e16 Faj (pc' := 72) (hb hby d9_69) rfl fun T17 X17 e17 => ?_
              refine G.iconst X17 hx (pc' := 73) (hb hby d9_72) (z := (1 : Int32)) rfl rfl ?_
              refine G.iadd X17 hx (pc' := 74) (hb hby d9_73) rfl ?_
              refine G.putF X17 hx hZ hown (hw _ (List.mem_of_getElem? (i := 45) rfl)) Via.refl e17 Faj Erj (Or.inl (hw _ (List.mem_of_getElem? (i := 46) rfl))) (hw _ (List.mem_of_getElem? (i := 17) rfl)) (ty := .int) (by decide) rfl rfl (pc' := 77) (hb hby d9_74) rfl fun T18 h18 X18 e18 W18 => ?_
              have F18_r_end := Fld.other W18 Fej (Or.inr (slot_ne (Or.inr (hw _ (List.mem_of_getElem? (i := 40) rfl))) (Or.inl (hw _ (List.mem_of_getElem? (i := 46) rfl))) (by decide) (t := .int) (t' := .int) (by decide) (by decide)))
              have F18_r_text := Fld.other W18 Ftj (Or.inr (slot_ne (Or.inr (hw _ (List.mem_of_getElem? (i := 36) rfl))) (Or.inl (hw _ (List.mem_of_getElem? (i := 46) rfl))) (by decide) (t := (.array .byte)) (t' := .int) (by decide) (by decide)))
              have E18_r := Exa.wr W18 Erj
              have A18_b := Seq.other A0j W18 (Ne.symm nrb)
              have K18 := Kp.wr Kj W18 (Or.inl (List.mem_of_getElem? (i := 0) rfl))
              have F18_r_at := Fld.same W18 Faj
              refine G.goto X18 hx (pc' := 0) (hb hby d9_77) (by decide) (by decide) ?_
              rw [nat_s] at F18_r_at
              exact ih (j + 1) T18 h18 _ (by omega) (by omega) (by rw [← hsk, show ee - j = (ee - (j + 1)) + 1 by omega, sk_yes hlt (by rw [hxx]; unfold isws; simp [w3])]) X18 e18 E18_r F18_r_at F18_r_end F18_r_text A18_b K18
            · refine G.icmpF X16 hx (pc' := 53) (hb hby d9_50) (Jvm.Free.XT.ii_eq_f w3) rfl ?_
              refine G.aloadN X16 hx (pc' := 54) (hb hby d9_53) rfl rfl rfl ?_
              refine G.getF X16 hx hZ hown (hw _ (List.mem_of_getElem? (i := 35) rfl)) Via.refl e16 Ftj (pc' := 57) (hb hby d9_54) rfl fun T19 X19 e19 => ?_
              refine G.aloadN X19 hx (pc' := 58) (hb hby d9_57) rfl rfl rfl ?_
              refine G.getF X19 hx hZ hown (hw _ (List.mem_of_getElem? (i := 45) rfl)) Via.refl e19 Faj (pc' := 61) (hb hby d9_58) rfl fun T20 X20 e20 => ?_
              refine G.baload X20 hx hZ e20 A0j (pc' := 62) (v := (.int xx)) (hb hby d9_61) (nat_nn (by omega)) hat rfl ?_
              refine G.bipush X20 hx (pc' := 64) (hb hby d9_62) (z := (13 : Int32)) rfl rfl ?_
              by_cases w4 : xx = (13 : Int32)
              · refine G.icmpF X20 hx (pc' := 67) (hb hby d9_64) (Jvm.Free.XT.ii_ne_f w4) rfl ?_
                refine G.aloadN X20 hx (pc' := 68) (hb hby d9_67) rfl rfl rfl ?_
                refine G.dup X20 hx (pc' := 69) (hb hby d9_68) rfl rfl ?_
                refine G.getF X20 hx hZ hown (hw _ (List.mem_of_getElem? (i := 45) rfl)) Via.refl e20 Faj (pc' := 72) (hb hby d9_69) rfl fun T21 X21 e21 => ?_
                refine G.iconst X21 hx (pc' := 73) (hb hby d9_72) (z := (1 : Int32)) rfl rfl ?_
                refine G.iadd X21 hx (pc' := 74) (hb hby d9_73) rfl ?_
                refine G.putF X21 hx hZ hown (hw _ (List.mem_of_getElem? (i := 45) rfl)) Via.refl e21 Faj Erj (Or.inl (hw _ (List.mem_of_getElem? (i := 46) rfl))) (hw _ (List.mem_of_getElem? (i := 17) rfl)) (ty := .int) (by decide) rfl rfl (pc' := 77) (hb hby d9_74) rfl fun T22 h22 X22 e22 W22 => ?_
                have F22_r_end := Fld.other W22 Fej (Or.inr (slot_ne (Or.inr (hw _ (List.mem_of_getElem? (i := 40) rfl))) (Or.inl (hw _ (List.mem_of_getElem? (i := 46) rfl))) (by decide) (t := .int) (t' := .int) (by decide) (by decide)))
                have F22_r_text := Fld.other W22 Ftj (Or.inr (slot_ne (Or.inr (hw _ (List.mem_of_getElem? (i := 36) rfl))) (Or.inl (hw _ (List.mem_of_getElem? (i := 46) rfl))) (by decide) (t := (.array .byte)) (t' := .int) (by decide) (by decide)))
                have E22_r := Exa.wr W22 Erj
                have A22_b := Seq.other A0j W22 (Ne.symm nrb)
                have K22 := Kp.wr Kj W22 (Or.inl (List.mem_of_getElem? (i := 0) rfl))
                have F22_r_at := Fld.same W22 Faj
                refine G.goto X22 hx (pc' := 0) (hb hby d9_77) (by decide) (by decide) ?_
                rw [nat_s] at F22_r_at
                exact ih (j + 1) T22 h22 _ (by omega) (by omega) (by rw [← hsk, show ee - j = (ee - (j + 1)) + 1 by omega, sk_yes hlt (by rw [hxx]; unfold isws; simp [w4])]) X22 e22 E22_r F22_r_at F22_r_end F22_r_text A22_b K22
              · refine G.icmpT X20 hx (pc' := 80) (hb hby d9_64) (Jvm.Free.XT.ii_ne_t w4) (by decide) (by decide) ?_
                have hJ : sk xs ee (ee - i) i = j := by rw [← hsk, sk_no (fun q => by have q2 := q.2; rw [hxx] at q2; unfold isws at q2; simp [w1, w2, w3, w4] at q2)]
                refine G.aloadN X20 hx (pc' := 81) (hb hby d9_80) rfl rfl rfl ?_
                refine G.getF X20 hx hZ hown (hw _ (List.mem_of_getElem? (i := 45) rfl)) Via.refl e20 Faj (pc' := 84) (hb hby d9_81) rfl fun T23 X23 e23 => ?_
                refine G.aloadN X23 hx (pc' := 85) (hb hby d9_84) rfl rfl rfl ?_
                refine G.getF X23 hx hZ hown (hw _ (List.mem_of_getElem? (i := 39) rfl)) Via.refl e23 Fej (pc' := 88) (hb hby d9_85) rfl fun T24 X24 e24 => ?_
                refine G.icmpF X24 hx (pc' := 91) (hb hby d9_88) (Jvm.Free.XT.ii_ge_f ((nat_lt (by omega) (by omega)).mpr hlt)) rfl ?_
                refine G.aloadN X24 hx (pc' := 92) (hb hby d9_91) rfl rfl rfl ?_
                refine G.getF X24 hx hZ hown (hw _ (List.mem_of_getElem? (i := 35) rfl)) Via.refl e24 Ftj (pc' := 95) (hb hby d9_92) rfl fun T25 X25 e25 => ?_
                refine G.aloadN X25 hx (pc' := 96) (hb hby d9_95) rfl rfl rfl ?_
                refine G.getF X25 hx hZ hown (hw _ (List.mem_of_getElem? (i := 45) rfl)) Via.refl e25 Faj (pc' := 99) (hb hby d9_96) rfl fun T26 X26 e26 => ?_
                refine G.baload X26 hx hZ e26 A0j (pc' := 100) (v := (.int xx)) (hb hby d9_99) (nat_nn (by omega)) hat rfl ?_
                refine G.sipush X26 hx (pc' := 103) (hb hby d9_100) (z := (255 : Int32)) rfl rfl ?_
                refine G.iand X26 hx (pc' := 104) (hb hby d9_103) rfl ?_
                refine G.goto X26 hx (pc' := 108) (hb hby d9_104) (by decide) (by decide) ?_
                refine Goes.retI X26 hx hret hlk (hb hby d9_108) (by decide) (by decide) ⟨by rw [hJ, nextv, if_pos hlt, hxx], e26 ▸ Kj, by rw [hJ]; exact e26 ▸ Faj, e26 ▸ Fej, e26 ▸ Ftj⟩
      · have hJ : sk xs ee (ee - i) i = j := by rw [← hsk, sk_no (fun q => hlt q.1)]
        refine G.aloadN Xj hx (pc' := 1) (hb hby d9_0) rfl rfl rfl ?_
        refine G.getF Xj hx hZ hown (hw _ (List.mem_of_getElem? (i := 45) rfl)) Via.refl ej Faj (pc' := 4) (hb hby d9_1) rfl fun T27 X27 e27 => ?_
        refine G.aloadN X27 hx (pc' := 5) (hb hby d9_4) rfl rfl rfl ?_
        refine G.getF X27 hx hZ hown (hw _ (List.mem_of_getElem? (i := 39) rfl)) Via.refl e27 Fej (pc' := 8) (hb hby d9_5) rfl fun T28 X28 e28 => ?_
        refine G.icmpT X28 hx (pc' := 80) (hb hby d9_8) (Jvm.Free.XT.ii_ge_t (fun q => hlt ((nat_lt (by omega) (by omega)).mp q))) (by decide) (by decide) ?_
        refine G.aloadN X28 hx (pc' := 81) (hb hby d9_80) rfl rfl rfl ?_
        refine G.getF X28 hx hZ hown (hw _ (List.mem_of_getElem? (i := 45) rfl)) Via.refl e28 Faj (pc' := 84) (hb hby d9_81) rfl fun T29 X29 e29 => ?_
        refine G.aloadN X29 hx (pc' := 85) (hb hby d9_84) rfl rfl rfl ?_
        refine G.getF X29 hx hZ hown (hw _ (List.mem_of_getElem? (i := 39) rfl)) Via.refl e29 Fej (pc' := 88) (hb hby d9_85) rfl fun T30 X30 e30 => ?_
        refine G.icmpT X30 hx (pc' := 107) (hb hby d9_88) (Jvm.Free.XT.ii_ge_t (fun q => hlt ((nat_lt (by omega) (by omega)).mp q))) (by decide) (by decide) ?_
        refine G.iconst X30 hx (pc' := 108) (hb hby d9_107) (z := (-1 : Int32)) rfl rfl ?_
        refine Goes.retI X30 hx hret hlk (hb hby d9_108) (by decide) (by decide) ⟨by rw [hJ, nextv, if_neg hlt], e30 ▸ Kj, by rw [hJ]; exact e30 ▸ Faj, e30 ▸ Fej, e30 ▸ Ftj⟩
  exact hloop _ i T0 h0 [] (Nat.le_refl _) hie rfl X0 e0 Er Fa Fe Ft A0 K0
set_option maxRecDepth 65536 in
set_option maxHeartbeats 40000000 in
theorem rm_take (l : Launch) (Z : State) (a0 : Array Value) (hw : ∀ d ∈ tables_1, d.before a0 Z = true) (r b : Addr) (ch : Int32) (i ee : Nat) (xs : List Int32) (h0 : Heap) (Er : Exa Z h0 r "com/example/wary_offset/waryoffset/remoting/JsonText$Reader") (Fa : Fld Z h0 r "com/example/wary_offset/waryoffset/remoting/JsonText$Reader" "at" "I" (.int (Int32.ofNat i))) (Fe : Fld Z h0 r "com/example/wary_offset/waryoffset/remoting/JsonText$Reader" "end" "I" (.int (Int32.ofNat ee))) (Ft : Fld Z h0 r "com/example/wary_offset/waryoffset/remoting/JsonText$Reader" "text" "[B" (.ref b)) (A0 : Seq Z h0 b .byte (xs.map Value.int)) (nrb : r ≠ b) (hie : i ≤ ee) (hel : ee ≤ xs.length) (hxl : xs.length < 1000) :
    Con l (⟨"com/example/wary_offset/waryoffset/remoting/JsonText$Reader", "take", "(C)Z"⟩ : MethodName) prog_25_method_4_code 3 (some .boolean) ({ frames := 1, cells := 0, slots := 0, locals := 12 } : Room) Z #[(.ref r), (.int ch)] h0 (fun v h L => v = some (.int (if (nextv xs ee (sk xs ee (ee - i) i)) = ch then (1 : Int32) else (0 : Int32))) ∧ Kp h0 h [r] L ∧ Fld Z h r "com/example/wary_offset/waryoffset/remoting/JsonText$Reader" "at" "I" (.int (Int32.ofNat (if (nextv xs ee (sk xs ee (ee - i) i)) = ch then (sk xs ee (ee - i) i) + 1 else (sk xs ee (ee - i) i)))) ∧ Fld Z h r "com/example/wary_offset/waryoffset/remoting/JsonText$Reader" "end" "I" (.int (Int32.ofNat ee)) ∧ Fld Z h r "com/example/wary_offset/waryoffset/remoting/JsonText$Reader" "text" "[B" (.ref b)) := by
  refine Con.of_body (plainFor_of_name pn_0) ?_
  intro p e s m below meth c T0 X0 hx hby hml hZ hown hnm hret hlk e0
  have hown : s.vm.findClass "com/example/wary_offset/waryoffset/remoting/JsonText$Reader" = some m.cls := hown
  have hml : c.maxLocals = 3 := hml
  refine Goes.cast (ef8_RI m r ch) ?_
  have K0 := Kp.refl h0 [r]
  refine G.aloadN X0 hx (pc' := 1) (hb hby d8_0) rfl rfl rfl ?_
  refine G.callP X0 hx hZ (y := (⟨"com/example/wary_offset/waryoffset/remoting/JsonText$Reader", "next", "()I"⟩ : MethodName)) hown (hw _ (List.mem_of_getElem? (i := 52) rfl)) (hw _ (List.mem_of_getElem? (i := 53) rfl)) (hw _ (List.mem_of_getElem? (i := 17) rfl)) (hw _ (List.mem_of_getElem? (i := 54) rfl)) (hw _ (List.mem_of_getElem? (i := 18) rfl)) (hw _ (List.mem_of_getElem? (i := 55) rfl)) (by decide) e0 (rm := ({ frames := 0, cells := 0, slots := 0, locals := 0 } : Room)) (argsL := []) (S := []) (W := 0) (a := r) Er (rm_next l Z a0 hw r b i ee xs h0 Er Fa Fe Ft A0 nrb hie hel hxl) (lenOf pd_1 rfl) rfl (Nat.le_of_eq rfl) (by decide) (by decide) (by decide) (by decide) (by rw [hml]; rfl) (hb hby d8_1) (pc' := 4) rfl ?_
  rintro T1 _ L1 ⟨rfl, Kq1, Fa1, Fe1, Ft1⟩ X1
  have E1_r := Exa.keep Er Kq1.1
  have A1_b := Seq.keep A0 Kq1.1 (ninS (Ne.symm nrb) nin0)
  have K1 := Kp.call K0 Kq1 (allS (Or.inl (List.mem_of_getElem? (i := 0) rfl)) all0)
  show Goes p e below T1 (mkF m 4 #[.val (.ref r), .val (.int ch), .unset] [(.int (nextv xs ee (sk xs ee (ee - i) i)))]) _
  refine G.iloadN X1 hx (pc' := 5) (hb hby d8_4) rfl rfl ?_
  by_cases c1 : (nextv xs ee (sk xs ee (ee - i) i)) = ch
  · refine G.icmpF X1 hx (pc' := 8) (hb hby d8_5) (Jvm.Free.XT.ii_ne_f c1) rfl ?_
    refine G.iconst X1 hx (pc' := 9) (hb hby d8_8) (z := (1 : Int32)) rfl rfl ?_
    refine G.goto X1 hx (pc' := 13) (hb hby d8_9) (by decide) (by decide) ?_
    refine G.istoreN X1 hx (pc' := 14) (hb hby d8_13) (L' := #[.val (.ref r), .val (.int ch), .val (.int (1 : Int32))]) rfl rfl ?_
    refine G.iloadN X1 hx (pc' := 15) (hb hby d8_14) rfl rfl ?_
    refine G.ifF X1 hx (pc' := 18) (hb hby d8_15) (Jvm.Free.XT.i0_eq_f (by decide)) rfl ?_
    refine G.aloadN X1 hx (pc' := 19) (hb hby d8_18) rfl rfl rfl ?_
    refine G.dup X1 hx (pc' := 20) (hb hby d8_19) rfl rfl ?_
    refine G.getF X1 hx hZ hown (hw _ (List.mem_of_getElem? (i := 45) rfl)) Via.refl rfl Fa1 (pc' := 23) (hb hby d8_20) rfl fun T2 X2 e2 => ?_
    refine G.iconst X2 hx (pc' := 24) (hb hby d8_23) (z := (1 : Int32)) rfl rfl ?_
    refine G.iadd X2 hx (pc' := 25) (hb hby d8_24) rfl ?_
    refine G.putF X2 hx hZ hown (hw _ (List.mem_of_getElem? (i := 45) rfl)) Via.refl e2 Fa1 E1_r (Or.inl (hw _ (List.mem_of_getElem? (i := 46) rfl))) (hw _ (List.mem_of_getElem? (i := 17) rfl)) (ty := .int) (by decide) rfl rfl (pc' := 28) (hb hby d8_25) rfl fun T3 h3 X3 e3 W3 => ?_
    have F3_r_end := Fld.other W3 Fe1 (Or.inr (slot_ne (Or.inr (hw _ (List.mem_of_getElem? (i := 40) rfl))) (Or.inl (hw _ (List.mem_of_getElem? (i := 46) rfl))) (by decide) (t := .int) (t' := .int) (by decide) (by decide)))
    have F3_r_text := Fld.other W3 Ft1 (Or.inr (slot_ne (Or.inr (hw _ (List.mem_of_getElem? (i := 36) rfl))) (Or.inl (hw _ (List.mem_of_getElem? (i := 46) rfl))) (by decide) (t := (.array .byte)) (t' := .int) (by decide) (by decide)))
    have E3_r := Exa.wr W3 E1_r
    have A3_b := Seq.other A1_b W3 (Ne.symm nrb)
    have K3 := Kp.wr K1 W3 (Or.inl (List.mem_of_getElem? (i := 0) rfl))
    have F3_r_at := Fld.same W3 Fa1
    refine G.iloadN X3 hx (pc' := 29) (hb hby d8_28) rfl rfl ?_
    rw [nat_s] at F3_r_at
    refine Goes.retN X3 hx hret (by simp) hlk (hb hby d8_29) (by decide) (by decide) ⟨by rw [if_pos c1]; rfl, e3 ▸ K3, by rw [if_pos c1]; exact e3 ▸ F3_r_at, e3 ▸ F3_r_end, e3 ▸ F3_r_text⟩
  · refine G.icmpT X1 hx (pc' := 12) (hb hby d8_5) (Jvm.Free.XT.ii_ne_t c1) (by decide) (by decide) ?_
    refine G.iconst X1 hx (pc' := 13) (hb hby d8_12) (z := (0 : Int32)) rfl rfl ?_
    refine G.istoreN X1 hx (pc' := 14) (hb hby d8_13) (L' := #[.val (.ref r), .val (.int ch), .val (.int (0 : Int32))]) rfl rfl ?_
    refine G.iloadN X1 hx (pc' := 15) (hb hby d8_14) rfl rfl ?_
    refine G.ifT X1 hx (pc' := 28) (hb hby d8_15) (Jvm.Free.XT.i0_eq_t (by decide)) (by decide) (by decide) ?_
    refine G.iloadN X1 hx (pc' := 29) (hb hby d8_28) rfl rfl ?_
    refine Goes.retN X1 hx hret (by simp) hlk (hb hby d8_29) (by decide) (by decide) ⟨by rw [if_neg c1]; rfl, K1, by rw [if_neg c1]; exact Fa1, Fe1, Ft1⟩
set_option maxRecDepth 65536 in
set_option maxHeartbeats 40000000 in
theorem rm_init2 (l : Launch) (Z : State) (a0 : Array Value) (hw : ∀ d ∈ tables_1, d.before a0 Z = true) (r b st : Addr) (p2 p3 : Int32) (h0 : Heap) (Er : Exa Z h0 r "com/example/wary_offset/waryoffset/remoting/JsonText$Reader") (F_text : Fld Z h0 r "com/example/wary_offset/waryoffset/remoting/JsonText$Reader" "text" "[B" .null) (F_start : Fld Z h0 r "com/example/wary_offset/waryoffset/remoting/JsonText$Reader" "start" "I" (.int (0 : Int32))) (F_end : Fld Z h0 r "com/example/wary_offset/waryoffset/remoting/JsonText$Reader" "end" "I" (.int (0 : Int32))) (F_what : Fld Z h0 r "com/example/wary_offset/waryoffset/remoting/JsonText$Reader" "what" "Ljava/lang/String;" .null) (F_strings : Fld Z h0 r "com/example/wary_offset/waryoffset/remoting/JsonText$Reader" "strings" "Lcom/example/wary_offset/waryoffset/remoting/JsonText$Strings;" .null) (F_at : Fld Z h0 r "com/example/wary_offset/waryoffset/remoting/JsonText$Reader" "at" "I" (.int (0 : Int32))) :
    Con l (⟨"com/example/wary_offset/waryoffset/remoting/JsonText$Reader", "<init>", "([BIILjava/lang/String;Lcom/example/wary_offset/waryoffset/remoting/JsonText$Strings;)V"⟩ : MethodName) prog_25_method_2_code 6 none ({ frames := 1, cells := 0, slots := 0, locals := 12 } : Room) Z #[(.ref r), (.ref b), (.int p2), (.int p3), (.ref st), .null] h0 (fun v h L => v = none ∧ Kp h0 h [r] L ∧ Fld Z h r "com/example/wary_offset/waryoffset/remoting/JsonText$Reader" "text" "[B" (.ref b) ∧ Fld Z h r "com/example/wary_offset/waryoffset/remoting/JsonText$Reader" "end" "I" (.int (p2 + p3)) ∧ Fld Z h r "com/example/wary_offset/waryoffset/remoting/JsonText$Reader" "at" "I" (.int p2)) := by
  refine Con.of_body (plainFor_of_name pn_0) ?_
  intro p e s m below meth c T0 X0 hx hby hml hZ hown hnm hret hlk e0
  have hown : s.vm.findClass "com/example/wary_offset/waryoffset/remoting/JsonText$Reader" = some m.cls := hown
  have hml : c.maxLocals = 6 := hml
  refine Goes.cast (ef6_RRIIRN m r b p2 p3 st) ?_
  have K0 := Kp.refl h0 [r]
  refine G.aloadN X0 hx (pc' := 1) (hb hby d6_0) rfl rfl rfl ?_
  refine G.initO X0 hx hZ hown (hw _ (List.mem_of_getElem? (i := 32) rfl)) (hw _ (List.mem_of_getElem? (i := 33) rfl)) (hw _ (List.mem_of_getElem? (i := 34) rfl)) e0 (by rw [hml]; rfl) (hb hby d6_1) (by decide) (W := 0) (Nat.le_of_eq rfl) (by decide) (pc' := 4) rfl fun T1 X1 e1 => ?_
  refine G.aloadN X1 hx (pc' := 5) (hb hby d6_4) rfl rfl rfl ?_
  refine G.aloadN X1 hx (pc' := 6) (hb hby d6_5) rfl rfl rfl ?_
  refine G.putF X1 hx hZ hown (hw _ (List.mem_of_getElem? (i := 35) rfl)) Via.refl e1 F_text Er (Or.inr ⟨(hw _ (List.mem_of_getElem? (i := 36) rfl)), rfl, hnm⟩) (hw _ (List.mem_of_getElem? (i := 17) rfl)) (ty := (.array .byte)) (by decide) rfl rfl (pc' := 9) (hb hby d6_6) rfl fun T2 h2 X2 e2 W2 => ?_
  have F2_r_start := Fld.other W2 F_start (Or.inr (slot_ne (Or.inr (hw _ (List.mem_of_getElem? (i := 38) rfl))) (Or.inr (hw _ (List.mem_of_getElem? (i := 36) rfl))) (by decide) (t := .int) (t' := (.array .byte)) (by decide) (by decide)))
  have F2_r_end := Fld.other W2 F_end (Or.inr (slot_ne (Or.inr (hw _ (List.mem_of_getElem? (i := 40) rfl))) (Or.inr (hw _ (List.mem_of_getElem? (i := 36) rfl))) (by decide) (t := .int) (t' := (.array .byte)) (by decide) (by decide)))
  have F2_r_what := Fld.other W2 F_what (Or.inr (slot_ne (Or.inr (hw _ (List.mem_of_getElem? (i := 42) rfl))) (Or.inr (hw _ (List.mem_of_getElem? (i := 36) rfl))) (by decide) (t := (.object "java/lang/String")) (t' := (.array .byte)) (by decide) (by decide)))
  have F2_r_strings := Fld.other W2 F_strings (Or.inr (slot_ne (Or.inr (hw _ (List.mem_of_getElem? (i := 44) rfl))) (Or.inr (hw _ (List.mem_of_getElem? (i := 36) rfl))) (by decide) (t := (.object "com/example/wary_offset/waryoffset/remoting/JsonText$Strings")) (t' := (.array .byte)) (by decide) (by decide)))
  have F2_r_at := Fld.other W2 F_at (Or.inr (slot_ne (Or.inl (hw _ (List.mem_of_getElem? (i := 46) rfl))) (Or.inr (hw _ (List.mem_of_getElem? (i := 36) rfl))) (by decide) (t := .int) (t' := (.array .byte)) (by decide) (by decide)))
  have E2_r := Exa.wr W2 Er
  have K2 := Kp.wr K0 W2 (Or.inl (List.mem_of_getElem? (i := 0) rfl))
  have F2_r_text := Fld.same W2 F_text
  refine G.aloadN X2 hx (pc' := 10) (hb hby d6_9) rfl rfl rfl ?_
  refine G.iloadN X2 hx (pc' := 11) (hb hby d6_10) rfl rfl ?_
  refine G.putF X2 hx hZ hown (hw _ (List.mem_of_getElem? (i := 37) rfl)) Via.refl e2 F2_r_start E2_r (Or.inr ⟨(hw _ (List.mem_of_getElem? (i := 38) rfl)), rfl, hnm⟩) (hw _ (List.mem_of_getElem? (i := 17) rfl)) (ty := .int) (by decide) rfl rfl (pc' := 14) (hb hby d6_11) rfl fun T3 h3 X3 e3 W3 => ?_
  have F3_r_text := Fld.other W3 F2_r_text (Or.inr (slot_ne (Or.inr (hw _ (List.mem_of_getElem? (i := 36) rfl))) (Or.inr (hw _ (List.mem_of_getElem? (i := 38) rfl))) (by decide) (t := (.array .byte)) (t' := .int) (by decide) (by decide)))
  have F3_r_end := Fld.other W3 F2_r_end (Or.inr (slot_ne (Or.inr (hw _ (List.mem_of_getElem? (i := 40) rfl))) (Or.inr (hw _ (List.mem_of_getElem? (i := 38) rfl))) (by decide) (t := .int) (t' := .int) (by decide) (by decide)))
  have F3_r_what := Fld.other W3 F2_r_what (Or.inr (slot_ne (Or.inr (hw _ (List.mem_of_getElem? (i := 42) rfl))) (Or.inr (hw _ (List.mem_of_getElem? (i := 38) rfl))) (by decide) (t := (.object "java/lang/String")) (t' := .int) (by decide) (by decide)))
  have F3_r_strings := Fld.other W3 F2_r_strings (Or.inr (slot_ne (Or.inr (hw _ (List.mem_of_getElem? (i := 44) rfl))) (Or.inr (hw _ (List.mem_of_getElem? (i := 38) rfl))) (by decide) (t := (.object "com/example/wary_offset/waryoffset/remoting/JsonText$Strings")) (t' := .int) (by decide) (by decide)))
  have F3_r_at := Fld.other W3 F2_r_at (Or.inr (slot_ne (Or.inl (hw _ (List.mem_of_getElem? (i := 46) rfl))) (Or.inr (hw _ (List.mem_of_getElem? (i := 38) rfl))) (by decide) (t := .int) (t' := .int) (by decide) (by decide)))
  have E3_r := Exa.wr W3 E2_r
  have K3 := Kp.wr K2 W3 (Or.inl (List.mem_of_getElem? (i := 0) rfl))
  have F3_r_start := Fld.same W3 F2_r_start
  refine G.aloadN X3 hx (pc' := 15) (hb hby d6_14) rfl rfl rfl ?_
  refine G.iloadN X3 hx (pc' := 16) (hb hby d6_15) rfl rfl ?_
  refine G.iloadN X3 hx (pc' := 17) (hb hby d6_16) rfl rfl ?_
  refine G.iadd X3 hx (pc' := 18) (hb hby d6_17) rfl ?_
  refine G.putF X3 hx hZ hown (hw _ (List.mem_of_getElem? (i := 39) rfl)) Via.refl e3 F3_r_end E3_r (Or.inr ⟨(hw _ (List.mem_of_getElem? (i := 40) rfl)), rfl, hnm⟩) (hw _ (List.mem_of_getElem? (i := 17) rfl)) (ty := .int) (by decide) rfl rfl (pc' := 21) (hb hby d6_18) rfl fun T4 h4 X4 e4 W4 => ?_
  have F4_r_text := Fld.other W4 F3_r_text (Or.inr (slot_ne (Or.inr (hw _ (List.mem_of_getElem? (i := 36) rfl))) (Or.inr (hw _ (List.mem_of_getElem? (i := 40) rfl))) (by decide) (t := (.array .byte)) (t' := .int) (by decide) (by decide)))
  have F4_r_start := Fld.other W4 F3_r_start (Or.inr (slot_ne (Or.inr (hw _ (List.mem_of_getElem? (i := 38) rfl))) (Or.inr (hw _ (List.mem_of_getElem? (i := 40) rfl))) (by decide) (t := .int) (t' := .int) (by decide) (by decide)))
  have F4_r_what := Fld.other W4 F3_r_what (Or.inr (slot_ne (Or.inr (hw _ (List.mem_of_getElem? (i := 42) rfl))) (Or.inr (hw _ (List.mem_of_getElem? (i := 40) rfl))) (by decide) (t := (.object "java/lang/String")) (t' := .int) (by decide) (by decide)))
  have F4_r_strings := Fld.other W4 F3_r_strings (Or.inr (slot_ne (Or.inr (hw _ (List.mem_of_getElem? (i := 44) rfl))) (Or.inr (hw _ (List.mem_of_getElem? (i := 40) rfl))) (by decide) (t := (.object "com/example/wary_offset/waryoffset/remoting/JsonText$Strings")) (t' := .int) (by decide) (by decide)))
  have F4_r_at := Fld.other W4 F3_r_at (Or.inr (slot_ne (Or.inl (hw _ (List.mem_of_getElem? (i := 46) rfl))) (Or.inr (hw _ (List.mem_of_getElem? (i := 40) rfl))) (by decide) (t := .int) (t' := .int) (by decide) (by decide)))
  have E4_r := Exa.wr W4 E3_r
  have K4 := Kp.wr K3 W4 (Or.inl (List.mem_of_getElem? (i := 0) rfl))
  have F4_r_end := Fld.same W4 F3_r_end
  refine G.aloadN X4 hx (pc' := 22) (hb hby d6_21) rfl rfl rfl ?_
  refine G.aload X4 hx (pc' := 24) (hb hby d6_22) rfl rfl rfl ?_
  refine G.putF X4 hx hZ hown (hw _ (List.mem_of_getElem? (i := 41) rfl)) Via.refl e4 F4_r_what E4_r (Or.inr ⟨(hw _ (List.mem_of_getElem? (i := 42) rfl)), rfl, hnm⟩) (hw _ (List.mem_of_getElem? (i := 17) rfl)) (ty := (.object "java/lang/String")) (by decide) rfl rfl (pc' := 27) (hb hby d6_24) rfl fun T5 h5 X5 e5 W5 => ?_
  have F5_r_text := Fld.other W5 F4_r_text (Or.inr (slot_ne (Or.inr (hw _ (List.mem_of_getElem? (i := 36) rfl))) (Or.inr (hw _ (List.mem_of_getElem? (i := 42) rfl))) (by decide) (t := (.array .byte)) (t' := (.object "java/lang/String")) (by decide) (by decide)))
  have F5_r_start := Fld.other W5 F4_r_start (Or.inr (slot_ne (Or.inr (hw _ (List.mem_of_getElem? (i := 38) rfl))) (Or.inr (hw _ (List.mem_of_getElem? (i := 42) rfl))) (by decide) (t := .int) (t' := (.object "java/lang/String")) (by decide) (by decide)))
  have F5_r_end := Fld.other W5 F4_r_end (Or.inr (slot_ne (Or.inr (hw _ (List.mem_of_getElem? (i := 40) rfl))) (Or.inr (hw _ (List.mem_of_getElem? (i := 42) rfl))) (by decide) (t := .int) (t' := (.object "java/lang/String")) (by decide) (by decide)))
  have F5_r_strings := Fld.other W5 F4_r_strings (Or.inr (slot_ne (Or.inr (hw _ (List.mem_of_getElem? (i := 44) rfl))) (Or.inr (hw _ (List.mem_of_getElem? (i := 42) rfl))) (by decide) (t := (.object "com/example/wary_offset/waryoffset/remoting/JsonText$Strings")) (t' := (.object "java/lang/String")) (by decide) (by decide)))
  have F5_r_at := Fld.other W5 F4_r_at (Or.inr (slot_ne (Or.inl (hw _ (List.mem_of_getElem? (i := 46) rfl))) (Or.inr (hw _ (List.mem_of_getElem? (i := 42) rfl))) (by decide) (t := .int) (t' := (.object "java/lang/String")) (by decide) (by decide)))
  have E5_r := Exa.wr W5 E4_r
  have K5 := Kp.wr K4 W5 (Or.inl (List.mem_of_getElem? (i := 0) rfl))
  have F5_r_what := Fld.same W5 F4_r_what
  refine G.aloadN X5 hx (pc' := 28) (hb hby d6_27) rfl rfl rfl ?_
  refine G.aload X5 hx (pc' := 30) (hb hby d6_28) rfl rfl rfl ?_
  refine G.putF X5 hx hZ hown (hw _ (List.mem_of_getElem? (i := 43) rfl)) Via.refl e5 F5_r_strings E5_r (Or.inr ⟨(hw _ (List.mem_of_getElem? (i := 44) rfl)), rfl, hnm⟩) (hw _ (List.mem_of_getElem? (i := 17) rfl)) (ty := (.object "com/example/wary_offset/waryoffset/remoting/JsonText$Strings")) (by decide) rfl rfl (pc' := 33) (hb hby d6_30) rfl fun T6 h6 X6 e6 W6 => ?_
  have F6_r_text := Fld.other W6 F5_r_text (Or.inr (slot_ne (Or.inr (hw _ (List.mem_of_getElem? (i := 36) rfl))) (Or.inr (hw _ (List.mem_of_getElem? (i := 44) rfl))) (by decide) (t := (.array .byte)) (t' := (.object "com/example/wary_offset/waryoffset/remoting/JsonText$Strings")) (by decide) (by decide)))
  have F6_r_start := Fld.other W6 F5_r_start (Or.inr (slot_ne (Or.inr (hw _ (List.mem_of_getElem? (i := 38) rfl))) (Or.inr (hw _ (List.mem_of_getElem? (i := 44) rfl))) (by decide) (t := .int) (t' := (.object "com/example/wary_offset/waryoffset/remoting/JsonText$Strings")) (by decide) (by decide)))
  have F6_r_end := Fld.other W6 F5_r_end (Or.inr (slot_ne (Or.inr (hw _ (List.mem_of_getElem? (i := 40) rfl))) (Or.inr (hw _ (List.mem_of_getElem? (i := 44) rfl))) (by decide) (t := .int) (t' := (.object "com/example/wary_offset/waryoffset/remoting/JsonText$Strings")) (by decide) (by decide)))
  have F6_r_what := Fld.other W6 F5_r_what (Or.inr (slot_ne (Or.inr (hw _ (List.mem_of_getElem? (i := 42) rfl))) (Or.inr (hw _ (List.mem_of_getElem? (i := 44) rfl))) (by decide) (t := (.object "java/lang/String")) (t' := (.object "com/example/wary_offset/waryoffset/remoting/JsonText$Strings")) (by decide) (by decide)))
  have F6_r_at := Fld.other W6 F5_r_at (Or.inr (slot_ne (Or.inl (hw _ (List.mem_of_getElem? (i := 46) rfl))) (Or.inr (hw _ (List.mem_of_getElem? (i := 44) rfl))) (by decide) (t := .int) (t' := (.object "com/example/wary_offset/waryoffset/remoting/JsonText$Strings")) (by decide) (by decide)))
  have E6_r := Exa.wr W6 E5_r
  have K6 := Kp.wr K5 W6 (Or.inl (List.mem_of_getElem? (i := 0) rfl))
  have F6_r_strings := Fld.same W6 F5_r_strings
  refine G.aloadN X6 hx (pc' := 34) (hb hby d6_33) rfl rfl rfl ?_
  refine G.iloadN X6 hx (pc' := 35) (hb hby d6_34) rfl rfl ?_
  refine G.putF X6 hx hZ hown (hw _ (List.mem_of_getElem? (i := 45) rfl)) Via.refl e6 F6_r_at E6_r (Or.inl (hw _ (List.mem_of_getElem? (i := 46) rfl))) (hw _ (List.mem_of_getElem? (i := 17) rfl)) (ty := .int) (by decide) rfl rfl (pc' := 38) (hb hby d6_35) rfl fun T7 h7 X7 e7 W7 => ?_
  have F7_r_text := Fld.other W7 F6_r_text (Or.inr (slot_ne (Or.inr (hw _ (List.mem_of_getElem? (i := 36) rfl))) (Or.inl (hw _ (List.mem_of_getElem? (i := 46) rfl))) (by decide) (t := (.array .byte)) (t' := .int) (by decide) (by decide)))
  have F7_r_start := Fld.other W7 F6_r_start (Or.inr (slot_ne (Or.inr (hw _ (List.mem_of_getElem? (i := 38) rfl))) (Or.inl (hw _ (List.mem_of_getElem? (i := 46) rfl))) (by decide) (t := .int) (t' := .int) (by decide) (by decide)))
  have F7_r_end := Fld.other W7 F6_r_end (Or.inr (slot_ne (Or.inr (hw _ (List.mem_of_getElem? (i := 40) rfl))) (Or.inl (hw _ (List.mem_of_getElem? (i := 46) rfl))) (by decide) (t := .int) (t' := .int) (by decide) (by decide)))
  have F7_r_what := Fld.other W7 F6_r_what (Or.inr (slot_ne (Or.inr (hw _ (List.mem_of_getElem? (i := 42) rfl))) (Or.inl (hw _ (List.mem_of_getElem? (i := 46) rfl))) (by decide) (t := (.object "java/lang/String")) (t' := .int) (by decide) (by decide)))
  have F7_r_strings := Fld.other W7 F6_r_strings (Or.inr (slot_ne (Or.inr (hw _ (List.mem_of_getElem? (i := 44) rfl))) (Or.inl (hw _ (List.mem_of_getElem? (i := 46) rfl))) (by decide) (t := (.object "com/example/wary_offset/waryoffset/remoting/JsonText$Strings")) (t' := .int) (by decide) (by decide)))
  have E7_r := Exa.wr W7 E6_r
  have K7 := Kp.wr K6 W7 (Or.inl (List.mem_of_getElem? (i := 0) rfl))
  have F7_r_at := Fld.same W7 F6_r_at
  refine Goes.retV X7 hx hret hlk (hb hby d6_38) (by decide) (by decide) ⟨rfl, e7 ▸ K7, e7 ▸ F7_r_text, e7 ▸ F7_r_end, e7 ▸ F7_r_at⟩
set_option maxRecDepth 65536 in
set_option maxHeartbeats 40000000 in
theorem rm_init (l : Launch) (Z : State) (a0 : Array Value) (hw : ∀ d ∈ tables_1, d.before a0 Z = true) (r b st : Addr) (p2 p3 : Int32) (h0 : Heap) (Er : Exa Z h0 r "com/example/wary_offset/waryoffset/remoting/JsonText$Reader") (F_text : Fld Z h0 r "com/example/wary_offset/waryoffset/remoting/JsonText$Reader" "text" "[B" .null) (F_start : Fld Z h0 r "com/example/wary_offset/waryoffset/remoting/JsonText$Reader" "start" "I" (.int (0 : Int32))) (F_end : Fld Z h0 r "com/example/wary_offset/waryoffset/remoting/JsonText$Reader" "end" "I" (.int (0 : Int32))) (F_what : Fld Z h0 r "com/example/wary_offset/waryoffset/remoting/JsonText$Reader" "what" "Ljava/lang/String;" .null) (F_strings : Fld Z h0 r "com/example/wary_offset/waryoffset/remoting/JsonText$Reader" "strings" "Lcom/example/wary_offset/waryoffset/remoting/JsonText$Strings;" .null) (F_at : Fld Z h0 r "com/example/wary_offset/waryoffset/remoting/JsonText$Reader" "at" "I" (.int (0 : Int32))) :
    Con l (⟨"com/example/wary_offset/waryoffset/remoting/JsonText$Reader", "<init>", "([BIILjava/lang/String;)V"⟩ : MethodName) prog_25_method_1_code 5 none ({ frames := 2, cells := 0, slots := 0, locals := 29 } : Room) Z #[(.ref r), (.ref b), (.int p2), (.int p3), (.ref st)] h0 (fun v h L => v = none ∧ Kp h0 h [r] L ∧ Fld Z h r "com/example/wary_offset/waryoffset/remoting/JsonText$Reader" "text" "[B" (.ref b) ∧ Fld Z h r "com/example/wary_offset/waryoffset/remoting/JsonText$Reader" "end" "I" (.int (p2 + p3)) ∧ Fld Z h r "com/example/wary_offset/waryoffset/remoting/JsonText$Reader" "at" "I" (.int p2)) := by
  refine Con.of_body (plainFor_of_name pn_0) ?_
  intro p e s m below meth c T0 X0 hx hby hml hZ hown hnm hret hlk e0
  have hown : s.vm.findClass "com/example/wary_offset/waryoffset/remoting/JsonText$Reader" = some m.cls := hown
  have hml : c.maxLocals = 5 := hml
  refine Goes.cast (ef5_RRIIR m r b p2 p3 st) ?_
  have K0 := Kp.refl h0 [r]
  refine G.aloadN X0 hx (pc' := 1) (hb hby d5_0) rfl rfl rfl ?_
  refine G.aloadN X0 hx (pc' := 2) (hb hby d5_1) rfl rfl rfl ?_
  refine G.iloadN X0 hx (pc' := 3) (hb hby d5_2) rfl rfl ?_
  refine G.iloadN X0 hx (pc' := 4) (hb hby d5_3) rfl rfl ?_
  refine G.aload X0 hx (pc' := 6) (hb hby d5_4) rfl rfl rfl ?_
  refine G.aconstNull X0 hx (pc' := 7) (hb hby d5_6) rfl ?_
  refine G.callI X0 hx hZ (y := (⟨"com/example/wary_offset/waryoffset/remoting/JsonText$Reader", "<init>", "([BIILjava/lang/String;Lcom/example/wary_offset/waryoffset/remoting/JsonText$Strings;)V"⟩ : MethodName)) rfl hown (hw _ (List.mem_of_getElem? (i := 29) rfl)) (hw _ (List.mem_of_getElem? (i := 30) rfl)) (hw _ (List.mem_of_getElem? (i := 18) rfl)) (hw _ (List.mem_of_getElem? (i := 31) rfl)) (by decide) e0 (rm := ({ frames := 1, cells := 0, slots := 0, locals := 12 } : Room)) (argsL := [(.ref b), (.int p2), (.int p3), (.ref st), .null]) (S := []) (W := 0) (a := r) (rm_init2 l Z a0 hw r b st p2 p3 h0 Er F_text F_start F_end F_what F_strings F_at) (lenOf pd_2 rfl) rfl (Nat.le_of_eq rfl) (by decide) (by decide) (by decide) (by decide) (by rw [hml]; rfl) (hb hby d5_7) (pc' := 10) rfl ?_
  rintro T1 _ L1 ⟨rfl, Kq1, Ft1, Fe1, Fa1⟩ X1
  have E1_r := Exa.keep Er Kq1.1
  have K1 := Kp.call K0 Kq1 (allS (Or.inl (List.mem_of_getElem? (i := 0) rfl)) all0)
  show Goes p e below T1 (mkF m 10 #[.val (.ref r), .val (.ref b), .val (.int p2), .val (.int p3), .val (.ref st)] []) _
  refine Goes.retV X1 hx hret hlk (hb hby d5_10) (by decide) (by decide) ⟨rfl, K1, Ft1, Fe1, Fa1⟩
set_option maxRecDepth 65536 in
set_option maxHeartbeats 40000000 in
theorem rm_ws (l : Launch) (Z : State) (a0 : Array Value) (hw : ∀ d ∈ tables_1, d.before a0 Z = true) (p0 : Int32) (h0 : Heap)  :
    Con l (⟨"com/example/wary_offset/waryoffset/remoting/ReaderTakePinLaw", "ws", "(B)Z"⟩ : MethodName) method_2_code 1 (some .boolean) ({ frames := 0, cells := 0, slots := 0, locals := 0 } : Room) Z #[(.int p0)] h0 (Pur (some (.int (if isws p0 then (1 : Int32) else (0 : Int32)))) h0) := by
  refine Con.of_body (plainFor_of_name pn_3) ?_
  intro p e s m below meth c T0 X0 hx hby hml hZ hown hnm hret hlk e0
  have hown : s.vm.findClass "com/example/wary_offset/waryoffset/remoting/ReaderTakePinLaw" = some m.cls := hown
  have hml : c.maxLocals = 1 := hml
  refine Goes.cast (ef4_I m p0) ?_
  refine G.iloadN X0 hx (pc' := 1) (hb hby d4_0) rfl rfl ?_
  refine G.bipush X0 hx (pc' := 3) (hb hby d4_1) (z := (32 : Int32)) rfl rfl ?_
  by_cases c0 : p0 = (32 : Int32)
  · refine G.icmpT X0 hx (pc' := 24) (hb hby d4_3) (Jvm.Free.XT.ii_eq_t c0) (by decide) (by decide) ?_
    refine G.iconst X0 hx (pc' := 25) (hb hby d4_24) (z := (1 : Int32)) rfl rfl ?_
    refine G.goto X0 hx (pc' := 29) (hb hby d4_25) (by decide) (by decide) ?_
    refine Goes.retN X0 hx hret (by simp) hlk (hb hby d4_29) (by decide) (by decide) ⟨by rw [if_pos (show isws p0 from Or.inl c0)]; rfl, e0, rfl⟩
  · refine G.icmpF X0 hx (pc' := 6) (hb hby d4_3) (Jvm.Free.XT.ii_eq_f c0) rfl ?_
    refine G.iloadN X0 hx (pc' := 7) (hb hby d4_6) rfl rfl ?_
    refine G.bipush X0 hx (pc' := 9) (hb hby d4_7) (z := (9 : Int32)) rfl rfl ?_
    by_cases c1 : p0 = (9 : Int32)
    · refine G.icmpT X0 hx (pc' := 24) (hb hby d4_9) (Jvm.Free.XT.ii_eq_t c1) (by decide) (by decide) ?_
      refine G.iconst X0 hx (pc' := 25) (hb hby d4_24) (z := (1 : Int32)) rfl rfl ?_
      refine G.goto X0 hx (pc' := 29) (hb hby d4_25) (by decide) (by decide) ?_
      refine Goes.retN X0 hx hret (by simp) hlk (hb hby d4_29) (by decide) (by decide) ⟨by rw [if_pos (show isws p0 from Or.inr (Or.inl c1))]; rfl, e0, rfl⟩
    · refine G.icmpF X0 hx (pc' := 12) (hb hby d4_9) (Jvm.Free.XT.ii_eq_f c1) rfl ?_
      refine G.iloadN X0 hx (pc' := 13) (hb hby d4_12) rfl rfl ?_
      refine G.bipush X0 hx (pc' := 15) (hb hby d4_13) (z := (10 : Int32)) rfl rfl ?_
      by_cases c2 : p0 = (10 : Int32)
      · refine G.icmpT X0 hx (pc' := 24) (hb hby d4_15) (Jvm.Free.XT.ii_eq_t c2) (by decide) (by decide) ?_
        refine G.iconst X0 hx (pc' := 25) (hb hby d4_24) (z := (1 : Int32)) rfl rfl ?_
        refine G.goto X0 hx (pc' := 29) (hb hby d4_25) (by decide) (by decide) ?_
        refine Goes.retN X0 hx hret (by simp) hlk (hb hby d4_29) (by decide) (by decide) ⟨by rw [if_pos (show isws p0 from Or.inr (Or.inr (Or.inl c2)))]; rfl, e0, rfl⟩
      · refine G.icmpF X0 hx (pc' := 18) (hb hby d4_15) (Jvm.Free.XT.ii_eq_f c2) rfl ?_
        refine G.iloadN X0 hx (pc' := 19) (hb hby d4_18) rfl rfl ?_
        refine G.bipush X0 hx (pc' := 21) (hb hby d4_19) (z := (13 : Int32)) rfl rfl ?_
        by_cases c3 : p0 = (13 : Int32)
        · refine G.icmpF X0 hx (pc' := 24) (hb hby d4_21) (Jvm.Free.XT.ii_ne_f c3) rfl ?_
          refine G.iconst X0 hx (pc' := 25) (hb hby d4_24) (z := (1 : Int32)) rfl rfl ?_
          refine G.goto X0 hx (pc' := 29) (hb hby d4_25) (by decide) (by decide) ?_
          refine Goes.retN X0 hx hret (by simp) hlk (hb hby d4_29) (by decide) (by decide) ⟨by rw [if_pos (show isws p0 from Or.inr (Or.inr (Or.inr c3)))]; rfl, e0, rfl⟩
        · refine G.icmpT X0 hx (pc' := 28) (hb hby d4_21) (Jvm.Free.XT.ii_ne_t c3) (by decide) (by decide) ?_
          refine G.iconst X0 hx (pc' := 29) (hb hby d4_28) (z := (0 : Int32)) rfl rfl ?_
          refine Goes.retN X0 hx hret (by simp) hlk (hb hby d4_29) (by decide) (by decide) ⟨by rw [if_neg (fun q : isws p0 => q.elim c0 (fun q => q.elim c1 (fun q => q.elim c2 c3)))]; rfl, e0, rfl⟩
set_option maxRecDepth 65536 in
set_option maxHeartbeats 40000000 in
theorem rm_pick (l : Launch) (Z : State) (a0 : Array Value) (hw : ∀ d ∈ tables_1, d.before a0 Z = true) (q0 : Int64) (h0 : Heap)  :
    Con l (⟨"com/example/wary_offset/waryoffset/remoting/ReaderTakePinLaw", "pick", "(J)B"⟩ : MethodName) method_4_code 4 (some .byte) ({ frames := 0, cells := 0, slots := 0, locals := 0 } : Room) Z #[(.long q0)] h0 (Pur (some (.int (pk q0))) h0) := by
  refine Con.of_body (plainFor_of_name pn_3) ?_
  intro p e s m below meth c T0 X0 hx hby hml hZ hown hnm hret hlk e0
  have hown : s.vm.findClass "com/example/wary_offset/waryoffset/remoting/ReaderTakePinLaw" = some m.cls := hown
  have hml : c.maxLocals = 4 := hml
  refine Goes.cast (ef1_J m q0) ?_
  refine G.lloadN X0 hx (pc' := 1) (hb hby d1_0) rfl rfl ?_
  refine G.ldcLong X0 hx hZ hown (hw _ (List.mem_of_getElem? (i := 5) rfl)) (pc' := 4) (hb hby d1_1) rfl ?_
  refine G.land X0 hx (pc' := 5) (hb hby d1_4) rfl ?_
  refine G.l2i X0 hx (pc' := 6) (hb hby d1_5) rfl ?_
  refine G.istoreN X0 hx (pc' := 7) (hb hby d1_6) (L' := #[.val (.long q0), .second, .val (.int ((q0 &&& (7 : Int64)).toInt32)), .unset]) rfl rfl ?_
  refine G.lloadN X0 hx (pc' := 8) (hb hby d1_7) rfl rfl ?_
  refine G.iconst X0 hx (pc' := 9) (hb hby d1_8) (z := (3 : Int32)) rfl rfl ?_
  refine G.lushr X0 hx (pc' := 10) (hb hby d1_9) rfl ?_
  refine G.ldcLong X0 hx hZ hown (hw _ (List.mem_of_getElem? (i := 6) rfl)) (pc' := 13) (hb hby d1_10) rfl ?_
  refine G.land X0 hx (pc' := 14) (hb hby d1_13) rfl ?_
  refine G.l2i X0 hx (pc' := 15) (hb hby d1_14) rfl ?_
  refine G.istoreN X0 hx (pc' := 16) (hb hby d1_15) (L' := #[.val (.long q0), .second, .val (.int ((q0 &&& (7 : Int64)).toInt32)), .val (.int (((Jvm.Free.XT.ushrL q0 (3 : Int32)) &&& (255 : Int64)).toInt32))]) rfl rfl ?_
  refine G.iloadN X0 hx (pc' := 17) (hb hby d1_16) rfl rfl ?_
  by_cases c0 : ((q0 &&& (7 : Int64)).toInt32) = (0 : Int32)
  · refine G.ifF X0 hx (pc' := 20) (hb hby d1_17) (Jvm.Free.XT.i0_ne_f c0) rfl ?_
    refine G.bipush X0 hx (pc' := 22) (hb hby d1_20) (z := (32 : Int32)) rfl rfl ?_
    refine Goes.retN X0 hx hret (by simp) hlk (hb hby d1_22) (by decide) (by decide) ⟨by rw [pk, if_pos c0]; rfl, e0, rfl⟩
  · refine G.ifT X0 hx (pc' := 23) (hb hby d1_17) (Jvm.Free.XT.i0_ne_t c0) (by decide) (by decide) ?_
    refine G.iloadN X0 hx (pc' := 24) (hb hby d1_23) rfl rfl ?_
    refine G.iconst X0 hx (pc' := 25) (hb hby d1_24) (z := (1 : Int32)) rfl rfl ?_
    by_cases c1 : ((q0 &&& (7 : Int64)).toInt32) = (1 : Int32)
    · refine G.icmpF X0 hx (pc' := 28) (hb hby d1_25) (Jvm.Free.XT.ii_ne_f c1) rfl ?_
      refine G.bipush X0 hx (pc' := 30) (hb hby d1_28) (z := (9 : Int32)) rfl rfl ?_
      refine Goes.retN X0 hx hret (by simp) hlk (hb hby d1_30) (by decide) (by decide) ⟨by rw [pk, if_neg c0, if_pos c1]; rfl, e0, rfl⟩
    · refine G.icmpT X0 hx (pc' := 31) (hb hby d1_25) (Jvm.Free.XT.ii_ne_t c1) (by decide) (by decide) ?_
      refine G.iloadN X0 hx (pc' := 32) (hb hby d1_31) rfl rfl ?_
      refine G.iconst X0 hx (pc' := 33) (hb hby d1_32) (z := (2 : Int32)) rfl rfl ?_
      by_cases c2 : ((q0 &&& (7 : Int64)).toInt32) = (2 : Int32)
      · refine G.icmpF X0 hx (pc' := 36) (hb hby d1_33) (Jvm.Free.XT.ii_ne_f c2) rfl ?_
        refine G.bipush X0 hx (pc' := 38) (hb hby d1_36) (z := (10 : Int32)) rfl rfl ?_
        refine Goes.retN X0 hx hret (by simp) hlk (hb hby d1_38) (by decide) (by decide) ⟨by rw [pk, if_neg c0, if_neg c1, if_pos c2]; rfl, e0, rfl⟩
      · refine G.icmpT X0 hx (pc' := 39) (hb hby d1_33) (Jvm.Free.XT.ii_ne_t c2) (by decide) (by decide) ?_
        refine G.iloadN X0 hx (pc' := 40) (hb hby d1_39) rfl rfl ?_
        refine G.iconst X0 hx (pc' := 41) (hb hby d1_40) (z := (3 : Int32)) rfl rfl ?_
        by_cases c3 : ((q0 &&& (7 : Int64)).toInt32) = (3 : Int32)
        · refine G.icmpF X0 hx (pc' := 44) (hb hby d1_41) (Jvm.Free.XT.ii_ne_f c3) rfl ?_
          refine G.bipush X0 hx (pc' := 46) (hb hby d1_44) (z := (13 : Int32)) rfl rfl ?_
          refine Goes.retN X0 hx hret (by simp) hlk (hb hby d1_46) (by decide) (by decide) ⟨by rw [pk, if_neg c0, if_neg c1, if_neg c2, if_pos c3]; rfl, e0, rfl⟩
        · refine G.icmpT X0 hx (pc' := 47) (hb hby d1_41) (Jvm.Free.XT.ii_ne_t c3) (by decide) (by decide) ?_
          refine G.iloadN X0 hx (pc' := 48) (hb hby d1_47) rfl rfl ?_
          refine G.i2b X0 hx (pc' := 49) (hb hby d1_48) rfl ?_
          refine Goes.retN X0 hx hret (by simp) hlk (hb hby d1_49) (by decide) (by decide) ⟨by rw [pk, if_neg c0, if_neg c1, if_neg c2, if_neg c3], e0, rfl⟩
set_option maxRecDepth 65536 in
set_option maxHeartbeats 40000000 in
theorem rm_tok (l : Launch) (Z : State) (a0 : Array Value) (hw : ∀ d ∈ tables_1, d.before a0 Z = true) (p0 : Int32) (b : Addr) (xs : List Int32) (h0 : Heap) (A0 : Seq Z h0 b .byte (xs.map Value.int)) (hx5 : xs.length = 5) :
    Con l (⟨"com/example/wary_offset/waryoffset/remoting/ReaderTakePinLaw", "tok", "(I[B)C"⟩ : MethodName) method_5_code 3 (some .char) ({ frames := 0, cells := 0, slots := 0, locals := 0 } : Room) Z #[(.int p0), (.ref b)] h0 (Pur (some (.int (tokf p0 xs))) h0) := by
  refine Con.of_body (plainFor_of_name pn_3) ?_
  intro p e s m below meth c T0 X0 hx hby hml hZ hown hnm hret hlk e0
  have hown : s.vm.findClass "com/example/wary_offset/waryoffset/remoting/ReaderTakePinLaw" = some m.cls := hown
  have hml : c.maxLocals = 3 := hml
  refine Goes.cast (ef2_IR m p0 b) ?_
  refine G.iloadN X0 hx (pc' := 1) (hb hby d2_0) rfl rfl ?_
  refine G.bipush X0 hx (pc' := 3) (hb hby d2_1) (z := (16 : Int32)) rfl rfl ?_
  refine G.iushr X0 hx (pc' := 4) (hb hby d2_3) rfl ?_
  refine G.bipush X0 hx (pc' := 6) (hb hby d2_4) (z := (7 : Int32)) rfl rfl ?_
  refine G.iand X0 hx (pc' := 7) (hb hby d2_6) rfl ?_
  refine G.istoreN X0 hx (pc' := 8) (hb hby d2_7) (L' := #[.val (.int p0), .val (.ref b), .val (.int ((Jvm.Free.XT.ushr p0 (16 : Int32)) &&& (7 : Int32)))]) rfl rfl ?_
  refine G.iloadN X0 hx (pc' := 9) (hb hby d2_8) rfl rfl ?_
  refine G.iconst X0 hx (pc' := 10) (hb hby d2_9) (z := (5 : Int32)) rfl rfl ?_
  by_cases c1 : ((Jvm.Free.XT.ushr p0 (16 : Int32)) &&& (7 : Int32)) < (5 : Int32)
  · refine G.icmpF X0 hx (pc' := 13) (hb hby d2_10) (Jvm.Free.XT.ii_ge_f c1) rfl ?_
    refine G.aloadN X0 hx (pc' := 14) (hb hby d2_13) rfl rfl rfl ?_
    refine G.iloadN X0 hx (pc' := 15) (hb hby d2_14) rfl rfl ?_
    have hs := own_sel p0
    refine G.baload X0 hx hZ e0 A0 (pc' := 16) (v := (.int (xs.getD ((Jvm.Free.XT.ushr p0 (16 : Int32)) &&& (7 : Int32)).toNatClampNeg 0))) (hb hby d2_15) hs.1 (by have := hs.2 c1; rw [List.getElem?_map, List.getD_eq_getElem?_getD, List.getElem?_eq_getElem (by omega)]; rfl) rfl ?_
    refine G.sipush X0 hx (pc' := 19) (hb hby d2_16) (z := (255 : Int32)) rfl rfl ?_
    refine G.iand X0 hx (pc' := 20) (hb hby d2_19) rfl ?_
    refine G.i2c X0 hx (pc' := 21) (hb hby d2_20) rfl ?_
    refine Goes.retN X0 hx hret (by simp) hlk (hb hby d2_21) (by decide) (by decide) ⟨by rw [tokf, if_pos c1], e0, rfl⟩
  · refine G.icmpT X0 hx (pc' := 22) (hb hby d2_10) (Jvm.Free.XT.ii_ge_t c1) (by decide) (by decide) ?_
    refine G.iloadN X0 hx (pc' := 23) (hb hby d2_22) rfl rfl ?_
    refine G.ldcInt X0 hx hZ hown (hw _ (List.mem_of_getElem? (i := 56) rfl)) (pc' := 25) (hb hby d2_23) rfl ?_
    refine G.iand X0 hx (pc' := 26) (hb hby d2_25) rfl ?_
    refine G.i2c X0 hx (pc' := 27) (hb hby d2_26) rfl ?_
    refine Goes.retN X0 hx hret (by simp) hlk (hb hby d2_27) (by decide) (by decide) ⟨by rw [tokf, if_neg c1], e0, rfl⟩
set_option maxRecDepth 65536 in
set_option maxHeartbeats 40000000 in
theorem rm_skip (l : Launch) (Z : State) (a0 : Array Value) (hw : ∀ d ∈ tables_1, d.before a0 Z = true) (b : Addr) (i ee : Nat) (xs : List Int32) (h0 : Heap) (A0 : Seq Z h0 b .byte (xs.map Value.int)) (hie : i ≤ ee) (hel : ee ≤ xs.length) (hxl : xs.length < 1000) :
    Con l (⟨"com/example/wary_offset/waryoffset/remoting/ReaderTakePinLaw", "skip", "([BII)I"⟩ : MethodName) method_3_code 4 (some .int) ({ frames := 1, cells := 0, slots := 0, locals := 12 } : Room) Z #[(.ref b), (.int (Int32.ofNat i)), (.int (Int32.ofNat ee))] h0 (Pur (some (.int (Int32.ofNat (sk5 xs ee i)))) h0) := by
  refine Con.of_body (plainFor_of_name pn_3) ?_
  intro p e s m below meth c T0 X0 hx hby hml hZ hown hnm hret hlk e0
  have hown : s.vm.findClass "com/example/wary_offset/waryoffset/remoting/ReaderTakePinLaw" = some m.cls := hown
  have hml : c.maxLocals = 4 := hml
  refine Goes.cast (ef3_RII m b (Int32.ofNat i) (Int32.ofNat ee)) ?_
  refine G.iloadN X0 hx (pc' := 1) (hb hby d3_0) rfl rfl ?_
  refine G.istoreN X0 hx (pc' := 2) (hb hby d3_1) (L' := #[.val (.ref b), .val (.int (Int32.ofNat i)), .val (.int (Int32.ofNat ee)), .val (.int (Int32.ofNat i))]) rfl rfl ?_
  show Goes p e below T0 (mkF m 2 #[.val (.ref b), .val (.int (Int32.ofNat i)), .val (.int (Int32.ofNat ee)), .val (.int (Int32.ofNat (sk xs ee 0 i)))] []) _
  refine Goes.toT (f' := (mkF m 19 #[.val (.ref b), .val (.int (Int32.ofNat i)), .val (.int (Int32.ofNat ee)), .val (.int (Int32.ofNat (sk xs ee 1 i)))] [])) (fun T' => Stand p l e ({ frames := 1, cells := 0, slots := 0, locals := 12 } : Room) s m #[(.ref b), (.int (Int32.ofNat i)), (.int (Int32.ofNat ee))] below meth c T' [] 0 0 ∧ T'.heap = h0) (fun hk => ?_) ?_
  · have hle := sk_le (xs := xs) 0 i hie
    rw [sk_one] at hk
    generalize sk xs ee 0 i = j at hk hle ⊢
    refine G.iloadN X0 hx (pc' := 3) (hb hby d3_2) rfl rfl ?_
    refine G.iloadN X0 hx (pc' := 4) (hb hby d3_3) rfl rfl ?_
    by_cases hlt : j < ee
    · refine G.icmpF X0 hx (pc' := 7) (hb hby d3_4) (Jvm.Free.XT.ii_ge_f ((nat_lt (by omega) (by omega)).mpr hlt)) rfl ?_
      refine G.aloadN X0 hx (pc' := 8) (hb hby d3_7) rfl rfl rfl ?_
      refine G.iloadN X0 hx (pc' := 9) (hb hby d3_8) rfl rfl ?_
      refine G.baload X0 hx hZ e0 A0 (pc' := 10) (v := (.int (xs.getD j 0))) (hb hby d3_9) (nat_nn (by omega)) (at_map (by omega) hxl) rfl ?_
      refine G.callS X0 hx hZ (y := (⟨"com/example/wary_offset/waryoffset/remoting/ReaderTakePinLaw", "ws", "(B)Z"⟩ : MethodName)) hown (hw _ (List.mem_of_getElem? (i := 13) rfl)) (hw _ (List.mem_of_getElem? (i := 14) rfl)) (hw _ (List.mem_of_getElem? (i := 3) rfl)) (hw _ (List.mem_of_getElem? (i := 15) rfl)) (by decide) e0 (rm := ({ frames := 0, cells := 0, slots := 0, locals := 0 } : Room)) (argsL := [(.int (xs.getD j 0))]) (S := []) (W := 0) (rm_ws l Z a0 hw (xs.getD j 0) h0) (lenOf pd_4 rfl) rfl (Nat.le_of_eq rfl) (by decide) (by decide) (by decide) (by decide) (by rw [hml]; rfl) (hb hby d3_10) (pc' := 13) rfl ?_
      rintro T1 _ _ ⟨rfl, e1, rfl⟩ X1
      rw [List.append_nil] at X1
      show Goes p e below T1 (mkF m 13 #[.val (.ref b), .val (.int (Int32.ofNat i)), .val (.int (Int32.ofNat ee)), .val (.int (Int32.ofNat j))] [(.int (if isws (xs.getD j 0) then (1 : Int32) else (0 : Int32)))]) _
      by_cases hws : isws (xs.getD j 0)
      · rw [if_pos hws]
        refine G.ifF X1 hx (pc' := 16) (hb hby d3_13) (Jvm.Free.XT.i0_eq_f (by decide)) rfl ?_
        refine G.iinc X1 hx (pc' := 19) (hb hby d3_16) rfl (L' := #[.val (.ref b), .val (.int (Int32.ofNat i)), .val (.int (Int32.ofNat ee)), .val (.int ((Int32.ofNat j) + (1 : Int32)))]) rfl rfl ?_
        rw [if_pos ⟨hlt, hws⟩] at hk
        rw [nat_s]
        exact hk T1 ⟨X1, e1⟩
      · rw [if_neg hws]
        refine G.ifT X1 hx (pc' := 19) (hb hby d3_13) (Jvm.Free.XT.i0_eq_t rfl) (by decide) (by decide) ?_
        rw [if_neg (fun q => hws q.2)] at hk
        exact hk T1 ⟨X1, e1⟩
    · refine G.icmpT X0 hx (pc' := 19) (hb hby d3_4) (Jvm.Free.XT.ii_ge_t (fun q => hlt ((nat_lt (by omega) (by omega)).mp q))) (by decide) (by decide) ?_
      rw [if_neg (fun q => hlt q.1)] at hk
      exact hk T0 ⟨X0, e0⟩
  · rintro T0' ⟨X0', e0'⟩
    refine Goes.toT (f' := (mkF m 36 #[.val (.ref b), .val (.int (Int32.ofNat i)), .val (.int (Int32.ofNat ee)), .val (.int (Int32.ofNat (sk xs ee 2 i)))] [])) (fun T' => Stand p l e ({ frames := 1, cells := 0, slots := 0, locals := 12 } : Room) s m #[(.ref b), (.int (Int32.ofNat i)), (.int (Int32.ofNat ee))] below meth c T' [] 0 0 ∧ T'.heap = h0) (fun hk => ?_) ?_
    · have hle := sk_le (xs := xs) 1 i hie
      rw [sk_one] at hk
      generalize sk xs ee 1 i = j at hk hle ⊢
      refine G.iloadN X0' hx (pc' := 20) (hb hby d3_19) rfl rfl ?_
      refine G.iloadN X0' hx (pc' := 21) (hb hby d3_20) rfl rfl ?_
      by_cases hlt : j < ee
      · refine G.icmpF X0' hx (pc' := 24) (hb hby d3_21) (Jvm.Free.XT.ii_ge_f ((nat_lt (by omega) (by omega)).mpr hlt)) rfl ?_
        refine G.aloadN X0' hx (pc' := 25) (hb hby d3_24) rfl rfl rfl ?_
        refine G.iloadN X0' hx (pc' := 26) (hb hby d3_25) rfl rfl ?_
        refine G.baload X0' hx hZ e0' A0 (pc' := 27) (v := (.int (xs.getD j 0))) (hb hby d3_26) (nat_nn (by omega)) (at_map (by omega) hxl) rfl ?_
        refine G.callS X0' hx hZ (y := (⟨"com/example/wary_offset/waryoffset/remoting/ReaderTakePinLaw", "ws", "(B)Z"⟩ : MethodName)) hown (hw _ (List.mem_of_getElem? (i := 13) rfl)) (hw _ (List.mem_of_getElem? (i := 14) rfl)) (hw _ (List.mem_of_getElem? (i := 3) rfl)) (hw _ (List.mem_of_getElem? (i := 15) rfl)) (by decide) e0' (rm := ({ frames := 0, cells := 0, slots := 0, locals := 0 } : Room)) (argsL := [(.int (xs.getD j 0))]) (S := []) (W := 0) (rm_ws l Z a0 hw (xs.getD j 0) h0) (lenOf pd_4 rfl) rfl (Nat.le_of_eq rfl) (by decide) (by decide) (by decide) (by decide) (by rw [hml]; rfl) (hb hby d3_27) (pc' := 30) rfl ?_
        rintro T2 _ _ ⟨rfl, e2, rfl⟩ X2
        rw [List.append_nil] at X2
        show Goes p e below T2 (mkF m 30 #[.val (.ref b), .val (.int (Int32.ofNat i)), .val (.int (Int32.ofNat ee)), .val (.int (Int32.ofNat j))] [(.int (if isws (xs.getD j 0) then (1 : Int32) else (0 : Int32)))]) _
        by_cases hws : isws (xs.getD j 0)
        · rw [if_pos hws]
          refine G.ifF X2 hx (pc' := 33) (hb hby d3_30) (Jvm.Free.XT.i0_eq_f (by decide)) rfl ?_
          refine G.iinc X2 hx (pc' := 36) (hb hby d3_33) rfl (L' := #[.val (.ref b), .val (.int (Int32.ofNat i)), .val (.int (Int32.ofNat ee)), .val (.int ((Int32.ofNat j) + (1 : Int32)))]) rfl rfl ?_
          rw [if_pos ⟨hlt, hws⟩] at hk
          rw [nat_s]
          exact hk T2 ⟨X2, e2⟩
        · rw [if_neg hws]
          refine G.ifT X2 hx (pc' := 36) (hb hby d3_30) (Jvm.Free.XT.i0_eq_t rfl) (by decide) (by decide) ?_
          rw [if_neg (fun q => hws q.2)] at hk
          exact hk T2 ⟨X2, e2⟩
      · refine G.icmpT X0' hx (pc' := 36) (hb hby d3_21) (Jvm.Free.XT.ii_ge_t (fun q => hlt ((nat_lt (by omega) (by omega)).mp q))) (by decide) (by decide) ?_
        rw [if_neg (fun q => hlt q.1)] at hk
        exact hk T0' ⟨X0', e0'⟩
    · rintro T1' ⟨X1', e1'⟩
      refine Goes.toT (f' := (mkF m 53 #[.val (.ref b), .val (.int (Int32.ofNat i)), .val (.int (Int32.ofNat ee)), .val (.int (Int32.ofNat (sk xs ee 3 i)))] [])) (fun T' => Stand p l e ({ frames := 1, cells := 0, slots := 0, locals := 12 } : Room) s m #[(.ref b), (.int (Int32.ofNat i)), (.int (Int32.ofNat ee))] below meth c T' [] 0 0 ∧ T'.heap = h0) (fun hk => ?_) ?_
      · have hle := sk_le (xs := xs) 2 i hie
        rw [sk_one] at hk
        generalize sk xs ee 2 i = j at hk hle ⊢
        refine G.iloadN X1' hx (pc' := 37) (hb hby d3_36) rfl rfl ?_
        refine G.iloadN X1' hx (pc' := 38) (hb hby d3_37) rfl rfl ?_
        by_cases hlt : j < ee
        · refine G.icmpF X1' hx (pc' := 41) (hb hby d3_38) (Jvm.Free.XT.ii_ge_f ((nat_lt (by omega) (by omega)).mpr hlt)) rfl ?_
          refine G.aloadN X1' hx (pc' := 42) (hb hby d3_41) rfl rfl rfl ?_
          refine G.iloadN X1' hx (pc' := 43) (hb hby d3_42) rfl rfl ?_
          refine G.baload X1' hx hZ e1' A0 (pc' := 44) (v := (.int (xs.getD j 0))) (hb hby d3_43) (nat_nn (by omega)) (at_map (by omega) hxl) rfl ?_
          refine G.callS X1' hx hZ (y := (⟨"com/example/wary_offset/waryoffset/remoting/ReaderTakePinLaw", "ws", "(B)Z"⟩ : MethodName)) hown (hw _ (List.mem_of_getElem? (i := 13) rfl)) (hw _ (List.mem_of_getElem? (i := 14) rfl)) (hw _ (List.mem_of_getElem? (i := 3) rfl)) (hw _ (List.mem_of_getElem? (i := 15) rfl)) (by decide) e1' (rm := ({ frames := 0, cells := 0, slots := 0, locals := 0 } : Room)) (argsL := [(.int (xs.getD j 0))]) (S := []) (W := 0) (rm_ws l Z a0 hw (xs.getD j 0) h0) (lenOf pd_4 rfl) rfl (Nat.le_of_eq rfl) (by decide) (by decide) (by decide) (by decide) (by rw [hml]; rfl) (hb hby d3_44) (pc' := 47) rfl ?_
          rintro T3 _ _ ⟨rfl, e3, rfl⟩ X3
          rw [List.append_nil] at X3
          show Goes p e below T3 (mkF m 47 #[.val (.ref b), .val (.int (Int32.ofNat i)), .val (.int (Int32.ofNat ee)), .val (.int (Int32.ofNat j))] [(.int (if isws (xs.getD j 0) then (1 : Int32) else (0 : Int32)))]) _
          by_cases hws : isws (xs.getD j 0)
          · rw [if_pos hws]
            refine G.ifF X3 hx (pc' := 50) (hb hby d3_47) (Jvm.Free.XT.i0_eq_f (by decide)) rfl ?_
            refine G.iinc X3 hx (pc' := 53) (hb hby d3_50) rfl (L' := #[.val (.ref b), .val (.int (Int32.ofNat i)), .val (.int (Int32.ofNat ee)), .val (.int ((Int32.ofNat j) + (1 : Int32)))]) rfl rfl ?_
            rw [if_pos ⟨hlt, hws⟩] at hk
            rw [nat_s]
            exact hk T3 ⟨X3, e3⟩
          · rw [if_neg hws]
            refine G.ifT X3 hx (pc' := 53) (hb hby d3_47) (Jvm.Free.XT.i0_eq_t rfl) (by decide) (by decide) ?_
            rw [if_neg (fun q => hws q.2)] at hk
            exact hk T3 ⟨X3, e3⟩
        · refine G.icmpT X1' hx (pc' := 53) (hb hby d3_38) (Jvm.Free.XT.ii_ge_t (fun q => hlt ((nat_lt (by omega) (by omega)).mp q))) (by decide) (by decide) ?_
          rw [if_neg (fun q => hlt q.1)] at hk
          exact hk T1' ⟨X1', e1'⟩
      · rintro T2' ⟨X2', e2'⟩
        refine Goes.toT (f' := (mkF m 70 #[.val (.ref b), .val (.int (Int32.ofNat i)), .val (.int (Int32.ofNat ee)), .val (.int (Int32.ofNat (sk xs ee 4 i)))] [])) (fun T' => Stand p l e ({ frames := 1, cells := 0, slots := 0, locals := 12 } : Room) s m #[(.ref b), (.int (Int32.ofNat i)), (.int (Int32.ofNat ee))] below meth c T' [] 0 0 ∧ T'.heap = h0) (fun hk => ?_) ?_
        · have hle := sk_le (xs := xs) 3 i hie
          rw [sk_one] at hk
          generalize sk xs ee 3 i = j at hk hle ⊢
          refine G.iloadN X2' hx (pc' := 54) (hb hby d3_53) rfl rfl ?_
          refine G.iloadN X2' hx (pc' := 55) (hb hby d3_54) rfl rfl ?_
          by_cases hlt : j < ee
          · refine G.icmpF X2' hx (pc' := 58) (hb hby d3_55) (Jvm.Free.XT.ii_ge_f ((nat_lt (by omega) (by omega)).mpr hlt)) rfl ?_
            refine G.aloadN X2' hx (pc' := 59) (hb hby d3_58) rfl rfl rfl ?_
            refine G.iloadN X2' hx (pc' := 60) (hb hby d3_59) rfl rfl ?_
            refine G.baload X2' hx hZ e2' A0 (pc' := 61) (v := (.int (xs.getD j 0))) (hb hby d3_60) (nat_nn (by omega)) (at_map (by omega) hxl) rfl ?_
            refine G.callS X2' hx hZ (y := (⟨"com/example/wary_offset/waryoffset/remoting/ReaderTakePinLaw", "ws", "(B)Z"⟩ : MethodName)) hown (hw _ (List.mem_of_getElem? (i := 13) rfl)) (hw _ (List.mem_of_getElem? (i := 14) rfl)) (hw _ (List.mem_of_getElem? (i := 3) rfl)) (hw _ (List.mem_of_getElem? (i := 15) rfl)) (by decide) e2' (rm := ({ frames := 0, cells := 0, slots := 0, locals := 0 } : Room)) (argsL := [(.int (xs.getD j 0))]) (S := []) (W := 0) (rm_ws l Z a0 hw (xs.getD j 0) h0) (lenOf pd_4 rfl) rfl (Nat.le_of_eq rfl) (by decide) (by decide) (by decide) (by decide) (by rw [hml]; rfl) (hb hby d3_61) (pc' := 64) rfl ?_
            rintro T4 _ _ ⟨rfl, e4, rfl⟩ X4
            rw [List.append_nil] at X4
            show Goes p e below T4 (mkF m 64 #[.val (.ref b), .val (.int (Int32.ofNat i)), .val (.int (Int32.ofNat ee)), .val (.int (Int32.ofNat j))] [(.int (if isws (xs.getD j 0) then (1 : Int32) else (0 : Int32)))]) _
            by_cases hws : isws (xs.getD j 0)
            · rw [if_pos hws]
              refine G.ifF X4 hx (pc' := 67) (hb hby d3_64) (Jvm.Free.XT.i0_eq_f (by decide)) rfl ?_
              refine G.iinc X4 hx (pc' := 70) (hb hby d3_67) rfl (L' := #[.val (.ref b), .val (.int (Int32.ofNat i)), .val (.int (Int32.ofNat ee)), .val (.int ((Int32.ofNat j) + (1 : Int32)))]) rfl rfl ?_
              rw [if_pos ⟨hlt, hws⟩] at hk
              rw [nat_s]
              exact hk T4 ⟨X4, e4⟩
            · rw [if_neg hws]
              refine G.ifT X4 hx (pc' := 70) (hb hby d3_64) (Jvm.Free.XT.i0_eq_t rfl) (by decide) (by decide) ?_
              rw [if_neg (fun q => hws q.2)] at hk
              exact hk T4 ⟨X4, e4⟩
          · refine G.icmpT X2' hx (pc' := 70) (hb hby d3_55) (Jvm.Free.XT.ii_ge_t (fun q => hlt ((nat_lt (by omega) (by omega)).mp q))) (by decide) (by decide) ?_
            rw [if_neg (fun q => hlt q.1)] at hk
            exact hk T2' ⟨X2', e2'⟩
        · rintro T3' ⟨X3', e3'⟩
          refine Goes.toT (f' := (mkF m 87 #[.val (.ref b), .val (.int (Int32.ofNat i)), .val (.int (Int32.ofNat ee)), .val (.int (Int32.ofNat (sk xs ee 5 i)))] [])) (fun T' => Stand p l e ({ frames := 1, cells := 0, slots := 0, locals := 12 } : Room) s m #[(.ref b), (.int (Int32.ofNat i)), (.int (Int32.ofNat ee))] below meth c T' [] 0 0 ∧ T'.heap = h0) (fun hk => ?_) ?_
          · have hle := sk_le (xs := xs) 4 i hie
            rw [sk_one] at hk
            generalize sk xs ee 4 i = j at hk hle ⊢
            refine G.iloadN X3' hx (pc' := 71) (hb hby d3_70) rfl rfl ?_
            refine G.iloadN X3' hx (pc' := 72) (hb hby d3_71) rfl rfl ?_
            by_cases hlt : j < ee
            · refine G.icmpF X3' hx (pc' := 75) (hb hby d3_72) (Jvm.Free.XT.ii_ge_f ((nat_lt (by omega) (by omega)).mpr hlt)) rfl ?_
              refine G.aloadN X3' hx (pc' := 76) (hb hby d3_75) rfl rfl rfl ?_
              refine G.iloadN X3' hx (pc' := 77) (hb hby d3_76) rfl rfl ?_
              refine G.baload X3' hx hZ e3' A0 (pc' := 78) (v := (.int (xs.getD j 0))) (hb hby d3_77) (nat_nn (by omega)) (at_map (by omega) hxl) rfl ?_
              refine G.callS X3' hx hZ (y := (⟨"com/example/wary_offset/waryoffset/remoting/ReaderTakePinLaw", "ws", "(B)Z"⟩ : MethodName)) hown (hw _ (List.mem_of_getElem? (i := 13) rfl)) (hw _ (List.mem_of_getElem? (i := 14) rfl)) (hw _ (List.mem_of_getElem? (i := 3) rfl)) (hw _ (List.mem_of_getElem? (i := 15) rfl)) (by decide) e3' (rm := ({ frames := 0, cells := 0, slots := 0, locals := 0 } : Room)) (argsL := [(.int (xs.getD j 0))]) (S := []) (W := 0) (rm_ws l Z a0 hw (xs.getD j 0) h0) (lenOf pd_4 rfl) rfl (Nat.le_of_eq rfl) (by decide) (by decide) (by decide) (by decide) (by rw [hml]; rfl) (hb hby d3_78) (pc' := 81) rfl ?_
              rintro T5 _ _ ⟨rfl, e5, rfl⟩ X5
              rw [List.append_nil] at X5
              show Goes p e below T5 (mkF m 81 #[.val (.ref b), .val (.int (Int32.ofNat i)), .val (.int (Int32.ofNat ee)), .val (.int (Int32.ofNat j))] [(.int (if isws (xs.getD j 0) then (1 : Int32) else (0 : Int32)))]) _
              by_cases hws : isws (xs.getD j 0)
              · rw [if_pos hws]
                refine G.ifF X5 hx (pc' := 84) (hb hby d3_81) (Jvm.Free.XT.i0_eq_f (by decide)) rfl ?_
                refine G.iinc X5 hx (pc' := 87) (hb hby d3_84) rfl (L' := #[.val (.ref b), .val (.int (Int32.ofNat i)), .val (.int (Int32.ofNat ee)), .val (.int ((Int32.ofNat j) + (1 : Int32)))]) rfl rfl ?_
                rw [if_pos ⟨hlt, hws⟩] at hk
                rw [nat_s]
                exact hk T5 ⟨X5, e5⟩
              · rw [if_neg hws]
                refine G.ifT X5 hx (pc' := 87) (hb hby d3_81) (Jvm.Free.XT.i0_eq_t rfl) (by decide) (by decide) ?_
                rw [if_neg (fun q => hws q.2)] at hk
                exact hk T5 ⟨X5, e5⟩
            · refine G.icmpT X3' hx (pc' := 87) (hb hby d3_72) (Jvm.Free.XT.ii_ge_t (fun q => hlt ((nat_lt (by omega) (by omega)).mp q))) (by decide) (by decide) ?_
              rw [if_neg (fun q => hlt q.1)] at hk
              exact hk T3' ⟨X3', e3'⟩
          · rintro T4' ⟨X4', e4'⟩
            refine G.iloadN X4' hx (pc' := 88) (hb hby d3_87) rfl rfl ?_
            refine Goes.retI X4' hx hret hlk (hb hby d3_88) (by decide) (by decide) ⟨rfl, e4', rfl⟩
set_option maxRecDepth 65536 in
set_option maxHeartbeats 40000000 in
theorem rm0 (l : Launch) (Z : State) (a0 : Array Value) (hw : ∀ d ∈ tables_1, d.before a0 Z = true) (q0 : Int64) (p1 p2 p3 p4 : Int32)  :
    ConW l x code maxLocals ret room_1 Z #[(.long q0), (.int p1), (.int p2), (.int p3), (.int p4)] (fun v _ L => v = some (.int 1) ∧ Fr Z.heap.size L) := by
  refine ConW.of_body (plainFor_of_name pn_3) ?_
  intro p e m below meth c T0 X0 hx hby hml hZ hown hnm hret hlk e0
  have hown : (Z.setVm Z.vm).vm.findClass "com/example/wary_offset/waryoffset/remoting/ReaderTakePinLaw" = some m.cls := hown
  have hml : c.maxLocals = 22 := hml
  refine Goes.cast (ef0_JIIII m q0 p1 p2 p3 p4) ?_
  have hS0 := since0 Z
  have hk0 : 0 ≤ Z.heap.size := Nat.zero_le _
  have I0 : IB Z Z.vm [] := IB.start
  have K0 := Kp.refl Z.heap []
  have hwS : ∀ c ∈ Bundle.stringAtoms, c.before a0 Z = true := fun c hc => hw c (by simpa using (List.all_eq_true.mp (by decide +kernel : (Bundle.stringAtoms.all fun c => tables_1.contains c) = true)) c hc)
  refine G.iconst X0 hx (pc' := 1) (hb hby at_0) (z := (5 : Int32)) rfl rfl ?_
  refine G.newP X0 hx hZ (hw _ (List.mem_of_getElem? (i := 0) rfl)) e0 (hb hby at_1) (by decide) (n := 5) (cap := 5) rfl (by decide) (by decide) (by decide) (by decide) (pc' := 3) rfl fun T1 h1 b g1 X1 e1 Ex1 A1 => ?_
  have sz_b : Z.heap.size ≤ b := Nat.le_trans K0.size (Nat.le_of_eq g1.symm)
  have K1 := Kp.ext K0 Ex1
  have hk1 := Nat.le_trans hk0 Ex1.1
  have A1_b : Seq Z h1 b .byte [(.int (0 : Int32)), (.int (0 : Int32)), (.int (0 : Int32)), (.int (0 : Int32)), (.int (0 : Int32))] := A1
  refine G.astore X1 hx (pc' := 5) (hb hby at_3) rfl (L' := #[.val (.long q0), .second, .val (.int p1), .val (.int p2), .val (.int p3), .val (.int p4), .val (.ref b), .unset, .unset, .unset, .unset, .unset, .unset, .unset, .unset, .unset, .unset, .unset, .unset, .unset, .unset, .unset]) rfl rfl ?_
  refine G.aload X1 hx (pc' := 7) (hb hby at_5) rfl rfl rfl ?_
  refine G.iconst X1 hx (pc' := 8) (hb hby at_7) (z := (0 : Int32)) rfl rfl ?_
  refine G.lloadN X1 hx (pc' := 9) (hb hby at_8) rfl rfl ?_
  refine G.callS X1 hx hZ (y := (⟨"com/example/wary_offset/waryoffset/remoting/ReaderTakePinLaw", "pick", "(J)B"⟩ : MethodName)) hown (hw _ (List.mem_of_getElem? (i := 1) rfl)) (hw _ (List.mem_of_getElem? (i := 2) rfl)) (hw _ (List.mem_of_getElem? (i := 3) rfl)) (hw _ (List.mem_of_getElem? (i := 4) rfl)) (by decide) e1 (rm := ({ frames := 0, cells := 0, slots := 0, locals := 0 } : Room)) (argsL := [(.long q0)]) (S := [(.int (0 : Int32)), (.ref b)]) (W := 2) (rm_pick l Z a0 hw q0 h1) (lenOf pd_5 rfl) rfl (Nat.le_of_eq rfl) (by decide) (by decide) (by decide) (by decide) (by rw [hml]; rfl) (hb hby at_9) (pc' := 12) rfl ?_
  rintro T2 _ _ ⟨rfl, e2, rfl⟩ X2
  rw [List.append_nil] at X2
  show Goes p e below T2 (mkF m 12 #[.val (.long q0), .second, .val (.int p1), .val (.int p2), .val (.int p3), .val (.int p4), .val (.ref b), .unset, .unset, .unset, .unset, .unset, .unset, .unset, .unset, .unset, .unset, .unset, .unset, .unset, .unset, .unset] [(.int (pk q0)), (.int (0 : Int32)), (.ref b)]) _
  refine G.bastore X2 hx hZ e2 A1_b (pc' := 13) (hb hby at_12) (by decide) (Nat.le_of_ble_eq_true rfl) rfl fun T3 h3 X3 e3 W3 A3 => ?_
  have K3 := Kp.wr K1 W3 (Or.inr sz_b)
  have hk3 := Nat.le_trans hk1 (Keep.of_wr W3).1
  have A3_b : Seq Z h3 b .byte [(.int (nar .byte (pk q0))), (.int (0 : Int32)), (.int (0 : Int32)), (.int (0 : Int32)), (.int (0 : Int32))] := A3
  refine G.aload X3 hx (pc' := 15) (hb hby at_13) rfl rfl rfl ?_
  refine G.iconst X3 hx (pc' := 16) (hb hby at_15) (z := (1 : Int32)) rfl rfl ?_
  refine G.lloadN X3 hx (pc' := 17) (hb hby at_16) rfl rfl ?_
  refine G.bipush X3 hx (pc' := 19) (hb hby at_17) (z := (12 : Int32)) rfl rfl ?_
  refine G.lushr X3 hx (pc' := 20) (hb hby at_19) rfl ?_
  refine G.callS X3 hx hZ (y := (⟨"com/example/wary_offset/waryoffset/remoting/ReaderTakePinLaw", "pick", "(J)B"⟩ : MethodName)) hown (hw _ (List.mem_of_getElem? (i := 1) rfl)) (hw _ (List.mem_of_getElem? (i := 2) rfl)) (hw _ (List.mem_of_getElem? (i := 3) rfl)) (hw _ (List.mem_of_getElem? (i := 4) rfl)) (by decide) e3 (rm := ({ frames := 0, cells := 0, slots := 0, locals := 0 } : Room)) (argsL := [(.long (Jvm.Free.XT.ushrL q0 (12 : Int32)))]) (S := [(.int (1 : Int32)), (.ref b)]) (W := 2) (rm_pick l Z a0 hw (Jvm.Free.XT.ushrL q0 (12 : Int32)) h3) (lenOf pd_5 rfl) rfl (Nat.le_of_eq rfl) (by decide) (by decide) (by decide) (by decide) (by rw [hml]; rfl) (hb hby at_20) (pc' := 23) rfl ?_
  rintro T4 _ _ ⟨rfl, e4, rfl⟩ X4
  rw [List.append_nil] at X4
  show Goes p e below T4 (mkF m 23 #[.val (.long q0), .second, .val (.int p1), .val (.int p2), .val (.int p3), .val (.int p4), .val (.ref b), .unset, .unset, .unset, .unset, .unset, .unset, .unset, .unset, .unset, .unset, .unset, .unset, .unset, .unset, .unset] [(.int (pk (Jvm.Free.XT.ushrL q0 (12 : Int32)))), (.int (1 : Int32)), (.ref b)]) _
  refine G.bastore X4 hx hZ e4 A3_b (pc' := 24) (hb hby at_23) (by decide) (Nat.le_of_ble_eq_true rfl) rfl fun T5 h5 X5 e5 W5 A5 => ?_
  have K5 := Kp.wr K3 W5 (Or.inr sz_b)
  have hk5 := Nat.le_trans hk3 (Keep.of_wr W5).1
  have A5_b : Seq Z h5 b .byte [(.int (nar .byte (pk q0))), (.int (nar .byte (pk (Jvm.Free.XT.ushrL q0 (12 : Int32))))), (.int (0 : Int32)), (.int (0 : Int32)), (.int (0 : Int32))] := A5
  refine G.aload X5 hx (pc' := 26) (hb hby at_24) rfl rfl rfl ?_
  refine G.iconst X5 hx (pc' := 27) (hb hby at_26) (z := (2 : Int32)) rfl rfl ?_
  refine G.lloadN X5 hx (pc' := 28) (hb hby at_27) rfl rfl ?_
  refine G.bipush X5 hx (pc' := 30) (hb hby at_28) (z := (24 : Int32)) rfl rfl ?_
  refine G.lushr X5 hx (pc' := 31) (hb hby at_30) rfl ?_
  refine G.callS X5 hx hZ (y := (⟨"com/example/wary_offset/waryoffset/remoting/ReaderTakePinLaw", "pick", "(J)B"⟩ : MethodName)) hown (hw _ (List.mem_of_getElem? (i := 1) rfl)) (hw _ (List.mem_of_getElem? (i := 2) rfl)) (hw _ (List.mem_of_getElem? (i := 3) rfl)) (hw _ (List.mem_of_getElem? (i := 4) rfl)) (by decide) e5 (rm := ({ frames := 0, cells := 0, slots := 0, locals := 0 } : Room)) (argsL := [(.long (Jvm.Free.XT.ushrL q0 (24 : Int32)))]) (S := [(.int (2 : Int32)), (.ref b)]) (W := 2) (rm_pick l Z a0 hw (Jvm.Free.XT.ushrL q0 (24 : Int32)) h5) (lenOf pd_5 rfl) rfl (Nat.le_of_eq rfl) (by decide) (by decide) (by decide) (by decide) (by rw [hml]; rfl) (hb hby at_31) (pc' := 34) rfl ?_
  rintro T6 _ _ ⟨rfl, e6, rfl⟩ X6
  rw [List.append_nil] at X6
  show Goes p e below T6 (mkF m 34 #[.val (.long q0), .second, .val (.int p1), .val (.int p2), .val (.int p3), .val (.int p4), .val (.ref b), .unset, .unset, .unset, .unset, .unset, .unset, .unset, .unset, .unset, .unset, .unset, .unset, .unset, .unset, .unset] [(.int (pk (Jvm.Free.XT.ushrL q0 (24 : Int32)))), (.int (2 : Int32)), (.ref b)]) _
  refine G.bastore X6 hx hZ e6 A5_b (pc' := 35) (hb hby at_34) (by decide) (Nat.le_of_ble_eq_true rfl) rfl fun T7 h7 X7 e7 W7 A7 => ?_
  have K7 := Kp.wr K5 W7 (Or.inr sz_b)
  have hk7 := Nat.le_trans hk5 (Keep.of_wr W7).1
  have A7_b : Seq Z h7 b .byte [(.int (nar .byte (pk q0))), (.int (nar .byte (pk (Jvm.Free.XT.ushrL q0 (12 : Int32))))), (.int (nar .byte (pk (Jvm.Free.XT.ushrL q0 (24 : Int32))))), (.int (0 : Int32)), (.int (0 : Int32))] := A7
  refine G.aload X7 hx (pc' := 37) (hb hby at_35) rfl rfl rfl ?_
  refine G.iconst X7 hx (pc' := 38) (hb hby at_37) (z := (3 : Int32)) rfl rfl ?_
  refine G.lloadN X7 hx (pc' := 39) (hb hby at_38) rfl rfl ?_
  refine G.bipush X7 hx (pc' := 41) (hb hby at_39) (z := (36 : Int32)) rfl rfl ?_
  refine G.lushr X7 hx (pc' := 42) (hb hby at_41) rfl ?_
  refine G.callS X7 hx hZ (y := (⟨"com/example/wary_offset/waryoffset/remoting/ReaderTakePinLaw", "pick", "(J)B"⟩ : MethodName)) hown (hw _ (List.mem_of_getElem? (i := 1) rfl)) (hw _ (List.mem_of_getElem? (i := 2) rfl)) (hw _ (List.mem_of_getElem? (i := 3) rfl)) (hw _ (List.mem_of_getElem? (i := 4) rfl)) (by decide) e7 (rm := ({ frames := 0, cells := 0, slots := 0, locals := 0 } : Room)) (argsL := [(.long (Jvm.Free.XT.ushrL q0 (36 : Int32)))]) (S := [(.int (3 : Int32)), (.ref b)]) (W := 2) (rm_pick l Z a0 hw (Jvm.Free.XT.ushrL q0 (36 : Int32)) h7) (lenOf pd_5 rfl) rfl (Nat.le_of_eq rfl) (by decide) (by decide) (by decide) (by decide) (by rw [hml]; rfl) (hb hby at_42) (pc' := 45) rfl ?_
  rintro T8 _ _ ⟨rfl, e8, rfl⟩ X8
  rw [List.append_nil] at X8
  show Goes p e below T8 (mkF m 45 #[.val (.long q0), .second, .val (.int p1), .val (.int p2), .val (.int p3), .val (.int p4), .val (.ref b), .unset, .unset, .unset, .unset, .unset, .unset, .unset, .unset, .unset, .unset, .unset, .unset, .unset, .unset, .unset] [(.int (pk (Jvm.Free.XT.ushrL q0 (36 : Int32)))), (.int (3 : Int32)), (.ref b)]) _
  refine G.bastore X8 hx hZ e8 A7_b (pc' := 46) (hb hby at_45) (by decide) (Nat.le_of_ble_eq_true rfl) rfl fun T9 h9 X9 e9 W9 A9 => ?_
  have K9 := Kp.wr K7 W9 (Or.inr sz_b)
  have hk9 := Nat.le_trans hk7 (Keep.of_wr W9).1
  have A9_b : Seq Z h9 b .byte [(.int (nar .byte (pk q0))), (.int (nar .byte (pk (Jvm.Free.XT.ushrL q0 (12 : Int32))))), (.int (nar .byte (pk (Jvm.Free.XT.ushrL q0 (24 : Int32))))), (.int (nar .byte (pk (Jvm.Free.XT.ushrL q0 (36 : Int32))))), (.int (0 : Int32))] := A9
  refine G.aload X9 hx (pc' := 48) (hb hby at_46) rfl rfl rfl ?_
  refine G.iconst X9 hx (pc' := 49) (hb hby at_48) (z := (4 : Int32)) rfl rfl ?_
  refine G.lloadN X9 hx (pc' := 50) (hb hby at_49) rfl rfl ?_
  refine G.bipush X9 hx (pc' := 52) (hb hby at_50) (z := (48 : Int32)) rfl rfl ?_
  refine G.lushr X9 hx (pc' := 53) (hb hby at_52) rfl ?_
  refine G.callS X9 hx hZ (y := (⟨"com/example/wary_offset/waryoffset/remoting/ReaderTakePinLaw", "pick", "(J)B"⟩ : MethodName)) hown (hw _ (List.mem_of_getElem? (i := 1) rfl)) (hw _ (List.mem_of_getElem? (i := 2) rfl)) (hw _ (List.mem_of_getElem? (i := 3) rfl)) (hw _ (List.mem_of_getElem? (i := 4) rfl)) (by decide) e9 (rm := ({ frames := 0, cells := 0, slots := 0, locals := 0 } : Room)) (argsL := [(.long (Jvm.Free.XT.ushrL q0 (48 : Int32)))]) (S := [(.int (4 : Int32)), (.ref b)]) (W := 2) (rm_pick l Z a0 hw (Jvm.Free.XT.ushrL q0 (48 : Int32)) h9) (lenOf pd_5 rfl) rfl (Nat.le_of_eq rfl) (by decide) (by decide) (by decide) (by decide) (by rw [hml]; rfl) (hb hby at_53) (pc' := 56) rfl ?_
  rintro T10 _ _ ⟨rfl, e10, rfl⟩ X10
  rw [List.append_nil] at X10
  show Goes p e below T10 (mkF m 56 #[.val (.long q0), .second, .val (.int p1), .val (.int p2), .val (.int p3), .val (.int p4), .val (.ref b), .unset, .unset, .unset, .unset, .unset, .unset, .unset, .unset, .unset, .unset, .unset, .unset, .unset, .unset, .unset] [(.int (pk (Jvm.Free.XT.ushrL q0 (48 : Int32)))), (.int (4 : Int32)), (.ref b)]) _
  refine G.bastore X10 hx hZ e10 A9_b (pc' := 57) (hb hby at_56) (by decide) (Nat.le_of_ble_eq_true rfl) rfl fun T11 h11 X11 e11 W11 A11 => ?_
  have K11 := Kp.wr K9 W11 (Or.inr sz_b)
  have hk11 := Nat.le_trans hk9 (Keep.of_wr W11).1
  have A11_b : Seq Z h11 b .byte [(.int (nar .byte (pk q0))), (.int (nar .byte (pk (Jvm.Free.XT.ushrL q0 (12 : Int32))))), (.int (nar .byte (pk (Jvm.Free.XT.ushrL q0 (24 : Int32))))), (.int (nar .byte (pk (Jvm.Free.XT.ushrL q0 (36 : Int32))))), (.int (nar .byte (pk (Jvm.Free.XT.ushrL q0 (48 : Int32)))))] := A11
  generalize (nar .byte (pk q0)) = y0 at A11_b
  generalize (nar .byte (pk (Jvm.Free.XT.ushrL q0 (12 : Int32)))) = y1 at A11_b
  generalize (nar .byte (pk (Jvm.Free.XT.ushrL q0 (24 : Int32)))) = y2 at A11_b
  generalize (nar .byte (pk (Jvm.Free.XT.ushrL q0 (36 : Int32)))) = y3 at A11_b
  generalize (nar .byte (pk (Jvm.Free.XT.ushrL q0 (48 : Int32)))) = y4 at A11_b
  have A0' : Seq Z h11 b .byte (([y0, y1, y2, y3, y4] : List Int32).map Value.int) := A11_b
  obtain ⟨xs, hxs⟩ : ∃ z, z = ([y0, y1, y2, y3, y4] : List Int32) := ⟨_, rfl⟩
  rw [← hxs] at A0'
  have hx5 : xs.length = 5 := by rw [hxs]; rfl
  obtain ⟨o, ee, hoe, he5, ho, he, hnz⟩ := own_off p1
  refine G.iloadN X11 hx (pc' := 58) (hb hby at_57) rfl rfl ?_
  refine G.iconst X11 hx (pc' := 59) (hb hby at_58) (z := (1 : Int32)) rfl rfl ?_
  refine G.iand X11 hx (pc' := 60) (hb hby at_59) rfl ?_
  refine G.istore X11 hx (pc' := 62) (hb hby at_60) (L' := #[.val (.long q0), .second, .val (.int p1), .val (.int p2), .val (.int p3), .val (.int p4), .val (.ref b), .val (.int (p1 &&& (1 : Int32))), .unset, .unset, .unset, .unset, .unset, .unset, .unset, .unset, .unset, .unset, .unset, .unset, .unset, .unset]) rfl rfl ?_
  refine G.iloadN X11 hx (pc' := 63) (hb hby at_62) rfl rfl ?_
  refine G.iconst X11 hx (pc' := 64) (hb hby at_63) (z := (1 : Int32)) rfl rfl ?_
  refine G.iushr X11 hx (pc' := 65) (hb hby at_64) rfl ?_
  refine G.bipush X11 hx (pc' := 67) (hb hby at_65) (z := (7 : Int32)) rfl rfl ?_
  refine G.iand X11 hx (pc' := 68) (hb hby at_67) rfl ?_
  refine G.bipush X11 hx (pc' := 70) (hb hby at_68) (z := (6 : Int32)) rfl rfl ?_
  refine G.iload X11 hx (pc' := 72) (hb hby at_70) rfl rfl ?_
  refine G.isub X11 hx (pc' := 73) (hb hby at_72) rfl ?_
  refine G.irem X11 hx (pc' := 74) (hb hby at_73) hnz rfl ?_
  refine G.istore X11 hx (pc' := 76) (hb hby at_74) (L' := #[.val (.long q0), .second, .val (.int p1), .val (.int p2), .val (.int p3), .val (.int p4), .val (.ref b), .val (.int (p1 &&& (1 : Int32))), .val (.int (((Jvm.Free.XT.ushr p1 (1 : Int32)) &&& (7 : Int32)) % ((6 : Int32) - (p1 &&& (1 : Int32))))), .unset, .unset, .unset, .unset, .unset, .unset, .unset, .unset, .unset, .unset, .unset, .unset, .unset]) rfl rfl ?_
  refine G.iload X11 hx (pc' := 78) (hb hby at_76) rfl rfl ?_
  refine G.iload X11 hx (pc' := 80) (hb hby at_78) rfl rfl ?_
  refine G.iadd X11 hx (pc' := 81) (hb hby at_80) rfl ?_
  refine G.istore X11 hx (pc' := 83) (hb hby at_81) (L' := #[.val (.long q0), .second, .val (.int p1), .val (.int p2), .val (.int p3), .val (.int p4), .val (.ref b), .val (.int (p1 &&& (1 : Int32))), .val (.int (((Jvm.Free.XT.ushr p1 (1 : Int32)) &&& (7 : Int32)) % ((6 : Int32) - (p1 &&& (1 : Int32))))), .val (.int ((p1 &&& (1 : Int32)) + (((Jvm.Free.XT.ushr p1 (1 : Int32)) &&& (7 : Int32)) % ((6 : Int32) - (p1 &&& (1 : Int32)))))), .unset, .unset, .unset, .unset, .unset, .unset, .unset, .unset, .unset, .unset, .unset, .unset]) rfl rfl ?_
  generalize hvl : (((Jvm.Free.XT.ushr p1 (1 : Int32)) &&& (7 : Int32)) % ((6 : Int32) - (p1 &&& (1 : Int32)))) = vl at he ⊢
  rw [ho] at he ⊢
  rw [he]
  show Goes p e below T11 (mkF m 83 #[.val (.long q0), .second, .val (.int p1), .val (.int p2), .val (.int p3), .val (.int p4), .val (.ref b), .val (.int (Int32.ofNat o)), .val (.int vl), .val (.int (Int32.ofNat ee)), .unset, .unset, .unset, .unset, .unset, .unset, .unset, .unset, .unset, .unset, .unset, .unset] []) _
  refine G.iloadN X11 hx (pc' := 84) (hb hby at_83) rfl rfl ?_
  refine G.aload X11 hx (pc' := 86) (hb hby at_84) rfl rfl rfl ?_
  refine G.callS X11 hx hZ (y := (⟨"com/example/wary_offset/waryoffset/remoting/ReaderTakePinLaw", "tok", "(I[B)C"⟩ : MethodName)) hown (hw _ (List.mem_of_getElem? (i := 7) rfl)) (hw _ (List.mem_of_getElem? (i := 8) rfl)) (hw _ (List.mem_of_getElem? (i := 3) rfl)) (hw _ (List.mem_of_getElem? (i := 9) rfl)) (by decide) e11 (rm := ({ frames := 0, cells := 0, slots := 0, locals := 0 } : Room)) (argsL := [(.int p2), (.ref b)]) (S := []) (W := 0) (rm_tok l Z a0 hw p2 b xs h11 A0' hx5) (lenOf pd_6 rfl) rfl (Nat.le_of_eq rfl) (by decide) (by decide) (by decide) (by decide) (by rw [hml]; rfl) (hb hby at_86) (pc' := 89) rfl ?_
  rintro T12 _ _ ⟨rfl, e12, rfl⟩ X12
  rw [List.append_nil] at X12
  show Goes p e below T12 (mkF m 89 #[.val (.long q0), .second, .val (.int p1), .val (.int p2), .val (.int p3), .val (.int p4), .val (.ref b), .val (.int (Int32.ofNat o)), .val (.int vl), .val (.int (Int32.ofNat ee)), .unset, .unset, .unset, .unset, .unset, .unset, .unset, .unset, .unset, .unset, .unset, .unset] [(.int (tokf p2 xs))]) _
  have hc1 := own_tok p2 xs
  generalize tokf p2 xs = c1 at hc1 ⊢
  refine G.istore X12 hx (pc' := 91) (hb hby at_89) (L' := #[.val (.long q0), .second, .val (.int p1), .val (.int p2), .val (.int p3), .val (.int p4), .val (.ref b), .val (.int (Int32.ofNat o)), .val (.int vl), .val (.int (Int32.ofNat ee)), .val (.int c1), .unset, .unset, .unset, .unset, .unset, .unset, .unset, .unset, .unset, .unset, .unset]) rfl rfl ?_
  refine G.iload X12 hx (pc' := 93) (hb hby at_91) rfl rfl ?_
  refine G.aload X12 hx (pc' := 95) (hb hby at_93) rfl rfl rfl ?_
  refine G.callS X12 hx hZ (y := (⟨"com/example/wary_offset/waryoffset/remoting/ReaderTakePinLaw", "tok", "(I[B)C"⟩ : MethodName)) hown (hw _ (List.mem_of_getElem? (i := 7) rfl)) (hw _ (List.mem_of_getElem? (i := 8) rfl)) (hw _ (List.mem_of_getElem? (i := 3) rfl)) (hw _ (List.mem_of_getElem? (i := 9) rfl)) (by decide) e12 (rm := ({ frames := 0, cells := 0, slots := 0, locals := 0 } : Room)) (argsL := [(.int p3), (.ref b)]) (S := []) (W := 0) (rm_tok l Z a0 hw p3 b xs h11 A0' hx5) (lenOf pd_6 rfl) rfl (Nat.le_of_eq rfl) (by decide) (by decide) (by decide) (by decide) (by rw [hml]; rfl) (hb hby at_95) (pc' := 98) rfl ?_
  rintro T13 _ _ ⟨rfl, e13, rfl⟩ X13
  rw [List.append_nil] at X13
  show Goes p e below T13 (mkF m 98 #[.val (.long q0), .second, .val (.int p1), .val (.int p2), .val (.int p3), .val (.int p4), .val (.ref b), .val (.int (Int32.ofNat o)), .val (.int vl), .val (.int (Int32.ofNat ee)), .val (.int c1), .unset, .unset, .unset, .unset, .unset, .unset, .unset, .unset, .unset, .unset, .unset] [(.int (tokf p3 xs))]) _
  have hc2 := own_tok p3 xs
  generalize tokf p3 xs = c2 at hc2 ⊢
  refine G.istore X13 hx (pc' := 100) (hb hby at_98) (L' := #[.val (.long q0), .second, .val (.int p1), .val (.int p2), .val (.int p3), .val (.int p4), .val (.ref b), .val (.int (Int32.ofNat o)), .val (.int vl), .val (.int (Int32.ofNat ee)), .val (.int c1), .val (.int c2), .unset, .unset, .unset, .unset, .unset, .unset, .unset, .unset, .unset, .unset]) rfl rfl ?_
  refine G.iload X13 hx (pc' := 102) (hb hby at_100) rfl rfl ?_
  refine G.aload X13 hx (pc' := 104) (hb hby at_102) rfl rfl rfl ?_
  refine G.callS X13 hx hZ (y := (⟨"com/example/wary_offset/waryoffset/remoting/ReaderTakePinLaw", "tok", "(I[B)C"⟩ : MethodName)) hown (hw _ (List.mem_of_getElem? (i := 7) rfl)) (hw _ (List.mem_of_getElem? (i := 8) rfl)) (hw _ (List.mem_of_getElem? (i := 3) rfl)) (hw _ (List.mem_of_getElem? (i := 9) rfl)) (by decide) e13 (rm := ({ frames := 0, cells := 0, slots := 0, locals := 0 } : Room)) (argsL := [(.int p4), (.ref b)]) (S := []) (W := 0) (rm_tok l Z a0 hw p4 b xs h11 A0' hx5) (lenOf pd_6 rfl) rfl (Nat.le_of_eq rfl) (by decide) (by decide) (by decide) (by decide) (by rw [hml]; rfl) (hb hby at_104) (pc' := 107) rfl ?_
  rintro T14 _ _ ⟨rfl, e14, rfl⟩ X14
  rw [List.append_nil] at X14
  show Goes p e below T14 (mkF m 107 #[.val (.long q0), .second, .val (.int p1), .val (.int p2), .val (.int p3), .val (.int p4), .val (.ref b), .val (.int (Int32.ofNat o)), .val (.int vl), .val (.int (Int32.ofNat ee)), .val (.int c1), .val (.int c2), .unset, .unset, .unset, .unset, .unset, .unset, .unset, .unset, .unset, .unset] [(.int (tokf p4 xs))]) _
  have hc3 := own_tok p4 xs
  generalize tokf p4 xs = c3 at hc3 ⊢
  refine G.istore X14 hx (pc' := 109) (hb hby at_107) (L' := #[.val (.long q0), .second, .val (.int p1), .val (.int p2), .val (.int p3), .val (.int p4), .val (.ref b), .val (.int (Int32.ofNat o)), .val (.int vl), .val (.int (Int32.ofNat ee)), .val (.int c1), .val (.int c2), .val (.int c3), .unset, .unset, .unset, .unset, .unset, .unset, .unset, .unset, .unset]) rfl rfl ?_
  refine G.aload X14 hx (pc' := 111) (hb hby at_109) rfl rfl rfl ?_
  refine G.iload X14 hx (pc' := 113) (hb hby at_111) rfl rfl ?_
  refine G.iload X14 hx (pc' := 115) (hb hby at_113) rfl rfl ?_
  refine G.callS X14 hx hZ (y := (⟨"com/example/wary_offset/waryoffset/remoting/ReaderTakePinLaw", "skip", "([BII)I"⟩ : MethodName)) hown (hw _ (List.mem_of_getElem? (i := 10) rfl)) (hw _ (List.mem_of_getElem? (i := 11) rfl)) (hw _ (List.mem_of_getElem? (i := 3) rfl)) (hw _ (List.mem_of_getElem? (i := 12) rfl)) (by decide) e14 (rm := ({ frames := 1, cells := 0, slots := 0, locals := 12 } : Room)) (argsL := [(.ref b), (.int (Int32.ofNat o)), (.int (Int32.ofNat ee))]) (S := []) (W := 0) (rm_skip l Z a0 hw b o ee xs h11 A0' hoe (by omega) (by omega)) (lenOf pd_7 rfl) rfl (Nat.le_of_eq rfl) (by decide) (by decide) (by decide) (by decide) (by rw [hml]; rfl) (hb hby at_115) (pc' := 118) rfl ?_
  rintro T15 _ _ ⟨rfl, e15, rfl⟩ X15
  rw [List.append_nil] at X15
  show Goes p e below T15 (mkF m 118 #[.val (.long q0), .second, .val (.int p1), .val (.int p2), .val (.int p3), .val (.int p4), .val (.ref b), .val (.int (Int32.ofNat o)), .val (.int vl), .val (.int (Int32.ofNat ee)), .val (.int c1), .val (.int c2), .val (.int c3), .unset, .unset, .unset, .unset, .unset, .unset, .unset, .unset, .unset] [(.int (Int32.ofNat (sk xs ee 5 o)))]) _
  show Goes p e below T15 (mkF m 118 #[.val (.long q0), .second, .val (.int p1), .val (.int p2), .val (.int p3), .val (.int p4), .val (.ref b), .val (.int (Int32.ofNat o)), .val (.int vl), .val (.int (Int32.ofNat ee)), .val (.int c1), .val (.int c2), .val (.int c3), .unset, .unset, .unset, .unset, .unset, .unset, .unset, .unset, .unset] [(.int (Int32.ofNat (sk xs ee 5 o)))]) _
  have hP1 : sk xs ee 5 o = sk xs ee (ee - o) o := sk_more 5 o (by omega)
  have hL1 := (sk_le (xs := xs) 5 o hoe).2
  generalize hQ1 : sk xs ee 5 o = P1 at hP1 hL1 ⊢
  refine G.istore X15 hx (pc' := 120) (hb hby at_118) (L' := #[.val (.long q0), .second, .val (.int p1), .val (.int p2), .val (.int p3), .val (.int p4), .val (.ref b), .val (.int (Int32.ofNat o)), .val (.int vl), .val (.int (Int32.ofNat ee)), .val (.int c1), .val (.int c2), .val (.int c3), .val (.int (Int32.ofNat P1)), .unset, .unset, .unset, .unset, .unset, .unset, .unset, .unset]) rfl rfl ?_
  refine G.iload X15 hx (pc' := 122) (hb hby at_120) rfl rfl ?_
  refine G.iload X15 hx (pc' := 124) (hb hby at_122) rfl rfl ?_
  refine Goes.to (f' := (mkF m 146 #[.val (.long q0), .second, .val (.int p1), .val (.int p2), .val (.int p3), .val (.int p4), .val (.ref b), .val (.int (Int32.ofNat o)), .val (.int vl), .val (.int (Int32.ofNat ee)), .val (.int c1), .val (.int c2), .val (.int c3), .val (.int (Int32.ofNat P1)), .unset, .unset, .unset, .unset, .unset, .unset, .unset, .unset] [(.int (if nextv xs ee P1 = c1 then (1 : Int32) else (0 : Int32)))])) (fun hk => ?_) ?_
  · by_cases hlt : P1 < ee
    · refine G.icmpF X15 hx (pc' := 127) (hb hby at_124) (Jvm.Free.XT.ii_ge_f ((nat_lt (by omega) (by omega)).mpr hlt)) rfl ?_
      refine G.aload X15 hx (pc' := 129) (hb hby at_127) rfl rfl rfl ?_
      refine G.iload X15 hx (pc' := 131) (hb hby at_129) rfl rfl ?_
      refine G.baload X15 hx hZ e15 A0' (pc' := 132) (v := (.int (xs.getD P1 0))) (hb hby at_131) (nat_nn (by omega)) (at_map (by omega) (by omega)) rfl ?_
      refine G.sipush X15 hx (pc' := 135) (hb hby at_132) (z := (255 : Int32)) rfl rfl ?_
      refine G.iand X15 hx (pc' := 136) (hb hby at_135) rfl ?_
      refine G.iload X15 hx (pc' := 138) (hb hby at_136) rfl rfl ?_
      by_cases hq : ((xs.getD P1 0) &&& (255 : Int32)) = c1
      · refine G.icmpF X15 hx (pc' := 141) (hb hby at_138) (Jvm.Free.XT.ii_ne_f hq) rfl ?_
        refine G.iconst X15 hx (pc' := 142) (hb hby at_141) (z := (1 : Int32)) rfl rfl ?_
        refine G.goto X15 hx (pc' := 146) (hb hby at_142) (by decide) (by decide) ?_
        rw [show nextv xs ee P1 = ((xs.getD P1 0) &&& (255 : Int32)) from by rw [nextv, if_pos hlt], if_pos hq] at hk
        exact hk
      · refine G.icmpT X15 hx (pc' := 145) (hb hby at_138) (Jvm.Free.XT.ii_ne_t hq) (by decide) (by decide) ?_
        refine G.iconst X15 hx (pc' := 146) (hb hby at_145) (z := (0 : Int32)) rfl rfl ?_
        rw [show nextv xs ee P1 = ((xs.getD P1 0) &&& (255 : Int32)) from by rw [nextv, if_pos hlt], if_neg hq] at hk
        exact hk
    · refine G.icmpT X15 hx (pc' := 145) (hb hby at_124) (Jvm.Free.XT.ii_ge_t (fun q => hlt ((nat_lt (by omega) (by omega)).mp q))) (by decide) (by decide) ?_
      refine G.iconst X15 hx (pc' := 146) (hb hby at_145) (z := (0 : Int32)) rfl rfl ?_
      rw [show nextv xs ee P1 = (-1 : Int32) from by rw [nextv, if_neg hlt], if_neg hc1] at hk
      exact hk
  · refine G.istore X15 hx (pc' := 148) (hb hby at_146) (L' := #[.val (.long q0), .second, .val (.int p1), .val (.int p2), .val (.int p3), .val (.int p4), .val (.ref b), .val (.int (Int32.ofNat o)), .val (.int vl), .val (.int (Int32.ofNat ee)), .val (.int c1), .val (.int c2), .val (.int c3), .val (.int (Int32.ofNat P1)), .val (.int (if nextv xs ee P1 = c1 then (1 : Int32) else (0 : Int32))), .unset, .unset, .unset, .unset, .unset, .unset, .unset]) rfl rfl ?_
    refine G.iload X15 hx (pc' := 150) (hb hby at_148) rfl rfl ?_
    refine Goes.to (f' := (mkF m 162 #[.val (.long q0), .second, .val (.int p1), .val (.int p2), .val (.int p3), .val (.int p4), .val (.ref b), .val (.int (Int32.ofNat o)), .val (.int vl), .val (.int (Int32.ofNat ee)), .val (.int c1), .val (.int c2), .val (.int c3), .val (.int (Int32.ofNat P1)), .val (.int (if nextv xs ee P1 = c1 then (1 : Int32) else (0 : Int32))), .unset, .unset, .unset, .unset, .unset, .unset, .unset] [(.int (Int32.ofNat (if nextv xs ee P1 = c1 then P1 + 1 else P1)))])) (fun hk => ?_) ?_
    · by_cases hq : nextv xs ee P1 = c1
      · simp only [if_pos hq] at hk ⊢
        refine G.ifF X15 hx (pc' := 153) (hb hby at_150) (Jvm.Free.XT.i0_eq_f (by decide)) rfl ?_
        refine G.iload X15 hx (pc' := 155) (hb hby at_153) rfl rfl ?_
        refine G.iconst X15 hx (pc' := 156) (hb hby at_155) (z := (1 : Int32)) rfl rfl ?_
        refine G.iadd X15 hx (pc' := 157) (hb hby at_156) rfl ?_
        refine G.goto X15 hx (pc' := 162) (hb hby at_157) (by decide) (by decide) ?_
        rw [nat_s]
        exact hk
      · simp only [if_neg hq] at hk ⊢
        refine G.ifT X15 hx (pc' := 160) (hb hby at_150) (Jvm.Free.XT.i0_eq_t (by decide)) (by decide) (by decide) ?_
        refine G.iload X15 hx (pc' := 162) (hb hby at_160) rfl rfl ?_
        exact hk
    · have hA1 := own_nx (xs := xs) hL1 hc1
      obtain ⟨B1, hB1⟩ : ∃ z, z = (if nextv xs ee P1 = c1 then P1 + 1 else P1) := ⟨_, rfl⟩
      rw [← hB1] at hA1 ⊢
      show Goes p e below T15 (mkF m 162 #[.val (.long q0), .second, .val (.int p1), .val (.int p2), .val (.int p3), .val (.int p4), .val (.ref b), .val (.int (Int32.ofNat o)), .val (.int vl), .val (.int (Int32.ofNat ee)), .val (.int c1), .val (.int c2), .val (.int c3), .val (.int (Int32.ofNat P1)), .val (.int (if nextv xs ee P1 = c1 then (1 : Int32) else (0 : Int32))), .unset, .unset, .unset, .unset, .unset, .unset, .unset] [(.int (Int32.ofNat B1))]) _
      refine G.istore X15 hx (pc' := 164) (hb hby at_162) (L' := #[.val (.long q0), .second, .val (.int p1), .val (.int p2), .val (.int p3), .val (.int p4), .val (.ref b), .val (.int (Int32.ofNat o)), .val (.int vl), .val (.int (Int32.ofNat ee)), .val (.int c1), .val (.int c2), .val (.int c3), .val (.int (Int32.ofNat P1)), .val (.int (if nextv xs ee P1 = c1 then (1 : Int32) else (0 : Int32))), .val (.int (Int32.ofNat B1)), .unset, .unset, .unset, .unset, .unset, .unset]) rfl rfl ?_
      refine G.aload X15 hx (pc' := 166) (hb hby at_164) rfl rfl rfl ?_
      refine G.iload X15 hx (pc' := 168) (hb hby at_166) rfl rfl ?_
      refine G.iload X15 hx (pc' := 170) (hb hby at_168) rfl rfl ?_
      refine G.callS X15 hx hZ (y := (⟨"com/example/wary_offset/waryoffset/remoting/ReaderTakePinLaw", "skip", "([BII)I"⟩ : MethodName)) hown (hw _ (List.mem_of_getElem? (i := 10) rfl)) (hw _ (List.mem_of_getElem? (i := 11) rfl)) (hw _ (List.mem_of_getElem? (i := 3) rfl)) (hw _ (List.mem_of_getElem? (i := 12) rfl)) (by decide) e15 (rm := ({ frames := 1, cells := 0, slots := 0, locals := 12 } : Room)) (argsL := [(.ref b), (.int (Int32.ofNat B1)), (.int (Int32.ofNat ee))]) (S := []) (W := 0) (rm_skip l Z a0 hw b B1 ee xs h11 A0' hA1 (by omega) (by omega)) (lenOf pd_7 rfl) rfl (Nat.le_of_eq rfl) (by decide) (by decide) (by decide) (by decide) (by rw [hml]; rfl) (hb hby at_170) (pc' := 173) rfl ?_
      rintro T16 _ _ ⟨rfl, e16, rfl⟩ X16
      rw [List.append_nil] at X16
      show Goes p e below T16 (mkF m 173 #[.val (.long q0), .second, .val (.int p1), .val (.int p2), .val (.int p3), .val (.int p4), .val (.ref b), .val (.int (Int32.ofNat o)), .val (.int vl), .val (.int (Int32.ofNat ee)), .val (.int c1), .val (.int c2), .val (.int c3), .val (.int (Int32.ofNat P1)), .val (.int (if nextv xs ee P1 = c1 then (1 : Int32) else (0 : Int32))), .val (.int (Int32.ofNat B1)), .unset, .unset, .unset, .unset, .unset, .unset] [(.int (Int32.ofNat (sk xs ee 5 B1)))]) _
      show Goes p e below T16 (mkF m 173 #[.val (.long q0), .second, .val (.int p1), .val (.int p2), .val (.int p3), .val (.int p4), .val (.ref b), .val (.int (Int32.ofNat o)), .val (.int vl), .val (.int (Int32.ofNat ee)), .val (.int c1), .val (.int c2), .val (.int c3), .val (.int (Int32.ofNat P1)), .val (.int (if nextv xs ee P1 = c1 then (1 : Int32) else (0 : Int32))), .val (.int (Int32.ofNat B1)), .unset, .unset, .unset, .unset, .unset, .unset] [(.int (Int32.ofNat (sk xs ee 5 B1)))]) _
      have hP2 : sk xs ee 5 B1 = sk xs ee (ee - B1) B1 := sk_more 5 B1 (by omega)
      have hL2 := (sk_le (xs := xs) 5 B1 hA1).2
      generalize hQ2 : sk xs ee 5 B1 = P2 at hP2 hL2 ⊢
      refine G.istore X16 hx (pc' := 175) (hb hby at_173) (L' := #[.val (.long q0), .second, .val (.int p1), .val (.int p2), .val (.int p3), .val (.int p4), .val (.ref b), .val (.int (Int32.ofNat o)), .val (.int vl), .val (.int (Int32.ofNat ee)), .val (.int c1), .val (.int c2), .val (.int c3), .val (.int (Int32.ofNat P2)), .val (.int (if nextv xs ee P1 = c1 then (1 : Int32) else (0 : Int32))), .val (.int (Int32.ofNat B1)), .unset, .unset, .unset, .unset, .unset, .unset]) rfl rfl ?_
      refine G.iload X16 hx (pc' := 177) (hb hby at_175) rfl rfl ?_
      refine G.iload X16 hx (pc' := 179) (hb hby at_177) rfl rfl ?_
      refine Goes.to (f' := (mkF m 201 #[.val (.long q0), .second, .val (.int p1), .val (.int p2), .val (.int p3), .val (.int p4), .val (.ref b), .val (.int (Int32.ofNat o)), .val (.int vl), .val (.int (Int32.ofNat ee)), .val (.int c1), .val (.int c2), .val (.int c3), .val (.int (Int32.ofNat P2)), .val (.int (if nextv xs ee P1 = c1 then (1 : Int32) else (0 : Int32))), .val (.int (Int32.ofNat B1)), .unset, .unset, .unset, .unset, .unset, .unset] [(.int (if nextv xs ee P2 = c2 then (1 : Int32) else (0 : Int32)))])) (fun hk => ?_) ?_
      · by_cases hlt : P2 < ee
        · refine G.icmpF X16 hx (pc' := 182) (hb hby at_179) (Jvm.Free.XT.ii_ge_f ((nat_lt (by omega) (by omega)).mpr hlt)) rfl ?_
          refine G.aload X16 hx (pc' := 184) (hb hby at_182) rfl rfl rfl ?_
          refine G.iload X16 hx (pc' := 186) (hb hby at_184) rfl rfl ?_
          refine G.baload X16 hx hZ e16 A0' (pc' := 187) (v := (.int (xs.getD P2 0))) (hb hby at_186) (nat_nn (by omega)) (at_map (by omega) (by omega)) rfl ?_
          refine G.sipush X16 hx (pc' := 190) (hb hby at_187) (z := (255 : Int32)) rfl rfl ?_
          refine G.iand X16 hx (pc' := 191) (hb hby at_190) rfl ?_
          refine G.iload X16 hx (pc' := 193) (hb hby at_191) rfl rfl ?_
          by_cases hq : ((xs.getD P2 0) &&& (255 : Int32)) = c2
          · refine G.icmpF X16 hx (pc' := 196) (hb hby at_193) (Jvm.Free.XT.ii_ne_f hq) rfl ?_
            refine G.iconst X16 hx (pc' := 197) (hb hby at_196) (z := (1 : Int32)) rfl rfl ?_
            refine G.goto X16 hx (pc' := 201) (hb hby at_197) (by decide) (by decide) ?_
            rw [show nextv xs ee P2 = ((xs.getD P2 0) &&& (255 : Int32)) from by rw [nextv, if_pos hlt], if_pos hq] at hk
            exact hk
          · refine G.icmpT X16 hx (pc' := 200) (hb hby at_193) (Jvm.Free.XT.ii_ne_t hq) (by decide) (by decide) ?_
            refine G.iconst X16 hx (pc' := 201) (hb hby at_200) (z := (0 : Int32)) rfl rfl ?_
            rw [show nextv xs ee P2 = ((xs.getD P2 0) &&& (255 : Int32)) from by rw [nextv, if_pos hlt], if_neg hq] at hk
            exact hk
        · refine G.icmpT X16 hx (pc' := 200) (hb hby at_179) (Jvm.Free.XT.ii_ge_t (fun q => hlt ((nat_lt (by omega) (by omega)).mp q))) (by decide) (by decide) ?_
          refine G.iconst X16 hx (pc' := 201) (hb hby at_200) (z := (0 : Int32)) rfl rfl ?_
          rw [show nextv xs ee P2 = (-1 : Int32) from by rw [nextv, if_neg hlt], if_neg hc2] at hk
          exact hk
      · refine G.istore X16 hx (pc' := 203) (hb hby at_201) (L' := #[.val (.long q0), .second, .val (.int p1), .val (.int p2), .val (.int p3), .val (.int p4), .val (.ref b), .val (.int (Int32.ofNat o)), .val (.int vl), .val (.int (Int32.ofNat ee)), .val (.int c1), .val (.int c2), .val (.int c3), .val (.int (Int32.ofNat P2)), .val (.int (if nextv xs ee P1 = c1 then (1 : Int32) else (0 : Int32))), .val (.int (Int32.ofNat B1)), .val (.int (if nextv xs ee P2 = c2 then (1 : Int32) else (0 : Int32))), .unset, .unset, .unset, .unset, .unset]) rfl rfl ?_
        refine G.iload X16 hx (pc' := 205) (hb hby at_203) rfl rfl ?_
        refine Goes.to (f' := (mkF m 217 #[.val (.long q0), .second, .val (.int p1), .val (.int p2), .val (.int p3), .val (.int p4), .val (.ref b), .val (.int (Int32.ofNat o)), .val (.int vl), .val (.int (Int32.ofNat ee)), .val (.int c1), .val (.int c2), .val (.int c3), .val (.int (Int32.ofNat P2)), .val (.int (if nextv xs ee P1 = c1 then (1 : Int32) else (0 : Int32))), .val (.int (Int32.ofNat B1)), .val (.int (if nextv xs ee P2 = c2 then (1 : Int32) else (0 : Int32))), .unset, .unset, .unset, .unset, .unset] [(.int (Int32.ofNat (if nextv xs ee P2 = c2 then P2 + 1 else P2)))])) (fun hk => ?_) ?_
        · by_cases hq : nextv xs ee P2 = c2
          · simp only [if_pos hq] at hk ⊢
            refine G.ifF X16 hx (pc' := 208) (hb hby at_205) (Jvm.Free.XT.i0_eq_f (by decide)) rfl ?_
            refine G.iload X16 hx (pc' := 210) (hb hby at_208) rfl rfl ?_
            refine G.iconst X16 hx (pc' := 211) (hb hby at_210) (z := (1 : Int32)) rfl rfl ?_
            refine G.iadd X16 hx (pc' := 212) (hb hby at_211) rfl ?_
            refine G.goto X16 hx (pc' := 217) (hb hby at_212) (by decide) (by decide) ?_
            rw [nat_s]
            exact hk
          · simp only [if_neg hq] at hk ⊢
            refine G.ifT X16 hx (pc' := 215) (hb hby at_205) (Jvm.Free.XT.i0_eq_t (by decide)) (by decide) (by decide) ?_
            refine G.iload X16 hx (pc' := 217) (hb hby at_215) rfl rfl ?_
            exact hk
        · have hA2 := own_nx (xs := xs) hL2 hc2
          obtain ⟨B2, hB2⟩ : ∃ z, z = (if nextv xs ee P2 = c2 then P2 + 1 else P2) := ⟨_, rfl⟩
          rw [← hB2] at hA2 ⊢
          show Goes p e below T16 (mkF m 217 #[.val (.long q0), .second, .val (.int p1), .val (.int p2), .val (.int p3), .val (.int p4), .val (.ref b), .val (.int (Int32.ofNat o)), .val (.int vl), .val (.int (Int32.ofNat ee)), .val (.int c1), .val (.int c2), .val (.int c3), .val (.int (Int32.ofNat P2)), .val (.int (if nextv xs ee P1 = c1 then (1 : Int32) else (0 : Int32))), .val (.int (Int32.ofNat B1)), .val (.int (if nextv xs ee P2 = c2 then (1 : Int32) else (0 : Int32))), .unset, .unset, .unset, .unset, .unset] [(.int (Int32.ofNat B2))]) _
          refine G.istore X16 hx (pc' := 219) (hb hby at_217) (L' := #[.val (.long q0), .second, .val (.int p1), .val (.int p2), .val (.int p3), .val (.int p4), .val (.ref b), .val (.int (Int32.ofNat o)), .val (.int vl), .val (.int (Int32.ofNat ee)), .val (.int c1), .val (.int c2), .val (.int c3), .val (.int (Int32.ofNat P2)), .val (.int (if nextv xs ee P1 = c1 then (1 : Int32) else (0 : Int32))), .val (.int (Int32.ofNat B2)), .val (.int (if nextv xs ee P2 = c2 then (1 : Int32) else (0 : Int32))), .unset, .unset, .unset, .unset, .unset]) rfl rfl ?_
          refine G.aload X16 hx (pc' := 221) (hb hby at_219) rfl rfl rfl ?_
          refine G.iload X16 hx (pc' := 223) (hb hby at_221) rfl rfl ?_
          refine G.iload X16 hx (pc' := 225) (hb hby at_223) rfl rfl ?_
          refine G.callS X16 hx hZ (y := (⟨"com/example/wary_offset/waryoffset/remoting/ReaderTakePinLaw", "skip", "([BII)I"⟩ : MethodName)) hown (hw _ (List.mem_of_getElem? (i := 10) rfl)) (hw _ (List.mem_of_getElem? (i := 11) rfl)) (hw _ (List.mem_of_getElem? (i := 3) rfl)) (hw _ (List.mem_of_getElem? (i := 12) rfl)) (by decide) e16 (rm := ({ frames := 1, cells := 0, slots := 0, locals := 12 } : Room)) (argsL := [(.ref b), (.int (Int32.ofNat B2)), (.int (Int32.ofNat ee))]) (S := []) (W := 0) (rm_skip l Z a0 hw b B2 ee xs h11 A0' hA2 (by omega) (by omega)) (lenOf pd_7 rfl) rfl (Nat.le_of_eq rfl) (by decide) (by decide) (by decide) (by decide) (by rw [hml]; rfl) (hb hby at_225) (pc' := 228) rfl ?_
          rintro T17 _ _ ⟨rfl, e17, rfl⟩ X17
          rw [List.append_nil] at X17
          show Goes p e below T17 (mkF m 228 #[.val (.long q0), .second, .val (.int p1), .val (.int p2), .val (.int p3), .val (.int p4), .val (.ref b), .val (.int (Int32.ofNat o)), .val (.int vl), .val (.int (Int32.ofNat ee)), .val (.int c1), .val (.int c2), .val (.int c3), .val (.int (Int32.ofNat P2)), .val (.int (if nextv xs ee P1 = c1 then (1 : Int32) else (0 : Int32))), .val (.int (Int32.ofNat B2)), .val (.int (if nextv xs ee P2 = c2 then (1 : Int32) else (0 : Int32))), .unset, .unset, .unset, .unset, .unset] [(.int (Int32.ofNat (sk xs ee 5 B2)))]) _
          show Goes p e below T17 (mkF m 228 #[.val (.long q0), .second, .val (.int p1), .val (.int p2), .val (.int p3), .val (.int p4), .val (.ref b), .val (.int (Int32.ofNat o)), .val (.int vl), .val (.int (Int32.ofNat ee)), .val (.int c1), .val (.int c2), .val (.int c3), .val (.int (Int32.ofNat P2)), .val (.int (if nextv xs ee P1 = c1 then (1 : Int32) else (0 : Int32))), .val (.int (Int32.ofNat B2)), .val (.int (if nextv xs ee P2 = c2 then (1 : Int32) else (0 : Int32))), .unset, .unset, .unset, .unset, .unset] [(.int (Int32.ofNat (sk xs ee 5 B2)))]) _
          have hP3 : sk xs ee 5 B2 = sk xs ee (ee - B2) B2 := sk_more 5 B2 (by omega)
          have hL3 := (sk_le (xs := xs) 5 B2 hA2).2
          generalize hQ3 : sk xs ee 5 B2 = P3 at hP3 hL3 ⊢
          refine G.istore X17 hx (pc' := 230) (hb hby at_228) (L' := #[.val (.long q0), .second, .val (.int p1), .val (.int p2), .val (.int p3), .val (.int p4), .val (.ref b), .val (.int (Int32.ofNat o)), .val (.int vl), .val (.int (Int32.ofNat ee)), .val (.int c1), .val (.int c2), .val (.int c3), .val (.int (Int32.ofNat P3)), .val (.int (if nextv xs ee P1 = c1 then (1 : Int32) else (0 : Int32))), .val (.int (Int32.ofNat B2)), .val (.int (if nextv xs ee P2 = c2 then (1 : Int32) else (0 : Int32))), .unset, .unset, .unset, .unset, .unset]) rfl rfl ?_
          refine G.iload X17 hx (pc' := 232) (hb hby at_230) rfl rfl ?_
          refine G.iload X17 hx (pc' := 234) (hb hby at_232) rfl rfl ?_
          refine Goes.to (f' := (mkF m 256 #[.val (.long q0), .second, .val (.int p1), .val (.int p2), .val (.int p3), .val (.int p4), .val (.ref b), .val (.int (Int32.ofNat o)), .val (.int vl), .val (.int (Int32.ofNat ee)), .val (.int c1), .val (.int c2), .val (.int c3), .val (.int (Int32.ofNat P3)), .val (.int (if nextv xs ee P1 = c1 then (1 : Int32) else (0 : Int32))), .val (.int (Int32.ofNat B2)), .val (.int (if nextv xs ee P2 = c2 then (1 : Int32) else (0 : Int32))), .unset, .unset, .unset, .unset, .unset] [(.int (if nextv xs ee P3 = c3 then (1 : Int32) else (0 : Int32)))])) (fun hk => ?_) ?_
          · by_cases hlt : P3 < ee
            · refine G.icmpF X17 hx (pc' := 237) (hb hby at_234) (Jvm.Free.XT.ii_ge_f ((nat_lt (by omega) (by omega)).mpr hlt)) rfl ?_
              refine G.aload X17 hx (pc' := 239) (hb hby at_237) rfl rfl rfl ?_
              refine G.iload X17 hx (pc' := 241) (hb hby at_239) rfl rfl ?_
              refine G.baload X17 hx hZ e17 A0' (pc' := 242) (v := (.int (xs.getD P3 0))) (hb hby at_241) (nat_nn (by omega)) (at_map (by omega) (by omega)) rfl ?_
              refine G.sipush X17 hx (pc' := 245) (hb hby at_242) (z := (255 : Int32)) rfl rfl ?_
              refine G.iand X17 hx (pc' := 246) (hb hby at_245) rfl ?_
              refine G.iload X17 hx (pc' := 248) (hb hby at_246) rfl rfl ?_
              by_cases hq : ((xs.getD P3 0) &&& (255 : Int32)) = c3
              · refine G.icmpF X17 hx (pc' := 251) (hb hby at_248) (Jvm.Free.XT.ii_ne_f hq) rfl ?_
                refine G.iconst X17 hx (pc' := 252) (hb hby at_251) (z := (1 : Int32)) rfl rfl ?_
                refine G.goto X17 hx (pc' := 256) (hb hby at_252) (by decide) (by decide) ?_
                rw [show nextv xs ee P3 = ((xs.getD P3 0) &&& (255 : Int32)) from by rw [nextv, if_pos hlt], if_pos hq] at hk
                exact hk
              · refine G.icmpT X17 hx (pc' := 255) (hb hby at_248) (Jvm.Free.XT.ii_ne_t hq) (by decide) (by decide) ?_
                refine G.iconst X17 hx (pc' := 256) (hb hby at_255) (z := (0 : Int32)) rfl rfl ?_
                rw [show nextv xs ee P3 = ((xs.getD P3 0) &&& (255 : Int32)) from by rw [nextv, if_pos hlt], if_neg hq] at hk
                exact hk
            · refine G.icmpT X17 hx (pc' := 255) (hb hby at_234) (Jvm.Free.XT.ii_ge_t (fun q => hlt ((nat_lt (by omega) (by omega)).mp q))) (by decide) (by decide) ?_
              refine G.iconst X17 hx (pc' := 256) (hb hby at_255) (z := (0 : Int32)) rfl rfl ?_
              rw [show nextv xs ee P3 = (-1 : Int32) from by rw [nextv, if_neg hlt], if_neg hc3] at hk
              exact hk
          · refine G.istore X17 hx (pc' := 258) (hb hby at_256) (L' := #[.val (.long q0), .second, .val (.int p1), .val (.int p2), .val (.int p3), .val (.int p4), .val (.ref b), .val (.int (Int32.ofNat o)), .val (.int vl), .val (.int (Int32.ofNat ee)), .val (.int c1), .val (.int c2), .val (.int c3), .val (.int (Int32.ofNat P3)), .val (.int (if nextv xs ee P1 = c1 then (1 : Int32) else (0 : Int32))), .val (.int (Int32.ofNat B2)), .val (.int (if nextv xs ee P2 = c2 then (1 : Int32) else (0 : Int32))), .val (.int (if nextv xs ee P3 = c3 then (1 : Int32) else (0 : Int32))), .unset, .unset, .unset, .unset]) rfl rfl ?_
            refine G.newO X17 hx hZ hown (hw _ (List.mem_of_getElem? (i := 16) rfl)) (hw _ (List.mem_of_getElem? (i := 17) rfl)) (hw _ (List.mem_of_getElem? (i := 18) rfl)) e17 (hb hby at_258) (by decide) (by decide) (pc' := 261) rfl fun T18 h18 r g18 X18 e18 Ex18 Ea18 D18 => ?_
            have ne_b_r : b ≠ r := Nat.ne_of_lt (Nat.lt_of_lt_of_le A0'.lt (Nat.le_of_eq g18.symm))
            have sz_r : Z.heap.size ≤ r := Nat.le_trans K11.size (Nat.le_of_eq g18.symm)
            have A18_b := Seq.ext A0' Ex18
            have K18 := Kp.ext K11 Ex18
            have hk18 := Nat.le_trans hk11 Ex18.1
            have F18_r_text : Fld Z h18 r "com/example/wary_offset/waryoffset/remoting/JsonText$Reader" "text" "[B" .null := D18 (Or.inr (hw _ (List.mem_of_getElem? (i := 36) rfl))) (ty := (.array .byte)) (by decide)
            have F18_r_start : Fld Z h18 r "com/example/wary_offset/waryoffset/remoting/JsonText$Reader" "start" "I" (.int (0 : Int32)) := D18 (Or.inr (hw _ (List.mem_of_getElem? (i := 38) rfl))) (ty := .int) (by decide)
            have F18_r_end : Fld Z h18 r "com/example/wary_offset/waryoffset/remoting/JsonText$Reader" "end" "I" (.int (0 : Int32)) := D18 (Or.inr (hw _ (List.mem_of_getElem? (i := 40) rfl))) (ty := .int) (by decide)
            have F18_r_what : Fld Z h18 r "com/example/wary_offset/waryoffset/remoting/JsonText$Reader" "what" "Ljava/lang/String;" .null := D18 (Or.inr (hw _ (List.mem_of_getElem? (i := 42) rfl))) (ty := (.object "java/lang/String")) (by decide)
            have F18_r_strings : Fld Z h18 r "com/example/wary_offset/waryoffset/remoting/JsonText$Reader" "strings" "Lcom/example/wary_offset/waryoffset/remoting/JsonText$Strings;" .null := D18 (Or.inr (hw _ (List.mem_of_getElem? (i := 44) rfl))) (ty := (.object "com/example/wary_offset/waryoffset/remoting/JsonText$Strings")) (by decide)
            have F18_r_at : Fld Z h18 r "com/example/wary_offset/waryoffset/remoting/JsonText$Reader" "at" "I" (.int (0 : Int32)) := D18 (Or.inl (hw _ (List.mem_of_getElem? (i := 46) rfl))) (ty := .int) (by decide)
            refine G.dup X18 hx (pc' := 262) (hb hby at_261) rfl rfl ?_
            refine G.aload X18 hx (pc' := 264) (hb hby at_262) rfl rfl rfl ?_
            refine G.iload X18 hx (pc' := 266) (hb hby at_264) rfl rfl ?_
            refine G.iload X18 hx (pc' := 268) (hb hby at_266) rfl rfl ?_
            refine G.ldcStr X18 hx hZ hown (hw _ (List.mem_of_getElem? (i := 19) rfl)) hwS e18 hS0 hk18 (hb hby at_268) (n := 4) (by decide +kernel) (by decide) (by decide) (by decide) (pc' := 270) rfl fun st T19 h19 k19 X19 e19 Ex19 hS19 hk19 hZ hown => ?_
            have F19_r_text := Fld.ext  Ex19 F18_r_text
            have F19_r_start := Fld.ext  Ex19 F18_r_start
            have F19_r_end := Fld.ext  Ex19 F18_r_end
            have F19_r_what := Fld.ext  Ex19 F18_r_what
            have F19_r_strings := Fld.ext  Ex19 F18_r_strings
            have F19_r_at := Fld.ext  Ex19 F18_r_at
            have E19_r := Exa.ext  Ex19 Ea18
            have A19_b := Seq.ext A18_b Ex19
            have K19 := Kp.ext K18 Ex19
            have nrb : r ≠ b := Ne.symm ne_b_r
            refine G.callI X19 hx hZ (y := (⟨"com/example/wary_offset/waryoffset/remoting/JsonText$Reader", "<init>", "([BIILjava/lang/String;)V"⟩ : MethodName)) rfl hown (hw _ (List.mem_of_getElem? (i := 26) rfl)) (hw _ (List.mem_of_getElem? (i := 27) rfl)) (hw _ (List.mem_of_getElem? (i := 18) rfl)) (hw _ (List.mem_of_getElem? (i := 28) rfl)) (by decide) e19 (rm := ({ frames := 2, cells := 0, slots := 0, locals := 29 } : Room)) (argsL := [(.ref b), (.int (Int32.ofNat o)), (.int vl), (.ref st)]) (S := [(.ref r)]) (W := 1) (a := r) (rm_init l Z a0 hw r b st (Int32.ofNat o) vl h19 E19_r F19_r_text F19_r_start F19_r_end F19_r_what F19_r_strings F19_r_at) (lenOf pd_8 rfl) rfl (Nat.le_of_eq rfl) (by decide) (by decide) (by decide) (by decide) (by rw [hml]; rfl) (hb hby at_270) (pc' := 273) rfl ?_
            rintro T20 _ L20 ⟨rfl, Kq20, Ft20, Fe20, Fa20⟩ X20
            have E20_r := Exa.keep E19_r Kq20.1
            have A20_b := Seq.keep A19_b Kq20.1 (ninS ne_b_r nin0)
            have K20 := Kp.call K19 Kq20 (allS (Or.inr sz_r) all0)
            have hk20 := Nat.le_trans hk19 Kq20.1.1
            rw [he] at Fe20
            show Goes p e below T20 (mkF m 273 #[.val (.long q0), .second, .val (.int p1), .val (.int p2), .val (.int p3), .val (.int p4), .val (.ref b), .val (.int (Int32.ofNat o)), .val (.int vl), .val (.int (Int32.ofNat ee)), .val (.int c1), .val (.int c2), .val (.int c3), .val (.int (Int32.ofNat P3)), .val (.int (if nextv xs ee P1 = c1 then (1 : Int32) else (0 : Int32))), .val (.int (Int32.ofNat B2)), .val (.int (if nextv xs ee P2 = c2 then (1 : Int32) else (0 : Int32))), .val (.int (if nextv xs ee P3 = c3 then (1 : Int32) else (0 : Int32))), .unset, .unset, .unset, .unset] [(.ref r)]) _
            refine G.astore X20 hx (pc' := 275) (hb hby at_273) rfl (L' := #[.val (.long q0), .second, .val (.int p1), .val (.int p2), .val (.int p3), .val (.int p4), .val (.ref b), .val (.int (Int32.ofNat o)), .val (.int vl), .val (.int (Int32.ofNat ee)), .val (.int c1), .val (.int c2), .val (.int c3), .val (.int (Int32.ofNat P3)), .val (.int (if nextv xs ee P1 = c1 then (1 : Int32) else (0 : Int32))), .val (.int (Int32.ofNat B2)), .val (.int (if nextv xs ee P2 = c2 then (1 : Int32) else (0 : Int32))), .val (.int (if nextv xs ee P3 = c3 then (1 : Int32) else (0 : Int32))), .val (.ref r), .unset, .unset, .unset]) rfl rfl ?_
            refine G.aload X20 hx (pc' := 277) (hb hby at_275) rfl rfl rfl ?_
            refine G.iload X20 hx (pc' := 279) (hb hby at_277) rfl rfl ?_
            refine G.callV X20 hx hZ (y0 := (⟨"com/example/wary_offset/waryoffset/remoting/JsonText$Reader", "take", "(C)Z"⟩ : MethodName)) (y := (⟨"com/example/wary_offset/waryoffset/remoting/JsonText$Reader", "take", "(C)Z"⟩ : MethodName)) hown (hw _ (List.mem_of_getElem? (i := 47) rfl)) (hw _ (List.mem_of_getElem? (i := 48) rfl)) (notFace_of_selects (args := #[]) (mvT hZ (hw _ (List.mem_of_getElem? (i := 50) rfl)))) (hw _ (List.mem_of_getElem? (i := 50) rfl)) (hw _ (List.mem_of_getElem? (i := 49) rfl)) (hw _ (List.mem_of_getElem? (i := 18) rfl)) (hw _ (List.mem_of_getElem? (i := 51) rfl)) (by decide) rfl (rm := ({ frames := 1, cells := 0, slots := 0, locals := 12 } : Room)) (argsL := [(.int c1)]) (S := []) (W := 0) (a := r) E20_r (rm_take l Z a0 hw r b c1 o ee xs T20.heap E20_r Fa20 Fe20 Ft20 A20_b nrb hoe (by omega) (by omega)) (lenOf pd_9 rfl) rfl (Nat.le_of_eq rfl) (by decide) (by decide) (by decide) (by decide) (by rw [hml]; rfl) (hb hby at_279) (pc' := 282) rfl ?_
            rintro T21 _ L21 ⟨rfl, Kq21, Fa21, Fe21, Ft21⟩ X21
            have E21_r := Exa.keep E20_r Kq21.1
            have A21_b := Seq.keep A20_b Kq21.1 (ninS ne_b_r nin0)
            have K21 := Kp.call K20 Kq21 (allS (Or.inr sz_r) all0)
            have hk21 := Nat.le_trans hk20 Kq21.1.1
            rw [← hP1] at Fa21 ⊢
            rw [← hB1] at Fa21
            show Goes p e below T21 (mkF m 282 #[.val (.long q0), .second, .val (.int p1), .val (.int p2), .val (.int p3), .val (.int p4), .val (.ref b), .val (.int (Int32.ofNat o)), .val (.int vl), .val (.int (Int32.ofNat ee)), .val (.int c1), .val (.int c2), .val (.int c3), .val (.int (Int32.ofNat P3)), .val (.int (if nextv xs ee P1 = c1 then (1 : Int32) else (0 : Int32))), .val (.int (Int32.ofNat B2)), .val (.int (if nextv xs ee P2 = c2 then (1 : Int32) else (0 : Int32))), .val (.int (if nextv xs ee P3 = c3 then (1 : Int32) else (0 : Int32))), .val (.ref r), .unset, .unset, .unset] [(.int (if nextv xs ee P1 = c1 then (1 : Int32) else (0 : Int32)))]) _
            refine G.istore X21 hx (pc' := 284) (hb hby at_282) (L' := #[.val (.long q0), .second, .val (.int p1), .val (.int p2), .val (.int p3), .val (.int p4), .val (.ref b), .val (.int (Int32.ofNat o)), .val (.int vl), .val (.int (Int32.ofNat ee)), .val (.int c1), .val (.int c2), .val (.int c3), .val (.int (Int32.ofNat P3)), .val (.int (if nextv xs ee P1 = c1 then (1 : Int32) else (0 : Int32))), .val (.int (Int32.ofNat B2)), .val (.int (if nextv xs ee P2 = c2 then (1 : Int32) else (0 : Int32))), .val (.int (if nextv xs ee P3 = c3 then (1 : Int32) else (0 : Int32))), .val (.ref r), .val (.int (if nextv xs ee P1 = c1 then (1 : Int32) else (0 : Int32))), .unset, .unset]) rfl rfl ?_
            refine G.aload X21 hx (pc' := 286) (hb hby at_284) rfl rfl rfl ?_
            refine G.iload X21 hx (pc' := 288) (hb hby at_286) rfl rfl ?_
            refine G.callV X21 hx hZ (y0 := (⟨"com/example/wary_offset/waryoffset/remoting/JsonText$Reader", "take", "(C)Z"⟩ : MethodName)) (y := (⟨"com/example/wary_offset/waryoffset/remoting/JsonText$Reader", "take", "(C)Z"⟩ : MethodName)) hown (hw _ (List.mem_of_getElem? (i := 47) rfl)) (hw _ (List.mem_of_getElem? (i := 48) rfl)) (notFace_of_selects (args := #[]) (mvT hZ (hw _ (List.mem_of_getElem? (i := 50) rfl)))) (hw _ (List.mem_of_getElem? (i := 50) rfl)) (hw _ (List.mem_of_getElem? (i := 49) rfl)) (hw _ (List.mem_of_getElem? (i := 18) rfl)) (hw _ (List.mem_of_getElem? (i := 51) rfl)) (by decide) rfl (rm := ({ frames := 1, cells := 0, slots := 0, locals := 12 } : Room)) (argsL := [(.int c2)]) (S := []) (W := 0) (a := r) E21_r (rm_take l Z a0 hw r b c2 B1 ee xs T21.heap E21_r Fa21 Fe21 Ft21 A21_b nrb hA1 (by omega) (by omega)) (lenOf pd_9 rfl) rfl (Nat.le_of_eq rfl) (by decide) (by decide) (by decide) (by decide) (by rw [hml]; rfl) (hb hby at_288) (pc' := 291) rfl ?_
            rintro T22 _ L22 ⟨rfl, Kq22, Fa22, Fe22, Ft22⟩ X22
            have E22_r := Exa.keep E21_r Kq22.1
            have A22_b := Seq.keep A21_b Kq22.1 (ninS ne_b_r nin0)
            have K22 := Kp.call K21 Kq22 (allS (Or.inr sz_r) all0)
            have hk22 := Nat.le_trans hk21 Kq22.1.1
            rw [← hP2] at Fa22 ⊢
            rw [← hB2] at Fa22
            show Goes p e below T22 (mkF m 291 #[.val (.long q0), .second, .val (.int p1), .val (.int p2), .val (.int p3), .val (.int p4), .val (.ref b), .val (.int (Int32.ofNat o)), .val (.int vl), .val (.int (Int32.ofNat ee)), .val (.int c1), .val (.int c2), .val (.int c3), .val (.int (Int32.ofNat P3)), .val (.int (if nextv xs ee P1 = c1 then (1 : Int32) else (0 : Int32))), .val (.int (Int32.ofNat B2)), .val (.int (if nextv xs ee P2 = c2 then (1 : Int32) else (0 : Int32))), .val (.int (if nextv xs ee P3 = c3 then (1 : Int32) else (0 : Int32))), .val (.ref r), .val (.int (if nextv xs ee P1 = c1 then (1 : Int32) else (0 : Int32))), .unset, .unset] [(.int (if nextv xs ee P2 = c2 then (1 : Int32) else (0 : Int32)))]) _
            refine G.istore X22 hx (pc' := 293) (hb hby at_291) (L' := #[.val (.long q0), .second, .val (.int p1), .val (.int p2), .val (.int p3), .val (.int p4), .val (.ref b), .val (.int (Int32.ofNat o)), .val (.int vl), .val (.int (Int32.ofNat ee)), .val (.int c1), .val (.int c2), .val (.int c3), .val (.int (Int32.ofNat P3)), .val (.int (if nextv xs ee P1 = c1 then (1 : Int32) else (0 : Int32))), .val (.int (Int32.ofNat B2)), .val (.int (if nextv xs ee P2 = c2 then (1 : Int32) else (0 : Int32))), .val (.int (if nextv xs ee P3 = c3 then (1 : Int32) else (0 : Int32))), .val (.ref r), .val (.int (if nextv xs ee P1 = c1 then (1 : Int32) else (0 : Int32))), .val (.int (if nextv xs ee P2 = c2 then (1 : Int32) else (0 : Int32))), .unset]) rfl rfl ?_
            refine G.aload X22 hx (pc' := 295) (hb hby at_293) rfl rfl rfl ?_
            refine G.iload X22 hx (pc' := 297) (hb hby at_295) rfl rfl ?_
            refine G.callV X22 hx hZ (y0 := (⟨"com/example/wary_offset/waryoffset/remoting/JsonText$Reader", "take", "(C)Z"⟩ : MethodName)) (y := (⟨"com/example/wary_offset/waryoffset/remoting/JsonText$Reader", "take", "(C)Z"⟩ : MethodName)) hown (hw _ (List.mem_of_getElem? (i := 47) rfl)) (hw _ (List.mem_of_getElem? (i := 48) rfl)) (notFace_of_selects (args := #[]) (mvT hZ (hw _ (List.mem_of_getElem? (i := 50) rfl)))) (hw _ (List.mem_of_getElem? (i := 50) rfl)) (hw _ (List.mem_of_getElem? (i := 49) rfl)) (hw _ (List.mem_of_getElem? (i := 18) rfl)) (hw _ (List.mem_of_getElem? (i := 51) rfl)) (by decide) rfl (rm := ({ frames := 1, cells := 0, slots := 0, locals := 12 } : Room)) (argsL := [(.int c3)]) (S := []) (W := 0) (a := r) E22_r (rm_take l Z a0 hw r b c3 B2 ee xs T22.heap E22_r Fa22 Fe22 Ft22 A22_b nrb hA2 (by omega) (by omega)) (lenOf pd_9 rfl) rfl (Nat.le_of_eq rfl) (by decide) (by decide) (by decide) (by decide) (by rw [hml]; rfl) (hb hby at_297) (pc' := 300) rfl ?_
            rintro T23 _ L23 ⟨rfl, Kq23, Fa23, Fe23, Ft23⟩ X23
            have E23_r := Exa.keep E22_r Kq23.1
            have A23_b := Seq.keep A22_b Kq23.1 (ninS ne_b_r nin0)
            have K23 := Kp.call K22 Kq23 (allS (Or.inr sz_r) all0)
            have hk23 := Nat.le_trans hk22 Kq23.1.1
            rw [← hP3] at Fa23 ⊢
            show Goes p e below T23 (mkF m 300 #[.val (.long q0), .second, .val (.int p1), .val (.int p2), .val (.int p3), .val (.int p4), .val (.ref b), .val (.int (Int32.ofNat o)), .val (.int vl), .val (.int (Int32.ofNat ee)), .val (.int c1), .val (.int c2), .val (.int c3), .val (.int (Int32.ofNat P3)), .val (.int (if nextv xs ee P1 = c1 then (1 : Int32) else (0 : Int32))), .val (.int (Int32.ofNat B2)), .val (.int (if nextv xs ee P2 = c2 then (1 : Int32) else (0 : Int32))), .val (.int (if nextv xs ee P3 = c3 then (1 : Int32) else (0 : Int32))), .val (.ref r), .val (.int (if nextv xs ee P1 = c1 then (1 : Int32) else (0 : Int32))), .val (.int (if nextv xs ee P2 = c2 then (1 : Int32) else (0 : Int32))), .unset] [(.int (if nextv xs ee P3 = c3 then (1 : Int32) else (0 : Int32)))]) _
            refine G.istore X23 hx (pc' := 302) (hb hby at_300) (L' := #[.val (.long q0), .second, .val (.int p1), .val (.int p2), .val (.int p3), .val (.int p4), .val (.ref b), .val (.int (Int32.ofNat o)), .val (.int vl), .val (.int (Int32.ofNat ee)), .val (.int c1), .val (.int c2), .val (.int c3), .val (.int (Int32.ofNat P3)), .val (.int (if nextv xs ee P1 = c1 then (1 : Int32) else (0 : Int32))), .val (.int (Int32.ofNat B2)), .val (.int (if nextv xs ee P2 = c2 then (1 : Int32) else (0 : Int32))), .val (.int (if nextv xs ee P3 = c3 then (1 : Int32) else (0 : Int32))), .val (.ref r), .val (.int (if nextv xs ee P1 = c1 then (1 : Int32) else (0 : Int32))), .val (.int (if nextv xs ee P2 = c2 then (1 : Int32) else (0 : Int32))), .val (.int (if nextv xs ee P3 = c3 then (1 : Int32) else (0 : Int32)))]) rfl rfl ?_
            refine G.iload X23 hx (pc' := 304) (hb hby at_302) rfl rfl ?_
            refine G.iload X23 hx (pc' := 306) (hb hby at_304) rfl rfl ?_
            refine G.icmpF X23 hx (pc' := 309) (hb hby at_306) (Jvm.Free.XT.ii_ne_f rfl) rfl ?_
            refine G.iload X23 hx (pc' := 311) (hb hby at_309) rfl rfl ?_
            refine G.iload X23 hx (pc' := 313) (hb hby at_311) rfl rfl ?_
            refine G.icmpF X23 hx (pc' := 316) (hb hby at_313) (Jvm.Free.XT.ii_ne_f rfl) rfl ?_
            refine G.iload X23 hx (pc' := 318) (hb hby at_316) rfl rfl ?_
            refine G.iload X23 hx (pc' := 320) (hb hby at_318) rfl rfl ?_
            refine G.icmpF X23 hx (pc' := 323) (hb hby at_320) (Jvm.Free.XT.ii_ne_f rfl) rfl ?_
            refine G.iconst X23 hx (pc' := 324) (hb hby at_323) (z := (1 : Int32)) rfl rfl ?_
            refine G.goto X23 hx (pc' := 328) (hb hby at_324) (by decide) (by decide) ?_
            refine Goes.retNW X23 hS19 hk23 hx hret (by simp) hlk (hb hby at_328) (by decide) (by decide) ⟨rfl, K23.fr⟩
set_option maxRecDepth 65536 in
set_option maxHeartbeats 40000000 in
theorem comes_1 {Post : Tables → Env → Array Value → State → Outcome → State → Prop} (hpost : ∀ tb e args s v u, (limb_1_1.after args s (.returned v) u = true ∧ limb_1_2.after args s (.returned v) u = true ∧ True) → ReturnedEndW s (.returned v) u (Jvm.fieldLocs frame_1_writes args s ++ Jvm.arrayLocs frame_1_arrays args s ++ Jvm.staticLocs frame_1_statics s) 16 1152 → Post tb e args s (.returned v) u) :
    ArmFor flags0 classFile x code maxLocals ret World_1 tables_1 room_1 Calls_1 rest_1 Pre_1 Post := by
  intro l hfl _ _ p e ha hc hk s m args below hf hA hF happ hP
  obtain ⟨hcalls, hrest, hpre⟩ := hP
  obtain ⟨-, -, -, hnamed, -, -, -, hat⟩ := (Spec.applies_iff hf).mp happ
  obtain ⟨hg, hn⟩ := and_e (Cond.before_iff.mp (show (Jvm.Cond.and given_1 narrow_1).before args s = true from hpre))
  obtain ⟨hg0, hg1⟩ := and_e hg
  obtain ⟨hb1, hg2⟩ := and_e hg1
  obtain ⟨hb2, hg3⟩ := and_e hg2
  obtain ⟨hb3, hg4⟩ := and_e hg3
  obtain ⟨hb4, hg5⟩ := and_e hg4
  obtain ⟨w0, w1, w2, w3, w4, rfl⟩ : ∃ w0 w1 w2 w3 w4 : Value, args = #[w0, w1, w2, w3, w4] := by
    have hs : args.size = 5 := by simpa [Cond.value, given_1] using hg0
    obtain ⟨L⟩ := args
    match L, hs with
    | [w0, w1, w2, w3, w4], _ => exact ⟨w0, w1, w2, w3, w4, rfl⟩
  have hw := fun d (hd : d ∈ tables_1) => atoms_spec (ws := Jvm.Cond.code x code maxLocals ret :: tables_1) hat d (List.mem_cons_of_mem _ hd)
  have hfit : Fit s := fun {y c} hc i hi => by
    obtain ⟨ha, rfl⟩ := Array.getElem?_eq_some_iff.mp hc
    have q := List.all_eq_true.mp ((Array.all_eq_true_iff_forall_mem.mp hF) _ (Array.getElem_mem ha)) i (List.mem_range.mpr hi)
    simpa [Array.getElem?_eq_getElem hi] using q
  obtain ⟨i0, ea0⟩ := isL_v hb1
  obtain rfl : w0 = (.long i0) := Option.some.inj ea0
  obtain ⟨i1, ea1⟩ := is_v hb2
  obtain rfl : w1 = (.int i1) := Option.some.inj ea1
  obtain ⟨i2, ea2⟩ := is_v hb3
  obtain rfl : w2 = (.int i2) := Option.some.inj ea2
  obtain ⟨i3, ea3⟩ := is_v hb4
  obtain rfl : w3 = (.int i3) := Option.some.inj ea3
  obtain ⟨i4, ea4⟩ := is_v hg5
  obtain rfl : w4 = (.int i4) := Option.some.inj ea4
  obtain ⟨n, o, h1, h2, h3, _, L, rfl, ⟨rfl, N⟩, hq⟩ := rm0 l s _ hw i0 i1 i2 i3 i4 tables_1 p e ha hc hk s m _ below hf ((Spec.applies_iff_loose hf).mp happ).1 ⟨rfl, rfl⟩ trivial
  refine ⟨n, _, h1, h2, h3, hpost _ _ _ _ _ _ ⟨Cond.after_iff.mpr rfl, Cond.after_iff.mpr (eq_i res_at (Term.int_eval (1)) rfl), trivial⟩ ⟨hq.1, hq.2.1, hq.2.2.1, (hq.2.2.2.sift fun y hy => Or.inr (N y hy)).mono (by decide) (by decide)⟩⟩
theorem main_1_1 : Claimed_1_1 := comes_1 fun _ _ _ _ _ _ h hF => ⟨h.1, hF⟩
theorem main_1_2 : Claimed_1_2 := comes_1 fun _ _ _ _ _ _ h hF => ⟨h.2.1, hF⟩

end Jvm.Pilot.@@N@@
namespace Jvm.Pilot.@@N@@
open Jvm Jvm.ClassFile Sem Op Lib Jvm.Free Jvm.Stand Jvm.Pilot.@@N@@.Jvm.D
/-! MADE BY PROGRAM (witnessworld.py) out of the Statement's table words and the real class files: 14 classes; the members and pool entries that the words name. The judged class is class 1, her method 5. -/
namespace start1
open Jvm.ClassFile
def u (s : String) : CpInfo := .utf8 (stringToUtf16 s)
/-- a pool by its gaps: so many unusable entries, then the entry; so many at the end -/
def gap : Nat → List CpInfo → List CpInfo
  | 0, r => r
  | n + 1, r => .unusable :: gap n r
def poolList (es : List (Nat × CpInfo)) (last : Nat) : List CpInfo := es.foldr (fun e r => gap e.1 (e.2 :: r)) (gap last [])
def pool (es : List (Nat × CpInfo)) (last : Nat) : Array CpInfo := ⟨poolList es last⟩
def fileOf (pool : Array CpInfo) (this : Nat) (attrs : Array Attribute := #[]) (ms : Array MethodInfo := #[]) (fl : Nat := 33) (sup : Nat := 0) (ifs : Array Nat := #[]) (fds : Array FieldInfo := #[]) : ClassFile where
  minorVersion := 0
  majorVersion := 65
  constantPool := pool
  accessFlags := fl
  thisClass := this
  superClass := sup
  interfaces := ifs
  fields := fds
  methods := ms
  attributes := attrs
def plain (name : String) (sup : Option ClassId) : Class where
  name := name
  kind := .ordinary
  loader := none
  accessFlags := 33
  super := sup
  interfaces := #[]
  cf := none
  fields := #[]
  methods := #[]
  instanceTypes := #[]
  staticTypes := #[]
  resolved := #[]
  callSites := []
  init := .initialized
  statics := none
  mirror := none

def pool0 : Array CpInfo := pool [(5, u "<init>"), (0, u "()V"), (1, .class_ 10), (1, u "java/lang/Object")] 113

def k0c0 : Code := { maxStack := 0, maxLocals := 1, code := object_method_1_code, exceptionTable := #[], attributes := #[] }
def k0m0 : Method := { name := "<init>", desc := "()V", sig := { parameters := [], returnType := none }, accessFlags := 1, code := some k0c0 }
/-- java/lang/Object -/
def k0 : Class := { plain "java/lang/Object" none with
  accessFlags := 33
  interfaces := #[]
  cf := some (fileOf pool0 8 #[] #[{ accessFlags := 1, nameIndex := 5, descriptorIndex := 6, attributes := #[] }] 33 0 #[] #[])
  fields := #[]
  methods := #[k0m0]
  instanceTypes := #[]
  staticTypes := #[]
  resolved := Array.replicate 124 none
  statics := none }

def pool1 : Array CpInfo := pool [(2, .class_ 4), (1, u "java/lang/Object"), (0, u "<init>"), (0, u "()V"), (0, .methodref 8 9), (0, .class_ 10), (0, .nameAndType 11 12), (0, u "com/example/wary_offset/waryoffset/remoting/ReaderTakePinLaw"), (0, u "ws"), (0, u "(B)Z"), (0, .long 7), (1, .long 255), (1, .integer 65535), (0, .methodref 8 19), (0, .nameAndType 20 21), (0, u "pick"), (0, u "(J)B"), (0, .methodref 8 23), (0, .nameAndType 24 25), (0, u "tok"), (0, u "(I[B)C"), (0, .methodref 8 27), (0, .nameAndType 28 29), (0, u "skip"), (0, u "([BII)I"), (0, .class_ 31), (0, u "com/example/wary_offset/waryoffset/remoting/JsonText$Reader"), (0, .string 33), (0, u "t"), (0, .methodref 30 35), (0, .nameAndType 5 36), (0, u "([BIILjava/lang/String;)V"), (0, .methodref 30 38), (0, .nameAndType 39 40), (0, u "take"), (0, u "(C)Z"), (3, u "law"), (0, u "(JIIII)Z")] 8

def k1m0 : Method := { name := "<init>", desc := "()V", sig := { parameters := [], returnType := none }, accessFlags := 1, code := none }
def k1c1 : Code := { maxStack := 2, maxLocals := 1, code := method_2_code, exceptionTable := #[], attributes := #[] }
def k1m1 : Method := { name := "ws", desc := "(B)Z", sig := { parameters := [.byte], returnType := some .boolean }, accessFlags := 10, code := some k1c1 }
def k1c2 : Code := { maxStack := 2, maxLocals := 4, code := method_3_code, exceptionTable := #[], attributes := #[] }
def k1m2 : Method := { name := "skip", desc := "([BII)I", sig := { parameters := [(.array .byte), .int, .int], returnType := some .int }, accessFlags := 10, code := some k1c2 }
def k1c3 : Code := { maxStack := 4, maxLocals := 4, code := method_4_code, exceptionTable := #[], attributes := #[] }
def k1m3 : Method := { name := "pick", desc := "(J)B", sig := { parameters := [.long], returnType := some .byte }, accessFlags := 10, code := some k1c3 }
def k1c4 : Code := { maxStack := 2, maxLocals := 3, code := method_5_code, exceptionTable := #[], attributes := #[] }
def k1m4 : Method := { name := "tok", desc := "(I[B)C", sig := { parameters := [.int, (.array .byte)], returnType := some .char }, accessFlags := 10, code := some k1c4 }
def k1c5 : Code := { maxStack := 6, maxLocals := 22, code := code, exceptionTable := #[], attributes := #[] }
def k1m5 : Method := { name := "law", desc := "(JIIII)Z", sig := { parameters := [.long, .int, .int, .int, .int], returnType := some .boolean }, accessFlags := 9, code := some k1c5 }
/-- com/example/wary_offset/waryoffset/remoting/ReaderTakePinLaw -/
def k1 : Class := { plain "com/example/wary_offset/waryoffset/remoting/ReaderTakePinLaw" (some 0) with
  accessFlags := 49
  interfaces := #[]
  cf := some (fileOf pool1 8 #[] #[{ accessFlags := 1, nameIndex := 5, descriptorIndex := 6, attributes := #[] }, { accessFlags := 10, nameIndex := 11, descriptorIndex := 12, attributes := #[] }, { accessFlags := 10, nameIndex := 28, descriptorIndex := 29, attributes := #[] }, { accessFlags := 10, nameIndex := 20, descriptorIndex := 21, attributes := #[] }, { accessFlags := 10, nameIndex := 24, descriptorIndex := 25, attributes := #[] }, { accessFlags := 9, nameIndex := 44, descriptorIndex := 45, attributes := #[] }] 49 2 #[] #[])
  fields := #[]
  methods := #[k1m0, k1m1, k1m2, k1m3, k1m4, k1m5]
  instanceTypes := #[]
  staticTypes := #[]
  resolved := Array.replicate 54 none
  statics := none }

def pool2 : Array CpInfo := pool [(1, .class_ 2), (0, u "com/example/wary_offset/waryoffset/remoting/JsonText"), (0, .methodref 4 5), (0, .class_ 6), (0, .nameAndType 7 8), (0, u "com/example/wary_offset/waryoffset/remoting/JsonText$Reader"), (0, u "<init>"), (0, u "([BIILjava/lang/String;Lcom/example/wary_offset/waryoffset/remoting/JsonText$Strings;)V"), (0, .methodref 10 11), (0, .class_ 12), (0, .nameAndType 7 13), (0, u "java/lang/Object"), (0, u "()V"), (0, .fieldref 4 15), (0, .nameAndType 16 17), (0, u "text"), (0, u "[B"), (0, .fieldref 4 19), (0, .nameAndType 20 21), (0, u "start"), (0, u "I"), (0, .fieldref 4 23), (0, .nameAndType 24 21), (0, u "end"), (0, .fieldref 4 26), (0, .nameAndType 27 28), (0, u "what"), (0, u "Ljava/lang/String;"), (0, .fieldref 4 30), (0, .nameAndType 31 32), (0, u "strings"), (0, u "Lcom/example/wary_offset/waryoffset/remoting/JsonText$Strings;"), (0, .fieldref 4 34), (0, .nameAndType 35 21), (0, u "at"), (2, u "take"), (0, u "(C)Z"), (8, .methodref 4 49), (0, .nameAndType 50 51), (0, u "next"), (0, u "()I"), (158, u "([BIILjava/lang/String;)V")] 31

def k2c0 : Code := { maxStack := 6, maxLocals := 5, code := prog_25_method_1_code, exceptionTable := #[], attributes := #[] }
def k2m0 : Method := { name := "<init>", desc := "([BIILjava/lang/String;)V", sig := { parameters := [(.array .byte), .int, .int, (.object "java/lang/String")], returnType := none }, accessFlags := 1, code := some k2c0 }
def k2c1 : Code := { maxStack := 3, maxLocals := 6, code := prog_25_method_2_code, exceptionTable := #[], attributes := #[] }
def k2m1 : Method := { name := "<init>", desc := "([BIILjava/lang/String;Lcom/example/wary_offset/waryoffset/remoting/JsonText$Strings;)V", sig := { parameters := [(.array .byte), .int, .int, (.object "java/lang/String"), (.object "com/example/wary_offset/waryoffset/remoting/JsonText$Strings")], returnType := none }, accessFlags := 0, code := some k2c1 }
def k2c2 : Code := { maxStack := 3, maxLocals := 3, code := prog_25_method_4_code, exceptionTable := #[], attributes := #[] }
def k2m2 : Method := { name := "take", desc := "(C)Z", sig := { parameters := [.char], returnType := some .boolean }, accessFlags := 1, code := some k2c2 }
def k2c3 : Code := { maxStack := 3, maxLocals := 1, code := prog_25_method_22_code, exceptionTable := #[], attributes := #[] }
def k2m3 : Method := { name := "next", desc := "()I", sig := { parameters := [], returnType := some .int }, accessFlags := 2, code := some k2c3 }
/-- com/example/wary_offset/waryoffset/remoting/JsonText$Reader -/
def k2 : Class := { plain "com/example/wary_offset/waryoffset/remoting/JsonText$Reader" (some 0) with
  accessFlags := 49
  interfaces := #[]
  cf := some (fileOf pool2 4 #[.nestHost 1] #[{ accessFlags := 1, nameIndex := 7, descriptorIndex := 210, attributes := #[] }, { accessFlags := 0, nameIndex := 7, descriptorIndex := 8, attributes := #[] }, { accessFlags := 1, nameIndex := 38, descriptorIndex := 39, attributes := #[] }, { accessFlags := 2, nameIndex := 50, descriptorIndex := 51, attributes := #[] }] 49 10 #[] #[{ accessFlags := 18, nameIndex := 16, descriptorIndex := 17, attributes := #[] }, { accessFlags := 18, nameIndex := 20, descriptorIndex := 21, attributes := #[] }, { accessFlags := 18, nameIndex := 24, descriptorIndex := 21, attributes := #[] }, { accessFlags := 18, nameIndex := 27, descriptorIndex := 28, attributes := #[] }, { accessFlags := 18, nameIndex := 31, descriptorIndex := 32, attributes := #[] }, { accessFlags := 2, nameIndex := 35, descriptorIndex := 21, attributes := #[] }])
  fields := #[{ name := "text", type := (.array .byte), accessFlags := 18, slot := 0, constantValue := 0 }, { name := "start", type := .int, accessFlags := 18, slot := 1, constantValue := 0 }, { name := "end", type := .int, accessFlags := 18, slot := 2, constantValue := 0 }, { name := "what", type := (.object "java/lang/String"), accessFlags := 18, slot := 3, constantValue := 0 }, { name := "strings", type := (.object "com/example/wary_offset/waryoffset/remoting/JsonText$Strings"), accessFlags := 18, slot := 4, constantValue := 0 }, { name := "at", type := .int, accessFlags := 2, slot := 5, constantValue := 0 }]
  methods := #[k2m0, k2m1, k2m2, k2m3]
  instanceTypes := #[(.array .byte), .int, .int, (.object "java/lang/String"), (.object "com/example/wary_offset/waryoffset/remoting/JsonText$Strings"), .int]
  staticTypes := #[]
  resolved := Array.replicate 242 none
  statics := none }

def pool3 : Array CpInfo := pool [(1, .class_ 2), (0, u "java/io/Serializable"), (0, .class_ 4), (0, u "java/lang/Object")] 2

/-- java/io/Serializable -/
def k3 : Class := { plain "java/io/Serializable" (some 0) with
  accessFlags := 1537
  interfaces := #[]
  cf := some (fileOf pool3 1 #[] #[] 1537 3 #[] #[])
  fields := #[]
  methods := #[]
  instanceTypes := #[]
  staticTypes := #[]
  resolved := Array.replicate 7 none
  statics := none }

def pool4 : Array CpInfo := pool [(1, .class_ 2), (0, u "java/lang/Comparable"), (0, .class_ 4), (0, u "java/lang/Object")] 7

/-- java/lang/Comparable -/
def k4 : Class := { plain "java/lang/Comparable" (some 0) with
  accessFlags := 1537
  interfaces := #[]
  cf := some (fileOf pool4 1 #[] #[] 1537 3 #[] #[])
  fields := #[]
  methods := #[]
  instanceTypes := #[]
  staticTypes := #[]
  resolved := Array.replicate 12 none
  statics := none }

def pool5 : Array CpInfo := pool [(2, .class_ 4), (1, u "java/lang/CharSequence"), (42, .class_ 48), (0, u "java/lang/CharSequence$1CodePointIterator"), (10, .class_ 60), (0, u "java/lang/CharSequence$1CharIterator"), (5, .class_ 67), (0, u "java/lang/Object")] 63

/-- java/lang/CharSequence -/
def k5 : Class := { plain "java/lang/CharSequence" (some 0) with
  accessFlags := 1537
  interfaces := #[]
  cf := some (fileOf pool5 2 #[.nestMembers #[47, 59]] #[] 1537 66 #[] #[])
  fields := #[]
  methods := #[]
  instanceTypes := #[]
  staticTypes := #[]
  resolved := Array.replicate 131 none
  statics := none }

def pool6 : Array CpInfo := pool [(1, .class_ 2), (0, u "java/lang/constant/Constable"), (0, .class_ 4), (0, u "java/lang/Object")] 6

/-- java/lang/constant/Constable -/
def k6 : Class := { plain "java/lang/constant/Constable" (some 0) with
  accessFlags := 1537
  interfaces := #[]
  cf := some (fileOf pool6 1 #[] #[] 1537 3 #[] #[])
  fields := #[]
  methods := #[]
  instanceTypes := #[]
  staticTypes := #[]
  resolved := Array.replicate 11 none
  statics := none }

def pool7 : Array CpInfo := pool [(1, .class_ 2), (0, u "java/lang/constant/ConstantDesc"), (0, .class_ 4), (0, u "java/lang/Object")] 32

/-- java/lang/constant/ConstantDesc -/
def k7 : Class := { plain "java/lang/constant/ConstantDesc" (some 0) with
  accessFlags := 1537
  interfaces := #[]
  cf := some (fileOf pool7 1 #[] #[] 1537 3 #[] #[])
  fields := #[]
  methods := #[]
  instanceTypes := #[]
  staticTypes := #[]
  resolved := Array.replicate 37 none
  statics := none }

def pool8 : Array CpInfo := pool [(2, .class_ 4), (1, u "java/lang/Object"), (0, u "<init>"), (0, u "()V"), (3, .class_ 12), (1, u "java/lang/String"), (0, u "value"), (0, u "[B"), (2, u "coder"), (0, u "B"), (2, u "hash"), (0, u "I"), (2, u "hashIsZero"), (0, u "Z"), (13, u "COMPACT_STRINGS"), (534, .class_ 576), (0, u "java/lang/CharSequence"), (22, u "CASE_INSENSITIVE_ORDER"), (0, u "Ljava/util/Comparator;"), (500, u "serialPersistentFields"), (0, u "[Ljava/io/ObjectStreamField;"), (0, .class_ 1104), (0, u "java/lang/String$CaseInsensitiveComparator"), (1, .class_ 1107), (0, u "java/io/Serializable"), (0, .class_ 1109), (0, u "java/lang/Comparable"), (0, .class_ 1111), (0, u "java/lang/constant/Constable"), (0, .class_ 1113), (0, u "java/lang/constant/ConstantDesc"), (2, u "serialVersionUID"), (0, u "J"), (3, u "REPL"), (0, u "C"), (2, u "LATIN1"), (1, u "UTF16")] 323

def k8m0 : Method := { name := "<init>", desc := "()V", sig := { parameters := [], returnType := none }, accessFlags := 1, code := none }
/-- java/lang/String -/
def k8 : Class := { plain "java/lang/String" (some 0) with
  accessFlags := 49
  interfaces := #[3, 4, 5, 6, 7]
  cf := some (fileOf pool8 10 #[.nestMembers #[1103]] #[{ accessFlags := 1, nameIndex := 5, descriptorIndex := 6, attributes := #[] }] 49 2 #[1106, 1108, 575, 1110, 1112] #[{ accessFlags := 18, nameIndex := 13, descriptorIndex := 14, attributes := #[] }, { accessFlags := 18, nameIndex := 17, descriptorIndex := 18, attributes := #[] }, { accessFlags := 2, nameIndex := 21, descriptorIndex := 22, attributes := #[] }, { accessFlags := 2, nameIndex := 25, descriptorIndex := 26, attributes := #[] }, { accessFlags := 26, nameIndex := 1116, descriptorIndex := 1117, attributes := #[] }, { accessFlags := 24, nameIndex := 40, descriptorIndex := 26, attributes := #[] }, { accessFlags := 26, nameIndex := 1101, descriptorIndex := 1102, attributes := #[] }, { accessFlags := 26, nameIndex := 1121, descriptorIndex := 1122, attributes := #[] }, { accessFlags := 25, nameIndex := 599, descriptorIndex := 600, attributes := #[] }, { accessFlags := 24, nameIndex := 1125, descriptorIndex := 18, attributes := #[] }, { accessFlags := 24, nameIndex := 1127, descriptorIndex := 18, attributes := #[] }])
  fields := #[{ name := "value", type := (.array .byte), accessFlags := 18, slot := 0, constantValue := 0 }, { name := "coder", type := .byte, accessFlags := 18, slot := 1, constantValue := 0 }, { name := "hash", type := .int, accessFlags := 2, slot := 2, constantValue := 0 }, { name := "hashIsZero", type := .boolean, accessFlags := 2, slot := 3, constantValue := 0 }, { name := "serialVersionUID", type := .long, accessFlags := 26, slot := 0, constantValue := 0 }, { name := "COMPACT_STRINGS", type := .boolean, accessFlags := 24, slot := 1, constantValue := 0 }, { name := "serialPersistentFields", type := (.array (.object "java/io/ObjectStreamField")), accessFlags := 26, slot := 2, constantValue := 0 }, { name := "REPL", type := .char, accessFlags := 26, slot := 3, constantValue := 0 }, { name := "CASE_INSENSITIVE_ORDER", type := (.object "java/util/Comparator"), accessFlags := 25, slot := 4, constantValue := 0 }, { name := "LATIN1", type := .byte, accessFlags := 24, slot := 5, constantValue := 0 }, { name := "UTF16", type := .byte, accessFlags := 24, slot := 6, constantValue := 0 }]
  methods := #[k8m0]
  instanceTypes := #[(.array .byte), .byte, .int, .boolean]
  staticTypes := #[.long, .boolean, (.array (.object "java/io/ObjectStreamField")), .char, (.object "java/util/Comparator"), .byte, .byte]
  resolved := Array.replicate 1451 none
  statics := none }

def pool9 : Array CpInfo := pool [(1, u "java/lang/Cloneable"), (0, .class_ 1), (0, u "java/lang/Object"), (0, .class_ 3)] 3

/-- java/lang/Cloneable -/
def k9 : Class := { plain "java/lang/Cloneable" (some 0) with
  accessFlags := 1537
  interfaces := #[]
  cf := some (fileOf pool9 2 #[] #[] 1537 4 #[] #[])
  fields := #[]
  methods := #[]
  instanceTypes := #[]
  staticTypes := #[]
  resolved := Array.replicate 8 none
  statics := none }

/-- the primitive byte -/
def k10 : Class := { plain "byte" none with kind := .primitive 'B', accessFlags := 0x411 }
/-- [B -/
def k11 : Class := { plain "[B" (some 0) with kind := .array 10 .byte, interfaces := #[9, 3], accessFlags := 1041 }

/-- the primitive int -/
def k12 : Class := { plain "int" none with kind := .primitive 'I', accessFlags := 0x411 }
/-- [I -/
def k13 : Class := { plain "[I" (some 0) with kind := .array 12 .int, interfaces := #[9, 3], accessFlags := 1041 }

def heap : Heap := #[]
def classes : Array Class := #[k0, k1, k2, k3, k4, k5, k6, k7, k8, k9, k10, k11, k12, k13]
def interned : List (Array UInt16 × Addr) := []
def slotsUsed : Nat := 0
def theMethod : MethodId := ⟨1, 5⟩
def args0 : Array Value := #[.long 1, .int 2, .int 3, .int 4, .int 5]
def aboutOver (below : List Frame) : State where
  vm := { classes := classes, interned := interned.toArray }
  heap := heap
  slotsUsed := slotsUsed
  threads := #[{ frames := .invoking theMethod args0 :: below }]
def below0 : List Frame := [.native { method := ⟨0, 0⟩, args := #[] }]
def about1 : State := aboutOver below0
def p0 : Program := .bare "" "" ""
def e0 : Env := launch0.env 0 0 0
theorem w_frames : about1.frames = Frame.invoking theMethod args0 :: below0 := rfl
set_option maxRecDepth 65536 in
theorem w_args : argsFit about1.vm theMethod args0 = true := by decide +kernel
set_option maxRecDepth 65536 in
theorem w_heap : heapFits about1 = true := by decide +kernel
set_option maxRecDepth 65536 in
theorem w_runnable : about1.curStatus? = some .runnable := by decide +kernel
set_option maxRecDepth 65536 in
theorem w_alone : about1.alone = true := by decide +kernel
set_option maxRecDepth 65536 in
theorem w_named : about1.methodNamed? x = some theMethod := by decide +kernel
set_option maxRecDepth 65536 in
theorem w_hears : about1.hears theMethod below0 = true := by decide +kernel
set_option maxRecDepth 65536 in
theorem w_ripe : about1.ripe theMethod args0 below0 = true := by decide +kernel
theorem w_running : about1.status = .running := rfl
set_option maxRecDepth 65536 in
theorem w_room : about1.hasRoom e0.platform room_1 = true :=
  launch0.hasRoom_least _ room_1 (by decide +kernel) (by decide +kernel) (by decide +kernel) (by decide +kernel) (by decide +kernel) (by decide +kernel)
theorem allAtoms_all (ts : List Jvm.Cond) (a : Array Jvm.Value) (st : Jvm.State) : (allAtoms ts).before a st = ts.all (fun c => c.before a st) := by
  induction ts with
  | nil => rfl
  | cons c t ih =>
    show (Jvm.Cond.and c (allAtoms t)).before a st = _
    rw [Jvm.Cond.before_and, ih, List.all_cons]
def words1 : List Jvm.Cond := Jvm.Cond.code x code maxLocals ret :: tables_1
/-- a 'code' word, met by the world's own term for the bytes: nothing is compared byte by byte -/
theorem code_word {y : MethodName} {bytes : ByteArray} {mx : Nat} {rt : Option FieldType} {a : Array Value} {s : State} {m : MethodId} {meth : Method} {c : Code} (h1 : s.methodNamed? y = some m) (h2 : s.vm.method? m = some meth) (h3 : meth.code = some c) (h4 : c.code = bytes)
    (h5 : (c.maxLocals == mx && c.exceptionTable.isEmpty && decide (c.maxStack ≤ mostOperands) && decide (meth.sig.returnType = rt) && !meth.locks && decide (parseMethodDescriptor y.desc = some meth.sig)) = true) : (Jvm.Cond.code y bytes mx rt).before a s = true := by
  simp only [Bool.and_eq_true, beq_iff_eq, Bool.not_eq_true', decide_eq_true_eq] at h5
  obtain ⟨⟨⟨⟨⟨g1, g2⟩, g3⟩, g4⟩, g5⟩, g6⟩ := h5
  simp [Cond.before, Cond.holds, Cond.value, h1, h2, h3, h4, g1, g2, g3, g4, g5, g6]
def isCode : Jvm.Cond → Bool
  | .code _ _ _ _ => true
  | _ => false
theorem all_split {L : List Jvm.Cond} {P : Jvm.Cond → Bool} (h1 : L.all (fun c => isCode c || P c) = true) (h2 : ∀ c ∈ L.filter isCode, P c = true) : L.all P = true := by
  refine List.all_eq_true.mpr fun c hc => ?_
  have h := List.all_eq_true.mp h1 c hc
  rcases Bool.eq_false_or_eq_true (isCode c) with hi | hi
  · exact h2 c (List.mem_filter.mpr ⟨hc, hi⟩)
  · simpa [hi] using h
set_option maxRecDepth 65536 in
theorem w_c0 : (Jvm.Cond.code x code maxLocals ret).before args0 about1 = true := code_word (m := ⟨1, 5⟩) (meth := k1m5) (c := k1c5) (by decide +kernel) rfl rfl rfl (by decide +kernel)
set_option maxRecDepth 65536 in
theorem w_c1 : (Jvm.Cond.code ({ cls := "com/example/wary_offset/waryoffset/remoting/ReaderTakePinLaw", name := "pick", desc := "(J)B" } : Jvm.MethodName) method_4_code (4 : Nat) (Option.some Jvm.ClassFile.FieldType.byte)).before args0 about1 = true := code_word (m := ⟨1, 3⟩) (meth := k1m3) (c := k1c3) (by decide +kernel) rfl rfl rfl (by decide +kernel)
set_option maxRecDepth 65536 in
theorem w_c2 : (Jvm.Cond.code ({ cls := "com/example/wary_offset/waryoffset/remoting/ReaderTakePinLaw", name := "tok", desc := "(I[B)C" } : Jvm.MethodName) method_5_code (3 : Nat) (Option.some Jvm.ClassFile.FieldType.char)).before args0 about1 = true := code_word (m := ⟨1, 4⟩) (meth := k1m4) (c := k1c4) (by decide +kernel) rfl rfl rfl (by decide +kernel)
set_option maxRecDepth 65536 in
theorem w_c3 : (Jvm.Cond.code ({ cls := "com/example/wary_offset/waryoffset/remoting/ReaderTakePinLaw", name := "skip", desc := "([BII)I" } : Jvm.MethodName) method_3_code (4 : Nat) (Option.some Jvm.ClassFile.FieldType.int)).before args0 about1 = true := code_word (m := ⟨1, 2⟩) (meth := k1m2) (c := k1c2) (by decide +kernel) rfl rfl rfl (by decide +kernel)
set_option maxRecDepth 65536 in
theorem w_c4 : (Jvm.Cond.code ({ cls := "com/example/wary_offset/waryoffset/remoting/ReaderTakePinLaw", name := "ws", desc := "(B)Z" } : Jvm.MethodName) method_2_code (1 : Nat) (Option.some Jvm.ClassFile.FieldType.boolean)).before args0 about1 = true := code_word (m := ⟨1, 1⟩) (meth := k1m1) (c := k1c1) (by decide +kernel) rfl rfl rfl (by decide +kernel)
set_option maxRecDepth 65536 in
theorem w_c5 : (Jvm.Cond.code ({ cls := "com/example/wary_offset/waryoffset/remoting/JsonText$Reader", name := "<init>", desc := "([BIILjava/lang/String;)V" } : Jvm.MethodName) prog_25_method_1_code (5 : Nat) (Option.none : Option Jvm.ClassFile.FieldType)).before args0 about1 = true := code_word (m := ⟨2, 0⟩) (meth := k2m0) (c := k2c0) (by decide +kernel) rfl rfl rfl (by decide +kernel)
set_option maxRecDepth 65536 in
theorem w_c6 : (Jvm.Cond.code ({ cls := "com/example/wary_offset/waryoffset/remoting/JsonText$Reader", name := "<init>", desc := "([BIILjava/lang/String;Lcom/example/wary_offset/waryoffset/remoting/JsonText$Strings;)V" } : Jvm.MethodName) prog_25_method_2_code (6 : Nat) (Option.none : Option Jvm.ClassFile.FieldType)).before args0 about1 = true := code_word (m := ⟨2, 1⟩) (meth := k2m1) (c := k2c1) (by decide +kernel) rfl rfl rfl (by decide +kernel)
set_option maxRecDepth 65536 in
theorem w_c7 : (Jvm.Cond.code ({ cls := "java/lang/Object", name := "<init>", desc := "()V" } : Jvm.MethodName) object_method_1_code (1 : Nat) (Option.none : Option Jvm.ClassFile.FieldType)).before args0 about1 = true := code_word (m := ⟨0, 0⟩) (meth := k0m0) (c := k0c0) (by decide +kernel) rfl rfl rfl (by decide +kernel)
set_option maxRecDepth 65536 in
theorem w_c8 : (Jvm.Cond.code ({ cls := "com/example/wary_offset/waryoffset/remoting/JsonText$Reader", name := "take", desc := "(C)Z" } : Jvm.MethodName) prog_25_method_4_code (3 : Nat) (Option.some Jvm.ClassFile.FieldType.boolean)).before args0 about1 = true := code_word (m := ⟨2, 2⟩) (meth := k2m2) (c := k2c2) (by decide +kernel) rfl rfl rfl (by decide +kernel)
set_option maxRecDepth 65536 in
theorem w_c9 : (Jvm.Cond.code ({ cls := "com/example/wary_offset/waryoffset/remoting/JsonText$Reader", name := "next", desc := "()I" } : Jvm.MethodName) prog_25_method_22_code (1 : Nat) (Option.some Jvm.ClassFile.FieldType.int)).before args0 about1 = true := code_word (m := ⟨2, 3⟩) (meth := k2m3) (c := k2c3) (by decide +kernel) rfl rfl rfl (by decide +kernel)
def codes1 : List Jvm.Cond := [Jvm.Cond.code x code maxLocals ret, Jvm.Cond.code ({ cls := "com/example/wary_offset/waryoffset/remoting/ReaderTakePinLaw", name := "pick", desc := "(J)B" } : Jvm.MethodName) method_4_code (4 : Nat) (Option.some Jvm.ClassFile.FieldType.byte), Jvm.Cond.code ({ cls := "com/example/wary_offset/waryoffset/remoting/ReaderTakePinLaw", name := "tok", desc := "(I[B)C" } : Jvm.MethodName) method_5_code (3 : Nat) (Option.some Jvm.ClassFile.FieldType.char), Jvm.Cond.code ({ cls := "com/example/wary_offset/waryoffset/remoting/ReaderTakePinLaw", name := "skip", desc := "([BII)I" } : Jvm.MethodName) method_3_code (4 : Nat) (Option.some Jvm.ClassFile.FieldType.int), Jvm.Cond.code ({ cls := "com/example/wary_offset/waryoffset/remoting/ReaderTakePinLaw", name := "ws", desc := "(B)Z" } : Jvm.MethodName) method_2_code (1 : Nat) (Option.some Jvm.ClassFile.FieldType.boolean), Jvm.Cond.code ({ cls := "com/example/wary_offset/waryoffset/remoting/JsonText$Reader", name := "<init>", desc := "([BIILjava/lang/String;)V" } : Jvm.MethodName) prog_25_method_1_code (5 : Nat) (Option.none : Option Jvm.ClassFile.FieldType), Jvm.Cond.code ({ cls := "com/example/wary_offset/waryoffset/remoting/JsonText$Reader", name := "<init>", desc := "([BIILjava/lang/String;Lcom/example/wary_offset/waryoffset/remoting/JsonText$Strings;)V" } : Jvm.MethodName) prog_25_method_2_code (6 : Nat) (Option.none : Option Jvm.ClassFile.FieldType), Jvm.Cond.code ({ cls := "java/lang/Object", name := "<init>", desc := "()V" } : Jvm.MethodName) object_method_1_code (1 : Nat) (Option.none : Option Jvm.ClassFile.FieldType), Jvm.Cond.code ({ cls := "com/example/wary_offset/waryoffset/remoting/JsonText$Reader", name := "take", desc := "(C)Z" } : Jvm.MethodName) prog_25_method_4_code (3 : Nat) (Option.some Jvm.ClassFile.FieldType.boolean), Jvm.Cond.code ({ cls := "com/example/wary_offset/waryoffset/remoting/JsonText$Reader", name := "next", desc := "()I" } : Jvm.MethodName) prog_25_method_22_code (1 : Nat) (Option.some Jvm.ClassFile.FieldType.int)]
set_option maxRecDepth 65536 in
theorem codes_eq : words1.filter isCode = codes1 := rfl
theorem w_codes : ∀ c ∈ words1.filter isCode, c.before args0 about1 = true := by
  rw [codes_eq]
  intro c hc
  simp only [codes1, List.mem_cons, List.not_mem_nil, or_false] at hc
  rcases hc with rfl | rfl | rfl | rfl | rfl | rfl | rfl | rfl | rfl | rfl
  · exact w_c0
  · exact w_c1
  · exact w_c2
  · exact w_c3
  · exact w_c4
  · exact w_c5
  · exact w_c6
  · exact w_c7
  · exact w_c8
  · exact w_c9
set_option maxRecDepth 65536 in
theorem w_t1 : (words1.take 24).all (fun c => isCode c || c.before args0 about1) = true := by decide +kernel
set_option maxRecDepth 65536 in
theorem w_t2 : ((words1.drop 24).take 24).all (fun c => isCode c || c.before args0 about1) = true := by decide +kernel
set_option maxRecDepth 65536 in
theorem w_t3 : ((words1.drop 24).drop 24).all (fun c => isCode c || c.before args0 about1) = true := by decide +kernel
theorem w_tables : (allAtoms (Jvm.Cond.code x code maxLocals ret :: tables_1)).before args0 about1 = true := by
  rw [allAtoms_all]
  show words1.all (fun c => c.before args0 about1) = true
  refine all_split ?_ w_codes
  rw [← List.take_append_drop 24 words1, List.all_append, w_t1, ← List.take_append_drop 24 (words1.drop 24), List.all_append, w_t2, w_t3]
  rfl
set_option maxRecDepth 65536 in
theorem w_case : (Jvm.Cond.and given_1 narrow_1).before args0 about1 = true := by decide +kernel
theorem w_applies : (headSpec (Jvm.Cond.code x code maxLocals ret :: tables_1) room_1).applies x e0.platform about1 = true :=
  (Spec.applies_iff w_frames).mpr ⟨w_running, w_runnable, w_alone, w_named, w_hears, w_ripe, w_room, w_tables⟩
theorem atStart : AtStart classFile x code maxLocals ret World_1 tables_1 room_1 Calls_1 rest_1 Pre_1 launch0 p0 e0 about1 theMethod args0 below0 :=
  ⟨lists_1, trivial, launch0.admits_env _ _ _, launch0.least_env, fairChoices_fair.cas, fairChoices_fair.clock, w_frames, w_args, w_heap, w_applies, trivial, trivial, w_case⟩
end start1
theorem witness_1 : WitnessClaimed_1 := ⟨start1.p0, start1.e0, start1.about1, start1.theMethod, start1.args0, start1.below0, start1.atStart⟩
end Jvm.Pilot.@@N@@
