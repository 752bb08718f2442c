import JvmDerived
import JvmDerived.Pilot.@@N@@Statement
import JvmDerived.Pilot.@@N@@Code
set_option linter.unusedVariables false
set_option linter.unusedSimpArgs false
namespace Jvm.OwnKit
open Sem ClassFile Op Lib Jvm.Stand Jvm.Free Jvm.LawKit Jvm.RoadKit
/-- from the frame f over the state T the run ends within P -/
def Goes (p : Program) (e : Env) (below : List Frame) (T : State) (f : JFrame) (P : State → Outcome → Prop) : Prop := ∃ U o, Steps p.tables e below (T.setTop f) U ∧ U.status = .running ∧ Ended U below o ∧ P U o
/-- only places of ws or of new cells -/
def Only (h0 : Heap) (ws : List Addr) (L : List Loc) : Prop := ∀ y ∈ L, y.base ∈ ws ∨ h0.size ≤ y.base
def Kp (h0 h : Heap) (ws : List Addr) (L : List Loc) : Prop := Keep h0 h ws ∧ Only h0 ws L
/-- Q, kept from being reduced -/
def Ap (Q : Option Value → Heap → List Loc → Prop) (v : Option Value) (h : Heap) (L : List Loc) : Prop := Q v h L
/-- a contract: called with 'as' over the heap h0, the method returns within Q -/
def Con (l : Launch) (y : MethodName) (bytes : ByteArray) (maxL : Nat) (ret : Option FieldType) (rm : Room) (Z : State) (as : Array Value) (h0 : Heap) (Q : Option Value → Heap → List Loc → Prop) : Prop :=
  ∀ ws, MetFree l y (head1 (Cond.code y bytes maxL ret :: ws) rm) (fun a U => a = as ∧ Z.Warmed39 U.vm ∧ U.heap = h0) (fun _ _ _ _ _ => True) (fun _ U o U' => ∃ v L, o = .returned v ∧ Ap Q v U'.heap L ∧ FrameEnd U o U' L rm.cells rm.slots)
section G
variable {p : Program} {l : Launch} {e : Env} {R : Room} {s : State} {m : MethodId} {args : Array Value} {below : List Frame} {meth : Method} {c : Code} {T T' : State} {locs : List Loc} {cells slots : Nat} {P : State → Outcome → Prop} {f f' : JFrame} {Z : State} {a0 : Array Value} {h h' h0 : Heap} {a b : Addr} {ws ws' : List Addr} {Lc Lc' : List Loc} {sl : Nat} {v : Value}
theorem Goes.via (q : ∀ t, Steps p.tables e below (T'.setTop f') t → Steps p.tables e below (T.setTop f) t) (k : Goes p e below T' f' P) : Goes p e below T f P := by
  obtain ⟨U, o, h1, h2⟩ := k
  exact ⟨U, o, q U h1, h2⟩
theorem Goes.thru (q : Steps p.tables e below (T.setTop f) (T'.setTop f')) (k : Goes p e below T' f' P) : Goes p e below T f P := by
  obtain ⟨U, o, h1, h2⟩ := k
  exact ⟨U, o, q.trans h1, h2⟩
theorem Goes.ite {c : Prop} [Decidable c] {F : Int32 → JFrame} {a b : Int32} (h1 : c → Goes p e below T (F a) P → Goes p e below T f P) (h2 : ¬ c → Goes p e below T (F b) P → Goes p e below T f P) (k : Goes p e below T (F (if c then a else b)) P) : Goes p e below T f P := by
  by_cases hc : c
  · rw [if_pos hc] at k; exact h1 hc k
  · rw [if_neg hc] at k; exact h2 hc k
theorem Goes.cast (q : f = f') (k : Goes p e below T f' P) : Goes p e below T f P := q ▸ k
theorem Kp.refl (h : Heap) (ws : List Addr) : Kp h h ws [] := ⟨Keep.refl h ws, fun _ q => nomatch q⟩
theorem Kp.ext (K : Kp h0 h ws Lc) (E : Ext h h') : Kp h0 h' ws Lc := ⟨K.1.ext E, K.2⟩
theorem Kp.wr (K : Kp h0 h ws Lc) (W : Wr h h' a sl v) (q : a ∈ ws ∨ h0.size ≤ a) : Kp h0 h' ws (Lc ++ [⟨a, sl⟩]) :=
  ⟨K.1.wr W q, fun y hy => (List.mem_append.mp hy).elim (K.2 y) fun z => by cases List.mem_singleton.mp z; exact q⟩
theorem Kp.call (K : Kp h0 h ws Lc) (K' : Kp h h' ws' Lc') (q : ∀ x ∈ ws', x ∈ ws ∨ h0.size ≤ x) : Kp h0 h' ws (Lc ++ Lc') :=
  ⟨K.1.trans K'.1 q, fun y hy => (List.mem_append.mp hy).elim (K.2 y) fun z => (K'.2 y z).elim (q _) fun u => Or.inr (Nat.le_trans K.1.1 u)⟩
theorem Kp.size (K : Kp h0 h ws Lc) : h0.size ≤ h.size := K.1.1
theorem Kp.fr (K : Kp h0 h [] Lc) : Fr h0.size Lc := fun y hy => (K.2 y hy).elim (fun z => nomatch z) id
theorem Con.of_body {l : Launch} {y : MethodName} {bytes : ByteArray} {maxL : Nat} {ret : Option FieldType} {rm : Room} {Z : State} {as : Array Value} {h0 : Heap} {Q : Option Value → Heap → List Loc → Prop} (hn : plainFor y = true)
    (body : ∀ (p : Program) (e : Env) (s : State) (m : MethodId) (below : List Frame) (meth : Method) (c : Code) (T : State), Stand p l e rm s m as below meth c T [] 0 0 → p.tables.exec = Jvm.exec → c.code = bytes → c.maxLocals = maxL → Z.Warmed39 s.vm → s.vm.findClass y.cls = some m.cls → meth.name = y.name → meth.sig.returnType = ret → meth.locks = false → T.heap = h0 →
      Goes p e below T (entryFrame m as maxL) (fun U o => ∃ v L, o = .returned v ∧ Ap Q v U.heap L ∧ FrameEnd s o U L rm.cells rm.slots)) : Con l y bytes maxL ret rm Z as h0 Q := by
  intro ws
  refine MetFree.of_bodySF hn hisR ?_
  intro p e s m args below meth c s₁ Bd hml hP _
  obtain ⟨rfl, hZ, hh⟩ := hP
  exact body p e s m below meth c s₁ (Stand.of_body Bd) Bd.exec Bd.bytes hml hZ (findClass_of_methodNamed Bd.named) (name_of_methodNamed Bd.named Bd.method).1 Bd.returns (BodyLoose.notSynchronized Bd) (by rw [← hh, Bd.state]; rfl)
theorem Con.back {y : MethodName} {bytes : ByteArray} {maxL : Nat} {ret : Option FieldType} {rm : Room} {len W : Nat} {as' : Array Value} {Q : Option Value → Heap → List Loc → Prop} (hM : Con l y bytes maxL ret rm Z as' h Q)
    (hZ : Z.Warmed39 s.vm) (wc : (Cond.code y bytes maxL ret).before a0 Z = true) (wz : (Cond.initialized y.cls).before a0 Z = true) (hf : rm.frames + 1 ≤ R.frames) (hl : W + (maxL + 11) + rm.locals ≤ R.locals) :
    Back l R p e below s args y len W (fun A a => a = as' ∧ A.U.heap = h ∧ A.cells + rm.cells ≤ R.cells ∧ A.slots + rm.slots ≤ R.slots)
      (fun A _ v B => ∃ L, Q v B.U.heap L ∧ B.locs = A.locs ++ L ∧ B.cells = A.cells + rm.cells ∧ B.slots = A.slots + rm.slots) := backOf (hM []) hZ wc wz hf hl
/-- the end of a walk, for any of the returning instructions -/
theorem Goes.end (X : Stand p l e R s m args below meth c T locs cells slots) (hlk : meth.locks = false) {v : Option Value} (hv : meth.sig.returnType = none → v = none)
    (hs : ∀ fs, (∀ (f : JFrame) (acts : List Action), f.method = m → f.locked = none → f.entered = [] → (doReturn e (T.setTop f) acts v).1 = T.setFrames fs) → Steps p.tables e below (T.setTop f) (T.setFrames fs))
    {Q : Option Value → Heap → List Loc → Prop} {k n : Nat} (hk : cells ≤ k) (hn : slots ≤ n) (q : Q v T.heap locs) : Goes p e below T f (fun U o => ∃ v L, o = .returned v ∧ Ap Q v U.heap L ∧ FrameEnd s o U L k n) := by
  obtain ⟨fs, hr, hrun, hended, hW, hsame⟩ := X.leave hv hlk
  exact ⟨_, _, hs fs hr, hrun, hended, v, locs, rfl, q, ⟨_, rfl⟩, hW, hsame.mono hk hn⟩
theorem retI' (X : Stand p l e R s m args below meth c T locs cells slots) (hx : p.tables.exec = Jvm.exec) {pc : Nat} {Ls : Array Slot} {z : Int32} {rest : List Value} (hret : meth.sig.returnType = some .int) (hd : decode c.code pc = .ok (.ireturn, 1)) {fs : List Frame}
    (hl : ∀ (f : JFrame) (acts : List Action), f.method = m → f.locked = none → f.entered = [] → (doReturn e (T.setTop f) acts (some (.int z))).1 = T.setFrames fs) : Steps p.tables e below (T.setTop (mkF m pc Ls (.int z :: rest))) (T.setFrames fs) :=
  retOut X hx hret rfl (Or.inl ⟨rfl, Or.inl rfl, z, rfl⟩) hd hl
variable {pc pc' : Nat} {L L' : Array Slot} {S : List Value}
variable {Q : Option Value → Heap → List Loc → Prop} {k n : Nat}
theorem Goes.retI (X : Stand p l e R s m args below meth c T locs cells slots) (hx : p.tables.exec = Jvm.exec) (hret : meth.sig.returnType = some .int) (hlk : meth.locks = false) {z : Int32} (hd : decode c.code pc = .ok (.ireturn, 1)) (hk : cells ≤ k) (hn : slots ≤ n) (q : Q (some (.int z)) T.heap locs) :
    Goes p e below T (mkF m pc L (.int z :: S)) (fun U o => ∃ v L, o = .returned v ∧ Ap Q v U.heap L ∧ FrameEnd s o U L k n) :=
  Goes.end X hlk (fun h => by rw [hret] at h; cases h) (fun _ hr => retOut X hx hret rfl (Or.inl ⟨rfl, Or.inl rfl, z, rfl⟩) hd hr) hk hn q
theorem Goes.retN (X : Stand p l e R s m args below meth c T locs cells slots) (hx : p.tables.exec = Jvm.exec) {t : FieldType} (hret : meth.sig.returnType = some t) (ht : t = .boolean ∨ t = .byte ∨ t = .char ∨ t = .short) (hlk : meth.locks = false) {z : Int32} (hd : decode c.code pc = .ok (.ireturn, 1)) (hk : cells ≤ k) (hn : slots ≤ n) (q : Q (some (.int (nar t z))) T.heap locs) :
    Goes p e below T (mkF m pc L (.int z :: S)) (fun U o => ∃ v L, o = .returned v ∧ Ap Q v U.heap L ∧ FrameEnd s o U L k n) :=
  Goes.end X hlk (fun h => by rw [hret] at h; cases h) (fun _ hr => Jvm.RoadKit.retN X hx hret ht hd hr) hk hn q
theorem Goes.retJ (X : Stand p l e R s m args below meth c T locs cells slots) (hx : p.tables.exec = Jvm.exec) (hret : meth.sig.returnType = some .long) (hlk : meth.locks = false) {z : Int64} (hd : decode c.code pc = .ok (.lreturn, 1)) (hk : cells ≤ k) (hn : slots ≤ n) (q : Q (some (.long z)) T.heap locs) :
    Goes p e below T (mkF m pc L (.long z :: S)) (fun U o => ∃ v L, o = .returned v ∧ Ap Q v U.heap L ∧ FrameEnd s o U L k n) :=
  Goes.end X hlk (fun h => by rw [hret] at h; cases h) (fun _ hr => retOut X hx hret rfl (Or.inr (Or.inl ⟨rfl, rfl, z, rfl⟩)) hd hr) hk hn q
theorem Goes.retA (X : Stand p l e R s m args below meth c T locs cells slots) (hx : p.tables.exec = Jvm.exec) {t : FieldType} (hret : meth.sig.returnType = some t) (ht : t.isReference = true) (hlk : meth.locks = false) {z : Value} (hz : z.isRef = true) (hnr : narrow t z = z) (hd : decode c.code pc = .ok (.areturn, 1)) (hk : cells ≤ k) (hn : slots ≤ n) (q : Q (some z) T.heap locs) :
    Goes p e below T (mkF m pc L (z :: S)) (fun U o => ∃ v L, o = .returned v ∧ Ap Q v U.heap L ∧ FrameEnd s o U L k n) :=
  Goes.end X hlk (fun h => by rw [hret] at h; cases h) (fun _ hr => retOut X hx hret hnr (Or.inr (Or.inr (Or.inr (Or.inr ⟨rfl, ht, hz⟩)))) hd hr) hk hn q
theorem Goes.retV (X : Stand p l e R s m args below meth c T locs cells slots) (hx : p.tables.exec = Jvm.exec) (hret : meth.sig.returnType = none) (hlk : meth.locks = false) (hd : decode c.code pc = .ok (.return_, 1)) (hk : cells ≤ k) (hn : slots ≤ n) (q : Q none T.heap locs) :
    Goes p e below T (mkF m pc L []) (fun U o => ∃ v L, o = .returned v ∧ Ap Q v U.heap L ∧ FrameEnd s o U L k n) :=
  Goes.end X hlk (fun _ => rfl) (fun _ hr => X.returnOut hx hret hd hr) hk hn q
theorem G.aload (X : Stand p l e R s m args below meth c T locs cells slots) (hx : p.tables.exec = Jvm.exec) {k : Nat} {v : Value} (hd : decode c.code pc = .ok (.aload k, 2)) (hl : L[k]? = some (.val v)) (hv : v.isRef = true) (hp : pc + 2 = pc') (q : Goes p e below T (mkF m pc' L (v :: S)) P) : Goes p e below T (mkF m pc L (S)) P := by
  subst hp; exact Goes.via (fun _ u => Jvm.Free.XS.aload X.here hx rfl hd hl hv u) q
theorem G.aloadN (X : Stand p l e R s m args below meth c T locs cells slots) (hx : p.tables.exec = Jvm.exec) {k : Fin 4} {v : Value} (hd : decode c.code pc = .ok (.aload_n k, 1)) (hl : L[k.val]? = some (.val v)) (hv : v.isRef = true) (hp : pc + 1 = pc') (q : Goes p e below T (mkF m pc' L (v :: S)) P) : Goes p e below T (mkF m pc L (S)) P := by
  subst hp; exact Goes.via (fun _ u => Jvm.Free.XS.aloadN X.here hx rfl hd hl hv u) q
theorem G.iload (X : Stand p l e R s m args below meth c T locs cells slots) (hx : p.tables.exec = Jvm.exec) {k : Nat} {v : Int32} (hd : decode c.code pc = .ok (.iload k, 2)) (hl : L[k]? = some (.val (.int v))) (hp : pc + 2 = pc') (q : Goes p e below T (mkF m pc' L (.int v :: S)) P) : Goes p e below T (mkF m pc L (S)) P := by
  subst hp; exact Goes.via (fun _ u => Jvm.Free.XS.iload X.here hx rfl hd hl u) q
theorem G.iloadN (X : Stand p l e R s m args below meth c T locs cells slots) (hx : p.tables.exec = Jvm.exec) {k : Fin 4} {v : Int32} (hd : decode c.code pc = .ok (.iload_n k, 1)) (hl : L[k.val]? = some (.val (.int v))) (hp : pc + 1 = pc') (q : Goes p e below T (mkF m pc' L (.int v :: S)) P) : Goes p e below T (mkF m pc L (S)) P := by
  subst hp; exact Goes.via (fun _ u => Jvm.Free.XS.iloadN X.here hx rfl hd hl u) q
theorem G.lload (X : Stand p l e R s m args below meth c T locs cells slots) (hx : p.tables.exec = Jvm.exec) {k : Nat} {v : Int64} (hd : decode c.code pc = .ok (.lload k, 2)) (hl : L[k]? = some (.val (.long v))) (hp : pc + 2 = pc') (q : Goes p e below T (mkF m pc' L (.long v :: S)) P) : Goes p e below T (mkF m pc L (S)) P := by
  subst hp; exact Goes.via (fun _ u => Jvm.Free.XT.lload X.here hx rfl hd hl u) q
theorem G.lloadN (X : Stand p l e R s m args below meth c T locs cells slots) (hx : p.tables.exec = Jvm.exec) {k : Fin 4} {v : Int64} (hd : decode c.code pc = .ok (.lload_n k, 1)) (hl : L[k.val]? = some (.val (.long v))) (hp : pc + 1 = pc') (q : Goes p e below T (mkF m pc' L (.long v :: S)) P) : Goes p e below T (mkF m pc L (S)) P := by
  subst hp; exact Goes.via (fun _ u => Jvm.Free.XT.lloadN X.here hx rfl hd hl u) q
theorem G.istore (X : Stand p l e R s m args below meth c T locs cells slots) (hx : p.tables.exec = Jvm.exec) {k : Nat} {v : Int32} (hd : decode c.code pc = .ok (.istore k, 2)) (hl : storeLocals L k (.int v) = some L') (hp : pc + 2 = pc') (q : Goes p e below T (mkF m pc' L' (S)) P) : Goes p e below T (mkF m pc L (.int v :: S)) P := by
  subst hp; exact Goes.via (fun _ u => Jvm.Free.XS.istore X.here hx rfl hd rfl hl u) q
theorem G.istoreN (X : Stand p l e R s m args below meth c T locs cells slots) (hx : p.tables.exec = Jvm.exec) {k : Fin 4} {v : Int32} (hd : decode c.code pc = .ok (.istore_n k, 1)) (hl : storeLocals L k.val (.int v) = some L') (hp : pc + 1 = pc') (q : Goes p e below T (mkF m pc' L' (S)) P) : Goes p e below T (mkF m pc L (.int v :: S)) P := by
  subst hp; exact Goes.via (fun _ u => Jvm.Free.XS.istoreN X.here hx rfl hd rfl hl u) q
theorem G.lstore (X : Stand p l e R s m args below meth c T locs cells slots) (hx : p.tables.exec = Jvm.exec) {k : Nat} {v : Int64} (hd : decode c.code pc = .ok (.lstore k, 2)) (hl : storeLocals L k (.long v) = some L') (hp : pc + 2 = pc') (q : Goes p e below T (mkF m pc' L' (S)) P) : Goes p e below T (mkF m pc L (.long v :: S)) P := by
  subst hp; exact Goes.via (fun _ u => Jvm.Free.XT.lstore X.here hx rfl hd rfl hl u) q
theorem G.lstoreN (X : Stand p l e R s m args below meth c T locs cells slots) (hx : p.tables.exec = Jvm.exec) {k : Fin 4} {v : Int64} (hd : decode c.code pc = .ok (.lstore_n k, 1)) (hl : storeLocals L k.val (.long v) = some L') (hp : pc + 1 = pc') (q : Goes p e below T (mkF m pc' L' (S)) P) : Goes p e below T (mkF m pc L (.long v :: S)) P := by
  subst hp; exact Goes.via (fun _ u => Jvm.Free.XT.lstoreN X.here hx rfl hd rfl hl u) q
theorem G.astore (X : Stand p l e R s m args below meth c T locs cells slots) (hx : p.tables.exec = Jvm.exec) {k : Nat} {v : Value} (hd : decode c.code pc = .ok (.astore k, 2)) (hv : v.isRef = true) (hl : storeLocals L k v = some L') (hp : pc + 2 = pc') (q : Goes p e below T (mkF m pc' L' (S)) P) : Goes p e below T (mkF m pc L (v :: S)) P := by
  subst hp; exact Goes.via (fun _ u => Jvm.Free.XS.astore X.here hx rfl hd rfl hv hl u) q
theorem G.astoreN (X : Stand p l e R s m args below meth c T locs cells slots) (hx : p.tables.exec = Jvm.exec) {k : Fin 4} {v : Value} (hd : decode c.code pc = .ok (.astore_n k, 1)) (hv : v.isRef = true) (hl : storeLocals L k.val v = some L') (hp : pc + 1 = pc') (q : Goes p e below T (mkF m pc' L' (S)) P) : Goes p e below T (mkF m pc L (v :: S)) P := by
  subst hp; exact Goes.via (fun _ u => Jvm.Free.XS.astoreN X.here hx rfl hd rfl hv hl u) q
theorem G.iinc (X : Stand p l e R s m args below meth c T locs cells slots) (hx : p.tables.exec = Jvm.exec) {k : Nat} {cst : Int} {v : Int32} (hd : decode c.code pc = .ok (.iinc k cst, 3)) (hl : L[k]? = some (.val (.int v))) (hl' : storeLocals L k (.int (v + Int32.ofInt cst)) = some L') (hp : pc + 3 = pc') (q : Goes p e below T (mkF m pc' L' (S)) P) : Goes p e below T (mkF m pc L (S)) P := by
  subst hp; exact Goes.via (fun _ u => Jvm.Free.XS.iinc X.here hx rfl hd hl hl' u) q
theorem G.iconst (X : Stand p l e R s m args below meth c T locs cells slots) (hx : p.tables.exec = Jvm.exec) {i : Int} {z : Int32} (hd : decode c.code pc = .ok (.iconst i, 1)) (hz : Int32.ofInt i = z) (hp : pc + 1 = pc') (q : Goes p e below T (mkF m pc' L (.int z :: S)) P) : Goes p e below T (mkF m pc L S) P := by
  subst hp hz; exact Goes.via (fun _ u => Jvm.Free.XS.iconst X.here hx rfl hd u) q
theorem G.bipush (X : Stand p l e R s m args below meth c T locs cells slots) (hx : p.tables.exec = Jvm.exec) {i : Int} {z : Int32} (hd : decode c.code pc = .ok (.bipush i, 2)) (hz : (Int8.ofInt i).toInt32 = z) (hp : pc + 2 = pc') (q : Goes p e below T (mkF m pc' L (.int z :: S)) P) : Goes p e below T (mkF m pc L S) P := by
  subst hp hz; exact Goes.via (fun _ u => Jvm.Free.XS.bipush X.here hx rfl hd u) q
theorem G.sipush (X : Stand p l e R s m args below meth c T locs cells slots) (hx : p.tables.exec = Jvm.exec) {i : Int} {z : Int32} (hd : decode c.code pc = .ok (.sipush i, 3)) (hz : (Int16.ofInt i).toInt32 = z) (hp : pc + 3 = pc') (q : Goes p e below T (mkF m pc' L (.int z :: S)) P) : Goes p e below T (mkF m pc L S) P := by
  subst hp hz; exact Goes.via (fun _ u => Jvm.Free.XS.sipush X.here hx rfl hd u) q
theorem G.lconst (X : Stand p l e R s m args below meth c T locs cells slots) (hx : p.tables.exec = Jvm.exec) {k : Fin 2} {z : Int64} (hd : decode c.code pc = .ok (.lconst k, 1)) (hz : Int64.ofNat k = z) (hp : pc + 1 = pc') (q : Goes p e below T (mkF m pc' L (.long z :: S)) P) : Goes p e below T (mkF m pc L S) P := by
  subst hp hz; exact Goes.via (fun _ u => Jvm.Free.XT.lconst X.here hx rfl hd u) q
theorem G.aconstNull (X : Stand p l e R s m args below meth c T locs cells slots) (hx : p.tables.exec = Jvm.exec) (hd : decode c.code pc = .ok (.aconst_null, 1)) (hp : pc + 1 = pc') (q : Goes p e below T (mkF m pc' L (.null :: S)) P) : Goes p e below T (mkF m pc L (S)) P := by
  subst hp; exact Goes.via (fun _ u => Jvm.Free.XS.aconstNull X.here hx rfl hd u) q
theorem G.iadd (X : Stand p l e R s m args below meth c T locs cells slots) (hx : p.tables.exec = Jvm.exec) {x y : Int32} (hd : decode c.code pc = .ok (.iadd, 1)) (hp : pc + 1 = pc') (q : Goes p e below T (mkF m pc' L (.int (x + y) :: S)) P) : Goes p e below T (mkF m pc L (.int y :: .int x :: S)) P := by
  subst hp; exact Goes.via (fun _ u => Jvm.Free.XS.iadd X.here hx rfl hd rfl u) q
theorem G.isub (X : Stand p l e R s m args below meth c T locs cells slots) (hx : p.tables.exec = Jvm.exec) {x y : Int32} (hd : decode c.code pc = .ok (.isub, 1)) (hp : pc + 1 = pc') (q : Goes p e below T (mkF m pc' L (.int (x - y) :: S)) P) : Goes p e below T (mkF m pc L (.int y :: .int x :: S)) P := by
  subst hp; exact Goes.via (fun _ u => Jvm.Free.XS.isub X.here hx rfl hd rfl u) q
theorem G.iand (X : Stand p l e R s m args below meth c T locs cells slots) (hx : p.tables.exec = Jvm.exec) {x y : Int32} (hd : decode c.code pc = .ok (.iand, 1)) (hp : pc + 1 = pc') (q : Goes p e below T (mkF m pc' L (.int (x &&& y) :: S)) P) : Goes p e below T (mkF m pc L (.int y :: .int x :: S)) P := by
  subst hp; exact Goes.via (fun _ u => Jvm.Free.XS.iand X.here hx rfl hd rfl u) q
theorem G.imul (X : Stand p l e R s m args below meth c T locs cells slots) (hx : p.tables.exec = Jvm.exec) {x y : Int32} (hd : decode c.code pc = .ok (.imul, 1)) (hp : pc + 1 = pc') (q : Goes p e below T (mkF m pc' L (.int (x * y) :: S)) P) : Goes p e below T (mkF m pc L (.int y :: .int x :: S)) P := by
  subst hp; exact Goes.via (fun _ u => Jvm.Free.XS.imul X.here hx rfl hd rfl u) q
theorem G.ior (X : Stand p l e R s m args below meth c T locs cells slots) (hx : p.tables.exec = Jvm.exec) {x y : Int32} (hd : decode c.code pc = .ok (.ior, 1)) (hp : pc + 1 = pc') (q : Goes p e below T (mkF m pc' L (.int (x ||| y) :: S)) P) : Goes p e below T (mkF m pc L (.int y :: .int x :: S)) P := by
  subst hp; exact Goes.via (fun _ u => Jvm.Free.XT.ior X.here hx rfl hd rfl u) q
theorem G.ixor (X : Stand p l e R s m args below meth c T locs cells slots) (hx : p.tables.exec = Jvm.exec) {x y : Int32} (hd : decode c.code pc = .ok (.ixor, 1)) (hp : pc + 1 = pc') (q : Goes p e below T (mkF m pc' L (.int (x ^^^ y) :: S)) P) : Goes p e below T (mkF m pc L (.int y :: .int x :: S)) P := by
  subst hp; exact Goes.via (fun _ u => Jvm.Free.XT.ixor X.here hx rfl hd rfl u) q
theorem G.ishl (X : Stand p l e R s m args below meth c T locs cells slots) (hx : p.tables.exec = Jvm.exec) {x y : Int32} (hd : decode c.code pc = .ok (.ishl, 1)) (hp : pc + 1 = pc') (q : Goes p e below T (mkF m pc' L (.int (x <<< (y &&& 31)) :: S)) P) : Goes p e below T (mkF m pc L (.int y :: .int x :: S)) P := by
  subst hp; exact Goes.via (fun _ u => Jvm.Free.XT.ishl X.here hx rfl hd rfl u) q
theorem G.ishr (X : Stand p l e R s m args below meth c T locs cells slots) (hx : p.tables.exec = Jvm.exec) {x y : Int32} (hd : decode c.code pc = .ok (.ishr, 1)) (hp : pc + 1 = pc') (q : Goes p e below T (mkF m pc' L (.int (x >>> (y &&& 31)) :: S)) P) : Goes p e below T (mkF m pc L (.int y :: .int x :: S)) P := by
  subst hp; exact Goes.via (fun _ u => Jvm.Free.XT.ishr X.here hx rfl hd rfl u) q
theorem G.iushr (X : Stand p l e R s m args below meth c T locs cells slots) (hx : p.tables.exec = Jvm.exec) {x y : Int32} (hd : decode c.code pc = .ok (.iushr, 1)) (hp : pc + 1 = pc') (q : Goes p e below T (mkF m pc' L (.int (Jvm.Free.XT.ushr x y) :: S)) P) : Goes p e below T (mkF m pc L (.int y :: .int x :: S)) P := by
  subst hp; exact Goes.via (fun _ u => Jvm.Free.XT.iushr X.here hx rfl hd rfl u) q
theorem G.idiv (X : Stand p l e R s m args below meth c T locs cells slots) (hx : p.tables.exec = Jvm.exec) {x y : Int32} (hd : decode c.code pc = .ok (.idiv, 1)) (hy : y ≠ 0) (hp : pc + 1 = pc') (q : Goes p e below T (mkF m pc' L (.int (x / y) :: S)) P) : Goes p e below T (mkF m pc L (.int y :: .int x :: S)) P := by
  subst hp; exact Goes.via (fun _ u => Jvm.Free.XS.idiv X.here hx rfl hd rfl hy u) q
theorem G.irem (X : Stand p l e R s m args below meth c T locs cells slots) (hx : p.tables.exec = Jvm.exec) {x y : Int32} (hd : decode c.code pc = .ok (.irem, 1)) (hy : y ≠ 0) (hp : pc + 1 = pc') (q : Goes p e below T (mkF m pc' L (.int (x % y) :: S)) P) : Goes p e below T (mkF m pc L (.int y :: .int x :: S)) P := by
  subst hp; exact Goes.via (fun _ u => Jvm.RoadKit.iremM X hx rfl hd rfl hy u) q
theorem G.ineg (X : Stand p l e R s m args below meth c T locs cells slots) (hx : p.tables.exec = Jvm.exec) {x : Int32} (hd : decode c.code pc = .ok (.ineg, 1)) (hp : pc + 1 = pc') (q : Goes p e below T (mkF m pc' L (.int (-x) :: S)) P) : Goes p e below T (mkF m pc L (.int x :: S)) P := by
  subst hp; exact Goes.via (fun _ u => Jvm.Free.XS.ineg X.here hx rfl hd rfl u) q
theorem G.ladd (X : Stand p l e R s m args below meth c T locs cells slots) (hx : p.tables.exec = Jvm.exec) {x y : Int64} (hd : decode c.code pc = .ok (.ladd, 1)) (hp : pc + 1 = pc') (q : Goes p e below T (mkF m pc' L (.long (x + y) :: S)) P) : Goes p e below T (mkF m pc L (.long y :: .long x :: S)) P := by
  subst hp; exact Goes.via (fun _ u => Jvm.Free.XT.ladd X.here hx rfl hd rfl u) q
theorem G.lsub (X : Stand p l e R s m args below meth c T locs cells slots) (hx : p.tables.exec = Jvm.exec) {x y : Int64} (hd : decode c.code pc = .ok (.lsub, 1)) (hp : pc + 1 = pc') (q : Goes p e below T (mkF m pc' L (.long (x - y) :: S)) P) : Goes p e below T (mkF m pc L (.long y :: .long x :: S)) P := by
  subst hp; exact Goes.via (fun _ u => Jvm.Free.XT.lsub X.here hx rfl hd rfl u) q
theorem G.lmul (X : Stand p l e R s m args below meth c T locs cells slots) (hx : p.tables.exec = Jvm.exec) {x y : Int64} (hd : decode c.code pc = .ok (.lmul, 1)) (hp : pc + 1 = pc') (q : Goes p e below T (mkF m pc' L (.long (x * y) :: S)) P) : Goes p e below T (mkF m pc L (.long y :: .long x :: S)) P := by
  subst hp; exact Goes.via (fun _ u => Jvm.Free.XT.lmul X.here hx rfl hd rfl u) q
theorem G.land (X : Stand p l e R s m args below meth c T locs cells slots) (hx : p.tables.exec = Jvm.exec) {x y : Int64} (hd : decode c.code pc = .ok (.land, 1)) (hp : pc + 1 = pc') (q : Goes p e below T (mkF m pc' L (.long (x &&& y) :: S)) P) : Goes p e below T (mkF m pc L (.long y :: .long x :: S)) P := by
  subst hp; exact Goes.via (fun _ u => Jvm.Free.XT.land X.here hx rfl hd rfl u) q
theorem G.lor (X : Stand p l e R s m args below meth c T locs cells slots) (hx : p.tables.exec = Jvm.exec) {x y : Int64} (hd : decode c.code pc = .ok (.lor, 1)) (hp : pc + 1 = pc') (q : Goes p e below T (mkF m pc' L (.long (x ||| y) :: S)) P) : Goes p e below T (mkF m pc L (.long y :: .long x :: S)) P := by
  subst hp; exact Goes.via (fun _ u => Jvm.Free.XT.lor X.here hx rfl hd rfl u) q
theorem G.lxor (X : Stand p l e R s m args below meth c T locs cells slots) (hx : p.tables.exec = Jvm.exec) {x y : Int64} (hd : decode c.code pc = .ok (.lxor, 1)) (hp : pc + 1 = pc') (q : Goes p e below T (mkF m pc' L (.long (x ^^^ y) :: S)) P) : Goes p e below T (mkF m pc L (.long y :: .long x :: S)) P := by
  subst hp; exact Goes.via (fun _ u => Jvm.Free.XT.lxor X.here hx rfl hd rfl u) q
theorem G.lshl (X : Stand p l e R s m args below meth c T locs cells slots) (hx : p.tables.exec = Jvm.exec) {x : Int64} {y : Int32} (hd : decode c.code pc = .ok (.lshl, 1)) (hp : pc + 1 = pc') (q : Goes p e below T (mkF m pc' L (.long (x <<< (y.toInt64 &&& 63)) :: S)) P) : Goes p e below T (mkF m pc L (.int y :: .long x :: S)) P := by
  subst hp; exact Goes.via (fun _ u => Jvm.Free.XT.lshl X.here hx rfl hd rfl u) q
theorem G.lshr (X : Stand p l e R s m args below meth c T locs cells slots) (hx : p.tables.exec = Jvm.exec) {x : Int64} {y : Int32} (hd : decode c.code pc = .ok (.lshr, 1)) (hp : pc + 1 = pc') (q : Goes p e below T (mkF m pc' L (.long (x >>> (y.toInt64 &&& 63)) :: S)) P) : Goes p e below T (mkF m pc L (.int y :: .long x :: S)) P := by
  subst hp; exact Goes.via (fun _ u => Jvm.Free.XT.lshr X.here hx rfl hd rfl u) q
theorem G.lushr (X : Stand p l e R s m args below meth c T locs cells slots) (hx : p.tables.exec = Jvm.exec) {x : Int64} {y : Int32} (hd : decode c.code pc = .ok (.lushr, 1)) (hp : pc + 1 = pc') (q : Goes p e below T (mkF m pc' L (.long (Jvm.Free.XT.ushrL x y) :: S)) P) : Goes p e below T (mkF m pc L (.int y :: .long x :: S)) P := by
  subst hp; exact Goes.via (fun _ u => Jvm.Free.XT.lushr X.here hx rfl hd rfl u) q
theorem G.ldiv (X : Stand p l e R s m args below meth c T locs cells slots) (hx : p.tables.exec = Jvm.exec) {x y : Int64} (hd : decode c.code pc = .ok (.ldiv, 1)) (hy : y ≠ 0) (hp : pc + 1 = pc') (q : Goes p e below T (mkF m pc' L (.long (x / y) :: S)) P) : Goes p e below T (mkF m pc L (.long y :: .long x :: S)) P := by
  subst hp; exact Goes.via (fun _ u => Jvm.Free.XT.ldiv X.here hx rfl hd rfl hy u) q
theorem G.lrem (X : Stand p l e R s m args below meth c T locs cells slots) (hx : p.tables.exec = Jvm.exec) {x y : Int64} (hd : decode c.code pc = .ok (.lrem, 1)) (hy : y ≠ 0) (hp : pc + 1 = pc') (q : Goes p e below T (mkF m pc' L (.long (x % y) :: S)) P) : Goes p e below T (mkF m pc L (.long y :: .long x :: S)) P := by
  subst hp; exact Goes.via (fun _ u => Jvm.Free.XT.lrem X.here hx rfl hd rfl hy u) (by rw [lrem_mod]; exact q)
theorem G.lneg (X : Stand p l e R s m args below meth c T locs cells slots) (hx : p.tables.exec = Jvm.exec) {x : Int64} (hd : decode c.code pc = .ok (.lneg, 1)) (hp : pc + 1 = pc') (q : Goes p e below T (mkF m pc' L (.long (-x) :: S)) P) : Goes p e below T (mkF m pc L (.long x :: S)) P := by
  subst hp; exact Goes.via (fun _ u => Jvm.Free.XT.lneg X.here hx rfl hd rfl u) q
theorem G.i2l (X : Stand p l e R s m args below meth c T locs cells slots) (hx : p.tables.exec = Jvm.exec) {x : Int32} (hd : decode c.code pc = .ok (.i2l, 1)) (hp : pc + 1 = pc') (q : Goes p e below T (mkF m pc' L (.long (x.toInt64) :: S)) P) : Goes p e below T (mkF m pc L (.int x :: S)) P := by
  subst hp; exact Goes.via (fun _ u => Jvm.Free.XT.i2l X.here hx rfl hd rfl u) q
theorem G.i2b (X : Stand p l e R s m args below meth c T locs cells slots) (hx : p.tables.exec = Jvm.exec) {x : Int32} (hd : decode c.code pc = .ok (.i2b, 1)) (hp : pc + 1 = pc') (q : Goes p e below T (mkF m pc' L (.int (x.toInt8.toInt32) :: S)) P) : Goes p e below T (mkF m pc L (.int x :: S)) P := by
  subst hp; exact Goes.via (fun _ u => Jvm.Free.XT.i2b X.here hx rfl hd rfl u) q
theorem G.i2c (X : Stand p l e R s m args below meth c T locs cells slots) (hx : p.tables.exec = Jvm.exec) {x : Int32} (hd : decode c.code pc = .ok (.i2c, 1)) (hp : pc + 1 = pc') (q : Goes p e below T (mkF m pc' L (.int (x.toUInt32.toUInt16.toUInt32.toInt32) :: S)) P) : Goes p e below T (mkF m pc L (.int x :: S)) P := by
  subst hp; exact Goes.via (fun _ u => Jvm.Free.XT.i2c X.here hx rfl hd rfl u) q
theorem G.i2s (X : Stand p l e R s m args below meth c T locs cells slots) (hx : p.tables.exec = Jvm.exec) {x : Int32} (hd : decode c.code pc = .ok (.i2s, 1)) (hp : pc + 1 = pc') (q : Goes p e below T (mkF m pc' L (.int (x.toInt16.toInt32) :: S)) P) : Goes p e below T (mkF m pc L (.int x :: S)) P := by
  subst hp; exact Goes.via (fun _ u => Jvm.Free.XT.i2s X.here hx rfl hd rfl u) q
theorem G.l2i (X : Stand p l e R s m args below meth c T locs cells slots) (hx : p.tables.exec = Jvm.exec) {x : Int64} (hd : decode c.code pc = .ok (.l2i, 1)) (hp : pc + 1 = pc') (q : Goes p e below T (mkF m pc' L (.int (x.toInt32) :: S)) P) : Goes p e below T (mkF m pc L (.long x :: S)) P := by
  subst hp; exact Goes.via (fun _ u => Jvm.Free.XT.l2i X.here hx rfl hd rfl u) q
theorem G.lcmp (X : Stand p l e R s m args below meth c T locs cells slots) (hx : p.tables.exec = Jvm.exec) {x y : Int64} (hd : decode c.code pc = .ok (.lcmp, 1)) (hp : pc + 1 = pc') (q : Goes p e below T (mkF m pc' L (.int (Jvm.Free.XT.cmpL x y) :: S)) P) : Goes p e below T (mkF m pc L (.long y :: .long x :: S)) P := by
  subst hp; exact Goes.via (fun _ u => Jvm.Free.XT.lcmp X.here hx rfl hd rfl u) q
theorem G.dup (X : Stand p l e R s m args below meth c T locs cells slots) (hx : p.tables.exec = Jvm.exec) {v : Value} (hd : decode c.code pc = .ok (.dup, 1)) (hv : v.category = 1) (hp : pc + 1 = pc') (q : Goes p e below T (mkF m pc' L (v :: v :: S)) P) : Goes p e below T (mkF m pc L (v :: S)) P := by
  subst hp; exact Goes.via (fun _ u => Jvm.Free.XS.dup X.here hx rfl hd rfl hv u) q
theorem G.pop (X : Stand p l e R s m args below meth c T locs cells slots) (hx : p.tables.exec = Jvm.exec) {v : Value} (hd : decode c.code pc = .ok (.pop, 1)) (hv : v.category = 1) (hp : pc + 1 = pc') (q : Goes p e below T (mkF m pc' L (S)) P) : Goes p e below T (mkF m pc L (v :: S)) P := by
  subst hp; exact Goes.via (fun _ u => Jvm.Free.XT.pop X.here hx rfl hd rfl hv u) q
theorem G.dupX1 (X : Stand p l e R s m args below meth c T locs cells slots) (hx : p.tables.exec = Jvm.exec) {v w : Value} (hd : decode c.code pc = .ok (.dup_x1, 1)) (hv : v.category = 1) (hw : w.category = 1) (hp : pc + 1 = pc') (q : Goes p e below T (mkF m pc' L (v :: w :: v :: S)) P) : Goes p e below T (mkF m pc L (v :: w :: S)) P := by
  subst hp; exact Goes.via (fun _ u => Jvm.Free.XT.dupX1 X.here hx rfl hd rfl hv hw u) q
theorem G.dup2 (X : Stand p l e R s m args below meth c T locs cells slots) (hx : p.tables.exec = Jvm.exec) {v w : Value} (hd : decode c.code pc = .ok (.dup2, 1)) (hv : v.category = 1) (hw : w.category = 1) (hp : pc + 1 = pc') (q : Goes p e below T (mkF m pc' L (v :: w :: v :: w :: S)) P) : Goes p e below T (mkF m pc L (v :: w :: S)) P := by
  subst hp; exact Goes.via (fun _ u => Jvm.Free.XT.dup2 X.here hx rfl hd rfl hv hw u) q
theorem G.goto (X : Stand p l e R s m args below meth c T locs cells slots) (hx : p.tables.exec = Jvm.exec) {o : Int} (hd : decode c.code pc = .ok (.goto o, 3)) (ho : 0 ≤ (pc : Int) + o) (hp : ((pc : Int) + o).toNat = pc') (q : Goes p e below T (mkF m pc' L S) P) : Goes p e below T (mkF m pc L S) P :=
  Goes.via (fun _ u => Jvm.Free.XS.goto X.here hx rfl rfl hd ho hp u) q
theorem G.icmpT (X : Stand p l e R s m args below meth c T locs cells slots) (hx : p.tables.exec = Jvm.exec) {cd : ClassFile.Cond} {x y : Int32} {o : Int} (hd : decode c.code pc = .ok (.if_icmp cd o, 3)) (hc : if_icmp.holds cd x y = true) (ho : 0 ≤ (pc : Int) + o) (hp : ((pc : Int) + o).toNat = pc') (q : Goes p e below T (mkF m pc' L S) P) : Goes p e below T (mkF m pc L (.int y :: .int x :: S)) P :=
  Goes.via (fun _ u => Jvm.Free.XS.icmpYes X.here hx rfl rfl hd rfl hc ho hp u) q
theorem G.icmpF (X : Stand p l e R s m args below meth c T locs cells slots) (hx : p.tables.exec = Jvm.exec) {cd : ClassFile.Cond} {x y : Int32} {o : Int} (hd : decode c.code pc = .ok (.if_icmp cd o, 3)) (hc : if_icmp.holds cd x y = false) (hp : pc + 3 = pc') (q : Goes p e below T (mkF m pc' L S) P) : Goes p e below T (mkF m pc L (.int y :: .int x :: S)) P := by
  subst hp; exact Goes.via (fun _ u => Jvm.Free.XS.icmpNo X.here hx rfl hd rfl hc u) q
theorem G.ifT (X : Stand p l e R s m args below meth c T locs cells slots) (hx : p.tables.exec = Jvm.exec) {cd : ClassFile.Cond} {x : Int32} {o : Int} (hd : decode c.code pc = .ok (.ifCond cd o, 3)) (hc : ifCond.holds cd x = true) (ho : 0 ≤ (pc : Int) + o) (hp : ((pc : Int) + o).toNat = pc') (q : Goes p e below T (mkF m pc' L S) P) : Goes p e below T (mkF m pc L (.int x :: S)) P :=
  Goes.via (fun _ u => Jvm.Free.XS.ifYes X.here hx rfl rfl hd rfl hc ho hp u) q
theorem G.ifF (X : Stand p l e R s m args below meth c T locs cells slots) (hx : p.tables.exec = Jvm.exec) {cd : ClassFile.Cond} {x : Int32} {o : Int} (hd : decode c.code pc = .ok (.ifCond cd o, 3)) (hc : ifCond.holds cd x = false) (hp : pc + 3 = pc') (q : Goes p e below T (mkF m pc' L S) P) : Goes p e below T (mkF m pc L (.int x :: S)) P := by
  subst hp; exact Goes.via (fun _ u => Jvm.Free.XS.ifNo X.here hx rfl hd rfl hc u) q
theorem G.nullT (X : Stand p l e R s m args below meth c T locs cells slots) (hx : p.tables.exec = Jvm.exec) {o : Int} (hd : decode c.code pc = .ok (.ifnull o, 3)) (ho : 0 ≤ (pc : Int) + o) (hp : ((pc : Int) + o).toNat = pc') (q : Goes p e below T (mkF m pc' L S) P) : Goes p e below T (mkF m pc L (.null :: S)) P :=
  Goes.via (fun _ u => Jvm.Free.XS.ifnullYes X.here hx rfl rfl hd rfl ho hp u) q
theorem G.nullF (X : Stand p l e R s m args below meth c T locs cells slots) (hx : p.tables.exec = Jvm.exec) {b : Addr} {o : Int} (hd : decode c.code pc = .ok (.ifnull o, 3)) (hp : pc + 3 = pc') (q : Goes p e below T (mkF m pc' L S) P) : Goes p e below T (mkF m pc L (.ref b :: S)) P := by
  subst hp; exact Goes.via (fun _ u => Jvm.Free.XS.ifnullNo X.here hx rfl hd rfl u) q
theorem G.nonnullT (X : Stand p l e R s m args below meth c T locs cells slots) (hx : p.tables.exec = Jvm.exec) {b : Addr} {o : Int} (hd : decode c.code pc = .ok (.ifnonnull o, 3)) (ho : 0 ≤ (pc : Int) + o) (hp : ((pc : Int) + o).toNat = pc') (q : Goes p e below T (mkF m pc' L S) P) : Goes p e below T (mkF m pc L (.ref b :: S)) P :=
  Goes.via (fun _ u => Jvm.Free.XS.ifnonnullYes X.here hx rfl rfl hd rfl ho hp u) q
theorem G.nonnullF (X : Stand p l e R s m args below meth c T locs cells slots) (hx : p.tables.exec = Jvm.exec) {o : Int} (hd : decode c.code pc = .ok (.ifnonnull o, 3)) (hp : pc + 3 = pc') (q : Goes p e below T (mkF m pc' L S) P) : Goes p e below T (mkF m pc L (.null :: S)) P := by
  subst hp; exact Goes.via (fun _ u => Jvm.Free.XS.ifnonnullNo X.here hx rfl hd rfl u) q
theorem G.acmpT (X : Stand p l e R s m args below meth c T locs cells slots) (hx : p.tables.exec = Jvm.exec) {cd : ACond} {x y : Value} {o : Int} (hd : decode c.code pc = .ok (.if_acmp cd o, 3)) (h1 : x.isRef = true) (h2 : y.isRef = true) {same : Bool} (hq : decide (x = y) = same) (ho : 0 ≤ (pc : Int) + o) (hp : pc' = if acV cd same = true then ((pc : Int) + o).toNat else pc + 3) (q : Goes p e below T (mkF m pc' L S) P) : Goes p e below T (mkF m pc L (y :: x :: S)) P :=
  Goes.via (fun _ u => Jvm.RoadKit.acmp X hx rfl h1 h2 rfl hd rfl hq ho hp u) q
theorem G.ldcInt (X : Stand p l e R s m args below meth c T locs cells slots) (hx : p.tables.exec = Jvm.exec) (hZ : Z.Warmed39 s.vm) {own : String} {index : Nat} {v : Int32} (hown : s.vm.findClass own = some m.cls) (w : (Cond.constant own index v).before a0 Z = true) (hd : decode c.code pc = .ok (.ldc index, 2)) (hp : pc + 2 = pc') (q : Goes p e below T (mkF m pc' L (.int v :: S)) P) : Goes p e below T (mkF m pc L S) P := by
  subst hp; exact Goes.via (X.ldcInt hx hown (mvT hZ w) (g := mkF m pc L S) rfl hd) q
theorem G.ldcLong (X : Stand p l e R s m args below meth c T locs cells slots) (hx : p.tables.exec = Jvm.exec) (hZ : Z.Warmed39 s.vm) {own : String} {index : Nat} {v : Int64} (hown : s.vm.findClass own = some m.cls) (w : (Cond.constantLong own index v).before a0 Z = true) (hd : decode c.code pc = .ok (.ldc2_w index, 3)) (hp : pc + 3 = pc') (q : Goes p e below T (mkF m pc' L (.long v :: S)) P) : Goes p e below T (mkF m pc L S) P := by
  subst hp; exact Goes.via (X.ldc2Long hx hown (mvT hZ w) (g := mkF m pc L S) rfl hd) q
theorem G.getF (X : Stand p l e R s m args below meth c T locs cells slots) (hx : p.tables.exec = Jvm.exec) (hZ : Z.Warmed39 s.vm) {own R0 O n d : String} {index : Nat} (hown : s.vm.findClass own = some m.cls) (w : (Cond.fieldLink own index R0 n d).before a0 Z = true) (via : Via Z R0 O n d) (eT : T.heap = h) (F : Fld Z h a O n d v) (hd : decode c.code pc = .ok (.getfield index, 3)) (hp : pc + 3 = pc')
    (q : ∀ T', Stand p l e R s m args below meth c T' locs cells slots → T'.heap = h → Goes p e below T' (mkF m pc' L (v :: S)) P) : Goes p e below T (mkF m pc L (.ref a :: S)) P := by
  subst hp
  obtain ⟨T', X', e', st⟩ := Jvm.RoadKit.getF X hx hZ hown (host := "") (Or.inl w) via eT F (g := mkF m pc L (.ref a :: S)) rfl rfl hd
  exact Goes.via st (q T' X' e')
theorem G.getS (X : Stand p l e R s m args below meth c T locs cells slots) (hx : p.tables.exec = Jvm.exec) (hZ : Z.Warmed39 s.vm) {own R0 O n d : String} {index : Nat} (hown : s.vm.findClass own = some m.cls) (w : (Cond.fieldLink own index R0 n d).before a0 Z = true) (via : Via Z R0 O n d) (eT : T.heap = h) (F : Sta Z h O n d v) (hd : decode c.code pc = .ok (.getstatic index, 3)) (hp : pc + 3 = pc')
    (q : ∀ T', Stand p l e R s m args below meth c T' locs cells slots → T'.heap = h → Goes p e below T' (mkF m pc' L (v :: S)) P) : Goes p e below T (mkF m pc L S) P := by
  subst hp
  obtain ⟨T', X', e', st⟩ := Jvm.RoadKit.getS2 X hx hZ hown (host := "") (Or.inl w) via eT F (g := mkF m pc L S) rfl hd
  exact Goes.via st (q T' X' e')
theorem G.putF (X : Stand p l e R s m args below meth c T locs cells slots) (hx : p.tables.exec = Jvm.exec) (hZ : Z.Warmed39 s.vm) {own R0 O n d C : String} {index kk : Nat} {ty : FieldType} {old : Value} (hown : s.vm.findClass own = some m.cls) (w : (Cond.fieldLink own index R0 n d).before a0 Z = true) (via : Via Z R0 O n d) (eT : T.heap = h) (F : Fld Z h a O n d old) (E : Exa Z h a C) (Ly : (Cond.lays C O n d).before a0 Z = true ∨ ((Cond.laysFinal C O n d).before a0 Z = true ∧ own = O ∧ meth.name = "<init>")) (wi : (Cond.instantiable C kk).before a0 Z = true)
    (hty : parseFieldDescriptor d = some ty) (hn : narrow ty v = v) (hf : fits ty v = true) (hd : decode c.code pc = .ok (.putfield index, 3)) (hp : pc + 3 = pc')
    (q : ∀ T' h', Stand p l e R s m args below meth c T' (locs ++ [⟨a, Jvm.RoadKit.slotOf Z O n d⟩]) cells slots → T'.heap = h' → Wr h h' a (Jvm.RoadKit.slotOf Z O n d) v → Goes p e below T' (mkF m pc' L S) P) : Goes p e below T (mkF m pc L (v :: .ref a :: S)) P := by
  subst hp
  obtain ⟨T', h', X', e', W', st⟩ := Jvm.RoadKit.putF X hx hZ hown (host := "") (Or.inl w) via eT F E Ly wi hty hn hf (g := mkF m pc L (v :: .ref a :: S)) rfl rfl hd
  exact Goes.via st (q T' h' X' e' W')
theorem G.putFN (X : Stand p l e R s m args below meth c T locs cells slots) (hx : p.tables.exec = Jvm.exec) (hZ : Z.Warmed39 s.vm) {own R0 O n d C : String} {index kk : Nat} {ty : FieldType} {old v' : Value} (hown : s.vm.findClass own = some m.cls) (w : (Cond.fieldLink own index R0 n d).before a0 Z = true) (via : Via Z R0 O n d) (eT : T.heap = h) (F : Fld Z h a O n d old) (E : Exa Z h a C) (Ly : (Cond.lays C O n d).before a0 Z = true ∨ ((Cond.laysFinal C O n d).before a0 Z = true ∧ own = O ∧ meth.name = "<init>")) (wi : (Cond.instantiable C kk).before a0 Z = true)
    (hty : parseFieldDescriptor d = some ty) (hn : narrow ty v = v') (hf : fits ty v' = true) (hd : decode c.code pc = .ok (.putfield index, 3)) (hp : pc + 3 = pc')
    (q : ∀ T' h', Stand p l e R s m args below meth c T' (locs ++ [⟨a, Jvm.RoadKit.slotOf Z O n d⟩]) cells slots → T'.heap = h' → Wr h h' a (Jvm.RoadKit.slotOf Z O n d) v' → Goes p e below T' (mkF m pc' L S) P) : Goes p e below T (mkF m pc L (v :: .ref a :: S)) P := by
  subst hp
  obtain ⟨T', h', X', e', W', st⟩ := Jvm.RoadKit.putFN X hx hZ hown w via eT F E Ly wi hty hn hf (g := mkF m pc L (v :: .ref a :: S)) rfl rfl hd
  exact Goes.via st (q T' h' X' e' W')
theorem G.newO (X : Stand p l e R s m args below meth c T locs cells slots) (hx : p.tables.exec = Jvm.exec) (hZ : Z.Warmed39 s.vm) {own C : String} {index n : Nat} (hown : s.vm.findClass own = some m.cls) (w : (Cond.classLink own index C).before a0 Z = true) (wi : (Cond.instantiable C n).before a0 Z = true) (wz : (Cond.initialized C).before a0 Z = true) (eT : T.heap = h) (hd : decode c.code pc = .ok (.new index, 3)) (hc : cells + 1 ≤ R.cells) (hl : slots + n ≤ R.slots) (hp : pc + 3 = pc')
    (q : ∀ T' h' a, a = h.size → Stand p l e R s m args below meth c T' locs (cells + 1) (slots + n) → T'.heap = h' → Ext h h' → Exa Z h' a C → (∀ {O nm d : String} {ty : FieldType}, Laid Z a0 C O nm d → parseFieldDescriptor d = some ty → Fld Z h' a O nm d (defaultValue ty)) → Goes p e below T' (mkF m pc' L (.ref a :: S)) P) : Goes p e below T (mkF m pc L S) P := by
  subst hp
  obtain ⟨T', h', X', e', E', A', D', -, st⟩ := Jvm.RoadKit.newO X hx hZ hown w wi wz eT (g := mkF m pc L S) rfl hd hc hl
  exact Goes.via st (q T' h' _ rfl X' e' E' A' D')
theorem G.initO (X : Stand p l e R s m args below meth c T locs cells slots) (hx : p.tables.exec = Jvm.exec) (hZ : Z.Warmed39 s.vm) {own : String} {idx : Nat} (hown : s.vm.findClass own = some m.cls) (w1 : (Cond.methodLink own idx Lib.objectInit).before a0 Z = true) (w2 : (Cond.instanceMethod Lib.objectInit).before a0 Z = true) (w3 : (Cond.code Lib.objectInit ⟨#[0xb1]⟩ 1 none).before a0 Z = true) (eT : T.heap = h) (hsz : L.size = c.maxLocals) (hd : decode c.code pc = .ok (.invokespecial idx, 3)) (hf : 1 ≤ R.frames) {W : Nat} (hW : (S.map fun v => v.category).sum ≤ W) (hl : W + 12 ≤ R.locals) (hp : pc + 3 = pc')
    (q : ∀ T', Stand p l e R s m args below meth c T' locs cells slots → T'.heap = h → Goes p e below T' (mkF m pc' L S) P) : Goes p e below T (mkF m pc L (.ref a :: S)) P := by
  subst hp
  obtain ⟨T', X', e', st⟩ := Jvm.RoadKit.initO X hx hZ hown w1 w2 w3 eT (g := mkF m pc L (.ref a :: S)) rfl hsz rfl hd hf (W := W) (by show 2 * 0 + _ ≤ _; omega) hl
  exact Goes.via st (q T' X' e')
/-- an array's components, in order -/
def Seq (Z : State) (h : Heap) (a : Addr) (ty : FieldType) (vs : List Value) : Prop := ∃ cl : Cell, Arr Z h a cl ty ∧ cl.slots.toList = vs ∧ vs.length < 2 ^ 31
variable {vs : List Value} {ty : FieldType} {j : Int32}
theorem Seq.lt (F : Seq Z h a ty vs) : a < h.size := by obtain ⟨_, A, -⟩ := F; exact A.lt
theorem Seq.ext (F : Seq Z h a ty vs) (E : Ext h h') : Seq Z h' a ty vs := by obtain ⟨cl, A, r⟩ := F; exact ⟨cl, A.ext E, r⟩
theorem Seq.other {w : Value} (F : Seq Z h b ty vs) (W : Wr h h' a sl w) (q : b ≠ a) : Seq Z h' b ty vs := by obtain ⟨cl, A, r⟩ := F; exact ⟨cl, A.other W q, r⟩
theorem Seq.keep (F : Seq Z h a ty vs) (K : Keep h h' ws) (q : a ∉ ws) : Seq Z h' a ty vs := by obtain ⟨cl, A, r⟩ := F; exact ⟨cl, ⟨K.2.1 a cl A.1 q, A.2⟩, r⟩
theorem Seq.new {k : ClassId} {z : Int32} (A : Arr Z h a (newA k ty z) ty) (n : Nat) (hn : z.toNatClampNeg = n) : Seq Z h a ty (List.replicate n (defaultValue ty)) := by
  refine ⟨_, A, by rw [← hn]; simp [newA], ?_⟩
  rw [List.length_replicate, ← hn]
  have := Int32.toInt_lt z
  simp only [Int32.toNatClampNeg]
  omega
theorem Seq.at (F : Seq Z h a ty vs) (hj : ¬ j < 0) (hv : vs[j.toNatClampNeg]? = some v) : ∃ cl : Cell, h[a]? = some cl ∧ Z.isArrayOf cl ty ∧ cl.vm ≠ .unknown ∧ ¬ (j < 0 ∨ cl.slots.size ≤ j.toNatClampNeg) ∧ cl.slots[j.toNatClampNeg]? = some v := by
  obtain ⟨cl, A, rfl, hl⟩ := F
  rw [Array.getElem?_toList] at hv
  exact ⟨cl, A.1, A.2.1, A.2.2, fun q => q.elim hj fun q => by have := (Array.getElem?_eq_some_iff.mp hv).1; omega, hv⟩
theorem Seq.set (F : Seq Z h a ty vs) (W : Wr h h' a j.toNatClampNeg v) : Seq Z h' a ty (vs.set j.toNatClampNeg v) := by
  obtain ⟨cl, A, rfl, hl⟩ := F
  exact ⟨_, A.same W, by simp [Cell.setSlot], by simpa using hl⟩
theorem Seq.inb (F : Seq Z h a ty vs) (hj : ¬ j < 0) (hi : j.toNatClampNeg < vs.length) : ∃ cl : Cell, Arr Z h a cl ty ∧ ¬ (j < 0 ∨ cl.slots.size ≤ j.toNatClampNeg) := by
  obtain ⟨cl, A, rfl, hl⟩ := F
  exact ⟨cl, A, fun q => q.elim hj fun q => by rw [Array.length_toList] at hi; omega⟩
theorem G.newP (X : Stand p l e R s m args below meth c T locs cells slots) (hx : p.tables.exec = Jvm.exec) (hZ : Z.Warmed39 s.vm) {aty : ArrayType} (w : (Cond.arrayClass (newarray.typeOf aty)).before a0 Z = true) (eT : T.heap = h) (hd : decode c.code pc = .ok (.newarray aty, 2)) {z : Int32} (hz : ¬ z < 0) {cap n : Nat} (hn : z.toNatClampNeg = n) (hcap : n ≤ cap) (hb : cap * 8 ≤ 536870912) (hc : cells + 1 ≤ R.cells) (hl : slots + cap ≤ R.slots) (hp : pc + 2 = pc')
    (q : ∀ T' h' a, a = h.size → Stand p l e R s m args below meth c T' locs (cells + 1) (slots + cap) → T'.heap = h' → Ext h h' → Seq Z h' a (newarray.typeOf aty) (List.replicate n (defaultValue (newarray.typeOf aty))) → Goes p e below T' (mkF m pc' L (.ref a :: S)) P) : Goes p e below T (mkF m pc L (.int z :: S)) P := by
  subst hp
  obtain ⟨T', h', k, X', e', E', A', st⟩ := Jvm.RoadKit.newP X hx hZ w eT (g := mkF m pc L (.int z :: S)) rfl hd rfl hz (cap := cap) (hn ▸ hcap) hb hc hl
  exact Goes.via st (q T' h' _ rfl X' e' E' (Seq.new A' n hn))
theorem G.arraylength (X : Stand p l e R s m args below meth c T locs cells slots) (hx : p.tables.exec = Jvm.exec) (hZ : Z.Warmed39 s.vm) (eT : T.heap = h) (F : Seq Z h a ty vs) (hd : decode c.code pc = .ok (.arraylength, 1)) {z : Int32} (hz : vs.length.toInt32 = z) (hp : pc + 1 = pc') (q : Goes p e below T (mkF m pc' L (.int z :: S)) P) : Goes p e below T (mkF m pc L (.ref a :: S)) P := by
  subst hp
  obtain ⟨cl, A, rfl, hl⟩ := F
  rw [Array.length_toList] at hz
  subst hz
  exact Goes.via (fun t u => X.arraylength hx (by rw [eT]; exact A.1) (State.isArrayOf_alike hZ.alike A.2.1) (g := mkF m pc L (.ref a :: S)) rfl rfl hd t u) q
theorem G.iaload (X : Stand p l e R s m args below meth c T locs cells slots) (hx : p.tables.exec = Jvm.exec) (hZ : Z.Warmed39 s.vm) (eT : T.heap = h) (F : Seq Z h a .int vs) (hd : decode c.code pc = .ok (.iaload, 1)) (hj : ¬ j < 0) (hv : vs[j.toNatClampNeg]? = some v) (hp : pc + 1 = pc') (q : Goes p e below T (mkF m pc' L (v :: S)) P) : Goes p e below T (mkF m pc L (.int j :: .ref a :: S)) P := by
  subst hp
  obtain ⟨cl, q1, q2, q3, q4, q5⟩ := F.at hj hv
  exact Goes.via (fun t u => X.iaload hx (by rw [eT]; exact q1) (State.isArrayOf_alike hZ.alike q2) q3 q4 q5 (g := mkF m pc L (.int j :: .ref a :: S)) rfl rfl hd t u) q
theorem G.laload (X : Stand p l e R s m args below meth c T locs cells slots) (hx : p.tables.exec = Jvm.exec) (hZ : Z.Warmed39 s.vm) (eT : T.heap = h) (F : Seq Z h a .long vs) (hd : decode c.code pc = .ok (.laload, 1)) (hj : ¬ j < 0) (hv : vs[j.toNatClampNeg]? = some v) (hp : pc + 1 = pc') (q : Goes p e below T (mkF m pc' L (v :: S)) P) : Goes p e below T (mkF m pc L (.int j :: .ref a :: S)) P := by
  subst hp
  obtain ⟨cl, q1, q2, q3, q4, q5⟩ := F.at hj hv
  exact Goes.via (fun t u => X.laload hx (by rw [eT]; exact q1) (State.isArrayOf_alike hZ.alike q2) q3 q4 q5 (g := mkF m pc L (.int j :: .ref a :: S)) rfl rfl hd t u) q
theorem G.baload (X : Stand p l e R s m args below meth c T locs cells slots) (hx : p.tables.exec = Jvm.exec) (hZ : Z.Warmed39 s.vm) (eT : T.heap = h) (F : Seq Z h a .byte vs) (hd : decode c.code pc = .ok (.baload, 1)) (hj : ¬ j < 0) (hv : vs[j.toNatClampNeg]? = some v) (hp : pc + 1 = pc') (q : Goes p e below T (mkF m pc' L (v :: S)) P) : Goes p e below T (mkF m pc L (.int j :: .ref a :: S)) P := by
  subst hp
  obtain ⟨cl, q1, q2, q3, q4, q5⟩ := F.at hj hv
  exact Goes.via (fun t u => X.baloadBytes hx (by rw [eT]; exact q1) (State.isArrayOf_alike hZ.alike q2) q3 q4 q5 (g := mkF m pc L (.int j :: .ref a :: S)) rfl rfl hd t u) q
theorem G.zaload (X : Stand p l e R s m args below meth c T locs cells slots) (hx : p.tables.exec = Jvm.exec) (hZ : Z.Warmed39 s.vm) (eT : T.heap = h) (F : Seq Z h a .boolean vs) (hd : decode c.code pc = .ok (.baload, 1)) (hj : ¬ j < 0) (hv : vs[j.toNatClampNeg]? = some v) (hp : pc + 1 = pc') (q : Goes p e below T (mkF m pc' L (v :: S)) P) : Goes p e below T (mkF m pc L (.int j :: .ref a :: S)) P := by
  subst hp
  obtain ⟨cl, q1, q2, q3, q4, q5⟩ := F.at hj hv
  exact Goes.via (fun t u => X.baloadBooleans hx (by rw [eT]; exact q1) (State.isArrayOf_alike hZ.alike q2) q3 q4 q5 (g := mkF m pc L (.int j :: .ref a :: S)) rfl rfl hd t u) q
theorem G.caload (X : Stand p l e R s m args below meth c T locs cells slots) (hx : p.tables.exec = Jvm.exec) (hZ : Z.Warmed39 s.vm) (eT : T.heap = h) (F : Seq Z h a .char vs) (hd : decode c.code pc = .ok (.caload, 1)) (hj : ¬ j < 0) (hv : vs[j.toNatClampNeg]? = some v) (hp : pc + 1 = pc') (q : Goes p e below T (mkF m pc' L (v :: S)) P) : Goes p e below T (mkF m pc L (.int j :: .ref a :: S)) P := by
  subst hp
  obtain ⟨cl, q1, q2, q3, q4, q5⟩ := F.at hj hv
  exact Goes.via (fun t u => X.caload hx (by rw [eT]; exact q1) (State.isArrayOf_alike hZ.alike q2) q3 q4 q5 (g := mkF m pc L (.int j :: .ref a :: S)) rfl rfl hd t u) q
theorem G.aaload (X : Stand p l e R s m args below meth c T locs cells slots) (hx : p.tables.exec = Jvm.exec) (hZ : Z.Warmed39 s.vm) (eT : T.heap = h) (F : Seq Z h a ty vs) (hty : ty.isReference = true) (hd : decode c.code pc = .ok (.aaload, 1)) (hj : ¬ j < 0) (hv : vs[j.toNatClampNeg]? = some v) (hp : pc + 1 = pc') (q : Goes p e below T (mkF m pc' L (v :: S)) P) : Goes p e below T (mkF m pc L (.int j :: .ref a :: S)) P := by
  subst hp
  obtain ⟨cl, q1, q2, q3, q4, q5⟩ := F.at hj hv
  exact Goes.via (fun t u => X.aaload hx (by rw [eT]; exact q1) (State.isArrayOf_alike hZ.alike q2) hty q3 q4 q5 (g := mkF m pc L (.int j :: .ref a :: S)) rfl rfl hd t u) q
theorem G.iastore (X : Stand p l e R s m args below meth c T locs cells slots) (hx : p.tables.exec = Jvm.exec) (hZ : Z.Warmed39 s.vm) (eT : T.heap = h) (F : Seq Z h a .int vs) {x : Int32} (hd : decode c.code pc = .ok (.iastore, 1)) (hj : ¬ j < 0) (hi : j.toNatClampNeg < vs.length) (hp : pc + 1 = pc')
    (q : ∀ T' h', Stand p l e R s m args below meth c T' (locs ++ [⟨a, j.toNatClampNeg⟩]) cells slots → T'.heap = h' → Wr h h' a j.toNatClampNeg (.int x) → Seq Z h' a .int (vs.set j.toNatClampNeg (.int x)) → Goes p e below T' (mkF m pc' L S) P) : Goes p e below T (mkF m pc L (.int x :: .int j :: .ref a :: S)) P := by
  subst hp
  obtain ⟨cl, A, hj'⟩ := F.inb hj hi
  obtain ⟨T', h', X', e', W', st⟩ := Jvm.RoadKit.stI X hx hZ eT A hj' (g := mkF m pc L (.int x :: .int j :: .ref a :: S)) rfl rfl hd
  exact Goes.via st (q T' h' X' e' W' (F.set W'))
theorem G.lastore (X : Stand p l e R s m args below meth c T locs cells slots) (hx : p.tables.exec = Jvm.exec) (hZ : Z.Warmed39 s.vm) (eT : T.heap = h) (F : Seq Z h a .long vs) {x : Int64} (hd : decode c.code pc = .ok (.lastore, 1)) (hj : ¬ j < 0) (hi : j.toNatClampNeg < vs.length) (hp : pc + 1 = pc')
    (q : ∀ T' h', Stand p l e R s m args below meth c T' (locs ++ [⟨a, j.toNatClampNeg⟩]) cells slots → T'.heap = h' → Wr h h' a j.toNatClampNeg (.long x) → Seq Z h' a .long (vs.set j.toNatClampNeg (.long x)) → Goes p e below T' (mkF m pc' L S) P) : Goes p e below T (mkF m pc L (.long x :: .int j :: .ref a :: S)) P := by
  subst hp
  obtain ⟨cl, A, hj'⟩ := F.inb hj hi
  obtain ⟨T', h', X', e', W', st⟩ := Jvm.RoadKit.stJ X hx hZ eT A hj' (g := mkF m pc L (.long x :: .int j :: .ref a :: S)) rfl rfl hd
  exact Goes.via st (q T' h' X' e' W' (F.set W'))
theorem G.bastore (X : Stand p l e R s m args below meth c T locs cells slots) (hx : p.tables.exec = Jvm.exec) (hZ : Z.Warmed39 s.vm) (eT : T.heap = h) (F : Seq Z h a .byte vs) {x : Int32} (hd : decode c.code pc = .ok (.bastore, 1)) (hj : ¬ j < 0) (hi : j.toNatClampNeg < vs.length) (hp : pc + 1 = pc')
    (q : ∀ T' h', Stand p l e R s m args below meth c T' (locs ++ [⟨a, j.toNatClampNeg⟩]) cells slots → T'.heap = h' → Wr h h' a j.toNatClampNeg (.int (nar .byte x)) → Seq Z h' a .byte (vs.set j.toNatClampNeg (.int (nar .byte x))) → Goes p e below T' (mkF m pc' L S) P) : Goes p e below T (mkF m pc L (.int x :: .int j :: .ref a :: S)) P := by
  subst hp
  obtain ⟨cl, A, hj'⟩ := F.inb hj hi
  obtain ⟨T', h', X', e', W', st⟩ := Jvm.RoadKit.stB X hx hZ eT A hj' (g := mkF m pc L (.int x :: .int j :: .ref a :: S)) rfl rfl hd
  exact Goes.via st (q T' h' X' e' W' (F.set W'))
theorem G.zastore (X : Stand p l e R s m args below meth c T locs cells slots) (hx : p.tables.exec = Jvm.exec) (hZ : Z.Warmed39 s.vm) (eT : T.heap = h) (F : Seq Z h a .boolean vs) {x : Int32} (hd : decode c.code pc = .ok (.bastore, 1)) (hj : ¬ j < 0) (hi : j.toNatClampNeg < vs.length) (hp : pc + 1 = pc')
    (q : ∀ T' h', Stand p l e R s m args below meth c T' (locs ++ [⟨a, j.toNatClampNeg⟩]) cells slots → T'.heap = h' → Wr h h' a j.toNatClampNeg (.int (nar .boolean x)) → Seq Z h' a .boolean (vs.set j.toNatClampNeg (.int (nar .boolean x))) → Goes p e below T' (mkF m pc' L S) P) : Goes p e below T (mkF m pc L (.int x :: .int j :: .ref a :: S)) P := by
  subst hp
  obtain ⟨cl, A, hj'⟩ := F.inb hj hi
  obtain ⟨T', h', X', e', W', st⟩ := Jvm.RoadKit.stZ X hx hZ eT A hj' (g := mkF m pc L (.int x :: .int j :: .ref a :: S)) rfl rfl hd
  exact Goes.via st (q T' h' X' e' W' (F.set W'))
theorem G.castore (X : Stand p l e R s m args below meth c T locs cells slots) (hx : p.tables.exec = Jvm.exec) (hZ : Z.Warmed39 s.vm) (eT : T.heap = h) (F : Seq Z h a .char vs) {x : Int32} (hd : decode c.code pc = .ok (.castore, 1)) (hj : ¬ j < 0) (hi : j.toNatClampNeg < vs.length) (hp : pc + 1 = pc')
    (q : ∀ T' h', Stand p l e R s m args below meth c T' (locs ++ [⟨a, j.toNatClampNeg⟩]) cells slots → T'.heap = h' → Wr h h' a j.toNatClampNeg (.int (nar .char x)) → Seq Z h' a .char (vs.set j.toNatClampNeg (.int (nar .char x))) → Goes p e below T' (mkF m pc' L S) P) : Goes p e below T (mkF m pc L (.int x :: .int j :: .ref a :: S)) P := by
  subst hp
  obtain ⟨cl, A, hj'⟩ := F.inb hj hi
  obtain ⟨T', h', X', e', W', st⟩ := Jvm.RoadKit.stC X hx hZ eT A hj' (g := mkF m pc L (.int x :: .int j :: .ref a :: S)) rfl rfl hd
  exact Goes.via st (q T' h' X' e' W' (F.set W'))
variable {y : MethodName} {bytes : ByteArray} {maxL : Nat} {ret : Option FieldType} {rm : Room} {argsL S0 : List Value} {W : Nat} {QQ : Option Value → Heap → List Loc → Prop}
theorem G.callS (X : Stand p l e R s m args below meth c T locs cells slots) (hx : p.tables.exec = Jvm.exec) (hZ : Z.Warmed39 s.vm) {own : String} {index : Nat} (hown : s.vm.findClass own = some m.cls) (w1 : (Cond.methodLink own index y).before a0 Z = true) (w2 : (Cond.static y).before a0 Z = true) (w3 : (Cond.initialized y.cls).before a0 Z = true) (w4 : (Cond.code y bytes maxL ret).before a0 Z = true)
    (hy : y.cls ≠ "java/lang/invoke/MethodHandle" ∧ y.cls ≠ "java/lang/invoke/VarHandle") (eT : T.heap = h) (hC : Con l y bytes maxL ret rm Z argsL.toArray h QQ) (hlen : ∀ sig, parseMethodDescriptor y.desc = some sig → argsL.length = sig.parameters.length) (hst : S0 = argsL.reverse ++ S) (hW : (S.map fun v => v.category).sum ≤ W)
    (hf : rm.frames + 1 ≤ R.frames) (hl : W + (maxL + 11) + rm.locals ≤ R.locals) (hc : cells + rm.cells ≤ R.cells) (hs : slots + rm.slots ≤ R.slots) (hsz : L.size = c.maxLocals) (hd : decode c.code pc = .ok (.invokestatic index, 3)) (hp : pc + 3 = pc')
    (q : ∀ T' v Lc, QQ v T'.heap Lc → Stand p l e R s m args below meth c T' (locs ++ Lc) (cells + rm.cells) (slots + rm.slots) → Goes p e below T' (mkF m pc' L (v.toList ++ S)) P) : Goes p e below T (mkF m pc L S0) P := by
  subst hp
  obtain ⟨v, vm1, ⟨T', L1, k1, n1⟩, hw1, X', ⟨Lc, hQ, l1, y1, z1⟩, st⟩ := Jvm.LawKit.callS X hx (y := y) hown (mvT hZ w1) (mvT hZ w2) (mvT hZ w3) (mvT hZ w4) hy (hC.back (W := W) hZ w4 w3 hf hl) (g := mkF m pc L S0) rfl hsz (argsL := argsL) (rest := S) hlen hst (by show 2 * 0 + _ ≤ _; omega) hd (fun _ _ => ⟨rfl, eT, hc, hs⟩)
  dsimp only [Pt.U, Pt.locs, Pt.cells, Pt.slots] at X' l1 y1 z1 st hQ
  subst l1 y1 z1
  exact Goes.via st (q T' v Lc hQ X')
theorem G.callI (X : Stand p l e R s m args below meth c T locs cells slots) (hx : p.tables.exec = Jvm.exec) (hZ : Z.Warmed39 s.vm) {own : String} {index : Nat} (hy1 : y.name = "<init>") (hown : s.vm.findClass own = some m.cls) (w1 : (Cond.methodLink own index y).before a0 Z = true) (w2 : (Cond.instanceMethod y).before a0 Z = true) (w3 : (Cond.initialized y.cls).before a0 Z = true) (w4 : (Cond.code y bytes maxL none).before a0 Z = true)
    (hy : y.cls ≠ "java/lang/invoke/MethodHandle" ∧ y.cls ≠ "java/lang/invoke/VarHandle") (eT : T.heap = h) (hC : Con l y bytes maxL none rm Z (.ref a :: argsL).toArray h QQ) (hlen : ∀ sig, parseMethodDescriptor y.desc = some sig → argsL.length = sig.parameters.length) (hst : S0 = argsL.reverse ++ .ref a :: S) (hW : (S.map fun v => v.category).sum ≤ W)
    (hf : rm.frames + 1 ≤ R.frames) (hl : W + (maxL + 11) + rm.locals ≤ R.locals) (hc : cells + rm.cells ≤ R.cells) (hs : slots + rm.slots ≤ R.slots) (hsz : L.size = c.maxLocals) (hd : decode c.code pc = .ok (.invokespecial index, 3)) (hp : pc + 3 = pc')
    (q : ∀ T' v Lc, QQ v T'.heap Lc → Stand p l e R s m args below meth c T' (locs ++ Lc) (cells + rm.cells) (slots + rm.slots) → Goes p e below T' (mkF m pc' L (v.toList ++ S)) P) : Goes p e below T (mkF m pc L S0) P := by
  subst hp
  obtain ⟨v, vm1, ⟨T', L1, k1, n1⟩, hw1, X', ⟨Lc, hQ, l1, y1, z1⟩, st⟩ := X.specialBack hx (y := y) hy1 hown (mvT hZ w1) (mvT hZ w2) (mvT hZ w4) hy (hC.back (W := W) hZ w4 w3 hf hl) (g := mkF m pc L S0) rfl hsz (Steps.refl _) (a := a) (argsL := argsL) (rest := S) hlen hst (by show 2 * 0 + _ ≤ _; omega) hd (fun _ _ => ⟨rfl, eT, hc, hs⟩)
  dsimp only [Pt.U, Pt.locs, Pt.cells, Pt.slots] at X' l1 y1 z1 st hQ
  subst l1 y1 z1
  exact Goes.thru st (q T' v Lc hQ X')
theorem G.callV (X : Stand p l e R s m args below meth c T locs cells slots) (hx : p.tables.exec = Jvm.exec) (hZ : Z.Warmed39 s.vm) {own C : String} {index : Nat} {y0 : MethodName} (hown : s.vm.findClass own = some m.cls) (w1 : (Cond.methodLink own index y0).before a0 Z = true) (w2 : (Cond.declares y0).before a0 Z = true) (hnf : NotFace s y0) (w3 : (Cond.selects C y0 y).before a0 Z = true) (w4 : (Cond.instanceMethod y).before a0 Z = true) (w5 : (Cond.initialized y.cls).before a0 Z = true) (w6 : (Cond.code y bytes maxL ret).before a0 Z = true)
    (hy : y0.cls ≠ "java/lang/invoke/MethodHandle" ∧ y0.cls ≠ "java/lang/invoke/VarHandle") (eT : T.heap = h) (E : Exa Z h a C) (hC : Con l y bytes maxL ret rm Z (.ref a :: argsL).toArray h QQ) (hlen : ∀ sig, parseMethodDescriptor y0.desc = some sig → argsL.length = sig.parameters.length) (hst : S0 = argsL.reverse ++ .ref a :: S) (hW : (S.map fun v => v.category).sum ≤ W)
    (hf : rm.frames + 1 ≤ R.frames) (hl : W + (maxL + 11) + rm.locals ≤ R.locals) (hc : cells + rm.cells ≤ R.cells) (hs : slots + rm.slots ≤ R.slots) (hsz : L.size = c.maxLocals) (hd : decode c.code pc = .ok (.invokevirtual index, 3)) (hp : pc + 3 = pc')
    (q : ∀ T' v Lc, QQ v T'.heap Lc → Stand p l e R s m args below meth c T' (locs ++ Lc) (cells + rm.cells) (slots + rm.slots) → Goes p e below T' (mkF m pc' L (v.toList ++ S)) P) : Goes p e below T (mkF m pc L S0) P := by
  subst hp
  obtain ⟨cB, kB, i1, i2, i3⟩ := isOf hZ eT E
  obtain ⟨v, vm1, ⟨T', L1, k1, n1⟩, hw1, X', ⟨Lc, hQ, l1, y1, z1⟩, st⟩ := X.virtualBack hx (y := y0) (z := y) hown (mvT hZ w1) (mvT hZ w2) hnf (mvT hZ w3) (mvT hZ w4) hy (hC.back (W := W) hZ w6 w5 hf hl) i1 i3 (g := mkF m pc L S0) rfl hsz (Steps.refl _) (argsL := argsL) (rest := S) hlen hst (by show 2 * 0 + _ ≤ _; omega) hd (fun _ _ => ⟨rfl, eT, hc, hs⟩)
  dsimp only [Pt.U, Pt.locs, Pt.cells, Pt.slots] at X' l1 y1 z1 st hQ
  subst l1 y1 z1
  exact Goes.thru st (q T' v Lc hQ X')
def Pur (v0 : Option Value) (h0 : Heap) (v : Option Value) (h : Heap) (L : List Loc) : Prop := v = v0 ∧ h = h0 ∧ L = []
theorem Seq.arv (F : Seq Z h a ty vs) (hf : ∀ v ∈ vs, fits ty v = true) {z : Int32} (hz : z.toNatClampNeg = vs.length) (hz0 : ¬ z < 0) (dv : Value) : ∃ k, Arv Z h a k ty z vs dv := by
  obtain ⟨cl, A, rfl, hl⟩ := F
  rw [Array.length_toList] at hz
  have hg : ∀ i, i < cl.slots.size → cl.slots[i]? = some (cl.slots.toList.getD i dv) := fun i hi => by
    rw [List.getD_eq_getElem?_getD, Array.getElem?_toList, Array.getElem?_eq_getElem hi]; rfl
  refine ⟨cl.cls, cl, A, rfl, hz.symm, hz0, hg, fun i hi => hf _ ?_⟩
  have := hg i hi
  rw [Array.getElem?_eq_getElem hi] at this
  rw [← Option.some.inj this]
  exact Array.mem_toList_iff.mpr (Array.getElem_mem hi)
theorem Arv.seq {k : ClassId} {z : Int32} {dv : Value} (F : Arv Z h a k ty z vs dv) (hl : vs.length = z.toNatClampNeg) : Seq Z h a ty vs := by
  obtain ⟨cl, A, -, S, hz, H, -⟩ := F
  refine ⟨cl, A, ?_, ?_⟩
  · apply List.ext_getElem?
    intro i
    rw [Array.getElem?_toList]
    by_cases hi : i < cl.slots.size
    · rw [H i hi, List.getD_eq_getElem?_getD, List.getElem?_eq_getElem (by omega)]; rfl
    · rw [Array.getElem?_eq_none (by omega), List.getElem?_eq_none (by omega)]
  · have := Int32.toInt_lt z
    rw [hl]; simp only [Int32.toNatClampNeg]; omega
/-- System.arraycopy of the whole int[] a into the head of the int[] b -/
theorem G.copyInts (X : Stand p l e R s m args below meth c T locs cells slots) (hx : p.tables.exec = Jvm.exec) (hZ : Z.Warmed39 s.vm) {own : String} {index : Nat} (hown : s.vm.findClass own = some m.cls) (w1 : (Cond.methodLink own index Jvm.Stand.acN).before a0 Z = true) (w2 : (Cond.native Jvm.Stand.acN).before a0 Z = true) (w3 : (Cond.static Jvm.Stand.acN).before a0 Z = true) (w4 : (Cond.initialized "java/lang/System").before a0 Z = true) (eT : T.heap = h)
    {xs ys : List Value} (A : Seq Z h a .int xs) (B : Seq Z h b .int ys) (hfx : ∀ v ∈ xs, fits .int v = true) (hfy : ∀ v ∈ ys, fits .int v = true) {z z' : Int32} (hz : z.toNatClampNeg = xs.length) (hz0 : ¬ z < 0) (hz' : z'.toNatClampNeg = ys.length) (hz0' : ¬ z' < 0) (hle : xs.length ≤ ys.length) {n0 : Nat} (N : Fr n0 locs) (ge : n0 ≤ b)
    (hsz : L.size = c.maxLocals) (hd : decode c.code pc = .ok (.invokestatic index, 3)) (hf : 1 ≤ R.frames) {W : Nat} (hW : (S.map fun v => v.category).sum ≤ W) (hlo : W + (nativeFrameWords "java/lang/System" "arraycopy" 5 + 11) ≤ R.locals) (hp : pc + 3 = pc')
    (q : ∀ T' h' L', Stand p l e R s m args below meth c T' L' cells slots → T'.heap = h' → Fr n0 L' → Keep h h' [b] → Seq Z h' b .int (xs ++ ys.drop xs.length) → Goes p e below T' (mkF m pc' L S) P) : Goes p e below T (mkF m pc L (.int z :: .int (0 : Int32) :: .ref b :: .int (0 : Int32) :: .ref a :: S)) P := by
  subst hp
  obtain ⟨ka, FA⟩ := A.arv hfx hz hz0 (.int 0)
  obtain ⟨kb, FB⟩ := B.arv hfy hz' hz0' (.int 0)
  have e0 : (0 : Int32).toNatClampNeg = 0 := rfl
  have hus : xs = (List.range z.toNatClampNeg).map fun i => xs.getD ((0 : Int32).toNatClampNeg + i) (.int 0) := by
    refine List.ext_getElem (by simp [hz]) fun i h1 h2 => ?_
    simp [List.getD_eq_getElem?_getD, h1, e0]
  obtain ⟨T', h', L', X', e', N', K', F', st⟩ := Jvm.RoadKit.cpA X hx hZ hown w1 w2 w3 w4 eT (us := xs) FA FB (Or.inl ⟨rfl, rfl⟩) (sp := 0) (dp := 0) (nn := z) (by decide) (by decide) hz0 (by rw [e0]; omega) (by rw [e0]; omega) hus (by rw [e0]; omega) N ge (g := mkF m pc L (.int z :: .int (0 : Int32) :: .ref b :: .int (0 : Int32) :: .ref a :: S)) rfl hsz rfl hd hf (W := W) (by show 2 * 0 + _ ≤ _; omega) hlo
  refine Goes.via st (q T' h' L' X' e' N' K' ?_)
  have := Arv.seq F' (by rw [e0]; simp; omega)
  rw [e0, hz] at this
  simpa using this
theorem sel_priv {s : State} {args : Array Value} {n : Nat} (hins : (Cond.instantiable y.cls n).before args s = true) (hpriv : (Cond.privateMethod y).before args s = true) (hinst : (Cond.instanceMethod y).before args s = true) (hy : y.cls ≠ "java/lang/invoke/MethodHandle" ∧ y.cls ≠ "java/lang/invoke/VarHandle") : (Cond.selects y.cls y y).before args s = true := by
  obtain ⟨c, k, hc, hk, -, hniab, -, -⟩ := Cond.instantiable_spec hins
  have hni : k.isInterface = false := (Bool.or_eq_false_iff.mp hniab).1
  obtain ⟨mk, methM, hnamed, hmethM, -, -⟩ := Cond.instanceMethod_spec hinst
  have hfound : s.methodFound? y.cls y.name y.desc = some mk := State.methodFound?_of_named hnamed hy
  have hcls : mk.cls = c := Option.some.inj ((findClass_of_methodNamed hnamed).symm.trans hc)
  have hsel : selectMethod {} s.vm c mk = .method mk := selectMethod_private hmethM (Cond.privateMethod_at hpriv mk methM hnamed hmethM)
  simp only [Cond.before, Cond.holds, Cond.value, hc, hfound, hnamed, hsel, hcls, hk]
  simp; exact hni
theorem G.callP (X : Stand p l e R s m args below meth c T locs cells slots) (hx : p.tables.exec = Jvm.exec) (hZ : Z.Warmed39 s.vm) {own : String} {index : Nat} (hown : s.vm.findClass own = some m.cls) (w1 : (Cond.methodLink own index y).before a0 Z = true) (w2 : (Cond.instanceMethod y).before a0 Z = true) {kk : Nat} (w3 : (Cond.instantiable y.cls kk).before a0 Z = true) (w4 : (Cond.privateMethod y).before a0 Z = true) (w5 : (Cond.initialized y.cls).before a0 Z = true) (w6 : (Cond.code y bytes maxL ret).before a0 Z = true)
    (hy : y.cls ≠ "java/lang/invoke/MethodHandle" ∧ y.cls ≠ "java/lang/invoke/VarHandle") (eT : T.heap = h) {C : String} (E : Exa Z h a C) (hC : Con l y bytes maxL ret rm Z (.ref a :: argsL).toArray h QQ) (hlen : ∀ sig, parseMethodDescriptor y.desc = some sig → argsL.length = sig.parameters.length) (hst : S0 = argsL.reverse ++ .ref a :: S) (hW : (S.map fun v => v.category).sum ≤ W)
    (hf : rm.frames + 1 ≤ R.frames) (hl : W + (maxL + 11) + rm.locals ≤ R.locals) (hc : cells + rm.cells ≤ R.cells) (hs : slots + rm.slots ≤ R.slots) (hsz : L.size = c.maxLocals) (hd : decode c.code pc = .ok (.invokevirtual index, 3)) (hp : pc + 3 = pc')
    (q : ∀ T' v Lc, QQ v T'.heap Lc → Stand p l e R s m args below meth c T' (locs ++ Lc) (cells + rm.cells) (slots + rm.slots) → Goes p e below T' (mkF m pc' L (v.toList ++ S)) P) : Goes p e below T (mkF m pc L S0) P := by
  subst hp
  obtain ⟨cl, i1, i2⟩ := E.cell
  obtain ⟨v, vm1, ⟨T', L1, k1, n1⟩, hw1, X', ⟨Lc, hQ, l1, y1, z1⟩, st⟩ := X.privateBack hx (y := y) hown (mvT hZ w1) (mvT hZ w2) (sel_priv (mvT hZ w3) (mvP hZ w4) (mvT hZ w2) hy) (Cond.privateMethod_at (mvP hZ w4 (args := #[]))) (mvT hZ w6) hy (hC.back (W := W) hZ w6 w5 hf hl) (g := mkF m pc L S0) rfl hsz (Steps.refl _) (a := a) (by rw [eT]; exact i1) i2 (argsL := argsL) (rest := S) hlen hst (by show 2 * 0 + _ ≤ _; omega) hd (fun _ _ => ⟨rfl, eT, hc, hs⟩)
  dsimp only [Pt.U, Pt.locs, Pt.cells, Pt.slots] at X' l1 y1 z1 st hQ
  subst l1 y1 z1
  exact Goes.thru st (q T' v Lc hQ X')
theorem Sta.keep0 {C n d : String} (F : Sta Z h C n d v) (K : Keep h h' []) : Sta Z h' C n d v := by
  obtain ⟨cf, i, k, f, st, cell, h1, h2, h3, h4, h5, r⟩ := F
  exact ⟨cf, i, k, f, st, cell, h1, h2, h3, h4, K.2.1 _ _ h5 nin0, r⟩
theorem Goes.join {α : Type} {F : α → JFrame} (k : (∀ z, Goes p e below T (F z) P) → Goes p e below T f P) (hj : ∀ z, Goes p e below T (F z) P) : Goes p e below T f P := k hj
theorem Goes.to (k : Goes p e below T f' P → Goes p e below T f P) (q : Goes p e below T f' P) : Goes p e below T f P := k q
theorem Goes.toT (Φ : State → Prop) (k : (∀ T', Φ T' → Goes p e below T' f' P) → Goes p e below T f P) (q : ∀ T', Φ T' → Goes p e below T' f' P) : Goes p e below T f P := k q
/-- a law whose walk may make and intern its String constants: called at the state Z itself -/
def ConW (l : Launch) (y : MethodName) (bytes : ByteArray) (maxL : Nat) (ret : Option FieldType) (rm : Room) (Z : State) (as : Array Value) (Q : Option Value → Heap → List Loc → Prop) : Prop :=
  ∀ ws, MetFree l y (head1 (Cond.code y bytes maxL ret :: ws) rm) (fun a U => a = as ∧ U = Z) (fun _ _ _ _ _ => True) (fun _ U o U' => ∃ v L, o = .returned v ∧ Ap Q v U'.heap L ∧ ReturnedEndW U o U' L rm.cells rm.slots)
theorem ConW.of_body {l : Launch} {y : MethodName} {bytes : ByteArray} {maxL : Nat} {ret : Option FieldType} {rm : Room} {Z : State} {as : Array Value} {Q : Option Value → Heap → List Loc → Prop} (hn : plainFor y = true)
    (body : ∀ (p : Program) (e : Env) (m : MethodId) (below : List Frame) (meth : Method) (c : Code) (T : State), Stand p l e rm (Z.setVm Z.vm) m as below meth c T [] 0 0 → p.tables.exec = Jvm.exec → c.code = bytes → c.maxLocals = maxL → Z.Warmed39 (Z.setVm Z.vm).vm → (Z.setVm Z.vm).vm.findClass y.cls = some m.cls → meth.name = y.name → meth.sig.returnType = ret → meth.locks = false → T.heap = Z.heap →
      Goes p e below T (entryFrame m as maxL) (fun U o => ∃ v L, o = .returned v ∧ Ap Q v U.heap L ∧ ReturnedEndW Z o U L rm.cells rm.slots)) : ConW l y bytes maxL ret rm Z as Q := by
  intro ws
  refine MetFree.of_bodySF hn hisR ?_
  intro p e s m args below meth c s₁ Bd hml hP _
  obtain ⟨rfl, rfl⟩ := hP
  exact body p e m below meth c s₁ (Stand.of_body Bd) Bd.exec Bd.bytes hml (State.Warmed39.refl _) (findClass_of_methodNamed Bd.named) (name_of_methodNamed Bd.named Bd.method).1 Bd.returns (BodyLoose.notSynchronized Bd) (by rw [Bd.state]; rfl)
theorem since0 (s : State) : s.Since s.vm 0 := (State.WarmedH.refl s).since 0
theorem Goes.retNW {vm1 : Vm} {n1 : Nat} (X : Stand p l e R (s.setVm vm1) m args below meth c T locs cells slots) (hS : s.Since vm1 n1) (hn1 : n1 ≤ T.heap.size) (hx : p.tables.exec = Jvm.exec) {t : FieldType} (hret : meth.sig.returnType = some t) (ht : t = .boolean ∨ t = .byte ∨ t = .char ∨ t = .short) (hlk : meth.locks = false) {z : Int32} (hd : decode c.code pc = .ok (.ireturn, 1)) (hk : cells ≤ k) (hn : slots ≤ n) (q : Q (some (.int (nar t z))) T.heap locs) :
    Goes p e below T (mkF m pc L (.int z :: S)) (fun U o => ∃ v L, o = .returned v ∧ Ap Q v U.heap L ∧ ReturnedEndW s o U L k n) := by
  obtain ⟨fs, hr, hrun, hended, hE⟩ := X.leaveW hS hn1 (v := some (.int (nar t z))) (fun h => by rw [hret] at h; cases h) hlk
  exact ⟨_, _, Jvm.RoadKit.retN X hx hret ht hd hr, hrun, hended, _, locs, rfl, q, hE.1, hE.2.1, hE.2.2.1, hE.2.2.2.mono hk hn⟩
theorem G.ldcStr {vm0 : Vm} (X : Stand p l e R (s.setVm vm0) m args below meth c T locs cells slots) (hx : p.tables.exec = Jvm.exec) (hZ : Z.Warmed39 (s.setVm vm0).vm) {own text : String} {index : Nat} (hown : (s.setVm vm0).vm.findClass own = some m.cls) (w : (Cond.stringLink own index text).before a0 Z = true) (wS : ∀ a ∈ Bundle.stringAtoms, a.before a0 Z = true) (eT : T.heap = h) {k0 : Nat} (hS : s.Since vm0 k0) (hk : k0 ≤ h.size)
    (hd : decode c.code pc = .ok (.ldc index, 2)) {n : Nat} (hn : 4 * text.toList.length ≤ n) (hbig : n ≤ 536870912) (hc : cells + 2 ≤ R.cells) (hl : slots + (n + 4) ≤ R.slots) (hp : pc + 2 = pc')
    (q : ∀ a T' h' k1, Stand p l e R (s.setVm T'.vm) m args below meth c T' locs (cells + 2) (slots + (n + 4)) → T'.heap = h' → Ext h h' → s.Since T'.vm k1 → k1 ≤ h'.size → Z.Warmed39 (s.setVm T'.vm).vm → (s.setVm T'.vm).vm.findClass own = some m.cls → Goes p e below T' (mkF m pc' L (.ref a :: S)) P) : Goes p e below T (mkF m pc L S) P := by
  subst hp
  obtain ⟨a, T', h', k1, r1, r2, r3, r4, r5, r6, r7, st⟩ := Jvm.RoadKit.ldcS X hx hZ hown w wS eT hS hk (g := mkF m pc L S) rfl hd hn hbig hc hl
  exact Goes.via st (q a T' h' k1 r1 r2 r3 r4 r5 r6 r7)
theorem G.ldcLit {vm0 : Vm} (X : Stand p l e R (s.setVm vm0) m args below meth c T locs cells slots) (hx : p.tables.exec = Jvm.exec) (hZ : Z.Warmed39 (s.setVm vm0).vm) {own text : String} {index : Nat} (hown : (s.setVm vm0).vm.findClass own = some m.cls) (w : (Cond.stringLink own index text).before a0 Z = true) (wS : ∀ a ∈ Bundle.stringAtoms, a.before a0 Z = true) (eT : T.heap = h) {k0 : Nat} (hS : s.Since vm0 k0) (hk : k0 ≤ h.size)
    (N : Fr s.heap.size locs) (hkeep : ∀ (b : Addr) (cl : Cell), Z.heap[b]? = some cl → s.heap[b]? = some cl) {Ts : List String} (Ib : IB Z vm0 Ts) (hnot : text ∉ Ts) (hh : Jvm.Lit.constHeld Z own index) (hcw : Jvm.Lit.compactW.before a0 Z = true) {vs : List Value} {z : Int32} (ht : (∀ c ∈ text.toList, c.toNat < 256) ∧ text.toList.map (fun c => Value.int (Jvm.Lit.byteI c.toNat.toUInt16)) = vs) (hz : ¬ z < 0) (hzl : z.toNatClampNeg = vs.length)
    (hd : decode c.code pc = .ok (.ldc index, 2)) {n : Nat} (hn : 4 * text.toList.length ≤ n) (hbig : n ≤ 536870912) (hc : cells + 2 ≤ R.cells) (hl : slots + (n + 4) ≤ R.slots) (hp : pc + 2 = pc')
    (q : ∀ a T' h' k1 b, Stand p l e R (s.setVm T'.vm) m args below meth c T' locs (cells + 2) (slots + (n + 4)) → T'.heap = h' → Ext h h' → s.Since T'.vm k1 → k1 ≤ h'.size → Z.Warmed39 (s.setVm T'.vm).vm → (s.setVm T'.vm).vm.findClass own = some m.cls →
      Exa Z h' a "java/lang/String" → Fld Z h' a "java/lang/String" "coder" "B" (.int 0) → Fld Z h' a "java/lang/String" "value" "[B" (.ref b) → Seq Z h' b .byte vs → IB Z T'.vm (text :: Ts) → Goes p e below T' (mkF m pc' L (.ref a :: S)) P) : Goes p e below T (mkF m pc L S) P := by
  subst hp
  obtain ⟨a, T', h', k1, b, k, r1, r2, r3, r4, r5, r6, r7, r8, r9, r10, r11, r12, r13, r14, -, st⟩ := Jvm.RoadKit.ldcSVL X hx hZ hown w wS eT hS hk N hkeep Ib hnot hh hcw ht hz hzl (g := mkF m pc L S) rfl hd hn hbig hc hl
  exact Goes.via st (q a T' h' k1 b r1 r2 r3 r4 r5 r6 r7 r8 r9 r10 (Arv.seq r11 hzl.symm) r14)
theorem len_at {args : Array Value} {first s : State} {o : Option Outcome} {idx : List Nat} {t : Term} {cl : Cell} {z : Int32} (ht : t.eval args first o idx s = some (.ref a)) (ha : s.arrayAt? a = some cl) (hl : (Term.length t).eval args first o idx s = some (.int z)) : cl.slots.size < 2 ^ 31 ∧ cl.slots.size.toInt32 = z := by
  by_cases q : cl.slots.size < 2 ^ 31
  · rw [len_f ht ha q] at hl
    exact ⟨q, Value.int.inj (Option.some.inj hl)⟩
  · simp [Term.eval, ht, ha, q] at hl
theorem toList_eq {xs : Array Value} {vs : List Value} (hs : xs.size = vs.length) (hv : ∀ i, i < vs.length → xs[i]? = vs[i]?) : xs.toList = vs := by
  apply List.ext_getElem?
  intro i
  rw [Array.getElem?_toList]
  by_cases hi : i < vs.length
  · exact hv i hi
  · rw [Array.getElem?_eq_none (by omega), List.getElem?_eq_none (by omega)]
theorem Seq.ne {xs ys : List Value} (F : Seq Z h a ty xs) (H : Seq Z h b ty ys) (q : xs ≠ ys) : a ≠ b := fun e => by
  subst e
  obtain ⟨c1, A1, rfl, -⟩ := F
  obtain ⟨c2, A2, rfl, -⟩ := H
  exact q (by rw [Option.some.inj (A1.1.symm.trans A2.1)])
end G
end Jvm.OwnKit
namespace Jvm.Pilot.@@N@@
open Jvm Jvm.ClassFile Sem Op Lib Jvm.Free Jvm.Stand Jvm.LawKit Jvm.RoadKit Jvm.OwnKit Bundle Jvm.Pilot.@@N@@.Jvm.D
theorem d6_0 : decode prog_25_method_22_code 0 = .ok (.aload_n 0, 1) := by decide +kernel
theorem d6_1 : decode prog_25_method_22_code 1 = .ok (.getfield 33, 3) := by decide +kernel
theorem d6_4 : decode prog_25_method_22_code 4 = .ok (.aload_n 0, 1) := by decide +kernel
theorem d6_5 : decode prog_25_method_22_code 5 = .ok (.getfield 22, 3) := by decide +kernel
theorem d6_8 : decode prog_25_method_22_code 8 = .ok (.if_icmp .ge 72, 3) := by decide +kernel
theorem d6_80 : decode prog_25_method_22_code 80 = .ok (.aload_n 0, 1) := by decide +kernel
theorem d6_81 : decode prog_25_method_22_code 81 = .ok (.getfield 33, 3) := by decide +kernel
theorem d6_84 : decode prog_25_method_22_code 84 = .ok (.aload_n 0, 1) := by decide +kernel
theorem d6_85 : decode prog_25_method_22_code 85 = .ok (.getfield 22, 3) := by decide +kernel
theorem d6_88 : decode prog_25_method_22_code 88 = .ok (.if_icmp .ge 19, 3) := by decide +kernel
theorem d6_107 : decode prog_25_method_22_code 107 = .ok (.iconst (-1), 1) := by decide +kernel
theorem d6_108 : decode prog_25_method_22_code 108 = .ok (.ireturn, 1) := by decide +kernel
theorem d6_11 : decode prog_25_method_22_code 11 = .ok (.aload_n 0, 1) := by decide +kernel
theorem d6_12 : decode prog_25_method_22_code 12 = .ok (.getfield 14, 3) := by decide +kernel
theorem d6_15 : decode prog_25_method_22_code 15 = .ok (.aload_n 0, 1) := by decide +kernel
theorem d6_16 : decode prog_25_method_22_code 16 = .ok (.getfield 33, 3) := by decide +kernel
theorem d6_19 : decode prog_25_method_22_code 19 = .ok (.baload, 1) := by decide +kernel
theorem d6_20 : decode prog_25_method_22_code 20 = .ok (.bipush 32, 2) := by decide +kernel
theorem d6_22 : decode prog_25_method_22_code 22 = .ok (.if_icmp .eq 45, 3) := by decide +kernel
theorem d6_67 : decode prog_25_method_22_code 67 = .ok (.aload_n 0, 1) := by decide +kernel
theorem d6_68 : decode prog_25_method_22_code 68 = .ok (.dup, 1) := by decide +kernel
theorem d6_69 : decode prog_25_method_22_code 69 = .ok (.getfield 33, 3) := by decide +kernel
theorem d6_72 : decode prog_25_method_22_code 72 = .ok (.iconst 1, 1) := by decide +kernel
theorem d6_73 : decode prog_25_method_22_code 73 = .ok (.iadd, 1) := by decide +kernel
theorem d6_74 : decode prog_25_method_22_code 74 = .ok (.putfield 33, 3) := by decide +kernel
theorem d6_77 : decode prog_25_method_22_code 77 = .ok (.goto (-77), 3) := by decide +kernel
theorem d6_25 : decode prog_25_method_22_code 25 = .ok (.aload_n 0, 1) := by decide +kernel
theorem d6_26 : decode prog_25_method_22_code 26 = .ok (.getfield 14, 3) := by decide +kernel
theorem d6_29 : decode prog_25_method_22_code 29 = .ok (.aload_n 0, 1) := by decide +kernel
theorem d6_30 : decode prog_25_method_22_code 30 = .ok (.getfield 33, 3) := by decide +kernel
theorem d6_33 : decode prog_25_method_22_code 33 = .ok (.baload, 1) := by decide +kernel
theorem d6_34 : decode prog_25_method_22_code 34 = .ok (.bipush 9, 2) := by decide +kernel
theorem d6_36 : decode prog_25_method_22_code 36 = .ok (.if_icmp .eq 31, 3) := by decide +kernel
theorem d6_39 : decode prog_25_method_22_code 39 = .ok (.aload_n 0, 1) := by decide +kernel
theorem d6_40 : decode prog_25_method_22_code 40 = .ok (.getfield 14, 3) := by decide +kernel
theorem d6_43 : decode prog_25_method_22_code 43 = .ok (.aload_n 0, 1) := by decide +kernel
theorem d6_44 : decode prog_25_method_22_code 44 = .ok (.getfield 33, 3) := by decide +kernel
theorem d6_47 : decode prog_25_method_22_code 47 = .ok (.baload, 1) := by decide +kernel
theorem d6_48 : decode prog_25_method_22_code 48 = .ok (.bipush 10, 2) := by decide +kernel
theorem d6_50 : decode prog_25_method_22_code 50 = .ok (.if_icmp .eq 17, 3) := by decide +kernel
theorem d6_53 : decode prog_25_method_22_code 53 = .ok (.aload_n 0, 1) := by decide +kernel
theorem d6_54 : decode prog_25_method_22_code 54 = .ok (.getfield 14, 3) := by decide +kernel
theorem d6_57 : decode prog_25_method_22_code 57 = .ok (.aload_n 0, 1) := by decide +kernel
theorem d6_58 : decode prog_25_method_22_code 58 = .ok (.getfield 33, 3) := by decide +kernel
theorem d6_61 : decode prog_25_method_22_code 61 = .ok (.baload, 1) := by decide +kernel
theorem d6_62 : decode prog_25_method_22_code 62 = .ok (.bipush 13, 2) := by decide +kernel
theorem d6_64 : decode prog_25_method_22_code 64 = .ok (.if_icmp .ne 16, 3) := by decide +kernel
theorem d6_91 : decode prog_25_method_22_code 91 = .ok (.aload_n 0, 1) := by decide +kernel
theorem d6_92 : decode prog_25_method_22_code 92 = .ok (.getfield 14, 3) := by decide +kernel
theorem d6_95 : decode prog_25_method_22_code 95 = .ok (.aload_n 0, 1) := by decide +kernel
theorem d6_96 : decode prog_25_method_22_code 96 = .ok (.getfield 33, 3) := by decide +kernel
theorem d6_99 : decode prog_25_method_22_code 99 = .ok (.baload, 1) := by decide +kernel
theorem d6_100 : decode prog_25_method_22_code 100 = .ok (.sipush 255, 3) := by decide +kernel
theorem d6_103 : decode prog_25_method_22_code 103 = .ok (.iand, 1) := by decide +kernel
theorem d6_104 : decode prog_25_method_22_code 104 = .ok (.goto 4, 3) := by decide +kernel
theorem ef6_R (m : MethodId) (x0 : Addr) : entryFrame m #[(.ref x0)] 1 = mkF m 0 #[.val (.ref x0)] [] := by first | (simp [entryFrame, mkF, argsToLocals, Value.category]; done) | rfl
theorem pn_0 : plainName "com/example/wary_offset/waryoffset/remoting/JsonText$Reader" = true := by first | (simp [plainName, overriddenIn]; done) | decide +kernel
theorem d7_0 : decode prog_25_method_4_code 0 = .ok (.aload_n 0, 1) := by decide +kernel
theorem pd_1 : parseMethodDescriptor "()I" = some ⟨[], some .int⟩ := by decide +kernel
theorem d7_1 : decode prog_25_method_4_code 1 = .ok (.invokevirtual 48, 3) := by decide +kernel
theorem d7_4 : decode prog_25_method_4_code 4 = .ok (.iload_n 1, 1) := by decide +kernel
theorem d7_5 : decode prog_25_method_4_code 5 = .ok (.if_icmp .ne 7, 3) := by decide +kernel
theorem d7_8 : decode prog_25_method_4_code 8 = .ok (.iconst 1, 1) := by decide +kernel
theorem d7_9 : decode prog_25_method_4_code 9 = .ok (.goto 4, 3) := by decide +kernel
theorem d7_13 : decode prog_25_method_4_code 13 = .ok (.istore_n 2, 1) := by decide +kernel
theorem d7_14 : decode prog_25_method_4_code 14 = .ok (.iload_n 2, 1) := by decide +kernel
theorem d7_15 : decode prog_25_method_4_code 15 = .ok (.ifCond .eq 13, 3) := by decide +kernel
theorem d7_18 : decode prog_25_method_4_code 18 = .ok (.aload_n 0, 1) := by decide +kernel
theorem d7_19 : decode prog_25_method_4_code 19 = .ok (.dup, 1) := by decide +kernel
theorem d7_20 : decode prog_25_method_4_code 20 = .ok (.getfield 33, 3) := by decide +kernel
theorem d7_23 : decode prog_25_method_4_code 23 = .ok (.iconst 1, 1) := by decide +kernel
theorem d7_24 : decode prog_25_method_4_code 24 = .ok (.iadd, 1) := by decide +kernel
theorem d7_25 : decode prog_25_method_4_code 25 = .ok (.putfield 33, 3) := by decide +kernel
theorem d7_28 : decode prog_25_method_4_code 28 = .ok (.iload_n 2, 1) := by decide +kernel
theorem d7_29 : decode prog_25_method_4_code 29 = .ok (.ireturn, 1) := by decide +kernel
theorem d7_12 : decode prog_25_method_4_code 12 = .ok (.iconst 0, 1) := by decide +kernel
theorem ef7_RI (m : MethodId) (x0 : Addr) (x1 : Int32) : entryFrame m #[(.ref x0), (.int x1)] 3 = mkF m 0 #[.val (.ref x0), .val (.int x1), .unset] [] := by first | (simp [entryFrame, mkF, argsToLocals, Value.category]; done) | rfl
theorem d5_0 : decode prog_25_method_11_code 0 = .ok (.aload_n 0, 1) := by decide +kernel
theorem d5_1 : decode prog_25_method_11_code 1 = .ok (.invokevirtual 48, 3) := by decide +kernel
theorem d5_4 : decode prog_25_method_11_code 4 = .ok (.iconst (-1), 1) := by decide +kernel
theorem d5_5 : decode prog_25_method_11_code 5 = .ok (.if_icmp .eq 10, 3) := by decide +kernel
theorem d5_15 : decode prog_25_method_11_code 15 = .ok (.return_, 1) := by decide +kernel
theorem ef5_R (m : MethodId) (x0 : Addr) : entryFrame m #[(.ref x0)] 1 = mkF m 0 #[.val (.ref x0)] [] := by first | (simp [entryFrame, mkF, argsToLocals, Value.category]; done) | rfl
theorem d3_0 : decode prog_25_method_2_code 0 = .ok (.aload_n 0, 1) := by decide +kernel
theorem d3_1 : decode prog_25_method_2_code 1 = .ok (.invokespecial 9, 3) := by decide +kernel
theorem d3_4 : decode prog_25_method_2_code 4 = .ok (.aload_n 0, 1) := by decide +kernel
theorem d3_5 : decode prog_25_method_2_code 5 = .ok (.aload_n 1, 1) := by decide +kernel
theorem d3_6 : decode prog_25_method_2_code 6 = .ok (.putfield 14, 3) := by decide +kernel
theorem d3_9 : decode prog_25_method_2_code 9 = .ok (.aload_n 0, 1) := by decide +kernel
theorem d3_10 : decode prog_25_method_2_code 10 = .ok (.iload_n 2, 1) := by decide +kernel
theorem d3_11 : decode prog_25_method_2_code 11 = .ok (.putfield 18, 3) := by decide +kernel
theorem d3_14 : decode prog_25_method_2_code 14 = .ok (.aload_n 0, 1) := by decide +kernel
theorem d3_15 : decode prog_25_method_2_code 15 = .ok (.iload_n 2, 1) := by decide +kernel
theorem d3_16 : decode prog_25_method_2_code 16 = .ok (.iload_n 3, 1) := by decide +kernel
theorem d3_17 : decode prog_25_method_2_code 17 = .ok (.iadd, 1) := by decide +kernel
theorem d3_18 : decode prog_25_method_2_code 18 = .ok (.putfield 22, 3) := by decide +kernel
theorem d3_21 : decode prog_25_method_2_code 21 = .ok (.aload_n 0, 1) := by decide +kernel
theorem d3_22 : decode prog_25_method_2_code 22 = .ok (.aload 4, 2) := by decide +kernel
theorem d3_24 : decode prog_25_method_2_code 24 = .ok (.putfield 25, 3) := by decide +kernel
theorem d3_27 : decode prog_25_method_2_code 27 = .ok (.aload_n 0, 1) := by decide +kernel
theorem d3_28 : decode prog_25_method_2_code 28 = .ok (.aload 5, 2) := by decide +kernel
theorem d3_30 : decode prog_25_method_2_code 30 = .ok (.putfield 29, 3) := by decide +kernel
theorem d3_33 : decode prog_25_method_2_code 33 = .ok (.aload_n 0, 1) := by decide +kernel
theorem d3_34 : decode prog_25_method_2_code 34 = .ok (.iload_n 2, 1) := by decide +kernel
theorem d3_35 : decode prog_25_method_2_code 35 = .ok (.putfield 33, 3) := by decide +kernel
theorem d3_38 : decode prog_25_method_2_code 38 = .ok (.return_, 1) := by decide +kernel
theorem ef3_RRIIRN (m : MethodId) (x0 : Addr) (x1 : Addr) (x2 : Int32) (x3 : Int32) (x4 : Addr) : entryFrame m #[(.ref x0), (.ref x1), (.int x2), (.int x3), (.ref x4), .null] 6 = mkF m 0 #[.val (.ref x0), .val (.ref x1), .val (.int x2), .val (.int x3), .val (.ref x4), .val .null] [] := by first | (simp [entryFrame, mkF, argsToLocals, Value.category]; done) | rfl
theorem d2_0 : decode prog_25_method_1_code 0 = .ok (.aload_n 0, 1) := by decide +kernel
theorem d2_1 : decode prog_25_method_1_code 1 = .ok (.aload_n 1, 1) := by decide +kernel
theorem d2_2 : decode prog_25_method_1_code 2 = .ok (.iload_n 2, 1) := by decide +kernel
theorem d2_3 : decode prog_25_method_1_code 3 = .ok (.iload_n 3, 1) := by decide +kernel
theorem d2_4 : decode prog_25_method_1_code 4 = .ok (.aload 4, 2) := by decide +kernel
theorem d2_6 : decode prog_25_method_1_code 6 = .ok (.aconst_null, 1) := by decide +kernel
theorem pd_2 : parseMethodDescriptor "([BIILjava/lang/String;Lcom/example/wary_offset/waryoffset/remoting/JsonText$Strings;)V" = some ⟨[(.array .byte), .int, .int, (.object "java/lang/String"), (.object "com/example/wary_offset/waryoffset/remoting/JsonText$Strings")], none⟩ := by decide +kernel
theorem d2_7 : decode prog_25_method_1_code 7 = .ok (.invokespecial 3, 3) := by decide +kernel
theorem d2_10 : decode prog_25_method_1_code 10 = .ok (.return_, 1) := by decide +kernel
theorem ef2_RRIIR (m : MethodId) (x0 : Addr) (x1 : Addr) (x2 : Int32) (x3 : Int32) (x4 : Addr) : entryFrame m #[(.ref x0), (.ref x1), (.int x2), (.int x3), (.ref x4)] 5 = mkF m 0 #[.val (.ref x0), .val (.ref x1), .val (.int x2), .val (.int x3), .val (.ref x4)] [] := by first | (simp [entryFrame, mkF, argsToLocals, Value.category]; done) | rfl
theorem d1_0 : decode method_2_code 0 = .ok (.iload_n 0, 1) := by decide +kernel
theorem d1_1 : decode method_2_code 1 = .ok (.iconst 3, 1) := by decide +kernel
theorem d1_2 : decode method_2_code 2 = .ok (.iand, 1) := by decide +kernel
theorem d1_3 : decode method_2_code 3 = .ok (.istore_n 1, 1) := by decide +kernel
theorem d1_4 : decode method_2_code 4 = .ok (.iload_n 1, 1) := by decide +kernel
theorem d1_5 : decode method_2_code 5 = .ok (.ifCond .ne 6, 3) := by decide +kernel
theorem d1_8 : decode method_2_code 8 = .ok (.bipush 32, 2) := by decide +kernel
theorem d1_10 : decode method_2_code 10 = .ok (.ireturn, 1) := by decide +kernel
theorem d1_11 : decode method_2_code 11 = .ok (.iload_n 1, 1) := by decide +kernel
theorem d1_12 : decode method_2_code 12 = .ok (.iconst 1, 1) := by decide +kernel
theorem d1_13 : decode method_2_code 13 = .ok (.if_icmp .ne 6, 3) := by decide +kernel
theorem d1_16 : decode method_2_code 16 = .ok (.bipush 9, 2) := by decide +kernel
theorem d1_18 : decode method_2_code 18 = .ok (.ireturn, 1) := by decide +kernel
theorem d1_19 : decode method_2_code 19 = .ok (.iload_n 1, 1) := by decide +kernel
theorem d1_20 : decode method_2_code 20 = .ok (.iconst 2, 1) := by decide +kernel
theorem d1_21 : decode method_2_code 21 = .ok (.if_icmp .ne 6, 3) := by decide +kernel
theorem d1_24 : decode method_2_code 24 = .ok (.bipush 10, 2) := by decide +kernel
theorem d1_26 : decode method_2_code 26 = .ok (.ireturn, 1) := by decide +kernel
theorem d1_27 : decode method_2_code 27 = .ok (.bipush 13, 2) := by decide +kernel
theorem d1_29 : decode method_2_code 29 = .ok (.ireturn, 1) := by decide +kernel
theorem ef1_I (m : MethodId) (x0 : Int32) : entryFrame m #[(.int x0)] 2 = mkF m 0 #[.val (.int x0), .unset] [] := by first | (simp [entryFrame, mkF, argsToLocals, Value.category]; done) | rfl
theorem pn_3 : plainName "com/example/wary_offset/waryoffset/remoting/ReaderExpectEndPinLaw" = true := by first | (simp [plainName, overriddenIn]; done) | decide +kernel
theorem pd_4 : parseMethodDescriptor "(I)B" = some ⟨[.int], some .byte⟩ := by decide +kernel
theorem pd_5 : parseMethodDescriptor "([BIILjava/lang/String;)V" = some ⟨[(.array .byte), .int, .int, (.object "java/lang/String")], none⟩ := by decide +kernel
theorem pd_6 : parseMethodDescriptor "()V" = some ⟨[], none⟩ := by decide +kernel
theorem pd_7 : parseMethodDescriptor "(C)Z" = some ⟨[.char], some .boolean⟩ := by decide +kernel
theorem ef0_IIII (m : MethodId) (x0 : Int32) (x1 : Int32) (x2 : Int32) (x3 : Int32) : entryFrame m #[(.int x0), (.int x1), (.int x2), (.int x3)] maxLocals = mkF m 0 #[.val (.int x0), .val (.int x1), .val (.int x2), .val (.int x3), .unset, .unset, .unset, .unset, .unset] [] := by first | (simp [entryFrame, mkF, argsToLocals, Value.category, maxLocals]; done) | rfl
def isws (x : Int32) : Prop := x = (32 : Int32) ∨ x = (9 : Int32) ∨ x = (10 : Int32) ∨ x = (13 : Int32)
instance own_dws (x : Int32) : Decidable (isws x) := by unfold isws; exact inferInstance
def sk (xs : List Int32) (e : Nat) : Nat → Nat → Nat
  | 0, j => j
  | f + 1, j => if j < e ∧ isws (xs.getD j 0) then sk xs e f (j + 1) else j
def nextv (xs : List Int32) (e j : Nat) : Int32 := if j < e then (xs.getD j 0) &&& (255 : Int32) else (-1 : Int32)
theorem sk_yes {xs : List Int32} {e f j : Nat} (h1 : j < e) (h2 : isws (xs.getD j 0)) : sk xs e (f + 1) j = sk xs e f (j + 1) := by rw [sk, if_pos ⟨h1, h2⟩]
theorem sk_no {xs : List Int32} {e f j : Nat} (h : ¬ (j < e ∧ isws (xs.getD j 0))) : sk xs e f j = j := by cases f with | zero => rfl | succ f => rw [sk, if_neg h]
theorem sk_more {xs : List Int32} {e : Nat} : ∀ (f j : Nat), e - j ≤ f → sk xs e f j = sk xs e (e - j) j
  | 0, j, h => by rw [show e - j = 0 by omega]
  | f + 1, j, h => by
    by_cases q : j < e ∧ isws (xs.getD j 0)
    · rw [sk_yes q.1 q.2, show e - j = (e - (j + 1)) + 1 by omega, sk_yes q.1 q.2]
      exact sk_more f (j + 1) (by omega)
    · rw [sk_no q, sk_no q]
theorem sk_le {xs : List Int32} {e : Nat} : ∀ (f j : Nat), j ≤ e → j ≤ sk xs e f j ∧ sk xs e f j ≤ e
  | 0, j, h => ⟨Nat.le_refl _, h⟩
  | f + 1, j, h => by
    by_cases q : j < e ∧ isws (xs.getD j 0)
    · rw [sk_yes q.1 q.2]; have := sk_le (xs := xs) f (j + 1) q.1; omega
    · rw [sk_no q]; omega
theorem sk_one {xs : List Int32} {e : Nat} : ∀ (k i : Nat), sk xs e (k + 1) i = (if sk xs e k i < e ∧ isws (xs.getD (sk xs e k i) 0) then sk xs e k i + 1 else sk xs e k i)
  | 0, i => rfl
  | k + 1, i => by
    by_cases q : i < e ∧ isws (xs.getD i 0)
    · rw [sk_yes q.1 q.2, sk_yes q.1 q.2]; exact sk_one k (i + 1)
    · rw [sk_no q, sk_no q, if_neg q]
theorem nat_lt {j e : Nat} (hj : j < 1000) (he : e < 1000) : Int32.ofNat j < Int32.ofNat e ↔ j < e := by
  rw [Int32.lt_iff_toInt_lt, Int32.toInt_ofNat_small (by omega), Int32.toInt_ofNat_small (by omega)]; omega
theorem nat_nn {j : Nat} (hj : j < 1000) : ¬ Int32.ofNat j < 0 := by
  rw [Int32.lt_iff_toInt_lt, Int32.toInt_ofNat_small (by omega), show (0 : Int32).toInt = 0 from rfl]; omega
theorem nat_to {j : Nat} (hj : j < 1000) : (Int32.ofNat j).toNatClampNeg = j := by
  simp only [Int32.toNatClampNeg, Int32.toInt_ofNat_small (show j < 2 ^ 31 by omega)]; omega
theorem nat_s {j : Nat} : Int32.ofNat j + (1 : Int32) = Int32.ofNat (j + 1) := by
  rw [Int32.ofNat_add]; rfl
theorem at_map {xs : List Int32} {j : Nat} (hj : j < xs.length) (hs : xs.length < 1000) : (xs.map Value.int)[(Int32.ofNat j).toNatClampNeg]? = some (.int (xs.getD j 0)) := by
  rw [nat_to (by omega), List.getElem?_map, List.getD_eq_getElem?_getD, List.getElem?_eq_getElem hj]; rfl
def wsf (k : Int32) : Int32 := if (k &&& (3 : Int32)) = (0 : Int32) then (32 : Int32) else if (k &&& (3 : Int32)) = (1 : Int32) then (9 : Int32) else if (k &&& (3 : Int32)) = (2 : Int32) then (10 : Int32) else (13 : Int32)
theorem own_ws (k : Int32) : isws (nar .byte (wsf k)) := by
  unfold wsf
  split
  · decide
  · split
    · decide
    · split <;> decide
theorem own_wn (k : Int32) : nar .byte (wsf k) = wsf k := by
  unfold wsf
  split
  · decide
  · split
    · decide
    · split <;> decide
theorem own_c0 (x : Int32) : ¬ (-1 : Int32) = x.toUInt32.toUInt16.toUInt32.toInt32 := fun q => by
  have z0 : (-1 : Int32).toInt = -1 := rfl
  have h := c_i2c x
  rw [← q] at h; omega
theorem own_n (x : Int32) : ((x &&& (2147483647 : Int32)) % (5 : Int32)) = 0 ∨ ((x &&& (2147483647 : Int32)) % (5 : Int32)) = 1 ∨ ((x &&& (2147483647 : Int32)) % (5 : Int32)) = 2 ∨ ((x &&& (2147483647 : Int32)) % (5 : Int32)) = 3 ∨ ((x &&& (2147483647 : Int32)) % (5 : Int32)) = 4 := by
  have e1 : (x &&& (2147483647 : Int32)).toInt = x.toInt % (2 ^ 31 : Nat) := c_mask x 2147483647 31 (by decide) (by decide)
  have e2 := (c_iremV (x &&& (2147483647 : Int32)) 5).1
  have z0 : (0 : Int32).toInt = 0 := rfl
  have z1 : (1 : Int32).toInt = 1 := rfl
  have z2 : (2 : Int32).toInt = 2 := rfl
  have z3 : (3 : Int32).toInt = 3 := rfl
  have z4 : (4 : Int32).toInt = 4 := rfl
  have z5 : (5 : Int32).toInt = 5 := rfl
  simp only [← Int32.toInt_inj]
  omega
theorem own_tok (x : Int32) : 33 ≤ ((33 : Int32) + (Jvm.Free.XT.ushr x (8 : Int32)) % (94 : Int32)).toInt ∧ ((33 : Int32) + (Jvm.Free.XT.ushr x (8 : Int32)) % (94 : Int32)).toInt ≤ 126 := by
  have e0 : (Jvm.Free.XT.ushr x (8 : Int32)).toInt = (x.toInt % 4294967296) / (2 ^ 8 : Nat) := c_iushr x 8 8 (by decide) (by decide)
  have e2 := (c_iremV (Jvm.Free.XT.ushr x (8 : Int32)) 94).1
  have e3 := c_iadd 33 ((Jvm.Free.XT.ushr x (8 : Int32)) % (94 : Int32))
  have r := rng32 ((33 : Int32) + (Jvm.Free.XT.ushr x (8 : Int32)) % (94 : Int32))
  have z1 : (33 : Int32).toInt = 33 := rfl
  have z2 : (94 : Int32).toInt = 94 := rfl
  omega
theorem own_tk (x : Int32) (h : 33 ≤ x.toInt ∧ x.toInt ≤ 126) : nar .byte (x.toInt8.toInt32) = x ∧ x.toUInt32.toUInt16.toUInt32.toInt32 = x ∧ (x &&& (255 : Int32)) = x ∧ ¬ isws x := by
  have b1 := c_i2b x
  have b2 := c_i2b x.toInt8.toInt32
  have b3 := c_i2c x
  have e1 : (x &&& (255 : Int32)).toInt = x.toInt % (2 ^ 8 : Nat) := c_mask x 255 8 (by decide) (by decide)
  refine ⟨?_, ?_, ?_, ?_⟩
  · apply Int32.toInt_inj.mp; show x.toInt8.toInt32.toInt8.toInt32.toInt = x.toInt; omega
  · apply Int32.toInt_inj.mp; omega
  · apply Int32.toInt_inj.mp; omega
  · unfold isws
    rintro (rfl | rfl | rfl | rfl) <;> exact absurd h (by decide)
set_option maxRecDepth 65536 in
set_option maxHeartbeats 40000000 in
theorem rm_next (l : Launch) (Z : State) (a0 : Array Value) (hw : ∀ d ∈ tables_1, d.before a0 Z = true) (r b : Addr) (i ee : Nat) (xs : List Int32) (h0 : Heap) (Er : Exa Z h0 r "com/example/wary_offset/waryoffset/remoting/JsonText$Reader") (Fa : Fld Z h0 r "com/example/wary_offset/waryoffset/remoting/JsonText$Reader" "at" "I" (.int (Int32.ofNat i))) (Fe : Fld Z h0 r "com/example/wary_offset/waryoffset/remoting/JsonText$Reader" "end" "I" (.int (Int32.ofNat ee))) (Ft : Fld Z h0 r "com/example/wary_offset/waryoffset/remoting/JsonText$Reader" "text" "[B" (.ref b)) (A0 : Seq Z h0 b .byte (xs.map Value.int)) (nrb : r ≠ b) (hie : i ≤ ee) (hel : ee ≤ xs.length) (hxl : xs.length < 1000) :
    Con l (⟨"com/example/wary_offset/waryoffset/remoting/JsonText$Reader", "next", "()I"⟩ : MethodName) prog_25_method_22_code 1 (some .int) ({ frames := 0, cells := 0, slots := 0, locals := 0 } : Room) Z #[(.ref r)] h0 (fun v h L => v = some (.int (nextv xs ee (sk xs ee (ee - i) i))) ∧ Kp h0 h [r] L ∧ Fld Z h r "com/example/wary_offset/waryoffset/remoting/JsonText$Reader" "at" "I" (.int (Int32.ofNat (sk xs ee (ee - i) i))) ∧ Fld Z h r "com/example/wary_offset/waryoffset/remoting/JsonText$Reader" "end" "I" (.int (Int32.ofNat ee)) ∧ Fld Z h r "com/example/wary_offset/waryoffset/remoting/JsonText$Reader" "text" "[B" (.ref b)) := by
  refine Con.of_body (plainFor_of_name pn_0) ?_
  intro p e s m below meth c T0 X0 hx hby hml hZ hown hnm hret hlk e0
  have hown : s.vm.findClass "com/example/wary_offset/waryoffset/remoting/JsonText$Reader" = some m.cls := hown
  have hml : c.maxLocals = 1 := hml
  refine Goes.cast (ef6_R m r) ?_
  have K0 := Kp.refl h0 [r]
  have hloop : ∀ (n j : Nat) (Tj : State) (hj : Heap) (Lc : List Loc), ee - j ≤ n → j ≤ ee → sk xs ee (ee - j) j = sk xs ee (ee - i) i → Stand p l e ({ frames := 0, cells := 0, slots := 0, locals := 0 } : Room) s m #[(.ref r)] below meth c Tj Lc 0 0 → Tj.heap = hj → Exa Z hj r "com/example/wary_offset/waryoffset/remoting/JsonText$Reader" → Fld Z hj r "com/example/wary_offset/waryoffset/remoting/JsonText$Reader" "at" "I" (.int (Int32.ofNat j)) → Fld Z hj r "com/example/wary_offset/waryoffset/remoting/JsonText$Reader" "end" "I" (.int (Int32.ofNat ee)) → Fld Z hj r "com/example/wary_offset/waryoffset/remoting/JsonText$Reader" "text" "[B" (.ref b) → Seq Z hj b .byte (xs.map Value.int) → Kp h0 hj [r] Lc → Goes p e below Tj (mkF m 0 #[.val (.ref r)] []) (fun U o => ∃ v L, o = .returned v ∧ Ap (fun v h L => v = some (.int (nextv xs ee (sk xs ee (ee - i) i))) ∧ Kp h0 h [r] L ∧ Fld Z h r "com/example/wary_offset/waryoffset/remoting/JsonText$Reader" "at" "I" (.int (Int32.ofNat (sk xs ee (ee - i) i))) ∧ Fld Z h r "com/example/wary_offset/waryoffset/remoting/JsonText$Reader" "end" "I" (.int (Int32.ofNat ee)) ∧ Fld Z h r "com/example/wary_offset/waryoffset/remoting/JsonText$Reader" "text" "[B" (.ref b)) v U.heap L ∧ FrameEnd s o U L ({ frames := 0, cells := 0, slots := 0, locals := 0 } : Room).cells ({ frames := 0, cells := 0, slots := 0, locals := 0 } : Room).slots) := by
    intro n
    induction n with
    | zero =>
      intro j Tj hj Lc hn hje hsk Xj ej Erj Faj Fej Ftj A0j Kj
      by_cases hlt : j < ee
      · exact absurd hlt (by omega)
      · have hJ : sk xs ee (ee - i) i = j := by rw [← hsk, sk_no (fun q => hlt q.1)]
        refine G.aloadN Xj hx (pc' := 1) (hb hby d6_0) rfl rfl rfl ?_
        refine G.getF Xj hx hZ hown (hw _ (List.mem_of_getElem? (i := 35) rfl)) Via.refl ej Faj (pc' := 4) (hb hby d6_1) rfl fun T1 X1 e1 => ?_
        refine G.aloadN X1 hx (pc' := 5) (hb hby d6_4) rfl rfl rfl ?_
        refine G.getF X1 hx hZ hown (hw _ (List.mem_of_getElem? (i := 29) rfl)) Via.refl e1 Fej (pc' := 8) (hb hby d6_5) rfl fun T2 X2 e2 => ?_
        refine G.icmpT X2 hx (pc' := 80) (hb hby d6_8) (Jvm.Free.XT.ii_ge_t (fun q => hlt ((nat_lt (by omega) (by omega)).mp q))) (by decide) (by decide) ?_
        refine G.aloadN X2 hx (pc' := 81) (hb hby d6_80) rfl rfl rfl ?_
        refine G.getF X2 hx hZ hown (hw _ (List.mem_of_getElem? (i := 35) rfl)) Via.refl e2 Faj (pc' := 84) (hb hby d6_81) rfl fun T3 X3 e3 => ?_
        refine G.aloadN X3 hx (pc' := 85) (hb hby d6_84) rfl rfl rfl ?_
        refine G.getF X3 hx hZ hown (hw _ (List.mem_of_getElem? (i := 29) rfl)) Via.refl e3 Fej (pc' := 88) (hb hby d6_85) rfl fun T4 X4 e4 => ?_
        refine G.icmpT X4 hx (pc' := 107) (hb hby d6_88) (Jvm.Free.XT.ii_ge_t (fun q => hlt ((nat_lt (by omega) (by omega)).mp q))) (by decide) (by decide) ?_
        refine G.iconst X4 hx (pc' := 108) (hb hby d6_107) (z := (-1 : Int32)) rfl rfl ?_
        refine Goes.retI X4 hx hret hlk (hb hby d6_108) (by decide) (by decide) ⟨by rw [hJ, nextv, if_neg hlt], e4 ▸ Kj, by rw [hJ]; exact e4 ▸ Faj, e4 ▸ Fej, e4 ▸ Ftj⟩
    | succ n ih =>
      intro j Tj hj Lc hn hje hsk Xj ej Erj Faj Fej Ftj A0j Kj
      by_cases hlt : j < ee
      · have hin : j < xs.length := by omega
        have hat := at_map hin hxl
        generalize hxx : xs.getD j 0 = xx at hat
        refine G.aloadN Xj hx (pc' := 1) (hb hby d6_0) rfl rfl rfl ?_
        refine G.getF Xj hx hZ hown (hw _ (List.mem_of_getElem? (i := 35) rfl)) Via.refl ej Faj (pc' := 4) (hb hby d6_1) rfl fun T5 X5 e5 => ?_
        refine G.aloadN X5 hx (pc' := 5) (hb hby d6_4) rfl rfl rfl ?_
        refine G.getF X5 hx hZ hown (hw _ (List.mem_of_getElem? (i := 29) rfl)) Via.refl e5 Fej (pc' := 8) (hb hby d6_5) rfl fun T6 X6 e6 => ?_
        refine G.icmpF X6 hx (pc' := 11) (hb hby d6_8) (Jvm.Free.XT.ii_ge_f ((nat_lt (by omega) (by omega)).mpr hlt)) rfl ?_
        refine G.aloadN X6 hx (pc' := 12) (hb hby d6_11) rfl rfl rfl ?_
        refine G.getF X6 hx hZ hown (hw _ (List.mem_of_getElem? (i := 25) rfl)) Via.refl e6 Ftj (pc' := 15) (hb hby d6_12) rfl fun T7 X7 e7 => ?_
        refine G.aloadN X7 hx (pc' := 16) (hb hby d6_15) rfl rfl rfl ?_
        refine G.getF X7 hx hZ hown (hw _ (List.mem_of_getElem? (i := 35) rfl)) Via.refl e7 Faj (pc' := 19) (hb hby d6_16) rfl fun T8 X8 e8 => ?_
        refine G.baload X8 hx hZ e8 A0j (pc' := 20) (v := (.int xx)) (hb hby d6_19) (nat_nn (by omega)) hat rfl ?_
        refine G.bipush X8 hx (pc' := 22) (hb hby d6_20) (z := (32 : Int32)) rfl rfl ?_
        by_cases w1 : xx = (32 : Int32)
        · refine G.icmpT X8 hx (pc' := 67) (hb hby d6_22) (Jvm.Free.XT.ii_eq_t w1) (by decide) (by decide) ?_
          refine G.aloadN X8 hx (pc' := 68) (hb hby d6_67) rfl rfl rfl ?_
          refine G.dup X8 hx (pc' := 69) (hb hby d6_68) rfl rfl ?_
          refine G.getF X8 hx hZ hown (hw _ (List.mem_of_getElem? (i := 35) rfl)) Via.refl e8 Faj (pc' := 72) (hb hby d6_69) rfl fun T9 X9 e9 => ?_
          refine G.iconst X9 hx (pc' := 73) (hb hby d6_72) (z := (1 : Int32)) rfl rfl ?_
          refine G.iadd X9 hx (pc' := 74) (hb hby d6_73) rfl ?_
          refine G.putF X9 hx hZ hown (hw _ (List.mem_of_getElem? (i := 35) rfl)) Via.refl e9 Faj Erj (Or.inl (hw _ (List.mem_of_getElem? (i := 36) rfl))) (hw _ (List.mem_of_getElem? (i := 7) rfl)) (ty := .int) (by decide) rfl rfl (pc' := 77) (hb hby d6_74) rfl fun T10 h10 X10 e10 W10 => ?_
          have F10_r_end := Fld.other W10 Fej (Or.inr (slot_ne (Or.inr (hw _ (List.mem_of_getElem? (i := 30) rfl))) (Or.inl (hw _ (List.mem_of_getElem? (i := 36) rfl))) (by decide) (t := .int) (t' := .int) (by decide) (by decide)))
          have F10_r_text := Fld.other W10 Ftj (Or.inr (slot_ne (Or.inr (hw _ (List.mem_of_getElem? (i := 26) rfl))) (Or.inl (hw _ (List.mem_of_getElem? (i := 36) rfl))) (by decide) (t := (.array .byte)) (t' := .int) (by decide) (by decide)))
          have E10_r := Exa.wr W10 Erj
          have A10_b := Seq.other A0j W10 (Ne.symm nrb)
          have K10 := Kp.wr Kj W10 (Or.inl (List.mem_of_getElem? (i := 0) rfl))
          have F10_r_at := Fld.same W10 Faj
          refine G.goto X10 hx (pc' := 0) (hb hby d6_77) (by decide) (by decide) ?_
          rw [nat_s] at F10_r_at
          exact ih (j + 1) T10 h10 _ (by omega) (by omega) (by rw [← hsk, show ee - j = (ee - (j + 1)) + 1 by omega, sk_yes hlt (by rw [hxx]; unfold isws; simp [w1])]) X10 e10 E10_r F10_r_at F10_r_end F10_r_text A10_b K10
        · refine G.icmpF X8 hx (pc' := 25) (hb hby d6_22) (Jvm.Free.XT.ii_eq_f w1) rfl ?_
          refine G.aloadN X8 hx (pc' := 26) (hb hby d6_25) rfl rfl rfl ?_
          refine G.getF X8 hx hZ hown (hw _ (List.mem_of_getElem? (i := 25) rfl)) Via.refl e8 Ftj (pc' := 29) (hb hby d6_26) rfl fun T11 X11 e11 => ?_
          refine G.aloadN X11 hx (pc' := 30) (hb hby d6_29) rfl rfl rfl ?_
          refine G.getF X11 hx hZ hown (hw _ (List.mem_of_getElem? (i := 35) rfl)) Via.refl e11 Faj (pc' := 33) (hb hby d6_30) rfl fun T12 X12 e12 => ?_
          refine G.baload X12 hx hZ e12 A0j (pc' := 34) (v := (.int xx)) (hb hby d6_33) (nat_nn (by omega)) hat rfl ?_
          refine G.bipush X12 hx (pc' := 36) (hb hby d6_34) (z := (9 : Int32)) rfl rfl ?_
          by_cases w2 : xx = (9 : Int32)
          · refine G.icmpT X12 hx (pc' := 67) (hb hby d6_36) (Jvm.Free.XT.ii_eq_t w2) (by decide) (by decide) ?_
            refine G.aloadN X12 hx (pc' := 68) (hb hby d6_67) rfl rfl rfl ?_
            refine G.dup X12 hx (pc' := 69) (hb hby d6_68) rfl rfl ?_
            refine G.getF X12 hx hZ hown (hw _ (List.mem_of_getElem? (i := 35) rfl)) Via.refl e12 Faj (pc' := 72) (hb hby d6_69) rfl fun T13 X13 e13 => ?_
            refine G.iconst X13 hx (pc' := 73) (hb hby d6_72) (z := (1 : Int32)) rfl rfl ?_
            refine G.iadd X13 hx (pc' := 74) (hb hby d6_73) rfl ?_
            refine G.putF X13 hx hZ hown (hw _ (List.mem_of_getElem? (i := 35) rfl)) Via.refl e13 Faj Erj (Or.inl (hw _ (List.mem_of_getElem? (i := 36) rfl))) (hw _ (List.mem_of_getElem? (i := 7) rfl)) (ty := .int) (by decide) rfl rfl (pc' := 77) (hb hby d6_74) rfl fun T14 h14 X14 e14 W14 => ?_
            have F14_r_end := Fld.other W14 Fej (Or.inr (slot_ne (Or.inr (hw _ (List.mem_of_getElem? (i := 30) rfl))) (Or.inl (hw _ (List.mem_of_getElem? (i := 36) rfl))) (by decide) (t := .int) (t' := .int) (by decide) (by decide)))
            have F14_r_text := Fld.other W14 Ftj (Or.inr (slot_ne (Or.inr (hw _ (List.mem_of_getElem? (i := 26) rfl))) (Or.inl (hw _ (List.mem_of_getElem? (i := 36) rfl))) (by decide) (t := (.array .byte)) (t' := .int) (by decide) (by decide)))
            have E14_r := Exa.wr W14 Erj
            have A14_b := Seq.other A0j W14 (Ne.symm nrb)
            have K14 := Kp.wr Kj W14 (Or.inl (List.mem_of_getElem? (i := 0) rfl))
            have F14_r_at := Fld.same W14 Faj
            refine G.goto X14 hx (pc' := 0) (hb hby d6_77) (by decide) (by decide) ?_
            rw [nat_s] at F14_r_at
            exact ih (j + 1) T14 h14 _ (by omega) (by omega) (by rw [← hsk, show ee - j = (ee - (j + 1)) + 1 by omega, sk_yes hlt (by rw [hxx]; unfold isws; simp [w2])]) X14 e14 E14_r F14_r_at F14_r_end F14_r_text A14_b K14
          · refine G.icmpF X12 hx (pc' := 39) (hb hby d6_36) (Jvm.Free.XT.ii_eq_f w2) rfl ?_
            refine G.aloadN X12 hx (pc' := 40) (hb hby d6_39) rfl rfl rfl ?_
            refine G.getF X12 hx hZ hown (hw _ (List.mem_of_getElem? (i := 25) rfl)) Via.refl e12 Ftj (pc' := 43) (hb hby d6_40) rfl fun T15 X15 e15 => ?_
            refine G.aloadN X15 hx (pc' := 44) (hb hby d6_43) rfl rfl rfl ?_
            refine G.getF X15 hx hZ hown (hw _ (List.mem_of_getElem? (i := 35) rfl)) Via.refl e15 Faj (pc' := 47) (hb hby d6_44) rfl fun T16 X16 e16 => ?_
            refine G.baload X16 hx hZ e16 A0j (pc' := 48) (v := (.int xx)) (hb hby d6_47) (nat_nn (by omega)) hat rfl ?_
            refine G.bipush X16 hx (pc' := 50) (hb hby d6_48) (z := (10 : Int32)) rfl rfl ?_
            by_cases w3 : xx = (10 : Int32)
            · refine G.icmpT X16 hx (pc' := 67) (hb hby d6_50) (Jvm.Free.XT.ii_eq_t w3) (by decide) (by decide) ?_
              refine G.aloadN X16 hx (pc' := 68) (hb hby d6_67) rfl rfl rfl ?_
              refine G.dup X16 hx (pc' := 69) (hb hby d6_68) rfl rfl ?_
              refine G.getF X16 hx hZ hown (hw _ (List.mem_of_getElem? (i := 35) rfl)) Via.refl e16 Faj (pc' := 72) (hb hby d6_69) rfl fun T17 X17 e17 => ?_
              refine G.iconst X17 hx (pc' := 73) (hb hby d6_72) (z := (1 : Int32)) rfl rfl ?_
              refine G.iadd X17 hx (pc' := 74) (hb hby d6_73) rfl ?_
              refine G.putF X17 hx hZ hown (hw _ (List.mem_of_getElem? (i := 35) rfl)) Via.refl e17 Faj Erj (Or.inl (hw _ (List.mem_of_getElem? (i := 36) rfl))) (hw _ (List.mem_of_getElem? (i := 7) rfl)) (ty := .int) (by decide) rfl rfl (pc' := 77) (hb hby d6_74) rfl fun T18 h18 X18 e18 W18 => ?_
              have F18_r_end := Fld.other W18 Fej (Or.inr (slot_ne (Or.inr (hw _ (List.mem_of_getElem? (i := 30) rfl))) (Or.inl (hw _ (List.mem_of_getElem? (i := 36) rfl))) (by decide) (t := .int) (t' := .int) (by decide) (by decide)))
              have F18_r_text := Fld.other W18 Ftj (Or.inr (slot_ne (Or.inr (hw _ (List.mem_of_getElem? (i := 26) rfl))) (Or.inl (hw _ (List.mem_of_getElem? (i := 36) rfl))) (by decide) (t := (.array .byte)) (t' := .int) (by decide) (by decide)))
              have E18_r := Exa.wr W18 Erj
              have A18_b := Seq.other A0j W18 (Ne.symm nrb)
              have K18 := Kp.wr Kj W18 (Or.inl (List.mem_of_getElem? (i := 0) rfl))
              have F18_r_at := Fld.same W18 Faj
              refine G.goto X18 hx (pc' := 0) (hb hby d6_77) (by decide) (by decide) ?_
              rw [nat_s] at F18_r_at
              exact ih (j + 1) T18 h18 _ (by omega) (by omega) (by rw [← hsk, show ee - j = (ee - (j + 1)) + 1 by omega, sk_yes hlt (by rw [hxx]; unfold isws; simp [w3])]) X18 e18 E18_r F18_r_at F18_r_end F18_r_text A18_b K18
            · refine G.icmpF X16 hx (pc' := 53) (hb hby d6_50) (Jvm.Free.XT.ii_eq_f w3) rfl ?_
              refine G.aloadN X16 hx (pc' := 54) (hb hby d6_53) rfl rfl rfl ?_
              refine G.getF X16 hx hZ hown (hw _ (List.mem_of_getElem? (i := 25) rfl)) Via.refl e16 Ftj (pc' := 57) (hb hby d6_54) rfl fun T19 X19 e19 => ?_
              refine G.aloadN X19 hx (pc' := 58) (hb hby d6_57) rfl rfl rfl ?_
              refine G.getF X19 hx hZ hown (hw _ (List.mem_of_getElem? (i := 35) rfl)) Via.refl e19 Faj (pc' := 61) (hb hby d6_58) rfl fun T20 X20 e20 => ?_
              refine G.baload X20 hx hZ e20 A0j (pc' := 62) (v := (.int xx)) (hb hby d6_61) (nat_nn (by omega)) hat rfl ?_
              refine G.bipush X20 hx (pc' := 64) (hb hby d6_62) (z := (13 : Int32)) rfl rfl ?_
              by_cases w4 : xx = (13 : Int32)
              · refine G.icmpF X20 hx (pc' := 67) (hb hby d6_64) (Jvm.Free.XT.ii_ne_f w4) rfl ?_
                refine G.aloadN X20 hx (pc' := 68) (hb hby d6_67) rfl rfl rfl ?_
                refine G.dup X20 hx (pc' := 69) (hb hby d6_68) rfl rfl ?_
                refine G.getF X20 hx hZ hown (hw _ (List.mem_of_getElem? (i := 35) rfl)) Via.refl e20 Faj (pc' := 72) (hb hby d6_69) rfl fun T21 X21 e21 => ?_
                refine G.iconst X21 hx (pc' := 73) (hb hby d6_72) (z := (1 : Int32)) rfl rfl ?_
                refine G.iadd X21 hx (pc' := 74) (hb hby d6_73) rfl ?_
                refine G.putF X21 hx hZ hown (hw _ (List.mem_of_getElem? (i := 35) rfl)) Via.refl e21 Faj Erj (Or.inl (hw _ (List.mem_of_getElem? (i := 36) rfl))) (hw _ (List.mem_of_getElem? (i := 7) rfl)) (ty := .int) (by decide) rfl rfl (pc' := 77) (hb hby d6_74) rfl fun T22 h22 X22 e22 W22 => ?_
                have F22_r_end := Fld.other W22 Fej (Or.inr (slot_ne (Or.inr (hw _ (List.mem_of_getElem? (i := 30) rfl))) (Or.inl (hw _ (List.mem_of_getElem? (i := 36) rfl))) (by decide) (t := .int) (t' := .int) (by decide) (by decide)))
                have F22_r_text := Fld.other W22 Ftj (Or.inr (slot_ne (Or.inr (hw _ (List.mem_of_getElem? (i := 26) rfl))) (Or.inl (hw _ (List.mem_of_getElem? (i := 36) rfl))) (by decide) (t := (.array .byte)) (t' := .int) (by decide) (by decide)))
                have E22_r := Exa.wr W22 Erj
                have A22_b := Seq.other A0j W22 (Ne.symm nrb)
                have K22 := Kp.wr Kj W22 (Or.inl (List.mem_of_getElem? (i := 0) rfl))
                have F22_r_at := Fld.same W22 Faj
                refine G.goto X22 hx (pc' := 0) (hb hby d6_77) (by decide) (by decide) ?_
                rw [nat_s] at F22_r_at
                exact ih (j + 1) T22 h22 _ (by omega) (by omega) (by rw [← hsk, show ee - j = (ee - (j + 1)) + 1 by omega, sk_yes hlt (by rw [hxx]; unfold isws; simp [w4])]) X22 e22 E22_r F22_r_at F22_r_end F22_r_text A22_b K22
              · refine G.icmpT X20 hx (pc' := 80) (hb hby d6_64) (Jvm.Free.XT.ii_ne_t w4) (by decide) (by decide) ?_
                have hJ : sk xs ee (ee - i) i = j := by rw [← hsk, sk_no (fun q => by have q2 := q.2; rw [hxx] at q2; unfold isws at q2; simp [w1, w2, w3, w4] at q2)]
                refine G.aloadN X20 hx (pc' := 81) (hb hby d6_80) rfl rfl rfl ?_
                refine G.getF X20 hx hZ hown (hw _ (List.mem_of_getElem? (i := 35) rfl)) Via.refl e20 Faj (pc' := 84) (hb hby d6_81) rfl fun T23 X23 e23 => ?_
                refine G.aloadN X23 hx (pc' := 85) (hb hby d6_84) rfl rfl rfl ?_
                refine G.getF X23 hx hZ hown (hw _ (List.mem_of_getElem? (i := 29) rfl)) Via.refl e23 Fej (pc' := 88) (hb hby d6_85) rfl fun T24 X24 e24 => ?_
                refine G.icmpF X24 hx (pc' := 91) (hb hby d6_88) (Jvm.Free.XT.ii_ge_f ((nat_lt (by omega) (by omega)).mpr hlt)) rfl ?_
                refine G.aloadN X24 hx (pc' := 92) (hb hby d6_91) rfl rfl rfl ?_
                refine G.getF X24 hx hZ hown (hw _ (List.mem_of_getElem? (i := 25) rfl)) Via.refl e24 Ftj (pc' := 95) (hb hby d6_92) rfl fun T25 X25 e25 => ?_
                refine G.aloadN X25 hx (pc' := 96) (hb hby d6_95) rfl rfl rfl ?_
                refine G.getF X25 hx hZ hown (hw _ (List.mem_of_getElem? (i := 35) rfl)) Via.refl e25 Faj (pc' := 99) (hb hby d6_96) rfl fun T26 X26 e26 => ?_
                refine G.baload X26 hx hZ e26 A0j (pc' := 100) (v := (.int xx)) (hb hby d6_99) (nat_nn (by omega)) hat rfl ?_
                refine G.sipush X26 hx (pc' := 103) (hb hby d6_100) (z := (255 : Int32)) rfl rfl ?_
                refine G.iand X26 hx (pc' := 104) (hb hby d6_103) rfl ?_
                refine G.goto X26 hx (pc' := 108) (hb hby d6_104) (by decide) (by decide) ?_
                refine Goes.retI X26 hx hret hlk (hb hby d6_108) (by decide) (by decide) ⟨by rw [hJ, nextv, if_pos hlt, hxx], e26 ▸ Kj, by rw [hJ]; exact e26 ▸ Faj, e26 ▸ Fej, e26 ▸ Ftj⟩
      · have hJ : sk xs ee (ee - i) i = j := by rw [← hsk, sk_no (fun q => hlt q.1)]
        refine G.aloadN Xj hx (pc' := 1) (hb hby d6_0) rfl rfl rfl ?_
        refine G.getF Xj hx hZ hown (hw _ (List.mem_of_getElem? (i := 35) rfl)) Via.refl ej Faj (pc' := 4) (hb hby d6_1) rfl fun T27 X27 e27 => ?_
        refine G.aloadN X27 hx (pc' := 5) (hb hby d6_4) rfl rfl rfl ?_
        refine G.getF X27 hx hZ hown (hw _ (List.mem_of_getElem? (i := 29) rfl)) Via.refl e27 Fej (pc' := 8) (hb hby d6_5) rfl fun T28 X28 e28 => ?_
        refine G.icmpT X28 hx (pc' := 80) (hb hby d6_8) (Jvm.Free.XT.ii_ge_t (fun q => hlt ((nat_lt (by omega) (by omega)).mp q))) (by decide) (by decide) ?_
        refine G.aloadN X28 hx (pc' := 81) (hb hby d6_80) rfl rfl rfl ?_
        refine G.getF X28 hx hZ hown (hw _ (List.mem_of_getElem? (i := 35) rfl)) Via.refl e28 Faj (pc' := 84) (hb hby d6_81) rfl fun T29 X29 e29 => ?_
        refine G.aloadN X29 hx (pc' := 85) (hb hby d6_84) rfl rfl rfl ?_
        refine G.getF X29 hx hZ hown (hw _ (List.mem_of_getElem? (i := 29) rfl)) Via.refl e29 Fej (pc' := 88) (hb hby d6_85) rfl fun T30 X30 e30 => ?_
        refine G.icmpT X30 hx (pc' := 107) (hb hby d6_88) (Jvm.Free.XT.ii_ge_t (fun q => hlt ((nat_lt (by omega) (by omega)).mp q))) (by decide) (by decide) ?_
        refine G.iconst X30 hx (pc' := 108) (hb hby d6_107) (z := (-1 : Int32)) rfl rfl ?_
        refine Goes.retI X30 hx hret hlk (hb hby d6_108) (by decide) (by decide) ⟨by rw [hJ, nextv, if_neg hlt], e30 ▸ Kj, by rw [hJ]; exact e30 ▸ Faj, e30 ▸ Fej, e30 ▸ Ftj⟩
  exact hloop _ i T0 h0 [] (Nat.le_refl _) hie rfl X0 e0 Er Fa Fe Ft A0 K0
set_option maxRecDepth 65536 in
set_option maxHeartbeats 40000000 in
theorem rm_take (l : Launch) (Z : State) (a0 : Array Value) (hw : ∀ d ∈ tables_1, d.before a0 Z = true) (r b : Addr) (ch : Int32) (i ee : Nat) (xs : List Int32) (h0 : Heap) (Er : Exa Z h0 r "com/example/wary_offset/waryoffset/remoting/JsonText$Reader") (Fa : Fld Z h0 r "com/example/wary_offset/waryoffset/remoting/JsonText$Reader" "at" "I" (.int (Int32.ofNat i))) (Fe : Fld Z h0 r "com/example/wary_offset/waryoffset/remoting/JsonText$Reader" "end" "I" (.int (Int32.ofNat ee))) (Ft : Fld Z h0 r "com/example/wary_offset/waryoffset/remoting/JsonText$Reader" "text" "[B" (.ref b)) (A0 : Seq Z h0 b .byte (xs.map Value.int)) (nrb : r ≠ b) (hie : i ≤ ee) (hel : ee ≤ xs.length) (hxl : xs.length < 1000) :
    Con l (⟨"com/example/wary_offset/waryoffset/remoting/JsonText$Reader", "take", "(C)Z"⟩ : MethodName) prog_25_method_4_code 3 (some .boolean) ({ frames := 1, cells := 0, slots := 0, locals := 12 } : Room) Z #[(.ref r), (.int ch)] h0 (fun v h L => v = some (.int (if (nextv xs ee (sk xs ee (ee - i) i)) = ch then (1 : Int32) else (0 : Int32))) ∧ Kp h0 h [r] L ∧ Fld Z h r "com/example/wary_offset/waryoffset/remoting/JsonText$Reader" "at" "I" (.int (Int32.ofNat (if (nextv xs ee (sk xs ee (ee - i) i)) = ch then (sk xs ee (ee - i) i) + 1 else (sk xs ee (ee - i) i)))) ∧ Fld Z h r "com/example/wary_offset/waryoffset/remoting/JsonText$Reader" "end" "I" (.int (Int32.ofNat ee)) ∧ Fld Z h r "com/example/wary_offset/waryoffset/remoting/JsonText$Reader" "text" "[B" (.ref b)) := by
  refine Con.of_body (plainFor_of_name pn_0) ?_
  intro p e s m below meth c T0 X0 hx hby hml hZ hown hnm hret hlk e0
  have hown : s.vm.findClass "com/example/wary_offset/waryoffset/remoting/JsonText$Reader" = some m.cls := hown
  have hml : c.maxLocals = 3 := hml
  refine Goes.cast (ef7_RI m r ch) ?_
  have K0 := Kp.refl h0 [r]
  refine G.aloadN X0 hx (pc' := 1) (hb hby d7_0) rfl rfl rfl ?_
  refine G.callP X0 hx hZ (y := (⟨"com/example/wary_offset/waryoffset/remoting/JsonText$Reader", "next", "()I"⟩ : MethodName)) hown (hw _ (List.mem_of_getElem? (i := 42) rfl)) (hw _ (List.mem_of_getElem? (i := 43) rfl)) (hw _ (List.mem_of_getElem? (i := 7) rfl)) (hw _ (List.mem_of_getElem? (i := 44) rfl)) (hw _ (List.mem_of_getElem? (i := 8) rfl)) (hw _ (List.mem_of_getElem? (i := 45) rfl)) (by decide) e0 (rm := ({ frames := 0, cells := 0, slots := 0, locals := 0 } : Room)) (argsL := []) (S := []) (W := 0) (a := r) Er (rm_next l Z a0 hw r b i ee xs h0 Er Fa Fe Ft A0 nrb hie hel hxl) (lenOf pd_1 rfl) rfl (Nat.le_of_eq rfl) (by decide) (by decide) (by decide) (by decide) (by rw [hml]; rfl) (hb hby d7_1) (pc' := 4) rfl ?_
  rintro T1 _ L1 ⟨rfl, Kq1, Fa1, Fe1, Ft1⟩ X1
  have E1_r := Exa.keep Er Kq1.1
  have A1_b := Seq.keep A0 Kq1.1 (ninS (Ne.symm nrb) nin0)
  have K1 := Kp.call K0 Kq1 (allS (Or.inl (List.mem_of_getElem? (i := 0) rfl)) all0)
  show Goes p e below T1 (mkF m 4 #[.val (.ref r), .val (.int ch), .unset] [(.int (nextv xs ee (sk xs ee (ee - i) i)))]) _
  refine G.iloadN X1 hx (pc' := 5) (hb hby d7_4) rfl rfl ?_
  by_cases c1 : (nextv xs ee (sk xs ee (ee - i) i)) = ch
  · refine G.icmpF X1 hx (pc' := 8) (hb hby d7_5) (Jvm.Free.XT.ii_ne_f c1) rfl ?_
    refine G.iconst X1 hx (pc' := 9) (hb hby d7_8) (z := (1 : Int32)) rfl rfl ?_
    refine G.goto X1 hx (pc' := 13) (hb hby d7_9) (by decide) (by decide) ?_
    refine G.istoreN X1 hx (pc' := 14) (hb hby d7_13) (L' := #[.val (.ref r), .val (.int ch), .val (.int (1 : Int32))]) rfl rfl ?_
    refine G.iloadN X1 hx (pc' := 15) (hb hby d7_14) rfl rfl ?_
    refine G.ifF X1 hx (pc' := 18) (hb hby d7_15) (Jvm.Free.XT.i0_eq_f (by decide)) rfl ?_
    refine G.aloadN X1 hx (pc' := 19) (hb hby d7_18) rfl rfl rfl ?_
    refine G.dup X1 hx (pc' := 20) (hb hby d7_19) rfl rfl ?_
    refine G.getF X1 hx hZ hown (hw _ (List.mem_of_getElem? (i := 35) rfl)) Via.refl rfl Fa1 (pc' := 23) (hb hby d7_20) rfl fun T2 X2 e2 => ?_
    refine G.iconst X2 hx (pc' := 24) (hb hby d7_23) (z := (1 : Int32)) rfl rfl ?_
    refine G.iadd X2 hx (pc' := 25) (hb hby d7_24) rfl ?_
    refine G.putF X2 hx hZ hown (hw _ (List.mem_of_getElem? (i := 35) rfl)) Via.refl e2 Fa1 E1_r (Or.inl (hw _ (List.mem_of_getElem? (i := 36) rfl))) (hw _ (List.mem_of_getElem? (i := 7) rfl)) (ty := .int) (by decide) rfl rfl (pc' := 28) (hb hby d7_25) rfl fun T3 h3 X3 e3 W3 => ?_
    have F3_r_end := Fld.other W3 Fe1 (Or.inr (slot_ne (Or.inr (hw _ (List.mem_of_getElem? (i := 30) rfl))) (Or.inl (hw _ (List.mem_of_getElem? (i := 36) rfl))) (by decide) (t := .int) (t' := .int) (by decide) (by decide)))
    have F3_r_text := Fld.other W3 Ft1 (Or.inr (slot_ne (Or.inr (hw _ (List.mem_of_getElem? (i := 26) rfl))) (Or.inl (hw _ (List.mem_of_getElem? (i := 36) rfl))) (by decide) (t := (.array .byte)) (t' := .int) (by decide) (by decide)))
    have E3_r := Exa.wr W3 E1_r
    have A3_b := Seq.other A1_b W3 (Ne.symm nrb)
    have K3 := Kp.wr K1 W3 (Or.inl (List.mem_of_getElem? (i := 0) rfl))
    have F3_r_at := Fld.same W3 Fa1
    refine G.iloadN X3 hx (pc' := 29) (hb hby d7_28) rfl rfl ?_
    rw [nat_s] at F3_r_at
    refine Goes.retN X3 hx hret (by simp) hlk (hb hby d7_29) (by decide) (by decide) ⟨by rw [if_pos c1]; rfl, e3 ▸ K3, by rw [if_pos c1]; exact e3 ▸ F3_r_at, e3 ▸ F3_r_end, e3 ▸ F3_r_text⟩
  · refine G.icmpT X1 hx (pc' := 12) (hb hby d7_5) (Jvm.Free.XT.ii_ne_t c1) (by decide) (by decide) ?_
    refine G.iconst X1 hx (pc' := 13) (hb hby d7_12) (z := (0 : Int32)) rfl rfl ?_
    refine G.istoreN X1 hx (pc' := 14) (hb hby d7_13) (L' := #[.val (.ref r), .val (.int ch), .val (.int (0 : Int32))]) rfl rfl ?_
    refine G.iloadN X1 hx (pc' := 15) (hb hby d7_14) rfl rfl ?_
    refine G.ifT X1 hx (pc' := 28) (hb hby d7_15) (Jvm.Free.XT.i0_eq_t (by decide)) (by decide) (by decide) ?_
    refine G.iloadN X1 hx (pc' := 29) (hb hby d7_28) rfl rfl ?_
    refine Goes.retN X1 hx hret (by simp) hlk (hb hby d7_29) (by decide) (by decide) ⟨by rw [if_neg c1]; rfl, K1, by rw [if_neg c1]; exact Fa1, Fe1, Ft1⟩
set_option maxRecDepth 65536 in
set_option maxHeartbeats 40000000 in
theorem rm_expect (l : Launch) (Z : State) (a0 : Array Value) (hw : ∀ d ∈ tables_1, d.before a0 Z = true) (r b : Addr) (i ee : Nat) (xs : List Int32) (h0 : Heap) (Er : Exa Z h0 r "com/example/wary_offset/waryoffset/remoting/JsonText$Reader") (Fa : Fld Z h0 r "com/example/wary_offset/waryoffset/remoting/JsonText$Reader" "at" "I" (.int (Int32.ofNat i))) (Fe : Fld Z h0 r "com/example/wary_offset/waryoffset/remoting/JsonText$Reader" "end" "I" (.int (Int32.ofNat ee))) (Ft : Fld Z h0 r "com/example/wary_offset/waryoffset/remoting/JsonText$Reader" "text" "[B" (.ref b)) (A0 : Seq Z h0 b .byte (xs.map Value.int)) (nrb : r ≠ b) (hie : i ≤ ee) (hel : ee ≤ xs.length) (hxl : xs.length < 1000) (hend : (nextv xs ee (sk xs ee (ee - i) i)) = (-1 : Int32)) :
    Con l (⟨"com/example/wary_offset/waryoffset/remoting/JsonText$Reader", "expectEnd", "()V"⟩ : MethodName) prog_25_method_11_code 1 none ({ frames := 1, cells := 0, slots := 0, locals := 12 } : Room) Z #[(.ref r)] h0 (fun v h L => v = none ∧ Kp h0 h [r] L ∧ Fld Z h r "com/example/wary_offset/waryoffset/remoting/JsonText$Reader" "at" "I" (.int (Int32.ofNat (sk xs ee (ee - i) i))) ∧ Fld Z h r "com/example/wary_offset/waryoffset/remoting/JsonText$Reader" "end" "I" (.int (Int32.ofNat ee)) ∧ Fld Z h r "com/example/wary_offset/waryoffset/remoting/JsonText$Reader" "text" "[B" (.ref b)) := by
  refine Con.of_body (plainFor_of_name pn_0) ?_
  intro p e s m below meth c T0 X0 hx hby hml hZ hown hnm hret hlk e0
  have hown : s.vm.findClass "com/example/wary_offset/waryoffset/remoting/JsonText$Reader" = some m.cls := hown
  have hml : c.maxLocals = 1 := hml
  refine Goes.cast (ef5_R m r) ?_
  have K0 := Kp.refl h0 [r]
  refine G.aloadN X0 hx (pc' := 1) (hb hby d5_0) rfl rfl rfl ?_
  refine G.callP X0 hx hZ (y := (⟨"com/example/wary_offset/waryoffset/remoting/JsonText$Reader", "next", "()I"⟩ : MethodName)) hown (hw _ (List.mem_of_getElem? (i := 42) rfl)) (hw _ (List.mem_of_getElem? (i := 43) rfl)) (hw _ (List.mem_of_getElem? (i := 7) rfl)) (hw _ (List.mem_of_getElem? (i := 44) rfl)) (hw _ (List.mem_of_getElem? (i := 8) rfl)) (hw _ (List.mem_of_getElem? (i := 45) rfl)) (by decide) e0 (rm := ({ frames := 0, cells := 0, slots := 0, locals := 0 } : Room)) (argsL := []) (S := []) (W := 0) (a := r) Er (rm_next l Z a0 hw r b i ee xs h0 Er Fa Fe Ft A0 nrb hie hel hxl) (lenOf pd_1 rfl) rfl (Nat.le_of_eq rfl) (by decide) (by decide) (by decide) (by decide) (by rw [hml]; rfl) (hb hby d5_1) (pc' := 4) rfl ?_
  rintro T1 _ L1 ⟨rfl, Kq1, Fa1, Fe1, Ft1⟩ X1
  have E1_r := Exa.keep Er Kq1.1
  have A1_b := Seq.keep A0 Kq1.1 (ninS (Ne.symm nrb) nin0)
  have K1 := Kp.call K0 Kq1 (allS (Or.inl (List.mem_of_getElem? (i := 0) rfl)) all0)
  show Goes p e below T1 (mkF m 4 #[.val (.ref r)] [(.int (nextv xs ee (sk xs ee (ee - i) i)))]) _
  refine G.iconst X1 hx (pc' := 5) (hb hby d5_4) (z := (-1 : Int32)) rfl rfl ?_
  refine G.icmpT X1 hx (pc' := 15) (hb hby d5_5) (Jvm.Free.XT.ii_eq_t hend) (by decide) (by decide) ?_
  refine Goes.retV X1 hx hret hlk (hb hby d5_15) (by decide) (by decide) ⟨rfl, K1, Fa1, Fe1, Ft1⟩
set_option maxRecDepth 65536 in
set_option maxHeartbeats 40000000 in
theorem rm_init2 (l : Launch) (Z : State) (a0 : Array Value) (hw : ∀ d ∈ tables_1, d.before a0 Z = true) (r b st : Addr) (p2 p3 : Int32) (h0 : Heap) (Er : Exa Z h0 r "com/example/wary_offset/waryoffset/remoting/JsonText$Reader") (F_text : Fld Z h0 r "com/example/wary_offset/waryoffset/remoting/JsonText$Reader" "text" "[B" .null) (F_start : Fld Z h0 r "com/example/wary_offset/waryoffset/remoting/JsonText$Reader" "start" "I" (.int (0 : Int32))) (F_end : Fld Z h0 r "com/example/wary_offset/waryoffset/remoting/JsonText$Reader" "end" "I" (.int (0 : Int32))) (F_what : Fld Z h0 r "com/example/wary_offset/waryoffset/remoting/JsonText$Reader" "what" "Ljava/lang/String;" .null) (F_strings : Fld Z h0 r "com/example/wary_offset/waryoffset/remoting/JsonText$Reader" "strings" "Lcom/example/wary_offset/waryoffset/remoting/JsonText$Strings;" .null) (F_at : Fld Z h0 r "com/example/wary_offset/waryoffset/remoting/JsonText$Reader" "at" "I" (.int (0 : Int32))) :
    Con l (⟨"com/example/wary_offset/waryoffset/remoting/JsonText$Reader", "<init>", "([BIILjava/lang/String;Lcom/example/wary_offset/waryoffset/remoting/JsonText$Strings;)V"⟩ : MethodName) prog_25_method_2_code 6 none ({ frames := 1, cells := 0, slots := 0, locals := 12 } : Room) Z #[(.ref r), (.ref b), (.int p2), (.int p3), (.ref st), .null] h0 (fun v h L => v = none ∧ Kp h0 h [r] L ∧ Fld Z h r "com/example/wary_offset/waryoffset/remoting/JsonText$Reader" "text" "[B" (.ref b) ∧ Fld Z h r "com/example/wary_offset/waryoffset/remoting/JsonText$Reader" "end" "I" (.int (p2 + p3)) ∧ Fld Z h r "com/example/wary_offset/waryoffset/remoting/JsonText$Reader" "at" "I" (.int p2)) := by
  refine Con.of_body (plainFor_of_name pn_0) ?_
  intro p e s m below meth c T0 X0 hx hby hml hZ hown hnm hret hlk e0
  have hown : s.vm.findClass "com/example/wary_offset/waryoffset/remoting/JsonText$Reader" = some m.cls := hown
  have hml : c.maxLocals = 6 := hml
  refine Goes.cast (ef3_RRIIRN m r b p2 p3 st) ?_
  have K0 := Kp.refl h0 [r]
  refine G.aloadN X0 hx (pc' := 1) (hb hby d3_0) rfl rfl rfl ?_
  refine G.initO X0 hx hZ hown (hw _ (List.mem_of_getElem? (i := 22) rfl)) (hw _ (List.mem_of_getElem? (i := 23) rfl)) (hw _ (List.mem_of_getElem? (i := 24) rfl)) e0 (by rw [hml]; rfl) (hb hby d3_1) (by decide) (W := 0) (Nat.le_of_eq rfl) (by decide) (pc' := 4) rfl fun T1 X1 e1 => ?_
  refine G.aloadN X1 hx (pc' := 5) (hb hby d3_4) rfl rfl rfl ?_
  refine G.aloadN X1 hx (pc' := 6) (hb hby d3_5) rfl rfl rfl ?_
  refine G.putF X1 hx hZ hown (hw _ (List.mem_of_getElem? (i := 25) rfl)) Via.refl e1 F_text Er (Or.inr ⟨(hw _ (List.mem_of_getElem? (i := 26) rfl)), rfl, hnm⟩) (hw _ (List.mem_of_getElem? (i := 7) rfl)) (ty := (.array .byte)) (by decide) rfl rfl (pc' := 9) (hb hby d3_6) rfl fun T2 h2 X2 e2 W2 => ?_
  have F2_r_start := Fld.other W2 F_start (Or.inr (slot_ne (Or.inr (hw _ (List.mem_of_getElem? (i := 28) rfl))) (Or.inr (hw _ (List.mem_of_getElem? (i := 26) rfl))) (by decide) (t := .int) (t' := (.array .byte)) (by decide) (by decide)))
  have F2_r_end := Fld.other W2 F_end (Or.inr (slot_ne (Or.inr (hw _ (List.mem_of_getElem? (i := 30) rfl))) (Or.inr (hw _ (List.mem_of_getElem? (i := 26) rfl))) (by decide) (t := .int) (t' := (.array .byte)) (by decide) (by decide)))
  have F2_r_what := Fld.other W2 F_what (Or.inr (slot_ne (Or.inr (hw _ (List.mem_of_getElem? (i := 32) rfl))) (Or.inr (hw _ (List.mem_of_getElem? (i := 26) rfl))) (by decide) (t := (.object "java/lang/String")) (t' := (.array .byte)) (by decide) (by decide)))
  have F2_r_strings := Fld.other W2 F_strings (Or.inr (slot_ne (Or.inr (hw _ (List.mem_of_getElem? (i := 34) rfl))) (Or.inr (hw _ (List.mem_of_getElem? (i := 26) rfl))) (by decide) (t := (.object "com/example/wary_offset/waryoffset/remoting/JsonText$Strings")) (t' := (.array .byte)) (by decide) (by decide)))
  have F2_r_at := Fld.other W2 F_at (Or.inr (slot_ne (Or.inl (hw _ (List.mem_of_getElem? (i := 36) rfl))) (Or.inr (hw _ (List.mem_of_getElem? (i := 26) rfl))) (by decide) (t := .int) (t' := (.array .byte)) (by decide) (by decide)))
  have E2_r := Exa.wr W2 Er
  have K2 := Kp.wr K0 W2 (Or.inl (List.mem_of_getElem? (i := 0) rfl))
  have F2_r_text := Fld.same W2 F_text
  refine G.aloadN X2 hx (pc' := 10) (hb hby d3_9) rfl rfl rfl ?_
  refine G.iloadN X2 hx (pc' := 11) (hb hby d3_10) rfl rfl ?_
  refine G.putF X2 hx hZ hown (hw _ (List.mem_of_getElem? (i := 27) rfl)) Via.refl e2 F2_r_start E2_r (Or.inr ⟨(hw _ (List.mem_of_getElem? (i := 28) rfl)), rfl, hnm⟩) (hw _ (List.mem_of_getElem? (i := 7) rfl)) (ty := .int) (by decide) rfl rfl (pc' := 14) (hb hby d3_11) rfl fun T3 h3 X3 e3 W3 => ?_
  have F3_r_text := Fld.other W3 F2_r_text (Or.inr (slot_ne (Or.inr (hw _ (List.mem_of_getElem? (i := 26) rfl))) (Or.inr (hw _ (List.mem_of_getElem? (i := 28) rfl))) (by decide) (t := (.array .byte)) (t' := .int) (by decide) (by decide)))
  have F3_r_end := Fld.other W3 F2_r_end (Or.inr (slot_ne (Or.inr (hw _ (List.mem_of_getElem? (i := 30) rfl))) (Or.inr (hw _ (List.mem_of_getElem? (i := 28) rfl))) (by decide) (t := .int) (t' := .int) (by decide) (by decide)))
  have F3_r_what := Fld.other W3 F2_r_what (Or.inr (slot_ne (Or.inr (hw _ (List.mem_of_getElem? (i := 32) rfl))) (Or.inr (hw _ (List.mem_of_getElem? (i := 28) rfl))) (by decide) (t := (.object "java/lang/String")) (t' := .int) (by decide) (by decide)))
  have F3_r_strings := Fld.other W3 F2_r_strings (Or.inr (slot_ne (Or.inr (hw _ (List.mem_of_getElem? (i := 34) rfl))) (Or.inr (hw _ (List.mem_of_getElem? (i := 28) rfl))) (by decide) (t := (.object "com/example/wary_offset/waryoffset/remoting/JsonText$Strings")) (t' := .int) (by decide) (by decide)))
  have F3_r_at := Fld.other W3 F2_r_at (Or.inr (slot_ne (Or.inl (hw _ (List.mem_of_getElem? (i := 36) rfl))) (Or.inr (hw _ (List.mem_of_getElem? (i := 28) rfl))) (by decide) (t := .int) (t' := .int) (by decide) (by decide)))
  have E3_r := Exa.wr W3 E2_r
  have K3 := Kp.wr K2 W3 (Or.inl (List.mem_of_getElem? (i := 0) rfl))
  have F3_r_start := Fld.same W3 F2_r_start
  refine G.aloadN X3 hx (pc' := 15) (hb hby d3_14) rfl rfl rfl ?_
  refine G.iloadN X3 hx (pc' := 16) (hb hby d3_15) rfl rfl ?_
  refine G.iloadN X3 hx (pc' := 17) (hb hby d3_16) rfl rfl ?_
  refine G.iadd X3 hx (pc' := 18) (hb hby d3_17) rfl ?_
  refine G.putF X3 hx hZ hown (hw _ (List.mem_of_getElem? (i := 29) rfl)) Via.refl e3 F3_r_end E3_r (Or.inr ⟨(hw _ (List.mem_of_getElem? (i := 30) rfl)), rfl, hnm⟩) (hw _ (List.mem_of_getElem? (i := 7) rfl)) (ty := .int) (by decide) rfl rfl (pc' := 21) (hb hby d3_18) rfl fun T4 h4 X4 e4 W4 => ?_
  have F4_r_text := Fld.other W4 F3_r_text (Or.inr (slot_ne (Or.inr (hw _ (List.mem_of_getElem? (i := 26) rfl))) (Or.inr (hw _ (List.mem_of_getElem? (i := 30) rfl))) (by decide) (t := (.array .byte)) (t' := .int) (by decide) (by decide)))
  have F4_r_start := Fld.other W4 F3_r_start (Or.inr (slot_ne (Or.inr (hw _ (List.mem_of_getElem? (i := 28) rfl))) (Or.inr (hw _ (List.mem_of_getElem? (i := 30) rfl))) (by decide) (t := .int) (t' := .int) (by decide) (by decide)))
  have F4_r_what := Fld.other W4 F3_r_what (Or.inr (slot_ne (Or.inr (hw _ (List.mem_of_getElem? (i := 32) rfl))) (Or.inr (hw _ (List.mem_of_getElem? (i := 30) rfl))) (by decide) (t := (.object "java/lang/String")) (t' := .int) (by decide) (by decide)))
  have F4_r_strings := Fld.other W4 F3_r_strings (Or.inr (slot_ne (Or.inr (hw _ (List.mem_of_getElem? (i := 34) rfl))) (Or.inr (hw _ (List.mem_of_getElem? (i := 30) rfl))) (by decide) (t := (.object "com/example/wary_offset/waryoffset/remoting/JsonText$Strings")) (t' := .int) (by decide) (by decide)))
  have F4_r_at := Fld.other W4 F3_r_at (Or.inr (slot_ne (Or.inl (hw _ (List.mem_of_getElem? (i := 36) rfl))) (Or.inr (hw _ (List.mem_of_getElem? (i := 30) rfl))) (by decide) (t := .int) (t' := .int) (by decide) (by decide)))
  have E4_r := Exa.wr W4 E3_r
  have K4 := Kp.wr K3 W4 (Or.inl (List.mem_of_getElem? (i := 0) rfl))
  have F4_r_end := Fld.same W4 F3_r_end
  refine G.aloadN X4 hx (pc' := 22) (hb hby d3_21) rfl rfl rfl ?_
  refine G.aload X4 hx (pc' := 24) (hb hby d3_22) rfl rfl rfl ?_
  refine G.putF X4 hx hZ hown (hw _ (List.mem_of_getElem? (i := 31) rfl)) Via.refl e4 F4_r_what E4_r (Or.inr ⟨(hw _ (List.mem_of_getElem? (i := 32) rfl)), rfl, hnm⟩) (hw _ (List.mem_of_getElem? (i := 7) rfl)) (ty := (.object "java/lang/String")) (by decide) rfl rfl (pc' := 27) (hb hby d3_24) rfl fun T5 h5 X5 e5 W5 => ?_
  have F5_r_text := Fld.other W5 F4_r_text (Or.inr (slot_ne (Or.inr (hw _ (List.mem_of_getElem? (i := 26) rfl))) (Or.inr (hw _ (List.mem_of_getElem? (i := 32) rfl))) (by decide) (t := (.array .byte)) (t' := (.object "java/lang/String")) (by decide) (by decide)))
  have F5_r_start := Fld.other W5 F4_r_start (Or.inr (slot_ne (Or.inr (hw _ (List.mem_of_getElem? (i := 28) rfl))) (Or.inr (hw _ (List.mem_of_getElem? (i := 32) rfl))) (by decide) (t := .int) (t' := (.object "java/lang/String")) (by decide) (by decide)))
  have F5_r_end := Fld.other W5 F4_r_end (Or.inr (slot_ne (Or.inr (hw _ (List.mem_of_getElem? (i := 30) rfl))) (Or.inr (hw _ (List.mem_of_getElem? (i := 32) rfl))) (by decide) (t := .int) (t' := (.object "java/lang/String")) (by decide) (by decide)))
  have F5_r_strings := Fld.other W5 F4_r_strings (Or.inr (slot_ne (Or.inr (hw _ (List.mem_of_getElem? (i := 34) rfl))) (Or.inr (hw _ (List.mem_of_getElem? (i := 32) rfl))) (by decide) (t := (.object "com/example/wary_offset/waryoffset/remoting/JsonText$Strings")) (t' := (.object "java/lang/String")) (by decide) (by decide)))
  have F5_r_at := Fld.other W5 F4_r_at (Or.inr (slot_ne (Or.inl (hw _ (List.mem_of_getElem? (i := 36) rfl))) (Or.inr (hw _ (List.mem_of_getElem? (i := 32) rfl))) (by decide) (t := .int) (t' := (.object "java/lang/String")) (by decide) (by decide)))
  have E5_r := Exa.wr W5 E4_r
  have K5 := Kp.wr K4 W5 (Or.inl (List.mem_of_getElem? (i := 0) rfl))
  have F5_r_what := Fld.same W5 F4_r_what
  refine G.aloadN X5 hx (pc' := 28) (hb hby d3_27) rfl rfl rfl ?_
  refine G.aload X5 hx (pc' := 30) (hb hby d3_28) rfl rfl rfl ?_
  refine G.putF X5 hx hZ hown (hw _ (List.mem_of_getElem? (i := 33) rfl)) Via.refl e5 F5_r_strings E5_r (Or.inr ⟨(hw _ (List.mem_of_getElem? (i := 34) rfl)), rfl, hnm⟩) (hw _ (List.mem_of_getElem? (i := 7) rfl)) (ty := (.object "com/example/wary_offset/waryoffset/remoting/JsonText$Strings")) (by decide) rfl rfl (pc' := 33) (hb hby d3_30) rfl fun T6 h6 X6 e6 W6 => ?_
  have F6_r_text := Fld.other W6 F5_r_text (Or.inr (slot_ne (Or.inr (hw _ (List.mem_of_getElem? (i := 26) rfl))) (Or.inr (hw _ (List.mem_of_getElem? (i := 34) rfl))) (by decide) (t := (.array .byte)) (t' := (.object "com/example/wary_offset/waryoffset/remoting/JsonText$Strings")) (by decide) (by decide)))
  have F6_r_start := Fld.other W6 F5_r_start (Or.inr (slot_ne (Or.inr (hw _ (List.mem_of_getElem? (i := 28) rfl))) (Or.inr (hw _ (List.mem_of_getElem? (i := 34) rfl))) (by decide) (t := .int) (t' := (.object "com/example/wary_offset/waryoffset/remoting/JsonText$Strings")) (by decide) (by decide)))
  have F6_r_end := Fld.other W6 F5_r_end (Or.inr (slot_ne (Or.inr (hw _ (List.mem_of_getElem? (i := 30) rfl))) (Or.inr (hw _ (List.mem_of_getElem? (i := 34) rfl))) (by decide) (t := .int) (t' := (.object "com/example/wary_offset/waryoffset/remoting/JsonText$Strings")) (by decide) (by decide)))
  have F6_r_what := Fld.other W6 F5_r_what (Or.inr (slot_ne (Or.inr (hw _ (List.mem_of_getElem? (i := 32) rfl))) (Or.inr (hw _ (List.mem_of_getElem? (i := 34) rfl))) (by decide) (t := (.object "java/lang/String")) (t' := (.object "com/example/wary_offset/waryoffset/remoting/JsonText$Strings")) (by decide) (by decide)))
  have F6_r_at := Fld.other W6 F5_r_at (Or.inr (slot_ne (Or.inl (hw _ (List.mem_of_getElem? (i := 36) rfl))) (Or.inr (hw _ (List.mem_of_getElem? (i := 34) rfl))) (by decide) (t := .int) (t' := (.object "com/example/wary_offset/waryoffset/remoting/JsonText$Strings")) (by decide) (by decide)))
  have E6_r := Exa.wr W6 E5_r
  have K6 := Kp.wr K5 W6 (Or.inl (List.mem_of_getElem? (i := 0) rfl))
  have F6_r_strings := Fld.same W6 F5_r_strings
  refine G.aloadN X6 hx (pc' := 34) (hb hby d3_33) rfl rfl rfl ?_
  refine G.iloadN X6 hx (pc' := 35) (hb hby d3_34) rfl rfl ?_
  refine G.putF X6 hx hZ hown (hw _ (List.mem_of_getElem? (i := 35) rfl)) Via.refl e6 F6_r_at E6_r (Or.inl (hw _ (List.mem_of_getElem? (i := 36) rfl))) (hw _ (List.mem_of_getElem? (i := 7) rfl)) (ty := .int) (by decide) rfl rfl (pc' := 38) (hb hby d3_35) rfl fun T7 h7 X7 e7 W7 => ?_
  have F7_r_text := Fld.other W7 F6_r_text (Or.inr (slot_ne (Or.inr (hw _ (List.mem_of_getElem? (i := 26) rfl))) (Or.inl (hw _ (List.mem_of_getElem? (i := 36) rfl))) (by decide) (t := (.array .byte)) (t' := .int) (by decide) (by decide)))
  have F7_r_start := Fld.other W7 F6_r_start (Or.inr (slot_ne (Or.inr (hw _ (List.mem_of_getElem? (i := 28) rfl))) (Or.inl (hw _ (List.mem_of_getElem? (i := 36) rfl))) (by decide) (t := .int) (t' := .int) (by decide) (by decide)))
  have F7_r_end := Fld.other W7 F6_r_end (Or.inr (slot_ne (Or.inr (hw _ (List.mem_of_getElem? (i := 30) rfl))) (Or.inl (hw _ (List.mem_of_getElem? (i := 36) rfl))) (by decide) (t := .int) (t' := .int) (by decide) (by decide)))
  have F7_r_what := Fld.other W7 F6_r_what (Or.inr (slot_ne (Or.inr (hw _ (List.mem_of_getElem? (i := 32) rfl))) (Or.inl (hw _ (List.mem_of_getElem? (i := 36) rfl))) (by decide) (t := (.object "java/lang/String")) (t' := .int) (by decide) (by decide)))
  have F7_r_strings := Fld.other W7 F6_r_strings (Or.inr (slot_ne (Or.inr (hw _ (List.mem_of_getElem? (i := 34) rfl))) (Or.inl (hw _ (List.mem_of_getElem? (i := 36) rfl))) (by decide) (t := (.object "com/example/wary_offset/waryoffset/remoting/JsonText$Strings")) (t' := .int) (by decide) (by decide)))
  have E7_r := Exa.wr W7 E6_r
  have K7 := Kp.wr K6 W7 (Or.inl (List.mem_of_getElem? (i := 0) rfl))
  have F7_r_at := Fld.same W7 F6_r_at
  refine Goes.retV X7 hx hret hlk (hb hby d3_38) (by decide) (by decide) ⟨rfl, e7 ▸ K7, e7 ▸ F7_r_text, e7 ▸ F7_r_end, e7 ▸ F7_r_at⟩
set_option maxRecDepth 65536 in
set_option maxHeartbeats 40000000 in
theorem rm_init (l : Launch) (Z : State) (a0 : Array Value) (hw : ∀ d ∈ tables_1, d.before a0 Z = true) (r b st : Addr) (p2 p3 : Int32) (h0 : Heap) (Er : Exa Z h0 r "com/example/wary_offset/waryoffset/remoting/JsonText$Reader") (F_text : Fld Z h0 r "com/example/wary_offset/waryoffset/remoting/JsonText$Reader" "text" "[B" .null) (F_start : Fld Z h0 r "com/example/wary_offset/waryoffset/remoting/JsonText$Reader" "start" "I" (.int (0 : Int32))) (F_end : Fld Z h0 r "com/example/wary_offset/waryoffset/remoting/JsonText$Reader" "end" "I" (.int (0 : Int32))) (F_what : Fld Z h0 r "com/example/wary_offset/waryoffset/remoting/JsonText$Reader" "what" "Ljava/lang/String;" .null) (F_strings : Fld Z h0 r "com/example/wary_offset/waryoffset/remoting/JsonText$Reader" "strings" "Lcom/example/wary_offset/waryoffset/remoting/JsonText$Strings;" .null) (F_at : Fld Z h0 r "com/example/wary_offset/waryoffset/remoting/JsonText$Reader" "at" "I" (.int (0 : Int32))) :
    Con l (⟨"com/example/wary_offset/waryoffset/remoting/JsonText$Reader", "<init>", "([BIILjava/lang/String;)V"⟩ : MethodName) prog_25_method_1_code 5 none ({ frames := 2, cells := 0, slots := 0, locals := 29 } : Room) Z #[(.ref r), (.ref b), (.int p2), (.int p3), (.ref st)] h0 (fun v h L => v = none ∧ Kp h0 h [r] L ∧ Fld Z h r "com/example/wary_offset/waryoffset/remoting/JsonText$Reader" "text" "[B" (.ref b) ∧ Fld Z h r "com/example/wary_offset/waryoffset/remoting/JsonText$Reader" "end" "I" (.int (p2 + p3)) ∧ Fld Z h r "com/example/wary_offset/waryoffset/remoting/JsonText$Reader" "at" "I" (.int p2)) := by
  refine Con.of_body (plainFor_of_name pn_0) ?_
  intro p e s m below meth c T0 X0 hx hby hml hZ hown hnm hret hlk e0
  have hown : s.vm.findClass "com/example/wary_offset/waryoffset/remoting/JsonText$Reader" = some m.cls := hown
  have hml : c.maxLocals = 5 := hml
  refine Goes.cast (ef2_RRIIR m r b p2 p3 st) ?_
  have K0 := Kp.refl h0 [r]
  refine G.aloadN X0 hx (pc' := 1) (hb hby d2_0) rfl rfl rfl ?_
  refine G.aloadN X0 hx (pc' := 2) (hb hby d2_1) rfl rfl rfl ?_
  refine G.iloadN X0 hx (pc' := 3) (hb hby d2_2) rfl rfl ?_
  refine G.iloadN X0 hx (pc' := 4) (hb hby d2_3) rfl rfl ?_
  refine G.aload X0 hx (pc' := 6) (hb hby d2_4) rfl rfl rfl ?_
  refine G.aconstNull X0 hx (pc' := 7) (hb hby d2_6) rfl ?_
  refine G.callI X0 hx hZ (y := (⟨"com/example/wary_offset/waryoffset/remoting/JsonText$Reader", "<init>", "([BIILjava/lang/String;Lcom/example/wary_offset/waryoffset/remoting/JsonText$Strings;)V"⟩ : MethodName)) rfl hown (hw _ (List.mem_of_getElem? (i := 19) rfl)) (hw _ (List.mem_of_getElem? (i := 20) rfl)) (hw _ (List.mem_of_getElem? (i := 8) rfl)) (hw _ (List.mem_of_getElem? (i := 21) rfl)) (by decide) e0 (rm := ({ frames := 1, cells := 0, slots := 0, locals := 12 } : Room)) (argsL := [(.ref b), (.int p2), (.int p3), (.ref st), .null]) (S := []) (W := 0) (a := r) (rm_init2 l Z a0 hw r b st p2 p3 h0 Er F_text F_start F_end F_what F_strings F_at) (lenOf pd_2 rfl) rfl (Nat.le_of_eq rfl) (by decide) (by decide) (by decide) (by decide) (by rw [hml]; rfl) (hb hby d2_7) (pc' := 10) rfl ?_
  rintro T1 _ L1 ⟨rfl, Kq1, Ft1, Fe1, Fa1⟩ X1
  have E1_r := Exa.keep Er Kq1.1
  have K1 := Kp.call K0 Kq1 (allS (Or.inl (List.mem_of_getElem? (i := 0) rfl)) all0)
  show Goes p e below T1 (mkF m 10 #[.val (.ref r), .val (.ref b), .val (.int p2), .val (.int p3), .val (.ref st)] []) _
  refine Goes.retV X1 hx hret hlk (hb hby d2_10) (by decide) (by decide) ⟨rfl, K1, Ft1, Fe1, Fa1⟩
set_option maxRecDepth 65536 in
set_option maxHeartbeats 40000000 in
theorem rm_ws (l : Launch) (Z : State) (a0 : Array Value) (hw : ∀ d ∈ tables_1, d.before a0 Z = true) (p0 : Int32) (h0 : Heap)  :
    Con l (⟨"com/example/wary_offset/waryoffset/remoting/ReaderExpectEndPinLaw", "ws", "(I)B"⟩ : MethodName) method_2_code 2 (some .byte) ({ frames := 0, cells := 0, slots := 0, locals := 0 } : Room) Z #[(.int p0)] h0 (Pur (some (.int (wsf p0))) h0) := by
  refine Con.of_body (plainFor_of_name pn_3) ?_
  intro p e s m below meth c T0 X0 hx hby hml hZ hown hnm hret hlk e0
  have hown : s.vm.findClass "com/example/wary_offset/waryoffset/remoting/ReaderExpectEndPinLaw" = some m.cls := hown
  have hml : c.maxLocals = 2 := hml
  refine Goes.cast (ef1_I m p0) ?_
  refine G.iloadN X0 hx (pc' := 1) (hb hby d1_0) rfl rfl ?_
  refine G.iconst X0 hx (pc' := 2) (hb hby d1_1) (z := (3 : Int32)) rfl rfl ?_
  refine G.iand X0 hx (pc' := 3) (hb hby d1_2) rfl ?_
  refine G.istoreN X0 hx (pc' := 4) (hb hby d1_3) (L' := #[.val (.int p0), .val (.int (p0 &&& (3 : Int32)))]) rfl rfl ?_
  refine G.iloadN X0 hx (pc' := 5) (hb hby d1_4) rfl rfl ?_
  by_cases c0 : (p0 &&& (3 : Int32)) = (0 : Int32)
  · refine G.ifF X0 hx (pc' := 8) (hb hby d1_5) (Jvm.Free.XT.i0_ne_f c0) rfl ?_
    refine G.bipush X0 hx (pc' := 10) (hb hby d1_8) (z := (32 : Int32)) rfl rfl ?_
    refine Goes.retN X0 hx hret (by simp) hlk (hb hby d1_10) (by decide) (by decide) ⟨by rw [← own_wn, wsf, if_pos c0], e0, rfl⟩
  · refine G.ifT X0 hx (pc' := 11) (hb hby d1_5) (Jvm.Free.XT.i0_ne_t c0) (by decide) (by decide) ?_
    refine G.iloadN X0 hx (pc' := 12) (hb hby d1_11) rfl rfl ?_
    refine G.iconst X0 hx (pc' := 13) (hb hby d1_12) (z := (1 : Int32)) rfl rfl ?_
    by_cases c1 : (p0 &&& (3 : Int32)) = (1 : Int32)
    · refine G.icmpF X0 hx (pc' := 16) (hb hby d1_13) (Jvm.Free.XT.ii_ne_f c1) rfl ?_
      refine G.bipush X0 hx (pc' := 18) (hb hby d1_16) (z := (9 : Int32)) rfl rfl ?_
      refine Goes.retN X0 hx hret (by simp) hlk (hb hby d1_18) (by decide) (by decide) ⟨by rw [← own_wn, wsf, if_neg c0, if_pos c1], e0, rfl⟩
    · refine G.icmpT X0 hx (pc' := 19) (hb hby d1_13) (Jvm.Free.XT.ii_ne_t c1) (by decide) (by decide) ?_
      refine G.iloadN X0 hx (pc' := 20) (hb hby d1_19) rfl rfl ?_
      refine G.iconst X0 hx (pc' := 21) (hb hby d1_20) (z := (2 : Int32)) rfl rfl ?_
      by_cases c2 : (p0 &&& (3 : Int32)) = (2 : Int32)
      · refine G.icmpF X0 hx (pc' := 24) (hb hby d1_21) (Jvm.Free.XT.ii_ne_f c2) rfl ?_
        refine G.bipush X0 hx (pc' := 26) (hb hby d1_24) (z := (10 : Int32)) rfl rfl ?_
        refine Goes.retN X0 hx hret (by simp) hlk (hb hby d1_26) (by decide) (by decide) ⟨by rw [← own_wn, wsf, if_neg c0, if_neg c1, if_pos c2], e0, rfl⟩
      · refine G.icmpT X0 hx (pc' := 27) (hb hby d1_21) (Jvm.Free.XT.ii_ne_t c2) (by decide) (by decide) ?_
        refine G.bipush X0 hx (pc' := 29) (hb hby d1_27) (z := (13 : Int32)) rfl rfl ?_
        refine Goes.retN X0 hx hret (by simp) hlk (hb hby d1_29) (by decide) (by decide) ⟨by rw [← own_wn, wsf, if_neg c0, if_neg c1, if_neg c2], e0, rfl⟩
set_option maxRecDepth 65536 in
set_option maxHeartbeats 40000000 in
theorem rm0 (l : Launch) (Z : State) (a0 : Array Value) (hw : ∀ d ∈ tables_1, d.before a0 Z = true) (p0 p1 p2 p3 : Int32)  :
    ConW l x code maxLocals ret room_1 Z #[(.int p0), (.int p1), (.int p2), (.int p3)] (fun v _ L => v = some (.int 1) ∧ Fr Z.heap.size L) := by
  refine ConW.of_body (plainFor_of_name pn_3) ?_
  intro p e m below meth c T0 X0 hx hby hml hZ hown hnm hret hlk e0
  have hown : (Z.setVm Z.vm).vm.findClass "com/example/wary_offset/waryoffset/remoting/ReaderExpectEndPinLaw" = some m.cls := hown
  have hml : c.maxLocals = 9 := hml
  refine Goes.cast (ef0_IIII m p0 p1 p2 p3) ?_
  have hS0 := since0 Z
  have hk0 : 0 ≤ Z.heap.size := Nat.zero_le _
  have I0 : IB Z Z.vm [] := IB.start
  have K0 := Kp.refl Z.heap []
  have hwS : ∀ c ∈ Bundle.stringAtoms, c.before a0 Z = true := fun c hc => hw c (by simpa using (List.all_eq_true.mp (by decide +kernel : (Bundle.stringAtoms.all fun c => tables_1.contains c) = true)) c hc)
  refine G.bipush X0 hx (pc' := 2) (hb hby at_0) (z := (6 : Int32)) rfl rfl ?_
  refine G.newP X0 hx hZ (hw _ (List.mem_of_getElem? (i := 0) rfl)) e0 (hb hby at_2) (by decide) (n := 6) (cap := 6) rfl (by decide) (by decide) (by decide) (by decide) (pc' := 4) rfl fun T1 h1 b g1 X1 e1 Ex1 A1 => ?_
  have sz_b : Z.heap.size ≤ b := Nat.le_trans K0.size (Nat.le_of_eq g1.symm)
  have K1 := Kp.ext K0 Ex1
  have hk1 := Nat.le_trans hk0 Ex1.1
  have A1_b : Seq Z h1 b .byte [(.int (0 : Int32)), (.int (0 : Int32)), (.int (0 : Int32)), (.int (0 : Int32)), (.int (0 : Int32)), (.int (0 : Int32))] := A1
  refine G.astore X1 hx (pc' := 6) (hb hby at_4) rfl (L' := #[.val (.int p0), .val (.int p1), .val (.int p2), .val (.int p3), .val (.ref b), .unset, .unset, .unset, .unset]) rfl rfl ?_
  refine G.aload X1 hx (pc' := 8) (hb hby at_6) rfl rfl rfl ?_
  refine G.iconst X1 hx (pc' := 9) (hb hby at_8) (z := (0 : Int32)) rfl rfl ?_
  refine G.iloadN X1 hx (pc' := 10) (hb hby at_9) rfl rfl ?_
  refine G.i2b X1 hx (pc' := 11) (hb hby at_10) rfl ?_
  refine G.bastore X1 hx hZ e1 A1_b (pc' := 12) (hb hby at_11) (by decide) (Nat.le_of_ble_eq_true rfl) rfl fun T2 h2 X2 e2 W2 A2 => ?_
  have K2 := Kp.wr K1 W2 (Or.inr sz_b)
  have hk2 := Nat.le_trans hk1 (Keep.of_wr W2).1
  have A2_b : Seq Z h2 b .byte [(.int (nar .byte (p0.toInt8.toInt32))), (.int (0 : Int32)), (.int (0 : Int32)), (.int (0 : Int32)), (.int (0 : Int32)), (.int (0 : Int32))] := A2
  refine G.aload X2 hx (pc' := 14) (hb hby at_12) rfl rfl rfl ?_
  refine G.iconst X2 hx (pc' := 15) (hb hby at_14) (z := (1 : Int32)) rfl rfl ?_
  refine G.iloadN X2 hx (pc' := 16) (hb hby at_15) rfl rfl ?_
  refine G.callS X2 hx hZ (y := (⟨"com/example/wary_offset/waryoffset/remoting/ReaderExpectEndPinLaw", "ws", "(I)B"⟩ : MethodName)) hown (hw _ (List.mem_of_getElem? (i := 1) rfl)) (hw _ (List.mem_of_getElem? (i := 2) rfl)) (hw _ (List.mem_of_getElem? (i := 3) rfl)) (hw _ (List.mem_of_getElem? (i := 4) rfl)) (by decide) e2 (rm := ({ frames := 0, cells := 0, slots := 0, locals := 0 } : Room)) (argsL := [(.int p2)]) (S := [(.int (1 : Int32)), (.ref b)]) (W := 2) (rm_ws l Z a0 hw p2 h2) (lenOf pd_4 rfl) rfl (Nat.le_of_eq rfl) (by decide) (by decide) (by decide) (by decide) (by rw [hml]; rfl) (hb hby at_16) (pc' := 19) rfl ?_
  rintro T3 _ _ ⟨rfl, e3, rfl⟩ X3
  rw [List.append_nil] at X3
  show Goes p e below T3 (mkF m 19 #[.val (.int p0), .val (.int p1), .val (.int p2), .val (.int p3), .val (.ref b), .unset, .unset, .unset, .unset] [(.int (wsf p2)), (.int (1 : Int32)), (.ref b)]) _
  refine G.bastore X3 hx hZ e3 A2_b (pc' := 20) (hb hby at_19) (by decide) (Nat.le_of_ble_eq_true rfl) rfl fun T4 h4 X4 e4 W4 A4 => ?_
  have K4 := Kp.wr K2 W4 (Or.inr sz_b)
  have hk4 := Nat.le_trans hk2 (Keep.of_wr W4).1
  have A4_b : Seq Z h4 b .byte [(.int (nar .byte (p0.toInt8.toInt32))), (.int (nar .byte (wsf p2))), (.int (0 : Int32)), (.int (0 : Int32)), (.int (0 : Int32)), (.int (0 : Int32))] := A4
  refine G.aload X4 hx (pc' := 22) (hb hby at_20) rfl rfl rfl ?_
  refine G.iconst X4 hx (pc' := 23) (hb hby at_22) (z := (2 : Int32)) rfl rfl ?_
  refine G.iloadN X4 hx (pc' := 24) (hb hby at_23) rfl rfl ?_
  refine G.iconst X4 hx (pc' := 25) (hb hby at_24) (z := (2 : Int32)) rfl rfl ?_
  refine G.iushr X4 hx (pc' := 26) (hb hby at_25) rfl ?_
  refine G.callS X4 hx hZ (y := (⟨"com/example/wary_offset/waryoffset/remoting/ReaderExpectEndPinLaw", "ws", "(I)B"⟩ : MethodName)) hown (hw _ (List.mem_of_getElem? (i := 1) rfl)) (hw _ (List.mem_of_getElem? (i := 2) rfl)) (hw _ (List.mem_of_getElem? (i := 3) rfl)) (hw _ (List.mem_of_getElem? (i := 4) rfl)) (by decide) e4 (rm := ({ frames := 0, cells := 0, slots := 0, locals := 0 } : Room)) (argsL := [(.int (Jvm.Free.XT.ushr p2 (2 : Int32)))]) (S := [(.int (2 : Int32)), (.ref b)]) (W := 2) (rm_ws l Z a0 hw (Jvm.Free.XT.ushr p2 (2 : Int32)) h4) (lenOf pd_4 rfl) rfl (Nat.le_of_eq rfl) (by decide) (by decide) (by decide) (by decide) (by rw [hml]; rfl) (hb hby at_26) (pc' := 29) rfl ?_
  rintro T5 _ _ ⟨rfl, e5, rfl⟩ X5
  rw [List.append_nil] at X5
  show Goes p e below T5 (mkF m 29 #[.val (.int p0), .val (.int p1), .val (.int p2), .val (.int p3), .val (.ref b), .unset, .unset, .unset, .unset] [(.int (wsf (Jvm.Free.XT.ushr p2 (2 : Int32)))), (.int (2 : Int32)), (.ref b)]) _
  refine G.bastore X5 hx hZ e5 A4_b (pc' := 30) (hb hby at_29) (by decide) (Nat.le_of_ble_eq_true rfl) rfl fun T6 h6 X6 e6 W6 A6 => ?_
  have K6 := Kp.wr K4 W6 (Or.inr sz_b)
  have hk6 := Nat.le_trans hk4 (Keep.of_wr W6).1
  have A6_b : Seq Z h6 b .byte [(.int (nar .byte (p0.toInt8.toInt32))), (.int (nar .byte (wsf p2))), (.int (nar .byte (wsf (Jvm.Free.XT.ushr p2 (2 : Int32))))), (.int (0 : Int32)), (.int (0 : Int32)), (.int (0 : Int32))] := A6
  refine G.aload X6 hx (pc' := 32) (hb hby at_30) rfl rfl rfl ?_
  refine G.iconst X6 hx (pc' := 33) (hb hby at_32) (z := (3 : Int32)) rfl rfl ?_
  refine G.iloadN X6 hx (pc' := 34) (hb hby at_33) rfl rfl ?_
  refine G.iconst X6 hx (pc' := 35) (hb hby at_34) (z := (4 : Int32)) rfl rfl ?_
  refine G.iushr X6 hx (pc' := 36) (hb hby at_35) rfl ?_
  refine G.callS X6 hx hZ (y := (⟨"com/example/wary_offset/waryoffset/remoting/ReaderExpectEndPinLaw", "ws", "(I)B"⟩ : MethodName)) hown (hw _ (List.mem_of_getElem? (i := 1) rfl)) (hw _ (List.mem_of_getElem? (i := 2) rfl)) (hw _ (List.mem_of_getElem? (i := 3) rfl)) (hw _ (List.mem_of_getElem? (i := 4) rfl)) (by decide) e6 (rm := ({ frames := 0, cells := 0, slots := 0, locals := 0 } : Room)) (argsL := [(.int (Jvm.Free.XT.ushr p2 (4 : Int32)))]) (S := [(.int (3 : Int32)), (.ref b)]) (W := 2) (rm_ws l Z a0 hw (Jvm.Free.XT.ushr p2 (4 : Int32)) h6) (lenOf pd_4 rfl) rfl (Nat.le_of_eq rfl) (by decide) (by decide) (by decide) (by decide) (by rw [hml]; rfl) (hb hby at_36) (pc' := 39) rfl ?_
  rintro T7 _ _ ⟨rfl, e7, rfl⟩ X7
  rw [List.append_nil] at X7
  show Goes p e below T7 (mkF m 39 #[.val (.int p0), .val (.int p1), .val (.int p2), .val (.int p3), .val (.ref b), .unset, .unset, .unset, .unset] [(.int (wsf (Jvm.Free.XT.ushr p2 (4 : Int32)))), (.int (3 : Int32)), (.ref b)]) _
  refine G.bastore X7 hx hZ e7 A6_b (pc' := 40) (hb hby at_39) (by decide) (Nat.le_of_ble_eq_true rfl) rfl fun T8 h8 X8 e8 W8 A8 => ?_
  have K8 := Kp.wr K6 W8 (Or.inr sz_b)
  have hk8 := Nat.le_trans hk6 (Keep.of_wr W8).1
  have A8_b : Seq Z h8 b .byte [(.int (nar .byte (p0.toInt8.toInt32))), (.int (nar .byte (wsf p2))), (.int (nar .byte (wsf (Jvm.Free.XT.ushr p2 (2 : Int32))))), (.int (nar .byte (wsf (Jvm.Free.XT.ushr p2 (4 : Int32))))), (.int (0 : Int32)), (.int (0 : Int32))] := A8
  refine G.aload X8 hx (pc' := 42) (hb hby at_40) rfl rfl rfl ?_
  refine G.iconst X8 hx (pc' := 43) (hb hby at_42) (z := (4 : Int32)) rfl rfl ?_
  refine G.iloadN X8 hx (pc' := 44) (hb hby at_43) rfl rfl ?_
  refine G.bipush X8 hx (pc' := 46) (hb hby at_44) (z := (6 : Int32)) rfl rfl ?_
  refine G.iushr X8 hx (pc' := 47) (hb hby at_46) rfl ?_
  refine G.callS X8 hx hZ (y := (⟨"com/example/wary_offset/waryoffset/remoting/ReaderExpectEndPinLaw", "ws", "(I)B"⟩ : MethodName)) hown (hw _ (List.mem_of_getElem? (i := 1) rfl)) (hw _ (List.mem_of_getElem? (i := 2) rfl)) (hw _ (List.mem_of_getElem? (i := 3) rfl)) (hw _ (List.mem_of_getElem? (i := 4) rfl)) (by decide) e8 (rm := ({ frames := 0, cells := 0, slots := 0, locals := 0 } : Room)) (argsL := [(.int (Jvm.Free.XT.ushr p2 (6 : Int32)))]) (S := [(.int (4 : Int32)), (.ref b)]) (W := 2) (rm_ws l Z a0 hw (Jvm.Free.XT.ushr p2 (6 : Int32)) h8) (lenOf pd_4 rfl) rfl (Nat.le_of_eq rfl) (by decide) (by decide) (by decide) (by decide) (by rw [hml]; rfl) (hb hby at_47) (pc' := 50) rfl ?_
  rintro T9 _ _ ⟨rfl, e9, rfl⟩ X9
  rw [List.append_nil] at X9
  show Goes p e below T9 (mkF m 50 #[.val (.int p0), .val (.int p1), .val (.int p2), .val (.int p3), .val (.ref b), .unset, .unset, .unset, .unset] [(.int (wsf (Jvm.Free.XT.ushr p2 (6 : Int32)))), (.int (4 : Int32)), (.ref b)]) _
  refine G.bastore X9 hx hZ e9 A8_b (pc' := 51) (hb hby at_50) (by decide) (Nat.le_of_ble_eq_true rfl) rfl fun T10 h10 X10 e10 W10 A10 => ?_
  have K10 := Kp.wr K8 W10 (Or.inr sz_b)
  have hk10 := Nat.le_trans hk8 (Keep.of_wr W10).1
  have A10_b : Seq Z h10 b .byte [(.int (nar .byte (p0.toInt8.toInt32))), (.int (nar .byte (wsf p2))), (.int (nar .byte (wsf (Jvm.Free.XT.ushr p2 (2 : Int32))))), (.int (nar .byte (wsf (Jvm.Free.XT.ushr p2 (4 : Int32))))), (.int (nar .byte (wsf (Jvm.Free.XT.ushr p2 (6 : Int32))))), (.int (0 : Int32))] := A10
  refine G.aload X10 hx (pc' := 53) (hb hby at_51) rfl rfl rfl ?_
  refine G.iconst X10 hx (pc' := 54) (hb hby at_53) (z := (5 : Int32)) rfl rfl ?_
  refine G.iloadN X10 hx (pc' := 55) (hb hby at_54) rfl rfl ?_
  refine G.bipush X10 hx (pc' := 57) (hb hby at_55) (z := (8 : Int32)) rfl rfl ?_
  refine G.iushr X10 hx (pc' := 58) (hb hby at_57) rfl ?_
  refine G.callS X10 hx hZ (y := (⟨"com/example/wary_offset/waryoffset/remoting/ReaderExpectEndPinLaw", "ws", "(I)B"⟩ : MethodName)) hown (hw _ (List.mem_of_getElem? (i := 1) rfl)) (hw _ (List.mem_of_getElem? (i := 2) rfl)) (hw _ (List.mem_of_getElem? (i := 3) rfl)) (hw _ (List.mem_of_getElem? (i := 4) rfl)) (by decide) e10 (rm := ({ frames := 0, cells := 0, slots := 0, locals := 0 } : Room)) (argsL := [(.int (Jvm.Free.XT.ushr p2 (8 : Int32)))]) (S := [(.int (5 : Int32)), (.ref b)]) (W := 2) (rm_ws l Z a0 hw (Jvm.Free.XT.ushr p2 (8 : Int32)) h10) (lenOf pd_4 rfl) rfl (Nat.le_of_eq rfl) (by decide) (by decide) (by decide) (by decide) (by rw [hml]; rfl) (hb hby at_58) (pc' := 61) rfl ?_
  rintro T11 _ _ ⟨rfl, e11, rfl⟩ X11
  rw [List.append_nil] at X11
  show Goes p e below T11 (mkF m 61 #[.val (.int p0), .val (.int p1), .val (.int p2), .val (.int p3), .val (.ref b), .unset, .unset, .unset, .unset] [(.int (wsf (Jvm.Free.XT.ushr p2 (8 : Int32)))), (.int (5 : Int32)), (.ref b)]) _
  refine G.bastore X11 hx hZ e11 A10_b (pc' := 62) (hb hby at_61) (by decide) (Nat.le_of_ble_eq_true rfl) rfl fun T12 h12 X12 e12 W12 A12 => ?_
  have K12 := Kp.wr K10 W12 (Or.inr sz_b)
  have hk12 := Nat.le_trans hk10 (Keep.of_wr W12).1
  have A12_b : Seq Z h12 b .byte [(.int (nar .byte (p0.toInt8.toInt32))), (.int (nar .byte (wsf p2))), (.int (nar .byte (wsf (Jvm.Free.XT.ushr p2 (2 : Int32))))), (.int (nar .byte (wsf (Jvm.Free.XT.ushr p2 (4 : Int32))))), (.int (nar .byte (wsf (Jvm.Free.XT.ushr p2 (6 : Int32))))), (.int (nar .byte (wsf (Jvm.Free.XT.ushr p2 (8 : Int32)))))] := A12
  generalize hq0 : (nar .byte (p0.toInt8.toInt32)) = y0 at A12_b
  have hy1 := own_ws p2
  generalize hq1 : (nar .byte (wsf p2)) = y1 at A12_b hy1
  have hy2 := own_ws (Jvm.Free.XT.ushr p2 (2 : Int32))
  generalize hq2 : (nar .byte (wsf (Jvm.Free.XT.ushr p2 (2 : Int32)))) = y2 at A12_b hy2
  have hy3 := own_ws (Jvm.Free.XT.ushr p2 (4 : Int32))
  generalize hq3 : (nar .byte (wsf (Jvm.Free.XT.ushr p2 (4 : Int32)))) = y3 at A12_b hy3
  have hy4 := own_ws (Jvm.Free.XT.ushr p2 (6 : Int32))
  generalize hq4 : (nar .byte (wsf (Jvm.Free.XT.ushr p2 (6 : Int32)))) = y4 at A12_b hy4
  have hy5 := own_ws (Jvm.Free.XT.ushr p2 (8 : Int32))
  generalize hq5 : (nar .byte (wsf (Jvm.Free.XT.ushr p2 (8 : Int32)))) = y5 at A12_b hy5
  refine G.iloadN X12 hx (pc' := 63) (hb hby at_62) rfl rfl ?_
  refine G.ldcInt X12 hx hZ hown (hw _ (List.mem_of_getElem? (i := 5) rfl)) (pc' := 65) (hb hby at_63) rfl ?_
  refine G.iand X12 hx (pc' := 66) (hb hby at_65) rfl ?_
  refine G.iconst X12 hx (pc' := 67) (hb hby at_66) (z := (5 : Int32)) rfl rfl ?_
  refine G.irem X12 hx (pc' := 68) (hb hby at_67) (by decide) rfl ?_
  refine G.istore X12 hx (pc' := 70) (hb hby at_68) (L' := #[.val (.int p0), .val (.int p1), .val (.int p2), .val (.int p3), .val (.ref b), .val (.int ((p1 &&& (2147483647 : Int32)) % (5 : Int32))), .unset, .unset, .unset]) rfl rfl ?_
  have hn5 := own_n p1
  generalize hnn : ((p1 &&& (2147483647 : Int32)) % (5 : Int32)) = nn at hn5 ⊢
  rcases hn5 with rfl | rfl | rfl | rfl | rfl
  · show Goes p e below T12 (mkF m 70 #[.val (.int p0), .val (.int p1), .val (.int p2), .val (.int p3), .val (.ref b), .val (.int (0 : Int32)), .unset, .unset, .unset] []) _
    refine G.aload X12 hx (pc' := 72) (hb hby at_70) rfl rfl rfl ?_
    refine G.iconst X12 hx (pc' := 73) (hb hby at_72) (z := (1 : Int32)) rfl rfl ?_
    refine G.iload X12 hx (pc' := 75) (hb hby at_73) rfl rfl ?_
    refine G.iadd X12 hx (pc' := 76) (hb hby at_75) rfl ?_
    refine G.iloadN X12 hx (pc' := 77) (hb hby at_76) rfl rfl ?_
    refine G.i2b X12 hx (pc' := 78) (hb hby at_77) rfl ?_
    refine G.bastore X12 hx hZ e12 A12_b (pc' := 79) (hb hby at_78) (by decide) (Nat.le_of_ble_eq_true rfl) rfl fun T13 h13 X13 e13 W13 A13 => ?_
    have K13 := Kp.wr K12 W13 (Or.inr sz_b)
    have hk13 := Nat.le_trans hk12 (Keep.of_wr W13).1
    have A13_b : Seq Z h13 b .byte [(.int y0), (.int (nar .byte (p3.toInt8.toInt32))), (.int y2), (.int y3), (.int y4), (.int y5)] := A13
    generalize hqd : (nar .byte (p3.toInt8.toInt32)) = yd at A13_b
    refine G.iloadN X13 hx (pc' := 80) (hb hby at_79) rfl rfl ?_
    refine G.iconst X13 hx (pc' := 81) (hb hby at_80) (z := (3 : Int32)) rfl rfl ?_
    refine G.iushr X13 hx (pc' := 82) (hb hby at_81) rfl ?_
    refine G.iconst X13 hx (pc' := 83) (hb hby at_82) (z := (1 : Int32)) rfl rfl ?_
    refine G.iand X13 hx (pc' := 84) (hb hby at_83) rfl ?_
    by_cases c1 : ((Jvm.Free.XT.ushr p1 (3 : Int32)) &&& (1 : Int32)) = (0 : Int32)
    · refine G.ifT X13 hx (pc' := 96) (hb hby at_84) (Jvm.Free.XT.i0_eq_t c1) (by decide) (by decide) ?_
      refine G.iconst X13 hx (pc' := 97) (hb hby at_96) (z := (0 : Int32)) rfl rfl ?_
      refine G.istore X13 hx (pc' := 99) (hb hby at_97) (L' := #[.val (.int p0), .val (.int p1), .val (.int p2), .val (.int p3), .val (.ref b), .val (.int (0 : Int32)), .val (.int (0 : Int32)), .unset, .unset]) rfl rfl ?_
      refine G.bipush X13 hx (pc' := 101) (hb hby at_99) (z := (33 : Int32)) rfl rfl ?_
      refine G.iloadN X13 hx (pc' := 102) (hb hby at_101) rfl rfl ?_
      refine G.bipush X13 hx (pc' := 104) (hb hby at_102) (z := (8 : Int32)) rfl rfl ?_
      refine G.iushr X13 hx (pc' := 105) (hb hby at_104) rfl ?_
      refine G.bipush X13 hx (pc' := 107) (hb hby at_105) (z := (94 : Int32)) rfl rfl ?_
      refine G.irem X13 hx (pc' := 108) (hb hby at_107) (by decide) rfl ?_
      refine G.iadd X13 hx (pc' := 109) (hb hby at_108) rfl ?_
      refine G.istore X13 hx (pc' := 111) (hb hby at_109) (L' := #[.val (.int p0), .val (.int p1), .val (.int p2), .val (.int p3), .val (.ref b), .val (.int (0 : Int32)), .val (.int (0 : Int32)), .val (.int ((33 : Int32) + ((Jvm.Free.XT.ushr p0 (8 : Int32)) % (94 : Int32)))), .unset]) rfl rfl ?_
      refine G.iload X13 hx (pc' := 113) (hb hby at_111) rfl rfl ?_
      have htk := own_tok p0
      generalize htq : ((33 : Int32) + ((Jvm.Free.XT.ushr p0 (8 : Int32)) % (94 : Int32))) = tk at htk ⊢
      refine G.ifT X13 hx (pc' := 123) (hb hby at_113) (Jvm.Free.XT.i0_eq_t (by decide)) (by decide) (by decide) ?_
      refine G.newO X13 hx hZ hown (hw _ (List.mem_of_getElem? (i := 6) rfl)) (hw _ (List.mem_of_getElem? (i := 7) rfl)) (hw _ (List.mem_of_getElem? (i := 8) rfl)) e13 (hb hby at_123) (by decide) (by decide) (pc' := 126) rfl fun T14 h14 r g14 X14 e14 Ex14 Ea14 D14 => ?_
      have ne_b_r : b ≠ r := Nat.ne_of_lt (Nat.lt_of_lt_of_le A13_b.lt (Nat.le_of_eq g14.symm))
      have sz_r : Z.heap.size ≤ r := Nat.le_trans K13.size (Nat.le_of_eq g14.symm)
      have A14_b := Seq.ext A13_b Ex14
      have K14 := Kp.ext K13 Ex14
      have hk14 := Nat.le_trans hk13 Ex14.1
      have F14_r_text : Fld Z h14 r "com/example/wary_offset/waryoffset/remoting/JsonText$Reader" "text" "[B" .null := D14 (Or.inr (hw _ (List.mem_of_getElem? (i := 26) rfl))) (ty := (.array .byte)) (by decide)
      have F14_r_start : Fld Z h14 r "com/example/wary_offset/waryoffset/remoting/JsonText$Reader" "start" "I" (.int (0 : Int32)) := D14 (Or.inr (hw _ (List.mem_of_getElem? (i := 28) rfl))) (ty := .int) (by decide)
      have F14_r_end : Fld Z h14 r "com/example/wary_offset/waryoffset/remoting/JsonText$Reader" "end" "I" (.int (0 : Int32)) := D14 (Or.inr (hw _ (List.mem_of_getElem? (i := 30) rfl))) (ty := .int) (by decide)
      have F14_r_what : Fld Z h14 r "com/example/wary_offset/waryoffset/remoting/JsonText$Reader" "what" "Ljava/lang/String;" .null := D14 (Or.inr (hw _ (List.mem_of_getElem? (i := 32) rfl))) (ty := (.object "java/lang/String")) (by decide)
      have F14_r_strings : Fld Z h14 r "com/example/wary_offset/waryoffset/remoting/JsonText$Reader" "strings" "Lcom/example/wary_offset/waryoffset/remoting/JsonText$Strings;" .null := D14 (Or.inr (hw _ (List.mem_of_getElem? (i := 34) rfl))) (ty := (.object "com/example/wary_offset/waryoffset/remoting/JsonText$Strings")) (by decide)
      have F14_r_at : Fld Z h14 r "com/example/wary_offset/waryoffset/remoting/JsonText$Reader" "at" "I" (.int (0 : Int32)) := D14 (Or.inl (hw _ (List.mem_of_getElem? (i := 36) rfl))) (ty := .int) (by decide)
      refine G.dup X14 hx (pc' := 127) (hb hby at_126) rfl rfl ?_
      refine G.aload X14 hx (pc' := 129) (hb hby at_127) rfl rfl rfl ?_
      refine G.iconst X14 hx (pc' := 130) (hb hby at_129) (z := (1 : Int32)) rfl rfl ?_
      refine G.iload X14 hx (pc' := 132) (hb hby at_130) rfl rfl ?_
      refine G.ldcStr X14 hx hZ hown (hw _ (List.mem_of_getElem? (i := 9) rfl)) hwS e14 hS0 hk14 (hb hby at_132) (n := 4) (by decide +kernel) (by decide) (by decide) (by decide) (pc' := 134) rfl fun st T15 h15 k15 X15 e15 Ex15 hS15 hk15 hZ hown => ?_
      have F15_r_text := Fld.ext  Ex15 F14_r_text
      have F15_r_start := Fld.ext  Ex15 F14_r_start
      have F15_r_end := Fld.ext  Ex15 F14_r_end
      have F15_r_what := Fld.ext  Ex15 F14_r_what
      have F15_r_strings := Fld.ext  Ex15 F14_r_strings
      have F15_r_at := Fld.ext  Ex15 F14_r_at
      have E15_r := Exa.ext  Ex15 Ea14
      have A15_b := Seq.ext A14_b Ex15
      have K15 := Kp.ext K14 Ex15
      have nrb : r ≠ b := Ne.symm ne_b_r
      refine G.callI X15 hx hZ (y := (⟨"com/example/wary_offset/waryoffset/remoting/JsonText$Reader", "<init>", "([BIILjava/lang/String;)V"⟩ : MethodName)) rfl hown (hw _ (List.mem_of_getElem? (i := 16) rfl)) (hw _ (List.mem_of_getElem? (i := 17) rfl)) (hw _ (List.mem_of_getElem? (i := 8) rfl)) (hw _ (List.mem_of_getElem? (i := 18) rfl)) (by decide) e15 (rm := ({ frames := 2, cells := 0, slots := 0, locals := 29 } : Room)) (argsL := [(.ref b), (.int (1 : Int32)), (.int (0 : Int32)), (.ref st)]) (S := [(.ref r)]) (W := 1) (a := r) (rm_init l Z a0 hw r b st (1 : Int32) (0 : Int32) h15 E15_r F15_r_text F15_r_start F15_r_end F15_r_what F15_r_strings F15_r_at) (lenOf pd_5 rfl) rfl (Nat.le_of_eq rfl) (by decide) (by decide) (by decide) (by decide) (by rw [hml]; rfl) (hb hby at_134) (pc' := 137) rfl ?_
      rintro T16 _ L16 ⟨rfl, Kq16, Ft16, Fe16, Fa16⟩ X16
      have E16_r := Exa.keep E15_r Kq16.1
      have A16_b := Seq.keep A15_b Kq16.1 (ninS ne_b_r nin0)
      have K16 := Kp.call K15 Kq16 (allS (Or.inr sz_r) all0)
      have hk16 := Nat.le_trans hk15 Kq16.1.1
      have Fe16' : Fld Z T16.heap r "com/example/wary_offset/waryoffset/remoting/JsonText$Reader" "end" "I" (.int (Int32.ofNat 1)) := Fe16
      have Fa16' : Fld Z T16.heap r "com/example/wary_offset/waryoffset/remoting/JsonText$Reader" "at" "I" (.int (Int32.ofNat 1)) := Fa16
      have A16' : Seq Z T16.heap b .byte (([y0, yd, y2, y3, y4, y5] : List Int32).map Value.int) := A16_b
      show Goes p e below T16 (mkF m 137 #[.val (.int p0), .val (.int p1), .val (.int p2), .val (.int p3), .val (.ref b), .val (.int (0 : Int32)), .val (.int (0 : Int32)), .val (.int tk), .unset] [(.ref r)]) _
      refine G.astore X16 hx (pc' := 139) (hb hby at_137) rfl (L' := #[.val (.int p0), .val (.int p1), .val (.int p2), .val (.int p3), .val (.ref b), .val (.int (0 : Int32)), .val (.int (0 : Int32)), .val (.int tk), .val (.ref r)]) rfl rfl ?_
      refine G.iload X16 hx (pc' := 141) (hb hby at_139) rfl rfl ?_
      refine G.ifT X16 hx (pc' := 157) (hb hby at_141) (Jvm.Free.XT.i0_eq_t (by decide)) (by decide) (by decide) ?_
      refine G.aload X16 hx (pc' := 159) (hb hby at_157) rfl rfl rfl ?_
      have hJ2 : (sk ([y0, yd, y2, y3, y4, y5] : List Int32) 1 (1 - 1) 1) = 1 := by
        show sk ([y0, yd, y2, y3, y4, y5] : List Int32) 1 0 1 = 1
        rfl
      have hv2 : nextv ([y0, yd, y2, y3, y4, y5] : List Int32) 1 (sk ([y0, yd, y2, y3, y4, y5] : List Int32) 1 (1 - 1) 1) = (-1 : Int32) := by rw [hJ2, nextv, if_neg (by decide)]
      refine G.callV X16 hx hZ (y0 := (⟨"com/example/wary_offset/waryoffset/remoting/JsonText$Reader", "expectEnd", "()V"⟩ : MethodName)) (y := (⟨"com/example/wary_offset/waryoffset/remoting/JsonText$Reader", "expectEnd", "()V"⟩ : MethodName)) hown (hw _ (List.mem_of_getElem? (i := 37) rfl)) (hw _ (List.mem_of_getElem? (i := 38) rfl)) (notFace_of_selects (args := #[]) (mvT hZ (hw _ (List.mem_of_getElem? (i := 40) rfl)))) (hw _ (List.mem_of_getElem? (i := 40) rfl)) (hw _ (List.mem_of_getElem? (i := 39) rfl)) (hw _ (List.mem_of_getElem? (i := 8) rfl)) (hw _ (List.mem_of_getElem? (i := 41) rfl)) (by decide) rfl (rm := ({ frames := 1, cells := 0, slots := 0, locals := 12 } : Room)) (argsL := []) (S := []) (W := 0) (a := r) E16_r (rm_expect l Z a0 hw r b 1 1 ([y0, yd, y2, y3, y4, y5] : List Int32) T16.heap E16_r Fa16' Fe16' Ft16 A16' nrb (by decide) (Nat.le_of_ble_eq_true rfl) (Nat.le_of_ble_eq_true rfl) hv2) (lenOf pd_6 rfl) rfl (Nat.le_of_eq rfl) (by decide) (by decide) (by decide) (by decide) (by rw [hml]; rfl) (hb hby at_159) (pc' := 162) rfl ?_
      rintro T17 _ L17 ⟨rfl, Kq17, Fa17, Fe17, Ft17⟩ X17
      have E17_r := Exa.keep E16_r Kq17.1
      have A17_b := Seq.keep A16' Kq17.1 (ninS ne_b_r nin0)
      have K17 := Kp.call K16 Kq17 (allS (Or.inr sz_r) all0)
      have hk17 := Nat.le_trans hk16 Kq17.1.1
      have Fa17' : Fld Z T17.heap r "com/example/wary_offset/waryoffset/remoting/JsonText$Reader" "at" "I" (.int (Int32.ofNat 1)) := by rw [hJ2] at Fa17; exact Fa17
      show Goes p e below T17 (mkF m 162 #[.val (.int p0), .val (.int p1), .val (.int p2), .val (.int p3), .val (.ref b), .val (.int (0 : Int32)), .val (.int (0 : Int32)), .val (.int tk), .val (.ref r)] []) _
      refine G.aload X17 hx (pc' := 164) (hb hby at_162) rfl rfl rfl ?_
      refine G.iloadN X17 hx (pc' := 165) (hb hby at_164) rfl rfl ?_
      refine G.sipush X17 hx (pc' := 168) (hb hby at_165) (z := (255 : Int32)) rfl rfl ?_
      refine G.iand X17 hx (pc' := 169) (hb hby at_168) rfl ?_
      refine G.i2c X17 hx (pc' := 170) (hb hby at_169) rfl ?_
      have hJ3 : (sk ([y0, yd, y2, y3, y4, y5] : List Int32) 1 (1 - 1) 1) = 1 := rfl
      have hv3 : ¬ (nextv ([y0, yd, y2, y3, y4, y5] : List Int32) 1 (sk ([y0, yd, y2, y3, y4, y5] : List Int32) 1 (1 - 1) 1)) = ((p3 &&& (255 : Int32)).toUInt32.toUInt16.toUInt32.toInt32) := by rw [hJ3, nextv, if_neg (by decide)]; exact own_c0 (p3 &&& (255 : Int32))
      refine G.callV X17 hx hZ (y0 := (⟨"com/example/wary_offset/waryoffset/remoting/JsonText$Reader", "take", "(C)Z"⟩ : MethodName)) (y := (⟨"com/example/wary_offset/waryoffset/remoting/JsonText$Reader", "take", "(C)Z"⟩ : MethodName)) hown (hw _ (List.mem_of_getElem? (i := 46) rfl)) (hw _ (List.mem_of_getElem? (i := 47) rfl)) (notFace_of_selects (args := #[]) (mvT hZ (hw _ (List.mem_of_getElem? (i := 49) rfl)))) (hw _ (List.mem_of_getElem? (i := 49) rfl)) (hw _ (List.mem_of_getElem? (i := 48) rfl)) (hw _ (List.mem_of_getElem? (i := 8) rfl)) (hw _ (List.mem_of_getElem? (i := 50) rfl)) (by decide) rfl (rm := ({ frames := 1, cells := 0, slots := 0, locals := 12 } : Room)) (argsL := [(.int ((p3 &&& (255 : Int32)).toUInt32.toUInt16.toUInt32.toInt32))]) (S := []) (W := 0) (a := r) E17_r (rm_take l Z a0 hw r b ((p3 &&& (255 : Int32)).toUInt32.toUInt16.toUInt32.toInt32) 1 1 ([y0, yd, y2, y3, y4, y5] : List Int32) T17.heap E17_r Fa17' Fe17 Ft17 A17_b nrb (by decide) (Nat.le_of_ble_eq_true rfl) (Nat.le_of_ble_eq_true rfl)) (lenOf pd_7 rfl) rfl (Nat.le_of_eq rfl) (by decide) (by decide) (by decide) (by decide) (by rw [hml]; rfl) (hb hby at_170) (pc' := 173) rfl ?_
      rintro T18 _ L18 ⟨rfl, Kq18, Fa18, Fe18, Ft18⟩ X18
      have E18_r := Exa.keep E17_r Kq18.1
      have A18_b := Seq.keep A17_b Kq18.1 (ninS ne_b_r nin0)
      have K18 := Kp.call K17 Kq18 (allS (Or.inr sz_r) all0)
      have hk18 := Nat.le_trans hk17 Kq18.1.1
      show Goes p e below T18 (mkF m 173 #[.val (.int p0), .val (.int p1), .val (.int p2), .val (.int p3), .val (.ref b), .val (.int (0 : Int32)), .val (.int (0 : Int32)), .val (.int tk), .val (.ref r)] [(.int (if (nextv ([y0, yd, y2, y3, y4, y5] : List Int32) 1 (sk ([y0, yd, y2, y3, y4, y5] : List Int32) 1 (1 - 1) 1)) = ((p3 &&& (255 : Int32)).toUInt32.toUInt16.toUInt32.toInt32) then (1 : Int32) else (0 : Int32)))]) _
      rw [if_neg hv3]
      refine G.ifF X18 hx (pc' := 176) (hb hby at_173) (Jvm.Free.XT.i0_ne_f rfl) rfl ?_
      refine G.iconst X18 hx (pc' := 177) (hb hby at_176) (z := (1 : Int32)) rfl rfl ?_
      refine G.goto X18 hx (pc' := 181) (hb hby at_177) (by decide) (by decide) ?_
      refine Goes.retNW X18 hS15 hk18 hx hret (by simp) hlk (hb hby at_181) (by decide) (by decide) ⟨rfl, K18.fr⟩
    · refine G.ifF X13 hx (pc' := 87) (hb hby at_84) (Jvm.Free.XT.i0_eq_f c1) rfl ?_
      refine G.iload X13 hx (pc' := 89) (hb hby at_87) rfl rfl ?_
      refine G.ifT X13 hx (pc' := 96) (hb hby at_89) (Jvm.Free.XT.i0_le_t (by decide)) (by decide) (by decide) ?_
      refine G.iconst X13 hx (pc' := 97) (hb hby at_96) (z := (0 : Int32)) rfl rfl ?_
      refine G.istore X13 hx (pc' := 99) (hb hby at_97) (L' := #[.val (.int p0), .val (.int p1), .val (.int p2), .val (.int p3), .val (.ref b), .val (.int (0 : Int32)), .val (.int (0 : Int32)), .unset, .unset]) rfl rfl ?_
      refine G.bipush X13 hx (pc' := 101) (hb hby at_99) (z := (33 : Int32)) rfl rfl ?_
      refine G.iloadN X13 hx (pc' := 102) (hb hby at_101) rfl rfl ?_
      refine G.bipush X13 hx (pc' := 104) (hb hby at_102) (z := (8 : Int32)) rfl rfl ?_
      refine G.iushr X13 hx (pc' := 105) (hb hby at_104) rfl ?_
      refine G.bipush X13 hx (pc' := 107) (hb hby at_105) (z := (94 : Int32)) rfl rfl ?_
      refine G.irem X13 hx (pc' := 108) (hb hby at_107) (by decide) rfl ?_
      refine G.iadd X13 hx (pc' := 109) (hb hby at_108) rfl ?_
      refine G.istore X13 hx (pc' := 111) (hb hby at_109) (L' := #[.val (.int p0), .val (.int p1), .val (.int p2), .val (.int p3), .val (.ref b), .val (.int (0 : Int32)), .val (.int (0 : Int32)), .val (.int ((33 : Int32) + ((Jvm.Free.XT.ushr p0 (8 : Int32)) % (94 : Int32)))), .unset]) rfl rfl ?_
      refine G.iload X13 hx (pc' := 113) (hb hby at_111) rfl rfl ?_
      have htk := own_tok p0
      generalize htq : ((33 : Int32) + ((Jvm.Free.XT.ushr p0 (8 : Int32)) % (94 : Int32))) = tk at htk ⊢
      refine G.ifT X13 hx (pc' := 123) (hb hby at_113) (Jvm.Free.XT.i0_eq_t (by decide)) (by decide) (by decide) ?_
      refine G.newO X13 hx hZ hown (hw _ (List.mem_of_getElem? (i := 6) rfl)) (hw _ (List.mem_of_getElem? (i := 7) rfl)) (hw _ (List.mem_of_getElem? (i := 8) rfl)) e13 (hb hby at_123) (by decide) (by decide) (pc' := 126) rfl fun T19 h19 r g19 X19 e19 Ex19 Ea19 D19 => ?_
      have ne_b_r : b ≠ r := Nat.ne_of_lt (Nat.lt_of_lt_of_le A13_b.lt (Nat.le_of_eq g19.symm))
      have sz_r : Z.heap.size ≤ r := Nat.le_trans K13.size (Nat.le_of_eq g19.symm)
      have A19_b := Seq.ext A13_b Ex19
      have K19 := Kp.ext K13 Ex19
      have hk19 := Nat.le_trans hk13 Ex19.1
      have F19_r_text : Fld Z h19 r "com/example/wary_offset/waryoffset/remoting/JsonText$Reader" "text" "[B" .null := D19 (Or.inr (hw _ (List.mem_of_getElem? (i := 26) rfl))) (ty := (.array .byte)) (by decide)
      have F19_r_start : Fld Z h19 r "com/example/wary_offset/waryoffset/remoting/JsonText$Reader" "start" "I" (.int (0 : Int32)) := D19 (Or.inr (hw _ (List.mem_of_getElem? (i := 28) rfl))) (ty := .int) (by decide)
      have F19_r_end : Fld Z h19 r "com/example/wary_offset/waryoffset/remoting/JsonText$Reader" "end" "I" (.int (0 : Int32)) := D19 (Or.inr (hw _ (List.mem_of_getElem? (i := 30) rfl))) (ty := .int) (by decide)
      have F19_r_what : Fld Z h19 r "com/example/wary_offset/waryoffset/remoting/JsonText$Reader" "what" "Ljava/lang/String;" .null := D19 (Or.inr (hw _ (List.mem_of_getElem? (i := 32) rfl))) (ty := (.object "java/lang/String")) (by decide)
      have F19_r_strings : Fld Z h19 r "com/example/wary_offset/waryoffset/remoting/JsonText$Reader" "strings" "Lcom/example/wary_offset/waryoffset/remoting/JsonText$Strings;" .null := D19 (Or.inr (hw _ (List.mem_of_getElem? (i := 34) rfl))) (ty := (.object "com/example/wary_offset/waryoffset/remoting/JsonText$Strings")) (by decide)
      have F19_r_at : Fld Z h19 r "com/example/wary_offset/waryoffset/remoting/JsonText$Reader" "at" "I" (.int (0 : Int32)) := D19 (Or.inl (hw _ (List.mem_of_getElem? (i := 36) rfl))) (ty := .int) (by decide)
      refine G.dup X19 hx (pc' := 127) (hb hby at_126) rfl rfl ?_
      refine G.aload X19 hx (pc' := 129) (hb hby at_127) rfl rfl rfl ?_
      refine G.iconst X19 hx (pc' := 130) (hb hby at_129) (z := (1 : Int32)) rfl rfl ?_
      refine G.iload X19 hx (pc' := 132) (hb hby at_130) rfl rfl ?_
      refine G.ldcStr X19 hx hZ hown (hw _ (List.mem_of_getElem? (i := 9) rfl)) hwS e19 hS0 hk19 (hb hby at_132) (n := 4) (by decide +kernel) (by decide) (by decide) (by decide) (pc' := 134) rfl fun st T20 h20 k20 X20 e20 Ex20 hS20 hk20 hZ hown => ?_
      have F20_r_text := Fld.ext  Ex20 F19_r_text
      have F20_r_start := Fld.ext  Ex20 F19_r_start
      have F20_r_end := Fld.ext  Ex20 F19_r_end
      have F20_r_what := Fld.ext  Ex20 F19_r_what
      have F20_r_strings := Fld.ext  Ex20 F19_r_strings
      have F20_r_at := Fld.ext  Ex20 F19_r_at
      have E20_r := Exa.ext  Ex20 Ea19
      have A20_b := Seq.ext A19_b Ex20
      have K20 := Kp.ext K19 Ex20
      have nrb : r ≠ b := Ne.symm ne_b_r
      refine G.callI X20 hx hZ (y := (⟨"com/example/wary_offset/waryoffset/remoting/JsonText$Reader", "<init>", "([BIILjava/lang/String;)V"⟩ : MethodName)) rfl hown (hw _ (List.mem_of_getElem? (i := 16) rfl)) (hw _ (List.mem_of_getElem? (i := 17) rfl)) (hw _ (List.mem_of_getElem? (i := 8) rfl)) (hw _ (List.mem_of_getElem? (i := 18) rfl)) (by decide) e20 (rm := ({ frames := 2, cells := 0, slots := 0, locals := 29 } : Room)) (argsL := [(.ref b), (.int (1 : Int32)), (.int (0 : Int32)), (.ref st)]) (S := [(.ref r)]) (W := 1) (a := r) (rm_init l Z a0 hw r b st (1 : Int32) (0 : Int32) h20 E20_r F20_r_text F20_r_start F20_r_end F20_r_what F20_r_strings F20_r_at) (lenOf pd_5 rfl) rfl (Nat.le_of_eq rfl) (by decide) (by decide) (by decide) (by decide) (by rw [hml]; rfl) (hb hby at_134) (pc' := 137) rfl ?_
      rintro T21 _ L21 ⟨rfl, Kq21, Ft21, Fe21, Fa21⟩ X21
      have E21_r := Exa.keep E20_r Kq21.1
      have A21_b := Seq.keep A20_b Kq21.1 (ninS ne_b_r nin0)
      have K21 := Kp.call K20 Kq21 (allS (Or.inr sz_r) all0)
      have hk21 := Nat.le_trans hk20 Kq21.1.1
      have Fe21' : Fld Z T21.heap r "com/example/wary_offset/waryoffset/remoting/JsonText$Reader" "end" "I" (.int (Int32.ofNat 1)) := Fe21
      have Fa21' : Fld Z T21.heap r "com/example/wary_offset/waryoffset/remoting/JsonText$Reader" "at" "I" (.int (Int32.ofNat 1)) := Fa21
      have A21' : Seq Z T21.heap b .byte (([y0, yd, y2, y3, y4, y5] : List Int32).map Value.int) := A21_b
      show Goes p e below T21 (mkF m 137 #[.val (.int p0), .val (.int p1), .val (.int p2), .val (.int p3), .val (.ref b), .val (.int (0 : Int32)), .val (.int (0 : Int32)), .val (.int tk), .unset] [(.ref r)]) _
      refine G.astore X21 hx (pc' := 139) (hb hby at_137) rfl (L' := #[.val (.int p0), .val (.int p1), .val (.int p2), .val (.int p3), .val (.ref b), .val (.int (0 : Int32)), .val (.int (0 : Int32)), .val (.int tk), .val (.ref r)]) rfl rfl ?_
      refine G.iload X21 hx (pc' := 141) (hb hby at_139) rfl rfl ?_
      refine G.ifT X21 hx (pc' := 157) (hb hby at_141) (Jvm.Free.XT.i0_eq_t (by decide)) (by decide) (by decide) ?_
      refine G.aload X21 hx (pc' := 159) (hb hby at_157) rfl rfl rfl ?_
      have hJ2 : (sk ([y0, yd, y2, y3, y4, y5] : List Int32) 1 (1 - 1) 1) = 1 := by
        show sk ([y0, yd, y2, y3, y4, y5] : List Int32) 1 0 1 = 1
        rfl
      have hv2 : nextv ([y0, yd, y2, y3, y4, y5] : List Int32) 1 (sk ([y0, yd, y2, y3, y4, y5] : List Int32) 1 (1 - 1) 1) = (-1 : Int32) := by rw [hJ2, nextv, if_neg (by decide)]
      refine G.callV X21 hx hZ (y0 := (⟨"com/example/wary_offset/waryoffset/remoting/JsonText$Reader", "expectEnd", "()V"⟩ : MethodName)) (y := (⟨"com/example/wary_offset/waryoffset/remoting/JsonText$Reader", "expectEnd", "()V"⟩ : MethodName)) hown (hw _ (List.mem_of_getElem? (i := 37) rfl)) (hw _ (List.mem_of_getElem? (i := 38) rfl)) (notFace_of_selects (args := #[]) (mvT hZ (hw _ (List.mem_of_getElem? (i := 40) rfl)))) (hw _ (List.mem_of_getElem? (i := 40) rfl)) (hw _ (List.mem_of_getElem? (i := 39) rfl)) (hw _ (List.mem_of_getElem? (i := 8) rfl)) (hw _ (List.mem_of_getElem? (i := 41) rfl)) (by decide) rfl (rm := ({ frames := 1, cells := 0, slots := 0, locals := 12 } : Room)) (argsL := []) (S := []) (W := 0) (a := r) E21_r (rm_expect l Z a0 hw r b 1 1 ([y0, yd, y2, y3, y4, y5] : List Int32) T21.heap E21_r Fa21' Fe21' Ft21 A21' nrb (by decide) (Nat.le_of_ble_eq_true rfl) (Nat.le_of_ble_eq_true rfl) hv2) (lenOf pd_6 rfl) rfl (Nat.le_of_eq rfl) (by decide) (by decide) (by decide) (by decide) (by rw [hml]; rfl) (hb hby at_159) (pc' := 162) rfl ?_
      rintro T22 _ L22 ⟨rfl, Kq22, Fa22, Fe22, Ft22⟩ X22
      have E22_r := Exa.keep E21_r Kq22.1
      have A22_b := Seq.keep A21' Kq22.1 (ninS ne_b_r nin0)
      have K22 := Kp.call K21 Kq22 (allS (Or.inr sz_r) all0)
      have hk22 := Nat.le_trans hk21 Kq22.1.1
      have Fa22' : Fld Z T22.heap r "com/example/wary_offset/waryoffset/remoting/JsonText$Reader" "at" "I" (.int (Int32.ofNat 1)) := by rw [hJ2] at Fa22; exact Fa22
      show Goes p e below T22 (mkF m 162 #[.val (.int p0), .val (.int p1), .val (.int p2), .val (.int p3), .val (.ref b), .val (.int (0 : Int32)), .val (.int (0 : Int32)), .val (.int tk), .val (.ref r)] []) _
      refine G.aload X22 hx (pc' := 164) (hb hby at_162) rfl rfl rfl ?_
      refine G.iloadN X22 hx (pc' := 165) (hb hby at_164) rfl rfl ?_
      refine G.sipush X22 hx (pc' := 168) (hb hby at_165) (z := (255 : Int32)) rfl rfl ?_
      refine G.iand X22 hx (pc' := 169) (hb hby at_168) rfl ?_
      refine G.i2c X22 hx (pc' := 170) (hb hby at_169) rfl ?_
      have hJ3 : (sk ([y0, yd, y2, y3, y4, y5] : List Int32) 1 (1 - 1) 1) = 1 := rfl
      have hv3 : ¬ (nextv ([y0, yd, y2, y3, y4, y5] : List Int32) 1 (sk ([y0, yd, y2, y3, y4, y5] : List Int32) 1 (1 - 1) 1)) = ((p3 &&& (255 : Int32)).toUInt32.toUInt16.toUInt32.toInt32) := by rw [hJ3, nextv, if_neg (by decide)]; exact own_c0 (p3 &&& (255 : Int32))
      refine G.callV X22 hx hZ (y0 := (⟨"com/example/wary_offset/waryoffset/remoting/JsonText$Reader", "take", "(C)Z"⟩ : MethodName)) (y := (⟨"com/example/wary_offset/waryoffset/remoting/JsonText$Reader", "take", "(C)Z"⟩ : MethodName)) hown (hw _ (List.mem_of_getElem? (i := 46) rfl)) (hw _ (List.mem_of_getElem? (i := 47) rfl)) (notFace_of_selects (args := #[]) (mvT hZ (hw _ (List.mem_of_getElem? (i := 49) rfl)))) (hw _ (List.mem_of_getElem? (i := 49) rfl)) (hw _ (List.mem_of_getElem? (i := 48) rfl)) (hw _ (List.mem_of_getElem? (i := 8) rfl)) (hw _ (List.mem_of_getElem? (i := 50) rfl)) (by decide) rfl (rm := ({ frames := 1, cells := 0, slots := 0, locals := 12 } : Room)) (argsL := [(.int ((p3 &&& (255 : Int32)).toUInt32.toUInt16.toUInt32.toInt32))]) (S := []) (W := 0) (a := r) E22_r (rm_take l Z a0 hw r b ((p3 &&& (255 : Int32)).toUInt32.toUInt16.toUInt32.toInt32) 1 1 ([y0, yd, y2, y3, y4, y5] : List Int32) T22.heap E22_r Fa22' Fe22 Ft22 A22_b nrb (by decide) (Nat.le_of_ble_eq_true rfl) (Nat.le_of_ble_eq_true rfl)) (lenOf pd_7 rfl) rfl (Nat.le_of_eq rfl) (by decide) (by decide) (by decide) (by decide) (by rw [hml]; rfl) (hb hby at_170) (pc' := 173) rfl ?_
      rintro T23 _ L23 ⟨rfl, Kq23, Fa23, Fe23, Ft23⟩ X23
      have E23_r := Exa.keep E22_r Kq23.1
      have A23_b := Seq.keep A22_b Kq23.1 (ninS ne_b_r nin0)
      have K23 := Kp.call K22 Kq23 (allS (Or.inr sz_r) all0)
      have hk23 := Nat.le_trans hk22 Kq23.1.1
      show Goes p e below T23 (mkF m 173 #[.val (.int p0), .val (.int p1), .val (.int p2), .val (.int p3), .val (.ref b), .val (.int (0 : Int32)), .val (.int (0 : Int32)), .val (.int tk), .val (.ref r)] [(.int (if (nextv ([y0, yd, y2, y3, y4, y5] : List Int32) 1 (sk ([y0, yd, y2, y3, y4, y5] : List Int32) 1 (1 - 1) 1)) = ((p3 &&& (255 : Int32)).toUInt32.toUInt16.toUInt32.toInt32) then (1 : Int32) else (0 : Int32)))]) _
      rw [if_neg hv3]
      refine G.ifF X23 hx (pc' := 176) (hb hby at_173) (Jvm.Free.XT.i0_ne_f rfl) rfl ?_
      refine G.iconst X23 hx (pc' := 177) (hb hby at_176) (z := (1 : Int32)) rfl rfl ?_
      refine G.goto X23 hx (pc' := 181) (hb hby at_177) (by decide) (by decide) ?_
      refine Goes.retNW X23 hS20 hk23 hx hret (by simp) hlk (hb hby at_181) (by decide) (by decide) ⟨rfl, K23.fr⟩
  · show Goes p e below T12 (mkF m 70 #[.val (.int p0), .val (.int p1), .val (.int p2), .val (.int p3), .val (.ref b), .val (.int (1 : Int32)), .unset, .unset, .unset] []) _
    refine G.aload X12 hx (pc' := 72) (hb hby at_70) rfl rfl rfl ?_
    refine G.iconst X12 hx (pc' := 73) (hb hby at_72) (z := (1 : Int32)) rfl rfl ?_
    refine G.iload X12 hx (pc' := 75) (hb hby at_73) rfl rfl ?_
    refine G.iadd X12 hx (pc' := 76) (hb hby at_75) rfl ?_
    refine G.iloadN X12 hx (pc' := 77) (hb hby at_76) rfl rfl ?_
    refine G.i2b X12 hx (pc' := 78) (hb hby at_77) rfl ?_
    refine G.bastore X12 hx hZ e12 A12_b (pc' := 79) (hb hby at_78) (by decide) (Nat.le_of_ble_eq_true rfl) rfl fun T24 h24 X24 e24 W24 A24 => ?_
    have K24 := Kp.wr K12 W24 (Or.inr sz_b)
    have hk24 := Nat.le_trans hk12 (Keep.of_wr W24).1
    have A24_b : Seq Z h24 b .byte [(.int y0), (.int y1), (.int (nar .byte (p3.toInt8.toInt32))), (.int y3), (.int y4), (.int y5)] := A24
    generalize hqd : (nar .byte (p3.toInt8.toInt32)) = yd at A24_b
    refine G.iloadN X24 hx (pc' := 80) (hb hby at_79) rfl rfl ?_
    refine G.iconst X24 hx (pc' := 81) (hb hby at_80) (z := (3 : Int32)) rfl rfl ?_
    refine G.iushr X24 hx (pc' := 82) (hb hby at_81) rfl ?_
    refine G.iconst X24 hx (pc' := 83) (hb hby at_82) (z := (1 : Int32)) rfl rfl ?_
    refine G.iand X24 hx (pc' := 84) (hb hby at_83) rfl ?_
    by_cases c1 : ((Jvm.Free.XT.ushr p1 (3 : Int32)) &&& (1 : Int32)) = (0 : Int32)
    · refine G.ifT X24 hx (pc' := 96) (hb hby at_84) (Jvm.Free.XT.i0_eq_t c1) (by decide) (by decide) ?_
      refine G.iconst X24 hx (pc' := 97) (hb hby at_96) (z := (0 : Int32)) rfl rfl ?_
      refine G.istore X24 hx (pc' := 99) (hb hby at_97) (L' := #[.val (.int p0), .val (.int p1), .val (.int p2), .val (.int p3), .val (.ref b), .val (.int (1 : Int32)), .val (.int (0 : Int32)), .unset, .unset]) rfl rfl ?_
      refine G.bipush X24 hx (pc' := 101) (hb hby at_99) (z := (33 : Int32)) rfl rfl ?_
      refine G.iloadN X24 hx (pc' := 102) (hb hby at_101) rfl rfl ?_
      refine G.bipush X24 hx (pc' := 104) (hb hby at_102) (z := (8 : Int32)) rfl rfl ?_
      refine G.iushr X24 hx (pc' := 105) (hb hby at_104) rfl ?_
      refine G.bipush X24 hx (pc' := 107) (hb hby at_105) (z := (94 : Int32)) rfl rfl ?_
      refine G.irem X24 hx (pc' := 108) (hb hby at_107) (by decide) rfl ?_
      refine G.iadd X24 hx (pc' := 109) (hb hby at_108) rfl ?_
      refine G.istore X24 hx (pc' := 111) (hb hby at_109) (L' := #[.val (.int p0), .val (.int p1), .val (.int p2), .val (.int p3), .val (.ref b), .val (.int (1 : Int32)), .val (.int (0 : Int32)), .val (.int ((33 : Int32) + ((Jvm.Free.XT.ushr p0 (8 : Int32)) % (94 : Int32)))), .unset]) rfl rfl ?_
      refine G.iload X24 hx (pc' := 113) (hb hby at_111) rfl rfl ?_
      have htk := own_tok p0
      generalize htq : ((33 : Int32) + ((Jvm.Free.XT.ushr p0 (8 : Int32)) % (94 : Int32))) = tk at htk ⊢
      refine G.ifT X24 hx (pc' := 123) (hb hby at_113) (Jvm.Free.XT.i0_eq_t (by decide)) (by decide) (by decide) ?_
      refine G.newO X24 hx hZ hown (hw _ (List.mem_of_getElem? (i := 6) rfl)) (hw _ (List.mem_of_getElem? (i := 7) rfl)) (hw _ (List.mem_of_getElem? (i := 8) rfl)) e24 (hb hby at_123) (by decide) (by decide) (pc' := 126) rfl fun T25 h25 r g25 X25 e25 Ex25 Ea25 D25 => ?_
      have ne_b_r : b ≠ r := Nat.ne_of_lt (Nat.lt_of_lt_of_le A24_b.lt (Nat.le_of_eq g25.symm))
      have sz_r : Z.heap.size ≤ r := Nat.le_trans K24.size (Nat.le_of_eq g25.symm)
      have A25_b := Seq.ext A24_b Ex25
      have K25 := Kp.ext K24 Ex25
      have hk25 := Nat.le_trans hk24 Ex25.1
      have F25_r_text : Fld Z h25 r "com/example/wary_offset/waryoffset/remoting/JsonText$Reader" "text" "[B" .null := D25 (Or.inr (hw _ (List.mem_of_getElem? (i := 26) rfl))) (ty := (.array .byte)) (by decide)
      have F25_r_start : Fld Z h25 r "com/example/wary_offset/waryoffset/remoting/JsonText$Reader" "start" "I" (.int (0 : Int32)) := D25 (Or.inr (hw _ (List.mem_of_getElem? (i := 28) rfl))) (ty := .int) (by decide)
      have F25_r_end : Fld Z h25 r "com/example/wary_offset/waryoffset/remoting/JsonText$Reader" "end" "I" (.int (0 : Int32)) := D25 (Or.inr (hw _ (List.mem_of_getElem? (i := 30) rfl))) (ty := .int) (by decide)
      have F25_r_what : Fld Z h25 r "com/example/wary_offset/waryoffset/remoting/JsonText$Reader" "what" "Ljava/lang/String;" .null := D25 (Or.inr (hw _ (List.mem_of_getElem? (i := 32) rfl))) (ty := (.object "java/lang/String")) (by decide)
      have F25_r_strings : Fld Z h25 r "com/example/wary_offset/waryoffset/remoting/JsonText$Reader" "strings" "Lcom/example/wary_offset/waryoffset/remoting/JsonText$Strings;" .null := D25 (Or.inr (hw _ (List.mem_of_getElem? (i := 34) rfl))) (ty := (.object "com/example/wary_offset/waryoffset/remoting/JsonText$Strings")) (by decide)
      have F25_r_at : Fld Z h25 r "com/example/wary_offset/waryoffset/remoting/JsonText$Reader" "at" "I" (.int (0 : Int32)) := D25 (Or.inl (hw _ (List.mem_of_getElem? (i := 36) rfl))) (ty := .int) (by decide)
      refine G.dup X25 hx (pc' := 127) (hb hby at_126) rfl rfl ?_
      refine G.aload X25 hx (pc' := 129) (hb hby at_127) rfl rfl rfl ?_
      refine G.iconst X25 hx (pc' := 130) (hb hby at_129) (z := (1 : Int32)) rfl rfl ?_
      refine G.iload X25 hx (pc' := 132) (hb hby at_130) rfl rfl ?_
      refine G.ldcStr X25 hx hZ hown (hw _ (List.mem_of_getElem? (i := 9) rfl)) hwS e25 hS0 hk25 (hb hby at_132) (n := 4) (by decide +kernel) (by decide) (by decide) (by decide) (pc' := 134) rfl fun st T26 h26 k26 X26 e26 Ex26 hS26 hk26 hZ hown => ?_
      have F26_r_text := Fld.ext  Ex26 F25_r_text
      have F26_r_start := Fld.ext  Ex26 F25_r_start
      have F26_r_end := Fld.ext  Ex26 F25_r_end
      have F26_r_what := Fld.ext  Ex26 F25_r_what
      have F26_r_strings := Fld.ext  Ex26 F25_r_strings
      have F26_r_at := Fld.ext  Ex26 F25_r_at
      have E26_r := Exa.ext  Ex26 Ea25
      have A26_b := Seq.ext A25_b Ex26
      have K26 := Kp.ext K25 Ex26
      have nrb : r ≠ b := Ne.symm ne_b_r
      refine G.callI X26 hx hZ (y := (⟨"com/example/wary_offset/waryoffset/remoting/JsonText$Reader", "<init>", "([BIILjava/lang/String;)V"⟩ : MethodName)) rfl hown (hw _ (List.mem_of_getElem? (i := 16) rfl)) (hw _ (List.mem_of_getElem? (i := 17) rfl)) (hw _ (List.mem_of_getElem? (i := 8) rfl)) (hw _ (List.mem_of_getElem? (i := 18) rfl)) (by decide) e26 (rm := ({ frames := 2, cells := 0, slots := 0, locals := 29 } : Room)) (argsL := [(.ref b), (.int (1 : Int32)), (.int (1 : Int32)), (.ref st)]) (S := [(.ref r)]) (W := 1) (a := r) (rm_init l Z a0 hw r b st (1 : Int32) (1 : Int32) h26 E26_r F26_r_text F26_r_start F26_r_end F26_r_what F26_r_strings F26_r_at) (lenOf pd_5 rfl) rfl (Nat.le_of_eq rfl) (by decide) (by decide) (by decide) (by decide) (by rw [hml]; rfl) (hb hby at_134) (pc' := 137) rfl ?_
      rintro T27 _ L27 ⟨rfl, Kq27, Ft27, Fe27, Fa27⟩ X27
      have E27_r := Exa.keep E26_r Kq27.1
      have A27_b := Seq.keep A26_b Kq27.1 (ninS ne_b_r nin0)
      have K27 := Kp.call K26 Kq27 (allS (Or.inr sz_r) all0)
      have hk27 := Nat.le_trans hk26 Kq27.1.1
      have Fe27' : Fld Z T27.heap r "com/example/wary_offset/waryoffset/remoting/JsonText$Reader" "end" "I" (.int (Int32.ofNat 2)) := Fe27
      have Fa27' : Fld Z T27.heap r "com/example/wary_offset/waryoffset/remoting/JsonText$Reader" "at" "I" (.int (Int32.ofNat 1)) := Fa27
      have A27' : Seq Z T27.heap b .byte (([y0, y1, yd, y3, y4, y5] : List Int32).map Value.int) := A27_b
      show Goes p e below T27 (mkF m 137 #[.val (.int p0), .val (.int p1), .val (.int p2), .val (.int p3), .val (.ref b), .val (.int (1 : Int32)), .val (.int (0 : Int32)), .val (.int tk), .unset] [(.ref r)]) _
      refine G.astore X27 hx (pc' := 139) (hb hby at_137) rfl (L' := #[.val (.int p0), .val (.int p1), .val (.int p2), .val (.int p3), .val (.ref b), .val (.int (1 : Int32)), .val (.int (0 : Int32)), .val (.int tk), .val (.ref r)]) rfl rfl ?_
      refine G.iload X27 hx (pc' := 141) (hb hby at_139) rfl rfl ?_
      refine G.ifT X27 hx (pc' := 157) (hb hby at_141) (Jvm.Free.XT.i0_eq_t (by decide)) (by decide) (by decide) ?_
      refine G.aload X27 hx (pc' := 159) (hb hby at_157) rfl rfl rfl ?_
      have hJ2 : (sk ([y0, y1, yd, y3, y4, y5] : List Int32) 2 (2 - 1) 1) = 2 := by
        show sk ([y0, y1, yd, y3, y4, y5] : List Int32) 2 1 1 = 2
        rw [sk_yes (f := 0) (by decide) (show isws (([y0, y1, yd, y3, y4, y5] : List Int32).getD 1 0) from hy1)]; rfl
      have hv2 : nextv ([y0, y1, yd, y3, y4, y5] : List Int32) 2 (sk ([y0, y1, yd, y3, y4, y5] : List Int32) 2 (2 - 1) 1) = (-1 : Int32) := by rw [hJ2, nextv, if_neg (by decide)]
      refine G.callV X27 hx hZ (y0 := (⟨"com/example/wary_offset/waryoffset/remoting/JsonText$Reader", "expectEnd", "()V"⟩ : MethodName)) (y := (⟨"com/example/wary_offset/waryoffset/remoting/JsonText$Reader", "expectEnd", "()V"⟩ : MethodName)) hown (hw _ (List.mem_of_getElem? (i := 37) rfl)) (hw _ (List.mem_of_getElem? (i := 38) rfl)) (notFace_of_selects (args := #[]) (mvT hZ (hw _ (List.mem_of_getElem? (i := 40) rfl)))) (hw _ (List.mem_of_getElem? (i := 40) rfl)) (hw _ (List.mem_of_getElem? (i := 39) rfl)) (hw _ (List.mem_of_getElem? (i := 8) rfl)) (hw _ (List.mem_of_getElem? (i := 41) rfl)) (by decide) rfl (rm := ({ frames := 1, cells := 0, slots := 0, locals := 12 } : Room)) (argsL := []) (S := []) (W := 0) (a := r) E27_r (rm_expect l Z a0 hw r b 1 2 ([y0, y1, yd, y3, y4, y5] : List Int32) T27.heap E27_r Fa27' Fe27' Ft27 A27' nrb (by decide) (Nat.le_of_ble_eq_true rfl) (Nat.le_of_ble_eq_true rfl) hv2) (lenOf pd_6 rfl) rfl (Nat.le_of_eq rfl) (by decide) (by decide) (by decide) (by decide) (by rw [hml]; rfl) (hb hby at_159) (pc' := 162) rfl ?_
      rintro T28 _ L28 ⟨rfl, Kq28, Fa28, Fe28, Ft28⟩ X28
      have E28_r := Exa.keep E27_r Kq28.1
      have A28_b := Seq.keep A27' Kq28.1 (ninS ne_b_r nin0)
      have K28 := Kp.call K27 Kq28 (allS (Or.inr sz_r) all0)
      have hk28 := Nat.le_trans hk27 Kq28.1.1
      have Fa28' : Fld Z T28.heap r "com/example/wary_offset/waryoffset/remoting/JsonText$Reader" "at" "I" (.int (Int32.ofNat 2)) := by rw [hJ2] at Fa28; exact Fa28
      show Goes p e below T28 (mkF m 162 #[.val (.int p0), .val (.int p1), .val (.int p2), .val (.int p3), .val (.ref b), .val (.int (1 : Int32)), .val (.int (0 : Int32)), .val (.int tk), .val (.ref r)] []) _
      refine G.aload X28 hx (pc' := 164) (hb hby at_162) rfl rfl rfl ?_
      refine G.iloadN X28 hx (pc' := 165) (hb hby at_164) rfl rfl ?_
      refine G.sipush X28 hx (pc' := 168) (hb hby at_165) (z := (255 : Int32)) rfl rfl ?_
      refine G.iand X28 hx (pc' := 169) (hb hby at_168) rfl ?_
      refine G.i2c X28 hx (pc' := 170) (hb hby at_169) rfl ?_
      have hJ3 : (sk ([y0, y1, yd, y3, y4, y5] : List Int32) 2 (2 - 2) 2) = 2 := rfl
      have hv3 : ¬ (nextv ([y0, y1, yd, y3, y4, y5] : List Int32) 2 (sk ([y0, y1, yd, y3, y4, y5] : List Int32) 2 (2 - 2) 2)) = ((p3 &&& (255 : Int32)).toUInt32.toUInt16.toUInt32.toInt32) := by rw [hJ3, nextv, if_neg (by decide)]; exact own_c0 (p3 &&& (255 : Int32))
      refine G.callV X28 hx hZ (y0 := (⟨"com/example/wary_offset/waryoffset/remoting/JsonText$Reader", "take", "(C)Z"⟩ : MethodName)) (y := (⟨"com/example/wary_offset/waryoffset/remoting/JsonText$Reader", "take", "(C)Z"⟩ : MethodName)) hown (hw _ (List.mem_of_getElem? (i := 46) rfl)) (hw _ (List.mem_of_getElem? (i := 47) rfl)) (notFace_of_selects (args := #[]) (mvT hZ (hw _ (List.mem_of_getElem? (i := 49) rfl)))) (hw _ (List.mem_of_getElem? (i := 49) rfl)) (hw _ (List.mem_of_getElem? (i := 48) rfl)) (hw _ (List.mem_of_getElem? (i := 8) rfl)) (hw _ (List.mem_of_getElem? (i := 50) rfl)) (by decide) rfl (rm := ({ frames := 1, cells := 0, slots := 0, locals := 12 } : Room)) (argsL := [(.int ((p3 &&& (255 : Int32)).toUInt32.toUInt16.toUInt32.toInt32))]) (S := []) (W := 0) (a := r) E28_r (rm_take l Z a0 hw r b ((p3 &&& (255 : Int32)).toUInt32.toUInt16.toUInt32.toInt32) 2 2 ([y0, y1, yd, y3, y4, y5] : List Int32) T28.heap E28_r Fa28' Fe28 Ft28 A28_b nrb (by decide) (Nat.le_of_ble_eq_true rfl) (Nat.le_of_ble_eq_true rfl)) (lenOf pd_7 rfl) rfl (Nat.le_of_eq rfl) (by decide) (by decide) (by decide) (by decide) (by rw [hml]; rfl) (hb hby at_170) (pc' := 173) rfl ?_
      rintro T29 _ L29 ⟨rfl, Kq29, Fa29, Fe29, Ft29⟩ X29
      have E29_r := Exa.keep E28_r Kq29.1
      have A29_b := Seq.keep A28_b Kq29.1 (ninS ne_b_r nin0)
      have K29 := Kp.call K28 Kq29 (allS (Or.inr sz_r) all0)
      have hk29 := Nat.le_trans hk28 Kq29.1.1
      show Goes p e below T29 (mkF m 173 #[.val (.int p0), .val (.int p1), .val (.int p2), .val (.int p3), .val (.ref b), .val (.int (1 : Int32)), .val (.int (0 : Int32)), .val (.int tk), .val (.ref r)] [(.int (if (nextv ([y0, y1, yd, y3, y4, y5] : List Int32) 2 (sk ([y0, y1, yd, y3, y4, y5] : List Int32) 2 (2 - 2) 2)) = ((p3 &&& (255 : Int32)).toUInt32.toUInt16.toUInt32.toInt32) then (1 : Int32) else (0 : Int32)))]) _
      rw [if_neg hv3]
      refine G.ifF X29 hx (pc' := 176) (hb hby at_173) (Jvm.Free.XT.i0_ne_f rfl) rfl ?_
      refine G.iconst X29 hx (pc' := 177) (hb hby at_176) (z := (1 : Int32)) rfl rfl ?_
      refine G.goto X29 hx (pc' := 181) (hb hby at_177) (by decide) (by decide) ?_
      refine Goes.retNW X29 hS26 hk29 hx hret (by simp) hlk (hb hby at_181) (by decide) (by decide) ⟨rfl, K29.fr⟩
    · refine G.ifF X24 hx (pc' := 87) (hb hby at_84) (Jvm.Free.XT.i0_eq_f c1) rfl ?_
      refine G.iload X24 hx (pc' := 89) (hb hby at_87) rfl rfl ?_
      refine G.ifF X24 hx (pc' := 92) (hb hby at_89) (Jvm.Free.XT.i0_le_f (by decide)) rfl ?_
      refine G.iconst X24 hx (pc' := 93) (hb hby at_92) (z := (1 : Int32)) rfl rfl ?_
      refine G.goto X24 hx (pc' := 97) (hb hby at_93) (by decide) (by decide) ?_
      refine G.istore X24 hx (pc' := 99) (hb hby at_97) (L' := #[.val (.int p0), .val (.int p1), .val (.int p2), .val (.int p3), .val (.ref b), .val (.int (1 : Int32)), .val (.int (1 : Int32)), .unset, .unset]) rfl rfl ?_
      refine G.bipush X24 hx (pc' := 101) (hb hby at_99) (z := (33 : Int32)) rfl rfl ?_
      refine G.iloadN X24 hx (pc' := 102) (hb hby at_101) rfl rfl ?_
      refine G.bipush X24 hx (pc' := 104) (hb hby at_102) (z := (8 : Int32)) rfl rfl ?_
      refine G.iushr X24 hx (pc' := 105) (hb hby at_104) rfl ?_
      refine G.bipush X24 hx (pc' := 107) (hb hby at_105) (z := (94 : Int32)) rfl rfl ?_
      refine G.irem X24 hx (pc' := 108) (hb hby at_107) (by decide) rfl ?_
      refine G.iadd X24 hx (pc' := 109) (hb hby at_108) rfl ?_
      refine G.istore X24 hx (pc' := 111) (hb hby at_109) (L' := #[.val (.int p0), .val (.int p1), .val (.int p2), .val (.int p3), .val (.ref b), .val (.int (1 : Int32)), .val (.int (1 : Int32)), .val (.int ((33 : Int32) + ((Jvm.Free.XT.ushr p0 (8 : Int32)) % (94 : Int32)))), .unset]) rfl rfl ?_
      refine G.iload X24 hx (pc' := 113) (hb hby at_111) rfl rfl ?_
      have htk := own_tok p0
      generalize htq : ((33 : Int32) + ((Jvm.Free.XT.ushr p0 (8 : Int32)) % (94 : Int32))) = tk at htk ⊢
      refine G.ifF X24 hx (pc' := 116) (hb hby at_113) (Jvm.Free.XT.i0_eq_f (by decide)) rfl ?_
      refine G.aload X24 hx (pc' := 118) (hb hby at_116) rfl rfl rfl ?_
      refine G.iconst X24 hx (pc' := 119) (hb hby at_118) (z := (1 : Int32)) rfl rfl ?_
      refine G.iload X24 hx (pc' := 121) (hb hby at_119) rfl rfl ?_
      refine G.i2b X24 hx (pc' := 122) (hb hby at_121) rfl ?_
      have htk' := own_tk tk htk
      refine G.bastore X24 hx hZ e24 A24_b (pc' := 123) (hb hby at_122) (by decide) (Nat.le_of_ble_eq_true rfl) rfl fun T30 h30 X30 e30 W30 A30 => ?_
      have K30 := Kp.wr K24 W30 (Or.inr sz_b)
      have hk30 := Nat.le_trans hk24 (Keep.of_wr W30).1
      have A30_b : Seq Z h30 b .byte [(.int y0), (.int (nar .byte (tk.toInt8.toInt32))), (.int yd), (.int y3), (.int y4), (.int y5)] := A30
      rw [htk'.1] at A30_b
      refine G.newO X30 hx hZ hown (hw _ (List.mem_of_getElem? (i := 6) rfl)) (hw _ (List.mem_of_getElem? (i := 7) rfl)) (hw _ (List.mem_of_getElem? (i := 8) rfl)) e30 (hb hby at_123) (by decide) (by decide) (pc' := 126) rfl fun T31 h31 r g31 X31 e31 Ex31 Ea31 D31 => ?_
      have ne_b_r : b ≠ r := Nat.ne_of_lt (Nat.lt_of_lt_of_le A30_b.lt (Nat.le_of_eq g31.symm))
      have sz_r : Z.heap.size ≤ r := Nat.le_trans K30.size (Nat.le_of_eq g31.symm)
      have A31_b := Seq.ext A30_b Ex31
      have K31 := Kp.ext K30 Ex31
      have hk31 := Nat.le_trans hk30 Ex31.1
      have F31_r_text : Fld Z h31 r "com/example/wary_offset/waryoffset/remoting/JsonText$Reader" "text" "[B" .null := D31 (Or.inr (hw _ (List.mem_of_getElem? (i := 26) rfl))) (ty := (.array .byte)) (by decide)
      have F31_r_start : Fld Z h31 r "com/example/wary_offset/waryoffset/remoting/JsonText$Reader" "start" "I" (.int (0 : Int32)) := D31 (Or.inr (hw _ (List.mem_of_getElem? (i := 28) rfl))) (ty := .int) (by decide)
      have F31_r_end : Fld Z h31 r "com/example/wary_offset/waryoffset/remoting/JsonText$Reader" "end" "I" (.int (0 : Int32)) := D31 (Or.inr (hw _ (List.mem_of_getElem? (i := 30) rfl))) (ty := .int) (by decide)
      have F31_r_what : Fld Z h31 r "com/example/wary_offset/waryoffset/remoting/JsonText$Reader" "what" "Ljava/lang/String;" .null := D31 (Or.inr (hw _ (List.mem_of_getElem? (i := 32) rfl))) (ty := (.object "java/lang/String")) (by decide)
      have F31_r_strings : Fld Z h31 r "com/example/wary_offset/waryoffset/remoting/JsonText$Reader" "strings" "Lcom/example/wary_offset/waryoffset/remoting/JsonText$Strings;" .null := D31 (Or.inr (hw _ (List.mem_of_getElem? (i := 34) rfl))) (ty := (.object "com/example/wary_offset/waryoffset/remoting/JsonText$Strings")) (by decide)
      have F31_r_at : Fld Z h31 r "com/example/wary_offset/waryoffset/remoting/JsonText$Reader" "at" "I" (.int (0 : Int32)) := D31 (Or.inl (hw _ (List.mem_of_getElem? (i := 36) rfl))) (ty := .int) (by decide)
      refine G.dup X31 hx (pc' := 127) (hb hby at_126) rfl rfl ?_
      refine G.aload X31 hx (pc' := 129) (hb hby at_127) rfl rfl rfl ?_
      refine G.iconst X31 hx (pc' := 130) (hb hby at_129) (z := (1 : Int32)) rfl rfl ?_
      refine G.iload X31 hx (pc' := 132) (hb hby at_130) rfl rfl ?_
      refine G.ldcStr X31 hx hZ hown (hw _ (List.mem_of_getElem? (i := 9) rfl)) hwS e31 hS0 hk31 (hb hby at_132) (n := 4) (by decide +kernel) (by decide) (by decide) (by decide) (pc' := 134) rfl fun st T32 h32 k32 X32 e32 Ex32 hS32 hk32 hZ hown => ?_
      have F32_r_text := Fld.ext  Ex32 F31_r_text
      have F32_r_start := Fld.ext  Ex32 F31_r_start
      have F32_r_end := Fld.ext  Ex32 F31_r_end
      have F32_r_what := Fld.ext  Ex32 F31_r_what
      have F32_r_strings := Fld.ext  Ex32 F31_r_strings
      have F32_r_at := Fld.ext  Ex32 F31_r_at
      have E32_r := Exa.ext  Ex32 Ea31
      have A32_b := Seq.ext A31_b Ex32
      have K32 := Kp.ext K31 Ex32
      have nrb : r ≠ b := Ne.symm ne_b_r
      refine G.callI X32 hx hZ (y := (⟨"com/example/wary_offset/waryoffset/remoting/JsonText$Reader", "<init>", "([BIILjava/lang/String;)V"⟩ : MethodName)) rfl hown (hw _ (List.mem_of_getElem? (i := 16) rfl)) (hw _ (List.mem_of_getElem? (i := 17) rfl)) (hw _ (List.mem_of_getElem? (i := 8) rfl)) (hw _ (List.mem_of_getElem? (i := 18) rfl)) (by decide) e32 (rm := ({ frames := 2, cells := 0, slots := 0, locals := 29 } : Room)) (argsL := [(.ref b), (.int (1 : Int32)), (.int (1 : Int32)), (.ref st)]) (S := [(.ref r)]) (W := 1) (a := r) (rm_init l Z a0 hw r b st (1 : Int32) (1 : Int32) h32 E32_r F32_r_text F32_r_start F32_r_end F32_r_what F32_r_strings F32_r_at) (lenOf pd_5 rfl) rfl (Nat.le_of_eq rfl) (by decide) (by decide) (by decide) (by decide) (by rw [hml]; rfl) (hb hby at_134) (pc' := 137) rfl ?_
      rintro T33 _ L33 ⟨rfl, Kq33, Ft33, Fe33, Fa33⟩ X33
      have E33_r := Exa.keep E32_r Kq33.1
      have A33_b := Seq.keep A32_b Kq33.1 (ninS ne_b_r nin0)
      have K33 := Kp.call K32 Kq33 (allS (Or.inr sz_r) all0)
      have hk33 := Nat.le_trans hk32 Kq33.1.1
      have Fe33' : Fld Z T33.heap r "com/example/wary_offset/waryoffset/remoting/JsonText$Reader" "end" "I" (.int (Int32.ofNat 2)) := Fe33
      have Fa33' : Fld Z T33.heap r "com/example/wary_offset/waryoffset/remoting/JsonText$Reader" "at" "I" (.int (Int32.ofNat 1)) := Fa33
      have A33' : Seq Z T33.heap b .byte (([y0, tk, yd, y3, y4, y5] : List Int32).map Value.int) := A33_b
      show Goes p e below T33 (mkF m 137 #[.val (.int p0), .val (.int p1), .val (.int p2), .val (.int p3), .val (.ref b), .val (.int (1 : Int32)), .val (.int (1 : Int32)), .val (.int tk), .unset] [(.ref r)]) _
      refine G.astore X33 hx (pc' := 139) (hb hby at_137) rfl (L' := #[.val (.int p0), .val (.int p1), .val (.int p2), .val (.int p3), .val (.ref b), .val (.int (1 : Int32)), .val (.int (1 : Int32)), .val (.int tk), .val (.ref r)]) rfl rfl ?_
      refine G.iload X33 hx (pc' := 141) (hb hby at_139) rfl rfl ?_
      refine G.ifF X33 hx (pc' := 144) (hb hby at_141) (Jvm.Free.XT.i0_eq_f (by decide)) rfl ?_
      refine G.aload X33 hx (pc' := 146) (hb hby at_144) rfl rfl rfl ?_
      refine G.iload X33 hx (pc' := 148) (hb hby at_146) rfl rfl ?_
      refine G.i2c X33 hx (pc' := 149) (hb hby at_148) rfl ?_
      have hJ1 : (sk ([y0, tk, yd, y3, y4, y5] : List Int32) 2 (2 - 1) 1) = 1 := sk_no (fun q => htk'.2.2.2 q.2)
      have hv1 : (nextv ([y0, tk, yd, y3, y4, y5] : List Int32) 2 (sk ([y0, tk, yd, y3, y4, y5] : List Int32) 2 (2 - 1) 1)) = (tk.toUInt32.toUInt16.toUInt32.toInt32) := by rw [hJ1, nextv, if_pos (by decide), htk'.2.1]; exact htk'.2.2.1
      refine G.callV X33 hx hZ (y0 := (⟨"com/example/wary_offset/waryoffset/remoting/JsonText$Reader", "take", "(C)Z"⟩ : MethodName)) (y := (⟨"com/example/wary_offset/waryoffset/remoting/JsonText$Reader", "take", "(C)Z"⟩ : MethodName)) hown (hw _ (List.mem_of_getElem? (i := 46) rfl)) (hw _ (List.mem_of_getElem? (i := 47) rfl)) (notFace_of_selects (args := #[]) (mvT hZ (hw _ (List.mem_of_getElem? (i := 49) rfl)))) (hw _ (List.mem_of_getElem? (i := 49) rfl)) (hw _ (List.mem_of_getElem? (i := 48) rfl)) (hw _ (List.mem_of_getElem? (i := 8) rfl)) (hw _ (List.mem_of_getElem? (i := 50) rfl)) (by decide) rfl (rm := ({ frames := 1, cells := 0, slots := 0, locals := 12 } : Room)) (argsL := [(.int (tk.toUInt32.toUInt16.toUInt32.toInt32))]) (S := []) (W := 0) (a := r) E33_r (rm_take l Z a0 hw r b (tk.toUInt32.toUInt16.toUInt32.toInt32) 1 2 ([y0, tk, yd, y3, y4, y5] : List Int32) T33.heap E33_r Fa33' Fe33' Ft33 A33' nrb (by decide) (Nat.le_of_ble_eq_true rfl) (Nat.le_of_ble_eq_true rfl)) (lenOf pd_7 rfl) rfl (Nat.le_of_eq rfl) (by decide) (by decide) (by decide) (by decide) (by rw [hml]; rfl) (hb hby at_149) (pc' := 152) rfl ?_
      rintro T34 _ L34 ⟨rfl, Kq34, Fa34, Fe34, Ft34⟩ X34
      have E34_r := Exa.keep E33_r Kq34.1
      have A34_b := Seq.keep A33' Kq34.1 (ninS ne_b_r nin0)
      have K34 := Kp.call K33 Kq34 (allS (Or.inr sz_r) all0)
      have hk34 := Nat.le_trans hk33 Kq34.1.1
      have Fa34' : Fld Z T34.heap r "com/example/wary_offset/waryoffset/remoting/JsonText$Reader" "at" "I" (.int (Int32.ofNat 2)) := by rw [if_pos hv1, hJ1] at Fa34; exact Fa34
      show Goes p e below T34 (mkF m 152 #[.val (.int p0), .val (.int p1), .val (.int p2), .val (.int p3), .val (.ref b), .val (.int (1 : Int32)), .val (.int (1 : Int32)), .val (.int tk), .val (.ref r)] [(.int (if (nextv ([y0, tk, yd, y3, y4, y5] : List Int32) 2 (sk ([y0, tk, yd, y3, y4, y5] : List Int32) 2 (2 - 1) 1)) = (tk.toUInt32.toUInt16.toUInt32.toInt32) then (1 : Int32) else (0 : Int32)))]) _
      rw [if_pos hv1]
      refine G.ifT X34 hx (pc' := 157) (hb hby at_152) (Jvm.Free.XT.i0_ne_t (by decide)) (by decide) (by decide) ?_
      refine G.aload X34 hx (pc' := 159) (hb hby at_157) rfl rfl rfl ?_
      have hJ2 : (sk ([y0, tk, yd, y3, y4, y5] : List Int32) 2 (2 - 2) 2) = 2 := by
        show sk ([y0, tk, yd, y3, y4, y5] : List Int32) 2 0 2 = 2
        rfl
      have hv2 : nextv ([y0, tk, yd, y3, y4, y5] : List Int32) 2 (sk ([y0, tk, yd, y3, y4, y5] : List Int32) 2 (2 - 2) 2) = (-1 : Int32) := by rw [hJ2, nextv, if_neg (by decide)]
      refine G.callV X34 hx hZ (y0 := (⟨"com/example/wary_offset/waryoffset/remoting/JsonText$Reader", "expectEnd", "()V"⟩ : MethodName)) (y := (⟨"com/example/wary_offset/waryoffset/remoting/JsonText$Reader", "expectEnd", "()V"⟩ : MethodName)) hown (hw _ (List.mem_of_getElem? (i := 37) rfl)) (hw _ (List.mem_of_getElem? (i := 38) rfl)) (notFace_of_selects (args := #[]) (mvT hZ (hw _ (List.mem_of_getElem? (i := 40) rfl)))) (hw _ (List.mem_of_getElem? (i := 40) rfl)) (hw _ (List.mem_of_getElem? (i := 39) rfl)) (hw _ (List.mem_of_getElem? (i := 8) rfl)) (hw _ (List.mem_of_getElem? (i := 41) rfl)) (by decide) rfl (rm := ({ frames := 1, cells := 0, slots := 0, locals := 12 } : Room)) (argsL := []) (S := []) (W := 0) (a := r) E34_r (rm_expect l Z a0 hw r b 2 2 ([y0, tk, yd, y3, y4, y5] : List Int32) T34.heap E34_r Fa34' Fe34 Ft34 A34_b nrb (by decide) (Nat.le_of_ble_eq_true rfl) (Nat.le_of_ble_eq_true rfl) hv2) (lenOf pd_6 rfl) rfl (Nat.le_of_eq rfl) (by decide) (by decide) (by decide) (by decide) (by rw [hml]; rfl) (hb hby at_159) (pc' := 162) rfl ?_
      rintro T35 _ L35 ⟨rfl, Kq35, Fa35, Fe35, Ft35⟩ X35
      have E35_r := Exa.keep E34_r Kq35.1
      have A35_b := Seq.keep A34_b Kq35.1 (ninS ne_b_r nin0)
      have K35 := Kp.call K34 Kq35 (allS (Or.inr sz_r) all0)
      have hk35 := Nat.le_trans hk34 Kq35.1.1
      have Fa35' : Fld Z T35.heap r "com/example/wary_offset/waryoffset/remoting/JsonText$Reader" "at" "I" (.int (Int32.ofNat 2)) := by rw [hJ2] at Fa35; exact Fa35
      show Goes p e below T35 (mkF m 162 #[.val (.int p0), .val (.int p1), .val (.int p2), .val (.int p3), .val (.ref b), .val (.int (1 : Int32)), .val (.int (1 : Int32)), .val (.int tk), .val (.ref r)] []) _
      refine G.aload X35 hx (pc' := 164) (hb hby at_162) rfl rfl rfl ?_
      refine G.iloadN X35 hx (pc' := 165) (hb hby at_164) rfl rfl ?_
      refine G.sipush X35 hx (pc' := 168) (hb hby at_165) (z := (255 : Int32)) rfl rfl ?_
      refine G.iand X35 hx (pc' := 169) (hb hby at_168) rfl ?_
      refine G.i2c X35 hx (pc' := 170) (hb hby at_169) rfl ?_
      have hJ3 : (sk ([y0, tk, yd, y3, y4, y5] : List Int32) 2 (2 - 2) 2) = 2 := rfl
      have hv3 : ¬ (nextv ([y0, tk, yd, y3, y4, y5] : List Int32) 2 (sk ([y0, tk, yd, y3, y4, y5] : List Int32) 2 (2 - 2) 2)) = ((p3 &&& (255 : Int32)).toUInt32.toUInt16.toUInt32.toInt32) := by rw [hJ3, nextv, if_neg (by decide)]; exact own_c0 (p3 &&& (255 : Int32))
      refine G.callV X35 hx hZ (y0 := (⟨"com/example/wary_offset/waryoffset/remoting/JsonText$Reader", "take", "(C)Z"⟩ : MethodName)) (y := (⟨"com/example/wary_offset/waryoffset/remoting/JsonText$Reader", "take", "(C)Z"⟩ : MethodName)) hown (hw _ (List.mem_of_getElem? (i := 46) rfl)) (hw _ (List.mem_of_getElem? (i := 47) rfl)) (notFace_of_selects (args := #[]) (mvT hZ (hw _ (List.mem_of_getElem? (i := 49) rfl)))) (hw _ (List.mem_of_getElem? (i := 49) rfl)) (hw _ (List.mem_of_getElem? (i := 48) rfl)) (hw _ (List.mem_of_getElem? (i := 8) rfl)) (hw _ (List.mem_of_getElem? (i := 50) rfl)) (by decide) rfl (rm := ({ frames := 1, cells := 0, slots := 0, locals := 12 } : Room)) (argsL := [(.int ((p3 &&& (255 : Int32)).toUInt32.toUInt16.toUInt32.toInt32))]) (S := []) (W := 0) (a := r) E35_r (rm_take l Z a0 hw r b ((p3 &&& (255 : Int32)).toUInt32.toUInt16.toUInt32.toInt32) 2 2 ([y0, tk, yd, y3, y4, y5] : List Int32) T35.heap E35_r Fa35' Fe35 Ft35 A35_b nrb (by decide) (Nat.le_of_ble_eq_true rfl) (Nat.le_of_ble_eq_true rfl)) (lenOf pd_7 rfl) rfl (Nat.le_of_eq rfl) (by decide) (by decide) (by decide) (by decide) (by rw [hml]; rfl) (hb hby at_170) (pc' := 173) rfl ?_
      rintro T36 _ L36 ⟨rfl, Kq36, Fa36, Fe36, Ft36⟩ X36
      have E36_r := Exa.keep E35_r Kq36.1
      have A36_b := Seq.keep A35_b Kq36.1 (ninS ne_b_r nin0)
      have K36 := Kp.call K35 Kq36 (allS (Or.inr sz_r) all0)
      have hk36 := Nat.le_trans hk35 Kq36.1.1
      show Goes p e below T36 (mkF m 173 #[.val (.int p0), .val (.int p1), .val (.int p2), .val (.int p3), .val (.ref b), .val (.int (1 : Int32)), .val (.int (1 : Int32)), .val (.int tk), .val (.ref r)] [(.int (if (nextv ([y0, tk, yd, y3, y4, y5] : List Int32) 2 (sk ([y0, tk, yd, y3, y4, y5] : List Int32) 2 (2 - 2) 2)) = ((p3 &&& (255 : Int32)).toUInt32.toUInt16.toUInt32.toInt32) then (1 : Int32) else (0 : Int32)))]) _
      rw [if_neg hv3]
      refine G.ifF X36 hx (pc' := 176) (hb hby at_173) (Jvm.Free.XT.i0_ne_f rfl) rfl ?_
      refine G.iconst X36 hx (pc' := 177) (hb hby at_176) (z := (1 : Int32)) rfl rfl ?_
      refine G.goto X36 hx (pc' := 181) (hb hby at_177) (by decide) (by decide) ?_
      refine Goes.retNW X36 hS32 hk36 hx hret (by simp) hlk (hb hby at_181) (by decide) (by decide) ⟨rfl, K36.fr⟩
  · show Goes p e below T12 (mkF m 70 #[.val (.int p0), .val (.int p1), .val (.int p2), .val (.int p3), .val (.ref b), .val (.int (2 : Int32)), .unset, .unset, .unset] []) _
    refine G.aload X12 hx (pc' := 72) (hb hby at_70) rfl rfl rfl ?_
    refine G.iconst X12 hx (pc' := 73) (hb hby at_72) (z := (1 : Int32)) rfl rfl ?_
    refine G.iload X12 hx (pc' := 75) (hb hby at_73) rfl rfl ?_
    refine G.iadd X12 hx (pc' := 76) (hb hby at_75) rfl ?_
    refine G.iloadN X12 hx (pc' := 77) (hb hby at_76) rfl rfl ?_
    refine G.i2b X12 hx (pc' := 78) (hb hby at_77) rfl ?_
    refine G.bastore X12 hx hZ e12 A12_b (pc' := 79) (hb hby at_78) (by decide) (Nat.le_of_ble_eq_true rfl) rfl fun T37 h37 X37 e37 W37 A37 => ?_
    have K37 := Kp.wr K12 W37 (Or.inr sz_b)
    have hk37 := Nat.le_trans hk12 (Keep.of_wr W37).1
    have A37_b : Seq Z h37 b .byte [(.int y0), (.int y1), (.int y2), (.int (nar .byte (p3.toInt8.toInt32))), (.int y4), (.int y5)] := A37
    generalize hqd : (nar .byte (p3.toInt8.toInt32)) = yd at A37_b
    refine G.iloadN X37 hx (pc' := 80) (hb hby at_79) rfl rfl ?_
    refine G.iconst X37 hx (pc' := 81) (hb hby at_80) (z := (3 : Int32)) rfl rfl ?_
    refine G.iushr X37 hx (pc' := 82) (hb hby at_81) rfl ?_
    refine G.iconst X37 hx (pc' := 83) (hb hby at_82) (z := (1 : Int32)) rfl rfl ?_
    refine G.iand X37 hx (pc' := 84) (hb hby at_83) rfl ?_
    by_cases c1 : ((Jvm.Free.XT.ushr p1 (3 : Int32)) &&& (1 : Int32)) = (0 : Int32)
    · refine G.ifT X37 hx (pc' := 96) (hb hby at_84) (Jvm.Free.XT.i0_eq_t c1) (by decide) (by decide) ?_
      refine G.iconst X37 hx (pc' := 97) (hb hby at_96) (z := (0 : Int32)) rfl rfl ?_
      refine G.istore X37 hx (pc' := 99) (hb hby at_97) (L' := #[.val (.int p0), .val (.int p1), .val (.int p2), .val (.int p3), .val (.ref b), .val (.int (2 : Int32)), .val (.int (0 : Int32)), .unset, .unset]) rfl rfl ?_
      refine G.bipush X37 hx (pc' := 101) (hb hby at_99) (z := (33 : Int32)) rfl rfl ?_
      refine G.iloadN X37 hx (pc' := 102) (hb hby at_101) rfl rfl ?_
      refine G.bipush X37 hx (pc' := 104) (hb hby at_102) (z := (8 : Int32)) rfl rfl ?_
      refine G.iushr X37 hx (pc' := 105) (hb hby at_104) rfl ?_
      refine G.bipush X37 hx (pc' := 107) (hb hby at_105) (z := (94 : Int32)) rfl rfl ?_
      refine G.irem X37 hx (pc' := 108) (hb hby at_107) (by decide) rfl ?_
      refine G.iadd X37 hx (pc' := 109) (hb hby at_108) rfl ?_
      refine G.istore X37 hx (pc' := 111) (hb hby at_109) (L' := #[.val (.int p0), .val (.int p1), .val (.int p2), .val (.int p3), .val (.ref b), .val (.int (2 : Int32)), .val (.int (0 : Int32)), .val (.int ((33 : Int32) + ((Jvm.Free.XT.ushr p0 (8 : Int32)) % (94 : Int32)))), .unset]) rfl rfl ?_
      refine G.iload X37 hx (pc' := 113) (hb hby at_111) rfl rfl ?_
      have htk := own_tok p0
      generalize htq : ((33 : Int32) + ((Jvm.Free.XT.ushr p0 (8 : Int32)) % (94 : Int32))) = tk at htk ⊢
      refine G.ifT X37 hx (pc' := 123) (hb hby at_113) (Jvm.Free.XT.i0_eq_t (by decide)) (by decide) (by decide) ?_
      refine G.newO X37 hx hZ hown (hw _ (List.mem_of_getElem? (i := 6) rfl)) (hw _ (List.mem_of_getElem? (i := 7) rfl)) (hw _ (List.mem_of_getElem? (i := 8) rfl)) e37 (hb hby at_123) (by decide) (by decide) (pc' := 126) rfl fun T38 h38 r g38 X38 e38 Ex38 Ea38 D38 => ?_
      have ne_b_r : b ≠ r := Nat.ne_of_lt (Nat.lt_of_lt_of_le A37_b.lt (Nat.le_of_eq g38.symm))
      have sz_r : Z.heap.size ≤ r := Nat.le_trans K37.size (Nat.le_of_eq g38.symm)
      have A38_b := Seq.ext A37_b Ex38
      have K38 := Kp.ext K37 Ex38
      have hk38 := Nat.le_trans hk37 Ex38.1
      have F38_r_text : Fld Z h38 r "com/example/wary_offset/waryoffset/remoting/JsonText$Reader" "text" "[B" .null := D38 (Or.inr (hw _ (List.mem_of_getElem? (i := 26) rfl))) (ty := (.array .byte)) (by decide)
      have F38_r_start : Fld Z h38 r "com/example/wary_offset/waryoffset/remoting/JsonText$Reader" "start" "I" (.int (0 : Int32)) := D38 (Or.inr (hw _ (List.mem_of_getElem? (i := 28) rfl))) (ty := .int) (by decide)
      have F38_r_end : Fld Z h38 r "com/example/wary_offset/waryoffset/remoting/JsonText$Reader" "end" "I" (.int (0 : Int32)) := D38 (Or.inr (hw _ (List.mem_of_getElem? (i := 30) rfl))) (ty := .int) (by decide)
      have F38_r_what : Fld Z h38 r "com/example/wary_offset/waryoffset/remoting/JsonText$Reader" "what" "Ljava/lang/String;" .null := D38 (Or.inr (hw _ (List.mem_of_getElem? (i := 32) rfl))) (ty := (.object "java/lang/String")) (by decide)
      have F38_r_strings : Fld Z h38 r "com/example/wary_offset/waryoffset/remoting/JsonText$Reader" "strings" "Lcom/example/wary_offset/waryoffset/remoting/JsonText$Strings;" .null := D38 (Or.inr (hw _ (List.mem_of_getElem? (i := 34) rfl))) (ty := (.object "com/example/wary_offset/waryoffset/remoting/JsonText$Strings")) (by decide)
      have F38_r_at : Fld Z h38 r "com/example/wary_offset/waryoffset/remoting/JsonText$Reader" "at" "I" (.int (0 : Int32)) := D38 (Or.inl (hw _ (List.mem_of_getElem? (i := 36) rfl))) (ty := .int) (by decide)
      refine G.dup X38 hx (pc' := 127) (hb hby at_126) rfl rfl ?_
      refine G.aload X38 hx (pc' := 129) (hb hby at_127) rfl rfl rfl ?_
      refine G.iconst X38 hx (pc' := 130) (hb hby at_129) (z := (1 : Int32)) rfl rfl ?_
      refine G.iload X38 hx (pc' := 132) (hb hby at_130) rfl rfl ?_
      refine G.ldcStr X38 hx hZ hown (hw _ (List.mem_of_getElem? (i := 9) rfl)) hwS e38 hS0 hk38 (hb hby at_132) (n := 4) (by decide +kernel) (by decide) (by decide) (by decide) (pc' := 134) rfl fun st T39 h39 k39 X39 e39 Ex39 hS39 hk39 hZ hown => ?_
      have F39_r_text := Fld.ext  Ex39 F38_r_text
      have F39_r_start := Fld.ext  Ex39 F38_r_start
      have F39_r_end := Fld.ext  Ex39 F38_r_end
      have F39_r_what := Fld.ext  Ex39 F38_r_what
      have F39_r_strings := Fld.ext  Ex39 F38_r_strings
      have F39_r_at := Fld.ext  Ex39 F38_r_at
      have E39_r := Exa.ext  Ex39 Ea38
      have A39_b := Seq.ext A38_b Ex39
      have K39 := Kp.ext K38 Ex39
      have nrb : r ≠ b := Ne.symm ne_b_r
      refine G.callI X39 hx hZ (y := (⟨"com/example/wary_offset/waryoffset/remoting/JsonText$Reader", "<init>", "([BIILjava/lang/String;)V"⟩ : MethodName)) rfl hown (hw _ (List.mem_of_getElem? (i := 16) rfl)) (hw _ (List.mem_of_getElem? (i := 17) rfl)) (hw _ (List.mem_of_getElem? (i := 8) rfl)) (hw _ (List.mem_of_getElem? (i := 18) rfl)) (by decide) e39 (rm := ({ frames := 2, cells := 0, slots := 0, locals := 29 } : Room)) (argsL := [(.ref b), (.int (1 : Int32)), (.int (2 : Int32)), (.ref st)]) (S := [(.ref r)]) (W := 1) (a := r) (rm_init l Z a0 hw r b st (1 : Int32) (2 : Int32) h39 E39_r F39_r_text F39_r_start F39_r_end F39_r_what F39_r_strings F39_r_at) (lenOf pd_5 rfl) rfl (Nat.le_of_eq rfl) (by decide) (by decide) (by decide) (by decide) (by rw [hml]; rfl) (hb hby at_134) (pc' := 137) rfl ?_
      rintro T40 _ L40 ⟨rfl, Kq40, Ft40, Fe40, Fa40⟩ X40
      have E40_r := Exa.keep E39_r Kq40.1
      have A40_b := Seq.keep A39_b Kq40.1 (ninS ne_b_r nin0)
      have K40 := Kp.call K39 Kq40 (allS (Or.inr sz_r) all0)
      have hk40 := Nat.le_trans hk39 Kq40.1.1
      have Fe40' : Fld Z T40.heap r "com/example/wary_offset/waryoffset/remoting/JsonText$Reader" "end" "I" (.int (Int32.ofNat 3)) := Fe40
      have Fa40' : Fld Z T40.heap r "com/example/wary_offset/waryoffset/remoting/JsonText$Reader" "at" "I" (.int (Int32.ofNat 1)) := Fa40
      have A40' : Seq Z T40.heap b .byte (([y0, y1, y2, yd, y4, y5] : List Int32).map Value.int) := A40_b
      show Goes p e below T40 (mkF m 137 #[.val (.int p0), .val (.int p1), .val (.int p2), .val (.int p3), .val (.ref b), .val (.int (2 : Int32)), .val (.int (0 : Int32)), .val (.int tk), .unset] [(.ref r)]) _
      refine G.astore X40 hx (pc' := 139) (hb hby at_137) rfl (L' := #[.val (.int p0), .val (.int p1), .val (.int p2), .val (.int p3), .val (.ref b), .val (.int (2 : Int32)), .val (.int (0 : Int32)), .val (.int tk), .val (.ref r)]) rfl rfl ?_
      refine G.iload X40 hx (pc' := 141) (hb hby at_139) rfl rfl ?_
      refine G.ifT X40 hx (pc' := 157) (hb hby at_141) (Jvm.Free.XT.i0_eq_t (by decide)) (by decide) (by decide) ?_
      refine G.aload X40 hx (pc' := 159) (hb hby at_157) rfl rfl rfl ?_
      have hJ2 : (sk ([y0, y1, y2, yd, y4, y5] : List Int32) 3 (3 - 1) 1) = 3 := by
        show sk ([y0, y1, y2, yd, y4, y5] : List Int32) 3 2 1 = 3
        rw [sk_yes (f := 1) (by decide) (show isws (([y0, y1, y2, yd, y4, y5] : List Int32).getD 1 0) from hy1), sk_yes (f := 0) (by decide) (show isws (([y0, y1, y2, yd, y4, y5] : List Int32).getD 2 0) from hy2)]; rfl
      have hv2 : nextv ([y0, y1, y2, yd, y4, y5] : List Int32) 3 (sk ([y0, y1, y2, yd, y4, y5] : List Int32) 3 (3 - 1) 1) = (-1 : Int32) := by rw [hJ2, nextv, if_neg (by decide)]
      refine G.callV X40 hx hZ (y0 := (⟨"com/example/wary_offset/waryoffset/remoting/JsonText$Reader", "expectEnd", "()V"⟩ : MethodName)) (y := (⟨"com/example/wary_offset/waryoffset/remoting/JsonText$Reader", "expectEnd", "()V"⟩ : MethodName)) hown (hw _ (List.mem_of_getElem? (i := 37) rfl)) (hw _ (List.mem_of_getElem? (i := 38) rfl)) (notFace_of_selects (args := #[]) (mvT hZ (hw _ (List.mem_of_getElem? (i := 40) rfl)))) (hw _ (List.mem_of_getElem? (i := 40) rfl)) (hw _ (List.mem_of_getElem? (i := 39) rfl)) (hw _ (List.mem_of_getElem? (i := 8) rfl)) (hw _ (List.mem_of_getElem? (i := 41) rfl)) (by decide) rfl (rm := ({ frames := 1, cells := 0, slots := 0, locals := 12 } : Room)) (argsL := []) (S := []) (W := 0) (a := r) E40_r (rm_expect l Z a0 hw r b 1 3 ([y0, y1, y2, yd, y4, y5] : List Int32) T40.heap E40_r Fa40' Fe40' Ft40 A40' nrb (by decide) (Nat.le_of_ble_eq_true rfl) (Nat.le_of_ble_eq_true rfl) hv2) (lenOf pd_6 rfl) rfl (Nat.le_of_eq rfl) (by decide) (by decide) (by decide) (by decide) (by rw [hml]; rfl) (hb hby at_159) (pc' := 162) rfl ?_
      rintro T41 _ L41 ⟨rfl, Kq41, Fa41, Fe41, Ft41⟩ X41
      have E41_r := Exa.keep E40_r Kq41.1
      have A41_b := Seq.keep A40' Kq41.1 (ninS ne_b_r nin0)
      have K41 := Kp.call K40 Kq41 (allS (Or.inr sz_r) all0)
      have hk41 := Nat.le_trans hk40 Kq41.1.1
      have Fa41' : Fld Z T41.heap r "com/example/wary_offset/waryoffset/remoting/JsonText$Reader" "at" "I" (.int (Int32.ofNat 3)) := by rw [hJ2] at Fa41; exact Fa41
      show Goes p e below T41 (mkF m 162 #[.val (.int p0), .val (.int p1), .val (.int p2), .val (.int p3), .val (.ref b), .val (.int (2 : Int32)), .val (.int (0 : Int32)), .val (.int tk), .val (.ref r)] []) _
      refine G.aload X41 hx (pc' := 164) (hb hby at_162) rfl rfl rfl ?_
      refine G.iloadN X41 hx (pc' := 165) (hb hby at_164) rfl rfl ?_
      refine G.sipush X41 hx (pc' := 168) (hb hby at_165) (z := (255 : Int32)) rfl rfl ?_
      refine G.iand X41 hx (pc' := 169) (hb hby at_168) rfl ?_
      refine G.i2c X41 hx (pc' := 170) (hb hby at_169) rfl ?_
      have hJ3 : (sk ([y0, y1, y2, yd, y4, y5] : List Int32) 3 (3 - 3) 3) = 3 := rfl
      have hv3 : ¬ (nextv ([y0, y1, y2, yd, y4, y5] : List Int32) 3 (sk ([y0, y1, y2, yd, y4, y5] : List Int32) 3 (3 - 3) 3)) = ((p3 &&& (255 : Int32)).toUInt32.toUInt16.toUInt32.toInt32) := by rw [hJ3, nextv, if_neg (by decide)]; exact own_c0 (p3 &&& (255 : Int32))
      refine G.callV X41 hx hZ (y0 := (⟨"com/example/wary_offset/waryoffset/remoting/JsonText$Reader", "take", "(C)Z"⟩ : MethodName)) (y := (⟨"com/example/wary_offset/waryoffset/remoting/JsonText$Reader", "take", "(C)Z"⟩ : MethodName)) hown (hw _ (List.mem_of_getElem? (i := 46) rfl)) (hw _ (List.mem_of_getElem? (i := 47) rfl)) (notFace_of_selects (args := #[]) (mvT hZ (hw _ (List.mem_of_getElem? (i := 49) rfl)))) (hw _ (List.mem_of_getElem? (i := 49) rfl)) (hw _ (List.mem_of_getElem? (i := 48) rfl)) (hw _ (List.mem_of_getElem? (i := 8) rfl)) (hw _ (List.mem_of_getElem? (i := 50) rfl)) (by decide) rfl (rm := ({ frames := 1, cells := 0, slots := 0, locals := 12 } : Room)) (argsL := [(.int ((p3 &&& (255 : Int32)).toUInt32.toUInt16.toUInt32.toInt32))]) (S := []) (W := 0) (a := r) E41_r (rm_take l Z a0 hw r b ((p3 &&& (255 : Int32)).toUInt32.toUInt16.toUInt32.toInt32) 3 3 ([y0, y1, y2, yd, y4, y5] : List Int32) T41.heap E41_r Fa41' Fe41 Ft41 A41_b nrb (by decide) (Nat.le_of_ble_eq_true rfl) (Nat.le_of_ble_eq_true rfl)) (lenOf pd_7 rfl) rfl (Nat.le_of_eq rfl) (by decide) (by decide) (by decide) (by decide) (by rw [hml]; rfl) (hb hby at_170) (pc' := 173) rfl ?_
      rintro T42 _ L42 ⟨rfl, Kq42, Fa42, Fe42, Ft42⟩ X42
      have E42_r := Exa.keep E41_r Kq42.1
      have A42_b := Seq.keep A41_b Kq42.1 (ninS ne_b_r nin0)
      have K42 := Kp.call K41 Kq42 (allS (Or.inr sz_r) all0)
      have hk42 := Nat.le_trans hk41 Kq42.1.1
      show Goes p e below T42 (mkF m 173 #[.val (.int p0), .val (.int p1), .val (.int p2), .val (.int p3), .val (.ref b), .val (.int (2 : Int32)), .val (.int (0 : Int32)), .val (.int tk), .val (.ref r)] [(.int (if (nextv ([y0, y1, y2, yd, y4, y5] : List Int32) 3 (sk ([y0, y1, y2, yd, y4, y5] : List Int32) 3 (3 - 3) 3)) = ((p3 &&& (255 : Int32)).toUInt32.toUInt16.toUInt32.toInt32) then (1 : Int32) else (0 : Int32)))]) _
      rw [if_neg hv3]
      refine G.ifF X42 hx (pc' := 176) (hb hby at_173) (Jvm.Free.XT.i0_ne_f rfl) rfl ?_
      refine G.iconst X42 hx (pc' := 177) (hb hby at_176) (z := (1 : Int32)) rfl rfl ?_
      refine G.goto X42 hx (pc' := 181) (hb hby at_177) (by decide) (by decide) ?_
      refine Goes.retNW X42 hS39 hk42 hx hret (by simp) hlk (hb hby at_181) (by decide) (by decide) ⟨rfl, K42.fr⟩
    · refine G.ifF X37 hx (pc' := 87) (hb hby at_84) (Jvm.Free.XT.i0_eq_f c1) rfl ?_
      refine G.iload X37 hx (pc' := 89) (hb hby at_87) rfl rfl ?_
      refine G.ifF X37 hx (pc' := 92) (hb hby at_89) (Jvm.Free.XT.i0_le_f (by decide)) rfl ?_
      refine G.iconst X37 hx (pc' := 93) (hb hby at_92) (z := (1 : Int32)) rfl rfl ?_
      refine G.goto X37 hx (pc' := 97) (hb hby at_93) (by decide) (by decide) ?_
      refine G.istore X37 hx (pc' := 99) (hb hby at_97) (L' := #[.val (.int p0), .val (.int p1), .val (.int p2), .val (.int p3), .val (.ref b), .val (.int (2 : Int32)), .val (.int (1 : Int32)), .unset, .unset]) rfl rfl ?_
      refine G.bipush X37 hx (pc' := 101) (hb hby at_99) (z := (33 : Int32)) rfl rfl ?_
      refine G.iloadN X37 hx (pc' := 102) (hb hby at_101) rfl rfl ?_
      refine G.bipush X37 hx (pc' := 104) (hb hby at_102) (z := (8 : Int32)) rfl rfl ?_
      refine G.iushr X37 hx (pc' := 105) (hb hby at_104) rfl ?_
      refine G.bipush X37 hx (pc' := 107) (hb hby at_105) (z := (94 : Int32)) rfl rfl ?_
      refine G.irem X37 hx (pc' := 108) (hb hby at_107) (by decide) rfl ?_
      refine G.iadd X37 hx (pc' := 109) (hb hby at_108) rfl ?_
      refine G.istore X37 hx (pc' := 111) (hb hby at_109) (L' := #[.val (.int p0), .val (.int p1), .val (.int p2), .val (.int p3), .val (.ref b), .val (.int (2 : Int32)), .val (.int (1 : Int32)), .val (.int ((33 : Int32) + ((Jvm.Free.XT.ushr p0 (8 : Int32)) % (94 : Int32)))), .unset]) rfl rfl ?_
      refine G.iload X37 hx (pc' := 113) (hb hby at_111) rfl rfl ?_
      have htk := own_tok p0
      generalize htq : ((33 : Int32) + ((Jvm.Free.XT.ushr p0 (8 : Int32)) % (94 : Int32))) = tk at htk ⊢
      refine G.ifF X37 hx (pc' := 116) (hb hby at_113) (Jvm.Free.XT.i0_eq_f (by decide)) rfl ?_
      refine G.aload X37 hx (pc' := 118) (hb hby at_116) rfl rfl rfl ?_
      refine G.iconst X37 hx (pc' := 119) (hb hby at_118) (z := (1 : Int32)) rfl rfl ?_
      refine G.iload X37 hx (pc' := 121) (hb hby at_119) rfl rfl ?_
      refine G.i2b X37 hx (pc' := 122) (hb hby at_121) rfl ?_
      have htk' := own_tk tk htk
      refine G.bastore X37 hx hZ e37 A37_b (pc' := 123) (hb hby at_122) (by decide) (Nat.le_of_ble_eq_true rfl) rfl fun T43 h43 X43 e43 W43 A43 => ?_
      have K43 := Kp.wr K37 W43 (Or.inr sz_b)
      have hk43 := Nat.le_trans hk37 (Keep.of_wr W43).1
      have A43_b : Seq Z h43 b .byte [(.int y0), (.int (nar .byte (tk.toInt8.toInt32))), (.int y2), (.int yd), (.int y4), (.int y5)] := A43
      rw [htk'.1] at A43_b
      refine G.newO X43 hx hZ hown (hw _ (List.mem_of_getElem? (i := 6) rfl)) (hw _ (List.mem_of_getElem? (i := 7) rfl)) (hw _ (List.mem_of_getElem? (i := 8) rfl)) e43 (hb hby at_123) (by decide) (by decide) (pc' := 126) rfl fun T44 h44 r g44 X44 e44 Ex44 Ea44 D44 => ?_
      have ne_b_r : b ≠ r := Nat.ne_of_lt (Nat.lt_of_lt_of_le A43_b.lt (Nat.le_of_eq g44.symm))
      have sz_r : Z.heap.size ≤ r := Nat.le_trans K43.size (Nat.le_of_eq g44.symm)
      have A44_b := Seq.ext A43_b Ex44
      have K44 := Kp.ext K43 Ex44
      have hk44 := Nat.le_trans hk43 Ex44.1
      have F44_r_text : Fld Z h44 r "com/example/wary_offset/waryoffset/remoting/JsonText$Reader" "text" "[B" .null := D44 (Or.inr (hw _ (List.mem_of_getElem? (i := 26) rfl))) (ty := (.array .byte)) (by decide)
      have F44_r_start : Fld Z h44 r "com/example/wary_offset/waryoffset/remoting/JsonText$Reader" "start" "I" (.int (0 : Int32)) := D44 (Or.inr (hw _ (List.mem_of_getElem? (i := 28) rfl))) (ty := .int) (by decide)
      have F44_r_end : Fld Z h44 r "com/example/wary_offset/waryoffset/remoting/JsonText$Reader" "end" "I" (.int (0 : Int32)) := D44 (Or.inr (hw _ (List.mem_of_getElem? (i := 30) rfl))) (ty := .int) (by decide)
      have F44_r_what : Fld Z h44 r "com/example/wary_offset/waryoffset/remoting/JsonText$Reader" "what" "Ljava/lang/String;" .null := D44 (Or.inr (hw _ (List.mem_of_getElem? (i := 32) rfl))) (ty := (.object "java/lang/String")) (by decide)
      have F44_r_strings : Fld Z h44 r "com/example/wary_offset/waryoffset/remoting/JsonText$Reader" "strings" "Lcom/example/wary_offset/waryoffset/remoting/JsonText$Strings;" .null := D44 (Or.inr (hw _ (List.mem_of_getElem? (i := 34) rfl))) (ty := (.object "com/example/wary_offset/waryoffset/remoting/JsonText$Strings")) (by decide)
      have F44_r_at : Fld Z h44 r "com/example/wary_offset/waryoffset/remoting/JsonText$Reader" "at" "I" (.int (0 : Int32)) := D44 (Or.inl (hw _ (List.mem_of_getElem? (i := 36) rfl))) (ty := .int) (by decide)
      refine G.dup X44 hx (pc' := 127) (hb hby at_126) rfl rfl ?_
      refine G.aload X44 hx (pc' := 129) (hb hby at_127) rfl rfl rfl ?_
      refine G.iconst X44 hx (pc' := 130) (hb hby at_129) (z := (1 : Int32)) rfl rfl ?_
      refine G.iload X44 hx (pc' := 132) (hb hby at_130) rfl rfl ?_
      refine G.ldcStr X44 hx hZ hown (hw _ (List.mem_of_getElem? (i := 9) rfl)) hwS e44 hS0 hk44 (hb hby at_132) (n := 4) (by decide +kernel) (by decide) (by decide) (by decide) (pc' := 134) rfl fun st T45 h45 k45 X45 e45 Ex45 hS45 hk45 hZ hown => ?_
      have F45_r_text := Fld.ext  Ex45 F44_r_text
      have F45_r_start := Fld.ext  Ex45 F44_r_start
      have F45_r_end := Fld.ext  Ex45 F44_r_end
      have F45_r_what := Fld.ext  Ex45 F44_r_what
      have F45_r_strings := Fld.ext  Ex45 F44_r_strings
      have F45_r_at := Fld.ext  Ex45 F44_r_at
      have E45_r := Exa.ext  Ex45 Ea44
      have A45_b := Seq.ext A44_b Ex45
      have K45 := Kp.ext K44 Ex45
      have nrb : r ≠ b := Ne.symm ne_b_r
      refine G.callI X45 hx hZ (y := (⟨"com/example/wary_offset/waryoffset/remoting/JsonText$Reader", "<init>", "([BIILjava/lang/String;)V"⟩ : MethodName)) rfl hown (hw _ (List.mem_of_getElem? (i := 16) rfl)) (hw _ (List.mem_of_getElem? (i := 17) rfl)) (hw _ (List.mem_of_getElem? (i := 8) rfl)) (hw _ (List.mem_of_getElem? (i := 18) rfl)) (by decide) e45 (rm := ({ frames := 2, cells := 0, slots := 0, locals := 29 } : Room)) (argsL := [(.ref b), (.int (1 : Int32)), (.int (2 : Int32)), (.ref st)]) (S := [(.ref r)]) (W := 1) (a := r) (rm_init l Z a0 hw r b st (1 : Int32) (2 : Int32) h45 E45_r F45_r_text F45_r_start F45_r_end F45_r_what F45_r_strings F45_r_at) (lenOf pd_5 rfl) rfl (Nat.le_of_eq rfl) (by decide) (by decide) (by decide) (by decide) (by rw [hml]; rfl) (hb hby at_134) (pc' := 137) rfl ?_
      rintro T46 _ L46 ⟨rfl, Kq46, Ft46, Fe46, Fa46⟩ X46
      have E46_r := Exa.keep E45_r Kq46.1
      have A46_b := Seq.keep A45_b Kq46.1 (ninS ne_b_r nin0)
      have K46 := Kp.call K45 Kq46 (allS (Or.inr sz_r) all0)
      have hk46 := Nat.le_trans hk45 Kq46.1.1
      have Fe46' : Fld Z T46.heap r "com/example/wary_offset/waryoffset/remoting/JsonText$Reader" "end" "I" (.int (Int32.ofNat 3)) := Fe46
      have Fa46' : Fld Z T46.heap r "com/example/wary_offset/waryoffset/remoting/JsonText$Reader" "at" "I" (.int (Int32.ofNat 1)) := Fa46
      have A46' : Seq Z T46.heap b .byte (([y0, tk, y2, yd, y4, y5] : List Int32).map Value.int) := A46_b
      show Goes p e below T46 (mkF m 137 #[.val (.int p0), .val (.int p1), .val (.int p2), .val (.int p3), .val (.ref b), .val (.int (2 : Int32)), .val (.int (1 : Int32)), .val (.int tk), .unset] [(.ref r)]) _
      refine G.astore X46 hx (pc' := 139) (hb hby at_137) rfl (L' := #[.val (.int p0), .val (.int p1), .val (.int p2), .val (.int p3), .val (.ref b), .val (.int (2 : Int32)), .val (.int (1 : Int32)), .val (.int tk), .val (.ref r)]) rfl rfl ?_
      refine G.iload X46 hx (pc' := 141) (hb hby at_139) rfl rfl ?_
      refine G.ifF X46 hx (pc' := 144) (hb hby at_141) (Jvm.Free.XT.i0_eq_f (by decide)) rfl ?_
      refine G.aload X46 hx (pc' := 146) (hb hby at_144) rfl rfl rfl ?_
      refine G.iload X46 hx (pc' := 148) (hb hby at_146) rfl rfl ?_
      refine G.i2c X46 hx (pc' := 149) (hb hby at_148) rfl ?_
      have hJ1 : (sk ([y0, tk, y2, yd, y4, y5] : List Int32) 3 (3 - 1) 1) = 1 := sk_no (fun q => htk'.2.2.2 q.2)
      have hv1 : (nextv ([y0, tk, y2, yd, y4, y5] : List Int32) 3 (sk ([y0, tk, y2, yd, y4, y5] : List Int32) 3 (3 - 1) 1)) = (tk.toUInt32.toUInt16.toUInt32.toInt32) := by rw [hJ1, nextv, if_pos (by decide), htk'.2.1]; exact htk'.2.2.1
      refine G.callV X46 hx hZ (y0 := (⟨"com/example/wary_offset/waryoffset/remoting/JsonText$Reader", "take", "(C)Z"⟩ : MethodName)) (y := (⟨"com/example/wary_offset/waryoffset/remoting/JsonText$Reader", "take", "(C)Z"⟩ : MethodName)) hown (hw _ (List.mem_of_getElem? (i := 46) rfl)) (hw _ (List.mem_of_getElem? (i := 47) rfl)) (notFace_of_selects (args := #[]) (mvT hZ (hw _ (List.mem_of_getElem? (i := 49) rfl)))) (hw _ (List.mem_of_getElem? (i := 49) rfl)) (hw _ (List.mem_of_getElem? (i := 48) rfl)) (hw _ (List.mem_of_getElem? (i := 8) rfl)) (hw _ (List.mem_of_getElem? (i := 50) rfl)) (by decide) rfl (rm := ({ frames := 1, cells := 0, slots := 0, locals := 12 } : Room)) (argsL := [(.int (tk.toUInt32.toUInt16.toUInt32.toInt32))]) (S := []) (W := 0) (a := r) E46_r (rm_take l Z a0 hw r b (tk.toUInt32.toUInt16.toUInt32.toInt32) 1 3 ([y0, tk, y2, yd, y4, y5] : List Int32) T46.heap E46_r Fa46' Fe46' Ft46 A46' nrb (by decide) (Nat.le_of_ble_eq_true rfl) (Nat.le_of_ble_eq_true rfl)) (lenOf pd_7 rfl) rfl (Nat.le_of_eq rfl) (by decide) (by decide) (by decide) (by decide) (by rw [hml]; rfl) (hb hby at_149) (pc' := 152) rfl ?_
      rintro T47 _ L47 ⟨rfl, Kq47, Fa47, Fe47, Ft47⟩ X47
      have E47_r := Exa.keep E46_r Kq47.1
      have A47_b := Seq.keep A46' Kq47.1 (ninS ne_b_r nin0)
      have K47 := Kp.call K46 Kq47 (allS (Or.inr sz_r) all0)
      have hk47 := Nat.le_trans hk46 Kq47.1.1
      have Fa47' : Fld Z T47.heap r "com/example/wary_offset/waryoffset/remoting/JsonText$Reader" "at" "I" (.int (Int32.ofNat 2)) := by rw [if_pos hv1, hJ1] at Fa47; exact Fa47
      show Goes p e below T47 (mkF m 152 #[.val (.int p0), .val (.int p1), .val (.int p2), .val (.int p3), .val (.ref b), .val (.int (2 : Int32)), .val (.int (1 : Int32)), .val (.int tk), .val (.ref r)] [(.int (if (nextv ([y0, tk, y2, yd, y4, y5] : List Int32) 3 (sk ([y0, tk, y2, yd, y4, y5] : List Int32) 3 (3 - 1) 1)) = (tk.toUInt32.toUInt16.toUInt32.toInt32) then (1 : Int32) else (0 : Int32)))]) _
      rw [if_pos hv1]
      refine G.ifT X47 hx (pc' := 157) (hb hby at_152) (Jvm.Free.XT.i0_ne_t (by decide)) (by decide) (by decide) ?_
      refine G.aload X47 hx (pc' := 159) (hb hby at_157) rfl rfl rfl ?_
      have hJ2 : (sk ([y0, tk, y2, yd, y4, y5] : List Int32) 3 (3 - 2) 2) = 3 := by
        show sk ([y0, tk, y2, yd, y4, y5] : List Int32) 3 1 2 = 3
        rw [sk_yes (f := 0) (by decide) (show isws (([y0, tk, y2, yd, y4, y5] : List Int32).getD 2 0) from hy2)]; rfl
      have hv2 : nextv ([y0, tk, y2, yd, y4, y5] : List Int32) 3 (sk ([y0, tk, y2, yd, y4, y5] : List Int32) 3 (3 - 2) 2) = (-1 : Int32) := by rw [hJ2, nextv, if_neg (by decide)]
      refine G.callV X47 hx hZ (y0 := (⟨"com/example/wary_offset/waryoffset/remoting/JsonText$Reader", "expectEnd", "()V"⟩ : MethodName)) (y := (⟨"com/example/wary_offset/waryoffset/remoting/JsonText$Reader", "expectEnd", "()V"⟩ : MethodName)) hown (hw _ (List.mem_of_getElem? (i := 37) rfl)) (hw _ (List.mem_of_getElem? (i := 38) rfl)) (notFace_of_selects (args := #[]) (mvT hZ (hw _ (List.mem_of_getElem? (i := 40) rfl)))) (hw _ (List.mem_of_getElem? (i := 40) rfl)) (hw _ (List.mem_of_getElem? (i := 39) rfl)) (hw _ (List.mem_of_getElem? (i := 8) rfl)) (hw _ (List.mem_of_getElem? (i := 41) rfl)) (by decide) rfl (rm := ({ frames := 1, cells := 0, slots := 0, locals := 12 } : Room)) (argsL := []) (S := []) (W := 0) (a := r) E47_r (rm_expect l Z a0 hw r b 2 3 ([y0, tk, y2, yd, y4, y5] : List Int32) T47.heap E47_r Fa47' Fe47 Ft47 A47_b nrb (by decide) (Nat.le_of_ble_eq_true rfl) (Nat.le_of_ble_eq_true rfl) hv2) (lenOf pd_6 rfl) rfl (Nat.le_of_eq rfl) (by decide) (by decide) (by decide) (by decide) (by rw [hml]; rfl) (hb hby at_159) (pc' := 162) rfl ?_
      rintro T48 _ L48 ⟨rfl, Kq48, Fa48, Fe48, Ft48⟩ X48
      have E48_r := Exa.keep E47_r Kq48.1
      have A48_b := Seq.keep A47_b Kq48.1 (ninS ne_b_r nin0)
      have K48 := Kp.call K47 Kq48 (allS (Or.inr sz_r) all0)
      have hk48 := Nat.le_trans hk47 Kq48.1.1
      have Fa48' : Fld Z T48.heap r "com/example/wary_offset/waryoffset/remoting/JsonText$Reader" "at" "I" (.int (Int32.ofNat 3)) := by rw [hJ2] at Fa48; exact Fa48
      show Goes p e below T48 (mkF m 162 #[.val (.int p0), .val (.int p1), .val (.int p2), .val (.int p3), .val (.ref b), .val (.int (2 : Int32)), .val (.int (1 : Int32)), .val (.int tk), .val (.ref r)] []) _
      refine G.aload X48 hx (pc' := 164) (hb hby at_162) rfl rfl rfl ?_
      refine G.iloadN X48 hx (pc' := 165) (hb hby at_164) rfl rfl ?_
      refine G.sipush X48 hx (pc' := 168) (hb hby at_165) (z := (255 : Int32)) rfl rfl ?_
      refine G.iand X48 hx (pc' := 169) (hb hby at_168) rfl ?_
      refine G.i2c X48 hx (pc' := 170) (hb hby at_169) rfl ?_
      have hJ3 : (sk ([y0, tk, y2, yd, y4, y5] : List Int32) 3 (3 - 3) 3) = 3 := rfl
      have hv3 : ¬ (nextv ([y0, tk, y2, yd, y4, y5] : List Int32) 3 (sk ([y0, tk, y2, yd, y4, y5] : List Int32) 3 (3 - 3) 3)) = ((p3 &&& (255 : Int32)).toUInt32.toUInt16.toUInt32.toInt32) := by rw [hJ3, nextv, if_neg (by decide)]; exact own_c0 (p3 &&& (255 : Int32))
      refine G.callV X48 hx hZ (y0 := (⟨"com/example/wary_offset/waryoffset/remoting/JsonText$Reader", "take", "(C)Z"⟩ : MethodName)) (y := (⟨"com/example/wary_offset/waryoffset/remoting/JsonText$Reader", "take", "(C)Z"⟩ : MethodName)) hown (hw _ (List.mem_of_getElem? (i := 46) rfl)) (hw _ (List.mem_of_getElem? (i := 47) rfl)) (notFace_of_selects (args := #[]) (mvT hZ (hw _ (List.mem_of_getElem? (i := 49) rfl)))) (hw _ (List.mem_of_getElem? (i := 49) rfl)) (hw _ (List.mem_of_getElem? (i := 48) rfl)) (hw _ (List.mem_of_getElem? (i := 8) rfl)) (hw _ (List.mem_of_getElem? (i := 50) rfl)) (by decide) rfl (rm := ({ frames := 1, cells := 0, slots := 0, locals := 12 } : Room)) (argsL := [(.int ((p3 &&& (255 : Int32)).toUInt32.toUInt16.toUInt32.toInt32))]) (S := []) (W := 0) (a := r) E48_r (rm_take l Z a0 hw r b ((p3 &&& (255 : Int32)).toUInt32.toUInt16.toUInt32.toInt32) 3 3 ([y0, tk, y2, yd, y4, y5] : List Int32) T48.heap E48_r Fa48' Fe48 Ft48 A48_b nrb (by decide) (Nat.le_of_ble_eq_true rfl) (Nat.le_of_ble_eq_true rfl)) (lenOf pd_7 rfl) rfl (Nat.le_of_eq rfl) (by decide) (by decide) (by decide) (by decide) (by rw [hml]; rfl) (hb hby at_170) (pc' := 173) rfl ?_
      rintro T49 _ L49 ⟨rfl, Kq49, Fa49, Fe49, Ft49⟩ X49
      have E49_r := Exa.keep E48_r Kq49.1
      have A49_b := Seq.keep A48_b Kq49.1 (ninS ne_b_r nin0)
      have K49 := Kp.call K48 Kq49 (allS (Or.inr sz_r) all0)
      have hk49 := Nat.le_trans hk48 Kq49.1.1
      show Goes p e below T49 (mkF m 173 #[.val (.int p0), .val (.int p1), .val (.int p2), .val (.int p3), .val (.ref b), .val (.int (2 : Int32)), .val (.int (1 : Int32)), .val (.int tk), .val (.ref r)] [(.int (if (nextv ([y0, tk, y2, yd, y4, y5] : List Int32) 3 (sk ([y0, tk, y2, yd, y4, y5] : List Int32) 3 (3 - 3) 3)) = ((p3 &&& (255 : Int32)).toUInt32.toUInt16.toUInt32.toInt32) then (1 : Int32) else (0 : Int32)))]) _
      rw [if_neg hv3]
      refine G.ifF X49 hx (pc' := 176) (hb hby at_173) (Jvm.Free.XT.i0_ne_f rfl) rfl ?_
      refine G.iconst X49 hx (pc' := 177) (hb hby at_176) (z := (1 : Int32)) rfl rfl ?_
      refine G.goto X49 hx (pc' := 181) (hb hby at_177) (by decide) (by decide) ?_
      refine Goes.retNW X49 hS45 hk49 hx hret (by simp) hlk (hb hby at_181) (by decide) (by decide) ⟨rfl, K49.fr⟩
  · show Goes p e below T12 (mkF m 70 #[.val (.int p0), .val (.int p1), .val (.int p2), .val (.int p3), .val (.ref b), .val (.int (3 : Int32)), .unset, .unset, .unset] []) _
    refine G.aload X12 hx (pc' := 72) (hb hby at_70) rfl rfl rfl ?_
    refine G.iconst X12 hx (pc' := 73) (hb hby at_72) (z := (1 : Int32)) rfl rfl ?_
    refine G.iload X12 hx (pc' := 75) (hb hby at_73) rfl rfl ?_
    refine G.iadd X12 hx (pc' := 76) (hb hby at_75) rfl ?_
    refine G.iloadN X12 hx (pc' := 77) (hb hby at_76) rfl rfl ?_
    refine G.i2b X12 hx (pc' := 78) (hb hby at_77) rfl ?_
    refine G.bastore X12 hx hZ e12 A12_b (pc' := 79) (hb hby at_78) (by decide) (Nat.le_of_ble_eq_true rfl) rfl fun T50 h50 X50 e50 W50 A50 => ?_
    have K50 := Kp.wr K12 W50 (Or.inr sz_b)
    have hk50 := Nat.le_trans hk12 (Keep.of_wr W50).1
    have A50_b : Seq Z h50 b .byte [(.int y0), (.int y1), (.int y2), (.int y3), (.int (nar .byte (p3.toInt8.toInt32))), (.int y5)] := A50
    generalize hqd : (nar .byte (p3.toInt8.toInt32)) = yd at A50_b
    refine G.iloadN X50 hx (pc' := 80) (hb hby at_79) rfl rfl ?_
    refine G.iconst X50 hx (pc' := 81) (hb hby at_80) (z := (3 : Int32)) rfl rfl ?_
    refine G.iushr X50 hx (pc' := 82) (hb hby at_81) rfl ?_
    refine G.iconst X50 hx (pc' := 83) (hb hby at_82) (z := (1 : Int32)) rfl rfl ?_
    refine G.iand X50 hx (pc' := 84) (hb hby at_83) rfl ?_
    by_cases c1 : ((Jvm.Free.XT.ushr p1 (3 : Int32)) &&& (1 : Int32)) = (0 : Int32)
    · refine G.ifT X50 hx (pc' := 96) (hb hby at_84) (Jvm.Free.XT.i0_eq_t c1) (by decide) (by decide) ?_
      refine G.iconst X50 hx (pc' := 97) (hb hby at_96) (z := (0 : Int32)) rfl rfl ?_
      refine G.istore X50 hx (pc' := 99) (hb hby at_97) (L' := #[.val (.int p0), .val (.int p1), .val (.int p2), .val (.int p3), .val (.ref b), .val (.int (3 : Int32)), .val (.int (0 : Int32)), .unset, .unset]) rfl rfl ?_
      refine G.bipush X50 hx (pc' := 101) (hb hby at_99) (z := (33 : Int32)) rfl rfl ?_
      refine G.iloadN X50 hx (pc' := 102) (hb hby at_101) rfl rfl ?_
      refine G.bipush X50 hx (pc' := 104) (hb hby at_102) (z := (8 : Int32)) rfl rfl ?_
      refine G.iushr X50 hx (pc' := 105) (hb hby at_104) rfl ?_
      refine G.bipush X50 hx (pc' := 107) (hb hby at_105) (z := (94 : Int32)) rfl rfl ?_
      refine G.irem X50 hx (pc' := 108) (hb hby at_107) (by decide) rfl ?_
      refine G.iadd X50 hx (pc' := 109) (hb hby at_108) rfl ?_
      refine G.istore X50 hx (pc' := 111) (hb hby at_109) (L' := #[.val (.int p0), .val (.int p1), .val (.int p2), .val (.int p3), .val (.ref b), .val (.int (3 : Int32)), .val (.int (0 : Int32)), .val (.int ((33 : Int32) + ((Jvm.Free.XT.ushr p0 (8 : Int32)) % (94 : Int32)))), .unset]) rfl rfl ?_
      refine G.iload X50 hx (pc' := 113) (hb hby at_111) rfl rfl ?_
      have htk := own_tok p0
      generalize htq : ((33 : Int32) + ((Jvm.Free.XT.ushr p0 (8 : Int32)) % (94 : Int32))) = tk at htk ⊢
      refine G.ifT X50 hx (pc' := 123) (hb hby at_113) (Jvm.Free.XT.i0_eq_t (by decide)) (by decide) (by decide) ?_
      refine G.newO X50 hx hZ hown (hw _ (List.mem_of_getElem? (i := 6) rfl)) (hw _ (List.mem_of_getElem? (i := 7) rfl)) (hw _ (List.mem_of_getElem? (i := 8) rfl)) e50 (hb hby at_123) (by decide) (by decide) (pc' := 126) rfl fun T51 h51 r g51 X51 e51 Ex51 Ea51 D51 => ?_
      have ne_b_r : b ≠ r := Nat.ne_of_lt (Nat.lt_of_lt_of_le A50_b.lt (Nat.le_of_eq g51.symm))
      have sz_r : Z.heap.size ≤ r := Nat.le_trans K50.size (Nat.le_of_eq g51.symm)
      have A51_b := Seq.ext A50_b Ex51
      have K51 := Kp.ext K50 Ex51
      have hk51 := Nat.le_trans hk50 Ex51.1
      have F51_r_text : Fld Z h51 r "com/example/wary_offset/waryoffset/remoting/JsonText$Reader" "text" "[B" .null := D51 (Or.inr (hw _ (List.mem_of_getElem? (i := 26) rfl))) (ty := (.array .byte)) (by decide)
      have F51_r_start : Fld Z h51 r "com/example/wary_offset/waryoffset/remoting/JsonText$Reader" "start" "I" (.int (0 : Int32)) := D51 (Or.inr (hw _ (List.mem_of_getElem? (i := 28) rfl))) (ty := .int) (by decide)
      have F51_r_end : Fld Z h51 r "com/example/wary_offset/waryoffset/remoting/JsonText$Reader" "end" "I" (.int (0 : Int32)) := D51 (Or.inr (hw _ (List.mem_of_getElem? (i := 30) rfl))) (ty := .int) (by decide)
      have F51_r_what : Fld Z h51 r "com/example/wary_offset/waryoffset/remoting/JsonText$Reader" "what" "Ljava/lang/String;" .null := D51 (Or.inr (hw _ (List.mem_of_getElem? (i := 32) rfl))) (ty := (.object "java/lang/String")) (by decide)
      have F51_r_strings : Fld Z h51 r "com/example/wary_offset/waryoffset/remoting/JsonText$Reader" "strings" "Lcom/example/wary_offset/waryoffset/remoting/JsonText$Strings;" .null := D51 (Or.inr (hw _ (List.mem_of_getElem? (i := 34) rfl))) (ty := (.object "com/example/wary_offset/waryoffset/remoting/JsonText$Strings")) (by decide)
      have F51_r_at : Fld Z h51 r "com/example/wary_offset/waryoffset/remoting/JsonText$Reader" "at" "I" (.int (0 : Int32)) := D51 (Or.inl (hw _ (List.mem_of_getElem? (i := 36) rfl))) (ty := .int) (by decide)
      refine G.dup X51 hx (pc' := 127) (hb hby at_126) rfl rfl ?_
      refine G.aload X51 hx (pc' := 129) (hb hby at_127) rfl rfl rfl ?_
      refine G.iconst X51 hx (pc' := 130) (hb hby at_129) (z := (1 : Int32)) rfl rfl ?_
      refine G.iload X51 hx (pc' := 132) (hb hby at_130) rfl rfl ?_
      refine G.ldcStr X51 hx hZ hown (hw _ (List.mem_of_getElem? (i := 9) rfl)) hwS e51 hS0 hk51 (hb hby at_132) (n := 4) (by decide +kernel) (by decide) (by decide) (by decide) (pc' := 134) rfl fun st T52 h52 k52 X52 e52 Ex52 hS52 hk52 hZ hown => ?_
      have F52_r_text := Fld.ext  Ex52 F51_r_text
      have F52_r_start := Fld.ext  Ex52 F51_r_start
      have F52_r_end := Fld.ext  Ex52 F51_r_end
      have F52_r_what := Fld.ext  Ex52 F51_r_what
      have F52_r_strings := Fld.ext  Ex52 F51_r_strings
      have F52_r_at := Fld.ext  Ex52 F51_r_at
      have E52_r := Exa.ext  Ex52 Ea51
      have A52_b := Seq.ext A51_b Ex52
      have K52 := Kp.ext K51 Ex52
      have nrb : r ≠ b := Ne.symm ne_b_r
      refine G.callI X52 hx hZ (y := (⟨"com/example/wary_offset/waryoffset/remoting/JsonText$Reader", "<init>", "([BIILjava/lang/String;)V"⟩ : MethodName)) rfl hown (hw _ (List.mem_of_getElem? (i := 16) rfl)) (hw _ (List.mem_of_getElem? (i := 17) rfl)) (hw _ (List.mem_of_getElem? (i := 8) rfl)) (hw _ (List.mem_of_getElem? (i := 18) rfl)) (by decide) e52 (rm := ({ frames := 2, cells := 0, slots := 0, locals := 29 } : Room)) (argsL := [(.ref b), (.int (1 : Int32)), (.int (3 : Int32)), (.ref st)]) (S := [(.ref r)]) (W := 1) (a := r) (rm_init l Z a0 hw r b st (1 : Int32) (3 : Int32) h52 E52_r F52_r_text F52_r_start F52_r_end F52_r_what F52_r_strings F52_r_at) (lenOf pd_5 rfl) rfl (Nat.le_of_eq rfl) (by decide) (by decide) (by decide) (by decide) (by rw [hml]; rfl) (hb hby at_134) (pc' := 137) rfl ?_
      rintro T53 _ L53 ⟨rfl, Kq53, Ft53, Fe53, Fa53⟩ X53
      have E53_r := Exa.keep E52_r Kq53.1
      have A53_b := Seq.keep A52_b Kq53.1 (ninS ne_b_r nin0)
      have K53 := Kp.call K52 Kq53 (allS (Or.inr sz_r) all0)
      have hk53 := Nat.le_trans hk52 Kq53.1.1
      have Fe53' : Fld Z T53.heap r "com/example/wary_offset/waryoffset/remoting/JsonText$Reader" "end" "I" (.int (Int32.ofNat 4)) := Fe53
      have Fa53' : Fld Z T53.heap r "com/example/wary_offset/waryoffset/remoting/JsonText$Reader" "at" "I" (.int (Int32.ofNat 1)) := Fa53
      have A53' : Seq Z T53.heap b .byte (([y0, y1, y2, y3, yd, y5] : List Int32).map Value.int) := A53_b
      show Goes p e below T53 (mkF m 137 #[.val (.int p0), .val (.int p1), .val (.int p2), .val (.int p3), .val (.ref b), .val (.int (3 : Int32)), .val (.int (0 : Int32)), .val (.int tk), .unset] [(.ref r)]) _
      refine G.astore X53 hx (pc' := 139) (hb hby at_137) rfl (L' := #[.val (.int p0), .val (.int p1), .val (.int p2), .val (.int p3), .val (.ref b), .val (.int (3 : Int32)), .val (.int (0 : Int32)), .val (.int tk), .val (.ref r)]) rfl rfl ?_
      refine G.iload X53 hx (pc' := 141) (hb hby at_139) rfl rfl ?_
      refine G.ifT X53 hx (pc' := 157) (hb hby at_141) (Jvm.Free.XT.i0_eq_t (by decide)) (by decide) (by decide) ?_
      refine G.aload X53 hx (pc' := 159) (hb hby at_157) rfl rfl rfl ?_
      have hJ2 : (sk ([y0, y1, y2, y3, yd, y5] : List Int32) 4 (4 - 1) 1) = 4 := by
        show sk ([y0, y1, y2, y3, yd, y5] : List Int32) 4 3 1 = 4
        rw [sk_yes (f := 2) (by decide) (show isws (([y0, y1, y2, y3, yd, y5] : List Int32).getD 1 0) from hy1), sk_yes (f := 1) (by decide) (show isws (([y0, y1, y2, y3, yd, y5] : List Int32).getD 2 0) from hy2), sk_yes (f := 0) (by decide) (show isws (([y0, y1, y2, y3, yd, y5] : List Int32).getD 3 0) from hy3)]; rfl
      have hv2 : nextv ([y0, y1, y2, y3, yd, y5] : List Int32) 4 (sk ([y0, y1, y2, y3, yd, y5] : List Int32) 4 (4 - 1) 1) = (-1 : Int32) := by rw [hJ2, nextv, if_neg (by decide)]
      refine G.callV X53 hx hZ (y0 := (⟨"com/example/wary_offset/waryoffset/remoting/JsonText$Reader", "expectEnd", "()V"⟩ : MethodName)) (y := (⟨"com/example/wary_offset/waryoffset/remoting/JsonText$Reader", "expectEnd", "()V"⟩ : MethodName)) hown (hw _ (List.mem_of_getElem? (i := 37) rfl)) (hw _ (List.mem_of_getElem? (i := 38) rfl)) (notFace_of_selects (args := #[]) (mvT hZ (hw _ (List.mem_of_getElem? (i := 40) rfl)))) (hw _ (List.mem_of_getElem? (i := 40) rfl)) (hw _ (List.mem_of_getElem? (i := 39) rfl)) (hw _ (List.mem_of_getElem? (i := 8) rfl)) (hw _ (List.mem_of_getElem? (i := 41) rfl)) (by decide) rfl (rm := ({ frames := 1, cells := 0, slots := 0, locals := 12 } : Room)) (argsL := []) (S := []) (W := 0) (a := r) E53_r (rm_expect l Z a0 hw r b 1 4 ([y0, y1, y2, y3, yd, y5] : List Int32) T53.heap E53_r Fa53' Fe53' Ft53 A53' nrb (by decide) (Nat.le_of_ble_eq_true rfl) (Nat.le_of_ble_eq_true rfl) hv2) (lenOf pd_6 rfl) rfl (Nat.le_of_eq rfl) (by decide) (by decide) (by decide) (by decide) (by rw [hml]; rfl) (hb hby at_159) (pc' := 162) rfl ?_
      rintro T54 _ L54 ⟨rfl, Kq54, Fa54, Fe54, Ft54⟩ X54
      have E54_r := Exa.keep E53_r Kq54.1
      have A54_b := Seq.keep A53' Kq54.1 (ninS ne_b_r nin0)
      have K54 := Kp.call K53 Kq54 (allS (Or.inr sz_r) all0)
      have hk54 := Nat.le_trans hk53 Kq54.1.1
      have Fa54' : Fld Z T54.heap r "com/example/wary_offset/waryoffset/remoting/JsonText$Reader" "at" "I" (.int (Int32.ofNat 4)) := by rw [hJ2] at Fa54; exact Fa54
      show Goes p e below T54 (mkF m 162 #[.val (.int p0), .val (.int p1), .val (.int p2), .val (.int p3), .val (.ref b), .val (.int (3 : Int32)), .val (.int (0 : Int32)), .val (.int tk), .val (.ref r)] []) _
      refine G.aload X54 hx (pc' := 164) (hb hby at_162) rfl rfl rfl ?_
      refine G.iloadN X54 hx (pc' := 165) (hb hby at_164) rfl rfl ?_
      refine G.sipush X54 hx (pc' := 168) (hb hby at_165) (z := (255 : Int32)) rfl rfl ?_
      refine G.iand X54 hx (pc' := 169) (hb hby at_168) rfl ?_
      refine G.i2c X54 hx (pc' := 170) (hb hby at_169) rfl ?_
      have hJ3 : (sk ([y0, y1, y2, y3, yd, y5] : List Int32) 4 (4 - 4) 4) = 4 := rfl
      have hv3 : ¬ (nextv ([y0, y1, y2, y3, yd, y5] : List Int32) 4 (sk ([y0, y1, y2, y3, yd, y5] : List Int32) 4 (4 - 4) 4)) = ((p3 &&& (255 : Int32)).toUInt32.toUInt16.toUInt32.toInt32) := by rw [hJ3, nextv, if_neg (by decide)]; exact own_c0 (p3 &&& (255 : Int32))
      refine G.callV X54 hx hZ (y0 := (⟨"com/example/wary_offset/waryoffset/remoting/JsonText$Reader", "take", "(C)Z"⟩ : MethodName)) (y := (⟨"com/example/wary_offset/waryoffset/remoting/JsonText$Reader", "take", "(C)Z"⟩ : MethodName)) hown (hw _ (List.mem_of_getElem? (i := 46) rfl)) (hw _ (List.mem_of_getElem? (i := 47) rfl)) (notFace_of_selects (args := #[]) (mvT hZ (hw _ (List.mem_of_getElem? (i := 49) rfl)))) (hw _ (List.mem_of_getElem? (i := 49) rfl)) (hw _ (List.mem_of_getElem? (i := 48) rfl)) (hw _ (List.mem_of_getElem? (i := 8) rfl)) (hw _ (List.mem_of_getElem? (i := 50) rfl)) (by decide) rfl (rm := ({ frames := 1, cells := 0, slots := 0, locals := 12 } : Room)) (argsL := [(.int ((p3 &&& (255 : Int32)).toUInt32.toUInt16.toUInt32.toInt32))]) (S := []) (W := 0) (a := r) E54_r (rm_take l Z a0 hw r b ((p3 &&& (255 : Int32)).toUInt32.toUInt16.toUInt32.toInt32) 4 4 ([y0, y1, y2, y3, yd, y5] : List Int32) T54.heap E54_r Fa54' Fe54 Ft54 A54_b nrb (by decide) (Nat.le_of_ble_eq_true rfl) (Nat.le_of_ble_eq_true rfl)) (lenOf pd_7 rfl) rfl (Nat.le_of_eq rfl) (by decide) (by decide) (by decide) (by decide) (by rw [hml]; rfl) (hb hby at_170) (pc' := 173) rfl ?_
      rintro T55 _ L55 ⟨rfl, Kq55, Fa55, Fe55, Ft55⟩ X55
      have E55_r := Exa.keep E54_r Kq55.1
      have A55_b := Seq.keep A54_b Kq55.1 (ninS ne_b_r nin0)
      have K55 := Kp.call K54 Kq55 (allS (Or.inr sz_r) all0)
      have hk55 := Nat.le_trans hk54 Kq55.1.1
      show Goes p e below T55 (mkF m 173 #[.val (.int p0), .val (.int p1), .val (.int p2), .val (.int p3), .val (.ref b), .val (.int (3 : Int32)), .val (.int (0 : Int32)), .val (.int tk), .val (.ref r)] [(.int (if (nextv ([y0, y1, y2, y3, yd, y5] : List Int32) 4 (sk ([y0, y1, y2, y3, yd, y5] : List Int32) 4 (4 - 4) 4)) = ((p3 &&& (255 : Int32)).toUInt32.toUInt16.toUInt32.toInt32) then (1 : Int32) else (0 : Int32)))]) _
      rw [if_neg hv3]
      refine G.ifF X55 hx (pc' := 176) (hb hby at_173) (Jvm.Free.XT.i0_ne_f rfl) rfl ?_
      refine G.iconst X55 hx (pc' := 177) (hb hby at_176) (z := (1 : Int32)) rfl rfl ?_
      refine G.goto X55 hx (pc' := 181) (hb hby at_177) (by decide) (by decide) ?_
      refine Goes.retNW X55 hS52 hk55 hx hret (by simp) hlk (hb hby at_181) (by decide) (by decide) ⟨rfl, K55.fr⟩
    · refine G.ifF X50 hx (pc' := 87) (hb hby at_84) (Jvm.Free.XT.i0_eq_f c1) rfl ?_
      refine G.iload X50 hx (pc' := 89) (hb hby at_87) rfl rfl ?_
      refine G.ifF X50 hx (pc' := 92) (hb hby at_89) (Jvm.Free.XT.i0_le_f (by decide)) rfl ?_
      refine G.iconst X50 hx (pc' := 93) (hb hby at_92) (z := (1 : Int32)) rfl rfl ?_
      refine G.goto X50 hx (pc' := 97) (hb hby at_93) (by decide) (by decide) ?_
      refine G.istore X50 hx (pc' := 99) (hb hby at_97) (L' := #[.val (.int p0), .val (.int p1), .val (.int p2), .val (.int p3), .val (.ref b), .val (.int (3 : Int32)), .val (.int (1 : Int32)), .unset, .unset]) rfl rfl ?_
      refine G.bipush X50 hx (pc' := 101) (hb hby at_99) (z := (33 : Int32)) rfl rfl ?_
      refine G.iloadN X50 hx (pc' := 102) (hb hby at_101) rfl rfl ?_
      refine G.bipush X50 hx (pc' := 104) (hb hby at_102) (z := (8 : Int32)) rfl rfl ?_
      refine G.iushr X50 hx (pc' := 105) (hb hby at_104) rfl ?_
      refine G.bipush X50 hx (pc' := 107) (hb hby at_105) (z := (94 : Int32)) rfl rfl ?_
      refine G.irem X50 hx (pc' := 108) (hb hby at_107) (by decide) rfl ?_
      refine G.iadd X50 hx (pc' := 109) (hb hby at_108) rfl ?_
      refine G.istore X50 hx (pc' := 111) (hb hby at_109) (L' := #[.val (.int p0), .val (.int p1), .val (.int p2), .val (.int p3), .val (.ref b), .val (.int (3 : Int32)), .val (.int (1 : Int32)), .val (.int ((33 : Int32) + ((Jvm.Free.XT.ushr p0 (8 : Int32)) % (94 : Int32)))), .unset]) rfl rfl ?_
      refine G.iload X50 hx (pc' := 113) (hb hby at_111) rfl rfl ?_
      have htk := own_tok p0
      generalize htq : ((33 : Int32) + ((Jvm.Free.XT.ushr p0 (8 : Int32)) % (94 : Int32))) = tk at htk ⊢
      refine G.ifF X50 hx (pc' := 116) (hb hby at_113) (Jvm.Free.XT.i0_eq_f (by decide)) rfl ?_
      refine G.aload X50 hx (pc' := 118) (hb hby at_116) rfl rfl rfl ?_
      refine G.iconst X50 hx (pc' := 119) (hb hby at_118) (z := (1 : Int32)) rfl rfl ?_
      refine G.iload X50 hx (pc' := 121) (hb hby at_119) rfl rfl ?_
      refine G.i2b X50 hx (pc' := 122) (hb hby at_121) rfl ?_
      have htk' := own_tk tk htk
      refine G.bastore X50 hx hZ e50 A50_b (pc' := 123) (hb hby at_122) (by decide) (Nat.le_of_ble_eq_true rfl) rfl fun T56 h56 X56 e56 W56 A56 => ?_
      have K56 := Kp.wr K50 W56 (Or.inr sz_b)
      have hk56 := Nat.le_trans hk50 (Keep.of_wr W56).1
      have A56_b : Seq Z h56 b .byte [(.int y0), (.int (nar .byte (tk.toInt8.toInt32))), (.int y2), (.int y3), (.int yd), (.int y5)] := A56
      rw [htk'.1] at A56_b
      refine G.newO X56 hx hZ hown (hw _ (List.mem_of_getElem? (i := 6) rfl)) (hw _ (List.mem_of_getElem? (i := 7) rfl)) (hw _ (List.mem_of_getElem? (i := 8) rfl)) e56 (hb hby at_123) (by decide) (by decide) (pc' := 126) rfl fun T57 h57 r g57 X57 e57 Ex57 Ea57 D57 => ?_
      have ne_b_r : b ≠ r := Nat.ne_of_lt (Nat.lt_of_lt_of_le A56_b.lt (Nat.le_of_eq g57.symm))
      have sz_r : Z.heap.size ≤ r := Nat.le_trans K56.size (Nat.le_of_eq g57.symm)
      have A57_b := Seq.ext A56_b Ex57
      have K57 := Kp.ext K56 Ex57
      have hk57 := Nat.le_trans hk56 Ex57.1
      have F57_r_text : Fld Z h57 r "com/example/wary_offset/waryoffset/remoting/JsonText$Reader" "text" "[B" .null := D57 (Or.inr (hw _ (List.mem_of_getElem? (i := 26) rfl))) (ty := (.array .byte)) (by decide)
      have F57_r_start : Fld Z h57 r "com/example/wary_offset/waryoffset/remoting/JsonText$Reader" "start" "I" (.int (0 : Int32)) := D57 (Or.inr (hw _ (List.mem_of_getElem? (i := 28) rfl))) (ty := .int) (by decide)
      have F57_r_end : Fld Z h57 r "com/example/wary_offset/waryoffset/remoting/JsonText$Reader" "end" "I" (.int (0 : Int32)) := D57 (Or.inr (hw _ (List.mem_of_getElem? (i := 30) rfl))) (ty := .int) (by decide)
      have F57_r_what : Fld Z h57 r "com/example/wary_offset/waryoffset/remoting/JsonText$Reader" "what" "Ljava/lang/String;" .null := D57 (Or.inr (hw _ (List.mem_of_getElem? (i := 32) rfl))) (ty := (.object "java/lang/String")) (by decide)
      have F57_r_strings : Fld Z h57 r "com/example/wary_offset/waryoffset/remoting/JsonText$Reader" "strings" "Lcom/example/wary_offset/waryoffset/remoting/JsonText$Strings;" .null := D57 (Or.inr (hw _ (List.mem_of_getElem? (i := 34) rfl))) (ty := (.object "com/example/wary_offset/waryoffset/remoting/JsonText$Strings")) (by decide)
      have F57_r_at : Fld Z h57 r "com/example/wary_offset/waryoffset/remoting/JsonText$Reader" "at" "I" (.int (0 : Int32)) := D57 (Or.inl (hw _ (List.mem_of_getElem? (i := 36) rfl))) (ty := .int) (by decide)
      refine G.dup X57 hx (pc' := 127) (hb hby at_126) rfl rfl ?_
      refine G.aload X57 hx (pc' := 129) (hb hby at_127) rfl rfl rfl ?_
      refine G.iconst X57 hx (pc' := 130) (hb hby at_129) (z := (1 : Int32)) rfl rfl ?_
      refine G.iload X57 hx (pc' := 132) (hb hby at_130) rfl rfl ?_
      refine G.ldcStr X57 hx hZ hown (hw _ (List.mem_of_getElem? (i := 9) rfl)) hwS e57 hS0 hk57 (hb hby at_132) (n := 4) (by decide +kernel) (by decide) (by decide) (by decide) (pc' := 134) rfl fun st T58 h58 k58 X58 e58 Ex58 hS58 hk58 hZ hown => ?_
      have F58_r_text := Fld.ext  Ex58 F57_r_text
      have F58_r_start := Fld.ext  Ex58 F57_r_start
      have F58_r_end := Fld.ext  Ex58 F57_r_end
      have F58_r_what := Fld.ext  Ex58 F57_r_what
      have F58_r_strings := Fld.ext  Ex58 F57_r_strings
      have F58_r_at := Fld.ext  Ex58 F57_r_at
      have E58_r := Exa.ext  Ex58 Ea57
      have A58_b := Seq.ext A57_b Ex58
      have K58 := Kp.ext K57 Ex58
      have nrb : r ≠ b := Ne.symm ne_b_r
      refine G.callI X58 hx hZ (y := (⟨"com/example/wary_offset/waryoffset/remoting/JsonText$Reader", "<init>", "([BIILjava/lang/String;)V"⟩ : MethodName)) rfl hown (hw _ (List.mem_of_getElem? (i := 16) rfl)) (hw _ (List.mem_of_getElem? (i := 17) rfl)) (hw _ (List.mem_of_getElem? (i := 8) rfl)) (hw _ (List.mem_of_getElem? (i := 18) rfl)) (by decide) e58 (rm := ({ frames := 2, cells := 0, slots := 0, locals := 29 } : Room)) (argsL := [(.ref b), (.int (1 : Int32)), (.int (3 : Int32)), (.ref st)]) (S := [(.ref r)]) (W := 1) (a := r) (rm_init l Z a0 hw r b st (1 : Int32) (3 : Int32) h58 E58_r F58_r_text F58_r_start F58_r_end F58_r_what F58_r_strings F58_r_at) (lenOf pd_5 rfl) rfl (Nat.le_of_eq rfl) (by decide) (by decide) (by decide) (by decide) (by rw [hml]; rfl) (hb hby at_134) (pc' := 137) rfl ?_
      rintro T59 _ L59 ⟨rfl, Kq59, Ft59, Fe59, Fa59⟩ X59
      have E59_r := Exa.keep E58_r Kq59.1
      have A59_b := Seq.keep A58_b Kq59.1 (ninS ne_b_r nin0)
      have K59 := Kp.call K58 Kq59 (allS (Or.inr sz_r) all0)
      have hk59 := Nat.le_trans hk58 Kq59.1.1
      have Fe59' : Fld Z T59.heap r "com/example/wary_offset/waryoffset/remoting/JsonText$Reader" "end" "I" (.int (Int32.ofNat 4)) := Fe59
      have Fa59' : Fld Z T59.heap r "com/example/wary_offset/waryoffset/remoting/JsonText$Reader" "at" "I" (.int (Int32.ofNat 1)) := Fa59
      have A59' : Seq Z T59.heap b .byte (([y0, tk, y2, y3, yd, y5] : List Int32).map Value.int) := A59_b
      show Goes p e below T59 (mkF m 137 #[.val (.int p0), .val (.int p1), .val (.int p2), .val (.int p3), .val (.ref b), .val (.int (3 : Int32)), .val (.int (1 : Int32)), .val (.int tk), .unset] [(.ref r)]) _
      refine G.astore X59 hx (pc' := 139) (hb hby at_137) rfl (L' := #[.val (.int p0), .val (.int p1), .val (.int p2), .val (.int p3), .val (.ref b), .val (.int (3 : Int32)), .val (.int (1 : Int32)), .val (.int tk), .val (.ref r)]) rfl rfl ?_
      refine G.iload X59 hx (pc' := 141) (hb hby at_139) rfl rfl ?_
      refine G.ifF X59 hx (pc' := 144) (hb hby at_141) (Jvm.Free.XT.i0_eq_f (by decide)) rfl ?_
      refine G.aload X59 hx (pc' := 146) (hb hby at_144) rfl rfl rfl ?_
      refine G.iload X59 hx (pc' := 148) (hb hby at_146) rfl rfl ?_
      refine G.i2c X59 hx (pc' := 149) (hb hby at_148) rfl ?_
      have hJ1 : (sk ([y0, tk, y2, y3, yd, y5] : List Int32) 4 (4 - 1) 1) = 1 := sk_no (fun q => htk'.2.2.2 q.2)
      have hv1 : (nextv ([y0, tk, y2, y3, yd, y5] : List Int32) 4 (sk ([y0, tk, y2, y3, yd, y5] : List Int32) 4 (4 - 1) 1)) = (tk.toUInt32.toUInt16.toUInt32.toInt32) := by rw [hJ1, nextv, if_pos (by decide), htk'.2.1]; exact htk'.2.2.1
      refine G.callV X59 hx hZ (y0 := (⟨"com/example/wary_offset/waryoffset/remoting/JsonText$Reader", "take", "(C)Z"⟩ : MethodName)) (y := (⟨"com/example/wary_offset/waryoffset/remoting/JsonText$Reader", "take", "(C)Z"⟩ : MethodName)) hown (hw _ (List.mem_of_getElem? (i := 46) rfl)) (hw _ (List.mem_of_getElem? (i := 47) rfl)) (notFace_of_selects (args := #[]) (mvT hZ (hw _ (List.mem_of_getElem? (i := 49) rfl)))) (hw _ (List.mem_of_getElem? (i := 49) rfl)) (hw _ (List.mem_of_getElem? (i := 48) rfl)) (hw _ (List.mem_of_getElem? (i := 8) rfl)) (hw _ (List.mem_of_getElem? (i := 50) rfl)) (by decide) rfl (rm := ({ frames := 1, cells := 0, slots := 0, locals := 12 } : Room)) (argsL := [(.int (tk.toUInt32.toUInt16.toUInt32.toInt32))]) (S := []) (W := 0) (a := r) E59_r (rm_take l Z a0 hw r b (tk.toUInt32.toUInt16.toUInt32.toInt32) 1 4 ([y0, tk, y2, y3, yd, y5] : List Int32) T59.heap E59_r Fa59' Fe59' Ft59 A59' nrb (by decide) (Nat.le_of_ble_eq_true rfl) (Nat.le_of_ble_eq_true rfl)) (lenOf pd_7 rfl) rfl (Nat.le_of_eq rfl) (by decide) (by decide) (by decide) (by decide) (by rw [hml]; rfl) (hb hby at_149) (pc' := 152) rfl ?_
      rintro T60 _ L60 ⟨rfl, Kq60, Fa60, Fe60, Ft60⟩ X60
      have E60_r := Exa.keep E59_r Kq60.1
      have A60_b := Seq.keep A59' Kq60.1 (ninS ne_b_r nin0)
      have K60 := Kp.call K59 Kq60 (allS (Or.inr sz_r) all0)
      have hk60 := Nat.le_trans hk59 Kq60.1.1
      have Fa60' : Fld Z T60.heap r "com/example/wary_offset/waryoffset/remoting/JsonText$Reader" "at" "I" (.int (Int32.ofNat 2)) := by rw [if_pos hv1, hJ1] at Fa60; exact Fa60
      show Goes p e below T60 (mkF m 152 #[.val (.int p0), .val (.int p1), .val (.int p2), .val (.int p3), .val (.ref b), .val (.int (3 : Int32)), .val (.int (1 : Int32)), .val (.int tk), .val (.ref r)] [(.int (if (nextv ([y0, tk, y2, y3, yd, y5] : List Int32) 4 (sk ([y0, tk, y2, y3, yd, y5] : List Int32) 4 (4 - 1) 1)) = (tk.toUInt32.toUInt16.toUInt32.toInt32) then (1 : Int32) else (0 : Int32)))]) _
      rw [if_pos hv1]
      refine G.ifT X60 hx (pc' := 157) (hb hby at_152) (Jvm.Free.XT.i0_ne_t (by decide)) (by decide) (by decide) ?_
      refine G.aload X60 hx (pc' := 159) (hb hby at_157) rfl rfl rfl ?_
      have hJ2 : (sk ([y0, tk, y2, y3, yd, y5] : List Int32) 4 (4 - 2) 2) = 4 := by
        show sk ([y0, tk, y2, y3, yd, y5] : List Int32) 4 2 2 = 4
        rw [sk_yes (f := 1) (by decide) (show isws (([y0, tk, y2, y3, yd, y5] : List Int32).getD 2 0) from hy2), sk_yes (f := 0) (by decide) (show isws (([y0, tk, y2, y3, yd, y5] : List Int32).getD 3 0) from hy3)]; rfl
      have hv2 : nextv ([y0, tk, y2, y3, yd, y5] : List Int32) 4 (sk ([y0, tk, y2, y3, yd, y5] : List Int32) 4 (4 - 2) 2) = (-1 : Int32) := by rw [hJ2, nextv, if_neg (by decide)]
      refine G.callV X60 hx hZ (y0 := (⟨"com/example/wary_offset/waryoffset/remoting/JsonText$Reader", "expectEnd", "()V"⟩ : MethodName)) (y := (⟨"com/example/wary_offset/waryoffset/remoting/JsonText$Reader", "expectEnd", "()V"⟩ : MethodName)) hown (hw _ (List.mem_of_getElem? (i := 37) rfl)) (hw _ (List.mem_of_getElem? (i := 38) rfl)) (notFace_of_selects (args := #[]) (mvT hZ (hw _ (List.mem_of_getElem? (i := 40) rfl)))) (hw _ (List.mem_of_getElem? (i := 40) rfl)) (hw _ (List.mem_of_getElem? (i := 39) rfl)) (hw _ (List.mem_of_getElem? (i := 8) rfl)) (hw _ (List.mem_of_getElem? (i := 41) rfl)) (by decide) rfl (rm := ({ frames := 1, cells := 0, slots := 0, locals := 12 } : Room)) (argsL := []) (S := []) (W := 0) (a := r) E60_r (rm_expect l Z a0 hw r b 2 4 ([y0, tk, y2, y3, yd, y5] : List Int32) T60.heap E60_r Fa60' Fe60 Ft60 A60_b nrb (by decide) (Nat.le_of_ble_eq_true rfl) (Nat.le_of_ble_eq_true rfl) hv2) (lenOf pd_6 rfl) rfl (Nat.le_of_eq rfl) (by decide) (by decide) (by decide) (by decide) (by rw [hml]; rfl) (hb hby at_159) (pc' := 162) rfl ?_
      rintro T61 _ L61 ⟨rfl, Kq61, Fa61, Fe61, Ft61⟩ X61
      have E61_r := Exa.keep E60_r Kq61.1
      have A61_b := Seq.keep A60_b Kq61.1 (ninS ne_b_r nin0)
      have K61 := Kp.call K60 Kq61 (allS (Or.inr sz_r) all0)
      have hk61 := Nat.le_trans hk60 Kq61.1.1
      have Fa61' : Fld Z T61.heap r "com/example/wary_offset/waryoffset/remoting/JsonText$Reader" "at" "I" (.int (Int32.ofNat 4)) := by rw [hJ2] at Fa61; exact Fa61
      show Goes p e below T61 (mkF m 162 #[.val (.int p0), .val (.int p1), .val (.int p2), .val (.int p3), .val (.ref b), .val (.int (3 : Int32)), .val (.int (1 : Int32)), .val (.int tk), .val (.ref r)] []) _
      refine G.aload X61 hx (pc' := 164) (hb hby at_162) rfl rfl rfl ?_
      refine G.iloadN X61 hx (pc' := 165) (hb hby at_164) rfl rfl ?_
      refine G.sipush X61 hx (pc' := 168) (hb hby at_165) (z := (255 : Int32)) rfl rfl ?_
      refine G.iand X61 hx (pc' := 169) (hb hby at_168) rfl ?_
      refine G.i2c X61 hx (pc' := 170) (hb hby at_169) rfl ?_
      have hJ3 : (sk ([y0, tk, y2, y3, yd, y5] : List Int32) 4 (4 - 4) 4) = 4 := rfl
      have hv3 : ¬ (nextv ([y0, tk, y2, y3, yd, y5] : List Int32) 4 (sk ([y0, tk, y2, y3, yd, y5] : List Int32) 4 (4 - 4) 4)) = ((p3 &&& (255 : Int32)).toUInt32.toUInt16.toUInt32.toInt32) := by rw [hJ3, nextv, if_neg (by decide)]; exact own_c0 (p3 &&& (255 : Int32))
      refine G.callV X61 hx hZ (y0 := (⟨"com/example/wary_offset/waryoffset/remoting/JsonText$Reader", "take", "(C)Z"⟩ : MethodName)) (y := (⟨"com/example/wary_offset/waryoffset/remoting/JsonText$Reader", "take", "(C)Z"⟩ : MethodName)) hown (hw _ (List.mem_of_getElem? (i := 46) rfl)) (hw _ (List.mem_of_getElem? (i := 47) rfl)) (notFace_of_selects (args := #[]) (mvT hZ (hw _ (List.mem_of_getElem? (i := 49) rfl)))) (hw _ (List.mem_of_getElem? (i := 49) rfl)) (hw _ (List.mem_of_getElem? (i := 48) rfl)) (hw _ (List.mem_of_getElem? (i := 8) rfl)) (hw _ (List.mem_of_getElem? (i := 50) rfl)) (by decide) rfl (rm := ({ frames := 1, cells := 0, slots := 0, locals := 12 } : Room)) (argsL := [(.int ((p3 &&& (255 : Int32)).toUInt32.toUInt16.toUInt32.toInt32))]) (S := []) (W := 0) (a := r) E61_r (rm_take l Z a0 hw r b ((p3 &&& (255 : Int32)).toUInt32.toUInt16.toUInt32.toInt32) 4 4 ([y0, tk, y2, y3, yd, y5] : List Int32) T61.heap E61_r Fa61' Fe61 Ft61 A61_b nrb (by decide) (Nat.le_of_ble_eq_true rfl) (Nat.le_of_ble_eq_true rfl)) (lenOf pd_7 rfl) rfl (Nat.le_of_eq rfl) (by decide) (by decide) (by decide) (by decide) (by rw [hml]; rfl) (hb hby at_170) (pc' := 173) rfl ?_
      rintro T62 _ L62 ⟨rfl, Kq62, Fa62, Fe62, Ft62⟩ X62
      have E62_r := Exa.keep E61_r Kq62.1
      have A62_b := Seq.keep A61_b Kq62.1 (ninS ne_b_r nin0)
      have K62 := Kp.call K61 Kq62 (allS (Or.inr sz_r) all0)
      have hk62 := Nat.le_trans hk61 Kq62.1.1
      show Goes p e below T62 (mkF m 173 #[.val (.int p0), .val (.int p1), .val (.int p2), .val (.int p3), .val (.ref b), .val (.int (3 : Int32)), .val (.int (1 : Int32)), .val (.int tk), .val (.ref r)] [(.int (if (nextv ([y0, tk, y2, y3, yd, y5] : List Int32) 4 (sk ([y0, tk, y2, y3, yd, y5] : List Int32) 4 (4 - 4) 4)) = ((p3 &&& (255 : Int32)).toUInt32.toUInt16.toUInt32.toInt32) then (1 : Int32) else (0 : Int32)))]) _
      rw [if_neg hv3]
      refine G.ifF X62 hx (pc' := 176) (hb hby at_173) (Jvm.Free.XT.i0_ne_f rfl) rfl ?_
      refine G.iconst X62 hx (pc' := 177) (hb hby at_176) (z := (1 : Int32)) rfl rfl ?_
      refine G.goto X62 hx (pc' := 181) (hb hby at_177) (by decide) (by decide) ?_
      refine Goes.retNW X62 hS58 hk62 hx hret (by simp) hlk (hb hby at_181) (by decide) (by decide) ⟨rfl, K62.fr⟩
  · show Goes p e below T12 (mkF m 70 #[.val (.int p0), .val (.int p1), .val (.int p2), .val (.int p3), .val (.ref b), .val (.int (4 : Int32)), .unset, .unset, .unset] []) _
    refine G.aload X12 hx (pc' := 72) (hb hby at_70) rfl rfl rfl ?_
    refine G.iconst X12 hx (pc' := 73) (hb hby at_72) (z := (1 : Int32)) rfl rfl ?_
    refine G.iload X12 hx (pc' := 75) (hb hby at_73) rfl rfl ?_
    refine G.iadd X12 hx (pc' := 76) (hb hby at_75) rfl ?_
    refine G.iloadN X12 hx (pc' := 77) (hb hby at_76) rfl rfl ?_
    refine G.i2b X12 hx (pc' := 78) (hb hby at_77) rfl ?_
    refine G.bastore X12 hx hZ e12 A12_b (pc' := 79) (hb hby at_78) (by decide) (Nat.le_of_ble_eq_true rfl) rfl fun T63 h63 X63 e63 W63 A63 => ?_
    have K63 := Kp.wr K12 W63 (Or.inr sz_b)
    have hk63 := Nat.le_trans hk12 (Keep.of_wr W63).1
    have A63_b : Seq Z h63 b .byte [(.int y0), (.int y1), (.int y2), (.int y3), (.int y4), (.int (nar .byte (p3.toInt8.toInt32)))] := A63
    generalize hqd : (nar .byte (p3.toInt8.toInt32)) = yd at A63_b
    refine G.iloadN X63 hx (pc' := 80) (hb hby at_79) rfl rfl ?_
    refine G.iconst X63 hx (pc' := 81) (hb hby at_80) (z := (3 : Int32)) rfl rfl ?_
    refine G.iushr X63 hx (pc' := 82) (hb hby at_81) rfl ?_
    refine G.iconst X63 hx (pc' := 83) (hb hby at_82) (z := (1 : Int32)) rfl rfl ?_
    refine G.iand X63 hx (pc' := 84) (hb hby at_83) rfl ?_
    by_cases c1 : ((Jvm.Free.XT.ushr p1 (3 : Int32)) &&& (1 : Int32)) = (0 : Int32)
    · refine G.ifT X63 hx (pc' := 96) (hb hby at_84) (Jvm.Free.XT.i0_eq_t c1) (by decide) (by decide) ?_
      refine G.iconst X63 hx (pc' := 97) (hb hby at_96) (z := (0 : Int32)) rfl rfl ?_
      refine G.istore X63 hx (pc' := 99) (hb hby at_97) (L' := #[.val (.int p0), .val (.int p1), .val (.int p2), .val (.int p3), .val (.ref b), .val (.int (4 : Int32)), .val (.int (0 : Int32)), .unset, .unset]) rfl rfl ?_
      refine G.bipush X63 hx (pc' := 101) (hb hby at_99) (z := (33 : Int32)) rfl rfl ?_
      refine G.iloadN X63 hx (pc' := 102) (hb hby at_101) rfl rfl ?_
      refine G.bipush X63 hx (pc' := 104) (hb hby at_102) (z := (8 : Int32)) rfl rfl ?_
      refine G.iushr X63 hx (pc' := 105) (hb hby at_104) rfl ?_
      refine G.bipush X63 hx (pc' := 107) (hb hby at_105) (z := (94 : Int32)) rfl rfl ?_
      refine G.irem X63 hx (pc' := 108) (hb hby at_107) (by decide) rfl ?_
      refine G.iadd X63 hx (pc' := 109) (hb hby at_108) rfl ?_
      refine G.istore X63 hx (pc' := 111) (hb hby at_109) (L' := #[.val (.int p0), .val (.int p1), .val (.int p2), .val (.int p3), .val (.ref b), .val (.int (4 : Int32)), .val (.int (0 : Int32)), .val (.int ((33 : Int32) + ((Jvm.Free.XT.ushr p0 (8 : Int32)) % (94 : Int32)))), .unset]) rfl rfl ?_
      refine G.iload X63 hx (pc' := 113) (hb hby at_111) rfl rfl ?_
      have htk := own_tok p0
      generalize htq : ((33 : Int32) + ((Jvm.Free.XT.ushr p0 (8 : Int32)) % (94 : Int32))) = tk at htk ⊢
      refine G.ifT X63 hx (pc' := 123) (hb hby at_113) (Jvm.Free.XT.i0_eq_t (by decide)) (by decide) (by decide) ?_
      refine G.newO X63 hx hZ hown (hw _ (List.mem_of_getElem? (i := 6) rfl)) (hw _ (List.mem_of_getElem? (i := 7) rfl)) (hw _ (List.mem_of_getElem? (i := 8) rfl)) e63 (hb hby at_123) (by decide) (by decide) (pc' := 126) rfl fun T64 h64 r g64 X64 e64 Ex64 Ea64 D64 => ?_
      have ne_b_r : b ≠ r := Nat.ne_of_lt (Nat.lt_of_lt_of_le A63_b.lt (Nat.le_of_eq g64.symm))
      have sz_r : Z.heap.size ≤ r := Nat.le_trans K63.size (Nat.le_of_eq g64.symm)
      have A64_b := Seq.ext A63_b Ex64
      have K64 := Kp.ext K63 Ex64
      have hk64 := Nat.le_trans hk63 Ex64.1
      have F64_r_text : Fld Z h64 r "com/example/wary_offset/waryoffset/remoting/JsonText$Reader" "text" "[B" .null := D64 (Or.inr (hw _ (List.mem_of_getElem? (i := 26) rfl))) (ty := (.array .byte)) (by decide)
      have F64_r_start : Fld Z h64 r "com/example/wary_offset/waryoffset/remoting/JsonText$Reader" "start" "I" (.int (0 : Int32)) := D64 (Or.inr (hw _ (List.mem_of_getElem? (i := 28) rfl))) (ty := .int) (by decide)
      have F64_r_end : Fld Z h64 r "com/example/wary_offset/waryoffset/remoting/JsonText$Reader" "end" "I" (.int (0 : Int32)) := D64 (Or.inr (hw _ (List.mem_of_getElem? (i := 30) rfl))) (ty := .int) (by decide)
      have F64_r_what : Fld Z h64 r "com/example/wary_offset/waryoffset/remoting/JsonText$Reader" "what" "Ljava/lang/String;" .null := D64 (Or.inr (hw _ (List.mem_of_getElem? (i := 32) rfl))) (ty := (.object "java/lang/String")) (by decide)
      have F64_r_strings : Fld Z h64 r "com/example/wary_offset/waryoffset/remoting/JsonText$Reader" "strings" "Lcom/example/wary_offset/waryoffset/remoting/JsonText$Strings;" .null := D64 (Or.inr (hw _ (List.mem_of_getElem? (i := 34) rfl))) (ty := (.object "com/example/wary_offset/waryoffset/remoting/JsonText$Strings")) (by decide)
      have F64_r_at : Fld Z h64 r "com/example/wary_offset/waryoffset/remoting/JsonText$Reader" "at" "I" (.int (0 : Int32)) := D64 (Or.inl (hw _ (List.mem_of_getElem? (i := 36) rfl))) (ty := .int) (by decide)
      refine G.dup X64 hx (pc' := 127) (hb hby at_126) rfl rfl ?_
      refine G.aload X64 hx (pc' := 129) (hb hby at_127) rfl rfl rfl ?_
      refine G.iconst X64 hx (pc' := 130) (hb hby at_129) (z := (1 : Int32)) rfl rfl ?_
      refine G.iload X64 hx (pc' := 132) (hb hby at_130) rfl rfl ?_
      refine G.ldcStr X64 hx hZ hown (hw _ (List.mem_of_getElem? (i := 9) rfl)) hwS e64 hS0 hk64 (hb hby at_132) (n := 4) (by decide +kernel) (by decide) (by decide) (by decide) (pc' := 134) rfl fun st T65 h65 k65 X65 e65 Ex65 hS65 hk65 hZ hown => ?_
      have F65_r_text := Fld.ext  Ex65 F64_r_text
      have F65_r_start := Fld.ext  Ex65 F64_r_start
      have F65_r_end := Fld.ext  Ex65 F64_r_end
      have F65_r_what := Fld.ext  Ex65 F64_r_what
      have F65_r_strings := Fld.ext  Ex65 F64_r_strings
      have F65_r_at := Fld.ext  Ex65 F64_r_at
      have E65_r := Exa.ext  Ex65 Ea64
      have A65_b := Seq.ext A64_b Ex65
      have K65 := Kp.ext K64 Ex65
      have nrb : r ≠ b := Ne.symm ne_b_r
      refine G.callI X65 hx hZ (y := (⟨"com/example/wary_offset/waryoffset/remoting/JsonText$Reader", "<init>", "([BIILjava/lang/String;)V"⟩ : MethodName)) rfl hown (hw _ (List.mem_of_getElem? (i := 16) rfl)) (hw _ (List.mem_of_getElem? (i := 17) rfl)) (hw _ (List.mem_of_getElem? (i := 8) rfl)) (hw _ (List.mem_of_getElem? (i := 18) rfl)) (by decide) e65 (rm := ({ frames := 2, cells := 0, slots := 0, locals := 29 } : Room)) (argsL := [(.ref b), (.int (1 : Int32)), (.int (4 : Int32)), (.ref st)]) (S := [(.ref r)]) (W := 1) (a := r) (rm_init l Z a0 hw r b st (1 : Int32) (4 : Int32) h65 E65_r F65_r_text F65_r_start F65_r_end F65_r_what F65_r_strings F65_r_at) (lenOf pd_5 rfl) rfl (Nat.le_of_eq rfl) (by decide) (by decide) (by decide) (by decide) (by rw [hml]; rfl) (hb hby at_134) (pc' := 137) rfl ?_
      rintro T66 _ L66 ⟨rfl, Kq66, Ft66, Fe66, Fa66⟩ X66
      have E66_r := Exa.keep E65_r Kq66.1
      have A66_b := Seq.keep A65_b Kq66.1 (ninS ne_b_r nin0)
      have K66 := Kp.call K65 Kq66 (allS (Or.inr sz_r) all0)
      have hk66 := Nat.le_trans hk65 Kq66.1.1
      have Fe66' : Fld Z T66.heap r "com/example/wary_offset/waryoffset/remoting/JsonText$Reader" "end" "I" (.int (Int32.ofNat 5)) := Fe66
      have Fa66' : Fld Z T66.heap r "com/example/wary_offset/waryoffset/remoting/JsonText$Reader" "at" "I" (.int (Int32.ofNat 1)) := Fa66
      have A66' : Seq Z T66.heap b .byte (([y0, y1, y2, y3, y4, yd] : List Int32).map Value.int) := A66_b
      show Goes p e below T66 (mkF m 137 #[.val (.int p0), .val (.int p1), .val (.int p2), .val (.int p3), .val (.ref b), .val (.int (4 : Int32)), .val (.int (0 : Int32)), .val (.int tk), .unset] [(.ref r)]) _
      refine G.astore X66 hx (pc' := 139) (hb hby at_137) rfl (L' := #[.val (.int p0), .val (.int p1), .val (.int p2), .val (.int p3), .val (.ref b), .val (.int (4 : Int32)), .val (.int (0 : Int32)), .val (.int tk), .val (.ref r)]) rfl rfl ?_
      refine G.iload X66 hx (pc' := 141) (hb hby at_139) rfl rfl ?_
      refine G.ifT X66 hx (pc' := 157) (hb hby at_141) (Jvm.Free.XT.i0_eq_t (by decide)) (by decide) (by decide) ?_
      refine G.aload X66 hx (pc' := 159) (hb hby at_157) rfl rfl rfl ?_
      have hJ2 : (sk ([y0, y1, y2, y3, y4, yd] : List Int32) 5 (5 - 1) 1) = 5 := by
        show sk ([y0, y1, y2, y3, y4, yd] : List Int32) 5 4 1 = 5
        rw [sk_yes (f := 3) (by decide) (show isws (([y0, y1, y2, y3, y4, yd] : List Int32).getD 1 0) from hy1), sk_yes (f := 2) (by decide) (show isws (([y0, y1, y2, y3, y4, yd] : List Int32).getD 2 0) from hy2), sk_yes (f := 1) (by decide) (show isws (([y0, y1, y2, y3, y4, yd] : List Int32).getD 3 0) from hy3), sk_yes (f := 0) (by decide) (show isws (([y0, y1, y2, y3, y4, yd] : List Int32).getD 4 0) from hy4)]; rfl
      have hv2 : nextv ([y0, y1, y2, y3, y4, yd] : List Int32) 5 (sk ([y0, y1, y2, y3, y4, yd] : List Int32) 5 (5 - 1) 1) = (-1 : Int32) := by rw [hJ2, nextv, if_neg (by decide)]
      refine G.callV X66 hx hZ (y0 := (⟨"com/example/wary_offset/waryoffset/remoting/JsonText$Reader", "expectEnd", "()V"⟩ : MethodName)) (y := (⟨"com/example/wary_offset/waryoffset/remoting/JsonText$Reader", "expectEnd", "()V"⟩ : MethodName)) hown (hw _ (List.mem_of_getElem? (i := 37) rfl)) (hw _ (List.mem_of_getElem? (i := 38) rfl)) (notFace_of_selects (args := #[]) (mvT hZ (hw _ (List.mem_of_getElem? (i := 40) rfl)))) (hw _ (List.mem_of_getElem? (i := 40) rfl)) (hw _ (List.mem_of_getElem? (i := 39) rfl)) (hw _ (List.mem_of_getElem? (i := 8) rfl)) (hw _ (List.mem_of_getElem? (i := 41) rfl)) (by decide) rfl (rm := ({ frames := 1, cells := 0, slots := 0, locals := 12 } : Room)) (argsL := []) (S := []) (W := 0) (a := r) E66_r (rm_expect l Z a0 hw r b 1 5 ([y0, y1, y2, y3, y4, yd] : List Int32) T66.heap E66_r Fa66' Fe66' Ft66 A66' nrb (by decide) (Nat.le_of_ble_eq_true rfl) (Nat.le_of_ble_eq_true rfl) hv2) (lenOf pd_6 rfl) rfl (Nat.le_of_eq rfl) (by decide) (by decide) (by decide) (by decide) (by rw [hml]; rfl) (hb hby at_159) (pc' := 162) rfl ?_
      rintro T67 _ L67 ⟨rfl, Kq67, Fa67, Fe67, Ft67⟩ X67
      have E67_r := Exa.keep E66_r Kq67.1
      have A67_b := Seq.keep A66' Kq67.1 (ninS ne_b_r nin0)
      have K67 := Kp.call K66 Kq67 (allS (Or.inr sz_r) all0)
      have hk67 := Nat.le_trans hk66 Kq67.1.1
      have Fa67' : Fld Z T67.heap r "com/example/wary_offset/waryoffset/remoting/JsonText$Reader" "at" "I" (.int (Int32.ofNat 5)) := by rw [hJ2] at Fa67; exact Fa67
      show Goes p e below T67 (mkF m 162 #[.val (.int p0), .val (.int p1), .val (.int p2), .val (.int p3), .val (.ref b), .val (.int (4 : Int32)), .val (.int (0 : Int32)), .val (.int tk), .val (.ref r)] []) _
      refine G.aload X67 hx (pc' := 164) (hb hby at_162) rfl rfl rfl ?_
      refine G.iloadN X67 hx (pc' := 165) (hb hby at_164) rfl rfl ?_
      refine G.sipush X67 hx (pc' := 168) (hb hby at_165) (z := (255 : Int32)) rfl rfl ?_
      refine G.iand X67 hx (pc' := 169) (hb hby at_168) rfl ?_
      refine G.i2c X67 hx (pc' := 170) (hb hby at_169) rfl ?_
      have hJ3 : (sk ([y0, y1, y2, y3, y4, yd] : List Int32) 5 (5 - 5) 5) = 5 := rfl
      have hv3 : ¬ (nextv ([y0, y1, y2, y3, y4, yd] : List Int32) 5 (sk ([y0, y1, y2, y3, y4, yd] : List Int32) 5 (5 - 5) 5)) = ((p3 &&& (255 : Int32)).toUInt32.toUInt16.toUInt32.toInt32) := by rw [hJ3, nextv, if_neg (by decide)]; exact own_c0 (p3 &&& (255 : Int32))
      refine G.callV X67 hx hZ (y0 := (⟨"com/example/wary_offset/waryoffset/remoting/JsonText$Reader", "take", "(C)Z"⟩ : MethodName)) (y := (⟨"com/example/wary_offset/waryoffset/remoting/JsonText$Reader", "take", "(C)Z"⟩ : MethodName)) hown (hw _ (List.mem_of_getElem? (i := 46) rfl)) (hw _ (List.mem_of_getElem? (i := 47) rfl)) (notFace_of_selects (args := #[]) (mvT hZ (hw _ (List.mem_of_getElem? (i := 49) rfl)))) (hw _ (List.mem_of_getElem? (i := 49) rfl)) (hw _ (List.mem_of_getElem? (i := 48) rfl)) (hw _ (List.mem_of_getElem? (i := 8) rfl)) (hw _ (List.mem_of_getElem? (i := 50) rfl)) (by decide) rfl (rm := ({ frames := 1, cells := 0, slots := 0, locals := 12 } : Room)) (argsL := [(.int ((p3 &&& (255 : Int32)).toUInt32.toUInt16.toUInt32.toInt32))]) (S := []) (W := 0) (a := r) E67_r (rm_take l Z a0 hw r b ((p3 &&& (255 : Int32)).toUInt32.toUInt16.toUInt32.toInt32) 5 5 ([y0, y1, y2, y3, y4, yd] : List Int32) T67.heap E67_r Fa67' Fe67 Ft67 A67_b nrb (by decide) (Nat.le_of_ble_eq_true rfl) (Nat.le_of_ble_eq_true rfl)) (lenOf pd_7 rfl) rfl (Nat.le_of_eq rfl) (by decide) (by decide) (by decide) (by decide) (by rw [hml]; rfl) (hb hby at_170) (pc' := 173) rfl ?_
      rintro T68 _ L68 ⟨rfl, Kq68, Fa68, Fe68, Ft68⟩ X68
      have E68_r := Exa.keep E67_r Kq68.1
      have A68_b := Seq.keep A67_b Kq68.1 (ninS ne_b_r nin0)
      have K68 := Kp.call K67 Kq68 (allS (Or.inr sz_r) all0)
      have hk68 := Nat.le_trans hk67 Kq68.1.1
      show Goes p e below T68 (mkF m 173 #[.val (.int p0), .val (.int p1), .val (.int p2), .val (.int p3), .val (.ref b), .val (.int (4 : Int32)), .val (.int (0 : Int32)), .val (.int tk), .val (.ref r)] [(.int (if (nextv ([y0, y1, y2, y3, y4, yd] : List Int32) 5 (sk ([y0, y1, y2, y3, y4, yd] : List Int32) 5 (5 - 5) 5)) = ((p3 &&& (255 : Int32)).toUInt32.toUInt16.toUInt32.toInt32) then (1 : Int32) else (0 : Int32)))]) _
      rw [if_neg hv3]
      refine G.ifF X68 hx (pc' := 176) (hb hby at_173) (Jvm.Free.XT.i0_ne_f rfl) rfl ?_
      refine G.iconst X68 hx (pc' := 177) (hb hby at_176) (z := (1 : Int32)) rfl rfl ?_
      refine G.goto X68 hx (pc' := 181) (hb hby at_177) (by decide) (by decide) ?_
      refine Goes.retNW X68 hS65 hk68 hx hret (by simp) hlk (hb hby at_181) (by decide) (by decide) ⟨rfl, K68.fr⟩
    · refine G.ifF X63 hx (pc' := 87) (hb hby at_84) (Jvm.Free.XT.i0_eq_f c1) rfl ?_
      refine G.iload X63 hx (pc' := 89) (hb hby at_87) rfl rfl ?_
      refine G.ifF X63 hx (pc' := 92) (hb hby at_89) (Jvm.Free.XT.i0_le_f (by decide)) rfl ?_
      refine G.iconst X63 hx (pc' := 93) (hb hby at_92) (z := (1 : Int32)) rfl rfl ?_
      refine G.goto X63 hx (pc' := 97) (hb hby at_93) (by decide) (by decide) ?_
      refine G.istore X63 hx (pc' := 99) (hb hby at_97) (L' := #[.val (.int p0), .val (.int p1), .val (.int p2), .val (.int p3), .val (.ref b), .val (.int (4 : Int32)), .val (.int (1 : Int32)), .unset, .unset]) rfl rfl ?_
      refine G.bipush X63 hx (pc' := 101) (hb hby at_99) (z := (33 : Int32)) rfl rfl ?_
      refine G.iloadN X63 hx (pc' := 102) (hb hby at_101) rfl rfl ?_
      refine G.bipush X63 hx (pc' := 104) (hb hby at_102) (z := (8 : Int32)) rfl rfl ?_
      refine G.iushr X63 hx (pc' := 105) (hb hby at_104) rfl ?_
      refine G.bipush X63 hx (pc' := 107) (hb hby at_105) (z := (94 : Int32)) rfl rfl ?_
      refine G.irem X63 hx (pc' := 108) (hb hby at_107) (by decide) rfl ?_
      refine G.iadd X63 hx (pc' := 109) (hb hby at_108) rfl ?_
      refine G.istore X63 hx (pc' := 111) (hb hby at_109) (L' := #[.val (.int p0), .val (.int p1), .val (.int p2), .val (.int p3), .val (.ref b), .val (.int (4 : Int32)), .val (.int (1 : Int32)), .val (.int ((33 : Int32) + ((Jvm.Free.XT.ushr p0 (8 : Int32)) % (94 : Int32)))), .unset]) rfl rfl ?_
      refine G.iload X63 hx (pc' := 113) (hb hby at_111) rfl rfl ?_
      have htk := own_tok p0
      generalize htq : ((33 : Int32) + ((Jvm.Free.XT.ushr p0 (8 : Int32)) % (94 : Int32))) = tk at htk ⊢
      refine G.ifF X63 hx (pc' := 116) (hb hby at_113) (Jvm.Free.XT.i0_eq_f (by decide)) rfl ?_
      refine G.aload X63 hx (pc' := 118) (hb hby at_116) rfl rfl rfl ?_
      refine G.iconst X63 hx (pc' := 119) (hb hby at_118) (z := (1 : Int32)) rfl rfl ?_
      refine G.iload X63 hx (pc' := 121) (hb hby at_119) rfl rfl ?_
      refine G.i2b X63 hx (pc' := 122) (hb hby at_121) rfl ?_
      have htk' := own_tk tk htk
      refine G.bastore X63 hx hZ e63 A63_b (pc' := 123) (hb hby at_122) (by decide) (Nat.le_of_ble_eq_true rfl) rfl fun T69 h69 X69 e69 W69 A69 => ?_
      have K69 := Kp.wr K63 W69 (Or.inr sz_b)
      have hk69 := Nat.le_trans hk63 (Keep.of_wr W69).1
      have A69_b : Seq Z h69 b .byte [(.int y0), (.int (nar .byte (tk.toInt8.toInt32))), (.int y2), (.int y3), (.int y4), (.int yd)] := A69
      rw [htk'.1] at A69_b
      refine G.newO X69 hx hZ hown (hw _ (List.mem_of_getElem? (i := 6) rfl)) (hw _ (List.mem_of_getElem? (i := 7) rfl)) (hw _ (List.mem_of_getElem? (i := 8) rfl)) e69 (hb hby at_123) (by decide) (by decide) (pc' := 126) rfl fun T70 h70 r g70 X70 e70 Ex70 Ea70 D70 => ?_
      have ne_b_r : b ≠ r := Nat.ne_of_lt (Nat.lt_of_lt_of_le A69_b.lt (Nat.le_of_eq g70.symm))
      have sz_r : Z.heap.size ≤ r := Nat.le_trans K69.size (Nat.le_of_eq g70.symm)
      have A70_b := Seq.ext A69_b Ex70
      have K70 := Kp.ext K69 Ex70
      have hk70 := Nat.le_trans hk69 Ex70.1
      have F70_r_text : Fld Z h70 r "com/example/wary_offset/waryoffset/remoting/JsonText$Reader" "text" "[B" .null := D70 (Or.inr (hw _ (List.mem_of_getElem? (i := 26) rfl))) (ty := (.array .byte)) (by decide)
      have F70_r_start : Fld Z h70 r "com/example/wary_offset/waryoffset/remoting/JsonText$Reader" "start" "I" (.int (0 : Int32)) := D70 (Or.inr (hw _ (List.mem_of_getElem? (i := 28) rfl))) (ty := .int) (by decide)
      have F70_r_end : Fld Z h70 r "com/example/wary_offset/waryoffset/remoting/JsonText$Reader" "end" "I" (.int (0 : Int32)) := D70 (Or.inr (hw _ (List.mem_of_getElem? (i := 30) rfl))) (ty := .int) (by decide)
      have F70_r_what : Fld Z h70 r "com/example/wary_offset/waryoffset/remoting/JsonText$Reader" "what" "Ljava/lang/String;" .null := D70 (Or.inr (hw _ (List.mem_of_getElem? (i := 32) rfl))) (ty := (.object "java/lang/String")) (by decide)
      have F70_r_strings : Fld Z h70 r "com/example/wary_offset/waryoffset/remoting/JsonText$Reader" "strings" "Lcom/example/wary_offset/waryoffset/remoting/JsonText$Strings;" .null := D70 (Or.inr (hw _ (List.mem_of_getElem? (i := 34) rfl))) (ty := (.object "com/example/wary_offset/waryoffset/remoting/JsonText$Strings")) (by decide)
      have F70_r_at : Fld Z h70 r "com/example/wary_offset/waryoffset/remoting/JsonText$Reader" "at" "I" (.int (0 : Int32)) := D70 (Or.inl (hw _ (List.mem_of_getElem? (i := 36) rfl))) (ty := .int) (by decide)
      refine G.dup X70 hx (pc' := 127) (hb hby at_126) rfl rfl ?_
      refine G.aload X70 hx (pc' := 129) (hb hby at_127) rfl rfl rfl ?_
      refine G.iconst X70 hx (pc' := 130) (hb hby at_129) (z := (1 : Int32)) rfl rfl ?_
      refine G.iload X70 hx (pc' := 132) (hb hby at_130) rfl rfl ?_
      refine G.ldcStr X70 hx hZ hown (hw _ (List.mem_of_getElem? (i := 9) rfl)) hwS e70 hS0 hk70 (hb hby at_132) (n := 4) (by decide +kernel) (by decide) (by decide) (by decide) (pc' := 134) rfl fun st T71 h71 k71 X71 e71 Ex71 hS71 hk71 hZ hown => ?_
      have F71_r_text := Fld.ext  Ex71 F70_r_text
      have F71_r_start := Fld.ext  Ex71 F70_r_start
      have F71_r_end := Fld.ext  Ex71 F70_r_end
      have F71_r_what := Fld.ext  Ex71 F70_r_what
      have F71_r_strings := Fld.ext  Ex71 F70_r_strings
      have F71_r_at := Fld.ext  Ex71 F70_r_at
      have E71_r := Exa.ext  Ex71 Ea70
      have A71_b := Seq.ext A70_b Ex71
      have K71 := Kp.ext K70 Ex71
      have nrb : r ≠ b := Ne.symm ne_b_r
      refine G.callI X71 hx hZ (y := (⟨"com/example/wary_offset/waryoffset/remoting/JsonText$Reader", "<init>", "([BIILjava/lang/String;)V"⟩ : MethodName)) rfl hown (hw _ (List.mem_of_getElem? (i := 16) rfl)) (hw _ (List.mem_of_getElem? (i := 17) rfl)) (hw _ (List.mem_of_getElem? (i := 8) rfl)) (hw _ (List.mem_of_getElem? (i := 18) rfl)) (by decide) e71 (rm := ({ frames := 2, cells := 0, slots := 0, locals := 29 } : Room)) (argsL := [(.ref b), (.int (1 : Int32)), (.int (4 : Int32)), (.ref st)]) (S := [(.ref r)]) (W := 1) (a := r) (rm_init l Z a0 hw r b st (1 : Int32) (4 : Int32) h71 E71_r F71_r_text F71_r_start F71_r_end F71_r_what F71_r_strings F71_r_at) (lenOf pd_5 rfl) rfl (Nat.le_of_eq rfl) (by decide) (by decide) (by decide) (by decide) (by rw [hml]; rfl) (hb hby at_134) (pc' := 137) rfl ?_
      rintro T72 _ L72 ⟨rfl, Kq72, Ft72, Fe72, Fa72⟩ X72
      have E72_r := Exa.keep E71_r Kq72.1
      have A72_b := Seq.keep A71_b Kq72.1 (ninS ne_b_r nin0)
      have K72 := Kp.call K71 Kq72 (allS (Or.inr sz_r) all0)
      have hk72 := Nat.le_trans hk71 Kq72.1.1
      have Fe72' : Fld Z T72.heap r "com/example/wary_offset/waryoffset/remoting/JsonText$Reader" "end" "I" (.int (Int32.ofNat 5)) := Fe72
      have Fa72' : Fld Z T72.heap r "com/example/wary_offset/waryoffset/remoting/JsonText$Reader" "at" "I" (.int (Int32.ofNat 1)) := Fa72
      have A72' : Seq Z T72.heap b .byte (([y0, tk, y2, y3, y4, yd] : List Int32).map Value.int) := A72_b
      show Goes p e below T72 (mkF m 137 #[.val (.int p0), .val (.int p1), .val (.int p2), .val (.int p3), .val (.ref b), .val (.int (4 : Int32)), .val (.int (1 : Int32)), .val (.int tk), .unset] [(.ref r)]) _
      refine G.astore X72 hx (pc' := 139) (hb hby at_137) rfl (L' := #[.val (.int p0), .val (.int p1), .val (.int p2), .val (.int p3), .val (.ref b), .val (.int (4 : Int32)), .val (.int (1 : Int32)), .val (.int tk), .val (.ref r)]) rfl rfl ?_
      refine G.iload X72 hx (pc' := 141) (hb hby at_139) rfl rfl ?_
      refine G.ifF X72 hx (pc' := 144) (hb hby at_141) (Jvm.Free.XT.i0_eq_f (by decide)) rfl ?_
      refine G.aload X72 hx (pc' := 146) (hb hby at_144) rfl rfl rfl ?_
      refine G.iload X72 hx (pc' := 148) (hb hby at_146) rfl rfl ?_
      refine G.i2c X72 hx (pc' := 149) (hb hby at_148) rfl ?_
      have hJ1 : (sk ([y0, tk, y2, y3, y4, yd] : List Int32) 5 (5 - 1) 1) = 1 := sk_no (fun q => htk'.2.2.2 q.2)
      have hv1 : (nextv ([y0, tk, y2, y3, y4, yd] : List Int32) 5 (sk ([y0, tk, y2, y3, y4, yd] : List Int32) 5 (5 - 1) 1)) = (tk.toUInt32.toUInt16.toUInt32.toInt32) := by rw [hJ1, nextv, if_pos (by decide), htk'.2.1]; exact htk'.2.2.1
      refine G.callV X72 hx hZ (y0 := (⟨"com/example/wary_offset/waryoffset/remoting/JsonText$Reader", "take", "(C)Z"⟩ : MethodName)) (y := (⟨"com/example/wary_offset/waryoffset/remoting/JsonText$Reader", "take", "(C)Z"⟩ : MethodName)) hown (hw _ (List.mem_of_getElem? (i := 46) rfl)) (hw _ (List.mem_of_getElem? (i := 47) rfl)) (notFace_of_selects (args := #[]) (mvT hZ (hw _ (List.mem_of_getElem? (i := 49) rfl)))) (hw _ (List.mem_of_getElem? (i := 49) rfl)) (hw _ (List.mem_of_getElem? (i := 48) rfl)) (hw _ (List.mem_of_getElem? (i := 8) rfl)) (hw _ (List.mem_of_getElem? (i := 50) rfl)) (by decide) rfl (rm := ({ frames := 1, cells := 0, slots := 0, locals := 12 } : Room)) (argsL := [(.int (tk.toUInt32.toUInt16.toUInt32.toInt32))]) (S := []) (W := 0) (a := r) E72_r (rm_take l Z a0 hw r b (tk.toUInt32.toUInt16.toUInt32.toInt32) 1 5 ([y0, tk, y2, y3, y4, yd] : List Int32) T72.heap E72_r Fa72' Fe72' Ft72 A72' nrb (by decide) (Nat.le_of_ble_eq_true rfl) (Nat.le_of_ble_eq_true rfl)) (lenOf pd_7 rfl) rfl (Nat.le_of_eq rfl) (by decide) (by decide) (by decide) (by decide) (by rw [hml]; rfl) (hb hby at_149) (pc' := 152) rfl ?_
      rintro T73 _ L73 ⟨rfl, Kq73, Fa73, Fe73, Ft73⟩ X73
      have E73_r := Exa.keep E72_r Kq73.1
      have A73_b := Seq.keep A72' Kq73.1 (ninS ne_b_r nin0)
      have K73 := Kp.call K72 Kq73 (allS (Or.inr sz_r) all0)
      have hk73 := Nat.le_trans hk72 Kq73.1.1
      have Fa73' : Fld Z T73.heap r "com/example/wary_offset/waryoffset/remoting/JsonText$Reader" "at" "I" (.int (Int32.ofNat 2)) := by rw [if_pos hv1, hJ1] at Fa73; exact Fa73
      show Goes p e below T73 (mkF m 152 #[.val (.int p0), .val (.int p1), .val (.int p2), .val (.int p3), .val (.ref b), .val (.int (4 : Int32)), .val (.int (1 : Int32)), .val (.int tk), .val (.ref r)] [(.int (if (nextv ([y0, tk, y2, y3, y4, yd] : List Int32) 5 (sk ([y0, tk, y2, y3, y4, yd] : List Int32) 5 (5 - 1) 1)) = (tk.toUInt32.toUInt16.toUInt32.toInt32) then (1 : Int32) else (0 : Int32)))]) _
      rw [if_pos hv1]
      refine G.ifT X73 hx (pc' := 157) (hb hby at_152) (Jvm.Free.XT.i0_ne_t (by decide)) (by decide) (by decide) ?_
      refine G.aload X73 hx (pc' := 159) (hb hby at_157) rfl rfl rfl ?_
      have hJ2 : (sk ([y0, tk, y2, y3, y4, yd] : List Int32) 5 (5 - 2) 2) = 5 := by
        show sk ([y0, tk, y2, y3, y4, yd] : List Int32) 5 3 2 = 5
        rw [sk_yes (f := 2) (by decide) (show isws (([y0, tk, y2, y3, y4, yd] : List Int32).getD 2 0) from hy2), sk_yes (f := 1) (by decide) (show isws (([y0, tk, y2, y3, y4, yd] : List Int32).getD 3 0) from hy3), sk_yes (f := 0) (by decide) (show isws (([y0, tk, y2, y3, y4, yd] : List Int32).getD 4 0) from hy4)]; rfl
      have hv2 : nextv ([y0, tk, y2, y3, y4, yd] : List Int32) 5 (sk ([y0, tk, y2, y3, y4, yd] : List Int32) 5 (5 - 2) 2) = (-1 : Int32) := by rw [hJ2, nextv, if_neg (by decide)]
      refine G.callV X73 hx hZ (y0 := (⟨"com/example/wary_offset/waryoffset/remoting/JsonText$Reader", "expectEnd", "()V"⟩ : MethodName)) (y := (⟨"com/example/wary_offset/waryoffset/remoting/JsonText$Reader", "expectEnd", "()V"⟩ : MethodName)) hown (hw _ (List.mem_of_getElem? (i := 37) rfl)) (hw _ (List.mem_of_getElem? (i := 38) rfl)) (notFace_of_selects (args := #[]) (mvT hZ (hw _ (List.mem_of_getElem? (i := 40) rfl)))) (hw _ (List.mem_of_getElem? (i := 40) rfl)) (hw _ (List.mem_of_getElem? (i := 39) rfl)) (hw _ (List.mem_of_getElem? (i := 8) rfl)) (hw _ (List.mem_of_getElem? (i := 41) rfl)) (by decide) rfl (rm := ({ frames := 1, cells := 0, slots := 0, locals := 12 } : Room)) (argsL := []) (S := []) (W := 0) (a := r) E73_r (rm_expect l Z a0 hw r b 2 5 ([y0, tk, y2, y3, y4, yd] : List Int32) T73.heap E73_r Fa73' Fe73 Ft73 A73_b nrb (by decide) (Nat.le_of_ble_eq_true rfl) (Nat.le_of_ble_eq_true rfl) hv2) (lenOf pd_6 rfl) rfl (Nat.le_of_eq rfl) (by decide) (by decide) (by decide) (by decide) (by rw [hml]; rfl) (hb hby at_159) (pc' := 162) rfl ?_
      rintro T74 _ L74 ⟨rfl, Kq74, Fa74, Fe74, Ft74⟩ X74
      have E74_r := Exa.keep E73_r Kq74.1
      have A74_b := Seq.keep A73_b Kq74.1 (ninS ne_b_r nin0)
      have K74 := Kp.call K73 Kq74 (allS (Or.inr sz_r) all0)
      have hk74 := Nat.le_trans hk73 Kq74.1.1
      have Fa74' : Fld Z T74.heap r "com/example/wary_offset/waryoffset/remoting/JsonText$Reader" "at" "I" (.int (Int32.ofNat 5)) := by rw [hJ2] at Fa74; exact Fa74
      show Goes p e below T74 (mkF m 162 #[.val (.int p0), .val (.int p1), .val (.int p2), .val (.int p3), .val (.ref b), .val (.int (4 : Int32)), .val (.int (1 : Int32)), .val (.int tk), .val (.ref r)] []) _
      refine G.aload X74 hx (pc' := 164) (hb hby at_162) rfl rfl rfl ?_
      refine G.iloadN X74 hx (pc' := 165) (hb hby at_164) rfl rfl ?_
      refine G.sipush X74 hx (pc' := 168) (hb hby at_165) (z := (255 : Int32)) rfl rfl ?_
      refine G.iand X74 hx (pc' := 169) (hb hby at_168) rfl ?_
      refine G.i2c X74 hx (pc' := 170) (hb hby at_169) rfl ?_
      have hJ3 : (sk ([y0, tk, y2, y3, y4, yd] : List Int32) 5 (5 - 5) 5) = 5 := rfl
      have hv3 : ¬ (nextv ([y0, tk, y2, y3, y4, yd] : List Int32) 5 (sk ([y0, tk, y2, y3, y4, yd] : List Int32) 5 (5 - 5) 5)) = ((p3 &&& (255 : Int32)).toUInt32.toUInt16.toUInt32.toInt32) := by rw [hJ3, nextv, if_neg (by decide)]; exact own_c0 (p3 &&& (255 : Int32))
      refine G.callV X74 hx hZ (y0 := (⟨"com/example/wary_offset/waryoffset/remoting/JsonText$Reader", "take", "(C)Z"⟩ : MethodName)) (y := (⟨"com/example/wary_offset/waryoffset/remoting/JsonText$Reader", "take", "(C)Z"⟩ : MethodName)) hown (hw _ (List.mem_of_getElem? (i := 46) rfl)) (hw _ (List.mem_of_getElem? (i := 47) rfl)) (notFace_of_selects (args := #[]) (mvT hZ (hw _ (List.mem_of_getElem? (i := 49) rfl)))) (hw _ (List.mem_of_getElem? (i := 49) rfl)) (hw _ (List.mem_of_getElem? (i := 48) rfl)) (hw _ (List.mem_of_getElem? (i := 8) rfl)) (hw _ (List.mem_of_getElem? (i := 50) rfl)) (by decide) rfl (rm := ({ frames := 1, cells := 0, slots := 0, locals := 12 } : Room)) (argsL := [(.int ((p3 &&& (255 : Int32)).toUInt32.toUInt16.toUInt32.toInt32))]) (S := []) (W := 0) (a := r) E74_r (rm_take l Z a0 hw r b ((p3 &&& (255 : Int32)).toUInt32.toUInt16.toUInt32.toInt32) 5 5 ([y0, tk, y2, y3, y4, yd] : List Int32) T74.heap E74_r Fa74' Fe74 Ft74 A74_b nrb (by decide) (Nat.le_of_ble_eq_true rfl) (Nat.le_of_ble_eq_true rfl)) (lenOf pd_7 rfl) rfl (Nat.le_of_eq rfl) (by decide) (by decide) (by decide) (by decide) (by rw [hml]; rfl) (hb hby at_170) (pc' := 173) rfl ?_
      rintro T75 _ L75 ⟨rfl, Kq75, Fa75, Fe75, Ft75⟩ X75
      have E75_r := Exa.keep E74_r Kq75.1
      have A75_b := Seq.keep A74_b Kq75.1 (ninS ne_b_r nin0)
      have K75 := Kp.call K74 Kq75 (allS (Or.inr sz_r) all0)
      have hk75 := Nat.le_trans hk74 Kq75.1.1
      show Goes p e below T75 (mkF m 173 #[.val (.int p0), .val (.int p1), .val (.int p2), .val (.int p3), .val (.ref b), .val (.int (4 : Int32)), .val (.int (1 : Int32)), .val (.int tk), .val (.ref r)] [(.int (if (nextv ([y0, tk, y2, y3, y4, yd] : List Int32) 5 (sk ([y0, tk, y2, y3, y4, yd] : List Int32) 5 (5 - 5) 5)) = ((p3 &&& (255 : Int32)).toUInt32.toUInt16.toUInt32.toInt32) then (1 : Int32) else (0 : Int32)))]) _
      rw [if_neg hv3]
      refine G.ifF X75 hx (pc' := 176) (hb hby at_173) (Jvm.Free.XT.i0_ne_f rfl) rfl ?_
      refine G.iconst X75 hx (pc' := 177) (hb hby at_176) (z := (1 : Int32)) rfl rfl ?_
      refine G.goto X75 hx (pc' := 181) (hb hby at_177) (by decide) (by decide) ?_
      refine Goes.retNW X75 hS71 hk75 hx hret (by simp) hlk (hb hby at_181) (by decide) (by decide) ⟨rfl, K75.fr⟩
set_option maxRecDepth 65536 in
set_option maxHeartbeats 40000000 in
theorem comes_1 {Post : Tables → Env → Array Value → State → Outcome → State → Prop} (hpost : ∀ tb e args s v u, (limb_1_1.after args s (.returned v) u = true ∧ limb_1_2.after args s (.returned v) u = true ∧ True) → ReturnedEndW s (.returned v) u (Jvm.fieldLocs frame_1_writes args s ++ Jvm.arrayLocs frame_1_arrays args s ++ Jvm.staticLocs frame_1_statics s) 16 1152 → Post tb e args s (.returned v) u) :
    ArmFor flags0 classFile x code maxLocals ret World_1 tables_1 room_1 Calls_1 rest_1 Pre_1 Post := by
  intro l hfl _ _ p e ha hc hk s m args below hf hA hF happ hP
  obtain ⟨hcalls, hrest, hpre⟩ := hP
  obtain ⟨-, -, -, hnamed, -, -, -, hat⟩ := (Spec.applies_iff hf).mp happ
  obtain ⟨hg, hn⟩ := and_e (Cond.before_iff.mp (show (Jvm.Cond.and given_1 narrow_1).before args s = true from hpre))
  obtain ⟨hg0, hg1⟩ := and_e hg
  obtain ⟨hb1, hg2⟩ := and_e hg1
  obtain ⟨hb2, hg3⟩ := and_e hg2
  obtain ⟨hb3, hg4⟩ := and_e hg3
  obtain ⟨w0, w1, w2, w3, rfl⟩ : ∃ w0 w1 w2 w3 : Value, args = #[w0, w1, w2, w3] := by
    have hs : args.size = 4 := by simpa [Cond.value, given_1] using hg0
    obtain ⟨L⟩ := args
    match L, hs with
    | [w0, w1, w2, w3], _ => exact ⟨w0, w1, w2, w3, rfl⟩
  have hw := fun d (hd : d ∈ tables_1) => atoms_spec (ws := Jvm.Cond.code x code maxLocals ret :: tables_1) hat d (List.mem_cons_of_mem _ hd)
  have hfit : Fit s := fun {y c} hc i hi => by
    obtain ⟨ha, rfl⟩ := Array.getElem?_eq_some_iff.mp hc
    have q := List.all_eq_true.mp ((Array.all_eq_true_iff_forall_mem.mp hF) _ (Array.getElem_mem ha)) i (List.mem_range.mpr hi)
    simpa [Array.getElem?_eq_getElem hi] using q
  obtain ⟨i0, ea0⟩ := is_v hb1
  obtain rfl : w0 = (.int i0) := Option.some.inj ea0
  obtain ⟨i1, ea1⟩ := is_v hb2
  obtain rfl : w1 = (.int i1) := Option.some.inj ea1
  obtain ⟨i2, ea2⟩ := is_v hb3
  obtain rfl : w2 = (.int i2) := Option.some.inj ea2
  obtain ⟨i3, ea3⟩ := is_v hg4
  obtain rfl : w3 = (.int i3) := Option.some.inj ea3
  obtain ⟨n, o, h1, h2, h3, _, L, rfl, ⟨rfl, N⟩, hq⟩ := rm0 l s _ hw i0 i1 i2 i3 tables_1 p e ha hc hk s m _ below hf ((Spec.applies_iff_loose hf).mp happ).1 ⟨rfl, rfl⟩ trivial
  refine ⟨n, _, h1, h2, h3, hpost _ _ _ _ _ _ ⟨Cond.after_iff.mpr rfl, Cond.after_iff.mpr (eq_i res_at (Term.int_eval (1)) rfl), trivial⟩ ⟨hq.1, hq.2.1, hq.2.2.1, (hq.2.2.2.sift fun y hy => Or.inr (N y hy)).mono (by decide) (by decide)⟩⟩
theorem main_1_1 : Claimed_1_1 := comes_1 fun _ _ _ _ _ _ h hF => ⟨h.1, hF⟩
theorem main_1_2 : Claimed_1_2 := comes_1 fun _ _ _ _ _ _ h hF => ⟨h.2.1, hF⟩

end Jvm.Pilot.@@N@@
namespace Jvm.Pilot.@@N@@
open Jvm Jvm.ClassFile Sem Op Lib Jvm.Free Jvm.Stand Jvm.Pilot.@@N@@.Jvm.D
/-! MADE BY PROGRAM (witnessworld.py) out of the Statement's table words and the real class files: 14 classes; the members and pool entries that the words name. The judged class is class 1, her method 2. -/
namespace start1
open Jvm.ClassFile
def u (s : String) : CpInfo := .utf8 (stringToUtf16 s)
/-- a pool by its gaps: so many unusable entries, then the entry; so many at the end -/
def gap : Nat → List CpInfo → List CpInfo
  | 0, r => r
  | n + 1, r => .unusable :: gap n r
def poolList (es : List (Nat × CpInfo)) (last : Nat) : List CpInfo := es.foldr (fun e r => gap e.1 (e.2 :: r)) (gap last [])
def pool (es : List (Nat × CpInfo)) (last : Nat) : Array CpInfo := ⟨poolList es last⟩
def fileOf (pool : Array CpInfo) (this : Nat) (attrs : Array Attribute := #[]) (ms : Array MethodInfo := #[]) (fl : Nat := 33) (sup : Nat := 0) (ifs : Array Nat := #[]) (fds : Array FieldInfo := #[]) : ClassFile where
  minorVersion := 0
  majorVersion := 65
  constantPool := pool
  accessFlags := fl
  thisClass := this
  superClass := sup
  interfaces := ifs
  fields := fds
  methods := ms
  attributes := attrs
def plain (name : String) (sup : Option ClassId) : Class where
  name := name
  kind := .ordinary
  loader := none
  accessFlags := 33
  super := sup
  interfaces := #[]
  cf := none
  fields := #[]
  methods := #[]
  instanceTypes := #[]
  staticTypes := #[]
  resolved := #[]
  callSites := []
  init := .initialized
  statics := none
  mirror := none

def pool0 : Array CpInfo := pool [(5, u "<init>"), (0, u "()V"), (1, .class_ 10), (1, u "java/lang/Object")] 113

def k0c0 : Code := { maxStack := 0, maxLocals := 1, code := object_method_1_code, exceptionTable := #[], attributes := #[] }
def k0m0 : Method := { name := "<init>", desc := "()V", sig := { parameters := [], returnType := none }, accessFlags := 1, code := some k0c0 }
/-- java/lang/Object -/
def k0 : Class := { plain "java/lang/Object" none with
  accessFlags := 33
  interfaces := #[]
  cf := some (fileOf pool0 8 #[] #[{ accessFlags := 1, nameIndex := 5, descriptorIndex := 6, attributes := #[] }] 33 0 #[] #[])
  fields := #[]
  methods := #[k0m0]
  instanceTypes := #[]
  staticTypes := #[]
  resolved := Array.replicate 124 none
  statics := none }

def pool1 : Array CpInfo := pool [(2, .class_ 4), (1, u "java/lang/Object"), (0, u "<init>"), (0, u "()V"), (0, .methodref 8 9), (0, .class_ 10), (0, .nameAndType 11 12), (0, u "com/example/wary_offset/waryoffset/remoting/ReaderExpectEndPinLaw"), (0, u "ws"), (0, u "(I)B"), (0, .integer 2147483647), (0, .class_ 15), (0, u "com/example/wary_offset/waryoffset/remoting/JsonText$Reader"), (0, .string 17), (0, u "x"), (0, .methodref 14 19), (0, .nameAndType 5 20), (0, u "([BIILjava/lang/String;)V"), (0, .methodref 14 22), (0, .nameAndType 23 24), (0, u "take"), (0, u "(C)Z"), (0, .methodref 14 26), (0, .nameAndType 27 6), (0, u "expectEnd"), (3, u "law"), (0, u "(IIII)Z")] 11

def k1m0 : Method := { name := "<init>", desc := "()V", sig := { parameters := [], returnType := none }, accessFlags := 2, code := none }
def k1c1 : Code := { maxStack := 2, maxLocals := 2, code := method_2_code, exceptionTable := #[], attributes := #[] }
def k1m1 : Method := { name := "ws", desc := "(I)B", sig := { parameters := [.int], returnType := some .byte }, accessFlags := 10, code := some k1c1 }
def k1c2 : Code := { maxStack := 6, maxLocals := 9, code := code, exceptionTable := #[], attributes := #[] }
def k1m2 : Method := { name := "law", desc := "(IIII)Z", sig := { parameters := [.int, .int, .int, .int], returnType := some .boolean }, accessFlags := 9, code := some k1c2 }
/-- com/example/wary_offset/waryoffset/remoting/ReaderExpectEndPinLaw -/
def k1 : Class := { plain "com/example/wary_offset/waryoffset/remoting/ReaderExpectEndPinLaw" (some 0) with
  accessFlags := 49
  interfaces := #[]
  cf := some (fileOf pool1 8 #[] #[{ accessFlags := 2, nameIndex := 5, descriptorIndex := 6, attributes := #[] }, { accessFlags := 10, nameIndex := 11, descriptorIndex := 12, attributes := #[] }, { accessFlags := 9, nameIndex := 31, descriptorIndex := 32, attributes := #[] }] 49 2 #[] #[])
  fields := #[]
  methods := #[k1m0, k1m1, k1m2]
  instanceTypes := #[]
  staticTypes := #[]
  resolved := Array.replicate 44 none
  statics := none }

def pool2 : Array CpInfo := pool [(1, .class_ 2), (0, u "com/example/wary_offset/waryoffset/remoting/JsonText"), (0, .methodref 4 5), (0, .class_ 6), (0, .nameAndType 7 8), (0, u "com/example/wary_offset/waryoffset/remoting/JsonText$Reader"), (0, u "<init>"), (0, u "([BIILjava/lang/String;Lcom/example/wary_offset/waryoffset/remoting/JsonText$Strings;)V"), (0, .methodref 10 11), (0, .class_ 12), (0, .nameAndType 7 13), (0, u "java/lang/Object"), (0, u "()V"), (0, .fieldref 4 15), (0, .nameAndType 16 17), (0, u "text"), (0, u "[B"), (0, .fieldref 4 19), (0, .nameAndType 20 21), (0, u "start"), (0, u "I"), (0, .fieldref 4 23), (0, .nameAndType 24 21), (0, u "end"), (0, .fieldref 4 26), (0, .nameAndType 27 28), (0, u "what"), (0, u "Ljava/lang/String;"), (0, .fieldref 4 30), (0, .nameAndType 31 32), (0, u "strings"), (0, u "Lcom/example/wary_offset/waryoffset/remoting/JsonText$Strings;"), (0, .fieldref 4 34), (0, .nameAndType 35 21), (0, u "at"), (2, u "take"), (0, u "(C)Z"), (8, .methodref 4 49), (0, .nameAndType 50 51), (0, u "next"), (0, u "()I"), (158, u "([BIILjava/lang/String;)V"), (7, u "expectEnd")] 23

def k2c0 : Code := { maxStack := 6, maxLocals := 5, code := prog_25_method_1_code, exceptionTable := #[], attributes := #[] }
def k2m0 : Method := { name := "<init>", desc := "([BIILjava/lang/String;)V", sig := { parameters := [(.array .byte), .int, .int, (.object "java/lang/String")], returnType := none }, accessFlags := 1, code := some k2c0 }
def k2c1 : Code := { maxStack := 3, maxLocals := 6, code := prog_25_method_2_code, exceptionTable := #[], attributes := #[] }
def k2m1 : Method := { name := "<init>", desc := "([BIILjava/lang/String;Lcom/example/wary_offset/waryoffset/remoting/JsonText$Strings;)V", sig := { parameters := [(.array .byte), .int, .int, (.object "java/lang/String"), (.object "com/example/wary_offset/waryoffset/remoting/JsonText$Strings")], returnType := none }, accessFlags := 0, code := some k2c1 }
def k2c2 : Code := { maxStack := 3, maxLocals := 3, code := prog_25_method_4_code, exceptionTable := #[], attributes := #[] }
def k2m2 : Method := { name := "take", desc := "(C)Z", sig := { parameters := [.char], returnType := some .boolean }, accessFlags := 1, code := some k2c2 }
def k2c3 : Code := { maxStack := 2, maxLocals := 1, code := prog_25_method_11_code, exceptionTable := #[], attributes := #[] }
def k2m3 : Method := { name := "expectEnd", desc := "()V", sig := { parameters := [], returnType := none }, accessFlags := 1, code := some k2c3 }
def k2c4 : Code := { maxStack := 3, maxLocals := 1, code := prog_25_method_22_code, exceptionTable := #[], attributes := #[] }
def k2m4 : Method := { name := "next", desc := "()I", sig := { parameters := [], returnType := some .int }, accessFlags := 2, code := some k2c4 }
/-- com/example/wary_offset/waryoffset/remoting/JsonText$Reader -/
def k2 : Class := { plain "com/example/wary_offset/waryoffset/remoting/JsonText$Reader" (some 0) with
  accessFlags := 49
  interfaces := #[]
  cf := some (fileOf pool2 4 #[.nestHost 1] #[{ accessFlags := 1, nameIndex := 7, descriptorIndex := 210, attributes := #[] }, { accessFlags := 0, nameIndex := 7, descriptorIndex := 8, attributes := #[] }, { accessFlags := 1, nameIndex := 38, descriptorIndex := 39, attributes := #[] }, { accessFlags := 1, nameIndex := 218, descriptorIndex := 13, attributes := #[] }, { accessFlags := 2, nameIndex := 50, descriptorIndex := 51, attributes := #[] }] 49 10 #[] #[{ accessFlags := 18, nameIndex := 16, descriptorIndex := 17, attributes := #[] }, { accessFlags := 18, nameIndex := 20, descriptorIndex := 21, attributes := #[] }, { accessFlags := 18, nameIndex := 24, descriptorIndex := 21, attributes := #[] }, { accessFlags := 18, nameIndex := 27, descriptorIndex := 28, attributes := #[] }, { accessFlags := 18, nameIndex := 31, descriptorIndex := 32, attributes := #[] }, { accessFlags := 2, nameIndex := 35, descriptorIndex := 21, attributes := #[] }])
  fields := #[{ name := "text", type := (.array .byte), accessFlags := 18, slot := 0, constantValue := 0 }, { name := "start", type := .int, accessFlags := 18, slot := 1, constantValue := 0 }, { name := "end", type := .int, accessFlags := 18, slot := 2, constantValue := 0 }, { name := "what", type := (.object "java/lang/String"), accessFlags := 18, slot := 3, constantValue := 0 }, { name := "strings", type := (.object "com/example/wary_offset/waryoffset/remoting/JsonText$Strings"), accessFlags := 18, slot := 4, constantValue := 0 }, { name := "at", type := .int, accessFlags := 2, slot := 5, constantValue := 0 }]
  methods := #[k2m0, k2m1, k2m2, k2m3, k2m4]
  instanceTypes := #[(.array .byte), .int, .int, (.object "java/lang/String"), (.object "com/example/wary_offset/waryoffset/remoting/JsonText$Strings"), .int]
  staticTypes := #[]
  resolved := Array.replicate 242 none
  statics := none }

def pool3 : Array CpInfo := pool [(1, .class_ 2), (0, u "java/io/Serializable"), (0, .class_ 4), (0, u "java/lang/Object")] 2

/-- java/io/Serializable -/
def k3 : Class := { plain "java/io/Serializable" (some 0) with
  accessFlags := 1537
  interfaces := #[]
  cf := some (fileOf pool3 1 #[] #[] 1537 3 #[] #[])
  fields := #[]
  methods := #[]
  instanceTypes := #[]
  staticTypes := #[]
  resolved := Array.replicate 7 none
  statics := none }

def pool4 : Array CpInfo := pool [(1, .class_ 2), (0, u "java/lang/Comparable"), (0, .class_ 4), (0, u "java/lang/Object")] 7

/-- java/lang/Comparable -/
def k4 : Class := { plain "java/lang/Comparable" (some 0) with
  accessFlags := 1537
  interfaces := #[]
  cf := some (fileOf pool4 1 #[] #[] 1537 3 #[] #[])
  fields := #[]
  methods := #[]
  instanceTypes := #[]
  staticTypes := #[]
  resolved := Array.replicate 12 none
  statics := none }

def pool5 : Array CpInfo := pool [(2, .class_ 4), (1, u "java/lang/CharSequence"), (42, .class_ 48), (0, u "java/lang/CharSequence$1CodePointIterator"), (10, .class_ 60), (0, u "java/lang/CharSequence$1CharIterator"), (5, .class_ 67), (0, u "java/lang/Object")] 63

/-- java/lang/CharSequence -/
def k5 : Class := { plain "java/lang/CharSequence" (some 0) with
  accessFlags := 1537
  interfaces := #[]
  cf := some (fileOf pool5 2 #[.nestMembers #[47, 59]] #[] 1537 66 #[] #[])
  fields := #[]
  methods := #[]
  instanceTypes := #[]
  staticTypes := #[]
  resolved := Array.replicate 131 none
  statics := none }

def pool6 : Array CpInfo := pool [(1, .class_ 2), (0, u "java/lang/constant/Constable"), (0, .class_ 4), (0, u "java/lang/Object")] 6

/-- java/lang/constant/Constable -/
def k6 : Class := { plain "java/lang/constant/Constable" (some 0) with
  accessFlags := 1537
  interfaces := #[]
  cf := some (fileOf pool6 1 #[] #[] 1537 3 #[] #[])
  fields := #[]
  methods := #[]
  instanceTypes := #[]
  staticTypes := #[]
  resolved := Array.replicate 11 none
  statics := none }

def pool7 : Array CpInfo := pool [(1, .class_ 2), (0, u "java/lang/constant/ConstantDesc"), (0, .class_ 4), (0, u "java/lang/Object")] 32

/-- java/lang/constant/ConstantDesc -/
def k7 : Class := { plain "java/lang/constant/ConstantDesc" (some 0) with
  accessFlags := 1537
  interfaces := #[]
  cf := some (fileOf pool7 1 #[] #[] 1537 3 #[] #[])
  fields := #[]
  methods := #[]
  instanceTypes := #[]
  staticTypes := #[]
  resolved := Array.replicate 37 none
  statics := none }

def pool8 : Array CpInfo := pool [(2, .class_ 4), (1, u "java/lang/Object"), (0, u "<init>"), (0, u "()V"), (3, .class_ 12), (1, u "java/lang/String"), (0, u "value"), (0, u "[B"), (2, u "coder"), (0, u "B"), (2, u "hash"), (0, u "I"), (2, u "hashIsZero"), (0, u "Z"), (13, u "COMPACT_STRINGS"), (534, .class_ 576), (0, u "java/lang/CharSequence"), (22, u "CASE_INSENSITIVE_ORDER"), (0, u "Ljava/util/Comparator;"), (500, u "serialPersistentFields"), (0, u "[Ljava/io/ObjectStreamField;"), (0, .class_ 1104), (0, u "java/lang/String$CaseInsensitiveComparator"), (1, .class_ 1107), (0, u "java/io/Serializable"), (0, .class_ 1109), (0, u "java/lang/Comparable"), (0, .class_ 1111), (0, u "java/lang/constant/Constable"), (0, .class_ 1113), (0, u "java/lang/constant/ConstantDesc"), (2, u "serialVersionUID"), (0, u "J"), (3, u "REPL"), (0, u "C"), (2, u "LATIN1"), (1, u "UTF16")] 323

def k8m0 : Method := { name := "<init>", desc := "()V", sig := { parameters := [], returnType := none }, accessFlags := 1, code := none }
/-- java/lang/String -/
def k8 : Class := { plain "java/lang/String" (some 0) with
  accessFlags := 49
  interfaces := #[3, 4, 5, 6, 7]
  cf := some (fileOf pool8 10 #[.nestMembers #[1103]] #[{ accessFlags := 1, nameIndex := 5, descriptorIndex := 6, attributes := #[] }] 49 2 #[1106, 1108, 575, 1110, 1112] #[{ accessFlags := 18, nameIndex := 13, descriptorIndex := 14, attributes := #[] }, { accessFlags := 18, nameIndex := 17, descriptorIndex := 18, attributes := #[] }, { accessFlags := 2, nameIndex := 21, descriptorIndex := 22, attributes := #[] }, { accessFlags := 2, nameIndex := 25, descriptorIndex := 26, attributes := #[] }, { accessFlags := 26, nameIndex := 1116, descriptorIndex := 1117, attributes := #[] }, { accessFlags := 24, nameIndex := 40, descriptorIndex := 26, attributes := #[] }, { accessFlags := 26, nameIndex := 1101, descriptorIndex := 1102, attributes := #[] }, { accessFlags := 26, nameIndex := 1121, descriptorIndex := 1122, attributes := #[] }, { accessFlags := 25, nameIndex := 599, descriptorIndex := 600, attributes := #[] }, { accessFlags := 24, nameIndex := 1125, descriptorIndex := 18, attributes := #[] }, { accessFlags := 24, nameIndex := 1127, descriptorIndex := 18, attributes := #[] }])
  fields := #[{ name := "value", type := (.array .byte), accessFlags := 18, slot := 0, constantValue := 0 }, { name := "coder", type := .byte, accessFlags := 18, slot := 1, constantValue := 0 }, { name := "hash", type := .int, accessFlags := 2, slot := 2, constantValue := 0 }, { name := "hashIsZero", type := .boolean, accessFlags := 2, slot := 3, constantValue := 0 }, { name := "serialVersionUID", type := .long, accessFlags := 26, slot := 0, constantValue := 0 }, { name := "COMPACT_STRINGS", type := .boolean, accessFlags := 24, slot := 1, constantValue := 0 }, { name := "serialPersistentFields", type := (.array (.object "java/io/ObjectStreamField")), accessFlags := 26, slot := 2, constantValue := 0 }, { name := "REPL", type := .char, accessFlags := 26, slot := 3, constantValue := 0 }, { name := "CASE_INSENSITIVE_ORDER", type := (.object "java/util/Comparator"), accessFlags := 25, slot := 4, constantValue := 0 }, { name := "LATIN1", type := .byte, accessFlags := 24, slot := 5, constantValue := 0 }, { name := "UTF16", type := .byte, accessFlags := 24, slot := 6, constantValue := 0 }]
  methods := #[k8m0]
  instanceTypes := #[(.array .byte), .byte, .int, .boolean]
  staticTypes := #[.long, .boolean, (.array (.object "java/io/ObjectStreamField")), .char, (.object "java/util/Comparator"), .byte, .byte]
  resolved := Array.replicate 1451 none
  statics := none }

def pool9 : Array CpInfo := pool [(1, u "java/lang/Cloneable"), (0, .class_ 1), (0, u "java/lang/Object"), (0, .class_ 3)] 3

/-- java/lang/Cloneable -/
def k9 : Class := { plain "java/lang/Cloneable" (some 0) with
  accessFlags := 1537
  interfaces := #[]
  cf := some (fileOf pool9 2 #[] #[] 1537 4 #[] #[])
  fields := #[]
  methods := #[]
  instanceTypes := #[]
  staticTypes := #[]
  resolved := Array.replicate 8 none
  statics := none }

/-- the primitive byte -/
def k10 : Class := { plain "byte" none with kind := .primitive 'B', accessFlags := 0x411 }
/-- [B -/
def k11 : Class := { plain "[B" (some 0) with kind := .array 10 .byte, interfaces := #[9, 3], accessFlags := 1041 }

/-- the primitive int -/
def k12 : Class := { plain "int" none with kind := .primitive 'I', accessFlags := 0x411 }
/-- [I -/
def k13 : Class := { plain "[I" (some 0) with kind := .array 12 .int, interfaces := #[9, 3], accessFlags := 1041 }

def heap : Heap := #[]
def classes : Array Class := #[k0, k1, k2, k3, k4, k5, k6, k7, k8, k9, k10, k11, k12, k13]
def interned : List (Array UInt16 × Addr) := []
def slotsUsed : Nat := 0
def theMethod : MethodId := ⟨1, 2⟩
def args0 : Array Value := #[.int 1, .int 2, .int 3, .int 4]
def aboutOver (below : List Frame) : State where
  vm := { classes := classes, interned := interned.toArray }
  heap := heap
  slotsUsed := slotsUsed
  threads := #[{ frames := .invoking theMethod args0 :: below }]
def below0 : List Frame := [.native { method := ⟨0, 0⟩, args := #[] }]
def about1 : State := aboutOver below0
def p0 : Program := .bare "" "" ""
def e0 : Env := launch0.env 0 0 0
theorem w_frames : about1.frames = Frame.invoking theMethod args0 :: below0 := rfl
set_option maxRecDepth 65536 in
theorem w_args : argsFit about1.vm theMethod args0 = true := by decide +kernel
set_option maxRecDepth 65536 in
theorem w_heap : heapFits about1 = true := by decide +kernel
set_option maxRecDepth 65536 in
theorem w_runnable : about1.curStatus? = some .runnable := by decide +kernel
set_option maxRecDepth 65536 in
theorem w_alone : about1.alone = true := by decide +kernel
set_option maxRecDepth 65536 in
theorem w_named : about1.methodNamed? x = some theMethod := by decide +kernel
set_option maxRecDepth 65536 in
theorem w_hears : about1.hears theMethod below0 = true := by decide +kernel
set_option maxRecDepth 65536 in
theorem w_ripe : about1.ripe theMethod args0 below0 = true := by decide +kernel
theorem w_running : about1.status = .running := rfl
set_option maxRecDepth 65536 in
theorem w_room : about1.hasRoom e0.platform room_1 = true :=
  launch0.hasRoom_least _ room_1 (by decide +kernel) (by decide +kernel) (by decide +kernel) (by decide +kernel) (by decide +kernel) (by decide +kernel)
theorem allAtoms_all (ts : List Jvm.Cond) (a : Array Jvm.Value) (st : Jvm.State) : (allAtoms ts).before a st = ts.all (fun c => c.before a st) := by
  induction ts with
  | nil => rfl
  | cons c t ih =>
    show (Jvm.Cond.and c (allAtoms t)).before a st = _
    rw [Jvm.Cond.before_and, ih, List.all_cons]
def words1 : List Jvm.Cond := Jvm.Cond.code x code maxLocals ret :: tables_1
/-- a 'code' word, met by the world's own term for the bytes: nothing is compared byte by byte -/
theorem code_word {y : MethodName} {bytes : ByteArray} {mx : Nat} {rt : Option FieldType} {a : Array Value} {s : State} {m : MethodId} {meth : Method} {c : Code} (h1 : s.methodNamed? y = some m) (h2 : s.vm.method? m = some meth) (h3 : meth.code = some c) (h4 : c.code = bytes)
    (h5 : (c.maxLocals == mx && c.exceptionTable.isEmpty && decide (c.maxStack ≤ mostOperands) && decide (meth.sig.returnType = rt) && !meth.locks && decide (parseMethodDescriptor y.desc = some meth.sig)) = true) : (Jvm.Cond.code y bytes mx rt).before a s = true := by
  simp only [Bool.and_eq_true, beq_iff_eq, Bool.not_eq_true', decide_eq_true_eq] at h5
  obtain ⟨⟨⟨⟨⟨g1, g2⟩, g3⟩, g4⟩, g5⟩, g6⟩ := h5
  simp [Cond.before, Cond.holds, Cond.value, h1, h2, h3, h4, g1, g2, g3, g4, g5, g6]
def isCode : Jvm.Cond → Bool
  | .code _ _ _ _ => true
  | _ => false
theorem all_split {L : List Jvm.Cond} {P : Jvm.Cond → Bool} (h1 : L.all (fun c => isCode c || P c) = true) (h2 : ∀ c ∈ L.filter isCode, P c = true) : L.all P = true := by
  refine List.all_eq_true.mpr fun c hc => ?_
  have h := List.all_eq_true.mp h1 c hc
  rcases Bool.eq_false_or_eq_true (isCode c) with hi | hi
  · exact h2 c (List.mem_filter.mpr ⟨hc, hi⟩)
  · simpa [hi] using h
set_option maxRecDepth 65536 in
theorem w_c0 : (Jvm.Cond.code x code maxLocals ret).before args0 about1 = true := code_word (m := ⟨1, 2⟩) (meth := k1m2) (c := k1c2) (by decide +kernel) rfl rfl rfl (by decide +kernel)
set_option maxRecDepth 65536 in
theorem w_c1 : (Jvm.Cond.code ({ cls := "com/example/wary_offset/waryoffset/remoting/ReaderExpectEndPinLaw", name := "ws", desc := "(I)B" } : Jvm.MethodName) method_2_code (2 : Nat) (Option.some Jvm.ClassFile.FieldType.byte)).before args0 about1 = true := code_word (m := ⟨1, 1⟩) (meth := k1m1) (c := k1c1) (by decide +kernel) rfl rfl rfl (by decide +kernel)
set_option maxRecDepth 65536 in
theorem w_c2 : (Jvm.Cond.code ({ cls := "com/example/wary_offset/waryoffset/remoting/JsonText$Reader", name := "<init>", desc := "([BIILjava/lang/String;)V" } : Jvm.MethodName) prog_25_method_1_code (5 : Nat) (Option.none : Option Jvm.ClassFile.FieldType)).before args0 about1 = true := code_word (m := ⟨2, 0⟩) (meth := k2m0) (c := k2c0) (by decide +kernel) rfl rfl rfl (by decide +kernel)
set_option maxRecDepth 65536 in
theorem w_c3 : (Jvm.Cond.code ({ cls := "com/example/wary_offset/waryoffset/remoting/JsonText$Reader", name := "<init>", desc := "([BIILjava/lang/String;Lcom/example/wary_offset/waryoffset/remoting/JsonText$Strings;)V" } : Jvm.MethodName) prog_25_method_2_code (6 : Nat) (Option.none : Option Jvm.ClassFile.FieldType)).before args0 about1 = true := code_word (m := ⟨2, 1⟩) (meth := k2m1) (c := k2c1) (by decide +kernel) rfl rfl rfl (by decide +kernel)
set_option maxRecDepth 65536 in
theorem w_c4 : (Jvm.Cond.code ({ cls := "java/lang/Object", name := "<init>", desc := "()V" } : Jvm.MethodName) object_method_1_code (1 : Nat) (Option.none : Option Jvm.ClassFile.FieldType)).before args0 about1 = true := code_word (m := ⟨0, 0⟩) (meth := k0m0) (c := k0c0) (by decide +kernel) rfl rfl rfl (by decide +kernel)
set_option maxRecDepth 65536 in
theorem w_c5 : (Jvm.Cond.code ({ cls := "com/example/wary_offset/waryoffset/remoting/JsonText$Reader", name := "expectEnd", desc := "()V" } : Jvm.MethodName) prog_25_method_11_code (1 : Nat) (Option.none : Option Jvm.ClassFile.FieldType)).before args0 about1 = true := code_word (m := ⟨2, 3⟩) (meth := k2m3) (c := k2c3) (by decide +kernel) rfl rfl rfl (by decide +kernel)
set_option maxRecDepth 65536 in
theorem w_c6 : (Jvm.Cond.code ({ cls := "com/example/wary_offset/waryoffset/remoting/JsonText$Reader", name := "next", desc := "()I" } : Jvm.MethodName) prog_25_method_22_code (1 : Nat) (Option.some Jvm.ClassFile.FieldType.int)).before args0 about1 = true := code_word (m := ⟨2, 4⟩) (meth := k2m4) (c := k2c4) (by decide +kernel) rfl rfl rfl (by decide +kernel)
set_option maxRecDepth 65536 in
theorem w_c7 : (Jvm.Cond.code ({ cls := "com/example/wary_offset/waryoffset/remoting/JsonText$Reader", name := "take", desc := "(C)Z" } : Jvm.MethodName) prog_25_method_4_code (3 : Nat) (Option.some Jvm.ClassFile.FieldType.boolean)).before args0 about1 = true := code_word (m := ⟨2, 2⟩) (meth := k2m2) (c := k2c2) (by decide +kernel) rfl rfl rfl (by decide +kernel)
def codes1 : List Jvm.Cond := [Jvm.Cond.code x code maxLocals ret, Jvm.Cond.code ({ cls := "com/example/wary_offset/waryoffset/remoting/ReaderExpectEndPinLaw", name := "ws", desc := "(I)B" } : Jvm.MethodName) method_2_code (2 : Nat) (Option.some Jvm.ClassFile.FieldType.byte), Jvm.Cond.code ({ cls := "com/example/wary_offset/waryoffset/remoting/JsonText$Reader", name := "<init>", desc := "([BIILjava/lang/String;)V" } : Jvm.MethodName) prog_25_method_1_code (5 : Nat) (Option.none : Option Jvm.ClassFile.FieldType), Jvm.Cond.code ({ cls := "com/example/wary_offset/waryoffset/remoting/JsonText$Reader", name := "<init>", desc := "([BIILjava/lang/String;Lcom/example/wary_offset/waryoffset/remoting/JsonText$Strings;)V" } : Jvm.MethodName) prog_25_method_2_code (6 : Nat) (Option.none : Option Jvm.ClassFile.FieldType), Jvm.Cond.code ({ cls := "java/lang/Object", name := "<init>", desc := "()V" } : Jvm.MethodName) object_method_1_code (1 : Nat) (Option.none : Option Jvm.ClassFile.FieldType), Jvm.Cond.code ({ cls := "com/example/wary_offset/waryoffset/remoting/JsonText$Reader", name := "expectEnd", desc := "()V" } : Jvm.MethodName) prog_25_method_11_code (1 : Nat) (Option.none : Option Jvm.ClassFile.FieldType), Jvm.Cond.code ({ cls := "com/example/wary_offset/waryoffset/remoting/JsonText$Reader", name := "next", desc := "()I" } : Jvm.MethodName) prog_25_method_22_code (1 : Nat) (Option.some Jvm.ClassFile.FieldType.int), Jvm.Cond.code ({ cls := "com/example/wary_offset/waryoffset/remoting/JsonText$Reader", name := "take", desc := "(C)Z" } : Jvm.MethodName) prog_25_method_4_code (3 : Nat) (Option.some Jvm.ClassFile.FieldType.boolean)]
set_option maxRecDepth 65536 in
theorem codes_eq : words1.filter isCode = codes1 := rfl
theorem w_codes : ∀ c ∈ words1.filter isCode, c.before args0 about1 = true := by
  rw [codes_eq]
  intro c hc
  simp only [codes1, List.mem_cons, List.not_mem_nil, or_false] at hc
  rcases hc with rfl | rfl | rfl | rfl | rfl | rfl | rfl | rfl
  · exact w_c0
  · exact w_c1
  · exact w_c2
  · exact w_c3
  · exact w_c4
  · exact w_c5
  · exact w_c6
  · exact w_c7
set_option maxRecDepth 65536 in
theorem w_t1 : (words1.take 24).all (fun c => isCode c || c.before args0 about1) = true := by decide +kernel
set_option maxRecDepth 65536 in
theorem w_t2 : ((words1.drop 24).take 24).all (fun c => isCode c || c.before args0 about1) = true := by decide +kernel
set_option maxRecDepth 65536 in
theorem w_t3 : ((words1.drop 24).drop 24).all (fun c => isCode c || c.before args0 about1) = true := by decide +kernel
theorem w_tables : (allAtoms (Jvm.Cond.code x code maxLocals ret :: tables_1)).before args0 about1 = true := by
  rw [allAtoms_all]
  show words1.all (fun c => c.before args0 about1) = true
  refine all_split ?_ w_codes
  rw [← List.take_append_drop 24 words1, List.all_append, w_t1, ← List.take_append_drop 24 (words1.drop 24), List.all_append, w_t2, w_t3]
  rfl
set_option maxRecDepth 65536 in
theorem w_case : (Jvm.Cond.and given_1 narrow_1).before args0 about1 = true := by decide +kernel
theorem w_applies : (headSpec (Jvm.Cond.code x code maxLocals ret :: tables_1) room_1).applies x e0.platform about1 = true :=
  (Spec.applies_iff w_frames).mpr ⟨w_running, w_runnable, w_alone, w_named, w_hears, w_ripe, w_room, w_tables⟩
theorem atStart : AtStart classFile x code maxLocals ret World_1 tables_1 room_1 Calls_1 rest_1 Pre_1 launch0 p0 e0 about1 theMethod args0 below0 :=
  ⟨lists_1, trivial, launch0.admits_env _ _ _, launch0.least_env, fairChoices_fair.cas, fairChoices_fair.clock, w_frames, w_args, w_heap, w_applies, trivial, trivial, w_case⟩
end start1
theorem witness_1 : WitnessClaimed_1 := ⟨start1.p0, start1.e0, start1.about1, start1.theMethod, start1.args0, start1.below0, start1.atStart⟩
end Jvm.Pilot.@@N@@
