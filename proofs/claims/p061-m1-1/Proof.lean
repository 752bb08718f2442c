import JvmDerived
import JvmDerived.Pilot.@@N@@Statement
import JvmDerived.Pilot.@@N@@Code
set_option linter.unusedVariables false
set_option linter.unusedSimpArgs false
namespace Jvm.OwnKit
open Sem ClassFile Op Lib Jvm.Stand Jvm.Free Jvm.LawKit Jvm.RoadKit
/-- from the frame f over the state T the run ends within P -/
def Goes (p : Program) (e : Env) (below : List Frame) (T : State) (f : JFrame) (P : State → Outcome → Prop) : Prop := ∃ U o, Steps p.tables e below (T.setTop f) U ∧ U.status = .running ∧ Ended U below o ∧ P U o
/-- only places of ws or of new cells -/
def Only (h0 : Heap) (ws : List Addr) (L : List Loc) : Prop := ∀ y ∈ L, y.base ∈ ws ∨ h0.size ≤ y.base
def Kp (h0 h : Heap) (ws : List Addr) (L : List Loc) : Prop := Keep h0 h ws ∧ Only h0 ws L
/-- Q, kept from being reduced -/
def Ap (Q : Option Value → Heap → List Loc → Prop) (v : Option Value) (h : Heap) (L : List Loc) : Prop := Q v h L
/-- a contract: called with 'as' over the heap h0, the method returns within Q -/
def Con (l : Launch) (y : MethodName) (bytes : ByteArray) (maxL : Nat) (ret : Option FieldType) (rm : Room) (Z : State) (as : Array Value) (h0 : Heap) (Q : Option Value → Heap → List Loc → Prop) : Prop :=
  ∀ ws, MetFree l y (head1 (Cond.code y bytes maxL ret :: ws) rm) (fun a U => a = as ∧ Z.Warmed39 U.vm ∧ U.heap = h0) (fun _ _ _ _ _ => True) (fun _ U o U' => ∃ v L, o = .returned v ∧ Ap Q v U'.heap L ∧ FrameEnd U o U' L rm.cells rm.slots)
section G
variable {p : Program} {l : Launch} {e : Env} {R : Room} {s : State} {m : MethodId} {args : Array Value} {below : List Frame} {meth : Method} {c : Code} {T T' : State} {locs : List Loc} {cells slots : Nat} {P : State → Outcome → Prop} {f f' : JFrame} {Z : State} {a0 : Array Value} {h h' h0 : Heap} {a b : Addr} {ws ws' : List Addr} {Lc Lc' : List Loc} {sl : Nat} {v : Value}
theorem Goes.via (q : ∀ t, Steps p.tables e below (T'.setTop f') t → Steps p.tables e below (T.setTop f) t) (k : Goes p e below T' f' P) : Goes p e below T f P := by
  obtain ⟨U, o, h1, h2⟩ := k
  exact ⟨U, o, q U h1, h2⟩
theorem Goes.thru (q : Steps p.tables e below (T.setTop f) (T'.setTop f')) (k : Goes p e below T' f' P) : Goes p e below T f P := by
  obtain ⟨U, o, h1, h2⟩ := k
  exact ⟨U, o, q.trans h1, h2⟩
theorem Goes.ite {c : Prop} [Decidable c] {F : Int32 → JFrame} {a b : Int32} (h1 : c → Goes p e below T (F a) P → Goes p e below T f P) (h2 : ¬ c → Goes p e below T (F b) P → Goes p e below T f P) (k : Goes p e below T (F (if c then a else b)) P) : Goes p e below T f P := by
  by_cases hc : c
  · rw [if_pos hc] at k; exact h1 hc k
  · rw [if_neg hc] at k; exact h2 hc k
theorem Goes.cast (q : f = f') (k : Goes p e below T f' P) : Goes p e below T f P := q ▸ k
theorem Kp.refl (h : Heap) (ws : List Addr) : Kp h h ws [] := ⟨Keep.refl h ws, fun _ q => nomatch q⟩
theorem Kp.ext (K : Kp h0 h ws Lc) (E : Ext h h') : Kp h0 h' ws Lc := ⟨K.1.ext E, K.2⟩
theorem Kp.wr (K : Kp h0 h ws Lc) (W : Wr h h' a sl v) (q : a ∈ ws ∨ h0.size ≤ a) : Kp h0 h' ws (Lc ++ [⟨a, sl⟩]) :=
  ⟨K.1.wr W q, fun y hy => (List.mem_append.mp hy).elim (K.2 y) fun z => by cases List.mem_singleton.mp z; exact q⟩
theorem Kp.call (K : Kp h0 h ws Lc) (K' : Kp h h' ws' Lc') (q : ∀ x ∈ ws', x ∈ ws ∨ h0.size ≤ x) : Kp h0 h' ws (Lc ++ Lc') :=
  ⟨K.1.trans K'.1 q, fun y hy => (List.mem_append.mp hy).elim (K.2 y) fun z => (K'.2 y z).elim (q _) fun u => Or.inr (Nat.le_trans K.1.1 u)⟩
theorem Kp.size (K : Kp h0 h ws Lc) : h0.size ≤ h.size := K.1.1
theorem Kp.fr (K : Kp h0 h [] Lc) : Fr h0.size Lc := fun y hy => (K.2 y hy).elim (fun z => nomatch z) id
theorem Con.of_body {l : Launch} {y : MethodName} {bytes : ByteArray} {maxL : Nat} {ret : Option FieldType} {rm : Room} {Z : State} {as : Array Value} {h0 : Heap} {Q : Option Value → Heap → List Loc → Prop} (hn : plainFor y = true)
    (body : ∀ (p : Program) (e : Env) (s : State) (m : MethodId) (below : List Frame) (meth : Method) (c : Code) (T : State), Stand p l e rm s m as below meth c T [] 0 0 → p.tables.exec = Jvm.exec → c.code = bytes → c.maxLocals = maxL → Z.Warmed39 s.vm → s.vm.findClass y.cls = some m.cls → meth.name = y.name → meth.sig.returnType = ret → meth.locks = false → T.heap = h0 →
      Goes p e below T (entryFrame m as maxL) (fun U o => ∃ v L, o = .returned v ∧ Ap Q v U.heap L ∧ FrameEnd s o U L rm.cells rm.slots)) : Con l y bytes maxL ret rm Z as h0 Q := by
  intro ws
  refine MetFree.of_bodySF hn hisR ?_
  intro p e s m args below meth c s₁ Bd hml hP _
  obtain ⟨rfl, hZ, hh⟩ := hP
  exact body p e s m below meth c s₁ (Stand.of_body Bd) Bd.exec Bd.bytes hml hZ (findClass_of_methodNamed Bd.named) (name_of_methodNamed Bd.named Bd.method).1 Bd.returns (BodyLoose.notSynchronized Bd) (by rw [← hh, Bd.state]; rfl)
theorem Con.back {y : MethodName} {bytes : ByteArray} {maxL : Nat} {ret : Option FieldType} {rm : Room} {len W : Nat} {as' : Array Value} {Q : Option Value → Heap → List Loc → Prop} (hM : Con l y bytes maxL ret rm Z as' h Q)
    (hZ : Z.Warmed39 s.vm) (wc : (Cond.code y bytes maxL ret).before a0 Z = true) (wz : (Cond.initialized y.cls).before a0 Z = true) (hf : rm.frames + 1 ≤ R.frames) (hl : W + (maxL + 11) + rm.locals ≤ R.locals) :
    Back l R p e below s args y len W (fun A a => a = as' ∧ A.U.heap = h ∧ A.cells + rm.cells ≤ R.cells ∧ A.slots + rm.slots ≤ R.slots)
      (fun A _ v B => ∃ L, Q v B.U.heap L ∧ B.locs = A.locs ++ L ∧ B.cells = A.cells + rm.cells ∧ B.slots = A.slots + rm.slots) := backOf (hM []) hZ wc wz hf hl
/-- the end of a walk, for any of the returning instructions -/
theorem Goes.end (X : Stand p l e R s m args below meth c T locs cells slots) (hlk : meth.locks = false) {v : Option Value} (hv : meth.sig.returnType = none → v = none)
    (hs : ∀ fs, (∀ (f : JFrame) (acts : List Action), f.method = m → f.locked = none → f.entered = [] → (doReturn e (T.setTop f) acts v).1 = T.setFrames fs) → Steps p.tables e below (T.setTop f) (T.setFrames fs))
    {Q : Option Value → Heap → List Loc → Prop} {k n : Nat} (hk : cells ≤ k) (hn : slots ≤ n) (q : Q v T.heap locs) : Goes p e below T f (fun U o => ∃ v L, o = .returned v ∧ Ap Q v U.heap L ∧ FrameEnd s o U L k n) := by
  obtain ⟨fs, hr, hrun, hended, hW, hsame⟩ := X.leave hv hlk
  exact ⟨_, _, hs fs hr, hrun, hended, v, locs, rfl, q, ⟨_, rfl⟩, hW, hsame.mono hk hn⟩
theorem retI' (X : Stand p l e R s m args below meth c T locs cells slots) (hx : p.tables.exec = Jvm.exec) {pc : Nat} {Ls : Array Slot} {z : Int32} {rest : List Value} (hret : meth.sig.returnType = some .int) (hd : decode c.code pc = .ok (.ireturn, 1)) {fs : List Frame}
    (hl : ∀ (f : JFrame) (acts : List Action), f.method = m → f.locked = none → f.entered = [] → (doReturn e (T.setTop f) acts (some (.int z))).1 = T.setFrames fs) : Steps p.tables e below (T.setTop (mkF m pc Ls (.int z :: rest))) (T.setFrames fs) :=
  retOut X hx hret rfl (Or.inl ⟨rfl, Or.inl rfl, z, rfl⟩) hd hl
variable {pc pc' : Nat} {L L' : Array Slot} {S : List Value}
variable {Q : Option Value → Heap → List Loc → Prop} {k n : Nat}
theorem Goes.retI (X : Stand p l e R s m args below meth c T locs cells slots) (hx : p.tables.exec = Jvm.exec) (hret : meth.sig.returnType = some .int) (hlk : meth.locks = false) {z : Int32} (hd : decode c.code pc = .ok (.ireturn, 1)) (hk : cells ≤ k) (hn : slots ≤ n) (q : Q (some (.int z)) T.heap locs) :
    Goes p e below T (mkF m pc L (.int z :: S)) (fun U o => ∃ v L, o = .returned v ∧ Ap Q v U.heap L ∧ FrameEnd s o U L k n) :=
  Goes.end X hlk (fun h => by rw [hret] at h; cases h) (fun _ hr => retOut X hx hret rfl (Or.inl ⟨rfl, Or.inl rfl, z, rfl⟩) hd hr) hk hn q
theorem Goes.retN (X : Stand p l e R s m args below meth c T locs cells slots) (hx : p.tables.exec = Jvm.exec) {t : FieldType} (hret : meth.sig.returnType = some t) (ht : t = .boolean ∨ t = .byte ∨ t = .char ∨ t = .short) (hlk : meth.locks = false) {z : Int32} (hd : decode c.code pc = .ok (.ireturn, 1)) (hk : cells ≤ k) (hn : slots ≤ n) (q : Q (some (.int (nar t z))) T.heap locs) :
    Goes p e below T (mkF m pc L (.int z :: S)) (fun U o => ∃ v L, o = .returned v ∧ Ap Q v U.heap L ∧ FrameEnd s o U L k n) :=
  Goes.end X hlk (fun h => by rw [hret] at h; cases h) (fun _ hr => Jvm.RoadKit.retN X hx hret ht hd hr) hk hn q
theorem Goes.retJ (X : Stand p l e R s m args below meth c T locs cells slots) (hx : p.tables.exec = Jvm.exec) (hret : meth.sig.returnType = some .long) (hlk : meth.locks = false) {z : Int64} (hd : decode c.code pc = .ok (.lreturn, 1)) (hk : cells ≤ k) (hn : slots ≤ n) (q : Q (some (.long z)) T.heap locs) :
    Goes p e below T (mkF m pc L (.long z :: S)) (fun U o => ∃ v L, o = .returned v ∧ Ap Q v U.heap L ∧ FrameEnd s o U L k n) :=
  Goes.end X hlk (fun h => by rw [hret] at h; cases h) (fun _ hr => retOut X hx hret rfl (Or.inr (Or.inl ⟨rfl, rfl, z, rfl⟩)) hd hr) hk hn q
theorem Goes.retA (X : Stand p l e R s m args below meth c T locs cells slots) (hx : p.tables.exec = Jvm.exec) {t : FieldType} (hret : meth.sig.returnType = some t) (ht : t.isReference = true) (hlk : meth.locks = false) {z : Value} (hz : z.isRef = true) (hnr : narrow t z = z) (hd : decode c.code pc = .ok (.areturn, 1)) (hk : cells ≤ k) (hn : slots ≤ n) (q : Q (some z) T.heap locs) :
    Goes p e below T (mkF m pc L (z :: S)) (fun U o => ∃ v L, o = .returned v ∧ Ap Q v U.heap L ∧ FrameEnd s o U L k n) :=
  Goes.end X hlk (fun h => by rw [hret] at h; cases h) (fun _ hr => retOut X hx hret hnr (Or.inr (Or.inr (Or.inr (Or.inr ⟨rfl, ht, hz⟩)))) hd hr) hk hn q
theorem Goes.retV (X : Stand p l e R s m args below meth c T locs cells slots) (hx : p.tables.exec = Jvm.exec) (hret : meth.sig.returnType = none) (hlk : meth.locks = false) (hd : decode c.code pc = .ok (.return_, 1)) (hk : cells ≤ k) (hn : slots ≤ n) (q : Q none T.heap locs) :
    Goes p e below T (mkF m pc L []) (fun U o => ∃ v L, o = .returned v ∧ Ap Q v U.heap L ∧ FrameEnd s o U L k n) :=
  Goes.end X hlk (fun _ => rfl) (fun _ hr => X.returnOut hx hret hd hr) hk hn q
theorem G.aload (X : Stand p l e R s m args below meth c T locs cells slots) (hx : p.tables.exec = Jvm.exec) {k : Nat} {v : Value} (hd : decode c.code pc = .ok (.aload k, 2)) (hl : L[k]? = some (.val v)) (hv : v.isRef = true) (hp : pc + 2 = pc') (q : Goes p e below T (mkF m pc' L (v :: S)) P) : Goes p e below T (mkF m pc L (S)) P := by
  subst hp; exact Goes.via (fun _ u => Jvm.Free.XS.aload X.here hx rfl hd hl hv u) q
theorem G.aloadN (X : Stand p l e R s m args below meth c T locs cells slots) (hx : p.tables.exec = Jvm.exec) {k : Fin 4} {v : Value} (hd : decode c.code pc = .ok (.aload_n k, 1)) (hl : L[k.val]? = some (.val v)) (hv : v.isRef = true) (hp : pc + 1 = pc') (q : Goes p e below T (mkF m pc' L (v :: S)) P) : Goes p e below T (mkF m pc L (S)) P := by
  subst hp; exact Goes.via (fun _ u => Jvm.Free.XS.aloadN X.here hx rfl hd hl hv u) q
theorem G.iload (X : Stand p l e R s m args below meth c T locs cells slots) (hx : p.tables.exec = Jvm.exec) {k : Nat} {v : Int32} (hd : decode c.code pc = .ok (.iload k, 2)) (hl : L[k]? = some (.val (.int v))) (hp : pc + 2 = pc') (q : Goes p e below T (mkF m pc' L (.int v :: S)) P) : Goes p e below T (mkF m pc L (S)) P := by
  subst hp; exact Goes.via (fun _ u => Jvm.Free.XS.iload X.here hx rfl hd hl u) q
theorem G.iloadN (X : Stand p l e R s m args below meth c T locs cells slots) (hx : p.tables.exec = Jvm.exec) {k : Fin 4} {v : Int32} (hd : decode c.code pc = .ok (.iload_n k, 1)) (hl : L[k.val]? = some (.val (.int v))) (hp : pc + 1 = pc') (q : Goes p e below T (mkF m pc' L (.int v :: S)) P) : Goes p e below T (mkF m pc L (S)) P := by
  subst hp; exact Goes.via (fun _ u => Jvm.Free.XS.iloadN X.here hx rfl hd hl u) q
theorem G.lload (X : Stand p l e R s m args below meth c T locs cells slots) (hx : p.tables.exec = Jvm.exec) {k : Nat} {v : Int64} (hd : decode c.code pc = .ok (.lload k, 2)) (hl : L[k]? = some (.val (.long v))) (hp : pc + 2 = pc') (q : Goes p e below T (mkF m pc' L (.long v :: S)) P) : Goes p e below T (mkF m pc L (S)) P := by
  subst hp; exact Goes.via (fun _ u => Jvm.Free.XT.lload X.here hx rfl hd hl u) q
theorem G.lloadN (X : Stand p l e R s m args below meth c T locs cells slots) (hx : p.tables.exec = Jvm.exec) {k : Fin 4} {v : Int64} (hd : decode c.code pc = .ok (.lload_n k, 1)) (hl : L[k.val]? = some (.val (.long v))) (hp : pc + 1 = pc') (q : Goes p e below T (mkF m pc' L (.long v :: S)) P) : Goes p e below T (mkF m pc L (S)) P := by
  subst hp; exact Goes.via (fun _ u => Jvm.Free.XT.lloadN X.here hx rfl hd hl u) q
theorem G.istore (X : Stand p l e R s m args below meth c T locs cells slots) (hx : p.tables.exec = Jvm.exec) {k : Nat} {v : Int32} (hd : decode c.code pc = .ok (.istore k, 2)) (hl : storeLocals L k (.int v) = some L') (hp : pc + 2 = pc') (q : Goes p e below T (mkF m pc' L' (S)) P) : Goes p e below T (mkF m pc L (.int v :: S)) P := by
  subst hp; exact Goes.via (fun _ u => Jvm.Free.XS.istore X.here hx rfl hd rfl hl u) q
theorem G.istoreN (X : Stand p l e R s m args below meth c T locs cells slots) (hx : p.tables.exec = Jvm.exec) {k : Fin 4} {v : Int32} (hd : decode c.code pc = .ok (.istore_n k, 1)) (hl : storeLocals L k.val (.int v) = some L') (hp : pc + 1 = pc') (q : Goes p e below T (mkF m pc' L' (S)) P) : Goes p e below T (mkF m pc L (.int v :: S)) P := by
  subst hp; exact Goes.via (fun _ u => Jvm.Free.XS.istoreN X.here hx rfl hd rfl hl u) q
theorem G.lstore (X : Stand p l e R s m args below meth c T locs cells slots) (hx : p.tables.exec = Jvm.exec) {k : Nat} {v : Int64} (hd : decode c.code pc = .ok (.lstore k, 2)) (hl : storeLocals L k (.long v) = some L') (hp : pc + 2 = pc') (q : Goes p e below T (mkF m pc' L' (S)) P) : Goes p e below T (mkF m pc L (.long v :: S)) P := by
  subst hp; exact Goes.via (fun _ u => Jvm.Free.XT.lstore X.here hx rfl hd rfl hl u) q
theorem G.lstoreN (X : Stand p l e R s m args below meth c T locs cells slots) (hx : p.tables.exec = Jvm.exec) {k : Fin 4} {v : Int64} (hd : decode c.code pc = .ok (.lstore_n k, 1)) (hl : storeLocals L k.val (.long v) = some L') (hp : pc + 1 = pc') (q : Goes p e below T (mkF m pc' L' (S)) P) : Goes p e below T (mkF m pc L (.long v :: S)) P := by
  subst hp; exact Goes.via (fun _ u => Jvm.Free.XT.lstoreN X.here hx rfl hd rfl hl u) q
theorem G.astore (X : Stand p l e R s m args below meth c T locs cells slots) (hx : p.tables.exec = Jvm.exec) {k : Nat} {v : Value} (hd : decode c.code pc = .ok (.astore k, 2)) (hv : v.isRef = true) (hl : storeLocals L k v = some L') (hp : pc + 2 = pc') (q : Goes p e below T (mkF m pc' L' (S)) P) : Goes p e below T (mkF m pc L (v :: S)) P := by
  subst hp; exact Goes.via (fun _ u => Jvm.Free.XS.astore X.here hx rfl hd rfl hv hl u) q
theorem G.astoreN (X : Stand p l e R s m args below meth c T locs cells slots) (hx : p.tables.exec = Jvm.exec) {k : Fin 4} {v : Value} (hd : decode c.code pc = .ok (.astore_n k, 1)) (hv : v.isRef = true) (hl : storeLocals L k.val v = some L') (hp : pc + 1 = pc') (q : Goes p e below T (mkF m pc' L' (S)) P) : Goes p e below T (mkF m pc L (v :: S)) P := by
  subst hp; exact Goes.via (fun _ u => Jvm.Free.XS.astoreN X.here hx rfl hd rfl hv hl u) q
theorem G.iinc (X : Stand p l e R s m args below meth c T locs cells slots) (hx : p.tables.exec = Jvm.exec) {k : Nat} {cst : Int} {v : Int32} (hd : decode c.code pc = .ok (.iinc k cst, 3)) (hl : L[k]? = some (.val (.int v))) (hl' : storeLocals L k (.int (v + Int32.ofInt cst)) = some L') (hp : pc + 3 = pc') (q : Goes p e below T (mkF m pc' L' (S)) P) : Goes p e below T (mkF m pc L (S)) P := by
  subst hp; exact Goes.via (fun _ u => Jvm.Free.XS.iinc X.here hx rfl hd hl hl' u) q
theorem G.iconst (X : Stand p l e R s m args below meth c T locs cells slots) (hx : p.tables.exec = Jvm.exec) {i : Int} {z : Int32} (hd : decode c.code pc = .ok (.iconst i, 1)) (hz : Int32.ofInt i = z) (hp : pc + 1 = pc') (q : Goes p e below T (mkF m pc' L (.int z :: S)) P) : Goes p e below T (mkF m pc L S) P := by
  subst hp hz; exact Goes.via (fun _ u => Jvm.Free.XS.iconst X.here hx rfl hd u) q
theorem G.bipush (X : Stand p l e R s m args below meth c T locs cells slots) (hx : p.tables.exec = Jvm.exec) {i : Int} {z : Int32} (hd : decode c.code pc = .ok (.bipush i, 2)) (hz : (Int8.ofInt i).toInt32 = z) (hp : pc + 2 = pc') (q : Goes p e below T (mkF m pc' L (.int z :: S)) P) : Goes p e below T (mkF m pc L S) P := by
  subst hp hz; exact Goes.via (fun _ u => Jvm.Free.XS.bipush X.here hx rfl hd u) q
theorem G.sipush (X : Stand p l e R s m args below meth c T locs cells slots) (hx : p.tables.exec = Jvm.exec) {i : Int} {z : Int32} (hd : decode c.code pc = .ok (.sipush i, 3)) (hz : (Int16.ofInt i).toInt32 = z) (hp : pc + 3 = pc') (q : Goes p e below T (mkF m pc' L (.int z :: S)) P) : Goes p e below T (mkF m pc L S) P := by
  subst hp hz; exact Goes.via (fun _ u => Jvm.Free.XS.sipush X.here hx rfl hd u) q
theorem G.lconst (X : Stand p l e R s m args below meth c T locs cells slots) (hx : p.tables.exec = Jvm.exec) {k : Fin 2} {z : Int64} (hd : decode c.code pc = .ok (.lconst k, 1)) (hz : Int64.ofNat k = z) (hp : pc + 1 = pc') (q : Goes p e below T (mkF m pc' L (.long z :: S)) P) : Goes p e below T (mkF m pc L S) P := by
  subst hp hz; exact Goes.via (fun _ u => Jvm.Free.XT.lconst X.here hx rfl hd u) q
theorem G.aconstNull (X : Stand p l e R s m args below meth c T locs cells slots) (hx : p.tables.exec = Jvm.exec) (hd : decode c.code pc = .ok (.aconst_null, 1)) (hp : pc + 1 = pc') (q : Goes p e below T (mkF m pc' L (.null :: S)) P) : Goes p e below T (mkF m pc L (S)) P := by
  subst hp; exact Goes.via (fun _ u => Jvm.Free.XS.aconstNull X.here hx rfl hd u) q
theorem G.iadd (X : Stand p l e R s m args below meth c T locs cells slots) (hx : p.tables.exec = Jvm.exec) {x y : Int32} (hd : decode c.code pc = .ok (.iadd, 1)) (hp : pc + 1 = pc') (q : Goes p e below T (mkF m pc' L (.int (x + y) :: S)) P) : Goes p e below T (mkF m pc L (.int y :: .int x :: S)) P := by
  subst hp; exact Goes.via (fun _ u => Jvm.Free.XS.iadd X.here hx rfl hd rfl u) q
theorem G.isub (X : Stand p l e R s m args below meth c T locs cells slots) (hx : p.tables.exec = Jvm.exec) {x y : Int32} (hd : decode c.code pc = .ok (.isub, 1)) (hp : pc + 1 = pc') (q : Goes p e below T (mkF m pc' L (.int (x - y) :: S)) P) : Goes p e below T (mkF m pc L (.int y :: .int x :: S)) P := by
  subst hp; exact Goes.via (fun _ u => Jvm.Free.XS.isub X.here hx rfl hd rfl u) q
theorem G.iand (X : Stand p l e R s m args below meth c T locs cells slots) (hx : p.tables.exec = Jvm.exec) {x y : Int32} (hd : decode c.code pc = .ok (.iand, 1)) (hp : pc + 1 = pc') (q : Goes p e below T (mkF m pc' L (.int (x &&& y) :: S)) P) : Goes p e below T (mkF m pc L (.int y :: .int x :: S)) P := by
  subst hp; exact Goes.via (fun _ u => Jvm.Free.XS.iand X.here hx rfl hd rfl u) q
theorem G.imul (X : Stand p l e R s m args below meth c T locs cells slots) (hx : p.tables.exec = Jvm.exec) {x y : Int32} (hd : decode c.code pc = .ok (.imul, 1)) (hp : pc + 1 = pc') (q : Goes p e below T (mkF m pc' L (.int (x * y) :: S)) P) : Goes p e below T (mkF m pc L (.int y :: .int x :: S)) P := by
  subst hp; exact Goes.via (fun _ u => Jvm.Free.XS.imul X.here hx rfl hd rfl u) q
theorem G.ior (X : Stand p l e R s m args below meth c T locs cells slots) (hx : p.tables.exec = Jvm.exec) {x y : Int32} (hd : decode c.code pc = .ok (.ior, 1)) (hp : pc + 1 = pc') (q : Goes p e below T (mkF m pc' L (.int (x ||| y) :: S)) P) : Goes p e below T (mkF m pc L (.int y :: .int x :: S)) P := by
  subst hp; exact Goes.via (fun _ u => Jvm.Free.XT.ior X.here hx rfl hd rfl u) q
theorem G.ixor (X : Stand p l e R s m args below meth c T locs cells slots) (hx : p.tables.exec = Jvm.exec) {x y : Int32} (hd : decode c.code pc = .ok (.ixor, 1)) (hp : pc + 1 = pc') (q : Goes p e below T (mkF m pc' L (.int (x ^^^ y) :: S)) P) : Goes p e below T (mkF m pc L (.int y :: .int x :: S)) P := by
  subst hp; exact Goes.via (fun _ u => Jvm.Free.XT.ixor X.here hx rfl hd rfl u) q
theorem G.ishl (X : Stand p l e R s m args below meth c T locs cells slots) (hx : p.tables.exec = Jvm.exec) {x y : Int32} (hd : decode c.code pc = .ok (.ishl, 1)) (hp : pc + 1 = pc') (q : Goes p e below T (mkF m pc' L (.int (x <<< (y &&& 31)) :: S)) P) : Goes p e below T (mkF m pc L (.int y :: .int x :: S)) P := by
  subst hp; exact Goes.via (fun _ u => Jvm.Free.XT.ishl X.here hx rfl hd rfl u) q
theorem G.ishr (X : Stand p l e R s m args below meth c T locs cells slots) (hx : p.tables.exec = Jvm.exec) {x y : Int32} (hd : decode c.code pc = .ok (.ishr, 1)) (hp : pc + 1 = pc') (q : Goes p e below T (mkF m pc' L (.int (x >>> (y &&& 31)) :: S)) P) : Goes p e below T (mkF m pc L (.int y :: .int x :: S)) P := by
  subst hp; exact Goes.via (fun _ u => Jvm.Free.XT.ishr X.here hx rfl hd rfl u) q
theorem G.iushr (X : Stand p l e R s m args below meth c T locs cells slots) (hx : p.tables.exec = Jvm.exec) {x y : Int32} (hd : decode c.code pc = .ok (.iushr, 1)) (hp : pc + 1 = pc') (q : Goes p e below T (mkF m pc' L (.int (Jvm.Free.XT.ushr x y) :: S)) P) : Goes p e below T (mkF m pc L (.int y :: .int x :: S)) P := by
  subst hp; exact Goes.via (fun _ u => Jvm.Free.XT.iushr X.here hx rfl hd rfl u) q
theorem G.idiv (X : Stand p l e R s m args below meth c T locs cells slots) (hx : p.tables.exec = Jvm.exec) {x y : Int32} (hd : decode c.code pc = .ok (.idiv, 1)) (hy : y ≠ 0) (hp : pc + 1 = pc') (q : Goes p e below T (mkF m pc' L (.int (x / y) :: S)) P) : Goes p e below T (mkF m pc L (.int y :: .int x :: S)) P := by
  subst hp; exact Goes.via (fun _ u => Jvm.Free.XS.idiv X.here hx rfl hd rfl hy u) q
theorem G.irem (X : Stand p l e R s m args below meth c T locs cells slots) (hx : p.tables.exec = Jvm.exec) {x y : Int32} (hd : decode c.code pc = .ok (.irem, 1)) (hy : y ≠ 0) (hp : pc + 1 = pc') (q : Goes p e below T (mkF m pc' L (.int (x % y) :: S)) P) : Goes p e below T (mkF m pc L (.int y :: .int x :: S)) P := by
  subst hp; exact Goes.via (fun _ u => Jvm.RoadKit.iremM X hx rfl hd rfl hy u) q
theorem G.ineg (X : Stand p l e R s m args below meth c T locs cells slots) (hx : p.tables.exec = Jvm.exec) {x : Int32} (hd : decode c.code pc = .ok (.ineg, 1)) (hp : pc + 1 = pc') (q : Goes p e below T (mkF m pc' L (.int (-x) :: S)) P) : Goes p e below T (mkF m pc L (.int x :: S)) P := by
  subst hp; exact Goes.via (fun _ u => Jvm.Free.XS.ineg X.here hx rfl hd rfl u) q
theorem G.ladd (X : Stand p l e R s m args below meth c T locs cells slots) (hx : p.tables.exec = Jvm.exec) {x y : Int64} (hd : decode c.code pc = .ok (.ladd, 1)) (hp : pc + 1 = pc') (q : Goes p e below T (mkF m pc' L (.long (x + y) :: S)) P) : Goes p e below T (mkF m pc L (.long y :: .long x :: S)) P := by
  subst hp; exact Goes.via (fun _ u => Jvm.Free.XT.ladd X.here hx rfl hd rfl u) q
theorem G.lsub (X : Stand p l e R s m args below meth c T locs cells slots) (hx : p.tables.exec = Jvm.exec) {x y : Int64} (hd : decode c.code pc = .ok (.lsub, 1)) (hp : pc + 1 = pc') (q : Goes p e below T (mkF m pc' L (.long (x - y) :: S)) P) : Goes p e below T (mkF m pc L (.long y :: .long x :: S)) P := by
  subst hp; exact Goes.via (fun _ u => Jvm.Free.XT.lsub X.here hx rfl hd rfl u) q
theorem G.lmul (X : Stand p l e R s m args below meth c T locs cells slots) (hx : p.tables.exec = Jvm.exec) {x y : Int64} (hd : decode c.code pc = .ok (.lmul, 1)) (hp : pc + 1 = pc') (q : Goes p e below T (mkF m pc' L (.long (x * y) :: S)) P) : Goes p e below T (mkF m pc L (.long y :: .long x :: S)) P := by
  subst hp; exact Goes.via (fun _ u => Jvm.Free.XT.lmul X.here hx rfl hd rfl u) q
theorem G.land (X : Stand p l e R s m args below meth c T locs cells slots) (hx : p.tables.exec = Jvm.exec) {x y : Int64} (hd : decode c.code pc = .ok (.land, 1)) (hp : pc + 1 = pc') (q : Goes p e below T (mkF m pc' L (.long (x &&& y) :: S)) P) : Goes p e below T (mkF m pc L (.long y :: .long x :: S)) P := by
  subst hp; exact Goes.via (fun _ u => Jvm.Free.XT.land X.here hx rfl hd rfl u) q
theorem G.lor (X : Stand p l e R s m args below meth c T locs cells slots) (hx : p.tables.exec = Jvm.exec) {x y : Int64} (hd : decode c.code pc = .ok (.lor, 1)) (hp : pc + 1 = pc') (q : Goes p e below T (mkF m pc' L (.long (x ||| y) :: S)) P) : Goes p e below T (mkF m pc L (.long y :: .long x :: S)) P := by
  subst hp; exact Goes.via (fun _ u => Jvm.Free.XT.lor X.here hx rfl hd rfl u) q
theorem G.lxor (X : Stand p l e R s m args below meth c T locs cells slots) (hx : p.tables.exec = Jvm.exec) {x y : Int64} (hd : decode c.code pc = .ok (.lxor, 1)) (hp : pc + 1 = pc') (q : Goes p e below T (mkF m pc' L (.long (x ^^^ y) :: S)) P) : Goes p e below T (mkF m pc L (.long y :: .long x :: S)) P := by
  subst hp; exact Goes.via (fun _ u => Jvm.Free.XT.lxor X.here hx rfl hd rfl u) q
theorem G.lshl (X : Stand p l e R s m args below meth c T locs cells slots) (hx : p.tables.exec = Jvm.exec) {x : Int64} {y : Int32} (hd : decode c.code pc = .ok (.lshl, 1)) (hp : pc + 1 = pc') (q : Goes p e below T (mkF m pc' L (.long (x <<< (y.toInt64 &&& 63)) :: S)) P) : Goes p e below T (mkF m pc L (.int y :: .long x :: S)) P := by
  subst hp; exact Goes.via (fun _ u => Jvm.Free.XT.lshl X.here hx rfl hd rfl u) q
theorem G.lshr (X : Stand p l e R s m args below meth c T locs cells slots) (hx : p.tables.exec = Jvm.exec) {x : Int64} {y : Int32} (hd : decode c.code pc = .ok (.lshr, 1)) (hp : pc + 1 = pc') (q : Goes p e below T (mkF m pc' L (.long (x >>> (y.toInt64 &&& 63)) :: S)) P) : Goes p e below T (mkF m pc L (.int y :: .long x :: S)) P := by
  subst hp; exact Goes.via (fun _ u => Jvm.Free.XT.lshr X.here hx rfl hd rfl u) q
theorem G.lushr (X : Stand p l e R s m args below meth c T locs cells slots) (hx : p.tables.exec = Jvm.exec) {x : Int64} {y : Int32} (hd : decode c.code pc = .ok (.lushr, 1)) (hp : pc + 1 = pc') (q : Goes p e below T (mkF m pc' L (.long (Jvm.Free.XT.ushrL x y) :: S)) P) : Goes p e below T (mkF m pc L (.int y :: .long x :: S)) P := by
  subst hp; exact Goes.via (fun _ u => Jvm.Free.XT.lushr X.here hx rfl hd rfl u) q
theorem G.ldiv (X : Stand p l e R s m args below meth c T locs cells slots) (hx : p.tables.exec = Jvm.exec) {x y : Int64} (hd : decode c.code pc = .ok (.ldiv, 1)) (hy : y ≠ 0) (hp : pc + 1 = pc') (q : Goes p e below T (mkF m pc' L (.long (x / y) :: S)) P) : Goes p e below T (mkF m pc L (.long y :: .long x :: S)) P := by
  subst hp; exact Goes.via (fun _ u => Jvm.Free.XT.ldiv X.here hx rfl hd rfl hy u) q
theorem G.lrem (X : Stand p l e R s m args below meth c T locs cells slots) (hx : p.tables.exec = Jvm.exec) {x y : Int64} (hd : decode c.code pc = .ok (.lrem, 1)) (hy : y ≠ 0) (hp : pc + 1 = pc') (q : Goes p e below T (mkF m pc' L (.long (x % y) :: S)) P) : Goes p e below T (mkF m pc L (.long y :: .long x :: S)) P := by
  subst hp; exact Goes.via (fun _ u => Jvm.Free.XT.lrem X.here hx rfl hd rfl hy u) (by rw [lrem_mod]; exact q)
theorem G.lneg (X : Stand p l e R s m args below meth c T locs cells slots) (hx : p.tables.exec = Jvm.exec) {x : Int64} (hd : decode c.code pc = .ok (.lneg, 1)) (hp : pc + 1 = pc') (q : Goes p e below T (mkF m pc' L (.long (-x) :: S)) P) : Goes p e below T (mkF m pc L (.long x :: S)) P := by
  subst hp; exact Goes.via (fun _ u => Jvm.Free.XT.lneg X.here hx rfl hd rfl u) q
theorem G.i2l (X : Stand p l e R s m args below meth c T locs cells slots) (hx : p.tables.exec = Jvm.exec) {x : Int32} (hd : decode c.code pc = .ok (.i2l, 1)) (hp : pc + 1 = pc') (q : Goes p e below T (mkF m pc' L (.long (x.toInt64) :: S)) P) : Goes p e below T (mkF m pc L (.int x :: S)) P := by
  subst hp; exact Goes.via (fun _ u => Jvm.Free.XT.i2l X.here hx rfl hd rfl u) q
theorem G.i2b (X : Stand p l e R s m args below meth c T locs cells slots) (hx : p.tables.exec = Jvm.exec) {x : Int32} (hd : decode c.code pc = .ok (.i2b, 1)) (hp : pc + 1 = pc') (q : Goes p e below T (mkF m pc' L (.int (x.toInt8.toInt32) :: S)) P) : Goes p e below T (mkF m pc L (.int x :: S)) P := by
  subst hp; exact Goes.via (fun _ u => Jvm.Free.XT.i2b X.here hx rfl hd rfl u) q
theorem G.i2c (X : Stand p l e R s m args below meth c T locs cells slots) (hx : p.tables.exec = Jvm.exec) {x : Int32} (hd : decode c.code pc = .ok (.i2c, 1)) (hp : pc + 1 = pc') (q : Goes p e below T (mkF m pc' L (.int (x.toUInt32.toUInt16.toUInt32.toInt32) :: S)) P) : Goes p e below T (mkF m pc L (.int x :: S)) P := by
  subst hp; exact Goes.via (fun _ u => Jvm.Free.XT.i2c X.here hx rfl hd rfl u) q
theorem G.i2s (X : Stand p l e R s m args below meth c T locs cells slots) (hx : p.tables.exec = Jvm.exec) {x : Int32} (hd : decode c.code pc = .ok (.i2s, 1)) (hp : pc + 1 = pc') (q : Goes p e below T (mkF m pc' L (.int (x.toInt16.toInt32) :: S)) P) : Goes p e below T (mkF m pc L (.int x :: S)) P := by
  subst hp; exact Goes.via (fun _ u => Jvm.Free.XT.i2s X.here hx rfl hd rfl u) q
theorem G.l2i (X : Stand p l e R s m args below meth c T locs cells slots) (hx : p.tables.exec = Jvm.exec) {x : Int64} (hd : decode c.code pc = .ok (.l2i, 1)) (hp : pc + 1 = pc') (q : Goes p e below T (mkF m pc' L (.int (x.toInt32) :: S)) P) : Goes p e below T (mkF m pc L (.long x :: S)) P := by
  subst hp; exact Goes.via (fun _ u => Jvm.Free.XT.l2i X.here hx rfl hd rfl u) q
theorem G.lcmp (X : Stand p l e R s m args below meth c T locs cells slots) (hx : p.tables.exec = Jvm.exec) {x y : Int64} (hd : decode c.code pc = .ok (.lcmp, 1)) (hp : pc + 1 = pc') (q : Goes p e below T (mkF m pc' L (.int (Jvm.Free.XT.cmpL x y) :: S)) P) : Goes p e below T (mkF m pc L (.long y :: .long x :: S)) P := by
  subst hp; exact Goes.via (fun _ u => Jvm.Free.XT.lcmp X.here hx rfl hd rfl u) q
theorem G.dup (X : Stand p l e R s m args below meth c T locs cells slots) (hx : p.tables.exec = Jvm.exec) {v : Value} (hd : decode c.code pc = .ok (.dup, 1)) (hv : v.category = 1) (hp : pc + 1 = pc') (q : Goes p e below T (mkF m pc' L (v :: v :: S)) P) : Goes p e below T (mkF m pc L (v :: S)) P := by
  subst hp; exact Goes.via (fun _ u => Jvm.Free.XS.dup X.here hx rfl hd rfl hv u) q
theorem G.pop (X : Stand p l e R s m args below meth c T locs cells slots) (hx : p.tables.exec = Jvm.exec) {v : Value} (hd : decode c.code pc = .ok (.pop, 1)) (hv : v.category = 1) (hp : pc + 1 = pc') (q : Goes p e below T (mkF m pc' L (S)) P) : Goes p e below T (mkF m pc L (v :: S)) P := by
  subst hp; exact Goes.via (fun _ u => Jvm.Free.XT.pop X.here hx rfl hd rfl hv u) q
theorem G.dupX1 (X : Stand p l e R s m args below meth c T locs cells slots) (hx : p.tables.exec = Jvm.exec) {v w : Value} (hd : decode c.code pc = .ok (.dup_x1, 1)) (hv : v.category = 1) (hw : w.category = 1) (hp : pc + 1 = pc') (q : Goes p e below T (mkF m pc' L (v :: w :: v :: S)) P) : Goes p e below T (mkF m pc L (v :: w :: S)) P := by
  subst hp; exact Goes.via (fun _ u => Jvm.Free.XT.dupX1 X.here hx rfl hd rfl hv hw u) q
theorem G.dup2 (X : Stand p l e R s m args below meth c T locs cells slots) (hx : p.tables.exec = Jvm.exec) {v w : Value} (hd : decode c.code pc = .ok (.dup2, 1)) (hv : v.category = 1) (hw : w.category = 1) (hp : pc + 1 = pc') (q : Goes p e below T (mkF m pc' L (v :: w :: v :: w :: S)) P) : Goes p e below T (mkF m pc L (v :: w :: S)) P := by
  subst hp; exact Goes.via (fun _ u => Jvm.Free.XT.dup2 X.here hx rfl hd rfl hv hw u) q
theorem G.goto (X : Stand p l e R s m args below meth c T locs cells slots) (hx : p.tables.exec = Jvm.exec) {o : Int} (hd : decode c.code pc = .ok (.goto o, 3)) (ho : 0 ≤ (pc : Int) + o) (hp : ((pc : Int) + o).toNat = pc') (q : Goes p e below T (mkF m pc' L S) P) : Goes p e below T (mkF m pc L S) P :=
  Goes.via (fun _ u => Jvm.Free.XS.goto X.here hx rfl rfl hd ho hp u) q
theorem G.icmpT (X : Stand p l e R s m args below meth c T locs cells slots) (hx : p.tables.exec = Jvm.exec) {cd : ClassFile.Cond} {x y : Int32} {o : Int} (hd : decode c.code pc = .ok (.if_icmp cd o, 3)) (hc : if_icmp.holds cd x y = true) (ho : 0 ≤ (pc : Int) + o) (hp : ((pc : Int) + o).toNat = pc') (q : Goes p e below T (mkF m pc' L S) P) : Goes p e below T (mkF m pc L (.int y :: .int x :: S)) P :=
  Goes.via (fun _ u => Jvm.Free.XS.icmpYes X.here hx rfl rfl hd rfl hc ho hp u) q
theorem G.icmpF (X : Stand p l e R s m args below meth c T locs cells slots) (hx : p.tables.exec = Jvm.exec) {cd : ClassFile.Cond} {x y : Int32} {o : Int} (hd : decode c.code pc = .ok (.if_icmp cd o, 3)) (hc : if_icmp.holds cd x y = false) (hp : pc + 3 = pc') (q : Goes p e below T (mkF m pc' L S) P) : Goes p e below T (mkF m pc L (.int y :: .int x :: S)) P := by
  subst hp; exact Goes.via (fun _ u => Jvm.Free.XS.icmpNo X.here hx rfl hd rfl hc u) q
theorem G.ifT (X : Stand p l e R s m args below meth c T locs cells slots) (hx : p.tables.exec = Jvm.exec) {cd : ClassFile.Cond} {x : Int32} {o : Int} (hd : decode c.code pc = .ok (.ifCond cd o, 3)) (hc : ifCond.holds cd x = true) (ho : 0 ≤ (pc : Int) + o) (hp : ((pc : Int) + o).toNat = pc') (q : Goes p e below T (mkF m pc' L S) P) : Goes p e below T (mkF m pc L (.int x :: S)) P :=
  Goes.via (fun _ u => Jvm.Free.XS.ifYes X.here hx rfl rfl hd rfl hc ho hp u) q
theorem G.ifF (X : Stand p l e R s m args below meth c T locs cells slots) (hx : p.tables.exec = Jvm.exec) {cd : ClassFile.Cond} {x : Int32} {o : Int} (hd : decode c.code pc = .ok (.ifCond cd o, 3)) (hc : ifCond.holds cd x = false) (hp : pc + 3 = pc') (q : Goes p e below T (mkF m pc' L S) P) : Goes p e below T (mkF m pc L (.int x :: S)) P := by
  subst hp; exact Goes.via (fun _ u => Jvm.Free.XS.ifNo X.here hx rfl hd rfl hc u) q
theorem G.nullT (X : Stand p l e R s m args below meth c T locs cells slots) (hx : p.tables.exec = Jvm.exec) {o : Int} (hd : decode c.code pc = .ok (.ifnull o, 3)) (ho : 0 ≤ (pc : Int) + o) (hp : ((pc : Int) + o).toNat = pc') (q : Goes p e below T (mkF m pc' L S) P) : Goes p e below T (mkF m pc L (.null :: S)) P :=
  Goes.via (fun _ u => Jvm.Free.XS.ifnullYes X.here hx rfl rfl hd rfl ho hp u) q
theorem G.nullF (X : Stand p l e R s m args below meth c T locs cells slots) (hx : p.tables.exec = Jvm.exec) {b : Addr} {o : Int} (hd : decode c.code pc = .ok (.ifnull o, 3)) (hp : pc + 3 = pc') (q : Goes p e below T (mkF m pc' L S) P) : Goes p e below T (mkF m pc L (.ref b :: S)) P := by
  subst hp; exact Goes.via (fun _ u => Jvm.Free.XS.ifnullNo X.here hx rfl hd rfl u) q
theorem G.nonnullT (X : Stand p l e R s m args below meth c T locs cells slots) (hx : p.tables.exec = Jvm.exec) {b : Addr} {o : Int} (hd : decode c.code pc = .ok (.ifnonnull o, 3)) (ho : 0 ≤ (pc : Int) + o) (hp : ((pc : Int) + o).toNat = pc') (q : Goes p e below T (mkF m pc' L S) P) : Goes p e below T (mkF m pc L (.ref b :: S)) P :=
  Goes.via (fun _ u => Jvm.Free.XS.ifnonnullYes X.here hx rfl rfl hd rfl ho hp u) q
theorem G.nonnullF (X : Stand p l e R s m args below meth c T locs cells slots) (hx : p.tables.exec = Jvm.exec) {o : Int} (hd : decode c.code pc = .ok (.ifnonnull o, 3)) (hp : pc + 3 = pc') (q : Goes p e below T (mkF m pc' L S) P) : Goes p e below T (mkF m pc L (.null :: S)) P := by
  subst hp; exact Goes.via (fun _ u => Jvm.Free.XS.ifnonnullNo X.here hx rfl hd rfl u) q
theorem G.acmpT (X : Stand p l e R s m args below meth c T locs cells slots) (hx : p.tables.exec = Jvm.exec) {cd : ACond} {x y : Value} {o : Int} (hd : decode c.code pc = .ok (.if_acmp cd o, 3)) (h1 : x.isRef = true) (h2 : y.isRef = true) {same : Bool} (hq : decide (x = y) = same) (ho : 0 ≤ (pc : Int) + o) (hp : pc' = if acV cd same = true then ((pc : Int) + o).toNat else pc + 3) (q : Goes p e below T (mkF m pc' L S) P) : Goes p e below T (mkF m pc L (y :: x :: S)) P :=
  Goes.via (fun _ u => Jvm.RoadKit.acmp X hx rfl h1 h2 rfl hd rfl hq ho hp u) q
theorem G.ldcInt (X : Stand p l e R s m args below meth c T locs cells slots) (hx : p.tables.exec = Jvm.exec) (hZ : Z.Warmed39 s.vm) {own : String} {index : Nat} {v : Int32} (hown : s.vm.findClass own = some m.cls) (w : (Cond.constant own index v).before a0 Z = true) (hd : decode c.code pc = .ok (.ldc index, 2)) (hp : pc + 2 = pc') (q : Goes p e below T (mkF m pc' L (.int v :: S)) P) : Goes p e below T (mkF m pc L S) P := by
  subst hp; exact Goes.via (X.ldcInt hx hown (mvT hZ w) (g := mkF m pc L S) rfl hd) q
theorem G.ldcLong (X : Stand p l e R s m args below meth c T locs cells slots) (hx : p.tables.exec = Jvm.exec) (hZ : Z.Warmed39 s.vm) {own : String} {index : Nat} {v : Int64} (hown : s.vm.findClass own = some m.cls) (w : (Cond.constantLong own index v).before a0 Z = true) (hd : decode c.code pc = .ok (.ldc2_w index, 3)) (hp : pc + 3 = pc') (q : Goes p e below T (mkF m pc' L (.long v :: S)) P) : Goes p e below T (mkF m pc L S) P := by
  subst hp; exact Goes.via (X.ldc2Long hx hown (mvT hZ w) (g := mkF m pc L S) rfl hd) q
theorem G.getF (X : Stand p l e R s m args below meth c T locs cells slots) (hx : p.tables.exec = Jvm.exec) (hZ : Z.Warmed39 s.vm) {own R0 O n d : String} {index : Nat} (hown : s.vm.findClass own = some m.cls) (w : (Cond.fieldLink own index R0 n d).before a0 Z = true) (via : Via Z R0 O n d) (eT : T.heap = h) (F : Fld Z h a O n d v) (hd : decode c.code pc = .ok (.getfield index, 3)) (hp : pc + 3 = pc')
    (q : ∀ T', Stand p l e R s m args below meth c T' locs cells slots → T'.heap = h → Goes p e below T' (mkF m pc' L (v :: S)) P) : Goes p e below T (mkF m pc L (.ref a :: S)) P := by
  subst hp
  obtain ⟨T', X', e', st⟩ := Jvm.RoadKit.getF X hx hZ hown (host := "") (Or.inl w) via eT F (g := mkF m pc L (.ref a :: S)) rfl rfl hd
  exact Goes.via st (q T' X' e')
theorem G.getS (X : Stand p l e R s m args below meth c T locs cells slots) (hx : p.tables.exec = Jvm.exec) (hZ : Z.Warmed39 s.vm) {own R0 O n d : String} {index : Nat} (hown : s.vm.findClass own = some m.cls) (w : (Cond.fieldLink own index R0 n d).before a0 Z = true) (via : Via Z R0 O n d) (eT : T.heap = h) (F : Sta Z h O n d v) (hd : decode c.code pc = .ok (.getstatic index, 3)) (hp : pc + 3 = pc')
    (q : ∀ T', Stand p l e R s m args below meth c T' locs cells slots → T'.heap = h → Goes p e below T' (mkF m pc' L (v :: S)) P) : Goes p e below T (mkF m pc L S) P := by
  subst hp
  obtain ⟨T', X', e', st⟩ := Jvm.RoadKit.getS2 X hx hZ hown (host := "") (Or.inl w) via eT F (g := mkF m pc L S) rfl hd
  exact Goes.via st (q T' X' e')
theorem G.putF (X : Stand p l e R s m args below meth c T locs cells slots) (hx : p.tables.exec = Jvm.exec) (hZ : Z.Warmed39 s.vm) {own R0 O n d C : String} {index kk : Nat} {ty : FieldType} {old : Value} (hown : s.vm.findClass own = some m.cls) (w : (Cond.fieldLink own index R0 n d).before a0 Z = true) (via : Via Z R0 O n d) (eT : T.heap = h) (F : Fld Z h a O n d old) (E : Exa Z h a C) (Ly : (Cond.lays C O n d).before a0 Z = true ∨ ((Cond.laysFinal C O n d).before a0 Z = true ∧ own = O ∧ meth.name = "<init>")) (wi : (Cond.instantiable C kk).before a0 Z = true)
    (hty : parseFieldDescriptor d = some ty) (hn : narrow ty v = v) (hf : fits ty v = true) (hd : decode c.code pc = .ok (.putfield index, 3)) (hp : pc + 3 = pc')
    (q : ∀ T' h', Stand p l e R s m args below meth c T' (locs ++ [⟨a, Jvm.RoadKit.slotOf Z O n d⟩]) cells slots → T'.heap = h' → Wr h h' a (Jvm.RoadKit.slotOf Z O n d) v → Goes p e below T' (mkF m pc' L S) P) : Goes p e below T (mkF m pc L (v :: .ref a :: S)) P := by
  subst hp
  obtain ⟨T', h', X', e', W', st⟩ := Jvm.RoadKit.putF X hx hZ hown (host := "") (Or.inl w) via eT F E Ly wi hty hn hf (g := mkF m pc L (v :: .ref a :: S)) rfl rfl hd
  exact Goes.via st (q T' h' X' e' W')
theorem G.putFN (X : Stand p l e R s m args below meth c T locs cells slots) (hx : p.tables.exec = Jvm.exec) (hZ : Z.Warmed39 s.vm) {own R0 O n d C : String} {index kk : Nat} {ty : FieldType} {old v' : Value} (hown : s.vm.findClass own = some m.cls) (w : (Cond.fieldLink own index R0 n d).before a0 Z = true) (via : Via Z R0 O n d) (eT : T.heap = h) (F : Fld Z h a O n d old) (E : Exa Z h a C) (Ly : (Cond.lays C O n d).before a0 Z = true ∨ ((Cond.laysFinal C O n d).before a0 Z = true ∧ own = O ∧ meth.name = "<init>")) (wi : (Cond.instantiable C kk).before a0 Z = true)
    (hty : parseFieldDescriptor d = some ty) (hn : narrow ty v = v') (hf : fits ty v' = true) (hd : decode c.code pc = .ok (.putfield index, 3)) (hp : pc + 3 = pc')
    (q : ∀ T' h', Stand p l e R s m args below meth c T' (locs ++ [⟨a, Jvm.RoadKit.slotOf Z O n d⟩]) cells slots → T'.heap = h' → Wr h h' a (Jvm.RoadKit.slotOf Z O n d) v' → Goes p e below T' (mkF m pc' L S) P) : Goes p e below T (mkF m pc L (v :: .ref a :: S)) P := by
  subst hp
  obtain ⟨T', h', X', e', W', st⟩ := Jvm.RoadKit.putFN X hx hZ hown w via eT F E Ly wi hty hn hf (g := mkF m pc L (v :: .ref a :: S)) rfl rfl hd
  exact Goes.via st (q T' h' X' e' W')
theorem G.newO (X : Stand p l e R s m args below meth c T locs cells slots) (hx : p.tables.exec = Jvm.exec) (hZ : Z.Warmed39 s.vm) {own C : String} {index n : Nat} (hown : s.vm.findClass own = some m.cls) (w : (Cond.classLink own index C).before a0 Z = true) (wi : (Cond.instantiable C n).before a0 Z = true) (wz : (Cond.initialized C).before a0 Z = true) (eT : T.heap = h) (hd : decode c.code pc = .ok (.new index, 3)) (hc : cells + 1 ≤ R.cells) (hl : slots + n ≤ R.slots) (hp : pc + 3 = pc')
    (q : ∀ T' h' a, a = h.size → Stand p l e R s m args below meth c T' locs (cells + 1) (slots + n) → T'.heap = h' → Ext h h' → Exa Z h' a C → (∀ {O nm d : String} {ty : FieldType}, Laid Z a0 C O nm d → parseFieldDescriptor d = some ty → Fld Z h' a O nm d (defaultValue ty)) → Goes p e below T' (mkF m pc' L (.ref a :: S)) P) : Goes p e below T (mkF m pc L S) P := by
  subst hp
  obtain ⟨T', h', X', e', E', A', D', -, st⟩ := Jvm.RoadKit.newO X hx hZ hown w wi wz eT (g := mkF m pc L S) rfl hd hc hl
  exact Goes.via st (q T' h' _ rfl X' e' E' A' D')
theorem G.initO (X : Stand p l e R s m args below meth c T locs cells slots) (hx : p.tables.exec = Jvm.exec) (hZ : Z.Warmed39 s.vm) {own : String} {idx : Nat} (hown : s.vm.findClass own = some m.cls) (w1 : (Cond.methodLink own idx Lib.objectInit).before a0 Z = true) (w2 : (Cond.instanceMethod Lib.objectInit).before a0 Z = true) (w3 : (Cond.code Lib.objectInit ⟨#[0xb1]⟩ 1 none).before a0 Z = true) (eT : T.heap = h) (hsz : L.size = c.maxLocals) (hd : decode c.code pc = .ok (.invokespecial idx, 3)) (hf : 1 ≤ R.frames) {W : Nat} (hW : (S.map fun v => v.category).sum ≤ W) (hl : W + 12 ≤ R.locals) (hp : pc + 3 = pc')
    (q : ∀ T', Stand p l e R s m args below meth c T' locs cells slots → T'.heap = h → Goes p e below T' (mkF m pc' L S) P) : Goes p e below T (mkF m pc L (.ref a :: S)) P := by
  subst hp
  obtain ⟨T', X', e', st⟩ := Jvm.RoadKit.initO X hx hZ hown w1 w2 w3 eT (g := mkF m pc L (.ref a :: S)) rfl hsz rfl hd hf (W := W) (by show 2 * 0 + _ ≤ _; omega) hl
  exact Goes.via st (q T' X' e')
/-- an array's components, in order -/
def Seq (Z : State) (h : Heap) (a : Addr) (ty : FieldType) (vs : List Value) : Prop := ∃ cl : Cell, Arr Z h a cl ty ∧ cl.slots.toList = vs ∧ vs.length < 2 ^ 31
variable {vs : List Value} {ty : FieldType} {j : Int32}
theorem Seq.lt (F : Seq Z h a ty vs) : a < h.size := by obtain ⟨_, A, -⟩ := F; exact A.lt
theorem Seq.ext (F : Seq Z h a ty vs) (E : Ext h h') : Seq Z h' a ty vs := by obtain ⟨cl, A, r⟩ := F; exact ⟨cl, A.ext E, r⟩
theorem Seq.other {w : Value} (F : Seq Z h b ty vs) (W : Wr h h' a sl w) (q : b ≠ a) : Seq Z h' b ty vs := by obtain ⟨cl, A, r⟩ := F; exact ⟨cl, A.other W q, r⟩
theorem Seq.keep (F : Seq Z h a ty vs) (K : Keep h h' ws) (q : a ∉ ws) : Seq Z h' a ty vs := by obtain ⟨cl, A, r⟩ := F; exact ⟨cl, ⟨K.2.1 a cl A.1 q, A.2⟩, r⟩
theorem Seq.new {k : ClassId} {z : Int32} (A : Arr Z h a (newA k ty z) ty) (n : Nat) (hn : z.toNatClampNeg = n) : Seq Z h a ty (List.replicate n (defaultValue ty)) := by
  refine ⟨_, A, by rw [← hn]; simp [newA], ?_⟩
  rw [List.length_replicate, ← hn]
  have := Int32.toInt_lt z
  simp only [Int32.toNatClampNeg]
  omega
theorem Seq.at (F : Seq Z h a ty vs) (hj : ¬ j < 0) (hv : vs[j.toNatClampNeg]? = some v) : ∃ cl : Cell, h[a]? = some cl ∧ Z.isArrayOf cl ty ∧ cl.vm ≠ .unknown ∧ ¬ (j < 0 ∨ cl.slots.size ≤ j.toNatClampNeg) ∧ cl.slots[j.toNatClampNeg]? = some v := by
  obtain ⟨cl, A, rfl, hl⟩ := F
  rw [Array.getElem?_toList] at hv
  exact ⟨cl, A.1, A.2.1, A.2.2, fun q => q.elim hj fun q => by have := (Array.getElem?_eq_some_iff.mp hv).1; omega, hv⟩
theorem Seq.set (F : Seq Z h a ty vs) (W : Wr h h' a j.toNatClampNeg v) : Seq Z h' a ty (vs.set j.toNatClampNeg v) := by
  obtain ⟨cl, A, rfl, hl⟩ := F
  exact ⟨_, A.same W, by simp [Cell.setSlot], by simpa using hl⟩
theorem Seq.inb (F : Seq Z h a ty vs) (hj : ¬ j < 0) (hi : j.toNatClampNeg < vs.length) : ∃ cl : Cell, Arr Z h a cl ty ∧ ¬ (j < 0 ∨ cl.slots.size ≤ j.toNatClampNeg) := by
  obtain ⟨cl, A, rfl, hl⟩ := F
  exact ⟨cl, A, fun q => q.elim hj fun q => by rw [Array.length_toList] at hi; omega⟩
theorem G.newP (X : Stand p l e R s m args below meth c T locs cells slots) (hx : p.tables.exec = Jvm.exec) (hZ : Z.Warmed39 s.vm) {aty : ArrayType} (w : (Cond.arrayClass (newarray.typeOf aty)).before a0 Z = true) (eT : T.heap = h) (hd : decode c.code pc = .ok (.newarray aty, 2)) {z : Int32} (hz : ¬ z < 0) {cap n : Nat} (hn : z.toNatClampNeg = n) (hcap : n ≤ cap) (hb : cap * 8 ≤ 536870912) (hc : cells + 1 ≤ R.cells) (hl : slots + cap ≤ R.slots) (hp : pc + 2 = pc')
    (q : ∀ T' h' a, a = h.size → Stand p l e R s m args below meth c T' locs (cells + 1) (slots + cap) → T'.heap = h' → Ext h h' → Seq Z h' a (newarray.typeOf aty) (List.replicate n (defaultValue (newarray.typeOf aty))) → Goes p e below T' (mkF m pc' L (.ref a :: S)) P) : Goes p e below T (mkF m pc L (.int z :: S)) P := by
  subst hp
  obtain ⟨T', h', k, X', e', E', A', st⟩ := Jvm.RoadKit.newP X hx hZ w eT (g := mkF m pc L (.int z :: S)) rfl hd rfl hz (cap := cap) (hn ▸ hcap) hb hc hl
  exact Goes.via st (q T' h' _ rfl X' e' E' (Seq.new A' n hn))
theorem G.arraylength (X : Stand p l e R s m args below meth c T locs cells slots) (hx : p.tables.exec = Jvm.exec) (hZ : Z.Warmed39 s.vm) (eT : T.heap = h) (F : Seq Z h a ty vs) (hd : decode c.code pc = .ok (.arraylength, 1)) {z : Int32} (hz : vs.length.toInt32 = z) (hp : pc + 1 = pc') (q : Goes p e below T (mkF m pc' L (.int z :: S)) P) : Goes p e below T (mkF m pc L (.ref a :: S)) P := by
  subst hp
  obtain ⟨cl, A, rfl, hl⟩ := F
  rw [Array.length_toList] at hz
  subst hz
  exact Goes.via (fun t u => X.arraylength hx (by rw [eT]; exact A.1) (State.isArrayOf_alike hZ.alike A.2.1) (g := mkF m pc L (.ref a :: S)) rfl rfl hd t u) q
theorem G.iaload (X : Stand p l e R s m args below meth c T locs cells slots) (hx : p.tables.exec = Jvm.exec) (hZ : Z.Warmed39 s.vm) (eT : T.heap = h) (F : Seq Z h a .int vs) (hd : decode c.code pc = .ok (.iaload, 1)) (hj : ¬ j < 0) (hv : vs[j.toNatClampNeg]? = some v) (hp : pc + 1 = pc') (q : Goes p e below T (mkF m pc' L (v :: S)) P) : Goes p e below T (mkF m pc L (.int j :: .ref a :: S)) P := by
  subst hp
  obtain ⟨cl, q1, q2, q3, q4, q5⟩ := F.at hj hv
  exact Goes.via (fun t u => X.iaload hx (by rw [eT]; exact q1) (State.isArrayOf_alike hZ.alike q2) q3 q4 q5 (g := mkF m pc L (.int j :: .ref a :: S)) rfl rfl hd t u) q
theorem G.laload (X : Stand p l e R s m args below meth c T locs cells slots) (hx : p.tables.exec = Jvm.exec) (hZ : Z.Warmed39 s.vm) (eT : T.heap = h) (F : Seq Z h a .long vs) (hd : decode c.code pc = .ok (.laload, 1)) (hj : ¬ j < 0) (hv : vs[j.toNatClampNeg]? = some v) (hp : pc + 1 = pc') (q : Goes p e below T (mkF m pc' L (v :: S)) P) : Goes p e below T (mkF m pc L (.int j :: .ref a :: S)) P := by
  subst hp
  obtain ⟨cl, q1, q2, q3, q4, q5⟩ := F.at hj hv
  exact Goes.via (fun t u => X.laload hx (by rw [eT]; exact q1) (State.isArrayOf_alike hZ.alike q2) q3 q4 q5 (g := mkF m pc L (.int j :: .ref a :: S)) rfl rfl hd t u) q
theorem G.baload (X : Stand p l e R s m args below meth c T locs cells slots) (hx : p.tables.exec = Jvm.exec) (hZ : Z.Warmed39 s.vm) (eT : T.heap = h) (F : Seq Z h a .byte vs) (hd : decode c.code pc = .ok (.baload, 1)) (hj : ¬ j < 0) (hv : vs[j.toNatClampNeg]? = some v) (hp : pc + 1 = pc') (q : Goes p e below T (mkF m pc' L (v :: S)) P) : Goes p e below T (mkF m pc L (.int j :: .ref a :: S)) P := by
  subst hp
  obtain ⟨cl, q1, q2, q3, q4, q5⟩ := F.at hj hv
  exact Goes.via (fun t u => X.baloadBytes hx (by rw [eT]; exact q1) (State.isArrayOf_alike hZ.alike q2) q3 q4 q5 (g := mkF m pc L (.int j :: .ref a :: S)) rfl rfl hd t u) q
theorem G.zaload (X : Stand p l e R s m args below meth c T locs cells slots) (hx : p.tables.exec = Jvm.exec) (hZ : Z.Warmed39 s.vm) (eT : T.heap = h) (F : Seq Z h a .boolean vs) (hd : decode c.code pc = .ok (.baload, 1)) (hj : ¬ j < 0) (hv : vs[j.toNatClampNeg]? = some v) (hp : pc + 1 = pc') (q : Goes p e below T (mkF m pc' L (v :: S)) P) : Goes p e below T (mkF m pc L (.int j :: .ref a :: S)) P := by
  subst hp
  obtain ⟨cl, q1, q2, q3, q4, q5⟩ := F.at hj hv
  exact Goes.via (fun t u => X.baloadBooleans hx (by rw [eT]; exact q1) (State.isArrayOf_alike hZ.alike q2) q3 q4 q5 (g := mkF m pc L (.int j :: .ref a :: S)) rfl rfl hd t u) q
theorem G.caload (X : Stand p l e R s m args below meth c T locs cells slots) (hx : p.tables.exec = Jvm.exec) (hZ : Z.Warmed39 s.vm) (eT : T.heap = h) (F : Seq Z h a .char vs) (hd : decode c.code pc = .ok (.caload, 1)) (hj : ¬ j < 0) (hv : vs[j.toNatClampNeg]? = some v) (hp : pc + 1 = pc') (q : Goes p e below T (mkF m pc' L (v :: S)) P) : Goes p e below T (mkF m pc L (.int j :: .ref a :: S)) P := by
  subst hp
  obtain ⟨cl, q1, q2, q3, q4, q5⟩ := F.at hj hv
  exact Goes.via (fun t u => X.caload hx (by rw [eT]; exact q1) (State.isArrayOf_alike hZ.alike q2) q3 q4 q5 (g := mkF m pc L (.int j :: .ref a :: S)) rfl rfl hd t u) q
theorem G.aaload (X : Stand p l e R s m args below meth c T locs cells slots) (hx : p.tables.exec = Jvm.exec) (hZ : Z.Warmed39 s.vm) (eT : T.heap = h) (F : Seq Z h a ty vs) (hty : ty.isReference = true) (hd : decode c.code pc = .ok (.aaload, 1)) (hj : ¬ j < 0) (hv : vs[j.toNatClampNeg]? = some v) (hp : pc + 1 = pc') (q : Goes p e below T (mkF m pc' L (v :: S)) P) : Goes p e below T (mkF m pc L (.int j :: .ref a :: S)) P := by
  subst hp
  obtain ⟨cl, q1, q2, q3, q4, q5⟩ := F.at hj hv
  exact Goes.via (fun t u => X.aaload hx (by rw [eT]; exact q1) (State.isArrayOf_alike hZ.alike q2) hty q3 q4 q5 (g := mkF m pc L (.int j :: .ref a :: S)) rfl rfl hd t u) q
theorem G.iastore (X : Stand p l e R s m args below meth c T locs cells slots) (hx : p.tables.exec = Jvm.exec) (hZ : Z.Warmed39 s.vm) (eT : T.heap = h) (F : Seq Z h a .int vs) {x : Int32} (hd : decode c.code pc = .ok (.iastore, 1)) (hj : ¬ j < 0) (hi : j.toNatClampNeg < vs.length) (hp : pc + 1 = pc')
    (q : ∀ T' h', Stand p l e R s m args below meth c T' (locs ++ [⟨a, j.toNatClampNeg⟩]) cells slots → T'.heap = h' → Wr h h' a j.toNatClampNeg (.int x) → Seq Z h' a .int (vs.set j.toNatClampNeg (.int x)) → Goes p e below T' (mkF m pc' L S) P) : Goes p e below T (mkF m pc L (.int x :: .int j :: .ref a :: S)) P := by
  subst hp
  obtain ⟨cl, A, hj'⟩ := F.inb hj hi
  obtain ⟨T', h', X', e', W', st⟩ := Jvm.RoadKit.stI X hx hZ eT A hj' (g := mkF m pc L (.int x :: .int j :: .ref a :: S)) rfl rfl hd
  exact Goes.via st (q T' h' X' e' W' (F.set W'))
theorem G.lastore (X : Stand p l e R s m args below meth c T locs cells slots) (hx : p.tables.exec = Jvm.exec) (hZ : Z.Warmed39 s.vm) (eT : T.heap = h) (F : Seq Z h a .long vs) {x : Int64} (hd : decode c.code pc = .ok (.lastore, 1)) (hj : ¬ j < 0) (hi : j.toNatClampNeg < vs.length) (hp : pc + 1 = pc')
    (q : ∀ T' h', Stand p l e R s m args below meth c T' (locs ++ [⟨a, j.toNatClampNeg⟩]) cells slots → T'.heap = h' → Wr h h' a j.toNatClampNeg (.long x) → Seq Z h' a .long (vs.set j.toNatClampNeg (.long x)) → Goes p e below T' (mkF m pc' L S) P) : Goes p e below T (mkF m pc L (.long x :: .int j :: .ref a :: S)) P := by
  subst hp
  obtain ⟨cl, A, hj'⟩ := F.inb hj hi
  obtain ⟨T', h', X', e', W', st⟩ := Jvm.RoadKit.stJ X hx hZ eT A hj' (g := mkF m pc L (.long x :: .int j :: .ref a :: S)) rfl rfl hd
  exact Goes.via st (q T' h' X' e' W' (F.set W'))
theorem G.bastore (X : Stand p l e R s m args below meth c T locs cells slots) (hx : p.tables.exec = Jvm.exec) (hZ : Z.Warmed39 s.vm) (eT : T.heap = h) (F : Seq Z h a .byte vs) {x : Int32} (hd : decode c.code pc = .ok (.bastore, 1)) (hj : ¬ j < 0) (hi : j.toNatClampNeg < vs.length) (hp : pc + 1 = pc')
    (q : ∀ T' h', Stand p l e R s m args below meth c T' (locs ++ [⟨a, j.toNatClampNeg⟩]) cells slots → T'.heap = h' → Wr h h' a j.toNatClampNeg (.int (nar .byte x)) → Seq Z h' a .byte (vs.set j.toNatClampNeg (.int (nar .byte x))) → Goes p e below T' (mkF m pc' L S) P) : Goes p e below T (mkF m pc L (.int x :: .int j :: .ref a :: S)) P := by
  subst hp
  obtain ⟨cl, A, hj'⟩ := F.inb hj hi
  obtain ⟨T', h', X', e', W', st⟩ := Jvm.RoadKit.stB X hx hZ eT A hj' (g := mkF m pc L (.int x :: .int j :: .ref a :: S)) rfl rfl hd
  exact Goes.via st (q T' h' X' e' W' (F.set W'))
theorem G.zastore (X : Stand p l e R s m args below meth c T locs cells slots) (hx : p.tables.exec = Jvm.exec) (hZ : Z.Warmed39 s.vm) (eT : T.heap = h) (F : Seq Z h a .boolean vs) {x : Int32} (hd : decode c.code pc = .ok (.bastore, 1)) (hj : ¬ j < 0) (hi : j.toNatClampNeg < vs.length) (hp : pc + 1 = pc')
    (q : ∀ T' h', Stand p l e R s m args below meth c T' (locs ++ [⟨a, j.toNatClampNeg⟩]) cells slots → T'.heap = h' → Wr h h' a j.toNatClampNeg (.int (nar .boolean x)) → Seq Z h' a .boolean (vs.set j.toNatClampNeg (.int (nar .boolean x))) → Goes p e below T' (mkF m pc' L S) P) : Goes p e below T (mkF m pc L (.int x :: .int j :: .ref a :: S)) P := by
  subst hp
  obtain ⟨cl, A, hj'⟩ := F.inb hj hi
  obtain ⟨T', h', X', e', W', st⟩ := Jvm.RoadKit.stZ X hx hZ eT A hj' (g := mkF m pc L (.int x :: .int j :: .ref a :: S)) rfl rfl hd
  exact Goes.via st (q T' h' X' e' W' (F.set W'))
theorem G.castore (X : Stand p l e R s m args below meth c T locs cells slots) (hx : p.tables.exec = Jvm.exec) (hZ : Z.Warmed39 s.vm) (eT : T.heap = h) (F : Seq Z h a .char vs) {x : Int32} (hd : decode c.code pc = .ok (.castore, 1)) (hj : ¬ j < 0) (hi : j.toNatClampNeg < vs.length) (hp : pc + 1 = pc')
    (q : ∀ T' h', Stand p l e R s m args below meth c T' (locs ++ [⟨a, j.toNatClampNeg⟩]) cells slots → T'.heap = h' → Wr h h' a j.toNatClampNeg (.int (nar .char x)) → Seq Z h' a .char (vs.set j.toNatClampNeg (.int (nar .char x))) → Goes p e below T' (mkF m pc' L S) P) : Goes p e below T (mkF m pc L (.int x :: .int j :: .ref a :: S)) P := by
  subst hp
  obtain ⟨cl, A, hj'⟩ := F.inb hj hi
  obtain ⟨T', h', X', e', W', st⟩ := Jvm.RoadKit.stC X hx hZ eT A hj' (g := mkF m pc L (.int x :: .int j :: .ref a :: S)) rfl rfl hd
  exact Goes.via st (q T' h' X' e' W' (F.set W'))
variable {y : MethodName} {bytes : ByteArray} {maxL : Nat} {ret : Option FieldType} {rm : Room} {argsL S0 : List Value} {W : Nat} {QQ : Option Value → Heap → List Loc → Prop}
theorem G.callS (X : Stand p l e R s m args below meth c T locs cells slots) (hx : p.tables.exec = Jvm.exec) (hZ : Z.Warmed39 s.vm) {own : String} {index : Nat} (hown : s.vm.findClass own = some m.cls) (w1 : (Cond.methodLink own index y).before a0 Z = true) (w2 : (Cond.static y).before a0 Z = true) (w3 : (Cond.initialized y.cls).before a0 Z = true) (w4 : (Cond.code y bytes maxL ret).before a0 Z = true)
    (hy : y.cls ≠ "java/lang/invoke/MethodHandle" ∧ y.cls ≠ "java/lang/invoke/VarHandle") (eT : T.heap = h) (hC : Con l y bytes maxL ret rm Z argsL.toArray h QQ) (hlen : ∀ sig, parseMethodDescriptor y.desc = some sig → argsL.length = sig.parameters.length) (hst : S0 = argsL.reverse ++ S) (hW : (S.map fun v => v.category).sum ≤ W)
    (hf : rm.frames + 1 ≤ R.frames) (hl : W + (maxL + 11) + rm.locals ≤ R.locals) (hc : cells + rm.cells ≤ R.cells) (hs : slots + rm.slots ≤ R.slots) (hsz : L.size = c.maxLocals) (hd : decode c.code pc = .ok (.invokestatic index, 3)) (hp : pc + 3 = pc')
    (q : ∀ T' v Lc, QQ v T'.heap Lc → Stand p l e R s m args below meth c T' (locs ++ Lc) (cells + rm.cells) (slots + rm.slots) → Goes p e below T' (mkF m pc' L (v.toList ++ S)) P) : Goes p e below T (mkF m pc L S0) P := by
  subst hp
  obtain ⟨v, vm1, ⟨T', L1, k1, n1⟩, hw1, X', ⟨Lc, hQ, l1, y1, z1⟩, st⟩ := Jvm.LawKit.callS X hx (y := y) hown (mvT hZ w1) (mvT hZ w2) (mvT hZ w3) (mvT hZ w4) hy (hC.back (W := W) hZ w4 w3 hf hl) (g := mkF m pc L S0) rfl hsz (argsL := argsL) (rest := S) hlen hst (by show 2 * 0 + _ ≤ _; omega) hd (fun _ _ => ⟨rfl, eT, hc, hs⟩)
  dsimp only [Pt.U, Pt.locs, Pt.cells, Pt.slots] at X' l1 y1 z1 st hQ
  subst l1 y1 z1
  exact Goes.via st (q T' v Lc hQ X')
theorem G.callI (X : Stand p l e R s m args below meth c T locs cells slots) (hx : p.tables.exec = Jvm.exec) (hZ : Z.Warmed39 s.vm) {own : String} {index : Nat} (hy1 : y.name = "<init>") (hown : s.vm.findClass own = some m.cls) (w1 : (Cond.methodLink own index y).before a0 Z = true) (w2 : (Cond.instanceMethod y).before a0 Z = true) (w3 : (Cond.initialized y.cls).before a0 Z = true) (w4 : (Cond.code y bytes maxL none).before a0 Z = true)
    (hy : y.cls ≠ "java/lang/invoke/MethodHandle" ∧ y.cls ≠ "java/lang/invoke/VarHandle") (eT : T.heap = h) (hC : Con l y bytes maxL none rm Z (.ref a :: argsL).toArray h QQ) (hlen : ∀ sig, parseMethodDescriptor y.desc = some sig → argsL.length = sig.parameters.length) (hst : S0 = argsL.reverse ++ .ref a :: S) (hW : (S.map fun v => v.category).sum ≤ W)
    (hf : rm.frames + 1 ≤ R.frames) (hl : W + (maxL + 11) + rm.locals ≤ R.locals) (hc : cells + rm.cells ≤ R.cells) (hs : slots + rm.slots ≤ R.slots) (hsz : L.size = c.maxLocals) (hd : decode c.code pc = .ok (.invokespecial index, 3)) (hp : pc + 3 = pc')
    (q : ∀ T' v Lc, QQ v T'.heap Lc → Stand p l e R s m args below meth c T' (locs ++ Lc) (cells + rm.cells) (slots + rm.slots) → Goes p e below T' (mkF m pc' L (v.toList ++ S)) P) : Goes p e below T (mkF m pc L S0) P := by
  subst hp
  obtain ⟨v, vm1, ⟨T', L1, k1, n1⟩, hw1, X', ⟨Lc, hQ, l1, y1, z1⟩, st⟩ := X.specialBack hx (y := y) hy1 hown (mvT hZ w1) (mvT hZ w2) (mvT hZ w4) hy (hC.back (W := W) hZ w4 w3 hf hl) (g := mkF m pc L S0) rfl hsz (Steps.refl _) (a := a) (argsL := argsL) (rest := S) hlen hst (by show 2 * 0 + _ ≤ _; omega) hd (fun _ _ => ⟨rfl, eT, hc, hs⟩)
  dsimp only [Pt.U, Pt.locs, Pt.cells, Pt.slots] at X' l1 y1 z1 st hQ
  subst l1 y1 z1
  exact Goes.thru st (q T' v Lc hQ X')
theorem G.callV (X : Stand p l e R s m args below meth c T locs cells slots) (hx : p.tables.exec = Jvm.exec) (hZ : Z.Warmed39 s.vm) {own C : String} {index : Nat} {y0 : MethodName} (hown : s.vm.findClass own = some m.cls) (w1 : (Cond.methodLink own index y0).before a0 Z = true) (w2 : (Cond.declares y0).before a0 Z = true) (hnf : NotFace s y0) (w3 : (Cond.selects C y0 y).before a0 Z = true) (w4 : (Cond.instanceMethod y).before a0 Z = true) (w5 : (Cond.initialized y.cls).before a0 Z = true) (w6 : (Cond.code y bytes maxL ret).before a0 Z = true)
    (hy : y0.cls ≠ "java/lang/invoke/MethodHandle" ∧ y0.cls ≠ "java/lang/invoke/VarHandle") (eT : T.heap = h) (E : Exa Z h a C) (hC : Con l y bytes maxL ret rm Z (.ref a :: argsL).toArray h QQ) (hlen : ∀ sig, parseMethodDescriptor y0.desc = some sig → argsL.length = sig.parameters.length) (hst : S0 = argsL.reverse ++ .ref a :: S) (hW : (S.map fun v => v.category).sum ≤ W)
    (hf : rm.frames + 1 ≤ R.frames) (hl : W + (maxL + 11) + rm.locals ≤ R.locals) (hc : cells + rm.cells ≤ R.cells) (hs : slots + rm.slots ≤ R.slots) (hsz : L.size = c.maxLocals) (hd : decode c.code pc = .ok (.invokevirtual index, 3)) (hp : pc + 3 = pc')
    (q : ∀ T' v Lc, QQ v T'.heap Lc → Stand p l e R s m args below meth c T' (locs ++ Lc) (cells + rm.cells) (slots + rm.slots) → Goes p e below T' (mkF m pc' L (v.toList ++ S)) P) : Goes p e below T (mkF m pc L S0) P := by
  subst hp
  obtain ⟨cB, kB, i1, i2, i3⟩ := isOf hZ eT E
  obtain ⟨v, vm1, ⟨T', L1, k1, n1⟩, hw1, X', ⟨Lc, hQ, l1, y1, z1⟩, st⟩ := X.virtualBack hx (y := y0) (z := y) hown (mvT hZ w1) (mvT hZ w2) hnf (mvT hZ w3) (mvT hZ w4) hy (hC.back (W := W) hZ w6 w5 hf hl) i1 i3 (g := mkF m pc L S0) rfl hsz (Steps.refl _) (argsL := argsL) (rest := S) hlen hst (by show 2 * 0 + _ ≤ _; omega) hd (fun _ _ => ⟨rfl, eT, hc, hs⟩)
  dsimp only [Pt.U, Pt.locs, Pt.cells, Pt.slots] at X' l1 y1 z1 st hQ
  subst l1 y1 z1
  exact Goes.thru st (q T' v Lc hQ X')
def Pur (v0 : Option Value) (h0 : Heap) (v : Option Value) (h : Heap) (L : List Loc) : Prop := v = v0 ∧ h = h0 ∧ L = []
theorem Seq.arv (F : Seq Z h a ty vs) (hf : ∀ v ∈ vs, fits ty v = true) {z : Int32} (hz : z.toNatClampNeg = vs.length) (hz0 : ¬ z < 0) (dv : Value) : ∃ k, Arv Z h a k ty z vs dv := by
  obtain ⟨cl, A, rfl, hl⟩ := F
  rw [Array.length_toList] at hz
  have hg : ∀ i, i < cl.slots.size → cl.slots[i]? = some (cl.slots.toList.getD i dv) := fun i hi => by
    rw [List.getD_eq_getElem?_getD, Array.getElem?_toList, Array.getElem?_eq_getElem hi]; rfl
  refine ⟨cl.cls, cl, A, rfl, hz.symm, hz0, hg, fun i hi => hf _ ?_⟩
  have := hg i hi
  rw [Array.getElem?_eq_getElem hi] at this
  rw [← Option.some.inj this]
  exact Array.mem_toList_iff.mpr (Array.getElem_mem hi)
theorem Arv.seq {k : ClassId} {z : Int32} {dv : Value} (F : Arv Z h a k ty z vs dv) (hl : vs.length = z.toNatClampNeg) : Seq Z h a ty vs := by
  obtain ⟨cl, A, -, S, hz, H, -⟩ := F
  refine ⟨cl, A, ?_, ?_⟩
  · apply List.ext_getElem?
    intro i
    rw [Array.getElem?_toList]
    by_cases hi : i < cl.slots.size
    · rw [H i hi, List.getD_eq_getElem?_getD, List.getElem?_eq_getElem (by omega)]; rfl
    · rw [Array.getElem?_eq_none (by omega), List.getElem?_eq_none (by omega)]
  · have := Int32.toInt_lt z
    rw [hl]; simp only [Int32.toNatClampNeg]; omega
/-- System.arraycopy of the whole int[] a into the head of the int[] b -/
theorem G.copyInts (X : Stand p l e R s m args below meth c T locs cells slots) (hx : p.tables.exec = Jvm.exec) (hZ : Z.Warmed39 s.vm) {own : String} {index : Nat} (hown : s.vm.findClass own = some m.cls) (w1 : (Cond.methodLink own index Jvm.Stand.acN).before a0 Z = true) (w2 : (Cond.native Jvm.Stand.acN).before a0 Z = true) (w3 : (Cond.static Jvm.Stand.acN).before a0 Z = true) (w4 : (Cond.initialized "java/lang/System").before a0 Z = true) (eT : T.heap = h)
    {xs ys : List Value} (A : Seq Z h a .int xs) (B : Seq Z h b .int ys) (hfx : ∀ v ∈ xs, fits .int v = true) (hfy : ∀ v ∈ ys, fits .int v = true) {z z' : Int32} (hz : z.toNatClampNeg = xs.length) (hz0 : ¬ z < 0) (hz' : z'.toNatClampNeg = ys.length) (hz0' : ¬ z' < 0) (hle : xs.length ≤ ys.length) {n0 : Nat} (N : Fr n0 locs) (ge : n0 ≤ b)
    (hsz : L.size = c.maxLocals) (hd : decode c.code pc = .ok (.invokestatic index, 3)) (hf : 1 ≤ R.frames) {W : Nat} (hW : (S.map fun v => v.category).sum ≤ W) (hlo : W + (nativeFrameWords "java/lang/System" "arraycopy" 5 + 11) ≤ R.locals) (hp : pc + 3 = pc')
    (q : ∀ T' h' L', Stand p l e R s m args below meth c T' L' cells slots → T'.heap = h' → Fr n0 L' → Keep h h' [b] → Seq Z h' b .int (xs ++ ys.drop xs.length) → Goes p e below T' (mkF m pc' L S) P) : Goes p e below T (mkF m pc L (.int z :: .int (0 : Int32) :: .ref b :: .int (0 : Int32) :: .ref a :: S)) P := by
  subst hp
  obtain ⟨ka, FA⟩ := A.arv hfx hz hz0 (.int 0)
  obtain ⟨kb, FB⟩ := B.arv hfy hz' hz0' (.int 0)
  have e0 : (0 : Int32).toNatClampNeg = 0 := rfl
  have hus : xs = (List.range z.toNatClampNeg).map fun i => xs.getD ((0 : Int32).toNatClampNeg + i) (.int 0) := by
    refine List.ext_getElem (by simp [hz]) fun i h1 h2 => ?_
    simp [List.getD_eq_getElem?_getD, h1, e0]
  obtain ⟨T', h', L', X', e', N', K', F', st⟩ := Jvm.RoadKit.cpA X hx hZ hown w1 w2 w3 w4 eT (us := xs) FA FB (Or.inl ⟨rfl, rfl⟩) (sp := 0) (dp := 0) (nn := z) (by decide) (by decide) hz0 (by rw [e0]; omega) (by rw [e0]; omega) hus (by rw [e0]; omega) N ge (g := mkF m pc L (.int z :: .int (0 : Int32) :: .ref b :: .int (0 : Int32) :: .ref a :: S)) rfl hsz rfl hd hf (W := W) (by show 2 * 0 + _ ≤ _; omega) hlo
  refine Goes.via st (q T' h' L' X' e' N' K' ?_)
  have := Arv.seq F' (by rw [e0]; simp; omega)
  rw [e0, hz] at this
  simpa using this
theorem sel_priv {s : State} {args : Array Value} {n : Nat} (hins : (Cond.instantiable y.cls n).before args s = true) (hpriv : (Cond.privateMethod y).before args s = true) (hinst : (Cond.instanceMethod y).before args s = true) (hy : y.cls ≠ "java/lang/invoke/MethodHandle" ∧ y.cls ≠ "java/lang/invoke/VarHandle") : (Cond.selects y.cls y y).before args s = true := by
  obtain ⟨c, k, hc, hk, -, hniab, -, -⟩ := Cond.instantiable_spec hins
  have hni : k.isInterface = false := (Bool.or_eq_false_iff.mp hniab).1
  obtain ⟨mk, methM, hnamed, hmethM, -, -⟩ := Cond.instanceMethod_spec hinst
  have hfound : s.methodFound? y.cls y.name y.desc = some mk := State.methodFound?_of_named hnamed hy
  have hcls : mk.cls = c := Option.some.inj ((findClass_of_methodNamed hnamed).symm.trans hc)
  have hsel : selectMethod {} s.vm c mk = .method mk := selectMethod_private hmethM (Cond.privateMethod_at hpriv mk methM hnamed hmethM)
  simp only [Cond.before, Cond.holds, Cond.value, hc, hfound, hnamed, hsel, hcls, hk]
  simp; exact hni
theorem G.callP (X : Stand p l e R s m args below meth c T locs cells slots) (hx : p.tables.exec = Jvm.exec) (hZ : Z.Warmed39 s.vm) {own : String} {index : Nat} (hown : s.vm.findClass own = some m.cls) (w1 : (Cond.methodLink own index y).before a0 Z = true) (w2 : (Cond.instanceMethod y).before a0 Z = true) {kk : Nat} (w3 : (Cond.instantiable y.cls kk).before a0 Z = true) (w4 : (Cond.privateMethod y).before a0 Z = true) (w5 : (Cond.initialized y.cls).before a0 Z = true) (w6 : (Cond.code y bytes maxL ret).before a0 Z = true)
    (hy : y.cls ≠ "java/lang/invoke/MethodHandle" ∧ y.cls ≠ "java/lang/invoke/VarHandle") (eT : T.heap = h) {C : String} (E : Exa Z h a C) (hC : Con l y bytes maxL ret rm Z (.ref a :: argsL).toArray h QQ) (hlen : ∀ sig, parseMethodDescriptor y.desc = some sig → argsL.length = sig.parameters.length) (hst : S0 = argsL.reverse ++ .ref a :: S) (hW : (S.map fun v => v.category).sum ≤ W)
    (hf : rm.frames + 1 ≤ R.frames) (hl : W + (maxL + 11) + rm.locals ≤ R.locals) (hc : cells + rm.cells ≤ R.cells) (hs : slots + rm.slots ≤ R.slots) (hsz : L.size = c.maxLocals) (hd : decode c.code pc = .ok (.invokevirtual index, 3)) (hp : pc + 3 = pc')
    (q : ∀ T' v Lc, QQ v T'.heap Lc → Stand p l e R s m args below meth c T' (locs ++ Lc) (cells + rm.cells) (slots + rm.slots) → Goes p e below T' (mkF m pc' L (v.toList ++ S)) P) : Goes p e below T (mkF m pc L S0) P := by
  subst hp
  obtain ⟨cl, i1, i2⟩ := E.cell
  obtain ⟨v, vm1, ⟨T', L1, k1, n1⟩, hw1, X', ⟨Lc, hQ, l1, y1, z1⟩, st⟩ := X.privateBack hx (y := y) hown (mvT hZ w1) (mvT hZ w2) (sel_priv (mvT hZ w3) (mvP hZ w4) (mvT hZ w2) hy) (Cond.privateMethod_at (mvP hZ w4 (args := #[]))) (mvT hZ w6) hy (hC.back (W := W) hZ w6 w5 hf hl) (g := mkF m pc L S0) rfl hsz (Steps.refl _) (a := a) (by rw [eT]; exact i1) i2 (argsL := argsL) (rest := S) hlen hst (by show 2 * 0 + _ ≤ _; omega) hd (fun _ _ => ⟨rfl, eT, hc, hs⟩)
  dsimp only [Pt.U, Pt.locs, Pt.cells, Pt.slots] at X' l1 y1 z1 st hQ
  subst l1 y1 z1
  exact Goes.thru st (q T' v Lc hQ X')
theorem Sta.keep0 {C n d : String} (F : Sta Z h C n d v) (K : Keep h h' []) : Sta Z h' C n d v := by
  obtain ⟨cf, i, k, f, st, cell, h1, h2, h3, h4, h5, r⟩ := F
  exact ⟨cf, i, k, f, st, cell, h1, h2, h3, h4, K.2.1 _ _ h5 nin0, r⟩
theorem Goes.join {α : Type} {F : α → JFrame} (k : (∀ z, Goes p e below T (F z) P) → Goes p e below T f P) (hj : ∀ z, Goes p e below T (F z) P) : Goes p e below T f P := k hj
theorem Goes.to (k : Goes p e below T f' P → Goes p e below T f P) (q : Goes p e below T f' P) : Goes p e below T f P := k q
theorem Goes.toT (Φ : State → Prop) (k : (∀ T', Φ T' → Goes p e below T' f' P) → Goes p e below T f P) (q : ∀ T', Φ T' → Goes p e below T' f' P) : Goes p e below T f P := k q
theorem ns_root {O K : String} {n : Nat} (w : (Cond.noSuperclass O).before a0 Z = true) (wk : (Cond.instantiable K n).before a0 Z = true) (hn : O ≠ K) : NS Z O K := by
  obtain ⟨c, k, h1, h2, h3, -, -⟩ := Cond.noSuperclass_spec w
  obtain ⟨t, kt, g1, -⟩ := Cond.instantiable_spec wk
  have ne := ids_ne h1 g1 hn
  refine ⟨c, t, h1, g1, fun fuel => ?_⟩
  cases fuel with
  | zero => rfl
  | succ f => simp [Vm.isSubclassAux, ne, h2, h3]
theorem ns_no {C K S : String} {n : Nat} (w : (Cond.superclass C S).before a0 Z = true) (wk : (Cond.instantiable K n).before a0 Z = true) (N : NS Z C K) (hn : C ≠ K) : ∃ c t, Z.vm.findClass C = some c ∧ Z.vm.findClass K = some t ∧ Z.vm.assignable c t = false := by
  obtain ⟨c, t, h0, g0, n3⟩ := N
  obtain ⟨p, k, kp, h1, h2, h3, h4, h5, -, h7⟩ := Cond.superclass_spec h0 w
  obtain ⟨t', k', g1, g2, g3, g4, -⟩ := Cond.instantiable_spec wk
  cases g0.symm.trans g1
  have g7 : k'.isInterface = false := (Bool.or_eq_false_iff.mp g4).1
  have ne := ids_ne h0 g0 hn
  refine ⟨c, t, h0, g0, ?_⟩
  show Z.vm.assignableAux (255 + 1) c t = false
  simp [Vm.assignableAux, ne, h2, g2, h5, g3, g7, Vm.isSubclass, n3]
theorem G.instY (X : Stand p l e R s m args below meth c T locs cells slots) (hx : p.tables.exec = Jvm.exec) (hZ : Z.Warmed39 s.vm) {own K : String} {index : Nat} (hown : s.vm.findClass own = some m.cls) (w : (Cond.classLink own index K).before a0 Z = true) (eT : T.heap = h) (F : Ins Z h a K true) (hd : decode c.code pc = .ok (.instanceof index, 3)) (hp : pc + 3 = pc')
    (q : ∀ T', Stand p l e R s m args below meth c T' locs cells slots → T'.heap = h → Goes p e below T' (mkF m pc' L (.int (1 : Int32) :: S)) P) : Goes p e below T (mkF m pc L (.ref a :: S)) P := by
  subst hp
  obtain ⟨T', X', e', st⟩ := Jvm.RoadKit.instY X hx hZ hown w eT F (g := mkF m pc L (.ref a :: S)) rfl rfl hd
  exact Goes.via st (q T' X' e')
theorem G.castY (X : Stand p l e R s m args below meth c T locs cells slots) (hx : p.tables.exec = Jvm.exec) (hZ : Z.Warmed39 s.vm) {own K : String} {index : Nat} (hown : s.vm.findClass own = some m.cls) (w : (Cond.classLink own index K).before a0 Z = true) (eT : T.heap = h) (F : Ins Z h a K true) (hd : decode c.code pc = .ok (.checkcast index, 3)) (hp : pc + 3 = pc')
    (q : ∀ T', Stand p l e R s m args below meth c T' locs cells slots → T'.heap = h → Goes p e below T' (mkF m pc' L (.ref a :: S)) P) : Goes p e below T (mkF m pc L (.ref a :: S)) P := by
  subst hp
  obtain ⟨T', X', e', st⟩ := Jvm.RoadKit.castY X hx hZ hown w eT F (g := mkF m pc L (.ref a :: S)) rfl rfl hd
  exact Goes.via st (q T' X' e')
theorem G.instNo (X : Stand p l e R s m args below meth c T locs cells slots) (hx : p.tables.exec = Jvm.exec) (hZ : Z.Warmed39 s.vm) {own K C : String} {index : Nat} (hown : s.vm.findClass own = some m.cls) (w : (Cond.classLink own index K).before a0 Z = true) (eT : T.heap = h) (E : Exa Z h a C) (F : ∃ c t, Z.vm.findClass C = some c ∧ Z.vm.findClass K = some t ∧ Z.vm.assignable c t = false) (hd : decode c.code pc = .ok (.instanceof index, 3)) (hp : pc + 3 = pc')
    (q : ∀ T', Stand p l e R s m args below meth c T' locs cells slots → T'.heap = h → Goes p e below T' (mkF m pc' L (.int (0 : Int32) :: S)) P) : Goes p e below T (mkF m pc L (.ref a :: S)) P := by
  subst hp
  obtain ⟨T', X', e', st⟩ := Jvm.RoadKit.instNo X hx hZ hown w eT E F (g := mkF m pc L (.ref a :: S)) rfl rfl hd
  exact Goes.via st (q T' X' e')
theorem G.instNull (X : Stand p l e R s m args below meth c T locs cells slots) (hx : p.tables.exec = Jvm.exec) {index : Nat} (hd : decode c.code pc = .ok (.instanceof index, 3)) (hp : pc + 3 = pc') (q : Goes p e below T (mkF m pc' L (.int (0 : Int32) :: S)) P) : Goes p e below T (mkF m pc L (.null :: S)) P := by
  subst hp
  exact Goes.via (X.instanceofNull hx (g := mkF m pc L (.null :: S)) rfl rfl hd) q
end G
end Jvm.OwnKit
namespace Jvm.Pilot.@@N@@
open Jvm Jvm.ClassFile Sem Op Lib Jvm.Free Jvm.Stand Jvm.LawKit Jvm.RoadKit Jvm.OwnKit Bundle Jvm.Pilot.@@N@@.Jvm.D
theorem d8_0 : decode jdk_18_method_1_code 0 = .ok (.aload_n 0, 1) := by decide +kernel
theorem d8_1 : decode jdk_18_method_1_code 1 = .ok (.invokespecial 1, 3) := by decide +kernel
theorem d8_4 : decode jdk_18_method_1_code 4 = .ok (.return_, 1) := by decide +kernel
theorem ef8_R (m : MethodId) (x0 : Addr) : entryFrame m #[(.ref x0)] 1 = mkF m 0 #[.val (.ref x0)] [] := by first | (simp [entryFrame, mkF, argsToLocals, Value.category]; done) | rfl
theorem pn_0 : plainName "java/lang/Number" = true := by first | (simp [plainName, overriddenIn]; done) | decide +kernel
theorem d7_0 : decode jdk_35_method_26_code 0 = .ok (.aload_n 0, 1) := by decide +kernel
theorem pd_1 : parseMethodDescriptor "()V" = some ⟨[], none⟩ := by decide +kernel
theorem d7_1 : decode jdk_35_method_26_code 1 = .ok (.invokespecial 270, 3) := by decide +kernel
theorem d7_4 : decode jdk_35_method_26_code 4 = .ok (.aload_n 0, 1) := by decide +kernel
theorem d7_5 : decode jdk_35_method_26_code 5 = .ok (.lload_n 1, 1) := by decide +kernel
theorem d7_6 : decode jdk_35_method_26_code 6 = .ok (.putfield 273, 3) := by decide +kernel
theorem d7_9 : decode jdk_35_method_26_code 9 = .ok (.return_, 1) := by decide +kernel
theorem ef7_RJ (m : MethodId) (x0 : Addr) (x1 : Int64) : entryFrame m #[(.ref x0), (.long x1)] 3 = mkF m 0 #[.val (.ref x0), .val (.long x1), .second] [] := by first | (simp [entryFrame, mkF, argsToLocals, Value.category]; done) | rfl
theorem pn_2 : plainName "java/lang/Long" = true := by first | (simp [plainName, overriddenIn]; done) | decide +kernel
theorem d5_0 : decode jdk_35_method_24_code 0 = .ok (.sipush 128, 3) := by decide +kernel
theorem d5_3 : decode jdk_35_method_24_code 3 = .ok (.istore_n 2, 1) := by decide +kernel
theorem d5_4 : decode jdk_35_method_24_code 4 = .ok (.lload_n 0, 1) := by decide +kernel
theorem d5_5 : decode jdk_35_method_24_code 5 = .ok (.ldc2_w 230, 3) := by decide +kernel
theorem d5_8 : decode jdk_35_method_24_code 8 = .ok (.lcmp, 1) := by decide +kernel
theorem d5_9 : decode jdk_35_method_24_code 9 = .ok (.ifCond .lt 22, 3) := by decide +kernel
theorem d5_31 : decode jdk_35_method_24_code 31 = .ok (.new 1, 3) := by decide +kernel
theorem d5_34 : decode jdk_35_method_24_code 34 = .ok (.dup, 1) := by decide +kernel
theorem d5_35 : decode jdk_35_method_24_code 35 = .ok (.lload_n 0, 1) := by decide +kernel
theorem pd_3 : parseMethodDescriptor "(J)V" = some ⟨[.long], none⟩ := by decide +kernel
theorem d5_36 : decode jdk_35_method_24_code 36 = .ok (.invokespecial 240, 3) := by decide +kernel
theorem d5_39 : decode jdk_35_method_24_code 39 = .ok (.areturn, 1) := by decide +kernel
theorem d5_12 : decode jdk_35_method_24_code 12 = .ok (.lload_n 0, 1) := by decide +kernel
theorem d5_13 : decode jdk_35_method_24_code 13 = .ok (.ldc2_w 232, 3) := by decide +kernel
theorem d5_16 : decode jdk_35_method_24_code 16 = .ok (.lcmp, 1) := by decide +kernel
theorem d5_17 : decode jdk_35_method_24_code 17 = .ok (.ifCond .gt 14, 3) := by decide +kernel
theorem d5_20 : decode jdk_35_method_24_code 20 = .ok (.getstatic 234, 3) := by decide +kernel
theorem d5_23 : decode jdk_35_method_24_code 23 = .ok (.lload_n 0, 1) := by decide +kernel
theorem d5_24 : decode jdk_35_method_24_code 24 = .ok (.l2i, 1) := by decide +kernel
theorem d5_25 : decode jdk_35_method_24_code 25 = .ok (.sipush 128, 3) := by decide +kernel
theorem d5_28 : decode jdk_35_method_24_code 28 = .ok (.iadd, 1) := by decide +kernel
theorem d5_29 : decode jdk_35_method_24_code 29 = .ok (.aaload, 1) := by decide +kernel
theorem d5_30 : decode jdk_35_method_24_code 30 = .ok (.areturn, 1) := by decide +kernel
theorem ef5_J (m : MethodId) (x0 : Int64) : entryFrame m #[(.long x0)] 3 = mkF m 0 #[.val (.long x0), .second, .unset] [] := by first | (simp [entryFrame, mkF, argsToLocals, Value.category]; done) | rfl
theorem d4_0 : decode jdk_29_method_61_code 0 = .ok (.lload_n 0, 1) := by decide +kernel
theorem d4_1 : decode jdk_29_method_61_code 1 = .ok (.lconst 0, 1) := by decide +kernel
theorem d4_2 : decode jdk_29_method_61_code 2 = .ok (.lcmp, 1) := by decide +kernel
theorem d4_3 : decode jdk_29_method_61_code 3 = .ok (.ifCond .ge 8, 3) := by decide +kernel
theorem d4_6 : decode jdk_29_method_61_code 6 = .ok (.lload_n 0, 1) := by decide +kernel
theorem d4_7 : decode jdk_29_method_61_code 7 = .ok (.lneg, 1) := by decide +kernel
theorem d4_8 : decode jdk_29_method_61_code 8 = .ok (.goto 4, 3) := by decide +kernel
theorem d4_12 : decode jdk_29_method_61_code 12 = .ok (.lreturn, 1) := by decide +kernel
theorem d4_11 : decode jdk_29_method_61_code 11 = .ok (.lload_n 0, 1) := by decide +kernel
theorem ef4_J (m : MethodId) (x0 : Int64) : entryFrame m #[(.long x0)] 2 = mkF m 0 #[.val (.long x0), .second] [] := by first | (simp [entryFrame, mkF, argsToLocals, Value.category]; done) | rfl
theorem d3_0 : decode prog_20_method_12_code 0 = .ok (.lload_n 0, 1) := by decide +kernel
theorem d3_1 : decode prog_20_method_12_code 1 = .ok (.lstore 4, 2) := by decide +kernel
theorem d3_3 : decode prog_20_method_12_code 3 = .ok (.lload_n 2, 1) := by decide +kernel
theorem d3_4 : decode prog_20_method_12_code 4 = .ok (.lstore 6, 2) := by decide +kernel
theorem d3_6 : decode prog_20_method_12_code 6 = .ok (.lload 6, 2) := by decide +kernel
theorem d3_8 : decode prog_20_method_12_code 8 = .ok (.lconst 0, 1) := by decide +kernel
theorem d3_9 : decode prog_20_method_12_code 9 = .ok (.lcmp, 1) := by decide +kernel
theorem d3_10 : decode prog_20_method_12_code 10 = .ok (.ifCond .eq 21, 3) := by decide +kernel
theorem d3_13 : decode prog_20_method_12_code 13 = .ok (.lload 4, 2) := by decide +kernel
theorem d3_15 : decode prog_20_method_12_code 15 = .ok (.lload 6, 2) := by decide +kernel
theorem d3_17 : decode prog_20_method_12_code 17 = .ok (.lrem, 1) := by decide +kernel
theorem d3_18 : decode prog_20_method_12_code 18 = .ok (.lstore 8, 2) := by decide +kernel
theorem d3_20 : decode prog_20_method_12_code 20 = .ok (.lload 6, 2) := by decide +kernel
theorem d3_22 : decode prog_20_method_12_code 22 = .ok (.lstore 4, 2) := by decide +kernel
theorem d3_24 : decode prog_20_method_12_code 24 = .ok (.lload 8, 2) := by decide +kernel
theorem d3_26 : decode prog_20_method_12_code 26 = .ok (.lstore 6, 2) := by decide +kernel
theorem d3_28 : decode prog_20_method_12_code 28 = .ok (.goto (-22), 3) := by decide +kernel
theorem d3_31 : decode prog_20_method_12_code 31 = .ok (.lload 4, 2) := by decide +kernel
theorem pd_4 : parseMethodDescriptor "(J)J" = some ⟨[.long], some .long⟩ := by decide +kernel
theorem d3_33 : decode prog_20_method_12_code 33 = .ok (.invokestatic 87, 3) := by decide +kernel
theorem d3_36 : decode prog_20_method_12_code 36 = .ok (.lreturn, 1) := by decide +kernel
theorem ef3_JJ (m : MethodId) (x0 : Int64) (x1 : Int64) : entryFrame m #[(.long x0), (.long x1)] 10 = mkF m 0 #[.val (.long x0), .second, .val (.long x1), .second, .unset, .unset, .unset, .unset, .unset, .unset] [] := by first | (simp [entryFrame, mkF, argsToLocals, Value.category]; done) | rfl
theorem pn_5 : plainName "com/example/netlocus/netlocus/Fraction" = true := by first | (simp [plainName, overriddenIn]; done) | decide +kernel
theorem d1_0 : decode prog_20_method_1_code 0 = .ok (.aload_n 0, 1) := by decide +kernel
theorem d1_1 : decode prog_20_method_1_code 1 = .ok (.invokespecial 1, 3) := by decide +kernel
theorem d1_4 : decode prog_20_method_1_code 4 = .ok (.lload_n 3, 1) := by decide +kernel
theorem d1_5 : decode prog_20_method_1_code 5 = .ok (.lconst 1, 1) := by decide +kernel
theorem d1_6 : decode prog_20_method_1_code 6 = .ok (.lcmp, 1) := by decide +kernel
theorem d1_7 : decode prog_20_method_1_code 7 = .ok (.ifCond .ge 17, 3) := by decide +kernel
theorem d1_24 : decode prog_20_method_1_code 24 = .ok (.lload_n 1, 1) := by decide +kernel
theorem d1_25 : decode prog_20_method_1_code 25 = .ok (.lload_n 3, 1) := by decide +kernel
theorem pd_6 : parseMethodDescriptor "(JJ)J" = some ⟨[.long, .long], some .long⟩ := by decide +kernel
theorem d1_26 : decode prog_20_method_1_code 26 = .ok (.invokestatic 16, 3) := by decide +kernel
theorem d1_29 : decode prog_20_method_1_code 29 = .ok (.lstore 5, 2) := by decide +kernel
theorem d1_31 : decode prog_20_method_1_code 31 = .ok (.aload_n 0, 1) := by decide +kernel
theorem d1_32 : decode prog_20_method_1_code 32 = .ok (.lload_n 1, 1) := by decide +kernel
theorem d1_33 : decode prog_20_method_1_code 33 = .ok (.lload 5, 2) := by decide +kernel
theorem d1_35 : decode prog_20_method_1_code 35 = .ok (.ldiv, 1) := by decide +kernel
theorem d1_36 : decode prog_20_method_1_code 36 = .ok (.putfield 22, 3) := by decide +kernel
theorem d1_39 : decode prog_20_method_1_code 39 = .ok (.aload_n 0, 1) := by decide +kernel
theorem d1_40 : decode prog_20_method_1_code 40 = .ok (.lload_n 3, 1) := by decide +kernel
theorem d1_41 : decode prog_20_method_1_code 41 = .ok (.lload 5, 2) := by decide +kernel
theorem d1_43 : decode prog_20_method_1_code 43 = .ok (.ldiv, 1) := by decide +kernel
theorem d1_44 : decode prog_20_method_1_code 44 = .ok (.putfield 26, 3) := by decide +kernel
theorem d1_47 : decode prog_20_method_1_code 47 = .ok (.return_, 1) := by decide +kernel
theorem ef1_RJJ (m : MethodId) (x0 : Addr) (x1 : Int64) (x2 : Int64) : entryFrame m #[(.ref x0), (.long x1), (.long x2)] 7 = mkF m 0 #[.val (.ref x0), .val (.long x1), .second, .val (.long x2), .second, .unset, .unset] [] := by first | (simp [entryFrame, mkF, argsToLocals, Value.category]; done) | rfl
theorem d6_0 : decode prog_20_method_9_code 0 = .ok (.aload_n 1, 1) := by decide +kernel
theorem d6_1 : decode prog_20_method_9_code 1 = .ok (.instanceof 17, 3) := by decide +kernel
theorem d6_4 : decode prog_20_method_9_code 4 = .ok (.ifCond .eq 36, 3) := by decide +kernel
theorem d6_7 : decode prog_20_method_9_code 7 = .ok (.aload_n 1, 1) := by decide +kernel
theorem d6_8 : decode prog_20_method_9_code 8 = .ok (.checkcast 17, 3) := by decide +kernel
theorem d6_11 : decode prog_20_method_9_code 11 = .ok (.astore_n 2, 1) := by decide +kernel
theorem d6_12 : decode prog_20_method_9_code 12 = .ok (.aload_n 0, 1) := by decide +kernel
theorem d6_13 : decode prog_20_method_9_code 13 = .ok (.getfield 22, 3) := by decide +kernel
theorem d6_16 : decode prog_20_method_9_code 16 = .ok (.aload_n 2, 1) := by decide +kernel
theorem d6_17 : decode prog_20_method_9_code 17 = .ok (.getfield 22, 3) := by decide +kernel
theorem d6_20 : decode prog_20_method_9_code 20 = .ok (.lcmp, 1) := by decide +kernel
theorem d6_21 : decode prog_20_method_9_code 21 = .ok (.ifCond .ne 19, 3) := by decide +kernel
theorem d6_24 : decode prog_20_method_9_code 24 = .ok (.aload_n 0, 1) := by decide +kernel
theorem d6_25 : decode prog_20_method_9_code 25 = .ok (.getfield 26, 3) := by decide +kernel
theorem d6_28 : decode prog_20_method_9_code 28 = .ok (.aload_n 2, 1) := by decide +kernel
theorem d6_29 : decode prog_20_method_9_code 29 = .ok (.getfield 26, 3) := by decide +kernel
theorem d6_32 : decode prog_20_method_9_code 32 = .ok (.lcmp, 1) := by decide +kernel
theorem d6_33 : decode prog_20_method_9_code 33 = .ok (.ifCond .ne 7, 3) := by decide +kernel
theorem d6_36 : decode prog_20_method_9_code 36 = .ok (.iconst 1, 1) := by decide +kernel
theorem d6_37 : decode prog_20_method_9_code 37 = .ok (.goto 4, 3) := by decide +kernel
theorem d6_41 : decode prog_20_method_9_code 41 = .ok (.ireturn, 1) := by decide +kernel
theorem d6_40 : decode prog_20_method_9_code 40 = .ok (.iconst 0, 1) := by decide +kernel
theorem ef6_RR (m : MethodId) (x0 : Addr) (x1 : Addr) : entryFrame m #[(.ref x0), (.ref x1)] 3 = mkF m 0 #[.val (.ref x0), .val (.ref x1), .unset] [] := by first | (simp [entryFrame, mkF, argsToLocals, Value.category]; done) | rfl
theorem ef6_RN (m : MethodId) (x0 : Addr) : entryFrame m #[(.ref x0), .null] 3 = mkF m 0 #[.val (.ref x0), .val .null, .unset] [] := by first | (simp [entryFrame, mkF, argsToLocals, Value.category]; done) | rfl
theorem pd_7 : parseMethodDescriptor "(JJ)V" = some ⟨[.long, .long], none⟩ := by decide +kernel
theorem pd_8 : parseMethodDescriptor "(J)Ljava/lang/Long;" = some ⟨[.long], some (.object "java/lang/Long")⟩ := by decide +kernel
theorem pd_9 : parseMethodDescriptor "(Ljava/lang/Object;)Z" = some ⟨[(.object "java/lang/Object")], some .boolean⟩ := by decide +kernel
theorem ef0_JJJJII (m : MethodId) (x0 : Int64) (x1 : Int64) (x2 : Int64) (x3 : Int64) (x4 : Int32) (x5 : Int32) : entryFrame m #[(.long x0), (.long x1), (.long x2), (.long x3), (.int x4), (.int x5)] maxLocals = mkF m 0 #[.val (.long x0), .second, .val (.long x1), .second, .val (.long x2), .second, .val (.long x3), .second, .val (.int x4), .val (.int x5), .unset, .unset, .unset, .unset, .unset, .unset, .unset, .unset, .unset, .unset, .unset, .unset, .unset, .unset, .unset, .unset, .unset, .unset, .unset, .unset, .unset, .unset, .unset, .unset, .unset] [] := by first | (simp [entryFrame, mkF, argsToLocals, Value.category, maxLocals]; done) | rfl
theorem pn_10 : plainName "com/example/netlocus/netlocus/FractionEqualsPinLaw" = true := by first | (simp [plainName, overriddenIn]; done) | decide +kernel
def eqv (n1 d1 n2 d2 : Int64) : Int32 := if n1 = n2 ∧ d1 = d2 then 1 else 0
def labs (x : Int64) : Int64 := if x < (0 : Int64) then -x else x
def gcdL (a b : Int64) : Int64 := Int64.ofInt (Int.gcd a.toInt b.toInt)
theorem own_gcd (x y : Int) : Int.gcd y (x.tmod y) = Int.gcd x y := by
  have h := Int.mul_tdiv_add_tmod x y
  have h2 : Int.gcd y (y * x.tdiv y + x.tmod y) = Int.gcd y (x.tmod y) := Int.gcd_mul_left_add_right y (x.tmod y) (x.tdiv y)
  rw [h] at h2
  rw [← h2, Int.gcd_comm]
theorem own_dec (x y : Int64) (h : ¬ y = (0 : Int64)) : (x % y).toInt.natAbs < y.toInt.natAbs := by
  have hy : y.toInt ≠ 0 := fun e => h (Int64.toInt_inj.mp e)
  rw [Int64.toInt_mod, Int.natAbs_tmod]
  exact Nat.mod_lt _ (by omega)
theorem own_step (x y : Int64) : Int.gcd y.toInt (x % y).toInt = Int.gcd x.toInt y.toInt := by
  rw [Int64.toInt_mod]; exact own_gcd _ _
theorem own_g (a b : Int64) (hb : 0 < b.toInt) : (gcdL a b).toInt = (Int.gcd a.toInt b.toInt : Int) ∧ 0 < (gcdL a b).toInt := by
  have h1 := Int.gcd_le_right a.toInt hb
  have h2 := Int.gcd_pos_of_ne_zero_right a.toInt (b := b.toInt) (by omega)
  have h3 := rng64 b
  have e : (gcdL a b).toInt = (Int.gcd a.toInt b.toInt : Int) := by
    unfold gcdL
    rw [Int64.toInt_ofInt]
    have z : (Int64.size : Int) = 18446744073709551616 := rfl
    exact Int.bmod_eq_of_le (by omega) (by omega)
  exact ⟨e, by omega⟩
theorem own_labs (x a b : Int64) (hb : 0 < b.toInt) (h : Int.gcd x.toInt (0 : Int64).toInt = Int.gcd a.toInt b.toInt) : labs x = gcdL a b := by
  have h1 := Int.gcd_le_right a.toInt hb
  have h3 := rng64 b
  have z0 : (0 : Int64).toInt = 0 := rfl
  rw [z0, Int.gcd_zero] at h
  apply Int64.toInt_inj.mp
  rw [(own_g a b hb).1, ← h]
  have r1 := rng64 (-x)
  have e1 := c_lneg x
  have r2 := rng64 x
  unfold labs
  by_cases q : x < (0 : Int64)
  · rw [if_pos q]; rw [Int64.lt_iff_toInt_lt] at q; omega
  · rw [if_neg q]; rw [Int64.lt_iff_toInt_lt] at q; omega
theorem own_posl {g : Nat} {x : Int} (h : 0 < (g : Int) * x) (hg : 0 < g) : 0 < x := by
  rcases Int.lt_or_le 0 x with q | q
  · exact q
  · exact absurd h (Int.not_lt.mpr (Int.mul_nonpos_of_nonneg_of_nonpos (by omega) q))
theorem own_cross (a b c d : Int) (hb : 0 < b) (hd : 0 < d) : (a / (Int.gcd a b : Int) = c / (Int.gcd c d : Int) ∧ b / (Int.gcd a b : Int) = d / (Int.gcd c d : Int)) ↔ a * d = c * b := by
  have ga := Int.gcd_pos_of_ne_zero_right a (b := b) (by omega)
  have gc := Int.gcd_pos_of_ne_zero_right c (b := d) (by omega)
  have ea := Int.mul_ediv_cancel' (Int.gcd_dvd_left a b)
  have eb := Int.mul_ediv_cancel' (Int.gcd_dvd_right a b)
  have ec := Int.mul_ediv_cancel' (Int.gcd_dvd_left c d)
  have ed := Int.mul_ediv_cancel' (Int.gcd_dvd_right c d)
  have k1 : Int.gcd (a / (Int.gcd a b : Int)) (b / (Int.gcd a b : Int)) = 1 := Int.gcd_ediv_gcd_ediv_gcd_of_ne_zero_right (by omega)
  have k2 : Int.gcd (c / (Int.gcd c d : Int)) (d / (Int.gcd c d : Int)) = 1 := Int.gcd_ediv_gcd_ediv_gcd_of_ne_zero_right (by omega)
  generalize (Int.gcd a b) = g at *
  generalize (Int.gcd c d) = h at *
  generalize a / (g : Int) = a' at *
  generalize b / (g : Int) = b' at *
  generalize c / (h : Int) = c' at *
  generalize d / (h : Int) = d' at *
  subst ea eb ec ed
  have hb' : 0 < b' := own_posl hb (by omega)
  have hd' : 0 < d' := own_posl hd (by omega)
  constructor
  · rintro ⟨rfl, rfl⟩
    rw [Int.mul_assoc, Int.mul_assoc, Int.mul_left_comm a' (h : Int) b', Int.mul_left_comm (g : Int) (h : Int)]
    rw [Int.mul_left_comm a' (g : Int) b']
  · intro e
    have e' : a' * d' = c' * b' := by
      have : ((g : Int) * h) * (a' * d') = ((g : Int) * h) * (c' * b') := by
        calc ((g : Int) * h) * (a' * d') = (g : Int) * a' * (h * d') := by rw [Int.mul_assoc, Int.mul_assoc, Int.mul_left_comm (h : Int) a' d']
          _ = h * c' * ((g : Int) * b') := e
          _ = ((g : Int) * h) * (c' * b') := by rw [Int.mul_assoc, Int.mul_left_comm c' (g : Int) b', ← Int.mul_assoc, Int.mul_comm (h : Int) (g : Int)]
      exact Int.eq_of_mul_eq_mul_left (Int.mul_ne_zero (by omega) (by omega)) this
    have m1 : Int.gcd b' d' = b'.natAbs := by
      rw [← Int.gcd_mul_right_right_of_gcd_eq_one (n := b') (m := a') (k := d') (by rw [Int.gcd_comm]; exact k1)]
      exact Int.gcd_eq_natAbs_left (by rw [e']; exact Int.dvd_mul_left c' b')
    have m2 : Int.gcd d' b' = d'.natAbs := by
      rw [← Int.gcd_mul_right_right_of_gcd_eq_one (n := d') (m := c') (k := b') (by rw [Int.gcd_comm]; exact k2)]
      exact Int.gcd_eq_natAbs_left (by rw [← e']; exact Int.dvd_mul_left a' d')
    have m3 : b' = d' := by rw [Int.gcd_comm] at m2; omega
    subst m3
    exact ⟨Int.eq_of_mul_eq_mul_right (by omega) e', rfl⟩
theorem own_div (a b : Int64) (hb : 0 < b.toInt) : (a / gcdL a b).toInt = a.toInt / (Int.gcd a.toInt b.toInt : Int) ∧ (b / gcdL a b).toInt = b.toInt / (Int.gcd a.toInt b.toInt : Int) := by
  obtain ⟨e, p⟩ := own_g a b hb
  have hne : gcdL a b ≠ -1 := fun q => by rw [q] at p; exact absurd p (by decide)
  rw [Int64.toInt_div_of_ne_right _ _ hne, Int64.toInt_div_of_ne_right _ _ hne, e]
  exact ⟨Int.tdiv_eq_ediv_of_dvd (Int.gcd_dvd_left _ _), Int.tdiv_eq_ediv_of_dvd (Int.gcd_dvd_right _ _)⟩
theorem own_eqv (a b c d : Int64) (hb : 0 < b.toInt) (hd : 0 < d.toInt) : eqv (a / gcdL a b) (b / gcdL a b) (c / gcdL c d) (d / gcdL c d) = if a.toInt * d.toInt = c.toInt * b.toInt then 1 else 0 := by
  have k := own_cross a.toInt b.toInt c.toInt d.toInt hb hd
  rw [← (own_div a b hb).1, ← (own_div a b hb).2, ← (own_div c d hd).1, ← (own_div c d hd).2, Int64.toInt_inj, Int64.toInt_inj] at k
  unfold eqv
  by_cases q : a.toInt * d.toInt = c.toInt * b.toInt
  · rw [if_pos q, if_pos (k.mpr q)]
  · rw [if_neg q, if_neg (fun u => q (k.mp u))]
theorem own_a1 (a : Int64) : -2147483648 ≤ a.toInt32.toInt64.toInt ∧ a.toInt32.toInt64.toInt < 2147483648 := by
  rw [c_i2l]; exact rng32 _
theorem own_b1 (b : Int64) : 1 ≤ (((b &&& (2147483647 : Int64)) % (2147483647 : Int64)) + (1 : Int64)).toInt ∧ (((b &&& (2147483647 : Int64)) % (2147483647 : Int64)) + (1 : Int64)).toInt ≤ 2147483647 := by
  have e1 : (b &&& (2147483647 : Int64)).toInt = b.toInt % (2 ^ 31 : Nat) := c_maskL b 2147483647 31 (by decide) (by decide)
  have e2 : ((b &&& (2147483647 : Int64)) % (2147483647 : Int64)).toInt = (b &&& (2147483647 : Int64)).toInt.tmod 2147483647 := Int64.toInt_mod _ _
  have e3 := tr (b &&& (2147483647 : Int64)).toInt 2147483647
  have e4 := c_ladd ((b &&& (2147483647 : Int64)) % (2147483647 : Int64)) 1
  have z1 : (1 : Int64).toInt = 1 := rfl
  have r := rng64 (((b &&& (2147483647 : Int64)) % (2147483647 : Int64)) + (1 : Int64))
  omega
theorem own_k1 (k : Int32) : 1 ≤ ((k &&& (7 : Int32)).toInt64 + (1 : Int64)).toInt ∧ ((k &&& (7 : Int32)).toInt64 + (1 : Int64)).toInt ≤ 8 := by
  have e1 : (k &&& (7 : Int32)).toInt = k.toInt % (2 ^ 3 : Nat) := c_mask k 7 3 (by decide) (by decide)
  have e2 := c_i2l (k &&& (7 : Int32))
  have e4 := c_ladd (k &&& (7 : Int32)).toInt64 1
  have z1 : (1 : Int64).toInt = 1 := rfl
  have r := rng64 ((k &&& (7 : Int32)).toInt64 + (1 : Int64))
  omega
theorem own_mul (x y : Int64) (X Y : Int) (hx1 : -X ≤ x.toInt) (hx2 : x.toInt ≤ X) (hy1 : -Y ≤ y.toInt) (hy2 : y.toInt ≤ Y) (h : X * Y < 9223372036854775808) : (x * y).toInt = x.toInt * y.toInt ∧ -(X * Y) ≤ x.toInt * y.toInt ∧ x.toInt * y.toInt ≤ X * Y := by
  have a1 : (x.toInt * y.toInt).natAbs ≤ X.natAbs * Y.natAbs := by rw [Int.natAbs_mul]; exact Nat.mul_le_mul (by omega) (by omega)
  have a2 : X.natAbs * Y.natAbs = (X * Y).natAbs := (Int.natAbs_mul X Y).symm
  have a3 : 0 ≤ X * Y := Int.mul_nonneg (by omega) (by omega)
  have b1 : -(X * Y) ≤ x.toInt * y.toInt ∧ x.toInt * y.toInt ≤ X * Y := by omega
  refine ⟨?_, b1⟩
  rw [Int64.toInt_mul]
  exact Int.bmod_eq_of_le (by omega) (by omega)
theorem own_m0 (a b c d : Int64) (ha : -2147483648 ≤ a.toInt ∧ a.toInt < 2147483648) (hb : 1 ≤ b.toInt ∧ b.toInt ≤ 2147483647) (hc : -2147483648 ≤ c.toInt ∧ c.toInt < 2147483648) (hd : 1 ≤ d.toInt ∧ d.toInt ≤ 2147483647) : (a * d = c * b) ↔ a.toInt * d.toInt = c.toInt * b.toInt := by
  have e1 := (own_mul a d 2147483648 2147483647 (by omega) (by omega) (by omega) (by omega) (by decide)).1
  have e2 := (own_mul c b 2147483648 2147483647 (by omega) (by omega) (by omega) (by omega) (by decide)).1
  rw [← e1, ← e2, Int64.toInt_inj]
theorem own_m1 (a b k : Int64) (ha : -2147483648 ≤ a.toInt ∧ a.toInt < 2147483648) (hb : 1 ≤ b.toInt ∧ b.toInt ≤ 2147483647) (hk : 1 ≤ k.toInt ∧ k.toInt ≤ 8) : a.toInt * (b * k).toInt = (a * k).toInt * b.toInt ∧ 0 < (b * k).toInt := by
  have e1 := (own_mul a k 2147483648 8 (by omega) (by omega) (by omega) (by omega) (by decide)).1
  have e2 := (own_mul b k 2147483647 8 (by omega) (by omega) (by omega) (by omega) (by decide)).1
  have p : 0 < b.toInt * k.toInt := Int.mul_pos (by omega) (by omega)
  rw [e1, e2]
  exact ⟨by rw [Int.mul_assoc, Int.mul_comm b.toInt k.toInt], p⟩
theorem own_m2 (a b k : Int64) (ha : -2147483648 ≤ a.toInt ∧ a.toInt < 2147483648) (hb : 1 ≤ b.toInt ∧ b.toInt ≤ 2147483647) (hk : 1 ≤ k.toInt ∧ k.toInt ≤ 8) : ((a = (0 : Int64)) ↔ a.toInt * ((b * k) + (1 : Int64)).toInt = (a * k).toInt * b.toInt) ∧ 0 < ((b * k) + (1 : Int64)).toInt := by
  have m := own_m1 a b k ha hb hk
  have e2 := own_mul b k 2147483647 8 (by omega) (by omega) (by omega) (by omega) (by decide)
  have e3 := c_ladd (b * k) 1
  have r := rng64 (b * k + 1)
  have z1 : (1 : Int64).toInt = 1 := rfl
  have e4 : (b * k + 1).toInt = (b * k).toInt + 1 := by omega
  refine ⟨?_, by omega⟩
  rw [e4, Int.mul_add, m.1, Int.mul_one, ← Int64.toInt_inj, show (0 : Int64).toInt = 0 from rfl]
  omega
theorem own_m3 (a b k : Int64) (ha : -2147483648 ≤ a.toInt ∧ a.toInt < 2147483648) (hb : 1 ≤ b.toInt ∧ b.toInt ≤ 2147483647) (hk : 1 ≤ k.toInt ∧ k.toInt ≤ 8) : ¬ (a.toInt * (b * k).toInt = ((a * k) + (1 : Int64)).toInt * b.toInt) := by
  have m := own_m1 a b k ha hb hk
  have e2 := own_mul a k 2147483648 8 (by omega) (by omega) (by omega) (by omega) (by decide)
  have e3 := c_ladd (a * k) 1
  have r := rng64 (a * k + 1)
  have z1 : (1 : Int64).toInt = 1 := rfl
  have e4 : (a * k + 1).toInt = (a * k).toInt + 1 := by omega
  rw [e4, Int.add_mul, ← m.1, Int.one_mul]
  omega
theorem own_len_at {args : Array Value} {first s : State} {o : Option Outcome} {idx : List Nat} {t : Term} {cl : Cell} {a : Addr} {v : Value} (ht : t.eval args first o idx s = some (.ref a)) (ha : s.arrayAt? a = some cl) (hl : (Term.length t).eval args first o idx s = some v) : cl.slots.size < 2 ^ 31 := by
  by_cases q : cl.slots.size < 2 ^ 31
  · exact q
  · simp [Term.eval, ht, ha, q] at hl
theorem own_subi {args : Array Value} {first s : State} {o : Option Outcome} {idx : List Nat} {a b : Term} {x y : Int32} (ha : a.eval args first o idx s = some (.int x)) (hb : b.eval args first o idx s = some (.int y)) : (Term.sub a b).eval args first o idx s = some (.int (x - y)) := by
  simp [Term.eval, ha, hb]
theorem own_box (x : Int64) (h1 : ¬ x < (-128 : Int64)) (h2 : ¬ (127 : Int64) < x) : ¬ (x.toInt32 + (128 : Int32)) < 0 ∧ (x.toInt32 + (128 : Int32)) < (256 : Int32) := by
  have z1 : (-128 : Int64).toInt = -128 := rfl
  have z2 : (127 : Int64).toInt = 127 := rfl
  have z3 : (128 : Int32).toInt = 128 := rfl
  have z4 : (256 : Int32).toInt = 256 := rfl
  have z5 : (0 : Int32).toInt = 0 := rfl
  have e1 := c_l2i x
  have e2 := c_iadd x.toInt32 128
  have r1 := rng32 x.toInt32
  have r2 := rng32 (x.toInt32 + 128)
  rw [Int64.lt_iff_toInt_lt] at h1 h2
  rw [Int32.lt_iff_toInt_lt, Int32.lt_iff_toInt_lt]
  omega
set_option maxRecDepth 65536 in
set_option maxHeartbeats 40000000 in
theorem rm_num (l : Launch) (Z : State) (a0 : Array Value) (hw : ∀ d ∈ tables_1, d.before a0 Z = true) (a1 : Addr) (h0 : Heap)  :
    Con l (⟨"java/lang/Number", "<init>", "()V"⟩ : MethodName) jdk_18_method_1_code 1 none ({ frames := 1, cells := 0, slots := 0, locals := 12 } : Room) Z #[(.ref a1)] h0 (Pur none h0) := by
  refine Con.of_body (plainFor_of_name pn_0) ?_
  intro p e s m below meth c T0 X0 hx hby hml hZ hown hnm hret hlk e0
  have hown : s.vm.findClass "java/lang/Number" = some m.cls := hown
  have hml : c.maxLocals = 1 := hml
  refine Goes.cast (ef8_R m a1) ?_
  refine G.aloadN X0 hx (pc' := 1) (hb hby d8_0) rfl rfl rfl ?_
  refine G.initO X0 hx hZ hown (hw _ (List.mem_of_getElem? (i := 51) rfl)) (hw _ (List.mem_of_getElem? (i := 8) rfl)) (hw _ (List.mem_of_getElem? (i := 9) rfl)) e0 (by rw [hml]; rfl) (hb hby d8_1) (by decide) (W := 0) (Nat.le_of_eq rfl) (by decide) (pc' := 4) rfl fun T1 X1 e1 => ?_
  refine Goes.retV X1 hx hret hlk (hb hby d8_4) (by decide) (by decide) ⟨rfl, e1, rfl⟩
set_option maxRecDepth 65536 in
set_option maxHeartbeats 40000000 in
theorem rm_linit (l : Launch) (Z : State) (a0 : Array Value) (hw : ∀ d ∈ tables_1, d.before a0 Z = true) (a1 : Addr) (q1 : Int64) (h0 : Heap) (Ea : Exa Z h0 a1 "java/lang/Long") (Fv : Fld Z h0 a1 "java/lang/Long" "value" "J" (.long (0 : Int64))) :
    Con l (⟨"java/lang/Long", "<init>", "(J)V"⟩ : MethodName) jdk_35_method_26_code 3 none ({ frames := 2, cells := 0, slots := 0, locals := 24 } : Room) Z #[(.ref a1), (.long q1)] h0 (fun v h L => v = none ∧ Kp h0 h [a1] L) := by
  refine Con.of_body (plainFor_of_name pn_2) ?_
  intro p e s m below meth c T0 X0 hx hby hml hZ hown hnm hret hlk e0
  have hown : s.vm.findClass "java/lang/Long" = some m.cls := hown
  have hml : c.maxLocals = 3 := hml
  refine Goes.cast (ef7_RJ m a1 q1) ?_
  have K0 := Kp.refl h0 [a1]
  refine G.aloadN X0 hx (pc' := 1) (hb hby d7_0) rfl rfl rfl ?_
  refine G.callI X0 hx hZ (y := (⟨"java/lang/Number", "<init>", "()V"⟩ : MethodName)) rfl hown (hw _ (List.mem_of_getElem? (i := 45) rfl)) (hw _ (List.mem_of_getElem? (i := 46) rfl)) (hw _ (List.mem_of_getElem? (i := 49) rfl)) (hw _ (List.mem_of_getElem? (i := 50) rfl)) (by decide) e0 (rm := ({ frames := 1, cells := 0, slots := 0, locals := 12 } : Room)) (argsL := []) (S := []) (W := 0) (a := a1) (rm_num l Z a0 hw a1 h0) (lenOf pd_1 rfl) rfl (Nat.le_of_eq rfl) (by decide) (by decide) (by decide) (by decide) (by rw [hml]; rfl) (hb hby d7_1) (pc' := 4) rfl ?_
  rintro T1 _ _ ⟨rfl, e1, rfl⟩ X1
  rw [List.append_nil] at X1
  show Goes p e below T1 (mkF m 4 #[.val (.ref a1), .val (.long q1), .second] []) _
  refine G.aloadN X1 hx (pc' := 5) (hb hby d7_4) rfl rfl rfl ?_
  refine G.lloadN X1 hx (pc' := 6) (hb hby d7_5) rfl rfl ?_
  refine G.putF X1 hx hZ hown (hw _ (List.mem_of_getElem? (i := 52) rfl)) Via.refl e1 Fv Ea (Or.inr ⟨(hw _ (List.mem_of_getElem? (i := 53) rfl)), rfl, hnm⟩) (hw _ (List.mem_of_getElem? (i := 40) rfl)) (ty := .long) (by decide) rfl rfl (pc' := 9) (hb hby d7_6) rfl fun T2 h2 X2 e2 W2 => ?_
  have E2_a1 := Exa.wr W2 Ea
  have K2 := Kp.wr K0 W2 (Or.inl (List.mem_of_getElem? (i := 0) rfl))
  have F2_a1_value := Fld.same W2 Fv
  refine Goes.retV X2 hx hret hlk (hb hby d7_9) (by decide) (by decide) ⟨rfl, e2 ▸ K2⟩
set_option maxRecDepth 65536 in
set_option maxHeartbeats 40000000 in
theorem rm_box (l : Launch) (Z : State) (a0 : Array Value) (hw : ∀ d ∈ tables_1, d.before a0 Z = true) (q0 : Int64) (ca : Addr) (xs : List Value) (h0 : Heap) (S0 : Sta Z h0 "java/lang/Long$LongCache" "cache" "[Ljava/lang/Long;" (.ref ca)) (A0 : Seq Z h0 ca (.object "java/lang/Long") xs) (hxc : ∀ j : Int32, ¬ j < 0 → j < (256 : Int32) → ∃ b, xs[j.toNatClampNeg]? = some (.ref b) ∧ Exa Z h0 b "java/lang/Long") :
    Con l (⟨"java/lang/Long", "valueOf", "(J)Ljava/lang/Long;"⟩ : MethodName) jdk_35_method_24_code 3 (some (.object "java/lang/Long")) ({ frames := 3, cells := 1, slots := 1, locals := 39 } : Room) Z #[(.long q0)] h0 (fun v h L => ∃ b, v = some (.ref b) ∧ Kp h0 h [] L ∧ Exa Z h b "java/lang/Long") := by
  refine Con.of_body (plainFor_of_name pn_2) ?_
  intro p e s m below meth c T0 X0 hx hby hml hZ hown hnm hret hlk e0
  have hown : s.vm.findClass "java/lang/Long" = some m.cls := hown
  have hml : c.maxLocals = 3 := hml
  refine Goes.cast (ef5_J m q0) ?_
  have K0 := Kp.refl h0 []
  refine G.sipush X0 hx (pc' := 3) (hb hby d5_0) (z := (128 : Int32)) rfl rfl ?_
  refine G.istoreN X0 hx (pc' := 4) (hb hby d5_3) (L' := #[.val (.long q0), .second, .val (.int (128 : Int32))]) rfl rfl ?_
  refine G.lloadN X0 hx (pc' := 5) (hb hby d5_4) rfl rfl ?_
  refine G.ldcLong X0 hx hZ hown (hw _ (List.mem_of_getElem? (i := 25) rfl)) (pc' := 8) (hb hby d5_5) rfl ?_
  refine G.lcmp X0 hx (pc' := 9) (hb hby d5_8) rfl ?_
  by_cases c1 : q0 < (-128 : Int64)
  · refine G.ifT X0 hx (pc' := 31) (hb hby d5_9) (Jvm.Free.XT.ll_lt_t c1) (by decide) (by decide) ?_
    refine G.newO X0 hx hZ hown (hw _ (List.mem_of_getElem? (i := 39) rfl)) (hw _ (List.mem_of_getElem? (i := 40) rfl)) (hw _ (List.mem_of_getElem? (i := 23) rfl)) e0 (hb hby d5_31) (by decide) (by decide) (pc' := 34) rfl fun T1 h1 b g1 X1 e1 Ex1 Ea1 D1 => ?_
    have ne_ca_b : ca ≠ b := Nat.ne_of_lt (Nat.lt_of_lt_of_le A0.lt (Nat.le_of_eq g1.symm))
    have sz_b : h0.size ≤ b := Nat.le_trans K0.size (Nat.le_of_eq g1.symm)
    have A1_ca := Seq.ext A0 Ex1
    have S1_cache := Sta.ext Ex1 S0
    have K1 := Kp.ext K0 Ex1
    have F1_b_value : Fld Z h1 b "java/lang/Long" "value" "J" (.long (0 : Int64)) := D1 (Or.inr (hw _ (List.mem_of_getElem? (i := 53) rfl))) (ty := .long) (by decide)
    refine G.dup X1 hx (pc' := 35) (hb hby d5_34) rfl rfl ?_
    refine G.lloadN X1 hx (pc' := 36) (hb hby d5_35) rfl rfl ?_
    refine G.callI X1 hx hZ (y := (⟨"java/lang/Long", "<init>", "(J)V"⟩ : MethodName)) rfl hown (hw _ (List.mem_of_getElem? (i := 41) rfl)) (hw _ (List.mem_of_getElem? (i := 42) rfl)) (hw _ (List.mem_of_getElem? (i := 23) rfl)) (hw _ (List.mem_of_getElem? (i := 44) rfl)) (by decide) e1 (rm := ({ frames := 2, cells := 0, slots := 0, locals := 24 } : Room)) (argsL := [(.long q0)]) (S := [(.ref b)]) (W := 1) (a := b) (rm_linit l Z a0 hw b q0 h1 Ea1 F1_b_value) (lenOf pd_3 rfl) rfl (Nat.le_of_eq rfl) (by decide) (by decide) (by decide) (by decide) (by rw [hml]; rfl) (hb hby d5_36) (pc' := 39) rfl ?_
    rintro T2 _ L2 ⟨rfl, Kq2⟩ X2
    have E2_b := Exa.keep Ea1 Kq2.1
    have A2_ca := Seq.keep A1_ca Kq2.1 (ninS ne_ca_b nin0)
    have K2 := Kp.call K1 Kq2 (allS (Or.inr sz_b) all0)
    show Goes p e below T2 (mkF m 39 #[.val (.long q0), .second, .val (.int (128 : Int32))] [(.ref b)]) _
    refine Goes.retA X2 hx hret rfl hlk rfl rfl (hb hby d5_39) (by decide) (by decide) ⟨b, rfl, K2, E2_b⟩
  · refine G.ifF X0 hx (pc' := 12) (hb hby d5_9) (Jvm.Free.XT.ll_lt_f c1) rfl ?_
    refine G.lloadN X0 hx (pc' := 13) (hb hby d5_12) rfl rfl ?_
    refine G.ldcLong X0 hx hZ hown (hw _ (List.mem_of_getElem? (i := 26) rfl)) (pc' := 16) (hb hby d5_13) rfl ?_
    refine G.lcmp X0 hx (pc' := 17) (hb hby d5_16) rfl ?_
    by_cases c2 : (127 : Int64) < q0
    · refine G.ifT X0 hx (pc' := 31) (hb hby d5_17) (Jvm.Free.XT.ll_gt_t c2) (by decide) (by decide) ?_
      refine G.newO X0 hx hZ hown (hw _ (List.mem_of_getElem? (i := 39) rfl)) (hw _ (List.mem_of_getElem? (i := 40) rfl)) (hw _ (List.mem_of_getElem? (i := 23) rfl)) e0 (hb hby d5_31) (by decide) (by decide) (pc' := 34) rfl fun T3 h3 b g3 X3 e3 Ex3 Ea3 D3 => ?_
      have ne_ca_b : ca ≠ b := Nat.ne_of_lt (Nat.lt_of_lt_of_le A0.lt (Nat.le_of_eq g3.symm))
      have sz_b : h0.size ≤ b := Nat.le_trans K0.size (Nat.le_of_eq g3.symm)
      have A3_ca := Seq.ext A0 Ex3
      have S3_cache := Sta.ext Ex3 S0
      have K3 := Kp.ext K0 Ex3
      have F3_b_value : Fld Z h3 b "java/lang/Long" "value" "J" (.long (0 : Int64)) := D3 (Or.inr (hw _ (List.mem_of_getElem? (i := 53) rfl))) (ty := .long) (by decide)
      refine G.dup X3 hx (pc' := 35) (hb hby d5_34) rfl rfl ?_
      refine G.lloadN X3 hx (pc' := 36) (hb hby d5_35) rfl rfl ?_
      refine G.callI X3 hx hZ (y := (⟨"java/lang/Long", "<init>", "(J)V"⟩ : MethodName)) rfl hown (hw _ (List.mem_of_getElem? (i := 41) rfl)) (hw _ (List.mem_of_getElem? (i := 42) rfl)) (hw _ (List.mem_of_getElem? (i := 23) rfl)) (hw _ (List.mem_of_getElem? (i := 44) rfl)) (by decide) e3 (rm := ({ frames := 2, cells := 0, slots := 0, locals := 24 } : Room)) (argsL := [(.long q0)]) (S := [(.ref b)]) (W := 1) (a := b) (rm_linit l Z a0 hw b q0 h3 Ea3 F3_b_value) (lenOf pd_3 rfl) rfl (Nat.le_of_eq rfl) (by decide) (by decide) (by decide) (by decide) (by rw [hml]; rfl) (hb hby d5_36) (pc' := 39) rfl ?_
      rintro T4 _ L4 ⟨rfl, Kq4⟩ X4
      have E4_b := Exa.keep Ea3 Kq4.1
      have A4_ca := Seq.keep A3_ca Kq4.1 (ninS ne_ca_b nin0)
      have K4 := Kp.call K3 Kq4 (allS (Or.inr sz_b) all0)
      show Goes p e below T4 (mkF m 39 #[.val (.long q0), .second, .val (.int (128 : Int32))] [(.ref b)]) _
      refine Goes.retA X4 hx hret rfl hlk rfl rfl (hb hby d5_39) (by decide) (by decide) ⟨b, rfl, K4, E4_b⟩
    · refine G.ifF X0 hx (pc' := 20) (hb hby d5_17) (Jvm.Free.XT.ll_gt_f c2) rfl ?_
      refine G.getS X0 hx hZ hown (hw _ (List.mem_of_getElem? (i := 27) rfl)) Via.refl e0 S0 (pc' := 23) (hb hby d5_20) rfl fun T5 X5 e5 => ?_
      refine G.lloadN X5 hx (pc' := 24) (hb hby d5_23) rfl rfl ?_
      refine G.l2i X5 hx (pc' := 25) (hb hby d5_24) rfl ?_
      refine G.sipush X5 hx (pc' := 28) (hb hby d5_25) (z := (128 : Int32)) rfl rfl ?_
      refine G.iadd X5 hx (pc' := 29) (hb hby d5_28) rfl ?_
      obtain ⟨b, hb1, hb2⟩ := hxc _ (own_box q0 c1 c2).1 (own_box q0 c1 c2).2
      refine G.aaload X5 hx hZ e5 A0 rfl (pc' := 30) (v := (.ref b)) (hb hby d5_29) (own_box q0 c1 c2).1 hb1 rfl ?_
      refine Goes.retA X5 hx hret rfl hlk rfl rfl (hb hby d5_30) (by decide) (by decide) ⟨b, rfl, e5 ▸ K0, e5 ▸ hb2⟩
set_option maxRecDepth 65536 in
set_option maxHeartbeats 40000000 in
theorem rm_abs (l : Launch) (Z : State) (a0 : Array Value) (hw : ∀ d ∈ tables_1, d.before a0 Z = true) (q0 : Int64) (h0 : Heap)  :
    Con l (⟨"java/lang/Math", "abs", "(J)J"⟩ : MethodName) jdk_29_method_61_code 2 (some .long) ({ frames := 0, cells := 0, slots := 0, locals := 0 } : Room) Z #[(.long q0)] h0 (Pur (some (.long (labs q0))) h0) := by
  refine Con.of_body (Jvm.Free.JP.mathPlain rfl (by decide)) ?_
  intro p e s m below meth c T0 X0 hx hby hml hZ hown hnm hret hlk e0
  have hown : s.vm.findClass "java/lang/Math" = some m.cls := hown
  have hml : c.maxLocals = 2 := hml
  refine Goes.cast (ef4_J m q0) ?_
  refine G.lloadN X0 hx (pc' := 1) (hb hby d4_0) rfl rfl ?_
  refine G.lconst X0 hx (pc' := 2) (hb hby d4_1) (z := (0 : Int64)) rfl rfl ?_
  refine G.lcmp X0 hx (pc' := 3) (hb hby d4_2) rfl ?_
  by_cases c1 : q0 < (0 : Int64)
  · refine G.ifF X0 hx (pc' := 6) (hb hby d4_3) (Jvm.Free.XT.ll_ge_f c1) rfl ?_
    refine G.lloadN X0 hx (pc' := 7) (hb hby d4_6) rfl rfl ?_
    refine G.lneg X0 hx (pc' := 8) (hb hby d4_7) rfl ?_
    refine G.goto X0 hx (pc' := 12) (hb hby d4_8) (by decide) (by decide) ?_
    refine Goes.retJ X0 hx hret hlk (hb hby d4_12) (by decide) (by decide) ⟨by rw [labs, if_pos c1], e0, rfl⟩
  · refine G.ifT X0 hx (pc' := 11) (hb hby d4_3) (Jvm.Free.XT.ll_ge_t c1) (by decide) (by decide) ?_
    refine G.lloadN X0 hx (pc' := 12) (hb hby d4_11) rfl rfl ?_
    refine Goes.retJ X0 hx hret hlk (hb hby d4_12) (by decide) (by decide) ⟨by rw [labs, if_neg c1], e0, rfl⟩
set_option maxRecDepth 65536 in
set_option maxHeartbeats 40000000 in
theorem rm_gcd (l : Launch) (Z : State) (a0 : Array Value) (hw : ∀ d ∈ tables_1, d.before a0 Z = true) (q0 q1 : Int64) (h0 : Heap) (hbp : 0 < q1.toInt) :
    Con l (⟨"com/example/netlocus/netlocus/Fraction", "greatestCommonDivisor", "(JJ)J"⟩ : MethodName) prog_20_method_12_code 10 (some .long) ({ frames := 1, cells := 0, slots := 0, locals := 13 } : Room) Z #[(.long q0), (.long q1)] h0 (Pur (some (.long (gcdL q0 q1))) h0) := by
  refine Con.of_body (plainFor_of_name pn_5) ?_
  intro p e s m below meth c T0 X0 hx hby hml hZ hown hnm hret hlk e0
  have hown : s.vm.findClass "com/example/netlocus/netlocus/Fraction" = some m.cls := hown
  have hml : c.maxLocals = 10 := hml
  refine Goes.cast (ef3_JJ m q0 q1) ?_
  refine G.lloadN X0 hx (pc' := 1) (hb hby d3_0) rfl rfl ?_
  refine G.lstore X0 hx (pc' := 3) (hb hby d3_1) (L' := #[.val (.long q0), .second, .val (.long q1), .second, .val (.long q0), .second, .unset, .unset, .unset, .unset]) rfl rfl ?_
  refine G.lloadN X0 hx (pc' := 4) (hb hby d3_3) rfl rfl ?_
  refine G.lstore X0 hx (pc' := 6) (hb hby d3_4) (L' := #[.val (.long q0), .second, .val (.long q1), .second, .val (.long q0), .second, .val (.long q1), .second, .unset, .unset]) rfl rfl ?_
  refine G.lload X0 hx (pc' := 8) (hb hby d3_6) rfl rfl ?_
  refine G.lconst X0 hx (pc' := 9) (hb hby d3_8) (z := (0 : Int64)) rfl rfl ?_
  refine G.lcmp X0 hx (pc' := 10) (hb hby d3_9) rfl ?_
  refine G.ifF X0 hx (pc' := 13) (hb hby d3_10) (Jvm.Free.XT.ll_eq_f (fun q => by rw [q] at hbp; exact absurd hbp (by decide))) rfl ?_
  refine G.lload X0 hx (pc' := 15) (hb hby d3_13) rfl rfl ?_
  refine G.lload X0 hx (pc' := 17) (hb hby d3_15) rfl rfl ?_
  refine G.lrem X0 hx (pc' := 18) (hb hby d3_17) (fun q => by rw [q] at hbp; exact absurd hbp (by decide)) rfl ?_
  refine G.lstore X0 hx (pc' := 20) (hb hby d3_18) (L' := #[.val (.long q0), .second, .val (.long q1), .second, .val (.long q0), .second, .val (.long q1), .second, .val (.long (q0 % q1)), .second]) rfl rfl ?_
  refine G.lload X0 hx (pc' := 22) (hb hby d3_20) rfl rfl ?_
  refine G.lstore X0 hx (pc' := 24) (hb hby d3_22) (L' := #[.val (.long q0), .second, .val (.long q1), .second, .val (.long q1), .second, .val (.long q1), .second, .val (.long (q0 % q1)), .second]) rfl rfl ?_
  refine G.lload X0 hx (pc' := 26) (hb hby d3_24) rfl rfl ?_
  refine G.lstore X0 hx (pc' := 28) (hb hby d3_26) (L' := #[.val (.long q0), .second, .val (.long q1), .second, .val (.long q1), .second, .val (.long (q0 % q1)), .second, .val (.long (q0 % q1)), .second]) rfl rfl ?_
  refine G.goto X0 hx (pc' := 6) (hb hby d3_28) (by decide) (by decide) ?_
  have hloop : ∀ (n : Nat) (xx yy : Int64), yy.toInt.natAbs < n → Int.gcd xx.toInt yy.toInt = Int.gcd q0.toInt q1.toInt → Goes p e below T0 (mkF m 6 #[.val (.long q0), .second, .val (.long q1), .second, .val (.long xx), .second, .val (.long yy), .second, .val (.long yy), .second] []) (fun U o => ∃ v L, o = .returned v ∧ Ap (Pur (some (.long (gcdL q0 q1))) h0) v U.heap L ∧ FrameEnd s o U L ({ frames := 1, cells := 0, slots := 0, locals := 13 } : Room).cells ({ frames := 1, cells := 0, slots := 0, locals := 13 } : Room).slots) := by
    intro n
    induction n with
    | zero => intro xx yy h; exact absurd h (Nat.not_lt_zero _)
    | succ n ih =>
      intro xx yy hn hg
      refine G.lload X0 hx (pc' := 8) (hb hby d3_6) rfl rfl ?_
      refine G.lconst X0 hx (pc' := 9) (hb hby d3_8) (z := (0 : Int64)) rfl rfl ?_
      refine G.lcmp X0 hx (pc' := 10) (hb hby d3_9) rfl ?_
      by_cases c1 : yy = (0 : Int64)
      · refine G.ifT X0 hx (pc' := 31) (hb hby d3_10) (Jvm.Free.XT.ll_eq_t c1) (by decide) (by decide) ?_
        rw [c1] at hg
        refine G.lload X0 hx (pc' := 33) (hb hby d3_31) rfl rfl ?_
        refine G.callS X0 hx hZ (y := (⟨"java/lang/Math", "abs", "(J)J"⟩ : MethodName)) hown (hw _ (List.mem_of_getElem? (i := 13) rfl)) (hw _ (List.mem_of_getElem? (i := 14) rfl)) (hw _ (List.mem_of_getElem? (i := 15) rfl)) (hw _ (List.mem_of_getElem? (i := 16) rfl)) (by decide) e0 (rm := ({ frames := 0, cells := 0, slots := 0, locals := 0 } : Room)) (argsL := [(.long xx)]) (S := []) (W := 0) (rm_abs l Z a0 hw xx h0) (lenOf pd_4 rfl) rfl (Nat.le_of_eq rfl) (by decide) (by decide) (by decide) (by decide) (by rw [hml]; rfl) (hb hby d3_33) (pc' := 36) rfl ?_
        rintro T1 _ _ ⟨rfl, e1, rfl⟩ X1
        rw [List.append_nil] at X1
        show Goes p e below T1 (mkF m 36 #[.val (.long q0), .second, .val (.long q1), .second, .val (.long xx), .second, .val (.long yy), .second, .val (.long yy), .second] [(.long (labs xx))]) _
        rw [own_labs xx q0 q1 hbp hg]
        refine Goes.retJ X1 hx hret hlk (hb hby d3_36) (by decide) (by decide) ⟨rfl, e1, rfl⟩
      · refine G.ifF X0 hx (pc' := 13) (hb hby d3_10) (Jvm.Free.XT.ll_eq_f c1) rfl ?_
        refine G.lload X0 hx (pc' := 15) (hb hby d3_13) rfl rfl ?_
        refine G.lload X0 hx (pc' := 17) (hb hby d3_15) rfl rfl ?_
        refine G.lrem X0 hx (pc' := 18) (hb hby d3_17) c1 rfl ?_
        refine G.lstore X0 hx (pc' := 20) (hb hby d3_18) (L' := #[.val (.long q0), .second, .val (.long q1), .second, .val (.long xx), .second, .val (.long yy), .second, .val (.long (xx % yy)), .second]) rfl rfl ?_
        refine G.lload X0 hx (pc' := 22) (hb hby d3_20) rfl rfl ?_
        refine G.lstore X0 hx (pc' := 24) (hb hby d3_22) (L' := #[.val (.long q0), .second, .val (.long q1), .second, .val (.long yy), .second, .val (.long yy), .second, .val (.long (xx % yy)), .second]) rfl rfl ?_
        refine G.lload X0 hx (pc' := 26) (hb hby d3_24) rfl rfl ?_
        refine G.lstore X0 hx (pc' := 28) (hb hby d3_26) (L' := #[.val (.long q0), .second, .val (.long q1), .second, .val (.long yy), .second, .val (.long (xx % yy)), .second, .val (.long (xx % yy)), .second]) rfl rfl ?_
        refine G.goto X0 hx (pc' := 6) (hb hby d3_28) (by decide) (by decide) ?_
        exact ih _ _ (by have := own_dec xx yy c1; omega) (by rw [own_step]; exact hg)
  exact hloop _ _ _ (Nat.lt_succ_self _) (own_step q0 q1)
set_option maxRecDepth 65536 in
set_option maxHeartbeats 40000000 in
theorem rm_init (l : Launch) (Z : State) (a0 : Array Value) (hw : ∀ d ∈ tables_1, d.before a0 Z = true) (a1 : Addr) (q1 q2 : Int64) (h0 : Heap) (Ea : Exa Z h0 a1 "com/example/netlocus/netlocus/Fraction") (Fn : Fld Z h0 a1 "com/example/netlocus/netlocus/Fraction" "numerator" "J" (.long (0 : Int64))) (Fd : Fld Z h0 a1 "com/example/netlocus/netlocus/Fraction" "denominator" "J" (.long (0 : Int64))) (hbp : 0 < q2.toInt) :
    Con l (⟨"com/example/netlocus/netlocus/Fraction", "<init>", "(JJ)V"⟩ : MethodName) prog_20_method_1_code 7 none ({ frames := 2, cells := 0, slots := 0, locals := 34 } : Room) Z #[(.ref a1), (.long q1), (.long q2)] h0 (fun v h L => v = none ∧ Kp h0 h [a1] L ∧ Fld Z h a1 "com/example/netlocus/netlocus/Fraction" "numerator" "J" (.long (q1 / (gcdL q1 q2))) ∧ Fld Z h a1 "com/example/netlocus/netlocus/Fraction" "denominator" "J" (.long (q2 / (gcdL q1 q2)))) := by
  refine Con.of_body (plainFor_of_name pn_5) ?_
  intro p e s m below meth c T0 X0 hx hby hml hZ hown hnm hret hlk e0
  have hown : s.vm.findClass "com/example/netlocus/netlocus/Fraction" = some m.cls := hown
  have hml : c.maxLocals = 7 := hml
  refine Goes.cast (ef1_RJJ m a1 q1 q2) ?_
  have K0 := Kp.refl h0 [a1]
  have hnz : gcdL q1 q2 ≠ 0 := fun q => by have := (own_g q1 q2 hbp).2; rw [q] at this; exact absurd this (by decide)
  have hge : ¬ q2 < (1 : Int64) := by rw [Int64.lt_iff_toInt_lt, show (1 : Int64).toInt = 1 from rfl]; omega
  refine G.aloadN X0 hx (pc' := 1) (hb hby d1_0) rfl rfl rfl ?_
  refine G.initO X0 hx hZ hown (hw _ (List.mem_of_getElem? (i := 7) rfl)) (hw _ (List.mem_of_getElem? (i := 8) rfl)) (hw _ (List.mem_of_getElem? (i := 9) rfl)) e0 (by rw [hml]; rfl) (hb hby d1_1) (by decide) (W := 0) (Nat.le_of_eq rfl) (by decide) (pc' := 4) rfl fun T1 X1 e1 => ?_
  refine G.lloadN X1 hx (pc' := 5) (hb hby d1_4) rfl rfl ?_
  refine G.lconst X1 hx (pc' := 6) (hb hby d1_5) (z := (1 : Int64)) rfl rfl ?_
  refine G.lcmp X1 hx (pc' := 7) (hb hby d1_6) rfl ?_
  refine G.ifT X1 hx (pc' := 24) (hb hby d1_7) (Jvm.Free.XT.ll_ge_t hge) (by decide) (by decide) ?_
  refine G.lloadN X1 hx (pc' := 25) (hb hby d1_24) rfl rfl ?_
  refine G.lloadN X1 hx (pc' := 26) (hb hby d1_25) rfl rfl ?_
  refine G.callS X1 hx hZ (y := (⟨"com/example/netlocus/netlocus/Fraction", "greatestCommonDivisor", "(JJ)J"⟩ : MethodName)) hown (hw _ (List.mem_of_getElem? (i := 10) rfl)) (hw _ (List.mem_of_getElem? (i := 11) rfl)) (hw _ (List.mem_of_getElem? (i := 3) rfl)) (hw _ (List.mem_of_getElem? (i := 12) rfl)) (by decide) e1 (rm := ({ frames := 1, cells := 0, slots := 0, locals := 13 } : Room)) (argsL := [(.long q1), (.long q2)]) (S := []) (W := 0) (rm_gcd l Z a0 hw q1 q2 h0 hbp) (lenOf pd_6 rfl) rfl (Nat.le_of_eq rfl) (by decide) (by decide) (by decide) (by decide) (by rw [hml]; rfl) (hb hby d1_26) (pc' := 29) rfl ?_
  rintro T2 _ _ ⟨rfl, e2, rfl⟩ X2
  rw [List.append_nil] at X2
  show Goes p e below T2 (mkF m 29 #[.val (.ref a1), .val (.long q1), .second, .val (.long q2), .second, .unset, .unset] [(.long (gcdL q1 q2))]) _
  refine G.lstore X2 hx (pc' := 31) (hb hby d1_29) (L' := #[.val (.ref a1), .val (.long q1), .second, .val (.long q2), .second, .val (.long (gcdL q1 q2)), .second]) rfl rfl ?_
  refine G.aloadN X2 hx (pc' := 32) (hb hby d1_31) rfl rfl rfl ?_
  refine G.lloadN X2 hx (pc' := 33) (hb hby d1_32) rfl rfl ?_
  refine G.lload X2 hx (pc' := 35) (hb hby d1_33) rfl rfl ?_
  refine G.ldiv X2 hx (pc' := 36) (hb hby d1_35) hnz rfl ?_
  refine G.putF X2 hx hZ hown (hw _ (List.mem_of_getElem? (i := 17) rfl)) Via.refl e2 Fn Ea (Or.inr ⟨(hw _ (List.mem_of_getElem? (i := 18) rfl)), rfl, hnm⟩) (hw _ (List.mem_of_getElem? (i := 2) rfl)) (ty := .long) (by decide) rfl rfl (pc' := 39) (hb hby d1_36) rfl fun T3 h3 X3 e3 W3 => ?_
  have F3_a1_denominator := Fld.other W3 Fd (Or.inr (slot_ne (Or.inr (hw _ (List.mem_of_getElem? (i := 20) rfl))) (Or.inr (hw _ (List.mem_of_getElem? (i := 18) rfl))) (by decide) (t := .long) (t' := .long) (by decide) (by decide)))
  have E3_a1 := Exa.wr W3 Ea
  have K3 := Kp.wr K0 W3 (Or.inl (List.mem_of_getElem? (i := 0) rfl))
  have F3_a1_numerator := Fld.same W3 Fn
  refine G.aloadN X3 hx (pc' := 40) (hb hby d1_39) rfl rfl rfl ?_
  refine G.lloadN X3 hx (pc' := 41) (hb hby d1_40) rfl rfl ?_
  refine G.lload X3 hx (pc' := 43) (hb hby d1_41) rfl rfl ?_
  refine G.ldiv X3 hx (pc' := 44) (hb hby d1_43) hnz rfl ?_
  refine G.putF X3 hx hZ hown (hw _ (List.mem_of_getElem? (i := 19) rfl)) Via.refl e3 F3_a1_denominator E3_a1 (Or.inr ⟨(hw _ (List.mem_of_getElem? (i := 20) rfl)), rfl, hnm⟩) (hw _ (List.mem_of_getElem? (i := 2) rfl)) (ty := .long) (by decide) rfl rfl (pc' := 47) (hb hby d1_44) rfl fun T4 h4 X4 e4 W4 => ?_
  have F4_a1_numerator := Fld.other W4 F3_a1_numerator (Or.inr (slot_ne (Or.inr (hw _ (List.mem_of_getElem? (i := 18) rfl))) (Or.inr (hw _ (List.mem_of_getElem? (i := 20) rfl))) (by decide) (t := .long) (t' := .long) (by decide) (by decide)))
  have E4_a1 := Exa.wr W4 E3_a1
  have K4 := Kp.wr K3 W4 (Or.inl (List.mem_of_getElem? (i := 0) rfl))
  have F4_a1_denominator := Fld.same W4 F3_a1_denominator
  refine Goes.retV X4 hx hret hlk (hb hby d1_47) (by decide) (by decide) ⟨rfl, e4 ▸ K4, e4 ▸ F4_a1_numerator, e4 ▸ F4_a1_denominator⟩
set_option maxRecDepth 65536 in
set_option maxHeartbeats 40000000 in
theorem rm_eq (l : Launch) (Z : State) (a0 : Array Value) (hw : ∀ d ∈ tables_1, d.before a0 Z = true) (a1 b : Addr) (nv1 dv1 nv2 dv2 : Int64) (h0 : Heap) (Eb : Exa Z h0 b "com/example/netlocus/netlocus/Fraction") (Fn1 : Fld Z h0 a1 "com/example/netlocus/netlocus/Fraction" "numerator" "J" (.long nv1)) (Fd1 : Fld Z h0 a1 "com/example/netlocus/netlocus/Fraction" "denominator" "J" (.long dv1)) (Fn2 : Fld Z h0 b "com/example/netlocus/netlocus/Fraction" "numerator" "J" (.long nv2)) (Fd2 : Fld Z h0 b "com/example/netlocus/netlocus/Fraction" "denominator" "J" (.long dv2)) :
    Con l (⟨"com/example/netlocus/netlocus/Fraction", "equals", "(Ljava/lang/Object;)Z"⟩ : MethodName) prog_20_method_9_code 3 (some .boolean) ({ frames := 0, cells := 0, slots := 0, locals := 0 } : Room) Z #[(.ref a1), (.ref b)] h0 (Pur (some (.int (eqv nv1 dv1 nv2 dv2))) h0) := by
  refine Con.of_body (plainFor_of_name pn_5) ?_
  intro p e s m below meth c T0 X0 hx hby hml hZ hown hnm hret hlk e0
  have hown : s.vm.findClass "com/example/netlocus/netlocus/Fraction" = some m.cls := hown
  have hml : c.maxLocals = 3 := hml
  refine Goes.cast (ef6_RR m a1 b) ?_
  refine G.aloadN X0 hx (pc' := 1) (hb hby d6_0) rfl rfl rfl ?_
  refine G.instY X0 hx hZ hown (hw _ (List.mem_of_getElem? (i := 34) rfl)) e0 (Ins.self Eb) (hb hby d6_1) (pc' := 4) rfl fun T1 X1 e1 => ?_
  refine G.ifF X1 hx (pc' := 7) (hb hby d6_4) (Jvm.Free.XT.i0_eq_f (by decide)) rfl ?_
  refine G.aloadN X1 hx (pc' := 8) (hb hby d6_7) rfl rfl rfl ?_
  refine G.castY X1 hx hZ hown (hw _ (List.mem_of_getElem? (i := 34) rfl)) e1 (Ins.self Eb) (hb hby d6_8) (pc' := 11) rfl fun T2 X2 e2 => ?_
  refine G.astoreN X2 hx (pc' := 12) (hb hby d6_11) rfl (L' := #[.val (.ref a1), .val (.ref b), .val (.ref b)]) rfl rfl ?_
  refine G.aloadN X2 hx (pc' := 13) (hb hby d6_12) rfl rfl rfl ?_
  refine G.getF X2 hx hZ hown (hw _ (List.mem_of_getElem? (i := 17) rfl)) Via.refl e2 Fn1 (pc' := 16) (hb hby d6_13) rfl fun T3 X3 e3 => ?_
  refine G.aloadN X3 hx (pc' := 17) (hb hby d6_16) rfl rfl rfl ?_
  refine G.getF X3 hx hZ hown (hw _ (List.mem_of_getElem? (i := 17) rfl)) Via.refl e3 Fn2 (pc' := 20) (hb hby d6_17) rfl fun T4 X4 e4 => ?_
  refine G.lcmp X4 hx (pc' := 21) (hb hby d6_20) rfl ?_
  by_cases c1 : nv1 = nv2
  · refine G.ifF X4 hx (pc' := 24) (hb hby d6_21) (Jvm.Free.XT.ll_ne_f c1) rfl ?_
    refine G.aloadN X4 hx (pc' := 25) (hb hby d6_24) rfl rfl rfl ?_
    refine G.getF X4 hx hZ hown (hw _ (List.mem_of_getElem? (i := 19) rfl)) Via.refl e4 Fd1 (pc' := 28) (hb hby d6_25) rfl fun T5 X5 e5 => ?_
    refine G.aloadN X5 hx (pc' := 29) (hb hby d6_28) rfl rfl rfl ?_
    refine G.getF X5 hx hZ hown (hw _ (List.mem_of_getElem? (i := 19) rfl)) Via.refl e5 Fd2 (pc' := 32) (hb hby d6_29) rfl fun T6 X6 e6 => ?_
    refine G.lcmp X6 hx (pc' := 33) (hb hby d6_32) rfl ?_
    by_cases c2 : dv1 = dv2
    · refine G.ifF X6 hx (pc' := 36) (hb hby d6_33) (Jvm.Free.XT.ll_ne_f c2) rfl ?_
      refine G.iconst X6 hx (pc' := 37) (hb hby d6_36) (z := (1 : Int32)) rfl rfl ?_
      refine G.goto X6 hx (pc' := 41) (hb hby d6_37) (by decide) (by decide) ?_
      refine Goes.retN X6 hx hret (by simp) hlk (hb hby d6_41) (by decide) (by decide) ⟨by rw [eqv, if_pos ⟨c1, c2⟩]; rfl, e6, rfl⟩
    · refine G.ifT X6 hx (pc' := 40) (hb hby d6_33) (Jvm.Free.XT.ll_ne_t c2) (by decide) (by decide) ?_
      refine G.iconst X6 hx (pc' := 41) (hb hby d6_40) (z := (0 : Int32)) rfl rfl ?_
      refine Goes.retN X6 hx hret (by simp) hlk (hb hby d6_41) (by decide) (by decide) ⟨by rw [eqv, if_neg (fun q => c2 q.2)]; rfl, e6, rfl⟩
  · refine G.ifT X4 hx (pc' := 40) (hb hby d6_21) (Jvm.Free.XT.ll_ne_t c1) (by decide) (by decide) ?_
    refine G.iconst X4 hx (pc' := 41) (hb hby d6_40) (z := (0 : Int32)) rfl rfl ?_
    refine Goes.retN X4 hx hret (by simp) hlk (hb hby d6_41) (by decide) (by decide) ⟨by rw [eqv, if_neg (fun q => c1 q.1)]; rfl, e4, rfl⟩
set_option maxRecDepth 65536 in
set_option maxHeartbeats 40000000 in
theorem rm_eqn (l : Launch) (Z : State) (a0 : Array Value) (hw : ∀ d ∈ tables_1, d.before a0 Z = true) (a1 : Addr) (h0 : Heap)  :
    Con l (⟨"com/example/netlocus/netlocus/Fraction", "equals", "(Ljava/lang/Object;)Z"⟩ : MethodName) prog_20_method_9_code 3 (some .boolean) ({ frames := 0, cells := 0, slots := 0, locals := 0 } : Room) Z #[(.ref a1), .null] h0 (Pur (some (.int (0 : Int32))) h0) := by
  refine Con.of_body (plainFor_of_name pn_5) ?_
  intro p e s m below meth c T0 X0 hx hby hml hZ hown hnm hret hlk e0
  have hown : s.vm.findClass "com/example/netlocus/netlocus/Fraction" = some m.cls := hown
  have hml : c.maxLocals = 3 := hml
  refine Goes.cast (ef6_RN m a1) ?_
  refine G.aloadN X0 hx (pc' := 1) (hb hby d6_0) rfl rfl rfl ?_
  refine G.instNull X0 hx (hb hby d6_1) (pc' := 4) rfl ?_
  refine G.ifT X0 hx (pc' := 40) (hb hby d6_4) (Jvm.Free.XT.i0_eq_t rfl) (by decide) (by decide) ?_
  refine G.iconst X0 hx (pc' := 41) (hb hby d6_40) (z := (0 : Int32)) rfl rfl ?_
  refine Goes.retN X0 hx hret (by simp) hlk (hb hby d6_41) (by decide) (by decide) ⟨rfl, e0, rfl⟩
set_option maxRecDepth 65536 in
set_option maxHeartbeats 40000000 in
theorem rm_eql (l : Launch) (Z : State) (a0 : Array Value) (hw : ∀ d ∈ tables_1, d.before a0 Z = true) (a1 b : Addr) (h0 : Heap) (Eb : Exa Z h0 b "java/lang/Long") :
    Con l (⟨"com/example/netlocus/netlocus/Fraction", "equals", "(Ljava/lang/Object;)Z"⟩ : MethodName) prog_20_method_9_code 3 (some .boolean) ({ frames := 0, cells := 0, slots := 0, locals := 0 } : Room) Z #[(.ref a1), (.ref b)] h0 (Pur (some (.int (0 : Int32))) h0) := by
  refine Con.of_body (plainFor_of_name pn_5) ?_
  intro p e s m below meth c T0 X0 hx hby hml hZ hown hnm hret hlk e0
  have hown : s.vm.findClass "com/example/netlocus/netlocus/Fraction" = some m.cls := hown
  have hml : c.maxLocals = 3 := hml
  refine Goes.cast (ef6_RR m a1 b) ?_
  refine G.aloadN X0 hx (pc' := 1) (hb hby d6_0) rfl rfl rfl ?_
  refine G.instNo X0 hx hZ hown (hw _ (List.mem_of_getElem? (i := 34) rfl)) e0 Eb (ns_no (hw _ (List.mem_of_getElem? (i := 36) rfl)) (hw _ (List.mem_of_getElem? (i := 2) rfl)) (NS.step (hw _ (List.mem_of_getElem? (i := 36) rfl)) (NS.step (hw _ (List.mem_of_getElem? (i := 37) rfl)) (ns_root (hw _ (List.mem_of_getElem? (i := 38) rfl)) (hw _ (List.mem_of_getElem? (i := 2) rfl)) (by decide)) (by decide)) (by decide)) (by decide)) (hb hby d6_1) (pc' := 4) rfl fun T1 X1 e1 => ?_
  refine G.ifT X1 hx (pc' := 40) (hb hby d6_4) (Jvm.Free.XT.i0_eq_t rfl) (by decide) (by decide) ?_
  refine G.iconst X1 hx (pc' := 41) (hb hby d6_40) (z := (0 : Int32)) rfl rfl ?_
  refine Goes.retN X1 hx hret (by simp) hlk (hb hby d6_41) (by decide) (by decide) ⟨rfl, e1, rfl⟩
set_option maxRecDepth 65536 in
set_option maxHeartbeats 40000000 in
theorem rm0 (l : Launch) (Z : State) (a0 : Array Value) (hw : ∀ d ∈ tables_1, d.before a0 Z = true) (q0 q1 q2 q3 : Int64) (p4 p5 : Int32) (ca : Addr) (xs : List Value) (h0 : Heap) (S0 : Sta Z h0 "java/lang/Long$LongCache" "cache" "[Ljava/lang/Long;" (.ref ca)) (A0 : Seq Z h0 ca (.object "java/lang/Long") xs) (hxc : ∀ j : Int32, ¬ j < 0 → j < (256 : Int32) → ∃ b, xs[j.toNatClampNeg]? = some (.ref b) ∧ Exa Z h0 b "java/lang/Long") :
    Con l x code maxLocals ret room_1 Z #[(.long q0), (.long q1), (.long q2), (.long q3), (.int p4), (.int p5)] h0 (fun v _ L => v = some (.int 1) ∧ Fr h0.size L) := by
  refine Con.of_body (plainFor_of_name pn_10) ?_
  intro p e s m below meth c T0 X0 hx hby hml hZ hown hnm hret hlk e0
  have hown : s.vm.findClass "com/example/netlocus/netlocus/FractionEqualsPinLaw" = some m.cls := hown
  have hml : c.maxLocals = 35 := hml
  refine Goes.cast (ef0_JJJJII m q0 q1 q2 q3 p4 p5) ?_
  have K0 := Kp.refl h0 []
  refine G.lloadN X0 hx (pc' := 1) (hb hby at_0) rfl rfl ?_
  refine G.l2i X0 hx (pc' := 2) (hb hby at_1) rfl ?_
  refine G.i2l X0 hx (pc' := 3) (hb hby at_2) rfl ?_
  refine G.lstore X0 hx (pc' := 5) (hb hby at_3) (L' := #[.val (.long q0), .second, .val (.long q1), .second, .val (.long q2), .second, .val (.long q3), .second, .val (.int p4), .val (.int p5), .val (.long ((q0.toInt32).toInt64)), .second, .unset, .unset, .unset, .unset, .unset, .unset, .unset, .unset, .unset, .unset, .unset, .unset, .unset, .unset, .unset, .unset, .unset, .unset, .unset, .unset, .unset, .unset, .unset]) rfl rfl ?_
  refine G.lloadN X0 hx (pc' := 6) (hb hby at_5) rfl rfl ?_
  refine G.ldcLong X0 hx hZ hown (hw _ (List.mem_of_getElem? (i := 0) rfl)) (pc' := 9) (hb hby at_6) rfl ?_
  refine G.land X0 hx (pc' := 10) (hb hby at_9) rfl ?_
  refine G.ldcLong X0 hx hZ hown (hw _ (List.mem_of_getElem? (i := 0) rfl)) (pc' := 13) (hb hby at_10) rfl ?_
  refine G.lrem X0 hx (pc' := 14) (hb hby at_13) (by decide) rfl ?_
  refine G.lconst X0 hx (pc' := 15) (hb hby at_14) (z := (1 : Int64)) rfl rfl ?_
  refine G.ladd X0 hx (pc' := 16) (hb hby at_15) rfl ?_
  refine G.lstore X0 hx (pc' := 18) (hb hby at_16) (L' := #[.val (.long q0), .second, .val (.long q1), .second, .val (.long q2), .second, .val (.long q3), .second, .val (.int p4), .val (.int p5), .val (.long ((q0.toInt32).toInt64)), .second, .val (.long (((q1 &&& (2147483647 : Int64)) % (2147483647 : Int64)) + (1 : Int64))), .second, .unset, .unset, .unset, .unset, .unset, .unset, .unset, .unset, .unset, .unset, .unset, .unset, .unset, .unset, .unset, .unset, .unset, .unset, .unset, .unset, .unset]) rfl rfl ?_
  refine G.lload X0 hx (pc' := 20) (hb hby at_18) rfl rfl ?_
  refine G.l2i X0 hx (pc' := 21) (hb hby at_20) rfl ?_
  refine G.i2l X0 hx (pc' := 22) (hb hby at_21) rfl ?_
  refine G.lstore X0 hx (pc' := 24) (hb hby at_22) (L' := #[.val (.long q0), .second, .val (.long q1), .second, .val (.long q2), .second, .val (.long q3), .second, .val (.int p4), .val (.int p5), .val (.long ((q0.toInt32).toInt64)), .second, .val (.long (((q1 &&& (2147483647 : Int64)) % (2147483647 : Int64)) + (1 : Int64))), .second, .val (.long ((q2.toInt32).toInt64)), .second, .unset, .unset, .unset, .unset, .unset, .unset, .unset, .unset, .unset, .unset, .unset, .unset, .unset, .unset, .unset, .unset, .unset, .unset, .unset]) rfl rfl ?_
  refine G.lload X0 hx (pc' := 26) (hb hby at_24) rfl rfl ?_
  refine G.ldcLong X0 hx hZ hown (hw _ (List.mem_of_getElem? (i := 0) rfl)) (pc' := 29) (hb hby at_26) rfl ?_
  refine G.land X0 hx (pc' := 30) (hb hby at_29) rfl ?_
  refine G.ldcLong X0 hx hZ hown (hw _ (List.mem_of_getElem? (i := 0) rfl)) (pc' := 33) (hb hby at_30) rfl ?_
  refine G.lrem X0 hx (pc' := 34) (hb hby at_33) (by decide) rfl ?_
  refine G.lconst X0 hx (pc' := 35) (hb hby at_34) (z := (1 : Int64)) rfl rfl ?_
  refine G.ladd X0 hx (pc' := 36) (hb hby at_35) rfl ?_
  refine G.lstore X0 hx (pc' := 38) (hb hby at_36) (L' := #[.val (.long q0), .second, .val (.long q1), .second, .val (.long q2), .second, .val (.long q3), .second, .val (.int p4), .val (.int p5), .val (.long ((q0.toInt32).toInt64)), .second, .val (.long (((q1 &&& (2147483647 : Int64)) % (2147483647 : Int64)) + (1 : Int64))), .second, .val (.long ((q2.toInt32).toInt64)), .second, .val (.long (((q3 &&& (2147483647 : Int64)) % (2147483647 : Int64)) + (1 : Int64))), .second, .unset, .unset, .unset, .unset, .unset, .unset, .unset, .unset, .unset, .unset, .unset, .unset, .unset, .unset, .unset, .unset, .unset]) rfl rfl ?_
  refine G.iload X0 hx (pc' := 40) (hb hby at_38) rfl rfl ?_
  refine G.bipush X0 hx (pc' := 42) (hb hby at_40) (z := (7 : Int32)) rfl rfl ?_
  refine G.iand X0 hx (pc' := 43) (hb hby at_42) rfl ?_
  refine G.i2l X0 hx (pc' := 44) (hb hby at_43) rfl ?_
  refine G.lconst X0 hx (pc' := 45) (hb hby at_44) (z := (1 : Int64)) rfl rfl ?_
  refine G.ladd X0 hx (pc' := 46) (hb hby at_45) rfl ?_
  refine G.lstore X0 hx (pc' := 48) (hb hby at_46) (L' := #[.val (.long q0), .second, .val (.long q1), .second, .val (.long q2), .second, .val (.long q3), .second, .val (.int p4), .val (.int p5), .val (.long ((q0.toInt32).toInt64)), .second, .val (.long (((q1 &&& (2147483647 : Int64)) % (2147483647 : Int64)) + (1 : Int64))), .second, .val (.long ((q2.toInt32).toInt64)), .second, .val (.long (((q3 &&& (2147483647 : Int64)) % (2147483647 : Int64)) + (1 : Int64))), .second, .val (.long (((p4 &&& (7 : Int32)).toInt64) + (1 : Int64))), .second, .unset, .unset, .unset, .unset, .unset, .unset, .unset, .unset, .unset, .unset, .unset, .unset, .unset, .unset, .unset]) rfl rfl ?_
  refine G.iload X0 hx (pc' := 50) (hb hby at_48) rfl rfl ?_
  refine G.iconst X0 hx (pc' := 51) (hb hby at_50) (z := (3 : Int32)) rfl rfl ?_
  refine G.iand X0 hx (pc' := 52) (hb hby at_51) rfl ?_
  refine G.istore X0 hx (pc' := 54) (hb hby at_52) (L' := #[.val (.long q0), .second, .val (.long q1), .second, .val (.long q2), .second, .val (.long q3), .second, .val (.int p4), .val (.int p5), .val (.long ((q0.toInt32).toInt64)), .second, .val (.long (((q1 &&& (2147483647 : Int64)) % (2147483647 : Int64)) + (1 : Int64))), .second, .val (.long ((q2.toInt32).toInt64)), .second, .val (.long (((q3 &&& (2147483647 : Int64)) % (2147483647 : Int64)) + (1 : Int64))), .second, .val (.long (((p4 &&& (7 : Int32)).toInt64) + (1 : Int64))), .second, .val (.int (p5 &&& (3 : Int32))), .unset, .unset, .unset, .unset, .unset, .unset, .unset, .unset, .unset, .unset, .unset, .unset, .unset, .unset]) rfl rfl ?_
  have raa := own_a1 q0
  generalize haa : ((q0.toInt32).toInt64) = aa at raa ⊢
  have rbb := own_b1 q1
  generalize hbb : (((q1 &&& (2147483647 : Int64)) % (2147483647 : Int64)) + (1 : Int64)) = bb at rbb ⊢
  have rcc := own_a1 q2
  generalize hcc : ((q2.toInt32).toInt64) = cc at rcc ⊢
  have rdd := own_b1 q3
  generalize hdd : (((q3 &&& (2147483647 : Int64)) % (2147483647 : Int64)) + (1 : Int64)) = dd at rdd ⊢
  have rkk := own_k1 p4
  generalize hkk : (((p4 &&& (7 : Int32)).toInt64) + (1 : Int64)) = kk at rkk ⊢
  refine G.iload X0 hx (pc' := 56) (hb hby at_54) rfl rfl ?_
  by_cases d0 : (p5 &&& (3 : Int32)) = (0 : Int32)
  · refine G.ifF X0 hx (pc' := 59) (hb hby at_56) (Jvm.Free.XT.i0_ne_f d0) rfl ?_
    refine G.lload X0 hx (pc' := 61) (hb hby at_59) rfl rfl ?_
    refine G.lstore X0 hx (pc' := 63) (hb hby at_61) (L' := #[.val (.long q0), .second, .val (.long q1), .second, .val (.long q2), .second, .val (.long q3), .second, .val (.int p4), .val (.int p5), .val (.long aa), .second, .val (.long bb), .second, .val (.long cc), .second, .val (.long dd), .second, .val (.long kk), .second, .val (.int (p5 &&& (3 : Int32))), .val (.long cc), .second, .unset, .unset, .unset, .unset, .unset, .unset, .unset, .unset, .unset, .unset, .unset, .unset]) rfl rfl ?_
    refine G.lload X0 hx (pc' := 65) (hb hby at_63) rfl rfl ?_
    refine G.lstore X0 hx (pc' := 67) (hb hby at_65) (L' := #[.val (.long q0), .second, .val (.long q1), .second, .val (.long q2), .second, .val (.long q3), .second, .val (.int p4), .val (.int p5), .val (.long aa), .second, .val (.long bb), .second, .val (.long cc), .second, .val (.long dd), .second, .val (.long kk), .second, .val (.int (p5 &&& (3 : Int32))), .val (.long cc), .second, .val (.long dd), .second, .unset, .unset, .unset, .unset, .unset, .unset, .unset, .unset, .unset, .unset]) rfl rfl ?_
    refine G.lload X0 hx (pc' := 69) (hb hby at_67) rfl rfl ?_
    refine G.lload X0 hx (pc' := 71) (hb hby at_69) rfl rfl ?_
    refine G.lmul X0 hx (pc' := 72) (hb hby at_71) rfl ?_
    refine G.lload X0 hx (pc' := 74) (hb hby at_72) rfl rfl ?_
    refine G.lload X0 hx (pc' := 76) (hb hby at_74) rfl rfl ?_
    refine G.lmul X0 hx (pc' := 77) (hb hby at_76) rfl ?_
    refine G.lcmp X0 hx (pc' := 78) (hb hby at_77) rfl ?_
    by_cases d1 : (aa * dd) = (cc * bb)
    · refine G.ifF X0 hx (pc' := 81) (hb hby at_78) (Jvm.Free.XT.ll_ne_f d1) rfl ?_
      refine G.iconst X0 hx (pc' := 82) (hb hby at_81) (z := (1 : Int32)) rfl rfl ?_
      refine G.goto X0 hx (pc' := 86) (hb hby at_82) (by decide) (by decide) ?_
      refine G.istore X0 hx (pc' := 88) (hb hby at_86) (L' := #[.val (.long q0), .second, .val (.long q1), .second, .val (.long q2), .second, .val (.long q3), .second, .val (.int p4), .val (.int p5), .val (.long aa), .second, .val (.long bb), .second, .val (.long cc), .second, .val (.long dd), .second, .val (.long kk), .second, .val (.int (p5 &&& (3 : Int32))), .val (.long cc), .second, .val (.long dd), .second, .val (.int (1 : Int32)), .unset, .unset, .unset, .unset, .unset, .unset, .unset, .unset, .unset]) rfl rfl ?_
      refine G.goto X0 hx (pc' := 175) (hb hby at_88) (by decide) (by decide) ?_
      have hcr := (own_m0 aa bb cc dd raa rbb rcc rdd).mp d1
      have hcd := (show 0 < dd.toInt by omega)
      have hbb : 0 < bb.toInt := by omega
      refine G.newO X0 hx hZ hown (hw _ (List.mem_of_getElem? (i := 1) rfl)) (hw _ (List.mem_of_getElem? (i := 2) rfl)) (hw _ (List.mem_of_getElem? (i := 3) rfl)) e0 (hb hby at_175) (by decide) (by decide) (pc' := 178) rfl fun T1 h1 a g1 X1 e1 Ex1 Ea1 D1 => ?_
      have sz_a : h0.size ≤ a := Nat.le_trans K0.size (Nat.le_of_eq g1.symm)
      have K1 := Kp.ext K0 Ex1
      have F1_a_numerator : Fld Z h1 a "com/example/netlocus/netlocus/Fraction" "numerator" "J" (.long (0 : Int64)) := D1 (Or.inr (hw _ (List.mem_of_getElem? (i := 18) rfl))) (ty := .long) (by decide)
      have F1_a_denominator : Fld Z h1 a "com/example/netlocus/netlocus/Fraction" "denominator" "J" (.long (0 : Int64)) := D1 (Or.inr (hw _ (List.mem_of_getElem? (i := 20) rfl))) (ty := .long) (by decide)
      refine G.dup X1 hx (pc' := 179) (hb hby at_178) rfl rfl ?_
      refine G.lload X1 hx (pc' := 181) (hb hby at_179) rfl rfl ?_
      refine G.lload X1 hx (pc' := 183) (hb hby at_181) rfl rfl ?_
      refine G.callI X1 hx hZ (y := (⟨"com/example/netlocus/netlocus/Fraction", "<init>", "(JJ)V"⟩ : MethodName)) rfl hown (hw _ (List.mem_of_getElem? (i := 4) rfl)) (hw _ (List.mem_of_getElem? (i := 5) rfl)) (hw _ (List.mem_of_getElem? (i := 3) rfl)) (hw _ (List.mem_of_getElem? (i := 6) rfl)) (by decide) e1 (rm := ({ frames := 2, cells := 0, slots := 0, locals := 34 } : Room)) (argsL := [(.long aa), (.long bb)]) (S := [(.ref a)]) (W := 1) (a := a) (rm_init l Z a0 hw a aa bb h1 Ea1 F1_a_numerator F1_a_denominator hbb) (lenOf pd_7 rfl) rfl (Nat.le_of_eq rfl) (by decide) (by decide) (by decide) (by decide) (by rw [hml]; rfl) (hb hby at_183) (pc' := 186) rfl ?_
      rintro T2 _ L2 ⟨rfl, Kq2, Fn2, Fd2⟩ X2
      have E2_a := Exa.keep Ea1 Kq2.1
      have K2 := Kp.call K1 Kq2 (allS (Or.inr sz_a) all0)
      show Goes p e below T2 (mkF m 186 #[.val (.long q0), .second, .val (.long q1), .second, .val (.long q2), .second, .val (.long q3), .second, .val (.int p4), .val (.int p5), .val (.long aa), .second, .val (.long bb), .second, .val (.long cc), .second, .val (.long dd), .second, .val (.long kk), .second, .val (.int (p5 &&& (3 : Int32))), .val (.long cc), .second, .val (.long dd), .second, .val (.int (1 : Int32)), .unset, .unset, .unset, .unset, .unset, .unset, .unset, .unset, .unset] [(.ref a)]) _
      refine G.astore X2 hx (pc' := 188) (hb hby at_186) rfl (L' := #[.val (.long q0), .second, .val (.long q1), .second, .val (.long q2), .second, .val (.long q3), .second, .val (.int p4), .val (.int p5), .val (.long aa), .second, .val (.long bb), .second, .val (.long cc), .second, .val (.long dd), .second, .val (.long kk), .second, .val (.int (p5 &&& (3 : Int32))), .val (.long cc), .second, .val (.long dd), .second, .val (.int (1 : Int32)), .val (.ref a), .unset, .unset, .unset, .unset, .unset, .unset, .unset, .unset]) rfl rfl ?_
      refine G.newO X2 hx hZ hown (hw _ (List.mem_of_getElem? (i := 1) rfl)) (hw _ (List.mem_of_getElem? (i := 2) rfl)) (hw _ (List.mem_of_getElem? (i := 3) rfl)) rfl (hb hby at_188) (by decide) (by decide) (pc' := 191) rfl fun T3 h3 b g3 X3 e3 Ex3 Ea3 D3 => ?_
      have ne_a_b : a ≠ b := Nat.ne_of_lt (Nat.lt_of_lt_of_le Fn2.lt (Nat.le_of_eq g3.symm))
      have sz_b : h0.size ≤ b := Nat.le_trans K2.size (Nat.le_of_eq g3.symm)
      have F3_a_numerator := Fld.ext  Ex3 Fn2
      have F3_a_denominator := Fld.ext  Ex3 Fd2
      have E3_a := Exa.ext  Ex3 E2_a
      have K3 := Kp.ext K2 Ex3
      have F3_b_numerator : Fld Z h3 b "com/example/netlocus/netlocus/Fraction" "numerator" "J" (.long (0 : Int64)) := D3 (Or.inr (hw _ (List.mem_of_getElem? (i := 18) rfl))) (ty := .long) (by decide)
      have F3_b_denominator : Fld Z h3 b "com/example/netlocus/netlocus/Fraction" "denominator" "J" (.long (0 : Int64)) := D3 (Or.inr (hw _ (List.mem_of_getElem? (i := 20) rfl))) (ty := .long) (by decide)
      refine G.dup X3 hx (pc' := 192) (hb hby at_191) rfl rfl ?_
      refine G.lload X3 hx (pc' := 194) (hb hby at_192) rfl rfl ?_
      refine G.lload X3 hx (pc' := 196) (hb hby at_194) rfl rfl ?_
      refine G.callI X3 hx hZ (y := (⟨"com/example/netlocus/netlocus/Fraction", "<init>", "(JJ)V"⟩ : MethodName)) rfl hown (hw _ (List.mem_of_getElem? (i := 4) rfl)) (hw _ (List.mem_of_getElem? (i := 5) rfl)) (hw _ (List.mem_of_getElem? (i := 3) rfl)) (hw _ (List.mem_of_getElem? (i := 6) rfl)) (by decide) e3 (rm := ({ frames := 2, cells := 0, slots := 0, locals := 34 } : Room)) (argsL := [(.long cc), (.long dd)]) (S := [(.ref b)]) (W := 1) (a := b) (rm_init l Z a0 hw b cc dd h3 Ea3 F3_b_numerator F3_b_denominator hcd) (lenOf pd_7 rfl) rfl (Nat.le_of_eq rfl) (by decide) (by decide) (by decide) (by decide) (by rw [hml]; rfl) (hb hby at_196) (pc' := 199) rfl ?_
      rintro T4 _ L4 ⟨rfl, Kq4, Fn4, Fd4⟩ X4
      have F4_a_numerator := Fld.keep F3_a_numerator Kq4.1 (ninS ne_a_b nin0)
      have F4_a_denominator := Fld.keep F3_a_denominator Kq4.1 (ninS ne_a_b nin0)
      have E4_a := Exa.keep E3_a Kq4.1
      have E4_b := Exa.keep Ea3 Kq4.1
      have K4 := Kp.call K3 Kq4 (allS (Or.inr sz_b) all0)
      show Goes p e below T4 (mkF m 199 #[.val (.long q0), .second, .val (.long q1), .second, .val (.long q2), .second, .val (.long q3), .second, .val (.int p4), .val (.int p5), .val (.long aa), .second, .val (.long bb), .second, .val (.long cc), .second, .val (.long dd), .second, .val (.long kk), .second, .val (.int (p5 &&& (3 : Int32))), .val (.long cc), .second, .val (.long dd), .second, .val (.int (1 : Int32)), .val (.ref a), .unset, .unset, .unset, .unset, .unset, .unset, .unset, .unset] [(.ref b)]) _
      refine G.astore X4 hx (pc' := 201) (hb hby at_199) rfl (L' := #[.val (.long q0), .second, .val (.long q1), .second, .val (.long q2), .second, .val (.long q3), .second, .val (.int p4), .val (.int p5), .val (.long aa), .second, .val (.long bb), .second, .val (.long cc), .second, .val (.long dd), .second, .val (.long kk), .second, .val (.int (p5 &&& (3 : Int32))), .val (.long cc), .second, .val (.long dd), .second, .val (.int (1 : Int32)), .val (.ref a), .val (.ref b), .unset, .unset, .unset, .unset, .unset, .unset, .unset]) rfl rfl ?_
      refine G.aconstNull X4 hx (pc' := 202) (hb hby at_201) rfl ?_
      refine G.astore X4 hx (pc' := 204) (hb hby at_202) rfl (L' := #[.val (.long q0), .second, .val (.long q1), .second, .val (.long q2), .second, .val (.long q3), .second, .val (.int p4), .val (.int p5), .val (.long aa), .second, .val (.long bb), .second, .val (.long cc), .second, .val (.long dd), .second, .val (.long kk), .second, .val (.int (p5 &&& (3 : Int32))), .val (.long cc), .second, .val (.long dd), .second, .val (.int (1 : Int32)), .val (.ref a), .val (.ref b), .val .null, .unset, .unset, .unset, .unset, .unset, .unset]) rfl rfl ?_
      refine G.lload X4 hx (pc' := 206) (hb hby at_204) rfl rfl ?_
      have hx' : ∀ j : Int32, ¬ j < 0 → j < (256 : Int32) → ∃ b, xs[j.toNatClampNeg]? = some (.ref b) ∧ Exa Z T4.heap b "java/lang/Long" := fun j u1 u2 => by
        obtain ⟨b', v1, v2⟩ := hxc j u1 u2
        exact ⟨b', v1, v2.keep K4.1⟩
      refine G.callS X4 hx hZ (y := (⟨"java/lang/Long", "valueOf", "(J)Ljava/lang/Long;"⟩ : MethodName)) hown (hw _ (List.mem_of_getElem? (i := 21) rfl)) (hw _ (List.mem_of_getElem? (i := 22) rfl)) (hw _ (List.mem_of_getElem? (i := 23) rfl)) (hw _ (List.mem_of_getElem? (i := 24) rfl)) (by decide) rfl (rm := ({ frames := 3, cells := 1, slots := 1, locals := 39 } : Room)) (argsL := [(.long aa)]) (S := []) (W := 0) (rm_box l Z a0 hw aa ca xs T4.heap (Sta.keep0 S0 K4.1) (Seq.keep A0 K4.1 nin0) hx') (lenOf pd_8 rfl) rfl (Nat.le_of_eq rfl) (by decide) (by decide) (by decide) (by decide) (by rw [hml]; rfl) (hb hby at_206) (pc' := 209) rfl ?_
      rintro T5 _ L5 ⟨lb, rfl, Kq5, El5⟩ X5
      have F5_a_numerator := Fld.keep F4_a_numerator Kq5.1 nin0
      have F5_a_denominator := Fld.keep F4_a_denominator Kq5.1 nin0
      have F5_b_numerator := Fld.keep Fn4 Kq5.1 nin0
      have F5_b_denominator := Fld.keep Fd4 Kq5.1 nin0
      have E5_a := Exa.keep E4_a Kq5.1
      have E5_b := Exa.keep E4_b Kq5.1
      have K5 := Kp.call K4 Kq5 all0
      show Goes p e below T5 (mkF m 209 #[.val (.long q0), .second, .val (.long q1), .second, .val (.long q2), .second, .val (.long q3), .second, .val (.int p4), .val (.int p5), .val (.long aa), .second, .val (.long bb), .second, .val (.long cc), .second, .val (.long dd), .second, .val (.long kk), .second, .val (.int (p5 &&& (3 : Int32))), .val (.long cc), .second, .val (.long dd), .second, .val (.int (1 : Int32)), .val (.ref a), .val (.ref b), .val .null, .unset, .unset, .unset, .unset, .unset, .unset] [(.ref lb)]) _
      refine G.astore X5 hx (pc' := 211) (hb hby at_209) rfl (L' := #[.val (.long q0), .second, .val (.long q1), .second, .val (.long q2), .second, .val (.long q3), .second, .val (.int p4), .val (.int p5), .val (.long aa), .second, .val (.long bb), .second, .val (.long cc), .second, .val (.long dd), .second, .val (.long kk), .second, .val (.int (p5 &&& (3 : Int32))), .val (.long cc), .second, .val (.long dd), .second, .val (.int (1 : Int32)), .val (.ref a), .val (.ref b), .val .null, .val (.ref lb), .unset, .unset, .unset, .unset, .unset]) rfl rfl ?_
      refine G.aload X5 hx (pc' := 213) (hb hby at_211) rfl rfl rfl ?_
      refine G.aload X5 hx (pc' := 215) (hb hby at_213) rfl rfl rfl ?_
      refine G.callV X5 hx hZ (y0 := (⟨"com/example/netlocus/netlocus/Fraction", "equals", "(Ljava/lang/Object;)Z"⟩ : MethodName)) (y := (⟨"com/example/netlocus/netlocus/Fraction", "equals", "(Ljava/lang/Object;)Z"⟩ : MethodName)) hown (hw _ (List.mem_of_getElem? (i := 29) rfl)) (hw _ (List.mem_of_getElem? (i := 30) rfl)) (notFace_of_selects (args := #[]) (mvT hZ (hw _ (List.mem_of_getElem? (i := 32) rfl)))) (hw _ (List.mem_of_getElem? (i := 32) rfl)) (hw _ (List.mem_of_getElem? (i := 31) rfl)) (hw _ (List.mem_of_getElem? (i := 3) rfl)) (hw _ (List.mem_of_getElem? (i := 33) rfl)) (by decide) rfl (rm := ({ frames := 0, cells := 0, slots := 0, locals := 0 } : Room)) (argsL := [(.ref b)]) (S := []) (W := 0) (a := a) E5_a (rm_eq l Z a0 hw a b (aa / (gcdL aa bb)) (bb / (gcdL aa bb)) (cc / (gcdL cc dd)) (dd / (gcdL cc dd)) T5.heap E5_b F5_a_numerator F5_a_denominator F5_b_numerator F5_b_denominator) (lenOf pd_9 rfl) rfl (Nat.le_of_eq rfl) (by decide) (by decide) (by decide) (by decide) (by rw [hml]; rfl) (hb hby at_215) (pc' := 218) rfl ?_
      rintro T6 _ _ ⟨rfl, e6, rfl⟩ X6
      rw [List.append_nil] at X6
      show Goes p e below T6 (mkF m 218 #[.val (.long q0), .second, .val (.long q1), .second, .val (.long q2), .second, .val (.long q3), .second, .val (.int p4), .val (.int p5), .val (.long aa), .second, .val (.long bb), .second, .val (.long cc), .second, .val (.long dd), .second, .val (.long kk), .second, .val (.int (p5 &&& (3 : Int32))), .val (.long cc), .second, .val (.long dd), .second, .val (.int (1 : Int32)), .val (.ref a), .val (.ref b), .val .null, .val (.ref lb), .unset, .unset, .unset, .unset, .unset] [(.int (eqv (aa / (gcdL aa bb)) (bb / (gcdL aa bb)) (cc / (gcdL cc dd)) (dd / (gcdL cc dd))))]) _
      refine G.istore X6 hx (pc' := 220) (hb hby at_218) (L' := #[.val (.long q0), .second, .val (.long q1), .second, .val (.long q2), .second, .val (.long q3), .second, .val (.int p4), .val (.int p5), .val (.long aa), .second, .val (.long bb), .second, .val (.long cc), .second, .val (.long dd), .second, .val (.long kk), .second, .val (.int (p5 &&& (3 : Int32))), .val (.long cc), .second, .val (.long dd), .second, .val (.int (1 : Int32)), .val (.ref a), .val (.ref b), .val .null, .val (.ref lb), .val (.int (eqv (aa / (gcdL aa bb)) (bb / (gcdL aa bb)) (cc / (gcdL cc dd)) (dd / (gcdL cc dd)))), .unset, .unset, .unset, .unset]) rfl rfl ?_
      refine G.aload X6 hx (pc' := 222) (hb hby at_220) rfl rfl rfl ?_
      refine G.aload X6 hx (pc' := 224) (hb hby at_222) rfl rfl rfl ?_
      refine G.callV X6 hx hZ (y0 := (⟨"com/example/netlocus/netlocus/Fraction", "equals", "(Ljava/lang/Object;)Z"⟩ : MethodName)) (y := (⟨"com/example/netlocus/netlocus/Fraction", "equals", "(Ljava/lang/Object;)Z"⟩ : MethodName)) hown (hw _ (List.mem_of_getElem? (i := 29) rfl)) (hw _ (List.mem_of_getElem? (i := 30) rfl)) (notFace_of_selects (args := #[]) (mvT hZ (hw _ (List.mem_of_getElem? (i := 32) rfl)))) (hw _ (List.mem_of_getElem? (i := 32) rfl)) (hw _ (List.mem_of_getElem? (i := 31) rfl)) (hw _ (List.mem_of_getElem? (i := 3) rfl)) (hw _ (List.mem_of_getElem? (i := 33) rfl)) (by decide) e6 (rm := ({ frames := 0, cells := 0, slots := 0, locals := 0 } : Room)) (argsL := [(.ref a)]) (S := []) (W := 0) (a := b) E5_b (rm_eq l Z a0 hw b a (cc / (gcdL cc dd)) (dd / (gcdL cc dd)) (aa / (gcdL aa bb)) (bb / (gcdL aa bb)) T5.heap E5_a F5_b_numerator F5_b_denominator F5_a_numerator F5_a_denominator) (lenOf pd_9 rfl) rfl (Nat.le_of_eq rfl) (by decide) (by decide) (by decide) (by decide) (by rw [hml]; rfl) (hb hby at_224) (pc' := 227) rfl ?_
      rintro T7 _ _ ⟨rfl, e7, rfl⟩ X7
      rw [List.append_nil] at X7
      show Goes p e below T7 (mkF m 227 #[.val (.long q0), .second, .val (.long q1), .second, .val (.long q2), .second, .val (.long q3), .second, .val (.int p4), .val (.int p5), .val (.long aa), .second, .val (.long bb), .second, .val (.long cc), .second, .val (.long dd), .second, .val (.long kk), .second, .val (.int (p5 &&& (3 : Int32))), .val (.long cc), .second, .val (.long dd), .second, .val (.int (1 : Int32)), .val (.ref a), .val (.ref b), .val .null, .val (.ref lb), .val (.int (eqv (aa / (gcdL aa bb)) (bb / (gcdL aa bb)) (cc / (gcdL cc dd)) (dd / (gcdL cc dd)))), .unset, .unset, .unset, .unset] [(.int (eqv (cc / (gcdL cc dd)) (dd / (gcdL cc dd)) (aa / (gcdL aa bb)) (bb / (gcdL aa bb))))]) _
      refine G.istore X7 hx (pc' := 229) (hb hby at_227) (L' := #[.val (.long q0), .second, .val (.long q1), .second, .val (.long q2), .second, .val (.long q3), .second, .val (.int p4), .val (.int p5), .val (.long aa), .second, .val (.long bb), .second, .val (.long cc), .second, .val (.long dd), .second, .val (.long kk), .second, .val (.int (p5 &&& (3 : Int32))), .val (.long cc), .second, .val (.long dd), .second, .val (.int (1 : Int32)), .val (.ref a), .val (.ref b), .val .null, .val (.ref lb), .val (.int (eqv (aa / (gcdL aa bb)) (bb / (gcdL aa bb)) (cc / (gcdL cc dd)) (dd / (gcdL cc dd)))), .val (.int (eqv (cc / (gcdL cc dd)) (dd / (gcdL cc dd)) (aa / (gcdL aa bb)) (bb / (gcdL aa bb)))), .unset, .unset, .unset]) rfl rfl ?_
      refine G.aload X7 hx (pc' := 231) (hb hby at_229) rfl rfl rfl ?_
      refine G.aload X7 hx (pc' := 233) (hb hby at_231) rfl rfl rfl ?_
      refine G.callV X7 hx hZ (y0 := (⟨"com/example/netlocus/netlocus/Fraction", "equals", "(Ljava/lang/Object;)Z"⟩ : MethodName)) (y := (⟨"com/example/netlocus/netlocus/Fraction", "equals", "(Ljava/lang/Object;)Z"⟩ : MethodName)) hown (hw _ (List.mem_of_getElem? (i := 29) rfl)) (hw _ (List.mem_of_getElem? (i := 30) rfl)) (notFace_of_selects (args := #[]) (mvT hZ (hw _ (List.mem_of_getElem? (i := 32) rfl)))) (hw _ (List.mem_of_getElem? (i := 32) rfl)) (hw _ (List.mem_of_getElem? (i := 31) rfl)) (hw _ (List.mem_of_getElem? (i := 3) rfl)) (hw _ (List.mem_of_getElem? (i := 33) rfl)) (by decide) e7 (rm := ({ frames := 0, cells := 0, slots := 0, locals := 0 } : Room)) (argsL := [(.ref a)]) (S := []) (W := 0) (a := a) E5_a (rm_eq l Z a0 hw a a (aa / (gcdL aa bb)) (bb / (gcdL aa bb)) (aa / (gcdL aa bb)) (bb / (gcdL aa bb)) T5.heap E5_a F5_a_numerator F5_a_denominator F5_a_numerator F5_a_denominator) (lenOf pd_9 rfl) rfl (Nat.le_of_eq rfl) (by decide) (by decide) (by decide) (by decide) (by rw [hml]; rfl) (hb hby at_233) (pc' := 236) rfl ?_
      rintro T8 _ _ ⟨rfl, e8, rfl⟩ X8
      rw [List.append_nil] at X8
      show Goes p e below T8 (mkF m 236 #[.val (.long q0), .second, .val (.long q1), .second, .val (.long q2), .second, .val (.long q3), .second, .val (.int p4), .val (.int p5), .val (.long aa), .second, .val (.long bb), .second, .val (.long cc), .second, .val (.long dd), .second, .val (.long kk), .second, .val (.int (p5 &&& (3 : Int32))), .val (.long cc), .second, .val (.long dd), .second, .val (.int (1 : Int32)), .val (.ref a), .val (.ref b), .val .null, .val (.ref lb), .val (.int (eqv (aa / (gcdL aa bb)) (bb / (gcdL aa bb)) (cc / (gcdL cc dd)) (dd / (gcdL cc dd)))), .val (.int (eqv (cc / (gcdL cc dd)) (dd / (gcdL cc dd)) (aa / (gcdL aa bb)) (bb / (gcdL aa bb)))), .unset, .unset, .unset] [(.int (eqv (aa / (gcdL aa bb)) (bb / (gcdL aa bb)) (aa / (gcdL aa bb)) (bb / (gcdL aa bb))))]) _
      refine G.istore X8 hx (pc' := 238) (hb hby at_236) (L' := #[.val (.long q0), .second, .val (.long q1), .second, .val (.long q2), .second, .val (.long q3), .second, .val (.int p4), .val (.int p5), .val (.long aa), .second, .val (.long bb), .second, .val (.long cc), .second, .val (.long dd), .second, .val (.long kk), .second, .val (.int (p5 &&& (3 : Int32))), .val (.long cc), .second, .val (.long dd), .second, .val (.int (1 : Int32)), .val (.ref a), .val (.ref b), .val .null, .val (.ref lb), .val (.int (eqv (aa / (gcdL aa bb)) (bb / (gcdL aa bb)) (cc / (gcdL cc dd)) (dd / (gcdL cc dd)))), .val (.int (eqv (cc / (gcdL cc dd)) (dd / (gcdL cc dd)) (aa / (gcdL aa bb)) (bb / (gcdL aa bb)))), .val (.int (eqv (aa / (gcdL aa bb)) (bb / (gcdL aa bb)) (aa / (gcdL aa bb)) (bb / (gcdL aa bb)))), .unset, .unset]) rfl rfl ?_
      refine G.aload X8 hx (pc' := 240) (hb hby at_238) rfl rfl rfl ?_
      refine G.aload X8 hx (pc' := 242) (hb hby at_240) rfl rfl rfl ?_
      refine G.callV X8 hx hZ (y0 := (⟨"com/example/netlocus/netlocus/Fraction", "equals", "(Ljava/lang/Object;)Z"⟩ : MethodName)) (y := (⟨"com/example/netlocus/netlocus/Fraction", "equals", "(Ljava/lang/Object;)Z"⟩ : MethodName)) hown (hw _ (List.mem_of_getElem? (i := 29) rfl)) (hw _ (List.mem_of_getElem? (i := 30) rfl)) (notFace_of_selects (args := #[]) (mvT hZ (hw _ (List.mem_of_getElem? (i := 32) rfl)))) (hw _ (List.mem_of_getElem? (i := 32) rfl)) (hw _ (List.mem_of_getElem? (i := 31) rfl)) (hw _ (List.mem_of_getElem? (i := 3) rfl)) (hw _ (List.mem_of_getElem? (i := 33) rfl)) (by decide) e8 (rm := ({ frames := 0, cells := 0, slots := 0, locals := 0 } : Room)) (argsL := [.null]) (S := []) (W := 0) (a := a) E5_a (rm_eqn l Z a0 hw a T5.heap) (lenOf pd_9 rfl) rfl (Nat.le_of_eq rfl) (by decide) (by decide) (by decide) (by decide) (by rw [hml]; rfl) (hb hby at_242) (pc' := 245) rfl ?_
      rintro T9 _ _ ⟨rfl, e9, rfl⟩ X9
      rw [List.append_nil] at X9
      show Goes p e below T9 (mkF m 245 #[.val (.long q0), .second, .val (.long q1), .second, .val (.long q2), .second, .val (.long q3), .second, .val (.int p4), .val (.int p5), .val (.long aa), .second, .val (.long bb), .second, .val (.long cc), .second, .val (.long dd), .second, .val (.long kk), .second, .val (.int (p5 &&& (3 : Int32))), .val (.long cc), .second, .val (.long dd), .second, .val (.int (1 : Int32)), .val (.ref a), .val (.ref b), .val .null, .val (.ref lb), .val (.int (eqv (aa / (gcdL aa bb)) (bb / (gcdL aa bb)) (cc / (gcdL cc dd)) (dd / (gcdL cc dd)))), .val (.int (eqv (cc / (gcdL cc dd)) (dd / (gcdL cc dd)) (aa / (gcdL aa bb)) (bb / (gcdL aa bb)))), .val (.int (eqv (aa / (gcdL aa bb)) (bb / (gcdL aa bb)) (aa / (gcdL aa bb)) (bb / (gcdL aa bb)))), .unset, .unset] [(.int (0 : Int32))]) _
      refine G.istore X9 hx (pc' := 247) (hb hby at_245) (L' := #[.val (.long q0), .second, .val (.long q1), .second, .val (.long q2), .second, .val (.long q3), .second, .val (.int p4), .val (.int p5), .val (.long aa), .second, .val (.long bb), .second, .val (.long cc), .second, .val (.long dd), .second, .val (.long kk), .second, .val (.int (p5 &&& (3 : Int32))), .val (.long cc), .second, .val (.long dd), .second, .val (.int (1 : Int32)), .val (.ref a), .val (.ref b), .val .null, .val (.ref lb), .val (.int (eqv (aa / (gcdL aa bb)) (bb / (gcdL aa bb)) (cc / (gcdL cc dd)) (dd / (gcdL cc dd)))), .val (.int (eqv (cc / (gcdL cc dd)) (dd / (gcdL cc dd)) (aa / (gcdL aa bb)) (bb / (gcdL aa bb)))), .val (.int (eqv (aa / (gcdL aa bb)) (bb / (gcdL aa bb)) (aa / (gcdL aa bb)) (bb / (gcdL aa bb)))), .val (.int (0 : Int32)), .unset]) rfl rfl ?_
      refine G.aload X9 hx (pc' := 249) (hb hby at_247) rfl rfl rfl ?_
      refine G.aload X9 hx (pc' := 251) (hb hby at_249) rfl rfl rfl ?_
      refine G.callV X9 hx hZ (y0 := (⟨"com/example/netlocus/netlocus/Fraction", "equals", "(Ljava/lang/Object;)Z"⟩ : MethodName)) (y := (⟨"com/example/netlocus/netlocus/Fraction", "equals", "(Ljava/lang/Object;)Z"⟩ : MethodName)) hown (hw _ (List.mem_of_getElem? (i := 29) rfl)) (hw _ (List.mem_of_getElem? (i := 30) rfl)) (notFace_of_selects (args := #[]) (mvT hZ (hw _ (List.mem_of_getElem? (i := 32) rfl)))) (hw _ (List.mem_of_getElem? (i := 32) rfl)) (hw _ (List.mem_of_getElem? (i := 31) rfl)) (hw _ (List.mem_of_getElem? (i := 3) rfl)) (hw _ (List.mem_of_getElem? (i := 33) rfl)) (by decide) e9 (rm := ({ frames := 0, cells := 0, slots := 0, locals := 0 } : Room)) (argsL := [(.ref lb)]) (S := []) (W := 0) (a := a) E5_a (rm_eql l Z a0 hw a lb T5.heap El5) (lenOf pd_9 rfl) rfl (Nat.le_of_eq rfl) (by decide) (by decide) (by decide) (by decide) (by rw [hml]; rfl) (hb hby at_251) (pc' := 254) rfl ?_
      rintro T10 _ _ ⟨rfl, e10, rfl⟩ X10
      rw [List.append_nil] at X10
      show Goes p e below T10 (mkF m 254 #[.val (.long q0), .second, .val (.long q1), .second, .val (.long q2), .second, .val (.long q3), .second, .val (.int p4), .val (.int p5), .val (.long aa), .second, .val (.long bb), .second, .val (.long cc), .second, .val (.long dd), .second, .val (.long kk), .second, .val (.int (p5 &&& (3 : Int32))), .val (.long cc), .second, .val (.long dd), .second, .val (.int (1 : Int32)), .val (.ref a), .val (.ref b), .val .null, .val (.ref lb), .val (.int (eqv (aa / (gcdL aa bb)) (bb / (gcdL aa bb)) (cc / (gcdL cc dd)) (dd / (gcdL cc dd)))), .val (.int (eqv (cc / (gcdL cc dd)) (dd / (gcdL cc dd)) (aa / (gcdL aa bb)) (bb / (gcdL aa bb)))), .val (.int (eqv (aa / (gcdL aa bb)) (bb / (gcdL aa bb)) (aa / (gcdL aa bb)) (bb / (gcdL aa bb)))), .val (.int (0 : Int32)), .unset] [(.int (0 : Int32))]) _
      refine G.istore X10 hx (pc' := 256) (hb hby at_254) (L' := #[.val (.long q0), .second, .val (.long q1), .second, .val (.long q2), .second, .val (.long q3), .second, .val (.int p4), .val (.int p5), .val (.long aa), .second, .val (.long bb), .second, .val (.long cc), .second, .val (.long dd), .second, .val (.long kk), .second, .val (.int (p5 &&& (3 : Int32))), .val (.long cc), .second, .val (.long dd), .second, .val (.int (1 : Int32)), .val (.ref a), .val (.ref b), .val .null, .val (.ref lb), .val (.int (eqv (aa / (gcdL aa bb)) (bb / (gcdL aa bb)) (cc / (gcdL cc dd)) (dd / (gcdL cc dd)))), .val (.int (eqv (cc / (gcdL cc dd)) (dd / (gcdL cc dd)) (aa / (gcdL aa bb)) (bb / (gcdL aa bb)))), .val (.int (eqv (aa / (gcdL aa bb)) (bb / (gcdL aa bb)) (aa / (gcdL aa bb)) (bb / (gcdL aa bb)))), .val (.int (0 : Int32)), .val (.int (0 : Int32))]) rfl rfl ?_
      refine G.iload X10 hx (pc' := 258) (hb hby at_256) rfl rfl ?_
      refine G.iload X10 hx (pc' := 260) (hb hby at_258) rfl rfl ?_
      refine G.icmpF X10 hx (pc' := 263) (hb hby at_260) (Jvm.Free.XT.ii_ne_f (by rw [own_eqv aa bb cc dd hbb hcd, if_pos hcr])) rfl ?_
      refine G.iload X10 hx (pc' := 265) (hb hby at_263) rfl rfl ?_
      refine G.iload X10 hx (pc' := 267) (hb hby at_265) rfl rfl ?_
      refine G.icmpF X10 hx (pc' := 270) (hb hby at_267) (Jvm.Free.XT.ii_ne_f (by rw [own_eqv cc dd aa bb hcd hbb, if_pos hcr.symm])) rfl ?_
      refine G.iload X10 hx (pc' := 272) (hb hby at_270) rfl rfl ?_
      refine G.ifF X10 hx (pc' := 275) (hb hby at_272) (Jvm.Free.XT.i0_eq_f (by rw [eqv, if_pos ⟨rfl, rfl⟩]; decide)) rfl ?_
      refine G.iload X10 hx (pc' := 277) (hb hby at_275) rfl rfl ?_
      refine G.ifF X10 hx (pc' := 280) (hb hby at_277) (Jvm.Free.XT.i0_ne_f rfl) rfl ?_
      refine G.iload X10 hx (pc' := 282) (hb hby at_280) rfl rfl ?_
      refine G.ifF X10 hx (pc' := 285) (hb hby at_282) (Jvm.Free.XT.i0_ne_f rfl) rfl ?_
      refine G.iconst X10 hx (pc' := 286) (hb hby at_285) (z := (1 : Int32)) rfl rfl ?_
      refine G.goto X10 hx (pc' := 290) (hb hby at_286) (by decide) (by decide) ?_
      refine Goes.retN X10 hx hret (by simp) hlk (hb hby at_290) (by decide) (by decide) ⟨rfl, K5.fr⟩
    · refine G.ifT X0 hx (pc' := 85) (hb hby at_78) (Jvm.Free.XT.ll_ne_t d1) (by decide) (by decide) ?_
      refine G.iconst X0 hx (pc' := 86) (hb hby at_85) (z := (0 : Int32)) rfl rfl ?_
      refine G.istore X0 hx (pc' := 88) (hb hby at_86) (L' := #[.val (.long q0), .second, .val (.long q1), .second, .val (.long q2), .second, .val (.long q3), .second, .val (.int p4), .val (.int p5), .val (.long aa), .second, .val (.long bb), .second, .val (.long cc), .second, .val (.long dd), .second, .val (.long kk), .second, .val (.int (p5 &&& (3 : Int32))), .val (.long cc), .second, .val (.long dd), .second, .val (.int (0 : Int32)), .unset, .unset, .unset, .unset, .unset, .unset, .unset, .unset, .unset]) rfl rfl ?_
      refine G.goto X0 hx (pc' := 175) (hb hby at_88) (by decide) (by decide) ?_
      have hcr := fun q => d1 ((own_m0 aa bb cc dd raa rbb rcc rdd).mpr q)
      have hcd := (show 0 < dd.toInt by omega)
      have hbb : 0 < bb.toInt := by omega
      refine G.newO X0 hx hZ hown (hw _ (List.mem_of_getElem? (i := 1) rfl)) (hw _ (List.mem_of_getElem? (i := 2) rfl)) (hw _ (List.mem_of_getElem? (i := 3) rfl)) e0 (hb hby at_175) (by decide) (by decide) (pc' := 178) rfl fun T11 h11 a g11 X11 e11 Ex11 Ea11 D11 => ?_
      have sz_a : h0.size ≤ a := Nat.le_trans K0.size (Nat.le_of_eq g11.symm)
      have K11 := Kp.ext K0 Ex11
      have F11_a_numerator : Fld Z h11 a "com/example/netlocus/netlocus/Fraction" "numerator" "J" (.long (0 : Int64)) := D11 (Or.inr (hw _ (List.mem_of_getElem? (i := 18) rfl))) (ty := .long) (by decide)
      have F11_a_denominator : Fld Z h11 a "com/example/netlocus/netlocus/Fraction" "denominator" "J" (.long (0 : Int64)) := D11 (Or.inr (hw _ (List.mem_of_getElem? (i := 20) rfl))) (ty := .long) (by decide)
      refine G.dup X11 hx (pc' := 179) (hb hby at_178) rfl rfl ?_
      refine G.lload X11 hx (pc' := 181) (hb hby at_179) rfl rfl ?_
      refine G.lload X11 hx (pc' := 183) (hb hby at_181) rfl rfl ?_
      refine G.callI X11 hx hZ (y := (⟨"com/example/netlocus/netlocus/Fraction", "<init>", "(JJ)V"⟩ : MethodName)) rfl hown (hw _ (List.mem_of_getElem? (i := 4) rfl)) (hw _ (List.mem_of_getElem? (i := 5) rfl)) (hw _ (List.mem_of_getElem? (i := 3) rfl)) (hw _ (List.mem_of_getElem? (i := 6) rfl)) (by decide) e11 (rm := ({ frames := 2, cells := 0, slots := 0, locals := 34 } : Room)) (argsL := [(.long aa), (.long bb)]) (S := [(.ref a)]) (W := 1) (a := a) (rm_init l Z a0 hw a aa bb h11 Ea11 F11_a_numerator F11_a_denominator hbb) (lenOf pd_7 rfl) rfl (Nat.le_of_eq rfl) (by decide) (by decide) (by decide) (by decide) (by rw [hml]; rfl) (hb hby at_183) (pc' := 186) rfl ?_
      rintro T12 _ L12 ⟨rfl, Kq12, Fn12, Fd12⟩ X12
      have E12_a := Exa.keep Ea11 Kq12.1
      have K12 := Kp.call K11 Kq12 (allS (Or.inr sz_a) all0)
      show Goes p e below T12 (mkF m 186 #[.val (.long q0), .second, .val (.long q1), .second, .val (.long q2), .second, .val (.long q3), .second, .val (.int p4), .val (.int p5), .val (.long aa), .second, .val (.long bb), .second, .val (.long cc), .second, .val (.long dd), .second, .val (.long kk), .second, .val (.int (p5 &&& (3 : Int32))), .val (.long cc), .second, .val (.long dd), .second, .val (.int (0 : Int32)), .unset, .unset, .unset, .unset, .unset, .unset, .unset, .unset, .unset] [(.ref a)]) _
      refine G.astore X12 hx (pc' := 188) (hb hby at_186) rfl (L' := #[.val (.long q0), .second, .val (.long q1), .second, .val (.long q2), .second, .val (.long q3), .second, .val (.int p4), .val (.int p5), .val (.long aa), .second, .val (.long bb), .second, .val (.long cc), .second, .val (.long dd), .second, .val (.long kk), .second, .val (.int (p5 &&& (3 : Int32))), .val (.long cc), .second, .val (.long dd), .second, .val (.int (0 : Int32)), .val (.ref a), .unset, .unset, .unset, .unset, .unset, .unset, .unset, .unset]) rfl rfl ?_
      refine G.newO X12 hx hZ hown (hw _ (List.mem_of_getElem? (i := 1) rfl)) (hw _ (List.mem_of_getElem? (i := 2) rfl)) (hw _ (List.mem_of_getElem? (i := 3) rfl)) rfl (hb hby at_188) (by decide) (by decide) (pc' := 191) rfl fun T13 h13 b g13 X13 e13 Ex13 Ea13 D13 => ?_
      have ne_a_b : a ≠ b := Nat.ne_of_lt (Nat.lt_of_lt_of_le Fn12.lt (Nat.le_of_eq g13.symm))
      have sz_b : h0.size ≤ b := Nat.le_trans K12.size (Nat.le_of_eq g13.symm)
      have F13_a_numerator := Fld.ext  Ex13 Fn12
      have F13_a_denominator := Fld.ext  Ex13 Fd12
      have E13_a := Exa.ext  Ex13 E12_a
      have K13 := Kp.ext K12 Ex13
      have F13_b_numerator : Fld Z h13 b "com/example/netlocus/netlocus/Fraction" "numerator" "J" (.long (0 : Int64)) := D13 (Or.inr (hw _ (List.mem_of_getElem? (i := 18) rfl))) (ty := .long) (by decide)
      have F13_b_denominator : Fld Z h13 b "com/example/netlocus/netlocus/Fraction" "denominator" "J" (.long (0 : Int64)) := D13 (Or.inr (hw _ (List.mem_of_getElem? (i := 20) rfl))) (ty := .long) (by decide)
      refine G.dup X13 hx (pc' := 192) (hb hby at_191) rfl rfl ?_
      refine G.lload X13 hx (pc' := 194) (hb hby at_192) rfl rfl ?_
      refine G.lload X13 hx (pc' := 196) (hb hby at_194) rfl rfl ?_
      refine G.callI X13 hx hZ (y := (⟨"com/example/netlocus/netlocus/Fraction", "<init>", "(JJ)V"⟩ : MethodName)) rfl hown (hw _ (List.mem_of_getElem? (i := 4) rfl)) (hw _ (List.mem_of_getElem? (i := 5) rfl)) (hw _ (List.mem_of_getElem? (i := 3) rfl)) (hw _ (List.mem_of_getElem? (i := 6) rfl)) (by decide) e13 (rm := ({ frames := 2, cells := 0, slots := 0, locals := 34 } : Room)) (argsL := [(.long cc), (.long dd)]) (S := [(.ref b)]) (W := 1) (a := b) (rm_init l Z a0 hw b cc dd h13 Ea13 F13_b_numerator F13_b_denominator hcd) (lenOf pd_7 rfl) rfl (Nat.le_of_eq rfl) (by decide) (by decide) (by decide) (by decide) (by rw [hml]; rfl) (hb hby at_196) (pc' := 199) rfl ?_
      rintro T14 _ L14 ⟨rfl, Kq14, Fn14, Fd14⟩ X14
      have F14_a_numerator := Fld.keep F13_a_numerator Kq14.1 (ninS ne_a_b nin0)
      have F14_a_denominator := Fld.keep F13_a_denominator Kq14.1 (ninS ne_a_b nin0)
      have E14_a := Exa.keep E13_a Kq14.1
      have E14_b := Exa.keep Ea13 Kq14.1
      have K14 := Kp.call K13 Kq14 (allS (Or.inr sz_b) all0)
      show Goes p e below T14 (mkF m 199 #[.val (.long q0), .second, .val (.long q1), .second, .val (.long q2), .second, .val (.long q3), .second, .val (.int p4), .val (.int p5), .val (.long aa), .second, .val (.long bb), .second, .val (.long cc), .second, .val (.long dd), .second, .val (.long kk), .second, .val (.int (p5 &&& (3 : Int32))), .val (.long cc), .second, .val (.long dd), .second, .val (.int (0 : Int32)), .val (.ref a), .unset, .unset, .unset, .unset, .unset, .unset, .unset, .unset] [(.ref b)]) _
      refine G.astore X14 hx (pc' := 201) (hb hby at_199) rfl (L' := #[.val (.long q0), .second, .val (.long q1), .second, .val (.long q2), .second, .val (.long q3), .second, .val (.int p4), .val (.int p5), .val (.long aa), .second, .val (.long bb), .second, .val (.long cc), .second, .val (.long dd), .second, .val (.long kk), .second, .val (.int (p5 &&& (3 : Int32))), .val (.long cc), .second, .val (.long dd), .second, .val (.int (0 : Int32)), .val (.ref a), .val (.ref b), .unset, .unset, .unset, .unset, .unset, .unset, .unset]) rfl rfl ?_
      refine G.aconstNull X14 hx (pc' := 202) (hb hby at_201) rfl ?_
      refine G.astore X14 hx (pc' := 204) (hb hby at_202) rfl (L' := #[.val (.long q0), .second, .val (.long q1), .second, .val (.long q2), .second, .val (.long q3), .second, .val (.int p4), .val (.int p5), .val (.long aa), .second, .val (.long bb), .second, .val (.long cc), .second, .val (.long dd), .second, .val (.long kk), .second, .val (.int (p5 &&& (3 : Int32))), .val (.long cc), .second, .val (.long dd), .second, .val (.int (0 : Int32)), .val (.ref a), .val (.ref b), .val .null, .unset, .unset, .unset, .unset, .unset, .unset]) rfl rfl ?_
      refine G.lload X14 hx (pc' := 206) (hb hby at_204) rfl rfl ?_
      have hx' : ∀ j : Int32, ¬ j < 0 → j < (256 : Int32) → ∃ b, xs[j.toNatClampNeg]? = some (.ref b) ∧ Exa Z T14.heap b "java/lang/Long" := fun j u1 u2 => by
        obtain ⟨b', v1, v2⟩ := hxc j u1 u2
        exact ⟨b', v1, v2.keep K14.1⟩
      refine G.callS X14 hx hZ (y := (⟨"java/lang/Long", "valueOf", "(J)Ljava/lang/Long;"⟩ : MethodName)) hown (hw _ (List.mem_of_getElem? (i := 21) rfl)) (hw _ (List.mem_of_getElem? (i := 22) rfl)) (hw _ (List.mem_of_getElem? (i := 23) rfl)) (hw _ (List.mem_of_getElem? (i := 24) rfl)) (by decide) rfl (rm := ({ frames := 3, cells := 1, slots := 1, locals := 39 } : Room)) (argsL := [(.long aa)]) (S := []) (W := 0) (rm_box l Z a0 hw aa ca xs T14.heap (Sta.keep0 S0 K14.1) (Seq.keep A0 K14.1 nin0) hx') (lenOf pd_8 rfl) rfl (Nat.le_of_eq rfl) (by decide) (by decide) (by decide) (by decide) (by rw [hml]; rfl) (hb hby at_206) (pc' := 209) rfl ?_
      rintro T15 _ L15 ⟨lb, rfl, Kq15, El15⟩ X15
      have F15_a_numerator := Fld.keep F14_a_numerator Kq15.1 nin0
      have F15_a_denominator := Fld.keep F14_a_denominator Kq15.1 nin0
      have F15_b_numerator := Fld.keep Fn14 Kq15.1 nin0
      have F15_b_denominator := Fld.keep Fd14 Kq15.1 nin0
      have E15_a := Exa.keep E14_a Kq15.1
      have E15_b := Exa.keep E14_b Kq15.1
      have K15 := Kp.call K14 Kq15 all0
      show Goes p e below T15 (mkF m 209 #[.val (.long q0), .second, .val (.long q1), .second, .val (.long q2), .second, .val (.long q3), .second, .val (.int p4), .val (.int p5), .val (.long aa), .second, .val (.long bb), .second, .val (.long cc), .second, .val (.long dd), .second, .val (.long kk), .second, .val (.int (p5 &&& (3 : Int32))), .val (.long cc), .second, .val (.long dd), .second, .val (.int (0 : Int32)), .val (.ref a), .val (.ref b), .val .null, .unset, .unset, .unset, .unset, .unset, .unset] [(.ref lb)]) _
      refine G.astore X15 hx (pc' := 211) (hb hby at_209) rfl (L' := #[.val (.long q0), .second, .val (.long q1), .second, .val (.long q2), .second, .val (.long q3), .second, .val (.int p4), .val (.int p5), .val (.long aa), .second, .val (.long bb), .second, .val (.long cc), .second, .val (.long dd), .second, .val (.long kk), .second, .val (.int (p5 &&& (3 : Int32))), .val (.long cc), .second, .val (.long dd), .second, .val (.int (0 : Int32)), .val (.ref a), .val (.ref b), .val .null, .val (.ref lb), .unset, .unset, .unset, .unset, .unset]) rfl rfl ?_
      refine G.aload X15 hx (pc' := 213) (hb hby at_211) rfl rfl rfl ?_
      refine G.aload X15 hx (pc' := 215) (hb hby at_213) rfl rfl rfl ?_
      refine G.callV X15 hx hZ (y0 := (⟨"com/example/netlocus/netlocus/Fraction", "equals", "(Ljava/lang/Object;)Z"⟩ : MethodName)) (y := (⟨"com/example/netlocus/netlocus/Fraction", "equals", "(Ljava/lang/Object;)Z"⟩ : MethodName)) hown (hw _ (List.mem_of_getElem? (i := 29) rfl)) (hw _ (List.mem_of_getElem? (i := 30) rfl)) (notFace_of_selects (args := #[]) (mvT hZ (hw _ (List.mem_of_getElem? (i := 32) rfl)))) (hw _ (List.mem_of_getElem? (i := 32) rfl)) (hw _ (List.mem_of_getElem? (i := 31) rfl)) (hw _ (List.mem_of_getElem? (i := 3) rfl)) (hw _ (List.mem_of_getElem? (i := 33) rfl)) (by decide) rfl (rm := ({ frames := 0, cells := 0, slots := 0, locals := 0 } : Room)) (argsL := [(.ref b)]) (S := []) (W := 0) (a := a) E15_a (rm_eq l Z a0 hw a b (aa / (gcdL aa bb)) (bb / (gcdL aa bb)) (cc / (gcdL cc dd)) (dd / (gcdL cc dd)) T15.heap E15_b F15_a_numerator F15_a_denominator F15_b_numerator F15_b_denominator) (lenOf pd_9 rfl) rfl (Nat.le_of_eq rfl) (by decide) (by decide) (by decide) (by decide) (by rw [hml]; rfl) (hb hby at_215) (pc' := 218) rfl ?_
      rintro T16 _ _ ⟨rfl, e16, rfl⟩ X16
      rw [List.append_nil] at X16
      show Goes p e below T16 (mkF m 218 #[.val (.long q0), .second, .val (.long q1), .second, .val (.long q2), .second, .val (.long q3), .second, .val (.int p4), .val (.int p5), .val (.long aa), .second, .val (.long bb), .second, .val (.long cc), .second, .val (.long dd), .second, .val (.long kk), .second, .val (.int (p5 &&& (3 : Int32))), .val (.long cc), .second, .val (.long dd), .second, .val (.int (0 : Int32)), .val (.ref a), .val (.ref b), .val .null, .val (.ref lb), .unset, .unset, .unset, .unset, .unset] [(.int (eqv (aa / (gcdL aa bb)) (bb / (gcdL aa bb)) (cc / (gcdL cc dd)) (dd / (gcdL cc dd))))]) _
      refine G.istore X16 hx (pc' := 220) (hb hby at_218) (L' := #[.val (.long q0), .second, .val (.long q1), .second, .val (.long q2), .second, .val (.long q3), .second, .val (.int p4), .val (.int p5), .val (.long aa), .second, .val (.long bb), .second, .val (.long cc), .second, .val (.long dd), .second, .val (.long kk), .second, .val (.int (p5 &&& (3 : Int32))), .val (.long cc), .second, .val (.long dd), .second, .val (.int (0 : Int32)), .val (.ref a), .val (.ref b), .val .null, .val (.ref lb), .val (.int (eqv (aa / (gcdL aa bb)) (bb / (gcdL aa bb)) (cc / (gcdL cc dd)) (dd / (gcdL cc dd)))), .unset, .unset, .unset, .unset]) rfl rfl ?_
      refine G.aload X16 hx (pc' := 222) (hb hby at_220) rfl rfl rfl ?_
      refine G.aload X16 hx (pc' := 224) (hb hby at_222) rfl rfl rfl ?_
      refine G.callV X16 hx hZ (y0 := (⟨"com/example/netlocus/netlocus/Fraction", "equals", "(Ljava/lang/Object;)Z"⟩ : MethodName)) (y := (⟨"com/example/netlocus/netlocus/Fraction", "equals", "(Ljava/lang/Object;)Z"⟩ : MethodName)) hown (hw _ (List.mem_of_getElem? (i := 29) rfl)) (hw _ (List.mem_of_getElem? (i := 30) rfl)) (notFace_of_selects (args := #[]) (mvT hZ (hw _ (List.mem_of_getElem? (i := 32) rfl)))) (hw _ (List.mem_of_getElem? (i := 32) rfl)) (hw _ (List.mem_of_getElem? (i := 31) rfl)) (hw _ (List.mem_of_getElem? (i := 3) rfl)) (hw _ (List.mem_of_getElem? (i := 33) rfl)) (by decide) e16 (rm := ({ frames := 0, cells := 0, slots := 0, locals := 0 } : Room)) (argsL := [(.ref a)]) (S := []) (W := 0) (a := b) E15_b (rm_eq l Z a0 hw b a (cc / (gcdL cc dd)) (dd / (gcdL cc dd)) (aa / (gcdL aa bb)) (bb / (gcdL aa bb)) T15.heap E15_a F15_b_numerator F15_b_denominator F15_a_numerator F15_a_denominator) (lenOf pd_9 rfl) rfl (Nat.le_of_eq rfl) (by decide) (by decide) (by decide) (by decide) (by rw [hml]; rfl) (hb hby at_224) (pc' := 227) rfl ?_
      rintro T17 _ _ ⟨rfl, e17, rfl⟩ X17
      rw [List.append_nil] at X17
      show Goes p e below T17 (mkF m 227 #[.val (.long q0), .second, .val (.long q1), .second, .val (.long q2), .second, .val (.long q3), .second, .val (.int p4), .val (.int p5), .val (.long aa), .second, .val (.long bb), .second, .val (.long cc), .second, .val (.long dd), .second, .val (.long kk), .second, .val (.int (p5 &&& (3 : Int32))), .val (.long cc), .second, .val (.long dd), .second, .val (.int (0 : Int32)), .val (.ref a), .val (.ref b), .val .null, .val (.ref lb), .val (.int (eqv (aa / (gcdL aa bb)) (bb / (gcdL aa bb)) (cc / (gcdL cc dd)) (dd / (gcdL cc dd)))), .unset, .unset, .unset, .unset] [(.int (eqv (cc / (gcdL cc dd)) (dd / (gcdL cc dd)) (aa / (gcdL aa bb)) (bb / (gcdL aa bb))))]) _
      refine G.istore X17 hx (pc' := 229) (hb hby at_227) (L' := #[.val (.long q0), .second, .val (.long q1), .second, .val (.long q2), .second, .val (.long q3), .second, .val (.int p4), .val (.int p5), .val (.long aa), .second, .val (.long bb), .second, .val (.long cc), .second, .val (.long dd), .second, .val (.long kk), .second, .val (.int (p5 &&& (3 : Int32))), .val (.long cc), .second, .val (.long dd), .second, .val (.int (0 : Int32)), .val (.ref a), .val (.ref b), .val .null, .val (.ref lb), .val (.int (eqv (aa / (gcdL aa bb)) (bb / (gcdL aa bb)) (cc / (gcdL cc dd)) (dd / (gcdL cc dd)))), .val (.int (eqv (cc / (gcdL cc dd)) (dd / (gcdL cc dd)) (aa / (gcdL aa bb)) (bb / (gcdL aa bb)))), .unset, .unset, .unset]) rfl rfl ?_
      refine G.aload X17 hx (pc' := 231) (hb hby at_229) rfl rfl rfl ?_
      refine G.aload X17 hx (pc' := 233) (hb hby at_231) rfl rfl rfl ?_
      refine G.callV X17 hx hZ (y0 := (⟨"com/example/netlocus/netlocus/Fraction", "equals", "(Ljava/lang/Object;)Z"⟩ : MethodName)) (y := (⟨"com/example/netlocus/netlocus/Fraction", "equals", "(Ljava/lang/Object;)Z"⟩ : MethodName)) hown (hw _ (List.mem_of_getElem? (i := 29) rfl)) (hw _ (List.mem_of_getElem? (i := 30) rfl)) (notFace_of_selects (args := #[]) (mvT hZ (hw _ (List.mem_of_getElem? (i := 32) rfl)))) (hw _ (List.mem_of_getElem? (i := 32) rfl)) (hw _ (List.mem_of_getElem? (i := 31) rfl)) (hw _ (List.mem_of_getElem? (i := 3) rfl)) (hw _ (List.mem_of_getElem? (i := 33) rfl)) (by decide) e17 (rm := ({ frames := 0, cells := 0, slots := 0, locals := 0 } : Room)) (argsL := [(.ref a)]) (S := []) (W := 0) (a := a) E15_a (rm_eq l Z a0 hw a a (aa / (gcdL aa bb)) (bb / (gcdL aa bb)) (aa / (gcdL aa bb)) (bb / (gcdL aa bb)) T15.heap E15_a F15_a_numerator F15_a_denominator F15_a_numerator F15_a_denominator) (lenOf pd_9 rfl) rfl (Nat.le_of_eq rfl) (by decide) (by decide) (by decide) (by decide) (by rw [hml]; rfl) (hb hby at_233) (pc' := 236) rfl ?_
      rintro T18 _ _ ⟨rfl, e18, rfl⟩ X18
      rw [List.append_nil] at X18
      show Goes p e below T18 (mkF m 236 #[.val (.long q0), .second, .val (.long q1), .second, .val (.long q2), .second, .val (.long q3), .second, .val (.int p4), .val (.int p5), .val (.long aa), .second, .val (.long bb), .second, .val (.long cc), .second, .val (.long dd), .second, .val (.long kk), .second, .val (.int (p5 &&& (3 : Int32))), .val (.long cc), .second, .val (.long dd), .second, .val (.int (0 : Int32)), .val (.ref a), .val (.ref b), .val .null, .val (.ref lb), .val (.int (eqv (aa / (gcdL aa bb)) (bb / (gcdL aa bb)) (cc / (gcdL cc dd)) (dd / (gcdL cc dd)))), .val (.int (eqv (cc / (gcdL cc dd)) (dd / (gcdL cc dd)) (aa / (gcdL aa bb)) (bb / (gcdL aa bb)))), .unset, .unset, .unset] [(.int (eqv (aa / (gcdL aa bb)) (bb / (gcdL aa bb)) (aa / (gcdL aa bb)) (bb / (gcdL aa bb))))]) _
      refine G.istore X18 hx (pc' := 238) (hb hby at_236) (L' := #[.val (.long q0), .second, .val (.long q1), .second, .val (.long q2), .second, .val (.long q3), .second, .val (.int p4), .val (.int p5), .val (.long aa), .second, .val (.long bb), .second, .val (.long cc), .second, .val (.long dd), .second, .val (.long kk), .second, .val (.int (p5 &&& (3 : Int32))), .val (.long cc), .second, .val (.long dd), .second, .val (.int (0 : Int32)), .val (.ref a), .val (.ref b), .val .null, .val (.ref lb), .val (.int (eqv (aa / (gcdL aa bb)) (bb / (gcdL aa bb)) (cc / (gcdL cc dd)) (dd / (gcdL cc dd)))), .val (.int (eqv (cc / (gcdL cc dd)) (dd / (gcdL cc dd)) (aa / (gcdL aa bb)) (bb / (gcdL aa bb)))), .val (.int (eqv (aa / (gcdL aa bb)) (bb / (gcdL aa bb)) (aa / (gcdL aa bb)) (bb / (gcdL aa bb)))), .unset, .unset]) rfl rfl ?_
      refine G.aload X18 hx (pc' := 240) (hb hby at_238) rfl rfl rfl ?_
      refine G.aload X18 hx (pc' := 242) (hb hby at_240) rfl rfl rfl ?_
      refine G.callV X18 hx hZ (y0 := (⟨"com/example/netlocus/netlocus/Fraction", "equals", "(Ljava/lang/Object;)Z"⟩ : MethodName)) (y := (⟨"com/example/netlocus/netlocus/Fraction", "equals", "(Ljava/lang/Object;)Z"⟩ : MethodName)) hown (hw _ (List.mem_of_getElem? (i := 29) rfl)) (hw _ (List.mem_of_getElem? (i := 30) rfl)) (notFace_of_selects (args := #[]) (mvT hZ (hw _ (List.mem_of_getElem? (i := 32) rfl)))) (hw _ (List.mem_of_getElem? (i := 32) rfl)) (hw _ (List.mem_of_getElem? (i := 31) rfl)) (hw _ (List.mem_of_getElem? (i := 3) rfl)) (hw _ (List.mem_of_getElem? (i := 33) rfl)) (by decide) e18 (rm := ({ frames := 0, cells := 0, slots := 0, locals := 0 } : Room)) (argsL := [.null]) (S := []) (W := 0) (a := a) E15_a (rm_eqn l Z a0 hw a T15.heap) (lenOf pd_9 rfl) rfl (Nat.le_of_eq rfl) (by decide) (by decide) (by decide) (by decide) (by rw [hml]; rfl) (hb hby at_242) (pc' := 245) rfl ?_
      rintro T19 _ _ ⟨rfl, e19, rfl⟩ X19
      rw [List.append_nil] at X19
      show Goes p e below T19 (mkF m 245 #[.val (.long q0), .second, .val (.long q1), .second, .val (.long q2), .second, .val (.long q3), .second, .val (.int p4), .val (.int p5), .val (.long aa), .second, .val (.long bb), .second, .val (.long cc), .second, .val (.long dd), .second, .val (.long kk), .second, .val (.int (p5 &&& (3 : Int32))), .val (.long cc), .second, .val (.long dd), .second, .val (.int (0 : Int32)), .val (.ref a), .val (.ref b), .val .null, .val (.ref lb), .val (.int (eqv (aa / (gcdL aa bb)) (bb / (gcdL aa bb)) (cc / (gcdL cc dd)) (dd / (gcdL cc dd)))), .val (.int (eqv (cc / (gcdL cc dd)) (dd / (gcdL cc dd)) (aa / (gcdL aa bb)) (bb / (gcdL aa bb)))), .val (.int (eqv (aa / (gcdL aa bb)) (bb / (gcdL aa bb)) (aa / (gcdL aa bb)) (bb / (gcdL aa bb)))), .unset, .unset] [(.int (0 : Int32))]) _
      refine G.istore X19 hx (pc' := 247) (hb hby at_245) (L' := #[.val (.long q0), .second, .val (.long q1), .second, .val (.long q2), .second, .val (.long q3), .second, .val (.int p4), .val (.int p5), .val (.long aa), .second, .val (.long bb), .second, .val (.long cc), .second, .val (.long dd), .second, .val (.long kk), .second, .val (.int (p5 &&& (3 : Int32))), .val (.long cc), .second, .val (.long dd), .second, .val (.int (0 : Int32)), .val (.ref a), .val (.ref b), .val .null, .val (.ref lb), .val (.int (eqv (aa / (gcdL aa bb)) (bb / (gcdL aa bb)) (cc / (gcdL cc dd)) (dd / (gcdL cc dd)))), .val (.int (eqv (cc / (gcdL cc dd)) (dd / (gcdL cc dd)) (aa / (gcdL aa bb)) (bb / (gcdL aa bb)))), .val (.int (eqv (aa / (gcdL aa bb)) (bb / (gcdL aa bb)) (aa / (gcdL aa bb)) (bb / (gcdL aa bb)))), .val (.int (0 : Int32)), .unset]) rfl rfl ?_
      refine G.aload X19 hx (pc' := 249) (hb hby at_247) rfl rfl rfl ?_
      refine G.aload X19 hx (pc' := 251) (hb hby at_249) rfl rfl rfl ?_
      refine G.callV X19 hx hZ (y0 := (⟨"com/example/netlocus/netlocus/Fraction", "equals", "(Ljava/lang/Object;)Z"⟩ : MethodName)) (y := (⟨"com/example/netlocus/netlocus/Fraction", "equals", "(Ljava/lang/Object;)Z"⟩ : MethodName)) hown (hw _ (List.mem_of_getElem? (i := 29) rfl)) (hw _ (List.mem_of_getElem? (i := 30) rfl)) (notFace_of_selects (args := #[]) (mvT hZ (hw _ (List.mem_of_getElem? (i := 32) rfl)))) (hw _ (List.mem_of_getElem? (i := 32) rfl)) (hw _ (List.mem_of_getElem? (i := 31) rfl)) (hw _ (List.mem_of_getElem? (i := 3) rfl)) (hw _ (List.mem_of_getElem? (i := 33) rfl)) (by decide) e19 (rm := ({ frames := 0, cells := 0, slots := 0, locals := 0 } : Room)) (argsL := [(.ref lb)]) (S := []) (W := 0) (a := a) E15_a (rm_eql l Z a0 hw a lb T15.heap El15) (lenOf pd_9 rfl) rfl (Nat.le_of_eq rfl) (by decide) (by decide) (by decide) (by decide) (by rw [hml]; rfl) (hb hby at_251) (pc' := 254) rfl ?_
      rintro T20 _ _ ⟨rfl, e20, rfl⟩ X20
      rw [List.append_nil] at X20
      show Goes p e below T20 (mkF m 254 #[.val (.long q0), .second, .val (.long q1), .second, .val (.long q2), .second, .val (.long q3), .second, .val (.int p4), .val (.int p5), .val (.long aa), .second, .val (.long bb), .second, .val (.long cc), .second, .val (.long dd), .second, .val (.long kk), .second, .val (.int (p5 &&& (3 : Int32))), .val (.long cc), .second, .val (.long dd), .second, .val (.int (0 : Int32)), .val (.ref a), .val (.ref b), .val .null, .val (.ref lb), .val (.int (eqv (aa / (gcdL aa bb)) (bb / (gcdL aa bb)) (cc / (gcdL cc dd)) (dd / (gcdL cc dd)))), .val (.int (eqv (cc / (gcdL cc dd)) (dd / (gcdL cc dd)) (aa / (gcdL aa bb)) (bb / (gcdL aa bb)))), .val (.int (eqv (aa / (gcdL aa bb)) (bb / (gcdL aa bb)) (aa / (gcdL aa bb)) (bb / (gcdL aa bb)))), .val (.int (0 : Int32)), .unset] [(.int (0 : Int32))]) _
      refine G.istore X20 hx (pc' := 256) (hb hby at_254) (L' := #[.val (.long q0), .second, .val (.long q1), .second, .val (.long q2), .second, .val (.long q3), .second, .val (.int p4), .val (.int p5), .val (.long aa), .second, .val (.long bb), .second, .val (.long cc), .second, .val (.long dd), .second, .val (.long kk), .second, .val (.int (p5 &&& (3 : Int32))), .val (.long cc), .second, .val (.long dd), .second, .val (.int (0 : Int32)), .val (.ref a), .val (.ref b), .val .null, .val (.ref lb), .val (.int (eqv (aa / (gcdL aa bb)) (bb / (gcdL aa bb)) (cc / (gcdL cc dd)) (dd / (gcdL cc dd)))), .val (.int (eqv (cc / (gcdL cc dd)) (dd / (gcdL cc dd)) (aa / (gcdL aa bb)) (bb / (gcdL aa bb)))), .val (.int (eqv (aa / (gcdL aa bb)) (bb / (gcdL aa bb)) (aa / (gcdL aa bb)) (bb / (gcdL aa bb)))), .val (.int (0 : Int32)), .val (.int (0 : Int32))]) rfl rfl ?_
      refine G.iload X20 hx (pc' := 258) (hb hby at_256) rfl rfl ?_
      refine G.iload X20 hx (pc' := 260) (hb hby at_258) rfl rfl ?_
      refine G.icmpF X20 hx (pc' := 263) (hb hby at_260) (Jvm.Free.XT.ii_ne_f (by rw [own_eqv aa bb cc dd hbb hcd, if_neg hcr])) rfl ?_
      refine G.iload X20 hx (pc' := 265) (hb hby at_263) rfl rfl ?_
      refine G.iload X20 hx (pc' := 267) (hb hby at_265) rfl rfl ?_
      refine G.icmpF X20 hx (pc' := 270) (hb hby at_267) (Jvm.Free.XT.ii_ne_f (by rw [own_eqv cc dd aa bb hcd hbb, if_neg (fun q => hcr q.symm)])) rfl ?_
      refine G.iload X20 hx (pc' := 272) (hb hby at_270) rfl rfl ?_
      refine G.ifF X20 hx (pc' := 275) (hb hby at_272) (Jvm.Free.XT.i0_eq_f (by rw [eqv, if_pos ⟨rfl, rfl⟩]; decide)) rfl ?_
      refine G.iload X20 hx (pc' := 277) (hb hby at_275) rfl rfl ?_
      refine G.ifF X20 hx (pc' := 280) (hb hby at_277) (Jvm.Free.XT.i0_ne_f rfl) rfl ?_
      refine G.iload X20 hx (pc' := 282) (hb hby at_280) rfl rfl ?_
      refine G.ifF X20 hx (pc' := 285) (hb hby at_282) (Jvm.Free.XT.i0_ne_f rfl) rfl ?_
      refine G.iconst X20 hx (pc' := 286) (hb hby at_285) (z := (1 : Int32)) rfl rfl ?_
      refine G.goto X20 hx (pc' := 290) (hb hby at_286) (by decide) (by decide) ?_
      refine Goes.retN X20 hx hret (by simp) hlk (hb hby at_290) (by decide) (by decide) ⟨rfl, K15.fr⟩
  · refine G.ifT X0 hx (pc' := 91) (hb hby at_56) (Jvm.Free.XT.i0_ne_t d0) (by decide) (by decide) ?_
    refine G.iload X0 hx (pc' := 93) (hb hby at_91) rfl rfl ?_
    refine G.iconst X0 hx (pc' := 94) (hb hby at_93) (z := (1 : Int32)) rfl rfl ?_
    by_cases d1 : (p5 &&& (3 : Int32)) = (1 : Int32)
    · refine G.icmpF X0 hx (pc' := 97) (hb hby at_94) (Jvm.Free.XT.ii_ne_f d1) rfl ?_
      refine G.lload X0 hx (pc' := 99) (hb hby at_97) rfl rfl ?_
      refine G.lload X0 hx (pc' := 101) (hb hby at_99) rfl rfl ?_
      refine G.lmul X0 hx (pc' := 102) (hb hby at_101) rfl ?_
      refine G.lstore X0 hx (pc' := 104) (hb hby at_102) (L' := #[.val (.long q0), .second, .val (.long q1), .second, .val (.long q2), .second, .val (.long q3), .second, .val (.int p4), .val (.int p5), .val (.long aa), .second, .val (.long bb), .second, .val (.long cc), .second, .val (.long dd), .second, .val (.long kk), .second, .val (.int (p5 &&& (3 : Int32))), .val (.long (aa * kk)), .second, .unset, .unset, .unset, .unset, .unset, .unset, .unset, .unset, .unset, .unset, .unset, .unset]) rfl rfl ?_
      refine G.lload X0 hx (pc' := 106) (hb hby at_104) rfl rfl ?_
      refine G.lload X0 hx (pc' := 108) (hb hby at_106) rfl rfl ?_
      refine G.lmul X0 hx (pc' := 109) (hb hby at_108) rfl ?_
      refine G.lstore X0 hx (pc' := 111) (hb hby at_109) (L' := #[.val (.long q0), .second, .val (.long q1), .second, .val (.long q2), .second, .val (.long q3), .second, .val (.int p4), .val (.int p5), .val (.long aa), .second, .val (.long bb), .second, .val (.long cc), .second, .val (.long dd), .second, .val (.long kk), .second, .val (.int (p5 &&& (3 : Int32))), .val (.long (aa * kk)), .second, .val (.long (bb * kk)), .second, .unset, .unset, .unset, .unset, .unset, .unset, .unset, .unset, .unset, .unset]) rfl rfl ?_
      refine G.iconst X0 hx (pc' := 112) (hb hby at_111) (z := (1 : Int32)) rfl rfl ?_
      refine G.istore X0 hx (pc' := 114) (hb hby at_112) (L' := #[.val (.long q0), .second, .val (.long q1), .second, .val (.long q2), .second, .val (.long q3), .second, .val (.int p4), .val (.int p5), .val (.long aa), .second, .val (.long bb), .second, .val (.long cc), .second, .val (.long dd), .second, .val (.long kk), .second, .val (.int (p5 &&& (3 : Int32))), .val (.long (aa * kk)), .second, .val (.long (bb * kk)), .second, .val (.int (1 : Int32)), .unset, .unset, .unset, .unset, .unset, .unset, .unset, .unset, .unset]) rfl rfl ?_
      refine G.goto X0 hx (pc' := 175) (hb hby at_114) (by decide) (by decide) ?_
      have hcr := (own_m1 aa bb kk raa rbb rkk).1
      have hcd := (own_m1 aa bb kk raa rbb rkk).2
      have hbb : 0 < bb.toInt := by omega
      generalize hcn : (aa * kk) = cn at hcr ⊢
      generalize hcdv : (bb * kk) = cd at hcr hcd ⊢
      refine G.newO X0 hx hZ hown (hw _ (List.mem_of_getElem? (i := 1) rfl)) (hw _ (List.mem_of_getElem? (i := 2) rfl)) (hw _ (List.mem_of_getElem? (i := 3) rfl)) e0 (hb hby at_175) (by decide) (by decide) (pc' := 178) rfl fun T21 h21 a g21 X21 e21 Ex21 Ea21 D21 => ?_
      have sz_a : h0.size ≤ a := Nat.le_trans K0.size (Nat.le_of_eq g21.symm)
      have K21 := Kp.ext K0 Ex21
      have F21_a_numerator : Fld Z h21 a "com/example/netlocus/netlocus/Fraction" "numerator" "J" (.long (0 : Int64)) := D21 (Or.inr (hw _ (List.mem_of_getElem? (i := 18) rfl))) (ty := .long) (by decide)
      have F21_a_denominator : Fld Z h21 a "com/example/netlocus/netlocus/Fraction" "denominator" "J" (.long (0 : Int64)) := D21 (Or.inr (hw _ (List.mem_of_getElem? (i := 20) rfl))) (ty := .long) (by decide)
      refine G.dup X21 hx (pc' := 179) (hb hby at_178) rfl rfl ?_
      refine G.lload X21 hx (pc' := 181) (hb hby at_179) rfl rfl ?_
      refine G.lload X21 hx (pc' := 183) (hb hby at_181) rfl rfl ?_
      refine G.callI X21 hx hZ (y := (⟨"com/example/netlocus/netlocus/Fraction", "<init>", "(JJ)V"⟩ : MethodName)) rfl hown (hw _ (List.mem_of_getElem? (i := 4) rfl)) (hw _ (List.mem_of_getElem? (i := 5) rfl)) (hw _ (List.mem_of_getElem? (i := 3) rfl)) (hw _ (List.mem_of_getElem? (i := 6) rfl)) (by decide) e21 (rm := ({ frames := 2, cells := 0, slots := 0, locals := 34 } : Room)) (argsL := [(.long aa), (.long bb)]) (S := [(.ref a)]) (W := 1) (a := a) (rm_init l Z a0 hw a aa bb h21 Ea21 F21_a_numerator F21_a_denominator hbb) (lenOf pd_7 rfl) rfl (Nat.le_of_eq rfl) (by decide) (by decide) (by decide) (by decide) (by rw [hml]; rfl) (hb hby at_183) (pc' := 186) rfl ?_
      rintro T22 _ L22 ⟨rfl, Kq22, Fn22, Fd22⟩ X22
      have E22_a := Exa.keep Ea21 Kq22.1
      have K22 := Kp.call K21 Kq22 (allS (Or.inr sz_a) all0)
      show Goes p e below T22 (mkF m 186 #[.val (.long q0), .second, .val (.long q1), .second, .val (.long q2), .second, .val (.long q3), .second, .val (.int p4), .val (.int p5), .val (.long aa), .second, .val (.long bb), .second, .val (.long cc), .second, .val (.long dd), .second, .val (.long kk), .second, .val (.int (p5 &&& (3 : Int32))), .val (.long cn), .second, .val (.long cd), .second, .val (.int (1 : Int32)), .unset, .unset, .unset, .unset, .unset, .unset, .unset, .unset, .unset] [(.ref a)]) _
      refine G.astore X22 hx (pc' := 188) (hb hby at_186) rfl (L' := #[.val (.long q0), .second, .val (.long q1), .second, .val (.long q2), .second, .val (.long q3), .second, .val (.int p4), .val (.int p5), .val (.long aa), .second, .val (.long bb), .second, .val (.long cc), .second, .val (.long dd), .second, .val (.long kk), .second, .val (.int (p5 &&& (3 : Int32))), .val (.long cn), .second, .val (.long cd), .second, .val (.int (1 : Int32)), .val (.ref a), .unset, .unset, .unset, .unset, .unset, .unset, .unset, .unset]) rfl rfl ?_
      refine G.newO X22 hx hZ hown (hw _ (List.mem_of_getElem? (i := 1) rfl)) (hw _ (List.mem_of_getElem? (i := 2) rfl)) (hw _ (List.mem_of_getElem? (i := 3) rfl)) rfl (hb hby at_188) (by decide) (by decide) (pc' := 191) rfl fun T23 h23 b g23 X23 e23 Ex23 Ea23 D23 => ?_
      have ne_a_b : a ≠ b := Nat.ne_of_lt (Nat.lt_of_lt_of_le Fn22.lt (Nat.le_of_eq g23.symm))
      have sz_b : h0.size ≤ b := Nat.le_trans K22.size (Nat.le_of_eq g23.symm)
      have F23_a_numerator := Fld.ext  Ex23 Fn22
      have F23_a_denominator := Fld.ext  Ex23 Fd22
      have E23_a := Exa.ext  Ex23 E22_a
      have K23 := Kp.ext K22 Ex23
      have F23_b_numerator : Fld Z h23 b "com/example/netlocus/netlocus/Fraction" "numerator" "J" (.long (0 : Int64)) := D23 (Or.inr (hw _ (List.mem_of_getElem? (i := 18) rfl))) (ty := .long) (by decide)
      have F23_b_denominator : Fld Z h23 b "com/example/netlocus/netlocus/Fraction" "denominator" "J" (.long (0 : Int64)) := D23 (Or.inr (hw _ (List.mem_of_getElem? (i := 20) rfl))) (ty := .long) (by decide)
      refine G.dup X23 hx (pc' := 192) (hb hby at_191) rfl rfl ?_
      refine G.lload X23 hx (pc' := 194) (hb hby at_192) rfl rfl ?_
      refine G.lload X23 hx (pc' := 196) (hb hby at_194) rfl rfl ?_
      refine G.callI X23 hx hZ (y := (⟨"com/example/netlocus/netlocus/Fraction", "<init>", "(JJ)V"⟩ : MethodName)) rfl hown (hw _ (List.mem_of_getElem? (i := 4) rfl)) (hw _ (List.mem_of_getElem? (i := 5) rfl)) (hw _ (List.mem_of_getElem? (i := 3) rfl)) (hw _ (List.mem_of_getElem? (i := 6) rfl)) (by decide) e23 (rm := ({ frames := 2, cells := 0, slots := 0, locals := 34 } : Room)) (argsL := [(.long cn), (.long cd)]) (S := [(.ref b)]) (W := 1) (a := b) (rm_init l Z a0 hw b cn cd h23 Ea23 F23_b_numerator F23_b_denominator hcd) (lenOf pd_7 rfl) rfl (Nat.le_of_eq rfl) (by decide) (by decide) (by decide) (by decide) (by rw [hml]; rfl) (hb hby at_196) (pc' := 199) rfl ?_
      rintro T24 _ L24 ⟨rfl, Kq24, Fn24, Fd24⟩ X24
      have F24_a_numerator := Fld.keep F23_a_numerator Kq24.1 (ninS ne_a_b nin0)
      have F24_a_denominator := Fld.keep F23_a_denominator Kq24.1 (ninS ne_a_b nin0)
      have E24_a := Exa.keep E23_a Kq24.1
      have E24_b := Exa.keep Ea23 Kq24.1
      have K24 := Kp.call K23 Kq24 (allS (Or.inr sz_b) all0)
      show Goes p e below T24 (mkF m 199 #[.val (.long q0), .second, .val (.long q1), .second, .val (.long q2), .second, .val (.long q3), .second, .val (.int p4), .val (.int p5), .val (.long aa), .second, .val (.long bb), .second, .val (.long cc), .second, .val (.long dd), .second, .val (.long kk), .second, .val (.int (p5 &&& (3 : Int32))), .val (.long cn), .second, .val (.long cd), .second, .val (.int (1 : Int32)), .val (.ref a), .unset, .unset, .unset, .unset, .unset, .unset, .unset, .unset] [(.ref b)]) _
      refine G.astore X24 hx (pc' := 201) (hb hby at_199) rfl (L' := #[.val (.long q0), .second, .val (.long q1), .second, .val (.long q2), .second, .val (.long q3), .second, .val (.int p4), .val (.int p5), .val (.long aa), .second, .val (.long bb), .second, .val (.long cc), .second, .val (.long dd), .second, .val (.long kk), .second, .val (.int (p5 &&& (3 : Int32))), .val (.long cn), .second, .val (.long cd), .second, .val (.int (1 : Int32)), .val (.ref a), .val (.ref b), .unset, .unset, .unset, .unset, .unset, .unset, .unset]) rfl rfl ?_
      refine G.aconstNull X24 hx (pc' := 202) (hb hby at_201) rfl ?_
      refine G.astore X24 hx (pc' := 204) (hb hby at_202) rfl (L' := #[.val (.long q0), .second, .val (.long q1), .second, .val (.long q2), .second, .val (.long q3), .second, .val (.int p4), .val (.int p5), .val (.long aa), .second, .val (.long bb), .second, .val (.long cc), .second, .val (.long dd), .second, .val (.long kk), .second, .val (.int (p5 &&& (3 : Int32))), .val (.long cn), .second, .val (.long cd), .second, .val (.int (1 : Int32)), .val (.ref a), .val (.ref b), .val .null, .unset, .unset, .unset, .unset, .unset, .unset]) rfl rfl ?_
      refine G.lload X24 hx (pc' := 206) (hb hby at_204) rfl rfl ?_
      have hx' : ∀ j : Int32, ¬ j < 0 → j < (256 : Int32) → ∃ b, xs[j.toNatClampNeg]? = some (.ref b) ∧ Exa Z T24.heap b "java/lang/Long" := fun j u1 u2 => by
        obtain ⟨b', v1, v2⟩ := hxc j u1 u2
        exact ⟨b', v1, v2.keep K24.1⟩
      refine G.callS X24 hx hZ (y := (⟨"java/lang/Long", "valueOf", "(J)Ljava/lang/Long;"⟩ : MethodName)) hown (hw _ (List.mem_of_getElem? (i := 21) rfl)) (hw _ (List.mem_of_getElem? (i := 22) rfl)) (hw _ (List.mem_of_getElem? (i := 23) rfl)) (hw _ (List.mem_of_getElem? (i := 24) rfl)) (by decide) rfl (rm := ({ frames := 3, cells := 1, slots := 1, locals := 39 } : Room)) (argsL := [(.long aa)]) (S := []) (W := 0) (rm_box l Z a0 hw aa ca xs T24.heap (Sta.keep0 S0 K24.1) (Seq.keep A0 K24.1 nin0) hx') (lenOf pd_8 rfl) rfl (Nat.le_of_eq rfl) (by decide) (by decide) (by decide) (by decide) (by rw [hml]; rfl) (hb hby at_206) (pc' := 209) rfl ?_
      rintro T25 _ L25 ⟨lb, rfl, Kq25, El25⟩ X25
      have F25_a_numerator := Fld.keep F24_a_numerator Kq25.1 nin0
      have F25_a_denominator := Fld.keep F24_a_denominator Kq25.1 nin0
      have F25_b_numerator := Fld.keep Fn24 Kq25.1 nin0
      have F25_b_denominator := Fld.keep Fd24 Kq25.1 nin0
      have E25_a := Exa.keep E24_a Kq25.1
      have E25_b := Exa.keep E24_b Kq25.1
      have K25 := Kp.call K24 Kq25 all0
      show Goes p e below T25 (mkF m 209 #[.val (.long q0), .second, .val (.long q1), .second, .val (.long q2), .second, .val (.long q3), .second, .val (.int p4), .val (.int p5), .val (.long aa), .second, .val (.long bb), .second, .val (.long cc), .second, .val (.long dd), .second, .val (.long kk), .second, .val (.int (p5 &&& (3 : Int32))), .val (.long cn), .second, .val (.long cd), .second, .val (.int (1 : Int32)), .val (.ref a), .val (.ref b), .val .null, .unset, .unset, .unset, .unset, .unset, .unset] [(.ref lb)]) _
      refine G.astore X25 hx (pc' := 211) (hb hby at_209) rfl (L' := #[.val (.long q0), .second, .val (.long q1), .second, .val (.long q2), .second, .val (.long q3), .second, .val (.int p4), .val (.int p5), .val (.long aa), .second, .val (.long bb), .second, .val (.long cc), .second, .val (.long dd), .second, .val (.long kk), .second, .val (.int (p5 &&& (3 : Int32))), .val (.long cn), .second, .val (.long cd), .second, .val (.int (1 : Int32)), .val (.ref a), .val (.ref b), .val .null, .val (.ref lb), .unset, .unset, .unset, .unset, .unset]) rfl rfl ?_
      refine G.aload X25 hx (pc' := 213) (hb hby at_211) rfl rfl rfl ?_
      refine G.aload X25 hx (pc' := 215) (hb hby at_213) rfl rfl rfl ?_
      refine G.callV X25 hx hZ (y0 := (⟨"com/example/netlocus/netlocus/Fraction", "equals", "(Ljava/lang/Object;)Z"⟩ : MethodName)) (y := (⟨"com/example/netlocus/netlocus/Fraction", "equals", "(Ljava/lang/Object;)Z"⟩ : MethodName)) hown (hw _ (List.mem_of_getElem? (i := 29) rfl)) (hw _ (List.mem_of_getElem? (i := 30) rfl)) (notFace_of_selects (args := #[]) (mvT hZ (hw _ (List.mem_of_getElem? (i := 32) rfl)))) (hw _ (List.mem_of_getElem? (i := 32) rfl)) (hw _ (List.mem_of_getElem? (i := 31) rfl)) (hw _ (List.mem_of_getElem? (i := 3) rfl)) (hw _ (List.mem_of_getElem? (i := 33) rfl)) (by decide) rfl (rm := ({ frames := 0, cells := 0, slots := 0, locals := 0 } : Room)) (argsL := [(.ref b)]) (S := []) (W := 0) (a := a) E25_a (rm_eq l Z a0 hw a b (aa / (gcdL aa bb)) (bb / (gcdL aa bb)) (cn / (gcdL cn cd)) (cd / (gcdL cn cd)) T25.heap E25_b F25_a_numerator F25_a_denominator F25_b_numerator F25_b_denominator) (lenOf pd_9 rfl) rfl (Nat.le_of_eq rfl) (by decide) (by decide) (by decide) (by decide) (by rw [hml]; rfl) (hb hby at_215) (pc' := 218) rfl ?_
      rintro T26 _ _ ⟨rfl, e26, rfl⟩ X26
      rw [List.append_nil] at X26
      show Goes p e below T26 (mkF m 218 #[.val (.long q0), .second, .val (.long q1), .second, .val (.long q2), .second, .val (.long q3), .second, .val (.int p4), .val (.int p5), .val (.long aa), .second, .val (.long bb), .second, .val (.long cc), .second, .val (.long dd), .second, .val (.long kk), .second, .val (.int (p5 &&& (3 : Int32))), .val (.long cn), .second, .val (.long cd), .second, .val (.int (1 : Int32)), .val (.ref a), .val (.ref b), .val .null, .val (.ref lb), .unset, .unset, .unset, .unset, .unset] [(.int (eqv (aa / (gcdL aa bb)) (bb / (gcdL aa bb)) (cn / (gcdL cn cd)) (cd / (gcdL cn cd))))]) _
      refine G.istore X26 hx (pc' := 220) (hb hby at_218) (L' := #[.val (.long q0), .second, .val (.long q1), .second, .val (.long q2), .second, .val (.long q3), .second, .val (.int p4), .val (.int p5), .val (.long aa), .second, .val (.long bb), .second, .val (.long cc), .second, .val (.long dd), .second, .val (.long kk), .second, .val (.int (p5 &&& (3 : Int32))), .val (.long cn), .second, .val (.long cd), .second, .val (.int (1 : Int32)), .val (.ref a), .val (.ref b), .val .null, .val (.ref lb), .val (.int (eqv (aa / (gcdL aa bb)) (bb / (gcdL aa bb)) (cn / (gcdL cn cd)) (cd / (gcdL cn cd)))), .unset, .unset, .unset, .unset]) rfl rfl ?_
      refine G.aload X26 hx (pc' := 222) (hb hby at_220) rfl rfl rfl ?_
      refine G.aload X26 hx (pc' := 224) (hb hby at_222) rfl rfl rfl ?_
      refine G.callV X26 hx hZ (y0 := (⟨"com/example/netlocus/netlocus/Fraction", "equals", "(Ljava/lang/Object;)Z"⟩ : MethodName)) (y := (⟨"com/example/netlocus/netlocus/Fraction", "equals", "(Ljava/lang/Object;)Z"⟩ : MethodName)) hown (hw _ (List.mem_of_getElem? (i := 29) rfl)) (hw _ (List.mem_of_getElem? (i := 30) rfl)) (notFace_of_selects (args := #[]) (mvT hZ (hw _ (List.mem_of_getElem? (i := 32) rfl)))) (hw _ (List.mem_of_getElem? (i := 32) rfl)) (hw _ (List.mem_of_getElem? (i := 31) rfl)) (hw _ (List.mem_of_getElem? (i := 3) rfl)) (hw _ (List.mem_of_getElem? (i := 33) rfl)) (by decide) e26 (rm := ({ frames := 0, cells := 0, slots := 0, locals := 0 } : Room)) (argsL := [(.ref a)]) (S := []) (W := 0) (a := b) E25_b (rm_eq l Z a0 hw b a (cn / (gcdL cn cd)) (cd / (gcdL cn cd)) (aa / (gcdL aa bb)) (bb / (gcdL aa bb)) T25.heap E25_a F25_b_numerator F25_b_denominator F25_a_numerator F25_a_denominator) (lenOf pd_9 rfl) rfl (Nat.le_of_eq rfl) (by decide) (by decide) (by decide) (by decide) (by rw [hml]; rfl) (hb hby at_224) (pc' := 227) rfl ?_
      rintro T27 _ _ ⟨rfl, e27, rfl⟩ X27
      rw [List.append_nil] at X27
      show Goes p e below T27 (mkF m 227 #[.val (.long q0), .second, .val (.long q1), .second, .val (.long q2), .second, .val (.long q3), .second, .val (.int p4), .val (.int p5), .val (.long aa), .second, .val (.long bb), .second, .val (.long cc), .second, .val (.long dd), .second, .val (.long kk), .second, .val (.int (p5 &&& (3 : Int32))), .val (.long cn), .second, .val (.long cd), .second, .val (.int (1 : Int32)), .val (.ref a), .val (.ref b), .val .null, .val (.ref lb), .val (.int (eqv (aa / (gcdL aa bb)) (bb / (gcdL aa bb)) (cn / (gcdL cn cd)) (cd / (gcdL cn cd)))), .unset, .unset, .unset, .unset] [(.int (eqv (cn / (gcdL cn cd)) (cd / (gcdL cn cd)) (aa / (gcdL aa bb)) (bb / (gcdL aa bb))))]) _
      refine G.istore X27 hx (pc' := 229) (hb hby at_227) (L' := #[.val (.long q0), .second, .val (.long q1), .second, .val (.long q2), .second, .val (.long q3), .second, .val (.int p4), .val (.int p5), .val (.long aa), .second, .val (.long bb), .second, .val (.long cc), .second, .val (.long dd), .second, .val (.long kk), .second, .val (.int (p5 &&& (3 : Int32))), .val (.long cn), .second, .val (.long cd), .second, .val (.int (1 : Int32)), .val (.ref a), .val (.ref b), .val .null, .val (.ref lb), .val (.int (eqv (aa / (gcdL aa bb)) (bb / (gcdL aa bb)) (cn / (gcdL cn cd)) (cd / (gcdL cn cd)))), .val (.int (eqv (cn / (gcdL cn cd)) (cd / (gcdL cn cd)) (aa / (gcdL aa bb)) (bb / (gcdL aa bb)))), .unset, .unset, .unset]) rfl rfl ?_
      refine G.aload X27 hx (pc' := 231) (hb hby at_229) rfl rfl rfl ?_
      refine G.aload X27 hx (pc' := 233) (hb hby at_231) rfl rfl rfl ?_
      refine G.callV X27 hx hZ (y0 := (⟨"com/example/netlocus/netlocus/Fraction", "equals", "(Ljava/lang/Object;)Z"⟩ : MethodName)) (y := (⟨"com/example/netlocus/netlocus/Fraction", "equals", "(Ljava/lang/Object;)Z"⟩ : MethodName)) hown (hw _ (List.mem_of_getElem? (i := 29) rfl)) (hw _ (List.mem_of_getElem? (i := 30) rfl)) (notFace_of_selects (args := #[]) (mvT hZ (hw _ (List.mem_of_getElem? (i := 32) rfl)))) (hw _ (List.mem_of_getElem? (i := 32) rfl)) (hw _ (List.mem_of_getElem? (i := 31) rfl)) (hw _ (List.mem_of_getElem? (i := 3) rfl)) (hw _ (List.mem_of_getElem? (i := 33) rfl)) (by decide) e27 (rm := ({ frames := 0, cells := 0, slots := 0, locals := 0 } : Room)) (argsL := [(.ref a)]) (S := []) (W := 0) (a := a) E25_a (rm_eq l Z a0 hw a a (aa / (gcdL aa bb)) (bb / (gcdL aa bb)) (aa / (gcdL aa bb)) (bb / (gcdL aa bb)) T25.heap E25_a F25_a_numerator F25_a_denominator F25_a_numerator F25_a_denominator) (lenOf pd_9 rfl) rfl (Nat.le_of_eq rfl) (by decide) (by decide) (by decide) (by decide) (by rw [hml]; rfl) (hb hby at_233) (pc' := 236) rfl ?_
      rintro T28 _ _ ⟨rfl, e28, rfl⟩ X28
      rw [List.append_nil] at X28
      show Goes p e below T28 (mkF m 236 #[.val (.long q0), .second, .val (.long q1), .second, .val (.long q2), .second, .val (.long q3), .second, .val (.int p4), .val (.int p5), .val (.long aa), .second, .val (.long bb), .second, .val (.long cc), .second, .val (.long dd), .second, .val (.long kk), .second, .val (.int (p5 &&& (3 : Int32))), .val (.long cn), .second, .val (.long cd), .second, .val (.int (1 : Int32)), .val (.ref a), .val (.ref b), .val .null, .val (.ref lb), .val (.int (eqv (aa / (gcdL aa bb)) (bb / (gcdL aa bb)) (cn / (gcdL cn cd)) (cd / (gcdL cn cd)))), .val (.int (eqv (cn / (gcdL cn cd)) (cd / (gcdL cn cd)) (aa / (gcdL aa bb)) (bb / (gcdL aa bb)))), .unset, .unset, .unset] [(.int (eqv (aa / (gcdL aa bb)) (bb / (gcdL aa bb)) (aa / (gcdL aa bb)) (bb / (gcdL aa bb))))]) _
      refine G.istore X28 hx (pc' := 238) (hb hby at_236) (L' := #[.val (.long q0), .second, .val (.long q1), .second, .val (.long q2), .second, .val (.long q3), .second, .val (.int p4), .val (.int p5), .val (.long aa), .second, .val (.long bb), .second, .val (.long cc), .second, .val (.long dd), .second, .val (.long kk), .second, .val (.int (p5 &&& (3 : Int32))), .val (.long cn), .second, .val (.long cd), .second, .val (.int (1 : Int32)), .val (.ref a), .val (.ref b), .val .null, .val (.ref lb), .val (.int (eqv (aa / (gcdL aa bb)) (bb / (gcdL aa bb)) (cn / (gcdL cn cd)) (cd / (gcdL cn cd)))), .val (.int (eqv (cn / (gcdL cn cd)) (cd / (gcdL cn cd)) (aa / (gcdL aa bb)) (bb / (gcdL aa bb)))), .val (.int (eqv (aa / (gcdL aa bb)) (bb / (gcdL aa bb)) (aa / (gcdL aa bb)) (bb / (gcdL aa bb)))), .unset, .unset]) rfl rfl ?_
      refine G.aload X28 hx (pc' := 240) (hb hby at_238) rfl rfl rfl ?_
      refine G.aload X28 hx (pc' := 242) (hb hby at_240) rfl rfl rfl ?_
      refine G.callV X28 hx hZ (y0 := (⟨"com/example/netlocus/netlocus/Fraction", "equals", "(Ljava/lang/Object;)Z"⟩ : MethodName)) (y := (⟨"com/example/netlocus/netlocus/Fraction", "equals", "(Ljava/lang/Object;)Z"⟩ : MethodName)) hown (hw _ (List.mem_of_getElem? (i := 29) rfl)) (hw _ (List.mem_of_getElem? (i := 30) rfl)) (notFace_of_selects (args := #[]) (mvT hZ (hw _ (List.mem_of_getElem? (i := 32) rfl)))) (hw _ (List.mem_of_getElem? (i := 32) rfl)) (hw _ (List.mem_of_getElem? (i := 31) rfl)) (hw _ (List.mem_of_getElem? (i := 3) rfl)) (hw _ (List.mem_of_getElem? (i := 33) rfl)) (by decide) e28 (rm := ({ frames := 0, cells := 0, slots := 0, locals := 0 } : Room)) (argsL := [.null]) (S := []) (W := 0) (a := a) E25_a (rm_eqn l Z a0 hw a T25.heap) (lenOf pd_9 rfl) rfl (Nat.le_of_eq rfl) (by decide) (by decide) (by decide) (by decide) (by rw [hml]; rfl) (hb hby at_242) (pc' := 245) rfl ?_
      rintro T29 _ _ ⟨rfl, e29, rfl⟩ X29
      rw [List.append_nil] at X29
      show Goes p e below T29 (mkF m 245 #[.val (.long q0), .second, .val (.long q1), .second, .val (.long q2), .second, .val (.long q3), .second, .val (.int p4), .val (.int p5), .val (.long aa), .second, .val (.long bb), .second, .val (.long cc), .second, .val (.long dd), .second, .val (.long kk), .second, .val (.int (p5 &&& (3 : Int32))), .val (.long cn), .second, .val (.long cd), .second, .val (.int (1 : Int32)), .val (.ref a), .val (.ref b), .val .null, .val (.ref lb), .val (.int (eqv (aa / (gcdL aa bb)) (bb / (gcdL aa bb)) (cn / (gcdL cn cd)) (cd / (gcdL cn cd)))), .val (.int (eqv (cn / (gcdL cn cd)) (cd / (gcdL cn cd)) (aa / (gcdL aa bb)) (bb / (gcdL aa bb)))), .val (.int (eqv (aa / (gcdL aa bb)) (bb / (gcdL aa bb)) (aa / (gcdL aa bb)) (bb / (gcdL aa bb)))), .unset, .unset] [(.int (0 : Int32))]) _
      refine G.istore X29 hx (pc' := 247) (hb hby at_245) (L' := #[.val (.long q0), .second, .val (.long q1), .second, .val (.long q2), .second, .val (.long q3), .second, .val (.int p4), .val (.int p5), .val (.long aa), .second, .val (.long bb), .second, .val (.long cc), .second, .val (.long dd), .second, .val (.long kk), .second, .val (.int (p5 &&& (3 : Int32))), .val (.long cn), .second, .val (.long cd), .second, .val (.int (1 : Int32)), .val (.ref a), .val (.ref b), .val .null, .val (.ref lb), .val (.int (eqv (aa / (gcdL aa bb)) (bb / (gcdL aa bb)) (cn / (gcdL cn cd)) (cd / (gcdL cn cd)))), .val (.int (eqv (cn / (gcdL cn cd)) (cd / (gcdL cn cd)) (aa / (gcdL aa bb)) (bb / (gcdL aa bb)))), .val (.int (eqv (aa / (gcdL aa bb)) (bb / (gcdL aa bb)) (aa / (gcdL aa bb)) (bb / (gcdL aa bb)))), .val (.int (0 : Int32)), .unset]) rfl rfl ?_
      refine G.aload X29 hx (pc' := 249) (hb hby at_247) rfl rfl rfl ?_
      refine G.aload X29 hx (pc' := 251) (hb hby at_249) rfl rfl rfl ?_
      refine G.callV X29 hx hZ (y0 := (⟨"com/example/netlocus/netlocus/Fraction", "equals", "(Ljava/lang/Object;)Z"⟩ : MethodName)) (y := (⟨"com/example/netlocus/netlocus/Fraction", "equals", "(Ljava/lang/Object;)Z"⟩ : MethodName)) hown (hw _ (List.mem_of_getElem? (i := 29) rfl)) (hw _ (List.mem_of_getElem? (i := 30) rfl)) (notFace_of_selects (args := #[]) (mvT hZ (hw _ (List.mem_of_getElem? (i := 32) rfl)))) (hw _ (List.mem_of_getElem? (i := 32) rfl)) (hw _ (List.mem_of_getElem? (i := 31) rfl)) (hw _ (List.mem_of_getElem? (i := 3) rfl)) (hw _ (List.mem_of_getElem? (i := 33) rfl)) (by decide) e29 (rm := ({ frames := 0, cells := 0, slots := 0, locals := 0 } : Room)) (argsL := [(.ref lb)]) (S := []) (W := 0) (a := a) E25_a (rm_eql l Z a0 hw a lb T25.heap El25) (lenOf pd_9 rfl) rfl (Nat.le_of_eq rfl) (by decide) (by decide) (by decide) (by decide) (by rw [hml]; rfl) (hb hby at_251) (pc' := 254) rfl ?_
      rintro T30 _ _ ⟨rfl, e30, rfl⟩ X30
      rw [List.append_nil] at X30
      show Goes p e below T30 (mkF m 254 #[.val (.long q0), .second, .val (.long q1), .second, .val (.long q2), .second, .val (.long q3), .second, .val (.int p4), .val (.int p5), .val (.long aa), .second, .val (.long bb), .second, .val (.long cc), .second, .val (.long dd), .second, .val (.long kk), .second, .val (.int (p5 &&& (3 : Int32))), .val (.long cn), .second, .val (.long cd), .second, .val (.int (1 : Int32)), .val (.ref a), .val (.ref b), .val .null, .val (.ref lb), .val (.int (eqv (aa / (gcdL aa bb)) (bb / (gcdL aa bb)) (cn / (gcdL cn cd)) (cd / (gcdL cn cd)))), .val (.int (eqv (cn / (gcdL cn cd)) (cd / (gcdL cn cd)) (aa / (gcdL aa bb)) (bb / (gcdL aa bb)))), .val (.int (eqv (aa / (gcdL aa bb)) (bb / (gcdL aa bb)) (aa / (gcdL aa bb)) (bb / (gcdL aa bb)))), .val (.int (0 : Int32)), .unset] [(.int (0 : Int32))]) _
      refine G.istore X30 hx (pc' := 256) (hb hby at_254) (L' := #[.val (.long q0), .second, .val (.long q1), .second, .val (.long q2), .second, .val (.long q3), .second, .val (.int p4), .val (.int p5), .val (.long aa), .second, .val (.long bb), .second, .val (.long cc), .second, .val (.long dd), .second, .val (.long kk), .second, .val (.int (p5 &&& (3 : Int32))), .val (.long cn), .second, .val (.long cd), .second, .val (.int (1 : Int32)), .val (.ref a), .val (.ref b), .val .null, .val (.ref lb), .val (.int (eqv (aa / (gcdL aa bb)) (bb / (gcdL aa bb)) (cn / (gcdL cn cd)) (cd / (gcdL cn cd)))), .val (.int (eqv (cn / (gcdL cn cd)) (cd / (gcdL cn cd)) (aa / (gcdL aa bb)) (bb / (gcdL aa bb)))), .val (.int (eqv (aa / (gcdL aa bb)) (bb / (gcdL aa bb)) (aa / (gcdL aa bb)) (bb / (gcdL aa bb)))), .val (.int (0 : Int32)), .val (.int (0 : Int32))]) rfl rfl ?_
      refine G.iload X30 hx (pc' := 258) (hb hby at_256) rfl rfl ?_
      refine G.iload X30 hx (pc' := 260) (hb hby at_258) rfl rfl ?_
      refine G.icmpF X30 hx (pc' := 263) (hb hby at_260) (Jvm.Free.XT.ii_ne_f (by rw [own_eqv aa bb cn cd hbb hcd, if_pos hcr])) rfl ?_
      refine G.iload X30 hx (pc' := 265) (hb hby at_263) rfl rfl ?_
      refine G.iload X30 hx (pc' := 267) (hb hby at_265) rfl rfl ?_
      refine G.icmpF X30 hx (pc' := 270) (hb hby at_267) (Jvm.Free.XT.ii_ne_f (by rw [own_eqv cn cd aa bb hcd hbb, if_pos hcr.symm])) rfl ?_
      refine G.iload X30 hx (pc' := 272) (hb hby at_270) rfl rfl ?_
      refine G.ifF X30 hx (pc' := 275) (hb hby at_272) (Jvm.Free.XT.i0_eq_f (by rw [eqv, if_pos ⟨rfl, rfl⟩]; decide)) rfl ?_
      refine G.iload X30 hx (pc' := 277) (hb hby at_275) rfl rfl ?_
      refine G.ifF X30 hx (pc' := 280) (hb hby at_277) (Jvm.Free.XT.i0_ne_f rfl) rfl ?_
      refine G.iload X30 hx (pc' := 282) (hb hby at_280) rfl rfl ?_
      refine G.ifF X30 hx (pc' := 285) (hb hby at_282) (Jvm.Free.XT.i0_ne_f rfl) rfl ?_
      refine G.iconst X30 hx (pc' := 286) (hb hby at_285) (z := (1 : Int32)) rfl rfl ?_
      refine G.goto X30 hx (pc' := 290) (hb hby at_286) (by decide) (by decide) ?_
      refine Goes.retN X30 hx hret (by simp) hlk (hb hby at_290) (by decide) (by decide) ⟨rfl, K25.fr⟩
    · refine G.icmpT X0 hx (pc' := 117) (hb hby at_94) (Jvm.Free.XT.ii_ne_t d1) (by decide) (by decide) ?_
      refine G.iload X0 hx (pc' := 119) (hb hby at_117) rfl rfl ?_
      refine G.iconst X0 hx (pc' := 120) (hb hby at_119) (z := (2 : Int32)) rfl rfl ?_
      by_cases d2 : (p5 &&& (3 : Int32)) = (2 : Int32)
      · refine G.icmpF X0 hx (pc' := 123) (hb hby at_120) (Jvm.Free.XT.ii_ne_f d2) rfl ?_
        refine G.lload X0 hx (pc' := 125) (hb hby at_123) rfl rfl ?_
        refine G.lload X0 hx (pc' := 127) (hb hby at_125) rfl rfl ?_
        refine G.lmul X0 hx (pc' := 128) (hb hby at_127) rfl ?_
        refine G.lstore X0 hx (pc' := 130) (hb hby at_128) (L' := #[.val (.long q0), .second, .val (.long q1), .second, .val (.long q2), .second, .val (.long q3), .second, .val (.int p4), .val (.int p5), .val (.long aa), .second, .val (.long bb), .second, .val (.long cc), .second, .val (.long dd), .second, .val (.long kk), .second, .val (.int (p5 &&& (3 : Int32))), .val (.long (aa * kk)), .second, .unset, .unset, .unset, .unset, .unset, .unset, .unset, .unset, .unset, .unset, .unset, .unset]) rfl rfl ?_
        refine G.lload X0 hx (pc' := 132) (hb hby at_130) rfl rfl ?_
        refine G.lload X0 hx (pc' := 134) (hb hby at_132) rfl rfl ?_
        refine G.lmul X0 hx (pc' := 135) (hb hby at_134) rfl ?_
        refine G.lconst X0 hx (pc' := 136) (hb hby at_135) (z := (1 : Int64)) rfl rfl ?_
        refine G.ladd X0 hx (pc' := 137) (hb hby at_136) rfl ?_
        refine G.lstore X0 hx (pc' := 139) (hb hby at_137) (L' := #[.val (.long q0), .second, .val (.long q1), .second, .val (.long q2), .second, .val (.long q3), .second, .val (.int p4), .val (.int p5), .val (.long aa), .second, .val (.long bb), .second, .val (.long cc), .second, .val (.long dd), .second, .val (.long kk), .second, .val (.int (p5 &&& (3 : Int32))), .val (.long (aa * kk)), .second, .val (.long ((bb * kk) + (1 : Int64))), .second, .unset, .unset, .unset, .unset, .unset, .unset, .unset, .unset, .unset, .unset]) rfl rfl ?_
        refine G.lload X0 hx (pc' := 141) (hb hby at_139) rfl rfl ?_
        refine G.lconst X0 hx (pc' := 142) (hb hby at_141) (z := (0 : Int64)) rfl rfl ?_
        refine G.lcmp X0 hx (pc' := 143) (hb hby at_142) rfl ?_
        by_cases d3 : aa = (0 : Int64)
        · refine G.ifF X0 hx (pc' := 146) (hb hby at_143) (Jvm.Free.XT.ll_ne_f d3) rfl ?_
          refine G.iconst X0 hx (pc' := 147) (hb hby at_146) (z := (1 : Int32)) rfl rfl ?_
          refine G.goto X0 hx (pc' := 151) (hb hby at_147) (by decide) (by decide) ?_
          refine G.istore X0 hx (pc' := 153) (hb hby at_151) (L' := #[.val (.long q0), .second, .val (.long q1), .second, .val (.long q2), .second, .val (.long q3), .second, .val (.int p4), .val (.int p5), .val (.long aa), .second, .val (.long bb), .second, .val (.long cc), .second, .val (.long dd), .second, .val (.long kk), .second, .val (.int (p5 &&& (3 : Int32))), .val (.long (aa * kk)), .second, .val (.long ((bb * kk) + (1 : Int64))), .second, .val (.int (1 : Int32)), .unset, .unset, .unset, .unset, .unset, .unset, .unset, .unset, .unset]) rfl rfl ?_
          refine G.goto X0 hx (pc' := 175) (hb hby at_153) (by decide) (by decide) ?_
          have hcr := (own_m2 aa bb kk raa rbb rkk).1.mp d3
          have hcd := (own_m2 aa bb kk raa rbb rkk).2
          have hbb : 0 < bb.toInt := by omega
          generalize hcn : (aa * kk) = cn at hcr ⊢
          generalize hcdv : ((bb * kk) + (1 : Int64)) = cd at hcr hcd ⊢
          refine G.newO X0 hx hZ hown (hw _ (List.mem_of_getElem? (i := 1) rfl)) (hw _ (List.mem_of_getElem? (i := 2) rfl)) (hw _ (List.mem_of_getElem? (i := 3) rfl)) e0 (hb hby at_175) (by decide) (by decide) (pc' := 178) rfl fun T31 h31 a g31 X31 e31 Ex31 Ea31 D31 => ?_
          have sz_a : h0.size ≤ a := Nat.le_trans K0.size (Nat.le_of_eq g31.symm)
          have K31 := Kp.ext K0 Ex31
          have F31_a_numerator : Fld Z h31 a "com/example/netlocus/netlocus/Fraction" "numerator" "J" (.long (0 : Int64)) := D31 (Or.inr (hw _ (List.mem_of_getElem? (i := 18) rfl))) (ty := .long) (by decide)
          have F31_a_denominator : Fld Z h31 a "com/example/netlocus/netlocus/Fraction" "denominator" "J" (.long (0 : Int64)) := D31 (Or.inr (hw _ (List.mem_of_getElem? (i := 20) rfl))) (ty := .long) (by decide)
          refine G.dup X31 hx (pc' := 179) (hb hby at_178) rfl rfl ?_
          refine G.lload X31 hx (pc' := 181) (hb hby at_179) rfl rfl ?_
          refine G.lload X31 hx (pc' := 183) (hb hby at_181) rfl rfl ?_
          refine G.callI X31 hx hZ (y := (⟨"com/example/netlocus/netlocus/Fraction", "<init>", "(JJ)V"⟩ : MethodName)) rfl hown (hw _ (List.mem_of_getElem? (i := 4) rfl)) (hw _ (List.mem_of_getElem? (i := 5) rfl)) (hw _ (List.mem_of_getElem? (i := 3) rfl)) (hw _ (List.mem_of_getElem? (i := 6) rfl)) (by decide) e31 (rm := ({ frames := 2, cells := 0, slots := 0, locals := 34 } : Room)) (argsL := [(.long aa), (.long bb)]) (S := [(.ref a)]) (W := 1) (a := a) (rm_init l Z a0 hw a aa bb h31 Ea31 F31_a_numerator F31_a_denominator hbb) (lenOf pd_7 rfl) rfl (Nat.le_of_eq rfl) (by decide) (by decide) (by decide) (by decide) (by rw [hml]; rfl) (hb hby at_183) (pc' := 186) rfl ?_
          rintro T32 _ L32 ⟨rfl, Kq32, Fn32, Fd32⟩ X32
          have E32_a := Exa.keep Ea31 Kq32.1
          have K32 := Kp.call K31 Kq32 (allS (Or.inr sz_a) all0)
          show Goes p e below T32 (mkF m 186 #[.val (.long q0), .second, .val (.long q1), .second, .val (.long q2), .second, .val (.long q3), .second, .val (.int p4), .val (.int p5), .val (.long aa), .second, .val (.long bb), .second, .val (.long cc), .second, .val (.long dd), .second, .val (.long kk), .second, .val (.int (p5 &&& (3 : Int32))), .val (.long cn), .second, .val (.long cd), .second, .val (.int (1 : Int32)), .unset, .unset, .unset, .unset, .unset, .unset, .unset, .unset, .unset] [(.ref a)]) _
          refine G.astore X32 hx (pc' := 188) (hb hby at_186) rfl (L' := #[.val (.long q0), .second, .val (.long q1), .second, .val (.long q2), .second, .val (.long q3), .second, .val (.int p4), .val (.int p5), .val (.long aa), .second, .val (.long bb), .second, .val (.long cc), .second, .val (.long dd), .second, .val (.long kk), .second, .val (.int (p5 &&& (3 : Int32))), .val (.long cn), .second, .val (.long cd), .second, .val (.int (1 : Int32)), .val (.ref a), .unset, .unset, .unset, .unset, .unset, .unset, .unset, .unset]) rfl rfl ?_
          refine G.newO X32 hx hZ hown (hw _ (List.mem_of_getElem? (i := 1) rfl)) (hw _ (List.mem_of_getElem? (i := 2) rfl)) (hw _ (List.mem_of_getElem? (i := 3) rfl)) rfl (hb hby at_188) (by decide) (by decide) (pc' := 191) rfl fun T33 h33 b g33 X33 e33 Ex33 Ea33 D33 => ?_
          have ne_a_b : a ≠ b := Nat.ne_of_lt (Nat.lt_of_lt_of_le Fn32.lt (Nat.le_of_eq g33.symm))
          have sz_b : h0.size ≤ b := Nat.le_trans K32.size (Nat.le_of_eq g33.symm)
          have F33_a_numerator := Fld.ext  Ex33 Fn32
          have F33_a_denominator := Fld.ext  Ex33 Fd32
          have E33_a := Exa.ext  Ex33 E32_a
          have K33 := Kp.ext K32 Ex33
          have F33_b_numerator : Fld Z h33 b "com/example/netlocus/netlocus/Fraction" "numerator" "J" (.long (0 : Int64)) := D33 (Or.inr (hw _ (List.mem_of_getElem? (i := 18) rfl))) (ty := .long) (by decide)
          have F33_b_denominator : Fld Z h33 b "com/example/netlocus/netlocus/Fraction" "denominator" "J" (.long (0 : Int64)) := D33 (Or.inr (hw _ (List.mem_of_getElem? (i := 20) rfl))) (ty := .long) (by decide)
          refine G.dup X33 hx (pc' := 192) (hb hby at_191) rfl rfl ?_
          refine G.lload X33 hx (pc' := 194) (hb hby at_192) rfl rfl ?_
          refine G.lload X33 hx (pc' := 196) (hb hby at_194) rfl rfl ?_
          refine G.callI X33 hx hZ (y := (⟨"com/example/netlocus/netlocus/Fraction", "<init>", "(JJ)V"⟩ : MethodName)) rfl hown (hw _ (List.mem_of_getElem? (i := 4) rfl)) (hw _ (List.mem_of_getElem? (i := 5) rfl)) (hw _ (List.mem_of_getElem? (i := 3) rfl)) (hw _ (List.mem_of_getElem? (i := 6) rfl)) (by decide) e33 (rm := ({ frames := 2, cells := 0, slots := 0, locals := 34 } : Room)) (argsL := [(.long cn), (.long cd)]) (S := [(.ref b)]) (W := 1) (a := b) (rm_init l Z a0 hw b cn cd h33 Ea33 F33_b_numerator F33_b_denominator hcd) (lenOf pd_7 rfl) rfl (Nat.le_of_eq rfl) (by decide) (by decide) (by decide) (by decide) (by rw [hml]; rfl) (hb hby at_196) (pc' := 199) rfl ?_
          rintro T34 _ L34 ⟨rfl, Kq34, Fn34, Fd34⟩ X34
          have F34_a_numerator := Fld.keep F33_a_numerator Kq34.1 (ninS ne_a_b nin0)
          have F34_a_denominator := Fld.keep F33_a_denominator Kq34.1 (ninS ne_a_b nin0)
          have E34_a := Exa.keep E33_a Kq34.1
          have E34_b := Exa.keep Ea33 Kq34.1
          have K34 := Kp.call K33 Kq34 (allS (Or.inr sz_b) all0)
          show Goes p e below T34 (mkF m 199 #[.val (.long q0), .second, .val (.long q1), .second, .val (.long q2), .second, .val (.long q3), .second, .val (.int p4), .val (.int p5), .val (.long aa), .second, .val (.long bb), .second, .val (.long cc), .second, .val (.long dd), .second, .val (.long kk), .second, .val (.int (p5 &&& (3 : Int32))), .val (.long cn), .second, .val (.long cd), .second, .val (.int (1 : Int32)), .val (.ref a), .unset, .unset, .unset, .unset, .unset, .unset, .unset, .unset] [(.ref b)]) _
          refine G.astore X34 hx (pc' := 201) (hb hby at_199) rfl (L' := #[.val (.long q0), .second, .val (.long q1), .second, .val (.long q2), .second, .val (.long q3), .second, .val (.int p4), .val (.int p5), .val (.long aa), .second, .val (.long bb), .second, .val (.long cc), .second, .val (.long dd), .second, .val (.long kk), .second, .val (.int (p5 &&& (3 : Int32))), .val (.long cn), .second, .val (.long cd), .second, .val (.int (1 : Int32)), .val (.ref a), .val (.ref b), .unset, .unset, .unset, .unset, .unset, .unset, .unset]) rfl rfl ?_
          refine G.aconstNull X34 hx (pc' := 202) (hb hby at_201) rfl ?_
          refine G.astore X34 hx (pc' := 204) (hb hby at_202) rfl (L' := #[.val (.long q0), .second, .val (.long q1), .second, .val (.long q2), .second, .val (.long q3), .second, .val (.int p4), .val (.int p5), .val (.long aa), .second, .val (.long bb), .second, .val (.long cc), .second, .val (.long dd), .second, .val (.long kk), .second, .val (.int (p5 &&& (3 : Int32))), .val (.long cn), .second, .val (.long cd), .second, .val (.int (1 : Int32)), .val (.ref a), .val (.ref b), .val .null, .unset, .unset, .unset, .unset, .unset, .unset]) rfl rfl ?_
          refine G.lload X34 hx (pc' := 206) (hb hby at_204) rfl rfl ?_
          have hx' : ∀ j : Int32, ¬ j < 0 → j < (256 : Int32) → ∃ b, xs[j.toNatClampNeg]? = some (.ref b) ∧ Exa Z T34.heap b "java/lang/Long" := fun j u1 u2 => by
            obtain ⟨b', v1, v2⟩ := hxc j u1 u2
            exact ⟨b', v1, v2.keep K34.1⟩
          refine G.callS X34 hx hZ (y := (⟨"java/lang/Long", "valueOf", "(J)Ljava/lang/Long;"⟩ : MethodName)) hown (hw _ (List.mem_of_getElem? (i := 21) rfl)) (hw _ (List.mem_of_getElem? (i := 22) rfl)) (hw _ (List.mem_of_getElem? (i := 23) rfl)) (hw _ (List.mem_of_getElem? (i := 24) rfl)) (by decide) rfl (rm := ({ frames := 3, cells := 1, slots := 1, locals := 39 } : Room)) (argsL := [(.long aa)]) (S := []) (W := 0) (rm_box l Z a0 hw aa ca xs T34.heap (Sta.keep0 S0 K34.1) (Seq.keep A0 K34.1 nin0) hx') (lenOf pd_8 rfl) rfl (Nat.le_of_eq rfl) (by decide) (by decide) (by decide) (by decide) (by rw [hml]; rfl) (hb hby at_206) (pc' := 209) rfl ?_
          rintro T35 _ L35 ⟨lb, rfl, Kq35, El35⟩ X35
          have F35_a_numerator := Fld.keep F34_a_numerator Kq35.1 nin0
          have F35_a_denominator := Fld.keep F34_a_denominator Kq35.1 nin0
          have F35_b_numerator := Fld.keep Fn34 Kq35.1 nin0
          have F35_b_denominator := Fld.keep Fd34 Kq35.1 nin0
          have E35_a := Exa.keep E34_a Kq35.1
          have E35_b := Exa.keep E34_b Kq35.1
          have K35 := Kp.call K34 Kq35 all0
          show Goes p e below T35 (mkF m 209 #[.val (.long q0), .second, .val (.long q1), .second, .val (.long q2), .second, .val (.long q3), .second, .val (.int p4), .val (.int p5), .val (.long aa), .second, .val (.long bb), .second, .val (.long cc), .second, .val (.long dd), .second, .val (.long kk), .second, .val (.int (p5 &&& (3 : Int32))), .val (.long cn), .second, .val (.long cd), .second, .val (.int (1 : Int32)), .val (.ref a), .val (.ref b), .val .null, .unset, .unset, .unset, .unset, .unset, .unset] [(.ref lb)]) _
          refine G.astore X35 hx (pc' := 211) (hb hby at_209) rfl (L' := #[.val (.long q0), .second, .val (.long q1), .second, .val (.long q2), .second, .val (.long q3), .second, .val (.int p4), .val (.int p5), .val (.long aa), .second, .val (.long bb), .second, .val (.long cc), .second, .val (.long dd), .second, .val (.long kk), .second, .val (.int (p5 &&& (3 : Int32))), .val (.long cn), .second, .val (.long cd), .second, .val (.int (1 : Int32)), .val (.ref a), .val (.ref b), .val .null, .val (.ref lb), .unset, .unset, .unset, .unset, .unset]) rfl rfl ?_
          refine G.aload X35 hx (pc' := 213) (hb hby at_211) rfl rfl rfl ?_
          refine G.aload X35 hx (pc' := 215) (hb hby at_213) rfl rfl rfl ?_
          refine G.callV X35 hx hZ (y0 := (⟨"com/example/netlocus/netlocus/Fraction", "equals", "(Ljava/lang/Object;)Z"⟩ : MethodName)) (y := (⟨"com/example/netlocus/netlocus/Fraction", "equals", "(Ljava/lang/Object;)Z"⟩ : MethodName)) hown (hw _ (List.mem_of_getElem? (i := 29) rfl)) (hw _ (List.mem_of_getElem? (i := 30) rfl)) (notFace_of_selects (args := #[]) (mvT hZ (hw _ (List.mem_of_getElem? (i := 32) rfl)))) (hw _ (List.mem_of_getElem? (i := 32) rfl)) (hw _ (List.mem_of_getElem? (i := 31) rfl)) (hw _ (List.mem_of_getElem? (i := 3) rfl)) (hw _ (List.mem_of_getElem? (i := 33) rfl)) (by decide) rfl (rm := ({ frames := 0, cells := 0, slots := 0, locals := 0 } : Room)) (argsL := [(.ref b)]) (S := []) (W := 0) (a := a) E35_a (rm_eq l Z a0 hw a b (aa / (gcdL aa bb)) (bb / (gcdL aa bb)) (cn / (gcdL cn cd)) (cd / (gcdL cn cd)) T35.heap E35_b F35_a_numerator F35_a_denominator F35_b_numerator F35_b_denominator) (lenOf pd_9 rfl) rfl (Nat.le_of_eq rfl) (by decide) (by decide) (by decide) (by decide) (by rw [hml]; rfl) (hb hby at_215) (pc' := 218) rfl ?_
          rintro T36 _ _ ⟨rfl, e36, rfl⟩ X36
          rw [List.append_nil] at X36
          show Goes p e below T36 (mkF m 218 #[.val (.long q0), .second, .val (.long q1), .second, .val (.long q2), .second, .val (.long q3), .second, .val (.int p4), .val (.int p5), .val (.long aa), .second, .val (.long bb), .second, .val (.long cc), .second, .val (.long dd), .second, .val (.long kk), .second, .val (.int (p5 &&& (3 : Int32))), .val (.long cn), .second, .val (.long cd), .second, .val (.int (1 : Int32)), .val (.ref a), .val (.ref b), .val .null, .val (.ref lb), .unset, .unset, .unset, .unset, .unset] [(.int (eqv (aa / (gcdL aa bb)) (bb / (gcdL aa bb)) (cn / (gcdL cn cd)) (cd / (gcdL cn cd))))]) _
          refine G.istore X36 hx (pc' := 220) (hb hby at_218) (L' := #[.val (.long q0), .second, .val (.long q1), .second, .val (.long q2), .second, .val (.long q3), .second, .val (.int p4), .val (.int p5), .val (.long aa), .second, .val (.long bb), .second, .val (.long cc), .second, .val (.long dd), .second, .val (.long kk), .second, .val (.int (p5 &&& (3 : Int32))), .val (.long cn), .second, .val (.long cd), .second, .val (.int (1 : Int32)), .val (.ref a), .val (.ref b), .val .null, .val (.ref lb), .val (.int (eqv (aa / (gcdL aa bb)) (bb / (gcdL aa bb)) (cn / (gcdL cn cd)) (cd / (gcdL cn cd)))), .unset, .unset, .unset, .unset]) rfl rfl ?_
          refine G.aload X36 hx (pc' := 222) (hb hby at_220) rfl rfl rfl ?_
          refine G.aload X36 hx (pc' := 224) (hb hby at_222) rfl rfl rfl ?_
          refine G.callV X36 hx hZ (y0 := (⟨"com/example/netlocus/netlocus/Fraction", "equals", "(Ljava/lang/Object;)Z"⟩ : MethodName)) (y := (⟨"com/example/netlocus/netlocus/Fraction", "equals", "(Ljava/lang/Object;)Z"⟩ : MethodName)) hown (hw _ (List.mem_of_getElem? (i := 29) rfl)) (hw _ (List.mem_of_getElem? (i := 30) rfl)) (notFace_of_selects (args := #[]) (mvT hZ (hw _ (List.mem_of_getElem? (i := 32) rfl)))) (hw _ (List.mem_of_getElem? (i := 32) rfl)) (hw _ (List.mem_of_getElem? (i := 31) rfl)) (hw _ (List.mem_of_getElem? (i := 3) rfl)) (hw _ (List.mem_of_getElem? (i := 33) rfl)) (by decide) e36 (rm := ({ frames := 0, cells := 0, slots := 0, locals := 0 } : Room)) (argsL := [(.ref a)]) (S := []) (W := 0) (a := b) E35_b (rm_eq l Z a0 hw b a (cn / (gcdL cn cd)) (cd / (gcdL cn cd)) (aa / (gcdL aa bb)) (bb / (gcdL aa bb)) T35.heap E35_a F35_b_numerator F35_b_denominator F35_a_numerator F35_a_denominator) (lenOf pd_9 rfl) rfl (Nat.le_of_eq rfl) (by decide) (by decide) (by decide) (by decide) (by rw [hml]; rfl) (hb hby at_224) (pc' := 227) rfl ?_
          rintro T37 _ _ ⟨rfl, e37, rfl⟩ X37
          rw [List.append_nil] at X37
          show Goes p e below T37 (mkF m 227 #[.val (.long q0), .second, .val (.long q1), .second, .val (.long q2), .second, .val (.long q3), .second, .val (.int p4), .val (.int p5), .val (.long aa), .second, .val (.long bb), .second, .val (.long cc), .second, .val (.long dd), .second, .val (.long kk), .second, .val (.int (p5 &&& (3 : Int32))), .val (.long cn), .second, .val (.long cd), .second, .val (.int (1 : Int32)), .val (.ref a), .val (.ref b), .val .null, .val (.ref lb), .val (.int (eqv (aa / (gcdL aa bb)) (bb / (gcdL aa bb)) (cn / (gcdL cn cd)) (cd / (gcdL cn cd)))), .unset, .unset, .unset, .unset] [(.int (eqv (cn / (gcdL cn cd)) (cd / (gcdL cn cd)) (aa / (gcdL aa bb)) (bb / (gcdL aa bb))))]) _
          refine G.istore X37 hx (pc' := 229) (hb hby at_227) (L' := #[.val (.long q0), .second, .val (.long q1), .second, .val (.long q2), .second, .val (.long q3), .second, .val (.int p4), .val (.int p5), .val (.long aa), .second, .val (.long bb), .second, .val (.long cc), .second, .val (.long dd), .second, .val (.long kk), .second, .val (.int (p5 &&& (3 : Int32))), .val (.long cn), .second, .val (.long cd), .second, .val (.int (1 : Int32)), .val (.ref a), .val (.ref b), .val .null, .val (.ref lb), .val (.int (eqv (aa / (gcdL aa bb)) (bb / (gcdL aa bb)) (cn / (gcdL cn cd)) (cd / (gcdL cn cd)))), .val (.int (eqv (cn / (gcdL cn cd)) (cd / (gcdL cn cd)) (aa / (gcdL aa bb)) (bb / (gcdL aa bb)))), .unset, .unset, .unset]) rfl rfl ?_
          refine G.aload X37 hx (pc' := 231) (hb hby at_229) rfl rfl rfl ?_
          refine G.aload X37 hx (pc' := 233) (hb hby at_231) rfl rfl rfl ?_
          refine G.callV X37 hx hZ (y0 := (⟨"com/example/netlocus/netlocus/Fraction", "equals", "(Ljava/lang/Object;)Z"⟩ : MethodName)) (y := (⟨"com/example/netlocus/netlocus/Fraction", "equals", "(Ljava/lang/Object;)Z"⟩ : MethodName)) hown (hw _ (List.mem_of_getElem? (i := 29) rfl)) (hw _ (List.mem_of_getElem? (i := 30) rfl)) (notFace_of_selects (args := #[]) (mvT hZ (hw _ (List.mem_of_getElem? (i := 32) rfl)))) (hw _ (List.mem_of_getElem? (i := 32) rfl)) (hw _ (List.mem_of_getElem? (i := 31) rfl)) (hw _ (List.mem_of_getElem? (i := 3) rfl)) (hw _ (List.mem_of_getElem? (i := 33) rfl)) (by decide) e37 (rm := ({ frames := 0, cells := 0, slots := 0, locals := 0 } : Room)) (argsL := [(.ref a)]) (S := []) (W := 0) (a := a) E35_a (rm_eq l Z a0 hw a a (aa / (gcdL aa bb)) (bb / (gcdL aa bb)) (aa / (gcdL aa bb)) (bb / (gcdL aa bb)) T35.heap E35_a F35_a_numerator F35_a_denominator F35_a_numerator F35_a_denominator) (lenOf pd_9 rfl) rfl (Nat.le_of_eq rfl) (by decide) (by decide) (by decide) (by decide) (by rw [hml]; rfl) (hb hby at_233) (pc' := 236) rfl ?_
          rintro T38 _ _ ⟨rfl, e38, rfl⟩ X38
          rw [List.append_nil] at X38
          show Goes p e below T38 (mkF m 236 #[.val (.long q0), .second, .val (.long q1), .second, .val (.long q2), .second, .val (.long q3), .second, .val (.int p4), .val (.int p5), .val (.long aa), .second, .val (.long bb), .second, .val (.long cc), .second, .val (.long dd), .second, .val (.long kk), .second, .val (.int (p5 &&& (3 : Int32))), .val (.long cn), .second, .val (.long cd), .second, .val (.int (1 : Int32)), .val (.ref a), .val (.ref b), .val .null, .val (.ref lb), .val (.int (eqv (aa / (gcdL aa bb)) (bb / (gcdL aa bb)) (cn / (gcdL cn cd)) (cd / (gcdL cn cd)))), .val (.int (eqv (cn / (gcdL cn cd)) (cd / (gcdL cn cd)) (aa / (gcdL aa bb)) (bb / (gcdL aa bb)))), .unset, .unset, .unset] [(.int (eqv (aa / (gcdL aa bb)) (bb / (gcdL aa bb)) (aa / (gcdL aa bb)) (bb / (gcdL aa bb))))]) _
          refine G.istore X38 hx (pc' := 238) (hb hby at_236) (L' := #[.val (.long q0), .second, .val (.long q1), .second, .val (.long q2), .second, .val (.long q3), .second, .val (.int p4), .val (.int p5), .val (.long aa), .second, .val (.long bb), .second, .val (.long cc), .second, .val (.long dd), .second, .val (.long kk), .second, .val (.int (p5 &&& (3 : Int32))), .val (.long cn), .second, .val (.long cd), .second, .val (.int (1 : Int32)), .val (.ref a), .val (.ref b), .val .null, .val (.ref lb), .val (.int (eqv (aa / (gcdL aa bb)) (bb / (gcdL aa bb)) (cn / (gcdL cn cd)) (cd / (gcdL cn cd)))), .val (.int (eqv (cn / (gcdL cn cd)) (cd / (gcdL cn cd)) (aa / (gcdL aa bb)) (bb / (gcdL aa bb)))), .val (.int (eqv (aa / (gcdL aa bb)) (bb / (gcdL aa bb)) (aa / (gcdL aa bb)) (bb / (gcdL aa bb)))), .unset, .unset]) rfl rfl ?_
          refine G.aload X38 hx (pc' := 240) (hb hby at_238) rfl rfl rfl ?_
          refine G.aload X38 hx (pc' := 242) (hb hby at_240) rfl rfl rfl ?_
          refine G.callV X38 hx hZ (y0 := (⟨"com/example/netlocus/netlocus/Fraction", "equals", "(Ljava/lang/Object;)Z"⟩ : MethodName)) (y := (⟨"com/example/netlocus/netlocus/Fraction", "equals", "(Ljava/lang/Object;)Z"⟩ : MethodName)) hown (hw _ (List.mem_of_getElem? (i := 29) rfl)) (hw _ (List.mem_of_getElem? (i := 30) rfl)) (notFace_of_selects (args := #[]) (mvT hZ (hw _ (List.mem_of_getElem? (i := 32) rfl)))) (hw _ (List.mem_of_getElem? (i := 32) rfl)) (hw _ (List.mem_of_getElem? (i := 31) rfl)) (hw _ (List.mem_of_getElem? (i := 3) rfl)) (hw _ (List.mem_of_getElem? (i := 33) rfl)) (by decide) e38 (rm := ({ frames := 0, cells := 0, slots := 0, locals := 0 } : Room)) (argsL := [.null]) (S := []) (W := 0) (a := a) E35_a (rm_eqn l Z a0 hw a T35.heap) (lenOf pd_9 rfl) rfl (Nat.le_of_eq rfl) (by decide) (by decide) (by decide) (by decide) (by rw [hml]; rfl) (hb hby at_242) (pc' := 245) rfl ?_
          rintro T39 _ _ ⟨rfl, e39, rfl⟩ X39
          rw [List.append_nil] at X39
          show Goes p e below T39 (mkF m 245 #[.val (.long q0), .second, .val (.long q1), .second, .val (.long q2), .second, .val (.long q3), .second, .val (.int p4), .val (.int p5), .val (.long aa), .second, .val (.long bb), .second, .val (.long cc), .second, .val (.long dd), .second, .val (.long kk), .second, .val (.int (p5 &&& (3 : Int32))), .val (.long cn), .second, .val (.long cd), .second, .val (.int (1 : Int32)), .val (.ref a), .val (.ref b), .val .null, .val (.ref lb), .val (.int (eqv (aa / (gcdL aa bb)) (bb / (gcdL aa bb)) (cn / (gcdL cn cd)) (cd / (gcdL cn cd)))), .val (.int (eqv (cn / (gcdL cn cd)) (cd / (gcdL cn cd)) (aa / (gcdL aa bb)) (bb / (gcdL aa bb)))), .val (.int (eqv (aa / (gcdL aa bb)) (bb / (gcdL aa bb)) (aa / (gcdL aa bb)) (bb / (gcdL aa bb)))), .unset, .unset] [(.int (0 : Int32))]) _
          refine G.istore X39 hx (pc' := 247) (hb hby at_245) (L' := #[.val (.long q0), .second, .val (.long q1), .second, .val (.long q2), .second, .val (.long q3), .second, .val (.int p4), .val (.int p5), .val (.long aa), .second, .val (.long bb), .second, .val (.long cc), .second, .val (.long dd), .second, .val (.long kk), .second, .val (.int (p5 &&& (3 : Int32))), .val (.long cn), .second, .val (.long cd), .second, .val (.int (1 : Int32)), .val (.ref a), .val (.ref b), .val .null, .val (.ref lb), .val (.int (eqv (aa / (gcdL aa bb)) (bb / (gcdL aa bb)) (cn / (gcdL cn cd)) (cd / (gcdL cn cd)))), .val (.int (eqv (cn / (gcdL cn cd)) (cd / (gcdL cn cd)) (aa / (gcdL aa bb)) (bb / (gcdL aa bb)))), .val (.int (eqv (aa / (gcdL aa bb)) (bb / (gcdL aa bb)) (aa / (gcdL aa bb)) (bb / (gcdL aa bb)))), .val (.int (0 : Int32)), .unset]) rfl rfl ?_
          refine G.aload X39 hx (pc' := 249) (hb hby at_247) rfl rfl rfl ?_
          refine G.aload X39 hx (pc' := 251) (hb hby at_249) rfl rfl rfl ?_
          refine G.callV X39 hx hZ (y0 := (⟨"com/example/netlocus/netlocus/Fraction", "equals", "(Ljava/lang/Object;)Z"⟩ : MethodName)) (y := (⟨"com/example/netlocus/netlocus/Fraction", "equals", "(Ljava/lang/Object;)Z"⟩ : MethodName)) hown (hw _ (List.mem_of_getElem? (i := 29) rfl)) (hw _ (List.mem_of_getElem? (i := 30) rfl)) (notFace_of_selects (args := #[]) (mvT hZ (hw _ (List.mem_of_getElem? (i := 32) rfl)))) (hw _ (List.mem_of_getElem? (i := 32) rfl)) (hw _ (List.mem_of_getElem? (i := 31) rfl)) (hw _ (List.mem_of_getElem? (i := 3) rfl)) (hw _ (List.mem_of_getElem? (i := 33) rfl)) (by decide) e39 (rm := ({ frames := 0, cells := 0, slots := 0, locals := 0 } : Room)) (argsL := [(.ref lb)]) (S := []) (W := 0) (a := a) E35_a (rm_eql l Z a0 hw a lb T35.heap El35) (lenOf pd_9 rfl) rfl (Nat.le_of_eq rfl) (by decide) (by decide) (by decide) (by decide) (by rw [hml]; rfl) (hb hby at_251) (pc' := 254) rfl ?_
          rintro T40 _ _ ⟨rfl, e40, rfl⟩ X40
          rw [List.append_nil] at X40
          show Goes p e below T40 (mkF m 254 #[.val (.long q0), .second, .val (.long q1), .second, .val (.long q2), .second, .val (.long q3), .second, .val (.int p4), .val (.int p5), .val (.long aa), .second, .val (.long bb), .second, .val (.long cc), .second, .val (.long dd), .second, .val (.long kk), .second, .val (.int (p5 &&& (3 : Int32))), .val (.long cn), .second, .val (.long cd), .second, .val (.int (1 : Int32)), .val (.ref a), .val (.ref b), .val .null, .val (.ref lb), .val (.int (eqv (aa / (gcdL aa bb)) (bb / (gcdL aa bb)) (cn / (gcdL cn cd)) (cd / (gcdL cn cd)))), .val (.int (eqv (cn / (gcdL cn cd)) (cd / (gcdL cn cd)) (aa / (gcdL aa bb)) (bb / (gcdL aa bb)))), .val (.int (eqv (aa / (gcdL aa bb)) (bb / (gcdL aa bb)) (aa / (gcdL aa bb)) (bb / (gcdL aa bb)))), .val (.int (0 : Int32)), .unset] [(.int (0 : Int32))]) _
          refine G.istore X40 hx (pc' := 256) (hb hby at_254) (L' := #[.val (.long q0), .second, .val (.long q1), .second, .val (.long q2), .second, .val (.long q3), .second, .val (.int p4), .val (.int p5), .val (.long aa), .second, .val (.long bb), .second, .val (.long cc), .second, .val (.long dd), .second, .val (.long kk), .second, .val (.int (p5 &&& (3 : Int32))), .val (.long cn), .second, .val (.long cd), .second, .val (.int (1 : Int32)), .val (.ref a), .val (.ref b), .val .null, .val (.ref lb), .val (.int (eqv (aa / (gcdL aa bb)) (bb / (gcdL aa bb)) (cn / (gcdL cn cd)) (cd / (gcdL cn cd)))), .val (.int (eqv (cn / (gcdL cn cd)) (cd / (gcdL cn cd)) (aa / (gcdL aa bb)) (bb / (gcdL aa bb)))), .val (.int (eqv (aa / (gcdL aa bb)) (bb / (gcdL aa bb)) (aa / (gcdL aa bb)) (bb / (gcdL aa bb)))), .val (.int (0 : Int32)), .val (.int (0 : Int32))]) rfl rfl ?_
          refine G.iload X40 hx (pc' := 258) (hb hby at_256) rfl rfl ?_
          refine G.iload X40 hx (pc' := 260) (hb hby at_258) rfl rfl ?_
          refine G.icmpF X40 hx (pc' := 263) (hb hby at_260) (Jvm.Free.XT.ii_ne_f (by rw [own_eqv aa bb cn cd hbb hcd, if_pos hcr])) rfl ?_
          refine G.iload X40 hx (pc' := 265) (hb hby at_263) rfl rfl ?_
          refine G.iload X40 hx (pc' := 267) (hb hby at_265) rfl rfl ?_
          refine G.icmpF X40 hx (pc' := 270) (hb hby at_267) (Jvm.Free.XT.ii_ne_f (by rw [own_eqv cn cd aa bb hcd hbb, if_pos hcr.symm])) rfl ?_
          refine G.iload X40 hx (pc' := 272) (hb hby at_270) rfl rfl ?_
          refine G.ifF X40 hx (pc' := 275) (hb hby at_272) (Jvm.Free.XT.i0_eq_f (by rw [eqv, if_pos ⟨rfl, rfl⟩]; decide)) rfl ?_
          refine G.iload X40 hx (pc' := 277) (hb hby at_275) rfl rfl ?_
          refine G.ifF X40 hx (pc' := 280) (hb hby at_277) (Jvm.Free.XT.i0_ne_f rfl) rfl ?_
          refine G.iload X40 hx (pc' := 282) (hb hby at_280) rfl rfl ?_
          refine G.ifF X40 hx (pc' := 285) (hb hby at_282) (Jvm.Free.XT.i0_ne_f rfl) rfl ?_
          refine G.iconst X40 hx (pc' := 286) (hb hby at_285) (z := (1 : Int32)) rfl rfl ?_
          refine G.goto X40 hx (pc' := 290) (hb hby at_286) (by decide) (by decide) ?_
          refine Goes.retN X40 hx hret (by simp) hlk (hb hby at_290) (by decide) (by decide) ⟨rfl, K35.fr⟩
        · refine G.ifT X0 hx (pc' := 150) (hb hby at_143) (Jvm.Free.XT.ll_ne_t d3) (by decide) (by decide) ?_
          refine G.iconst X0 hx (pc' := 151) (hb hby at_150) (z := (0 : Int32)) rfl rfl ?_
          refine G.istore X0 hx (pc' := 153) (hb hby at_151) (L' := #[.val (.long q0), .second, .val (.long q1), .second, .val (.long q2), .second, .val (.long q3), .second, .val (.int p4), .val (.int p5), .val (.long aa), .second, .val (.long bb), .second, .val (.long cc), .second, .val (.long dd), .second, .val (.long kk), .second, .val (.int (p5 &&& (3 : Int32))), .val (.long (aa * kk)), .second, .val (.long ((bb * kk) + (1 : Int64))), .second, .val (.int (0 : Int32)), .unset, .unset, .unset, .unset, .unset, .unset, .unset, .unset, .unset]) rfl rfl ?_
          refine G.goto X0 hx (pc' := 175) (hb hby at_153) (by decide) (by decide) ?_
          have hcr := fun q => d3 ((own_m2 aa bb kk raa rbb rkk).1.mpr q)
          have hcd := (own_m2 aa bb kk raa rbb rkk).2
          have hbb : 0 < bb.toInt := by omega
          generalize hcn : (aa * kk) = cn at hcr ⊢
          generalize hcdv : ((bb * kk) + (1 : Int64)) = cd at hcr hcd ⊢
          refine G.newO X0 hx hZ hown (hw _ (List.mem_of_getElem? (i := 1) rfl)) (hw _ (List.mem_of_getElem? (i := 2) rfl)) (hw _ (List.mem_of_getElem? (i := 3) rfl)) e0 (hb hby at_175) (by decide) (by decide) (pc' := 178) rfl fun T41 h41 a g41 X41 e41 Ex41 Ea41 D41 => ?_
          have sz_a : h0.size ≤ a := Nat.le_trans K0.size (Nat.le_of_eq g41.symm)
          have K41 := Kp.ext K0 Ex41
          have F41_a_numerator : Fld Z h41 a "com/example/netlocus/netlocus/Fraction" "numerator" "J" (.long (0 : Int64)) := D41 (Or.inr (hw _ (List.mem_of_getElem? (i := 18) rfl))) (ty := .long) (by decide)
          have F41_a_denominator : Fld Z h41 a "com/example/netlocus/netlocus/Fraction" "denominator" "J" (.long (0 : Int64)) := D41 (Or.inr (hw _ (List.mem_of_getElem? (i := 20) rfl))) (ty := .long) (by decide)
          refine G.dup X41 hx (pc' := 179) (hb hby at_178) rfl rfl ?_
          refine G.lload X41 hx (pc' := 181) (hb hby at_179) rfl rfl ?_
          refine G.lload X41 hx (pc' := 183) (hb hby at_181) rfl rfl ?_
          refine G.callI X41 hx hZ (y := (⟨"com/example/netlocus/netlocus/Fraction", "<init>", "(JJ)V"⟩ : MethodName)) rfl hown (hw _ (List.mem_of_getElem? (i := 4) rfl)) (hw _ (List.mem_of_getElem? (i := 5) rfl)) (hw _ (List.mem_of_getElem? (i := 3) rfl)) (hw _ (List.mem_of_getElem? (i := 6) rfl)) (by decide) e41 (rm := ({ frames := 2, cells := 0, slots := 0, locals := 34 } : Room)) (argsL := [(.long aa), (.long bb)]) (S := [(.ref a)]) (W := 1) (a := a) (rm_init l Z a0 hw a aa bb h41 Ea41 F41_a_numerator F41_a_denominator hbb) (lenOf pd_7 rfl) rfl (Nat.le_of_eq rfl) (by decide) (by decide) (by decide) (by decide) (by rw [hml]; rfl) (hb hby at_183) (pc' := 186) rfl ?_
          rintro T42 _ L42 ⟨rfl, Kq42, Fn42, Fd42⟩ X42
          have E42_a := Exa.keep Ea41 Kq42.1
          have K42 := Kp.call K41 Kq42 (allS (Or.inr sz_a) all0)
          show Goes p e below T42 (mkF m 186 #[.val (.long q0), .second, .val (.long q1), .second, .val (.long q2), .second, .val (.long q3), .second, .val (.int p4), .val (.int p5), .val (.long aa), .second, .val (.long bb), .second, .val (.long cc), .second, .val (.long dd), .second, .val (.long kk), .second, .val (.int (p5 &&& (3 : Int32))), .val (.long cn), .second, .val (.long cd), .second, .val (.int (0 : Int32)), .unset, .unset, .unset, .unset, .unset, .unset, .unset, .unset, .unset] [(.ref a)]) _
          refine G.astore X42 hx (pc' := 188) (hb hby at_186) rfl (L' := #[.val (.long q0), .second, .val (.long q1), .second, .val (.long q2), .second, .val (.long q3), .second, .val (.int p4), .val (.int p5), .val (.long aa), .second, .val (.long bb), .second, .val (.long cc), .second, .val (.long dd), .second, .val (.long kk), .second, .val (.int (p5 &&& (3 : Int32))), .val (.long cn), .second, .val (.long cd), .second, .val (.int (0 : Int32)), .val (.ref a), .unset, .unset, .unset, .unset, .unset, .unset, .unset, .unset]) rfl rfl ?_
          refine G.newO X42 hx hZ hown (hw _ (List.mem_of_getElem? (i := 1) rfl)) (hw _ (List.mem_of_getElem? (i := 2) rfl)) (hw _ (List.mem_of_getElem? (i := 3) rfl)) rfl (hb hby at_188) (by decide) (by decide) (pc' := 191) rfl fun T43 h43 b g43 X43 e43 Ex43 Ea43 D43 => ?_
          have ne_a_b : a ≠ b := Nat.ne_of_lt (Nat.lt_of_lt_of_le Fn42.lt (Nat.le_of_eq g43.symm))
          have sz_b : h0.size ≤ b := Nat.le_trans K42.size (Nat.le_of_eq g43.symm)
          have F43_a_numerator := Fld.ext  Ex43 Fn42
          have F43_a_denominator := Fld.ext  Ex43 Fd42
          have E43_a := Exa.ext  Ex43 E42_a
          have K43 := Kp.ext K42 Ex43
          have F43_b_numerator : Fld Z h43 b "com/example/netlocus/netlocus/Fraction" "numerator" "J" (.long (0 : Int64)) := D43 (Or.inr (hw _ (List.mem_of_getElem? (i := 18) rfl))) (ty := .long) (by decide)
          have F43_b_denominator : Fld Z h43 b "com/example/netlocus/netlocus/Fraction" "denominator" "J" (.long (0 : Int64)) := D43 (Or.inr (hw _ (List.mem_of_getElem? (i := 20) rfl))) (ty := .long) (by decide)
          refine G.dup X43 hx (pc' := 192) (hb hby at_191) rfl rfl ?_
          refine G.lload X43 hx (pc' := 194) (hb hby at_192) rfl rfl ?_
          refine G.lload X43 hx (pc' := 196) (hb hby at_194) rfl rfl ?_
          refine G.callI X43 hx hZ (y := (⟨"com/example/netlocus/netlocus/Fraction", "<init>", "(JJ)V"⟩ : MethodName)) rfl hown (hw _ (List.mem_of_getElem? (i := 4) rfl)) (hw _ (List.mem_of_getElem? (i := 5) rfl)) (hw _ (List.mem_of_getElem? (i := 3) rfl)) (hw _ (List.mem_of_getElem? (i := 6) rfl)) (by decide) e43 (rm := ({ frames := 2, cells := 0, slots := 0, locals := 34 } : Room)) (argsL := [(.long cn), (.long cd)]) (S := [(.ref b)]) (W := 1) (a := b) (rm_init l Z a0 hw b cn cd h43 Ea43 F43_b_numerator F43_b_denominator hcd) (lenOf pd_7 rfl) rfl (Nat.le_of_eq rfl) (by decide) (by decide) (by decide) (by decide) (by rw [hml]; rfl) (hb hby at_196) (pc' := 199) rfl ?_
          rintro T44 _ L44 ⟨rfl, Kq44, Fn44, Fd44⟩ X44
          have F44_a_numerator := Fld.keep F43_a_numerator Kq44.1 (ninS ne_a_b nin0)
          have F44_a_denominator := Fld.keep F43_a_denominator Kq44.1 (ninS ne_a_b nin0)
          have E44_a := Exa.keep E43_a Kq44.1
          have E44_b := Exa.keep Ea43 Kq44.1
          have K44 := Kp.call K43 Kq44 (allS (Or.inr sz_b) all0)
          show Goes p e below T44 (mkF m 199 #[.val (.long q0), .second, .val (.long q1), .second, .val (.long q2), .second, .val (.long q3), .second, .val (.int p4), .val (.int p5), .val (.long aa), .second, .val (.long bb), .second, .val (.long cc), .second, .val (.long dd), .second, .val (.long kk), .second, .val (.int (p5 &&& (3 : Int32))), .val (.long cn), .second, .val (.long cd), .second, .val (.int (0 : Int32)), .val (.ref a), .unset, .unset, .unset, .unset, .unset, .unset, .unset, .unset] [(.ref b)]) _
          refine G.astore X44 hx (pc' := 201) (hb hby at_199) rfl (L' := #[.val (.long q0), .second, .val (.long q1), .second, .val (.long q2), .second, .val (.long q3), .second, .val (.int p4), .val (.int p5), .val (.long aa), .second, .val (.long bb), .second, .val (.long cc), .second, .val (.long dd), .second, .val (.long kk), .second, .val (.int (p5 &&& (3 : Int32))), .val (.long cn), .second, .val (.long cd), .second, .val (.int (0 : Int32)), .val (.ref a), .val (.ref b), .unset, .unset, .unset, .unset, .unset, .unset, .unset]) rfl rfl ?_
          refine G.aconstNull X44 hx (pc' := 202) (hb hby at_201) rfl ?_
          refine G.astore X44 hx (pc' := 204) (hb hby at_202) rfl (L' := #[.val (.long q0), .second, .val (.long q1), .second, .val (.long q2), .second, .val (.long q3), .second, .val (.int p4), .val (.int p5), .val (.long aa), .second, .val (.long bb), .second, .val (.long cc), .second, .val (.long dd), .second, .val (.long kk), .second, .val (.int (p5 &&& (3 : Int32))), .val (.long cn), .second, .val (.long cd), .second, .val (.int (0 : Int32)), .val (.ref a), .val (.ref b), .val .null, .unset, .unset, .unset, .unset, .unset, .unset]) rfl rfl ?_
          refine G.lload X44 hx (pc' := 206) (hb hby at_204) rfl rfl ?_
          have hx' : ∀ j : Int32, ¬ j < 0 → j < (256 : Int32) → ∃ b, xs[j.toNatClampNeg]? = some (.ref b) ∧ Exa Z T44.heap b "java/lang/Long" := fun j u1 u2 => by
            obtain ⟨b', v1, v2⟩ := hxc j u1 u2
            exact ⟨b', v1, v2.keep K44.1⟩
          refine G.callS X44 hx hZ (y := (⟨"java/lang/Long", "valueOf", "(J)Ljava/lang/Long;"⟩ : MethodName)) hown (hw _ (List.mem_of_getElem? (i := 21) rfl)) (hw _ (List.mem_of_getElem? (i := 22) rfl)) (hw _ (List.mem_of_getElem? (i := 23) rfl)) (hw _ (List.mem_of_getElem? (i := 24) rfl)) (by decide) rfl (rm := ({ frames := 3, cells := 1, slots := 1, locals := 39 } : Room)) (argsL := [(.long aa)]) (S := []) (W := 0) (rm_box l Z a0 hw aa ca xs T44.heap (Sta.keep0 S0 K44.1) (Seq.keep A0 K44.1 nin0) hx') (lenOf pd_8 rfl) rfl (Nat.le_of_eq rfl) (by decide) (by decide) (by decide) (by decide) (by rw [hml]; rfl) (hb hby at_206) (pc' := 209) rfl ?_
          rintro T45 _ L45 ⟨lb, rfl, Kq45, El45⟩ X45
          have F45_a_numerator := Fld.keep F44_a_numerator Kq45.1 nin0
          have F45_a_denominator := Fld.keep F44_a_denominator Kq45.1 nin0
          have F45_b_numerator := Fld.keep Fn44 Kq45.1 nin0
          have F45_b_denominator := Fld.keep Fd44 Kq45.1 nin0
          have E45_a := Exa.keep E44_a Kq45.1
          have E45_b := Exa.keep E44_b Kq45.1
          have K45 := Kp.call K44 Kq45 all0
          show Goes p e below T45 (mkF m 209 #[.val (.long q0), .second, .val (.long q1), .second, .val (.long q2), .second, .val (.long q3), .second, .val (.int p4), .val (.int p5), .val (.long aa), .second, .val (.long bb), .second, .val (.long cc), .second, .val (.long dd), .second, .val (.long kk), .second, .val (.int (p5 &&& (3 : Int32))), .val (.long cn), .second, .val (.long cd), .second, .val (.int (0 : Int32)), .val (.ref a), .val (.ref b), .val .null, .unset, .unset, .unset, .unset, .unset, .unset] [(.ref lb)]) _
          refine G.astore X45 hx (pc' := 211) (hb hby at_209) rfl (L' := #[.val (.long q0), .second, .val (.long q1), .second, .val (.long q2), .second, .val (.long q3), .second, .val (.int p4), .val (.int p5), .val (.long aa), .second, .val (.long bb), .second, .val (.long cc), .second, .val (.long dd), .second, .val (.long kk), .second, .val (.int (p5 &&& (3 : Int32))), .val (.long cn), .second, .val (.long cd), .second, .val (.int (0 : Int32)), .val (.ref a), .val (.ref b), .val .null, .val (.ref lb), .unset, .unset, .unset, .unset, .unset]) rfl rfl ?_
          refine G.aload X45 hx (pc' := 213) (hb hby at_211) rfl rfl rfl ?_
          refine G.aload X45 hx (pc' := 215) (hb hby at_213) rfl rfl rfl ?_
          refine G.callV X45 hx hZ (y0 := (⟨"com/example/netlocus/netlocus/Fraction", "equals", "(Ljava/lang/Object;)Z"⟩ : MethodName)) (y := (⟨"com/example/netlocus/netlocus/Fraction", "equals", "(Ljava/lang/Object;)Z"⟩ : MethodName)) hown (hw _ (List.mem_of_getElem? (i := 29) rfl)) (hw _ (List.mem_of_getElem? (i := 30) rfl)) (notFace_of_selects (args := #[]) (mvT hZ (hw _ (List.mem_of_getElem? (i := 32) rfl)))) (hw _ (List.mem_of_getElem? (i := 32) rfl)) (hw _ (List.mem_of_getElem? (i := 31) rfl)) (hw _ (List.mem_of_getElem? (i := 3) rfl)) (hw _ (List.mem_of_getElem? (i := 33) rfl)) (by decide) rfl (rm := ({ frames := 0, cells := 0, slots := 0, locals := 0 } : Room)) (argsL := [(.ref b)]) (S := []) (W := 0) (a := a) E45_a (rm_eq l Z a0 hw a b (aa / (gcdL aa bb)) (bb / (gcdL aa bb)) (cn / (gcdL cn cd)) (cd / (gcdL cn cd)) T45.heap E45_b F45_a_numerator F45_a_denominator F45_b_numerator F45_b_denominator) (lenOf pd_9 rfl) rfl (Nat.le_of_eq rfl) (by decide) (by decide) (by decide) (by decide) (by rw [hml]; rfl) (hb hby at_215) (pc' := 218) rfl ?_
          rintro T46 _ _ ⟨rfl, e46, rfl⟩ X46
          rw [List.append_nil] at X46
          show Goes p e below T46 (mkF m 218 #[.val (.long q0), .second, .val (.long q1), .second, .val (.long q2), .second, .val (.long q3), .second, .val (.int p4), .val (.int p5), .val (.long aa), .second, .val (.long bb), .second, .val (.long cc), .second, .val (.long dd), .second, .val (.long kk), .second, .val (.int (p5 &&& (3 : Int32))), .val (.long cn), .second, .val (.long cd), .second, .val (.int (0 : Int32)), .val (.ref a), .val (.ref b), .val .null, .val (.ref lb), .unset, .unset, .unset, .unset, .unset] [(.int (eqv (aa / (gcdL aa bb)) (bb / (gcdL aa bb)) (cn / (gcdL cn cd)) (cd / (gcdL cn cd))))]) _
          refine G.istore X46 hx (pc' := 220) (hb hby at_218) (L' := #[.val (.long q0), .second, .val (.long q1), .second, .val (.long q2), .second, .val (.long q3), .second, .val (.int p4), .val (.int p5), .val (.long aa), .second, .val (.long bb), .second, .val (.long cc), .second, .val (.long dd), .second, .val (.long kk), .second, .val (.int (p5 &&& (3 : Int32))), .val (.long cn), .second, .val (.long cd), .second, .val (.int (0 : Int32)), .val (.ref a), .val (.ref b), .val .null, .val (.ref lb), .val (.int (eqv (aa / (gcdL aa bb)) (bb / (gcdL aa bb)) (cn / (gcdL cn cd)) (cd / (gcdL cn cd)))), .unset, .unset, .unset, .unset]) rfl rfl ?_
          refine G.aload X46 hx (pc' := 222) (hb hby at_220) rfl rfl rfl ?_
          refine G.aload X46 hx (pc' := 224) (hb hby at_222) rfl rfl rfl ?_
          refine G.callV X46 hx hZ (y0 := (⟨"com/example/netlocus/netlocus/Fraction", "equals", "(Ljava/lang/Object;)Z"⟩ : MethodName)) (y := (⟨"com/example/netlocus/netlocus/Fraction", "equals", "(Ljava/lang/Object;)Z"⟩ : MethodName)) hown (hw _ (List.mem_of_getElem? (i := 29) rfl)) (hw _ (List.mem_of_getElem? (i := 30) rfl)) (notFace_of_selects (args := #[]) (mvT hZ (hw _ (List.mem_of_getElem? (i := 32) rfl)))) (hw _ (List.mem_of_getElem? (i := 32) rfl)) (hw _ (List.mem_of_getElem? (i := 31) rfl)) (hw _ (List.mem_of_getElem? (i := 3) rfl)) (hw _ (List.mem_of_getElem? (i := 33) rfl)) (by decide) e46 (rm := ({ frames := 0, cells := 0, slots := 0, locals := 0 } : Room)) (argsL := [(.ref a)]) (S := []) (W := 0) (a := b) E45_b (rm_eq l Z a0 hw b a (cn / (gcdL cn cd)) (cd / (gcdL cn cd)) (aa / (gcdL aa bb)) (bb / (gcdL aa bb)) T45.heap E45_a F45_b_numerator F45_b_denominator F45_a_numerator F45_a_denominator) (lenOf pd_9 rfl) rfl (Nat.le_of_eq rfl) (by decide) (by decide) (by decide) (by decide) (by rw [hml]; rfl) (hb hby at_224) (pc' := 227) rfl ?_
          rintro T47 _ _ ⟨rfl, e47, rfl⟩ X47
          rw [List.append_nil] at X47
          show Goes p e below T47 (mkF m 227 #[.val (.long q0), .second, .val (.long q1), .second, .val (.long q2), .second, .val (.long q3), .second, .val (.int p4), .val (.int p5), .val (.long aa), .second, .val (.long bb), .second, .val (.long cc), .second, .val (.long dd), .second, .val (.long kk), .second, .val (.int (p5 &&& (3 : Int32))), .val (.long cn), .second, .val (.long cd), .second, .val (.int (0 : Int32)), .val (.ref a), .val (.ref b), .val .null, .val (.ref lb), .val (.int (eqv (aa / (gcdL aa bb)) (bb / (gcdL aa bb)) (cn / (gcdL cn cd)) (cd / (gcdL cn cd)))), .unset, .unset, .unset, .unset] [(.int (eqv (cn / (gcdL cn cd)) (cd / (gcdL cn cd)) (aa / (gcdL aa bb)) (bb / (gcdL aa bb))))]) _
          refine G.istore X47 hx (pc' := 229) (hb hby at_227) (L' := #[.val (.long q0), .second, .val (.long q1), .second, .val (.long q2), .second, .val (.long q3), .second, .val (.int p4), .val (.int p5), .val (.long aa), .second, .val (.long bb), .second, .val (.long cc), .second, .val (.long dd), .second, .val (.long kk), .second, .val (.int (p5 &&& (3 : Int32))), .val (.long cn), .second, .val (.long cd), .second, .val (.int (0 : Int32)), .val (.ref a), .val (.ref b), .val .null, .val (.ref lb), .val (.int (eqv (aa / (gcdL aa bb)) (bb / (gcdL aa bb)) (cn / (gcdL cn cd)) (cd / (gcdL cn cd)))), .val (.int (eqv (cn / (gcdL cn cd)) (cd / (gcdL cn cd)) (aa / (gcdL aa bb)) (bb / (gcdL aa bb)))), .unset, .unset, .unset]) rfl rfl ?_
          refine G.aload X47 hx (pc' := 231) (hb hby at_229) rfl rfl rfl ?_
          refine G.aload X47 hx (pc' := 233) (hb hby at_231) rfl rfl rfl ?_
          refine G.callV X47 hx hZ (y0 := (⟨"com/example/netlocus/netlocus/Fraction", "equals", "(Ljava/lang/Object;)Z"⟩ : MethodName)) (y := (⟨"com/example/netlocus/netlocus/Fraction", "equals", "(Ljava/lang/Object;)Z"⟩ : MethodName)) hown (hw _ (List.mem_of_getElem? (i := 29) rfl)) (hw _ (List.mem_of_getElem? (i := 30) rfl)) (notFace_of_selects (args := #[]) (mvT hZ (hw _ (List.mem_of_getElem? (i := 32) rfl)))) (hw _ (List.mem_of_getElem? (i := 32) rfl)) (hw _ (List.mem_of_getElem? (i := 31) rfl)) (hw _ (List.mem_of_getElem? (i := 3) rfl)) (hw _ (List.mem_of_getElem? (i := 33) rfl)) (by decide) e47 (rm := ({ frames := 0, cells := 0, slots := 0, locals := 0 } : Room)) (argsL := [(.ref a)]) (S := []) (W := 0) (a := a) E45_a (rm_eq l Z a0 hw a a (aa / (gcdL aa bb)) (bb / (gcdL aa bb)) (aa / (gcdL aa bb)) (bb / (gcdL aa bb)) T45.heap E45_a F45_a_numerator F45_a_denominator F45_a_numerator F45_a_denominator) (lenOf pd_9 rfl) rfl (Nat.le_of_eq rfl) (by decide) (by decide) (by decide) (by decide) (by rw [hml]; rfl) (hb hby at_233) (pc' := 236) rfl ?_
          rintro T48 _ _ ⟨rfl, e48, rfl⟩ X48
          rw [List.append_nil] at X48
          show Goes p e below T48 (mkF m 236 #[.val (.long q0), .second, .val (.long q1), .second, .val (.long q2), .second, .val (.long q3), .second, .val (.int p4), .val (.int p5), .val (.long aa), .second, .val (.long bb), .second, .val (.long cc), .second, .val (.long dd), .second, .val (.long kk), .second, .val (.int (p5 &&& (3 : Int32))), .val (.long cn), .second, .val (.long cd), .second, .val (.int (0 : Int32)), .val (.ref a), .val (.ref b), .val .null, .val (.ref lb), .val (.int (eqv (aa / (gcdL aa bb)) (bb / (gcdL aa bb)) (cn / (gcdL cn cd)) (cd / (gcdL cn cd)))), .val (.int (eqv (cn / (gcdL cn cd)) (cd / (gcdL cn cd)) (aa / (gcdL aa bb)) (bb / (gcdL aa bb)))), .unset, .unset, .unset] [(.int (eqv (aa / (gcdL aa bb)) (bb / (gcdL aa bb)) (aa / (gcdL aa bb)) (bb / (gcdL aa bb))))]) _
          refine G.istore X48 hx (pc' := 238) (hb hby at_236) (L' := #[.val (.long q0), .second, .val (.long q1), .second, .val (.long q2), .second, .val (.long q3), .second, .val (.int p4), .val (.int p5), .val (.long aa), .second, .val (.long bb), .second, .val (.long cc), .second, .val (.long dd), .second, .val (.long kk), .second, .val (.int (p5 &&& (3 : Int32))), .val (.long cn), .second, .val (.long cd), .second, .val (.int (0 : Int32)), .val (.ref a), .val (.ref b), .val .null, .val (.ref lb), .val (.int (eqv (aa / (gcdL aa bb)) (bb / (gcdL aa bb)) (cn / (gcdL cn cd)) (cd / (gcdL cn cd)))), .val (.int (eqv (cn / (gcdL cn cd)) (cd / (gcdL cn cd)) (aa / (gcdL aa bb)) (bb / (gcdL aa bb)))), .val (.int (eqv (aa / (gcdL aa bb)) (bb / (gcdL aa bb)) (aa / (gcdL aa bb)) (bb / (gcdL aa bb)))), .unset, .unset]) rfl rfl ?_
          refine G.aload X48 hx (pc' := 240) (hb hby at_238) rfl rfl rfl ?_
          refine G.aload X48 hx (pc' := 242) (hb hby at_240) rfl rfl rfl ?_
          refine G.callV X48 hx hZ (y0 := (⟨"com/example/netlocus/netlocus/Fraction", "equals", "(Ljava/lang/Object;)Z"⟩ : MethodName)) (y := (⟨"com/example/netlocus/netlocus/Fraction", "equals", "(Ljava/lang/Object;)Z"⟩ : MethodName)) hown (hw _ (List.mem_of_getElem? (i := 29) rfl)) (hw _ (List.mem_of_getElem? (i := 30) rfl)) (notFace_of_selects (args := #[]) (mvT hZ (hw _ (List.mem_of_getElem? (i := 32) rfl)))) (hw _ (List.mem_of_getElem? (i := 32) rfl)) (hw _ (List.mem_of_getElem? (i := 31) rfl)) (hw _ (List.mem_of_getElem? (i := 3) rfl)) (hw _ (List.mem_of_getElem? (i := 33) rfl)) (by decide) e48 (rm := ({ frames := 0, cells := 0, slots := 0, locals := 0 } : Room)) (argsL := [.null]) (S := []) (W := 0) (a := a) E45_a (rm_eqn l Z a0 hw a T45.heap) (lenOf pd_9 rfl) rfl (Nat.le_of_eq rfl) (by decide) (by decide) (by decide) (by decide) (by rw [hml]; rfl) (hb hby at_242) (pc' := 245) rfl ?_
          rintro T49 _ _ ⟨rfl, e49, rfl⟩ X49
          rw [List.append_nil] at X49
          show Goes p e below T49 (mkF m 245 #[.val (.long q0), .second, .val (.long q1), .second, .val (.long q2), .second, .val (.long q3), .second, .val (.int p4), .val (.int p5), .val (.long aa), .second, .val (.long bb), .second, .val (.long cc), .second, .val (.long dd), .second, .val (.long kk), .second, .val (.int (p5 &&& (3 : Int32))), .val (.long cn), .second, .val (.long cd), .second, .val (.int (0 : Int32)), .val (.ref a), .val (.ref b), .val .null, .val (.ref lb), .val (.int (eqv (aa / (gcdL aa bb)) (bb / (gcdL aa bb)) (cn / (gcdL cn cd)) (cd / (gcdL cn cd)))), .val (.int (eqv (cn / (gcdL cn cd)) (cd / (gcdL cn cd)) (aa / (gcdL aa bb)) (bb / (gcdL aa bb)))), .val (.int (eqv (aa / (gcdL aa bb)) (bb / (gcdL aa bb)) (aa / (gcdL aa bb)) (bb / (gcdL aa bb)))), .unset, .unset] [(.int (0 : Int32))]) _
          refine G.istore X49 hx (pc' := 247) (hb hby at_245) (L' := #[.val (.long q0), .second, .val (.long q1), .second, .val (.long q2), .second, .val (.long q3), .second, .val (.int p4), .val (.int p5), .val (.long aa), .second, .val (.long bb), .second, .val (.long cc), .second, .val (.long dd), .second, .val (.long kk), .second, .val (.int (p5 &&& (3 : Int32))), .val (.long cn), .second, .val (.long cd), .second, .val (.int (0 : Int32)), .val (.ref a), .val (.ref b), .val .null, .val (.ref lb), .val (.int (eqv (aa / (gcdL aa bb)) (bb / (gcdL aa bb)) (cn / (gcdL cn cd)) (cd / (gcdL cn cd)))), .val (.int (eqv (cn / (gcdL cn cd)) (cd / (gcdL cn cd)) (aa / (gcdL aa bb)) (bb / (gcdL aa bb)))), .val (.int (eqv (aa / (gcdL aa bb)) (bb / (gcdL aa bb)) (aa / (gcdL aa bb)) (bb / (gcdL aa bb)))), .val (.int (0 : Int32)), .unset]) rfl rfl ?_
          refine G.aload X49 hx (pc' := 249) (hb hby at_247) rfl rfl rfl ?_
          refine G.aload X49 hx (pc' := 251) (hb hby at_249) rfl rfl rfl ?_
          refine G.callV X49 hx hZ (y0 := (⟨"com/example/netlocus/netlocus/Fraction", "equals", "(Ljava/lang/Object;)Z"⟩ : MethodName)) (y := (⟨"com/example/netlocus/netlocus/Fraction", "equals", "(Ljava/lang/Object;)Z"⟩ : MethodName)) hown (hw _ (List.mem_of_getElem? (i := 29) rfl)) (hw _ (List.mem_of_getElem? (i := 30) rfl)) (notFace_of_selects (args := #[]) (mvT hZ (hw _ (List.mem_of_getElem? (i := 32) rfl)))) (hw _ (List.mem_of_getElem? (i := 32) rfl)) (hw _ (List.mem_of_getElem? (i := 31) rfl)) (hw _ (List.mem_of_getElem? (i := 3) rfl)) (hw _ (List.mem_of_getElem? (i := 33) rfl)) (by decide) e49 (rm := ({ frames := 0, cells := 0, slots := 0, locals := 0 } : Room)) (argsL := [(.ref lb)]) (S := []) (W := 0) (a := a) E45_a (rm_eql l Z a0 hw a lb T45.heap El45) (lenOf pd_9 rfl) rfl (Nat.le_of_eq rfl) (by decide) (by decide) (by decide) (by decide) (by rw [hml]; rfl) (hb hby at_251) (pc' := 254) rfl ?_
          rintro T50 _ _ ⟨rfl, e50, rfl⟩ X50
          rw [List.append_nil] at X50
          show Goes p e below T50 (mkF m 254 #[.val (.long q0), .second, .val (.long q1), .second, .val (.long q2), .second, .val (.long q3), .second, .val (.int p4), .val (.int p5), .val (.long aa), .second, .val (.long bb), .second, .val (.long cc), .second, .val (.long dd), .second, .val (.long kk), .second, .val (.int (p5 &&& (3 : Int32))), .val (.long cn), .second, .val (.long cd), .second, .val (.int (0 : Int32)), .val (.ref a), .val (.ref b), .val .null, .val (.ref lb), .val (.int (eqv (aa / (gcdL aa bb)) (bb / (gcdL aa bb)) (cn / (gcdL cn cd)) (cd / (gcdL cn cd)))), .val (.int (eqv (cn / (gcdL cn cd)) (cd / (gcdL cn cd)) (aa / (gcdL aa bb)) (bb / (gcdL aa bb)))), .val (.int (eqv (aa / (gcdL aa bb)) (bb / (gcdL aa bb)) (aa / (gcdL aa bb)) (bb / (gcdL aa bb)))), .val (.int (0 : Int32)), .unset] [(.int (0 : Int32))]) _
          refine G.istore X50 hx (pc' := 256) (hb hby at_254) (L' := #[.val (.long q0), .second, .val (.long q1), .second, .val (.long q2), .second, .val (.long q3), .second, .val (.int p4), .val (.int p5), .val (.long aa), .second, .val (.long bb), .second, .val (.long cc), .second, .val (.long dd), .second, .val (.long kk), .second, .val (.int (p5 &&& (3 : Int32))), .val (.long cn), .second, .val (.long cd), .second, .val (.int (0 : Int32)), .val (.ref a), .val (.ref b), .val .null, .val (.ref lb), .val (.int (eqv (aa / (gcdL aa bb)) (bb / (gcdL aa bb)) (cn / (gcdL cn cd)) (cd / (gcdL cn cd)))), .val (.int (eqv (cn / (gcdL cn cd)) (cd / (gcdL cn cd)) (aa / (gcdL aa bb)) (bb / (gcdL aa bb)))), .val (.int (eqv (aa / (gcdL aa bb)) (bb / (gcdL aa bb)) (aa / (gcdL aa bb)) (bb / (gcdL aa bb)))), .val (.int (0 : Int32)), .val (.int (0 : Int32))]) rfl rfl ?_
          refine G.iload X50 hx (pc' := 258) (hb hby at_256) rfl rfl ?_
          refine G.iload X50 hx (pc' := 260) (hb hby at_258) rfl rfl ?_
          refine G.icmpF X50 hx (pc' := 263) (hb hby at_260) (Jvm.Free.XT.ii_ne_f (by rw [own_eqv aa bb cn cd hbb hcd, if_neg hcr])) rfl ?_
          refine G.iload X50 hx (pc' := 265) (hb hby at_263) rfl rfl ?_
          refine G.iload X50 hx (pc' := 267) (hb hby at_265) rfl rfl ?_
          refine G.icmpF X50 hx (pc' := 270) (hb hby at_267) (Jvm.Free.XT.ii_ne_f (by rw [own_eqv cn cd aa bb hcd hbb, if_neg (fun q => hcr q.symm)])) rfl ?_
          refine G.iload X50 hx (pc' := 272) (hb hby at_270) rfl rfl ?_
          refine G.ifF X50 hx (pc' := 275) (hb hby at_272) (Jvm.Free.XT.i0_eq_f (by rw [eqv, if_pos ⟨rfl, rfl⟩]; decide)) rfl ?_
          refine G.iload X50 hx (pc' := 277) (hb hby at_275) rfl rfl ?_
          refine G.ifF X50 hx (pc' := 280) (hb hby at_277) (Jvm.Free.XT.i0_ne_f rfl) rfl ?_
          refine G.iload X50 hx (pc' := 282) (hb hby at_280) rfl rfl ?_
          refine G.ifF X50 hx (pc' := 285) (hb hby at_282) (Jvm.Free.XT.i0_ne_f rfl) rfl ?_
          refine G.iconst X50 hx (pc' := 286) (hb hby at_285) (z := (1 : Int32)) rfl rfl ?_
          refine G.goto X50 hx (pc' := 290) (hb hby at_286) (by decide) (by decide) ?_
          refine Goes.retN X50 hx hret (by simp) hlk (hb hby at_290) (by decide) (by decide) ⟨rfl, K45.fr⟩
      · refine G.icmpT X0 hx (pc' := 156) (hb hby at_120) (Jvm.Free.XT.ii_ne_t d2) (by decide) (by decide) ?_
        refine G.lload X0 hx (pc' := 158) (hb hby at_156) rfl rfl ?_
        refine G.lload X0 hx (pc' := 160) (hb hby at_158) rfl rfl ?_
        refine G.lmul X0 hx (pc' := 161) (hb hby at_160) rfl ?_
        refine G.lconst X0 hx (pc' := 162) (hb hby at_161) (z := (1 : Int64)) rfl rfl ?_
        refine G.ladd X0 hx (pc' := 163) (hb hby at_162) rfl ?_
        refine G.lstore X0 hx (pc' := 165) (hb hby at_163) (L' := #[.val (.long q0), .second, .val (.long q1), .second, .val (.long q2), .second, .val (.long q3), .second, .val (.int p4), .val (.int p5), .val (.long aa), .second, .val (.long bb), .second, .val (.long cc), .second, .val (.long dd), .second, .val (.long kk), .second, .val (.int (p5 &&& (3 : Int32))), .val (.long ((aa * kk) + (1 : Int64))), .second, .unset, .unset, .unset, .unset, .unset, .unset, .unset, .unset, .unset, .unset, .unset, .unset]) rfl rfl ?_
        refine G.lload X0 hx (pc' := 167) (hb hby at_165) rfl rfl ?_
        refine G.lload X0 hx (pc' := 169) (hb hby at_167) rfl rfl ?_
        refine G.lmul X0 hx (pc' := 170) (hb hby at_169) rfl ?_
        refine G.lstore X0 hx (pc' := 172) (hb hby at_170) (L' := #[.val (.long q0), .second, .val (.long q1), .second, .val (.long q2), .second, .val (.long q3), .second, .val (.int p4), .val (.int p5), .val (.long aa), .second, .val (.long bb), .second, .val (.long cc), .second, .val (.long dd), .second, .val (.long kk), .second, .val (.int (p5 &&& (3 : Int32))), .val (.long ((aa * kk) + (1 : Int64))), .second, .val (.long (bb * kk)), .second, .unset, .unset, .unset, .unset, .unset, .unset, .unset, .unset, .unset, .unset]) rfl rfl ?_
        refine G.iconst X0 hx (pc' := 173) (hb hby at_172) (z := (0 : Int32)) rfl rfl ?_
        refine G.istore X0 hx (pc' := 175) (hb hby at_173) (L' := #[.val (.long q0), .second, .val (.long q1), .second, .val (.long q2), .second, .val (.long q3), .second, .val (.int p4), .val (.int p5), .val (.long aa), .second, .val (.long bb), .second, .val (.long cc), .second, .val (.long dd), .second, .val (.long kk), .second, .val (.int (p5 &&& (3 : Int32))), .val (.long ((aa * kk) + (1 : Int64))), .second, .val (.long (bb * kk)), .second, .val (.int (0 : Int32)), .unset, .unset, .unset, .unset, .unset, .unset, .unset, .unset, .unset]) rfl rfl ?_
        have hcr := own_m3 aa bb kk raa rbb rkk
        have hcd := (own_m1 aa bb kk raa rbb rkk).2
        have hbb : 0 < bb.toInt := by omega
        generalize hcn : ((aa * kk) + (1 : Int64)) = cn at hcr ⊢
        generalize hcdv : (bb * kk) = cd at hcr hcd ⊢
        refine G.newO X0 hx hZ hown (hw _ (List.mem_of_getElem? (i := 1) rfl)) (hw _ (List.mem_of_getElem? (i := 2) rfl)) (hw _ (List.mem_of_getElem? (i := 3) rfl)) e0 (hb hby at_175) (by decide) (by decide) (pc' := 178) rfl fun T51 h51 a g51 X51 e51 Ex51 Ea51 D51 => ?_
        have sz_a : h0.size ≤ a := Nat.le_trans K0.size (Nat.le_of_eq g51.symm)
        have K51 := Kp.ext K0 Ex51
        have F51_a_numerator : Fld Z h51 a "com/example/netlocus/netlocus/Fraction" "numerator" "J" (.long (0 : Int64)) := D51 (Or.inr (hw _ (List.mem_of_getElem? (i := 18) rfl))) (ty := .long) (by decide)
        have F51_a_denominator : Fld Z h51 a "com/example/netlocus/netlocus/Fraction" "denominator" "J" (.long (0 : Int64)) := D51 (Or.inr (hw _ (List.mem_of_getElem? (i := 20) rfl))) (ty := .long) (by decide)
        refine G.dup X51 hx (pc' := 179) (hb hby at_178) rfl rfl ?_
        refine G.lload X51 hx (pc' := 181) (hb hby at_179) rfl rfl ?_
        refine G.lload X51 hx (pc' := 183) (hb hby at_181) rfl rfl ?_
        refine G.callI X51 hx hZ (y := (⟨"com/example/netlocus/netlocus/Fraction", "<init>", "(JJ)V"⟩ : MethodName)) rfl hown (hw _ (List.mem_of_getElem? (i := 4) rfl)) (hw _ (List.mem_of_getElem? (i := 5) rfl)) (hw _ (List.mem_of_getElem? (i := 3) rfl)) (hw _ (List.mem_of_getElem? (i := 6) rfl)) (by decide) e51 (rm := ({ frames := 2, cells := 0, slots := 0, locals := 34 } : Room)) (argsL := [(.long aa), (.long bb)]) (S := [(.ref a)]) (W := 1) (a := a) (rm_init l Z a0 hw a aa bb h51 Ea51 F51_a_numerator F51_a_denominator hbb) (lenOf pd_7 rfl) rfl (Nat.le_of_eq rfl) (by decide) (by decide) (by decide) (by decide) (by rw [hml]; rfl) (hb hby at_183) (pc' := 186) rfl ?_
        rintro T52 _ L52 ⟨rfl, Kq52, Fn52, Fd52⟩ X52
        have E52_a := Exa.keep Ea51 Kq52.1
        have K52 := Kp.call K51 Kq52 (allS (Or.inr sz_a) all0)
        show Goes p e below T52 (mkF m 186 #[.val (.long q0), .second, .val (.long q1), .second, .val (.long q2), .second, .val (.long q3), .second, .val (.int p4), .val (.int p5), .val (.long aa), .second, .val (.long bb), .second, .val (.long cc), .second, .val (.long dd), .second, .val (.long kk), .second, .val (.int (p5 &&& (3 : Int32))), .val (.long cn), .second, .val (.long cd), .second, .val (.int (0 : Int32)), .unset, .unset, .unset, .unset, .unset, .unset, .unset, .unset, .unset] [(.ref a)]) _
        refine G.astore X52 hx (pc' := 188) (hb hby at_186) rfl (L' := #[.val (.long q0), .second, .val (.long q1), .second, .val (.long q2), .second, .val (.long q3), .second, .val (.int p4), .val (.int p5), .val (.long aa), .second, .val (.long bb), .second, .val (.long cc), .second, .val (.long dd), .second, .val (.long kk), .second, .val (.int (p5 &&& (3 : Int32))), .val (.long cn), .second, .val (.long cd), .second, .val (.int (0 : Int32)), .val (.ref a), .unset, .unset, .unset, .unset, .unset, .unset, .unset, .unset]) rfl rfl ?_
        refine G.newO X52 hx hZ hown (hw _ (List.mem_of_getElem? (i := 1) rfl)) (hw _ (List.mem_of_getElem? (i := 2) rfl)) (hw _ (List.mem_of_getElem? (i := 3) rfl)) rfl (hb hby at_188) (by decide) (by decide) (pc' := 191) rfl fun T53 h53 b g53 X53 e53 Ex53 Ea53 D53 => ?_
        have ne_a_b : a ≠ b := Nat.ne_of_lt (Nat.lt_of_lt_of_le Fn52.lt (Nat.le_of_eq g53.symm))
        have sz_b : h0.size ≤ b := Nat.le_trans K52.size (Nat.le_of_eq g53.symm)
        have F53_a_numerator := Fld.ext  Ex53 Fn52
        have F53_a_denominator := Fld.ext  Ex53 Fd52
        have E53_a := Exa.ext  Ex53 E52_a
        have K53 := Kp.ext K52 Ex53
        have F53_b_numerator : Fld Z h53 b "com/example/netlocus/netlocus/Fraction" "numerator" "J" (.long (0 : Int64)) := D53 (Or.inr (hw _ (List.mem_of_getElem? (i := 18) rfl))) (ty := .long) (by decide)
        have F53_b_denominator : Fld Z h53 b "com/example/netlocus/netlocus/Fraction" "denominator" "J" (.long (0 : Int64)) := D53 (Or.inr (hw _ (List.mem_of_getElem? (i := 20) rfl))) (ty := .long) (by decide)
        refine G.dup X53 hx (pc' := 192) (hb hby at_191) rfl rfl ?_
        refine G.lload X53 hx (pc' := 194) (hb hby at_192) rfl rfl ?_
        refine G.lload X53 hx (pc' := 196) (hb hby at_194) rfl rfl ?_
        refine G.callI X53 hx hZ (y := (⟨"com/example/netlocus/netlocus/Fraction", "<init>", "(JJ)V"⟩ : MethodName)) rfl hown (hw _ (List.mem_of_getElem? (i := 4) rfl)) (hw _ (List.mem_of_getElem? (i := 5) rfl)) (hw _ (List.mem_of_getElem? (i := 3) rfl)) (hw _ (List.mem_of_getElem? (i := 6) rfl)) (by decide) e53 (rm := ({ frames := 2, cells := 0, slots := 0, locals := 34 } : Room)) (argsL := [(.long cn), (.long cd)]) (S := [(.ref b)]) (W := 1) (a := b) (rm_init l Z a0 hw b cn cd h53 Ea53 F53_b_numerator F53_b_denominator hcd) (lenOf pd_7 rfl) rfl (Nat.le_of_eq rfl) (by decide) (by decide) (by decide) (by decide) (by rw [hml]; rfl) (hb hby at_196) (pc' := 199) rfl ?_
        rintro T54 _ L54 ⟨rfl, Kq54, Fn54, Fd54⟩ X54
        have F54_a_numerator := Fld.keep F53_a_numerator Kq54.1 (ninS ne_a_b nin0)
        have F54_a_denominator := Fld.keep F53_a_denominator Kq54.1 (ninS ne_a_b nin0)
        have E54_a := Exa.keep E53_a Kq54.1
        have E54_b := Exa.keep Ea53 Kq54.1
        have K54 := Kp.call K53 Kq54 (allS (Or.inr sz_b) all0)
        show Goes p e below T54 (mkF m 199 #[.val (.long q0), .second, .val (.long q1), .second, .val (.long q2), .second, .val (.long q3), .second, .val (.int p4), .val (.int p5), .val (.long aa), .second, .val (.long bb), .second, .val (.long cc), .second, .val (.long dd), .second, .val (.long kk), .second, .val (.int (p5 &&& (3 : Int32))), .val (.long cn), .second, .val (.long cd), .second, .val (.int (0 : Int32)), .val (.ref a), .unset, .unset, .unset, .unset, .unset, .unset, .unset, .unset] [(.ref b)]) _
        refine G.astore X54 hx (pc' := 201) (hb hby at_199) rfl (L' := #[.val (.long q0), .second, .val (.long q1), .second, .val (.long q2), .second, .val (.long q3), .second, .val (.int p4), .val (.int p5), .val (.long aa), .second, .val (.long bb), .second, .val (.long cc), .second, .val (.long dd), .second, .val (.long kk), .second, .val (.int (p5 &&& (3 : Int32))), .val (.long cn), .second, .val (.long cd), .second, .val (.int (0 : Int32)), .val (.ref a), .val (.ref b), .unset, .unset, .unset, .unset, .unset, .unset, .unset]) rfl rfl ?_
        refine G.aconstNull X54 hx (pc' := 202) (hb hby at_201) rfl ?_
        refine G.astore X54 hx (pc' := 204) (hb hby at_202) rfl (L' := #[.val (.long q0), .second, .val (.long q1), .second, .val (.long q2), .second, .val (.long q3), .second, .val (.int p4), .val (.int p5), .val (.long aa), .second, .val (.long bb), .second, .val (.long cc), .second, .val (.long dd), .second, .val (.long kk), .second, .val (.int (p5 &&& (3 : Int32))), .val (.long cn), .second, .val (.long cd), .second, .val (.int (0 : Int32)), .val (.ref a), .val (.ref b), .val .null, .unset, .unset, .unset, .unset, .unset, .unset]) rfl rfl ?_
        refine G.lload X54 hx (pc' := 206) (hb hby at_204) rfl rfl ?_
        have hx' : ∀ j : Int32, ¬ j < 0 → j < (256 : Int32) → ∃ b, xs[j.toNatClampNeg]? = some (.ref b) ∧ Exa Z T54.heap b "java/lang/Long" := fun j u1 u2 => by
          obtain ⟨b', v1, v2⟩ := hxc j u1 u2
          exact ⟨b', v1, v2.keep K54.1⟩
        refine G.callS X54 hx hZ (y := (⟨"java/lang/Long", "valueOf", "(J)Ljava/lang/Long;"⟩ : MethodName)) hown (hw _ (List.mem_of_getElem? (i := 21) rfl)) (hw _ (List.mem_of_getElem? (i := 22) rfl)) (hw _ (List.mem_of_getElem? (i := 23) rfl)) (hw _ (List.mem_of_getElem? (i := 24) rfl)) (by decide) rfl (rm := ({ frames := 3, cells := 1, slots := 1, locals := 39 } : Room)) (argsL := [(.long aa)]) (S := []) (W := 0) (rm_box l Z a0 hw aa ca xs T54.heap (Sta.keep0 S0 K54.1) (Seq.keep A0 K54.1 nin0) hx') (lenOf pd_8 rfl) rfl (Nat.le_of_eq rfl) (by decide) (by decide) (by decide) (by decide) (by rw [hml]; rfl) (hb hby at_206) (pc' := 209) rfl ?_
        rintro T55 _ L55 ⟨lb, rfl, Kq55, El55⟩ X55
        have F55_a_numerator := Fld.keep F54_a_numerator Kq55.1 nin0
        have F55_a_denominator := Fld.keep F54_a_denominator Kq55.1 nin0
        have F55_b_numerator := Fld.keep Fn54 Kq55.1 nin0
        have F55_b_denominator := Fld.keep Fd54 Kq55.1 nin0
        have E55_a := Exa.keep E54_a Kq55.1
        have E55_b := Exa.keep E54_b Kq55.1
        have K55 := Kp.call K54 Kq55 all0
        show Goes p e below T55 (mkF m 209 #[.val (.long q0), .second, .val (.long q1), .second, .val (.long q2), .second, .val (.long q3), .second, .val (.int p4), .val (.int p5), .val (.long aa), .second, .val (.long bb), .second, .val (.long cc), .second, .val (.long dd), .second, .val (.long kk), .second, .val (.int (p5 &&& (3 : Int32))), .val (.long cn), .second, .val (.long cd), .second, .val (.int (0 : Int32)), .val (.ref a), .val (.ref b), .val .null, .unset, .unset, .unset, .unset, .unset, .unset] [(.ref lb)]) _
        refine G.astore X55 hx (pc' := 211) (hb hby at_209) rfl (L' := #[.val (.long q0), .second, .val (.long q1), .second, .val (.long q2), .second, .val (.long q3), .second, .val (.int p4), .val (.int p5), .val (.long aa), .second, .val (.long bb), .second, .val (.long cc), .second, .val (.long dd), .second, .val (.long kk), .second, .val (.int (p5 &&& (3 : Int32))), .val (.long cn), .second, .val (.long cd), .second, .val (.int (0 : Int32)), .val (.ref a), .val (.ref b), .val .null, .val (.ref lb), .unset, .unset, .unset, .unset, .unset]) rfl rfl ?_
        refine G.aload X55 hx (pc' := 213) (hb hby at_211) rfl rfl rfl ?_
        refine G.aload X55 hx (pc' := 215) (hb hby at_213) rfl rfl rfl ?_
        refine G.callV X55 hx hZ (y0 := (⟨"com/example/netlocus/netlocus/Fraction", "equals", "(Ljava/lang/Object;)Z"⟩ : MethodName)) (y := (⟨"com/example/netlocus/netlocus/Fraction", "equals", "(Ljava/lang/Object;)Z"⟩ : MethodName)) hown (hw _ (List.mem_of_getElem? (i := 29) rfl)) (hw _ (List.mem_of_getElem? (i := 30) rfl)) (notFace_of_selects (args := #[]) (mvT hZ (hw _ (List.mem_of_getElem? (i := 32) rfl)))) (hw _ (List.mem_of_getElem? (i := 32) rfl)) (hw _ (List.mem_of_getElem? (i := 31) rfl)) (hw _ (List.mem_of_getElem? (i := 3) rfl)) (hw _ (List.mem_of_getElem? (i := 33) rfl)) (by decide) rfl (rm := ({ frames := 0, cells := 0, slots := 0, locals := 0 } : Room)) (argsL := [(.ref b)]) (S := []) (W := 0) (a := a) E55_a (rm_eq l Z a0 hw a b (aa / (gcdL aa bb)) (bb / (gcdL aa bb)) (cn / (gcdL cn cd)) (cd / (gcdL cn cd)) T55.heap E55_b F55_a_numerator F55_a_denominator F55_b_numerator F55_b_denominator) (lenOf pd_9 rfl) rfl (Nat.le_of_eq rfl) (by decide) (by decide) (by decide) (by decide) (by rw [hml]; rfl) (hb hby at_215) (pc' := 218) rfl ?_
        rintro T56 _ _ ⟨rfl, e56, rfl⟩ X56
        rw [List.append_nil] at X56
        show Goes p e below T56 (mkF m 218 #[.val (.long q0), .second, .val (.long q1), .second, .val (.long q2), .second, .val (.long q3), .second, .val (.int p4), .val (.int p5), .val (.long aa), .second, .val (.long bb), .second, .val (.long cc), .second, .val (.long dd), .second, .val (.long kk), .second, .val (.int (p5 &&& (3 : Int32))), .val (.long cn), .second, .val (.long cd), .second, .val (.int (0 : Int32)), .val (.ref a), .val (.ref b), .val .null, .val (.ref lb), .unset, .unset, .unset, .unset, .unset] [(.int (eqv (aa / (gcdL aa bb)) (bb / (gcdL aa bb)) (cn / (gcdL cn cd)) (cd / (gcdL cn cd))))]) _
        refine G.istore X56 hx (pc' := 220) (hb hby at_218) (L' := #[.val (.long q0), .second, .val (.long q1), .second, .val (.long q2), .second, .val (.long q3), .second, .val (.int p4), .val (.int p5), .val (.long aa), .second, .val (.long bb), .second, .val (.long cc), .second, .val (.long dd), .second, .val (.long kk), .second, .val (.int (p5 &&& (3 : Int32))), .val (.long cn), .second, .val (.long cd), .second, .val (.int (0 : Int32)), .val (.ref a), .val (.ref b), .val .null, .val (.ref lb), .val (.int (eqv (aa / (gcdL aa bb)) (bb / (gcdL aa bb)) (cn / (gcdL cn cd)) (cd / (gcdL cn cd)))), .unset, .unset, .unset, .unset]) rfl rfl ?_
        refine G.aload X56 hx (pc' := 222) (hb hby at_220) rfl rfl rfl ?_
        refine G.aload X56 hx (pc' := 224) (hb hby at_222) rfl rfl rfl ?_
        refine G.callV X56 hx hZ (y0 := (⟨"com/example/netlocus/netlocus/Fraction", "equals", "(Ljava/lang/Object;)Z"⟩ : MethodName)) (y := (⟨"com/example/netlocus/netlocus/Fraction", "equals", "(Ljava/lang/Object;)Z"⟩ : MethodName)) hown (hw _ (List.mem_of_getElem? (i := 29) rfl)) (hw _ (List.mem_of_getElem? (i := 30) rfl)) (notFace_of_selects (args := #[]) (mvT hZ (hw _ (List.mem_of_getElem? (i := 32) rfl)))) (hw _ (List.mem_of_getElem? (i := 32) rfl)) (hw _ (List.mem_of_getElem? (i := 31) rfl)) (hw _ (List.mem_of_getElem? (i := 3) rfl)) (hw _ (List.mem_of_getElem? (i := 33) rfl)) (by decide) e56 (rm := ({ frames := 0, cells := 0, slots := 0, locals := 0 } : Room)) (argsL := [(.ref a)]) (S := []) (W := 0) (a := b) E55_b (rm_eq l Z a0 hw b a (cn / (gcdL cn cd)) (cd / (gcdL cn cd)) (aa / (gcdL aa bb)) (bb / (gcdL aa bb)) T55.heap E55_a F55_b_numerator F55_b_denominator F55_a_numerator F55_a_denominator) (lenOf pd_9 rfl) rfl (Nat.le_of_eq rfl) (by decide) (by decide) (by decide) (by decide) (by rw [hml]; rfl) (hb hby at_224) (pc' := 227) rfl ?_
        rintro T57 _ _ ⟨rfl, e57, rfl⟩ X57
        rw [List.append_nil] at X57
        show Goes p e below T57 (mkF m 227 #[.val (.long q0), .second, .val (.long q1), .second, .val (.long q2), .second, .val (.long q3), .second, .val (.int p4), .val (.int p5), .val (.long aa), .second, .val (.long bb), .second, .val (.long cc), .second, .val (.long dd), .second, .val (.long kk), .second, .val (.int (p5 &&& (3 : Int32))), .val (.long cn), .second, .val (.long cd), .second, .val (.int (0 : Int32)), .val (.ref a), .val (.ref b), .val .null, .val (.ref lb), .val (.int (eqv (aa / (gcdL aa bb)) (bb / (gcdL aa bb)) (cn / (gcdL cn cd)) (cd / (gcdL cn cd)))), .unset, .unset, .unset, .unset] [(.int (eqv (cn / (gcdL cn cd)) (cd / (gcdL cn cd)) (aa / (gcdL aa bb)) (bb / (gcdL aa bb))))]) _
        refine G.istore X57 hx (pc' := 229) (hb hby at_227) (L' := #[.val (.long q0), .second, .val (.long q1), .second, .val (.long q2), .second, .val (.long q3), .second, .val (.int p4), .val (.int p5), .val (.long aa), .second, .val (.long bb), .second, .val (.long cc), .second, .val (.long dd), .second, .val (.long kk), .second, .val (.int (p5 &&& (3 : Int32))), .val (.long cn), .second, .val (.long cd), .second, .val (.int (0 : Int32)), .val (.ref a), .val (.ref b), .val .null, .val (.ref lb), .val (.int (eqv (aa / (gcdL aa bb)) (bb / (gcdL aa bb)) (cn / (gcdL cn cd)) (cd / (gcdL cn cd)))), .val (.int (eqv (cn / (gcdL cn cd)) (cd / (gcdL cn cd)) (aa / (gcdL aa bb)) (bb / (gcdL aa bb)))), .unset, .unset, .unset]) rfl rfl ?_
        refine G.aload X57 hx (pc' := 231) (hb hby at_229) rfl rfl rfl ?_
        refine G.aload X57 hx (pc' := 233) (hb hby at_231) rfl rfl rfl ?_
        refine G.callV X57 hx hZ (y0 := (⟨"com/example/netlocus/netlocus/Fraction", "equals", "(Ljava/lang/Object;)Z"⟩ : MethodName)) (y := (⟨"com/example/netlocus/netlocus/Fraction", "equals", "(Ljava/lang/Object;)Z"⟩ : MethodName)) hown (hw _ (List.mem_of_getElem? (i := 29) rfl)) (hw _ (List.mem_of_getElem? (i := 30) rfl)) (notFace_of_selects (args := #[]) (mvT hZ (hw _ (List.mem_of_getElem? (i := 32) rfl)))) (hw _ (List.mem_of_getElem? (i := 32) rfl)) (hw _ (List.mem_of_getElem? (i := 31) rfl)) (hw _ (List.mem_of_getElem? (i := 3) rfl)) (hw _ (List.mem_of_getElem? (i := 33) rfl)) (by decide) e57 (rm := ({ frames := 0, cells := 0, slots := 0, locals := 0 } : Room)) (argsL := [(.ref a)]) (S := []) (W := 0) (a := a) E55_a (rm_eq l Z a0 hw a a (aa / (gcdL aa bb)) (bb / (gcdL aa bb)) (aa / (gcdL aa bb)) (bb / (gcdL aa bb)) T55.heap E55_a F55_a_numerator F55_a_denominator F55_a_numerator F55_a_denominator) (lenOf pd_9 rfl) rfl (Nat.le_of_eq rfl) (by decide) (by decide) (by decide) (by decide) (by rw [hml]; rfl) (hb hby at_233) (pc' := 236) rfl ?_
        rintro T58 _ _ ⟨rfl, e58, rfl⟩ X58
        rw [List.append_nil] at X58
        show Goes p e below T58 (mkF m 236 #[.val (.long q0), .second, .val (.long q1), .second, .val (.long q2), .second, .val (.long q3), .second, .val (.int p4), .val (.int p5), .val (.long aa), .second, .val (.long bb), .second, .val (.long cc), .second, .val (.long dd), .second, .val (.long kk), .second, .val (.int (p5 &&& (3 : Int32))), .val (.long cn), .second, .val (.long cd), .second, .val (.int (0 : Int32)), .val (.ref a), .val (.ref b), .val .null, .val (.ref lb), .val (.int (eqv (aa / (gcdL aa bb)) (bb / (gcdL aa bb)) (cn / (gcdL cn cd)) (cd / (gcdL cn cd)))), .val (.int (eqv (cn / (gcdL cn cd)) (cd / (gcdL cn cd)) (aa / (gcdL aa bb)) (bb / (gcdL aa bb)))), .unset, .unset, .unset] [(.int (eqv (aa / (gcdL aa bb)) (bb / (gcdL aa bb)) (aa / (gcdL aa bb)) (bb / (gcdL aa bb))))]) _
        refine G.istore X58 hx (pc' := 238) (hb hby at_236) (L' := #[.val (.long q0), .second, .val (.long q1), .second, .val (.long q2), .second, .val (.long q3), .second, .val (.int p4), .val (.int p5), .val (.long aa), .second, .val (.long bb), .second, .val (.long cc), .second, .val (.long dd), .second, .val (.long kk), .second, .val (.int (p5 &&& (3 : Int32))), .val (.long cn), .second, .val (.long cd), .second, .val (.int (0 : Int32)), .val (.ref a), .val (.ref b), .val .null, .val (.ref lb), .val (.int (eqv (aa / (gcdL aa bb)) (bb / (gcdL aa bb)) (cn / (gcdL cn cd)) (cd / (gcdL cn cd)))), .val (.int (eqv (cn / (gcdL cn cd)) (cd / (gcdL cn cd)) (aa / (gcdL aa bb)) (bb / (gcdL aa bb)))), .val (.int (eqv (aa / (gcdL aa bb)) (bb / (gcdL aa bb)) (aa / (gcdL aa bb)) (bb / (gcdL aa bb)))), .unset, .unset]) rfl rfl ?_
        refine G.aload X58 hx (pc' := 240) (hb hby at_238) rfl rfl rfl ?_
        refine G.aload X58 hx (pc' := 242) (hb hby at_240) rfl rfl rfl ?_
        refine G.callV X58 hx hZ (y0 := (⟨"com/example/netlocus/netlocus/Fraction", "equals", "(Ljava/lang/Object;)Z"⟩ : MethodName)) (y := (⟨"com/example/netlocus/netlocus/Fraction", "equals", "(Ljava/lang/Object;)Z"⟩ : MethodName)) hown (hw _ (List.mem_of_getElem? (i := 29) rfl)) (hw _ (List.mem_of_getElem? (i := 30) rfl)) (notFace_of_selects (args := #[]) (mvT hZ (hw _ (List.mem_of_getElem? (i := 32) rfl)))) (hw _ (List.mem_of_getElem? (i := 32) rfl)) (hw _ (List.mem_of_getElem? (i := 31) rfl)) (hw _ (List.mem_of_getElem? (i := 3) rfl)) (hw _ (List.mem_of_getElem? (i := 33) rfl)) (by decide) e58 (rm := ({ frames := 0, cells := 0, slots := 0, locals := 0 } : Room)) (argsL := [.null]) (S := []) (W := 0) (a := a) E55_a (rm_eqn l Z a0 hw a T55.heap) (lenOf pd_9 rfl) rfl (Nat.le_of_eq rfl) (by decide) (by decide) (by decide) (by decide) (by rw [hml]; rfl) (hb hby at_242) (pc' := 245) rfl ?_
        rintro T59 _ _ ⟨rfl, e59, rfl⟩ X59
        rw [List.append_nil] at X59
        show Goes p e below T59 (mkF m 245 #[.val (.long q0), .second, .val (.long q1), .second, .val (.long q2), .second, .val (.long q3), .second, .val (.int p4), .val (.int p5), .val (.long aa), .second, .val (.long bb), .second, .val (.long cc), .second, .val (.long dd), .second, .val (.long kk), .second, .val (.int (p5 &&& (3 : Int32))), .val (.long cn), .second, .val (.long cd), .second, .val (.int (0 : Int32)), .val (.ref a), .val (.ref b), .val .null, .val (.ref lb), .val (.int (eqv (aa / (gcdL aa bb)) (bb / (gcdL aa bb)) (cn / (gcdL cn cd)) (cd / (gcdL cn cd)))), .val (.int (eqv (cn / (gcdL cn cd)) (cd / (gcdL cn cd)) (aa / (gcdL aa bb)) (bb / (gcdL aa bb)))), .val (.int (eqv (aa / (gcdL aa bb)) (bb / (gcdL aa bb)) (aa / (gcdL aa bb)) (bb / (gcdL aa bb)))), .unset, .unset] [(.int (0 : Int32))]) _
        refine G.istore X59 hx (pc' := 247) (hb hby at_245) (L' := #[.val (.long q0), .second, .val (.long q1), .second, .val (.long q2), .second, .val (.long q3), .second, .val (.int p4), .val (.int p5), .val (.long aa), .second, .val (.long bb), .second, .val (.long cc), .second, .val (.long dd), .second, .val (.long kk), .second, .val (.int (p5 &&& (3 : Int32))), .val (.long cn), .second, .val (.long cd), .second, .val (.int (0 : Int32)), .val (.ref a), .val (.ref b), .val .null, .val (.ref lb), .val (.int (eqv (aa / (gcdL aa bb)) (bb / (gcdL aa bb)) (cn / (gcdL cn cd)) (cd / (gcdL cn cd)))), .val (.int (eqv (cn / (gcdL cn cd)) (cd / (gcdL cn cd)) (aa / (gcdL aa bb)) (bb / (gcdL aa bb)))), .val (.int (eqv (aa / (gcdL aa bb)) (bb / (gcdL aa bb)) (aa / (gcdL aa bb)) (bb / (gcdL aa bb)))), .val (.int (0 : Int32)), .unset]) rfl rfl ?_
        refine G.aload X59 hx (pc' := 249) (hb hby at_247) rfl rfl rfl ?_
        refine G.aload X59 hx (pc' := 251) (hb hby at_249) rfl rfl rfl ?_
        refine G.callV X59 hx hZ (y0 := (⟨"com/example/netlocus/netlocus/Fraction", "equals", "(Ljava/lang/Object;)Z"⟩ : MethodName)) (y := (⟨"com/example/netlocus/netlocus/Fraction", "equals", "(Ljava/lang/Object;)Z"⟩ : MethodName)) hown (hw _ (List.mem_of_getElem? (i := 29) rfl)) (hw _ (List.mem_of_getElem? (i := 30) rfl)) (notFace_of_selects (args := #[]) (mvT hZ (hw _ (List.mem_of_getElem? (i := 32) rfl)))) (hw _ (List.mem_of_getElem? (i := 32) rfl)) (hw _ (List.mem_of_getElem? (i := 31) rfl)) (hw _ (List.mem_of_getElem? (i := 3) rfl)) (hw _ (List.mem_of_getElem? (i := 33) rfl)) (by decide) e59 (rm := ({ frames := 0, cells := 0, slots := 0, locals := 0 } : Room)) (argsL := [(.ref lb)]) (S := []) (W := 0) (a := a) E55_a (rm_eql l Z a0 hw a lb T55.heap El55) (lenOf pd_9 rfl) rfl (Nat.le_of_eq rfl) (by decide) (by decide) (by decide) (by decide) (by rw [hml]; rfl) (hb hby at_251) (pc' := 254) rfl ?_
        rintro T60 _ _ ⟨rfl, e60, rfl⟩ X60
        rw [List.append_nil] at X60
        show Goes p e below T60 (mkF m 254 #[.val (.long q0), .second, .val (.long q1), .second, .val (.long q2), .second, .val (.long q3), .second, .val (.int p4), .val (.int p5), .val (.long aa), .second, .val (.long bb), .second, .val (.long cc), .second, .val (.long dd), .second, .val (.long kk), .second, .val (.int (p5 &&& (3 : Int32))), .val (.long cn), .second, .val (.long cd), .second, .val (.int (0 : Int32)), .val (.ref a), .val (.ref b), .val .null, .val (.ref lb), .val (.int (eqv (aa / (gcdL aa bb)) (bb / (gcdL aa bb)) (cn / (gcdL cn cd)) (cd / (gcdL cn cd)))), .val (.int (eqv (cn / (gcdL cn cd)) (cd / (gcdL cn cd)) (aa / (gcdL aa bb)) (bb / (gcdL aa bb)))), .val (.int (eqv (aa / (gcdL aa bb)) (bb / (gcdL aa bb)) (aa / (gcdL aa bb)) (bb / (gcdL aa bb)))), .val (.int (0 : Int32)), .unset] [(.int (0 : Int32))]) _
        refine G.istore X60 hx (pc' := 256) (hb hby at_254) (L' := #[.val (.long q0), .second, .val (.long q1), .second, .val (.long q2), .second, .val (.long q3), .second, .val (.int p4), .val (.int p5), .val (.long aa), .second, .val (.long bb), .second, .val (.long cc), .second, .val (.long dd), .second, .val (.long kk), .second, .val (.int (p5 &&& (3 : Int32))), .val (.long cn), .second, .val (.long cd), .second, .val (.int (0 : Int32)), .val (.ref a), .val (.ref b), .val .null, .val (.ref lb), .val (.int (eqv (aa / (gcdL aa bb)) (bb / (gcdL aa bb)) (cn / (gcdL cn cd)) (cd / (gcdL cn cd)))), .val (.int (eqv (cn / (gcdL cn cd)) (cd / (gcdL cn cd)) (aa / (gcdL aa bb)) (bb / (gcdL aa bb)))), .val (.int (eqv (aa / (gcdL aa bb)) (bb / (gcdL aa bb)) (aa / (gcdL aa bb)) (bb / (gcdL aa bb)))), .val (.int (0 : Int32)), .val (.int (0 : Int32))]) rfl rfl ?_
        refine G.iload X60 hx (pc' := 258) (hb hby at_256) rfl rfl ?_
        refine G.iload X60 hx (pc' := 260) (hb hby at_258) rfl rfl ?_
        refine G.icmpF X60 hx (pc' := 263) (hb hby at_260) (Jvm.Free.XT.ii_ne_f (by rw [own_eqv aa bb cn cd hbb hcd, if_neg hcr])) rfl ?_
        refine G.iload X60 hx (pc' := 265) (hb hby at_263) rfl rfl ?_
        refine G.iload X60 hx (pc' := 267) (hb hby at_265) rfl rfl ?_
        refine G.icmpF X60 hx (pc' := 270) (hb hby at_267) (Jvm.Free.XT.ii_ne_f (by rw [own_eqv cn cd aa bb hcd hbb, if_neg (fun q => hcr q.symm)])) rfl ?_
        refine G.iload X60 hx (pc' := 272) (hb hby at_270) rfl rfl ?_
        refine G.ifF X60 hx (pc' := 275) (hb hby at_272) (Jvm.Free.XT.i0_eq_f (by rw [eqv, if_pos ⟨rfl, rfl⟩]; decide)) rfl ?_
        refine G.iload X60 hx (pc' := 277) (hb hby at_275) rfl rfl ?_
        refine G.ifF X60 hx (pc' := 280) (hb hby at_277) (Jvm.Free.XT.i0_ne_f rfl) rfl ?_
        refine G.iload X60 hx (pc' := 282) (hb hby at_280) rfl rfl ?_
        refine G.ifF X60 hx (pc' := 285) (hb hby at_282) (Jvm.Free.XT.i0_ne_f rfl) rfl ?_
        refine G.iconst X60 hx (pc' := 286) (hb hby at_285) (z := (1 : Int32)) rfl rfl ?_
        refine G.goto X60 hx (pc' := 290) (hb hby at_286) (by decide) (by decide) ?_
        refine Goes.retN X60 hx hret (by simp) hlk (hb hby at_290) (by decide) (by decide) ⟨rfl, K55.fr⟩
set_option maxRecDepth 65536 in
set_option maxHeartbeats 40000000 in
theorem comes_1 {Post : Tables → Env → Array Value → State → Outcome → State → Prop} (hpost : ∀ tb e args s v u, (limb_1_1.after args s (.returned v) u = true ∧ limb_1_2.after args s (.returned v) u = true ∧ True) → FrameEnd s (.returned v) u (Jvm.fieldLocs frame_1_writes args s ++ Jvm.arrayLocs frame_1_arrays args s ++ Jvm.staticLocs frame_1_statics s) 16 128 → Post tb e args s (.returned v) u) :
    ArmFor flags0 classFile x code maxLocals ret World_1 tables_1 room_1 Calls_1 rest_1 Pre_1 Post := by
  intro l hfl _ _ p e ha hc hk s m args below hf hA hF happ hP
  obtain ⟨hcalls, hrest, hpre⟩ := hP
  obtain ⟨-, -, -, hnamed, -, -, -, hat⟩ := (Spec.applies_iff hf).mp happ
  obtain ⟨hg, hn⟩ := and_e (Cond.before_iff.mp (show (Jvm.Cond.and given_1 narrow_1).before args s = true from hpre))
  obtain ⟨hg0, hg1⟩ := and_e hg
  obtain ⟨hb1, hg2⟩ := and_e hg1
  obtain ⟨hb2, hg3⟩ := and_e hg2
  obtain ⟨hb3, hg4⟩ := and_e hg3
  obtain ⟨hb4, hg5⟩ := and_e hg4
  obtain ⟨hb5, hg6⟩ := and_e hg5
  obtain ⟨w0, w1, w2, w3, w4, w5, rfl⟩ : ∃ w0 w1 w2 w3 w4 w5 : Value, args = #[w0, w1, w2, w3, w4, w5] := by
    have hs : args.size = 6 := by simpa [Cond.value, given_1] using hg0
    obtain ⟨L⟩ := args
    match L, hs with
    | [w0, w1, w2, w3, w4, w5], _ => exact ⟨w0, w1, w2, w3, w4, w5, rfl⟩
  have hw := fun d (hd : d ∈ tables_1) => atoms_spec (ws := Jvm.Cond.code x code maxLocals ret :: tables_1) hat d (List.mem_cons_of_mem _ hd)
  have hfit : Fit s := fun {y c} hc i hi => by
    obtain ⟨ha, rfl⟩ := Array.getElem?_eq_some_iff.mp hc
    have q := List.all_eq_true.mp ((Array.all_eq_true_iff_forall_mem.mp hF) _ (Array.getElem_mem ha)) i (List.mem_range.mpr hi)
    simpa [Array.getElem?_eq_getElem hi] using q
  obtain ⟨i0, ea0⟩ := isL_v hb1
  obtain rfl : w0 = (.long i0) := Option.some.inj ea0
  obtain ⟨i1, ea1⟩ := isL_v hb2
  obtain rfl : w1 = (.long i1) := Option.some.inj ea1
  obtain ⟨i2, ea2⟩ := isL_v hb3
  obtain rfl : w2 = (.long i2) := Option.some.inj ea2
  obtain ⟨i3, ea3⟩ := isL_v hb4
  obtain rfl : w3 = (.long i3) := Option.some.inj ea3
  obtain ⟨i4, ea4⟩ := is_v hb5
  obtain rfl : w4 = (.int i4) := Option.some.inj ea4
  obtain ⟨i5, ea5⟩ := is_v hg6
  obtain rfl : w5 = (.int i5) := Option.some.inj ea5
  obtain ⟨hsets, -⟩ := atoms_of jdkStatics_1 (show (jdkStatics_1.foldr Jvm.Cond.and restOwn_1).before #[Value.long i0, Value.long i1, Value.long i2, Value.long i3, Value.int i4, Value.int i5] s = true from rest_1_c_eq ▸ hrest)
  have n1 := Cond.before_iff.mp (hsets _ (List.mem_of_getElem? (i := 2) rfl))
  have n2 := Cond.before_iff.mp (hsets _ (List.mem_of_getElem? (i := 4) rfl))
  have n3 := Cond.before_iff.mp (hsets _ (List.mem_of_getElem? (i := 5) rfl))
  obtain ⟨ca, ev⟩ := arr_v n1
  obtain ⟨cl, A⟩ := Arr.start ev n1
  have S0 := Sta.start ev (Or.inl (hsets _ (List.mem_of_getElem? (i := 1) rfl)))
  have hat' := A.fin (Vm.Alike.refl _)
  obtain ⟨xl, yl, el1, el2, -, -⟩ := cmp_v (Or.inl n2)
  have hsz : cl.slots.size < 2 ^ 31 ∧ cl.slots.size.toInt32 = 256 := by
    have q := (own_len_at ev hat' el1)
    exact ⟨q, gotT (Cond.eq_ints (len_f ev hat' q) (Term.int_eval 256)) n2⟩
  have hbx := Bxs.start (fun _ => ev) A hsz.1 hsz.2 (by decide) n3 (val := fun j => .long (j - 128).toInt64) (fun X j nn u => eqv_l (i2l_at (by first | exact (own_subi (idx_at nn) (Term.int_eval 128)) | simp [Term.eval, idx_at nn])) u)
  have hxc : ∀ j : Int32, ¬ j < 0 → j < (256 : Int32) → ∃ b, cl.slots.toList[j.toNatClampNeg]? = some (.ref b) ∧ Exa s s.heap b "java/lang/Long" := by
    intro j hj hj2
    have z : (256 : Int32).toInt = 256 := rfl
    rw [Int32.lt_iff_toInt_lt] at hj2
    have z0 : (0 : Int32).toInt = 0 := rfl
    have hin : ¬ (j < 0 ∨ cl.slots.size ≤ j.toNatClampNeg) := fun q => q.elim hj fun q => by rw [hbx.2.1] at q; simp only [Int32.toNatClampNeg] at q; omega
    obtain ⟨b, g1, g2, -⟩ := hbx.2.2.2 j hin
    exact ⟨b, by rw [Array.getElem?_toList]; exact g1, g2⟩
  obtain ⟨n, o, h1, h2, h3, _, L, rfl, ⟨rfl, N⟩, hq⟩ := rm0 l s _ hw i0 i1 i2 i3 i4 i5 ca cl.slots.toList s.heap S0 ⟨cl, A, rfl, by rw [Array.length_toList]; exact hsz.1⟩ hxc tables_1 p e ha hc hk s m _ below hf ((Spec.applies_iff_loose hf).mp happ).1 ⟨rfl, State.Warmed39.refl s, rfl⟩ trivial
  refine ⟨n, _, h1, h2, h3, hpost _ _ _ _ _ _ ⟨Cond.after_iff.mpr rfl, Cond.after_iff.mpr (eq_i res_at (Term.int_eval (1)) rfl), trivial⟩ ⟨hq.1, hq.2.1, (hq.2.2.sift fun y hy => Or.inr (N y hy)).mono (by decide) (by decide)⟩⟩
theorem main_1_1 : Claimed_1_1 := comes_1 fun _ _ _ _ _ _ h hF => ⟨h.1, hF⟩
theorem main_1_2 : Claimed_1_2 := comes_1 fun _ _ _ _ _ _ h hF => ⟨h.2.1, hF⟩

end Jvm.Pilot.@@N@@
namespace Jvm.Pilot.@@N@@
open Jvm Jvm.ClassFile Sem Op Lib Jvm.Free Jvm.Stand Jvm.Pilot.@@N@@.Jvm.D
/-! MADE BY PROGRAM (witnessworld.py) out of the Statement's table words and the real class files: 17 classes; the members and pool entries that the words name. The judged class is class 1, her method 1. -/
namespace start1
open Jvm.ClassFile
def u (s : String) : CpInfo := .utf8 (stringToUtf16 s)
/-- a pool by its gaps: so many unusable entries, then the entry; so many at the end -/
def gap : Nat → List CpInfo → List CpInfo
  | 0, r => r
  | n + 1, r => .unusable :: gap n r
def poolList (es : List (Nat × CpInfo)) (last : Nat) : List CpInfo := es.foldr (fun e r => gap e.1 (e.2 :: r)) (gap last [])
def pool (es : List (Nat × CpInfo)) (last : Nat) : Array CpInfo := ⟨poolList es last⟩
def fileOf (pool : Array CpInfo) (this : Nat) (attrs : Array Attribute := #[]) (ms : Array MethodInfo := #[]) (fl : Nat := 33) (sup : Nat := 0) (ifs : Array Nat := #[]) (fds : Array FieldInfo := #[]) : ClassFile where
  minorVersion := 0
  majorVersion := 65
  constantPool := pool
  accessFlags := fl
  thisClass := this
  superClass := sup
  interfaces := ifs
  fields := fds
  methods := ms
  attributes := attrs
def plain (name : String) (sup : Option ClassId) : Class where
  name := name
  kind := .ordinary
  loader := none
  accessFlags := 33
  super := sup
  interfaces := #[]
  cf := none
  fields := #[]
  methods := #[]
  instanceTypes := #[]
  staticTypes := #[]
  resolved := #[]
  callSites := []
  init := .initialized
  statics := none
  mirror := none

def pool0 : Array CpInfo := pool [(5, u "<init>"), (0, u "()V"), (1, .class_ 10), (1, u "java/lang/Object")] 113

def k0c0 : Code := { maxStack := 0, maxLocals := 1, code := object_method_1_code, exceptionTable := #[], attributes := #[] }
def k0m0 : Method := { name := "<init>", desc := "()V", sig := { parameters := [], returnType := none }, accessFlags := 1, code := some k0c0 }
/-- java/lang/Object -/
def k0 : Class := { plain "java/lang/Object" none with
  accessFlags := 33
  interfaces := #[]
  cf := some (fileOf pool0 8 #[] #[{ accessFlags := 1, nameIndex := 5, descriptorIndex := 6, attributes := #[] }] 33 0 #[] #[])
  fields := #[]
  methods := #[k0m0]
  instanceTypes := #[]
  staticTypes := #[]
  resolved := Array.replicate 124 none
  statics := none }

def pool1 : Array CpInfo := pool [(2, .class_ 4), (1, u "java/lang/Object"), (0, u "<init>"), (0, u "()V"), (0, .long 2147483647), (1, .class_ 10), (0, u "com/example/netlocus/netlocus/Fraction"), (0, .methodref 9 12), (0, .nameAndType 5 13), (0, u "(JJ)V"), (0, .methodref 15 16), (0, .class_ 17), (0, .nameAndType 18 19), (0, u "java/lang/Long"), (0, u "valueOf"), (0, u "(J)Ljava/lang/Long;"), (0, .methodref 9 21), (0, .nameAndType 22 23), (0, u "equals"), (0, u "(Ljava/lang/Object;)Z"), (0, .class_ 25), (0, u "com/example/netlocus/netlocus/FractionEqualsPinLaw"), (2, u "law"), (0, u "(JJJJII)Z")] 3

def k1m0 : Method := { name := "<init>", desc := "()V", sig := { parameters := [], returnType := none }, accessFlags := 1, code := none }
def k1c1 : Code := { maxStack := 6, maxLocals := 35, code := code, exceptionTable := #[], attributes := #[] }
def k1m1 : Method := { name := "law", desc := "(JJJJII)Z", sig := { parameters := [.long, .long, .long, .long, .int, .int], returnType := some .boolean }, accessFlags := 9, code := some k1c1 }
/-- com/example/netlocus/netlocus/FractionEqualsPinLaw -/
def k1 : Class := { plain "com/example/netlocus/netlocus/FractionEqualsPinLaw" (some 0) with
  accessFlags := 49
  interfaces := #[]
  cf := some (fileOf pool1 24 #[] #[{ accessFlags := 1, nameIndex := 5, descriptorIndex := 6, attributes := #[] }, { accessFlags := 9, nameIndex := 28, descriptorIndex := 29, attributes := #[] }] 49 2 #[] #[])
  fields := #[]
  methods := #[k1m0, k1m1]
  instanceTypes := #[]
  staticTypes := #[]
  resolved := Array.replicate 33 none
  statics := none }

def pool2 : Array CpInfo := pool [(1, .class_ 2), (0, u "java/lang/Comparable"), (0, .class_ 4), (0, u "java/lang/Object")] 7

/-- java/lang/Comparable -/
def k2 : Class := { plain "java/lang/Comparable" (some 0) with
  accessFlags := 1537
  interfaces := #[]
  cf := some (fileOf pool2 1 #[] #[] 1537 3 #[] #[])
  fields := #[]
  methods := #[]
  instanceTypes := #[]
  staticTypes := #[]
  resolved := Array.replicate 12 none
  statics := none }

def pool3 : Array CpInfo := pool [(1, .methodref 2 3), (0, .class_ 4), (0, .nameAndType 5 6), (0, u "java/lang/Object"), (0, u "<init>"), (0, u "()V"), (9, .methodref 17 18), (0, .class_ 19), (0, .nameAndType 20 21), (0, u "com/example/netlocus/netlocus/Fraction"), (0, u "greatestCommonDivisor"), (0, u "(JJ)J"), (0, .fieldref 17 23), (0, .nameAndType 24 25), (0, u "numerator"), (0, u "J"), (0, .fieldref 17 27), (0, .nameAndType 28 25), (0, u "denominator"), (24, .class_ 55), (1, u "java/lang/Math"), (3, u "(JJ)V"), (27, .methodref 53 88), (0, .nameAndType 89 90), (0, u "abs"), (0, u "(J)J"), (4, .class_ 96), (0, u "java/lang/Comparable"), (9, u "equals"), (0, u "(Ljava/lang/Object;)Z")] 27

def k3c0 : Code := { maxStack := 5, maxLocals := 7, code := prog_20_method_1_code, exceptionTable := #[], attributes := #[] }
def k3m0 : Method := { name := "<init>", desc := "(JJ)V", sig := { parameters := [.long, .long], returnType := none }, accessFlags := 1, code := some k3c0 }
def k3c1 : Code := { maxStack := 4, maxLocals := 3, code := prog_20_method_9_code, exceptionTable := #[], attributes := #[] }
def k3m1 : Method := { name := "equals", desc := "(Ljava/lang/Object;)Z", sig := { parameters := [(.object "java/lang/Object")], returnType := some .boolean }, accessFlags := 1, code := some k3c1 }
def k3c2 : Code := { maxStack := 4, maxLocals := 10, code := prog_20_method_12_code, exceptionTable := #[], attributes := #[] }
def k3m2 : Method := { name := "greatestCommonDivisor", desc := "(JJ)J", sig := { parameters := [.long, .long], returnType := some .long }, accessFlags := 8, code := some k3c2 }
/-- com/example/netlocus/netlocus/Fraction -/
def k3 : Class := { plain "com/example/netlocus/netlocus/Fraction" (some 0) with
  accessFlags := 49
  interfaces := #[2]
  cf := some (fileOf pool3 17 #[] #[{ accessFlags := 1, nameIndex := 5, descriptorIndex := 59, attributes := #[] }, { accessFlags := 1, nameIndex := 106, descriptorIndex := 107, attributes := #[] }, { accessFlags := 8, nameIndex := 20, descriptorIndex := 21, attributes := #[] }] 49 2 #[95] #[{ accessFlags := 18, nameIndex := 24, descriptorIndex := 25, attributes := #[] }, { accessFlags := 18, nameIndex := 28, descriptorIndex := 25, attributes := #[] }])
  fields := #[{ name := "numerator", type := .long, accessFlags := 18, slot := 0, constantValue := 0 }, { name := "denominator", type := .long, accessFlags := 18, slot := 1, constantValue := 0 }]
  methods := #[k3m0, k3m1, k3m2]
  instanceTypes := #[.long, .long]
  staticTypes := #[]
  resolved := Array.replicate 135 none
  statics := none }

def pool4 : Array CpInfo := pool [(1, .class_ 2), (0, u "java/lang/Math"), (1, .class_ 6), (1, u "java/lang/Object"), (0, u "<init>"), (0, u "()V"), (89, .class_ 100), (1, u "java/lang/Math$RandomNumberGeneratorHolder"), (23, u "abs"), (0, u "(J)J"), (46, u "negativeZeroFloatBits"), (0, u "J"), (2, u "negativeZeroDoubleBits"), (68, u "$assertionsDisabled"), (0, u "Z"), (91, u "twoToTheDoubleScaleDown"), (0, u "D"), (4, u "twoToTheDoubleScaleUp"), (9, u "E"), (3, u "PI"), (2, u "TAU"), (2, u "DEGREES_TO_RADIANS"), (0, u "RADIANS_TO_DEGREES")] 94

def k4m0 : Method := { name := "<init>", desc := "()V", sig := { parameters := [], returnType := none }, accessFlags := 2, code := none }
def k4c1 : Code := { maxStack := 4, maxLocals := 2, code := jdk_29_method_61_code, exceptionTable := #[], attributes := #[] }
def k4m1 : Method := { name := "abs", desc := "(J)J", sig := { parameters := [.long], returnType := some .long }, accessFlags := 9, code := some k4c1 }
/-- java/lang/Math -/
def k4 : Class := { plain "java/lang/Math" (some 0) with
  accessFlags := 49
  interfaces := #[]
  cf := some (fileOf pool4 1 #[.nestMembers #[98]] #[{ accessFlags := 2, nameIndex := 7, descriptorIndex := 8, attributes := #[] }, { accessFlags := 9, nameIndex := 124, descriptorIndex := 125, attributes := #[] }] 49 4 #[] #[{ accessFlags := 25, nameIndex := 354, descriptorIndex := 339, attributes := #[] }, { accessFlags := 25, nameIndex := 358, descriptorIndex := 339, attributes := #[] }, { accessFlags := 25, nameIndex := 361, descriptorIndex := 339, attributes := #[] }, { accessFlags := 26, nameIndex := 364, descriptorIndex := 339, attributes := #[] }, { accessFlags := 26, nameIndex := 365, descriptorIndex := 339, attributes := #[] }, { accessFlags := 26, nameIndex := 172, descriptorIndex := 173, attributes := #[] }, { accessFlags := 26, nameIndex := 176, descriptorIndex := 173, attributes := #[] }, { accessFlags := 8, nameIndex := 344, descriptorIndex := 339, attributes := #[] }, { accessFlags := 8, nameIndex := 338, descriptorIndex := 339, attributes := #[] }, { accessFlags := 4120, nameIndex := 245, descriptorIndex := 246, attributes := #[] }])
  fields := #[{ name := "E", type := .double, accessFlags := 25, slot := 0, constantValue := 0 }, { name := "PI", type := .double, accessFlags := 25, slot := 1, constantValue := 0 }, { name := "TAU", type := .double, accessFlags := 25, slot := 2, constantValue := 0 }, { name := "DEGREES_TO_RADIANS", type := .double, accessFlags := 26, slot := 3, constantValue := 0 }, { name := "RADIANS_TO_DEGREES", type := .double, accessFlags := 26, slot := 4, constantValue := 0 }, { name := "negativeZeroFloatBits", type := .long, accessFlags := 26, slot := 5, constantValue := 0 }, { name := "negativeZeroDoubleBits", type := .long, accessFlags := 26, slot := 6, constantValue := 0 }, { name := "twoToTheDoubleScaleUp", type := .double, accessFlags := 8, slot := 7, constantValue := 0 }, { name := "twoToTheDoubleScaleDown", type := .double, accessFlags := 8, slot := 8, constantValue := 0 }, { name := "$assertionsDisabled", type := .boolean, accessFlags := 4120, slot := 9, constantValue := 0 }]
  methods := #[k4m0, k4m1]
  instanceTypes := #[]
  staticTypes := #[.double, .double, .double, .double, .double, .long, .long, .double, .double, .boolean]
  resolved := Array.replicate 460 none
  statics := none }

def pool5 : Array CpInfo := pool [(1, .class_ 2), (0, u "java/io/Serializable"), (0, .class_ 4), (0, u "java/lang/Object")] 2

/-- java/io/Serializable -/
def k5 : Class := { plain "java/io/Serializable" (some 0) with
  accessFlags := 1537
  interfaces := #[]
  cf := some (fileOf pool5 1 #[] #[] 1537 3 #[] #[])
  fields := #[]
  methods := #[]
  instanceTypes := #[]
  staticTypes := #[]
  resolved := Array.replicate 7 none
  statics := none }

def pool6 : Array CpInfo := pool [(1, .methodref 2 3), (0, .class_ 4), (0, .nameAndType 5 6), (0, u "java/lang/Object"), (0, u "<init>"), (0, u "()V"), (1, .class_ 10), (1, u "java/lang/Number"), (2, .class_ 14), (0, u "java/io/Serializable"), (0, u "serialVersionUID"), (0, u "J")] 20

def k6c0 : Code := { maxStack := 1, maxLocals := 1, code := jdk_18_method_1_code, exceptionTable := #[], attributes := #[] }
def k6m0 : Method := { name := "<init>", desc := "()V", sig := { parameters := [], returnType := none }, accessFlags := 1, code := some k6c0 }
/-- java/lang/Number -/
def k6 : Class := { plain "java/lang/Number" (some 0) with
  accessFlags := 1057
  interfaces := #[5]
  cf := some (fileOf pool6 8 #[] #[{ accessFlags := 1, nameIndex := 5, descriptorIndex := 6, attributes := #[] }] 1057 2 #[13] #[{ accessFlags := 26, nameIndex := 15, descriptorIndex := 16, attributes := #[] }])
  fields := #[{ name := "serialVersionUID", type := .long, accessFlags := 26, slot := 0, constantValue := 0 }]
  methods := #[k6m0]
  instanceTypes := #[]
  staticTypes := #[.long]
  resolved := Array.replicate 37 none
  statics := none }

def pool7 : Array CpInfo := pool [(1, .class_ 2), (0, u "java/lang/constant/Constable"), (0, .class_ 4), (0, u "java/lang/Object")] 6

/-- java/lang/constant/Constable -/
def k7 : Class := { plain "java/lang/constant/Constable" (some 0) with
  accessFlags := 1537
  interfaces := #[]
  cf := some (fileOf pool7 1 #[] #[] 1537 3 #[] #[])
  fields := #[]
  methods := #[]
  instanceTypes := #[]
  staticTypes := #[]
  resolved := Array.replicate 11 none
  statics := none }

def pool8 : Array CpInfo := pool [(1, .class_ 2), (0, u "java/lang/constant/ConstantDesc"), (0, .class_ 4), (0, u "java/lang/Object")] 32

/-- java/lang/constant/ConstantDesc -/
def k8 : Class := { plain "java/lang/constant/ConstantDesc" (some 0) with
  accessFlags := 1537
  interfaces := #[]
  cf := some (fileOf pool8 1 #[] #[] 1537 3 #[] #[])
  fields := #[]
  methods := #[]
  instanceTypes := #[]
  staticTypes := #[]
  resolved := Array.replicate 37 none
  statics := none }

def pool9 : Array CpInfo := pool [(1, .class_ 2), (0, u "java/lang/Long"), (55, .nameAndType 59 60), (0, u "<init>"), (0, u "()V"), (24, u "valueOf"), (143, u "(J)Ljava/lang/Long;"), (0, .long 18446744073709551488), (1, .long 127), (1, .fieldref 235 236), (0, .class_ 237), (0, .nameAndType 238 239), (0, u "java/lang/Long$LongCache"), (0, u "cache"), (0, u "[Ljava/lang/Long;"), (0, .methodref 1 241), (0, .nameAndType 59 242), (0, u "(J)V"), (27, .methodref 271 58), (0, .class_ 272), (0, u "java/lang/Number"), (0, .fieldref 1 274), (0, .nameAndType 275 276), (0, u "value"), (0, u "J"), (84, u "TYPE"), (0, u "Ljava/lang/Class;"), (0, .class_ 364), (0, u "java/lang/Comparable"), (0, .class_ 366), (0, u "java/lang/constant/Constable"), (0, .class_ 368), (0, u "java/lang/constant/ConstantDesc"), (0, u "MIN_VALUE"), (1, u "MAX_VALUE"), (4, u "SIZE"), (0, u "I"), (1, u "BYTES"), (1, u "serialVersionUID")] 142

def k9c0 : Code := { maxStack := 4, maxLocals := 3, code := jdk_35_method_24_code, exceptionTable := #[], attributes := #[] }
def k9m0 : Method := { name := "valueOf", desc := "(J)Ljava/lang/Long;", sig := { parameters := [.long], returnType := some (.object "java/lang/Long") }, accessFlags := 9, code := some k9c0 }
def k9c1 : Code := { maxStack := 3, maxLocals := 3, code := jdk_35_method_26_code, exceptionTable := #[], attributes := #[] }
def k9m1 : Method := { name := "<init>", desc := "(J)V", sig := { parameters := [.long], returnType := none }, accessFlags := 1, code := some k9c1 }
/-- java/lang/Long -/
def k9 : Class := { plain "java/lang/Long" (some 6) with
  accessFlags := 49
  interfaces := #[2, 7, 8]
  cf := some (fileOf pool9 1 #[.nestMembers #[235]] #[{ accessFlags := 9, nameIndex := 85, descriptorIndex := 229, attributes := #[] }, { accessFlags := 1, nameIndex := 59, descriptorIndex := 242, attributes := #[] }] 49 271 #[363, 365, 367] #[{ accessFlags := 25, nameIndex := 369, descriptorIndex := 276, attributes := #[] }, { accessFlags := 25, nameIndex := 371, descriptorIndex := 276, attributes := #[] }, { accessFlags := 25, nameIndex := 361, descriptorIndex := 362, attributes := #[] }, { accessFlags := 18, nameIndex := 275, descriptorIndex := 276, attributes := #[] }, { accessFlags := 25, nameIndex := 376, descriptorIndex := 377, attributes := #[] }, { accessFlags := 25, nameIndex := 379, descriptorIndex := 377, attributes := #[] }, { accessFlags := 26, nameIndex := 381, descriptorIndex := 276, attributes := #[] }])
  fields := #[{ name := "MIN_VALUE", type := .long, accessFlags := 25, slot := 0, constantValue := 0 }, { name := "MAX_VALUE", type := .long, accessFlags := 25, slot := 1, constantValue := 0 }, { name := "TYPE", type := (.object "java/lang/Class"), accessFlags := 25, slot := 2, constantValue := 0 }, { name := "value", type := .long, accessFlags := 18, slot := 0, constantValue := 0 }, { name := "SIZE", type := .int, accessFlags := 25, slot := 3, constantValue := 0 }, { name := "BYTES", type := .int, accessFlags := 25, slot := 4, constantValue := 0 }, { name := "serialVersionUID", type := .long, accessFlags := 26, slot := 5, constantValue := 0 }]
  methods := #[k9m0, k9m1]
  instanceTypes := #[.long]
  staticTypes := #[.long, .long, (.object "java/lang/Class"), .int, .int, .long]
  resolved := Array.replicate 524 none
  statics := none }

def pool10 : Array CpInfo := pool [(2, .class_ 4), (1, u "java/lang/Object"), (0, u "<init>"), (0, u "()V"), (0, .class_ 8), (0, u "java/lang/Long"), (7, .class_ 18), (1, u "java/lang/Long$LongCache"), (0, u "$assertionsDisabled"), (0, u "Z"), (8, u "archivedCache"), (0, u "[Ljava/lang/Long;"), (7, u "cache")] 24

def k10m0 : Method := { name := "<init>", desc := "()V", sig := { parameters := [], returnType := none }, accessFlags := 2, code := none }
/-- java/lang/Long$LongCache -/
def k10 : Class := { plain "java/lang/Long$LongCache" (some 0) with
  accessFlags := 48
  interfaces := #[]
  cf := some (fileOf pool10 16 #[.nestHost 7] #[{ accessFlags := 2, nameIndex := 5, descriptorIndex := 6, attributes := #[] }] 48 2 #[] #[{ accessFlags := 24, nameIndex := 38, descriptorIndex := 30, attributes := #[] }, { accessFlags := 8, nameIndex := 29, descriptorIndex := 30, attributes := #[] }, { accessFlags := 4120, nameIndex := 19, descriptorIndex := 20, attributes := #[] }])
  fields := #[{ name := "cache", type := (.array (.object "java/lang/Long")), accessFlags := 24, slot := 0, constantValue := 0 }, { name := "archivedCache", type := (.array (.object "java/lang/Long")), accessFlags := 8, slot := 1, constantValue := 0 }, { name := "$assertionsDisabled", type := .boolean, accessFlags := 4120, slot := 2, constantValue := 0 }]
  methods := #[k10m0]
  instanceTypes := #[]
  staticTypes := #[(.array (.object "java/lang/Long")), (.array (.object "java/lang/Long")), .boolean]
  resolved := Array.replicate 63 none
  statics := some 0 }

def pool11 : Array CpInfo := pool [(1, u "java/lang/Cloneable"), (0, .class_ 1), (0, u "java/lang/Object"), (0, .class_ 3)] 3

/-- java/lang/Cloneable -/
def k11 : Class := { plain "java/lang/Cloneable" (some 0) with
  accessFlags := 1537
  interfaces := #[]
  cf := some (fileOf pool11 2 #[] #[] 1537 4 #[] #[])
  fields := #[]
  methods := #[]
  instanceTypes := #[]
  staticTypes := #[]
  resolved := Array.replicate 8 none
  statics := none }

/-- the primitive byte -/
def k12 : Class := { plain "byte" none with kind := .primitive 'B', accessFlags := 0x411 }
/-- [B -/
def k13 : Class := { plain "[B" (some 0) with kind := .array 12 .byte, interfaces := #[11, 5], accessFlags := 1041 }

/-- the primitive int -/
def k14 : Class := { plain "int" none with kind := .primitive 'I', accessFlags := 0x411 }
/-- [I -/
def k15 : Class := { plain "[I" (some 0) with kind := .array 14 .int, interfaces := #[11, 5], accessFlags := 1041 }

/-- [Ljava/lang/Long; -/
def k16 : Class := { plain "[Ljava/lang/Long;" (some 0) with kind := .array 9 (.object "java/lang/Long"), interfaces := #[11, 5], accessFlags := 1041 }

def heap : Heap := #[{ cls := 10, slots := #[.ref 1, .null, .int 0], vm := .statics 10 },
  { cls := 16, slots := #[.ref 2, .ref 3, .ref 4, .ref 5, .ref 6, .ref 7, .ref 8, .ref 9, .ref 10, .ref 11, .ref 12, .ref 13, .ref 14, .ref 15, .ref 16, .ref 17, .ref 18, .ref 19, .ref 20, .ref 21, .ref 22, .ref 23, .ref 24, .ref 25, .ref 26, .ref 27, .ref 28, .ref 29, .ref 30, .ref 31, .ref 32, .ref 33, .ref 34, .ref 35, .ref 36, .ref 37, .ref 38, .ref 39, .ref 40, .ref 41, .ref 42, .ref 43, .ref 44, .ref 45, .ref 46, .ref 47, .ref 48, .ref 49, .ref 50, .ref 51, .ref 52, .ref 53, .ref 54, .ref 55, .ref 56, .ref 57, .ref 58, .ref 59, .ref 60, .ref 61, .ref 62, .ref 63, .ref 64, .ref 65, .ref 66, .ref 67, .ref 68, .ref 69, .ref 70, .ref 71, .ref 72, .ref 73, .ref 74, .ref 75, .ref 76, .ref 77, .ref 78, .ref 79, .ref 80, .ref 81, .ref 82, .ref 83, .ref 84, .ref 85, .ref 86, .ref 87, .ref 88, .ref 89, .ref 90, .ref 91, .ref 92, .ref 93, .ref 94, .ref 95, .ref 96, .ref 97, .ref 98, .ref 99, .ref 100, .ref 101, .ref 102, .ref 103, .ref 104, .ref 105, .ref 106, .ref 107, .ref 108, .ref 109, .ref 110, .ref 111, .ref 112, .ref 113, .ref 114, .ref 115, .ref 116, .ref 117, .ref 118, .ref 119, .ref 120, .ref 121, .ref 122, .ref 123, .ref 124, .ref 125, .ref 126, .ref 127, .ref 128, .ref 129, .ref 130, .ref 131, .ref 132, .ref 133, .ref 134, .ref 135, .ref 136, .ref 137, .ref 138, .ref 139, .ref 140, .ref 141, .ref 142, .ref 143, .ref 144, .ref 145, .ref 146, .ref 147, .ref 148, .ref 149, .ref 150, .ref 151, .ref 152, .ref 153, .ref 154, .ref 155, .ref 156, .ref 157, .ref 158, .ref 159, .ref 160, .ref 161, .ref 162, .ref 163, .ref 164, .ref 165, .ref 166, .ref 167, .ref 168, .ref 169, .ref 170, .ref 171, .ref 172, .ref 173, .ref 174, .ref 175, .ref 176, .ref 177, .ref 178, .ref 179, .ref 180, .ref 181, .ref 182, .ref 183, .ref 184, .ref 185, .ref 186, .ref 187, .ref 188, .ref 189, .ref 190, .ref 191, .ref 192, .ref 193, .ref 194, .ref 195, .ref 196, .ref 197, .ref 198, .ref 199, .ref 200, .ref 201, .ref 202, .ref 203, .ref 204, .ref 205, .ref 206, .ref 207, .ref 208, .ref 209, .ref 210, .ref 211, .ref 212, .ref 213, .ref 214, .ref 215, .ref 216, .ref 217, .ref 218, .ref 219, .ref 220, .ref 221, .ref 222, .ref 223, .ref 224, .ref 225, .ref 226, .ref 227, .ref 228, .ref 229, .ref 230, .ref 231, .ref 232, .ref 233, .ref 234, .ref 235, .ref 236, .ref 237, .ref 238, .ref 239, .ref 240, .ref 241, .ref 242, .ref 243, .ref 244, .ref 245, .ref 246, .ref 247, .ref 248, .ref 249, .ref 250, .ref 251, .ref 252, .ref 253, .ref 254, .ref 255, .ref 256, .ref 257], vm := .none },
  { cls := 9, slots := #[.long (-128)], vm := .none },
  { cls := 9, slots := #[.long (-127)], vm := .none },
  { cls := 9, slots := #[.long (-126)], vm := .none },
  { cls := 9, slots := #[.long (-125)], vm := .none },
  { cls := 9, slots := #[.long (-124)], vm := .none },
  { cls := 9, slots := #[.long (-123)], vm := .none },
  { cls := 9, slots := #[.long (-122)], vm := .none },
  { cls := 9, slots := #[.long (-121)], vm := .none },
  { cls := 9, slots := #[.long (-120)], vm := .none },
  { cls := 9, slots := #[.long (-119)], vm := .none },
  { cls := 9, slots := #[.long (-118)], vm := .none },
  { cls := 9, slots := #[.long (-117)], vm := .none },
  { cls := 9, slots := #[.long (-116)], vm := .none },
  { cls := 9, slots := #[.long (-115)], vm := .none },
  { cls := 9, slots := #[.long (-114)], vm := .none },
  { cls := 9, slots := #[.long (-113)], vm := .none },
  { cls := 9, slots := #[.long (-112)], vm := .none },
  { cls := 9, slots := #[.long (-111)], vm := .none },
  { cls := 9, slots := #[.long (-110)], vm := .none },
  { cls := 9, slots := #[.long (-109)], vm := .none },
  { cls := 9, slots := #[.long (-108)], vm := .none },
  { cls := 9, slots := #[.long (-107)], vm := .none },
  { cls := 9, slots := #[.long (-106)], vm := .none },
  { cls := 9, slots := #[.long (-105)], vm := .none },
  { cls := 9, slots := #[.long (-104)], vm := .none },
  { cls := 9, slots := #[.long (-103)], vm := .none },
  { cls := 9, slots := #[.long (-102)], vm := .none },
  { cls := 9, slots := #[.long (-101)], vm := .none },
  { cls := 9, slots := #[.long (-100)], vm := .none },
  { cls := 9, slots := #[.long (-99)], vm := .none },
  { cls := 9, slots := #[.long (-98)], vm := .none },
  { cls := 9, slots := #[.long (-97)], vm := .none },
  { cls := 9, slots := #[.long (-96)], vm := .none },
  { cls := 9, slots := #[.long (-95)], vm := .none },
  { cls := 9, slots := #[.long (-94)], vm := .none },
  { cls := 9, slots := #[.long (-93)], vm := .none },
  { cls := 9, slots := #[.long (-92)], vm := .none },
  { cls := 9, slots := #[.long (-91)], vm := .none },
  { cls := 9, slots := #[.long (-90)], vm := .none },
  { cls := 9, slots := #[.long (-89)], vm := .none },
  { cls := 9, slots := #[.long (-88)], vm := .none },
  { cls := 9, slots := #[.long (-87)], vm := .none },
  { cls := 9, slots := #[.long (-86)], vm := .none },
  { cls := 9, slots := #[.long (-85)], vm := .none },
  { cls := 9, slots := #[.long (-84)], vm := .none },
  { cls := 9, slots := #[.long (-83)], vm := .none },
  { cls := 9, slots := #[.long (-82)], vm := .none },
  { cls := 9, slots := #[.long (-81)], vm := .none },
  { cls := 9, slots := #[.long (-80)], vm := .none },
  { cls := 9, slots := #[.long (-79)], vm := .none },
  { cls := 9, slots := #[.long (-78)], vm := .none },
  { cls := 9, slots := #[.long (-77)], vm := .none },
  { cls := 9, slots := #[.long (-76)], vm := .none },
  { cls := 9, slots := #[.long (-75)], vm := .none },
  { cls := 9, slots := #[.long (-74)], vm := .none },
  { cls := 9, slots := #[.long (-73)], vm := .none },
  { cls := 9, slots := #[.long (-72)], vm := .none },
  { cls := 9, slots := #[.long (-71)], vm := .none },
  { cls := 9, slots := #[.long (-70)], vm := .none },
  { cls := 9, slots := #[.long (-69)], vm := .none },
  { cls := 9, slots := #[.long (-68)], vm := .none },
  { cls := 9, slots := #[.long (-67)], vm := .none },
  { cls := 9, slots := #[.long (-66)], vm := .none },
  { cls := 9, slots := #[.long (-65)], vm := .none },
  { cls := 9, slots := #[.long (-64)], vm := .none },
  { cls := 9, slots := #[.long (-63)], vm := .none },
  { cls := 9, slots := #[.long (-62)], vm := .none },
  { cls := 9, slots := #[.long (-61)], vm := .none },
  { cls := 9, slots := #[.long (-60)], vm := .none },
  { cls := 9, slots := #[.long (-59)], vm := .none },
  { cls := 9, slots := #[.long (-58)], vm := .none },
  { cls := 9, slots := #[.long (-57)], vm := .none },
  { cls := 9, slots := #[.long (-56)], vm := .none },
  { cls := 9, slots := #[.long (-55)], vm := .none },
  { cls := 9, slots := #[.long (-54)], vm := .none },
  { cls := 9, slots := #[.long (-53)], vm := .none },
  { cls := 9, slots := #[.long (-52)], vm := .none },
  { cls := 9, slots := #[.long (-51)], vm := .none },
  { cls := 9, slots := #[.long (-50)], vm := .none },
  { cls := 9, slots := #[.long (-49)], vm := .none },
  { cls := 9, slots := #[.long (-48)], vm := .none },
  { cls := 9, slots := #[.long (-47)], vm := .none },
  { cls := 9, slots := #[.long (-46)], vm := .none },
  { cls := 9, slots := #[.long (-45)], vm := .none },
  { cls := 9, slots := #[.long (-44)], vm := .none },
  { cls := 9, slots := #[.long (-43)], vm := .none },
  { cls := 9, slots := #[.long (-42)], vm := .none },
  { cls := 9, slots := #[.long (-41)], vm := .none },
  { cls := 9, slots := #[.long (-40)], vm := .none },
  { cls := 9, slots := #[.long (-39)], vm := .none },
  { cls := 9, slots := #[.long (-38)], vm := .none },
  { cls := 9, slots := #[.long (-37)], vm := .none },
  { cls := 9, slots := #[.long (-36)], vm := .none },
  { cls := 9, slots := #[.long (-35)], vm := .none },
  { cls := 9, slots := #[.long (-34)], vm := .none },
  { cls := 9, slots := #[.long (-33)], vm := .none },
  { cls := 9, slots := #[.long (-32)], vm := .none },
  { cls := 9, slots := #[.long (-31)], vm := .none },
  { cls := 9, slots := #[.long (-30)], vm := .none },
  { cls := 9, slots := #[.long (-29)], vm := .none },
  { cls := 9, slots := #[.long (-28)], vm := .none },
  { cls := 9, slots := #[.long (-27)], vm := .none },
  { cls := 9, slots := #[.long (-26)], vm := .none },
  { cls := 9, slots := #[.long (-25)], vm := .none },
  { cls := 9, slots := #[.long (-24)], vm := .none },
  { cls := 9, slots := #[.long (-23)], vm := .none },
  { cls := 9, slots := #[.long (-22)], vm := .none },
  { cls := 9, slots := #[.long (-21)], vm := .none },
  { cls := 9, slots := #[.long (-20)], vm := .none },
  { cls := 9, slots := #[.long (-19)], vm := .none },
  { cls := 9, slots := #[.long (-18)], vm := .none },
  { cls := 9, slots := #[.long (-17)], vm := .none },
  { cls := 9, slots := #[.long (-16)], vm := .none },
  { cls := 9, slots := #[.long (-15)], vm := .none },
  { cls := 9, slots := #[.long (-14)], vm := .none },
  { cls := 9, slots := #[.long (-13)], vm := .none },
  { cls := 9, slots := #[.long (-12)], vm := .none },
  { cls := 9, slots := #[.long (-11)], vm := .none },
  { cls := 9, slots := #[.long (-10)], vm := .none },
  { cls := 9, slots := #[.long (-9)], vm := .none },
  { cls := 9, slots := #[.long (-8)], vm := .none },
  { cls := 9, slots := #[.long (-7)], vm := .none },
  { cls := 9, slots := #[.long (-6)], vm := .none },
  { cls := 9, slots := #[.long (-5)], vm := .none },
  { cls := 9, slots := #[.long (-4)], vm := .none },
  { cls := 9, slots := #[.long (-3)], vm := .none },
  { cls := 9, slots := #[.long (-2)], vm := .none },
  { cls := 9, slots := #[.long (-1)], vm := .none },
  { cls := 9, slots := #[.long 0], vm := .none },
  { cls := 9, slots := #[.long 1], vm := .none },
  { cls := 9, slots := #[.long 2], vm := .none },
  { cls := 9, slots := #[.long 3], vm := .none },
  { cls := 9, slots := #[.long 4], vm := .none },
  { cls := 9, slots := #[.long 5], vm := .none },
  { cls := 9, slots := #[.long 6], vm := .none },
  { cls := 9, slots := #[.long 7], vm := .none },
  { cls := 9, slots := #[.long 8], vm := .none },
  { cls := 9, slots := #[.long 9], vm := .none },
  { cls := 9, slots := #[.long 10], vm := .none },
  { cls := 9, slots := #[.long 11], vm := .none },
  { cls := 9, slots := #[.long 12], vm := .none },
  { cls := 9, slots := #[.long 13], vm := .none },
  { cls := 9, slots := #[.long 14], vm := .none },
  { cls := 9, slots := #[.long 15], vm := .none },
  { cls := 9, slots := #[.long 16], vm := .none },
  { cls := 9, slots := #[.long 17], vm := .none },
  { cls := 9, slots := #[.long 18], vm := .none },
  { cls := 9, slots := #[.long 19], vm := .none },
  { cls := 9, slots := #[.long 20], vm := .none },
  { cls := 9, slots := #[.long 21], vm := .none },
  { cls := 9, slots := #[.long 22], vm := .none },
  { cls := 9, slots := #[.long 23], vm := .none },
  { cls := 9, slots := #[.long 24], vm := .none },
  { cls := 9, slots := #[.long 25], vm := .none },
  { cls := 9, slots := #[.long 26], vm := .none },
  { cls := 9, slots := #[.long 27], vm := .none },
  { cls := 9, slots := #[.long 28], vm := .none },
  { cls := 9, slots := #[.long 29], vm := .none },
  { cls := 9, slots := #[.long 30], vm := .none },
  { cls := 9, slots := #[.long 31], vm := .none },
  { cls := 9, slots := #[.long 32], vm := .none },
  { cls := 9, slots := #[.long 33], vm := .none },
  { cls := 9, slots := #[.long 34], vm := .none },
  { cls := 9, slots := #[.long 35], vm := .none },
  { cls := 9, slots := #[.long 36], vm := .none },
  { cls := 9, slots := #[.long 37], vm := .none },
  { cls := 9, slots := #[.long 38], vm := .none },
  { cls := 9, slots := #[.long 39], vm := .none },
  { cls := 9, slots := #[.long 40], vm := .none },
  { cls := 9, slots := #[.long 41], vm := .none },
  { cls := 9, slots := #[.long 42], vm := .none },
  { cls := 9, slots := #[.long 43], vm := .none },
  { cls := 9, slots := #[.long 44], vm := .none },
  { cls := 9, slots := #[.long 45], vm := .none },
  { cls := 9, slots := #[.long 46], vm := .none },
  { cls := 9, slots := #[.long 47], vm := .none },
  { cls := 9, slots := #[.long 48], vm := .none },
  { cls := 9, slots := #[.long 49], vm := .none },
  { cls := 9, slots := #[.long 50], vm := .none },
  { cls := 9, slots := #[.long 51], vm := .none },
  { cls := 9, slots := #[.long 52], vm := .none },
  { cls := 9, slots := #[.long 53], vm := .none },
  { cls := 9, slots := #[.long 54], vm := .none },
  { cls := 9, slots := #[.long 55], vm := .none },
  { cls := 9, slots := #[.long 56], vm := .none },
  { cls := 9, slots := #[.long 57], vm := .none },
  { cls := 9, slots := #[.long 58], vm := .none },
  { cls := 9, slots := #[.long 59], vm := .none },
  { cls := 9, slots := #[.long 60], vm := .none },
  { cls := 9, slots := #[.long 61], vm := .none },
  { cls := 9, slots := #[.long 62], vm := .none },
  { cls := 9, slots := #[.long 63], vm := .none },
  { cls := 9, slots := #[.long 64], vm := .none },
  { cls := 9, slots := #[.long 65], vm := .none },
  { cls := 9, slots := #[.long 66], vm := .none },
  { cls := 9, slots := #[.long 67], vm := .none },
  { cls := 9, slots := #[.long 68], vm := .none },
  { cls := 9, slots := #[.long 69], vm := .none },
  { cls := 9, slots := #[.long 70], vm := .none },
  { cls := 9, slots := #[.long 71], vm := .none },
  { cls := 9, slots := #[.long 72], vm := .none },
  { cls := 9, slots := #[.long 73], vm := .none },
  { cls := 9, slots := #[.long 74], vm := .none },
  { cls := 9, slots := #[.long 75], vm := .none },
  { cls := 9, slots := #[.long 76], vm := .none },
  { cls := 9, slots := #[.long 77], vm := .none },
  { cls := 9, slots := #[.long 78], vm := .none },
  { cls := 9, slots := #[.long 79], vm := .none },
  { cls := 9, slots := #[.long 80], vm := .none },
  { cls := 9, slots := #[.long 81], vm := .none },
  { cls := 9, slots := #[.long 82], vm := .none },
  { cls := 9, slots := #[.long 83], vm := .none },
  { cls := 9, slots := #[.long 84], vm := .none },
  { cls := 9, slots := #[.long 85], vm := .none },
  { cls := 9, slots := #[.long 86], vm := .none },
  { cls := 9, slots := #[.long 87], vm := .none },
  { cls := 9, slots := #[.long 88], vm := .none },
  { cls := 9, slots := #[.long 89], vm := .none },
  { cls := 9, slots := #[.long 90], vm := .none },
  { cls := 9, slots := #[.long 91], vm := .none },
  { cls := 9, slots := #[.long 92], vm := .none },
  { cls := 9, slots := #[.long 93], vm := .none },
  { cls := 9, slots := #[.long 94], vm := .none },
  { cls := 9, slots := #[.long 95], vm := .none },
  { cls := 9, slots := #[.long 96], vm := .none },
  { cls := 9, slots := #[.long 97], vm := .none },
  { cls := 9, slots := #[.long 98], vm := .none },
  { cls := 9, slots := #[.long 99], vm := .none },
  { cls := 9, slots := #[.long 100], vm := .none },
  { cls := 9, slots := #[.long 101], vm := .none },
  { cls := 9, slots := #[.long 102], vm := .none },
  { cls := 9, slots := #[.long 103], vm := .none },
  { cls := 9, slots := #[.long 104], vm := .none },
  { cls := 9, slots := #[.long 105], vm := .none },
  { cls := 9, slots := #[.long 106], vm := .none },
  { cls := 9, slots := #[.long 107], vm := .none },
  { cls := 9, slots := #[.long 108], vm := .none },
  { cls := 9, slots := #[.long 109], vm := .none },
  { cls := 9, slots := #[.long 110], vm := .none },
  { cls := 9, slots := #[.long 111], vm := .none },
  { cls := 9, slots := #[.long 112], vm := .none },
  { cls := 9, slots := #[.long 113], vm := .none },
  { cls := 9, slots := #[.long 114], vm := .none },
  { cls := 9, slots := #[.long 115], vm := .none },
  { cls := 9, slots := #[.long 116], vm := .none },
  { cls := 9, slots := #[.long 117], vm := .none },
  { cls := 9, slots := #[.long 118], vm := .none },
  { cls := 9, slots := #[.long 119], vm := .none },
  { cls := 9, slots := #[.long 120], vm := .none },
  { cls := 9, slots := #[.long 121], vm := .none },
  { cls := 9, slots := #[.long 122], vm := .none },
  { cls := 9, slots := #[.long 123], vm := .none },
  { cls := 9, slots := #[.long 124], vm := .none },
  { cls := 9, slots := #[.long 125], vm := .none },
  { cls := 9, slots := #[.long 126], vm := .none },
  { cls := 9, slots := #[.long 127], vm := .none }]
def classes : Array Class := #[k0, k1, k2, k3, k4, k5, k6, k7, k8, k9, k10, k11, k12, k13, k14, k15, k16]
def interned : List (Array UInt16 × Addr) := []
def slotsUsed : Nat := 515
def theMethod : MethodId := ⟨1, 1⟩
def args0 : Array Value := #[.long 1, .long 2, .long 3, .long 4, .int 2, .int 2]
def aboutOver (below : List Frame) : State where
  vm := { classes := classes, interned := interned.toArray }
  heap := heap
  slotsUsed := slotsUsed
  threads := #[{ frames := .invoking theMethod args0 :: below }]
def below0 : List Frame := [.native { method := ⟨0, 0⟩, args := #[] }]
def about1 : State := aboutOver below0
def p0 : Program := .bare "" "" ""
def e0 : Env := launch0.env 0 0 0
theorem w_frames : about1.frames = Frame.invoking theMethod args0 :: below0 := rfl
set_option maxRecDepth 65536 in
theorem w_args : argsFit about1.vm theMethod args0 = true := by decide +kernel
set_option maxRecDepth 65536 in
theorem w_heap : heapFits about1 = true := by decide +kernel
set_option maxRecDepth 65536 in
theorem w_runnable : about1.curStatus? = some .runnable := by decide +kernel
set_option maxRecDepth 65536 in
theorem w_alone : about1.alone = true := by decide +kernel
set_option maxRecDepth 65536 in
theorem w_named : about1.methodNamed? x = some theMethod := by decide +kernel
set_option maxRecDepth 65536 in
theorem w_hears : about1.hears theMethod below0 = true := by decide +kernel
set_option maxRecDepth 65536 in
theorem w_ripe : about1.ripe theMethod args0 below0 = true := by decide +kernel
theorem w_running : about1.status = .running := rfl
set_option maxRecDepth 65536 in
theorem w_room : about1.hasRoom e0.platform room_1 = true :=
  launch0.hasRoom_least _ room_1 (by decide +kernel) (by decide +kernel) (by decide +kernel) (by decide +kernel) (by decide +kernel) (by decide +kernel)
theorem allAtoms_all (ts : List Jvm.Cond) (a : Array Jvm.Value) (st : Jvm.State) : (allAtoms ts).before a st = ts.all (fun c => c.before a st) := by
  induction ts with
  | nil => rfl
  | cons c t ih =>
    show (Jvm.Cond.and c (allAtoms t)).before a st = _
    rw [Jvm.Cond.before_and, ih, List.all_cons]
def words1 : List Jvm.Cond := Jvm.Cond.code x code maxLocals ret :: tables_1
/-- a 'code' word, met by the world's own term for the bytes: nothing is compared byte by byte -/
theorem code_word {y : MethodName} {bytes : ByteArray} {mx : Nat} {rt : Option FieldType} {a : Array Value} {s : State} {m : MethodId} {meth : Method} {c : Code} (h1 : s.methodNamed? y = some m) (h2 : s.vm.method? m = some meth) (h3 : meth.code = some c) (h4 : c.code = bytes)
    (h5 : (c.maxLocals == mx && c.exceptionTable.isEmpty && decide (c.maxStack ≤ mostOperands) && decide (meth.sig.returnType = rt) && !meth.locks && decide (parseMethodDescriptor y.desc = some meth.sig)) = true) : (Jvm.Cond.code y bytes mx rt).before a s = true := by
  simp only [Bool.and_eq_true, beq_iff_eq, Bool.not_eq_true', decide_eq_true_eq] at h5
  obtain ⟨⟨⟨⟨⟨g1, g2⟩, g3⟩, g4⟩, g5⟩, g6⟩ := h5
  simp [Cond.before, Cond.holds, Cond.value, h1, h2, h3, h4, g1, g2, g3, g4, g5, g6]
def isCode : Jvm.Cond → Bool
  | .code _ _ _ _ => true
  | _ => false
theorem all_split {L : List Jvm.Cond} {P : Jvm.Cond → Bool} (h1 : L.all (fun c => isCode c || P c) = true) (h2 : ∀ c ∈ L.filter isCode, P c = true) : L.all P = true := by
  refine List.all_eq_true.mpr fun c hc => ?_
  have h := List.all_eq_true.mp h1 c hc
  rcases Bool.eq_false_or_eq_true (isCode c) with hi | hi
  · exact h2 c (List.mem_filter.mpr ⟨hc, hi⟩)
  · simpa [hi] using h
set_option maxRecDepth 65536 in
theorem w_c0 : (Jvm.Cond.code x code maxLocals ret).before args0 about1 = true := code_word (m := ⟨1, 1⟩) (meth := k1m1) (c := k1c1) (by decide +kernel) rfl rfl rfl (by decide +kernel)
set_option maxRecDepth 65536 in
theorem w_c1 : (Jvm.Cond.code ({ cls := "com/example/netlocus/netlocus/Fraction", name := "<init>", desc := "(JJ)V" } : Jvm.MethodName) prog_20_method_1_code (7 : Nat) (Option.none : Option Jvm.ClassFile.FieldType)).before args0 about1 = true := code_word (m := ⟨3, 0⟩) (meth := k3m0) (c := k3c0) (by decide +kernel) rfl rfl rfl (by decide +kernel)
set_option maxRecDepth 65536 in
theorem w_c2 : (Jvm.Cond.code ({ cls := "java/lang/Object", name := "<init>", desc := "()V" } : Jvm.MethodName) object_method_1_code (1 : Nat) (Option.none : Option Jvm.ClassFile.FieldType)).before args0 about1 = true := code_word (m := ⟨0, 0⟩) (meth := k0m0) (c := k0c0) (by decide +kernel) rfl rfl rfl (by decide +kernel)
set_option maxRecDepth 65536 in
theorem w_c3 : (Jvm.Cond.code ({ cls := "com/example/netlocus/netlocus/Fraction", name := "greatestCommonDivisor", desc := "(JJ)J" } : Jvm.MethodName) prog_20_method_12_code (10 : Nat) (Option.some Jvm.ClassFile.FieldType.long)).before args0 about1 = true := code_word (m := ⟨3, 2⟩) (meth := k3m2) (c := k3c2) (by decide +kernel) rfl rfl rfl (by decide +kernel)
set_option maxRecDepth 65536 in
theorem w_c4 : (Jvm.Cond.code ({ cls := "java/lang/Math", name := "abs", desc := "(J)J" } : Jvm.MethodName) jdk_29_method_61_code (2 : Nat) (Option.some Jvm.ClassFile.FieldType.long)).before args0 about1 = true := code_word (m := ⟨4, 1⟩) (meth := k4m1) (c := k4c1) (by decide +kernel) rfl rfl rfl (by decide +kernel)
set_option maxRecDepth 65536 in
theorem w_c5 : (Jvm.Cond.code ({ cls := "java/lang/Long", name := "valueOf", desc := "(J)Ljava/lang/Long;" } : Jvm.MethodName) jdk_35_method_24_code (3 : Nat) (Option.some (Jvm.ClassFile.FieldType.object "java/lang/Long"))).before args0 about1 = true := code_word (m := ⟨9, 0⟩) (meth := k9m0) (c := k9c0) (by decide +kernel) rfl rfl rfl (by decide +kernel)
set_option maxRecDepth 65536 in
theorem w_c6 : (Jvm.Cond.code ({ cls := "com/example/netlocus/netlocus/Fraction", name := "equals", desc := "(Ljava/lang/Object;)Z" } : Jvm.MethodName) prog_20_method_9_code (3 : Nat) (Option.some Jvm.ClassFile.FieldType.boolean)).before args0 about1 = true := code_word (m := ⟨3, 1⟩) (meth := k3m1) (c := k3c1) (by decide +kernel) rfl rfl rfl (by decide +kernel)
set_option maxRecDepth 65536 in
theorem w_c7 : (Jvm.Cond.code ({ cls := "java/lang/Long", name := "<init>", desc := "(J)V" } : Jvm.MethodName) jdk_35_method_26_code (3 : Nat) (Option.none : Option Jvm.ClassFile.FieldType)).before args0 about1 = true := code_word (m := ⟨9, 1⟩) (meth := k9m1) (c := k9c1) (by decide +kernel) rfl rfl rfl (by decide +kernel)
set_option maxRecDepth 65536 in
theorem w_c8 : (Jvm.Cond.code ({ cls := "java/lang/Number", name := "<init>", desc := "()V" } : Jvm.MethodName) jdk_18_method_1_code (1 : Nat) (Option.none : Option Jvm.ClassFile.FieldType)).before args0 about1 = true := code_word (m := ⟨6, 0⟩) (meth := k6m0) (c := k6c0) (by decide +kernel) rfl rfl rfl (by decide +kernel)
def codes1 : List Jvm.Cond := [Jvm.Cond.code x code maxLocals ret, Jvm.Cond.code ({ cls := "com/example/netlocus/netlocus/Fraction", name := "<init>", desc := "(JJ)V" } : Jvm.MethodName) prog_20_method_1_code (7 : Nat) (Option.none : Option Jvm.ClassFile.FieldType), Jvm.Cond.code ({ cls := "java/lang/Object", name := "<init>", desc := "()V" } : Jvm.MethodName) object_method_1_code (1 : Nat) (Option.none : Option Jvm.ClassFile.FieldType), Jvm.Cond.code ({ cls := "com/example/netlocus/netlocus/Fraction", name := "greatestCommonDivisor", desc := "(JJ)J" } : Jvm.MethodName) prog_20_method_12_code (10 : Nat) (Option.some Jvm.ClassFile.FieldType.long), Jvm.Cond.code ({ cls := "java/lang/Math", name := "abs", desc := "(J)J" } : Jvm.MethodName) jdk_29_method_61_code (2 : Nat) (Option.some Jvm.ClassFile.FieldType.long), Jvm.Cond.code ({ cls := "java/lang/Long", name := "valueOf", desc := "(J)Ljava/lang/Long;" } : Jvm.MethodName) jdk_35_method_24_code (3 : Nat) (Option.some (Jvm.ClassFile.FieldType.object "java/lang/Long")), Jvm.Cond.code ({ cls := "com/example/netlocus/netlocus/Fraction", name := "equals", desc := "(Ljava/lang/Object;)Z" } : Jvm.MethodName) prog_20_method_9_code (3 : Nat) (Option.some Jvm.ClassFile.FieldType.boolean), Jvm.Cond.code ({ cls := "java/lang/Long", name := "<init>", desc := "(J)V" } : Jvm.MethodName) jdk_35_method_26_code (3 : Nat) (Option.none : Option Jvm.ClassFile.FieldType), Jvm.Cond.code ({ cls := "java/lang/Number", name := "<init>", desc := "()V" } : Jvm.MethodName) jdk_18_method_1_code (1 : Nat) (Option.none : Option Jvm.ClassFile.FieldType)]
set_option maxRecDepth 65536 in
theorem codes_eq : words1.filter isCode = codes1 := rfl
theorem w_codes : ∀ c ∈ words1.filter isCode, c.before args0 about1 = true := by
  rw [codes_eq]
  intro c hc
  simp only [codes1, List.mem_cons, List.not_mem_nil, or_false] at hc
  rcases hc with rfl | rfl | rfl | rfl | rfl | rfl | rfl | rfl | rfl
  · exact w_c0
  · exact w_c1
  · exact w_c2
  · exact w_c3
  · exact w_c4
  · exact w_c5
  · exact w_c6
  · exact w_c7
  · exact w_c8
set_option maxRecDepth 65536 in
theorem w_t1 : (words1.take 24).all (fun c => isCode c || c.before args0 about1) = true := by decide +kernel
set_option maxRecDepth 65536 in
theorem w_t2 : ((words1.drop 24).take 24).all (fun c => isCode c || c.before args0 about1) = true := by decide +kernel
set_option maxRecDepth 65536 in
theorem w_t3 : ((words1.drop 24).drop 24).all (fun c => isCode c || c.before args0 about1) = true := by decide +kernel
theorem w_tables : (allAtoms (Jvm.Cond.code x code maxLocals ret :: tables_1)).before args0 about1 = true := by
  rw [allAtoms_all]
  show words1.all (fun c => c.before args0 about1) = true
  refine all_split ?_ w_codes
  rw [← List.take_append_drop 24 words1, List.all_append, w_t1, ← List.take_append_drop 24 (words1.drop 24), List.all_append, w_t2, w_t3]
  rfl
set_option maxRecDepth 65536 in
theorem w_rest : rest_1_c.before args0 about1 = true := by decide +kernel
set_option maxRecDepth 65536 in
theorem w_case : (Jvm.Cond.and given_1 narrow_1).before args0 about1 = true := by decide +kernel
theorem w_applies : (headSpec (Jvm.Cond.code x code maxLocals ret :: tables_1) room_1).applies x e0.platform about1 = true :=
  (Spec.applies_iff w_frames).mpr ⟨w_running, w_runnable, w_alone, w_named, w_hears, w_ripe, w_room, w_tables⟩
theorem atStart : AtStart classFile x code maxLocals ret World_1 tables_1 room_1 Calls_1 rest_1 Pre_1 launch0 p0 e0 about1 theMethod args0 below0 :=
  ⟨lists_1, trivial, launch0.admits_env _ _ _, launch0.least_env, fairChoices_fair.cas, fairChoices_fair.clock, w_frames, w_args, w_heap, w_applies, trivial, w_rest, w_case⟩
end start1
theorem witness_1 : WitnessClaimed_1 := ⟨start1.p0, start1.e0, start1.about1, start1.theMethod, start1.args0, start1.below0, start1.atStart⟩
end Jvm.Pilot.@@N@@
