import JvmDerived
import JvmDerived.Pilot.@@N@@Statement
import JvmDerived.Pilot.@@N@@Code
set_option linter.unusedVariables false
set_option linter.unusedSimpArgs false
namespace Jvm.OwnKit
open Sem ClassFile Op Lib Jvm.Stand Jvm.Free Jvm.LawKit Jvm.RoadKit
/-- from the frame f over the state T the run ends within P -/
def Goes (p : Program) (e : Env) (below : List Frame) (T : State) (f : JFrame) (P : State → Outcome → Prop) : Prop := ∃ U o, Steps p.tables e below (T.setTop f) U ∧ U.status = .running ∧ Ended U below o ∧ P U o
/-- only places of ws or of new cells -/
def Only (h0 : Heap) (ws : List Addr) (L : List Loc) : Prop := ∀ y ∈ L, y.base ∈ ws ∨ h0.size ≤ y.base
def Kp (h0 h : Heap) (ws : List Addr) (L : List Loc) : Prop := Keep h0 h ws ∧ Only h0 ws L
/-- Q, kept from being reduced -/
def Ap (Q : Option Value → Heap → List Loc → Prop) (v : Option Value) (h : Heap) (L : List Loc) : Prop := Q v h L
/-- a contract: called with 'as' over the heap h0, the method returns within Q -/
def Con (l : Launch) (y : MethodName) (bytes : ByteArray) (maxL : Nat) (ret : Option FieldType) (rm : Room) (Z : State) (as : Array Value) (h0 : Heap) (Q : Option Value → Heap → List Loc → Prop) : Prop :=
  ∀ ws, MetFree l y (head1 (Cond.code y bytes maxL ret :: ws) rm) (fun a U => a = as ∧ Z.Warmed39 U.vm ∧ U.heap = h0) (fun _ _ _ _ _ => True) (fun _ U o U' => ∃ v L, o = .returned v ∧ Ap Q v U'.heap L ∧ FrameEnd U o U' L rm.cells rm.slots)
section G
variable {p : Program} {l : Launch} {e : Env} {R : Room} {s : State} {m : MethodId} {args : Array Value} {below : List Frame} {meth : Method} {c : Code} {T T' : State} {locs : List Loc} {cells slots : Nat} {P : State → Outcome → Prop} {f f' : JFrame} {Z : State} {a0 : Array Value} {h h' h0 : Heap} {a b : Addr} {ws ws' : List Addr} {Lc Lc' : List Loc} {sl : Nat} {v : Value}
theorem Goes.via (q : ∀ t, Steps p.tables e below (T'.setTop f') t → Steps p.tables e below (T.setTop f) t) (k : Goes p e below T' f' P) : Goes p e below T f P := by
  obtain ⟨U, o, h1, h2⟩ := k
  exact ⟨U, o, q U h1, h2⟩
theorem Goes.thru (q : Steps p.tables e below (T.setTop f) (T'.setTop f')) (k : Goes p e below T' f' P) : Goes p e below T f P := by
  obtain ⟨U, o, h1, h2⟩ := k
  exact ⟨U, o, q.trans h1, h2⟩
theorem Goes.ite {c : Prop} [Decidable c] {F : Int32 → JFrame} {a b : Int32} (h1 : c → Goes p e below T (F a) P → Goes p e below T f P) (h2 : ¬ c → Goes p e below T (F b) P → Goes p e below T f P) (k : Goes p e below T (F (if c then a else b)) P) : Goes p e below T f P := by
  by_cases hc : c
  · rw [if_pos hc] at k; exact h1 hc k
  · rw [if_neg hc] at k; exact h2 hc k
theorem Goes.cast (q : f = f') (k : Goes p e below T f' P) : Goes p e below T f P := q ▸ k
theorem Kp.refl (h : Heap) (ws : List Addr) : Kp h h ws [] := ⟨Keep.refl h ws, fun _ q => nomatch q⟩
theorem Kp.ext (K : Kp h0 h ws Lc) (E : Ext h h') : Kp h0 h' ws Lc := ⟨K.1.ext E, K.2⟩
theorem Kp.wr (K : Kp h0 h ws Lc) (W : Wr h h' a sl v) (q : a ∈ ws ∨ h0.size ≤ a) : Kp h0 h' ws (Lc ++ [⟨a, sl⟩]) :=
  ⟨K.1.wr W q, fun y hy => (List.mem_append.mp hy).elim (K.2 y) fun z => by cases List.mem_singleton.mp z; exact q⟩
theorem Kp.call (K : Kp h0 h ws Lc) (K' : Kp h h' ws' Lc') (q : ∀ x ∈ ws', x ∈ ws ∨ h0.size ≤ x) : Kp h0 h' ws (Lc ++ Lc') :=
  ⟨K.1.trans K'.1 q, fun y hy => (List.mem_append.mp hy).elim (K.2 y) fun z => (K'.2 y z).elim (q _) fun u => Or.inr (Nat.le_trans K.1.1 u)⟩
theorem Kp.size (K : Kp h0 h ws Lc) : h0.size ≤ h.size := K.1.1
theorem Kp.fr (K : Kp h0 h [] Lc) : Fr h0.size Lc := fun y hy => (K.2 y hy).elim (fun z => nomatch z) id
theorem Con.of_body {l : Launch} {y : MethodName} {bytes : ByteArray} {maxL : Nat} {ret : Option FieldType} {rm : Room} {Z : State} {as : Array Value} {h0 : Heap} {Q : Option Value → Heap → List Loc → Prop} (hn : plainFor y = true)
    (body : ∀ (p : Program) (e : Env) (s : State) (m : MethodId) (below : List Frame) (meth : Method) (c : Code) (T : State), Stand p l e rm s m as below meth c T [] 0 0 → p.tables.exec = Jvm.exec → c.code = bytes → c.maxLocals = maxL → Z.Warmed39 s.vm → s.vm.findClass y.cls = some m.cls → meth.name = y.name → meth.sig.returnType = ret → meth.locks = false → T.heap = h0 →
      Goes p e below T (entryFrame m as maxL) (fun U o => ∃ v L, o = .returned v ∧ Ap Q v U.heap L ∧ FrameEnd s o U L rm.cells rm.slots)) : Con l y bytes maxL ret rm Z as h0 Q := by
  intro ws
  refine MetFree.of_bodySF hn hisR ?_
  intro p e s m args below meth c s₁ Bd hml hP _
  obtain ⟨rfl, hZ, hh⟩ := hP
  exact body p e s m below meth c s₁ (Stand.of_body Bd) Bd.exec Bd.bytes hml hZ (findClass_of_methodNamed Bd.named) (name_of_methodNamed Bd.named Bd.method).1 Bd.returns (BodyLoose.notSynchronized Bd) (by rw [← hh, Bd.state]; rfl)
theorem Con.back {y : MethodName} {bytes : ByteArray} {maxL : Nat} {ret : Option FieldType} {rm : Room} {len W : Nat} {as' : Array Value} {Q : Option Value → Heap → List Loc → Prop} (hM : Con l y bytes maxL ret rm Z as' h Q)
    (hZ : Z.Warmed39 s.vm) (wc : (Cond.code y bytes maxL ret).before a0 Z = true) (wz : (Cond.initialized y.cls).before a0 Z = true) (hf : rm.frames + 1 ≤ R.frames) (hl : W + (maxL + 11) + rm.locals ≤ R.locals) :
    Back l R p e below s args y len W (fun A a => a = as' ∧ A.U.heap = h ∧ A.cells + rm.cells ≤ R.cells ∧ A.slots + rm.slots ≤ R.slots)
      (fun A _ v B => ∃ L, Q v B.U.heap L ∧ B.locs = A.locs ++ L ∧ B.cells = A.cells + rm.cells ∧ B.slots = A.slots + rm.slots) := backOf (hM []) hZ wc wz hf hl
/-- the end of a walk, for any of the returning instructions -/
theorem Goes.end (X : Stand p l e R s m args below meth c T locs cells slots) (hlk : meth.locks = false) {v : Option Value} (hv : meth.sig.returnType = none → v = none)
    (hs : ∀ fs, (∀ (f : JFrame) (acts : List Action), f.method = m → f.locked = none → f.entered = [] → (doReturn e (T.setTop f) acts v).1 = T.setFrames fs) → Steps p.tables e below (T.setTop f) (T.setFrames fs))
    {Q : Option Value → Heap → List Loc → Prop} {k n : Nat} (hk : cells ≤ k) (hn : slots ≤ n) (q : Q v T.heap locs) : Goes p e below T f (fun U o => ∃ v L, o = .returned v ∧ Ap Q v U.heap L ∧ FrameEnd s o U L k n) := by
  obtain ⟨fs, hr, hrun, hended, hW, hsame⟩ := X.leave hv hlk
  exact ⟨_, _, hs fs hr, hrun, hended, v, locs, rfl, q, ⟨_, rfl⟩, hW, hsame.mono hk hn⟩
theorem retI' (X : Stand p l e R s m args below meth c T locs cells slots) (hx : p.tables.exec = Jvm.exec) {pc : Nat} {Ls : Array Slot} {z : Int32} {rest : List Value} (hret : meth.sig.returnType = some .int) (hd : decode c.code pc = .ok (.ireturn, 1)) {fs : List Frame}
    (hl : ∀ (f : JFrame) (acts : List Action), f.method = m → f.locked = none → f.entered = [] → (doReturn e (T.setTop f) acts (some (.int z))).1 = T.setFrames fs) : Steps p.tables e below (T.setTop (mkF m pc Ls (.int z :: rest))) (T.setFrames fs) :=
  retOut X hx hret rfl (Or.inl ⟨rfl, Or.inl rfl, z, rfl⟩) hd hl
variable {pc pc' : Nat} {L L' : Array Slot} {S : List Value}
variable {Q : Option Value → Heap → List Loc → Prop} {k n : Nat}
theorem Goes.retI (X : Stand p l e R s m args below meth c T locs cells slots) (hx : p.tables.exec = Jvm.exec) (hret : meth.sig.returnType = some .int) (hlk : meth.locks = false) {z : Int32} (hd : decode c.code pc = .ok (.ireturn, 1)) (hk : cells ≤ k) (hn : slots ≤ n) (q : Q (some (.int z)) T.heap locs) :
    Goes p e below T (mkF m pc L (.int z :: S)) (fun U o => ∃ v L, o = .returned v ∧ Ap Q v U.heap L ∧ FrameEnd s o U L k n) :=
  Goes.end X hlk (fun h => by rw [hret] at h; cases h) (fun _ hr => retOut X hx hret rfl (Or.inl ⟨rfl, Or.inl rfl, z, rfl⟩) hd hr) hk hn q
theorem Goes.retN (X : Stand p l e R s m args below meth c T locs cells slots) (hx : p.tables.exec = Jvm.exec) {t : FieldType} (hret : meth.sig.returnType = some t) (ht : t = .boolean ∨ t = .byte ∨ t = .char ∨ t = .short) (hlk : meth.locks = false) {z : Int32} (hd : decode c.code pc = .ok (.ireturn, 1)) (hk : cells ≤ k) (hn : slots ≤ n) (q : Q (some (.int (nar t z))) T.heap locs) :
    Goes p e below T (mkF m pc L (.int z :: S)) (fun U o => ∃ v L, o = .returned v ∧ Ap Q v U.heap L ∧ FrameEnd s o U L k n) :=
  Goes.end X hlk (fun h => by rw [hret] at h; cases h) (fun _ hr => Jvm.RoadKit.retN X hx hret ht hd hr) hk hn q
theorem Goes.retJ (X : Stand p l e R s m args below meth c T locs cells slots) (hx : p.tables.exec = Jvm.exec) (hret : meth.sig.returnType = some .long) (hlk : meth.locks = false) {z : Int64} (hd : decode c.code pc = .ok (.lreturn, 1)) (hk : cells ≤ k) (hn : slots ≤ n) (q : Q (some (.long z)) T.heap locs) :
    Goes p e below T (mkF m pc L (.long z :: S)) (fun U o => ∃ v L, o = .returned v ∧ Ap Q v U.heap L ∧ FrameEnd s o U L k n) :=
  Goes.end X hlk (fun h => by rw [hret] at h; cases h) (fun _ hr => retOut X hx hret rfl (Or.inr (Or.inl ⟨rfl, rfl, z, rfl⟩)) hd hr) hk hn q
theorem Goes.retA (X : Stand p l e R s m args below meth c T locs cells slots) (hx : p.tables.exec = Jvm.exec) {t : FieldType} (hret : meth.sig.returnType = some t) (ht : t.isReference = true) (hlk : meth.locks = false) {z : Value} (hz : z.isRef = true) (hnr : narrow t z = z) (hd : decode c.code pc = .ok (.areturn, 1)) (hk : cells ≤ k) (hn : slots ≤ n) (q : Q (some z) T.heap locs) :
    Goes p e below T (mkF m pc L (z :: S)) (fun U o => ∃ v L, o = .returned v ∧ Ap Q v U.heap L ∧ FrameEnd s o U L k n) :=
  Goes.end X hlk (fun h => by rw [hret] at h; cases h) (fun _ hr => retOut X hx hret hnr (Or.inr (Or.inr (Or.inr (Or.inr ⟨rfl, ht, hz⟩)))) hd hr) hk hn q
theorem Goes.retV (X : Stand p l e R s m args below meth c T locs cells slots) (hx : p.tables.exec = Jvm.exec) (hret : meth.sig.returnType = none) (hlk : meth.locks = false) (hd : decode c.code pc = .ok (.return_, 1)) (hk : cells ≤ k) (hn : slots ≤ n) (q : Q none T.heap locs) :
    Goes p e below T (mkF m pc L []) (fun U o => ∃ v L, o = .returned v ∧ Ap Q v U.heap L ∧ FrameEnd s o U L k n) :=
  Goes.end X hlk (fun _ => rfl) (fun _ hr => X.returnOut hx hret hd hr) hk hn q
theorem G.aload (X : Stand p l e R s m args below meth c T locs cells slots) (hx : p.tables.exec = Jvm.exec) {k : Nat} {v : Value} (hd : decode c.code pc = .ok (.aload k, 2)) (hl : L[k]? = some (.val v)) (hv : v.isRef = true) (hp : pc + 2 = pc') (q : Goes p e below T (mkF m pc' L (v :: S)) P) : Goes p e below T (mkF m pc L (S)) P := by
  subst hp; exact Goes.via (fun _ u => Jvm.Free.XS.aload X.here hx rfl hd hl hv u) q
theorem G.aloadN (X : Stand p l e R s m args below meth c T locs cells slots) (hx : p.tables.exec = Jvm.exec) {k : Fin 4} {v : Value} (hd : decode c.code pc = .ok (.aload_n k, 1)) (hl : L[k.val]? = some (.val v)) (hv : v.isRef = true) (hp : pc + 1 = pc') (q : Goes p e below T (mkF m pc' L (v :: S)) P) : Goes p e below T (mkF m pc L (S)) P := by
  subst hp; exact Goes.via (fun _ u => Jvm.Free.XS.aloadN X.here hx rfl hd hl hv u) q
theorem G.iload (X : Stand p l e R s m args below meth c T locs cells slots) (hx : p.tables.exec = Jvm.exec) {k : Nat} {v : Int32} (hd : decode c.code pc = .ok (.iload k, 2)) (hl : L[k]? = some (.val (.int v))) (hp : pc + 2 = pc') (q : Goes p e below T (mkF m pc' L (.int v :: S)) P) : Goes p e below T (mkF m pc L (S)) P := by
  subst hp; exact Goes.via (fun _ u => Jvm.Free.XS.iload X.here hx rfl hd hl u) q
theorem G.iloadN (X : Stand p l e R s m args below meth c T locs cells slots) (hx : p.tables.exec = Jvm.exec) {k : Fin 4} {v : Int32} (hd : decode c.code pc = .ok (.iload_n k, 1)) (hl : L[k.val]? = some (.val (.int v))) (hp : pc + 1 = pc') (q : Goes p e below T (mkF m pc' L (.int v :: S)) P) : Goes p e below T (mkF m pc L (S)) P := by
  subst hp; exact Goes.via (fun _ u => Jvm.Free.XS.iloadN X.here hx rfl hd hl u) q
theorem G.lload (X : Stand p l e R s m args below meth c T locs cells slots) (hx : p.tables.exec = Jvm.exec) {k : Nat} {v : Int64} (hd : decode c.code pc = .ok (.lload k, 2)) (hl : L[k]? = some (.val (.long v))) (hp : pc + 2 = pc') (q : Goes p e below T (mkF m pc' L (.long v :: S)) P) : Goes p e below T (mkF m pc L (S)) P := by
  subst hp; exact Goes.via (fun _ u => Jvm.Free.XT.lload X.here hx rfl hd hl u) q
theorem G.lloadN (X : Stand p l e R s m args below meth c T locs cells slots) (hx : p.tables.exec = Jvm.exec) {k : Fin 4} {v : Int64} (hd : decode c.code pc = .ok (.lload_n k, 1)) (hl : L[k.val]? = some (.val (.long v))) (hp : pc + 1 = pc') (q : Goes p e below T (mkF m pc' L (.long v :: S)) P) : Goes p e below T (mkF m pc L (S)) P := by
  subst hp; exact Goes.via (fun _ u => Jvm.Free.XT.lloadN X.here hx rfl hd hl u) q
theorem G.istore (X : Stand p l e R s m args below meth c T locs cells slots) (hx : p.tables.exec = Jvm.exec) {k : Nat} {v : Int32} (hd : decode c.code pc = .ok (.istore k, 2)) (hl : storeLocals L k (.int v) = some L') (hp : pc + 2 = pc') (q : Goes p e below T (mkF m pc' L' (S)) P) : Goes p e below T (mkF m pc L (.int v :: S)) P := by
  subst hp; exact Goes.via (fun _ u => Jvm.Free.XS.istore X.here hx rfl hd rfl hl u) q
theorem G.istoreN (X : Stand p l e R s m args below meth c T locs cells slots) (hx : p.tables.exec = Jvm.exec) {k : Fin 4} {v : Int32} (hd : decode c.code pc = .ok (.istore_n k, 1)) (hl : storeLocals L k.val (.int v) = some L') (hp : pc + 1 = pc') (q : Goes p e below T (mkF m pc' L' (S)) P) : Goes p e below T (mkF m pc L (.int v :: S)) P := by
  subst hp; exact Goes.via (fun _ u => Jvm.Free.XS.istoreN X.here hx rfl hd rfl hl u) q
theorem G.lstore (X : Stand p l e R s m args below meth c T locs cells slots) (hx : p.tables.exec = Jvm.exec) {k : Nat} {v : Int64} (hd : decode c.code pc = .ok (.lstore k, 2)) (hl : storeLocals L k (.long v) = some L') (hp : pc + 2 = pc') (q : Goes p e below T (mkF m pc' L' (S)) P) : Goes p e below T (mkF m pc L (.long v :: S)) P := by
  subst hp; exact Goes.via (fun _ u => Jvm.Free.XT.lstore X.here hx rfl hd rfl hl u) q
theorem G.lstoreN (X : Stand p l e R s m args below meth c T locs cells slots) (hx : p.tables.exec = Jvm.exec) {k : Fin 4} {v : Int64} (hd : decode c.code pc = .ok (.lstore_n k, 1)) (hl : storeLocals L k.val (.long v) = some L') (hp : pc + 1 = pc') (q : Goes p e below T (mkF m pc' L' (S)) P) : Goes p e below T (mkF m pc L (.long v :: S)) P := by
  subst hp; exact Goes.via (fun _ u => Jvm.Free.XT.lstoreN X.here hx rfl hd rfl hl u) q
theorem G.astore (X : Stand p l e R s m args below meth c T locs cells slots) (hx : p.tables.exec = Jvm.exec) {k : Nat} {v : Value} (hd : decode c.code pc = .ok (.astore k, 2)) (hv : v.isRef = true) (hl : storeLocals L k v = some L') (hp : pc + 2 = pc') (q : Goes p e below T (mkF m pc' L' (S)) P) : Goes p e below T (mkF m pc L (v :: S)) P := by
  subst hp; exact Goes.via (fun _ u => Jvm.Free.XS.astore X.here hx rfl hd rfl hv hl u) q
theorem G.astoreN (X : Stand p l e R s m args below meth c T locs cells slots) (hx : p.tables.exec = Jvm.exec) {k : Fin 4} {v : Value} (hd : decode c.code pc = .ok (.astore_n k, 1)) (hv : v.isRef = true) (hl : storeLocals L k.val v = some L') (hp : pc + 1 = pc') (q : Goes p e below T (mkF m pc' L' (S)) P) : Goes p e below T (mkF m pc L (v :: S)) P := by
  subst hp; exact Goes.via (fun _ u => Jvm.Free.XS.astoreN X.here hx rfl hd rfl hv hl u) q
theorem G.iinc (X : Stand p l e R s m args below meth c T locs cells slots) (hx : p.tables.exec = Jvm.exec) {k : Nat} {cst : Int} {v : Int32} (hd : decode c.code pc = .ok (.iinc k cst, 3)) (hl : L[k]? = some (.val (.int v))) (hl' : storeLocals L k (.int (v + Int32.ofInt cst)) = some L') (hp : pc + 3 = pc') (q : Goes p e below T (mkF m pc' L' (S)) P) : Goes p e below T (mkF m pc L (S)) P := by
  subst hp; exact Goes.via (fun _ u => Jvm.Free.XS.iinc X.here hx rfl hd hl hl' u) q
theorem G.iconst (X : Stand p l e R s m args below meth c T locs cells slots) (hx : p.tables.exec = Jvm.exec) {i : Int} {z : Int32} (hd : decode c.code pc = .ok (.iconst i, 1)) (hz : Int32.ofInt i = z) (hp : pc + 1 = pc') (q : Goes p e below T (mkF m pc' L (.int z :: S)) P) : Goes p e below T (mkF m pc L S) P := by
  subst hp hz; exact Goes.via (fun _ u => Jvm.Free.XS.iconst X.here hx rfl hd u) q
theorem G.bipush (X : Stand p l e R s m args below meth c T locs cells slots) (hx : p.tables.exec = Jvm.exec) {i : Int} {z : Int32} (hd : decode c.code pc = .ok (.bipush i, 2)) (hz : (Int8.ofInt i).toInt32 = z) (hp : pc + 2 = pc') (q : Goes p e below T (mkF m pc' L (.int z :: S)) P) : Goes p e below T (mkF m pc L S) P := by
  subst hp hz; exact Goes.via (fun _ u => Jvm.Free.XS.bipush X.here hx rfl hd u) q
theorem G.sipush (X : Stand p l e R s m args below meth c T locs cells slots) (hx : p.tables.exec = Jvm.exec) {i : Int} {z : Int32} (hd : decode c.code pc = .ok (.sipush i, 3)) (hz : (Int16.ofInt i).toInt32 = z) (hp : pc + 3 = pc') (q : Goes p e below T (mkF m pc' L (.int z :: S)) P) : Goes p e below T (mkF m pc L S) P := by
  subst hp hz; exact Goes.via (fun _ u => Jvm.Free.XS.sipush X.here hx rfl hd u) q
theorem G.lconst (X : Stand p l e R s m args below meth c T locs cells slots) (hx : p.tables.exec = Jvm.exec) {k : Fin 2} {z : Int64} (hd : decode c.code pc = .ok (.lconst k, 1)) (hz : Int64.ofNat k = z) (hp : pc + 1 = pc') (q : Goes p e below T (mkF m pc' L (.long z :: S)) P) : Goes p e below T (mkF m pc L S) P := by
  subst hp hz; exact Goes.via (fun _ u => Jvm.Free.XT.lconst X.here hx rfl hd u) q
theorem G.aconstNull (X : Stand p l e R s m args below meth c T locs cells slots) (hx : p.tables.exec = Jvm.exec) (hd : decode c.code pc = .ok (.aconst_null, 1)) (hp : pc + 1 = pc') (q : Goes p e below T (mkF m pc' L (.null :: S)) P) : Goes p e below T (mkF m pc L (S)) P := by
  subst hp; exact Goes.via (fun _ u => Jvm.Free.XS.aconstNull X.here hx rfl hd u) q
theorem G.iadd (X : Stand p l e R s m args below meth c T locs cells slots) (hx : p.tables.exec = Jvm.exec) {x y : Int32} (hd : decode c.code pc = .ok (.iadd, 1)) (hp : pc + 1 = pc') (q : Goes p e below T (mkF m pc' L (.int (x + y) :: S)) P) : Goes p e below T (mkF m pc L (.int y :: .int x :: S)) P := by
  subst hp; exact Goes.via (fun _ u => Jvm.Free.XS.iadd X.here hx rfl hd rfl u) q
theorem G.isub (X : Stand p l e R s m args below meth c T locs cells slots) (hx : p.tables.exec = Jvm.exec) {x y : Int32} (hd : decode c.code pc = .ok (.isub, 1)) (hp : pc + 1 = pc') (q : Goes p e below T (mkF m pc' L (.int (x - y) :: S)) P) : Goes p e below T (mkF m pc L (.int y :: .int x :: S)) P := by
  subst hp; exact Goes.via (fun _ u => Jvm.Free.XS.isub X.here hx rfl hd rfl u) q
theorem G.iand (X : Stand p l e R s m args below meth c T locs cells slots) (hx : p.tables.exec = Jvm.exec) {x y : Int32} (hd : decode c.code pc = .ok (.iand, 1)) (hp : pc + 1 = pc') (q : Goes p e below T (mkF m pc' L (.int (x &&& y) :: S)) P) : Goes p e below T (mkF m pc L (.int y :: .int x :: S)) P := by
  subst hp; exact Goes.via (fun _ u => Jvm.Free.XS.iand X.here hx rfl hd rfl u) q
theorem G.imul (X : Stand p l e R s m args below meth c T locs cells slots) (hx : p.tables.exec = Jvm.exec) {x y : Int32} (hd : decode c.code pc = .ok (.imul, 1)) (hp : pc + 1 = pc') (q : Goes p e below T (mkF m pc' L (.int (x * y) :: S)) P) : Goes p e below T (mkF m pc L (.int y :: .int x :: S)) P := by
  subst hp; exact Goes.via (fun _ u => Jvm.Free.XS.imul X.here hx rfl hd rfl u) q
theorem G.ior (X : Stand p l e R s m args below meth c T locs cells slots) (hx : p.tables.exec = Jvm.exec) {x y : Int32} (hd : decode c.code pc = .ok (.ior, 1)) (hp : pc + 1 = pc') (q : Goes p e below T (mkF m pc' L (.int (x ||| y) :: S)) P) : Goes p e below T (mkF m pc L (.int y :: .int x :: S)) P := by
  subst hp; exact Goes.via (fun _ u => Jvm.Free.XT.ior X.here hx rfl hd rfl u) q
theorem G.ixor (X : Stand p l e R s m args below meth c T locs cells slots) (hx : p.tables.exec = Jvm.exec) {x y : Int32} (hd : decode c.code pc = .ok (.ixor, 1)) (hp : pc + 1 = pc') (q : Goes p e below T (mkF m pc' L (.int (x ^^^ y) :: S)) P) : Goes p e below T (mkF m pc L (.int y :: .int x :: S)) P := by
  subst hp; exact Goes.via (fun _ u => Jvm.Free.XT.ixor X.here hx rfl hd rfl u) q
theorem G.ishl (X : Stand p l e R s m args below meth c T locs cells slots) (hx : p.tables.exec = Jvm.exec) {x y : Int32} (hd : decode c.code pc = .ok (.ishl, 1)) (hp : pc + 1 = pc') (q : Goes p e below T (mkF m pc' L (.int (x <<< (y &&& 31)) :: S)) P) : Goes p e below T (mkF m pc L (.int y :: .int x :: S)) P := by
  subst hp; exact Goes.via (fun _ u => Jvm.Free.XT.ishl X.here hx rfl hd rfl u) q
theorem G.ishr (X : Stand p l e R s m args below meth c T locs cells slots) (hx : p.tables.exec = Jvm.exec) {x y : Int32} (hd : decode c.code pc = .ok (.ishr, 1)) (hp : pc + 1 = pc') (q : Goes p e below T (mkF m pc' L (.int (x >>> (y &&& 31)) :: S)) P) : Goes p e below T (mkF m pc L (.int y :: .int x :: S)) P := by
  subst hp; exact Goes.via (fun _ u => Jvm.Free.XT.ishr X.here hx rfl hd rfl u) q
theorem G.iushr (X : Stand p l e R s m args below meth c T locs cells slots) (hx : p.tables.exec = Jvm.exec) {x y : Int32} (hd : decode c.code pc = .ok (.iushr, 1)) (hp : pc + 1 = pc') (q : Goes p e below T (mkF m pc' L (.int (Jvm.Free.XT.ushr x y) :: S)) P) : Goes p e below T (mkF m pc L (.int y :: .int x :: S)) P := by
  subst hp; exact Goes.via (fun _ u => Jvm.Free.XT.iushr X.here hx rfl hd rfl u) q
theorem G.idiv (X : Stand p l e R s m args below meth c T locs cells slots) (hx : p.tables.exec = Jvm.exec) {x y : Int32} (hd : decode c.code pc = .ok (.idiv, 1)) (hy : y ≠ 0) (hp : pc + 1 = pc') (q : Goes p e below T (mkF m pc' L (.int (x / y) :: S)) P) : Goes p e below T (mkF m pc L (.int y :: .int x :: S)) P := by
  subst hp; exact Goes.via (fun _ u => Jvm.Free.XS.idiv X.here hx rfl hd rfl hy u) q
theorem G.irem (X : Stand p l e R s m args below meth c T locs cells slots) (hx : p.tables.exec = Jvm.exec) {x y : Int32} (hd : decode c.code pc = .ok (.irem, 1)) (hy : y ≠ 0) (hp : pc + 1 = pc') (q : Goes p e below T (mkF m pc' L (.int (x % y) :: S)) P) : Goes p e below T (mkF m pc L (.int y :: .int x :: S)) P := by
  subst hp; exact Goes.via (fun _ u => Jvm.RoadKit.iremM X hx rfl hd rfl hy u) q
theorem G.ineg (X : Stand p l e R s m args below meth c T locs cells slots) (hx : p.tables.exec = Jvm.exec) {x : Int32} (hd : decode c.code pc = .ok (.ineg, 1)) (hp : pc + 1 = pc') (q : Goes p e below T (mkF m pc' L (.int (-x) :: S)) P) : Goes p e below T (mkF m pc L (.int x :: S)) P := by
  subst hp; exact Goes.via (fun _ u => Jvm.Free.XS.ineg X.here hx rfl hd rfl u) q
theorem G.ladd (X : Stand p l e R s m args below meth c T locs cells slots) (hx : p.tables.exec = Jvm.exec) {x y : Int64} (hd : decode c.code pc = .ok (.ladd, 1)) (hp : pc + 1 = pc') (q : Goes p e below T (mkF m pc' L (.long (x + y) :: S)) P) : Goes p e below T (mkF m pc L (.long y :: .long x :: S)) P := by
  subst hp; exact Goes.via (fun _ u => Jvm.Free.XT.ladd X.here hx rfl hd rfl u) q
theorem G.lsub (X : Stand p l e R s m args below meth c T locs cells slots) (hx : p.tables.exec = Jvm.exec) {x y : Int64} (hd : decode c.code pc = .ok (.lsub, 1)) (hp : pc + 1 = pc') (q : Goes p e below T (mkF m pc' L (.long (x - y) :: S)) P) : Goes p e below T (mkF m pc L (.long y :: .long x :: S)) P := by
  subst hp; exact Goes.via (fun _ u => Jvm.Free.XT.lsub X.here hx rfl hd rfl u) q
theorem G.lmul (X : Stand p l e R s m args below meth c T locs cells slots) (hx : p.tables.exec = Jvm.exec) {x y : Int64} (hd : decode c.code pc = .ok (.lmul, 1)) (hp : pc + 1 = pc') (q : Goes p e below T (mkF m pc' L (.long (x * y) :: S)) P) : Goes p e below T (mkF m pc L (.long y :: .long x :: S)) P := by
  subst hp; exact Goes.via (fun _ u => Jvm.Free.XT.lmul X.here hx rfl hd rfl u) q
theorem G.land (X : Stand p l e R s m args below meth c T locs cells slots) (hx : p.tables.exec = Jvm.exec) {x y : Int64} (hd : decode c.code pc = .ok (.land, 1)) (hp : pc + 1 = pc') (q : Goes p e below T (mkF m pc' L (.long (x &&& y) :: S)) P) : Goes p e below T (mkF m pc L (.long y :: .long x :: S)) P := by
  subst hp; exact Goes.via (fun _ u => Jvm.Free.XT.land X.here hx rfl hd rfl u) q
theorem G.lor (X : Stand p l e R s m args below meth c T locs cells slots) (hx : p.tables.exec = Jvm.exec) {x y : Int64} (hd : decode c.code pc = .ok (.lor, 1)) (hp : pc + 1 = pc') (q : Goes p e below T (mkF m pc' L (.long (x ||| y) :: S)) P) : Goes p e below T (mkF m pc L (.long y :: .long x :: S)) P := by
  subst hp; exact Goes.via (fun _ u => Jvm.Free.XT.lor X.here hx rfl hd rfl u) q
theorem G.lxor (X : Stand p l e R s m args below meth c T locs cells slots) (hx : p.tables.exec = Jvm.exec) {x y : Int64} (hd : decode c.code pc = .ok (.lxor, 1)) (hp : pc + 1 = pc') (q : Goes p e below T (mkF m pc' L (.long (x ^^^ y) :: S)) P) : Goes p e below T (mkF m pc L (.long y :: .long x :: S)) P := by
  subst hp; exact Goes.via (fun _ u => Jvm.Free.XT.lxor X.here hx rfl hd rfl u) q
theorem G.lshl (X : Stand p l e R s m args below meth c T locs cells slots) (hx : p.tables.exec = Jvm.exec) {x : Int64} {y : Int32} (hd : decode c.code pc = .ok (.lshl, 1)) (hp : pc + 1 = pc') (q : Goes p e below T (mkF m pc' L (.long (x <<< (y.toInt64 &&& 63)) :: S)) P) : Goes p e below T (mkF m pc L (.int y :: .long x :: S)) P := by
  subst hp; exact Goes.via (fun _ u => Jvm.Free.XT.lshl X.here hx rfl hd rfl u) q
theorem G.lshr (X : Stand p l e R s m args below meth c T locs cells slots) (hx : p.tables.exec = Jvm.exec) {x : Int64} {y : Int32} (hd : decode c.code pc = .ok (.lshr, 1)) (hp : pc + 1 = pc') (q : Goes p e below T (mkF m pc' L (.long (x >>> (y.toInt64 &&& 63)) :: S)) P) : Goes p e below T (mkF m pc L (.int y :: .long x :: S)) P := by
  subst hp; exact Goes.via (fun _ u => Jvm.Free.XT.lshr X.here hx rfl hd rfl u) q
theorem G.lushr (X : Stand p l e R s m args below meth c T locs cells slots) (hx : p.tables.exec = Jvm.exec) {x : Int64} {y : Int32} (hd : decode c.code pc = .ok (.lushr, 1)) (hp : pc + 1 = pc') (q : Goes p e below T (mkF m pc' L (.long (Jvm.Free.XT.ushrL x y) :: S)) P) : Goes p e below T (mkF m pc L (.int y :: .long x :: S)) P := by
  subst hp; exact Goes.via (fun _ u => Jvm.Free.XT.lushr X.here hx rfl hd rfl u) q
theorem G.ldiv (X : Stand p l e R s m args below meth c T locs cells slots) (hx : p.tables.exec = Jvm.exec) {x y : Int64} (hd : decode c.code pc = .ok (.ldiv, 1)) (hy : y ≠ 0) (hp : pc + 1 = pc') (q : Goes p e below T (mkF m pc' L (.long (x / y) :: S)) P) : Goes p e below T (mkF m pc L (.long y :: .long x :: S)) P := by
  subst hp; exact Goes.via (fun _ u => Jvm.Free.XT.ldiv X.here hx rfl hd rfl hy u) q
theorem G.lrem (X : Stand p l e R s m args below meth c T locs cells slots) (hx : p.tables.exec = Jvm.exec) {x y : Int64} (hd : decode c.code pc = .ok (.lrem, 1)) (hy : y ≠ 0) (hp : pc + 1 = pc') (q : Goes p e below T (mkF m pc' L (.long (x % y) :: S)) P) : Goes p e below T (mkF m pc L (.long y :: .long x :: S)) P := by
  subst hp; exact Goes.via (fun _ u => Jvm.Free.XT.lrem X.here hx rfl hd rfl hy u) (by rw [lrem_mod]; exact q)
theorem G.lneg (X : Stand p l e R s m args below meth c T locs cells slots) (hx : p.tables.exec = Jvm.exec) {x : Int64} (hd : decode c.code pc = .ok (.lneg, 1)) (hp : pc + 1 = pc') (q : Goes p e below T (mkF m pc' L (.long (-x) :: S)) P) : Goes p e below T (mkF m pc L (.long x :: S)) P := by
  subst hp; exact Goes.via (fun _ u => Jvm.Free.XT.lneg X.here hx rfl hd rfl u) q
theorem G.i2l (X : Stand p l e R s m args below meth c T locs cells slots) (hx : p.tables.exec = Jvm.exec) {x : Int32} (hd : decode c.code pc = .ok (.i2l, 1)) (hp : pc + 1 = pc') (q : Goes p e below T (mkF m pc' L (.long (x.toInt64) :: S)) P) : Goes p e below T (mkF m pc L (.int x :: S)) P := by
  subst hp; exact Goes.via (fun _ u => Jvm.Free.XT.i2l X.here hx rfl hd rfl u) q
theorem G.i2b (X : Stand p l e R s m args below meth c T locs cells slots) (hx : p.tables.exec = Jvm.exec) {x : Int32} (hd : decode c.code pc = .ok (.i2b, 1)) (hp : pc + 1 = pc') (q : Goes p e below T (mkF m pc' L (.int (x.toInt8.toInt32) :: S)) P) : Goes p e below T (mkF m pc L (.int x :: S)) P := by
  subst hp; exact Goes.via (fun _ u => Jvm.Free.XT.i2b X.here hx rfl hd rfl u) q
theorem G.i2c (X : Stand p l e R s m args below meth c T locs cells slots) (hx : p.tables.exec = Jvm.exec) {x : Int32} (hd : decode c.code pc = .ok (.i2c, 1)) (hp : pc + 1 = pc') (q : Goes p e below T (mkF m pc' L (.int (x.toUInt32.toUInt16.toUInt32.toInt32) :: S)) P) : Goes p e below T (mkF m pc L (.int x :: S)) P := by
  subst hp; exact Goes.via (fun _ u => Jvm.Free.XT.i2c X.here hx rfl hd rfl u) q
theorem G.i2s (X : Stand p l e R s m args below meth c T locs cells slots) (hx : p.tables.exec = Jvm.exec) {x : Int32} (hd : decode c.code pc = .ok (.i2s, 1)) (hp : pc + 1 = pc') (q : Goes p e below T (mkF m pc' L (.int (x.toInt16.toInt32) :: S)) P) : Goes p e below T (mkF m pc L (.int x :: S)) P := by
  subst hp; exact Goes.via (fun _ u => Jvm.Free.XT.i2s X.here hx rfl hd rfl u) q
theorem G.l2i (X : Stand p l e R s m args below meth c T locs cells slots) (hx : p.tables.exec = Jvm.exec) {x : Int64} (hd : decode c.code pc = .ok (.l2i, 1)) (hp : pc + 1 = pc') (q : Goes p e below T (mkF m pc' L (.int (x.toInt32) :: S)) P) : Goes p e below T (mkF m pc L (.long x :: S)) P := by
  subst hp; exact Goes.via (fun _ u => Jvm.Free.XT.l2i X.here hx rfl hd rfl u) q
theorem G.lcmp (X : Stand p l e R s m args below meth c T locs cells slots) (hx : p.tables.exec = Jvm.exec) {x y : Int64} (hd : decode c.code pc = .ok (.lcmp, 1)) (hp : pc + 1 = pc') (q : Goes p e below T (mkF m pc' L (.int (Jvm.Free.XT.cmpL x y) :: S)) P) : Goes p e below T (mkF m pc L (.long y :: .long x :: S)) P := by
  subst hp; exact Goes.via (fun _ u => Jvm.Free.XT.lcmp X.here hx rfl hd rfl u) q
theorem G.dup (X : Stand p l e R s m args below meth c T locs cells slots) (hx : p.tables.exec = Jvm.exec) {v : Value} (hd : decode c.code pc = .ok (.dup, 1)) (hv : v.category = 1) (hp : pc + 1 = pc') (q : Goes p e below T (mkF m pc' L (v :: v :: S)) P) : Goes p e below T (mkF m pc L (v :: S)) P := by
  subst hp; exact Goes.via (fun _ u => Jvm.Free.XS.dup X.here hx rfl hd rfl hv u) q
theorem G.pop (X : Stand p l e R s m args below meth c T locs cells slots) (hx : p.tables.exec = Jvm.exec) {v : Value} (hd : decode c.code pc = .ok (.pop, 1)) (hv : v.category = 1) (hp : pc + 1 = pc') (q : Goes p e below T (mkF m pc' L (S)) P) : Goes p e below T (mkF m pc L (v :: S)) P := by
  subst hp; exact Goes.via (fun _ u => Jvm.Free.XT.pop X.here hx rfl hd rfl hv u) q
theorem G.dupX1 (X : Stand p l e R s m args below meth c T locs cells slots) (hx : p.tables.exec = Jvm.exec) {v w : Value} (hd : decode c.code pc = .ok (.dup_x1, 1)) (hv : v.category = 1) (hw : w.category = 1) (hp : pc + 1 = pc') (q : Goes p e below T (mkF m pc' L (v :: w :: v :: S)) P) : Goes p e below T (mkF m pc L (v :: w :: S)) P := by
  subst hp; exact Goes.via (fun _ u => Jvm.Free.XT.dupX1 X.here hx rfl hd rfl hv hw u) q
theorem G.dup2 (X : Stand p l e R s m args below meth c T locs cells slots) (hx : p.tables.exec = Jvm.exec) {v w : Value} (hd : decode c.code pc = .ok (.dup2, 1)) (hv : v.category = 1) (hw : w.category = 1) (hp : pc + 1 = pc') (q : Goes p e below T (mkF m pc' L (v :: w :: v :: w :: S)) P) : Goes p e below T (mkF m pc L (v :: w :: S)) P := by
  subst hp; exact Goes.via (fun _ u => Jvm.Free.XT.dup2 X.here hx rfl hd rfl hv hw u) q
theorem G.goto (X : Stand p l e R s m args below meth c T locs cells slots) (hx : p.tables.exec = Jvm.exec) {o : Int} (hd : decode c.code pc = .ok (.goto o, 3)) (ho : 0 ≤ (pc : Int) + o) (hp : ((pc : Int) + o).toNat = pc') (q : Goes p e below T (mkF m pc' L S) P) : Goes p e below T (mkF m pc L S) P :=
  Goes.via (fun _ u => Jvm.Free.XS.goto X.here hx rfl rfl hd ho hp u) q
theorem G.icmpT (X : Stand p l e R s m args below meth c T locs cells slots) (hx : p.tables.exec = Jvm.exec) {cd : ClassFile.Cond} {x y : Int32} {o : Int} (hd : decode c.code pc = .ok (.if_icmp cd o, 3)) (hc : if_icmp.holds cd x y = true) (ho : 0 ≤ (pc : Int) + o) (hp : ((pc : Int) + o).toNat = pc') (q : Goes p e below T (mkF m pc' L S) P) : Goes p e below T (mkF m pc L (.int y :: .int x :: S)) P :=
  Goes.via (fun _ u => Jvm.Free.XS.icmpYes X.here hx rfl rfl hd rfl hc ho hp u) q
theorem G.icmpF (X : Stand p l e R s m args below meth c T locs cells slots) (hx : p.tables.exec = Jvm.exec) {cd : ClassFile.Cond} {x y : Int32} {o : Int} (hd : decode c.code pc = .ok (.if_icmp cd o, 3)) (hc : if_icmp.holds cd x y = false) (hp : pc + 3 = pc') (q : Goes p e below T (mkF m pc' L S) P) : Goes p e below T (mkF m pc L (.int y :: .int x :: S)) P := by
  subst hp; exact Goes.via (fun _ u => Jvm.Free.XS.icmpNo X.here hx rfl hd rfl hc u) q
theorem G.ifT (X : Stand p l e R s m args below meth c T locs cells slots) (hx : p.tables.exec = Jvm.exec) {cd : ClassFile.Cond} {x : Int32} {o : Int} (hd : decode c.code pc = .ok (.ifCond cd o, 3)) (hc : ifCond.holds cd x = true) (ho : 0 ≤ (pc : Int) + o) (hp : ((pc : Int) + o).toNat = pc') (q : Goes p e below T (mkF m pc' L S) P) : Goes p e below T (mkF m pc L (.int x :: S)) P :=
  Goes.via (fun _ u => Jvm.Free.XS.ifYes X.here hx rfl rfl hd rfl hc ho hp u) q
theorem G.ifF (X : Stand p l e R s m args below meth c T locs cells slots) (hx : p.tables.exec = Jvm.exec) {cd : ClassFile.Cond} {x : Int32} {o : Int} (hd : decode c.code pc = .ok (.ifCond cd o, 3)) (hc : ifCond.holds cd x = false) (hp : pc + 3 = pc') (q : Goes p e below T (mkF m pc' L S) P) : Goes p e below T (mkF m pc L (.int x :: S)) P := by
  subst hp; exact Goes.via (fun _ u => Jvm.Free.XS.ifNo X.here hx rfl hd rfl hc u) q
theorem G.nullT (X : Stand p l e R s m args below meth c T locs cells slots) (hx : p.tables.exec = Jvm.exec) {o : Int} (hd : decode c.code pc = .ok (.ifnull o, 3)) (ho : 0 ≤ (pc : Int) + o) (hp : ((pc : Int) + o).toNat = pc') (q : Goes p e below T (mkF m pc' L S) P) : Goes p e below T (mkF m pc L (.null :: S)) P :=
  Goes.via (fun _ u => Jvm.Free.XS.ifnullYes X.here hx rfl rfl hd rfl ho hp u) q
theorem G.nullF (X : Stand p l e R s m args below meth c T locs cells slots) (hx : p.tables.exec = Jvm.exec) {b : Addr} {o : Int} (hd : decode c.code pc = .ok (.ifnull o, 3)) (hp : pc + 3 = pc') (q : Goes p e below T (mkF m pc' L S) P) : Goes p e below T (mkF m pc L (.ref b :: S)) P := by
  subst hp; exact Goes.via (fun _ u => Jvm.Free.XS.ifnullNo X.here hx rfl hd rfl u) q
theorem G.nonnullT (X : Stand p l e R s m args below meth c T locs cells slots) (hx : p.tables.exec = Jvm.exec) {b : Addr} {o : Int} (hd : decode c.code pc = .ok (.ifnonnull o, 3)) (ho : 0 ≤ (pc : Int) + o) (hp : ((pc : Int) + o).toNat = pc') (q : Goes p e below T (mkF m pc' L S) P) : Goes p e below T (mkF m pc L (.ref b :: S)) P :=
  Goes.via (fun _ u => Jvm.Free.XS.ifnonnullYes X.here hx rfl rfl hd rfl ho hp u) q
theorem G.nonnullF (X : Stand p l e R s m args below meth c T locs cells slots) (hx : p.tables.exec = Jvm.exec) {o : Int} (hd : decode c.code pc = .ok (.ifnonnull o, 3)) (hp : pc + 3 = pc') (q : Goes p e below T (mkF m pc' L S) P) : Goes p e below T (mkF m pc L (.null :: S)) P := by
  subst hp; exact Goes.via (fun _ u => Jvm.Free.XS.ifnonnullNo X.here hx rfl hd rfl u) q
theorem G.acmpT (X : Stand p l e R s m args below meth c T locs cells slots) (hx : p.tables.exec = Jvm.exec) {cd : ACond} {x y : Value} {o : Int} (hd : decode c.code pc = .ok (.if_acmp cd o, 3)) (h1 : x.isRef = true) (h2 : y.isRef = true) {same : Bool} (hq : decide (x = y) = same) (ho : 0 ≤ (pc : Int) + o) (hp : pc' = if acV cd same = true then ((pc : Int) + o).toNat else pc + 3) (q : Goes p e below T (mkF m pc' L S) P) : Goes p e below T (mkF m pc L (y :: x :: S)) P :=
  Goes.via (fun _ u => Jvm.RoadKit.acmp X hx rfl h1 h2 rfl hd rfl hq ho hp u) q
theorem G.ldcInt (X : Stand p l e R s m args below meth c T locs cells slots) (hx : p.tables.exec = Jvm.exec) (hZ : Z.Warmed39 s.vm) {own : String} {index : Nat} {v : Int32} (hown : s.vm.findClass own = some m.cls) (w : (Cond.constant own index v).before a0 Z = true) (hd : decode c.code pc = .ok (.ldc index, 2)) (hp : pc + 2 = pc') (q : Goes p e below T (mkF m pc' L (.int v :: S)) P) : Goes p e below T (mkF m pc L S) P := by
  subst hp; exact Goes.via (X.ldcInt hx hown (mvT hZ w) (g := mkF m pc L S) rfl hd) q
theorem G.ldcLong (X : Stand p l e R s m args below meth c T locs cells slots) (hx : p.tables.exec = Jvm.exec) (hZ : Z.Warmed39 s.vm) {own : String} {index : Nat} {v : Int64} (hown : s.vm.findClass own = some m.cls) (w : (Cond.constantLong own index v).before a0 Z = true) (hd : decode c.code pc = .ok (.ldc2_w index, 3)) (hp : pc + 3 = pc') (q : Goes p e below T (mkF m pc' L (.long v :: S)) P) : Goes p e below T (mkF m pc L S) P := by
  subst hp; exact Goes.via (X.ldc2Long hx hown (mvT hZ w) (g := mkF m pc L S) rfl hd) q
theorem G.getF (X : Stand p l e R s m args below meth c T locs cells slots) (hx : p.tables.exec = Jvm.exec) (hZ : Z.Warmed39 s.vm) {own R0 O n d : String} {index : Nat} (hown : s.vm.findClass own = some m.cls) (w : (Cond.fieldLink own index R0 n d).before a0 Z = true) (via : Via Z R0 O n d) (eT : T.heap = h) (F : Fld Z h a O n d v) (hd : decode c.code pc = .ok (.getfield index, 3)) (hp : pc + 3 = pc')
    (q : ∀ T', Stand p l e R s m args below meth c T' locs cells slots → T'.heap = h → Goes p e below T' (mkF m pc' L (v :: S)) P) : Goes p e below T (mkF m pc L (.ref a :: S)) P := by
  subst hp
  obtain ⟨T', X', e', st⟩ := Jvm.RoadKit.getF X hx hZ hown (host := "") (Or.inl w) via eT F (g := mkF m pc L (.ref a :: S)) rfl rfl hd
  exact Goes.via st (q T' X' e')
theorem G.getS (X : Stand p l e R s m args below meth c T locs cells slots) (hx : p.tables.exec = Jvm.exec) (hZ : Z.Warmed39 s.vm) {own R0 O n d : String} {index : Nat} (hown : s.vm.findClass own = some m.cls) (w : (Cond.fieldLink own index R0 n d).before a0 Z = true) (via : Via Z R0 O n d) (eT : T.heap = h) (F : Sta Z h O n d v) (hd : decode c.code pc = .ok (.getstatic index, 3)) (hp : pc + 3 = pc')
    (q : ∀ T', Stand p l e R s m args below meth c T' locs cells slots → T'.heap = h → Goes p e below T' (mkF m pc' L (v :: S)) P) : Goes p e below T (mkF m pc L S) P := by
  subst hp
  obtain ⟨T', X', e', st⟩ := Jvm.RoadKit.getS2 X hx hZ hown (host := "") (Or.inl w) via eT F (g := mkF m pc L S) rfl hd
  exact Goes.via st (q T' X' e')
theorem G.putF (X : Stand p l e R s m args below meth c T locs cells slots) (hx : p.tables.exec = Jvm.exec) (hZ : Z.Warmed39 s.vm) {own R0 O n d C : String} {index kk : Nat} {ty : FieldType} {old : Value} (hown : s.vm.findClass own = some m.cls) (w : (Cond.fieldLink own index R0 n d).before a0 Z = true) (via : Via Z R0 O n d) (eT : T.heap = h) (F : Fld Z h a O n d old) (E : Exa Z h a C) (Ly : (Cond.lays C O n d).before a0 Z = true ∨ ((Cond.laysFinal C O n d).before a0 Z = true ∧ own = O ∧ meth.name = "<init>")) (wi : (Cond.instantiable C kk).before a0 Z = true)
    (hty : parseFieldDescriptor d = some ty) (hn : narrow ty v = v) (hf : fits ty v = true) (hd : decode c.code pc = .ok (.putfield index, 3)) (hp : pc + 3 = pc')
    (q : ∀ T' h', Stand p l e R s m args below meth c T' (locs ++ [⟨a, Jvm.RoadKit.slotOf Z O n d⟩]) cells slots → T'.heap = h' → Wr h h' a (Jvm.RoadKit.slotOf Z O n d) v → Goes p e below T' (mkF m pc' L S) P) : Goes p e below T (mkF m pc L (v :: .ref a :: S)) P := by
  subst hp
  obtain ⟨T', h', X', e', W', st⟩ := Jvm.RoadKit.putF X hx hZ hown (host := "") (Or.inl w) via eT F E Ly wi hty hn hf (g := mkF m pc L (v :: .ref a :: S)) rfl rfl hd
  exact Goes.via st (q T' h' X' e' W')
theorem G.putFN (X : Stand p l e R s m args below meth c T locs cells slots) (hx : p.tables.exec = Jvm.exec) (hZ : Z.Warmed39 s.vm) {own R0 O n d C : String} {index kk : Nat} {ty : FieldType} {old v' : Value} (hown : s.vm.findClass own = some m.cls) (w : (Cond.fieldLink own index R0 n d).before a0 Z = true) (via : Via Z R0 O n d) (eT : T.heap = h) (F : Fld Z h a O n d old) (E : Exa Z h a C) (Ly : (Cond.lays C O n d).before a0 Z = true ∨ ((Cond.laysFinal C O n d).before a0 Z = true ∧ own = O ∧ meth.name = "<init>")) (wi : (Cond.instantiable C kk).before a0 Z = true)
    (hty : parseFieldDescriptor d = some ty) (hn : narrow ty v = v') (hf : fits ty v' = true) (hd : decode c.code pc = .ok (.putfield index, 3)) (hp : pc + 3 = pc')
    (q : ∀ T' h', Stand p l e R s m args below meth c T' (locs ++ [⟨a, Jvm.RoadKit.slotOf Z O n d⟩]) cells slots → T'.heap = h' → Wr h h' a (Jvm.RoadKit.slotOf Z O n d) v' → Goes p e below T' (mkF m pc' L S) P) : Goes p e below T (mkF m pc L (v :: .ref a :: S)) P := by
  subst hp
  obtain ⟨T', h', X', e', W', st⟩ := Jvm.RoadKit.putFN X hx hZ hown w via eT F E Ly wi hty hn hf (g := mkF m pc L (v :: .ref a :: S)) rfl rfl hd
  exact Goes.via st (q T' h' X' e' W')
theorem G.newO (X : Stand p l e R s m args below meth c T locs cells slots) (hx : p.tables.exec = Jvm.exec) (hZ : Z.Warmed39 s.vm) {own C : String} {index n : Nat} (hown : s.vm.findClass own = some m.cls) (w : (Cond.classLink own index C).before a0 Z = true) (wi : (Cond.instantiable C n).before a0 Z = true) (wz : (Cond.initialized C).before a0 Z = true) (eT : T.heap = h) (hd : decode c.code pc = .ok (.new index, 3)) (hc : cells + 1 ≤ R.cells) (hl : slots + n ≤ R.slots) (hp : pc + 3 = pc')
    (q : ∀ T' h' a, a = h.size → Stand p l e R s m args below meth c T' locs (cells + 1) (slots + n) → T'.heap = h' → Ext h h' → Exa Z h' a C → (∀ {O nm d : String} {ty : FieldType}, Laid Z a0 C O nm d → parseFieldDescriptor d = some ty → Fld Z h' a O nm d (defaultValue ty)) → Goes p e below T' (mkF m pc' L (.ref a :: S)) P) : Goes p e below T (mkF m pc L S) P := by
  subst hp
  obtain ⟨T', h', X', e', E', A', D', -, st⟩ := Jvm.RoadKit.newO X hx hZ hown w wi wz eT (g := mkF m pc L S) rfl hd hc hl
  exact Goes.via st (q T' h' _ rfl X' e' E' A' D')
theorem G.initO (X : Stand p l e R s m args below meth c T locs cells slots) (hx : p.tables.exec = Jvm.exec) (hZ : Z.Warmed39 s.vm) {own : String} {idx : Nat} (hown : s.vm.findClass own = some m.cls) (w1 : (Cond.methodLink own idx Lib.objectInit).before a0 Z = true) (w2 : (Cond.instanceMethod Lib.objectInit).before a0 Z = true) (w3 : (Cond.code Lib.objectInit ⟨#[0xb1]⟩ 1 none).before a0 Z = true) (eT : T.heap = h) (hsz : L.size = c.maxLocals) (hd : decode c.code pc = .ok (.invokespecial idx, 3)) (hf : 1 ≤ R.frames) {W : Nat} (hW : (S.map fun v => v.category).sum ≤ W) (hl : W + 12 ≤ R.locals) (hp : pc + 3 = pc')
    (q : ∀ T', Stand p l e R s m args below meth c T' locs cells slots → T'.heap = h → Goes p e below T' (mkF m pc' L S) P) : Goes p e below T (mkF m pc L (.ref a :: S)) P := by
  subst hp
  obtain ⟨T', X', e', st⟩ := Jvm.RoadKit.initO X hx hZ hown w1 w2 w3 eT (g := mkF m pc L (.ref a :: S)) rfl hsz rfl hd hf (W := W) (by show 2 * 0 + _ ≤ _; omega) hl
  exact Goes.via st (q T' X' e')
/-- an array's components, in order -/
def Seq (Z : State) (h : Heap) (a : Addr) (ty : FieldType) (vs : List Value) : Prop := ∃ cl : Cell, Arr Z h a cl ty ∧ cl.slots.toList = vs ∧ vs.length < 2 ^ 31
variable {vs : List Value} {ty : FieldType} {j : Int32}
theorem Seq.lt (F : Seq Z h a ty vs) : a < h.size := by obtain ⟨_, A, -⟩ := F; exact A.lt
theorem Seq.ext (F : Seq Z h a ty vs) (E : Ext h h') : Seq Z h' a ty vs := by obtain ⟨cl, A, r⟩ := F; exact ⟨cl, A.ext E, r⟩
theorem Seq.other {w : Value} (F : Seq Z h b ty vs) (W : Wr h h' a sl w) (q : b ≠ a) : Seq Z h' b ty vs := by obtain ⟨cl, A, r⟩ := F; exact ⟨cl, A.other W q, r⟩
theorem Seq.keep (F : Seq Z h a ty vs) (K : Keep h h' ws) (q : a ∉ ws) : Seq Z h' a ty vs := by obtain ⟨cl, A, r⟩ := F; exact ⟨cl, ⟨K.2.1 a cl A.1 q, A.2⟩, r⟩
theorem Seq.new {k : ClassId} {z : Int32} (A : Arr Z h a (newA k ty z) ty) (n : Nat) (hn : z.toNatClampNeg = n) : Seq Z h a ty (List.replicate n (defaultValue ty)) := by
  refine ⟨_, A, by rw [← hn]; simp [newA], ?_⟩
  rw [List.length_replicate, ← hn]
  have := Int32.toInt_lt z
  simp only [Int32.toNatClampNeg]
  omega
theorem Seq.at (F : Seq Z h a ty vs) (hj : ¬ j < 0) (hv : vs[j.toNatClampNeg]? = some v) : ∃ cl : Cell, h[a]? = some cl ∧ Z.isArrayOf cl ty ∧ cl.vm ≠ .unknown ∧ ¬ (j < 0 ∨ cl.slots.size ≤ j.toNatClampNeg) ∧ cl.slots[j.toNatClampNeg]? = some v := by
  obtain ⟨cl, A, rfl, hl⟩ := F
  rw [Array.getElem?_toList] at hv
  exact ⟨cl, A.1, A.2.1, A.2.2, fun q => q.elim hj fun q => by have := (Array.getElem?_eq_some_iff.mp hv).1; omega, hv⟩
theorem Seq.set (F : Seq Z h a ty vs) (W : Wr h h' a j.toNatClampNeg v) : Seq Z h' a ty (vs.set j.toNatClampNeg v) := by
  obtain ⟨cl, A, rfl, hl⟩ := F
  exact ⟨_, A.same W, by simp [Cell.setSlot], by simpa using hl⟩
theorem Seq.inb (F : Seq Z h a ty vs) (hj : ¬ j < 0) (hi : j.toNatClampNeg < vs.length) : ∃ cl : Cell, Arr Z h a cl ty ∧ ¬ (j < 0 ∨ cl.slots.size ≤ j.toNatClampNeg) := by
  obtain ⟨cl, A, rfl, hl⟩ := F
  exact ⟨cl, A, fun q => q.elim hj fun q => by rw [Array.length_toList] at hi; omega⟩
theorem G.newP (X : Stand p l e R s m args below meth c T locs cells slots) (hx : p.tables.exec = Jvm.exec) (hZ : Z.Warmed39 s.vm) {aty : ArrayType} (w : (Cond.arrayClass (newarray.typeOf aty)).before a0 Z = true) (eT : T.heap = h) (hd : decode c.code pc = .ok (.newarray aty, 2)) {z : Int32} (hz : ¬ z < 0) {cap n : Nat} (hn : z.toNatClampNeg = n) (hcap : n ≤ cap) (hb : cap * 8 ≤ 536870912) (hc : cells + 1 ≤ R.cells) (hl : slots + cap ≤ R.slots) (hp : pc + 2 = pc')
    (q : ∀ T' h' a, a = h.size → Stand p l e R s m args below meth c T' locs (cells + 1) (slots + cap) → T'.heap = h' → Ext h h' → Seq Z h' a (newarray.typeOf aty) (List.replicate n (defaultValue (newarray.typeOf aty))) → Goes p e below T' (mkF m pc' L (.ref a :: S)) P) : Goes p e below T (mkF m pc L (.int z :: S)) P := by
  subst hp
  obtain ⟨T', h', k, X', e', E', A', st⟩ := Jvm.RoadKit.newP X hx hZ w eT (g := mkF m pc L (.int z :: S)) rfl hd rfl hz (cap := cap) (hn ▸ hcap) hb hc hl
  exact Goes.via st (q T' h' _ rfl X' e' E' (Seq.new A' n hn))
theorem G.arraylength (X : Stand p l e R s m args below meth c T locs cells slots) (hx : p.tables.exec = Jvm.exec) (hZ : Z.Warmed39 s.vm) (eT : T.heap = h) (F : Seq Z h a ty vs) (hd : decode c.code pc = .ok (.arraylength, 1)) {z : Int32} (hz : vs.length.toInt32 = z) (hp : pc + 1 = pc') (q : Goes p e below T (mkF m pc' L (.int z :: S)) P) : Goes p e below T (mkF m pc L (.ref a :: S)) P := by
  subst hp
  obtain ⟨cl, A, rfl, hl⟩ := F
  rw [Array.length_toList] at hz
  subst hz
  exact Goes.via (fun t u => X.arraylength hx (by rw [eT]; exact A.1) (State.isArrayOf_alike hZ.alike A.2.1) (g := mkF m pc L (.ref a :: S)) rfl rfl hd t u) q
theorem G.iaload (X : Stand p l e R s m args below meth c T locs cells slots) (hx : p.tables.exec = Jvm.exec) (hZ : Z.Warmed39 s.vm) (eT : T.heap = h) (F : Seq Z h a .int vs) (hd : decode c.code pc = .ok (.iaload, 1)) (hj : ¬ j < 0) (hv : vs[j.toNatClampNeg]? = some v) (hp : pc + 1 = pc') (q : Goes p e below T (mkF m pc' L (v :: S)) P) : Goes p e below T (mkF m pc L (.int j :: .ref a :: S)) P := by
  subst hp
  obtain ⟨cl, q1, q2, q3, q4, q5⟩ := F.at hj hv
  exact Goes.via (fun t u => X.iaload hx (by rw [eT]; exact q1) (State.isArrayOf_alike hZ.alike q2) q3 q4 q5 (g := mkF m pc L (.int j :: .ref a :: S)) rfl rfl hd t u) q
theorem G.laload (X : Stand p l e R s m args below meth c T locs cells slots) (hx : p.tables.exec = Jvm.exec) (hZ : Z.Warmed39 s.vm) (eT : T.heap = h) (F : Seq Z h a .long vs) (hd : decode c.code pc = .ok (.laload, 1)) (hj : ¬ j < 0) (hv : vs[j.toNatClampNeg]? = some v) (hp : pc + 1 = pc') (q : Goes p e below T (mkF m pc' L (v :: S)) P) : Goes p e below T (mkF m pc L (.int j :: .ref a :: S)) P := by
  subst hp
  obtain ⟨cl, q1, q2, q3, q4, q5⟩ := F.at hj hv
  exact Goes.via (fun t u => X.laload hx (by rw [eT]; exact q1) (State.isArrayOf_alike hZ.alike q2) q3 q4 q5 (g := mkF m pc L (.int j :: .ref a :: S)) rfl rfl hd t u) q
theorem G.baload (X : Stand p l e R s m args below meth c T locs cells slots) (hx : p.tables.exec = Jvm.exec) (hZ : Z.Warmed39 s.vm) (eT : T.heap = h) (F : Seq Z h a .byte vs) (hd : decode c.code pc = .ok (.baload, 1)) (hj : ¬ j < 0) (hv : vs[j.toNatClampNeg]? = some v) (hp : pc + 1 = pc') (q : Goes p e below T (mkF m pc' L (v :: S)) P) : Goes p e below T (mkF m pc L (.int j :: .ref a :: S)) P := by
  subst hp
  obtain ⟨cl, q1, q2, q3, q4, q5⟩ := F.at hj hv
  exact Goes.via (fun t u => X.baloadBytes hx (by rw [eT]; exact q1) (State.isArrayOf_alike hZ.alike q2) q3 q4 q5 (g := mkF m pc L (.int j :: .ref a :: S)) rfl rfl hd t u) q
theorem G.zaload (X : Stand p l e R s m args below meth c T locs cells slots) (hx : p.tables.exec = Jvm.exec) (hZ : Z.Warmed39 s.vm) (eT : T.heap = h) (F : Seq Z h a .boolean vs) (hd : decode c.code pc = .ok (.baload, 1)) (hj : ¬ j < 0) (hv : vs[j.toNatClampNeg]? = some v) (hp : pc + 1 = pc') (q : Goes p e below T (mkF m pc' L (v :: S)) P) : Goes p e below T (mkF m pc L (.int j :: .ref a :: S)) P := by
  subst hp
  obtain ⟨cl, q1, q2, q3, q4, q5⟩ := F.at hj hv
  exact Goes.via (fun t u => X.baloadBooleans hx (by rw [eT]; exact q1) (State.isArrayOf_alike hZ.alike q2) q3 q4 q5 (g := mkF m pc L (.int j :: .ref a :: S)) rfl rfl hd t u) q
theorem G.caload (X : Stand p l e R s m args below meth c T locs cells slots) (hx : p.tables.exec = Jvm.exec) (hZ : Z.Warmed39 s.vm) (eT : T.heap = h) (F : Seq Z h a .char vs) (hd : decode c.code pc = .ok (.caload, 1)) (hj : ¬ j < 0) (hv : vs[j.toNatClampNeg]? = some v) (hp : pc + 1 = pc') (q : Goes p e below T (mkF m pc' L (v :: S)) P) : Goes p e below T (mkF m pc L (.int j :: .ref a :: S)) P := by
  subst hp
  obtain ⟨cl, q1, q2, q3, q4, q5⟩ := F.at hj hv
  exact Goes.via (fun t u => X.caload hx (by rw [eT]; exact q1) (State.isArrayOf_alike hZ.alike q2) q3 q4 q5 (g := mkF m pc L (.int j :: .ref a :: S)) rfl rfl hd t u) q
theorem G.aaload (X : Stand p l e R s m args below meth c T locs cells slots) (hx : p.tables.exec = Jvm.exec) (hZ : Z.Warmed39 s.vm) (eT : T.heap = h) (F : Seq Z h a ty vs) (hty : ty.isReference = true) (hd : decode c.code pc = .ok (.aaload, 1)) (hj : ¬ j < 0) (hv : vs[j.toNatClampNeg]? = some v) (hp : pc + 1 = pc') (q : Goes p e below T (mkF m pc' L (v :: S)) P) : Goes p e below T (mkF m pc L (.int j :: .ref a :: S)) P := by
  subst hp
  obtain ⟨cl, q1, q2, q3, q4, q5⟩ := F.at hj hv
  exact Goes.via (fun t u => X.aaload hx (by rw [eT]; exact q1) (State.isArrayOf_alike hZ.alike q2) hty q3 q4 q5 (g := mkF m pc L (.int j :: .ref a :: S)) rfl rfl hd t u) q
theorem G.iastore (X : Stand p l e R s m args below meth c T locs cells slots) (hx : p.tables.exec = Jvm.exec) (hZ : Z.Warmed39 s.vm) (eT : T.heap = h) (F : Seq Z h a .int vs) {x : Int32} (hd : decode c.code pc = .ok (.iastore, 1)) (hj : ¬ j < 0) (hi : j.toNatClampNeg < vs.length) (hp : pc + 1 = pc')
    (q : ∀ T' h', Stand p l e R s m args below meth c T' (locs ++ [⟨a, j.toNatClampNeg⟩]) cells slots → T'.heap = h' → Wr h h' a j.toNatClampNeg (.int x) → Seq Z h' a .int (vs.set j.toNatClampNeg (.int x)) → Goes p e below T' (mkF m pc' L S) P) : Goes p e below T (mkF m pc L (.int x :: .int j :: .ref a :: S)) P := by
  subst hp
  obtain ⟨cl, A, hj'⟩ := F.inb hj hi
  obtain ⟨T', h', X', e', W', st⟩ := Jvm.RoadKit.stI X hx hZ eT A hj' (g := mkF m pc L (.int x :: .int j :: .ref a :: S)) rfl rfl hd
  exact Goes.via st (q T' h' X' e' W' (F.set W'))
theorem G.lastore (X : Stand p l e R s m args below meth c T locs cells slots) (hx : p.tables.exec = Jvm.exec) (hZ : Z.Warmed39 s.vm) (eT : T.heap = h) (F : Seq Z h a .long vs) {x : Int64} (hd : decode c.code pc = .ok (.lastore, 1)) (hj : ¬ j < 0) (hi : j.toNatClampNeg < vs.length) (hp : pc + 1 = pc')
    (q : ∀ T' h', Stand p l e R s m args below meth c T' (locs ++ [⟨a, j.toNatClampNeg⟩]) cells slots → T'.heap = h' → Wr h h' a j.toNatClampNeg (.long x) → Seq Z h' a .long (vs.set j.toNatClampNeg (.long x)) → Goes p e below T' (mkF m pc' L S) P) : Goes p e below T (mkF m pc L (.long x :: .int j :: .ref a :: S)) P := by
  subst hp
  obtain ⟨cl, A, hj'⟩ := F.inb hj hi
  obtain ⟨T', h', X', e', W', st⟩ := Jvm.RoadKit.stJ X hx hZ eT A hj' (g := mkF m pc L (.long x :: .int j :: .ref a :: S)) rfl rfl hd
  exact Goes.via st (q T' h' X' e' W' (F.set W'))
theorem G.bastore (X : Stand p l e R s m args below meth c T locs cells slots) (hx : p.tables.exec = Jvm.exec) (hZ : Z.Warmed39 s.vm) (eT : T.heap = h) (F : Seq Z h a .byte vs) {x : Int32} (hd : decode c.code pc = .ok (.bastore, 1)) (hj : ¬ j < 0) (hi : j.toNatClampNeg < vs.length) (hp : pc + 1 = pc')
    (q : ∀ T' h', Stand p l e R s m args below meth c T' (locs ++ [⟨a, j.toNatClampNeg⟩]) cells slots → T'.heap = h' → Wr h h' a j.toNatClampNeg (.int (nar .byte x)) → Seq Z h' a .byte (vs.set j.toNatClampNeg (.int (nar .byte x))) → Goes p e below T' (mkF m pc' L S) P) : Goes p e below T (mkF m pc L (.int x :: .int j :: .ref a :: S)) P := by
  subst hp
  obtain ⟨cl, A, hj'⟩ := F.inb hj hi
  obtain ⟨T', h', X', e', W', st⟩ := Jvm.RoadKit.stB X hx hZ eT A hj' (g := mkF m pc L (.int x :: .int j :: .ref a :: S)) rfl rfl hd
  exact Goes.via st (q T' h' X' e' W' (F.set W'))
theorem G.zastore (X : Stand p l e R s m args below meth c T locs cells slots) (hx : p.tables.exec = Jvm.exec) (hZ : Z.Warmed39 s.vm) (eT : T.heap = h) (F : Seq Z h a .boolean vs) {x : Int32} (hd : decode c.code pc = .ok (.bastore, 1)) (hj : ¬ j < 0) (hi : j.toNatClampNeg < vs.length) (hp : pc + 1 = pc')
    (q : ∀ T' h', Stand p l e R s m args below meth c T' (locs ++ [⟨a, j.toNatClampNeg⟩]) cells slots → T'.heap = h' → Wr h h' a j.toNatClampNeg (.int (nar .boolean x)) → Seq Z h' a .boolean (vs.set j.toNatClampNeg (.int (nar .boolean x))) → Goes p e below T' (mkF m pc' L S) P) : Goes p e below T (mkF m pc L (.int x :: .int j :: .ref a :: S)) P := by
  subst hp
  obtain ⟨cl, A, hj'⟩ := F.inb hj hi
  obtain ⟨T', h', X', e', W', st⟩ := Jvm.RoadKit.stZ X hx hZ eT A hj' (g := mkF m pc L (.int x :: .int j :: .ref a :: S)) rfl rfl hd
  exact Goes.via st (q T' h' X' e' W' (F.set W'))
theorem G.castore (X : Stand p l e R s m args below meth c T locs cells slots) (hx : p.tables.exec = Jvm.exec) (hZ : Z.Warmed39 s.vm) (eT : T.heap = h) (F : Seq Z h a .char vs) {x : Int32} (hd : decode c.code pc = .ok (.castore, 1)) (hj : ¬ j < 0) (hi : j.toNatClampNeg < vs.length) (hp : pc + 1 = pc')
    (q : ∀ T' h', Stand p l e R s m args below meth c T' (locs ++ [⟨a, j.toNatClampNeg⟩]) cells slots → T'.heap = h' → Wr h h' a j.toNatClampNeg (.int (nar .char x)) → Seq Z h' a .char (vs.set j.toNatClampNeg (.int (nar .char x))) → Goes p e below T' (mkF m pc' L S) P) : Goes p e below T (mkF m pc L (.int x :: .int j :: .ref a :: S)) P := by
  subst hp
  obtain ⟨cl, A, hj'⟩ := F.inb hj hi
  obtain ⟨T', h', X', e', W', st⟩ := Jvm.RoadKit.stC X hx hZ eT A hj' (g := mkF m pc L (.int x :: .int j :: .ref a :: S)) rfl rfl hd
  exact Goes.via st (q T' h' X' e' W' (F.set W'))
variable {y : MethodName} {bytes : ByteArray} {maxL : Nat} {ret : Option FieldType} {rm : Room} {argsL S0 : List Value} {W : Nat} {QQ : Option Value → Heap → List Loc → Prop}
theorem G.callS (X : Stand p l e R s m args below meth c T locs cells slots) (hx : p.tables.exec = Jvm.exec) (hZ : Z.Warmed39 s.vm) {own : String} {index : Nat} (hown : s.vm.findClass own = some m.cls) (w1 : (Cond.methodLink own index y).before a0 Z = true) (w2 : (Cond.static y).before a0 Z = true) (w3 : (Cond.initialized y.cls).before a0 Z = true) (w4 : (Cond.code y bytes maxL ret).before a0 Z = true)
    (hy : y.cls ≠ "java/lang/invoke/MethodHandle" ∧ y.cls ≠ "java/lang/invoke/VarHandle") (eT : T.heap = h) (hC : Con l y bytes maxL ret rm Z argsL.toArray h QQ) (hlen : ∀ sig, parseMethodDescriptor y.desc = some sig → argsL.length = sig.parameters.length) (hst : S0 = argsL.reverse ++ S) (hW : (S.map fun v => v.category).sum ≤ W)
    (hf : rm.frames + 1 ≤ R.frames) (hl : W + (maxL + 11) + rm.locals ≤ R.locals) (hc : cells + rm.cells ≤ R.cells) (hs : slots + rm.slots ≤ R.slots) (hsz : L.size = c.maxLocals) (hd : decode c.code pc = .ok (.invokestatic index, 3)) (hp : pc + 3 = pc')
    (q : ∀ T' v Lc, QQ v T'.heap Lc → Stand p l e R s m args below meth c T' (locs ++ Lc) (cells + rm.cells) (slots + rm.slots) → Goes p e below T' (mkF m pc' L (v.toList ++ S)) P) : Goes p e below T (mkF m pc L S0) P := by
  subst hp
  obtain ⟨v, vm1, ⟨T', L1, k1, n1⟩, hw1, X', ⟨Lc, hQ, l1, y1, z1⟩, st⟩ := Jvm.LawKit.callS X hx (y := y) hown (mvT hZ w1) (mvT hZ w2) (mvT hZ w3) (mvT hZ w4) hy (hC.back (W := W) hZ w4 w3 hf hl) (g := mkF m pc L S0) rfl hsz (argsL := argsL) (rest := S) hlen hst (by show 2 * 0 + _ ≤ _; omega) hd (fun _ _ => ⟨rfl, eT, hc, hs⟩)
  dsimp only [Pt.U, Pt.locs, Pt.cells, Pt.slots] at X' l1 y1 z1 st hQ
  subst l1 y1 z1
  exact Goes.via st (q T' v Lc hQ X')
theorem G.callI (X : Stand p l e R s m args below meth c T locs cells slots) (hx : p.tables.exec = Jvm.exec) (hZ : Z.Warmed39 s.vm) {own : String} {index : Nat} (hy1 : y.name = "<init>") (hown : s.vm.findClass own = some m.cls) (w1 : (Cond.methodLink own index y).before a0 Z = true) (w2 : (Cond.instanceMethod y).before a0 Z = true) (w3 : (Cond.initialized y.cls).before a0 Z = true) (w4 : (Cond.code y bytes maxL none).before a0 Z = true)
    (hy : y.cls ≠ "java/lang/invoke/MethodHandle" ∧ y.cls ≠ "java/lang/invoke/VarHandle") (eT : T.heap = h) (hC : Con l y bytes maxL none rm Z (.ref a :: argsL).toArray h QQ) (hlen : ∀ sig, parseMethodDescriptor y.desc = some sig → argsL.length = sig.parameters.length) (hst : S0 = argsL.reverse ++ .ref a :: S) (hW : (S.map fun v => v.category).sum ≤ W)
    (hf : rm.frames + 1 ≤ R.frames) (hl : W + (maxL + 11) + rm.locals ≤ R.locals) (hc : cells + rm.cells ≤ R.cells) (hs : slots + rm.slots ≤ R.slots) (hsz : L.size = c.maxLocals) (hd : decode c.code pc = .ok (.invokespecial index, 3)) (hp : pc + 3 = pc')
    (q : ∀ T' v Lc, QQ v T'.heap Lc → Stand p l e R s m args below meth c T' (locs ++ Lc) (cells + rm.cells) (slots + rm.slots) → Goes p e below T' (mkF m pc' L (v.toList ++ S)) P) : Goes p e below T (mkF m pc L S0) P := by
  subst hp
  obtain ⟨v, vm1, ⟨T', L1, k1, n1⟩, hw1, X', ⟨Lc, hQ, l1, y1, z1⟩, st⟩ := X.specialBack hx (y := y) hy1 hown (mvT hZ w1) (mvT hZ w2) (mvT hZ w4) hy (hC.back (W := W) hZ w4 w3 hf hl) (g := mkF m pc L S0) rfl hsz (Steps.refl _) (a := a) (argsL := argsL) (rest := S) hlen hst (by show 2 * 0 + _ ≤ _; omega) hd (fun _ _ => ⟨rfl, eT, hc, hs⟩)
  dsimp only [Pt.U, Pt.locs, Pt.cells, Pt.slots] at X' l1 y1 z1 st hQ
  subst l1 y1 z1
  exact Goes.thru st (q T' v Lc hQ X')
theorem G.callV (X : Stand p l e R s m args below meth c T locs cells slots) (hx : p.tables.exec = Jvm.exec) (hZ : Z.Warmed39 s.vm) {own C : String} {index : Nat} {y0 : MethodName} (hown : s.vm.findClass own = some m.cls) (w1 : (Cond.methodLink own index y0).before a0 Z = true) (w2 : (Cond.declares y0).before a0 Z = true) (hnf : NotFace s y0) (w3 : (Cond.selects C y0 y).before a0 Z = true) (w4 : (Cond.instanceMethod y).before a0 Z = true) (w5 : (Cond.initialized y.cls).before a0 Z = true) (w6 : (Cond.code y bytes maxL ret).before a0 Z = true)
    (hy : y0.cls ≠ "java/lang/invoke/MethodHandle" ∧ y0.cls ≠ "java/lang/invoke/VarHandle") (eT : T.heap = h) (E : Exa Z h a C) (hC : Con l y bytes maxL ret rm Z (.ref a :: argsL).toArray h QQ) (hlen : ∀ sig, parseMethodDescriptor y0.desc = some sig → argsL.length = sig.parameters.length) (hst : S0 = argsL.reverse ++ .ref a :: S) (hW : (S.map fun v => v.category).sum ≤ W)
    (hf : rm.frames + 1 ≤ R.frames) (hl : W + (maxL + 11) + rm.locals ≤ R.locals) (hc : cells + rm.cells ≤ R.cells) (hs : slots + rm.slots ≤ R.slots) (hsz : L.size = c.maxLocals) (hd : decode c.code pc = .ok (.invokevirtual index, 3)) (hp : pc + 3 = pc')
    (q : ∀ T' v Lc, QQ v T'.heap Lc → Stand p l e R s m args below meth c T' (locs ++ Lc) (cells + rm.cells) (slots + rm.slots) → Goes p e below T' (mkF m pc' L (v.toList ++ S)) P) : Goes p e below T (mkF m pc L S0) P := by
  subst hp
  obtain ⟨cB, kB, i1, i2, i3⟩ := isOf hZ eT E
  obtain ⟨v, vm1, ⟨T', L1, k1, n1⟩, hw1, X', ⟨Lc, hQ, l1, y1, z1⟩, st⟩ := X.virtualBack hx (y := y0) (z := y) hown (mvT hZ w1) (mvT hZ w2) hnf (mvT hZ w3) (mvT hZ w4) hy (hC.back (W := W) hZ w6 w5 hf hl) i1 i3 (g := mkF m pc L S0) rfl hsz (Steps.refl _) (argsL := argsL) (rest := S) hlen hst (by show 2 * 0 + _ ≤ _; omega) hd (fun _ _ => ⟨rfl, eT, hc, hs⟩)
  dsimp only [Pt.U, Pt.locs, Pt.cells, Pt.slots] at X' l1 y1 z1 st hQ
  subst l1 y1 z1
  exact Goes.thru st (q T' v Lc hQ X')
def Pur (v0 : Option Value) (h0 : Heap) (v : Option Value) (h : Heap) (L : List Loc) : Prop := v = v0 ∧ h = h0 ∧ L = []
theorem Seq.arv (F : Seq Z h a ty vs) (hf : ∀ v ∈ vs, fits ty v = true) {z : Int32} (hz : z.toNatClampNeg = vs.length) (hz0 : ¬ z < 0) (dv : Value) : ∃ k, Arv Z h a k ty z vs dv := by
  obtain ⟨cl, A, rfl, hl⟩ := F
  rw [Array.length_toList] at hz
  have hg : ∀ i, i < cl.slots.size → cl.slots[i]? = some (cl.slots.toList.getD i dv) := fun i hi => by
    rw [List.getD_eq_getElem?_getD, Array.getElem?_toList, Array.getElem?_eq_getElem hi]; rfl
  refine ⟨cl.cls, cl, A, rfl, hz.symm, hz0, hg, fun i hi => hf _ ?_⟩
  have := hg i hi
  rw [Array.getElem?_eq_getElem hi] at this
  rw [← Option.some.inj this]
  exact Array.mem_toList_iff.mpr (Array.getElem_mem hi)
theorem Arv.seq {k : ClassId} {z : Int32} {dv : Value} (F : Arv Z h a k ty z vs dv) (hl : vs.length = z.toNatClampNeg) : Seq Z h a ty vs := by
  obtain ⟨cl, A, -, S, hz, H, -⟩ := F
  refine ⟨cl, A, ?_, ?_⟩
  · apply List.ext_getElem?
    intro i
    rw [Array.getElem?_toList]
    by_cases hi : i < cl.slots.size
    · rw [H i hi, List.getD_eq_getElem?_getD, List.getElem?_eq_getElem (by omega)]; rfl
    · rw [Array.getElem?_eq_none (by omega), List.getElem?_eq_none (by omega)]
  · have := Int32.toInt_lt z
    rw [hl]; simp only [Int32.toNatClampNeg]; omega
/-- System.arraycopy of the whole int[] a into the head of the int[] b -/
theorem G.copyInts (X : Stand p l e R s m args below meth c T locs cells slots) (hx : p.tables.exec = Jvm.exec) (hZ : Z.Warmed39 s.vm) {own : String} {index : Nat} (hown : s.vm.findClass own = some m.cls) (w1 : (Cond.methodLink own index Jvm.Stand.acN).before a0 Z = true) (w2 : (Cond.native Jvm.Stand.acN).before a0 Z = true) (w3 : (Cond.static Jvm.Stand.acN).before a0 Z = true) (w4 : (Cond.initialized "java/lang/System").before a0 Z = true) (eT : T.heap = h)
    {xs ys : List Value} (A : Seq Z h a .int xs) (B : Seq Z h b .int ys) (hfx : ∀ v ∈ xs, fits .int v = true) (hfy : ∀ v ∈ ys, fits .int v = true) {z z' : Int32} (hz : z.toNatClampNeg = xs.length) (hz0 : ¬ z < 0) (hz' : z'.toNatClampNeg = ys.length) (hz0' : ¬ z' < 0) (hle : xs.length ≤ ys.length) {n0 : Nat} (N : Fr n0 locs) (ge : n0 ≤ b)
    (hsz : L.size = c.maxLocals) (hd : decode c.code pc = .ok (.invokestatic index, 3)) (hf : 1 ≤ R.frames) {W : Nat} (hW : (S.map fun v => v.category).sum ≤ W) (hlo : W + (nativeFrameWords "java/lang/System" "arraycopy" 5 + 11) ≤ R.locals) (hp : pc + 3 = pc')
    (q : ∀ T' h' L', Stand p l e R s m args below meth c T' L' cells slots → T'.heap = h' → Fr n0 L' → Keep h h' [b] → Seq Z h' b .int (xs ++ ys.drop xs.length) → Goes p e below T' (mkF m pc' L S) P) : Goes p e below T (mkF m pc L (.int z :: .int (0 : Int32) :: .ref b :: .int (0 : Int32) :: .ref a :: S)) P := by
  subst hp
  obtain ⟨ka, FA⟩ := A.arv hfx hz hz0 (.int 0)
  obtain ⟨kb, FB⟩ := B.arv hfy hz' hz0' (.int 0)
  have e0 : (0 : Int32).toNatClampNeg = 0 := rfl
  have hus : xs = (List.range z.toNatClampNeg).map fun i => xs.getD ((0 : Int32).toNatClampNeg + i) (.int 0) := by
    refine List.ext_getElem (by simp [hz]) fun i h1 h2 => ?_
    simp [List.getD_eq_getElem?_getD, h1, e0]
  obtain ⟨T', h', L', X', e', N', K', F', st⟩ := Jvm.RoadKit.cpA X hx hZ hown w1 w2 w3 w4 eT (us := xs) FA FB (Or.inl ⟨rfl, rfl⟩) (sp := 0) (dp := 0) (nn := z) (by decide) (by decide) hz0 (by rw [e0]; omega) (by rw [e0]; omega) hus (by rw [e0]; omega) N ge (g := mkF m pc L (.int z :: .int (0 : Int32) :: .ref b :: .int (0 : Int32) :: .ref a :: S)) rfl hsz rfl hd hf (W := W) (by show 2 * 0 + _ ≤ _; omega) hlo
  refine Goes.via st (q T' h' L' X' e' N' K' ?_)
  have := Arv.seq F' (by rw [e0]; simp; omega)
  rw [e0, hz] at this
  simpa using this
theorem sel_priv {s : State} {args : Array Value} {n : Nat} (hins : (Cond.instantiable y.cls n).before args s = true) (hpriv : (Cond.privateMethod y).before args s = true) (hinst : (Cond.instanceMethod y).before args s = true) (hy : y.cls ≠ "java/lang/invoke/MethodHandle" ∧ y.cls ≠ "java/lang/invoke/VarHandle") : (Cond.selects y.cls y y).before args s = true := by
  obtain ⟨c, k, hc, hk, -, hniab, -, -⟩ := Cond.instantiable_spec hins
  have hni : k.isInterface = false := (Bool.or_eq_false_iff.mp hniab).1
  obtain ⟨mk, methM, hnamed, hmethM, -, -⟩ := Cond.instanceMethod_spec hinst
  have hfound : s.methodFound? y.cls y.name y.desc = some mk := State.methodFound?_of_named hnamed hy
  have hcls : mk.cls = c := Option.some.inj ((findClass_of_methodNamed hnamed).symm.trans hc)
  have hsel : selectMethod {} s.vm c mk = .method mk := selectMethod_private hmethM (Cond.privateMethod_at hpriv mk methM hnamed hmethM)
  simp only [Cond.before, Cond.holds, Cond.value, hc, hfound, hnamed, hsel, hcls, hk]
  simp; exact hni
theorem G.callP (X : Stand p l e R s m args below meth c T locs cells slots) (hx : p.tables.exec = Jvm.exec) (hZ : Z.Warmed39 s.vm) {own : String} {index : Nat} (hown : s.vm.findClass own = some m.cls) (w1 : (Cond.methodLink own index y).before a0 Z = true) (w2 : (Cond.instanceMethod y).before a0 Z = true) {kk : Nat} (w3 : (Cond.instantiable y.cls kk).before a0 Z = true) (w4 : (Cond.privateMethod y).before a0 Z = true) (w5 : (Cond.initialized y.cls).before a0 Z = true) (w6 : (Cond.code y bytes maxL ret).before a0 Z = true)
    (hy : y.cls ≠ "java/lang/invoke/MethodHandle" ∧ y.cls ≠ "java/lang/invoke/VarHandle") (eT : T.heap = h) {C : String} (E : Exa Z h a C) (hC : Con l y bytes maxL ret rm Z (.ref a :: argsL).toArray h QQ) (hlen : ∀ sig, parseMethodDescriptor y.desc = some sig → argsL.length = sig.parameters.length) (hst : S0 = argsL.reverse ++ .ref a :: S) (hW : (S.map fun v => v.category).sum ≤ W)
    (hf : rm.frames + 1 ≤ R.frames) (hl : W + (maxL + 11) + rm.locals ≤ R.locals) (hc : cells + rm.cells ≤ R.cells) (hs : slots + rm.slots ≤ R.slots) (hsz : L.size = c.maxLocals) (hd : decode c.code pc = .ok (.invokevirtual index, 3)) (hp : pc + 3 = pc')
    (q : ∀ T' v Lc, QQ v T'.heap Lc → Stand p l e R s m args below meth c T' (locs ++ Lc) (cells + rm.cells) (slots + rm.slots) → Goes p e below T' (mkF m pc' L (v.toList ++ S)) P) : Goes p e below T (mkF m pc L S0) P := by
  subst hp
  obtain ⟨cl, i1, i2⟩ := E.cell
  obtain ⟨v, vm1, ⟨T', L1, k1, n1⟩, hw1, X', ⟨Lc, hQ, l1, y1, z1⟩, st⟩ := X.privateBack hx (y := y) hown (mvT hZ w1) (mvT hZ w2) (sel_priv (mvT hZ w3) (mvP hZ w4) (mvT hZ w2) hy) (Cond.privateMethod_at (mvP hZ w4 (args := #[]))) (mvT hZ w6) hy (hC.back (W := W) hZ w6 w5 hf hl) (g := mkF m pc L S0) rfl hsz (Steps.refl _) (a := a) (by rw [eT]; exact i1) i2 (argsL := argsL) (rest := S) hlen hst (by show 2 * 0 + _ ≤ _; omega) hd (fun _ _ => ⟨rfl, eT, hc, hs⟩)
  dsimp only [Pt.U, Pt.locs, Pt.cells, Pt.slots] at X' l1 y1 z1 st hQ
  subst l1 y1 z1
  exact Goes.thru st (q T' v Lc hQ X')
theorem Sta.keep0 {C n d : String} (F : Sta Z h C n d v) (K : Keep h h' []) : Sta Z h' C n d v := by
  obtain ⟨cf, i, k, f, st, cell, h1, h2, h3, h4, h5, r⟩ := F
  exact ⟨cf, i, k, f, st, cell, h1, h2, h3, h4, K.2.1 _ _ h5 nin0, r⟩
theorem Goes.join {α : Type} {F : α → JFrame} (k : (∀ z, Goes p e below T (F z) P) → Goes p e below T f P) (hj : ∀ z, Goes p e below T (F z) P) : Goes p e below T f P := k hj
theorem Goes.to (k : Goes p e below T f' P → Goes p e below T f P) (q : Goes p e below T f' P) : Goes p e below T f P := k q
theorem Goes.toT (Φ : State → Prop) (k : (∀ T', Φ T' → Goes p e below T' f' P) → Goes p e below T f P) (q : ∀ T', Φ T' → Goes p e below T' f' P) : Goes p e below T f P := k q
end G
end Jvm.OwnKit
namespace Jvm.Pilot.@@N@@
open Jvm Jvm.ClassFile Sem Op Lib Jvm.Free Jvm.Stand Jvm.LawKit Jvm.RoadKit Jvm.OwnKit Bundle Jvm.Pilot.@@N@@.Jvm.D
theorem d6_0 : decode prog_48_method_8_code 0 = .ok (.aload_n 0, 1) := by decide +kernel
theorem d6_1 : decode prog_48_method_8_code 1 = .ok (.getfield 13, 3) := by decide +kernel
theorem d6_4 : decode prog_48_method_8_code 4 = .ok (.iload_n 2, 1) := by decide +kernel
theorem d6_5 : decode prog_48_method_8_code 5 = .ok (.iload_n 1, 1) := by decide +kernel
theorem d6_6 : decode prog_48_method_8_code 6 = .ok (.iastore, 1) := by decide +kernel
theorem d6_7 : decode prog_48_method_8_code 7 = .ok (.aload_n 0, 1) := by decide +kernel
theorem d6_8 : decode prog_48_method_8_code 8 = .ok (.getfield 17, 3) := by decide +kernel
theorem d6_11 : decode prog_48_method_8_code 11 = .ok (.iload_n 1, 1) := by decide +kernel
theorem d6_12 : decode prog_48_method_8_code 12 = .ok (.iload_n 2, 1) := by decide +kernel
theorem d6_13 : decode prog_48_method_8_code 13 = .ok (.iastore, 1) := by decide +kernel
theorem d6_14 : decode prog_48_method_8_code 14 = .ok (.return_, 1) := by decide +kernel
theorem ef6_RII (m : MethodId) (x0 : Addr) (x1 : Int32) (x2 : Int32) : entryFrame m #[(.ref x0), (.int x1), (.int x2)] 3 = mkF m 0 #[.val (.ref x0), .val (.int x1), .val (.int x2)] [] := by first | (simp [entryFrame, mkF, argsToLocals, Value.category]; done) | rfl
theorem pn_0 : plainName "com/example/netlocus/netlocus/PlaceQueue" = true := by first | (simp [plainName, overriddenIn]; done) | decide +kernel
theorem d5_0 : decode prog_48_method_6_code 0 = .ok (.aload_n 0, 1) := by decide +kernel
theorem d5_1 : decode prog_48_method_6_code 1 = .ok (.getfield 7, 3) := by decide +kernel
theorem d5_4 : decode prog_48_method_6_code 4 = .ok (.iload_n 1, 1) := by decide +kernel
theorem d5_5 : decode prog_48_method_6_code 5 = .ok (.laload, 1) := by decide +kernel
theorem d5_6 : decode prog_48_method_6_code 6 = .ok (.lstore_n 3, 1) := by decide +kernel
theorem d5_7 : decode prog_48_method_6_code 7 = .ok (.iload_n 2, 1) := by decide +kernel
theorem d5_8 : decode prog_48_method_6_code 8 = .ok (.istore 5, 2) := by decide +kernel
theorem d5_10 : decode prog_48_method_6_code 10 = .ok (.iload 5, 2) := by decide +kernel
theorem d5_12 : decode prog_48_method_6_code 12 = .ok (.ifCond .le 51, 3) := by decide +kernel
theorem d5_63 : decode prog_48_method_6_code 63 = .ok (.aload_n 0, 1) := by decide +kernel
theorem d5_64 : decode prog_48_method_6_code 64 = .ok (.iload_n 1, 1) := by decide +kernel
theorem d5_65 : decode prog_48_method_6_code 65 = .ok (.iload 5, 2) := by decide +kernel
theorem pd_1 : parseMethodDescriptor "(II)V" = some ⟨[.int, .int], none⟩ := by decide +kernel
theorem d5_67 : decode prog_48_method_6_code 67 = .ok (.invokevirtual 46, 3) := by decide +kernel
theorem d5_70 : decode prog_48_method_6_code 70 = .ok (.return_, 1) := by decide +kernel
theorem d5_15 : decode prog_48_method_6_code 15 = .ok (.iload 5, 2) := by decide +kernel
theorem d5_17 : decode prog_48_method_6_code 17 = .ok (.iconst 1, 1) := by decide +kernel
theorem d5_18 : decode prog_48_method_6_code 18 = .ok (.isub, 1) := by decide +kernel
theorem d5_19 : decode prog_48_method_6_code 19 = .ok (.iconst 1, 1) := by decide +kernel
theorem d5_20 : decode prog_48_method_6_code 20 = .ok (.iushr, 1) := by decide +kernel
theorem d5_21 : decode prog_48_method_6_code 21 = .ok (.istore 6, 2) := by decide +kernel
theorem d5_23 : decode prog_48_method_6_code 23 = .ok (.aload_n 0, 1) := by decide +kernel
theorem d5_24 : decode prog_48_method_6_code 24 = .ok (.getfield 7, 3) := by decide +kernel
theorem d5_27 : decode prog_48_method_6_code 27 = .ok (.aload_n 0, 1) := by decide +kernel
theorem d5_28 : decode prog_48_method_6_code 28 = .ok (.getfield 13, 3) := by decide +kernel
theorem d5_31 : decode prog_48_method_6_code 31 = .ok (.iload 6, 2) := by decide +kernel
theorem d5_33 : decode prog_48_method_6_code 33 = .ok (.iaload, 1) := by decide +kernel
theorem d5_34 : decode prog_48_method_6_code 34 = .ok (.laload, 1) := by decide +kernel
theorem d5_35 : decode prog_48_method_6_code 35 = .ok (.lload_n 3, 1) := by decide +kernel
theorem d5_36 : decode prog_48_method_6_code 36 = .ok (.lcmp, 1) := by decide +kernel
theorem d5_37 : decode prog_48_method_6_code 37 = .ok (.ifCond .gt 6, 3) := by decide +kernel
theorem d5_43 : decode prog_48_method_6_code 43 = .ok (.aload_n 0, 1) := by decide +kernel
theorem d5_44 : decode prog_48_method_6_code 44 = .ok (.aload_n 0, 1) := by decide +kernel
theorem d5_45 : decode prog_48_method_6_code 45 = .ok (.getfield 13, 3) := by decide +kernel
theorem d5_48 : decode prog_48_method_6_code 48 = .ok (.iload 6, 2) := by decide +kernel
theorem d5_50 : decode prog_48_method_6_code 50 = .ok (.iaload, 1) := by decide +kernel
theorem d5_51 : decode prog_48_method_6_code 51 = .ok (.iload 5, 2) := by decide +kernel
theorem d5_53 : decode prog_48_method_6_code 53 = .ok (.invokevirtual 46, 3) := by decide +kernel
theorem d5_56 : decode prog_48_method_6_code 56 = .ok (.iload 6, 2) := by decide +kernel
theorem d5_58 : decode prog_48_method_6_code 58 = .ok (.istore 5, 2) := by decide +kernel
theorem d5_60 : decode prog_48_method_6_code 60 = .ok (.goto (-50), 3) := by decide +kernel
theorem d5_40 : decode prog_48_method_6_code 40 = .ok (.goto 23, 3) := by decide +kernel
theorem ef5_RII (m : MethodId) (x0 : Addr) (x1 : Int32) (x2 : Int32) : entryFrame m #[(.ref x0), (.int x1), (.int x2)] 7 = mkF m 0 #[.val (.ref x0), .val (.int x1), .val (.int x2), .unset, .unset, .unset, .unset] [] := by first | (simp [entryFrame, mkF, argsToLocals, Value.category]; done) | rfl
theorem d4_0 : decode prog_48_method_4_code 0 = .ok (.aload_n 0, 1) := by decide +kernel
theorem d4_1 : decode prog_48_method_4_code 1 = .ok (.getfield 17, 3) := by decide +kernel
theorem d4_4 : decode prog_48_method_4_code 4 = .ok (.iload_n 1, 1) := by decide +kernel
theorem d4_5 : decode prog_48_method_4_code 5 = .ok (.iaload, 1) := by decide +kernel
theorem d4_6 : decode prog_48_method_4_code 6 = .ok (.istore_n 2, 1) := by decide +kernel
theorem d4_7 : decode prog_48_method_4_code 7 = .ok (.iload_n 2, 1) := by decide +kernel
theorem d4_8 : decode prog_48_method_4_code 8 = .ok (.ifCond .ge 18, 3) := by decide +kernel
theorem d4_11 : decode prog_48_method_4_code 11 = .ok (.aload_n 0, 1) := by decide +kernel
theorem d4_12 : decode prog_48_method_4_code 12 = .ok (.getfield 26, 3) := by decide +kernel
theorem d4_15 : decode prog_48_method_4_code 15 = .ok (.istore_n 2, 1) := by decide +kernel
theorem d4_16 : decode prog_48_method_4_code 16 = .ok (.aload_n 0, 1) := by decide +kernel
theorem d4_17 : decode prog_48_method_4_code 17 = .ok (.dup, 1) := by decide +kernel
theorem d4_18 : decode prog_48_method_4_code 18 = .ok (.getfield 26, 3) := by decide +kernel
theorem d4_21 : decode prog_48_method_4_code 21 = .ok (.iconst 1, 1) := by decide +kernel
theorem d4_22 : decode prog_48_method_4_code 22 = .ok (.iadd, 1) := by decide +kernel
theorem d4_23 : decode prog_48_method_4_code 23 = .ok (.putfield 26, 3) := by decide +kernel
theorem d4_26 : decode prog_48_method_4_code 26 = .ok (.aload_n 0, 1) := by decide +kernel
theorem d4_27 : decode prog_48_method_4_code 27 = .ok (.iload_n 1, 1) := by decide +kernel
theorem d4_28 : decode prog_48_method_4_code 28 = .ok (.iload_n 2, 1) := by decide +kernel
theorem d4_29 : decode prog_48_method_4_code 29 = .ok (.invokevirtual 30, 3) := by decide +kernel
theorem d4_32 : decode prog_48_method_4_code 32 = .ok (.return_, 1) := by decide +kernel
theorem ef4_RI (m : MethodId) (x0 : Addr) (x1 : Int32) : entryFrame m #[(.ref x0), (.int x1)] 3 = mkF m 0 #[.val (.ref x0), .val (.int x1), .unset] [] := by first | (simp [entryFrame, mkF, argsToLocals, Value.category]; done) | rfl
theorem d11_0 : decode prog_48_method_7_code 0 = .ok (.aload_n 0, 1) := by decide +kernel
theorem d11_1 : decode prog_48_method_7_code 1 = .ok (.getfield 7, 3) := by decide +kernel
theorem d11_4 : decode prog_48_method_7_code 4 = .ok (.iload_n 1, 1) := by decide +kernel
theorem d11_5 : decode prog_48_method_7_code 5 = .ok (.laload, 1) := by decide +kernel
theorem d11_6 : decode prog_48_method_7_code 6 = .ok (.lstore_n 3, 1) := by decide +kernel
theorem d11_7 : decode prog_48_method_7_code 7 = .ok (.iload_n 2, 1) := by decide +kernel
theorem d11_8 : decode prog_48_method_7_code 8 = .ok (.istore 5, 2) := by decide +kernel
theorem d11_10 : decode prog_48_method_7_code 10 = .ok (.iconst 2, 1) := by decide +kernel
theorem d11_11 : decode prog_48_method_7_code 11 = .ok (.iload 5, 2) := by decide +kernel
theorem d11_13 : decode prog_48_method_7_code 13 = .ok (.imul, 1) := by decide +kernel
theorem d11_14 : decode prog_48_method_7_code 14 = .ok (.iconst 1, 1) := by decide +kernel
theorem d11_15 : decode prog_48_method_7_code 15 = .ok (.iadd, 1) := by decide +kernel
theorem d11_16 : decode prog_48_method_7_code 16 = .ok (.istore 6, 2) := by decide +kernel
theorem d11_18 : decode prog_48_method_7_code 18 = .ok (.iload 6, 2) := by decide +kernel
theorem d11_20 : decode prog_48_method_7_code 20 = .ok (.aload_n 0, 1) := by decide +kernel
theorem d11_21 : decode prog_48_method_7_code 21 = .ok (.getfield 26, 3) := by decide +kernel
theorem d11_24 : decode prog_48_method_7_code 24 = .ok (.if_icmp .lt 6, 3) := by decide +kernel
theorem d11_27 : decode prog_48_method_7_code 27 = .ok (.goto 87, 3) := by decide +kernel
theorem d11_114 : decode prog_48_method_7_code 114 = .ok (.aload_n 0, 1) := by decide +kernel
theorem d11_115 : decode prog_48_method_7_code 115 = .ok (.iload_n 1, 1) := by decide +kernel
theorem d11_116 : decode prog_48_method_7_code 116 = .ok (.iload 5, 2) := by decide +kernel
theorem d11_118 : decode prog_48_method_7_code 118 = .ok (.invokevirtual 46, 3) := by decide +kernel
theorem d11_121 : decode prog_48_method_7_code 121 = .ok (.return_, 1) := by decide +kernel
theorem d11_30 : decode prog_48_method_7_code 30 = .ok (.iload 6, 2) := by decide +kernel
theorem d11_32 : decode prog_48_method_7_code 32 = .ok (.iconst 1, 1) := by decide +kernel
theorem d11_33 : decode prog_48_method_7_code 33 = .ok (.iadd, 1) := by decide +kernel
theorem d11_34 : decode prog_48_method_7_code 34 = .ok (.aload_n 0, 1) := by decide +kernel
theorem d11_35 : decode prog_48_method_7_code 35 = .ok (.getfield 26, 3) := by decide +kernel
theorem d11_38 : decode prog_48_method_7_code 38 = .ok (.if_icmp .ge 36, 3) := by decide +kernel
theorem d11_74 : decode prog_48_method_7_code 74 = .ok (.aload_n 0, 1) := by decide +kernel
theorem d11_75 : decode prog_48_method_7_code 75 = .ok (.getfield 7, 3) := by decide +kernel
theorem d11_78 : decode prog_48_method_7_code 78 = .ok (.aload_n 0, 1) := by decide +kernel
theorem d11_79 : decode prog_48_method_7_code 79 = .ok (.getfield 13, 3) := by decide +kernel
theorem d11_82 : decode prog_48_method_7_code 82 = .ok (.iload 6, 2) := by decide +kernel
theorem d11_84 : decode prog_48_method_7_code 84 = .ok (.iaload, 1) := by decide +kernel
theorem d11_85 : decode prog_48_method_7_code 85 = .ok (.laload, 1) := by decide +kernel
theorem d11_86 : decode prog_48_method_7_code 86 = .ok (.lload_n 3, 1) := by decide +kernel
theorem d11_87 : decode prog_48_method_7_code 87 = .ok (.lcmp, 1) := by decide +kernel
theorem d11_88 : decode prog_48_method_7_code 88 = .ok (.ifCond .lt 6, 3) := by decide +kernel
theorem d11_94 : decode prog_48_method_7_code 94 = .ok (.aload_n 0, 1) := by decide +kernel
theorem d11_95 : decode prog_48_method_7_code 95 = .ok (.aload_n 0, 1) := by decide +kernel
theorem d11_96 : decode prog_48_method_7_code 96 = .ok (.getfield 13, 3) := by decide +kernel
theorem d11_99 : decode prog_48_method_7_code 99 = .ok (.iload 6, 2) := by decide +kernel
theorem d11_101 : decode prog_48_method_7_code 101 = .ok (.iaload, 1) := by decide +kernel
theorem d11_102 : decode prog_48_method_7_code 102 = .ok (.iload 5, 2) := by decide +kernel
theorem d11_104 : decode prog_48_method_7_code 104 = .ok (.invokevirtual 46, 3) := by decide +kernel
theorem d11_107 : decode prog_48_method_7_code 107 = .ok (.iload 6, 2) := by decide +kernel
theorem d11_109 : decode prog_48_method_7_code 109 = .ok (.istore 5, 2) := by decide +kernel
theorem d11_111 : decode prog_48_method_7_code 111 = .ok (.goto (-101), 3) := by decide +kernel
theorem d11_91 : decode prog_48_method_7_code 91 = .ok (.goto 23, 3) := by decide +kernel
theorem ef11_RII (m : MethodId) (x0 : Addr) (x1 : Int32) (x2 : Int32) : entryFrame m #[(.ref x0), (.int x1), (.int x2)] 7 = mkF m 0 #[.val (.ref x0), .val (.int x1), .val (.int x2), .unset, .unset, .unset, .unset] [] := by first | (simp [entryFrame, mkF, argsToLocals, Value.category]; done) | rfl
theorem d10_0 : decode prog_48_method_5_code 0 = .ok (.aload_n 0, 1) := by decide +kernel
theorem d10_1 : decode prog_48_method_5_code 1 = .ok (.getfield 26, 3) := by decide +kernel
theorem d10_4 : decode prog_48_method_5_code 4 = .ok (.ifCond .ne 13, 3) := by decide +kernel
theorem d10_17 : decode prog_48_method_5_code 17 = .ok (.aload_n 0, 1) := by decide +kernel
theorem d10_18 : decode prog_48_method_5_code 18 = .ok (.getfield 13, 3) := by decide +kernel
theorem d10_21 : decode prog_48_method_5_code 21 = .ok (.iconst 0, 1) := by decide +kernel
theorem d10_22 : decode prog_48_method_5_code 22 = .ok (.iaload, 1) := by decide +kernel
theorem d10_23 : decode prog_48_method_5_code 23 = .ok (.istore_n 1, 1) := by decide +kernel
theorem d10_24 : decode prog_48_method_5_code 24 = .ok (.aload_n 0, 1) := by decide +kernel
theorem d10_25 : decode prog_48_method_5_code 25 = .ok (.getfield 17, 3) := by decide +kernel
theorem d10_28 : decode prog_48_method_5_code 28 = .ok (.iload_n 1, 1) := by decide +kernel
theorem d10_29 : decode prog_48_method_5_code 29 = .ok (.iconst (-1), 1) := by decide +kernel
theorem d10_30 : decode prog_48_method_5_code 30 = .ok (.iastore, 1) := by decide +kernel
theorem d10_31 : decode prog_48_method_5_code 31 = .ok (.aload_n 0, 1) := by decide +kernel
theorem d10_32 : decode prog_48_method_5_code 32 = .ok (.dup, 1) := by decide +kernel
theorem d10_33 : decode prog_48_method_5_code 33 = .ok (.getfield 26, 3) := by decide +kernel
theorem d10_36 : decode prog_48_method_5_code 36 = .ok (.iconst 1, 1) := by decide +kernel
theorem d10_37 : decode prog_48_method_5_code 37 = .ok (.isub, 1) := by decide +kernel
theorem d10_38 : decode prog_48_method_5_code 38 = .ok (.putfield 26, 3) := by decide +kernel
theorem d10_41 : decode prog_48_method_5_code 41 = .ok (.aload_n 0, 1) := by decide +kernel
theorem d10_42 : decode prog_48_method_5_code 42 = .ok (.getfield 26, 3) := by decide +kernel
theorem d10_45 : decode prog_48_method_5_code 45 = .ok (.ifCond .le 17, 3) := by decide +kernel
theorem d10_62 : decode prog_48_method_5_code 62 = .ok (.iload_n 1, 1) := by decide +kernel
theorem d10_63 : decode prog_48_method_5_code 63 = .ok (.ireturn, 1) := by decide +kernel
theorem d10_48 : decode prog_48_method_5_code 48 = .ok (.aload_n 0, 1) := by decide +kernel
theorem d10_49 : decode prog_48_method_5_code 49 = .ok (.aload_n 0, 1) := by decide +kernel
theorem d10_50 : decode prog_48_method_5_code 50 = .ok (.getfield 13, 3) := by decide +kernel
theorem d10_53 : decode prog_48_method_5_code 53 = .ok (.aload_n 0, 1) := by decide +kernel
theorem d10_54 : decode prog_48_method_5_code 54 = .ok (.getfield 26, 3) := by decide +kernel
theorem d10_57 : decode prog_48_method_5_code 57 = .ok (.iaload, 1) := by decide +kernel
theorem d10_58 : decode prog_48_method_5_code 58 = .ok (.iconst 0, 1) := by decide +kernel
theorem d10_59 : decode prog_48_method_5_code 59 = .ok (.invokevirtual 43, 3) := by decide +kernel
theorem ef10_R (m : MethodId) (x0 : Addr) : entryFrame m #[(.ref x0)] 2 = mkF m 0 #[.val (.ref x0), .unset] [] := by first | (simp [entryFrame, mkF, argsToLocals, Value.category]; done) | rfl
theorem d8_0 : decode prog_48_method_3_code 0 = .ok (.aload_n 0, 1) := by decide +kernel
theorem d8_1 : decode prog_48_method_3_code 1 = .ok (.getfield 26, 3) := by decide +kernel
theorem d8_4 : decode prog_48_method_3_code 4 = .ok (.ifCond .ne 7, 3) := by decide +kernel
theorem d8_7 : decode prog_48_method_3_code 7 = .ok (.iconst 1, 1) := by decide +kernel
theorem d8_8 : decode prog_48_method_3_code 8 = .ok (.goto 4, 3) := by decide +kernel
theorem d8_12 : decode prog_48_method_3_code 12 = .ok (.ireturn, 1) := by decide +kernel
theorem d8_11 : decode prog_48_method_3_code 11 = .ok (.iconst 0, 1) := by decide +kernel
theorem ef8_R (m : MethodId) (x0 : Addr) : entryFrame m #[(.ref x0)] 1 = mkF m 0 #[.val (.ref x0)] [] := by first | (simp [entryFrame, mkF, argsToLocals, Value.category]; done) | rfl
theorem d9_0 : decode method_3_code 0 = .ok (.aload_n 0, 1) := by decide +kernel
theorem pd_2 : parseMethodDescriptor "()Z" = some ⟨[], some .boolean⟩ := by decide +kernel
theorem d9_1 : decode method_3_code 1 = .ok (.invokevirtual 23, 3) := by decide +kernel
theorem d9_4 : decode method_3_code 4 = .ok (.ifCond .eq 5, 3) := by decide +kernel
theorem d9_9 : decode method_3_code 9 = .ok (.aload_n 0, 1) := by decide +kernel
theorem pd_3 : parseMethodDescriptor "()I" = some ⟨[], some .int⟩ := by decide +kernel
theorem d9_10 : decode method_3_code 10 = .ok (.invokevirtual 16, 3) := by decide +kernel
theorem d9_13 : decode method_3_code 13 = .ok (.istore_n 1, 1) := by decide +kernel
theorem d9_14 : decode method_3_code 14 = .ok (.iload_n 1, 1) := by decide +kernel
theorem d9_15 : decode method_3_code 15 = .ok (.ifCond .lt 8, 3) := by decide +kernel
theorem d9_18 : decode method_3_code 18 = .ok (.iload_n 1, 1) := by decide +kernel
theorem d9_19 : decode method_3_code 19 = .ok (.iconst 2, 1) := by decide +kernel
theorem d9_20 : decode method_3_code 20 = .ok (.if_icmp .le 5, 3) := by decide +kernel
theorem d9_25 : decode method_3_code 25 = .ok (.iload_n 1, 1) := by decide +kernel
theorem d9_26 : decode method_3_code 26 = .ok (.ireturn, 1) := by decide +kernel
theorem ef9_R (m : MethodId) (x0 : Addr) : entryFrame m #[(.ref x0)] 2 = mkF m 0 #[.val (.ref x0), .unset] [] := by first | (simp [entryFrame, mkF, argsToLocals, Value.category]; done) | rfl
theorem pn_4 : plainName "com/example/netlocus/netlocus/PlaceQueueClearPinLaw" = true := by first | (simp [plainName, overriddenIn]; done) | decide +kernel
theorem d7_0 : decode prog_48_method_2_code 0 = .ok (.iconst 0, 1) := by decide +kernel
theorem d7_1 : decode prog_48_method_2_code 1 = .ok (.istore_n 1, 1) := by decide +kernel
theorem d7_2 : decode prog_48_method_2_code 2 = .ok (.iload_n 1, 1) := by decide +kernel
theorem d7_3 : decode prog_48_method_2_code 3 = .ok (.aload_n 0, 1) := by decide +kernel
theorem d7_4 : decode prog_48_method_2_code 4 = .ok (.getfield 26, 3) := by decide +kernel
theorem d7_7 : decode prog_48_method_2_code 7 = .ok (.if_icmp .ge 21, 3) := by decide +kernel
theorem d7_28 : decode prog_48_method_2_code 28 = .ok (.aload_n 0, 1) := by decide +kernel
theorem d7_29 : decode prog_48_method_2_code 29 = .ok (.iconst 0, 1) := by decide +kernel
theorem d7_30 : decode prog_48_method_2_code 30 = .ok (.putfield 26, 3) := by decide +kernel
theorem d7_33 : decode prog_48_method_2_code 33 = .ok (.return_, 1) := by decide +kernel
theorem d7_10 : decode prog_48_method_2_code 10 = .ok (.aload_n 0, 1) := by decide +kernel
theorem d7_11 : decode prog_48_method_2_code 11 = .ok (.getfield 17, 3) := by decide +kernel
theorem d7_14 : decode prog_48_method_2_code 14 = .ok (.aload_n 0, 1) := by decide +kernel
theorem d7_15 : decode prog_48_method_2_code 15 = .ok (.getfield 13, 3) := by decide +kernel
theorem d7_18 : decode prog_48_method_2_code 18 = .ok (.iload_n 1, 1) := by decide +kernel
theorem d7_19 : decode prog_48_method_2_code 19 = .ok (.iaload, 1) := by decide +kernel
theorem d7_20 : decode prog_48_method_2_code 20 = .ok (.iconst (-1), 1) := by decide +kernel
theorem d7_21 : decode prog_48_method_2_code 21 = .ok (.iastore, 1) := by decide +kernel
theorem d7_22 : decode prog_48_method_2_code 22 = .ok (.iinc 1 1, 3) := by decide +kernel
theorem d7_25 : decode prog_48_method_2_code 25 = .ok (.goto (-23), 3) := by decide +kernel
theorem ef7_R (m : MethodId) (x0 : Addr) : entryFrame m #[(.ref x0)] 2 = mkF m 0 #[.val (.ref x0), .unset] [] := by first | (simp [entryFrame, mkF, argsToLocals, Value.category]; done) | rfl
theorem d3_0 : decode jdk_65_method_103_code 0 = .ok (.iconst 0, 1) := by decide +kernel
theorem d3_1 : decode jdk_65_method_103_code 1 = .ok (.istore_n 2, 1) := by decide +kernel
theorem d3_2 : decode jdk_65_method_103_code 2 = .ok (.aload_n 0, 1) := by decide +kernel
theorem d3_3 : decode jdk_65_method_103_code 3 = .ok (.arraylength, 1) := by decide +kernel
theorem d3_4 : decode jdk_65_method_103_code 4 = .ok (.istore_n 3, 1) := by decide +kernel
theorem d3_5 : decode jdk_65_method_103_code 5 = .ok (.iload_n 2, 1) := by decide +kernel
theorem d3_6 : decode jdk_65_method_103_code 6 = .ok (.iload_n 3, 1) := by decide +kernel
theorem d3_7 : decode jdk_65_method_103_code 7 = .ok (.if_icmp .ge 13, 3) := by decide +kernel
theorem d3_10 : decode jdk_65_method_103_code 10 = .ok (.aload_n 0, 1) := by decide +kernel
theorem d3_11 : decode jdk_65_method_103_code 11 = .ok (.iload_n 2, 1) := by decide +kernel
theorem d3_12 : decode jdk_65_method_103_code 12 = .ok (.iload_n 1, 1) := by decide +kernel
theorem d3_13 : decode jdk_65_method_103_code 13 = .ok (.iastore, 1) := by decide +kernel
theorem d3_14 : decode jdk_65_method_103_code 14 = .ok (.iinc 2 1, 3) := by decide +kernel
theorem d3_17 : decode jdk_65_method_103_code 17 = .ok (.goto (-12), 3) := by decide +kernel
theorem d3_20 : decode jdk_65_method_103_code 20 = .ok (.return_, 1) := by decide +kernel
theorem ef3_RI (m : MethodId) (x0 : Addr) (x1 : Int32) : entryFrame m #[(.ref x0), (.int x1)] 4 = mkF m 0 #[.val (.ref x0), .val (.int x1), .unset, .unset] [] := by first | (simp [entryFrame, mkF, argsToLocals, Value.category]; done) | rfl
theorem pn_5 : plainName "java/util/Arrays" = true := by first | (simp [plainName, overriddenIn]; done) | decide +kernel
theorem d1_0 : decode prog_48_method_1_code 0 = .ok (.aload_n 0, 1) := by decide +kernel
theorem d1_1 : decode prog_48_method_1_code 1 = .ok (.invokespecial 1, 3) := by decide +kernel
theorem d1_4 : decode prog_48_method_1_code 4 = .ok (.aload_n 0, 1) := by decide +kernel
theorem d1_5 : decode prog_48_method_1_code 5 = .ok (.aload_n 1, 1) := by decide +kernel
theorem d1_6 : decode prog_48_method_1_code 6 = .ok (.putfield 7, 3) := by decide +kernel
theorem d1_9 : decode prog_48_method_1_code 9 = .ok (.aload_n 0, 1) := by decide +kernel
theorem d1_10 : decode prog_48_method_1_code 10 = .ok (.aload_n 1, 1) := by decide +kernel
theorem d1_11 : decode prog_48_method_1_code 11 = .ok (.arraylength, 1) := by decide +kernel
theorem d1_12 : decode prog_48_method_1_code 12 = .ok (.newarray .int, 2) := by decide +kernel
theorem d1_14 : decode prog_48_method_1_code 14 = .ok (.putfield 13, 3) := by decide +kernel
theorem d1_17 : decode prog_48_method_1_code 17 = .ok (.aload_n 0, 1) := by decide +kernel
theorem d1_18 : decode prog_48_method_1_code 18 = .ok (.aload_n 1, 1) := by decide +kernel
theorem d1_19 : decode prog_48_method_1_code 19 = .ok (.arraylength, 1) := by decide +kernel
theorem d1_20 : decode prog_48_method_1_code 20 = .ok (.newarray .int, 2) := by decide +kernel
theorem d1_22 : decode prog_48_method_1_code 22 = .ok (.putfield 17, 3) := by decide +kernel
theorem d1_25 : decode prog_48_method_1_code 25 = .ok (.aload_n 0, 1) := by decide +kernel
theorem d1_26 : decode prog_48_method_1_code 26 = .ok (.getfield 17, 3) := by decide +kernel
theorem d1_29 : decode prog_48_method_1_code 29 = .ok (.iconst (-1), 1) := by decide +kernel
theorem pd_6 : parseMethodDescriptor "([II)V" = some ⟨[(.array .int), .int], none⟩ := by decide +kernel
theorem d1_30 : decode prog_48_method_1_code 30 = .ok (.invokestatic 20, 3) := by decide +kernel
theorem d1_33 : decode prog_48_method_1_code 33 = .ok (.return_, 1) := by decide +kernel
theorem ef1_RR (m : MethodId) (x0 : Addr) (x1 : Addr) : entryFrame m #[(.ref x0), (.ref x1)] 2 = mkF m 0 #[.val (.ref x0), .val (.ref x1)] [] := by first | (simp [entryFrame, mkF, argsToLocals, Value.category]; done) | rfl
theorem pd_7 : parseMethodDescriptor "([J)V" = some ⟨[(.array .long)], none⟩ := by decide +kernel
theorem pd_8 : parseMethodDescriptor "(I)V" = some ⟨[.int], none⟩ := by decide +kernel
theorem pd_9 : parseMethodDescriptor "()V" = some ⟨[], none⟩ := by decide +kernel
theorem pd_10 : parseMethodDescriptor "(Lcom/example/netlocus/netlocus/PlaceQueue;)I" = some ⟨[(.object "com/example/netlocus/netlocus/PlaceQueue")], some .int⟩ := by decide +kernel
theorem ef0_JJJI (m : MethodId) (x0 : Int64) (x1 : Int64) (x2 : Int64) (x3 : Int32) : entryFrame m #[(.long x0), (.long x1), (.long x2), (.int x3)] maxLocals = mkF m 0 #[.val (.long x0), .second, .val (.long x1), .second, .val (.long x2), .second, .val (.int x3), .unset, .unset, .unset, .unset, .unset, .unset] [] := by first | (simp [entryFrame, mkF, argsToLocals, Value.category, maxLocals]; done) | rfl
def NEG : Nat := 4294967295
def rd (A : List Nat) (i : Nat) : Option Nat := match A[i]? with
  | some x => if x < 1000 ∨ x = NEG then some x else none
  | none => none
def wrt (A : List Nat) (i x : Nat) : Option (List Nat) := if i < A.length then some (A.set i x) else none
def enc (A : List Nat) : List Value := A.map fun x => .int (Int32.ofNat x)
theorem nat_lt {j e : Nat} (hj : j < 2000) (he : e < 2000) : Int32.ofNat j < Int32.ofNat e ↔ j < e := by
  rw [Int32.lt_iff_toInt_lt, Int32.toInt_ofNat_small (by omega), Int32.toInt_ofNat_small (by omega)]; omega
theorem nat_eq {j e : Nat} (hj : j < 2000) (he : e < 2000) : Int32.ofNat j = Int32.ofNat e ↔ j = e := by
  rw [← Int32.toInt_inj, Int32.toInt_ofNat_small (by omega), Int32.toInt_ofNat_small (by omega)]; omega
theorem nat_nn {j : Nat} (hj : j < 2000) : ¬ Int32.ofNat j < 0 := by
  rw [Int32.lt_iff_toInt_lt, Int32.toInt_ofNat_small (by omega), show (0 : Int32).toInt = 0 from rfl]; omega
theorem nat_neg {j : Nat} (hj : j < 2000) : ¬ Int32.ofNat j = (-1 : Int32) := by
  rw [← Int32.toInt_inj, Int32.toInt_ofNat_small (by omega), show (-1 : Int32).toInt = -1 from rfl]; omega
theorem nat_to {j : Nat} (hj : j < 2000) : (Int32.ofNat j).toNatClampNeg = j := by
  simp only [Int32.toNatClampNeg, Int32.toInt_ofNat_small (show j < 2 ^ 31 by omega)]; omega
theorem nat_add {i j : Nat} : Int32.ofNat i + Int32.ofNat j = Int32.ofNat (i + j) := (Int32.ofNat_add i j).symm
theorem nat_pred {j : Nat} (h : 0 < j) : Int32.ofNat j - (1 : Int32) = Int32.ofNat (j - 1) := by
  have e : j = (j - 1) + 1 := by omega
  generalize j - 1 = k at e
  subst e
  have e2 : Int32.ofNat (k + 1) = Int32.ofNat k + 1 := Int32.ofNat_add k 1
  rw [e2, Int32.add_sub_cancel]
theorem rd_spec {A : List Nat} {i x : Nat} (h : rd A i = some x) (hl : A.length < 1000) : i < 1000 ∧ ¬ Int32.ofNat i < 0 ∧ (enc A)[(Int32.ofNat i).toNatClampNeg]? = some (.int (Int32.ofNat x)) ∧ (x < 1000 ∨ x = NEG) := by
  unfold rd at h
  cases q : A[i]? with
  | none => rw [q] at h; cases h
  | some y =>
    rw [q] at h
    by_cases q2 : y < 1000 ∨ y = NEG
    · simp only [if_pos q2] at h
      cases h
      have hi := (List.getElem?_eq_some_iff.mp q).1
      refine ⟨by omega, nat_nn (by omega), ?_, q2⟩
      rw [nat_to (by omega), enc, List.getElem?_map, q]; rfl
    · simp only [if_neg q2] at h; cases h
theorem wrt_spec {A A' : List Nat} {i x : Nat} (h : wrt A i x = some A') (hl : A.length < 1000) : ¬ Int32.ofNat i < 0 ∧ (Int32.ofNat i).toNatClampNeg < (enc A).length ∧ (enc A).set (Int32.ofNat i).toNatClampNeg (.int (Int32.ofNat x)) = enc A' ∧ A'.length = A.length ∧ i < 1000 := by
  unfold wrt at h
  by_cases q : i < A.length
  · rw [if_pos q] at h
    cases h
    refine ⟨nat_nn (by omega), by rw [nat_to (by omega), enc, List.length_map]; exact q, ?_, List.length_set, by omega⟩
    rw [nat_to (by omega), enc, enc, List.map_set]
  · rw [if_neg q] at h; cases h
theorem getD_at {A : List Nat} {N : Nat} (hl : A.length = N) (hN : N < 1000) (i : Nat) (hi : i < N) : (enc A)[(Int32.ofNat i).toNatClampNeg]? = some (.int (Int32.ofNat (A.getD i 0))) := by
  rw [nat_to (by omega), enc, List.getElem?_map, List.getD_eq_getElem?_getD, List.getElem?_eq_getElem (by omega)]; rfl
theorem nat_eqN {x j : Nat} (hx : x < 1000 ∨ x = NEG) (hj : j < 2000) : Int32.ofNat x = Int32.ofNat j ↔ x = j := by
  rcases hx with q | q
  · exact nat_eq (by omega) hj
  · refine ⟨fun z => ?_, fun z => by rw [z]⟩
    rw [q] at z
    exact absurd z.symm (nat_neg hj)
theorem own_rank (x y z : Int) : ∃ a b c : Nat, a < 3 ∧ b < 3 ∧ c < 3 ∧ (x < y ↔ a < b) ∧ (y < x ↔ b < a) ∧ (x < z ↔ a < c) ∧ (z < x ↔ c < a) ∧ (y < z ↔ b < c) ∧ (z < y ↔ c < b) := by
  rcases Int.lt_trichotomy x y with h1 | h1 | h1 <;> rcases Int.lt_trichotomy y z with h2 | h2 | h2 <;> rcases Int.lt_trichotomy x z with h3 | h3 | h3 <;> first | (exfalso; omega) | exact ⟨0, 0, 0, by omega, by omega, by omega, by omega, by omega, by omega, by omega, by omega, by omega⟩ | exact ⟨0, 0, 1, by omega, by omega, by omega, by omega, by omega, by omega, by omega, by omega, by omega⟩ | exact ⟨0, 1, 0, by omega, by omega, by omega, by omega, by omega, by omega, by omega, by omega, by omega⟩ | exact ⟨1, 0, 0, by omega, by omega, by omega, by omega, by omega, by omega, by omega, by omega, by omega⟩ | exact ⟨0, 1, 1, by omega, by omega, by omega, by omega, by omega, by omega, by omega, by omega, by omega⟩ | exact ⟨1, 0, 1, by omega, by omega, by omega, by omega, by omega, by omega, by omega, by omega, by omega⟩ | exact ⟨1, 1, 0, by omega, by omega, by omega, by omega, by omega, by omega, by omega, by omega, by omega⟩ | exact ⟨0, 1, 2, by omega, by omega, by omega, by omega, by omega, by omega, by omega, by omega, by omega⟩ | exact ⟨0, 2, 1, by omega, by omega, by omega, by omega, by omega, by omega, by omega, by omega, by omega⟩ | exact ⟨1, 0, 2, by omega, by omega, by omega, by omega, by omega, by omega, by omega, by omega, by omega⟩ | exact ⟨1, 2, 0, by omega, by omega, by omega, by omega, by omega, by omega, by omega, by omega, by omega⟩ | exact ⟨2, 0, 1, by omega, by omega, by omega, by omega, by omega, by omega, by omega, by omega, by omega⟩ | exact ⟨2, 1, 0, by omega, by omega, by omega, by omega, by omega, by omega, by omega, by omega, by omega⟩
/-- the ranks rk order the places as the distances dl do -/
def Rk (dl : List Int64) (rk : List Nat) : Prop := ∀ i j, i < 3 → j < 3 → (dl.getD i 0 < dl.getD j 0 ↔ rk.getD i 0 < rk.getD j 0)
theorem own_rk (x y z : Int64) : ∃ a b c : Nat, a < 3 ∧ b < 3 ∧ c < 3 ∧ Rk [x, y, z] [a, b, c] := by
  obtain ⟨a, b, c, ha, hb', hc, h1, h2, h3, h4, h5, h6⟩ := own_rank x.toInt y.toInt z.toInt
  refine ⟨a, b, c, ha, hb', hc, ?_⟩
  intro i j hi hj
  have ei : i = 0 ∨ i = 1 ∨ i = 2 := by omega
  have ej : j = 0 ∨ j = 1 ∨ j = 2 := by omega
  rcases ei with rfl | rfl | rfl <;> rcases ej with rfl | rfl | rfl <;> simp only [List.getD_cons_zero, List.getD_cons_succ, Int64.lt_iff_toInt_lt] <;> omega
theorem dist_at {dl : List Int64} (hl : dl.length = 3) (i : Nat) (hi : i < 3) : (dl.map Value.long)[(Int32.ofNat i).toNatClampNeg]? = some (.long (dl.getD i 0)) := by
  rw [nat_to (by omega), List.getElem?_map, List.getD_eq_getElem?_getD, List.getElem?_eq_getElem (by omega)]; rfl
theorem own_par {sl : Nat} (h : sl = 1 ∨ sl = 2) : Jvm.Free.XT.ushr (Int32.ofNat sl - (1 : Int32)) (1 : Int32) = Int32.ofNat 0 := by
  rcases h with rfl | rfl <;> decide
def putM (hp ix : List Nat) (pl sl : Nat) : Option (List Nat × List Nat) := (wrt hp sl pl).bind fun h => (wrt ix pl sl).bind fun x => some (h, x)
theorem put_spec {hp ix : List Nat} {pl sl : Nat} {r : List Nat × List Nat} (h : putM hp ix pl sl = some r) : wrt hp sl pl = some r.1 ∧ wrt ix pl sl = some r.2 := by
  simp only [putM, Option.bind_eq_some_iff] at h
  obtain ⟨a, h1, b, h2, h3⟩ := h
  cases h3
  exact ⟨h1, h2⟩
theorem some_if {α : Type} {c : Prop} [Decidable c] {x : Option α} {y : α} (h : (if c then x else none) = some y) : c ∧ x = some y := by
  by_cases q : c
  · rw [if_pos q] at h; exact ⟨q, h⟩
  · rw [if_neg q] at h; cases h
def upM (rk hp ix : List Nat) (pl sl : Nat) : Option (List Nat × List Nat) :=
  if sl = 0 then putM hp ix pl 0 else if sl < 3 then (rd hp 0).bind fun pp => if pp < 3 then (if rk.getD pl 0 < rk.getD pp 0 then (putM hp ix pp sl).bind fun r => putM r.1 r.2 pl 0 else putM hp ix pl sl) else none else none
abbrev Stt : Type := List Nat × List Nat × Nat
def addM (rk : List Nat) (st : Stt) (pl : Nat) : Option Stt :=
  (rd st.2.1 pl).bind fun t => if t = NEG then (upM rk st.1 st.2.1 pl st.2.2).bind fun r => some (r.1, r.2, st.2.2 + 1) else (upM rk st.1 st.2.1 pl t).bind fun r => some (r.1, r.2, st.2.2)
def downM (rk hp ix : List Nat) (sz pl : Nat) : Option (List Nat × List Nat) :=
  if sz = 1 then putM hp ix pl 0 else if sz = 2 then (rd hp 1).bind fun cc => if cc < 3 then (if rk.getD cc 0 < rk.getD pl 0 then (putM hp ix cc 0).bind fun r => putM r.1 r.2 pl 1 else putM hp ix pl 0) else none else none
def remM (rk : List Nat) (st : Stt) : Option (Nat × Stt) :=
  if 0 < st.2.2 ∧ st.2.2 < 4 then (rd st.1 0).bind fun nr => if nr < 3 then (wrt st.2.1 nr NEG).bind fun ix => if st.2.2 = 1 then some (nr, st.1, ix, 0) else (rd st.1 (st.2.2 - 1)).bind fun pl => if pl < 3 then (downM rk st.1 ix (st.2.2 - 1) pl).bind fun r => some (nr, r.1, r.2, st.2.2 - 1) else none else none else none
def clrM (hp : List Nat) : Nat → Nat → List Nat → Option (List Nat)
  | 0, _, ix => some ix
  | n + 1, sl, ix => (rd hp sl).bind fun x => if x < 3 then (wrt ix x NEG).bind fun ix' => clrM hp n (sl + 1) ix' else none
def clearM (st : Stt) : Option Stt := if st.2.2 < 4 then (clrM st.1 st.2.2 0 st.2.1).bind fun ix => some (st.1, ix, 0) else none
def cadd (b : Bool) (rk : List Nat) (st : Stt) (pl : Nat) : Option Stt := if b = true then addM rk st pl else some st
def crem (b : Bool) (rk : List Nat) (st : Stt) : Option Stt := if b = true then (remM rk st).bind fun r => some r.2 else some st
def st0 : Stt := ([0, 0, 0], [NEG, NEG, NEG], 0)
def okS (st : Stt) : Prop := st.1.length = 3 ∧ st.2.1.length = 3 ∧ st.2.2 < 4
instance own_oks (st : Stt) : Decidable (okS st) := by unfold okS; exact inferInstance
def ck (x : Option Stt) : Option Stt := x.bind fun st => if okS st then some st else none
def ckr (x : Option (Nat × Stt)) : Option (Nat × Stt) := x.bind fun r => if okS r.2 ∧ r.1 < 3 then some r else none
theorem ck_spec {x : Option Stt} {st : Stt} (h : ck x = some st) : x = some st ∧ okS st := by
  unfold ck at h
  obtain ⟨y, h1, h2⟩ := Option.bind_eq_some_iff.mp h
  obtain ⟨h3, h4⟩ := some_if h2
  cases h4
  exact ⟨h1, h3⟩
theorem ckr_spec {x : Option (Nat × Stt)} {r : Nat × Stt} (h : ckr x = some r) : x = some r ∧ okS r.2 ∧ r.1 < 3 := by
  unfold ckr at h
  obtain ⟨y, h1, h2⟩ := Option.bind_eq_some_iff.mp h
  obtain ⟨h3, h4⟩ := some_if h2
  cases h4
  exact ⟨h1, h3⟩
def part1 (rk : List Nat) (b0 b1 b2 b3 : Bool) : Option Stt := (ck (cadd b0 rk st0 0)).bind fun t1 => (ck (cadd b1 rk t1 1)).bind fun t2 => (ck (cadd b2 rk t2 2)).bind fun t3 => (ck (crem b3 rk t3)).bind fun t4 => ck (clearM t4)
def part2 (rk : List Nat) (t5 : Stt) (s : Nat) : Option Unit := (ck (addM rk t5 s)).bind fun t6 => (ck (addM rk t6 ((s + 1) % 3))).bind fun t7 => (ck (addM rk t7 ((s + 2) % 3))).bind fun t8 => (ckr (remM rk t8)).bind fun r1 => (ckr (remM rk r1.2)).bind fun r2 => (ckr (remM rk r2.2)).bind fun r3 =>
  if (¬ r1.1 = r2.1 ∧ ¬ r1.1 = r3.1 ∧ ¬ r2.1 = r3.1 ∧ ¬ rk.getD r2.1 0 < rk.getD r1.1 0 ∧ ¬ rk.getD r3.1 0 < rk.getD r2.1 0) ∧ r3.2.2.2 = 0 ∧ t8.2.2 = 3 ∧ r1.2.2.2 = 2 ∧ r2.2.2.2 = 1 ∧ t5.2.2 = 0 then some () else none
def allB : List Bool := [false, true]
set_option maxRecDepth 65536 in
theorem own_all : (List.range 3).all (fun a => (List.range 3).all fun b => (List.range 3).all fun c => allB.all fun b0 => allB.all fun b1 => allB.all fun b2 => allB.all fun b3 => (b3 && !b0 && !b1 && !b2) || (List.range 3).all fun s => ((part1 [a, b, c] b0 b1 b2 b3).bind fun t5 => part2 [a, b, c] t5 s).isSome) = true := by decide +kernel
theorem own_run {a b c s : Nat} (ha : a < 3) (hb' : b < 3) (hc : c < 3) (hs : s < 3) (b0 b1 b2 b3 : Bool) (h3 : b3 = true → b0 = true ∨ b1 = true ∨ b2 = true) : ∃ t5, part1 [a, b, c] b0 b1 b2 b3 = some t5 ∧ part2 [a, b, c] t5 s = some () := by
  have h := own_all
  have mb : ∀ z : Bool, z ∈ allB := fun z => by cases z <;> simp [allB]
  have h1 := List.all_eq_true.mp (List.all_eq_true.mp (List.all_eq_true.mp h a (List.mem_range.mpr ha)) b (List.mem_range.mpr hb')) c (List.mem_range.mpr hc)
  have h2 := List.all_eq_true.mp (List.all_eq_true.mp (List.all_eq_true.mp (List.all_eq_true.mp h1 b0 (mb b0)) b1 (mb b1)) b2 (mb b2)) b3 (mb b3)
  rcases Bool.or_eq_true_iff.mp h2 with q | q
  · exfalso
    cases b3
    · simp at q
    · rcases h3 rfl with z | z | z <;> simp [z] at q
  · have h4 := List.all_eq_true.mp q s (List.mem_range.mpr hs)
    obtain ⟨u, hu⟩ := Option.isSome_iff_exists.mp h4
    obtain ⟨t5, g1, g2⟩ := Option.bind_eq_some_iff.mp hu
    exact ⟨t5, g1, g2⟩
theorem own_7 (x : Int32) (h1 : (x &&& (1 : Int32)) = (0 : Int32)) (h2 : (x &&& (2 : Int32)) = (0 : Int32)) (h3 : (x &&& (4 : Int32)) = (0 : Int32)) : (x &&& (7 : Int32)) = (0 : Int32) := by
  have e : (7 : Int32) = (1 : Int32) ||| ((2 : Int32) ||| (4 : Int32)) := by decide
  have d : ∀ y z : Int32, x &&& (y ||| z) = (x &&& y) ||| (x &&& z) := fun y z => by
    apply Int32.toBitVec_inj.mp
    simp only [Int32.toBitVec_and, Int32.toBitVec_or]
    apply BitVec.eq_of_getElem_eq
    intro i hi
    simp only [BitVec.getElem_and, BitVec.getElem_or]
    cases x.toBitVec[i] <;> simp
  rw [e, d, d, h1, h2, h3]; decide
theorem own_s (x : Int32) : ∃ s : Nat, s < 3 ∧ ((x &&& (2147483647 : Int32)) % (3 : Int32)) = Int32.ofNat s := by
  have e1 : (x &&& (2147483647 : Int32)).toInt = x.toInt % (2 ^ 31 : Nat) := c_mask x 2147483647 31 (by decide) (by decide)
  have z3 : (3 : Int32).toInt = 3 := rfl
  have e2 := (c_iremV (x &&& (2147483647 : Int32)) 3).1 (by omega) (by omega)
  refine ⟨((x &&& (2147483647 : Int32)) % (3 : Int32)).toInt.toNat, by omega, ?_⟩
  apply Int32.toInt_inj.mp
  rw [Int32.toInt_ofNat_small (by omega)]; omega
theorem own_s1 {s : Nat} (h : s < 3) (k : Nat) (hk : k = 1 ∨ k = 2) : (Int32.ofNat s + Int32.ofNat k) % (3 : Int32) = Int32.ofNat ((s + k) % 3) := by
  have e : s = 0 ∨ s = 1 ∨ s = 2 := by omega
  rcases e with rfl | rfl | rfl <;> rcases hk with rfl | rfl <;> decide
set_option maxRecDepth 65536 in
set_option maxHeartbeats 40000000 in
theorem rm_put (l : Launch) (Z : State) (a0 : Array Value) (hw : ∀ d ∈ tables_1, d.before a0 Z = true) (q a b k : Addr) (dl : List Int64) (rk hp ix : List Nat) (sz : Nat) (pl sl : Nat) (r : List Nat × List Nat) (h0 : Heap) (EQ : Exa Z h0 q "com/example/netlocus/netlocus/PlaceQueue") (Fd : Fld Z h0 q "com/example/netlocus/netlocus/PlaceQueue" "distances" "[J" (.ref k)) (Fh : Fld Z h0 q "com/example/netlocus/netlocus/PlaceQueue" "heap" "[I" (.ref a)) (Fi : Fld Z h0 q "com/example/netlocus/netlocus/PlaceQueue" "index" "[I" (.ref b)) (Fs : Fld Z h0 q "com/example/netlocus/netlocus/PlaceQueue" "size" "I" (.int (Int32.ofNat sz))) (Aa : Seq Z h0 a .int (enc hp)) (Ab : Seq Z h0 b .int (enc ix)) (Ak : Seq Z h0 k .long (dl.map Value.long)) (nqa : q ≠ a) (nqb : q ≠ b) (nqk : q ≠ k) (nab : a ≠ b) (nak : a ≠ k) (nbk : b ≠ k) (hlh : hp.length = 3) (hli : ix.length = 3) (hld : dl.length = 3) (hrk : Rk dl rk) (hm : putM hp ix pl sl = some r) :
    Con l (⟨"com/example/netlocus/netlocus/PlaceQueue", "put", "(II)V"⟩ : MethodName) prog_48_method_8_code 3 none ({ frames := 0, cells := 0, slots := 0, locals := 0 } : Room) Z #[(.ref q), (.int (Int32.ofNat pl)), (.int (Int32.ofNat sl))] h0 (fun v h L => v = none ∧ Kp h0 h [a, b] L ∧ Seq Z h a .int (enc r.1) ∧ Seq Z h b .int (enc r.2) ∧ r.1.length = 3 ∧ r.2.length = 3) := by
  refine Con.of_body (plainFor_of_name pn_0) ?_
  intro p e s m below meth c T0 X0 hx hby hml hZ hown hnm hret hlk e0
  have hown : s.vm.findClass "com/example/netlocus/netlocus/PlaceQueue" = some m.cls := hown
  have hml : c.maxLocals = 3 := hml
  refine Goes.cast (ef6_RII m q (Int32.ofNat pl) (Int32.ofNat sl)) ?_
  have K0 := Kp.refl h0 [a, b]
  have y1 := put_spec hm
  have y2 := wrt_spec y1.1 (by omega)
  have y3 := wrt_spec y1.2 (by omega)
  refine G.aloadN X0 hx (pc' := 1) (hb hby d6_0) rfl rfl rfl ?_
  refine G.getF X0 hx hZ hown (hw _ (List.mem_of_getElem? (i := 13) rfl)) Via.refl e0 Fh (pc' := 4) (hb hby d6_1) rfl fun T1 X1 e1 => ?_
  refine G.iloadN X1 hx (pc' := 5) (hb hby d6_4) rfl rfl ?_
  refine G.iloadN X1 hx (pc' := 6) (hb hby d6_5) rfl rfl ?_
  refine G.iastore X1 hx hZ e1 Aa (pc' := 7) (hb hby d6_6) y2.1 y2.2.1 rfl fun T2 h2 X2 e2 W2 A2 => ?_
  have F2_q_distances := Fld.other W2 Fd (Or.inl nqa)
  have F2_q_heap := Fld.other W2 Fh (Or.inl nqa)
  have F2_q_index := Fld.other W2 Fi (Or.inl nqa)
  have F2_q_size := Fld.other W2 Fs (Or.inl nqa)
  have E2_q := Exa.wr W2 EQ
  have A2_b := Seq.other Ab W2 (Ne.symm nab)
  have A2_k := Seq.other Ak W2 (Ne.symm nak)
  have K2 := Kp.wr K0 W2 (Or.inl (List.mem_of_getElem? (i := 0) rfl))
  have A2_a : Seq Z h2 a .int (enc r.1) := (y2.2.2.1) ▸ A2
  refine G.aloadN X2 hx (pc' := 8) (hb hby d6_7) rfl rfl rfl ?_
  refine G.getF X2 hx hZ hown (hw _ (List.mem_of_getElem? (i := 15) rfl)) Via.refl e2 F2_q_index (pc' := 11) (hb hby d6_8) rfl fun T3 X3 e3 => ?_
  refine G.iloadN X3 hx (pc' := 12) (hb hby d6_11) rfl rfl ?_
  refine G.iloadN X3 hx (pc' := 13) (hb hby d6_12) rfl rfl ?_
  refine G.iastore X3 hx hZ e3 A2_b (pc' := 14) (hb hby d6_13) y3.1 y3.2.1 rfl fun T4 h4 X4 e4 W4 A4 => ?_
  have F4_q_distances := Fld.other W4 F2_q_distances (Or.inl nqb)
  have F4_q_heap := Fld.other W4 F2_q_heap (Or.inl nqb)
  have F4_q_index := Fld.other W4 F2_q_index (Or.inl nqb)
  have F4_q_size := Fld.other W4 F2_q_size (Or.inl nqb)
  have E4_q := Exa.wr W4 E2_q
  have A4_a := Seq.other A2_a W4 nab
  have A4_k := Seq.other A2_k W4 (Ne.symm nbk)
  have K4 := Kp.wr K2 W4 (Or.inl (List.mem_of_getElem? (i := 1) rfl))
  have A4_b : Seq Z h4 b .int (enc r.2) := (y3.2.2.1) ▸ A4
  refine Goes.retV X4 hx hret hlk (hb hby d6_14) (by decide) (by decide) ⟨rfl, (by rw [e4]; exact K4), (by rw [e4]; exact A4_a), (by rw [e4]; exact A4_b), by omega, by omega⟩
set_option maxRecDepth 65536 in
set_option maxHeartbeats 40000000 in
theorem rm_up (l : Launch) (Z : State) (a0 : Array Value) (hw : ∀ d ∈ tables_1, d.before a0 Z = true) (q a b k : Addr) (dl : List Int64) (rk hp ix : List Nat) (sz : Nat) (pl sl : Nat) (r : List Nat × List Nat) (h0 : Heap) (EQ : Exa Z h0 q "com/example/netlocus/netlocus/PlaceQueue") (Fd : Fld Z h0 q "com/example/netlocus/netlocus/PlaceQueue" "distances" "[J" (.ref k)) (Fh : Fld Z h0 q "com/example/netlocus/netlocus/PlaceQueue" "heap" "[I" (.ref a)) (Fi : Fld Z h0 q "com/example/netlocus/netlocus/PlaceQueue" "index" "[I" (.ref b)) (Fs : Fld Z h0 q "com/example/netlocus/netlocus/PlaceQueue" "size" "I" (.int (Int32.ofNat sz))) (Aa : Seq Z h0 a .int (enc hp)) (Ab : Seq Z h0 b .int (enc ix)) (Ak : Seq Z h0 k .long (dl.map Value.long)) (nqa : q ≠ a) (nqb : q ≠ b) (nqk : q ≠ k) (nab : a ≠ b) (nak : a ≠ k) (nbk : b ≠ k) (hlh : hp.length = 3) (hli : ix.length = 3) (hld : dl.length = 3) (hrk : Rk dl rk) (hpl : pl < 3) (hm : upM rk hp ix pl sl = some r) :
    Con l (⟨"com/example/netlocus/netlocus/PlaceQueue", "siftUp", "(II)V"⟩ : MethodName) prog_48_method_6_code 7 none ({ frames := 1, cells := 0, slots := 0, locals := 14 } : Room) Z #[(.ref q), (.int (Int32.ofNat pl)), (.int (Int32.ofNat sl))] h0 (fun v h L => v = none ∧ Kp h0 h [a, b] L ∧ Seq Z h a .int (enc r.1) ∧ Seq Z h b .int (enc r.2) ∧ r.1.length = 3 ∧ r.2.length = 3) := by
  refine Con.of_body (plainFor_of_name pn_0) ?_
  intro p e s m below meth c T0 X0 hx hby hml hZ hown hnm hret hlk e0
  have hown : s.vm.findClass "com/example/netlocus/netlocus/PlaceQueue" = some m.cls := hown
  have hml : c.maxLocals = 7 := hml
  refine Goes.cast (ef5_RII m q (Int32.ofNat pl) (Int32.ofNat sl)) ?_
  have K0 := Kp.refl h0 [a, b]
  unfold upM at hm
  refine G.aloadN X0 hx (pc' := 1) (hb hby d5_0) rfl rfl rfl ?_
  refine G.getF X0 hx hZ hown (hw _ (List.mem_of_getElem? (i := 10) rfl)) Via.refl e0 Fd (pc' := 4) (hb hby d5_1) rfl fun T1 X1 e1 => ?_
  refine G.iloadN X1 hx (pc' := 5) (hb hby d5_4) rfl rfl ?_
  refine G.laload X1 hx hZ e1 Ak (pc' := 6) (v := (.long (dl.getD pl 0))) (hb hby d5_5) (nat_nn (by omega)) (dist_at hld pl hpl) rfl ?_
  refine G.lstoreN X1 hx (pc' := 7) (hb hby d5_6) (L' := #[.val (.ref q), .val (.int (Int32.ofNat pl)), .val (.int (Int32.ofNat sl)), .val (.long (dl.getD pl 0)), .second, .unset, .unset]) rfl rfl ?_
  refine G.iloadN X1 hx (pc' := 8) (hb hby d5_7) rfl rfl ?_
  refine G.istore X1 hx (pc' := 10) (hb hby d5_8) (L' := #[.val (.ref q), .val (.int (Int32.ofNat pl)), .val (.int (Int32.ofNat sl)), .val (.long (dl.getD pl 0)), .second, .val (.int (Int32.ofNat sl)), .unset]) rfl rfl ?_
  refine G.iload X1 hx (pc' := 12) (hb hby d5_10) rfl rfl ?_
  by_cases hs0 : sl = 0
  · subst hs0
    rw [if_pos rfl] at hm
    refine G.ifT X1 hx (pc' := 63) (hb hby d5_12) (Jvm.Free.XT.i0_le_t (by decide)) (by decide) (by decide) ?_
    refine G.aloadN X1 hx (pc' := 64) (hb hby d5_63) rfl rfl rfl ?_
    refine G.iloadN X1 hx (pc' := 65) (hb hby d5_64) rfl rfl ?_
    refine G.iload X1 hx (pc' := 67) (hb hby d5_65) rfl rfl ?_
    refine G.callP X1 hx hZ (y := (⟨"com/example/netlocus/netlocus/PlaceQueue", "put", "(II)V"⟩ : MethodName)) hown (hw _ (List.mem_of_getElem? (i := 32) rfl)) (hw _ (List.mem_of_getElem? (i := 33) rfl)) (hw _ (List.mem_of_getElem? (i := 2) rfl)) (hw _ (List.mem_of_getElem? (i := 34) rfl)) (hw _ (List.mem_of_getElem? (i := 3) rfl)) (hw _ (List.mem_of_getElem? (i := 35) rfl)) (by decide) e1 (rm := ({ frames := 0, cells := 0, slots := 0, locals := 0 } : Room)) (argsL := [(.int (Int32.ofNat pl)), (.int (Int32.ofNat 0))]) (S := []) (W := 0) (a := q) EQ (rm_put l Z a0 hw q a b k dl rk hp ix sz pl 0 r h0 EQ Fd Fh Fi Fs Aa Ab Ak nqa nqb nqk nab nak nbk hlh hli hld hrk hm) (lenOf pd_1 rfl) rfl (Nat.le_of_eq rfl) (by decide) (by decide) (by decide) (by decide) (by rw [hml]; rfl) (hb hby d5_67) (pc' := 70) rfl ?_
    rintro T2 _ L2 ⟨rfl, Kq2, Aa2, Ab2, la2, lb2⟩ X2
    have F2_q_distances := Fld.keep Fd Kq2.1 (ninS nqa (ninS nqb nin0))
    have F2_q_heap := Fld.keep Fh Kq2.1 (ninS nqa (ninS nqb nin0))
    have F2_q_index := Fld.keep Fi Kq2.1 (ninS nqa (ninS nqb nin0))
    have F2_q_size := Fld.keep Fs Kq2.1 (ninS nqa (ninS nqb nin0))
    have E2_q := Exa.keep EQ Kq2.1
    have A2_k := Seq.keep Ak Kq2.1 (ninS (Ne.symm nak) (ninS (Ne.symm nbk) nin0))
    have K2 := Kp.call K0 Kq2 (allS (Or.inl (List.mem_of_getElem? (i := 0) rfl)) (allS (Or.inl (List.mem_of_getElem? (i := 1) rfl)) all0))
    show Goes p e below T2 (mkF m 70 #[.val (.ref q), .val (.int (Int32.ofNat pl)), .val (.int (Int32.ofNat 0)), .val (.long (dl.getD pl 0)), .second, .val (.int (Int32.ofNat 0)), .unset] []) _
    refine Goes.retV X2 hx hret hlk (hb hby d5_70) (by decide) (by decide) ⟨rfl, K2, Aa2, Ab2, la2, lb2⟩
  · rw [if_neg hs0] at hm
    obtain ⟨hs3, hm⟩ := some_if hm
    obtain ⟨pp, hpp, hm⟩ := Option.bind_eq_some_iff.mp hm
    obtain ⟨hp3, hm⟩ := some_if hm
    have gp := rd_spec hpp (by omega)
    refine G.ifF X1 hx (pc' := 15) (hb hby d5_12) (Jvm.Free.XT.i0_le_f (show Int32.ofNat 0 < Int32.ofNat sl from (nat_lt (by omega) (by omega)).mpr (by omega))) rfl ?_
    refine G.iload X1 hx (pc' := 17) (hb hby d5_15) rfl rfl ?_
    refine G.iconst X1 hx (pc' := 18) (hb hby d5_17) (z := (1 : Int32)) rfl rfl ?_
    refine G.isub X1 hx (pc' := 19) (hb hby d5_18) rfl ?_
    refine G.iconst X1 hx (pc' := 20) (hb hby d5_19) (z := (1 : Int32)) rfl rfl ?_
    refine G.iushr X1 hx (pc' := 21) (hb hby d5_20) rfl ?_
    rw [own_par (by omega)]
    show Goes p e below T1 (mkF m 21 #[.val (.ref q), .val (.int (Int32.ofNat pl)), .val (.int (Int32.ofNat sl)), .val (.long (dl.getD pl 0)), .second, .val (.int (Int32.ofNat sl)), .unset] [(.int (Int32.ofNat 0))]) _
    refine G.istore X1 hx (pc' := 23) (hb hby d5_21) (L' := #[.val (.ref q), .val (.int (Int32.ofNat pl)), .val (.int (Int32.ofNat sl)), .val (.long (dl.getD pl 0)), .second, .val (.int (Int32.ofNat sl)), .val (.int (Int32.ofNat 0))]) rfl rfl ?_
    refine G.aloadN X1 hx (pc' := 24) (hb hby d5_23) rfl rfl rfl ?_
    refine G.getF X1 hx hZ hown (hw _ (List.mem_of_getElem? (i := 10) rfl)) Via.refl e1 Fd (pc' := 27) (hb hby d5_24) rfl fun T3 X3 e3 => ?_
    refine G.aloadN X3 hx (pc' := 28) (hb hby d5_27) rfl rfl rfl ?_
    refine G.getF X3 hx hZ hown (hw _ (List.mem_of_getElem? (i := 13) rfl)) Via.refl e3 Fh (pc' := 31) (hb hby d5_28) rfl fun T4 X4 e4 => ?_
    refine G.iload X4 hx (pc' := 33) (hb hby d5_31) rfl rfl ?_
    refine G.iaload X4 hx hZ e4 Aa (pc' := 34) (v := (.int (Int32.ofNat pp))) (hb hby d5_33) gp.2.1 gp.2.2.1 rfl ?_
    refine G.laload X4 hx hZ e4 Ak (pc' := 35) (v := (.long (dl.getD pp 0))) (hb hby d5_34) (nat_nn (by omega)) (dist_at hld pp hp3) rfl ?_
    refine G.lloadN X4 hx (pc' := 36) (hb hby d5_35) rfl rfl ?_
    refine G.lcmp X4 hx (pc' := 37) (hb hby d5_36) rfl ?_
    by_cases hlt : rk.getD pl 0 < rk.getD pp 0
    · rw [if_pos hlt] at hm
      obtain ⟨r1, hm1, hm⟩ := Option.bind_eq_some_iff.mp hm
      refine G.ifT X4 hx (pc' := 43) (hb hby d5_37) (Jvm.Free.XT.ll_gt_t ((hrk pl pp hpl hp3).mpr hlt)) (by decide) (by decide) ?_
      refine G.aloadN X4 hx (pc' := 44) (hb hby d5_43) rfl rfl rfl ?_
      refine G.aloadN X4 hx (pc' := 45) (hb hby d5_44) rfl rfl rfl ?_
      refine G.getF X4 hx hZ hown (hw _ (List.mem_of_getElem? (i := 13) rfl)) Via.refl e4 Fh (pc' := 48) (hb hby d5_45) rfl fun T5 X5 e5 => ?_
      refine G.iload X5 hx (pc' := 50) (hb hby d5_48) rfl rfl ?_
      refine G.iaload X5 hx hZ e5 Aa (pc' := 51) (v := (.int (Int32.ofNat pp))) (hb hby d5_50) gp.2.1 gp.2.2.1 rfl ?_
      refine G.iload X5 hx (pc' := 53) (hb hby d5_51) rfl rfl ?_
      refine G.callP X5 hx hZ (y := (⟨"com/example/netlocus/netlocus/PlaceQueue", "put", "(II)V"⟩ : MethodName)) hown (hw _ (List.mem_of_getElem? (i := 32) rfl)) (hw _ (List.mem_of_getElem? (i := 33) rfl)) (hw _ (List.mem_of_getElem? (i := 2) rfl)) (hw _ (List.mem_of_getElem? (i := 34) rfl)) (hw _ (List.mem_of_getElem? (i := 3) rfl)) (hw _ (List.mem_of_getElem? (i := 35) rfl)) (by decide) e5 (rm := ({ frames := 0, cells := 0, slots := 0, locals := 0 } : Room)) (argsL := [(.int (Int32.ofNat pp)), (.int (Int32.ofNat sl))]) (S := []) (W := 0) (a := q) EQ (rm_put l Z a0 hw q a b k dl rk hp ix sz pp sl r1 h0 EQ Fd Fh Fi Fs Aa Ab Ak nqa nqb nqk nab nak nbk hlh hli hld hrk hm1) (lenOf pd_1 rfl) rfl (Nat.le_of_eq rfl) (by decide) (by decide) (by decide) (by decide) (by rw [hml]; rfl) (hb hby d5_53) (pc' := 56) rfl ?_
      rintro T6 _ L6 ⟨rfl, Kq6, Aa6, Ab6, la6, lb6⟩ X6
      have F6_q_distances := Fld.keep Fd Kq6.1 (ninS nqa (ninS nqb nin0))
      have F6_q_heap := Fld.keep Fh Kq6.1 (ninS nqa (ninS nqb nin0))
      have F6_q_index := Fld.keep Fi Kq6.1 (ninS nqa (ninS nqb nin0))
      have F6_q_size := Fld.keep Fs Kq6.1 (ninS nqa (ninS nqb nin0))
      have E6_q := Exa.keep EQ Kq6.1
      have A6_k := Seq.keep Ak Kq6.1 (ninS (Ne.symm nak) (ninS (Ne.symm nbk) nin0))
      have K6 := Kp.call K0 Kq6 (allS (Or.inl (List.mem_of_getElem? (i := 0) rfl)) (allS (Or.inl (List.mem_of_getElem? (i := 1) rfl)) all0))
      show Goes p e below T6 (mkF m 56 #[.val (.ref q), .val (.int (Int32.ofNat pl)), .val (.int (Int32.ofNat sl)), .val (.long (dl.getD pl 0)), .second, .val (.int (Int32.ofNat sl)), .val (.int (Int32.ofNat 0))] []) _
      refine G.iload X6 hx (pc' := 58) (hb hby d5_56) rfl rfl ?_
      refine G.istore X6 hx (pc' := 60) (hb hby d5_58) (L' := #[.val (.ref q), .val (.int (Int32.ofNat pl)), .val (.int (Int32.ofNat sl)), .val (.long (dl.getD pl 0)), .second, .val (.int (Int32.ofNat 0)), .val (.int (Int32.ofNat 0))]) rfl rfl ?_
      refine G.goto X6 hx (pc' := 10) (hb hby d5_60) (by decide) (by decide) ?_
      refine G.iload X6 hx (pc' := 12) (hb hby d5_10) rfl rfl ?_
      refine G.ifT X6 hx (pc' := 63) (hb hby d5_12) (Jvm.Free.XT.i0_le_t (by decide)) (by decide) (by decide) ?_
      refine G.aloadN X6 hx (pc' := 64) (hb hby d5_63) rfl rfl rfl ?_
      refine G.iloadN X6 hx (pc' := 65) (hb hby d5_64) rfl rfl ?_
      refine G.iload X6 hx (pc' := 67) (hb hby d5_65) rfl rfl ?_
      refine G.callP X6 hx hZ (y := (⟨"com/example/netlocus/netlocus/PlaceQueue", "put", "(II)V"⟩ : MethodName)) hown (hw _ (List.mem_of_getElem? (i := 32) rfl)) (hw _ (List.mem_of_getElem? (i := 33) rfl)) (hw _ (List.mem_of_getElem? (i := 2) rfl)) (hw _ (List.mem_of_getElem? (i := 34) rfl)) (hw _ (List.mem_of_getElem? (i := 3) rfl)) (hw _ (List.mem_of_getElem? (i := 35) rfl)) (by decide) rfl (rm := ({ frames := 0, cells := 0, slots := 0, locals := 0 } : Room)) (argsL := [(.int (Int32.ofNat pl)), (.int (Int32.ofNat 0))]) (S := []) (W := 0) (a := q) E6_q (rm_put l Z a0 hw q a b k dl rk r1.1 r1.2 sz pl 0 r T6.heap E6_q F6_q_distances F6_q_heap F6_q_index F6_q_size Aa6 Ab6 A6_k nqa nqb nqk nab nak nbk la6 lb6 hld hrk hm) (lenOf pd_1 rfl) rfl (Nat.le_of_eq rfl) (by decide) (by decide) (by decide) (by decide) (by rw [hml]; rfl) (hb hby d5_67) (pc' := 70) rfl ?_
      rintro T7 _ L7 ⟨rfl, Kq7, Aa7, Ab7, la7, lb7⟩ X7
      have F7_q_distances := Fld.keep F6_q_distances Kq7.1 (ninS nqa (ninS nqb nin0))
      have F7_q_heap := Fld.keep F6_q_heap Kq7.1 (ninS nqa (ninS nqb nin0))
      have F7_q_index := Fld.keep F6_q_index Kq7.1 (ninS nqa (ninS nqb nin0))
      have F7_q_size := Fld.keep F6_q_size Kq7.1 (ninS nqa (ninS nqb nin0))
      have E7_q := Exa.keep E6_q Kq7.1
      have A7_k := Seq.keep A6_k Kq7.1 (ninS (Ne.symm nak) (ninS (Ne.symm nbk) nin0))
      have K7 := Kp.call K6 Kq7 (allS (Or.inl (List.mem_of_getElem? (i := 0) rfl)) (allS (Or.inl (List.mem_of_getElem? (i := 1) rfl)) all0))
      show Goes p e below T7 (mkF m 70 #[.val (.ref q), .val (.int (Int32.ofNat pl)), .val (.int (Int32.ofNat sl)), .val (.long (dl.getD pl 0)), .second, .val (.int (Int32.ofNat 0)), .val (.int (Int32.ofNat 0))] []) _
      refine Goes.retV X7 hx hret hlk (hb hby d5_70) (by decide) (by decide) ⟨rfl, K7, Aa7, Ab7, la7, lb7⟩
    · rw [if_neg hlt] at hm
      refine G.ifF X4 hx (pc' := 40) (hb hby d5_37) (Jvm.Free.XT.ll_gt_f (fun z => hlt ((hrk pl pp hpl hp3).mp z))) rfl ?_
      refine G.goto X4 hx (pc' := 63) (hb hby d5_40) (by decide) (by decide) ?_
      refine G.aloadN X4 hx (pc' := 64) (hb hby d5_63) rfl rfl rfl ?_
      refine G.iloadN X4 hx (pc' := 65) (hb hby d5_64) rfl rfl ?_
      refine G.iload X4 hx (pc' := 67) (hb hby d5_65) rfl rfl ?_
      refine G.callP X4 hx hZ (y := (⟨"com/example/netlocus/netlocus/PlaceQueue", "put", "(II)V"⟩ : MethodName)) hown (hw _ (List.mem_of_getElem? (i := 32) rfl)) (hw _ (List.mem_of_getElem? (i := 33) rfl)) (hw _ (List.mem_of_getElem? (i := 2) rfl)) (hw _ (List.mem_of_getElem? (i := 34) rfl)) (hw _ (List.mem_of_getElem? (i := 3) rfl)) (hw _ (List.mem_of_getElem? (i := 35) rfl)) (by decide) e4 (rm := ({ frames := 0, cells := 0, slots := 0, locals := 0 } : Room)) (argsL := [(.int (Int32.ofNat pl)), (.int (Int32.ofNat sl))]) (S := []) (W := 0) (a := q) EQ (rm_put l Z a0 hw q a b k dl rk hp ix sz pl sl r h0 EQ Fd Fh Fi Fs Aa Ab Ak nqa nqb nqk nab nak nbk hlh hli hld hrk hm) (lenOf pd_1 rfl) rfl (Nat.le_of_eq rfl) (by decide) (by decide) (by decide) (by decide) (by rw [hml]; rfl) (hb hby d5_67) (pc' := 70) rfl ?_
      rintro T8 _ L8 ⟨rfl, Kq8, Aa8, Ab8, la8, lb8⟩ X8
      have F8_q_distances := Fld.keep Fd Kq8.1 (ninS nqa (ninS nqb nin0))
      have F8_q_heap := Fld.keep Fh Kq8.1 (ninS nqa (ninS nqb nin0))
      have F8_q_index := Fld.keep Fi Kq8.1 (ninS nqa (ninS nqb nin0))
      have F8_q_size := Fld.keep Fs Kq8.1 (ninS nqa (ninS nqb nin0))
      have E8_q := Exa.keep EQ Kq8.1
      have A8_k := Seq.keep Ak Kq8.1 (ninS (Ne.symm nak) (ninS (Ne.symm nbk) nin0))
      have K8 := Kp.call K0 Kq8 (allS (Or.inl (List.mem_of_getElem? (i := 0) rfl)) (allS (Or.inl (List.mem_of_getElem? (i := 1) rfl)) all0))
      show Goes p e below T8 (mkF m 70 #[.val (.ref q), .val (.int (Int32.ofNat pl)), .val (.int (Int32.ofNat sl)), .val (.long (dl.getD pl 0)), .second, .val (.int (Int32.ofNat sl)), .val (.int (Int32.ofNat 0))] []) _
      refine Goes.retV X8 hx hret hlk (hb hby d5_70) (by decide) (by decide) ⟨rfl, K8, Aa8, Ab8, la8, lb8⟩
set_option maxRecDepth 65536 in
set_option maxHeartbeats 40000000 in
theorem rm_add (l : Launch) (Z : State) (a0 : Array Value) (hw : ∀ d ∈ tables_1, d.before a0 Z = true) (q a b k : Addr) (dl : List Int64) (rk hp ix : List Nat) (sz : Nat) (pl : Nat) (st : Stt) (h0 : Heap) (EQ : Exa Z h0 q "com/example/netlocus/netlocus/PlaceQueue") (Fd : Fld Z h0 q "com/example/netlocus/netlocus/PlaceQueue" "distances" "[J" (.ref k)) (Fh : Fld Z h0 q "com/example/netlocus/netlocus/PlaceQueue" "heap" "[I" (.ref a)) (Fi : Fld Z h0 q "com/example/netlocus/netlocus/PlaceQueue" "index" "[I" (.ref b)) (Fs : Fld Z h0 q "com/example/netlocus/netlocus/PlaceQueue" "size" "I" (.int (Int32.ofNat sz))) (Aa : Seq Z h0 a .int (enc hp)) (Ab : Seq Z h0 b .int (enc ix)) (Ak : Seq Z h0 k .long (dl.map Value.long)) (nqa : q ≠ a) (nqb : q ≠ b) (nqk : q ≠ k) (nab : a ≠ b) (nak : a ≠ k) (nbk : b ≠ k) (hlh : hp.length = 3) (hli : ix.length = 3) (hld : dl.length = 3) (hrk : Rk dl rk) (hpl : pl < 3) (hsz : sz < 4) (hm : addM rk (hp, ix, sz) pl = some st) :
    Con l (⟨"com/example/netlocus/netlocus/PlaceQueue", "addOrRaise", "(I)V"⟩ : MethodName) prog_48_method_4_code 3 none ({ frames := 2, cells := 0, slots := 0, locals := 32 } : Room) Z #[(.ref q), (.int (Int32.ofNat pl))] h0 (fun v h L => v = none ∧ Kp h0 h [q, a, b] L ∧ Fld Z h q "com/example/netlocus/netlocus/PlaceQueue" "distances" "[J" (.ref k) ∧ Fld Z h q "com/example/netlocus/netlocus/PlaceQueue" "heap" "[I" (.ref a) ∧ Fld Z h q "com/example/netlocus/netlocus/PlaceQueue" "index" "[I" (.ref b) ∧ Fld Z h q "com/example/netlocus/netlocus/PlaceQueue" "size" "I" (.int (Int32.ofNat st.2.2)) ∧ Seq Z h a .int (enc st.1) ∧ Seq Z h b .int (enc st.2.1) ∧ st.1.length = 3 ∧ st.2.1.length = 3) := by
  refine Con.of_body (plainFor_of_name pn_0) ?_
  intro p e s m below meth c T0 X0 hx hby hml hZ hown hnm hret hlk e0
  have hown : s.vm.findClass "com/example/netlocus/netlocus/PlaceQueue" = some m.cls := hown
  have hml : c.maxLocals = 3 := hml
  refine Goes.cast (ef4_RI m q (Int32.ofNat pl)) ?_
  have K0 := Kp.refl h0 [q, a, b]
  unfold addM at hm
  obtain ⟨t, ht, hm⟩ := Option.bind_eq_some_iff.mp hm
  have ht : rd ix pl = some t := ht
  have gt := rd_spec ht (by omega)
  refine G.aloadN X0 hx (pc' := 1) (hb hby d4_0) rfl rfl rfl ?_
  refine G.getF X0 hx hZ hown (hw _ (List.mem_of_getElem? (i := 15) rfl)) Via.refl e0 Fi (pc' := 4) (hb hby d4_1) rfl fun T1 X1 e1 => ?_
  refine G.iloadN X1 hx (pc' := 5) (hb hby d4_4) rfl rfl ?_
  refine G.iaload X1 hx hZ e1 Ab (pc' := 6) (v := (.int (Int32.ofNat t))) (hb hby d4_5) gt.2.1 gt.2.2.1 rfl ?_
  refine G.istoreN X1 hx (pc' := 7) (hb hby d4_6) (L' := #[.val (.ref q), .val (.int (Int32.ofNat pl)), .val (.int (Int32.ofNat t))]) rfl rfl ?_
  refine G.iloadN X1 hx (pc' := 8) (hb hby d4_7) rfl rfl ?_
  by_cases hneg : t = NEG
  · rw [if_pos hneg] at hm
    obtain ⟨r, hr, hm⟩ := Option.bind_eq_some_iff.mp hm
    cases hm
    have hr : upM rk hp ix pl sz = some r := hr
    refine G.ifF X1 hx (pc' := 11) (hb hby d4_8) (Jvm.Free.XT.i0_ge_f (by rw [hneg]; decide)) rfl ?_
    refine G.aloadN X1 hx (pc' := 12) (hb hby d4_11) rfl rfl rfl ?_
    refine G.getF X1 hx hZ hown (hw _ (List.mem_of_getElem? (i := 26) rfl)) Via.refl e1 Fs (pc' := 15) (hb hby d4_12) rfl fun T2 X2 e2 => ?_
    refine G.istoreN X2 hx (pc' := 16) (hb hby d4_15) (L' := #[.val (.ref q), .val (.int (Int32.ofNat pl)), .val (.int (Int32.ofNat sz))]) rfl rfl ?_
    refine G.aloadN X2 hx (pc' := 17) (hb hby d4_16) rfl rfl rfl ?_
    refine G.dup X2 hx (pc' := 18) (hb hby d4_17) rfl rfl ?_
    refine G.getF X2 hx hZ hown (hw _ (List.mem_of_getElem? (i := 26) rfl)) Via.refl e2 Fs (pc' := 21) (hb hby d4_18) rfl fun T3 X3 e3 => ?_
    refine G.iconst X3 hx (pc' := 22) (hb hby d4_21) (z := (1 : Int32)) rfl rfl ?_
    refine G.iadd X3 hx (pc' := 23) (hb hby d4_22) rfl ?_
    refine G.putF X3 hx hZ hown (hw _ (List.mem_of_getElem? (i := 26) rfl)) Via.refl e3 Fs EQ (Or.inl (hw _ (List.mem_of_getElem? (i := 27) rfl))) (hw _ (List.mem_of_getElem? (i := 2) rfl)) (ty := .int) (by decide) rfl rfl (pc' := 26) (hb hby d4_23) rfl fun T4 h4 X4 e4 W4 => ?_
    have F4_q_distances := Fld.other W4 Fd (Or.inr (slot_ne (Or.inr (hw _ (List.mem_of_getElem? (i := 11) rfl))) (Or.inl (hw _ (List.mem_of_getElem? (i := 27) rfl))) (by decide) (t := (.array .long)) (t' := .int) (by decide) (by decide)))
    have F4_q_heap := Fld.other W4 Fh (Or.inr (slot_ne (Or.inr (hw _ (List.mem_of_getElem? (i := 14) rfl))) (Or.inl (hw _ (List.mem_of_getElem? (i := 27) rfl))) (by decide) (t := (.array .int)) (t' := .int) (by decide) (by decide)))
    have F4_q_index := Fld.other W4 Fi (Or.inr (slot_ne (Or.inr (hw _ (List.mem_of_getElem? (i := 16) rfl))) (Or.inl (hw _ (List.mem_of_getElem? (i := 27) rfl))) (by decide) (t := (.array .int)) (t' := .int) (by decide) (by decide)))
    have E4_q := Exa.wr W4 EQ
    have A4_a := Seq.other Aa W4 (Ne.symm nqa)
    have A4_b := Seq.other Ab W4 (Ne.symm nqb)
    have A4_k := Seq.other Ak W4 (Ne.symm nqk)
    have K4 := Kp.wr K0 W4 (Or.inl (List.mem_of_getElem? (i := 0) rfl))
    have F4_q_size := Fld.same W4 Fs
    rw [show Int32.ofNat sz + (1 : Int32) = Int32.ofNat (sz + 1) from nat_add (j := 1)] at F4_q_size
    refine G.aloadN X4 hx (pc' := 27) (hb hby d4_26) rfl rfl rfl ?_
    refine G.iloadN X4 hx (pc' := 28) (hb hby d4_27) rfl rfl ?_
    refine G.iloadN X4 hx (pc' := 29) (hb hby d4_28) rfl rfl ?_
    refine G.callP X4 hx hZ (y := (⟨"com/example/netlocus/netlocus/PlaceQueue", "siftUp", "(II)V"⟩ : MethodName)) hown (hw _ (List.mem_of_getElem? (i := 28) rfl)) (hw _ (List.mem_of_getElem? (i := 29) rfl)) (hw _ (List.mem_of_getElem? (i := 2) rfl)) (hw _ (List.mem_of_getElem? (i := 30) rfl)) (hw _ (List.mem_of_getElem? (i := 3) rfl)) (hw _ (List.mem_of_getElem? (i := 31) rfl)) (by decide) e4 (rm := ({ frames := 1, cells := 0, slots := 0, locals := 14 } : Room)) (argsL := [(.int (Int32.ofNat pl)), (.int (Int32.ofNat sz))]) (S := []) (W := 0) (a := q) E4_q (rm_up l Z a0 hw q a b k dl rk hp ix (sz + 1) pl sz r h4 E4_q F4_q_distances F4_q_heap F4_q_index F4_q_size A4_a A4_b A4_k nqa nqb nqk nab nak nbk hlh hli hld hrk hpl hr) (lenOf pd_1 rfl) rfl (Nat.le_of_eq rfl) (by decide) (by decide) (by decide) (by decide) (by rw [hml]; rfl) (hb hby d4_29) (pc' := 32) rfl ?_
    rintro T5 _ L5 ⟨rfl, Kq5, Aa5, Ab5, la5, lb5⟩ X5
    have F5_q_distances := Fld.keep F4_q_distances Kq5.1 (ninS nqa (ninS nqb nin0))
    have F5_q_heap := Fld.keep F4_q_heap Kq5.1 (ninS nqa (ninS nqb nin0))
    have F5_q_index := Fld.keep F4_q_index Kq5.1 (ninS nqa (ninS nqb nin0))
    have F5_q_size := Fld.keep F4_q_size Kq5.1 (ninS nqa (ninS nqb nin0))
    have E5_q := Exa.keep E4_q Kq5.1
    have A5_k := Seq.keep A4_k Kq5.1 (ninS (Ne.symm nak) (ninS (Ne.symm nbk) nin0))
    have K5 := Kp.call K4 Kq5 (allS (Or.inl (List.mem_of_getElem? (i := 1) rfl)) (allS (Or.inl (List.mem_of_getElem? (i := 2) rfl)) all0))
    show Goes p e below T5 (mkF m 32 #[.val (.ref q), .val (.int (Int32.ofNat pl)), .val (.int (Int32.ofNat sz))] []) _
    refine Goes.retV X5 hx hret hlk (hb hby d4_32) (by decide) (by decide) ⟨rfl, K5, F5_q_distances, F5_q_heap, F5_q_index, F5_q_size, Aa5, Ab5, la5, lb5⟩
  · rw [if_neg hneg] at hm
    obtain ⟨r, hr, hm⟩ := Option.bind_eq_some_iff.mp hm
    cases hm
    have hr : upM rk hp ix pl t = some r := hr
    have ht1 : t < 1000 := gt.2.2.2.resolve_right hneg
    refine G.ifT X1 hx (pc' := 26) (hb hby d4_8) (Jvm.Free.XT.i0_ge_t (nat_nn (by omega))) (by decide) (by decide) ?_
    refine G.aloadN X1 hx (pc' := 27) (hb hby d4_26) rfl rfl rfl ?_
    refine G.iloadN X1 hx (pc' := 28) (hb hby d4_27) rfl rfl ?_
    refine G.iloadN X1 hx (pc' := 29) (hb hby d4_28) rfl rfl ?_
    refine G.callP X1 hx hZ (y := (⟨"com/example/netlocus/netlocus/PlaceQueue", "siftUp", "(II)V"⟩ : MethodName)) hown (hw _ (List.mem_of_getElem? (i := 28) rfl)) (hw _ (List.mem_of_getElem? (i := 29) rfl)) (hw _ (List.mem_of_getElem? (i := 2) rfl)) (hw _ (List.mem_of_getElem? (i := 30) rfl)) (hw _ (List.mem_of_getElem? (i := 3) rfl)) (hw _ (List.mem_of_getElem? (i := 31) rfl)) (by decide) e1 (rm := ({ frames := 1, cells := 0, slots := 0, locals := 14 } : Room)) (argsL := [(.int (Int32.ofNat pl)), (.int (Int32.ofNat t))]) (S := []) (W := 0) (a := q) EQ (rm_up l Z a0 hw q a b k dl rk hp ix sz pl t r h0 EQ Fd Fh Fi Fs Aa Ab Ak nqa nqb nqk nab nak nbk hlh hli hld hrk hpl hr) (lenOf pd_1 rfl) rfl (Nat.le_of_eq rfl) (by decide) (by decide) (by decide) (by decide) (by rw [hml]; rfl) (hb hby d4_29) (pc' := 32) rfl ?_
    rintro T6 _ L6 ⟨rfl, Kq6, Aa6, Ab6, la6, lb6⟩ X6
    have F6_q_distances := Fld.keep Fd Kq6.1 (ninS nqa (ninS nqb nin0))
    have F6_q_heap := Fld.keep Fh Kq6.1 (ninS nqa (ninS nqb nin0))
    have F6_q_index := Fld.keep Fi Kq6.1 (ninS nqa (ninS nqb nin0))
    have F6_q_size := Fld.keep Fs Kq6.1 (ninS nqa (ninS nqb nin0))
    have E6_q := Exa.keep EQ Kq6.1
    have A6_k := Seq.keep Ak Kq6.1 (ninS (Ne.symm nak) (ninS (Ne.symm nbk) nin0))
    have K6 := Kp.call K0 Kq6 (allS (Or.inl (List.mem_of_getElem? (i := 1) rfl)) (allS (Or.inl (List.mem_of_getElem? (i := 2) rfl)) all0))
    show Goes p e below T6 (mkF m 32 #[.val (.ref q), .val (.int (Int32.ofNat pl)), .val (.int (Int32.ofNat t))] []) _
    refine Goes.retV X6 hx hret hlk (hb hby d4_32) (by decide) (by decide) ⟨rfl, K6, F6_q_distances, F6_q_heap, F6_q_index, F6_q_size, Aa6, Ab6, la6, lb6⟩
set_option maxRecDepth 65536 in
set_option maxHeartbeats 40000000 in
theorem rm_down (l : Launch) (Z : State) (a0 : Array Value) (hw : ∀ d ∈ tables_1, d.before a0 Z = true) (q a b k : Addr) (dl : List Int64) (rk hp ix : List Nat) (sz : Nat) (pl : Nat) (r : List Nat × List Nat) (h0 : Heap) (EQ : Exa Z h0 q "com/example/netlocus/netlocus/PlaceQueue") (Fd : Fld Z h0 q "com/example/netlocus/netlocus/PlaceQueue" "distances" "[J" (.ref k)) (Fh : Fld Z h0 q "com/example/netlocus/netlocus/PlaceQueue" "heap" "[I" (.ref a)) (Fi : Fld Z h0 q "com/example/netlocus/netlocus/PlaceQueue" "index" "[I" (.ref b)) (Fs : Fld Z h0 q "com/example/netlocus/netlocus/PlaceQueue" "size" "I" (.int (Int32.ofNat sz))) (Aa : Seq Z h0 a .int (enc hp)) (Ab : Seq Z h0 b .int (enc ix)) (Ak : Seq Z h0 k .long (dl.map Value.long)) (nqa : q ≠ a) (nqb : q ≠ b) (nqk : q ≠ k) (nab : a ≠ b) (nak : a ≠ k) (nbk : b ≠ k) (hlh : hp.length = 3) (hli : ix.length = 3) (hld : dl.length = 3) (hrk : Rk dl rk) (hpl : pl < 3) (hm : downM rk hp ix sz pl = some r) :
    Con l (⟨"com/example/netlocus/netlocus/PlaceQueue", "siftDown", "(II)V"⟩ : MethodName) prog_48_method_7_code 7 none ({ frames := 1, cells := 0, slots := 0, locals := 14 } : Room) Z #[(.ref q), (.int (Int32.ofNat pl)), (.int (0 : Int32))] h0 (fun v h L => v = none ∧ Kp h0 h [a, b] L ∧ Seq Z h a .int (enc r.1) ∧ Seq Z h b .int (enc r.2) ∧ r.1.length = 3 ∧ r.2.length = 3) := by
  refine Con.of_body (plainFor_of_name pn_0) ?_
  intro p e s m below meth c T0 X0 hx hby hml hZ hown hnm hret hlk e0
  have hown : s.vm.findClass "com/example/netlocus/netlocus/PlaceQueue" = some m.cls := hown
  have hml : c.maxLocals = 7 := hml
  refine Goes.cast (ef11_RII m q (Int32.ofNat pl) (0 : Int32)) ?_
  have K0 := Kp.refl h0 [a, b]
  unfold downM at hm
  refine G.aloadN X0 hx (pc' := 1) (hb hby d11_0) rfl rfl rfl ?_
  refine G.getF X0 hx hZ hown (hw _ (List.mem_of_getElem? (i := 10) rfl)) Via.refl e0 Fd (pc' := 4) (hb hby d11_1) rfl fun T1 X1 e1 => ?_
  refine G.iloadN X1 hx (pc' := 5) (hb hby d11_4) rfl rfl ?_
  refine G.laload X1 hx hZ e1 Ak (pc' := 6) (v := (.long (dl.getD pl 0))) (hb hby d11_5) (nat_nn (by omega)) (dist_at hld pl hpl) rfl ?_
  refine G.lstoreN X1 hx (pc' := 7) (hb hby d11_6) (L' := #[.val (.ref q), .val (.int (Int32.ofNat pl)), .val (.int (0 : Int32)), .val (.long (dl.getD pl 0)), .second, .unset, .unset]) rfl rfl ?_
  refine G.iloadN X1 hx (pc' := 8) (hb hby d11_7) rfl rfl ?_
  refine G.istore X1 hx (pc' := 10) (hb hby d11_8) (L' := #[.val (.ref q), .val (.int (Int32.ofNat pl)), .val (.int (0 : Int32)), .val (.long (dl.getD pl 0)), .second, .val (.int (0 : Int32)), .unset]) rfl rfl ?_
  refine G.iconst X1 hx (pc' := 11) (hb hby d11_10) (z := (2 : Int32)) rfl rfl ?_
  refine G.iload X1 hx (pc' := 13) (hb hby d11_11) rfl rfl ?_
  refine G.imul X1 hx (pc' := 14) (hb hby d11_13) rfl ?_
  refine G.iconst X1 hx (pc' := 15) (hb hby d11_14) (z := (1 : Int32)) rfl rfl ?_
  refine G.iadd X1 hx (pc' := 16) (hb hby d11_15) rfl ?_
  show Goes p e below T1 (mkF m 16 #[.val (.ref q), .val (.int (Int32.ofNat pl)), .val (.int (0 : Int32)), .val (.long (dl.getD pl 0)), .second, .val (.int (0 : Int32)), .unset] [(.int (1 : Int32))]) _
  refine G.istore X1 hx (pc' := 18) (hb hby d11_16) (L' := #[.val (.ref q), .val (.int (Int32.ofNat pl)), .val (.int (0 : Int32)), .val (.long (dl.getD pl 0)), .second, .val (.int (0 : Int32)), .val (.int (1 : Int32))]) rfl rfl ?_
  refine G.iload X1 hx (pc' := 20) (hb hby d11_18) rfl rfl ?_
  refine G.aloadN X1 hx (pc' := 21) (hb hby d11_20) rfl rfl rfl ?_
  refine G.getF X1 hx hZ hown (hw _ (List.mem_of_getElem? (i := 26) rfl)) Via.refl e1 Fs (pc' := 24) (hb hby d11_21) rfl fun T2 X2 e2 => ?_
  by_cases hs1 : sz = 1
  · rw [if_pos hs1] at hm
    refine G.icmpF X2 hx (pc' := 27) (hb hby d11_24) (Jvm.Free.XT.ii_lt_f (by rw [hs1]; decide)) rfl ?_
    refine G.goto X2 hx (pc' := 114) (hb hby d11_27) (by decide) (by decide) ?_
    refine G.aloadN X2 hx (pc' := 115) (hb hby d11_114) rfl rfl rfl ?_
    refine G.iloadN X2 hx (pc' := 116) (hb hby d11_115) rfl rfl ?_
    refine G.iload X2 hx (pc' := 118) (hb hby d11_116) rfl rfl ?_
    refine G.callP X2 hx hZ (y := (⟨"com/example/netlocus/netlocus/PlaceQueue", "put", "(II)V"⟩ : MethodName)) hown (hw _ (List.mem_of_getElem? (i := 32) rfl)) (hw _ (List.mem_of_getElem? (i := 33) rfl)) (hw _ (List.mem_of_getElem? (i := 2) rfl)) (hw _ (List.mem_of_getElem? (i := 34) rfl)) (hw _ (List.mem_of_getElem? (i := 3) rfl)) (hw _ (List.mem_of_getElem? (i := 35) rfl)) (by decide) e2 (rm := ({ frames := 0, cells := 0, slots := 0, locals := 0 } : Room)) (argsL := [(.int (Int32.ofNat pl)), (.int (0 : Int32))]) (S := []) (W := 0) (a := q) EQ (rm_put l Z a0 hw q a b k dl rk hp ix sz pl 0 r h0 EQ Fd Fh Fi Fs Aa Ab Ak nqa nqb nqk nab nak nbk hlh hli hld hrk hm) (lenOf pd_1 rfl) rfl (Nat.le_of_eq rfl) (by decide) (by decide) (by decide) (by decide) (by rw [hml]; rfl) (hb hby d11_118) (pc' := 121) rfl ?_
    rintro T3 _ L3 ⟨rfl, Kq3, Aa3, Ab3, la3, lb3⟩ X3
    have F3_q_distances := Fld.keep Fd Kq3.1 (ninS nqa (ninS nqb nin0))
    have F3_q_heap := Fld.keep Fh Kq3.1 (ninS nqa (ninS nqb nin0))
    have F3_q_index := Fld.keep Fi Kq3.1 (ninS nqa (ninS nqb nin0))
    have F3_q_size := Fld.keep Fs Kq3.1 (ninS nqa (ninS nqb nin0))
    have E3_q := Exa.keep EQ Kq3.1
    have A3_k := Seq.keep Ak Kq3.1 (ninS (Ne.symm nak) (ninS (Ne.symm nbk) nin0))
    have K3 := Kp.call K0 Kq3 (allS (Or.inl (List.mem_of_getElem? (i := 0) rfl)) (allS (Or.inl (List.mem_of_getElem? (i := 1) rfl)) all0))
    show Goes p e below T3 (mkF m 121 #[.val (.ref q), .val (.int (Int32.ofNat pl)), .val (.int (0 : Int32)), .val (.long (dl.getD pl 0)), .second, .val (.int (0 : Int32)), .val (.int (1 : Int32))] []) _
    refine Goes.retV X3 hx hret hlk (hb hby d11_121) (by decide) (by decide) ⟨rfl, K3, Aa3, Ab3, la3, lb3⟩
  · rw [if_neg hs1] at hm
    obtain ⟨hs2, hm⟩ := some_if hm
    obtain ⟨cc, hcc, hm⟩ := Option.bind_eq_some_iff.mp hm
    obtain ⟨hc3, hm⟩ := some_if hm
    have gc := rd_spec hcc (by omega)
    refine G.icmpT X2 hx (pc' := 30) (hb hby d11_24) (Jvm.Free.XT.ii_lt_t (by rw [hs2]; decide)) (by decide) (by decide) ?_
    refine G.iload X2 hx (pc' := 32) (hb hby d11_30) rfl rfl ?_
    refine G.iconst X2 hx (pc' := 33) (hb hby d11_32) (z := (1 : Int32)) rfl rfl ?_
    refine G.iadd X2 hx (pc' := 34) (hb hby d11_33) rfl ?_
    refine G.aloadN X2 hx (pc' := 35) (hb hby d11_34) rfl rfl rfl ?_
    refine G.getF X2 hx hZ hown (hw _ (List.mem_of_getElem? (i := 26) rfl)) Via.refl e2 Fs (pc' := 38) (hb hby d11_35) rfl fun T4 X4 e4 => ?_
    refine G.icmpT X4 hx (pc' := 74) (hb hby d11_38) (Jvm.Free.XT.ii_ge_t (by rw [hs2]; decide)) (by decide) (by decide) ?_
    refine G.aloadN X4 hx (pc' := 75) (hb hby d11_74) rfl rfl rfl ?_
    refine G.getF X4 hx hZ hown (hw _ (List.mem_of_getElem? (i := 10) rfl)) Via.refl e4 Fd (pc' := 78) (hb hby d11_75) rfl fun T5 X5 e5 => ?_
    refine G.aloadN X5 hx (pc' := 79) (hb hby d11_78) rfl rfl rfl ?_
    refine G.getF X5 hx hZ hown (hw _ (List.mem_of_getElem? (i := 13) rfl)) Via.refl e5 Fh (pc' := 82) (hb hby d11_79) rfl fun T6 X6 e6 => ?_
    refine G.iload X6 hx (pc' := 84) (hb hby d11_82) rfl rfl ?_
    refine G.iaload X6 hx hZ e6 Aa (pc' := 85) (v := (.int (Int32.ofNat cc))) (hb hby d11_84) gc.2.1 gc.2.2.1 rfl ?_
    refine G.laload X6 hx hZ e6 Ak (pc' := 86) (v := (.long (dl.getD cc 0))) (hb hby d11_85) (nat_nn (by omega)) (dist_at hld cc hc3) rfl ?_
    refine G.lloadN X6 hx (pc' := 87) (hb hby d11_86) rfl rfl ?_
    refine G.lcmp X6 hx (pc' := 88) (hb hby d11_87) rfl ?_
    by_cases hlt : rk.getD cc 0 < rk.getD pl 0
    · rw [if_pos hlt] at hm
      obtain ⟨r1, hm1, hm⟩ := Option.bind_eq_some_iff.mp hm
      refine G.ifT X6 hx (pc' := 94) (hb hby d11_88) (Jvm.Free.XT.ll_lt_t ((hrk cc pl hc3 hpl).mpr hlt)) (by decide) (by decide) ?_
      refine G.aloadN X6 hx (pc' := 95) (hb hby d11_94) rfl rfl rfl ?_
      refine G.aloadN X6 hx (pc' := 96) (hb hby d11_95) rfl rfl rfl ?_
      refine G.getF X6 hx hZ hown (hw _ (List.mem_of_getElem? (i := 13) rfl)) Via.refl e6 Fh (pc' := 99) (hb hby d11_96) rfl fun T7 X7 e7 => ?_
      refine G.iload X7 hx (pc' := 101) (hb hby d11_99) rfl rfl ?_
      refine G.iaload X7 hx hZ e7 Aa (pc' := 102) (v := (.int (Int32.ofNat cc))) (hb hby d11_101) gc.2.1 gc.2.2.1 rfl ?_
      refine G.iload X7 hx (pc' := 104) (hb hby d11_102) rfl rfl ?_
      refine G.callP X7 hx hZ (y := (⟨"com/example/netlocus/netlocus/PlaceQueue", "put", "(II)V"⟩ : MethodName)) hown (hw _ (List.mem_of_getElem? (i := 32) rfl)) (hw _ (List.mem_of_getElem? (i := 33) rfl)) (hw _ (List.mem_of_getElem? (i := 2) rfl)) (hw _ (List.mem_of_getElem? (i := 34) rfl)) (hw _ (List.mem_of_getElem? (i := 3) rfl)) (hw _ (List.mem_of_getElem? (i := 35) rfl)) (by decide) e7 (rm := ({ frames := 0, cells := 0, slots := 0, locals := 0 } : Room)) (argsL := [(.int (Int32.ofNat cc)), (.int (0 : Int32))]) (S := []) (W := 0) (a := q) EQ (rm_put l Z a0 hw q a b k dl rk hp ix sz cc 0 r1 h0 EQ Fd Fh Fi Fs Aa Ab Ak nqa nqb nqk nab nak nbk hlh hli hld hrk hm1) (lenOf pd_1 rfl) rfl (Nat.le_of_eq rfl) (by decide) (by decide) (by decide) (by decide) (by rw [hml]; rfl) (hb hby d11_104) (pc' := 107) rfl ?_
      rintro T8 _ L8 ⟨rfl, Kq8, Aa8, Ab8, la8, lb8⟩ X8
      have F8_q_distances := Fld.keep Fd Kq8.1 (ninS nqa (ninS nqb nin0))
      have F8_q_heap := Fld.keep Fh Kq8.1 (ninS nqa (ninS nqb nin0))
      have F8_q_index := Fld.keep Fi Kq8.1 (ninS nqa (ninS nqb nin0))
      have F8_q_size := Fld.keep Fs Kq8.1 (ninS nqa (ninS nqb nin0))
      have E8_q := Exa.keep EQ Kq8.1
      have A8_k := Seq.keep Ak Kq8.1 (ninS (Ne.symm nak) (ninS (Ne.symm nbk) nin0))
      have K8 := Kp.call K0 Kq8 (allS (Or.inl (List.mem_of_getElem? (i := 0) rfl)) (allS (Or.inl (List.mem_of_getElem? (i := 1) rfl)) all0))
      show Goes p e below T8 (mkF m 107 #[.val (.ref q), .val (.int (Int32.ofNat pl)), .val (.int (0 : Int32)), .val (.long (dl.getD pl 0)), .second, .val (.int (0 : Int32)), .val (.int (1 : Int32))] []) _
      refine G.iload X8 hx (pc' := 109) (hb hby d11_107) rfl rfl ?_
      refine G.istore X8 hx (pc' := 111) (hb hby d11_109) (L' := #[.val (.ref q), .val (.int (Int32.ofNat pl)), .val (.int (0 : Int32)), .val (.long (dl.getD pl 0)), .second, .val (.int (1 : Int32)), .val (.int (1 : Int32))]) rfl rfl ?_
      refine G.goto X8 hx (pc' := 10) (hb hby d11_111) (by decide) (by decide) ?_
      refine G.iconst X8 hx (pc' := 11) (hb hby d11_10) (z := (2 : Int32)) rfl rfl ?_
      refine G.iload X8 hx (pc' := 13) (hb hby d11_11) rfl rfl ?_
      refine G.imul X8 hx (pc' := 14) (hb hby d11_13) rfl ?_
      refine G.iconst X8 hx (pc' := 15) (hb hby d11_14) (z := (1 : Int32)) rfl rfl ?_
      refine G.iadd X8 hx (pc' := 16) (hb hby d11_15) rfl ?_
      show Goes p e below T8 (mkF m 16 #[.val (.ref q), .val (.int (Int32.ofNat pl)), .val (.int (0 : Int32)), .val (.long (dl.getD pl 0)), .second, .val (.int (1 : Int32)), .val (.int (1 : Int32))] [(.int (3 : Int32))]) _
      refine G.istore X8 hx (pc' := 18) (hb hby d11_16) (L' := #[.val (.ref q), .val (.int (Int32.ofNat pl)), .val (.int (0 : Int32)), .val (.long (dl.getD pl 0)), .second, .val (.int (1 : Int32)), .val (.int (3 : Int32))]) rfl rfl ?_
      refine G.iload X8 hx (pc' := 20) (hb hby d11_18) rfl rfl ?_
      refine G.aloadN X8 hx (pc' := 21) (hb hby d11_20) rfl rfl rfl ?_
      refine G.getF X8 hx hZ hown (hw _ (List.mem_of_getElem? (i := 26) rfl)) Via.refl rfl F8_q_size (pc' := 24) (hb hby d11_21) rfl fun T9 X9 e9 => ?_
      refine G.icmpF X9 hx (pc' := 27) (hb hby d11_24) (Jvm.Free.XT.ii_lt_f (by rw [hs2]; decide)) rfl ?_
      refine G.goto X9 hx (pc' := 114) (hb hby d11_27) (by decide) (by decide) ?_
      refine G.aloadN X9 hx (pc' := 115) (hb hby d11_114) rfl rfl rfl ?_
      refine G.iloadN X9 hx (pc' := 116) (hb hby d11_115) rfl rfl ?_
      refine G.iload X9 hx (pc' := 118) (hb hby d11_116) rfl rfl ?_
      refine G.callP X9 hx hZ (y := (⟨"com/example/netlocus/netlocus/PlaceQueue", "put", "(II)V"⟩ : MethodName)) hown (hw _ (List.mem_of_getElem? (i := 32) rfl)) (hw _ (List.mem_of_getElem? (i := 33) rfl)) (hw _ (List.mem_of_getElem? (i := 2) rfl)) (hw _ (List.mem_of_getElem? (i := 34) rfl)) (hw _ (List.mem_of_getElem? (i := 3) rfl)) (hw _ (List.mem_of_getElem? (i := 35) rfl)) (by decide) e9 (rm := ({ frames := 0, cells := 0, slots := 0, locals := 0 } : Room)) (argsL := [(.int (Int32.ofNat pl)), (.int (1 : Int32))]) (S := []) (W := 0) (a := q) E8_q (rm_put l Z a0 hw q a b k dl rk r1.1 r1.2 sz pl 1 r T8.heap E8_q F8_q_distances F8_q_heap F8_q_index F8_q_size Aa8 Ab8 A8_k nqa nqb nqk nab nak nbk la8 lb8 hld hrk hm) (lenOf pd_1 rfl) rfl (Nat.le_of_eq rfl) (by decide) (by decide) (by decide) (by decide) (by rw [hml]; rfl) (hb hby d11_118) (pc' := 121) rfl ?_
      rintro T10 _ L10 ⟨rfl, Kq10, Aa10, Ab10, la10, lb10⟩ X10
      have F10_q_distances := Fld.keep F8_q_distances Kq10.1 (ninS nqa (ninS nqb nin0))
      have F10_q_heap := Fld.keep F8_q_heap Kq10.1 (ninS nqa (ninS nqb nin0))
      have F10_q_index := Fld.keep F8_q_index Kq10.1 (ninS nqa (ninS nqb nin0))
      have F10_q_size := Fld.keep F8_q_size Kq10.1 (ninS nqa (ninS nqb nin0))
      have E10_q := Exa.keep E8_q Kq10.1
      have A10_k := Seq.keep A8_k Kq10.1 (ninS (Ne.symm nak) (ninS (Ne.symm nbk) nin0))
      have K10 := Kp.call K8 Kq10 (allS (Or.inl (List.mem_of_getElem? (i := 0) rfl)) (allS (Or.inl (List.mem_of_getElem? (i := 1) rfl)) all0))
      show Goes p e below T10 (mkF m 121 #[.val (.ref q), .val (.int (Int32.ofNat pl)), .val (.int (0 : Int32)), .val (.long (dl.getD pl 0)), .second, .val (.int (1 : Int32)), .val (.int (3 : Int32))] []) _
      refine Goes.retV X10 hx hret hlk (hb hby d11_121) (by decide) (by decide) ⟨rfl, K10, Aa10, Ab10, la10, lb10⟩
    · rw [if_neg hlt] at hm
      refine G.ifF X6 hx (pc' := 91) (hb hby d11_88) (Jvm.Free.XT.ll_lt_f (fun z => hlt ((hrk cc pl hc3 hpl).mp z))) rfl ?_
      refine G.goto X6 hx (pc' := 114) (hb hby d11_91) (by decide) (by decide) ?_
      refine G.aloadN X6 hx (pc' := 115) (hb hby d11_114) rfl rfl rfl ?_
      refine G.iloadN X6 hx (pc' := 116) (hb hby d11_115) rfl rfl ?_
      refine G.iload X6 hx (pc' := 118) (hb hby d11_116) rfl rfl ?_
      refine G.callP X6 hx hZ (y := (⟨"com/example/netlocus/netlocus/PlaceQueue", "put", "(II)V"⟩ : MethodName)) hown (hw _ (List.mem_of_getElem? (i := 32) rfl)) (hw _ (List.mem_of_getElem? (i := 33) rfl)) (hw _ (List.mem_of_getElem? (i := 2) rfl)) (hw _ (List.mem_of_getElem? (i := 34) rfl)) (hw _ (List.mem_of_getElem? (i := 3) rfl)) (hw _ (List.mem_of_getElem? (i := 35) rfl)) (by decide) e6 (rm := ({ frames := 0, cells := 0, slots := 0, locals := 0 } : Room)) (argsL := [(.int (Int32.ofNat pl)), (.int (0 : Int32))]) (S := []) (W := 0) (a := q) EQ (rm_put l Z a0 hw q a b k dl rk hp ix sz pl 0 r h0 EQ Fd Fh Fi Fs Aa Ab Ak nqa nqb nqk nab nak nbk hlh hli hld hrk hm) (lenOf pd_1 rfl) rfl (Nat.le_of_eq rfl) (by decide) (by decide) (by decide) (by decide) (by rw [hml]; rfl) (hb hby d11_118) (pc' := 121) rfl ?_
      rintro T11 _ L11 ⟨rfl, Kq11, Aa11, Ab11, la11, lb11⟩ X11
      have F11_q_distances := Fld.keep Fd Kq11.1 (ninS nqa (ninS nqb nin0))
      have F11_q_heap := Fld.keep Fh Kq11.1 (ninS nqa (ninS nqb nin0))
      have F11_q_index := Fld.keep Fi Kq11.1 (ninS nqa (ninS nqb nin0))
      have F11_q_size := Fld.keep Fs Kq11.1 (ninS nqa (ninS nqb nin0))
      have E11_q := Exa.keep EQ Kq11.1
      have A11_k := Seq.keep Ak Kq11.1 (ninS (Ne.symm nak) (ninS (Ne.symm nbk) nin0))
      have K11 := Kp.call K0 Kq11 (allS (Or.inl (List.mem_of_getElem? (i := 0) rfl)) (allS (Or.inl (List.mem_of_getElem? (i := 1) rfl)) all0))
      show Goes p e below T11 (mkF m 121 #[.val (.ref q), .val (.int (Int32.ofNat pl)), .val (.int (0 : Int32)), .val (.long (dl.getD pl 0)), .second, .val (.int (0 : Int32)), .val (.int (1 : Int32))] []) _
      refine Goes.retV X11 hx hret hlk (hb hby d11_121) (by decide) (by decide) ⟨rfl, K11, Aa11, Ab11, la11, lb11⟩
set_option maxRecDepth 65536 in
set_option maxHeartbeats 40000000 in
theorem rm_rem (l : Launch) (Z : State) (a0 : Array Value) (hw : ∀ d ∈ tables_1, d.before a0 Z = true) (q a b k : Addr) (dl : List Int64) (rk hp ix : List Nat) (sz : Nat) (r : Nat × Stt) (h0 : Heap) (EQ : Exa Z h0 q "com/example/netlocus/netlocus/PlaceQueue") (Fd : Fld Z h0 q "com/example/netlocus/netlocus/PlaceQueue" "distances" "[J" (.ref k)) (Fh : Fld Z h0 q "com/example/netlocus/netlocus/PlaceQueue" "heap" "[I" (.ref a)) (Fi : Fld Z h0 q "com/example/netlocus/netlocus/PlaceQueue" "index" "[I" (.ref b)) (Fs : Fld Z h0 q "com/example/netlocus/netlocus/PlaceQueue" "size" "I" (.int (Int32.ofNat sz))) (Aa : Seq Z h0 a .int (enc hp)) (Ab : Seq Z h0 b .int (enc ix)) (Ak : Seq Z h0 k .long (dl.map Value.long)) (nqa : q ≠ a) (nqb : q ≠ b) (nqk : q ≠ k) (nab : a ≠ b) (nak : a ≠ k) (nbk : b ≠ k) (hlh : hp.length = 3) (hli : ix.length = 3) (hld : dl.length = 3) (hrk : Rk dl rk) (hm : remM rk (hp, ix, sz) = some r) :
    Con l (⟨"com/example/netlocus/netlocus/PlaceQueue", "removeNearest", "()I"⟩ : MethodName) prog_48_method_5_code 2 (some .int) ({ frames := 2, cells := 0, slots := 0, locals := 32 } : Room) Z #[(.ref q)] h0 (fun v h L => v = some (.int (Int32.ofNat r.1)) ∧ Kp h0 h [q, a, b] L ∧ Fld Z h q "com/example/netlocus/netlocus/PlaceQueue" "distances" "[J" (.ref k) ∧ Fld Z h q "com/example/netlocus/netlocus/PlaceQueue" "heap" "[I" (.ref a) ∧ Fld Z h q "com/example/netlocus/netlocus/PlaceQueue" "index" "[I" (.ref b) ∧ Fld Z h q "com/example/netlocus/netlocus/PlaceQueue" "size" "I" (.int (Int32.ofNat r.2.2.2)) ∧ Seq Z h a .int (enc r.2.1) ∧ Seq Z h b .int (enc r.2.2.1) ∧ r.2.1.length = 3 ∧ r.2.2.1.length = 3) := by
  refine Con.of_body (plainFor_of_name pn_0) ?_
  intro p e s m below meth c T0 X0 hx hby hml hZ hown hnm hret hlk e0
  have hown : s.vm.findClass "com/example/netlocus/netlocus/PlaceQueue" = some m.cls := hown
  have hml : c.maxLocals = 2 := hml
  refine Goes.cast (ef10_R m q) ?_
  have K0 := Kp.refl h0 [q, a, b]
  unfold remM at hm
  obtain ⟨hs, hm⟩ := some_if hm
  have hs : 0 < sz ∧ sz < 4 := hs
  obtain ⟨nr, hnr, hm⟩ := Option.bind_eq_some_iff.mp hm
  obtain ⟨hn3, hm⟩ := some_if hm
  obtain ⟨ix1, hix, hm⟩ := Option.bind_eq_some_iff.mp hm
  have hnr : rd hp 0 = some nr := hnr
  have hix : wrt ix nr NEG = some ix1 := hix
  have gn := rd_spec hnr (by omega)
  have gw := wrt_spec hix (by omega)
  refine G.aloadN X0 hx (pc' := 1) (hb hby d10_0) rfl rfl rfl ?_
  refine G.getF X0 hx hZ hown (hw _ (List.mem_of_getElem? (i := 26) rfl)) Via.refl e0 Fs (pc' := 4) (hb hby d10_1) rfl fun T1 X1 e1 => ?_
  refine G.ifT X1 hx (pc' := 17) (hb hby d10_4) (Jvm.Free.XT.i0_ne_t (fun z => by have := (nat_eq (e := 0) (by omega) (by omega)).mp z; omega)) (by decide) (by decide) ?_
  refine G.aloadN X1 hx (pc' := 18) (hb hby d10_17) rfl rfl rfl ?_
  refine G.getF X1 hx hZ hown (hw _ (List.mem_of_getElem? (i := 13) rfl)) Via.refl e1 Fh (pc' := 21) (hb hby d10_18) rfl fun T2 X2 e2 => ?_
  refine G.iconst X2 hx (pc' := 22) (hb hby d10_21) (z := (0 : Int32)) rfl rfl ?_
  refine G.iaload X2 hx hZ e2 Aa (pc' := 23) (v := (.int (Int32.ofNat nr))) (hb hby d10_22) gn.2.1 gn.2.2.1 rfl ?_
  refine G.istoreN X2 hx (pc' := 24) (hb hby d10_23) (L' := #[.val (.ref q), .val (.int (Int32.ofNat nr))]) rfl rfl ?_
  refine G.aloadN X2 hx (pc' := 25) (hb hby d10_24) rfl rfl rfl ?_
  refine G.getF X2 hx hZ hown (hw _ (List.mem_of_getElem? (i := 15) rfl)) Via.refl e2 Fi (pc' := 28) (hb hby d10_25) rfl fun T3 X3 e3 => ?_
  refine G.iloadN X3 hx (pc' := 29) (hb hby d10_28) rfl rfl ?_
  refine G.iconst X3 hx (pc' := 30) (hb hby d10_29) (z := (-1 : Int32)) rfl rfl ?_
  refine G.iastore X3 hx hZ e3 Ab (pc' := 31) (hb hby d10_30) gw.1 gw.2.1 rfl fun T4 h4 X4 e4 W4 A4 => ?_
  have F4_q_distances := Fld.other W4 Fd (Or.inl nqb)
  have F4_q_heap := Fld.other W4 Fh (Or.inl nqb)
  have F4_q_index := Fld.other W4 Fi (Or.inl nqb)
  have F4_q_size := Fld.other W4 Fs (Or.inl nqb)
  have E4_q := Exa.wr W4 EQ
  have A4_a := Seq.other Aa W4 nab
  have A4_k := Seq.other Ak W4 (Ne.symm nbk)
  have K4 := Kp.wr K0 W4 (Or.inl (List.mem_of_getElem? (i := 2) rfl))
  have A4_b : Seq Z h4 b .int (enc ix1) := (show (enc ix).set (Int32.ofNat nr).toNatClampNeg (.int (-1 : Int32)) = enc ix1 from gw.2.2.1) ▸ A4
  refine G.aloadN X4 hx (pc' := 32) (hb hby d10_31) rfl rfl rfl ?_
  refine G.dup X4 hx (pc' := 33) (hb hby d10_32) rfl rfl ?_
  refine G.getF X4 hx hZ hown (hw _ (List.mem_of_getElem? (i := 26) rfl)) Via.refl e4 F4_q_size (pc' := 36) (hb hby d10_33) rfl fun T5 X5 e5 => ?_
  refine G.iconst X5 hx (pc' := 37) (hb hby d10_36) (z := (1 : Int32)) rfl rfl ?_
  refine G.isub X5 hx (pc' := 38) (hb hby d10_37) rfl ?_
  refine G.putF X5 hx hZ hown (hw _ (List.mem_of_getElem? (i := 26) rfl)) Via.refl e5 F4_q_size E4_q (Or.inl (hw _ (List.mem_of_getElem? (i := 27) rfl))) (hw _ (List.mem_of_getElem? (i := 2) rfl)) (ty := .int) (by decide) rfl rfl (pc' := 41) (hb hby d10_38) rfl fun T6 h6 X6 e6 W6 => ?_
  have F6_q_distances := Fld.other W6 F4_q_distances (Or.inr (slot_ne (Or.inr (hw _ (List.mem_of_getElem? (i := 11) rfl))) (Or.inl (hw _ (List.mem_of_getElem? (i := 27) rfl))) (by decide) (t := (.array .long)) (t' := .int) (by decide) (by decide)))
  have F6_q_heap := Fld.other W6 F4_q_heap (Or.inr (slot_ne (Or.inr (hw _ (List.mem_of_getElem? (i := 14) rfl))) (Or.inl (hw _ (List.mem_of_getElem? (i := 27) rfl))) (by decide) (t := (.array .int)) (t' := .int) (by decide) (by decide)))
  have F6_q_index := Fld.other W6 F4_q_index (Or.inr (slot_ne (Or.inr (hw _ (List.mem_of_getElem? (i := 16) rfl))) (Or.inl (hw _ (List.mem_of_getElem? (i := 27) rfl))) (by decide) (t := (.array .int)) (t' := .int) (by decide) (by decide)))
  have E6_q := Exa.wr W6 E4_q
  have A6_a := Seq.other A4_a W6 (Ne.symm nqa)
  have A6_b := Seq.other A4_b W6 (Ne.symm nqb)
  have A6_k := Seq.other A4_k W6 (Ne.symm nqk)
  have K6 := Kp.wr K4 W6 (Or.inl (List.mem_of_getElem? (i := 0) rfl))
  have F6_q_size := Fld.same W6 F4_q_size
  rw [nat_pred (by omega)] at F6_q_size
  refine G.aloadN X6 hx (pc' := 42) (hb hby d10_41) rfl rfl rfl ?_
  refine G.getF X6 hx hZ hown (hw _ (List.mem_of_getElem? (i := 26) rfl)) Via.refl e6 F6_q_size (pc' := 45) (hb hby d10_42) rfl fun T7 X7 e7 => ?_
  by_cases hs1 : sz = 1
  · rw [if_pos (show (hp, ix, sz).2.2 = 1 from hs1)] at hm
    cases hm
    refine G.ifT X7 hx (pc' := 62) (hb hby d10_45) (Jvm.Free.XT.i0_le_t (by rw [hs1]; decide)) (by decide) (by decide) ?_
    refine G.iloadN X7 hx (pc' := 63) (hb hby d10_62) rfl rfl ?_
    have Fs8 : Fld Z h6 q "com/example/netlocus/netlocus/PlaceQueue" "size" "I" (.int (Int32.ofNat 0)) := by have z := F6_q_size; rw [hs1] at z; exact z
    refine Goes.retI X7 hx hret hlk (hb hby d10_63) (by decide) (by decide) ⟨rfl, (by rw [e7]; exact K6), (by rw [e7]; exact F6_q_distances), (by rw [e7]; exact F6_q_heap), (by rw [e7]; exact F6_q_index), (by rw [e7]; exact Fs8), (by rw [e7]; exact A6_a), (by rw [e7]; exact A6_b), hlh, (show ix1.length = 3 by omega)⟩
  · rw [if_neg (show ¬ (hp, ix, sz).2.2 = 1 from hs1)] at hm
    obtain ⟨pl, hpl, hm⟩ := Option.bind_eq_some_iff.mp hm
    obtain ⟨hp3, hm⟩ := some_if hm
    obtain ⟨r', hr, hm⟩ := Option.bind_eq_some_iff.mp hm
    cases hm
    have hpl : rd hp (sz - 1) = some pl := hpl
    have hr : downM rk hp ix1 (sz - 1) pl = some r' := hr
    have gp := rd_spec hpl (by omega)
    refine G.ifF X7 hx (pc' := 48) (hb hby d10_45) (Jvm.Free.XT.i0_le_f (show Int32.ofNat 0 < Int32.ofNat (sz - 1) from (nat_lt (by omega) (by omega)).mpr (by omega))) rfl ?_
    refine G.aloadN X7 hx (pc' := 49) (hb hby d10_48) rfl rfl rfl ?_
    refine G.aloadN X7 hx (pc' := 50) (hb hby d10_49) rfl rfl rfl ?_
    refine G.getF X7 hx hZ hown (hw _ (List.mem_of_getElem? (i := 13) rfl)) Via.refl e7 F6_q_heap (pc' := 53) (hb hby d10_50) rfl fun T8 X8 e8 => ?_
    refine G.aloadN X8 hx (pc' := 54) (hb hby d10_53) rfl rfl rfl ?_
    refine G.getF X8 hx hZ hown (hw _ (List.mem_of_getElem? (i := 26) rfl)) Via.refl e8 F6_q_size (pc' := 57) (hb hby d10_54) rfl fun T9 X9 e9 => ?_
    refine G.iaload X9 hx hZ e9 A6_a (pc' := 58) (v := (.int (Int32.ofNat pl))) (hb hby d10_57) gp.2.1 gp.2.2.1 rfl ?_
    refine G.iconst X9 hx (pc' := 59) (hb hby d10_58) (z := (0 : Int32)) rfl rfl ?_
    refine G.callP X9 hx hZ (y := (⟨"com/example/netlocus/netlocus/PlaceQueue", "siftDown", "(II)V"⟩ : MethodName)) hown (hw _ (List.mem_of_getElem? (i := 56) rfl)) (hw _ (List.mem_of_getElem? (i := 57) rfl)) (hw _ (List.mem_of_getElem? (i := 2) rfl)) (hw _ (List.mem_of_getElem? (i := 58) rfl)) (hw _ (List.mem_of_getElem? (i := 3) rfl)) (hw _ (List.mem_of_getElem? (i := 59) rfl)) (by decide) e9 (rm := ({ frames := 1, cells := 0, slots := 0, locals := 14 } : Room)) (argsL := [(.int (Int32.ofNat pl)), (.int (0 : Int32))]) (S := []) (W := 0) (a := q) E6_q (rm_down l Z a0 hw q a b k dl rk hp ix1 (sz - 1) pl r' h6 E6_q F6_q_distances F6_q_heap F6_q_index F6_q_size A6_a A6_b A6_k nqa nqb nqk nab nak nbk hlh (by omega) hld hrk hp3 hr) (lenOf pd_1 rfl) rfl (Nat.le_of_eq rfl) (by decide) (by decide) (by decide) (by decide) (by rw [hml]; rfl) (hb hby d10_59) (pc' := 62) rfl ?_
    rintro T10 _ L10 ⟨rfl, Kq10, Aa10, Ab10, la10, lb10⟩ X10
    have F10_q_distances := Fld.keep F6_q_distances Kq10.1 (ninS nqa (ninS nqb nin0))
    have F10_q_heap := Fld.keep F6_q_heap Kq10.1 (ninS nqa (ninS nqb nin0))
    have F10_q_index := Fld.keep F6_q_index Kq10.1 (ninS nqa (ninS nqb nin0))
    have F10_q_size := Fld.keep F6_q_size Kq10.1 (ninS nqa (ninS nqb nin0))
    have E10_q := Exa.keep E6_q Kq10.1
    have A10_k := Seq.keep A6_k Kq10.1 (ninS (Ne.symm nak) (ninS (Ne.symm nbk) nin0))
    have K10 := Kp.call K6 Kq10 (allS (Or.inl (List.mem_of_getElem? (i := 1) rfl)) (allS (Or.inl (List.mem_of_getElem? (i := 2) rfl)) all0))
    show Goes p e below T10 (mkF m 62 #[.val (.ref q), .val (.int (Int32.ofNat nr))] []) _
    refine G.iloadN X10 hx (pc' := 63) (hb hby d10_62) rfl rfl ?_
    refine Goes.retI X10 hx hret hlk (hb hby d10_63) (by decide) (by decide) ⟨rfl, K10, F10_q_distances, F10_q_heap, F10_q_index, F10_q_size, Aa10, Ab10, la10, lb10⟩
set_option maxRecDepth 65536 in
set_option maxHeartbeats 40000000 in
theorem rm_emp (l : Launch) (Z : State) (a0 : Array Value) (hw : ∀ d ∈ tables_1, d.before a0 Z = true) (q : Addr) (sz : Nat) (h0 : Heap) (Fs : Fld Z h0 q "com/example/netlocus/netlocus/PlaceQueue" "size" "I" (.int (Int32.ofNat sz))) (hsz : sz < 900) :
    Con l (⟨"com/example/netlocus/netlocus/PlaceQueue", "isEmpty", "()Z"⟩ : MethodName) prog_48_method_3_code 1 (some .boolean) ({ frames := 0, cells := 0, slots := 0, locals := 0 } : Room) Z #[(.ref q)] h0 (Pur (some (.int (if sz = 0 then (1 : Int32) else (0 : Int32)))) h0) := by
  refine Con.of_body (plainFor_of_name pn_0) ?_
  intro p e s m below meth c T0 X0 hx hby hml hZ hown hnm hret hlk e0
  have hown : s.vm.findClass "com/example/netlocus/netlocus/PlaceQueue" = some m.cls := hown
  have hml : c.maxLocals = 1 := hml
  refine Goes.cast (ef8_R m q) ?_
  refine G.aloadN X0 hx (pc' := 1) (hb hby d8_0) rfl rfl rfl ?_
  refine G.getF X0 hx hZ hown (hw _ (List.mem_of_getElem? (i := 26) rfl)) Via.refl e0 Fs (pc' := 4) (hb hby d8_1) rfl fun T1 X1 e1 => ?_
  by_cases h0s : sz = 0
  · refine G.ifF X1 hx (pc' := 7) (hb hby d8_4) (Jvm.Free.XT.i0_ne_f (by rw [h0s]; rfl)) rfl ?_
    refine G.iconst X1 hx (pc' := 8) (hb hby d8_7) (z := (1 : Int32)) rfl rfl ?_
    refine G.goto X1 hx (pc' := 12) (hb hby d8_8) (by decide) (by decide) ?_
    refine Goes.retN X1 hx hret (by simp) hlk (hb hby d8_12) (by decide) (by decide) ⟨by rw [if_pos h0s]; rfl, e1, rfl⟩
  · refine G.ifT X1 hx (pc' := 11) (hb hby d8_4) (Jvm.Free.XT.i0_ne_t (fun z => h0s ((nat_eq (e := 0) (by omega) (by omega)).mp z))) (by decide) (by decide) ?_
    refine G.iconst X1 hx (pc' := 12) (hb hby d8_11) (z := (0 : Int32)) rfl rfl ?_
    refine Goes.retN X1 hx hret (by simp) hlk (hb hby d8_12) (by decide) (by decide) ⟨by rw [if_neg h0s]; rfl, e1, rfl⟩
set_option maxRecDepth 65536 in
set_option maxHeartbeats 40000000 in
theorem rm_take (l : Launch) (Z : State) (a0 : Array Value) (hw : ∀ d ∈ tables_1, d.before a0 Z = true) (q a b k : Addr) (dl : List Int64) (rk hp ix : List Nat) (sz : Nat) (r : Nat × Stt) (h0 : Heap) (EQ : Exa Z h0 q "com/example/netlocus/netlocus/PlaceQueue") (Fd : Fld Z h0 q "com/example/netlocus/netlocus/PlaceQueue" "distances" "[J" (.ref k)) (Fh : Fld Z h0 q "com/example/netlocus/netlocus/PlaceQueue" "heap" "[I" (.ref a)) (Fi : Fld Z h0 q "com/example/netlocus/netlocus/PlaceQueue" "index" "[I" (.ref b)) (Fs : Fld Z h0 q "com/example/netlocus/netlocus/PlaceQueue" "size" "I" (.int (Int32.ofNat sz))) (Aa : Seq Z h0 a .int (enc hp)) (Ab : Seq Z h0 b .int (enc ix)) (Ak : Seq Z h0 k .long (dl.map Value.long)) (nqa : q ≠ a) (nqb : q ≠ b) (nqk : q ≠ k) (nab : a ≠ b) (nak : a ≠ k) (nbk : b ≠ k) (hlh : hp.length = 3) (hli : ix.length = 3) (hld : dl.length = 3) (hrk : Rk dl rk) (hsz : 0 < sz) (hsz4 : sz < 4) (hr3 : r.1 < 3) (hm : remM rk (hp, ix, sz) = some r) :
    Con l (⟨"com/example/netlocus/netlocus/PlaceQueueClearPinLaw", "take", "(Lcom/example/netlocus/netlocus/PlaceQueue;)I"⟩ : MethodName) method_3_code 2 (some .int) ({ frames := 3, cells := 0, slots := 0, locals := 45 } : Room) Z #[(.ref q)] h0 (fun v h L => v = some (.int (Int32.ofNat r.1)) ∧ Kp h0 h [q, a, b] L ∧ Fld Z h q "com/example/netlocus/netlocus/PlaceQueue" "distances" "[J" (.ref k) ∧ Fld Z h q "com/example/netlocus/netlocus/PlaceQueue" "heap" "[I" (.ref a) ∧ Fld Z h q "com/example/netlocus/netlocus/PlaceQueue" "index" "[I" (.ref b) ∧ Fld Z h q "com/example/netlocus/netlocus/PlaceQueue" "size" "I" (.int (Int32.ofNat r.2.2.2)) ∧ Seq Z h a .int (enc r.2.1) ∧ Seq Z h b .int (enc r.2.2.1) ∧ r.2.1.length = 3 ∧ r.2.2.1.length = 3) := by
  refine Con.of_body (plainFor_of_name pn_4) ?_
  intro p e s m below meth c T0 X0 hx hby hml hZ hown hnm hret hlk e0
  have hown : s.vm.findClass "com/example/netlocus/netlocus/PlaceQueueClearPinLaw" = some m.cls := hown
  have hml : c.maxLocals = 2 := hml
  refine Goes.cast (ef9_R m q) ?_
  have K0 := Kp.refl h0 [q, a, b]
  refine G.aloadN X0 hx (pc' := 1) (hb hby d9_0) rfl rfl rfl ?_
  refine G.callV X0 hx hZ (y0 := (⟨"com/example/netlocus/netlocus/PlaceQueue", "isEmpty", "()Z"⟩ : MethodName)) (y := (⟨"com/example/netlocus/netlocus/PlaceQueue", "isEmpty", "()Z"⟩ : MethodName)) hown (hw _ (List.mem_of_getElem? (i := 41) rfl)) (hw _ (List.mem_of_getElem? (i := 42) rfl)) (notFace_of_selects (args := #[]) (mvT hZ (hw _ (List.mem_of_getElem? (i := 44) rfl)))) (hw _ (List.mem_of_getElem? (i := 44) rfl)) (hw _ (List.mem_of_getElem? (i := 43) rfl)) (hw _ (List.mem_of_getElem? (i := 3) rfl)) (hw _ (List.mem_of_getElem? (i := 45) rfl)) (by decide) e0 (rm := ({ frames := 0, cells := 0, slots := 0, locals := 0 } : Room)) (argsL := []) (S := []) (W := 0) (a := q) EQ (rm_emp l Z a0 hw q sz h0 Fs (by omega)) (lenOf pd_2 rfl) rfl (Nat.le_of_eq rfl) (by decide) (by decide) (by decide) (by decide) (by rw [hml]; rfl) (hb hby d9_1) (pc' := 4) rfl ?_
  rintro T1 _ _ ⟨rfl, e1, rfl⟩ X1
  rw [List.append_nil] at X1
  show Goes p e below T1 (mkF m 4 #[.val (.ref q), .unset] [(.int (if sz = 0 then (1 : Int32) else (0 : Int32)))]) _
  rw [if_neg (show ¬ sz = 0 by omega)]
  refine G.ifT X1 hx (pc' := 9) (hb hby d9_4) (Jvm.Free.XT.i0_eq_t rfl) (by decide) (by decide) ?_
  refine G.aloadN X1 hx (pc' := 10) (hb hby d9_9) rfl rfl rfl ?_
  refine G.callV X1 hx hZ (y0 := (⟨"com/example/netlocus/netlocus/PlaceQueue", "removeNearest", "()I"⟩ : MethodName)) (y := (⟨"com/example/netlocus/netlocus/PlaceQueue", "removeNearest", "()I"⟩ : MethodName)) hown (hw _ (List.mem_of_getElem? (i := 51) rfl)) (hw _ (List.mem_of_getElem? (i := 52) rfl)) (notFace_of_selects (args := #[]) (mvT hZ (hw _ (List.mem_of_getElem? (i := 54) rfl)))) (hw _ (List.mem_of_getElem? (i := 54) rfl)) (hw _ (List.mem_of_getElem? (i := 53) rfl)) (hw _ (List.mem_of_getElem? (i := 3) rfl)) (hw _ (List.mem_of_getElem? (i := 55) rfl)) (by decide) e1 (rm := ({ frames := 2, cells := 0, slots := 0, locals := 32 } : Room)) (argsL := []) (S := []) (W := 0) (a := q) EQ (rm_rem l Z a0 hw q a b k dl rk hp ix sz r h0 EQ Fd Fh Fi Fs Aa Ab Ak nqa nqb nqk nab nak nbk hlh hli hld hrk hm) (lenOf pd_3 rfl) rfl (Nat.le_of_eq rfl) (by decide) (by decide) (by decide) (by decide) (by rw [hml]; rfl) (hb hby d9_10) (pc' := 13) rfl ?_
  rintro T2 _ L2 ⟨rfl, Kq2, Fd2, Fh2, Fi2, Fs2, Aa2, Ab2, la2, lb2⟩ X2
  have E2_q := Exa.keep EQ Kq2.1
  have A2_k := Seq.keep Ak Kq2.1 (ninS (Ne.symm nqk) (ninS (Ne.symm nak) (ninS (Ne.symm nbk) nin0)))
  have K2 := Kp.call K0 Kq2 (allS (Or.inl (List.mem_of_getElem? (i := 0) rfl)) (allS (Or.inl (List.mem_of_getElem? (i := 1) rfl)) (allS (Or.inl (List.mem_of_getElem? (i := 2) rfl)) all0)))
  show Goes p e below T2 (mkF m 13 #[.val (.ref q), .unset] [(.int (Int32.ofNat r.1))]) _
  refine G.istoreN X2 hx (pc' := 14) (hb hby d9_13) (L' := #[.val (.ref q), .val (.int (Int32.ofNat r.1))]) rfl rfl ?_
  refine G.iloadN X2 hx (pc' := 15) (hb hby d9_14) rfl rfl ?_
  refine G.ifF X2 hx (pc' := 18) (hb hby d9_15) (Jvm.Free.XT.i0_lt_f (nat_nn (by omega))) rfl ?_
  refine G.iloadN X2 hx (pc' := 19) (hb hby d9_18) rfl rfl ?_
  refine G.iconst X2 hx (pc' := 20) (hb hby d9_19) (z := (2 : Int32)) rfl rfl ?_
  refine G.icmpT X2 hx (pc' := 25) (hb hby d9_20) (Jvm.Free.XT.ii_le_t (fun z => by have := (nat_lt (j := 2) (by omega) (by omega)).mp z; omega)) (by decide) (by decide) ?_
  refine G.iloadN X2 hx (pc' := 26) (hb hby d9_25) rfl rfl ?_
  refine Goes.retI X2 hx hret hlk (hb hby d9_26) (by decide) (by decide) ⟨rfl, K2, Fd2, Fh2, Fi2, Fs2, Aa2, Ab2, la2, lb2⟩
set_option maxRecDepth 65536 in
set_option maxHeartbeats 40000000 in
theorem rm_clear (l : Launch) (Z : State) (a0 : Array Value) (hw : ∀ d ∈ tables_1, d.before a0 Z = true) (q a b k : Addr) (dl : List Int64) (rk hp ix : List Nat) (sz : Nat) (st : Stt) (h0 : Heap) (EQ : Exa Z h0 q "com/example/netlocus/netlocus/PlaceQueue") (Fd : Fld Z h0 q "com/example/netlocus/netlocus/PlaceQueue" "distances" "[J" (.ref k)) (Fh : Fld Z h0 q "com/example/netlocus/netlocus/PlaceQueue" "heap" "[I" (.ref a)) (Fi : Fld Z h0 q "com/example/netlocus/netlocus/PlaceQueue" "index" "[I" (.ref b)) (Fs : Fld Z h0 q "com/example/netlocus/netlocus/PlaceQueue" "size" "I" (.int (Int32.ofNat sz))) (Aa : Seq Z h0 a .int (enc hp)) (Ab : Seq Z h0 b .int (enc ix)) (Ak : Seq Z h0 k .long (dl.map Value.long)) (nqa : q ≠ a) (nqb : q ≠ b) (nqk : q ≠ k) (nab : a ≠ b) (nak : a ≠ k) (nbk : b ≠ k) (hlh : hp.length = 3) (hli : ix.length = 3) (hld : dl.length = 3) (hrk : Rk dl rk) (hm : clearM (hp, ix, sz) = some st) :
    Con l (⟨"com/example/netlocus/netlocus/PlaceQueue", "clear", "()V"⟩ : MethodName) prog_48_method_2_code 2 none ({ frames := 0, cells := 0, slots := 0, locals := 0 } : Room) Z #[(.ref q)] h0 (fun v h L => v = none ∧ Kp h0 h [q, a, b] L ∧ Fld Z h q "com/example/netlocus/netlocus/PlaceQueue" "distances" "[J" (.ref k) ∧ Fld Z h q "com/example/netlocus/netlocus/PlaceQueue" "heap" "[I" (.ref a) ∧ Fld Z h q "com/example/netlocus/netlocus/PlaceQueue" "index" "[I" (.ref b) ∧ Fld Z h q "com/example/netlocus/netlocus/PlaceQueue" "size" "I" (.int (Int32.ofNat st.2.2)) ∧ Seq Z h a .int (enc st.1) ∧ Seq Z h b .int (enc st.2.1) ∧ st.1.length = 3 ∧ st.2.1.length = 3) := by
  refine Con.of_body (plainFor_of_name pn_0) ?_
  intro p e s m below meth c T0 X0 hx hby hml hZ hown hnm hret hlk e0
  have hown : s.vm.findClass "com/example/netlocus/netlocus/PlaceQueue" = some m.cls := hown
  have hml : c.maxLocals = 2 := hml
  refine Goes.cast (ef7_R m q) ?_
  have K0 := Kp.refl h0 [q, a, b]
  unfold clearM at hm
  obtain ⟨hs4, hm⟩ := some_if hm
  have hs4 : sz < 4 := hs4
  obtain ⟨ixn, hc, hm⟩ := Option.bind_eq_some_iff.mp hm
  have hc : clrM hp sz 0 ix = some ixn := hc
  cases hm
  have es : sz = 0 ∨ sz = 1 ∨ sz = 2 ∨ sz = 3 := by omega
  refine G.iconst X0 hx (pc' := 1) (hb hby d7_0) (z := (0 : Int32)) rfl rfl ?_
  refine G.istoreN X0 hx (pc' := 2) (hb hby d7_1) (L' := #[.val (.ref q), .val (.int (0 : Int32))]) rfl rfl ?_
  rcases es with rfl | rfl | rfl | rfl
  · have hc : ix = ixn := Option.some.inj hc
    subst hc
    refine G.iloadN X0 hx (pc' := 3) (hb hby d7_2) rfl rfl ?_
    refine G.aloadN X0 hx (pc' := 4) (hb hby d7_3) rfl rfl rfl ?_
    refine G.getF X0 hx hZ hown (hw _ (List.mem_of_getElem? (i := 26) rfl)) Via.refl e0 Fs (pc' := 7) (hb hby d7_4) rfl fun T1 X1 e1 => ?_
    refine G.icmpT X1 hx (pc' := 28) (hb hby d7_7) (Jvm.Free.XT.ii_ge_t (by decide)) (by decide) (by decide) ?_
    refine G.aloadN X1 hx (pc' := 29) (hb hby d7_28) rfl rfl rfl ?_
    refine G.iconst X1 hx (pc' := 30) (hb hby d7_29) (z := (0 : Int32)) rfl rfl ?_
    refine G.putF X1 hx hZ hown (hw _ (List.mem_of_getElem? (i := 26) rfl)) Via.refl e1 Fs EQ (Or.inl (hw _ (List.mem_of_getElem? (i := 27) rfl))) (hw _ (List.mem_of_getElem? (i := 2) rfl)) (ty := .int) (by decide) rfl rfl (pc' := 33) (hb hby d7_30) rfl fun T2 h2 X2 e2 W2 => ?_
    have F2_q_distances := Fld.other W2 Fd (Or.inr (slot_ne (Or.inr (hw _ (List.mem_of_getElem? (i := 11) rfl))) (Or.inl (hw _ (List.mem_of_getElem? (i := 27) rfl))) (by decide) (t := (.array .long)) (t' := .int) (by decide) (by decide)))
    have F2_q_heap := Fld.other W2 Fh (Or.inr (slot_ne (Or.inr (hw _ (List.mem_of_getElem? (i := 14) rfl))) (Or.inl (hw _ (List.mem_of_getElem? (i := 27) rfl))) (by decide) (t := (.array .int)) (t' := .int) (by decide) (by decide)))
    have F2_q_index := Fld.other W2 Fi (Or.inr (slot_ne (Or.inr (hw _ (List.mem_of_getElem? (i := 16) rfl))) (Or.inl (hw _ (List.mem_of_getElem? (i := 27) rfl))) (by decide) (t := (.array .int)) (t' := .int) (by decide) (by decide)))
    have E2_q := Exa.wr W2 EQ
    have A2_a := Seq.other Aa W2 (Ne.symm nqa)
    have A2_b := Seq.other Ab W2 (Ne.symm nqb)
    have A2_k := Seq.other Ak W2 (Ne.symm nqk)
    have K2 := Kp.wr K0 W2 (Or.inl (List.mem_of_getElem? (i := 0) rfl))
    have F2_q_size := Fld.same W2 Fs
    refine Goes.retV X2 hx hret hlk (hb hby d7_33) (by decide) (by decide) ⟨rfl, (by rw [e2]; exact K2), (by rw [e2]; exact F2_q_distances), (by rw [e2]; exact F2_q_heap), (by rw [e2]; exact F2_q_index), (by rw [e2]; exact F2_q_size), (by rw [e2]; exact A2_a), (by rw [e2]; exact A2_b), hlh, (show List.length ix = 3 by omega)⟩
  · unfold clrM at hc
    obtain ⟨x0_, hx0_, hc⟩ := Option.bind_eq_some_iff.mp hc
    obtain ⟨hx30_, hc⟩ := some_if hc
    obtain ⟨ix0_, hi0_, hc⟩ := Option.bind_eq_some_iff.mp hc
    have gr0_ := rd_spec (show rd hp 0 = some x0_ from hx0_) (by omega)
    have gw0_ := wrt_spec hi0_ (by omega)
    refine G.iloadN X0 hx (pc' := 3) (hb hby d7_2) rfl rfl ?_
    refine G.aloadN X0 hx (pc' := 4) (hb hby d7_3) rfl rfl rfl ?_
    refine G.getF X0 hx hZ hown (hw _ (List.mem_of_getElem? (i := 26) rfl)) Via.refl e0 Fs (pc' := 7) (hb hby d7_4) rfl fun T3 X3 e3 => ?_
    refine G.icmpF X3 hx (pc' := 10) (hb hby d7_7) (Jvm.Free.XT.ii_ge_f (by decide)) rfl ?_
    refine G.aloadN X3 hx (pc' := 11) (hb hby d7_10) rfl rfl rfl ?_
    refine G.getF X3 hx hZ hown (hw _ (List.mem_of_getElem? (i := 15) rfl)) Via.refl e3 Fi (pc' := 14) (hb hby d7_11) rfl fun T4 X4 e4 => ?_
    refine G.aloadN X4 hx (pc' := 15) (hb hby d7_14) rfl rfl rfl ?_
    refine G.getF X4 hx hZ hown (hw _ (List.mem_of_getElem? (i := 13) rfl)) Via.refl e4 Fh (pc' := 18) (hb hby d7_15) rfl fun T5 X5 e5 => ?_
    refine G.iloadN X5 hx (pc' := 19) (hb hby d7_18) rfl rfl ?_
    refine G.iaload X5 hx hZ e5 Aa (pc' := 20) (v := (.int (Int32.ofNat x0_))) (hb hby d7_19) (by decide) gr0_.2.2.1 rfl ?_
    refine G.iconst X5 hx (pc' := 21) (hb hby d7_20) (z := (-1 : Int32)) rfl rfl ?_
    refine G.iastore X5 hx hZ e5 Ab (pc' := 22) (hb hby d7_21) gw0_.1 gw0_.2.1 rfl fun T6 h6 X6 e6 W6 A6 => ?_
    have F6_q_distances := Fld.other W6 Fd (Or.inl nqb)
    have F6_q_heap := Fld.other W6 Fh (Or.inl nqb)
    have F6_q_index := Fld.other W6 Fi (Or.inl nqb)
    have F6_q_size := Fld.other W6 Fs (Or.inl nqb)
    have E6_q := Exa.wr W6 EQ
    have A6_a := Seq.other Aa W6 nab
    have A6_k := Seq.other Ak W6 (Ne.symm nbk)
    have K6 := Kp.wr K0 W6 (Or.inl (List.mem_of_getElem? (i := 2) rfl))
    have A6_b : Seq Z h6 b .int (enc ix0_) := (show (enc ix).set (Int32.ofNat x0_).toNatClampNeg (.int (-1 : Int32)) = enc ix0_ from gw0_.2.2.1) ▸ A6
    refine G.iinc X6 hx (pc' := 25) (hb hby d7_22) rfl (L' := #[.val (.ref q), .val (.int ((0 : Int32) + (1 : Int32)))]) rfl rfl ?_
    refine G.goto X6 hx (pc' := 2) (hb hby d7_25) (by decide) (by decide) ?_
    show Goes p e below T6 (mkF m 2 #[.val (.ref q), .val (.int (1 : Int32))] []) _
    have hc : ix0_ = ixn := Option.some.inj hc
    subst hc
    refine G.iloadN X6 hx (pc' := 3) (hb hby d7_2) rfl rfl ?_
    refine G.aloadN X6 hx (pc' := 4) (hb hby d7_3) rfl rfl rfl ?_
    refine G.getF X6 hx hZ hown (hw _ (List.mem_of_getElem? (i := 26) rfl)) Via.refl e6 F6_q_size (pc' := 7) (hb hby d7_4) rfl fun T7 X7 e7 => ?_
    refine G.icmpT X7 hx (pc' := 28) (hb hby d7_7) (Jvm.Free.XT.ii_ge_t (by decide)) (by decide) (by decide) ?_
    refine G.aloadN X7 hx (pc' := 29) (hb hby d7_28) rfl rfl rfl ?_
    refine G.iconst X7 hx (pc' := 30) (hb hby d7_29) (z := (0 : Int32)) rfl rfl ?_
    refine G.putF X7 hx hZ hown (hw _ (List.mem_of_getElem? (i := 26) rfl)) Via.refl e7 F6_q_size E6_q (Or.inl (hw _ (List.mem_of_getElem? (i := 27) rfl))) (hw _ (List.mem_of_getElem? (i := 2) rfl)) (ty := .int) (by decide) rfl rfl (pc' := 33) (hb hby d7_30) rfl fun T8 h8 X8 e8 W8 => ?_
    have F8_q_distances := Fld.other W8 F6_q_distances (Or.inr (slot_ne (Or.inr (hw _ (List.mem_of_getElem? (i := 11) rfl))) (Or.inl (hw _ (List.mem_of_getElem? (i := 27) rfl))) (by decide) (t := (.array .long)) (t' := .int) (by decide) (by decide)))
    have F8_q_heap := Fld.other W8 F6_q_heap (Or.inr (slot_ne (Or.inr (hw _ (List.mem_of_getElem? (i := 14) rfl))) (Or.inl (hw _ (List.mem_of_getElem? (i := 27) rfl))) (by decide) (t := (.array .int)) (t' := .int) (by decide) (by decide)))
    have F8_q_index := Fld.other W8 F6_q_index (Or.inr (slot_ne (Or.inr (hw _ (List.mem_of_getElem? (i := 16) rfl))) (Or.inl (hw _ (List.mem_of_getElem? (i := 27) rfl))) (by decide) (t := (.array .int)) (t' := .int) (by decide) (by decide)))
    have E8_q := Exa.wr W8 E6_q
    have A8_a := Seq.other A6_a W8 (Ne.symm nqa)
    have A8_b := Seq.other A6_b W8 (Ne.symm nqb)
    have A8_k := Seq.other A6_k W8 (Ne.symm nqk)
    have K8 := Kp.wr K6 W8 (Or.inl (List.mem_of_getElem? (i := 0) rfl))
    have F8_q_size := Fld.same W8 F6_q_size
    refine Goes.retV X8 hx hret hlk (hb hby d7_33) (by decide) (by decide) ⟨rfl, (by rw [e8]; exact K8), (by rw [e8]; exact F8_q_distances), (by rw [e8]; exact F8_q_heap), (by rw [e8]; exact F8_q_index), (by rw [e8]; exact F8_q_size), (by rw [e8]; exact A8_a), (by rw [e8]; exact A8_b), hlh, (show List.length ix0_ = 3 by omega)⟩
  · unfold clrM at hc
    obtain ⟨x0_, hx0_, hc⟩ := Option.bind_eq_some_iff.mp hc
    obtain ⟨hx30_, hc⟩ := some_if hc
    obtain ⟨ix0_, hi0_, hc⟩ := Option.bind_eq_some_iff.mp hc
    have gr0_ := rd_spec (show rd hp 0 = some x0_ from hx0_) (by omega)
    have gw0_ := wrt_spec hi0_ (by omega)
    refine G.iloadN X0 hx (pc' := 3) (hb hby d7_2) rfl rfl ?_
    refine G.aloadN X0 hx (pc' := 4) (hb hby d7_3) rfl rfl rfl ?_
    refine G.getF X0 hx hZ hown (hw _ (List.mem_of_getElem? (i := 26) rfl)) Via.refl e0 Fs (pc' := 7) (hb hby d7_4) rfl fun T9 X9 e9 => ?_
    refine G.icmpF X9 hx (pc' := 10) (hb hby d7_7) (Jvm.Free.XT.ii_ge_f (by decide)) rfl ?_
    refine G.aloadN X9 hx (pc' := 11) (hb hby d7_10) rfl rfl rfl ?_
    refine G.getF X9 hx hZ hown (hw _ (List.mem_of_getElem? (i := 15) rfl)) Via.refl e9 Fi (pc' := 14) (hb hby d7_11) rfl fun T10 X10 e10 => ?_
    refine G.aloadN X10 hx (pc' := 15) (hb hby d7_14) rfl rfl rfl ?_
    refine G.getF X10 hx hZ hown (hw _ (List.mem_of_getElem? (i := 13) rfl)) Via.refl e10 Fh (pc' := 18) (hb hby d7_15) rfl fun T11 X11 e11 => ?_
    refine G.iloadN X11 hx (pc' := 19) (hb hby d7_18) rfl rfl ?_
    refine G.iaload X11 hx hZ e11 Aa (pc' := 20) (v := (.int (Int32.ofNat x0_))) (hb hby d7_19) (by decide) gr0_.2.2.1 rfl ?_
    refine G.iconst X11 hx (pc' := 21) (hb hby d7_20) (z := (-1 : Int32)) rfl rfl ?_
    refine G.iastore X11 hx hZ e11 Ab (pc' := 22) (hb hby d7_21) gw0_.1 gw0_.2.1 rfl fun T12 h12 X12 e12 W12 A12 => ?_
    have F12_q_distances := Fld.other W12 Fd (Or.inl nqb)
    have F12_q_heap := Fld.other W12 Fh (Or.inl nqb)
    have F12_q_index := Fld.other W12 Fi (Or.inl nqb)
    have F12_q_size := Fld.other W12 Fs (Or.inl nqb)
    have E12_q := Exa.wr W12 EQ
    have A12_a := Seq.other Aa W12 nab
    have A12_k := Seq.other Ak W12 (Ne.symm nbk)
    have K12 := Kp.wr K0 W12 (Or.inl (List.mem_of_getElem? (i := 2) rfl))
    have A12_b : Seq Z h12 b .int (enc ix0_) := (show (enc ix).set (Int32.ofNat x0_).toNatClampNeg (.int (-1 : Int32)) = enc ix0_ from gw0_.2.2.1) ▸ A12
    refine G.iinc X12 hx (pc' := 25) (hb hby d7_22) rfl (L' := #[.val (.ref q), .val (.int ((0 : Int32) + (1 : Int32)))]) rfl rfl ?_
    refine G.goto X12 hx (pc' := 2) (hb hby d7_25) (by decide) (by decide) ?_
    show Goes p e below T12 (mkF m 2 #[.val (.ref q), .val (.int (1 : Int32))] []) _
    unfold clrM at hc
    obtain ⟨x1_, hx1_, hc⟩ := Option.bind_eq_some_iff.mp hc
    obtain ⟨hx31_, hc⟩ := some_if hc
    obtain ⟨ix1_, hi1_, hc⟩ := Option.bind_eq_some_iff.mp hc
    have gr1_ := rd_spec (show rd hp 1 = some x1_ from hx1_) (by omega)
    have gw1_ := wrt_spec hi1_ (by omega)
    refine G.iloadN X12 hx (pc' := 3) (hb hby d7_2) rfl rfl ?_
    refine G.aloadN X12 hx (pc' := 4) (hb hby d7_3) rfl rfl rfl ?_
    refine G.getF X12 hx hZ hown (hw _ (List.mem_of_getElem? (i := 26) rfl)) Via.refl e12 F12_q_size (pc' := 7) (hb hby d7_4) rfl fun T13 X13 e13 => ?_
    refine G.icmpF X13 hx (pc' := 10) (hb hby d7_7) (Jvm.Free.XT.ii_ge_f (by decide)) rfl ?_
    refine G.aloadN X13 hx (pc' := 11) (hb hby d7_10) rfl rfl rfl ?_
    refine G.getF X13 hx hZ hown (hw _ (List.mem_of_getElem? (i := 15) rfl)) Via.refl e13 F12_q_index (pc' := 14) (hb hby d7_11) rfl fun T14 X14 e14 => ?_
    refine G.aloadN X14 hx (pc' := 15) (hb hby d7_14) rfl rfl rfl ?_
    refine G.getF X14 hx hZ hown (hw _ (List.mem_of_getElem? (i := 13) rfl)) Via.refl e14 F12_q_heap (pc' := 18) (hb hby d7_15) rfl fun T15 X15 e15 => ?_
    refine G.iloadN X15 hx (pc' := 19) (hb hby d7_18) rfl rfl ?_
    refine G.iaload X15 hx hZ e15 A12_a (pc' := 20) (v := (.int (Int32.ofNat x1_))) (hb hby d7_19) (by decide) gr1_.2.2.1 rfl ?_
    refine G.iconst X15 hx (pc' := 21) (hb hby d7_20) (z := (-1 : Int32)) rfl rfl ?_
    refine G.iastore X15 hx hZ e15 A12_b (pc' := 22) (hb hby d7_21) gw1_.1 gw1_.2.1 rfl fun T16 h16 X16 e16 W16 A16 => ?_
    have F16_q_distances := Fld.other W16 F12_q_distances (Or.inl nqb)
    have F16_q_heap := Fld.other W16 F12_q_heap (Or.inl nqb)
    have F16_q_index := Fld.other W16 F12_q_index (Or.inl nqb)
    have F16_q_size := Fld.other W16 F12_q_size (Or.inl nqb)
    have E16_q := Exa.wr W16 E12_q
    have A16_a := Seq.other A12_a W16 nab
    have A16_k := Seq.other A12_k W16 (Ne.symm nbk)
    have K16 := Kp.wr K12 W16 (Or.inl (List.mem_of_getElem? (i := 2) rfl))
    have A16_b : Seq Z h16 b .int (enc ix1_) := (show (enc ix0_).set (Int32.ofNat x1_).toNatClampNeg (.int (-1 : Int32)) = enc ix1_ from gw1_.2.2.1) ▸ A16
    refine G.iinc X16 hx (pc' := 25) (hb hby d7_22) rfl (L' := #[.val (.ref q), .val (.int ((1 : Int32) + (1 : Int32)))]) rfl rfl ?_
    refine G.goto X16 hx (pc' := 2) (hb hby d7_25) (by decide) (by decide) ?_
    show Goes p e below T16 (mkF m 2 #[.val (.ref q), .val (.int (2 : Int32))] []) _
    have hc : ix1_ = ixn := Option.some.inj hc
    subst hc
    refine G.iloadN X16 hx (pc' := 3) (hb hby d7_2) rfl rfl ?_
    refine G.aloadN X16 hx (pc' := 4) (hb hby d7_3) rfl rfl rfl ?_
    refine G.getF X16 hx hZ hown (hw _ (List.mem_of_getElem? (i := 26) rfl)) Via.refl e16 F16_q_size (pc' := 7) (hb hby d7_4) rfl fun T17 X17 e17 => ?_
    refine G.icmpT X17 hx (pc' := 28) (hb hby d7_7) (Jvm.Free.XT.ii_ge_t (by decide)) (by decide) (by decide) ?_
    refine G.aloadN X17 hx (pc' := 29) (hb hby d7_28) rfl rfl rfl ?_
    refine G.iconst X17 hx (pc' := 30) (hb hby d7_29) (z := (0 : Int32)) rfl rfl ?_
    refine G.putF X17 hx hZ hown (hw _ (List.mem_of_getElem? (i := 26) rfl)) Via.refl e17 F16_q_size E16_q (Or.inl (hw _ (List.mem_of_getElem? (i := 27) rfl))) (hw _ (List.mem_of_getElem? (i := 2) rfl)) (ty := .int) (by decide) rfl rfl (pc' := 33) (hb hby d7_30) rfl fun T18 h18 X18 e18 W18 => ?_
    have F18_q_distances := Fld.other W18 F16_q_distances (Or.inr (slot_ne (Or.inr (hw _ (List.mem_of_getElem? (i := 11) rfl))) (Or.inl (hw _ (List.mem_of_getElem? (i := 27) rfl))) (by decide) (t := (.array .long)) (t' := .int) (by decide) (by decide)))
    have F18_q_heap := Fld.other W18 F16_q_heap (Or.inr (slot_ne (Or.inr (hw _ (List.mem_of_getElem? (i := 14) rfl))) (Or.inl (hw _ (List.mem_of_getElem? (i := 27) rfl))) (by decide) (t := (.array .int)) (t' := .int) (by decide) (by decide)))
    have F18_q_index := Fld.other W18 F16_q_index (Or.inr (slot_ne (Or.inr (hw _ (List.mem_of_getElem? (i := 16) rfl))) (Or.inl (hw _ (List.mem_of_getElem? (i := 27) rfl))) (by decide) (t := (.array .int)) (t' := .int) (by decide) (by decide)))
    have E18_q := Exa.wr W18 E16_q
    have A18_a := Seq.other A16_a W18 (Ne.symm nqa)
    have A18_b := Seq.other A16_b W18 (Ne.symm nqb)
    have A18_k := Seq.other A16_k W18 (Ne.symm nqk)
    have K18 := Kp.wr K16 W18 (Or.inl (List.mem_of_getElem? (i := 0) rfl))
    have F18_q_size := Fld.same W18 F16_q_size
    refine Goes.retV X18 hx hret hlk (hb hby d7_33) (by decide) (by decide) ⟨rfl, (by rw [e18]; exact K18), (by rw [e18]; exact F18_q_distances), (by rw [e18]; exact F18_q_heap), (by rw [e18]; exact F18_q_index), (by rw [e18]; exact F18_q_size), (by rw [e18]; exact A18_a), (by rw [e18]; exact A18_b), hlh, (show List.length ix1_ = 3 by omega)⟩
  · unfold clrM at hc
    obtain ⟨x0_, hx0_, hc⟩ := Option.bind_eq_some_iff.mp hc
    obtain ⟨hx30_, hc⟩ := some_if hc
    obtain ⟨ix0_, hi0_, hc⟩ := Option.bind_eq_some_iff.mp hc
    have gr0_ := rd_spec (show rd hp 0 = some x0_ from hx0_) (by omega)
    have gw0_ := wrt_spec hi0_ (by omega)
    refine G.iloadN X0 hx (pc' := 3) (hb hby d7_2) rfl rfl ?_
    refine G.aloadN X0 hx (pc' := 4) (hb hby d7_3) rfl rfl rfl ?_
    refine G.getF X0 hx hZ hown (hw _ (List.mem_of_getElem? (i := 26) rfl)) Via.refl e0 Fs (pc' := 7) (hb hby d7_4) rfl fun T19 X19 e19 => ?_
    refine G.icmpF X19 hx (pc' := 10) (hb hby d7_7) (Jvm.Free.XT.ii_ge_f (by decide)) rfl ?_
    refine G.aloadN X19 hx (pc' := 11) (hb hby d7_10) rfl rfl rfl ?_
    refine G.getF X19 hx hZ hown (hw _ (List.mem_of_getElem? (i := 15) rfl)) Via.refl e19 Fi (pc' := 14) (hb hby d7_11) rfl fun T20 X20 e20 => ?_
    refine G.aloadN X20 hx (pc' := 15) (hb hby d7_14) rfl rfl rfl ?_
    refine G.getF X20 hx hZ hown (hw _ (List.mem_of_getElem? (i := 13) rfl)) Via.refl e20 Fh (pc' := 18) (hb hby d7_15) rfl fun T21 X21 e21 => ?_
    refine G.iloadN X21 hx (pc' := 19) (hb hby d7_18) rfl rfl ?_
    refine G.iaload X21 hx hZ e21 Aa (pc' := 20) (v := (.int (Int32.ofNat x0_))) (hb hby d7_19) (by decide) gr0_.2.2.1 rfl ?_
    refine G.iconst X21 hx (pc' := 21) (hb hby d7_20) (z := (-1 : Int32)) rfl rfl ?_
    refine G.iastore X21 hx hZ e21 Ab (pc' := 22) (hb hby d7_21) gw0_.1 gw0_.2.1 rfl fun T22 h22 X22 e22 W22 A22 => ?_
    have F22_q_distances := Fld.other W22 Fd (Or.inl nqb)
    have F22_q_heap := Fld.other W22 Fh (Or.inl nqb)
    have F22_q_index := Fld.other W22 Fi (Or.inl nqb)
    have F22_q_size := Fld.other W22 Fs (Or.inl nqb)
    have E22_q := Exa.wr W22 EQ
    have A22_a := Seq.other Aa W22 nab
    have A22_k := Seq.other Ak W22 (Ne.symm nbk)
    have K22 := Kp.wr K0 W22 (Or.inl (List.mem_of_getElem? (i := 2) rfl))
    have A22_b : Seq Z h22 b .int (enc ix0_) := (show (enc ix).set (Int32.ofNat x0_).toNatClampNeg (.int (-1 : Int32)) = enc ix0_ from gw0_.2.2.1) ▸ A22
    refine G.iinc X22 hx (pc' := 25) (hb hby d7_22) rfl (L' := #[.val (.ref q), .val (.int ((0 : Int32) + (1 : Int32)))]) rfl rfl ?_
    refine G.goto X22 hx (pc' := 2) (hb hby d7_25) (by decide) (by decide) ?_
    show Goes p e below T22 (mkF m 2 #[.val (.ref q), .val (.int (1 : Int32))] []) _
    unfold clrM at hc
    obtain ⟨x1_, hx1_, hc⟩ := Option.bind_eq_some_iff.mp hc
    obtain ⟨hx31_, hc⟩ := some_if hc
    obtain ⟨ix1_, hi1_, hc⟩ := Option.bind_eq_some_iff.mp hc
    have gr1_ := rd_spec (show rd hp 1 = some x1_ from hx1_) (by omega)
    have gw1_ := wrt_spec hi1_ (by omega)
    refine G.iloadN X22 hx (pc' := 3) (hb hby d7_2) rfl rfl ?_
    refine G.aloadN X22 hx (pc' := 4) (hb hby d7_3) rfl rfl rfl ?_
    refine G.getF X22 hx hZ hown (hw _ (List.mem_of_getElem? (i := 26) rfl)) Via.refl e22 F22_q_size (pc' := 7) (hb hby d7_4) rfl fun T23 X23 e23 => ?_
    refine G.icmpF X23 hx (pc' := 10) (hb hby d7_7) (Jvm.Free.XT.ii_ge_f (by decide)) rfl ?_
    refine G.aloadN X23 hx (pc' := 11) (hb hby d7_10) rfl rfl rfl ?_
    refine G.getF X23 hx hZ hown (hw _ (List.mem_of_getElem? (i := 15) rfl)) Via.refl e23 F22_q_index (pc' := 14) (hb hby d7_11) rfl fun T24 X24 e24 => ?_
    refine G.aloadN X24 hx (pc' := 15) (hb hby d7_14) rfl rfl rfl ?_
    refine G.getF X24 hx hZ hown (hw _ (List.mem_of_getElem? (i := 13) rfl)) Via.refl e24 F22_q_heap (pc' := 18) (hb hby d7_15) rfl fun T25 X25 e25 => ?_
    refine G.iloadN X25 hx (pc' := 19) (hb hby d7_18) rfl rfl ?_
    refine G.iaload X25 hx hZ e25 A22_a (pc' := 20) (v := (.int (Int32.ofNat x1_))) (hb hby d7_19) (by decide) gr1_.2.2.1 rfl ?_
    refine G.iconst X25 hx (pc' := 21) (hb hby d7_20) (z := (-1 : Int32)) rfl rfl ?_
    refine G.iastore X25 hx hZ e25 A22_b (pc' := 22) (hb hby d7_21) gw1_.1 gw1_.2.1 rfl fun T26 h26 X26 e26 W26 A26 => ?_
    have F26_q_distances := Fld.other W26 F22_q_distances (Or.inl nqb)
    have F26_q_heap := Fld.other W26 F22_q_heap (Or.inl nqb)
    have F26_q_index := Fld.other W26 F22_q_index (Or.inl nqb)
    have F26_q_size := Fld.other W26 F22_q_size (Or.inl nqb)
    have E26_q := Exa.wr W26 E22_q
    have A26_a := Seq.other A22_a W26 nab
    have A26_k := Seq.other A22_k W26 (Ne.symm nbk)
    have K26 := Kp.wr K22 W26 (Or.inl (List.mem_of_getElem? (i := 2) rfl))
    have A26_b : Seq Z h26 b .int (enc ix1_) := (show (enc ix0_).set (Int32.ofNat x1_).toNatClampNeg (.int (-1 : Int32)) = enc ix1_ from gw1_.2.2.1) ▸ A26
    refine G.iinc X26 hx (pc' := 25) (hb hby d7_22) rfl (L' := #[.val (.ref q), .val (.int ((1 : Int32) + (1 : Int32)))]) rfl rfl ?_
    refine G.goto X26 hx (pc' := 2) (hb hby d7_25) (by decide) (by decide) ?_
    show Goes p e below T26 (mkF m 2 #[.val (.ref q), .val (.int (2 : Int32))] []) _
    unfold clrM at hc
    obtain ⟨x2_, hx2_, hc⟩ := Option.bind_eq_some_iff.mp hc
    obtain ⟨hx32_, hc⟩ := some_if hc
    obtain ⟨ix2_, hi2_, hc⟩ := Option.bind_eq_some_iff.mp hc
    have gr2_ := rd_spec (show rd hp 2 = some x2_ from hx2_) (by omega)
    have gw2_ := wrt_spec hi2_ (by omega)
    refine G.iloadN X26 hx (pc' := 3) (hb hby d7_2) rfl rfl ?_
    refine G.aloadN X26 hx (pc' := 4) (hb hby d7_3) rfl rfl rfl ?_
    refine G.getF X26 hx hZ hown (hw _ (List.mem_of_getElem? (i := 26) rfl)) Via.refl e26 F26_q_size (pc' := 7) (hb hby d7_4) rfl fun T27 X27 e27 => ?_
    refine G.icmpF X27 hx (pc' := 10) (hb hby d7_7) (Jvm.Free.XT.ii_ge_f (by decide)) rfl ?_
    refine G.aloadN X27 hx (pc' := 11) (hb hby d7_10) rfl rfl rfl ?_
    refine G.getF X27 hx hZ hown (hw _ (List.mem_of_getElem? (i := 15) rfl)) Via.refl e27 F26_q_index (pc' := 14) (hb hby d7_11) rfl fun T28 X28 e28 => ?_
    refine G.aloadN X28 hx (pc' := 15) (hb hby d7_14) rfl rfl rfl ?_
    refine G.getF X28 hx hZ hown (hw _ (List.mem_of_getElem? (i := 13) rfl)) Via.refl e28 F26_q_heap (pc' := 18) (hb hby d7_15) rfl fun T29 X29 e29 => ?_
    refine G.iloadN X29 hx (pc' := 19) (hb hby d7_18) rfl rfl ?_
    refine G.iaload X29 hx hZ e29 A26_a (pc' := 20) (v := (.int (Int32.ofNat x2_))) (hb hby d7_19) (by decide) gr2_.2.2.1 rfl ?_
    refine G.iconst X29 hx (pc' := 21) (hb hby d7_20) (z := (-1 : Int32)) rfl rfl ?_
    refine G.iastore X29 hx hZ e29 A26_b (pc' := 22) (hb hby d7_21) gw2_.1 gw2_.2.1 rfl fun T30 h30 X30 e30 W30 A30 => ?_
    have F30_q_distances := Fld.other W30 F26_q_distances (Or.inl nqb)
    have F30_q_heap := Fld.other W30 F26_q_heap (Or.inl nqb)
    have F30_q_index := Fld.other W30 F26_q_index (Or.inl nqb)
    have F30_q_size := Fld.other W30 F26_q_size (Or.inl nqb)
    have E30_q := Exa.wr W30 E26_q
    have A30_a := Seq.other A26_a W30 nab
    have A30_k := Seq.other A26_k W30 (Ne.symm nbk)
    have K30 := Kp.wr K26 W30 (Or.inl (List.mem_of_getElem? (i := 2) rfl))
    have A30_b : Seq Z h30 b .int (enc ix2_) := (show (enc ix1_).set (Int32.ofNat x2_).toNatClampNeg (.int (-1 : Int32)) = enc ix2_ from gw2_.2.2.1) ▸ A30
    refine G.iinc X30 hx (pc' := 25) (hb hby d7_22) rfl (L' := #[.val (.ref q), .val (.int ((2 : Int32) + (1 : Int32)))]) rfl rfl ?_
    refine G.goto X30 hx (pc' := 2) (hb hby d7_25) (by decide) (by decide) ?_
    show Goes p e below T30 (mkF m 2 #[.val (.ref q), .val (.int (3 : Int32))] []) _
    have hc : ix2_ = ixn := Option.some.inj hc
    subst hc
    refine G.iloadN X30 hx (pc' := 3) (hb hby d7_2) rfl rfl ?_
    refine G.aloadN X30 hx (pc' := 4) (hb hby d7_3) rfl rfl rfl ?_
    refine G.getF X30 hx hZ hown (hw _ (List.mem_of_getElem? (i := 26) rfl)) Via.refl e30 F30_q_size (pc' := 7) (hb hby d7_4) rfl fun T31 X31 e31 => ?_
    refine G.icmpT X31 hx (pc' := 28) (hb hby d7_7) (Jvm.Free.XT.ii_ge_t (by decide)) (by decide) (by decide) ?_
    refine G.aloadN X31 hx (pc' := 29) (hb hby d7_28) rfl rfl rfl ?_
    refine G.iconst X31 hx (pc' := 30) (hb hby d7_29) (z := (0 : Int32)) rfl rfl ?_
    refine G.putF X31 hx hZ hown (hw _ (List.mem_of_getElem? (i := 26) rfl)) Via.refl e31 F30_q_size E30_q (Or.inl (hw _ (List.mem_of_getElem? (i := 27) rfl))) (hw _ (List.mem_of_getElem? (i := 2) rfl)) (ty := .int) (by decide) rfl rfl (pc' := 33) (hb hby d7_30) rfl fun T32 h32 X32 e32 W32 => ?_
    have F32_q_distances := Fld.other W32 F30_q_distances (Or.inr (slot_ne (Or.inr (hw _ (List.mem_of_getElem? (i := 11) rfl))) (Or.inl (hw _ (List.mem_of_getElem? (i := 27) rfl))) (by decide) (t := (.array .long)) (t' := .int) (by decide) (by decide)))
    have F32_q_heap := Fld.other W32 F30_q_heap (Or.inr (slot_ne (Or.inr (hw _ (List.mem_of_getElem? (i := 14) rfl))) (Or.inl (hw _ (List.mem_of_getElem? (i := 27) rfl))) (by decide) (t := (.array .int)) (t' := .int) (by decide) (by decide)))
    have F32_q_index := Fld.other W32 F30_q_index (Or.inr (slot_ne (Or.inr (hw _ (List.mem_of_getElem? (i := 16) rfl))) (Or.inl (hw _ (List.mem_of_getElem? (i := 27) rfl))) (by decide) (t := (.array .int)) (t' := .int) (by decide) (by decide)))
    have E32_q := Exa.wr W32 E30_q
    have A32_a := Seq.other A30_a W32 (Ne.symm nqa)
    have A32_b := Seq.other A30_b W32 (Ne.symm nqb)
    have A32_k := Seq.other A30_k W32 (Ne.symm nqk)
    have K32 := Kp.wr K30 W32 (Or.inl (List.mem_of_getElem? (i := 0) rfl))
    have F32_q_size := Fld.same W32 F30_q_size
    refine Goes.retV X32 hx hret hlk (hb hby d7_33) (by decide) (by decide) ⟨rfl, (by rw [e32]; exact K32), (by rw [e32]; exact F32_q_distances), (by rw [e32]; exact F32_q_heap), (by rw [e32]; exact F32_q_index), (by rw [e32]; exact F32_q_size), (by rw [e32]; exact A32_a), (by rw [e32]; exact A32_b), hlh, (show List.length ix2_ = 3 by omega)⟩
set_option maxRecDepth 65536 in
set_option maxHeartbeats 40000000 in
theorem rm_fill (l : Launch) (Z : State) (a0 : Array Value) (hw : ∀ d ∈ tables_1, d.before a0 Z = true) (b : Addr) (h0 : Heap) (Ab : Seq Z h0 b .int [(.int (0 : Int32)), (.int (0 : Int32)), (.int (0 : Int32))]) :
    Con l (⟨"java/util/Arrays", "fill", "([II)V"⟩ : MethodName) jdk_65_method_103_code 4 none ({ frames := 0, cells := 0, slots := 0, locals := 0 } : Room) Z #[(.ref b), (.int (-1 : Int32))] h0 (fun v h L => v = none ∧ Kp h0 h [b] L ∧ Seq Z h b .int [(.int (-1 : Int32)), (.int (-1 : Int32)), (.int (-1 : Int32))]) := by
  refine Con.of_body (plainFor_of_name pn_5) ?_
  intro p e s m below meth c T0 X0 hx hby hml hZ hown hnm hret hlk e0
  have hown : s.vm.findClass "java/util/Arrays" = some m.cls := hown
  have hml : c.maxLocals = 4 := hml
  refine Goes.cast (ef3_RI m b (-1 : Int32)) ?_
  have K0 := Kp.refl h0 [b]
  refine G.iconst X0 hx (pc' := 1) (hb hby d3_0) (z := (0 : Int32)) rfl rfl ?_
  refine G.istoreN X0 hx (pc' := 2) (hb hby d3_1) (L' := #[.val (.ref b), .val (.int (-1 : Int32)), .val (.int (0 : Int32)), .unset]) rfl rfl ?_
  refine G.aloadN X0 hx (pc' := 3) (hb hby d3_2) rfl rfl rfl ?_
  refine G.arraylength X0 hx hZ e0 Ab (pc' := 4) (hb hby d3_3) (z := (3 : Int32)) rfl rfl ?_
  refine G.istoreN X0 hx (pc' := 5) (hb hby d3_4) (L' := #[.val (.ref b), .val (.int (-1 : Int32)), .val (.int (0 : Int32)), .val (.int (3 : Int32))]) rfl rfl ?_
  refine G.iloadN X0 hx (pc' := 6) (hb hby d3_5) rfl rfl ?_
  refine G.iloadN X0 hx (pc' := 7) (hb hby d3_6) rfl rfl ?_
  refine G.icmpF X0 hx (pc' := 10) (hb hby d3_7) (Jvm.Free.XT.ii_ge_f (by decide)) rfl ?_
  refine G.aloadN X0 hx (pc' := 11) (hb hby d3_10) rfl rfl rfl ?_
  refine G.iloadN X0 hx (pc' := 12) (hb hby d3_11) rfl rfl ?_
  refine G.iloadN X0 hx (pc' := 13) (hb hby d3_12) rfl rfl ?_
  refine G.iastore X0 hx hZ e0 Ab (pc' := 14) (hb hby d3_13) (by decide) (Nat.le_of_ble_eq_true rfl) rfl fun T1 h1 X1 e1 W1 A1 => ?_
  have K1 := Kp.wr K0 W1 (Or.inl (List.mem_of_getElem? (i := 0) rfl))
  have A1_b : Seq Z h1 b .int [(.int (-1 : Int32)), (.int (0 : Int32)), (.int (0 : Int32))] := A1
  refine G.iinc X1 hx (pc' := 17) (hb hby d3_14) rfl (L' := #[.val (.ref b), .val (.int (-1 : Int32)), .val (.int ((0 : Int32) + (1 : Int32))), .val (.int (3 : Int32))]) rfl rfl ?_
  refine G.goto X1 hx (pc' := 5) (hb hby d3_17) (by decide) (by decide) ?_
  show Goes p e below T1 (mkF m 5 #[.val (.ref b), .val (.int (-1 : Int32)), .val (.int (1 : Int32)), .val (.int (3 : Int32))] []) _
  refine G.iloadN X1 hx (pc' := 6) (hb hby d3_5) rfl rfl ?_
  refine G.iloadN X1 hx (pc' := 7) (hb hby d3_6) rfl rfl ?_
  refine G.icmpF X1 hx (pc' := 10) (hb hby d3_7) (Jvm.Free.XT.ii_ge_f (by decide)) rfl ?_
  refine G.aloadN X1 hx (pc' := 11) (hb hby d3_10) rfl rfl rfl ?_
  refine G.iloadN X1 hx (pc' := 12) (hb hby d3_11) rfl rfl ?_
  refine G.iloadN X1 hx (pc' := 13) (hb hby d3_12) rfl rfl ?_
  refine G.iastore X1 hx hZ e1 A1_b (pc' := 14) (hb hby d3_13) (by decide) (Nat.le_of_ble_eq_true rfl) rfl fun T2 h2 X2 e2 W2 A2 => ?_
  have K2 := Kp.wr K1 W2 (Or.inl (List.mem_of_getElem? (i := 0) rfl))
  have A2_b : Seq Z h2 b .int [(.int (-1 : Int32)), (.int (-1 : Int32)), (.int (0 : Int32))] := A2
  refine G.iinc X2 hx (pc' := 17) (hb hby d3_14) rfl (L' := #[.val (.ref b), .val (.int (-1 : Int32)), .val (.int ((1 : Int32) + (1 : Int32))), .val (.int (3 : Int32))]) rfl rfl ?_
  refine G.goto X2 hx (pc' := 5) (hb hby d3_17) (by decide) (by decide) ?_
  show Goes p e below T2 (mkF m 5 #[.val (.ref b), .val (.int (-1 : Int32)), .val (.int (2 : Int32)), .val (.int (3 : Int32))] []) _
  refine G.iloadN X2 hx (pc' := 6) (hb hby d3_5) rfl rfl ?_
  refine G.iloadN X2 hx (pc' := 7) (hb hby d3_6) rfl rfl ?_
  refine G.icmpF X2 hx (pc' := 10) (hb hby d3_7) (Jvm.Free.XT.ii_ge_f (by decide)) rfl ?_
  refine G.aloadN X2 hx (pc' := 11) (hb hby d3_10) rfl rfl rfl ?_
  refine G.iloadN X2 hx (pc' := 12) (hb hby d3_11) rfl rfl ?_
  refine G.iloadN X2 hx (pc' := 13) (hb hby d3_12) rfl rfl ?_
  refine G.iastore X2 hx hZ e2 A2_b (pc' := 14) (hb hby d3_13) (by decide) (Nat.le_of_ble_eq_true rfl) rfl fun T3 h3 X3 e3 W3 A3 => ?_
  have K3 := Kp.wr K2 W3 (Or.inl (List.mem_of_getElem? (i := 0) rfl))
  have A3_b : Seq Z h3 b .int [(.int (-1 : Int32)), (.int (-1 : Int32)), (.int (-1 : Int32))] := A3
  refine G.iinc X3 hx (pc' := 17) (hb hby d3_14) rfl (L' := #[.val (.ref b), .val (.int (-1 : Int32)), .val (.int ((2 : Int32) + (1 : Int32))), .val (.int (3 : Int32))]) rfl rfl ?_
  refine G.goto X3 hx (pc' := 5) (hb hby d3_17) (by decide) (by decide) ?_
  show Goes p e below T3 (mkF m 5 #[.val (.ref b), .val (.int (-1 : Int32)), .val (.int (3 : Int32)), .val (.int (3 : Int32))] []) _
  refine G.iloadN X3 hx (pc' := 6) (hb hby d3_5) rfl rfl ?_
  refine G.iloadN X3 hx (pc' := 7) (hb hby d3_6) rfl rfl ?_
  refine G.icmpT X3 hx (pc' := 20) (hb hby d3_7) (Jvm.Free.XT.ii_ge_t (by decide)) (by decide) (by decide) ?_
  refine Goes.retV X3 hx hret hlk (hb hby d3_20) (by decide) (by decide) ⟨rfl, (by rw [e3]; exact K3), (by rw [e3]; exact A3_b)⟩
set_option maxRecDepth 65536 in
set_option maxHeartbeats 40000000 in
theorem rm_init (l : Launch) (Z : State) (a0 : Array Value) (hw : ∀ d ∈ tables_1, d.before a0 Z = true) (q k : Addr) (dl : List Int64) (h0 : Heap) (EQ : Exa Z h0 q "com/example/netlocus/netlocus/PlaceQueue") (Fd : Fld Z h0 q "com/example/netlocus/netlocus/PlaceQueue" "distances" "[J" .null) (Fh : Fld Z h0 q "com/example/netlocus/netlocus/PlaceQueue" "heap" "[I" .null) (Fi : Fld Z h0 q "com/example/netlocus/netlocus/PlaceQueue" "index" "[I" .null) (Fs : Fld Z h0 q "com/example/netlocus/netlocus/PlaceQueue" "size" "I" (.int (0 : Int32))) (Ak : Seq Z h0 k .long (dl.map Value.long)) (nqk : q ≠ k) (hld : dl.length = 3) :
    Con l (⟨"com/example/netlocus/netlocus/PlaceQueue", "<init>", "([J)V"⟩ : MethodName) prog_48_method_1_code 2 none ({ frames := 1, cells := 2, slots := 6, locals := 15 } : Room) Z #[(.ref q), (.ref k)] h0 (fun v h L => v = none ∧ ∃ a b, Kp h0 h [q] L ∧ Fld Z h q "com/example/netlocus/netlocus/PlaceQueue" "distances" "[J" (.ref k) ∧ Fld Z h q "com/example/netlocus/netlocus/PlaceQueue" "heap" "[I" (.ref a) ∧ Fld Z h q "com/example/netlocus/netlocus/PlaceQueue" "index" "[I" (.ref b) ∧ Fld Z h q "com/example/netlocus/netlocus/PlaceQueue" "size" "I" (.int (Int32.ofNat st0.2.2)) ∧ Seq Z h a .int (enc st0.1) ∧ Seq Z h b .int (enc st0.2.1) ∧ h0.size ≤ a ∧ h0.size ≤ b ∧ a ≠ b) := by
  refine Con.of_body (plainFor_of_name pn_0) ?_
  intro p e s m below meth c T0 X0 hx hby hml hZ hown hnm hret hlk e0
  have hown : s.vm.findClass "com/example/netlocus/netlocus/PlaceQueue" = some m.cls := hown
  have hml : c.maxLocals = 2 := hml
  refine Goes.cast (ef1_RR m q k) ?_
  have K0 := Kp.refl h0 [q]
  have hxl : (dl.map Value.long).length = 3 := by rw [List.length_map]; exact hld
  refine G.aloadN X0 hx (pc' := 1) (hb hby d1_0) rfl rfl rfl ?_
  refine G.initO X0 hx hZ hown (hw _ (List.mem_of_getElem? (i := 7) rfl)) (hw _ (List.mem_of_getElem? (i := 8) rfl)) (hw _ (List.mem_of_getElem? (i := 9) rfl)) e0 (by rw [hml]; rfl) (hb hby d1_1) (by decide) (W := 0) (Nat.le_of_eq rfl) (by decide) (pc' := 4) rfl fun T1 X1 e1 => ?_
  refine G.aloadN X1 hx (pc' := 5) (hb hby d1_4) rfl rfl rfl ?_
  refine G.aloadN X1 hx (pc' := 6) (hb hby d1_5) rfl rfl rfl ?_
  refine G.putF X1 hx hZ hown (hw _ (List.mem_of_getElem? (i := 10) rfl)) Via.refl e1 Fd EQ (Or.inr ⟨(hw _ (List.mem_of_getElem? (i := 11) rfl)), rfl, hnm⟩) (hw _ (List.mem_of_getElem? (i := 2) rfl)) (ty := (.array .long)) (by decide) rfl rfl (pc' := 9) (hb hby d1_6) rfl fun T2 h2 X2 e2 W2 => ?_
  have F2_q_heap := Fld.other W2 Fh (Or.inr (slot_ne (Or.inr (hw _ (List.mem_of_getElem? (i := 14) rfl))) (Or.inr (hw _ (List.mem_of_getElem? (i := 11) rfl))) (by decide) (t := (.array .int)) (t' := (.array .long)) (by decide) (by decide)))
  have F2_q_index := Fld.other W2 Fi (Or.inr (slot_ne (Or.inr (hw _ (List.mem_of_getElem? (i := 16) rfl))) (Or.inr (hw _ (List.mem_of_getElem? (i := 11) rfl))) (by decide) (t := (.array .int)) (t' := (.array .long)) (by decide) (by decide)))
  have F2_q_size := Fld.other W2 Fs (Or.inr (slot_ne (Or.inl (hw _ (List.mem_of_getElem? (i := 27) rfl))) (Or.inr (hw _ (List.mem_of_getElem? (i := 11) rfl))) (by decide) (t := .int) (t' := (.array .long)) (by decide) (by decide)))
  have E2_q := Exa.wr W2 EQ
  have A2_k := Seq.other Ak W2 (Ne.symm nqk)
  have K2 := Kp.wr K0 W2 (Or.inl (List.mem_of_getElem? (i := 0) rfl))
  have F2_q_distances := Fld.same W2 Fd
  refine G.aloadN X2 hx (pc' := 10) (hb hby d1_9) rfl rfl rfl ?_
  refine G.aloadN X2 hx (pc' := 11) (hb hby d1_10) rfl rfl rfl ?_
  refine G.arraylength X2 hx hZ e2 A2_k (pc' := 12) (hb hby d1_11) (z := (3 : Int32)) (by rw [hxl]; rfl) rfl ?_
  refine G.newP X2 hx hZ (hw _ (List.mem_of_getElem? (i := 12) rfl)) e2 (hb hby d1_12) (by decide) (n := 3) (cap := 3) rfl (by decide) (by decide) (by decide) (by decide) (pc' := 14) rfl fun T3 h3 a g3 X3 e3 Ex3 A3 => ?_
  have ne_k_a : k ≠ a := Nat.ne_of_lt (Nat.lt_of_lt_of_le A2_k.lt (Nat.le_of_eq g3.symm))
  have ne_q_a : q ≠ a := Nat.ne_of_lt (Nat.lt_of_lt_of_le F2_q_distances.lt (Nat.le_of_eq g3.symm))
  have sz_a : h0.size ≤ a := Nat.le_trans K2.size (Nat.le_of_eq g3.symm)
  have F3_q_distances := Fld.ext  Ex3 F2_q_distances
  have F3_q_heap := Fld.ext  Ex3 F2_q_heap
  have F3_q_index := Fld.ext  Ex3 F2_q_index
  have F3_q_size := Fld.ext  Ex3 F2_q_size
  have E3_q := Exa.ext  Ex3 E2_q
  have A3_k := Seq.ext A2_k Ex3
  have K3 := Kp.ext K2 Ex3
  have A3_a : Seq Z h3 a .int [(.int (0 : Int32)), (.int (0 : Int32)), (.int (0 : Int32))] := A3
  refine G.putF X3 hx hZ hown (hw _ (List.mem_of_getElem? (i := 13) rfl)) Via.refl e3 F3_q_heap E3_q (Or.inr ⟨(hw _ (List.mem_of_getElem? (i := 14) rfl)), rfl, hnm⟩) (hw _ (List.mem_of_getElem? (i := 2) rfl)) (ty := (.array .int)) (by decide) rfl rfl (pc' := 17) (hb hby d1_14) rfl fun T4 h4 X4 e4 W4 => ?_
  have F4_q_distances := Fld.other W4 F3_q_distances (Or.inr (slot_ne (Or.inr (hw _ (List.mem_of_getElem? (i := 11) rfl))) (Or.inr (hw _ (List.mem_of_getElem? (i := 14) rfl))) (by decide) (t := (.array .long)) (t' := (.array .int)) (by decide) (by decide)))
  have F4_q_index := Fld.other W4 F3_q_index (Or.inr (slot_ne (Or.inr (hw _ (List.mem_of_getElem? (i := 16) rfl))) (Or.inr (hw _ (List.mem_of_getElem? (i := 14) rfl))) (by decide) (t := (.array .int)) (t' := (.array .int)) (by decide) (by decide)))
  have F4_q_size := Fld.other W4 F3_q_size (Or.inr (slot_ne (Or.inl (hw _ (List.mem_of_getElem? (i := 27) rfl))) (Or.inr (hw _ (List.mem_of_getElem? (i := 14) rfl))) (by decide) (t := .int) (t' := (.array .int)) (by decide) (by decide)))
  have E4_q := Exa.wr W4 E3_q
  have A4_k := Seq.other A3_k W4 (Ne.symm nqk)
  have A4_a := Seq.other A3_a W4 (Ne.symm ne_q_a)
  have K4 := Kp.wr K3 W4 (Or.inl (List.mem_of_getElem? (i := 0) rfl))
  have F4_q_heap := Fld.same W4 F3_q_heap
  refine G.aloadN X4 hx (pc' := 18) (hb hby d1_17) rfl rfl rfl ?_
  refine G.aloadN X4 hx (pc' := 19) (hb hby d1_18) rfl rfl rfl ?_
  refine G.arraylength X4 hx hZ e4 A4_k (pc' := 20) (hb hby d1_19) (z := (3 : Int32)) (by rw [hxl]; rfl) rfl ?_
  refine G.newP X4 hx hZ (hw _ (List.mem_of_getElem? (i := 12) rfl)) e4 (hb hby d1_20) (by decide) (n := 3) (cap := 3) rfl (by decide) (by decide) (by decide) (by decide) (pc' := 22) rfl fun T5 h5 b g5 X5 e5 Ex5 A5 => ?_
  have ne_k_b : k ≠ b := Nat.ne_of_lt (Nat.lt_of_lt_of_le A4_k.lt (Nat.le_of_eq g5.symm))
  have ne_a_b : a ≠ b := Nat.ne_of_lt (Nat.lt_of_lt_of_le A4_a.lt (Nat.le_of_eq g5.symm))
  have ne_q_b : q ≠ b := Nat.ne_of_lt (Nat.lt_of_lt_of_le F4_q_distances.lt (Nat.le_of_eq g5.symm))
  have sz_b : h0.size ≤ b := Nat.le_trans K4.size (Nat.le_of_eq g5.symm)
  have F5_q_distances := Fld.ext  Ex5 F4_q_distances
  have F5_q_heap := Fld.ext  Ex5 F4_q_heap
  have F5_q_index := Fld.ext  Ex5 F4_q_index
  have F5_q_size := Fld.ext  Ex5 F4_q_size
  have E5_q := Exa.ext  Ex5 E4_q
  have A5_k := Seq.ext A4_k Ex5
  have A5_a := Seq.ext A4_a Ex5
  have K5 := Kp.ext K4 Ex5
  have A5_b : Seq Z h5 b .int [(.int (0 : Int32)), (.int (0 : Int32)), (.int (0 : Int32))] := A5
  refine G.putF X5 hx hZ hown (hw _ (List.mem_of_getElem? (i := 15) rfl)) Via.refl e5 F5_q_index E5_q (Or.inr ⟨(hw _ (List.mem_of_getElem? (i := 16) rfl)), rfl, hnm⟩) (hw _ (List.mem_of_getElem? (i := 2) rfl)) (ty := (.array .int)) (by decide) rfl rfl (pc' := 25) (hb hby d1_22) rfl fun T6 h6 X6 e6 W6 => ?_
  have F6_q_distances := Fld.other W6 F5_q_distances (Or.inr (slot_ne (Or.inr (hw _ (List.mem_of_getElem? (i := 11) rfl))) (Or.inr (hw _ (List.mem_of_getElem? (i := 16) rfl))) (by decide) (t := (.array .long)) (t' := (.array .int)) (by decide) (by decide)))
  have F6_q_heap := Fld.other W6 F5_q_heap (Or.inr (slot_ne (Or.inr (hw _ (List.mem_of_getElem? (i := 14) rfl))) (Or.inr (hw _ (List.mem_of_getElem? (i := 16) rfl))) (by decide) (t := (.array .int)) (t' := (.array .int)) (by decide) (by decide)))
  have F6_q_size := Fld.other W6 F5_q_size (Or.inr (slot_ne (Or.inl (hw _ (List.mem_of_getElem? (i := 27) rfl))) (Or.inr (hw _ (List.mem_of_getElem? (i := 16) rfl))) (by decide) (t := .int) (t' := (.array .int)) (by decide) (by decide)))
  have E6_q := Exa.wr W6 E5_q
  have A6_k := Seq.other A5_k W6 (Ne.symm nqk)
  have A6_a := Seq.other A5_a W6 (Ne.symm ne_q_a)
  have A6_b := Seq.other A5_b W6 (Ne.symm ne_q_b)
  have K6 := Kp.wr K5 W6 (Or.inl (List.mem_of_getElem? (i := 0) rfl))
  have F6_q_index := Fld.same W6 F5_q_index
  refine G.aloadN X6 hx (pc' := 26) (hb hby d1_25) rfl rfl rfl ?_
  refine G.getF X6 hx hZ hown (hw _ (List.mem_of_getElem? (i := 15) rfl)) Via.refl e6 F6_q_index (pc' := 29) (hb hby d1_26) rfl fun T7 X7 e7 => ?_
  refine G.iconst X7 hx (pc' := 30) (hb hby d1_29) (z := (-1 : Int32)) rfl rfl ?_
  refine G.callS X7 hx hZ (y := (⟨"java/util/Arrays", "fill", "([II)V"⟩ : MethodName)) hown (hw _ (List.mem_of_getElem? (i := 17) rfl)) (hw _ (List.mem_of_getElem? (i := 18) rfl)) (hw _ (List.mem_of_getElem? (i := 19) rfl)) (hw _ (List.mem_of_getElem? (i := 20) rfl)) (by decide) e7 (rm := ({ frames := 0, cells := 0, slots := 0, locals := 0 } : Room)) (argsL := [(.ref b), (.int (-1 : Int32))]) (S := []) (W := 0) (rm_fill l Z a0 hw b h6 A6_b) (lenOf pd_6 rfl) rfl (Nat.le_of_eq rfl) (by decide) (by decide) (by decide) (by decide) (by rw [hml]; rfl) (hb hby d1_30) (pc' := 33) rfl ?_
  rintro T8 _ L8 ⟨rfl, Kq8, Ab8⟩ X8
  have F8_q_distances := Fld.keep F6_q_distances Kq8.1 (ninS ne_q_b nin0)
  have F8_q_heap := Fld.keep F6_q_heap Kq8.1 (ninS ne_q_b nin0)
  have F8_q_index := Fld.keep F6_q_index Kq8.1 (ninS ne_q_b nin0)
  have F8_q_size := Fld.keep F6_q_size Kq8.1 (ninS ne_q_b nin0)
  have E8_q := Exa.keep E6_q Kq8.1
  have A8_k := Seq.keep A6_k Kq8.1 (ninS ne_k_b nin0)
  have A8_a := Seq.keep A6_a Kq8.1 (ninS ne_a_b nin0)
  have K8 := Kp.call K6 Kq8 (allS (Or.inr sz_b) all0)
  show Goes p e below T8 (mkF m 33 #[.val (.ref q), .val (.ref k)] []) _
  refine Goes.retV X8 hx hret hlk (hb hby d1_33) (by decide) (by decide) ⟨rfl, a, b, K8, F8_q_distances, F8_q_heap, F8_q_index, F8_q_size, A8_a, Ab8, sz_a, sz_b, ne_a_b⟩
set_option maxRecDepth 65536 in
set_option maxHeartbeats 40000000 in
theorem rm0 (l : Launch) (Z : State) (a0 : Array Value) (hw : ∀ d ∈ tables_1, d.before a0 Z = true) (q0 q1 q2 : Int64) (p3 : Int32) (h0 : Heap)  :
    Con l x code maxLocals ret room_1 Z #[(.long q0), (.long q1), (.long q2), (.int p3)] h0 (fun v _ L => v = some (.int 1) ∧ Fr h0.size L) := by
  refine Con.of_body (plainFor_of_name pn_4) ?_
  intro p e s m below meth c T0 X0 hx hby hml hZ hown hnm hret hlk e0
  have hown : s.vm.findClass "com/example/netlocus/netlocus/PlaceQueueClearPinLaw" = some m.cls := hown
  have hml : c.maxLocals = 13 := hml
  refine Goes.cast (ef0_JJJI m q0 q1 q2 p3) ?_
  have K0 := Kp.refl h0 []
  refine G.iconst X0 hx (pc' := 1) (hb hby at_0) (z := (3 : Int32)) rfl rfl ?_
  refine G.newP X0 hx hZ (hw _ (List.mem_of_getElem? (i := 0) rfl)) e0 (hb hby at_1) (by decide) (n := 3) (cap := 3) rfl (by decide) (by decide) (by decide) (by decide) (pc' := 3) rfl fun T1 h1 k g1 X1 e1 Ex1 A1 => ?_
  have sz_k : h0.size ≤ k := Nat.le_trans K0.size (Nat.le_of_eq g1.symm)
  have K1 := Kp.ext K0 Ex1
  have A1_k : Seq Z h1 k .long [(.long (0 : Int64)), (.long (0 : Int64)), (.long (0 : Int64))] := A1
  refine G.dup X1 hx (pc' := 4) (hb hby at_3) rfl rfl ?_
  refine G.iconst X1 hx (pc' := 5) (hb hby at_4) (z := (0 : Int32)) rfl rfl ?_
  refine G.lloadN X1 hx (pc' := 6) (hb hby at_5) rfl rfl ?_
  refine G.lastore X1 hx hZ e1 A1_k (pc' := 7) (hb hby at_6) (by decide) (Nat.le_of_ble_eq_true rfl) rfl fun T2 h2 X2 e2 W2 A2 => ?_
  have K2 := Kp.wr K1 W2 (Or.inr sz_k)
  have A2_k : Seq Z h2 k .long [(.long q0), (.long (0 : Int64)), (.long (0 : Int64))] := A2
  refine G.dup X2 hx (pc' := 8) (hb hby at_7) rfl rfl ?_
  refine G.iconst X2 hx (pc' := 9) (hb hby at_8) (z := (1 : Int32)) rfl rfl ?_
  refine G.lloadN X2 hx (pc' := 10) (hb hby at_9) rfl rfl ?_
  refine G.lastore X2 hx hZ e2 A2_k (pc' := 11) (hb hby at_10) (by decide) (Nat.le_of_ble_eq_true rfl) rfl fun T3 h3 X3 e3 W3 A3 => ?_
  have K3 := Kp.wr K2 W3 (Or.inr sz_k)
  have A3_k : Seq Z h3 k .long [(.long q0), (.long q1), (.long (0 : Int64))] := A3
  refine G.dup X3 hx (pc' := 12) (hb hby at_11) rfl rfl ?_
  refine G.iconst X3 hx (pc' := 13) (hb hby at_12) (z := (2 : Int32)) rfl rfl ?_
  refine G.lload X3 hx (pc' := 15) (hb hby at_13) rfl rfl ?_
  refine G.lastore X3 hx hZ e3 A3_k (pc' := 16) (hb hby at_15) (by decide) (Nat.le_of_ble_eq_true rfl) rfl fun T4 h4 X4 e4 W4 A4 => ?_
  have K4 := Kp.wr K3 W4 (Or.inr sz_k)
  have A4_k : Seq Z h4 k .long [(.long q0), (.long q1), (.long q2)] := A4
  refine G.astore X4 hx (pc' := 18) (hb hby at_16) rfl (L' := #[.val (.long q0), .second, .val (.long q1), .second, .val (.long q2), .second, .val (.int p3), .val (.ref k), .unset, .unset, .unset, .unset, .unset]) rfl rfl ?_
  refine G.newO X4 hx hZ hown (hw _ (List.mem_of_getElem? (i := 1) rfl)) (hw _ (List.mem_of_getElem? (i := 2) rfl)) (hw _ (List.mem_of_getElem? (i := 3) rfl)) e4 (hb hby at_18) (by decide) (by decide) (pc' := 21) rfl fun T5 h5 q g5 X5 e5 Ex5 Ea5 D5 => ?_
  have ne_k_q : k ≠ q := Nat.ne_of_lt (Nat.lt_of_lt_of_le A4_k.lt (Nat.le_of_eq g5.symm))
  have sz_q : h0.size ≤ q := Nat.le_trans K4.size (Nat.le_of_eq g5.symm)
  have A5_k := Seq.ext A4_k Ex5
  have K5 := Kp.ext K4 Ex5
  have F5_q_distances : Fld Z h5 q "com/example/netlocus/netlocus/PlaceQueue" "distances" "[J" .null := D5 (Or.inr (hw _ (List.mem_of_getElem? (i := 11) rfl))) (ty := (.array .long)) (by decide)
  have F5_q_heap : Fld Z h5 q "com/example/netlocus/netlocus/PlaceQueue" "heap" "[I" .null := D5 (Or.inr (hw _ (List.mem_of_getElem? (i := 14) rfl))) (ty := (.array .int)) (by decide)
  have F5_q_index : Fld Z h5 q "com/example/netlocus/netlocus/PlaceQueue" "index" "[I" .null := D5 (Or.inr (hw _ (List.mem_of_getElem? (i := 16) rfl))) (ty := (.array .int)) (by decide)
  have F5_q_size : Fld Z h5 q "com/example/netlocus/netlocus/PlaceQueue" "size" "I" (.int (0 : Int32)) := D5 (Or.inl (hw _ (List.mem_of_getElem? (i := 27) rfl))) (ty := .int) (by decide)
  refine G.dup X5 hx (pc' := 22) (hb hby at_21) rfl rfl ?_
  refine G.aload X5 hx (pc' := 24) (hb hby at_22) rfl rfl rfl ?_
  have nqk : q ≠ k := Ne.symm ne_k_q
  obtain ⟨dl, hdl⟩ : ∃ z : List Int64, z = [q0, q1, q2] := ⟨_, rfl⟩
  have hld : dl.length = 3 := by rw [hdl]; rfl
  have Ak0 : Seq Z h5 k .long (dl.map Value.long) := by rw [hdl]; exact A5_k
  obtain ⟨ra, rb, rc, hra, hrb, hrc, hrk⟩ := own_rk q0 q1 q2
  rw [← hdl] at hrk
  obtain ⟨b0, hB0⟩ : ∃ z : Bool, (z = false ↔ (p3 &&& (1 : Int32)) = (0 : Int32)) := ⟨decide (¬ (p3 &&& (1 : Int32)) = (0 : Int32)), decide_eq_false_iff_not.trans Decidable.not_not⟩
  obtain ⟨b1, hB1⟩ : ∃ z : Bool, (z = false ↔ (p3 &&& (2 : Int32)) = (0 : Int32)) := ⟨decide (¬ (p3 &&& (2 : Int32)) = (0 : Int32)), decide_eq_false_iff_not.trans Decidable.not_not⟩
  obtain ⟨b2, hB2⟩ : ∃ z : Bool, (z = false ↔ (p3 &&& (4 : Int32)) = (0 : Int32)) := ⟨decide (¬ (p3 &&& (4 : Int32)) = (0 : Int32)), decide_eq_false_iff_not.trans Decidable.not_not⟩
  obtain ⟨b3, hB3⟩ : ∃ z : Bool, (z = false ↔ ((p3 &&& (8 : Int32)) = (0 : Int32) ∨ (p3 &&& (7 : Int32)) = (0 : Int32))) := ⟨decide (¬ ((p3 &&& (8 : Int32)) = (0 : Int32) ∨ (p3 &&& (7 : Int32)) = (0 : Int32))), decide_eq_false_iff_not.trans Decidable.not_not⟩
  obtain ⟨ss, hss, hsv⟩ := own_s (Jvm.Free.XT.ushr p3 (4 : Int32))
  obtain ⟨t5, hrun1, hrun2⟩ := own_run hra hrb hrc hss b0 b1 b2 b3 (fun z => by
    cases b0 <;> cases b1 <;> cases b2 <;> simp only [Bool.false_eq_true, false_or, or_false, or_true, true_or, reduceCtorEq] <;> try trivial
    exact absurd (hB3.mpr (Or.inr (own_7 p3 (hB0.mp rfl) (hB1.mp rfl) (hB2.mp rfl)))) (by rw [z]; decide))
  obtain ⟨rk, hrkv⟩ : ∃ z : List Nat, z = [ra, rb, rc] := ⟨_, rfl⟩
  rw [← hrkv] at hrun1 hrun2 hrk
  unfold part1 at hrun1
  unfold part2 at hrun2
  obtain ⟨t1, m1, hrun1⟩ := Option.bind_eq_some_iff.mp hrun1
  obtain ⟨m1, ok1⟩ := ck_spec m1
  obtain ⟨t2, m2, hrun1⟩ := Option.bind_eq_some_iff.mp hrun1
  obtain ⟨m2, ok2⟩ := ck_spec m2
  obtain ⟨t3, m3, hrun1⟩ := Option.bind_eq_some_iff.mp hrun1
  obtain ⟨m3, ok3⟩ := ck_spec m3
  obtain ⟨t4, m4, hrun1⟩ := Option.bind_eq_some_iff.mp hrun1
  obtain ⟨m4, ok4⟩ := ck_spec m4
  obtain ⟨m5, ok5⟩ := ck_spec hrun1
  obtain ⟨t6, m6, hrun2⟩ := Option.bind_eq_some_iff.mp hrun2
  obtain ⟨m6, ok6⟩ := ck_spec m6
  obtain ⟨t7, m7, hrun2⟩ := Option.bind_eq_some_iff.mp hrun2
  obtain ⟨m7, ok7⟩ := ck_spec m7
  obtain ⟨t8, m8, hrun2⟩ := Option.bind_eq_some_iff.mp hrun2
  obtain ⟨m8, ok8⟩ := ck_spec m8
  obtain ⟨r1, m9, hrun2⟩ := Option.bind_eq_some_iff.mp hrun2
  obtain ⟨m9, ok9⟩ := ckr_spec m9
  obtain ⟨r2, m10, hrun2⟩ := Option.bind_eq_some_iff.mp hrun2
  obtain ⟨m10, ok10⟩ := ckr_spec m10
  obtain ⟨r3, m11, hrun2⟩ := Option.bind_eq_some_iff.mp hrun2
  obtain ⟨m11, ok11⟩ := ckr_spec m11
  obtain ⟨⟨dist, z3, z8, z9, z10, z5⟩, -⟩ := some_if hrun2
  refine G.callI X5 hx hZ (y := (⟨"com/example/netlocus/netlocus/PlaceQueue", "<init>", "([J)V"⟩ : MethodName)) rfl hown (hw _ (List.mem_of_getElem? (i := 4) rfl)) (hw _ (List.mem_of_getElem? (i := 5) rfl)) (hw _ (List.mem_of_getElem? (i := 3) rfl)) (hw _ (List.mem_of_getElem? (i := 6) rfl)) (by decide) e5 (rm := ({ frames := 1, cells := 2, slots := 6, locals := 15 } : Room)) (argsL := [(.ref k)]) (S := [(.ref q)]) (W := 1) (a := q) (rm_init l Z a0 hw q k dl h5 Ea5 F5_q_distances F5_q_heap F5_q_index F5_q_size Ak0 nqk hld) (lenOf pd_7 rfl) rfl (Nat.le_of_eq rfl) (by decide) (by decide) (by decide) (by decide) (by rw [hml]; rfl) (hb hby at_24) (pc' := 27) rfl ?_
  rintro T6 _ L6 ⟨rfl, a, b, Kq6, Fd6, Fh6, Fi6, Fs6, Aa6, Ab6, ga6, gb6, nab⟩ X6
  have E6_q := Exa.keep Ea5 Kq6.1
  have A6_k := Seq.keep Ak0 Kq6.1 (ninS ne_k_q nin0)
  have K6 := Kp.call K5 Kq6 (allS (Or.inr sz_q) all0)
  have nqa : q ≠ a := Nat.ne_of_lt (Nat.lt_of_lt_of_le Ea5.lt ga6)
  have nqb : q ≠ b := Nat.ne_of_lt (Nat.lt_of_lt_of_le Ea5.lt gb6)
  have nak : a ≠ k := Ne.symm (Nat.ne_of_lt (Nat.lt_of_lt_of_le Ak0.lt ga6))
  have nbk : b ≠ k := Ne.symm (Nat.ne_of_lt (Nat.lt_of_lt_of_le Ak0.lt gb6))
  have sz_a : h0.size ≤ a := Nat.le_trans K5.size ga6
  have sz_b : h0.size ≤ b := Nat.le_trans K5.size gb6
  show Goes p e below T6 (mkF m 27 #[.val (.long q0), .second, .val (.long q1), .second, .val (.long q2), .second, .val (.int p3), .val (.ref k), .unset, .unset, .unset, .unset, .unset] [(.ref q)]) _
  refine G.astore X6 hx (pc' := 29) (hb hby at_27) rfl (L' := #[.val (.long q0), .second, .val (.long q1), .second, .val (.long q2), .second, .val (.int p3), .val (.ref k), .val (.ref q), .unset, .unset, .unset, .unset]) rfl rfl ?_
  refine G.iload X6 hx (pc' := 31) (hb hby at_29) rfl rfl ?_
  refine G.iconst X6 hx (pc' := 32) (hb hby at_31) (z := (1 : Int32)) rfl rfl ?_
  refine G.iand X6 hx (pc' := 33) (hb hby at_32) rfl ?_
  have ok0 : okS st0 := by decide
  refine Goes.toT (f' := (mkF m 42 #[.val (.long q0), .second, .val (.long q1), .second, .val (.long q2), .second, .val (.int p3), .val (.ref k), .val (.ref q), .unset, .unset, .unset, .unset] [])) (fun T' => ∃ L', Stand p l e room_1 s m #[(.long q0), (.long q1), (.long q2), (.int p3)] below meth c T' L' 4 13 ∧ Exa Z T'.heap q "com/example/netlocus/netlocus/PlaceQueue" ∧ Fld Z T'.heap q "com/example/netlocus/netlocus/PlaceQueue" "distances" "[J" (.ref k) ∧ Fld Z T'.heap q "com/example/netlocus/netlocus/PlaceQueue" "heap" "[I" (.ref a) ∧ Fld Z T'.heap q "com/example/netlocus/netlocus/PlaceQueue" "index" "[I" (.ref b) ∧ Fld Z T'.heap q "com/example/netlocus/netlocus/PlaceQueue" "size" "I" (.int (Int32.ofNat t1.2.2)) ∧ Seq Z T'.heap a .int (enc t1.1) ∧ Seq Z T'.heap b .int (enc t1.2.1) ∧ Seq Z T'.heap k .long (dl.map Value.long) ∧ Kp h0 T'.heap [] L') (fun hk => ?_) ?_
  · by_cases c0_ : (p3 &&& (1 : Int32)) = (0 : Int32)
    · refine G.ifT X6 hx (pc' := 42) (hb hby at_33) (Jvm.Free.XT.i0_eq_t c0_) (by decide) (by decide) ?_
      unfold cadd at m1
      rw [if_neg (by rw [hB0.mpr c0_]; decide)] at m1
      have m1 : st0 = t1 := Option.some.inj m1
      rw [← m1] at hk
      exact hk T6 ⟨_, X6, E6_q, Fd6, Fh6, Fi6, Fs6, Aa6, Ab6, A6_k, K6⟩
    · refine G.ifF X6 hx (pc' := 36) (hb hby at_33) (Jvm.Free.XT.i0_eq_f c0_) rfl ?_
      unfold cadd at m1
      rw [if_pos (by cases hz : b0 with | false => exact absurd (hB0.mp hz) c0_ | true => rfl)] at m1
      refine G.aload X6 hx (pc' := 38) (hb hby at_36) rfl rfl rfl ?_
      refine G.iconst X6 hx (pc' := 39) (hb hby at_38) (z := (0 : Int32)) rfl rfl ?_
      refine G.callV X6 hx hZ (y0 := (⟨"com/example/netlocus/netlocus/PlaceQueue", "addOrRaise", "(I)V"⟩ : MethodName)) (y := (⟨"com/example/netlocus/netlocus/PlaceQueue", "addOrRaise", "(I)V"⟩ : MethodName)) hown (hw _ (List.mem_of_getElem? (i := 21) rfl)) (hw _ (List.mem_of_getElem? (i := 22) rfl)) (notFace_of_selects (args := #[]) (mvT hZ (hw _ (List.mem_of_getElem? (i := 24) rfl)))) (hw _ (List.mem_of_getElem? (i := 24) rfl)) (hw _ (List.mem_of_getElem? (i := 23) rfl)) (hw _ (List.mem_of_getElem? (i := 3) rfl)) (hw _ (List.mem_of_getElem? (i := 25) rfl)) (by decide) rfl (rm := ({ frames := 2, cells := 0, slots := 0, locals := 32 } : Room)) (argsL := [(.int (0 : Int32))]) (S := []) (W := 0) (a := q) E6_q (rm_add l Z a0 hw q a b k dl rk st0.1 st0.2.1 st0.2.2 0 t1 T6.heap E6_q Fd6 Fh6 Fi6 Fs6 Aa6 Ab6 A6_k nqa nqb nqk nab nak nbk ok0.1 ok0.2.1 hld hrk (by decide) ok0.2.2 m1) (lenOf pd_8 rfl) rfl (Nat.le_of_eq rfl) (by decide) (by decide) (by decide) (by decide) (by rw [hml]; rfl) (hb hby at_39) (pc' := 42) rfl ?_
      rintro T7 _ L7 ⟨rfl, Kq7, Fd7, Fh7, Fi7, Fs7, Aa7, Ab7, la7, lb7⟩ X7
      have E7_q := Exa.keep E6_q Kq7.1
      have A7_k := Seq.keep A6_k Kq7.1 (ninS ne_k_q (ninS (Ne.symm nak) (ninS (Ne.symm nbk) nin0)))
      have K7 := Kp.call K6 Kq7 (allS (Or.inr sz_q) (allS (Or.inr sz_a) (allS (Or.inr sz_b) all0)))
      show Goes p e below T7 (mkF m 42 #[.val (.long q0), .second, .val (.long q1), .second, .val (.long q2), .second, .val (.int p3), .val (.ref k), .val (.ref q), .unset, .unset, .unset, .unset] []) _
      exact hk T7 ⟨_, X7, E7_q, Fd7, Fh7, Fi7, Fs7, Aa7, Ab7, A7_k, K7⟩
  · rintro T50 ⟨L50, X50, EQ50, Fd50, Fh50, Fi50, Fs50, Aa50, Ab50, Ak50, K50⟩
    refine G.iload X50 hx (pc' := 44) (hb hby at_42) rfl rfl ?_
    refine G.iconst X50 hx (pc' := 45) (hb hby at_44) (z := (2 : Int32)) rfl rfl ?_
    refine G.iand X50 hx (pc' := 46) (hb hby at_45) rfl ?_
    refine Goes.toT (f' := (mkF m 55 #[.val (.long q0), .second, .val (.long q1), .second, .val (.long q2), .second, .val (.int p3), .val (.ref k), .val (.ref q), .unset, .unset, .unset, .unset] [])) (fun T' => ∃ L', Stand p l e room_1 s m #[(.long q0), (.long q1), (.long q2), (.int p3)] below meth c T' L' 4 13 ∧ Exa Z T'.heap q "com/example/netlocus/netlocus/PlaceQueue" ∧ Fld Z T'.heap q "com/example/netlocus/netlocus/PlaceQueue" "distances" "[J" (.ref k) ∧ Fld Z T'.heap q "com/example/netlocus/netlocus/PlaceQueue" "heap" "[I" (.ref a) ∧ Fld Z T'.heap q "com/example/netlocus/netlocus/PlaceQueue" "index" "[I" (.ref b) ∧ Fld Z T'.heap q "com/example/netlocus/netlocus/PlaceQueue" "size" "I" (.int (Int32.ofNat t2.2.2)) ∧ Seq Z T'.heap a .int (enc t2.1) ∧ Seq Z T'.heap b .int (enc t2.2.1) ∧ Seq Z T'.heap k .long (dl.map Value.long) ∧ Kp h0 T'.heap [] L') (fun hk => ?_) ?_
    · by_cases c1_ : (p3 &&& (2 : Int32)) = (0 : Int32)
      · refine G.ifT X50 hx (pc' := 55) (hb hby at_46) (Jvm.Free.XT.i0_eq_t c1_) (by decide) (by decide) ?_
        unfold cadd at m2
        rw [if_neg (by rw [hB1.mpr c1_]; decide)] at m2
        have m2 : t1 = t2 := Option.some.inj m2
        rw [← m2] at hk
        exact hk T50 ⟨_, X50, EQ50, Fd50, Fh50, Fi50, Fs50, Aa50, Ab50, Ak50, K50⟩
      · refine G.ifF X50 hx (pc' := 49) (hb hby at_46) (Jvm.Free.XT.i0_eq_f c1_) rfl ?_
        unfold cadd at m2
        rw [if_pos (by cases hz : b1 with | false => exact absurd (hB1.mp hz) c1_ | true => rfl)] at m2
        refine G.aload X50 hx (pc' := 51) (hb hby at_49) rfl rfl rfl ?_
        refine G.iconst X50 hx (pc' := 52) (hb hby at_51) (z := (1 : Int32)) rfl rfl ?_
        refine G.callV X50 hx hZ (y0 := (⟨"com/example/netlocus/netlocus/PlaceQueue", "addOrRaise", "(I)V"⟩ : MethodName)) (y := (⟨"com/example/netlocus/netlocus/PlaceQueue", "addOrRaise", "(I)V"⟩ : MethodName)) hown (hw _ (List.mem_of_getElem? (i := 21) rfl)) (hw _ (List.mem_of_getElem? (i := 22) rfl)) (notFace_of_selects (args := #[]) (mvT hZ (hw _ (List.mem_of_getElem? (i := 24) rfl)))) (hw _ (List.mem_of_getElem? (i := 24) rfl)) (hw _ (List.mem_of_getElem? (i := 23) rfl)) (hw _ (List.mem_of_getElem? (i := 3) rfl)) (hw _ (List.mem_of_getElem? (i := 25) rfl)) (by decide) rfl (rm := ({ frames := 2, cells := 0, slots := 0, locals := 32 } : Room)) (argsL := [(.int (1 : Int32))]) (S := []) (W := 0) (a := q) EQ50 (rm_add l Z a0 hw q a b k dl rk t1.1 t1.2.1 t1.2.2 1 t2 T50.heap EQ50 Fd50 Fh50 Fi50 Fs50 Aa50 Ab50 Ak50 nqa nqb nqk nab nak nbk ok1.1 ok1.2.1 hld hrk (by decide) ok1.2.2 m2) (lenOf pd_8 rfl) rfl (Nat.le_of_eq rfl) (by decide) (by decide) (by decide) (by decide) (by rw [hml]; rfl) (hb hby at_52) (pc' := 55) rfl ?_
        rintro T101 _ L101 ⟨rfl, Kq101, Fd101, Fh101, Fi101, Fs101, Aa101, Ab101, la101, lb101⟩ X101
        have E101_q := Exa.keep EQ50 Kq101.1
        have A101_k := Seq.keep Ak50 Kq101.1 (ninS ne_k_q (ninS (Ne.symm nak) (ninS (Ne.symm nbk) nin0)))
        have K101 := Kp.call K50 Kq101 (allS (Or.inr sz_q) (allS (Or.inr sz_a) (allS (Or.inr sz_b) all0)))
        show Goes p e below T101 (mkF m 55 #[.val (.long q0), .second, .val (.long q1), .second, .val (.long q2), .second, .val (.int p3), .val (.ref k), .val (.ref q), .unset, .unset, .unset, .unset] []) _
        exact hk T101 ⟨_, X101, E101_q, Fd101, Fh101, Fi101, Fs101, Aa101, Ab101, A101_k, K101⟩
    · rintro T60 ⟨L60, X60, EQ60, Fd60, Fh60, Fi60, Fs60, Aa60, Ab60, Ak60, K60⟩
      refine G.iload X60 hx (pc' := 57) (hb hby at_55) rfl rfl ?_
      refine G.iconst X60 hx (pc' := 58) (hb hby at_57) (z := (4 : Int32)) rfl rfl ?_
      refine G.iand X60 hx (pc' := 59) (hb hby at_58) rfl ?_
      refine Goes.toT (f' := (mkF m 68 #[.val (.long q0), .second, .val (.long q1), .second, .val (.long q2), .second, .val (.int p3), .val (.ref k), .val (.ref q), .unset, .unset, .unset, .unset] [])) (fun T' => ∃ L', Stand p l e room_1 s m #[(.long q0), (.long q1), (.long q2), (.int p3)] below meth c T' L' 4 13 ∧ Exa Z T'.heap q "com/example/netlocus/netlocus/PlaceQueue" ∧ Fld Z T'.heap q "com/example/netlocus/netlocus/PlaceQueue" "distances" "[J" (.ref k) ∧ Fld Z T'.heap q "com/example/netlocus/netlocus/PlaceQueue" "heap" "[I" (.ref a) ∧ Fld Z T'.heap q "com/example/netlocus/netlocus/PlaceQueue" "index" "[I" (.ref b) ∧ Fld Z T'.heap q "com/example/netlocus/netlocus/PlaceQueue" "size" "I" (.int (Int32.ofNat t3.2.2)) ∧ Seq Z T'.heap a .int (enc t3.1) ∧ Seq Z T'.heap b .int (enc t3.2.1) ∧ Seq Z T'.heap k .long (dl.map Value.long) ∧ Kp h0 T'.heap [] L') (fun hk => ?_) ?_
      · by_cases c2_ : (p3 &&& (4 : Int32)) = (0 : Int32)
        · refine G.ifT X60 hx (pc' := 68) (hb hby at_59) (Jvm.Free.XT.i0_eq_t c2_) (by decide) (by decide) ?_
          unfold cadd at m3
          rw [if_neg (by rw [hB2.mpr c2_]; decide)] at m3
          have m3 : t2 = t3 := Option.some.inj m3
          rw [← m3] at hk
          exact hk T60 ⟨_, X60, EQ60, Fd60, Fh60, Fi60, Fs60, Aa60, Ab60, Ak60, K60⟩
        · refine G.ifF X60 hx (pc' := 62) (hb hby at_59) (Jvm.Free.XT.i0_eq_f c2_) rfl ?_
          unfold cadd at m3
          rw [if_pos (by cases hz : b2 with | false => exact absurd (hB2.mp hz) c2_ | true => rfl)] at m3
          refine G.aload X60 hx (pc' := 64) (hb hby at_62) rfl rfl rfl ?_
          refine G.iconst X60 hx (pc' := 65) (hb hby at_64) (z := (2 : Int32)) rfl rfl ?_
          refine G.callV X60 hx hZ (y0 := (⟨"com/example/netlocus/netlocus/PlaceQueue", "addOrRaise", "(I)V"⟩ : MethodName)) (y := (⟨"com/example/netlocus/netlocus/PlaceQueue", "addOrRaise", "(I)V"⟩ : MethodName)) hown (hw _ (List.mem_of_getElem? (i := 21) rfl)) (hw _ (List.mem_of_getElem? (i := 22) rfl)) (notFace_of_selects (args := #[]) (mvT hZ (hw _ (List.mem_of_getElem? (i := 24) rfl)))) (hw _ (List.mem_of_getElem? (i := 24) rfl)) (hw _ (List.mem_of_getElem? (i := 23) rfl)) (hw _ (List.mem_of_getElem? (i := 3) rfl)) (hw _ (List.mem_of_getElem? (i := 25) rfl)) (by decide) rfl (rm := ({ frames := 2, cells := 0, slots := 0, locals := 32 } : Room)) (argsL := [(.int (2 : Int32))]) (S := []) (W := 0) (a := q) EQ60 (rm_add l Z a0 hw q a b k dl rk t2.1 t2.2.1 t2.2.2 2 t3 T60.heap EQ60 Fd60 Fh60 Fi60 Fs60 Aa60 Ab60 Ak60 nqa nqb nqk nab nak nbk ok2.1 ok2.2.1 hld hrk (by decide) ok2.2.2 m3) (lenOf pd_8 rfl) rfl (Nat.le_of_eq rfl) (by decide) (by decide) (by decide) (by decide) (by rw [hml]; rfl) (hb hby at_65) (pc' := 68) rfl ?_
          rintro T201 _ L201 ⟨rfl, Kq201, Fd201, Fh201, Fi201, Fs201, Aa201, Ab201, la201, lb201⟩ X201
          have E201_q := Exa.keep EQ60 Kq201.1
          have A201_k := Seq.keep Ak60 Kq201.1 (ninS ne_k_q (ninS (Ne.symm nak) (ninS (Ne.symm nbk) nin0)))
          have K201 := Kp.call K60 Kq201 (allS (Or.inr sz_q) (allS (Or.inr sz_a) (allS (Or.inr sz_b) all0)))
          show Goes p e below T201 (mkF m 68 #[.val (.long q0), .second, .val (.long q1), .second, .val (.long q2), .second, .val (.int p3), .val (.ref k), .val (.ref q), .unset, .unset, .unset, .unset] []) _
          exact hk T201 ⟨_, X201, E201_q, Fd201, Fh201, Fi201, Fs201, Aa201, Ab201, A201_k, K201⟩
      · rintro T70 ⟨L70, X70, EQ70, Fd70, Fh70, Fi70, Fs70, Aa70, Ab70, Ak70, K70⟩
        refine G.iload X70 hx (pc' := 70) (hb hby at_68) rfl rfl ?_
        refine G.bipush X70 hx (pc' := 72) (hb hby at_70) (z := (8 : Int32)) rfl rfl ?_
        refine G.iand X70 hx (pc' := 73) (hb hby at_72) rfl ?_
        refine Goes.toT (f' := (mkF m 90 #[.val (.long q0), .second, .val (.long q1), .second, .val (.long q2), .second, .val (.int p3), .val (.ref k), .val (.ref q), .unset, .unset, .unset, .unset] [])) (fun T' => ∃ L', Stand p l e room_1 s m #[(.long q0), (.long q1), (.long q2), (.int p3)] below meth c T' L' 4 13 ∧ Exa Z T'.heap q "com/example/netlocus/netlocus/PlaceQueue" ∧ Fld Z T'.heap q "com/example/netlocus/netlocus/PlaceQueue" "distances" "[J" (.ref k) ∧ Fld Z T'.heap q "com/example/netlocus/netlocus/PlaceQueue" "heap" "[I" (.ref a) ∧ Fld Z T'.heap q "com/example/netlocus/netlocus/PlaceQueue" "index" "[I" (.ref b) ∧ Fld Z T'.heap q "com/example/netlocus/netlocus/PlaceQueue" "size" "I" (.int (Int32.ofNat t4.2.2)) ∧ Seq Z T'.heap a .int (enc t4.1) ∧ Seq Z T'.heap b .int (enc t4.2.1) ∧ Seq Z T'.heap k .long (dl.map Value.long) ∧ Kp h0 T'.heap [] L') (fun hk => ?_) ?_
        · by_cases c3_ : (p3 &&& (8 : Int32)) = (0 : Int32)
          · refine G.ifT X70 hx (pc' := 90) (hb hby at_73) (Jvm.Free.XT.i0_eq_t c3_) (by decide) (by decide) ?_
            unfold crem at m4
            rw [if_neg (by rw [hB3.mpr (Or.inl c3_)]; decide)] at m4
            have m4 : t3 = t4 := Option.some.inj m4
            rw [← m4] at hk
            exact hk T70 ⟨_, X70, EQ70, Fd70, Fh70, Fi70, Fs70, Aa70, Ab70, Ak70, K70⟩
          · refine G.ifF X70 hx (pc' := 76) (hb hby at_73) (Jvm.Free.XT.i0_eq_f c3_) rfl ?_
            refine G.iload X70 hx (pc' := 78) (hb hby at_76) rfl rfl ?_
            refine G.bipush X70 hx (pc' := 80) (hb hby at_78) (z := (7 : Int32)) rfl rfl ?_
            refine G.iand X70 hx (pc' := 81) (hb hby at_80) rfl ?_
            by_cases c4_ : (p3 &&& (7 : Int32)) = (0 : Int32)
            · refine G.ifT X70 hx (pc' := 90) (hb hby at_81) (Jvm.Free.XT.i0_eq_t c4_) (by decide) (by decide) ?_
              unfold crem at m4
              rw [if_neg (by rw [hB3.mpr (Or.inr c4_)]; decide)] at m4
              have m4 : t3 = t4 := Option.some.inj m4
              rw [← m4] at hk
              exact hk T70 ⟨_, X70, EQ70, Fd70, Fh70, Fi70, Fs70, Aa70, Ab70, Ak70, K70⟩
            · refine G.ifF X70 hx (pc' := 84) (hb hby at_81) (Jvm.Free.XT.i0_eq_f c4_) rfl ?_
              unfold crem at m4
              rw [if_pos (by cases hz : b3 with | false => exact absurd (hB3.mp hz) (fun z => z.elim c3_ c4_) | true => rfl)] at m4
              obtain ⟨r, mr, m4⟩ := Option.bind_eq_some_iff.mp m4
              have m4 : r.2 = t4 := Option.some.inj m4
              rw [← m4] at hk
              refine G.aload X70 hx (pc' := 86) (hb hby at_84) rfl rfl rfl ?_
              refine G.callV X70 hx hZ (y0 := (⟨"com/example/netlocus/netlocus/PlaceQueue", "removeNearest", "()I"⟩ : MethodName)) (y := (⟨"com/example/netlocus/netlocus/PlaceQueue", "removeNearest", "()I"⟩ : MethodName)) hown (hw _ (List.mem_of_getElem? (i := 51) rfl)) (hw _ (List.mem_of_getElem? (i := 52) rfl)) (notFace_of_selects (args := #[]) (mvT hZ (hw _ (List.mem_of_getElem? (i := 54) rfl)))) (hw _ (List.mem_of_getElem? (i := 54) rfl)) (hw _ (List.mem_of_getElem? (i := 53) rfl)) (hw _ (List.mem_of_getElem? (i := 3) rfl)) (hw _ (List.mem_of_getElem? (i := 55) rfl)) (by decide) rfl (rm := ({ frames := 2, cells := 0, slots := 0, locals := 32 } : Room)) (argsL := []) (S := []) (W := 0) (a := q) EQ70 (rm_rem l Z a0 hw q a b k dl rk t3.1 t3.2.1 t3.2.2 r T70.heap EQ70 Fd70 Fh70 Fi70 Fs70 Aa70 Ab70 Ak70 nqa nqb nqk nab nak nbk ok3.1 ok3.2.1 hld hrk mr) (lenOf pd_3 rfl) rfl (Nat.le_of_eq rfl) (by decide) (by decide) (by decide) (by decide) (by rw [hml]; rfl) (hb hby at_86) (pc' := 89) rfl ?_
              rintro T301 _ L301 ⟨rfl, Kq301, Fd301, Fh301, Fi301, Fs301, Aa301, Ab301, la301, lb301⟩ X301
              have E301_q := Exa.keep EQ70 Kq301.1
              have A301_k := Seq.keep Ak70 Kq301.1 (ninS ne_k_q (ninS (Ne.symm nak) (ninS (Ne.symm nbk) nin0)))
              have K301 := Kp.call K70 Kq301 (allS (Or.inr sz_q) (allS (Or.inr sz_a) (allS (Or.inr sz_b) all0)))
              show Goes p e below T301 (mkF m 89 #[.val (.long q0), .second, .val (.long q1), .second, .val (.long q2), .second, .val (.int p3), .val (.ref k), .val (.ref q), .unset, .unset, .unset, .unset] [(.int (Int32.ofNat r.1))]) _
              refine G.pop X301 hx (pc' := 90) (hb hby at_89) rfl rfl ?_
              exact hk T301 ⟨_, X301, E301_q, Fd301, Fh301, Fi301, Fs301, Aa301, Ab301, A301_k, K301⟩
        · rintro T80 ⟨L80, X80, EQ80, Fd80, Fh80, Fi80, Fs80, Aa80, Ab80, Ak80, K80⟩
          refine G.aload X80 hx (pc' := 92) (hb hby at_90) rfl rfl rfl ?_
          refine G.callV X80 hx hZ (y0 := (⟨"com/example/netlocus/netlocus/PlaceQueue", "clear", "()V"⟩ : MethodName)) (y := (⟨"com/example/netlocus/netlocus/PlaceQueue", "clear", "()V"⟩ : MethodName)) hown (hw _ (List.mem_of_getElem? (i := 36) rfl)) (hw _ (List.mem_of_getElem? (i := 37) rfl)) (notFace_of_selects (args := #[]) (mvT hZ (hw _ (List.mem_of_getElem? (i := 39) rfl)))) (hw _ (List.mem_of_getElem? (i := 39) rfl)) (hw _ (List.mem_of_getElem? (i := 38) rfl)) (hw _ (List.mem_of_getElem? (i := 3) rfl)) (hw _ (List.mem_of_getElem? (i := 40) rfl)) (by decide) rfl (rm := ({ frames := 0, cells := 0, slots := 0, locals := 0 } : Room)) (argsL := []) (S := []) (W := 0) (a := q) EQ80 (rm_clear l Z a0 hw q a b k dl rk t4.1 t4.2.1 t4.2.2 t5 T80.heap EQ80 Fd80 Fh80 Fi80 Fs80 Aa80 Ab80 Ak80 nqa nqb nqk nab nak nbk ok4.1 ok4.2.1 hld hrk m5) (lenOf pd_9 rfl) rfl (Nat.le_of_eq rfl) (by decide) (by decide) (by decide) (by decide) (by rw [hml]; rfl) (hb hby at_92) (pc' := 95) rfl ?_
          rintro T401 _ L401 ⟨rfl, Kq401, Fd401, Fh401, Fi401, Fs401, Aa401, Ab401, la401, lb401⟩ X401
          have E401_q := Exa.keep EQ80 Kq401.1
          have A401_k := Seq.keep Ak80 Kq401.1 (ninS ne_k_q (ninS (Ne.symm nak) (ninS (Ne.symm nbk) nin0)))
          have K401 := Kp.call K80 Kq401 (allS (Or.inr sz_q) (allS (Or.inr sz_a) (allS (Or.inr sz_b) all0)))
          show Goes p e below T401 (mkF m 95 #[.val (.long q0), .second, .val (.long q1), .second, .val (.long q2), .second, .val (.int p3), .val (.ref k), .val (.ref q), .unset, .unset, .unset, .unset] []) _
          refine G.aload X401 hx (pc' := 97) (hb hby at_95) rfl rfl rfl ?_
          refine G.callV X401 hx hZ (y0 := (⟨"com/example/netlocus/netlocus/PlaceQueue", "isEmpty", "()Z"⟩ : MethodName)) (y := (⟨"com/example/netlocus/netlocus/PlaceQueue", "isEmpty", "()Z"⟩ : MethodName)) hown (hw _ (List.mem_of_getElem? (i := 41) rfl)) (hw _ (List.mem_of_getElem? (i := 42) rfl)) (notFace_of_selects (args := #[]) (mvT hZ (hw _ (List.mem_of_getElem? (i := 44) rfl)))) (hw _ (List.mem_of_getElem? (i := 44) rfl)) (hw _ (List.mem_of_getElem? (i := 43) rfl)) (hw _ (List.mem_of_getElem? (i := 3) rfl)) (hw _ (List.mem_of_getElem? (i := 45) rfl)) (by decide) rfl (rm := ({ frames := 0, cells := 0, slots := 0, locals := 0 } : Room)) (argsL := []) (S := []) (W := 0) (a := q) E401_q (rm_emp l Z a0 hw q t5.2.2 T401.heap Fs401 (by omega)) (lenOf pd_2 rfl) rfl (Nat.le_of_eq rfl) (by decide) (by decide) (by decide) (by decide) (by rw [hml]; rfl) (hb hby at_97) (pc' := 100) rfl ?_
          rintro T402 _ _ ⟨rfl, e402, rfl⟩ X402
          rw [List.append_nil] at X402
          show Goes p e below T402 (mkF m 100 #[.val (.long q0), .second, .val (.long q1), .second, .val (.long q2), .second, .val (.int p3), .val (.ref k), .val (.ref q), .unset, .unset, .unset, .unset] [(.int (if t5.2.2 = 0 then (1 : Int32) else (0 : Int32)))]) _
          rw [if_pos z5]
          refine G.ifT X402 hx (pc' := 105) (hb hby at_100) (Jvm.Free.XT.i0_ne_t (by decide)) (by decide) (by decide) ?_
          refine G.iload X402 hx (pc' := 107) (hb hby at_105) rfl rfl ?_
          refine G.iconst X402 hx (pc' := 108) (hb hby at_107) (z := (4 : Int32)) rfl rfl ?_
          refine G.iushr X402 hx (pc' := 109) (hb hby at_108) rfl ?_
          refine G.ldcInt X402 hx hZ hown (hw _ (List.mem_of_getElem? (i := 46) rfl)) (pc' := 111) (hb hby at_109) rfl ?_
          refine G.iand X402 hx (pc' := 112) (hb hby at_111) rfl ?_
          refine G.iconst X402 hx (pc' := 113) (hb hby at_112) (z := (3 : Int32)) rfl rfl ?_
          refine G.irem X402 hx (pc' := 114) (hb hby at_113) (by decide) rfl ?_
          rw [hsv]
          show Goes p e below T402 (mkF m 114 #[.val (.long q0), .second, .val (.long q1), .second, .val (.long q2), .second, .val (.int p3), .val (.ref k), .val (.ref q), .unset, .unset, .unset, .unset] [(.int (Int32.ofNat ss))]) _
          refine G.istore X402 hx (pc' := 116) (hb hby at_114) (L' := #[.val (.long q0), .second, .val (.long q1), .second, .val (.long q2), .second, .val (.int p3), .val (.ref k), .val (.ref q), .val (.int (Int32.ofNat ss)), .unset, .unset, .unset]) rfl rfl ?_
          refine G.aload X402 hx (pc' := 118) (hb hby at_116) rfl rfl rfl ?_
          refine G.iload X402 hx (pc' := 120) (hb hby at_118) rfl rfl ?_
          refine G.callV X402 hx hZ (y0 := (⟨"com/example/netlocus/netlocus/PlaceQueue", "addOrRaise", "(I)V"⟩ : MethodName)) (y := (⟨"com/example/netlocus/netlocus/PlaceQueue", "addOrRaise", "(I)V"⟩ : MethodName)) hown (hw _ (List.mem_of_getElem? (i := 21) rfl)) (hw _ (List.mem_of_getElem? (i := 22) rfl)) (notFace_of_selects (args := #[]) (mvT hZ (hw _ (List.mem_of_getElem? (i := 24) rfl)))) (hw _ (List.mem_of_getElem? (i := 24) rfl)) (hw _ (List.mem_of_getElem? (i := 23) rfl)) (hw _ (List.mem_of_getElem? (i := 3) rfl)) (hw _ (List.mem_of_getElem? (i := 25) rfl)) (by decide) e402 (rm := ({ frames := 2, cells := 0, slots := 0, locals := 32 } : Room)) (argsL := [(.int (Int32.ofNat ss))]) (S := []) (W := 0) (a := q) E401_q (rm_add l Z a0 hw q a b k dl rk t5.1 t5.2.1 t5.2.2 ss t6 T401.heap E401_q Fd401 Fh401 Fi401 Fs401 Aa401 Ab401 A401_k nqa nqb nqk nab nak nbk ok5.1 ok5.2.1 hld hrk hss ok5.2.2 m6) (lenOf pd_8 rfl) rfl (Nat.le_of_eq rfl) (by decide) (by decide) (by decide) (by decide) (by rw [hml]; rfl) (hb hby at_120) (pc' := 123) rfl ?_
          rintro T403 _ L403 ⟨rfl, Kq403, Fd403, Fh403, Fi403, Fs403, Aa403, Ab403, la403, lb403⟩ X403
          have E403_q := Exa.keep E401_q Kq403.1
          have A403_k := Seq.keep A401_k Kq403.1 (ninS ne_k_q (ninS (Ne.symm nak) (ninS (Ne.symm nbk) nin0)))
          have K403 := Kp.call K401 Kq403 (allS (Or.inr sz_q) (allS (Or.inr sz_a) (allS (Or.inr sz_b) all0)))
          show Goes p e below T403 (mkF m 123 #[.val (.long q0), .second, .val (.long q1), .second, .val (.long q2), .second, .val (.int p3), .val (.ref k), .val (.ref q), .val (.int (Int32.ofNat ss)), .unset, .unset, .unset] []) _
          refine G.aload X403 hx (pc' := 125) (hb hby at_123) rfl rfl rfl ?_
          refine G.iload X403 hx (pc' := 127) (hb hby at_125) rfl rfl ?_
          refine G.iconst X403 hx (pc' := 128) (hb hby at_127) (z := (1 : Int32)) rfl rfl ?_
          refine G.iadd X403 hx (pc' := 129) (hb hby at_128) rfl ?_
          refine G.iconst X403 hx (pc' := 130) (hb hby at_129) (z := (3 : Int32)) rfl rfl ?_
          refine G.irem X403 hx (pc' := 131) (hb hby at_130) (by decide) rfl ?_
          rw [show ((Int32.ofNat ss) + (1 : Int32)) % (3 : Int32) = Int32.ofNat ((ss + 1) % 3) from own_s1 hss 1 (by decide)]
          show Goes p e below T403 (mkF m 131 #[.val (.long q0), .second, .val (.long q1), .second, .val (.long q2), .second, .val (.int p3), .val (.ref k), .val (.ref q), .val (.int (Int32.ofNat ss)), .unset, .unset, .unset] [(.int (Int32.ofNat ((ss + 1) % 3))), (.ref q)]) _
          refine G.callV X403 hx hZ (y0 := (⟨"com/example/netlocus/netlocus/PlaceQueue", "addOrRaise", "(I)V"⟩ : MethodName)) (y := (⟨"com/example/netlocus/netlocus/PlaceQueue", "addOrRaise", "(I)V"⟩ : MethodName)) hown (hw _ (List.mem_of_getElem? (i := 21) rfl)) (hw _ (List.mem_of_getElem? (i := 22) rfl)) (notFace_of_selects (args := #[]) (mvT hZ (hw _ (List.mem_of_getElem? (i := 24) rfl)))) (hw _ (List.mem_of_getElem? (i := 24) rfl)) (hw _ (List.mem_of_getElem? (i := 23) rfl)) (hw _ (List.mem_of_getElem? (i := 3) rfl)) (hw _ (List.mem_of_getElem? (i := 25) rfl)) (by decide) rfl (rm := ({ frames := 2, cells := 0, slots := 0, locals := 32 } : Room)) (argsL := [(.int (Int32.ofNat ((ss + 1) % 3)))]) (S := []) (W := 0) (a := q) E403_q (rm_add l Z a0 hw q a b k dl rk t6.1 t6.2.1 t6.2.2 ((ss + 1) % 3) t7 T403.heap E403_q Fd403 Fh403 Fi403 Fs403 Aa403 Ab403 A403_k nqa nqb nqk nab nak nbk ok6.1 ok6.2.1 hld hrk (by omega) ok6.2.2 m7) (lenOf pd_8 rfl) rfl (Nat.le_of_eq rfl) (by decide) (by decide) (by decide) (by decide) (by rw [hml]; rfl) (hb hby at_131) (pc' := 134) rfl ?_
          rintro T404 _ L404 ⟨rfl, Kq404, Fd404, Fh404, Fi404, Fs404, Aa404, Ab404, la404, lb404⟩ X404
          have E404_q := Exa.keep E403_q Kq404.1
          have A404_k := Seq.keep A403_k Kq404.1 (ninS ne_k_q (ninS (Ne.symm nak) (ninS (Ne.symm nbk) nin0)))
          have K404 := Kp.call K403 Kq404 (allS (Or.inr sz_q) (allS (Or.inr sz_a) (allS (Or.inr sz_b) all0)))
          show Goes p e below T404 (mkF m 134 #[.val (.long q0), .second, .val (.long q1), .second, .val (.long q2), .second, .val (.int p3), .val (.ref k), .val (.ref q), .val (.int (Int32.ofNat ss)), .unset, .unset, .unset] []) _
          refine G.aload X404 hx (pc' := 136) (hb hby at_134) rfl rfl rfl ?_
          refine G.iload X404 hx (pc' := 138) (hb hby at_136) rfl rfl ?_
          refine G.iconst X404 hx (pc' := 139) (hb hby at_138) (z := (2 : Int32)) rfl rfl ?_
          refine G.iadd X404 hx (pc' := 140) (hb hby at_139) rfl ?_
          refine G.iconst X404 hx (pc' := 141) (hb hby at_140) (z := (3 : Int32)) rfl rfl ?_
          refine G.irem X404 hx (pc' := 142) (hb hby at_141) (by decide) rfl ?_
          rw [show ((Int32.ofNat ss) + (2 : Int32)) % (3 : Int32) = Int32.ofNat ((ss + 2) % 3) from own_s1 hss 2 (by decide)]
          show Goes p e below T404 (mkF m 142 #[.val (.long q0), .second, .val (.long q1), .second, .val (.long q2), .second, .val (.int p3), .val (.ref k), .val (.ref q), .val (.int (Int32.ofNat ss)), .unset, .unset, .unset] [(.int (Int32.ofNat ((ss + 2) % 3))), (.ref q)]) _
          refine G.callV X404 hx hZ (y0 := (⟨"com/example/netlocus/netlocus/PlaceQueue", "addOrRaise", "(I)V"⟩ : MethodName)) (y := (⟨"com/example/netlocus/netlocus/PlaceQueue", "addOrRaise", "(I)V"⟩ : MethodName)) hown (hw _ (List.mem_of_getElem? (i := 21) rfl)) (hw _ (List.mem_of_getElem? (i := 22) rfl)) (notFace_of_selects (args := #[]) (mvT hZ (hw _ (List.mem_of_getElem? (i := 24) rfl)))) (hw _ (List.mem_of_getElem? (i := 24) rfl)) (hw _ (List.mem_of_getElem? (i := 23) rfl)) (hw _ (List.mem_of_getElem? (i := 3) rfl)) (hw _ (List.mem_of_getElem? (i := 25) rfl)) (by decide) rfl (rm := ({ frames := 2, cells := 0, slots := 0, locals := 32 } : Room)) (argsL := [(.int (Int32.ofNat ((ss + 2) % 3)))]) (S := []) (W := 0) (a := q) E404_q (rm_add l Z a0 hw q a b k dl rk t7.1 t7.2.1 t7.2.2 ((ss + 2) % 3) t8 T404.heap E404_q Fd404 Fh404 Fi404 Fs404 Aa404 Ab404 A404_k nqa nqb nqk nab nak nbk ok7.1 ok7.2.1 hld hrk (by omega) ok7.2.2 m8) (lenOf pd_8 rfl) rfl (Nat.le_of_eq rfl) (by decide) (by decide) (by decide) (by decide) (by rw [hml]; rfl) (hb hby at_142) (pc' := 145) rfl ?_
          rintro T405 _ L405 ⟨rfl, Kq405, Fd405, Fh405, Fi405, Fs405, Aa405, Ab405, la405, lb405⟩ X405
          have E405_q := Exa.keep E404_q Kq405.1
          have A405_k := Seq.keep A404_k Kq405.1 (ninS ne_k_q (ninS (Ne.symm nak) (ninS (Ne.symm nbk) nin0)))
          have K405 := Kp.call K404 Kq405 (allS (Or.inr sz_q) (allS (Or.inr sz_a) (allS (Or.inr sz_b) all0)))
          show Goes p e below T405 (mkF m 145 #[.val (.long q0), .second, .val (.long q1), .second, .val (.long q2), .second, .val (.int p3), .val (.ref k), .val (.ref q), .val (.int (Int32.ofNat ss)), .unset, .unset, .unset] []) _
          refine G.aload X405 hx (pc' := 147) (hb hby at_145) rfl rfl rfl ?_
          refine G.callS X405 hx hZ (y := (⟨"com/example/netlocus/netlocus/PlaceQueueClearPinLaw", "take", "(Lcom/example/netlocus/netlocus/PlaceQueue;)I"⟩ : MethodName)) hown (hw _ (List.mem_of_getElem? (i := 47) rfl)) (hw _ (List.mem_of_getElem? (i := 48) rfl)) (hw _ (List.mem_of_getElem? (i := 49) rfl)) (hw _ (List.mem_of_getElem? (i := 50) rfl)) (by decide) rfl (rm := ({ frames := 3, cells := 0, slots := 0, locals := 45 } : Room)) (argsL := [(.ref q)]) (S := []) (W := 0) (rm_take l Z a0 hw q a b k dl rk t8.1 t8.2.1 t8.2.2 r1 T405.heap E405_q Fd405 Fh405 Fi405 Fs405 Aa405 Ab405 A405_k nqa nqb nqk nab nak nbk ok8.1 ok8.2.1 hld hrk (by omega) (by omega) ok9.2 m9) (lenOf pd_10 rfl) rfl (Nat.le_of_eq rfl) (by decide) (by decide) (by decide) (by decide) (by rw [hml]; rfl) (hb hby at_147) (pc' := 150) rfl ?_
          rintro T406 _ L406 ⟨rfl, Kq406, Fd406, Fh406, Fi406, Fs406, Aa406, Ab406, la406, lb406⟩ X406
          have E406_q := Exa.keep E405_q Kq406.1
          have A406_k := Seq.keep A405_k Kq406.1 (ninS ne_k_q (ninS (Ne.symm nak) (ninS (Ne.symm nbk) nin0)))
          have K406 := Kp.call K405 Kq406 (allS (Or.inr sz_q) (allS (Or.inr sz_a) (allS (Or.inr sz_b) all0)))
          show Goes p e below T406 (mkF m 150 #[.val (.long q0), .second, .val (.long q1), .second, .val (.long q2), .second, .val (.int p3), .val (.ref k), .val (.ref q), .val (.int (Int32.ofNat ss)), .unset, .unset, .unset] [(.int (Int32.ofNat r1.1))]) _
          refine G.istore X406 hx (pc' := 152) (hb hby at_150) (L' := #[.val (.long q0), .second, .val (.long q1), .second, .val (.long q2), .second, .val (.int p3), .val (.ref k), .val (.ref q), .val (.int (Int32.ofNat ss)), .val (.int (Int32.ofNat r1.1)), .unset, .unset]) rfl rfl ?_
          refine G.iload X406 hx (pc' := 154) (hb hby at_152) rfl rfl ?_
          have hr13 : r1.1 < 3 := ok9.2
          refine G.ifT X406 hx (pc' := 159) (hb hby at_154) (Jvm.Free.XT.i0_ge_t (nat_nn (by omega))) (by decide) (by decide) ?_
          refine G.aload X406 hx (pc' := 161) (hb hby at_159) rfl rfl rfl ?_
          refine G.callS X406 hx hZ (y := (⟨"com/example/netlocus/netlocus/PlaceQueueClearPinLaw", "take", "(Lcom/example/netlocus/netlocus/PlaceQueue;)I"⟩ : MethodName)) hown (hw _ (List.mem_of_getElem? (i := 47) rfl)) (hw _ (List.mem_of_getElem? (i := 48) rfl)) (hw _ (List.mem_of_getElem? (i := 49) rfl)) (hw _ (List.mem_of_getElem? (i := 50) rfl)) (by decide) rfl (rm := ({ frames := 3, cells := 0, slots := 0, locals := 45 } : Room)) (argsL := [(.ref q)]) (S := []) (W := 0) (rm_take l Z a0 hw q a b k dl rk r1.2.1 r1.2.2.1 r1.2.2.2 r2 T406.heap E406_q Fd406 Fh406 Fi406 Fs406 Aa406 Ab406 A406_k nqa nqb nqk nab nak nbk ok9.1.1 ok9.1.2.1 hld hrk (by omega) (by omega) ok10.2 m10) (lenOf pd_10 rfl) rfl (Nat.le_of_eq rfl) (by decide) (by decide) (by decide) (by decide) (by rw [hml]; rfl) (hb hby at_161) (pc' := 164) rfl ?_
          rintro T407 _ L407 ⟨rfl, Kq407, Fd407, Fh407, Fi407, Fs407, Aa407, Ab407, la407, lb407⟩ X407
          have E407_q := Exa.keep E406_q Kq407.1
          have A407_k := Seq.keep A406_k Kq407.1 (ninS ne_k_q (ninS (Ne.symm nak) (ninS (Ne.symm nbk) nin0)))
          have K407 := Kp.call K406 Kq407 (allS (Or.inr sz_q) (allS (Or.inr sz_a) (allS (Or.inr sz_b) all0)))
          show Goes p e below T407 (mkF m 164 #[.val (.long q0), .second, .val (.long q1), .second, .val (.long q2), .second, .val (.int p3), .val (.ref k), .val (.ref q), .val (.int (Int32.ofNat ss)), .val (.int (Int32.ofNat r1.1)), .unset, .unset] [(.int (Int32.ofNat r2.1))]) _
          refine G.istore X407 hx (pc' := 166) (hb hby at_164) (L' := #[.val (.long q0), .second, .val (.long q1), .second, .val (.long q2), .second, .val (.int p3), .val (.ref k), .val (.ref q), .val (.int (Int32.ofNat ss)), .val (.int (Int32.ofNat r1.1)), .val (.int (Int32.ofNat r2.1)), .unset]) rfl rfl ?_
          refine G.iload X407 hx (pc' := 168) (hb hby at_166) rfl rfl ?_
          have hr23 : r2.1 < 3 := ok10.2
          refine G.ifT X407 hx (pc' := 173) (hb hby at_168) (Jvm.Free.XT.i0_ge_t (nat_nn (by omega))) (by decide) (by decide) ?_
          refine G.aload X407 hx (pc' := 175) (hb hby at_173) rfl rfl rfl ?_
          refine G.callS X407 hx hZ (y := (⟨"com/example/netlocus/netlocus/PlaceQueueClearPinLaw", "take", "(Lcom/example/netlocus/netlocus/PlaceQueue;)I"⟩ : MethodName)) hown (hw _ (List.mem_of_getElem? (i := 47) rfl)) (hw _ (List.mem_of_getElem? (i := 48) rfl)) (hw _ (List.mem_of_getElem? (i := 49) rfl)) (hw _ (List.mem_of_getElem? (i := 50) rfl)) (by decide) rfl (rm := ({ frames := 3, cells := 0, slots := 0, locals := 45 } : Room)) (argsL := [(.ref q)]) (S := []) (W := 0) (rm_take l Z a0 hw q a b k dl rk r2.2.1 r2.2.2.1 r2.2.2.2 r3 T407.heap E407_q Fd407 Fh407 Fi407 Fs407 Aa407 Ab407 A407_k nqa nqb nqk nab nak nbk ok10.1.1 ok10.1.2.1 hld hrk (by omega) (by omega) ok11.2 m11) (lenOf pd_10 rfl) rfl (Nat.le_of_eq rfl) (by decide) (by decide) (by decide) (by decide) (by rw [hml]; rfl) (hb hby at_175) (pc' := 178) rfl ?_
          rintro T408 _ L408 ⟨rfl, Kq408, Fd408, Fh408, Fi408, Fs408, Aa408, Ab408, la408, lb408⟩ X408
          have E408_q := Exa.keep E407_q Kq408.1
          have A408_k := Seq.keep A407_k Kq408.1 (ninS ne_k_q (ninS (Ne.symm nak) (ninS (Ne.symm nbk) nin0)))
          have K408 := Kp.call K407 Kq408 (allS (Or.inr sz_q) (allS (Or.inr sz_a) (allS (Or.inr sz_b) all0)))
          show Goes p e below T408 (mkF m 178 #[.val (.long q0), .second, .val (.long q1), .second, .val (.long q2), .second, .val (.int p3), .val (.ref k), .val (.ref q), .val (.int (Int32.ofNat ss)), .val (.int (Int32.ofNat r1.1)), .val (.int (Int32.ofNat r2.1)), .unset] [(.int (Int32.ofNat r3.1))]) _
          refine G.istore X408 hx (pc' := 180) (hb hby at_178) (L' := #[.val (.long q0), .second, .val (.long q1), .second, .val (.long q2), .second, .val (.int p3), .val (.ref k), .val (.ref q), .val (.int (Int32.ofNat ss)), .val (.int (Int32.ofNat r1.1)), .val (.int (Int32.ofNat r2.1)), .val (.int (Int32.ofNat r3.1))]) rfl rfl ?_
          refine G.iload X408 hx (pc' := 182) (hb hby at_180) rfl rfl ?_
          have hr33 : r3.1 < 3 := ok11.2
          refine G.ifT X408 hx (pc' := 187) (hb hby at_182) (Jvm.Free.XT.i0_ge_t (nat_nn (by omega))) (by decide) (by decide) ?_
          refine G.iload X408 hx (pc' := 189) (hb hby at_187) rfl rfl ?_
          refine G.iload X408 hx (pc' := 191) (hb hby at_189) rfl rfl ?_
          refine G.icmpF X408 hx (pc' := 194) (hb hby at_191) (Jvm.Free.XT.ii_eq_f (fun z => dist.1 ((nat_eq (by omega) (by omega)).mp z))) rfl ?_
          refine G.iload X408 hx (pc' := 196) (hb hby at_194) rfl rfl ?_
          refine G.iload X408 hx (pc' := 198) (hb hby at_196) rfl rfl ?_
          refine G.icmpF X408 hx (pc' := 201) (hb hby at_198) (Jvm.Free.XT.ii_eq_f (fun z => dist.2.1 ((nat_eq (by omega) (by omega)).mp z))) rfl ?_
          refine G.iload X408 hx (pc' := 203) (hb hby at_201) rfl rfl ?_
          refine G.iload X408 hx (pc' := 205) (hb hby at_203) rfl rfl ?_
          refine G.icmpT X408 hx (pc' := 210) (hb hby at_205) (Jvm.Free.XT.ii_ne_t (fun z => dist.2.2.1 ((nat_eq (by omega) (by omega)).mp z))) (by decide) (by decide) ?_
          refine G.aload X408 hx (pc' := 212) (hb hby at_210) rfl rfl rfl ?_
          refine G.iload X408 hx (pc' := 214) (hb hby at_212) rfl rfl ?_
          refine G.laload X408 hx hZ rfl A408_k (pc' := 215) (v := (.long (dl.getD r1.1 0))) (hb hby at_214) (nat_nn (by omega)) (dist_at hld r1.1 hr13) rfl ?_
          refine G.aload X408 hx (pc' := 217) (hb hby at_215) rfl rfl rfl ?_
          refine G.iload X408 hx (pc' := 219) (hb hby at_217) rfl rfl ?_
          refine G.laload X408 hx hZ rfl A408_k (pc' := 220) (v := (.long (dl.getD r2.1 0))) (hb hby at_219) (nat_nn (by omega)) (dist_at hld r2.1 hr23) rfl ?_
          refine G.lcmp X408 hx (pc' := 221) (hb hby at_220) rfl ?_
          refine G.ifF X408 hx (pc' := 224) (hb hby at_221) (Jvm.Free.XT.ll_gt_f (fun z => dist.2.2.2.1 ((hrk _ _ hr23 hr13).mp z))) rfl ?_
          refine G.aload X408 hx (pc' := 226) (hb hby at_224) rfl rfl rfl ?_
          refine G.iload X408 hx (pc' := 228) (hb hby at_226) rfl rfl ?_
          refine G.laload X408 hx hZ rfl A408_k (pc' := 229) (v := (.long (dl.getD r2.1 0))) (hb hby at_228) (nat_nn (by omega)) (dist_at hld r2.1 hr23) rfl ?_
          refine G.aload X408 hx (pc' := 231) (hb hby at_229) rfl rfl rfl ?_
          refine G.iload X408 hx (pc' := 233) (hb hby at_231) rfl rfl ?_
          refine G.laload X408 hx hZ rfl A408_k (pc' := 234) (v := (.long (dl.getD r3.1 0))) (hb hby at_233) (nat_nn (by omega)) (dist_at hld r3.1 hr33) rfl ?_
          refine G.lcmp X408 hx (pc' := 235) (hb hby at_234) rfl ?_
          refine G.ifT X408 hx (pc' := 240) (hb hby at_235) (Jvm.Free.XT.ll_le_t (fun z => dist.2.2.2.2 ((hrk _ _ hr33 hr23).mp z))) (by decide) (by decide) ?_
          refine G.aload X408 hx (pc' := 242) (hb hby at_240) rfl rfl rfl ?_
          refine G.callV X408 hx hZ (y0 := (⟨"com/example/netlocus/netlocus/PlaceQueue", "isEmpty", "()Z"⟩ : MethodName)) (y := (⟨"com/example/netlocus/netlocus/PlaceQueue", "isEmpty", "()Z"⟩ : MethodName)) hown (hw _ (List.mem_of_getElem? (i := 41) rfl)) (hw _ (List.mem_of_getElem? (i := 42) rfl)) (notFace_of_selects (args := #[]) (mvT hZ (hw _ (List.mem_of_getElem? (i := 44) rfl)))) (hw _ (List.mem_of_getElem? (i := 44) rfl)) (hw _ (List.mem_of_getElem? (i := 43) rfl)) (hw _ (List.mem_of_getElem? (i := 3) rfl)) (hw _ (List.mem_of_getElem? (i := 45) rfl)) (by decide) rfl (rm := ({ frames := 0, cells := 0, slots := 0, locals := 0 } : Room)) (argsL := []) (S := []) (W := 0) (a := q) E408_q (rm_emp l Z a0 hw q r3.2.2.2 T408.heap Fs408 (by omega)) (lenOf pd_2 rfl) rfl (Nat.le_of_eq rfl) (by decide) (by decide) (by decide) (by decide) (by rw [hml]; rfl) (hb hby at_242) (pc' := 245) rfl ?_
          rintro T409 _ _ ⟨rfl, e409, rfl⟩ X409
          rw [List.append_nil] at X409
          show Goes p e below T409 (mkF m 245 #[.val (.long q0), .second, .val (.long q1), .second, .val (.long q2), .second, .val (.int p3), .val (.ref k), .val (.ref q), .val (.int (Int32.ofNat ss)), .val (.int (Int32.ofNat r1.1)), .val (.int (Int32.ofNat r2.1)), .val (.int (Int32.ofNat r3.1))] [(.int (if r3.2.2.2 = 0 then (1 : Int32) else (0 : Int32)))]) _
          rw [if_pos z3]
          refine Goes.retN X409 hx hret (by simp) hlk (hb hby at_245) (by decide) (by decide) ⟨rfl, K408.fr⟩
set_option maxRecDepth 65536 in
set_option maxHeartbeats 40000000 in
theorem comes_1 {Post : Tables → Env → Array Value → State → Outcome → State → Prop} (hpost : ∀ tb e args s v u, (limb_1_1.after args s (.returned v) u = true ∧ limb_1_2.after args s (.returned v) u = true ∧ True) → FrameEnd s (.returned v) u (Jvm.fieldLocs frame_1_writes args s ++ Jvm.arrayLocs frame_1_arrays args s ++ Jvm.staticLocs frame_1_statics s) 16 128 → Post tb e args s (.returned v) u) :
    ArmFor flags0 classFile x code maxLocals ret World_1 tables_1 room_1 Calls_1 rest_1 Pre_1 Post := by
  intro l hfl _ _ p e ha hc hk s m args below hf hA hF happ hP
  obtain ⟨hcalls, hrest, hpre⟩ := hP
  obtain ⟨-, -, -, hnamed, -, -, -, hat⟩ := (Spec.applies_iff hf).mp happ
  obtain ⟨hg, hn⟩ := and_e (Cond.before_iff.mp (show (Jvm.Cond.and given_1 narrow_1).before args s = true from hpre))
  obtain ⟨hg0, hg1⟩ := and_e hg
  obtain ⟨hb1, hg2⟩ := and_e hg1
  obtain ⟨hb2, hg3⟩ := and_e hg2
  obtain ⟨hb3, hg4⟩ := and_e hg3
  obtain ⟨w0, w1, w2, w3, rfl⟩ : ∃ w0 w1 w2 w3 : Value, args = #[w0, w1, w2, w3] := by
    have hs : args.size = 4 := by simpa [Cond.value, given_1] using hg0
    obtain ⟨L⟩ := args
    match L, hs with
    | [w0, w1, w2, w3], _ => exact ⟨w0, w1, w2, w3, rfl⟩
  have hw := fun d (hd : d ∈ tables_1) => atoms_spec (ws := Jvm.Cond.code x code maxLocals ret :: tables_1) hat d (List.mem_cons_of_mem _ hd)
  have hfit : Fit s := fun {y c} hc i hi => by
    obtain ⟨ha, rfl⟩ := Array.getElem?_eq_some_iff.mp hc
    have q := List.all_eq_true.mp ((Array.all_eq_true_iff_forall_mem.mp hF) _ (Array.getElem_mem ha)) i (List.mem_range.mpr hi)
    simpa [Array.getElem?_eq_getElem hi] using q
  obtain ⟨i0, ea0⟩ := isL_v hb1
  obtain rfl : w0 = (.long i0) := Option.some.inj ea0
  obtain ⟨i1, ea1⟩ := isL_v hb2
  obtain rfl : w1 = (.long i1) := Option.some.inj ea1
  obtain ⟨i2, ea2⟩ := isL_v hb3
  obtain rfl : w2 = (.long i2) := Option.some.inj ea2
  obtain ⟨i3, ea3⟩ := is_v hg4
  obtain rfl : w3 = (.int i3) := Option.some.inj ea3
  obtain ⟨n, o, h1, h2, h3, _, L, rfl, ⟨rfl, N⟩, hq⟩ := rm0 l s _ hw i0 i1 i2 i3 s.heap tables_1 p e ha hc hk s m _ below hf ((Spec.applies_iff_loose hf).mp happ).1 ⟨rfl, State.Warmed39.refl s, rfl⟩ trivial
  refine ⟨n, _, h1, h2, h3, hpost _ _ _ _ _ _ ⟨Cond.after_iff.mpr rfl, Cond.after_iff.mpr (eq_i res_at (Term.int_eval (1)) rfl), trivial⟩ ⟨hq.1, hq.2.1, (hq.2.2.sift fun y hy => Or.inr (N y hy)).mono (by decide) (by decide)⟩⟩
theorem main_1_1 : Claimed_1_1 := comes_1 fun _ _ _ _ _ _ h hF => ⟨h.1, hF⟩
theorem main_1_2 : Claimed_1_2 := comes_1 fun _ _ _ _ _ _ h hF => ⟨h.2.1, hF⟩

end Jvm.Pilot.@@N@@
namespace Jvm.Pilot.@@N@@
open Jvm Jvm.ClassFile Sem Op Lib Jvm.Free Jvm.Stand Jvm.Pilot.@@N@@.Jvm.D
/-! MADE BY PROGRAM (witnessworld.py) out of the Statement's table words and the real class files: 13 classes; the members and pool entries that the words name. The judged class is class 1, her method 1. -/
namespace start1
open Jvm.ClassFile
def u (s : String) : CpInfo := .utf8 (stringToUtf16 s)
/-- a pool by its gaps: so many unusable entries, then the entry; so many at the end -/
def gap : Nat → List CpInfo → List CpInfo
  | 0, r => r
  | n + 1, r => .unusable :: gap n r
def poolList (es : List (Nat × CpInfo)) (last : Nat) : List CpInfo := es.foldr (fun e r => gap e.1 (e.2 :: r)) (gap last [])
def pool (es : List (Nat × CpInfo)) (last : Nat) : Array CpInfo := ⟨poolList es last⟩
def fileOf (pool : Array CpInfo) (this : Nat) (attrs : Array Attribute := #[]) (ms : Array MethodInfo := #[]) (fl : Nat := 33) (sup : Nat := 0) (ifs : Array Nat := #[]) (fds : Array FieldInfo := #[]) : ClassFile where
  minorVersion := 0
  majorVersion := 65
  constantPool := pool
  accessFlags := fl
  thisClass := this
  superClass := sup
  interfaces := ifs
  fields := fds
  methods := ms
  attributes := attrs
def plain (name : String) (sup : Option ClassId) : Class where
  name := name
  kind := .ordinary
  loader := none
  accessFlags := 33
  super := sup
  interfaces := #[]
  cf := none
  fields := #[]
  methods := #[]
  instanceTypes := #[]
  staticTypes := #[]
  resolved := #[]
  callSites := []
  init := .initialized
  statics := none
  mirror := none

def pool0 : Array CpInfo := pool [(5, u "<init>"), (0, u "()V"), (1, .class_ 10), (1, u "java/lang/Object")] 113

def k0c0 : Code := { maxStack := 0, maxLocals := 1, code := object_method_1_code, exceptionTable := #[], attributes := #[] }
def k0m0 : Method := { name := "<init>", desc := "()V", sig := { parameters := [], returnType := none }, accessFlags := 1, code := some k0c0 }
/-- java/lang/Object -/
def k0 : Class := { plain "java/lang/Object" none with
  accessFlags := 33
  interfaces := #[]
  cf := some (fileOf pool0 8 #[] #[{ accessFlags := 1, nameIndex := 5, descriptorIndex := 6, attributes := #[] }] 33 0 #[] #[])
  fields := #[]
  methods := #[k0m0]
  instanceTypes := #[]
  staticTypes := #[]
  resolved := Array.replicate 124 none
  statics := none }

def pool1 : Array CpInfo := pool [(2, .class_ 4), (1, u "java/lang/Object"), (0, u "<init>"), (0, u "()V"), (0, .class_ 8), (0, u "com/example/netlocus/netlocus/PlaceQueue"), (0, .methodref 7 10), (0, .nameAndType 5 11), (0, u "([J)V"), (0, .methodref 7 13), (0, .nameAndType 14 15), (0, u "addOrRaise"), (0, u "(I)V"), (0, .methodref 7 17), (0, .nameAndType 18 19), (0, u "removeNearest"), (0, u "()I"), (0, .methodref 7 21), (0, .nameAndType 22 6), (0, u "clear"), (0, .methodref 7 24), (0, .nameAndType 25 26), (0, u "isEmpty"), (0, u "()Z"), (0, .integer 2147483647), (0, .methodref 29 30), (0, .class_ 31), (0, .nameAndType 32 33), (0, u "com/example/netlocus/netlocus/PlaceQueueClearPinLaw"), (0, u "take"), (0, u "(Lcom/example/netlocus/netlocus/PlaceQueue;)I"), (2, u "law"), (0, u "(JJJI)Z")] 5

def k1m0 : Method := { name := "<init>", desc := "()V", sig := { parameters := [], returnType := none }, accessFlags := 1, code := none }
def k1c1 : Code := { maxStack := 5, maxLocals := 13, code := code, exceptionTable := #[], attributes := #[] }
def k1m1 : Method := { name := "law", desc := "(JJJI)Z", sig := { parameters := [.long, .long, .long, .int], returnType := some .boolean }, accessFlags := 9, code := some k1c1 }
def k1c2 : Code := { maxStack := 2, maxLocals := 2, code := method_3_code, exceptionTable := #[], attributes := #[] }
def k1m2 : Method := { name := "take", desc := "(Lcom/example/netlocus/netlocus/PlaceQueue;)I", sig := { parameters := [(.object "com/example/netlocus/netlocus/PlaceQueue")], returnType := some .int }, accessFlags := 10, code := some k1c2 }
/-- com/example/netlocus/netlocus/PlaceQueueClearPinLaw -/
def k1 : Class := { plain "com/example/netlocus/netlocus/PlaceQueueClearPinLaw" (some 0) with
  accessFlags := 49
  interfaces := #[]
  cf := some (fileOf pool1 29 #[] #[{ accessFlags := 1, nameIndex := 5, descriptorIndex := 6, attributes := #[] }, { accessFlags := 9, nameIndex := 36, descriptorIndex := 37, attributes := #[] }, { accessFlags := 10, nameIndex := 32, descriptorIndex := 33, attributes := #[] }] 49 2 #[] #[])
  fields := #[]
  methods := #[k1m0, k1m1, k1m2]
  instanceTypes := #[]
  staticTypes := #[]
  resolved := Array.replicate 43 none
  statics := none }

def pool2 : Array CpInfo := pool [(1, .class_ 2), (0, u "com/example/netlocus/netlocus/Frontier"), (0, .class_ 4), (0, u "java/lang/Object"), (0, u "EMPTY"), (0, u "Ljava/lang/String;")] 11

/-- com/example/netlocus/netlocus/Frontier -/
def k2 : Class := { plain "com/example/netlocus/netlocus/Frontier" (some 0) with
  accessFlags := 1536
  interfaces := #[]
  cf := some (fileOf pool2 1 #[] #[] 1536 3 #[] #[{ accessFlags := 25, nameIndex := 5, descriptorIndex := 6, attributes := #[] }])
  fields := #[{ name := "EMPTY", type := (.object "java/lang/String"), accessFlags := 25, slot := 0, constantValue := 0 }]
  methods := #[]
  instanceTypes := #[]
  staticTypes := #[(.object "java/lang/String")]
  resolved := Array.replicate 18 none
  statics := none }

def pool3 : Array CpInfo := pool [(1, .methodref 2 3), (0, .class_ 4), (0, .nameAndType 5 6), (0, u "java/lang/Object"), (0, u "<init>"), (0, u "()V"), (0, .fieldref 8 9), (0, .class_ 10), (0, .nameAndType 11 12), (0, u "com/example/netlocus/netlocus/PlaceQueue"), (0, u "distances"), (0, u "[J"), (0, .fieldref 8 14), (0, .nameAndType 15 16), (0, u "heap"), (0, u "[I"), (0, .fieldref 8 18), (0, .nameAndType 19 16), (0, u "index"), (0, .methodref 21 22), (0, .class_ 23), (0, .nameAndType 24 25), (0, u "java/util/Arrays"), (0, u "fill"), (0, u "([II)V"), (0, .fieldref 8 27), (0, .nameAndType 28 29), (0, u "size"), (0, u "I"), (0, .methodref 8 31), (0, .nameAndType 32 33), (0, u "siftUp"), (0, u "(II)V"), (2, .class_ 37), (0, u "com/example/netlocus/netlocus/Frontier"), (5, .methodref 8 44), (0, .nameAndType 45 33), (0, u "siftDown"), (0, .methodref 8 47), (0, .nameAndType 48 33), (0, u "put"), (0, u "([J)V"), (2, u "clear"), (1, u "isEmpty"), (0, u "()Z"), (0, u "addOrRaise"), (0, u "(I)V"), (0, u "removeNearest"), (0, u "()I")] 2

def k3c0 : Code := { maxStack := 2, maxLocals := 2, code := prog_48_method_1_code, exceptionTable := #[], attributes := #[] }
def k3m0 : Method := { name := "<init>", desc := "([J)V", sig := { parameters := [(.array .long)], returnType := none }, accessFlags := 0, code := some k3c0 }
def k3c1 : Code := { maxStack := 3, maxLocals := 2, code := prog_48_method_2_code, exceptionTable := #[], attributes := #[] }
def k3m1 : Method := { name := "clear", desc := "()V", sig := { parameters := [], returnType := none }, accessFlags := 0, code := some k3c1 }
def k3c2 : Code := { maxStack := 1, maxLocals := 1, code := prog_48_method_3_code, exceptionTable := #[], attributes := #[] }
def k3m2 : Method := { name := "isEmpty", desc := "()Z", sig := { parameters := [], returnType := some .boolean }, accessFlags := 1, code := some k3c2 }
def k3c3 : Code := { maxStack := 3, maxLocals := 3, code := prog_48_method_4_code, exceptionTable := #[], attributes := #[] }
def k3m3 : Method := { name := "addOrRaise", desc := "(I)V", sig := { parameters := [.int], returnType := none }, accessFlags := 1, code := some k3c3 }
def k3c4 : Code := { maxStack := 3, maxLocals := 2, code := prog_48_method_5_code, exceptionTable := #[], attributes := #[] }
def k3m4 : Method := { name := "removeNearest", desc := "()I", sig := { parameters := [], returnType := some .int }, accessFlags := 1, code := some k3c4 }
def k3c5 : Code := { maxStack := 4, maxLocals := 7, code := prog_48_method_6_code, exceptionTable := #[], attributes := #[] }
def k3m5 : Method := { name := "siftUp", desc := "(II)V", sig := { parameters := [.int, .int], returnType := none }, accessFlags := 2, code := some k3c5 }
def k3c6 : Code := { maxStack := 5, maxLocals := 7, code := prog_48_method_7_code, exceptionTable := #[], attributes := #[] }
def k3m6 : Method := { name := "siftDown", desc := "(II)V", sig := { parameters := [.int, .int], returnType := none }, accessFlags := 2, code := some k3c6 }
def k3c7 : Code := { maxStack := 3, maxLocals := 3, code := prog_48_method_8_code, exceptionTable := #[], attributes := #[] }
def k3m7 : Method := { name := "put", desc := "(II)V", sig := { parameters := [.int, .int], returnType := none }, accessFlags := 2, code := some k3c7 }
/-- com/example/netlocus/netlocus/PlaceQueue -/
def k3 : Class := { plain "com/example/netlocus/netlocus/PlaceQueue" (some 0) with
  accessFlags := 48
  interfaces := #[2]
  cf := some (fileOf pool3 8 #[] #[{ accessFlags := 0, nameIndex := 5, descriptorIndex := 49, attributes := #[] }, { accessFlags := 0, nameIndex := 52, descriptorIndex := 6, attributes := #[] }, { accessFlags := 1, nameIndex := 54, descriptorIndex := 55, attributes := #[] }, { accessFlags := 1, nameIndex := 56, descriptorIndex := 57, attributes := #[] }, { accessFlags := 1, nameIndex := 58, descriptorIndex := 59, attributes := #[] }, { accessFlags := 2, nameIndex := 32, descriptorIndex := 33, attributes := #[] }, { accessFlags := 2, nameIndex := 45, descriptorIndex := 33, attributes := #[] }, { accessFlags := 2, nameIndex := 48, descriptorIndex := 33, attributes := #[] }] 48 2 #[36] #[{ accessFlags := 18, nameIndex := 11, descriptorIndex := 12, attributes := #[] }, { accessFlags := 18, nameIndex := 15, descriptorIndex := 16, attributes := #[] }, { accessFlags := 18, nameIndex := 19, descriptorIndex := 16, attributes := #[] }, { accessFlags := 2, nameIndex := 28, descriptorIndex := 29, attributes := #[] }])
  fields := #[{ name := "distances", type := (.array .long), accessFlags := 18, slot := 0, constantValue := 0 }, { name := "heap", type := (.array .int), accessFlags := 18, slot := 1, constantValue := 0 }, { name := "index", type := (.array .int), accessFlags := 18, slot := 2, constantValue := 0 }, { name := "size", type := .int, accessFlags := 2, slot := 3, constantValue := 0 }]
  methods := #[k3m0, k3m1, k3m2, k3m3, k3m4, k3m5, k3m6, k3m7]
  instanceTypes := #[(.array .long), (.array .int), (.array .int), .int]
  staticTypes := #[]
  resolved := Array.replicate 62 none
  statics := none }

def pool4 : Array CpInfo := pool [(2, .class_ 4), (1, u "java/lang/Object"), (0, u "<init>"), (0, u "()V"), (7, .class_ 16), (1, u "java/util/Arrays"), (57, .class_ 76), (1, u "java/util/Arrays$NaturalOrder"), (36, .class_ 115), (1, u "java/util/Arrays$LegacyMergeSort"), (1, u "Z"), (257, .class_ 376), (0, u "java/util/Arrays$ArrayList"), (68, u "$assertionsDisabled"), (269, u "MIN_ARRAY_SORT_GRAN"), (0, u "I"), (2, u "INSERTIONSORT_THRESHOLD"), (120, u "fill"), (4, u "([II)V"), (129, .class_ 976), (0, u "java/util/Arrays$ArrayItr")] 52

def k4m0 : Method := { name := "<init>", desc := "()V", sig := { parameters := [], returnType := none }, accessFlags := 2, code := none }
def k4c1 : Code := { maxStack := 3, maxLocals := 4, code := jdk_65_method_103_code, exceptionTable := #[], attributes := #[] }
def k4m1 : Method := { name := "fill", desc := "([II)V", sig := { parameters := [(.array .int), .int], returnType := none }, accessFlags := 9, code := some k4c1 }
/-- java/util/Arrays -/
def k4 : Class := { plain "java/util/Arrays" (some 0) with
  accessFlags := 49
  interfaces := #[]
  cf := some (fileOf pool4 14 #[.nestMembers #[975, 375, 113, 74]] #[{ accessFlags := 2, nameIndex := 5, descriptorIndex := 6, attributes := #[] }, { accessFlags := 9, nameIndex := 840, descriptorIndex := 845, attributes := #[] }] 49 2 #[] #[{ accessFlags := 26, nameIndex := 715, descriptorIndex := 716, attributes := #[] }, { accessFlags := 26, nameIndex := 719, descriptorIndex := 716, attributes := #[] }, { accessFlags := 4120, nameIndex := 445, descriptorIndex := 117, attributes := #[] }])
  fields := #[{ name := "MIN_ARRAY_SORT_GRAN", type := .int, accessFlags := 26, slot := 0, constantValue := 0 }, { name := "INSERTIONSORT_THRESHOLD", type := .int, accessFlags := 26, slot := 1, constantValue := 0 }, { name := "$assertionsDisabled", type := .boolean, accessFlags := 4120, slot := 2, constantValue := 0 }]
  methods := #[k4m0, k4m1]
  instanceTypes := #[]
  staticTypes := #[.int, .int, .boolean]
  resolved := Array.replicate 1029 none
  statics := none }

def pool5 : Array CpInfo := pool [(1, u "java/lang/Cloneable"), (0, .class_ 1), (0, u "java/lang/Object"), (0, .class_ 3)] 3

/-- java/lang/Cloneable -/
def k5 : Class := { plain "java/lang/Cloneable" (some 0) with
  accessFlags := 1537
  interfaces := #[]
  cf := some (fileOf pool5 2 #[] #[] 1537 4 #[] #[])
  fields := #[]
  methods := #[]
  instanceTypes := #[]
  staticTypes := #[]
  resolved := Array.replicate 8 none
  statics := none }

def pool6 : Array CpInfo := pool [(1, u "java/io/Serializable"), (0, .class_ 1), (0, u "java/lang/Object"), (0, .class_ 3)] 3

/-- java/io/Serializable -/
def k6 : Class := { plain "java/io/Serializable" (some 0) with
  accessFlags := 1537
  interfaces := #[]
  cf := some (fileOf pool6 2 #[] #[] 1537 4 #[] #[])
  fields := #[]
  methods := #[]
  instanceTypes := #[]
  staticTypes := #[]
  resolved := Array.replicate 8 none
  statics := none }

/-- the primitive byte -/
def k7 : Class := { plain "byte" none with kind := .primitive 'B', accessFlags := 0x411 }
/-- [B -/
def k8 : Class := { plain "[B" (some 0) with kind := .array 7 .byte, interfaces := #[5, 6], accessFlags := 1041 }

/-- the primitive int -/
def k9 : Class := { plain "int" none with kind := .primitive 'I', accessFlags := 0x411 }
/-- [I -/
def k10 : Class := { plain "[I" (some 0) with kind := .array 9 .int, interfaces := #[5, 6], accessFlags := 1041 }

/-- the primitive long -/
def k11 : Class := { plain "long" none with kind := .primitive 'J', accessFlags := 0x411 }
/-- [J -/
def k12 : Class := { plain "[J" (some 0) with kind := .array 11 .long, interfaces := #[5, 6], accessFlags := 1041 }

def heap : Heap := #[]
def classes : Array Class := #[k0, k1, k2, k3, k4, k5, k6, k7, k8, k9, k10, k11, k12]
def interned : List (Array UInt16 × Addr) := []
def slotsUsed : Nat := 0
def theMethod : MethodId := ⟨1, 1⟩
def args0 : Array Value := #[.long 5, .long 3, .long 7, .int 31]
def aboutOver (below : List Frame) : State where
  vm := { classes := classes, interned := interned.toArray }
  heap := heap
  slotsUsed := slotsUsed
  threads := #[{ frames := .invoking theMethod args0 :: below }]
def below0 : List Frame := [.native { method := ⟨0, 0⟩, args := #[] }]
def about1 : State := aboutOver below0
def p0 : Program := .bare "" "" ""
def e0 : Env := launch0.env 0 0 0
theorem w_frames : about1.frames = Frame.invoking theMethod args0 :: below0 := rfl
set_option maxRecDepth 65536 in
theorem w_args : argsFit about1.vm theMethod args0 = true := by decide +kernel
set_option maxRecDepth 65536 in
theorem w_heap : heapFits about1 = true := by decide +kernel
set_option maxRecDepth 65536 in
theorem w_runnable : about1.curStatus? = some .runnable := by decide +kernel
set_option maxRecDepth 65536 in
theorem w_alone : about1.alone = true := by decide +kernel
set_option maxRecDepth 65536 in
theorem w_named : about1.methodNamed? x = some theMethod := by decide +kernel
set_option maxRecDepth 65536 in
theorem w_hears : about1.hears theMethod below0 = true := by decide +kernel
set_option maxRecDepth 65536 in
theorem w_ripe : about1.ripe theMethod args0 below0 = true := by decide +kernel
theorem w_running : about1.status = .running := rfl
set_option maxRecDepth 65536 in
theorem w_room : about1.hasRoom e0.platform room_1 = true :=
  launch0.hasRoom_least _ room_1 (by decide +kernel) (by decide +kernel) (by decide +kernel) (by decide +kernel) (by decide +kernel) (by decide +kernel)
theorem allAtoms_all (ts : List Jvm.Cond) (a : Array Jvm.Value) (st : Jvm.State) : (allAtoms ts).before a st = ts.all (fun c => c.before a st) := by
  induction ts with
  | nil => rfl
  | cons c t ih =>
    show (Jvm.Cond.and c (allAtoms t)).before a st = _
    rw [Jvm.Cond.before_and, ih, List.all_cons]
def words1 : List Jvm.Cond := Jvm.Cond.code x code maxLocals ret :: tables_1
/-- a 'code' word, met by the world's own term for the bytes: nothing is compared byte by byte -/
theorem code_word {y : MethodName} {bytes : ByteArray} {mx : Nat} {rt : Option FieldType} {a : Array Value} {s : State} {m : MethodId} {meth : Method} {c : Code} (h1 : s.methodNamed? y = some m) (h2 : s.vm.method? m = some meth) (h3 : meth.code = some c) (h4 : c.code = bytes)
    (h5 : (c.maxLocals == mx && c.exceptionTable.isEmpty && decide (c.maxStack ≤ mostOperands) && decide (meth.sig.returnType = rt) && !meth.locks && decide (parseMethodDescriptor y.desc = some meth.sig)) = true) : (Jvm.Cond.code y bytes mx rt).before a s = true := by
  simp only [Bool.and_eq_true, beq_iff_eq, Bool.not_eq_true', decide_eq_true_eq] at h5
  obtain ⟨⟨⟨⟨⟨g1, g2⟩, g3⟩, g4⟩, g5⟩, g6⟩ := h5
  simp [Cond.before, Cond.holds, Cond.value, h1, h2, h3, h4, g1, g2, g3, g4, g5, g6]
def isCode : Jvm.Cond → Bool
  | .code _ _ _ _ => true
  | _ => false
theorem all_split {L : List Jvm.Cond} {P : Jvm.Cond → Bool} (h1 : L.all (fun c => isCode c || P c) = true) (h2 : ∀ c ∈ L.filter isCode, P c = true) : L.all P = true := by
  refine List.all_eq_true.mpr fun c hc => ?_
  have h := List.all_eq_true.mp h1 c hc
  rcases Bool.eq_false_or_eq_true (isCode c) with hi | hi
  · exact h2 c (List.mem_filter.mpr ⟨hc, hi⟩)
  · simpa [hi] using h
set_option maxRecDepth 65536 in
theorem w_c0 : (Jvm.Cond.code x code maxLocals ret).before args0 about1 = true := code_word (m := ⟨1, 1⟩) (meth := k1m1) (c := k1c1) (by decide +kernel) rfl rfl rfl (by decide +kernel)
set_option maxRecDepth 65536 in
theorem w_c1 : (Jvm.Cond.code ({ cls := "com/example/netlocus/netlocus/PlaceQueue", name := "<init>", desc := "([J)V" } : Jvm.MethodName) prog_48_method_1_code (2 : Nat) (Option.none : Option Jvm.ClassFile.FieldType)).before args0 about1 = true := code_word (m := ⟨3, 0⟩) (meth := k3m0) (c := k3c0) (by decide +kernel) rfl rfl rfl (by decide +kernel)
set_option maxRecDepth 65536 in
theorem w_c2 : (Jvm.Cond.code ({ cls := "java/lang/Object", name := "<init>", desc := "()V" } : Jvm.MethodName) object_method_1_code (1 : Nat) (Option.none : Option Jvm.ClassFile.FieldType)).before args0 about1 = true := code_word (m := ⟨0, 0⟩) (meth := k0m0) (c := k0c0) (by decide +kernel) rfl rfl rfl (by decide +kernel)
set_option maxRecDepth 65536 in
theorem w_c3 : (Jvm.Cond.code ({ cls := "java/util/Arrays", name := "fill", desc := "([II)V" } : Jvm.MethodName) jdk_65_method_103_code (4 : Nat) (Option.none : Option Jvm.ClassFile.FieldType)).before args0 about1 = true := code_word (m := ⟨4, 1⟩) (meth := k4m1) (c := k4c1) (by decide +kernel) rfl rfl rfl (by decide +kernel)
set_option maxRecDepth 65536 in
theorem w_c4 : (Jvm.Cond.code ({ cls := "com/example/netlocus/netlocus/PlaceQueue", name := "addOrRaise", desc := "(I)V" } : Jvm.MethodName) prog_48_method_4_code (3 : Nat) (Option.none : Option Jvm.ClassFile.FieldType)).before args0 about1 = true := code_word (m := ⟨3, 3⟩) (meth := k3m3) (c := k3c3) (by decide +kernel) rfl rfl rfl (by decide +kernel)
set_option maxRecDepth 65536 in
theorem w_c5 : (Jvm.Cond.code ({ cls := "com/example/netlocus/netlocus/PlaceQueue", name := "siftUp", desc := "(II)V" } : Jvm.MethodName) prog_48_method_6_code (7 : Nat) (Option.none : Option Jvm.ClassFile.FieldType)).before args0 about1 = true := code_word (m := ⟨3, 5⟩) (meth := k3m5) (c := k3c5) (by decide +kernel) rfl rfl rfl (by decide +kernel)
set_option maxRecDepth 65536 in
theorem w_c6 : (Jvm.Cond.code ({ cls := "com/example/netlocus/netlocus/PlaceQueue", name := "put", desc := "(II)V" } : Jvm.MethodName) prog_48_method_8_code (3 : Nat) (Option.none : Option Jvm.ClassFile.FieldType)).before args0 about1 = true := code_word (m := ⟨3, 7⟩) (meth := k3m7) (c := k3c7) (by decide +kernel) rfl rfl rfl (by decide +kernel)
set_option maxRecDepth 65536 in
theorem w_c7 : (Jvm.Cond.code ({ cls := "com/example/netlocus/netlocus/PlaceQueue", name := "clear", desc := "()V" } : Jvm.MethodName) prog_48_method_2_code (2 : Nat) (Option.none : Option Jvm.ClassFile.FieldType)).before args0 about1 = true := code_word (m := ⟨3, 1⟩) (meth := k3m1) (c := k3c1) (by decide +kernel) rfl rfl rfl (by decide +kernel)
set_option maxRecDepth 65536 in
theorem w_c8 : (Jvm.Cond.code ({ cls := "com/example/netlocus/netlocus/PlaceQueue", name := "isEmpty", desc := "()Z" } : Jvm.MethodName) prog_48_method_3_code (1 : Nat) (Option.some Jvm.ClassFile.FieldType.boolean)).before args0 about1 = true := code_word (m := ⟨3, 2⟩) (meth := k3m2) (c := k3c2) (by decide +kernel) rfl rfl rfl (by decide +kernel)
set_option maxRecDepth 65536 in
theorem w_c9 : (Jvm.Cond.code ({ cls := "com/example/netlocus/netlocus/PlaceQueueClearPinLaw", name := "take", desc := "(Lcom/example/netlocus/netlocus/PlaceQueue;)I" } : Jvm.MethodName) method_3_code (2 : Nat) (Option.some Jvm.ClassFile.FieldType.int)).before args0 about1 = true := code_word (m := ⟨1, 2⟩) (meth := k1m2) (c := k1c2) (by decide +kernel) rfl rfl rfl (by decide +kernel)
set_option maxRecDepth 65536 in
theorem w_c10 : (Jvm.Cond.code ({ cls := "com/example/netlocus/netlocus/PlaceQueue", name := "removeNearest", desc := "()I" } : Jvm.MethodName) prog_48_method_5_code (2 : Nat) (Option.some Jvm.ClassFile.FieldType.int)).before args0 about1 = true := code_word (m := ⟨3, 4⟩) (meth := k3m4) (c := k3c4) (by decide +kernel) rfl rfl rfl (by decide +kernel)
set_option maxRecDepth 65536 in
theorem w_c11 : (Jvm.Cond.code ({ cls := "com/example/netlocus/netlocus/PlaceQueue", name := "siftDown", desc := "(II)V" } : Jvm.MethodName) prog_48_method_7_code (7 : Nat) (Option.none : Option Jvm.ClassFile.FieldType)).before args0 about1 = true := code_word (m := ⟨3, 6⟩) (meth := k3m6) (c := k3c6) (by decide +kernel) rfl rfl rfl (by decide +kernel)
def codes1 : List Jvm.Cond := [Jvm.Cond.code x code maxLocals ret, Jvm.Cond.code ({ cls := "com/example/netlocus/netlocus/PlaceQueue", name := "<init>", desc := "([J)V" } : Jvm.MethodName) prog_48_method_1_code (2 : Nat) (Option.none : Option Jvm.ClassFile.FieldType), Jvm.Cond.code ({ cls := "java/lang/Object", name := "<init>", desc := "()V" } : Jvm.MethodName) object_method_1_code (1 : Nat) (Option.none : Option Jvm.ClassFile.FieldType), Jvm.Cond.code ({ cls := "java/util/Arrays", name := "fill", desc := "([II)V" } : Jvm.MethodName) jdk_65_method_103_code (4 : Nat) (Option.none : Option Jvm.ClassFile.FieldType), Jvm.Cond.code ({ cls := "com/example/netlocus/netlocus/PlaceQueue", name := "addOrRaise", desc := "(I)V" } : Jvm.MethodName) prog_48_method_4_code (3 : Nat) (Option.none : Option Jvm.ClassFile.FieldType), Jvm.Cond.code ({ cls := "com/example/netlocus/netlocus/PlaceQueue", name := "siftUp", desc := "(II)V" } : Jvm.MethodName) prog_48_method_6_code (7 : Nat) (Option.none : Option Jvm.ClassFile.FieldType), Jvm.Cond.code ({ cls := "com/example/netlocus/netlocus/PlaceQueue", name := "put", desc := "(II)V" } : Jvm.MethodName) prog_48_method_8_code (3 : Nat) (Option.none : Option Jvm.ClassFile.FieldType), Jvm.Cond.code ({ cls := "com/example/netlocus/netlocus/PlaceQueue", name := "clear", desc := "()V" } : Jvm.MethodName) prog_48_method_2_code (2 : Nat) (Option.none : Option Jvm.ClassFile.FieldType), Jvm.Cond.code ({ cls := "com/example/netlocus/netlocus/PlaceQueue", name := "isEmpty", desc := "()Z" } : Jvm.MethodName) prog_48_method_3_code (1 : Nat) (Option.some Jvm.ClassFile.FieldType.boolean), Jvm.Cond.code ({ cls := "com/example/netlocus/netlocus/PlaceQueueClearPinLaw", name := "take", desc := "(Lcom/example/netlocus/netlocus/PlaceQueue;)I" } : Jvm.MethodName) method_3_code (2 : Nat) (Option.some Jvm.ClassFile.FieldType.int), Jvm.Cond.code ({ cls := "com/example/netlocus/netlocus/PlaceQueue", name := "removeNearest", desc := "()I" } : Jvm.MethodName) prog_48_method_5_code (2 : Nat) (Option.some Jvm.ClassFile.FieldType.int), Jvm.Cond.code ({ cls := "com/example/netlocus/netlocus/PlaceQueue", name := "siftDown", desc := "(II)V" } : Jvm.MethodName) prog_48_method_7_code (7 : Nat) (Option.none : Option Jvm.ClassFile.FieldType)]
set_option maxRecDepth 65536 in
theorem codes_eq : words1.filter isCode = codes1 := rfl
theorem w_codes : ∀ c ∈ words1.filter isCode, c.before args0 about1 = true := by
  rw [codes_eq]
  intro c hc
  simp only [codes1, List.mem_cons, List.not_mem_nil, or_false] at hc
  rcases hc with rfl | rfl | rfl | rfl | rfl | rfl | rfl | rfl | rfl | rfl | rfl | rfl
  · exact w_c0
  · exact w_c1
  · exact w_c2
  · exact w_c3
  · exact w_c4
  · exact w_c5
  · exact w_c6
  · exact w_c7
  · exact w_c8
  · exact w_c9
  · exact w_c10
  · exact w_c11
set_option maxRecDepth 65536 in
theorem w_t1 : (words1.take 24).all (fun c => isCode c || c.before args0 about1) = true := by decide +kernel
set_option maxRecDepth 65536 in
theorem w_t2 : ((words1.drop 24).take 24).all (fun c => isCode c || c.before args0 about1) = true := by decide +kernel
set_option maxRecDepth 65536 in
theorem w_t3 : ((words1.drop 24).drop 24).all (fun c => isCode c || c.before args0 about1) = true := by decide +kernel
theorem w_tables : (allAtoms (Jvm.Cond.code x code maxLocals ret :: tables_1)).before args0 about1 = true := by
  rw [allAtoms_all]
  show words1.all (fun c => c.before args0 about1) = true
  refine all_split ?_ w_codes
  rw [← List.take_append_drop 24 words1, List.all_append, w_t1, ← List.take_append_drop 24 (words1.drop 24), List.all_append, w_t2, w_t3]
  rfl
set_option maxRecDepth 65536 in
theorem w_case : (Jvm.Cond.and given_1 narrow_1).before args0 about1 = true := by decide +kernel
theorem w_applies : (headSpec (Jvm.Cond.code x code maxLocals ret :: tables_1) room_1).applies x e0.platform about1 = true :=
  (Spec.applies_iff w_frames).mpr ⟨w_running, w_runnable, w_alone, w_named, w_hears, w_ripe, w_room, w_tables⟩
theorem atStart : AtStart classFile x code maxLocals ret World_1 tables_1 room_1 Calls_1 rest_1 Pre_1 launch0 p0 e0 about1 theMethod args0 below0 :=
  ⟨lists_1, trivial, launch0.admits_env _ _ _, launch0.least_env, fairChoices_fair.cas, fairChoices_fair.clock, w_frames, w_args, w_heap, w_applies, trivial, trivial, w_case⟩
end start1
theorem witness_1 : WitnessClaimed_1 := ⟨start1.p0, start1.e0, start1.about1, start1.theMethod, start1.args0, start1.below0, start1.atStart⟩
end Jvm.Pilot.@@N@@
