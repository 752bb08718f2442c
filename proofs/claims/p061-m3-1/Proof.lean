import JvmDerived
import JvmDerived.Pilot.@@N@@Statement
import JvmDerived.Pilot.@@N@@Code
set_option linter.unusedVariables false
set_option linter.unusedSimpArgs false
namespace Jvm.OwnKit
open Sem ClassFile Op Lib Jvm.Stand Jvm.Free Jvm.LawKit Jvm.RoadKit
/-- from the frame f over the state T the run ends within P -/
def Goes (p : Program) (e : Env) (below : List Frame) (T : State) (f : JFrame) (P : State → Outcome → Prop) : Prop := ∃ U o, Steps p.tables e below (T.setTop f) U ∧ U.status = .running ∧ Ended U below o ∧ P U o
/-- only places of ws or of new cells -/
def Only (h0 : Heap) (ws : List Addr) (L : List Loc) : Prop := ∀ y ∈ L, y.base ∈ ws ∨ h0.size ≤ y.base
def Kp (h0 h : Heap) (ws : List Addr) (L : List Loc) : Prop := Keep h0 h ws ∧ Only h0 ws L
/-- Q, kept from being reduced -/
def Ap (Q : Option Value → Heap → List Loc → Prop) (v : Option Value) (h : Heap) (L : List Loc) : Prop := Q v h L
/-- a contract: called with 'as' over the heap h0, the method returns within Q -/
def Con (l : Launch) (y : MethodName) (bytes : ByteArray) (maxL : Nat) (ret : Option FieldType) (rm : Room) (Z : State) (as : Array Value) (h0 : Heap) (Q : Option Value → Heap → List Loc → Prop) : Prop :=
  ∀ ws, MetFree l y (head1 (Cond.code y bytes maxL ret :: ws) rm) (fun a U => a = as ∧ Z.Warmed39 U.vm ∧ U.heap = h0) (fun _ _ _ _ _ => True) (fun _ U o U' => ∃ v L, o = .returned v ∧ Ap Q v U'.heap L ∧ FrameEnd U o U' L rm.cells rm.slots)
section G
variable {p : Program} {l : Launch} {e : Env} {R : Room} {s : State} {m : MethodId} {args : Array Value} {below : List Frame} {meth : Method} {c : Code} {T T' : State} {locs : List Loc} {cells slots : Nat} {P : State → Outcome → Prop} {f f' : JFrame} {Z : State} {a0 : Array Value} {h h' h0 : Heap} {a b : Addr} {ws ws' : List Addr} {Lc Lc' : List Loc} {sl : Nat} {v : Value}
theorem Goes.via (q : ∀ t, Steps p.tables e below (T'.setTop f') t → Steps p.tables e below (T.setTop f) t) (k : Goes p e below T' f' P) : Goes p e below T f P := by
  obtain ⟨U, o, h1, h2⟩ := k
  exact ⟨U, o, q U h1, h2⟩
theorem Goes.thru (q : Steps p.tables e below (T.setTop f) (T'.setTop f')) (k : Goes p e below T' f' P) : Goes p e below T f P := by
  obtain ⟨U, o, h1, h2⟩ := k
  exact ⟨U, o, q.trans h1, h2⟩
theorem Goes.ite {c : Prop} [Decidable c] {F : Int32 → JFrame} {a b : Int32} (h1 : c → Goes p e below T (F a) P → Goes p e below T f P) (h2 : ¬ c → Goes p e below T (F b) P → Goes p e below T f P) (k : Goes p e below T (F (if c then a else b)) P) : Goes p e below T f P := by
  by_cases hc : c
  · rw [if_pos hc] at k; exact h1 hc k
  · rw [if_neg hc] at k; exact h2 hc k
theorem Goes.cast (q : f = f') (k : Goes p e below T f' P) : Goes p e below T f P := q ▸ k
theorem Kp.refl (h : Heap) (ws : List Addr) : Kp h h ws [] := ⟨Keep.refl h ws, fun _ q => nomatch q⟩
theorem Kp.ext (K : Kp h0 h ws Lc) (E : Ext h h') : Kp h0 h' ws Lc := ⟨K.1.ext E, K.2⟩
theorem Kp.wr (K : Kp h0 h ws Lc) (W : Wr h h' a sl v) (q : a ∈ ws ∨ h0.size ≤ a) : Kp h0 h' ws (Lc ++ [⟨a, sl⟩]) :=
  ⟨K.1.wr W q, fun y hy => (List.mem_append.mp hy).elim (K.2 y) fun z => by cases List.mem_singleton.mp z; exact q⟩
theorem Kp.call (K : Kp h0 h ws Lc) (K' : Kp h h' ws' Lc') (q : ∀ x ∈ ws', x ∈ ws ∨ h0.size ≤ x) : Kp h0 h' ws (Lc ++ Lc') :=
  ⟨K.1.trans K'.1 q, fun y hy => (List.mem_append.mp hy).elim (K.2 y) fun z => (K'.2 y z).elim (q _) fun u => Or.inr (Nat.le_trans K.1.1 u)⟩
theorem Kp.size (K : Kp h0 h ws Lc) : h0.size ≤ h.size := K.1.1
theorem Kp.fr (K : Kp h0 h [] Lc) : Fr h0.size Lc := fun y hy => (K.2 y hy).elim (fun z => nomatch z) id
theorem Con.of_body {l : Launch} {y : MethodName} {bytes : ByteArray} {maxL : Nat} {ret : Option FieldType} {rm : Room} {Z : State} {as : Array Value} {h0 : Heap} {Q : Option Value → Heap → List Loc → Prop} (hn : plainFor y = true)
    (body : ∀ (p : Program) (e : Env) (s : State) (m : MethodId) (below : List Frame) (meth : Method) (c : Code) (T : State), Stand p l e rm s m as below meth c T [] 0 0 → p.tables.exec = Jvm.exec → c.code = bytes → c.maxLocals = maxL → Z.Warmed39 s.vm → s.vm.findClass y.cls = some m.cls → meth.name = y.name → meth.sig.returnType = ret → meth.locks = false → T.heap = h0 →
      Goes p e below T (entryFrame m as maxL) (fun U o => ∃ v L, o = .returned v ∧ Ap Q v U.heap L ∧ FrameEnd s o U L rm.cells rm.slots)) : Con l y bytes maxL ret rm Z as h0 Q := by
  intro ws
  refine MetFree.of_bodySF hn hisR ?_
  intro p e s m args below meth c s₁ Bd hml hP _
  obtain ⟨rfl, hZ, hh⟩ := hP
  exact body p e s m below meth c s₁ (Stand.of_body Bd) Bd.exec Bd.bytes hml hZ (findClass_of_methodNamed Bd.named) (name_of_methodNamed Bd.named Bd.method).1 Bd.returns (BodyLoose.notSynchronized Bd) (by rw [← hh, Bd.state]; rfl)
theorem Con.back {y : MethodName} {bytes : ByteArray} {maxL : Nat} {ret : Option FieldType} {rm : Room} {len W : Nat} {as' : Array Value} {Q : Option Value → Heap → List Loc → Prop} (hM : Con l y bytes maxL ret rm Z as' h Q)
    (hZ : Z.Warmed39 s.vm) (wc : (Cond.code y bytes maxL ret).before a0 Z = true) (wz : (Cond.initialized y.cls).before a0 Z = true) (hf : rm.frames + 1 ≤ R.frames) (hl : W + (maxL + 11) + rm.locals ≤ R.locals) :
    Back l R p e below s args y len W (fun A a => a = as' ∧ A.U.heap = h ∧ A.cells + rm.cells ≤ R.cells ∧ A.slots + rm.slots ≤ R.slots)
      (fun A _ v B => ∃ L, Q v B.U.heap L ∧ B.locs = A.locs ++ L ∧ B.cells = A.cells + rm.cells ∧ B.slots = A.slots + rm.slots) := backOf (hM []) hZ wc wz hf hl
/-- the end of a walk, for any of the returning instructions -/
theorem Goes.end (X : Stand p l e R s m args below meth c T locs cells slots) (hlk : meth.locks = false) {v : Option Value} (hv : meth.sig.returnType = none → v = none)
    (hs : ∀ fs, (∀ (f : JFrame) (acts : List Action), f.method = m → f.locked = none → f.entered = [] → (doReturn e (T.setTop f) acts v).1 = T.setFrames fs) → Steps p.tables e below (T.setTop f) (T.setFrames fs))
    {Q : Option Value → Heap → List Loc → Prop} {k n : Nat} (hk : cells ≤ k) (hn : slots ≤ n) (q : Q v T.heap locs) : Goes p e below T f (fun U o => ∃ v L, o = .returned v ∧ Ap Q v U.heap L ∧ FrameEnd s o U L k n) := by
  obtain ⟨fs, hr, hrun, hended, hW, hsame⟩ := X.leave hv hlk
  exact ⟨_, _, hs fs hr, hrun, hended, v, locs, rfl, q, ⟨_, rfl⟩, hW, hsame.mono hk hn⟩
theorem retI' (X : Stand p l e R s m args below meth c T locs cells slots) (hx : p.tables.exec = Jvm.exec) {pc : Nat} {Ls : Array Slot} {z : Int32} {rest : List Value} (hret : meth.sig.returnType = some .int) (hd : decode c.code pc = .ok (.ireturn, 1)) {fs : List Frame}
    (hl : ∀ (f : JFrame) (acts : List Action), f.method = m → f.locked = none → f.entered = [] → (doReturn e (T.setTop f) acts (some (.int z))).1 = T.setFrames fs) : Steps p.tables e below (T.setTop (mkF m pc Ls (.int z :: rest))) (T.setFrames fs) :=
  retOut X hx hret rfl (Or.inl ⟨rfl, Or.inl rfl, z, rfl⟩) hd hl
variable {pc pc' : Nat} {L L' : Array Slot} {S : List Value}
variable {Q : Option Value → Heap → List Loc → Prop} {k n : Nat}
theorem Goes.retI (X : Stand p l e R s m args below meth c T locs cells slots) (hx : p.tables.exec = Jvm.exec) (hret : meth.sig.returnType = some .int) (hlk : meth.locks = false) {z : Int32} (hd : decode c.code pc = .ok (.ireturn, 1)) (hk : cells ≤ k) (hn : slots ≤ n) (q : Q (some (.int z)) T.heap locs) :
    Goes p e below T (mkF m pc L (.int z :: S)) (fun U o => ∃ v L, o = .returned v ∧ Ap Q v U.heap L ∧ FrameEnd s o U L k n) :=
  Goes.end X hlk (fun h => by rw [hret] at h; cases h) (fun _ hr => retOut X hx hret rfl (Or.inl ⟨rfl, Or.inl rfl, z, rfl⟩) hd hr) hk hn q
theorem Goes.retN (X : Stand p l e R s m args below meth c T locs cells slots) (hx : p.tables.exec = Jvm.exec) {t : FieldType} (hret : meth.sig.returnType = some t) (ht : t = .boolean ∨ t = .byte ∨ t = .char ∨ t = .short) (hlk : meth.locks = false) {z : Int32} (hd : decode c.code pc = .ok (.ireturn, 1)) (hk : cells ≤ k) (hn : slots ≤ n) (q : Q (some (.int (nar t z))) T.heap locs) :
    Goes p e below T (mkF m pc L (.int z :: S)) (fun U o => ∃ v L, o = .returned v ∧ Ap Q v U.heap L ∧ FrameEnd s o U L k n) :=
  Goes.end X hlk (fun h => by rw [hret] at h; cases h) (fun _ hr => Jvm.RoadKit.retN X hx hret ht hd hr) hk hn q
theorem Goes.retJ (X : Stand p l e R s m args below meth c T locs cells slots) (hx : p.tables.exec = Jvm.exec) (hret : meth.sig.returnType = some .long) (hlk : meth.locks = false) {z : Int64} (hd : decode c.code pc = .ok (.lreturn, 1)) (hk : cells ≤ k) (hn : slots ≤ n) (q : Q (some (.long z)) T.heap locs) :
    Goes p e below T (mkF m pc L (.long z :: S)) (fun U o => ∃ v L, o = .returned v ∧ Ap Q v U.heap L ∧ FrameEnd s o U L k n) :=
  Goes.end X hlk (fun h => by rw [hret] at h; cases h) (fun _ hr => retOut X hx hret rfl (Or.inr (Or.inl ⟨rfl, rfl, z, rfl⟩)) hd hr) hk hn q
theorem Goes.retA (X : Stand p l e R s m args below meth c T locs cells slots) (hx : p.tables.exec = Jvm.exec) {t : FieldType} (hret : meth.sig.returnType = some t) (ht : t.isReference = true) (hlk : meth.locks = false) {z : Value} (hz : z.isRef = true) (hnr : narrow t z = z) (hd : decode c.code pc = .ok (.areturn, 1)) (hk : cells ≤ k) (hn : slots ≤ n) (q : Q (some z) T.heap locs) :
    Goes p e below T (mkF m pc L (z :: S)) (fun U o => ∃ v L, o = .returned v ∧ Ap Q v U.heap L ∧ FrameEnd s o U L k n) :=
  Goes.end X hlk (fun h => by rw [hret] at h; cases h) (fun _ hr => retOut X hx hret hnr (Or.inr (Or.inr (Or.inr (Or.inr ⟨rfl, ht, hz⟩)))) hd hr) hk hn q
theorem Goes.retV (X : Stand p l e R s m args below meth c T locs cells slots) (hx : p.tables.exec = Jvm.exec) (hret : meth.sig.returnType = none) (hlk : meth.locks = false) (hd : decode c.code pc = .ok (.return_, 1)) (hk : cells ≤ k) (hn : slots ≤ n) (q : Q none T.heap locs) :
    Goes p e below T (mkF m pc L []) (fun U o => ∃ v L, o = .returned v ∧ Ap Q v U.heap L ∧ FrameEnd s o U L k n) :=
  Goes.end X hlk (fun _ => rfl) (fun _ hr => X.returnOut hx hret hd hr) hk hn q
theorem G.aload (X : Stand p l e R s m args below meth c T locs cells slots) (hx : p.tables.exec = Jvm.exec) {k : Nat} {v : Value} (hd : decode c.code pc = .ok (.aload k, 2)) (hl : L[k]? = some (.val v)) (hv : v.isRef = true) (hp : pc + 2 = pc') (q : Goes p e below T (mkF m pc' L (v :: S)) P) : Goes p e below T (mkF m pc L (S)) P := by
  subst hp; exact Goes.via (fun _ u => Jvm.Free.XS.aload X.here hx rfl hd hl hv u) q
theorem G.aloadN (X : Stand p l e R s m args below meth c T locs cells slots) (hx : p.tables.exec = Jvm.exec) {k : Fin 4} {v : Value} (hd : decode c.code pc = .ok (.aload_n k, 1)) (hl : L[k.val]? = some (.val v)) (hv : v.isRef = true) (hp : pc + 1 = pc') (q : Goes p e below T (mkF m pc' L (v :: S)) P) : Goes p e below T (mkF m pc L (S)) P := by
  subst hp; exact Goes.via (fun _ u => Jvm.Free.XS.aloadN X.here hx rfl hd hl hv u) q
theorem G.iload (X : Stand p l e R s m args below meth c T locs cells slots) (hx : p.tables.exec = Jvm.exec) {k : Nat} {v : Int32} (hd : decode c.code pc = .ok (.iload k, 2)) (hl : L[k]? = some (.val (.int v))) (hp : pc + 2 = pc') (q : Goes p e below T (mkF m pc' L (.int v :: S)) P) : Goes p e below T (mkF m pc L (S)) P := by
  subst hp; exact Goes.via (fun _ u => Jvm.Free.XS.iload X.here hx rfl hd hl u) q
theorem G.iloadN (X : Stand p l e R s m args below meth c T locs cells slots) (hx : p.tables.exec = Jvm.exec) {k : Fin 4} {v : Int32} (hd : decode c.code pc = .ok (.iload_n k, 1)) (hl : L[k.val]? = some (.val (.int v))) (hp : pc + 1 = pc') (q : Goes p e below T (mkF m pc' L (.int v :: S)) P) : Goes p e below T (mkF m pc L (S)) P := by
  subst hp; exact Goes.via (fun _ u => Jvm.Free.XS.iloadN X.here hx rfl hd hl u) q
theorem G.lload (X : Stand p l e R s m args below meth c T locs cells slots) (hx : p.tables.exec = Jvm.exec) {k : Nat} {v : Int64} (hd : decode c.code pc = .ok (.lload k, 2)) (hl : L[k]? = some (.val (.long v))) (hp : pc + 2 = pc') (q : Goes p e below T (mkF m pc' L (.long v :: S)) P) : Goes p e below T (mkF m pc L (S)) P := by
  subst hp; exact Goes.via (fun _ u => Jvm.Free.XT.lload X.here hx rfl hd hl u) q
theorem G.lloadN (X : Stand p l e R s m args below meth c T locs cells slots) (hx : p.tables.exec = Jvm.exec) {k : Fin 4} {v : Int64} (hd : decode c.code pc = .ok (.lload_n k, 1)) (hl : L[k.val]? = some (.val (.long v))) (hp : pc + 1 = pc') (q : Goes p e below T (mkF m pc' L (.long v :: S)) P) : Goes p e below T (mkF m pc L (S)) P := by
  subst hp; exact Goes.via (fun _ u => Jvm.Free.XT.lloadN X.here hx rfl hd hl u) q
theorem G.istore (X : Stand p l e R s m args below meth c T locs cells slots) (hx : p.tables.exec = Jvm.exec) {k : Nat} {v : Int32} (hd : decode c.code pc = .ok (.istore k, 2)) (hl : storeLocals L k (.int v) = some L') (hp : pc + 2 = pc') (q : Goes p e below T (mkF m pc' L' (S)) P) : Goes p e below T (mkF m pc L (.int v :: S)) P := by
  subst hp; exact Goes.via (fun _ u => Jvm.Free.XS.istore X.here hx rfl hd rfl hl u) q
theorem G.istoreN (X : Stand p l e R s m args below meth c T locs cells slots) (hx : p.tables.exec = Jvm.exec) {k : Fin 4} {v : Int32} (hd : decode c.code pc = .ok (.istore_n k, 1)) (hl : storeLocals L k.val (.int v) = some L') (hp : pc + 1 = pc') (q : Goes p e below T (mkF m pc' L' (S)) P) : Goes p e below T (mkF m pc L (.int v :: S)) P := by
  subst hp; exact Goes.via (fun _ u => Jvm.Free.XS.istoreN X.here hx rfl hd rfl hl u) q
theorem G.lstore (X : Stand p l e R s m args below meth c T locs cells slots) (hx : p.tables.exec = Jvm.exec) {k : Nat} {v : Int64} (hd : decode c.code pc = .ok (.lstore k, 2)) (hl : storeLocals L k (.long v) = some L') (hp : pc + 2 = pc') (q : Goes p e below T (mkF m pc' L' (S)) P) : Goes p e below T (mkF m pc L (.long v :: S)) P := by
  subst hp; exact Goes.via (fun _ u => Jvm.Free.XT.lstore X.here hx rfl hd rfl hl u) q
theorem G.lstoreN (X : Stand p l e R s m args below meth c T locs cells slots) (hx : p.tables.exec = Jvm.exec) {k : Fin 4} {v : Int64} (hd : decode c.code pc = .ok (.lstore_n k, 1)) (hl : storeLocals L k.val (.long v) = some L') (hp : pc + 1 = pc') (q : Goes p e below T (mkF m pc' L' (S)) P) : Goes p e below T (mkF m pc L (.long v :: S)) P := by
  subst hp; exact Goes.via (fun _ u => Jvm.Free.XT.lstoreN X.here hx rfl hd rfl hl u) q
theorem G.astore (X : Stand p l e R s m args below meth c T locs cells slots) (hx : p.tables.exec = Jvm.exec) {k : Nat} {v : Value} (hd : decode c.code pc = .ok (.astore k, 2)) (hv : v.isRef = true) (hl : storeLocals L k v = some L') (hp : pc + 2 = pc') (q : Goes p e below T (mkF m pc' L' (S)) P) : Goes p e below T (mkF m pc L (v :: S)) P := by
  subst hp; exact Goes.via (fun _ u => Jvm.Free.XS.astore X.here hx rfl hd rfl hv hl u) q
theorem G.astoreN (X : Stand p l e R s m args below meth c T locs cells slots) (hx : p.tables.exec = Jvm.exec) {k : Fin 4} {v : Value} (hd : decode c.code pc = .ok (.astore_n k, 1)) (hv : v.isRef = true) (hl : storeLocals L k.val v = some L') (hp : pc + 1 = pc') (q : Goes p e below T (mkF m pc' L' (S)) P) : Goes p e below T (mkF m pc L (v :: S)) P := by
  subst hp; exact Goes.via (fun _ u => Jvm.Free.XS.astoreN X.here hx rfl hd rfl hv hl u) q
theorem G.iinc (X : Stand p l e R s m args below meth c T locs cells slots) (hx : p.tables.exec = Jvm.exec) {k : Nat} {cst : Int} {v : Int32} (hd : decode c.code pc = .ok (.iinc k cst, 3)) (hl : L[k]? = some (.val (.int v))) (hl' : storeLocals L k (.int (v + Int32.ofInt cst)) = some L') (hp : pc + 3 = pc') (q : Goes p e below T (mkF m pc' L' (S)) P) : Goes p e below T (mkF m pc L (S)) P := by
  subst hp; exact Goes.via (fun _ u => Jvm.Free.XS.iinc X.here hx rfl hd hl hl' u) q
theorem G.iconst (X : Stand p l e R s m args below meth c T locs cells slots) (hx : p.tables.exec = Jvm.exec) {i : Int} {z : Int32} (hd : decode c.code pc = .ok (.iconst i, 1)) (hz : Int32.ofInt i = z) (hp : pc + 1 = pc') (q : Goes p e below T (mkF m pc' L (.int z :: S)) P) : Goes p e below T (mkF m pc L S) P := by
  subst hp hz; exact Goes.via (fun _ u => Jvm.Free.XS.iconst X.here hx rfl hd u) q
theorem G.bipush (X : Stand p l e R s m args below meth c T locs cells slots) (hx : p.tables.exec = Jvm.exec) {i : Int} {z : Int32} (hd : decode c.code pc = .ok (.bipush i, 2)) (hz : (Int8.ofInt i).toInt32 = z) (hp : pc + 2 = pc') (q : Goes p e below T (mkF m pc' L (.int z :: S)) P) : Goes p e below T (mkF m pc L S) P := by
  subst hp hz; exact Goes.via (fun _ u => Jvm.Free.XS.bipush X.here hx rfl hd u) q
theorem G.sipush (X : Stand p l e R s m args below meth c T locs cells slots) (hx : p.tables.exec = Jvm.exec) {i : Int} {z : Int32} (hd : decode c.code pc = .ok (.sipush i, 3)) (hz : (Int16.ofInt i).toInt32 = z) (hp : pc + 3 = pc') (q : Goes p e below T (mkF m pc' L (.int z :: S)) P) : Goes p e below T (mkF m pc L S) P := by
  subst hp hz; exact Goes.via (fun _ u => Jvm.Free.XS.sipush X.here hx rfl hd u) q
theorem G.lconst (X : Stand p l e R s m args below meth c T locs cells slots) (hx : p.tables.exec = Jvm.exec) {k : Fin 2} {z : Int64} (hd : decode c.code pc = .ok (.lconst k, 1)) (hz : Int64.ofNat k = z) (hp : pc + 1 = pc') (q : Goes p e below T (mkF m pc' L (.long z :: S)) P) : Goes p e below T (mkF m pc L S) P := by
  subst hp hz; exact Goes.via (fun _ u => Jvm.Free.XT.lconst X.here hx rfl hd u) q
theorem G.aconstNull (X : Stand p l e R s m args below meth c T locs cells slots) (hx : p.tables.exec = Jvm.exec) (hd : decode c.code pc = .ok (.aconst_null, 1)) (hp : pc + 1 = pc') (q : Goes p e below T (mkF m pc' L (.null :: S)) P) : Goes p e below T (mkF m pc L (S)) P := by
  subst hp; exact Goes.via (fun _ u => Jvm.Free.XS.aconstNull X.here hx rfl hd u) q
theorem G.iadd (X : Stand p l e R s m args below meth c T locs cells slots) (hx : p.tables.exec = Jvm.exec) {x y : Int32} (hd : decode c.code pc = .ok (.iadd, 1)) (hp : pc + 1 = pc') (q : Goes p e below T (mkF m pc' L (.int (x + y) :: S)) P) : Goes p e below T (mkF m pc L (.int y :: .int x :: S)) P := by
  subst hp; exact Goes.via (fun _ u => Jvm.Free.XS.iadd X.here hx rfl hd rfl u) q
theorem G.isub (X : Stand p l e R s m args below meth c T locs cells slots) (hx : p.tables.exec = Jvm.exec) {x y : Int32} (hd : decode c.code pc = .ok (.isub, 1)) (hp : pc + 1 = pc') (q : Goes p e below T (mkF m pc' L (.int (x - y) :: S)) P) : Goes p e below T (mkF m pc L (.int y :: .int x :: S)) P := by
  subst hp; exact Goes.via (fun _ u => Jvm.Free.XS.isub X.here hx rfl hd rfl u) q
theorem G.iand (X : Stand p l e R s m args below meth c T locs cells slots) (hx : p.tables.exec = Jvm.exec) {x y : Int32} (hd : decode c.code pc = .ok (.iand, 1)) (hp : pc + 1 = pc') (q : Goes p e below T (mkF m pc' L (.int (x &&& y) :: S)) P) : Goes p e below T (mkF m pc L (.int y :: .int x :: S)) P := by
  subst hp; exact Goes.via (fun _ u => Jvm.Free.XS.iand X.here hx rfl hd rfl u) q
theorem G.imul (X : Stand p l e R s m args below meth c T locs cells slots) (hx : p.tables.exec = Jvm.exec) {x y : Int32} (hd : decode c.code pc = .ok (.imul, 1)) (hp : pc + 1 = pc') (q : Goes p e below T (mkF m pc' L (.int (x * y) :: S)) P) : Goes p e below T (mkF m pc L (.int y :: .int x :: S)) P := by
  subst hp; exact Goes.via (fun _ u => Jvm.Free.XS.imul X.here hx rfl hd rfl u) q
theorem G.ior (X : Stand p l e R s m args below meth c T locs cells slots) (hx : p.tables.exec = Jvm.exec) {x y : Int32} (hd : decode c.code pc = .ok (.ior, 1)) (hp : pc + 1 = pc') (q : Goes p e below T (mkF m pc' L (.int (x ||| y) :: S)) P) : Goes p e below T (mkF m pc L (.int y :: .int x :: S)) P := by
  subst hp; exact Goes.via (fun _ u => Jvm.Free.XT.ior X.here hx rfl hd rfl u) q
theorem G.ixor (X : Stand p l e R s m args below meth c T locs cells slots) (hx : p.tables.exec = Jvm.exec) {x y : Int32} (hd : decode c.code pc = .ok (.ixor, 1)) (hp : pc + 1 = pc') (q : Goes p e below T (mkF m pc' L (.int (x ^^^ y) :: S)) P) : Goes p e below T (mkF m pc L (.int y :: .int x :: S)) P := by
  subst hp; exact Goes.via (fun _ u => Jvm.Free.XT.ixor X.here hx rfl hd rfl u) q
theorem G.ishl (X : Stand p l e R s m args below meth c T locs cells slots) (hx : p.tables.exec = Jvm.exec) {x y : Int32} (hd : decode c.code pc = .ok (.ishl, 1)) (hp : pc + 1 = pc') (q : Goes p e below T (mkF m pc' L (.int (x <<< (y &&& 31)) :: S)) P) : Goes p e below T (mkF m pc L (.int y :: .int x :: S)) P := by
  subst hp; exact Goes.via (fun _ u => Jvm.Free.XT.ishl X.here hx rfl hd rfl u) q
theorem G.ishr (X : Stand p l e R s m args below meth c T locs cells slots) (hx : p.tables.exec = Jvm.exec) {x y : Int32} (hd : decode c.code pc = .ok (.ishr, 1)) (hp : pc + 1 = pc') (q : Goes p e below T (mkF m pc' L (.int (x >>> (y &&& 31)) :: S)) P) : Goes p e below T (mkF m pc L (.int y :: .int x :: S)) P := by
  subst hp; exact Goes.via (fun _ u => Jvm.Free.XT.ishr X.here hx rfl hd rfl u) q
theorem G.iushr (X : Stand p l e R s m args below meth c T locs cells slots) (hx : p.tables.exec = Jvm.exec) {x y : Int32} (hd : decode c.code pc = .ok (.iushr, 1)) (hp : pc + 1 = pc') (q : Goes p e below T (mkF m pc' L (.int (Jvm.Free.XT.ushr x y) :: S)) P) : Goes p e below T (mkF m pc L (.int y :: .int x :: S)) P := by
  subst hp; exact Goes.via (fun _ u => Jvm.Free.XT.iushr X.here hx rfl hd rfl u) q
theorem G.idiv (X : Stand p l e R s m args below meth c T locs cells slots) (hx : p.tables.exec = Jvm.exec) {x y : Int32} (hd : decode c.code pc = .ok (.idiv, 1)) (hy : y ≠ 0) (hp : pc + 1 = pc') (q : Goes p e below T (mkF m pc' L (.int (x / y) :: S)) P) : Goes p e below T (mkF m pc L (.int y :: .int x :: S)) P := by
  subst hp; exact Goes.via (fun _ u => Jvm.Free.XS.idiv X.here hx rfl hd rfl hy u) q
theorem G.irem (X : Stand p l e R s m args below meth c T locs cells slots) (hx : p.tables.exec = Jvm.exec) {x y : Int32} (hd : decode c.code pc = .ok (.irem, 1)) (hy : y ≠ 0) (hp : pc + 1 = pc') (q : Goes p e below T (mkF m pc' L (.int (x % y) :: S)) P) : Goes p e below T (mkF m pc L (.int y :: .int x :: S)) P := by
  subst hp; exact Goes.via (fun _ u => Jvm.RoadKit.iremM X hx rfl hd rfl hy u) q
theorem G.ineg (X : Stand p l e R s m args below meth c T locs cells slots) (hx : p.tables.exec = Jvm.exec) {x : Int32} (hd : decode c.code pc = .ok (.ineg, 1)) (hp : pc + 1 = pc') (q : Goes p e below T (mkF m pc' L (.int (-x) :: S)) P) : Goes p e below T (mkF m pc L (.int x :: S)) P := by
  subst hp; exact Goes.via (fun _ u => Jvm.Free.XS.ineg X.here hx rfl hd rfl u) q
theorem G.ladd (X : Stand p l e R s m args below meth c T locs cells slots) (hx : p.tables.exec = Jvm.exec) {x y : Int64} (hd : decode c.code pc = .ok (.ladd, 1)) (hp : pc + 1 = pc') (q : Goes p e below T (mkF m pc' L (.long (x + y) :: S)) P) : Goes p e below T (mkF m pc L (.long y :: .long x :: S)) P := by
  subst hp; exact Goes.via (fun _ u => Jvm.Free.XT.ladd X.here hx rfl hd rfl u) q
theorem G.lsub (X : Stand p l e R s m args below meth c T locs cells slots) (hx : p.tables.exec = Jvm.exec) {x y : Int64} (hd : decode c.code pc = .ok (.lsub, 1)) (hp : pc + 1 = pc') (q : Goes p e below T (mkF m pc' L (.long (x - y) :: S)) P) : Goes p e below T (mkF m pc L (.long y :: .long x :: S)) P := by
  subst hp; exact Goes.via (fun _ u => Jvm.Free.XT.lsub X.here hx rfl hd rfl u) q
theorem G.lmul (X : Stand p l e R s m args below meth c T locs cells slots) (hx : p.tables.exec = Jvm.exec) {x y : Int64} (hd : decode c.code pc = .ok (.lmul, 1)) (hp : pc + 1 = pc') (q : Goes p e below T (mkF m pc' L (.long (x * y) :: S)) P) : Goes p e below T (mkF m pc L (.long y :: .long x :: S)) P := by
  subst hp; exact Goes.via (fun _ u => Jvm.Free.XT.lmul X.here hx rfl hd rfl u) q
theorem G.land (X : Stand p l e R s m args below meth c T locs cells slots) (hx : p.tables.exec = Jvm.exec) {x y : Int64} (hd : decode c.code pc = .ok (.land, 1)) (hp : pc + 1 = pc') (q : Goes p e below T (mkF m pc' L (.long (x &&& y) :: S)) P) : Goes p e below T (mkF m pc L (.long y :: .long x :: S)) P := by
  subst hp; exact Goes.via (fun _ u => Jvm.Free.XT.land X.here hx rfl hd rfl u) q
theorem G.lor (X : Stand p l e R s m args below meth c T locs cells slots) (hx : p.tables.exec = Jvm.exec) {x y : Int64} (hd : decode c.code pc = .ok (.lor, 1)) (hp : pc + 1 = pc') (q : Goes p e below T (mkF m pc' L (.long (x ||| y) :: S)) P) : Goes p e below T (mkF m pc L (.long y :: .long x :: S)) P := by
  subst hp; exact Goes.via (fun _ u => Jvm.Free.XT.lor X.here hx rfl hd rfl u) q
theorem G.lxor (X : Stand p l e R s m args below meth c T locs cells slots) (hx : p.tables.exec = Jvm.exec) {x y : Int64} (hd : decode c.code pc = .ok (.lxor, 1)) (hp : pc + 1 = pc') (q : Goes p e below T (mkF m pc' L (.long (x ^^^ y) :: S)) P) : Goes p e below T (mkF m pc L (.long y :: .long x :: S)) P := by
  subst hp; exact Goes.via (fun _ u => Jvm.Free.XT.lxor X.here hx rfl hd rfl u) q
theorem G.lshl (X : Stand p l e R s m args below meth c T locs cells slots) (hx : p.tables.exec = Jvm.exec) {x : Int64} {y : Int32} (hd : decode c.code pc = .ok (.lshl, 1)) (hp : pc + 1 = pc') (q : Goes p e below T (mkF m pc' L (.long (x <<< (y.toInt64 &&& 63)) :: S)) P) : Goes p e below T (mkF m pc L (.int y :: .long x :: S)) P := by
  subst hp; exact Goes.via (fun _ u => Jvm.Free.XT.lshl X.here hx rfl hd rfl u) q
theorem G.lshr (X : Stand p l e R s m args below meth c T locs cells slots) (hx : p.tables.exec = Jvm.exec) {x : Int64} {y : Int32} (hd : decode c.code pc = .ok (.lshr, 1)) (hp : pc + 1 = pc') (q : Goes p e below T (mkF m pc' L (.long (x >>> (y.toInt64 &&& 63)) :: S)) P) : Goes p e below T (mkF m pc L (.int y :: .long x :: S)) P := by
  subst hp; exact Goes.via (fun _ u => Jvm.Free.XT.lshr X.here hx rfl hd rfl u) q
theorem G.lushr (X : Stand p l e R s m args below meth c T locs cells slots) (hx : p.tables.exec = Jvm.exec) {x : Int64} {y : Int32} (hd : decode c.code pc = .ok (.lushr, 1)) (hp : pc + 1 = pc') (q : Goes p e below T (mkF m pc' L (.long (Jvm.Free.XT.ushrL x y) :: S)) P) : Goes p e below T (mkF m pc L (.int y :: .long x :: S)) P := by
  subst hp; exact Goes.via (fun _ u => Jvm.Free.XT.lushr X.here hx rfl hd rfl u) q
theorem G.ldiv (X : Stand p l e R s m args below meth c T locs cells slots) (hx : p.tables.exec = Jvm.exec) {x y : Int64} (hd : decode c.code pc = .ok (.ldiv, 1)) (hy : y ≠ 0) (hp : pc + 1 = pc') (q : Goes p e below T (mkF m pc' L (.long (x / y) :: S)) P) : Goes p e below T (mkF m pc L (.long y :: .long x :: S)) P := by
  subst hp; exact Goes.via (fun _ u => Jvm.Free.XT.ldiv X.here hx rfl hd rfl hy u) q
theorem G.lrem (X : Stand p l e R s m args below meth c T locs cells slots) (hx : p.tables.exec = Jvm.exec) {x y : Int64} (hd : decode c.code pc = .ok (.lrem, 1)) (hy : y ≠ 0) (hp : pc + 1 = pc') (q : Goes p e below T (mkF m pc' L (.long (x % y) :: S)) P) : Goes p e below T (mkF m pc L (.long y :: .long x :: S)) P := by
  subst hp; exact Goes.via (fun _ u => Jvm.Free.XT.lrem X.here hx rfl hd rfl hy u) (by rw [lrem_mod]; exact q)
theorem G.lneg (X : Stand p l e R s m args below meth c T locs cells slots) (hx : p.tables.exec = Jvm.exec) {x : Int64} (hd : decode c.code pc = .ok (.lneg, 1)) (hp : pc + 1 = pc') (q : Goes p e below T (mkF m pc' L (.long (-x) :: S)) P) : Goes p e below T (mkF m pc L (.long x :: S)) P := by
  subst hp; exact Goes.via (fun _ u => Jvm.Free.XT.lneg X.here hx rfl hd rfl u) q
theorem G.i2l (X : Stand p l e R s m args below meth c T locs cells slots) (hx : p.tables.exec = Jvm.exec) {x : Int32} (hd : decode c.code pc = .ok (.i2l, 1)) (hp : pc + 1 = pc') (q : Goes p e below T (mkF m pc' L (.long (x.toInt64) :: S)) P) : Goes p e below T (mkF m pc L (.int x :: S)) P := by
  subst hp; exact Goes.via (fun _ u => Jvm.Free.XT.i2l X.here hx rfl hd rfl u) q
theorem G.i2b (X : Stand p l e R s m args below meth c T locs cells slots) (hx : p.tables.exec = Jvm.exec) {x : Int32} (hd : decode c.code pc = .ok (.i2b, 1)) (hp : pc + 1 = pc') (q : Goes p e below T (mkF m pc' L (.int (x.toInt8.toInt32) :: S)) P) : Goes p e below T (mkF m pc L (.int x :: S)) P := by
  subst hp; exact Goes.via (fun _ u => Jvm.Free.XT.i2b X.here hx rfl hd rfl u) q
theorem G.i2c (X : Stand p l e R s m args below meth c T locs cells slots) (hx : p.tables.exec = Jvm.exec) {x : Int32} (hd : decode c.code pc = .ok (.i2c, 1)) (hp : pc + 1 = pc') (q : Goes p e below T (mkF m pc' L (.int (x.toUInt32.toUInt16.toUInt32.toInt32) :: S)) P) : Goes p e below T (mkF m pc L (.int x :: S)) P := by
  subst hp; exact Goes.via (fun _ u => Jvm.Free.XT.i2c X.here hx rfl hd rfl u) q
theorem G.i2s (X : Stand p l e R s m args below meth c T locs cells slots) (hx : p.tables.exec = Jvm.exec) {x : Int32} (hd : decode c.code pc = .ok (.i2s, 1)) (hp : pc + 1 = pc') (q : Goes p e below T (mkF m pc' L (.int (x.toInt16.toInt32) :: S)) P) : Goes p e below T (mkF m pc L (.int x :: S)) P := by
  subst hp; exact Goes.via (fun _ u => Jvm.Free.XT.i2s X.here hx rfl hd rfl u) q
theorem G.l2i (X : Stand p l e R s m args below meth c T locs cells slots) (hx : p.tables.exec = Jvm.exec) {x : Int64} (hd : decode c.code pc = .ok (.l2i, 1)) (hp : pc + 1 = pc') (q : Goes p e below T (mkF m pc' L (.int (x.toInt32) :: S)) P) : Goes p e below T (mkF m pc L (.long x :: S)) P := by
  subst hp; exact Goes.via (fun _ u => Jvm.Free.XT.l2i X.here hx rfl hd rfl u) q
theorem G.lcmp (X : Stand p l e R s m args below meth c T locs cells slots) (hx : p.tables.exec = Jvm.exec) {x y : Int64} (hd : decode c.code pc = .ok (.lcmp, 1)) (hp : pc + 1 = pc') (q : Goes p e below T (mkF m pc' L (.int (Jvm.Free.XT.cmpL x y) :: S)) P) : Goes p e below T (mkF m pc L (.long y :: .long x :: S)) P := by
  subst hp; exact Goes.via (fun _ u => Jvm.Free.XT.lcmp X.here hx rfl hd rfl u) q
theorem G.dup (X : Stand p l e R s m args below meth c T locs cells slots) (hx : p.tables.exec = Jvm.exec) {v : Value} (hd : decode c.code pc = .ok (.dup, 1)) (hv : v.category = 1) (hp : pc + 1 = pc') (q : Goes p e below T (mkF m pc' L (v :: v :: S)) P) : Goes p e below T (mkF m pc L (v :: S)) P := by
  subst hp; exact Goes.via (fun _ u => Jvm.Free.XS.dup X.here hx rfl hd rfl hv u) q
theorem G.pop (X : Stand p l e R s m args below meth c T locs cells slots) (hx : p.tables.exec = Jvm.exec) {v : Value} (hd : decode c.code pc = .ok (.pop, 1)) (hv : v.category = 1) (hp : pc + 1 = pc') (q : Goes p e below T (mkF m pc' L (S)) P) : Goes p e below T (mkF m pc L (v :: S)) P := by
  subst hp; exact Goes.via (fun _ u => Jvm.Free.XT.pop X.here hx rfl hd rfl hv u) q
theorem G.dupX1 (X : Stand p l e R s m args below meth c T locs cells slots) (hx : p.tables.exec = Jvm.exec) {v w : Value} (hd : decode c.code pc = .ok (.dup_x1, 1)) (hv : v.category = 1) (hw : w.category = 1) (hp : pc + 1 = pc') (q : Goes p e below T (mkF m pc' L (v :: w :: v :: S)) P) : Goes p e below T (mkF m pc L (v :: w :: S)) P := by
  subst hp; exact Goes.via (fun _ u => Jvm.Free.XT.dupX1 X.here hx rfl hd rfl hv hw u) q
theorem G.dup2 (X : Stand p l e R s m args below meth c T locs cells slots) (hx : p.tables.exec = Jvm.exec) {v w : Value} (hd : decode c.code pc = .ok (.dup2, 1)) (hv : v.category = 1) (hw : w.category = 1) (hp : pc + 1 = pc') (q : Goes p e below T (mkF m pc' L (v :: w :: v :: w :: S)) P) : Goes p e below T (mkF m pc L (v :: w :: S)) P := by
  subst hp; exact Goes.via (fun _ u => Jvm.Free.XT.dup2 X.here hx rfl hd rfl hv hw u) q
theorem G.goto (X : Stand p l e R s m args below meth c T locs cells slots) (hx : p.tables.exec = Jvm.exec) {o : Int} (hd : decode c.code pc = .ok (.goto o, 3)) (ho : 0 ≤ (pc : Int) + o) (hp : ((pc : Int) + o).toNat = pc') (q : Goes p e below T (mkF m pc' L S) P) : Goes p e below T (mkF m pc L S) P :=
  Goes.via (fun _ u => Jvm.Free.XS.goto X.here hx rfl rfl hd ho hp u) q
theorem G.icmpT (X : Stand p l e R s m args below meth c T locs cells slots) (hx : p.tables.exec = Jvm.exec) {cd : ClassFile.Cond} {x y : Int32} {o : Int} (hd : decode c.code pc = .ok (.if_icmp cd o, 3)) (hc : if_icmp.holds cd x y = true) (ho : 0 ≤ (pc : Int) + o) (hp : ((pc : Int) + o).toNat = pc') (q : Goes p e below T (mkF m pc' L S) P) : Goes p e below T (mkF m pc L (.int y :: .int x :: S)) P :=
  Goes.via (fun _ u => Jvm.Free.XS.icmpYes X.here hx rfl rfl hd rfl hc ho hp u) q
theorem G.icmpF (X : Stand p l e R s m args below meth c T locs cells slots) (hx : p.tables.exec = Jvm.exec) {cd : ClassFile.Cond} {x y : Int32} {o : Int} (hd : decode c.code pc = .ok (.if_icmp cd o, 3)) (hc : if_icmp.holds cd x y = false) (hp : pc + 3 = pc') (q : Goes p e below T (mkF m pc' L S) P) : Goes p e below T (mkF m pc L (.int y :: .int x :: S)) P := by
  subst hp; exact Goes.via (fun _ u => Jvm.Free.XS.icmpNo X.here hx rfl hd rfl hc u) q
theorem G.ifT (X : Stand p l e R s m args below meth c T locs cells slots) (hx : p.tables.exec = Jvm.exec) {cd : ClassFile.Cond} {x : Int32} {o : Int} (hd : decode c.code pc = .ok (.ifCond cd o, 3)) (hc : ifCond.holds cd x = true) (ho : 0 ≤ (pc : Int) + o) (hp : ((pc : Int) + o).toNat = pc') (q : Goes p e below T (mkF m pc' L S) P) : Goes p e below T (mkF m pc L (.int x :: S)) P :=
  Goes.via (fun _ u => Jvm.Free.XS.ifYes X.here hx rfl rfl hd rfl hc ho hp u) q
theorem G.ifF (X : Stand p l e R s m args below meth c T locs cells slots) (hx : p.tables.exec = Jvm.exec) {cd : ClassFile.Cond} {x : Int32} {o : Int} (hd : decode c.code pc = .ok (.ifCond cd o, 3)) (hc : ifCond.holds cd x = false) (hp : pc + 3 = pc') (q : Goes p e below T (mkF m pc' L S) P) : Goes p e below T (mkF m pc L (.int x :: S)) P := by
  subst hp; exact Goes.via (fun _ u => Jvm.Free.XS.ifNo X.here hx rfl hd rfl hc u) q
theorem G.nullT (X : Stand p l e R s m args below meth c T locs cells slots) (hx : p.tables.exec = Jvm.exec) {o : Int} (hd : decode c.code pc = .ok (.ifnull o, 3)) (ho : 0 ≤ (pc : Int) + o) (hp : ((pc : Int) + o).toNat = pc') (q : Goes p e below T (mkF m pc' L S) P) : Goes p e below T (mkF m pc L (.null :: S)) P :=
  Goes.via (fun _ u => Jvm.Free.XS.ifnullYes X.here hx rfl rfl hd rfl ho hp u) q
theorem G.nullF (X : Stand p l e R s m args below meth c T locs cells slots) (hx : p.tables.exec = Jvm.exec) {b : Addr} {o : Int} (hd : decode c.code pc = .ok (.ifnull o, 3)) (hp : pc + 3 = pc') (q : Goes p e below T (mkF m pc' L S) P) : Goes p e below T (mkF m pc L (.ref b :: S)) P := by
  subst hp; exact Goes.via (fun _ u => Jvm.Free.XS.ifnullNo X.here hx rfl hd rfl u) q
theorem G.nonnullT (X : Stand p l e R s m args below meth c T locs cells slots) (hx : p.tables.exec = Jvm.exec) {b : Addr} {o : Int} (hd : decode c.code pc = .ok (.ifnonnull o, 3)) (ho : 0 ≤ (pc : Int) + o) (hp : ((pc : Int) + o).toNat = pc') (q : Goes p e below T (mkF m pc' L S) P) : Goes p e below T (mkF m pc L (.ref b :: S)) P :=
  Goes.via (fun _ u => Jvm.Free.XS.ifnonnullYes X.here hx rfl rfl hd rfl ho hp u) q
theorem G.nonnullF (X : Stand p l e R s m args below meth c T locs cells slots) (hx : p.tables.exec = Jvm.exec) {o : Int} (hd : decode c.code pc = .ok (.ifnonnull o, 3)) (hp : pc + 3 = pc') (q : Goes p e below T (mkF m pc' L S) P) : Goes p e below T (mkF m pc L (.null :: S)) P := by
  subst hp; exact Goes.via (fun _ u => Jvm.Free.XS.ifnonnullNo X.here hx rfl hd rfl u) q
theorem G.acmpT (X : Stand p l e R s m args below meth c T locs cells slots) (hx : p.tables.exec = Jvm.exec) {cd : ACond} {x y : Value} {o : Int} (hd : decode c.code pc = .ok (.if_acmp cd o, 3)) (h1 : x.isRef = true) (h2 : y.isRef = true) {same : Bool} (hq : decide (x = y) = same) (ho : 0 ≤ (pc : Int) + o) (hp : pc' = if acV cd same = true then ((pc : Int) + o).toNat else pc + 3) (q : Goes p e below T (mkF m pc' L S) P) : Goes p e below T (mkF m pc L (y :: x :: S)) P :=
  Goes.via (fun _ u => Jvm.RoadKit.acmp X hx rfl h1 h2 rfl hd rfl hq ho hp u) q
theorem G.ldcInt (X : Stand p l e R s m args below meth c T locs cells slots) (hx : p.tables.exec = Jvm.exec) (hZ : Z.Warmed39 s.vm) {own : String} {index : Nat} {v : Int32} (hown : s.vm.findClass own = some m.cls) (w : (Cond.constant own index v).before a0 Z = true) (hd : decode c.code pc = .ok (.ldc index, 2)) (hp : pc + 2 = pc') (q : Goes p e below T (mkF m pc' L (.int v :: S)) P) : Goes p e below T (mkF m pc L S) P := by
  subst hp; exact Goes.via (X.ldcInt hx hown (mvT hZ w) (g := mkF m pc L S) rfl hd) q
theorem G.ldcLong (X : Stand p l e R s m args below meth c T locs cells slots) (hx : p.tables.exec = Jvm.exec) (hZ : Z.Warmed39 s.vm) {own : String} {index : Nat} {v : Int64} (hown : s.vm.findClass own = some m.cls) (w : (Cond.constantLong own index v).before a0 Z = true) (hd : decode c.code pc = .ok (.ldc2_w index, 3)) (hp : pc + 3 = pc') (q : Goes p e below T (mkF m pc' L (.long v :: S)) P) : Goes p e below T (mkF m pc L S) P := by
  subst hp; exact Goes.via (X.ldc2Long hx hown (mvT hZ w) (g := mkF m pc L S) rfl hd) q
theorem G.getF (X : Stand p l e R s m args below meth c T locs cells slots) (hx : p.tables.exec = Jvm.exec) (hZ : Z.Warmed39 s.vm) {own R0 O n d : String} {index : Nat} (hown : s.vm.findClass own = some m.cls) (w : (Cond.fieldLink own index R0 n d).before a0 Z = true) (via : Via Z R0 O n d) (eT : T.heap = h) (F : Fld Z h a O n d v) (hd : decode c.code pc = .ok (.getfield index, 3)) (hp : pc + 3 = pc')
    (q : ∀ T', Stand p l e R s m args below meth c T' locs cells slots → T'.heap = h → Goes p e below T' (mkF m pc' L (v :: S)) P) : Goes p e below T (mkF m pc L (.ref a :: S)) P := by
  subst hp
  obtain ⟨T', X', e', st⟩ := Jvm.RoadKit.getF X hx hZ hown (host := "") (Or.inl w) via eT F (g := mkF m pc L (.ref a :: S)) rfl rfl hd
  exact Goes.via st (q T' X' e')
theorem G.getS (X : Stand p l e R s m args below meth c T locs cells slots) (hx : p.tables.exec = Jvm.exec) (hZ : Z.Warmed39 s.vm) {own R0 O n d : String} {index : Nat} (hown : s.vm.findClass own = some m.cls) (w : (Cond.fieldLink own index R0 n d).before a0 Z = true) (via : Via Z R0 O n d) (eT : T.heap = h) (F : Sta Z h O n d v) (hd : decode c.code pc = .ok (.getstatic index, 3)) (hp : pc + 3 = pc')
    (q : ∀ T', Stand p l e R s m args below meth c T' locs cells slots → T'.heap = h → Goes p e below T' (mkF m pc' L (v :: S)) P) : Goes p e below T (mkF m pc L S) P := by
  subst hp
  obtain ⟨T', X', e', st⟩ := Jvm.RoadKit.getS2 X hx hZ hown (host := "") (Or.inl w) via eT F (g := mkF m pc L S) rfl hd
  exact Goes.via st (q T' X' e')
theorem G.putF (X : Stand p l e R s m args below meth c T locs cells slots) (hx : p.tables.exec = Jvm.exec) (hZ : Z.Warmed39 s.vm) {own R0 O n d C : String} {index kk : Nat} {ty : FieldType} {old : Value} (hown : s.vm.findClass own = some m.cls) (w : (Cond.fieldLink own index R0 n d).before a0 Z = true) (via : Via Z R0 O n d) (eT : T.heap = h) (F : Fld Z h a O n d old) (E : Exa Z h a C) (Ly : (Cond.lays C O n d).before a0 Z = true ∨ ((Cond.laysFinal C O n d).before a0 Z = true ∧ own = O ∧ meth.name = "<init>")) (wi : (Cond.instantiable C kk).before a0 Z = true)
    (hty : parseFieldDescriptor d = some ty) (hn : narrow ty v = v) (hf : fits ty v = true) (hd : decode c.code pc = .ok (.putfield index, 3)) (hp : pc + 3 = pc')
    (q : ∀ T' h', Stand p l e R s m args below meth c T' (locs ++ [⟨a, Jvm.RoadKit.slotOf Z O n d⟩]) cells slots → T'.heap = h' → Wr h h' a (Jvm.RoadKit.slotOf Z O n d) v → Goes p e below T' (mkF m pc' L S) P) : Goes p e below T (mkF m pc L (v :: .ref a :: S)) P := by
  subst hp
  obtain ⟨T', h', X', e', W', st⟩ := Jvm.RoadKit.putF X hx hZ hown (host := "") (Or.inl w) via eT F E Ly wi hty hn hf (g := mkF m pc L (v :: .ref a :: S)) rfl rfl hd
  exact Goes.via st (q T' h' X' e' W')
theorem G.putFN (X : Stand p l e R s m args below meth c T locs cells slots) (hx : p.tables.exec = Jvm.exec) (hZ : Z.Warmed39 s.vm) {own R0 O n d C : String} {index kk : Nat} {ty : FieldType} {old v' : Value} (hown : s.vm.findClass own = some m.cls) (w : (Cond.fieldLink own index R0 n d).before a0 Z = true) (via : Via Z R0 O n d) (eT : T.heap = h) (F : Fld Z h a O n d old) (E : Exa Z h a C) (Ly : (Cond.lays C O n d).before a0 Z = true ∨ ((Cond.laysFinal C O n d).before a0 Z = true ∧ own = O ∧ meth.name = "<init>")) (wi : (Cond.instantiable C kk).before a0 Z = true)
    (hty : parseFieldDescriptor d = some ty) (hn : narrow ty v = v') (hf : fits ty v' = true) (hd : decode c.code pc = .ok (.putfield index, 3)) (hp : pc + 3 = pc')
    (q : ∀ T' h', Stand p l e R s m args below meth c T' (locs ++ [⟨a, Jvm.RoadKit.slotOf Z O n d⟩]) cells slots → T'.heap = h' → Wr h h' a (Jvm.RoadKit.slotOf Z O n d) v' → Goes p e below T' (mkF m pc' L S) P) : Goes p e below T (mkF m pc L (v :: .ref a :: S)) P := by
  subst hp
  obtain ⟨T', h', X', e', W', st⟩ := Jvm.RoadKit.putFN X hx hZ hown w via eT F E Ly wi hty hn hf (g := mkF m pc L (v :: .ref a :: S)) rfl rfl hd
  exact Goes.via st (q T' h' X' e' W')
theorem G.newO (X : Stand p l e R s m args below meth c T locs cells slots) (hx : p.tables.exec = Jvm.exec) (hZ : Z.Warmed39 s.vm) {own C : String} {index n : Nat} (hown : s.vm.findClass own = some m.cls) (w : (Cond.classLink own index C).before a0 Z = true) (wi : (Cond.instantiable C n).before a0 Z = true) (wz : (Cond.initialized C).before a0 Z = true) (eT : T.heap = h) (hd : decode c.code pc = .ok (.new index, 3)) (hc : cells + 1 ≤ R.cells) (hl : slots + n ≤ R.slots) (hp : pc + 3 = pc')
    (q : ∀ T' h' a, a = h.size → Stand p l e R s m args below meth c T' locs (cells + 1) (slots + n) → T'.heap = h' → Ext h h' → Exa Z h' a C → (∀ {O nm d : String} {ty : FieldType}, Laid Z a0 C O nm d → parseFieldDescriptor d = some ty → Fld Z h' a O nm d (defaultValue ty)) → Goes p e below T' (mkF m pc' L (.ref a :: S)) P) : Goes p e below T (mkF m pc L S) P := by
  subst hp
  obtain ⟨T', h', X', e', E', A', D', -, st⟩ := Jvm.RoadKit.newO X hx hZ hown w wi wz eT (g := mkF m pc L S) rfl hd hc hl
  exact Goes.via st (q T' h' _ rfl X' e' E' A' D')
theorem G.initO (X : Stand p l e R s m args below meth c T locs cells slots) (hx : p.tables.exec = Jvm.exec) (hZ : Z.Warmed39 s.vm) {own : String} {idx : Nat} (hown : s.vm.findClass own = some m.cls) (w1 : (Cond.methodLink own idx Lib.objectInit).before a0 Z = true) (w2 : (Cond.instanceMethod Lib.objectInit).before a0 Z = true) (w3 : (Cond.code Lib.objectInit ⟨#[0xb1]⟩ 1 none).before a0 Z = true) (eT : T.heap = h) (hsz : L.size = c.maxLocals) (hd : decode c.code pc = .ok (.invokespecial idx, 3)) (hf : 1 ≤ R.frames) {W : Nat} (hW : (S.map fun v => v.category).sum ≤ W) (hl : W + 12 ≤ R.locals) (hp : pc + 3 = pc')
    (q : ∀ T', Stand p l e R s m args below meth c T' locs cells slots → T'.heap = h → Goes p e below T' (mkF m pc' L S) P) : Goes p e below T (mkF m pc L (.ref a :: S)) P := by
  subst hp
  obtain ⟨T', X', e', st⟩ := Jvm.RoadKit.initO X hx hZ hown w1 w2 w3 eT (g := mkF m pc L (.ref a :: S)) rfl hsz rfl hd hf (W := W) (by show 2 * 0 + _ ≤ _; omega) hl
  exact Goes.via st (q T' X' e')
/-- an array's components, in order -/
def Seq (Z : State) (h : Heap) (a : Addr) (ty : FieldType) (vs : List Value) : Prop := ∃ cl : Cell, Arr Z h a cl ty ∧ cl.slots.toList = vs ∧ vs.length < 2 ^ 31
variable {vs : List Value} {ty : FieldType} {j : Int32}
theorem Seq.lt (F : Seq Z h a ty vs) : a < h.size := by obtain ⟨_, A, -⟩ := F; exact A.lt
theorem Seq.ext (F : Seq Z h a ty vs) (E : Ext h h') : Seq Z h' a ty vs := by obtain ⟨cl, A, r⟩ := F; exact ⟨cl, A.ext E, r⟩
theorem Seq.other {w : Value} (F : Seq Z h b ty vs) (W : Wr h h' a sl w) (q : b ≠ a) : Seq Z h' b ty vs := by obtain ⟨cl, A, r⟩ := F; exact ⟨cl, A.other W q, r⟩
theorem Seq.keep (F : Seq Z h a ty vs) (K : Keep h h' ws) (q : a ∉ ws) : Seq Z h' a ty vs := by obtain ⟨cl, A, r⟩ := F; exact ⟨cl, ⟨K.2.1 a cl A.1 q, A.2⟩, r⟩
theorem Seq.new {k : ClassId} {z : Int32} (A : Arr Z h a (newA k ty z) ty) (n : Nat) (hn : z.toNatClampNeg = n) : Seq Z h a ty (List.replicate n (defaultValue ty)) := by
  refine ⟨_, A, by rw [← hn]; simp [newA], ?_⟩
  rw [List.length_replicate, ← hn]
  have := Int32.toInt_lt z
  simp only [Int32.toNatClampNeg]
  omega
theorem Seq.at (F : Seq Z h a ty vs) (hj : ¬ j < 0) (hv : vs[j.toNatClampNeg]? = some v) : ∃ cl : Cell, h[a]? = some cl ∧ Z.isArrayOf cl ty ∧ cl.vm ≠ .unknown ∧ ¬ (j < 0 ∨ cl.slots.size ≤ j.toNatClampNeg) ∧ cl.slots[j.toNatClampNeg]? = some v := by
  obtain ⟨cl, A, rfl, hl⟩ := F
  rw [Array.getElem?_toList] at hv
  exact ⟨cl, A.1, A.2.1, A.2.2, fun q => q.elim hj fun q => by have := (Array.getElem?_eq_some_iff.mp hv).1; omega, hv⟩
theorem Seq.set (F : Seq Z h a ty vs) (W : Wr h h' a j.toNatClampNeg v) : Seq Z h' a ty (vs.set j.toNatClampNeg v) := by
  obtain ⟨cl, A, rfl, hl⟩ := F
  exact ⟨_, A.same W, by simp [Cell.setSlot], by simpa using hl⟩
theorem Seq.inb (F : Seq Z h a ty vs) (hj : ¬ j < 0) (hi : j.toNatClampNeg < vs.length) : ∃ cl : Cell, Arr Z h a cl ty ∧ ¬ (j < 0 ∨ cl.slots.size ≤ j.toNatClampNeg) := by
  obtain ⟨cl, A, rfl, hl⟩ := F
  exact ⟨cl, A, fun q => q.elim hj fun q => by rw [Array.length_toList] at hi; omega⟩
theorem G.newP (X : Stand p l e R s m args below meth c T locs cells slots) (hx : p.tables.exec = Jvm.exec) (hZ : Z.Warmed39 s.vm) {aty : ArrayType} (w : (Cond.arrayClass (newarray.typeOf aty)).before a0 Z = true) (eT : T.heap = h) (hd : decode c.code pc = .ok (.newarray aty, 2)) {z : Int32} (hz : ¬ z < 0) {cap n : Nat} (hn : z.toNatClampNeg = n) (hcap : n ≤ cap) (hb : cap * 8 ≤ 536870912) (hc : cells + 1 ≤ R.cells) (hl : slots + cap ≤ R.slots) (hp : pc + 2 = pc')
    (q : ∀ T' h' a, a = h.size → Stand p l e R s m args below meth c T' locs (cells + 1) (slots + cap) → T'.heap = h' → Ext h h' → Seq Z h' a (newarray.typeOf aty) (List.replicate n (defaultValue (newarray.typeOf aty))) → Goes p e below T' (mkF m pc' L (.ref a :: S)) P) : Goes p e below T (mkF m pc L (.int z :: S)) P := by
  subst hp
  obtain ⟨T', h', k, X', e', E', A', st⟩ := Jvm.RoadKit.newP X hx hZ w eT (g := mkF m pc L (.int z :: S)) rfl hd rfl hz (cap := cap) (hn ▸ hcap) hb hc hl
  exact Goes.via st (q T' h' _ rfl X' e' E' (Seq.new A' n hn))
theorem G.arraylength (X : Stand p l e R s m args below meth c T locs cells slots) (hx : p.tables.exec = Jvm.exec) (hZ : Z.Warmed39 s.vm) (eT : T.heap = h) (F : Seq Z h a ty vs) (hd : decode c.code pc = .ok (.arraylength, 1)) {z : Int32} (hz : vs.length.toInt32 = z) (hp : pc + 1 = pc') (q : Goes p e below T (mkF m pc' L (.int z :: S)) P) : Goes p e below T (mkF m pc L (.ref a :: S)) P := by
  subst hp
  obtain ⟨cl, A, rfl, hl⟩ := F
  rw [Array.length_toList] at hz
  subst hz
  exact Goes.via (fun t u => X.arraylength hx (by rw [eT]; exact A.1) (State.isArrayOf_alike hZ.alike A.2.1) (g := mkF m pc L (.ref a :: S)) rfl rfl hd t u) q
theorem G.iaload (X : Stand p l e R s m args below meth c T locs cells slots) (hx : p.tables.exec = Jvm.exec) (hZ : Z.Warmed39 s.vm) (eT : T.heap = h) (F : Seq Z h a .int vs) (hd : decode c.code pc = .ok (.iaload, 1)) (hj : ¬ j < 0) (hv : vs[j.toNatClampNeg]? = some v) (hp : pc + 1 = pc') (q : Goes p e below T (mkF m pc' L (v :: S)) P) : Goes p e below T (mkF m pc L (.int j :: .ref a :: S)) P := by
  subst hp
  obtain ⟨cl, q1, q2, q3, q4, q5⟩ := F.at hj hv
  exact Goes.via (fun t u => X.iaload hx (by rw [eT]; exact q1) (State.isArrayOf_alike hZ.alike q2) q3 q4 q5 (g := mkF m pc L (.int j :: .ref a :: S)) rfl rfl hd t u) q
theorem G.laload (X : Stand p l e R s m args below meth c T locs cells slots) (hx : p.tables.exec = Jvm.exec) (hZ : Z.Warmed39 s.vm) (eT : T.heap = h) (F : Seq Z h a .long vs) (hd : decode c.code pc = .ok (.laload, 1)) (hj : ¬ j < 0) (hv : vs[j.toNatClampNeg]? = some v) (hp : pc + 1 = pc') (q : Goes p e below T (mkF m pc' L (v :: S)) P) : Goes p e below T (mkF m pc L (.int j :: .ref a :: S)) P := by
  subst hp
  obtain ⟨cl, q1, q2, q3, q4, q5⟩ := F.at hj hv
  exact Goes.via (fun t u => X.laload hx (by rw [eT]; exact q1) (State.isArrayOf_alike hZ.alike q2) q3 q4 q5 (g := mkF m pc L (.int j :: .ref a :: S)) rfl rfl hd t u) q
theorem G.baload (X : Stand p l e R s m args below meth c T locs cells slots) (hx : p.tables.exec = Jvm.exec) (hZ : Z.Warmed39 s.vm) (eT : T.heap = h) (F : Seq Z h a .byte vs) (hd : decode c.code pc = .ok (.baload, 1)) (hj : ¬ j < 0) (hv : vs[j.toNatClampNeg]? = some v) (hp : pc + 1 = pc') (q : Goes p e below T (mkF m pc' L (v :: S)) P) : Goes p e below T (mkF m pc L (.int j :: .ref a :: S)) P := by
  subst hp
  obtain ⟨cl, q1, q2, q3, q4, q5⟩ := F.at hj hv
  exact Goes.via (fun t u => X.baloadBytes hx (by rw [eT]; exact q1) (State.isArrayOf_alike hZ.alike q2) q3 q4 q5 (g := mkF m pc L (.int j :: .ref a :: S)) rfl rfl hd t u) q
theorem G.zaload (X : Stand p l e R s m args below meth c T locs cells slots) (hx : p.tables.exec = Jvm.exec) (hZ : Z.Warmed39 s.vm) (eT : T.heap = h) (F : Seq Z h a .boolean vs) (hd : decode c.code pc = .ok (.baload, 1)) (hj : ¬ j < 0) (hv : vs[j.toNatClampNeg]? = some v) (hp : pc + 1 = pc') (q : Goes p e below T (mkF m pc' L (v :: S)) P) : Goes p e below T (mkF m pc L (.int j :: .ref a :: S)) P := by
  subst hp
  obtain ⟨cl, q1, q2, q3, q4, q5⟩ := F.at hj hv
  exact Goes.via (fun t u => X.baloadBooleans hx (by rw [eT]; exact q1) (State.isArrayOf_alike hZ.alike q2) q3 q4 q5 (g := mkF m pc L (.int j :: .ref a :: S)) rfl rfl hd t u) q
theorem G.caload (X : Stand p l e R s m args below meth c T locs cells slots) (hx : p.tables.exec = Jvm.exec) (hZ : Z.Warmed39 s.vm) (eT : T.heap = h) (F : Seq Z h a .char vs) (hd : decode c.code pc = .ok (.caload, 1)) (hj : ¬ j < 0) (hv : vs[j.toNatClampNeg]? = some v) (hp : pc + 1 = pc') (q : Goes p e below T (mkF m pc' L (v :: S)) P) : Goes p e below T (mkF m pc L (.int j :: .ref a :: S)) P := by
  subst hp
  obtain ⟨cl, q1, q2, q3, q4, q5⟩ := F.at hj hv
  exact Goes.via (fun t u => X.caload hx (by rw [eT]; exact q1) (State.isArrayOf_alike hZ.alike q2) q3 q4 q5 (g := mkF m pc L (.int j :: .ref a :: S)) rfl rfl hd t u) q
theorem G.aaload (X : Stand p l e R s m args below meth c T locs cells slots) (hx : p.tables.exec = Jvm.exec) (hZ : Z.Warmed39 s.vm) (eT : T.heap = h) (F : Seq Z h a ty vs) (hty : ty.isReference = true) (hd : decode c.code pc = .ok (.aaload, 1)) (hj : ¬ j < 0) (hv : vs[j.toNatClampNeg]? = some v) (hp : pc + 1 = pc') (q : Goes p e below T (mkF m pc' L (v :: S)) P) : Goes p e below T (mkF m pc L (.int j :: .ref a :: S)) P := by
  subst hp
  obtain ⟨cl, q1, q2, q3, q4, q5⟩ := F.at hj hv
  exact Goes.via (fun t u => X.aaload hx (by rw [eT]; exact q1) (State.isArrayOf_alike hZ.alike q2) hty q3 q4 q5 (g := mkF m pc L (.int j :: .ref a :: S)) rfl rfl hd t u) q
theorem G.iastore (X : Stand p l e R s m args below meth c T locs cells slots) (hx : p.tables.exec = Jvm.exec) (hZ : Z.Warmed39 s.vm) (eT : T.heap = h) (F : Seq Z h a .int vs) {x : Int32} (hd : decode c.code pc = .ok (.iastore, 1)) (hj : ¬ j < 0) (hi : j.toNatClampNeg < vs.length) (hp : pc + 1 = pc')
    (q : ∀ T' h', Stand p l e R s m args below meth c T' (locs ++ [⟨a, j.toNatClampNeg⟩]) cells slots → T'.heap = h' → Wr h h' a j.toNatClampNeg (.int x) → Seq Z h' a .int (vs.set j.toNatClampNeg (.int x)) → Goes p e below T' (mkF m pc' L S) P) : Goes p e below T (mkF m pc L (.int x :: .int j :: .ref a :: S)) P := by
  subst hp
  obtain ⟨cl, A, hj'⟩ := F.inb hj hi
  obtain ⟨T', h', X', e', W', st⟩ := Jvm.RoadKit.stI X hx hZ eT A hj' (g := mkF m pc L (.int x :: .int j :: .ref a :: S)) rfl rfl hd
  exact Goes.via st (q T' h' X' e' W' (F.set W'))
theorem G.lastore (X : Stand p l e R s m args below meth c T locs cells slots) (hx : p.tables.exec = Jvm.exec) (hZ : Z.Warmed39 s.vm) (eT : T.heap = h) (F : Seq Z h a .long vs) {x : Int64} (hd : decode c.code pc = .ok (.lastore, 1)) (hj : ¬ j < 0) (hi : j.toNatClampNeg < vs.length) (hp : pc + 1 = pc')
    (q : ∀ T' h', Stand p l e R s m args below meth c T' (locs ++ [⟨a, j.toNatClampNeg⟩]) cells slots → T'.heap = h' → Wr h h' a j.toNatClampNeg (.long x) → Seq Z h' a .long (vs.set j.toNatClampNeg (.long x)) → Goes p e below T' (mkF m pc' L S) P) : Goes p e below T (mkF m pc L (.long x :: .int j :: .ref a :: S)) P := by
  subst hp
  obtain ⟨cl, A, hj'⟩ := F.inb hj hi
  obtain ⟨T', h', X', e', W', st⟩ := Jvm.RoadKit.stJ X hx hZ eT A hj' (g := mkF m pc L (.long x :: .int j :: .ref a :: S)) rfl rfl hd
  exact Goes.via st (q T' h' X' e' W' (F.set W'))
theorem G.bastore (X : Stand p l e R s m args below meth c T locs cells slots) (hx : p.tables.exec = Jvm.exec) (hZ : Z.Warmed39 s.vm) (eT : T.heap = h) (F : Seq Z h a .byte vs) {x : Int32} (hd : decode c.code pc = .ok (.bastore, 1)) (hj : ¬ j < 0) (hi : j.toNatClampNeg < vs.length) (hp : pc + 1 = pc')
    (q : ∀ T' h', Stand p l e R s m args below meth c T' (locs ++ [⟨a, j.toNatClampNeg⟩]) cells slots → T'.heap = h' → Wr h h' a j.toNatClampNeg (.int (nar .byte x)) → Seq Z h' a .byte (vs.set j.toNatClampNeg (.int (nar .byte x))) → Goes p e below T' (mkF m pc' L S) P) : Goes p e below T (mkF m pc L (.int x :: .int j :: .ref a :: S)) P := by
  subst hp
  obtain ⟨cl, A, hj'⟩ := F.inb hj hi
  obtain ⟨T', h', X', e', W', st⟩ := Jvm.RoadKit.stB X hx hZ eT A hj' (g := mkF m pc L (.int x :: .int j :: .ref a :: S)) rfl rfl hd
  exact Goes.via st (q T' h' X' e' W' (F.set W'))
theorem G.zastore (X : Stand p l e R s m args below meth c T locs cells slots) (hx : p.tables.exec = Jvm.exec) (hZ : Z.Warmed39 s.vm) (eT : T.heap = h) (F : Seq Z h a .boolean vs) {x : Int32} (hd : decode c.code pc = .ok (.bastore, 1)) (hj : ¬ j < 0) (hi : j.toNatClampNeg < vs.length) (hp : pc + 1 = pc')
    (q : ∀ T' h', Stand p l e R s m args below meth c T' (locs ++ [⟨a, j.toNatClampNeg⟩]) cells slots → T'.heap = h' → Wr h h' a j.toNatClampNeg (.int (nar .boolean x)) → Seq Z h' a .boolean (vs.set j.toNatClampNeg (.int (nar .boolean x))) → Goes p e below T' (mkF m pc' L S) P) : Goes p e below T (mkF m pc L (.int x :: .int j :: .ref a :: S)) P := by
  subst hp
  obtain ⟨cl, A, hj'⟩ := F.inb hj hi
  obtain ⟨T', h', X', e', W', st⟩ := Jvm.RoadKit.stZ X hx hZ eT A hj' (g := mkF m pc L (.int x :: .int j :: .ref a :: S)) rfl rfl hd
  exact Goes.via st (q T' h' X' e' W' (F.set W'))
theorem G.castore (X : Stand p l e R s m args below meth c T locs cells slots) (hx : p.tables.exec = Jvm.exec) (hZ : Z.Warmed39 s.vm) (eT : T.heap = h) (F : Seq Z h a .char vs) {x : Int32} (hd : decode c.code pc = .ok (.castore, 1)) (hj : ¬ j < 0) (hi : j.toNatClampNeg < vs.length) (hp : pc + 1 = pc')
    (q : ∀ T' h', Stand p l e R s m args below meth c T' (locs ++ [⟨a, j.toNatClampNeg⟩]) cells slots → T'.heap = h' → Wr h h' a j.toNatClampNeg (.int (nar .char x)) → Seq Z h' a .char (vs.set j.toNatClampNeg (.int (nar .char x))) → Goes p e below T' (mkF m pc' L S) P) : Goes p e below T (mkF m pc L (.int x :: .int j :: .ref a :: S)) P := by
  subst hp
  obtain ⟨cl, A, hj'⟩ := F.inb hj hi
  obtain ⟨T', h', X', e', W', st⟩ := Jvm.RoadKit.stC X hx hZ eT A hj' (g := mkF m pc L (.int x :: .int j :: .ref a :: S)) rfl rfl hd
  exact Goes.via st (q T' h' X' e' W' (F.set W'))
variable {y : MethodName} {bytes : ByteArray} {maxL : Nat} {ret : Option FieldType} {rm : Room} {argsL S0 : List Value} {W : Nat} {QQ : Option Value → Heap → List Loc → Prop}
theorem G.callS (X : Stand p l e R s m args below meth c T locs cells slots) (hx : p.tables.exec = Jvm.exec) (hZ : Z.Warmed39 s.vm) {own : String} {index : Nat} (hown : s.vm.findClass own = some m.cls) (w1 : (Cond.methodLink own index y).before a0 Z = true) (w2 : (Cond.static y).before a0 Z = true) (w3 : (Cond.initialized y.cls).before a0 Z = true) (w4 : (Cond.code y bytes maxL ret).before a0 Z = true)
    (hy : y.cls ≠ "java/lang/invoke/MethodHandle" ∧ y.cls ≠ "java/lang/invoke/VarHandle") (eT : T.heap = h) (hC : Con l y bytes maxL ret rm Z argsL.toArray h QQ) (hlen : ∀ sig, parseMethodDescriptor y.desc = some sig → argsL.length = sig.parameters.length) (hst : S0 = argsL.reverse ++ S) (hW : (S.map fun v => v.category).sum ≤ W)
    (hf : rm.frames + 1 ≤ R.frames) (hl : W + (maxL + 11) + rm.locals ≤ R.locals) (hc : cells + rm.cells ≤ R.cells) (hs : slots + rm.slots ≤ R.slots) (hsz : L.size = c.maxLocals) (hd : decode c.code pc = .ok (.invokestatic index, 3)) (hp : pc + 3 = pc')
    (q : ∀ T' v Lc, QQ v T'.heap Lc → Stand p l e R s m args below meth c T' (locs ++ Lc) (cells + rm.cells) (slots + rm.slots) → Goes p e below T' (mkF m pc' L (v.toList ++ S)) P) : Goes p e below T (mkF m pc L S0) P := by
  subst hp
  obtain ⟨v, vm1, ⟨T', L1, k1, n1⟩, hw1, X', ⟨Lc, hQ, l1, y1, z1⟩, st⟩ := Jvm.LawKit.callS X hx (y := y) hown (mvT hZ w1) (mvT hZ w2) (mvT hZ w3) (mvT hZ w4) hy (hC.back (W := W) hZ w4 w3 hf hl) (g := mkF m pc L S0) rfl hsz (argsL := argsL) (rest := S) hlen hst (by show 2 * 0 + _ ≤ _; omega) hd (fun _ _ => ⟨rfl, eT, hc, hs⟩)
  dsimp only [Pt.U, Pt.locs, Pt.cells, Pt.slots] at X' l1 y1 z1 st hQ
  subst l1 y1 z1
  exact Goes.via st (q T' v Lc hQ X')
theorem G.callI (X : Stand p l e R s m args below meth c T locs cells slots) (hx : p.tables.exec = Jvm.exec) (hZ : Z.Warmed39 s.vm) {own : String} {index : Nat} (hy1 : y.name = "<init>") (hown : s.vm.findClass own = some m.cls) (w1 : (Cond.methodLink own index y).before a0 Z = true) (w2 : (Cond.instanceMethod y).before a0 Z = true) (w3 : (Cond.initialized y.cls).before a0 Z = true) (w4 : (Cond.code y bytes maxL none).before a0 Z = true)
    (hy : y.cls ≠ "java/lang/invoke/MethodHandle" ∧ y.cls ≠ "java/lang/invoke/VarHandle") (eT : T.heap = h) (hC : Con l y bytes maxL none rm Z (.ref a :: argsL).toArray h QQ) (hlen : ∀ sig, parseMethodDescriptor y.desc = some sig → argsL.length = sig.parameters.length) (hst : S0 = argsL.reverse ++ .ref a :: S) (hW : (S.map fun v => v.category).sum ≤ W)
    (hf : rm.frames + 1 ≤ R.frames) (hl : W + (maxL + 11) + rm.locals ≤ R.locals) (hc : cells + rm.cells ≤ R.cells) (hs : slots + rm.slots ≤ R.slots) (hsz : L.size = c.maxLocals) (hd : decode c.code pc = .ok (.invokespecial index, 3)) (hp : pc + 3 = pc')
    (q : ∀ T' v Lc, QQ v T'.heap Lc → Stand p l e R s m args below meth c T' (locs ++ Lc) (cells + rm.cells) (slots + rm.slots) → Goes p e below T' (mkF m pc' L (v.toList ++ S)) P) : Goes p e below T (mkF m pc L S0) P := by
  subst hp
  obtain ⟨v, vm1, ⟨T', L1, k1, n1⟩, hw1, X', ⟨Lc, hQ, l1, y1, z1⟩, st⟩ := X.specialBack hx (y := y) hy1 hown (mvT hZ w1) (mvT hZ w2) (mvT hZ w4) hy (hC.back (W := W) hZ w4 w3 hf hl) (g := mkF m pc L S0) rfl hsz (Steps.refl _) (a := a) (argsL := argsL) (rest := S) hlen hst (by show 2 * 0 + _ ≤ _; omega) hd (fun _ _ => ⟨rfl, eT, hc, hs⟩)
  dsimp only [Pt.U, Pt.locs, Pt.cells, Pt.slots] at X' l1 y1 z1 st hQ
  subst l1 y1 z1
  exact Goes.thru st (q T' v Lc hQ X')
theorem G.callV (X : Stand p l e R s m args below meth c T locs cells slots) (hx : p.tables.exec = Jvm.exec) (hZ : Z.Warmed39 s.vm) {own C : String} {index : Nat} {y0 : MethodName} (hown : s.vm.findClass own = some m.cls) (w1 : (Cond.methodLink own index y0).before a0 Z = true) (w2 : (Cond.declares y0).before a0 Z = true) (hnf : NotFace s y0) (w3 : (Cond.selects C y0 y).before a0 Z = true) (w4 : (Cond.instanceMethod y).before a0 Z = true) (w5 : (Cond.initialized y.cls).before a0 Z = true) (w6 : (Cond.code y bytes maxL ret).before a0 Z = true)
    (hy : y0.cls ≠ "java/lang/invoke/MethodHandle" ∧ y0.cls ≠ "java/lang/invoke/VarHandle") (eT : T.heap = h) (E : Exa Z h a C) (hC : Con l y bytes maxL ret rm Z (.ref a :: argsL).toArray h QQ) (hlen : ∀ sig, parseMethodDescriptor y0.desc = some sig → argsL.length = sig.parameters.length) (hst : S0 = argsL.reverse ++ .ref a :: S) (hW : (S.map fun v => v.category).sum ≤ W)
    (hf : rm.frames + 1 ≤ R.frames) (hl : W + (maxL + 11) + rm.locals ≤ R.locals) (hc : cells + rm.cells ≤ R.cells) (hs : slots + rm.slots ≤ R.slots) (hsz : L.size = c.maxLocals) (hd : decode c.code pc = .ok (.invokevirtual index, 3)) (hp : pc + 3 = pc')
    (q : ∀ T' v Lc, QQ v T'.heap Lc → Stand p l e R s m args below meth c T' (locs ++ Lc) (cells + rm.cells) (slots + rm.slots) → Goes p e below T' (mkF m pc' L (v.toList ++ S)) P) : Goes p e below T (mkF m pc L S0) P := by
  subst hp
  obtain ⟨cB, kB, i1, i2, i3⟩ := isOf hZ eT E
  obtain ⟨v, vm1, ⟨T', L1, k1, n1⟩, hw1, X', ⟨Lc, hQ, l1, y1, z1⟩, st⟩ := X.virtualBack hx (y := y0) (z := y) hown (mvT hZ w1) (mvT hZ w2) hnf (mvT hZ w3) (mvT hZ w4) hy (hC.back (W := W) hZ w6 w5 hf hl) i1 i3 (g := mkF m pc L S0) rfl hsz (Steps.refl _) (argsL := argsL) (rest := S) hlen hst (by show 2 * 0 + _ ≤ _; omega) hd (fun _ _ => ⟨rfl, eT, hc, hs⟩)
  dsimp only [Pt.U, Pt.locs, Pt.cells, Pt.slots] at X' l1 y1 z1 st hQ
  subst l1 y1 z1
  exact Goes.thru st (q T' v Lc hQ X')
def Pur (v0 : Option Value) (h0 : Heap) (v : Option Value) (h : Heap) (L : List Loc) : Prop := v = v0 ∧ h = h0 ∧ L = []
theorem Seq.arv (F : Seq Z h a ty vs) (hf : ∀ v ∈ vs, fits ty v = true) {z : Int32} (hz : z.toNatClampNeg = vs.length) (hz0 : ¬ z < 0) (dv : Value) : ∃ k, Arv Z h a k ty z vs dv := by
  obtain ⟨cl, A, rfl, hl⟩ := F
  rw [Array.length_toList] at hz
  have hg : ∀ i, i < cl.slots.size → cl.slots[i]? = some (cl.slots.toList.getD i dv) := fun i hi => by
    rw [List.getD_eq_getElem?_getD, Array.getElem?_toList, Array.getElem?_eq_getElem hi]; rfl
  refine ⟨cl.cls, cl, A, rfl, hz.symm, hz0, hg, fun i hi => hf _ ?_⟩
  have := hg i hi
  rw [Array.getElem?_eq_getElem hi] at this
  rw [← Option.some.inj this]
  exact Array.mem_toList_iff.mpr (Array.getElem_mem hi)
theorem Arv.seq {k : ClassId} {z : Int32} {dv : Value} (F : Arv Z h a k ty z vs dv) (hl : vs.length = z.toNatClampNeg) : Seq Z h a ty vs := by
  obtain ⟨cl, A, -, S, hz, H, -⟩ := F
  refine ⟨cl, A, ?_, ?_⟩
  · apply List.ext_getElem?
    intro i
    rw [Array.getElem?_toList]
    by_cases hi : i < cl.slots.size
    · rw [H i hi, List.getD_eq_getElem?_getD, List.getElem?_eq_getElem (by omega)]; rfl
    · rw [Array.getElem?_eq_none (by omega), List.getElem?_eq_none (by omega)]
  · have := Int32.toInt_lt z
    rw [hl]; simp only [Int32.toNatClampNeg]; omega
/-- System.arraycopy of the whole int[] a into the head of the int[] b -/
theorem G.copyInts (X : Stand p l e R s m args below meth c T locs cells slots) (hx : p.tables.exec = Jvm.exec) (hZ : Z.Warmed39 s.vm) {own : String} {index : Nat} (hown : s.vm.findClass own = some m.cls) (w1 : (Cond.methodLink own index Jvm.Stand.acN).before a0 Z = true) (w2 : (Cond.native Jvm.Stand.acN).before a0 Z = true) (w3 : (Cond.static Jvm.Stand.acN).before a0 Z = true) (w4 : (Cond.initialized "java/lang/System").before a0 Z = true) (eT : T.heap = h)
    {xs ys : List Value} (A : Seq Z h a .int xs) (B : Seq Z h b .int ys) (hfx : ∀ v ∈ xs, fits .int v = true) (hfy : ∀ v ∈ ys, fits .int v = true) {z z' : Int32} (hz : z.toNatClampNeg = xs.length) (hz0 : ¬ z < 0) (hz' : z'.toNatClampNeg = ys.length) (hz0' : ¬ z' < 0) (hle : xs.length ≤ ys.length) {n0 : Nat} (N : Fr n0 locs) (ge : n0 ≤ b)
    (hsz : L.size = c.maxLocals) (hd : decode c.code pc = .ok (.invokestatic index, 3)) (hf : 1 ≤ R.frames) {W : Nat} (hW : (S.map fun v => v.category).sum ≤ W) (hlo : W + (nativeFrameWords "java/lang/System" "arraycopy" 5 + 11) ≤ R.locals) (hp : pc + 3 = pc')
    (q : ∀ T' h' L', Stand p l e R s m args below meth c T' L' cells slots → T'.heap = h' → Fr n0 L' → Keep h h' [b] → Seq Z h' b .int (xs ++ ys.drop xs.length) → Goes p e below T' (mkF m pc' L S) P) : Goes p e below T (mkF m pc L (.int z :: .int (0 : Int32) :: .ref b :: .int (0 : Int32) :: .ref a :: S)) P := by
  subst hp
  obtain ⟨ka, FA⟩ := A.arv hfx hz hz0 (.int 0)
  obtain ⟨kb, FB⟩ := B.arv hfy hz' hz0' (.int 0)
  have e0 : (0 : Int32).toNatClampNeg = 0 := rfl
  have hus : xs = (List.range z.toNatClampNeg).map fun i => xs.getD ((0 : Int32).toNatClampNeg + i) (.int 0) := by
    refine List.ext_getElem (by simp [hz]) fun i h1 h2 => ?_
    simp [List.getD_eq_getElem?_getD, h1, e0]
  obtain ⟨T', h', L', X', e', N', K', F', st⟩ := Jvm.RoadKit.cpA X hx hZ hown w1 w2 w3 w4 eT (us := xs) FA FB (Or.inl ⟨rfl, rfl⟩) (sp := 0) (dp := 0) (nn := z) (by decide) (by decide) hz0 (by rw [e0]; omega) (by rw [e0]; omega) hus (by rw [e0]; omega) N ge (g := mkF m pc L (.int z :: .int (0 : Int32) :: .ref b :: .int (0 : Int32) :: .ref a :: S)) rfl hsz rfl hd hf (W := W) (by show 2 * 0 + _ ≤ _; omega) hlo
  refine Goes.via st (q T' h' L' X' e' N' K' ?_)
  have := Arv.seq F' (by rw [e0]; simp; omega)
  rw [e0, hz] at this
  simpa using this
theorem sel_priv {s : State} {args : Array Value} {n : Nat} (hins : (Cond.instantiable y.cls n).before args s = true) (hpriv : (Cond.privateMethod y).before args s = true) (hinst : (Cond.instanceMethod y).before args s = true) (hy : y.cls ≠ "java/lang/invoke/MethodHandle" ∧ y.cls ≠ "java/lang/invoke/VarHandle") : (Cond.selects y.cls y y).before args s = true := by
  obtain ⟨c, k, hc, hk, -, hniab, -, -⟩ := Cond.instantiable_spec hins
  have hni : k.isInterface = false := (Bool.or_eq_false_iff.mp hniab).1
  obtain ⟨mk, methM, hnamed, hmethM, -, -⟩ := Cond.instanceMethod_spec hinst
  have hfound : s.methodFound? y.cls y.name y.desc = some mk := State.methodFound?_of_named hnamed hy
  have hcls : mk.cls = c := Option.some.inj ((findClass_of_methodNamed hnamed).symm.trans hc)
  have hsel : selectMethod {} s.vm c mk = .method mk := selectMethod_private hmethM (Cond.privateMethod_at hpriv mk methM hnamed hmethM)
  simp only [Cond.before, Cond.holds, Cond.value, hc, hfound, hnamed, hsel, hcls, hk]
  simp; exact hni
theorem G.callP (X : Stand p l e R s m args below meth c T locs cells slots) (hx : p.tables.exec = Jvm.exec) (hZ : Z.Warmed39 s.vm) {own : String} {index : Nat} (hown : s.vm.findClass own = some m.cls) (w1 : (Cond.methodLink own index y).before a0 Z = true) (w2 : (Cond.instanceMethod y).before a0 Z = true) {kk : Nat} (w3 : (Cond.instantiable y.cls kk).before a0 Z = true) (w4 : (Cond.privateMethod y).before a0 Z = true) (w5 : (Cond.initialized y.cls).before a0 Z = true) (w6 : (Cond.code y bytes maxL ret).before a0 Z = true)
    (hy : y.cls ≠ "java/lang/invoke/MethodHandle" ∧ y.cls ≠ "java/lang/invoke/VarHandle") (eT : T.heap = h) {C : String} (E : Exa Z h a C) (hC : Con l y bytes maxL ret rm Z (.ref a :: argsL).toArray h QQ) (hlen : ∀ sig, parseMethodDescriptor y.desc = some sig → argsL.length = sig.parameters.length) (hst : S0 = argsL.reverse ++ .ref a :: S) (hW : (S.map fun v => v.category).sum ≤ W)
    (hf : rm.frames + 1 ≤ R.frames) (hl : W + (maxL + 11) + rm.locals ≤ R.locals) (hc : cells + rm.cells ≤ R.cells) (hs : slots + rm.slots ≤ R.slots) (hsz : L.size = c.maxLocals) (hd : decode c.code pc = .ok (.invokevirtual index, 3)) (hp : pc + 3 = pc')
    (q : ∀ T' v Lc, QQ v T'.heap Lc → Stand p l e R s m args below meth c T' (locs ++ Lc) (cells + rm.cells) (slots + rm.slots) → Goes p e below T' (mkF m pc' L (v.toList ++ S)) P) : Goes p e below T (mkF m pc L S0) P := by
  subst hp
  obtain ⟨cl, i1, i2⟩ := E.cell
  obtain ⟨v, vm1, ⟨T', L1, k1, n1⟩, hw1, X', ⟨Lc, hQ, l1, y1, z1⟩, st⟩ := X.privateBack hx (y := y) hown (mvT hZ w1) (mvT hZ w2) (sel_priv (mvT hZ w3) (mvP hZ w4) (mvT hZ w2) hy) (Cond.privateMethod_at (mvP hZ w4 (args := #[]))) (mvT hZ w6) hy (hC.back (W := W) hZ w6 w5 hf hl) (g := mkF m pc L S0) rfl hsz (Steps.refl _) (a := a) (by rw [eT]; exact i1) i2 (argsL := argsL) (rest := S) hlen hst (by show 2 * 0 + _ ≤ _; omega) hd (fun _ _ => ⟨rfl, eT, hc, hs⟩)
  dsimp only [Pt.U, Pt.locs, Pt.cells, Pt.slots] at X' l1 y1 z1 st hQ
  subst l1 y1 z1
  exact Goes.thru st (q T' v Lc hQ X')
theorem Sta.keep0 {C n d : String} (F : Sta Z h C n d v) (K : Keep h h' []) : Sta Z h' C n d v := by
  obtain ⟨cf, i, k, f, st, cell, h1, h2, h3, h4, h5, r⟩ := F
  exact ⟨cf, i, k, f, st, cell, h1, h2, h3, h4, K.2.1 _ _ h5 nin0, r⟩
theorem Goes.join {α : Type} {F : α → JFrame} (k : (∀ z, Goes p e below T (F z) P) → Goes p e below T f P) (hj : ∀ z, Goes p e below T (F z) P) : Goes p e below T f P := k hj
theorem Goes.to (k : Goes p e below T f' P → Goes p e below T f P) (q : Goes p e below T f' P) : Goes p e below T f P := k q
theorem Goes.toT (Φ : State → Prop) (k : (∀ T', Φ T' → Goes p e below T' f' P) → Goes p e below T f P) (q : ∀ T', Φ T' → Goes p e below T' f' P) : Goes p e below T f P := k q
end G
end Jvm.OwnKit
namespace Jvm.Pilot.@@N@@
open Jvm Jvm.ClassFile Sem Op Lib Jvm.Free Jvm.Stand Jvm.LawKit Jvm.RoadKit Jvm.OwnKit Bundle Jvm.Pilot.@@N@@.Jvm.D
theorem d8_0 : decode jdk_29_method_69_code 0 = .ok (.iload_n 0, 1) := by decide +kernel
theorem d8_1 : decode jdk_29_method_69_code 1 = .ok (.iload_n 1, 1) := by decide +kernel
theorem d8_2 : decode jdk_29_method_69_code 2 = .ok (.if_icmp .gt 7, 3) := by decide +kernel
theorem d8_9 : decode jdk_29_method_69_code 9 = .ok (.iload_n 1, 1) := by decide +kernel
theorem d8_10 : decode jdk_29_method_69_code 10 = .ok (.ireturn, 1) := by decide +kernel
theorem d8_5 : decode jdk_29_method_69_code 5 = .ok (.iload_n 0, 1) := by decide +kernel
theorem d8_6 : decode jdk_29_method_69_code 6 = .ok (.goto 4, 3) := by decide +kernel
theorem ef8_II (m : MethodId) (x0 : Int32) (x1 : Int32) : entryFrame m #[(.int x0), (.int x1)] 2 = mkF m 0 #[.val (.int x0), .val (.int x1)] [] := by first | (simp [entryFrame, mkF, argsToLocals, Value.category]; done) | rfl
theorem d9_0 : decode prog_13_method_5_code 0 = .ok (.aload_n 0, 1) := by decide +kernel
theorem d9_1 : decode prog_13_method_5_code 1 = .ok (.getfield 17, 3) := by decide +kernel
theorem d9_4 : decode prog_13_method_5_code 4 = .ok (.iload_n 1, 1) := by decide +kernel
theorem d9_5 : decode prog_13_method_5_code 5 = .ok (.iaload, 1) := by decide +kernel
theorem d9_6 : decode prog_13_method_5_code 6 = .ok (.istore_n 2, 1) := by decide +kernel
theorem d9_7 : decode prog_13_method_5_code 7 = .ok (.aload_n 0, 1) := by decide +kernel
theorem d9_8 : decode prog_13_method_5_code 8 = .ok (.getfield 21, 3) := by decide +kernel
theorem d9_11 : decode prog_13_method_5_code 11 = .ok (.iload_n 1, 1) := by decide +kernel
theorem d9_12 : decode prog_13_method_5_code 12 = .ok (.iaload, 1) := by decide +kernel
theorem d9_13 : decode prog_13_method_5_code 13 = .ok (.istore_n 3, 1) := by decide +kernel
theorem d9_14 : decode prog_13_method_5_code 14 = .ok (.aload_n 0, 1) := by decide +kernel
theorem d9_15 : decode prog_13_method_5_code 15 = .ok (.getfield 17, 3) := by decide +kernel
theorem d9_18 : decode prog_13_method_5_code 18 = .ok (.iload_n 3, 1) := by decide +kernel
theorem d9_19 : decode prog_13_method_5_code 19 = .ok (.iload_n 2, 1) := by decide +kernel
theorem d9_20 : decode prog_13_method_5_code 20 = .ok (.iastore, 1) := by decide +kernel
theorem d9_21 : decode prog_13_method_5_code 21 = .ok (.aload_n 0, 1) := by decide +kernel
theorem d9_22 : decode prog_13_method_5_code 22 = .ok (.getfield 21, 3) := by decide +kernel
theorem d9_25 : decode prog_13_method_5_code 25 = .ok (.iload_n 2, 1) := by decide +kernel
theorem d9_26 : decode prog_13_method_5_code 26 = .ok (.iload_n 3, 1) := by decide +kernel
theorem d9_27 : decode prog_13_method_5_code 27 = .ok (.iastore, 1) := by decide +kernel
theorem d9_28 : decode prog_13_method_5_code 28 = .ok (.return_, 1) := by decide +kernel
theorem ef9_RI (m : MethodId) (x0 : Addr) (x1 : Int32) : entryFrame m #[(.ref x0), (.int x1)] 4 = mkF m 0 #[.val (.ref x0), .val (.int x1), .unset, .unset] [] := by first | (simp [entryFrame, mkF, argsToLocals, Value.category]; done) | rfl
theorem pn_0 : plainName "com/example/netlocus/netlocus/BucketQueue" = true := by first | (simp [plainName, overriddenIn]; done) | decide +kernel
theorem d7_0 : decode prog_13_method_3_code 0 = .ok (.aload_n 0, 1) := by decide +kernel
theorem d7_1 : decode prog_13_method_3_code 1 = .ok (.getfield 21, 3) := by decide +kernel
theorem d7_4 : decode prog_13_method_3_code 4 = .ok (.iload_n 1, 1) := by decide +kernel
theorem d7_5 : decode prog_13_method_3_code 5 = .ok (.iaload, 1) := by decide +kernel
theorem d7_6 : decode prog_13_method_3_code 6 = .ok (.iconst (-1), 1) := by decide +kernel
theorem d7_7 : decode prog_13_method_3_code 7 = .ok (.if_icmp .ne 16, 3) := by decide +kernel
theorem d7_10 : decode prog_13_method_3_code 10 = .ok (.aload_n 0, 1) := by decide +kernel
theorem d7_11 : decode prog_13_method_3_code 11 = .ok (.dup, 1) := by decide +kernel
theorem d7_12 : decode prog_13_method_3_code 12 = .ok (.getfield 30, 3) := by decide +kernel
theorem d7_15 : decode prog_13_method_3_code 15 = .ok (.iconst 1, 1) := by decide +kernel
theorem d7_16 : decode prog_13_method_3_code 16 = .ok (.iadd, 1) := by decide +kernel
theorem d7_17 : decode prog_13_method_3_code 17 = .ok (.putfield 30, 3) := by decide +kernel
theorem d7_20 : decode prog_13_method_3_code 20 = .ok (.goto 8, 3) := by decide +kernel
theorem d7_28 : decode prog_13_method_3_code 28 = .ok (.aload_n 0, 1) := by decide +kernel
theorem d7_29 : decode prog_13_method_3_code 29 = .ok (.getfield 7, 3) := by decide +kernel
theorem d7_32 : decode prog_13_method_3_code 32 = .ok (.iload_n 1, 1) := by decide +kernel
theorem d7_33 : decode prog_13_method_3_code 33 = .ok (.laload, 1) := by decide +kernel
theorem d7_34 : decode prog_13_method_3_code 34 = .ok (.l2i, 1) := by decide +kernel
theorem d7_35 : decode prog_13_method_3_code 35 = .ok (.istore_n 2, 1) := by decide +kernel
theorem d7_36 : decode prog_13_method_3_code 36 = .ok (.aload_n 0, 1) := by decide +kernel
theorem d7_37 : decode prog_13_method_3_code 37 = .ok (.getfield 13, 3) := by decide +kernel
theorem d7_40 : decode prog_13_method_3_code 40 = .ok (.iload_n 2, 1) := by decide +kernel
theorem d7_41 : decode prog_13_method_3_code 41 = .ok (.iadd, 1) := by decide +kernel
theorem d7_42 : decode prog_13_method_3_code 42 = .ok (.istore_n 3, 1) := by decide +kernel
theorem d7_43 : decode prog_13_method_3_code 43 = .ok (.aload_n 0, 1) := by decide +kernel
theorem d7_44 : decode prog_13_method_3_code 44 = .ok (.getfield 17, 3) := by decide +kernel
theorem d7_47 : decode prog_13_method_3_code 47 = .ok (.iload_n 3, 1) := by decide +kernel
theorem d7_48 : decode prog_13_method_3_code 48 = .ok (.iaload, 1) := by decide +kernel
theorem d7_49 : decode prog_13_method_3_code 49 = .ok (.istore 4, 2) := by decide +kernel
theorem d7_51 : decode prog_13_method_3_code 51 = .ok (.aload_n 0, 1) := by decide +kernel
theorem d7_52 : decode prog_13_method_3_code 52 = .ok (.getfield 17, 3) := by decide +kernel
theorem d7_55 : decode prog_13_method_3_code 55 = .ok (.iload_n 3, 1) := by decide +kernel
theorem d7_56 : decode prog_13_method_3_code 56 = .ok (.iload_n 1, 1) := by decide +kernel
theorem d7_57 : decode prog_13_method_3_code 57 = .ok (.iastore, 1) := by decide +kernel
theorem d7_58 : decode prog_13_method_3_code 58 = .ok (.aload_n 0, 1) := by decide +kernel
theorem d7_59 : decode prog_13_method_3_code 59 = .ok (.getfield 21, 3) := by decide +kernel
theorem d7_62 : decode prog_13_method_3_code 62 = .ok (.iload_n 1, 1) := by decide +kernel
theorem d7_63 : decode prog_13_method_3_code 63 = .ok (.iload_n 3, 1) := by decide +kernel
theorem d7_64 : decode prog_13_method_3_code 64 = .ok (.iastore, 1) := by decide +kernel
theorem d7_65 : decode prog_13_method_3_code 65 = .ok (.aload_n 0, 1) := by decide +kernel
theorem d7_66 : decode prog_13_method_3_code 66 = .ok (.getfield 17, 3) := by decide +kernel
theorem d7_69 : decode prog_13_method_3_code 69 = .ok (.iload_n 1, 1) := by decide +kernel
theorem d7_70 : decode prog_13_method_3_code 70 = .ok (.iload 4, 2) := by decide +kernel
theorem d7_72 : decode prog_13_method_3_code 72 = .ok (.iastore, 1) := by decide +kernel
theorem d7_73 : decode prog_13_method_3_code 73 = .ok (.aload_n 0, 1) := by decide +kernel
theorem d7_74 : decode prog_13_method_3_code 74 = .ok (.getfield 21, 3) := by decide +kernel
theorem d7_77 : decode prog_13_method_3_code 77 = .ok (.iload 4, 2) := by decide +kernel
theorem d7_79 : decode prog_13_method_3_code 79 = .ok (.iload_n 1, 1) := by decide +kernel
theorem d7_80 : decode prog_13_method_3_code 80 = .ok (.iastore, 1) := by decide +kernel
theorem d7_81 : decode prog_13_method_3_code 81 = .ok (.aload_n 0, 1) := by decide +kernel
theorem d7_82 : decode prog_13_method_3_code 82 = .ok (.aload_n 0, 1) := by decide +kernel
theorem d7_83 : decode prog_13_method_3_code 83 = .ok (.getfield 37, 3) := by decide +kernel
theorem d7_86 : decode prog_13_method_3_code 86 = .ok (.iload_n 2, 1) := by decide +kernel
theorem pd_1 : parseMethodDescriptor "(II)I" = some ⟨[.int, .int], some .int⟩ := by decide +kernel
theorem d7_87 : decode prog_13_method_3_code 87 = .ok (.invokestatic 40, 3) := by decide +kernel
theorem d7_90 : decode prog_13_method_3_code 90 = .ok (.putfield 37, 3) := by decide +kernel
theorem d7_93 : decode prog_13_method_3_code 93 = .ok (.return_, 1) := by decide +kernel
theorem d7_23 : decode prog_13_method_3_code 23 = .ok (.aload_n 0, 1) := by decide +kernel
theorem d7_24 : decode prog_13_method_3_code 24 = .ok (.iload_n 1, 1) := by decide +kernel
theorem pd_2 : parseMethodDescriptor "(I)V" = some ⟨[.int], none⟩ := by decide +kernel
theorem d7_25 : decode prog_13_method_3_code 25 = .ok (.invokevirtual 33, 3) := by decide +kernel
theorem ef7_RI (m : MethodId) (x0 : Addr) (x1 : Int32) : entryFrame m #[(.ref x0), (.int x1)] 5 = mkF m 0 #[.val (.ref x0), .val (.int x1), .unset, .unset, .unset] [] := by first | (simp [entryFrame, mkF, argsToLocals, Value.category]; done) | rfl
theorem d10_0 : decode prog_13_method_4_code 0 = .ok (.aload_n 0, 1) := by decide +kernel
theorem d10_1 : decode prog_13_method_4_code 1 = .ok (.getfield 30, 3) := by decide +kernel
theorem d10_4 : decode prog_13_method_4_code 4 = .ok (.ifCond .ne 13, 3) := by decide +kernel
theorem d10_17 : decode prog_13_method_4_code 17 = .ok (.aload_n 0, 1) := by decide +kernel
theorem d10_18 : decode prog_13_method_4_code 18 = .ok (.getfield 17, 3) := by decide +kernel
theorem d10_21 : decode prog_13_method_4_code 21 = .ok (.aload_n 0, 1) := by decide +kernel
theorem d10_22 : decode prog_13_method_4_code 22 = .ok (.getfield 13, 3) := by decide +kernel
theorem d10_25 : decode prog_13_method_4_code 25 = .ok (.aload_n 0, 1) := by decide +kernel
theorem d10_26 : decode prog_13_method_4_code 26 = .ok (.getfield 37, 3) := by decide +kernel
theorem d10_29 : decode prog_13_method_4_code 29 = .ok (.iadd, 1) := by decide +kernel
theorem d10_30 : decode prog_13_method_4_code 30 = .ok (.iaload, 1) := by decide +kernel
theorem d10_31 : decode prog_13_method_4_code 31 = .ok (.aload_n 0, 1) := by decide +kernel
theorem d10_32 : decode prog_13_method_4_code 32 = .ok (.getfield 13, 3) := by decide +kernel
theorem d10_35 : decode prog_13_method_4_code 35 = .ok (.aload_n 0, 1) := by decide +kernel
theorem d10_36 : decode prog_13_method_4_code 36 = .ok (.getfield 37, 3) := by decide +kernel
theorem d10_39 : decode prog_13_method_4_code 39 = .ok (.iadd, 1) := by decide +kernel
theorem d10_40 : decode prog_13_method_4_code 40 = .ok (.if_icmp .ne 16, 3) := by decide +kernel
theorem d10_43 : decode prog_13_method_4_code 43 = .ok (.aload_n 0, 1) := by decide +kernel
theorem d10_44 : decode prog_13_method_4_code 44 = .ok (.dup, 1) := by decide +kernel
theorem d10_45 : decode prog_13_method_4_code 45 = .ok (.getfield 37, 3) := by decide +kernel
theorem d10_48 : decode prog_13_method_4_code 48 = .ok (.iconst 1, 1) := by decide +kernel
theorem d10_49 : decode prog_13_method_4_code 49 = .ok (.iadd, 1) := by decide +kernel
theorem d10_50 : decode prog_13_method_4_code 50 = .ok (.putfield 37, 3) := by decide +kernel
theorem d10_53 : decode prog_13_method_4_code 53 = .ok (.goto (-36), 3) := by decide +kernel
theorem d10_56 : decode prog_13_method_4_code 56 = .ok (.aload_n 0, 1) := by decide +kernel
theorem d10_57 : decode prog_13_method_4_code 57 = .ok (.getfield 17, 3) := by decide +kernel
theorem d10_60 : decode prog_13_method_4_code 60 = .ok (.aload_n 0, 1) := by decide +kernel
theorem d10_61 : decode prog_13_method_4_code 61 = .ok (.getfield 13, 3) := by decide +kernel
theorem d10_64 : decode prog_13_method_4_code 64 = .ok (.aload_n 0, 1) := by decide +kernel
theorem d10_65 : decode prog_13_method_4_code 65 = .ok (.getfield 37, 3) := by decide +kernel
theorem d10_68 : decode prog_13_method_4_code 68 = .ok (.iadd, 1) := by decide +kernel
theorem d10_69 : decode prog_13_method_4_code 69 = .ok (.iaload, 1) := by decide +kernel
theorem d10_70 : decode prog_13_method_4_code 70 = .ok (.istore_n 1, 1) := by decide +kernel
theorem d10_71 : decode prog_13_method_4_code 71 = .ok (.aload_n 0, 1) := by decide +kernel
theorem d10_72 : decode prog_13_method_4_code 72 = .ok (.iload_n 1, 1) := by decide +kernel
theorem d10_73 : decode prog_13_method_4_code 73 = .ok (.invokevirtual 33, 3) := by decide +kernel
theorem d10_76 : decode prog_13_method_4_code 76 = .ok (.aload_n 0, 1) := by decide +kernel
theorem d10_77 : decode prog_13_method_4_code 77 = .ok (.getfield 21, 3) := by decide +kernel
theorem d10_80 : decode prog_13_method_4_code 80 = .ok (.iload_n 1, 1) := by decide +kernel
theorem d10_81 : decode prog_13_method_4_code 81 = .ok (.iconst (-1), 1) := by decide +kernel
theorem d10_82 : decode prog_13_method_4_code 82 = .ok (.iastore, 1) := by decide +kernel
theorem d10_83 : decode prog_13_method_4_code 83 = .ok (.aload_n 0, 1) := by decide +kernel
theorem d10_84 : decode prog_13_method_4_code 84 = .ok (.dup, 1) := by decide +kernel
theorem d10_85 : decode prog_13_method_4_code 85 = .ok (.getfield 30, 3) := by decide +kernel
theorem d10_88 : decode prog_13_method_4_code 88 = .ok (.iconst 1, 1) := by decide +kernel
theorem d10_89 : decode prog_13_method_4_code 89 = .ok (.isub, 1) := by decide +kernel
theorem d10_90 : decode prog_13_method_4_code 90 = .ok (.putfield 30, 3) := by decide +kernel
theorem d10_93 : decode prog_13_method_4_code 93 = .ok (.iload_n 1, 1) := by decide +kernel
theorem d10_94 : decode prog_13_method_4_code 94 = .ok (.ireturn, 1) := by decide +kernel
theorem ef10_R (m : MethodId) (x0 : Addr) : entryFrame m #[(.ref x0)] 2 = mkF m 0 #[.val (.ref x0), .unset] [] := by first | (simp [entryFrame, mkF, argsToLocals, Value.category]; done) | rfl
theorem d5_0 : decode prog_13_method_2_code 0 = .ok (.aload_n 0, 1) := by decide +kernel
theorem d5_1 : decode prog_13_method_2_code 1 = .ok (.getfield 30, 3) := by decide +kernel
theorem d5_4 : decode prog_13_method_2_code 4 = .ok (.ifCond .ne 7, 3) := by decide +kernel
theorem d5_7 : decode prog_13_method_2_code 7 = .ok (.iconst 1, 1) := by decide +kernel
theorem d5_8 : decode prog_13_method_2_code 8 = .ok (.goto 4, 3) := by decide +kernel
theorem d5_12 : decode prog_13_method_2_code 12 = .ok (.ireturn, 1) := by decide +kernel
theorem d5_11 : decode prog_13_method_2_code 11 = .ok (.iconst 0, 1) := by decide +kernel
theorem ef5_R (m : MethodId) (x0 : Addr) : entryFrame m #[(.ref x0)] 1 = mkF m 0 #[.val (.ref x0)] [] := by first | (simp [entryFrame, mkF, argsToLocals, Value.category]; done) | rfl
theorem d6_0 : decode method_3_code 0 = .ok (.iload_n 2, 1) := by decide +kernel
theorem d6_1 : decode method_3_code 1 = .ok (.iconst 1, 1) := by decide +kernel
theorem d6_2 : decode method_3_code 2 = .ok (.ishr, 1) := by decide +kernel
theorem d6_3 : decode method_3_code 3 = .ok (.iconst 3, 1) := by decide +kernel
theorem d6_4 : decode method_3_code 4 = .ok (.iand, 1) := by decide +kernel
theorem d6_5 : decode method_3_code 5 = .ok (.iconst 3, 1) := by decide +kernel
theorem d6_6 : decode method_3_code 6 = .ok (.irem, 1) := by decide +kernel
theorem d6_7 : decode method_3_code 7 = .ok (.istore_n 3, 1) := by decide +kernel
theorem d6_8 : decode method_3_code 8 = .ok (.iload_n 2, 1) := by decide +kernel
theorem d6_9 : decode method_3_code 9 = .ok (.iconst 1, 1) := by decide +kernel
theorem d6_10 : decode method_3_code 10 = .ok (.iand, 1) := by decide +kernel
theorem d6_11 : decode method_3_code 11 = .ok (.ifCond .ne 15, 3) := by decide +kernel
theorem d6_14 : decode method_3_code 14 = .ok (.aload_n 0, 1) := by decide +kernel
theorem d6_15 : decode method_3_code 15 = .ok (.iload_n 3, 1) := by decide +kernel
theorem d6_16 : decode method_3_code 16 = .ok (.invokevirtual 22, 3) := by decide +kernel
theorem d6_19 : decode method_3_code 19 = .ok (.aload_n 1, 1) := by decide +kernel
theorem d6_20 : decode method_3_code 20 = .ok (.iload_n 3, 1) := by decide +kernel
theorem d6_21 : decode method_3_code 21 = .ok (.iconst 1, 1) := by decide +kernel
theorem d6_22 : decode method_3_code 22 = .ok (.bastore, 1) := by decide +kernel
theorem d6_23 : decode method_3_code 23 = .ok (.goto 52, 3) := by decide +kernel
theorem d6_75 : decode method_3_code 75 = .ok (.aload_n 1, 1) := by decide +kernel
theorem d6_76 : decode method_3_code 76 = .ok (.iconst 0, 1) := by decide +kernel
theorem d6_77 : decode method_3_code 77 = .ok (.baload, 1) := by decide +kernel
theorem d6_78 : decode method_3_code 78 = .ok (.ifCond .ne 19, 3) := by decide +kernel
theorem d6_81 : decode method_3_code 81 = .ok (.aload_n 1, 1) := by decide +kernel
theorem d6_82 : decode method_3_code 82 = .ok (.iconst 1, 1) := by decide +kernel
theorem d6_83 : decode method_3_code 83 = .ok (.baload, 1) := by decide +kernel
theorem d6_84 : decode method_3_code 84 = .ok (.ifCond .ne 13, 3) := by decide +kernel
theorem d6_87 : decode method_3_code 87 = .ok (.aload_n 1, 1) := by decide +kernel
theorem d6_88 : decode method_3_code 88 = .ok (.iconst 2, 1) := by decide +kernel
theorem d6_89 : decode method_3_code 89 = .ok (.baload, 1) := by decide +kernel
theorem d6_90 : decode method_3_code 90 = .ok (.ifCond .ne 7, 3) := by decide +kernel
theorem d6_93 : decode method_3_code 93 = .ok (.iconst 1, 1) := by decide +kernel
theorem d6_94 : decode method_3_code 94 = .ok (.goto 4, 3) := by decide +kernel
theorem d6_98 : decode method_3_code 98 = .ok (.istore 4, 2) := by decide +kernel
theorem d6_100 : decode method_3_code 100 = .ok (.aload_n 0, 1) := by decide +kernel
theorem pd_3 : parseMethodDescriptor "()Z" = some ⟨[], some .boolean⟩ := by decide +kernel
theorem d6_101 : decode method_3_code 101 = .ok (.invokevirtual 12, 3) := by decide +kernel
theorem d6_104 : decode method_3_code 104 = .ok (.iload 4, 2) := by decide +kernel
theorem d6_106 : decode method_3_code 106 = .ok (.if_icmp .ne 7, 3) := by decide +kernel
theorem d6_109 : decode method_3_code 109 = .ok (.iconst 1, 1) := by decide +kernel
theorem d6_110 : decode method_3_code 110 = .ok (.goto 4, 3) := by decide +kernel
theorem d6_114 : decode method_3_code 114 = .ok (.ireturn, 1) := by decide +kernel
theorem d6_97 : decode method_3_code 97 = .ok (.iconst 0, 1) := by decide +kernel
theorem d6_26 : decode method_3_code 26 = .ok (.aload_n 1, 1) := by decide +kernel
theorem d6_27 : decode method_3_code 27 = .ok (.iconst 0, 1) := by decide +kernel
theorem d6_28 : decode method_3_code 28 = .ok (.baload, 1) := by decide +kernel
theorem d6_29 : decode method_3_code 29 = .ok (.ifCond .ne 15, 3) := by decide +kernel
theorem d6_32 : decode method_3_code 32 = .ok (.aload_n 1, 1) := by decide +kernel
theorem d6_33 : decode method_3_code 33 = .ok (.iconst 1, 1) := by decide +kernel
theorem d6_34 : decode method_3_code 34 = .ok (.baload, 1) := by decide +kernel
theorem d6_35 : decode method_3_code 35 = .ok (.ifCond .ne 9, 3) := by decide +kernel
theorem d6_38 : decode method_3_code 38 = .ok (.aload_n 1, 1) := by decide +kernel
theorem d6_39 : decode method_3_code 39 = .ok (.iconst 2, 1) := by decide +kernel
theorem d6_40 : decode method_3_code 40 = .ok (.baload, 1) := by decide +kernel
theorem d6_41 : decode method_3_code 41 = .ok (.ifCond .eq 34, 3) := by decide +kernel
theorem d6_44 : decode method_3_code 44 = .ok (.aload_n 0, 1) := by decide +kernel
theorem pd_4 : parseMethodDescriptor "()I" = some ⟨[], some .int⟩ := by decide +kernel
theorem d6_45 : decode method_3_code 45 = .ok (.invokevirtual 26, 3) := by decide +kernel
theorem d6_48 : decode method_3_code 48 = .ok (.istore 4, 2) := by decide +kernel
theorem d6_50 : decode method_3_code 50 = .ok (.iload 4, 2) := by decide +kernel
theorem d6_52 : decode method_3_code 52 = .ok (.ifCond .lt 16, 3) := by decide +kernel
theorem d6_55 : decode method_3_code 55 = .ok (.iload 4, 2) := by decide +kernel
theorem d6_57 : decode method_3_code 57 = .ok (.iconst 2, 1) := by decide +kernel
theorem d6_58 : decode method_3_code 58 = .ok (.if_icmp .gt 10, 3) := by decide +kernel
theorem d6_61 : decode method_3_code 61 = .ok (.aload_n 1, 1) := by decide +kernel
theorem d6_62 : decode method_3_code 62 = .ok (.iload 4, 2) := by decide +kernel
theorem d6_64 : decode method_3_code 64 = .ok (.baload, 1) := by decide +kernel
theorem d6_65 : decode method_3_code 65 = .ok (.ifCond .ne 5, 3) := by decide +kernel
theorem d6_70 : decode method_3_code 70 = .ok (.aload_n 1, 1) := by decide +kernel
theorem d6_71 : decode method_3_code 71 = .ok (.iload 4, 2) := by decide +kernel
theorem d6_73 : decode method_3_code 73 = .ok (.iconst 0, 1) := by decide +kernel
theorem d6_74 : decode method_3_code 74 = .ok (.bastore, 1) := by decide +kernel
theorem ef6_RRI (m : MethodId) (x0 : Addr) (x1 : Addr) (x2 : Int32) : entryFrame m #[(.ref x0), (.ref x1), (.int x2)] 5 = mkF m 0 #[.val (.ref x0), .val (.ref x1), .val (.int x2), .unset, .unset] [] := by first | (simp [entryFrame, mkF, argsToLocals, Value.category]; done) | rfl
theorem pn_5 : plainName "com/example/netlocus/netlocus/BucketQueueIsEmptyPinLaw" = true := by first | (simp [plainName, overriddenIn]; done) | decide +kernel
theorem d4_0 : decode jdk_65_method_30_code 0 = .ok (.iload_n 1, 1) := by decide +kernel
theorem d4_1 : decode jdk_65_method_30_code 1 = .ok (.iload_n 2, 1) := by decide +kernel
theorem d4_2 : decode jdk_65_method_30_code 2 = .ok (.if_icmp .le 44, 3) := by decide +kernel
theorem d4_46 : decode jdk_65_method_30_code 46 = .ok (.iload_n 1, 1) := by decide +kernel
theorem d4_47 : decode jdk_65_method_30_code 47 = .ok (.ifCond .ge 12, 3) := by decide +kernel
theorem d4_59 : decode jdk_65_method_30_code 59 = .ok (.iload_n 2, 1) := by decide +kernel
theorem d4_60 : decode jdk_65_method_30_code 60 = .ok (.iload_n 0, 1) := by decide +kernel
theorem d4_61 : decode jdk_65_method_30_code 61 = .ok (.if_icmp .le 12, 3) := by decide +kernel
theorem d4_73 : decode jdk_65_method_30_code 73 = .ok (.return_, 1) := by decide +kernel
theorem ef4_III (m : MethodId) (x0 : Int32) (x1 : Int32) (x2 : Int32) : entryFrame m #[(.int x0), (.int x1), (.int x2)] 3 = mkF m 0 #[.val (.int x0), .val (.int x1), .val (.int x2)] [] := by first | (simp [entryFrame, mkF, argsToLocals, Value.category]; done) | rfl
theorem pn_6 : plainName "java/util/Arrays" = true := by first | (simp [plainName, overriddenIn]; done) | decide +kernel
theorem d3_0 : decode jdk_65_method_104_code 0 = .ok (.aload_n 0, 1) := by decide +kernel
theorem d3_1 : decode jdk_65_method_104_code 1 = .ok (.arraylength, 1) := by decide +kernel
theorem d3_2 : decode jdk_65_method_104_code 2 = .ok (.iload_n 1, 1) := by decide +kernel
theorem d3_3 : decode jdk_65_method_104_code 3 = .ok (.iload_n 2, 1) := by decide +kernel
theorem pd_7 : parseMethodDescriptor "(III)V" = some ⟨[.int, .int, .int], none⟩ := by decide +kernel
theorem d3_4 : decode jdk_65_method_104_code 4 = .ok (.invokestatic 13, 3) := by decide +kernel
theorem d3_7 : decode jdk_65_method_104_code 7 = .ok (.iload_n 1, 1) := by decide +kernel
theorem d3_8 : decode jdk_65_method_104_code 8 = .ok (.istore 4, 2) := by decide +kernel
theorem d3_10 : decode jdk_65_method_104_code 10 = .ok (.iload 4, 2) := by decide +kernel
theorem d3_12 : decode jdk_65_method_104_code 12 = .ok (.iload_n 2, 1) := by decide +kernel
theorem d3_13 : decode jdk_65_method_104_code 13 = .ok (.if_icmp .ge 14, 3) := by decide +kernel
theorem d3_16 : decode jdk_65_method_104_code 16 = .ok (.aload_n 0, 1) := by decide +kernel
theorem d3_17 : decode jdk_65_method_104_code 17 = .ok (.iload 4, 2) := by decide +kernel
theorem d3_19 : decode jdk_65_method_104_code 19 = .ok (.iload_n 3, 1) := by decide +kernel
theorem d3_20 : decode jdk_65_method_104_code 20 = .ok (.iastore, 1) := by decide +kernel
theorem d3_21 : decode jdk_65_method_104_code 21 = .ok (.iinc 4 1, 3) := by decide +kernel
theorem d3_24 : decode jdk_65_method_104_code 24 = .ok (.goto (-14), 3) := by decide +kernel
theorem d3_27 : decode jdk_65_method_104_code 27 = .ok (.return_, 1) := by decide +kernel
theorem ef3_RIII (m : MethodId) (x0 : Addr) (x1 : Int32) (x2 : Int32) (x3 : Int32) : entryFrame m #[(.ref x0), (.int x1), (.int x2), (.int x3)] 5 = mkF m 0 #[.val (.ref x0), .val (.int x1), .val (.int x2), .val (.int x3), .unset] [] := by first | (simp [entryFrame, mkF, argsToLocals, Value.category]; done) | rfl
theorem d1_0 : decode prog_13_method_1_code 0 = .ok (.aload_n 0, 1) := by decide +kernel
theorem d1_1 : decode prog_13_method_1_code 1 = .ok (.invokespecial 1, 3) := by decide +kernel
theorem d1_4 : decode prog_13_method_1_code 4 = .ok (.aload_n 0, 1) := by decide +kernel
theorem d1_5 : decode prog_13_method_1_code 5 = .ok (.aload_n 1, 1) := by decide +kernel
theorem d1_6 : decode prog_13_method_1_code 6 = .ok (.putfield 7, 3) := by decide +kernel
theorem d1_9 : decode prog_13_method_1_code 9 = .ok (.aload_n 0, 1) := by decide +kernel
theorem d1_10 : decode prog_13_method_1_code 10 = .ok (.aload_n 1, 1) := by decide +kernel
theorem d1_11 : decode prog_13_method_1_code 11 = .ok (.arraylength, 1) := by decide +kernel
theorem d1_12 : decode prog_13_method_1_code 12 = .ok (.putfield 13, 3) := by decide +kernel
theorem d1_15 : decode prog_13_method_1_code 15 = .ok (.aload_n 0, 1) := by decide +kernel
theorem d1_16 : decode prog_13_method_1_code 16 = .ok (.aload_n 0, 1) := by decide +kernel
theorem d1_17 : decode prog_13_method_1_code 17 = .ok (.getfield 13, 3) := by decide +kernel
theorem d1_20 : decode prog_13_method_1_code 20 = .ok (.iload_n 2, 1) := by decide +kernel
theorem d1_21 : decode prog_13_method_1_code 21 = .ok (.iadd, 1) := by decide +kernel
theorem d1_22 : decode prog_13_method_1_code 22 = .ok (.iconst 1, 1) := by decide +kernel
theorem d1_23 : decode prog_13_method_1_code 23 = .ok (.iadd, 1) := by decide +kernel
theorem d1_24 : decode prog_13_method_1_code 24 = .ok (.newarray .int, 2) := by decide +kernel
theorem d1_26 : decode prog_13_method_1_code 26 = .ok (.putfield 17, 3) := by decide +kernel
theorem d1_29 : decode prog_13_method_1_code 29 = .ok (.aload_n 0, 1) := by decide +kernel
theorem d1_30 : decode prog_13_method_1_code 30 = .ok (.aload_n 0, 1) := by decide +kernel
theorem d1_31 : decode prog_13_method_1_code 31 = .ok (.getfield 17, 3) := by decide +kernel
theorem d1_34 : decode prog_13_method_1_code 34 = .ok (.arraylength, 1) := by decide +kernel
theorem d1_35 : decode prog_13_method_1_code 35 = .ok (.newarray .int, 2) := by decide +kernel
theorem d1_37 : decode prog_13_method_1_code 37 = .ok (.putfield 21, 3) := by decide +kernel
theorem d1_40 : decode prog_13_method_1_code 40 = .ok (.aload_n 0, 1) := by decide +kernel
theorem d1_41 : decode prog_13_method_1_code 41 = .ok (.getfield 21, 3) := by decide +kernel
theorem d1_44 : decode prog_13_method_1_code 44 = .ok (.iconst 0, 1) := by decide +kernel
theorem d1_45 : decode prog_13_method_1_code 45 = .ok (.aload_n 0, 1) := by decide +kernel
theorem d1_46 : decode prog_13_method_1_code 46 = .ok (.getfield 13, 3) := by decide +kernel
theorem d1_49 : decode prog_13_method_1_code 49 = .ok (.iconst (-1), 1) := by decide +kernel
theorem pd_8 : parseMethodDescriptor "([IIII)V" = some ⟨[(.array .int), .int, .int, .int], none⟩ := by decide +kernel
theorem d1_50 : decode prog_13_method_1_code 50 = .ok (.invokestatic 24, 3) := by decide +kernel
theorem d1_53 : decode prog_13_method_1_code 53 = .ok (.aload_n 0, 1) := by decide +kernel
theorem d1_54 : decode prog_13_method_1_code 54 = .ok (.getfield 13, 3) := by decide +kernel
theorem d1_57 : decode prog_13_method_1_code 57 = .ok (.istore_n 3, 1) := by decide +kernel
theorem d1_58 : decode prog_13_method_1_code 58 = .ok (.iload_n 3, 1) := by decide +kernel
theorem d1_59 : decode prog_13_method_1_code 59 = .ok (.aload_n 0, 1) := by decide +kernel
theorem d1_60 : decode prog_13_method_1_code 60 = .ok (.getfield 17, 3) := by decide +kernel
theorem d1_63 : decode prog_13_method_1_code 63 = .ok (.arraylength, 1) := by decide +kernel
theorem d1_64 : decode prog_13_method_1_code 64 = .ok (.if_icmp .ge 23, 3) := by decide +kernel
theorem d1_67 : decode prog_13_method_1_code 67 = .ok (.aload_n 0, 1) := by decide +kernel
theorem d1_68 : decode prog_13_method_1_code 68 = .ok (.getfield 17, 3) := by decide +kernel
theorem d1_71 : decode prog_13_method_1_code 71 = .ok (.iload_n 3, 1) := by decide +kernel
theorem d1_72 : decode prog_13_method_1_code 72 = .ok (.iload_n 3, 1) := by decide +kernel
theorem d1_73 : decode prog_13_method_1_code 73 = .ok (.iastore, 1) := by decide +kernel
theorem d1_74 : decode prog_13_method_1_code 74 = .ok (.aload_n 0, 1) := by decide +kernel
theorem d1_75 : decode prog_13_method_1_code 75 = .ok (.getfield 21, 3) := by decide +kernel
theorem d1_78 : decode prog_13_method_1_code 78 = .ok (.iload_n 3, 1) := by decide +kernel
theorem d1_79 : decode prog_13_method_1_code 79 = .ok (.iload_n 3, 1) := by decide +kernel
theorem d1_80 : decode prog_13_method_1_code 80 = .ok (.iastore, 1) := by decide +kernel
theorem d1_81 : decode prog_13_method_1_code 81 = .ok (.iinc 3 1, 3) := by decide +kernel
theorem d1_84 : decode prog_13_method_1_code 84 = .ok (.goto (-26), 3) := by decide +kernel
theorem d1_87 : decode prog_13_method_1_code 87 = .ok (.return_, 1) := by decide +kernel
theorem ef1_RRI (m : MethodId) (x0 : Addr) (x1 : Addr) (x2 : Int32) : entryFrame m #[(.ref x0), (.ref x1), (.int x2)] 4 = mkF m 0 #[.val (.ref x0), .val (.ref x1), .val (.int x2), .unset] [] := by first | (simp [entryFrame, mkF, argsToLocals, Value.category]; done) | rfl
theorem pd_9 : parseMethodDescriptor "([JI)V" = some ⟨[(.array .long), .int], none⟩ := by decide +kernel
theorem pd_10 : parseMethodDescriptor "(Lcom/example/netlocus/netlocus/BucketQueue;[ZI)Z" = some ⟨[(.object "com/example/netlocus/netlocus/BucketQueue"), (.array .boolean), .int], some .boolean⟩ := by decide +kernel
theorem ef0_II (m : MethodId) (x0 : Int32) (x1 : Int32) : entryFrame m #[(.int x0), (.int x1)] maxLocals = mkF m 0 #[.val (.int x0), .val (.int x1), .unset, .unset, .unset, .unset] [] := by first | (simp [entryFrame, mkF, argsToLocals, Value.category, maxLocals]; done) | rfl
def NEG : Nat := 4294967295
def rd (A : List Nat) (i : Nat) : Option Nat := match A[i]? with
  | some x => if x < 1000 ∨ x = NEG then some x else none
  | none => none
def wrt (A : List Nat) (i x : Nat) : Option (List Nat) := if i < A.length then some (A.set i x) else none
def enc (A : List Nat) : List Value := A.map fun x => .int (Int32.ofNat x)
theorem nat_lt {j e : Nat} (hj : j < 2000) (he : e < 2000) : Int32.ofNat j < Int32.ofNat e ↔ j < e := by
  rw [Int32.lt_iff_toInt_lt, Int32.toInt_ofNat_small (by omega), Int32.toInt_ofNat_small (by omega)]; omega
theorem nat_eq {j e : Nat} (hj : j < 2000) (he : e < 2000) : Int32.ofNat j = Int32.ofNat e ↔ j = e := by
  rw [← Int32.toInt_inj, Int32.toInt_ofNat_small (by omega), Int32.toInt_ofNat_small (by omega)]; omega
theorem nat_nn {j : Nat} (hj : j < 2000) : ¬ Int32.ofNat j < 0 := by
  rw [Int32.lt_iff_toInt_lt, Int32.toInt_ofNat_small (by omega), show (0 : Int32).toInt = 0 from rfl]; omega
theorem nat_neg {j : Nat} (hj : j < 2000) : ¬ Int32.ofNat j = (-1 : Int32) := by
  rw [← Int32.toInt_inj, Int32.toInt_ofNat_small (by omega), show (-1 : Int32).toInt = -1 from rfl]; omega
theorem nat_to {j : Nat} (hj : j < 2000) : (Int32.ofNat j).toNatClampNeg = j := by
  simp only [Int32.toNatClampNeg, Int32.toInt_ofNat_small (show j < 2 ^ 31 by omega)]; omega
theorem nat_add {i j : Nat} : Int32.ofNat i + Int32.ofNat j = Int32.ofNat (i + j) := (Int32.ofNat_add i j).symm
theorem nat_pred {j : Nat} (h : 0 < j) : Int32.ofNat j - (1 : Int32) = Int32.ofNat (j - 1) := by
  have e : j = (j - 1) + 1 := by omega
  generalize j - 1 = k at e
  subst e
  have e2 : Int32.ofNat (k + 1) = Int32.ofNat k + 1 := Int32.ofNat_add k 1
  rw [e2, Int32.add_sub_cancel]
theorem rd_spec {A : List Nat} {i x : Nat} (h : rd A i = some x) (hl : A.length < 1000) : i < 1000 ∧ ¬ Int32.ofNat i < 0 ∧ (enc A)[(Int32.ofNat i).toNatClampNeg]? = some (.int (Int32.ofNat x)) ∧ (x < 1000 ∨ x = NEG) := by
  unfold rd at h
  cases q : A[i]? with
  | none => rw [q] at h; cases h
  | some y =>
    rw [q] at h
    by_cases q2 : y < 1000 ∨ y = NEG
    · simp only [if_pos q2] at h
      cases h
      have hi := (List.getElem?_eq_some_iff.mp q).1
      refine ⟨by omega, nat_nn (by omega), ?_, q2⟩
      rw [nat_to (by omega), enc, List.getElem?_map, q]; rfl
    · simp only [if_neg q2] at h; cases h
theorem wrt_spec {A A' : List Nat} {i x : Nat} (h : wrt A i x = some A') (hl : A.length < 1000) : ¬ Int32.ofNat i < 0 ∧ (Int32.ofNat i).toNatClampNeg < (enc A).length ∧ (enc A).set (Int32.ofNat i).toNatClampNeg (.int (Int32.ofNat x)) = enc A' ∧ A'.length = A.length ∧ i < 1000 := by
  unfold wrt at h
  by_cases q : i < A.length
  · rw [if_pos q] at h
    cases h
    refine ⟨nat_nn (by omega), by rw [nat_to (by omega), enc, List.length_map]; exact q, ?_, List.length_set, by omega⟩
    rw [nat_to (by omega), enc, enc, List.map_set]
  · rw [if_neg q] at h; cases h
def unlinkM (af bf : List Nat) (p : Nat) : Option (List Nat × List Nat) :=
  (rd af p).bind fun n => (rd bf p).bind fun v => (wrt af v n).bind fun af1 => (wrt bf n v).bind fun bf1 => some (af1, bf1)
theorem unlink_spec {af bf af' bf' : List Nat} {p : Nat} (h : unlinkM af bf p = some (af', bf')) : ∃ n v, rd af p = some n ∧ rd bf p = some v ∧ wrt af v n = some af' ∧ wrt bf n v = some bf' := by
  simp only [unlinkM, Option.bind_eq_some_iff] at h
  obtain ⟨n, h1, v, h2, a1, h3, b1, h4, h5⟩ := h
  cases h5
  exact ⟨n, v, h1, h2, h3, h4⟩
def tailM (ks af bf : List Nat) (sz lo p : Nat) : Option (List Nat × List Nat × Nat × Nat) :=
  (rd ks p).bind fun k => if k < 1000 then (rd af (3 + k)).bind fun f => (wrt af (3 + k) p).bind fun a1 => (wrt bf p (3 + k)).bind fun b1 => (wrt a1 p f).bind fun a2 => (wrt b1 f p).bind fun b2 => some (a2, b2, sz, min lo k) else none
def addM (ks af bf : List Nat) (sz lo p : Nat) : Option (List Nat × List Nat × Nat × Nat) :=
  (rd bf p).bind fun bp => if bp = NEG then tailM ks af bf (sz + 1) lo p else (unlinkM af bf p).bind fun ab => tailM ks ab.1 ab.2 sz lo p
def lowM (af : List Nat) : Nat → Nat → Option Nat
  | 0, _ => none
  | f + 1, lo => if lo < 900 then (rd af (3 + lo)).bind fun x => if x = 3 + lo then lowM af f (lo + 1) else some lo else none
def remM (af bf : List Nat) (sz lo : Nat) : Option (Nat × List Nat × List Nat × Nat × Nat) :=
  if sz = 0 then none else (lowM af 5 lo).bind fun lo1 => (rd af (3 + lo1)).bind fun p => if p < 1000 then (unlinkM af bf p).bind fun ab => (wrt ab.2 p NEG).bind fun b1 => some (p, ab.1, b1, sz - 1, lo1) else none
/-- (ins; after, before, size, lowest) -/
abbrev Stt : Type := List Nat × List Nat × List Nat × Nat × Nat
def anyI (i : List Nat) : Prop := ¬ i.getD 0 0 = 0 ∨ ¬ i.getD 1 0 = 0 ∨ ¬ i.getD 2 0 = 0
instance own_any (i : List Nat) : Decidable (anyI i) := by unfold anyI; exact inferInstance
def okM (st : Stt) : Option Stt := if (st.2.2.2.1 = 0 ↔ ¬ anyI st.1) ∧ st.2.2.2.1 < 900 ∧ st.2.2.2.2 < 900 ∧ st.1.length = 3 ∧ st.1.getD 0 0 < 2 ∧ st.1.getD 1 0 < 2 ∧ st.1.getD 2 0 < 2 ∧ st.2.1.length = 7 ∧ st.2.2.1.length = 7 then some st else none
def stepA (ks : List Nat) (st : Stt) (p : Nat) : Option Stt := (addM ks st.2.1 st.2.2.1 st.2.2.2.1 st.2.2.2.2 p).bind fun r => (wrt st.1 p 1).bind fun i' => okM (i', r)
def stepR (st : Stt) : Option Stt := if anyI st.1 then (remM st.2.1 st.2.2.1 st.2.2.2.1 st.2.2.2.2).bind fun r => (rd st.1 r.1).bind fun x => if r.1 < 3 ∧ x < 1000 ∧ ¬ x = 0 then (wrt st.1 r.1 0).bind fun i' => okM (i', r.2) else none else okM st
def stepM (ks : List Nat) (st : Stt) (o : Nat) : Option Stt := if o = 3 then stepR st else stepA ks st o
def OKB (st : Stt) : Prop := st.1.length = 3 ∧ (st.1.getD 0 0 < 2 ∧ st.1.getD 1 0 < 2 ∧ st.1.getD 2 0 < 2) ∧ st.2.2.2.1 < 900 ∧ st.2.2.2.2 < 900 ∧ st.2.1.length = 7 ∧ st.2.2.1.length = 7
def st0 : Stt := ([0, 0, 0], [0, 0, 0, 3, 4, 5, 6], [NEG, NEG, NEG, 3, 4, 5, 6], 0, 0)
theorem ok_spec {st st' : Stt} (h : okM st = some st') : st = st' ∧ (st.2.2.2.1 = 0 ↔ ¬ anyI st.1) ∧ st.2.2.2.1 < 900 ∧ st.2.2.2.2 < 900 ∧ st.1.length = 3 ∧ st.1.getD 0 0 < 2 ∧ st.1.getD 1 0 < 2 ∧ st.1.getD 2 0 < 2 ∧ st.2.1.length = 7 ∧ st.2.2.1.length = 7 := by
  unfold okM at h
  by_cases q : (st.2.2.2.1 = 0 ↔ ¬ anyI st.1) ∧ st.2.2.2.1 < 900 ∧ st.2.2.2.2 < 900 ∧ st.1.length = 3 ∧ st.1.getD 0 0 < 2 ∧ st.1.getD 1 0 < 2 ∧ st.1.getD 2 0 < 2 ∧ st.2.1.length = 7 ∧ st.2.2.1.length = 7
  · rw [if_pos q] at h; exact ⟨Option.some.inj h, q⟩
  · rw [if_neg q] at h; cases h
theorem getD_at {A : List Nat} (hl : A.length = 3) (i : Nat) (hi : i < 3) : (enc A)[(Int32.ofNat i).toNatClampNeg]? = some (.int (Int32.ofNat (A.getD i 0))) := by
  rw [nat_to (by omega), enc, List.getElem?_map, List.getD_eq_getElem?_getD, List.getElem?_eq_getElem (by omega)]; rfl
theorem nat_eqN {x j : Nat} (hx : x < 1000 ∨ x = NEG) (hj : j < 2000) : Int32.ofNat x = Int32.ofNat j ↔ x = j := by
  rcases hx with q | q
  · exact nat_eq (by omega) hj
  · refine ⟨fun z => ?_, fun z => by rw [z]⟩
    rw [q] at z
    exact absurd z.symm (nat_neg hj)
theorem own_op (w : Int32) : ∃ j : Nat, j < 3 ∧ (((w >>> ((1 : Int32) &&& 31)) &&& (3 : Int32)) % (3 : Int32)) = Int32.ofNat j := by
  have e1 := c_and (w >>> ((1 : Int32) &&& 31)) 3 (by decide)
  have z3 : (3 : Int32).toInt = 3 := rfl
  have e2 := (c_iremV ((w >>> ((1 : Int32) &&& 31)) &&& (3 : Int32)) 3).1 (by omega) (by omega)
  refine ⟨(((w >>> ((1 : Int32) &&& 31)) &&& (3 : Int32)) % (3 : Int32)).toInt.toNat, by omega, ?_⟩
  apply Int32.toInt_inj.mp
  rw [Int32.toInt_ofNat_small (by omega)]; omega
theorem own_key (w : Int32) : ∃ j : Nat, j < 4 ∧ (w &&& (3 : Int32)).toInt64 = Int64.ofNat j := by
  have e1 := c_and w 3 (by decide)
  have z3 : (3 : Int32).toInt = 3 := rfl
  refine ⟨(w &&& (3 : Int32)).toInt.toNat, by omega, ?_⟩
  apply Int64.toInt_inj.mp
  rw [Int64.toInt_ofNat_of_lt (by omega), c_i2l]; omega
/-- every run of n steps is well -/
def wellM (ks : List Nat) : Nat → Stt → Bool
  | 0, _ => true
  | n + 1, st => [0, 1, 2, 3].all fun o => match stepM ks st o with | some st' => wellM ks n st' | none => false
set_option maxRecDepth 65536 in
theorem own_all : (List.range 4).all (fun a => (List.range 4).all fun b => (List.range 4).all fun c => wellM [a, b, c] 4 st0) = true := by decide +kernel
theorem own_well {ks : List Nat} {n : Nat} {st : Stt} (h : wellM ks (n + 1) st = true) {o : Nat} (ho : o = 0 ∨ o = 1 ∨ o = 2 ∨ o = 3) : ∃ st', stepM ks st o = some st' ∧ wellM ks n st' = true := by
  have := List.all_eq_true.mp h o (by rcases ho with rfl | rfl | rfl | rfl <;> simp)
  cases q : stepM ks st o with
  | none => simp [q] at this
  | some st' => simp [q] at this; exact ⟨st', rfl, this⟩
theorem own_start {a b c : Nat} (ha : a < 4) (hb : b < 4) (hc : c < 4) : wellM [a, b, c] 4 st0 = true :=
  List.all_eq_true.mp (List.all_eq_true.mp (List.all_eq_true.mp own_all a (List.mem_range.mpr ha)) b (List.mem_range.mpr hb)) c (List.mem_range.mpr hc)
def imin (x y : Int32) : Int32 := if y < x then y else x
theorem imin_nat {x y : Nat} (hx : x < 2000) (hy : y < 2000) : imin (Int32.ofNat x) (Int32.ofNat y) = Int32.ofNat (min x y) := by
  unfold imin
  by_cases q : y < x
  · rw [if_pos ((nat_lt hy hx).mpr q), Nat.min_eq_right (by omega)]
  · rw [if_neg (fun z => q ((nat_lt hy hx).mp z)), Nat.min_eq_left (by omega)]
set_option maxRecDepth 65536 in
set_option maxHeartbeats 40000000 in
theorem rm_min (l : Launch) (Z : State) (a0 : Array Value) (hw : ∀ d ∈ tables_1, d.before a0 Z = true) (p0 p1 : Int32) (h0 : Heap)  :
    Con l (⟨"java/lang/Math", "min", "(II)I"⟩ : MethodName) jdk_29_method_69_code 2 (some .int) ({ frames := 0, cells := 0, slots := 0, locals := 0 } : Room) Z #[(.int p0), (.int p1)] h0 (Pur (some (.int (imin p0 p1))) h0) := by
  refine Con.of_body (Jvm.Free.JP.mathPlain rfl (by decide)) ?_
  intro p e s m below meth c T0 X0 hx hby hml hZ hown hnm hret hlk e0
  have hown : s.vm.findClass "java/lang/Math" = some m.cls := hown
  have hml : c.maxLocals = 2 := hml
  refine Goes.cast (ef8_II m p0 p1) ?_
  refine G.iloadN X0 hx (pc' := 1) (hb hby d8_0) rfl rfl ?_
  refine G.iloadN X0 hx (pc' := 2) (hb hby d8_1) rfl rfl ?_
  by_cases c1 : p1 < p0
  · refine G.icmpT X0 hx (pc' := 9) (hb hby d8_2) (Jvm.Free.XT.ii_gt_t c1) (by decide) (by decide) ?_
    refine G.iloadN X0 hx (pc' := 10) (hb hby d8_9) rfl rfl ?_
    refine Goes.retI X0 hx hret hlk (hb hby d8_10) (by decide) (by decide) ⟨by rw [imin, if_pos c1], e0, rfl⟩
  · refine G.icmpF X0 hx (pc' := 5) (hb hby d8_2) (Jvm.Free.XT.ii_gt_f c1) rfl ?_
    refine G.iloadN X0 hx (pc' := 6) (hb hby d8_5) rfl rfl ?_
    refine G.goto X0 hx (pc' := 10) (hb hby d8_6) (by decide) (by decide) ?_
    refine Goes.retI X0 hx hret hlk (hb hby d8_10) (by decide) (by decide) ⟨by rw [imin, if_neg c1], e0, rfl⟩
set_option maxRecDepth 65536 in
set_option maxHeartbeats 40000000 in
theorem rm_unlink (l : Launch) (Z : State) (a0 : Array Value) (hw : ∀ d ∈ tables_1, d.before a0 Z = true) (q a b k : Addr) (ks af bf : List Nat) (sz lo : Nat) (af' bf' : List Nat) (pl : Nat) (h0 : Heap) (EQ : Exa Z h0 q "com/example/netlocus/netlocus/BucketQueue") (Fa : Fld Z h0 q "com/example/netlocus/netlocus/BucketQueue" "after" "[I" (.ref a)) (Fb : Fld Z h0 q "com/example/netlocus/netlocus/BucketQueue" "before" "[I" (.ref b)) (Fk : Fld Z h0 q "com/example/netlocus/netlocus/BucketQueue" "keys" "[J" (.ref k)) (Fp : Fld Z h0 q "com/example/netlocus/netlocus/BucketQueue" "placeCount" "I" (.int (Int32.ofNat 3))) (Fs : Fld Z h0 q "com/example/netlocus/netlocus/BucketQueue" "size" "I" (.int (Int32.ofNat sz))) (Fl : Fld Z h0 q "com/example/netlocus/netlocus/BucketQueue" "lowest" "I" (.int (Int32.ofNat lo))) (Aa : Seq Z h0 a .int (enc af)) (Ab : Seq Z h0 b .int (enc bf)) (Ak : Seq Z h0 k .long (ks.map fun x => Value.long (Int64.ofNat x))) (nqa : q ≠ a) (nqb : q ≠ b) (nqk : q ≠ k) (nab : a ≠ b) (nak : a ≠ k) (nbk : b ≠ k) (hla : af.length = 7) (hlb : bf.length = 7) (hlks : ks.length = 3) (hu : unlinkM af bf pl = some (af', bf')) :
    Con l (⟨"com/example/netlocus/netlocus/BucketQueue", "unlink", "(I)V"⟩ : MethodName) prog_13_method_5_code 4 none ({ frames := 0, cells := 0, slots := 0, locals := 0 } : Room) Z #[(.ref q), (.int (Int32.ofNat pl))] h0 (fun v h L => v = none ∧ Kp h0 h [a, b] L ∧ Seq Z h a .int (enc af') ∧ Seq Z h b .int (enc bf') ∧ af'.length = 7 ∧ bf'.length = 7) := by
  refine Con.of_body (plainFor_of_name pn_0) ?_
  intro p e s m below meth c T0 X0 hx hby hml hZ hown hnm hret hlk e0
  have hown : s.vm.findClass "com/example/netlocus/netlocus/BucketQueue" = some m.cls := hown
  have hml : c.maxLocals = 4 := hml
  refine Goes.cast (ef9_RI m q (Int32.ofNat pl)) ?_
  have K0 := Kp.refl h0 [a, b]
  obtain ⟨n, v, y1, y2, y3, y4⟩ := unlink_spec hu
  have g1 := rd_spec y1 (by omega)
  have g2 := rd_spec y2 (by omega)
  have g3 := wrt_spec y3 (by omega)
  have g4 := wrt_spec y4 (by omega)
  refine G.aloadN X0 hx (pc' := 1) (hb hby d9_0) rfl rfl rfl ?_
  refine G.getF X0 hx hZ hown (hw _ (List.mem_of_getElem? (i := 15) rfl)) Via.refl e0 Fa (pc' := 4) (hb hby d9_1) rfl fun T1 X1 e1 => ?_
  refine G.iloadN X1 hx (pc' := 5) (hb hby d9_4) rfl rfl ?_
  refine G.iaload X1 hx hZ e1 Aa (pc' := 6) (v := (.int (Int32.ofNat n))) (hb hby d9_5) g1.2.1 g1.2.2.1 rfl ?_
  refine G.istoreN X1 hx (pc' := 7) (hb hby d9_6) (L' := #[.val (.ref q), .val (.int (Int32.ofNat pl)), .val (.int (Int32.ofNat n)), .unset]) rfl rfl ?_
  refine G.aloadN X1 hx (pc' := 8) (hb hby d9_7) rfl rfl rfl ?_
  refine G.getF X1 hx hZ hown (hw _ (List.mem_of_getElem? (i := 17) rfl)) Via.refl e1 Fb (pc' := 11) (hb hby d9_8) rfl fun T2 X2 e2 => ?_
  refine G.iloadN X2 hx (pc' := 12) (hb hby d9_11) rfl rfl ?_
  refine G.iaload X2 hx hZ e2 Ab (pc' := 13) (v := (.int (Int32.ofNat v))) (hb hby d9_12) g2.2.1 g2.2.2.1 rfl ?_
  refine G.istoreN X2 hx (pc' := 14) (hb hby d9_13) (L' := #[.val (.ref q), .val (.int (Int32.ofNat pl)), .val (.int (Int32.ofNat n)), .val (.int (Int32.ofNat v))]) rfl rfl ?_
  refine G.aloadN X2 hx (pc' := 15) (hb hby d9_14) rfl rfl rfl ?_
  refine G.getF X2 hx hZ hown (hw _ (List.mem_of_getElem? (i := 15) rfl)) Via.refl e2 Fa (pc' := 18) (hb hby d9_15) rfl fun T3 X3 e3 => ?_
  refine G.iloadN X3 hx (pc' := 19) (hb hby d9_18) rfl rfl ?_
  refine G.iloadN X3 hx (pc' := 20) (hb hby d9_19) rfl rfl ?_
  refine G.iastore X3 hx hZ e3 Aa (pc' := 21) (hb hby d9_20) g3.1 g3.2.1 rfl fun T4 h4 X4 e4 W4 A4 => ?_
  have F4_q_after := Fld.other W4 Fa (Or.inl nqa)
  have F4_q_before := Fld.other W4 Fb (Or.inl nqa)
  have F4_q_keys := Fld.other W4 Fk (Or.inl nqa)
  have F4_q_placeCount := Fld.other W4 Fp (Or.inl nqa)
  have F4_q_size := Fld.other W4 Fs (Or.inl nqa)
  have F4_q_lowest := Fld.other W4 Fl (Or.inl nqa)
  have E4_q := Exa.wr W4 EQ
  have A4_b := Seq.other Ab W4 (Ne.symm nab)
  have A4_k := Seq.other Ak W4 (Ne.symm nak)
  have K4 := Kp.wr K0 W4 (Or.inl (List.mem_of_getElem? (i := 0) rfl))
  have A4_a : Seq Z h4 a .int (enc af') := (g3.2.2.1) ▸ A4
  refine G.aloadN X4 hx (pc' := 22) (hb hby d9_21) rfl rfl rfl ?_
  refine G.getF X4 hx hZ hown (hw _ (List.mem_of_getElem? (i := 17) rfl)) Via.refl e4 F4_q_before (pc' := 25) (hb hby d9_22) rfl fun T5 X5 e5 => ?_
  refine G.iloadN X5 hx (pc' := 26) (hb hby d9_25) rfl rfl ?_
  refine G.iloadN X5 hx (pc' := 27) (hb hby d9_26) rfl rfl ?_
  refine G.iastore X5 hx hZ e5 A4_b (pc' := 28) (hb hby d9_27) g4.1 g4.2.1 rfl fun T6 h6 X6 e6 W6 A6 => ?_
  have F6_q_after := Fld.other W6 F4_q_after (Or.inl nqb)
  have F6_q_before := Fld.other W6 F4_q_before (Or.inl nqb)
  have F6_q_keys := Fld.other W6 F4_q_keys (Or.inl nqb)
  have F6_q_placeCount := Fld.other W6 F4_q_placeCount (Or.inl nqb)
  have F6_q_size := Fld.other W6 F4_q_size (Or.inl nqb)
  have F6_q_lowest := Fld.other W6 F4_q_lowest (Or.inl nqb)
  have E6_q := Exa.wr W6 E4_q
  have A6_a := Seq.other A4_a W6 nab
  have A6_k := Seq.other A4_k W6 (Ne.symm nbk)
  have K6 := Kp.wr K4 W6 (Or.inl (List.mem_of_getElem? (i := 1) rfl))
  have A6_b : Seq Z h6 b .int (enc bf') := (g4.2.2.1) ▸ A6
  refine Goes.retV X6 hx hret hlk (hb hby d9_28) (by decide) (by decide) ⟨rfl, e6 ▸ K6, e6 ▸ A6_a, e6 ▸ A6_b, by omega, by omega⟩
set_option maxRecDepth 65536 in
set_option maxHeartbeats 40000000 in
theorem rm_add (l : Launch) (Z : State) (a0 : Array Value) (hw : ∀ d ∈ tables_1, d.before a0 Z = true) (q a b k : Addr) (ks af bf : List Nat) (sz lo : Nat) (pl : Nat) (r : List Nat × List Nat × Nat × Nat) (h0 : Heap) (EQ : Exa Z h0 q "com/example/netlocus/netlocus/BucketQueue") (Fa : Fld Z h0 q "com/example/netlocus/netlocus/BucketQueue" "after" "[I" (.ref a)) (Fb : Fld Z h0 q "com/example/netlocus/netlocus/BucketQueue" "before" "[I" (.ref b)) (Fk : Fld Z h0 q "com/example/netlocus/netlocus/BucketQueue" "keys" "[J" (.ref k)) (Fp : Fld Z h0 q "com/example/netlocus/netlocus/BucketQueue" "placeCount" "I" (.int (Int32.ofNat 3))) (Fs : Fld Z h0 q "com/example/netlocus/netlocus/BucketQueue" "size" "I" (.int (Int32.ofNat sz))) (Fl : Fld Z h0 q "com/example/netlocus/netlocus/BucketQueue" "lowest" "I" (.int (Int32.ofNat lo))) (Aa : Seq Z h0 a .int (enc af)) (Ab : Seq Z h0 b .int (enc bf)) (Ak : Seq Z h0 k .long (ks.map fun x => Value.long (Int64.ofNat x))) (nqa : q ≠ a) (nqb : q ≠ b) (nqk : q ≠ k) (nab : a ≠ b) (nak : a ≠ k) (nbk : b ≠ k) (hla : af.length = 7) (hlb : bf.length = 7) (hlks : ks.length = 3) (hsz : sz < 1000) (hlo : lo < 1000) (hm : addM ks af bf sz lo pl = some r) :
    Con l (⟨"com/example/netlocus/netlocus/BucketQueue", "addOrRaise", "(I)V"⟩ : MethodName) prog_13_method_3_code 5 none ({ frames := 1, cells := 0, slots := 0, locals := 15 } : Room) Z #[(.ref q), (.int (Int32.ofNat pl))] h0 (fun v h L => v = none ∧ Kp h0 h [q, a, b] L ∧ Fld Z h q "com/example/netlocus/netlocus/BucketQueue" "after" "[I" (.ref a) ∧ Fld Z h q "com/example/netlocus/netlocus/BucketQueue" "before" "[I" (.ref b) ∧ Fld Z h q "com/example/netlocus/netlocus/BucketQueue" "keys" "[J" (.ref k) ∧ Fld Z h q "com/example/netlocus/netlocus/BucketQueue" "placeCount" "I" (.int (Int32.ofNat 3)) ∧ Fld Z h q "com/example/netlocus/netlocus/BucketQueue" "size" "I" (.int (Int32.ofNat r.2.2.1)) ∧ Fld Z h q "com/example/netlocus/netlocus/BucketQueue" "lowest" "I" (.int (Int32.ofNat r.2.2.2)) ∧ Seq Z h a .int (enc r.1) ∧ Seq Z h b .int (enc r.2.1) ∧ r.1.length = 7 ∧ r.2.1.length = 7) := by
  refine Con.of_body (plainFor_of_name pn_0) ?_
  intro p e s m below meth c T0 X0 hx hby hml hZ hown hnm hret hlk e0
  have hown : s.vm.findClass "com/example/netlocus/netlocus/BucketQueue" = some m.cls := hown
  have hml : c.maxLocals = 5 := hml
  refine Goes.cast (ef7_RI m q (Int32.ofNat pl)) ?_
  have K0 := Kp.refl h0 [q, a, b]
  simp only [addM, Option.bind_eq_some_iff] at hm
  obtain ⟨bp, hbp, hm⟩ := hm
  have g0 := rd_spec hbp (by omega)
  refine G.aloadN X0 hx (pc' := 1) (hb hby d7_0) rfl rfl rfl ?_
  refine G.getF X0 hx hZ hown (hw _ (List.mem_of_getElem? (i := 17) rfl)) Via.refl e0 Fb (pc' := 4) (hb hby d7_1) rfl fun T1 X1 e1 => ?_
  refine G.iloadN X1 hx (pc' := 5) (hb hby d7_4) rfl rfl ?_
  refine G.iaload X1 hx hZ e1 Ab (pc' := 6) (v := (.int (Int32.ofNat bp))) (hb hby d7_5) g0.2.1 g0.2.2.1 rfl ?_
  refine G.iconst X1 hx (pc' := 7) (hb hby d7_6) (z := (-1 : Int32)) rfl rfl ?_
  by_cases hneg : bp = NEG
  · rw [if_pos hneg] at hm
    refine G.icmpF X1 hx (pc' := 10) (hb hby d7_7) (Jvm.Free.XT.ii_ne_f (by rw [hneg]; decide)) rfl ?_
    refine G.aloadN X1 hx (pc' := 11) (hb hby d7_10) rfl rfl rfl ?_
    refine G.dup X1 hx (pc' := 12) (hb hby d7_11) rfl rfl ?_
    refine G.getF X1 hx hZ hown (hw _ (List.mem_of_getElem? (i := 32) rfl)) Via.refl e1 Fs (pc' := 15) (hb hby d7_12) rfl fun T2 X2 e2 => ?_
    refine G.iconst X2 hx (pc' := 16) (hb hby d7_15) (z := (1 : Int32)) rfl rfl ?_
    refine G.iadd X2 hx (pc' := 17) (hb hby d7_16) rfl ?_
    refine G.putF X2 hx hZ hown (hw _ (List.mem_of_getElem? (i := 32) rfl)) Via.refl e2 Fs EQ (Or.inl (hw _ (List.mem_of_getElem? (i := 33) rfl))) (hw _ (List.mem_of_getElem? (i := 2) rfl)) (ty := .int) (by decide) rfl rfl (pc' := 20) (hb hby d7_17) rfl fun T3 h3 X3 e3 W3 => ?_
    have F3_q_after := Fld.other W3 Fa (Or.inr (slot_ne (Or.inr (hw _ (List.mem_of_getElem? (i := 16) rfl))) (Or.inl (hw _ (List.mem_of_getElem? (i := 33) rfl))) (by decide) (t := (.array .int)) (t' := .int) (by decide) (by decide)))
    have F3_q_before := Fld.other W3 Fb (Or.inr (slot_ne (Or.inr (hw _ (List.mem_of_getElem? (i := 18) rfl))) (Or.inl (hw _ (List.mem_of_getElem? (i := 33) rfl))) (by decide) (t := (.array .int)) (t' := .int) (by decide) (by decide)))
    have F3_q_keys := Fld.other W3 Fk (Or.inr (slot_ne (Or.inr (hw _ (List.mem_of_getElem? (i := 11) rfl))) (Or.inl (hw _ (List.mem_of_getElem? (i := 33) rfl))) (by decide) (t := (.array .long)) (t' := .int) (by decide) (by decide)))
    have F3_q_placeCount := Fld.other W3 Fp (Or.inr (slot_ne (Or.inr (hw _ (List.mem_of_getElem? (i := 13) rfl))) (Or.inl (hw _ (List.mem_of_getElem? (i := 33) rfl))) (by decide) (t := .int) (t' := .int) (by decide) (by decide)))
    have F3_q_lowest := Fld.other W3 Fl (Or.inr (slot_ne (Or.inl (hw _ (List.mem_of_getElem? (i := 44) rfl))) (Or.inl (hw _ (List.mem_of_getElem? (i := 33) rfl))) (by decide) (t := .int) (t' := .int) (by decide) (by decide)))
    have E3_q := Exa.wr W3 EQ
    have A3_a := Seq.other Aa W3 (Ne.symm nqa)
    have A3_b := Seq.other Ab W3 (Ne.symm nqb)
    have A3_k := Seq.other Ak W3 (Ne.symm nqk)
    have K3 := Kp.wr K0 W3 (Or.inl (List.mem_of_getElem? (i := 0) rfl))
    have F3_q_size := Fld.same W3 Fs
    rw [show Int32.ofNat sz + (1 : Int32) = Int32.ofNat (sz + 1) from nat_add (j := 1)] at F3_q_size
    refine G.goto X3 hx (pc' := 28) (hb hby d7_20) (by decide) (by decide) ?_
    simp only [tailM, Option.bind_eq_some_iff] at hm
    obtain ⟨kk, hkk, hm⟩ := hm
    have hk1 : kk < 1000 := by
      by_cases q1 : kk < 1000
      · exact q1
      · rw [if_neg q1] at hm; cases hm
    rw [if_pos hk1] at hm
    simp only [Option.bind_eq_some_iff] at hm
    obtain ⟨f, hf, a1, y1, b1, y2, a2, y3, b2, y4, y5⟩ := hm
    cases y5
    have gk := rd_spec hkk (by omega)
    have hkv : (ks.map fun x => Value.long (Int64.ofNat x))[(Int32.ofNat pl).toNatClampNeg]? = some (.long (Int64.ofNat kk)) := by
      have e1 := gk.2.2.1
      rw [enc, List.getElem?_map] at e1
      rw [List.getElem?_map]
      cases e2 : ks[(Int32.ofNat pl).toNatClampNeg]? with
      | none => rw [e2] at e1; cases e1
      | some y =>
        rw [nat_to (by omega)] at e2
        have e3 : y = kk := by
          have := hkk
          unfold rd at this
          rw [e2] at this
          by_cases q1 : y < 1000 ∨ y = NEG
          · simp only [if_pos q1] at this; exact Option.some.inj this
          · simp only [if_neg q1] at this; cases this
        rw [e3]; rfl
    have g1 := rd_spec hf (by omega)
    have g2 := wrt_spec y1 (by omega)
    have g3 := wrt_spec y2 (by omega)
    have g4 := wrt_spec y3 (by omega)
    have g5 := wrt_spec y4 (by omega)
    have hcv : (Int64.ofNat kk).toInt32 = Int32.ofNat kk := by
      apply Int32.toInt_inj.mp
      have e1 := c_l2i (Int64.ofNat kk)
      rw [Int64.toInt_ofNat_of_lt (by omega)] at e1
      rw [Int32.toInt_ofNat_small (by omega)]
      have e2 := rng32 (Int64.ofNat kk).toInt32
      omega
    refine G.aloadN X3 hx (pc' := 29) (hb hby d7_28) rfl rfl rfl ?_
    refine G.getF X3 hx hZ hown (hw _ (List.mem_of_getElem? (i := 10) rfl)) Via.refl e3 F3_q_keys (pc' := 32) (hb hby d7_29) rfl fun T4 X4 e4 => ?_
    refine G.iloadN X4 hx (pc' := 33) (hb hby d7_32) rfl rfl ?_
    refine G.laload X4 hx hZ e4 A3_k (pc' := 34) (v := (.long (Int64.ofNat kk))) (hb hby d7_33) gk.2.1 hkv rfl ?_
    refine G.l2i X4 hx (pc' := 35) (hb hby d7_34) rfl ?_
    rw [hcv]
    show Goes p e below T4 (mkF m 35 #[.val (.ref q), .val (.int (Int32.ofNat pl)), .unset, .unset, .unset] [(.int (Int32.ofNat kk))]) _
    refine G.istoreN X4 hx (pc' := 36) (hb hby d7_35) (L' := #[.val (.ref q), .val (.int (Int32.ofNat pl)), .val (.int (Int32.ofNat kk)), .unset, .unset]) rfl rfl ?_
    refine G.aloadN X4 hx (pc' := 37) (hb hby d7_36) rfl rfl rfl ?_
    refine G.getF X4 hx hZ hown (hw _ (List.mem_of_getElem? (i := 12) rfl)) Via.refl e4 F3_q_placeCount (pc' := 40) (hb hby d7_37) rfl fun T5 X5 e5 => ?_
    refine G.iloadN X5 hx (pc' := 41) (hb hby d7_40) rfl rfl ?_
    refine G.iadd X5 hx (pc' := 42) (hb hby d7_41) rfl ?_
    rw [nat_add]
    show Goes p e below T5 (mkF m 42 #[.val (.ref q), .val (.int (Int32.ofNat pl)), .val (.int (Int32.ofNat kk)), .unset, .unset] [(.int (Int32.ofNat (3 + kk)))]) _
    refine G.istoreN X5 hx (pc' := 43) (hb hby d7_42) (L' := #[.val (.ref q), .val (.int (Int32.ofNat pl)), .val (.int (Int32.ofNat kk)), .val (.int (Int32.ofNat (3 + kk))), .unset]) rfl rfl ?_
    refine G.aloadN X5 hx (pc' := 44) (hb hby d7_43) rfl rfl rfl ?_
    refine G.getF X5 hx hZ hown (hw _ (List.mem_of_getElem? (i := 15) rfl)) Via.refl e5 F3_q_after (pc' := 47) (hb hby d7_44) rfl fun T6 X6 e6 => ?_
    refine G.iloadN X6 hx (pc' := 48) (hb hby d7_47) rfl rfl ?_
    refine G.iaload X6 hx hZ e6 A3_a (pc' := 49) (v := (.int (Int32.ofNat f))) (hb hby d7_48) g1.2.1 g1.2.2.1 rfl ?_
    refine G.istore X6 hx (pc' := 51) (hb hby d7_49) (L' := #[.val (.ref q), .val (.int (Int32.ofNat pl)), .val (.int (Int32.ofNat kk)), .val (.int (Int32.ofNat (3 + kk))), .val (.int (Int32.ofNat f))]) rfl rfl ?_
    refine G.aloadN X6 hx (pc' := 52) (hb hby d7_51) rfl rfl rfl ?_
    refine G.getF X6 hx hZ hown (hw _ (List.mem_of_getElem? (i := 15) rfl)) Via.refl e6 F3_q_after (pc' := 55) (hb hby d7_52) rfl fun T7 X7 e7 => ?_
    refine G.iloadN X7 hx (pc' := 56) (hb hby d7_55) rfl rfl ?_
    refine G.iloadN X7 hx (pc' := 57) (hb hby d7_56) rfl rfl ?_
    refine G.iastore X7 hx hZ e7 A3_a (pc' := 58) (hb hby d7_57) g2.1 g2.2.1 rfl fun T8 h8 X8 e8 W8 A8 => ?_
    have F8_q_after := Fld.other W8 F3_q_after (Or.inl nqa)
    have F8_q_before := Fld.other W8 F3_q_before (Or.inl nqa)
    have F8_q_keys := Fld.other W8 F3_q_keys (Or.inl nqa)
    have F8_q_placeCount := Fld.other W8 F3_q_placeCount (Or.inl nqa)
    have F8_q_size := Fld.other W8 F3_q_size (Or.inl nqa)
    have F8_q_lowest := Fld.other W8 F3_q_lowest (Or.inl nqa)
    have E8_q := Exa.wr W8 E3_q
    have A8_b := Seq.other A3_b W8 (Ne.symm nab)
    have A8_k := Seq.other A3_k W8 (Ne.symm nak)
    have K8 := Kp.wr K3 W8 (Or.inl (List.mem_of_getElem? (i := 1) rfl))
    have A8_a : Seq Z h8 a .int (enc a1) := (g2.2.2.1) ▸ A8
    refine G.aloadN X8 hx (pc' := 59) (hb hby d7_58) rfl rfl rfl ?_
    refine G.getF X8 hx hZ hown (hw _ (List.mem_of_getElem? (i := 17) rfl)) Via.refl e8 F8_q_before (pc' := 62) (hb hby d7_59) rfl fun T9 X9 e9 => ?_
    refine G.iloadN X9 hx (pc' := 63) (hb hby d7_62) rfl rfl ?_
    refine G.iloadN X9 hx (pc' := 64) (hb hby d7_63) rfl rfl ?_
    refine G.iastore X9 hx hZ e9 A8_b (pc' := 65) (hb hby d7_64) g3.1 g3.2.1 rfl fun T10 h10 X10 e10 W10 A10 => ?_
    have F10_q_after := Fld.other W10 F8_q_after (Or.inl nqb)
    have F10_q_before := Fld.other W10 F8_q_before (Or.inl nqb)
    have F10_q_keys := Fld.other W10 F8_q_keys (Or.inl nqb)
    have F10_q_placeCount := Fld.other W10 F8_q_placeCount (Or.inl nqb)
    have F10_q_size := Fld.other W10 F8_q_size (Or.inl nqb)
    have F10_q_lowest := Fld.other W10 F8_q_lowest (Or.inl nqb)
    have E10_q := Exa.wr W10 E8_q
    have A10_a := Seq.other A8_a W10 nab
    have A10_k := Seq.other A8_k W10 (Ne.symm nbk)
    have K10 := Kp.wr K8 W10 (Or.inl (List.mem_of_getElem? (i := 2) rfl))
    have A10_b : Seq Z h10 b .int (enc b1) := (g3.2.2.1) ▸ A10
    refine G.aloadN X10 hx (pc' := 66) (hb hby d7_65) rfl rfl rfl ?_
    refine G.getF X10 hx hZ hown (hw _ (List.mem_of_getElem? (i := 15) rfl)) Via.refl e10 F10_q_after (pc' := 69) (hb hby d7_66) rfl fun T11 X11 e11 => ?_
    refine G.iloadN X11 hx (pc' := 70) (hb hby d7_69) rfl rfl ?_
    refine G.iload X11 hx (pc' := 72) (hb hby d7_70) rfl rfl ?_
    refine G.iastore X11 hx hZ e11 A10_a (pc' := 73) (hb hby d7_72) g4.1 g4.2.1 rfl fun T12 h12 X12 e12 W12 A12 => ?_
    have F12_q_after := Fld.other W12 F10_q_after (Or.inl nqa)
    have F12_q_before := Fld.other W12 F10_q_before (Or.inl nqa)
    have F12_q_keys := Fld.other W12 F10_q_keys (Or.inl nqa)
    have F12_q_placeCount := Fld.other W12 F10_q_placeCount (Or.inl nqa)
    have F12_q_size := Fld.other W12 F10_q_size (Or.inl nqa)
    have F12_q_lowest := Fld.other W12 F10_q_lowest (Or.inl nqa)
    have E12_q := Exa.wr W12 E10_q
    have A12_b := Seq.other A10_b W12 (Ne.symm nab)
    have A12_k := Seq.other A10_k W12 (Ne.symm nak)
    have K12 := Kp.wr K10 W12 (Or.inl (List.mem_of_getElem? (i := 1) rfl))
    have A12_a : Seq Z h12 a .int (enc a2) := (g4.2.2.1) ▸ A12
    refine G.aloadN X12 hx (pc' := 74) (hb hby d7_73) rfl rfl rfl ?_
    refine G.getF X12 hx hZ hown (hw _ (List.mem_of_getElem? (i := 17) rfl)) Via.refl e12 F12_q_before (pc' := 77) (hb hby d7_74) rfl fun T13 X13 e13 => ?_
    refine G.iload X13 hx (pc' := 79) (hb hby d7_77) rfl rfl ?_
    refine G.iloadN X13 hx (pc' := 80) (hb hby d7_79) rfl rfl ?_
    refine G.iastore X13 hx hZ e13 A12_b (pc' := 81) (hb hby d7_80) g5.1 g5.2.1 rfl fun T14 h14 X14 e14 W14 A14 => ?_
    have F14_q_after := Fld.other W14 F12_q_after (Or.inl nqb)
    have F14_q_before := Fld.other W14 F12_q_before (Or.inl nqb)
    have F14_q_keys := Fld.other W14 F12_q_keys (Or.inl nqb)
    have F14_q_placeCount := Fld.other W14 F12_q_placeCount (Or.inl nqb)
    have F14_q_size := Fld.other W14 F12_q_size (Or.inl nqb)
    have F14_q_lowest := Fld.other W14 F12_q_lowest (Or.inl nqb)
    have E14_q := Exa.wr W14 E12_q
    have A14_a := Seq.other A12_a W14 nab
    have A14_k := Seq.other A12_k W14 (Ne.symm nbk)
    have K14 := Kp.wr K12 W14 (Or.inl (List.mem_of_getElem? (i := 2) rfl))
    have A14_b : Seq Z h14 b .int (enc b2) := (g5.2.2.1) ▸ A14
    refine G.aloadN X14 hx (pc' := 82) (hb hby d7_81) rfl rfl rfl ?_
    refine G.aloadN X14 hx (pc' := 83) (hb hby d7_82) rfl rfl rfl ?_
    refine G.getF X14 hx hZ hown (hw _ (List.mem_of_getElem? (i := 43) rfl)) Via.refl e14 F14_q_lowest (pc' := 86) (hb hby d7_83) rfl fun T15 X15 e15 => ?_
    refine G.iloadN X15 hx (pc' := 87) (hb hby d7_86) rfl rfl ?_
    refine G.callS X15 hx hZ (y := (⟨"java/lang/Math", "min", "(II)I"⟩ : MethodName)) hown (hw _ (List.mem_of_getElem? (i := 45) rfl)) (hw _ (List.mem_of_getElem? (i := 46) rfl)) (hw _ (List.mem_of_getElem? (i := 47) rfl)) (hw _ (List.mem_of_getElem? (i := 48) rfl)) (by decide) e15 (rm := ({ frames := 0, cells := 0, slots := 0, locals := 0 } : Room)) (argsL := [(.int (Int32.ofNat lo)), (.int (Int32.ofNat kk))]) (S := [(.ref q)]) (W := 1) (rm_min l Z a0 hw (Int32.ofNat lo) (Int32.ofNat kk) h14) (lenOf pd_1 rfl) rfl (Nat.le_of_eq rfl) (by decide) (by decide) (by decide) (by decide) (by rw [hml]; rfl) (hb hby d7_87) (pc' := 90) rfl ?_
    rintro T16 _ _ ⟨rfl, e16, rfl⟩ X16
    rw [List.append_nil] at X16
    show Goes p e below T16 (mkF m 90 #[.val (.ref q), .val (.int (Int32.ofNat pl)), .val (.int (Int32.ofNat kk)), .val (.int (Int32.ofNat (3 + kk))), .val (.int (Int32.ofNat f))] [(.int (imin (Int32.ofNat lo) (Int32.ofNat kk))), (.ref q)]) _
    rw [imin_nat (by omega) (by omega)]
    refine G.putF X16 hx hZ hown (hw _ (List.mem_of_getElem? (i := 43) rfl)) Via.refl e16 F14_q_lowest E14_q (Or.inl (hw _ (List.mem_of_getElem? (i := 44) rfl))) (hw _ (List.mem_of_getElem? (i := 2) rfl)) (ty := .int) (by decide) rfl rfl (pc' := 93) (hb hby d7_90) rfl fun T17 h17 X17 e17 W17 => ?_
    have F17_q_after := Fld.other W17 F14_q_after (Or.inr (slot_ne (Or.inr (hw _ (List.mem_of_getElem? (i := 16) rfl))) (Or.inl (hw _ (List.mem_of_getElem? (i := 44) rfl))) (by decide) (t := (.array .int)) (t' := .int) (by decide) (by decide)))
    have F17_q_before := Fld.other W17 F14_q_before (Or.inr (slot_ne (Or.inr (hw _ (List.mem_of_getElem? (i := 18) rfl))) (Or.inl (hw _ (List.mem_of_getElem? (i := 44) rfl))) (by decide) (t := (.array .int)) (t' := .int) (by decide) (by decide)))
    have F17_q_keys := Fld.other W17 F14_q_keys (Or.inr (slot_ne (Or.inr (hw _ (List.mem_of_getElem? (i := 11) rfl))) (Or.inl (hw _ (List.mem_of_getElem? (i := 44) rfl))) (by decide) (t := (.array .long)) (t' := .int) (by decide) (by decide)))
    have F17_q_placeCount := Fld.other W17 F14_q_placeCount (Or.inr (slot_ne (Or.inr (hw _ (List.mem_of_getElem? (i := 13) rfl))) (Or.inl (hw _ (List.mem_of_getElem? (i := 44) rfl))) (by decide) (t := .int) (t' := .int) (by decide) (by decide)))
    have F17_q_size := Fld.other W17 F14_q_size (Or.inr (slot_ne (Or.inl (hw _ (List.mem_of_getElem? (i := 33) rfl))) (Or.inl (hw _ (List.mem_of_getElem? (i := 44) rfl))) (by decide) (t := .int) (t' := .int) (by decide) (by decide)))
    have E17_q := Exa.wr W17 E14_q
    have A17_a := Seq.other A14_a W17 (Ne.symm nqa)
    have A17_b := Seq.other A14_b W17 (Ne.symm nqb)
    have A17_k := Seq.other A14_k W17 (Ne.symm nqk)
    have K17 := Kp.wr K14 W17 (Or.inl (List.mem_of_getElem? (i := 0) rfl))
    have F17_q_lowest := Fld.same W17 F14_q_lowest
    refine Goes.retV X17 hx hret hlk (hb hby d7_93) (by decide) (by decide) ⟨rfl, (by rw [e17]; exact K17), (by rw [e17]; exact F17_q_after), (by rw [e17]; exact F17_q_before), (by rw [e17]; exact F17_q_keys), (by rw [e17]; exact F17_q_placeCount), (by rw [e17]; exact F17_q_size), (by rw [e17]; exact F17_q_lowest), (by rw [e17]; exact A17_a), (by rw [e17]; exact A17_b), (show a2.length = 7 by omega), (show b2.length = 7 by omega)⟩
  · rw [if_neg hneg] at hm
    simp only [Option.bind_eq_some_iff] at hm
    obtain ⟨⟨af1, bf1⟩, hu, hm⟩ := hm
    have hb1 : bp < 1000 := g0.2.2.2.resolve_right hneg
    refine G.icmpT X1 hx (pc' := 23) (hb hby d7_7) (Jvm.Free.XT.ii_ne_t (nat_neg (by omega))) (by decide) (by decide) ?_
    refine G.aloadN X1 hx (pc' := 24) (hb hby d7_23) rfl rfl rfl ?_
    refine G.iloadN X1 hx (pc' := 25) (hb hby d7_24) rfl rfl ?_
    refine G.callP X1 hx hZ (y := (⟨"com/example/netlocus/netlocus/BucketQueue", "unlink", "(I)V"⟩ : MethodName)) hown (hw _ (List.mem_of_getElem? (i := 49) rfl)) (hw _ (List.mem_of_getElem? (i := 50) rfl)) (hw _ (List.mem_of_getElem? (i := 2) rfl)) (hw _ (List.mem_of_getElem? (i := 51) rfl)) (hw _ (List.mem_of_getElem? (i := 3) rfl)) (hw _ (List.mem_of_getElem? (i := 52) rfl)) (by decide) e1 (rm := ({ frames := 0, cells := 0, slots := 0, locals := 0 } : Room)) (argsL := [(.int (Int32.ofNat pl))]) (S := []) (W := 0) (a := q) EQ (rm_unlink l Z a0 hw q a b k ks af bf sz lo af1 bf1 pl h0 EQ Fa Fb Fk Fp Fs Fl Aa Ab Ak nqa nqb nqk nab nak nbk hla hlb hlks hu) (lenOf pd_2 rfl) rfl (Nat.le_of_eq rfl) (by decide) (by decide) (by decide) (by decide) (by rw [hml]; rfl) (hb hby d7_25) (pc' := 28) rfl ?_
    rintro T18 _ L18 ⟨rfl, Kq18, Aa18, Ab18, la18, lb18⟩ X18
    have F18_q_after := Fld.keep Fa Kq18.1 (ninS nqa (ninS nqb nin0))
    have F18_q_before := Fld.keep Fb Kq18.1 (ninS nqa (ninS nqb nin0))
    have F18_q_keys := Fld.keep Fk Kq18.1 (ninS nqa (ninS nqb nin0))
    have F18_q_placeCount := Fld.keep Fp Kq18.1 (ninS nqa (ninS nqb nin0))
    have F18_q_size := Fld.keep Fs Kq18.1 (ninS nqa (ninS nqb nin0))
    have F18_q_lowest := Fld.keep Fl Kq18.1 (ninS nqa (ninS nqb nin0))
    have E18_q := Exa.keep EQ Kq18.1
    have A18_k := Seq.keep Ak Kq18.1 (ninS (Ne.symm nak) (ninS (Ne.symm nbk) nin0))
    have K18 := Kp.call K0 Kq18 (allS (Or.inl (List.mem_of_getElem? (i := 1) rfl)) (allS (Or.inl (List.mem_of_getElem? (i := 2) rfl)) all0))
    show Goes p e below T18 (mkF m 28 #[.val (.ref q), .val (.int (Int32.ofNat pl)), .unset, .unset, .unset] []) _
    simp only [tailM, Option.bind_eq_some_iff] at hm
    obtain ⟨kk, hkk, hm⟩ := hm
    have hk1 : kk < 1000 := by
      by_cases q1 : kk < 1000
      · exact q1
      · rw [if_neg q1] at hm; cases hm
    rw [if_pos hk1] at hm
    simp only [Option.bind_eq_some_iff] at hm
    obtain ⟨f, hf, a1, y1, b1, y2, a2, y3, b2, y4, y5⟩ := hm
    cases y5
    have gk := rd_spec hkk (by omega)
    have hkv : (ks.map fun x => Value.long (Int64.ofNat x))[(Int32.ofNat pl).toNatClampNeg]? = some (.long (Int64.ofNat kk)) := by
      have e1 := gk.2.2.1
      rw [enc, List.getElem?_map] at e1
      rw [List.getElem?_map]
      cases e2 : ks[(Int32.ofNat pl).toNatClampNeg]? with
      | none => rw [e2] at e1; cases e1
      | some y =>
        rw [nat_to (by omega)] at e2
        have e3 : y = kk := by
          have := hkk
          unfold rd at this
          rw [e2] at this
          by_cases q1 : y < 1000 ∨ y = NEG
          · simp only [if_pos q1] at this; exact Option.some.inj this
          · simp only [if_neg q1] at this; cases this
        rw [e3]; rfl
    have g1 := rd_spec hf (by omega)
    have g2 := wrt_spec y1 (by omega)
    have g3 := wrt_spec y2 (by omega)
    have g4 := wrt_spec y3 (by omega)
    have g5 := wrt_spec y4 (by omega)
    have hcv : (Int64.ofNat kk).toInt32 = Int32.ofNat kk := by
      apply Int32.toInt_inj.mp
      have e1 := c_l2i (Int64.ofNat kk)
      rw [Int64.toInt_ofNat_of_lt (by omega)] at e1
      rw [Int32.toInt_ofNat_small (by omega)]
      have e2 := rng32 (Int64.ofNat kk).toInt32
      omega
    refine G.aloadN X18 hx (pc' := 29) (hb hby d7_28) rfl rfl rfl ?_
    refine G.getF X18 hx hZ hown (hw _ (List.mem_of_getElem? (i := 10) rfl)) Via.refl rfl F18_q_keys (pc' := 32) (hb hby d7_29) rfl fun T19 X19 e19 => ?_
    refine G.iloadN X19 hx (pc' := 33) (hb hby d7_32) rfl rfl ?_
    refine G.laload X19 hx hZ e19 A18_k (pc' := 34) (v := (.long (Int64.ofNat kk))) (hb hby d7_33) gk.2.1 hkv rfl ?_
    refine G.l2i X19 hx (pc' := 35) (hb hby d7_34) rfl ?_
    rw [hcv]
    show Goes p e below T19 (mkF m 35 #[.val (.ref q), .val (.int (Int32.ofNat pl)), .unset, .unset, .unset] [(.int (Int32.ofNat kk))]) _
    refine G.istoreN X19 hx (pc' := 36) (hb hby d7_35) (L' := #[.val (.ref q), .val (.int (Int32.ofNat pl)), .val (.int (Int32.ofNat kk)), .unset, .unset]) rfl rfl ?_
    refine G.aloadN X19 hx (pc' := 37) (hb hby d7_36) rfl rfl rfl ?_
    refine G.getF X19 hx hZ hown (hw _ (List.mem_of_getElem? (i := 12) rfl)) Via.refl e19 F18_q_placeCount (pc' := 40) (hb hby d7_37) rfl fun T20 X20 e20 => ?_
    refine G.iloadN X20 hx (pc' := 41) (hb hby d7_40) rfl rfl ?_
    refine G.iadd X20 hx (pc' := 42) (hb hby d7_41) rfl ?_
    rw [nat_add]
    show Goes p e below T20 (mkF m 42 #[.val (.ref q), .val (.int (Int32.ofNat pl)), .val (.int (Int32.ofNat kk)), .unset, .unset] [(.int (Int32.ofNat (3 + kk)))]) _
    refine G.istoreN X20 hx (pc' := 43) (hb hby d7_42) (L' := #[.val (.ref q), .val (.int (Int32.ofNat pl)), .val (.int (Int32.ofNat kk)), .val (.int (Int32.ofNat (3 + kk))), .unset]) rfl rfl ?_
    refine G.aloadN X20 hx (pc' := 44) (hb hby d7_43) rfl rfl rfl ?_
    refine G.getF X20 hx hZ hown (hw _ (List.mem_of_getElem? (i := 15) rfl)) Via.refl e20 F18_q_after (pc' := 47) (hb hby d7_44) rfl fun T21 X21 e21 => ?_
    refine G.iloadN X21 hx (pc' := 48) (hb hby d7_47) rfl rfl ?_
    refine G.iaload X21 hx hZ e21 Aa18 (pc' := 49) (v := (.int (Int32.ofNat f))) (hb hby d7_48) g1.2.1 g1.2.2.1 rfl ?_
    refine G.istore X21 hx (pc' := 51) (hb hby d7_49) (L' := #[.val (.ref q), .val (.int (Int32.ofNat pl)), .val (.int (Int32.ofNat kk)), .val (.int (Int32.ofNat (3 + kk))), .val (.int (Int32.ofNat f))]) rfl rfl ?_
    refine G.aloadN X21 hx (pc' := 52) (hb hby d7_51) rfl rfl rfl ?_
    refine G.getF X21 hx hZ hown (hw _ (List.mem_of_getElem? (i := 15) rfl)) Via.refl e21 F18_q_after (pc' := 55) (hb hby d7_52) rfl fun T22 X22 e22 => ?_
    refine G.iloadN X22 hx (pc' := 56) (hb hby d7_55) rfl rfl ?_
    refine G.iloadN X22 hx (pc' := 57) (hb hby d7_56) rfl rfl ?_
    refine G.iastore X22 hx hZ e22 Aa18 (pc' := 58) (hb hby d7_57) g2.1 g2.2.1 rfl fun T23 h23 X23 e23 W23 A23 => ?_
    have F23_q_after := Fld.other W23 F18_q_after (Or.inl nqa)
    have F23_q_before := Fld.other W23 F18_q_before (Or.inl nqa)
    have F23_q_keys := Fld.other W23 F18_q_keys (Or.inl nqa)
    have F23_q_placeCount := Fld.other W23 F18_q_placeCount (Or.inl nqa)
    have F23_q_size := Fld.other W23 F18_q_size (Or.inl nqa)
    have F23_q_lowest := Fld.other W23 F18_q_lowest (Or.inl nqa)
    have E23_q := Exa.wr W23 E18_q
    have A23_k := Seq.other A18_k W23 (Ne.symm nak)
    have A23_b := Seq.other Ab18 W23 (Ne.symm nab)
    have K23 := Kp.wr K18 W23 (Or.inl (List.mem_of_getElem? (i := 1) rfl))
    have A23_a : Seq Z h23 a .int (enc a1) := (g2.2.2.1) ▸ A23
    refine G.aloadN X23 hx (pc' := 59) (hb hby d7_58) rfl rfl rfl ?_
    refine G.getF X23 hx hZ hown (hw _ (List.mem_of_getElem? (i := 17) rfl)) Via.refl e23 F23_q_before (pc' := 62) (hb hby d7_59) rfl fun T24 X24 e24 => ?_
    refine G.iloadN X24 hx (pc' := 63) (hb hby d7_62) rfl rfl ?_
    refine G.iloadN X24 hx (pc' := 64) (hb hby d7_63) rfl rfl ?_
    refine G.iastore X24 hx hZ e24 A23_b (pc' := 65) (hb hby d7_64) g3.1 g3.2.1 rfl fun T25 h25 X25 e25 W25 A25 => ?_
    have F25_q_after := Fld.other W25 F23_q_after (Or.inl nqb)
    have F25_q_before := Fld.other W25 F23_q_before (Or.inl nqb)
    have F25_q_keys := Fld.other W25 F23_q_keys (Or.inl nqb)
    have F25_q_placeCount := Fld.other W25 F23_q_placeCount (Or.inl nqb)
    have F25_q_size := Fld.other W25 F23_q_size (Or.inl nqb)
    have F25_q_lowest := Fld.other W25 F23_q_lowest (Or.inl nqb)
    have E25_q := Exa.wr W25 E23_q
    have A25_k := Seq.other A23_k W25 (Ne.symm nbk)
    have A25_a := Seq.other A23_a W25 nab
    have K25 := Kp.wr K23 W25 (Or.inl (List.mem_of_getElem? (i := 2) rfl))
    have A25_b : Seq Z h25 b .int (enc b1) := (g3.2.2.1) ▸ A25
    refine G.aloadN X25 hx (pc' := 66) (hb hby d7_65) rfl rfl rfl ?_
    refine G.getF X25 hx hZ hown (hw _ (List.mem_of_getElem? (i := 15) rfl)) Via.refl e25 F25_q_after (pc' := 69) (hb hby d7_66) rfl fun T26 X26 e26 => ?_
    refine G.iloadN X26 hx (pc' := 70) (hb hby d7_69) rfl rfl ?_
    refine G.iload X26 hx (pc' := 72) (hb hby d7_70) rfl rfl ?_
    refine G.iastore X26 hx hZ e26 A25_a (pc' := 73) (hb hby d7_72) g4.1 g4.2.1 rfl fun T27 h27 X27 e27 W27 A27 => ?_
    have F27_q_after := Fld.other W27 F25_q_after (Or.inl nqa)
    have F27_q_before := Fld.other W27 F25_q_before (Or.inl nqa)
    have F27_q_keys := Fld.other W27 F25_q_keys (Or.inl nqa)
    have F27_q_placeCount := Fld.other W27 F25_q_placeCount (Or.inl nqa)
    have F27_q_size := Fld.other W27 F25_q_size (Or.inl nqa)
    have F27_q_lowest := Fld.other W27 F25_q_lowest (Or.inl nqa)
    have E27_q := Exa.wr W27 E25_q
    have A27_k := Seq.other A25_k W27 (Ne.symm nak)
    have A27_b := Seq.other A25_b W27 (Ne.symm nab)
    have K27 := Kp.wr K25 W27 (Or.inl (List.mem_of_getElem? (i := 1) rfl))
    have A27_a : Seq Z h27 a .int (enc a2) := (g4.2.2.1) ▸ A27
    refine G.aloadN X27 hx (pc' := 74) (hb hby d7_73) rfl rfl rfl ?_
    refine G.getF X27 hx hZ hown (hw _ (List.mem_of_getElem? (i := 17) rfl)) Via.refl e27 F27_q_before (pc' := 77) (hb hby d7_74) rfl fun T28 X28 e28 => ?_
    refine G.iload X28 hx (pc' := 79) (hb hby d7_77) rfl rfl ?_
    refine G.iloadN X28 hx (pc' := 80) (hb hby d7_79) rfl rfl ?_
    refine G.iastore X28 hx hZ e28 A27_b (pc' := 81) (hb hby d7_80) g5.1 g5.2.1 rfl fun T29 h29 X29 e29 W29 A29 => ?_
    have F29_q_after := Fld.other W29 F27_q_after (Or.inl nqb)
    have F29_q_before := Fld.other W29 F27_q_before (Or.inl nqb)
    have F29_q_keys := Fld.other W29 F27_q_keys (Or.inl nqb)
    have F29_q_placeCount := Fld.other W29 F27_q_placeCount (Or.inl nqb)
    have F29_q_size := Fld.other W29 F27_q_size (Or.inl nqb)
    have F29_q_lowest := Fld.other W29 F27_q_lowest (Or.inl nqb)
    have E29_q := Exa.wr W29 E27_q
    have A29_k := Seq.other A27_k W29 (Ne.symm nbk)
    have A29_a := Seq.other A27_a W29 nab
    have K29 := Kp.wr K27 W29 (Or.inl (List.mem_of_getElem? (i := 2) rfl))
    have A29_b : Seq Z h29 b .int (enc b2) := (g5.2.2.1) ▸ A29
    refine G.aloadN X29 hx (pc' := 82) (hb hby d7_81) rfl rfl rfl ?_
    refine G.aloadN X29 hx (pc' := 83) (hb hby d7_82) rfl rfl rfl ?_
    refine G.getF X29 hx hZ hown (hw _ (List.mem_of_getElem? (i := 43) rfl)) Via.refl e29 F29_q_lowest (pc' := 86) (hb hby d7_83) rfl fun T30 X30 e30 => ?_
    refine G.iloadN X30 hx (pc' := 87) (hb hby d7_86) rfl rfl ?_
    refine G.callS X30 hx hZ (y := (⟨"java/lang/Math", "min", "(II)I"⟩ : MethodName)) hown (hw _ (List.mem_of_getElem? (i := 45) rfl)) (hw _ (List.mem_of_getElem? (i := 46) rfl)) (hw _ (List.mem_of_getElem? (i := 47) rfl)) (hw _ (List.mem_of_getElem? (i := 48) rfl)) (by decide) e30 (rm := ({ frames := 0, cells := 0, slots := 0, locals := 0 } : Room)) (argsL := [(.int (Int32.ofNat lo)), (.int (Int32.ofNat kk))]) (S := [(.ref q)]) (W := 1) (rm_min l Z a0 hw (Int32.ofNat lo) (Int32.ofNat kk) h29) (lenOf pd_1 rfl) rfl (Nat.le_of_eq rfl) (by decide) (by decide) (by decide) (by decide) (by rw [hml]; rfl) (hb hby d7_87) (pc' := 90) rfl ?_
    rintro T31 _ _ ⟨rfl, e31, rfl⟩ X31
    rw [List.append_nil] at X31
    show Goes p e below T31 (mkF m 90 #[.val (.ref q), .val (.int (Int32.ofNat pl)), .val (.int (Int32.ofNat kk)), .val (.int (Int32.ofNat (3 + kk))), .val (.int (Int32.ofNat f))] [(.int (imin (Int32.ofNat lo) (Int32.ofNat kk))), (.ref q)]) _
    rw [imin_nat (by omega) (by omega)]
    refine G.putF X31 hx hZ hown (hw _ (List.mem_of_getElem? (i := 43) rfl)) Via.refl e31 F29_q_lowest E29_q (Or.inl (hw _ (List.mem_of_getElem? (i := 44) rfl))) (hw _ (List.mem_of_getElem? (i := 2) rfl)) (ty := .int) (by decide) rfl rfl (pc' := 93) (hb hby d7_90) rfl fun T32 h32 X32 e32 W32 => ?_
    have F32_q_after := Fld.other W32 F29_q_after (Or.inr (slot_ne (Or.inr (hw _ (List.mem_of_getElem? (i := 16) rfl))) (Or.inl (hw _ (List.mem_of_getElem? (i := 44) rfl))) (by decide) (t := (.array .int)) (t' := .int) (by decide) (by decide)))
    have F32_q_before := Fld.other W32 F29_q_before (Or.inr (slot_ne (Or.inr (hw _ (List.mem_of_getElem? (i := 18) rfl))) (Or.inl (hw _ (List.mem_of_getElem? (i := 44) rfl))) (by decide) (t := (.array .int)) (t' := .int) (by decide) (by decide)))
    have F32_q_keys := Fld.other W32 F29_q_keys (Or.inr (slot_ne (Or.inr (hw _ (List.mem_of_getElem? (i := 11) rfl))) (Or.inl (hw _ (List.mem_of_getElem? (i := 44) rfl))) (by decide) (t := (.array .long)) (t' := .int) (by decide) (by decide)))
    have F32_q_placeCount := Fld.other W32 F29_q_placeCount (Or.inr (slot_ne (Or.inr (hw _ (List.mem_of_getElem? (i := 13) rfl))) (Or.inl (hw _ (List.mem_of_getElem? (i := 44) rfl))) (by decide) (t := .int) (t' := .int) (by decide) (by decide)))
    have F32_q_size := Fld.other W32 F29_q_size (Or.inr (slot_ne (Or.inl (hw _ (List.mem_of_getElem? (i := 33) rfl))) (Or.inl (hw _ (List.mem_of_getElem? (i := 44) rfl))) (by decide) (t := .int) (t' := .int) (by decide) (by decide)))
    have E32_q := Exa.wr W32 E29_q
    have A32_k := Seq.other A29_k W32 (Ne.symm nqk)
    have A32_a := Seq.other A29_a W32 (Ne.symm nqa)
    have A32_b := Seq.other A29_b W32 (Ne.symm nqb)
    have K32 := Kp.wr K29 W32 (Or.inl (List.mem_of_getElem? (i := 0) rfl))
    have F32_q_lowest := Fld.same W32 F29_q_lowest
    refine Goes.retV X32 hx hret hlk (hb hby d7_93) (by decide) (by decide) ⟨rfl, (by rw [e32]; exact K32), (by rw [e32]; exact F32_q_after), (by rw [e32]; exact F32_q_before), (by rw [e32]; exact F32_q_keys), (by rw [e32]; exact F32_q_placeCount), (by rw [e32]; exact F32_q_size), (by rw [e32]; exact F32_q_lowest), (by rw [e32]; exact A32_a), (by rw [e32]; exact A32_b), (show a2.length = 7 by omega), (show b2.length = 7 by omega)⟩
set_option maxRecDepth 65536 in
set_option maxHeartbeats 40000000 in
theorem rm_rem (l : Launch) (Z : State) (a0 : Array Value) (hw : ∀ d ∈ tables_1, d.before a0 Z = true) (q a b k : Addr) (ks af bf : List Nat) (sz lo : Nat) (r : Nat × List Nat × List Nat × Nat × Nat) (h0 : Heap) (EQ : Exa Z h0 q "com/example/netlocus/netlocus/BucketQueue") (Fa : Fld Z h0 q "com/example/netlocus/netlocus/BucketQueue" "after" "[I" (.ref a)) (Fb : Fld Z h0 q "com/example/netlocus/netlocus/BucketQueue" "before" "[I" (.ref b)) (Fk : Fld Z h0 q "com/example/netlocus/netlocus/BucketQueue" "keys" "[J" (.ref k)) (Fp : Fld Z h0 q "com/example/netlocus/netlocus/BucketQueue" "placeCount" "I" (.int (Int32.ofNat 3))) (Fs : Fld Z h0 q "com/example/netlocus/netlocus/BucketQueue" "size" "I" (.int (Int32.ofNat sz))) (Fl : Fld Z h0 q "com/example/netlocus/netlocus/BucketQueue" "lowest" "I" (.int (Int32.ofNat lo))) (Aa : Seq Z h0 a .int (enc af)) (Ab : Seq Z h0 b .int (enc bf)) (Ak : Seq Z h0 k .long (ks.map fun x => Value.long (Int64.ofNat x))) (nqa : q ≠ a) (nqb : q ≠ b) (nqk : q ≠ k) (nab : a ≠ b) (nak : a ≠ k) (nbk : b ≠ k) (hla : af.length = 7) (hlb : bf.length = 7) (hlks : ks.length = 3) (hsz : sz < 900) (hlo : lo < 900) (hm : remM af bf sz lo = some r) :
    Con l (⟨"com/example/netlocus/netlocus/BucketQueue", "removeNearest", "()I"⟩ : MethodName) prog_13_method_4_code 2 (some .int) ({ frames := 1, cells := 0, slots := 0, locals := 15 } : Room) Z #[(.ref q)] h0 (fun v h L => v = some (.int (Int32.ofNat r.1)) ∧ Kp h0 h [q, a, b] L ∧ Fld Z h q "com/example/netlocus/netlocus/BucketQueue" "after" "[I" (.ref a) ∧ Fld Z h q "com/example/netlocus/netlocus/BucketQueue" "before" "[I" (.ref b) ∧ Fld Z h q "com/example/netlocus/netlocus/BucketQueue" "keys" "[J" (.ref k) ∧ Fld Z h q "com/example/netlocus/netlocus/BucketQueue" "placeCount" "I" (.int (Int32.ofNat 3)) ∧ Fld Z h q "com/example/netlocus/netlocus/BucketQueue" "size" "I" (.int (Int32.ofNat r.2.2.2.1)) ∧ Fld Z h q "com/example/netlocus/netlocus/BucketQueue" "lowest" "I" (.int (Int32.ofNat r.2.2.2.2)) ∧ Seq Z h a .int (enc r.2.1) ∧ Seq Z h b .int (enc r.2.2.1) ∧ r.2.1.length = 7 ∧ r.2.2.1.length = 7) := by
  refine Con.of_body (plainFor_of_name pn_0) ?_
  intro p e s m below meth c T0 X0 hx hby hml hZ hown hnm hret hlk e0
  have hown : s.vm.findClass "com/example/netlocus/netlocus/BucketQueue" = some m.cls := hown
  have hml : c.maxLocals = 2 := hml
  refine Goes.cast (ef10_R m q) ?_
  have K0 := Kp.refl h0 [q, a, b]
  unfold remM at hm
  have hs0 : ¬ sz = 0 := fun z => by rw [if_pos z] at hm; cases hm
  rw [if_neg hs0] at hm
  simp only [Option.bind_eq_some_iff] at hm
  obtain ⟨lo1, hlow, pl, hpl, hm⟩ := hm
  have hp1 : pl < 1000 := by
    by_cases q1 : pl < 1000
    · exact q1
    · rw [if_neg q1] at hm; cases hm
  rw [if_pos hp1] at hm
  simp only [Option.bind_eq_some_iff] at hm
  obtain ⟨⟨af1, bf1⟩, hu, b1, hwb, hr⟩ := hm
  have hr : (pl, af1, b1, sz - 1, lo1) = r := Option.some.inj hr
  refine G.aloadN X0 hx (pc' := 1) (hb hby d10_0) rfl rfl rfl ?_
  refine G.getF X0 hx hZ hown (hw _ (List.mem_of_getElem? (i := 32) rfl)) Via.refl e0 Fs (pc' := 4) (hb hby d10_1) rfl fun T1 X1 e1 => ?_
  refine G.ifT X1 hx (pc' := 17) (hb hby d10_4) (Jvm.Free.XT.i0_ne_t (fun z => hs0 ((nat_eq (e := 0) (by omega) (by omega)).mp z))) (by decide) (by decide) ?_
  have hloop : ∀ (f lo : Nat) (T9 : State) (h9 : Heap) (L9 : List Loc), Stand p l e ({ frames := 1, cells := 0, slots := 0, locals := 15 } : Room) s m #[(.ref q)] below meth c T9 L9 0 0 → T9.heap = h9 → Exa Z h9 q "com/example/netlocus/netlocus/BucketQueue" → Fld Z h9 q "com/example/netlocus/netlocus/BucketQueue" "after" "[I" (.ref a) → Fld Z h9 q "com/example/netlocus/netlocus/BucketQueue" "before" "[I" (.ref b) → Fld Z h9 q "com/example/netlocus/netlocus/BucketQueue" "keys" "[J" (.ref k) → Fld Z h9 q "com/example/netlocus/netlocus/BucketQueue" "placeCount" "I" (.int (Int32.ofNat 3)) → Fld Z h9 q "com/example/netlocus/netlocus/BucketQueue" "size" "I" (.int (Int32.ofNat sz)) → Fld Z h9 q "com/example/netlocus/netlocus/BucketQueue" "lowest" "I" (.int (Int32.ofNat lo)) → Seq Z h9 a .int (enc af) → Seq Z h9 b .int (enc bf) → Seq Z h9 k .long (ks.map fun x => Value.long (Int64.ofNat x)) → Kp h0 h9 [q, a, b] L9 → lowM af f lo = some lo1 → Goes p e below T9 (mkF m 17 #[.val (.ref q), .unset] []) (fun U o => ∃ v L, o = .returned v ∧ Ap (fun v h L => v = some (.int (Int32.ofNat r.1)) ∧ Kp h0 h [q, a, b] L ∧ Fld Z h q "com/example/netlocus/netlocus/BucketQueue" "after" "[I" (.ref a) ∧ Fld Z h q "com/example/netlocus/netlocus/BucketQueue" "before" "[I" (.ref b) ∧ Fld Z h q "com/example/netlocus/netlocus/BucketQueue" "keys" "[J" (.ref k) ∧ Fld Z h q "com/example/netlocus/netlocus/BucketQueue" "placeCount" "I" (.int (Int32.ofNat 3)) ∧ Fld Z h q "com/example/netlocus/netlocus/BucketQueue" "size" "I" (.int (Int32.ofNat r.2.2.2.1)) ∧ Fld Z h q "com/example/netlocus/netlocus/BucketQueue" "lowest" "I" (.int (Int32.ofNat r.2.2.2.2)) ∧ Seq Z h a .int (enc r.2.1) ∧ Seq Z h b .int (enc r.2.2.1) ∧ r.2.1.length = 7 ∧ r.2.2.1.length = 7) v U.heap L ∧ FrameEnd s o U L ({ frames := 1, cells := 0, slots := 0, locals := 15 } : Room).cells ({ frames := 1, cells := 0, slots := 0, locals := 15 } : Room).slots) := by
    intro f
    induction f with
    | zero => intro lo T9 h9 L9 _ _ _ _ _ _ _ _ _ _ _ _ _ hl; cases hl
    | succ f ih =>
      intro lo T9 h9 L9 X9 e9 EQ9 Fa9 Fb9 Fk9 Fp9 Fs9 Fl9 Aa9 Ab9 Ak9 K9 hl
      unfold lowM at hl
      have hlo9 : lo < 900 := by
        by_cases q1 : lo < 900
        · exact q1
        · rw [if_neg q1] at hl; cases hl
      rw [if_pos hlo9] at hl
      simp only [Option.bind_eq_some_iff] at hl
      obtain ⟨xx, hxx, hl⟩ := hl
      have gx := rd_spec hxx (by omega)
      refine G.aloadN X9 hx (pc' := 18) (hb hby d10_17) rfl rfl rfl ?_
      refine G.getF X9 hx hZ hown (hw _ (List.mem_of_getElem? (i := 15) rfl)) Via.refl e9 Fa9 (pc' := 21) (hb hby d10_18) rfl fun T11 X11 e11 => ?_
      refine G.aloadN X11 hx (pc' := 22) (hb hby d10_21) rfl rfl rfl ?_
      refine G.getF X11 hx hZ hown (hw _ (List.mem_of_getElem? (i := 12) rfl)) Via.refl e11 Fp9 (pc' := 25) (hb hby d10_22) rfl fun T12 X12 e12 => ?_
      refine G.aloadN X12 hx (pc' := 26) (hb hby d10_25) rfl rfl rfl ?_
      refine G.getF X12 hx hZ hown (hw _ (List.mem_of_getElem? (i := 43) rfl)) Via.refl e12 Fl9 (pc' := 29) (hb hby d10_26) rfl fun T13 X13 e13 => ?_
      refine G.iadd X13 hx (pc' := 30) (hb hby d10_29) rfl ?_
      rw [nat_add]
      show Goes p e below T13 (mkF m 30 #[.val (.ref q), .unset] [(.int (Int32.ofNat (3 + lo))), (.ref a)]) _
      refine G.iaload X13 hx hZ e13 Aa9 (pc' := 31) (v := (.int (Int32.ofNat xx))) (hb hby d10_30) gx.2.1 gx.2.2.1 rfl ?_
      refine G.aloadN X13 hx (pc' := 32) (hb hby d10_31) rfl rfl rfl ?_
      refine G.getF X13 hx hZ hown (hw _ (List.mem_of_getElem? (i := 12) rfl)) Via.refl e13 Fp9 (pc' := 35) (hb hby d10_32) rfl fun T14 X14 e14 => ?_
      refine G.aloadN X14 hx (pc' := 36) (hb hby d10_35) rfl rfl rfl ?_
      refine G.getF X14 hx hZ hown (hw _ (List.mem_of_getElem? (i := 43) rfl)) Via.refl e14 Fl9 (pc' := 39) (hb hby d10_36) rfl fun T15 X15 e15 => ?_
      refine G.iadd X15 hx (pc' := 40) (hb hby d10_39) rfl ?_
      rw [nat_add]
      show Goes p e below T15 (mkF m 40 #[.val (.ref q), .unset] [(.int (Int32.ofNat (3 + lo))), (.int (Int32.ofNat xx))]) _
      by_cases hx3 : xx = 3 + lo
      · rw [if_pos hx3] at hl
        refine G.icmpF X15 hx (pc' := 43) (hb hby d10_40) (Jvm.Free.XT.ii_ne_f (by rw [hx3])) rfl ?_
        refine G.aloadN X15 hx (pc' := 44) (hb hby d10_43) rfl rfl rfl ?_
        refine G.dup X15 hx (pc' := 45) (hb hby d10_44) rfl rfl ?_
        refine G.getF X15 hx hZ hown (hw _ (List.mem_of_getElem? (i := 43) rfl)) Via.refl e15 Fl9 (pc' := 48) (hb hby d10_45) rfl fun T16 X16 e16 => ?_
        refine G.iconst X16 hx (pc' := 49) (hb hby d10_48) (z := (1 : Int32)) rfl rfl ?_
        refine G.iadd X16 hx (pc' := 50) (hb hby d10_49) rfl ?_
        refine G.putF X16 hx hZ hown (hw _ (List.mem_of_getElem? (i := 43) rfl)) Via.refl e16 Fl9 EQ9 (Or.inl (hw _ (List.mem_of_getElem? (i := 44) rfl))) (hw _ (List.mem_of_getElem? (i := 2) rfl)) (ty := .int) (by decide) rfl rfl (pc' := 53) (hb hby d10_50) rfl fun T17 h17 X17 e17 W17 => ?_
        have F17_q_after := Fld.other W17 Fa9 (Or.inr (slot_ne (Or.inr (hw _ (List.mem_of_getElem? (i := 16) rfl))) (Or.inl (hw _ (List.mem_of_getElem? (i := 44) rfl))) (by decide) (t := (.array .int)) (t' := .int) (by decide) (by decide)))
        have F17_q_before := Fld.other W17 Fb9 (Or.inr (slot_ne (Or.inr (hw _ (List.mem_of_getElem? (i := 18) rfl))) (Or.inl (hw _ (List.mem_of_getElem? (i := 44) rfl))) (by decide) (t := (.array .int)) (t' := .int) (by decide) (by decide)))
        have F17_q_keys := Fld.other W17 Fk9 (Or.inr (slot_ne (Or.inr (hw _ (List.mem_of_getElem? (i := 11) rfl))) (Or.inl (hw _ (List.mem_of_getElem? (i := 44) rfl))) (by decide) (t := (.array .long)) (t' := .int) (by decide) (by decide)))
        have F17_q_placeCount := Fld.other W17 Fp9 (Or.inr (slot_ne (Or.inr (hw _ (List.mem_of_getElem? (i := 13) rfl))) (Or.inl (hw _ (List.mem_of_getElem? (i := 44) rfl))) (by decide) (t := .int) (t' := .int) (by decide) (by decide)))
        have F17_q_size := Fld.other W17 Fs9 (Or.inr (slot_ne (Or.inl (hw _ (List.mem_of_getElem? (i := 33) rfl))) (Or.inl (hw _ (List.mem_of_getElem? (i := 44) rfl))) (by decide) (t := .int) (t' := .int) (by decide) (by decide)))
        have E17_q := Exa.wr W17 EQ9
        have A17_a := Seq.other Aa9 W17 (Ne.symm nqa)
        have A17_b := Seq.other Ab9 W17 (Ne.symm nqb)
        have A17_k := Seq.other Ak9 W17 (Ne.symm nqk)
        have K17 := Kp.wr K9 W17 (Or.inl (List.mem_of_getElem? (i := 0) rfl))
        have F17_q_lowest := Fld.same W17 Fl9
        rw [show Int32.ofNat lo + (1 : Int32) = Int32.ofNat (lo + 1) from nat_add (j := 1)] at F17_q_lowest
        refine G.goto X17 hx (pc' := 17) (hb hby d10_53) (by decide) (by decide) ?_
        exact ih (lo + 1) T17 h17 _ X17 e17 E17_q F17_q_after F17_q_before F17_q_keys F17_q_placeCount F17_q_size F17_q_lowest A17_a A17_b A17_k K17 hl
      · rw [if_neg hx3] at hl
        have hlo : lo = lo1 := Option.some.inj hl
        have hpl' : rd af (3 + lo) = some pl := by rw [hlo]; exact hpl
        have gp := rd_spec hpl' (by omega)
        refine G.icmpT X15 hx (pc' := 56) (hb hby d10_40) (Jvm.Free.XT.ii_ne_t (fun z => hx3 ((nat_eqN gx.2.2.2 (by omega)).mp z))) (by decide) (by decide) ?_
        refine G.aloadN X15 hx (pc' := 57) (hb hby d10_56) rfl rfl rfl ?_
        refine G.getF X15 hx hZ hown (hw _ (List.mem_of_getElem? (i := 15) rfl)) Via.refl e15 Fa9 (pc' := 60) (hb hby d10_57) rfl fun T18 X18 e18 => ?_
        refine G.aloadN X18 hx (pc' := 61) (hb hby d10_60) rfl rfl rfl ?_
        refine G.getF X18 hx hZ hown (hw _ (List.mem_of_getElem? (i := 12) rfl)) Via.refl e18 Fp9 (pc' := 64) (hb hby d10_61) rfl fun T19 X19 e19 => ?_
        refine G.aloadN X19 hx (pc' := 65) (hb hby d10_64) rfl rfl rfl ?_
        refine G.getF X19 hx hZ hown (hw _ (List.mem_of_getElem? (i := 43) rfl)) Via.refl e19 Fl9 (pc' := 68) (hb hby d10_65) rfl fun T20 X20 e20 => ?_
        refine G.iadd X20 hx (pc' := 69) (hb hby d10_68) rfl ?_
        rw [nat_add]
        show Goes p e below T20 (mkF m 69 #[.val (.ref q), .unset] [(.int (Int32.ofNat (3 + lo))), (.ref a)]) _
        refine G.iaload X20 hx hZ e20 Aa9 (pc' := 70) (v := (.int (Int32.ofNat pl))) (hb hby d10_69) gp.2.1 gp.2.2.1 rfl ?_
        refine G.istoreN X20 hx (pc' := 71) (hb hby d10_70) (L' := #[.val (.ref q), .val (.int (Int32.ofNat pl))]) rfl rfl ?_
        refine G.aloadN X20 hx (pc' := 72) (hb hby d10_71) rfl rfl rfl ?_
        refine G.iloadN X20 hx (pc' := 73) (hb hby d10_72) rfl rfl ?_
        refine G.callP X20 hx hZ (y := (⟨"com/example/netlocus/netlocus/BucketQueue", "unlink", "(I)V"⟩ : MethodName)) hown (hw _ (List.mem_of_getElem? (i := 49) rfl)) (hw _ (List.mem_of_getElem? (i := 50) rfl)) (hw _ (List.mem_of_getElem? (i := 2) rfl)) (hw _ (List.mem_of_getElem? (i := 51) rfl)) (hw _ (List.mem_of_getElem? (i := 3) rfl)) (hw _ (List.mem_of_getElem? (i := 52) rfl)) (by decide) e20 (rm := ({ frames := 0, cells := 0, slots := 0, locals := 0 } : Room)) (argsL := [(.int (Int32.ofNat pl))]) (S := []) (W := 0) (a := q) EQ9 (rm_unlink l Z a0 hw q a b k ks af bf sz lo af1 bf1 pl h9 EQ9 Fa9 Fb9 Fk9 Fp9 Fs9 Fl9 Aa9 Ab9 Ak9 nqa nqb nqk nab nak nbk hla hlb hlks hu) (lenOf pd_2 rfl) rfl (Nat.le_of_eq rfl) (by decide) (by decide) (by decide) (by decide) (by rw [hml]; rfl) (hb hby d10_73) (pc' := 76) rfl ?_
        rintro T21 _ L21 ⟨rfl, Kq21, Aa21, Ab21, la21, lb21⟩ X21
        have F21_q_after := Fld.keep Fa9 Kq21.1 (ninS nqa (ninS nqb nin0))
        have F21_q_before := Fld.keep Fb9 Kq21.1 (ninS nqa (ninS nqb nin0))
        have F21_q_keys := Fld.keep Fk9 Kq21.1 (ninS nqa (ninS nqb nin0))
        have F21_q_placeCount := Fld.keep Fp9 Kq21.1 (ninS nqa (ninS nqb nin0))
        have F21_q_size := Fld.keep Fs9 Kq21.1 (ninS nqa (ninS nqb nin0))
        have F21_q_lowest := Fld.keep Fl9 Kq21.1 (ninS nqa (ninS nqb nin0))
        have E21_q := Exa.keep EQ9 Kq21.1
        have A21_k := Seq.keep Ak9 Kq21.1 (ninS (Ne.symm nak) (ninS (Ne.symm nbk) nin0))
        have K21 := Kp.call K9 Kq21 (allS (Or.inl (List.mem_of_getElem? (i := 1) rfl)) (allS (Or.inl (List.mem_of_getElem? (i := 2) rfl)) all0))
        show Goes p e below T21 (mkF m 76 #[.val (.ref q), .val (.int (Int32.ofNat pl))] []) _
        have hwb : wrt bf1 pl NEG = some b1 := hwb
        have gw := wrt_spec hwb (by omega)
        refine G.aloadN X21 hx (pc' := 77) (hb hby d10_76) rfl rfl rfl ?_
        refine G.getF X21 hx hZ hown (hw _ (List.mem_of_getElem? (i := 17) rfl)) Via.refl rfl F21_q_before (pc' := 80) (hb hby d10_77) rfl fun T22 X22 e22 => ?_
        refine G.iloadN X22 hx (pc' := 81) (hb hby d10_80) rfl rfl ?_
        refine G.iconst X22 hx (pc' := 82) (hb hby d10_81) (z := (-1 : Int32)) rfl rfl ?_
        refine G.iastore X22 hx hZ e22 Ab21 (pc' := 83) (hb hby d10_82) gw.1 gw.2.1 rfl fun T23 h23 X23 e23 W23 A23 => ?_
        have F23_q_after := Fld.other W23 F21_q_after (Or.inl nqb)
        have F23_q_before := Fld.other W23 F21_q_before (Or.inl nqb)
        have F23_q_keys := Fld.other W23 F21_q_keys (Or.inl nqb)
        have F23_q_placeCount := Fld.other W23 F21_q_placeCount (Or.inl nqb)
        have F23_q_size := Fld.other W23 F21_q_size (Or.inl nqb)
        have F23_q_lowest := Fld.other W23 F21_q_lowest (Or.inl nqb)
        have E23_q := Exa.wr W23 E21_q
        have A23_k := Seq.other A21_k W23 (Ne.symm nbk)
        have A23_a := Seq.other Aa21 W23 nab
        have K23 := Kp.wr K21 W23 (Or.inl (List.mem_of_getElem? (i := 2) rfl))
        have A23_b : Seq Z h23 b .int (enc b1) := (show (enc bf1).set (Int32.ofNat pl).toNatClampNeg (.int (-1 : Int32)) = enc b1 from gw.2.2.1) ▸ A23
        refine G.aloadN X23 hx (pc' := 84) (hb hby d10_83) rfl rfl rfl ?_
        refine G.dup X23 hx (pc' := 85) (hb hby d10_84) rfl rfl ?_
        refine G.getF X23 hx hZ hown (hw _ (List.mem_of_getElem? (i := 32) rfl)) Via.refl e23 F23_q_size (pc' := 88) (hb hby d10_85) rfl fun T24 X24 e24 => ?_
        refine G.iconst X24 hx (pc' := 89) (hb hby d10_88) (z := (1 : Int32)) rfl rfl ?_
        refine G.isub X24 hx (pc' := 90) (hb hby d10_89) rfl ?_
        refine G.putF X24 hx hZ hown (hw _ (List.mem_of_getElem? (i := 32) rfl)) Via.refl e24 F23_q_size E23_q (Or.inl (hw _ (List.mem_of_getElem? (i := 33) rfl))) (hw _ (List.mem_of_getElem? (i := 2) rfl)) (ty := .int) (by decide) rfl rfl (pc' := 93) (hb hby d10_90) rfl fun T25 h25 X25 e25 W25 => ?_
        have F25_q_after := Fld.other W25 F23_q_after (Or.inr (slot_ne (Or.inr (hw _ (List.mem_of_getElem? (i := 16) rfl))) (Or.inl (hw _ (List.mem_of_getElem? (i := 33) rfl))) (by decide) (t := (.array .int)) (t' := .int) (by decide) (by decide)))
        have F25_q_before := Fld.other W25 F23_q_before (Or.inr (slot_ne (Or.inr (hw _ (List.mem_of_getElem? (i := 18) rfl))) (Or.inl (hw _ (List.mem_of_getElem? (i := 33) rfl))) (by decide) (t := (.array .int)) (t' := .int) (by decide) (by decide)))
        have F25_q_keys := Fld.other W25 F23_q_keys (Or.inr (slot_ne (Or.inr (hw _ (List.mem_of_getElem? (i := 11) rfl))) (Or.inl (hw _ (List.mem_of_getElem? (i := 33) rfl))) (by decide) (t := (.array .long)) (t' := .int) (by decide) (by decide)))
        have F25_q_placeCount := Fld.other W25 F23_q_placeCount (Or.inr (slot_ne (Or.inr (hw _ (List.mem_of_getElem? (i := 13) rfl))) (Or.inl (hw _ (List.mem_of_getElem? (i := 33) rfl))) (by decide) (t := .int) (t' := .int) (by decide) (by decide)))
        have F25_q_lowest := Fld.other W25 F23_q_lowest (Or.inr (slot_ne (Or.inl (hw _ (List.mem_of_getElem? (i := 44) rfl))) (Or.inl (hw _ (List.mem_of_getElem? (i := 33) rfl))) (by decide) (t := .int) (t' := .int) (by decide) (by decide)))
        have E25_q := Exa.wr W25 E23_q
        have A25_k := Seq.other A23_k W25 (Ne.symm nqk)
        have A25_a := Seq.other A23_a W25 (Ne.symm nqa)
        have A25_b := Seq.other A23_b W25 (Ne.symm nqb)
        have K25 := Kp.wr K23 W25 (Or.inl (List.mem_of_getElem? (i := 0) rfl))
        have F25_q_size := Fld.same W25 F23_q_size
        rw [nat_pred (by omega)] at F25_q_size
        refine G.iloadN X25 hx (pc' := 94) (hb hby d10_93) rfl rfl ?_
        subst hr
        have Fl8 : Fld Z h25 q "com/example/netlocus/netlocus/BucketQueue" "lowest" "I" (.int (Int32.ofNat lo1)) := by rw [← hlo]; exact F25_q_lowest
        refine Goes.retI X25 hx hret hlk (hb hby d10_94) (by decide) (by decide) ⟨rfl, (by rw [e25]; exact K25), (by rw [e25]; exact F25_q_after), (by rw [e25]; exact F25_q_before), (by rw [e25]; exact F25_q_keys), (by rw [e25]; exact F25_q_placeCount), (by rw [e25]; exact F25_q_size), (by rw [e25]; exact Fl8), (by rw [e25]; exact A25_a), (by rw [e25]; exact A25_b), (show af1.length = 7 by omega), (show b1.length = 7 by omega)⟩
  exact hloop 5 lo T1 h0 _ X1 e1 EQ Fa Fb Fk Fp Fs Fl Aa Ab Ak K0 hlow
set_option maxRecDepth 65536 in
set_option maxHeartbeats 40000000 in
theorem rm_emp (l : Launch) (Z : State) (a0 : Array Value) (hw : ∀ d ∈ tables_1, d.before a0 Z = true) (q : Addr) (sz : Nat) (h0 : Heap) (Fs : Fld Z h0 q "com/example/netlocus/netlocus/BucketQueue" "size" "I" (.int (Int32.ofNat sz))) (hsz : sz < 900) :
    Con l (⟨"com/example/netlocus/netlocus/BucketQueue", "isEmpty", "()Z"⟩ : MethodName) prog_13_method_2_code 1 (some .boolean) ({ frames := 0, cells := 0, slots := 0, locals := 0 } : Room) Z #[(.ref q)] h0 (Pur (some (.int (if sz = 0 then (1 : Int32) else (0 : Int32)))) h0) := by
  refine Con.of_body (plainFor_of_name pn_0) ?_
  intro p e s m below meth c T0 X0 hx hby hml hZ hown hnm hret hlk e0
  have hown : s.vm.findClass "com/example/netlocus/netlocus/BucketQueue" = some m.cls := hown
  have hml : c.maxLocals = 1 := hml
  refine Goes.cast (ef5_R m q) ?_
  refine G.aloadN X0 hx (pc' := 1) (hb hby d5_0) rfl rfl rfl ?_
  refine G.getF X0 hx hZ hown (hw _ (List.mem_of_getElem? (i := 32) rfl)) Via.refl e0 Fs (pc' := 4) (hb hby d5_1) rfl fun T1 X1 e1 => ?_
  by_cases h0s : sz = 0
  · refine G.ifF X1 hx (pc' := 7) (hb hby d5_4) (Jvm.Free.XT.i0_ne_f (by rw [h0s]; rfl)) rfl ?_
    refine G.iconst X1 hx (pc' := 8) (hb hby d5_7) (z := (1 : Int32)) rfl rfl ?_
    refine G.goto X1 hx (pc' := 12) (hb hby d5_8) (by decide) (by decide) ?_
    refine Goes.retN X1 hx hret (by simp) hlk (hb hby d5_12) (by decide) (by decide) ⟨by rw [if_pos h0s]; rfl, e1, rfl⟩
  · refine G.ifT X1 hx (pc' := 11) (hb hby d5_4) (Jvm.Free.XT.i0_ne_t (fun z => h0s ((nat_eq (e := 0) (by omega) (by omega)).mp z))) (by decide) (by decide) ?_
    refine G.iconst X1 hx (pc' := 12) (hb hby d5_11) (z := (0 : Int32)) rfl rfl ?_
    refine Goes.retN X1 hx hret (by simp) hlk (hb hby d5_12) (by decide) (by decide) ⟨by rw [if_neg h0s]; rfl, e1, rfl⟩
set_option maxRecDepth 65536 in
set_option maxHeartbeats 40000000 in
theorem rm_step (l : Launch) (Z : State) (a0 : Array Value) (hw : ∀ d ∈ tables_1, d.before a0 Z = true) (q a b k i : Addr) (ks af bf il : List Nat) (sz lo j : Nat) (p2 : Int32) (st : Stt) (h0 : Heap) (EQ : Exa Z h0 q "com/example/netlocus/netlocus/BucketQueue") (Fa : Fld Z h0 q "com/example/netlocus/netlocus/BucketQueue" "after" "[I" (.ref a)) (Fb : Fld Z h0 q "com/example/netlocus/netlocus/BucketQueue" "before" "[I" (.ref b)) (Fk : Fld Z h0 q "com/example/netlocus/netlocus/BucketQueue" "keys" "[J" (.ref k)) (Fp : Fld Z h0 q "com/example/netlocus/netlocus/BucketQueue" "placeCount" "I" (.int (Int32.ofNat 3))) (Fs : Fld Z h0 q "com/example/netlocus/netlocus/BucketQueue" "size" "I" (.int (Int32.ofNat sz))) (Fl : Fld Z h0 q "com/example/netlocus/netlocus/BucketQueue" "lowest" "I" (.int (Int32.ofNat lo))) (Aa : Seq Z h0 a .int (enc af)) (Ab : Seq Z h0 b .int (enc bf)) (Ak : Seq Z h0 k .long (ks.map fun x => Value.long (Int64.ofNat x))) (nqa : q ≠ a) (nqb : q ≠ b) (nqk : q ≠ k) (nab : a ≠ b) (nak : a ≠ k) (nbk : b ≠ k) (hla : af.length = 7) (hlb : bf.length = 7) (hlks : ks.length = 3) (Ai : Seq Z h0 i .boolean (enc il)) (nqi : q ≠ i) (nai : a ≠ i) (nbi : b ≠ i) (nki : k ≠ i) (hsz : sz < 900) (hlo : lo < 900) (hli : il.length = 3) (hl0 : il.getD 0 0 < 2) (hl1 : il.getD 1 0 < 2) (hl2 : il.getD 2 0 < 2) (hj3 : j < 3) (hj : (((p2 >>> ((1 : Int32) &&& 31)) &&& (3 : Int32)) % (3 : Int32)) = Int32.ofNat j) (hm : stepM ks (il, af, bf, sz, lo) (if (p2 &&& (1 : Int32)) = (0 : Int32) then j else 3) = some st) :
    Con l (⟨"com/example/netlocus/netlocus/BucketQueueIsEmptyPinLaw", "step", "(Lcom/example/netlocus/netlocus/BucketQueue;[ZI)Z"⟩ : MethodName) method_3_code 5 (some .boolean) ({ frames := 2, cells := 0, slots := 0, locals := 31 } : Room) Z #[(.ref q), (.ref i), (.int p2)] h0 (fun v h L => v = some (.int (1 : Int32)) ∧ Kp h0 h [q, a, b, i] L ∧ Fld Z h q "com/example/netlocus/netlocus/BucketQueue" "after" "[I" (.ref a) ∧ Fld Z h q "com/example/netlocus/netlocus/BucketQueue" "before" "[I" (.ref b) ∧ Fld Z h q "com/example/netlocus/netlocus/BucketQueue" "keys" "[J" (.ref k) ∧ Fld Z h q "com/example/netlocus/netlocus/BucketQueue" "placeCount" "I" (.int (Int32.ofNat 3)) ∧ Fld Z h q "com/example/netlocus/netlocus/BucketQueue" "size" "I" (.int (Int32.ofNat st.2.2.2.1)) ∧ Fld Z h q "com/example/netlocus/netlocus/BucketQueue" "lowest" "I" (.int (Int32.ofNat st.2.2.2.2)) ∧ Seq Z h a .int (enc st.2.1) ∧ Seq Z h b .int (enc st.2.2.1) ∧ Seq Z h i .boolean (enc st.1) ∧ OKB st) := by
  refine Con.of_body (plainFor_of_name pn_5) ?_
  intro p e s m below meth c T0 X0 hx hby hml hZ hown hnm hret hlk e0
  have hown : s.vm.findClass "com/example/netlocus/netlocus/BucketQueueIsEmptyPinLaw" = some m.cls := hown
  have hml : c.maxLocals = 5 := hml
  refine Goes.cast (ef6_RRI m q i p2) ?_
  have K0 := Kp.refl h0 [q, a, b, i]
  refine G.iloadN X0 hx (pc' := 1) (hb hby d6_0) rfl rfl ?_
  refine G.iconst X0 hx (pc' := 2) (hb hby d6_1) (z := (1 : Int32)) rfl rfl ?_
  refine G.ishr X0 hx (pc' := 3) (hb hby d6_2) rfl ?_
  refine G.iconst X0 hx (pc' := 4) (hb hby d6_3) (z := (3 : Int32)) rfl rfl ?_
  refine G.iand X0 hx (pc' := 5) (hb hby d6_4) rfl ?_
  refine G.iconst X0 hx (pc' := 6) (hb hby d6_5) (z := (3 : Int32)) rfl rfl ?_
  refine G.irem X0 hx (pc' := 7) (hb hby d6_6) (by decide) rfl ?_
  refine G.istoreN X0 hx (pc' := 8) (hb hby d6_7) (L' := #[.val (.ref q), .val (.ref i), .val (.int p2), .val (.int (((p2 >>> ((1 : Int32) &&& 31)) &&& (3 : Int32)) % (3 : Int32))), .unset]) rfl rfl ?_
  rw [hj]
  show Goes p e below T0 (mkF m 8 #[.val (.ref q), .val (.ref i), .val (.int p2), .val (.int (Int32.ofNat j)), .unset] []) _
  refine G.iloadN X0 hx (pc' := 9) (hb hby d6_8) rfl rfl ?_
  refine G.iconst X0 hx (pc' := 10) (hb hby d6_9) (z := (1 : Int32)) rfl rfl ?_
  refine G.iand X0 hx (pc' := 11) (hb hby d6_10) rfl ?_
  by_cases hpar : (p2 &&& (1 : Int32)) = (0 : Int32)
  · rw [if_pos hpar] at hm
    unfold stepM at hm
    rw [if_neg (by omega)] at hm
    simp only [stepA, Option.bind_eq_some_iff] at hm
    obtain ⟨r, hr, il', hil, hok⟩ := hm
    refine G.ifF X0 hx (pc' := 14) (hb hby d6_11) (Jvm.Free.XT.i0_ne_f hpar) rfl ?_
    refine G.aloadN X0 hx (pc' := 15) (hb hby d6_14) rfl rfl rfl ?_
    refine G.iloadN X0 hx (pc' := 16) (hb hby d6_15) rfl rfl ?_
    refine G.callV X0 hx hZ (y0 := (⟨"com/example/netlocus/netlocus/BucketQueue", "addOrRaise", "(I)V"⟩ : MethodName)) (y := (⟨"com/example/netlocus/netlocus/BucketQueue", "addOrRaise", "(I)V"⟩ : MethodName)) hown (hw _ (List.mem_of_getElem? (i := 38) rfl)) (hw _ (List.mem_of_getElem? (i := 39) rfl)) (notFace_of_selects (args := #[]) (mvT hZ (hw _ (List.mem_of_getElem? (i := 41) rfl)))) (hw _ (List.mem_of_getElem? (i := 41) rfl)) (hw _ (List.mem_of_getElem? (i := 40) rfl)) (hw _ (List.mem_of_getElem? (i := 3) rfl)) (hw _ (List.mem_of_getElem? (i := 42) rfl)) (by decide) e0 (rm := ({ frames := 1, cells := 0, slots := 0, locals := 15 } : Room)) (argsL := [(.int (Int32.ofNat j))]) (S := []) (W := 0) (a := q) EQ (rm_add l Z a0 hw q a b k ks af bf sz lo j r h0 EQ Fa Fb Fk Fp Fs Fl Aa Ab Ak nqa nqb nqk nab nak nbk hla hlb hlks (by omega) (by omega) hr) (lenOf pd_2 rfl) rfl (Nat.le_of_eq rfl) (by decide) (by decide) (by decide) (by decide) (by rw [hml]; rfl) (hb hby d6_16) (pc' := 19) rfl ?_
    rintro T1 _ L1 ⟨rfl, Kq1, Fa1, Fb1, Fk1, Fp1, Fs1, Fl1, Aa1, Ab1, la1, lb1⟩ X1
    have E1_q := Exa.keep EQ Kq1.1
    have A1_k := Seq.keep Ak Kq1.1 (ninS (Ne.symm nqk) (ninS (Ne.symm nak) (ninS (Ne.symm nbk) nin0)))
    have A1_i := Seq.keep Ai Kq1.1 (ninS (Ne.symm nqi) (ninS (Ne.symm nai) (ninS (Ne.symm nbi) nin0)))
    have K1 := Kp.call K0 Kq1 (allS (Or.inl (List.mem_of_getElem? (i := 0) rfl)) (allS (Or.inl (List.mem_of_getElem? (i := 1) rfl)) (allS (Or.inl (List.mem_of_getElem? (i := 2) rfl)) all0)))
    show Goes p e below T1 (mkF m 19 #[.val (.ref q), .val (.ref i), .val (.int p2), .val (.int (Int32.ofNat j)), .unset] []) _
    refine G.aloadN X1 hx (pc' := 20) (hb hby d6_19) rfl rfl rfl ?_
    refine G.iloadN X1 hx (pc' := 21) (hb hby d6_20) rfl rfl ?_
    refine G.iconst X1 hx (pc' := 22) (hb hby d6_21) (z := (1 : Int32)) rfl rfl ?_
    have gi := wrt_spec hil (by omega)
    refine G.zastore X1 hx hZ rfl A1_i (pc' := 23) (hb hby d6_22) gi.1 gi.2.1 rfl fun T2 h2 X2 e2 W2 A2 => ?_
    have F2_q_after := Fld.other W2 Fa1 (Or.inl nqi)
    have F2_q_before := Fld.other W2 Fb1 (Or.inl nqi)
    have F2_q_keys := Fld.other W2 Fk1 (Or.inl nqi)
    have F2_q_placeCount := Fld.other W2 Fp1 (Or.inl nqi)
    have F2_q_size := Fld.other W2 Fs1 (Or.inl nqi)
    have F2_q_lowest := Fld.other W2 Fl1 (Or.inl nqi)
    have E2_q := Exa.wr W2 E1_q
    have A2_k := Seq.other A1_k W2 nki
    have A2_a := Seq.other Aa1 W2 nai
    have A2_b := Seq.other Ab1 W2 nbi
    have K2 := Kp.wr K1 W2 (Or.inl (List.mem_of_getElem? (i := 3) rfl))
    have A2_i : Seq Z h2 i .boolean (enc il') := (show (enc il).set (Int32.ofNat j).toNatClampNeg (.int (nar .boolean (1 : Int32))) = enc il' from gi.2.2.1) ▸ A2
    refine G.goto X2 hx (pc' := 75) (hb hby d6_23) (by decide) (by decide) ?_
    have go_ := ok_spec hok
    have gl : List.length il' = 3 := go_.2.2.2.2.1
    have giff : (r.2.2.1 = 0 ↔ ¬ anyI il') := go_.2.1
    have gsz : r.2.2.1 < 900 := go_.2.2.1
    have gb0 : List.getD il' 0 0 < 2 := go_.2.2.2.2.2.1
    have gb1 : List.getD il' 1 0 < 2 := go_.2.2.2.2.2.2.1
    have gb2 : List.getD il' 2 0 < 2 := go_.2.2.2.2.2.2.2.1
    refine G.aloadN X2 hx (pc' := 76) (hb hby d6_75) rfl rfl rfl ?_
    refine G.iconst X2 hx (pc' := 77) (hb hby d6_76) (z := (0 : Int32)) rfl rfl ?_
    refine G.zaload X2 hx hZ e2 A2_i (pc' := 78) (v := (.int (Int32.ofNat (List.getD il' 0 0)))) (hb hby d6_77) (by decide) (getD_at gl 0 (by decide)) rfl ?_
    by_cases f0 : List.getD il' 0 0 = 0
    · refine G.ifF X2 hx (pc' := 81) (hb hby d6_78) (Jvm.Free.XT.i0_ne_f (by rw [f0]; rfl)) rfl ?_
      refine G.aloadN X2 hx (pc' := 82) (hb hby d6_81) rfl rfl rfl ?_
      refine G.iconst X2 hx (pc' := 83) (hb hby d6_82) (z := (1 : Int32)) rfl rfl ?_
      refine G.zaload X2 hx hZ e2 A2_i (pc' := 84) (v := (.int (Int32.ofNat (List.getD il' 1 0)))) (hb hby d6_83) (by decide) (getD_at gl 1 (by decide)) rfl ?_
      by_cases f1 : List.getD il' 1 0 = 0
      · refine G.ifF X2 hx (pc' := 87) (hb hby d6_84) (Jvm.Free.XT.i0_ne_f (by rw [f1]; rfl)) rfl ?_
        refine G.aloadN X2 hx (pc' := 88) (hb hby d6_87) rfl rfl rfl ?_
        refine G.iconst X2 hx (pc' := 89) (hb hby d6_88) (z := (2 : Int32)) rfl rfl ?_
        refine G.zaload X2 hx hZ e2 A2_i (pc' := 90) (v := (.int (Int32.ofNat (List.getD il' 2 0)))) (hb hby d6_89) (by decide) (getD_at gl 2 (by decide)) rfl ?_
        by_cases f2 : List.getD il' 2 0 = 0
        · refine G.ifF X2 hx (pc' := 93) (hb hby d6_90) (Jvm.Free.XT.i0_ne_f (by rw [f2]; rfl)) rfl ?_
          refine G.iconst X2 hx (pc' := 94) (hb hby d6_93) (z := (1 : Int32)) rfl rfl ?_
          refine G.goto X2 hx (pc' := 98) (hb hby d6_94) (by decide) (by decide) ?_
          refine G.istore X2 hx (pc' := 100) (hb hby d6_98) (L' := #[.val (.ref q), .val (.ref i), .val (.int p2), .val (.int (Int32.ofNat j)), .val (.int (1 : Int32))]) rfl rfl ?_
          refine G.aloadN X2 hx (pc' := 101) (hb hby d6_100) rfl rfl rfl ?_
          refine G.callV X2 hx hZ (y0 := (⟨"com/example/netlocus/netlocus/BucketQueue", "isEmpty", "()Z"⟩ : MethodName)) (y := (⟨"com/example/netlocus/netlocus/BucketQueue", "isEmpty", "()Z"⟩ : MethodName)) hown (hw _ (List.mem_of_getElem? (i := 27) rfl)) (hw _ (List.mem_of_getElem? (i := 28) rfl)) (notFace_of_selects (args := #[]) (mvT hZ (hw _ (List.mem_of_getElem? (i := 30) rfl)))) (hw _ (List.mem_of_getElem? (i := 30) rfl)) (hw _ (List.mem_of_getElem? (i := 29) rfl)) (hw _ (List.mem_of_getElem? (i := 3) rfl)) (hw _ (List.mem_of_getElem? (i := 31) rfl)) (by decide) e2 (rm := ({ frames := 0, cells := 0, slots := 0, locals := 0 } : Room)) (argsL := []) (S := []) (W := 0) (a := q) E2_q (rm_emp l Z a0 hw q r.2.2.1 h2 F2_q_size (by omega)) (lenOf pd_3 rfl) rfl (Nat.le_of_eq rfl) (by decide) (by decide) (by decide) (by decide) (by rw [hml]; rfl) (hb hby d6_101) (pc' := 104) rfl ?_
          rintro T3 _ _ ⟨rfl, e3, rfl⟩ X3
          rw [List.append_nil] at X3
          show Goes p e below T3 (mkF m 104 #[.val (.ref q), .val (.ref i), .val (.int p2), .val (.int (Int32.ofNat j)), .val (.int (1 : Int32))] [(.int (if r.2.2.1 = 0 then (1 : Int32) else (0 : Int32)))]) _
          have hz0 : r.2.2.1 = 0 := giff.mpr (fun z => by rcases z with z | z | z; exact z f0; exact z f1; exact z f2)
          rw [if_pos hz0]
          refine G.iload X3 hx (pc' := 106) (hb hby d6_104) rfl rfl ?_
          refine G.icmpF X3 hx (pc' := 109) (hb hby d6_106) (Jvm.Free.XT.ii_ne_f rfl) rfl ?_
          refine G.iconst X3 hx (pc' := 110) (hb hby d6_109) (z := (1 : Int32)) rfl rfl ?_
          refine G.goto X3 hx (pc' := 114) (hb hby d6_110) (by decide) (by decide) ?_
          have hst := go_.1
          subst hst
          refine Goes.retN X3 hx hret (by simp) hlk (hb hby d6_114) (by decide) (by decide) ⟨rfl, (by rw [e3]; exact K2), (by rw [e3]; exact F2_q_after), (by rw [e3]; exact F2_q_before), (by rw [e3]; exact F2_q_keys), (by rw [e3]; exact F2_q_placeCount), (by rw [e3]; exact F2_q_size), (by rw [e3]; exact F2_q_lowest), (by rw [e3]; exact A2_a), (by rw [e3]; exact A2_b), (by rw [e3]; exact A2_i), ⟨gl, ⟨go_.2.2.2.2.2.1, go_.2.2.2.2.2.2.1, go_.2.2.2.2.2.2.2.1⟩, go_.2.2.1, go_.2.2.2.1, go_.2.2.2.2.2.2.2.2.1, go_.2.2.2.2.2.2.2.2.2⟩⟩
        · refine G.ifT X2 hx (pc' := 97) (hb hby d6_90) (Jvm.Free.XT.i0_ne_t (fun z => f2 ((nat_eq (e := 0) (by omega) (by omega)).mp z))) (by decide) (by decide) ?_
          refine G.iconst X2 hx (pc' := 98) (hb hby d6_97) (z := (0 : Int32)) rfl rfl ?_
          refine G.istore X2 hx (pc' := 100) (hb hby d6_98) (L' := #[.val (.ref q), .val (.ref i), .val (.int p2), .val (.int (Int32.ofNat j)), .val (.int (0 : Int32))]) rfl rfl ?_
          refine G.aloadN X2 hx (pc' := 101) (hb hby d6_100) rfl rfl rfl ?_
          refine G.callV X2 hx hZ (y0 := (⟨"com/example/netlocus/netlocus/BucketQueue", "isEmpty", "()Z"⟩ : MethodName)) (y := (⟨"com/example/netlocus/netlocus/BucketQueue", "isEmpty", "()Z"⟩ : MethodName)) hown (hw _ (List.mem_of_getElem? (i := 27) rfl)) (hw _ (List.mem_of_getElem? (i := 28) rfl)) (notFace_of_selects (args := #[]) (mvT hZ (hw _ (List.mem_of_getElem? (i := 30) rfl)))) (hw _ (List.mem_of_getElem? (i := 30) rfl)) (hw _ (List.mem_of_getElem? (i := 29) rfl)) (hw _ (List.mem_of_getElem? (i := 3) rfl)) (hw _ (List.mem_of_getElem? (i := 31) rfl)) (by decide) e2 (rm := ({ frames := 0, cells := 0, slots := 0, locals := 0 } : Room)) (argsL := []) (S := []) (W := 0) (a := q) E2_q (rm_emp l Z a0 hw q r.2.2.1 h2 F2_q_size (by omega)) (lenOf pd_3 rfl) rfl (Nat.le_of_eq rfl) (by decide) (by decide) (by decide) (by decide) (by rw [hml]; rfl) (hb hby d6_101) (pc' := 104) rfl ?_
          rintro T4 _ _ ⟨rfl, e4, rfl⟩ X4
          rw [List.append_nil] at X4
          show Goes p e below T4 (mkF m 104 #[.val (.ref q), .val (.ref i), .val (.int p2), .val (.int (Int32.ofNat j)), .val (.int (0 : Int32))] [(.int (if r.2.2.1 = 0 then (1 : Int32) else (0 : Int32)))]) _
          have hz0 : ¬ r.2.2.1 = 0 := fun z => giff.mp z (Or.inr (Or.inr f2))
          rw [if_neg hz0]
          refine G.iload X4 hx (pc' := 106) (hb hby d6_104) rfl rfl ?_
          refine G.icmpF X4 hx (pc' := 109) (hb hby d6_106) (Jvm.Free.XT.ii_ne_f rfl) rfl ?_
          refine G.iconst X4 hx (pc' := 110) (hb hby d6_109) (z := (1 : Int32)) rfl rfl ?_
          refine G.goto X4 hx (pc' := 114) (hb hby d6_110) (by decide) (by decide) ?_
          have hst := go_.1
          subst hst
          refine Goes.retN X4 hx hret (by simp) hlk (hb hby d6_114) (by decide) (by decide) ⟨rfl, (by rw [e4]; exact K2), (by rw [e4]; exact F2_q_after), (by rw [e4]; exact F2_q_before), (by rw [e4]; exact F2_q_keys), (by rw [e4]; exact F2_q_placeCount), (by rw [e4]; exact F2_q_size), (by rw [e4]; exact F2_q_lowest), (by rw [e4]; exact A2_a), (by rw [e4]; exact A2_b), (by rw [e4]; exact A2_i), ⟨gl, ⟨go_.2.2.2.2.2.1, go_.2.2.2.2.2.2.1, go_.2.2.2.2.2.2.2.1⟩, go_.2.2.1, go_.2.2.2.1, go_.2.2.2.2.2.2.2.2.1, go_.2.2.2.2.2.2.2.2.2⟩⟩
      · refine G.ifT X2 hx (pc' := 97) (hb hby d6_84) (Jvm.Free.XT.i0_ne_t (fun z => f1 ((nat_eq (e := 0) (by omega) (by omega)).mp z))) (by decide) (by decide) ?_
        refine G.iconst X2 hx (pc' := 98) (hb hby d6_97) (z := (0 : Int32)) rfl rfl ?_
        refine G.istore X2 hx (pc' := 100) (hb hby d6_98) (L' := #[.val (.ref q), .val (.ref i), .val (.int p2), .val (.int (Int32.ofNat j)), .val (.int (0 : Int32))]) rfl rfl ?_
        refine G.aloadN X2 hx (pc' := 101) (hb hby d6_100) rfl rfl rfl ?_
        refine G.callV X2 hx hZ (y0 := (⟨"com/example/netlocus/netlocus/BucketQueue", "isEmpty", "()Z"⟩ : MethodName)) (y := (⟨"com/example/netlocus/netlocus/BucketQueue", "isEmpty", "()Z"⟩ : MethodName)) hown (hw _ (List.mem_of_getElem? (i := 27) rfl)) (hw _ (List.mem_of_getElem? (i := 28) rfl)) (notFace_of_selects (args := #[]) (mvT hZ (hw _ (List.mem_of_getElem? (i := 30) rfl)))) (hw _ (List.mem_of_getElem? (i := 30) rfl)) (hw _ (List.mem_of_getElem? (i := 29) rfl)) (hw _ (List.mem_of_getElem? (i := 3) rfl)) (hw _ (List.mem_of_getElem? (i := 31) rfl)) (by decide) e2 (rm := ({ frames := 0, cells := 0, slots := 0, locals := 0 } : Room)) (argsL := []) (S := []) (W := 0) (a := q) E2_q (rm_emp l Z a0 hw q r.2.2.1 h2 F2_q_size (by omega)) (lenOf pd_3 rfl) rfl (Nat.le_of_eq rfl) (by decide) (by decide) (by decide) (by decide) (by rw [hml]; rfl) (hb hby d6_101) (pc' := 104) rfl ?_
        rintro T5 _ _ ⟨rfl, e5, rfl⟩ X5
        rw [List.append_nil] at X5
        show Goes p e below T5 (mkF m 104 #[.val (.ref q), .val (.ref i), .val (.int p2), .val (.int (Int32.ofNat j)), .val (.int (0 : Int32))] [(.int (if r.2.2.1 = 0 then (1 : Int32) else (0 : Int32)))]) _
        have hz0 : ¬ r.2.2.1 = 0 := fun z => giff.mp z (Or.inr (Or.inl f1))
        rw [if_neg hz0]
        refine G.iload X5 hx (pc' := 106) (hb hby d6_104) rfl rfl ?_
        refine G.icmpF X5 hx (pc' := 109) (hb hby d6_106) (Jvm.Free.XT.ii_ne_f rfl) rfl ?_
        refine G.iconst X5 hx (pc' := 110) (hb hby d6_109) (z := (1 : Int32)) rfl rfl ?_
        refine G.goto X5 hx (pc' := 114) (hb hby d6_110) (by decide) (by decide) ?_
        have hst := go_.1
        subst hst
        refine Goes.retN X5 hx hret (by simp) hlk (hb hby d6_114) (by decide) (by decide) ⟨rfl, (by rw [e5]; exact K2), (by rw [e5]; exact F2_q_after), (by rw [e5]; exact F2_q_before), (by rw [e5]; exact F2_q_keys), (by rw [e5]; exact F2_q_placeCount), (by rw [e5]; exact F2_q_size), (by rw [e5]; exact F2_q_lowest), (by rw [e5]; exact A2_a), (by rw [e5]; exact A2_b), (by rw [e5]; exact A2_i), ⟨gl, ⟨go_.2.2.2.2.2.1, go_.2.2.2.2.2.2.1, go_.2.2.2.2.2.2.2.1⟩, go_.2.2.1, go_.2.2.2.1, go_.2.2.2.2.2.2.2.2.1, go_.2.2.2.2.2.2.2.2.2⟩⟩
    · refine G.ifT X2 hx (pc' := 97) (hb hby d6_78) (Jvm.Free.XT.i0_ne_t (fun z => f0 ((nat_eq (e := 0) (by omega) (by omega)).mp z))) (by decide) (by decide) ?_
      refine G.iconst X2 hx (pc' := 98) (hb hby d6_97) (z := (0 : Int32)) rfl rfl ?_
      refine G.istore X2 hx (pc' := 100) (hb hby d6_98) (L' := #[.val (.ref q), .val (.ref i), .val (.int p2), .val (.int (Int32.ofNat j)), .val (.int (0 : Int32))]) rfl rfl ?_
      refine G.aloadN X2 hx (pc' := 101) (hb hby d6_100) rfl rfl rfl ?_
      refine G.callV X2 hx hZ (y0 := (⟨"com/example/netlocus/netlocus/BucketQueue", "isEmpty", "()Z"⟩ : MethodName)) (y := (⟨"com/example/netlocus/netlocus/BucketQueue", "isEmpty", "()Z"⟩ : MethodName)) hown (hw _ (List.mem_of_getElem? (i := 27) rfl)) (hw _ (List.mem_of_getElem? (i := 28) rfl)) (notFace_of_selects (args := #[]) (mvT hZ (hw _ (List.mem_of_getElem? (i := 30) rfl)))) (hw _ (List.mem_of_getElem? (i := 30) rfl)) (hw _ (List.mem_of_getElem? (i := 29) rfl)) (hw _ (List.mem_of_getElem? (i := 3) rfl)) (hw _ (List.mem_of_getElem? (i := 31) rfl)) (by decide) e2 (rm := ({ frames := 0, cells := 0, slots := 0, locals := 0 } : Room)) (argsL := []) (S := []) (W := 0) (a := q) E2_q (rm_emp l Z a0 hw q r.2.2.1 h2 F2_q_size (by omega)) (lenOf pd_3 rfl) rfl (Nat.le_of_eq rfl) (by decide) (by decide) (by decide) (by decide) (by rw [hml]; rfl) (hb hby d6_101) (pc' := 104) rfl ?_
      rintro T6 _ _ ⟨rfl, e6, rfl⟩ X6
      rw [List.append_nil] at X6
      show Goes p e below T6 (mkF m 104 #[.val (.ref q), .val (.ref i), .val (.int p2), .val (.int (Int32.ofNat j)), .val (.int (0 : Int32))] [(.int (if r.2.2.1 = 0 then (1 : Int32) else (0 : Int32)))]) _
      have hz0 : ¬ r.2.2.1 = 0 := fun z => giff.mp z (Or.inl f0)
      rw [if_neg hz0]
      refine G.iload X6 hx (pc' := 106) (hb hby d6_104) rfl rfl ?_
      refine G.icmpF X6 hx (pc' := 109) (hb hby d6_106) (Jvm.Free.XT.ii_ne_f rfl) rfl ?_
      refine G.iconst X6 hx (pc' := 110) (hb hby d6_109) (z := (1 : Int32)) rfl rfl ?_
      refine G.goto X6 hx (pc' := 114) (hb hby d6_110) (by decide) (by decide) ?_
      have hst := go_.1
      subst hst
      refine Goes.retN X6 hx hret (by simp) hlk (hb hby d6_114) (by decide) (by decide) ⟨rfl, (by rw [e6]; exact K2), (by rw [e6]; exact F2_q_after), (by rw [e6]; exact F2_q_before), (by rw [e6]; exact F2_q_keys), (by rw [e6]; exact F2_q_placeCount), (by rw [e6]; exact F2_q_size), (by rw [e6]; exact F2_q_lowest), (by rw [e6]; exact A2_a), (by rw [e6]; exact A2_b), (by rw [e6]; exact A2_i), ⟨gl, ⟨go_.2.2.2.2.2.1, go_.2.2.2.2.2.2.1, go_.2.2.2.2.2.2.2.1⟩, go_.2.2.1, go_.2.2.2.1, go_.2.2.2.2.2.2.2.2.1, go_.2.2.2.2.2.2.2.2.2⟩⟩
  · rw [if_neg hpar] at hm
    unfold stepM at hm
    rw [if_pos rfl] at hm
    unfold stepR at hm
    refine G.ifT X0 hx (pc' := 26) (hb hby d6_11) (Jvm.Free.XT.i0_ne_t hpar) (by decide) (by decide) ?_
    refine G.aloadN X0 hx (pc' := 27) (hb hby d6_26) rfl rfl rfl ?_
    refine G.iconst X0 hx (pc' := 28) (hb hby d6_27) (z := (0 : Int32)) rfl rfl ?_
    refine G.zaload X0 hx hZ e0 Ai (pc' := 29) (v := (.int (Int32.ofNat (List.getD il 0 0)))) (hb hby d6_28) (by decide) (getD_at hli 0 (by decide)) rfl ?_
    by_cases e0_ : List.getD il 0 0 = 0
    · refine G.ifF X0 hx (pc' := 32) (hb hby d6_29) (Jvm.Free.XT.i0_ne_f (by rw [e0_]; rfl)) rfl ?_
      refine G.aloadN X0 hx (pc' := 33) (hb hby d6_32) rfl rfl rfl ?_
      refine G.iconst X0 hx (pc' := 34) (hb hby d6_33) (z := (1 : Int32)) rfl rfl ?_
      refine G.zaload X0 hx hZ e0 Ai (pc' := 35) (v := (.int (Int32.ofNat (List.getD il 1 0)))) (hb hby d6_34) (by decide) (getD_at hli 1 (by decide)) rfl ?_
      by_cases e1_ : List.getD il 1 0 = 0
      · refine G.ifF X0 hx (pc' := 38) (hb hby d6_35) (Jvm.Free.XT.i0_ne_f (by rw [e1_]; rfl)) rfl ?_
        refine G.aloadN X0 hx (pc' := 39) (hb hby d6_38) rfl rfl rfl ?_
        refine G.iconst X0 hx (pc' := 40) (hb hby d6_39) (z := (2 : Int32)) rfl rfl ?_
        refine G.zaload X0 hx hZ e0 Ai (pc' := 41) (v := (.int (Int32.ofNat (List.getD il 2 0)))) (hb hby d6_40) (by decide) (getD_at hli 2 (by decide)) rfl ?_
        by_cases e2_ : List.getD il 2 0 = 0
        · refine G.ifT X0 hx (pc' := 75) (hb hby d6_41) (Jvm.Free.XT.i0_eq_t (by rw [e2_]; rfl)) (by decide) (by decide) ?_
          rw [if_neg (fun z : anyI il => by rcases z with z | z | z; exact z e0_; exact z e1_; exact z e2_)] at hm
          have go_ := ok_spec hm
          have gl : List.length il = 3 := go_.2.2.2.2.1
          have giff : (sz = 0 ↔ ¬ anyI il) := go_.2.1
          have gsz : sz < 900 := go_.2.2.1
          have gb0 : List.getD il 0 0 < 2 := go_.2.2.2.2.2.1
          have gb1 : List.getD il 1 0 < 2 := go_.2.2.2.2.2.2.1
          have gb2 : List.getD il 2 0 < 2 := go_.2.2.2.2.2.2.2.1
          refine G.aloadN X0 hx (pc' := 76) (hb hby d6_75) rfl rfl rfl ?_
          refine G.iconst X0 hx (pc' := 77) (hb hby d6_76) (z := (0 : Int32)) rfl rfl ?_
          refine G.zaload X0 hx hZ e0 Ai (pc' := 78) (v := (.int (Int32.ofNat (List.getD il 0 0)))) (hb hby d6_77) (by decide) (getD_at gl 0 (by decide)) rfl ?_
          by_cases f0 : List.getD il 0 0 = 0
          · refine G.ifF X0 hx (pc' := 81) (hb hby d6_78) (Jvm.Free.XT.i0_ne_f (by rw [f0]; rfl)) rfl ?_
            refine G.aloadN X0 hx (pc' := 82) (hb hby d6_81) rfl rfl rfl ?_
            refine G.iconst X0 hx (pc' := 83) (hb hby d6_82) (z := (1 : Int32)) rfl rfl ?_
            refine G.zaload X0 hx hZ e0 Ai (pc' := 84) (v := (.int (Int32.ofNat (List.getD il 1 0)))) (hb hby d6_83) (by decide) (getD_at gl 1 (by decide)) rfl ?_
            by_cases f1 : List.getD il 1 0 = 0
            · refine G.ifF X0 hx (pc' := 87) (hb hby d6_84) (Jvm.Free.XT.i0_ne_f (by rw [f1]; rfl)) rfl ?_
              refine G.aloadN X0 hx (pc' := 88) (hb hby d6_87) rfl rfl rfl ?_
              refine G.iconst X0 hx (pc' := 89) (hb hby d6_88) (z := (2 : Int32)) rfl rfl ?_
              refine G.zaload X0 hx hZ e0 Ai (pc' := 90) (v := (.int (Int32.ofNat (List.getD il 2 0)))) (hb hby d6_89) (by decide) (getD_at gl 2 (by decide)) rfl ?_
              by_cases f2 : List.getD il 2 0 = 0
              · refine G.ifF X0 hx (pc' := 93) (hb hby d6_90) (Jvm.Free.XT.i0_ne_f (by rw [f2]; rfl)) rfl ?_
                refine G.iconst X0 hx (pc' := 94) (hb hby d6_93) (z := (1 : Int32)) rfl rfl ?_
                refine G.goto X0 hx (pc' := 98) (hb hby d6_94) (by decide) (by decide) ?_
                refine G.istore X0 hx (pc' := 100) (hb hby d6_98) (L' := #[.val (.ref q), .val (.ref i), .val (.int p2), .val (.int (Int32.ofNat j)), .val (.int (1 : Int32))]) rfl rfl ?_
                refine G.aloadN X0 hx (pc' := 101) (hb hby d6_100) rfl rfl rfl ?_
                refine G.callV X0 hx hZ (y0 := (⟨"com/example/netlocus/netlocus/BucketQueue", "isEmpty", "()Z"⟩ : MethodName)) (y := (⟨"com/example/netlocus/netlocus/BucketQueue", "isEmpty", "()Z"⟩ : MethodName)) hown (hw _ (List.mem_of_getElem? (i := 27) rfl)) (hw _ (List.mem_of_getElem? (i := 28) rfl)) (notFace_of_selects (args := #[]) (mvT hZ (hw _ (List.mem_of_getElem? (i := 30) rfl)))) (hw _ (List.mem_of_getElem? (i := 30) rfl)) (hw _ (List.mem_of_getElem? (i := 29) rfl)) (hw _ (List.mem_of_getElem? (i := 3) rfl)) (hw _ (List.mem_of_getElem? (i := 31) rfl)) (by decide) e0 (rm := ({ frames := 0, cells := 0, slots := 0, locals := 0 } : Room)) (argsL := []) (S := []) (W := 0) (a := q) EQ (rm_emp l Z a0 hw q sz h0 Fs (by omega)) (lenOf pd_3 rfl) rfl (Nat.le_of_eq rfl) (by decide) (by decide) (by decide) (by decide) (by rw [hml]; rfl) (hb hby d6_101) (pc' := 104) rfl ?_
                rintro T7 _ _ ⟨rfl, e7, rfl⟩ X7
                rw [List.append_nil] at X7
                show Goes p e below T7 (mkF m 104 #[.val (.ref q), .val (.ref i), .val (.int p2), .val (.int (Int32.ofNat j)), .val (.int (1 : Int32))] [(.int (if sz = 0 then (1 : Int32) else (0 : Int32)))]) _
                have hz0 : sz = 0 := giff.mpr (fun z => by rcases z with z | z | z; exact z f0; exact z f1; exact z f2)
                rw [if_pos hz0]
                refine G.iload X7 hx (pc' := 106) (hb hby d6_104) rfl rfl ?_
                refine G.icmpF X7 hx (pc' := 109) (hb hby d6_106) (Jvm.Free.XT.ii_ne_f rfl) rfl ?_
                refine G.iconst X7 hx (pc' := 110) (hb hby d6_109) (z := (1 : Int32)) rfl rfl ?_
                refine G.goto X7 hx (pc' := 114) (hb hby d6_110) (by decide) (by decide) ?_
                have hst := go_.1
                subst hst
                refine Goes.retN X7 hx hret (by simp) hlk (hb hby d6_114) (by decide) (by decide) ⟨rfl, (by rw [e7]; exact K0), (by rw [e7]; exact Fa), (by rw [e7]; exact Fb), (by rw [e7]; exact Fk), (by rw [e7]; exact Fp), (by rw [e7]; exact Fs), (by rw [e7]; exact Fl), (by rw [e7]; exact Aa), (by rw [e7]; exact Ab), (by rw [e7]; exact Ai), ⟨gl, ⟨go_.2.2.2.2.2.1, go_.2.2.2.2.2.2.1, go_.2.2.2.2.2.2.2.1⟩, go_.2.2.1, go_.2.2.2.1, go_.2.2.2.2.2.2.2.2.1, go_.2.2.2.2.2.2.2.2.2⟩⟩
              · refine G.ifT X0 hx (pc' := 97) (hb hby d6_90) (Jvm.Free.XT.i0_ne_t (fun z => f2 ((nat_eq (e := 0) (by omega) (by omega)).mp z))) (by decide) (by decide) ?_
                refine G.iconst X0 hx (pc' := 98) (hb hby d6_97) (z := (0 : Int32)) rfl rfl ?_
                refine G.istore X0 hx (pc' := 100) (hb hby d6_98) (L' := #[.val (.ref q), .val (.ref i), .val (.int p2), .val (.int (Int32.ofNat j)), .val (.int (0 : Int32))]) rfl rfl ?_
                refine G.aloadN X0 hx (pc' := 101) (hb hby d6_100) rfl rfl rfl ?_
                refine G.callV X0 hx hZ (y0 := (⟨"com/example/netlocus/netlocus/BucketQueue", "isEmpty", "()Z"⟩ : MethodName)) (y := (⟨"com/example/netlocus/netlocus/BucketQueue", "isEmpty", "()Z"⟩ : MethodName)) hown (hw _ (List.mem_of_getElem? (i := 27) rfl)) (hw _ (List.mem_of_getElem? (i := 28) rfl)) (notFace_of_selects (args := #[]) (mvT hZ (hw _ (List.mem_of_getElem? (i := 30) rfl)))) (hw _ (List.mem_of_getElem? (i := 30) rfl)) (hw _ (List.mem_of_getElem? (i := 29) rfl)) (hw _ (List.mem_of_getElem? (i := 3) rfl)) (hw _ (List.mem_of_getElem? (i := 31) rfl)) (by decide) e0 (rm := ({ frames := 0, cells := 0, slots := 0, locals := 0 } : Room)) (argsL := []) (S := []) (W := 0) (a := q) EQ (rm_emp l Z a0 hw q sz h0 Fs (by omega)) (lenOf pd_3 rfl) rfl (Nat.le_of_eq rfl) (by decide) (by decide) (by decide) (by decide) (by rw [hml]; rfl) (hb hby d6_101) (pc' := 104) rfl ?_
                rintro T8 _ _ ⟨rfl, e8, rfl⟩ X8
                rw [List.append_nil] at X8
                show Goes p e below T8 (mkF m 104 #[.val (.ref q), .val (.ref i), .val (.int p2), .val (.int (Int32.ofNat j)), .val (.int (0 : Int32))] [(.int (if sz = 0 then (1 : Int32) else (0 : Int32)))]) _
                have hz0 : ¬ sz = 0 := fun z => giff.mp z (Or.inr (Or.inr f2))
                rw [if_neg hz0]
                refine G.iload X8 hx (pc' := 106) (hb hby d6_104) rfl rfl ?_
                refine G.icmpF X8 hx (pc' := 109) (hb hby d6_106) (Jvm.Free.XT.ii_ne_f rfl) rfl ?_
                refine G.iconst X8 hx (pc' := 110) (hb hby d6_109) (z := (1 : Int32)) rfl rfl ?_
                refine G.goto X8 hx (pc' := 114) (hb hby d6_110) (by decide) (by decide) ?_
                have hst := go_.1
                subst hst
                refine Goes.retN X8 hx hret (by simp) hlk (hb hby d6_114) (by decide) (by decide) ⟨rfl, (by rw [e8]; exact K0), (by rw [e8]; exact Fa), (by rw [e8]; exact Fb), (by rw [e8]; exact Fk), (by rw [e8]; exact Fp), (by rw [e8]; exact Fs), (by rw [e8]; exact Fl), (by rw [e8]; exact Aa), (by rw [e8]; exact Ab), (by rw [e8]; exact Ai), ⟨gl, ⟨go_.2.2.2.2.2.1, go_.2.2.2.2.2.2.1, go_.2.2.2.2.2.2.2.1⟩, go_.2.2.1, go_.2.2.2.1, go_.2.2.2.2.2.2.2.2.1, go_.2.2.2.2.2.2.2.2.2⟩⟩
            · refine G.ifT X0 hx (pc' := 97) (hb hby d6_84) (Jvm.Free.XT.i0_ne_t (fun z => f1 ((nat_eq (e := 0) (by omega) (by omega)).mp z))) (by decide) (by decide) ?_
              refine G.iconst X0 hx (pc' := 98) (hb hby d6_97) (z := (0 : Int32)) rfl rfl ?_
              refine G.istore X0 hx (pc' := 100) (hb hby d6_98) (L' := #[.val (.ref q), .val (.ref i), .val (.int p2), .val (.int (Int32.ofNat j)), .val (.int (0 : Int32))]) rfl rfl ?_
              refine G.aloadN X0 hx (pc' := 101) (hb hby d6_100) rfl rfl rfl ?_
              refine G.callV X0 hx hZ (y0 := (⟨"com/example/netlocus/netlocus/BucketQueue", "isEmpty", "()Z"⟩ : MethodName)) (y := (⟨"com/example/netlocus/netlocus/BucketQueue", "isEmpty", "()Z"⟩ : MethodName)) hown (hw _ (List.mem_of_getElem? (i := 27) rfl)) (hw _ (List.mem_of_getElem? (i := 28) rfl)) (notFace_of_selects (args := #[]) (mvT hZ (hw _ (List.mem_of_getElem? (i := 30) rfl)))) (hw _ (List.mem_of_getElem? (i := 30) rfl)) (hw _ (List.mem_of_getElem? (i := 29) rfl)) (hw _ (List.mem_of_getElem? (i := 3) rfl)) (hw _ (List.mem_of_getElem? (i := 31) rfl)) (by decide) e0 (rm := ({ frames := 0, cells := 0, slots := 0, locals := 0 } : Room)) (argsL := []) (S := []) (W := 0) (a := q) EQ (rm_emp l Z a0 hw q sz h0 Fs (by omega)) (lenOf pd_3 rfl) rfl (Nat.le_of_eq rfl) (by decide) (by decide) (by decide) (by decide) (by rw [hml]; rfl) (hb hby d6_101) (pc' := 104) rfl ?_
              rintro T9 _ _ ⟨rfl, e9, rfl⟩ X9
              rw [List.append_nil] at X9
              show Goes p e below T9 (mkF m 104 #[.val (.ref q), .val (.ref i), .val (.int p2), .val (.int (Int32.ofNat j)), .val (.int (0 : Int32))] [(.int (if sz = 0 then (1 : Int32) else (0 : Int32)))]) _
              have hz0 : ¬ sz = 0 := fun z => giff.mp z (Or.inr (Or.inl f1))
              rw [if_neg hz0]
              refine G.iload X9 hx (pc' := 106) (hb hby d6_104) rfl rfl ?_
              refine G.icmpF X9 hx (pc' := 109) (hb hby d6_106) (Jvm.Free.XT.ii_ne_f rfl) rfl ?_
              refine G.iconst X9 hx (pc' := 110) (hb hby d6_109) (z := (1 : Int32)) rfl rfl ?_
              refine G.goto X9 hx (pc' := 114) (hb hby d6_110) (by decide) (by decide) ?_
              have hst := go_.1
              subst hst
              refine Goes.retN X9 hx hret (by simp) hlk (hb hby d6_114) (by decide) (by decide) ⟨rfl, (by rw [e9]; exact K0), (by rw [e9]; exact Fa), (by rw [e9]; exact Fb), (by rw [e9]; exact Fk), (by rw [e9]; exact Fp), (by rw [e9]; exact Fs), (by rw [e9]; exact Fl), (by rw [e9]; exact Aa), (by rw [e9]; exact Ab), (by rw [e9]; exact Ai), ⟨gl, ⟨go_.2.2.2.2.2.1, go_.2.2.2.2.2.2.1, go_.2.2.2.2.2.2.2.1⟩, go_.2.2.1, go_.2.2.2.1, go_.2.2.2.2.2.2.2.2.1, go_.2.2.2.2.2.2.2.2.2⟩⟩
          · refine G.ifT X0 hx (pc' := 97) (hb hby d6_78) (Jvm.Free.XT.i0_ne_t (fun z => f0 ((nat_eq (e := 0) (by omega) (by omega)).mp z))) (by decide) (by decide) ?_
            refine G.iconst X0 hx (pc' := 98) (hb hby d6_97) (z := (0 : Int32)) rfl rfl ?_
            refine G.istore X0 hx (pc' := 100) (hb hby d6_98) (L' := #[.val (.ref q), .val (.ref i), .val (.int p2), .val (.int (Int32.ofNat j)), .val (.int (0 : Int32))]) rfl rfl ?_
            refine G.aloadN X0 hx (pc' := 101) (hb hby d6_100) rfl rfl rfl ?_
            refine G.callV X0 hx hZ (y0 := (⟨"com/example/netlocus/netlocus/BucketQueue", "isEmpty", "()Z"⟩ : MethodName)) (y := (⟨"com/example/netlocus/netlocus/BucketQueue", "isEmpty", "()Z"⟩ : MethodName)) hown (hw _ (List.mem_of_getElem? (i := 27) rfl)) (hw _ (List.mem_of_getElem? (i := 28) rfl)) (notFace_of_selects (args := #[]) (mvT hZ (hw _ (List.mem_of_getElem? (i := 30) rfl)))) (hw _ (List.mem_of_getElem? (i := 30) rfl)) (hw _ (List.mem_of_getElem? (i := 29) rfl)) (hw _ (List.mem_of_getElem? (i := 3) rfl)) (hw _ (List.mem_of_getElem? (i := 31) rfl)) (by decide) e0 (rm := ({ frames := 0, cells := 0, slots := 0, locals := 0 } : Room)) (argsL := []) (S := []) (W := 0) (a := q) EQ (rm_emp l Z a0 hw q sz h0 Fs (by omega)) (lenOf pd_3 rfl) rfl (Nat.le_of_eq rfl) (by decide) (by decide) (by decide) (by decide) (by rw [hml]; rfl) (hb hby d6_101) (pc' := 104) rfl ?_
            rintro T10 _ _ ⟨rfl, e10, rfl⟩ X10
            rw [List.append_nil] at X10
            show Goes p e below T10 (mkF m 104 #[.val (.ref q), .val (.ref i), .val (.int p2), .val (.int (Int32.ofNat j)), .val (.int (0 : Int32))] [(.int (if sz = 0 then (1 : Int32) else (0 : Int32)))]) _
            have hz0 : ¬ sz = 0 := fun z => giff.mp z (Or.inl f0)
            rw [if_neg hz0]
            refine G.iload X10 hx (pc' := 106) (hb hby d6_104) rfl rfl ?_
            refine G.icmpF X10 hx (pc' := 109) (hb hby d6_106) (Jvm.Free.XT.ii_ne_f rfl) rfl ?_
            refine G.iconst X10 hx (pc' := 110) (hb hby d6_109) (z := (1 : Int32)) rfl rfl ?_
            refine G.goto X10 hx (pc' := 114) (hb hby d6_110) (by decide) (by decide) ?_
            have hst := go_.1
            subst hst
            refine Goes.retN X10 hx hret (by simp) hlk (hb hby d6_114) (by decide) (by decide) ⟨rfl, (by rw [e10]; exact K0), (by rw [e10]; exact Fa), (by rw [e10]; exact Fb), (by rw [e10]; exact Fk), (by rw [e10]; exact Fp), (by rw [e10]; exact Fs), (by rw [e10]; exact Fl), (by rw [e10]; exact Aa), (by rw [e10]; exact Ab), (by rw [e10]; exact Ai), ⟨gl, ⟨go_.2.2.2.2.2.1, go_.2.2.2.2.2.2.1, go_.2.2.2.2.2.2.2.1⟩, go_.2.2.1, go_.2.2.2.1, go_.2.2.2.2.2.2.2.2.1, go_.2.2.2.2.2.2.2.2.2⟩⟩
        · refine G.ifF X0 hx (pc' := 44) (hb hby d6_41) (Jvm.Free.XT.i0_eq_f (fun z => e2_ ((nat_eq (e := 0) (by omega) (by omega)).mp z))) rfl ?_
          have hany : anyI il := Or.inr (Or.inr e2_)
          rw [if_pos hany] at hm
          simp only [Option.bind_eq_some_iff] at hm
          obtain ⟨r, hr, xx, hxx, hm⟩ := hm
          have hc3 : r.1 < 3 ∧ xx < 1000 ∧ ¬ xx = 0 := by
            by_cases q1 : r.1 < 3 ∧ xx < 1000 ∧ ¬ xx = 0
            · exact q1
            · rw [if_neg q1] at hm; cases hm
          rw [if_pos hc3] at hm
          simp only [Option.bind_eq_some_iff] at hm
          obtain ⟨il', hil, hok⟩ := hm
          have gr := rd_spec hxx (by omega)
          refine G.aloadN X0 hx (pc' := 45) (hb hby d6_44) rfl rfl rfl ?_
          refine G.callV X0 hx hZ (y0 := (⟨"com/example/netlocus/netlocus/BucketQueue", "removeNearest", "()I"⟩ : MethodName)) (y := (⟨"com/example/netlocus/netlocus/BucketQueue", "removeNearest", "()I"⟩ : MethodName)) hown (hw _ (List.mem_of_getElem? (i := 53) rfl)) (hw _ (List.mem_of_getElem? (i := 54) rfl)) (notFace_of_selects (args := #[]) (mvT hZ (hw _ (List.mem_of_getElem? (i := 56) rfl)))) (hw _ (List.mem_of_getElem? (i := 56) rfl)) (hw _ (List.mem_of_getElem? (i := 55) rfl)) (hw _ (List.mem_of_getElem? (i := 3) rfl)) (hw _ (List.mem_of_getElem? (i := 57) rfl)) (by decide) e0 (rm := ({ frames := 1, cells := 0, slots := 0, locals := 15 } : Room)) (argsL := []) (S := []) (W := 0) (a := q) EQ (rm_rem l Z a0 hw q a b k ks af bf sz lo r h0 EQ Fa Fb Fk Fp Fs Fl Aa Ab Ak nqa nqb nqk nab nak nbk hla hlb hlks (by omega) (by omega) hr) (lenOf pd_4 rfl) rfl (Nat.le_of_eq rfl) (by decide) (by decide) (by decide) (by decide) (by rw [hml]; rfl) (hb hby d6_45) (pc' := 48) rfl ?_
          rintro T11 _ L11 ⟨rfl, Kq11, Fa11, Fb11, Fk11, Fp11, Fs11, Fl11, Aa11, Ab11, la11, lb11⟩ X11
          have E11_q := Exa.keep EQ Kq11.1
          have A11_k := Seq.keep Ak Kq11.1 (ninS (Ne.symm nqk) (ninS (Ne.symm nak) (ninS (Ne.symm nbk) nin0)))
          have A11_i := Seq.keep Ai Kq11.1 (ninS (Ne.symm nqi) (ninS (Ne.symm nai) (ninS (Ne.symm nbi) nin0)))
          have K11 := Kp.call K0 Kq11 (allS (Or.inl (List.mem_of_getElem? (i := 0) rfl)) (allS (Or.inl (List.mem_of_getElem? (i := 1) rfl)) (allS (Or.inl (List.mem_of_getElem? (i := 2) rfl)) all0)))
          show Goes p e below T11 (mkF m 48 #[.val (.ref q), .val (.ref i), .val (.int p2), .val (.int (Int32.ofNat j)), .unset] [(.int (Int32.ofNat r.1))]) _
          refine G.istore X11 hx (pc' := 50) (hb hby d6_48) (L' := #[.val (.ref q), .val (.ref i), .val (.int p2), .val (.int (Int32.ofNat j)), .val (.int (Int32.ofNat r.1))]) rfl rfl ?_
          refine G.iload X11 hx (pc' := 52) (hb hby d6_50) rfl rfl ?_
          refine G.ifF X11 hx (pc' := 55) (hb hby d6_52) (Jvm.Free.XT.i0_lt_f (nat_nn (by omega))) rfl ?_
          refine G.iload X11 hx (pc' := 57) (hb hby d6_55) rfl rfl ?_
          refine G.iconst X11 hx (pc' := 58) (hb hby d6_57) (z := (2 : Int32)) rfl rfl ?_
          refine G.icmpF X11 hx (pc' := 61) (hb hby d6_58) (Jvm.Free.XT.ii_gt_f (fun z => by have := (nat_lt (j := 2) (by omega) (by omega)).mp z; omega)) rfl ?_
          refine G.aloadN X11 hx (pc' := 62) (hb hby d6_61) rfl rfl rfl ?_
          refine G.iload X11 hx (pc' := 64) (hb hby d6_62) rfl rfl ?_
          refine G.zaload X11 hx hZ rfl A11_i (pc' := 65) (v := (.int (Int32.ofNat xx))) (hb hby d6_64) gr.2.1 gr.2.2.1 rfl ?_
          refine G.ifT X11 hx (pc' := 70) (hb hby d6_65) (Jvm.Free.XT.i0_ne_t (fun z => hc3.2.2 ((nat_eq (e := 0) (by omega) (by omega)).mp z))) (by decide) (by decide) ?_
          refine G.aloadN X11 hx (pc' := 71) (hb hby d6_70) rfl rfl rfl ?_
          refine G.iload X11 hx (pc' := 73) (hb hby d6_71) rfl rfl ?_
          refine G.iconst X11 hx (pc' := 74) (hb hby d6_73) (z := (0 : Int32)) rfl rfl ?_
          have gi := wrt_spec hil (by omega)
          refine G.zastore X11 hx hZ rfl A11_i (pc' := 75) (hb hby d6_74) gi.1 gi.2.1 rfl fun T12 h12 X12 e12 W12 A12 => ?_
          have F12_q_after := Fld.other W12 Fa11 (Or.inl nqi)
          have F12_q_before := Fld.other W12 Fb11 (Or.inl nqi)
          have F12_q_keys := Fld.other W12 Fk11 (Or.inl nqi)
          have F12_q_placeCount := Fld.other W12 Fp11 (Or.inl nqi)
          have F12_q_size := Fld.other W12 Fs11 (Or.inl nqi)
          have F12_q_lowest := Fld.other W12 Fl11 (Or.inl nqi)
          have E12_q := Exa.wr W12 E11_q
          have A12_k := Seq.other A11_k W12 nki
          have A12_a := Seq.other Aa11 W12 nai
          have A12_b := Seq.other Ab11 W12 nbi
          have K12 := Kp.wr K11 W12 (Or.inl (List.mem_of_getElem? (i := 3) rfl))
          have A12_i : Seq Z h12 i .boolean (enc il') := (show (enc il).set (Int32.ofNat r.1).toNatClampNeg (.int (nar .boolean (0 : Int32))) = enc il' from gi.2.2.1) ▸ A12
          have go_ := ok_spec hok
          have gl : List.length il' = 3 := go_.2.2.2.2.1
          have giff : (r.2.2.2.1 = 0 ↔ ¬ anyI il') := go_.2.1
          have gsz : r.2.2.2.1 < 900 := go_.2.2.1
          have gb0 : List.getD il' 0 0 < 2 := go_.2.2.2.2.2.1
          have gb1 : List.getD il' 1 0 < 2 := go_.2.2.2.2.2.2.1
          have gb2 : List.getD il' 2 0 < 2 := go_.2.2.2.2.2.2.2.1
          refine G.aloadN X12 hx (pc' := 76) (hb hby d6_75) rfl rfl rfl ?_
          refine G.iconst X12 hx (pc' := 77) (hb hby d6_76) (z := (0 : Int32)) rfl rfl ?_
          refine G.zaload X12 hx hZ e12 A12_i (pc' := 78) (v := (.int (Int32.ofNat (List.getD il' 0 0)))) (hb hby d6_77) (by decide) (getD_at gl 0 (by decide)) rfl ?_
          by_cases f0 : List.getD il' 0 0 = 0
          · refine G.ifF X12 hx (pc' := 81) (hb hby d6_78) (Jvm.Free.XT.i0_ne_f (by rw [f0]; rfl)) rfl ?_
            refine G.aloadN X12 hx (pc' := 82) (hb hby d6_81) rfl rfl rfl ?_
            refine G.iconst X12 hx (pc' := 83) (hb hby d6_82) (z := (1 : Int32)) rfl rfl ?_
            refine G.zaload X12 hx hZ e12 A12_i (pc' := 84) (v := (.int (Int32.ofNat (List.getD il' 1 0)))) (hb hby d6_83) (by decide) (getD_at gl 1 (by decide)) rfl ?_
            by_cases f1 : List.getD il' 1 0 = 0
            · refine G.ifF X12 hx (pc' := 87) (hb hby d6_84) (Jvm.Free.XT.i0_ne_f (by rw [f1]; rfl)) rfl ?_
              refine G.aloadN X12 hx (pc' := 88) (hb hby d6_87) rfl rfl rfl ?_
              refine G.iconst X12 hx (pc' := 89) (hb hby d6_88) (z := (2 : Int32)) rfl rfl ?_
              refine G.zaload X12 hx hZ e12 A12_i (pc' := 90) (v := (.int (Int32.ofNat (List.getD il' 2 0)))) (hb hby d6_89) (by decide) (getD_at gl 2 (by decide)) rfl ?_
              by_cases f2 : List.getD il' 2 0 = 0
              · refine G.ifF X12 hx (pc' := 93) (hb hby d6_90) (Jvm.Free.XT.i0_ne_f (by rw [f2]; rfl)) rfl ?_
                refine G.iconst X12 hx (pc' := 94) (hb hby d6_93) (z := (1 : Int32)) rfl rfl ?_
                refine G.goto X12 hx (pc' := 98) (hb hby d6_94) (by decide) (by decide) ?_
                refine G.istore X12 hx (pc' := 100) (hb hby d6_98) (L' := #[.val (.ref q), .val (.ref i), .val (.int p2), .val (.int (Int32.ofNat j)), .val (.int (1 : Int32))]) rfl rfl ?_
                refine G.aloadN X12 hx (pc' := 101) (hb hby d6_100) rfl rfl rfl ?_
                refine G.callV X12 hx hZ (y0 := (⟨"com/example/netlocus/netlocus/BucketQueue", "isEmpty", "()Z"⟩ : MethodName)) (y := (⟨"com/example/netlocus/netlocus/BucketQueue", "isEmpty", "()Z"⟩ : MethodName)) hown (hw _ (List.mem_of_getElem? (i := 27) rfl)) (hw _ (List.mem_of_getElem? (i := 28) rfl)) (notFace_of_selects (args := #[]) (mvT hZ (hw _ (List.mem_of_getElem? (i := 30) rfl)))) (hw _ (List.mem_of_getElem? (i := 30) rfl)) (hw _ (List.mem_of_getElem? (i := 29) rfl)) (hw _ (List.mem_of_getElem? (i := 3) rfl)) (hw _ (List.mem_of_getElem? (i := 31) rfl)) (by decide) e12 (rm := ({ frames := 0, cells := 0, slots := 0, locals := 0 } : Room)) (argsL := []) (S := []) (W := 0) (a := q) E12_q (rm_emp l Z a0 hw q r.2.2.2.1 h12 F12_q_size (by omega)) (lenOf pd_3 rfl) rfl (Nat.le_of_eq rfl) (by decide) (by decide) (by decide) (by decide) (by rw [hml]; rfl) (hb hby d6_101) (pc' := 104) rfl ?_
                rintro T13 _ _ ⟨rfl, e13, rfl⟩ X13
                rw [List.append_nil] at X13
                show Goes p e below T13 (mkF m 104 #[.val (.ref q), .val (.ref i), .val (.int p2), .val (.int (Int32.ofNat j)), .val (.int (1 : Int32))] [(.int (if r.2.2.2.1 = 0 then (1 : Int32) else (0 : Int32)))]) _
                have hz0 : r.2.2.2.1 = 0 := giff.mpr (fun z => by rcases z with z | z | z; exact z f0; exact z f1; exact z f2)
                rw [if_pos hz0]
                refine G.iload X13 hx (pc' := 106) (hb hby d6_104) rfl rfl ?_
                refine G.icmpF X13 hx (pc' := 109) (hb hby d6_106) (Jvm.Free.XT.ii_ne_f rfl) rfl ?_
                refine G.iconst X13 hx (pc' := 110) (hb hby d6_109) (z := (1 : Int32)) rfl rfl ?_
                refine G.goto X13 hx (pc' := 114) (hb hby d6_110) (by decide) (by decide) ?_
                have hst := go_.1
                subst hst
                refine Goes.retN X13 hx hret (by simp) hlk (hb hby d6_114) (by decide) (by decide) ⟨rfl, (by rw [e13]; exact K12), (by rw [e13]; exact F12_q_after), (by rw [e13]; exact F12_q_before), (by rw [e13]; exact F12_q_keys), (by rw [e13]; exact F12_q_placeCount), (by rw [e13]; exact F12_q_size), (by rw [e13]; exact F12_q_lowest), (by rw [e13]; exact A12_a), (by rw [e13]; exact A12_b), (by rw [e13]; exact A12_i), ⟨gl, ⟨go_.2.2.2.2.2.1, go_.2.2.2.2.2.2.1, go_.2.2.2.2.2.2.2.1⟩, go_.2.2.1, go_.2.2.2.1, go_.2.2.2.2.2.2.2.2.1, go_.2.2.2.2.2.2.2.2.2⟩⟩
              · refine G.ifT X12 hx (pc' := 97) (hb hby d6_90) (Jvm.Free.XT.i0_ne_t (fun z => f2 ((nat_eq (e := 0) (by omega) (by omega)).mp z))) (by decide) (by decide) ?_
                refine G.iconst X12 hx (pc' := 98) (hb hby d6_97) (z := (0 : Int32)) rfl rfl ?_
                refine G.istore X12 hx (pc' := 100) (hb hby d6_98) (L' := #[.val (.ref q), .val (.ref i), .val (.int p2), .val (.int (Int32.ofNat j)), .val (.int (0 : Int32))]) rfl rfl ?_
                refine G.aloadN X12 hx (pc' := 101) (hb hby d6_100) rfl rfl rfl ?_
                refine G.callV X12 hx hZ (y0 := (⟨"com/example/netlocus/netlocus/BucketQueue", "isEmpty", "()Z"⟩ : MethodName)) (y := (⟨"com/example/netlocus/netlocus/BucketQueue", "isEmpty", "()Z"⟩ : MethodName)) hown (hw _ (List.mem_of_getElem? (i := 27) rfl)) (hw _ (List.mem_of_getElem? (i := 28) rfl)) (notFace_of_selects (args := #[]) (mvT hZ (hw _ (List.mem_of_getElem? (i := 30) rfl)))) (hw _ (List.mem_of_getElem? (i := 30) rfl)) (hw _ (List.mem_of_getElem? (i := 29) rfl)) (hw _ (List.mem_of_getElem? (i := 3) rfl)) (hw _ (List.mem_of_getElem? (i := 31) rfl)) (by decide) e12 (rm := ({ frames := 0, cells := 0, slots := 0, locals := 0 } : Room)) (argsL := []) (S := []) (W := 0) (a := q) E12_q (rm_emp l Z a0 hw q r.2.2.2.1 h12 F12_q_size (by omega)) (lenOf pd_3 rfl) rfl (Nat.le_of_eq rfl) (by decide) (by decide) (by decide) (by decide) (by rw [hml]; rfl) (hb hby d6_101) (pc' := 104) rfl ?_
                rintro T14 _ _ ⟨rfl, e14, rfl⟩ X14
                rw [List.append_nil] at X14
                show Goes p e below T14 (mkF m 104 #[.val (.ref q), .val (.ref i), .val (.int p2), .val (.int (Int32.ofNat j)), .val (.int (0 : Int32))] [(.int (if r.2.2.2.1 = 0 then (1 : Int32) else (0 : Int32)))]) _
                have hz0 : ¬ r.2.2.2.1 = 0 := fun z => giff.mp z (Or.inr (Or.inr f2))
                rw [if_neg hz0]
                refine G.iload X14 hx (pc' := 106) (hb hby d6_104) rfl rfl ?_
                refine G.icmpF X14 hx (pc' := 109) (hb hby d6_106) (Jvm.Free.XT.ii_ne_f rfl) rfl ?_
                refine G.iconst X14 hx (pc' := 110) (hb hby d6_109) (z := (1 : Int32)) rfl rfl ?_
                refine G.goto X14 hx (pc' := 114) (hb hby d6_110) (by decide) (by decide) ?_
                have hst := go_.1
                subst hst
                refine Goes.retN X14 hx hret (by simp) hlk (hb hby d6_114) (by decide) (by decide) ⟨rfl, (by rw [e14]; exact K12), (by rw [e14]; exact F12_q_after), (by rw [e14]; exact F12_q_before), (by rw [e14]; exact F12_q_keys), (by rw [e14]; exact F12_q_placeCount), (by rw [e14]; exact F12_q_size), (by rw [e14]; exact F12_q_lowest), (by rw [e14]; exact A12_a), (by rw [e14]; exact A12_b), (by rw [e14]; exact A12_i), ⟨gl, ⟨go_.2.2.2.2.2.1, go_.2.2.2.2.2.2.1, go_.2.2.2.2.2.2.2.1⟩, go_.2.2.1, go_.2.2.2.1, go_.2.2.2.2.2.2.2.2.1, go_.2.2.2.2.2.2.2.2.2⟩⟩
            · refine G.ifT X12 hx (pc' := 97) (hb hby d6_84) (Jvm.Free.XT.i0_ne_t (fun z => f1 ((nat_eq (e := 0) (by omega) (by omega)).mp z))) (by decide) (by decide) ?_
              refine G.iconst X12 hx (pc' := 98) (hb hby d6_97) (z := (0 : Int32)) rfl rfl ?_
              refine G.istore X12 hx (pc' := 100) (hb hby d6_98) (L' := #[.val (.ref q), .val (.ref i), .val (.int p2), .val (.int (Int32.ofNat j)), .val (.int (0 : Int32))]) rfl rfl ?_
              refine G.aloadN X12 hx (pc' := 101) (hb hby d6_100) rfl rfl rfl ?_
              refine G.callV X12 hx hZ (y0 := (⟨"com/example/netlocus/netlocus/BucketQueue", "isEmpty", "()Z"⟩ : MethodName)) (y := (⟨"com/example/netlocus/netlocus/BucketQueue", "isEmpty", "()Z"⟩ : MethodName)) hown (hw _ (List.mem_of_getElem? (i := 27) rfl)) (hw _ (List.mem_of_getElem? (i := 28) rfl)) (notFace_of_selects (args := #[]) (mvT hZ (hw _ (List.mem_of_getElem? (i := 30) rfl)))) (hw _ (List.mem_of_getElem? (i := 30) rfl)) (hw _ (List.mem_of_getElem? (i := 29) rfl)) (hw _ (List.mem_of_getElem? (i := 3) rfl)) (hw _ (List.mem_of_getElem? (i := 31) rfl)) (by decide) e12 (rm := ({ frames := 0, cells := 0, slots := 0, locals := 0 } : Room)) (argsL := []) (S := []) (W := 0) (a := q) E12_q (rm_emp l Z a0 hw q r.2.2.2.1 h12 F12_q_size (by omega)) (lenOf pd_3 rfl) rfl (Nat.le_of_eq rfl) (by decide) (by decide) (by decide) (by decide) (by rw [hml]; rfl) (hb hby d6_101) (pc' := 104) rfl ?_
              rintro T15 _ _ ⟨rfl, e15, rfl⟩ X15
              rw [List.append_nil] at X15
              show Goes p e below T15 (mkF m 104 #[.val (.ref q), .val (.ref i), .val (.int p2), .val (.int (Int32.ofNat j)), .val (.int (0 : Int32))] [(.int (if r.2.2.2.1 = 0 then (1 : Int32) else (0 : Int32)))]) _
              have hz0 : ¬ r.2.2.2.1 = 0 := fun z => giff.mp z (Or.inr (Or.inl f1))
              rw [if_neg hz0]
              refine G.iload X15 hx (pc' := 106) (hb hby d6_104) rfl rfl ?_
              refine G.icmpF X15 hx (pc' := 109) (hb hby d6_106) (Jvm.Free.XT.ii_ne_f rfl) rfl ?_
              refine G.iconst X15 hx (pc' := 110) (hb hby d6_109) (z := (1 : Int32)) rfl rfl ?_
              refine G.goto X15 hx (pc' := 114) (hb hby d6_110) (by decide) (by decide) ?_
              have hst := go_.1
              subst hst
              refine Goes.retN X15 hx hret (by simp) hlk (hb hby d6_114) (by decide) (by decide) ⟨rfl, (by rw [e15]; exact K12), (by rw [e15]; exact F12_q_after), (by rw [e15]; exact F12_q_before), (by rw [e15]; exact F12_q_keys), (by rw [e15]; exact F12_q_placeCount), (by rw [e15]; exact F12_q_size), (by rw [e15]; exact F12_q_lowest), (by rw [e15]; exact A12_a), (by rw [e15]; exact A12_b), (by rw [e15]; exact A12_i), ⟨gl, ⟨go_.2.2.2.2.2.1, go_.2.2.2.2.2.2.1, go_.2.2.2.2.2.2.2.1⟩, go_.2.2.1, go_.2.2.2.1, go_.2.2.2.2.2.2.2.2.1, go_.2.2.2.2.2.2.2.2.2⟩⟩
          · refine G.ifT X12 hx (pc' := 97) (hb hby d6_78) (Jvm.Free.XT.i0_ne_t (fun z => f0 ((nat_eq (e := 0) (by omega) (by omega)).mp z))) (by decide) (by decide) ?_
            refine G.iconst X12 hx (pc' := 98) (hb hby d6_97) (z := (0 : Int32)) rfl rfl ?_
            refine G.istore X12 hx (pc' := 100) (hb hby d6_98) (L' := #[.val (.ref q), .val (.ref i), .val (.int p2), .val (.int (Int32.ofNat j)), .val (.int (0 : Int32))]) rfl rfl ?_
            refine G.aloadN X12 hx (pc' := 101) (hb hby d6_100) rfl rfl rfl ?_
            refine G.callV X12 hx hZ (y0 := (⟨"com/example/netlocus/netlocus/BucketQueue", "isEmpty", "()Z"⟩ : MethodName)) (y := (⟨"com/example/netlocus/netlocus/BucketQueue", "isEmpty", "()Z"⟩ : MethodName)) hown (hw _ (List.mem_of_getElem? (i := 27) rfl)) (hw _ (List.mem_of_getElem? (i := 28) rfl)) (notFace_of_selects (args := #[]) (mvT hZ (hw _ (List.mem_of_getElem? (i := 30) rfl)))) (hw _ (List.mem_of_getElem? (i := 30) rfl)) (hw _ (List.mem_of_getElem? (i := 29) rfl)) (hw _ (List.mem_of_getElem? (i := 3) rfl)) (hw _ (List.mem_of_getElem? (i := 31) rfl)) (by decide) e12 (rm := ({ frames := 0, cells := 0, slots := 0, locals := 0 } : Room)) (argsL := []) (S := []) (W := 0) (a := q) E12_q (rm_emp l Z a0 hw q r.2.2.2.1 h12 F12_q_size (by omega)) (lenOf pd_3 rfl) rfl (Nat.le_of_eq rfl) (by decide) (by decide) (by decide) (by decide) (by rw [hml]; rfl) (hb hby d6_101) (pc' := 104) rfl ?_
            rintro T16 _ _ ⟨rfl, e16, rfl⟩ X16
            rw [List.append_nil] at X16
            show Goes p e below T16 (mkF m 104 #[.val (.ref q), .val (.ref i), .val (.int p2), .val (.int (Int32.ofNat j)), .val (.int (0 : Int32))] [(.int (if r.2.2.2.1 = 0 then (1 : Int32) else (0 : Int32)))]) _
            have hz0 : ¬ r.2.2.2.1 = 0 := fun z => giff.mp z (Or.inl f0)
            rw [if_neg hz0]
            refine G.iload X16 hx (pc' := 106) (hb hby d6_104) rfl rfl ?_
            refine G.icmpF X16 hx (pc' := 109) (hb hby d6_106) (Jvm.Free.XT.ii_ne_f rfl) rfl ?_
            refine G.iconst X16 hx (pc' := 110) (hb hby d6_109) (z := (1 : Int32)) rfl rfl ?_
            refine G.goto X16 hx (pc' := 114) (hb hby d6_110) (by decide) (by decide) ?_
            have hst := go_.1
            subst hst
            refine Goes.retN X16 hx hret (by simp) hlk (hb hby d6_114) (by decide) (by decide) ⟨rfl, (by rw [e16]; exact K12), (by rw [e16]; exact F12_q_after), (by rw [e16]; exact F12_q_before), (by rw [e16]; exact F12_q_keys), (by rw [e16]; exact F12_q_placeCount), (by rw [e16]; exact F12_q_size), (by rw [e16]; exact F12_q_lowest), (by rw [e16]; exact A12_a), (by rw [e16]; exact A12_b), (by rw [e16]; exact A12_i), ⟨gl, ⟨go_.2.2.2.2.2.1, go_.2.2.2.2.2.2.1, go_.2.2.2.2.2.2.2.1⟩, go_.2.2.1, go_.2.2.2.1, go_.2.2.2.2.2.2.2.2.1, go_.2.2.2.2.2.2.2.2.2⟩⟩
      · refine G.ifT X0 hx (pc' := 44) (hb hby d6_35) (Jvm.Free.XT.i0_ne_t (fun z => e1_ ((nat_eq (e := 0) (by omega) (by omega)).mp z))) (by decide) (by decide) ?_
        have hany : anyI il := Or.inr (Or.inl e1_)
        rw [if_pos hany] at hm
        simp only [Option.bind_eq_some_iff] at hm
        obtain ⟨r, hr, xx, hxx, hm⟩ := hm
        have hc3 : r.1 < 3 ∧ xx < 1000 ∧ ¬ xx = 0 := by
          by_cases q1 : r.1 < 3 ∧ xx < 1000 ∧ ¬ xx = 0
          · exact q1
          · rw [if_neg q1] at hm; cases hm
        rw [if_pos hc3] at hm
        simp only [Option.bind_eq_some_iff] at hm
        obtain ⟨il', hil, hok⟩ := hm
        have gr := rd_spec hxx (by omega)
        refine G.aloadN X0 hx (pc' := 45) (hb hby d6_44) rfl rfl rfl ?_
        refine G.callV X0 hx hZ (y0 := (⟨"com/example/netlocus/netlocus/BucketQueue", "removeNearest", "()I"⟩ : MethodName)) (y := (⟨"com/example/netlocus/netlocus/BucketQueue", "removeNearest", "()I"⟩ : MethodName)) hown (hw _ (List.mem_of_getElem? (i := 53) rfl)) (hw _ (List.mem_of_getElem? (i := 54) rfl)) (notFace_of_selects (args := #[]) (mvT hZ (hw _ (List.mem_of_getElem? (i := 56) rfl)))) (hw _ (List.mem_of_getElem? (i := 56) rfl)) (hw _ (List.mem_of_getElem? (i := 55) rfl)) (hw _ (List.mem_of_getElem? (i := 3) rfl)) (hw _ (List.mem_of_getElem? (i := 57) rfl)) (by decide) e0 (rm := ({ frames := 1, cells := 0, slots := 0, locals := 15 } : Room)) (argsL := []) (S := []) (W := 0) (a := q) EQ (rm_rem l Z a0 hw q a b k ks af bf sz lo r h0 EQ Fa Fb Fk Fp Fs Fl Aa Ab Ak nqa nqb nqk nab nak nbk hla hlb hlks (by omega) (by omega) hr) (lenOf pd_4 rfl) rfl (Nat.le_of_eq rfl) (by decide) (by decide) (by decide) (by decide) (by rw [hml]; rfl) (hb hby d6_45) (pc' := 48) rfl ?_
        rintro T17 _ L17 ⟨rfl, Kq17, Fa17, Fb17, Fk17, Fp17, Fs17, Fl17, Aa17, Ab17, la17, lb17⟩ X17
        have E17_q := Exa.keep EQ Kq17.1
        have A17_k := Seq.keep Ak Kq17.1 (ninS (Ne.symm nqk) (ninS (Ne.symm nak) (ninS (Ne.symm nbk) nin0)))
        have A17_i := Seq.keep Ai Kq17.1 (ninS (Ne.symm nqi) (ninS (Ne.symm nai) (ninS (Ne.symm nbi) nin0)))
        have K17 := Kp.call K0 Kq17 (allS (Or.inl (List.mem_of_getElem? (i := 0) rfl)) (allS (Or.inl (List.mem_of_getElem? (i := 1) rfl)) (allS (Or.inl (List.mem_of_getElem? (i := 2) rfl)) all0)))
        show Goes p e below T17 (mkF m 48 #[.val (.ref q), .val (.ref i), .val (.int p2), .val (.int (Int32.ofNat j)), .unset] [(.int (Int32.ofNat r.1))]) _
        refine G.istore X17 hx (pc' := 50) (hb hby d6_48) (L' := #[.val (.ref q), .val (.ref i), .val (.int p2), .val (.int (Int32.ofNat j)), .val (.int (Int32.ofNat r.1))]) rfl rfl ?_
        refine G.iload X17 hx (pc' := 52) (hb hby d6_50) rfl rfl ?_
        refine G.ifF X17 hx (pc' := 55) (hb hby d6_52) (Jvm.Free.XT.i0_lt_f (nat_nn (by omega))) rfl ?_
        refine G.iload X17 hx (pc' := 57) (hb hby d6_55) rfl rfl ?_
        refine G.iconst X17 hx (pc' := 58) (hb hby d6_57) (z := (2 : Int32)) rfl rfl ?_
        refine G.icmpF X17 hx (pc' := 61) (hb hby d6_58) (Jvm.Free.XT.ii_gt_f (fun z => by have := (nat_lt (j := 2) (by omega) (by omega)).mp z; omega)) rfl ?_
        refine G.aloadN X17 hx (pc' := 62) (hb hby d6_61) rfl rfl rfl ?_
        refine G.iload X17 hx (pc' := 64) (hb hby d6_62) rfl rfl ?_
        refine G.zaload X17 hx hZ rfl A17_i (pc' := 65) (v := (.int (Int32.ofNat xx))) (hb hby d6_64) gr.2.1 gr.2.2.1 rfl ?_
        refine G.ifT X17 hx (pc' := 70) (hb hby d6_65) (Jvm.Free.XT.i0_ne_t (fun z => hc3.2.2 ((nat_eq (e := 0) (by omega) (by omega)).mp z))) (by decide) (by decide) ?_
        refine G.aloadN X17 hx (pc' := 71) (hb hby d6_70) rfl rfl rfl ?_
        refine G.iload X17 hx (pc' := 73) (hb hby d6_71) rfl rfl ?_
        refine G.iconst X17 hx (pc' := 74) (hb hby d6_73) (z := (0 : Int32)) rfl rfl ?_
        have gi := wrt_spec hil (by omega)
        refine G.zastore X17 hx hZ rfl A17_i (pc' := 75) (hb hby d6_74) gi.1 gi.2.1 rfl fun T18 h18 X18 e18 W18 A18 => ?_
        have F18_q_after := Fld.other W18 Fa17 (Or.inl nqi)
        have F18_q_before := Fld.other W18 Fb17 (Or.inl nqi)
        have F18_q_keys := Fld.other W18 Fk17 (Or.inl nqi)
        have F18_q_placeCount := Fld.other W18 Fp17 (Or.inl nqi)
        have F18_q_size := Fld.other W18 Fs17 (Or.inl nqi)
        have F18_q_lowest := Fld.other W18 Fl17 (Or.inl nqi)
        have E18_q := Exa.wr W18 E17_q
        have A18_k := Seq.other A17_k W18 nki
        have A18_a := Seq.other Aa17 W18 nai
        have A18_b := Seq.other Ab17 W18 nbi
        have K18 := Kp.wr K17 W18 (Or.inl (List.mem_of_getElem? (i := 3) rfl))
        have A18_i : Seq Z h18 i .boolean (enc il') := (show (enc il).set (Int32.ofNat r.1).toNatClampNeg (.int (nar .boolean (0 : Int32))) = enc il' from gi.2.2.1) ▸ A18
        have go_ := ok_spec hok
        have gl : List.length il' = 3 := go_.2.2.2.2.1
        have giff : (r.2.2.2.1 = 0 ↔ ¬ anyI il') := go_.2.1
        have gsz : r.2.2.2.1 < 900 := go_.2.2.1
        have gb0 : List.getD il' 0 0 < 2 := go_.2.2.2.2.2.1
        have gb1 : List.getD il' 1 0 < 2 := go_.2.2.2.2.2.2.1
        have gb2 : List.getD il' 2 0 < 2 := go_.2.2.2.2.2.2.2.1
        refine G.aloadN X18 hx (pc' := 76) (hb hby d6_75) rfl rfl rfl ?_
        refine G.iconst X18 hx (pc' := 77) (hb hby d6_76) (z := (0 : Int32)) rfl rfl ?_
        refine G.zaload X18 hx hZ e18 A18_i (pc' := 78) (v := (.int (Int32.ofNat (List.getD il' 0 0)))) (hb hby d6_77) (by decide) (getD_at gl 0 (by decide)) rfl ?_
        by_cases f0 : List.getD il' 0 0 = 0
        · refine G.ifF X18 hx (pc' := 81) (hb hby d6_78) (Jvm.Free.XT.i0_ne_f (by rw [f0]; rfl)) rfl ?_
          refine G.aloadN X18 hx (pc' := 82) (hb hby d6_81) rfl rfl rfl ?_
          refine G.iconst X18 hx (pc' := 83) (hb hby d6_82) (z := (1 : Int32)) rfl rfl ?_
          refine G.zaload X18 hx hZ e18 A18_i (pc' := 84) (v := (.int (Int32.ofNat (List.getD il' 1 0)))) (hb hby d6_83) (by decide) (getD_at gl 1 (by decide)) rfl ?_
          by_cases f1 : List.getD il' 1 0 = 0
          · refine G.ifF X18 hx (pc' := 87) (hb hby d6_84) (Jvm.Free.XT.i0_ne_f (by rw [f1]; rfl)) rfl ?_
            refine G.aloadN X18 hx (pc' := 88) (hb hby d6_87) rfl rfl rfl ?_
            refine G.iconst X18 hx (pc' := 89) (hb hby d6_88) (z := (2 : Int32)) rfl rfl ?_
            refine G.zaload X18 hx hZ e18 A18_i (pc' := 90) (v := (.int (Int32.ofNat (List.getD il' 2 0)))) (hb hby d6_89) (by decide) (getD_at gl 2 (by decide)) rfl ?_
            by_cases f2 : List.getD il' 2 0 = 0
            · refine G.ifF X18 hx (pc' := 93) (hb hby d6_90) (Jvm.Free.XT.i0_ne_f (by rw [f2]; rfl)) rfl ?_
              refine G.iconst X18 hx (pc' := 94) (hb hby d6_93) (z := (1 : Int32)) rfl rfl ?_
              refine G.goto X18 hx (pc' := 98) (hb hby d6_94) (by decide) (by decide) ?_
              refine G.istore X18 hx (pc' := 100) (hb hby d6_98) (L' := #[.val (.ref q), .val (.ref i), .val (.int p2), .val (.int (Int32.ofNat j)), .val (.int (1 : Int32))]) rfl rfl ?_
              refine G.aloadN X18 hx (pc' := 101) (hb hby d6_100) rfl rfl rfl ?_
              refine G.callV X18 hx hZ (y0 := (⟨"com/example/netlocus/netlocus/BucketQueue", "isEmpty", "()Z"⟩ : MethodName)) (y := (⟨"com/example/netlocus/netlocus/BucketQueue", "isEmpty", "()Z"⟩ : MethodName)) hown (hw _ (List.mem_of_getElem? (i := 27) rfl)) (hw _ (List.mem_of_getElem? (i := 28) rfl)) (notFace_of_selects (args := #[]) (mvT hZ (hw _ (List.mem_of_getElem? (i := 30) rfl)))) (hw _ (List.mem_of_getElem? (i := 30) rfl)) (hw _ (List.mem_of_getElem? (i := 29) rfl)) (hw _ (List.mem_of_getElem? (i := 3) rfl)) (hw _ (List.mem_of_getElem? (i := 31) rfl)) (by decide) e18 (rm := ({ frames := 0, cells := 0, slots := 0, locals := 0 } : Room)) (argsL := []) (S := []) (W := 0) (a := q) E18_q (rm_emp l Z a0 hw q r.2.2.2.1 h18 F18_q_size (by omega)) (lenOf pd_3 rfl) rfl (Nat.le_of_eq rfl) (by decide) (by decide) (by decide) (by decide) (by rw [hml]; rfl) (hb hby d6_101) (pc' := 104) rfl ?_
              rintro T19 _ _ ⟨rfl, e19, rfl⟩ X19
              rw [List.append_nil] at X19
              show Goes p e below T19 (mkF m 104 #[.val (.ref q), .val (.ref i), .val (.int p2), .val (.int (Int32.ofNat j)), .val (.int (1 : Int32))] [(.int (if r.2.2.2.1 = 0 then (1 : Int32) else (0 : Int32)))]) _
              have hz0 : r.2.2.2.1 = 0 := giff.mpr (fun z => by rcases z with z | z | z; exact z f0; exact z f1; exact z f2)
              rw [if_pos hz0]
              refine G.iload X19 hx (pc' := 106) (hb hby d6_104) rfl rfl ?_
              refine G.icmpF X19 hx (pc' := 109) (hb hby d6_106) (Jvm.Free.XT.ii_ne_f rfl) rfl ?_
              refine G.iconst X19 hx (pc' := 110) (hb hby d6_109) (z := (1 : Int32)) rfl rfl ?_
              refine G.goto X19 hx (pc' := 114) (hb hby d6_110) (by decide) (by decide) ?_
              have hst := go_.1
              subst hst
              refine Goes.retN X19 hx hret (by simp) hlk (hb hby d6_114) (by decide) (by decide) ⟨rfl, (by rw [e19]; exact K18), (by rw [e19]; exact F18_q_after), (by rw [e19]; exact F18_q_before), (by rw [e19]; exact F18_q_keys), (by rw [e19]; exact F18_q_placeCount), (by rw [e19]; exact F18_q_size), (by rw [e19]; exact F18_q_lowest), (by rw [e19]; exact A18_a), (by rw [e19]; exact A18_b), (by rw [e19]; exact A18_i), ⟨gl, ⟨go_.2.2.2.2.2.1, go_.2.2.2.2.2.2.1, go_.2.2.2.2.2.2.2.1⟩, go_.2.2.1, go_.2.2.2.1, go_.2.2.2.2.2.2.2.2.1, go_.2.2.2.2.2.2.2.2.2⟩⟩
            · refine G.ifT X18 hx (pc' := 97) (hb hby d6_90) (Jvm.Free.XT.i0_ne_t (fun z => f2 ((nat_eq (e := 0) (by omega) (by omega)).mp z))) (by decide) (by decide) ?_
              refine G.iconst X18 hx (pc' := 98) (hb hby d6_97) (z := (0 : Int32)) rfl rfl ?_
              refine G.istore X18 hx (pc' := 100) (hb hby d6_98) (L' := #[.val (.ref q), .val (.ref i), .val (.int p2), .val (.int (Int32.ofNat j)), .val (.int (0 : Int32))]) rfl rfl ?_
              refine G.aloadN X18 hx (pc' := 101) (hb hby d6_100) rfl rfl rfl ?_
              refine G.callV X18 hx hZ (y0 := (⟨"com/example/netlocus/netlocus/BucketQueue", "isEmpty", "()Z"⟩ : MethodName)) (y := (⟨"com/example/netlocus/netlocus/BucketQueue", "isEmpty", "()Z"⟩ : MethodName)) hown (hw _ (List.mem_of_getElem? (i := 27) rfl)) (hw _ (List.mem_of_getElem? (i := 28) rfl)) (notFace_of_selects (args := #[]) (mvT hZ (hw _ (List.mem_of_getElem? (i := 30) rfl)))) (hw _ (List.mem_of_getElem? (i := 30) rfl)) (hw _ (List.mem_of_getElem? (i := 29) rfl)) (hw _ (List.mem_of_getElem? (i := 3) rfl)) (hw _ (List.mem_of_getElem? (i := 31) rfl)) (by decide) e18 (rm := ({ frames := 0, cells := 0, slots := 0, locals := 0 } : Room)) (argsL := []) (S := []) (W := 0) (a := q) E18_q (rm_emp l Z a0 hw q r.2.2.2.1 h18 F18_q_size (by omega)) (lenOf pd_3 rfl) rfl (Nat.le_of_eq rfl) (by decide) (by decide) (by decide) (by decide) (by rw [hml]; rfl) (hb hby d6_101) (pc' := 104) rfl ?_
              rintro T20 _ _ ⟨rfl, e20, rfl⟩ X20
              rw [List.append_nil] at X20
              show Goes p e below T20 (mkF m 104 #[.val (.ref q), .val (.ref i), .val (.int p2), .val (.int (Int32.ofNat j)), .val (.int (0 : Int32))] [(.int (if r.2.2.2.1 = 0 then (1 : Int32) else (0 : Int32)))]) _
              have hz0 : ¬ r.2.2.2.1 = 0 := fun z => giff.mp z (Or.inr (Or.inr f2))
              rw [if_neg hz0]
              refine G.iload X20 hx (pc' := 106) (hb hby d6_104) rfl rfl ?_
              refine G.icmpF X20 hx (pc' := 109) (hb hby d6_106) (Jvm.Free.XT.ii_ne_f rfl) rfl ?_
              refine G.iconst X20 hx (pc' := 110) (hb hby d6_109) (z := (1 : Int32)) rfl rfl ?_
              refine G.goto X20 hx (pc' := 114) (hb hby d6_110) (by decide) (by decide) ?_
              have hst := go_.1
              subst hst
              refine Goes.retN X20 hx hret (by simp) hlk (hb hby d6_114) (by decide) (by decide) ⟨rfl, (by rw [e20]; exact K18), (by rw [e20]; exact F18_q_after), (by rw [e20]; exact F18_q_before), (by rw [e20]; exact F18_q_keys), (by rw [e20]; exact F18_q_placeCount), (by rw [e20]; exact F18_q_size), (by rw [e20]; exact F18_q_lowest), (by rw [e20]; exact A18_a), (by rw [e20]; exact A18_b), (by rw [e20]; exact A18_i), ⟨gl, ⟨go_.2.2.2.2.2.1, go_.2.2.2.2.2.2.1, go_.2.2.2.2.2.2.2.1⟩, go_.2.2.1, go_.2.2.2.1, go_.2.2.2.2.2.2.2.2.1, go_.2.2.2.2.2.2.2.2.2⟩⟩
          · refine G.ifT X18 hx (pc' := 97) (hb hby d6_84) (Jvm.Free.XT.i0_ne_t (fun z => f1 ((nat_eq (e := 0) (by omega) (by omega)).mp z))) (by decide) (by decide) ?_
            refine G.iconst X18 hx (pc' := 98) (hb hby d6_97) (z := (0 : Int32)) rfl rfl ?_
            refine G.istore X18 hx (pc' := 100) (hb hby d6_98) (L' := #[.val (.ref q), .val (.ref i), .val (.int p2), .val (.int (Int32.ofNat j)), .val (.int (0 : Int32))]) rfl rfl ?_
            refine G.aloadN X18 hx (pc' := 101) (hb hby d6_100) rfl rfl rfl ?_
            refine G.callV X18 hx hZ (y0 := (⟨"com/example/netlocus/netlocus/BucketQueue", "isEmpty", "()Z"⟩ : MethodName)) (y := (⟨"com/example/netlocus/netlocus/BucketQueue", "isEmpty", "()Z"⟩ : MethodName)) hown (hw _ (List.mem_of_getElem? (i := 27) rfl)) (hw _ (List.mem_of_getElem? (i := 28) rfl)) (notFace_of_selects (args := #[]) (mvT hZ (hw _ (List.mem_of_getElem? (i := 30) rfl)))) (hw _ (List.mem_of_getElem? (i := 30) rfl)) (hw _ (List.mem_of_getElem? (i := 29) rfl)) (hw _ (List.mem_of_getElem? (i := 3) rfl)) (hw _ (List.mem_of_getElem? (i := 31) rfl)) (by decide) e18 (rm := ({ frames := 0, cells := 0, slots := 0, locals := 0 } : Room)) (argsL := []) (S := []) (W := 0) (a := q) E18_q (rm_emp l Z a0 hw q r.2.2.2.1 h18 F18_q_size (by omega)) (lenOf pd_3 rfl) rfl (Nat.le_of_eq rfl) (by decide) (by decide) (by decide) (by decide) (by rw [hml]; rfl) (hb hby d6_101) (pc' := 104) rfl ?_
            rintro T21 _ _ ⟨rfl, e21, rfl⟩ X21
            rw [List.append_nil] at X21
            show Goes p e below T21 (mkF m 104 #[.val (.ref q), .val (.ref i), .val (.int p2), .val (.int (Int32.ofNat j)), .val (.int (0 : Int32))] [(.int (if r.2.2.2.1 = 0 then (1 : Int32) else (0 : Int32)))]) _
            have hz0 : ¬ r.2.2.2.1 = 0 := fun z => giff.mp z (Or.inr (Or.inl f1))
            rw [if_neg hz0]
            refine G.iload X21 hx (pc' := 106) (hb hby d6_104) rfl rfl ?_
            refine G.icmpF X21 hx (pc' := 109) (hb hby d6_106) (Jvm.Free.XT.ii_ne_f rfl) rfl ?_
            refine G.iconst X21 hx (pc' := 110) (hb hby d6_109) (z := (1 : Int32)) rfl rfl ?_
            refine G.goto X21 hx (pc' := 114) (hb hby d6_110) (by decide) (by decide) ?_
            have hst := go_.1
            subst hst
            refine Goes.retN X21 hx hret (by simp) hlk (hb hby d6_114) (by decide) (by decide) ⟨rfl, (by rw [e21]; exact K18), (by rw [e21]; exact F18_q_after), (by rw [e21]; exact F18_q_before), (by rw [e21]; exact F18_q_keys), (by rw [e21]; exact F18_q_placeCount), (by rw [e21]; exact F18_q_size), (by rw [e21]; exact F18_q_lowest), (by rw [e21]; exact A18_a), (by rw [e21]; exact A18_b), (by rw [e21]; exact A18_i), ⟨gl, ⟨go_.2.2.2.2.2.1, go_.2.2.2.2.2.2.1, go_.2.2.2.2.2.2.2.1⟩, go_.2.2.1, go_.2.2.2.1, go_.2.2.2.2.2.2.2.2.1, go_.2.2.2.2.2.2.2.2.2⟩⟩
        · refine G.ifT X18 hx (pc' := 97) (hb hby d6_78) (Jvm.Free.XT.i0_ne_t (fun z => f0 ((nat_eq (e := 0) (by omega) (by omega)).mp z))) (by decide) (by decide) ?_
          refine G.iconst X18 hx (pc' := 98) (hb hby d6_97) (z := (0 : Int32)) rfl rfl ?_
          refine G.istore X18 hx (pc' := 100) (hb hby d6_98) (L' := #[.val (.ref q), .val (.ref i), .val (.int p2), .val (.int (Int32.ofNat j)), .val (.int (0 : Int32))]) rfl rfl ?_
          refine G.aloadN X18 hx (pc' := 101) (hb hby d6_100) rfl rfl rfl ?_
          refine G.callV X18 hx hZ (y0 := (⟨"com/example/netlocus/netlocus/BucketQueue", "isEmpty", "()Z"⟩ : MethodName)) (y := (⟨"com/example/netlocus/netlocus/BucketQueue", "isEmpty", "()Z"⟩ : MethodName)) hown (hw _ (List.mem_of_getElem? (i := 27) rfl)) (hw _ (List.mem_of_getElem? (i := 28) rfl)) (notFace_of_selects (args := #[]) (mvT hZ (hw _ (List.mem_of_getElem? (i := 30) rfl)))) (hw _ (List.mem_of_getElem? (i := 30) rfl)) (hw _ (List.mem_of_getElem? (i := 29) rfl)) (hw _ (List.mem_of_getElem? (i := 3) rfl)) (hw _ (List.mem_of_getElem? (i := 31) rfl)) (by decide) e18 (rm := ({ frames := 0, cells := 0, slots := 0, locals := 0 } : Room)) (argsL := []) (S := []) (W := 0) (a := q) E18_q (rm_emp l Z a0 hw q r.2.2.2.1 h18 F18_q_size (by omega)) (lenOf pd_3 rfl) rfl (Nat.le_of_eq rfl) (by decide) (by decide) (by decide) (by decide) (by rw [hml]; rfl) (hb hby d6_101) (pc' := 104) rfl ?_
          rintro T22 _ _ ⟨rfl, e22, rfl⟩ X22
          rw [List.append_nil] at X22
          show Goes p e below T22 (mkF m 104 #[.val (.ref q), .val (.ref i), .val (.int p2), .val (.int (Int32.ofNat j)), .val (.int (0 : Int32))] [(.int (if r.2.2.2.1 = 0 then (1 : Int32) else (0 : Int32)))]) _
          have hz0 : ¬ r.2.2.2.1 = 0 := fun z => giff.mp z (Or.inl f0)
          rw [if_neg hz0]
          refine G.iload X22 hx (pc' := 106) (hb hby d6_104) rfl rfl ?_
          refine G.icmpF X22 hx (pc' := 109) (hb hby d6_106) (Jvm.Free.XT.ii_ne_f rfl) rfl ?_
          refine G.iconst X22 hx (pc' := 110) (hb hby d6_109) (z := (1 : Int32)) rfl rfl ?_
          refine G.goto X22 hx (pc' := 114) (hb hby d6_110) (by decide) (by decide) ?_
          have hst := go_.1
          subst hst
          refine Goes.retN X22 hx hret (by simp) hlk (hb hby d6_114) (by decide) (by decide) ⟨rfl, (by rw [e22]; exact K18), (by rw [e22]; exact F18_q_after), (by rw [e22]; exact F18_q_before), (by rw [e22]; exact F18_q_keys), (by rw [e22]; exact F18_q_placeCount), (by rw [e22]; exact F18_q_size), (by rw [e22]; exact F18_q_lowest), (by rw [e22]; exact A18_a), (by rw [e22]; exact A18_b), (by rw [e22]; exact A18_i), ⟨gl, ⟨go_.2.2.2.2.2.1, go_.2.2.2.2.2.2.1, go_.2.2.2.2.2.2.2.1⟩, go_.2.2.1, go_.2.2.2.1, go_.2.2.2.2.2.2.2.2.1, go_.2.2.2.2.2.2.2.2.2⟩⟩
    · refine G.ifT X0 hx (pc' := 44) (hb hby d6_29) (Jvm.Free.XT.i0_ne_t (fun z => e0_ ((nat_eq (e := 0) (by omega) (by omega)).mp z))) (by decide) (by decide) ?_
      have hany : anyI il := Or.inl e0_
      rw [if_pos hany] at hm
      simp only [Option.bind_eq_some_iff] at hm
      obtain ⟨r, hr, xx, hxx, hm⟩ := hm
      have hc3 : r.1 < 3 ∧ xx < 1000 ∧ ¬ xx = 0 := by
        by_cases q1 : r.1 < 3 ∧ xx < 1000 ∧ ¬ xx = 0
        · exact q1
        · rw [if_neg q1] at hm; cases hm
      rw [if_pos hc3] at hm
      simp only [Option.bind_eq_some_iff] at hm
      obtain ⟨il', hil, hok⟩ := hm
      have gr := rd_spec hxx (by omega)
      refine G.aloadN X0 hx (pc' := 45) (hb hby d6_44) rfl rfl rfl ?_
      refine G.callV X0 hx hZ (y0 := (⟨"com/example/netlocus/netlocus/BucketQueue", "removeNearest", "()I"⟩ : MethodName)) (y := (⟨"com/example/netlocus/netlocus/BucketQueue", "removeNearest", "()I"⟩ : MethodName)) hown (hw _ (List.mem_of_getElem? (i := 53) rfl)) (hw _ (List.mem_of_getElem? (i := 54) rfl)) (notFace_of_selects (args := #[]) (mvT hZ (hw _ (List.mem_of_getElem? (i := 56) rfl)))) (hw _ (List.mem_of_getElem? (i := 56) rfl)) (hw _ (List.mem_of_getElem? (i := 55) rfl)) (hw _ (List.mem_of_getElem? (i := 3) rfl)) (hw _ (List.mem_of_getElem? (i := 57) rfl)) (by decide) e0 (rm := ({ frames := 1, cells := 0, slots := 0, locals := 15 } : Room)) (argsL := []) (S := []) (W := 0) (a := q) EQ (rm_rem l Z a0 hw q a b k ks af bf sz lo r h0 EQ Fa Fb Fk Fp Fs Fl Aa Ab Ak nqa nqb nqk nab nak nbk hla hlb hlks (by omega) (by omega) hr) (lenOf pd_4 rfl) rfl (Nat.le_of_eq rfl) (by decide) (by decide) (by decide) (by decide) (by rw [hml]; rfl) (hb hby d6_45) (pc' := 48) rfl ?_
      rintro T23 _ L23 ⟨rfl, Kq23, Fa23, Fb23, Fk23, Fp23, Fs23, Fl23, Aa23, Ab23, la23, lb23⟩ X23
      have E23_q := Exa.keep EQ Kq23.1
      have A23_k := Seq.keep Ak Kq23.1 (ninS (Ne.symm nqk) (ninS (Ne.symm nak) (ninS (Ne.symm nbk) nin0)))
      have A23_i := Seq.keep Ai Kq23.1 (ninS (Ne.symm nqi) (ninS (Ne.symm nai) (ninS (Ne.symm nbi) nin0)))
      have K23 := Kp.call K0 Kq23 (allS (Or.inl (List.mem_of_getElem? (i := 0) rfl)) (allS (Or.inl (List.mem_of_getElem? (i := 1) rfl)) (allS (Or.inl (List.mem_of_getElem? (i := 2) rfl)) all0)))
      show Goes p e below T23 (mkF m 48 #[.val (.ref q), .val (.ref i), .val (.int p2), .val (.int (Int32.ofNat j)), .unset] [(.int (Int32.ofNat r.1))]) _
      refine G.istore X23 hx (pc' := 50) (hb hby d6_48) (L' := #[.val (.ref q), .val (.ref i), .val (.int p2), .val (.int (Int32.ofNat j)), .val (.int (Int32.ofNat r.1))]) rfl rfl ?_
      refine G.iload X23 hx (pc' := 52) (hb hby d6_50) rfl rfl ?_
      refine G.ifF X23 hx (pc' := 55) (hb hby d6_52) (Jvm.Free.XT.i0_lt_f (nat_nn (by omega))) rfl ?_
      refine G.iload X23 hx (pc' := 57) (hb hby d6_55) rfl rfl ?_
      refine G.iconst X23 hx (pc' := 58) (hb hby d6_57) (z := (2 : Int32)) rfl rfl ?_
      refine G.icmpF X23 hx (pc' := 61) (hb hby d6_58) (Jvm.Free.XT.ii_gt_f (fun z => by have := (nat_lt (j := 2) (by omega) (by omega)).mp z; omega)) rfl ?_
      refine G.aloadN X23 hx (pc' := 62) (hb hby d6_61) rfl rfl rfl ?_
      refine G.iload X23 hx (pc' := 64) (hb hby d6_62) rfl rfl ?_
      refine G.zaload X23 hx hZ rfl A23_i (pc' := 65) (v := (.int (Int32.ofNat xx))) (hb hby d6_64) gr.2.1 gr.2.2.1 rfl ?_
      refine G.ifT X23 hx (pc' := 70) (hb hby d6_65) (Jvm.Free.XT.i0_ne_t (fun z => hc3.2.2 ((nat_eq (e := 0) (by omega) (by omega)).mp z))) (by decide) (by decide) ?_
      refine G.aloadN X23 hx (pc' := 71) (hb hby d6_70) rfl rfl rfl ?_
      refine G.iload X23 hx (pc' := 73) (hb hby d6_71) rfl rfl ?_
      refine G.iconst X23 hx (pc' := 74) (hb hby d6_73) (z := (0 : Int32)) rfl rfl ?_
      have gi := wrt_spec hil (by omega)
      refine G.zastore X23 hx hZ rfl A23_i (pc' := 75) (hb hby d6_74) gi.1 gi.2.1 rfl fun T24 h24 X24 e24 W24 A24 => ?_
      have F24_q_after := Fld.other W24 Fa23 (Or.inl nqi)
      have F24_q_before := Fld.other W24 Fb23 (Or.inl nqi)
      have F24_q_keys := Fld.other W24 Fk23 (Or.inl nqi)
      have F24_q_placeCount := Fld.other W24 Fp23 (Or.inl nqi)
      have F24_q_size := Fld.other W24 Fs23 (Or.inl nqi)
      have F24_q_lowest := Fld.other W24 Fl23 (Or.inl nqi)
      have E24_q := Exa.wr W24 E23_q
      have A24_k := Seq.other A23_k W24 nki
      have A24_a := Seq.other Aa23 W24 nai
      have A24_b := Seq.other Ab23 W24 nbi
      have K24 := Kp.wr K23 W24 (Or.inl (List.mem_of_getElem? (i := 3) rfl))
      have A24_i : Seq Z h24 i .boolean (enc il') := (show (enc il).set (Int32.ofNat r.1).toNatClampNeg (.int (nar .boolean (0 : Int32))) = enc il' from gi.2.2.1) ▸ A24
      have go_ := ok_spec hok
      have gl : List.length il' = 3 := go_.2.2.2.2.1
      have giff : (r.2.2.2.1 = 0 ↔ ¬ anyI il') := go_.2.1
      have gsz : r.2.2.2.1 < 900 := go_.2.2.1
      have gb0 : List.getD il' 0 0 < 2 := go_.2.2.2.2.2.1
      have gb1 : List.getD il' 1 0 < 2 := go_.2.2.2.2.2.2.1
      have gb2 : List.getD il' 2 0 < 2 := go_.2.2.2.2.2.2.2.1
      refine G.aloadN X24 hx (pc' := 76) (hb hby d6_75) rfl rfl rfl ?_
      refine G.iconst X24 hx (pc' := 77) (hb hby d6_76) (z := (0 : Int32)) rfl rfl ?_
      refine G.zaload X24 hx hZ e24 A24_i (pc' := 78) (v := (.int (Int32.ofNat (List.getD il' 0 0)))) (hb hby d6_77) (by decide) (getD_at gl 0 (by decide)) rfl ?_
      by_cases f0 : List.getD il' 0 0 = 0
      · refine G.ifF X24 hx (pc' := 81) (hb hby d6_78) (Jvm.Free.XT.i0_ne_f (by rw [f0]; rfl)) rfl ?_
        refine G.aloadN X24 hx (pc' := 82) (hb hby d6_81) rfl rfl rfl ?_
        refine G.iconst X24 hx (pc' := 83) (hb hby d6_82) (z := (1 : Int32)) rfl rfl ?_
        refine G.zaload X24 hx hZ e24 A24_i (pc' := 84) (v := (.int (Int32.ofNat (List.getD il' 1 0)))) (hb hby d6_83) (by decide) (getD_at gl 1 (by decide)) rfl ?_
        by_cases f1 : List.getD il' 1 0 = 0
        · refine G.ifF X24 hx (pc' := 87) (hb hby d6_84) (Jvm.Free.XT.i0_ne_f (by rw [f1]; rfl)) rfl ?_
          refine G.aloadN X24 hx (pc' := 88) (hb hby d6_87) rfl rfl rfl ?_
          refine G.iconst X24 hx (pc' := 89) (hb hby d6_88) (z := (2 : Int32)) rfl rfl ?_
          refine G.zaload X24 hx hZ e24 A24_i (pc' := 90) (v := (.int (Int32.ofNat (List.getD il' 2 0)))) (hb hby d6_89) (by decide) (getD_at gl 2 (by decide)) rfl ?_
          by_cases f2 : List.getD il' 2 0 = 0
          · refine G.ifF X24 hx (pc' := 93) (hb hby d6_90) (Jvm.Free.XT.i0_ne_f (by rw [f2]; rfl)) rfl ?_
            refine G.iconst X24 hx (pc' := 94) (hb hby d6_93) (z := (1 : Int32)) rfl rfl ?_
            refine G.goto X24 hx (pc' := 98) (hb hby d6_94) (by decide) (by decide) ?_
            refine G.istore X24 hx (pc' := 100) (hb hby d6_98) (L' := #[.val (.ref q), .val (.ref i), .val (.int p2), .val (.int (Int32.ofNat j)), .val (.int (1 : Int32))]) rfl rfl ?_
            refine G.aloadN X24 hx (pc' := 101) (hb hby d6_100) rfl rfl rfl ?_
            refine G.callV X24 hx hZ (y0 := (⟨"com/example/netlocus/netlocus/BucketQueue", "isEmpty", "()Z"⟩ : MethodName)) (y := (⟨"com/example/netlocus/netlocus/BucketQueue", "isEmpty", "()Z"⟩ : MethodName)) hown (hw _ (List.mem_of_getElem? (i := 27) rfl)) (hw _ (List.mem_of_getElem? (i := 28) rfl)) (notFace_of_selects (args := #[]) (mvT hZ (hw _ (List.mem_of_getElem? (i := 30) rfl)))) (hw _ (List.mem_of_getElem? (i := 30) rfl)) (hw _ (List.mem_of_getElem? (i := 29) rfl)) (hw _ (List.mem_of_getElem? (i := 3) rfl)) (hw _ (List.mem_of_getElem? (i := 31) rfl)) (by decide) e24 (rm := ({ frames := 0, cells := 0, slots := 0, locals := 0 } : Room)) (argsL := []) (S := []) (W := 0) (a := q) E24_q (rm_emp l Z a0 hw q r.2.2.2.1 h24 F24_q_size (by omega)) (lenOf pd_3 rfl) rfl (Nat.le_of_eq rfl) (by decide) (by decide) (by decide) (by decide) (by rw [hml]; rfl) (hb hby d6_101) (pc' := 104) rfl ?_
            rintro T25 _ _ ⟨rfl, e25, rfl⟩ X25
            rw [List.append_nil] at X25
            show Goes p e below T25 (mkF m 104 #[.val (.ref q), .val (.ref i), .val (.int p2), .val (.int (Int32.ofNat j)), .val (.int (1 : Int32))] [(.int (if r.2.2.2.1 = 0 then (1 : Int32) else (0 : Int32)))]) _
            have hz0 : r.2.2.2.1 = 0 := giff.mpr (fun z => by rcases z with z | z | z; exact z f0; exact z f1; exact z f2)
            rw [if_pos hz0]
            refine G.iload X25 hx (pc' := 106) (hb hby d6_104) rfl rfl ?_
            refine G.icmpF X25 hx (pc' := 109) (hb hby d6_106) (Jvm.Free.XT.ii_ne_f rfl) rfl ?_
            refine G.iconst X25 hx (pc' := 110) (hb hby d6_109) (z := (1 : Int32)) rfl rfl ?_
            refine G.goto X25 hx (pc' := 114) (hb hby d6_110) (by decide) (by decide) ?_
            have hst := go_.1
            subst hst
            refine Goes.retN X25 hx hret (by simp) hlk (hb hby d6_114) (by decide) (by decide) ⟨rfl, (by rw [e25]; exact K24), (by rw [e25]; exact F24_q_after), (by rw [e25]; exact F24_q_before), (by rw [e25]; exact F24_q_keys), (by rw [e25]; exact F24_q_placeCount), (by rw [e25]; exact F24_q_size), (by rw [e25]; exact F24_q_lowest), (by rw [e25]; exact A24_a), (by rw [e25]; exact A24_b), (by rw [e25]; exact A24_i), ⟨gl, ⟨go_.2.2.2.2.2.1, go_.2.2.2.2.2.2.1, go_.2.2.2.2.2.2.2.1⟩, go_.2.2.1, go_.2.2.2.1, go_.2.2.2.2.2.2.2.2.1, go_.2.2.2.2.2.2.2.2.2⟩⟩
          · refine G.ifT X24 hx (pc' := 97) (hb hby d6_90) (Jvm.Free.XT.i0_ne_t (fun z => f2 ((nat_eq (e := 0) (by omega) (by omega)).mp z))) (by decide) (by decide) ?_
            refine G.iconst X24 hx (pc' := 98) (hb hby d6_97) (z := (0 : Int32)) rfl rfl ?_
            refine G.istore X24 hx (pc' := 100) (hb hby d6_98) (L' := #[.val (.ref q), .val (.ref i), .val (.int p2), .val (.int (Int32.ofNat j)), .val (.int (0 : Int32))]) rfl rfl ?_
            refine G.aloadN X24 hx (pc' := 101) (hb hby d6_100) rfl rfl rfl ?_
            refine G.callV X24 hx hZ (y0 := (⟨"com/example/netlocus/netlocus/BucketQueue", "isEmpty", "()Z"⟩ : MethodName)) (y := (⟨"com/example/netlocus/netlocus/BucketQueue", "isEmpty", "()Z"⟩ : MethodName)) hown (hw _ (List.mem_of_getElem? (i := 27) rfl)) (hw _ (List.mem_of_getElem? (i := 28) rfl)) (notFace_of_selects (args := #[]) (mvT hZ (hw _ (List.mem_of_getElem? (i := 30) rfl)))) (hw _ (List.mem_of_getElem? (i := 30) rfl)) (hw _ (List.mem_of_getElem? (i := 29) rfl)) (hw _ (List.mem_of_getElem? (i := 3) rfl)) (hw _ (List.mem_of_getElem? (i := 31) rfl)) (by decide) e24 (rm := ({ frames := 0, cells := 0, slots := 0, locals := 0 } : Room)) (argsL := []) (S := []) (W := 0) (a := q) E24_q (rm_emp l Z a0 hw q r.2.2.2.1 h24 F24_q_size (by omega)) (lenOf pd_3 rfl) rfl (Nat.le_of_eq rfl) (by decide) (by decide) (by decide) (by decide) (by rw [hml]; rfl) (hb hby d6_101) (pc' := 104) rfl ?_
            rintro T26 _ _ ⟨rfl, e26, rfl⟩ X26
            rw [List.append_nil] at X26
            show Goes p e below T26 (mkF m 104 #[.val (.ref q), .val (.ref i), .val (.int p2), .val (.int (Int32.ofNat j)), .val (.int (0 : Int32))] [(.int (if r.2.2.2.1 = 0 then (1 : Int32) else (0 : Int32)))]) _
            have hz0 : ¬ r.2.2.2.1 = 0 := fun z => giff.mp z (Or.inr (Or.inr f2))
            rw [if_neg hz0]
            refine G.iload X26 hx (pc' := 106) (hb hby d6_104) rfl rfl ?_
            refine G.icmpF X26 hx (pc' := 109) (hb hby d6_106) (Jvm.Free.XT.ii_ne_f rfl) rfl ?_
            refine G.iconst X26 hx (pc' := 110) (hb hby d6_109) (z := (1 : Int32)) rfl rfl ?_
            refine G.goto X26 hx (pc' := 114) (hb hby d6_110) (by decide) (by decide) ?_
            have hst := go_.1
            subst hst
            refine Goes.retN X26 hx hret (by simp) hlk (hb hby d6_114) (by decide) (by decide) ⟨rfl, (by rw [e26]; exact K24), (by rw [e26]; exact F24_q_after), (by rw [e26]; exact F24_q_before), (by rw [e26]; exact F24_q_keys), (by rw [e26]; exact F24_q_placeCount), (by rw [e26]; exact F24_q_size), (by rw [e26]; exact F24_q_lowest), (by rw [e26]; exact A24_a), (by rw [e26]; exact A24_b), (by rw [e26]; exact A24_i), ⟨gl, ⟨go_.2.2.2.2.2.1, go_.2.2.2.2.2.2.1, go_.2.2.2.2.2.2.2.1⟩, go_.2.2.1, go_.2.2.2.1, go_.2.2.2.2.2.2.2.2.1, go_.2.2.2.2.2.2.2.2.2⟩⟩
        · refine G.ifT X24 hx (pc' := 97) (hb hby d6_84) (Jvm.Free.XT.i0_ne_t (fun z => f1 ((nat_eq (e := 0) (by omega) (by omega)).mp z))) (by decide) (by decide) ?_
          refine G.iconst X24 hx (pc' := 98) (hb hby d6_97) (z := (0 : Int32)) rfl rfl ?_
          refine G.istore X24 hx (pc' := 100) (hb hby d6_98) (L' := #[.val (.ref q), .val (.ref i), .val (.int p2), .val (.int (Int32.ofNat j)), .val (.int (0 : Int32))]) rfl rfl ?_
          refine G.aloadN X24 hx (pc' := 101) (hb hby d6_100) rfl rfl rfl ?_
          refine G.callV X24 hx hZ (y0 := (⟨"com/example/netlocus/netlocus/BucketQueue", "isEmpty", "()Z"⟩ : MethodName)) (y := (⟨"com/example/netlocus/netlocus/BucketQueue", "isEmpty", "()Z"⟩ : MethodName)) hown (hw _ (List.mem_of_getElem? (i := 27) rfl)) (hw _ (List.mem_of_getElem? (i := 28) rfl)) (notFace_of_selects (args := #[]) (mvT hZ (hw _ (List.mem_of_getElem? (i := 30) rfl)))) (hw _ (List.mem_of_getElem? (i := 30) rfl)) (hw _ (List.mem_of_getElem? (i := 29) rfl)) (hw _ (List.mem_of_getElem? (i := 3) rfl)) (hw _ (List.mem_of_getElem? (i := 31) rfl)) (by decide) e24 (rm := ({ frames := 0, cells := 0, slots := 0, locals := 0 } : Room)) (argsL := []) (S := []) (W := 0) (a := q) E24_q (rm_emp l Z a0 hw q r.2.2.2.1 h24 F24_q_size (by omega)) (lenOf pd_3 rfl) rfl (Nat.le_of_eq rfl) (by decide) (by decide) (by decide) (by decide) (by rw [hml]; rfl) (hb hby d6_101) (pc' := 104) rfl ?_
          rintro T27 _ _ ⟨rfl, e27, rfl⟩ X27
          rw [List.append_nil] at X27
          show Goes p e below T27 (mkF m 104 #[.val (.ref q), .val (.ref i), .val (.int p2), .val (.int (Int32.ofNat j)), .val (.int (0 : Int32))] [(.int (if r.2.2.2.1 = 0 then (1 : Int32) else (0 : Int32)))]) _
          have hz0 : ¬ r.2.2.2.1 = 0 := fun z => giff.mp z (Or.inr (Or.inl f1))
          rw [if_neg hz0]
          refine G.iload X27 hx (pc' := 106) (hb hby d6_104) rfl rfl ?_
          refine G.icmpF X27 hx (pc' := 109) (hb hby d6_106) (Jvm.Free.XT.ii_ne_f rfl) rfl ?_
          refine G.iconst X27 hx (pc' := 110) (hb hby d6_109) (z := (1 : Int32)) rfl rfl ?_
          refine G.goto X27 hx (pc' := 114) (hb hby d6_110) (by decide) (by decide) ?_
          have hst := go_.1
          subst hst
          refine Goes.retN X27 hx hret (by simp) hlk (hb hby d6_114) (by decide) (by decide) ⟨rfl, (by rw [e27]; exact K24), (by rw [e27]; exact F24_q_after), (by rw [e27]; exact F24_q_before), (by rw [e27]; exact F24_q_keys), (by rw [e27]; exact F24_q_placeCount), (by rw [e27]; exact F24_q_size), (by rw [e27]; exact F24_q_lowest), (by rw [e27]; exact A24_a), (by rw [e27]; exact A24_b), (by rw [e27]; exact A24_i), ⟨gl, ⟨go_.2.2.2.2.2.1, go_.2.2.2.2.2.2.1, go_.2.2.2.2.2.2.2.1⟩, go_.2.2.1, go_.2.2.2.1, go_.2.2.2.2.2.2.2.2.1, go_.2.2.2.2.2.2.2.2.2⟩⟩
      · refine G.ifT X24 hx (pc' := 97) (hb hby d6_78) (Jvm.Free.XT.i0_ne_t (fun z => f0 ((nat_eq (e := 0) (by omega) (by omega)).mp z))) (by decide) (by decide) ?_
        refine G.iconst X24 hx (pc' := 98) (hb hby d6_97) (z := (0 : Int32)) rfl rfl ?_
        refine G.istore X24 hx (pc' := 100) (hb hby d6_98) (L' := #[.val (.ref q), .val (.ref i), .val (.int p2), .val (.int (Int32.ofNat j)), .val (.int (0 : Int32))]) rfl rfl ?_
        refine G.aloadN X24 hx (pc' := 101) (hb hby d6_100) rfl rfl rfl ?_
        refine G.callV X24 hx hZ (y0 := (⟨"com/example/netlocus/netlocus/BucketQueue", "isEmpty", "()Z"⟩ : MethodName)) (y := (⟨"com/example/netlocus/netlocus/BucketQueue", "isEmpty", "()Z"⟩ : MethodName)) hown (hw _ (List.mem_of_getElem? (i := 27) rfl)) (hw _ (List.mem_of_getElem? (i := 28) rfl)) (notFace_of_selects (args := #[]) (mvT hZ (hw _ (List.mem_of_getElem? (i := 30) rfl)))) (hw _ (List.mem_of_getElem? (i := 30) rfl)) (hw _ (List.mem_of_getElem? (i := 29) rfl)) (hw _ (List.mem_of_getElem? (i := 3) rfl)) (hw _ (List.mem_of_getElem? (i := 31) rfl)) (by decide) e24 (rm := ({ frames := 0, cells := 0, slots := 0, locals := 0 } : Room)) (argsL := []) (S := []) (W := 0) (a := q) E24_q (rm_emp l Z a0 hw q r.2.2.2.1 h24 F24_q_size (by omega)) (lenOf pd_3 rfl) rfl (Nat.le_of_eq rfl) (by decide) (by decide) (by decide) (by decide) (by rw [hml]; rfl) (hb hby d6_101) (pc' := 104) rfl ?_
        rintro T28 _ _ ⟨rfl, e28, rfl⟩ X28
        rw [List.append_nil] at X28
        show Goes p e below T28 (mkF m 104 #[.val (.ref q), .val (.ref i), .val (.int p2), .val (.int (Int32.ofNat j)), .val (.int (0 : Int32))] [(.int (if r.2.2.2.1 = 0 then (1 : Int32) else (0 : Int32)))]) _
        have hz0 : ¬ r.2.2.2.1 = 0 := fun z => giff.mp z (Or.inl f0)
        rw [if_neg hz0]
        refine G.iload X28 hx (pc' := 106) (hb hby d6_104) rfl rfl ?_
        refine G.icmpF X28 hx (pc' := 109) (hb hby d6_106) (Jvm.Free.XT.ii_ne_f rfl) rfl ?_
        refine G.iconst X28 hx (pc' := 110) (hb hby d6_109) (z := (1 : Int32)) rfl rfl ?_
        refine G.goto X28 hx (pc' := 114) (hb hby d6_110) (by decide) (by decide) ?_
        have hst := go_.1
        subst hst
        refine Goes.retN X28 hx hret (by simp) hlk (hb hby d6_114) (by decide) (by decide) ⟨rfl, (by rw [e28]; exact K24), (by rw [e28]; exact F24_q_after), (by rw [e28]; exact F24_q_before), (by rw [e28]; exact F24_q_keys), (by rw [e28]; exact F24_q_placeCount), (by rw [e28]; exact F24_q_size), (by rw [e28]; exact F24_q_lowest), (by rw [e28]; exact A24_a), (by rw [e28]; exact A24_b), (by rw [e28]; exact A24_i), ⟨gl, ⟨go_.2.2.2.2.2.1, go_.2.2.2.2.2.2.1, go_.2.2.2.2.2.2.2.1⟩, go_.2.2.1, go_.2.2.2.1, go_.2.2.2.2.2.2.2.2.1, go_.2.2.2.2.2.2.2.2.2⟩⟩
set_option maxRecDepth 65536 in
set_option maxHeartbeats 40000000 in
theorem rm_rc (l : Launch) (Z : State) (a0 : Array Value) (hw : ∀ d ∈ tables_1, d.before a0 Z = true)  (h0 : Heap)  :
    Con l (⟨"java/util/Arrays", "rangeCheck", "(III)V"⟩ : MethodName) jdk_65_method_30_code 3 none ({ frames := 0, cells := 0, slots := 0, locals := 0 } : Room) Z #[(.int (7 : Int32)), (.int (0 : Int32)), (.int (3 : Int32))] h0 (Pur none h0) := by
  refine Con.of_body (plainFor_of_name pn_6) ?_
  intro p e s m below meth c T0 X0 hx hby hml hZ hown hnm hret hlk e0
  have hown : s.vm.findClass "java/util/Arrays" = some m.cls := hown
  have hml : c.maxLocals = 3 := hml
  refine Goes.cast (ef4_III m (7 : Int32) (0 : Int32) (3 : Int32)) ?_
  refine G.iloadN X0 hx (pc' := 1) (hb hby d4_0) rfl rfl ?_
  refine G.iloadN X0 hx (pc' := 2) (hb hby d4_1) rfl rfl ?_
  refine G.icmpT X0 hx (pc' := 46) (hb hby d4_2) (Jvm.Free.XT.ii_le_t (by decide)) (by decide) (by decide) ?_
  refine G.iloadN X0 hx (pc' := 47) (hb hby d4_46) rfl rfl ?_
  refine G.ifT X0 hx (pc' := 59) (hb hby d4_47) (Jvm.Free.XT.i0_ge_t (by decide)) (by decide) (by decide) ?_
  refine G.iloadN X0 hx (pc' := 60) (hb hby d4_59) rfl rfl ?_
  refine G.iloadN X0 hx (pc' := 61) (hb hby d4_60) rfl rfl ?_
  refine G.icmpT X0 hx (pc' := 73) (hb hby d4_61) (Jvm.Free.XT.ii_le_t (by decide)) (by decide) (by decide) ?_
  refine Goes.retV X0 hx hret hlk (hb hby d4_73) (by decide) (by decide) ⟨rfl, e0, rfl⟩
set_option maxRecDepth 65536 in
set_option maxHeartbeats 40000000 in
theorem rm_fill (l : Launch) (Z : State) (a0 : Array Value) (hw : ∀ d ∈ tables_1, d.before a0 Z = true) (b : Addr) (h0 : Heap) (Ab : Seq Z h0 b .int [(.int (0 : Int32)), (.int (0 : Int32)), (.int (0 : Int32)), (.int (0 : Int32)), (.int (0 : Int32)), (.int (0 : Int32)), (.int (0 : Int32))]) :
    Con l (⟨"java/util/Arrays", "fill", "([IIII)V"⟩ : MethodName) jdk_65_method_104_code 5 none ({ frames := 1, cells := 0, slots := 0, locals := 14 } : Room) Z #[(.ref b), (.int (0 : Int32)), (.int (3 : Int32)), (.int (-1 : Int32))] h0 (fun v h L => v = none ∧ Kp h0 h [b] L ∧ Seq Z h b .int [(.int (-1 : Int32)), (.int (-1 : Int32)), (.int (-1 : Int32)), (.int (0 : Int32)), (.int (0 : Int32)), (.int (0 : Int32)), (.int (0 : Int32))]) := by
  refine Con.of_body (plainFor_of_name pn_6) ?_
  intro p e s m below meth c T0 X0 hx hby hml hZ hown hnm hret hlk e0
  have hown : s.vm.findClass "java/util/Arrays" = some m.cls := hown
  have hml : c.maxLocals = 5 := hml
  refine Goes.cast (ef3_RIII m b (0 : Int32) (3 : Int32) (-1 : Int32)) ?_
  have K0 := Kp.refl h0 [b]
  refine G.aloadN X0 hx (pc' := 1) (hb hby d3_0) rfl rfl rfl ?_
  refine G.arraylength X0 hx hZ e0 Ab (pc' := 2) (hb hby d3_1) (z := (7 : Int32)) rfl rfl ?_
  refine G.iloadN X0 hx (pc' := 3) (hb hby d3_2) rfl rfl ?_
  refine G.iloadN X0 hx (pc' := 4) (hb hby d3_3) rfl rfl ?_
  refine G.callS X0 hx hZ (y := (⟨"java/util/Arrays", "rangeCheck", "(III)V"⟩ : MethodName)) hown (hw _ (List.mem_of_getElem? (i := 23) rfl)) (hw _ (List.mem_of_getElem? (i := 24) rfl)) (hw _ (List.mem_of_getElem? (i := 21) rfl)) (hw _ (List.mem_of_getElem? (i := 25) rfl)) (by decide) e0 (rm := ({ frames := 0, cells := 0, slots := 0, locals := 0 } : Room)) (argsL := [(.int (7 : Int32)), (.int (0 : Int32)), (.int (3 : Int32))]) (S := []) (W := 0) (rm_rc l Z a0 hw h0) (lenOf pd_7 rfl) rfl (Nat.le_of_eq rfl) (by decide) (by decide) (by decide) (by decide) (by rw [hml]; rfl) (hb hby d3_4) (pc' := 7) rfl ?_
  rintro T1 _ _ ⟨rfl, e1, rfl⟩ X1
  rw [List.append_nil] at X1
  show Goes p e below T1 (mkF m 7 #[.val (.ref b), .val (.int (0 : Int32)), .val (.int (3 : Int32)), .val (.int (-1 : Int32)), .unset] []) _
  refine G.iloadN X1 hx (pc' := 8) (hb hby d3_7) rfl rfl ?_
  refine G.istore X1 hx (pc' := 10) (hb hby d3_8) (L' := #[.val (.ref b), .val (.int (0 : Int32)), .val (.int (3 : Int32)), .val (.int (-1 : Int32)), .val (.int (0 : Int32))]) rfl rfl ?_
  refine G.iload X1 hx (pc' := 12) (hb hby d3_10) rfl rfl ?_
  refine G.iloadN X1 hx (pc' := 13) (hb hby d3_12) rfl rfl ?_
  refine G.icmpF X1 hx (pc' := 16) (hb hby d3_13) (Jvm.Free.XT.ii_ge_f (by decide)) rfl ?_
  refine G.aloadN X1 hx (pc' := 17) (hb hby d3_16) rfl rfl rfl ?_
  refine G.iload X1 hx (pc' := 19) (hb hby d3_17) rfl rfl ?_
  refine G.iloadN X1 hx (pc' := 20) (hb hby d3_19) rfl rfl ?_
  refine G.iastore X1 hx hZ e1 Ab (pc' := 21) (hb hby d3_20) (by decide) (Nat.le_of_ble_eq_true rfl) rfl fun T2 h2 X2 e2 W2 A2 => ?_
  have K2 := Kp.wr K0 W2 (Or.inl (List.mem_of_getElem? (i := 0) rfl))
  have A2_b : Seq Z h2 b .int [(.int (-1 : Int32)), (.int (0 : Int32)), (.int (0 : Int32)), (.int (0 : Int32)), (.int (0 : Int32)), (.int (0 : Int32)), (.int (0 : Int32))] := A2
  refine G.iinc X2 hx (pc' := 24) (hb hby d3_21) rfl (L' := #[.val (.ref b), .val (.int (0 : Int32)), .val (.int (3 : Int32)), .val (.int (-1 : Int32)), .val (.int ((0 : Int32) + (1 : Int32)))]) rfl rfl ?_
  refine G.goto X2 hx (pc' := 10) (hb hby d3_24) (by decide) (by decide) ?_
  show Goes p e below T2 (mkF m 10 #[.val (.ref b), .val (.int (0 : Int32)), .val (.int (3 : Int32)), .val (.int (-1 : Int32)), .val (.int (1 : Int32))] []) _
  refine G.iload X2 hx (pc' := 12) (hb hby d3_10) rfl rfl ?_
  refine G.iloadN X2 hx (pc' := 13) (hb hby d3_12) rfl rfl ?_
  refine G.icmpF X2 hx (pc' := 16) (hb hby d3_13) (Jvm.Free.XT.ii_ge_f (by decide)) rfl ?_
  refine G.aloadN X2 hx (pc' := 17) (hb hby d3_16) rfl rfl rfl ?_
  refine G.iload X2 hx (pc' := 19) (hb hby d3_17) rfl rfl ?_
  refine G.iloadN X2 hx (pc' := 20) (hb hby d3_19) rfl rfl ?_
  refine G.iastore X2 hx hZ e2 A2_b (pc' := 21) (hb hby d3_20) (by decide) (Nat.le_of_ble_eq_true rfl) rfl fun T3 h3 X3 e3 W3 A3 => ?_
  have K3 := Kp.wr K2 W3 (Or.inl (List.mem_of_getElem? (i := 0) rfl))
  have A3_b : Seq Z h3 b .int [(.int (-1 : Int32)), (.int (-1 : Int32)), (.int (0 : Int32)), (.int (0 : Int32)), (.int (0 : Int32)), (.int (0 : Int32)), (.int (0 : Int32))] := A3
  refine G.iinc X3 hx (pc' := 24) (hb hby d3_21) rfl (L' := #[.val (.ref b), .val (.int (0 : Int32)), .val (.int (3 : Int32)), .val (.int (-1 : Int32)), .val (.int ((1 : Int32) + (1 : Int32)))]) rfl rfl ?_
  refine G.goto X3 hx (pc' := 10) (hb hby d3_24) (by decide) (by decide) ?_
  show Goes p e below T3 (mkF m 10 #[.val (.ref b), .val (.int (0 : Int32)), .val (.int (3 : Int32)), .val (.int (-1 : Int32)), .val (.int (2 : Int32))] []) _
  refine G.iload X3 hx (pc' := 12) (hb hby d3_10) rfl rfl ?_
  refine G.iloadN X3 hx (pc' := 13) (hb hby d3_12) rfl rfl ?_
  refine G.icmpF X3 hx (pc' := 16) (hb hby d3_13) (Jvm.Free.XT.ii_ge_f (by decide)) rfl ?_
  refine G.aloadN X3 hx (pc' := 17) (hb hby d3_16) rfl rfl rfl ?_
  refine G.iload X3 hx (pc' := 19) (hb hby d3_17) rfl rfl ?_
  refine G.iloadN X3 hx (pc' := 20) (hb hby d3_19) rfl rfl ?_
  refine G.iastore X3 hx hZ e3 A3_b (pc' := 21) (hb hby d3_20) (by decide) (Nat.le_of_ble_eq_true rfl) rfl fun T4 h4 X4 e4 W4 A4 => ?_
  have K4 := Kp.wr K3 W4 (Or.inl (List.mem_of_getElem? (i := 0) rfl))
  have A4_b : Seq Z h4 b .int [(.int (-1 : Int32)), (.int (-1 : Int32)), (.int (-1 : Int32)), (.int (0 : Int32)), (.int (0 : Int32)), (.int (0 : Int32)), (.int (0 : Int32))] := A4
  refine G.iinc X4 hx (pc' := 24) (hb hby d3_21) rfl (L' := #[.val (.ref b), .val (.int (0 : Int32)), .val (.int (3 : Int32)), .val (.int (-1 : Int32)), .val (.int ((2 : Int32) + (1 : Int32)))]) rfl rfl ?_
  refine G.goto X4 hx (pc' := 10) (hb hby d3_24) (by decide) (by decide) ?_
  show Goes p e below T4 (mkF m 10 #[.val (.ref b), .val (.int (0 : Int32)), .val (.int (3 : Int32)), .val (.int (-1 : Int32)), .val (.int (3 : Int32))] []) _
  refine G.iload X4 hx (pc' := 12) (hb hby d3_10) rfl rfl ?_
  refine G.iloadN X4 hx (pc' := 13) (hb hby d3_12) rfl rfl ?_
  refine G.icmpT X4 hx (pc' := 27) (hb hby d3_13) (Jvm.Free.XT.ii_ge_t (by decide)) (by decide) (by decide) ?_
  refine Goes.retV X4 hx hret hlk (hb hby d3_27) (by decide) (by decide) ⟨rfl, (by rw [e4]; exact K4), (by rw [e4]; exact A4_b)⟩
set_option maxRecDepth 65536 in
set_option maxHeartbeats 40000000 in
theorem rm_init (l : Launch) (Z : State) (a0 : Array Value) (hw : ∀ d ∈ tables_1, d.before a0 Z = true) (q k : Addr) (xs : List Value) (h0 : Heap) (EQ : Exa Z h0 q "com/example/netlocus/netlocus/BucketQueue") (Fa : Fld Z h0 q "com/example/netlocus/netlocus/BucketQueue" "after" "[I" .null) (Fb : Fld Z h0 q "com/example/netlocus/netlocus/BucketQueue" "before" "[I" .null) (Fk : Fld Z h0 q "com/example/netlocus/netlocus/BucketQueue" "keys" "[J" .null) (Fp : Fld Z h0 q "com/example/netlocus/netlocus/BucketQueue" "placeCount" "I" (.int (0 : Int32))) (Fs : Fld Z h0 q "com/example/netlocus/netlocus/BucketQueue" "size" "I" (.int (0 : Int32))) (Fl : Fld Z h0 q "com/example/netlocus/netlocus/BucketQueue" "lowest" "I" (.int (0 : Int32))) (Ak : Seq Z h0 k .long xs) (nqk : q ≠ k) (hxl : xs.length = 3) :
    Con l (⟨"com/example/netlocus/netlocus/BucketQueue", "<init>", "([JI)V"⟩ : MethodName) prog_13_method_1_code 4 none ({ frames := 2, cells := 2, slots := 14, locals := 30 } : Room) Z #[(.ref q), (.ref k), (.int (3 : Int32))] h0 (fun v h L => v = none ∧ ∃ a b, Kp h0 h [q] L ∧ Fld Z h q "com/example/netlocus/netlocus/BucketQueue" "after" "[I" (.ref a) ∧ Fld Z h q "com/example/netlocus/netlocus/BucketQueue" "before" "[I" (.ref b) ∧ Fld Z h q "com/example/netlocus/netlocus/BucketQueue" "keys" "[J" (.ref k) ∧ Fld Z h q "com/example/netlocus/netlocus/BucketQueue" "placeCount" "I" (.int (Int32.ofNat 3)) ∧ Fld Z h q "com/example/netlocus/netlocus/BucketQueue" "size" "I" (.int (Int32.ofNat st0.2.2.2.1)) ∧ Fld Z h q "com/example/netlocus/netlocus/BucketQueue" "lowest" "I" (.int (Int32.ofNat st0.2.2.2.2)) ∧ Seq Z h a .int (enc st0.2.1) ∧ Seq Z h b .int (enc st0.2.2.1) ∧ h0.size ≤ a ∧ h0.size ≤ b ∧ a ≠ b) := by
  refine Con.of_body (plainFor_of_name pn_0) ?_
  intro p e s m below meth c T0 X0 hx hby hml hZ hown hnm hret hlk e0
  have hown : s.vm.findClass "com/example/netlocus/netlocus/BucketQueue" = some m.cls := hown
  have hml : c.maxLocals = 4 := hml
  refine Goes.cast (ef1_RRI m q k (3 : Int32)) ?_
  have K0 := Kp.refl h0 [q]
  refine G.aloadN X0 hx (pc' := 1) (hb hby d1_0) rfl rfl rfl ?_
  refine G.initO X0 hx hZ hown (hw _ (List.mem_of_getElem? (i := 7) rfl)) (hw _ (List.mem_of_getElem? (i := 8) rfl)) (hw _ (List.mem_of_getElem? (i := 9) rfl)) e0 (by rw [hml]; rfl) (hb hby d1_1) (by decide) (W := 0) (Nat.le_of_eq rfl) (by decide) (pc' := 4) rfl fun T1 X1 e1 => ?_
  refine G.aloadN X1 hx (pc' := 5) (hb hby d1_4) rfl rfl rfl ?_
  refine G.aloadN X1 hx (pc' := 6) (hb hby d1_5) rfl rfl rfl ?_
  refine G.putF X1 hx hZ hown (hw _ (List.mem_of_getElem? (i := 10) rfl)) Via.refl e1 Fk EQ (Or.inr ⟨(hw _ (List.mem_of_getElem? (i := 11) rfl)), rfl, hnm⟩) (hw _ (List.mem_of_getElem? (i := 2) rfl)) (ty := (.array .long)) (by decide) rfl rfl (pc' := 9) (hb hby d1_6) rfl fun T2 h2 X2 e2 W2 => ?_
  have F2_q_after := Fld.other W2 Fa (Or.inr (slot_ne (Or.inr (hw _ (List.mem_of_getElem? (i := 16) rfl))) (Or.inr (hw _ (List.mem_of_getElem? (i := 11) rfl))) (by decide) (t := (.array .int)) (t' := (.array .long)) (by decide) (by decide)))
  have F2_q_before := Fld.other W2 Fb (Or.inr (slot_ne (Or.inr (hw _ (List.mem_of_getElem? (i := 18) rfl))) (Or.inr (hw _ (List.mem_of_getElem? (i := 11) rfl))) (by decide) (t := (.array .int)) (t' := (.array .long)) (by decide) (by decide)))
  have F2_q_placeCount := Fld.other W2 Fp (Or.inr (slot_ne (Or.inr (hw _ (List.mem_of_getElem? (i := 13) rfl))) (Or.inr (hw _ (List.mem_of_getElem? (i := 11) rfl))) (by decide) (t := .int) (t' := (.array .long)) (by decide) (by decide)))
  have F2_q_size := Fld.other W2 Fs (Or.inr (slot_ne (Or.inl (hw _ (List.mem_of_getElem? (i := 33) rfl))) (Or.inr (hw _ (List.mem_of_getElem? (i := 11) rfl))) (by decide) (t := .int) (t' := (.array .long)) (by decide) (by decide)))
  have F2_q_lowest := Fld.other W2 Fl (Or.inr (slot_ne (Or.inl (hw _ (List.mem_of_getElem? (i := 44) rfl))) (Or.inr (hw _ (List.mem_of_getElem? (i := 11) rfl))) (by decide) (t := .int) (t' := (.array .long)) (by decide) (by decide)))
  have E2_q := Exa.wr W2 EQ
  have A2_k := Seq.other Ak W2 (Ne.symm nqk)
  have K2 := Kp.wr K0 W2 (Or.inl (List.mem_of_getElem? (i := 0) rfl))
  have F2_q_keys := Fld.same W2 Fk
  refine G.aloadN X2 hx (pc' := 10) (hb hby d1_9) rfl rfl rfl ?_
  refine G.aloadN X2 hx (pc' := 11) (hb hby d1_10) rfl rfl rfl ?_
  refine G.arraylength X2 hx hZ e2 A2_k (pc' := 12) (hb hby d1_11) (z := (3 : Int32)) (by rw [hxl]; rfl) rfl ?_
  refine G.putF X2 hx hZ hown (hw _ (List.mem_of_getElem? (i := 12) rfl)) Via.refl e2 F2_q_placeCount E2_q (Or.inr ⟨(hw _ (List.mem_of_getElem? (i := 13) rfl)), rfl, hnm⟩) (hw _ (List.mem_of_getElem? (i := 2) rfl)) (ty := .int) (by decide) rfl rfl (pc' := 15) (hb hby d1_12) rfl fun T3 h3 X3 e3 W3 => ?_
  have F3_q_after := Fld.other W3 F2_q_after (Or.inr (slot_ne (Or.inr (hw _ (List.mem_of_getElem? (i := 16) rfl))) (Or.inr (hw _ (List.mem_of_getElem? (i := 13) rfl))) (by decide) (t := (.array .int)) (t' := .int) (by decide) (by decide)))
  have F3_q_before := Fld.other W3 F2_q_before (Or.inr (slot_ne (Or.inr (hw _ (List.mem_of_getElem? (i := 18) rfl))) (Or.inr (hw _ (List.mem_of_getElem? (i := 13) rfl))) (by decide) (t := (.array .int)) (t' := .int) (by decide) (by decide)))
  have F3_q_keys := Fld.other W3 F2_q_keys (Or.inr (slot_ne (Or.inr (hw _ (List.mem_of_getElem? (i := 11) rfl))) (Or.inr (hw _ (List.mem_of_getElem? (i := 13) rfl))) (by decide) (t := (.array .long)) (t' := .int) (by decide) (by decide)))
  have F3_q_size := Fld.other W3 F2_q_size (Or.inr (slot_ne (Or.inl (hw _ (List.mem_of_getElem? (i := 33) rfl))) (Or.inr (hw _ (List.mem_of_getElem? (i := 13) rfl))) (by decide) (t := .int) (t' := .int) (by decide) (by decide)))
  have F3_q_lowest := Fld.other W3 F2_q_lowest (Or.inr (slot_ne (Or.inl (hw _ (List.mem_of_getElem? (i := 44) rfl))) (Or.inr (hw _ (List.mem_of_getElem? (i := 13) rfl))) (by decide) (t := .int) (t' := .int) (by decide) (by decide)))
  have E3_q := Exa.wr W3 E2_q
  have A3_k := Seq.other A2_k W3 (Ne.symm nqk)
  have K3 := Kp.wr K2 W3 (Or.inl (List.mem_of_getElem? (i := 0) rfl))
  have F3_q_placeCount := Fld.same W3 F2_q_placeCount
  refine G.aloadN X3 hx (pc' := 16) (hb hby d1_15) rfl rfl rfl ?_
  refine G.aloadN X3 hx (pc' := 17) (hb hby d1_16) rfl rfl rfl ?_
  refine G.getF X3 hx hZ hown (hw _ (List.mem_of_getElem? (i := 12) rfl)) Via.refl e3 F3_q_placeCount (pc' := 20) (hb hby d1_17) rfl fun T4 X4 e4 => ?_
  refine G.iloadN X4 hx (pc' := 21) (hb hby d1_20) rfl rfl ?_
  refine G.iadd X4 hx (pc' := 22) (hb hby d1_21) rfl ?_
  refine G.iconst X4 hx (pc' := 23) (hb hby d1_22) (z := (1 : Int32)) rfl rfl ?_
  refine G.iadd X4 hx (pc' := 24) (hb hby d1_23) rfl ?_
  refine G.newP X4 hx hZ (hw _ (List.mem_of_getElem? (i := 14) rfl)) e4 (hb hby d1_24) (by decide) (n := 7) (cap := 7) rfl (by decide) (by decide) (by decide) (by decide) (pc' := 26) rfl fun T5 h5 a g5 X5 e5 Ex5 A5 => ?_
  have ne_k_a : k ≠ a := Nat.ne_of_lt (Nat.lt_of_lt_of_le A3_k.lt (Nat.le_of_eq g5.symm))
  have ne_q_a : q ≠ a := Nat.ne_of_lt (Nat.lt_of_lt_of_le F3_q_after.lt (Nat.le_of_eq g5.symm))
  have sz_a : h0.size ≤ a := Nat.le_trans K3.size (Nat.le_of_eq g5.symm)
  have F5_q_after := Fld.ext  Ex5 F3_q_after
  have F5_q_before := Fld.ext  Ex5 F3_q_before
  have F5_q_keys := Fld.ext  Ex5 F3_q_keys
  have F5_q_placeCount := Fld.ext  Ex5 F3_q_placeCount
  have F5_q_size := Fld.ext  Ex5 F3_q_size
  have F5_q_lowest := Fld.ext  Ex5 F3_q_lowest
  have E5_q := Exa.ext  Ex5 E3_q
  have A5_k := Seq.ext A3_k Ex5
  have K5 := Kp.ext K3 Ex5
  have A5_a : Seq Z h5 a .int [(.int (0 : Int32)), (.int (0 : Int32)), (.int (0 : Int32)), (.int (0 : Int32)), (.int (0 : Int32)), (.int (0 : Int32)), (.int (0 : Int32))] := A5
  refine G.putF X5 hx hZ hown (hw _ (List.mem_of_getElem? (i := 15) rfl)) Via.refl e5 F5_q_after E5_q (Or.inr ⟨(hw _ (List.mem_of_getElem? (i := 16) rfl)), rfl, hnm⟩) (hw _ (List.mem_of_getElem? (i := 2) rfl)) (ty := (.array .int)) (by decide) rfl rfl (pc' := 29) (hb hby d1_26) rfl fun T6 h6 X6 e6 W6 => ?_
  have F6_q_before := Fld.other W6 F5_q_before (Or.inr (slot_ne (Or.inr (hw _ (List.mem_of_getElem? (i := 18) rfl))) (Or.inr (hw _ (List.mem_of_getElem? (i := 16) rfl))) (by decide) (t := (.array .int)) (t' := (.array .int)) (by decide) (by decide)))
  have F6_q_keys := Fld.other W6 F5_q_keys (Or.inr (slot_ne (Or.inr (hw _ (List.mem_of_getElem? (i := 11) rfl))) (Or.inr (hw _ (List.mem_of_getElem? (i := 16) rfl))) (by decide) (t := (.array .long)) (t' := (.array .int)) (by decide) (by decide)))
  have F6_q_placeCount := Fld.other W6 F5_q_placeCount (Or.inr (slot_ne (Or.inr (hw _ (List.mem_of_getElem? (i := 13) rfl))) (Or.inr (hw _ (List.mem_of_getElem? (i := 16) rfl))) (by decide) (t := .int) (t' := (.array .int)) (by decide) (by decide)))
  have F6_q_size := Fld.other W6 F5_q_size (Or.inr (slot_ne (Or.inl (hw _ (List.mem_of_getElem? (i := 33) rfl))) (Or.inr (hw _ (List.mem_of_getElem? (i := 16) rfl))) (by decide) (t := .int) (t' := (.array .int)) (by decide) (by decide)))
  have F6_q_lowest := Fld.other W6 F5_q_lowest (Or.inr (slot_ne (Or.inl (hw _ (List.mem_of_getElem? (i := 44) rfl))) (Or.inr (hw _ (List.mem_of_getElem? (i := 16) rfl))) (by decide) (t := .int) (t' := (.array .int)) (by decide) (by decide)))
  have E6_q := Exa.wr W6 E5_q
  have A6_k := Seq.other A5_k W6 (Ne.symm nqk)
  have A6_a := Seq.other A5_a W6 (Ne.symm ne_q_a)
  have K6 := Kp.wr K5 W6 (Or.inl (List.mem_of_getElem? (i := 0) rfl))
  have F6_q_after := Fld.same W6 F5_q_after
  refine G.aloadN X6 hx (pc' := 30) (hb hby d1_29) rfl rfl rfl ?_
  refine G.aloadN X6 hx (pc' := 31) (hb hby d1_30) rfl rfl rfl ?_
  refine G.getF X6 hx hZ hown (hw _ (List.mem_of_getElem? (i := 15) rfl)) Via.refl e6 F6_q_after (pc' := 34) (hb hby d1_31) rfl fun T7 X7 e7 => ?_
  refine G.arraylength X7 hx hZ e7 A6_a (pc' := 35) (hb hby d1_34) (z := (7 : Int32)) rfl rfl ?_
  refine G.newP X7 hx hZ (hw _ (List.mem_of_getElem? (i := 14) rfl)) e7 (hb hby d1_35) (by decide) (n := 7) (cap := 7) rfl (by decide) (by decide) (by decide) (by decide) (pc' := 37) rfl fun T8 h8 b g8 X8 e8 Ex8 A8 => ?_
  have ne_k_b : k ≠ b := Nat.ne_of_lt (Nat.lt_of_lt_of_le A6_k.lt (Nat.le_of_eq g8.symm))
  have ne_q_b : q ≠ b := Nat.ne_of_lt (Nat.lt_of_lt_of_le F6_q_after.lt (Nat.le_of_eq g8.symm))
  have ne_a_b : a ≠ b := Nat.ne_of_lt (Nat.lt_of_lt_of_le A6_a.lt (Nat.le_of_eq g8.symm))
  have sz_b : h0.size ≤ b := Nat.le_trans K6.size (Nat.le_of_eq g8.symm)
  have F8_q_after := Fld.ext  Ex8 F6_q_after
  have F8_q_before := Fld.ext  Ex8 F6_q_before
  have F8_q_keys := Fld.ext  Ex8 F6_q_keys
  have F8_q_placeCount := Fld.ext  Ex8 F6_q_placeCount
  have F8_q_size := Fld.ext  Ex8 F6_q_size
  have F8_q_lowest := Fld.ext  Ex8 F6_q_lowest
  have E8_q := Exa.ext  Ex8 E6_q
  have A8_k := Seq.ext A6_k Ex8
  have A8_a := Seq.ext A6_a Ex8
  have K8 := Kp.ext K6 Ex8
  have A8_b : Seq Z h8 b .int [(.int (0 : Int32)), (.int (0 : Int32)), (.int (0 : Int32)), (.int (0 : Int32)), (.int (0 : Int32)), (.int (0 : Int32)), (.int (0 : Int32))] := A8
  refine G.putF X8 hx hZ hown (hw _ (List.mem_of_getElem? (i := 17) rfl)) Via.refl e8 F8_q_before E8_q (Or.inr ⟨(hw _ (List.mem_of_getElem? (i := 18) rfl)), rfl, hnm⟩) (hw _ (List.mem_of_getElem? (i := 2) rfl)) (ty := (.array .int)) (by decide) rfl rfl (pc' := 40) (hb hby d1_37) rfl fun T9 h9 X9 e9 W9 => ?_
  have F9_q_after := Fld.other W9 F8_q_after (Or.inr (slot_ne (Or.inr (hw _ (List.mem_of_getElem? (i := 16) rfl))) (Or.inr (hw _ (List.mem_of_getElem? (i := 18) rfl))) (by decide) (t := (.array .int)) (t' := (.array .int)) (by decide) (by decide)))
  have F9_q_keys := Fld.other W9 F8_q_keys (Or.inr (slot_ne (Or.inr (hw _ (List.mem_of_getElem? (i := 11) rfl))) (Or.inr (hw _ (List.mem_of_getElem? (i := 18) rfl))) (by decide) (t := (.array .long)) (t' := (.array .int)) (by decide) (by decide)))
  have F9_q_placeCount := Fld.other W9 F8_q_placeCount (Or.inr (slot_ne (Or.inr (hw _ (List.mem_of_getElem? (i := 13) rfl))) (Or.inr (hw _ (List.mem_of_getElem? (i := 18) rfl))) (by decide) (t := .int) (t' := (.array .int)) (by decide) (by decide)))
  have F9_q_size := Fld.other W9 F8_q_size (Or.inr (slot_ne (Or.inl (hw _ (List.mem_of_getElem? (i := 33) rfl))) (Or.inr (hw _ (List.mem_of_getElem? (i := 18) rfl))) (by decide) (t := .int) (t' := (.array .int)) (by decide) (by decide)))
  have F9_q_lowest := Fld.other W9 F8_q_lowest (Or.inr (slot_ne (Or.inl (hw _ (List.mem_of_getElem? (i := 44) rfl))) (Or.inr (hw _ (List.mem_of_getElem? (i := 18) rfl))) (by decide) (t := .int) (t' := (.array .int)) (by decide) (by decide)))
  have E9_q := Exa.wr W9 E8_q
  have A9_k := Seq.other A8_k W9 (Ne.symm nqk)
  have A9_a := Seq.other A8_a W9 (Ne.symm ne_q_a)
  have A9_b := Seq.other A8_b W9 (Ne.symm ne_q_b)
  have K9 := Kp.wr K8 W9 (Or.inl (List.mem_of_getElem? (i := 0) rfl))
  have F9_q_before := Fld.same W9 F8_q_before
  refine G.aloadN X9 hx (pc' := 41) (hb hby d1_40) rfl rfl rfl ?_
  refine G.getF X9 hx hZ hown (hw _ (List.mem_of_getElem? (i := 17) rfl)) Via.refl e9 F9_q_before (pc' := 44) (hb hby d1_41) rfl fun T10 X10 e10 => ?_
  refine G.iconst X10 hx (pc' := 45) (hb hby d1_44) (z := (0 : Int32)) rfl rfl ?_
  refine G.aloadN X10 hx (pc' := 46) (hb hby d1_45) rfl rfl rfl ?_
  refine G.getF X10 hx hZ hown (hw _ (List.mem_of_getElem? (i := 12) rfl)) Via.refl e10 F9_q_placeCount (pc' := 49) (hb hby d1_46) rfl fun T11 X11 e11 => ?_
  refine G.iconst X11 hx (pc' := 50) (hb hby d1_49) (z := (-1 : Int32)) rfl rfl ?_
  refine G.callS X11 hx hZ (y := (⟨"java/util/Arrays", "fill", "([IIII)V"⟩ : MethodName)) hown (hw _ (List.mem_of_getElem? (i := 19) rfl)) (hw _ (List.mem_of_getElem? (i := 20) rfl)) (hw _ (List.mem_of_getElem? (i := 21) rfl)) (hw _ (List.mem_of_getElem? (i := 22) rfl)) (by decide) e11 (rm := ({ frames := 1, cells := 0, slots := 0, locals := 14 } : Room)) (argsL := [(.ref b), (.int (0 : Int32)), (.int (3 : Int32)), (.int (-1 : Int32))]) (S := []) (W := 0) (rm_fill l Z a0 hw b h9 A9_b) (lenOf pd_8 rfl) rfl (Nat.le_of_eq rfl) (by decide) (by decide) (by decide) (by decide) (by rw [hml]; rfl) (hb hby d1_50) (pc' := 53) rfl ?_
  rintro T12 _ L12 ⟨rfl, Kq12, Ab12⟩ X12
  have F12_q_after := Fld.keep F9_q_after Kq12.1 (ninS ne_q_b nin0)
  have F12_q_before := Fld.keep F9_q_before Kq12.1 (ninS ne_q_b nin0)
  have F12_q_keys := Fld.keep F9_q_keys Kq12.1 (ninS ne_q_b nin0)
  have F12_q_placeCount := Fld.keep F9_q_placeCount Kq12.1 (ninS ne_q_b nin0)
  have F12_q_size := Fld.keep F9_q_size Kq12.1 (ninS ne_q_b nin0)
  have F12_q_lowest := Fld.keep F9_q_lowest Kq12.1 (ninS ne_q_b nin0)
  have E12_q := Exa.keep E9_q Kq12.1
  have A12_k := Seq.keep A9_k Kq12.1 (ninS ne_k_b nin0)
  have A12_a := Seq.keep A9_a Kq12.1 (ninS ne_a_b nin0)
  have K12 := Kp.call K9 Kq12 (allS (Or.inr sz_b) all0)
  show Goes p e below T12 (mkF m 53 #[.val (.ref q), .val (.ref k), .val (.int (3 : Int32)), .unset] []) _
  refine G.aloadN X12 hx (pc' := 54) (hb hby d1_53) rfl rfl rfl ?_
  refine G.getF X12 hx hZ hown (hw _ (List.mem_of_getElem? (i := 12) rfl)) Via.refl rfl F12_q_placeCount (pc' := 57) (hb hby d1_54) rfl fun T13 X13 e13 => ?_
  refine G.istoreN X13 hx (pc' := 58) (hb hby d1_57) (L' := #[.val (.ref q), .val (.ref k), .val (.int (3 : Int32)), .val (.int (3 : Int32))]) rfl rfl ?_
  refine G.iloadN X13 hx (pc' := 59) (hb hby d1_58) rfl rfl ?_
  refine G.aloadN X13 hx (pc' := 60) (hb hby d1_59) rfl rfl rfl ?_
  refine G.getF X13 hx hZ hown (hw _ (List.mem_of_getElem? (i := 15) rfl)) Via.refl e13 F12_q_after (pc' := 63) (hb hby d1_60) rfl fun T14 X14 e14 => ?_
  refine G.arraylength X14 hx hZ e14 A12_a (pc' := 64) (hb hby d1_63) (z := (7 : Int32)) rfl rfl ?_
  refine G.icmpF X14 hx (pc' := 67) (hb hby d1_64) (Jvm.Free.XT.ii_ge_f (by decide)) rfl ?_
  refine G.aloadN X14 hx (pc' := 68) (hb hby d1_67) rfl rfl rfl ?_
  refine G.getF X14 hx hZ hown (hw _ (List.mem_of_getElem? (i := 15) rfl)) Via.refl e14 F12_q_after (pc' := 71) (hb hby d1_68) rfl fun T15 X15 e15 => ?_
  refine G.iloadN X15 hx (pc' := 72) (hb hby d1_71) rfl rfl ?_
  refine G.iloadN X15 hx (pc' := 73) (hb hby d1_72) rfl rfl ?_
  refine G.iastore X15 hx hZ e15 A12_a (pc' := 74) (hb hby d1_73) (by decide) (Nat.le_of_ble_eq_true rfl) rfl fun T16 h16 X16 e16 W16 A16 => ?_
  have F16_q_after := Fld.other W16 F12_q_after (Or.inl ne_q_a)
  have F16_q_before := Fld.other W16 F12_q_before (Or.inl ne_q_a)
  have F16_q_keys := Fld.other W16 F12_q_keys (Or.inl ne_q_a)
  have F16_q_placeCount := Fld.other W16 F12_q_placeCount (Or.inl ne_q_a)
  have F16_q_size := Fld.other W16 F12_q_size (Or.inl ne_q_a)
  have F16_q_lowest := Fld.other W16 F12_q_lowest (Or.inl ne_q_a)
  have E16_q := Exa.wr W16 E12_q
  have A16_k := Seq.other A12_k W16 ne_k_a
  have A16_b := Seq.other Ab12 W16 (Ne.symm ne_a_b)
  have K16 := Kp.wr K12 W16 (Or.inr sz_a)
  have A16_a : Seq Z h16 a .int [(.int (0 : Int32)), (.int (0 : Int32)), (.int (0 : Int32)), (.int (3 : Int32)), (.int (0 : Int32)), (.int (0 : Int32)), (.int (0 : Int32))] := A16
  refine G.aloadN X16 hx (pc' := 75) (hb hby d1_74) rfl rfl rfl ?_
  refine G.getF X16 hx hZ hown (hw _ (List.mem_of_getElem? (i := 17) rfl)) Via.refl e16 F16_q_before (pc' := 78) (hb hby d1_75) rfl fun T17 X17 e17 => ?_
  refine G.iloadN X17 hx (pc' := 79) (hb hby d1_78) rfl rfl ?_
  refine G.iloadN X17 hx (pc' := 80) (hb hby d1_79) rfl rfl ?_
  refine G.iastore X17 hx hZ e17 A16_b (pc' := 81) (hb hby d1_80) (by decide) (Nat.le_of_ble_eq_true rfl) rfl fun T18 h18 X18 e18 W18 A18 => ?_
  have F18_q_after := Fld.other W18 F16_q_after (Or.inl ne_q_b)
  have F18_q_before := Fld.other W18 F16_q_before (Or.inl ne_q_b)
  have F18_q_keys := Fld.other W18 F16_q_keys (Or.inl ne_q_b)
  have F18_q_placeCount := Fld.other W18 F16_q_placeCount (Or.inl ne_q_b)
  have F18_q_size := Fld.other W18 F16_q_size (Or.inl ne_q_b)
  have F18_q_lowest := Fld.other W18 F16_q_lowest (Or.inl ne_q_b)
  have E18_q := Exa.wr W18 E16_q
  have A18_k := Seq.other A16_k W18 ne_k_b
  have A18_a := Seq.other A16_a W18 ne_a_b
  have K18 := Kp.wr K16 W18 (Or.inr sz_b)
  have A18_b : Seq Z h18 b .int [(.int (-1 : Int32)), (.int (-1 : Int32)), (.int (-1 : Int32)), (.int (3 : Int32)), (.int (0 : Int32)), (.int (0 : Int32)), (.int (0 : Int32))] := A18
  refine G.iinc X18 hx (pc' := 84) (hb hby d1_81) rfl (L' := #[.val (.ref q), .val (.ref k), .val (.int (3 : Int32)), .val (.int ((3 : Int32) + (1 : Int32)))]) rfl rfl ?_
  refine G.goto X18 hx (pc' := 58) (hb hby d1_84) (by decide) (by decide) ?_
  show Goes p e below T18 (mkF m 58 #[.val (.ref q), .val (.ref k), .val (.int (3 : Int32)), .val (.int (4 : Int32))] []) _
  refine G.iloadN X18 hx (pc' := 59) (hb hby d1_58) rfl rfl ?_
  refine G.aloadN X18 hx (pc' := 60) (hb hby d1_59) rfl rfl rfl ?_
  refine G.getF X18 hx hZ hown (hw _ (List.mem_of_getElem? (i := 15) rfl)) Via.refl e18 F18_q_after (pc' := 63) (hb hby d1_60) rfl fun T19 X19 e19 => ?_
  refine G.arraylength X19 hx hZ e19 A18_a (pc' := 64) (hb hby d1_63) (z := (7 : Int32)) rfl rfl ?_
  refine G.icmpF X19 hx (pc' := 67) (hb hby d1_64) (Jvm.Free.XT.ii_ge_f (by decide)) rfl ?_
  refine G.aloadN X19 hx (pc' := 68) (hb hby d1_67) rfl rfl rfl ?_
  refine G.getF X19 hx hZ hown (hw _ (List.mem_of_getElem? (i := 15) rfl)) Via.refl e19 F18_q_after (pc' := 71) (hb hby d1_68) rfl fun T20 X20 e20 => ?_
  refine G.iloadN X20 hx (pc' := 72) (hb hby d1_71) rfl rfl ?_
  refine G.iloadN X20 hx (pc' := 73) (hb hby d1_72) rfl rfl ?_
  refine G.iastore X20 hx hZ e20 A18_a (pc' := 74) (hb hby d1_73) (by decide) (Nat.le_of_ble_eq_true rfl) rfl fun T21 h21 X21 e21 W21 A21 => ?_
  have F21_q_after := Fld.other W21 F18_q_after (Or.inl ne_q_a)
  have F21_q_before := Fld.other W21 F18_q_before (Or.inl ne_q_a)
  have F21_q_keys := Fld.other W21 F18_q_keys (Or.inl ne_q_a)
  have F21_q_placeCount := Fld.other W21 F18_q_placeCount (Or.inl ne_q_a)
  have F21_q_size := Fld.other W21 F18_q_size (Or.inl ne_q_a)
  have F21_q_lowest := Fld.other W21 F18_q_lowest (Or.inl ne_q_a)
  have E21_q := Exa.wr W21 E18_q
  have A21_k := Seq.other A18_k W21 ne_k_a
  have A21_b := Seq.other A18_b W21 (Ne.symm ne_a_b)
  have K21 := Kp.wr K18 W21 (Or.inr sz_a)
  have A21_a : Seq Z h21 a .int [(.int (0 : Int32)), (.int (0 : Int32)), (.int (0 : Int32)), (.int (3 : Int32)), (.int (4 : Int32)), (.int (0 : Int32)), (.int (0 : Int32))] := A21
  refine G.aloadN X21 hx (pc' := 75) (hb hby d1_74) rfl rfl rfl ?_
  refine G.getF X21 hx hZ hown (hw _ (List.mem_of_getElem? (i := 17) rfl)) Via.refl e21 F21_q_before (pc' := 78) (hb hby d1_75) rfl fun T22 X22 e22 => ?_
  refine G.iloadN X22 hx (pc' := 79) (hb hby d1_78) rfl rfl ?_
  refine G.iloadN X22 hx (pc' := 80) (hb hby d1_79) rfl rfl ?_
  refine G.iastore X22 hx hZ e22 A21_b (pc' := 81) (hb hby d1_80) (by decide) (Nat.le_of_ble_eq_true rfl) rfl fun T23 h23 X23 e23 W23 A23 => ?_
  have F23_q_after := Fld.other W23 F21_q_after (Or.inl ne_q_b)
  have F23_q_before := Fld.other W23 F21_q_before (Or.inl ne_q_b)
  have F23_q_keys := Fld.other W23 F21_q_keys (Or.inl ne_q_b)
  have F23_q_placeCount := Fld.other W23 F21_q_placeCount (Or.inl ne_q_b)
  have F23_q_size := Fld.other W23 F21_q_size (Or.inl ne_q_b)
  have F23_q_lowest := Fld.other W23 F21_q_lowest (Or.inl ne_q_b)
  have E23_q := Exa.wr W23 E21_q
  have A23_k := Seq.other A21_k W23 ne_k_b
  have A23_a := Seq.other A21_a W23 ne_a_b
  have K23 := Kp.wr K21 W23 (Or.inr sz_b)
  have A23_b : Seq Z h23 b .int [(.int (-1 : Int32)), (.int (-1 : Int32)), (.int (-1 : Int32)), (.int (3 : Int32)), (.int (4 : Int32)), (.int (0 : Int32)), (.int (0 : Int32))] := A23
  refine G.iinc X23 hx (pc' := 84) (hb hby d1_81) rfl (L' := #[.val (.ref q), .val (.ref k), .val (.int (3 : Int32)), .val (.int ((4 : Int32) + (1 : Int32)))]) rfl rfl ?_
  refine G.goto X23 hx (pc' := 58) (hb hby d1_84) (by decide) (by decide) ?_
  show Goes p e below T23 (mkF m 58 #[.val (.ref q), .val (.ref k), .val (.int (3 : Int32)), .val (.int (5 : Int32))] []) _
  refine G.iloadN X23 hx (pc' := 59) (hb hby d1_58) rfl rfl ?_
  refine G.aloadN X23 hx (pc' := 60) (hb hby d1_59) rfl rfl rfl ?_
  refine G.getF X23 hx hZ hown (hw _ (List.mem_of_getElem? (i := 15) rfl)) Via.refl e23 F23_q_after (pc' := 63) (hb hby d1_60) rfl fun T24 X24 e24 => ?_
  refine G.arraylength X24 hx hZ e24 A23_a (pc' := 64) (hb hby d1_63) (z := (7 : Int32)) rfl rfl ?_
  refine G.icmpF X24 hx (pc' := 67) (hb hby d1_64) (Jvm.Free.XT.ii_ge_f (by decide)) rfl ?_
  refine G.aloadN X24 hx (pc' := 68) (hb hby d1_67) rfl rfl rfl ?_
  refine G.getF X24 hx hZ hown (hw _ (List.mem_of_getElem? (i := 15) rfl)) Via.refl e24 F23_q_after (pc' := 71) (hb hby d1_68) rfl fun T25 X25 e25 => ?_
  refine G.iloadN X25 hx (pc' := 72) (hb hby d1_71) rfl rfl ?_
  refine G.iloadN X25 hx (pc' := 73) (hb hby d1_72) rfl rfl ?_
  refine G.iastore X25 hx hZ e25 A23_a (pc' := 74) (hb hby d1_73) (by decide) (Nat.le_of_ble_eq_true rfl) rfl fun T26 h26 X26 e26 W26 A26 => ?_
  have F26_q_after := Fld.other W26 F23_q_after (Or.inl ne_q_a)
  have F26_q_before := Fld.other W26 F23_q_before (Or.inl ne_q_a)
  have F26_q_keys := Fld.other W26 F23_q_keys (Or.inl ne_q_a)
  have F26_q_placeCount := Fld.other W26 F23_q_placeCount (Or.inl ne_q_a)
  have F26_q_size := Fld.other W26 F23_q_size (Or.inl ne_q_a)
  have F26_q_lowest := Fld.other W26 F23_q_lowest (Or.inl ne_q_a)
  have E26_q := Exa.wr W26 E23_q
  have A26_k := Seq.other A23_k W26 ne_k_a
  have A26_b := Seq.other A23_b W26 (Ne.symm ne_a_b)
  have K26 := Kp.wr K23 W26 (Or.inr sz_a)
  have A26_a : Seq Z h26 a .int [(.int (0 : Int32)), (.int (0 : Int32)), (.int (0 : Int32)), (.int (3 : Int32)), (.int (4 : Int32)), (.int (5 : Int32)), (.int (0 : Int32))] := A26
  refine G.aloadN X26 hx (pc' := 75) (hb hby d1_74) rfl rfl rfl ?_
  refine G.getF X26 hx hZ hown (hw _ (List.mem_of_getElem? (i := 17) rfl)) Via.refl e26 F26_q_before (pc' := 78) (hb hby d1_75) rfl fun T27 X27 e27 => ?_
  refine G.iloadN X27 hx (pc' := 79) (hb hby d1_78) rfl rfl ?_
  refine G.iloadN X27 hx (pc' := 80) (hb hby d1_79) rfl rfl ?_
  refine G.iastore X27 hx hZ e27 A26_b (pc' := 81) (hb hby d1_80) (by decide) (Nat.le_of_ble_eq_true rfl) rfl fun T28 h28 X28 e28 W28 A28 => ?_
  have F28_q_after := Fld.other W28 F26_q_after (Or.inl ne_q_b)
  have F28_q_before := Fld.other W28 F26_q_before (Or.inl ne_q_b)
  have F28_q_keys := Fld.other W28 F26_q_keys (Or.inl ne_q_b)
  have F28_q_placeCount := Fld.other W28 F26_q_placeCount (Or.inl ne_q_b)
  have F28_q_size := Fld.other W28 F26_q_size (Or.inl ne_q_b)
  have F28_q_lowest := Fld.other W28 F26_q_lowest (Or.inl ne_q_b)
  have E28_q := Exa.wr W28 E26_q
  have A28_k := Seq.other A26_k W28 ne_k_b
  have A28_a := Seq.other A26_a W28 ne_a_b
  have K28 := Kp.wr K26 W28 (Or.inr sz_b)
  have A28_b : Seq Z h28 b .int [(.int (-1 : Int32)), (.int (-1 : Int32)), (.int (-1 : Int32)), (.int (3 : Int32)), (.int (4 : Int32)), (.int (5 : Int32)), (.int (0 : Int32))] := A28
  refine G.iinc X28 hx (pc' := 84) (hb hby d1_81) rfl (L' := #[.val (.ref q), .val (.ref k), .val (.int (3 : Int32)), .val (.int ((5 : Int32) + (1 : Int32)))]) rfl rfl ?_
  refine G.goto X28 hx (pc' := 58) (hb hby d1_84) (by decide) (by decide) ?_
  show Goes p e below T28 (mkF m 58 #[.val (.ref q), .val (.ref k), .val (.int (3 : Int32)), .val (.int (6 : Int32))] []) _
  refine G.iloadN X28 hx (pc' := 59) (hb hby d1_58) rfl rfl ?_
  refine G.aloadN X28 hx (pc' := 60) (hb hby d1_59) rfl rfl rfl ?_
  refine G.getF X28 hx hZ hown (hw _ (List.mem_of_getElem? (i := 15) rfl)) Via.refl e28 F28_q_after (pc' := 63) (hb hby d1_60) rfl fun T29 X29 e29 => ?_
  refine G.arraylength X29 hx hZ e29 A28_a (pc' := 64) (hb hby d1_63) (z := (7 : Int32)) rfl rfl ?_
  refine G.icmpF X29 hx (pc' := 67) (hb hby d1_64) (Jvm.Free.XT.ii_ge_f (by decide)) rfl ?_
  refine G.aloadN X29 hx (pc' := 68) (hb hby d1_67) rfl rfl rfl ?_
  refine G.getF X29 hx hZ hown (hw _ (List.mem_of_getElem? (i := 15) rfl)) Via.refl e29 F28_q_after (pc' := 71) (hb hby d1_68) rfl fun T30 X30 e30 => ?_
  refine G.iloadN X30 hx (pc' := 72) (hb hby d1_71) rfl rfl ?_
  refine G.iloadN X30 hx (pc' := 73) (hb hby d1_72) rfl rfl ?_
  refine G.iastore X30 hx hZ e30 A28_a (pc' := 74) (hb hby d1_73) (by decide) (Nat.le_of_ble_eq_true rfl) rfl fun T31 h31 X31 e31 W31 A31 => ?_
  have F31_q_after := Fld.other W31 F28_q_after (Or.inl ne_q_a)
  have F31_q_before := Fld.other W31 F28_q_before (Or.inl ne_q_a)
  have F31_q_keys := Fld.other W31 F28_q_keys (Or.inl ne_q_a)
  have F31_q_placeCount := Fld.other W31 F28_q_placeCount (Or.inl ne_q_a)
  have F31_q_size := Fld.other W31 F28_q_size (Or.inl ne_q_a)
  have F31_q_lowest := Fld.other W31 F28_q_lowest (Or.inl ne_q_a)
  have E31_q := Exa.wr W31 E28_q
  have A31_k := Seq.other A28_k W31 ne_k_a
  have A31_b := Seq.other A28_b W31 (Ne.symm ne_a_b)
  have K31 := Kp.wr K28 W31 (Or.inr sz_a)
  have A31_a : Seq Z h31 a .int [(.int (0 : Int32)), (.int (0 : Int32)), (.int (0 : Int32)), (.int (3 : Int32)), (.int (4 : Int32)), (.int (5 : Int32)), (.int (6 : Int32))] := A31
  refine G.aloadN X31 hx (pc' := 75) (hb hby d1_74) rfl rfl rfl ?_
  refine G.getF X31 hx hZ hown (hw _ (List.mem_of_getElem? (i := 17) rfl)) Via.refl e31 F31_q_before (pc' := 78) (hb hby d1_75) rfl fun T32 X32 e32 => ?_
  refine G.iloadN X32 hx (pc' := 79) (hb hby d1_78) rfl rfl ?_
  refine G.iloadN X32 hx (pc' := 80) (hb hby d1_79) rfl rfl ?_
  refine G.iastore X32 hx hZ e32 A31_b (pc' := 81) (hb hby d1_80) (by decide) (Nat.le_of_ble_eq_true rfl) rfl fun T33 h33 X33 e33 W33 A33 => ?_
  have F33_q_after := Fld.other W33 F31_q_after (Or.inl ne_q_b)
  have F33_q_before := Fld.other W33 F31_q_before (Or.inl ne_q_b)
  have F33_q_keys := Fld.other W33 F31_q_keys (Or.inl ne_q_b)
  have F33_q_placeCount := Fld.other W33 F31_q_placeCount (Or.inl ne_q_b)
  have F33_q_size := Fld.other W33 F31_q_size (Or.inl ne_q_b)
  have F33_q_lowest := Fld.other W33 F31_q_lowest (Or.inl ne_q_b)
  have E33_q := Exa.wr W33 E31_q
  have A33_k := Seq.other A31_k W33 ne_k_b
  have A33_a := Seq.other A31_a W33 ne_a_b
  have K33 := Kp.wr K31 W33 (Or.inr sz_b)
  have A33_b : Seq Z h33 b .int [(.int (-1 : Int32)), (.int (-1 : Int32)), (.int (-1 : Int32)), (.int (3 : Int32)), (.int (4 : Int32)), (.int (5 : Int32)), (.int (6 : Int32))] := A33
  refine G.iinc X33 hx (pc' := 84) (hb hby d1_81) rfl (L' := #[.val (.ref q), .val (.ref k), .val (.int (3 : Int32)), .val (.int ((6 : Int32) + (1 : Int32)))]) rfl rfl ?_
  refine G.goto X33 hx (pc' := 58) (hb hby d1_84) (by decide) (by decide) ?_
  show Goes p e below T33 (mkF m 58 #[.val (.ref q), .val (.ref k), .val (.int (3 : Int32)), .val (.int (7 : Int32))] []) _
  refine G.iloadN X33 hx (pc' := 59) (hb hby d1_58) rfl rfl ?_
  refine G.aloadN X33 hx (pc' := 60) (hb hby d1_59) rfl rfl rfl ?_
  refine G.getF X33 hx hZ hown (hw _ (List.mem_of_getElem? (i := 15) rfl)) Via.refl e33 F33_q_after (pc' := 63) (hb hby d1_60) rfl fun T34 X34 e34 => ?_
  refine G.arraylength X34 hx hZ e34 A33_a (pc' := 64) (hb hby d1_63) (z := (7 : Int32)) rfl rfl ?_
  refine G.icmpT X34 hx (pc' := 87) (hb hby d1_64) (Jvm.Free.XT.ii_ge_t (by decide)) (by decide) (by decide) ?_
  refine Goes.retV X34 hx hret hlk (hb hby d1_87) (by decide) (by decide) ⟨rfl, a, b, (by rw [e34]; exact K33), (by rw [e34]; exact F33_q_after), (by rw [e34]; exact F33_q_before), (by rw [e34]; exact F33_q_keys), (by rw [e34]; exact F33_q_placeCount), (by rw [e34]; exact F33_q_size), (by rw [e34]; exact F33_q_lowest), (by rw [e34]; exact A33_a), (by rw [e34]; exact A33_b), sz_a, sz_b, ne_a_b⟩
set_option maxRecDepth 65536 in
set_option maxHeartbeats 40000000 in
theorem rm0 (l : Launch) (Z : State) (a0 : Array Value) (hw : ∀ d ∈ tables_1, d.before a0 Z = true) (p0 p1 : Int32) (h0 : Heap)  :
    Con l x code maxLocals ret room_1 Z #[(.int p0), (.int p1)] h0 (fun v _ L => v = some (.int 1) ∧ Fr h0.size L) := by
  refine Con.of_body (plainFor_of_name pn_5) ?_
  intro p e s m below meth c T0 X0 hx hby hml hZ hown hnm hret hlk e0
  have hown : s.vm.findClass "com/example/netlocus/netlocus/BucketQueueIsEmptyPinLaw" = some m.cls := hown
  have hml : c.maxLocals = 6 := hml
  refine Goes.cast (ef0_II m p0 p1) ?_
  have K0 := Kp.refl h0 []
  refine G.iconst X0 hx (pc' := 1) (hb hby at_0) (z := (3 : Int32)) rfl rfl ?_
  refine G.newP X0 hx hZ (hw _ (List.mem_of_getElem? (i := 0) rfl)) e0 (hb hby at_1) (by decide) (n := 3) (cap := 3) rfl (by decide) (by decide) (by decide) (by decide) (pc' := 3) rfl fun T1 h1 k g1 X1 e1 Ex1 A1 => ?_
  have sz_k : h0.size ≤ k := Nat.le_trans K0.size (Nat.le_of_eq g1.symm)
  have K1 := Kp.ext K0 Ex1
  have A1_k : Seq Z h1 k .long [(.long (0 : Int64)), (.long (0 : Int64)), (.long (0 : Int64))] := A1
  refine G.astoreN X1 hx (pc' := 4) (hb hby at_3) rfl (L' := #[.val (.int p0), .val (.int p1), .val (.ref k), .unset, .unset, .unset]) rfl rfl ?_
  refine G.aloadN X1 hx (pc' := 5) (hb hby at_4) rfl rfl rfl ?_
  refine G.iconst X1 hx (pc' := 6) (hb hby at_5) (z := (0 : Int32)) rfl rfl ?_
  refine G.iloadN X1 hx (pc' := 7) (hb hby at_6) rfl rfl ?_
  refine G.iconst X1 hx (pc' := 8) (hb hby at_7) (z := (3 : Int32)) rfl rfl ?_
  refine G.iand X1 hx (pc' := 9) (hb hby at_8) rfl ?_
  refine G.i2l X1 hx (pc' := 10) (hb hby at_9) rfl ?_
  obtain ⟨ka, hka, eka⟩ := own_key p0
  rw [eka]
  refine G.lastore X1 hx hZ e1 A1_k (pc' := 11) (hb hby at_10) (by decide) (Nat.le_of_ble_eq_true rfl) rfl fun T2 h2 X2 e2 W2 A2 => ?_
  have K2 := Kp.wr K1 W2 (Or.inr sz_k)
  have A2_k : Seq Z h2 k .long [(.long (Int64.ofNat ka)), (.long (0 : Int64)), (.long (0 : Int64))] := A2
  refine G.aloadN X2 hx (pc' := 12) (hb hby at_11) rfl rfl rfl ?_
  refine G.iconst X2 hx (pc' := 13) (hb hby at_12) (z := (1 : Int32)) rfl rfl ?_
  refine G.iloadN X2 hx (pc' := 14) (hb hby at_13) rfl rfl ?_
  refine G.iconst X2 hx (pc' := 15) (hb hby at_14) (z := (2 : Int32)) rfl rfl ?_
  refine G.ishr X2 hx (pc' := 16) (hb hby at_15) rfl ?_
  refine G.iconst X2 hx (pc' := 17) (hb hby at_16) (z := (3 : Int32)) rfl rfl ?_
  refine G.iand X2 hx (pc' := 18) (hb hby at_17) rfl ?_
  refine G.i2l X2 hx (pc' := 19) (hb hby at_18) rfl ?_
  obtain ⟨kb, hkb, ekb⟩ := own_key (p0 >>> ((2 : Int32) &&& 31))
  rw [ekb]
  refine G.lastore X2 hx hZ e2 A2_k (pc' := 20) (hb hby at_19) (by decide) (Nat.le_of_ble_eq_true rfl) rfl fun T3 h3 X3 e3 W3 A3 => ?_
  have K3 := Kp.wr K2 W3 (Or.inr sz_k)
  have A3_k : Seq Z h3 k .long [(.long (Int64.ofNat ka)), (.long (Int64.ofNat kb)), (.long (0 : Int64))] := A3
  refine G.aloadN X3 hx (pc' := 21) (hb hby at_20) rfl rfl rfl ?_
  refine G.iconst X3 hx (pc' := 22) (hb hby at_21) (z := (2 : Int32)) rfl rfl ?_
  refine G.iloadN X3 hx (pc' := 23) (hb hby at_22) rfl rfl ?_
  refine G.iconst X3 hx (pc' := 24) (hb hby at_23) (z := (4 : Int32)) rfl rfl ?_
  refine G.ishr X3 hx (pc' := 25) (hb hby at_24) rfl ?_
  refine G.iconst X3 hx (pc' := 26) (hb hby at_25) (z := (3 : Int32)) rfl rfl ?_
  refine G.iand X3 hx (pc' := 27) (hb hby at_26) rfl ?_
  refine G.i2l X3 hx (pc' := 28) (hb hby at_27) rfl ?_
  obtain ⟨kc, hkc, ekc⟩ := own_key (p0 >>> ((4 : Int32) &&& 31))
  rw [ekc]
  refine G.lastore X3 hx hZ e3 A3_k (pc' := 29) (hb hby at_28) (by decide) (Nat.le_of_ble_eq_true rfl) rfl fun T4 h4 X4 e4 W4 A4 => ?_
  have K4 := Kp.wr K3 W4 (Or.inr sz_k)
  have A4_k : Seq Z h4 k .long [(.long (Int64.ofNat ka)), (.long (Int64.ofNat kb)), (.long (Int64.ofNat kc))] := A4
  refine G.newO X4 hx hZ hown (hw _ (List.mem_of_getElem? (i := 1) rfl)) (hw _ (List.mem_of_getElem? (i := 2) rfl)) (hw _ (List.mem_of_getElem? (i := 3) rfl)) e4 (hb hby at_29) (by decide) (by decide) (pc' := 32) rfl fun T5 h5 q g5 X5 e5 Ex5 Ea5 D5 => ?_
  have ne_k_q : k ≠ q := Nat.ne_of_lt (Nat.lt_of_lt_of_le A4_k.lt (Nat.le_of_eq g5.symm))
  have sz_q : h0.size ≤ q := Nat.le_trans K4.size (Nat.le_of_eq g5.symm)
  have A5_k := Seq.ext A4_k Ex5
  have K5 := Kp.ext K4 Ex5
  have F5_q_keys : Fld Z h5 q "com/example/netlocus/netlocus/BucketQueue" "keys" "[J" .null := D5 (Or.inr (hw _ (List.mem_of_getElem? (i := 11) rfl))) (ty := (.array .long)) (by decide)
  have F5_q_placeCount : Fld Z h5 q "com/example/netlocus/netlocus/BucketQueue" "placeCount" "I" (.int (0 : Int32)) := D5 (Or.inr (hw _ (List.mem_of_getElem? (i := 13) rfl))) (ty := .int) (by decide)
  have F5_q_after : Fld Z h5 q "com/example/netlocus/netlocus/BucketQueue" "after" "[I" .null := D5 (Or.inr (hw _ (List.mem_of_getElem? (i := 16) rfl))) (ty := (.array .int)) (by decide)
  have F5_q_before : Fld Z h5 q "com/example/netlocus/netlocus/BucketQueue" "before" "[I" .null := D5 (Or.inr (hw _ (List.mem_of_getElem? (i := 18) rfl))) (ty := (.array .int)) (by decide)
  have F5_q_size : Fld Z h5 q "com/example/netlocus/netlocus/BucketQueue" "size" "I" (.int (0 : Int32)) := D5 (Or.inl (hw _ (List.mem_of_getElem? (i := 33) rfl))) (ty := .int) (by decide)
  have F5_q_lowest : Fld Z h5 q "com/example/netlocus/netlocus/BucketQueue" "lowest" "I" (.int (0 : Int32)) := D5 (Or.inl (hw _ (List.mem_of_getElem? (i := 44) rfl))) (ty := .int) (by decide)
  refine G.dup X5 hx (pc' := 33) (hb hby at_32) rfl rfl ?_
  refine G.aloadN X5 hx (pc' := 34) (hb hby at_33) rfl rfl rfl ?_
  refine G.iconst X5 hx (pc' := 35) (hb hby at_34) (z := (3 : Int32)) rfl rfl ?_
  have nqk : q ≠ k := Ne.symm ne_k_q
  refine G.callI X5 hx hZ (y := (⟨"com/example/netlocus/netlocus/BucketQueue", "<init>", "([JI)V"⟩ : MethodName)) rfl hown (hw _ (List.mem_of_getElem? (i := 4) rfl)) (hw _ (List.mem_of_getElem? (i := 5) rfl)) (hw _ (List.mem_of_getElem? (i := 3) rfl)) (hw _ (List.mem_of_getElem? (i := 6) rfl)) (by decide) e5 (rm := ({ frames := 2, cells := 2, slots := 14, locals := 30 } : Room)) (argsL := [(.ref k), (.int (3 : Int32))]) (S := [(.ref q)]) (W := 1) (a := q) (rm_init l Z a0 hw q k [(.long (Int64.ofNat ka)), (.long (Int64.ofNat kb)), (.long (Int64.ofNat kc))] h5 Ea5 F5_q_after F5_q_before F5_q_keys F5_q_placeCount F5_q_size F5_q_lowest A5_k nqk rfl) (lenOf pd_9 rfl) rfl (Nat.le_of_eq rfl) (by decide) (by decide) (by decide) (by decide) (by rw [hml]; rfl) (hb hby at_35) (pc' := 38) rfl ?_
  rintro T6 _ L6 ⟨rfl, a, b, Kq6, Fa6, Fb6, Fk6, Fp6, Fs6, Fl6, Aa6, Ab6, ga6, gb6, nab⟩ X6
  have E6_q := Exa.keep Ea5 Kq6.1
  have A6_k := Seq.keep A5_k Kq6.1 (ninS ne_k_q nin0)
  have K6 := Kp.call K5 Kq6 (allS (Or.inr sz_q) all0)
  have nqa : q ≠ a := Nat.ne_of_lt (Nat.lt_of_lt_of_le Ea5.lt ga6)
  have nqb : q ≠ b := Nat.ne_of_lt (Nat.lt_of_lt_of_le Ea5.lt gb6)
  have nak : a ≠ k := Ne.symm (Nat.ne_of_lt (Nat.lt_of_lt_of_le A5_k.lt ga6))
  have nbk : b ≠ k := Ne.symm (Nat.ne_of_lt (Nat.lt_of_lt_of_le A5_k.lt gb6))
  have sz_a : h0.size ≤ a := Nat.le_trans K5.size ga6
  have sz_b : h0.size ≤ b := Nat.le_trans K5.size gb6
  show Goes p e below T6 (mkF m 38 #[.val (.int p0), .val (.int p1), .val (.ref k), .unset, .unset, .unset] [(.ref q)]) _
  refine G.astoreN X6 hx (pc' := 39) (hb hby at_38) rfl (L' := #[.val (.int p0), .val (.int p1), .val (.ref k), .val (.ref q), .unset, .unset]) rfl rfl ?_
  refine G.iconst X6 hx (pc' := 40) (hb hby at_39) (z := (3 : Int32)) rfl rfl ?_
  refine G.newP X6 hx hZ (hw _ (List.mem_of_getElem? (i := 26) rfl)) rfl (hb hby at_40) (by decide) (n := 3) (cap := 3) rfl (by decide) (by decide) (by decide) (by decide) (pc' := 42) rfl fun T7 h7 i g7 X7 e7 Ex7 A7 => ?_
  have ne_k_i : k ≠ i := Nat.ne_of_lt (Nat.lt_of_lt_of_le A6_k.lt (Nat.le_of_eq g7.symm))
  have ne_q_i : q ≠ i := Nat.ne_of_lt (Nat.lt_of_lt_of_le Fa6.lt (Nat.le_of_eq g7.symm))
  have ne_b_i : b ≠ i := Nat.ne_of_lt (Nat.lt_of_lt_of_le Ab6.lt (Nat.le_of_eq g7.symm))
  have ne_a_i : a ≠ i := Nat.ne_of_lt (Nat.lt_of_lt_of_le Aa6.lt (Nat.le_of_eq g7.symm))
  have sz_i : h0.size ≤ i := Nat.le_trans K6.size (Nat.le_of_eq g7.symm)
  have F7_q_after := Fld.ext  Ex7 Fa6
  have F7_q_before := Fld.ext  Ex7 Fb6
  have F7_q_keys := Fld.ext  Ex7 Fk6
  have F7_q_placeCount := Fld.ext  Ex7 Fp6
  have F7_q_size := Fld.ext  Ex7 Fs6
  have F7_q_lowest := Fld.ext  Ex7 Fl6
  have E7_q := Exa.ext  Ex7 E6_q
  have A7_k := Seq.ext A6_k Ex7
  have A7_a := Seq.ext Aa6 Ex7
  have A7_b := Seq.ext Ab6 Ex7
  have K7 := Kp.ext K6 Ex7
  have A7_i : Seq Z h7 i .boolean [(.int (0 : Int32)), (.int (0 : Int32)), (.int (0 : Int32))] := A7
  have nqi : q ≠ i := ne_q_i
  have nai : a ≠ i := ne_a_i
  have nbi : b ≠ i := ne_b_i
  have nki : k ≠ i := ne_k_i
  refine G.astore X7 hx (pc' := 44) (hb hby at_42) rfl (L' := #[.val (.int p0), .val (.int p1), .val (.ref k), .val (.ref q), .val (.ref i), .unset]) rfl rfl ?_
  refine G.aloadN X7 hx (pc' := 45) (hb hby at_44) rfl rfl rfl ?_
  refine G.callV X7 hx hZ (y0 := (⟨"com/example/netlocus/netlocus/BucketQueue", "isEmpty", "()Z"⟩ : MethodName)) (y := (⟨"com/example/netlocus/netlocus/BucketQueue", "isEmpty", "()Z"⟩ : MethodName)) hown (hw _ (List.mem_of_getElem? (i := 27) rfl)) (hw _ (List.mem_of_getElem? (i := 28) rfl)) (notFace_of_selects (args := #[]) (mvT hZ (hw _ (List.mem_of_getElem? (i := 30) rfl)))) (hw _ (List.mem_of_getElem? (i := 30) rfl)) (hw _ (List.mem_of_getElem? (i := 29) rfl)) (hw _ (List.mem_of_getElem? (i := 3) rfl)) (hw _ (List.mem_of_getElem? (i := 31) rfl)) (by decide) e7 (rm := ({ frames := 0, cells := 0, slots := 0, locals := 0 } : Room)) (argsL := []) (S := []) (W := 0) (a := q) E7_q (rm_emp l Z a0 hw q 0 h7 F7_q_size (by decide)) (lenOf pd_3 rfl) rfl (Nat.le_of_eq rfl) (by decide) (by decide) (by decide) (by decide) (by rw [hml]; rfl) (hb hby at_45) (pc' := 48) rfl ?_
  rintro T8 _ _ ⟨rfl, e8, rfl⟩ X8
  rw [List.append_nil] at X8
  show Goes p e below T8 (mkF m 48 #[.val (.int p0), .val (.int p1), .val (.ref k), .val (.ref q), .val (.ref i), .unset] [(.int (1 : Int32))]) _
  refine G.istore X8 hx (pc' := 50) (hb hby at_48) (L' := #[.val (.int p0), .val (.int p1), .val (.ref k), .val (.ref q), .val (.ref i), .val (.int (1 : Int32))]) rfl rfl ?_
  refine G.iload X8 hx (pc' := 52) (hb hby at_50) rfl rfl ?_
  refine G.ifF X8 hx (pc' := 55) (hb hby at_52) (Jvm.Free.XT.i0_eq_f (by decide)) rfl ?_
  refine G.aloadN X8 hx (pc' := 56) (hb hby at_55) rfl rfl rfl ?_
  refine G.aload X8 hx (pc' := 58) (hb hby at_56) rfl rfl rfl ?_
  refine G.iloadN X8 hx (pc' := 59) (hb hby at_58) rfl rfl ?_
  have well4 := own_start hka hkb hkc
  have okb4 : OKB st0 := by unfold OKB; decide
  have Ai4 : Seq Z h7 i .boolean (enc st0.1) := A7_i
  obtain ⟨j0, hj30, hj0⟩ := own_op p1
  have ho0 : ∀ z : Nat, z = (if (p1 &&& (1 : Int32)) = (0 : Int32) then j0 else 3) → z = 0 ∨ z = 1 ∨ z = 2 ∨ z = 3 := by
    intro z hz
    by_cases q1 : (p1 &&& (1 : Int32)) = (0 : Int32)
    · rw [if_pos q1] at hz; omega
    · rw [if_neg q1] at hz; omega
  obtain ⟨st_1, hm0, well3⟩ := own_well well4 (ho0 _ rfl)
  refine G.callS X8 hx hZ (y := (⟨"com/example/netlocus/netlocus/BucketQueueIsEmptyPinLaw", "step", "(Lcom/example/netlocus/netlocus/BucketQueue;[ZI)Z"⟩ : MethodName)) hown (hw _ (List.mem_of_getElem? (i := 34) rfl)) (hw _ (List.mem_of_getElem? (i := 35) rfl)) (hw _ (List.mem_of_getElem? (i := 36) rfl)) (hw _ (List.mem_of_getElem? (i := 37) rfl)) (by decide) e8 (rm := ({ frames := 2, cells := 0, slots := 0, locals := 31 } : Room)) (argsL := [(.ref q), (.ref i), (.int p1)]) (S := []) (W := 0) (rm_step l Z a0 hw q a b k i [ka, kb, kc] st0.2.1 st0.2.2.1 st0.1 st0.2.2.2.1 st0.2.2.2.2 j0 p1 st_1 h7 E7_q F7_q_after F7_q_before F7_q_keys F7_q_placeCount F7_q_size F7_q_lowest A7_a A7_b A7_k nqa nqb nqk nab nak nbk okb4.2.2.2.2.1 okb4.2.2.2.2.2 rfl Ai4 nqi nai nbi nki okb4.2.2.1 okb4.2.2.2.1 okb4.1 okb4.2.1.1 okb4.2.1.2.1 okb4.2.1.2.2 hj30 hj0 hm0) (lenOf pd_10 rfl) rfl (Nat.le_of_eq rfl) (by decide) (by decide) (by decide) (by decide) (by rw [hml]; rfl) (hb hby at_59) (pc' := 62) rfl ?_
  rintro T9 _ L9 ⟨rfl, Kq9, Fa9, Fb9, Fk9, Fp9, Fs9, Fl9, Aa9, Ab9, Ai9, okb3⟩ X9
  have E9_q := Exa.keep E7_q Kq9.1
  have A9_k := Seq.keep A7_k Kq9.1 (ninS ne_k_q (ninS (Ne.symm nak) (ninS (Ne.symm nbk) (ninS nki nin0))))
  have K9 := Kp.call K7 Kq9 (allS (Or.inr sz_q) (allS (Or.inr sz_a) (allS (Or.inr sz_b) (allS (Or.inr sz_i) all0))))
  show Goes p e below T9 (mkF m 62 #[.val (.int p0), .val (.int p1), .val (.ref k), .val (.ref q), .val (.ref i), .val (.int (1 : Int32))] [(.int (1 : Int32))]) _
  refine G.ifF X9 hx (pc' := 65) (hb hby at_62) (Jvm.Free.XT.i0_eq_f (by decide)) rfl ?_
  refine G.iconst X9 hx (pc' := 66) (hb hby at_65) (z := (1 : Int32)) rfl rfl ?_
  refine G.goto X9 hx (pc' := 70) (hb hby at_66) (by decide) (by decide) ?_
  refine G.istore X9 hx (pc' := 72) (hb hby at_70) (L' := #[.val (.int p0), .val (.int p1), .val (.ref k), .val (.ref q), .val (.ref i), .val (.int (1 : Int32))]) rfl rfl ?_
  refine G.iload X9 hx (pc' := 74) (hb hby at_72) rfl rfl ?_
  refine G.ifF X9 hx (pc' := 77) (hb hby at_74) (Jvm.Free.XT.i0_eq_f (by decide)) rfl ?_
  refine G.aloadN X9 hx (pc' := 78) (hb hby at_77) rfl rfl rfl ?_
  refine G.aload X9 hx (pc' := 80) (hb hby at_78) rfl rfl rfl ?_
  refine G.iloadN X9 hx (pc' := 81) (hb hby at_80) rfl rfl ?_
  refine G.iconst X9 hx (pc' := 82) (hb hby at_81) (z := (3 : Int32)) rfl rfl ?_
  refine G.ishr X9 hx (pc' := 83) (hb hby at_82) rfl ?_
  obtain ⟨j1, hj31, hj1⟩ := own_op (p1 >>> ((3 : Int32) &&& 31))
  have ho1 : ∀ z : Nat, z = (if ((p1 >>> ((3 : Int32) &&& 31)) &&& (1 : Int32)) = (0 : Int32) then j1 else 3) → z = 0 ∨ z = 1 ∨ z = 2 ∨ z = 3 := by
    intro z hz
    by_cases q1 : ((p1 >>> ((3 : Int32) &&& 31)) &&& (1 : Int32)) = (0 : Int32)
    · rw [if_pos q1] at hz; omega
    · rw [if_neg q1] at hz; omega
  obtain ⟨st_2, hm1, well2⟩ := own_well well3 (ho1 _ rfl)
  refine G.callS X9 hx hZ (y := (⟨"com/example/netlocus/netlocus/BucketQueueIsEmptyPinLaw", "step", "(Lcom/example/netlocus/netlocus/BucketQueue;[ZI)Z"⟩ : MethodName)) hown (hw _ (List.mem_of_getElem? (i := 34) rfl)) (hw _ (List.mem_of_getElem? (i := 35) rfl)) (hw _ (List.mem_of_getElem? (i := 36) rfl)) (hw _ (List.mem_of_getElem? (i := 37) rfl)) (by decide) rfl (rm := ({ frames := 2, cells := 0, slots := 0, locals := 31 } : Room)) (argsL := [(.ref q), (.ref i), (.int (p1 >>> ((3 : Int32) &&& 31)))]) (S := []) (W := 0) (rm_step l Z a0 hw q a b k i [ka, kb, kc] st_1.2.1 st_1.2.2.1 st_1.1 st_1.2.2.2.1 st_1.2.2.2.2 j1 (p1 >>> ((3 : Int32) &&& 31)) st_2 T9.heap E9_q Fa9 Fb9 Fk9 Fp9 Fs9 Fl9 Aa9 Ab9 A9_k nqa nqb nqk nab nak nbk okb3.2.2.2.2.1 okb3.2.2.2.2.2 rfl Ai9 nqi nai nbi nki okb3.2.2.1 okb3.2.2.2.1 okb3.1 okb3.2.1.1 okb3.2.1.2.1 okb3.2.1.2.2 hj31 hj1 hm1) (lenOf pd_10 rfl) rfl (Nat.le_of_eq rfl) (by decide) (by decide) (by decide) (by decide) (by rw [hml]; rfl) (hb hby at_83) (pc' := 86) rfl ?_
  rintro T10 _ L10 ⟨rfl, Kq10, Fa10, Fb10, Fk10, Fp10, Fs10, Fl10, Aa10, Ab10, Ai10, okb2⟩ X10
  have E10_q := Exa.keep E9_q Kq10.1
  have A10_k := Seq.keep A9_k Kq10.1 (ninS ne_k_q (ninS (Ne.symm nak) (ninS (Ne.symm nbk) (ninS nki nin0))))
  have K10 := Kp.call K9 Kq10 (allS (Or.inr sz_q) (allS (Or.inr sz_a) (allS (Or.inr sz_b) (allS (Or.inr sz_i) all0))))
  show Goes p e below T10 (mkF m 86 #[.val (.int p0), .val (.int p1), .val (.ref k), .val (.ref q), .val (.ref i), .val (.int (1 : Int32))] [(.int (1 : Int32))]) _
  refine G.ifF X10 hx (pc' := 89) (hb hby at_86) (Jvm.Free.XT.i0_eq_f (by decide)) rfl ?_
  refine G.iconst X10 hx (pc' := 90) (hb hby at_89) (z := (1 : Int32)) rfl rfl ?_
  refine G.goto X10 hx (pc' := 94) (hb hby at_90) (by decide) (by decide) ?_
  refine G.istore X10 hx (pc' := 96) (hb hby at_94) (L' := #[.val (.int p0), .val (.int p1), .val (.ref k), .val (.ref q), .val (.ref i), .val (.int (1 : Int32))]) rfl rfl ?_
  refine G.iload X10 hx (pc' := 98) (hb hby at_96) rfl rfl ?_
  refine G.ifF X10 hx (pc' := 101) (hb hby at_98) (Jvm.Free.XT.i0_eq_f (by decide)) rfl ?_
  refine G.aloadN X10 hx (pc' := 102) (hb hby at_101) rfl rfl rfl ?_
  refine G.aload X10 hx (pc' := 104) (hb hby at_102) rfl rfl rfl ?_
  refine G.iloadN X10 hx (pc' := 105) (hb hby at_104) rfl rfl ?_
  refine G.bipush X10 hx (pc' := 107) (hb hby at_105) (z := (6 : Int32)) rfl rfl ?_
  refine G.ishr X10 hx (pc' := 108) (hb hby at_107) rfl ?_
  obtain ⟨j2, hj32, hj2⟩ := own_op (p1 >>> ((6 : Int32) &&& 31))
  have ho2 : ∀ z : Nat, z = (if ((p1 >>> ((6 : Int32) &&& 31)) &&& (1 : Int32)) = (0 : Int32) then j2 else 3) → z = 0 ∨ z = 1 ∨ z = 2 ∨ z = 3 := by
    intro z hz
    by_cases q1 : ((p1 >>> ((6 : Int32) &&& 31)) &&& (1 : Int32)) = (0 : Int32)
    · rw [if_pos q1] at hz; omega
    · rw [if_neg q1] at hz; omega
  obtain ⟨st_3, hm2, well1⟩ := own_well well2 (ho2 _ rfl)
  refine G.callS X10 hx hZ (y := (⟨"com/example/netlocus/netlocus/BucketQueueIsEmptyPinLaw", "step", "(Lcom/example/netlocus/netlocus/BucketQueue;[ZI)Z"⟩ : MethodName)) hown (hw _ (List.mem_of_getElem? (i := 34) rfl)) (hw _ (List.mem_of_getElem? (i := 35) rfl)) (hw _ (List.mem_of_getElem? (i := 36) rfl)) (hw _ (List.mem_of_getElem? (i := 37) rfl)) (by decide) rfl (rm := ({ frames := 2, cells := 0, slots := 0, locals := 31 } : Room)) (argsL := [(.ref q), (.ref i), (.int (p1 >>> ((6 : Int32) &&& 31)))]) (S := []) (W := 0) (rm_step l Z a0 hw q a b k i [ka, kb, kc] st_2.2.1 st_2.2.2.1 st_2.1 st_2.2.2.2.1 st_2.2.2.2.2 j2 (p1 >>> ((6 : Int32) &&& 31)) st_3 T10.heap E10_q Fa10 Fb10 Fk10 Fp10 Fs10 Fl10 Aa10 Ab10 A10_k nqa nqb nqk nab nak nbk okb2.2.2.2.2.1 okb2.2.2.2.2.2 rfl Ai10 nqi nai nbi nki okb2.2.2.1 okb2.2.2.2.1 okb2.1 okb2.2.1.1 okb2.2.1.2.1 okb2.2.1.2.2 hj32 hj2 hm2) (lenOf pd_10 rfl) rfl (Nat.le_of_eq rfl) (by decide) (by decide) (by decide) (by decide) (by rw [hml]; rfl) (hb hby at_108) (pc' := 111) rfl ?_
  rintro T11 _ L11 ⟨rfl, Kq11, Fa11, Fb11, Fk11, Fp11, Fs11, Fl11, Aa11, Ab11, Ai11, okb1⟩ X11
  have E11_q := Exa.keep E10_q Kq11.1
  have A11_k := Seq.keep A10_k Kq11.1 (ninS ne_k_q (ninS (Ne.symm nak) (ninS (Ne.symm nbk) (ninS nki nin0))))
  have K11 := Kp.call K10 Kq11 (allS (Or.inr sz_q) (allS (Or.inr sz_a) (allS (Or.inr sz_b) (allS (Or.inr sz_i) all0))))
  show Goes p e below T11 (mkF m 111 #[.val (.int p0), .val (.int p1), .val (.ref k), .val (.ref q), .val (.ref i), .val (.int (1 : Int32))] [(.int (1 : Int32))]) _
  refine G.ifF X11 hx (pc' := 114) (hb hby at_111) (Jvm.Free.XT.i0_eq_f (by decide)) rfl ?_
  refine G.iconst X11 hx (pc' := 115) (hb hby at_114) (z := (1 : Int32)) rfl rfl ?_
  refine G.goto X11 hx (pc' := 119) (hb hby at_115) (by decide) (by decide) ?_
  refine G.istore X11 hx (pc' := 121) (hb hby at_119) (L' := #[.val (.int p0), .val (.int p1), .val (.ref k), .val (.ref q), .val (.ref i), .val (.int (1 : Int32))]) rfl rfl ?_
  refine G.iload X11 hx (pc' := 123) (hb hby at_121) rfl rfl ?_
  refine G.ifF X11 hx (pc' := 126) (hb hby at_123) (Jvm.Free.XT.i0_eq_f (by decide)) rfl ?_
  refine G.aloadN X11 hx (pc' := 127) (hb hby at_126) rfl rfl rfl ?_
  refine G.aload X11 hx (pc' := 129) (hb hby at_127) rfl rfl rfl ?_
  refine G.iloadN X11 hx (pc' := 130) (hb hby at_129) rfl rfl ?_
  refine G.bipush X11 hx (pc' := 132) (hb hby at_130) (z := (9 : Int32)) rfl rfl ?_
  refine G.ishr X11 hx (pc' := 133) (hb hby at_132) rfl ?_
  obtain ⟨j3, hj33, hj3⟩ := own_op (p1 >>> ((9 : Int32) &&& 31))
  have ho3 : ∀ z : Nat, z = (if ((p1 >>> ((9 : Int32) &&& 31)) &&& (1 : Int32)) = (0 : Int32) then j3 else 3) → z = 0 ∨ z = 1 ∨ z = 2 ∨ z = 3 := by
    intro z hz
    by_cases q1 : ((p1 >>> ((9 : Int32) &&& 31)) &&& (1 : Int32)) = (0 : Int32)
    · rw [if_pos q1] at hz; omega
    · rw [if_neg q1] at hz; omega
  obtain ⟨st_4, hm3, well0⟩ := own_well well1 (ho3 _ rfl)
  refine G.callS X11 hx hZ (y := (⟨"com/example/netlocus/netlocus/BucketQueueIsEmptyPinLaw", "step", "(Lcom/example/netlocus/netlocus/BucketQueue;[ZI)Z"⟩ : MethodName)) hown (hw _ (List.mem_of_getElem? (i := 34) rfl)) (hw _ (List.mem_of_getElem? (i := 35) rfl)) (hw _ (List.mem_of_getElem? (i := 36) rfl)) (hw _ (List.mem_of_getElem? (i := 37) rfl)) (by decide) rfl (rm := ({ frames := 2, cells := 0, slots := 0, locals := 31 } : Room)) (argsL := [(.ref q), (.ref i), (.int (p1 >>> ((9 : Int32) &&& 31)))]) (S := []) (W := 0) (rm_step l Z a0 hw q a b k i [ka, kb, kc] st_3.2.1 st_3.2.2.1 st_3.1 st_3.2.2.2.1 st_3.2.2.2.2 j3 (p1 >>> ((9 : Int32) &&& 31)) st_4 T11.heap E11_q Fa11 Fb11 Fk11 Fp11 Fs11 Fl11 Aa11 Ab11 A11_k nqa nqb nqk nab nak nbk okb1.2.2.2.2.1 okb1.2.2.2.2.2 rfl Ai11 nqi nai nbi nki okb1.2.2.1 okb1.2.2.2.1 okb1.1 okb1.2.1.1 okb1.2.1.2.1 okb1.2.1.2.2 hj33 hj3 hm3) (lenOf pd_10 rfl) rfl (Nat.le_of_eq rfl) (by decide) (by decide) (by decide) (by decide) (by rw [hml]; rfl) (hb hby at_133) (pc' := 136) rfl ?_
  rintro T12 _ L12 ⟨rfl, Kq12, Fa12, Fb12, Fk12, Fp12, Fs12, Fl12, Aa12, Ab12, Ai12, okb0⟩ X12
  have E12_q := Exa.keep E11_q Kq12.1
  have A12_k := Seq.keep A11_k Kq12.1 (ninS ne_k_q (ninS (Ne.symm nak) (ninS (Ne.symm nbk) (ninS nki nin0))))
  have K12 := Kp.call K11 Kq12 (allS (Or.inr sz_q) (allS (Or.inr sz_a) (allS (Or.inr sz_b) (allS (Or.inr sz_i) all0))))
  show Goes p e below T12 (mkF m 136 #[.val (.int p0), .val (.int p1), .val (.ref k), .val (.ref q), .val (.ref i), .val (.int (1 : Int32))] [(.int (1 : Int32))]) _
  refine G.ifF X12 hx (pc' := 139) (hb hby at_136) (Jvm.Free.XT.i0_eq_f (by decide)) rfl ?_
  refine G.iconst X12 hx (pc' := 140) (hb hby at_139) (z := (1 : Int32)) rfl rfl ?_
  refine G.goto X12 hx (pc' := 144) (hb hby at_140) (by decide) (by decide) ?_
  refine G.istore X12 hx (pc' := 146) (hb hby at_144) (L' := #[.val (.int p0), .val (.int p1), .val (.ref k), .val (.ref q), .val (.ref i), .val (.int (1 : Int32))]) rfl rfl ?_
  refine G.iload X12 hx (pc' := 148) (hb hby at_146) rfl rfl ?_
  refine Goes.retN X12 hx hret (by simp) hlk (hb hby at_148) (by decide) (by decide) ⟨rfl, K12.fr⟩
set_option maxRecDepth 65536 in
set_option maxHeartbeats 40000000 in
theorem comes_1 {Post : Tables → Env → Array Value → State → Outcome → State → Prop} (hpost : ∀ tb e args s v u, (limb_1_1.after args s (.returned v) u = true ∧ limb_1_2.after args s (.returned v) u = true ∧ True) → FrameEnd s (.returned v) u (Jvm.fieldLocs frame_1_writes args s ++ Jvm.arrayLocs frame_1_arrays args s ++ Jvm.staticLocs frame_1_statics s) 24 128 → Post tb e args s (.returned v) u) :
    ArmFor flags0 classFile x code maxLocals ret World_1 tables_1 room_1 Calls_1 rest_1 Pre_1 Post := by
  intro l hfl _ _ p e ha hc hk s m args below hf hA hF happ hP
  obtain ⟨hcalls, hrest, hpre⟩ := hP
  obtain ⟨-, -, -, hnamed, -, -, -, hat⟩ := (Spec.applies_iff hf).mp happ
  obtain ⟨hg, hn⟩ := and_e (Cond.before_iff.mp (show (Jvm.Cond.and given_1 narrow_1).before args s = true from hpre))
  obtain ⟨hg0, hg1⟩ := and_e hg
  obtain ⟨hb1, hg2⟩ := and_e hg1
  obtain ⟨w0, w1, rfl⟩ : ∃ w0 w1 : Value, args = #[w0, w1] := by
    have hs : args.size = 2 := by simpa [Cond.value, given_1] using hg0
    obtain ⟨L⟩ := args
    match L, hs with
    | [w0, w1], _ => exact ⟨w0, w1, rfl⟩
  have hw := fun d (hd : d ∈ tables_1) => atoms_spec (ws := Jvm.Cond.code x code maxLocals ret :: tables_1) hat d (List.mem_cons_of_mem _ hd)
  have hfit : Fit s := fun {y c} hc i hi => by
    obtain ⟨ha, rfl⟩ := Array.getElem?_eq_some_iff.mp hc
    have q := List.all_eq_true.mp ((Array.all_eq_true_iff_forall_mem.mp hF) _ (Array.getElem_mem ha)) i (List.mem_range.mpr hi)
    simpa [Array.getElem?_eq_getElem hi] using q
  obtain ⟨i0, ea0⟩ := is_v hb1
  obtain rfl : w0 = (.int i0) := Option.some.inj ea0
  obtain ⟨i1, ea1⟩ := is_v hg2
  obtain rfl : w1 = (.int i1) := Option.some.inj ea1
  obtain ⟨n, o, h1, h2, h3, _, L, rfl, ⟨rfl, N⟩, hq⟩ := rm0 l s _ hw i0 i1 s.heap tables_1 p e ha hc hk s m _ below hf ((Spec.applies_iff_loose hf).mp happ).1 ⟨rfl, State.Warmed39.refl s, rfl⟩ trivial
  refine ⟨n, _, h1, h2, h3, hpost _ _ _ _ _ _ ⟨Cond.after_iff.mpr rfl, Cond.after_iff.mpr (eq_i res_at (Term.int_eval (1)) rfl), trivial⟩ ⟨hq.1, hq.2.1, (hq.2.2.sift fun y hy => Or.inr (N y hy)).mono (by decide) (by decide)⟩⟩
theorem main_1_1 : Claimed_1_1 := comes_1 fun _ _ _ _ _ _ h hF => ⟨h.1, hF⟩
theorem main_1_2 : Claimed_1_2 := comes_1 fun _ _ _ _ _ _ h hF => ⟨h.2.1, hF⟩

end Jvm.Pilot.@@N@@
namespace Jvm.Pilot.@@N@@
open Jvm Jvm.ClassFile Sem Op Lib Jvm.Free Jvm.Stand Jvm.Pilot.@@N@@.Jvm.D
/-! MADE BY PROGRAM (witnessworld.py) out of the Statement's table words and the real class files: 16 classes; the members and pool entries that the words name. The judged class is class 1, her method 1. -/
namespace start1
open Jvm.ClassFile
def u (s : String) : CpInfo := .utf8 (stringToUtf16 s)
/-- a pool by its gaps: so many unusable entries, then the entry; so many at the end -/
def gap : Nat → List CpInfo → List CpInfo
  | 0, r => r
  | n + 1, r => .unusable :: gap n r
def poolList (es : List (Nat × CpInfo)) (last : Nat) : List CpInfo := es.foldr (fun e r => gap e.1 (e.2 :: r)) (gap last [])
def pool (es : List (Nat × CpInfo)) (last : Nat) : Array CpInfo := ⟨poolList es last⟩
def fileOf (pool : Array CpInfo) (this : Nat) (attrs : Array Attribute := #[]) (ms : Array MethodInfo := #[]) (fl : Nat := 33) (sup : Nat := 0) (ifs : Array Nat := #[]) (fds : Array FieldInfo := #[]) : ClassFile where
  minorVersion := 0
  majorVersion := 65
  constantPool := pool
  accessFlags := fl
  thisClass := this
  superClass := sup
  interfaces := ifs
  fields := fds
  methods := ms
  attributes := attrs
def plain (name : String) (sup : Option ClassId) : Class where
  name := name
  kind := .ordinary
  loader := none
  accessFlags := 33
  super := sup
  interfaces := #[]
  cf := none
  fields := #[]
  methods := #[]
  instanceTypes := #[]
  staticTypes := #[]
  resolved := #[]
  callSites := []
  init := .initialized
  statics := none
  mirror := none

def pool0 : Array CpInfo := pool [(5, u "<init>"), (0, u "()V"), (1, .class_ 10), (1, u "java/lang/Object")] 113

def k0c0 : Code := { maxStack := 0, maxLocals := 1, code := object_method_1_code, exceptionTable := #[], attributes := #[] }
def k0m0 : Method := { name := "<init>", desc := "()V", sig := { parameters := [], returnType := none }, accessFlags := 1, code := some k0c0 }
/-- java/lang/Object -/
def k0 : Class := { plain "java/lang/Object" none with
  accessFlags := 33
  interfaces := #[]
  cf := some (fileOf pool0 8 #[] #[{ accessFlags := 1, nameIndex := 5, descriptorIndex := 6, attributes := #[] }] 33 0 #[] #[])
  fields := #[]
  methods := #[k0m0]
  instanceTypes := #[]
  staticTypes := #[]
  resolved := Array.replicate 124 none
  statics := none }

def pool1 : Array CpInfo := pool [(2, .class_ 4), (1, u "java/lang/Object"), (0, u "<init>"), (0, u "()V"), (0, .class_ 8), (0, u "com/example/netlocus/netlocus/BucketQueue"), (0, .methodref 7 10), (0, .nameAndType 5 11), (0, u "([JI)V"), (0, .methodref 7 13), (0, .nameAndType 14 15), (0, u "isEmpty"), (0, u "()Z"), (0, .methodref 17 18), (0, .class_ 19), (0, .nameAndType 20 21), (0, u "com/example/netlocus/netlocus/BucketQueueIsEmptyPinLaw"), (0, u "step"), (0, u "(Lcom/example/netlocus/netlocus/BucketQueue;[ZI)Z"), (0, .methodref 7 23), (0, .nameAndType 24 25), (0, u "addOrRaise"), (0, u "(I)V"), (0, .methodref 7 27), (0, .nameAndType 28 29), (0, u "removeNearest"), (0, u "()I"), (2, u "law"), (0, u "(II)Z")] 7

def k1m0 : Method := { name := "<init>", desc := "()V", sig := { parameters := [], returnType := none }, accessFlags := 2, code := none }
def k1c1 : Code := { maxStack := 4, maxLocals := 6, code := code, exceptionTable := #[], attributes := #[] }
def k1m1 : Method := { name := "law", desc := "(II)Z", sig := { parameters := [.int, .int], returnType := some .boolean }, accessFlags := 9, code := some k1c1 }
def k1c2 : Code := { maxStack := 3, maxLocals := 5, code := method_3_code, exceptionTable := #[], attributes := #[] }
def k1m2 : Method := { name := "step", desc := "(Lcom/example/netlocus/netlocus/BucketQueue;[ZI)Z", sig := { parameters := [(.object "com/example/netlocus/netlocus/BucketQueue"), (.array .boolean), .int], returnType := some .boolean }, accessFlags := 10, code := some k1c2 }
/-- com/example/netlocus/netlocus/BucketQueueIsEmptyPinLaw -/
def k1 : Class := { plain "com/example/netlocus/netlocus/BucketQueueIsEmptyPinLaw" (some 0) with
  accessFlags := 49
  interfaces := #[]
  cf := some (fileOf pool1 17 #[] #[{ accessFlags := 2, nameIndex := 5, descriptorIndex := 6, attributes := #[] }, { accessFlags := 9, nameIndex := 32, descriptorIndex := 33, attributes := #[] }, { accessFlags := 10, nameIndex := 20, descriptorIndex := 21, attributes := #[] }] 49 2 #[] #[])
  fields := #[]
  methods := #[k1m0, k1m1, k1m2]
  instanceTypes := #[]
  staticTypes := #[]
  resolved := Array.replicate 41 none
  statics := none }

def pool2 : Array CpInfo := pool [(1, .class_ 2), (0, u "com/example/netlocus/netlocus/Frontier"), (0, .class_ 4), (0, u "java/lang/Object"), (0, u "EMPTY"), (0, u "Ljava/lang/String;")] 11

/-- com/example/netlocus/netlocus/Frontier -/
def k2 : Class := { plain "com/example/netlocus/netlocus/Frontier" (some 0) with
  accessFlags := 1536
  interfaces := #[]
  cf := some (fileOf pool2 1 #[] #[] 1536 3 #[] #[{ accessFlags := 25, nameIndex := 5, descriptorIndex := 6, attributes := #[] }])
  fields := #[{ name := "EMPTY", type := (.object "java/lang/String"), accessFlags := 25, slot := 0, constantValue := 0 }]
  methods := #[]
  instanceTypes := #[]
  staticTypes := #[(.object "java/lang/String")]
  resolved := Array.replicate 18 none
  statics := none }

def pool3 : Array CpInfo := pool [(1, .methodref 2 3), (0, .class_ 4), (0, .nameAndType 5 6), (0, u "java/lang/Object"), (0, u "<init>"), (0, u "()V"), (0, .fieldref 8 9), (0, .class_ 10), (0, .nameAndType 11 12), (0, u "com/example/netlocus/netlocus/BucketQueue"), (0, u "keys"), (0, u "[J"), (0, .fieldref 8 14), (0, .nameAndType 15 16), (0, u "placeCount"), (0, u "I"), (0, .fieldref 8 18), (0, .nameAndType 19 20), (0, u "after"), (0, u "[I"), (0, .fieldref 8 22), (0, .nameAndType 23 20), (0, u "before"), (0, .methodref 25 26), (0, .class_ 27), (0, .nameAndType 28 29), (0, u "java/util/Arrays"), (0, u "fill"), (0, u "([IIII)V"), (0, .fieldref 8 31), (0, .nameAndType 32 16), (0, u "size"), (0, .methodref 8 34), (0, .nameAndType 35 36), (0, u "unlink"), (0, u "(I)V"), (0, .fieldref 8 38), (0, .nameAndType 39 16), (0, u "lowest"), (0, .methodref 41 42), (0, .class_ 43), (0, .nameAndType 44 45), (0, u "java/lang/Math"), (0, u "min"), (0, u "(II)I"), (2, .class_ 49), (0, u "com/example/netlocus/netlocus/Frontier"), (5, u "NONE"), (2, u "([JI)V"), (4, u "isEmpty"), (0, u "()Z"), (0, u "addOrRaise"), (0, u "removeNearest"), (0, u "()I")] 2

def k3c0 : Code := { maxStack := 4, maxLocals := 4, code := prog_13_method_1_code, exceptionTable := #[], attributes := #[] }
def k3m0 : Method := { name := "<init>", desc := "([JI)V", sig := { parameters := [(.array .long), .int], returnType := none }, accessFlags := 0, code := some k3c0 }
def k3c1 : Code := { maxStack := 1, maxLocals := 1, code := prog_13_method_2_code, exceptionTable := #[], attributes := #[] }
def k3m1 : Method := { name := "isEmpty", desc := "()Z", sig := { parameters := [], returnType := some .boolean }, accessFlags := 1, code := some k3c1 }
def k3c2 : Code := { maxStack := 3, maxLocals := 5, code := prog_13_method_3_code, exceptionTable := #[], attributes := #[] }
def k3m2 : Method := { name := "addOrRaise", desc := "(I)V", sig := { parameters := [.int], returnType := none }, accessFlags := 1, code := some k3c2 }
def k3c3 : Code := { maxStack := 3, maxLocals := 2, code := prog_13_method_4_code, exceptionTable := #[], attributes := #[] }
def k3m3 : Method := { name := "removeNearest", desc := "()I", sig := { parameters := [], returnType := some .int }, accessFlags := 1, code := some k3c3 }
def k3c4 : Code := { maxStack := 3, maxLocals := 4, code := prog_13_method_5_code, exceptionTable := #[], attributes := #[] }
def k3m4 : Method := { name := "unlink", desc := "(I)V", sig := { parameters := [.int], returnType := none }, accessFlags := 2, code := some k3c4 }
/-- com/example/netlocus/netlocus/BucketQueue -/
def k3 : Class := { plain "com/example/netlocus/netlocus/BucketQueue" (some 0) with
  accessFlags := 48
  interfaces := #[2]
  cf := some (fileOf pool3 8 #[] #[{ accessFlags := 0, nameIndex := 5, descriptorIndex := 58, attributes := #[] }, { accessFlags := 1, nameIndex := 63, descriptorIndex := 64, attributes := #[] }, { accessFlags := 1, nameIndex := 65, descriptorIndex := 36, attributes := #[] }, { accessFlags := 1, nameIndex := 66, descriptorIndex := 67, attributes := #[] }, { accessFlags := 2, nameIndex := 35, descriptorIndex := 36, attributes := #[] }] 48 2 #[48] #[{ accessFlags := 26, nameIndex := 55, descriptorIndex := 16, attributes := #[] }, { accessFlags := 18, nameIndex := 11, descriptorIndex := 12, attributes := #[] }, { accessFlags := 18, nameIndex := 15, descriptorIndex := 16, attributes := #[] }, { accessFlags := 18, nameIndex := 19, descriptorIndex := 20, attributes := #[] }, { accessFlags := 18, nameIndex := 23, descriptorIndex := 20, attributes := #[] }, { accessFlags := 2, nameIndex := 39, descriptorIndex := 16, attributes := #[] }, { accessFlags := 2, nameIndex := 32, descriptorIndex := 16, attributes := #[] }])
  fields := #[{ name := "NONE", type := .int, accessFlags := 26, slot := 0, constantValue := 0 }, { name := "keys", type := (.array .long), accessFlags := 18, slot := 0, constantValue := 0 }, { name := "placeCount", type := .int, accessFlags := 18, slot := 1, constantValue := 0 }, { name := "after", type := (.array .int), accessFlags := 18, slot := 2, constantValue := 0 }, { name := "before", type := (.array .int), accessFlags := 18, slot := 3, constantValue := 0 }, { name := "lowest", type := .int, accessFlags := 2, slot := 4, constantValue := 0 }, { name := "size", type := .int, accessFlags := 2, slot := 5, constantValue := 0 }]
  methods := #[k3m0, k3m1, k3m2, k3m3, k3m4]
  instanceTypes := #[(.array .long), .int, (.array .int), (.array .int), .int, .int]
  staticTypes := #[.int]
  resolved := Array.replicate 70 none
  statics := none }

def pool4 : Array CpInfo := pool [(2, .class_ 4), (1, u "java/lang/Object"), (0, u "<init>"), (0, u "()V"), (5, u "([IIII)V"), (0, .methodref 14 15), (0, .class_ 16), (0, .nameAndType 17 18), (0, u "java/util/Arrays"), (0, u "rangeCheck"), (0, u "(III)V"), (55, .class_ 76), (1, u "java/util/Arrays$NaturalOrder"), (36, .class_ 115), (1, u "java/util/Arrays$LegacyMergeSort"), (1, u "Z"), (257, .class_ 376), (0, u "java/util/Arrays$ArrayList"), (68, u "$assertionsDisabled"), (269, u "MIN_ARRAY_SORT_GRAN"), (0, u "I"), (2, u "INSERTIONSORT_THRESHOLD"), (120, u "fill"), (134, .class_ 976), (0, u "java/util/Arrays$ArrayItr")] 52

def k4m0 : Method := { name := "<init>", desc := "()V", sig := { parameters := [], returnType := none }, accessFlags := 2, code := none }
def k4c1 : Code := { maxStack := 4, maxLocals := 3, code := jdk_65_method_30_code, exceptionTable := #[], attributes := #[] }
def k4m1 : Method := { name := "rangeCheck", desc := "(III)V", sig := { parameters := [.int, .int, .int], returnType := none }, accessFlags := 8, code := some k4c1 }
def k4c2 : Code := { maxStack := 3, maxLocals := 5, code := jdk_65_method_104_code, exceptionTable := #[], attributes := #[] }
def k4m2 : Method := { name := "fill", desc := "([IIII)V", sig := { parameters := [(.array .int), .int, .int, .int], returnType := none }, accessFlags := 9, code := some k4c2 }
/-- java/util/Arrays -/
def k4 : Class := { plain "java/util/Arrays" (some 0) with
  accessFlags := 49
  interfaces := #[]
  cf := some (fileOf pool4 14 #[.nestMembers #[975, 375, 113, 74]] #[{ accessFlags := 2, nameIndex := 5, descriptorIndex := 6, attributes := #[] }, { accessFlags := 8, nameIndex := 17, descriptorIndex := 18, attributes := #[] }, { accessFlags := 9, nameIndex := 840, descriptorIndex := 12, attributes := #[] }] 49 2 #[] #[{ accessFlags := 26, nameIndex := 715, descriptorIndex := 716, attributes := #[] }, { accessFlags := 26, nameIndex := 719, descriptorIndex := 716, attributes := #[] }, { accessFlags := 4120, nameIndex := 445, descriptorIndex := 117, attributes := #[] }])
  fields := #[{ name := "MIN_ARRAY_SORT_GRAN", type := .int, accessFlags := 26, slot := 0, constantValue := 0 }, { name := "INSERTIONSORT_THRESHOLD", type := .int, accessFlags := 26, slot := 1, constantValue := 0 }, { name := "$assertionsDisabled", type := .boolean, accessFlags := 4120, slot := 2, constantValue := 0 }]
  methods := #[k4m0, k4m1, k4m2]
  instanceTypes := #[]
  staticTypes := #[.int, .int, .boolean]
  resolved := Array.replicate 1029 none
  statics := none }

def pool5 : Array CpInfo := pool [(1, .class_ 2), (0, u "java/lang/Math"), (1, .class_ 6), (1, u "java/lang/Object"), (0, u "<init>"), (0, u "()V"), (89, .class_ 100), (1, u "java/lang/Math$RandomNumberGeneratorHolder"), (71, u "negativeZeroFloatBits"), (0, u "J"), (2, u "negativeZeroDoubleBits"), (24, u "min"), (43, u "$assertionsDisabled"), (0, u "Z"), (88, u "(II)I"), (2, u "twoToTheDoubleScaleDown"), (0, u "D"), (4, u "twoToTheDoubleScaleUp"), (9, u "E"), (3, u "PI"), (2, u "TAU"), (2, u "DEGREES_TO_RADIANS"), (0, u "RADIANS_TO_DEGREES")] 94

def k5m0 : Method := { name := "<init>", desc := "()V", sig := { parameters := [], returnType := none }, accessFlags := 2, code := none }
def k5c1 : Code := { maxStack := 2, maxLocals := 2, code := jdk_29_method_69_code, exceptionTable := #[], attributes := #[] }
def k5m1 : Method := { name := "min", desc := "(II)I", sig := { parameters := [.int, .int], returnType := some .int }, accessFlags := 9, code := some k5c1 }
/-- java/lang/Math -/
def k5 : Class := { plain "java/lang/Math" (some 0) with
  accessFlags := 49
  interfaces := #[]
  cf := some (fileOf pool5 1 #[.nestMembers #[98]] #[{ accessFlags := 2, nameIndex := 7, descriptorIndex := 8, attributes := #[] }, { accessFlags := 9, nameIndex := 201, descriptorIndex := 335, attributes := #[] }] 49 4 #[] #[{ accessFlags := 25, nameIndex := 354, descriptorIndex := 339, attributes := #[] }, { accessFlags := 25, nameIndex := 358, descriptorIndex := 339, attributes := #[] }, { accessFlags := 25, nameIndex := 361, descriptorIndex := 339, attributes := #[] }, { accessFlags := 26, nameIndex := 364, descriptorIndex := 339, attributes := #[] }, { accessFlags := 26, nameIndex := 365, descriptorIndex := 339, attributes := #[] }, { accessFlags := 26, nameIndex := 172, descriptorIndex := 173, attributes := #[] }, { accessFlags := 26, nameIndex := 176, descriptorIndex := 173, attributes := #[] }, { accessFlags := 8, nameIndex := 344, descriptorIndex := 339, attributes := #[] }, { accessFlags := 8, nameIndex := 338, descriptorIndex := 339, attributes := #[] }, { accessFlags := 4120, nameIndex := 245, descriptorIndex := 246, attributes := #[] }])
  fields := #[{ name := "E", type := .double, accessFlags := 25, slot := 0, constantValue := 0 }, { name := "PI", type := .double, accessFlags := 25, slot := 1, constantValue := 0 }, { name := "TAU", type := .double, accessFlags := 25, slot := 2, constantValue := 0 }, { name := "DEGREES_TO_RADIANS", type := .double, accessFlags := 26, slot := 3, constantValue := 0 }, { name := "RADIANS_TO_DEGREES", type := .double, accessFlags := 26, slot := 4, constantValue := 0 }, { name := "negativeZeroFloatBits", type := .long, accessFlags := 26, slot := 5, constantValue := 0 }, { name := "negativeZeroDoubleBits", type := .long, accessFlags := 26, slot := 6, constantValue := 0 }, { name := "twoToTheDoubleScaleUp", type := .double, accessFlags := 8, slot := 7, constantValue := 0 }, { name := "twoToTheDoubleScaleDown", type := .double, accessFlags := 8, slot := 8, constantValue := 0 }, { name := "$assertionsDisabled", type := .boolean, accessFlags := 4120, slot := 9, constantValue := 0 }]
  methods := #[k5m0, k5m1]
  instanceTypes := #[]
  staticTypes := #[.double, .double, .double, .double, .double, .long, .long, .double, .double, .boolean]
  resolved := Array.replicate 460 none
  statics := none }

def pool6 : Array CpInfo := pool [(1, u "java/lang/Cloneable"), (0, .class_ 1), (0, u "java/lang/Object"), (0, .class_ 3)] 3

/-- java/lang/Cloneable -/
def k6 : Class := { plain "java/lang/Cloneable" (some 0) with
  accessFlags := 1537
  interfaces := #[]
  cf := some (fileOf pool6 2 #[] #[] 1537 4 #[] #[])
  fields := #[]
  methods := #[]
  instanceTypes := #[]
  staticTypes := #[]
  resolved := Array.replicate 8 none
  statics := none }

def pool7 : Array CpInfo := pool [(1, u "java/io/Serializable"), (0, .class_ 1), (0, u "java/lang/Object"), (0, .class_ 3)] 3

/-- java/io/Serializable -/
def k7 : Class := { plain "java/io/Serializable" (some 0) with
  accessFlags := 1537
  interfaces := #[]
  cf := some (fileOf pool7 2 #[] #[] 1537 4 #[] #[])
  fields := #[]
  methods := #[]
  instanceTypes := #[]
  staticTypes := #[]
  resolved := Array.replicate 8 none
  statics := none }

/-- the primitive boolean -/
def k8 : Class := { plain "boolean" none with kind := .primitive 'Z', accessFlags := 0x411 }
/-- [Z -/
def k9 : Class := { plain "[Z" (some 0) with kind := .array 8 .boolean, interfaces := #[6, 7], accessFlags := 1041 }

/-- the primitive byte -/
def k10 : Class := { plain "byte" none with kind := .primitive 'B', accessFlags := 0x411 }
/-- [B -/
def k11 : Class := { plain "[B" (some 0) with kind := .array 10 .byte, interfaces := #[6, 7], accessFlags := 1041 }

/-- the primitive int -/
def k12 : Class := { plain "int" none with kind := .primitive 'I', accessFlags := 0x411 }
/-- [I -/
def k13 : Class := { plain "[I" (some 0) with kind := .array 12 .int, interfaces := #[6, 7], accessFlags := 1041 }

/-- the primitive long -/
def k14 : Class := { plain "long" none with kind := .primitive 'J', accessFlags := 0x411 }
/-- [J -/
def k15 : Class := { plain "[J" (some 0) with kind := .array 14 .long, interfaces := #[6, 7], accessFlags := 1041 }

def heap : Heap := #[]
def classes : Array Class := #[k0, k1, k2, k3, k4, k5, k6, k7, k8, k9, k10, k11, k12, k13, k14, k15]
def interned : List (Array UInt16 × Addr) := []
def slotsUsed : Nat := 0
def theMethod : MethodId := ⟨1, 1⟩
def args0 : Array Value := #[.int 27, .int 5]
def aboutOver (below : List Frame) : State where
  vm := { classes := classes, interned := interned.toArray }
  heap := heap
  slotsUsed := slotsUsed
  threads := #[{ frames := .invoking theMethod args0 :: below }]
def below0 : List Frame := [.native { method := ⟨0, 0⟩, args := #[] }]
def about1 : State := aboutOver below0
def p0 : Program := .bare "" "" ""
def e0 : Env := launch0.env 0 0 0
theorem w_frames : about1.frames = Frame.invoking theMethod args0 :: below0 := rfl
set_option maxRecDepth 65536 in
theorem w_args : argsFit about1.vm theMethod args0 = true := by decide +kernel
set_option maxRecDepth 65536 in
theorem w_heap : heapFits about1 = true := by decide +kernel
set_option maxRecDepth 65536 in
theorem w_runnable : about1.curStatus? = some .runnable := by decide +kernel
set_option maxRecDepth 65536 in
theorem w_alone : about1.alone = true := by decide +kernel
set_option maxRecDepth 65536 in
theorem w_named : about1.methodNamed? x = some theMethod := by decide +kernel
set_option maxRecDepth 65536 in
theorem w_hears : about1.hears theMethod below0 = true := by decide +kernel
set_option maxRecDepth 65536 in
theorem w_ripe : about1.ripe theMethod args0 below0 = true := by decide +kernel
theorem w_running : about1.status = .running := rfl
set_option maxRecDepth 65536 in
theorem w_room : about1.hasRoom e0.platform room_1 = true :=
  launch0.hasRoom_least _ room_1 (by decide +kernel) (by decide +kernel) (by decide +kernel) (by decide +kernel) (by decide +kernel) (by decide +kernel)
theorem allAtoms_all (ts : List Jvm.Cond) (a : Array Jvm.Value) (st : Jvm.State) : (allAtoms ts).before a st = ts.all (fun c => c.before a st) := by
  induction ts with
  | nil => rfl
  | cons c t ih =>
    show (Jvm.Cond.and c (allAtoms t)).before a st = _
    rw [Jvm.Cond.before_and, ih, List.all_cons]
def words1 : List Jvm.Cond := Jvm.Cond.code x code maxLocals ret :: tables_1
/-- a 'code' word, met by the world's own term for the bytes: nothing is compared byte by byte -/
theorem code_word {y : MethodName} {bytes : ByteArray} {mx : Nat} {rt : Option FieldType} {a : Array Value} {s : State} {m : MethodId} {meth : Method} {c : Code} (h1 : s.methodNamed? y = some m) (h2 : s.vm.method? m = some meth) (h3 : meth.code = some c) (h4 : c.code = bytes)
    (h5 : (c.maxLocals == mx && c.exceptionTable.isEmpty && decide (c.maxStack ≤ mostOperands) && decide (meth.sig.returnType = rt) && !meth.locks && decide (parseMethodDescriptor y.desc = some meth.sig)) = true) : (Jvm.Cond.code y bytes mx rt).before a s = true := by
  simp only [Bool.and_eq_true, beq_iff_eq, Bool.not_eq_true', decide_eq_true_eq] at h5
  obtain ⟨⟨⟨⟨⟨g1, g2⟩, g3⟩, g4⟩, g5⟩, g6⟩ := h5
  simp [Cond.before, Cond.holds, Cond.value, h1, h2, h3, h4, g1, g2, g3, g4, g5, g6]
def isCode : Jvm.Cond → Bool
  | .code _ _ _ _ => true
  | _ => false
theorem all_split {L : List Jvm.Cond} {P : Jvm.Cond → Bool} (h1 : L.all (fun c => isCode c || P c) = true) (h2 : ∀ c ∈ L.filter isCode, P c = true) : L.all P = true := by
  refine List.all_eq_true.mpr fun c hc => ?_
  have h := List.all_eq_true.mp h1 c hc
  rcases Bool.eq_false_or_eq_true (isCode c) with hi | hi
  · exact h2 c (List.mem_filter.mpr ⟨hc, hi⟩)
  · simpa [hi] using h
set_option maxRecDepth 65536 in
theorem w_c0 : (Jvm.Cond.code x code maxLocals ret).before args0 about1 = true := code_word (m := ⟨1, 1⟩) (meth := k1m1) (c := k1c1) (by decide +kernel) rfl rfl rfl (by decide +kernel)
set_option maxRecDepth 65536 in
theorem w_c1 : (Jvm.Cond.code ({ cls := "com/example/netlocus/netlocus/BucketQueue", name := "<init>", desc := "([JI)V" } : Jvm.MethodName) prog_13_method_1_code (4 : Nat) (Option.none : Option Jvm.ClassFile.FieldType)).before args0 about1 = true := code_word (m := ⟨3, 0⟩) (meth := k3m0) (c := k3c0) (by decide +kernel) rfl rfl rfl (by decide +kernel)
set_option maxRecDepth 65536 in
theorem w_c2 : (Jvm.Cond.code ({ cls := "java/lang/Object", name := "<init>", desc := "()V" } : Jvm.MethodName) object_method_1_code (1 : Nat) (Option.none : Option Jvm.ClassFile.FieldType)).before args0 about1 = true := code_word (m := ⟨0, 0⟩) (meth := k0m0) (c := k0c0) (by decide +kernel) rfl rfl rfl (by decide +kernel)
set_option maxRecDepth 65536 in
theorem w_c3 : (Jvm.Cond.code ({ cls := "java/util/Arrays", name := "fill", desc := "([IIII)V" } : Jvm.MethodName) jdk_65_method_104_code (5 : Nat) (Option.none : Option Jvm.ClassFile.FieldType)).before args0 about1 = true := code_word (m := ⟨4, 2⟩) (meth := k4m2) (c := k4c2) (by decide +kernel) rfl rfl rfl (by decide +kernel)
set_option maxRecDepth 65536 in
theorem w_c4 : (Jvm.Cond.code ({ cls := "java/util/Arrays", name := "rangeCheck", desc := "(III)V" } : Jvm.MethodName) jdk_65_method_30_code (3 : Nat) (Option.none : Option Jvm.ClassFile.FieldType)).before args0 about1 = true := code_word (m := ⟨4, 1⟩) (meth := k4m1) (c := k4c1) (by decide +kernel) rfl rfl rfl (by decide +kernel)
set_option maxRecDepth 65536 in
theorem w_c5 : (Jvm.Cond.code ({ cls := "com/example/netlocus/netlocus/BucketQueue", name := "isEmpty", desc := "()Z" } : Jvm.MethodName) prog_13_method_2_code (1 : Nat) (Option.some Jvm.ClassFile.FieldType.boolean)).before args0 about1 = true := code_word (m := ⟨3, 1⟩) (meth := k3m1) (c := k3c1) (by decide +kernel) rfl rfl rfl (by decide +kernel)
set_option maxRecDepth 65536 in
theorem w_c6 : (Jvm.Cond.code ({ cls := "com/example/netlocus/netlocus/BucketQueueIsEmptyPinLaw", name := "step", desc := "(Lcom/example/netlocus/netlocus/BucketQueue;[ZI)Z" } : Jvm.MethodName) method_3_code (5 : Nat) (Option.some Jvm.ClassFile.FieldType.boolean)).before args0 about1 = true := code_word (m := ⟨1, 2⟩) (meth := k1m2) (c := k1c2) (by decide +kernel) rfl rfl rfl (by decide +kernel)
set_option maxRecDepth 65536 in
theorem w_c7 : (Jvm.Cond.code ({ cls := "com/example/netlocus/netlocus/BucketQueue", name := "addOrRaise", desc := "(I)V" } : Jvm.MethodName) prog_13_method_3_code (5 : Nat) (Option.none : Option Jvm.ClassFile.FieldType)).before args0 about1 = true := code_word (m := ⟨3, 2⟩) (meth := k3m2) (c := k3c2) (by decide +kernel) rfl rfl rfl (by decide +kernel)
set_option maxRecDepth 65536 in
theorem w_c8 : (Jvm.Cond.code ({ cls := "java/lang/Math", name := "min", desc := "(II)I" } : Jvm.MethodName) jdk_29_method_69_code (2 : Nat) (Option.some Jvm.ClassFile.FieldType.int)).before args0 about1 = true := code_word (m := ⟨5, 1⟩) (meth := k5m1) (c := k5c1) (by decide +kernel) rfl rfl rfl (by decide +kernel)
set_option maxRecDepth 65536 in
theorem w_c9 : (Jvm.Cond.code ({ cls := "com/example/netlocus/netlocus/BucketQueue", name := "unlink", desc := "(I)V" } : Jvm.MethodName) prog_13_method_5_code (4 : Nat) (Option.none : Option Jvm.ClassFile.FieldType)).before args0 about1 = true := code_word (m := ⟨3, 4⟩) (meth := k3m4) (c := k3c4) (by decide +kernel) rfl rfl rfl (by decide +kernel)
set_option maxRecDepth 65536 in
theorem w_c10 : (Jvm.Cond.code ({ cls := "com/example/netlocus/netlocus/BucketQueue", name := "removeNearest", desc := "()I" } : Jvm.MethodName) prog_13_method_4_code (2 : Nat) (Option.some Jvm.ClassFile.FieldType.int)).before args0 about1 = true := code_word (m := ⟨3, 3⟩) (meth := k3m3) (c := k3c3) (by decide +kernel) rfl rfl rfl (by decide +kernel)
def codes1 : List Jvm.Cond := [Jvm.Cond.code x code maxLocals ret, Jvm.Cond.code ({ cls := "com/example/netlocus/netlocus/BucketQueue", name := "<init>", desc := "([JI)V" } : Jvm.MethodName) prog_13_method_1_code (4 : Nat) (Option.none : Option Jvm.ClassFile.FieldType), Jvm.Cond.code ({ cls := "java/lang/Object", name := "<init>", desc := "()V" } : Jvm.MethodName) object_method_1_code (1 : Nat) (Option.none : Option Jvm.ClassFile.FieldType), Jvm.Cond.code ({ cls := "java/util/Arrays", name := "fill", desc := "([IIII)V" } : Jvm.MethodName) jdk_65_method_104_code (5 : Nat) (Option.none : Option Jvm.ClassFile.FieldType), Jvm.Cond.code ({ cls := "java/util/Arrays", name := "rangeCheck", desc := "(III)V" } : Jvm.MethodName) jdk_65_method_30_code (3 : Nat) (Option.none : Option Jvm.ClassFile.FieldType), Jvm.Cond.code ({ cls := "com/example/netlocus/netlocus/BucketQueue", name := "isEmpty", desc := "()Z" } : Jvm.MethodName) prog_13_method_2_code (1 : Nat) (Option.some Jvm.ClassFile.FieldType.boolean), Jvm.Cond.code ({ cls := "com/example/netlocus/netlocus/BucketQueueIsEmptyPinLaw", name := "step", desc := "(Lcom/example/netlocus/netlocus/BucketQueue;[ZI)Z" } : Jvm.MethodName) method_3_code (5 : Nat) (Option.some Jvm.ClassFile.FieldType.boolean), Jvm.Cond.code ({ cls := "com/example/netlocus/netlocus/BucketQueue", name := "addOrRaise", desc := "(I)V" } : Jvm.MethodName) prog_13_method_3_code (5 : Nat) (Option.none : Option Jvm.ClassFile.FieldType), Jvm.Cond.code ({ cls := "java/lang/Math", name := "min", desc := "(II)I" } : Jvm.MethodName) jdk_29_method_69_code (2 : Nat) (Option.some Jvm.ClassFile.FieldType.int), Jvm.Cond.code ({ cls := "com/example/netlocus/netlocus/BucketQueue", name := "unlink", desc := "(I)V" } : Jvm.MethodName) prog_13_method_5_code (4 : Nat) (Option.none : Option Jvm.ClassFile.FieldType), Jvm.Cond.code ({ cls := "com/example/netlocus/netlocus/BucketQueue", name := "removeNearest", desc := "()I" } : Jvm.MethodName) prog_13_method_4_code (2 : Nat) (Option.some Jvm.ClassFile.FieldType.int)]
set_option maxRecDepth 65536 in
theorem codes_eq : words1.filter isCode = codes1 := rfl
theorem w_codes : ∀ c ∈ words1.filter isCode, c.before args0 about1 = true := by
  rw [codes_eq]
  intro c hc
  simp only [codes1, List.mem_cons, List.not_mem_nil, or_false] at hc
  rcases hc with rfl | rfl | rfl | rfl | rfl | rfl | rfl | rfl | rfl | rfl | rfl
  · exact w_c0
  · exact w_c1
  · exact w_c2
  · exact w_c3
  · exact w_c4
  · exact w_c5
  · exact w_c6
  · exact w_c7
  · exact w_c8
  · exact w_c9
  · exact w_c10
set_option maxRecDepth 65536 in
theorem w_t1 : (words1.take 24).all (fun c => isCode c || c.before args0 about1) = true := by decide +kernel
set_option maxRecDepth 65536 in
theorem w_t2 : ((words1.drop 24).take 24).all (fun c => isCode c || c.before args0 about1) = true := by decide +kernel
set_option maxRecDepth 65536 in
theorem w_t3 : ((words1.drop 24).drop 24).all (fun c => isCode c || c.before args0 about1) = true := by decide +kernel
theorem w_tables : (allAtoms (Jvm.Cond.code x code maxLocals ret :: tables_1)).before args0 about1 = true := by
  rw [allAtoms_all]
  show words1.all (fun c => c.before args0 about1) = true
  refine all_split ?_ w_codes
  rw [← List.take_append_drop 24 words1, List.all_append, w_t1, ← List.take_append_drop 24 (words1.drop 24), List.all_append, w_t2, w_t3]
  rfl
set_option maxRecDepth 65536 in
theorem w_case : (Jvm.Cond.and given_1 narrow_1).before args0 about1 = true := by decide +kernel
theorem w_applies : (headSpec (Jvm.Cond.code x code maxLocals ret :: tables_1) room_1).applies x e0.platform about1 = true :=
  (Spec.applies_iff w_frames).mpr ⟨w_running, w_runnable, w_alone, w_named, w_hears, w_ripe, w_room, w_tables⟩
theorem atStart : AtStart classFile x code maxLocals ret World_1 tables_1 room_1 Calls_1 rest_1 Pre_1 launch0 p0 e0 about1 theMethod args0 below0 :=
  ⟨lists_1, trivial, launch0.admits_env _ _ _, launch0.least_env, fairChoices_fair.cas, fairChoices_fair.clock, w_frames, w_args, w_heap, w_applies, trivial, trivial, w_case⟩
end start1
theorem witness_1 : WitnessClaimed_1 := ⟨start1.p0, start1.e0, start1.about1, start1.theMethod, start1.args0, start1.below0, start1.atStart⟩
end Jvm.Pilot.@@N@@
