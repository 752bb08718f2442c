import JvmDerived
import JvmDerived.Pilot.@@N@@Statement
import JvmDerived.Pilot.@@N@@Code
set_option linter.unusedVariables false
set_option linter.unusedSimpArgs false
namespace Jvm.OwnKit
open Sem ClassFile Op Lib Jvm.Stand Jvm.Free Jvm.LawKit Jvm.RoadKit
/-- from the frame f over the state T the run ends within P -/
def Goes (p : Program) (e : Env) (below : List Frame) (T : State) (f : JFrame) (P : State → Outcome → Prop) : Prop := ∃ U o, Steps p.tables e below (T.setTop f) U ∧ U.status = .running ∧ Ended U below o ∧ P U o
/-- only places of ws or of new cells -/
def Only (h0 : Heap) (ws : List Addr) (L : List Loc) : Prop := ∀ y ∈ L, y.base ∈ ws ∨ h0.size ≤ y.base
def Kp (h0 h : Heap) (ws : List Addr) (L : List Loc) : Prop := Keep h0 h ws ∧ Only h0 ws L
/-- Q, kept from being reduced -/
def Ap (Q : Option Value → Heap → List Loc → Prop) (v : Option Value) (h : Heap) (L : List Loc) : Prop := Q v h L
/-- a contract: called with 'as' over the heap h0, the method returns within Q -/
def Con (l : Launch) (y : MethodName) (bytes : ByteArray) (maxL : Nat) (ret : Option FieldType) (rm : Room) (Z : State) (as : Array Value) (h0 : Heap) (Q : Option Value → Heap → List Loc → Prop) : Prop :=
  ∀ ws, MetFree l y (head1 (Cond.code y bytes maxL ret :: ws) rm) (fun a U => a = as ∧ Z.Warmed39 U.vm ∧ U.heap = h0) (fun _ _ _ _ _ => True) (fun _ U o U' => ∃ v L, o = .returned v ∧ Ap Q v U'.heap L ∧ FrameEnd U o U' L rm.cells rm.slots)
section G
variable {p : Program} {l : Launch} {e : Env} {R : Room} {s : State} {m : MethodId} {args : Array Value} {below : List Frame} {meth : Method} {c : Code} {T T' : State} {locs : List Loc} {cells slots : Nat} {P : State → Outcome → Prop} {f f' : JFrame} {Z : State} {a0 : Array Value} {h h' h0 : Heap} {a b : Addr} {ws ws' : List Addr} {Lc Lc' : List Loc} {sl : Nat} {v : Value}
theorem Goes.via (q : ∀ t, Steps p.tables e below (T'.setTop f') t → Steps p.tables e below (T.setTop f) t) (k : Goes p e below T' f' P) : Goes p e below T f P := by
  obtain ⟨U, o, h1, h2⟩ := k
  exact ⟨U, o, q U h1, h2⟩
theorem Goes.thru (q : Steps p.tables e below (T.setTop f) (T'.setTop f')) (k : Goes p e below T' f' P) : Goes p e below T f P := by
  obtain ⟨U, o, h1, h2⟩ := k
  exact ⟨U, o, q.trans h1, h2⟩
theorem Goes.ite {c : Prop} [Decidable c] {F : Int32 → JFrame} {a b : Int32} (h1 : c → Goes p e below T (F a) P → Goes p e below T f P) (h2 : ¬ c → Goes p e below T (F b) P → Goes p e below T f P) (k : Goes p e below T (F (if c then a else b)) P) : Goes p e below T f P := by
  by_cases hc : c
  · rw [if_pos hc] at k; exact h1 hc k
  · rw [if_neg hc] at k; exact h2 hc k
theorem Goes.cast (q : f = f') (k : Goes p e below T f' P) : Goes p e below T f P := q ▸ k
theorem Kp.refl (h : Heap) (ws : List Addr) : Kp h h ws [] := ⟨Keep.refl h ws, fun _ q => nomatch q⟩
theorem Kp.ext (K : Kp h0 h ws Lc) (E : Ext h h') : Kp h0 h' ws Lc := ⟨K.1.ext E, K.2⟩
theorem Kp.wr (K : Kp h0 h ws Lc) (W : Wr h h' a sl v) (q : a ∈ ws ∨ h0.size ≤ a) : Kp h0 h' ws (Lc ++ [⟨a, sl⟩]) :=
  ⟨K.1.wr W q, fun y hy => (List.mem_append.mp hy).elim (K.2 y) fun z => by cases List.mem_singleton.mp z; exact q⟩
theorem Kp.call (K : Kp h0 h ws Lc) (K' : Kp h h' ws' Lc') (q : ∀ x ∈ ws', x ∈ ws ∨ h0.size ≤ x) : Kp h0 h' ws (Lc ++ Lc') :=
  ⟨K.1.trans K'.1 q, fun y hy => (List.mem_append.mp hy).elim (K.2 y) fun z => (K'.2 y z).elim (q _) fun u => Or.inr (Nat.le_trans K.1.1 u)⟩
theorem Kp.size (K : Kp h0 h ws Lc) : h0.size ≤ h.size := K.1.1
theorem Kp.fr (K : Kp h0 h [] Lc) : Fr h0.size Lc := fun y hy => (K.2 y hy).elim (fun z => nomatch z) id
theorem Con.of_body {l : Launch} {y : MethodName} {bytes : ByteArray} {maxL : Nat} {ret : Option FieldType} {rm : Room} {Z : State} {as : Array Value} {h0 : Heap} {Q : Option Value → Heap → List Loc → Prop} (hn : plainFor y = true)
    (body : ∀ (p : Program) (e : Env) (s : State) (m : MethodId) (below : List Frame) (meth : Method) (c : Code) (T : State), Stand p l e rm s m as below meth c T [] 0 0 → p.tables.exec = Jvm.exec → c.code = bytes → c.maxLocals = maxL → Z.Warmed39 s.vm → s.vm.findClass y.cls = some m.cls → meth.name = y.name → meth.sig.returnType = ret → meth.locks = false → T.heap = h0 →
      Goes p e below T (entryFrame m as maxL) (fun U o => ∃ v L, o = .returned v ∧ Ap Q v U.heap L ∧ FrameEnd s o U L rm.cells rm.slots)) : Con l y bytes maxL ret rm Z as h0 Q := by
  intro ws
  refine MetFree.of_bodySF hn hisR ?_
  intro p e s m args below meth c s₁ Bd hml hP _
  obtain ⟨rfl, hZ, hh⟩ := hP
  exact body p e s m below meth c s₁ (Stand.of_body Bd) Bd.exec Bd.bytes hml hZ (findClass_of_methodNamed Bd.named) (name_of_methodNamed Bd.named Bd.method).1 Bd.returns (BodyLoose.notSynchronized Bd) (by rw [← hh, Bd.state]; rfl)
theorem Con.back {y : MethodName} {bytes : ByteArray} {maxL : Nat} {ret : Option FieldType} {rm : Room} {len W : Nat} {as' : Array Value} {Q : Option Value → Heap → List Loc → Prop} (hM : Con l y bytes maxL ret rm Z as' h Q)
    (hZ : Z.Warmed39 s.vm) (wc : (Cond.code y bytes maxL ret).before a0 Z = true) (wz : (Cond.initialized y.cls).before a0 Z = true) (hf : rm.frames + 1 ≤ R.frames) (hl : W + (maxL + 11) + rm.locals ≤ R.locals) :
    Back l R p e below s args y len W (fun A a => a = as' ∧ A.U.heap = h ∧ A.cells + rm.cells ≤ R.cells ∧ A.slots + rm.slots ≤ R.slots)
      (fun A _ v B => ∃ L, Q v B.U.heap L ∧ B.locs = A.locs ++ L ∧ B.cells = A.cells + rm.cells ∧ B.slots = A.slots + rm.slots) := backOf (hM []) hZ wc wz hf hl
/-- the end of a walk, for any of the returning instructions -/
theorem Goes.end (X : Stand p l e R s m args below meth c T locs cells slots) (hlk : meth.locks = false) {v : Option Value} (hv : meth.sig.returnType = none → v = none)
    (hs : ∀ fs, (∀ (f : JFrame) (acts : List Action), f.method = m → f.locked = none → f.entered = [] → (doReturn e (T.setTop f) acts v).1 = T.setFrames fs) → Steps p.tables e below (T.setTop f) (T.setFrames fs))
    {Q : Option Value → Heap → List Loc → Prop} {k n : Nat} (hk : cells ≤ k) (hn : slots ≤ n) (q : Q v T.heap locs) : Goes p e below T f (fun U o => ∃ v L, o = .returned v ∧ Ap Q v U.heap L ∧ FrameEnd s o U L k n) := by
  obtain ⟨fs, hr, hrun, hended, hW, hsame⟩ := X.leave hv hlk
  exact ⟨_, _, hs fs hr, hrun, hended, v, locs, rfl, q, ⟨_, rfl⟩, hW, hsame.mono hk hn⟩
theorem retI' (X : Stand p l e R s m args below meth c T locs cells slots) (hx : p.tables.exec = Jvm.exec) {pc : Nat} {Ls : Array Slot} {z : Int32} {rest : List Value} (hret : meth.sig.returnType = some .int) (hd : decode c.code pc = .ok (.ireturn, 1)) {fs : List Frame}
    (hl : ∀ (f : JFrame) (acts : List Action), f.method = m → f.locked = none → f.entered = [] → (doReturn e (T.setTop f) acts (some (.int z))).1 = T.setFrames fs) : Steps p.tables e below (T.setTop (mkF m pc Ls (.int z :: rest))) (T.setFrames fs) :=
  retOut X hx hret rfl (Or.inl ⟨rfl, Or.inl rfl, z, rfl⟩) hd hl
variable {pc pc' : Nat} {L L' : Array Slot} {S : List Value}
variable {Q : Option Value → Heap → List Loc → Prop} {k n : Nat}
theorem Goes.retI (X : Stand p l e R s m args below meth c T locs cells slots) (hx : p.tables.exec = Jvm.exec) (hret : meth.sig.returnType = some .int) (hlk : meth.locks = false) {z : Int32} (hd : decode c.code pc = .ok (.ireturn, 1)) (hk : cells ≤ k) (hn : slots ≤ n) (q : Q (some (.int z)) T.heap locs) :
    Goes p e below T (mkF m pc L (.int z :: S)) (fun U o => ∃ v L, o = .returned v ∧ Ap Q v U.heap L ∧ FrameEnd s o U L k n) :=
  Goes.end X hlk (fun h => by rw [hret] at h; cases h) (fun _ hr => retOut X hx hret rfl (Or.inl ⟨rfl, Or.inl rfl, z, rfl⟩) hd hr) hk hn q
theorem Goes.retN (X : Stand p l e R s m args below meth c T locs cells slots) (hx : p.tables.exec = Jvm.exec) {t : FieldType} (hret : meth.sig.returnType = some t) (ht : t = .boolean ∨ t = .byte ∨ t = .char ∨ t = .short) (hlk : meth.locks = false) {z : Int32} (hd : decode c.code pc = .ok (.ireturn, 1)) (hk : cells ≤ k) (hn : slots ≤ n) (q : Q (some (.int (nar t z))) T.heap locs) :
    Goes p e below T (mkF m pc L (.int z :: S)) (fun U o => ∃ v L, o = .returned v ∧ Ap Q v U.heap L ∧ FrameEnd s o U L k n) :=
  Goes.end X hlk (fun h => by rw [hret] at h; cases h) (fun _ hr => Jvm.RoadKit.retN X hx hret ht hd hr) hk hn q
theorem Goes.retJ (X : Stand p l e R s m args below meth c T locs cells slots) (hx : p.tables.exec = Jvm.exec) (hret : meth.sig.returnType = some .long) (hlk : meth.locks = false) {z : Int64} (hd : decode c.code pc = .ok (.lreturn, 1)) (hk : cells ≤ k) (hn : slots ≤ n) (q : Q (some (.long z)) T.heap locs) :
    Goes p e below T (mkF m pc L (.long z :: S)) (fun U o => ∃ v L, o = .returned v ∧ Ap Q v U.heap L ∧ FrameEnd s o U L k n) :=
  Goes.end X hlk (fun h => by rw [hret] at h; cases h) (fun _ hr => retOut X hx hret rfl (Or.inr (Or.inl ⟨rfl, rfl, z, rfl⟩)) hd hr) hk hn q
theorem Goes.retA (X : Stand p l e R s m args below meth c T locs cells slots) (hx : p.tables.exec = Jvm.exec) {t : FieldType} (hret : meth.sig.returnType = some t) (ht : t.isReference = true) (hlk : meth.locks = false) {z : Value} (hz : z.isRef = true) (hnr : narrow t z = z) (hd : decode c.code pc = .ok (.areturn, 1)) (hk : cells ≤ k) (hn : slots ≤ n) (q : Q (some z) T.heap locs) :
    Goes p e below T (mkF m pc L (z :: S)) (fun U o => ∃ v L, o = .returned v ∧ Ap Q v U.heap L ∧ FrameEnd s o U L k n) :=
  Goes.end X hlk (fun h => by rw [hret] at h; cases h) (fun _ hr => retOut X hx hret hnr (Or.inr (Or.inr (Or.inr (Or.inr ⟨rfl, ht, hz⟩)))) hd hr) hk hn q
theorem Goes.retV (X : Stand p l e R s m args below meth c T locs cells slots) (hx : p.tables.exec = Jvm.exec) (hret : meth.sig.returnType = none) (hlk : meth.locks = false) (hd : decode c.code pc = .ok (.return_, 1)) (hk : cells ≤ k) (hn : slots ≤ n) (q : Q none T.heap locs) :
    Goes p e below T (mkF m pc L []) (fun U o => ∃ v L, o = .returned v ∧ Ap Q v U.heap L ∧ FrameEnd s o U L k n) :=
  Goes.end X hlk (fun _ => rfl) (fun _ hr => X.returnOut hx hret hd hr) hk hn q
theorem G.aload (X : Stand p l e R s m args below meth c T locs cells slots) (hx : p.tables.exec = Jvm.exec) {k : Nat} {v : Value} (hd : decode c.code pc = .ok (.aload k, 2)) (hl : L[k]? = some (.val v)) (hv : v.isRef = true) (hp : pc + 2 = pc') (q : Goes p e below T (mkF m pc' L (v :: S)) P) : Goes p e below T (mkF m pc L (S)) P := by
  subst hp; exact Goes.via (fun _ u => Jvm.Free.XS.aload X.here hx rfl hd hl hv u) q
theorem G.aloadN (X : Stand p l e R s m args below meth c T locs cells slots) (hx : p.tables.exec = Jvm.exec) {k : Fin 4} {v : Value} (hd : decode c.code pc = .ok (.aload_n k, 1)) (hl : L[k.val]? = some (.val v)) (hv : v.isRef = true) (hp : pc + 1 = pc') (q : Goes p e below T (mkF m pc' L (v :: S)) P) : Goes p e below T (mkF m pc L (S)) P := by
  subst hp; exact Goes.via (fun _ u => Jvm.Free.XS.aloadN X.here hx rfl hd hl hv u) q
theorem G.iload (X : Stand p l e R s m args below meth c T locs cells slots) (hx : p.tables.exec = Jvm.exec) {k : Nat} {v : Int32} (hd : decode c.code pc = .ok (.iload k, 2)) (hl : L[k]? = some (.val (.int v))) (hp : pc + 2 = pc') (q : Goes p e below T (mkF m pc' L (.int v :: S)) P) : Goes p e below T (mkF m pc L (S)) P := by
  subst hp; exact Goes.via (fun _ u => Jvm.Free.XS.iload X.here hx rfl hd hl u) q
theorem G.iloadN (X : Stand p l e R s m args below meth c T locs cells slots) (hx : p.tables.exec = Jvm.exec) {k : Fin 4} {v : Int32} (hd : decode c.code pc = .ok (.iload_n k, 1)) (hl : L[k.val]? = some (.val (.int v))) (hp : pc + 1 = pc') (q : Goes p e below T (mkF m pc' L (.int v :: S)) P) : Goes p e below T (mkF m pc L (S)) P := by
  subst hp; exact Goes.via (fun _ u => Jvm.Free.XS.iloadN X.here hx rfl hd hl u) q
theorem G.lload (X : Stand p l e R s m args below meth c T locs cells slots) (hx : p.tables.exec = Jvm.exec) {k : Nat} {v : Int64} (hd : decode c.code pc = .ok (.lload k, 2)) (hl : L[k]? = some (.val (.long v))) (hp : pc + 2 = pc') (q : Goes p e below T (mkF m pc' L (.long v :: S)) P) : Goes p e below T (mkF m pc L (S)) P := by
  subst hp; exact Goes.via (fun _ u => Jvm.Free.XT.lload X.here hx rfl hd hl u) q
theorem G.lloadN (X : Stand p l e R s m args below meth c T locs cells slots) (hx : p.tables.exec = Jvm.exec) {k : Fin 4} {v : Int64} (hd : decode c.code pc = .ok (.lload_n k, 1)) (hl : L[k.val]? = some (.val (.long v))) (hp : pc + 1 = pc') (q : Goes p e below T (mkF m pc' L (.long v :: S)) P) : Goes p e below T (mkF m pc L (S)) P := by
  subst hp; exact Goes.via (fun _ u => Jvm.Free.XT.lloadN X.here hx rfl hd hl u) q
theorem G.istore (X : Stand p l e R s m args below meth c T locs cells slots) (hx : p.tables.exec = Jvm.exec) {k : Nat} {v : Int32} (hd : decode c.code pc = .ok (.istore k, 2)) (hl : storeLocals L k (.int v) = some L') (hp : pc + 2 = pc') (q : Goes p e below T (mkF m pc' L' (S)) P) : Goes p e below T (mkF m pc L (.int v :: S)) P := by
  subst hp; exact Goes.via (fun _ u => Jvm.Free.XS.istore X.here hx rfl hd rfl hl u) q
theorem G.istoreN (X : Stand p l e R s m args below meth c T locs cells slots) (hx : p.tables.exec = Jvm.exec) {k : Fin 4} {v : Int32} (hd : decode c.code pc = .ok (.istore_n k, 1)) (hl : storeLocals L k.val (.int v) = some L') (hp : pc + 1 = pc') (q : Goes p e below T (mkF m pc' L' (S)) P) : Goes p e below T (mkF m pc L (.int v :: S)) P := by
  subst hp; exact Goes.via (fun _ u => Jvm.Free.XS.istoreN X.here hx rfl hd rfl hl u) q
theorem G.lstore (X : Stand p l e R s m args below meth c T locs cells slots) (hx : p.tables.exec = Jvm.exec) {k : Nat} {v : Int64} (hd : decode c.code pc = .ok (.lstore k, 2)) (hl : storeLocals L k (.long v) = some L') (hp : pc + 2 = pc') (q : Goes p e below T (mkF m pc' L' (S)) P) : Goes p e below T (mkF m pc L (.long v :: S)) P := by
  subst hp; exact Goes.via (fun _ u => Jvm.Free.XT.lstore X.here hx rfl hd rfl hl u) q
theorem G.lstoreN (X : Stand p l e R s m args below meth c T locs cells slots) (hx : p.tables.exec = Jvm.exec) {k : Fin 4} {v : Int64} (hd : decode c.code pc = .ok (.lstore_n k, 1)) (hl : storeLocals L k.val (.long v) = some L') (hp : pc + 1 = pc') (q : Goes p e below T (mkF m pc' L' (S)) P) : Goes p e below T (mkF m pc L (.long v :: S)) P := by
  subst hp; exact Goes.via (fun _ u => Jvm.Free.XT.lstoreN X.here hx rfl hd rfl hl u) q
theorem G.astore (X : Stand p l e R s m args below meth c T locs cells slots) (hx : p.tables.exec = Jvm.exec) {k : Nat} {v : Value} (hd : decode c.code pc = .ok (.astore k, 2)) (hv : v.isRef = true) (hl : storeLocals L k v = some L') (hp : pc + 2 = pc') (q : Goes p e below T (mkF m pc' L' (S)) P) : Goes p e below T (mkF m pc L (v :: S)) P := by
  subst hp; exact Goes.via (fun _ u => Jvm.Free.XS.astore X.here hx rfl hd rfl hv hl u) q
theorem G.astoreN (X : Stand p l e R s m args below meth c T locs cells slots) (hx : p.tables.exec = Jvm.exec) {k : Fin 4} {v : Value} (hd : decode c.code pc = .ok (.astore_n k, 1)) (hv : v.isRef = true) (hl : storeLocals L k.val v = some L') (hp : pc + 1 = pc') (q : Goes p e below T (mkF m pc' L' (S)) P) : Goes p e below T (mkF m pc L (v :: S)) P := by
  subst hp; exact Goes.via (fun _ u => Jvm.Free.XS.astoreN X.here hx rfl hd rfl hv hl u) q
theorem G.iinc (X : Stand p l e R s m args below meth c T locs cells slots) (hx : p.tables.exec = Jvm.exec) {k : Nat} {cst : Int} {v : Int32} (hd : decode c.code pc = .ok (.iinc k cst, 3)) (hl : L[k]? = some (.val (.int v))) (hl' : storeLocals L k (.int (v + Int32.ofInt cst)) = some L') (hp : pc + 3 = pc') (q : Goes p e below T (mkF m pc' L' (S)) P) : Goes p e below T (mkF m pc L (S)) P := by
  subst hp; exact Goes.via (fun _ u => Jvm.Free.XS.iinc X.here hx rfl hd hl hl' u) q
theorem G.iconst (X : Stand p l e R s m args below meth c T locs cells slots) (hx : p.tables.exec = Jvm.exec) {i : Int} {z : Int32} (hd : decode c.code pc = .ok (.iconst i, 1)) (hz : Int32.ofInt i = z) (hp : pc + 1 = pc') (q : Goes p e below T (mkF m pc' L (.int z :: S)) P) : Goes p e below T (mkF m pc L S) P := by
  subst hp hz; exact Goes.via (fun _ u => Jvm.Free.XS.iconst X.here hx rfl hd u) q
theorem G.bipush (X : Stand p l e R s m args below meth c T locs cells slots) (hx : p.tables.exec = Jvm.exec) {i : Int} {z : Int32} (hd : decode c.code pc = .ok (.bipush i, 2)) (hz : (Int8.ofInt i).toInt32 = z) (hp : pc + 2 = pc') (q : Goes p e below T (mkF m pc' L (.int z :: S)) P) : Goes p e below T (mkF m pc L S) P := by
  subst hp hz; exact Goes.via (fun _ u => Jvm.Free.XS.bipush X.here hx rfl hd u) q
theorem G.sipush (X : Stand p l e R s m args below meth c T locs cells slots) (hx : p.tables.exec = Jvm.exec) {i : Int} {z : Int32} (hd : decode c.code pc = .ok (.sipush i, 3)) (hz : (Int16.ofInt i).toInt32 = z) (hp : pc + 3 = pc') (q : Goes p e below T (mkF m pc' L (.int z :: S)) P) : Goes p e below T (mkF m pc L S) P := by
  subst hp hz; exact Goes.via (fun _ u => Jvm.Free.XS.sipush X.here hx rfl hd u) q
theorem G.lconst (X : Stand p l e R s m args below meth c T locs cells slots) (hx : p.tables.exec = Jvm.exec) {k : Fin 2} {z : Int64} (hd : decode c.code pc = .ok (.lconst k, 1)) (hz : Int64.ofNat k = z) (hp : pc + 1 = pc') (q : Goes p e below T (mkF m pc' L (.long z :: S)) P) : Goes p e below T (mkF m pc L S) P := by
  subst hp hz; exact Goes.via (fun _ u => Jvm.Free.XT.lconst X.here hx rfl hd u) q
theorem G.aconstNull (X : Stand p l e R s m args below meth c T locs cells slots) (hx : p.tables.exec = Jvm.exec) (hd : decode c.code pc = .ok (.aconst_null, 1)) (hp : pc + 1 = pc') (q : Goes p e below T (mkF m pc' L (.null :: S)) P) : Goes p e below T (mkF m pc L (S)) P := by
  subst hp; exact Goes.via (fun _ u => Jvm.Free.XS.aconstNull X.here hx rfl hd u) q
theorem G.iadd (X : Stand p l e R s m args below meth c T locs cells slots) (hx : p.tables.exec = Jvm.exec) {x y : Int32} (hd : decode c.code pc = .ok (.iadd, 1)) (hp : pc + 1 = pc') (q : Goes p e below T (mkF m pc' L (.int (x + y) :: S)) P) : Goes p e below T (mkF m pc L (.int y :: .int x :: S)) P := by
  subst hp; exact Goes.via (fun _ u => Jvm.Free.XS.iadd X.here hx rfl hd rfl u) q
theorem G.isub (X : Stand p l e R s m args below meth c T locs cells slots) (hx : p.tables.exec = Jvm.exec) {x y : Int32} (hd : decode c.code pc = .ok (.isub, 1)) (hp : pc + 1 = pc') (q : Goes p e below T (mkF m pc' L (.int (x - y) :: S)) P) : Goes p e below T (mkF m pc L (.int y :: .int x :: S)) P := by
  subst hp; exact Goes.via (fun _ u => Jvm.Free.XS.isub X.here hx rfl hd rfl u) q
theorem G.iand (X : Stand p l e R s m args below meth c T locs cells slots) (hx : p.tables.exec = Jvm.exec) {x y : Int32} (hd : decode c.code pc = .ok (.iand, 1)) (hp : pc + 1 = pc') (q : Goes p e below T (mkF m pc' L (.int (x &&& y) :: S)) P) : Goes p e below T (mkF m pc L (.int y :: .int x :: S)) P := by
  subst hp; exact Goes.via (fun _ u => Jvm.Free.XS.iand X.here hx rfl hd rfl u) q
theorem G.imul (X : Stand p l e R s m args below meth c T locs cells slots) (hx : p.tables.exec = Jvm.exec) {x y : Int32} (hd : decode c.code pc = .ok (.imul, 1)) (hp : pc + 1 = pc') (q : Goes p e below T (mkF m pc' L (.int (x * y) :: S)) P) : Goes p e below T (mkF m pc L (.int y :: .int x :: S)) P := by
  subst hp; exact Goes.via (fun _ u => Jvm.Free.XS.imul X.here hx rfl hd rfl u) q
theorem G.ior (X : Stand p l e R s m args below meth c T locs cells slots) (hx : p.tables.exec = Jvm.exec) {x y : Int32} (hd : decode c.code pc = .ok (.ior, 1)) (hp : pc + 1 = pc') (q : Goes p e below T (mkF m pc' L (.int (x ||| y) :: S)) P) : Goes p e below T (mkF m pc L (.int y :: .int x :: S)) P := by
  subst hp; exact Goes.via (fun _ u => Jvm.Free.XT.ior X.here hx rfl hd rfl u) q
theorem G.ixor (X : Stand p l e R s m args below meth c T locs cells slots) (hx : p.tables.exec = Jvm.exec) {x y : Int32} (hd : decode c.code pc = .ok (.ixor, 1)) (hp : pc + 1 = pc') (q : Goes p e below T (mkF m pc' L (.int (x ^^^ y) :: S)) P) : Goes p e below T (mkF m pc L (.int y :: .int x :: S)) P := by
  subst hp; exact Goes.via (fun _ u => Jvm.Free.XT.ixor X.here hx rfl hd rfl u) q
theorem G.ishl (X : Stand p l e R s m args below meth c T locs cells slots) (hx : p.tables.exec = Jvm.exec) {x y : Int32} (hd : decode c.code pc = .ok (.ishl, 1)) (hp : pc + 1 = pc') (q : Goes p e below T (mkF m pc' L (.int (x <<< (y &&& 31)) :: S)) P) : Goes p e below T (mkF m pc L (.int y :: .int x :: S)) P := by
  subst hp; exact Goes.via (fun _ u => Jvm.Free.XT.ishl X.here hx rfl hd rfl u) q
theorem G.ishr (X : Stand p l e R s m args below meth c T locs cells slots) (hx : p.tables.exec = Jvm.exec) {x y : Int32} (hd : decode c.code pc = .ok (.ishr, 1)) (hp : pc + 1 = pc') (q : Goes p e below T (mkF m pc' L (.int (x >>> (y &&& 31)) :: S)) P) : Goes p e below T (mkF m pc L (.int y :: .int x :: S)) P := by
  subst hp; exact Goes.via (fun _ u => Jvm.Free.XT.ishr X.here hx rfl hd rfl u) q
theorem G.iushr (X : Stand p l e R s m args below meth c T locs cells slots) (hx : p.tables.exec = Jvm.exec) {x y : Int32} (hd : decode c.code pc = .ok (.iushr, 1)) (hp : pc + 1 = pc') (q : Goes p e below T (mkF m pc' L (.int (Jvm.Free.XT.ushr x y) :: S)) P) : Goes p e below T (mkF m pc L (.int y :: .int x :: S)) P := by
  subst hp; exact Goes.via (fun _ u => Jvm.Free.XT.iushr X.here hx rfl hd rfl u) q
theorem G.idiv (X : Stand p l e R s m args below meth c T locs cells slots) (hx : p.tables.exec = Jvm.exec) {x y : Int32} (hd : decode c.code pc = .ok (.idiv, 1)) (hy : y ≠ 0) (hp : pc + 1 = pc') (q : Goes p e below T (mkF m pc' L (.int (x / y) :: S)) P) : Goes p e below T (mkF m pc L (.int y :: .int x :: S)) P := by
  subst hp; exact Goes.via (fun _ u => Jvm.Free.XS.idiv X.here hx rfl hd rfl hy u) q
theorem G.irem (X : Stand p l e R s m args below meth c T locs cells slots) (hx : p.tables.exec = Jvm.exec) {x y : Int32} (hd : decode c.code pc = .ok (.irem, 1)) (hy : y ≠ 0) (hp : pc + 1 = pc') (q : Goes p e below T (mkF m pc' L (.int (x % y) :: S)) P) : Goes p e below T (mkF m pc L (.int y :: .int x :: S)) P := by
  subst hp; exact Goes.via (fun _ u => Jvm.RoadKit.iremM X hx rfl hd rfl hy u) q
theorem G.ineg (X : Stand p l e R s m args below meth c T locs cells slots) (hx : p.tables.exec = Jvm.exec) {x : Int32} (hd : decode c.code pc = .ok (.ineg, 1)) (hp : pc + 1 = pc') (q : Goes p e below T (mkF m pc' L (.int (-x) :: S)) P) : Goes p e below T (mkF m pc L (.int x :: S)) P := by
  subst hp; exact Goes.via (fun _ u => Jvm.Free.XS.ineg X.here hx rfl hd rfl u) q
theorem G.ladd (X : Stand p l e R s m args below meth c T locs cells slots) (hx : p.tables.exec = Jvm.exec) {x y : Int64} (hd : decode c.code pc = .ok (.ladd, 1)) (hp : pc + 1 = pc') (q : Goes p e below T (mkF m pc' L (.long (x + y) :: S)) P) : Goes p e below T (mkF m pc L (.long y :: .long x :: S)) P := by
  subst hp; exact Goes.via (fun _ u => Jvm.Free.XT.ladd X.here hx rfl hd rfl u) q
theorem G.lsub (X : Stand p l e R s m args below meth c T locs cells slots) (hx : p.tables.exec = Jvm.exec) {x y : Int64} (hd : decode c.code pc = .ok (.lsub, 1)) (hp : pc + 1 = pc') (q : Goes p e below T (mkF m pc' L (.long (x - y) :: S)) P) : Goes p e below T (mkF m pc L (.long y :: .long x :: S)) P := by
  subst hp; exact Goes.via (fun _ u => Jvm.Free.XT.lsub X.here hx rfl hd rfl u) q
theorem G.lmul (X : Stand p l e R s m args below meth c T locs cells slots) (hx : p.tables.exec = Jvm.exec) {x y : Int64} (hd : decode c.code pc = .ok (.lmul, 1)) (hp : pc + 1 = pc') (q : Goes p e below T (mkF m pc' L (.long (x * y) :: S)) P) : Goes p e below T (mkF m pc L (.long y :: .long x :: S)) P := by
  subst hp; exact Goes.via (fun _ u => Jvm.Free.XT.lmul X.here hx rfl hd rfl u) q
theorem G.land (X : Stand p l e R s m args below meth c T locs cells slots) (hx : p.tables.exec = Jvm.exec) {x y : Int64} (hd : decode c.code pc = .ok (.land, 1)) (hp : pc + 1 = pc') (q : Goes p e below T (mkF m pc' L (.long (x &&& y) :: S)) P) : Goes p e below T (mkF m pc L (.long y :: .long x :: S)) P := by
  subst hp; exact Goes.via (fun _ u => Jvm.Free.XT.land X.here hx rfl hd rfl u) q
theorem G.lor (X : Stand p l e R s m args below meth c T locs cells slots) (hx : p.tables.exec = Jvm.exec) {x y : Int64} (hd : decode c.code pc = .ok (.lor, 1)) (hp : pc + 1 = pc') (q : Goes p e below T (mkF m pc' L (.long (x ||| y) :: S)) P) : Goes p e below T (mkF m pc L (.long y :: .long x :: S)) P := by
  subst hp; exact Goes.via (fun _ u => Jvm.Free.XT.lor X.here hx rfl hd rfl u) q
theorem G.lxor (X : Stand p l e R s m args below meth c T locs cells slots) (hx : p.tables.exec = Jvm.exec) {x y : Int64} (hd : decode c.code pc = .ok (.lxor, 1)) (hp : pc + 1 = pc') (q : Goes p e below T (mkF m pc' L (.long (x ^^^ y) :: S)) P) : Goes p e below T (mkF m pc L (.long y :: .long x :: S)) P := by
  subst hp; exact Goes.via (fun _ u => Jvm.Free.XT.lxor X.here hx rfl hd rfl u) q
theorem G.lshl (X : Stand p l e R s m args below meth c T locs cells slots) (hx : p.tables.exec = Jvm.exec) {x : Int64} {y : Int32} (hd : decode c.code pc = .ok (.lshl, 1)) (hp : pc + 1 = pc') (q : Goes p e below T (mkF m pc' L (.long (x <<< (y.toInt64 &&& 63)) :: S)) P) : Goes p e below T (mkF m pc L (.int y :: .long x :: S)) P := by
  subst hp; exact Goes.via (fun _ u => Jvm.Free.XT.lshl X.here hx rfl hd rfl u) q
theorem G.lshr (X : Stand p l e R s m args below meth c T locs cells slots) (hx : p.tables.exec = Jvm.exec) {x : Int64} {y : Int32} (hd : decode c.code pc = .ok (.lshr, 1)) (hp : pc + 1 = pc') (q : Goes p e below T (mkF m pc' L (.long (x >>> (y.toInt64 &&& 63)) :: S)) P) : Goes p e below T (mkF m pc L (.int y :: .long x :: S)) P := by
  subst hp; exact Goes.via (fun _ u => Jvm.Free.XT.lshr X.here hx rfl hd rfl u) q
theorem G.lushr (X : Stand p l e R s m args below meth c T locs cells slots) (hx : p.tables.exec = Jvm.exec) {x : Int64} {y : Int32} (hd : decode c.code pc = .ok (.lushr, 1)) (hp : pc + 1 = pc') (q : Goes p e below T (mkF m pc' L (.long (Jvm.Free.XT.ushrL x y) :: S)) P) : Goes p e below T (mkF m pc L (.int y :: .long x :: S)) P := by
  subst hp; exact Goes.via (fun _ u => Jvm.Free.XT.lushr X.here hx rfl hd rfl u) q
theorem G.ldiv (X : Stand p l e R s m args below meth c T locs cells slots) (hx : p.tables.exec = Jvm.exec) {x y : Int64} (hd : decode c.code pc = .ok (.ldiv, 1)) (hy : y ≠ 0) (hp : pc + 1 = pc') (q : Goes p e below T (mkF m pc' L (.long (x / y) :: S)) P) : Goes p e below T (mkF m pc L (.long y :: .long x :: S)) P := by
  subst hp; exact Goes.via (fun _ u => Jvm.Free.XT.ldiv X.here hx rfl hd rfl hy u) q
theorem G.lrem (X : Stand p l e R s m args below meth c T locs cells slots) (hx : p.tables.exec = Jvm.exec) {x y : Int64} (hd : decode c.code pc = .ok (.lrem, 1)) (hy : y ≠ 0) (hp : pc + 1 = pc') (q : Goes p e below T (mkF m pc' L (.long (x % y) :: S)) P) : Goes p e below T (mkF m pc L (.long y :: .long x :: S)) P := by
  subst hp; exact Goes.via (fun _ u => Jvm.Free.XT.lrem X.here hx rfl hd rfl hy u) (by rw [lrem_mod]; exact q)
theorem G.lneg (X : Stand p l e R s m args below meth c T locs cells slots) (hx : p.tables.exec = Jvm.exec) {x : Int64} (hd : decode c.code pc = .ok (.lneg, 1)) (hp : pc + 1 = pc') (q : Goes p e below T (mkF m pc' L (.long (-x) :: S)) P) : Goes p e below T (mkF m pc L (.long x :: S)) P := by
  subst hp; exact Goes.via (fun _ u => Jvm.Free.XT.lneg X.here hx rfl hd rfl u) q
theorem G.i2l (X : Stand p l e R s m args below meth c T locs cells slots) (hx : p.tables.exec = Jvm.exec) {x : Int32} (hd : decode c.code pc = .ok (.i2l, 1)) (hp : pc + 1 = pc') (q : Goes p e below T (mkF m pc' L (.long (x.toInt64) :: S)) P) : Goes p e below T (mkF m pc L (.int x :: S)) P := by
  subst hp; exact Goes.via (fun _ u => Jvm.Free.XT.i2l X.here hx rfl hd rfl u) q
theorem G.i2b (X : Stand p l e R s m args below meth c T locs cells slots) (hx : p.tables.exec = Jvm.exec) {x : Int32} (hd : decode c.code pc = .ok (.i2b, 1)) (hp : pc + 1 = pc') (q : Goes p e below T (mkF m pc' L (.int (x.toInt8.toInt32) :: S)) P) : Goes p e below T (mkF m pc L (.int x :: S)) P := by
  subst hp; exact Goes.via (fun _ u => Jvm.Free.XT.i2b X.here hx rfl hd rfl u) q
theorem G.i2c (X : Stand p l e R s m args below meth c T locs cells slots) (hx : p.tables.exec = Jvm.exec) {x : Int32} (hd : decode c.code pc = .ok (.i2c, 1)) (hp : pc + 1 = pc') (q : Goes p e below T (mkF m pc' L (.int (x.toUInt32.toUInt16.toUInt32.toInt32) :: S)) P) : Goes p e below T (mkF m pc L (.int x :: S)) P := by
  subst hp; exact Goes.via (fun _ u => Jvm.Free.XT.i2c X.here hx rfl hd rfl u) q
theorem G.i2s (X : Stand p l e R s m args below meth c T locs cells slots) (hx : p.tables.exec = Jvm.exec) {x : Int32} (hd : decode c.code pc = .ok (.i2s, 1)) (hp : pc + 1 = pc') (q : Goes p e below T (mkF m pc' L (.int (x.toInt16.toInt32) :: S)) P) : Goes p e below T (mkF m pc L (.int x :: S)) P := by
  subst hp; exact Goes.via (fun _ u => Jvm.Free.XT.i2s X.here hx rfl hd rfl u) q
theorem G.l2i (X : Stand p l e R s m args below meth c T locs cells slots) (hx : p.tables.exec = Jvm.exec) {x : Int64} (hd : decode c.code pc = .ok (.l2i, 1)) (hp : pc + 1 = pc') (q : Goes p e below T (mkF m pc' L (.int (x.toInt32) :: S)) P) : Goes p e below T (mkF m pc L (.long x :: S)) P := by
  subst hp; exact Goes.via (fun _ u => Jvm.Free.XT.l2i X.here hx rfl hd rfl u) q
theorem G.lcmp (X : Stand p l e R s m args below meth c T locs cells slots) (hx : p.tables.exec = Jvm.exec) {x y : Int64} (hd : decode c.code pc = .ok (.lcmp, 1)) (hp : pc + 1 = pc') (q : Goes p e below T (mkF m pc' L (.int (Jvm.Free.XT.cmpL x y) :: S)) P) : Goes p e below T (mkF m pc L (.long y :: .long x :: S)) P := by
  subst hp; exact Goes.via (fun _ u => Jvm.Free.XT.lcmp X.here hx rfl hd rfl u) q
theorem G.dup (X : Stand p l e R s m args below meth c T locs cells slots) (hx : p.tables.exec = Jvm.exec) {v : Value} (hd : decode c.code pc = .ok (.dup, 1)) (hv : v.category = 1) (hp : pc + 1 = pc') (q : Goes p e below T (mkF m pc' L (v :: v :: S)) P) : Goes p e below T (mkF m pc L (v :: S)) P := by
  subst hp; exact Goes.via (fun _ u => Jvm.Free.XS.dup X.here hx rfl hd rfl hv u) q
theorem G.pop (X : Stand p l e R s m args below meth c T locs cells slots) (hx : p.tables.exec = Jvm.exec) {v : Value} (hd : decode c.code pc = .ok (.pop, 1)) (hv : v.category = 1) (hp : pc + 1 = pc') (q : Goes p e below T (mkF m pc' L (S)) P) : Goes p e below T (mkF m pc L (v :: S)) P := by
  subst hp; exact Goes.via (fun _ u => Jvm.Free.XT.pop X.here hx rfl hd rfl hv u) q
theorem G.dupX1 (X : Stand p l e R s m args below meth c T locs cells slots) (hx : p.tables.exec = Jvm.exec) {v w : Value} (hd : decode c.code pc = .ok (.dup_x1, 1)) (hv : v.category = 1) (hw : w.category = 1) (hp : pc + 1 = pc') (q : Goes p e below T (mkF m pc' L (v :: w :: v :: S)) P) : Goes p e below T (mkF m pc L (v :: w :: S)) P := by
  subst hp; exact Goes.via (fun _ u => Jvm.Free.XT.dupX1 X.here hx rfl hd rfl hv hw u) q
theorem G.dup2 (X : Stand p l e R s m args below meth c T locs cells slots) (hx : p.tables.exec = Jvm.exec) {v w : Value} (hd : decode c.code pc = .ok (.dup2, 1)) (hv : v.category = 1) (hw : w.category = 1) (hp : pc + 1 = pc') (q : Goes p e below T (mkF m pc' L (v :: w :: v :: w :: S)) P) : Goes p e below T (mkF m pc L (v :: w :: S)) P := by
  subst hp; exact Goes.via (fun _ u => Jvm.Free.XT.dup2 X.here hx rfl hd rfl hv hw u) q
theorem G.goto (X : Stand p l e R s m args below meth c T locs cells slots) (hx : p.tables.exec = Jvm.exec) {o : Int} (hd : decode c.code pc = .ok (.goto o, 3)) (ho : 0 ≤ (pc : Int) + o) (hp : ((pc : Int) + o).toNat = pc') (q : Goes p e below T (mkF m pc' L S) P) : Goes p e below T (mkF m pc L S) P :=
  Goes.via (fun _ u => Jvm.Free.XS.goto X.here hx rfl rfl hd ho hp u) q
theorem G.icmpT (X : Stand p l e R s m args below meth c T locs cells slots) (hx : p.tables.exec = Jvm.exec) {cd : ClassFile.Cond} {x y : Int32} {o : Int} (hd : decode c.code pc = .ok (.if_icmp cd o, 3)) (hc : if_icmp.holds cd x y = true) (ho : 0 ≤ (pc : Int) + o) (hp : ((pc : Int) + o).toNat = pc') (q : Goes p e below T (mkF m pc' L S) P) : Goes p e below T (mkF m pc L (.int y :: .int x :: S)) P :=
  Goes.via (fun _ u => Jvm.Free.XS.icmpYes X.here hx rfl rfl hd rfl hc ho hp u) q
theorem G.icmpF (X : Stand p l e R s m args below meth c T locs cells slots) (hx : p.tables.exec = Jvm.exec) {cd : ClassFile.Cond} {x y : Int32} {o : Int} (hd : decode c.code pc = .ok (.if_icmp cd o, 3)) (hc : if_icmp.holds cd x y = false) (hp : pc + 3 = pc') (q : Goes p e below T (mkF m pc' L S) P) : Goes p e below T (mkF m pc L (.int y :: .int x :: S)) P := by
  subst hp; exact Goes.via (fun _ u => Jvm.Free.XS.icmpNo X.here hx rfl hd rfl hc u) q
theorem G.ifT (X : Stand p l e R s m args below meth c T locs cells slots) (hx : p.tables.exec = Jvm.exec) {cd : ClassFile.Cond} {x : Int32} {o : Int} (hd : decode c.code pc = .ok (.ifCond cd o, 3)) (hc : ifCond.holds cd x = true) (ho : 0 ≤ (pc : Int) + o) (hp : ((pc : Int) + o).toNat = pc') (q : Goes p e below T (mkF m pc' L S) P) : Goes p e below T (mkF m pc L (.int x :: S)) P :=
  Goes.via (fun _ u => Jvm.Free.XS.ifYes X.here hx rfl rfl hd rfl hc ho hp u) q
theorem G.ifF (X : Stand p l e R s m args below meth c T locs cells slots) (hx : p.tables.exec = Jvm.exec) {cd : ClassFile.Cond} {x : Int32} {o : Int} (hd : decode c.code pc = .ok (.ifCond cd o, 3)) (hc : ifCond.holds cd x = false) (hp : pc + 3 = pc') (q : Goes p e below T (mkF m pc' L S) P) : Goes p e below T (mkF m pc L (.int x :: S)) P := by
  subst hp; exact Goes.via (fun _ u => Jvm.Free.XS.ifNo X.here hx rfl hd rfl hc u) q
theorem G.nullT (X : Stand p l e R s m args below meth c T locs cells slots) (hx : p.tables.exec = Jvm.exec) {o : Int} (hd : decode c.code pc = .ok (.ifnull o, 3)) (ho : 0 ≤ (pc : Int) + o) (hp : ((pc : Int) + o).toNat = pc') (q : Goes p e below T (mkF m pc' L S) P) : Goes p e below T (mkF m pc L (.null :: S)) P :=
  Goes.via (fun _ u => Jvm.Free.XS.ifnullYes X.here hx rfl rfl hd rfl ho hp u) q
theorem G.nullF (X : Stand p l e R s m args below meth c T locs cells slots) (hx : p.tables.exec = Jvm.exec) {b : Addr} {o : Int} (hd : decode c.code pc = .ok (.ifnull o, 3)) (hp : pc + 3 = pc') (q : Goes p e below T (mkF m pc' L S) P) : Goes p e below T (mkF m pc L (.ref b :: S)) P := by
  subst hp; exact Goes.via (fun _ u => Jvm.Free.XS.ifnullNo X.here hx rfl hd rfl u) q
theorem G.nonnullT (X : Stand p l e R s m args below meth c T locs cells slots) (hx : p.tables.exec = Jvm.exec) {b : Addr} {o : Int} (hd : decode c.code pc = .ok (.ifnonnull o, 3)) (ho : 0 ≤ (pc : Int) + o) (hp : ((pc : Int) + o).toNat = pc') (q : Goes p e below T (mkF m pc' L S) P) : Goes p e below T (mkF m pc L (.ref b :: S)) P :=
  Goes.via (fun _ u => Jvm.Free.XS.ifnonnullYes X.here hx rfl rfl hd rfl ho hp u) q
theorem G.nonnullF (X : Stand p l e R s m args below meth c T locs cells slots) (hx : p.tables.exec = Jvm.exec) {o : Int} (hd : decode c.code pc = .ok (.ifnonnull o, 3)) (hp : pc + 3 = pc') (q : Goes p e below T (mkF m pc' L S) P) : Goes p e below T (mkF m pc L (.null :: S)) P := by
  subst hp; exact Goes.via (fun _ u => Jvm.Free.XS.ifnonnullNo X.here hx rfl hd rfl u) q
theorem G.acmpT (X : Stand p l e R s m args below meth c T locs cells slots) (hx : p.tables.exec = Jvm.exec) {cd : ACond} {x y : Value} {o : Int} (hd : decode c.code pc = .ok (.if_acmp cd o, 3)) (h1 : x.isRef = true) (h2 : y.isRef = true) {same : Bool} (hq : decide (x = y) = same) (ho : 0 ≤ (pc : Int) + o) (hp : pc' = if acV cd same = true then ((pc : Int) + o).toNat else pc + 3) (q : Goes p e below T (mkF m pc' L S) P) : Goes p e below T (mkF m pc L (y :: x :: S)) P :=
  Goes.via (fun _ u => Jvm.RoadKit.acmp X hx rfl h1 h2 rfl hd rfl hq ho hp u) q
theorem G.ldcInt (X : Stand p l e R s m args below meth c T locs cells slots) (hx : p.tables.exec = Jvm.exec) (hZ : Z.Warmed39 s.vm) {own : String} {index : Nat} {v : Int32} (hown : s.vm.findClass own = some m.cls) (w : (Cond.constant own index v).before a0 Z = true) (hd : decode c.code pc = .ok (.ldc index, 2)) (hp : pc + 2 = pc') (q : Goes p e below T (mkF m pc' L (.int v :: S)) P) : Goes p e below T (mkF m pc L S) P := by
  subst hp; exact Goes.via (X.ldcInt hx hown (mvT hZ w) (g := mkF m pc L S) rfl hd) q
theorem G.ldcLong (X : Stand p l e R s m args below meth c T locs cells slots) (hx : p.tables.exec = Jvm.exec) (hZ : Z.Warmed39 s.vm) {own : String} {index : Nat} {v : Int64} (hown : s.vm.findClass own = some m.cls) (w : (Cond.constantLong own index v).before a0 Z = true) (hd : decode c.code pc = .ok (.ldc2_w index, 3)) (hp : pc + 3 = pc') (q : Goes p e below T (mkF m pc' L (.long v :: S)) P) : Goes p e below T (mkF m pc L S) P := by
  subst hp; exact Goes.via (X.ldc2Long hx hown (mvT hZ w) (g := mkF m pc L S) rfl hd) q
theorem G.getF (X : Stand p l e R s m args below meth c T locs cells slots) (hx : p.tables.exec = Jvm.exec) (hZ : Z.Warmed39 s.vm) {own R0 O n d : String} {index : Nat} (hown : s.vm.findClass own = some m.cls) (w : (Cond.fieldLink own index R0 n d).before a0 Z = true) (via : Via Z R0 O n d) (eT : T.heap = h) (F : Fld Z h a O n d v) (hd : decode c.code pc = .ok (.getfield index, 3)) (hp : pc + 3 = pc')
    (q : ∀ T', Stand p l e R s m args below meth c T' locs cells slots → T'.heap = h → Goes p e below T' (mkF m pc' L (v :: S)) P) : Goes p e below T (mkF m pc L (.ref a :: S)) P := by
  subst hp
  obtain ⟨T', X', e', st⟩ := Jvm.RoadKit.getF X hx hZ hown (host := "") (Or.inl w) via eT F (g := mkF m pc L (.ref a :: S)) rfl rfl hd
  exact Goes.via st (q T' X' e')
theorem G.getS (X : Stand p l e R s m args below meth c T locs cells slots) (hx : p.tables.exec = Jvm.exec) (hZ : Z.Warmed39 s.vm) {own R0 O n d : String} {index : Nat} (hown : s.vm.findClass own = some m.cls) (w : (Cond.fieldLink own index R0 n d).before a0 Z = true) (via : Via Z R0 O n d) (eT : T.heap = h) (F : Sta Z h O n d v) (hd : decode c.code pc = .ok (.getstatic index, 3)) (hp : pc + 3 = pc')
    (q : ∀ T', Stand p l e R s m args below meth c T' locs cells slots → T'.heap = h → Goes p e below T' (mkF m pc' L (v :: S)) P) : Goes p e below T (mkF m pc L S) P := by
  subst hp
  obtain ⟨T', X', e', st⟩ := Jvm.RoadKit.getS2 X hx hZ hown (host := "") (Or.inl w) via eT F (g := mkF m pc L S) rfl hd
  exact Goes.via st (q T' X' e')
theorem G.putF (X : Stand p l e R s m args below meth c T locs cells slots) (hx : p.tables.exec = Jvm.exec) (hZ : Z.Warmed39 s.vm) {own R0 O n d C : String} {index kk : Nat} {ty : FieldType} {old : Value} (hown : s.vm.findClass own = some m.cls) (w : (Cond.fieldLink own index R0 n d).before a0 Z = true) (via : Via Z R0 O n d) (eT : T.heap = h) (F : Fld Z h a O n d old) (E : Exa Z h a C) (Ly : (Cond.lays C O n d).before a0 Z = true ∨ ((Cond.laysFinal C O n d).before a0 Z = true ∧ own = O ∧ meth.name = "<init>")) (wi : (Cond.instantiable C kk).before a0 Z = true)
    (hty : parseFieldDescriptor d = some ty) (hn : narrow ty v = v) (hf : fits ty v = true) (hd : decode c.code pc = .ok (.putfield index, 3)) (hp : pc + 3 = pc')
    (q : ∀ T' h', Stand p l e R s m args below meth c T' (locs ++ [⟨a, Jvm.RoadKit.slotOf Z O n d⟩]) cells slots → T'.heap = h' → Wr h h' a (Jvm.RoadKit.slotOf Z O n d) v → Goes p e below T' (mkF m pc' L S) P) : Goes p e below T (mkF m pc L (v :: .ref a :: S)) P := by
  subst hp
  obtain ⟨T', h', X', e', W', st⟩ := Jvm.RoadKit.putF X hx hZ hown (host := "") (Or.inl w) via eT F E Ly wi hty hn hf (g := mkF m pc L (v :: .ref a :: S)) rfl rfl hd
  exact Goes.via st (q T' h' X' e' W')
theorem G.putFN (X : Stand p l e R s m args below meth c T locs cells slots) (hx : p.tables.exec = Jvm.exec) (hZ : Z.Warmed39 s.vm) {own R0 O n d C : String} {index kk : Nat} {ty : FieldType} {old v' : Value} (hown : s.vm.findClass own = some m.cls) (w : (Cond.fieldLink own index R0 n d).before a0 Z = true) (via : Via Z R0 O n d) (eT : T.heap = h) (F : Fld Z h a O n d old) (E : Exa Z h a C) (Ly : (Cond.lays C O n d).before a0 Z = true ∨ ((Cond.laysFinal C O n d).before a0 Z = true ∧ own = O ∧ meth.name = "<init>")) (wi : (Cond.instantiable C kk).before a0 Z = true)
    (hty : parseFieldDescriptor d = some ty) (hn : narrow ty v = v') (hf : fits ty v' = true) (hd : decode c.code pc = .ok (.putfield index, 3)) (hp : pc + 3 = pc')
    (q : ∀ T' h', Stand p l e R s m args below meth c T' (locs ++ [⟨a, Jvm.RoadKit.slotOf Z O n d⟩]) cells slots → T'.heap = h' → Wr h h' a (Jvm.RoadKit.slotOf Z O n d) v' → Goes p e below T' (mkF m pc' L S) P) : Goes p e below T (mkF m pc L (v :: .ref a :: S)) P := by
  subst hp
  obtain ⟨T', h', X', e', W', st⟩ := Jvm.RoadKit.putFN X hx hZ hown w via eT F E Ly wi hty hn hf (g := mkF m pc L (v :: .ref a :: S)) rfl rfl hd
  exact Goes.via st (q T' h' X' e' W')
theorem G.newO (X : Stand p l e R s m args below meth c T locs cells slots) (hx : p.tables.exec = Jvm.exec) (hZ : Z.Warmed39 s.vm) {own C : String} {index n : Nat} (hown : s.vm.findClass own = some m.cls) (w : (Cond.classLink own index C).before a0 Z = true) (wi : (Cond.instantiable C n).before a0 Z = true) (wz : (Cond.initialized C).before a0 Z = true) (eT : T.heap = h) (hd : decode c.code pc = .ok (.new index, 3)) (hc : cells + 1 ≤ R.cells) (hl : slots + n ≤ R.slots) (hp : pc + 3 = pc')
    (q : ∀ T' h' a, a = h.size → Stand p l e R s m args below meth c T' locs (cells + 1) (slots + n) → T'.heap = h' → Ext h h' → Exa Z h' a C → (∀ {O nm d : String} {ty : FieldType}, Laid Z a0 C O nm d → parseFieldDescriptor d = some ty → Fld Z h' a O nm d (defaultValue ty)) → Goes p e below T' (mkF m pc' L (.ref a :: S)) P) : Goes p e below T (mkF m pc L S) P := by
  subst hp
  obtain ⟨T', h', X', e', E', A', D', -, st⟩ := Jvm.RoadKit.newO X hx hZ hown w wi wz eT (g := mkF m pc L S) rfl hd hc hl
  exact Goes.via st (q T' h' _ rfl X' e' E' A' D')
theorem G.initO (X : Stand p l e R s m args below meth c T locs cells slots) (hx : p.tables.exec = Jvm.exec) (hZ : Z.Warmed39 s.vm) {own : String} {idx : Nat} (hown : s.vm.findClass own = some m.cls) (w1 : (Cond.methodLink own idx Lib.objectInit).before a0 Z = true) (w2 : (Cond.instanceMethod Lib.objectInit).before a0 Z = true) (w3 : (Cond.code Lib.objectInit ⟨#[0xb1]⟩ 1 none).before a0 Z = true) (eT : T.heap = h) (hsz : L.size = c.maxLocals) (hd : decode c.code pc = .ok (.invokespecial idx, 3)) (hf : 1 ≤ R.frames) {W : Nat} (hW : (S.map fun v => v.category).sum ≤ W) (hl : W + 12 ≤ R.locals) (hp : pc + 3 = pc')
    (q : ∀ T', Stand p l e R s m args below meth c T' locs cells slots → T'.heap = h → Goes p e below T' (mkF m pc' L S) P) : Goes p e below T (mkF m pc L (.ref a :: S)) P := by
  subst hp
  obtain ⟨T', X', e', st⟩ := Jvm.RoadKit.initO X hx hZ hown w1 w2 w3 eT (g := mkF m pc L (.ref a :: S)) rfl hsz rfl hd hf (W := W) (by show 2 * 0 + _ ≤ _; omega) hl
  exact Goes.via st (q T' X' e')
/-- an array's components, in order -/
def Seq (Z : State) (h : Heap) (a : Addr) (ty : FieldType) (vs : List Value) : Prop := ∃ cl : Cell, Arr Z h a cl ty ∧ cl.slots.toList = vs ∧ vs.length < 2 ^ 31
variable {vs : List Value} {ty : FieldType} {j : Int32}
theorem Seq.lt (F : Seq Z h a ty vs) : a < h.size := by obtain ⟨_, A, -⟩ := F; exact A.lt
theorem Seq.ext (F : Seq Z h a ty vs) (E : Ext h h') : Seq Z h' a ty vs := by obtain ⟨cl, A, r⟩ := F; exact ⟨cl, A.ext E, r⟩
theorem Seq.other {w : Value} (F : Seq Z h b ty vs) (W : Wr h h' a sl w) (q : b ≠ a) : Seq Z h' b ty vs := by obtain ⟨cl, A, r⟩ := F; exact ⟨cl, A.other W q, r⟩
theorem Seq.keep (F : Seq Z h a ty vs) (K : Keep h h' ws) (q : a ∉ ws) : Seq Z h' a ty vs := by obtain ⟨cl, A, r⟩ := F; exact ⟨cl, ⟨K.2.1 a cl A.1 q, A.2⟩, r⟩
theorem Seq.new {k : ClassId} {z : Int32} (A : Arr Z h a (newA k ty z) ty) (n : Nat) (hn : z.toNatClampNeg = n) : Seq Z h a ty (List.replicate n (defaultValue ty)) := by
  refine ⟨_, A, by rw [← hn]; simp [newA], ?_⟩
  rw [List.length_replicate, ← hn]
  have := Int32.toInt_lt z
  simp only [Int32.toNatClampNeg]
  omega
theorem Seq.at (F : Seq Z h a ty vs) (hj : ¬ j < 0) (hv : vs[j.toNatClampNeg]? = some v) : ∃ cl : Cell, h[a]? = some cl ∧ Z.isArrayOf cl ty ∧ cl.vm ≠ .unknown ∧ ¬ (j < 0 ∨ cl.slots.size ≤ j.toNatClampNeg) ∧ cl.slots[j.toNatClampNeg]? = some v := by
  obtain ⟨cl, A, rfl, hl⟩ := F
  rw [Array.getElem?_toList] at hv
  exact ⟨cl, A.1, A.2.1, A.2.2, fun q => q.elim hj fun q => by have := (Array.getElem?_eq_some_iff.mp hv).1; omega, hv⟩
theorem Seq.set (F : Seq Z h a ty vs) (W : Wr h h' a j.toNatClampNeg v) : Seq Z h' a ty (vs.set j.toNatClampNeg v) := by
  obtain ⟨cl, A, rfl, hl⟩ := F
  exact ⟨_, A.same W, by simp [Cell.setSlot], by simpa using hl⟩
theorem Seq.inb (F : Seq Z h a ty vs) (hj : ¬ j < 0) (hi : j.toNatClampNeg < vs.length) : ∃ cl : Cell, Arr Z h a cl ty ∧ ¬ (j < 0 ∨ cl.slots.size ≤ j.toNatClampNeg) := by
  obtain ⟨cl, A, rfl, hl⟩ := F
  exact ⟨cl, A, fun q => q.elim hj fun q => by rw [Array.length_toList] at hi; omega⟩
theorem G.newP (X : Stand p l e R s m args below meth c T locs cells slots) (hx : p.tables.exec = Jvm.exec) (hZ : Z.Warmed39 s.vm) {aty : ArrayType} (w : (Cond.arrayClass (newarray.typeOf aty)).before a0 Z = true) (eT : T.heap = h) (hd : decode c.code pc = .ok (.newarray aty, 2)) {z : Int32} (hz : ¬ z < 0) {cap n : Nat} (hn : z.toNatClampNeg = n) (hcap : n ≤ cap) (hb : cap * 8 ≤ 536870912) (hc : cells + 1 ≤ R.cells) (hl : slots + cap ≤ R.slots) (hp : pc + 2 = pc')
    (q : ∀ T' h' a, a = h.size → Stand p l e R s m args below meth c T' locs (cells + 1) (slots + cap) → T'.heap = h' → Ext h h' → Seq Z h' a (newarray.typeOf aty) (List.replicate n (defaultValue (newarray.typeOf aty))) → Goes p e below T' (mkF m pc' L (.ref a :: S)) P) : Goes p e below T (mkF m pc L (.int z :: S)) P := by
  subst hp
  obtain ⟨T', h', k, X', e', E', A', st⟩ := Jvm.RoadKit.newP X hx hZ w eT (g := mkF m pc L (.int z :: S)) rfl hd rfl hz (cap := cap) (hn ▸ hcap) hb hc hl
  exact Goes.via st (q T' h' _ rfl X' e' E' (Seq.new A' n hn))
theorem G.arraylength (X : Stand p l e R s m args below meth c T locs cells slots) (hx : p.tables.exec = Jvm.exec) (hZ : Z.Warmed39 s.vm) (eT : T.heap = h) (F : Seq Z h a ty vs) (hd : decode c.code pc = .ok (.arraylength, 1)) {z : Int32} (hz : vs.length.toInt32 = z) (hp : pc + 1 = pc') (q : Goes p e below T (mkF m pc' L (.int z :: S)) P) : Goes p e below T (mkF m pc L (.ref a :: S)) P := by
  subst hp
  obtain ⟨cl, A, rfl, hl⟩ := F
  rw [Array.length_toList] at hz
  subst hz
  exact Goes.via (fun t u => X.arraylength hx (by rw [eT]; exact A.1) (State.isArrayOf_alike hZ.alike A.2.1) (g := mkF m pc L (.ref a :: S)) rfl rfl hd t u) q
theorem G.iaload (X : Stand p l e R s m args below meth c T locs cells slots) (hx : p.tables.exec = Jvm.exec) (hZ : Z.Warmed39 s.vm) (eT : T.heap = h) (F : Seq Z h a .int vs) (hd : decode c.code pc = .ok (.iaload, 1)) (hj : ¬ j < 0) (hv : vs[j.toNatClampNeg]? = some v) (hp : pc + 1 = pc') (q : Goes p e below T (mkF m pc' L (v :: S)) P) : Goes p e below T (mkF m pc L (.int j :: .ref a :: S)) P := by
  subst hp
  obtain ⟨cl, q1, q2, q3, q4, q5⟩ := F.at hj hv
  exact Goes.via (fun t u => X.iaload hx (by rw [eT]; exact q1) (State.isArrayOf_alike hZ.alike q2) q3 q4 q5 (g := mkF m pc L (.int j :: .ref a :: S)) rfl rfl hd t u) q
theorem G.laload (X : Stand p l e R s m args below meth c T locs cells slots) (hx : p.tables.exec = Jvm.exec) (hZ : Z.Warmed39 s.vm) (eT : T.heap = h) (F : Seq Z h a .long vs) (hd : decode c.code pc = .ok (.laload, 1)) (hj : ¬ j < 0) (hv : vs[j.toNatClampNeg]? = some v) (hp : pc + 1 = pc') (q : Goes p e below T (mkF m pc' L (v :: S)) P) : Goes p e below T (mkF m pc L (.int j :: .ref a :: S)) P := by
  subst hp
  obtain ⟨cl, q1, q2, q3, q4, q5⟩ := F.at hj hv
  exact Goes.via (fun t u => X.laload hx (by rw [eT]; exact q1) (State.isArrayOf_alike hZ.alike q2) q3 q4 q5 (g := mkF m pc L (.int j :: .ref a :: S)) rfl rfl hd t u) q
theorem G.baload (X : Stand p l e R s m args below meth c T locs cells slots) (hx : p.tables.exec = Jvm.exec) (hZ : Z.Warmed39 s.vm) (eT : T.heap = h) (F : Seq Z h a .byte vs) (hd : decode c.code pc = .ok (.baload, 1)) (hj : ¬ j < 0) (hv : vs[j.toNatClampNeg]? = some v) (hp : pc + 1 = pc') (q : Goes p e below T (mkF m pc' L (v :: S)) P) : Goes p e below T (mkF m pc L (.int j :: .ref a :: S)) P := by
  subst hp
  obtain ⟨cl, q1, q2, q3, q4, q5⟩ := F.at hj hv
  exact Goes.via (fun t u => X.baloadBytes hx (by rw [eT]; exact q1) (State.isArrayOf_alike hZ.alike q2) q3 q4 q5 (g := mkF m pc L (.int j :: .ref a :: S)) rfl rfl hd t u) q
theorem G.zaload (X : Stand p l e R s m args below meth c T locs cells slots) (hx : p.tables.exec = Jvm.exec) (hZ : Z.Warmed39 s.vm) (eT : T.heap = h) (F : Seq Z h a .boolean vs) (hd : decode c.code pc = .ok (.baload, 1)) (hj : ¬ j < 0) (hv : vs[j.toNatClampNeg]? = some v) (hp : pc + 1 = pc') (q : Goes p e below T (mkF m pc' L (v :: S)) P) : Goes p e below T (mkF m pc L (.int j :: .ref a :: S)) P := by
  subst hp
  obtain ⟨cl, q1, q2, q3, q4, q5⟩ := F.at hj hv
  exact Goes.via (fun t u => X.baloadBooleans hx (by rw [eT]; exact q1) (State.isArrayOf_alike hZ.alike q2) q3 q4 q5 (g := mkF m pc L (.int j :: .ref a :: S)) rfl rfl hd t u) q
theorem G.caload (X : Stand p l e R s m args below meth c T locs cells slots) (hx : p.tables.exec = Jvm.exec) (hZ : Z.Warmed39 s.vm) (eT : T.heap = h) (F : Seq Z h a .char vs) (hd : decode c.code pc = .ok (.caload, 1)) (hj : ¬ j < 0) (hv : vs[j.toNatClampNeg]? = some v) (hp : pc + 1 = pc') (q : Goes p e below T (mkF m pc' L (v :: S)) P) : Goes p e below T (mkF m pc L (.int j :: .ref a :: S)) P := by
  subst hp
  obtain ⟨cl, q1, q2, q3, q4, q5⟩ := F.at hj hv
  exact Goes.via (fun t u => X.caload hx (by rw [eT]; exact q1) (State.isArrayOf_alike hZ.alike q2) q3 q4 q5 (g := mkF m pc L (.int j :: .ref a :: S)) rfl rfl hd t u) q
theorem G.aaload (X : Stand p l e R s m args below meth c T locs cells slots) (hx : p.tables.exec = Jvm.exec) (hZ : Z.Warmed39 s.vm) (eT : T.heap = h) (F : Seq Z h a ty vs) (hty : ty.isReference = true) (hd : decode c.code pc = .ok (.aaload, 1)) (hj : ¬ j < 0) (hv : vs[j.toNatClampNeg]? = some v) (hp : pc + 1 = pc') (q : Goes p e below T (mkF m pc' L (v :: S)) P) : Goes p e below T (mkF m pc L (.int j :: .ref a :: S)) P := by
  subst hp
  obtain ⟨cl, q1, q2, q3, q4, q5⟩ := F.at hj hv
  exact Goes.via (fun t u => X.aaload hx (by rw [eT]; exact q1) (State.isArrayOf_alike hZ.alike q2) hty q3 q4 q5 (g := mkF m pc L (.int j :: .ref a :: S)) rfl rfl hd t u) q
theorem G.iastore (X : Stand p l e R s m args below meth c T locs cells slots) (hx : p.tables.exec = Jvm.exec) (hZ : Z.Warmed39 s.vm) (eT : T.heap = h) (F : Seq Z h a .int vs) {x : Int32} (hd : decode c.code pc = .ok (.iastore, 1)) (hj : ¬ j < 0) (hi : j.toNatClampNeg < vs.length) (hp : pc + 1 = pc')
    (q : ∀ T' h', Stand p l e R s m args below meth c T' (locs ++ [⟨a, j.toNatClampNeg⟩]) cells slots → T'.heap = h' → Wr h h' a j.toNatClampNeg (.int x) → Seq Z h' a .int (vs.set j.toNatClampNeg (.int x)) → Goes p e below T' (mkF m pc' L S) P) : Goes p e below T (mkF m pc L (.int x :: .int j :: .ref a :: S)) P := by
  subst hp
  obtain ⟨cl, A, hj'⟩ := F.inb hj hi
  obtain ⟨T', h', X', e', W', st⟩ := Jvm.RoadKit.stI X hx hZ eT A hj' (g := mkF m pc L (.int x :: .int j :: .ref a :: S)) rfl rfl hd
  exact Goes.via st (q T' h' X' e' W' (F.set W'))
theorem G.lastore (X : Stand p l e R s m args below meth c T locs cells slots) (hx : p.tables.exec = Jvm.exec) (hZ : Z.Warmed39 s.vm) (eT : T.heap = h) (F : Seq Z h a .long vs) {x : Int64} (hd : decode c.code pc = .ok (.lastore, 1)) (hj : ¬ j < 0) (hi : j.toNatClampNeg < vs.length) (hp : pc + 1 = pc')
    (q : ∀ T' h', Stand p l e R s m args below meth c T' (locs ++ [⟨a, j.toNatClampNeg⟩]) cells slots → T'.heap = h' → Wr h h' a j.toNatClampNeg (.long x) → Seq Z h' a .long (vs.set j.toNatClampNeg (.long x)) → Goes p e below T' (mkF m pc' L S) P) : Goes p e below T (mkF m pc L (.long x :: .int j :: .ref a :: S)) P := by
  subst hp
  obtain ⟨cl, A, hj'⟩ := F.inb hj hi
  obtain ⟨T', h', X', e', W', st⟩ := Jvm.RoadKit.stJ X hx hZ eT A hj' (g := mkF m pc L (.long x :: .int j :: .ref a :: S)) rfl rfl hd
  exact Goes.via st (q T' h' X' e' W' (F.set W'))
theorem G.bastore (X : Stand p l e R s m args below meth c T locs cells slots) (hx : p.tables.exec = Jvm.exec) (hZ : Z.Warmed39 s.vm) (eT : T.heap = h) (F : Seq Z h a .byte vs) {x : Int32} (hd : decode c.code pc = .ok (.bastore, 1)) (hj : ¬ j < 0) (hi : j.toNatClampNeg < vs.length) (hp : pc + 1 = pc')
    (q : ∀ T' h', Stand p l e R s m args below meth c T' (locs ++ [⟨a, j.toNatClampNeg⟩]) cells slots → T'.heap = h' → Wr h h' a j.toNatClampNeg (.int (nar .byte x)) → Seq Z h' a .byte (vs.set j.toNatClampNeg (.int (nar .byte x))) → Goes p e below T' (mkF m pc' L S) P) : Goes p e below T (mkF m pc L (.int x :: .int j :: .ref a :: S)) P := by
  subst hp
  obtain ⟨cl, A, hj'⟩ := F.inb hj hi
  obtain ⟨T', h', X', e', W', st⟩ := Jvm.RoadKit.stB X hx hZ eT A hj' (g := mkF m pc L (.int x :: .int j :: .ref a :: S)) rfl rfl hd
  exact Goes.via st (q T' h' X' e' W' (F.set W'))
theorem G.zastore (X : Stand p l e R s m args below meth c T locs cells slots) (hx : p.tables.exec = Jvm.exec) (hZ : Z.Warmed39 s.vm) (eT : T.heap = h) (F : Seq Z h a .boolean vs) {x : Int32} (hd : decode c.code pc = .ok (.bastore, 1)) (hj : ¬ j < 0) (hi : j.toNatClampNeg < vs.length) (hp : pc + 1 = pc')
    (q : ∀ T' h', Stand p l e R s m args below meth c T' (locs ++ [⟨a, j.toNatClampNeg⟩]) cells slots → T'.heap = h' → Wr h h' a j.toNatClampNeg (.int (nar .boolean x)) → Seq Z h' a .boolean (vs.set j.toNatClampNeg (.int (nar .boolean x))) → Goes p e below T' (mkF m pc' L S) P) : Goes p e below T (mkF m pc L (.int x :: .int j :: .ref a :: S)) P := by
  subst hp
  obtain ⟨cl, A, hj'⟩ := F.inb hj hi
  obtain ⟨T', h', X', e', W', st⟩ := Jvm.RoadKit.stZ X hx hZ eT A hj' (g := mkF m pc L (.int x :: .int j :: .ref a :: S)) rfl rfl hd
  exact Goes.via st (q T' h' X' e' W' (F.set W'))
theorem G.castore (X : Stand p l e R s m args below meth c T locs cells slots) (hx : p.tables.exec = Jvm.exec) (hZ : Z.Warmed39 s.vm) (eT : T.heap = h) (F : Seq Z h a .char vs) {x : Int32} (hd : decode c.code pc = .ok (.castore, 1)) (hj : ¬ j < 0) (hi : j.toNatClampNeg < vs.length) (hp : pc + 1 = pc')
    (q : ∀ T' h', Stand p l e R s m args below meth c T' (locs ++ [⟨a, j.toNatClampNeg⟩]) cells slots → T'.heap = h' → Wr h h' a j.toNatClampNeg (.int (nar .char x)) → Seq Z h' a .char (vs.set j.toNatClampNeg (.int (nar .char x))) → Goes p e below T' (mkF m pc' L S) P) : Goes p e below T (mkF m pc L (.int x :: .int j :: .ref a :: S)) P := by
  subst hp
  obtain ⟨cl, A, hj'⟩ := F.inb hj hi
  obtain ⟨T', h', X', e', W', st⟩ := Jvm.RoadKit.stC X hx hZ eT A hj' (g := mkF m pc L (.int x :: .int j :: .ref a :: S)) rfl rfl hd
  exact Goes.via st (q T' h' X' e' W' (F.set W'))
variable {y : MethodName} {bytes : ByteArray} {maxL : Nat} {ret : Option FieldType} {rm : Room} {argsL S0 : List Value} {W : Nat} {QQ : Option Value → Heap → List Loc → Prop}
theorem G.callS (X : Stand p l e R s m args below meth c T locs cells slots) (hx : p.tables.exec = Jvm.exec) (hZ : Z.Warmed39 s.vm) {own : String} {index : Nat} (hown : s.vm.findClass own = some m.cls) (w1 : (Cond.methodLink own index y).before a0 Z = true) (w2 : (Cond.static y).before a0 Z = true) (w3 : (Cond.initialized y.cls).before a0 Z = true) (w4 : (Cond.code y bytes maxL ret).before a0 Z = true)
    (hy : y.cls ≠ "java/lang/invoke/MethodHandle" ∧ y.cls ≠ "java/lang/invoke/VarHandle") (eT : T.heap = h) (hC : Con l y bytes maxL ret rm Z argsL.toArray h QQ) (hlen : ∀ sig, parseMethodDescriptor y.desc = some sig → argsL.length = sig.parameters.length) (hst : S0 = argsL.reverse ++ S) (hW : (S.map fun v => v.category).sum ≤ W)
    (hf : rm.frames + 1 ≤ R.frames) (hl : W + (maxL + 11) + rm.locals ≤ R.locals) (hc : cells + rm.cells ≤ R.cells) (hs : slots + rm.slots ≤ R.slots) (hsz : L.size = c.maxLocals) (hd : decode c.code pc = .ok (.invokestatic index, 3)) (hp : pc + 3 = pc')
    (q : ∀ T' v Lc, QQ v T'.heap Lc → Stand p l e R s m args below meth c T' (locs ++ Lc) (cells + rm.cells) (slots + rm.slots) → Goes p e below T' (mkF m pc' L (v.toList ++ S)) P) : Goes p e below T (mkF m pc L S0) P := by
  subst hp
  obtain ⟨v, vm1, ⟨T', L1, k1, n1⟩, hw1, X', ⟨Lc, hQ, l1, y1, z1⟩, st⟩ := Jvm.LawKit.callS X hx (y := y) hown (mvT hZ w1) (mvT hZ w2) (mvT hZ w3) (mvT hZ w4) hy (hC.back (W := W) hZ w4 w3 hf hl) (g := mkF m pc L S0) rfl hsz (argsL := argsL) (rest := S) hlen hst (by show 2 * 0 + _ ≤ _; omega) hd (fun _ _ => ⟨rfl, eT, hc, hs⟩)
  dsimp only [Pt.U, Pt.locs, Pt.cells, Pt.slots] at X' l1 y1 z1 st hQ
  subst l1 y1 z1
  exact Goes.via st (q T' v Lc hQ X')
theorem G.callI (X : Stand p l e R s m args below meth c T locs cells slots) (hx : p.tables.exec = Jvm.exec) (hZ : Z.Warmed39 s.vm) {own : String} {index : Nat} (hy1 : y.name = "<init>") (hown : s.vm.findClass own = some m.cls) (w1 : (Cond.methodLink own index y).before a0 Z = true) (w2 : (Cond.instanceMethod y).before a0 Z = true) (w3 : (Cond.initialized y.cls).before a0 Z = true) (w4 : (Cond.code y bytes maxL none).before a0 Z = true)
    (hy : y.cls ≠ "java/lang/invoke/MethodHandle" ∧ y.cls ≠ "java/lang/invoke/VarHandle") (eT : T.heap = h) (hC : Con l y bytes maxL none rm Z (.ref a :: argsL).toArray h QQ) (hlen : ∀ sig, parseMethodDescriptor y.desc = some sig → argsL.length = sig.parameters.length) (hst : S0 = argsL.reverse ++ .ref a :: S) (hW : (S.map fun v => v.category).sum ≤ W)
    (hf : rm.frames + 1 ≤ R.frames) (hl : W + (maxL + 11) + rm.locals ≤ R.locals) (hc : cells + rm.cells ≤ R.cells) (hs : slots + rm.slots ≤ R.slots) (hsz : L.size = c.maxLocals) (hd : decode c.code pc = .ok (.invokespecial index, 3)) (hp : pc + 3 = pc')
    (q : ∀ T' v Lc, QQ v T'.heap Lc → Stand p l e R s m args below meth c T' (locs ++ Lc) (cells + rm.cells) (slots + rm.slots) → Goes p e below T' (mkF m pc' L (v.toList ++ S)) P) : Goes p e below T (mkF m pc L S0) P := by
  subst hp
  obtain ⟨v, vm1, ⟨T', L1, k1, n1⟩, hw1, X', ⟨Lc, hQ, l1, y1, z1⟩, st⟩ := X.specialBack hx (y := y) hy1 hown (mvT hZ w1) (mvT hZ w2) (mvT hZ w4) hy (hC.back (W := W) hZ w4 w3 hf hl) (g := mkF m pc L S0) rfl hsz (Steps.refl _) (a := a) (argsL := argsL) (rest := S) hlen hst (by show 2 * 0 + _ ≤ _; omega) hd (fun _ _ => ⟨rfl, eT, hc, hs⟩)
  dsimp only [Pt.U, Pt.locs, Pt.cells, Pt.slots] at X' l1 y1 z1 st hQ
  subst l1 y1 z1
  exact Goes.thru st (q T' v Lc hQ X')
theorem G.callV (X : Stand p l e R s m args below meth c T locs cells slots) (hx : p.tables.exec = Jvm.exec) (hZ : Z.Warmed39 s.vm) {own C : String} {index : Nat} {y0 : MethodName} (hown : s.vm.findClass own = some m.cls) (w1 : (Cond.methodLink own index y0).before a0 Z = true) (w2 : (Cond.declares y0).before a0 Z = true) (hnf : NotFace s y0) (w3 : (Cond.selects C y0 y).before a0 Z = true) (w4 : (Cond.instanceMethod y).before a0 Z = true) (w5 : (Cond.initialized y.cls).before a0 Z = true) (w6 : (Cond.code y bytes maxL ret).before a0 Z = true)
    (hy : y0.cls ≠ "java/lang/invoke/MethodHandle" ∧ y0.cls ≠ "java/lang/invoke/VarHandle") (eT : T.heap = h) (E : Exa Z h a C) (hC : Con l y bytes maxL ret rm Z (.ref a :: argsL).toArray h QQ) (hlen : ∀ sig, parseMethodDescriptor y0.desc = some sig → argsL.length = sig.parameters.length) (hst : S0 = argsL.reverse ++ .ref a :: S) (hW : (S.map fun v => v.category).sum ≤ W)
    (hf : rm.frames + 1 ≤ R.frames) (hl : W + (maxL + 11) + rm.locals ≤ R.locals) (hc : cells + rm.cells ≤ R.cells) (hs : slots + rm.slots ≤ R.slots) (hsz : L.size = c.maxLocals) (hd : decode c.code pc = .ok (.invokevirtual index, 3)) (hp : pc + 3 = pc')
    (q : ∀ T' v Lc, QQ v T'.heap Lc → Stand p l e R s m args below meth c T' (locs ++ Lc) (cells + rm.cells) (slots + rm.slots) → Goes p e below T' (mkF m pc' L (v.toList ++ S)) P) : Goes p e below T (mkF m pc L S0) P := by
  subst hp
  obtain ⟨cB, kB, i1, i2, i3⟩ := isOf hZ eT E
  obtain ⟨v, vm1, ⟨T', L1, k1, n1⟩, hw1, X', ⟨Lc, hQ, l1, y1, z1⟩, st⟩ := X.virtualBack hx (y := y0) (z := y) hown (mvT hZ w1) (mvT hZ w2) hnf (mvT hZ w3) (mvT hZ w4) hy (hC.back (W := W) hZ w6 w5 hf hl) i1 i3 (g := mkF m pc L S0) rfl hsz (Steps.refl _) (argsL := argsL) (rest := S) hlen hst (by show 2 * 0 + _ ≤ _; omega) hd (fun _ _ => ⟨rfl, eT, hc, hs⟩)
  dsimp only [Pt.U, Pt.locs, Pt.cells, Pt.slots] at X' l1 y1 z1 st hQ
  subst l1 y1 z1
  exact Goes.thru st (q T' v Lc hQ X')
def Pur (v0 : Option Value) (h0 : Heap) (v : Option Value) (h : Heap) (L : List Loc) : Prop := v = v0 ∧ h = h0 ∧ L = []
theorem Seq.arv (F : Seq Z h a ty vs) (hf : ∀ v ∈ vs, fits ty v = true) {z : Int32} (hz : z.toNatClampNeg = vs.length) (hz0 : ¬ z < 0) (dv : Value) : ∃ k, Arv Z h a k ty z vs dv := by
  obtain ⟨cl, A, rfl, hl⟩ := F
  rw [Array.length_toList] at hz
  have hg : ∀ i, i < cl.slots.size → cl.slots[i]? = some (cl.slots.toList.getD i dv) := fun i hi => by
    rw [List.getD_eq_getElem?_getD, Array.getElem?_toList, Array.getElem?_eq_getElem hi]; rfl
  refine ⟨cl.cls, cl, A, rfl, hz.symm, hz0, hg, fun i hi => hf _ ?_⟩
  have := hg i hi
  rw [Array.getElem?_eq_getElem hi] at this
  rw [← Option.some.inj this]
  exact Array.mem_toList_iff.mpr (Array.getElem_mem hi)
theorem Arv.seq {k : ClassId} {z : Int32} {dv : Value} (F : Arv Z h a k ty z vs dv) (hl : vs.length = z.toNatClampNeg) : Seq Z h a ty vs := by
  obtain ⟨cl, A, -, S, hz, H, -⟩ := F
  refine ⟨cl, A, ?_, ?_⟩
  · apply List.ext_getElem?
    intro i
    rw [Array.getElem?_toList]
    by_cases hi : i < cl.slots.size
    · rw [H i hi, List.getD_eq_getElem?_getD, List.getElem?_eq_getElem (by omega)]; rfl
    · rw [Array.getElem?_eq_none (by omega), List.getElem?_eq_none (by omega)]
  · have := Int32.toInt_lt z
    rw [hl]; simp only [Int32.toNatClampNeg]; omega
/-- System.arraycopy of the whole int[] a into the head of the int[] b -/
theorem G.copyInts (X : Stand p l e R s m args below meth c T locs cells slots) (hx : p.tables.exec = Jvm.exec) (hZ : Z.Warmed39 s.vm) {own : String} {index : Nat} (hown : s.vm.findClass own = some m.cls) (w1 : (Cond.methodLink own index Jvm.Stand.acN).before a0 Z = true) (w2 : (Cond.native Jvm.Stand.acN).before a0 Z = true) (w3 : (Cond.static Jvm.Stand.acN).before a0 Z = true) (w4 : (Cond.initialized "java/lang/System").before a0 Z = true) (eT : T.heap = h)
    {xs ys : List Value} (A : Seq Z h a .int xs) (B : Seq Z h b .int ys) (hfx : ∀ v ∈ xs, fits .int v = true) (hfy : ∀ v ∈ ys, fits .int v = true) {z z' : Int32} (hz : z.toNatClampNeg = xs.length) (hz0 : ¬ z < 0) (hz' : z'.toNatClampNeg = ys.length) (hz0' : ¬ z' < 0) (hle : xs.length ≤ ys.length) {n0 : Nat} (N : Fr n0 locs) (ge : n0 ≤ b)
    (hsz : L.size = c.maxLocals) (hd : decode c.code pc = .ok (.invokestatic index, 3)) (hf : 1 ≤ R.frames) {W : Nat} (hW : (S.map fun v => v.category).sum ≤ W) (hlo : W + (nativeFrameWords "java/lang/System" "arraycopy" 5 + 11) ≤ R.locals) (hp : pc + 3 = pc')
    (q : ∀ T' h' L', Stand p l e R s m args below meth c T' L' cells slots → T'.heap = h' → Fr n0 L' → Keep h h' [b] → Seq Z h' b .int (xs ++ ys.drop xs.length) → Goes p e below T' (mkF m pc' L S) P) : Goes p e below T (mkF m pc L (.int z :: .int (0 : Int32) :: .ref b :: .int (0 : Int32) :: .ref a :: S)) P := by
  subst hp
  obtain ⟨ka, FA⟩ := A.arv hfx hz hz0 (.int 0)
  obtain ⟨kb, FB⟩ := B.arv hfy hz' hz0' (.int 0)
  have e0 : (0 : Int32).toNatClampNeg = 0 := rfl
  have hus : xs = (List.range z.toNatClampNeg).map fun i => xs.getD ((0 : Int32).toNatClampNeg + i) (.int 0) := by
    refine List.ext_getElem (by simp [hz]) fun i h1 h2 => ?_
    simp [List.getD_eq_getElem?_getD, h1, e0]
  obtain ⟨T', h', L', X', e', N', K', F', st⟩ := Jvm.RoadKit.cpA X hx hZ hown w1 w2 w3 w4 eT (us := xs) FA FB (Or.inl ⟨rfl, rfl⟩) (sp := 0) (dp := 0) (nn := z) (by decide) (by decide) hz0 (by rw [e0]; omega) (by rw [e0]; omega) hus (by rw [e0]; omega) N ge (g := mkF m pc L (.int z :: .int (0 : Int32) :: .ref b :: .int (0 : Int32) :: .ref a :: S)) rfl hsz rfl hd hf (W := W) (by show 2 * 0 + _ ≤ _; omega) hlo
  refine Goes.via st (q T' h' L' X' e' N' K' ?_)
  have := Arv.seq F' (by rw [e0]; simp; omega)
  rw [e0, hz] at this
  simpa using this
theorem sel_priv {s : State} {args : Array Value} {n : Nat} (hins : (Cond.instantiable y.cls n).before args s = true) (hpriv : (Cond.privateMethod y).before args s = true) (hinst : (Cond.instanceMethod y).before args s = true) (hy : y.cls ≠ "java/lang/invoke/MethodHandle" ∧ y.cls ≠ "java/lang/invoke/VarHandle") : (Cond.selects y.cls y y).before args s = true := by
  obtain ⟨c, k, hc, hk, -, hniab, -, -⟩ := Cond.instantiable_spec hins
  have hni : k.isInterface = false := (Bool.or_eq_false_iff.mp hniab).1
  obtain ⟨mk, methM, hnamed, hmethM, -, -⟩ := Cond.instanceMethod_spec hinst
  have hfound : s.methodFound? y.cls y.name y.desc = some mk := State.methodFound?_of_named hnamed hy
  have hcls : mk.cls = c := Option.some.inj ((findClass_of_methodNamed hnamed).symm.trans hc)
  have hsel : selectMethod {} s.vm c mk = .method mk := selectMethod_private hmethM (Cond.privateMethod_at hpriv mk methM hnamed hmethM)
  simp only [Cond.before, Cond.holds, Cond.value, hc, hfound, hnamed, hsel, hcls, hk]
  simp; exact hni
theorem G.callP (X : Stand p l e R s m args below meth c T locs cells slots) (hx : p.tables.exec = Jvm.exec) (hZ : Z.Warmed39 s.vm) {own : String} {index : Nat} (hown : s.vm.findClass own = some m.cls) (w1 : (Cond.methodLink own index y).before a0 Z = true) (w2 : (Cond.instanceMethod y).before a0 Z = true) {kk : Nat} (w3 : (Cond.instantiable y.cls kk).before a0 Z = true) (w4 : (Cond.privateMethod y).before a0 Z = true) (w5 : (Cond.initialized y.cls).before a0 Z = true) (w6 : (Cond.code y bytes maxL ret).before a0 Z = true)
    (hy : y.cls ≠ "java/lang/invoke/MethodHandle" ∧ y.cls ≠ "java/lang/invoke/VarHandle") (eT : T.heap = h) {C : String} (E : Exa Z h a C) (hC : Con l y bytes maxL ret rm Z (.ref a :: argsL).toArray h QQ) (hlen : ∀ sig, parseMethodDescriptor y.desc = some sig → argsL.length = sig.parameters.length) (hst : S0 = argsL.reverse ++ .ref a :: S) (hW : (S.map fun v => v.category).sum ≤ W)
    (hf : rm.frames + 1 ≤ R.frames) (hl : W + (maxL + 11) + rm.locals ≤ R.locals) (hc : cells + rm.cells ≤ R.cells) (hs : slots + rm.slots ≤ R.slots) (hsz : L.size = c.maxLocals) (hd : decode c.code pc = .ok (.invokevirtual index, 3)) (hp : pc + 3 = pc')
    (q : ∀ T' v Lc, QQ v T'.heap Lc → Stand p l e R s m args below meth c T' (locs ++ Lc) (cells + rm.cells) (slots + rm.slots) → Goes p e below T' (mkF m pc' L (v.toList ++ S)) P) : Goes p e below T (mkF m pc L S0) P := by
  subst hp
  obtain ⟨cl, i1, i2⟩ := E.cell
  obtain ⟨v, vm1, ⟨T', L1, k1, n1⟩, hw1, X', ⟨Lc, hQ, l1, y1, z1⟩, st⟩ := X.privateBack hx (y := y) hown (mvT hZ w1) (mvT hZ w2) (sel_priv (mvT hZ w3) (mvP hZ w4) (mvT hZ w2) hy) (Cond.privateMethod_at (mvP hZ w4 (args := #[]))) (mvT hZ w6) hy (hC.back (W := W) hZ w6 w5 hf hl) (g := mkF m pc L S0) rfl hsz (Steps.refl _) (a := a) (by rw [eT]; exact i1) i2 (argsL := argsL) (rest := S) hlen hst (by show 2 * 0 + _ ≤ _; omega) hd (fun _ _ => ⟨rfl, eT, hc, hs⟩)
  dsimp only [Pt.U, Pt.locs, Pt.cells, Pt.slots] at X' l1 y1 z1 st hQ
  subst l1 y1 z1
  exact Goes.thru st (q T' v Lc hQ X')
theorem Sta.keep0 {C n d : String} (F : Sta Z h C n d v) (K : Keep h h' []) : Sta Z h' C n d v := by
  obtain ⟨cf, i, k, f, st, cell, h1, h2, h3, h4, h5, r⟩ := F
  exact ⟨cf, i, k, f, st, cell, h1, h2, h3, h4, K.2.1 _ _ h5 nin0, r⟩
theorem Goes.join {α : Type} {F : α → JFrame} (k : (∀ z, Goes p e below T (F z) P) → Goes p e below T f P) (hj : ∀ z, Goes p e below T (F z) P) : Goes p e below T f P := k hj
theorem Goes.to (k : Goes p e below T f' P → Goes p e below T f P) (q : Goes p e below T f' P) : Goes p e below T f P := k q
theorem Goes.toT (Φ : State → Prop) (k : (∀ T', Φ T' → Goes p e below T' f' P) → Goes p e below T f P) (q : ∀ T', Φ T' → Goes p e below T' f' P) : Goes p e below T f P := k q
end G
end Jvm.OwnKit
namespace Jvm.Pilot.@@N@@
open Jvm Jvm.ClassFile Sem Op Lib Jvm.Free Jvm.Stand Jvm.LawKit Jvm.RoadKit Jvm.OwnKit Bundle Jvm.Pilot.@@N@@.Jvm.D
theorem d3_0 : decode method_3_code 0 = .ok (.lload_n 0, 1) := by decide +kernel
theorem d3_1 : decode method_3_code 1 = .ok (.ldc2_w 26, 3) := by decide +kernel
theorem d3_4 : decode method_3_code 4 = .ok (.ldiv, 1) := by decide +kernel
theorem d3_5 : decode method_3_code 5 = .ok (.lstore_n 2, 1) := by decide +kernel
theorem d3_6 : decode method_3_code 6 = .ok (.lload_n 2, 1) := by decide +kernel
theorem d3_7 : decode method_3_code 7 = .ok (.ldc2_w 28, 3) := by decide +kernel
theorem d3_10 : decode method_3_code 10 = .ok (.lcmp, 1) := by decide +kernel
theorem d3_11 : decode method_3_code 11 = .ok (.ifCond .gt 11, 3) := by decide +kernel
theorem d3_22 : decode method_3_code 22 = .ok (.lload_n 2, 1) := by decide +kernel
theorem d3_23 : decode method_3_code 23 = .ok (.ldc2_w 30, 3) := by decide +kernel
theorem d3_26 : decode method_3_code 26 = .ok (.lcmp, 1) := by decide +kernel
theorem d3_27 : decode method_3_code 27 = .ok (.ifCond .gt 11, 3) := by decide +kernel
theorem d3_38 : decode method_3_code 38 = .ok (.lload_n 2, 1) := by decide +kernel
theorem d3_39 : decode method_3_code 39 = .ok (.ldc2_w 32, 3) := by decide +kernel
theorem d3_42 : decode method_3_code 42 = .ok (.lcmp, 1) := by decide +kernel
theorem d3_43 : decode method_3_code 43 = .ok (.ifCond .gt 11, 3) := by decide +kernel
theorem d3_54 : decode method_3_code 54 = .ok (.lload_n 2, 1) := by decide +kernel
theorem d3_55 : decode method_3_code 55 = .ok (.ldc2_w 34, 3) := by decide +kernel
theorem d3_58 : decode method_3_code 58 = .ok (.lcmp, 1) := by decide +kernel
theorem d3_59 : decode method_3_code 59 = .ok (.ifCond .gt 11, 3) := by decide +kernel
theorem d3_70 : decode method_3_code 70 = .ok (.ldc2_w 36, 3) := by decide +kernel
theorem d3_73 : decode method_3_code 73 = .ok (.lstore 4, 2) := by decide +kernel
theorem d3_75 : decode method_3_code 75 = .ok (.lload 4, 2) := by decide +kernel
theorem d3_77 : decode method_3_code 77 = .ok (.lreturn, 1) := by decide +kernel
theorem d3_62 : decode method_3_code 62 = .ok (.ldc2_w 34, 3) := by decide +kernel
theorem d3_65 : decode method_3_code 65 = .ok (.lstore 4, 2) := by decide +kernel
theorem d3_67 : decode method_3_code 67 = .ok (.goto 8, 3) := by decide +kernel
theorem d3_46 : decode method_3_code 46 = .ok (.ldc2_w 32, 3) := by decide +kernel
theorem d3_49 : decode method_3_code 49 = .ok (.lstore 4, 2) := by decide +kernel
theorem d3_51 : decode method_3_code 51 = .ok (.goto 24, 3) := by decide +kernel
theorem d3_30 : decode method_3_code 30 = .ok (.ldc2_w 30, 3) := by decide +kernel
theorem d3_33 : decode method_3_code 33 = .ok (.lstore 4, 2) := by decide +kernel
theorem d3_35 : decode method_3_code 35 = .ok (.goto 40, 3) := by decide +kernel
theorem d3_14 : decode method_3_code 14 = .ok (.ldc2_w 28, 3) := by decide +kernel
theorem d3_17 : decode method_3_code 17 = .ok (.lstore 4, 2) := by decide +kernel
theorem d3_19 : decode method_3_code 19 = .ok (.goto 56, 3) := by decide +kernel
theorem ef3_J (m : MethodId) (x0 : Int64) : entryFrame m #[(.long x0)] 6 = mkF m 0 #[.val (.long x0), .second, .unset, .unset, .unset, .unset] [] := by first | (simp [entryFrame, mkF, argsToLocals, Value.category]; done) | rfl
theorem pn_0 : plainName "com/example/flowt/flowt/ledger/LedgerReplayHeapBytesPinLaw" = true := by first | (simp [plainName, overriddenIn]; done) | decide +kernel
theorem d2_0 : decode method_4_code 0 = .ok (.lload_n 0, 1) := by decide +kernel
theorem pd_1 : parseMethodDescriptor "(J)J" = some ⟨[.long], some .long⟩ := by decide +kernel
theorem d2_1 : decode method_4_code 1 = .ok (.invokestatic 38, 3) := by decide +kernel
theorem d2_4 : decode method_4_code 4 = .ok (.lstore_n 2, 1) := by decide +kernel
theorem d2_5 : decode method_4_code 5 = .ok (.lload_n 0, 1) := by decide +kernel
theorem d2_6 : decode method_4_code 6 = .ok (.lload_n 2, 1) := by decide +kernel
theorem d2_7 : decode method_4_code 7 = .ok (.lconst 1, 1) := by decide +kernel
theorem d2_8 : decode method_4_code 8 = .ok (.lsub, 1) := by decide +kernel
theorem d2_9 : decode method_4_code 9 = .ok (.land, 1) := by decide +kernel
theorem d2_10 : decode method_4_code 10 = .ok (.lstore 4, 2) := by decide +kernel
theorem d2_12 : decode method_4_code 12 = .ok (.lload 4, 2) := by decide +kernel
theorem d2_14 : decode method_4_code 14 = .ok (.lconst 0, 1) := by decide +kernel
theorem d2_15 : decode method_4_code 15 = .ok (.lcmp, 1) := by decide +kernel
theorem d2_16 : decode method_4_code 16 = .ok (.ifCond .ne 5, 3) := by decide +kernel
theorem d2_19 : decode method_4_code 19 = .ok (.lload_n 0, 1) := by decide +kernel
theorem d2_20 : decode method_4_code 20 = .ok (.lreturn, 1) := by decide +kernel
theorem d2_21 : decode method_4_code 21 = .ok (.lload_n 0, 1) := by decide +kernel
theorem d2_22 : decode method_4_code 22 = .ok (.lload 4, 2) := by decide +kernel
theorem d2_24 : decode method_4_code 24 = .ok (.lsub, 1) := by decide +kernel
theorem d2_25 : decode method_4_code 25 = .ok (.lstore 6, 2) := by decide +kernel
theorem d2_27 : decode method_4_code 27 = .ok (.lload 6, 2) := by decide +kernel
theorem d2_29 : decode method_4_code 29 = .ok (.ldc2_w 9, 3) := by decide +kernel
theorem d2_32 : decode method_4_code 32 = .ok (.lload_n 2, 1) := by decide +kernel
theorem d2_33 : decode method_4_code 33 = .ok (.lsub, 1) := by decide +kernel
theorem d2_34 : decode method_4_code 34 = .ok (.lcmp, 1) := by decide +kernel
theorem d2_35 : decode method_4_code 35 = .ok (.ifCond .le 7, 3) := by decide +kernel
theorem d2_38 : decode method_4_code 38 = .ok (.ldc2_w 9, 3) := by decide +kernel
theorem d2_41 : decode method_4_code 41 = .ok (.lreturn, 1) := by decide +kernel
theorem d2_42 : decode method_4_code 42 = .ok (.lload 6, 2) := by decide +kernel
theorem d2_44 : decode method_4_code 44 = .ok (.lload_n 2, 1) := by decide +kernel
theorem d2_45 : decode method_4_code 45 = .ok (.ladd, 1) := by decide +kernel
theorem d2_46 : decode method_4_code 46 = .ok (.lreturn, 1) := by decide +kernel
theorem ef2_J (m : MethodId) (x0 : Int64) : entryFrame m #[(.long x0)] 8 = mkF m 0 #[.val (.long x0), .second, .unset, .unset, .unset, .unset, .unset, .unset] [] := by first | (simp [entryFrame, mkF, argsToLocals, Value.category]; done) | rfl
theorem d1_0 : decode prog_36_method_4_code 0 = .ok (.ldc2_w 97, 3) := by decide +kernel
theorem d1_3 : decode prog_36_method_4_code 3 = .ok (.lstore_n 2, 1) := by decide +kernel
theorem d1_4 : decode prog_36_method_4_code 4 = .ok (.lload_n 2, 1) := by decide +kernel
theorem d1_5 : decode prog_36_method_4_code 5 = .ok (.ldc2_w 99, 3) := by decide +kernel
theorem d1_8 : decode prog_36_method_4_code 8 = .ok (.lcmp, 1) := by decide +kernel
theorem d1_9 : decode prog_36_method_4_code 9 = .ok (.ifCond .ge 22, 3) := by decide +kernel
theorem d1_12 : decode prog_36_method_4_code 12 = .ok (.lload_n 2, 1) := by decide +kernel
theorem d1_13 : decode prog_36_method_4_code 13 = .ok (.lload_n 0, 1) := by decide +kernel
theorem d1_14 : decode prog_36_method_4_code 14 = .ok (.ldc2_w 101, 3) := by decide +kernel
theorem d1_17 : decode prog_36_method_4_code 17 = .ok (.ldiv, 1) := by decide +kernel
theorem d1_18 : decode prog_36_method_4_code 18 = .ok (.lcmp, 1) := by decide +kernel
theorem d1_19 : decode prog_36_method_4_code 19 = .ok (.ifCond .ge 12, 3) := by decide +kernel
theorem d1_22 : decode prog_36_method_4_code 22 = .ok (.lload_n 2, 1) := by decide +kernel
theorem d1_23 : decode prog_36_method_4_code 23 = .ok (.ldc2_w 103, 3) := by decide +kernel
theorem d1_26 : decode prog_36_method_4_code 26 = .ok (.lmul, 1) := by decide +kernel
theorem d1_27 : decode prog_36_method_4_code 27 = .ok (.lstore_n 2, 1) := by decide +kernel
theorem d1_28 : decode prog_36_method_4_code 28 = .ok (.goto (-24), 3) := by decide +kernel
theorem d1_31 : decode prog_36_method_4_code 31 = .ok (.lload_n 2, 1) := by decide +kernel
theorem d1_32 : decode prog_36_method_4_code 32 = .ok (.lload_n 0, 1) := by decide +kernel
theorem d1_33 : decode prog_36_method_4_code 33 = .ok (.lload_n 2, 1) := by decide +kernel
theorem d1_34 : decode prog_36_method_4_code 34 = .ok (.lrem, 1) := by decide +kernel
theorem d1_35 : decode prog_36_method_4_code 35 = .ok (.lsub, 1) := by decide +kernel
theorem d1_36 : decode prog_36_method_4_code 36 = .ok (.lload_n 2, 1) := by decide +kernel
theorem d1_37 : decode prog_36_method_4_code 37 = .ok (.lrem, 1) := by decide +kernel
theorem d1_38 : decode prog_36_method_4_code 38 = .ok (.lstore 4, 2) := by decide +kernel
theorem d1_40 : decode prog_36_method_4_code 40 = .ok (.lload_n 0, 1) := by decide +kernel
theorem d1_41 : decode prog_36_method_4_code 41 = .ok (.ldc2_w 3, 3) := by decide +kernel
theorem d1_44 : decode prog_36_method_4_code 44 = .ok (.lload 4, 2) := by decide +kernel
theorem d1_46 : decode prog_36_method_4_code 46 = .ok (.lsub, 1) := by decide +kernel
theorem d1_47 : decode prog_36_method_4_code 47 = .ok (.lcmp, 1) := by decide +kernel
theorem d1_48 : decode prog_36_method_4_code 48 = .ok (.ifCond .le 9, 3) := by decide +kernel
theorem d1_51 : decode prog_36_method_4_code 51 = .ok (.ldc2_w 3, 3) := by decide +kernel
theorem d1_54 : decode prog_36_method_4_code 54 = .ok (.goto 7, 3) := by decide +kernel
theorem d1_61 : decode prog_36_method_4_code 61 = .ok (.lreturn, 1) := by decide +kernel
theorem d1_57 : decode prog_36_method_4_code 57 = .ok (.lload_n 0, 1) := by decide +kernel
theorem d1_58 : decode prog_36_method_4_code 58 = .ok (.lload 4, 2) := by decide +kernel
theorem d1_60 : decode prog_36_method_4_code 60 = .ok (.ladd, 1) := by decide +kernel
theorem ef1_J (m : MethodId) (x0 : Int64) : entryFrame m #[(.long x0)] 6 = mkF m 0 #[.val (.long x0), .second, .unset, .unset, .unset, .unset] [] := by first | (simp [entryFrame, mkF, argsToLocals, Value.category]; done) | rfl
theorem pn_2 : plainName "com/example/flowt/flowt/ledger/Ledger" = true := by first | (simp [plainName, overriddenIn]; done) | decide +kernel
theorem ef0_JII (m : MethodId) (x0 : Int64) (x1 : Int32) (x2 : Int32) : entryFrame m #[(.long x0), (.int x1), (.int x2)] maxLocals = mkF m 0 #[.val (.long x0), .second, .val (.int x1), .val (.int x2), .unset, .unset, .unset] [] := by first | (simp [entryFrame, mkF, argsToLocals, Value.category, maxLocals]; done) | rfl
def mult (x : Int64) : Int64 := if (2097152 : Int64) < x / (2048 : Int64) then (if (4194304 : Int64) < x / (2048 : Int64) then (if (8388608 : Int64) < x / (2048 : Int64) then (if (16777216 : Int64) < x / (2048 : Int64) then (33554432 : Int64) else (16777216 : Int64)) else (8388608 : Int64)) else (4194304 : Int64)) else (2097152 : Int64)
theorem own_add (x y : Int64) (h1 : -9223372036854775808 ≤ x.toInt + y.toInt) (h2 : x.toInt + y.toInt < 9223372036854775808) : (x + y).toInt = x.toInt + y.toInt := by
  have q := c_ladd x y
  have r := rng64 (x + y)
  omega
def padd (x m : Int64) : Int64 := (m - x % m) % m
def repl (x m : Int64) : Int64 := if (9223372036854775807 : Int64) - padd x m < x then (9223372036854775807 : Int64) else x + padd x m
def expc (x m : Int64) : Int64 := if (x &&& (m - (1 : Int64))) = (0 : Int64) then x else if (9223372036854775807 : Int64) - m < x - (x &&& (m - (1 : Int64))) then (9223372036854775807 : Int64) else x - (x &&& (m - (1 : Int64))) + m

theorem own_t21 (X t : Int) (h : (0 ≤ X → t = X % 2097152) ∧ (X < 0 → t = -((-X) % 2097152))) : -2097152 < t ∧ t < 2097152 := by omega
theorem own_p21 (X t p : Int) (h : (0 ≤ X → t = X % 2097152) ∧ (X < 0 → t = -((-X) % 2097152))) (hp : p = (2097152 - t) % 2097152) : 0 ≤ X % 2097152 ∧ X % 2097152 < 2097152 ∧ 0 ≤ p ∧ p < 2097152 ∧ (X % 2097152 = 0 → p = 0) ∧ (X % 2097152 ≠ 0 → p = 2097152 - X % 2097152) := by omega
theorem own_f21 (X : Int) (h : -9223372036854775808 ≤ X) : -9223372036854775808 ≤ X - X % 2097152 := by omega
theorem own_21 (x : Int64) : repl x (2097152 : Int64) = expc x (2097152 : Int64) := by
  have r0 := rng64 x
  have zM : (2097152 : Int64).toInt = 2097152 := rfl
  have zX : (9223372036854775807 : Int64).toInt = 9223372036854775807 := rfl
  have z0 : (0 : Int64).toInt = 0 := rfl
  have e1 : (x &&& ((2097152 : Int64) - (1 : Int64))).toInt = x.toInt % (2097152 : Int) := c_maskL x ((2097152 : Int64) - 1) 21 (by decide) (by decide)
  have e2 : (x % (2097152 : Int64)).toInt = x.toInt.tmod 2097152 := Int64.toInt_mod x (2097152 : Int64)
  have e3 := tr x.toInt 2097152
  rw [← e2] at e3
  have e4 := own_t21 _ _ e3
  have e5 : ((2097152 : Int64) - x % (2097152 : Int64)).toInt = 2097152 - (x % (2097152 : Int64)).toInt := by
    have q := c_lsub (2097152 : Int64) (x % (2097152 : Int64))
    have r := rng64 ((2097152 : Int64) - x % (2097152 : Int64))
    omega
  have e6 : (padd x (2097152 : Int64)).toInt = (2097152 - (x % (2097152 : Int64)).toInt) % 2097152 := by
    have q : (((2097152 : Int64) - x % (2097152 : Int64)) % (2097152 : Int64)).toInt = ((2097152 : Int64) - x % (2097152 : Int64)).toInt.tmod 2097152 := Int64.toInt_mod _ (2097152 : Int64)
    show (((2097152 : Int64) - x % (2097152 : Int64)) % (2097152 : Int64)).toInt = _
    rw [q, (tr _ _).1 (by omega), e5]
  have e7 := own_p21 _ _ _ e3 e6
  have e8 := own_f21 _ r0.1
  rw [← e1] at e7 e8
  clear e1 e2 e3 e4 e5 e6
  unfold repl expc
  generalize padd x (2097152 : Int64) = pd at e7 ⊢
  generalize (x &&& ((2097152 : Int64) - (1 : Int64))) = lw at e7 e8 ⊢
  have a1 : ((9223372036854775807 : Int64) - pd).toInt = 9223372036854775807 - pd.toInt := by
    have q := c_lsub (9223372036854775807 : Int64) pd
    have r := rng64 ((9223372036854775807 : Int64) - pd)
    omega
  have a2 : ((9223372036854775807 : Int64) - (2097152 : Int64)).toInt = 9223372036854775807 - 2097152 := by decide
  have a3 : (x - lw).toInt = x.toInt - lw.toInt := by
    have q := c_lsub x lw
    have r := rng64 (x - lw)
    omega
  have c1 : (9223372036854775807 : Int64) - pd < x ↔ 9223372036854775807 - pd.toInt < x.toInt := by rw [Int64.lt_iff_toInt_lt, a1]
  have c2 : lw = (0 : Int64) ↔ lw.toInt = 0 := by rw [← Int64.toInt_inj, z0]
  have c3 : (9223372036854775807 : Int64) - (2097152 : Int64) < x - lw ↔ 9223372036854775807 - 2097152 < x.toInt - lw.toInt := by rw [Int64.lt_iff_toInt_lt, a2, a3]
  by_cases q2 : lw = (0 : Int64)
  · rw [if_pos q2]
    have q3 : pd.toInt = 0 := e7.2.2.2.2.1 (c2.mp q2)
    rw [if_neg (fun z => by have := c1.mp z; omega)]
    apply Int64.toInt_inj.mp
    rw [own_add x pd (by omega) (by omega)]
    omega
  · rw [if_neg q2]
    have q3 : pd.toInt = 2097152 - lw.toInt := e7.2.2.2.2.2 (fun z => q2 (c2.mpr z))
    by_cases q4 : (9223372036854775807 : Int64) - (2097152 : Int64) < x - lw
    · rw [if_pos q4, if_pos (c1.mpr (by have := c3.mp q4; omega))]
    · rw [if_neg q4, if_neg (fun z => q4 (c3.mpr (by have := c1.mp z; omega)))]
      have q5 : ¬ (9223372036854775807 - 2097152 < x.toInt - lw.toInt) := fun z => q4 (c3.mpr z)
      apply Int64.toInt_inj.mp
      rw [own_add x pd (by omega) (by omega), own_add (x - lw) (2097152 : Int64) (by omega) (by omega)]
      omega
theorem own_t22 (X t : Int) (h : (0 ≤ X → t = X % 4194304) ∧ (X < 0 → t = -((-X) % 4194304))) : -4194304 < t ∧ t < 4194304 := by omega
theorem own_p22 (X t p : Int) (h : (0 ≤ X → t = X % 4194304) ∧ (X < 0 → t = -((-X) % 4194304))) (hp : p = (4194304 - t) % 4194304) : 0 ≤ X % 4194304 ∧ X % 4194304 < 4194304 ∧ 0 ≤ p ∧ p < 4194304 ∧ (X % 4194304 = 0 → p = 0) ∧ (X % 4194304 ≠ 0 → p = 4194304 - X % 4194304) := by omega
theorem own_f22 (X : Int) (h : -9223372036854775808 ≤ X) : -9223372036854775808 ≤ X - X % 4194304 := by omega
theorem own_22 (x : Int64) : repl x (4194304 : Int64) = expc x (4194304 : Int64) := by
  have r0 := rng64 x
  have zM : (4194304 : Int64).toInt = 4194304 := rfl
  have zX : (9223372036854775807 : Int64).toInt = 9223372036854775807 := rfl
  have z0 : (0 : Int64).toInt = 0 := rfl
  have e1 : (x &&& ((4194304 : Int64) - (1 : Int64))).toInt = x.toInt % (4194304 : Int) := c_maskL x ((4194304 : Int64) - 1) 22 (by decide) (by decide)
  have e2 : (x % (4194304 : Int64)).toInt = x.toInt.tmod 4194304 := Int64.toInt_mod x (4194304 : Int64)
  have e3 := tr x.toInt 4194304
  rw [← e2] at e3
  have e4 := own_t22 _ _ e3
  have e5 : ((4194304 : Int64) - x % (4194304 : Int64)).toInt = 4194304 - (x % (4194304 : Int64)).toInt := by
    have q := c_lsub (4194304 : Int64) (x % (4194304 : Int64))
    have r := rng64 ((4194304 : Int64) - x % (4194304 : Int64))
    omega
  have e6 : (padd x (4194304 : Int64)).toInt = (4194304 - (x % (4194304 : Int64)).toInt) % 4194304 := by
    have q : (((4194304 : Int64) - x % (4194304 : Int64)) % (4194304 : Int64)).toInt = ((4194304 : Int64) - x % (4194304 : Int64)).toInt.tmod 4194304 := Int64.toInt_mod _ (4194304 : Int64)
    show (((4194304 : Int64) - x % (4194304 : Int64)) % (4194304 : Int64)).toInt = _
    rw [q, (tr _ _).1 (by omega), e5]
  have e7 := own_p22 _ _ _ e3 e6
  have e8 := own_f22 _ r0.1
  rw [← e1] at e7 e8
  clear e1 e2 e3 e4 e5 e6
  unfold repl expc
  generalize padd x (4194304 : Int64) = pd at e7 ⊢
  generalize (x &&& ((4194304 : Int64) - (1 : Int64))) = lw at e7 e8 ⊢
  have a1 : ((9223372036854775807 : Int64) - pd).toInt = 9223372036854775807 - pd.toInt := by
    have q := c_lsub (9223372036854775807 : Int64) pd
    have r := rng64 ((9223372036854775807 : Int64) - pd)
    omega
  have a2 : ((9223372036854775807 : Int64) - (4194304 : Int64)).toInt = 9223372036854775807 - 4194304 := by decide
  have a3 : (x - lw).toInt = x.toInt - lw.toInt := by
    have q := c_lsub x lw
    have r := rng64 (x - lw)
    omega
  have c1 : (9223372036854775807 : Int64) - pd < x ↔ 9223372036854775807 - pd.toInt < x.toInt := by rw [Int64.lt_iff_toInt_lt, a1]
  have c2 : lw = (0 : Int64) ↔ lw.toInt = 0 := by rw [← Int64.toInt_inj, z0]
  have c3 : (9223372036854775807 : Int64) - (4194304 : Int64) < x - lw ↔ 9223372036854775807 - 4194304 < x.toInt - lw.toInt := by rw [Int64.lt_iff_toInt_lt, a2, a3]
  by_cases q2 : lw = (0 : Int64)
  · rw [if_pos q2]
    have q3 : pd.toInt = 0 := e7.2.2.2.2.1 (c2.mp q2)
    rw [if_neg (fun z => by have := c1.mp z; omega)]
    apply Int64.toInt_inj.mp
    rw [own_add x pd (by omega) (by omega)]
    omega
  · rw [if_neg q2]
    have q3 : pd.toInt = 4194304 - lw.toInt := e7.2.2.2.2.2 (fun z => q2 (c2.mpr z))
    by_cases q4 : (9223372036854775807 : Int64) - (4194304 : Int64) < x - lw
    · rw [if_pos q4, if_pos (c1.mpr (by have := c3.mp q4; omega))]
    · rw [if_neg q4, if_neg (fun z => q4 (c3.mpr (by have := c1.mp z; omega)))]
      have q5 : ¬ (9223372036854775807 - 4194304 < x.toInt - lw.toInt) := fun z => q4 (c3.mpr z)
      apply Int64.toInt_inj.mp
      rw [own_add x pd (by omega) (by omega), own_add (x - lw) (4194304 : Int64) (by omega) (by omega)]
      omega
theorem own_t23 (X t : Int) (h : (0 ≤ X → t = X % 8388608) ∧ (X < 0 → t = -((-X) % 8388608))) : -8388608 < t ∧ t < 8388608 := by omega
theorem own_p23 (X t p : Int) (h : (0 ≤ X → t = X % 8388608) ∧ (X < 0 → t = -((-X) % 8388608))) (hp : p = (8388608 - t) % 8388608) : 0 ≤ X % 8388608 ∧ X % 8388608 < 8388608 ∧ 0 ≤ p ∧ p < 8388608 ∧ (X % 8388608 = 0 → p = 0) ∧ (X % 8388608 ≠ 0 → p = 8388608 - X % 8388608) := by omega
theorem own_f23 (X : Int) (h : -9223372036854775808 ≤ X) : -9223372036854775808 ≤ X - X % 8388608 := by omega
theorem own_23 (x : Int64) : repl x (8388608 : Int64) = expc x (8388608 : Int64) := by
  have r0 := rng64 x
  have zM : (8388608 : Int64).toInt = 8388608 := rfl
  have zX : (9223372036854775807 : Int64).toInt = 9223372036854775807 := rfl
  have z0 : (0 : Int64).toInt = 0 := rfl
  have e1 : (x &&& ((8388608 : Int64) - (1 : Int64))).toInt = x.toInt % (8388608 : Int) := c_maskL x ((8388608 : Int64) - 1) 23 (by decide) (by decide)
  have e2 : (x % (8388608 : Int64)).toInt = x.toInt.tmod 8388608 := Int64.toInt_mod x (8388608 : Int64)
  have e3 := tr x.toInt 8388608
  rw [← e2] at e3
  have e4 := own_t23 _ _ e3
  have e5 : ((8388608 : Int64) - x % (8388608 : Int64)).toInt = 8388608 - (x % (8388608 : Int64)).toInt := by
    have q := c_lsub (8388608 : Int64) (x % (8388608 : Int64))
    have r := rng64 ((8388608 : Int64) - x % (8388608 : Int64))
    omega
  have e6 : (padd x (8388608 : Int64)).toInt = (8388608 - (x % (8388608 : Int64)).toInt) % 8388608 := by
    have q : (((8388608 : Int64) - x % (8388608 : Int64)) % (8388608 : Int64)).toInt = ((8388608 : Int64) - x % (8388608 : Int64)).toInt.tmod 8388608 := Int64.toInt_mod _ (8388608 : Int64)
    show (((8388608 : Int64) - x % (8388608 : Int64)) % (8388608 : Int64)).toInt = _
    rw [q, (tr _ _).1 (by omega), e5]
  have e7 := own_p23 _ _ _ e3 e6
  have e8 := own_f23 _ r0.1
  rw [← e1] at e7 e8
  clear e1 e2 e3 e4 e5 e6
  unfold repl expc
  generalize padd x (8388608 : Int64) = pd at e7 ⊢
  generalize (x &&& ((8388608 : Int64) - (1 : Int64))) = lw at e7 e8 ⊢
  have a1 : ((9223372036854775807 : Int64) - pd).toInt = 9223372036854775807 - pd.toInt := by
    have q := c_lsub (9223372036854775807 : Int64) pd
    have r := rng64 ((9223372036854775807 : Int64) - pd)
    omega
  have a2 : ((9223372036854775807 : Int64) - (8388608 : Int64)).toInt = 9223372036854775807 - 8388608 := by decide
  have a3 : (x - lw).toInt = x.toInt - lw.toInt := by
    have q := c_lsub x lw
    have r := rng64 (x - lw)
    omega
  have c1 : (9223372036854775807 : Int64) - pd < x ↔ 9223372036854775807 - pd.toInt < x.toInt := by rw [Int64.lt_iff_toInt_lt, a1]
  have c2 : lw = (0 : Int64) ↔ lw.toInt = 0 := by rw [← Int64.toInt_inj, z0]
  have c3 : (9223372036854775807 : Int64) - (8388608 : Int64) < x - lw ↔ 9223372036854775807 - 8388608 < x.toInt - lw.toInt := by rw [Int64.lt_iff_toInt_lt, a2, a3]
  by_cases q2 : lw = (0 : Int64)
  · rw [if_pos q2]
    have q3 : pd.toInt = 0 := e7.2.2.2.2.1 (c2.mp q2)
    rw [if_neg (fun z => by have := c1.mp z; omega)]
    apply Int64.toInt_inj.mp
    rw [own_add x pd (by omega) (by omega)]
    omega
  · rw [if_neg q2]
    have q3 : pd.toInt = 8388608 - lw.toInt := e7.2.2.2.2.2 (fun z => q2 (c2.mpr z))
    by_cases q4 : (9223372036854775807 : Int64) - (8388608 : Int64) < x - lw
    · rw [if_pos q4, if_pos (c1.mpr (by have := c3.mp q4; omega))]
    · rw [if_neg q4, if_neg (fun z => q4 (c3.mpr (by have := c1.mp z; omega)))]
      have q5 : ¬ (9223372036854775807 - 8388608 < x.toInt - lw.toInt) := fun z => q4 (c3.mpr z)
      apply Int64.toInt_inj.mp
      rw [own_add x pd (by omega) (by omega), own_add (x - lw) (8388608 : Int64) (by omega) (by omega)]
      omega
theorem own_t24 (X t : Int) (h : (0 ≤ X → t = X % 16777216) ∧ (X < 0 → t = -((-X) % 16777216))) : -16777216 < t ∧ t < 16777216 := by omega
theorem own_p24 (X t p : Int) (h : (0 ≤ X → t = X % 16777216) ∧ (X < 0 → t = -((-X) % 16777216))) (hp : p = (16777216 - t) % 16777216) : 0 ≤ X % 16777216 ∧ X % 16777216 < 16777216 ∧ 0 ≤ p ∧ p < 16777216 ∧ (X % 16777216 = 0 → p = 0) ∧ (X % 16777216 ≠ 0 → p = 16777216 - X % 16777216) := by omega
theorem own_f24 (X : Int) (h : -9223372036854775808 ≤ X) : -9223372036854775808 ≤ X - X % 16777216 := by omega
theorem own_24 (x : Int64) : repl x (16777216 : Int64) = expc x (16777216 : Int64) := by
  have r0 := rng64 x
  have zM : (16777216 : Int64).toInt = 16777216 := rfl
  have zX : (9223372036854775807 : Int64).toInt = 9223372036854775807 := rfl
  have z0 : (0 : Int64).toInt = 0 := rfl
  have e1 : (x &&& ((16777216 : Int64) - (1 : Int64))).toInt = x.toInt % (16777216 : Int) := c_maskL x ((16777216 : Int64) - 1) 24 (by decide) (by decide)
  have e2 : (x % (16777216 : Int64)).toInt = x.toInt.tmod 16777216 := Int64.toInt_mod x (16777216 : Int64)
  have e3 := tr x.toInt 16777216
  rw [← e2] at e3
  have e4 := own_t24 _ _ e3
  have e5 : ((16777216 : Int64) - x % (16777216 : Int64)).toInt = 16777216 - (x % (16777216 : Int64)).toInt := by
    have q := c_lsub (16777216 : Int64) (x % (16777216 : Int64))
    have r := rng64 ((16777216 : Int64) - x % (16777216 : Int64))
    omega
  have e6 : (padd x (16777216 : Int64)).toInt = (16777216 - (x % (16777216 : Int64)).toInt) % 16777216 := by
    have q : (((16777216 : Int64) - x % (16777216 : Int64)) % (16777216 : Int64)).toInt = ((16777216 : Int64) - x % (16777216 : Int64)).toInt.tmod 16777216 := Int64.toInt_mod _ (16777216 : Int64)
    show (((16777216 : Int64) - x % (16777216 : Int64)) % (16777216 : Int64)).toInt = _
    rw [q, (tr _ _).1 (by omega), e5]
  have e7 := own_p24 _ _ _ e3 e6
  have e8 := own_f24 _ r0.1
  rw [← e1] at e7 e8
  clear e1 e2 e3 e4 e5 e6
  unfold repl expc
  generalize padd x (16777216 : Int64) = pd at e7 ⊢
  generalize (x &&& ((16777216 : Int64) - (1 : Int64))) = lw at e7 e8 ⊢
  have a1 : ((9223372036854775807 : Int64) - pd).toInt = 9223372036854775807 - pd.toInt := by
    have q := c_lsub (9223372036854775807 : Int64) pd
    have r := rng64 ((9223372036854775807 : Int64) - pd)
    omega
  have a2 : ((9223372036854775807 : Int64) - (16777216 : Int64)).toInt = 9223372036854775807 - 16777216 := by decide
  have a3 : (x - lw).toInt = x.toInt - lw.toInt := by
    have q := c_lsub x lw
    have r := rng64 (x - lw)
    omega
  have c1 : (9223372036854775807 : Int64) - pd < x ↔ 9223372036854775807 - pd.toInt < x.toInt := by rw [Int64.lt_iff_toInt_lt, a1]
  have c2 : lw = (0 : Int64) ↔ lw.toInt = 0 := by rw [← Int64.toInt_inj, z0]
  have c3 : (9223372036854775807 : Int64) - (16777216 : Int64) < x - lw ↔ 9223372036854775807 - 16777216 < x.toInt - lw.toInt := by rw [Int64.lt_iff_toInt_lt, a2, a3]
  by_cases q2 : lw = (0 : Int64)
  · rw [if_pos q2]
    have q3 : pd.toInt = 0 := e7.2.2.2.2.1 (c2.mp q2)
    rw [if_neg (fun z => by have := c1.mp z; omega)]
    apply Int64.toInt_inj.mp
    rw [own_add x pd (by omega) (by omega)]
    omega
  · rw [if_neg q2]
    have q3 : pd.toInt = 16777216 - lw.toInt := e7.2.2.2.2.2 (fun z => q2 (c2.mpr z))
    by_cases q4 : (9223372036854775807 : Int64) - (16777216 : Int64) < x - lw
    · rw [if_pos q4, if_pos (c1.mpr (by have := c3.mp q4; omega))]
    · rw [if_neg q4, if_neg (fun z => q4 (c3.mpr (by have := c1.mp z; omega)))]
      have q5 : ¬ (9223372036854775807 - 16777216 < x.toInt - lw.toInt) := fun z => q4 (c3.mpr z)
      apply Int64.toInt_inj.mp
      rw [own_add x pd (by omega) (by omega), own_add (x - lw) (16777216 : Int64) (by omega) (by omega)]
      omega
theorem own_t25 (X t : Int) (h : (0 ≤ X → t = X % 33554432) ∧ (X < 0 → t = -((-X) % 33554432))) : -33554432 < t ∧ t < 33554432 := by omega
theorem own_p25 (X t p : Int) (h : (0 ≤ X → t = X % 33554432) ∧ (X < 0 → t = -((-X) % 33554432))) (hp : p = (33554432 - t) % 33554432) : 0 ≤ X % 33554432 ∧ X % 33554432 < 33554432 ∧ 0 ≤ p ∧ p < 33554432 ∧ (X % 33554432 = 0 → p = 0) ∧ (X % 33554432 ≠ 0 → p = 33554432 - X % 33554432) := by omega
theorem own_f25 (X : Int) (h : -9223372036854775808 ≤ X) : -9223372036854775808 ≤ X - X % 33554432 := by omega
theorem own_25 (x : Int64) : repl x (33554432 : Int64) = expc x (33554432 : Int64) := by
  have r0 := rng64 x
  have zM : (33554432 : Int64).toInt = 33554432 := rfl
  have zX : (9223372036854775807 : Int64).toInt = 9223372036854775807 := rfl
  have z0 : (0 : Int64).toInt = 0 := rfl
  have e1 : (x &&& ((33554432 : Int64) - (1 : Int64))).toInt = x.toInt % (33554432 : Int) := c_maskL x ((33554432 : Int64) - 1) 25 (by decide) (by decide)
  have e2 : (x % (33554432 : Int64)).toInt = x.toInt.tmod 33554432 := Int64.toInt_mod x (33554432 : Int64)
  have e3 := tr x.toInt 33554432
  rw [← e2] at e3
  have e4 := own_t25 _ _ e3
  have e5 : ((33554432 : Int64) - x % (33554432 : Int64)).toInt = 33554432 - (x % (33554432 : Int64)).toInt := by
    have q := c_lsub (33554432 : Int64) (x % (33554432 : Int64))
    have r := rng64 ((33554432 : Int64) - x % (33554432 : Int64))
    omega
  have e6 : (padd x (33554432 : Int64)).toInt = (33554432 - (x % (33554432 : Int64)).toInt) % 33554432 := by
    have q : (((33554432 : Int64) - x % (33554432 : Int64)) % (33554432 : Int64)).toInt = ((33554432 : Int64) - x % (33554432 : Int64)).toInt.tmod 33554432 := Int64.toInt_mod _ (33554432 : Int64)
    show (((33554432 : Int64) - x % (33554432 : Int64)) % (33554432 : Int64)).toInt = _
    rw [q, (tr _ _).1 (by omega), e5]
  have e7 := own_p25 _ _ _ e3 e6
  have e8 := own_f25 _ r0.1
  rw [← e1] at e7 e8
  clear e1 e2 e3 e4 e5 e6
  unfold repl expc
  generalize padd x (33554432 : Int64) = pd at e7 ⊢
  generalize (x &&& ((33554432 : Int64) - (1 : Int64))) = lw at e7 e8 ⊢
  have a1 : ((9223372036854775807 : Int64) - pd).toInt = 9223372036854775807 - pd.toInt := by
    have q := c_lsub (9223372036854775807 : Int64) pd
    have r := rng64 ((9223372036854775807 : Int64) - pd)
    omega
  have a2 : ((9223372036854775807 : Int64) - (33554432 : Int64)).toInt = 9223372036854775807 - 33554432 := by decide
  have a3 : (x - lw).toInt = x.toInt - lw.toInt := by
    have q := c_lsub x lw
    have r := rng64 (x - lw)
    omega
  have c1 : (9223372036854775807 : Int64) - pd < x ↔ 9223372036854775807 - pd.toInt < x.toInt := by rw [Int64.lt_iff_toInt_lt, a1]
  have c2 : lw = (0 : Int64) ↔ lw.toInt = 0 := by rw [← Int64.toInt_inj, z0]
  have c3 : (9223372036854775807 : Int64) - (33554432 : Int64) < x - lw ↔ 9223372036854775807 - 33554432 < x.toInt - lw.toInt := by rw [Int64.lt_iff_toInt_lt, a2, a3]
  by_cases q2 : lw = (0 : Int64)
  · rw [if_pos q2]
    have q3 : pd.toInt = 0 := e7.2.2.2.2.1 (c2.mp q2)
    rw [if_neg (fun z => by have := c1.mp z; omega)]
    apply Int64.toInt_inj.mp
    rw [own_add x pd (by omega) (by omega)]
    omega
  · rw [if_neg q2]
    have q3 : pd.toInt = 33554432 - lw.toInt := e7.2.2.2.2.2 (fun z => q2 (c2.mpr z))
    by_cases q4 : (9223372036854775807 : Int64) - (33554432 : Int64) < x - lw
    · rw [if_pos q4, if_pos (c1.mpr (by have := c3.mp q4; omega))]
    · rw [if_neg q4, if_neg (fun z => q4 (c3.mpr (by have := c1.mp z; omega)))]
      have q5 : ¬ (9223372036854775807 - 33554432 < x.toInt - lw.toInt) := fun z => q4 (c3.mpr z)
      apply Int64.toInt_inj.mp
      rw [own_add x pd (by omega) (by omega), own_add (x - lw) (33554432 : Int64) (by omega) (by omega)]
      omega
theorem own_all (x : Int64) : repl x (mult x) = expc x (mult x) := by
  unfold mult
  repeat' split
  · exact own_25 x
  · exact own_24 x
  · exact own_23 x
  · exact own_22 x
  · exact own_21 x
set_option maxRecDepth 65536 in
set_option maxHeartbeats 40000000 in
theorem rm_mult (l : Launch) (Z : State) (a0 : Array Value) (hw : ∀ d ∈ tables_1, d.before a0 Z = true) (q0 : Int64) (h0 : Heap)  :
    Con l (⟨"com/example/flowt/flowt/ledger/LedgerReplayHeapBytesPinLaw", "multipleFor", "(J)J"⟩ : MethodName) method_3_code 6 (some .long) ({ frames := 0, cells := 0, slots := 0, locals := 0 } : Room) Z #[(.long q0)] h0 (Pur (some (.long (mult q0))) h0) := by
  refine Con.of_body (plainFor_of_name pn_0) ?_
  intro p e s m below meth c T0 X0 hx hby hml hZ hown hnm hret hlk e0
  have hown : s.vm.findClass "com/example/flowt/flowt/ledger/LedgerReplayHeapBytesPinLaw" = some m.cls := hown
  have hml : c.maxLocals = 6 := hml
  refine Goes.cast (ef3_J m q0) ?_
  refine G.lloadN X0 hx (pc' := 1) (hb hby d3_0) rfl rfl ?_
  refine G.ldcLong X0 hx hZ hown (hw _ (List.mem_of_getElem? (i := 16) rfl)) (pc' := 4) (hb hby d3_1) rfl ?_
  refine G.ldiv X0 hx (pc' := 5) (hb hby d3_4) (by decide) rfl ?_
  refine G.lstoreN X0 hx (pc' := 6) (hb hby d3_5) (L' := #[.val (.long q0), .second, .val (.long (q0 / (2048 : Int64))), .second, .unset, .unset]) rfl rfl ?_
  refine G.lloadN X0 hx (pc' := 7) (hb hby d3_6) rfl rfl ?_
  refine G.ldcLong X0 hx hZ hown (hw _ (List.mem_of_getElem? (i := 17) rfl)) (pc' := 10) (hb hby d3_7) rfl ?_
  refine G.lcmp X0 hx (pc' := 11) (hb hby d3_10) rfl ?_
  by_cases h0 : (2097152 : Int64) < (q0 / (2048 : Int64))
  · refine G.ifT X0 hx (pc' := 22) (hb hby d3_11) (Jvm.Free.XT.ll_gt_t h0) (by decide) (by decide) ?_
    refine G.lloadN X0 hx (pc' := 23) (hb hby d3_22) rfl rfl ?_
    refine G.ldcLong X0 hx hZ hown (hw _ (List.mem_of_getElem? (i := 18) rfl)) (pc' := 26) (hb hby d3_23) rfl ?_
    refine G.lcmp X0 hx (pc' := 27) (hb hby d3_26) rfl ?_
    by_cases h1 : (4194304 : Int64) < (q0 / (2048 : Int64))
    · refine G.ifT X0 hx (pc' := 38) (hb hby d3_27) (Jvm.Free.XT.ll_gt_t h1) (by decide) (by decide) ?_
      refine G.lloadN X0 hx (pc' := 39) (hb hby d3_38) rfl rfl ?_
      refine G.ldcLong X0 hx hZ hown (hw _ (List.mem_of_getElem? (i := 20) rfl)) (pc' := 42) (hb hby d3_39) rfl ?_
      refine G.lcmp X0 hx (pc' := 43) (hb hby d3_42) rfl ?_
      by_cases h2 : (8388608 : Int64) < (q0 / (2048 : Int64))
      · refine G.ifT X0 hx (pc' := 54) (hb hby d3_43) (Jvm.Free.XT.ll_gt_t h2) (by decide) (by decide) ?_
        refine G.lloadN X0 hx (pc' := 55) (hb hby d3_54) rfl rfl ?_
        refine G.ldcLong X0 hx hZ hown (hw _ (List.mem_of_getElem? (i := 21) rfl)) (pc' := 58) (hb hby d3_55) rfl ?_
        refine G.lcmp X0 hx (pc' := 59) (hb hby d3_58) rfl ?_
        by_cases h3 : (16777216 : Int64) < (q0 / (2048 : Int64))
        · refine G.ifT X0 hx (pc' := 70) (hb hby d3_59) (Jvm.Free.XT.ll_gt_t h3) (by decide) (by decide) ?_
          refine G.ldcLong X0 hx hZ hown (hw _ (List.mem_of_getElem? (i := 22) rfl)) (pc' := 73) (hb hby d3_70) rfl ?_
          refine G.lstore X0 hx (pc' := 75) (hb hby d3_73) (L' := #[.val (.long q0), .second, .val (.long (q0 / (2048 : Int64))), .second, .val (.long (33554432 : Int64)), .second]) rfl rfl ?_
          refine G.lload X0 hx (pc' := 77) (hb hby d3_75) rfl rfl ?_
          refine Goes.retJ X0 hx hret hlk (hb hby d3_77) (by decide) (by decide) ⟨by rw [mult, if_pos h0, if_pos h1, if_pos h2, if_pos h3], e0, rfl⟩
        · refine G.ifF X0 hx (pc' := 62) (hb hby d3_59) (Jvm.Free.XT.ll_gt_f h3) rfl ?_
          refine G.ldcLong X0 hx hZ hown (hw _ (List.mem_of_getElem? (i := 21) rfl)) (pc' := 65) (hb hby d3_62) rfl ?_
          refine G.lstore X0 hx (pc' := 67) (hb hby d3_65) (L' := #[.val (.long q0), .second, .val (.long (q0 / (2048 : Int64))), .second, .val (.long (16777216 : Int64)), .second]) rfl rfl ?_
          refine G.goto X0 hx (pc' := 75) (hb hby d3_67) (by decide) (by decide) ?_
          refine G.lload X0 hx (pc' := 77) (hb hby d3_75) rfl rfl ?_
          refine Goes.retJ X0 hx hret hlk (hb hby d3_77) (by decide) (by decide) ⟨by rw [mult, if_pos h0, if_pos h1, if_pos h2, if_neg h3], e0, rfl⟩
      · refine G.ifF X0 hx (pc' := 46) (hb hby d3_43) (Jvm.Free.XT.ll_gt_f h2) rfl ?_
        refine G.ldcLong X0 hx hZ hown (hw _ (List.mem_of_getElem? (i := 20) rfl)) (pc' := 49) (hb hby d3_46) rfl ?_
        refine G.lstore X0 hx (pc' := 51) (hb hby d3_49) (L' := #[.val (.long q0), .second, .val (.long (q0 / (2048 : Int64))), .second, .val (.long (8388608 : Int64)), .second]) rfl rfl ?_
        refine G.goto X0 hx (pc' := 75) (hb hby d3_51) (by decide) (by decide) ?_
        refine G.lload X0 hx (pc' := 77) (hb hby d3_75) rfl rfl ?_
        refine Goes.retJ X0 hx hret hlk (hb hby d3_77) (by decide) (by decide) ⟨by rw [mult, if_pos h0, if_pos h1, if_neg h2], e0, rfl⟩
    · refine G.ifF X0 hx (pc' := 30) (hb hby d3_27) (Jvm.Free.XT.ll_gt_f h1) rfl ?_
      refine G.ldcLong X0 hx hZ hown (hw _ (List.mem_of_getElem? (i := 18) rfl)) (pc' := 33) (hb hby d3_30) rfl ?_
      refine G.lstore X0 hx (pc' := 35) (hb hby d3_33) (L' := #[.val (.long q0), .second, .val (.long (q0 / (2048 : Int64))), .second, .val (.long (4194304 : Int64)), .second]) rfl rfl ?_
      refine G.goto X0 hx (pc' := 75) (hb hby d3_35) (by decide) (by decide) ?_
      refine G.lload X0 hx (pc' := 77) (hb hby d3_75) rfl rfl ?_
      refine Goes.retJ X0 hx hret hlk (hb hby d3_77) (by decide) (by decide) ⟨by rw [mult, if_pos h0, if_neg h1], e0, rfl⟩
  · refine G.ifF X0 hx (pc' := 14) (hb hby d3_11) (Jvm.Free.XT.ll_gt_f h0) rfl ?_
    refine G.ldcLong X0 hx hZ hown (hw _ (List.mem_of_getElem? (i := 17) rfl)) (pc' := 17) (hb hby d3_14) rfl ?_
    refine G.lstore X0 hx (pc' := 19) (hb hby d3_17) (L' := #[.val (.long q0), .second, .val (.long (q0 / (2048 : Int64))), .second, .val (.long (2097152 : Int64)), .second]) rfl rfl ?_
    refine G.goto X0 hx (pc' := 75) (hb hby d3_19) (by decide) (by decide) ?_
    refine G.lload X0 hx (pc' := 77) (hb hby d3_75) rfl rfl ?_
    refine Goes.retJ X0 hx hret hlk (hb hby d3_77) (by decide) (by decide) ⟨by rw [mult, if_neg h0], e0, rfl⟩
set_option maxRecDepth 65536 in
set_option maxHeartbeats 40000000 in
theorem rm_exp (l : Launch) (Z : State) (a0 : Array Value) (hw : ∀ d ∈ tables_1, d.before a0 Z = true) (q0 : Int64) (h0 : Heap)  :
    Con l (⟨"com/example/flowt/flowt/ledger/LedgerReplayHeapBytesPinLaw", "expected", "(J)J"⟩ : MethodName) method_4_code 8 (some .long) ({ frames := 1, cells := 0, slots := 0, locals := 17 } : Room) Z #[(.long q0)] h0 (Pur (some (.long (expc q0 (mult q0)))) h0) := by
  refine Con.of_body (plainFor_of_name pn_0) ?_
  intro p e s m below meth c T0 X0 hx hby hml hZ hown hnm hret hlk e0
  have hown : s.vm.findClass "com/example/flowt/flowt/ledger/LedgerReplayHeapBytesPinLaw" = some m.cls := hown
  have hml : c.maxLocals = 8 := hml
  refine Goes.cast (ef2_J m q0) ?_
  refine G.lloadN X0 hx (pc' := 1) (hb hby d2_0) rfl rfl ?_
  refine G.callS X0 hx hZ (y := (⟨"com/example/flowt/flowt/ledger/LedgerReplayHeapBytesPinLaw", "multipleFor", "(J)J"⟩ : MethodName)) hown (hw _ (List.mem_of_getElem? (i := 13) rfl)) (hw _ (List.mem_of_getElem? (i := 14) rfl)) (hw _ (List.mem_of_getElem? (i := 11) rfl)) (hw _ (List.mem_of_getElem? (i := 15) rfl)) (by decide) e0 (rm := ({ frames := 0, cells := 0, slots := 0, locals := 0 } : Room)) (argsL := [(.long q0)]) (S := []) (W := 0) (rm_mult l Z a0 hw q0 h0) (lenOf pd_1 rfl) rfl (Nat.le_of_eq rfl) (by decide) (by decide) (by decide) (by decide) (by rw [hml]; rfl) (hb hby d2_1) (pc' := 4) rfl ?_
  rintro T1 _ _ ⟨rfl, e1, rfl⟩ X1
  rw [List.append_nil] at X1
  show Goes p e below T1 (mkF m 4 #[.val (.long q0), .second, .unset, .unset, .unset, .unset, .unset, .unset] [(.long (mult q0))]) _
  refine G.lstoreN X1 hx (pc' := 5) (hb hby d2_4) (L' := #[.val (.long q0), .second, .val (.long (mult q0)), .second, .unset, .unset, .unset, .unset]) rfl rfl ?_
  refine G.lloadN X1 hx (pc' := 6) (hb hby d2_5) rfl rfl ?_
  refine G.lloadN X1 hx (pc' := 7) (hb hby d2_6) rfl rfl ?_
  refine G.lconst X1 hx (pc' := 8) (hb hby d2_7) (z := (1 : Int64)) rfl rfl ?_
  refine G.lsub X1 hx (pc' := 9) (hb hby d2_8) rfl ?_
  refine G.land X1 hx (pc' := 10) (hb hby d2_9) rfl ?_
  refine G.lstore X1 hx (pc' := 12) (hb hby d2_10) (L' := #[.val (.long q0), .second, .val (.long (mult q0)), .second, .val (.long (q0 &&& ((mult q0) - (1 : Int64)))), .second, .unset, .unset]) rfl rfl ?_
  refine G.lload X1 hx (pc' := 14) (hb hby d2_12) rfl rfl ?_
  refine G.lconst X1 hx (pc' := 15) (hb hby d2_14) (z := (0 : Int64)) rfl rfl ?_
  refine G.lcmp X1 hx (pc' := 16) (hb hby d2_15) rfl ?_
  by_cases cz : (q0 &&& ((mult q0) - (1 : Int64))) = (0 : Int64)
  · refine G.ifF X1 hx (pc' := 19) (hb hby d2_16) (Jvm.Free.XT.ll_ne_f cz) rfl ?_
    refine G.lloadN X1 hx (pc' := 20) (hb hby d2_19) rfl rfl ?_
    refine Goes.retJ X1 hx hret hlk (hb hby d2_20) (by decide) (by decide) ⟨by rw [expc, if_pos cz], e1, rfl⟩
  · refine G.ifT X1 hx (pc' := 21) (hb hby d2_16) (Jvm.Free.XT.ll_ne_t cz) (by decide) (by decide) ?_
    refine G.lloadN X1 hx (pc' := 22) (hb hby d2_21) rfl rfl ?_
    refine G.lload X1 hx (pc' := 24) (hb hby d2_22) rfl rfl ?_
    refine G.lsub X1 hx (pc' := 25) (hb hby d2_24) rfl ?_
    refine G.lstore X1 hx (pc' := 27) (hb hby d2_25) (L' := #[.val (.long q0), .second, .val (.long (mult q0)), .second, .val (.long (q0 &&& ((mult q0) - (1 : Int64)))), .second, .val (.long (q0 - (q0 &&& ((mult q0) - (1 : Int64))))), .second]) rfl rfl ?_
    refine G.lload X1 hx (pc' := 29) (hb hby d2_27) rfl rfl ?_
    refine G.ldcLong X1 hx hZ hown (hw _ (List.mem_of_getElem? (i := 19) rfl)) (pc' := 32) (hb hby d2_29) rfl ?_
    refine G.lloadN X1 hx (pc' := 33) (hb hby d2_32) rfl rfl ?_
    refine G.lsub X1 hx (pc' := 34) (hb hby d2_33) rfl ?_
    refine G.lcmp X1 hx (pc' := 35) (hb hby d2_34) rfl ?_
    by_cases h1 : ((9223372036854775807 : Int64) - (mult q0)) < (q0 - (q0 &&& ((mult q0) - (1 : Int64))))
    · refine G.ifF X1 hx (pc' := 38) (hb hby d2_35) (Jvm.Free.XT.ll_le_f h1) rfl ?_
      refine G.ldcLong X1 hx hZ hown (hw _ (List.mem_of_getElem? (i := 19) rfl)) (pc' := 41) (hb hby d2_38) rfl ?_
      refine Goes.retJ X1 hx hret hlk (hb hby d2_41) (by decide) (by decide) ⟨by rw [expc, if_neg cz, if_pos h1], e1, rfl⟩
    · refine G.ifT X1 hx (pc' := 42) (hb hby d2_35) (Jvm.Free.XT.ll_le_t h1) (by decide) (by decide) ?_
      refine G.lload X1 hx (pc' := 44) (hb hby d2_42) rfl rfl ?_
      refine G.lloadN X1 hx (pc' := 45) (hb hby d2_44) rfl rfl ?_
      refine G.ladd X1 hx (pc' := 46) (hb hby d2_45) rfl ?_
      refine Goes.retJ X1 hx hret hlk (hb hby d2_46) (by decide) (by decide) ⟨by rw [expc, if_neg cz, if_neg h1], e1, rfl⟩
set_option maxRecDepth 65536 in
set_option maxHeartbeats 40000000 in
theorem rm_rep (l : Launch) (Z : State) (a0 : Array Value) (hw : ∀ d ∈ tables_1, d.before a0 Z = true) (q0 : Int64) (h0 : Heap)  :
    Con l (⟨"com/example/flowt/flowt/ledger/Ledger", "replayHeapBytes", "(J)J"⟩ : MethodName) prog_36_method_4_code 6 (some .long) ({ frames := 0, cells := 0, slots := 0, locals := 0 } : Room) Z #[(.long q0)] h0 (Pur (some (.long (repl q0 (mult q0)))) h0) := by
  refine Con.of_body (plainFor_of_name pn_2) ?_
  intro p e s m below meth c T0 X0 hx hby hml hZ hown hnm hret hlk e0
  have hown : s.vm.findClass "com/example/flowt/flowt/ledger/Ledger" = some m.cls := hown
  have hml : c.maxLocals = 6 := hml
  refine Goes.cast (ef1_J m q0) ?_
  refine G.ldcLong X0 hx hZ hown (hw _ (List.mem_of_getElem? (i := 4) rfl)) (pc' := 3) (hb hby d1_0) rfl ?_
  refine G.lstoreN X0 hx (pc' := 4) (hb hby d1_3) (L' := #[.val (.long q0), .second, .val (.long (2097152 : Int64)), .second, .unset, .unset]) rfl rfl ?_
  refine G.lloadN X0 hx (pc' := 5) (hb hby d1_4) rfl rfl ?_
  refine G.ldcLong X0 hx hZ hown (hw _ (List.mem_of_getElem? (i := 5) rfl)) (pc' := 8) (hb hby d1_5) rfl ?_
  refine G.lcmp X0 hx (pc' := 9) (hb hby d1_8) rfl ?_
  refine G.ifF X0 hx (pc' := 12) (hb hby d1_9) (Jvm.Free.XT.ll_ge_f (by decide)) rfl ?_
  refine G.lloadN X0 hx (pc' := 13) (hb hby d1_12) rfl rfl ?_
  refine G.lloadN X0 hx (pc' := 14) (hb hby d1_13) rfl rfl ?_
  refine G.ldcLong X0 hx hZ hown (hw _ (List.mem_of_getElem? (i := 6) rfl)) (pc' := 17) (hb hby d1_14) rfl ?_
  refine G.ldiv X0 hx (pc' := 18) (hb hby d1_17) (by decide) rfl ?_
  refine G.lcmp X0 hx (pc' := 19) (hb hby d1_18) rfl ?_
  by_cases g0 : (2097152 : Int64) < (q0 / (2048 : Int64))
  · refine G.ifF X0 hx (pc' := 22) (hb hby d1_19) (Jvm.Free.XT.ll_ge_f g0) rfl ?_
    refine G.lloadN X0 hx (pc' := 23) (hb hby d1_22) rfl rfl ?_
    refine G.ldcLong X0 hx hZ hown (hw _ (List.mem_of_getElem? (i := 7) rfl)) (pc' := 26) (hb hby d1_23) rfl ?_
    refine G.lmul X0 hx (pc' := 27) (hb hby d1_26) rfl ?_
    refine G.lstoreN X0 hx (pc' := 28) (hb hby d1_27) (L' := #[.val (.long q0), .second, .val (.long ((2097152 : Int64) * (2 : Int64))), .second, .unset, .unset]) rfl rfl ?_
    refine G.goto X0 hx (pc' := 4) (hb hby d1_28) (by decide) (by decide) ?_
    show Goes p e below T0 (mkF m 4 #[.val (.long q0), .second, .val (.long (4194304 : Int64)), .second, .unset, .unset] []) _
    refine G.lloadN X0 hx (pc' := 5) (hb hby d1_4) rfl rfl ?_
    refine G.ldcLong X0 hx hZ hown (hw _ (List.mem_of_getElem? (i := 5) rfl)) (pc' := 8) (hb hby d1_5) rfl ?_
    refine G.lcmp X0 hx (pc' := 9) (hb hby d1_8) rfl ?_
    refine G.ifF X0 hx (pc' := 12) (hb hby d1_9) (Jvm.Free.XT.ll_ge_f (by decide)) rfl ?_
    refine G.lloadN X0 hx (pc' := 13) (hb hby d1_12) rfl rfl ?_
    refine G.lloadN X0 hx (pc' := 14) (hb hby d1_13) rfl rfl ?_
    refine G.ldcLong X0 hx hZ hown (hw _ (List.mem_of_getElem? (i := 6) rfl)) (pc' := 17) (hb hby d1_14) rfl ?_
    refine G.ldiv X0 hx (pc' := 18) (hb hby d1_17) (by decide) rfl ?_
    refine G.lcmp X0 hx (pc' := 19) (hb hby d1_18) rfl ?_
    by_cases g1 : (4194304 : Int64) < (q0 / (2048 : Int64))
    · refine G.ifF X0 hx (pc' := 22) (hb hby d1_19) (Jvm.Free.XT.ll_ge_f g1) rfl ?_
      refine G.lloadN X0 hx (pc' := 23) (hb hby d1_22) rfl rfl ?_
      refine G.ldcLong X0 hx hZ hown (hw _ (List.mem_of_getElem? (i := 7) rfl)) (pc' := 26) (hb hby d1_23) rfl ?_
      refine G.lmul X0 hx (pc' := 27) (hb hby d1_26) rfl ?_
      refine G.lstoreN X0 hx (pc' := 28) (hb hby d1_27) (L' := #[.val (.long q0), .second, .val (.long ((4194304 : Int64) * (2 : Int64))), .second, .unset, .unset]) rfl rfl ?_
      refine G.goto X0 hx (pc' := 4) (hb hby d1_28) (by decide) (by decide) ?_
      show Goes p e below T0 (mkF m 4 #[.val (.long q0), .second, .val (.long (8388608 : Int64)), .second, .unset, .unset] []) _
      refine G.lloadN X0 hx (pc' := 5) (hb hby d1_4) rfl rfl ?_
      refine G.ldcLong X0 hx hZ hown (hw _ (List.mem_of_getElem? (i := 5) rfl)) (pc' := 8) (hb hby d1_5) rfl ?_
      refine G.lcmp X0 hx (pc' := 9) (hb hby d1_8) rfl ?_
      refine G.ifF X0 hx (pc' := 12) (hb hby d1_9) (Jvm.Free.XT.ll_ge_f (by decide)) rfl ?_
      refine G.lloadN X0 hx (pc' := 13) (hb hby d1_12) rfl rfl ?_
      refine G.lloadN X0 hx (pc' := 14) (hb hby d1_13) rfl rfl ?_
      refine G.ldcLong X0 hx hZ hown (hw _ (List.mem_of_getElem? (i := 6) rfl)) (pc' := 17) (hb hby d1_14) rfl ?_
      refine G.ldiv X0 hx (pc' := 18) (hb hby d1_17) (by decide) rfl ?_
      refine G.lcmp X0 hx (pc' := 19) (hb hby d1_18) rfl ?_
      by_cases g2 : (8388608 : Int64) < (q0 / (2048 : Int64))
      · refine G.ifF X0 hx (pc' := 22) (hb hby d1_19) (Jvm.Free.XT.ll_ge_f g2) rfl ?_
        refine G.lloadN X0 hx (pc' := 23) (hb hby d1_22) rfl rfl ?_
        refine G.ldcLong X0 hx hZ hown (hw _ (List.mem_of_getElem? (i := 7) rfl)) (pc' := 26) (hb hby d1_23) rfl ?_
        refine G.lmul X0 hx (pc' := 27) (hb hby d1_26) rfl ?_
        refine G.lstoreN X0 hx (pc' := 28) (hb hby d1_27) (L' := #[.val (.long q0), .second, .val (.long ((8388608 : Int64) * (2 : Int64))), .second, .unset, .unset]) rfl rfl ?_
        refine G.goto X0 hx (pc' := 4) (hb hby d1_28) (by decide) (by decide) ?_
        show Goes p e below T0 (mkF m 4 #[.val (.long q0), .second, .val (.long (16777216 : Int64)), .second, .unset, .unset] []) _
        refine G.lloadN X0 hx (pc' := 5) (hb hby d1_4) rfl rfl ?_
        refine G.ldcLong X0 hx hZ hown (hw _ (List.mem_of_getElem? (i := 5) rfl)) (pc' := 8) (hb hby d1_5) rfl ?_
        refine G.lcmp X0 hx (pc' := 9) (hb hby d1_8) rfl ?_
        refine G.ifF X0 hx (pc' := 12) (hb hby d1_9) (Jvm.Free.XT.ll_ge_f (by decide)) rfl ?_
        refine G.lloadN X0 hx (pc' := 13) (hb hby d1_12) rfl rfl ?_
        refine G.lloadN X0 hx (pc' := 14) (hb hby d1_13) rfl rfl ?_
        refine G.ldcLong X0 hx hZ hown (hw _ (List.mem_of_getElem? (i := 6) rfl)) (pc' := 17) (hb hby d1_14) rfl ?_
        refine G.ldiv X0 hx (pc' := 18) (hb hby d1_17) (by decide) rfl ?_
        refine G.lcmp X0 hx (pc' := 19) (hb hby d1_18) rfl ?_
        by_cases g3 : (16777216 : Int64) < (q0 / (2048 : Int64))
        · refine G.ifF X0 hx (pc' := 22) (hb hby d1_19) (Jvm.Free.XT.ll_ge_f g3) rfl ?_
          refine G.lloadN X0 hx (pc' := 23) (hb hby d1_22) rfl rfl ?_
          refine G.ldcLong X0 hx hZ hown (hw _ (List.mem_of_getElem? (i := 7) rfl)) (pc' := 26) (hb hby d1_23) rfl ?_
          refine G.lmul X0 hx (pc' := 27) (hb hby d1_26) rfl ?_
          refine G.lstoreN X0 hx (pc' := 28) (hb hby d1_27) (L' := #[.val (.long q0), .second, .val (.long ((16777216 : Int64) * (2 : Int64))), .second, .unset, .unset]) rfl rfl ?_
          refine G.goto X0 hx (pc' := 4) (hb hby d1_28) (by decide) (by decide) ?_
          show Goes p e below T0 (mkF m 4 #[.val (.long q0), .second, .val (.long (33554432 : Int64)), .second, .unset, .unset] []) _
          refine G.lloadN X0 hx (pc' := 5) (hb hby d1_4) rfl rfl ?_
          refine G.ldcLong X0 hx hZ hown (hw _ (List.mem_of_getElem? (i := 5) rfl)) (pc' := 8) (hb hby d1_5) rfl ?_
          refine G.lcmp X0 hx (pc' := 9) (hb hby d1_8) rfl ?_
          refine G.ifT X0 hx (pc' := 31) (hb hby d1_9) (Jvm.Free.XT.ll_ge_t (by decide)) (by decide) (by decide) ?_
          refine G.lloadN X0 hx (pc' := 32) (hb hby d1_31) rfl rfl ?_
          refine G.lloadN X0 hx (pc' := 33) (hb hby d1_32) rfl rfl ?_
          refine G.lloadN X0 hx (pc' := 34) (hb hby d1_33) rfl rfl ?_
          refine G.lrem X0 hx (pc' := 35) (hb hby d1_34) (by decide) rfl ?_
          refine G.lsub X0 hx (pc' := 36) (hb hby d1_35) rfl ?_
          refine G.lloadN X0 hx (pc' := 37) (hb hby d1_36) rfl rfl ?_
          refine G.lrem X0 hx (pc' := 38) (hb hby d1_37) (by decide) rfl ?_
          refine G.lstore X0 hx (pc' := 40) (hb hby d1_38) (L' := #[.val (.long q0), .second, .val (.long (33554432 : Int64)), .second, .val (.long (((33554432 : Int64) - (q0 % (33554432 : Int64))) % (33554432 : Int64))), .second]) rfl rfl ?_
          refine G.lloadN X0 hx (pc' := 41) (hb hby d1_40) rfl rfl ?_
          refine G.ldcLong X0 hx hZ hown (hw _ (List.mem_of_getElem? (i := 8) rfl)) (pc' := 44) (hb hby d1_41) rfl ?_
          refine G.lload X0 hx (pc' := 46) (hb hby d1_44) rfl rfl ?_
          refine G.lsub X0 hx (pc' := 47) (hb hby d1_46) rfl ?_
          refine G.lcmp X0 hx (pc' := 48) (hb hby d1_47) rfl ?_
          by_cases hm : ((9223372036854775807 : Int64) - (((33554432 : Int64) - (q0 % (33554432 : Int64))) % (33554432 : Int64))) < q0
          · refine G.ifF X0 hx (pc' := 51) (hb hby d1_48) (Jvm.Free.XT.ll_le_f hm) rfl ?_
            refine G.ldcLong X0 hx hZ hown (hw _ (List.mem_of_getElem? (i := 8) rfl)) (pc' := 54) (hb hby d1_51) rfl ?_
            refine G.goto X0 hx (pc' := 61) (hb hby d1_54) (by decide) (by decide) ?_
            refine Goes.retJ X0 hx hret hlk (hb hby d1_61) (by decide) (by decide) ⟨by rw [mult, if_pos g0, if_pos g1, if_pos g2, if_pos g3, repl, padd, if_pos hm] <;> rfl, e0, rfl⟩
          · refine G.ifT X0 hx (pc' := 57) (hb hby d1_48) (Jvm.Free.XT.ll_le_t hm) (by decide) (by decide) ?_
            refine G.lloadN X0 hx (pc' := 58) (hb hby d1_57) rfl rfl ?_
            refine G.lload X0 hx (pc' := 60) (hb hby d1_58) rfl rfl ?_
            refine G.ladd X0 hx (pc' := 61) (hb hby d1_60) rfl ?_
            refine Goes.retJ X0 hx hret hlk (hb hby d1_61) (by decide) (by decide) ⟨by rw [mult, if_pos g0, if_pos g1, if_pos g2, if_pos g3, repl, padd, if_neg hm] <;> rfl, e0, rfl⟩
        · refine G.ifT X0 hx (pc' := 31) (hb hby d1_19) (Jvm.Free.XT.ll_ge_t g3) (by decide) (by decide) ?_
          refine G.lloadN X0 hx (pc' := 32) (hb hby d1_31) rfl rfl ?_
          refine G.lloadN X0 hx (pc' := 33) (hb hby d1_32) rfl rfl ?_
          refine G.lloadN X0 hx (pc' := 34) (hb hby d1_33) rfl rfl ?_
          refine G.lrem X0 hx (pc' := 35) (hb hby d1_34) (by decide) rfl ?_
          refine G.lsub X0 hx (pc' := 36) (hb hby d1_35) rfl ?_
          refine G.lloadN X0 hx (pc' := 37) (hb hby d1_36) rfl rfl ?_
          refine G.lrem X0 hx (pc' := 38) (hb hby d1_37) (by decide) rfl ?_
          refine G.lstore X0 hx (pc' := 40) (hb hby d1_38) (L' := #[.val (.long q0), .second, .val (.long (16777216 : Int64)), .second, .val (.long (((16777216 : Int64) - (q0 % (16777216 : Int64))) % (16777216 : Int64))), .second]) rfl rfl ?_
          refine G.lloadN X0 hx (pc' := 41) (hb hby d1_40) rfl rfl ?_
          refine G.ldcLong X0 hx hZ hown (hw _ (List.mem_of_getElem? (i := 8) rfl)) (pc' := 44) (hb hby d1_41) rfl ?_
          refine G.lload X0 hx (pc' := 46) (hb hby d1_44) rfl rfl ?_
          refine G.lsub X0 hx (pc' := 47) (hb hby d1_46) rfl ?_
          refine G.lcmp X0 hx (pc' := 48) (hb hby d1_47) rfl ?_
          by_cases hm : ((9223372036854775807 : Int64) - (((16777216 : Int64) - (q0 % (16777216 : Int64))) % (16777216 : Int64))) < q0
          · refine G.ifF X0 hx (pc' := 51) (hb hby d1_48) (Jvm.Free.XT.ll_le_f hm) rfl ?_
            refine G.ldcLong X0 hx hZ hown (hw _ (List.mem_of_getElem? (i := 8) rfl)) (pc' := 54) (hb hby d1_51) rfl ?_
            refine G.goto X0 hx (pc' := 61) (hb hby d1_54) (by decide) (by decide) ?_
            refine Goes.retJ X0 hx hret hlk (hb hby d1_61) (by decide) (by decide) ⟨by rw [mult, if_pos g0, if_pos g1, if_pos g2, if_neg g3, repl, padd, if_pos hm] <;> rfl, e0, rfl⟩
          · refine G.ifT X0 hx (pc' := 57) (hb hby d1_48) (Jvm.Free.XT.ll_le_t hm) (by decide) (by decide) ?_
            refine G.lloadN X0 hx (pc' := 58) (hb hby d1_57) rfl rfl ?_
            refine G.lload X0 hx (pc' := 60) (hb hby d1_58) rfl rfl ?_
            refine G.ladd X0 hx (pc' := 61) (hb hby d1_60) rfl ?_
            refine Goes.retJ X0 hx hret hlk (hb hby d1_61) (by decide) (by decide) ⟨by rw [mult, if_pos g0, if_pos g1, if_pos g2, if_neg g3, repl, padd, if_neg hm] <;> rfl, e0, rfl⟩
      · refine G.ifT X0 hx (pc' := 31) (hb hby d1_19) (Jvm.Free.XT.ll_ge_t g2) (by decide) (by decide) ?_
        refine G.lloadN X0 hx (pc' := 32) (hb hby d1_31) rfl rfl ?_
        refine G.lloadN X0 hx (pc' := 33) (hb hby d1_32) rfl rfl ?_
        refine G.lloadN X0 hx (pc' := 34) (hb hby d1_33) rfl rfl ?_
        refine G.lrem X0 hx (pc' := 35) (hb hby d1_34) (by decide) rfl ?_
        refine G.lsub X0 hx (pc' := 36) (hb hby d1_35) rfl ?_
        refine G.lloadN X0 hx (pc' := 37) (hb hby d1_36) rfl rfl ?_
        refine G.lrem X0 hx (pc' := 38) (hb hby d1_37) (by decide) rfl ?_
        refine G.lstore X0 hx (pc' := 40) (hb hby d1_38) (L' := #[.val (.long q0), .second, .val (.long (8388608 : Int64)), .second, .val (.long (((8388608 : Int64) - (q0 % (8388608 : Int64))) % (8388608 : Int64))), .second]) rfl rfl ?_
        refine G.lloadN X0 hx (pc' := 41) (hb hby d1_40) rfl rfl ?_
        refine G.ldcLong X0 hx hZ hown (hw _ (List.mem_of_getElem? (i := 8) rfl)) (pc' := 44) (hb hby d1_41) rfl ?_
        refine G.lload X0 hx (pc' := 46) (hb hby d1_44) rfl rfl ?_
        refine G.lsub X0 hx (pc' := 47) (hb hby d1_46) rfl ?_
        refine G.lcmp X0 hx (pc' := 48) (hb hby d1_47) rfl ?_
        by_cases hm : ((9223372036854775807 : Int64) - (((8388608 : Int64) - (q0 % (8388608 : Int64))) % (8388608 : Int64))) < q0
        · refine G.ifF X0 hx (pc' := 51) (hb hby d1_48) (Jvm.Free.XT.ll_le_f hm) rfl ?_
          refine G.ldcLong X0 hx hZ hown (hw _ (List.mem_of_getElem? (i := 8) rfl)) (pc' := 54) (hb hby d1_51) rfl ?_
          refine G.goto X0 hx (pc' := 61) (hb hby d1_54) (by decide) (by decide) ?_
          refine Goes.retJ X0 hx hret hlk (hb hby d1_61) (by decide) (by decide) ⟨by rw [mult, if_pos g0, if_pos g1, if_neg g2, repl, padd, if_pos hm] <;> rfl, e0, rfl⟩
        · refine G.ifT X0 hx (pc' := 57) (hb hby d1_48) (Jvm.Free.XT.ll_le_t hm) (by decide) (by decide) ?_
          refine G.lloadN X0 hx (pc' := 58) (hb hby d1_57) rfl rfl ?_
          refine G.lload X0 hx (pc' := 60) (hb hby d1_58) rfl rfl ?_
          refine G.ladd X0 hx (pc' := 61) (hb hby d1_60) rfl ?_
          refine Goes.retJ X0 hx hret hlk (hb hby d1_61) (by decide) (by decide) ⟨by rw [mult, if_pos g0, if_pos g1, if_neg g2, repl, padd, if_neg hm] <;> rfl, e0, rfl⟩
    · refine G.ifT X0 hx (pc' := 31) (hb hby d1_19) (Jvm.Free.XT.ll_ge_t g1) (by decide) (by decide) ?_
      refine G.lloadN X0 hx (pc' := 32) (hb hby d1_31) rfl rfl ?_
      refine G.lloadN X0 hx (pc' := 33) (hb hby d1_32) rfl rfl ?_
      refine G.lloadN X0 hx (pc' := 34) (hb hby d1_33) rfl rfl ?_
      refine G.lrem X0 hx (pc' := 35) (hb hby d1_34) (by decide) rfl ?_
      refine G.lsub X0 hx (pc' := 36) (hb hby d1_35) rfl ?_
      refine G.lloadN X0 hx (pc' := 37) (hb hby d1_36) rfl rfl ?_
      refine G.lrem X0 hx (pc' := 38) (hb hby d1_37) (by decide) rfl ?_
      refine G.lstore X0 hx (pc' := 40) (hb hby d1_38) (L' := #[.val (.long q0), .second, .val (.long (4194304 : Int64)), .second, .val (.long (((4194304 : Int64) - (q0 % (4194304 : Int64))) % (4194304 : Int64))), .second]) rfl rfl ?_
      refine G.lloadN X0 hx (pc' := 41) (hb hby d1_40) rfl rfl ?_
      refine G.ldcLong X0 hx hZ hown (hw _ (List.mem_of_getElem? (i := 8) rfl)) (pc' := 44) (hb hby d1_41) rfl ?_
      refine G.lload X0 hx (pc' := 46) (hb hby d1_44) rfl rfl ?_
      refine G.lsub X0 hx (pc' := 47) (hb hby d1_46) rfl ?_
      refine G.lcmp X0 hx (pc' := 48) (hb hby d1_47) rfl ?_
      by_cases hm : ((9223372036854775807 : Int64) - (((4194304 : Int64) - (q0 % (4194304 : Int64))) % (4194304 : Int64))) < q0
      · refine G.ifF X0 hx (pc' := 51) (hb hby d1_48) (Jvm.Free.XT.ll_le_f hm) rfl ?_
        refine G.ldcLong X0 hx hZ hown (hw _ (List.mem_of_getElem? (i := 8) rfl)) (pc' := 54) (hb hby d1_51) rfl ?_
        refine G.goto X0 hx (pc' := 61) (hb hby d1_54) (by decide) (by decide) ?_
        refine Goes.retJ X0 hx hret hlk (hb hby d1_61) (by decide) (by decide) ⟨by rw [mult, if_pos g0, if_neg g1, repl, padd, if_pos hm] <;> rfl, e0, rfl⟩
      · refine G.ifT X0 hx (pc' := 57) (hb hby d1_48) (Jvm.Free.XT.ll_le_t hm) (by decide) (by decide) ?_
        refine G.lloadN X0 hx (pc' := 58) (hb hby d1_57) rfl rfl ?_
        refine G.lload X0 hx (pc' := 60) (hb hby d1_58) rfl rfl ?_
        refine G.ladd X0 hx (pc' := 61) (hb hby d1_60) rfl ?_
        refine Goes.retJ X0 hx hret hlk (hb hby d1_61) (by decide) (by decide) ⟨by rw [mult, if_pos g0, if_neg g1, repl, padd, if_neg hm] <;> rfl, e0, rfl⟩
  · refine G.ifT X0 hx (pc' := 31) (hb hby d1_19) (Jvm.Free.XT.ll_ge_t g0) (by decide) (by decide) ?_
    refine G.lloadN X0 hx (pc' := 32) (hb hby d1_31) rfl rfl ?_
    refine G.lloadN X0 hx (pc' := 33) (hb hby d1_32) rfl rfl ?_
    refine G.lloadN X0 hx (pc' := 34) (hb hby d1_33) rfl rfl ?_
    refine G.lrem X0 hx (pc' := 35) (hb hby d1_34) (by decide) rfl ?_
    refine G.lsub X0 hx (pc' := 36) (hb hby d1_35) rfl ?_
    refine G.lloadN X0 hx (pc' := 37) (hb hby d1_36) rfl rfl ?_
    refine G.lrem X0 hx (pc' := 38) (hb hby d1_37) (by decide) rfl ?_
    refine G.lstore X0 hx (pc' := 40) (hb hby d1_38) (L' := #[.val (.long q0), .second, .val (.long (2097152 : Int64)), .second, .val (.long (((2097152 : Int64) - (q0 % (2097152 : Int64))) % (2097152 : Int64))), .second]) rfl rfl ?_
    refine G.lloadN X0 hx (pc' := 41) (hb hby d1_40) rfl rfl ?_
    refine G.ldcLong X0 hx hZ hown (hw _ (List.mem_of_getElem? (i := 8) rfl)) (pc' := 44) (hb hby d1_41) rfl ?_
    refine G.lload X0 hx (pc' := 46) (hb hby d1_44) rfl rfl ?_
    refine G.lsub X0 hx (pc' := 47) (hb hby d1_46) rfl ?_
    refine G.lcmp X0 hx (pc' := 48) (hb hby d1_47) rfl ?_
    by_cases hm : ((9223372036854775807 : Int64) - (((2097152 : Int64) - (q0 % (2097152 : Int64))) % (2097152 : Int64))) < q0
    · refine G.ifF X0 hx (pc' := 51) (hb hby d1_48) (Jvm.Free.XT.ll_le_f hm) rfl ?_
      refine G.ldcLong X0 hx hZ hown (hw _ (List.mem_of_getElem? (i := 8) rfl)) (pc' := 54) (hb hby d1_51) rfl ?_
      refine G.goto X0 hx (pc' := 61) (hb hby d1_54) (by decide) (by decide) ?_
      refine Goes.retJ X0 hx hret hlk (hb hby d1_61) (by decide) (by decide) ⟨by rw [mult, if_neg g0, repl, padd, if_pos hm] <;> rfl, e0, rfl⟩
    · refine G.ifT X0 hx (pc' := 57) (hb hby d1_48) (Jvm.Free.XT.ll_le_t hm) (by decide) (by decide) ?_
      refine G.lloadN X0 hx (pc' := 58) (hb hby d1_57) rfl rfl ?_
      refine G.lload X0 hx (pc' := 60) (hb hby d1_58) rfl rfl ?_
      refine G.ladd X0 hx (pc' := 61) (hb hby d1_60) rfl ?_
      refine Goes.retJ X0 hx hret hlk (hb hby d1_61) (by decide) (by decide) ⟨by rw [mult, if_neg g0, repl, padd, if_neg hm] <;> rfl, e0, rfl⟩
set_option maxRecDepth 65536 in
set_option maxHeartbeats 40000000 in
theorem rm0 (l : Launch) (Z : State) (a0 : Array Value) (hw : ∀ d ∈ tables_1, d.before a0 Z = true) (q0 : Int64) (p1 p2 : Int32) (h0 : Heap)  :
    Con l x code maxLocals ret room_1 Z #[(.long q0), (.int p1), (.int p2)] h0 (fun v _ L => v = some (.int 1) ∧ Fr h0.size L) := by
  refine Con.of_body (plainFor_of_name pn_0) ?_
  intro p e s m below meth c T0 X0 hx hby hml hZ hown hnm hret hlk e0
  have hown : s.vm.findClass "com/example/flowt/flowt/ledger/LedgerReplayHeapBytesPinLaw" = some m.cls := hown
  have hml : c.maxLocals = 7 := hml
  refine Goes.cast (ef0_JII m q0 p1 p2) ?_
  refine G.iloadN X0 hx (pc' := 1) (hb hby at_0) rfl rfl ?_
  refine G.bipush X0 hx (pc' := 3) (hb hby at_1) (z := (7 : Int32)) rfl rfl ?_
  refine G.iand X0 hx (pc' := 4) (hb hby at_3) rfl ?_
  refine G.istore X0 hx (pc' := 6) (hb hby at_4) (L' := #[.val (.long q0), .second, .val (.int p1), .val (.int p2), .val (.int (p1 &&& (7 : Int32))), .unset, .unset]) rfl rfl ?_
  refine G.iload X0 hx (pc' := 8) (hb hby at_6) rfl rfl ?_
  by_cases g0 : (p1 &&& (7 : Int32)) = (0 : Int32)
  · refine G.ifF X0 hx (pc' := 11) (hb hby at_8) (Jvm.Free.XT.i0_ne_f g0) rfl ?_
    refine G.lloadN X0 hx (pc' := 12) (hb hby at_11) rfl rfl ?_
    refine G.iloadN X0 hx (pc' := 13) (hb hby at_12) rfl rfl ?_
    refine G.iconst X0 hx (pc' := 14) (hb hby at_13) (z := (3 : Int32)) rfl rfl ?_
    refine G.iushr X0 hx (pc' := 15) (hb hby at_14) rfl ?_
    refine G.bipush X0 hx (pc' := 17) (hb hby at_15) (z := (63 : Int32)) rfl rfl ?_
    refine G.iand X0 hx (pc' := 18) (hb hby at_17) rfl ?_
    refine G.lshr X0 hx (pc' := 19) (hb hby at_18) rfl ?_
    refine G.lstore X0 hx (pc' := 21) (hb hby at_19) (L' := #[.val (.long q0), .second, .val (.int p1), .val (.int p2), .val (.int (p1 &&& (7 : Int32))), .val (.long (q0 >>> (((Jvm.Free.XT.ushr p1 (3 : Int32)) &&& (63 : Int32)).toInt64 &&& 63))), .second]) rfl rfl ?_
    refine G.goto X0 hx (pc' := 79) (hb hby at_21) (by decide) (by decide) ?_
    generalize hxx : (q0 >>> (((Jvm.Free.XT.ushr p1 (3 : Int32)) &&& (63 : Int32)).toInt64 &&& 63)) = xx
    refine G.lload X0 hx (pc' := 81) (hb hby at_79) rfl rfl ?_
    refine G.callS X0 hx hZ (y := (⟨"com/example/flowt/flowt/ledger/Ledger", "replayHeapBytes", "(J)J"⟩ : MethodName)) hown (hw _ (List.mem_of_getElem? (i := 0) rfl)) (hw _ (List.mem_of_getElem? (i := 1) rfl)) (hw _ (List.mem_of_getElem? (i := 2) rfl)) (hw _ (List.mem_of_getElem? (i := 3) rfl)) (by decide) e0 (rm := ({ frames := 0, cells := 0, slots := 0, locals := 0 } : Room)) (argsL := [(.long xx)]) (S := []) (W := 0) (rm_rep l Z a0 hw xx h0) (lenOf pd_1 rfl) rfl (Nat.le_of_eq rfl) (by decide) (by decide) (by decide) (by decide) (by rw [hml]; rfl) (hb hby at_81) (pc' := 84) rfl ?_
    rintro T1 _ _ ⟨rfl, e1, rfl⟩ X1
    rw [List.append_nil] at X1
    show Goes p e below T1 (mkF m 84 #[.val (.long q0), .second, .val (.int p1), .val (.int p2), .val (.int (p1 &&& (7 : Int32))), .val (.long xx), .second] [(.long (repl xx (mult xx)))]) _
    refine G.lload X1 hx (pc' := 86) (hb hby at_84) rfl rfl ?_
    refine G.callS X1 hx hZ (y := (⟨"com/example/flowt/flowt/ledger/LedgerReplayHeapBytesPinLaw", "expected", "(J)J"⟩ : MethodName)) hown (hw _ (List.mem_of_getElem? (i := 9) rfl)) (hw _ (List.mem_of_getElem? (i := 10) rfl)) (hw _ (List.mem_of_getElem? (i := 11) rfl)) (hw _ (List.mem_of_getElem? (i := 12) rfl)) (by decide) e1 (rm := ({ frames := 1, cells := 0, slots := 0, locals := 17 } : Room)) (argsL := [(.long xx)]) (S := [(.long (repl xx (mult xx)))]) (W := 2) (rm_exp l Z a0 hw xx h0) (lenOf pd_1 rfl) rfl (Nat.le_of_eq rfl) (by decide) (by decide) (by decide) (by decide) (by rw [hml]; rfl) (hb hby at_86) (pc' := 89) rfl ?_
    rintro T2 _ _ ⟨rfl, e2, rfl⟩ X2
    rw [List.append_nil] at X2
    show Goes p e below T2 (mkF m 89 #[.val (.long q0), .second, .val (.int p1), .val (.int p2), .val (.int (p1 &&& (7 : Int32))), .val (.long xx), .second] [(.long (expc xx (mult xx))), (.long (repl xx (mult xx)))]) _
    refine G.lcmp X2 hx (pc' := 90) (hb hby at_89) rfl ?_
    refine G.ifF X2 hx (pc' := 93) (hb hby at_90) (Jvm.Free.XT.ll_ne_f (own_all xx)) rfl ?_
    refine G.iconst X2 hx (pc' := 94) (hb hby at_93) (z := (1 : Int32)) rfl rfl ?_
    refine G.goto X2 hx (pc' := 98) (hb hby at_94) (by decide) (by decide) ?_
    refine Goes.retN X2 hx hret (by simp) hlk (hb hby at_98) (by decide) (by decide) ⟨rfl, Fr.nil _⟩
  · refine G.ifT X0 hx (pc' := 24) (hb hby at_8) (Jvm.Free.XT.i0_ne_t g0) (by decide) (by decide) ?_
    refine G.iload X0 hx (pc' := 26) (hb hby at_24) rfl rfl ?_
    refine G.iconst X0 hx (pc' := 27) (hb hby at_26) (z := (5 : Int32)) rfl rfl ?_
    by_cases g1 : (5 : Int32) < (p1 &&& (7 : Int32))
    · refine G.icmpT X0 hx (pc' := 45) (hb hby at_27) (Jvm.Free.XT.ii_gt_t g1) (by decide) (by decide) ?_
      refine G.iload X0 hx (pc' := 47) (hb hby at_45) rfl rfl ?_
      refine G.bipush X0 hx (pc' := 49) (hb hby at_47) (z := (6 : Int32)) rfl rfl ?_
      by_cases g2 : (p1 &&& (7 : Int32)) = (6 : Int32)
      · refine G.icmpF X0 hx (pc' := 52) (hb hby at_49) (Jvm.Free.XT.ii_ne_f g2) rfl ?_
        refine G.ldcLong X0 hx hZ hown (hw _ (List.mem_of_getElem? (i := 19) rfl)) (pc' := 55) (hb hby at_52) rfl ?_
        refine G.iloadN X0 hx (pc' := 56) (hb hby at_55) rfl rfl ?_
        refine G.i2l X0 hx (pc' := 57) (hb hby at_56) rfl ?_
        refine G.ldcLong X0 hx hZ hown (hw _ (List.mem_of_getElem? (i := 23) rfl)) (pc' := 60) (hb hby at_57) rfl ?_
        refine G.land X0 hx (pc' := 61) (hb hby at_60) rfl ?_
        refine G.lsub X0 hx (pc' := 62) (hb hby at_61) rfl ?_
        refine G.lstore X0 hx (pc' := 64) (hb hby at_62) (L' := #[.val (.long q0), .second, .val (.int p1), .val (.int p2), .val (.int (p1 &&& (7 : Int32))), .val (.long ((9223372036854775807 : Int64) - ((p2.toInt64) &&& (2147483647 : Int64)))), .second]) rfl rfl ?_
        refine G.goto X0 hx (pc' := 79) (hb hby at_64) (by decide) (by decide) ?_
        generalize hxx : ((9223372036854775807 : Int64) - ((p2.toInt64) &&& (2147483647 : Int64))) = xx
        refine G.lload X0 hx (pc' := 81) (hb hby at_79) rfl rfl ?_
        refine G.callS X0 hx hZ (y := (⟨"com/example/flowt/flowt/ledger/Ledger", "replayHeapBytes", "(J)J"⟩ : MethodName)) hown (hw _ (List.mem_of_getElem? (i := 0) rfl)) (hw _ (List.mem_of_getElem? (i := 1) rfl)) (hw _ (List.mem_of_getElem? (i := 2) rfl)) (hw _ (List.mem_of_getElem? (i := 3) rfl)) (by decide) e0 (rm := ({ frames := 0, cells := 0, slots := 0, locals := 0 } : Room)) (argsL := [(.long xx)]) (S := []) (W := 0) (rm_rep l Z a0 hw xx h0) (lenOf pd_1 rfl) rfl (Nat.le_of_eq rfl) (by decide) (by decide) (by decide) (by decide) (by rw [hml]; rfl) (hb hby at_81) (pc' := 84) rfl ?_
        rintro T3 _ _ ⟨rfl, e3, rfl⟩ X3
        rw [List.append_nil] at X3
        show Goes p e below T3 (mkF m 84 #[.val (.long q0), .second, .val (.int p1), .val (.int p2), .val (.int (p1 &&& (7 : Int32))), .val (.long xx), .second] [(.long (repl xx (mult xx)))]) _
        refine G.lload X3 hx (pc' := 86) (hb hby at_84) rfl rfl ?_
        refine G.callS X3 hx hZ (y := (⟨"com/example/flowt/flowt/ledger/LedgerReplayHeapBytesPinLaw", "expected", "(J)J"⟩ : MethodName)) hown (hw _ (List.mem_of_getElem? (i := 9) rfl)) (hw _ (List.mem_of_getElem? (i := 10) rfl)) (hw _ (List.mem_of_getElem? (i := 11) rfl)) (hw _ (List.mem_of_getElem? (i := 12) rfl)) (by decide) e3 (rm := ({ frames := 1, cells := 0, slots := 0, locals := 17 } : Room)) (argsL := [(.long xx)]) (S := [(.long (repl xx (mult xx)))]) (W := 2) (rm_exp l Z a0 hw xx h0) (lenOf pd_1 rfl) rfl (Nat.le_of_eq rfl) (by decide) (by decide) (by decide) (by decide) (by rw [hml]; rfl) (hb hby at_86) (pc' := 89) rfl ?_
        rintro T4 _ _ ⟨rfl, e4, rfl⟩ X4
        rw [List.append_nil] at X4
        show Goes p e below T4 (mkF m 89 #[.val (.long q0), .second, .val (.int p1), .val (.int p2), .val (.int (p1 &&& (7 : Int32))), .val (.long xx), .second] [(.long (expc xx (mult xx))), (.long (repl xx (mult xx)))]) _
        refine G.lcmp X4 hx (pc' := 90) (hb hby at_89) rfl ?_
        refine G.ifF X4 hx (pc' := 93) (hb hby at_90) (Jvm.Free.XT.ll_ne_f (own_all xx)) rfl ?_
        refine G.iconst X4 hx (pc' := 94) (hb hby at_93) (z := (1 : Int32)) rfl rfl ?_
        refine G.goto X4 hx (pc' := 98) (hb hby at_94) (by decide) (by decide) ?_
        refine Goes.retN X4 hx hret (by simp) hlk (hb hby at_98) (by decide) (by decide) ⟨rfl, Fr.nil _⟩
      · refine G.icmpT X0 hx (pc' := 67) (hb hby at_49) (Jvm.Free.XT.ii_ne_t g2) (by decide) (by decide) ?_
        refine G.ldcLong X0 hx hZ hown (hw _ (List.mem_of_getElem? (i := 24) rfl)) (pc' := 70) (hb hby at_67) rfl ?_
        refine G.iloadN X0 hx (pc' := 71) (hb hby at_70) rfl rfl ?_
        refine G.i2l X0 hx (pc' := 72) (hb hby at_71) rfl ?_
        refine G.ldcLong X0 hx hZ hown (hw _ (List.mem_of_getElem? (i := 23) rfl)) (pc' := 75) (hb hby at_72) rfl ?_
        refine G.land X0 hx (pc' := 76) (hb hby at_75) rfl ?_
        refine G.ladd X0 hx (pc' := 77) (hb hby at_76) rfl ?_
        refine G.lstore X0 hx (pc' := 79) (hb hby at_77) (L' := #[.val (.long q0), .second, .val (.int p1), .val (.int p2), .val (.int (p1 &&& (7 : Int32))), .val (.long ((-9223372036854775808 : Int64) + ((p2.toInt64) &&& (2147483647 : Int64)))), .second]) rfl rfl ?_
        generalize hxx : ((-9223372036854775808 : Int64) + ((p2.toInt64) &&& (2147483647 : Int64))) = xx
        refine G.lload X0 hx (pc' := 81) (hb hby at_79) rfl rfl ?_
        refine G.callS X0 hx hZ (y := (⟨"com/example/flowt/flowt/ledger/Ledger", "replayHeapBytes", "(J)J"⟩ : MethodName)) hown (hw _ (List.mem_of_getElem? (i := 0) rfl)) (hw _ (List.mem_of_getElem? (i := 1) rfl)) (hw _ (List.mem_of_getElem? (i := 2) rfl)) (hw _ (List.mem_of_getElem? (i := 3) rfl)) (by decide) e0 (rm := ({ frames := 0, cells := 0, slots := 0, locals := 0 } : Room)) (argsL := [(.long xx)]) (S := []) (W := 0) (rm_rep l Z a0 hw xx h0) (lenOf pd_1 rfl) rfl (Nat.le_of_eq rfl) (by decide) (by decide) (by decide) (by decide) (by rw [hml]; rfl) (hb hby at_81) (pc' := 84) rfl ?_
        rintro T5 _ _ ⟨rfl, e5, rfl⟩ X5
        rw [List.append_nil] at X5
        show Goes p e below T5 (mkF m 84 #[.val (.long q0), .second, .val (.int p1), .val (.int p2), .val (.int (p1 &&& (7 : Int32))), .val (.long xx), .second] [(.long (repl xx (mult xx)))]) _
        refine G.lload X5 hx (pc' := 86) (hb hby at_84) rfl rfl ?_
        refine G.callS X5 hx hZ (y := (⟨"com/example/flowt/flowt/ledger/LedgerReplayHeapBytesPinLaw", "expected", "(J)J"⟩ : MethodName)) hown (hw _ (List.mem_of_getElem? (i := 9) rfl)) (hw _ (List.mem_of_getElem? (i := 10) rfl)) (hw _ (List.mem_of_getElem? (i := 11) rfl)) (hw _ (List.mem_of_getElem? (i := 12) rfl)) (by decide) e5 (rm := ({ frames := 1, cells := 0, slots := 0, locals := 17 } : Room)) (argsL := [(.long xx)]) (S := [(.long (repl xx (mult xx)))]) (W := 2) (rm_exp l Z a0 hw xx h0) (lenOf pd_1 rfl) rfl (Nat.le_of_eq rfl) (by decide) (by decide) (by decide) (by decide) (by rw [hml]; rfl) (hb hby at_86) (pc' := 89) rfl ?_
        rintro T6 _ _ ⟨rfl, e6, rfl⟩ X6
        rw [List.append_nil] at X6
        show Goes p e below T6 (mkF m 89 #[.val (.long q0), .second, .val (.int p1), .val (.int p2), .val (.int (p1 &&& (7 : Int32))), .val (.long xx), .second] [(.long (expc xx (mult xx))), (.long (repl xx (mult xx)))]) _
        refine G.lcmp X6 hx (pc' := 90) (hb hby at_89) rfl ?_
        refine G.ifF X6 hx (pc' := 93) (hb hby at_90) (Jvm.Free.XT.ll_ne_f (own_all xx)) rfl ?_
        refine G.iconst X6 hx (pc' := 94) (hb hby at_93) (z := (1 : Int32)) rfl rfl ?_
        refine G.goto X6 hx (pc' := 98) (hb hby at_94) (by decide) (by decide) ?_
        refine Goes.retN X6 hx hret (by simp) hlk (hb hby at_98) (by decide) (by decide) ⟨rfl, Fr.nil _⟩
    · refine G.icmpF X0 hx (pc' := 30) (hb hby at_27) (Jvm.Free.XT.ii_gt_f g1) rfl ?_
      refine G.lconst X0 hx (pc' := 31) (hb hby at_30) (z := (1 : Int64)) rfl rfl ?_
      refine G.bipush X0 hx (pc' := 33) (hb hby at_31) (z := (31 : Int32)) rfl rfl ?_
      refine G.iload X0 hx (pc' := 35) (hb hby at_33) rfl rfl ?_
      refine G.iadd X0 hx (pc' := 36) (hb hby at_35) rfl ?_
      refine G.lshl X0 hx (pc' := 37) (hb hby at_36) rfl ?_
      refine G.iloadN X0 hx (pc' := 38) (hb hby at_37) rfl rfl ?_
      refine G.i2l X0 hx (pc' := 39) (hb hby at_38) rfl ?_
      refine G.ladd X0 hx (pc' := 40) (hb hby at_39) rfl ?_
      refine G.lstore X0 hx (pc' := 42) (hb hby at_40) (L' := #[.val (.long q0), .second, .val (.int p1), .val (.int p2), .val (.int (p1 &&& (7 : Int32))), .val (.long (((1 : Int64) <<< (((31 : Int32) + (p1 &&& (7 : Int32))).toInt64 &&& 63)) + (p2.toInt64))), .second]) rfl rfl ?_
      refine G.goto X0 hx (pc' := 79) (hb hby at_42) (by decide) (by decide) ?_
      generalize hxx : (((1 : Int64) <<< (((31 : Int32) + (p1 &&& (7 : Int32))).toInt64 &&& 63)) + (p2.toInt64)) = xx
      refine G.lload X0 hx (pc' := 81) (hb hby at_79) rfl rfl ?_
      refine G.callS X0 hx hZ (y := (⟨"com/example/flowt/flowt/ledger/Ledger", "replayHeapBytes", "(J)J"⟩ : MethodName)) hown (hw _ (List.mem_of_getElem? (i := 0) rfl)) (hw _ (List.mem_of_getElem? (i := 1) rfl)) (hw _ (List.mem_of_getElem? (i := 2) rfl)) (hw _ (List.mem_of_getElem? (i := 3) rfl)) (by decide) e0 (rm := ({ frames := 0, cells := 0, slots := 0, locals := 0 } : Room)) (argsL := [(.long xx)]) (S := []) (W := 0) (rm_rep l Z a0 hw xx h0) (lenOf pd_1 rfl) rfl (Nat.le_of_eq rfl) (by decide) (by decide) (by decide) (by decide) (by rw [hml]; rfl) (hb hby at_81) (pc' := 84) rfl ?_
      rintro T7 _ _ ⟨rfl, e7, rfl⟩ X7
      rw [List.append_nil] at X7
      show Goes p e below T7 (mkF m 84 #[.val (.long q0), .second, .val (.int p1), .val (.int p2), .val (.int (p1 &&& (7 : Int32))), .val (.long xx), .second] [(.long (repl xx (mult xx)))]) _
      refine G.lload X7 hx (pc' := 86) (hb hby at_84) rfl rfl ?_
      refine G.callS X7 hx hZ (y := (⟨"com/example/flowt/flowt/ledger/LedgerReplayHeapBytesPinLaw", "expected", "(J)J"⟩ : MethodName)) hown (hw _ (List.mem_of_getElem? (i := 9) rfl)) (hw _ (List.mem_of_getElem? (i := 10) rfl)) (hw _ (List.mem_of_getElem? (i := 11) rfl)) (hw _ (List.mem_of_getElem? (i := 12) rfl)) (by decide) e7 (rm := ({ frames := 1, cells := 0, slots := 0, locals := 17 } : Room)) (argsL := [(.long xx)]) (S := [(.long (repl xx (mult xx)))]) (W := 2) (rm_exp l Z a0 hw xx h0) (lenOf pd_1 rfl) rfl (Nat.le_of_eq rfl) (by decide) (by decide) (by decide) (by decide) (by rw [hml]; rfl) (hb hby at_86) (pc' := 89) rfl ?_
      rintro T8 _ _ ⟨rfl, e8, rfl⟩ X8
      rw [List.append_nil] at X8
      show Goes p e below T8 (mkF m 89 #[.val (.long q0), .second, .val (.int p1), .val (.int p2), .val (.int (p1 &&& (7 : Int32))), .val (.long xx), .second] [(.long (expc xx (mult xx))), (.long (repl xx (mult xx)))]) _
      refine G.lcmp X8 hx (pc' := 90) (hb hby at_89) rfl ?_
      refine G.ifF X8 hx (pc' := 93) (hb hby at_90) (Jvm.Free.XT.ll_ne_f (own_all xx)) rfl ?_
      refine G.iconst X8 hx (pc' := 94) (hb hby at_93) (z := (1 : Int32)) rfl rfl ?_
      refine G.goto X8 hx (pc' := 98) (hb hby at_94) (by decide) (by decide) ?_
      refine Goes.retN X8 hx hret (by simp) hlk (hb hby at_98) (by decide) (by decide) ⟨rfl, Fr.nil _⟩
set_option maxRecDepth 65536 in
set_option maxHeartbeats 40000000 in
theorem comes_1 {Post : Tables → Env → Array Value → State → Outcome → State → Prop} (hpost : ∀ tb e args s v u, (limb_1_1.after args s (.returned v) u = true ∧ limb_1_2.after args s (.returned v) u = true ∧ True) → FrameEnd s (.returned v) u (Jvm.fieldLocs frame_1_writes args s ++ Jvm.arrayLocs frame_1_arrays args s ++ Jvm.staticLocs frame_1_statics s) 0 0 → Post tb e args s (.returned v) u) :
    ArmFor flags0 classFile x code maxLocals ret World_1 tables_1 room_1 Calls_1 rest_1 Pre_1 Post := by
  intro l hfl _ _ p e ha hc hk s m args below hf hA hF happ hP
  obtain ⟨hcalls, hrest, hpre⟩ := hP
  obtain ⟨-, -, -, hnamed, -, -, -, hat⟩ := (Spec.applies_iff hf).mp happ
  obtain ⟨hg, hn⟩ := and_e (Cond.before_iff.mp (show (Jvm.Cond.and given_1 narrow_1).before args s = true from hpre))
  obtain ⟨hg0, hg1⟩ := and_e hg
  obtain ⟨hb1, hg2⟩ := and_e hg1
  obtain ⟨hb2, hg3⟩ := and_e hg2
  obtain ⟨w0, w1, w2, rfl⟩ : ∃ w0 w1 w2 : Value, args = #[w0, w1, w2] := by
    have hs : args.size = 3 := by simpa [Cond.value, given_1] using hg0
    obtain ⟨L⟩ := args
    match L, hs with
    | [w0, w1, w2], _ => exact ⟨w0, w1, w2, rfl⟩
  have hw := fun d (hd : d ∈ tables_1) => atoms_spec (ws := Jvm.Cond.code x code maxLocals ret :: tables_1) hat d (List.mem_cons_of_mem _ hd)
  have hfit : Fit s := fun {y c} hc i hi => by
    obtain ⟨ha, rfl⟩ := Array.getElem?_eq_some_iff.mp hc
    have q := List.all_eq_true.mp ((Array.all_eq_true_iff_forall_mem.mp hF) _ (Array.getElem_mem ha)) i (List.mem_range.mpr hi)
    simpa [Array.getElem?_eq_getElem hi] using q
  obtain ⟨i0, ea0⟩ := isL_v hb1
  obtain rfl : w0 = (.long i0) := Option.some.inj ea0
  obtain ⟨i1, ea1⟩ := is_v hb2
  obtain rfl : w1 = (.int i1) := Option.some.inj ea1
  obtain ⟨i2, ea2⟩ := is_v hg3
  obtain rfl : w2 = (.int i2) := Option.some.inj ea2
  obtain ⟨n, o, h1, h2, h3, _, L, rfl, ⟨rfl, N⟩, hq⟩ := rm0 l s _ hw i0 i1 i2 s.heap tables_1 p e ha hc hk s m _ below hf ((Spec.applies_iff_loose hf).mp happ).1 ⟨rfl, State.Warmed39.refl s, rfl⟩ trivial
  refine ⟨n, _, h1, h2, h3, hpost _ _ _ _ _ _ ⟨Cond.after_iff.mpr rfl, Cond.after_iff.mpr (eq_i res_at (Term.int_eval (1)) rfl), trivial⟩ ⟨hq.1, hq.2.1, (hq.2.2.sift fun y hy => Or.inr (N y hy)).mono (by decide) (by decide)⟩⟩
theorem main_1_1 : Claimed_1_1 := comes_1 fun _ _ _ _ _ _ h hF => ⟨h.1, hF⟩
theorem main_1_2 : Claimed_1_2 := comes_1 fun _ _ _ _ _ _ h hF => ⟨h.2.1, hF⟩

end Jvm.Pilot.@@N@@
namespace Jvm.Pilot.@@N@@
open Jvm Jvm.ClassFile Sem Op Lib Jvm.Free Jvm.Stand Jvm.Pilot.@@N@@.Jvm.D
/-! MADE BY PROGRAM (witnessworld.py) out of the Statement's table words and the real class files: 9 classes; the members and pool entries that the words name. The judged class is class 1, her method 1. -/
namespace start1
open Jvm.ClassFile
def u (s : String) : CpInfo := .utf8 (stringToUtf16 s)
/-- a pool by its gaps: so many unusable entries, then the entry; so many at the end -/
def gap : Nat → List CpInfo → List CpInfo
  | 0, r => r
  | n + 1, r => .unusable :: gap n r
def poolList (es : List (Nat × CpInfo)) (last : Nat) : List CpInfo := es.foldr (fun e r => gap e.1 (e.2 :: r)) (gap last [])
def pool (es : List (Nat × CpInfo)) (last : Nat) : Array CpInfo := ⟨poolList es last⟩
def fileOf (pool : Array CpInfo) (this : Nat) (attrs : Array Attribute := #[]) (ms : Array MethodInfo := #[]) (fl : Nat := 33) (sup : Nat := 0) (ifs : Array Nat := #[]) (fds : Array FieldInfo := #[]) : ClassFile where
  minorVersion := 0
  majorVersion := 65
  constantPool := pool
  accessFlags := fl
  thisClass := this
  superClass := sup
  interfaces := ifs
  fields := fds
  methods := ms
  attributes := attrs
def plain (name : String) (sup : Option ClassId) : Class where
  name := name
  kind := .ordinary
  loader := none
  accessFlags := 33
  super := sup
  interfaces := #[]
  cf := none
  fields := #[]
  methods := #[]
  instanceTypes := #[]
  staticTypes := #[]
  resolved := #[]
  callSites := []
  init := .initialized
  statics := none
  mirror := none

def pool0 : Array CpInfo := pool [(5, u "<init>"), (0, u "()V"), (1, .class_ 10), (1, u "java/lang/Object")] 113

def k0m0 : Method := { name := "<init>", desc := "()V", sig := { parameters := [], returnType := none }, accessFlags := 1, code := none }
/-- java/lang/Object -/
def k0 : Class := { plain "java/lang/Object" none with
  accessFlags := 33
  interfaces := #[]
  cf := some (fileOf pool0 8 #[] #[{ accessFlags := 1, nameIndex := 5, descriptorIndex := 6, attributes := #[] }] 33 0 #[] #[])
  fields := #[]
  methods := #[k0m0]
  instanceTypes := #[]
  staticTypes := #[]
  resolved := Array.replicate 124 none
  statics := none }

def pool1 : Array CpInfo := pool [(2, .class_ 4), (1, u "java/lang/Object"), (0, u "<init>"), (0, u "()V"), (2, .long 9223372036854775807), (1, .long 2147483647), (1, .long 9223372036854775808), (1, .methodref 16 17), (0, .class_ 18), (0, .nameAndType 19 20), (0, u "com/example/flowt/flowt/ledger/Ledger"), (0, u "replayHeapBytes"), (0, u "(J)J"), (0, .methodref 22 23), (0, .class_ 24), (0, .nameAndType 25 20), (0, u "com/example/flowt/flowt/ledger/LedgerReplayHeapBytesPinLaw"), (0, u "expected"), (0, .long 2048), (1, .long 2097152), (1, .long 4194304), (1, .long 8388608), (1, .long 16777216), (1, .long 33554432), (1, .methodref 22 39), (0, .nameAndType 40 20), (0, u "multipleFor"), (2, u "law"), (0, u "(JII)Z")] 3

def k1m0 : Method := { name := "<init>", desc := "()V", sig := { parameters := [], returnType := none }, accessFlags := 1, code := none }
def k1c1 : Code := { maxStack := 6, maxLocals := 7, code := code, exceptionTable := #[], attributes := #[] }
def k1m1 : Method := { name := "law", desc := "(JII)Z", sig := { parameters := [.long, .int, .int], returnType := some .boolean }, accessFlags := 9, code := some k1c1 }
def k1c2 : Code := { maxStack := 4, maxLocals := 6, code := method_3_code, exceptionTable := #[], attributes := #[] }
def k1m2 : Method := { name := "multipleFor", desc := "(J)J", sig := { parameters := [.long], returnType := some .long }, accessFlags := 10, code := some k1c2 }
def k1c3 : Code := { maxStack := 6, maxLocals := 8, code := method_4_code, exceptionTable := #[], attributes := #[] }
def k1m3 : Method := { name := "expected", desc := "(J)J", sig := { parameters := [.long], returnType := some .long }, accessFlags := 10, code := some k1c3 }
/-- com/example/flowt/flowt/ledger/LedgerReplayHeapBytesPinLaw -/
def k1 : Class := { plain "com/example/flowt/flowt/ledger/LedgerReplayHeapBytesPinLaw" (some 0) with
  accessFlags := 49
  interfaces := #[]
  cf := some (fileOf pool1 22 #[] #[{ accessFlags := 1, nameIndex := 5, descriptorIndex := 6, attributes := #[] }, { accessFlags := 9, nameIndex := 43, descriptorIndex := 44, attributes := #[] }, { accessFlags := 10, nameIndex := 40, descriptorIndex := 20, attributes := #[] }, { accessFlags := 10, nameIndex := 25, descriptorIndex := 20, attributes := #[] }] 49 2 #[] #[])
  fields := #[]
  methods := #[k1m0, k1m1, k1m2, k1m3]
  instanceTypes := #[]
  staticTypes := #[]
  resolved := Array.replicate 48 none
  statics := none }

def pool2 : Array CpInfo := pool [(3, .long 9223372036854775807), (2, .class_ 8), (1, u "com/example/flowt/flowt/ledger/Ledger"), (0, u "<init>"), (2, .class_ 14), (1, u "java/lang/Object"), (0, u "()V"), (5, u "transfers"), (0, u "Lcom/example/flowt/flowt/ledger/TransferTable;"), (7, u "book"), (0, u "Lcom/example/flowt/flowt/ledger/CommittedBook;"), (20, u "history"), (0, u "Lcom/example/flowt/flowt/ledger/AccountHistory;"), (14, u "accountsByTag"), (0, u "Lcom/example/flowt/flowt/ledger/TagIndex;"), (3, u "transfersByTag"), (2, u "processHeapBytes"), (0, u "J"), (3, u "(J)J"), (2, u "capacityBytes"), (2, u "replayHeapBytes"), (6, u "emptyLedgerBytes"), (2, .long 2097152), (1, .long 33554432), (1, .long 2048), (1, .long 2), (55, u "lastTimestamp"), (17, u "time"), (6, u "releaseUnrecorded"), (0, u "Z"), (127, u "historyChangesOwed"), (242, u "EMPTY_BYTES"), (1, u "RESERVED_BYTES"), (0, u "LEAST_HEAP_MULTIPLE_BYTES"), (0, u "LARGEST_REGION_BYTES"), (0, u "REGIONS_PER_HEAP")] 199

def k2m0 : Method := { name := "<init>", desc := "()V", sig := { parameters := [], returnType := none }, accessFlags := 1, code := none }
def k2c1 : Code := { maxStack := 6, maxLocals := 6, code := prog_36_method_4_code, exceptionTable := #[], attributes := #[] }
def k2m1 : Method := { name := "replayHeapBytes", desc := "(J)J", sig := { parameters := [.long], returnType := some .long }, accessFlags := 8, code := some k2c1 }
/-- com/example/flowt/flowt/ledger/Ledger -/
def k2 : Class := { plain "com/example/flowt/flowt/ledger/Ledger" (some 0) with
  accessFlags := 49
  interfaces := #[]
  cf := some (fileOf pool2 6 #[] #[{ accessFlags := 1, nameIndex := 9, descriptorIndex := 15, attributes := #[] }, { accessFlags := 8, nameIndex := 87, descriptorIndex := 81, attributes := #[] }] 49 12 #[] #[{ accessFlags := 26, nameIndex := 556, descriptorIndex := 77, attributes := #[] }, { accessFlags := 26, nameIndex := 558, descriptorIndex := 77, attributes := #[] }, { accessFlags := 26, nameIndex := 559, descriptorIndex := 77, attributes := #[] }, { accessFlags := 26, nameIndex := 560, descriptorIndex := 77, attributes := #[] }, { accessFlags := 26, nameIndex := 561, descriptorIndex := 77, attributes := #[] }, { accessFlags := 18, nameIndex := 76, descriptorIndex := 77, attributes := #[] }, { accessFlags := 18, nameIndex := 84, descriptorIndex := 77, attributes := #[] }, { accessFlags := 18, nameIndex := 87, descriptorIndex := 77, attributes := #[] }, { accessFlags := 18, nameIndex := 94, descriptorIndex := 77, attributes := #[] }, { accessFlags := 18, nameIndex := 21, descriptorIndex := 22, attributes := #[] }, { accessFlags := 18, nameIndex := 30, descriptorIndex := 31, attributes := #[] }, { accessFlags := 18, nameIndex := 52, descriptorIndex := 53, attributes := #[] }, { accessFlags := 18, nameIndex := 68, descriptorIndex := 69, attributes := #[] }, { accessFlags := 18, nameIndex := 73, descriptorIndex := 69, attributes := #[] }, { accessFlags := 2, nameIndex := 159, descriptorIndex := 77, attributes := #[] }, { accessFlags := 2, nameIndex := 177, descriptorIndex := 77, attributes := #[] }, { accessFlags := 2, nameIndex := 184, descriptorIndex := 185, attributes := #[] }, { accessFlags := 2, nameIndex := 313, descriptorIndex := 77, attributes := #[] }])
  fields := #[{ name := "EMPTY_BYTES", type := .long, accessFlags := 26, slot := 0, constantValue := 0 }, { name := "RESERVED_BYTES", type := .long, accessFlags := 26, slot := 1, constantValue := 0 }, { name := "LEAST_HEAP_MULTIPLE_BYTES", type := .long, accessFlags := 26, slot := 2, constantValue := 0 }, { name := "LARGEST_REGION_BYTES", type := .long, accessFlags := 26, slot := 3, constantValue := 0 }, { name := "REGIONS_PER_HEAP", type := .long, accessFlags := 26, slot := 4, constantValue := 0 }, { name := "processHeapBytes", type := .long, accessFlags := 18, slot := 0, constantValue := 0 }, { name := "capacityBytes", type := .long, accessFlags := 18, slot := 1, constantValue := 0 }, { name := "replayHeapBytes", type := .long, accessFlags := 18, slot := 2, constantValue := 0 }, { name := "emptyLedgerBytes", type := .long, accessFlags := 18, slot := 3, constantValue := 0 }, { name := "transfers", type := (.object "com/example/flowt/flowt/ledger/TransferTable"), accessFlags := 18, slot := 4, constantValue := 0 }, { name := "book", type := (.object "com/example/flowt/flowt/ledger/CommittedBook"), accessFlags := 18, slot := 5, constantValue := 0 }, { name := "history", type := (.object "com/example/flowt/flowt/ledger/AccountHistory"), accessFlags := 18, slot := 6, constantValue := 0 }, { name := "accountsByTag", type := (.object "com/example/flowt/flowt/ledger/TagIndex"), accessFlags := 18, slot := 7, constantValue := 0 }, { name := "transfersByTag", type := (.object "com/example/flowt/flowt/ledger/TagIndex"), accessFlags := 18, slot := 8, constantValue := 0 }, { name := "lastTimestamp", type := .long, accessFlags := 2, slot := 9, constantValue := 0 }, { name := "time", type := .long, accessFlags := 2, slot := 10, constantValue := 0 }, { name := "releaseUnrecorded", type := .boolean, accessFlags := 2, slot := 11, constantValue := 0 }, { name := "historyChangesOwed", type := .long, accessFlags := 2, slot := 12, constantValue := 0 }]
  methods := #[k2m0, k2m1]
  instanceTypes := #[.long, .long, .long, .long, (.object "com/example/flowt/flowt/ledger/TransferTable"), (.object "com/example/flowt/flowt/ledger/CommittedBook"), (.object "com/example/flowt/flowt/ledger/AccountHistory"), (.object "com/example/flowt/flowt/ledger/TagIndex"), (.object "com/example/flowt/flowt/ledger/TagIndex"), .long, .long, .boolean, .long]
  staticTypes := #[.long, .long, .long, .long, .long]
  resolved := Array.replicate 761 none
  statics := none }

def pool3 : Array CpInfo := pool [(1, u "java/lang/Cloneable"), (0, .class_ 1), (0, u "java/lang/Object"), (0, .class_ 3)] 3

/-- java/lang/Cloneable -/
def k3 : Class := { plain "java/lang/Cloneable" (some 0) with
  accessFlags := 1537
  interfaces := #[]
  cf := some (fileOf pool3 2 #[] #[] 1537 4 #[] #[])
  fields := #[]
  methods := #[]
  instanceTypes := #[]
  staticTypes := #[]
  resolved := Array.replicate 8 none
  statics := none }

def pool4 : Array CpInfo := pool [(1, u "java/io/Serializable"), (0, .class_ 1), (0, u "java/lang/Object"), (0, .class_ 3)] 3

/-- java/io/Serializable -/
def k4 : Class := { plain "java/io/Serializable" (some 0) with
  accessFlags := 1537
  interfaces := #[]
  cf := some (fileOf pool4 2 #[] #[] 1537 4 #[] #[])
  fields := #[]
  methods := #[]
  instanceTypes := #[]
  staticTypes := #[]
  resolved := Array.replicate 8 none
  statics := none }

/-- the primitive byte -/
def k5 : Class := { plain "byte" none with kind := .primitive 'B', accessFlags := 0x411 }
/-- [B -/
def k6 : Class := { plain "[B" (some 0) with kind := .array 5 .byte, interfaces := #[3, 4], accessFlags := 1041 }

/-- the primitive int -/
def k7 : Class := { plain "int" none with kind := .primitive 'I', accessFlags := 0x411 }
/-- [I -/
def k8 : Class := { plain "[I" (some 0) with kind := .array 7 .int, interfaces := #[3, 4], accessFlags := 1041 }

def heap : Heap := #[]
def classes : Array Class := #[k0, k1, k2, k3, k4, k5, k6, k7, k8]
def interned : List (Array UInt16 × Addr) := []
def slotsUsed : Nat := 0
def theMethod : MethodId := ⟨1, 1⟩
def args0 : Array Value := #[.long 5, .int 3, .int 7]
def aboutOver (below : List Frame) : State where
  vm := { classes := classes, interned := interned.toArray }
  heap := heap
  slotsUsed := slotsUsed
  threads := #[{ frames := .invoking theMethod args0 :: below }]
def below0 : List Frame := [.native { method := ⟨0, 0⟩, args := #[] }]
def about1 : State := aboutOver below0
def p0 : Program := .bare "" "" ""
def e0 : Env := launch0.env 0 0 0
theorem w_frames : about1.frames = Frame.invoking theMethod args0 :: below0 := rfl
set_option maxRecDepth 65536 in
theorem w_args : argsFit about1.vm theMethod args0 = true := by decide +kernel
set_option maxRecDepth 65536 in
theorem w_heap : heapFits about1 = true := by decide +kernel
set_option maxRecDepth 65536 in
theorem w_runnable : about1.curStatus? = some .runnable := by decide +kernel
set_option maxRecDepth 65536 in
theorem w_alone : about1.alone = true := by decide +kernel
set_option maxRecDepth 65536 in
theorem w_named : about1.methodNamed? x = some theMethod := by decide +kernel
set_option maxRecDepth 65536 in
theorem w_hears : about1.hears theMethod below0 = true := by decide +kernel
set_option maxRecDepth 65536 in
theorem w_ripe : about1.ripe theMethod args0 below0 = true := by decide +kernel
theorem w_running : about1.status = .running := rfl
set_option maxRecDepth 65536 in
theorem w_room : about1.hasRoom e0.platform room_1 = true :=
  launch0.hasRoom_least _ room_1 (by decide +kernel) (by decide +kernel) (by decide +kernel) (by decide +kernel) (by decide +kernel) (by decide +kernel)
theorem allAtoms_all (ts : List Jvm.Cond) (a : Array Jvm.Value) (st : Jvm.State) : (allAtoms ts).before a st = ts.all (fun c => c.before a st) := by
  induction ts with
  | nil => rfl
  | cons c t ih =>
    show (Jvm.Cond.and c (allAtoms t)).before a st = _
    rw [Jvm.Cond.before_and, ih, List.all_cons]
def words1 : List Jvm.Cond := Jvm.Cond.code x code maxLocals ret :: tables_1
/-- a 'code' word, met by the world's own term for the bytes: nothing is compared byte by byte -/
theorem code_word {y : MethodName} {bytes : ByteArray} {mx : Nat} {rt : Option FieldType} {a : Array Value} {s : State} {m : MethodId} {meth : Method} {c : Code} (h1 : s.methodNamed? y = some m) (h2 : s.vm.method? m = some meth) (h3 : meth.code = some c) (h4 : c.code = bytes)
    (h5 : (c.maxLocals == mx && c.exceptionTable.isEmpty && decide (c.maxStack ≤ mostOperands) && decide (meth.sig.returnType = rt) && !meth.locks && decide (parseMethodDescriptor y.desc = some meth.sig)) = true) : (Jvm.Cond.code y bytes mx rt).before a s = true := by
  simp only [Bool.and_eq_true, beq_iff_eq, Bool.not_eq_true', decide_eq_true_eq] at h5
  obtain ⟨⟨⟨⟨⟨g1, g2⟩, g3⟩, g4⟩, g5⟩, g6⟩ := h5
  simp [Cond.before, Cond.holds, Cond.value, h1, h2, h3, h4, g1, g2, g3, g4, g5, g6]
def isCode : Jvm.Cond → Bool
  | .code _ _ _ _ => true
  | _ => false
theorem all_split {L : List Jvm.Cond} {P : Jvm.Cond → Bool} (h1 : L.all (fun c => isCode c || P c) = true) (h2 : ∀ c ∈ L.filter isCode, P c = true) : L.all P = true := by
  refine List.all_eq_true.mpr fun c hc => ?_
  have h := List.all_eq_true.mp h1 c hc
  rcases Bool.eq_false_or_eq_true (isCode c) with hi | hi
  · exact h2 c (List.mem_filter.mpr ⟨hc, hi⟩)
  · simpa [hi] using h
set_option maxRecDepth 65536 in
theorem w_c0 : (Jvm.Cond.code x code maxLocals ret).before args0 about1 = true := code_word (m := ⟨1, 1⟩) (meth := k1m1) (c := k1c1) (by decide +kernel) rfl rfl rfl (by decide +kernel)
set_option maxRecDepth 65536 in
theorem w_c1 : (Jvm.Cond.code ({ cls := "com/example/flowt/flowt/ledger/Ledger", name := "replayHeapBytes", desc := "(J)J" } : Jvm.MethodName) prog_36_method_4_code (6 : Nat) (Option.some Jvm.ClassFile.FieldType.long)).before args0 about1 = true := code_word (m := ⟨2, 1⟩) (meth := k2m1) (c := k2c1) (by decide +kernel) rfl rfl rfl (by decide +kernel)
set_option maxRecDepth 65536 in
theorem w_c2 : (Jvm.Cond.code ({ cls := "com/example/flowt/flowt/ledger/LedgerReplayHeapBytesPinLaw", name := "expected", desc := "(J)J" } : Jvm.MethodName) method_4_code (8 : Nat) (Option.some Jvm.ClassFile.FieldType.long)).before args0 about1 = true := code_word (m := ⟨1, 3⟩) (meth := k1m3) (c := k1c3) (by decide +kernel) rfl rfl rfl (by decide +kernel)
set_option maxRecDepth 65536 in
theorem w_c3 : (Jvm.Cond.code ({ cls := "com/example/flowt/flowt/ledger/LedgerReplayHeapBytesPinLaw", name := "multipleFor", desc := "(J)J" } : Jvm.MethodName) method_3_code (6 : Nat) (Option.some Jvm.ClassFile.FieldType.long)).before args0 about1 = true := code_word (m := ⟨1, 2⟩) (meth := k1m2) (c := k1c2) (by decide +kernel) rfl rfl rfl (by decide +kernel)
def codes1 : List Jvm.Cond := [Jvm.Cond.code x code maxLocals ret, Jvm.Cond.code ({ cls := "com/example/flowt/flowt/ledger/Ledger", name := "replayHeapBytes", desc := "(J)J" } : Jvm.MethodName) prog_36_method_4_code (6 : Nat) (Option.some Jvm.ClassFile.FieldType.long), Jvm.Cond.code ({ cls := "com/example/flowt/flowt/ledger/LedgerReplayHeapBytesPinLaw", name := "expected", desc := "(J)J" } : Jvm.MethodName) method_4_code (8 : Nat) (Option.some Jvm.ClassFile.FieldType.long), Jvm.Cond.code ({ cls := "com/example/flowt/flowt/ledger/LedgerReplayHeapBytesPinLaw", name := "multipleFor", desc := "(J)J" } : Jvm.MethodName) method_3_code (6 : Nat) (Option.some Jvm.ClassFile.FieldType.long)]
set_option maxRecDepth 65536 in
theorem codes_eq : words1.filter isCode = codes1 := rfl
theorem w_codes : ∀ c ∈ words1.filter isCode, c.before args0 about1 = true := by
  rw [codes_eq]
  intro c hc
  simp only [codes1, List.mem_cons, List.not_mem_nil, or_false] at hc
  rcases hc with rfl | rfl | rfl | rfl
  · exact w_c0
  · exact w_c1
  · exact w_c2
  · exact w_c3
set_option maxRecDepth 65536 in
theorem w_t1 : (words1.take 24).all (fun c => isCode c || c.before args0 about1) = true := by decide +kernel
set_option maxRecDepth 65536 in
theorem w_t2 : (words1.drop 24).all (fun c => isCode c || c.before args0 about1) = true := by decide +kernel
theorem w_tables : (allAtoms (Jvm.Cond.code x code maxLocals ret :: tables_1)).before args0 about1 = true := by
  rw [allAtoms_all]
  show words1.all (fun c => c.before args0 about1) = true
  refine all_split ?_ w_codes
  rw [← List.take_append_drop 24 words1, List.all_append, w_t1, w_t2]
  rfl
set_option maxRecDepth 65536 in
theorem w_case : (Jvm.Cond.and given_1 narrow_1).before args0 about1 = true := by decide +kernel
theorem w_applies : (headSpec (Jvm.Cond.code x code maxLocals ret :: tables_1) room_1).applies x e0.platform about1 = true :=
  (Spec.applies_iff w_frames).mpr ⟨w_running, w_runnable, w_alone, w_named, w_hears, w_ripe, w_room, w_tables⟩
theorem atStart : AtStart classFile x code maxLocals ret World_1 tables_1 room_1 Calls_1 rest_1 Pre_1 launch0 p0 e0 about1 theMethod args0 below0 :=
  ⟨lists_1, trivial, launch0.admits_env _ _ _, launch0.least_env, fairChoices_fair.cas, fairChoices_fair.clock, w_frames, w_args, w_heap, w_applies, trivial, trivial, w_case⟩
end start1
theorem witness_1 : WitnessClaimed_1 := ⟨start1.p0, start1.e0, start1.about1, start1.theMethod, start1.args0, start1.below0, start1.atStart⟩
end Jvm.Pilot.@@N@@
